import JvmDerived
import JvmDerived.Pilot.@@N@@Statement
import JvmDerived.Pilot.@@N@@Code
set_option linter.unusedVariables false
set_option linter.unusedSimpArgs false
namespace Jvm.RoadKit
open Sem ClassFile Op Lib Jvm.Stand Jvm.Free Jvm.LawKit
section New
variable {p : Program} {l : Launch} {e : Env} {R : Room} {s : State} {m : MethodId} {args : Array Value} {below : List Frame} {meth : Method} {c : Code} {T : State} {locs : List Loc} {cells slots : Nat}
theorem retI (X : Stand p l e R s m args below meth c T locs cells slots) (hx : p.tables.exec = Jvm.exec) {pc : Nat} {Ls : Array Slot} {z : Int32} {rest : List Value} (hret : meth.sig.returnType = some .int) (hd : decode c.code pc = .ok (.ireturn, 1)) {fs : List Frame}
    (hl : ∀ (f : JFrame) (acts : List Action), f.method = m → f.locked = none → f.entered = [] → (doReturn e (T.setTop f) acts (some (.int z))).1 = T.setFrames fs) : Steps p.tables e below (T.setTop (mkF m pc Ls (.int z :: rest))) (T.setFrames fs) := by
  have hm' : T.vm.method? m = some meth := X.method'
  have hn : narrow .int (.int z) = .int z := rfl
  show Steps p.tables e below (T.setTop { method := m, pc := pc, locals := Ls, stack := _ :: rest, locked := none }) _
  jvm_step X.here [X.here.top, hx, hd, hm', hret, hn]
  first | (intro acts; rw [hl _ acts rfl rfl rfl]) | rw [hl _ _ rfl rfl rfl]
  exact Steps.refl _
end New
end Jvm.RoadKit
namespace Jvm.Pilot.@@N@@
open Jvm Jvm.ClassFile Sem Op Lib Jvm.Free Jvm.Stand Jvm.LawKit Jvm.RoadKit Bundle Jvm.Pilot.@@N@@.Jvm.D
theorem own_go {tb : Tables} {e : Env} {below : List Frame} {A B : State} {R : State → Outcome → Prop} (h : ∀ t, Steps tb e below B t → Steps tb e below A t) (k : ∃ s₂ o, Steps tb e below B s₂ ∧ R s₂ o) : ∃ s₂ o, Steps tb e below A s₂ ∧ R s₂ o := by
  obtain ⟨s₂, o, h1, h2⟩ := k
  exact ⟨s₂, o, h _ h1, h2⟩
theorem own_pd0 : parseMethodDescriptor "()V" = some ⟨[], none⟩ := by decide +kernel
theorem own_pd1 : parseMethodDescriptor "(Ljava/time/Instant;Ljava/lang/String;)V" = some ⟨[(.object "java/time/Instant"), (.object "java/lang/String")], none⟩ := by decide +kernel
theorem own_pd2 : parseMethodDescriptor "(Ljava/time/Instant;ZLjava/lang/String;)V" = some ⟨[(.object "java/time/Instant"), .boolean, (.object "java/lang/String")], none⟩ := by decide +kernel
theorem own_pd3 : parseMethodDescriptor "()Z" = some ⟨[], some .boolean⟩ := by decide +kernel
theorem own_pd4 : parseMethodDescriptor "(Lcom/example/sira/sira/wire/DeliveryReceipt;)V" = some ⟨[(.object "com/example/sira/sira/wire/DeliveryReceipt")], none⟩ := by decide +kernel
theorem own_pd5 : parseMethodDescriptor "(Lcom/example/sira/sira/wire/CommitmentReceipt;)V" = some ⟨[(.object "com/example/sira/sira/wire/CommitmentReceipt")], none⟩ := by decide +kernel
theorem own_wS {Z : State} {a0 : Array Value} (hw : ∀ d ∈ tables_1, d.before a0 Z = true) : ∀ a ∈ Bundle.stringAtoms, a.before a0 Z = true := fun d hd => hw d ((by decide +kernel : ∀ d ∈ Bundle.stringAtoms, d ∈ tables_1) d hd)
theorem own_EW {Z : State} {a0 : Array Value} : EW Z a0 [] := fun p hp => nomatch hp
theorem own_CHv {Z : State} {vm : Vm} {h : Heap} : CHv Z [] vm h := fun p hp => nomatch hp
theorem pn_1 : plainName "com/example/sira/sira/wire/MessageProperties" = true := by first | (simp [plainName, overriddenIn]; done) | decide +kernel
theorem d1_0 : decode prog_44_method_1_code 0 = .ok (.aload_n 0, 1) := by decide +kernel
theorem d1_1 : decode prog_44_method_1_code 1 = .ok (.invokespecial 3, 3) := by decide +kernel
theorem d1_4 : decode prog_44_method_1_code 4 = .ok (.aload_n 0, 1) := by decide +kernel
theorem d1_5 : decode prog_44_method_1_code 5 = .ok (.ldc 9, 2) := by decide +kernel
theorem d1_7 : decode prog_44_method_1_code 7 = .ok (.putfield 11, 3) := by decide +kernel
theorem d1_10 : decode prog_44_method_1_code 10 = .ok (.aload_n 0, 1) := by decide +kernel
theorem d1_11 : decode prog_44_method_1_code 11 = .ok (.ldc 15, 2) := by decide +kernel
theorem d1_13 : decode prog_44_method_1_code 13 = .ok (.putfield 17, 3) := by decide +kernel
theorem d1_16 : decode prog_44_method_1_code 16 = .ok (.aload_n 0, 1) := by decide +kernel
theorem d1_17 : decode prog_44_method_1_code 17 = .ok (.iconst 3, 1) := by decide +kernel
theorem d1_18 : decode prog_44_method_1_code 18 = .ok (.putfield 20, 3) := by decide +kernel
theorem d1_21 : decode prog_44_method_1_code 21 = .ok (.aload_n 0, 1) := by decide +kernel
theorem d1_22 : decode prog_44_method_1_code 22 = .ok (.ldc 24, 2) := by decide +kernel
theorem d1_24 : decode prog_44_method_1_code 24 = .ok (.putfield 26, 3) := by decide +kernel
theorem d1_27 : decode prog_44_method_1_code 27 = .ok (.return_, 1) := by decide +kernel
theorem ef_1 (m : MethodId) (x0 : Addr) : entryFrame m #[(.ref x0)] 1 = mkF m 0 #[.val (.ref x0)] [] := by first | (simp [entryFrame, mkF, argsToLocals, Value.category]; done) | rfl
def Q1 (Z : State) (a1 : Addr) (h0 : Heap) (n0 : Nat) (v : Option Value) (h : Heap) (L : List Loc) : Prop := v = none ∧ Fr n0 L ∧ Keep h0 h [a1] ∧ Exa Z h a1 "com/example/sira/sira/wire/MessageProperties" ∧ Fld Z h a1 "com/example/sira/sira/wire/MessageProperties" "streamReceipt" "Lcom/example/sira/sira/wire/StreamReceipt;" .null ∧ Fld Z h a1 "com/example/sira/sira/wire/MessageProperties" "deliveryReceipt" "Lcom/example/sira/sira/wire/DeliveryReceipt;" .null ∧ Fld Z h a1 "com/example/sira/sira/wire/MessageProperties" "commitmentReceipt" "Lcom/example/sira/sira/wire/CommitmentReceipt;" .null
set_option maxRecDepth 65536 in
set_option maxHeartbeats 40000000 in
theorem rm1 (l : Launch) (Z : State) (a0 : Array Value) (hw : ∀ d ∈ tables_1, d.before a0 Z = true) (ws : List Jvm.Cond) (a1 : Addr) (h0 : Heap) (n0 : Nat) (Z0 : n0 ≤ h0.size) (E_a1 : Exa Z h0 a1 "com/example/sira/sira/wire/MessageProperties") (g_a1 : n0 ≤ a1) (F_id : Fld Z h0 a1 "com/example/sira/sira/wire/MessageProperties" "id" "Ljava/lang/String;" .null) (F_label : Fld Z h0 a1 "com/example/sira/sira/wire/MessageProperties" "label" "Ljava/lang/String;" .null) (F_priority : Fld Z h0 a1 "com/example/sira/sira/wire/MessageProperties" "priority" "I" (.int (0 : Int32))) (F_sourceQm : Fld Z h0 a1 "com/example/sira/sira/wire/MessageProperties" "sourceQm" "Ljava/lang/String;" .null) (F_streamReceipt : Fld Z h0 a1 "com/example/sira/sira/wire/MessageProperties" "streamReceipt" "Lcom/example/sira/sira/wire/StreamReceipt;" .null) (F_deliveryReceipt : Fld Z h0 a1 "com/example/sira/sira/wire/MessageProperties" "deliveryReceipt" "Lcom/example/sira/sira/wire/DeliveryReceipt;" .null) (F_commitmentReceipt : Fld Z h0 a1 "com/example/sira/sira/wire/MessageProperties" "commitmentReceipt" "Lcom/example/sira/sira/wire/CommitmentReceipt;" .null) :
    MetFree l (⟨"com/example/sira/sira/wire/MessageProperties", "<init>", "()V"⟩ : MethodName) (head1 (Jvm.Cond.code (⟨"com/example/sira/sira/wire/MessageProperties", "<init>", "()V"⟩ : MethodName) prog_44_method_1_code 1 none :: ws) ({ frames := 1, cells := 6, slots := 328, locals := 12 } : Room)) (fun a U => a = #[(.ref a1)] ∧ Z.Warmed39 U.vm ∧ U.heap = h0) (fun _ _ _ _ _ => True) (fun _ U o U' => ∃ v L, o = .returned v ∧ Q1 Z a1 h0 n0 v U'.heap L ∧ ReturnedEndW U o U' L ({ frames := 1, cells := 6, slots := 328, locals := 12 } : Room).cells ({ frames := 1, cells := 6, slots := 328, locals := 12 } : Room).slots) := by
  refine MetFree.of_bodySF (plainFor_of_name pn_1) hisR ?_
  intro p e s m args below meth c s₁ Bd hml0 hP hK
  obtain ⟨rfl, hZ, hh⟩ := hP
  have hx := Bd.exec
  have hby := Bd.bytes
  have hml : c.maxLocals = 1 := hml0
  have hown : s.vm.findClass "com/example/sira/sira/wire/MessageProperties" = some m.cls := findClass_of_methodNamed Bd.named
  have hnm := (name_of_methodNamed Bd.named Bd.method).1
  have X0 : Stand p l e ({ frames := 1, cells := 6, slots := 328, locals := 12 } : Room) s m #[(.ref a1)] below meth c s₁ [] 0 0 := Stand.of_body Bd
  have e0 : s₁.heap = h0 := by rw [← hh, Bd.state]; rfl
  have N0 := Fr.nil n0
  have X0 : Stand p l e ({ frames := 1, cells := 6, slots := 328, locals := 12 } : Room) (s.setVm s.vm) m #[(.ref a1)] below meth c s₁ [] 0 0 := X0
  have hZ : Z.Warmed39 (s.setVm s.vm).vm := hZ
  have hown : (s.setVm s.vm).vm.findClass "com/example/sira/sira/wire/MessageProperties" = some m.cls := hown
  have hS : s.Since s.vm 0 := (State.WarmedH.refl s).since 0
  refine own_go (B := s₁.setTop (mkF m 0 #[.val (.ref a1)] [])) (fun t k => castTop (ef_1 m a1) k) ?_
  refine own_go (B := s₁.setTop (mkF m 1 #[.val (.ref a1)] [(.ref a1)])) (fun t k => ?_) ?_
  · show Steps p.tables e below (s₁.setTop (mkF m 0 #[.val (.ref a1)] [])) _
    refine XS.aloadN X0.here hx rfl (hb hby d1_0) rfl rfl ?_
    exact k
  obtain ⟨T1, X1, e1, st1⟩ := initO X0 hx hZ hown (hw _ (List.mem_of_getElem? (i := 6) rfl)) (hw _ (List.mem_of_getElem? (i := 7) rfl)) (hw _ (List.mem_of_getElem? (i := 8) rfl)) e0 (g := (mkF m 1 #[.val (.ref a1)] [(.ref a1)])) rfl (by rw [hml]; rfl) rfl (hb hby d1_1) (by decide) (W := 0) (by show 2 * 0 + _ ≤ _; exact Nat.le_of_eq rfl) (by decide)
  refine own_go (B := T1.setTop (mkF m 4 #[.val (.ref a1)] [])) (fun t k => st1 _ k) ?_
  refine own_go (B := T1.setTop (mkF m 5 #[.val (.ref a1)] [(.ref a1)])) (fun t k => ?_) ?_
  · show Steps p.tables e below (T1.setTop (mkF m 4 #[.val (.ref a1)] [])) _
    refine XS.aloadN X1.here hx rfl (hb hby d1_4) rfl rfl ?_
    exact k
  obtain ⟨as2, T2, h2, kk2, X2, e2, E2, hS, hk2, hZ, hown, hC2, hL2, st2⟩ := ldcOH (EL := []) X1 hx hZ hown (hw _ (List.mem_of_getElem? (i := 9) rfl)) (own_wS hw) e1 hS (Nat.zero_le _) own_EW own_CHv (g := (mkF m 5 #[.val (.ref a1)] [(.ref a1)])) rfl (hb hby d1_5) (n := 172) (by decide) (by decide) (by decide) (by decide)
  have c2_E_a1 := E_a1.ext E2
  have c2_F_a1_id := F_id.ext E2
  have c2_F_a1_label := F_label.ext E2
  have c2_F_a1_priority := F_priority.ext E2
  have c2_F_a1_sourceQm := F_sourceQm.ext E2
  have c2_F_a1_streamReceipt := F_streamReceipt.ext E2
  have c2_F_a1_deliveryReceipt := F_deliveryReceipt.ext E2
  have c2_F_a1_commitmentReceipt := F_commitmentReceipt.ext E2
  have K2 := (Keep.refl h0 [a1]).ext E2
  refine own_go (B := T2.setTop (mkF m 7 #[.val (.ref a1)] [(.ref as2), (.ref a1)])) (fun t k => st2 _ k) ?_
  obtain ⟨T3, h3, X3, e3, W3, st3⟩ := putF X2 hx hZ hown (host := "") (Or.inl (hw _ (List.mem_of_getElem? (i := 17) rfl))) Via.refl e2 c2_F_a1_id c2_E_a1 (Or.inl (hw _ (List.mem_of_getElem? (i := 18) rfl))) (hw _ (List.mem_of_getElem? (i := 1) rfl)) (ty := (.object "java/lang/String")) (by decide) rfl rfl (g := (mkF m 7 #[.val (.ref a1)] [(.ref as2), (.ref a1)])) rfl rfl (hb hby d1_7)
  have c3_E_a1 := c2_E_a1.wr W3
  have c3_F_a1_id := c2_F_a1_id.same W3
  have c3_F_a1_label := c2_F_a1_label.other W3 (Or.inr (slot_ne (Or.inl (hw _ (List.mem_of_getElem? (i := 21) rfl))) (Or.inl (hw _ (List.mem_of_getElem? (i := 18) rfl))) (by decide) (t := (.object "java/lang/String")) (t' := (.object "java/lang/String")) (by decide) (by decide)))
  have c3_F_a1_priority := c2_F_a1_priority.other W3 (Or.inr (slot_ne (Or.inl (hw _ (List.mem_of_getElem? (i := 23) rfl))) (Or.inl (hw _ (List.mem_of_getElem? (i := 18) rfl))) (by decide) (t := .int) (t' := (.object "java/lang/String")) (by decide) (by decide)))
  have c3_F_a1_sourceQm := c2_F_a1_sourceQm.other W3 (Or.inr (slot_ne (Or.inl (hw _ (List.mem_of_getElem? (i := 26) rfl))) (Or.inl (hw _ (List.mem_of_getElem? (i := 18) rfl))) (by decide) (t := (.object "java/lang/String")) (t' := (.object "java/lang/String")) (by decide) (by decide)))
  have c3_F_a1_streamReceipt := c2_F_a1_streamReceipt.other W3 (Or.inr (slot_ne (Or.inl (hw _ (List.mem_of_getElem? (i := 57) rfl))) (Or.inl (hw _ (List.mem_of_getElem? (i := 18) rfl))) (by decide) (t := (.object "com/example/sira/sira/wire/StreamReceipt")) (t' := (.object "java/lang/String")) (by decide) (by decide)))
  have c3_F_a1_deliveryReceipt := c2_F_a1_deliveryReceipt.other W3 (Or.inr (slot_ne (Or.inl (hw _ (List.mem_of_getElem? (i := 59) rfl))) (Or.inl (hw _ (List.mem_of_getElem? (i := 18) rfl))) (by decide) (t := (.object "com/example/sira/sira/wire/DeliveryReceipt")) (t' := (.object "java/lang/String")) (by decide) (by decide)))
  have c3_F_a1_commitmentReceipt := c2_F_a1_commitmentReceipt.other W3 (Or.inr (slot_ne (Or.inl (hw _ (List.mem_of_getElem? (i := 61) rfl))) (Or.inl (hw _ (List.mem_of_getElem? (i := 18) rfl))) (by decide) (t := (.object "com/example/sira/sira/wire/CommitmentReceipt")) (t' := (.object "java/lang/String")) (by decide) (by decide)))
  have K3 := K2.wr W3 (Or.inl (List.mem_of_getElem? (i := 0) rfl))
  have N3 := Fr.snoc X3 N0 g_a1
  refine own_go (B := T3.setTop (mkF m 10 #[.val (.ref a1)] [])) (fun t k => st3 _ k) ?_
  refine own_go (B := T3.setTop (mkF m 11 #[.val (.ref a1)] [(.ref a1)])) (fun t k => ?_) ?_
  · show Steps p.tables e below (T3.setTop (mkF m 10 #[.val (.ref a1)] [])) _
    refine XS.aloadN X3.here hx rfl (hb hby d1_10) rfl rfl ?_
    exact k
  obtain ⟨as4, T4, h4, kk4, X4, e4, E4, hS, hk4, hZ, hown, hC4, hL4, st4⟩ := ldcOH (EL := []) X3 hx hZ hown (hw _ (List.mem_of_getElem? (i := 19) rfl)) (own_wS hw) e3 hS (Nat.le_trans hk2 (Keep.of_wr W3).1) own_EW own_CHv (g := (mkF m 11 #[.val (.ref a1)] [(.ref a1)])) rfl (hb hby d1_11) (n := 0) (by decide) (by decide) (by decide) (by decide)
  have c4_E_a1 := c3_E_a1.ext E4
  have c4_F_a1_id := c3_F_a1_id.ext E4
  have c4_F_a1_label := c3_F_a1_label.ext E4
  have c4_F_a1_priority := c3_F_a1_priority.ext E4
  have c4_F_a1_sourceQm := c3_F_a1_sourceQm.ext E4
  have c4_F_a1_streamReceipt := c3_F_a1_streamReceipt.ext E4
  have c4_F_a1_deliveryReceipt := c3_F_a1_deliveryReceipt.ext E4
  have c4_F_a1_commitmentReceipt := c3_F_a1_commitmentReceipt.ext E4
  have K4 := K3.ext E4
  refine own_go (B := T4.setTop (mkF m 13 #[.val (.ref a1)] [(.ref as4), (.ref a1)])) (fun t k => st4 _ k) ?_
  obtain ⟨T5, h5, X5, e5, W5, st5⟩ := putF X4 hx hZ hown (host := "") (Or.inl (hw _ (List.mem_of_getElem? (i := 20) rfl))) Via.refl e4 c4_F_a1_label c4_E_a1 (Or.inl (hw _ (List.mem_of_getElem? (i := 21) rfl))) (hw _ (List.mem_of_getElem? (i := 1) rfl)) (ty := (.object "java/lang/String")) (by decide) rfl rfl (g := (mkF m 13 #[.val (.ref a1)] [(.ref as4), (.ref a1)])) rfl rfl (hb hby d1_13)
  have c5_E_a1 := c4_E_a1.wr W5
  have c5_F_a1_id := c4_F_a1_id.other W5 (Or.inr (slot_ne (Or.inl (hw _ (List.mem_of_getElem? (i := 18) rfl))) (Or.inl (hw _ (List.mem_of_getElem? (i := 21) rfl))) (by decide) (t := (.object "java/lang/String")) (t' := (.object "java/lang/String")) (by decide) (by decide)))
  have c5_F_a1_label := c4_F_a1_label.same W5
  have c5_F_a1_priority := c4_F_a1_priority.other W5 (Or.inr (slot_ne (Or.inl (hw _ (List.mem_of_getElem? (i := 23) rfl))) (Or.inl (hw _ (List.mem_of_getElem? (i := 21) rfl))) (by decide) (t := .int) (t' := (.object "java/lang/String")) (by decide) (by decide)))
  have c5_F_a1_sourceQm := c4_F_a1_sourceQm.other W5 (Or.inr (slot_ne (Or.inl (hw _ (List.mem_of_getElem? (i := 26) rfl))) (Or.inl (hw _ (List.mem_of_getElem? (i := 21) rfl))) (by decide) (t := (.object "java/lang/String")) (t' := (.object "java/lang/String")) (by decide) (by decide)))
  have c5_F_a1_streamReceipt := c4_F_a1_streamReceipt.other W5 (Or.inr (slot_ne (Or.inl (hw _ (List.mem_of_getElem? (i := 57) rfl))) (Or.inl (hw _ (List.mem_of_getElem? (i := 21) rfl))) (by decide) (t := (.object "com/example/sira/sira/wire/StreamReceipt")) (t' := (.object "java/lang/String")) (by decide) (by decide)))
  have c5_F_a1_deliveryReceipt := c4_F_a1_deliveryReceipt.other W5 (Or.inr (slot_ne (Or.inl (hw _ (List.mem_of_getElem? (i := 59) rfl))) (Or.inl (hw _ (List.mem_of_getElem? (i := 21) rfl))) (by decide) (t := (.object "com/example/sira/sira/wire/DeliveryReceipt")) (t' := (.object "java/lang/String")) (by decide) (by decide)))
  have c5_F_a1_commitmentReceipt := c4_F_a1_commitmentReceipt.other W5 (Or.inr (slot_ne (Or.inl (hw _ (List.mem_of_getElem? (i := 61) rfl))) (Or.inl (hw _ (List.mem_of_getElem? (i := 21) rfl))) (by decide) (t := (.object "com/example/sira/sira/wire/CommitmentReceipt")) (t' := (.object "java/lang/String")) (by decide) (by decide)))
  have K5 := K4.wr W5 (Or.inl (List.mem_of_getElem? (i := 0) rfl))
  have N5 := Fr.snoc X5 N3 g_a1
  refine own_go (B := T5.setTop (mkF m 16 #[.val (.ref a1)] [])) (fun t k => st5 _ k) ?_
  refine own_go (B := T5.setTop (mkF m 18 #[.val (.ref a1)] [(.int (3 : Int32)), (.ref a1)])) (fun t k => ?_) ?_
  · show Steps p.tables e below (T5.setTop (mkF m 16 #[.val (.ref a1)] [])) _
    refine XS.aloadN X5.here hx rfl (hb hby d1_16) rfl rfl ?_
    show Steps p.tables e below (T5.setTop (mkF m 17 #[.val (.ref a1)] [(.ref a1)])) _
    refine XS.iconst X5.here hx rfl (hb hby d1_17) ?_
    exact k
  obtain ⟨T6, h6, X6, e6, W6, st6⟩ := putF X5 hx hZ hown (host := "") (Or.inl (hw _ (List.mem_of_getElem? (i := 22) rfl))) Via.refl e5 c5_F_a1_priority c5_E_a1 (Or.inl (hw _ (List.mem_of_getElem? (i := 23) rfl))) (hw _ (List.mem_of_getElem? (i := 1) rfl)) (ty := .int) (by decide) rfl rfl (g := (mkF m 18 #[.val (.ref a1)] [(.int (3 : Int32)), (.ref a1)])) rfl rfl (hb hby d1_18)
  have c6_E_a1 := c5_E_a1.wr W6
  have c6_F_a1_id := c5_F_a1_id.other W6 (Or.inr (slot_ne (Or.inl (hw _ (List.mem_of_getElem? (i := 18) rfl))) (Or.inl (hw _ (List.mem_of_getElem? (i := 23) rfl))) (by decide) (t := (.object "java/lang/String")) (t' := .int) (by decide) (by decide)))
  have c6_F_a1_label := c5_F_a1_label.other W6 (Or.inr (slot_ne (Or.inl (hw _ (List.mem_of_getElem? (i := 21) rfl))) (Or.inl (hw _ (List.mem_of_getElem? (i := 23) rfl))) (by decide) (t := (.object "java/lang/String")) (t' := .int) (by decide) (by decide)))
  have c6_F_a1_priority := c5_F_a1_priority.same W6
  have c6_F_a1_sourceQm := c5_F_a1_sourceQm.other W6 (Or.inr (slot_ne (Or.inl (hw _ (List.mem_of_getElem? (i := 26) rfl))) (Or.inl (hw _ (List.mem_of_getElem? (i := 23) rfl))) (by decide) (t := (.object "java/lang/String")) (t' := .int) (by decide) (by decide)))
  have c6_F_a1_streamReceipt := c5_F_a1_streamReceipt.other W6 (Or.inr (slot_ne (Or.inl (hw _ (List.mem_of_getElem? (i := 57) rfl))) (Or.inl (hw _ (List.mem_of_getElem? (i := 23) rfl))) (by decide) (t := (.object "com/example/sira/sira/wire/StreamReceipt")) (t' := .int) (by decide) (by decide)))
  have c6_F_a1_deliveryReceipt := c5_F_a1_deliveryReceipt.other W6 (Or.inr (slot_ne (Or.inl (hw _ (List.mem_of_getElem? (i := 59) rfl))) (Or.inl (hw _ (List.mem_of_getElem? (i := 23) rfl))) (by decide) (t := (.object "com/example/sira/sira/wire/DeliveryReceipt")) (t' := .int) (by decide) (by decide)))
  have c6_F_a1_commitmentReceipt := c5_F_a1_commitmentReceipt.other W6 (Or.inr (slot_ne (Or.inl (hw _ (List.mem_of_getElem? (i := 61) rfl))) (Or.inl (hw _ (List.mem_of_getElem? (i := 23) rfl))) (by decide) (t := (.object "com/example/sira/sira/wire/CommitmentReceipt")) (t' := .int) (by decide) (by decide)))
  have K6 := K5.wr W6 (Or.inl (List.mem_of_getElem? (i := 0) rfl))
  have N6 := Fr.snoc X6 N5 g_a1
  refine own_go (B := T6.setTop (mkF m 21 #[.val (.ref a1)] [])) (fun t k => st6 _ k) ?_
  refine own_go (B := T6.setTop (mkF m 22 #[.val (.ref a1)] [(.ref a1)])) (fun t k => ?_) ?_
  · show Steps p.tables e below (T6.setTop (mkF m 21 #[.val (.ref a1)] [])) _
    refine XS.aloadN X6.here hx rfl (hb hby d1_21) rfl rfl ?_
    exact k
  obtain ⟨as7, T7, h7, kk7, X7, e7, E7, hS, hk7, hZ, hown, hC7, hL7, st7⟩ := ldcOH (EL := []) X6 hx hZ hown (hw _ (List.mem_of_getElem? (i := 24) rfl)) (own_wS hw) e6 hS (Nat.le_trans (Nat.le_trans hk4 (Keep.of_wr W5).1) (Keep.of_wr W6).1) own_EW own_CHv (g := (mkF m 22 #[.val (.ref a1)] [(.ref a1)])) rfl (hb hby d1_22) (n := 144) (by decide) (by decide) (by decide) (by decide)
  have c7_E_a1 := c6_E_a1.ext E7
  have c7_F_a1_id := c6_F_a1_id.ext E7
  have c7_F_a1_label := c6_F_a1_label.ext E7
  have c7_F_a1_priority := c6_F_a1_priority.ext E7
  have c7_F_a1_sourceQm := c6_F_a1_sourceQm.ext E7
  have c7_F_a1_streamReceipt := c6_F_a1_streamReceipt.ext E7
  have c7_F_a1_deliveryReceipt := c6_F_a1_deliveryReceipt.ext E7
  have c7_F_a1_commitmentReceipt := c6_F_a1_commitmentReceipt.ext E7
  have K7 := K6.ext E7
  refine own_go (B := T7.setTop (mkF m 24 #[.val (.ref a1)] [(.ref as7), (.ref a1)])) (fun t k => st7 _ k) ?_
  obtain ⟨T8, h8, X8, e8, W8, st8⟩ := putF X7 hx hZ hown (host := "") (Or.inl (hw _ (List.mem_of_getElem? (i := 25) rfl))) Via.refl e7 c7_F_a1_sourceQm c7_E_a1 (Or.inl (hw _ (List.mem_of_getElem? (i := 26) rfl))) (hw _ (List.mem_of_getElem? (i := 1) rfl)) (ty := (.object "java/lang/String")) (by decide) rfl rfl (g := (mkF m 24 #[.val (.ref a1)] [(.ref as7), (.ref a1)])) rfl rfl (hb hby d1_24)
  have c8_E_a1 := c7_E_a1.wr W8
  have c8_F_a1_id := c7_F_a1_id.other W8 (Or.inr (slot_ne (Or.inl (hw _ (List.mem_of_getElem? (i := 18) rfl))) (Or.inl (hw _ (List.mem_of_getElem? (i := 26) rfl))) (by decide) (t := (.object "java/lang/String")) (t' := (.object "java/lang/String")) (by decide) (by decide)))
  have c8_F_a1_label := c7_F_a1_label.other W8 (Or.inr (slot_ne (Or.inl (hw _ (List.mem_of_getElem? (i := 21) rfl))) (Or.inl (hw _ (List.mem_of_getElem? (i := 26) rfl))) (by decide) (t := (.object "java/lang/String")) (t' := (.object "java/lang/String")) (by decide) (by decide)))
  have c8_F_a1_priority := c7_F_a1_priority.other W8 (Or.inr (slot_ne (Or.inl (hw _ (List.mem_of_getElem? (i := 23) rfl))) (Or.inl (hw _ (List.mem_of_getElem? (i := 26) rfl))) (by decide) (t := .int) (t' := (.object "java/lang/String")) (by decide) (by decide)))
  have c8_F_a1_sourceQm := c7_F_a1_sourceQm.same W8
  have c8_F_a1_streamReceipt := c7_F_a1_streamReceipt.other W8 (Or.inr (slot_ne (Or.inl (hw _ (List.mem_of_getElem? (i := 57) rfl))) (Or.inl (hw _ (List.mem_of_getElem? (i := 26) rfl))) (by decide) (t := (.object "com/example/sira/sira/wire/StreamReceipt")) (t' := (.object "java/lang/String")) (by decide) (by decide)))
  have c8_F_a1_deliveryReceipt := c7_F_a1_deliveryReceipt.other W8 (Or.inr (slot_ne (Or.inl (hw _ (List.mem_of_getElem? (i := 59) rfl))) (Or.inl (hw _ (List.mem_of_getElem? (i := 26) rfl))) (by decide) (t := (.object "com/example/sira/sira/wire/DeliveryReceipt")) (t' := (.object "java/lang/String")) (by decide) (by decide)))
  have c8_F_a1_commitmentReceipt := c7_F_a1_commitmentReceipt.other W8 (Or.inr (slot_ne (Or.inl (hw _ (List.mem_of_getElem? (i := 61) rfl))) (Or.inl (hw _ (List.mem_of_getElem? (i := 26) rfl))) (by decide) (t := (.object "com/example/sira/sira/wire/CommitmentReceipt")) (t' := (.object "java/lang/String")) (by decide) (by decide)))
  have K8 := K7.wr W8 (Or.inl (List.mem_of_getElem? (i := 0) rfl))
  have N8 := Fr.snoc X8 N6 g_a1
  refine own_go (B := T8.setTop (mkF m 27 #[.val (.ref a1)] [])) (fun t k => st8 _ k) ?_
  obtain ⟨fs, hr, hrun, hended, hRW⟩ := X8.leaveW hS (by rw [e8]; exact (Nat.le_trans hk7 (Keep.of_wr W8).1)) (v := none) (fun _ => rfl)
  refine ⟨_, _, ?_, hrun, hended, _, _, rfl, ?_, hRW.1, hRW.2.1, hRW.2.2.1, hRW.2.2.2.mono (by decide) (by decide)⟩
  · show Steps p.tables e below (T8.setTop (mkF m 27 #[.val (.ref a1)] [])) _
    exact X8.returnOut hx Bd.returns (hb hby d1_27) hr
  · show Q1 Z a1 h0 n0 _ T8.heap _
    rw [e8]
    exact ⟨rfl, N8, K8, c8_E_a1, c8_F_a1_streamReceipt, c8_F_a1_deliveryReceipt, c8_F_a1_commitmentReceipt⟩
theorem pn_3 : plainName "com/example/sira/sira/wire/DeliveryReceipt" = true := by first | (simp [plainName, overriddenIn]; done) | decide +kernel
theorem d3_0 : decode prog_42_method_1_code 0 = .ok (.aload_n 0, 1) := by decide +kernel
theorem d3_1 : decode prog_42_method_1_code 1 = .ok (.invokespecial 1, 3) := by decide +kernel
theorem d3_4 : decode prog_42_method_1_code 4 = .ok (.aload_n 0, 1) := by decide +kernel
theorem d3_5 : decode prog_42_method_1_code 5 = .ok (.aload_n 1, 1) := by decide +kernel
theorem d3_6 : decode prog_42_method_1_code 6 = .ok (.putfield 7, 3) := by decide +kernel
theorem d3_9 : decode prog_42_method_1_code 9 = .ok (.aload_n 0, 1) := by decide +kernel
theorem d3_10 : decode prog_42_method_1_code 10 = .ok (.aload_n 2, 1) := by decide +kernel
theorem d3_11 : decode prog_42_method_1_code 11 = .ok (.putfield 13, 3) := by decide +kernel
theorem d3_14 : decode prog_42_method_1_code 14 = .ok (.return_, 1) := by decide +kernel
theorem ef_3n1n2 (m : MethodId) (x0 : Addr) : entryFrame m #[(.ref x0), .null, .null] 3 = mkF m 0 #[.val (.ref x0), .val .null, .val .null] [] := by first | (simp [entryFrame, mkF, argsToLocals, Value.category]; done) | rfl
def Q3 (Z : State) (a1 : Addr) (h0 : Heap) (n0 : Nat) (v : Option Value) (h : Heap) (L : List Loc) : Prop := v = none ∧ Fr n0 L ∧ Keep h0 h [a1] ∧ Exa Z h a1 "com/example/sira/sira/wire/DeliveryReceipt"
set_option maxRecDepth 65536 in
set_option maxHeartbeats 40000000 in
theorem rm3 (l : Launch) (Z : State) (a0 : Array Value) (hw : ∀ d ∈ tables_1, d.before a0 Z = true) (ws : List Jvm.Cond) (a1 : Addr) (h0 : Heap) (n0 : Nat) (Z0 : n0 ≤ h0.size) (E_a1 : Exa Z h0 a1 "com/example/sira/sira/wire/DeliveryReceipt") (g_a1 : n0 ≤ a1) (F_receivedAt : Fld Z h0 a1 "com/example/sira/sira/wire/DeliveryReceipt" "receivedAt" "Ljava/time/Instant;" .null) (F_id : Fld Z h0 a1 "com/example/sira/sira/wire/DeliveryReceipt" "id" "Ljava/lang/String;" .null) :
    MetFree l (⟨"com/example/sira/sira/wire/DeliveryReceipt", "<init>", "(Ljava/time/Instant;Ljava/lang/String;)V"⟩ : MethodName) (head1 (Jvm.Cond.code (⟨"com/example/sira/sira/wire/DeliveryReceipt", "<init>", "(Ljava/time/Instant;Ljava/lang/String;)V"⟩ : MethodName) prog_42_method_1_code 3 none :: ws) ({ frames := 1, cells := 0, slots := 0, locals := 12 } : Room)) (fun a U => a = #[(.ref a1), .null, .null] ∧ Z.Warmed39 U.vm ∧ U.heap = h0) (fun _ _ _ _ _ => True) (fun _ U o U' => ∃ v L, o = .returned v ∧ Q3 Z a1 h0 n0 v U'.heap L ∧ FrameEnd U o U' L ({ frames := 1, cells := 0, slots := 0, locals := 12 } : Room).cells ({ frames := 1, cells := 0, slots := 0, locals := 12 } : Room).slots) := by
  refine MetFree.of_bodySF (plainFor_of_name pn_3) hisR ?_
  intro p e s m args below meth c s₁ Bd hml0 hP hK
  obtain ⟨rfl, hZ, hh⟩ := hP
  have hx := Bd.exec
  have hby := Bd.bytes
  have hml : c.maxLocals = 3 := hml0
  have hown : s.vm.findClass "com/example/sira/sira/wire/DeliveryReceipt" = some m.cls := findClass_of_methodNamed Bd.named
  have hnm := (name_of_methodNamed Bd.named Bd.method).1
  have X0 : Stand p l e ({ frames := 1, cells := 0, slots := 0, locals := 12 } : Room) s m #[(.ref a1), .null, .null] below meth c s₁ [] 0 0 := Stand.of_body Bd
  have e0 : s₁.heap = h0 := by rw [← hh, Bd.state]; rfl
  have N0 := Fr.nil n0
  refine own_go (B := s₁.setTop (mkF m 0 #[.val (.ref a1), .val .null, .val .null] [])) (fun t k => castTop (ef_3n1n2 m a1) k) ?_
  refine own_go (B := s₁.setTop (mkF m 1 #[.val (.ref a1), .val .null, .val .null] [(.ref a1)])) (fun t k => ?_) ?_
  · show Steps p.tables e below (s₁.setTop (mkF m 0 #[.val (.ref a1), .val .null, .val .null] [])) _
    refine XS.aloadN X0.here hx rfl (hb hby d3_0) rfl rfl ?_
    exact k
  obtain ⟨T1, X1, e1, st1⟩ := initO X0 hx hZ hown (hw _ (List.mem_of_getElem? (i := 33) rfl)) (hw _ (List.mem_of_getElem? (i := 7) rfl)) (hw _ (List.mem_of_getElem? (i := 8) rfl)) e0 (g := (mkF m 1 #[.val (.ref a1), .val .null, .val .null] [(.ref a1)])) rfl (by rw [hml]; rfl) rfl (hb hby d3_1) (by decide) (W := 0) (by show 2 * 0 + _ ≤ _; exact Nat.le_of_eq rfl) (by decide)
  refine own_go (B := T1.setTop (mkF m 4 #[.val (.ref a1), .val .null, .val .null] [])) (fun t k => st1 _ k) ?_
  refine own_go (B := T1.setTop (mkF m 6 #[.val (.ref a1), .val .null, .val .null] [.null, (.ref a1)])) (fun t k => ?_) ?_
  · show Steps p.tables e below (T1.setTop (mkF m 4 #[.val (.ref a1), .val .null, .val .null] [])) _
    refine XS.aloadN X1.here hx rfl (hb hby d3_4) rfl rfl ?_
    show Steps p.tables e below (T1.setTop (mkF m 5 #[.val (.ref a1), .val .null, .val .null] [(.ref a1)])) _
    refine XS.aloadN X1.here hx rfl (hb hby d3_5) rfl rfl ?_
    exact k
  obtain ⟨T2, h2, X2, e2, W2, st2⟩ := putF X1 hx hZ hown (host := "") (Or.inl (hw _ (List.mem_of_getElem? (i := 34) rfl))) Via.refl e1 F_receivedAt E_a1 (Or.inr ⟨(hw _ (List.mem_of_getElem? (i := 35) rfl)), rfl, hnm⟩) (hw _ (List.mem_of_getElem? (i := 28) rfl)) (ty := (.object "java/time/Instant")) (by decide) rfl rfl (g := (mkF m 6 #[.val (.ref a1), .val .null, .val .null] [.null, (.ref a1)])) rfl rfl (hb hby d3_6)
  have c2_E_a1 := E_a1.wr W2
  have c2_F_a1_receivedAt := F_receivedAt.same W2
  have c2_F_a1_id := F_id.other W2 (Or.inr (slot_ne (Or.inr (hw _ (List.mem_of_getElem? (i := 37) rfl))) (Or.inr (hw _ (List.mem_of_getElem? (i := 35) rfl))) (by decide) (t := (.object "java/lang/String")) (t' := (.object "java/time/Instant")) (by decide) (by decide)))
  have K2 := (Keep.refl h0 [a1]).wr W2 (Or.inl (List.mem_of_getElem? (i := 0) rfl))
  have N2 := Fr.snoc X2 N0 g_a1
  refine own_go (B := T2.setTop (mkF m 9 #[.val (.ref a1), .val .null, .val .null] [])) (fun t k => st2 _ k) ?_
  refine own_go (B := T2.setTop (mkF m 11 #[.val (.ref a1), .val .null, .val .null] [.null, (.ref a1)])) (fun t k => ?_) ?_
  · show Steps p.tables e below (T2.setTop (mkF m 9 #[.val (.ref a1), .val .null, .val .null] [])) _
    refine XS.aloadN X2.here hx rfl (hb hby d3_9) rfl rfl ?_
    show Steps p.tables e below (T2.setTop (mkF m 10 #[.val (.ref a1), .val .null, .val .null] [(.ref a1)])) _
    refine XS.aloadN X2.here hx rfl (hb hby d3_10) rfl rfl ?_
    exact k
  obtain ⟨T3, h3, X3, e3, W3, st3⟩ := putF X2 hx hZ hown (host := "") (Or.inl (hw _ (List.mem_of_getElem? (i := 36) rfl))) Via.refl e2 c2_F_a1_id c2_E_a1 (Or.inr ⟨(hw _ (List.mem_of_getElem? (i := 37) rfl)), rfl, hnm⟩) (hw _ (List.mem_of_getElem? (i := 28) rfl)) (ty := (.object "java/lang/String")) (by decide) rfl rfl (g := (mkF m 11 #[.val (.ref a1), .val .null, .val .null] [.null, (.ref a1)])) rfl rfl (hb hby d3_11)
  have c3_E_a1 := c2_E_a1.wr W3
  have c3_F_a1_receivedAt := c2_F_a1_receivedAt.other W3 (Or.inr (slot_ne (Or.inr (hw _ (List.mem_of_getElem? (i := 35) rfl))) (Or.inr (hw _ (List.mem_of_getElem? (i := 37) rfl))) (by decide) (t := (.object "java/time/Instant")) (t' := (.object "java/lang/String")) (by decide) (by decide)))
  have c3_F_a1_id := c2_F_a1_id.same W3
  have K3 := K2.wr W3 (Or.inl (List.mem_of_getElem? (i := 0) rfl))
  have N3 := Fr.snoc X3 N2 g_a1
  refine own_go (B := T3.setTop (mkF m 14 #[.val (.ref a1), .val .null, .val .null] [])) (fun t k => st3 _ k) ?_
  obtain ⟨fs, hr, hrun, hended, hW, hsame⟩ := X3.leave (v := none) (fun _ => rfl)
  refine ⟨_, _, ?_, hrun, hended, _, _, rfl, ?_, ⟨_, rfl⟩, hW, hsame.mono (by decide) (by decide)⟩
  · show Steps p.tables e below (T3.setTop (mkF m 14 #[.val (.ref a1), .val .null, .val .null] [])) _
    exact X3.returnOut hx Bd.returns (hb hby d3_14) hr
  · show Q3 Z a1 h0 n0 _ T3.heap _
    rw [e3]
    exact ⟨rfl, N3, K3, c3_E_a1⟩
theorem pn_4 : plainName "com/example/sira/sira/wire/CommitmentReceipt" = true := by first | (simp [plainName, overriddenIn]; done) | decide +kernel
theorem d4_0 : decode prog_38_method_1_code 0 = .ok (.aload_n 0, 1) := by decide +kernel
theorem d4_1 : decode prog_38_method_1_code 1 = .ok (.invokespecial 1, 3) := by decide +kernel
theorem d4_4 : decode prog_38_method_1_code 4 = .ok (.aload_n 0, 1) := by decide +kernel
theorem d4_5 : decode prog_38_method_1_code 5 = .ok (.aload_n 1, 1) := by decide +kernel
theorem d4_6 : decode prog_38_method_1_code 6 = .ok (.putfield 7, 3) := by decide +kernel
theorem d4_9 : decode prog_38_method_1_code 9 = .ok (.aload_n 0, 1) := by decide +kernel
theorem d4_10 : decode prog_38_method_1_code 10 = .ok (.iload_n 2, 1) := by decide +kernel
theorem d4_11 : decode prog_38_method_1_code 11 = .ok (.putfield 13, 3) := by decide +kernel
theorem d4_14 : decode prog_38_method_1_code 14 = .ok (.aload_n 0, 1) := by decide +kernel
theorem d4_15 : decode prog_38_method_1_code 15 = .ok (.aload_n 3, 1) := by decide +kernel
theorem d4_16 : decode prog_38_method_1_code 16 = .ok (.putfield 17, 3) := by decide +kernel
theorem d4_19 : decode prog_38_method_1_code 19 = .ok (.return_, 1) := by decide +kernel
theorem ef_4n1n3 (m : MethodId) (x0 : Addr) (x2 : Int32) : entryFrame m #[(.ref x0), .null, (.int x2), .null] 4 = mkF m 0 #[.val (.ref x0), .val .null, .val (.int x2), .val .null] [] := by first | (simp [entryFrame, mkF, argsToLocals, Value.category]; done) | rfl
def Q4 (Z : State) (a1 : Addr) (p2 : Int32) (h0 : Heap) (n0 : Nat) (v : Option Value) (h : Heap) (L : List Loc) : Prop := v = none ∧ Fr n0 L ∧ Keep h0 h [a1] ∧ Exa Z h a1 "com/example/sira/sira/wire/CommitmentReceipt"
set_option maxRecDepth 65536 in
set_option maxHeartbeats 40000000 in
theorem rm4 (l : Launch) (Z : State) (a0 : Array Value) (hw : ∀ d ∈ tables_1, d.before a0 Z = true) (ws : List Jvm.Cond) (a1 : Addr) (p2 : Int32) (h0 : Heap) (n0 : Nat) (Z0 : n0 ≤ h0.size) (E_a1 : Exa Z h0 a1 "com/example/sira/sira/wire/CommitmentReceipt") (g_a1 : n0 ≤ a1) (F_decidedAt : Fld Z h0 a1 "com/example/sira/sira/wire/CommitmentReceipt" "decidedAt" "Ljava/time/Instant;" .null) (F_positive : Fld Z h0 a1 "com/example/sira/sira/wire/CommitmentReceipt" "positive" "Z" (.int (0 : Int32))) (F_id : Fld Z h0 a1 "com/example/sira/sira/wire/CommitmentReceipt" "id" "Ljava/lang/String;" .null) :
    MetFree l (⟨"com/example/sira/sira/wire/CommitmentReceipt", "<init>", "(Ljava/time/Instant;ZLjava/lang/String;)V"⟩ : MethodName) (head1 (Jvm.Cond.code (⟨"com/example/sira/sira/wire/CommitmentReceipt", "<init>", "(Ljava/time/Instant;ZLjava/lang/String;)V"⟩ : MethodName) prog_38_method_1_code 4 none :: ws) ({ frames := 1, cells := 0, slots := 0, locals := 12 } : Room)) (fun a U => a = #[(.ref a1), .null, (.int p2), .null] ∧ Z.Warmed39 U.vm ∧ U.heap = h0) (fun _ _ _ _ _ => True) (fun _ U o U' => ∃ v L, o = .returned v ∧ Q4 Z a1 p2 h0 n0 v U'.heap L ∧ FrameEnd U o U' L ({ frames := 1, cells := 0, slots := 0, locals := 12 } : Room).cells ({ frames := 1, cells := 0, slots := 0, locals := 12 } : Room).slots) := by
  refine MetFree.of_bodySF (plainFor_of_name pn_4) hisR ?_
  intro p e s m args below meth c s₁ Bd hml0 hP hK
  obtain ⟨rfl, hZ, hh⟩ := hP
  have hx := Bd.exec
  have hby := Bd.bytes
  have hml : c.maxLocals = 4 := hml0
  have hown : s.vm.findClass "com/example/sira/sira/wire/CommitmentReceipt" = some m.cls := findClass_of_methodNamed Bd.named
  have hnm := (name_of_methodNamed Bd.named Bd.method).1
  have X0 : Stand p l e ({ frames := 1, cells := 0, slots := 0, locals := 12 } : Room) s m #[(.ref a1), .null, (.int p2), .null] below meth c s₁ [] 0 0 := Stand.of_body Bd
  have e0 : s₁.heap = h0 := by rw [← hh, Bd.state]; rfl
  have N0 := Fr.nil n0
  refine own_go (B := s₁.setTop (mkF m 0 #[.val (.ref a1), .val .null, .val (.int p2), .val .null] [])) (fun t k => castTop (ef_4n1n3 m a1 p2) k) ?_
  refine own_go (B := s₁.setTop (mkF m 1 #[.val (.ref a1), .val .null, .val (.int p2), .val .null] [(.ref a1)])) (fun t k => ?_) ?_
  · show Steps p.tables e below (s₁.setTop (mkF m 0 #[.val (.ref a1), .val .null, .val (.int p2), .val .null] [])) _
    refine XS.aloadN X0.here hx rfl (hb hby d4_0) rfl rfl ?_
    exact k
  obtain ⟨T1, X1, e1, st1⟩ := initO X0 hx hZ hown (hw _ (List.mem_of_getElem? (i := 44) rfl)) (hw _ (List.mem_of_getElem? (i := 7) rfl)) (hw _ (List.mem_of_getElem? (i := 8) rfl)) e0 (g := (mkF m 1 #[.val (.ref a1), .val .null, .val (.int p2), .val .null] [(.ref a1)])) rfl (by rw [hml]; rfl) rfl (hb hby d4_1) (by decide) (W := 0) (by show 2 * 0 + _ ≤ _; exact Nat.le_of_eq rfl) (by decide)
  refine own_go (B := T1.setTop (mkF m 4 #[.val (.ref a1), .val .null, .val (.int p2), .val .null] [])) (fun t k => st1 _ k) ?_
  refine own_go (B := T1.setTop (mkF m 6 #[.val (.ref a1), .val .null, .val (.int p2), .val .null] [.null, (.ref a1)])) (fun t k => ?_) ?_
  · show Steps p.tables e below (T1.setTop (mkF m 4 #[.val (.ref a1), .val .null, .val (.int p2), .val .null] [])) _
    refine XS.aloadN X1.here hx rfl (hb hby d4_4) rfl rfl ?_
    show Steps p.tables e below (T1.setTop (mkF m 5 #[.val (.ref a1), .val .null, .val (.int p2), .val .null] [(.ref a1)])) _
    refine XS.aloadN X1.here hx rfl (hb hby d4_5) rfl rfl ?_
    exact k
  obtain ⟨T2, h2, X2, e2, W2, st2⟩ := putF X1 hx hZ hown (host := "") (Or.inl (hw _ (List.mem_of_getElem? (i := 45) rfl))) Via.refl e1 F_decidedAt E_a1 (Or.inr ⟨(hw _ (List.mem_of_getElem? (i := 46) rfl)), rfl, hnm⟩) (hw _ (List.mem_of_getElem? (i := 39) rfl)) (ty := (.object "java/time/Instant")) (by decide) rfl rfl (g := (mkF m 6 #[.val (.ref a1), .val .null, .val (.int p2), .val .null] [.null, (.ref a1)])) rfl rfl (hb hby d4_6)
  have c2_E_a1 := E_a1.wr W2
  have c2_F_a1_decidedAt := F_decidedAt.same W2
  have c2_F_a1_positive := F_positive.other W2 (Or.inr (slot_ne (Or.inr (hw _ (List.mem_of_getElem? (i := 48) rfl))) (Or.inr (hw _ (List.mem_of_getElem? (i := 46) rfl))) (by decide) (t := .boolean) (t' := (.object "java/time/Instant")) (by decide) (by decide)))
  have c2_F_a1_id := F_id.other W2 (Or.inr (slot_ne (Or.inr (hw _ (List.mem_of_getElem? (i := 50) rfl))) (Or.inr (hw _ (List.mem_of_getElem? (i := 46) rfl))) (by decide) (t := (.object "java/lang/String")) (t' := (.object "java/time/Instant")) (by decide) (by decide)))
  have K2 := (Keep.refl h0 [a1]).wr W2 (Or.inl (List.mem_of_getElem? (i := 0) rfl))
  have N2 := Fr.snoc X2 N0 g_a1
  refine own_go (B := T2.setTop (mkF m 9 #[.val (.ref a1), .val .null, .val (.int p2), .val .null] [])) (fun t k => st2 _ k) ?_
  refine own_go (B := T2.setTop (mkF m 11 #[.val (.ref a1), .val .null, .val (.int p2), .val .null] [(.int p2), (.ref a1)])) (fun t k => ?_) ?_
  · show Steps p.tables e below (T2.setTop (mkF m 9 #[.val (.ref a1), .val .null, .val (.int p2), .val .null] [])) _
    refine XS.aloadN X2.here hx rfl (hb hby d4_9) rfl rfl ?_
    show Steps p.tables e below (T2.setTop (mkF m 10 #[.val (.ref a1), .val .null, .val (.int p2), .val .null] [(.ref a1)])) _
    refine XS.iloadN X2.here hx rfl (hb hby d4_10) rfl ?_
    exact k
  obtain ⟨T3, h3, X3, e3, W3, st3⟩ := putFN X2 hx hZ hown (hw _ (List.mem_of_getElem? (i := 47) rfl)) Via.refl e2 c2_F_a1_positive c2_E_a1 (Or.inr ⟨(hw _ (List.mem_of_getElem? (i := 48) rfl)), rfl, hnm⟩) (hw _ (List.mem_of_getElem? (i := 39) rfl)) (ty := .boolean) (v' := (.int (nar .boolean p2))) (by decide) rfl (fits_nar_bool _) (g := (mkF m 11 #[.val (.ref a1), .val .null, .val (.int p2), .val .null] [(.int p2), (.ref a1)])) rfl rfl (hb hby d4_11)
  have c3_E_a1 := c2_E_a1.wr W3
  have c3_F_a1_decidedAt := c2_F_a1_decidedAt.other W3 (Or.inr (slot_ne (Or.inr (hw _ (List.mem_of_getElem? (i := 46) rfl))) (Or.inr (hw _ (List.mem_of_getElem? (i := 48) rfl))) (by decide) (t := (.object "java/time/Instant")) (t' := .boolean) (by decide) (by decide)))
  have c3_F_a1_positive := c2_F_a1_positive.same W3
  have c3_F_a1_id := c2_F_a1_id.other W3 (Or.inr (slot_ne (Or.inr (hw _ (List.mem_of_getElem? (i := 50) rfl))) (Or.inr (hw _ (List.mem_of_getElem? (i := 48) rfl))) (by decide) (t := (.object "java/lang/String")) (t' := .boolean) (by decide) (by decide)))
  have K3 := K2.wr W3 (Or.inl (List.mem_of_getElem? (i := 0) rfl))
  have N3 := Fr.snoc X3 N2 g_a1
  refine own_go (B := T3.setTop (mkF m 14 #[.val (.ref a1), .val .null, .val (.int p2), .val .null] [])) (fun t k => st3 _ k) ?_
  refine own_go (B := T3.setTop (mkF m 16 #[.val (.ref a1), .val .null, .val (.int p2), .val .null] [.null, (.ref a1)])) (fun t k => ?_) ?_
  · show Steps p.tables e below (T3.setTop (mkF m 14 #[.val (.ref a1), .val .null, .val (.int p2), .val .null] [])) _
    refine XS.aloadN X3.here hx rfl (hb hby d4_14) rfl rfl ?_
    show Steps p.tables e below (T3.setTop (mkF m 15 #[.val (.ref a1), .val .null, .val (.int p2), .val .null] [(.ref a1)])) _
    refine XS.aloadN X3.here hx rfl (hb hby d4_15) rfl rfl ?_
    exact k
  obtain ⟨T4, h4, X4, e4, W4, st4⟩ := putF X3 hx hZ hown (host := "") (Or.inl (hw _ (List.mem_of_getElem? (i := 49) rfl))) Via.refl e3 c3_F_a1_id c3_E_a1 (Or.inr ⟨(hw _ (List.mem_of_getElem? (i := 50) rfl)), rfl, hnm⟩) (hw _ (List.mem_of_getElem? (i := 39) rfl)) (ty := (.object "java/lang/String")) (by decide) rfl rfl (g := (mkF m 16 #[.val (.ref a1), .val .null, .val (.int p2), .val .null] [.null, (.ref a1)])) rfl rfl (hb hby d4_16)
  have c4_E_a1 := c3_E_a1.wr W4
  have c4_F_a1_decidedAt := c3_F_a1_decidedAt.other W4 (Or.inr (slot_ne (Or.inr (hw _ (List.mem_of_getElem? (i := 46) rfl))) (Or.inr (hw _ (List.mem_of_getElem? (i := 50) rfl))) (by decide) (t := (.object "java/time/Instant")) (t' := (.object "java/lang/String")) (by decide) (by decide)))
  have c4_F_a1_positive := c3_F_a1_positive.other W4 (Or.inr (slot_ne (Or.inr (hw _ (List.mem_of_getElem? (i := 48) rfl))) (Or.inr (hw _ (List.mem_of_getElem? (i := 50) rfl))) (by decide) (t := .boolean) (t' := (.object "java/lang/String")) (by decide) (by decide)))
  have c4_F_a1_id := c3_F_a1_id.same W4
  have K4 := K3.wr W4 (Or.inl (List.mem_of_getElem? (i := 0) rfl))
  have N4 := Fr.snoc X4 N3 g_a1
  refine own_go (B := T4.setTop (mkF m 19 #[.val (.ref a1), .val .null, .val (.int p2), .val .null] [])) (fun t k => st4 _ k) ?_
  obtain ⟨fs, hr, hrun, hended, hW, hsame⟩ := X4.leave (v := none) (fun _ => rfl)
  refine ⟨_, _, ?_, hrun, hended, _, _, rfl, ?_, ⟨_, rfl⟩, hW, hsame.mono (by decide) (by decide)⟩
  · show Steps p.tables e below (T4.setTop (mkF m 19 #[.val (.ref a1), .val .null, .val (.int p2), .val .null] [])) _
    exact X4.returnOut hx Bd.returns (hb hby d4_19) hr
  · show Q4 Z a1 p2 h0 n0 _ T4.heap _
    rw [e4]
    exact ⟨rfl, N4, K4, c4_E_a1⟩
theorem pn_5 : plainName "com/example/sira/sira/wire/MessageProperties" = true := by first | (simp [plainName, overriddenIn]; done) | decide +kernel
theorem d5_0 : decode prog_44_method_42_code 0 = .ok (.aload_n 0, 1) := by decide +kernel
theorem d5_1 : decode prog_44_method_42_code 1 = .ok (.getfield 67, 3) := by decide +kernel
theorem d5_4 : decode prog_44_method_42_code 4 = .ok (.ifnonnull 17, 3) := by decide +kernel
theorem d5_7 : decode prog_44_method_42_code 7 = .ok (.aload_n 0, 1) := by decide +kernel
theorem d5_8 : decode prog_44_method_42_code 8 = .ok (.getfield 78, 3) := by decide +kernel
theorem d5_11 : decode prog_44_method_42_code 11 = .ok (.ifnonnull 10, 3) := by decide +kernel
theorem d5_14 : decode prog_44_method_42_code 14 = .ok (.aload_n 0, 1) := by decide +kernel
theorem d5_15 : decode prog_44_method_42_code 15 = .ok (.getfield 82, 3) := by decide +kernel
theorem d5_18 : decode prog_44_method_42_code 18 = .ok (.ifnull 7, 3) := by decide +kernel
theorem d5_25 : decode prog_44_method_42_code 25 = .ok (.iconst 0, 1) := by decide +kernel
theorem d5_26 : decode prog_44_method_42_code 26 = .ok (.ireturn, 1) := by decide +kernel
theorem ef_5 (m : MethodId) (x0 : Addr) : entryFrame m #[(.ref x0)] 1 = mkF m 0 #[.val (.ref x0)] [] := by first | (simp [entryFrame, mkF, argsToLocals, Value.category]; done) | rfl
def Q5a (Z : State) (a1 : Addr) (h0 : Heap) (n0 : Nat) (v : Option Value) (h : Heap) (L : List Loc) : Prop := v = some (.int (0 : Int32)) ∧ Fr n0 L ∧ h = h0
set_option maxRecDepth 65536 in
set_option maxHeartbeats 40000000 in
theorem rm5a (l : Launch) (Z : State) (a0 : Array Value) (hw : ∀ d ∈ tables_1, d.before a0 Z = true) (ws : List Jvm.Cond) (a1 : Addr) (h0 : Heap) (n0 : Nat) (Z0 : n0 ≤ h0.size) (F_s : Fld Z h0 a1 "com/example/sira/sira/wire/MessageProperties" "streamReceipt" "Lcom/example/sira/sira/wire/StreamReceipt;" .null) (F_d : Fld Z h0 a1 "com/example/sira/sira/wire/MessageProperties" "deliveryReceipt" "Lcom/example/sira/sira/wire/DeliveryReceipt;" .null) (F_c : Fld Z h0 a1 "com/example/sira/sira/wire/MessageProperties" "commitmentReceipt" "Lcom/example/sira/sira/wire/CommitmentReceipt;" .null) :
    MetFree l (⟨"com/example/sira/sira/wire/MessageProperties", "isReceipt", "()Z"⟩ : MethodName) (head1 (Jvm.Cond.code (⟨"com/example/sira/sira/wire/MessageProperties", "isReceipt", "()Z"⟩ : MethodName) prog_44_method_42_code 1 (some .boolean) :: ws) ({ frames := 0, cells := 0, slots := 0, locals := 0 } : Room)) (fun a U => a = #[(.ref a1)] ∧ Z.Warmed39 U.vm ∧ U.heap = h0) (fun _ _ _ _ _ => True) (fun _ U o U' => ∃ v L, o = .returned v ∧ Q5a Z a1 h0 n0 v U'.heap L ∧ FrameEnd U o U' L ({ frames := 0, cells := 0, slots := 0, locals := 0 } : Room).cells ({ frames := 0, cells := 0, slots := 0, locals := 0 } : Room).slots) := by
  refine MetFree.of_bodySF (plainFor_of_name pn_5) hisR ?_
  intro p e s m args below meth c s₁ Bd hml0 hP hK
  obtain ⟨rfl, hZ, hh⟩ := hP
  have hx := Bd.exec
  have hby := Bd.bytes
  have hml : c.maxLocals = 1 := hml0
  have hown : s.vm.findClass "com/example/sira/sira/wire/MessageProperties" = some m.cls := findClass_of_methodNamed Bd.named
  have hnm := (name_of_methodNamed Bd.named Bd.method).1
  have X0 : Stand p l e ({ frames := 0, cells := 0, slots := 0, locals := 0 } : Room) s m #[(.ref a1)] below meth c s₁ [] 0 0 := Stand.of_body Bd
  have e0 : s₁.heap = h0 := by rw [← hh, Bd.state]; rfl
  have N0 := Fr.nil n0
  refine own_go (B := s₁.setTop (mkF m 0 #[.val (.ref a1)] [])) (fun t k => castTop (ef_5 m a1) k) ?_
  refine own_go (B := s₁.setTop (mkF m 1 #[.val (.ref a1)] [(.ref a1)])) (fun t k => ?_) ?_
  · show Steps p.tables e below (s₁.setTop (mkF m 0 #[.val (.ref a1)] [])) _
    refine XS.aloadN X0.here hx rfl (hb hby d5_0) rfl rfl ?_
    exact k
  obtain ⟨T1, X1, e1, st1⟩ := getF X0 hx hZ hown (host := "") (Or.inl (hw _ (List.mem_of_getElem? (i := 56) rfl))) Via.refl e0 F_s (g := (mkF m 1 #[.val (.ref a1)] [(.ref a1)])) rfl rfl (hb hby d5_1)
  refine own_go (B := T1.setTop (mkF m 4 #[.val (.ref a1)] [.null])) (fun t k => st1 _ k) ?_
  refine own_go (B := T1.setTop (mkF m 8 #[.val (.ref a1)] [(.ref a1)])) (fun t k => ?_) ?_
  · show Steps p.tables e below (T1.setTop (mkF m 4 #[.val (.ref a1)] [.null])) _
    refine XS.ifnonnullNo X1.here hx rfl (hb hby d5_4) rfl ?_
    show Steps p.tables e below (T1.setTop (mkF m 7 #[.val (.ref a1)] [])) _
    refine XS.aloadN X1.here hx rfl (hb hby d5_7) rfl rfl ?_
    exact k
  obtain ⟨T2, X2, e2, st2⟩ := getF X1 hx hZ hown (host := "") (Or.inl (hw _ (List.mem_of_getElem? (i := 58) rfl))) Via.refl e1 F_d (g := (mkF m 8 #[.val (.ref a1)] [(.ref a1)])) rfl rfl (hb hby d5_8)
  refine own_go (B := T2.setTop (mkF m 11 #[.val (.ref a1)] [.null])) (fun t k => st2 _ k) ?_
  refine own_go (B := T2.setTop (mkF m 15 #[.val (.ref a1)] [(.ref a1)])) (fun t k => ?_) ?_
  · show Steps p.tables e below (T2.setTop (mkF m 11 #[.val (.ref a1)] [.null])) _
    refine XS.ifnonnullNo X2.here hx rfl (hb hby d5_11) rfl ?_
    show Steps p.tables e below (T2.setTop (mkF m 14 #[.val (.ref a1)] [])) _
    refine XS.aloadN X2.here hx rfl (hb hby d5_14) rfl rfl ?_
    exact k
  obtain ⟨T3, X3, e3, st3⟩ := getF X2 hx hZ hown (host := "") (Or.inl (hw _ (List.mem_of_getElem? (i := 60) rfl))) Via.refl e2 F_c (g := (mkF m 15 #[.val (.ref a1)] [(.ref a1)])) rfl rfl (hb hby d5_15)
  refine own_go (B := T3.setTop (mkF m 18 #[.val (.ref a1)] [.null])) (fun t k => st3 _ k) ?_
  obtain ⟨fs, hr, hrun, hended, hW, hsame⟩ := X3.leave (v := some (.int (0 : Int32))) (fun h => by rw [Bd.returns] at h; cases h)
  refine ⟨_, _, ?_, hrun, hended, _, _, rfl, ?_, ⟨_, rfl⟩, hW, hsame.mono (by decide) (by decide)⟩
  · show Steps p.tables e below (T3.setTop (mkF m 18 #[.val (.ref a1)] [.null])) _
    refine XS.ifnullYes X3.here hx rfl (pc0 := 18) (pc' := 25) rfl (hb hby d5_18) rfl (by decide) (by decide) ?_
    show Steps p.tables e below (T3.setTop (mkF m 25 #[.val (.ref a1)] [])) _
    refine XS.iconst X3.here hx rfl (hb hby d5_25) ?_
    show Steps p.tables e below (T3.setTop (mkF m 26 #[.val (.ref a1)] [(.int (0 : Int32))])) _
    exact retN X3 hx (t := .boolean) Bd.returns (by simp) (hb hby d5_26) hr
  · show Q5a Z a1 h0 n0 _ T3.heap _
    rw [e3]
    exact ⟨rfl, N0, rfl⟩
theorem d5_21 : decode prog_44_method_42_code 21 = .ok (.iconst 1, 1) := by decide +kernel
theorem d5_22 : decode prog_44_method_42_code 22 = .ok (.goto 4, 3) := by decide +kernel
def Q5b (Z : State) (a1 : Addr) (x1 : Addr) (h0 : Heap) (n0 : Nat) (v : Option Value) (h : Heap) (L : List Loc) : Prop := v = some (.int (1 : Int32)) ∧ Fr n0 L ∧ h = h0
set_option maxRecDepth 65536 in
set_option maxHeartbeats 40000000 in
theorem rm5b (l : Launch) (Z : State) (a0 : Array Value) (hw : ∀ d ∈ tables_1, d.before a0 Z = true) (ws : List Jvm.Cond) (a1 : Addr) (x1 : Addr) (h0 : Heap) (n0 : Nat) (Z0 : n0 ≤ h0.size) (F_s : Fld Z h0 a1 "com/example/sira/sira/wire/MessageProperties" "streamReceipt" "Lcom/example/sira/sira/wire/StreamReceipt;" .null) (F_d : Fld Z h0 a1 "com/example/sira/sira/wire/MessageProperties" "deliveryReceipt" "Lcom/example/sira/sira/wire/DeliveryReceipt;" (.ref x1)) :
    MetFree l (⟨"com/example/sira/sira/wire/MessageProperties", "isReceipt", "()Z"⟩ : MethodName) (head1 (Jvm.Cond.code (⟨"com/example/sira/sira/wire/MessageProperties", "isReceipt", "()Z"⟩ : MethodName) prog_44_method_42_code 1 (some .boolean) :: ws) ({ frames := 0, cells := 0, slots := 0, locals := 0 } : Room)) (fun a U => a = #[(.ref a1)] ∧ Z.Warmed39 U.vm ∧ U.heap = h0) (fun _ _ _ _ _ => True) (fun _ U o U' => ∃ v L, o = .returned v ∧ Q5b Z a1 x1 h0 n0 v U'.heap L ∧ FrameEnd U o U' L ({ frames := 0, cells := 0, slots := 0, locals := 0 } : Room).cells ({ frames := 0, cells := 0, slots := 0, locals := 0 } : Room).slots) := by
  refine MetFree.of_bodySF (plainFor_of_name pn_5) hisR ?_
  intro p e s m args below meth c s₁ Bd hml0 hP hK
  obtain ⟨rfl, hZ, hh⟩ := hP
  have hx := Bd.exec
  have hby := Bd.bytes
  have hml : c.maxLocals = 1 := hml0
  have hown : s.vm.findClass "com/example/sira/sira/wire/MessageProperties" = some m.cls := findClass_of_methodNamed Bd.named
  have hnm := (name_of_methodNamed Bd.named Bd.method).1
  have X0 : Stand p l e ({ frames := 0, cells := 0, slots := 0, locals := 0 } : Room) s m #[(.ref a1)] below meth c s₁ [] 0 0 := Stand.of_body Bd
  have e0 : s₁.heap = h0 := by rw [← hh, Bd.state]; rfl
  have N0 := Fr.nil n0
  refine own_go (B := s₁.setTop (mkF m 0 #[.val (.ref a1)] [])) (fun t k => castTop (ef_5 m a1) k) ?_
  refine own_go (B := s₁.setTop (mkF m 1 #[.val (.ref a1)] [(.ref a1)])) (fun t k => ?_) ?_
  · show Steps p.tables e below (s₁.setTop (mkF m 0 #[.val (.ref a1)] [])) _
    refine XS.aloadN X0.here hx rfl (hb hby d5_0) rfl rfl ?_
    exact k
  obtain ⟨T1, X1, e1, st1⟩ := getF X0 hx hZ hown (host := "") (Or.inl (hw _ (List.mem_of_getElem? (i := 56) rfl))) Via.refl e0 F_s (g := (mkF m 1 #[.val (.ref a1)] [(.ref a1)])) rfl rfl (hb hby d5_1)
  refine own_go (B := T1.setTop (mkF m 4 #[.val (.ref a1)] [.null])) (fun t k => st1 _ k) ?_
  refine own_go (B := T1.setTop (mkF m 8 #[.val (.ref a1)] [(.ref a1)])) (fun t k => ?_) ?_
  · show Steps p.tables e below (T1.setTop (mkF m 4 #[.val (.ref a1)] [.null])) _
    refine XS.ifnonnullNo X1.here hx rfl (hb hby d5_4) rfl ?_
    show Steps p.tables e below (T1.setTop (mkF m 7 #[.val (.ref a1)] [])) _
    refine XS.aloadN X1.here hx rfl (hb hby d5_7) rfl rfl ?_
    exact k
  obtain ⟨T2, X2, e2, st2⟩ := getF X1 hx hZ hown (host := "") (Or.inl (hw _ (List.mem_of_getElem? (i := 58) rfl))) Via.refl e1 F_d (g := (mkF m 8 #[.val (.ref a1)] [(.ref a1)])) rfl rfl (hb hby d5_8)
  refine own_go (B := T2.setTop (mkF m 11 #[.val (.ref a1)] [(.ref x1)])) (fun t k => st2 _ k) ?_
  obtain ⟨fs, hr, hrun, hended, hW, hsame⟩ := X2.leave (v := some (.int (1 : Int32))) (fun h => by rw [Bd.returns] at h; cases h)
  refine ⟨_, _, ?_, hrun, hended, _, _, rfl, ?_, ⟨_, rfl⟩, hW, hsame.mono (by decide) (by decide)⟩
  · show Steps p.tables e below (T2.setTop (mkF m 11 #[.val (.ref a1)] [(.ref x1)])) _
    refine XS.ifnonnullYes X2.here hx rfl (pc0 := 11) (pc' := 21) rfl (hb hby d5_11) rfl (by decide) (by decide) ?_
    show Steps p.tables e below (T2.setTop (mkF m 21 #[.val (.ref a1)] [])) _
    refine XS.iconst X2.here hx rfl (hb hby d5_21) ?_
    show Steps p.tables e below (T2.setTop (mkF m 22 #[.val (.ref a1)] [(.int (1 : Int32))])) _
    refine XS.goto X2.here hx rfl (pc0 := 22) (pc' := 26) rfl (hb hby d5_22) (by decide) (by decide) ?_
    show Steps p.tables e below (T2.setTop (mkF m 26 #[.val (.ref a1)] [(.int (1 : Int32))])) _
    exact retN X2 hx (t := .boolean) Bd.returns (by simp) (hb hby d5_26) hr
  · show Q5b Z a1 x1 h0 n0 _ T2.heap _
    rw [e2]
    exact ⟨rfl, N0, rfl⟩
def Q5c (Z : State) (a1 : Addr) (x2 : Addr) (h0 : Heap) (n0 : Nat) (v : Option Value) (h : Heap) (L : List Loc) : Prop := v = some (.int (1 : Int32)) ∧ Fr n0 L ∧ h = h0
set_option maxRecDepth 65536 in
set_option maxHeartbeats 40000000 in
theorem rm5c (l : Launch) (Z : State) (a0 : Array Value) (hw : ∀ d ∈ tables_1, d.before a0 Z = true) (ws : List Jvm.Cond) (a1 : Addr) (x2 : Addr) (h0 : Heap) (n0 : Nat) (Z0 : n0 ≤ h0.size) (F_s : Fld Z h0 a1 "com/example/sira/sira/wire/MessageProperties" "streamReceipt" "Lcom/example/sira/sira/wire/StreamReceipt;" .null) (F_d : Fld Z h0 a1 "com/example/sira/sira/wire/MessageProperties" "deliveryReceipt" "Lcom/example/sira/sira/wire/DeliveryReceipt;" .null) (F_c : Fld Z h0 a1 "com/example/sira/sira/wire/MessageProperties" "commitmentReceipt" "Lcom/example/sira/sira/wire/CommitmentReceipt;" (.ref x2)) :
    MetFree l (⟨"com/example/sira/sira/wire/MessageProperties", "isReceipt", "()Z"⟩ : MethodName) (head1 (Jvm.Cond.code (⟨"com/example/sira/sira/wire/MessageProperties", "isReceipt", "()Z"⟩ : MethodName) prog_44_method_42_code 1 (some .boolean) :: ws) ({ frames := 0, cells := 0, slots := 0, locals := 0 } : Room)) (fun a U => a = #[(.ref a1)] ∧ Z.Warmed39 U.vm ∧ U.heap = h0) (fun _ _ _ _ _ => True) (fun _ U o U' => ∃ v L, o = .returned v ∧ Q5c Z a1 x2 h0 n0 v U'.heap L ∧ FrameEnd U o U' L ({ frames := 0, cells := 0, slots := 0, locals := 0 } : Room).cells ({ frames := 0, cells := 0, slots := 0, locals := 0 } : Room).slots) := by
  refine MetFree.of_bodySF (plainFor_of_name pn_5) hisR ?_
  intro p e s m args below meth c s₁ Bd hml0 hP hK
  obtain ⟨rfl, hZ, hh⟩ := hP
  have hx := Bd.exec
  have hby := Bd.bytes
  have hml : c.maxLocals = 1 := hml0
  have hown : s.vm.findClass "com/example/sira/sira/wire/MessageProperties" = some m.cls := findClass_of_methodNamed Bd.named
  have hnm := (name_of_methodNamed Bd.named Bd.method).1
  have X0 : Stand p l e ({ frames := 0, cells := 0, slots := 0, locals := 0 } : Room) s m #[(.ref a1)] below meth c s₁ [] 0 0 := Stand.of_body Bd
  have e0 : s₁.heap = h0 := by rw [← hh, Bd.state]; rfl
  have N0 := Fr.nil n0
  refine own_go (B := s₁.setTop (mkF m 0 #[.val (.ref a1)] [])) (fun t k => castTop (ef_5 m a1) k) ?_
  refine own_go (B := s₁.setTop (mkF m 1 #[.val (.ref a1)] [(.ref a1)])) (fun t k => ?_) ?_
  · show Steps p.tables e below (s₁.setTop (mkF m 0 #[.val (.ref a1)] [])) _
    refine XS.aloadN X0.here hx rfl (hb hby d5_0) rfl rfl ?_
    exact k
  obtain ⟨T1, X1, e1, st1⟩ := getF X0 hx hZ hown (host := "") (Or.inl (hw _ (List.mem_of_getElem? (i := 56) rfl))) Via.refl e0 F_s (g := (mkF m 1 #[.val (.ref a1)] [(.ref a1)])) rfl rfl (hb hby d5_1)
  refine own_go (B := T1.setTop (mkF m 4 #[.val (.ref a1)] [.null])) (fun t k => st1 _ k) ?_
  refine own_go (B := T1.setTop (mkF m 8 #[.val (.ref a1)] [(.ref a1)])) (fun t k => ?_) ?_
  · show Steps p.tables e below (T1.setTop (mkF m 4 #[.val (.ref a1)] [.null])) _
    refine XS.ifnonnullNo X1.here hx rfl (hb hby d5_4) rfl ?_
    show Steps p.tables e below (T1.setTop (mkF m 7 #[.val (.ref a1)] [])) _
    refine XS.aloadN X1.here hx rfl (hb hby d5_7) rfl rfl ?_
    exact k
  obtain ⟨T2, X2, e2, st2⟩ := getF X1 hx hZ hown (host := "") (Or.inl (hw _ (List.mem_of_getElem? (i := 58) rfl))) Via.refl e1 F_d (g := (mkF m 8 #[.val (.ref a1)] [(.ref a1)])) rfl rfl (hb hby d5_8)
  refine own_go (B := T2.setTop (mkF m 11 #[.val (.ref a1)] [.null])) (fun t k => st2 _ k) ?_
  refine own_go (B := T2.setTop (mkF m 15 #[.val (.ref a1)] [(.ref a1)])) (fun t k => ?_) ?_
  · show Steps p.tables e below (T2.setTop (mkF m 11 #[.val (.ref a1)] [.null])) _
    refine XS.ifnonnullNo X2.here hx rfl (hb hby d5_11) rfl ?_
    show Steps p.tables e below (T2.setTop (mkF m 14 #[.val (.ref a1)] [])) _
    refine XS.aloadN X2.here hx rfl (hb hby d5_14) rfl rfl ?_
    exact k
  obtain ⟨T3, X3, e3, st3⟩ := getF X2 hx hZ hown (host := "") (Or.inl (hw _ (List.mem_of_getElem? (i := 60) rfl))) Via.refl e2 F_c (g := (mkF m 15 #[.val (.ref a1)] [(.ref a1)])) rfl rfl (hb hby d5_15)
  refine own_go (B := T3.setTop (mkF m 18 #[.val (.ref a1)] [(.ref x2)])) (fun t k => st3 _ k) ?_
  obtain ⟨fs, hr, hrun, hended, hW, hsame⟩ := X3.leave (v := some (.int (1 : Int32))) (fun h => by rw [Bd.returns] at h; cases h)
  refine ⟨_, _, ?_, hrun, hended, _, _, rfl, ?_, ⟨_, rfl⟩, hW, hsame.mono (by decide) (by decide)⟩
  · show Steps p.tables e below (T3.setTop (mkF m 18 #[.val (.ref a1)] [(.ref x2)])) _
    refine XS.ifnullNo X3.here hx rfl (hb hby d5_18) rfl ?_
    show Steps p.tables e below (T3.setTop (mkF m 21 #[.val (.ref a1)] [])) _
    refine XS.iconst X3.here hx rfl (hb hby d5_21) ?_
    show Steps p.tables e below (T3.setTop (mkF m 22 #[.val (.ref a1)] [(.int (1 : Int32))])) _
    refine XS.goto X3.here hx rfl (pc0 := 22) (pc' := 26) rfl (hb hby d5_22) (by decide) (by decide) ?_
    show Steps p.tables e below (T3.setTop (mkF m 26 #[.val (.ref a1)] [(.int (1 : Int32))])) _
    exact retN X3 hx (t := .boolean) Bd.returns (by simp) (hb hby d5_26) hr
  · show Q5c Z a1 x2 h0 n0 _ T3.heap _
    rw [e3]
    exact ⟨rfl, N0, rfl⟩
theorem pn_6 : plainName "com/example/sira/sira/wire/MessageProperties" = true := by first | (simp [plainName, overriddenIn]; done) | decide +kernel
theorem d6_0 : decode prog_44_method_39_code 0 = .ok (.aload_n 0, 1) := by decide +kernel
theorem d6_1 : decode prog_44_method_39_code 1 = .ok (.aload_n 1, 1) := by decide +kernel
theorem d6_2 : decode prog_44_method_39_code 2 = .ok (.putfield 78, 3) := by decide +kernel
theorem d6_5 : decode prog_44_method_39_code 5 = .ok (.return_, 1) := by decide +kernel
theorem ef_6 (m : MethodId) (x0 : Addr) (x1 : Addr) : entryFrame m #[(.ref x0), (.ref x1)] 2 = mkF m 0 #[.val (.ref x0), .val (.ref x1)] [] := by first | (simp [entryFrame, mkF, argsToLocals, Value.category]; done) | rfl
def Q6 (Z : State) (a1 : Addr) (a2 : Addr) (u1 : Value) (u_streamReceipt : Value) (u_commitmentReceipt : Value) (h0 : Heap) (n0 : Nat) (v : Option Value) (h : Heap) (L : List Loc) : Prop := v = none ∧ Fr n0 L ∧ Keep h0 h [a1] ∧ Exa Z h a1 "com/example/sira/sira/wire/MessageProperties" ∧ Fld Z h a1 "com/example/sira/sira/wire/MessageProperties" "deliveryReceipt" "Lcom/example/sira/sira/wire/DeliveryReceipt;" (.ref a2) ∧ Fld Z h a1 "com/example/sira/sira/wire/MessageProperties" "streamReceipt" "Lcom/example/sira/sira/wire/StreamReceipt;" u_streamReceipt ∧ Fld Z h a1 "com/example/sira/sira/wire/MessageProperties" "commitmentReceipt" "Lcom/example/sira/sira/wire/CommitmentReceipt;" u_commitmentReceipt
set_option maxRecDepth 65536 in
set_option maxHeartbeats 40000000 in
theorem rm6 (l : Launch) (Z : State) (a0 : Array Value) (hw : ∀ d ∈ tables_1, d.before a0 Z = true) (ws : List Jvm.Cond) (a1 : Addr) (a2 : Addr) (u1 : Value) (u_streamReceipt : Value) (u_commitmentReceipt : Value) (h0 : Heap) (n0 : Nat) (Z0 : n0 ≤ h0.size) (E_a1 : Exa Z h0 a1 "com/example/sira/sira/wire/MessageProperties") (g_a1 : n0 ≤ a1) (F_f : Fld Z h0 a1 "com/example/sira/sira/wire/MessageProperties" "deliveryReceipt" "Lcom/example/sira/sira/wire/DeliveryReceipt;" u1) (F_streamReceipt : Fld Z h0 a1 "com/example/sira/sira/wire/MessageProperties" "streamReceipt" "Lcom/example/sira/sira/wire/StreamReceipt;" u_streamReceipt) (F_commitmentReceipt : Fld Z h0 a1 "com/example/sira/sira/wire/MessageProperties" "commitmentReceipt" "Lcom/example/sira/sira/wire/CommitmentReceipt;" u_commitmentReceipt) :
    MetFree l (⟨"com/example/sira/sira/wire/MessageProperties", "setDeliveryReceipt", "(Lcom/example/sira/sira/wire/DeliveryReceipt;)V"⟩ : MethodName) (head1 (Jvm.Cond.code (⟨"com/example/sira/sira/wire/MessageProperties", "setDeliveryReceipt", "(Lcom/example/sira/sira/wire/DeliveryReceipt;)V"⟩ : MethodName) prog_44_method_39_code 2 none :: ws) ({ frames := 0, cells := 0, slots := 0, locals := 0 } : Room)) (fun a U => a = #[(.ref a1), (.ref a2)] ∧ Z.Warmed39 U.vm ∧ U.heap = h0) (fun _ _ _ _ _ => True) (fun _ U o U' => ∃ v L, o = .returned v ∧ Q6 Z a1 a2 u1 u_streamReceipt u_commitmentReceipt h0 n0 v U'.heap L ∧ FrameEnd U o U' L ({ frames := 0, cells := 0, slots := 0, locals := 0 } : Room).cells ({ frames := 0, cells := 0, slots := 0, locals := 0 } : Room).slots) := by
  refine MetFree.of_bodySF (plainFor_of_name pn_6) hisR ?_
  intro p e s m args below meth c s₁ Bd hml0 hP hK
  obtain ⟨rfl, hZ, hh⟩ := hP
  have hx := Bd.exec
  have hby := Bd.bytes
  have hml : c.maxLocals = 2 := hml0
  have hown : s.vm.findClass "com/example/sira/sira/wire/MessageProperties" = some m.cls := findClass_of_methodNamed Bd.named
  have hnm := (name_of_methodNamed Bd.named Bd.method).1
  have X0 : Stand p l e ({ frames := 0, cells := 0, slots := 0, locals := 0 } : Room) s m #[(.ref a1), (.ref a2)] below meth c s₁ [] 0 0 := Stand.of_body Bd
  have e0 : s₁.heap = h0 := by rw [← hh, Bd.state]; rfl
  have N0 := Fr.nil n0
  refine own_go (B := s₁.setTop (mkF m 0 #[.val (.ref a1), .val (.ref a2)] [])) (fun t k => castTop (ef_6 m a1 a2) k) ?_
  refine own_go (B := s₁.setTop (mkF m 2 #[.val (.ref a1), .val (.ref a2)] [(.ref a2), (.ref a1)])) (fun t k => ?_) ?_
  · show Steps p.tables e below (s₁.setTop (mkF m 0 #[.val (.ref a1), .val (.ref a2)] [])) _
    refine XS.aloadN X0.here hx rfl (hb hby d6_0) rfl rfl ?_
    show Steps p.tables e below (s₁.setTop (mkF m 1 #[.val (.ref a1), .val (.ref a2)] [(.ref a1)])) _
    refine XS.aloadN X0.here hx rfl (hb hby d6_1) rfl rfl ?_
    exact k
  obtain ⟨T1, h1, X1, e1, W1, st1⟩ := putF X0 hx hZ hown (host := "") (Or.inl (hw _ (List.mem_of_getElem? (i := 58) rfl))) Via.refl e0 F_f E_a1 (Or.inl (hw _ (List.mem_of_getElem? (i := 59) rfl))) (hw _ (List.mem_of_getElem? (i := 1) rfl)) (ty := (.object "com/example/sira/sira/wire/DeliveryReceipt")) (by decide) rfl rfl (g := (mkF m 2 #[.val (.ref a1), .val (.ref a2)] [(.ref a2), (.ref a1)])) rfl rfl (hb hby d6_2)
  have c1_E_a1 := E_a1.wr W1
  have c1_F_a1_deliveryReceipt := F_f.same W1
  have c1_F_a1_streamReceipt := F_streamReceipt.other W1 (Or.inr (slot_ne (Or.inl (hw _ (List.mem_of_getElem? (i := 57) rfl))) (Or.inl (hw _ (List.mem_of_getElem? (i := 59) rfl))) (by decide) (t := (.object "com/example/sira/sira/wire/StreamReceipt")) (t' := (.object "com/example/sira/sira/wire/DeliveryReceipt")) (by decide) (by decide)))
  have c1_F_a1_commitmentReceipt := F_commitmentReceipt.other W1 (Or.inr (slot_ne (Or.inl (hw _ (List.mem_of_getElem? (i := 61) rfl))) (Or.inl (hw _ (List.mem_of_getElem? (i := 59) rfl))) (by decide) (t := (.object "com/example/sira/sira/wire/CommitmentReceipt")) (t' := (.object "com/example/sira/sira/wire/DeliveryReceipt")) (by decide) (by decide)))
  have K1 := (Keep.refl h0 [a1]).wr W1 (Or.inl (List.mem_of_getElem? (i := 0) rfl))
  have N1 := Fr.snoc X1 N0 g_a1
  refine own_go (B := T1.setTop (mkF m 5 #[.val (.ref a1), .val (.ref a2)] [])) (fun t k => st1 _ k) ?_
  obtain ⟨fs, hr, hrun, hended, hW, hsame⟩ := X1.leave (v := none) (fun _ => rfl)
  refine ⟨_, _, ?_, hrun, hended, _, _, rfl, ?_, ⟨_, rfl⟩, hW, hsame.mono (by decide) (by decide)⟩
  · show Steps p.tables e below (T1.setTop (mkF m 5 #[.val (.ref a1), .val (.ref a2)] [])) _
    exact X1.returnOut hx Bd.returns (hb hby d6_5) hr
  · show Q6 Z a1 a2 u1 u_streamReceipt u_commitmentReceipt h0 n0 _ T1.heap _
    rw [e1]
    exact ⟨rfl, N1, K1, c1_E_a1, c1_F_a1_deliveryReceipt, c1_F_a1_streamReceipt, c1_F_a1_commitmentReceipt⟩
theorem ef_6n1 (m : MethodId) (x0 : Addr) : entryFrame m #[(.ref x0), .null] 2 = mkF m 0 #[.val (.ref x0), .val .null] [] := by first | (simp [entryFrame, mkF, argsToLocals, Value.category]; done) | rfl
def Q6n (Z : State) (a1 : Addr) (u1 : Value) (u_streamReceipt : Value) (u_commitmentReceipt : Value) (h0 : Heap) (n0 : Nat) (v : Option Value) (h : Heap) (L : List Loc) : Prop := v = none ∧ Fr n0 L ∧ Keep h0 h [a1] ∧ Exa Z h a1 "com/example/sira/sira/wire/MessageProperties" ∧ Fld Z h a1 "com/example/sira/sira/wire/MessageProperties" "deliveryReceipt" "Lcom/example/sira/sira/wire/DeliveryReceipt;" .null ∧ Fld Z h a1 "com/example/sira/sira/wire/MessageProperties" "streamReceipt" "Lcom/example/sira/sira/wire/StreamReceipt;" u_streamReceipt ∧ Fld Z h a1 "com/example/sira/sira/wire/MessageProperties" "commitmentReceipt" "Lcom/example/sira/sira/wire/CommitmentReceipt;" u_commitmentReceipt
set_option maxRecDepth 65536 in
set_option maxHeartbeats 40000000 in
theorem rm6n (l : Launch) (Z : State) (a0 : Array Value) (hw : ∀ d ∈ tables_1, d.before a0 Z = true) (ws : List Jvm.Cond) (a1 : Addr) (u1 : Value) (u_streamReceipt : Value) (u_commitmentReceipt : Value) (h0 : Heap) (n0 : Nat) (Z0 : n0 ≤ h0.size) (E_a1 : Exa Z h0 a1 "com/example/sira/sira/wire/MessageProperties") (g_a1 : n0 ≤ a1) (F_f : Fld Z h0 a1 "com/example/sira/sira/wire/MessageProperties" "deliveryReceipt" "Lcom/example/sira/sira/wire/DeliveryReceipt;" u1) (F_streamReceipt : Fld Z h0 a1 "com/example/sira/sira/wire/MessageProperties" "streamReceipt" "Lcom/example/sira/sira/wire/StreamReceipt;" u_streamReceipt) (F_commitmentReceipt : Fld Z h0 a1 "com/example/sira/sira/wire/MessageProperties" "commitmentReceipt" "Lcom/example/sira/sira/wire/CommitmentReceipt;" u_commitmentReceipt) :
    MetFree l (⟨"com/example/sira/sira/wire/MessageProperties", "setDeliveryReceipt", "(Lcom/example/sira/sira/wire/DeliveryReceipt;)V"⟩ : MethodName) (head1 (Jvm.Cond.code (⟨"com/example/sira/sira/wire/MessageProperties", "setDeliveryReceipt", "(Lcom/example/sira/sira/wire/DeliveryReceipt;)V"⟩ : MethodName) prog_44_method_39_code 2 none :: ws) ({ frames := 0, cells := 0, slots := 0, locals := 0 } : Room)) (fun a U => a = #[(.ref a1), .null] ∧ Z.Warmed39 U.vm ∧ U.heap = h0) (fun _ _ _ _ _ => True) (fun _ U o U' => ∃ v L, o = .returned v ∧ Q6n Z a1 u1 u_streamReceipt u_commitmentReceipt h0 n0 v U'.heap L ∧ FrameEnd U o U' L ({ frames := 0, cells := 0, slots := 0, locals := 0 } : Room).cells ({ frames := 0, cells := 0, slots := 0, locals := 0 } : Room).slots) := by
  refine MetFree.of_bodySF (plainFor_of_name pn_6) hisR ?_
  intro p e s m args below meth c s₁ Bd hml0 hP hK
  obtain ⟨rfl, hZ, hh⟩ := hP
  have hx := Bd.exec
  have hby := Bd.bytes
  have hml : c.maxLocals = 2 := hml0
  have hown : s.vm.findClass "com/example/sira/sira/wire/MessageProperties" = some m.cls := findClass_of_methodNamed Bd.named
  have hnm := (name_of_methodNamed Bd.named Bd.method).1
  have X0 : Stand p l e ({ frames := 0, cells := 0, slots := 0, locals := 0 } : Room) s m #[(.ref a1), .null] below meth c s₁ [] 0 0 := Stand.of_body Bd
  have e0 : s₁.heap = h0 := by rw [← hh, Bd.state]; rfl
  have N0 := Fr.nil n0
  refine own_go (B := s₁.setTop (mkF m 0 #[.val (.ref a1), .val .null] [])) (fun t k => castTop (ef_6n1 m a1) k) ?_
  refine own_go (B := s₁.setTop (mkF m 2 #[.val (.ref a1), .val .null] [.null, (.ref a1)])) (fun t k => ?_) ?_
  · show Steps p.tables e below (s₁.setTop (mkF m 0 #[.val (.ref a1), .val .null] [])) _
    refine XS.aloadN X0.here hx rfl (hb hby d6_0) rfl rfl ?_
    show Steps p.tables e below (s₁.setTop (mkF m 1 #[.val (.ref a1), .val .null] [(.ref a1)])) _
    refine XS.aloadN X0.here hx rfl (hb hby d6_1) rfl rfl ?_
    exact k
  obtain ⟨T1, h1, X1, e1, W1, st1⟩ := putF X0 hx hZ hown (host := "") (Or.inl (hw _ (List.mem_of_getElem? (i := 58) rfl))) Via.refl e0 F_f E_a1 (Or.inl (hw _ (List.mem_of_getElem? (i := 59) rfl))) (hw _ (List.mem_of_getElem? (i := 1) rfl)) (ty := (.object "com/example/sira/sira/wire/DeliveryReceipt")) (by decide) rfl rfl (g := (mkF m 2 #[.val (.ref a1), .val .null] [.null, (.ref a1)])) rfl rfl (hb hby d6_2)
  have c1_E_a1 := E_a1.wr W1
  have c1_F_a1_deliveryReceipt := F_f.same W1
  have c1_F_a1_streamReceipt := F_streamReceipt.other W1 (Or.inr (slot_ne (Or.inl (hw _ (List.mem_of_getElem? (i := 57) rfl))) (Or.inl (hw _ (List.mem_of_getElem? (i := 59) rfl))) (by decide) (t := (.object "com/example/sira/sira/wire/StreamReceipt")) (t' := (.object "com/example/sira/sira/wire/DeliveryReceipt")) (by decide) (by decide)))
  have c1_F_a1_commitmentReceipt := F_commitmentReceipt.other W1 (Or.inr (slot_ne (Or.inl (hw _ (List.mem_of_getElem? (i := 61) rfl))) (Or.inl (hw _ (List.mem_of_getElem? (i := 59) rfl))) (by decide) (t := (.object "com/example/sira/sira/wire/CommitmentReceipt")) (t' := (.object "com/example/sira/sira/wire/DeliveryReceipt")) (by decide) (by decide)))
  have K1 := (Keep.refl h0 [a1]).wr W1 (Or.inl (List.mem_of_getElem? (i := 0) rfl))
  have N1 := Fr.snoc X1 N0 g_a1
  refine own_go (B := T1.setTop (mkF m 5 #[.val (.ref a1), .val .null] [])) (fun t k => st1 _ k) ?_
  obtain ⟨fs, hr, hrun, hended, hW, hsame⟩ := X1.leave (v := none) (fun _ => rfl)
  refine ⟨_, _, ?_, hrun, hended, _, _, rfl, ?_, ⟨_, rfl⟩, hW, hsame.mono (by decide) (by decide)⟩
  · show Steps p.tables e below (T1.setTop (mkF m 5 #[.val (.ref a1), .val .null] [])) _
    exact X1.returnOut hx Bd.returns (hb hby d6_5) hr
  · show Q6n Z a1 u1 u_streamReceipt u_commitmentReceipt h0 n0 _ T1.heap _
    rw [e1]
    exact ⟨rfl, N1, K1, c1_E_a1, c1_F_a1_deliveryReceipt, c1_F_a1_streamReceipt, c1_F_a1_commitmentReceipt⟩
theorem pn_7 : plainName "com/example/sira/sira/wire/MessageProperties" = true := by first | (simp [plainName, overriddenIn]; done) | decide +kernel
theorem d7_0 : decode prog_44_method_41_code 0 = .ok (.aload_n 0, 1) := by decide +kernel
theorem d7_1 : decode prog_44_method_41_code 1 = .ok (.aload_n 1, 1) := by decide +kernel
theorem d7_2 : decode prog_44_method_41_code 2 = .ok (.putfield 82, 3) := by decide +kernel
theorem d7_5 : decode prog_44_method_41_code 5 = .ok (.return_, 1) := by decide +kernel
theorem ef_7 (m : MethodId) (x0 : Addr) (x1 : Addr) : entryFrame m #[(.ref x0), (.ref x1)] 2 = mkF m 0 #[.val (.ref x0), .val (.ref x1)] [] := by first | (simp [entryFrame, mkF, argsToLocals, Value.category]; done) | rfl
def Q7 (Z : State) (a1 : Addr) (a2 : Addr) (u1 : Value) (u_streamReceipt : Value) (u_deliveryReceipt : Value) (h0 : Heap) (n0 : Nat) (v : Option Value) (h : Heap) (L : List Loc) : Prop := v = none ∧ Fr n0 L ∧ Keep h0 h [a1] ∧ Exa Z h a1 "com/example/sira/sira/wire/MessageProperties" ∧ Fld Z h a1 "com/example/sira/sira/wire/MessageProperties" "commitmentReceipt" "Lcom/example/sira/sira/wire/CommitmentReceipt;" (.ref a2) ∧ Fld Z h a1 "com/example/sira/sira/wire/MessageProperties" "streamReceipt" "Lcom/example/sira/sira/wire/StreamReceipt;" u_streamReceipt ∧ Fld Z h a1 "com/example/sira/sira/wire/MessageProperties" "deliveryReceipt" "Lcom/example/sira/sira/wire/DeliveryReceipt;" u_deliveryReceipt
set_option maxRecDepth 65536 in
set_option maxHeartbeats 40000000 in
theorem rm7 (l : Launch) (Z : State) (a0 : Array Value) (hw : ∀ d ∈ tables_1, d.before a0 Z = true) (ws : List Jvm.Cond) (a1 : Addr) (a2 : Addr) (u1 : Value) (u_streamReceipt : Value) (u_deliveryReceipt : Value) (h0 : Heap) (n0 : Nat) (Z0 : n0 ≤ h0.size) (E_a1 : Exa Z h0 a1 "com/example/sira/sira/wire/MessageProperties") (g_a1 : n0 ≤ a1) (F_f : Fld Z h0 a1 "com/example/sira/sira/wire/MessageProperties" "commitmentReceipt" "Lcom/example/sira/sira/wire/CommitmentReceipt;" u1) (F_streamReceipt : Fld Z h0 a1 "com/example/sira/sira/wire/MessageProperties" "streamReceipt" "Lcom/example/sira/sira/wire/StreamReceipt;" u_streamReceipt) (F_deliveryReceipt : Fld Z h0 a1 "com/example/sira/sira/wire/MessageProperties" "deliveryReceipt" "Lcom/example/sira/sira/wire/DeliveryReceipt;" u_deliveryReceipt) :
    MetFree l (⟨"com/example/sira/sira/wire/MessageProperties", "setCommitmentReceipt", "(Lcom/example/sira/sira/wire/CommitmentReceipt;)V"⟩ : MethodName) (head1 (Jvm.Cond.code (⟨"com/example/sira/sira/wire/MessageProperties", "setCommitmentReceipt", "(Lcom/example/sira/sira/wire/CommitmentReceipt;)V"⟩ : MethodName) prog_44_method_41_code 2 none :: ws) ({ frames := 0, cells := 0, slots := 0, locals := 0 } : Room)) (fun a U => a = #[(.ref a1), (.ref a2)] ∧ Z.Warmed39 U.vm ∧ U.heap = h0) (fun _ _ _ _ _ => True) (fun _ U o U' => ∃ v L, o = .returned v ∧ Q7 Z a1 a2 u1 u_streamReceipt u_deliveryReceipt h0 n0 v U'.heap L ∧ FrameEnd U o U' L ({ frames := 0, cells := 0, slots := 0, locals := 0 } : Room).cells ({ frames := 0, cells := 0, slots := 0, locals := 0 } : Room).slots) := by
  refine MetFree.of_bodySF (plainFor_of_name pn_7) hisR ?_
  intro p e s m args below meth c s₁ Bd hml0 hP hK
  obtain ⟨rfl, hZ, hh⟩ := hP
  have hx := Bd.exec
  have hby := Bd.bytes
  have hml : c.maxLocals = 2 := hml0
  have hown : s.vm.findClass "com/example/sira/sira/wire/MessageProperties" = some m.cls := findClass_of_methodNamed Bd.named
  have hnm := (name_of_methodNamed Bd.named Bd.method).1
  have X0 : Stand p l e ({ frames := 0, cells := 0, slots := 0, locals := 0 } : Room) s m #[(.ref a1), (.ref a2)] below meth c s₁ [] 0 0 := Stand.of_body Bd
  have e0 : s₁.heap = h0 := by rw [← hh, Bd.state]; rfl
  have N0 := Fr.nil n0
  refine own_go (B := s₁.setTop (mkF m 0 #[.val (.ref a1), .val (.ref a2)] [])) (fun t k => castTop (ef_7 m a1 a2) k) ?_
  refine own_go (B := s₁.setTop (mkF m 2 #[.val (.ref a1), .val (.ref a2)] [(.ref a2), (.ref a1)])) (fun t k => ?_) ?_
  · show Steps p.tables e below (s₁.setTop (mkF m 0 #[.val (.ref a1), .val (.ref a2)] [])) _
    refine XS.aloadN X0.here hx rfl (hb hby d7_0) rfl rfl ?_
    show Steps p.tables e below (s₁.setTop (mkF m 1 #[.val (.ref a1), .val (.ref a2)] [(.ref a1)])) _
    refine XS.aloadN X0.here hx rfl (hb hby d7_1) rfl rfl ?_
    exact k
  obtain ⟨T1, h1, X1, e1, W1, st1⟩ := putF X0 hx hZ hown (host := "") (Or.inl (hw _ (List.mem_of_getElem? (i := 60) rfl))) Via.refl e0 F_f E_a1 (Or.inl (hw _ (List.mem_of_getElem? (i := 61) rfl))) (hw _ (List.mem_of_getElem? (i := 1) rfl)) (ty := (.object "com/example/sira/sira/wire/CommitmentReceipt")) (by decide) rfl rfl (g := (mkF m 2 #[.val (.ref a1), .val (.ref a2)] [(.ref a2), (.ref a1)])) rfl rfl (hb hby d7_2)
  have c1_E_a1 := E_a1.wr W1
  have c1_F_a1_commitmentReceipt := F_f.same W1
  have c1_F_a1_streamReceipt := F_streamReceipt.other W1 (Or.inr (slot_ne (Or.inl (hw _ (List.mem_of_getElem? (i := 57) rfl))) (Or.inl (hw _ (List.mem_of_getElem? (i := 61) rfl))) (by decide) (t := (.object "com/example/sira/sira/wire/StreamReceipt")) (t' := (.object "com/example/sira/sira/wire/CommitmentReceipt")) (by decide) (by decide)))
  have c1_F_a1_deliveryReceipt := F_deliveryReceipt.other W1 (Or.inr (slot_ne (Or.inl (hw _ (List.mem_of_getElem? (i := 59) rfl))) (Or.inl (hw _ (List.mem_of_getElem? (i := 61) rfl))) (by decide) (t := (.object "com/example/sira/sira/wire/DeliveryReceipt")) (t' := (.object "com/example/sira/sira/wire/CommitmentReceipt")) (by decide) (by decide)))
  have K1 := (Keep.refl h0 [a1]).wr W1 (Or.inl (List.mem_of_getElem? (i := 0) rfl))
  have N1 := Fr.snoc X1 N0 g_a1
  refine own_go (B := T1.setTop (mkF m 5 #[.val (.ref a1), .val (.ref a2)] [])) (fun t k => st1 _ k) ?_
  obtain ⟨fs, hr, hrun, hended, hW, hsame⟩ := X1.leave (v := none) (fun _ => rfl)
  refine ⟨_, _, ?_, hrun, hended, _, _, rfl, ?_, ⟨_, rfl⟩, hW, hsame.mono (by decide) (by decide)⟩
  · show Steps p.tables e below (T1.setTop (mkF m 5 #[.val (.ref a1), .val (.ref a2)] [])) _
    exact X1.returnOut hx Bd.returns (hb hby d7_5) hr
  · show Q7 Z a1 a2 u1 u_streamReceipt u_deliveryReceipt h0 n0 _ T1.heap _
    rw [e1]
    exact ⟨rfl, N1, K1, c1_E_a1, c1_F_a1_commitmentReceipt, c1_F_a1_streamReceipt, c1_F_a1_deliveryReceipt⟩
theorem ef_7n1 (m : MethodId) (x0 : Addr) : entryFrame m #[(.ref x0), .null] 2 = mkF m 0 #[.val (.ref x0), .val .null] [] := by first | (simp [entryFrame, mkF, argsToLocals, Value.category]; done) | rfl
def Q7n (Z : State) (a1 : Addr) (u1 : Value) (u_streamReceipt : Value) (u_deliveryReceipt : Value) (h0 : Heap) (n0 : Nat) (v : Option Value) (h : Heap) (L : List Loc) : Prop := v = none ∧ Fr n0 L ∧ Keep h0 h [a1] ∧ Exa Z h a1 "com/example/sira/sira/wire/MessageProperties" ∧ Fld Z h a1 "com/example/sira/sira/wire/MessageProperties" "commitmentReceipt" "Lcom/example/sira/sira/wire/CommitmentReceipt;" .null ∧ Fld Z h a1 "com/example/sira/sira/wire/MessageProperties" "streamReceipt" "Lcom/example/sira/sira/wire/StreamReceipt;" u_streamReceipt ∧ Fld Z h a1 "com/example/sira/sira/wire/MessageProperties" "deliveryReceipt" "Lcom/example/sira/sira/wire/DeliveryReceipt;" u_deliveryReceipt
set_option maxRecDepth 65536 in
set_option maxHeartbeats 40000000 in
theorem rm7n (l : Launch) (Z : State) (a0 : Array Value) (hw : ∀ d ∈ tables_1, d.before a0 Z = true) (ws : List Jvm.Cond) (a1 : Addr) (u1 : Value) (u_streamReceipt : Value) (u_deliveryReceipt : Value) (h0 : Heap) (n0 : Nat) (Z0 : n0 ≤ h0.size) (E_a1 : Exa Z h0 a1 "com/example/sira/sira/wire/MessageProperties") (g_a1 : n0 ≤ a1) (F_f : Fld Z h0 a1 "com/example/sira/sira/wire/MessageProperties" "commitmentReceipt" "Lcom/example/sira/sira/wire/CommitmentReceipt;" u1) (F_streamReceipt : Fld Z h0 a1 "com/example/sira/sira/wire/MessageProperties" "streamReceipt" "Lcom/example/sira/sira/wire/StreamReceipt;" u_streamReceipt) (F_deliveryReceipt : Fld Z h0 a1 "com/example/sira/sira/wire/MessageProperties" "deliveryReceipt" "Lcom/example/sira/sira/wire/DeliveryReceipt;" u_deliveryReceipt) :
    MetFree l (⟨"com/example/sira/sira/wire/MessageProperties", "setCommitmentReceipt", "(Lcom/example/sira/sira/wire/CommitmentReceipt;)V"⟩ : MethodName) (head1 (Jvm.Cond.code (⟨"com/example/sira/sira/wire/MessageProperties", "setCommitmentReceipt", "(Lcom/example/sira/sira/wire/CommitmentReceipt;)V"⟩ : MethodName) prog_44_method_41_code 2 none :: ws) ({ frames := 0, cells := 0, slots := 0, locals := 0 } : Room)) (fun a U => a = #[(.ref a1), .null] ∧ Z.Warmed39 U.vm ∧ U.heap = h0) (fun _ _ _ _ _ => True) (fun _ U o U' => ∃ v L, o = .returned v ∧ Q7n Z a1 u1 u_streamReceipt u_deliveryReceipt h0 n0 v U'.heap L ∧ FrameEnd U o U' L ({ frames := 0, cells := 0, slots := 0, locals := 0 } : Room).cells ({ frames := 0, cells := 0, slots := 0, locals := 0 } : Room).slots) := by
  refine MetFree.of_bodySF (plainFor_of_name pn_7) hisR ?_
  intro p e s m args below meth c s₁ Bd hml0 hP hK
  obtain ⟨rfl, hZ, hh⟩ := hP
  have hx := Bd.exec
  have hby := Bd.bytes
  have hml : c.maxLocals = 2 := hml0
  have hown : s.vm.findClass "com/example/sira/sira/wire/MessageProperties" = some m.cls := findClass_of_methodNamed Bd.named
  have hnm := (name_of_methodNamed Bd.named Bd.method).1
  have X0 : Stand p l e ({ frames := 0, cells := 0, slots := 0, locals := 0 } : Room) s m #[(.ref a1), .null] below meth c s₁ [] 0 0 := Stand.of_body Bd
  have e0 : s₁.heap = h0 := by rw [← hh, Bd.state]; rfl
  have N0 := Fr.nil n0
  refine own_go (B := s₁.setTop (mkF m 0 #[.val (.ref a1), .val .null] [])) (fun t k => castTop (ef_7n1 m a1) k) ?_
  refine own_go (B := s₁.setTop (mkF m 2 #[.val (.ref a1), .val .null] [.null, (.ref a1)])) (fun t k => ?_) ?_
  · show Steps p.tables e below (s₁.setTop (mkF m 0 #[.val (.ref a1), .val .null] [])) _
    refine XS.aloadN X0.here hx rfl (hb hby d7_0) rfl rfl ?_
    show Steps p.tables e below (s₁.setTop (mkF m 1 #[.val (.ref a1), .val .null] [(.ref a1)])) _
    refine XS.aloadN X0.here hx rfl (hb hby d7_1) rfl rfl ?_
    exact k
  obtain ⟨T1, h1, X1, e1, W1, st1⟩ := putF X0 hx hZ hown (host := "") (Or.inl (hw _ (List.mem_of_getElem? (i := 60) rfl))) Via.refl e0 F_f E_a1 (Or.inl (hw _ (List.mem_of_getElem? (i := 61) rfl))) (hw _ (List.mem_of_getElem? (i := 1) rfl)) (ty := (.object "com/example/sira/sira/wire/CommitmentReceipt")) (by decide) rfl rfl (g := (mkF m 2 #[.val (.ref a1), .val .null] [.null, (.ref a1)])) rfl rfl (hb hby d7_2)
  have c1_E_a1 := E_a1.wr W1
  have c1_F_a1_commitmentReceipt := F_f.same W1
  have c1_F_a1_streamReceipt := F_streamReceipt.other W1 (Or.inr (slot_ne (Or.inl (hw _ (List.mem_of_getElem? (i := 57) rfl))) (Or.inl (hw _ (List.mem_of_getElem? (i := 61) rfl))) (by decide) (t := (.object "com/example/sira/sira/wire/StreamReceipt")) (t' := (.object "com/example/sira/sira/wire/CommitmentReceipt")) (by decide) (by decide)))
  have c1_F_a1_deliveryReceipt := F_deliveryReceipt.other W1 (Or.inr (slot_ne (Or.inl (hw _ (List.mem_of_getElem? (i := 59) rfl))) (Or.inl (hw _ (List.mem_of_getElem? (i := 61) rfl))) (by decide) (t := (.object "com/example/sira/sira/wire/DeliveryReceipt")) (t' := (.object "com/example/sira/sira/wire/CommitmentReceipt")) (by decide) (by decide)))
  have K1 := (Keep.refl h0 [a1]).wr W1 (Or.inl (List.mem_of_getElem? (i := 0) rfl))
  have N1 := Fr.snoc X1 N0 g_a1
  refine own_go (B := T1.setTop (mkF m 5 #[.val (.ref a1), .val .null] [])) (fun t k => st1 _ k) ?_
  obtain ⟨fs, hr, hrun, hended, hW, hsame⟩ := X1.leave (v := none) (fun _ => rfl)
  refine ⟨_, _, ?_, hrun, hended, _, _, rfl, ?_, ⟨_, rfl⟩, hW, hsame.mono (by decide) (by decide)⟩
  · show Steps p.tables e below (T1.setTop (mkF m 5 #[.val (.ref a1), .val .null] [])) _
    exact X1.returnOut hx Bd.returns (hb hby d7_5) hr
  · show Q7n Z a1 u1 u_streamReceipt u_deliveryReceipt h0 n0 _ T1.heap _
    rw [e1]
    exact ⟨rfl, N1, K1, c1_E_a1, c1_F_a1_commitmentReceipt, c1_F_a1_streamReceipt, c1_F_a1_deliveryReceipt⟩
theorem pn_0 : plainName "com/example/sira/sira/wire/MessagePropertiesIsReceiptPinLaw" = true := by first | (simp [plainName, overriddenIn]; done) | decide +kernel
theorem ef_0 (m : MethodId) (x0 : Int32) : entryFrame m #[(.int x0)] maxLocals = mkF m 0 #[.val (.int x0), .unset, .unset, .unset, .unset, .unset, .unset, .unset, .unset, .unset] [] := by first | (simp [entryFrame, mkF, argsToLocals, Value.category, maxLocals]; done) | rfl
def Q0 (Z : State) (p1 : Int32) (h0 : Heap) (n0 : Nat) (v : Option Value) (h : Heap) (L : List Loc) : Prop := v = some (.int 1) ∧ Fr n0 L
set_option maxRecDepth 65536 in
set_option maxHeartbeats 40000000 in
theorem rm0 (l : Launch) (Z : State) (a0 : Array Value) (hw : ∀ d ∈ tables_1, d.before a0 Z = true) (ws : List Jvm.Cond) (p1 : Int32) (h0 : Heap) (n0 : Nat) (Z0 : n0 ≤ h0.size) :
    MetFree l x (head1 (Jvm.Cond.code x code maxLocals ret :: ws) room_1) (fun a U => a = #[(.int p1)] ∧ Z.Warmed39 U.vm ∧ U.heap = h0) (fun _ _ _ _ _ => True) (fun _ U o U' => ∃ v L, o = .returned v ∧ Q0 Z p1 h0 n0 v U'.heap L ∧ ReturnedEndW U o U' L room_1.cells room_1.slots) := by
  refine MetFree.of_bodySF (plainFor_of_name pn_0) hisR ?_
  intro p e s m args below meth c s₁ Bd hml0 hP hK
  obtain ⟨rfl, hZ, hh⟩ := hP
  have hx := Bd.exec
  have hby := Bd.bytes
  have hml : c.maxLocals = 10 := hml0
  have hown : s.vm.findClass "com/example/sira/sira/wire/MessagePropertiesIsReceiptPinLaw" = some m.cls := findClass_of_methodNamed Bd.named
  have hnm := (name_of_methodNamed Bd.named Bd.method).1
  have X0 : Stand p l e room_1 s m #[(.int p1)] below meth c s₁ [] 0 0 := Stand.of_body Bd
  have e0 : s₁.heap = h0 := by rw [← hh, Bd.state]; rfl
  have N0 := Fr.nil n0
  have X0 : Stand p l e room_1 (s.setVm s.vm) m #[(.int p1)] below meth c s₁ [] 0 0 := X0
  have hZ : Z.Warmed39 (s.setVm s.vm).vm := hZ
  have hown : (s.setVm s.vm).vm.findClass "com/example/sira/sira/wire/MessagePropertiesIsReceiptPinLaw" = some m.cls := hown
  have hS : s.Since s.vm 0 := (State.WarmedH.refl s).since 0
  refine own_go (B := s₁.setTop (mkF m 0 #[.val (.int p1), .unset, .unset, .unset, .unset, .unset, .unset, .unset, .unset, .unset] [])) (fun t k => castTop (ef_0 m p1) k) ?_
  refine own_go (B := s₁.setTop (mkF m 3 #[.val (.int p1), .unset, .unset, .unset, .unset, .unset, .unset, .unset, .unset, .unset] [(.int (p1 &&& (1 : Int32)))])) (fun t k => ?_) ?_
  · show Steps p.tables e below (s₁.setTop (mkF m 0 #[.val (.int p1), .unset, .unset, .unset, .unset, .unset, .unset, .unset, .unset, .unset] [])) _
    refine XS.iloadN X0.here hx rfl (hb hby at_0) rfl ?_
    show Steps p.tables e below (s₁.setTop (mkF m 1 #[.val (.int p1), .unset, .unset, .unset, .unset, .unset, .unset, .unset, .unset, .unset] [(.int p1)])) _
    refine XS.iconst X0.here hx rfl (hb hby at_1) ?_
    show Steps p.tables e below (s₁.setTop (mkF m 2 #[.val (.int p1), .unset, .unset, .unset, .unset, .unset, .unset, .unset, .unset, .unset] [(.int (1 : Int32)), (.int p1)])) _
    refine XS.iand X0.here hx rfl (hb hby at_2) rfl ?_
    exact k
  obtain ⟨z1, hz1⟩ : ∃ q : Int32, q = (if (p1 &&& (1 : Int32)) = (0 : Int32) then (0 : Int32) else (1 : Int32)) := ⟨_, rfl⟩
  refine own_go (B := s₁.setTop (mkF m 11 #[.val (.int p1), .unset, .unset, .unset, .unset, .unset, .unset, .unset, .unset, .unset] [(.int z1)])) (fun t k => ?_) ?_
  · by_cases hc3_2 : (p1 &&& (1 : Int32)) = (0 : Int32)
    · rw [show z1 = (0 : Int32) from hz1.trans (by rw [if_pos hc3_2])] at k
      show Steps p.tables e below (s₁.setTop (mkF m 3 #[.val (.int p1), .unset, .unset, .unset, .unset, .unset, .unset, .unset, .unset, .unset] [(.int (p1 &&& (1 : Int32)))])) _
      refine XS.ifYes X0.here hx rfl (pc0 := 3) (pc' := 10) rfl (hb hby at_3) rfl ((if0 _ _).trans (teq hc3_2).1) (by decide) (by decide) ?_
      show Steps p.tables e below (s₁.setTop (mkF m 10 #[.val (.int p1), .unset, .unset, .unset, .unset, .unset, .unset, .unset, .unset, .unset] [])) _
      refine XS.iconst X0.here hx rfl (hb hby at_10) ?_
      exact k
    · rw [show z1 = (1 : Int32) from hz1.trans (by rw [if_neg hc3_2])] at k
      show Steps p.tables e below (s₁.setTop (mkF m 3 #[.val (.int p1), .unset, .unset, .unset, .unset, .unset, .unset, .unset, .unset, .unset] [(.int (p1 &&& (1 : Int32)))])) _
      refine XS.ifNo X0.here hx rfl (hb hby at_3) rfl ((if0 _ _).trans (feq hc3_2).1) ?_
      show Steps p.tables e below (s₁.setTop (mkF m 6 #[.val (.int p1), .unset, .unset, .unset, .unset, .unset, .unset, .unset, .unset, .unset] [])) _
      refine XS.iconst X0.here hx rfl (hb hby at_6) ?_
      show Steps p.tables e below (s₁.setTop (mkF m 7 #[.val (.int p1), .unset, .unset, .unset, .unset, .unset, .unset, .unset, .unset, .unset] [(.int (1 : Int32))])) _
      refine XS.goto X0.here hx rfl (pc0 := 7) (pc' := 11) rfl (hb hby at_7) (by decide) (by decide) ?_
      exact k
  refine own_go (B := s₁.setTop (mkF m 15 #[.val (.int p1), .val (.int z1), .unset, .unset, .unset, .unset, .unset, .unset, .unset, .unset] [(.int (p1 &&& (2 : Int32)))])) (fun t k => ?_) ?_
  · show Steps p.tables e below (s₁.setTop (mkF m 11 #[.val (.int p1), .unset, .unset, .unset, .unset, .unset, .unset, .unset, .unset, .unset] [(.int z1)])) _
    refine XS.istoreN X0.here hx rfl (hb hby at_11) rfl (l' := #[.val (.int p1), .val (.int z1), .unset, .unset, .unset, .unset, .unset, .unset, .unset, .unset]) rfl ?_
    show Steps p.tables e below (s₁.setTop (mkF m 12 #[.val (.int p1), .val (.int z1), .unset, .unset, .unset, .unset, .unset, .unset, .unset, .unset] [])) _
    refine XS.iloadN X0.here hx rfl (hb hby at_12) rfl ?_
    show Steps p.tables e below (s₁.setTop (mkF m 13 #[.val (.int p1), .val (.int z1), .unset, .unset, .unset, .unset, .unset, .unset, .unset, .unset] [(.int p1)])) _
    refine XS.iconst X0.here hx rfl (hb hby at_13) ?_
    show Steps p.tables e below (s₁.setTop (mkF m 14 #[.val (.int p1), .val (.int z1), .unset, .unset, .unset, .unset, .unset, .unset, .unset, .unset] [(.int (2 : Int32)), (.int p1)])) _
    refine XS.iand X0.here hx rfl (hb hby at_14) rfl ?_
    exact k
  obtain ⟨z3, hz3⟩ : ∃ q : Int32, q = (if (p1 &&& (2 : Int32)) = (0 : Int32) then (0 : Int32) else (1 : Int32)) := ⟨_, rfl⟩
  refine own_go (B := s₁.setTop (mkF m 23 #[.val (.int p1), .val (.int z1), .unset, .unset, .unset, .unset, .unset, .unset, .unset, .unset] [(.int z3)])) (fun t k => ?_) ?_
  · by_cases hc15_4 : (p1 &&& (2 : Int32)) = (0 : Int32)
    · rw [show z3 = (0 : Int32) from hz3.trans (by rw [if_pos hc15_4])] at k
      show Steps p.tables e below (s₁.setTop (mkF m 15 #[.val (.int p1), .val (.int z1), .unset, .unset, .unset, .unset, .unset, .unset, .unset, .unset] [(.int (p1 &&& (2 : Int32)))])) _
      refine XS.ifYes X0.here hx rfl (pc0 := 15) (pc' := 22) rfl (hb hby at_15) rfl ((if0 _ _).trans (teq hc15_4).1) (by decide) (by decide) ?_
      show Steps p.tables e below (s₁.setTop (mkF m 22 #[.val (.int p1), .val (.int z1), .unset, .unset, .unset, .unset, .unset, .unset, .unset, .unset] [])) _
      refine XS.iconst X0.here hx rfl (hb hby at_22) ?_
      exact k
    · rw [show z3 = (1 : Int32) from hz3.trans (by rw [if_neg hc15_4])] at k
      show Steps p.tables e below (s₁.setTop (mkF m 15 #[.val (.int p1), .val (.int z1), .unset, .unset, .unset, .unset, .unset, .unset, .unset, .unset] [(.int (p1 &&& (2 : Int32)))])) _
      refine XS.ifNo X0.here hx rfl (hb hby at_15) rfl ((if0 _ _).trans (feq hc15_4).1) ?_
      show Steps p.tables e below (s₁.setTop (mkF m 18 #[.val (.int p1), .val (.int z1), .unset, .unset, .unset, .unset, .unset, .unset, .unset, .unset] [])) _
      refine XS.iconst X0.here hx rfl (hb hby at_18) ?_
      show Steps p.tables e below (s₁.setTop (mkF m 19 #[.val (.int p1), .val (.int z1), .unset, .unset, .unset, .unset, .unset, .unset, .unset, .unset] [(.int (1 : Int32))])) _
      refine XS.goto X0.here hx rfl (pc0 := 19) (pc' := 23) rfl (hb hby at_19) (by decide) (by decide) ?_
      exact k
  refine own_go (B := s₁.setTop (mkF m 27 #[.val (.int p1), .val (.int z1), .val (.int z3), .unset, .unset, .unset, .unset, .unset, .unset, .unset] [(.int (p1 &&& (4 : Int32)))])) (fun t k => ?_) ?_
  · show Steps p.tables e below (s₁.setTop (mkF m 23 #[.val (.int p1), .val (.int z1), .unset, .unset, .unset, .unset, .unset, .unset, .unset, .unset] [(.int z3)])) _
    refine XS.istoreN X0.here hx rfl (hb hby at_23) rfl (l' := #[.val (.int p1), .val (.int z1), .val (.int z3), .unset, .unset, .unset, .unset, .unset, .unset, .unset]) rfl ?_
    show Steps p.tables e below (s₁.setTop (mkF m 24 #[.val (.int p1), .val (.int z1), .val (.int z3), .unset, .unset, .unset, .unset, .unset, .unset, .unset] [])) _
    refine XS.iloadN X0.here hx rfl (hb hby at_24) rfl ?_
    show Steps p.tables e below (s₁.setTop (mkF m 25 #[.val (.int p1), .val (.int z1), .val (.int z3), .unset, .unset, .unset, .unset, .unset, .unset, .unset] [(.int p1)])) _
    refine XS.iconst X0.here hx rfl (hb hby at_25) ?_
    show Steps p.tables e below (s₁.setTop (mkF m 26 #[.val (.int p1), .val (.int z1), .val (.int z3), .unset, .unset, .unset, .unset, .unset, .unset, .unset] [(.int (4 : Int32)), (.int p1)])) _
    refine XS.iand X0.here hx rfl (hb hby at_26) rfl ?_
    exact k
  obtain ⟨z5, hz5⟩ : ∃ q : Int32, q = (if (p1 &&& (4 : Int32)) = (0 : Int32) then (0 : Int32) else (1 : Int32)) := ⟨_, rfl⟩
  refine own_go (B := s₁.setTop (mkF m 35 #[.val (.int p1), .val (.int z1), .val (.int z3), .unset, .unset, .unset, .unset, .unset, .unset, .unset] [(.int z5)])) (fun t k => ?_) ?_
  · by_cases hc27_6 : (p1 &&& (4 : Int32)) = (0 : Int32)
    · rw [show z5 = (0 : Int32) from hz5.trans (by rw [if_pos hc27_6])] at k
      show Steps p.tables e below (s₁.setTop (mkF m 27 #[.val (.int p1), .val (.int z1), .val (.int z3), .unset, .unset, .unset, .unset, .unset, .unset, .unset] [(.int (p1 &&& (4 : Int32)))])) _
      refine XS.ifYes X0.here hx rfl (pc0 := 27) (pc' := 34) rfl (hb hby at_27) rfl ((if0 _ _).trans (teq hc27_6).1) (by decide) (by decide) ?_
      show Steps p.tables e below (s₁.setTop (mkF m 34 #[.val (.int p1), .val (.int z1), .val (.int z3), .unset, .unset, .unset, .unset, .unset, .unset, .unset] [])) _
      refine XS.iconst X0.here hx rfl (hb hby at_34) ?_
      exact k
    · rw [show z5 = (1 : Int32) from hz5.trans (by rw [if_neg hc27_6])] at k
      show Steps p.tables e below (s₁.setTop (mkF m 27 #[.val (.int p1), .val (.int z1), .val (.int z3), .unset, .unset, .unset, .unset, .unset, .unset, .unset] [(.int (p1 &&& (4 : Int32)))])) _
      refine XS.ifNo X0.here hx rfl (hb hby at_27) rfl ((if0 _ _).trans (feq hc27_6).1) ?_
      show Steps p.tables e below (s₁.setTop (mkF m 30 #[.val (.int p1), .val (.int z1), .val (.int z3), .unset, .unset, .unset, .unset, .unset, .unset, .unset] [])) _
      refine XS.iconst X0.here hx rfl (hb hby at_30) ?_
      show Steps p.tables e below (s₁.setTop (mkF m 31 #[.val (.int p1), .val (.int z1), .val (.int z3), .unset, .unset, .unset, .unset, .unset, .unset, .unset] [(.int (1 : Int32))])) _
      refine XS.goto X0.here hx rfl (pc0 := 31) (pc' := 35) rfl (hb hby at_31) (by decide) (by decide) ?_
      exact k
  refine own_go (B := s₁.setTop (mkF m 40 #[.val (.int p1), .val (.int z1), .val (.int z3), .val (.int z5), .unset, .unset, .unset, .unset, .unset, .unset] [(.int (p1 &&& (8 : Int32)))])) (fun t k => ?_) ?_
  · show Steps p.tables e below (s₁.setTop (mkF m 35 #[.val (.int p1), .val (.int z1), .val (.int z3), .unset, .unset, .unset, .unset, .unset, .unset, .unset] [(.int z5)])) _
    refine XS.istoreN X0.here hx rfl (hb hby at_35) rfl (l' := #[.val (.int p1), .val (.int z1), .val (.int z3), .val (.int z5), .unset, .unset, .unset, .unset, .unset, .unset]) rfl ?_
    show Steps p.tables e below (s₁.setTop (mkF m 36 #[.val (.int p1), .val (.int z1), .val (.int z3), .val (.int z5), .unset, .unset, .unset, .unset, .unset, .unset] [])) _
    refine XS.iloadN X0.here hx rfl (hb hby at_36) rfl ?_
    show Steps p.tables e below (s₁.setTop (mkF m 37 #[.val (.int p1), .val (.int z1), .val (.int z3), .val (.int z5), .unset, .unset, .unset, .unset, .unset, .unset] [(.int p1)])) _
    refine XS.bipush X0.here hx rfl (hb hby at_37) ?_
    show Steps p.tables e below (s₁.setTop (mkF m 39 #[.val (.int p1), .val (.int z1), .val (.int z3), .val (.int z5), .unset, .unset, .unset, .unset, .unset, .unset] [(.int (8 : Int32)), (.int p1)])) _
    refine XS.iand X0.here hx rfl (hb hby at_39) rfl ?_
    exact k
  obtain ⟨z7, hz7⟩ : ∃ q : Int32, q = (if (p1 &&& (8 : Int32)) = (0 : Int32) then (0 : Int32) else (1 : Int32)) := ⟨_, rfl⟩
  refine own_go (B := s₁.setTop (mkF m 48 #[.val (.int p1), .val (.int z1), .val (.int z3), .val (.int z5), .unset, .unset, .unset, .unset, .unset, .unset] [(.int z7)])) (fun t k => ?_) ?_
  · by_cases hc40_8 : (p1 &&& (8 : Int32)) = (0 : Int32)
    · rw [show z7 = (0 : Int32) from hz7.trans (by rw [if_pos hc40_8])] at k
      show Steps p.tables e below (s₁.setTop (mkF m 40 #[.val (.int p1), .val (.int z1), .val (.int z3), .val (.int z5), .unset, .unset, .unset, .unset, .unset, .unset] [(.int (p1 &&& (8 : Int32)))])) _
      refine XS.ifYes X0.here hx rfl (pc0 := 40) (pc' := 47) rfl (hb hby at_40) rfl ((if0 _ _).trans (teq hc40_8).1) (by decide) (by decide) ?_
      show Steps p.tables e below (s₁.setTop (mkF m 47 #[.val (.int p1), .val (.int z1), .val (.int z3), .val (.int z5), .unset, .unset, .unset, .unset, .unset, .unset] [])) _
      refine XS.iconst X0.here hx rfl (hb hby at_47) ?_
      exact k
    · rw [show z7 = (1 : Int32) from hz7.trans (by rw [if_neg hc40_8])] at k
      show Steps p.tables e below (s₁.setTop (mkF m 40 #[.val (.int p1), .val (.int z1), .val (.int z3), .val (.int z5), .unset, .unset, .unset, .unset, .unset, .unset] [(.int (p1 &&& (8 : Int32)))])) _
      refine XS.ifNo X0.here hx rfl (hb hby at_40) rfl ((if0 _ _).trans (feq hc40_8).1) ?_
      show Steps p.tables e below (s₁.setTop (mkF m 43 #[.val (.int p1), .val (.int z1), .val (.int z3), .val (.int z5), .unset, .unset, .unset, .unset, .unset, .unset] [])) _
      refine XS.iconst X0.here hx rfl (hb hby at_43) ?_
      show Steps p.tables e below (s₁.setTop (mkF m 44 #[.val (.int p1), .val (.int z1), .val (.int z3), .val (.int z5), .unset, .unset, .unset, .unset, .unset, .unset] [(.int (1 : Int32))])) _
      refine XS.goto X0.here hx rfl (pc0 := 44) (pc' := 48) rfl (hb hby at_44) (by decide) (by decide) ?_
      exact k
  refine own_go (B := s₁.setTop (mkF m 50 #[.val (.int p1), .val (.int z1), .val (.int z3), .val (.int z5), .val (.int z7), .unset, .unset, .unset, .unset, .unset] [])) (fun t k => ?_) ?_
  · show Steps p.tables e below (s₁.setTop (mkF m 48 #[.val (.int p1), .val (.int z1), .val (.int z3), .val (.int z5), .unset, .unset, .unset, .unset, .unset, .unset] [(.int z7)])) _
    refine XS.istore X0.here hx rfl (hb hby at_48) rfl (l' := #[.val (.int p1), .val (.int z1), .val (.int z3), .val (.int z5), .val (.int z7), .unset, .unset, .unset, .unset, .unset]) rfl ?_
    exact k
  obtain ⟨T9, h9, X9, e9, E9, A9, D9, -, st9⟩ := newO X0 hx hZ hown (hw _ (List.mem_of_getElem? (i := 0) rfl)) (hw _ (List.mem_of_getElem? (i := 1) rfl)) (hw _ (List.mem_of_getElem? (i := 2) rfl)) e0 (g := (mkF m 50 #[.val (.int p1), .val (.int z1), .val (.int z3), .val (.int z5), .val (.int z7), .unset, .unset, .unset, .unset, .unset] [])) rfl (hb hby at_50) (by decide) (by decide)
  obtain ⟨b9, g9⟩ : ∃ z, z = h0.size := ⟨_, rfl⟩
  rw [← g9] at A9 D9 st9
  have g_b9 : n0 ≤ b9 := Nat.le_trans Z0 (Nat.le_of_eq g9.symm)
  have F9_id : Fld Z h9 b9 "com/example/sira/sira/wire/MessageProperties" "id" "Ljava/lang/String;" .null := D9 (Or.inl (hw _ (List.mem_of_getElem? (i := 18) rfl))) (ty := (.object "java/lang/String")) (by decide)
  have F9_label : Fld Z h9 b9 "com/example/sira/sira/wire/MessageProperties" "label" "Ljava/lang/String;" .null := D9 (Or.inl (hw _ (List.mem_of_getElem? (i := 21) rfl))) (ty := (.object "java/lang/String")) (by decide)
  have F9_priority : Fld Z h9 b9 "com/example/sira/sira/wire/MessageProperties" "priority" "I" (.int (0 : Int32)) := D9 (Or.inl (hw _ (List.mem_of_getElem? (i := 23) rfl))) (ty := .int) (by decide)
  have F9_sourceQm : Fld Z h9 b9 "com/example/sira/sira/wire/MessageProperties" "sourceQm" "Ljava/lang/String;" .null := D9 (Or.inl (hw _ (List.mem_of_getElem? (i := 26) rfl))) (ty := (.object "java/lang/String")) (by decide)
  have F9_streamReceipt : Fld Z h9 b9 "com/example/sira/sira/wire/MessageProperties" "streamReceipt" "Lcom/example/sira/sira/wire/StreamReceipt;" .null := D9 (Or.inl (hw _ (List.mem_of_getElem? (i := 57) rfl))) (ty := (.object "com/example/sira/sira/wire/StreamReceipt")) (by decide)
  have F9_deliveryReceipt : Fld Z h9 b9 "com/example/sira/sira/wire/MessageProperties" "deliveryReceipt" "Lcom/example/sira/sira/wire/DeliveryReceipt;" .null := D9 (Or.inl (hw _ (List.mem_of_getElem? (i := 59) rfl))) (ty := (.object "com/example/sira/sira/wire/DeliveryReceipt")) (by decide)
  have F9_commitmentReceipt : Fld Z h9 b9 "com/example/sira/sira/wire/MessageProperties" "commitmentReceipt" "Lcom/example/sira/sira/wire/CommitmentReceipt;" .null := D9 (Or.inl (hw _ (List.mem_of_getElem? (i := 61) rfl))) (ty := (.object "com/example/sira/sira/wire/CommitmentReceipt")) (by decide)
  refine own_go (B := T9.setTop (mkF m 53 #[.val (.int p1), .val (.int z1), .val (.int z3), .val (.int z5), .val (.int z7), .unset, .unset, .unset, .unset, .unset] [(.ref b9)])) (fun t k => st9 _ k) ?_
  refine own_go (B := T9.setTop (mkF m 54 #[.val (.int p1), .val (.int z1), .val (.int z3), .val (.int z5), .val (.int z7), .unset, .unset, .unset, .unset, .unset] [(.ref b9), (.ref b9)])) (fun t k => ?_) ?_
  · show Steps p.tables e below (T9.setTop (mkF m 53 #[.val (.int p1), .val (.int z1), .val (.int z3), .val (.int z5), .val (.int z7), .unset, .unset, .unset, .unset, .unset] [(.ref b9)])) _
    refine XS.dup X9.here hx rfl (hb hby at_53) rfl rfl ?_
    exact k
  obtain ⟨_, _, ⟨T10, L10, k10, n10⟩, -, X10, hS10, hg10, ⟨Lc10, hQ10, l10, y10, z10⟩, st10⟩ := X9.specialBackS hx (y := (⟨"com/example/sira/sira/wire/MessageProperties", "<init>", "()V"⟩ : MethodName)) rfl hown (mvT hZ (hw _ (List.mem_of_getElem? (i := 3) rfl))) (mvT hZ (hw _ (List.mem_of_getElem? (i := 4) rfl))) (mvT hZ (hw _ (List.mem_of_getElem? (i := 5) rfl))) (by decide) (backOfS (W := 1) (rm1 l Z a0 hw [] b9 h9 n0 (Nat.le_trans Z0 E9.1) A9 g_b9 F9_id F9_label F9_priority F9_sourceQm F9_streamReceipt F9_deliveryReceipt F9_commitmentReceipt) hZ (hw _ (List.mem_of_getElem? (i := 5) rfl)) (hw _ (List.mem_of_getElem? (i := 2) rfl)) (by decide) (by decide)) (g := (mkF m 54 #[.val (.int p1), .val (.int z1), .val (.int z3), .val (.int z5), .val (.int z7), .unset, .unset, .unset, .unset, .unset] [(.ref b9), (.ref b9)])) rfl (by rw [hml]; rfl) (Steps.refl _) (a := b9) (argsL := []) (rest := [(.ref b9)]) (lenOf own_pd0 rfl) rfl (by show 2 * 0 + _ ≤ _; exact Nat.le_of_eq rfl) (hb hby at_54) (fun _ _ => ⟨rfl, e9, (by decide : 1 + 6 ≤ _), (by decide : 20 + 328 ≤ _)⟩)
  dsimp only [Pt.U, Pt.locs, Pt.cells, Pt.slots] at X10 l10 y10 z10 st10 hQ10 hS10 hg10
  subst l10 y10 z10
  have hS := hS.trans hS10 (Nat.le_trans (Nat.le_trans (Nat.zero_le _) E9.1) (Nat.le_trans (Nat.le_of_eq (congrArg Array.size e9.symm)) hg10))
  have hZ : Z.Warmed39 (s.setVm T10.vm).vm := State.Warmed39.trans hZ hS10.1
  have hown : (s.setVm T10.vm).vm.findClass "com/example/sira/sira/wire/MessagePropertiesIsReceiptPinLaw" = some m.cls := (hS10.1.alike.findClass _ _).trans hown
  obtain ⟨rfl, N10q, K10q, E10q, F10_streamReceipt, F10_deliveryReceipt, F10_commitmentReceipt⟩ := hQ10
  have N10 := Fr.app N0 N10q
  refine own_go (B := T10.setTop (mkF m 57 #[.val (.int p1), .val (.int z1), .val (.int z3), .val (.int z5), .val (.int z7), .unset, .unset, .unset, .unset, .unset] [(.ref b9)])) (fun t k => st10.trans k) ?_
  refine own_go (B := T10.setTop (mkF m 59 #[.val (.int p1), .val (.int z1), .val (.int z3), .val (.int z5), .val (.int z7), .val (.ref b9), .unset, .unset, .unset, .unset] [])) (fun t k => ?_) ?_
  · show Steps p.tables e below (T10.setTop (mkF m 57 #[.val (.int p1), .val (.int z1), .val (.int z3), .val (.int z5), .val (.int z7), .unset, .unset, .unset, .unset, .unset] [(.ref b9)])) _
    refine XS.astore X10.here hx rfl (hb hby at_57) rfl rfl (l' := #[.val (.int p1), .val (.int z1), .val (.int z3), .val (.int z5), .val (.int z7), .val (.ref b9), .unset, .unset, .unset, .unset]) rfl ?_
    exact k
  obtain ⟨T11, h11, X11, e11, E11, A11, D11, -, st11⟩ := newO X10 hx hZ hown (hw _ (List.mem_of_getElem? (i := 27) rfl)) (hw _ (List.mem_of_getElem? (i := 28) rfl)) (hw _ (List.mem_of_getElem? (i := 29) rfl)) rfl (g := (mkF m 59 #[.val (.int p1), .val (.int z1), .val (.int z3), .val (.int z5), .val (.int z7), .val (.ref b9), .unset, .unset, .unset, .unset] [])) rfl (hb hby at_59) (by decide) (by decide)
  obtain ⟨b11, g11⟩ : ∃ z, z = T10.heap.size := ⟨_, rfl⟩
  rw [← g11] at A11 D11 st11
  have g_b11 : n0 ≤ b11 := Nat.le_trans (Nat.le_trans (Nat.le_trans Z0 E9.1) K10q.1) (Nat.le_of_eq g11.symm)
  have ne_b9_b11 : b9 ≠ b11 := Nat.ne_of_lt (Nat.lt_of_lt_of_le F10_streamReceipt.lt (Nat.le_of_eq g11.symm))
  have c11_F_b9_streamReceipt := F10_streamReceipt.ext E11
  have c11_F_b9_deliveryReceipt := F10_deliveryReceipt.ext E11
  have c11_F_b9_commitmentReceipt := F10_commitmentReceipt.ext E11
  have c11_E_b9 := E10q.ext E11
  have F11_receivedAt : Fld Z h11 b11 "com/example/sira/sira/wire/DeliveryReceipt" "receivedAt" "Ljava/time/Instant;" .null := D11 (Or.inr (hw _ (List.mem_of_getElem? (i := 35) rfl))) (ty := (.object "java/time/Instant")) (by decide)
  have F11_id : Fld Z h11 b11 "com/example/sira/sira/wire/DeliveryReceipt" "id" "Ljava/lang/String;" .null := D11 (Or.inr (hw _ (List.mem_of_getElem? (i := 37) rfl))) (ty := (.object "java/lang/String")) (by decide)
  refine own_go (B := T11.setTop (mkF m 62 #[.val (.int p1), .val (.int z1), .val (.int z3), .val (.int z5), .val (.int z7), .val (.ref b9), .unset, .unset, .unset, .unset] [(.ref b11)])) (fun t k => st11 _ k) ?_
  refine own_go (B := T11.setTop (mkF m 65 #[.val (.int p1), .val (.int z1), .val (.int z3), .val (.int z5), .val (.int z7), .val (.ref b9), .unset, .unset, .unset, .unset] [.null, .null, (.ref b11), (.ref b11)])) (fun t k => ?_) ?_
  · show Steps p.tables e below (T11.setTop (mkF m 62 #[.val (.int p1), .val (.int z1), .val (.int z3), .val (.int z5), .val (.int z7), .val (.ref b9), .unset, .unset, .unset, .unset] [(.ref b11)])) _
    refine XS.dup X11.here hx rfl (hb hby at_62) rfl rfl ?_
    show Steps p.tables e below (T11.setTop (mkF m 63 #[.val (.int p1), .val (.int z1), .val (.int z3), .val (.int z5), .val (.int z7), .val (.ref b9), .unset, .unset, .unset, .unset] [(.ref b11), (.ref b11)])) _
    refine XS.aconstNull X11.here hx rfl (hb hby at_63) ?_
    show Steps p.tables e below (T11.setTop (mkF m 64 #[.val (.int p1), .val (.int z1), .val (.int z3), .val (.int z5), .val (.int z7), .val (.ref b9), .unset, .unset, .unset, .unset] [.null, (.ref b11), (.ref b11)])) _
    refine XS.aconstNull X11.here hx rfl (hb hby at_64) ?_
    exact k
  obtain ⟨_, _, ⟨T12, L12, k12, n12⟩, -, X12, ⟨Lc12, hQ12, l12, y12, z12⟩, st12⟩ := X11.specialBack hx (y := (⟨"com/example/sira/sira/wire/DeliveryReceipt", "<init>", "(Ljava/time/Instant;Ljava/lang/String;)V"⟩ : MethodName)) rfl hown (mvT hZ (hw _ (List.mem_of_getElem? (i := 30) rfl))) (mvT hZ (hw _ (List.mem_of_getElem? (i := 31) rfl))) (mvT hZ (hw _ (List.mem_of_getElem? (i := 32) rfl))) (by decide) (backOf (W := 1) (rm3 l Z a0 hw [] b11 h11 n0 (Nat.le_trans (Nat.le_trans (Nat.le_trans Z0 E9.1) K10q.1) E11.1) A11 g_b11 F11_receivedAt F11_id) hZ (hw _ (List.mem_of_getElem? (i := 32) rfl)) (hw _ (List.mem_of_getElem? (i := 29) rfl)) (by decide) (by decide)) (g := (mkF m 65 #[.val (.int p1), .val (.int z1), .val (.int z3), .val (.int z5), .val (.int z7), .val (.ref b9), .unset, .unset, .unset, .unset] [.null, .null, (.ref b11), (.ref b11)])) rfl (by rw [hml]; rfl) (Steps.refl _) (a := b11) (argsL := [.null, .null]) (rest := [(.ref b11)]) (lenOf own_pd1 rfl) rfl (by show 2 * 0 + _ ≤ _; exact Nat.le_of_eq rfl) (hb hby at_65) (fun _ _ => ⟨rfl, e11, (by decide : 8 + 0 ≤ _), (by decide : 350 + 0 ≤ _)⟩)
  dsimp only [Pt.U, Pt.locs, Pt.cells, Pt.slots] at X12 l12 y12 z12 st12 hQ12
  subst l12 y12 z12
  obtain ⟨rfl, N12q, K12q, E12q⟩ := hQ12
  have N12 := Fr.app N10 N12q
  have c12_F_b9_streamReceipt := c11_F_b9_streamReceipt.keep K12q (fun q => ne_b9_b11 (List.mem_singleton.mp q))
  have c12_F_b9_deliveryReceipt := c11_F_b9_deliveryReceipt.keep K12q (fun q => ne_b9_b11 (List.mem_singleton.mp q))
  have c12_F_b9_commitmentReceipt := c11_F_b9_commitmentReceipt.keep K12q (fun q => ne_b9_b11 (List.mem_singleton.mp q))
  have c12_E_b9 := c11_E_b9.keep K12q
  refine own_go (B := T12.setTop (mkF m 68 #[.val (.int p1), .val (.int z1), .val (.int z3), .val (.int z5), .val (.int z7), .val (.ref b9), .unset, .unset, .unset, .unset] [(.ref b11)])) (fun t k => st12.trans k) ?_
  refine own_go (B := T12.setTop (mkF m 70 #[.val (.int p1), .val (.int z1), .val (.int z3), .val (.int z5), .val (.int z7), .val (.ref b9), .val (.ref b11), .unset, .unset, .unset] [])) (fun t k => ?_) ?_
  · show Steps p.tables e below (T12.setTop (mkF m 68 #[.val (.int p1), .val (.int z1), .val (.int z3), .val (.int z5), .val (.int z7), .val (.ref b9), .unset, .unset, .unset, .unset] [(.ref b11)])) _
    refine XS.astore X12.here hx rfl (hb hby at_68) rfl rfl (l' := #[.val (.int p1), .val (.int z1), .val (.int z3), .val (.int z5), .val (.int z7), .val (.ref b9), .val (.ref b11), .unset, .unset, .unset]) rfl ?_
    exact k
  obtain ⟨T13, h13, X13, e13, E13, A13, D13, -, st13⟩ := newO X12 hx hZ hown (hw _ (List.mem_of_getElem? (i := 38) rfl)) (hw _ (List.mem_of_getElem? (i := 39) rfl)) (hw _ (List.mem_of_getElem? (i := 40) rfl)) rfl (g := (mkF m 70 #[.val (.int p1), .val (.int z1), .val (.int z3), .val (.int z5), .val (.int z7), .val (.ref b9), .val (.ref b11), .unset, .unset, .unset] [])) rfl (hb hby at_70) (by decide) (by decide)
  obtain ⟨b13, g13⟩ : ∃ z, z = T12.heap.size := ⟨_, rfl⟩
  rw [← g13] at A13 D13 st13
  have g_b13 : n0 ≤ b13 := Nat.le_trans (Nat.le_trans (Nat.le_trans (Nat.le_trans (Nat.le_trans Z0 E9.1) K10q.1) E11.1) K12q.1) (Nat.le_of_eq g13.symm)
  have ne_b9_b13 : b9 ≠ b13 := Nat.ne_of_lt (Nat.lt_of_lt_of_le c12_F_b9_streamReceipt.lt (Nat.le_of_eq g13.symm))
  have ne_b11_b13 : b11 ≠ b13 := Nat.ne_of_lt (Nat.lt_of_lt_of_le E12q.lt (Nat.le_of_eq g13.symm))
  have c13_F_b9_streamReceipt := c12_F_b9_streamReceipt.ext E13
  have c13_F_b9_deliveryReceipt := c12_F_b9_deliveryReceipt.ext E13
  have c13_F_b9_commitmentReceipt := c12_F_b9_commitmentReceipt.ext E13
  have c13_E_b9 := c12_E_b9.ext E13
  have c13_E_b11 := E12q.ext E13
  have F13_decidedAt : Fld Z h13 b13 "com/example/sira/sira/wire/CommitmentReceipt" "decidedAt" "Ljava/time/Instant;" .null := D13 (Or.inr (hw _ (List.mem_of_getElem? (i := 46) rfl))) (ty := (.object "java/time/Instant")) (by decide)
  have F13_positive : Fld Z h13 b13 "com/example/sira/sira/wire/CommitmentReceipt" "positive" "Z" (.int (0 : Int32)) := D13 (Or.inr (hw _ (List.mem_of_getElem? (i := 48) rfl))) (ty := .boolean) (by decide)
  have F13_id : Fld Z h13 b13 "com/example/sira/sira/wire/CommitmentReceipt" "id" "Ljava/lang/String;" .null := D13 (Or.inr (hw _ (List.mem_of_getElem? (i := 50) rfl))) (ty := (.object "java/lang/String")) (by decide)
  refine own_go (B := T13.setTop (mkF m 73 #[.val (.int p1), .val (.int z1), .val (.int z3), .val (.int z5), .val (.int z7), .val (.ref b9), .val (.ref b11), .unset, .unset, .unset] [(.ref b13)])) (fun t k => st13 _ k) ?_
  refine own_go (B := T13.setTop (mkF m 78 #[.val (.int p1), .val (.int z1), .val (.int z3), .val (.int z5), .val (.int z7), .val (.ref b9), .val (.ref b11), .unset, .unset, .unset] [.null, (.int z7), .null, (.ref b13), (.ref b13)])) (fun t k => ?_) ?_
  · show Steps p.tables e below (T13.setTop (mkF m 73 #[.val (.int p1), .val (.int z1), .val (.int z3), .val (.int z5), .val (.int z7), .val (.ref b9), .val (.ref b11), .unset, .unset, .unset] [(.ref b13)])) _
    refine XS.dup X13.here hx rfl (hb hby at_73) rfl rfl ?_
    show Steps p.tables e below (T13.setTop (mkF m 74 #[.val (.int p1), .val (.int z1), .val (.int z3), .val (.int z5), .val (.int z7), .val (.ref b9), .val (.ref b11), .unset, .unset, .unset] [(.ref b13), (.ref b13)])) _
    refine XS.aconstNull X13.here hx rfl (hb hby at_74) ?_
    show Steps p.tables e below (T13.setTop (mkF m 75 #[.val (.int p1), .val (.int z1), .val (.int z3), .val (.int z5), .val (.int z7), .val (.ref b9), .val (.ref b11), .unset, .unset, .unset] [.null, (.ref b13), (.ref b13)])) _
    refine XS.iload X13.here hx rfl (hb hby at_75) rfl ?_
    show Steps p.tables e below (T13.setTop (mkF m 77 #[.val (.int p1), .val (.int z1), .val (.int z3), .val (.int z5), .val (.int z7), .val (.ref b9), .val (.ref b11), .unset, .unset, .unset] [(.int z7), .null, (.ref b13), (.ref b13)])) _
    refine XS.aconstNull X13.here hx rfl (hb hby at_77) ?_
    exact k
  obtain ⟨_, _, ⟨T14, L14, k14, n14⟩, -, X14, ⟨Lc14, hQ14, l14, y14, z14⟩, st14⟩ := X13.specialBack hx (y := (⟨"com/example/sira/sira/wire/CommitmentReceipt", "<init>", "(Ljava/time/Instant;ZLjava/lang/String;)V"⟩ : MethodName)) rfl hown (mvT hZ (hw _ (List.mem_of_getElem? (i := 41) rfl))) (mvT hZ (hw _ (List.mem_of_getElem? (i := 42) rfl))) (mvT hZ (hw _ (List.mem_of_getElem? (i := 43) rfl))) (by decide) (backOf (W := 1) (rm4 l Z a0 hw [] b13 z7 h13 n0 (Nat.le_trans (Nat.le_trans (Nat.le_trans (Nat.le_trans (Nat.le_trans Z0 E9.1) K10q.1) E11.1) K12q.1) E13.1) A13 g_b13 F13_decidedAt F13_positive F13_id) hZ (hw _ (List.mem_of_getElem? (i := 43) rfl)) (hw _ (List.mem_of_getElem? (i := 40) rfl)) (by decide) (by decide)) (g := (mkF m 78 #[.val (.int p1), .val (.int z1), .val (.int z3), .val (.int z5), .val (.int z7), .val (.ref b9), .val (.ref b11), .unset, .unset, .unset] [.null, (.int z7), .null, (.ref b13), (.ref b13)])) rfl (by rw [hml]; rfl) (Steps.refl _) (a := b13) (argsL := [.null, (.int z7), .null]) (rest := [(.ref b13)]) (lenOf own_pd2 rfl) rfl (by show 2 * 0 + _ ≤ _; exact Nat.le_of_eq rfl) (hb hby at_78) (fun _ _ => ⟨rfl, e13, (by decide : 9 + 0 ≤ _), (by decide : 353 + 0 ≤ _)⟩)
  dsimp only [Pt.U, Pt.locs, Pt.cells, Pt.slots] at X14 l14 y14 z14 st14 hQ14
  subst l14 y14 z14
  obtain ⟨rfl, N14q, K14q, E14q⟩ := hQ14
  have N14 := Fr.app N12 N14q
  have c14_F_b9_streamReceipt := c13_F_b9_streamReceipt.keep K14q (fun q => ne_b9_b13 (List.mem_singleton.mp q))
  have c14_F_b9_deliveryReceipt := c13_F_b9_deliveryReceipt.keep K14q (fun q => ne_b9_b13 (List.mem_singleton.mp q))
  have c14_F_b9_commitmentReceipt := c13_F_b9_commitmentReceipt.keep K14q (fun q => ne_b9_b13 (List.mem_singleton.mp q))
  have c14_E_b9 := c13_E_b9.keep K14q
  have c14_E_b11 := c13_E_b11.keep K14q
  refine own_go (B := T14.setTop (mkF m 81 #[.val (.int p1), .val (.int z1), .val (.int z3), .val (.int z5), .val (.int z7), .val (.ref b9), .val (.ref b11), .unset, .unset, .unset] [(.ref b13)])) (fun t k => st14.trans k) ?_
  refine own_go (B := T14.setTop (mkF m 85 #[.val (.int p1), .val (.int z1), .val (.int z3), .val (.int z5), .val (.int z7), .val (.ref b9), .val (.ref b11), .val (.ref b13), .unset, .unset] [(.ref b9)])) (fun t k => ?_) ?_
  · show Steps p.tables e below (T14.setTop (mkF m 81 #[.val (.int p1), .val (.int z1), .val (.int z3), .val (.int z5), .val (.int z7), .val (.ref b9), .val (.ref b11), .unset, .unset, .unset] [(.ref b13)])) _
    refine XS.astore X14.here hx rfl (hb hby at_81) rfl rfl (l' := #[.val (.int p1), .val (.int z1), .val (.int z3), .val (.int z5), .val (.int z7), .val (.ref b9), .val (.ref b11), .val (.ref b13), .unset, .unset]) rfl ?_
    show Steps p.tables e below (T14.setTop (mkF m 83 #[.val (.int p1), .val (.int z1), .val (.int z3), .val (.int z5), .val (.int z7), .val (.ref b9), .val (.ref b11), .val (.ref b13), .unset, .unset] [])) _
    refine XS.aload X14.here hx rfl (hb hby at_83) rfl rfl ?_
    exact k
  obtain ⟨cq15, kq15, q15a, q15b, q15c⟩ := isOf hZ rfl c14_E_b9
  obtain ⟨_, _, ⟨T15, L15, k15, n15⟩, -, X15, ⟨Lc15, hQ15, l15, y15, z15⟩, st15⟩ := X14.virtualBack hx (y := (⟨"com/example/sira/sira/wire/MessageProperties", "isReceipt", "()Z"⟩ : MethodName)) (z := (⟨"com/example/sira/sira/wire/MessageProperties", "isReceipt", "()Z"⟩ : MethodName)) hown (mvT hZ (hw _ (List.mem_of_getElem? (i := 51) rfl))) (mvT hZ (hw _ (List.mem_of_getElem? (i := 52) rfl))) (notFace_of_selects (args := #[]) (mvT hZ (hw _ (List.mem_of_getElem? (i := 54) rfl)))) (mvT hZ (hw _ (List.mem_of_getElem? (i := 54) rfl))) (mvT hZ (hw _ (List.mem_of_getElem? (i := 53) rfl))) (by decide) (backOf (W := 0) (rm5a l Z a0 hw [] b9 T14.heap n0 (Nat.le_trans (Nat.le_trans (Nat.le_trans (Nat.le_trans (Nat.le_trans (Nat.le_trans Z0 E9.1) K10q.1) E11.1) K12q.1) E13.1) K14q.1) c14_F_b9_streamReceipt c14_F_b9_deliveryReceipt c14_F_b9_commitmentReceipt) hZ (hw _ (List.mem_of_getElem? (i := 55) rfl)) (hw _ (List.mem_of_getElem? (i := 2) rfl)) (by decide) (by decide)) q15a q15c (g := (mkF m 85 #[.val (.int p1), .val (.int z1), .val (.int z3), .val (.int z5), .val (.int z7), .val (.ref b9), .val (.ref b11), .val (.ref b13), .unset, .unset] [(.ref b9)])) rfl (by rw [hml]; rfl) (Steps.refl _) (argsL := []) (rest := []) (lenOf own_pd3 rfl) rfl (by show 2 * 0 + _ ≤ _; exact Nat.le_of_eq rfl) (hb hby at_85) (fun _ _ => ⟨rfl, rfl, (by decide : 9 + 0 ≤ _), (by decide : 353 + 0 ≤ _)⟩)
  dsimp only [Pt.U, Pt.locs, Pt.cells, Pt.slots] at X15 l15 y15 z15 st15 hQ15
  subst l15 y15 z15
  obtain ⟨rfl, N15q, eq15⟩ := hQ15
  have N15 := Fr.app N14 N15q
  refine own_go (B := T15.setTop (mkF m 88 #[.val (.int p1), .val (.int z1), .val (.int z3), .val (.int z5), .val (.int z7), .val (.ref b9), .val (.ref b11), .val (.ref b13), .unset, .unset] [(.int (0 : Int32))])) (fun t k => st15.trans k) ?_
  refine own_go (B := T15.setTop (mkF m 91 #[.val (.int p1), .val (.int z1), .val (.int z3), .val (.int z5), .val (.int z7), .val (.ref b9), .val (.ref b11), .val (.ref b13), .val (.int (0 : Int32)), .unset] [(.int z5)])) (fun t k => ?_) ?_
  · show Steps p.tables e below (T15.setTop (mkF m 88 #[.val (.int p1), .val (.int z1), .val (.int z3), .val (.int z5), .val (.int z7), .val (.ref b9), .val (.ref b11), .val (.ref b13), .unset, .unset] [(.int (0 : Int32))])) _
    refine XS.istore X15.here hx rfl (hb hby at_88) rfl (l' := #[.val (.int p1), .val (.int z1), .val (.int z3), .val (.int z5), .val (.int z7), .val (.ref b9), .val (.ref b11), .val (.ref b13), .val (.int (0 : Int32)), .unset]) rfl ?_
    show Steps p.tables e below (T15.setTop (mkF m 90 #[.val (.int p1), .val (.int z1), .val (.int z3), .val (.int z5), .val (.int z7), .val (.ref b9), .val (.ref b11), .val (.ref b13), .val (.int (0 : Int32)), .unset] [])) _
    refine XS.iloadN X15.here hx rfl (hb hby at_90) rfl ?_
    exact k
  by_cases hc91_16 : z5 = (0 : Int32)
  · refine own_go (B := T15.setTop (mkF m 111 #[.val (.int p1), .val (.int z1), .val (.int z3), .val (.int z5), .val (.int z7), .val (.ref b9), .val (.ref b11), .val (.ref b13), .val (.int (0 : Int32)), .unset] [(.int z1), (.ref b9)])) (fun t k => ?_) ?_
    · show Steps p.tables e below (T15.setTop (mkF m 91 #[.val (.int p1), .val (.int z1), .val (.int z3), .val (.int z5), .val (.int z7), .val (.ref b9), .val (.ref b11), .val (.ref b13), .val (.int (0 : Int32)), .unset] [(.int z5)])) _
      refine XS.ifYes X15.here hx rfl (pc0 := 91) (pc' := 108) rfl (hb hby at_91) rfl ((if0 _ _).trans (teq hc91_16).1) (by decide) (by decide) ?_
      show Steps p.tables e below (T15.setTop (mkF m 108 #[.val (.int p1), .val (.int z1), .val (.int z3), .val (.int z5), .val (.int z7), .val (.ref b9), .val (.ref b11), .val (.ref b13), .val (.int (0 : Int32)), .unset] [])) _
      refine XS.aload X15.here hx rfl (hb hby at_108) rfl rfl ?_
      show Steps p.tables e below (T15.setTop (mkF m 110 #[.val (.int p1), .val (.int z1), .val (.int z3), .val (.int z5), .val (.int z7), .val (.ref b9), .val (.ref b11), .val (.ref b13), .val (.int (0 : Int32)), .unset] [(.ref b9)])) _
      refine XS.iloadN X15.here hx rfl (hb hby at_110) rfl ?_
      exact k
    by_cases hc111_17 : z1 = (0 : Int32)
    · refine own_go (B := T15.setTop (mkF m 120 #[.val (.int p1), .val (.int z1), .val (.int z3), .val (.int z5), .val (.int z7), .val (.ref b9), .val (.ref b11), .val (.ref b13), .val (.int (0 : Int32)), .unset] [.null, (.ref b9)])) (fun t k => ?_) ?_
      · show Steps p.tables e below (T15.setTop (mkF m 111 #[.val (.int p1), .val (.int z1), .val (.int z3), .val (.int z5), .val (.int z7), .val (.ref b9), .val (.ref b11), .val (.ref b13), .val (.int (0 : Int32)), .unset] [(.int z1), (.ref b9)])) _
        refine XS.ifYes X15.here hx rfl (pc0 := 111) (pc' := 119) rfl (hb hby at_111) rfl ((if0 _ _).trans (teq hc111_17).1) (by decide) (by decide) ?_
        show Steps p.tables e below (T15.setTop (mkF m 119 #[.val (.int p1), .val (.int z1), .val (.int z3), .val (.int z5), .val (.int z7), .val (.ref b9), .val (.ref b11), .val (.ref b13), .val (.int (0 : Int32)), .unset] [(.ref b9)])) _
        refine XS.aconstNull X15.here hx rfl (hb hby at_119) ?_
        exact k
      obtain ⟨cq18, kq18, q18a, q18b, q18c⟩ := isOf hZ eq15 c14_E_b9
      obtain ⟨_, _, ⟨T18, L18, k18, n18⟩, -, X18, ⟨Lc18, hQ18, l18, y18, z18⟩, st18⟩ := X15.virtualBack hx (y := (⟨"com/example/sira/sira/wire/MessageProperties", "setDeliveryReceipt", "(Lcom/example/sira/sira/wire/DeliveryReceipt;)V"⟩ : MethodName)) (z := (⟨"com/example/sira/sira/wire/MessageProperties", "setDeliveryReceipt", "(Lcom/example/sira/sira/wire/DeliveryReceipt;)V"⟩ : MethodName)) hown (mvT hZ (hw _ (List.mem_of_getElem? (i := 62) rfl))) (mvT hZ (hw _ (List.mem_of_getElem? (i := 63) rfl))) (notFace_of_selects (args := #[]) (mvT hZ (hw _ (List.mem_of_getElem? (i := 65) rfl)))) (mvT hZ (hw _ (List.mem_of_getElem? (i := 65) rfl))) (mvT hZ (hw _ (List.mem_of_getElem? (i := 64) rfl))) (by decide) (backOf (W := 0) (rm6n l Z a0 hw [] b9 .null .null .null T14.heap n0 (Nat.le_trans (Nat.le_trans (Nat.le_trans (Nat.le_trans (Nat.le_trans (Nat.le_trans Z0 E9.1) K10q.1) E11.1) K12q.1) E13.1) K14q.1) c14_E_b9 g_b9 c14_F_b9_deliveryReceipt c14_F_b9_streamReceipt c14_F_b9_commitmentReceipt) hZ (hw _ (List.mem_of_getElem? (i := 66) rfl)) (hw _ (List.mem_of_getElem? (i := 2) rfl)) (by decide) (by decide)) q18a q18c (g := (mkF m 120 #[.val (.int p1), .val (.int z1), .val (.int z3), .val (.int z5), .val (.int z7), .val (.ref b9), .val (.ref b11), .val (.ref b13), .val (.int (0 : Int32)), .unset] [.null, (.ref b9)])) rfl (by rw [hml]; rfl) (Steps.refl _) (argsL := [.null]) (rest := []) (lenOf own_pd4 rfl) rfl (by show 2 * 0 + _ ≤ _; exact Nat.le_of_eq rfl) (hb hby at_120) (fun _ _ => ⟨rfl, eq15, (by decide : 9 + 0 ≤ _), (by decide : 353 + 0 ≤ _)⟩)
      dsimp only [Pt.U, Pt.locs, Pt.cells, Pt.slots] at X18 l18 y18 z18 st18 hQ18
      subst l18 y18 z18
      obtain ⟨rfl, N18q, K18q, E18q, F18_0, F18_1, F18_2⟩ := hQ18
      have N18 := Fr.app N15 N18q
      have c18_E_b11 := c14_E_b11.keep K18q
      have c18_E_b13 := E14q.keep K18q
      refine own_go (B := T18.setTop (mkF m 123 #[.val (.int p1), .val (.int z1), .val (.int z3), .val (.int z5), .val (.int z7), .val (.ref b9), .val (.ref b11), .val (.ref b13), .val (.int (0 : Int32)), .unset] [])) (fun t k => st18.trans k) ?_
      refine own_go (B := T18.setTop (mkF m 126 #[.val (.int p1), .val (.int z1), .val (.int z3), .val (.int z5), .val (.int z7), .val (.ref b9), .val (.ref b11), .val (.ref b13), .val (.int (0 : Int32)), .unset] [(.int z3), (.ref b9)])) (fun t k => ?_) ?_
      · show Steps p.tables e below (T18.setTop (mkF m 123 #[.val (.int p1), .val (.int z1), .val (.int z3), .val (.int z5), .val (.int z7), .val (.ref b9), .val (.ref b11), .val (.ref b13), .val (.int (0 : Int32)), .unset] [])) _
        refine XS.aload X18.here hx rfl (hb hby at_123) rfl rfl ?_
        show Steps p.tables e below (T18.setTop (mkF m 125 #[.val (.int p1), .val (.int z1), .val (.int z3), .val (.int z5), .val (.int z7), .val (.ref b9), .val (.ref b11), .val (.ref b13), .val (.int (0 : Int32)), .unset] [(.ref b9)])) _
        refine XS.iloadN X18.here hx rfl (hb hby at_125) rfl ?_
        exact k
      by_cases hc126_19 : z3 = (0 : Int32)
      · refine own_go (B := T18.setTop (mkF m 135 #[.val (.int p1), .val (.int z1), .val (.int z3), .val (.int z5), .val (.int z7), .val (.ref b9), .val (.ref b11), .val (.ref b13), .val (.int (0 : Int32)), .unset] [.null, (.ref b9)])) (fun t k => ?_) ?_
        · show Steps p.tables e below (T18.setTop (mkF m 126 #[.val (.int p1), .val (.int z1), .val (.int z3), .val (.int z5), .val (.int z7), .val (.ref b9), .val (.ref b11), .val (.ref b13), .val (.int (0 : Int32)), .unset] [(.int z3), (.ref b9)])) _
          refine XS.ifYes X18.here hx rfl (pc0 := 126) (pc' := 134) rfl (hb hby at_126) rfl ((if0 _ _).trans (teq hc126_19).1) (by decide) (by decide) ?_
          show Steps p.tables e below (T18.setTop (mkF m 134 #[.val (.int p1), .val (.int z1), .val (.int z3), .val (.int z5), .val (.int z7), .val (.ref b9), .val (.ref b11), .val (.ref b13), .val (.int (0 : Int32)), .unset] [(.ref b9)])) _
          refine XS.aconstNull X18.here hx rfl (hb hby at_134) ?_
          exact k
        obtain ⟨cq20, kq20, q20a, q20b, q20c⟩ := isOf hZ rfl E18q
        obtain ⟨_, _, ⟨T20, L20, k20, n20⟩, -, X20, ⟨Lc20, hQ20, l20, y20, z20⟩, st20⟩ := X18.virtualBack hx (y := (⟨"com/example/sira/sira/wire/MessageProperties", "setCommitmentReceipt", "(Lcom/example/sira/sira/wire/CommitmentReceipt;)V"⟩ : MethodName)) (z := (⟨"com/example/sira/sira/wire/MessageProperties", "setCommitmentReceipt", "(Lcom/example/sira/sira/wire/CommitmentReceipt;)V"⟩ : MethodName)) hown (mvT hZ (hw _ (List.mem_of_getElem? (i := 67) rfl))) (mvT hZ (hw _ (List.mem_of_getElem? (i := 68) rfl))) (notFace_of_selects (args := #[]) (mvT hZ (hw _ (List.mem_of_getElem? (i := 70) rfl)))) (mvT hZ (hw _ (List.mem_of_getElem? (i := 70) rfl))) (mvT hZ (hw _ (List.mem_of_getElem? (i := 69) rfl))) (by decide) (backOf (W := 0) (rm7n l Z a0 hw [] b9 .null .null .null T18.heap n0 (Nat.le_trans (Nat.le_trans (Nat.le_trans (Nat.le_trans (Nat.le_trans (Nat.le_trans (Nat.le_trans Z0 E9.1) K10q.1) E11.1) K12q.1) E13.1) K14q.1) K18q.1) E18q g_b9 F18_2 F18_1 F18_0) hZ (hw _ (List.mem_of_getElem? (i := 71) rfl)) (hw _ (List.mem_of_getElem? (i := 2) rfl)) (by decide) (by decide)) q20a q20c (g := (mkF m 135 #[.val (.int p1), .val (.int z1), .val (.int z3), .val (.int z5), .val (.int z7), .val (.ref b9), .val (.ref b11), .val (.ref b13), .val (.int (0 : Int32)), .unset] [.null, (.ref b9)])) rfl (by rw [hml]; rfl) (Steps.refl _) (argsL := [.null]) (rest := []) (lenOf own_pd5 rfl) rfl (by show 2 * 0 + _ ≤ _; exact Nat.le_of_eq rfl) (hb hby at_135) (fun _ _ => ⟨rfl, rfl, (by decide : 9 + 0 ≤ _), (by decide : 353 + 0 ≤ _)⟩)
        dsimp only [Pt.U, Pt.locs, Pt.cells, Pt.slots] at X20 l20 y20 z20 st20 hQ20
        subst l20 y20 z20
        obtain ⟨rfl, N20q, K20q, E20q, F20_0, F20_1, F20_2⟩ := hQ20
        have N20 := Fr.app N18 N20q
        have c20_E_b11 := c18_E_b11.keep K20q
        have c20_E_b13 := c18_E_b13.keep K20q
        refine own_go (B := T20.setTop (mkF m 138 #[.val (.int p1), .val (.int z1), .val (.int z3), .val (.int z5), .val (.int z7), .val (.ref b9), .val (.ref b11), .val (.ref b13), .val (.int (0 : Int32)), .unset] [])) (fun t k => st20.trans k) ?_
        refine own_go (B := T20.setTop (mkF m 160 #[.val (.int p1), .val (.int z1), .val (.int z3), .val (.int z5), .val (.int z7), .val (.ref b9), .val (.ref b11), .val (.ref b13), .val (.int (0 : Int32)), .val (.int (0 : Int32))] [(.ref b9)])) (fun t k => ?_) ?_
        · show Steps p.tables e below (T20.setTop (mkF m 138 #[.val (.int p1), .val (.int z1), .val (.int z3), .val (.int z5), .val (.int z7), .val (.ref b9), .val (.ref b11), .val (.ref b13), .val (.int (0 : Int32)), .unset] [])) _
          refine XS.iloadN X20.here hx rfl (hb hby at_138) rfl ?_
          show Steps p.tables e below (T20.setTop (mkF m 139 #[.val (.int p1), .val (.int z1), .val (.int z3), .val (.int z5), .val (.int z7), .val (.ref b9), .val (.ref b11), .val (.ref b13), .val (.int (0 : Int32)), .unset] [(.int z1)])) _
          refine XS.ifNo X20.here hx rfl (hb hby at_139) rfl ((if0 _ _).trans (teq hc111_17).2) ?_
          show Steps p.tables e below (T20.setTop (mkF m 142 #[.val (.int p1), .val (.int z1), .val (.int z3), .val (.int z5), .val (.int z7), .val (.ref b9), .val (.ref b11), .val (.ref b13), .val (.int (0 : Int32)), .unset] [])) _
          refine XS.iloadN X20.here hx rfl (hb hby at_142) rfl ?_
          show Steps p.tables e below (T20.setTop (mkF m 143 #[.val (.int p1), .val (.int z1), .val (.int z3), .val (.int z5), .val (.int z7), .val (.ref b9), .val (.ref b11), .val (.ref b13), .val (.int (0 : Int32)), .unset] [(.int z3)])) _
          refine XS.ifYes X20.here hx rfl (pc0 := 143) (pc' := 150) rfl (hb hby at_143) rfl ((if0 _ _).trans (teq hc126_19).1) (by decide) (by decide) ?_
          show Steps p.tables e below (T20.setTop (mkF m 150 #[.val (.int p1), .val (.int z1), .val (.int z3), .val (.int z5), .val (.int z7), .val (.ref b9), .val (.ref b11), .val (.ref b13), .val (.int (0 : Int32)), .unset] [])) _
          refine XS.iconst X20.here hx rfl (hb hby at_150) ?_
          show Steps p.tables e below (T20.setTop (mkF m 151 #[.val (.int p1), .val (.int z1), .val (.int z3), .val (.int z5), .val (.int z7), .val (.ref b9), .val (.ref b11), .val (.ref b13), .val (.int (0 : Int32)), .unset] [(.int (0 : Int32))])) _
          refine XS.istore X20.here hx rfl (hb hby at_151) rfl (l' := #[.val (.int p1), .val (.int z1), .val (.int z3), .val (.int z5), .val (.int z7), .val (.ref b9), .val (.ref b11), .val (.ref b13), .val (.int (0 : Int32)), .val (.int (0 : Int32))]) rfl ?_
          show Steps p.tables e below (T20.setTop (mkF m 153 #[.val (.int p1), .val (.int z1), .val (.int z3), .val (.int z5), .val (.int z7), .val (.ref b9), .val (.ref b11), .val (.ref b13), .val (.int (0 : Int32)), .val (.int (0 : Int32))] [])) _
          refine XS.iload X20.here hx rfl (hb hby at_153) rfl ?_
          show Steps p.tables e below (T20.setTop (mkF m 155 #[.val (.int p1), .val (.int z1), .val (.int z3), .val (.int z5), .val (.int z7), .val (.ref b9), .val (.ref b11), .val (.ref b13), .val (.int (0 : Int32)), .val (.int (0 : Int32))] [(.int (0 : Int32))])) _
          refine XS.ifNo X20.here hx rfl (hb hby at_155) rfl ((if0 _ _).trans (teq (by decide)).2) ?_
          show Steps p.tables e below (T20.setTop (mkF m 158 #[.val (.int p1), .val (.int z1), .val (.int z3), .val (.int z5), .val (.int z7), .val (.ref b9), .val (.ref b11), .val (.ref b13), .val (.int (0 : Int32)), .val (.int (0 : Int32))] [])) _
          refine XS.aload X20.here hx rfl (hb hby at_158) rfl rfl ?_
          exact k
        obtain ⟨cq21, kq21, q21a, q21b, q21c⟩ := isOf hZ rfl E20q
        obtain ⟨_, _, ⟨T21, L21, k21, n21⟩, -, X21, ⟨Lc21, hQ21, l21, y21, z21⟩, st21⟩ := X20.virtualBack hx (y := (⟨"com/example/sira/sira/wire/MessageProperties", "isReceipt", "()Z"⟩ : MethodName)) (z := (⟨"com/example/sira/sira/wire/MessageProperties", "isReceipt", "()Z"⟩ : MethodName)) hown (mvT hZ (hw _ (List.mem_of_getElem? (i := 51) rfl))) (mvT hZ (hw _ (List.mem_of_getElem? (i := 52) rfl))) (notFace_of_selects (args := #[]) (mvT hZ (hw _ (List.mem_of_getElem? (i := 54) rfl)))) (mvT hZ (hw _ (List.mem_of_getElem? (i := 54) rfl))) (mvT hZ (hw _ (List.mem_of_getElem? (i := 53) rfl))) (by decide) (backOf (W := 0) (rm5a l Z a0 hw [] b9 T20.heap n0 (Nat.le_trans (Nat.le_trans (Nat.le_trans (Nat.le_trans (Nat.le_trans (Nat.le_trans (Nat.le_trans (Nat.le_trans Z0 E9.1) K10q.1) E11.1) K12q.1) E13.1) K14q.1) K18q.1) K20q.1) F20_1 F20_2 F20_0) hZ (hw _ (List.mem_of_getElem? (i := 55) rfl)) (hw _ (List.mem_of_getElem? (i := 2) rfl)) (by decide) (by decide)) q21a q21c (g := (mkF m 160 #[.val (.int p1), .val (.int z1), .val (.int z3), .val (.int z5), .val (.int z7), .val (.ref b9), .val (.ref b11), .val (.ref b13), .val (.int (0 : Int32)), .val (.int (0 : Int32))] [(.ref b9)])) rfl (by rw [hml]; rfl) (Steps.refl _) (argsL := []) (rest := []) (lenOf own_pd3 rfl) rfl (by show 2 * 0 + _ ≤ _; exact Nat.le_of_eq rfl) (hb hby at_160) (fun _ _ => ⟨rfl, rfl, (by decide : 9 + 0 ≤ _), (by decide : 353 + 0 ≤ _)⟩)
        dsimp only [Pt.U, Pt.locs, Pt.cells, Pt.slots] at X21 l21 y21 z21 st21 hQ21
        subst l21 y21 z21
        obtain ⟨rfl, N21q, eq21⟩ := hQ21
        have N21 := Fr.app N20 N21q
        refine own_go (B := T21.setTop (mkF m 163 #[.val (.int p1), .val (.int z1), .val (.int z3), .val (.int z5), .val (.int z7), .val (.ref b9), .val (.ref b11), .val (.ref b13), .val (.int (0 : Int32)), .val (.int (0 : Int32))] [(.int (0 : Int32))])) (fun t k => st21.trans k) ?_
        obtain ⟨fs, hr, hrun, hended, hRW⟩ := X21.leaveW hS (by rw [eq21]; exact (Nat.le_trans (Nat.le_trans (Nat.le_trans (Nat.le_trans (Nat.le_trans (Nat.le_trans (Nat.le_refl _) E11.1) K12q.1) E13.1) K14q.1) K18q.1) K20q.1)) (v := some (.int (1 : Int32))) (fun h => by rw [Bd.returns] at h; cases h)
        refine ⟨_, _, ?_, hrun, hended, _, _, rfl, ?_, hRW.1, hRW.2.1, hRW.2.2.1, hRW.2.2.2.mono (by decide) (by decide)⟩
        · show Steps p.tables e below (T21.setTop (mkF m 163 #[.val (.int p1), .val (.int z1), .val (.int z3), .val (.int z5), .val (.int z7), .val (.ref b9), .val (.ref b11), .val (.ref b13), .val (.int (0 : Int32)), .val (.int (0 : Int32))] [(.int (0 : Int32))])) _
          refine XS.iload X21.here hx rfl (hb hby at_163) rfl ?_
          show Steps p.tables e below (T21.setTop (mkF m 165 #[.val (.int p1), .val (.int z1), .val (.int z3), .val (.int z5), .val (.int z7), .val (.ref b9), .val (.ref b11), .val (.ref b13), .val (.int (0 : Int32)), .val (.int (0 : Int32))] [(.int (0 : Int32)), (.int (0 : Int32))])) _
          refine XS.icmpNo X21.here hx rfl (hb hby at_165) rfl (teq (by decide)).2 ?_
          show Steps p.tables e below (T21.setTop (mkF m 168 #[.val (.int p1), .val (.int z1), .val (.int z3), .val (.int z5), .val (.int z7), .val (.ref b9), .val (.ref b11), .val (.ref b13), .val (.int (0 : Int32)), .val (.int (0 : Int32))] [])) _
          refine XS.iconst X21.here hx rfl (hb hby at_168) ?_
          show Steps p.tables e below (T21.setTop (mkF m 169 #[.val (.int p1), .val (.int z1), .val (.int z3), .val (.int z5), .val (.int z7), .val (.ref b9), .val (.ref b11), .val (.ref b13), .val (.int (0 : Int32)), .val (.int (0 : Int32))] [(.int (1 : Int32))])) _
          refine XS.goto X21.here hx rfl (pc0 := 169) (pc' := 173) rfl (hb hby at_169) (by decide) (by decide) ?_
          show Steps p.tables e below (T21.setTop (mkF m 173 #[.val (.int p1), .val (.int z1), .val (.int z3), .val (.int z5), .val (.int z7), .val (.ref b9), .val (.ref b11), .val (.ref b13), .val (.int (0 : Int32)), .val (.int (0 : Int32))] [(.int (1 : Int32))])) _
          exact retN X21 hx (t := .boolean) Bd.returns (by simp) (hb hby at_173) hr
        · show Q0 Z p1 h0 n0 _ T21.heap _
          rw [eq21]
          exact ⟨rfl, N21⟩
      · refine own_go (B := T18.setTop (mkF m 135 #[.val (.int p1), .val (.int z1), .val (.int z3), .val (.int z5), .val (.int z7), .val (.ref b9), .val (.ref b11), .val (.ref b13), .val (.int (0 : Int32)), .unset] [(.ref b13), (.ref b9)])) (fun t k => ?_) ?_
        · show Steps p.tables e below (T18.setTop (mkF m 126 #[.val (.int p1), .val (.int z1), .val (.int z3), .val (.int z5), .val (.int z7), .val (.ref b9), .val (.ref b11), .val (.ref b13), .val (.int (0 : Int32)), .unset] [(.int z3), (.ref b9)])) _
          refine XS.ifNo X18.here hx rfl (hb hby at_126) rfl ((if0 _ _).trans (feq hc126_19).1) ?_
          show Steps p.tables e below (T18.setTop (mkF m 129 #[.val (.int p1), .val (.int z1), .val (.int z3), .val (.int z5), .val (.int z7), .val (.ref b9), .val (.ref b11), .val (.ref b13), .val (.int (0 : Int32)), .unset] [(.ref b9)])) _
          refine XS.aload X18.here hx rfl (hb hby at_129) rfl rfl ?_
          show Steps p.tables e below (T18.setTop (mkF m 131 #[.val (.int p1), .val (.int z1), .val (.int z3), .val (.int z5), .val (.int z7), .val (.ref b9), .val (.ref b11), .val (.ref b13), .val (.int (0 : Int32)), .unset] [(.ref b13), (.ref b9)])) _
          refine XS.goto X18.here hx rfl (pc0 := 131) (pc' := 135) rfl (hb hby at_131) (by decide) (by decide) ?_
          exact k
        obtain ⟨cq22, kq22, q22a, q22b, q22c⟩ := isOf hZ rfl E18q
        obtain ⟨_, _, ⟨T22, L22, k22, n22⟩, -, X22, ⟨Lc22, hQ22, l22, y22, z22⟩, st22⟩ := X18.virtualBack hx (y := (⟨"com/example/sira/sira/wire/MessageProperties", "setCommitmentReceipt", "(Lcom/example/sira/sira/wire/CommitmentReceipt;)V"⟩ : MethodName)) (z := (⟨"com/example/sira/sira/wire/MessageProperties", "setCommitmentReceipt", "(Lcom/example/sira/sira/wire/CommitmentReceipt;)V"⟩ : MethodName)) hown (mvT hZ (hw _ (List.mem_of_getElem? (i := 67) rfl))) (mvT hZ (hw _ (List.mem_of_getElem? (i := 68) rfl))) (notFace_of_selects (args := #[]) (mvT hZ (hw _ (List.mem_of_getElem? (i := 70) rfl)))) (mvT hZ (hw _ (List.mem_of_getElem? (i := 70) rfl))) (mvT hZ (hw _ (List.mem_of_getElem? (i := 69) rfl))) (by decide) (backOf (W := 0) (rm7 l Z a0 hw [] b9 b13 .null .null .null T18.heap n0 (Nat.le_trans (Nat.le_trans (Nat.le_trans (Nat.le_trans (Nat.le_trans (Nat.le_trans (Nat.le_trans Z0 E9.1) K10q.1) E11.1) K12q.1) E13.1) K14q.1) K18q.1) E18q g_b9 F18_2 F18_1 F18_0) hZ (hw _ (List.mem_of_getElem? (i := 71) rfl)) (hw _ (List.mem_of_getElem? (i := 2) rfl)) (by decide) (by decide)) q22a q22c (g := (mkF m 135 #[.val (.int p1), .val (.int z1), .val (.int z3), .val (.int z5), .val (.int z7), .val (.ref b9), .val (.ref b11), .val (.ref b13), .val (.int (0 : Int32)), .unset] [(.ref b13), (.ref b9)])) rfl (by rw [hml]; rfl) (Steps.refl _) (argsL := [(.ref b13)]) (rest := []) (lenOf own_pd5 rfl) rfl (by show 2 * 0 + _ ≤ _; exact Nat.le_of_eq rfl) (hb hby at_135) (fun _ _ => ⟨rfl, rfl, (by decide : 9 + 0 ≤ _), (by decide : 353 + 0 ≤ _)⟩)
        dsimp only [Pt.U, Pt.locs, Pt.cells, Pt.slots] at X22 l22 y22 z22 st22 hQ22
        subst l22 y22 z22
        obtain ⟨rfl, N22q, K22q, E22q, F22_0, F22_1, F22_2⟩ := hQ22
        have N22 := Fr.app N18 N22q
        have c22_E_b11 := c18_E_b11.keep K22q
        have c22_E_b13 := c18_E_b13.keep K22q
        refine own_go (B := T22.setTop (mkF m 138 #[.val (.int p1), .val (.int z1), .val (.int z3), .val (.int z5), .val (.int z7), .val (.ref b9), .val (.ref b11), .val (.ref b13), .val (.int (0 : Int32)), .unset] [])) (fun t k => st22.trans k) ?_
        refine own_go (B := T22.setTop (mkF m 160 #[.val (.int p1), .val (.int z1), .val (.int z3), .val (.int z5), .val (.int z7), .val (.ref b9), .val (.ref b11), .val (.ref b13), .val (.int (0 : Int32)), .val (.int (1 : Int32))] [(.ref b9)])) (fun t k => ?_) ?_
        · show Steps p.tables e below (T22.setTop (mkF m 138 #[.val (.int p1), .val (.int z1), .val (.int z3), .val (.int z5), .val (.int z7), .val (.ref b9), .val (.ref b11), .val (.ref b13), .val (.int (0 : Int32)), .unset] [])) _
          refine XS.iloadN X22.here hx rfl (hb hby at_138) rfl ?_
          show Steps p.tables e below (T22.setTop (mkF m 139 #[.val (.int p1), .val (.int z1), .val (.int z3), .val (.int z5), .val (.int z7), .val (.ref b9), .val (.ref b11), .val (.ref b13), .val (.int (0 : Int32)), .unset] [(.int z1)])) _
          refine XS.ifNo X22.here hx rfl (hb hby at_139) rfl ((if0 _ _).trans (teq hc111_17).2) ?_
          show Steps p.tables e below (T22.setTop (mkF m 142 #[.val (.int p1), .val (.int z1), .val (.int z3), .val (.int z5), .val (.int z7), .val (.ref b9), .val (.ref b11), .val (.ref b13), .val (.int (0 : Int32)), .unset] [])) _
          refine XS.iloadN X22.here hx rfl (hb hby at_142) rfl ?_
          show Steps p.tables e below (T22.setTop (mkF m 143 #[.val (.int p1), .val (.int z1), .val (.int z3), .val (.int z5), .val (.int z7), .val (.ref b9), .val (.ref b11), .val (.ref b13), .val (.int (0 : Int32)), .unset] [(.int z3)])) _
          refine XS.ifNo X22.here hx rfl (hb hby at_143) rfl ((if0 _ _).trans (feq hc126_19).1) ?_
          show Steps p.tables e below (T22.setTop (mkF m 146 #[.val (.int p1), .val (.int z1), .val (.int z3), .val (.int z5), .val (.int z7), .val (.ref b9), .val (.ref b11), .val (.ref b13), .val (.int (0 : Int32)), .unset] [])) _
          refine XS.iconst X22.here hx rfl (hb hby at_146) ?_
          show Steps p.tables e below (T22.setTop (mkF m 147 #[.val (.int p1), .val (.int z1), .val (.int z3), .val (.int z5), .val (.int z7), .val (.ref b9), .val (.ref b11), .val (.ref b13), .val (.int (0 : Int32)), .unset] [(.int (1 : Int32))])) _
          refine XS.goto X22.here hx rfl (pc0 := 147) (pc' := 151) rfl (hb hby at_147) (by decide) (by decide) ?_
          show Steps p.tables e below (T22.setTop (mkF m 151 #[.val (.int p1), .val (.int z1), .val (.int z3), .val (.int z5), .val (.int z7), .val (.ref b9), .val (.ref b11), .val (.ref b13), .val (.int (0 : Int32)), .unset] [(.int (1 : Int32))])) _
          refine XS.istore X22.here hx rfl (hb hby at_151) rfl (l' := #[.val (.int p1), .val (.int z1), .val (.int z3), .val (.int z5), .val (.int z7), .val (.ref b9), .val (.ref b11), .val (.ref b13), .val (.int (0 : Int32)), .val (.int (1 : Int32))]) rfl ?_
          show Steps p.tables e below (T22.setTop (mkF m 153 #[.val (.int p1), .val (.int z1), .val (.int z3), .val (.int z5), .val (.int z7), .val (.ref b9), .val (.ref b11), .val (.ref b13), .val (.int (0 : Int32)), .val (.int (1 : Int32))] [])) _
          refine XS.iload X22.here hx rfl (hb hby at_153) rfl ?_
          show Steps p.tables e below (T22.setTop (mkF m 155 #[.val (.int p1), .val (.int z1), .val (.int z3), .val (.int z5), .val (.int z7), .val (.ref b9), .val (.ref b11), .val (.ref b13), .val (.int (0 : Int32)), .val (.int (1 : Int32))] [(.int (0 : Int32))])) _
          refine XS.ifNo X22.here hx rfl (hb hby at_155) rfl ((if0 _ _).trans (teq (by decide)).2) ?_
          show Steps p.tables e below (T22.setTop (mkF m 158 #[.val (.int p1), .val (.int z1), .val (.int z3), .val (.int z5), .val (.int z7), .val (.ref b9), .val (.ref b11), .val (.ref b13), .val (.int (0 : Int32)), .val (.int (1 : Int32))] [])) _
          refine XS.aload X22.here hx rfl (hb hby at_158) rfl rfl ?_
          exact k
        obtain ⟨cq23, kq23, q23a, q23b, q23c⟩ := isOf hZ rfl E22q
        obtain ⟨_, _, ⟨T23, L23, k23, n23⟩, -, X23, ⟨Lc23, hQ23, l23, y23, z23⟩, st23⟩ := X22.virtualBack hx (y := (⟨"com/example/sira/sira/wire/MessageProperties", "isReceipt", "()Z"⟩ : MethodName)) (z := (⟨"com/example/sira/sira/wire/MessageProperties", "isReceipt", "()Z"⟩ : MethodName)) hown (mvT hZ (hw _ (List.mem_of_getElem? (i := 51) rfl))) (mvT hZ (hw _ (List.mem_of_getElem? (i := 52) rfl))) (notFace_of_selects (args := #[]) (mvT hZ (hw _ (List.mem_of_getElem? (i := 54) rfl)))) (mvT hZ (hw _ (List.mem_of_getElem? (i := 54) rfl))) (mvT hZ (hw _ (List.mem_of_getElem? (i := 53) rfl))) (by decide) (backOf (W := 0) (rm5c l Z a0 hw [] b9 b13 T22.heap n0 (Nat.le_trans (Nat.le_trans (Nat.le_trans (Nat.le_trans (Nat.le_trans (Nat.le_trans (Nat.le_trans (Nat.le_trans Z0 E9.1) K10q.1) E11.1) K12q.1) E13.1) K14q.1) K18q.1) K22q.1) F22_1 F22_2 F22_0) hZ (hw _ (List.mem_of_getElem? (i := 55) rfl)) (hw _ (List.mem_of_getElem? (i := 2) rfl)) (by decide) (by decide)) q23a q23c (g := (mkF m 160 #[.val (.int p1), .val (.int z1), .val (.int z3), .val (.int z5), .val (.int z7), .val (.ref b9), .val (.ref b11), .val (.ref b13), .val (.int (0 : Int32)), .val (.int (1 : Int32))] [(.ref b9)])) rfl (by rw [hml]; rfl) (Steps.refl _) (argsL := []) (rest := []) (lenOf own_pd3 rfl) rfl (by show 2 * 0 + _ ≤ _; exact Nat.le_of_eq rfl) (hb hby at_160) (fun _ _ => ⟨rfl, rfl, (by decide : 9 + 0 ≤ _), (by decide : 353 + 0 ≤ _)⟩)
        dsimp only [Pt.U, Pt.locs, Pt.cells, Pt.slots] at X23 l23 y23 z23 st23 hQ23
        subst l23 y23 z23
        obtain ⟨rfl, N23q, eq23⟩ := hQ23
        have N23 := Fr.app N22 N23q
        refine own_go (B := T23.setTop (mkF m 163 #[.val (.int p1), .val (.int z1), .val (.int z3), .val (.int z5), .val (.int z7), .val (.ref b9), .val (.ref b11), .val (.ref b13), .val (.int (0 : Int32)), .val (.int (1 : Int32))] [(.int (1 : Int32))])) (fun t k => st23.trans k) ?_
        obtain ⟨fs, hr, hrun, hended, hRW⟩ := X23.leaveW hS (by rw [eq23]; exact (Nat.le_trans (Nat.le_trans (Nat.le_trans (Nat.le_trans (Nat.le_trans (Nat.le_trans (Nat.le_refl _) E11.1) K12q.1) E13.1) K14q.1) K18q.1) K22q.1)) (v := some (.int (1 : Int32))) (fun h => by rw [Bd.returns] at h; cases h)
        refine ⟨_, _, ?_, hrun, hended, _, _, rfl, ?_, hRW.1, hRW.2.1, hRW.2.2.1, hRW.2.2.2.mono (by decide) (by decide)⟩
        · show Steps p.tables e below (T23.setTop (mkF m 163 #[.val (.int p1), .val (.int z1), .val (.int z3), .val (.int z5), .val (.int z7), .val (.ref b9), .val (.ref b11), .val (.ref b13), .val (.int (0 : Int32)), .val (.int (1 : Int32))] [(.int (1 : Int32))])) _
          refine XS.iload X23.here hx rfl (hb hby at_163) rfl ?_
          show Steps p.tables e below (T23.setTop (mkF m 165 #[.val (.int p1), .val (.int z1), .val (.int z3), .val (.int z5), .val (.int z7), .val (.ref b9), .val (.ref b11), .val (.ref b13), .val (.int (0 : Int32)), .val (.int (1 : Int32))] [(.int (1 : Int32)), (.int (1 : Int32))])) _
          refine XS.icmpNo X23.here hx rfl (hb hby at_165) rfl (teq (by decide)).2 ?_
          show Steps p.tables e below (T23.setTop (mkF m 168 #[.val (.int p1), .val (.int z1), .val (.int z3), .val (.int z5), .val (.int z7), .val (.ref b9), .val (.ref b11), .val (.ref b13), .val (.int (0 : Int32)), .val (.int (1 : Int32))] [])) _
          refine XS.iconst X23.here hx rfl (hb hby at_168) ?_
          show Steps p.tables e below (T23.setTop (mkF m 169 #[.val (.int p1), .val (.int z1), .val (.int z3), .val (.int z5), .val (.int z7), .val (.ref b9), .val (.ref b11), .val (.ref b13), .val (.int (0 : Int32)), .val (.int (1 : Int32))] [(.int (1 : Int32))])) _
          refine XS.goto X23.here hx rfl (pc0 := 169) (pc' := 173) rfl (hb hby at_169) (by decide) (by decide) ?_
          show Steps p.tables e below (T23.setTop (mkF m 173 #[.val (.int p1), .val (.int z1), .val (.int z3), .val (.int z5), .val (.int z7), .val (.ref b9), .val (.ref b11), .val (.ref b13), .val (.int (0 : Int32)), .val (.int (1 : Int32))] [(.int (1 : Int32))])) _
          exact retN X23 hx (t := .boolean) Bd.returns (by simp) (hb hby at_173) hr
        · show Q0 Z p1 h0 n0 _ T23.heap _
          rw [eq23]
          exact ⟨rfl, N23⟩
    · refine own_go (B := T15.setTop (mkF m 120 #[.val (.int p1), .val (.int z1), .val (.int z3), .val (.int z5), .val (.int z7), .val (.ref b9), .val (.ref b11), .val (.ref b13), .val (.int (0 : Int32)), .unset] [(.ref b11), (.ref b9)])) (fun t k => ?_) ?_
      · show Steps p.tables e below (T15.setTop (mkF m 111 #[.val (.int p1), .val (.int z1), .val (.int z3), .val (.int z5), .val (.int z7), .val (.ref b9), .val (.ref b11), .val (.ref b13), .val (.int (0 : Int32)), .unset] [(.int z1), (.ref b9)])) _
        refine XS.ifNo X15.here hx rfl (hb hby at_111) rfl ((if0 _ _).trans (feq hc111_17).1) ?_
        show Steps p.tables e below (T15.setTop (mkF m 114 #[.val (.int p1), .val (.int z1), .val (.int z3), .val (.int z5), .val (.int z7), .val (.ref b9), .val (.ref b11), .val (.ref b13), .val (.int (0 : Int32)), .unset] [(.ref b9)])) _
        refine XS.aload X15.here hx rfl (hb hby at_114) rfl rfl ?_
        show Steps p.tables e below (T15.setTop (mkF m 116 #[.val (.int p1), .val (.int z1), .val (.int z3), .val (.int z5), .val (.int z7), .val (.ref b9), .val (.ref b11), .val (.ref b13), .val (.int (0 : Int32)), .unset] [(.ref b11), (.ref b9)])) _
        refine XS.goto X15.here hx rfl (pc0 := 116) (pc' := 120) rfl (hb hby at_116) (by decide) (by decide) ?_
        exact k
      obtain ⟨cq24, kq24, q24a, q24b, q24c⟩ := isOf hZ eq15 c14_E_b9
      obtain ⟨_, _, ⟨T24, L24, k24, n24⟩, -, X24, ⟨Lc24, hQ24, l24, y24, z24⟩, st24⟩ := X15.virtualBack hx (y := (⟨"com/example/sira/sira/wire/MessageProperties", "setDeliveryReceipt", "(Lcom/example/sira/sira/wire/DeliveryReceipt;)V"⟩ : MethodName)) (z := (⟨"com/example/sira/sira/wire/MessageProperties", "setDeliveryReceipt", "(Lcom/example/sira/sira/wire/DeliveryReceipt;)V"⟩ : MethodName)) hown (mvT hZ (hw _ (List.mem_of_getElem? (i := 62) rfl))) (mvT hZ (hw _ (List.mem_of_getElem? (i := 63) rfl))) (notFace_of_selects (args := #[]) (mvT hZ (hw _ (List.mem_of_getElem? (i := 65) rfl)))) (mvT hZ (hw _ (List.mem_of_getElem? (i := 65) rfl))) (mvT hZ (hw _ (List.mem_of_getElem? (i := 64) rfl))) (by decide) (backOf (W := 0) (rm6 l Z a0 hw [] b9 b11 .null .null .null T14.heap n0 (Nat.le_trans (Nat.le_trans (Nat.le_trans (Nat.le_trans (Nat.le_trans (Nat.le_trans Z0 E9.1) K10q.1) E11.1) K12q.1) E13.1) K14q.1) c14_E_b9 g_b9 c14_F_b9_deliveryReceipt c14_F_b9_streamReceipt c14_F_b9_commitmentReceipt) hZ (hw _ (List.mem_of_getElem? (i := 66) rfl)) (hw _ (List.mem_of_getElem? (i := 2) rfl)) (by decide) (by decide)) q24a q24c (g := (mkF m 120 #[.val (.int p1), .val (.int z1), .val (.int z3), .val (.int z5), .val (.int z7), .val (.ref b9), .val (.ref b11), .val (.ref b13), .val (.int (0 : Int32)), .unset] [(.ref b11), (.ref b9)])) rfl (by rw [hml]; rfl) (Steps.refl _) (argsL := [(.ref b11)]) (rest := []) (lenOf own_pd4 rfl) rfl (by show 2 * 0 + _ ≤ _; exact Nat.le_of_eq rfl) (hb hby at_120) (fun _ _ => ⟨rfl, eq15, (by decide : 9 + 0 ≤ _), (by decide : 353 + 0 ≤ _)⟩)
      dsimp only [Pt.U, Pt.locs, Pt.cells, Pt.slots] at X24 l24 y24 z24 st24 hQ24
      subst l24 y24 z24
      obtain ⟨rfl, N24q, K24q, E24q, F24_0, F24_1, F24_2⟩ := hQ24
      have N24 := Fr.app N15 N24q
      have c24_E_b11 := c14_E_b11.keep K24q
      have c24_E_b13 := E14q.keep K24q
      refine own_go (B := T24.setTop (mkF m 123 #[.val (.int p1), .val (.int z1), .val (.int z3), .val (.int z5), .val (.int z7), .val (.ref b9), .val (.ref b11), .val (.ref b13), .val (.int (0 : Int32)), .unset] [])) (fun t k => st24.trans k) ?_
      refine own_go (B := T24.setTop (mkF m 126 #[.val (.int p1), .val (.int z1), .val (.int z3), .val (.int z5), .val (.int z7), .val (.ref b9), .val (.ref b11), .val (.ref b13), .val (.int (0 : Int32)), .unset] [(.int z3), (.ref b9)])) (fun t k => ?_) ?_
      · show Steps p.tables e below (T24.setTop (mkF m 123 #[.val (.int p1), .val (.int z1), .val (.int z3), .val (.int z5), .val (.int z7), .val (.ref b9), .val (.ref b11), .val (.ref b13), .val (.int (0 : Int32)), .unset] [])) _
        refine XS.aload X24.here hx rfl (hb hby at_123) rfl rfl ?_
        show Steps p.tables e below (T24.setTop (mkF m 125 #[.val (.int p1), .val (.int z1), .val (.int z3), .val (.int z5), .val (.int z7), .val (.ref b9), .val (.ref b11), .val (.ref b13), .val (.int (0 : Int32)), .unset] [(.ref b9)])) _
        refine XS.iloadN X24.here hx rfl (hb hby at_125) rfl ?_
        exact k
      by_cases hc126_25 : z3 = (0 : Int32)
      · refine own_go (B := T24.setTop (mkF m 135 #[.val (.int p1), .val (.int z1), .val (.int z3), .val (.int z5), .val (.int z7), .val (.ref b9), .val (.ref b11), .val (.ref b13), .val (.int (0 : Int32)), .unset] [.null, (.ref b9)])) (fun t k => ?_) ?_
        · show Steps p.tables e below (T24.setTop (mkF m 126 #[.val (.int p1), .val (.int z1), .val (.int z3), .val (.int z5), .val (.int z7), .val (.ref b9), .val (.ref b11), .val (.ref b13), .val (.int (0 : Int32)), .unset] [(.int z3), (.ref b9)])) _
          refine XS.ifYes X24.here hx rfl (pc0 := 126) (pc' := 134) rfl (hb hby at_126) rfl ((if0 _ _).trans (teq hc126_25).1) (by decide) (by decide) ?_
          show Steps p.tables e below (T24.setTop (mkF m 134 #[.val (.int p1), .val (.int z1), .val (.int z3), .val (.int z5), .val (.int z7), .val (.ref b9), .val (.ref b11), .val (.ref b13), .val (.int (0 : Int32)), .unset] [(.ref b9)])) _
          refine XS.aconstNull X24.here hx rfl (hb hby at_134) ?_
          exact k
        obtain ⟨cq26, kq26, q26a, q26b, q26c⟩ := isOf hZ rfl E24q
        obtain ⟨_, _, ⟨T26, L26, k26, n26⟩, -, X26, ⟨Lc26, hQ26, l26, y26, z26⟩, st26⟩ := X24.virtualBack hx (y := (⟨"com/example/sira/sira/wire/MessageProperties", "setCommitmentReceipt", "(Lcom/example/sira/sira/wire/CommitmentReceipt;)V"⟩ : MethodName)) (z := (⟨"com/example/sira/sira/wire/MessageProperties", "setCommitmentReceipt", "(Lcom/example/sira/sira/wire/CommitmentReceipt;)V"⟩ : MethodName)) hown (mvT hZ (hw _ (List.mem_of_getElem? (i := 67) rfl))) (mvT hZ (hw _ (List.mem_of_getElem? (i := 68) rfl))) (notFace_of_selects (args := #[]) (mvT hZ (hw _ (List.mem_of_getElem? (i := 70) rfl)))) (mvT hZ (hw _ (List.mem_of_getElem? (i := 70) rfl))) (mvT hZ (hw _ (List.mem_of_getElem? (i := 69) rfl))) (by decide) (backOf (W := 0) (rm7n l Z a0 hw [] b9 .null .null (.ref b11) T24.heap n0 (Nat.le_trans (Nat.le_trans (Nat.le_trans (Nat.le_trans (Nat.le_trans (Nat.le_trans (Nat.le_trans Z0 E9.1) K10q.1) E11.1) K12q.1) E13.1) K14q.1) K24q.1) E24q g_b9 F24_2 F24_1 F24_0) hZ (hw _ (List.mem_of_getElem? (i := 71) rfl)) (hw _ (List.mem_of_getElem? (i := 2) rfl)) (by decide) (by decide)) q26a q26c (g := (mkF m 135 #[.val (.int p1), .val (.int z1), .val (.int z3), .val (.int z5), .val (.int z7), .val (.ref b9), .val (.ref b11), .val (.ref b13), .val (.int (0 : Int32)), .unset] [.null, (.ref b9)])) rfl (by rw [hml]; rfl) (Steps.refl _) (argsL := [.null]) (rest := []) (lenOf own_pd5 rfl) rfl (by show 2 * 0 + _ ≤ _; exact Nat.le_of_eq rfl) (hb hby at_135) (fun _ _ => ⟨rfl, rfl, (by decide : 9 + 0 ≤ _), (by decide : 353 + 0 ≤ _)⟩)
        dsimp only [Pt.U, Pt.locs, Pt.cells, Pt.slots] at X26 l26 y26 z26 st26 hQ26
        subst l26 y26 z26
        obtain ⟨rfl, N26q, K26q, E26q, F26_0, F26_1, F26_2⟩ := hQ26
        have N26 := Fr.app N24 N26q
        have c26_E_b11 := c24_E_b11.keep K26q
        have c26_E_b13 := c24_E_b13.keep K26q
        refine own_go (B := T26.setTop (mkF m 138 #[.val (.int p1), .val (.int z1), .val (.int z3), .val (.int z5), .val (.int z7), .val (.ref b9), .val (.ref b11), .val (.ref b13), .val (.int (0 : Int32)), .unset] [])) (fun t k => st26.trans k) ?_
        refine own_go (B := T26.setTop (mkF m 160 #[.val (.int p1), .val (.int z1), .val (.int z3), .val (.int z5), .val (.int z7), .val (.ref b9), .val (.ref b11), .val (.ref b13), .val (.int (0 : Int32)), .val (.int (1 : Int32))] [(.ref b9)])) (fun t k => ?_) ?_
        · show Steps p.tables e below (T26.setTop (mkF m 138 #[.val (.int p1), .val (.int z1), .val (.int z3), .val (.int z5), .val (.int z7), .val (.ref b9), .val (.ref b11), .val (.ref b13), .val (.int (0 : Int32)), .unset] [])) _
          refine XS.iloadN X26.here hx rfl (hb hby at_138) rfl ?_
          show Steps p.tables e below (T26.setTop (mkF m 139 #[.val (.int p1), .val (.int z1), .val (.int z3), .val (.int z5), .val (.int z7), .val (.ref b9), .val (.ref b11), .val (.ref b13), .val (.int (0 : Int32)), .unset] [(.int z1)])) _
          refine XS.ifYes X26.here hx rfl (pc0 := 139) (pc' := 146) rfl (hb hby at_139) rfl ((if0 _ _).trans (feq hc111_17).2) (by decide) (by decide) ?_
          show Steps p.tables e below (T26.setTop (mkF m 146 #[.val (.int p1), .val (.int z1), .val (.int z3), .val (.int z5), .val (.int z7), .val (.ref b9), .val (.ref b11), .val (.ref b13), .val (.int (0 : Int32)), .unset] [])) _
          refine XS.iconst X26.here hx rfl (hb hby at_146) ?_
          show Steps p.tables e below (T26.setTop (mkF m 147 #[.val (.int p1), .val (.int z1), .val (.int z3), .val (.int z5), .val (.int z7), .val (.ref b9), .val (.ref b11), .val (.ref b13), .val (.int (0 : Int32)), .unset] [(.int (1 : Int32))])) _
          refine XS.goto X26.here hx rfl (pc0 := 147) (pc' := 151) rfl (hb hby at_147) (by decide) (by decide) ?_
          show Steps p.tables e below (T26.setTop (mkF m 151 #[.val (.int p1), .val (.int z1), .val (.int z3), .val (.int z5), .val (.int z7), .val (.ref b9), .val (.ref b11), .val (.ref b13), .val (.int (0 : Int32)), .unset] [(.int (1 : Int32))])) _
          refine XS.istore X26.here hx rfl (hb hby at_151) rfl (l' := #[.val (.int p1), .val (.int z1), .val (.int z3), .val (.int z5), .val (.int z7), .val (.ref b9), .val (.ref b11), .val (.ref b13), .val (.int (0 : Int32)), .val (.int (1 : Int32))]) rfl ?_
          show Steps p.tables e below (T26.setTop (mkF m 153 #[.val (.int p1), .val (.int z1), .val (.int z3), .val (.int z5), .val (.int z7), .val (.ref b9), .val (.ref b11), .val (.ref b13), .val (.int (0 : Int32)), .val (.int (1 : Int32))] [])) _
          refine XS.iload X26.here hx rfl (hb hby at_153) rfl ?_
          show Steps p.tables e below (T26.setTop (mkF m 155 #[.val (.int p1), .val (.int z1), .val (.int z3), .val (.int z5), .val (.int z7), .val (.ref b9), .val (.ref b11), .val (.ref b13), .val (.int (0 : Int32)), .val (.int (1 : Int32))] [(.int (0 : Int32))])) _
          refine XS.ifNo X26.here hx rfl (hb hby at_155) rfl ((if0 _ _).trans (teq (by decide)).2) ?_
          show Steps p.tables e below (T26.setTop (mkF m 158 #[.val (.int p1), .val (.int z1), .val (.int z3), .val (.int z5), .val (.int z7), .val (.ref b9), .val (.ref b11), .val (.ref b13), .val (.int (0 : Int32)), .val (.int (1 : Int32))] [])) _
          refine XS.aload X26.here hx rfl (hb hby at_158) rfl rfl ?_
          exact k
        obtain ⟨cq27, kq27, q27a, q27b, q27c⟩ := isOf hZ rfl E26q
        obtain ⟨_, _, ⟨T27, L27, k27, n27⟩, -, X27, ⟨Lc27, hQ27, l27, y27, z27⟩, st27⟩ := X26.virtualBack hx (y := (⟨"com/example/sira/sira/wire/MessageProperties", "isReceipt", "()Z"⟩ : MethodName)) (z := (⟨"com/example/sira/sira/wire/MessageProperties", "isReceipt", "()Z"⟩ : MethodName)) hown (mvT hZ (hw _ (List.mem_of_getElem? (i := 51) rfl))) (mvT hZ (hw _ (List.mem_of_getElem? (i := 52) rfl))) (notFace_of_selects (args := #[]) (mvT hZ (hw _ (List.mem_of_getElem? (i := 54) rfl)))) (mvT hZ (hw _ (List.mem_of_getElem? (i := 54) rfl))) (mvT hZ (hw _ (List.mem_of_getElem? (i := 53) rfl))) (by decide) (backOf (W := 0) (rm5b l Z a0 hw [] b9 b11 T26.heap n0 (Nat.le_trans (Nat.le_trans (Nat.le_trans (Nat.le_trans (Nat.le_trans (Nat.le_trans (Nat.le_trans (Nat.le_trans Z0 E9.1) K10q.1) E11.1) K12q.1) E13.1) K14q.1) K24q.1) K26q.1) F26_1 F26_2) hZ (hw _ (List.mem_of_getElem? (i := 55) rfl)) (hw _ (List.mem_of_getElem? (i := 2) rfl)) (by decide) (by decide)) q27a q27c (g := (mkF m 160 #[.val (.int p1), .val (.int z1), .val (.int z3), .val (.int z5), .val (.int z7), .val (.ref b9), .val (.ref b11), .val (.ref b13), .val (.int (0 : Int32)), .val (.int (1 : Int32))] [(.ref b9)])) rfl (by rw [hml]; rfl) (Steps.refl _) (argsL := []) (rest := []) (lenOf own_pd3 rfl) rfl (by show 2 * 0 + _ ≤ _; exact Nat.le_of_eq rfl) (hb hby at_160) (fun _ _ => ⟨rfl, rfl, (by decide : 9 + 0 ≤ _), (by decide : 353 + 0 ≤ _)⟩)
        dsimp only [Pt.U, Pt.locs, Pt.cells, Pt.slots] at X27 l27 y27 z27 st27 hQ27
        subst l27 y27 z27
        obtain ⟨rfl, N27q, eq27⟩ := hQ27
        have N27 := Fr.app N26 N27q
        refine own_go (B := T27.setTop (mkF m 163 #[.val (.int p1), .val (.int z1), .val (.int z3), .val (.int z5), .val (.int z7), .val (.ref b9), .val (.ref b11), .val (.ref b13), .val (.int (0 : Int32)), .val (.int (1 : Int32))] [(.int (1 : Int32))])) (fun t k => st27.trans k) ?_
        obtain ⟨fs, hr, hrun, hended, hRW⟩ := X27.leaveW hS (by rw [eq27]; exact (Nat.le_trans (Nat.le_trans (Nat.le_trans (Nat.le_trans (Nat.le_trans (Nat.le_trans (Nat.le_refl _) E11.1) K12q.1) E13.1) K14q.1) K24q.1) K26q.1)) (v := some (.int (1 : Int32))) (fun h => by rw [Bd.returns] at h; cases h)
        refine ⟨_, _, ?_, hrun, hended, _, _, rfl, ?_, hRW.1, hRW.2.1, hRW.2.2.1, hRW.2.2.2.mono (by decide) (by decide)⟩
        · show Steps p.tables e below (T27.setTop (mkF m 163 #[.val (.int p1), .val (.int z1), .val (.int z3), .val (.int z5), .val (.int z7), .val (.ref b9), .val (.ref b11), .val (.ref b13), .val (.int (0 : Int32)), .val (.int (1 : Int32))] [(.int (1 : Int32))])) _
          refine XS.iload X27.here hx rfl (hb hby at_163) rfl ?_
          show Steps p.tables e below (T27.setTop (mkF m 165 #[.val (.int p1), .val (.int z1), .val (.int z3), .val (.int z5), .val (.int z7), .val (.ref b9), .val (.ref b11), .val (.ref b13), .val (.int (0 : Int32)), .val (.int (1 : Int32))] [(.int (1 : Int32)), (.int (1 : Int32))])) _
          refine XS.icmpNo X27.here hx rfl (hb hby at_165) rfl (teq (by decide)).2 ?_
          show Steps p.tables e below (T27.setTop (mkF m 168 #[.val (.int p1), .val (.int z1), .val (.int z3), .val (.int z5), .val (.int z7), .val (.ref b9), .val (.ref b11), .val (.ref b13), .val (.int (0 : Int32)), .val (.int (1 : Int32))] [])) _
          refine XS.iconst X27.here hx rfl (hb hby at_168) ?_
          show Steps p.tables e below (T27.setTop (mkF m 169 #[.val (.int p1), .val (.int z1), .val (.int z3), .val (.int z5), .val (.int z7), .val (.ref b9), .val (.ref b11), .val (.ref b13), .val (.int (0 : Int32)), .val (.int (1 : Int32))] [(.int (1 : Int32))])) _
          refine XS.goto X27.here hx rfl (pc0 := 169) (pc' := 173) rfl (hb hby at_169) (by decide) (by decide) ?_
          show Steps p.tables e below (T27.setTop (mkF m 173 #[.val (.int p1), .val (.int z1), .val (.int z3), .val (.int z5), .val (.int z7), .val (.ref b9), .val (.ref b11), .val (.ref b13), .val (.int (0 : Int32)), .val (.int (1 : Int32))] [(.int (1 : Int32))])) _
          exact retN X27 hx (t := .boolean) Bd.returns (by simp) (hb hby at_173) hr
        · show Q0 Z p1 h0 n0 _ T27.heap _
          rw [eq27]
          exact ⟨rfl, N27⟩
      · refine own_go (B := T24.setTop (mkF m 135 #[.val (.int p1), .val (.int z1), .val (.int z3), .val (.int z5), .val (.int z7), .val (.ref b9), .val (.ref b11), .val (.ref b13), .val (.int (0 : Int32)), .unset] [(.ref b13), (.ref b9)])) (fun t k => ?_) ?_
        · show Steps p.tables e below (T24.setTop (mkF m 126 #[.val (.int p1), .val (.int z1), .val (.int z3), .val (.int z5), .val (.int z7), .val (.ref b9), .val (.ref b11), .val (.ref b13), .val (.int (0 : Int32)), .unset] [(.int z3), (.ref b9)])) _
          refine XS.ifNo X24.here hx rfl (hb hby at_126) rfl ((if0 _ _).trans (feq hc126_25).1) ?_
          show Steps p.tables e below (T24.setTop (mkF m 129 #[.val (.int p1), .val (.int z1), .val (.int z3), .val (.int z5), .val (.int z7), .val (.ref b9), .val (.ref b11), .val (.ref b13), .val (.int (0 : Int32)), .unset] [(.ref b9)])) _
          refine XS.aload X24.here hx rfl (hb hby at_129) rfl rfl ?_
          show Steps p.tables e below (T24.setTop (mkF m 131 #[.val (.int p1), .val (.int z1), .val (.int z3), .val (.int z5), .val (.int z7), .val (.ref b9), .val (.ref b11), .val (.ref b13), .val (.int (0 : Int32)), .unset] [(.ref b13), (.ref b9)])) _
          refine XS.goto X24.here hx rfl (pc0 := 131) (pc' := 135) rfl (hb hby at_131) (by decide) (by decide) ?_
          exact k
        obtain ⟨cq28, kq28, q28a, q28b, q28c⟩ := isOf hZ rfl E24q
        obtain ⟨_, _, ⟨T28, L28, k28, n28⟩, -, X28, ⟨Lc28, hQ28, l28, y28, z28⟩, st28⟩ := X24.virtualBack hx (y := (⟨"com/example/sira/sira/wire/MessageProperties", "setCommitmentReceipt", "(Lcom/example/sira/sira/wire/CommitmentReceipt;)V"⟩ : MethodName)) (z := (⟨"com/example/sira/sira/wire/MessageProperties", "setCommitmentReceipt", "(Lcom/example/sira/sira/wire/CommitmentReceipt;)V"⟩ : MethodName)) hown (mvT hZ (hw _ (List.mem_of_getElem? (i := 67) rfl))) (mvT hZ (hw _ (List.mem_of_getElem? (i := 68) rfl))) (notFace_of_selects (args := #[]) (mvT hZ (hw _ (List.mem_of_getElem? (i := 70) rfl)))) (mvT hZ (hw _ (List.mem_of_getElem? (i := 70) rfl))) (mvT hZ (hw _ (List.mem_of_getElem? (i := 69) rfl))) (by decide) (backOf (W := 0) (rm7 l Z a0 hw [] b9 b13 .null .null (.ref b11) T24.heap n0 (Nat.le_trans (Nat.le_trans (Nat.le_trans (Nat.le_trans (Nat.le_trans (Nat.le_trans (Nat.le_trans Z0 E9.1) K10q.1) E11.1) K12q.1) E13.1) K14q.1) K24q.1) E24q g_b9 F24_2 F24_1 F24_0) hZ (hw _ (List.mem_of_getElem? (i := 71) rfl)) (hw _ (List.mem_of_getElem? (i := 2) rfl)) (by decide) (by decide)) q28a q28c (g := (mkF m 135 #[.val (.int p1), .val (.int z1), .val (.int z3), .val (.int z5), .val (.int z7), .val (.ref b9), .val (.ref b11), .val (.ref b13), .val (.int (0 : Int32)), .unset] [(.ref b13), (.ref b9)])) rfl (by rw [hml]; rfl) (Steps.refl _) (argsL := [(.ref b13)]) (rest := []) (lenOf own_pd5 rfl) rfl (by show 2 * 0 + _ ≤ _; exact Nat.le_of_eq rfl) (hb hby at_135) (fun _ _ => ⟨rfl, rfl, (by decide : 9 + 0 ≤ _), (by decide : 353 + 0 ≤ _)⟩)
        dsimp only [Pt.U, Pt.locs, Pt.cells, Pt.slots] at X28 l28 y28 z28 st28 hQ28
        subst l28 y28 z28
        obtain ⟨rfl, N28q, K28q, E28q, F28_0, F28_1, F28_2⟩ := hQ28
        have N28 := Fr.app N24 N28q
        have c28_E_b11 := c24_E_b11.keep K28q
        have c28_E_b13 := c24_E_b13.keep K28q
        refine own_go (B := T28.setTop (mkF m 138 #[.val (.int p1), .val (.int z1), .val (.int z3), .val (.int z5), .val (.int z7), .val (.ref b9), .val (.ref b11), .val (.ref b13), .val (.int (0 : Int32)), .unset] [])) (fun t k => st28.trans k) ?_
        refine own_go (B := T28.setTop (mkF m 160 #[.val (.int p1), .val (.int z1), .val (.int z3), .val (.int z5), .val (.int z7), .val (.ref b9), .val (.ref b11), .val (.ref b13), .val (.int (0 : Int32)), .val (.int (1 : Int32))] [(.ref b9)])) (fun t k => ?_) ?_
        · show Steps p.tables e below (T28.setTop (mkF m 138 #[.val (.int p1), .val (.int z1), .val (.int z3), .val (.int z5), .val (.int z7), .val (.ref b9), .val (.ref b11), .val (.ref b13), .val (.int (0 : Int32)), .unset] [])) _
          refine XS.iloadN X28.here hx rfl (hb hby at_138) rfl ?_
          show Steps p.tables e below (T28.setTop (mkF m 139 #[.val (.int p1), .val (.int z1), .val (.int z3), .val (.int z5), .val (.int z7), .val (.ref b9), .val (.ref b11), .val (.ref b13), .val (.int (0 : Int32)), .unset] [(.int z1)])) _
          refine XS.ifYes X28.here hx rfl (pc0 := 139) (pc' := 146) rfl (hb hby at_139) rfl ((if0 _ _).trans (feq hc111_17).2) (by decide) (by decide) ?_
          show Steps p.tables e below (T28.setTop (mkF m 146 #[.val (.int p1), .val (.int z1), .val (.int z3), .val (.int z5), .val (.int z7), .val (.ref b9), .val (.ref b11), .val (.ref b13), .val (.int (0 : Int32)), .unset] [])) _
          refine XS.iconst X28.here hx rfl (hb hby at_146) ?_
          show Steps p.tables e below (T28.setTop (mkF m 147 #[.val (.int p1), .val (.int z1), .val (.int z3), .val (.int z5), .val (.int z7), .val (.ref b9), .val (.ref b11), .val (.ref b13), .val (.int (0 : Int32)), .unset] [(.int (1 : Int32))])) _
          refine XS.goto X28.here hx rfl (pc0 := 147) (pc' := 151) rfl (hb hby at_147) (by decide) (by decide) ?_
          show Steps p.tables e below (T28.setTop (mkF m 151 #[.val (.int p1), .val (.int z1), .val (.int z3), .val (.int z5), .val (.int z7), .val (.ref b9), .val (.ref b11), .val (.ref b13), .val (.int (0 : Int32)), .unset] [(.int (1 : Int32))])) _
          refine XS.istore X28.here hx rfl (hb hby at_151) rfl (l' := #[.val (.int p1), .val (.int z1), .val (.int z3), .val (.int z5), .val (.int z7), .val (.ref b9), .val (.ref b11), .val (.ref b13), .val (.int (0 : Int32)), .val (.int (1 : Int32))]) rfl ?_
          show Steps p.tables e below (T28.setTop (mkF m 153 #[.val (.int p1), .val (.int z1), .val (.int z3), .val (.int z5), .val (.int z7), .val (.ref b9), .val (.ref b11), .val (.ref b13), .val (.int (0 : Int32)), .val (.int (1 : Int32))] [])) _
          refine XS.iload X28.here hx rfl (hb hby at_153) rfl ?_
          show Steps p.tables e below (T28.setTop (mkF m 155 #[.val (.int p1), .val (.int z1), .val (.int z3), .val (.int z5), .val (.int z7), .val (.ref b9), .val (.ref b11), .val (.ref b13), .val (.int (0 : Int32)), .val (.int (1 : Int32))] [(.int (0 : Int32))])) _
          refine XS.ifNo X28.here hx rfl (hb hby at_155) rfl ((if0 _ _).trans (teq (by decide)).2) ?_
          show Steps p.tables e below (T28.setTop (mkF m 158 #[.val (.int p1), .val (.int z1), .val (.int z3), .val (.int z5), .val (.int z7), .val (.ref b9), .val (.ref b11), .val (.ref b13), .val (.int (0 : Int32)), .val (.int (1 : Int32))] [])) _
          refine XS.aload X28.here hx rfl (hb hby at_158) rfl rfl ?_
          exact k
        obtain ⟨cq29, kq29, q29a, q29b, q29c⟩ := isOf hZ rfl E28q
        obtain ⟨_, _, ⟨T29, L29, k29, n29⟩, -, X29, ⟨Lc29, hQ29, l29, y29, z29⟩, st29⟩ := X28.virtualBack hx (y := (⟨"com/example/sira/sira/wire/MessageProperties", "isReceipt", "()Z"⟩ : MethodName)) (z := (⟨"com/example/sira/sira/wire/MessageProperties", "isReceipt", "()Z"⟩ : MethodName)) hown (mvT hZ (hw _ (List.mem_of_getElem? (i := 51) rfl))) (mvT hZ (hw _ (List.mem_of_getElem? (i := 52) rfl))) (notFace_of_selects (args := #[]) (mvT hZ (hw _ (List.mem_of_getElem? (i := 54) rfl)))) (mvT hZ (hw _ (List.mem_of_getElem? (i := 54) rfl))) (mvT hZ (hw _ (List.mem_of_getElem? (i := 53) rfl))) (by decide) (backOf (W := 0) (rm5b l Z a0 hw [] b9 b11 T28.heap n0 (Nat.le_trans (Nat.le_trans (Nat.le_trans (Nat.le_trans (Nat.le_trans (Nat.le_trans (Nat.le_trans (Nat.le_trans Z0 E9.1) K10q.1) E11.1) K12q.1) E13.1) K14q.1) K24q.1) K28q.1) F28_1 F28_2) hZ (hw _ (List.mem_of_getElem? (i := 55) rfl)) (hw _ (List.mem_of_getElem? (i := 2) rfl)) (by decide) (by decide)) q29a q29c (g := (mkF m 160 #[.val (.int p1), .val (.int z1), .val (.int z3), .val (.int z5), .val (.int z7), .val (.ref b9), .val (.ref b11), .val (.ref b13), .val (.int (0 : Int32)), .val (.int (1 : Int32))] [(.ref b9)])) rfl (by rw [hml]; rfl) (Steps.refl _) (argsL := []) (rest := []) (lenOf own_pd3 rfl) rfl (by show 2 * 0 + _ ≤ _; exact Nat.le_of_eq rfl) (hb hby at_160) (fun _ _ => ⟨rfl, rfl, (by decide : 9 + 0 ≤ _), (by decide : 353 + 0 ≤ _)⟩)
        dsimp only [Pt.U, Pt.locs, Pt.cells, Pt.slots] at X29 l29 y29 z29 st29 hQ29
        subst l29 y29 z29
        obtain ⟨rfl, N29q, eq29⟩ := hQ29
        have N29 := Fr.app N28 N29q
        refine own_go (B := T29.setTop (mkF m 163 #[.val (.int p1), .val (.int z1), .val (.int z3), .val (.int z5), .val (.int z7), .val (.ref b9), .val (.ref b11), .val (.ref b13), .val (.int (0 : Int32)), .val (.int (1 : Int32))] [(.int (1 : Int32))])) (fun t k => st29.trans k) ?_
        obtain ⟨fs, hr, hrun, hended, hRW⟩ := X29.leaveW hS (by rw [eq29]; exact (Nat.le_trans (Nat.le_trans (Nat.le_trans (Nat.le_trans (Nat.le_trans (Nat.le_trans (Nat.le_refl _) E11.1) K12q.1) E13.1) K14q.1) K24q.1) K28q.1)) (v := some (.int (1 : Int32))) (fun h => by rw [Bd.returns] at h; cases h)
        refine ⟨_, _, ?_, hrun, hended, _, _, rfl, ?_, hRW.1, hRW.2.1, hRW.2.2.1, hRW.2.2.2.mono (by decide) (by decide)⟩
        · show Steps p.tables e below (T29.setTop (mkF m 163 #[.val (.int p1), .val (.int z1), .val (.int z3), .val (.int z5), .val (.int z7), .val (.ref b9), .val (.ref b11), .val (.ref b13), .val (.int (0 : Int32)), .val (.int (1 : Int32))] [(.int (1 : Int32))])) _
          refine XS.iload X29.here hx rfl (hb hby at_163) rfl ?_
          show Steps p.tables e below (T29.setTop (mkF m 165 #[.val (.int p1), .val (.int z1), .val (.int z3), .val (.int z5), .val (.int z7), .val (.ref b9), .val (.ref b11), .val (.ref b13), .val (.int (0 : Int32)), .val (.int (1 : Int32))] [(.int (1 : Int32)), (.int (1 : Int32))])) _
          refine XS.icmpNo X29.here hx rfl (hb hby at_165) rfl (teq (by decide)).2 ?_
          show Steps p.tables e below (T29.setTop (mkF m 168 #[.val (.int p1), .val (.int z1), .val (.int z3), .val (.int z5), .val (.int z7), .val (.ref b9), .val (.ref b11), .val (.ref b13), .val (.int (0 : Int32)), .val (.int (1 : Int32))] [])) _
          refine XS.iconst X29.here hx rfl (hb hby at_168) ?_
          show Steps p.tables e below (T29.setTop (mkF m 169 #[.val (.int p1), .val (.int z1), .val (.int z3), .val (.int z5), .val (.int z7), .val (.ref b9), .val (.ref b11), .val (.ref b13), .val (.int (0 : Int32)), .val (.int (1 : Int32))] [(.int (1 : Int32))])) _
          refine XS.goto X29.here hx rfl (pc0 := 169) (pc' := 173) rfl (hb hby at_169) (by decide) (by decide) ?_
          show Steps p.tables e below (T29.setTop (mkF m 173 #[.val (.int p1), .val (.int z1), .val (.int z3), .val (.int z5), .val (.int z7), .val (.ref b9), .val (.ref b11), .val (.ref b13), .val (.int (0 : Int32)), .val (.int (1 : Int32))] [(.int (1 : Int32))])) _
          exact retN X29 hx (t := .boolean) Bd.returns (by simp) (hb hby at_173) hr
        · show Q0 Z p1 h0 n0 _ T29.heap _
          rw [eq29]
          exact ⟨rfl, N29⟩
  · refine own_go (B := T15.setTop (mkF m 98 #[.val (.int p1), .val (.int z1), .val (.int z3), .val (.int z5), .val (.int z7), .val (.ref b9), .val (.ref b11), .val (.ref b13), .val (.int (0 : Int32)), .unset] [(.ref b11), (.ref b9)])) (fun t k => ?_) ?_
    · show Steps p.tables e below (T15.setTop (mkF m 91 #[.val (.int p1), .val (.int z1), .val (.int z3), .val (.int z5), .val (.int z7), .val (.ref b9), .val (.ref b11), .val (.ref b13), .val (.int (0 : Int32)), .unset] [(.int z5)])) _
      refine XS.ifNo X15.here hx rfl (hb hby at_91) rfl ((if0 _ _).trans (feq hc91_16).1) ?_
      show Steps p.tables e below (T15.setTop (mkF m 94 #[.val (.int p1), .val (.int z1), .val (.int z3), .val (.int z5), .val (.int z7), .val (.ref b9), .val (.ref b11), .val (.ref b13), .val (.int (0 : Int32)), .unset] [])) _
      refine XS.aload X15.here hx rfl (hb hby at_94) rfl rfl ?_
      show Steps p.tables e below (T15.setTop (mkF m 96 #[.val (.int p1), .val (.int z1), .val (.int z3), .val (.int z5), .val (.int z7), .val (.ref b9), .val (.ref b11), .val (.ref b13), .val (.int (0 : Int32)), .unset] [(.ref b9)])) _
      refine XS.aload X15.here hx rfl (hb hby at_96) rfl rfl ?_
      exact k
    obtain ⟨cq30, kq30, q30a, q30b, q30c⟩ := isOf hZ eq15 c14_E_b9
    obtain ⟨_, _, ⟨T30, L30, k30, n30⟩, -, X30, ⟨Lc30, hQ30, l30, y30, z30⟩, st30⟩ := X15.virtualBack hx (y := (⟨"com/example/sira/sira/wire/MessageProperties", "setDeliveryReceipt", "(Lcom/example/sira/sira/wire/DeliveryReceipt;)V"⟩ : MethodName)) (z := (⟨"com/example/sira/sira/wire/MessageProperties", "setDeliveryReceipt", "(Lcom/example/sira/sira/wire/DeliveryReceipt;)V"⟩ : MethodName)) hown (mvT hZ (hw _ (List.mem_of_getElem? (i := 62) rfl))) (mvT hZ (hw _ (List.mem_of_getElem? (i := 63) rfl))) (notFace_of_selects (args := #[]) (mvT hZ (hw _ (List.mem_of_getElem? (i := 65) rfl)))) (mvT hZ (hw _ (List.mem_of_getElem? (i := 65) rfl))) (mvT hZ (hw _ (List.mem_of_getElem? (i := 64) rfl))) (by decide) (backOf (W := 0) (rm6 l Z a0 hw [] b9 b11 .null .null .null T14.heap n0 (Nat.le_trans (Nat.le_trans (Nat.le_trans (Nat.le_trans (Nat.le_trans (Nat.le_trans Z0 E9.1) K10q.1) E11.1) K12q.1) E13.1) K14q.1) c14_E_b9 g_b9 c14_F_b9_deliveryReceipt c14_F_b9_streamReceipt c14_F_b9_commitmentReceipt) hZ (hw _ (List.mem_of_getElem? (i := 66) rfl)) (hw _ (List.mem_of_getElem? (i := 2) rfl)) (by decide) (by decide)) q30a q30c (g := (mkF m 98 #[.val (.int p1), .val (.int z1), .val (.int z3), .val (.int z5), .val (.int z7), .val (.ref b9), .val (.ref b11), .val (.ref b13), .val (.int (0 : Int32)), .unset] [(.ref b11), (.ref b9)])) rfl (by rw [hml]; rfl) (Steps.refl _) (argsL := [(.ref b11)]) (rest := []) (lenOf own_pd4 rfl) rfl (by show 2 * 0 + _ ≤ _; exact Nat.le_of_eq rfl) (hb hby at_98) (fun _ _ => ⟨rfl, eq15, (by decide : 9 + 0 ≤ _), (by decide : 353 + 0 ≤ _)⟩)
    dsimp only [Pt.U, Pt.locs, Pt.cells, Pt.slots] at X30 l30 y30 z30 st30 hQ30
    subst l30 y30 z30
    obtain ⟨rfl, N30q, K30q, E30q, F30_0, F30_1, F30_2⟩ := hQ30
    have N30 := Fr.app N15 N30q
    have c30_E_b11 := c14_E_b11.keep K30q
    have c30_E_b13 := E14q.keep K30q
    refine own_go (B := T30.setTop (mkF m 101 #[.val (.int p1), .val (.int z1), .val (.int z3), .val (.int z5), .val (.int z7), .val (.ref b9), .val (.ref b11), .val (.ref b13), .val (.int (0 : Int32)), .unset] [])) (fun t k => st30.trans k) ?_
    refine own_go (B := T30.setTop (mkF m 105 #[.val (.int p1), .val (.int z1), .val (.int z3), .val (.int z5), .val (.int z7), .val (.ref b9), .val (.ref b11), .val (.ref b13), .val (.int (0 : Int32)), .unset] [(.ref b13), (.ref b9)])) (fun t k => ?_) ?_
    · show Steps p.tables e below (T30.setTop (mkF m 101 #[.val (.int p1), .val (.int z1), .val (.int z3), .val (.int z5), .val (.int z7), .val (.ref b9), .val (.ref b11), .val (.ref b13), .val (.int (0 : Int32)), .unset] [])) _
      refine XS.aload X30.here hx rfl (hb hby at_101) rfl rfl ?_
      show Steps p.tables e below (T30.setTop (mkF m 103 #[.val (.int p1), .val (.int z1), .val (.int z3), .val (.int z5), .val (.int z7), .val (.ref b9), .val (.ref b11), .val (.ref b13), .val (.int (0 : Int32)), .unset] [(.ref b9)])) _
      refine XS.aload X30.here hx rfl (hb hby at_103) rfl rfl ?_
      exact k
    obtain ⟨cq31, kq31, q31a, q31b, q31c⟩ := isOf hZ rfl E30q
    obtain ⟨_, _, ⟨T31, L31, k31, n31⟩, -, X31, ⟨Lc31, hQ31, l31, y31, z31⟩, st31⟩ := X30.virtualBack hx (y := (⟨"com/example/sira/sira/wire/MessageProperties", "setCommitmentReceipt", "(Lcom/example/sira/sira/wire/CommitmentReceipt;)V"⟩ : MethodName)) (z := (⟨"com/example/sira/sira/wire/MessageProperties", "setCommitmentReceipt", "(Lcom/example/sira/sira/wire/CommitmentReceipt;)V"⟩ : MethodName)) hown (mvT hZ (hw _ (List.mem_of_getElem? (i := 67) rfl))) (mvT hZ (hw _ (List.mem_of_getElem? (i := 68) rfl))) (notFace_of_selects (args := #[]) (mvT hZ (hw _ (List.mem_of_getElem? (i := 70) rfl)))) (mvT hZ (hw _ (List.mem_of_getElem? (i := 70) rfl))) (mvT hZ (hw _ (List.mem_of_getElem? (i := 69) rfl))) (by decide) (backOf (W := 0) (rm7 l Z a0 hw [] b9 b13 .null .null (.ref b11) T30.heap n0 (Nat.le_trans (Nat.le_trans (Nat.le_trans (Nat.le_trans (Nat.le_trans (Nat.le_trans (Nat.le_trans Z0 E9.1) K10q.1) E11.1) K12q.1) E13.1) K14q.1) K30q.1) E30q g_b9 F30_2 F30_1 F30_0) hZ (hw _ (List.mem_of_getElem? (i := 71) rfl)) (hw _ (List.mem_of_getElem? (i := 2) rfl)) (by decide) (by decide)) q31a q31c (g := (mkF m 105 #[.val (.int p1), .val (.int z1), .val (.int z3), .val (.int z5), .val (.int z7), .val (.ref b9), .val (.ref b11), .val (.ref b13), .val (.int (0 : Int32)), .unset] [(.ref b13), (.ref b9)])) rfl (by rw [hml]; rfl) (Steps.refl _) (argsL := [(.ref b13)]) (rest := []) (lenOf own_pd5 rfl) rfl (by show 2 * 0 + _ ≤ _; exact Nat.le_of_eq rfl) (hb hby at_105) (fun _ _ => ⟨rfl, rfl, (by decide : 9 + 0 ≤ _), (by decide : 353 + 0 ≤ _)⟩)
    dsimp only [Pt.U, Pt.locs, Pt.cells, Pt.slots] at X31 l31 y31 z31 st31 hQ31
    subst l31 y31 z31
    obtain ⟨rfl, N31q, K31q, E31q, F31_0, F31_1, F31_2⟩ := hQ31
    have N31 := Fr.app N30 N31q
    have c31_E_b11 := c30_E_b11.keep K31q
    have c31_E_b13 := c30_E_b13.keep K31q
    refine own_go (B := T31.setTop (mkF m 108 #[.val (.int p1), .val (.int z1), .val (.int z3), .val (.int z5), .val (.int z7), .val (.ref b9), .val (.ref b11), .val (.ref b13), .val (.int (0 : Int32)), .unset] [])) (fun t k => st31.trans k) ?_
    refine own_go (B := T31.setTop (mkF m 111 #[.val (.int p1), .val (.int z1), .val (.int z3), .val (.int z5), .val (.int z7), .val (.ref b9), .val (.ref b11), .val (.ref b13), .val (.int (0 : Int32)), .unset] [(.int z1), (.ref b9)])) (fun t k => ?_) ?_
    · show Steps p.tables e below (T31.setTop (mkF m 108 #[.val (.int p1), .val (.int z1), .val (.int z3), .val (.int z5), .val (.int z7), .val (.ref b9), .val (.ref b11), .val (.ref b13), .val (.int (0 : Int32)), .unset] [])) _
      refine XS.aload X31.here hx rfl (hb hby at_108) rfl rfl ?_
      show Steps p.tables e below (T31.setTop (mkF m 110 #[.val (.int p1), .val (.int z1), .val (.int z3), .val (.int z5), .val (.int z7), .val (.ref b9), .val (.ref b11), .val (.ref b13), .val (.int (0 : Int32)), .unset] [(.ref b9)])) _
      refine XS.iloadN X31.here hx rfl (hb hby at_110) rfl ?_
      exact k
    by_cases hc111_32 : z1 = (0 : Int32)
    · refine own_go (B := T31.setTop (mkF m 120 #[.val (.int p1), .val (.int z1), .val (.int z3), .val (.int z5), .val (.int z7), .val (.ref b9), .val (.ref b11), .val (.ref b13), .val (.int (0 : Int32)), .unset] [.null, (.ref b9)])) (fun t k => ?_) ?_
      · show Steps p.tables e below (T31.setTop (mkF m 111 #[.val (.int p1), .val (.int z1), .val (.int z3), .val (.int z5), .val (.int z7), .val (.ref b9), .val (.ref b11), .val (.ref b13), .val (.int (0 : Int32)), .unset] [(.int z1), (.ref b9)])) _
        refine XS.ifYes X31.here hx rfl (pc0 := 111) (pc' := 119) rfl (hb hby at_111) rfl ((if0 _ _).trans (teq hc111_32).1) (by decide) (by decide) ?_
        show Steps p.tables e below (T31.setTop (mkF m 119 #[.val (.int p1), .val (.int z1), .val (.int z3), .val (.int z5), .val (.int z7), .val (.ref b9), .val (.ref b11), .val (.ref b13), .val (.int (0 : Int32)), .unset] [(.ref b9)])) _
        refine XS.aconstNull X31.here hx rfl (hb hby at_119) ?_
        exact k
      obtain ⟨cq33, kq33, q33a, q33b, q33c⟩ := isOf hZ rfl E31q
      obtain ⟨_, _, ⟨T33, L33, k33, n33⟩, -, X33, ⟨Lc33, hQ33, l33, y33, z33⟩, st33⟩ := X31.virtualBack hx (y := (⟨"com/example/sira/sira/wire/MessageProperties", "setDeliveryReceipt", "(Lcom/example/sira/sira/wire/DeliveryReceipt;)V"⟩ : MethodName)) (z := (⟨"com/example/sira/sira/wire/MessageProperties", "setDeliveryReceipt", "(Lcom/example/sira/sira/wire/DeliveryReceipt;)V"⟩ : MethodName)) hown (mvT hZ (hw _ (List.mem_of_getElem? (i := 62) rfl))) (mvT hZ (hw _ (List.mem_of_getElem? (i := 63) rfl))) (notFace_of_selects (args := #[]) (mvT hZ (hw _ (List.mem_of_getElem? (i := 65) rfl)))) (mvT hZ (hw _ (List.mem_of_getElem? (i := 65) rfl))) (mvT hZ (hw _ (List.mem_of_getElem? (i := 64) rfl))) (by decide) (backOf (W := 0) (rm6n l Z a0 hw [] b9 (.ref b11) .null (.ref b13) T31.heap n0 (Nat.le_trans (Nat.le_trans (Nat.le_trans (Nat.le_trans (Nat.le_trans (Nat.le_trans (Nat.le_trans (Nat.le_trans Z0 E9.1) K10q.1) E11.1) K12q.1) E13.1) K14q.1) K30q.1) K31q.1) E31q g_b9 F31_2 F31_1 F31_0) hZ (hw _ (List.mem_of_getElem? (i := 66) rfl)) (hw _ (List.mem_of_getElem? (i := 2) rfl)) (by decide) (by decide)) q33a q33c (g := (mkF m 120 #[.val (.int p1), .val (.int z1), .val (.int z3), .val (.int z5), .val (.int z7), .val (.ref b9), .val (.ref b11), .val (.ref b13), .val (.int (0 : Int32)), .unset] [.null, (.ref b9)])) rfl (by rw [hml]; rfl) (Steps.refl _) (argsL := [.null]) (rest := []) (lenOf own_pd4 rfl) rfl (by show 2 * 0 + _ ≤ _; exact Nat.le_of_eq rfl) (hb hby at_120) (fun _ _ => ⟨rfl, rfl, (by decide : 9 + 0 ≤ _), (by decide : 353 + 0 ≤ _)⟩)
      dsimp only [Pt.U, Pt.locs, Pt.cells, Pt.slots] at X33 l33 y33 z33 st33 hQ33
      subst l33 y33 z33
      obtain ⟨rfl, N33q, K33q, E33q, F33_0, F33_1, F33_2⟩ := hQ33
      have N33 := Fr.app N31 N33q
      have c33_E_b11 := c31_E_b11.keep K33q
      have c33_E_b13 := c31_E_b13.keep K33q
      refine own_go (B := T33.setTop (mkF m 123 #[.val (.int p1), .val (.int z1), .val (.int z3), .val (.int z5), .val (.int z7), .val (.ref b9), .val (.ref b11), .val (.ref b13), .val (.int (0 : Int32)), .unset] [])) (fun t k => st33.trans k) ?_
      refine own_go (B := T33.setTop (mkF m 126 #[.val (.int p1), .val (.int z1), .val (.int z3), .val (.int z5), .val (.int z7), .val (.ref b9), .val (.ref b11), .val (.ref b13), .val (.int (0 : Int32)), .unset] [(.int z3), (.ref b9)])) (fun t k => ?_) ?_
      · show Steps p.tables e below (T33.setTop (mkF m 123 #[.val (.int p1), .val (.int z1), .val (.int z3), .val (.int z5), .val (.int z7), .val (.ref b9), .val (.ref b11), .val (.ref b13), .val (.int (0 : Int32)), .unset] [])) _
        refine XS.aload X33.here hx rfl (hb hby at_123) rfl rfl ?_
        show Steps p.tables e below (T33.setTop (mkF m 125 #[.val (.int p1), .val (.int z1), .val (.int z3), .val (.int z5), .val (.int z7), .val (.ref b9), .val (.ref b11), .val (.ref b13), .val (.int (0 : Int32)), .unset] [(.ref b9)])) _
        refine XS.iloadN X33.here hx rfl (hb hby at_125) rfl ?_
        exact k
      by_cases hc126_34 : z3 = (0 : Int32)
      · refine own_go (B := T33.setTop (mkF m 135 #[.val (.int p1), .val (.int z1), .val (.int z3), .val (.int z5), .val (.int z7), .val (.ref b9), .val (.ref b11), .val (.ref b13), .val (.int (0 : Int32)), .unset] [.null, (.ref b9)])) (fun t k => ?_) ?_
        · show Steps p.tables e below (T33.setTop (mkF m 126 #[.val (.int p1), .val (.int z1), .val (.int z3), .val (.int z5), .val (.int z7), .val (.ref b9), .val (.ref b11), .val (.ref b13), .val (.int (0 : Int32)), .unset] [(.int z3), (.ref b9)])) _
          refine XS.ifYes X33.here hx rfl (pc0 := 126) (pc' := 134) rfl (hb hby at_126) rfl ((if0 _ _).trans (teq hc126_34).1) (by decide) (by decide) ?_
          show Steps p.tables e below (T33.setTop (mkF m 134 #[.val (.int p1), .val (.int z1), .val (.int z3), .val (.int z5), .val (.int z7), .val (.ref b9), .val (.ref b11), .val (.ref b13), .val (.int (0 : Int32)), .unset] [(.ref b9)])) _
          refine XS.aconstNull X33.here hx rfl (hb hby at_134) ?_
          exact k
        obtain ⟨cq35, kq35, q35a, q35b, q35c⟩ := isOf hZ rfl E33q
        obtain ⟨_, _, ⟨T35, L35, k35, n35⟩, -, X35, ⟨Lc35, hQ35, l35, y35, z35⟩, st35⟩ := X33.virtualBack hx (y := (⟨"com/example/sira/sira/wire/MessageProperties", "setCommitmentReceipt", "(Lcom/example/sira/sira/wire/CommitmentReceipt;)V"⟩ : MethodName)) (z := (⟨"com/example/sira/sira/wire/MessageProperties", "setCommitmentReceipt", "(Lcom/example/sira/sira/wire/CommitmentReceipt;)V"⟩ : MethodName)) hown (mvT hZ (hw _ (List.mem_of_getElem? (i := 67) rfl))) (mvT hZ (hw _ (List.mem_of_getElem? (i := 68) rfl))) (notFace_of_selects (args := #[]) (mvT hZ (hw _ (List.mem_of_getElem? (i := 70) rfl)))) (mvT hZ (hw _ (List.mem_of_getElem? (i := 70) rfl))) (mvT hZ (hw _ (List.mem_of_getElem? (i := 69) rfl))) (by decide) (backOf (W := 0) (rm7n l Z a0 hw [] b9 (.ref b13) .null .null T33.heap n0 (Nat.le_trans (Nat.le_trans (Nat.le_trans (Nat.le_trans (Nat.le_trans (Nat.le_trans (Nat.le_trans (Nat.le_trans (Nat.le_trans Z0 E9.1) K10q.1) E11.1) K12q.1) E13.1) K14q.1) K30q.1) K31q.1) K33q.1) E33q g_b9 F33_2 F33_1 F33_0) hZ (hw _ (List.mem_of_getElem? (i := 71) rfl)) (hw _ (List.mem_of_getElem? (i := 2) rfl)) (by decide) (by decide)) q35a q35c (g := (mkF m 135 #[.val (.int p1), .val (.int z1), .val (.int z3), .val (.int z5), .val (.int z7), .val (.ref b9), .val (.ref b11), .val (.ref b13), .val (.int (0 : Int32)), .unset] [.null, (.ref b9)])) rfl (by rw [hml]; rfl) (Steps.refl _) (argsL := [.null]) (rest := []) (lenOf own_pd5 rfl) rfl (by show 2 * 0 + _ ≤ _; exact Nat.le_of_eq rfl) (hb hby at_135) (fun _ _ => ⟨rfl, rfl, (by decide : 9 + 0 ≤ _), (by decide : 353 + 0 ≤ _)⟩)
        dsimp only [Pt.U, Pt.locs, Pt.cells, Pt.slots] at X35 l35 y35 z35 st35 hQ35
        subst l35 y35 z35
        obtain ⟨rfl, N35q, K35q, E35q, F35_0, F35_1, F35_2⟩ := hQ35
        have N35 := Fr.app N33 N35q
        have c35_E_b11 := c33_E_b11.keep K35q
        have c35_E_b13 := c33_E_b13.keep K35q
        refine own_go (B := T35.setTop (mkF m 138 #[.val (.int p1), .val (.int z1), .val (.int z3), .val (.int z5), .val (.int z7), .val (.ref b9), .val (.ref b11), .val (.ref b13), .val (.int (0 : Int32)), .unset] [])) (fun t k => st35.trans k) ?_
        refine own_go (B := T35.setTop (mkF m 160 #[.val (.int p1), .val (.int z1), .val (.int z3), .val (.int z5), .val (.int z7), .val (.ref b9), .val (.ref b11), .val (.ref b13), .val (.int (0 : Int32)), .val (.int (0 : Int32))] [(.ref b9)])) (fun t k => ?_) ?_
        · show Steps p.tables e below (T35.setTop (mkF m 138 #[.val (.int p1), .val (.int z1), .val (.int z3), .val (.int z5), .val (.int z7), .val (.ref b9), .val (.ref b11), .val (.ref b13), .val (.int (0 : Int32)), .unset] [])) _
          refine XS.iloadN X35.here hx rfl (hb hby at_138) rfl ?_
          show Steps p.tables e below (T35.setTop (mkF m 139 #[.val (.int p1), .val (.int z1), .val (.int z3), .val (.int z5), .val (.int z7), .val (.ref b9), .val (.ref b11), .val (.ref b13), .val (.int (0 : Int32)), .unset] [(.int z1)])) _
          refine XS.ifNo X35.here hx rfl (hb hby at_139) rfl ((if0 _ _).trans (teq hc111_32).2) ?_
          show Steps p.tables e below (T35.setTop (mkF m 142 #[.val (.int p1), .val (.int z1), .val (.int z3), .val (.int z5), .val (.int z7), .val (.ref b9), .val (.ref b11), .val (.ref b13), .val (.int (0 : Int32)), .unset] [])) _
          refine XS.iloadN X35.here hx rfl (hb hby at_142) rfl ?_
          show Steps p.tables e below (T35.setTop (mkF m 143 #[.val (.int p1), .val (.int z1), .val (.int z3), .val (.int z5), .val (.int z7), .val (.ref b9), .val (.ref b11), .val (.ref b13), .val (.int (0 : Int32)), .unset] [(.int z3)])) _
          refine XS.ifYes X35.here hx rfl (pc0 := 143) (pc' := 150) rfl (hb hby at_143) rfl ((if0 _ _).trans (teq hc126_34).1) (by decide) (by decide) ?_
          show Steps p.tables e below (T35.setTop (mkF m 150 #[.val (.int p1), .val (.int z1), .val (.int z3), .val (.int z5), .val (.int z7), .val (.ref b9), .val (.ref b11), .val (.ref b13), .val (.int (0 : Int32)), .unset] [])) _
          refine XS.iconst X35.here hx rfl (hb hby at_150) ?_
          show Steps p.tables e below (T35.setTop (mkF m 151 #[.val (.int p1), .val (.int z1), .val (.int z3), .val (.int z5), .val (.int z7), .val (.ref b9), .val (.ref b11), .val (.ref b13), .val (.int (0 : Int32)), .unset] [(.int (0 : Int32))])) _
          refine XS.istore X35.here hx rfl (hb hby at_151) rfl (l' := #[.val (.int p1), .val (.int z1), .val (.int z3), .val (.int z5), .val (.int z7), .val (.ref b9), .val (.ref b11), .val (.ref b13), .val (.int (0 : Int32)), .val (.int (0 : Int32))]) rfl ?_
          show Steps p.tables e below (T35.setTop (mkF m 153 #[.val (.int p1), .val (.int z1), .val (.int z3), .val (.int z5), .val (.int z7), .val (.ref b9), .val (.ref b11), .val (.ref b13), .val (.int (0 : Int32)), .val (.int (0 : Int32))] [])) _
          refine XS.iload X35.here hx rfl (hb hby at_153) rfl ?_
          show Steps p.tables e below (T35.setTop (mkF m 155 #[.val (.int p1), .val (.int z1), .val (.int z3), .val (.int z5), .val (.int z7), .val (.ref b9), .val (.ref b11), .val (.ref b13), .val (.int (0 : Int32)), .val (.int (0 : Int32))] [(.int (0 : Int32))])) _
          refine XS.ifNo X35.here hx rfl (hb hby at_155) rfl ((if0 _ _).trans (teq (by decide)).2) ?_
          show Steps p.tables e below (T35.setTop (mkF m 158 #[.val (.int p1), .val (.int z1), .val (.int z3), .val (.int z5), .val (.int z7), .val (.ref b9), .val (.ref b11), .val (.ref b13), .val (.int (0 : Int32)), .val (.int (0 : Int32))] [])) _
          refine XS.aload X35.here hx rfl (hb hby at_158) rfl rfl ?_
          exact k
        obtain ⟨cq36, kq36, q36a, q36b, q36c⟩ := isOf hZ rfl E35q
        obtain ⟨_, _, ⟨T36, L36, k36, n36⟩, -, X36, ⟨Lc36, hQ36, l36, y36, z36⟩, st36⟩ := X35.virtualBack hx (y := (⟨"com/example/sira/sira/wire/MessageProperties", "isReceipt", "()Z"⟩ : MethodName)) (z := (⟨"com/example/sira/sira/wire/MessageProperties", "isReceipt", "()Z"⟩ : MethodName)) hown (mvT hZ (hw _ (List.mem_of_getElem? (i := 51) rfl))) (mvT hZ (hw _ (List.mem_of_getElem? (i := 52) rfl))) (notFace_of_selects (args := #[]) (mvT hZ (hw _ (List.mem_of_getElem? (i := 54) rfl)))) (mvT hZ (hw _ (List.mem_of_getElem? (i := 54) rfl))) (mvT hZ (hw _ (List.mem_of_getElem? (i := 53) rfl))) (by decide) (backOf (W := 0) (rm5a l Z a0 hw [] b9 T35.heap n0 (Nat.le_trans (Nat.le_trans (Nat.le_trans (Nat.le_trans (Nat.le_trans (Nat.le_trans (Nat.le_trans (Nat.le_trans (Nat.le_trans (Nat.le_trans Z0 E9.1) K10q.1) E11.1) K12q.1) E13.1) K14q.1) K30q.1) K31q.1) K33q.1) K35q.1) F35_1 F35_2 F35_0) hZ (hw _ (List.mem_of_getElem? (i := 55) rfl)) (hw _ (List.mem_of_getElem? (i := 2) rfl)) (by decide) (by decide)) q36a q36c (g := (mkF m 160 #[.val (.int p1), .val (.int z1), .val (.int z3), .val (.int z5), .val (.int z7), .val (.ref b9), .val (.ref b11), .val (.ref b13), .val (.int (0 : Int32)), .val (.int (0 : Int32))] [(.ref b9)])) rfl (by rw [hml]; rfl) (Steps.refl _) (argsL := []) (rest := []) (lenOf own_pd3 rfl) rfl (by show 2 * 0 + _ ≤ _; exact Nat.le_of_eq rfl) (hb hby at_160) (fun _ _ => ⟨rfl, rfl, (by decide : 9 + 0 ≤ _), (by decide : 353 + 0 ≤ _)⟩)
        dsimp only [Pt.U, Pt.locs, Pt.cells, Pt.slots] at X36 l36 y36 z36 st36 hQ36
        subst l36 y36 z36
        obtain ⟨rfl, N36q, eq36⟩ := hQ36
        have N36 := Fr.app N35 N36q
        refine own_go (B := T36.setTop (mkF m 163 #[.val (.int p1), .val (.int z1), .val (.int z3), .val (.int z5), .val (.int z7), .val (.ref b9), .val (.ref b11), .val (.ref b13), .val (.int (0 : Int32)), .val (.int (0 : Int32))] [(.int (0 : Int32))])) (fun t k => st36.trans k) ?_
        obtain ⟨fs, hr, hrun, hended, hRW⟩ := X36.leaveW hS (by rw [eq36]; exact (Nat.le_trans (Nat.le_trans (Nat.le_trans (Nat.le_trans (Nat.le_trans (Nat.le_trans (Nat.le_trans (Nat.le_trans (Nat.le_refl _) E11.1) K12q.1) E13.1) K14q.1) K30q.1) K31q.1) K33q.1) K35q.1)) (v := some (.int (1 : Int32))) (fun h => by rw [Bd.returns] at h; cases h)
        refine ⟨_, _, ?_, hrun, hended, _, _, rfl, ?_, hRW.1, hRW.2.1, hRW.2.2.1, hRW.2.2.2.mono (by decide) (by decide)⟩
        · show Steps p.tables e below (T36.setTop (mkF m 163 #[.val (.int p1), .val (.int z1), .val (.int z3), .val (.int z5), .val (.int z7), .val (.ref b9), .val (.ref b11), .val (.ref b13), .val (.int (0 : Int32)), .val (.int (0 : Int32))] [(.int (0 : Int32))])) _
          refine XS.iload X36.here hx rfl (hb hby at_163) rfl ?_
          show Steps p.tables e below (T36.setTop (mkF m 165 #[.val (.int p1), .val (.int z1), .val (.int z3), .val (.int z5), .val (.int z7), .val (.ref b9), .val (.ref b11), .val (.ref b13), .val (.int (0 : Int32)), .val (.int (0 : Int32))] [(.int (0 : Int32)), (.int (0 : Int32))])) _
          refine XS.icmpNo X36.here hx rfl (hb hby at_165) rfl (teq (by decide)).2 ?_
          show Steps p.tables e below (T36.setTop (mkF m 168 #[.val (.int p1), .val (.int z1), .val (.int z3), .val (.int z5), .val (.int z7), .val (.ref b9), .val (.ref b11), .val (.ref b13), .val (.int (0 : Int32)), .val (.int (0 : Int32))] [])) _
          refine XS.iconst X36.here hx rfl (hb hby at_168) ?_
          show Steps p.tables e below (T36.setTop (mkF m 169 #[.val (.int p1), .val (.int z1), .val (.int z3), .val (.int z5), .val (.int z7), .val (.ref b9), .val (.ref b11), .val (.ref b13), .val (.int (0 : Int32)), .val (.int (0 : Int32))] [(.int (1 : Int32))])) _
          refine XS.goto X36.here hx rfl (pc0 := 169) (pc' := 173) rfl (hb hby at_169) (by decide) (by decide) ?_
          show Steps p.tables e below (T36.setTop (mkF m 173 #[.val (.int p1), .val (.int z1), .val (.int z3), .val (.int z5), .val (.int z7), .val (.ref b9), .val (.ref b11), .val (.ref b13), .val (.int (0 : Int32)), .val (.int (0 : Int32))] [(.int (1 : Int32))])) _
          exact retN X36 hx (t := .boolean) Bd.returns (by simp) (hb hby at_173) hr
        · show Q0 Z p1 h0 n0 _ T36.heap _
          rw [eq36]
          exact ⟨rfl, N36⟩
      · refine own_go (B := T33.setTop (mkF m 135 #[.val (.int p1), .val (.int z1), .val (.int z3), .val (.int z5), .val (.int z7), .val (.ref b9), .val (.ref b11), .val (.ref b13), .val (.int (0 : Int32)), .unset] [(.ref b13), (.ref b9)])) (fun t k => ?_) ?_
        · show Steps p.tables e below (T33.setTop (mkF m 126 #[.val (.int p1), .val (.int z1), .val (.int z3), .val (.int z5), .val (.int z7), .val (.ref b9), .val (.ref b11), .val (.ref b13), .val (.int (0 : Int32)), .unset] [(.int z3), (.ref b9)])) _
          refine XS.ifNo X33.here hx rfl (hb hby at_126) rfl ((if0 _ _).trans (feq hc126_34).1) ?_
          show Steps p.tables e below (T33.setTop (mkF m 129 #[.val (.int p1), .val (.int z1), .val (.int z3), .val (.int z5), .val (.int z7), .val (.ref b9), .val (.ref b11), .val (.ref b13), .val (.int (0 : Int32)), .unset] [(.ref b9)])) _
          refine XS.aload X33.here hx rfl (hb hby at_129) rfl rfl ?_
          show Steps p.tables e below (T33.setTop (mkF m 131 #[.val (.int p1), .val (.int z1), .val (.int z3), .val (.int z5), .val (.int z7), .val (.ref b9), .val (.ref b11), .val (.ref b13), .val (.int (0 : Int32)), .unset] [(.ref b13), (.ref b9)])) _
          refine XS.goto X33.here hx rfl (pc0 := 131) (pc' := 135) rfl (hb hby at_131) (by decide) (by decide) ?_
          exact k
        obtain ⟨cq37, kq37, q37a, q37b, q37c⟩ := isOf hZ rfl E33q
        obtain ⟨_, _, ⟨T37, L37, k37, n37⟩, -, X37, ⟨Lc37, hQ37, l37, y37, z37⟩, st37⟩ := X33.virtualBack hx (y := (⟨"com/example/sira/sira/wire/MessageProperties", "setCommitmentReceipt", "(Lcom/example/sira/sira/wire/CommitmentReceipt;)V"⟩ : MethodName)) (z := (⟨"com/example/sira/sira/wire/MessageProperties", "setCommitmentReceipt", "(Lcom/example/sira/sira/wire/CommitmentReceipt;)V"⟩ : MethodName)) hown (mvT hZ (hw _ (List.mem_of_getElem? (i := 67) rfl))) (mvT hZ (hw _ (List.mem_of_getElem? (i := 68) rfl))) (notFace_of_selects (args := #[]) (mvT hZ (hw _ (List.mem_of_getElem? (i := 70) rfl)))) (mvT hZ (hw _ (List.mem_of_getElem? (i := 70) rfl))) (mvT hZ (hw _ (List.mem_of_getElem? (i := 69) rfl))) (by decide) (backOf (W := 0) (rm7 l Z a0 hw [] b9 b13 (.ref b13) .null .null T33.heap n0 (Nat.le_trans (Nat.le_trans (Nat.le_trans (Nat.le_trans (Nat.le_trans (Nat.le_trans (Nat.le_trans (Nat.le_trans (Nat.le_trans Z0 E9.1) K10q.1) E11.1) K12q.1) E13.1) K14q.1) K30q.1) K31q.1) K33q.1) E33q g_b9 F33_2 F33_1 F33_0) hZ (hw _ (List.mem_of_getElem? (i := 71) rfl)) (hw _ (List.mem_of_getElem? (i := 2) rfl)) (by decide) (by decide)) q37a q37c (g := (mkF m 135 #[.val (.int p1), .val (.int z1), .val (.int z3), .val (.int z5), .val (.int z7), .val (.ref b9), .val (.ref b11), .val (.ref b13), .val (.int (0 : Int32)), .unset] [(.ref b13), (.ref b9)])) rfl (by rw [hml]; rfl) (Steps.refl _) (argsL := [(.ref b13)]) (rest := []) (lenOf own_pd5 rfl) rfl (by show 2 * 0 + _ ≤ _; exact Nat.le_of_eq rfl) (hb hby at_135) (fun _ _ => ⟨rfl, rfl, (by decide : 9 + 0 ≤ _), (by decide : 353 + 0 ≤ _)⟩)
        dsimp only [Pt.U, Pt.locs, Pt.cells, Pt.slots] at X37 l37 y37 z37 st37 hQ37
        subst l37 y37 z37
        obtain ⟨rfl, N37q, K37q, E37q, F37_0, F37_1, F37_2⟩ := hQ37
        have N37 := Fr.app N33 N37q
        have c37_E_b11 := c33_E_b11.keep K37q
        have c37_E_b13 := c33_E_b13.keep K37q
        refine own_go (B := T37.setTop (mkF m 138 #[.val (.int p1), .val (.int z1), .val (.int z3), .val (.int z5), .val (.int z7), .val (.ref b9), .val (.ref b11), .val (.ref b13), .val (.int (0 : Int32)), .unset] [])) (fun t k => st37.trans k) ?_
        refine own_go (B := T37.setTop (mkF m 160 #[.val (.int p1), .val (.int z1), .val (.int z3), .val (.int z5), .val (.int z7), .val (.ref b9), .val (.ref b11), .val (.ref b13), .val (.int (0 : Int32)), .val (.int (1 : Int32))] [(.ref b9)])) (fun t k => ?_) ?_
        · show Steps p.tables e below (T37.setTop (mkF m 138 #[.val (.int p1), .val (.int z1), .val (.int z3), .val (.int z5), .val (.int z7), .val (.ref b9), .val (.ref b11), .val (.ref b13), .val (.int (0 : Int32)), .unset] [])) _
          refine XS.iloadN X37.here hx rfl (hb hby at_138) rfl ?_
          show Steps p.tables e below (T37.setTop (mkF m 139 #[.val (.int p1), .val (.int z1), .val (.int z3), .val (.int z5), .val (.int z7), .val (.ref b9), .val (.ref b11), .val (.ref b13), .val (.int (0 : Int32)), .unset] [(.int z1)])) _
          refine XS.ifNo X37.here hx rfl (hb hby at_139) rfl ((if0 _ _).trans (teq hc111_32).2) ?_
          show Steps p.tables e below (T37.setTop (mkF m 142 #[.val (.int p1), .val (.int z1), .val (.int z3), .val (.int z5), .val (.int z7), .val (.ref b9), .val (.ref b11), .val (.ref b13), .val (.int (0 : Int32)), .unset] [])) _
          refine XS.iloadN X37.here hx rfl (hb hby at_142) rfl ?_
          show Steps p.tables e below (T37.setTop (mkF m 143 #[.val (.int p1), .val (.int z1), .val (.int z3), .val (.int z5), .val (.int z7), .val (.ref b9), .val (.ref b11), .val (.ref b13), .val (.int (0 : Int32)), .unset] [(.int z3)])) _
          refine XS.ifNo X37.here hx rfl (hb hby at_143) rfl ((if0 _ _).trans (feq hc126_34).1) ?_
          show Steps p.tables e below (T37.setTop (mkF m 146 #[.val (.int p1), .val (.int z1), .val (.int z3), .val (.int z5), .val (.int z7), .val (.ref b9), .val (.ref b11), .val (.ref b13), .val (.int (0 : Int32)), .unset] [])) _
          refine XS.iconst X37.here hx rfl (hb hby at_146) ?_
          show Steps p.tables e below (T37.setTop (mkF m 147 #[.val (.int p1), .val (.int z1), .val (.int z3), .val (.int z5), .val (.int z7), .val (.ref b9), .val (.ref b11), .val (.ref b13), .val (.int (0 : Int32)), .unset] [(.int (1 : Int32))])) _
          refine XS.goto X37.here hx rfl (pc0 := 147) (pc' := 151) rfl (hb hby at_147) (by decide) (by decide) ?_
          show Steps p.tables e below (T37.setTop (mkF m 151 #[.val (.int p1), .val (.int z1), .val (.int z3), .val (.int z5), .val (.int z7), .val (.ref b9), .val (.ref b11), .val (.ref b13), .val (.int (0 : Int32)), .unset] [(.int (1 : Int32))])) _
          refine XS.istore X37.here hx rfl (hb hby at_151) rfl (l' := #[.val (.int p1), .val (.int z1), .val (.int z3), .val (.int z5), .val (.int z7), .val (.ref b9), .val (.ref b11), .val (.ref b13), .val (.int (0 : Int32)), .val (.int (1 : Int32))]) rfl ?_
          show Steps p.tables e below (T37.setTop (mkF m 153 #[.val (.int p1), .val (.int z1), .val (.int z3), .val (.int z5), .val (.int z7), .val (.ref b9), .val (.ref b11), .val (.ref b13), .val (.int (0 : Int32)), .val (.int (1 : Int32))] [])) _
          refine XS.iload X37.here hx rfl (hb hby at_153) rfl ?_
          show Steps p.tables e below (T37.setTop (mkF m 155 #[.val (.int p1), .val (.int z1), .val (.int z3), .val (.int z5), .val (.int z7), .val (.ref b9), .val (.ref b11), .val (.ref b13), .val (.int (0 : Int32)), .val (.int (1 : Int32))] [(.int (0 : Int32))])) _
          refine XS.ifNo X37.here hx rfl (hb hby at_155) rfl ((if0 _ _).trans (teq (by decide)).2) ?_
          show Steps p.tables e below (T37.setTop (mkF m 158 #[.val (.int p1), .val (.int z1), .val (.int z3), .val (.int z5), .val (.int z7), .val (.ref b9), .val (.ref b11), .val (.ref b13), .val (.int (0 : Int32)), .val (.int (1 : Int32))] [])) _
          refine XS.aload X37.here hx rfl (hb hby at_158) rfl rfl ?_
          exact k
        obtain ⟨cq38, kq38, q38a, q38b, q38c⟩ := isOf hZ rfl E37q
        obtain ⟨_, _, ⟨T38, L38, k38, n38⟩, -, X38, ⟨Lc38, hQ38, l38, y38, z38⟩, st38⟩ := X37.virtualBack hx (y := (⟨"com/example/sira/sira/wire/MessageProperties", "isReceipt", "()Z"⟩ : MethodName)) (z := (⟨"com/example/sira/sira/wire/MessageProperties", "isReceipt", "()Z"⟩ : MethodName)) hown (mvT hZ (hw _ (List.mem_of_getElem? (i := 51) rfl))) (mvT hZ (hw _ (List.mem_of_getElem? (i := 52) rfl))) (notFace_of_selects (args := #[]) (mvT hZ (hw _ (List.mem_of_getElem? (i := 54) rfl)))) (mvT hZ (hw _ (List.mem_of_getElem? (i := 54) rfl))) (mvT hZ (hw _ (List.mem_of_getElem? (i := 53) rfl))) (by decide) (backOf (W := 0) (rm5c l Z a0 hw [] b9 b13 T37.heap n0 (Nat.le_trans (Nat.le_trans (Nat.le_trans (Nat.le_trans (Nat.le_trans (Nat.le_trans (Nat.le_trans (Nat.le_trans (Nat.le_trans (Nat.le_trans Z0 E9.1) K10q.1) E11.1) K12q.1) E13.1) K14q.1) K30q.1) K31q.1) K33q.1) K37q.1) F37_1 F37_2 F37_0) hZ (hw _ (List.mem_of_getElem? (i := 55) rfl)) (hw _ (List.mem_of_getElem? (i := 2) rfl)) (by decide) (by decide)) q38a q38c (g := (mkF m 160 #[.val (.int p1), .val (.int z1), .val (.int z3), .val (.int z5), .val (.int z7), .val (.ref b9), .val (.ref b11), .val (.ref b13), .val (.int (0 : Int32)), .val (.int (1 : Int32))] [(.ref b9)])) rfl (by rw [hml]; rfl) (Steps.refl _) (argsL := []) (rest := []) (lenOf own_pd3 rfl) rfl (by show 2 * 0 + _ ≤ _; exact Nat.le_of_eq rfl) (hb hby at_160) (fun _ _ => ⟨rfl, rfl, (by decide : 9 + 0 ≤ _), (by decide : 353 + 0 ≤ _)⟩)
        dsimp only [Pt.U, Pt.locs, Pt.cells, Pt.slots] at X38 l38 y38 z38 st38 hQ38
        subst l38 y38 z38
        obtain ⟨rfl, N38q, eq38⟩ := hQ38
        have N38 := Fr.app N37 N38q
        refine own_go (B := T38.setTop (mkF m 163 #[.val (.int p1), .val (.int z1), .val (.int z3), .val (.int z5), .val (.int z7), .val (.ref b9), .val (.ref b11), .val (.ref b13), .val (.int (0 : Int32)), .val (.int (1 : Int32))] [(.int (1 : Int32))])) (fun t k => st38.trans k) ?_
        obtain ⟨fs, hr, hrun, hended, hRW⟩ := X38.leaveW hS (by rw [eq38]; exact (Nat.le_trans (Nat.le_trans (Nat.le_trans (Nat.le_trans (Nat.le_trans (Nat.le_trans (Nat.le_trans (Nat.le_trans (Nat.le_refl _) E11.1) K12q.1) E13.1) K14q.1) K30q.1) K31q.1) K33q.1) K37q.1)) (v := some (.int (1 : Int32))) (fun h => by rw [Bd.returns] at h; cases h)
        refine ⟨_, _, ?_, hrun, hended, _, _, rfl, ?_, hRW.1, hRW.2.1, hRW.2.2.1, hRW.2.2.2.mono (by decide) (by decide)⟩
        · show Steps p.tables e below (T38.setTop (mkF m 163 #[.val (.int p1), .val (.int z1), .val (.int z3), .val (.int z5), .val (.int z7), .val (.ref b9), .val (.ref b11), .val (.ref b13), .val (.int (0 : Int32)), .val (.int (1 : Int32))] [(.int (1 : Int32))])) _
          refine XS.iload X38.here hx rfl (hb hby at_163) rfl ?_
          show Steps p.tables e below (T38.setTop (mkF m 165 #[.val (.int p1), .val (.int z1), .val (.int z3), .val (.int z5), .val (.int z7), .val (.ref b9), .val (.ref b11), .val (.ref b13), .val (.int (0 : Int32)), .val (.int (1 : Int32))] [(.int (1 : Int32)), (.int (1 : Int32))])) _
          refine XS.icmpNo X38.here hx rfl (hb hby at_165) rfl (teq (by decide)).2 ?_
          show Steps p.tables e below (T38.setTop (mkF m 168 #[.val (.int p1), .val (.int z1), .val (.int z3), .val (.int z5), .val (.int z7), .val (.ref b9), .val (.ref b11), .val (.ref b13), .val (.int (0 : Int32)), .val (.int (1 : Int32))] [])) _
          refine XS.iconst X38.here hx rfl (hb hby at_168) ?_
          show Steps p.tables e below (T38.setTop (mkF m 169 #[.val (.int p1), .val (.int z1), .val (.int z3), .val (.int z5), .val (.int z7), .val (.ref b9), .val (.ref b11), .val (.ref b13), .val (.int (0 : Int32)), .val (.int (1 : Int32))] [(.int (1 : Int32))])) _
          refine XS.goto X38.here hx rfl (pc0 := 169) (pc' := 173) rfl (hb hby at_169) (by decide) (by decide) ?_
          show Steps p.tables e below (T38.setTop (mkF m 173 #[.val (.int p1), .val (.int z1), .val (.int z3), .val (.int z5), .val (.int z7), .val (.ref b9), .val (.ref b11), .val (.ref b13), .val (.int (0 : Int32)), .val (.int (1 : Int32))] [(.int (1 : Int32))])) _
          exact retN X38 hx (t := .boolean) Bd.returns (by simp) (hb hby at_173) hr
        · show Q0 Z p1 h0 n0 _ T38.heap _
          rw [eq38]
          exact ⟨rfl, N38⟩
    · refine own_go (B := T31.setTop (mkF m 120 #[.val (.int p1), .val (.int z1), .val (.int z3), .val (.int z5), .val (.int z7), .val (.ref b9), .val (.ref b11), .val (.ref b13), .val (.int (0 : Int32)), .unset] [(.ref b11), (.ref b9)])) (fun t k => ?_) ?_
      · show Steps p.tables e below (T31.setTop (mkF m 111 #[.val (.int p1), .val (.int z1), .val (.int z3), .val (.int z5), .val (.int z7), .val (.ref b9), .val (.ref b11), .val (.ref b13), .val (.int (0 : Int32)), .unset] [(.int z1), (.ref b9)])) _
        refine XS.ifNo X31.here hx rfl (hb hby at_111) rfl ((if0 _ _).trans (feq hc111_32).1) ?_
        show Steps p.tables e below (T31.setTop (mkF m 114 #[.val (.int p1), .val (.int z1), .val (.int z3), .val (.int z5), .val (.int z7), .val (.ref b9), .val (.ref b11), .val (.ref b13), .val (.int (0 : Int32)), .unset] [(.ref b9)])) _
        refine XS.aload X31.here hx rfl (hb hby at_114) rfl rfl ?_
        show Steps p.tables e below (T31.setTop (mkF m 116 #[.val (.int p1), .val (.int z1), .val (.int z3), .val (.int z5), .val (.int z7), .val (.ref b9), .val (.ref b11), .val (.ref b13), .val (.int (0 : Int32)), .unset] [(.ref b11), (.ref b9)])) _
        refine XS.goto X31.here hx rfl (pc0 := 116) (pc' := 120) rfl (hb hby at_116) (by decide) (by decide) ?_
        exact k
      obtain ⟨cq39, kq39, q39a, q39b, q39c⟩ := isOf hZ rfl E31q
      obtain ⟨_, _, ⟨T39, L39, k39, n39⟩, -, X39, ⟨Lc39, hQ39, l39, y39, z39⟩, st39⟩ := X31.virtualBack hx (y := (⟨"com/example/sira/sira/wire/MessageProperties", "setDeliveryReceipt", "(Lcom/example/sira/sira/wire/DeliveryReceipt;)V"⟩ : MethodName)) (z := (⟨"com/example/sira/sira/wire/MessageProperties", "setDeliveryReceipt", "(Lcom/example/sira/sira/wire/DeliveryReceipt;)V"⟩ : MethodName)) hown (mvT hZ (hw _ (List.mem_of_getElem? (i := 62) rfl))) (mvT hZ (hw _ (List.mem_of_getElem? (i := 63) rfl))) (notFace_of_selects (args := #[]) (mvT hZ (hw _ (List.mem_of_getElem? (i := 65) rfl)))) (mvT hZ (hw _ (List.mem_of_getElem? (i := 65) rfl))) (mvT hZ (hw _ (List.mem_of_getElem? (i := 64) rfl))) (by decide) (backOf (W := 0) (rm6 l Z a0 hw [] b9 b11 (.ref b11) .null (.ref b13) T31.heap n0 (Nat.le_trans (Nat.le_trans (Nat.le_trans (Nat.le_trans (Nat.le_trans (Nat.le_trans (Nat.le_trans (Nat.le_trans Z0 E9.1) K10q.1) E11.1) K12q.1) E13.1) K14q.1) K30q.1) K31q.1) E31q g_b9 F31_2 F31_1 F31_0) hZ (hw _ (List.mem_of_getElem? (i := 66) rfl)) (hw _ (List.mem_of_getElem? (i := 2) rfl)) (by decide) (by decide)) q39a q39c (g := (mkF m 120 #[.val (.int p1), .val (.int z1), .val (.int z3), .val (.int z5), .val (.int z7), .val (.ref b9), .val (.ref b11), .val (.ref b13), .val (.int (0 : Int32)), .unset] [(.ref b11), (.ref b9)])) rfl (by rw [hml]; rfl) (Steps.refl _) (argsL := [(.ref b11)]) (rest := []) (lenOf own_pd4 rfl) rfl (by show 2 * 0 + _ ≤ _; exact Nat.le_of_eq rfl) (hb hby at_120) (fun _ _ => ⟨rfl, rfl, (by decide : 9 + 0 ≤ _), (by decide : 353 + 0 ≤ _)⟩)
      dsimp only [Pt.U, Pt.locs, Pt.cells, Pt.slots] at X39 l39 y39 z39 st39 hQ39
      subst l39 y39 z39
      obtain ⟨rfl, N39q, K39q, E39q, F39_0, F39_1, F39_2⟩ := hQ39
      have N39 := Fr.app N31 N39q
      have c39_E_b11 := c31_E_b11.keep K39q
      have c39_E_b13 := c31_E_b13.keep K39q
      refine own_go (B := T39.setTop (mkF m 123 #[.val (.int p1), .val (.int z1), .val (.int z3), .val (.int z5), .val (.int z7), .val (.ref b9), .val (.ref b11), .val (.ref b13), .val (.int (0 : Int32)), .unset] [])) (fun t k => st39.trans k) ?_
      refine own_go (B := T39.setTop (mkF m 126 #[.val (.int p1), .val (.int z1), .val (.int z3), .val (.int z5), .val (.int z7), .val (.ref b9), .val (.ref b11), .val (.ref b13), .val (.int (0 : Int32)), .unset] [(.int z3), (.ref b9)])) (fun t k => ?_) ?_
      · show Steps p.tables e below (T39.setTop (mkF m 123 #[.val (.int p1), .val (.int z1), .val (.int z3), .val (.int z5), .val (.int z7), .val (.ref b9), .val (.ref b11), .val (.ref b13), .val (.int (0 : Int32)), .unset] [])) _
        refine XS.aload X39.here hx rfl (hb hby at_123) rfl rfl ?_
        show Steps p.tables e below (T39.setTop (mkF m 125 #[.val (.int p1), .val (.int z1), .val (.int z3), .val (.int z5), .val (.int z7), .val (.ref b9), .val (.ref b11), .val (.ref b13), .val (.int (0 : Int32)), .unset] [(.ref b9)])) _
        refine XS.iloadN X39.here hx rfl (hb hby at_125) rfl ?_
        exact k
      by_cases hc126_40 : z3 = (0 : Int32)
      · refine own_go (B := T39.setTop (mkF m 135 #[.val (.int p1), .val (.int z1), .val (.int z3), .val (.int z5), .val (.int z7), .val (.ref b9), .val (.ref b11), .val (.ref b13), .val (.int (0 : Int32)), .unset] [.null, (.ref b9)])) (fun t k => ?_) ?_
        · show Steps p.tables e below (T39.setTop (mkF m 126 #[.val (.int p1), .val (.int z1), .val (.int z3), .val (.int z5), .val (.int z7), .val (.ref b9), .val (.ref b11), .val (.ref b13), .val (.int (0 : Int32)), .unset] [(.int z3), (.ref b9)])) _
          refine XS.ifYes X39.here hx rfl (pc0 := 126) (pc' := 134) rfl (hb hby at_126) rfl ((if0 _ _).trans (teq hc126_40).1) (by decide) (by decide) ?_
          show Steps p.tables e below (T39.setTop (mkF m 134 #[.val (.int p1), .val (.int z1), .val (.int z3), .val (.int z5), .val (.int z7), .val (.ref b9), .val (.ref b11), .val (.ref b13), .val (.int (0 : Int32)), .unset] [(.ref b9)])) _
          refine XS.aconstNull X39.here hx rfl (hb hby at_134) ?_
          exact k
        obtain ⟨cq41, kq41, q41a, q41b, q41c⟩ := isOf hZ rfl E39q
        obtain ⟨_, _, ⟨T41, L41, k41, n41⟩, -, X41, ⟨Lc41, hQ41, l41, y41, z41⟩, st41⟩ := X39.virtualBack hx (y := (⟨"com/example/sira/sira/wire/MessageProperties", "setCommitmentReceipt", "(Lcom/example/sira/sira/wire/CommitmentReceipt;)V"⟩ : MethodName)) (z := (⟨"com/example/sira/sira/wire/MessageProperties", "setCommitmentReceipt", "(Lcom/example/sira/sira/wire/CommitmentReceipt;)V"⟩ : MethodName)) hown (mvT hZ (hw _ (List.mem_of_getElem? (i := 67) rfl))) (mvT hZ (hw _ (List.mem_of_getElem? (i := 68) rfl))) (notFace_of_selects (args := #[]) (mvT hZ (hw _ (List.mem_of_getElem? (i := 70) rfl)))) (mvT hZ (hw _ (List.mem_of_getElem? (i := 70) rfl))) (mvT hZ (hw _ (List.mem_of_getElem? (i := 69) rfl))) (by decide) (backOf (W := 0) (rm7n l Z a0 hw [] b9 (.ref b13) .null (.ref b11) T39.heap n0 (Nat.le_trans (Nat.le_trans (Nat.le_trans (Nat.le_trans (Nat.le_trans (Nat.le_trans (Nat.le_trans (Nat.le_trans (Nat.le_trans Z0 E9.1) K10q.1) E11.1) K12q.1) E13.1) K14q.1) K30q.1) K31q.1) K39q.1) E39q g_b9 F39_2 F39_1 F39_0) hZ (hw _ (List.mem_of_getElem? (i := 71) rfl)) (hw _ (List.mem_of_getElem? (i := 2) rfl)) (by decide) (by decide)) q41a q41c (g := (mkF m 135 #[.val (.int p1), .val (.int z1), .val (.int z3), .val (.int z5), .val (.int z7), .val (.ref b9), .val (.ref b11), .val (.ref b13), .val (.int (0 : Int32)), .unset] [.null, (.ref b9)])) rfl (by rw [hml]; rfl) (Steps.refl _) (argsL := [.null]) (rest := []) (lenOf own_pd5 rfl) rfl (by show 2 * 0 + _ ≤ _; exact Nat.le_of_eq rfl) (hb hby at_135) (fun _ _ => ⟨rfl, rfl, (by decide : 9 + 0 ≤ _), (by decide : 353 + 0 ≤ _)⟩)
        dsimp only [Pt.U, Pt.locs, Pt.cells, Pt.slots] at X41 l41 y41 z41 st41 hQ41
        subst l41 y41 z41
        obtain ⟨rfl, N41q, K41q, E41q, F41_0, F41_1, F41_2⟩ := hQ41
        have N41 := Fr.app N39 N41q
        have c41_E_b11 := c39_E_b11.keep K41q
        have c41_E_b13 := c39_E_b13.keep K41q
        refine own_go (B := T41.setTop (mkF m 138 #[.val (.int p1), .val (.int z1), .val (.int z3), .val (.int z5), .val (.int z7), .val (.ref b9), .val (.ref b11), .val (.ref b13), .val (.int (0 : Int32)), .unset] [])) (fun t k => st41.trans k) ?_
        refine own_go (B := T41.setTop (mkF m 160 #[.val (.int p1), .val (.int z1), .val (.int z3), .val (.int z5), .val (.int z7), .val (.ref b9), .val (.ref b11), .val (.ref b13), .val (.int (0 : Int32)), .val (.int (1 : Int32))] [(.ref b9)])) (fun t k => ?_) ?_
        · show Steps p.tables e below (T41.setTop (mkF m 138 #[.val (.int p1), .val (.int z1), .val (.int z3), .val (.int z5), .val (.int z7), .val (.ref b9), .val (.ref b11), .val (.ref b13), .val (.int (0 : Int32)), .unset] [])) _
          refine XS.iloadN X41.here hx rfl (hb hby at_138) rfl ?_
          show Steps p.tables e below (T41.setTop (mkF m 139 #[.val (.int p1), .val (.int z1), .val (.int z3), .val (.int z5), .val (.int z7), .val (.ref b9), .val (.ref b11), .val (.ref b13), .val (.int (0 : Int32)), .unset] [(.int z1)])) _
          refine XS.ifYes X41.here hx rfl (pc0 := 139) (pc' := 146) rfl (hb hby at_139) rfl ((if0 _ _).trans (feq hc111_32).2) (by decide) (by decide) ?_
          show Steps p.tables e below (T41.setTop (mkF m 146 #[.val (.int p1), .val (.int z1), .val (.int z3), .val (.int z5), .val (.int z7), .val (.ref b9), .val (.ref b11), .val (.ref b13), .val (.int (0 : Int32)), .unset] [])) _
          refine XS.iconst X41.here hx rfl (hb hby at_146) ?_
          show Steps p.tables e below (T41.setTop (mkF m 147 #[.val (.int p1), .val (.int z1), .val (.int z3), .val (.int z5), .val (.int z7), .val (.ref b9), .val (.ref b11), .val (.ref b13), .val (.int (0 : Int32)), .unset] [(.int (1 : Int32))])) _
          refine XS.goto X41.here hx rfl (pc0 := 147) (pc' := 151) rfl (hb hby at_147) (by decide) (by decide) ?_
          show Steps p.tables e below (T41.setTop (mkF m 151 #[.val (.int p1), .val (.int z1), .val (.int z3), .val (.int z5), .val (.int z7), .val (.ref b9), .val (.ref b11), .val (.ref b13), .val (.int (0 : Int32)), .unset] [(.int (1 : Int32))])) _
          refine XS.istore X41.here hx rfl (hb hby at_151) rfl (l' := #[.val (.int p1), .val (.int z1), .val (.int z3), .val (.int z5), .val (.int z7), .val (.ref b9), .val (.ref b11), .val (.ref b13), .val (.int (0 : Int32)), .val (.int (1 : Int32))]) rfl ?_
          show Steps p.tables e below (T41.setTop (mkF m 153 #[.val (.int p1), .val (.int z1), .val (.int z3), .val (.int z5), .val (.int z7), .val (.ref b9), .val (.ref b11), .val (.ref b13), .val (.int (0 : Int32)), .val (.int (1 : Int32))] [])) _
          refine XS.iload X41.here hx rfl (hb hby at_153) rfl ?_
          show Steps p.tables e below (T41.setTop (mkF m 155 #[.val (.int p1), .val (.int z1), .val (.int z3), .val (.int z5), .val (.int z7), .val (.ref b9), .val (.ref b11), .val (.ref b13), .val (.int (0 : Int32)), .val (.int (1 : Int32))] [(.int (0 : Int32))])) _
          refine XS.ifNo X41.here hx rfl (hb hby at_155) rfl ((if0 _ _).trans (teq (by decide)).2) ?_
          show Steps p.tables e below (T41.setTop (mkF m 158 #[.val (.int p1), .val (.int z1), .val (.int z3), .val (.int z5), .val (.int z7), .val (.ref b9), .val (.ref b11), .val (.ref b13), .val (.int (0 : Int32)), .val (.int (1 : Int32))] [])) _
          refine XS.aload X41.here hx rfl (hb hby at_158) rfl rfl ?_
          exact k
        obtain ⟨cq42, kq42, q42a, q42b, q42c⟩ := isOf hZ rfl E41q
        obtain ⟨_, _, ⟨T42, L42, k42, n42⟩, -, X42, ⟨Lc42, hQ42, l42, y42, z42⟩, st42⟩ := X41.virtualBack hx (y := (⟨"com/example/sira/sira/wire/MessageProperties", "isReceipt", "()Z"⟩ : MethodName)) (z := (⟨"com/example/sira/sira/wire/MessageProperties", "isReceipt", "()Z"⟩ : MethodName)) hown (mvT hZ (hw _ (List.mem_of_getElem? (i := 51) rfl))) (mvT hZ (hw _ (List.mem_of_getElem? (i := 52) rfl))) (notFace_of_selects (args := #[]) (mvT hZ (hw _ (List.mem_of_getElem? (i := 54) rfl)))) (mvT hZ (hw _ (List.mem_of_getElem? (i := 54) rfl))) (mvT hZ (hw _ (List.mem_of_getElem? (i := 53) rfl))) (by decide) (backOf (W := 0) (rm5b l Z a0 hw [] b9 b11 T41.heap n0 (Nat.le_trans (Nat.le_trans (Nat.le_trans (Nat.le_trans (Nat.le_trans (Nat.le_trans (Nat.le_trans (Nat.le_trans (Nat.le_trans (Nat.le_trans Z0 E9.1) K10q.1) E11.1) K12q.1) E13.1) K14q.1) K30q.1) K31q.1) K39q.1) K41q.1) F41_1 F41_2) hZ (hw _ (List.mem_of_getElem? (i := 55) rfl)) (hw _ (List.mem_of_getElem? (i := 2) rfl)) (by decide) (by decide)) q42a q42c (g := (mkF m 160 #[.val (.int p1), .val (.int z1), .val (.int z3), .val (.int z5), .val (.int z7), .val (.ref b9), .val (.ref b11), .val (.ref b13), .val (.int (0 : Int32)), .val (.int (1 : Int32))] [(.ref b9)])) rfl (by rw [hml]; rfl) (Steps.refl _) (argsL := []) (rest := []) (lenOf own_pd3 rfl) rfl (by show 2 * 0 + _ ≤ _; exact Nat.le_of_eq rfl) (hb hby at_160) (fun _ _ => ⟨rfl, rfl, (by decide : 9 + 0 ≤ _), (by decide : 353 + 0 ≤ _)⟩)
        dsimp only [Pt.U, Pt.locs, Pt.cells, Pt.slots] at X42 l42 y42 z42 st42 hQ42
        subst l42 y42 z42
        obtain ⟨rfl, N42q, eq42⟩ := hQ42
        have N42 := Fr.app N41 N42q
        refine own_go (B := T42.setTop (mkF m 163 #[.val (.int p1), .val (.int z1), .val (.int z3), .val (.int z5), .val (.int z7), .val (.ref b9), .val (.ref b11), .val (.ref b13), .val (.int (0 : Int32)), .val (.int (1 : Int32))] [(.int (1 : Int32))])) (fun t k => st42.trans k) ?_
        obtain ⟨fs, hr, hrun, hended, hRW⟩ := X42.leaveW hS (by rw [eq42]; exact (Nat.le_trans (Nat.le_trans (Nat.le_trans (Nat.le_trans (Nat.le_trans (Nat.le_trans (Nat.le_trans (Nat.le_trans (Nat.le_refl _) E11.1) K12q.1) E13.1) K14q.1) K30q.1) K31q.1) K39q.1) K41q.1)) (v := some (.int (1 : Int32))) (fun h => by rw [Bd.returns] at h; cases h)
        refine ⟨_, _, ?_, hrun, hended, _, _, rfl, ?_, hRW.1, hRW.2.1, hRW.2.2.1, hRW.2.2.2.mono (by decide) (by decide)⟩
        · show Steps p.tables e below (T42.setTop (mkF m 163 #[.val (.int p1), .val (.int z1), .val (.int z3), .val (.int z5), .val (.int z7), .val (.ref b9), .val (.ref b11), .val (.ref b13), .val (.int (0 : Int32)), .val (.int (1 : Int32))] [(.int (1 : Int32))])) _
          refine XS.iload X42.here hx rfl (hb hby at_163) rfl ?_
          show Steps p.tables e below (T42.setTop (mkF m 165 #[.val (.int p1), .val (.int z1), .val (.int z3), .val (.int z5), .val (.int z7), .val (.ref b9), .val (.ref b11), .val (.ref b13), .val (.int (0 : Int32)), .val (.int (1 : Int32))] [(.int (1 : Int32)), (.int (1 : Int32))])) _
          refine XS.icmpNo X42.here hx rfl (hb hby at_165) rfl (teq (by decide)).2 ?_
          show Steps p.tables e below (T42.setTop (mkF m 168 #[.val (.int p1), .val (.int z1), .val (.int z3), .val (.int z5), .val (.int z7), .val (.ref b9), .val (.ref b11), .val (.ref b13), .val (.int (0 : Int32)), .val (.int (1 : Int32))] [])) _
          refine XS.iconst X42.here hx rfl (hb hby at_168) ?_
          show Steps p.tables e below (T42.setTop (mkF m 169 #[.val (.int p1), .val (.int z1), .val (.int z3), .val (.int z5), .val (.int z7), .val (.ref b9), .val (.ref b11), .val (.ref b13), .val (.int (0 : Int32)), .val (.int (1 : Int32))] [(.int (1 : Int32))])) _
          refine XS.goto X42.here hx rfl (pc0 := 169) (pc' := 173) rfl (hb hby at_169) (by decide) (by decide) ?_
          show Steps p.tables e below (T42.setTop (mkF m 173 #[.val (.int p1), .val (.int z1), .val (.int z3), .val (.int z5), .val (.int z7), .val (.ref b9), .val (.ref b11), .val (.ref b13), .val (.int (0 : Int32)), .val (.int (1 : Int32))] [(.int (1 : Int32))])) _
          exact retN X42 hx (t := .boolean) Bd.returns (by simp) (hb hby at_173) hr
        · show Q0 Z p1 h0 n0 _ T42.heap _
          rw [eq42]
          exact ⟨rfl, N42⟩
      · refine own_go (B := T39.setTop (mkF m 135 #[.val (.int p1), .val (.int z1), .val (.int z3), .val (.int z5), .val (.int z7), .val (.ref b9), .val (.ref b11), .val (.ref b13), .val (.int (0 : Int32)), .unset] [(.ref b13), (.ref b9)])) (fun t k => ?_) ?_
        · show Steps p.tables e below (T39.setTop (mkF m 126 #[.val (.int p1), .val (.int z1), .val (.int z3), .val (.int z5), .val (.int z7), .val (.ref b9), .val (.ref b11), .val (.ref b13), .val (.int (0 : Int32)), .unset] [(.int z3), (.ref b9)])) _
          refine XS.ifNo X39.here hx rfl (hb hby at_126) rfl ((if0 _ _).trans (feq hc126_40).1) ?_
          show Steps p.tables e below (T39.setTop (mkF m 129 #[.val (.int p1), .val (.int z1), .val (.int z3), .val (.int z5), .val (.int z7), .val (.ref b9), .val (.ref b11), .val (.ref b13), .val (.int (0 : Int32)), .unset] [(.ref b9)])) _
          refine XS.aload X39.here hx rfl (hb hby at_129) rfl rfl ?_
          show Steps p.tables e below (T39.setTop (mkF m 131 #[.val (.int p1), .val (.int z1), .val (.int z3), .val (.int z5), .val (.int z7), .val (.ref b9), .val (.ref b11), .val (.ref b13), .val (.int (0 : Int32)), .unset] [(.ref b13), (.ref b9)])) _
          refine XS.goto X39.here hx rfl (pc0 := 131) (pc' := 135) rfl (hb hby at_131) (by decide) (by decide) ?_
          exact k
        obtain ⟨cq43, kq43, q43a, q43b, q43c⟩ := isOf hZ rfl E39q
        obtain ⟨_, _, ⟨T43, L43, k43, n43⟩, -, X43, ⟨Lc43, hQ43, l43, y43, z43⟩, st43⟩ := X39.virtualBack hx (y := (⟨"com/example/sira/sira/wire/MessageProperties", "setCommitmentReceipt", "(Lcom/example/sira/sira/wire/CommitmentReceipt;)V"⟩ : MethodName)) (z := (⟨"com/example/sira/sira/wire/MessageProperties", "setCommitmentReceipt", "(Lcom/example/sira/sira/wire/CommitmentReceipt;)V"⟩ : MethodName)) hown (mvT hZ (hw _ (List.mem_of_getElem? (i := 67) rfl))) (mvT hZ (hw _ (List.mem_of_getElem? (i := 68) rfl))) (notFace_of_selects (args := #[]) (mvT hZ (hw _ (List.mem_of_getElem? (i := 70) rfl)))) (mvT hZ (hw _ (List.mem_of_getElem? (i := 70) rfl))) (mvT hZ (hw _ (List.mem_of_getElem? (i := 69) rfl))) (by decide) (backOf (W := 0) (rm7 l Z a0 hw [] b9 b13 (.ref b13) .null (.ref b11) T39.heap n0 (Nat.le_trans (Nat.le_trans (Nat.le_trans (Nat.le_trans (Nat.le_trans (Nat.le_trans (Nat.le_trans (Nat.le_trans (Nat.le_trans Z0 E9.1) K10q.1) E11.1) K12q.1) E13.1) K14q.1) K30q.1) K31q.1) K39q.1) E39q g_b9 F39_2 F39_1 F39_0) hZ (hw _ (List.mem_of_getElem? (i := 71) rfl)) (hw _ (List.mem_of_getElem? (i := 2) rfl)) (by decide) (by decide)) q43a q43c (g := (mkF m 135 #[.val (.int p1), .val (.int z1), .val (.int z3), .val (.int z5), .val (.int z7), .val (.ref b9), .val (.ref b11), .val (.ref b13), .val (.int (0 : Int32)), .unset] [(.ref b13), (.ref b9)])) rfl (by rw [hml]; rfl) (Steps.refl _) (argsL := [(.ref b13)]) (rest := []) (lenOf own_pd5 rfl) rfl (by show 2 * 0 + _ ≤ _; exact Nat.le_of_eq rfl) (hb hby at_135) (fun _ _ => ⟨rfl, rfl, (by decide : 9 + 0 ≤ _), (by decide : 353 + 0 ≤ _)⟩)
        dsimp only [Pt.U, Pt.locs, Pt.cells, Pt.slots] at X43 l43 y43 z43 st43 hQ43
        subst l43 y43 z43
        obtain ⟨rfl, N43q, K43q, E43q, F43_0, F43_1, F43_2⟩ := hQ43
        have N43 := Fr.app N39 N43q
        have c43_E_b11 := c39_E_b11.keep K43q
        have c43_E_b13 := c39_E_b13.keep K43q
        refine own_go (B := T43.setTop (mkF m 138 #[.val (.int p1), .val (.int z1), .val (.int z3), .val (.int z5), .val (.int z7), .val (.ref b9), .val (.ref b11), .val (.ref b13), .val (.int (0 : Int32)), .unset] [])) (fun t k => st43.trans k) ?_
        refine own_go (B := T43.setTop (mkF m 160 #[.val (.int p1), .val (.int z1), .val (.int z3), .val (.int z5), .val (.int z7), .val (.ref b9), .val (.ref b11), .val (.ref b13), .val (.int (0 : Int32)), .val (.int (1 : Int32))] [(.ref b9)])) (fun t k => ?_) ?_
        · show Steps p.tables e below (T43.setTop (mkF m 138 #[.val (.int p1), .val (.int z1), .val (.int z3), .val (.int z5), .val (.int z7), .val (.ref b9), .val (.ref b11), .val (.ref b13), .val (.int (0 : Int32)), .unset] [])) _
          refine XS.iloadN X43.here hx rfl (hb hby at_138) rfl ?_
          show Steps p.tables e below (T43.setTop (mkF m 139 #[.val (.int p1), .val (.int z1), .val (.int z3), .val (.int z5), .val (.int z7), .val (.ref b9), .val (.ref b11), .val (.ref b13), .val (.int (0 : Int32)), .unset] [(.int z1)])) _
          refine XS.ifYes X43.here hx rfl (pc0 := 139) (pc' := 146) rfl (hb hby at_139) rfl ((if0 _ _).trans (feq hc111_32).2) (by decide) (by decide) ?_
          show Steps p.tables e below (T43.setTop (mkF m 146 #[.val (.int p1), .val (.int z1), .val (.int z3), .val (.int z5), .val (.int z7), .val (.ref b9), .val (.ref b11), .val (.ref b13), .val (.int (0 : Int32)), .unset] [])) _
          refine XS.iconst X43.here hx rfl (hb hby at_146) ?_
          show Steps p.tables e below (T43.setTop (mkF m 147 #[.val (.int p1), .val (.int z1), .val (.int z3), .val (.int z5), .val (.int z7), .val (.ref b9), .val (.ref b11), .val (.ref b13), .val (.int (0 : Int32)), .unset] [(.int (1 : Int32))])) _
          refine XS.goto X43.here hx rfl (pc0 := 147) (pc' := 151) rfl (hb hby at_147) (by decide) (by decide) ?_
          show Steps p.tables e below (T43.setTop (mkF m 151 #[.val (.int p1), .val (.int z1), .val (.int z3), .val (.int z5), .val (.int z7), .val (.ref b9), .val (.ref b11), .val (.ref b13), .val (.int (0 : Int32)), .unset] [(.int (1 : Int32))])) _
          refine XS.istore X43.here hx rfl (hb hby at_151) rfl (l' := #[.val (.int p1), .val (.int z1), .val (.int z3), .val (.int z5), .val (.int z7), .val (.ref b9), .val (.ref b11), .val (.ref b13), .val (.int (0 : Int32)), .val (.int (1 : Int32))]) rfl ?_
          show Steps p.tables e below (T43.setTop (mkF m 153 #[.val (.int p1), .val (.int z1), .val (.int z3), .val (.int z5), .val (.int z7), .val (.ref b9), .val (.ref b11), .val (.ref b13), .val (.int (0 : Int32)), .val (.int (1 : Int32))] [])) _
          refine XS.iload X43.here hx rfl (hb hby at_153) rfl ?_
          show Steps p.tables e below (T43.setTop (mkF m 155 #[.val (.int p1), .val (.int z1), .val (.int z3), .val (.int z5), .val (.int z7), .val (.ref b9), .val (.ref b11), .val (.ref b13), .val (.int (0 : Int32)), .val (.int (1 : Int32))] [(.int (0 : Int32))])) _
          refine XS.ifNo X43.here hx rfl (hb hby at_155) rfl ((if0 _ _).trans (teq (by decide)).2) ?_
          show Steps p.tables e below (T43.setTop (mkF m 158 #[.val (.int p1), .val (.int z1), .val (.int z3), .val (.int z5), .val (.int z7), .val (.ref b9), .val (.ref b11), .val (.ref b13), .val (.int (0 : Int32)), .val (.int (1 : Int32))] [])) _
          refine XS.aload X43.here hx rfl (hb hby at_158) rfl rfl ?_
          exact k
        obtain ⟨cq44, kq44, q44a, q44b, q44c⟩ := isOf hZ rfl E43q
        obtain ⟨_, _, ⟨T44, L44, k44, n44⟩, -, X44, ⟨Lc44, hQ44, l44, y44, z44⟩, st44⟩ := X43.virtualBack hx (y := (⟨"com/example/sira/sira/wire/MessageProperties", "isReceipt", "()Z"⟩ : MethodName)) (z := (⟨"com/example/sira/sira/wire/MessageProperties", "isReceipt", "()Z"⟩ : MethodName)) hown (mvT hZ (hw _ (List.mem_of_getElem? (i := 51) rfl))) (mvT hZ (hw _ (List.mem_of_getElem? (i := 52) rfl))) (notFace_of_selects (args := #[]) (mvT hZ (hw _ (List.mem_of_getElem? (i := 54) rfl)))) (mvT hZ (hw _ (List.mem_of_getElem? (i := 54) rfl))) (mvT hZ (hw _ (List.mem_of_getElem? (i := 53) rfl))) (by decide) (backOf (W := 0) (rm5b l Z a0 hw [] b9 b11 T43.heap n0 (Nat.le_trans (Nat.le_trans (Nat.le_trans (Nat.le_trans (Nat.le_trans (Nat.le_trans (Nat.le_trans (Nat.le_trans (Nat.le_trans (Nat.le_trans Z0 E9.1) K10q.1) E11.1) K12q.1) E13.1) K14q.1) K30q.1) K31q.1) K39q.1) K43q.1) F43_1 F43_2) hZ (hw _ (List.mem_of_getElem? (i := 55) rfl)) (hw _ (List.mem_of_getElem? (i := 2) rfl)) (by decide) (by decide)) q44a q44c (g := (mkF m 160 #[.val (.int p1), .val (.int z1), .val (.int z3), .val (.int z5), .val (.int z7), .val (.ref b9), .val (.ref b11), .val (.ref b13), .val (.int (0 : Int32)), .val (.int (1 : Int32))] [(.ref b9)])) rfl (by rw [hml]; rfl) (Steps.refl _) (argsL := []) (rest := []) (lenOf own_pd3 rfl) rfl (by show 2 * 0 + _ ≤ _; exact Nat.le_of_eq rfl) (hb hby at_160) (fun _ _ => ⟨rfl, rfl, (by decide : 9 + 0 ≤ _), (by decide : 353 + 0 ≤ _)⟩)
        dsimp only [Pt.U, Pt.locs, Pt.cells, Pt.slots] at X44 l44 y44 z44 st44 hQ44
        subst l44 y44 z44
        obtain ⟨rfl, N44q, eq44⟩ := hQ44
        have N44 := Fr.app N43 N44q
        refine own_go (B := T44.setTop (mkF m 163 #[.val (.int p1), .val (.int z1), .val (.int z3), .val (.int z5), .val (.int z7), .val (.ref b9), .val (.ref b11), .val (.ref b13), .val (.int (0 : Int32)), .val (.int (1 : Int32))] [(.int (1 : Int32))])) (fun t k => st44.trans k) ?_
        obtain ⟨fs, hr, hrun, hended, hRW⟩ := X44.leaveW hS (by rw [eq44]; exact (Nat.le_trans (Nat.le_trans (Nat.le_trans (Nat.le_trans (Nat.le_trans (Nat.le_trans (Nat.le_trans (Nat.le_trans (Nat.le_refl _) E11.1) K12q.1) E13.1) K14q.1) K30q.1) K31q.1) K39q.1) K43q.1)) (v := some (.int (1 : Int32))) (fun h => by rw [Bd.returns] at h; cases h)
        refine ⟨_, _, ?_, hrun, hended, _, _, rfl, ?_, hRW.1, hRW.2.1, hRW.2.2.1, hRW.2.2.2.mono (by decide) (by decide)⟩
        · show Steps p.tables e below (T44.setTop (mkF m 163 #[.val (.int p1), .val (.int z1), .val (.int z3), .val (.int z5), .val (.int z7), .val (.ref b9), .val (.ref b11), .val (.ref b13), .val (.int (0 : Int32)), .val (.int (1 : Int32))] [(.int (1 : Int32))])) _
          refine XS.iload X44.here hx rfl (hb hby at_163) rfl ?_
          show Steps p.tables e below (T44.setTop (mkF m 165 #[.val (.int p1), .val (.int z1), .val (.int z3), .val (.int z5), .val (.int z7), .val (.ref b9), .val (.ref b11), .val (.ref b13), .val (.int (0 : Int32)), .val (.int (1 : Int32))] [(.int (1 : Int32)), (.int (1 : Int32))])) _
          refine XS.icmpNo X44.here hx rfl (hb hby at_165) rfl (teq (by decide)).2 ?_
          show Steps p.tables e below (T44.setTop (mkF m 168 #[.val (.int p1), .val (.int z1), .val (.int z3), .val (.int z5), .val (.int z7), .val (.ref b9), .val (.ref b11), .val (.ref b13), .val (.int (0 : Int32)), .val (.int (1 : Int32))] [])) _
          refine XS.iconst X44.here hx rfl (hb hby at_168) ?_
          show Steps p.tables e below (T44.setTop (mkF m 169 #[.val (.int p1), .val (.int z1), .val (.int z3), .val (.int z5), .val (.int z7), .val (.ref b9), .val (.ref b11), .val (.ref b13), .val (.int (0 : Int32)), .val (.int (1 : Int32))] [(.int (1 : Int32))])) _
          refine XS.goto X44.here hx rfl (pc0 := 169) (pc' := 173) rfl (hb hby at_169) (by decide) (by decide) ?_
          show Steps p.tables e below (T44.setTop (mkF m 173 #[.val (.int p1), .val (.int z1), .val (.int z3), .val (.int z5), .val (.int z7), .val (.ref b9), .val (.ref b11), .val (.ref b13), .val (.int (0 : Int32)), .val (.int (1 : Int32))] [(.int (1 : Int32))])) _
          exact retN X44 hx (t := .boolean) Bd.returns (by simp) (hb hby at_173) hr
        · show Q0 Z p1 h0 n0 _ T44.heap _
          rw [eq44]
          exact ⟨rfl, N44⟩
set_option maxRecDepth 65536 in
set_option maxHeartbeats 40000000 in
theorem comes_1 {Post : Tables → Env → Array Value → State → Outcome → State → Prop} (hpost : ∀ tb e args s v u, (limb_1_1.after args s (.returned v) u = true ∧ limb_1_2.after args s (.returned v) u = true ∧ True) → ReturnedEndW s (.returned v) u (Jvm.fieldLocs frame_1_writes args s ++ Jvm.arrayLocs frame_1_arrays args s ++ Jvm.staticLocs frame_1_statics s) 24 3200 → Post tb e args s (.returned v) u) :
    ArmFor flags0 classFile x code maxLocals ret World_1 tables_1 room_1 Calls_1 rest_1 Pre_1 Post := by
  intro l hfl _ _ p e ha hc hk s m args below hf hA hF happ hP
  obtain ⟨hcalls, hrest, hpre⟩ := hP
  obtain ⟨-, -, -, hnamed, -, -, -, hat⟩ := (Spec.applies_iff hf).mp happ
  obtain ⟨hg, hn⟩ := and_e (Cond.before_iff.mp (show (Jvm.Cond.and given_1 narrow_1).before args s = true from hpre))
  obtain ⟨gc, ga0⟩ := and_e hg
  obtain ⟨w0, rfl⟩ : ∃ w0 : Value, args = #[w0] := by
    have hs : args.size = 1 := by simpa [Cond.value, given_1] using gc
    obtain ⟨L⟩ := args
    match L, hs with
    | [w0], _ => exact ⟨w0, rfl⟩
  have hw := fun d (hd : d ∈ tables_1) => atoms_spec (ws := Jvm.Cond.code x code maxLocals ret :: tables_1) hat d (List.mem_cons_of_mem _ hd)
  have hfit : Fit s := fun {y c} hc i hi => by
    obtain ⟨ha, rfl⟩ := Array.getElem?_eq_some_iff.mp hc
    have q := List.all_eq_true.mp ((Array.all_eq_true_iff_forall_mem.mp hF) _ (Array.getElem_mem ha)) i (List.mem_range.mpr hi)
    simpa [Array.getElem?_eq_getElem hi] using q
  obtain ⟨i0, ei0⟩ := is_v ga0
  obtain rfl : w0 = (.int i0) := Option.some.inj ei0
  obtain ⟨n, o, h1, h2, h3, _, L, rfl, ⟨rfl, N⟩, hq⟩ := rm0 l s _ hw tables_1 i0 s.heap s.heap.size (Nat.le_refl _)  p e ha hc hk s m _ below hf ((Spec.applies_iff_loose hf).mp happ).1 ⟨rfl, State.Warmed39.refl s, rfl⟩ trivial
  refine ⟨n, _, h1, h2, h3, hpost _ _ _ _ _ _ ⟨Cond.after_iff.mpr rfl, Cond.after_iff.mpr (eq_i res_at (Term.int_eval (1)) rfl), trivial⟩ ⟨hq.1, hq.2.1, hq.2.2.1, (hq.2.2.2.sift fun y hy => Or.inr (N y hy)).mono (by decide) (by decide)⟩⟩
theorem main_1_1 : Claimed_1_1 := comes_1 fun _ _ _ _ _ _ h hF => ⟨h.1, hF⟩
theorem main_1_2 : Claimed_1_2 := comes_1 fun _ _ _ _ _ _ h hF => ⟨h.2.1, hF⟩
end Jvm.Pilot.@@N@@
namespace Jvm.Pilot.@@N@@
open Jvm Jvm.ClassFile Sem Op Lib Jvm.Free Jvm.Stand Jvm.Pilot.@@N@@.Jvm.D
/-! MADE BY PROGRAM (witnessworld.py) out of the Statement's table words and the real class files: 16 classes; the members and pool entries that the words name. The judged class is class 1, her method 1. -/
namespace start1
open Jvm.ClassFile
def u (s : String) : CpInfo := .utf8 (stringToUtf16 s)
/-- a pool by its gaps: so many unusable entries, then the entry; so many at the end -/
def gap : Nat → List CpInfo → List CpInfo
  | 0, r => r
  | n + 1, r => .unusable :: gap n r
def poolList (es : List (Nat × CpInfo)) (last : Nat) : List CpInfo := es.foldr (fun e r => gap e.1 (e.2 :: r)) (gap last [])
def pool (es : List (Nat × CpInfo)) (last : Nat) : Array CpInfo := ⟨poolList es last⟩
def fileOf (pool : Array CpInfo) (this : Nat) (attrs : Array Attribute := #[]) (ms : Array MethodInfo := #[]) (fl : Nat := 33) (sup : Nat := 0) (ifs : Array Nat := #[]) (fds : Array FieldInfo := #[]) : ClassFile where
  minorVersion := 0
  majorVersion := 65
  constantPool := pool
  accessFlags := fl
  thisClass := this
  superClass := sup
  interfaces := ifs
  fields := fds
  methods := ms
  attributes := attrs
def plain (name : String) (sup : Option ClassId) : Class where
  name := name
  kind := .ordinary
  loader := none
  accessFlags := 33
  super := sup
  interfaces := #[]
  cf := none
  fields := #[]
  methods := #[]
  instanceTypes := #[]
  staticTypes := #[]
  resolved := #[]
  callSites := []
  init := .initialized
  statics := none
  mirror := none

def pool0 : Array CpInfo := pool [(5, u "<init>"), (0, u "()V"), (1, .class_ 10), (1, u "java/lang/Object")] 113

def k0c0 : Code := { maxStack := 0, maxLocals := 1, code := object_method_1_code, exceptionTable := #[], attributes := #[] }
def k0m0 : Method := { name := "<init>", desc := "()V", sig := { parameters := [], returnType := none }, accessFlags := 1, code := some k0c0 }
/-- java/lang/Object -/
def k0 : Class := { plain "java/lang/Object" none with
  accessFlags := 33
  interfaces := #[]
  cf := some (fileOf pool0 8 #[] #[{ accessFlags := 1, nameIndex := 5, descriptorIndex := 6, attributes := #[] }] 33 0 #[] #[])
  fields := #[]
  methods := #[k0m0]
  instanceTypes := #[]
  staticTypes := #[]
  resolved := Array.replicate 124 none
  statics := none }

def pool1 : Array CpInfo := pool [(2, .class_ 4), (0, .nameAndType 5 6), (0, u "java/lang/Object"), (0, u "<init>"), (0, u "()V"), (0, .class_ 8), (0, u "com/example/sira/sira/wire/MessageProperties"), (0, .methodref 7 3), (0, .class_ 11), (0, u "com/example/sira/sira/wire/DeliveryReceipt"), (0, .methodref 10 13), (0, .nameAndType 5 14), (0, u "(Ljava/time/Instant;Ljava/lang/String;)V"), (0, .class_ 16), (0, u "com/example/sira/sira/wire/CommitmentReceipt"), (0, .methodref 15 18), (0, .nameAndType 5 19), (0, u "(Ljava/time/Instant;ZLjava/lang/String;)V"), (0, .methodref 7 21), (0, .nameAndType 22 23), (0, u "isReceipt"), (0, u "()Z"), (0, .methodref 7 25), (0, .nameAndType 26 27), (0, u "setDeliveryReceipt"), (0, u "(Lcom/example/sira/sira/wire/DeliveryReceipt;)V"), (0, .methodref 7 29), (0, .nameAndType 30 31), (0, u "setCommitmentReceipt"), (0, u "(Lcom/example/sira/sira/wire/CommitmentReceipt;)V"), (0, .class_ 33), (0, u "com/example/sira/sira/wire/MessagePropertiesIsReceiptPinLaw"), (2, u "law"), (0, u "(I)Z")] 3

def k1m0 : Method := { name := "<init>", desc := "()V", sig := { parameters := [], returnType := none }, accessFlags := 1, code := none }
def k1c1 : Code := { maxStack := 5, maxLocals := 10, code := code, exceptionTable := #[], attributes := #[] }
def k1m1 : Method := { name := "law", desc := "(I)Z", sig := { parameters := [.int], returnType := some .boolean }, accessFlags := 9, code := some k1c1 }
/-- com/example/sira/sira/wire/MessagePropertiesIsReceiptPinLaw -/
def k1 : Class := { plain "com/example/sira/sira/wire/MessagePropertiesIsReceiptPinLaw" (some 0) with
  accessFlags := 49
  interfaces := #[]
  cf := some (fileOf pool1 32 #[] #[{ accessFlags := 1, nameIndex := 5, descriptorIndex := 6, attributes := #[] }, { accessFlags := 9, nameIndex := 36, descriptorIndex := 37, attributes := #[] }] 49 2 #[] #[])
  fields := #[]
  methods := #[k1m0, k1m1]
  instanceTypes := #[]
  staticTypes := #[]
  resolved := Array.replicate 41 none
  statics := none }

def pool2 : Array CpInfo := pool [(1, .class_ 2), (0, u "com/example/sira/sira/wire/MessageProperties"), (0, .methodref 4 5), (0, .class_ 6), (0, .nameAndType 7 8), (0, u "java/lang/Object"), (0, u "<init>"), (0, u "()V"), (0, .string 10), (0, u "uuid:1@00000000-0000-0000-0000-000000000000"), (0, .fieldref 1 12), (0, .nameAndType 13 14), (0, u "id"), (0, u "Ljava/lang/String;"), (0, .string 16), (0, u ""), (0, .fieldref 1 18), (0, .nameAndType 19 14), (0, u "label"), (0, .fieldref 1 21), (0, .nameAndType 22 23), (0, u "priority"), (0, u "I"), (0, .string 25), (0, u "00000000-0000-0000-0000-000000000000"), (0, .fieldref 1 27), (0, .nameAndType 28 14), (0, u "sourceQm"), (2, u "destination"), (0, u "Lcom/example/sira/sira/wire/QueueUrl;"), (2, u "messageClass"), (2, u "durable"), (0, u "Z"), (2, u "journal"), (2, u "deadLetter"), (2, u "sentAt"), (0, u "Ljava/time/Instant;"), (2, u "expiresAt"), (2, u "correlation"), (2, u "app"), (0, u "J"), (2, u "bodyType"), (2, u "stream"), (0, u "Lcom/example/sira/sira/wire/StreamHeader;"), (0, .fieldref 1 68), (0, .nameAndType 69 70), (0, u "streamReceipt"), (0, u "Lcom/example/sira/sira/wire/StreamReceipt;"), (2, u "deliveryReceiptTo"), (2, u "commitmentReceiptRequest"), (0, u "Lcom/example/sira/sira/wire/CommitmentReceiptRequest;"), (0, .fieldref 1 79), (0, .nameAndType 80 81), (0, u "deliveryReceipt"), (0, u "Lcom/example/sira/sira/wire/DeliveryReceipt;"), (0, .fieldref 1 83), (0, .nameAndType 84 85), (0, u "commitmentReceipt"), (0, u "Lcom/example/sira/sira/wire/CommitmentReceipt;"), (0, u "NIL_GUID"), (1, u "DEFAULT_ID"), (0, u "DEFAULT_PRIORITY"), (1, u "MAX_PRIORITY"), (1, u "MAX_LABEL_LENGTH"), (20, u "()Z"), (38, u "setDeliveryReceipt"), (0, u "(Lcom/example/sira/sira/wire/DeliveryReceipt;)V"), (2, u "setCommitmentReceipt"), (0, u "(Lcom/example/sira/sira/wire/CommitmentReceipt;)V"), (0, u "isReceipt")] 3

def k2c0 : Code := { maxStack := 2, maxLocals := 1, code := prog_44_method_1_code, exceptionTable := #[], attributes := #[] }
def k2m0 : Method := { name := "<init>", desc := "()V", sig := { parameters := [], returnType := none }, accessFlags := 1, code := some k2c0 }
def k2c1 : Code := { maxStack := 2, maxLocals := 2, code := prog_44_method_39_code, exceptionTable := #[], attributes := #[] }
def k2m1 : Method := { name := "setDeliveryReceipt", desc := "(Lcom/example/sira/sira/wire/DeliveryReceipt;)V", sig := { parameters := [(.object "com/example/sira/sira/wire/DeliveryReceipt")], returnType := none }, accessFlags := 1, code := some k2c1 }
def k2c2 : Code := { maxStack := 2, maxLocals := 2, code := prog_44_method_41_code, exceptionTable := #[], attributes := #[] }
def k2m2 : Method := { name := "setCommitmentReceipt", desc := "(Lcom/example/sira/sira/wire/CommitmentReceipt;)V", sig := { parameters := [(.object "com/example/sira/sira/wire/CommitmentReceipt")], returnType := none }, accessFlags := 1, code := some k2c2 }
def k2c3 : Code := { maxStack := 1, maxLocals := 1, code := prog_44_method_42_code, exceptionTable := #[], attributes := #[] }
def k2m3 : Method := { name := "isReceipt", desc := "()Z", sig := { parameters := [], returnType := some .boolean }, accessFlags := 1, code := some k2c3 }
/-- com/example/sira/sira/wire/MessageProperties -/
def k2 : Class := { plain "com/example/sira/sira/wire/MessageProperties" (some 0) with
  accessFlags := 33
  interfaces := #[]
  cf := some (fileOf pool2 1 #[] #[{ accessFlags := 1, nameIndex := 7, descriptorIndex := 8, attributes := #[] }, { accessFlags := 1, nameIndex := 153, descriptorIndex := 154, attributes := #[] }, { accessFlags := 1, nameIndex := 157, descriptorIndex := 158, attributes := #[] }, { accessFlags := 1, nameIndex := 159, descriptorIndex := 114, attributes := #[] }] 33 4 #[] #[{ accessFlags := 25, nameIndex := 86, descriptorIndex := 14, attributes := #[] }, { accessFlags := 25, nameIndex := 88, descriptorIndex := 14, attributes := #[] }, { accessFlags := 25, nameIndex := 89, descriptorIndex := 23, attributes := #[] }, { accessFlags := 25, nameIndex := 91, descriptorIndex := 23, attributes := #[] }, { accessFlags := 25, nameIndex := 93, descriptorIndex := 23, attributes := #[] }, { accessFlags := 2, nameIndex := 13, descriptorIndex := 14, attributes := #[] }, { accessFlags := 2, nameIndex := 19, descriptorIndex := 14, attributes := #[] }, { accessFlags := 2, nameIndex := 31, descriptorIndex := 32, attributes := #[] }, { accessFlags := 2, nameIndex := 35, descriptorIndex := 23, attributes := #[] }, { accessFlags := 2, nameIndex := 22, descriptorIndex := 23, attributes := #[] }, { accessFlags := 2, nameIndex := 38, descriptorIndex := 39, attributes := #[] }, { accessFlags := 2, nameIndex := 42, descriptorIndex := 39, attributes := #[] }, { accessFlags := 2, nameIndex := 45, descriptorIndex := 39, attributes := #[] }, { accessFlags := 2, nameIndex := 48, descriptorIndex := 49, attributes := #[] }, { accessFlags := 2, nameIndex := 52, descriptorIndex := 49, attributes := #[] }, { accessFlags := 2, nameIndex := 55, descriptorIndex := 14, attributes := #[] }, { accessFlags := 2, nameIndex := 58, descriptorIndex := 59, attributes := #[] }, { accessFlags := 2, nameIndex := 62, descriptorIndex := 59, attributes := #[] }, { accessFlags := 2, nameIndex := 28, descriptorIndex := 14, attributes := #[] }, { accessFlags := 2, nameIndex := 65, descriptorIndex := 66, attributes := #[] }, { accessFlags := 2, nameIndex := 69, descriptorIndex := 70, attributes := #[] }, { accessFlags := 2, nameIndex := 73, descriptorIndex := 32, attributes := #[] }, { accessFlags := 2, nameIndex := 76, descriptorIndex := 77, attributes := #[] }, { accessFlags := 2, nameIndex := 80, descriptorIndex := 81, attributes := #[] }, { accessFlags := 2, nameIndex := 84, descriptorIndex := 85, attributes := #[] }])
  fields := #[{ name := "NIL_GUID", type := (.object "java/lang/String"), accessFlags := 25, slot := 0, constantValue := 0 }, { name := "DEFAULT_ID", type := (.object "java/lang/String"), accessFlags := 25, slot := 1, constantValue := 0 }, { name := "DEFAULT_PRIORITY", type := .int, accessFlags := 25, slot := 2, constantValue := 0 }, { name := "MAX_PRIORITY", type := .int, accessFlags := 25, slot := 3, constantValue := 0 }, { name := "MAX_LABEL_LENGTH", type := .int, accessFlags := 25, slot := 4, constantValue := 0 }, { name := "id", type := (.object "java/lang/String"), accessFlags := 2, slot := 0, constantValue := 0 }, { name := "label", type := (.object "java/lang/String"), accessFlags := 2, slot := 1, constantValue := 0 }, { name := "destination", type := (.object "com/example/sira/sira/wire/QueueUrl"), accessFlags := 2, slot := 2, constantValue := 0 }, { name := "messageClass", type := .int, accessFlags := 2, slot := 3, constantValue := 0 }, { name := "priority", type := .int, accessFlags := 2, slot := 4, constantValue := 0 }, { name := "durable", type := .boolean, accessFlags := 2, slot := 5, constantValue := 0 }, { name := "journal", type := .boolean, accessFlags := 2, slot := 6, constantValue := 0 }, { name := "deadLetter", type := .boolean, accessFlags := 2, slot := 7, constantValue := 0 }, { name := "sentAt", type := (.object "java/time/Instant"), accessFlags := 2, slot := 8, constantValue := 0 }, { name := "expiresAt", type := (.object "java/time/Instant"), accessFlags := 2, slot := 9, constantValue := 0 }, { name := "correlation", type := (.object "java/lang/String"), accessFlags := 2, slot := 10, constantValue := 0 }, { name := "app", type := .long, accessFlags := 2, slot := 11, constantValue := 0 }, { name := "bodyType", type := .long, accessFlags := 2, slot := 12, constantValue := 0 }, { name := "sourceQm", type := (.object "java/lang/String"), accessFlags := 2, slot := 13, constantValue := 0 }, { name := "stream", type := (.object "com/example/sira/sira/wire/StreamHeader"), accessFlags := 2, slot := 14, constantValue := 0 }, { name := "streamReceipt", type := (.object "com/example/sira/sira/wire/StreamReceipt"), accessFlags := 2, slot := 15, constantValue := 0 }, { name := "deliveryReceiptTo", type := (.object "com/example/sira/sira/wire/QueueUrl"), accessFlags := 2, slot := 16, constantValue := 0 }, { name := "commitmentReceiptRequest", type := (.object "com/example/sira/sira/wire/CommitmentReceiptRequest"), accessFlags := 2, slot := 17, constantValue := 0 }, { name := "deliveryReceipt", type := (.object "com/example/sira/sira/wire/DeliveryReceipt"), accessFlags := 2, slot := 18, constantValue := 0 }, { name := "commitmentReceipt", type := (.object "com/example/sira/sira/wire/CommitmentReceipt"), accessFlags := 2, slot := 19, constantValue := 0 }]
  methods := #[k2m0, k2m1, k2m2, k2m3]
  instanceTypes := #[(.object "java/lang/String"), (.object "java/lang/String"), (.object "com/example/sira/sira/wire/QueueUrl"), .int, .int, .boolean, .boolean, .boolean, (.object "java/time/Instant"), (.object "java/time/Instant"), (.object "java/lang/String"), .long, .long, (.object "java/lang/String"), (.object "com/example/sira/sira/wire/StreamHeader"), (.object "com/example/sira/sira/wire/StreamReceipt"), (.object "com/example/sira/sira/wire/QueueUrl"), (.object "com/example/sira/sira/wire/CommitmentReceiptRequest"), (.object "com/example/sira/sira/wire/DeliveryReceipt"), (.object "com/example/sira/sira/wire/CommitmentReceipt")]
  staticTypes := #[(.object "java/lang/String"), (.object "java/lang/String"), .int, .int, .int]
  resolved := Array.replicate 163 none
  statics := none }

def pool3 : Array CpInfo := pool [(1, .class_ 2), (0, u "java/io/Serializable"), (0, .class_ 4), (0, u "java/lang/Object")] 2

/-- java/io/Serializable -/
def k3 : Class := { plain "java/io/Serializable" (some 0) with
  accessFlags := 1537
  interfaces := #[]
  cf := some (fileOf pool3 1 #[] #[] 1537 3 #[] #[])
  fields := #[]
  methods := #[]
  instanceTypes := #[]
  staticTypes := #[]
  resolved := Array.replicate 7 none
  statics := none }

def pool4 : Array CpInfo := pool [(1, .class_ 2), (0, u "java/lang/Comparable"), (0, .class_ 4), (0, u "java/lang/Object")] 7

/-- java/lang/Comparable -/
def k4 : Class := { plain "java/lang/Comparable" (some 0) with
  accessFlags := 1537
  interfaces := #[]
  cf := some (fileOf pool4 1 #[] #[] 1537 3 #[] #[])
  fields := #[]
  methods := #[]
  instanceTypes := #[]
  staticTypes := #[]
  resolved := Array.replicate 12 none
  statics := none }

def pool5 : Array CpInfo := pool [(2, .class_ 4), (1, u "java/lang/CharSequence"), (42, .class_ 48), (0, u "java/lang/CharSequence$1CodePointIterator"), (10, .class_ 60), (0, u "java/lang/CharSequence$1CharIterator"), (5, .class_ 67), (0, u "java/lang/Object")] 63

/-- java/lang/CharSequence -/
def k5 : Class := { plain "java/lang/CharSequence" (some 0) with
  accessFlags := 1537
  interfaces := #[]
  cf := some (fileOf pool5 2 #[.nestMembers #[47, 59]] #[] 1537 66 #[] #[])
  fields := #[]
  methods := #[]
  instanceTypes := #[]
  staticTypes := #[]
  resolved := Array.replicate 131 none
  statics := none }

def pool6 : Array CpInfo := pool [(1, .class_ 2), (0, u "java/lang/constant/Constable"), (0, .class_ 4), (0, u "java/lang/Object")] 6

/-- java/lang/constant/Constable -/
def k6 : Class := { plain "java/lang/constant/Constable" (some 0) with
  accessFlags := 1537
  interfaces := #[]
  cf := some (fileOf pool6 1 #[] #[] 1537 3 #[] #[])
  fields := #[]
  methods := #[]
  instanceTypes := #[]
  staticTypes := #[]
  resolved := Array.replicate 11 none
  statics := none }

def pool7 : Array CpInfo := pool [(1, .class_ 2), (0, u "java/lang/constant/ConstantDesc"), (0, .class_ 4), (0, u "java/lang/Object")] 32

/-- java/lang/constant/ConstantDesc -/
def k7 : Class := { plain "java/lang/constant/ConstantDesc" (some 0) with
  accessFlags := 1537
  interfaces := #[]
  cf := some (fileOf pool7 1 #[] #[] 1537 3 #[] #[])
  fields := #[]
  methods := #[]
  instanceTypes := #[]
  staticTypes := #[]
  resolved := Array.replicate 37 none
  statics := none }

def pool8 : Array CpInfo := pool [(2, .class_ 4), (1, u "java/lang/Object"), (0, u "<init>"), (0, u "()V"), (3, .class_ 12), (1, u "java/lang/String"), (0, u "value"), (0, u "[B"), (2, u "coder"), (0, u "B"), (2, u "hash"), (0, u "I"), (2, u "hashIsZero"), (0, u "Z"), (13, u "COMPACT_STRINGS"), (534, .class_ 576), (0, u "java/lang/CharSequence"), (22, u "CASE_INSENSITIVE_ORDER"), (0, u "Ljava/util/Comparator;"), (500, u "serialPersistentFields"), (0, u "[Ljava/io/ObjectStreamField;"), (0, .class_ 1104), (0, u "java/lang/String$CaseInsensitiveComparator"), (1, .class_ 1107), (0, u "java/io/Serializable"), (0, .class_ 1109), (0, u "java/lang/Comparable"), (0, .class_ 1111), (0, u "java/lang/constant/Constable"), (0, .class_ 1113), (0, u "java/lang/constant/ConstantDesc"), (2, u "serialVersionUID"), (0, u "J"), (3, u "REPL"), (0, u "C"), (2, u "LATIN1"), (1, u "UTF16")] 323

def k8m0 : Method := { name := "<init>", desc := "()V", sig := { parameters := [], returnType := none }, accessFlags := 1, code := none }
/-- java/lang/String -/
def k8 : Class := { plain "java/lang/String" (some 0) with
  accessFlags := 49
  interfaces := #[3, 4, 5, 6, 7]
  cf := some (fileOf pool8 10 #[.nestMembers #[1103]] #[{ accessFlags := 1, nameIndex := 5, descriptorIndex := 6, attributes := #[] }] 49 2 #[1106, 1108, 575, 1110, 1112] #[{ accessFlags := 18, nameIndex := 13, descriptorIndex := 14, attributes := #[] }, { accessFlags := 18, nameIndex := 17, descriptorIndex := 18, attributes := #[] }, { accessFlags := 2, nameIndex := 21, descriptorIndex := 22, attributes := #[] }, { accessFlags := 2, nameIndex := 25, descriptorIndex := 26, attributes := #[] }, { accessFlags := 26, nameIndex := 1116, descriptorIndex := 1117, attributes := #[] }, { accessFlags := 24, nameIndex := 40, descriptorIndex := 26, attributes := #[] }, { accessFlags := 26, nameIndex := 1101, descriptorIndex := 1102, attributes := #[] }, { accessFlags := 26, nameIndex := 1121, descriptorIndex := 1122, attributes := #[] }, { accessFlags := 25, nameIndex := 599, descriptorIndex := 600, attributes := #[] }, { accessFlags := 24, nameIndex := 1125, descriptorIndex := 18, attributes := #[] }, { accessFlags := 24, nameIndex := 1127, descriptorIndex := 18, attributes := #[] }])
  fields := #[{ name := "value", type := (.array .byte), accessFlags := 18, slot := 0, constantValue := 0 }, { name := "coder", type := .byte, accessFlags := 18, slot := 1, constantValue := 0 }, { name := "hash", type := .int, accessFlags := 2, slot := 2, constantValue := 0 }, { name := "hashIsZero", type := .boolean, accessFlags := 2, slot := 3, constantValue := 0 }, { name := "serialVersionUID", type := .long, accessFlags := 26, slot := 0, constantValue := 0 }, { name := "COMPACT_STRINGS", type := .boolean, accessFlags := 24, slot := 1, constantValue := 0 }, { name := "serialPersistentFields", type := (.array (.object "java/io/ObjectStreamField")), accessFlags := 26, slot := 2, constantValue := 0 }, { name := "REPL", type := .char, accessFlags := 26, slot := 3, constantValue := 0 }, { name := "CASE_INSENSITIVE_ORDER", type := (.object "java/util/Comparator"), accessFlags := 25, slot := 4, constantValue := 0 }, { name := "LATIN1", type := .byte, accessFlags := 24, slot := 5, constantValue := 0 }, { name := "UTF16", type := .byte, accessFlags := 24, slot := 6, constantValue := 0 }]
  methods := #[k8m0]
  instanceTypes := #[(.array .byte), .byte, .int, .boolean]
  staticTypes := #[.long, .boolean, (.array (.object "java/io/ObjectStreamField")), .char, (.object "java/util/Comparator"), .byte, .byte]
  resolved := Array.replicate 1451 none
  statics := none }

def pool9 : Array CpInfo := pool [(1, .methodref 2 3), (0, .class_ 4), (0, .nameAndType 5 6), (0, u "java/lang/Object"), (0, u "<init>"), (0, u "()V"), (0, .fieldref 8 9), (0, .class_ 10), (0, .nameAndType 11 12), (0, u "com/example/sira/sira/wire/DeliveryReceipt"), (0, u "receivedAt"), (0, u "Ljava/time/Instant;"), (0, .fieldref 8 14), (0, .nameAndType 15 16), (0, u "id"), (0, u "Ljava/lang/String;"), (0, u "(Ljava/time/Instant;Ljava/lang/String;)V")] 8

def k9c0 : Code := { maxStack := 2, maxLocals := 3, code := prog_42_method_1_code, exceptionTable := #[], attributes := #[] }
def k9m0 : Method := { name := "<init>", desc := "(Ljava/time/Instant;Ljava/lang/String;)V", sig := { parameters := [(.object "java/time/Instant"), (.object "java/lang/String")], returnType := none }, accessFlags := 1, code := some k9c0 }
/-- com/example/sira/sira/wire/DeliveryReceipt -/
def k9 : Class := { plain "com/example/sira/sira/wire/DeliveryReceipt" (some 0) with
  accessFlags := 33
  interfaces := #[]
  cf := some (fileOf pool9 8 #[] #[{ accessFlags := 1, nameIndex := 5, descriptorIndex := 17, attributes := #[] }] 33 2 #[] #[{ accessFlags := 18, nameIndex := 11, descriptorIndex := 12, attributes := #[] }, { accessFlags := 18, nameIndex := 15, descriptorIndex := 16, attributes := #[] }])
  fields := #[{ name := "receivedAt", type := (.object "java/time/Instant"), accessFlags := 18, slot := 0, constantValue := 0 }, { name := "id", type := (.object "java/lang/String"), accessFlags := 18, slot := 1, constantValue := 0 }]
  methods := #[k9m0]
  instanceTypes := #[(.object "java/time/Instant"), (.object "java/lang/String")]
  staticTypes := #[]
  resolved := Array.replicate 26 none
  statics := none }

def pool10 : Array CpInfo := pool [(1, .methodref 2 3), (0, .class_ 4), (0, .nameAndType 5 6), (0, u "java/lang/Object"), (0, u "<init>"), (0, u "()V"), (0, .fieldref 8 9), (0, .class_ 10), (0, .nameAndType 11 12), (0, u "com/example/sira/sira/wire/CommitmentReceipt"), (0, u "decidedAt"), (0, u "Ljava/time/Instant;"), (0, .fieldref 8 14), (0, .nameAndType 15 16), (0, u "positive"), (0, u "Z"), (0, .fieldref 8 18), (0, .nameAndType 19 20), (0, u "id"), (0, u "Ljava/lang/String;"), (3, u "POSITIVE"), (1, u "NEGATIVE"), (0, u "(Ljava/time/Instant;ZLjava/lang/String;)V")] 14

def k10c0 : Code := { maxStack := 2, maxLocals := 4, code := prog_38_method_1_code, exceptionTable := #[], attributes := #[] }
def k10m0 : Method := { name := "<init>", desc := "(Ljava/time/Instant;ZLjava/lang/String;)V", sig := { parameters := [(.object "java/time/Instant"), .boolean, (.object "java/lang/String")], returnType := none }, accessFlags := 1, code := some k10c0 }
/-- com/example/sira/sira/wire/CommitmentReceipt -/
def k10 : Class := { plain "com/example/sira/sira/wire/CommitmentReceipt" (some 0) with
  accessFlags := 33
  interfaces := #[]
  cf := some (fileOf pool10 8 #[] #[{ accessFlags := 1, nameIndex := 5, descriptorIndex := 27, attributes := #[] }] 33 2 #[] #[{ accessFlags := 25, nameIndex := 24, descriptorIndex := 20, attributes := #[] }, { accessFlags := 25, nameIndex := 26, descriptorIndex := 20, attributes := #[] }, { accessFlags := 18, nameIndex := 11, descriptorIndex := 12, attributes := #[] }, { accessFlags := 18, nameIndex := 15, descriptorIndex := 16, attributes := #[] }, { accessFlags := 18, nameIndex := 19, descriptorIndex := 20, attributes := #[] }])
  fields := #[{ name := "POSITIVE", type := (.object "java/lang/String"), accessFlags := 25, slot := 0, constantValue := 0 }, { name := "NEGATIVE", type := (.object "java/lang/String"), accessFlags := 25, slot := 1, constantValue := 0 }, { name := "decidedAt", type := (.object "java/time/Instant"), accessFlags := 18, slot := 0, constantValue := 0 }, { name := "positive", type := .boolean, accessFlags := 18, slot := 1, constantValue := 0 }, { name := "id", type := (.object "java/lang/String"), accessFlags := 18, slot := 2, constantValue := 0 }]
  methods := #[k10m0]
  instanceTypes := #[(.object "java/time/Instant"), .boolean, (.object "java/lang/String")]
  staticTypes := #[(.object "java/lang/String"), (.object "java/lang/String")]
  resolved := Array.replicate 42 none
  statics := none }

def pool11 : Array CpInfo := pool [(1, u "java/lang/Cloneable"), (0, .class_ 1), (0, u "java/lang/Object"), (0, .class_ 3)] 3

/-- java/lang/Cloneable -/
def k11 : Class := { plain "java/lang/Cloneable" (some 0) with
  accessFlags := 1537
  interfaces := #[]
  cf := some (fileOf pool11 2 #[] #[] 1537 4 #[] #[])
  fields := #[]
  methods := #[]
  instanceTypes := #[]
  staticTypes := #[]
  resolved := Array.replicate 8 none
  statics := none }

/-- the primitive byte -/
def k12 : Class := { plain "byte" none with kind := .primitive 'B', accessFlags := 0x411 }
/-- [B -/
def k13 : Class := { plain "[B" (some 0) with kind := .array 12 .byte, interfaces := #[11, 3], accessFlags := 1041 }

/-- the primitive int -/
def k14 : Class := { plain "int" none with kind := .primitive 'I', accessFlags := 0x411 }
/-- [I -/
def k15 : Class := { plain "[I" (some 0) with kind := .array 14 .int, interfaces := #[11, 3], accessFlags := 1041 }

def heap : Heap := #[]
def classes : Array Class := #[k0, k1, k2, k3, k4, k5, k6, k7, k8, k9, k10, k11, k12, k13, k14, k15]
def interned : List (Array UInt16 × Addr) := []
def slotsUsed : Nat := 0
def theMethod : MethodId := ⟨1, 1⟩
def args0 : Array Value := #[.int 7]
def aboutOver (below : List Frame) : State where
  vm := { classes := classes, interned := interned.toArray }
  heap := heap
  slotsUsed := slotsUsed
  threads := #[{ frames := .invoking theMethod args0 :: below }]
def below0 : List Frame := [.native { method := ⟨0, 0⟩, args := #[] }]
def about1 : State := aboutOver below0
def p0 : Program := .bare "" "" ""
def e0 : Env := launch0.env 0 0 0
theorem w_frames : about1.frames = Frame.invoking theMethod args0 :: below0 := rfl
set_option maxRecDepth 65536 in
theorem w_args : argsFit about1.vm theMethod args0 = true := by decide +kernel
set_option maxRecDepth 65536 in
theorem w_heap : heapFits about1 = true := by decide +kernel
set_option maxRecDepth 65536 in
theorem w_runnable : about1.curStatus? = some .runnable := by decide +kernel
set_option maxRecDepth 65536 in
theorem w_alone : about1.alone = true := by decide +kernel
set_option maxRecDepth 65536 in
theorem w_named : about1.methodNamed? x = some theMethod := by decide +kernel
set_option maxRecDepth 65536 in
theorem w_hears : about1.hears theMethod below0 = true := by decide +kernel
set_option maxRecDepth 65536 in
theorem w_ripe : about1.ripe theMethod args0 below0 = true := by decide +kernel
theorem w_running : about1.status = .running := rfl
set_option maxRecDepth 65536 in
theorem w_room : about1.hasRoom e0.platform room_1 = true :=
  launch0.hasRoom_least _ room_1 (by decide +kernel) (by decide +kernel) (by decide +kernel) (by decide +kernel) (by decide +kernel) (by decide +kernel)
theorem allAtoms_all (ts : List Jvm.Cond) (a : Array Jvm.Value) (st : Jvm.State) : (allAtoms ts).before a st = ts.all (fun c => c.before a st) := by
  induction ts with
  | nil => rfl
  | cons c t ih =>
    show (Jvm.Cond.and c (allAtoms t)).before a st = _
    rw [Jvm.Cond.before_and, ih, List.all_cons]
def words1 : List Jvm.Cond := Jvm.Cond.code x code maxLocals ret :: tables_1
/-- a 'code' word, met by the world's own term for the bytes: nothing is compared byte by byte -/
theorem code_word {y : MethodName} {bytes : ByteArray} {mx : Nat} {rt : Option FieldType} {a : Array Value} {s : State} {m : MethodId} {meth : Method} {c : Code} (h1 : s.methodNamed? y = some m) (h2 : s.vm.method? m = some meth) (h3 : meth.code = some c) (h4 : c.code = bytes)
    (h5 : (c.maxLocals == mx && c.exceptionTable.isEmpty && decide (c.maxStack ≤ mostOperands) && decide (meth.sig.returnType = rt) && !meth.locks && decide (parseMethodDescriptor y.desc = some meth.sig)) = true) : (Jvm.Cond.code y bytes mx rt).before a s = true := by
  simp only [Bool.and_eq_true, beq_iff_eq, Bool.not_eq_true', decide_eq_true_eq] at h5
  obtain ⟨⟨⟨⟨⟨g1, g2⟩, g3⟩, g4⟩, g5⟩, g6⟩ := h5
  simp [Cond.before, Cond.holds, Cond.value, h1, h2, h3, h4, g1, g2, g3, g4, g5, g6]
def isCode : Jvm.Cond → Bool
  | .code _ _ _ _ => true
  | _ => false
theorem all_split {L : List Jvm.Cond} {P : Jvm.Cond → Bool} (h1 : L.all (fun c => isCode c || P c) = true) (h2 : ∀ c ∈ L.filter isCode, P c = true) : L.all P = true := by
  refine List.all_eq_true.mpr fun c hc => ?_
  have h := List.all_eq_true.mp h1 c hc
  rcases Bool.eq_false_or_eq_true (isCode c) with hi | hi
  · exact h2 c (List.mem_filter.mpr ⟨hc, hi⟩)
  · simpa [hi] using h
set_option maxRecDepth 65536 in
theorem w_c0 : (Jvm.Cond.code x code maxLocals ret).before args0 about1 = true := code_word (m := ⟨1, 1⟩) (meth := k1m1) (c := k1c1) (by decide +kernel) rfl rfl rfl (by decide +kernel)
set_option maxRecDepth 65536 in
theorem w_c1 : (Jvm.Cond.code ({ cls := "com/example/sira/sira/wire/MessageProperties", name := "<init>", desc := "()V" } : Jvm.MethodName) prog_44_method_1_code (1 : Nat) (Option.none : Option Jvm.ClassFile.FieldType)).before args0 about1 = true := code_word (m := ⟨2, 0⟩) (meth := k2m0) (c := k2c0) (by decide +kernel) rfl rfl rfl (by decide +kernel)
set_option maxRecDepth 65536 in
theorem w_c2 : (Jvm.Cond.code ({ cls := "java/lang/Object", name := "<init>", desc := "()V" } : Jvm.MethodName) object_method_1_code (1 : Nat) (Option.none : Option Jvm.ClassFile.FieldType)).before args0 about1 = true := code_word (m := ⟨0, 0⟩) (meth := k0m0) (c := k0c0) (by decide +kernel) rfl rfl rfl (by decide +kernel)
set_option maxRecDepth 65536 in
theorem w_c3 : (Jvm.Cond.code ({ cls := "com/example/sira/sira/wire/DeliveryReceipt", name := "<init>", desc := "(Ljava/time/Instant;Ljava/lang/String;)V" } : Jvm.MethodName) prog_42_method_1_code (3 : Nat) (Option.none : Option Jvm.ClassFile.FieldType)).before args0 about1 = true := code_word (m := ⟨9, 0⟩) (meth := k9m0) (c := k9c0) (by decide +kernel) rfl rfl rfl (by decide +kernel)
set_option maxRecDepth 65536 in
theorem w_c4 : (Jvm.Cond.code ({ cls := "com/example/sira/sira/wire/CommitmentReceipt", name := "<init>", desc := "(Ljava/time/Instant;ZLjava/lang/String;)V" } : Jvm.MethodName) prog_38_method_1_code (4 : Nat) (Option.none : Option Jvm.ClassFile.FieldType)).before args0 about1 = true := code_word (m := ⟨10, 0⟩) (meth := k10m0) (c := k10c0) (by decide +kernel) rfl rfl rfl (by decide +kernel)
set_option maxRecDepth 65536 in
theorem w_c5 : (Jvm.Cond.code ({ cls := "com/example/sira/sira/wire/MessageProperties", name := "isReceipt", desc := "()Z" } : Jvm.MethodName) prog_44_method_42_code (1 : Nat) (Option.some Jvm.ClassFile.FieldType.boolean)).before args0 about1 = true := code_word (m := ⟨2, 3⟩) (meth := k2m3) (c := k2c3) (by decide +kernel) rfl rfl rfl (by decide +kernel)
set_option maxRecDepth 65536 in
theorem w_c6 : (Jvm.Cond.code ({ cls := "com/example/sira/sira/wire/MessageProperties", name := "setDeliveryReceipt", desc := "(Lcom/example/sira/sira/wire/DeliveryReceipt;)V" } : Jvm.MethodName) prog_44_method_39_code (2 : Nat) (Option.none : Option Jvm.ClassFile.FieldType)).before args0 about1 = true := code_word (m := ⟨2, 1⟩) (meth := k2m1) (c := k2c1) (by decide +kernel) rfl rfl rfl (by decide +kernel)
set_option maxRecDepth 65536 in
theorem w_c7 : (Jvm.Cond.code ({ cls := "com/example/sira/sira/wire/MessageProperties", name := "setCommitmentReceipt", desc := "(Lcom/example/sira/sira/wire/CommitmentReceipt;)V" } : Jvm.MethodName) prog_44_method_41_code (2 : Nat) (Option.none : Option Jvm.ClassFile.FieldType)).before args0 about1 = true := code_word (m := ⟨2, 2⟩) (meth := k2m2) (c := k2c2) (by decide +kernel) rfl rfl rfl (by decide +kernel)
def codes1 : List Jvm.Cond := [Jvm.Cond.code x code maxLocals ret, Jvm.Cond.code ({ cls := "com/example/sira/sira/wire/MessageProperties", name := "<init>", desc := "()V" } : Jvm.MethodName) prog_44_method_1_code (1 : Nat) (Option.none : Option Jvm.ClassFile.FieldType), Jvm.Cond.code ({ cls := "java/lang/Object", name := "<init>", desc := "()V" } : Jvm.MethodName) object_method_1_code (1 : Nat) (Option.none : Option Jvm.ClassFile.FieldType), Jvm.Cond.code ({ cls := "com/example/sira/sira/wire/DeliveryReceipt", name := "<init>", desc := "(Ljava/time/Instant;Ljava/lang/String;)V" } : Jvm.MethodName) prog_42_method_1_code (3 : Nat) (Option.none : Option Jvm.ClassFile.FieldType), Jvm.Cond.code ({ cls := "com/example/sira/sira/wire/CommitmentReceipt", name := "<init>", desc := "(Ljava/time/Instant;ZLjava/lang/String;)V" } : Jvm.MethodName) prog_38_method_1_code (4 : Nat) (Option.none : Option Jvm.ClassFile.FieldType), Jvm.Cond.code ({ cls := "com/example/sira/sira/wire/MessageProperties", name := "isReceipt", desc := "()Z" } : Jvm.MethodName) prog_44_method_42_code (1 : Nat) (Option.some Jvm.ClassFile.FieldType.boolean), Jvm.Cond.code ({ cls := "com/example/sira/sira/wire/MessageProperties", name := "setDeliveryReceipt", desc := "(Lcom/example/sira/sira/wire/DeliveryReceipt;)V" } : Jvm.MethodName) prog_44_method_39_code (2 : Nat) (Option.none : Option Jvm.ClassFile.FieldType), Jvm.Cond.code ({ cls := "com/example/sira/sira/wire/MessageProperties", name := "setCommitmentReceipt", desc := "(Lcom/example/sira/sira/wire/CommitmentReceipt;)V" } : Jvm.MethodName) prog_44_method_41_code (2 : Nat) (Option.none : Option Jvm.ClassFile.FieldType)]
set_option maxRecDepth 65536 in
theorem codes_eq : words1.filter isCode = codes1 := rfl
theorem w_codes : ∀ c ∈ words1.filter isCode, c.before args0 about1 = true := by
  rw [codes_eq]
  intro c hc
  simp only [codes1, List.mem_cons, List.not_mem_nil, or_false] at hc
  rcases hc with rfl | rfl | rfl | rfl | rfl | rfl | rfl | rfl
  · exact w_c0
  · exact w_c1
  · exact w_c2
  · exact w_c3
  · exact w_c4
  · exact w_c5
  · exact w_c6
  · exact w_c7
set_option maxRecDepth 65536 in
theorem w_t1 : (words1.take 24).all (fun c => isCode c || c.before args0 about1) = true := by decide +kernel
set_option maxRecDepth 65536 in
theorem w_t2 : ((words1.drop 24).take 24).all (fun c => isCode c || c.before args0 about1) = true := by decide +kernel
set_option maxRecDepth 65536 in
theorem w_t3 : (((words1.drop 24).drop 24).take 24).all (fun c => isCode c || c.before args0 about1) = true := by decide +kernel
set_option maxRecDepth 65536 in
theorem w_t4 : (((words1.drop 24).drop 24).drop 24).all (fun c => isCode c || c.before args0 about1) = true := by decide +kernel
theorem w_tables : (allAtoms (Jvm.Cond.code x code maxLocals ret :: tables_1)).before args0 about1 = true := by
  rw [allAtoms_all]
  show words1.all (fun c => c.before args0 about1) = true
  refine all_split ?_ w_codes
  rw [← List.take_append_drop 24 words1, List.all_append, w_t1, ← List.take_append_drop 24 (words1.drop 24), List.all_append, w_t2, ← List.take_append_drop 24 ((words1.drop 24).drop 24), List.all_append, w_t3, w_t4]
  rfl
set_option maxRecDepth 65536 in
theorem w_case : (Jvm.Cond.and given_1 narrow_1).before args0 about1 = true := by decide +kernel
theorem w_applies : (headSpec (Jvm.Cond.code x code maxLocals ret :: tables_1) room_1).applies x e0.platform about1 = true :=
  (Spec.applies_iff w_frames).mpr ⟨w_running, w_runnable, w_alone, w_named, w_hears, w_ripe, w_room, w_tables⟩
theorem atStart : AtStart classFile x code maxLocals ret World_1 tables_1 room_1 Calls_1 rest_1 Pre_1 launch0 p0 e0 about1 theMethod args0 below0 :=
  ⟨lists_1, trivial, launch0.admits_env _ _ _, launch0.least_env, fairChoices_fair.cas, fairChoices_fair.clock, w_frames, w_args, w_heap, w_applies, trivial, trivial, w_case⟩
end start1
theorem witness_1 : WitnessClaimed_1 := ⟨start1.p0, start1.e0, start1.about1, start1.theMethod, start1.args0, start1.below0, start1.atStart⟩
end Jvm.Pilot.@@N@@
