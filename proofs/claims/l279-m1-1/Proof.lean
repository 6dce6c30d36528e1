import JvmDerived
import JvmDerived.Pilot.@@N@@Statement
import JvmDerived.Pilot.@@N@@Code
set_option linter.unusedVariables false
set_option linter.unusedSimpArgs false
namespace Jvm.RoadKit
open Sem ClassFile Op Lib Jvm.Stand Jvm.Free Jvm.LawKit
section New
variable {p : Program} {l : Launch} {e : Env} {R : Room} {s : State} {m : MethodId} {args : Array Value} {below : List Frame} {meth : Method} {c : Code} {T : State} {locs : List Loc} {cells slots : Nat}
theorem retI (X : Stand p l e R s m args below meth c T locs cells slots) (hx : p.tables.exec = Jvm.exec) {pc : Nat} {Ls : Array Slot} {z : Int32} {rest : List Value} (hret : meth.sig.returnType = some .int) (hd : decode c.code pc = .ok (.ireturn, 1)) {fs : List Frame}
    (hl : ∀ (f : JFrame) (acts : List Action), f.method = m → f.locked = none → f.entered = [] → (doReturn e (T.setTop f) acts (some (.int z))).1 = T.setFrames fs) : Steps p.tables e below (T.setTop (mkF m pc Ls (.int z :: rest))) (T.setFrames fs) := by
  have hm' : T.vm.method? m = some meth := X.method'
  have hn : narrow .int (.int z) = .int z := rfl
  show Steps p.tables e below (T.setTop { method := m, pc := pc, locals := Ls, stack := _ :: rest, locked := none }) _
  jvm_step X.here [X.here.top, hx, hd, hm', hret, hn]
  first | (intro acts; rw [hl _ acts rfl rfl rfl]) | rw [hl _ _ rfl rfl rfl]
  exact Steps.refl _
end New
end Jvm.RoadKit
namespace Jvm.Pilot.@@N@@
open Jvm Jvm.ClassFile Sem Op Lib Jvm.Free Jvm.Stand Jvm.LawKit Jvm.RoadKit Bundle Jvm.Pilot.@@N@@.Jvm.D
theorem own_go {tb : Tables} {e : Env} {below : List Frame} {A B : State} {R : State → Outcome → Prop} (h : ∀ t, Steps tb e below B t → Steps tb e below A t) (k : ∃ s₂ o, Steps tb e below B s₂ ∧ R s₂ o) : ∃ s₂ o, Steps tb e below A s₂ ∧ R s₂ o := by
  obtain ⟨s₂, o, h1, h2⟩ := k
  exact ⟨s₂, o, h _ h1, h2⟩
theorem own_pd0 : parseMethodDescriptor "(III)B" = some ⟨[.int, .int, .int], some .byte⟩ := by decide +kernel
theorem own_pd1 : parseMethodDescriptor "(I)Z" = some ⟨[.int], some .boolean⟩ := by decide +kernel
def own_mb (u1 : Int32) (u2 : Int32) (u3 : Int32) : Int32 := (nar .byte ((((97 : Int64) + ((((u1 + u2).toInt64) + ((u3.toInt64) * (((1 : Int32) + (u1 % (25 : Int32))).toInt64))) - ((((u1 + u2).toInt64) + ((u3.toInt64) * (((1 : Int32) + (u1 % (25 : Int32))).toInt64))) / (26 : Int64)) * (26 : Int64))).toInt32).toInt8.toInt32))
theorem pn_1 : plainName "com/example/charon/charon/example/EchoClient" = true := by first | (simp [plainName, overriddenIn]; done) | decide +kernel
theorem d1_0 : decode prog_40_method_3_code 0 = .ok (.iconst 1, 1) := by decide +kernel
theorem d1_1 : decode prog_40_method_3_code 1 = .ok (.iload_n 0, 1) := by decide +kernel
theorem d1_2 : decode prog_40_method_3_code 2 = .ok (.bipush 25, 2) := by decide +kernel
theorem d1_4 : decode prog_40_method_3_code 4 = .ok (.irem, 1) := by decide +kernel
theorem d1_5 : decode prog_40_method_3_code 5 = .ok (.iadd, 1) := by decide +kernel
theorem d1_6 : decode prog_40_method_3_code 6 = .ok (.i2l, 1) := by decide +kernel
theorem d1_7 : decode prog_40_method_3_code 7 = .ok (.lstore_n 3, 1) := by decide +kernel
theorem d1_8 : decode prog_40_method_3_code 8 = .ok (.ldc2_w 223, 3) := by decide +kernel
theorem d1_11 : decode prog_40_method_3_code 11 = .ok (.iload_n 0, 1) := by decide +kernel
theorem d1_12 : decode prog_40_method_3_code 12 = .ok (.iload_n 1, 1) := by decide +kernel
theorem d1_13 : decode prog_40_method_3_code 13 = .ok (.iadd, 1) := by decide +kernel
theorem d1_14 : decode prog_40_method_3_code 14 = .ok (.i2l, 1) := by decide +kernel
theorem d1_15 : decode prog_40_method_3_code 15 = .ok (.iload_n 2, 1) := by decide +kernel
theorem d1_16 : decode prog_40_method_3_code 16 = .ok (.i2l, 1) := by decide +kernel
theorem d1_17 : decode prog_40_method_3_code 17 = .ok (.lload_n 3, 1) := by decide +kernel
theorem d1_18 : decode prog_40_method_3_code 18 = .ok (.lmul, 1) := by decide +kernel
theorem d1_19 : decode prog_40_method_3_code 19 = .ok (.ladd, 1) := by decide +kernel
theorem d1_20 : decode prog_40_method_3_code 20 = .ok (.ldc2_w 225, 3) := by decide +kernel
theorem d1_23 : decode prog_40_method_3_code 23 = .ok (.lrem, 1) := by decide +kernel
theorem d1_24 : decode prog_40_method_3_code 24 = .ok (.ladd, 1) := by decide +kernel
theorem d1_25 : decode prog_40_method_3_code 25 = .ok (.l2i, 1) := by decide +kernel
theorem d1_26 : decode prog_40_method_3_code 26 = .ok (.i2b, 1) := by decide +kernel
theorem d1_27 : decode prog_40_method_3_code 27 = .ok (.ireturn, 1) := by decide +kernel
theorem ef_1 (m : MethodId) (x0 : Int32) (x1 : Int32) (x2 : Int32) : entryFrame m #[(.int x0), (.int x1), (.int x2)] 5 = mkF m 0 #[.val (.int x0), .val (.int x1), .val (.int x2), .unset, .unset] [] := by first | (simp [entryFrame, mkF, argsToLocals, Value.category]; done) | rfl
def Q1 (Z : State) (u1 : Int32) (u2 : Int32) (u3 : Int32) (h0 : Heap) (n0 : Nat) (v : Option Value) (h : Heap) (L : List Loc) : Prop := v = some (.int (own_mb u1 u2 u3)) ∧ Fr n0 L ∧ h = h0
set_option maxRecDepth 65536 in
set_option maxHeartbeats 40000000 in
theorem rm1 (l : Launch) (Z : State) (a0 : Array Value) (hw : ∀ d ∈ tables_1, d.before a0 Z = true) (ws : List Jvm.Cond) (u1 : Int32) (u2 : Int32) (u3 : Int32) (h0 : Heap) (n0 : Nat) (Z0 : n0 ≤ h0.size) :
    MetFree l (⟨"com/example/charon/charon/example/EchoClient", "messageByte", "(III)B"⟩ : MethodName) (head1 (Jvm.Cond.code (⟨"com/example/charon/charon/example/EchoClient", "messageByte", "(III)B"⟩ : MethodName) prog_40_method_3_code 5 (some .byte) :: ws) ({ frames := 0, cells := 0, slots := 0, locals := 0 } : Room)) (fun a U => a = #[(.int u1), (.int u2), (.int u3)] ∧ Z.Warmed39 U.vm ∧ U.heap = h0) (fun _ _ _ _ _ => True) (fun _ U o U' => ∃ v L, o = .returned v ∧ Q1 Z u1 u2 u3 h0 n0 v U'.heap L ∧ FrameEnd U o U' L ({ frames := 0, cells := 0, slots := 0, locals := 0 } : Room).cells ({ frames := 0, cells := 0, slots := 0, locals := 0 } : Room).slots) := by
  refine MetFree.of_bodySF (plainFor_of_name pn_1) hisR ?_
  intro p e s m args below meth c s₁ Bd hml0 hP hK
  obtain ⟨rfl, hZ, hh⟩ := hP
  have hx := Bd.exec
  have hby := Bd.bytes
  have hml : c.maxLocals = 5 := hml0
  have hown : s.vm.findClass "com/example/charon/charon/example/EchoClient" = some m.cls := findClass_of_methodNamed Bd.named
  have hnm := (name_of_methodNamed Bd.named Bd.method).1
  have X0 : Stand p l e ({ frames := 0, cells := 0, slots := 0, locals := 0 } : Room) s m #[(.int u1), (.int u2), (.int u3)] below meth c s₁ [] 0 0 := Stand.of_body Bd
  have e0 : s₁.heap = h0 := by rw [← hh, Bd.state]; rfl
  have N0 := Fr.nil n0
  refine own_go (B := s₁.setTop (mkF m 0 #[.val (.int u1), .val (.int u2), .val (.int u3), .unset, .unset] [])) (fun t k => castTop (ef_1 m u1 u2 u3) k) ?_
  obtain ⟨fs, hr, hrun, hended, hW, hsame⟩ := X0.leave (v := some (.int (nar .byte ((((97 : Int64) + ((((u1 + u2).toInt64) + ((u3.toInt64) * (((1 : Int32) + (u1 % (25 : Int32))).toInt64))) - ((((u1 + u2).toInt64) + ((u3.toInt64) * (((1 : Int32) + (u1 % (25 : Int32))).toInt64))) / (26 : Int64)) * (26 : Int64))).toInt32).toInt8.toInt32)))) (fun h => by rw [Bd.returns] at h; cases h)
  refine ⟨_, _, ?_, hrun, hended, _, _, rfl, ?_, ⟨_, rfl⟩, hW, hsame.mono (by decide) (by decide)⟩
  · show Steps p.tables e below (s₁.setTop (mkF m 0 #[.val (.int u1), .val (.int u2), .val (.int u3), .unset, .unset] [])) _
    refine XS.iconst X0.here hx rfl (hb hby d1_0) ?_
    show Steps p.tables e below (s₁.setTop (mkF m 1 #[.val (.int u1), .val (.int u2), .val (.int u3), .unset, .unset] [(.int (1 : Int32))])) _
    refine XS.iloadN X0.here hx rfl (hb hby d1_1) rfl ?_
    show Steps p.tables e below (s₁.setTop (mkF m 2 #[.val (.int u1), .val (.int u2), .val (.int u3), .unset, .unset] [(.int u1), (.int (1 : Int32))])) _
    refine XS.bipush X0.here hx rfl (hb hby d1_2) ?_
    show Steps p.tables e below (s₁.setTop (mkF m 4 #[.val (.int u1), .val (.int u2), .val (.int u3), .unset, .unset] [(.int (25 : Int32)), (.int u1), (.int (1 : Int32))])) _
    refine iremM X0 hx rfl (hb hby d1_4) rfl (by decide) ?_
    show Steps p.tables e below (s₁.setTop (mkF m 5 #[.val (.int u1), .val (.int u2), .val (.int u3), .unset, .unset] [(.int (u1 % (25 : Int32))), (.int (1 : Int32))])) _
    refine XS.iadd X0.here hx rfl (hb hby d1_5) rfl ?_
    show Steps p.tables e below (s₁.setTop (mkF m 6 #[.val (.int u1), .val (.int u2), .val (.int u3), .unset, .unset] [(.int ((1 : Int32) + (u1 % (25 : Int32))))])) _
    refine XS.i2l X0.here hx rfl (hb hby d1_6) rfl ?_
    show Steps p.tables e below (s₁.setTop (mkF m 7 #[.val (.int u1), .val (.int u2), .val (.int u3), .unset, .unset] [(.long (((1 : Int32) + (u1 % (25 : Int32))).toInt64))])) _
    refine XS.lstoreN X0.here hx rfl (hb hby d1_7) rfl (l' := #[.val (.int u1), .val (.int u2), .val (.int u3), .val (.long (((1 : Int32) + (u1 % (25 : Int32))).toInt64)), .second]) rfl ?_
    show Steps p.tables e below (s₁.setTop (mkF m 8 #[.val (.int u1), .val (.int u2), .val (.int u3), .val (.long (((1 : Int32) + (u1 % (25 : Int32))).toInt64)), .second] [])) _
    refine X0.ldc2Long hx hown (mvT hZ (hw _ (List.mem_of_getElem? (i := 5) rfl))) (g := (mkF m 8 #[.val (.int u1), .val (.int u2), .val (.int u3), .val (.long (((1 : Int32) + (u1 % (25 : Int32))).toInt64)), .second] [])) rfl (hb hby d1_8) _ ?_
    show Steps p.tables e below (s₁.setTop (mkF m 11 #[.val (.int u1), .val (.int u2), .val (.int u3), .val (.long (((1 : Int32) + (u1 % (25 : Int32))).toInt64)), .second] [(.long (97 : Int64))])) _
    refine XS.iloadN X0.here hx rfl (hb hby d1_11) rfl ?_
    show Steps p.tables e below (s₁.setTop (mkF m 12 #[.val (.int u1), .val (.int u2), .val (.int u3), .val (.long (((1 : Int32) + (u1 % (25 : Int32))).toInt64)), .second] [(.int u1), (.long (97 : Int64))])) _
    refine XS.iloadN X0.here hx rfl (hb hby d1_12) rfl ?_
    show Steps p.tables e below (s₁.setTop (mkF m 13 #[.val (.int u1), .val (.int u2), .val (.int u3), .val (.long (((1 : Int32) + (u1 % (25 : Int32))).toInt64)), .second] [(.int u2), (.int u1), (.long (97 : Int64))])) _
    refine XS.iadd X0.here hx rfl (hb hby d1_13) rfl ?_
    show Steps p.tables e below (s₁.setTop (mkF m 14 #[.val (.int u1), .val (.int u2), .val (.int u3), .val (.long (((1 : Int32) + (u1 % (25 : Int32))).toInt64)), .second] [(.int (u1 + u2)), (.long (97 : Int64))])) _
    refine XS.i2l X0.here hx rfl (hb hby d1_14) rfl ?_
    show Steps p.tables e below (s₁.setTop (mkF m 15 #[.val (.int u1), .val (.int u2), .val (.int u3), .val (.long (((1 : Int32) + (u1 % (25 : Int32))).toInt64)), .second] [(.long ((u1 + u2).toInt64)), (.long (97 : Int64))])) _
    refine XS.iloadN X0.here hx rfl (hb hby d1_15) rfl ?_
    show Steps p.tables e below (s₁.setTop (mkF m 16 #[.val (.int u1), .val (.int u2), .val (.int u3), .val (.long (((1 : Int32) + (u1 % (25 : Int32))).toInt64)), .second] [(.int u3), (.long ((u1 + u2).toInt64)), (.long (97 : Int64))])) _
    refine XS.i2l X0.here hx rfl (hb hby d1_16) rfl ?_
    show Steps p.tables e below (s₁.setTop (mkF m 17 #[.val (.int u1), .val (.int u2), .val (.int u3), .val (.long (((1 : Int32) + (u1 % (25 : Int32))).toInt64)), .second] [(.long (u3.toInt64)), (.long ((u1 + u2).toInt64)), (.long (97 : Int64))])) _
    refine XS.lloadN X0.here hx rfl (hb hby d1_17) rfl ?_
    show Steps p.tables e below (s₁.setTop (mkF m 18 #[.val (.int u1), .val (.int u2), .val (.int u3), .val (.long (((1 : Int32) + (u1 % (25 : Int32))).toInt64)), .second] [(.long (((1 : Int32) + (u1 % (25 : Int32))).toInt64)), (.long (u3.toInt64)), (.long ((u1 + u2).toInt64)), (.long (97 : Int64))])) _
    refine XS.lmul X0.here hx rfl (hb hby d1_18) rfl ?_
    show Steps p.tables e below (s₁.setTop (mkF m 19 #[.val (.int u1), .val (.int u2), .val (.int u3), .val (.long (((1 : Int32) + (u1 % (25 : Int32))).toInt64)), .second] [(.long ((u3.toInt64) * (((1 : Int32) + (u1 % (25 : Int32))).toInt64))), (.long ((u1 + u2).toInt64)), (.long (97 : Int64))])) _
    refine XS.ladd X0.here hx rfl (hb hby d1_19) rfl ?_
    show Steps p.tables e below (s₁.setTop (mkF m 20 #[.val (.int u1), .val (.int u2), .val (.int u3), .val (.long (((1 : Int32) + (u1 % (25 : Int32))).toInt64)), .second] [(.long (((u1 + u2).toInt64) + ((u3.toInt64) * (((1 : Int32) + (u1 % (25 : Int32))).toInt64)))), (.long (97 : Int64))])) _
    refine X0.ldc2Long hx hown (mvT hZ (hw _ (List.mem_of_getElem? (i := 6) rfl))) (g := (mkF m 20 #[.val (.int u1), .val (.int u2), .val (.int u3), .val (.long (((1 : Int32) + (u1 % (25 : Int32))).toInt64)), .second] [(.long (((u1 + u2).toInt64) + ((u3.toInt64) * (((1 : Int32) + (u1 % (25 : Int32))).toInt64)))), (.long (97 : Int64))])) rfl (hb hby d1_20) _ ?_
    show Steps p.tables e below (s₁.setTop (mkF m 23 #[.val (.int u1), .val (.int u2), .val (.int u3), .val (.long (((1 : Int32) + (u1 % (25 : Int32))).toInt64)), .second] [(.long (26 : Int64)), (.long (((u1 + u2).toInt64) + ((u3.toInt64) * (((1 : Int32) + (u1 % (25 : Int32))).toInt64)))), (.long (97 : Int64))])) _
    refine XS.lrem X0.here hx rfl (hb hby d1_23) rfl (by decide) ?_
    show Steps p.tables e below (s₁.setTop (mkF m 24 #[.val (.int u1), .val (.int u2), .val (.int u3), .val (.long (((1 : Int32) + (u1 % (25 : Int32))).toInt64)), .second] [(.long ((((u1 + u2).toInt64) + ((u3.toInt64) * (((1 : Int32) + (u1 % (25 : Int32))).toInt64))) - ((((u1 + u2).toInt64) + ((u3.toInt64) * (((1 : Int32) + (u1 % (25 : Int32))).toInt64))) / (26 : Int64)) * (26 : Int64))), (.long (97 : Int64))])) _
    refine XS.ladd X0.here hx rfl (hb hby d1_24) rfl ?_
    show Steps p.tables e below (s₁.setTop (mkF m 25 #[.val (.int u1), .val (.int u2), .val (.int u3), .val (.long (((1 : Int32) + (u1 % (25 : Int32))).toInt64)), .second] [(.long ((97 : Int64) + ((((u1 + u2).toInt64) + ((u3.toInt64) * (((1 : Int32) + (u1 % (25 : Int32))).toInt64))) - ((((u1 + u2).toInt64) + ((u3.toInt64) * (((1 : Int32) + (u1 % (25 : Int32))).toInt64))) / (26 : Int64)) * (26 : Int64))))])) _
    refine XS.l2i X0.here hx rfl (hb hby d1_25) rfl ?_
    show Steps p.tables e below (s₁.setTop (mkF m 26 #[.val (.int u1), .val (.int u2), .val (.int u3), .val (.long (((1 : Int32) + (u1 % (25 : Int32))).toInt64)), .second] [(.int (((97 : Int64) + ((((u1 + u2).toInt64) + ((u3.toInt64) * (((1 : Int32) + (u1 % (25 : Int32))).toInt64))) - ((((u1 + u2).toInt64) + ((u3.toInt64) * (((1 : Int32) + (u1 % (25 : Int32))).toInt64))) / (26 : Int64)) * (26 : Int64))).toInt32))])) _
    refine XS.i2b X0.here hx rfl (hb hby d1_26) rfl ?_
    show Steps p.tables e below (s₁.setTop (mkF m 27 #[.val (.int u1), .val (.int u2), .val (.int u3), .val (.long (((1 : Int32) + (u1 % (25 : Int32))).toInt64)), .second] [(.int ((((97 : Int64) + ((((u1 + u2).toInt64) + ((u3.toInt64) * (((1 : Int32) + (u1 % (25 : Int32))).toInt64))) - ((((u1 + u2).toInt64) + ((u3.toInt64) * (((1 : Int32) + (u1 % (25 : Int32))).toInt64))) / (26 : Int64)) * (26 : Int64))).toInt32).toInt8.toInt32))])) _
    exact retN X0 hx (t := .byte) Bd.returns (by simp) (hb hby d1_27) hr
  · show Q1 Z u1 u2 u3 h0 n0 _ s₁.heap _
    rw [e0]
    exact ⟨by rw [own_mb], N0, rfl⟩
def own_let (u1 : Int32) : Int32 := (if u1 < (97 : Int32) then (0 : Int32) else (if (122 : Int32) < u1 then (0 : Int32) else (1 : Int32)))
theorem pn_2 : plainName "com/example/charon/charon/example/EchoClientMessageBytePinLaw" = true := by first | (simp [plainName, overriddenIn]; done) | decide +kernel
theorem d2_0 : decode method_3_code 0 = .ok (.iload_n 0, 1) := by decide +kernel
theorem d2_1 : decode method_3_code 1 = .ok (.bipush 97, 2) := by decide +kernel
theorem d2_3 : decode method_3_code 3 = .ok (.if_icmp .lt 13, 3) := by decide +kernel
theorem d2_6 : decode method_3_code 6 = .ok (.iload_n 0, 1) := by decide +kernel
theorem d2_7 : decode method_3_code 7 = .ok (.bipush 122, 2) := by decide +kernel
theorem d2_9 : decode method_3_code 9 = .ok (.if_icmp .gt 7, 3) := by decide +kernel
theorem d2_12 : decode method_3_code 12 = .ok (.iconst 1, 1) := by decide +kernel
theorem d2_13 : decode method_3_code 13 = .ok (.goto 4, 3) := by decide +kernel
theorem d2_16 : decode method_3_code 16 = .ok (.iconst 0, 1) := by decide +kernel
theorem d2_17 : decode method_3_code 17 = .ok (.ireturn, 1) := by decide +kernel
theorem ef_2 (m : MethodId) (x0 : Int32) : entryFrame m #[(.int x0)] 1 = mkF m 0 #[.val (.int x0)] [] := by first | (simp [entryFrame, mkF, argsToLocals, Value.category]; done) | rfl
def Q2 (Z : State) (u1 : Int32) (h0 : Heap) (n0 : Nat) (v : Option Value) (h : Heap) (L : List Loc) : Prop := v = some (.int (own_let u1)) ∧ Fr n0 L ∧ h = h0
set_option maxRecDepth 65536 in
set_option maxHeartbeats 40000000 in
theorem rm2 (l : Launch) (Z : State) (a0 : Array Value) (hw : ∀ d ∈ tables_1, d.before a0 Z = true) (ws : List Jvm.Cond) (u1 : Int32) (h0 : Heap) (n0 : Nat) (Z0 : n0 ≤ h0.size) :
    MetFree l (⟨"com/example/charon/charon/example/EchoClientMessageBytePinLaw", "isLetter", "(I)Z"⟩ : MethodName) (head1 (Jvm.Cond.code (⟨"com/example/charon/charon/example/EchoClientMessageBytePinLaw", "isLetter", "(I)Z"⟩ : MethodName) method_3_code 1 (some .boolean) :: ws) ({ frames := 0, cells := 0, slots := 0, locals := 0 } : Room)) (fun a U => a = #[(.int u1)] ∧ Z.Warmed39 U.vm ∧ U.heap = h0) (fun _ _ _ _ _ => True) (fun _ U o U' => ∃ v L, o = .returned v ∧ Q2 Z u1 h0 n0 v U'.heap L ∧ FrameEnd U o U' L ({ frames := 0, cells := 0, slots := 0, locals := 0 } : Room).cells ({ frames := 0, cells := 0, slots := 0, locals := 0 } : Room).slots) := by
  refine MetFree.of_bodySF (plainFor_of_name pn_2) hisR ?_
  intro p e s m args below meth c s₁ Bd hml0 hP hK
  obtain ⟨rfl, hZ, hh⟩ := hP
  have hx := Bd.exec
  have hby := Bd.bytes
  have hml : c.maxLocals = 1 := hml0
  have hown : s.vm.findClass "com/example/charon/charon/example/EchoClientMessageBytePinLaw" = some m.cls := findClass_of_methodNamed Bd.named
  have hnm := (name_of_methodNamed Bd.named Bd.method).1
  have X0 : Stand p l e ({ frames := 0, cells := 0, slots := 0, locals := 0 } : Room) s m #[(.int u1)] below meth c s₁ [] 0 0 := Stand.of_body Bd
  have e0 : s₁.heap = h0 := by rw [← hh, Bd.state]; rfl
  have N0 := Fr.nil n0
  refine own_go (B := s₁.setTop (mkF m 0 #[.val (.int u1)] [])) (fun t k => castTop (ef_2 m u1) k) ?_
  refine own_go (B := s₁.setTop (mkF m 3 #[.val (.int u1)] [(.int (97 : Int32)), (.int u1)])) (fun t k => ?_) ?_
  · show Steps p.tables e below (s₁.setTop (mkF m 0 #[.val (.int u1)] [])) _
    refine XS.iloadN X0.here hx rfl (hb hby d2_0) rfl ?_
    show Steps p.tables e below (s₁.setTop (mkF m 1 #[.val (.int u1)] [(.int u1)])) _
    refine XS.bipush X0.here hx rfl (hb hby d2_1) ?_
    exact k
  by_cases hc3_1 : u1 < (97 : Int32)
  · obtain ⟨fs, hr, hrun, hended, hW, hsame⟩ := X0.leave (v := some (.int (0 : Int32))) (fun h => by rw [Bd.returns] at h; cases h)
    refine ⟨_, _, ?_, hrun, hended, _, _, rfl, ?_, ⟨_, rfl⟩, hW, hsame.mono (by decide) (by decide)⟩
    · show Steps p.tables e below (s₁.setTop (mkF m 3 #[.val (.int u1)] [(.int (97 : Int32)), (.int u1)])) _
      refine XS.icmpYes X0.here hx rfl (pc0 := 3) (pc' := 16) rfl (hb hby d2_3) rfl (tlt hc3_1).1 (by decide) (by decide) ?_
      show Steps p.tables e below (s₁.setTop (mkF m 16 #[.val (.int u1)] [])) _
      refine XS.iconst X0.here hx rfl (hb hby d2_16) ?_
      show Steps p.tables e below (s₁.setTop (mkF m 17 #[.val (.int u1)] [(.int (0 : Int32))])) _
      exact retN X0 hx (t := .boolean) Bd.returns (by simp) (hb hby d2_17) hr
    · show Q2 Z u1 h0 n0 _ s₁.heap _
      rw [e0]
      exact ⟨by rw [own_let, if_pos hc3_1], N0, rfl⟩
  · refine own_go (B := s₁.setTop (mkF m 9 #[.val (.int u1)] [(.int (122 : Int32)), (.int u1)])) (fun t k => ?_) ?_
    · show Steps p.tables e below (s₁.setTop (mkF m 3 #[.val (.int u1)] [(.int (97 : Int32)), (.int u1)])) _
      refine XS.icmpNo X0.here hx rfl (hb hby d2_3) rfl (flt hc3_1).1 ?_
      show Steps p.tables e below (s₁.setTop (mkF m 6 #[.val (.int u1)] [])) _
      refine XS.iloadN X0.here hx rfl (hb hby d2_6) rfl ?_
      show Steps p.tables e below (s₁.setTop (mkF m 7 #[.val (.int u1)] [(.int u1)])) _
      refine XS.bipush X0.here hx rfl (hb hby d2_7) ?_
      exact k
    by_cases hc9_2 : (122 : Int32) < u1
    · obtain ⟨fs, hr, hrun, hended, hW, hsame⟩ := X0.leave (v := some (.int (0 : Int32))) (fun h => by rw [Bd.returns] at h; cases h)
      refine ⟨_, _, ?_, hrun, hended, _, _, rfl, ?_, ⟨_, rfl⟩, hW, hsame.mono (by decide) (by decide)⟩
      · show Steps p.tables e below (s₁.setTop (mkF m 9 #[.val (.int u1)] [(.int (122 : Int32)), (.int u1)])) _
        refine XS.icmpYes X0.here hx rfl (pc0 := 9) (pc' := 16) rfl (hb hby d2_9) rfl (tlt hc9_2).2.2.1 (by decide) (by decide) ?_
        show Steps p.tables e below (s₁.setTop (mkF m 16 #[.val (.int u1)] [])) _
        refine XS.iconst X0.here hx rfl (hb hby d2_16) ?_
        show Steps p.tables e below (s₁.setTop (mkF m 17 #[.val (.int u1)] [(.int (0 : Int32))])) _
        exact retN X0 hx (t := .boolean) Bd.returns (by simp) (hb hby d2_17) hr
      · show Q2 Z u1 h0 n0 _ s₁.heap _
        rw [e0]
        exact ⟨by rw [own_let, if_neg hc3_1, if_pos hc9_2], N0, rfl⟩
    · obtain ⟨fs, hr, hrun, hended, hW, hsame⟩ := X0.leave (v := some (.int (1 : Int32))) (fun h => by rw [Bd.returns] at h; cases h)
      refine ⟨_, _, ?_, hrun, hended, _, _, rfl, ?_, ⟨_, rfl⟩, hW, hsame.mono (by decide) (by decide)⟩
      · show Steps p.tables e below (s₁.setTop (mkF m 9 #[.val (.int u1)] [(.int (122 : Int32)), (.int u1)])) _
        refine XS.icmpNo X0.here hx rfl (hb hby d2_9) rfl (flt hc9_2).2.2.1 ?_
        show Steps p.tables e below (s₁.setTop (mkF m 12 #[.val (.int u1)] [])) _
        refine XS.iconst X0.here hx rfl (hb hby d2_12) ?_
        show Steps p.tables e below (s₁.setTop (mkF m 13 #[.val (.int u1)] [(.int (1 : Int32))])) _
        refine XS.goto X0.here hx rfl (pc0 := 13) (pc' := 17) rfl (hb hby d2_13) (by decide) (by decide) ?_
        show Steps p.tables e below (s₁.setTop (mkF m 17 #[.val (.int u1)] [(.int (1 : Int32))])) _
        exact retN X0 hx (t := .boolean) Bd.returns (by simp) (hb hby d2_17) hr
      · show Q2 Z u1 h0 n0 _ s₁.heap _
        rw [e0]
        exact ⟨by rw [own_let, if_neg hc3_1, if_neg hc9_2], N0, rfl⟩
theorem own_mb_val (c m p : Int32) (hc : 0 ≤ c.toInt) (hm : 0 ≤ m.toInt) (hs : c.toInt + m.toInt ≤ 2147483647) (hp : 0 ≤ p.toInt) :
    (own_mb c m p).toInt = 97 + (c.toInt + m.toInt + p.toInt * (1 + c.toInt % 25)) % 26 := by
  have k1 : (1 : Int32).toInt = 1 := by decide
  have k97 : (97 : Int64).toInt = 97 := by decide
  have r1 := (c_irem c 25 25 (by decide)).1 hc
  have r2 := c_iadd 1 (c % 25)
  have r3 := rng32 (1 + c % 25)
  have r4 := rng32 c
  have r5 := rng32 m
  have r6 := rng32 p
  have s1 : ((1 : Int32) + c % 25).toInt = 1 + c.toInt % 25 := by omega
  have r7 := c_iadd c m
  have r8 := rng32 (c + m)
  have s2 : (c + m).toInt = c.toInt + m.toInt := by omega
  have i1 := c_i2l (c + m)
  have i2 := c_i2l p
  have i3 := c_i2l ((1 : Int32) + c % 25)
  have q1 := c_lmul p.toInt64 ((1 : Int32) + c % 25).toInt64
  have q2 := rng64 (p.toInt64 * ((1 : Int32) + c % 25).toInt64)
  have b1 : 0 ≤ p.toInt * (1 + c.toInt % 25) := Int.mul_nonneg hp (by omega)
  have b2 : p.toInt * (1 + c.toInt % 25) ≤ p.toInt * 25 := Int.mul_le_mul_of_nonneg_left (by omega) hp
  rw [i2, i3, s1] at q1
  have s3 : (p.toInt64 * ((1 : Int32) + c % 25).toInt64).toInt = p.toInt * (1 + c.toInt % 25) := by omega
  have q3 := c_ladd (c + m).toInt64 (p.toInt64 * ((1 : Int32) + c % 25).toInt64)
  have q4 := rng64 ((c + m).toInt64 + p.toInt64 * ((1 : Int32) + c % 25).toInt64)
  rw [i1, s2, s3] at q3
  have s4 : ((c + m).toInt64 + p.toInt64 * ((1 : Int32) + c % 25).toInt64).toInt = c.toInt + m.toInt + p.toInt * (1 + c.toInt % 25) := by omega
  have q5 := (c_lrem ((c + m).toInt64 + p.toInt64 * ((1 : Int32) + c % 25).toInt64) 26 26 (by decide)).1 (by omega)
  rw [s4] at q5
  unfold own_mb
  generalize ((c + m).toInt64 + p.toInt64 * ((1 : Int32) + c % 25).toInt64) = X at *
  generalize c.toInt + m.toInt + p.toInt * (1 + c.toInt % 25) = N at *
  have t1 := c_ladd 97 (X - (X / 26) * 26)
  have t2 := rng64 (97 + (X - (X / 26) * 26))
  have t3 := c_l2i (97 + (X - (X / 26) * 26))
  have t4 := rng32 (97 + (X - (X / 26) * 26)).toInt32
  have t5 := c_i2b (97 + (X - (X / 26) * 26)).toInt32
  have t6 := c_i2b (97 + (X - (X / 26) * 26)).toInt32.toInt8.toInt32
  show (97 + (X - (X / 26) * 26)).toInt32.toInt8.toInt32.toInt8.toInt32.toInt = _
  omega
theorem own_let1 (v : Int32) (h : 97 ≤ v.toInt) (h' : v.toInt ≤ 122) : ¬ own_let v = 0 := by
  have k97 : (97 : Int32).toInt = 97 := by decide
  have k122 : (122 : Int32).toInt = 122 := by decide
  have a1 : ¬ v < 97 := by rw [Int32.lt_iff_toInt_lt]; omega
  have a2 : ¬ (122 : Int32) < v := by rw [Int32.lt_iff_toInt_lt]; omega
  rw [own_let, if_neg a1, if_neg a2]
  decide
theorem own_mask (x : Int32) : (x &&& (2147483647 : Int32)).toInt = x.toInt % 2147483648 := c_mask x 2147483647 31 (by decide) (by decide)
theorem own_r1 (x : Int32) : 0 ≤ ((x &&& (2147483647 : Int32)) % (2147483647 : Int32)).toInt ∧ ((x &&& (2147483647 : Int32)) % (2147483647 : Int32)).toInt < 2147483647 := by
  have h1 := own_mask x
  have h2 := (c_irem (x &&& (2147483647 : Int32)) 2147483647 2147483647 (by decide)).1 (by omega)
  omega
theorem own_r2 (c x : Int32) (h : 0 ≤ c.toInt) (h' : c.toInt < 2147483647) : (2147483647 : Int32) - c ≠ 0 ∧ 0 ≤ ((x &&& (2147483647 : Int32)) % ((2147483647 : Int32) - c)).toInt ∧ c.toInt + ((x &&& (2147483647 : Int32)) % ((2147483647 : Int32) - c)).toInt + 1 ≤ 2147483647 := by
  have h1 := own_mask x
  have k : (2147483647 : Int32).toInt = 2147483647 := by decide
  have k0 : (0 : Int32).toInt = 0 := by decide
  have h3 := c_isub 2147483647 c
  have h4 := rng32 ((2147483647 : Int32) - c)
  have h5 : ((2147483647 : Int32) - c).toInt = 2147483647 - c.toInt := by omega
  have h6 := (c_iremV (x &&& (2147483647 : Int32)) ((2147483647 : Int32) - c)).1 (by omega) (by omega)
  refine ⟨fun q => ?_, by omega, by omega⟩
  rw [q] at h5
  omega
theorem own_succ (m : Int32) (h : m.toInt < 2147483647) : (m + 1).toInt = m.toInt + 1 := by
  have k : (1 : Int32).toInt = 1 := by decide
  have h3 := c_iadd m 1
  have h4 := rng32 (m + 1)
  have h5 := rng32 m
  omega
theorem own_next (c m p : Int32) (hc : 0 ≤ c.toInt) (hm : 0 ≤ m.toInt) (hs : c.toInt + m.toInt + 1 ≤ 2147483647) (hp : 0 ≤ p.toInt) :
    own_mb c (m + 1) p = if own_mb c m p = 122 then 97 else own_mb c m p + 1 := by
  have e1 := own_succ m (by omega)
  have v0 := own_mb_val c m p hc hm (by omega) hp
  have v1 := own_mb_val c (m + 1) p hc (by omega) (by omega) hp
  rw [e1] at v1
  generalize p.toInt * (1 + c.toInt % 25) = N at *
  apply Int32.toInt_inj.mp
  by_cases h : own_mb c m p = 122
  · rw [if_pos h]
    rw [h] at v0
    have k : (122 : Int32).toInt = 122 := by decide
    have k' : (97 : Int32).toInt = 97 := by decide
    omega
  · rw [if_neg h]
    have h2 : ¬ (own_mb c m p).toInt = 122 := fun q => h (Int32.toInt_inj.mp (by rw [q]; decide))
    have e2 := own_succ (own_mb c m p) (by omega)
    omega
theorem own_stepped (c m p : Int32) (hc : 0 ≤ c.toInt) (hm : 0 ≤ m.toInt) (hs : c.toInt + m.toInt + 1 ≤ 2147483647) (hp : 0 ≤ p.toInt) (hp' : p.toInt < 2147483647) :
    own_mb c m (p + 1) = 97 + ((own_mb c m p - 97) + (1 + c % 25)) % 26 := by
  have e1 := own_succ p (by omega)
  have v0 := own_mb_val c m p hc hm (by omega) hp
  have v1 := own_mb_val c m (p + 1) hc (by omega) (by omega) (by omega)
  rw [e1, Int.add_mul] at v1
  have k1 : (1 : Int32).toInt = 1 := by decide
  have k97 : (97 : Int32).toInt = 97 := by decide
  have r1 := (c_irem c 25 25 (by decide)).1 hc
  have r2 := c_iadd 1 (c % 25)
  have r3 := rng32 (1 + c % 25)
  have s1 : ((1 : Int32) + c % 25).toInt = 1 + c.toInt % 25 := by omega
  generalize p.toInt * (1 + c.toInt % 25) = N at *
  have t1 := c_isub (own_mb c m p) 97
  have t2 := rng32 (own_mb c m p - 97)
  have t3 := c_iadd (own_mb c m p - 97) (1 + c % 25)
  have t4 := rng32 ((own_mb c m p - 97) + (1 + c % 25))
  have t5 := (c_irem ((own_mb c m p - 97) + (1 + c % 25)) 26 26 (by decide)).1 (by omega)
  have t6 := c_iadd 97 (((own_mb c m p - 97) + (1 + c % 25)) % 26)
  have t7 := rng32 (97 + ((own_mb c m p - 97) + (1 + c % 25)) % 26)
  apply Int32.toInt_inj.mp
  omega
theorem own_rng (c m p : Int32) (hc : 0 ≤ c.toInt) (hm : 0 ≤ m.toInt) (hs : c.toInt + m.toInt ≤ 2147483647) (hp : 0 ≤ p.toInt) : 97 ≤ (own_mb c m p).toInt ∧ (own_mb c m p).toInt ≤ 122 := by
  have v0 := own_mb_val c m p hc hm hs hp
  generalize c.toInt + m.toInt + p.toInt * (1 + c.toInt % 25) = N at v0
  omega
theorem own_up (m : Int32) (h : 0 ≤ m.toInt) (h' : m.toInt < 2147483647) : 0 ≤ (m + 1).toInt ∧ (m + 1).toInt = m.toInt + 1 := by
  have e := own_succ m h'
  omega
theorem own_l0 (c m p : Int32) (R1 : 0 ≤ c.toInt ∧ c.toInt < 2147483647) (R2 : 0 ≤ m.toInt ∧ c.toInt + m.toInt + 1 ≤ 2147483647) (R3 : 0 ≤ p.toInt ∧ p.toInt < 2147483647) : ¬ own_let (own_mb c m p) = 0 := by
  have r := own_rng c m p R1.1 R2.1 (by omega) R3.1
  exact own_let1 _ r.1 r.2
theorem own_l1 (c m p : Int32) (R1 : 0 ≤ c.toInt ∧ c.toInt < 2147483647) (R2 : 0 ≤ m.toInt ∧ c.toInt + m.toInt + 1 ≤ 2147483647) (R3 : 0 ≤ p.toInt ∧ p.toInt < 2147483647) : ¬ own_let (own_mb c (m + 1) p) = 0 := by
  have u := own_up m R2.1 (by omega)
  have r := own_rng c (m + 1) p R1.1 u.1 (by omega) R3.1
  exact own_let1 _ r.1 r.2
theorem own_l2 (c m p : Int32) (R1 : 0 ≤ c.toInt ∧ c.toInt < 2147483647) (R2 : 0 ≤ m.toInt ∧ c.toInt + m.toInt + 1 ≤ 2147483647) (R3 : 0 ≤ p.toInt ∧ p.toInt < 2147483647) : ¬ own_let (own_mb c m (p + 1)) = 0 := by
  have u := own_up p R3.1 (by omega)
  have r := own_rng c m (p + 1) R1.1 R2.1 (by omega) u.1
  exact own_let1 _ r.1 r.2
theorem pn_0 : plainName "com/example/charon/charon/example/EchoClientMessageBytePinLaw" = true := by first | (simp [plainName, overriddenIn]; done) | decide +kernel
theorem ef_0 (m : MethodId) (x0 : Int32) (x1 : Int32) (x2 : Int32) : entryFrame m #[(.int x0), (.int x1), (.int x2)] maxLocals = mkF m 0 #[.val (.int x0), .val (.int x1), .val (.int x2), .unset, .unset, .unset, .unset, .unset, .unset, .unset, .unset, .unset, .unset] [] := by first | (simp [entryFrame, mkF, argsToLocals, Value.category, maxLocals]; done) | rfl
def Q0 (Z : State) (p1 : Int32) (p2 : Int32) (p3 : Int32) (h0 : Heap) (n0 : Nat) (v : Option Value) (h : Heap) (L : List Loc) : Prop := v = some (.int 1) ∧ Fr n0 L
set_option maxRecDepth 65536 in
set_option maxHeartbeats 40000000 in
theorem rm0 (l : Launch) (Z : State) (a0 : Array Value) (hw : ∀ d ∈ tables_1, d.before a0 Z = true) (ws : List Jvm.Cond) (p1 : Int32) (p2 : Int32) (p3 : Int32) (h0 : Heap) (n0 : Nat) (Z0 : n0 ≤ h0.size) :
    MetFree l x (head1 (Jvm.Cond.code x code maxLocals ret :: ws) room_1) (fun a U => a = #[(.int p1), (.int p2), (.int p3)] ∧ Z.Warmed39 U.vm ∧ U.heap = h0) (fun _ _ _ _ _ => True) (fun _ U o U' => ∃ v L, o = .returned v ∧ Q0 Z p1 p2 p3 h0 n0 v U'.heap L ∧ FrameEnd U o U' L room_1.cells room_1.slots) := by
  refine MetFree.of_bodySF (plainFor_of_name pn_0) hisR ?_
  intro p e s m args below meth c s₁ Bd hml0 hP hK
  obtain ⟨rfl, hZ, hh⟩ := hP
  have hx := Bd.exec
  have hby := Bd.bytes
  have hml : c.maxLocals = 13 := hml0
  have hown : s.vm.findClass "com/example/charon/charon/example/EchoClientMessageBytePinLaw" = some m.cls := findClass_of_methodNamed Bd.named
  have hnm := (name_of_methodNamed Bd.named Bd.method).1
  have X0 : Stand p l e room_1 s m #[(.int p1), (.int p2), (.int p3)] below meth c s₁ [] 0 0 := Stand.of_body Bd
  have e0 : s₁.heap = h0 := by rw [← hh, Bd.state]; rfl
  have N0 := Fr.nil n0
  refine own_go (B := s₁.setTop (mkF m 0 #[.val (.int p1), .val (.int p2), .val (.int p3), .unset, .unset, .unset, .unset, .unset, .unset, .unset, .unset, .unset, .unset] [])) (fun t k => castTop (ef_0 m p1 p2 p3) k) ?_
  refine own_go (B := s₁.setTop (mkF m 11 #[.val (.int p1), .val (.int p2), .val (.int p3), .val (.int (2147483647 : Int32)), .val (.int ((p1 &&& (2147483647 : Int32)) % (2147483647 : Int32))), .unset, .unset, .unset, .unset, .unset, .unset, .unset, .unset] [])) (fun t k => ?_) ?_
  · show Steps p.tables e below (s₁.setTop (mkF m 0 #[.val (.int p1), .val (.int p2), .val (.int p3), .unset, .unset, .unset, .unset, .unset, .unset, .unset, .unset, .unset, .unset] [])) _
    refine X0.ldcInt hx hown (mvT hZ (hw _ (List.mem_of_getElem? (i := 0) rfl))) (g := (mkF m 0 #[.val (.int p1), .val (.int p2), .val (.int p3), .unset, .unset, .unset, .unset, .unset, .unset, .unset, .unset, .unset, .unset] [])) rfl (hb hby at_0) _ ?_
    show Steps p.tables e below (s₁.setTop (mkF m 2 #[.val (.int p1), .val (.int p2), .val (.int p3), .unset, .unset, .unset, .unset, .unset, .unset, .unset, .unset, .unset, .unset] [(.int (2147483647 : Int32))])) _
    refine XS.istoreN X0.here hx rfl (hb hby at_2) rfl (l' := #[.val (.int p1), .val (.int p2), .val (.int p3), .val (.int (2147483647 : Int32)), .unset, .unset, .unset, .unset, .unset, .unset, .unset, .unset, .unset]) rfl ?_
    show Steps p.tables e below (s₁.setTop (mkF m 3 #[.val (.int p1), .val (.int p2), .val (.int p3), .val (.int (2147483647 : Int32)), .unset, .unset, .unset, .unset, .unset, .unset, .unset, .unset, .unset] [])) _
    refine XS.iloadN X0.here hx rfl (hb hby at_3) rfl ?_
    show Steps p.tables e below (s₁.setTop (mkF m 4 #[.val (.int p1), .val (.int p2), .val (.int p3), .val (.int (2147483647 : Int32)), .unset, .unset, .unset, .unset, .unset, .unset, .unset, .unset, .unset] [(.int p1)])) _
    refine X0.ldcInt hx hown (mvT hZ (hw _ (List.mem_of_getElem? (i := 0) rfl))) (g := (mkF m 4 #[.val (.int p1), .val (.int p2), .val (.int p3), .val (.int (2147483647 : Int32)), .unset, .unset, .unset, .unset, .unset, .unset, .unset, .unset, .unset] [(.int p1)])) rfl (hb hby at_4) _ ?_
    show Steps p.tables e below (s₁.setTop (mkF m 6 #[.val (.int p1), .val (.int p2), .val (.int p3), .val (.int (2147483647 : Int32)), .unset, .unset, .unset, .unset, .unset, .unset, .unset, .unset, .unset] [(.int (2147483647 : Int32)), (.int p1)])) _
    refine XS.iand X0.here hx rfl (hb hby at_6) rfl ?_
    show Steps p.tables e below (s₁.setTop (mkF m 7 #[.val (.int p1), .val (.int p2), .val (.int p3), .val (.int (2147483647 : Int32)), .unset, .unset, .unset, .unset, .unset, .unset, .unset, .unset, .unset] [(.int (p1 &&& (2147483647 : Int32)))])) _
    refine XS.iloadN X0.here hx rfl (hb hby at_7) rfl ?_
    show Steps p.tables e below (s₁.setTop (mkF m 8 #[.val (.int p1), .val (.int p2), .val (.int p3), .val (.int (2147483647 : Int32)), .unset, .unset, .unset, .unset, .unset, .unset, .unset, .unset, .unset] [(.int (2147483647 : Int32)), (.int (p1 &&& (2147483647 : Int32)))])) _
    refine iremM X0 hx rfl (hb hby at_8) rfl (by decide) ?_
    show Steps p.tables e below (s₁.setTop (mkF m 9 #[.val (.int p1), .val (.int p2), .val (.int p3), .val (.int (2147483647 : Int32)), .unset, .unset, .unset, .unset, .unset, .unset, .unset, .unset, .unset] [(.int ((p1 &&& (2147483647 : Int32)) % (2147483647 : Int32)))])) _
    refine XS.istore X0.here hx rfl (hb hby at_9) rfl (l' := #[.val (.int p1), .val (.int p2), .val (.int p3), .val (.int (2147483647 : Int32)), .val (.int ((p1 &&& (2147483647 : Int32)) % (2147483647 : Int32))), .unset, .unset, .unset, .unset, .unset, .unset, .unset, .unset]) rfl ?_
    exact k
  obtain ⟨c1, hc1⟩ : ∃ z : Int32, z = ((p1 &&& (2147483647 : Int32)) % (2147483647 : Int32)) := ⟨_, rfl⟩
  refine own_go (B := s₁.setTop (mkF m 11 #[.val (.int p1), .val (.int p2), .val (.int p3), .val (.int (2147483647 : Int32)), .val (.int c1), .unset, .unset, .unset, .unset, .unset, .unset, .unset, .unset] [])) (fun t k => by rw [hc1] at k; exact k) ?_
  have R1 : 0 ≤ c1.toInt ∧ c1.toInt < 2147483647 := by rw [hc1]; exact own_r1 p1
  refine own_go (B := s₁.setTop (mkF m 22 #[.val (.int p1), .val (.int p2), .val (.int p3), .val (.int (2147483647 : Int32)), .val (.int c1), .val (.int ((p2 &&& (2147483647 : Int32)) % ((2147483647 : Int32) - c1))), .unset, .unset, .unset, .unset, .unset, .unset, .unset] [])) (fun t k => ?_) ?_
  · show Steps p.tables e below (s₁.setTop (mkF m 11 #[.val (.int p1), .val (.int p2), .val (.int p3), .val (.int (2147483647 : Int32)), .val (.int c1), .unset, .unset, .unset, .unset, .unset, .unset, .unset, .unset] [])) _
    refine XS.iloadN X0.here hx rfl (hb hby at_11) rfl ?_
    show Steps p.tables e below (s₁.setTop (mkF m 12 #[.val (.int p1), .val (.int p2), .val (.int p3), .val (.int (2147483647 : Int32)), .val (.int c1), .unset, .unset, .unset, .unset, .unset, .unset, .unset, .unset] [(.int p2)])) _
    refine X0.ldcInt hx hown (mvT hZ (hw _ (List.mem_of_getElem? (i := 0) rfl))) (g := (mkF m 12 #[.val (.int p1), .val (.int p2), .val (.int p3), .val (.int (2147483647 : Int32)), .val (.int c1), .unset, .unset, .unset, .unset, .unset, .unset, .unset, .unset] [(.int p2)])) rfl (hb hby at_12) _ ?_
    show Steps p.tables e below (s₁.setTop (mkF m 14 #[.val (.int p1), .val (.int p2), .val (.int p3), .val (.int (2147483647 : Int32)), .val (.int c1), .unset, .unset, .unset, .unset, .unset, .unset, .unset, .unset] [(.int (2147483647 : Int32)), (.int p2)])) _
    refine XS.iand X0.here hx rfl (hb hby at_14) rfl ?_
    show Steps p.tables e below (s₁.setTop (mkF m 15 #[.val (.int p1), .val (.int p2), .val (.int p3), .val (.int (2147483647 : Int32)), .val (.int c1), .unset, .unset, .unset, .unset, .unset, .unset, .unset, .unset] [(.int (p2 &&& (2147483647 : Int32)))])) _
    refine XS.iloadN X0.here hx rfl (hb hby at_15) rfl ?_
    show Steps p.tables e below (s₁.setTop (mkF m 16 #[.val (.int p1), .val (.int p2), .val (.int p3), .val (.int (2147483647 : Int32)), .val (.int c1), .unset, .unset, .unset, .unset, .unset, .unset, .unset, .unset] [(.int (2147483647 : Int32)), (.int (p2 &&& (2147483647 : Int32)))])) _
    refine XS.iload X0.here hx rfl (hb hby at_16) rfl ?_
    show Steps p.tables e below (s₁.setTop (mkF m 18 #[.val (.int p1), .val (.int p2), .val (.int p3), .val (.int (2147483647 : Int32)), .val (.int c1), .unset, .unset, .unset, .unset, .unset, .unset, .unset, .unset] [(.int c1), (.int (2147483647 : Int32)), (.int (p2 &&& (2147483647 : Int32)))])) _
    refine XS.isub X0.here hx rfl (hb hby at_18) rfl ?_
    show Steps p.tables e below (s₁.setTop (mkF m 19 #[.val (.int p1), .val (.int p2), .val (.int p3), .val (.int (2147483647 : Int32)), .val (.int c1), .unset, .unset, .unset, .unset, .unset, .unset, .unset, .unset] [(.int ((2147483647 : Int32) - c1)), (.int (p2 &&& (2147483647 : Int32)))])) _
    refine iremM X0 hx rfl (hb hby at_19) rfl (own_r2 c1 p2 R1.1 R1.2).1 ?_
    show Steps p.tables e below (s₁.setTop (mkF m 20 #[.val (.int p1), .val (.int p2), .val (.int p3), .val (.int (2147483647 : Int32)), .val (.int c1), .unset, .unset, .unset, .unset, .unset, .unset, .unset, .unset] [(.int ((p2 &&& (2147483647 : Int32)) % ((2147483647 : Int32) - c1)))])) _
    refine XS.istore X0.here hx rfl (hb hby at_20) rfl (l' := #[.val (.int p1), .val (.int p2), .val (.int p3), .val (.int (2147483647 : Int32)), .val (.int c1), .val (.int ((p2 &&& (2147483647 : Int32)) % ((2147483647 : Int32) - c1))), .unset, .unset, .unset, .unset, .unset, .unset, .unset]) rfl ?_
    exact k
  obtain ⟨m1, hm1⟩ : ∃ z : Int32, z = ((p2 &&& (2147483647 : Int32)) % ((2147483647 : Int32) - c1)) := ⟨_, rfl⟩
  refine own_go (B := s₁.setTop (mkF m 22 #[.val (.int p1), .val (.int p2), .val (.int p3), .val (.int (2147483647 : Int32)), .val (.int c1), .val (.int m1), .unset, .unset, .unset, .unset, .unset, .unset, .unset] [])) (fun t k => by rw [hm1] at k; exact k) ?_
  have R2 : 0 ≤ m1.toInt ∧ c1.toInt + m1.toInt + 1 ≤ 2147483647 := by rw [hm1]; exact (own_r2 c1 p2 R1.1 R1.2).2
  refine own_go (B := s₁.setTop (mkF m 30 #[.val (.int p1), .val (.int p2), .val (.int p3), .val (.int (2147483647 : Int32)), .val (.int c1), .val (.int m1), .val (.int ((p3 &&& (2147483647 : Int32)) % (2147483647 : Int32))), .unset, .unset, .unset, .unset, .unset, .unset] [])) (fun t k => ?_) ?_
  · show Steps p.tables e below (s₁.setTop (mkF m 22 #[.val (.int p1), .val (.int p2), .val (.int p3), .val (.int (2147483647 : Int32)), .val (.int c1), .val (.int m1), .unset, .unset, .unset, .unset, .unset, .unset, .unset] [])) _
    refine XS.iloadN X0.here hx rfl (hb hby at_22) rfl ?_
    show Steps p.tables e below (s₁.setTop (mkF m 23 #[.val (.int p1), .val (.int p2), .val (.int p3), .val (.int (2147483647 : Int32)), .val (.int c1), .val (.int m1), .unset, .unset, .unset, .unset, .unset, .unset, .unset] [(.int p3)])) _
    refine X0.ldcInt hx hown (mvT hZ (hw _ (List.mem_of_getElem? (i := 0) rfl))) (g := (mkF m 23 #[.val (.int p1), .val (.int p2), .val (.int p3), .val (.int (2147483647 : Int32)), .val (.int c1), .val (.int m1), .unset, .unset, .unset, .unset, .unset, .unset, .unset] [(.int p3)])) rfl (hb hby at_23) _ ?_
    show Steps p.tables e below (s₁.setTop (mkF m 25 #[.val (.int p1), .val (.int p2), .val (.int p3), .val (.int (2147483647 : Int32)), .val (.int c1), .val (.int m1), .unset, .unset, .unset, .unset, .unset, .unset, .unset] [(.int (2147483647 : Int32)), (.int p3)])) _
    refine XS.iand X0.here hx rfl (hb hby at_25) rfl ?_
    show Steps p.tables e below (s₁.setTop (mkF m 26 #[.val (.int p1), .val (.int p2), .val (.int p3), .val (.int (2147483647 : Int32)), .val (.int c1), .val (.int m1), .unset, .unset, .unset, .unset, .unset, .unset, .unset] [(.int (p3 &&& (2147483647 : Int32)))])) _
    refine XS.iloadN X0.here hx rfl (hb hby at_26) rfl ?_
    show Steps p.tables e below (s₁.setTop (mkF m 27 #[.val (.int p1), .val (.int p2), .val (.int p3), .val (.int (2147483647 : Int32)), .val (.int c1), .val (.int m1), .unset, .unset, .unset, .unset, .unset, .unset, .unset] [(.int (2147483647 : Int32)), (.int (p3 &&& (2147483647 : Int32)))])) _
    refine iremM X0 hx rfl (hb hby at_27) rfl (by decide) ?_
    show Steps p.tables e below (s₁.setTop (mkF m 28 #[.val (.int p1), .val (.int p2), .val (.int p3), .val (.int (2147483647 : Int32)), .val (.int c1), .val (.int m1), .unset, .unset, .unset, .unset, .unset, .unset, .unset] [(.int ((p3 &&& (2147483647 : Int32)) % (2147483647 : Int32)))])) _
    refine XS.istore X0.here hx rfl (hb hby at_28) rfl (l' := #[.val (.int p1), .val (.int p2), .val (.int p3), .val (.int (2147483647 : Int32)), .val (.int c1), .val (.int m1), .val (.int ((p3 &&& (2147483647 : Int32)) % (2147483647 : Int32))), .unset, .unset, .unset, .unset, .unset, .unset]) rfl ?_
    exact k
  obtain ⟨q1, hq1⟩ : ∃ z : Int32, z = ((p3 &&& (2147483647 : Int32)) % (2147483647 : Int32)) := ⟨_, rfl⟩
  refine own_go (B := s₁.setTop (mkF m 30 #[.val (.int p1), .val (.int p2), .val (.int p3), .val (.int (2147483647 : Int32)), .val (.int c1), .val (.int m1), .val (.int q1), .unset, .unset, .unset, .unset, .unset, .unset] [])) (fun t k => by rw [hq1] at k; exact k) ?_
  have R3 : 0 ≤ q1.toInt ∧ q1.toInt < 2147483647 := by rw [hq1]; exact own_r1 p3
  refine own_go (B := s₁.setTop (mkF m 36 #[.val (.int p1), .val (.int p2), .val (.int p3), .val (.int (2147483647 : Int32)), .val (.int c1), .val (.int m1), .val (.int q1), .unset, .unset, .unset, .unset, .unset, .unset] [(.int q1), (.int m1), (.int c1)])) (fun t k => ?_) ?_
  · show Steps p.tables e below (s₁.setTop (mkF m 30 #[.val (.int p1), .val (.int p2), .val (.int p3), .val (.int (2147483647 : Int32)), .val (.int c1), .val (.int m1), .val (.int q1), .unset, .unset, .unset, .unset, .unset, .unset] [])) _
    refine XS.iload X0.here hx rfl (hb hby at_30) rfl ?_
    show Steps p.tables e below (s₁.setTop (mkF m 32 #[.val (.int p1), .val (.int p2), .val (.int p3), .val (.int (2147483647 : Int32)), .val (.int c1), .val (.int m1), .val (.int q1), .unset, .unset, .unset, .unset, .unset, .unset] [(.int c1)])) _
    refine XS.iload X0.here hx rfl (hb hby at_32) rfl ?_
    show Steps p.tables e below (s₁.setTop (mkF m 34 #[.val (.int p1), .val (.int p2), .val (.int p3), .val (.int (2147483647 : Int32)), .val (.int c1), .val (.int m1), .val (.int q1), .unset, .unset, .unset, .unset, .unset, .unset] [(.int m1), (.int c1)])) _
    refine XS.iload X0.here hx rfl (hb hby at_34) rfl ?_
    exact k
  obtain ⟨_, _, ⟨T1, L1, k1, n1⟩, -, X1, ⟨Lc1, hQ1, l1, y1, z1⟩, st1⟩ := Jvm.LawKit.callS X0 hx (y := (⟨"com/example/charon/charon/example/EchoClient", "messageByte", "(III)B"⟩ : MethodName)) hown (mvT hZ (hw _ (List.mem_of_getElem? (i := 1) rfl))) (mvT hZ (hw _ (List.mem_of_getElem? (i := 2) rfl))) (mvT hZ (hw _ (List.mem_of_getElem? (i := 3) rfl))) (mvT hZ (hw _ (List.mem_of_getElem? (i := 4) rfl))) (by decide) (backOf (W := 0) (rm1 l Z a0 hw [] c1 m1 q1 h0 n0 Z0) hZ (hw _ (List.mem_of_getElem? (i := 4) rfl)) (hw _ (List.mem_of_getElem? (i := 3) rfl)) (by decide) (by decide)) (g := (mkF m 36 #[.val (.int p1), .val (.int p2), .val (.int p3), .val (.int (2147483647 : Int32)), .val (.int c1), .val (.int m1), .val (.int q1), .unset, .unset, .unset, .unset, .unset, .unset] [(.int q1), (.int m1), (.int c1)])) rfl (by rw [hml]; rfl) (argsL := [(.int c1), (.int m1), (.int q1)]) (rest := []) (lenOf own_pd0 rfl) rfl (by show 2 * 0 + _ ≤ _; exact Nat.le_of_eq rfl) (hb hby at_36) (fun _ _ => ⟨rfl, e0, (by decide : 0 + 0 ≤ _), (by decide : 0 + 0 ≤ _)⟩)
  dsimp only [Pt.U, Pt.locs, Pt.cells, Pt.slots] at X1 l1 y1 z1 st1 hQ1
  subst l1 y1 z1
  obtain ⟨rfl, N1q, eq1⟩ := hQ1
  have N1 := Fr.app N0 N1q
  refine own_go (B := T1.setTop (mkF m 39 #[.val (.int p1), .val (.int p2), .val (.int p3), .val (.int (2147483647 : Int32)), .val (.int c1), .val (.int m1), .val (.int q1), .unset, .unset, .unset, .unset, .unset, .unset] [(.int (own_mb c1 m1 q1))])) (fun t k => st1 _ k) ?_
  refine own_go (B := T1.setTop (mkF m 49 #[.val (.int p1), .val (.int p2), .val (.int p3), .val (.int (2147483647 : Int32)), .val (.int c1), .val (.int m1), .val (.int q1), .val (.int (own_mb c1 m1 q1)), .unset, .unset, .unset, .unset, .unset] [(.int q1), (.int (m1 + (1 : Int32))), (.int c1)])) (fun t k => ?_) ?_
  · show Steps p.tables e below (T1.setTop (mkF m 39 #[.val (.int p1), .val (.int p2), .val (.int p3), .val (.int (2147483647 : Int32)), .val (.int c1), .val (.int m1), .val (.int q1), .unset, .unset, .unset, .unset, .unset, .unset] [(.int (own_mb c1 m1 q1))])) _
    refine XS.istore X1.here hx rfl (hb hby at_39) rfl (l' := #[.val (.int p1), .val (.int p2), .val (.int p3), .val (.int (2147483647 : Int32)), .val (.int c1), .val (.int m1), .val (.int q1), .val (.int (own_mb c1 m1 q1)), .unset, .unset, .unset, .unset, .unset]) rfl ?_
    show Steps p.tables e below (T1.setTop (mkF m 41 #[.val (.int p1), .val (.int p2), .val (.int p3), .val (.int (2147483647 : Int32)), .val (.int c1), .val (.int m1), .val (.int q1), .val (.int (own_mb c1 m1 q1)), .unset, .unset, .unset, .unset, .unset] [])) _
    refine XS.iload X1.here hx rfl (hb hby at_41) rfl ?_
    show Steps p.tables e below (T1.setTop (mkF m 43 #[.val (.int p1), .val (.int p2), .val (.int p3), .val (.int (2147483647 : Int32)), .val (.int c1), .val (.int m1), .val (.int q1), .val (.int (own_mb c1 m1 q1)), .unset, .unset, .unset, .unset, .unset] [(.int c1)])) _
    refine XS.iload X1.here hx rfl (hb hby at_43) rfl ?_
    show Steps p.tables e below (T1.setTop (mkF m 45 #[.val (.int p1), .val (.int p2), .val (.int p3), .val (.int (2147483647 : Int32)), .val (.int c1), .val (.int m1), .val (.int q1), .val (.int (own_mb c1 m1 q1)), .unset, .unset, .unset, .unset, .unset] [(.int m1), (.int c1)])) _
    refine XS.iconst X1.here hx rfl (hb hby at_45) ?_
    show Steps p.tables e below (T1.setTop (mkF m 46 #[.val (.int p1), .val (.int p2), .val (.int p3), .val (.int (2147483647 : Int32)), .val (.int c1), .val (.int m1), .val (.int q1), .val (.int (own_mb c1 m1 q1)), .unset, .unset, .unset, .unset, .unset] [(.int (1 : Int32)), (.int m1), (.int c1)])) _
    refine XS.iadd X1.here hx rfl (hb hby at_46) rfl ?_
    show Steps p.tables e below (T1.setTop (mkF m 47 #[.val (.int p1), .val (.int p2), .val (.int p3), .val (.int (2147483647 : Int32)), .val (.int c1), .val (.int m1), .val (.int q1), .val (.int (own_mb c1 m1 q1)), .unset, .unset, .unset, .unset, .unset] [(.int (m1 + (1 : Int32))), (.int c1)])) _
    refine XS.iload X1.here hx rfl (hb hby at_47) rfl ?_
    exact k
  obtain ⟨_, _, ⟨T2, L2, k2, n2⟩, -, X2, ⟨Lc2, hQ2, l2, y2, z2⟩, st2⟩ := Jvm.LawKit.callS X1 hx (y := (⟨"com/example/charon/charon/example/EchoClient", "messageByte", "(III)B"⟩ : MethodName)) hown (mvT hZ (hw _ (List.mem_of_getElem? (i := 1) rfl))) (mvT hZ (hw _ (List.mem_of_getElem? (i := 2) rfl))) (mvT hZ (hw _ (List.mem_of_getElem? (i := 3) rfl))) (mvT hZ (hw _ (List.mem_of_getElem? (i := 4) rfl))) (by decide) (backOf (W := 0) (rm1 l Z a0 hw [] c1 (m1 + (1 : Int32)) q1 h0 n0 Z0) hZ (hw _ (List.mem_of_getElem? (i := 4) rfl)) (hw _ (List.mem_of_getElem? (i := 3) rfl)) (by decide) (by decide)) (g := (mkF m 49 #[.val (.int p1), .val (.int p2), .val (.int p3), .val (.int (2147483647 : Int32)), .val (.int c1), .val (.int m1), .val (.int q1), .val (.int (own_mb c1 m1 q1)), .unset, .unset, .unset, .unset, .unset] [(.int q1), (.int (m1 + (1 : Int32))), (.int c1)])) rfl (by rw [hml]; rfl) (argsL := [(.int c1), (.int (m1 + (1 : Int32))), (.int q1)]) (rest := []) (lenOf own_pd0 rfl) rfl (by show 2 * 0 + _ ≤ _; exact Nat.le_of_eq rfl) (hb hby at_49) (fun _ _ => ⟨rfl, eq1, (by decide : 0 + 0 ≤ _), (by decide : 0 + 0 ≤ _)⟩)
  dsimp only [Pt.U, Pt.locs, Pt.cells, Pt.slots] at X2 l2 y2 z2 st2 hQ2
  subst l2 y2 z2
  obtain ⟨rfl, N2q, eq2⟩ := hQ2
  have N2 := Fr.app N1 N2q
  refine own_go (B := T2.setTop (mkF m 52 #[.val (.int p1), .val (.int p2), .val (.int p3), .val (.int (2147483647 : Int32)), .val (.int c1), .val (.int m1), .val (.int q1), .val (.int (own_mb c1 m1 q1)), .unset, .unset, .unset, .unset, .unset] [(.int (own_mb c1 (m1 + (1 : Int32)) q1))])) (fun t k => st2 _ k) ?_
  refine own_go (B := T2.setTop (mkF m 62 #[.val (.int p1), .val (.int p2), .val (.int p3), .val (.int (2147483647 : Int32)), .val (.int c1), .val (.int m1), .val (.int q1), .val (.int (own_mb c1 m1 q1)), .val (.int (own_mb c1 (m1 + (1 : Int32)) q1)), .unset, .unset, .unset, .unset] [(.int (q1 + (1 : Int32))), (.int m1), (.int c1)])) (fun t k => ?_) ?_
  · show Steps p.tables e below (T2.setTop (mkF m 52 #[.val (.int p1), .val (.int p2), .val (.int p3), .val (.int (2147483647 : Int32)), .val (.int c1), .val (.int m1), .val (.int q1), .val (.int (own_mb c1 m1 q1)), .unset, .unset, .unset, .unset, .unset] [(.int (own_mb c1 (m1 + (1 : Int32)) q1))])) _
    refine XS.istore X2.here hx rfl (hb hby at_52) rfl (l' := #[.val (.int p1), .val (.int p2), .val (.int p3), .val (.int (2147483647 : Int32)), .val (.int c1), .val (.int m1), .val (.int q1), .val (.int (own_mb c1 m1 q1)), .val (.int (own_mb c1 (m1 + (1 : Int32)) q1)), .unset, .unset, .unset, .unset]) rfl ?_
    show Steps p.tables e below (T2.setTop (mkF m 54 #[.val (.int p1), .val (.int p2), .val (.int p3), .val (.int (2147483647 : Int32)), .val (.int c1), .val (.int m1), .val (.int q1), .val (.int (own_mb c1 m1 q1)), .val (.int (own_mb c1 (m1 + (1 : Int32)) q1)), .unset, .unset, .unset, .unset] [])) _
    refine XS.iload X2.here hx rfl (hb hby at_54) rfl ?_
    show Steps p.tables e below (T2.setTop (mkF m 56 #[.val (.int p1), .val (.int p2), .val (.int p3), .val (.int (2147483647 : Int32)), .val (.int c1), .val (.int m1), .val (.int q1), .val (.int (own_mb c1 m1 q1)), .val (.int (own_mb c1 (m1 + (1 : Int32)) q1)), .unset, .unset, .unset, .unset] [(.int c1)])) _
    refine XS.iload X2.here hx rfl (hb hby at_56) rfl ?_
    show Steps p.tables e below (T2.setTop (mkF m 58 #[.val (.int p1), .val (.int p2), .val (.int p3), .val (.int (2147483647 : Int32)), .val (.int c1), .val (.int m1), .val (.int q1), .val (.int (own_mb c1 m1 q1)), .val (.int (own_mb c1 (m1 + (1 : Int32)) q1)), .unset, .unset, .unset, .unset] [(.int m1), (.int c1)])) _
    refine XS.iload X2.here hx rfl (hb hby at_58) rfl ?_
    show Steps p.tables e below (T2.setTop (mkF m 60 #[.val (.int p1), .val (.int p2), .val (.int p3), .val (.int (2147483647 : Int32)), .val (.int c1), .val (.int m1), .val (.int q1), .val (.int (own_mb c1 m1 q1)), .val (.int (own_mb c1 (m1 + (1 : Int32)) q1)), .unset, .unset, .unset, .unset] [(.int q1), (.int m1), (.int c1)])) _
    refine XS.iconst X2.here hx rfl (hb hby at_60) ?_
    show Steps p.tables e below (T2.setTop (mkF m 61 #[.val (.int p1), .val (.int p2), .val (.int p3), .val (.int (2147483647 : Int32)), .val (.int c1), .val (.int m1), .val (.int q1), .val (.int (own_mb c1 m1 q1)), .val (.int (own_mb c1 (m1 + (1 : Int32)) q1)), .unset, .unset, .unset, .unset] [(.int (1 : Int32)), (.int q1), (.int m1), (.int c1)])) _
    refine XS.iadd X2.here hx rfl (hb hby at_61) rfl ?_
    exact k
  obtain ⟨_, _, ⟨T3, L3, k3, n3⟩, -, X3, ⟨Lc3, hQ3, l3, y3, z3⟩, st3⟩ := Jvm.LawKit.callS X2 hx (y := (⟨"com/example/charon/charon/example/EchoClient", "messageByte", "(III)B"⟩ : MethodName)) hown (mvT hZ (hw _ (List.mem_of_getElem? (i := 1) rfl))) (mvT hZ (hw _ (List.mem_of_getElem? (i := 2) rfl))) (mvT hZ (hw _ (List.mem_of_getElem? (i := 3) rfl))) (mvT hZ (hw _ (List.mem_of_getElem? (i := 4) rfl))) (by decide) (backOf (W := 0) (rm1 l Z a0 hw [] c1 m1 (q1 + (1 : Int32)) h0 n0 Z0) hZ (hw _ (List.mem_of_getElem? (i := 4) rfl)) (hw _ (List.mem_of_getElem? (i := 3) rfl)) (by decide) (by decide)) (g := (mkF m 62 #[.val (.int p1), .val (.int p2), .val (.int p3), .val (.int (2147483647 : Int32)), .val (.int c1), .val (.int m1), .val (.int q1), .val (.int (own_mb c1 m1 q1)), .val (.int (own_mb c1 (m1 + (1 : Int32)) q1)), .unset, .unset, .unset, .unset] [(.int (q1 + (1 : Int32))), (.int m1), (.int c1)])) rfl (by rw [hml]; rfl) (argsL := [(.int c1), (.int m1), (.int (q1 + (1 : Int32)))]) (rest := []) (lenOf own_pd0 rfl) rfl (by show 2 * 0 + _ ≤ _; exact Nat.le_of_eq rfl) (hb hby at_62) (fun _ _ => ⟨rfl, eq2, (by decide : 0 + 0 ≤ _), (by decide : 0 + 0 ≤ _)⟩)
  dsimp only [Pt.U, Pt.locs, Pt.cells, Pt.slots] at X3 l3 y3 z3 st3 hQ3
  subst l3 y3 z3
  obtain ⟨rfl, N3q, eq3⟩ := hQ3
  have N3 := Fr.app N2 N3q
  refine own_go (B := T3.setTop (mkF m 65 #[.val (.int p1), .val (.int p2), .val (.int p3), .val (.int (2147483647 : Int32)), .val (.int c1), .val (.int m1), .val (.int q1), .val (.int (own_mb c1 m1 q1)), .val (.int (own_mb c1 (m1 + (1 : Int32)) q1)), .unset, .unset, .unset, .unset] [(.int (own_mb c1 m1 (q1 + (1 : Int32))))])) (fun t k => st3 _ k) ?_
  refine own_go (B := T3.setTop (mkF m 69 #[.val (.int p1), .val (.int p2), .val (.int p3), .val (.int (2147483647 : Int32)), .val (.int c1), .val (.int m1), .val (.int q1), .val (.int (own_mb c1 m1 q1)), .val (.int (own_mb c1 (m1 + (1 : Int32)) q1)), .val (.int (own_mb c1 m1 (q1 + (1 : Int32)))), .unset, .unset, .unset] [(.int (own_mb c1 m1 q1))])) (fun t k => ?_) ?_
  · show Steps p.tables e below (T3.setTop (mkF m 65 #[.val (.int p1), .val (.int p2), .val (.int p3), .val (.int (2147483647 : Int32)), .val (.int c1), .val (.int m1), .val (.int q1), .val (.int (own_mb c1 m1 q1)), .val (.int (own_mb c1 (m1 + (1 : Int32)) q1)), .unset, .unset, .unset, .unset] [(.int (own_mb c1 m1 (q1 + (1 : Int32))))])) _
    refine XS.istore X3.here hx rfl (hb hby at_65) rfl (l' := #[.val (.int p1), .val (.int p2), .val (.int p3), .val (.int (2147483647 : Int32)), .val (.int c1), .val (.int m1), .val (.int q1), .val (.int (own_mb c1 m1 q1)), .val (.int (own_mb c1 (m1 + (1 : Int32)) q1)), .val (.int (own_mb c1 m1 (q1 + (1 : Int32)))), .unset, .unset, .unset]) rfl ?_
    show Steps p.tables e below (T3.setTop (mkF m 67 #[.val (.int p1), .val (.int p2), .val (.int p3), .val (.int (2147483647 : Int32)), .val (.int c1), .val (.int m1), .val (.int q1), .val (.int (own_mb c1 m1 q1)), .val (.int (own_mb c1 (m1 + (1 : Int32)) q1)), .val (.int (own_mb c1 m1 (q1 + (1 : Int32)))), .unset, .unset, .unset] [])) _
    refine XS.iload X3.here hx rfl (hb hby at_67) rfl ?_
    exact k
  obtain ⟨_, _, ⟨T4, L4, k4, n4⟩, -, X4, ⟨Lc4, hQ4, l4, y4, z4⟩, st4⟩ := Jvm.LawKit.callS X3 hx (y := (⟨"com/example/charon/charon/example/EchoClientMessageBytePinLaw", "isLetter", "(I)Z"⟩ : MethodName)) hown (mvT hZ (hw _ (List.mem_of_getElem? (i := 7) rfl))) (mvT hZ (hw _ (List.mem_of_getElem? (i := 8) rfl))) (mvT hZ (hw _ (List.mem_of_getElem? (i := 9) rfl))) (mvT hZ (hw _ (List.mem_of_getElem? (i := 10) rfl))) (by decide) (backOf (W := 0) (rm2 l Z a0 hw [] (own_mb c1 m1 q1) h0 n0 Z0) hZ (hw _ (List.mem_of_getElem? (i := 10) rfl)) (hw _ (List.mem_of_getElem? (i := 9) rfl)) (by decide) (by decide)) (g := (mkF m 69 #[.val (.int p1), .val (.int p2), .val (.int p3), .val (.int (2147483647 : Int32)), .val (.int c1), .val (.int m1), .val (.int q1), .val (.int (own_mb c1 m1 q1)), .val (.int (own_mb c1 (m1 + (1 : Int32)) q1)), .val (.int (own_mb c1 m1 (q1 + (1 : Int32)))), .unset, .unset, .unset] [(.int (own_mb c1 m1 q1))])) rfl (by rw [hml]; rfl) (argsL := [(.int (own_mb c1 m1 q1))]) (rest := []) (lenOf own_pd1 rfl) rfl (by show 2 * 0 + _ ≤ _; exact Nat.le_of_eq rfl) (hb hby at_69) (fun _ _ => ⟨rfl, eq3, (by decide : 0 + 0 ≤ _), (by decide : 0 + 0 ≤ _)⟩)
  dsimp only [Pt.U, Pt.locs, Pt.cells, Pt.slots] at X4 l4 y4 z4 st4 hQ4
  subst l4 y4 z4
  obtain ⟨rfl, N4q, eq4⟩ := hQ4
  have N4 := Fr.app N3 N4q
  refine own_go (B := T4.setTop (mkF m 72 #[.val (.int p1), .val (.int p2), .val (.int p3), .val (.int (2147483647 : Int32)), .val (.int c1), .val (.int m1), .val (.int q1), .val (.int (own_mb c1 m1 q1)), .val (.int (own_mb c1 (m1 + (1 : Int32)) q1)), .val (.int (own_mb c1 m1 (q1 + (1 : Int32)))), .unset, .unset, .unset] [(.int (own_let (own_mb c1 m1 q1)))])) (fun t k => st4 _ k) ?_
  refine own_go (B := T4.setTop (mkF m 77 #[.val (.int p1), .val (.int p2), .val (.int p3), .val (.int (2147483647 : Int32)), .val (.int c1), .val (.int m1), .val (.int q1), .val (.int (own_mb c1 m1 q1)), .val (.int (own_mb c1 (m1 + (1 : Int32)) q1)), .val (.int (own_mb c1 m1 (q1 + (1 : Int32)))), .unset, .unset, .unset] [(.int (own_mb c1 (m1 + (1 : Int32)) q1))])) (fun t k => ?_) ?_
  · show Steps p.tables e below (T4.setTop (mkF m 72 #[.val (.int p1), .val (.int p2), .val (.int p3), .val (.int (2147483647 : Int32)), .val (.int c1), .val (.int m1), .val (.int q1), .val (.int (own_mb c1 m1 q1)), .val (.int (own_mb c1 (m1 + (1 : Int32)) q1)), .val (.int (own_mb c1 m1 (q1 + (1 : Int32)))), .unset, .unset, .unset] [(.int (own_let (own_mb c1 m1 q1)))])) _
    refine XS.ifNo X4.here hx rfl (hb hby at_72) rfl ((if0 _ _).trans (feq (own_l0 c1 m1 q1 R1 R2 R3)).1) ?_
    show Steps p.tables e below (T4.setTop (mkF m 75 #[.val (.int p1), .val (.int p2), .val (.int p3), .val (.int (2147483647 : Int32)), .val (.int c1), .val (.int m1), .val (.int q1), .val (.int (own_mb c1 m1 q1)), .val (.int (own_mb c1 (m1 + (1 : Int32)) q1)), .val (.int (own_mb c1 m1 (q1 + (1 : Int32)))), .unset, .unset, .unset] [])) _
    refine XS.iload X4.here hx rfl (hb hby at_75) rfl ?_
    exact k
  obtain ⟨_, _, ⟨T5, L5, k5, n5⟩, -, X5, ⟨Lc5, hQ5, l5, y5, z5⟩, st5⟩ := Jvm.LawKit.callS X4 hx (y := (⟨"com/example/charon/charon/example/EchoClientMessageBytePinLaw", "isLetter", "(I)Z"⟩ : MethodName)) hown (mvT hZ (hw _ (List.mem_of_getElem? (i := 7) rfl))) (mvT hZ (hw _ (List.mem_of_getElem? (i := 8) rfl))) (mvT hZ (hw _ (List.mem_of_getElem? (i := 9) rfl))) (mvT hZ (hw _ (List.mem_of_getElem? (i := 10) rfl))) (by decide) (backOf (W := 0) (rm2 l Z a0 hw [] (own_mb c1 (m1 + (1 : Int32)) q1) h0 n0 Z0) hZ (hw _ (List.mem_of_getElem? (i := 10) rfl)) (hw _ (List.mem_of_getElem? (i := 9) rfl)) (by decide) (by decide)) (g := (mkF m 77 #[.val (.int p1), .val (.int p2), .val (.int p3), .val (.int (2147483647 : Int32)), .val (.int c1), .val (.int m1), .val (.int q1), .val (.int (own_mb c1 m1 q1)), .val (.int (own_mb c1 (m1 + (1 : Int32)) q1)), .val (.int (own_mb c1 m1 (q1 + (1 : Int32)))), .unset, .unset, .unset] [(.int (own_mb c1 (m1 + (1 : Int32)) q1))])) rfl (by rw [hml]; rfl) (argsL := [(.int (own_mb c1 (m1 + (1 : Int32)) q1))]) (rest := []) (lenOf own_pd1 rfl) rfl (by show 2 * 0 + _ ≤ _; exact Nat.le_of_eq rfl) (hb hby at_77) (fun _ _ => ⟨rfl, eq4, (by decide : 0 + 0 ≤ _), (by decide : 0 + 0 ≤ _)⟩)
  dsimp only [Pt.U, Pt.locs, Pt.cells, Pt.slots] at X5 l5 y5 z5 st5 hQ5
  subst l5 y5 z5
  obtain ⟨rfl, N5q, eq5⟩ := hQ5
  have N5 := Fr.app N4 N5q
  refine own_go (B := T5.setTop (mkF m 80 #[.val (.int p1), .val (.int p2), .val (.int p3), .val (.int (2147483647 : Int32)), .val (.int c1), .val (.int m1), .val (.int q1), .val (.int (own_mb c1 m1 q1)), .val (.int (own_mb c1 (m1 + (1 : Int32)) q1)), .val (.int (own_mb c1 m1 (q1 + (1 : Int32)))), .unset, .unset, .unset] [(.int (own_let (own_mb c1 (m1 + (1 : Int32)) q1)))])) (fun t k => st5 _ k) ?_
  refine own_go (B := T5.setTop (mkF m 85 #[.val (.int p1), .val (.int p2), .val (.int p3), .val (.int (2147483647 : Int32)), .val (.int c1), .val (.int m1), .val (.int q1), .val (.int (own_mb c1 m1 q1)), .val (.int (own_mb c1 (m1 + (1 : Int32)) q1)), .val (.int (own_mb c1 m1 (q1 + (1 : Int32)))), .unset, .unset, .unset] [(.int (own_mb c1 m1 (q1 + (1 : Int32))))])) (fun t k => ?_) ?_
  · show Steps p.tables e below (T5.setTop (mkF m 80 #[.val (.int p1), .val (.int p2), .val (.int p3), .val (.int (2147483647 : Int32)), .val (.int c1), .val (.int m1), .val (.int q1), .val (.int (own_mb c1 m1 q1)), .val (.int (own_mb c1 (m1 + (1 : Int32)) q1)), .val (.int (own_mb c1 m1 (q1 + (1 : Int32)))), .unset, .unset, .unset] [(.int (own_let (own_mb c1 (m1 + (1 : Int32)) q1)))])) _
    refine XS.ifNo X5.here hx rfl (hb hby at_80) rfl ((if0 _ _).trans (feq (own_l1 c1 m1 q1 R1 R2 R3)).1) ?_
    show Steps p.tables e below (T5.setTop (mkF m 83 #[.val (.int p1), .val (.int p2), .val (.int p3), .val (.int (2147483647 : Int32)), .val (.int c1), .val (.int m1), .val (.int q1), .val (.int (own_mb c1 m1 q1)), .val (.int (own_mb c1 (m1 + (1 : Int32)) q1)), .val (.int (own_mb c1 m1 (q1 + (1 : Int32)))), .unset, .unset, .unset] [])) _
    refine XS.iload X5.here hx rfl (hb hby at_83) rfl ?_
    exact k
  obtain ⟨_, _, ⟨T6, L6, k6, n6⟩, -, X6, ⟨Lc6, hQ6, l6, y6, z6⟩, st6⟩ := Jvm.LawKit.callS X5 hx (y := (⟨"com/example/charon/charon/example/EchoClientMessageBytePinLaw", "isLetter", "(I)Z"⟩ : MethodName)) hown (mvT hZ (hw _ (List.mem_of_getElem? (i := 7) rfl))) (mvT hZ (hw _ (List.mem_of_getElem? (i := 8) rfl))) (mvT hZ (hw _ (List.mem_of_getElem? (i := 9) rfl))) (mvT hZ (hw _ (List.mem_of_getElem? (i := 10) rfl))) (by decide) (backOf (W := 0) (rm2 l Z a0 hw [] (own_mb c1 m1 (q1 + (1 : Int32))) h0 n0 Z0) hZ (hw _ (List.mem_of_getElem? (i := 10) rfl)) (hw _ (List.mem_of_getElem? (i := 9) rfl)) (by decide) (by decide)) (g := (mkF m 85 #[.val (.int p1), .val (.int p2), .val (.int p3), .val (.int (2147483647 : Int32)), .val (.int c1), .val (.int m1), .val (.int q1), .val (.int (own_mb c1 m1 q1)), .val (.int (own_mb c1 (m1 + (1 : Int32)) q1)), .val (.int (own_mb c1 m1 (q1 + (1 : Int32)))), .unset, .unset, .unset] [(.int (own_mb c1 m1 (q1 + (1 : Int32))))])) rfl (by rw [hml]; rfl) (argsL := [(.int (own_mb c1 m1 (q1 + (1 : Int32))))]) (rest := []) (lenOf own_pd1 rfl) rfl (by show 2 * 0 + _ ≤ _; exact Nat.le_of_eq rfl) (hb hby at_85) (fun _ _ => ⟨rfl, eq5, (by decide : 0 + 0 ≤ _), (by decide : 0 + 0 ≤ _)⟩)
  dsimp only [Pt.U, Pt.locs, Pt.cells, Pt.slots] at X6 l6 y6 z6 st6 hQ6
  subst l6 y6 z6
  obtain ⟨rfl, N6q, eq6⟩ := hQ6
  have N6 := Fr.app N5 N6q
  refine own_go (B := T6.setTop (mkF m 88 #[.val (.int p1), .val (.int p2), .val (.int p3), .val (.int (2147483647 : Int32)), .val (.int c1), .val (.int m1), .val (.int q1), .val (.int (own_mb c1 m1 q1)), .val (.int (own_mb c1 (m1 + (1 : Int32)) q1)), .val (.int (own_mb c1 m1 (q1 + (1 : Int32)))), .unset, .unset, .unset] [(.int (own_let (own_mb c1 m1 (q1 + (1 : Int32)))))])) (fun t k => st6 _ k) ?_
  refine own_go (B := T6.setTop (mkF m 97 #[.val (.int p1), .val (.int p2), .val (.int p3), .val (.int (2147483647 : Int32)), .val (.int c1), .val (.int m1), .val (.int q1), .val (.int (own_mb c1 m1 q1)), .val (.int (own_mb c1 (m1 + (1 : Int32)) q1)), .val (.int (own_mb c1 m1 (q1 + (1 : Int32)))), .unset, .unset, .unset] [(.int (122 : Int32)), (.int (own_mb c1 m1 q1))])) (fun t k => ?_) ?_
  · show Steps p.tables e below (T6.setTop (mkF m 88 #[.val (.int p1), .val (.int p2), .val (.int p3), .val (.int (2147483647 : Int32)), .val (.int c1), .val (.int m1), .val (.int q1), .val (.int (own_mb c1 m1 q1)), .val (.int (own_mb c1 (m1 + (1 : Int32)) q1)), .val (.int (own_mb c1 m1 (q1 + (1 : Int32)))), .unset, .unset, .unset] [(.int (own_let (own_mb c1 m1 (q1 + (1 : Int32)))))])) _
    refine XS.ifYes X6.here hx rfl (pc0 := 88) (pc' := 93) rfl (hb hby at_88) rfl ((if0 _ _).trans (feq (own_l2 c1 m1 q1 R1 R2 R3)).2) (by decide) (by decide) ?_
    show Steps p.tables e below (T6.setTop (mkF m 93 #[.val (.int p1), .val (.int p2), .val (.int p3), .val (.int (2147483647 : Int32)), .val (.int c1), .val (.int m1), .val (.int q1), .val (.int (own_mb c1 m1 q1)), .val (.int (own_mb c1 (m1 + (1 : Int32)) q1)), .val (.int (own_mb c1 m1 (q1 + (1 : Int32)))), .unset, .unset, .unset] [])) _
    refine XS.iload X6.here hx rfl (hb hby at_93) rfl ?_
    show Steps p.tables e below (T6.setTop (mkF m 95 #[.val (.int p1), .val (.int p2), .val (.int p3), .val (.int (2147483647 : Int32)), .val (.int c1), .val (.int m1), .val (.int q1), .val (.int (own_mb c1 m1 q1)), .val (.int (own_mb c1 (m1 + (1 : Int32)) q1)), .val (.int (own_mb c1 m1 (q1 + (1 : Int32)))), .unset, .unset, .unset] [(.int (own_mb c1 m1 q1))])) _
    refine XS.bipush X6.here hx rfl (hb hby at_95) ?_
    exact k
  obtain ⟨z7, hz7⟩ : ∃ q : Int32, q = (if (own_mb c1 m1 q1) = (122 : Int32) then (97 : Int32) else ((own_mb c1 m1 q1) + (1 : Int32))) := ⟨_, rfl⟩
  refine own_go (B := T6.setTop (mkF m 109 #[.val (.int p1), .val (.int p2), .val (.int p3), .val (.int (2147483647 : Int32)), .val (.int c1), .val (.int m1), .val (.int q1), .val (.int (own_mb c1 m1 q1)), .val (.int (own_mb c1 (m1 + (1 : Int32)) q1)), .val (.int (own_mb c1 m1 (q1 + (1 : Int32)))), .unset, .unset, .unset] [(.int z7)])) (fun t k => ?_) ?_
  · by_cases hc97_8 : (own_mb c1 m1 q1) = (122 : Int32)
    · rw [show z7 = (97 : Int32) from hz7.trans (by rw [if_pos hc97_8])] at k
      show Steps p.tables e below (T6.setTop (mkF m 97 #[.val (.int p1), .val (.int p2), .val (.int p3), .val (.int (2147483647 : Int32)), .val (.int c1), .val (.int m1), .val (.int q1), .val (.int (own_mb c1 m1 q1)), .val (.int (own_mb c1 (m1 + (1 : Int32)) q1)), .val (.int (own_mb c1 m1 (q1 + (1 : Int32)))), .unset, .unset, .unset] [(.int (122 : Int32)), (.int (own_mb c1 m1 q1))])) _
      refine XS.icmpNo X6.here hx rfl (hb hby at_97) rfl (teq hc97_8).2 ?_
      show Steps p.tables e below (T6.setTop (mkF m 100 #[.val (.int p1), .val (.int p2), .val (.int p3), .val (.int (2147483647 : Int32)), .val (.int c1), .val (.int m1), .val (.int q1), .val (.int (own_mb c1 m1 q1)), .val (.int (own_mb c1 (m1 + (1 : Int32)) q1)), .val (.int (own_mb c1 m1 (q1 + (1 : Int32)))), .unset, .unset, .unset] [])) _
      refine XS.bipush X6.here hx rfl (hb hby at_100) ?_
      show Steps p.tables e below (T6.setTop (mkF m 102 #[.val (.int p1), .val (.int p2), .val (.int p3), .val (.int (2147483647 : Int32)), .val (.int c1), .val (.int m1), .val (.int q1), .val (.int (own_mb c1 m1 q1)), .val (.int (own_mb c1 (m1 + (1 : Int32)) q1)), .val (.int (own_mb c1 m1 (q1 + (1 : Int32)))), .unset, .unset, .unset] [(.int (97 : Int32))])) _
      refine XS.goto X6.here hx rfl (pc0 := 102) (pc' := 109) rfl (hb hby at_102) (by decide) (by decide) ?_
      exact k
    · rw [show z7 = ((own_mb c1 m1 q1) + (1 : Int32)) from hz7.trans (by rw [if_neg hc97_8])] at k
      show Steps p.tables e below (T6.setTop (mkF m 97 #[.val (.int p1), .val (.int p2), .val (.int p3), .val (.int (2147483647 : Int32)), .val (.int c1), .val (.int m1), .val (.int q1), .val (.int (own_mb c1 m1 q1)), .val (.int (own_mb c1 (m1 + (1 : Int32)) q1)), .val (.int (own_mb c1 m1 (q1 + (1 : Int32)))), .unset, .unset, .unset] [(.int (122 : Int32)), (.int (own_mb c1 m1 q1))])) _
      refine XS.icmpYes X6.here hx rfl (pc0 := 97) (pc' := 105) rfl (hb hby at_97) rfl (feq hc97_8).2 (by decide) (by decide) ?_
      show Steps p.tables e below (T6.setTop (mkF m 105 #[.val (.int p1), .val (.int p2), .val (.int p3), .val (.int (2147483647 : Int32)), .val (.int c1), .val (.int m1), .val (.int q1), .val (.int (own_mb c1 m1 q1)), .val (.int (own_mb c1 (m1 + (1 : Int32)) q1)), .val (.int (own_mb c1 m1 (q1 + (1 : Int32)))), .unset, .unset, .unset] [])) _
      refine XS.iload X6.here hx rfl (hb hby at_105) rfl ?_
      show Steps p.tables e below (T6.setTop (mkF m 107 #[.val (.int p1), .val (.int p2), .val (.int p3), .val (.int (2147483647 : Int32)), .val (.int c1), .val (.int m1), .val (.int q1), .val (.int (own_mb c1 m1 q1)), .val (.int (own_mb c1 (m1 + (1 : Int32)) q1)), .val (.int (own_mb c1 m1 (q1 + (1 : Int32)))), .unset, .unset, .unset] [(.int (own_mb c1 m1 q1))])) _
      refine XS.iconst X6.here hx rfl (hb hby at_107) ?_
      show Steps p.tables e below (T6.setTop (mkF m 108 #[.val (.int p1), .val (.int p2), .val (.int p3), .val (.int (2147483647 : Int32)), .val (.int c1), .val (.int m1), .val (.int q1), .val (.int (own_mb c1 m1 q1)), .val (.int (own_mb c1 (m1 + (1 : Int32)) q1)), .val (.int (own_mb c1 m1 (q1 + (1 : Int32)))), .unset, .unset, .unset] [(.int (1 : Int32)), (.int (own_mb c1 m1 q1))])) _
      refine XS.iadd X6.here hx rfl (hb hby at_108) rfl ?_
      exact k
  obtain ⟨fs, hr, hrun, hended, hW, hsame⟩ := X6.leave (v := some (.int (1 : Int32))) (fun h => by rw [Bd.returns] at h; cases h)
  refine ⟨_, _, ?_, hrun, hended, _, _, rfl, ?_, ⟨_, rfl⟩, hW, hsame.mono (by decide) (by decide)⟩
  · show Steps p.tables e below (T6.setTop (mkF m 109 #[.val (.int p1), .val (.int p2), .val (.int p3), .val (.int (2147483647 : Int32)), .val (.int c1), .val (.int m1), .val (.int q1), .val (.int (own_mb c1 m1 q1)), .val (.int (own_mb c1 (m1 + (1 : Int32)) q1)), .val (.int (own_mb c1 m1 (q1 + (1 : Int32)))), .unset, .unset, .unset] [(.int z7)])) _
    refine XS.istore X6.here hx rfl (hb hby at_109) rfl (l' := #[.val (.int p1), .val (.int p2), .val (.int p3), .val (.int (2147483647 : Int32)), .val (.int c1), .val (.int m1), .val (.int q1), .val (.int (own_mb c1 m1 q1)), .val (.int (own_mb c1 (m1 + (1 : Int32)) q1)), .val (.int (own_mb c1 m1 (q1 + (1 : Int32)))), .val (.int z7), .unset, .unset]) rfl ?_
    show Steps p.tables e below (T6.setTop (mkF m 111 #[.val (.int p1), .val (.int p2), .val (.int p3), .val (.int (2147483647 : Int32)), .val (.int c1), .val (.int m1), .val (.int q1), .val (.int (own_mb c1 m1 q1)), .val (.int (own_mb c1 (m1 + (1 : Int32)) q1)), .val (.int (own_mb c1 m1 (q1 + (1 : Int32)))), .val (.int z7), .unset, .unset] [])) _
    refine XS.iconst X6.here hx rfl (hb hby at_111) ?_
    show Steps p.tables e below (T6.setTop (mkF m 112 #[.val (.int p1), .val (.int p2), .val (.int p3), .val (.int (2147483647 : Int32)), .val (.int c1), .val (.int m1), .val (.int q1), .val (.int (own_mb c1 m1 q1)), .val (.int (own_mb c1 (m1 + (1 : Int32)) q1)), .val (.int (own_mb c1 m1 (q1 + (1 : Int32)))), .val (.int z7), .unset, .unset] [(.int (1 : Int32))])) _
    refine XS.iload X6.here hx rfl (hb hby at_112) rfl ?_
    show Steps p.tables e below (T6.setTop (mkF m 114 #[.val (.int p1), .val (.int p2), .val (.int p3), .val (.int (2147483647 : Int32)), .val (.int c1), .val (.int m1), .val (.int q1), .val (.int (own_mb c1 m1 q1)), .val (.int (own_mb c1 (m1 + (1 : Int32)) q1)), .val (.int (own_mb c1 m1 (q1 + (1 : Int32)))), .val (.int z7), .unset, .unset] [(.int c1), (.int (1 : Int32))])) _
    refine XS.bipush X6.here hx rfl (hb hby at_114) ?_
    show Steps p.tables e below (T6.setTop (mkF m 116 #[.val (.int p1), .val (.int p2), .val (.int p3), .val (.int (2147483647 : Int32)), .val (.int c1), .val (.int m1), .val (.int q1), .val (.int (own_mb c1 m1 q1)), .val (.int (own_mb c1 (m1 + (1 : Int32)) q1)), .val (.int (own_mb c1 m1 (q1 + (1 : Int32)))), .val (.int z7), .unset, .unset] [(.int (25 : Int32)), (.int c1), (.int (1 : Int32))])) _
    refine iremM X6 hx rfl (hb hby at_116) rfl (by decide) ?_
    show Steps p.tables e below (T6.setTop (mkF m 117 #[.val (.int p1), .val (.int p2), .val (.int p3), .val (.int (2147483647 : Int32)), .val (.int c1), .val (.int m1), .val (.int q1), .val (.int (own_mb c1 m1 q1)), .val (.int (own_mb c1 (m1 + (1 : Int32)) q1)), .val (.int (own_mb c1 m1 (q1 + (1 : Int32)))), .val (.int z7), .unset, .unset] [(.int (c1 % (25 : Int32))), (.int (1 : Int32))])) _
    refine XS.iadd X6.here hx rfl (hb hby at_117) rfl ?_
    show Steps p.tables e below (T6.setTop (mkF m 118 #[.val (.int p1), .val (.int p2), .val (.int p3), .val (.int (2147483647 : Int32)), .val (.int c1), .val (.int m1), .val (.int q1), .val (.int (own_mb c1 m1 q1)), .val (.int (own_mb c1 (m1 + (1 : Int32)) q1)), .val (.int (own_mb c1 m1 (q1 + (1 : Int32)))), .val (.int z7), .unset, .unset] [(.int ((1 : Int32) + (c1 % (25 : Int32))))])) _
    refine XS.istore X6.here hx rfl (hb hby at_118) rfl (l' := #[.val (.int p1), .val (.int p2), .val (.int p3), .val (.int (2147483647 : Int32)), .val (.int c1), .val (.int m1), .val (.int q1), .val (.int (own_mb c1 m1 q1)), .val (.int (own_mb c1 (m1 + (1 : Int32)) q1)), .val (.int (own_mb c1 m1 (q1 + (1 : Int32)))), .val (.int z7), .val (.int ((1 : Int32) + (c1 % (25 : Int32)))), .unset]) rfl ?_
    show Steps p.tables e below (T6.setTop (mkF m 120 #[.val (.int p1), .val (.int p2), .val (.int p3), .val (.int (2147483647 : Int32)), .val (.int c1), .val (.int m1), .val (.int q1), .val (.int (own_mb c1 m1 q1)), .val (.int (own_mb c1 (m1 + (1 : Int32)) q1)), .val (.int (own_mb c1 m1 (q1 + (1 : Int32)))), .val (.int z7), .val (.int ((1 : Int32) + (c1 % (25 : Int32)))), .unset] [])) _
    refine XS.bipush X6.here hx rfl (hb hby at_120) ?_
    show Steps p.tables e below (T6.setTop (mkF m 122 #[.val (.int p1), .val (.int p2), .val (.int p3), .val (.int (2147483647 : Int32)), .val (.int c1), .val (.int m1), .val (.int q1), .val (.int (own_mb c1 m1 q1)), .val (.int (own_mb c1 (m1 + (1 : Int32)) q1)), .val (.int (own_mb c1 m1 (q1 + (1 : Int32)))), .val (.int z7), .val (.int ((1 : Int32) + (c1 % (25 : Int32)))), .unset] [(.int (97 : Int32))])) _
    refine XS.iload X6.here hx rfl (hb hby at_122) rfl ?_
    show Steps p.tables e below (T6.setTop (mkF m 124 #[.val (.int p1), .val (.int p2), .val (.int p3), .val (.int (2147483647 : Int32)), .val (.int c1), .val (.int m1), .val (.int q1), .val (.int (own_mb c1 m1 q1)), .val (.int (own_mb c1 (m1 + (1 : Int32)) q1)), .val (.int (own_mb c1 m1 (q1 + (1 : Int32)))), .val (.int z7), .val (.int ((1 : Int32) + (c1 % (25 : Int32)))), .unset] [(.int (own_mb c1 m1 q1)), (.int (97 : Int32))])) _
    refine XS.bipush X6.here hx rfl (hb hby at_124) ?_
    show Steps p.tables e below (T6.setTop (mkF m 126 #[.val (.int p1), .val (.int p2), .val (.int p3), .val (.int (2147483647 : Int32)), .val (.int c1), .val (.int m1), .val (.int q1), .val (.int (own_mb c1 m1 q1)), .val (.int (own_mb c1 (m1 + (1 : Int32)) q1)), .val (.int (own_mb c1 m1 (q1 + (1 : Int32)))), .val (.int z7), .val (.int ((1 : Int32) + (c1 % (25 : Int32)))), .unset] [(.int (97 : Int32)), (.int (own_mb c1 m1 q1)), (.int (97 : Int32))])) _
    refine XS.isub X6.here hx rfl (hb hby at_126) rfl ?_
    show Steps p.tables e below (T6.setTop (mkF m 127 #[.val (.int p1), .val (.int p2), .val (.int p3), .val (.int (2147483647 : Int32)), .val (.int c1), .val (.int m1), .val (.int q1), .val (.int (own_mb c1 m1 q1)), .val (.int (own_mb c1 (m1 + (1 : Int32)) q1)), .val (.int (own_mb c1 m1 (q1 + (1 : Int32)))), .val (.int z7), .val (.int ((1 : Int32) + (c1 % (25 : Int32)))), .unset] [(.int ((own_mb c1 m1 q1) - (97 : Int32))), (.int (97 : Int32))])) _
    refine XS.iload X6.here hx rfl (hb hby at_127) rfl ?_
    show Steps p.tables e below (T6.setTop (mkF m 129 #[.val (.int p1), .val (.int p2), .val (.int p3), .val (.int (2147483647 : Int32)), .val (.int c1), .val (.int m1), .val (.int q1), .val (.int (own_mb c1 m1 q1)), .val (.int (own_mb c1 (m1 + (1 : Int32)) q1)), .val (.int (own_mb c1 m1 (q1 + (1 : Int32)))), .val (.int z7), .val (.int ((1 : Int32) + (c1 % (25 : Int32)))), .unset] [(.int ((1 : Int32) + (c1 % (25 : Int32)))), (.int ((own_mb c1 m1 q1) - (97 : Int32))), (.int (97 : Int32))])) _
    refine XS.iadd X6.here hx rfl (hb hby at_129) rfl ?_
    show Steps p.tables e below (T6.setTop (mkF m 130 #[.val (.int p1), .val (.int p2), .val (.int p3), .val (.int (2147483647 : Int32)), .val (.int c1), .val (.int m1), .val (.int q1), .val (.int (own_mb c1 m1 q1)), .val (.int (own_mb c1 (m1 + (1 : Int32)) q1)), .val (.int (own_mb c1 m1 (q1 + (1 : Int32)))), .val (.int z7), .val (.int ((1 : Int32) + (c1 % (25 : Int32)))), .unset] [(.int (((own_mb c1 m1 q1) - (97 : Int32)) + ((1 : Int32) + (c1 % (25 : Int32))))), (.int (97 : Int32))])) _
    refine XS.bipush X6.here hx rfl (hb hby at_130) ?_
    show Steps p.tables e below (T6.setTop (mkF m 132 #[.val (.int p1), .val (.int p2), .val (.int p3), .val (.int (2147483647 : Int32)), .val (.int c1), .val (.int m1), .val (.int q1), .val (.int (own_mb c1 m1 q1)), .val (.int (own_mb c1 (m1 + (1 : Int32)) q1)), .val (.int (own_mb c1 m1 (q1 + (1 : Int32)))), .val (.int z7), .val (.int ((1 : Int32) + (c1 % (25 : Int32)))), .unset] [(.int (26 : Int32)), (.int (((own_mb c1 m1 q1) - (97 : Int32)) + ((1 : Int32) + (c1 % (25 : Int32))))), (.int (97 : Int32))])) _
    refine iremM X6 hx rfl (hb hby at_132) rfl (by decide) ?_
    show Steps p.tables e below (T6.setTop (mkF m 133 #[.val (.int p1), .val (.int p2), .val (.int p3), .val (.int (2147483647 : Int32)), .val (.int c1), .val (.int m1), .val (.int q1), .val (.int (own_mb c1 m1 q1)), .val (.int (own_mb c1 (m1 + (1 : Int32)) q1)), .val (.int (own_mb c1 m1 (q1 + (1 : Int32)))), .val (.int z7), .val (.int ((1 : Int32) + (c1 % (25 : Int32)))), .unset] [(.int ((((own_mb c1 m1 q1) - (97 : Int32)) + ((1 : Int32) + (c1 % (25 : Int32)))) % (26 : Int32))), (.int (97 : Int32))])) _
    refine XS.iadd X6.here hx rfl (hb hby at_133) rfl ?_
    show Steps p.tables e below (T6.setTop (mkF m 134 #[.val (.int p1), .val (.int p2), .val (.int p3), .val (.int (2147483647 : Int32)), .val (.int c1), .val (.int m1), .val (.int q1), .val (.int (own_mb c1 m1 q1)), .val (.int (own_mb c1 (m1 + (1 : Int32)) q1)), .val (.int (own_mb c1 m1 (q1 + (1 : Int32)))), .val (.int z7), .val (.int ((1 : Int32) + (c1 % (25 : Int32)))), .unset] [(.int ((97 : Int32) + ((((own_mb c1 m1 q1) - (97 : Int32)) + ((1 : Int32) + (c1 % (25 : Int32)))) % (26 : Int32))))])) _
    refine XS.istore X6.here hx rfl (hb hby at_134) rfl (l' := #[.val (.int p1), .val (.int p2), .val (.int p3), .val (.int (2147483647 : Int32)), .val (.int c1), .val (.int m1), .val (.int q1), .val (.int (own_mb c1 m1 q1)), .val (.int (own_mb c1 (m1 + (1 : Int32)) q1)), .val (.int (own_mb c1 m1 (q1 + (1 : Int32)))), .val (.int z7), .val (.int ((1 : Int32) + (c1 % (25 : Int32)))), .val (.int ((97 : Int32) + ((((own_mb c1 m1 q1) - (97 : Int32)) + ((1 : Int32) + (c1 % (25 : Int32)))) % (26 : Int32))))]) rfl ?_
    show Steps p.tables e below (T6.setTop (mkF m 136 #[.val (.int p1), .val (.int p2), .val (.int p3), .val (.int (2147483647 : Int32)), .val (.int c1), .val (.int m1), .val (.int q1), .val (.int (own_mb c1 m1 q1)), .val (.int (own_mb c1 (m1 + (1 : Int32)) q1)), .val (.int (own_mb c1 m1 (q1 + (1 : Int32)))), .val (.int z7), .val (.int ((1 : Int32) + (c1 % (25 : Int32)))), .val (.int ((97 : Int32) + ((((own_mb c1 m1 q1) - (97 : Int32)) + ((1 : Int32) + (c1 % (25 : Int32)))) % (26 : Int32))))] [])) _
    refine XS.iload X6.here hx rfl (hb hby at_136) rfl ?_
    show Steps p.tables e below (T6.setTop (mkF m 138 #[.val (.int p1), .val (.int p2), .val (.int p3), .val (.int (2147483647 : Int32)), .val (.int c1), .val (.int m1), .val (.int q1), .val (.int (own_mb c1 m1 q1)), .val (.int (own_mb c1 (m1 + (1 : Int32)) q1)), .val (.int (own_mb c1 m1 (q1 + (1 : Int32)))), .val (.int z7), .val (.int ((1 : Int32) + (c1 % (25 : Int32)))), .val (.int ((97 : Int32) + ((((own_mb c1 m1 q1) - (97 : Int32)) + ((1 : Int32) + (c1 % (25 : Int32)))) % (26 : Int32))))] [(.int (own_mb c1 (m1 + (1 : Int32)) q1))])) _
    refine XS.iload X6.here hx rfl (hb hby at_138) rfl ?_
    show Steps p.tables e below (T6.setTop (mkF m 140 #[.val (.int p1), .val (.int p2), .val (.int p3), .val (.int (2147483647 : Int32)), .val (.int c1), .val (.int m1), .val (.int q1), .val (.int (own_mb c1 m1 q1)), .val (.int (own_mb c1 (m1 + (1 : Int32)) q1)), .val (.int (own_mb c1 m1 (q1 + (1 : Int32)))), .val (.int z7), .val (.int ((1 : Int32) + (c1 % (25 : Int32)))), .val (.int ((97 : Int32) + ((((own_mb c1 m1 q1) - (97 : Int32)) + ((1 : Int32) + (c1 % (25 : Int32)))) % (26 : Int32))))] [(.int z7), (.int (own_mb c1 (m1 + (1 : Int32)) q1))])) _
    refine XS.icmpNo X6.here hx rfl (hb hby at_140) rfl (teq ((own_next c1 m1 q1 R1.1 R2.1 R2.2 R3.1).trans hz7.symm)).2 ?_
    show Steps p.tables e below (T6.setTop (mkF m 143 #[.val (.int p1), .val (.int p2), .val (.int p3), .val (.int (2147483647 : Int32)), .val (.int c1), .val (.int m1), .val (.int q1), .val (.int (own_mb c1 m1 q1)), .val (.int (own_mb c1 (m1 + (1 : Int32)) q1)), .val (.int (own_mb c1 m1 (q1 + (1 : Int32)))), .val (.int z7), .val (.int ((1 : Int32) + (c1 % (25 : Int32)))), .val (.int ((97 : Int32) + ((((own_mb c1 m1 q1) - (97 : Int32)) + ((1 : Int32) + (c1 % (25 : Int32)))) % (26 : Int32))))] [])) _
    refine XS.iload X6.here hx rfl (hb hby at_143) rfl ?_
    show Steps p.tables e below (T6.setTop (mkF m 145 #[.val (.int p1), .val (.int p2), .val (.int p3), .val (.int (2147483647 : Int32)), .val (.int c1), .val (.int m1), .val (.int q1), .val (.int (own_mb c1 m1 q1)), .val (.int (own_mb c1 (m1 + (1 : Int32)) q1)), .val (.int (own_mb c1 m1 (q1 + (1 : Int32)))), .val (.int z7), .val (.int ((1 : Int32) + (c1 % (25 : Int32)))), .val (.int ((97 : Int32) + ((((own_mb c1 m1 q1) - (97 : Int32)) + ((1 : Int32) + (c1 % (25 : Int32)))) % (26 : Int32))))] [(.int (own_mb c1 m1 (q1 + (1 : Int32))))])) _
    refine XS.iload X6.here hx rfl (hb hby at_145) rfl ?_
    show Steps p.tables e below (T6.setTop (mkF m 147 #[.val (.int p1), .val (.int p2), .val (.int p3), .val (.int (2147483647 : Int32)), .val (.int c1), .val (.int m1), .val (.int q1), .val (.int (own_mb c1 m1 q1)), .val (.int (own_mb c1 (m1 + (1 : Int32)) q1)), .val (.int (own_mb c1 m1 (q1 + (1 : Int32)))), .val (.int z7), .val (.int ((1 : Int32) + (c1 % (25 : Int32)))), .val (.int ((97 : Int32) + ((((own_mb c1 m1 q1) - (97 : Int32)) + ((1 : Int32) + (c1 % (25 : Int32)))) % (26 : Int32))))] [(.int ((97 : Int32) + ((((own_mb c1 m1 q1) - (97 : Int32)) + ((1 : Int32) + (c1 % (25 : Int32)))) % (26 : Int32)))), (.int (own_mb c1 m1 (q1 + (1 : Int32))))])) _
    refine XS.icmpNo X6.here hx rfl (hb hby at_147) rfl (teq (own_stepped c1 m1 q1 R1.1 R2.1 R2.2 R3.1 R3.2)).2 ?_
    show Steps p.tables e below (T6.setTop (mkF m 150 #[.val (.int p1), .val (.int p2), .val (.int p3), .val (.int (2147483647 : Int32)), .val (.int c1), .val (.int m1), .val (.int q1), .val (.int (own_mb c1 m1 q1)), .val (.int (own_mb c1 (m1 + (1 : Int32)) q1)), .val (.int (own_mb c1 m1 (q1 + (1 : Int32)))), .val (.int z7), .val (.int ((1 : Int32) + (c1 % (25 : Int32)))), .val (.int ((97 : Int32) + ((((own_mb c1 m1 q1) - (97 : Int32)) + ((1 : Int32) + (c1 % (25 : Int32)))) % (26 : Int32))))] [])) _
    refine XS.iconst X6.here hx rfl (hb hby at_150) ?_
    show Steps p.tables e below (T6.setTop (mkF m 151 #[.val (.int p1), .val (.int p2), .val (.int p3), .val (.int (2147483647 : Int32)), .val (.int c1), .val (.int m1), .val (.int q1), .val (.int (own_mb c1 m1 q1)), .val (.int (own_mb c1 (m1 + (1 : Int32)) q1)), .val (.int (own_mb c1 m1 (q1 + (1 : Int32)))), .val (.int z7), .val (.int ((1 : Int32) + (c1 % (25 : Int32)))), .val (.int ((97 : Int32) + ((((own_mb c1 m1 q1) - (97 : Int32)) + ((1 : Int32) + (c1 % (25 : Int32)))) % (26 : Int32))))] [(.int (1 : Int32))])) _
    refine XS.goto X6.here hx rfl (pc0 := 151) (pc' := 155) rfl (hb hby at_151) (by decide) (by decide) ?_
    show Steps p.tables e below (T6.setTop (mkF m 155 #[.val (.int p1), .val (.int p2), .val (.int p3), .val (.int (2147483647 : Int32)), .val (.int c1), .val (.int m1), .val (.int q1), .val (.int (own_mb c1 m1 q1)), .val (.int (own_mb c1 (m1 + (1 : Int32)) q1)), .val (.int (own_mb c1 m1 (q1 + (1 : Int32)))), .val (.int z7), .val (.int ((1 : Int32) + (c1 % (25 : Int32)))), .val (.int ((97 : Int32) + ((((own_mb c1 m1 q1) - (97 : Int32)) + ((1 : Int32) + (c1 % (25 : Int32)))) % (26 : Int32))))] [(.int (1 : Int32))])) _
    exact retN X6 hx (t := .boolean) Bd.returns (by simp) (hb hby at_155) hr
  · show Q0 Z p1 p2 p3 h0 n0 _ T6.heap _
    rw [eq6]
    exact ⟨rfl, N6⟩
set_option maxRecDepth 65536 in
set_option maxHeartbeats 40000000 in
theorem comes_1 {Post : Tables → Env → Array Value → State → Outcome → State → Prop} (hpost : ∀ tb e args s v u, (limb_1_1.after args s (.returned v) u = true ∧ limb_1_2.after args s (.returned v) u = true ∧ True) → FrameEnd s (.returned v) u (Jvm.fieldLocs frame_1_writes args s ++ Jvm.arrayLocs frame_1_arrays args s ++ Jvm.staticLocs frame_1_statics s) 0 0 → Post tb e args s (.returned v) u) :
    ArmFor flags0 classFile x code maxLocals ret World_1 tables_1 room_1 Calls_1 rest_1 Pre_1 Post := by
  intro l hfl _ _ p e ha hc hk s m args below hf hA hF happ hP
  obtain ⟨hcalls, hrest, hpre⟩ := hP
  obtain ⟨-, -, -, hnamed, -, -, -, hat⟩ := (Spec.applies_iff hf).mp happ
  obtain ⟨hg, hn⟩ := and_e (Cond.before_iff.mp (show (Jvm.Cond.and given_1 narrow_1).before args s = true from hpre))
  obtain ⟨gc, ga0⟩ := and_e hg
  obtain ⟨ha0, ga1⟩ := and_e ga0
  obtain ⟨ha1, ga2⟩ := and_e ga1
  obtain ⟨w0, w1, w2, rfl⟩ : ∃ w0 w1 w2 : Value, args = #[w0, w1, w2] := by
    have hs : args.size = 3 := by simpa [Cond.value, given_1] using gc
    obtain ⟨L⟩ := args
    match L, hs with
    | [w0, w1, w2], _ => exact ⟨w0, w1, w2, rfl⟩
  have hw := fun d (hd : d ∈ tables_1) => atoms_spec (ws := Jvm.Cond.code x code maxLocals ret :: tables_1) hat d (List.mem_cons_of_mem _ hd)
  have hfit : Fit s := fun {y c} hc i hi => by
    obtain ⟨ha, rfl⟩ := Array.getElem?_eq_some_iff.mp hc
    have q := List.all_eq_true.mp ((Array.all_eq_true_iff_forall_mem.mp hF) _ (Array.getElem_mem ha)) i (List.mem_range.mpr hi)
    simpa [Array.getElem?_eq_getElem hi] using q
  obtain ⟨i0, ei0⟩ := is_v ha0
  obtain rfl : w0 = (.int i0) := Option.some.inj ei0
  obtain ⟨i1, ei1⟩ := is_v ha1
  obtain rfl : w1 = (.int i1) := Option.some.inj ei1
  obtain ⟨i2, ei2⟩ := is_v ga2
  obtain rfl : w2 = (.int i2) := Option.some.inj ei2
  obtain ⟨n, o, h1, h2, h3, _, L, rfl, ⟨rfl, N⟩, hq⟩ := rm0 l s _ hw tables_1 i0 i1 i2 s.heap s.heap.size (Nat.le_refl _)  p e ha hc hk s m _ below hf ((Spec.applies_iff_loose hf).mp happ).1 ⟨rfl, State.Warmed39.refl s, rfl⟩ trivial
  refine ⟨n, _, h1, h2, h3, hpost _ _ _ _ _ _ ⟨Cond.after_iff.mpr rfl, Cond.after_iff.mpr (eq_i res_at (Term.int_eval (1)) rfl), trivial⟩ ⟨hq.1, hq.2.1, (hq.2.2.sift fun y hy => Or.inr (N y hy)).mono (by decide) (by decide)⟩⟩
theorem main_1_1 : Claimed_1_1 := comes_1 fun _ _ _ _ _ _ h hF => ⟨h.1, hF⟩
theorem main_1_2 : Claimed_1_2 := comes_1 fun _ _ _ _ _ _ h hF => ⟨h.2.1, hF⟩
end Jvm.Pilot.@@N@@
namespace Jvm.Pilot.@@N@@
open Jvm Jvm.ClassFile Sem Op Lib Jvm.Free Jvm.Stand Jvm.Pilot.@@N@@.Jvm.D
/-! MADE BY PROGRAM (witnessworld.py) out of the Statement's table words and the real class files: 9 classes; the members and pool entries that the words name. The judged class is class 1, her method 1. -/
namespace start1
open Jvm.ClassFile
def u (s : String) : CpInfo := .utf8 (stringToUtf16 s)
/-- a pool by its gaps: so many unusable entries, then the entry; so many at the end -/
def gap : Nat → List CpInfo → List CpInfo
  | 0, r => r
  | n + 1, r => .unusable :: gap n r
def poolList (es : List (Nat × CpInfo)) (last : Nat) : List CpInfo := es.foldr (fun e r => gap e.1 (e.2 :: r)) (gap last [])
def pool (es : List (Nat × CpInfo)) (last : Nat) : Array CpInfo := ⟨poolList es last⟩
def fileOf (pool : Array CpInfo) (this : Nat) (attrs : Array Attribute := #[]) (ms : Array MethodInfo := #[]) (fl : Nat := 33) (sup : Nat := 0) (ifs : Array Nat := #[]) (fds : Array FieldInfo := #[]) : ClassFile where
  minorVersion := 0
  majorVersion := 65
  constantPool := pool
  accessFlags := fl
  thisClass := this
  superClass := sup
  interfaces := ifs
  fields := fds
  methods := ms
  attributes := attrs
def plain (name : String) (sup : Option ClassId) : Class where
  name := name
  kind := .ordinary
  loader := none
  accessFlags := 33
  super := sup
  interfaces := #[]
  cf := none
  fields := #[]
  methods := #[]
  instanceTypes := #[]
  staticTypes := #[]
  resolved := #[]
  callSites := []
  init := .initialized
  statics := none
  mirror := none

def pool0 : Array CpInfo := pool [(5, u "<init>"), (0, u "()V"), (1, .class_ 10), (1, u "java/lang/Object")] 113

def k0m0 : Method := { name := "<init>", desc := "()V", sig := { parameters := [], returnType := none }, accessFlags := 1, code := none }
/-- java/lang/Object -/
def k0 : Class := { plain "java/lang/Object" none with
  accessFlags := 33
  interfaces := #[]
  cf := some (fileOf pool0 8 #[] #[{ accessFlags := 1, nameIndex := 5, descriptorIndex := 6, attributes := #[] }] 33 0 #[] #[])
  fields := #[]
  methods := #[k0m0]
  instanceTypes := #[]
  staticTypes := #[]
  resolved := Array.replicate 124 none
  statics := none }

def pool1 : Array CpInfo := pool [(2, .class_ 4), (1, u "java/lang/Object"), (0, u "<init>"), (0, u "()V"), (2, .integer 2147483647), (0, .methodref 11 12), (0, .class_ 13), (0, .nameAndType 14 15), (0, u "com/example/charon/charon/example/EchoClient"), (0, u "messageByte"), (0, u "(III)B"), (0, .methodref 17 18), (0, .class_ 19), (0, .nameAndType 20 21), (0, u "com/example/charon/charon/example/EchoClientMessageBytePinLaw"), (0, u "isLetter"), (0, u "(I)Z"), (2, u "law"), (0, u "(III)Z")] 3

def k1m0 : Method := { name := "<init>", desc := "()V", sig := { parameters := [], returnType := none }, accessFlags := 1, code := none }
def k1c1 : Code := { maxStack := 4, maxLocals := 13, code := code, exceptionTable := #[], attributes := #[] }
def k1m1 : Method := { name := "law", desc := "(III)Z", sig := { parameters := [.int, .int, .int], returnType := some .boolean }, accessFlags := 9, code := some k1c1 }
def k1c2 : Code := { maxStack := 2, maxLocals := 1, code := method_3_code, exceptionTable := #[], attributes := #[] }
def k1m2 : Method := { name := "isLetter", desc := "(I)Z", sig := { parameters := [.int], returnType := some .boolean }, accessFlags := 10, code := some k1c2 }
/-- com/example/charon/charon/example/EchoClientMessageBytePinLaw -/
def k1 : Class := { plain "com/example/charon/charon/example/EchoClientMessageBytePinLaw" (some 0) with
  accessFlags := 49
  interfaces := #[]
  cf := some (fileOf pool1 17 #[] #[{ accessFlags := 1, nameIndex := 5, descriptorIndex := 6, attributes := #[] }, { accessFlags := 9, nameIndex := 24, descriptorIndex := 25, attributes := #[] }, { accessFlags := 10, nameIndex := 20, descriptorIndex := 21, attributes := #[] }] 49 2 #[] #[])
  fields := #[]
  methods := #[k1m0, k1m1, k1m2]
  instanceTypes := #[]
  staticTypes := #[]
  resolved := Array.replicate 29 none
  statics := none }

def pool2 : Array CpInfo := pool [(4, .class_ 6), (1, u "java/lang/Object"), (13, .class_ 22), (1, u "com/example/charon/charon/example/EchoClient"), (0, u "server"), (0, u "Ljava/net/InetSocketAddress;"), (18, u "connections"), (0, u "I"), (2, u "messages"), (2, u "size"), (19, u "bootstrap"), (0, u "Lcom/example/charon/charon/channel/ClientBootstrap;"), (36, .class_ 109), (0, u "com/example/charon/charon/example/EchoClient$Exchange"), (103, .class_ 215), (1, u "com/example/charon/charon/example/EchoClient$Summary"), (7, .long 97), (1, .long 26), (6, u "J"), (56, u "NAME"), (0, u "Ljava/lang/String;"), (3, u "MAX_PENDING_CONNECTS"), (1, u "MAX_ROUND_TRIPS"), (11, u "messageByte"), (0, u "(III)B")] 51

def k2c0 : Code := { maxStack := 8, maxLocals := 5, code := prog_40_method_3_code, exceptionTable := #[], attributes := #[] }
def k2m0 : Method := { name := "messageByte", desc := "(III)B", sig := { parameters := [.int, .int, .int], returnType := some .byte }, accessFlags := 8, code := some k2c0 }
/-- com/example/charon/charon/example/EchoClient -/
def k2 : Class := { plain "com/example/charon/charon/example/EchoClient" (some 0) with
  accessFlags := 49
  interfaces := #[]
  cf := some (fileOf pool2 20 #[.nestMembers #[108, 213]] #[{ accessFlags := 8, nameIndex := 308, descriptorIndex := 309, attributes := #[] }] 49 4 #[] #[{ accessFlags := 25, nameIndex := 289, descriptorIndex := 290, attributes := #[] }, { accessFlags := 24, nameIndex := 294, descriptorIndex := 44, attributes := #[] }, { accessFlags := 24, nameIndex := 296, descriptorIndex := 232, attributes := #[] }, { accessFlags := 18, nameIndex := 23, descriptorIndex := 24, attributes := #[] }, { accessFlags := 18, nameIndex := 43, descriptorIndex := 44, attributes := #[] }, { accessFlags := 18, nameIndex := 47, descriptorIndex := 44, attributes := #[] }, { accessFlags := 18, nameIndex := 50, descriptorIndex := 44, attributes := #[] }, { accessFlags := 18, nameIndex := 70, descriptorIndex := 71, attributes := #[] }])
  fields := #[{ name := "NAME", type := (.object "java/lang/String"), accessFlags := 25, slot := 0, constantValue := 0 }, { name := "MAX_PENDING_CONNECTS", type := .int, accessFlags := 24, slot := 1, constantValue := 0 }, { name := "MAX_ROUND_TRIPS", type := .long, accessFlags := 24, slot := 2, constantValue := 0 }, { name := "server", type := (.object "java/net/InetSocketAddress"), accessFlags := 18, slot := 0, constantValue := 0 }, { name := "connections", type := .int, accessFlags := 18, slot := 1, constantValue := 0 }, { name := "messages", type := .int, accessFlags := 18, slot := 2, constantValue := 0 }, { name := "size", type := .int, accessFlags := 18, slot := 3, constantValue := 0 }, { name := "bootstrap", type := (.object "com/example/charon/charon/channel/ClientBootstrap"), accessFlags := 18, slot := 4, constantValue := 0 }]
  methods := #[k2m0]
  instanceTypes := #[(.object "java/net/InetSocketAddress"), .int, .int, .int, (.object "com/example/charon/charon/channel/ClientBootstrap")]
  staticTypes := #[(.object "java/lang/String"), .int, .long]
  resolved := Array.replicate 361 none
  statics := none }

def pool3 : Array CpInfo := pool [(1, u "java/lang/Cloneable"), (0, .class_ 1), (0, u "java/lang/Object"), (0, .class_ 3)] 3

/-- java/lang/Cloneable -/
def k3 : Class := { plain "java/lang/Cloneable" (some 0) with
  accessFlags := 1537
  interfaces := #[]
  cf := some (fileOf pool3 2 #[] #[] 1537 4 #[] #[])
  fields := #[]
  methods := #[]
  instanceTypes := #[]
  staticTypes := #[]
  resolved := Array.replicate 8 none
  statics := none }

def pool4 : Array CpInfo := pool [(1, u "java/io/Serializable"), (0, .class_ 1), (0, u "java/lang/Object"), (0, .class_ 3)] 3

/-- java/io/Serializable -/
def k4 : Class := { plain "java/io/Serializable" (some 0) with
  accessFlags := 1537
  interfaces := #[]
  cf := some (fileOf pool4 2 #[] #[] 1537 4 #[] #[])
  fields := #[]
  methods := #[]
  instanceTypes := #[]
  staticTypes := #[]
  resolved := Array.replicate 8 none
  statics := none }

/-- the primitive byte -/
def k5 : Class := { plain "byte" none with kind := .primitive 'B', accessFlags := 0x411 }
/-- [B -/
def k6 : Class := { plain "[B" (some 0) with kind := .array 5 .byte, interfaces := #[3, 4], accessFlags := 1041 }

/-- the primitive int -/
def k7 : Class := { plain "int" none with kind := .primitive 'I', accessFlags := 0x411 }
/-- [I -/
def k8 : Class := { plain "[I" (some 0) with kind := .array 7 .int, interfaces := #[3, 4], accessFlags := 1041 }

def heap : Heap := #[]
def classes : Array Class := #[k0, k1, k2, k3, k4, k5, k6, k7, k8]
def interned : List (Array UInt16 × Addr) := []
def slotsUsed : Nat := 0
def theMethod : MethodId := ⟨1, 1⟩
def args0 : Array Value := #[.int 5, .int 6, .int 7]
def aboutOver (below : List Frame) : State where
  vm := { classes := classes, interned := interned.toArray }
  heap := heap
  slotsUsed := slotsUsed
  threads := #[{ frames := .invoking theMethod args0 :: below }]
def below0 : List Frame := [.native { method := ⟨0, 0⟩, args := #[] }]
def about1 : State := aboutOver below0
def p0 : Program := .bare "" "" ""
def e0 : Env := launch0.env 0 0 0
theorem w_frames : about1.frames = Frame.invoking theMethod args0 :: below0 := rfl
set_option maxRecDepth 65536 in
theorem w_args : argsFit about1.vm theMethod args0 = true := by decide +kernel
set_option maxRecDepth 65536 in
theorem w_heap : heapFits about1 = true := by decide +kernel
set_option maxRecDepth 65536 in
theorem w_runnable : about1.curStatus? = some .runnable := by decide +kernel
set_option maxRecDepth 65536 in
theorem w_alone : about1.alone = true := by decide +kernel
set_option maxRecDepth 65536 in
theorem w_named : about1.methodNamed? x = some theMethod := by decide +kernel
set_option maxRecDepth 65536 in
theorem w_hears : about1.hears theMethod below0 = true := by decide +kernel
set_option maxRecDepth 65536 in
theorem w_ripe : about1.ripe theMethod args0 below0 = true := by decide +kernel
theorem w_running : about1.status = .running := rfl
set_option maxRecDepth 65536 in
theorem w_room : about1.hasRoom e0.platform room_1 = true :=
  launch0.hasRoom_least _ room_1 (by decide +kernel) (by decide +kernel) (by decide +kernel) (by decide +kernel) (by decide +kernel) (by decide +kernel)
theorem allAtoms_all (ts : List Jvm.Cond) (a : Array Jvm.Value) (st : Jvm.State) : (allAtoms ts).before a st = ts.all (fun c => c.before a st) := by
  induction ts with
  | nil => rfl
  | cons c t ih =>
    show (Jvm.Cond.and c (allAtoms t)).before a st = _
    rw [Jvm.Cond.before_and, ih, List.all_cons]
def words1 : List Jvm.Cond := Jvm.Cond.code x code maxLocals ret :: tables_1
/-- a 'code' word, met by the world's own term for the bytes: nothing is compared byte by byte -/
theorem code_word {y : MethodName} {bytes : ByteArray} {mx : Nat} {rt : Option FieldType} {a : Array Value} {s : State} {m : MethodId} {meth : Method} {c : Code} (h1 : s.methodNamed? y = some m) (h2 : s.vm.method? m = some meth) (h3 : meth.code = some c) (h4 : c.code = bytes)
    (h5 : (c.maxLocals == mx && c.exceptionTable.isEmpty && decide (c.maxStack ≤ mostOperands) && decide (meth.sig.returnType = rt) && !meth.locks && decide (parseMethodDescriptor y.desc = some meth.sig)) = true) : (Jvm.Cond.code y bytes mx rt).before a s = true := by
  simp only [Bool.and_eq_true, beq_iff_eq, Bool.not_eq_true', decide_eq_true_eq] at h5
  obtain ⟨⟨⟨⟨⟨g1, g2⟩, g3⟩, g4⟩, g5⟩, g6⟩ := h5
  simp [Cond.before, Cond.holds, Cond.value, h1, h2, h3, h4, g1, g2, g3, g4, g5, g6]
def isCode : Jvm.Cond → Bool
  | .code _ _ _ _ => true
  | _ => false
theorem all_split {L : List Jvm.Cond} {P : Jvm.Cond → Bool} (h1 : L.all (fun c => isCode c || P c) = true) (h2 : ∀ c ∈ L.filter isCode, P c = true) : L.all P = true := by
  refine List.all_eq_true.mpr fun c hc => ?_
  have h := List.all_eq_true.mp h1 c hc
  rcases Bool.eq_false_or_eq_true (isCode c) with hi | hi
  · exact h2 c (List.mem_filter.mpr ⟨hc, hi⟩)
  · simpa [hi] using h
set_option maxRecDepth 65536 in
theorem w_c0 : (Jvm.Cond.code x code maxLocals ret).before args0 about1 = true := code_word (m := ⟨1, 1⟩) (meth := k1m1) (c := k1c1) (by decide +kernel) rfl rfl rfl (by decide +kernel)
set_option maxRecDepth 65536 in
theorem w_c1 : (Jvm.Cond.code ({ cls := "com/example/charon/charon/example/EchoClient", name := "messageByte", desc := "(III)B" } : Jvm.MethodName) prog_40_method_3_code (5 : Nat) (Option.some Jvm.ClassFile.FieldType.byte)).before args0 about1 = true := code_word (m := ⟨2, 0⟩) (meth := k2m0) (c := k2c0) (by decide +kernel) rfl rfl rfl (by decide +kernel)
set_option maxRecDepth 65536 in
theorem w_c2 : (Jvm.Cond.code ({ cls := "com/example/charon/charon/example/EchoClientMessageBytePinLaw", name := "isLetter", desc := "(I)Z" } : Jvm.MethodName) method_3_code (1 : Nat) (Option.some Jvm.ClassFile.FieldType.boolean)).before args0 about1 = true := code_word (m := ⟨1, 2⟩) (meth := k1m2) (c := k1c2) (by decide +kernel) rfl rfl rfl (by decide +kernel)
def codes1 : List Jvm.Cond := [Jvm.Cond.code x code maxLocals ret, Jvm.Cond.code ({ cls := "com/example/charon/charon/example/EchoClient", name := "messageByte", desc := "(III)B" } : Jvm.MethodName) prog_40_method_3_code (5 : Nat) (Option.some Jvm.ClassFile.FieldType.byte), Jvm.Cond.code ({ cls := "com/example/charon/charon/example/EchoClientMessageBytePinLaw", name := "isLetter", desc := "(I)Z" } : Jvm.MethodName) method_3_code (1 : Nat) (Option.some Jvm.ClassFile.FieldType.boolean)]
set_option maxRecDepth 65536 in
theorem codes_eq : words1.filter isCode = codes1 := rfl
theorem w_codes : ∀ c ∈ words1.filter isCode, c.before args0 about1 = true := by
  rw [codes_eq]
  intro c hc
  simp only [codes1, List.mem_cons, List.not_mem_nil, or_false] at hc
  rcases hc with rfl | rfl | rfl
  · exact w_c0
  · exact w_c1
  · exact w_c2
set_option maxRecDepth 65536 in
theorem w_t1 : words1.all (fun c => isCode c || c.before args0 about1) = true := by decide +kernel
theorem w_tables : (allAtoms (Jvm.Cond.code x code maxLocals ret :: tables_1)).before args0 about1 = true := by
  rw [allAtoms_all]
  show words1.all (fun c => c.before args0 about1) = true
  refine all_split ?_ w_codes
  rw [w_t1]
set_option maxRecDepth 65536 in
theorem w_case : (Jvm.Cond.and given_1 narrow_1).before args0 about1 = true := by decide +kernel
theorem w_applies : (headSpec (Jvm.Cond.code x code maxLocals ret :: tables_1) room_1).applies x e0.platform about1 = true :=
  (Spec.applies_iff w_frames).mpr ⟨w_running, w_runnable, w_alone, w_named, w_hears, w_ripe, w_room, w_tables⟩
theorem atStart : AtStart classFile x code maxLocals ret World_1 tables_1 room_1 Calls_1 rest_1 Pre_1 launch0 p0 e0 about1 theMethod args0 below0 :=
  ⟨lists_1, trivial, launch0.admits_env _ _ _, launch0.least_env, fairChoices_fair.cas, fairChoices_fair.clock, w_frames, w_args, w_heap, w_applies, trivial, trivial, w_case⟩
end start1
theorem witness_1 : WitnessClaimed_1 := ⟨start1.p0, start1.e0, start1.about1, start1.theMethod, start1.args0, start1.below0, start1.atStart⟩
end Jvm.Pilot.@@N@@
