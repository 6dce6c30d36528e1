import JvmDerived
import JvmDerived.Pilot.@@N@@Statement
import JvmDerived.Pilot.@@N@@Code
set_option linter.unusedVariables false
set_option linter.unusedSimpArgs false
namespace Jvm.RoadKit
open Sem ClassFile Op Lib Jvm.Stand Jvm.Free Jvm.LawKit
section New
variable {p : Program} {l : Launch} {e : Env} {R : Room} {s : State} {m : MethodId} {args : Array Value} {below : List Frame} {meth : Method} {c : Code} {T : State} {locs : List Loc} {cells slots : Nat}
theorem retI (X : Stand p l e R s m args below meth c T locs cells slots) (hx : p.tables.exec = Jvm.exec) {pc : Nat} {Ls : Array Slot} {z : Int32} {rest : List Value} (hret : meth.sig.returnType = some .int) (hd : decode c.code pc = .ok (.ireturn, 1)) {fs : List Frame}
    (hl : ∀ (f : JFrame) (acts : List Action), f.method = m → f.locked = none → f.entered = [] → (doReturn e (T.setTop f) acts (some (.int z))).1 = T.setFrames fs) : Steps p.tables e below (T.setTop (mkF m pc Ls (.int z :: rest))) (T.setFrames fs) := by
  have hm' : T.vm.method? m = some meth := X.method'
  have hn : narrow .int (.int z) = .int z := rfl
  show Steps p.tables e below (T.setTop { method := m, pc := pc, locals := Ls, stack := _ :: rest, locked := none }) _
  jvm_step X.here [X.here.top, hx, hd, hm', hret, hn]
  first | (intro acts; rw [hl _ acts rfl rfl rfl]) | rw [hl _ _ rfl rfl rfl]
  exact Steps.refl _
end New
end Jvm.RoadKit
namespace Jvm.Pilot.@@N@@
open Jvm Jvm.ClassFile Sem Op Lib Jvm.Free Jvm.Stand Jvm.LawKit Jvm.RoadKit Bundle Jvm.Pilot.@@N@@.Jvm.D
theorem own_go {tb : Tables} {e : Env} {below : List Frame} {A B : State} {R : State → Outcome → Prop} (h : ∀ t, Steps tb e below B t → Steps tb e below A t) (k : ∃ s₂ o, Steps tb e below B s₂ ∧ R s₂ o) : ∃ s₂ o, Steps tb e below A s₂ ∧ R s₂ o := by
  obtain ⟨s₂, o, h1, h2⟩ := k
  exact ⟨s₂, o, h _ h1, h2⟩
theorem own_w {Z : State} {a0 : Array Value} {d : Jvm.Cond} (hw : ∀ d ∈ tables_1, d.before a0 Z = true) (i : Nat) (h : tables_1[i]? = some d) : d.before a0 Z = true := hw _ (List.mem_of_getElem? h)
abbrev own_S (p : Program) (e : Env) (below : List Frame) (T : State) (f : JFrame) (t : State) : Prop := Steps p.tables e below (T.setTop f) t
abbrev own_y0 : MethodName := ⟨"java/lang/String", "isLatin1", "()Z"⟩
abbrev own_y1 : MethodName := ⟨"java/lang/String", "coder", "()B"⟩
abbrev own_y2 : MethodName := ⟨"java/lang/String", "length", "()I"⟩
abbrev own_y3 : MethodName := ⟨"jdk/internal/util/Preconditions", "checkIndex", "(IILjava/util/function/BiFunction;)I"⟩
abbrev own_y4 : MethodName := ⟨"java/lang/String", "checkIndex", "(II)V"⟩
abbrev own_y5 : MethodName := ⟨"java/lang/StringLatin1", "charAt", "([BI)C"⟩
abbrev own_y6 : MethodName := ⟨"java/lang/String", "charAt", "(I)C"⟩
abbrev own_y7 : MethodName := ⟨"java/lang/StringUTF16", "compress", "([CI[BII)I"⟩
abbrev own_y8 : MethodName := ⟨"java/lang/StringUTF16", "compress", "([CII)[B"⟩
abbrev own_y9 : MethodName := ⟨"java/lang/StringUTF16", "coderFromArrayLen", "([BI)B"⟩
abbrev own_y10 : MethodName := ⟨"java/lang/String", "<init>", "([CIILjava/lang/Void;)V"⟩
abbrev own_y11 : MethodName := ⟨"java/lang/String", "<init>", "([C)V"⟩
abbrev own_y12 : MethodName := ⟨"java/lang/StringLatin1", "canEncode", "(I)Z"⟩
abbrev own_y13 : MethodName := ⟨"java/lang/Math", "max", "(II)I"⟩
abbrev own_y14 : MethodName := ⟨"java/lang/Math", "min", "(II)I"⟩
abbrev own_y15 : MethodName := ⟨"jdk/internal/util/Preconditions", "checkFromToIndex", "(IIILjava/util/function/BiFunction;)I"⟩
abbrev own_y16 : MethodName := ⟨"java/lang/String", "checkBoundsBeginEnd", "(III)V"⟩
abbrev own_y17 : MethodName := ⟨"java/util/Arrays", "checkLength", "(II)V"⟩
abbrev own_y18 : MethodName := ⟨"java/lang/String", "<init>", "([BB)V"⟩
abbrev own_y19 : MethodName := ⟨"java/util/Arrays", "copyOfRangeByte", "([BII)[B"⟩
abbrev own_y20 : MethodName := ⟨"java/util/Arrays", "copyOfRange", "([BII)[B"⟩
abbrev own_y21 : MethodName := ⟨"java/lang/StringLatin1", "newString", "([BII)Ljava/lang/String;"⟩
abbrev own_y22 : MethodName := ⟨"java/lang/String", "substring", "(II)Ljava/lang/String;"⟩
abbrev own_y23 : MethodName := ⟨"java/lang/String", "substring", "(I)Ljava/lang/String;"⟩
abbrev own_y24 : MethodName := ⟨"java/lang/StringLatin1", "indexOf", "([BIII)I"⟩
abbrev own_y25 : MethodName := ⟨"java/lang/String", "indexOf", "(II)I"⟩
abbrev own_y26 : MethodName := ⟨"java/lang/String", "indexOf", "(I)I"⟩
abbrev own_y27 : MethodName := ⟨"java/lang/StringLatin1", "indexOfChar", "([BIII)I"⟩
abbrev own_y28 : MethodName := ⟨"com/example/arcas/arcas/http/RequestLineQueryPinLaw", "ch", "(I)C"⟩
abbrev own_y29 : MethodName := ⟨"com/example/arcas/arcas/http/RequestLineQueryPinLaw", "take", "(ICCCC)[C"⟩
abbrev own_y30 : MethodName := ⟨"com/example/arcas/arcas/http/RequestLine", "query", "(Ljava/lang/String;)Ljava/lang/String;"⟩
abbrev own_y31 : MethodName := ⟨"com/example/arcas/arcas/http/RequestLineQueryPinLaw", "at", "(Ljava/lang/String;I[CII)Z"⟩
theorem own_pd0 : parseMethodDescriptor "()B" = some ⟨[], some .byte⟩ := by decide +kernel
theorem own_pd1 : parseMethodDescriptor "(IILjava/util/function/BiFunction;)I" = some ⟨[.int, .int, (.object "java/util/function/BiFunction")], some .int⟩ := by decide +kernel
theorem own_pd2 : parseMethodDescriptor "(II)V" = some ⟨[.int, .int], none⟩ := by decide +kernel
theorem own_pd3 : parseMethodDescriptor "()Z" = some ⟨[], some .boolean⟩ := by decide +kernel
theorem own_pd4 : parseMethodDescriptor "([BI)C" = some ⟨[(.array .byte), .int], some .char⟩ := by decide +kernel
theorem own_pd5 : parseMethodDescriptor "([CI[BII)I" = some ⟨[(.array .char), .int, (.array .byte), .int, .int], some .int⟩ := by decide +kernel
theorem own_pd6 : parseMethodDescriptor "([CIILjava/lang/Void;)V" = some ⟨[(.array .char), .int, .int, (.object "java/lang/Void")], none⟩ := by decide +kernel
theorem own_pd7 : parseMethodDescriptor "([CII)[B" = some ⟨[(.array .char), .int, .int], some (.array .byte)⟩ := by decide +kernel
theorem own_pd8 : parseMethodDescriptor "([BI)B" = some ⟨[(.array .byte), .int], some .byte⟩ := by decide +kernel
theorem own_pd9 : parseMethodDescriptor "(IIILjava/util/function/BiFunction;)I" = some ⟨[.int, .int, .int, (.object "java/util/function/BiFunction")], some .int⟩ := by decide +kernel
theorem own_pd10 : parseMethodDescriptor "([BII)[B" = some ⟨[(.array .byte), .int, .int], some (.array .byte)⟩ := by decide +kernel
theorem own_pd11 : parseMethodDescriptor "()I" = some ⟨[], some .int⟩ := by decide +kernel
theorem own_pd12 : parseMethodDescriptor "(III)V" = some ⟨[.int, .int, .int], none⟩ := by decide +kernel
theorem own_pd13 : parseMethodDescriptor "([BII)Ljava/lang/String;" = some ⟨[(.array .byte), .int, .int], some (.object "java/lang/String")⟩ := by decide +kernel
theorem own_pd14 : parseMethodDescriptor "(II)Ljava/lang/String;" = some ⟨[.int, .int], some (.object "java/lang/String")⟩ := by decide +kernel
theorem own_pd15 : parseMethodDescriptor "([BIII)I" = some ⟨[(.array .byte), .int, .int, .int], some .int⟩ := by decide +kernel
theorem own_pd16 : parseMethodDescriptor "(II)I" = some ⟨[.int, .int], some .int⟩ := by decide +kernel
theorem own_pd17 : parseMethodDescriptor "(I)Z" = some ⟨[.int], some .boolean⟩ := by decide +kernel
theorem own_pd18 : parseMethodDescriptor "([BB)V" = some ⟨[(.array .byte), .byte], none⟩ := by decide +kernel
theorem own_pd19 : parseMethodDescriptor "(I)I" = some ⟨[.int], some .int⟩ := by decide +kernel
theorem own_pd20 : parseMethodDescriptor "(I)Ljava/lang/String;" = some ⟨[.int], some (.object "java/lang/String")⟩ := by decide +kernel
theorem own_pd21 : parseMethodDescriptor "(I)C" = some ⟨[.int], some .char⟩ := by decide +kernel
theorem own_pd22 : parseMethodDescriptor "(Ljava/lang/String;I[CII)Z" = some ⟨[(.object "java/lang/String"), .int, (.array .char), .int, .int], some .boolean⟩ := by decide +kernel
theorem own_pd23 : parseMethodDescriptor "(ICCCC)[C" = some ⟨[.int, .char, .char, .char, .char], some (.array .char)⟩ := by decide +kernel
theorem own_pd24 : parseMethodDescriptor "([C)V" = some ⟨[(.array .char)], none⟩ := by decide +kernel
theorem own_pd25 : parseMethodDescriptor "(Ljava/lang/String;)Ljava/lang/String;" = some ⟨[(.object "java/lang/String")], some (.object "java/lang/String")⟩ := by decide +kernel
theorem own_safe {Z : State} {EL : List (String × Nat)} {vm : Vm} {h : Heap} {x : Addr} (hal : Z.vm.Alike vm) (E : Exa Z h x "java/lang/String") (F : Fld Z h x "java/lang/String" "value" "[B" .null) : Safe Z EL vm h x := fun B => by
  obtain ⟨p, -, u, a, -, q, -, G, rfl | rfl⟩ := B
  · obtain ⟨cS, ⟨⟨s1, s2, s3, ⟨cv, kv, iv, s4, s4'⟩, -, s6, s7, s8, -⟩, -, -⟩, -⟩ := G
    obtain ⟨kv', z4⟩ := ff_back (Z := Z) (U := Wst Z vm h) hal s4
    have F2 : Fld Z h q.sa "java/lang/String" "value" "[B" (.ref q.sd) := ⟨q.sC, cv, kv', iv, q.fSV, s1, z4, s6, s2, s3, by rw [← hal.assignable]; exact s4', s8⟩
    exact Fld.ne F F2 (by simp) rfl
  · obtain ⟨cell, k, e1, e2, e3, -, -⟩ := E
    cases (show h[q.sd]? = some q.SA from G.hd).symm.trans e1
    obtain ⟨cS, -, -, f, -⟩ := G
    have f' : Z.vm.findClass "[B" = some q.SA.cls := (hal.findClass _ _).symm.trans f
    obtain ⟨k1, q1, q2⟩ := Vm.findClass_spec f'
    obtain ⟨k2, q3, q4⟩ := Vm.findClass_spec e2
    cases q1.symm.trans q3
    exact absurd (q2.symm.trans q4) (by decide)
theorem own_ext {h h' : Heap} (K : Keep h h' []) : Ext h h' := ⟨K.1, fun a c q => K.2.1 a c q nin0⟩
theorem own_wS {Z : State} {a0 : Array Value} (hw : ∀ d ∈ tables_1, d.before a0 Z = true) : ∀ a ∈ Bundle.stringAtoms, a.before a0 Z = true := fun d hd => hw d ((by decide +kernel : ∀ d ∈ Bundle.stringAtoms, d ∈ tables_1) d hd)
theorem own_ht0 : (∀ c ∈ "".toList, c.toNat < 256) ∧ "".toList.map (fun c => Value.int (Jvm.Lit.byteI c.toNat.toUInt16)) = [] := ⟨fun c hc => by simp at hc, rfl⟩
theorem own_hEL {Z : State} {a0 : Array Value} (hw : ∀ d ∈ tables_1, d.before a0 Z = true) : EW Z a0 consts_1 := EW.cons (text := "") (own_w hw 74 rfl) own_ht0.1 (EW.cons (text := "") (own_w hw 22 rfl) own_ht0.1 (EW.cons (text := "") (own_w hw 146 rfl) own_ht0.1 (EW.nil)))
theorem pn_9 : plainName "java/lang/String" = true := by first | (simp [plainName, overriddenIn]; done) | decide +kernel
theorem d9_0 : decode jdk_42_method_154_code 0 = .ok (.getstatic 38, 3) := by decide +kernel
theorem d9_3 : decode jdk_42_method_154_code 3 = .ok (.ifCond .eq 14, 3) := by decide +kernel
theorem d9_6 : decode jdk_42_method_154_code 6 = .ok (.aload_n 0, 1) := by decide +kernel
theorem d9_7 : decode jdk_42_method_154_code 7 = .ok (.getfield 15, 3) := by decide +kernel
theorem d9_10 : decode jdk_42_method_154_code 10 = .ok (.ifCond .ne 7, 3) := by decide +kernel
theorem d9_13 : decode jdk_42_method_154_code 13 = .ok (.iconst 1, 1) := by decide +kernel
theorem d9_14 : decode jdk_42_method_154_code 14 = .ok (.goto 4, 3) := by decide +kernel
theorem d9_18 : decode jdk_42_method_154_code 18 = .ok (.ireturn, 1) := by decide +kernel
theorem ef_9 (m : MethodId) (x0 : Addr) : entryFrame m #[(.ref x0)] 1 = mkF m 0 #[.val (.ref x0)] [] := by first | (simp [entryFrame, mkF, argsToLocals, Value.category]; done) | rfl
def Q9 (Z : State) (a1 : Addr) (GC : Int32) (h0 : Heap) (n0 : Nat) (v : Option Value) (h : Heap) (L : List Loc) : Prop := v = some (.int (1 : Int32)) ∧ Fr n0 L ∧ h = h0
set_option maxRecDepth 65536 in
set_option maxHeartbeats 40000000 in
theorem rm9 (l : Launch) (Z : State) (a0 : Array Value) (hw : ∀ d ∈ tables_1, d.before a0 Z = true) (ws : List Jvm.Cond) (a1 : Addr) (GC : Int32) (h0 : Heap) (n0 : Nat) (Z0 : n0 ≤ h0.size) (S_C : Sta Z Z.heap "java/lang/String" "COMPACT_STRINGS" "Z" (.int GC)) (hGC : ¬ GC = (0 : Int32)) (O0 : Old Z n0 h0) (F_c : Fld Z h0 a1 "java/lang/String" "coder" "B" (.int (0 : Int32))) :
    MetFree l own_y0 (head1 (Jvm.Cond.code own_y0 jdk_42_method_154_code 1 (some .boolean) :: ws) ({ frames := 0, cells := 0, slots := 0, locals := 0 } : Room)) (fun a U => a = #[(.ref a1)] ∧ Z.Warmed39 U.vm ∧ U.heap = h0) (fun _ _ _ _ _ => True) (fun _ U o U' => ∃ v L, o = .returned v ∧ Q9 Z a1 GC h0 n0 v U'.heap L ∧ FrameEnd U o U' L ({ frames := 0, cells := 0, slots := 0, locals := 0 } : Room).cells ({ frames := 0, cells := 0, slots := 0, locals := 0 } : Room).slots) := by
  refine MetFree.of_bodySF (plainFor_of_name pn_9) hisR ?_
  intro p e s m args below meth c s₁ Bd hml0 hP hK
  obtain ⟨rfl, hZ, hh⟩ := hP
  have hx := Bd.exec
  have hby := Bd.bytes
  have hml : c.maxLocals = 1 := hml0
  have hown : s.vm.findClass "java/lang/String" = some m.cls := findClass_of_methodNamed Bd.named
  have hnm := (name_of_methodNamed Bd.named Bd.method).1
  have X0 : Stand p l e ({ frames := 0, cells := 0, slots := 0, locals := 0 } : Room) s m #[(.ref a1)] below meth c s₁ [] 0 0 := Stand.of_body Bd
  have e0 : s₁.heap = h0 := by rw [← hh, Bd.state]; rfl
  have N0 := Fr.nil n0
  refine own_go (B := s₁.setTop (mkF m 0 #[rv a1] [])) (fun t k => castTop (ef_9 m a1) k) ?_
  obtain ⟨T1, X1, e1, st1⟩ := getS2 X0 hx hZ hown (host := "") (Or.inl (own_w hw 49 rfl)) Via.refl e0 (S_C.ext O0.2) (g := (mkF m 0 #[rv a1] [])) rfl (hb hby d9_0)
  refine own_go (B := T1.setTop (mkF m 3 #[rv a1] [(.int GC)])) (fun t k => st1 _ k) ?_
  refine own_go (B := T1.setTop (mkF m 7 #[rv a1] [(.ref a1)])) (fun t k => ?_) ?_
  · show own_S p e below T1 (mkF m 3 #[rv a1] [(.int GC)]) _
    refine XS.ifNo X1.here hx rfl (hb hby d9_3) rfl ((if0 _ _).trans (feq hGC).1) ?_
    refine XS.aloadN X1.here hx rfl (hb hby d9_6) rfl rfl ?_
    exact k
  obtain ⟨T2, X2, e2, st2⟩ := getF X1 hx hZ hown (host := "") (Or.inl (own_w hw 29 rfl)) Via.refl e1 F_c (g := (mkF m 7 #[rv a1] [(.ref a1)])) rfl rfl (hb hby d9_7)
  refine own_go (B := T2.setTop (mkF m 10 #[rv a1] [(.int 0)])) (fun t k => st2 _ k) ?_
  obtain ⟨fs, hr, hrun, hended, hW, hsame⟩ := X2.leave (v := some (.int 1)) (fun h => by rw [Bd.returns] at h; cases h)
  refine ⟨_, _, ?_, hrun, hended, _, _, rfl, ?_, ⟨_, rfl⟩, hW, hsame.mono (by decide) (by decide)⟩
  · show own_S p e below T2 (mkF m 10 #[rv a1] [(.int 0)]) _
    refine XS.ifNo X2.here hx rfl (hb hby d9_10) rfl ((if0 _ _).trans (teq (by decide)).2) ?_
    refine XS.iconst X2.here hx rfl (hb hby d9_13) ?_
    refine XS.goto X2.here hx rfl (pc0 := 14) (pc' := 18) rfl (hb hby d9_14) (by decide) (by decide) ?_
    show own_S p e below T2 (mkF m 18 #[rv a1] [(.int 1)]) _
    exact retN X2 hx (t := .boolean) Bd.returns (by simp) (hb hby d9_18) hr
  · show Q9 Z a1 GC h0 n0 _ T2.heap _
    rw [e2]
    exact ⟨rfl, N0, rfl⟩
theorem pn_11 : plainName "java/lang/String" = true := by first | (simp [plainName, overriddenIn]; done) | decide +kernel
theorem d11_0 : decode jdk_42_method_152_code 0 = .ok (.getstatic 38, 3) := by decide +kernel
theorem d11_3 : decode jdk_42_method_152_code 3 = .ok (.ifCond .eq 10, 3) := by decide +kernel
theorem d11_6 : decode jdk_42_method_152_code 6 = .ok (.aload_n 0, 1) := by decide +kernel
theorem d11_7 : decode jdk_42_method_152_code 7 = .ok (.getfield 15, 3) := by decide +kernel
theorem d11_10 : decode jdk_42_method_152_code 10 = .ok (.goto 4, 3) := by decide +kernel
theorem d11_14 : decode jdk_42_method_152_code 14 = .ok (.ireturn, 1) := by decide +kernel
theorem ef_11 (m : MethodId) (x0 : Addr) : entryFrame m #[(.ref x0)] 1 = mkF m 0 #[.val (.ref x0)] [] := by first | (simp [entryFrame, mkF, argsToLocals, Value.category]; done) | rfl
def Q11 (Z : State) (a1 : Addr) (GC : Int32) (h0 : Heap) (n0 : Nat) (v : Option Value) (h : Heap) (L : List Loc) : Prop := v = some (.int (0 : Int32)) ∧ Fr n0 L ∧ h = h0
set_option maxRecDepth 65536 in
set_option maxHeartbeats 40000000 in
theorem rm11 (l : Launch) (Z : State) (a0 : Array Value) (hw : ∀ d ∈ tables_1, d.before a0 Z = true) (ws : List Jvm.Cond) (a1 : Addr) (GC : Int32) (h0 : Heap) (n0 : Nat) (Z0 : n0 ≤ h0.size) (S_C : Sta Z Z.heap "java/lang/String" "COMPACT_STRINGS" "Z" (.int GC)) (hGC : ¬ GC = (0 : Int32)) (O0 : Old Z n0 h0) (F_c : Fld Z h0 a1 "java/lang/String" "coder" "B" (.int (0 : Int32))) :
    MetFree l own_y1 (head1 (Jvm.Cond.code own_y1 jdk_42_method_152_code 1 (some .byte) :: ws) ({ frames := 0, cells := 0, slots := 0, locals := 0 } : Room)) (fun a U => a = #[(.ref a1)] ∧ Z.Warmed39 U.vm ∧ U.heap = h0) (fun _ _ _ _ _ => True) (fun _ U o U' => ∃ v L, o = .returned v ∧ Q11 Z a1 GC h0 n0 v U'.heap L ∧ FrameEnd U o U' L ({ frames := 0, cells := 0, slots := 0, locals := 0 } : Room).cells ({ frames := 0, cells := 0, slots := 0, locals := 0 } : Room).slots) := by
  refine MetFree.of_bodySF (plainFor_of_name pn_11) hisR ?_
  intro p e s m args below meth c s₁ Bd hml0 hP hK
  obtain ⟨rfl, hZ, hh⟩ := hP
  have hx := Bd.exec
  have hby := Bd.bytes
  have hml : c.maxLocals = 1 := hml0
  have hown : s.vm.findClass "java/lang/String" = some m.cls := findClass_of_methodNamed Bd.named
  have hnm := (name_of_methodNamed Bd.named Bd.method).1
  have X0 : Stand p l e ({ frames := 0, cells := 0, slots := 0, locals := 0 } : Room) s m #[(.ref a1)] below meth c s₁ [] 0 0 := Stand.of_body Bd
  have e0 : s₁.heap = h0 := by rw [← hh, Bd.state]; rfl
  have N0 := Fr.nil n0
  refine own_go (B := s₁.setTop (mkF m 0 #[rv a1] [])) (fun t k => castTop (ef_11 m a1) k) ?_
  obtain ⟨T1, X1, e1, st1⟩ := getS2 X0 hx hZ hown (host := "") (Or.inl (own_w hw 49 rfl)) Via.refl e0 (S_C.ext O0.2) (g := (mkF m 0 #[rv a1] [])) rfl (hb hby d11_0)
  refine own_go (B := T1.setTop (mkF m 3 #[rv a1] [(.int GC)])) (fun t k => st1 _ k) ?_
  refine own_go (B := T1.setTop (mkF m 7 #[rv a1] [(.ref a1)])) (fun t k => ?_) ?_
  · show own_S p e below T1 (mkF m 3 #[rv a1] [(.int GC)]) _
    refine XS.ifNo X1.here hx rfl (hb hby d11_3) rfl ((if0 _ _).trans (feq hGC).1) ?_
    refine XS.aloadN X1.here hx rfl (hb hby d11_6) rfl rfl ?_
    exact k
  obtain ⟨T2, X2, e2, st2⟩ := getF X1 hx hZ hown (host := "") (Or.inl (own_w hw 29 rfl)) Via.refl e1 F_c (g := (mkF m 7 #[rv a1] [(.ref a1)])) rfl rfl (hb hby d11_7)
  refine own_go (B := T2.setTop (mkF m 10 #[rv a1] [(.int 0)])) (fun t k => st2 _ k) ?_
  obtain ⟨fs, hr, hrun, hended, hW, hsame⟩ := X2.leave (v := some (.int 0)) (fun h => by rw [Bd.returns] at h; cases h)
  refine ⟨_, _, ?_, hrun, hended, _, _, rfl, ?_, ⟨_, rfl⟩, hW, hsame.mono (by decide) (by decide)⟩
  · show own_S p e below T2 (mkF m 10 #[rv a1] [(.int 0)]) _
    refine XS.goto X2.here hx rfl (pc0 := 10) (pc' := 14) rfl (hb hby d11_10) (by decide) (by decide) ?_
    show own_S p e below T2 (mkF m 14 #[rv a1] [(.int 0)]) _
    exact retN X2 hx (t := .byte) Bd.returns (by simp) (hb hby d11_14) hr
  · show Q11 Z a1 GC h0 n0 _ T2.heap _
    rw [e2]
    exact ⟨rfl, N0, rfl⟩
theorem own_shr0 (z : Int32) : z >>> ((0 : Int32) &&& 31) = z := by
  apply Int32.toInt_inj.mp
  have q := c_ishr z 0 0 (by decide)
  rw [q]
  exact Int.ediv_one _
theorem pn_10 : plainName "java/lang/String" = true := by first | (simp [plainName, overriddenIn]; done) | decide +kernel
theorem d10_0 : decode jdk_42_method_54_code 0 = .ok (.aload_n 0, 1) := by decide +kernel
theorem d10_1 : decode jdk_42_method_54_code 1 = .ok (.getfield 9, 3) := by decide +kernel
theorem d10_4 : decode jdk_42_method_54_code 4 = .ok (.arraylength, 1) := by decide +kernel
theorem d10_5 : decode jdk_42_method_54_code 5 = .ok (.aload_n 0, 1) := by decide +kernel
theorem d10_6 : decode jdk_42_method_54_code 6 = .ok (.invokevirtual 335, 3) := by decide +kernel
theorem d10_9 : decode jdk_42_method_54_code 9 = .ok (.ishr, 1) := by decide +kernel
theorem d10_10 : decode jdk_42_method_54_code 10 = .ok (.ireturn, 1) := by decide +kernel
theorem ef_10 (m : MethodId) (x0 : Addr) : entryFrame m #[(.ref x0)] 1 = mkF m 0 #[.val (.ref x0)] [] := by first | (simp [entryFrame, mkF, argsToLocals, Value.category]; done) | rfl
def Q10 (Z : State) (a1 : Addr) (sb1 : Addr) (kb : ClassId) (z1 : Int32) (vs : List Value) (dv : Value) (GC : Int32) (h0 : Heap) (n0 : Nat) (v : Option Value) (h : Heap) (L : List Loc) : Prop := v = some (.int z1) ∧ Fr n0 L ∧ h = h0
set_option maxRecDepth 65536 in
set_option maxHeartbeats 40000000 in
theorem rm10 (l : Launch) (Z : State) (a0 : Array Value) (hw : ∀ d ∈ tables_1, d.before a0 Z = true) (ws : List Jvm.Cond) (a1 : Addr) (sb1 : Addr) (kb : ClassId) (z1 : Int32) (vs : List Value) (dv : Value) (GC : Int32) (h0 : Heap) (n0 : Nat) (Z0 : n0 ≤ h0.size) (S_C : Sta Z Z.heap "java/lang/String" "COMPACT_STRINGS" "Z" (.int GC)) (hGC : ¬ GC = (0 : Int32)) (O0 : Old Z n0 h0) (E_a1 : Exa Z h0 a1 "java/lang/String") (F_c : Fld Z h0 a1 "java/lang/String" "coder" "B" (.int (0 : Int32))) (F_v : Fld Z h0 a1 "java/lang/String" "value" "[B" (.ref sb1)) (V_b : Arv Z h0 sb1 kb .byte z1 vs dv) :
    MetFree l own_y2 (head1 (Jvm.Cond.code own_y2 jdk_42_method_54_code 1 (some .int) :: ws) ({ frames := 1, cells := 0, slots := 0, locals := 13 } : Room)) (fun a U => a = #[(.ref a1)] ∧ Z.Warmed39 U.vm ∧ U.heap = h0) (fun _ _ _ _ _ => True) (fun _ U o U' => ∃ v L, o = .returned v ∧ Q10 Z a1 sb1 kb z1 vs dv GC h0 n0 v U'.heap L ∧ FrameEnd U o U' L ({ frames := 1, cells := 0, slots := 0, locals := 13 } : Room).cells ({ frames := 1, cells := 0, slots := 0, locals := 13 } : Room).slots) := by
  refine MetFree.of_bodySF (plainFor_of_name pn_10) hisR ?_
  intro p e s m args below meth c s₁ Bd hml0 hP hK
  obtain ⟨rfl, hZ, hh⟩ := hP
  have hx := Bd.exec
  have hby := Bd.bytes
  have hml : c.maxLocals = 1 := hml0
  have hown : s.vm.findClass "java/lang/String" = some m.cls := findClass_of_methodNamed Bd.named
  have hnm := (name_of_methodNamed Bd.named Bd.method).1
  have X0 : Stand p l e ({ frames := 1, cells := 0, slots := 0, locals := 13 } : Room) s m #[(.ref a1)] below meth c s₁ [] 0 0 := Stand.of_body Bd
  have e0 : s₁.heap = h0 := by rw [← hh, Bd.state]; rfl
  have N0 := Fr.nil n0
  refine own_go (B := s₁.setTop (mkF m 0 #[rv a1] [])) (fun t k => castTop (ef_10 m a1) k) ?_
  refine own_go (B := s₁.setTop (mkF m 1 #[rv a1] [(.ref a1)])) (fun t k => ?_) ?_
  · show own_S p e below s₁ (mkF m 0 #[rv a1] []) _
    refine XS.aloadN X0.here hx rfl (hb hby d10_0) rfl rfl ?_
    exact k
  obtain ⟨T1, X1, e1, st1⟩ := getF X0 hx hZ hown (host := "") (Or.inl (own_w hw 28 rfl)) Via.refl e0 F_v (g := (mkF m 1 #[rv a1] [(.ref a1)])) rfl rfl (hb hby d10_1)
  refine own_go (B := T1.setTop (mkF m 4 #[rv a1] [(.ref sb1)])) (fun t k => st1 _ k) ?_
  obtain ⟨cl2, Ar2, qk2, S2, M2, H2, G2⟩ := id V_b
  refine own_go (B := T1.setTop (mkF m 6 #[rv a1] [(.ref a1), (.int z1)])) (fun t k => ?_) ?_
  · show own_S p e below T1 (mkF m 4 #[rv a1] [(.ref sb1)]) _
    refine X1.arraylength hx (by rw [e1]; exact Ar2.1) (State.isArrayOf_alike hZ.alike Ar2.2.1) (g := (mkF m 4 #[rv a1] [(.ref sb1)])) rfl rfl (hb hby d10_4) _ ?_
    rw [len_of S2 M2]
    refine XS.aloadN X1.here hx rfl (hb hby d10_5) rfl rfl ?_
    exact k
  obtain ⟨cq3, kq3, q3a, q3b, q3c⟩ := isOf hZ e1 E_a1
  obtain ⟨_, _, ⟨T3, L3, k3, n3⟩, -, X3, ⟨Lc3, hQ3, l3, y3, z3⟩, st3⟩ := X1.virtualBack hx (y := own_y1) (z := own_y1) hown (mvT hZ (own_w hw 55 rfl)) (mvT hZ (own_w hw 56 rfl)) (notFace_of_selects (args := #[]) (mvT hZ (own_w hw 58 rfl))) (mvT hZ (own_w hw 58 rfl)) (mvT hZ (own_w hw 57 rfl)) (by decide) (backOf (W := 1) (rm11 l Z a0 hw [] a1 GC h0 n0 Z0 S_C hGC O0 F_c) hZ (own_w hw 59 rfl) (own_w hw 11 rfl) (by decide) (by decide)) q3a q3c (g := (mkF m 6 #[rv a1] [(.ref a1), (.int z1)])) rfl (by rw [hml]; rfl) (Steps.refl _) (argsL := []) (rest := [(.int z1)]) (lenOf own_pd0 rfl) rfl (by show 2 * 0 + _ ≤ _; exact Nat.le_of_eq rfl) (hb hby d10_6) (fun _ _ => ⟨rfl, e1, (by decide : 0 + 0 ≤ _), (by decide : 0 + 0 ≤ _)⟩)
  dsimp only [Pt.U, Pt.locs, Pt.cells, Pt.slots] at X3 l3 y3 z3 st3 hQ3
  subst l3 y3 z3
  obtain ⟨rfl, N3q, eq3⟩ := hQ3
  have N3 := Fr.app N0 N3q
  refine own_go (B := T3.setTop (mkF m 9 #[rv a1] [(.int 0), (.int z1)])) (fun t k => st3.trans k) ?_
  obtain ⟨fs, hr, hrun, hended, hW, hsame⟩ := X3.leave (v := some (.int (z1 >>> ((0 : Int32) &&& 31)))) (fun h => by rw [Bd.returns] at h; cases h)
  refine ⟨_, _, ?_, hrun, hended, _, _, rfl, ?_, ⟨_, rfl⟩, hW, hsame.mono (by decide) (by decide)⟩
  · show own_S p e below T3 (mkF m 9 #[rv a1] [(.int 0), (.int z1)]) _
    refine XS.ishr X3.here hx rfl (hb hby d10_9) rfl ?_
    show own_S p e below T3 (mkF m 10 #[rv a1] [(.int (z1 >>> ((0 : Int32) &&& 31)))]) _
    exact retI X3 hx Bd.returns (hb hby d10_10) hr
  · show Q10 Z a1 sb1 kb z1 vs dv GC h0 n0 _ T3.heap _
    rw [eq3]
    exact ⟨by rw [own_shr0], N3, rfl⟩
theorem pn_33 : plainName "jdk/internal/util/Preconditions" = true := by first | (simp [plainName, overriddenIn]; done) | decide +kernel
theorem d33_0 : decode jdk_41_method_11_code 0 = .ok (.iload_n 0, 1) := by decide +kernel
theorem d33_1 : decode jdk_41_method_11_code 1 = .ok (.ifCond .lt 8, 3) := by decide +kernel
theorem d33_4 : decode jdk_41_method_11_code 4 = .ok (.iload_n 0, 1) := by decide +kernel
theorem d33_5 : decode jdk_41_method_11_code 5 = .ok (.iload_n 1, 1) := by decide +kernel
theorem d33_6 : decode jdk_41_method_11_code 6 = .ok (.if_icmp .lt 10, 3) := by decide +kernel
theorem d33_16 : decode jdk_41_method_11_code 16 = .ok (.iload_n 0, 1) := by decide +kernel
theorem d33_17 : decode jdk_41_method_11_code 17 = .ok (.ireturn, 1) := by decide +kernel
theorem ef_33 (m : MethodId) (x0 : Int32) (x1 : Int32) (x2 : Value) (hx2 : x2.isRef = true) : entryFrame m #[(.int x0), (.int x1), x2] 3 = mkF m 0 #[.val (.int x0), .val (.int x1), .val x2] [] := by rcases ref_cases hx2 with rfl | ⟨y2, rfl⟩ <;> first | (simp [entryFrame, mkF, argsToLocals, Value.category]; done) | rfl
def Q33 (Z : State) (p1 : Int32) (p2 : Int32) (GF : Value) (h0 : Heap) (n0 : Nat) (v : Option Value) (h : Heap) (L : List Loc) : Prop := v = some (.int p1) ∧ Fr n0 L ∧ h = h0
set_option maxRecDepth 65536 in
set_option maxHeartbeats 40000000 in
theorem rm33 (l : Launch) (Z : State) (a0 : Array Value) (hw : ∀ d ∈ tables_1, d.before a0 Z = true) (ws : List Jvm.Cond) (p1 : Int32) (p2 : Int32) (GF : Value) (h0 : Heap) (n0 : Nat) (Z0 : n0 ≤ h0.size) (is_GF : GF.isRef = true) (hin : ¬ p1 < 0 ∧ p1 < p2) :
    MetFree l own_y3 (head1 (Jvm.Cond.code own_y3 jdk_41_method_11_code 3 (some .int) :: ws) ({ frames := 0, cells := 0, slots := 0, locals := 0 } : Room)) (fun a U => a = #[(.int p1), (.int p2), GF] ∧ Z.Warmed39 U.vm ∧ U.heap = h0) (fun _ _ _ _ _ => True) (fun _ U o U' => ∃ v L, o = .returned v ∧ Q33 Z p1 p2 GF h0 n0 v U'.heap L ∧ FrameEnd U o U' L ({ frames := 0, cells := 0, slots := 0, locals := 0 } : Room).cells ({ frames := 0, cells := 0, slots := 0, locals := 0 } : Room).slots) := by
  refine MetFree.of_bodySF (plainFor_of_name pn_33) hisR ?_
  intro p e s m args below meth c s₁ Bd hml0 hP hK
  obtain ⟨rfl, hZ, hh⟩ := hP
  have hx := Bd.exec
  have hby := Bd.bytes
  have hml : c.maxLocals = 3 := hml0
  have hown : s.vm.findClass "jdk/internal/util/Preconditions" = some m.cls := findClass_of_methodNamed Bd.named
  have hnm := (name_of_methodNamed Bd.named Bd.method).1
  have X0 : Stand p l e ({ frames := 0, cells := 0, slots := 0, locals := 0 } : Room) s m #[(.int p1), (.int p2), GF] below meth c s₁ [] 0 0 := Stand.of_body Bd
  have e0 : s₁.heap = h0 := by rw [← hh, Bd.state]; rfl
  have N0 := Fr.nil n0
  refine own_go (B := s₁.setTop (mkF m 0 #[iv p1, iv p2, .val GF] [])) (fun t k => castTop (ef_33 m p1 p2 GF is_GF) k) ?_
  obtain ⟨fs, hr, hrun, hended, hW, hsame⟩ := X0.leave (v := some (.int p1)) (fun h => by rw [Bd.returns] at h; cases h)
  refine ⟨_, _, ?_, hrun, hended, _, _, rfl, ?_, ⟨_, rfl⟩, hW, hsame.mono (by decide) (by decide)⟩
  · show own_S p e below s₁ (mkF m 0 #[iv p1, iv p2, .val GF] []) _
    refine XS.iloadN X0.here hx rfl (hb hby d33_0) rfl ?_
    refine XS.ifNo X0.here hx rfl (hb hby d33_1) rfl ((if0 _ _).trans (flt hin.1).1) ?_
    refine XS.iloadN X0.here hx rfl (hb hby d33_4) rfl ?_
    show own_S p e below s₁ (mkF m 5 #[iv p1, iv p2, .val GF] [(.int p1)]) _
    refine XS.iloadN X0.here hx rfl (hb hby d33_5) rfl ?_
    refine XS.icmpYes X0.here hx rfl (pc0 := 6) (pc' := 16) rfl (hb hby d33_6) rfl (tlt hin.2).1 (by decide) (by decide) ?_
    refine XS.iloadN X0.here hx rfl (hb hby d33_16) rfl ?_
    show own_S p e below s₁ (mkF m 17 #[iv p1, iv p2, .val GF] [(.int p1)]) _
    exact retI X0 hx Bd.returns (hb hby d33_17) hr
  · show Q33 Z p1 p2 GF h0 n0 _ s₁.heap _
    rw [e0]
    exact ⟨rfl, N0, rfl⟩
theorem pn_32 : plainName "java/lang/String" = true := by first | (simp [plainName, overriddenIn]; done) | decide +kernel
theorem d32_0 : decode jdk_42_method_155_code 0 = .ok (.iload_n 0, 1) := by decide +kernel
theorem d32_1 : decode jdk_42_method_155_code 1 = .ok (.iload_n 1, 1) := by decide +kernel
theorem d32_2 : decode jdk_42_method_155_code 2 = .ok (.getstatic 1053, 3) := by decide +kernel
theorem d32_5 : decode jdk_42_method_155_code 5 = .ok (.invokestatic 1059, 3) := by decide +kernel
theorem d32_8 : decode jdk_42_method_155_code 8 = .ok (.pop, 1) := by decide +kernel
theorem d32_9 : decode jdk_42_method_155_code 9 = .ok (.return_, 1) := by decide +kernel
theorem ef_32 (m : MethodId) (x0 : Int32) (x1 : Int32) : entryFrame m #[(.int x0), (.int x1)] 2 = mkF m 0 #[.val (.int x0), .val (.int x1)] [] := by first | (simp [entryFrame, mkF, argsToLocals, Value.category]; done) | rfl
def Q32 (Z : State) (p1 : Int32) (p2 : Int32) (GF : Value) (h0 : Heap) (n0 : Nat) (v : Option Value) (h : Heap) (L : List Loc) : Prop := v = none ∧ Fr n0 L ∧ h = h0
set_option maxRecDepth 65536 in
set_option maxHeartbeats 40000000 in
theorem rm32 (l : Launch) (Z : State) (a0 : Array Value) (hw : ∀ d ∈ tables_1, d.before a0 Z = true) (ws : List Jvm.Cond) (p1 : Int32) (p2 : Int32) (GF : Value) (h0 : Heap) (n0 : Nat) (Z0 : n0 ≤ h0.size) (S_F : Sta Z Z.heap "jdk/internal/util/Preconditions" "SIOOBE_FORMATTER" "Ljava/util/function/BiFunction;" GF) (is_GF : GF.isRef = true) (O0 : Old Z n0 h0) (hin : ¬ p1 < 0 ∧ p1 < p2) :
    MetFree l own_y4 (head1 (Jvm.Cond.code own_y4 jdk_42_method_155_code 2 none :: ws) ({ frames := 1, cells := 0, slots := 0, locals := 14 } : Room)) (fun a U => a = #[(.int p1), (.int p2)] ∧ Z.Warmed39 U.vm ∧ U.heap = h0) (fun _ _ _ _ _ => True) (fun _ U o U' => ∃ v L, o = .returned v ∧ Q32 Z p1 p2 GF h0 n0 v U'.heap L ∧ FrameEnd U o U' L ({ frames := 1, cells := 0, slots := 0, locals := 14 } : Room).cells ({ frames := 1, cells := 0, slots := 0, locals := 14 } : Room).slots) := by
  refine MetFree.of_bodySF (plainFor_of_name pn_32) hisR ?_
  intro p e s m args below meth c s₁ Bd hml0 hP hK
  obtain ⟨rfl, hZ, hh⟩ := hP
  have hx := Bd.exec
  have hby := Bd.bytes
  have hml : c.maxLocals = 2 := hml0
  have hown : s.vm.findClass "java/lang/String" = some m.cls := findClass_of_methodNamed Bd.named
  have hnm := (name_of_methodNamed Bd.named Bd.method).1
  have X0 : Stand p l e ({ frames := 1, cells := 0, slots := 0, locals := 14 } : Room) s m #[(.int p1), (.int p2)] below meth c s₁ [] 0 0 := Stand.of_body Bd
  have e0 : s₁.heap = h0 := by rw [← hh, Bd.state]; rfl
  have N0 := Fr.nil n0
  refine own_go (B := s₁.setTop (mkF m 0 #[iv p1, iv p2] [])) (fun t k => castTop (ef_32 m p1 p2) k) ?_
  refine own_go (B := s₁.setTop (mkF m 2 #[iv p1, iv p2] [(.int p2), (.int p1)])) (fun t k => ?_) ?_
  · show own_S p e below s₁ (mkF m 0 #[iv p1, iv p2] []) _
    refine XS.iloadN X0.here hx rfl (hb hby d32_0) rfl ?_
    refine XS.iloadN X0.here hx rfl (hb hby d32_1) rfl ?_
    exact k
  obtain ⟨T1, X1, e1, st1⟩ := getS2 X0 hx hZ hown (host := "") (Or.inl (own_w hw 105 rfl)) Via.refl e0 (S_F.ext O0.2) (g := (mkF m 2 #[iv p1, iv p2] [(.int p2), (.int p1)])) rfl (hb hby d32_2)
  refine own_go (B := T1.setTop (mkF m 5 #[iv p1, iv p2] [GF, (.int p2), (.int p1)])) (fun t k => st1 _ k) ?_
  obtain ⟨_, _, ⟨T2, L2, k2, n2⟩, -, X2, ⟨Lc2, hQ2, l2, y2, z2⟩, st2⟩ := Jvm.LawKit.callS X1 hx (y := own_y3) hown (mvT hZ (own_w hw 143 rfl)) (mvT hZ (own_w hw 144 rfl)) (mvT hZ (own_w hw 106 rfl)) (mvT hZ (own_w hw 145 rfl)) (by decide) (backOf (W := 0) (rm33 l Z a0 hw [] p1 p2 GF h0 n0 Z0 is_GF hin) hZ (own_w hw 145 rfl) (own_w hw 106 rfl) (by decide) (by decide)) (g := (mkF m 5 #[iv p1, iv p2] [GF, (.int p2), (.int p1)])) rfl (by rw [hml]; rfl) (argsL := [(.int p1), (.int p2), GF]) (rest := []) (lenOf own_pd1 rfl) rfl (by show 2 * 0 + _ ≤ _; exact Nat.le_of_eq rfl) (hb hby d32_5) (fun _ _ => ⟨rfl, e1, (by decide : 0 + 0 ≤ _), (by decide : 0 + 0 ≤ _)⟩)
  dsimp only [Pt.U, Pt.locs, Pt.cells, Pt.slots] at X2 l2 y2 z2 st2 hQ2
  subst l2 y2 z2
  obtain ⟨rfl, N2q, eq2⟩ := hQ2
  have N2 := Fr.app N0 N2q
  refine own_go (B := T2.setTop (mkF m 8 #[iv p1, iv p2] [(.int p1)])) (fun t k => st2 _ k) ?_
  obtain ⟨fs, hr, hrun, hended, hW, hsame⟩ := X2.leave (v := none) (fun _ => rfl)
  refine ⟨_, _, ?_, hrun, hended, _, _, rfl, ?_, ⟨_, rfl⟩, hW, hsame.mono (by decide) (by decide)⟩
  · show own_S p e below T2 (mkF m 8 #[iv p1, iv p2] [(.int p1)]) _
    refine XS.pop X2.here hx rfl (hb hby d32_8) rfl rfl ?_
    show own_S p e below T2 (mkF m 9 #[iv p1, iv p2] []) _
    exact X2.returnOut hx Bd.returns (hb hby d32_9) hr
  · show Q32 Z p1 p2 GF h0 n0 _ T2.heap _
    rw [eq2]
    exact ⟨rfl, N2, rfl⟩
def own_c (x : Int32) : Int32 := nar .char (((x &&& (255 : Int32))).toUInt32.toUInt16.toUInt32.toInt32)
theorem own_cc (x : Int32) : nar .char (own_c x) = own_c x := by simp only [own_c, nar, UInt32.toUInt32_toInt32, UInt16.toUInt16_toUInt32]
theorem pn_31 : plainName "java/lang/StringLatin1" = true := by first | (simp [plainName, overriddenIn]; done) | decide +kernel
theorem d31_0 : decode jdk_43_method_2_code 0 = .ok (.iload_n 1, 1) := by decide +kernel
theorem d31_1 : decode jdk_43_method_2_code 1 = .ok (.aload_n 0, 1) := by decide +kernel
theorem d31_2 : decode jdk_43_method_2_code 2 = .ok (.arraylength, 1) := by decide +kernel
theorem d31_3 : decode jdk_43_method_2_code 3 = .ok (.invokestatic 9, 3) := by decide +kernel
theorem d31_6 : decode jdk_43_method_2_code 6 = .ok (.aload_n 0, 1) := by decide +kernel
theorem d31_7 : decode jdk_43_method_2_code 7 = .ok (.iload_n 1, 1) := by decide +kernel
theorem d31_8 : decode jdk_43_method_2_code 8 = .ok (.baload, 1) := by decide +kernel
theorem d31_9 : decode jdk_43_method_2_code 9 = .ok (.sipush 255, 3) := by decide +kernel
theorem d31_12 : decode jdk_43_method_2_code 12 = .ok (.iand, 1) := by decide +kernel
theorem d31_13 : decode jdk_43_method_2_code 13 = .ok (.i2c, 1) := by decide +kernel
theorem d31_14 : decode jdk_43_method_2_code 14 = .ok (.ireturn, 1) := by decide +kernel
theorem ef_31 (m : MethodId) (x0 : Addr) (x1 : Int32) : entryFrame m #[(.ref x0), (.int x1)] 2 = mkF m 0 #[.val (.ref x0), .val (.int x1)] [] := by first | (simp [entryFrame, mkF, argsToLocals, Value.category]; done) | rfl
def Q31 (Z : State) (a1 : Addr) (p2 : Int32) (ka : ClassId) (z1 : Int32) (vs : List Value) (dv : Value) (x1 : Int32) (GF : Value) (h0 : Heap) (n0 : Nat) (v : Option Value) (h : Heap) (L : List Loc) : Prop := v = some (.int (own_c x1)) ∧ Fr n0 L ∧ h = h0
set_option maxRecDepth 65536 in
set_option maxHeartbeats 40000000 in
theorem rm31 (l : Launch) (Z : State) (a0 : Array Value) (hw : ∀ d ∈ tables_1, d.before a0 Z = true) (ws : List Jvm.Cond) (a1 : Addr) (p2 : Int32) (ka : ClassId) (z1 : Int32) (vs : List Value) (dv : Value) (x1 : Int32) (GF : Value) (h0 : Heap) (n0 : Nat) (Z0 : n0 ≤ h0.size) (V_a : Arv Z h0 a1 ka .byte z1 vs dv) (hin : ¬ p2 < 0 ∧ p2 < z1) (hat : vs.getD p2.toNatClampNeg dv = .int x1) (S_F : Sta Z Z.heap "jdk/internal/util/Preconditions" "SIOOBE_FORMATTER" "Ljava/util/function/BiFunction;" GF) (is_GF : GF.isRef = true) (O0 : Old Z n0 h0) :
    MetFree l own_y5 (head1 (Jvm.Cond.code own_y5 jdk_43_method_2_code 2 (some .char) :: ws) ({ frames := 2, cells := 0, slots := 0, locals := 27 } : Room)) (fun a U => a = #[(.ref a1), (.int p2)] ∧ Z.Warmed39 U.vm ∧ U.heap = h0) (fun _ _ _ _ _ => True) (fun _ U o U' => ∃ v L, o = .returned v ∧ Q31 Z a1 p2 ka z1 vs dv x1 GF h0 n0 v U'.heap L ∧ FrameEnd U o U' L ({ frames := 2, cells := 0, slots := 0, locals := 27 } : Room).cells ({ frames := 2, cells := 0, slots := 0, locals := 27 } : Room).slots) := by
  refine MetFree.of_bodySF (plainFor_of_name pn_31) hisR ?_
  intro p e s m args below meth c s₁ Bd hml0 hP hK
  obtain ⟨rfl, hZ, hh⟩ := hP
  have hx := Bd.exec
  have hby := Bd.bytes
  have hml : c.maxLocals = 2 := hml0
  have hown : s.vm.findClass "java/lang/StringLatin1" = some m.cls := findClass_of_methodNamed Bd.named
  have hnm := (name_of_methodNamed Bd.named Bd.method).1
  have X0 : Stand p l e ({ frames := 2, cells := 0, slots := 0, locals := 27 } : Room) s m #[(.ref a1), (.int p2)] below meth c s₁ [] 0 0 := Stand.of_body Bd
  have e0 : s₁.heap = h0 := by rw [← hh, Bd.state]; rfl
  have N0 := Fr.nil n0
  refine own_go (B := s₁.setTop (mkF m 0 #[rv a1, iv p2] [])) (fun t k => castTop (ef_31 m a1 p2) k) ?_
  obtain ⟨cl1, Ar1, qk1, S1, M1, H1, G1⟩ := id V_a
  refine own_go (B := s₁.setTop (mkF m 3 #[rv a1, iv p2] [(.int z1), (.int p2)])) (fun t k => ?_) ?_
  · show own_S p e below s₁ (mkF m 0 #[rv a1, iv p2] []) _
    refine XS.iloadN X0.here hx rfl (hb hby d31_0) rfl ?_
    refine XS.aloadN X0.here hx rfl (hb hby d31_1) rfl rfl ?_
    refine X0.arraylength hx (by rw [e0]; exact Ar1.1) (State.isArrayOf_alike hZ.alike Ar1.2.1) (g := (mkF m 2 #[rv a1, iv p2] [(.ref a1), (.int p2)])) rfl rfl (hb hby d31_2) _ ?_
    rw [len_of S1 M1]
    exact k
  obtain ⟨_, _, ⟨T2, L2, k2, n2⟩, -, X2, ⟨Lc2, hQ2, l2, y2, z2⟩, st2⟩ := Jvm.LawKit.callS X0 hx (y := own_y4) hown (mvT hZ (own_w hw 140 rfl)) (mvT hZ (own_w hw 141 rfl)) (mvT hZ (own_w hw 11 rfl)) (mvT hZ (own_w hw 142 rfl)) (by decide) (backOf (W := 0) (rm32 l Z a0 hw [] p2 z1 GF h0 n0 Z0 S_F is_GF O0 hin) hZ (own_w hw 142 rfl) (own_w hw 11 rfl) (by decide) (by decide)) (g := (mkF m 3 #[rv a1, iv p2] [(.int z1), (.int p2)])) rfl (by rw [hml]; rfl) (argsL := [(.int p2), (.int z1)]) (rest := []) (lenOf own_pd2 rfl) rfl (by show 2 * 0 + _ ≤ _; exact Nat.le_of_eq rfl) (hb hby d31_3) (fun _ _ => ⟨rfl, e0, (by decide : 0 + 0 ≤ _), (by decide : 0 + 0 ≤ _)⟩)
  dsimp only [Pt.U, Pt.locs, Pt.cells, Pt.slots] at X2 l2 y2 z2 st2 hQ2
  subst l2 y2 z2
  obtain ⟨rfl, N2q, eq2⟩ := hQ2
  have N2 := Fr.app N0 N2q
  refine own_go (B := T2.setTop (mkF m 6 #[rv a1, iv p2] [])) (fun t k => st2 _ k) ?_
  obtain ⟨cl3, Ar3, qk3, S3, M3, H3, G3⟩ := id V_a
  obtain ⟨fs, hr, hrun, hended, hW, hsame⟩ := X2.leave (v := some (.int (nar .char ((x1 &&& (255 : Int32)).toUInt32.toUInt16.toUInt32.toInt32)))) (fun h => by rw [Bd.returns] at h; cases h)
  refine ⟨_, _, ?_, hrun, hended, _, _, rfl, ?_, ⟨_, rfl⟩, hW, hsame.mono (by decide) (by decide)⟩
  · show own_S p e below T2 (mkF m 6 #[rv a1, iv p2] []) _
    refine XS.aloadN X2.here hx rfl (hb hby d31_6) rfl rfl ?_
    refine XS.iloadN X2.here hx rfl (hb hby d31_7) rfl ?_
    refine X2.baloadBytes hx (j := p2) (v := (.int x1)) (by rw [eq2]; exact Ar3.1) (State.isArrayOf_alike hZ.alike Ar3.2.1) Ar3.2.2 (inb_of S3 hin) (Has.at H3 (inb_of S3 hin) hat) (g := (mkF m 8 #[rv a1, iv p2] [(.int p2), (.ref a1)])) rfl rfl (hb hby d31_8) _ ?_
    show own_S p e below T2 (mkF m 9 #[rv a1, iv p2] [(.int x1)]) _
    refine XS.sipush X2.here hx rfl (hb hby d31_9) ?_
    refine XS.iand X2.here hx rfl (hb hby d31_12) rfl ?_
    refine XS.i2c X2.here hx rfl (hb hby d31_13) rfl ?_
    show own_S p e below T2 (mkF m 14 #[rv a1, iv p2] [(.int ((x1 &&& (255 : Int32)).toUInt32.toUInt16.toUInt32.toInt32))]) _
    exact retN X2 hx (t := .char) Bd.returns (by simp) (hb hby d31_14) hr
  · show Q31 Z a1 p2 ka z1 vs dv x1 GF h0 n0 _ T2.heap _
    rw [eq2]
    exact ⟨rfl, N2, rfl⟩
theorem pn_30 : plainName "java/lang/String" = true := by first | (simp [plainName, overriddenIn]; done) | decide +kernel
theorem d30_0 : decode jdk_42_method_56_code 0 = .ok (.aload_n 0, 1) := by decide +kernel
theorem d30_1 : decode jdk_42_method_56_code 1 = .ok (.invokevirtual 492, 3) := by decide +kernel
theorem d30_4 : decode jdk_42_method_56_code 4 = .ok (.ifCond .eq 12, 3) := by decide +kernel
theorem d30_7 : decode jdk_42_method_56_code 7 = .ok (.aload_n 0, 1) := by decide +kernel
theorem d30_8 : decode jdk_42_method_56_code 8 = .ok (.getfield 9, 3) := by decide +kernel
theorem d30_11 : decode jdk_42_method_56_code 11 = .ok (.iload_n 1, 1) := by decide +kernel
theorem d30_12 : decode jdk_42_method_56_code 12 = .ok (.invokestatic 495, 3) := by decide +kernel
theorem d30_15 : decode jdk_42_method_56_code 15 = .ok (.ireturn, 1) := by decide +kernel
theorem ef_30 (m : MethodId) (x0 : Addr) (x1 : Int32) : entryFrame m #[(.ref x0), (.int x1)] 2 = mkF m 0 #[.val (.ref x0), .val (.int x1)] [] := by first | (simp [entryFrame, mkF, argsToLocals, Value.category]; done) | rfl
def Q30 (Z : State) (a1 : Addr) (p2 : Int32) (sb1 : Addr) (ka : ClassId) (z1 : Int32) (vs : List Value) (dv : Value) (x1 : Int32) (GC : Int32) (GF : Value) (h0 : Heap) (n0 : Nat) (v : Option Value) (h : Heap) (L : List Loc) : Prop := v = some (.int (own_c x1)) ∧ Fr n0 L ∧ h = h0
set_option maxRecDepth 65536 in
set_option maxHeartbeats 40000000 in
theorem rm30 (l : Launch) (Z : State) (a0 : Array Value) (hw : ∀ d ∈ tables_1, d.before a0 Z = true) (ws : List Jvm.Cond) (a1 : Addr) (p2 : Int32) (sb1 : Addr) (ka : ClassId) (z1 : Int32) (vs : List Value) (dv : Value) (x1 : Int32) (GC : Int32) (GF : Value) (h0 : Heap) (n0 : Nat) (Z0 : n0 ≤ h0.size) (S_C : Sta Z Z.heap "java/lang/String" "COMPACT_STRINGS" "Z" (.int GC)) (hGC : ¬ GC = (0 : Int32)) (O0 : Old Z n0 h0) (E_a1 : Exa Z h0 a1 "java/lang/String") (F_c : Fld Z h0 a1 "java/lang/String" "coder" "B" (.int (0 : Int32))) (F_v : Fld Z h0 a1 "java/lang/String" "value" "[B" (.ref sb1)) (V_b : Arv Z h0 sb1 ka .byte z1 vs dv) (hin : ¬ p2 < 0 ∧ p2 < z1) (hat : vs.getD p2.toNatClampNeg dv = .int x1) (S_F : Sta Z Z.heap "jdk/internal/util/Preconditions" "SIOOBE_FORMATTER" "Ljava/util/function/BiFunction;" GF) (is_GF : GF.isRef = true) :
    MetFree l own_y6 (head1 (Jvm.Cond.code own_y6 jdk_42_method_56_code 2 (some .char) :: ws) ({ frames := 3, cells := 0, slots := 0, locals := 40 } : Room)) (fun a U => a = #[(.ref a1), (.int p2)] ∧ Z.Warmed39 U.vm ∧ U.heap = h0) (fun _ _ _ _ _ => True) (fun _ U o U' => ∃ v L, o = .returned v ∧ Q30 Z a1 p2 sb1 ka z1 vs dv x1 GC GF h0 n0 v U'.heap L ∧ FrameEnd U o U' L ({ frames := 3, cells := 0, slots := 0, locals := 40 } : Room).cells ({ frames := 3, cells := 0, slots := 0, locals := 40 } : Room).slots) := by
  refine MetFree.of_bodySF (plainFor_of_name pn_30) hisR ?_
  intro p e s m args below meth c s₁ Bd hml0 hP hK
  obtain ⟨rfl, hZ, hh⟩ := hP
  have hx := Bd.exec
  have hby := Bd.bytes
  have hml : c.maxLocals = 2 := hml0
  have hown : s.vm.findClass "java/lang/String" = some m.cls := findClass_of_methodNamed Bd.named
  have hnm := (name_of_methodNamed Bd.named Bd.method).1
  have X0 : Stand p l e ({ frames := 3, cells := 0, slots := 0, locals := 40 } : Room) s m #[(.ref a1), (.int p2)] below meth c s₁ [] 0 0 := Stand.of_body Bd
  have e0 : s₁.heap = h0 := by rw [← hh, Bd.state]; rfl
  have N0 := Fr.nil n0
  refine own_go (B := s₁.setTop (mkF m 0 #[rv a1, iv p2] [])) (fun t k => castTop (ef_30 m a1 p2) k) ?_
  refine own_go (B := s₁.setTop (mkF m 1 #[rv a1, iv p2] [(.ref a1)])) (fun t k => ?_) ?_
  · show own_S p e below s₁ (mkF m 0 #[rv a1, iv p2] []) _
    refine XS.aloadN X0.here hx rfl (hb hby d30_0) rfl rfl ?_
    exact k
  obtain ⟨cq1, kq1, q1a, q1b, q1c⟩ := isOf hZ e0 E_a1
  obtain ⟨_, _, ⟨T1, L1, k1, n1⟩, -, X1, ⟨Lc1, hQ1, l1, y1, z1⟩, st1⟩ := X0.virtualBack hx (y := own_y0) (z := own_y0) hown (mvT hZ (own_w hw 44 rfl)) (mvT hZ (own_w hw 45 rfl)) (notFace_of_selects (args := #[]) (mvT hZ (own_w hw 47 rfl))) (mvT hZ (own_w hw 47 rfl)) (mvT hZ (own_w hw 46 rfl)) (by decide) (backOf (W := 0) (rm9 l Z a0 hw [] a1 GC h0 n0 Z0 S_C hGC O0 F_c) hZ (own_w hw 48 rfl) (own_w hw 11 rfl) (by decide) (by decide)) q1a q1c (g := (mkF m 1 #[rv a1, iv p2] [(.ref a1)])) rfl (by rw [hml]; rfl) (Steps.refl _) (argsL := []) (rest := []) (lenOf own_pd3 rfl) rfl (by show 2 * 0 + _ ≤ _; exact Nat.le_of_eq rfl) (hb hby d30_1) (fun _ _ => ⟨rfl, e0, (by decide : 0 + 0 ≤ _), (by decide : 0 + 0 ≤ _)⟩)
  dsimp only [Pt.U, Pt.locs, Pt.cells, Pt.slots] at X1 l1 y1 z1 st1 hQ1
  subst l1 y1 z1
  obtain ⟨rfl, N1q, eq1⟩ := hQ1
  have N1 := Fr.app N0 N1q
  refine own_go (B := T1.setTop (mkF m 4 #[rv a1, iv p2] [(.int 1)])) (fun t k => st1.trans k) ?_
  refine own_go (B := T1.setTop (mkF m 8 #[rv a1, iv p2] [(.ref a1)])) (fun t k => ?_) ?_
  · show own_S p e below T1 (mkF m 4 #[rv a1, iv p2] [(.int 1)]) _
    refine XS.ifNo X1.here hx rfl (hb hby d30_4) rfl ((if0 _ _).trans (feq (by decide)).1) ?_
    refine XS.aloadN X1.here hx rfl (hb hby d30_7) rfl rfl ?_
    exact k
  obtain ⟨T2, X2, e2, st2⟩ := getF X1 hx hZ hown (host := "") (Or.inl (own_w hw 28 rfl)) Via.refl eq1 F_v (g := (mkF m 8 #[rv a1, iv p2] [(.ref a1)])) rfl rfl (hb hby d30_8)
  refine own_go (B := T2.setTop (mkF m 11 #[rv a1, iv p2] [(.ref sb1)])) (fun t k => st2 _ k) ?_
  refine own_go (B := T2.setTop (mkF m 12 #[rv a1, iv p2] [(.int p2), (.ref sb1)])) (fun t k => ?_) ?_
  · show own_S p e below T2 (mkF m 11 #[rv a1, iv p2] [(.ref sb1)]) _
    refine XS.iloadN X2.here hx rfl (hb hby d30_11) rfl ?_
    exact k
  obtain ⟨_, _, ⟨T3, L3, k3, n3⟩, -, X3, ⟨Lc3, hQ3, l3, y3, z3⟩, st3⟩ := Jvm.LawKit.callS X2 hx (y := own_y5) hown (mvT hZ (own_w hw 137 rfl)) (mvT hZ (own_w hw 138 rfl)) (mvT hZ (own_w hw 62 rfl)) (mvT hZ (own_w hw 139 rfl)) (by decide) (backOf (W := 0) (rm31 l Z a0 hw [] sb1 p2 ka z1 vs dv x1 GF h0 n0 Z0 V_b hin hat S_F is_GF O0) hZ (own_w hw 139 rfl) (own_w hw 62 rfl) (by decide) (by decide)) (g := (mkF m 12 #[rv a1, iv p2] [(.int p2), (.ref sb1)])) rfl (by rw [hml]; rfl) (argsL := [(.ref sb1), (.int p2)]) (rest := []) (lenOf own_pd4 rfl) rfl (by show 2 * 0 + _ ≤ _; exact Nat.le_of_eq rfl) (hb hby d30_12) (fun _ _ => ⟨rfl, e2, (by decide : 0 + 0 ≤ _), (by decide : 0 + 0 ≤ _)⟩)
  dsimp only [Pt.U, Pt.locs, Pt.cells, Pt.slots] at X3 l3 y3 z3 st3 hQ3
  subst l3 y3 z3
  obtain ⟨rfl, N3q, eq3⟩ := hQ3
  have N3 := Fr.app N1 N3q
  refine own_go (B := T3.setTop (mkF m 15 #[rv a1, iv p2] [(.int (own_c x1))])) (fun t k => st3 _ k) ?_
  obtain ⟨fs, hr, hrun, hended, hW, hsame⟩ := X3.leave (v := some (.int (nar .char (own_c x1)))) (fun h => by rw [Bd.returns] at h; cases h)
  refine ⟨_, _, ?_, hrun, hended, _, _, rfl, ?_, ⟨_, rfl⟩, hW, hsame.mono (by decide) (by decide)⟩
  · show own_S p e below T3 (mkF m 15 #[rv a1, iv p2] [(.int (own_c x1))]) _
    exact retN X3 hx (t := .char) Bd.returns (by simp) (hb hby d30_15) hr
  · show Q30 Z a1 p2 sb1 ka z1 vs dv x1 GC GF h0 n0 _ T3.heap _
    rw [eq3]
    exact ⟨by rw [own_cc], N3, rfl⟩
def own_b (y : Int32) : Int32 := nar .byte (y.toInt8.toInt32)
theorem pn_18 : plainName "java/lang/StringUTF16" = true := by first | (simp [plainName, overriddenIn]; done) | decide +kernel
theorem d18_0 : decode jdk_52_method_21_code 0 = .ok (.iconst 0, 1) := by decide +kernel
theorem d18_1 : decode jdk_52_method_21_code 1 = .ok (.istore 5, 2) := by decide +kernel
theorem d18_3 : decode jdk_52_method_21_code 3 = .ok (.iload 5, 2) := by decide +kernel
theorem d18_5 : decode jdk_52_method_21_code 5 = .ok (.iload 4, 2) := by decide +kernel
theorem d18_7 : decode jdk_52_method_21_code 7 = .ok (.if_icmp .ge 37, 3) := by decide +kernel
theorem d18_10 : decode jdk_52_method_21_code 10 = .ok (.aload_n 0, 1) := by decide +kernel
theorem d18_11 : decode jdk_52_method_21_code 11 = .ok (.iload_n 1, 1) := by decide +kernel
theorem d18_12 : decode jdk_52_method_21_code 12 = .ok (.caload, 1) := by decide +kernel
theorem d18_13 : decode jdk_52_method_21_code 13 = .ok (.istore 6, 2) := by decide +kernel
theorem d18_15 : decode jdk_52_method_21_code 15 = .ok (.iload 6, 2) := by decide +kernel
theorem d18_17 : decode jdk_52_method_21_code 17 = .ok (.sipush 255, 3) := by decide +kernel
theorem d18_20 : decode jdk_52_method_21_code 20 = .ok (.if_icmp .le 6, 3) := by decide +kernel
theorem d18_26 : decode jdk_52_method_21_code 26 = .ok (.aload_n 2, 1) := by decide +kernel
theorem d18_27 : decode jdk_52_method_21_code 27 = .ok (.iload_n 3, 1) := by decide +kernel
theorem d18_28 : decode jdk_52_method_21_code 28 = .ok (.iload 6, 2) := by decide +kernel
theorem d18_30 : decode jdk_52_method_21_code 30 = .ok (.i2b, 1) := by decide +kernel
theorem d18_31 : decode jdk_52_method_21_code 31 = .ok (.bastore, 1) := by decide +kernel
theorem d18_32 : decode jdk_52_method_21_code 32 = .ok (.iinc 1 1, 3) := by decide +kernel
theorem d18_35 : decode jdk_52_method_21_code 35 = .ok (.iinc 3 1, 3) := by decide +kernel
theorem d18_38 : decode jdk_52_method_21_code 38 = .ok (.iinc 5 1, 3) := by decide +kernel
theorem d18_41 : decode jdk_52_method_21_code 41 = .ok (.goto (-38), 3) := by decide +kernel
theorem d18_44 : decode jdk_52_method_21_code 44 = .ok (.iload 4, 2) := by decide +kernel
theorem d18_46 : decode jdk_52_method_21_code 46 = .ok (.ireturn, 1) := by decide +kernel
theorem ef_18 (m : MethodId) (x0 : Addr) (x1 : Int32) (x2 : Addr) (x3 : Int32) (x4 : Int32) : entryFrame m #[(.ref x0), (.int x1), (.ref x2), (.int x3), (.int x4)] 7 = mkF m 0 #[.val (.ref x0), .val (.int x1), .val (.ref x2), .val (.int x3), .val (.int x4), .unset, .unset] [] := by first | (simp [entryFrame, mkF, argsToLocals, Value.category]; done) | rfl
def Q18_1 (Z : State) (a1 : Addr) (a3 : Addr) (kc1 : ClassId) (kc3 : ClassId) (y0 : Int32) (h0 : Heap) (n0 : Nat) (v : Option Value) (h : Heap) (L : List Loc) : Prop := v = some (.int (1 : Int32)) ∧ Fr n0 L ∧ Keep h0 h [a3] ∧ Arv Z h a3 kc3 .byte (1 : Int32) [(.int (own_b y0))] (.int (0 : Int32))
set_option maxRecDepth 65536 in
set_option maxHeartbeats 40000000 in
theorem rm18_1 (l : Launch) (Z : State) (a0 : Array Value) (hw : ∀ d ∈ tables_1, d.before a0 Z = true) (ws : List Jvm.Cond) (a1 : Addr) (a3 : Addr) (kc1 : ClassId) (kc3 : ClassId) (y0 : Int32) (h0 : Heap) (n0 : Nat) (Z0 : n0 ≤ h0.size) (V_a : Arv Z h0 a1 kc1 .char (1 : Int32) [(.int y0)] (.int (0 : Int32))) (V_b : Arv Z h0 a3 kc3 .byte (1 : Int32) [(.int (0 : Int32))] (.int (0 : Int32))) (n_ab : a1 ≠ a3) (g_a3 : n0 ≤ a3) (hp0 : ¬ (255 : Int32) < y0) :
    MetFree l own_y7 (head1 (Jvm.Cond.code own_y7 jdk_52_method_21_code 7 (some .int) :: ws) ({ frames := 0, cells := 0, slots := 0, locals := 0 } : Room)) (fun a U => a = #[(.ref a1), (.int 0), (.ref a3), (.int 0), (.int 1)] ∧ Z.Warmed39 U.vm ∧ U.heap = h0) (fun _ _ _ _ _ => True) (fun _ U o U' => ∃ v L, o = .returned v ∧ Q18_1 Z a1 a3 kc1 kc3 y0 h0 n0 v U'.heap L ∧ FrameEnd U o U' L ({ frames := 0, cells := 0, slots := 0, locals := 0 } : Room).cells ({ frames := 0, cells := 0, slots := 0, locals := 0 } : Room).slots) := by
  refine MetFree.of_bodySF (plainFor_of_name pn_18) hisR ?_
  intro p e s m args below meth c s₁ Bd hml0 hP hK
  obtain ⟨rfl, hZ, hh⟩ := hP
  have hx := Bd.exec
  have hby := Bd.bytes
  have hml : c.maxLocals = 7 := hml0
  have hown : s.vm.findClass "java/lang/StringUTF16" = some m.cls := findClass_of_methodNamed Bd.named
  have hnm := (name_of_methodNamed Bd.named Bd.method).1
  have X0 : Stand p l e ({ frames := 0, cells := 0, slots := 0, locals := 0 } : Room) s m #[(.ref a1), (.int 0), (.ref a3), (.int 0), (.int 1)] below meth c s₁ [] 0 0 := Stand.of_body Bd
  have e0 : s₁.heap = h0 := by rw [← hh, Bd.state]; rfl
  have N0 := Fr.nil n0
  refine own_go (B := s₁.setTop (mkF m 0 #[rv a1, iv 0, rv a3, iv 0, iv 1, .unset, .unset] [])) (fun t k => castTop (ef_18 m a1 (0 : Int32) a3 (0 : Int32) (1 : Int32)) k) ?_
  obtain ⟨cl1, Ar1, qk1, S1, M1, H1, G1⟩ := id V_a
  refine own_go (B := s₁.setTop (mkF m 31 #[rv a1, iv 0, rv a3, iv 0, iv 1, iv 0, iv y0] [(.int (y0.toInt8.toInt32)), (.int 0), (.ref a3)])) (fun t k => ?_) ?_
  · show own_S p e below s₁ (mkF m 0 #[rv a1, iv 0, rv a3, iv 0, iv 1, .unset, .unset] []) _
    refine XS.iconst X0.here hx rfl (hb hby d18_0) ?_
    refine XS.istore X0.here hx rfl (hb hby d18_1) rfl (l' := #[rv a1, iv 0, rv a3, iv 0, iv 1, iv 0, .unset]) rfl ?_
    refine XS.iload X0.here hx rfl (hb hby d18_3) rfl ?_
    show own_S p e below s₁ (mkF m 5 #[rv a1, iv 0, rv a3, iv 0, iv 1, iv 0, .unset] [(.int 0)]) _
    refine XS.iload X0.here hx rfl (hb hby d18_5) rfl ?_
    refine XS.icmpNo X0.here hx rfl (hb hby d18_7) rfl (tlt (by decide)).2.1 ?_
    refine XS.aloadN X0.here hx rfl (hb hby d18_10) rfl rfl ?_
    show own_S p e below s₁ (mkF m 11 #[rv a1, iv 0, rv a3, iv 0, iv 1, iv 0, .unset] [(.ref a1)]) _
    refine XS.iloadN X0.here hx rfl (hb hby d18_11) rfl ?_
    refine X0.caload hx (j := (0 : Int32)) (v := (.int y0)) (by rw [e0]; exact Ar1.1) (State.isArrayOf_alike hZ.alike Ar1.2.1) Ar1.2.2 (inb_of S1 ⟨by decide, by decide⟩) (Has.at H1 (inb_of S1 ⟨by decide, by decide⟩) rfl) (g := (mkF m 12 #[rv a1, iv 0, rv a3, iv 0, iv 1, iv 0, .unset] [(.int 0), (.ref a1)])) rfl rfl (hb hby d18_12) _ ?_
    refine XS.istore X0.here hx rfl (hb hby d18_13) rfl (l' := #[rv a1, iv 0, rv a3, iv 0, iv 1, iv 0, iv y0]) rfl ?_
    show own_S p e below s₁ (mkF m 15 #[rv a1, iv 0, rv a3, iv 0, iv 1, iv 0, iv y0] []) _
    refine XS.iload X0.here hx rfl (hb hby d18_15) rfl ?_
    refine XS.sipush X0.here hx rfl (hb hby d18_17) ?_
    refine XS.icmpYes X0.here hx rfl (pc0 := 20) (pc' := 26) rfl (hb hby d18_20) rfl (flt hp0).2.2.2 (by decide) (by decide) ?_
    show own_S p e below s₁ (mkF m 26 #[rv a1, iv 0, rv a3, iv 0, iv 1, iv 0, iv y0] []) _
    refine XS.aloadN X0.here hx rfl (hb hby d18_26) rfl rfl ?_
    refine XS.iloadN X0.here hx rfl (hb hby d18_27) rfl ?_
    refine XS.iload X0.here hx rfl (hb hby d18_28) rfl ?_
    show own_S p e below s₁ (mkF m 30 #[rv a1, iv 0, rv a3, iv 0, iv 1, iv 0, iv y0] [(.int y0), (.int 0), (.ref a3)]) _
    refine XS.i2b X0.here hx rfl (hb hby d18_30) rfl ?_
    exact k
  obtain ⟨cl2, Ar2, qk2, S2, M2, H2, G2⟩ := id V_b
  obtain ⟨T2, h2, X2, e2, W2, st2⟩ := stB X0 hx hZ e0 Ar2 (j := (0 : Int32)) (inb_of S2 ⟨by decide, by decide⟩) (g := (mkF m 31 #[rv a1, iv 0, rv a3, iv 0, iv 1, iv 0, iv y0] [(.int (y0.toInt8.toInt32)), (.int 0), (.ref a3)])) rfl rfl (hb hby d18_31)
  have V2 : Arv Z h2 a3 kc3 .byte (1 : Int32) [(.int (nar .byte (y0.toInt8.toInt32)))] (.int (0 : Int32)) := Arv.set Ar2 qk2 S2 M2 H2 G2 (fits_nar_byte _) W2 0 rfl (Nat.le_of_ble_eq_true rfl)
  have c2_V_a1 := V_a.other W2 n_ab
  have K2 := (Keep.refl h0 [a3]).wr W2 (Or.inl (List.mem_of_getElem? (i := 0) rfl))
  have N2 := Fr.snoc X2 N0 g_a3
  refine own_go (B := T2.setTop (mkF m 32 #[rv a1, iv 0, rv a3, iv 0, iv 1, iv 0, iv y0] [])) (fun t k => st2 _ k) ?_
  obtain ⟨fs, hr, hrun, hended, hW, hsame⟩ := X2.leave (v := some (.int 1)) (fun h => by rw [Bd.returns] at h; cases h)
  refine ⟨_, _, ?_, hrun, hended, _, _, rfl, ?_, ⟨_, rfl⟩, hW, hsame.mono (by decide) (by decide)⟩
  · show own_S p e below T2 (mkF m 32 #[rv a1, iv 0, rv a3, iv 0, iv 1, iv 0, iv y0] []) _
    refine XS.iinc X2.here hx rfl (hb hby d18_32) rfl (l' := #[rv a1, iv 1, rv a3, iv 0, iv 1, iv 0, iv y0]) rfl ?_
    refine XS.iinc X2.here hx rfl (hb hby d18_35) rfl (l' := #[rv a1, iv 1, rv a3, iv 1, iv 1, iv 0, iv y0]) rfl ?_
    refine XS.iinc X2.here hx rfl (hb hby d18_38) rfl (l' := #[rv a1, iv 1, rv a3, iv 1, iv 1, iv 1, iv y0]) rfl ?_
    show own_S p e below T2 (mkF m 41 #[rv a1, iv 1, rv a3, iv 1, iv 1, iv 1, iv y0] []) _
    refine XS.goto X2.here hx rfl (pc0 := 41) (pc' := 3) rfl (hb hby d18_41) (by decide) (by decide) ?_
    refine XS.iload X2.here hx rfl (hb hby d18_3) rfl ?_
    refine XS.iload X2.here hx rfl (hb hby d18_5) rfl ?_
    show own_S p e below T2 (mkF m 7 #[rv a1, iv 1, rv a3, iv 1, iv 1, iv 1, iv y0] [(.int 1), (.int 1)]) _
    refine XS.icmpYes X2.here hx rfl (pc0 := 7) (pc' := 44) rfl (hb hby d18_7) rfl (flt (by decide)).2.1 (by decide) (by decide) ?_
    refine XS.iload X2.here hx rfl (hb hby d18_44) rfl ?_
    show own_S p e below T2 (mkF m 46 #[rv a1, iv 1, rv a3, iv 1, iv 1, iv 1, iv y0] [(.int 1)]) _
    exact retI X2 hx Bd.returns (hb hby d18_46) hr
  · show Q18_1 Z a1 a3 kc1 kc3 y0 h0 n0 _ T2.heap _
    rw [e2]
    exact ⟨rfl, N2, K2, V2⟩
theorem pn_17 : plainName "java/lang/StringUTF16" = true := by first | (simp [plainName, overriddenIn]; done) | decide +kernel
theorem d17_0 : decode jdk_52_method_16_code 0 = .ok (.iload_n 2, 1) := by decide +kernel
theorem d17_1 : decode jdk_52_method_16_code 1 = .ok (.newarray .byte, 2) := by decide +kernel
theorem d17_3 : decode jdk_52_method_16_code 3 = .ok (.astore_n 3, 1) := by decide +kernel
theorem d17_4 : decode jdk_52_method_16_code 4 = .ok (.aload_n 0, 1) := by decide +kernel
theorem d17_5 : decode jdk_52_method_16_code 5 = .ok (.iload_n 1, 1) := by decide +kernel
theorem d17_6 : decode jdk_52_method_16_code 6 = .ok (.aload_n 3, 1) := by decide +kernel
theorem d17_7 : decode jdk_52_method_16_code 7 = .ok (.iconst 0, 1) := by decide +kernel
theorem d17_8 : decode jdk_52_method_16_code 8 = .ok (.iload_n 2, 1) := by decide +kernel
theorem d17_9 : decode jdk_52_method_16_code 9 = .ok (.invokestatic 115, 3) := by decide +kernel
theorem d17_12 : decode jdk_52_method_16_code 12 = .ok (.istore 4, 2) := by decide +kernel
theorem d17_14 : decode jdk_52_method_16_code 14 = .ok (.iload 4, 2) := by decide +kernel
theorem d17_16 : decode jdk_52_method_16_code 16 = .ok (.iload_n 2, 1) := by decide +kernel
theorem d17_17 : decode jdk_52_method_16_code 17 = .ok (.if_icmp .eq 40, 3) := by decide +kernel
theorem d17_57 : decode jdk_52_method_16_code 57 = .ok (.aload_n 3, 1) := by decide +kernel
theorem d17_58 : decode jdk_52_method_16_code 58 = .ok (.areturn, 1) := by decide +kernel
theorem ef_17 (m : MethodId) (x0 : Addr) (x1 : Int32) (x2 : Int32) : entryFrame m #[(.ref x0), (.int x1), (.int x2)] 6 = mkF m 0 #[.val (.ref x0), .val (.int x1), .val (.int x2), .unset, .unset, .unset] [] := by first | (simp [entryFrame, mkF, argsToLocals, Value.category]; done) | rfl
def Q17_1 (Z : State) (a1 : Addr) (kc1 : ClassId) (y0 : Int32) (h0 : Heap) (n0 : Nat) (v : Option Value) (h : Heap) (L : List Loc) : Prop := ∃ (b : Addr) (kb : ClassId), v = some (.ref b) ∧ Fr n0 L ∧ Keep h0 h [] ∧ h0.size ≤ b ∧ n0 ≤ b ∧ Arv Z h b kb .byte (1 : Int32) [(.int (own_b y0))] (.int (0 : Int32))
set_option maxRecDepth 65536 in
set_option maxHeartbeats 40000000 in
theorem rm17_1 (l : Launch) (Z : State) (a0 : Array Value) (hw : ∀ d ∈ tables_1, d.before a0 Z = true) (ws : List Jvm.Cond) (a1 : Addr) (kc1 : ClassId) (y0 : Int32) (h0 : Heap) (n0 : Nat) (Z0 : n0 ≤ h0.size) (V_a : Arv Z h0 a1 kc1 .char (1 : Int32) [(.int y0)] (.int (0 : Int32))) (hp0 : ¬ (255 : Int32) < y0) :
    MetFree l own_y8 (head1 (Jvm.Cond.code own_y8 jdk_52_method_16_code 6 (some (.array .byte)) :: ws) ({ frames := 1, cells := 1, slots := 1, locals := 18 } : Room)) (fun a U => a = #[(.ref a1), (.int 0), (.int 1)] ∧ Z.Warmed39 U.vm ∧ U.heap = h0) (fun _ _ _ _ _ => True) (fun _ U o U' => ∃ v L, o = .returned v ∧ Q17_1 Z a1 kc1 y0 h0 n0 v U'.heap L ∧ FrameEnd U o U' L ({ frames := 1, cells := 1, slots := 1, locals := 18 } : Room).cells ({ frames := 1, cells := 1, slots := 1, locals := 18 } : Room).slots) := by
  refine MetFree.of_bodySF (plainFor_of_name pn_17) hisR ?_
  intro p e s m args below meth c s₁ Bd hml0 hP hK
  obtain ⟨rfl, hZ, hh⟩ := hP
  have hx := Bd.exec
  have hby := Bd.bytes
  have hml : c.maxLocals = 6 := hml0
  have hown : s.vm.findClass "java/lang/StringUTF16" = some m.cls := findClass_of_methodNamed Bd.named
  have hnm := (name_of_methodNamed Bd.named Bd.method).1
  have X0 : Stand p l e ({ frames := 1, cells := 1, slots := 1, locals := 18 } : Room) s m #[(.ref a1), (.int 0), (.int 1)] below meth c s₁ [] 0 0 := Stand.of_body Bd
  have e0 : s₁.heap = h0 := by rw [← hh, Bd.state]; rfl
  have N0 := Fr.nil n0
  refine own_go (B := s₁.setTop (mkF m 0 #[rv a1, iv 0, iv 1, .unset, .unset, .unset] [])) (fun t k => castTop (ef_17 m a1 (0 : Int32) (1 : Int32)) k) ?_
  refine own_go (B := s₁.setTop (mkF m 1 #[rv a1, iv 0, iv 1, .unset, .unset, .unset] [(.int 1)])) (fun t k => ?_) ?_
  · show own_S p e below s₁ (mkF m 0 #[rv a1, iv 0, iv 1, .unset, .unset, .unset] []) _
    refine XS.iloadN X0.here hx rfl (hb hby d17_0) rfl ?_
    exact k
  obtain ⟨T1, h1, k1, X1, e1, E1, A1, st1⟩ := newP X0 hx hZ (own_w hw 23 rfl) e0 (g := (mkF m 1 #[rv a1, iv 0, iv 1, .unset, .unset, .unset] [(.int 1)])) rfl (hb hby d17_1) rfl (by decide) (cap := 1) (by decide) (by decide) (by decide) (by decide)
  obtain ⟨b1, g1⟩ : ∃ z, z = h0.size := ⟨_, rfl⟩
  rw [← g1] at A1 st1
  have g_b1 : n0 ≤ b1 := Nat.le_trans Z0 (Nat.le_of_eq g1.symm)
  have sz_b1 : h0.size ≤ b1 := Nat.le_trans (Keep.refl h0 []).1 (Nat.le_of_eq g1.symm)
  have ne_a1_b1 : a1 ≠ b1 := Nat.ne_of_lt (Nat.lt_of_lt_of_le V_a.lt (Nat.le_of_eq g1.symm))
  have c1_V_a1 := V_a.ext E1
  have K1 := (Keep.refl h0 []).ext E1
  have V1 : Arv Z h1 b1 k1 .byte (1 : Int32) [(.int (0 : Int32))] (.int (0 : Int32)) := (Arv.new A1 (by decide)).pad (pad_rep [] (.int (0 : Int32)) 1)
  refine own_go (B := T1.setTop (mkF m 3 #[rv a1, iv 0, iv 1, .unset, .unset, .unset] [(.ref b1)])) (fun t k => st1 _ k) ?_
  refine own_go (B := T1.setTop (mkF m 9 #[rv a1, iv 0, iv 1, rv b1, .unset, .unset] [(.int 1), (.int 0), (.ref b1), (.int 0), (.ref a1)])) (fun t k => ?_) ?_
  · show own_S p e below T1 (mkF m 3 #[rv a1, iv 0, iv 1, .unset, .unset, .unset] [(.ref b1)]) _
    refine XS.astoreN X1.here hx rfl (hb hby d17_3) rfl rfl (l' := #[rv a1, iv 0, iv 1, rv b1, .unset, .unset]) rfl ?_
    refine XS.aloadN X1.here hx rfl (hb hby d17_4) rfl rfl ?_
    refine XS.iloadN X1.here hx rfl (hb hby d17_5) rfl ?_
    show own_S p e below T1 (mkF m 6 #[rv a1, iv 0, iv 1, rv b1, .unset, .unset] [(.int 0), (.ref a1)]) _
    refine XS.aloadN X1.here hx rfl (hb hby d17_6) rfl rfl ?_
    refine XS.iconst X1.here hx rfl (hb hby d17_7) ?_
    refine XS.iloadN X1.here hx rfl (hb hby d17_8) rfl ?_
    exact k
  obtain ⟨_, _, ⟨T2, L2, k2, n2⟩, -, X2, ⟨Lc2, hQ2, l2, y2, z2⟩, st2⟩ := Jvm.LawKit.callS X1 hx (y := own_y7) hown (mvT hZ (own_w hw 83 rfl)) (mvT hZ (own_w hw 84 rfl)) (mvT hZ (own_w hw 81 rfl)) (mvT hZ (own_w hw 85 rfl)) (by decide) (backOf (W := 0) (rm18_1 l Z a0 hw [] a1 b1 kc1 k1 y0 h1 n0 (Nat.le_trans Z0 E1.1) c1_V_a1 V1 ne_a1_b1 g_b1 hp0) hZ (own_w hw 85 rfl) (own_w hw 81 rfl) (by decide) (by decide)) (g := (mkF m 9 #[rv a1, iv 0, iv 1, rv b1, .unset, .unset] [(.int 1), (.int 0), (.ref b1), (.int 0), (.ref a1)])) rfl (by rw [hml]; rfl) (argsL := [(.ref a1), (.int 0), (.ref b1), (.int 0), (.int 1)]) (rest := []) (lenOf own_pd5 rfl) rfl (by show 2 * 0 + _ ≤ _; exact Nat.le_of_eq rfl) (hb hby d17_9) (fun _ _ => ⟨rfl, e1, (by decide : 1 + 0 ≤ _), (by decide : 1 + 0 ≤ _)⟩)
  dsimp only [Pt.U, Pt.locs, Pt.cells, Pt.slots] at X2 l2 y2 z2 st2 hQ2
  subst l2 y2 z2
  obtain ⟨rfl, N2q, K2q, V2q⟩ := hQ2
  have N2 := Fr.app N0 N2q
  have c2_V_a1 := c1_V_a1.keep K2q (fun q => ne_a1_b1 (List.mem_singleton.mp q))
  have K2 := K1.trans K2q (allS (Or.inr sz_b1) all0)
  refine own_go (B := T2.setTop (mkF m 12 #[rv a1, iv 0, iv 1, rv b1, .unset, .unset] [(.int 1)])) (fun t k => st2 _ k) ?_
  obtain ⟨fs, hr, hrun, hended, hW, hsame⟩ := X2.leave (v := some (.ref b1)) (fun h => by rw [Bd.returns] at h; cases h)
  refine ⟨_, _, ?_, hrun, hended, _, _, rfl, ?_, ⟨_, rfl⟩, hW, hsame.mono (by decide) (by decide)⟩
  · show own_S p e below T2 (mkF m 12 #[rv a1, iv 0, iv 1, rv b1, .unset, .unset] [(.int 1)]) _
    refine XS.istore X2.here hx rfl (hb hby d17_12) rfl (l' := #[rv a1, iv 0, iv 1, rv b1, iv 1, .unset]) rfl ?_
    refine XS.iload X2.here hx rfl (hb hby d17_14) rfl ?_
    refine XS.iloadN X2.here hx rfl (hb hby d17_16) rfl ?_
    show own_S p e below T2 (mkF m 17 #[rv a1, iv 0, iv 1, rv b1, iv 1, .unset] [(.int 1), (.int 1)]) _
    refine XS.icmpYes X2.here hx rfl (pc0 := 17) (pc' := 57) rfl (hb hby d17_17) rfl (teq (by decide)).1 (by decide) (by decide) ?_
    refine XS.aloadN X2.here hx rfl (hb hby d17_57) rfl rfl ?_
    show own_S p e below T2 (mkF m 58 #[rv a1, iv 0, iv 1, rv b1, iv 1, .unset] [(.ref b1)]) _
    jvm_step X2.here [X2.here.top, hx, (hb hby d17_58), X2.method', Bd.returns, Value.isRef, FieldType.isReference]
    first | (intro acts; rw [hr _ acts rfl rfl rfl]) | rw [hr _ _ rfl rfl rfl]
    exact Steps.refl _
  · show Q17_1 Z a1 kc1 y0 h0 n0 _ T2.heap _
    exact ⟨b1, k1, rfl, N2, K2, sz_b1, g_b1, V2q⟩
def Q18_2 (Z : State) (a1 : Addr) (a3 : Addr) (kc1 : ClassId) (kc3 : ClassId) (y0 : Int32) (y1 : Int32) (h0 : Heap) (n0 : Nat) (v : Option Value) (h : Heap) (L : List Loc) : Prop := v = some (.int (2 : Int32)) ∧ Fr n0 L ∧ Keep h0 h [a3] ∧ Arv Z h a3 kc3 .byte (2 : Int32) [(.int (own_b y0)), (.int (own_b y1))] (.int (0 : Int32))
set_option maxRecDepth 65536 in
set_option maxHeartbeats 40000000 in
theorem rm18_2 (l : Launch) (Z : State) (a0 : Array Value) (hw : ∀ d ∈ tables_1, d.before a0 Z = true) (ws : List Jvm.Cond) (a1 : Addr) (a3 : Addr) (kc1 : ClassId) (kc3 : ClassId) (y0 : Int32) (y1 : Int32) (h0 : Heap) (n0 : Nat) (Z0 : n0 ≤ h0.size) (V_a : Arv Z h0 a1 kc1 .char (2 : Int32) [(.int y0), (.int y1)] (.int (0 : Int32))) (V_b : Arv Z h0 a3 kc3 .byte (2 : Int32) [(.int (0 : Int32)), (.int (0 : Int32))] (.int (0 : Int32))) (n_ab : a1 ≠ a3) (g_a3 : n0 ≤ a3) (hp0 : ¬ (255 : Int32) < y0) (hp1 : ¬ (255 : Int32) < y1) :
    MetFree l own_y7 (head1 (Jvm.Cond.code own_y7 jdk_52_method_21_code 7 (some .int) :: ws) ({ frames := 0, cells := 0, slots := 0, locals := 0 } : Room)) (fun a U => a = #[(.ref a1), (.int 0), (.ref a3), (.int 0), (.int 2)] ∧ Z.Warmed39 U.vm ∧ U.heap = h0) (fun _ _ _ _ _ => True) (fun _ U o U' => ∃ v L, o = .returned v ∧ Q18_2 Z a1 a3 kc1 kc3 y0 y1 h0 n0 v U'.heap L ∧ FrameEnd U o U' L ({ frames := 0, cells := 0, slots := 0, locals := 0 } : Room).cells ({ frames := 0, cells := 0, slots := 0, locals := 0 } : Room).slots) := by
  refine MetFree.of_bodySF (plainFor_of_name pn_18) hisR ?_
  intro p e s m args below meth c s₁ Bd hml0 hP hK
  obtain ⟨rfl, hZ, hh⟩ := hP
  have hx := Bd.exec
  have hby := Bd.bytes
  have hml : c.maxLocals = 7 := hml0
  have hown : s.vm.findClass "java/lang/StringUTF16" = some m.cls := findClass_of_methodNamed Bd.named
  have hnm := (name_of_methodNamed Bd.named Bd.method).1
  have X0 : Stand p l e ({ frames := 0, cells := 0, slots := 0, locals := 0 } : Room) s m #[(.ref a1), (.int 0), (.ref a3), (.int 0), (.int 2)] below meth c s₁ [] 0 0 := Stand.of_body Bd
  have e0 : s₁.heap = h0 := by rw [← hh, Bd.state]; rfl
  have N0 := Fr.nil n0
  refine own_go (B := s₁.setTop (mkF m 0 #[rv a1, iv 0, rv a3, iv 0, iv 2, .unset, .unset] [])) (fun t k => castTop (ef_18 m a1 (0 : Int32) a3 (0 : Int32) (2 : Int32)) k) ?_
  obtain ⟨cl1, Ar1, qk1, S1, M1, H1, G1⟩ := id V_a
  refine own_go (B := s₁.setTop (mkF m 31 #[rv a1, iv 0, rv a3, iv 0, iv 2, iv 0, iv y0] [(.int (y0.toInt8.toInt32)), (.int 0), (.ref a3)])) (fun t k => ?_) ?_
  · show own_S p e below s₁ (mkF m 0 #[rv a1, iv 0, rv a3, iv 0, iv 2, .unset, .unset] []) _
    refine XS.iconst X0.here hx rfl (hb hby d18_0) ?_
    refine XS.istore X0.here hx rfl (hb hby d18_1) rfl (l' := #[rv a1, iv 0, rv a3, iv 0, iv 2, iv 0, .unset]) rfl ?_
    refine XS.iload X0.here hx rfl (hb hby d18_3) rfl ?_
    show own_S p e below s₁ (mkF m 5 #[rv a1, iv 0, rv a3, iv 0, iv 2, iv 0, .unset] [(.int 0)]) _
    refine XS.iload X0.here hx rfl (hb hby d18_5) rfl ?_
    refine XS.icmpNo X0.here hx rfl (hb hby d18_7) rfl (tlt (by decide)).2.1 ?_
    refine XS.aloadN X0.here hx rfl (hb hby d18_10) rfl rfl ?_
    show own_S p e below s₁ (mkF m 11 #[rv a1, iv 0, rv a3, iv 0, iv 2, iv 0, .unset] [(.ref a1)]) _
    refine XS.iloadN X0.here hx rfl (hb hby d18_11) rfl ?_
    refine X0.caload hx (j := (0 : Int32)) (v := (.int y0)) (by rw [e0]; exact Ar1.1) (State.isArrayOf_alike hZ.alike Ar1.2.1) Ar1.2.2 (inb_of S1 ⟨by decide, by decide⟩) (Has.at H1 (inb_of S1 ⟨by decide, by decide⟩) rfl) (g := (mkF m 12 #[rv a1, iv 0, rv a3, iv 0, iv 2, iv 0, .unset] [(.int 0), (.ref a1)])) rfl rfl (hb hby d18_12) _ ?_
    refine XS.istore X0.here hx rfl (hb hby d18_13) rfl (l' := #[rv a1, iv 0, rv a3, iv 0, iv 2, iv 0, iv y0]) rfl ?_
    show own_S p e below s₁ (mkF m 15 #[rv a1, iv 0, rv a3, iv 0, iv 2, iv 0, iv y0] []) _
    refine XS.iload X0.here hx rfl (hb hby d18_15) rfl ?_
    refine XS.sipush X0.here hx rfl (hb hby d18_17) ?_
    refine XS.icmpYes X0.here hx rfl (pc0 := 20) (pc' := 26) rfl (hb hby d18_20) rfl (flt hp0).2.2.2 (by decide) (by decide) ?_
    show own_S p e below s₁ (mkF m 26 #[rv a1, iv 0, rv a3, iv 0, iv 2, iv 0, iv y0] []) _
    refine XS.aloadN X0.here hx rfl (hb hby d18_26) rfl rfl ?_
    refine XS.iloadN X0.here hx rfl (hb hby d18_27) rfl ?_
    refine XS.iload X0.here hx rfl (hb hby d18_28) rfl ?_
    show own_S p e below s₁ (mkF m 30 #[rv a1, iv 0, rv a3, iv 0, iv 2, iv 0, iv y0] [(.int y0), (.int 0), (.ref a3)]) _
    refine XS.i2b X0.here hx rfl (hb hby d18_30) rfl ?_
    exact k
  obtain ⟨cl2, Ar2, qk2, S2, M2, H2, G2⟩ := id V_b
  obtain ⟨T2, h2, X2, e2, W2, st2⟩ := stB X0 hx hZ e0 Ar2 (j := (0 : Int32)) (inb_of S2 ⟨by decide, by decide⟩) (g := (mkF m 31 #[rv a1, iv 0, rv a3, iv 0, iv 2, iv 0, iv y0] [(.int (y0.toInt8.toInt32)), (.int 0), (.ref a3)])) rfl rfl (hb hby d18_31)
  have V2 : Arv Z h2 a3 kc3 .byte (2 : Int32) [(.int (nar .byte (y0.toInt8.toInt32))), (.int (0 : Int32))] (.int (0 : Int32)) := Arv.set Ar2 qk2 S2 M2 H2 G2 (fits_nar_byte _) W2 0 rfl (Nat.le_of_ble_eq_true rfl)
  have c2_V_a1 := V_a.other W2 n_ab
  have K2 := (Keep.refl h0 [a3]).wr W2 (Or.inl (List.mem_of_getElem? (i := 0) rfl))
  have N2 := Fr.snoc X2 N0 g_a3
  refine own_go (B := T2.setTop (mkF m 32 #[rv a1, iv 0, rv a3, iv 0, iv 2, iv 0, iv y0] [])) (fun t k => st2 _ k) ?_
  obtain ⟨cl3, Ar3, qk3, S3, M3, H3, G3⟩ := id c2_V_a1
  refine own_go (B := T2.setTop (mkF m 31 #[rv a1, iv 1, rv a3, iv 1, iv 2, iv 1, iv y1] [(.int (y1.toInt8.toInt32)), (.int 1), (.ref a3)])) (fun t k => ?_) ?_
  · show own_S p e below T2 (mkF m 32 #[rv a1, iv 0, rv a3, iv 0, iv 2, iv 0, iv y0] []) _
    refine XS.iinc X2.here hx rfl (hb hby d18_32) rfl (l' := #[rv a1, iv 1, rv a3, iv 0, iv 2, iv 0, iv y0]) rfl ?_
    refine XS.iinc X2.here hx rfl (hb hby d18_35) rfl (l' := #[rv a1, iv 1, rv a3, iv 1, iv 2, iv 0, iv y0]) rfl ?_
    refine XS.iinc X2.here hx rfl (hb hby d18_38) rfl (l' := #[rv a1, iv 1, rv a3, iv 1, iv 2, iv 1, iv y0]) rfl ?_
    show own_S p e below T2 (mkF m 41 #[rv a1, iv 1, rv a3, iv 1, iv 2, iv 1, iv y0] []) _
    refine XS.goto X2.here hx rfl (pc0 := 41) (pc' := 3) rfl (hb hby d18_41) (by decide) (by decide) ?_
    refine XS.iload X2.here hx rfl (hb hby d18_3) rfl ?_
    refine XS.iload X2.here hx rfl (hb hby d18_5) rfl ?_
    show own_S p e below T2 (mkF m 7 #[rv a1, iv 1, rv a3, iv 1, iv 2, iv 1, iv y0] [(.int 2), (.int 1)]) _
    refine XS.icmpNo X2.here hx rfl (hb hby d18_7) rfl (tlt (by decide)).2.1 ?_
    refine XS.aloadN X2.here hx rfl (hb hby d18_10) rfl rfl ?_
    refine XS.iloadN X2.here hx rfl (hb hby d18_11) rfl ?_
    show own_S p e below T2 (mkF m 12 #[rv a1, iv 1, rv a3, iv 1, iv 2, iv 1, iv y0] [(.int 1), (.ref a1)]) _
    refine X2.caload hx (j := (1 : Int32)) (v := (.int y1)) (by rw [e2]; exact Ar3.1) (State.isArrayOf_alike hZ.alike Ar3.2.1) Ar3.2.2 (inb_of S3 ⟨by decide, by decide⟩) (Has.at H3 (inb_of S3 ⟨by decide, by decide⟩) rfl) (g := (mkF m 12 #[rv a1, iv 1, rv a3, iv 1, iv 2, iv 1, iv y0] [(.int 1), (.ref a1)])) rfl rfl (hb hby d18_12) _ ?_
    refine XS.istore X2.here hx rfl (hb hby d18_13) rfl (l' := #[rv a1, iv 1, rv a3, iv 1, iv 2, iv 1, iv y1]) rfl ?_
    refine XS.iload X2.here hx rfl (hb hby d18_15) rfl ?_
    show own_S p e below T2 (mkF m 17 #[rv a1, iv 1, rv a3, iv 1, iv 2, iv 1, iv y1] [(.int y1)]) _
    refine XS.sipush X2.here hx rfl (hb hby d18_17) ?_
    refine XS.icmpYes X2.here hx rfl (pc0 := 20) (pc' := 26) rfl (hb hby d18_20) rfl (flt hp1).2.2.2 (by decide) (by decide) ?_
    refine XS.aloadN X2.here hx rfl (hb hby d18_26) rfl rfl ?_
    show own_S p e below T2 (mkF m 27 #[rv a1, iv 1, rv a3, iv 1, iv 2, iv 1, iv y1] [(.ref a3)]) _
    refine XS.iloadN X2.here hx rfl (hb hby d18_27) rfl ?_
    refine XS.iload X2.here hx rfl (hb hby d18_28) rfl ?_
    refine XS.i2b X2.here hx rfl (hb hby d18_30) rfl ?_
    exact k
  obtain ⟨cl4, Ar4, qk4, S4, M4, H4, G4⟩ := id V2
  obtain ⟨T4, h4, X4, e4, W4, st4⟩ := stB X2 hx hZ e2 Ar4 (j := (1 : Int32)) (inb_of S4 ⟨by decide, by decide⟩) (g := (mkF m 31 #[rv a1, iv 1, rv a3, iv 1, iv 2, iv 1, iv y1] [(.int (y1.toInt8.toInt32)), (.int 1), (.ref a3)])) rfl rfl (hb hby d18_31)
  have V4 : Arv Z h4 a3 kc3 .byte (2 : Int32) [(.int (nar .byte (y0.toInt8.toInt32))), (.int (nar .byte (y1.toInt8.toInt32)))] (.int (0 : Int32)) := Arv.set Ar4 qk4 S4 M4 H4 G4 (fits_nar_byte _) W4 1 rfl (Nat.le_of_ble_eq_true rfl)
  have c4_V_a1 := c2_V_a1.other W4 n_ab
  have K4 := K2.wr W4 (Or.inl (List.mem_of_getElem? (i := 0) rfl))
  have N4 := Fr.snoc X4 N2 g_a3
  refine own_go (B := T4.setTop (mkF m 32 #[rv a1, iv 1, rv a3, iv 1, iv 2, iv 1, iv y1] [])) (fun t k => st4 _ k) ?_
  obtain ⟨fs, hr, hrun, hended, hW, hsame⟩ := X4.leave (v := some (.int 2)) (fun h => by rw [Bd.returns] at h; cases h)
  refine ⟨_, _, ?_, hrun, hended, _, _, rfl, ?_, ⟨_, rfl⟩, hW, hsame.mono (by decide) (by decide)⟩
  · show own_S p e below T4 (mkF m 32 #[rv a1, iv 1, rv a3, iv 1, iv 2, iv 1, iv y1] []) _
    refine XS.iinc X4.here hx rfl (hb hby d18_32) rfl (l' := #[rv a1, iv 2, rv a3, iv 1, iv 2, iv 1, iv y1]) rfl ?_
    refine XS.iinc X4.here hx rfl (hb hby d18_35) rfl (l' := #[rv a1, iv 2, rv a3, iv 2, iv 2, iv 1, iv y1]) rfl ?_
    refine XS.iinc X4.here hx rfl (hb hby d18_38) rfl (l' := #[rv a1, iv 2, rv a3, iv 2, iv 2, iv 2, iv y1]) rfl ?_
    show own_S p e below T4 (mkF m 41 #[rv a1, iv 2, rv a3, iv 2, iv 2, iv 2, iv y1] []) _
    refine XS.goto X4.here hx rfl (pc0 := 41) (pc' := 3) rfl (hb hby d18_41) (by decide) (by decide) ?_
    refine XS.iload X4.here hx rfl (hb hby d18_3) rfl ?_
    refine XS.iload X4.here hx rfl (hb hby d18_5) rfl ?_
    show own_S p e below T4 (mkF m 7 #[rv a1, iv 2, rv a3, iv 2, iv 2, iv 2, iv y1] [(.int 2), (.int 2)]) _
    refine XS.icmpYes X4.here hx rfl (pc0 := 7) (pc' := 44) rfl (hb hby d18_7) rfl (flt (by decide)).2.1 (by decide) (by decide) ?_
    refine XS.iload X4.here hx rfl (hb hby d18_44) rfl ?_
    show own_S p e below T4 (mkF m 46 #[rv a1, iv 2, rv a3, iv 2, iv 2, iv 2, iv y1] [(.int 2)]) _
    exact retI X4 hx Bd.returns (hb hby d18_46) hr
  · show Q18_2 Z a1 a3 kc1 kc3 y0 y1 h0 n0 _ T4.heap _
    rw [e4]
    exact ⟨rfl, N4, K4, V4⟩
def Q17_2 (Z : State) (a1 : Addr) (kc1 : ClassId) (y0 : Int32) (y1 : Int32) (h0 : Heap) (n0 : Nat) (v : Option Value) (h : Heap) (L : List Loc) : Prop := ∃ (b : Addr) (kb : ClassId), v = some (.ref b) ∧ Fr n0 L ∧ Keep h0 h [] ∧ h0.size ≤ b ∧ n0 ≤ b ∧ Arv Z h b kb .byte (2 : Int32) [(.int (own_b y0)), (.int (own_b y1))] (.int (0 : Int32))
set_option maxRecDepth 65536 in
set_option maxHeartbeats 40000000 in
theorem rm17_2 (l : Launch) (Z : State) (a0 : Array Value) (hw : ∀ d ∈ tables_1, d.before a0 Z = true) (ws : List Jvm.Cond) (a1 : Addr) (kc1 : ClassId) (y0 : Int32) (y1 : Int32) (h0 : Heap) (n0 : Nat) (Z0 : n0 ≤ h0.size) (V_a : Arv Z h0 a1 kc1 .char (2 : Int32) [(.int y0), (.int y1)] (.int (0 : Int32))) (hp0 : ¬ (255 : Int32) < y0) (hp1 : ¬ (255 : Int32) < y1) :
    MetFree l own_y8 (head1 (Jvm.Cond.code own_y8 jdk_52_method_16_code 6 (some (.array .byte)) :: ws) ({ frames := 1, cells := 1, slots := 2, locals := 18 } : Room)) (fun a U => a = #[(.ref a1), (.int 0), (.int 2)] ∧ Z.Warmed39 U.vm ∧ U.heap = h0) (fun _ _ _ _ _ => True) (fun _ U o U' => ∃ v L, o = .returned v ∧ Q17_2 Z a1 kc1 y0 y1 h0 n0 v U'.heap L ∧ FrameEnd U o U' L ({ frames := 1, cells := 1, slots := 2, locals := 18 } : Room).cells ({ frames := 1, cells := 1, slots := 2, locals := 18 } : Room).slots) := by
  refine MetFree.of_bodySF (plainFor_of_name pn_17) hisR ?_
  intro p e s m args below meth c s₁ Bd hml0 hP hK
  obtain ⟨rfl, hZ, hh⟩ := hP
  have hx := Bd.exec
  have hby := Bd.bytes
  have hml : c.maxLocals = 6 := hml0
  have hown : s.vm.findClass "java/lang/StringUTF16" = some m.cls := findClass_of_methodNamed Bd.named
  have hnm := (name_of_methodNamed Bd.named Bd.method).1
  have X0 : Stand p l e ({ frames := 1, cells := 1, slots := 2, locals := 18 } : Room) s m #[(.ref a1), (.int 0), (.int 2)] below meth c s₁ [] 0 0 := Stand.of_body Bd
  have e0 : s₁.heap = h0 := by rw [← hh, Bd.state]; rfl
  have N0 := Fr.nil n0
  refine own_go (B := s₁.setTop (mkF m 0 #[rv a1, iv 0, iv 2, .unset, .unset, .unset] [])) (fun t k => castTop (ef_17 m a1 (0 : Int32) (2 : Int32)) k) ?_
  refine own_go (B := s₁.setTop (mkF m 1 #[rv a1, iv 0, iv 2, .unset, .unset, .unset] [(.int 2)])) (fun t k => ?_) ?_
  · show own_S p e below s₁ (mkF m 0 #[rv a1, iv 0, iv 2, .unset, .unset, .unset] []) _
    refine XS.iloadN X0.here hx rfl (hb hby d17_0) rfl ?_
    exact k
  obtain ⟨T1, h1, k1, X1, e1, E1, A1, st1⟩ := newP X0 hx hZ (own_w hw 23 rfl) e0 (g := (mkF m 1 #[rv a1, iv 0, iv 2, .unset, .unset, .unset] [(.int 2)])) rfl (hb hby d17_1) rfl (by decide) (cap := 2) (by decide) (by decide) (by decide) (by decide)
  obtain ⟨b1, g1⟩ : ∃ z, z = h0.size := ⟨_, rfl⟩
  rw [← g1] at A1 st1
  have g_b1 : n0 ≤ b1 := Nat.le_trans Z0 (Nat.le_of_eq g1.symm)
  have sz_b1 : h0.size ≤ b1 := Nat.le_trans (Keep.refl h0 []).1 (Nat.le_of_eq g1.symm)
  have ne_a1_b1 : a1 ≠ b1 := Nat.ne_of_lt (Nat.lt_of_lt_of_le V_a.lt (Nat.le_of_eq g1.symm))
  have c1_V_a1 := V_a.ext E1
  have K1 := (Keep.refl h0 []).ext E1
  have V1 : Arv Z h1 b1 k1 .byte (2 : Int32) [(.int (0 : Int32)), (.int (0 : Int32))] (.int (0 : Int32)) := (Arv.new A1 (by decide)).pad (pad_rep [] (.int (0 : Int32)) 2)
  refine own_go (B := T1.setTop (mkF m 3 #[rv a1, iv 0, iv 2, .unset, .unset, .unset] [(.ref b1)])) (fun t k => st1 _ k) ?_
  refine own_go (B := T1.setTop (mkF m 9 #[rv a1, iv 0, iv 2, rv b1, .unset, .unset] [(.int 2), (.int 0), (.ref b1), (.int 0), (.ref a1)])) (fun t k => ?_) ?_
  · show own_S p e below T1 (mkF m 3 #[rv a1, iv 0, iv 2, .unset, .unset, .unset] [(.ref b1)]) _
    refine XS.astoreN X1.here hx rfl (hb hby d17_3) rfl rfl (l' := #[rv a1, iv 0, iv 2, rv b1, .unset, .unset]) rfl ?_
    refine XS.aloadN X1.here hx rfl (hb hby d17_4) rfl rfl ?_
    refine XS.iloadN X1.here hx rfl (hb hby d17_5) rfl ?_
    show own_S p e below T1 (mkF m 6 #[rv a1, iv 0, iv 2, rv b1, .unset, .unset] [(.int 0), (.ref a1)]) _
    refine XS.aloadN X1.here hx rfl (hb hby d17_6) rfl rfl ?_
    refine XS.iconst X1.here hx rfl (hb hby d17_7) ?_
    refine XS.iloadN X1.here hx rfl (hb hby d17_8) rfl ?_
    exact k
  obtain ⟨_, _, ⟨T2, L2, k2, n2⟩, -, X2, ⟨Lc2, hQ2, l2, y2, z2⟩, st2⟩ := Jvm.LawKit.callS X1 hx (y := own_y7) hown (mvT hZ (own_w hw 83 rfl)) (mvT hZ (own_w hw 84 rfl)) (mvT hZ (own_w hw 81 rfl)) (mvT hZ (own_w hw 85 rfl)) (by decide) (backOf (W := 0) (rm18_2 l Z a0 hw [] a1 b1 kc1 k1 y0 y1 h1 n0 (Nat.le_trans Z0 E1.1) c1_V_a1 V1 ne_a1_b1 g_b1 hp0 hp1) hZ (own_w hw 85 rfl) (own_w hw 81 rfl) (by decide) (by decide)) (g := (mkF m 9 #[rv a1, iv 0, iv 2, rv b1, .unset, .unset] [(.int 2), (.int 0), (.ref b1), (.int 0), (.ref a1)])) rfl (by rw [hml]; rfl) (argsL := [(.ref a1), (.int 0), (.ref b1), (.int 0), (.int 2)]) (rest := []) (lenOf own_pd5 rfl) rfl (by show 2 * 0 + _ ≤ _; exact Nat.le_of_eq rfl) (hb hby d17_9) (fun _ _ => ⟨rfl, e1, (by decide : 1 + 0 ≤ _), (by decide : 2 + 0 ≤ _)⟩)
  dsimp only [Pt.U, Pt.locs, Pt.cells, Pt.slots] at X2 l2 y2 z2 st2 hQ2
  subst l2 y2 z2
  obtain ⟨rfl, N2q, K2q, V2q⟩ := hQ2
  have N2 := Fr.app N0 N2q
  have c2_V_a1 := c1_V_a1.keep K2q (fun q => ne_a1_b1 (List.mem_singleton.mp q))
  have K2 := K1.trans K2q (allS (Or.inr sz_b1) all0)
  refine own_go (B := T2.setTop (mkF m 12 #[rv a1, iv 0, iv 2, rv b1, .unset, .unset] [(.int 2)])) (fun t k => st2 _ k) ?_
  obtain ⟨fs, hr, hrun, hended, hW, hsame⟩ := X2.leave (v := some (.ref b1)) (fun h => by rw [Bd.returns] at h; cases h)
  refine ⟨_, _, ?_, hrun, hended, _, _, rfl, ?_, ⟨_, rfl⟩, hW, hsame.mono (by decide) (by decide)⟩
  · show own_S p e below T2 (mkF m 12 #[rv a1, iv 0, iv 2, rv b1, .unset, .unset] [(.int 2)]) _
    refine XS.istore X2.here hx rfl (hb hby d17_12) rfl (l' := #[rv a1, iv 0, iv 2, rv b1, iv 2, .unset]) rfl ?_
    refine XS.iload X2.here hx rfl (hb hby d17_14) rfl ?_
    refine XS.iloadN X2.here hx rfl (hb hby d17_16) rfl ?_
    show own_S p e below T2 (mkF m 17 #[rv a1, iv 0, iv 2, rv b1, iv 2, .unset] [(.int 2), (.int 2)]) _
    refine XS.icmpYes X2.here hx rfl (pc0 := 17) (pc' := 57) rfl (hb hby d17_17) rfl (teq (by decide)).1 (by decide) (by decide) ?_
    refine XS.aloadN X2.here hx rfl (hb hby d17_57) rfl rfl ?_
    show own_S p e below T2 (mkF m 58 #[rv a1, iv 0, iv 2, rv b1, iv 2, .unset] [(.ref b1)]) _
    jvm_step X2.here [X2.here.top, hx, (hb hby d17_58), X2.method', Bd.returns, Value.isRef, FieldType.isReference]
    first | (intro acts; rw [hr _ acts rfl rfl rfl]) | rw [hr _ _ rfl rfl rfl]
    exact Steps.refl _
  · show Q17_2 Z a1 kc1 y0 y1 h0 n0 _ T2.heap _
    exact ⟨b1, k1, rfl, N2, K2, sz_b1, g_b1, V2q⟩
def Q18_3 (Z : State) (a1 : Addr) (a3 : Addr) (kc1 : ClassId) (kc3 : ClassId) (y0 : Int32) (y1 : Int32) (y2 : Int32) (h0 : Heap) (n0 : Nat) (v : Option Value) (h : Heap) (L : List Loc) : Prop := v = some (.int (3 : Int32)) ∧ Fr n0 L ∧ Keep h0 h [a3] ∧ Arv Z h a3 kc3 .byte (3 : Int32) [(.int (own_b y0)), (.int (own_b y1)), (.int (own_b y2))] (.int (0 : Int32))
set_option maxRecDepth 65536 in
set_option maxHeartbeats 40000000 in
theorem rm18_3 (l : Launch) (Z : State) (a0 : Array Value) (hw : ∀ d ∈ tables_1, d.before a0 Z = true) (ws : List Jvm.Cond) (a1 : Addr) (a3 : Addr) (kc1 : ClassId) (kc3 : ClassId) (y0 : Int32) (y1 : Int32) (y2 : Int32) (h0 : Heap) (n0 : Nat) (Z0 : n0 ≤ h0.size) (V_a : Arv Z h0 a1 kc1 .char (3 : Int32) [(.int y0), (.int y1), (.int y2)] (.int (0 : Int32))) (V_b : Arv Z h0 a3 kc3 .byte (3 : Int32) [(.int (0 : Int32)), (.int (0 : Int32)), (.int (0 : Int32))] (.int (0 : Int32))) (n_ab : a1 ≠ a3) (g_a3 : n0 ≤ a3) (hp0 : ¬ (255 : Int32) < y0) (hp1 : ¬ (255 : Int32) < y1) (hp2 : ¬ (255 : Int32) < y2) :
    MetFree l own_y7 (head1 (Jvm.Cond.code own_y7 jdk_52_method_21_code 7 (some .int) :: ws) ({ frames := 0, cells := 0, slots := 0, locals := 0 } : Room)) (fun a U => a = #[(.ref a1), (.int 0), (.ref a3), (.int 0), (.int 3)] ∧ Z.Warmed39 U.vm ∧ U.heap = h0) (fun _ _ _ _ _ => True) (fun _ U o U' => ∃ v L, o = .returned v ∧ Q18_3 Z a1 a3 kc1 kc3 y0 y1 y2 h0 n0 v U'.heap L ∧ FrameEnd U o U' L ({ frames := 0, cells := 0, slots := 0, locals := 0 } : Room).cells ({ frames := 0, cells := 0, slots := 0, locals := 0 } : Room).slots) := by
  refine MetFree.of_bodySF (plainFor_of_name pn_18) hisR ?_
  intro p e s m args below meth c s₁ Bd hml0 hP hK
  obtain ⟨rfl, hZ, hh⟩ := hP
  have hx := Bd.exec
  have hby := Bd.bytes
  have hml : c.maxLocals = 7 := hml0
  have hown : s.vm.findClass "java/lang/StringUTF16" = some m.cls := findClass_of_methodNamed Bd.named
  have hnm := (name_of_methodNamed Bd.named Bd.method).1
  have X0 : Stand p l e ({ frames := 0, cells := 0, slots := 0, locals := 0 } : Room) s m #[(.ref a1), (.int 0), (.ref a3), (.int 0), (.int 3)] below meth c s₁ [] 0 0 := Stand.of_body Bd
  have e0 : s₁.heap = h0 := by rw [← hh, Bd.state]; rfl
  have N0 := Fr.nil n0
  refine own_go (B := s₁.setTop (mkF m 0 #[rv a1, iv 0, rv a3, iv 0, iv 3, .unset, .unset] [])) (fun t k => castTop (ef_18 m a1 (0 : Int32) a3 (0 : Int32) (3 : Int32)) k) ?_
  obtain ⟨cl1, Ar1, qk1, S1, M1, H1, G1⟩ := id V_a
  refine own_go (B := s₁.setTop (mkF m 31 #[rv a1, iv 0, rv a3, iv 0, iv 3, iv 0, iv y0] [(.int (y0.toInt8.toInt32)), (.int 0), (.ref a3)])) (fun t k => ?_) ?_
  · show own_S p e below s₁ (mkF m 0 #[rv a1, iv 0, rv a3, iv 0, iv 3, .unset, .unset] []) _
    refine XS.iconst X0.here hx rfl (hb hby d18_0) ?_
    refine XS.istore X0.here hx rfl (hb hby d18_1) rfl (l' := #[rv a1, iv 0, rv a3, iv 0, iv 3, iv 0, .unset]) rfl ?_
    refine XS.iload X0.here hx rfl (hb hby d18_3) rfl ?_
    show own_S p e below s₁ (mkF m 5 #[rv a1, iv 0, rv a3, iv 0, iv 3, iv 0, .unset] [(.int 0)]) _
    refine XS.iload X0.here hx rfl (hb hby d18_5) rfl ?_
    refine XS.icmpNo X0.here hx rfl (hb hby d18_7) rfl (tlt (by decide)).2.1 ?_
    refine XS.aloadN X0.here hx rfl (hb hby d18_10) rfl rfl ?_
    show own_S p e below s₁ (mkF m 11 #[rv a1, iv 0, rv a3, iv 0, iv 3, iv 0, .unset] [(.ref a1)]) _
    refine XS.iloadN X0.here hx rfl (hb hby d18_11) rfl ?_
    refine X0.caload hx (j := (0 : Int32)) (v := (.int y0)) (by rw [e0]; exact Ar1.1) (State.isArrayOf_alike hZ.alike Ar1.2.1) Ar1.2.2 (inb_of S1 ⟨by decide, by decide⟩) (Has.at H1 (inb_of S1 ⟨by decide, by decide⟩) rfl) (g := (mkF m 12 #[rv a1, iv 0, rv a3, iv 0, iv 3, iv 0, .unset] [(.int 0), (.ref a1)])) rfl rfl (hb hby d18_12) _ ?_
    refine XS.istore X0.here hx rfl (hb hby d18_13) rfl (l' := #[rv a1, iv 0, rv a3, iv 0, iv 3, iv 0, iv y0]) rfl ?_
    show own_S p e below s₁ (mkF m 15 #[rv a1, iv 0, rv a3, iv 0, iv 3, iv 0, iv y0] []) _
    refine XS.iload X0.here hx rfl (hb hby d18_15) rfl ?_
    refine XS.sipush X0.here hx rfl (hb hby d18_17) ?_
    refine XS.icmpYes X0.here hx rfl (pc0 := 20) (pc' := 26) rfl (hb hby d18_20) rfl (flt hp0).2.2.2 (by decide) (by decide) ?_
    show own_S p e below s₁ (mkF m 26 #[rv a1, iv 0, rv a3, iv 0, iv 3, iv 0, iv y0] []) _
    refine XS.aloadN X0.here hx rfl (hb hby d18_26) rfl rfl ?_
    refine XS.iloadN X0.here hx rfl (hb hby d18_27) rfl ?_
    refine XS.iload X0.here hx rfl (hb hby d18_28) rfl ?_
    show own_S p e below s₁ (mkF m 30 #[rv a1, iv 0, rv a3, iv 0, iv 3, iv 0, iv y0] [(.int y0), (.int 0), (.ref a3)]) _
    refine XS.i2b X0.here hx rfl (hb hby d18_30) rfl ?_
    exact k
  obtain ⟨cl2, Ar2, qk2, S2, M2, H2, G2⟩ := id V_b
  obtain ⟨T2, h2, X2, e2, W2, st2⟩ := stB X0 hx hZ e0 Ar2 (j := (0 : Int32)) (inb_of S2 ⟨by decide, by decide⟩) (g := (mkF m 31 #[rv a1, iv 0, rv a3, iv 0, iv 3, iv 0, iv y0] [(.int (y0.toInt8.toInt32)), (.int 0), (.ref a3)])) rfl rfl (hb hby d18_31)
  have V2 : Arv Z h2 a3 kc3 .byte (3 : Int32) [(.int (nar .byte (y0.toInt8.toInt32))), (.int (0 : Int32)), (.int (0 : Int32))] (.int (0 : Int32)) := Arv.set Ar2 qk2 S2 M2 H2 G2 (fits_nar_byte _) W2 0 rfl (Nat.le_of_ble_eq_true rfl)
  have c2_V_a1 := V_a.other W2 n_ab
  have K2 := (Keep.refl h0 [a3]).wr W2 (Or.inl (List.mem_of_getElem? (i := 0) rfl))
  have N2 := Fr.snoc X2 N0 g_a3
  refine own_go (B := T2.setTop (mkF m 32 #[rv a1, iv 0, rv a3, iv 0, iv 3, iv 0, iv y0] [])) (fun t k => st2 _ k) ?_
  obtain ⟨cl3, Ar3, qk3, S3, M3, H3, G3⟩ := id c2_V_a1
  refine own_go (B := T2.setTop (mkF m 31 #[rv a1, iv 1, rv a3, iv 1, iv 3, iv 1, iv y1] [(.int (y1.toInt8.toInt32)), (.int 1), (.ref a3)])) (fun t k => ?_) ?_
  · show own_S p e below T2 (mkF m 32 #[rv a1, iv 0, rv a3, iv 0, iv 3, iv 0, iv y0] []) _
    refine XS.iinc X2.here hx rfl (hb hby d18_32) rfl (l' := #[rv a1, iv 1, rv a3, iv 0, iv 3, iv 0, iv y0]) rfl ?_
    refine XS.iinc X2.here hx rfl (hb hby d18_35) rfl (l' := #[rv a1, iv 1, rv a3, iv 1, iv 3, iv 0, iv y0]) rfl ?_
    refine XS.iinc X2.here hx rfl (hb hby d18_38) rfl (l' := #[rv a1, iv 1, rv a3, iv 1, iv 3, iv 1, iv y0]) rfl ?_
    show own_S p e below T2 (mkF m 41 #[rv a1, iv 1, rv a3, iv 1, iv 3, iv 1, iv y0] []) _
    refine XS.goto X2.here hx rfl (pc0 := 41) (pc' := 3) rfl (hb hby d18_41) (by decide) (by decide) ?_
    refine XS.iload X2.here hx rfl (hb hby d18_3) rfl ?_
    refine XS.iload X2.here hx rfl (hb hby d18_5) rfl ?_
    show own_S p e below T2 (mkF m 7 #[rv a1, iv 1, rv a3, iv 1, iv 3, iv 1, iv y0] [(.int 3), (.int 1)]) _
    refine XS.icmpNo X2.here hx rfl (hb hby d18_7) rfl (tlt (by decide)).2.1 ?_
    refine XS.aloadN X2.here hx rfl (hb hby d18_10) rfl rfl ?_
    refine XS.iloadN X2.here hx rfl (hb hby d18_11) rfl ?_
    show own_S p e below T2 (mkF m 12 #[rv a1, iv 1, rv a3, iv 1, iv 3, iv 1, iv y0] [(.int 1), (.ref a1)]) _
    refine X2.caload hx (j := (1 : Int32)) (v := (.int y1)) (by rw [e2]; exact Ar3.1) (State.isArrayOf_alike hZ.alike Ar3.2.1) Ar3.2.2 (inb_of S3 ⟨by decide, by decide⟩) (Has.at H3 (inb_of S3 ⟨by decide, by decide⟩) rfl) (g := (mkF m 12 #[rv a1, iv 1, rv a3, iv 1, iv 3, iv 1, iv y0] [(.int 1), (.ref a1)])) rfl rfl (hb hby d18_12) _ ?_
    refine XS.istore X2.here hx rfl (hb hby d18_13) rfl (l' := #[rv a1, iv 1, rv a3, iv 1, iv 3, iv 1, iv y1]) rfl ?_
    refine XS.iload X2.here hx rfl (hb hby d18_15) rfl ?_
    show own_S p e below T2 (mkF m 17 #[rv a1, iv 1, rv a3, iv 1, iv 3, iv 1, iv y1] [(.int y1)]) _
    refine XS.sipush X2.here hx rfl (hb hby d18_17) ?_
    refine XS.icmpYes X2.here hx rfl (pc0 := 20) (pc' := 26) rfl (hb hby d18_20) rfl (flt hp1).2.2.2 (by decide) (by decide) ?_
    refine XS.aloadN X2.here hx rfl (hb hby d18_26) rfl rfl ?_
    show own_S p e below T2 (mkF m 27 #[rv a1, iv 1, rv a3, iv 1, iv 3, iv 1, iv y1] [(.ref a3)]) _
    refine XS.iloadN X2.here hx rfl (hb hby d18_27) rfl ?_
    refine XS.iload X2.here hx rfl (hb hby d18_28) rfl ?_
    refine XS.i2b X2.here hx rfl (hb hby d18_30) rfl ?_
    exact k
  obtain ⟨cl4, Ar4, qk4, S4, M4, H4, G4⟩ := id V2
  obtain ⟨T4, h4, X4, e4, W4, st4⟩ := stB X2 hx hZ e2 Ar4 (j := (1 : Int32)) (inb_of S4 ⟨by decide, by decide⟩) (g := (mkF m 31 #[rv a1, iv 1, rv a3, iv 1, iv 3, iv 1, iv y1] [(.int (y1.toInt8.toInt32)), (.int 1), (.ref a3)])) rfl rfl (hb hby d18_31)
  have V4 : Arv Z h4 a3 kc3 .byte (3 : Int32) [(.int (nar .byte (y0.toInt8.toInt32))), (.int (nar .byte (y1.toInt8.toInt32))), (.int (0 : Int32))] (.int (0 : Int32)) := Arv.set Ar4 qk4 S4 M4 H4 G4 (fits_nar_byte _) W4 1 rfl (Nat.le_of_ble_eq_true rfl)
  have c4_V_a1 := c2_V_a1.other W4 n_ab
  have K4 := K2.wr W4 (Or.inl (List.mem_of_getElem? (i := 0) rfl))
  have N4 := Fr.snoc X4 N2 g_a3
  refine own_go (B := T4.setTop (mkF m 32 #[rv a1, iv 1, rv a3, iv 1, iv 3, iv 1, iv y1] [])) (fun t k => st4 _ k) ?_
  obtain ⟨cl5, Ar5, qk5, S5, M5, H5, G5⟩ := id c4_V_a1
  refine own_go (B := T4.setTop (mkF m 31 #[rv a1, iv 2, rv a3, iv 2, iv 3, iv 2, iv y2] [(.int (y2.toInt8.toInt32)), (.int 2), (.ref a3)])) (fun t k => ?_) ?_
  · show own_S p e below T4 (mkF m 32 #[rv a1, iv 1, rv a3, iv 1, iv 3, iv 1, iv y1] []) _
    refine XS.iinc X4.here hx rfl (hb hby d18_32) rfl (l' := #[rv a1, iv 2, rv a3, iv 1, iv 3, iv 1, iv y1]) rfl ?_
    refine XS.iinc X4.here hx rfl (hb hby d18_35) rfl (l' := #[rv a1, iv 2, rv a3, iv 2, iv 3, iv 1, iv y1]) rfl ?_
    refine XS.iinc X4.here hx rfl (hb hby d18_38) rfl (l' := #[rv a1, iv 2, rv a3, iv 2, iv 3, iv 2, iv y1]) rfl ?_
    show own_S p e below T4 (mkF m 41 #[rv a1, iv 2, rv a3, iv 2, iv 3, iv 2, iv y1] []) _
    refine XS.goto X4.here hx rfl (pc0 := 41) (pc' := 3) rfl (hb hby d18_41) (by decide) (by decide) ?_
    refine XS.iload X4.here hx rfl (hb hby d18_3) rfl ?_
    refine XS.iload X4.here hx rfl (hb hby d18_5) rfl ?_
    show own_S p e below T4 (mkF m 7 #[rv a1, iv 2, rv a3, iv 2, iv 3, iv 2, iv y1] [(.int 3), (.int 2)]) _
    refine XS.icmpNo X4.here hx rfl (hb hby d18_7) rfl (tlt (by decide)).2.1 ?_
    refine XS.aloadN X4.here hx rfl (hb hby d18_10) rfl rfl ?_
    refine XS.iloadN X4.here hx rfl (hb hby d18_11) rfl ?_
    show own_S p e below T4 (mkF m 12 #[rv a1, iv 2, rv a3, iv 2, iv 3, iv 2, iv y1] [(.int 2), (.ref a1)]) _
    refine X4.caload hx (j := (2 : Int32)) (v := (.int y2)) (by rw [e4]; exact Ar5.1) (State.isArrayOf_alike hZ.alike Ar5.2.1) Ar5.2.2 (inb_of S5 ⟨by decide, by decide⟩) (Has.at H5 (inb_of S5 ⟨by decide, by decide⟩) rfl) (g := (mkF m 12 #[rv a1, iv 2, rv a3, iv 2, iv 3, iv 2, iv y1] [(.int 2), (.ref a1)])) rfl rfl (hb hby d18_12) _ ?_
    refine XS.istore X4.here hx rfl (hb hby d18_13) rfl (l' := #[rv a1, iv 2, rv a3, iv 2, iv 3, iv 2, iv y2]) rfl ?_
    refine XS.iload X4.here hx rfl (hb hby d18_15) rfl ?_
    show own_S p e below T4 (mkF m 17 #[rv a1, iv 2, rv a3, iv 2, iv 3, iv 2, iv y2] [(.int y2)]) _
    refine XS.sipush X4.here hx rfl (hb hby d18_17) ?_
    refine XS.icmpYes X4.here hx rfl (pc0 := 20) (pc' := 26) rfl (hb hby d18_20) rfl (flt hp2).2.2.2 (by decide) (by decide) ?_
    refine XS.aloadN X4.here hx rfl (hb hby d18_26) rfl rfl ?_
    show own_S p e below T4 (mkF m 27 #[rv a1, iv 2, rv a3, iv 2, iv 3, iv 2, iv y2] [(.ref a3)]) _
    refine XS.iloadN X4.here hx rfl (hb hby d18_27) rfl ?_
    refine XS.iload X4.here hx rfl (hb hby d18_28) rfl ?_
    refine XS.i2b X4.here hx rfl (hb hby d18_30) rfl ?_
    exact k
  obtain ⟨cl6, Ar6, qk6, S6, M6, H6, G6⟩ := id V4
  obtain ⟨T6, h6, X6, e6, W6, st6⟩ := stB X4 hx hZ e4 Ar6 (j := (2 : Int32)) (inb_of S6 ⟨by decide, by decide⟩) (g := (mkF m 31 #[rv a1, iv 2, rv a3, iv 2, iv 3, iv 2, iv y2] [(.int (y2.toInt8.toInt32)), (.int 2), (.ref a3)])) rfl rfl (hb hby d18_31)
  have V6 : Arv Z h6 a3 kc3 .byte (3 : Int32) [(.int (nar .byte (y0.toInt8.toInt32))), (.int (nar .byte (y1.toInt8.toInt32))), (.int (nar .byte (y2.toInt8.toInt32)))] (.int (0 : Int32)) := Arv.set Ar6 qk6 S6 M6 H6 G6 (fits_nar_byte _) W6 2 rfl (Nat.le_of_ble_eq_true rfl)
  have c6_V_a1 := c4_V_a1.other W6 n_ab
  have K6 := K4.wr W6 (Or.inl (List.mem_of_getElem? (i := 0) rfl))
  have N6 := Fr.snoc X6 N4 g_a3
  refine own_go (B := T6.setTop (mkF m 32 #[rv a1, iv 2, rv a3, iv 2, iv 3, iv 2, iv y2] [])) (fun t k => st6 _ k) ?_
  obtain ⟨fs, hr, hrun, hended, hW, hsame⟩ := X6.leave (v := some (.int 3)) (fun h => by rw [Bd.returns] at h; cases h)
  refine ⟨_, _, ?_, hrun, hended, _, _, rfl, ?_, ⟨_, rfl⟩, hW, hsame.mono (by decide) (by decide)⟩
  · show own_S p e below T6 (mkF m 32 #[rv a1, iv 2, rv a3, iv 2, iv 3, iv 2, iv y2] []) _
    refine XS.iinc X6.here hx rfl (hb hby d18_32) rfl (l' := #[rv a1, iv 3, rv a3, iv 2, iv 3, iv 2, iv y2]) rfl ?_
    refine XS.iinc X6.here hx rfl (hb hby d18_35) rfl (l' := #[rv a1, iv 3, rv a3, iv 3, iv 3, iv 2, iv y2]) rfl ?_
    refine XS.iinc X6.here hx rfl (hb hby d18_38) rfl (l' := #[rv a1, iv 3, rv a3, iv 3, iv 3, iv 3, iv y2]) rfl ?_
    show own_S p e below T6 (mkF m 41 #[rv a1, iv 3, rv a3, iv 3, iv 3, iv 3, iv y2] []) _
    refine XS.goto X6.here hx rfl (pc0 := 41) (pc' := 3) rfl (hb hby d18_41) (by decide) (by decide) ?_
    refine XS.iload X6.here hx rfl (hb hby d18_3) rfl ?_
    refine XS.iload X6.here hx rfl (hb hby d18_5) rfl ?_
    show own_S p e below T6 (mkF m 7 #[rv a1, iv 3, rv a3, iv 3, iv 3, iv 3, iv y2] [(.int 3), (.int 3)]) _
    refine XS.icmpYes X6.here hx rfl (pc0 := 7) (pc' := 44) rfl (hb hby d18_7) rfl (flt (by decide)).2.1 (by decide) (by decide) ?_
    refine XS.iload X6.here hx rfl (hb hby d18_44) rfl ?_
    show own_S p e below T6 (mkF m 46 #[rv a1, iv 3, rv a3, iv 3, iv 3, iv 3, iv y2] [(.int 3)]) _
    exact retI X6 hx Bd.returns (hb hby d18_46) hr
  · show Q18_3 Z a1 a3 kc1 kc3 y0 y1 y2 h0 n0 _ T6.heap _
    rw [e6]
    exact ⟨rfl, N6, K6, V6⟩
def Q17_3 (Z : State) (a1 : Addr) (kc1 : ClassId) (y0 : Int32) (y1 : Int32) (y2 : Int32) (h0 : Heap) (n0 : Nat) (v : Option Value) (h : Heap) (L : List Loc) : Prop := ∃ (b : Addr) (kb : ClassId), v = some (.ref b) ∧ Fr n0 L ∧ Keep h0 h [] ∧ h0.size ≤ b ∧ n0 ≤ b ∧ Arv Z h b kb .byte (3 : Int32) [(.int (own_b y0)), (.int (own_b y1)), (.int (own_b y2))] (.int (0 : Int32))
set_option maxRecDepth 65536 in
set_option maxHeartbeats 40000000 in
theorem rm17_3 (l : Launch) (Z : State) (a0 : Array Value) (hw : ∀ d ∈ tables_1, d.before a0 Z = true) (ws : List Jvm.Cond) (a1 : Addr) (kc1 : ClassId) (y0 : Int32) (y1 : Int32) (y2 : Int32) (h0 : Heap) (n0 : Nat) (Z0 : n0 ≤ h0.size) (V_a : Arv Z h0 a1 kc1 .char (3 : Int32) [(.int y0), (.int y1), (.int y2)] (.int (0 : Int32))) (hp0 : ¬ (255 : Int32) < y0) (hp1 : ¬ (255 : Int32) < y1) (hp2 : ¬ (255 : Int32) < y2) :
    MetFree l own_y8 (head1 (Jvm.Cond.code own_y8 jdk_52_method_16_code 6 (some (.array .byte)) :: ws) ({ frames := 1, cells := 1, slots := 3, locals := 18 } : Room)) (fun a U => a = #[(.ref a1), (.int 0), (.int 3)] ∧ Z.Warmed39 U.vm ∧ U.heap = h0) (fun _ _ _ _ _ => True) (fun _ U o U' => ∃ v L, o = .returned v ∧ Q17_3 Z a1 kc1 y0 y1 y2 h0 n0 v U'.heap L ∧ FrameEnd U o U' L ({ frames := 1, cells := 1, slots := 3, locals := 18 } : Room).cells ({ frames := 1, cells := 1, slots := 3, locals := 18 } : Room).slots) := by
  refine MetFree.of_bodySF (plainFor_of_name pn_17) hisR ?_
  intro p e s m args below meth c s₁ Bd hml0 hP hK
  obtain ⟨rfl, hZ, hh⟩ := hP
  have hx := Bd.exec
  have hby := Bd.bytes
  have hml : c.maxLocals = 6 := hml0
  have hown : s.vm.findClass "java/lang/StringUTF16" = some m.cls := findClass_of_methodNamed Bd.named
  have hnm := (name_of_methodNamed Bd.named Bd.method).1
  have X0 : Stand p l e ({ frames := 1, cells := 1, slots := 3, locals := 18 } : Room) s m #[(.ref a1), (.int 0), (.int 3)] below meth c s₁ [] 0 0 := Stand.of_body Bd
  have e0 : s₁.heap = h0 := by rw [← hh, Bd.state]; rfl
  have N0 := Fr.nil n0
  refine own_go (B := s₁.setTop (mkF m 0 #[rv a1, iv 0, iv 3, .unset, .unset, .unset] [])) (fun t k => castTop (ef_17 m a1 (0 : Int32) (3 : Int32)) k) ?_
  refine own_go (B := s₁.setTop (mkF m 1 #[rv a1, iv 0, iv 3, .unset, .unset, .unset] [(.int 3)])) (fun t k => ?_) ?_
  · show own_S p e below s₁ (mkF m 0 #[rv a1, iv 0, iv 3, .unset, .unset, .unset] []) _
    refine XS.iloadN X0.here hx rfl (hb hby d17_0) rfl ?_
    exact k
  obtain ⟨T1, h1, k1, X1, e1, E1, A1, st1⟩ := newP X0 hx hZ (own_w hw 23 rfl) e0 (g := (mkF m 1 #[rv a1, iv 0, iv 3, .unset, .unset, .unset] [(.int 3)])) rfl (hb hby d17_1) rfl (by decide) (cap := 3) (by decide) (by decide) (by decide) (by decide)
  obtain ⟨b1, g1⟩ : ∃ z, z = h0.size := ⟨_, rfl⟩
  rw [← g1] at A1 st1
  have g_b1 : n0 ≤ b1 := Nat.le_trans Z0 (Nat.le_of_eq g1.symm)
  have sz_b1 : h0.size ≤ b1 := Nat.le_trans (Keep.refl h0 []).1 (Nat.le_of_eq g1.symm)
  have ne_a1_b1 : a1 ≠ b1 := Nat.ne_of_lt (Nat.lt_of_lt_of_le V_a.lt (Nat.le_of_eq g1.symm))
  have c1_V_a1 := V_a.ext E1
  have K1 := (Keep.refl h0 []).ext E1
  have V1 : Arv Z h1 b1 k1 .byte (3 : Int32) [(.int (0 : Int32)), (.int (0 : Int32)), (.int (0 : Int32))] (.int (0 : Int32)) := (Arv.new A1 (by decide)).pad (pad_rep [] (.int (0 : Int32)) 3)
  refine own_go (B := T1.setTop (mkF m 3 #[rv a1, iv 0, iv 3, .unset, .unset, .unset] [(.ref b1)])) (fun t k => st1 _ k) ?_
  refine own_go (B := T1.setTop (mkF m 9 #[rv a1, iv 0, iv 3, rv b1, .unset, .unset] [(.int 3), (.int 0), (.ref b1), (.int 0), (.ref a1)])) (fun t k => ?_) ?_
  · show own_S p e below T1 (mkF m 3 #[rv a1, iv 0, iv 3, .unset, .unset, .unset] [(.ref b1)]) _
    refine XS.astoreN X1.here hx rfl (hb hby d17_3) rfl rfl (l' := #[rv a1, iv 0, iv 3, rv b1, .unset, .unset]) rfl ?_
    refine XS.aloadN X1.here hx rfl (hb hby d17_4) rfl rfl ?_
    refine XS.iloadN X1.here hx rfl (hb hby d17_5) rfl ?_
    show own_S p e below T1 (mkF m 6 #[rv a1, iv 0, iv 3, rv b1, .unset, .unset] [(.int 0), (.ref a1)]) _
    refine XS.aloadN X1.here hx rfl (hb hby d17_6) rfl rfl ?_
    refine XS.iconst X1.here hx rfl (hb hby d17_7) ?_
    refine XS.iloadN X1.here hx rfl (hb hby d17_8) rfl ?_
    exact k
  obtain ⟨_, _, ⟨T2, L2, k2, n2⟩, -, X2, ⟨Lc2, hQ2, l2, y2, z2⟩, st2⟩ := Jvm.LawKit.callS X1 hx (y := own_y7) hown (mvT hZ (own_w hw 83 rfl)) (mvT hZ (own_w hw 84 rfl)) (mvT hZ (own_w hw 81 rfl)) (mvT hZ (own_w hw 85 rfl)) (by decide) (backOf (W := 0) (rm18_3 l Z a0 hw [] a1 b1 kc1 k1 y0 y1 y2 h1 n0 (Nat.le_trans Z0 E1.1) c1_V_a1 V1 ne_a1_b1 g_b1 hp0 hp1 hp2) hZ (own_w hw 85 rfl) (own_w hw 81 rfl) (by decide) (by decide)) (g := (mkF m 9 #[rv a1, iv 0, iv 3, rv b1, .unset, .unset] [(.int 3), (.int 0), (.ref b1), (.int 0), (.ref a1)])) rfl (by rw [hml]; rfl) (argsL := [(.ref a1), (.int 0), (.ref b1), (.int 0), (.int 3)]) (rest := []) (lenOf own_pd5 rfl) rfl (by show 2 * 0 + _ ≤ _; exact Nat.le_of_eq rfl) (hb hby d17_9) (fun _ _ => ⟨rfl, e1, (by decide : 1 + 0 ≤ _), (by decide : 3 + 0 ≤ _)⟩)
  dsimp only [Pt.U, Pt.locs, Pt.cells, Pt.slots] at X2 l2 y2 z2 st2 hQ2
  subst l2 y2 z2
  obtain ⟨rfl, N2q, K2q, V2q⟩ := hQ2
  have N2 := Fr.app N0 N2q
  have c2_V_a1 := c1_V_a1.keep K2q (fun q => ne_a1_b1 (List.mem_singleton.mp q))
  have K2 := K1.trans K2q (allS (Or.inr sz_b1) all0)
  refine own_go (B := T2.setTop (mkF m 12 #[rv a1, iv 0, iv 3, rv b1, .unset, .unset] [(.int 3)])) (fun t k => st2 _ k) ?_
  obtain ⟨fs, hr, hrun, hended, hW, hsame⟩ := X2.leave (v := some (.ref b1)) (fun h => by rw [Bd.returns] at h; cases h)
  refine ⟨_, _, ?_, hrun, hended, _, _, rfl, ?_, ⟨_, rfl⟩, hW, hsame.mono (by decide) (by decide)⟩
  · show own_S p e below T2 (mkF m 12 #[rv a1, iv 0, iv 3, rv b1, .unset, .unset] [(.int 3)]) _
    refine XS.istore X2.here hx rfl (hb hby d17_12) rfl (l' := #[rv a1, iv 0, iv 3, rv b1, iv 3, .unset]) rfl ?_
    refine XS.iload X2.here hx rfl (hb hby d17_14) rfl ?_
    refine XS.iloadN X2.here hx rfl (hb hby d17_16) rfl ?_
    show own_S p e below T2 (mkF m 17 #[rv a1, iv 0, iv 3, rv b1, iv 3, .unset] [(.int 3), (.int 3)]) _
    refine XS.icmpYes X2.here hx rfl (pc0 := 17) (pc' := 57) rfl (hb hby d17_17) rfl (teq (by decide)).1 (by decide) (by decide) ?_
    refine XS.aloadN X2.here hx rfl (hb hby d17_57) rfl rfl ?_
    show own_S p e below T2 (mkF m 58 #[rv a1, iv 0, iv 3, rv b1, iv 3, .unset] [(.ref b1)]) _
    jvm_step X2.here [X2.here.top, hx, (hb hby d17_58), X2.method', Bd.returns, Value.isRef, FieldType.isReference]
    first | (intro acts; rw [hr _ acts rfl rfl rfl]) | rw [hr _ _ rfl rfl rfl]
    exact Steps.refl _
  · show Q17_3 Z a1 kc1 y0 y1 y2 h0 n0 _ T2.heap _
    exact ⟨b1, k1, rfl, N2, K2, sz_b1, g_b1, V2q⟩
def Q18_4 (Z : State) (a1 : Addr) (a3 : Addr) (kc1 : ClassId) (kc3 : ClassId) (y0 : Int32) (y1 : Int32) (y2 : Int32) (y3 : Int32) (h0 : Heap) (n0 : Nat) (v : Option Value) (h : Heap) (L : List Loc) : Prop := v = some (.int (4 : Int32)) ∧ Fr n0 L ∧ Keep h0 h [a3] ∧ Arv Z h a3 kc3 .byte (4 : Int32) [(.int (own_b y0)), (.int (own_b y1)), (.int (own_b y2)), (.int (own_b y3))] (.int (0 : Int32))
set_option maxRecDepth 65536 in
set_option maxHeartbeats 40000000 in
theorem rm18_4 (l : Launch) (Z : State) (a0 : Array Value) (hw : ∀ d ∈ tables_1, d.before a0 Z = true) (ws : List Jvm.Cond) (a1 : Addr) (a3 : Addr) (kc1 : ClassId) (kc3 : ClassId) (y0 : Int32) (y1 : Int32) (y2 : Int32) (y3 : Int32) (h0 : Heap) (n0 : Nat) (Z0 : n0 ≤ h0.size) (V_a : Arv Z h0 a1 kc1 .char (4 : Int32) [(.int y0), (.int y1), (.int y2), (.int y3)] (.int (0 : Int32))) (V_b : Arv Z h0 a3 kc3 .byte (4 : Int32) [(.int (0 : Int32)), (.int (0 : Int32)), (.int (0 : Int32)), (.int (0 : Int32))] (.int (0 : Int32))) (n_ab : a1 ≠ a3) (g_a3 : n0 ≤ a3) (hp0 : ¬ (255 : Int32) < y0) (hp1 : ¬ (255 : Int32) < y1) (hp2 : ¬ (255 : Int32) < y2) (hp3 : ¬ (255 : Int32) < y3) :
    MetFree l own_y7 (head1 (Jvm.Cond.code own_y7 jdk_52_method_21_code 7 (some .int) :: ws) ({ frames := 0, cells := 0, slots := 0, locals := 0 } : Room)) (fun a U => a = #[(.ref a1), (.int 0), (.ref a3), (.int 0), (.int 4)] ∧ Z.Warmed39 U.vm ∧ U.heap = h0) (fun _ _ _ _ _ => True) (fun _ U o U' => ∃ v L, o = .returned v ∧ Q18_4 Z a1 a3 kc1 kc3 y0 y1 y2 y3 h0 n0 v U'.heap L ∧ FrameEnd U o U' L ({ frames := 0, cells := 0, slots := 0, locals := 0 } : Room).cells ({ frames := 0, cells := 0, slots := 0, locals := 0 } : Room).slots) := by
  refine MetFree.of_bodySF (plainFor_of_name pn_18) hisR ?_
  intro p e s m args below meth c s₁ Bd hml0 hP hK
  obtain ⟨rfl, hZ, hh⟩ := hP
  have hx := Bd.exec
  have hby := Bd.bytes
  have hml : c.maxLocals = 7 := hml0
  have hown : s.vm.findClass "java/lang/StringUTF16" = some m.cls := findClass_of_methodNamed Bd.named
  have hnm := (name_of_methodNamed Bd.named Bd.method).1
  have X0 : Stand p l e ({ frames := 0, cells := 0, slots := 0, locals := 0 } : Room) s m #[(.ref a1), (.int 0), (.ref a3), (.int 0), (.int 4)] below meth c s₁ [] 0 0 := Stand.of_body Bd
  have e0 : s₁.heap = h0 := by rw [← hh, Bd.state]; rfl
  have N0 := Fr.nil n0
  refine own_go (B := s₁.setTop (mkF m 0 #[rv a1, iv 0, rv a3, iv 0, iv 4, .unset, .unset] [])) (fun t k => castTop (ef_18 m a1 (0 : Int32) a3 (0 : Int32) (4 : Int32)) k) ?_
  obtain ⟨cl1, Ar1, qk1, S1, M1, H1, G1⟩ := id V_a
  refine own_go (B := s₁.setTop (mkF m 31 #[rv a1, iv 0, rv a3, iv 0, iv 4, iv 0, iv y0] [(.int (y0.toInt8.toInt32)), (.int 0), (.ref a3)])) (fun t k => ?_) ?_
  · show own_S p e below s₁ (mkF m 0 #[rv a1, iv 0, rv a3, iv 0, iv 4, .unset, .unset] []) _
    refine XS.iconst X0.here hx rfl (hb hby d18_0) ?_
    refine XS.istore X0.here hx rfl (hb hby d18_1) rfl (l' := #[rv a1, iv 0, rv a3, iv 0, iv 4, iv 0, .unset]) rfl ?_
    refine XS.iload X0.here hx rfl (hb hby d18_3) rfl ?_
    show own_S p e below s₁ (mkF m 5 #[rv a1, iv 0, rv a3, iv 0, iv 4, iv 0, .unset] [(.int 0)]) _
    refine XS.iload X0.here hx rfl (hb hby d18_5) rfl ?_
    refine XS.icmpNo X0.here hx rfl (hb hby d18_7) rfl (tlt (by decide)).2.1 ?_
    refine XS.aloadN X0.here hx rfl (hb hby d18_10) rfl rfl ?_
    show own_S p e below s₁ (mkF m 11 #[rv a1, iv 0, rv a3, iv 0, iv 4, iv 0, .unset] [(.ref a1)]) _
    refine XS.iloadN X0.here hx rfl (hb hby d18_11) rfl ?_
    refine X0.caload hx (j := (0 : Int32)) (v := (.int y0)) (by rw [e0]; exact Ar1.1) (State.isArrayOf_alike hZ.alike Ar1.2.1) Ar1.2.2 (inb_of S1 ⟨by decide, by decide⟩) (Has.at H1 (inb_of S1 ⟨by decide, by decide⟩) rfl) (g := (mkF m 12 #[rv a1, iv 0, rv a3, iv 0, iv 4, iv 0, .unset] [(.int 0), (.ref a1)])) rfl rfl (hb hby d18_12) _ ?_
    refine XS.istore X0.here hx rfl (hb hby d18_13) rfl (l' := #[rv a1, iv 0, rv a3, iv 0, iv 4, iv 0, iv y0]) rfl ?_
    show own_S p e below s₁ (mkF m 15 #[rv a1, iv 0, rv a3, iv 0, iv 4, iv 0, iv y0] []) _
    refine XS.iload X0.here hx rfl (hb hby d18_15) rfl ?_
    refine XS.sipush X0.here hx rfl (hb hby d18_17) ?_
    refine XS.icmpYes X0.here hx rfl (pc0 := 20) (pc' := 26) rfl (hb hby d18_20) rfl (flt hp0).2.2.2 (by decide) (by decide) ?_
    show own_S p e below s₁ (mkF m 26 #[rv a1, iv 0, rv a3, iv 0, iv 4, iv 0, iv y0] []) _
    refine XS.aloadN X0.here hx rfl (hb hby d18_26) rfl rfl ?_
    refine XS.iloadN X0.here hx rfl (hb hby d18_27) rfl ?_
    refine XS.iload X0.here hx rfl (hb hby d18_28) rfl ?_
    show own_S p e below s₁ (mkF m 30 #[rv a1, iv 0, rv a3, iv 0, iv 4, iv 0, iv y0] [(.int y0), (.int 0), (.ref a3)]) _
    refine XS.i2b X0.here hx rfl (hb hby d18_30) rfl ?_
    exact k
  obtain ⟨cl2, Ar2, qk2, S2, M2, H2, G2⟩ := id V_b
  obtain ⟨T2, h2, X2, e2, W2, st2⟩ := stB X0 hx hZ e0 Ar2 (j := (0 : Int32)) (inb_of S2 ⟨by decide, by decide⟩) (g := (mkF m 31 #[rv a1, iv 0, rv a3, iv 0, iv 4, iv 0, iv y0] [(.int (y0.toInt8.toInt32)), (.int 0), (.ref a3)])) rfl rfl (hb hby d18_31)
  have V2 : Arv Z h2 a3 kc3 .byte (4 : Int32) [(.int (nar .byte (y0.toInt8.toInt32))), (.int (0 : Int32)), (.int (0 : Int32)), (.int (0 : Int32))] (.int (0 : Int32)) := Arv.set Ar2 qk2 S2 M2 H2 G2 (fits_nar_byte _) W2 0 rfl (Nat.le_of_ble_eq_true rfl)
  have c2_V_a1 := V_a.other W2 n_ab
  have K2 := (Keep.refl h0 [a3]).wr W2 (Or.inl (List.mem_of_getElem? (i := 0) rfl))
  have N2 := Fr.snoc X2 N0 g_a3
  refine own_go (B := T2.setTop (mkF m 32 #[rv a1, iv 0, rv a3, iv 0, iv 4, iv 0, iv y0] [])) (fun t k => st2 _ k) ?_
  obtain ⟨cl3, Ar3, qk3, S3, M3, H3, G3⟩ := id c2_V_a1
  refine own_go (B := T2.setTop (mkF m 31 #[rv a1, iv 1, rv a3, iv 1, iv 4, iv 1, iv y1] [(.int (y1.toInt8.toInt32)), (.int 1), (.ref a3)])) (fun t k => ?_) ?_
  · show own_S p e below T2 (mkF m 32 #[rv a1, iv 0, rv a3, iv 0, iv 4, iv 0, iv y0] []) _
    refine XS.iinc X2.here hx rfl (hb hby d18_32) rfl (l' := #[rv a1, iv 1, rv a3, iv 0, iv 4, iv 0, iv y0]) rfl ?_
    refine XS.iinc X2.here hx rfl (hb hby d18_35) rfl (l' := #[rv a1, iv 1, rv a3, iv 1, iv 4, iv 0, iv y0]) rfl ?_
    refine XS.iinc X2.here hx rfl (hb hby d18_38) rfl (l' := #[rv a1, iv 1, rv a3, iv 1, iv 4, iv 1, iv y0]) rfl ?_
    show own_S p e below T2 (mkF m 41 #[rv a1, iv 1, rv a3, iv 1, iv 4, iv 1, iv y0] []) _
    refine XS.goto X2.here hx rfl (pc0 := 41) (pc' := 3) rfl (hb hby d18_41) (by decide) (by decide) ?_
    refine XS.iload X2.here hx rfl (hb hby d18_3) rfl ?_
    refine XS.iload X2.here hx rfl (hb hby d18_5) rfl ?_
    show own_S p e below T2 (mkF m 7 #[rv a1, iv 1, rv a3, iv 1, iv 4, iv 1, iv y0] [(.int 4), (.int 1)]) _
    refine XS.icmpNo X2.here hx rfl (hb hby d18_7) rfl (tlt (by decide)).2.1 ?_
    refine XS.aloadN X2.here hx rfl (hb hby d18_10) rfl rfl ?_
    refine XS.iloadN X2.here hx rfl (hb hby d18_11) rfl ?_
    show own_S p e below T2 (mkF m 12 #[rv a1, iv 1, rv a3, iv 1, iv 4, iv 1, iv y0] [(.int 1), (.ref a1)]) _
    refine X2.caload hx (j := (1 : Int32)) (v := (.int y1)) (by rw [e2]; exact Ar3.1) (State.isArrayOf_alike hZ.alike Ar3.2.1) Ar3.2.2 (inb_of S3 ⟨by decide, by decide⟩) (Has.at H3 (inb_of S3 ⟨by decide, by decide⟩) rfl) (g := (mkF m 12 #[rv a1, iv 1, rv a3, iv 1, iv 4, iv 1, iv y0] [(.int 1), (.ref a1)])) rfl rfl (hb hby d18_12) _ ?_
    refine XS.istore X2.here hx rfl (hb hby d18_13) rfl (l' := #[rv a1, iv 1, rv a3, iv 1, iv 4, iv 1, iv y1]) rfl ?_
    refine XS.iload X2.here hx rfl (hb hby d18_15) rfl ?_
    show own_S p e below T2 (mkF m 17 #[rv a1, iv 1, rv a3, iv 1, iv 4, iv 1, iv y1] [(.int y1)]) _
    refine XS.sipush X2.here hx rfl (hb hby d18_17) ?_
    refine XS.icmpYes X2.here hx rfl (pc0 := 20) (pc' := 26) rfl (hb hby d18_20) rfl (flt hp1).2.2.2 (by decide) (by decide) ?_
    refine XS.aloadN X2.here hx rfl (hb hby d18_26) rfl rfl ?_
    show own_S p e below T2 (mkF m 27 #[rv a1, iv 1, rv a3, iv 1, iv 4, iv 1, iv y1] [(.ref a3)]) _
    refine XS.iloadN X2.here hx rfl (hb hby d18_27) rfl ?_
    refine XS.iload X2.here hx rfl (hb hby d18_28) rfl ?_
    refine XS.i2b X2.here hx rfl (hb hby d18_30) rfl ?_
    exact k
  obtain ⟨cl4, Ar4, qk4, S4, M4, H4, G4⟩ := id V2
  obtain ⟨T4, h4, X4, e4, W4, st4⟩ := stB X2 hx hZ e2 Ar4 (j := (1 : Int32)) (inb_of S4 ⟨by decide, by decide⟩) (g := (mkF m 31 #[rv a1, iv 1, rv a3, iv 1, iv 4, iv 1, iv y1] [(.int (y1.toInt8.toInt32)), (.int 1), (.ref a3)])) rfl rfl (hb hby d18_31)
  have V4 : Arv Z h4 a3 kc3 .byte (4 : Int32) [(.int (nar .byte (y0.toInt8.toInt32))), (.int (nar .byte (y1.toInt8.toInt32))), (.int (0 : Int32)), (.int (0 : Int32))] (.int (0 : Int32)) := Arv.set Ar4 qk4 S4 M4 H4 G4 (fits_nar_byte _) W4 1 rfl (Nat.le_of_ble_eq_true rfl)
  have c4_V_a1 := c2_V_a1.other W4 n_ab
  have K4 := K2.wr W4 (Or.inl (List.mem_of_getElem? (i := 0) rfl))
  have N4 := Fr.snoc X4 N2 g_a3
  refine own_go (B := T4.setTop (mkF m 32 #[rv a1, iv 1, rv a3, iv 1, iv 4, iv 1, iv y1] [])) (fun t k => st4 _ k) ?_
  obtain ⟨cl5, Ar5, qk5, S5, M5, H5, G5⟩ := id c4_V_a1
  refine own_go (B := T4.setTop (mkF m 31 #[rv a1, iv 2, rv a3, iv 2, iv 4, iv 2, iv y2] [(.int (y2.toInt8.toInt32)), (.int 2), (.ref a3)])) (fun t k => ?_) ?_
  · show own_S p e below T4 (mkF m 32 #[rv a1, iv 1, rv a3, iv 1, iv 4, iv 1, iv y1] []) _
    refine XS.iinc X4.here hx rfl (hb hby d18_32) rfl (l' := #[rv a1, iv 2, rv a3, iv 1, iv 4, iv 1, iv y1]) rfl ?_
    refine XS.iinc X4.here hx rfl (hb hby d18_35) rfl (l' := #[rv a1, iv 2, rv a3, iv 2, iv 4, iv 1, iv y1]) rfl ?_
    refine XS.iinc X4.here hx rfl (hb hby d18_38) rfl (l' := #[rv a1, iv 2, rv a3, iv 2, iv 4, iv 2, iv y1]) rfl ?_
    show own_S p e below T4 (mkF m 41 #[rv a1, iv 2, rv a3, iv 2, iv 4, iv 2, iv y1] []) _
    refine XS.goto X4.here hx rfl (pc0 := 41) (pc' := 3) rfl (hb hby d18_41) (by decide) (by decide) ?_
    refine XS.iload X4.here hx rfl (hb hby d18_3) rfl ?_
    refine XS.iload X4.here hx rfl (hb hby d18_5) rfl ?_
    show own_S p e below T4 (mkF m 7 #[rv a1, iv 2, rv a3, iv 2, iv 4, iv 2, iv y1] [(.int 4), (.int 2)]) _
    refine XS.icmpNo X4.here hx rfl (hb hby d18_7) rfl (tlt (by decide)).2.1 ?_
    refine XS.aloadN X4.here hx rfl (hb hby d18_10) rfl rfl ?_
    refine XS.iloadN X4.here hx rfl (hb hby d18_11) rfl ?_
    show own_S p e below T4 (mkF m 12 #[rv a1, iv 2, rv a3, iv 2, iv 4, iv 2, iv y1] [(.int 2), (.ref a1)]) _
    refine X4.caload hx (j := (2 : Int32)) (v := (.int y2)) (by rw [e4]; exact Ar5.1) (State.isArrayOf_alike hZ.alike Ar5.2.1) Ar5.2.2 (inb_of S5 ⟨by decide, by decide⟩) (Has.at H5 (inb_of S5 ⟨by decide, by decide⟩) rfl) (g := (mkF m 12 #[rv a1, iv 2, rv a3, iv 2, iv 4, iv 2, iv y1] [(.int 2), (.ref a1)])) rfl rfl (hb hby d18_12) _ ?_
    refine XS.istore X4.here hx rfl (hb hby d18_13) rfl (l' := #[rv a1, iv 2, rv a3, iv 2, iv 4, iv 2, iv y2]) rfl ?_
    refine XS.iload X4.here hx rfl (hb hby d18_15) rfl ?_
    show own_S p e below T4 (mkF m 17 #[rv a1, iv 2, rv a3, iv 2, iv 4, iv 2, iv y2] [(.int y2)]) _
    refine XS.sipush X4.here hx rfl (hb hby d18_17) ?_
    refine XS.icmpYes X4.here hx rfl (pc0 := 20) (pc' := 26) rfl (hb hby d18_20) rfl (flt hp2).2.2.2 (by decide) (by decide) ?_
    refine XS.aloadN X4.here hx rfl (hb hby d18_26) rfl rfl ?_
    show own_S p e below T4 (mkF m 27 #[rv a1, iv 2, rv a3, iv 2, iv 4, iv 2, iv y2] [(.ref a3)]) _
    refine XS.iloadN X4.here hx rfl (hb hby d18_27) rfl ?_
    refine XS.iload X4.here hx rfl (hb hby d18_28) rfl ?_
    refine XS.i2b X4.here hx rfl (hb hby d18_30) rfl ?_
    exact k
  obtain ⟨cl6, Ar6, qk6, S6, M6, H6, G6⟩ := id V4
  obtain ⟨T6, h6, X6, e6, W6, st6⟩ := stB X4 hx hZ e4 Ar6 (j := (2 : Int32)) (inb_of S6 ⟨by decide, by decide⟩) (g := (mkF m 31 #[rv a1, iv 2, rv a3, iv 2, iv 4, iv 2, iv y2] [(.int (y2.toInt8.toInt32)), (.int 2), (.ref a3)])) rfl rfl (hb hby d18_31)
  have V6 : Arv Z h6 a3 kc3 .byte (4 : Int32) [(.int (nar .byte (y0.toInt8.toInt32))), (.int (nar .byte (y1.toInt8.toInt32))), (.int (nar .byte (y2.toInt8.toInt32))), (.int (0 : Int32))] (.int (0 : Int32)) := Arv.set Ar6 qk6 S6 M6 H6 G6 (fits_nar_byte _) W6 2 rfl (Nat.le_of_ble_eq_true rfl)
  have c6_V_a1 := c4_V_a1.other W6 n_ab
  have K6 := K4.wr W6 (Or.inl (List.mem_of_getElem? (i := 0) rfl))
  have N6 := Fr.snoc X6 N4 g_a3
  refine own_go (B := T6.setTop (mkF m 32 #[rv a1, iv 2, rv a3, iv 2, iv 4, iv 2, iv y2] [])) (fun t k => st6 _ k) ?_
  obtain ⟨cl7, Ar7, qk7, S7, M7, H7, G7⟩ := id c6_V_a1
  refine own_go (B := T6.setTop (mkF m 31 #[rv a1, iv 3, rv a3, iv 3, iv 4, iv 3, iv y3] [(.int (y3.toInt8.toInt32)), (.int 3), (.ref a3)])) (fun t k => ?_) ?_
  · show own_S p e below T6 (mkF m 32 #[rv a1, iv 2, rv a3, iv 2, iv 4, iv 2, iv y2] []) _
    refine XS.iinc X6.here hx rfl (hb hby d18_32) rfl (l' := #[rv a1, iv 3, rv a3, iv 2, iv 4, iv 2, iv y2]) rfl ?_
    refine XS.iinc X6.here hx rfl (hb hby d18_35) rfl (l' := #[rv a1, iv 3, rv a3, iv 3, iv 4, iv 2, iv y2]) rfl ?_
    refine XS.iinc X6.here hx rfl (hb hby d18_38) rfl (l' := #[rv a1, iv 3, rv a3, iv 3, iv 4, iv 3, iv y2]) rfl ?_
    show own_S p e below T6 (mkF m 41 #[rv a1, iv 3, rv a3, iv 3, iv 4, iv 3, iv y2] []) _
    refine XS.goto X6.here hx rfl (pc0 := 41) (pc' := 3) rfl (hb hby d18_41) (by decide) (by decide) ?_
    refine XS.iload X6.here hx rfl (hb hby d18_3) rfl ?_
    refine XS.iload X6.here hx rfl (hb hby d18_5) rfl ?_
    show own_S p e below T6 (mkF m 7 #[rv a1, iv 3, rv a3, iv 3, iv 4, iv 3, iv y2] [(.int 4), (.int 3)]) _
    refine XS.icmpNo X6.here hx rfl (hb hby d18_7) rfl (tlt (by decide)).2.1 ?_
    refine XS.aloadN X6.here hx rfl (hb hby d18_10) rfl rfl ?_
    refine XS.iloadN X6.here hx rfl (hb hby d18_11) rfl ?_
    show own_S p e below T6 (mkF m 12 #[rv a1, iv 3, rv a3, iv 3, iv 4, iv 3, iv y2] [(.int 3), (.ref a1)]) _
    refine X6.caload hx (j := (3 : Int32)) (v := (.int y3)) (by rw [e6]; exact Ar7.1) (State.isArrayOf_alike hZ.alike Ar7.2.1) Ar7.2.2 (inb_of S7 ⟨by decide, by decide⟩) (Has.at H7 (inb_of S7 ⟨by decide, by decide⟩) rfl) (g := (mkF m 12 #[rv a1, iv 3, rv a3, iv 3, iv 4, iv 3, iv y2] [(.int 3), (.ref a1)])) rfl rfl (hb hby d18_12) _ ?_
    refine XS.istore X6.here hx rfl (hb hby d18_13) rfl (l' := #[rv a1, iv 3, rv a3, iv 3, iv 4, iv 3, iv y3]) rfl ?_
    refine XS.iload X6.here hx rfl (hb hby d18_15) rfl ?_
    show own_S p e below T6 (mkF m 17 #[rv a1, iv 3, rv a3, iv 3, iv 4, iv 3, iv y3] [(.int y3)]) _
    refine XS.sipush X6.here hx rfl (hb hby d18_17) ?_
    refine XS.icmpYes X6.here hx rfl (pc0 := 20) (pc' := 26) rfl (hb hby d18_20) rfl (flt hp3).2.2.2 (by decide) (by decide) ?_
    refine XS.aloadN X6.here hx rfl (hb hby d18_26) rfl rfl ?_
    show own_S p e below T6 (mkF m 27 #[rv a1, iv 3, rv a3, iv 3, iv 4, iv 3, iv y3] [(.ref a3)]) _
    refine XS.iloadN X6.here hx rfl (hb hby d18_27) rfl ?_
    refine XS.iload X6.here hx rfl (hb hby d18_28) rfl ?_
    refine XS.i2b X6.here hx rfl (hb hby d18_30) rfl ?_
    exact k
  obtain ⟨cl8, Ar8, qk8, S8, M8, H8, G8⟩ := id V6
  obtain ⟨T8, h8, X8, e8, W8, st8⟩ := stB X6 hx hZ e6 Ar8 (j := (3 : Int32)) (inb_of S8 ⟨by decide, by decide⟩) (g := (mkF m 31 #[rv a1, iv 3, rv a3, iv 3, iv 4, iv 3, iv y3] [(.int (y3.toInt8.toInt32)), (.int 3), (.ref a3)])) rfl rfl (hb hby d18_31)
  have V8 : Arv Z h8 a3 kc3 .byte (4 : Int32) [(.int (nar .byte (y0.toInt8.toInt32))), (.int (nar .byte (y1.toInt8.toInt32))), (.int (nar .byte (y2.toInt8.toInt32))), (.int (nar .byte (y3.toInt8.toInt32)))] (.int (0 : Int32)) := Arv.set Ar8 qk8 S8 M8 H8 G8 (fits_nar_byte _) W8 3 rfl (Nat.le_of_ble_eq_true rfl)
  have c8_V_a1 := c6_V_a1.other W8 n_ab
  have K8 := K6.wr W8 (Or.inl (List.mem_of_getElem? (i := 0) rfl))
  have N8 := Fr.snoc X8 N6 g_a3
  refine own_go (B := T8.setTop (mkF m 32 #[rv a1, iv 3, rv a3, iv 3, iv 4, iv 3, iv y3] [])) (fun t k => st8 _ k) ?_
  obtain ⟨fs, hr, hrun, hended, hW, hsame⟩ := X8.leave (v := some (.int 4)) (fun h => by rw [Bd.returns] at h; cases h)
  refine ⟨_, _, ?_, hrun, hended, _, _, rfl, ?_, ⟨_, rfl⟩, hW, hsame.mono (by decide) (by decide)⟩
  · show own_S p e below T8 (mkF m 32 #[rv a1, iv 3, rv a3, iv 3, iv 4, iv 3, iv y3] []) _
    refine XS.iinc X8.here hx rfl (hb hby d18_32) rfl (l' := #[rv a1, iv 4, rv a3, iv 3, iv 4, iv 3, iv y3]) rfl ?_
    refine XS.iinc X8.here hx rfl (hb hby d18_35) rfl (l' := #[rv a1, iv 4, rv a3, iv 4, iv 4, iv 3, iv y3]) rfl ?_
    refine XS.iinc X8.here hx rfl (hb hby d18_38) rfl (l' := #[rv a1, iv 4, rv a3, iv 4, iv 4, iv 4, iv y3]) rfl ?_
    show own_S p e below T8 (mkF m 41 #[rv a1, iv 4, rv a3, iv 4, iv 4, iv 4, iv y3] []) _
    refine XS.goto X8.here hx rfl (pc0 := 41) (pc' := 3) rfl (hb hby d18_41) (by decide) (by decide) ?_
    refine XS.iload X8.here hx rfl (hb hby d18_3) rfl ?_
    refine XS.iload X8.here hx rfl (hb hby d18_5) rfl ?_
    show own_S p e below T8 (mkF m 7 #[rv a1, iv 4, rv a3, iv 4, iv 4, iv 4, iv y3] [(.int 4), (.int 4)]) _
    refine XS.icmpYes X8.here hx rfl (pc0 := 7) (pc' := 44) rfl (hb hby d18_7) rfl (flt (by decide)).2.1 (by decide) (by decide) ?_
    refine XS.iload X8.here hx rfl (hb hby d18_44) rfl ?_
    show own_S p e below T8 (mkF m 46 #[rv a1, iv 4, rv a3, iv 4, iv 4, iv 4, iv y3] [(.int 4)]) _
    exact retI X8 hx Bd.returns (hb hby d18_46) hr
  · show Q18_4 Z a1 a3 kc1 kc3 y0 y1 y2 y3 h0 n0 _ T8.heap _
    rw [e8]
    exact ⟨rfl, N8, K8, V8⟩
def Q17_4 (Z : State) (a1 : Addr) (kc1 : ClassId) (y0 : Int32) (y1 : Int32) (y2 : Int32) (y3 : Int32) (h0 : Heap) (n0 : Nat) (v : Option Value) (h : Heap) (L : List Loc) : Prop := ∃ (b : Addr) (kb : ClassId), v = some (.ref b) ∧ Fr n0 L ∧ Keep h0 h [] ∧ h0.size ≤ b ∧ n0 ≤ b ∧ Arv Z h b kb .byte (4 : Int32) [(.int (own_b y0)), (.int (own_b y1)), (.int (own_b y2)), (.int (own_b y3))] (.int (0 : Int32))
set_option maxRecDepth 65536 in
set_option maxHeartbeats 40000000 in
theorem rm17_4 (l : Launch) (Z : State) (a0 : Array Value) (hw : ∀ d ∈ tables_1, d.before a0 Z = true) (ws : List Jvm.Cond) (a1 : Addr) (kc1 : ClassId) (y0 : Int32) (y1 : Int32) (y2 : Int32) (y3 : Int32) (h0 : Heap) (n0 : Nat) (Z0 : n0 ≤ h0.size) (V_a : Arv Z h0 a1 kc1 .char (4 : Int32) [(.int y0), (.int y1), (.int y2), (.int y3)] (.int (0 : Int32))) (hp0 : ¬ (255 : Int32) < y0) (hp1 : ¬ (255 : Int32) < y1) (hp2 : ¬ (255 : Int32) < y2) (hp3 : ¬ (255 : Int32) < y3) :
    MetFree l own_y8 (head1 (Jvm.Cond.code own_y8 jdk_52_method_16_code 6 (some (.array .byte)) :: ws) ({ frames := 1, cells := 1, slots := 4, locals := 18 } : Room)) (fun a U => a = #[(.ref a1), (.int 0), (.int 4)] ∧ Z.Warmed39 U.vm ∧ U.heap = h0) (fun _ _ _ _ _ => True) (fun _ U o U' => ∃ v L, o = .returned v ∧ Q17_4 Z a1 kc1 y0 y1 y2 y3 h0 n0 v U'.heap L ∧ FrameEnd U o U' L ({ frames := 1, cells := 1, slots := 4, locals := 18 } : Room).cells ({ frames := 1, cells := 1, slots := 4, locals := 18 } : Room).slots) := by
  refine MetFree.of_bodySF (plainFor_of_name pn_17) hisR ?_
  intro p e s m args below meth c s₁ Bd hml0 hP hK
  obtain ⟨rfl, hZ, hh⟩ := hP
  have hx := Bd.exec
  have hby := Bd.bytes
  have hml : c.maxLocals = 6 := hml0
  have hown : s.vm.findClass "java/lang/StringUTF16" = some m.cls := findClass_of_methodNamed Bd.named
  have hnm := (name_of_methodNamed Bd.named Bd.method).1
  have X0 : Stand p l e ({ frames := 1, cells := 1, slots := 4, locals := 18 } : Room) s m #[(.ref a1), (.int 0), (.int 4)] below meth c s₁ [] 0 0 := Stand.of_body Bd
  have e0 : s₁.heap = h0 := by rw [← hh, Bd.state]; rfl
  have N0 := Fr.nil n0
  refine own_go (B := s₁.setTop (mkF m 0 #[rv a1, iv 0, iv 4, .unset, .unset, .unset] [])) (fun t k => castTop (ef_17 m a1 (0 : Int32) (4 : Int32)) k) ?_
  refine own_go (B := s₁.setTop (mkF m 1 #[rv a1, iv 0, iv 4, .unset, .unset, .unset] [(.int 4)])) (fun t k => ?_) ?_
  · show own_S p e below s₁ (mkF m 0 #[rv a1, iv 0, iv 4, .unset, .unset, .unset] []) _
    refine XS.iloadN X0.here hx rfl (hb hby d17_0) rfl ?_
    exact k
  obtain ⟨T1, h1, k1, X1, e1, E1, A1, st1⟩ := newP X0 hx hZ (own_w hw 23 rfl) e0 (g := (mkF m 1 #[rv a1, iv 0, iv 4, .unset, .unset, .unset] [(.int 4)])) rfl (hb hby d17_1) rfl (by decide) (cap := 4) (by decide) (by decide) (by decide) (by decide)
  obtain ⟨b1, g1⟩ : ∃ z, z = h0.size := ⟨_, rfl⟩
  rw [← g1] at A1 st1
  have g_b1 : n0 ≤ b1 := Nat.le_trans Z0 (Nat.le_of_eq g1.symm)
  have sz_b1 : h0.size ≤ b1 := Nat.le_trans (Keep.refl h0 []).1 (Nat.le_of_eq g1.symm)
  have ne_a1_b1 : a1 ≠ b1 := Nat.ne_of_lt (Nat.lt_of_lt_of_le V_a.lt (Nat.le_of_eq g1.symm))
  have c1_V_a1 := V_a.ext E1
  have K1 := (Keep.refl h0 []).ext E1
  have V1 : Arv Z h1 b1 k1 .byte (4 : Int32) [(.int (0 : Int32)), (.int (0 : Int32)), (.int (0 : Int32)), (.int (0 : Int32))] (.int (0 : Int32)) := (Arv.new A1 (by decide)).pad (pad_rep [] (.int (0 : Int32)) 4)
  refine own_go (B := T1.setTop (mkF m 3 #[rv a1, iv 0, iv 4, .unset, .unset, .unset] [(.ref b1)])) (fun t k => st1 _ k) ?_
  refine own_go (B := T1.setTop (mkF m 9 #[rv a1, iv 0, iv 4, rv b1, .unset, .unset] [(.int 4), (.int 0), (.ref b1), (.int 0), (.ref a1)])) (fun t k => ?_) ?_
  · show own_S p e below T1 (mkF m 3 #[rv a1, iv 0, iv 4, .unset, .unset, .unset] [(.ref b1)]) _
    refine XS.astoreN X1.here hx rfl (hb hby d17_3) rfl rfl (l' := #[rv a1, iv 0, iv 4, rv b1, .unset, .unset]) rfl ?_
    refine XS.aloadN X1.here hx rfl (hb hby d17_4) rfl rfl ?_
    refine XS.iloadN X1.here hx rfl (hb hby d17_5) rfl ?_
    show own_S p e below T1 (mkF m 6 #[rv a1, iv 0, iv 4, rv b1, .unset, .unset] [(.int 0), (.ref a1)]) _
    refine XS.aloadN X1.here hx rfl (hb hby d17_6) rfl rfl ?_
    refine XS.iconst X1.here hx rfl (hb hby d17_7) ?_
    refine XS.iloadN X1.here hx rfl (hb hby d17_8) rfl ?_
    exact k
  obtain ⟨_, _, ⟨T2, L2, k2, n2⟩, -, X2, ⟨Lc2, hQ2, l2, y2, z2⟩, st2⟩ := Jvm.LawKit.callS X1 hx (y := own_y7) hown (mvT hZ (own_w hw 83 rfl)) (mvT hZ (own_w hw 84 rfl)) (mvT hZ (own_w hw 81 rfl)) (mvT hZ (own_w hw 85 rfl)) (by decide) (backOf (W := 0) (rm18_4 l Z a0 hw [] a1 b1 kc1 k1 y0 y1 y2 y3 h1 n0 (Nat.le_trans Z0 E1.1) c1_V_a1 V1 ne_a1_b1 g_b1 hp0 hp1 hp2 hp3) hZ (own_w hw 85 rfl) (own_w hw 81 rfl) (by decide) (by decide)) (g := (mkF m 9 #[rv a1, iv 0, iv 4, rv b1, .unset, .unset] [(.int 4), (.int 0), (.ref b1), (.int 0), (.ref a1)])) rfl (by rw [hml]; rfl) (argsL := [(.ref a1), (.int 0), (.ref b1), (.int 0), (.int 4)]) (rest := []) (lenOf own_pd5 rfl) rfl (by show 2 * 0 + _ ≤ _; exact Nat.le_of_eq rfl) (hb hby d17_9) (fun _ _ => ⟨rfl, e1, (by decide : 1 + 0 ≤ _), (by decide : 4 + 0 ≤ _)⟩)
  dsimp only [Pt.U, Pt.locs, Pt.cells, Pt.slots] at X2 l2 y2 z2 st2 hQ2
  subst l2 y2 z2
  obtain ⟨rfl, N2q, K2q, V2q⟩ := hQ2
  have N2 := Fr.app N0 N2q
  have c2_V_a1 := c1_V_a1.keep K2q (fun q => ne_a1_b1 (List.mem_singleton.mp q))
  have K2 := K1.trans K2q (allS (Or.inr sz_b1) all0)
  refine own_go (B := T2.setTop (mkF m 12 #[rv a1, iv 0, iv 4, rv b1, .unset, .unset] [(.int 4)])) (fun t k => st2 _ k) ?_
  obtain ⟨fs, hr, hrun, hended, hW, hsame⟩ := X2.leave (v := some (.ref b1)) (fun h => by rw [Bd.returns] at h; cases h)
  refine ⟨_, _, ?_, hrun, hended, _, _, rfl, ?_, ⟨_, rfl⟩, hW, hsame.mono (by decide) (by decide)⟩
  · show own_S p e below T2 (mkF m 12 #[rv a1, iv 0, iv 4, rv b1, .unset, .unset] [(.int 4)]) _
    refine XS.istore X2.here hx rfl (hb hby d17_12) rfl (l' := #[rv a1, iv 0, iv 4, rv b1, iv 4, .unset]) rfl ?_
    refine XS.iload X2.here hx rfl (hb hby d17_14) rfl ?_
    refine XS.iloadN X2.here hx rfl (hb hby d17_16) rfl ?_
    show own_S p e below T2 (mkF m 17 #[rv a1, iv 0, iv 4, rv b1, iv 4, .unset] [(.int 4), (.int 4)]) _
    refine XS.icmpYes X2.here hx rfl (pc0 := 17) (pc' := 57) rfl (hb hby d17_17) rfl (teq (by decide)).1 (by decide) (by decide) ?_
    refine XS.aloadN X2.here hx rfl (hb hby d17_57) rfl rfl ?_
    show own_S p e below T2 (mkF m 58 #[rv a1, iv 0, iv 4, rv b1, iv 4, .unset] [(.ref b1)]) _
    jvm_step X2.here [X2.here.top, hx, (hb hby d17_58), X2.method', Bd.returns, Value.isRef, FieldType.isReference]
    first | (intro acts; rw [hr _ acts rfl rfl rfl]) | rw [hr _ _ rfl rfl rfl]
    exact Steps.refl _
  · show Q17_4 Z a1 kc1 y0 y1 y2 y3 h0 n0 _ T2.heap _
    exact ⟨b1, k1, rfl, N2, K2, sz_b1, g_b1, V2q⟩
theorem pn_19 : plainName "java/lang/StringUTF16" = true := by first | (simp [plainName, overriddenIn]; done) | decide +kernel
theorem d19_0 : decode jdk_52_method_15_code 0 = .ok (.iload_n 1, 1) := by decide +kernel
theorem d19_1 : decode jdk_52_method_15_code 1 = .ok (.aload_n 0, 1) := by decide +kernel
theorem d19_2 : decode jdk_52_method_15_code 2 = .ok (.arraylength, 1) := by decide +kernel
theorem d19_3 : decode jdk_52_method_15_code 3 = .ok (.isub, 1) := by decide +kernel
theorem d19_4 : decode jdk_52_method_15_code 4 = .ok (.bipush 31, 2) := by decide +kernel
theorem d19_6 : decode jdk_52_method_15_code 6 = .ok (.iushr, 1) := by decide +kernel
theorem d19_7 : decode jdk_52_method_15_code 7 = .ok (.i2b, 1) := by decide +kernel
theorem d19_8 : decode jdk_52_method_15_code 8 = .ok (.ireturn, 1) := by decide +kernel
theorem ef_19 (m : MethodId) (x0 : Addr) (x1 : Int32) : entryFrame m #[(.ref x0), (.int x1)] 2 = mkF m 0 #[.val (.ref x0), .val (.int x1)] [] := by first | (simp [entryFrame, mkF, argsToLocals, Value.category]; done) | rfl
def Q19 (Z : State) (a1 : Addr) (z1 : Int32) (kc1 : ClassId) (vs : List Value) (dv : Value) (h0 : Heap) (n0 : Nat) (v : Option Value) (h : Heap) (L : List Loc) : Prop := v = some (.int (0 : Int32)) ∧ Fr n0 L ∧ h = h0
set_option maxRecDepth 65536 in
set_option maxHeartbeats 40000000 in
theorem rm19 (l : Launch) (Z : State) (a0 : Array Value) (hw : ∀ d ∈ tables_1, d.before a0 Z = true) (ws : List Jvm.Cond) (a1 : Addr) (z1 : Int32) (kc1 : ClassId) (vs : List Value) (dv : Value) (h0 : Heap) (n0 : Nat) (Z0 : n0 ≤ h0.size) (V_a : Arv Z h0 a1 kc1 .byte z1 vs dv) :
    MetFree l own_y9 (head1 (Jvm.Cond.code own_y9 jdk_52_method_15_code 2 (some .byte) :: ws) ({ frames := 0, cells := 0, slots := 0, locals := 0 } : Room)) (fun a U => a = #[(.ref a1), (.int z1)] ∧ Z.Warmed39 U.vm ∧ U.heap = h0) (fun _ _ _ _ _ => True) (fun _ U o U' => ∃ v L, o = .returned v ∧ Q19 Z a1 z1 kc1 vs dv h0 n0 v U'.heap L ∧ FrameEnd U o U' L ({ frames := 0, cells := 0, slots := 0, locals := 0 } : Room).cells ({ frames := 0, cells := 0, slots := 0, locals := 0 } : Room).slots) := by
  refine MetFree.of_bodySF (plainFor_of_name pn_19) hisR ?_
  intro p e s m args below meth c s₁ Bd hml0 hP hK
  obtain ⟨rfl, hZ, hh⟩ := hP
  have hx := Bd.exec
  have hby := Bd.bytes
  have hml : c.maxLocals = 2 := hml0
  have hown : s.vm.findClass "java/lang/StringUTF16" = some m.cls := findClass_of_methodNamed Bd.named
  have hnm := (name_of_methodNamed Bd.named Bd.method).1
  have X0 : Stand p l e ({ frames := 0, cells := 0, slots := 0, locals := 0 } : Room) s m #[(.ref a1), (.int z1)] below meth c s₁ [] 0 0 := Stand.of_body Bd
  have e0 : s₁.heap = h0 := by rw [← hh, Bd.state]; rfl
  have N0 := Fr.nil n0
  refine own_go (B := s₁.setTop (mkF m 0 #[rv a1, iv z1] [])) (fun t k => castTop (ef_19 m a1 z1) k) ?_
  obtain ⟨cl1, Ar1, qk1, S1, M1, H1, G1⟩ := id V_a
  obtain ⟨fs, hr, hrun, hended, hW, hsame⟩ := X0.leave (v := some (.int (nar .byte ((((z1 - z1).toUInt32 >>> ((31 : Int32) &&& 31).toUInt32).toInt32).toInt8.toInt32)))) (fun h => by rw [Bd.returns] at h; cases h)
  refine ⟨_, _, ?_, hrun, hended, _, _, rfl, ?_, ⟨_, rfl⟩, hW, hsame.mono (by decide) (by decide)⟩
  · show own_S p e below s₁ (mkF m 0 #[rv a1, iv z1] []) _
    refine XS.iloadN X0.here hx rfl (hb hby d19_0) rfl ?_
    refine XS.aloadN X0.here hx rfl (hb hby d19_1) rfl rfl ?_
    refine X0.arraylength hx (by rw [e0]; exact Ar1.1) (State.isArrayOf_alike hZ.alike Ar1.2.1) (g := (mkF m 2 #[rv a1, iv z1] [(.ref a1), (.int z1)])) rfl rfl (hb hby d19_2) _ ?_
    rw [len_of S1 M1]
    show own_S p e below s₁ (mkF m 3 #[rv a1, iv z1] [(.int z1), (.int z1)]) _
    refine XS.isub X0.here hx rfl (hb hby d19_3) rfl ?_
    refine XS.bipush X0.here hx rfl (hb hby d19_4) ?_
    refine XS.iushr X0.here hx rfl (hb hby d19_6) rfl ?_
    show own_S p e below s₁ (mkF m 7 #[rv a1, iv z1] [(.int (((z1 - z1).toUInt32 >>> ((31 : Int32) &&& 31).toUInt32).toInt32))]) _
    refine XS.i2b X0.here hx rfl (hb hby d19_7) rfl ?_
    show own_S p e below s₁ (mkF m 8 #[rv a1, iv z1] [(.int ((((z1 - z1).toUInt32 >>> ((31 : Int32) &&& 31).toUInt32).toInt32).toInt8.toInt32))]) _
    exact retN X0 hx (t := .byte) Bd.returns (by simp) (hb hby d19_8) hr
  · show Q19 Z a1 z1 kc1 vs dv h0 n0 _ s₁.heap _
    rw [e0]
    exact ⟨by rw [Int32.sub_self]; rfl, N0, rfl⟩
theorem pn_4 : plainName "java/lang/String" = true := by first | (simp [plainName, overriddenIn]; done) | decide +kernel
theorem d4_0 : decode jdk_42_method_149_code 0 = .ok (.aload_n 0, 1) := by decide +kernel
theorem d4_1 : decode jdk_42_method_149_code 1 = .ok (.invokespecial 1, 3) := by decide +kernel
theorem d4_4 : decode jdk_42_method_149_code 4 = .ok (.iload_n 3, 1) := by decide +kernel
theorem d4_5 : decode jdk_42_method_149_code 5 = .ok (.ifCond .ne 22, 3) := by decide +kernel
theorem d4_8 : decode jdk_42_method_149_code 8 = .ok (.aload_n 0, 1) := by decide +kernel
theorem d4_9 : decode jdk_42_method_149_code 9 = .ok (.ldc 7, 2) := by decide +kernel
theorem d4_11 : decode jdk_42_method_149_code 11 = .ok (.getfield 9, 3) := by decide +kernel
theorem d4_14 : decode jdk_42_method_149_code 14 = .ok (.putfield 9, 3) := by decide +kernel
theorem d4_17 : decode jdk_42_method_149_code 17 = .ok (.aload_n 0, 1) := by decide +kernel
theorem d4_18 : decode jdk_42_method_149_code 18 = .ok (.ldc 7, 2) := by decide +kernel
theorem d4_20 : decode jdk_42_method_149_code 20 = .ok (.getfield 15, 3) := by decide +kernel
theorem d4_23 : decode jdk_42_method_149_code 23 = .ok (.putfield 15, 3) := by decide +kernel
theorem d4_26 : decode jdk_42_method_149_code 26 = .ok (.return_, 1) := by decide +kernel
theorem ef_4n4 (m : MethodId) (x0 : Addr) (x1 : Addr) (x2 : Int32) (x3 : Int32) : entryFrame m #[(.ref x0), (.ref x1), (.int x2), (.int x3), .null] 6 = mkF m 0 #[.val (.ref x0), .val (.ref x1), .val (.int x2), .val (.int x3), .val .null, .unset] [] := by first | (simp [entryFrame, mkF, argsToLocals, Value.category]; done) | rfl
def Q4_0 (Z : State) (a1 : Addr) (a2 : Addr) (kc2 : ClassId) (GC : Int32) (h0 : Heap) (n0 : Nat) (v : Option Value) (h : Heap) (L : List Loc) : Prop := v = none ∧ Fr n0 L ∧ (∃ (b : Addr) (kb : ClassId), Keep h0 h [a1] ∧ Exa Z h a1 "java/lang/String" ∧ Fld Z h a1 "java/lang/String" "coder" "B" (.int (0 : Int32)) ∧ Fld Z h a1 "java/lang/String" "value" "[B" (.ref b) ∧ Arv Z h b kb .byte (0 : Int32) [] (.int (0 : Int32)))
set_option maxRecDepth 65536 in
set_option maxHeartbeats 40000000 in
theorem rm4_0 (l : Launch) (Z : State) (a0 : Array Value) (hw : ∀ d ∈ tables_1, d.before a0 Z = true) (ws : List Jvm.Cond) (a1 : Addr) (a2 : Addr) (kc2 : ClassId) (GC : Int32) (h0 : Heap) (n0 : Nat) (Z0 : n0 ≤ h0.size) (S_C : Sta Z Z.heap "java/lang/String" "COMPACT_STRINGS" "Z" (.int GC)) (hGC : ¬ GC = (0 : Int32)) (O0 : Old Z n0 h0) (E_a1 : Exa Z h0 a1 "java/lang/String") (g_a1 : n0 ≤ a1) (F_v : Fld Z h0 a1 "java/lang/String" "value" "[B" .null) (F_c : Fld Z h0 a1 "java/lang/String" "coder" "B" (.int (0 : Int32))) (V_a : Arv Z h0 a2 kc2 .char (0 : Int32) [] (.int (0 : Int32))) (n_12 : a1 ≠ a2) :
    MetFree l own_y10 (head1 (Jvm.Cond.code own_y10 jdk_42_method_149_code 6 none :: ws) ({ frames := 1, cells := 2, slots := 4, locals := 12 } : Room)) (fun a U => a = #[(.ref a1), (.ref a2), (.int 0), (.int 0), .null] ∧ Z.Warmed39 U.vm ∧ U.heap = h0 ∧ CHv Z consts_1 U.vm h0) (fun _ _ _ _ _ => True) (fun _ U o U' => ∃ v L, o = .returned v ∧ Q4_0 Z a1 a2 kc2 GC h0 n0 v U'.heap L ∧ CHr Z consts_1 U.vm U.heap U'.vm U'.heap ∧ ReturnedEndW U o U' L ({ frames := 1, cells := 2, slots := 4, locals := 12 } : Room).cells ({ frames := 1, cells := 2, slots := 4, locals := 12 } : Room).slots) := by
  refine MetFree.of_bodySF (plainFor_of_name pn_4) hisR ?_
  intro p e s m args below meth c s₁ Bd hml0 hP hK
  obtain ⟨rfl, hZ, hh, hCH⟩ := hP
  have hx := Bd.exec
  have hby := Bd.bytes
  have hml : c.maxLocals = 6 := hml0
  have hown : s.vm.findClass "java/lang/String" = some m.cls := findClass_of_methodNamed Bd.named
  have hnm := (name_of_methodNamed Bd.named Bd.method).1
  have X0 : Stand p l e ({ frames := 1, cells := 2, slots := 4, locals := 12 } : Room) s m #[(.ref a1), (.ref a2), (.int 0), (.int 0), .null] below meth c s₁ [] 0 0 := Stand.of_body Bd
  have e0 : s₁.heap = h0 := by rw [← hh, Bd.state]; rfl
  have N0 := Fr.nil n0
  have X0 : Stand p l e ({ frames := 1, cells := 2, slots := 4, locals := 12 } : Room) (s.setVm s.vm) m #[(.ref a1), (.ref a2), (.int 0), (.int 0), .null] below meth c s₁ [] 0 0 := X0
  have hZ : Z.Warmed39 (s.setVm s.vm).vm := hZ
  have hown : (s.setVm s.vm).vm.findClass "java/lang/String" = some m.cls := hown
  have hS : s.Since s.vm 0 := (State.WarmedH.refl s).since 0
  refine own_go (B := s₁.setTop (mkF m 0 #[rv a1, rv a2, iv 0, iv 0, .val .null, .unset] [])) (fun t k => castTop (ef_4n4 m a1 a2 (0 : Int32) (0 : Int32)) k) ?_
  refine own_go (B := s₁.setTop (mkF m 1 #[rv a1, rv a2, iv 0, iv 0, .val .null, .unset] [(.ref a1)])) (fun t k => ?_) ?_
  · show own_S p e below s₁ (mkF m 0 #[rv a1, rv a2, iv 0, iv 0, .val .null, .unset] []) _
    refine XS.aloadN X0.here hx rfl (hb hby d4_0) rfl rfl ?_
    exact k
  obtain ⟨T1, X1, e1, st1⟩ := initO X0 hx hZ hown (own_w hw 19 rfl) (own_w hw 20 rfl) (own_w hw 21 rfl) e0 (g := (mkF m 1 #[rv a1, rv a2, iv 0, iv 0, .val .null, .unset] [(.ref a1)])) rfl (by rw [hml]; rfl) rfl (hb hby d4_1) (by decide) (W := 0) (by show 2 * 0 + _ ≤ _; exact Nat.le_of_eq rfl) (by decide)
  refine own_go (B := T1.setTop (mkF m 4 #[rv a1, rv a2, iv 0, iv 0, .val .null, .unset] [])) (fun t k => st1 _ k) ?_
  refine own_go (B := T1.setTop (mkF m 9 #[rv a1, rv a2, iv 0, iv 0, .val .null, .unset] [(.ref a1)])) (fun t k => ?_) ?_
  · show own_S p e below T1 (mkF m 4 #[rv a1, rv a2, iv 0, iv 0, .val .null, .unset] []) _
    refine XS.iloadN X1.here hx rfl (hb hby d4_4) rfl ?_
    refine XS.ifNo X1.here hx rfl (hb hby d4_5) rfl ((if0 _ _).trans (teq (by decide)).2) ?_
    refine XS.aloadN X1.here hx rfl (hb hby d4_8) rfl rfl ?_
    exact k
  obtain ⟨as2, T2, h2, kk2, bs2, ks2, X2, e2, E2, hS, hk2, hZ, hown, LE2, LC2, LV2, LA2, la2, lb2, hC2, hL2, hSf2, st2⟩ := ldcCH (EL := consts_1) X1 hx hZ hown (own_w hw 22 rfl) (own_wS hw) e1 hS (Nat.zero_le _) (own_hEL hw) (by decide) (CHr.refl hCH).1 (z := (0 : Int32)) own_ht0 (by decide) rfl (g := (mkF m 9 #[rv a1, rv a2, iv 0, iv 0, .val .null, .unset] [(.ref a1)])) rfl (hb hby d4_9) (n := 0) (by decide) (by decide) (by decide) (by decide)
  have Ch2 := (CHr.refl hCH).trans hC2
  have c2_E_a1 := E_a1.ext E2
  have c2_F_a1_value := F_v.ext E2
  have c2_F_a1_coder := F_c.ext E2
  have c2_V_a2 := V_a.ext E2
  have K2 := (Keep.refl h0 [a1]).ext E2
  have O2 := O0.ext E2
  have ne_a1_as2 : a1 ≠ as2 := Fld.ne c2_F_a1_value LV2 (by simp)
  have ne_a1_bs2 : a1 ≠ bs2 := Exa.neArv c2_E_a1 LA2 (own_w hw 10 rfl)
  refine own_go (B := T2.setTop (mkF m 11 #[rv a1, rv a2, iv 0, iv 0, .val .null, .unset] [(.ref as2), (.ref a1)])) (fun t k => st2 _ k) ?_
  obtain ⟨T3, X3, e3, st3⟩ := getF X2 hx hZ hown (host := "") (Or.inl (own_w hw 28 rfl)) Via.refl e2 LV2 (g := (mkF m 11 #[rv a1, rv a2, iv 0, iv 0, .val .null, .unset] [(.ref as2), (.ref a1)])) rfl rfl (hb hby d4_11)
  refine own_go (B := T3.setTop (mkF m 14 #[rv a1, rv a2, iv 0, iv 0, .val .null, .unset] [(.ref bs2), (.ref a1)])) (fun t k => st3 _ k) ?_
  obtain ⟨T4, h4, X4, e4, W4, st4⟩ := putF X3 hx hZ hown (host := "") (Or.inl (own_w hw 28 rfl)) Via.refl e3 c2_F_a1_value c2_E_a1 (Or.inr ⟨(own_w hw 24 rfl), rfl, hnm⟩) (own_w hw 10 rfl) (ty := (.array .byte)) (by decide) rfl rfl (g := (mkF m 14 #[rv a1, rv a2, iv 0, iv 0, .val .null, .unset] [(.ref bs2), (.ref a1)])) rfl rfl (hb hby d4_14)
  have Sf4 := own_safe (EL := consts_1) hZ.alike c2_E_a1 c2_F_a1_value
  have c4_E_a1 := c2_E_a1.wr W4
  have c4_F_a1_value := c2_F_a1_value.same W4
  have c4_F_a1_coder := c2_F_a1_coder.other W4 (Or.inr (slot_ne (Or.inr (own_w hw 25 rfl)) (Or.inr (own_w hw 24 rfl)) (by decide) (t := .byte) (t' := (.array .byte)) (by decide) (by decide)))
  have c4_V_a2 := c2_V_a2.other W4 (Ne.symm n_12)
  have c4_E_as2 := LE2.wr W4
  have c4_F_as2_coder := LC2.other W4 (Or.inl (Ne.symm ne_a1_as2))
  have c4_F_as2_value := LV2.other W4 (Or.inl (Ne.symm ne_a1_as2))
  have c4_V_bs2 := LA2.other W4 (Ne.symm ne_a1_bs2)
  have Ch4 := (Ch2).trans (CHr.wr W4 Sf4 (Ch2).1)
  have Sf4w := Safe.wr W4 Sf4 (Ch2).1 Sf4
  have K4 := K2.wr W4 (Or.inl (List.mem_of_getElem? (i := 0) rfl))
  have O4 := O2.wr W4 g_a1
  have N4 := Fr.snoc X4 N0 g_a1
  refine own_go (B := T4.setTop (mkF m 17 #[rv a1, rv a2, iv 0, iv 0, .val .null, .unset] [])) (fun t k => st4 _ k) ?_
  refine own_go (B := T4.setTop (mkF m 18 #[rv a1, rv a2, iv 0, iv 0, .val .null, .unset] [(.ref a1)])) (fun t k => ?_) ?_
  · show own_S p e below T4 (mkF m 17 #[rv a1, rv a2, iv 0, iv 0, .val .null, .unset] []) _
    refine XS.aloadN X4.here hx rfl (hb hby d4_17) rfl rfl ?_
    exact k
  refine own_go (B := T4.setTop (mkF m 20 #[rv a1, rv a2, iv 0, iv 0, .val .null, .unset] [(.ref as2), (.ref a1)])) (fun t k => ldcAgain X4 hx hZ hown (own_w hw 22 rfl) hL2 (g := (mkF m 18 #[rv a1, rv a2, iv 0, iv 0, .val .null, .unset] [(.ref a1)])) rfl (hb hby d4_18) _ k) ?_
  obtain ⟨T6, X6, e6, st6⟩ := getF X4 hx hZ hown (host := "") (Or.inl (own_w hw 29 rfl)) Via.refl e4 c4_F_as2_coder (g := (mkF m 20 #[rv a1, rv a2, iv 0, iv 0, .val .null, .unset] [(.ref as2), (.ref a1)])) rfl rfl (hb hby d4_20)
  refine own_go (B := T6.setTop (mkF m 23 #[rv a1, rv a2, iv 0, iv 0, .val .null, .unset] [(.int 0), (.ref a1)])) (fun t k => st6 _ k) ?_
  obtain ⟨T7, h7, X7, e7, W7, st7⟩ := putFN X6 hx hZ hown (own_w hw 29 rfl) Via.refl e6 c4_F_a1_coder c4_E_a1 (Or.inr ⟨(own_w hw 25 rfl), rfl, hnm⟩) (own_w hw 10 rfl) (ty := .byte) (v' := (.int 0)) (by decide) rfl (by decide) (g := (mkF m 23 #[rv a1, rv a2, iv 0, iv 0, .val .null, .unset] [(.int 0), (.ref a1)])) rfl rfl (hb hby d4_23)
  have c7_E_a1 := c4_E_a1.wr W7
  have c7_F_a1_value := c4_F_a1_value.other W7 (Or.inr (slot_ne (Or.inr (own_w hw 24 rfl)) (Or.inr (own_w hw 25 rfl)) (by decide) (t := (.array .byte)) (t' := .byte) (by decide) (by decide)))
  have c7_F_a1_coder := c4_F_a1_coder.same W7
  have c7_V_a2 := c4_V_a2.other W7 (Ne.symm n_12)
  have c7_E_as2 := c4_E_as2.wr W7
  have c7_F_as2_coder := c4_F_as2_coder.other W7 (Or.inl (Ne.symm ne_a1_as2))
  have c7_F_as2_value := c4_F_as2_value.other W7 (Or.inl (Ne.symm ne_a1_as2))
  have c7_V_bs2 := c4_V_bs2.other W7 (Ne.symm ne_a1_bs2)
  have Ch7 := (Ch4).trans (CHr.wr W7 Sf4w (Ch4).1)
  have Sf7w := Safe.wr W7 Sf4w (Ch4).1 Sf4w
  have K7 := K4.wr W7 (Or.inl (List.mem_of_getElem? (i := 0) rfl))
  have O7 := O4.wr W7 g_a1
  have N7 := Fr.snoc X7 N4 g_a1
  refine own_go (B := T7.setTop (mkF m 26 #[rv a1, rv a2, iv 0, iv 0, .val .null, .unset] [])) (fun t k => st7 _ k) ?_
  obtain ⟨fs, hr, hrun, hended, hRW⟩ := X7.leaveW hS (by rw [e7]; exact (Nat.le_trans (Nat.le_trans hk2 (Keep.of_wr W4).1) (Keep.of_wr W7).1)) (v := none) (fun _ => rfl)
  refine ⟨_, _, ?_, hrun, hended, _, _, rfl, ?_, (by have q := (Ch7).trans (CHv.at X7 hZ (own_hEL hw) (Ch7).1); rw [← hh, ← e7] at q; exact q), hRW.1, hRW.2.1, hRW.2.2.1, hRW.2.2.2.mono (by decide) (by decide)⟩
  · show own_S p e below T7 (mkF m 26 #[rv a1, rv a2, iv 0, iv 0, .val .null, .unset] []) _
    exact X7.returnOut hx Bd.returns (hb hby d4_26) hr
  · show Q4_0 Z a1 a2 kc2 GC h0 n0 _ T7.heap _
    rw [e7]
    exact ⟨rfl, N7, bs2, ks2, K7, c7_E_a1, c7_F_a1_coder, c7_F_a1_value, c7_V_bs2⟩
theorem pn_3 : plainName "java/lang/String" = true := by first | (simp [plainName, overriddenIn]; done) | decide +kernel
theorem d3_0 : decode jdk_42_method_3_code 0 = .ok (.aload_n 0, 1) := by decide +kernel
theorem d3_1 : decode jdk_42_method_3_code 1 = .ok (.aload_n 1, 1) := by decide +kernel
theorem d3_2 : decode jdk_42_method_3_code 2 = .ok (.iconst 0, 1) := by decide +kernel
theorem d3_3 : decode jdk_42_method_3_code 3 = .ok (.aload_n 1, 1) := by decide +kernel
theorem d3_4 : decode jdk_42_method_3_code 4 = .ok (.arraylength, 1) := by decide +kernel
theorem d3_5 : decode jdk_42_method_3_code 5 = .ok (.aconst_null, 1) := by decide +kernel
theorem d3_6 : decode jdk_42_method_3_code 6 = .ok (.invokespecial 27, 3) := by decide +kernel
theorem d3_9 : decode jdk_42_method_3_code 9 = .ok (.return_, 1) := by decide +kernel
theorem ef_3 (m : MethodId) (x0 : Addr) (x1 : Addr) : entryFrame m #[(.ref x0), (.ref x1)] 2 = mkF m 0 #[.val (.ref x0), .val (.ref x1)] [] := by first | (simp [entryFrame, mkF, argsToLocals, Value.category]; done) | rfl
def Q3_0 (Z : State) (a1 : Addr) (a2 : Addr) (kc2 : ClassId) (GC : Int32) (h0 : Heap) (n0 : Nat) (v : Option Value) (h : Heap) (L : List Loc) : Prop := v = none ∧ Fr n0 L ∧ (∃ (b : Addr) (kb : ClassId), Keep h0 h [a1] ∧ Exa Z h a1 "java/lang/String" ∧ Fld Z h a1 "java/lang/String" "coder" "B" (.int (0 : Int32)) ∧ Fld Z h a1 "java/lang/String" "value" "[B" (.ref b) ∧ Arv Z h b kb .byte (0 : Int32) [] (.int (0 : Int32)))
set_option maxRecDepth 65536 in
set_option maxHeartbeats 40000000 in
theorem rm3_0 (l : Launch) (Z : State) (a0 : Array Value) (hw : ∀ d ∈ tables_1, d.before a0 Z = true) (ws : List Jvm.Cond) (a1 : Addr) (a2 : Addr) (kc2 : ClassId) (GC : Int32) (h0 : Heap) (n0 : Nat) (Z0 : n0 ≤ h0.size) (S_C : Sta Z Z.heap "java/lang/String" "COMPACT_STRINGS" "Z" (.int GC)) (hGC : ¬ GC = (0 : Int32)) (O0 : Old Z n0 h0) (E_a1 : Exa Z h0 a1 "java/lang/String") (g_a1 : n0 ≤ a1) (F_v : Fld Z h0 a1 "java/lang/String" "value" "[B" .null) (F_c : Fld Z h0 a1 "java/lang/String" "coder" "B" (.int (0 : Int32))) (V_a : Arv Z h0 a2 kc2 .char (0 : Int32) [] (.int (0 : Int32))) (n_12 : a1 ≠ a2) :
    MetFree l own_y11 (head1 (Jvm.Cond.code own_y11 jdk_42_method_3_code 2 none :: ws) ({ frames := 2, cells := 2, slots := 4, locals := 29 } : Room)) (fun a U => a = #[(.ref a1), (.ref a2)] ∧ Z.Warmed39 U.vm ∧ U.heap = h0 ∧ CHv Z consts_1 U.vm h0) (fun _ _ _ _ _ => True) (fun _ U o U' => ∃ v L, o = .returned v ∧ Q3_0 Z a1 a2 kc2 GC h0 n0 v U'.heap L ∧ CHr Z consts_1 U.vm U.heap U'.vm U'.heap ∧ ReturnedEndW U o U' L ({ frames := 2, cells := 2, slots := 4, locals := 29 } : Room).cells ({ frames := 2, cells := 2, slots := 4, locals := 29 } : Room).slots) := by
  refine MetFree.of_bodySF (plainFor_of_name pn_3) hisR ?_
  intro p e s m args below meth c s₁ Bd hml0 hP hK
  obtain ⟨rfl, hZ, hh, hCH⟩ := hP
  have hx := Bd.exec
  have hby := Bd.bytes
  have hml : c.maxLocals = 2 := hml0
  have hown : s.vm.findClass "java/lang/String" = some m.cls := findClass_of_methodNamed Bd.named
  have hnm := (name_of_methodNamed Bd.named Bd.method).1
  have X0 : Stand p l e ({ frames := 2, cells := 2, slots := 4, locals := 29 } : Room) s m #[(.ref a1), (.ref a2)] below meth c s₁ [] 0 0 := Stand.of_body Bd
  have e0 : s₁.heap = h0 := by rw [← hh, Bd.state]; rfl
  have N0 := Fr.nil n0
  have X0 : Stand p l e ({ frames := 2, cells := 2, slots := 4, locals := 29 } : Room) (s.setVm s.vm) m #[(.ref a1), (.ref a2)] below meth c s₁ [] 0 0 := X0
  have hZ : Z.Warmed39 (s.setVm s.vm).vm := hZ
  have hown : (s.setVm s.vm).vm.findClass "java/lang/String" = some m.cls := hown
  have hS : s.Since s.vm 0 := (State.WarmedH.refl s).since 0
  refine own_go (B := s₁.setTop (mkF m 0 #[rv a1, rv a2] [])) (fun t k => castTop (ef_3 m a1 a2) k) ?_
  obtain ⟨cl1, Ar1, qk1, S1, M1, H1, G1⟩ := id V_a
  refine own_go (B := s₁.setTop (mkF m 6 #[rv a1, rv a2] [.null, (.int 0), (.int 0), (.ref a2), (.ref a1)])) (fun t k => ?_) ?_
  · show own_S p e below s₁ (mkF m 0 #[rv a1, rv a2] []) _
    refine XS.aloadN X0.here hx rfl (hb hby d3_0) rfl rfl ?_
    refine XS.aloadN X0.here hx rfl (hb hby d3_1) rfl rfl ?_
    refine XS.iconst X0.here hx rfl (hb hby d3_2) ?_
    show own_S p e below s₁ (mkF m 3 #[rv a1, rv a2] [(.int 0), (.ref a2), (.ref a1)]) _
    refine XS.aloadN X0.here hx rfl (hb hby d3_3) rfl rfl ?_
    refine X0.arraylength hx (by rw [e0]; exact Ar1.1) (State.isArrayOf_alike hZ.alike Ar1.2.1) (g := (mkF m 4 #[rv a1, rv a2] [(.ref a2), (.int 0), (.ref a2), (.ref a1)])) rfl rfl (hb hby d3_4) _ ?_
    rw [len_of S1 M1]
    refine XS.aconstNull X0.here hx rfl (hb hby d3_5) ?_
    exact k
  have Ch2p := CHr.refl hCH
  obtain ⟨_, _, ⟨T2, L2, k2, n2⟩, -, X2, hS2, hg2, ⟨Lc2, hQ2, l2, y2, z2, hCr2⟩, st2⟩ := X0.specialBackS hx (y := own_y10) rfl hown (mvT hZ (own_w hw 15 rfl)) (mvT hZ (own_w hw 16 rfl)) (mvT hZ (own_w hw 18 rfl)) (by decide) (backOfSH (W := 0) (rm4_0 l Z a0 hw [] a1 a2 kc2  GC h0 n0 Z0 S_C hGC O0 E_a1 g_a1 F_v F_c V_a n_12 ) hZ (own_w hw 18 rfl) (own_w hw 11 rfl) (by decide) (by decide) (own_hEL hw) Ch2p.1) (g := (mkF m 6 #[rv a1, rv a2] [.null, (.int 0), (.int 0), (.ref a2), (.ref a1)])) rfl (by rw [hml]; rfl) (Steps.refl _) (a := a1) (argsL := [(.ref a2), (.int 0), (.int 0), .null]) (rest := []) (lenOf own_pd6 rfl) rfl (by show 2 * 0 + _ ≤ _; exact Nat.le_of_eq rfl) (hb hby d3_6) (fun _ _ => ⟨rfl, e0, (by decide : 0 + 2 ≤ _), (by decide : 0 + 4 ≤ _)⟩)
  dsimp only [Pt.U, Pt.locs, Pt.cells, Pt.slots] at X2 l2 y2 z2 st2 hQ2 hS2 hg2 hCr2
  subst l2 y2 z2
  have hS := hS.trans hS2 (Nat.le_trans (Nat.zero_le _) (Nat.le_trans (Nat.le_of_eq (congrArg Array.size e0.symm)) hg2))
  have hZ : Z.Warmed39 (s.setVm T2.vm).vm := State.Warmed39.trans hZ hS2.1
  have hown : (s.setVm T2.vm).vm.findClass "java/lang/String" = some m.cls := (hS2.1.alike.findClass _ _).trans hown
  obtain ⟨rfl, N2q, bq2, kq2, K2q, E2q, F2c, F2v, V2q⟩ := hQ2
  have N2 := Fr.app N0 N2q
  have c2_V_a2 := V_a.keep K2q (fun q => (Ne.symm n_12) (List.mem_singleton.mp q))
  have O2 := O0.keep K2q (allS g_a1 all0)
  have K2 := (Keep.refl h0 [a1]).trans K2q (allS (Or.inl (List.mem_of_getElem? (i := 0) rfl)) all0)
  have Ch2 := Ch2p.trans hCr2
  refine own_go (B := T2.setTop (mkF m 9 #[rv a1, rv a2] [])) (fun t k => st2.trans k) ?_
  obtain ⟨fs, hr, hrun, hended, hRW⟩ := X2.leaveW hS ((Nat.le_refl _)) (v := none) (fun _ => rfl)
  refine ⟨_, _, ?_, hrun, hended, _, _, rfl, ?_, (by have q := (Ch2).trans (CHv.at X2 hZ (own_hEL hw) (Ch2).1); rw [← hh] at q; exact q), hRW.1, hRW.2.1, hRW.2.2.1, hRW.2.2.2.mono (by decide) (by decide)⟩
  · show own_S p e below T2 (mkF m 9 #[rv a1, rv a2] []) _
    exact X2.returnOut hx Bd.returns (hb hby d3_9) hr
  · show Q3_0 Z a1 a2 kc2 GC h0 n0 _ T2.heap _
    exact ⟨rfl, N2, bq2, kq2, K2, E2q, F2c, F2v, V2q⟩
theorem d4_27 : decode jdk_42_method_149_code 27 = .ok (.getstatic 38, 3) := by decide +kernel
theorem d4_30 : decode jdk_42_method_149_code 30 = .ok (.ifCond .eq 28, 3) := by decide +kernel
theorem d4_33 : decode jdk_42_method_149_code 33 = .ok (.aload_n 1, 1) := by decide +kernel
theorem d4_34 : decode jdk_42_method_149_code 34 = .ok (.iload_n 2, 1) := by decide +kernel
theorem d4_35 : decode jdk_42_method_149_code 35 = .ok (.iload_n 3, 1) := by decide +kernel
theorem d4_36 : decode jdk_42_method_149_code 36 = .ok (.invokestatic 177, 3) := by decide +kernel
theorem d4_39 : decode jdk_42_method_149_code 39 = .ok (.astore 5, 2) := by decide +kernel
theorem d4_41 : decode jdk_42_method_149_code 41 = .ok (.aload_n 0, 1) := by decide +kernel
theorem d4_42 : decode jdk_42_method_149_code 42 = .ok (.aload 5, 2) := by decide +kernel
theorem d4_44 : decode jdk_42_method_149_code 44 = .ok (.iload_n 3, 1) := by decide +kernel
theorem d4_45 : decode jdk_42_method_149_code 45 = .ok (.invokestatic 47, 3) := by decide +kernel
theorem d4_48 : decode jdk_42_method_149_code 48 = .ok (.putfield 15, 3) := by decide +kernel
theorem d4_51 : decode jdk_42_method_149_code 51 = .ok (.aload_n 0, 1) := by decide +kernel
theorem d4_52 : decode jdk_42_method_149_code 52 = .ok (.aload 5, 2) := by decide +kernel
theorem d4_54 : decode jdk_42_method_149_code 54 = .ok (.putfield 9, 3) := by decide +kernel
theorem d4_57 : decode jdk_42_method_149_code 57 = .ok (.return_, 1) := by decide +kernel
def Q4_1 (Z : State) (a1 : Addr) (a2 : Addr) (kc2 : ClassId) (y0 : Int32) (GC : Int32) (h0 : Heap) (n0 : Nat) (v : Option Value) (h : Heap) (L : List Loc) : Prop := v = none ∧ Fr n0 L ∧ (∃ (b : Addr) (kb : ClassId), Keep h0 h [a1] ∧ Exa Z h a1 "java/lang/String" ∧ Fld Z h a1 "java/lang/String" "coder" "B" (.int (0 : Int32)) ∧ Fld Z h a1 "java/lang/String" "value" "[B" (.ref b) ∧ Arv Z h b kb .byte (1 : Int32) [(.int (own_b y0))] (.int (0 : Int32)))
set_option maxRecDepth 65536 in
set_option maxHeartbeats 40000000 in
theorem rm4_1 (l : Launch) (Z : State) (a0 : Array Value) (hw : ∀ d ∈ tables_1, d.before a0 Z = true) (ws : List Jvm.Cond) (a1 : Addr) (a2 : Addr) (kc2 : ClassId) (y0 : Int32) (GC : Int32) (h0 : Heap) (n0 : Nat) (Z0 : n0 ≤ h0.size) (S_C : Sta Z Z.heap "java/lang/String" "COMPACT_STRINGS" "Z" (.int GC)) (hGC : ¬ GC = (0 : Int32)) (O0 : Old Z n0 h0) (E_a1 : Exa Z h0 a1 "java/lang/String") (g_a1 : n0 ≤ a1) (F_v : Fld Z h0 a1 "java/lang/String" "value" "[B" .null) (F_c : Fld Z h0 a1 "java/lang/String" "coder" "B" (.int (0 : Int32))) (V_a : Arv Z h0 a2 kc2 .char (1 : Int32) [(.int y0)] (.int (0 : Int32))) (n_12 : a1 ≠ a2) (hp0 : ¬ (255 : Int32) < y0) :
    MetFree l own_y10 (head1 (Jvm.Cond.code own_y10 jdk_42_method_149_code 6 none :: ws) ({ frames := 2, cells := 1, slots := 1, locals := 35 } : Room)) (fun a U => a = #[(.ref a1), (.ref a2), (.int 0), (.int 1), .null] ∧ Z.Warmed39 U.vm ∧ U.heap = h0) (fun _ _ _ _ _ => True) (fun _ U o U' => ∃ v L, o = .returned v ∧ Q4_1 Z a1 a2 kc2 y0 GC h0 n0 v U'.heap L ∧ FrameEnd U o U' L ({ frames := 2, cells := 1, slots := 1, locals := 35 } : Room).cells ({ frames := 2, cells := 1, slots := 1, locals := 35 } : Room).slots) := by
  refine MetFree.of_bodySF (plainFor_of_name pn_4) hisR ?_
  intro p e s m args below meth c s₁ Bd hml0 hP hK
  obtain ⟨rfl, hZ, hh⟩ := hP
  have hx := Bd.exec
  have hby := Bd.bytes
  have hml : c.maxLocals = 6 := hml0
  have hown : s.vm.findClass "java/lang/String" = some m.cls := findClass_of_methodNamed Bd.named
  have hnm := (name_of_methodNamed Bd.named Bd.method).1
  have X0 : Stand p l e ({ frames := 2, cells := 1, slots := 1, locals := 35 } : Room) s m #[(.ref a1), (.ref a2), (.int 0), (.int 1), .null] below meth c s₁ [] 0 0 := Stand.of_body Bd
  have e0 : s₁.heap = h0 := by rw [← hh, Bd.state]; rfl
  have N0 := Fr.nil n0
  refine own_go (B := s₁.setTop (mkF m 0 #[rv a1, rv a2, iv 0, iv 1, .val .null, .unset] [])) (fun t k => castTop (ef_4n4 m a1 a2 (0 : Int32) (1 : Int32)) k) ?_
  refine own_go (B := s₁.setTop (mkF m 1 #[rv a1, rv a2, iv 0, iv 1, .val .null, .unset] [(.ref a1)])) (fun t k => ?_) ?_
  · show own_S p e below s₁ (mkF m 0 #[rv a1, rv a2, iv 0, iv 1, .val .null, .unset] []) _
    refine XS.aloadN X0.here hx rfl (hb hby d4_0) rfl rfl ?_
    exact k
  obtain ⟨T1, X1, e1, st1⟩ := initO X0 hx hZ hown (own_w hw 19 rfl) (own_w hw 20 rfl) (own_w hw 21 rfl) e0 (g := (mkF m 1 #[rv a1, rv a2, iv 0, iv 1, .val .null, .unset] [(.ref a1)])) rfl (by rw [hml]; rfl) rfl (hb hby d4_1) (by decide) (W := 0) (by show 2 * 0 + _ ≤ _; exact Nat.le_of_eq rfl) (by decide)
  refine own_go (B := T1.setTop (mkF m 4 #[rv a1, rv a2, iv 0, iv 1, .val .null, .unset] [])) (fun t k => st1 _ k) ?_
  refine own_go (B := T1.setTop (mkF m 27 #[rv a1, rv a2, iv 0, iv 1, .val .null, .unset] [])) (fun t k => ?_) ?_
  · show own_S p e below T1 (mkF m 4 #[rv a1, rv a2, iv 0, iv 1, .val .null, .unset] []) _
    refine XS.iloadN X1.here hx rfl (hb hby d4_4) rfl ?_
    refine XS.ifYes X1.here hx rfl (pc0 := 5) (pc' := 27) rfl (hb hby d4_5) rfl ((if0 _ _).trans (feq (by decide)).2) (by decide) (by decide) ?_
    exact k
  obtain ⟨T2, X2, e2, st2⟩ := getS2 X1 hx hZ hown (host := "") (Or.inl (own_w hw 49 rfl)) Via.refl e1 (S_C.ext O0.2) (g := (mkF m 27 #[rv a1, rv a2, iv 0, iv 1, .val .null, .unset] [])) rfl (hb hby d4_27)
  refine own_go (B := T2.setTop (mkF m 30 #[rv a1, rv a2, iv 0, iv 1, .val .null, .unset] [(.int GC)])) (fun t k => st2 _ k) ?_
  refine own_go (B := T2.setTop (mkF m 36 #[rv a1, rv a2, iv 0, iv 1, .val .null, .unset] [(.int 1), (.int 0), (.ref a2)])) (fun t k => ?_) ?_
  · show own_S p e below T2 (mkF m 30 #[rv a1, rv a2, iv 0, iv 1, .val .null, .unset] [(.int GC)]) _
    refine XS.ifNo X2.here hx rfl (hb hby d4_30) rfl ((if0 _ _).trans (feq hGC).1) ?_
    refine XS.aloadN X2.here hx rfl (hb hby d4_33) rfl rfl ?_
    refine XS.iloadN X2.here hx rfl (hb hby d4_34) rfl ?_
    show own_S p e below T2 (mkF m 35 #[rv a1, rv a2, iv 0, iv 1, .val .null, .unset] [(.int 0), (.ref a2)]) _
    refine XS.iloadN X2.here hx rfl (hb hby d4_35) rfl ?_
    exact k
  obtain ⟨_, _, ⟨T3, L3, k3, n3⟩, -, X3, ⟨Lc3, hQ3, l3, y3, z3⟩, st3⟩ := Jvm.LawKit.callS X2 hx (y := own_y8) hown (mvT hZ (own_w hw 79 rfl)) (mvT hZ (own_w hw 80 rfl)) (mvT hZ (own_w hw 81 rfl)) (mvT hZ (own_w hw 82 rfl)) (by decide) (backOf (W := 0) (rm17_1 l Z a0 hw [] a2 kc2 y0 h0 n0 Z0 V_a hp0) hZ (own_w hw 82 rfl) (own_w hw 81 rfl) (by decide) (by decide)) (g := (mkF m 36 #[rv a1, rv a2, iv 0, iv 1, .val .null, .unset] [(.int 1), (.int 0), (.ref a2)])) rfl (by rw [hml]; rfl) (argsL := [(.ref a2), (.int 0), (.int 1)]) (rest := []) (lenOf own_pd7 rfl) rfl (by show 2 * 0 + _ ≤ _; exact Nat.le_of_eq rfl) (hb hby d4_36) (fun _ _ => ⟨rfl, e2, (by decide : 0 + 1 ≤ _), (by decide : 0 + 1 ≤ _)⟩)
  dsimp only [Pt.U, Pt.locs, Pt.cells, Pt.slots] at X3 l3 y3 z3 st3 hQ3
  subst l3 y3 z3
  obtain ⟨bq3, kq3, rfl, N3q, K3q, q3z, q3g, V3q⟩ := hQ3
  have N3 := Fr.app N0 N3q
  have sz_bq3 : h0.size ≤ bq3 := Nat.le_trans ((Keep.refl h0 [a1])).1 q3z
  have g_bq3 : n0 ≤ bq3 := q3g
  have ne_a1_bq3 : a1 ≠ bq3 := Nat.ne_of_lt (Nat.lt_of_lt_of_le E_a1.lt q3z)
  have ne_a2_bq3 : a2 ≠ bq3 := Nat.ne_of_lt (Nat.lt_of_lt_of_le V_a.lt q3z)
  have c3_E_a1 := E_a1.keep K3q
  have c3_F_a1_value := F_v.keep K3q (List.not_mem_nil)
  have c3_F_a1_coder := F_c.keep K3q (List.not_mem_nil)
  have c3_V_a2 := V_a.keep K3q (List.not_mem_nil)
  have O3 := O0.keep K3q all0
  have K3 := (Keep.refl h0 [a1]).trans K3q all0
  refine own_go (B := T3.setTop (mkF m 39 #[rv a1, rv a2, iv 0, iv 1, .val .null, .unset] [(.ref bq3)])) (fun t k => st3 _ k) ?_
  refine own_go (B := T3.setTop (mkF m 45 #[rv a1, rv a2, iv 0, iv 1, .val .null, rv bq3] [(.int 1), (.ref bq3), (.ref a1)])) (fun t k => ?_) ?_
  · show own_S p e below T3 (mkF m 39 #[rv a1, rv a2, iv 0, iv 1, .val .null, .unset] [(.ref bq3)]) _
    refine XS.astore X3.here hx rfl (hb hby d4_39) rfl rfl (l' := #[rv a1, rv a2, iv 0, iv 1, .val .null, rv bq3]) rfl ?_
    refine XS.aloadN X3.here hx rfl (hb hby d4_41) rfl rfl ?_
    refine XS.aload X3.here hx rfl (hb hby d4_42) rfl rfl ?_
    show own_S p e below T3 (mkF m 44 #[rv a1, rv a2, iv 0, iv 1, .val .null, rv bq3] [(.ref bq3), (.ref a1)]) _
    refine XS.iloadN X3.here hx rfl (hb hby d4_44) rfl ?_
    exact k
  obtain ⟨_, _, ⟨T4, L4, k4, n4⟩, -, X4, ⟨Lc4, hQ4, l4, y4, z4⟩, st4⟩ := Jvm.LawKit.callS X3 hx (y := own_y9) hown (mvT hZ (own_w hw 86 rfl)) (mvT hZ (own_w hw 87 rfl)) (mvT hZ (own_w hw 81 rfl)) (mvT hZ (own_w hw 88 rfl)) (by decide) (backOf (W := 1) (rm19 l Z a0 hw [] bq3 (1 : Int32) kq3 [(.int (own_b y0))] (.int (0 : Int32)) T3.heap n0 (Nat.le_trans Z0 K3q.1) V3q) hZ (own_w hw 88 rfl) (own_w hw 81 rfl) (by decide) (by decide)) (g := (mkF m 45 #[rv a1, rv a2, iv 0, iv 1, .val .null, rv bq3] [(.int 1), (.ref bq3), (.ref a1)])) rfl (by rw [hml]; rfl) (argsL := [(.ref bq3), (.int 1)]) (rest := [(.ref a1)]) (lenOf own_pd8 rfl) rfl (by show 2 * 0 + _ ≤ _; exact Nat.le_of_eq rfl) (hb hby d4_45) (fun _ _ => ⟨rfl, rfl, (by decide : 1 + 0 ≤ _), (by decide : 1 + 0 ≤ _)⟩)
  dsimp only [Pt.U, Pt.locs, Pt.cells, Pt.slots] at X4 l4 y4 z4 st4 hQ4
  subst l4 y4 z4
  obtain ⟨rfl, N4q, eq4⟩ := hQ4
  have N4 := Fr.app N3 N4q
  refine own_go (B := T4.setTop (mkF m 48 #[rv a1, rv a2, iv 0, iv 1, .val .null, rv bq3] [(.int 0), (.ref a1)])) (fun t k => st4 _ k) ?_
  obtain ⟨T5, h5, X5, e5, W5, st5⟩ := putFN X4 hx hZ hown (own_w hw 29 rfl) Via.refl eq4 c3_F_a1_coder c3_E_a1 (Or.inr ⟨(own_w hw 25 rfl), rfl, hnm⟩) (own_w hw 10 rfl) (ty := .byte) (v' := (.int 0)) (by decide) rfl (by decide) (g := (mkF m 48 #[rv a1, rv a2, iv 0, iv 1, .val .null, rv bq3] [(.int 0), (.ref a1)])) rfl rfl (hb hby d4_48)
  have c5_E_a1 := c3_E_a1.wr W5
  have c5_F_a1_value := c3_F_a1_value.other W5 (Or.inr (slot_ne (Or.inr (own_w hw 24 rfl)) (Or.inr (own_w hw 25 rfl)) (by decide) (t := (.array .byte)) (t' := .byte) (by decide) (by decide)))
  have c5_F_a1_coder := c3_F_a1_coder.same W5
  have c5_V_a2 := c3_V_a2.other W5 (Ne.symm n_12)
  have c5_V_bq3 := V3q.other W5 (Ne.symm ne_a1_bq3)
  have K5 := K3.wr W5 (Or.inl (List.mem_of_getElem? (i := 0) rfl))
  have O5 := O3.wr W5 g_a1
  have N5 := Fr.snoc X5 N4 g_a1
  refine own_go (B := T5.setTop (mkF m 51 #[rv a1, rv a2, iv 0, iv 1, .val .null, rv bq3] [])) (fun t k => st5 _ k) ?_
  refine own_go (B := T5.setTop (mkF m 54 #[rv a1, rv a2, iv 0, iv 1, .val .null, rv bq3] [(.ref bq3), (.ref a1)])) (fun t k => ?_) ?_
  · show own_S p e below T5 (mkF m 51 #[rv a1, rv a2, iv 0, iv 1, .val .null, rv bq3] []) _
    refine XS.aloadN X5.here hx rfl (hb hby d4_51) rfl rfl ?_
    refine XS.aload X5.here hx rfl (hb hby d4_52) rfl rfl ?_
    exact k
  obtain ⟨T6, h6, X6, e6, W6, st6⟩ := putF X5 hx hZ hown (host := "") (Or.inl (own_w hw 28 rfl)) Via.refl e5 c5_F_a1_value c5_E_a1 (Or.inr ⟨(own_w hw 24 rfl), rfl, hnm⟩) (own_w hw 10 rfl) (ty := (.array .byte)) (by decide) rfl rfl (g := (mkF m 54 #[rv a1, rv a2, iv 0, iv 1, .val .null, rv bq3] [(.ref bq3), (.ref a1)])) rfl rfl (hb hby d4_54)
  have c6_E_a1 := c5_E_a1.wr W6
  have c6_F_a1_value := c5_F_a1_value.same W6
  have c6_F_a1_coder := c5_F_a1_coder.other W6 (Or.inr (slot_ne (Or.inr (own_w hw 25 rfl)) (Or.inr (own_w hw 24 rfl)) (by decide) (t := .byte) (t' := (.array .byte)) (by decide) (by decide)))
  have c6_V_a2 := c5_V_a2.other W6 (Ne.symm n_12)
  have c6_V_bq3 := c5_V_bq3.other W6 (Ne.symm ne_a1_bq3)
  have K6 := K5.wr W6 (Or.inl (List.mem_of_getElem? (i := 0) rfl))
  have O6 := O5.wr W6 g_a1
  have N6 := Fr.snoc X6 N5 g_a1
  refine own_go (B := T6.setTop (mkF m 57 #[rv a1, rv a2, iv 0, iv 1, .val .null, rv bq3] [])) (fun t k => st6 _ k) ?_
  obtain ⟨fs, hr, hrun, hended, hW, hsame⟩ := X6.leave (v := none) (fun _ => rfl)
  refine ⟨_, _, ?_, hrun, hended, _, _, rfl, ?_, ⟨_, rfl⟩, hW, hsame.mono (by decide) (by decide)⟩
  · show own_S p e below T6 (mkF m 57 #[rv a1, rv a2, iv 0, iv 1, .val .null, rv bq3] []) _
    exact X6.returnOut hx Bd.returns (hb hby d4_57) hr
  · show Q4_1 Z a1 a2 kc2 y0 GC h0 n0 _ T6.heap _
    rw [e6]
    exact ⟨rfl, N6, bq3, kq3, K6, c6_E_a1, c6_F_a1_coder, c6_F_a1_value, c6_V_bq3⟩
def Q3_1 (Z : State) (a1 : Addr) (a2 : Addr) (kc2 : ClassId) (y0 : Int32) (GC : Int32) (h0 : Heap) (n0 : Nat) (v : Option Value) (h : Heap) (L : List Loc) : Prop := v = none ∧ Fr n0 L ∧ (∃ (b : Addr) (kb : ClassId), Keep h0 h [a1] ∧ Exa Z h a1 "java/lang/String" ∧ Fld Z h a1 "java/lang/String" "coder" "B" (.int (0 : Int32)) ∧ Fld Z h a1 "java/lang/String" "value" "[B" (.ref b) ∧ Arv Z h b kb .byte (1 : Int32) [(.int (own_b y0))] (.int (0 : Int32)))
set_option maxRecDepth 65536 in
set_option maxHeartbeats 40000000 in
theorem rm3_1 (l : Launch) (Z : State) (a0 : Array Value) (hw : ∀ d ∈ tables_1, d.before a0 Z = true) (ws : List Jvm.Cond) (a1 : Addr) (a2 : Addr) (kc2 : ClassId) (y0 : Int32) (GC : Int32) (h0 : Heap) (n0 : Nat) (Z0 : n0 ≤ h0.size) (S_C : Sta Z Z.heap "java/lang/String" "COMPACT_STRINGS" "Z" (.int GC)) (hGC : ¬ GC = (0 : Int32)) (O0 : Old Z n0 h0) (E_a1 : Exa Z h0 a1 "java/lang/String") (g_a1 : n0 ≤ a1) (F_v : Fld Z h0 a1 "java/lang/String" "value" "[B" .null) (F_c : Fld Z h0 a1 "java/lang/String" "coder" "B" (.int (0 : Int32))) (V_a : Arv Z h0 a2 kc2 .char (1 : Int32) [(.int y0)] (.int (0 : Int32))) (n_12 : a1 ≠ a2) (hp0 : ¬ (255 : Int32) < y0) :
    MetFree l own_y11 (head1 (Jvm.Cond.code own_y11 jdk_42_method_3_code 2 none :: ws) ({ frames := 3, cells := 1, slots := 1, locals := 52 } : Room)) (fun a U => a = #[(.ref a1), (.ref a2)] ∧ Z.Warmed39 U.vm ∧ U.heap = h0) (fun _ _ _ _ _ => True) (fun _ U o U' => ∃ v L, o = .returned v ∧ Q3_1 Z a1 a2 kc2 y0 GC h0 n0 v U'.heap L ∧ FrameEnd U o U' L ({ frames := 3, cells := 1, slots := 1, locals := 52 } : Room).cells ({ frames := 3, cells := 1, slots := 1, locals := 52 } : Room).slots) := by
  refine MetFree.of_bodySF (plainFor_of_name pn_3) hisR ?_
  intro p e s m args below meth c s₁ Bd hml0 hP hK
  obtain ⟨rfl, hZ, hh⟩ := hP
  have hx := Bd.exec
  have hby := Bd.bytes
  have hml : c.maxLocals = 2 := hml0
  have hown : s.vm.findClass "java/lang/String" = some m.cls := findClass_of_methodNamed Bd.named
  have hnm := (name_of_methodNamed Bd.named Bd.method).1
  have X0 : Stand p l e ({ frames := 3, cells := 1, slots := 1, locals := 52 } : Room) s m #[(.ref a1), (.ref a2)] below meth c s₁ [] 0 0 := Stand.of_body Bd
  have e0 : s₁.heap = h0 := by rw [← hh, Bd.state]; rfl
  have N0 := Fr.nil n0
  refine own_go (B := s₁.setTop (mkF m 0 #[rv a1, rv a2] [])) (fun t k => castTop (ef_3 m a1 a2) k) ?_
  obtain ⟨cl1, Ar1, qk1, S1, M1, H1, G1⟩ := id V_a
  refine own_go (B := s₁.setTop (mkF m 6 #[rv a1, rv a2] [.null, (.int 1), (.int 0), (.ref a2), (.ref a1)])) (fun t k => ?_) ?_
  · show own_S p e below s₁ (mkF m 0 #[rv a1, rv a2] []) _
    refine XS.aloadN X0.here hx rfl (hb hby d3_0) rfl rfl ?_
    refine XS.aloadN X0.here hx rfl (hb hby d3_1) rfl rfl ?_
    refine XS.iconst X0.here hx rfl (hb hby d3_2) ?_
    show own_S p e below s₁ (mkF m 3 #[rv a1, rv a2] [(.int 0), (.ref a2), (.ref a1)]) _
    refine XS.aloadN X0.here hx rfl (hb hby d3_3) rfl rfl ?_
    refine X0.arraylength hx (by rw [e0]; exact Ar1.1) (State.isArrayOf_alike hZ.alike Ar1.2.1) (g := (mkF m 4 #[rv a1, rv a2] [(.ref a2), (.int 0), (.ref a2), (.ref a1)])) rfl rfl (hb hby d3_4) _ ?_
    rw [len_of S1 M1]
    refine XS.aconstNull X0.here hx rfl (hb hby d3_5) ?_
    exact k
  obtain ⟨_, _, ⟨T2, L2, k2, n2⟩, -, X2, ⟨Lc2, hQ2, l2, y2, z2⟩, st2⟩ := X0.specialBack hx (y := own_y10) rfl hown (mvT hZ (own_w hw 15 rfl)) (mvT hZ (own_w hw 16 rfl)) (mvT hZ (own_w hw 18 rfl)) (by decide) (backOf (W := 0) (rm4_1 l Z a0 hw [] a1 a2 kc2 y0 GC h0 n0 Z0 S_C hGC O0 E_a1 g_a1 F_v F_c V_a n_12 hp0) hZ (own_w hw 18 rfl) (own_w hw 11 rfl) (by decide) (by decide)) (g := (mkF m 6 #[rv a1, rv a2] [.null, (.int 1), (.int 0), (.ref a2), (.ref a1)])) rfl (by rw [hml]; rfl) (Steps.refl _) (a := a1) (argsL := [(.ref a2), (.int 0), (.int 1), .null]) (rest := []) (lenOf own_pd6 rfl) rfl (by show 2 * 0 + _ ≤ _; exact Nat.le_of_eq rfl) (hb hby d3_6) (fun _ _ => ⟨rfl, e0, (by decide : 0 + 1 ≤ _), (by decide : 0 + 1 ≤ _)⟩)
  dsimp only [Pt.U, Pt.locs, Pt.cells, Pt.slots] at X2 l2 y2 z2 st2 hQ2
  subst l2 y2 z2
  obtain ⟨rfl, N2q, bq2, kq2, K2q, E2q, F2c, F2v, V2q⟩ := hQ2
  have N2 := Fr.app N0 N2q
  have c2_V_a2 := V_a.keep K2q (fun q => (Ne.symm n_12) (List.mem_singleton.mp q))
  have O2 := O0.keep K2q (allS g_a1 all0)
  have K2 := (Keep.refl h0 [a1]).trans K2q (allS (Or.inl (List.mem_of_getElem? (i := 0) rfl)) all0)
  refine own_go (B := T2.setTop (mkF m 9 #[rv a1, rv a2] [])) (fun t k => st2.trans k) ?_
  obtain ⟨fs, hr, hrun, hended, hW, hsame⟩ := X2.leave (v := none) (fun _ => rfl)
  refine ⟨_, _, ?_, hrun, hended, _, _, rfl, ?_, ⟨_, rfl⟩, hW, hsame.mono (by decide) (by decide)⟩
  · show own_S p e below T2 (mkF m 9 #[rv a1, rv a2] []) _
    exact X2.returnOut hx Bd.returns (hb hby d3_9) hr
  · show Q3_1 Z a1 a2 kc2 y0 GC h0 n0 _ T2.heap _
    exact ⟨rfl, N2, bq2, kq2, K2, E2q, F2c, F2v, V2q⟩
def Q4_2 (Z : State) (a1 : Addr) (a2 : Addr) (kc2 : ClassId) (y0 : Int32) (y1 : Int32) (GC : Int32) (h0 : Heap) (n0 : Nat) (v : Option Value) (h : Heap) (L : List Loc) : Prop := v = none ∧ Fr n0 L ∧ (∃ (b : Addr) (kb : ClassId), Keep h0 h [a1] ∧ Exa Z h a1 "java/lang/String" ∧ Fld Z h a1 "java/lang/String" "coder" "B" (.int (0 : Int32)) ∧ Fld Z h a1 "java/lang/String" "value" "[B" (.ref b) ∧ Arv Z h b kb .byte (2 : Int32) [(.int (own_b y0)), (.int (own_b y1))] (.int (0 : Int32)))
set_option maxRecDepth 65536 in
set_option maxHeartbeats 40000000 in
theorem rm4_2 (l : Launch) (Z : State) (a0 : Array Value) (hw : ∀ d ∈ tables_1, d.before a0 Z = true) (ws : List Jvm.Cond) (a1 : Addr) (a2 : Addr) (kc2 : ClassId) (y0 : Int32) (y1 : Int32) (GC : Int32) (h0 : Heap) (n0 : Nat) (Z0 : n0 ≤ h0.size) (S_C : Sta Z Z.heap "java/lang/String" "COMPACT_STRINGS" "Z" (.int GC)) (hGC : ¬ GC = (0 : Int32)) (O0 : Old Z n0 h0) (E_a1 : Exa Z h0 a1 "java/lang/String") (g_a1 : n0 ≤ a1) (F_v : Fld Z h0 a1 "java/lang/String" "value" "[B" .null) (F_c : Fld Z h0 a1 "java/lang/String" "coder" "B" (.int (0 : Int32))) (V_a : Arv Z h0 a2 kc2 .char (2 : Int32) [(.int y0), (.int y1)] (.int (0 : Int32))) (n_12 : a1 ≠ a2) (hp0 : ¬ (255 : Int32) < y0) (hp1 : ¬ (255 : Int32) < y1) :
    MetFree l own_y10 (head1 (Jvm.Cond.code own_y10 jdk_42_method_149_code 6 none :: ws) ({ frames := 2, cells := 1, slots := 2, locals := 35 } : Room)) (fun a U => a = #[(.ref a1), (.ref a2), (.int 0), (.int 2), .null] ∧ Z.Warmed39 U.vm ∧ U.heap = h0) (fun _ _ _ _ _ => True) (fun _ U o U' => ∃ v L, o = .returned v ∧ Q4_2 Z a1 a2 kc2 y0 y1 GC h0 n0 v U'.heap L ∧ FrameEnd U o U' L ({ frames := 2, cells := 1, slots := 2, locals := 35 } : Room).cells ({ frames := 2, cells := 1, slots := 2, locals := 35 } : Room).slots) := by
  refine MetFree.of_bodySF (plainFor_of_name pn_4) hisR ?_
  intro p e s m args below meth c s₁ Bd hml0 hP hK
  obtain ⟨rfl, hZ, hh⟩ := hP
  have hx := Bd.exec
  have hby := Bd.bytes
  have hml : c.maxLocals = 6 := hml0
  have hown : s.vm.findClass "java/lang/String" = some m.cls := findClass_of_methodNamed Bd.named
  have hnm := (name_of_methodNamed Bd.named Bd.method).1
  have X0 : Stand p l e ({ frames := 2, cells := 1, slots := 2, locals := 35 } : Room) s m #[(.ref a1), (.ref a2), (.int 0), (.int 2), .null] below meth c s₁ [] 0 0 := Stand.of_body Bd
  have e0 : s₁.heap = h0 := by rw [← hh, Bd.state]; rfl
  have N0 := Fr.nil n0
  refine own_go (B := s₁.setTop (mkF m 0 #[rv a1, rv a2, iv 0, iv 2, .val .null, .unset] [])) (fun t k => castTop (ef_4n4 m a1 a2 (0 : Int32) (2 : Int32)) k) ?_
  refine own_go (B := s₁.setTop (mkF m 1 #[rv a1, rv a2, iv 0, iv 2, .val .null, .unset] [(.ref a1)])) (fun t k => ?_) ?_
  · show own_S p e below s₁ (mkF m 0 #[rv a1, rv a2, iv 0, iv 2, .val .null, .unset] []) _
    refine XS.aloadN X0.here hx rfl (hb hby d4_0) rfl rfl ?_
    exact k
  obtain ⟨T1, X1, e1, st1⟩ := initO X0 hx hZ hown (own_w hw 19 rfl) (own_w hw 20 rfl) (own_w hw 21 rfl) e0 (g := (mkF m 1 #[rv a1, rv a2, iv 0, iv 2, .val .null, .unset] [(.ref a1)])) rfl (by rw [hml]; rfl) rfl (hb hby d4_1) (by decide) (W := 0) (by show 2 * 0 + _ ≤ _; exact Nat.le_of_eq rfl) (by decide)
  refine own_go (B := T1.setTop (mkF m 4 #[rv a1, rv a2, iv 0, iv 2, .val .null, .unset] [])) (fun t k => st1 _ k) ?_
  refine own_go (B := T1.setTop (mkF m 27 #[rv a1, rv a2, iv 0, iv 2, .val .null, .unset] [])) (fun t k => ?_) ?_
  · show own_S p e below T1 (mkF m 4 #[rv a1, rv a2, iv 0, iv 2, .val .null, .unset] []) _
    refine XS.iloadN X1.here hx rfl (hb hby d4_4) rfl ?_
    refine XS.ifYes X1.here hx rfl (pc0 := 5) (pc' := 27) rfl (hb hby d4_5) rfl ((if0 _ _).trans (feq (by decide)).2) (by decide) (by decide) ?_
    exact k
  obtain ⟨T2, X2, e2, st2⟩ := getS2 X1 hx hZ hown (host := "") (Or.inl (own_w hw 49 rfl)) Via.refl e1 (S_C.ext O0.2) (g := (mkF m 27 #[rv a1, rv a2, iv 0, iv 2, .val .null, .unset] [])) rfl (hb hby d4_27)
  refine own_go (B := T2.setTop (mkF m 30 #[rv a1, rv a2, iv 0, iv 2, .val .null, .unset] [(.int GC)])) (fun t k => st2 _ k) ?_
  refine own_go (B := T2.setTop (mkF m 36 #[rv a1, rv a2, iv 0, iv 2, .val .null, .unset] [(.int 2), (.int 0), (.ref a2)])) (fun t k => ?_) ?_
  · show own_S p e below T2 (mkF m 30 #[rv a1, rv a2, iv 0, iv 2, .val .null, .unset] [(.int GC)]) _
    refine XS.ifNo X2.here hx rfl (hb hby d4_30) rfl ((if0 _ _).trans (feq hGC).1) ?_
    refine XS.aloadN X2.here hx rfl (hb hby d4_33) rfl rfl ?_
    refine XS.iloadN X2.here hx rfl (hb hby d4_34) rfl ?_
    show own_S p e below T2 (mkF m 35 #[rv a1, rv a2, iv 0, iv 2, .val .null, .unset] [(.int 0), (.ref a2)]) _
    refine XS.iloadN X2.here hx rfl (hb hby d4_35) rfl ?_
    exact k
  obtain ⟨_, _, ⟨T3, L3, k3, n3⟩, -, X3, ⟨Lc3, hQ3, l3, y3, z3⟩, st3⟩ := Jvm.LawKit.callS X2 hx (y := own_y8) hown (mvT hZ (own_w hw 79 rfl)) (mvT hZ (own_w hw 80 rfl)) (mvT hZ (own_w hw 81 rfl)) (mvT hZ (own_w hw 82 rfl)) (by decide) (backOf (W := 0) (rm17_2 l Z a0 hw [] a2 kc2 y0 y1 h0 n0 Z0 V_a hp0 hp1) hZ (own_w hw 82 rfl) (own_w hw 81 rfl) (by decide) (by decide)) (g := (mkF m 36 #[rv a1, rv a2, iv 0, iv 2, .val .null, .unset] [(.int 2), (.int 0), (.ref a2)])) rfl (by rw [hml]; rfl) (argsL := [(.ref a2), (.int 0), (.int 2)]) (rest := []) (lenOf own_pd7 rfl) rfl (by show 2 * 0 + _ ≤ _; exact Nat.le_of_eq rfl) (hb hby d4_36) (fun _ _ => ⟨rfl, e2, (by decide : 0 + 1 ≤ _), (by decide : 0 + 2 ≤ _)⟩)
  dsimp only [Pt.U, Pt.locs, Pt.cells, Pt.slots] at X3 l3 y3 z3 st3 hQ3
  subst l3 y3 z3
  obtain ⟨bq3, kq3, rfl, N3q, K3q, q3z, q3g, V3q⟩ := hQ3
  have N3 := Fr.app N0 N3q
  have sz_bq3 : h0.size ≤ bq3 := Nat.le_trans ((Keep.refl h0 [a1])).1 q3z
  have g_bq3 : n0 ≤ bq3 := q3g
  have ne_a1_bq3 : a1 ≠ bq3 := Nat.ne_of_lt (Nat.lt_of_lt_of_le E_a1.lt q3z)
  have ne_a2_bq3 : a2 ≠ bq3 := Nat.ne_of_lt (Nat.lt_of_lt_of_le V_a.lt q3z)
  have c3_E_a1 := E_a1.keep K3q
  have c3_F_a1_value := F_v.keep K3q (List.not_mem_nil)
  have c3_F_a1_coder := F_c.keep K3q (List.not_mem_nil)
  have c3_V_a2 := V_a.keep K3q (List.not_mem_nil)
  have O3 := O0.keep K3q all0
  have K3 := (Keep.refl h0 [a1]).trans K3q all0
  refine own_go (B := T3.setTop (mkF m 39 #[rv a1, rv a2, iv 0, iv 2, .val .null, .unset] [(.ref bq3)])) (fun t k => st3 _ k) ?_
  refine own_go (B := T3.setTop (mkF m 45 #[rv a1, rv a2, iv 0, iv 2, .val .null, rv bq3] [(.int 2), (.ref bq3), (.ref a1)])) (fun t k => ?_) ?_
  · show own_S p e below T3 (mkF m 39 #[rv a1, rv a2, iv 0, iv 2, .val .null, .unset] [(.ref bq3)]) _
    refine XS.astore X3.here hx rfl (hb hby d4_39) rfl rfl (l' := #[rv a1, rv a2, iv 0, iv 2, .val .null, rv bq3]) rfl ?_
    refine XS.aloadN X3.here hx rfl (hb hby d4_41) rfl rfl ?_
    refine XS.aload X3.here hx rfl (hb hby d4_42) rfl rfl ?_
    show own_S p e below T3 (mkF m 44 #[rv a1, rv a2, iv 0, iv 2, .val .null, rv bq3] [(.ref bq3), (.ref a1)]) _
    refine XS.iloadN X3.here hx rfl (hb hby d4_44) rfl ?_
    exact k
  obtain ⟨_, _, ⟨T4, L4, k4, n4⟩, -, X4, ⟨Lc4, hQ4, l4, y4, z4⟩, st4⟩ := Jvm.LawKit.callS X3 hx (y := own_y9) hown (mvT hZ (own_w hw 86 rfl)) (mvT hZ (own_w hw 87 rfl)) (mvT hZ (own_w hw 81 rfl)) (mvT hZ (own_w hw 88 rfl)) (by decide) (backOf (W := 1) (rm19 l Z a0 hw [] bq3 (2 : Int32) kq3 [(.int (own_b y0)), (.int (own_b y1))] (.int (0 : Int32)) T3.heap n0 (Nat.le_trans Z0 K3q.1) V3q) hZ (own_w hw 88 rfl) (own_w hw 81 rfl) (by decide) (by decide)) (g := (mkF m 45 #[rv a1, rv a2, iv 0, iv 2, .val .null, rv bq3] [(.int 2), (.ref bq3), (.ref a1)])) rfl (by rw [hml]; rfl) (argsL := [(.ref bq3), (.int 2)]) (rest := [(.ref a1)]) (lenOf own_pd8 rfl) rfl (by show 2 * 0 + _ ≤ _; exact Nat.le_of_eq rfl) (hb hby d4_45) (fun _ _ => ⟨rfl, rfl, (by decide : 1 + 0 ≤ _), (by decide : 2 + 0 ≤ _)⟩)
  dsimp only [Pt.U, Pt.locs, Pt.cells, Pt.slots] at X4 l4 y4 z4 st4 hQ4
  subst l4 y4 z4
  obtain ⟨rfl, N4q, eq4⟩ := hQ4
  have N4 := Fr.app N3 N4q
  refine own_go (B := T4.setTop (mkF m 48 #[rv a1, rv a2, iv 0, iv 2, .val .null, rv bq3] [(.int 0), (.ref a1)])) (fun t k => st4 _ k) ?_
  obtain ⟨T5, h5, X5, e5, W5, st5⟩ := putFN X4 hx hZ hown (own_w hw 29 rfl) Via.refl eq4 c3_F_a1_coder c3_E_a1 (Or.inr ⟨(own_w hw 25 rfl), rfl, hnm⟩) (own_w hw 10 rfl) (ty := .byte) (v' := (.int 0)) (by decide) rfl (by decide) (g := (mkF m 48 #[rv a1, rv a2, iv 0, iv 2, .val .null, rv bq3] [(.int 0), (.ref a1)])) rfl rfl (hb hby d4_48)
  have c5_E_a1 := c3_E_a1.wr W5
  have c5_F_a1_value := c3_F_a1_value.other W5 (Or.inr (slot_ne (Or.inr (own_w hw 24 rfl)) (Or.inr (own_w hw 25 rfl)) (by decide) (t := (.array .byte)) (t' := .byte) (by decide) (by decide)))
  have c5_F_a1_coder := c3_F_a1_coder.same W5
  have c5_V_a2 := c3_V_a2.other W5 (Ne.symm n_12)
  have c5_V_bq3 := V3q.other W5 (Ne.symm ne_a1_bq3)
  have K5 := K3.wr W5 (Or.inl (List.mem_of_getElem? (i := 0) rfl))
  have O5 := O3.wr W5 g_a1
  have N5 := Fr.snoc X5 N4 g_a1
  refine own_go (B := T5.setTop (mkF m 51 #[rv a1, rv a2, iv 0, iv 2, .val .null, rv bq3] [])) (fun t k => st5 _ k) ?_
  refine own_go (B := T5.setTop (mkF m 54 #[rv a1, rv a2, iv 0, iv 2, .val .null, rv bq3] [(.ref bq3), (.ref a1)])) (fun t k => ?_) ?_
  · show own_S p e below T5 (mkF m 51 #[rv a1, rv a2, iv 0, iv 2, .val .null, rv bq3] []) _
    refine XS.aloadN X5.here hx rfl (hb hby d4_51) rfl rfl ?_
    refine XS.aload X5.here hx rfl (hb hby d4_52) rfl rfl ?_
    exact k
  obtain ⟨T6, h6, X6, e6, W6, st6⟩ := putF X5 hx hZ hown (host := "") (Or.inl (own_w hw 28 rfl)) Via.refl e5 c5_F_a1_value c5_E_a1 (Or.inr ⟨(own_w hw 24 rfl), rfl, hnm⟩) (own_w hw 10 rfl) (ty := (.array .byte)) (by decide) rfl rfl (g := (mkF m 54 #[rv a1, rv a2, iv 0, iv 2, .val .null, rv bq3] [(.ref bq3), (.ref a1)])) rfl rfl (hb hby d4_54)
  have c6_E_a1 := c5_E_a1.wr W6
  have c6_F_a1_value := c5_F_a1_value.same W6
  have c6_F_a1_coder := c5_F_a1_coder.other W6 (Or.inr (slot_ne (Or.inr (own_w hw 25 rfl)) (Or.inr (own_w hw 24 rfl)) (by decide) (t := .byte) (t' := (.array .byte)) (by decide) (by decide)))
  have c6_V_a2 := c5_V_a2.other W6 (Ne.symm n_12)
  have c6_V_bq3 := c5_V_bq3.other W6 (Ne.symm ne_a1_bq3)
  have K6 := K5.wr W6 (Or.inl (List.mem_of_getElem? (i := 0) rfl))
  have O6 := O5.wr W6 g_a1
  have N6 := Fr.snoc X6 N5 g_a1
  refine own_go (B := T6.setTop (mkF m 57 #[rv a1, rv a2, iv 0, iv 2, .val .null, rv bq3] [])) (fun t k => st6 _ k) ?_
  obtain ⟨fs, hr, hrun, hended, hW, hsame⟩ := X6.leave (v := none) (fun _ => rfl)
  refine ⟨_, _, ?_, hrun, hended, _, _, rfl, ?_, ⟨_, rfl⟩, hW, hsame.mono (by decide) (by decide)⟩
  · show own_S p e below T6 (mkF m 57 #[rv a1, rv a2, iv 0, iv 2, .val .null, rv bq3] []) _
    exact X6.returnOut hx Bd.returns (hb hby d4_57) hr
  · show Q4_2 Z a1 a2 kc2 y0 y1 GC h0 n0 _ T6.heap _
    rw [e6]
    exact ⟨rfl, N6, bq3, kq3, K6, c6_E_a1, c6_F_a1_coder, c6_F_a1_value, c6_V_bq3⟩
def Q3_2 (Z : State) (a1 : Addr) (a2 : Addr) (kc2 : ClassId) (y0 : Int32) (y1 : Int32) (GC : Int32) (h0 : Heap) (n0 : Nat) (v : Option Value) (h : Heap) (L : List Loc) : Prop := v = none ∧ Fr n0 L ∧ (∃ (b : Addr) (kb : ClassId), Keep h0 h [a1] ∧ Exa Z h a1 "java/lang/String" ∧ Fld Z h a1 "java/lang/String" "coder" "B" (.int (0 : Int32)) ∧ Fld Z h a1 "java/lang/String" "value" "[B" (.ref b) ∧ Arv Z h b kb .byte (2 : Int32) [(.int (own_b y0)), (.int (own_b y1))] (.int (0 : Int32)))
set_option maxRecDepth 65536 in
set_option maxHeartbeats 40000000 in
theorem rm3_2 (l : Launch) (Z : State) (a0 : Array Value) (hw : ∀ d ∈ tables_1, d.before a0 Z = true) (ws : List Jvm.Cond) (a1 : Addr) (a2 : Addr) (kc2 : ClassId) (y0 : Int32) (y1 : Int32) (GC : Int32) (h0 : Heap) (n0 : Nat) (Z0 : n0 ≤ h0.size) (S_C : Sta Z Z.heap "java/lang/String" "COMPACT_STRINGS" "Z" (.int GC)) (hGC : ¬ GC = (0 : Int32)) (O0 : Old Z n0 h0) (E_a1 : Exa Z h0 a1 "java/lang/String") (g_a1 : n0 ≤ a1) (F_v : Fld Z h0 a1 "java/lang/String" "value" "[B" .null) (F_c : Fld Z h0 a1 "java/lang/String" "coder" "B" (.int (0 : Int32))) (V_a : Arv Z h0 a2 kc2 .char (2 : Int32) [(.int y0), (.int y1)] (.int (0 : Int32))) (n_12 : a1 ≠ a2) (hp0 : ¬ (255 : Int32) < y0) (hp1 : ¬ (255 : Int32) < y1) :
    MetFree l own_y11 (head1 (Jvm.Cond.code own_y11 jdk_42_method_3_code 2 none :: ws) ({ frames := 3, cells := 1, slots := 2, locals := 52 } : Room)) (fun a U => a = #[(.ref a1), (.ref a2)] ∧ Z.Warmed39 U.vm ∧ U.heap = h0) (fun _ _ _ _ _ => True) (fun _ U o U' => ∃ v L, o = .returned v ∧ Q3_2 Z a1 a2 kc2 y0 y1 GC h0 n0 v U'.heap L ∧ FrameEnd U o U' L ({ frames := 3, cells := 1, slots := 2, locals := 52 } : Room).cells ({ frames := 3, cells := 1, slots := 2, locals := 52 } : Room).slots) := by
  refine MetFree.of_bodySF (plainFor_of_name pn_3) hisR ?_
  intro p e s m args below meth c s₁ Bd hml0 hP hK
  obtain ⟨rfl, hZ, hh⟩ := hP
  have hx := Bd.exec
  have hby := Bd.bytes
  have hml : c.maxLocals = 2 := hml0
  have hown : s.vm.findClass "java/lang/String" = some m.cls := findClass_of_methodNamed Bd.named
  have hnm := (name_of_methodNamed Bd.named Bd.method).1
  have X0 : Stand p l e ({ frames := 3, cells := 1, slots := 2, locals := 52 } : Room) s m #[(.ref a1), (.ref a2)] below meth c s₁ [] 0 0 := Stand.of_body Bd
  have e0 : s₁.heap = h0 := by rw [← hh, Bd.state]; rfl
  have N0 := Fr.nil n0
  refine own_go (B := s₁.setTop (mkF m 0 #[rv a1, rv a2] [])) (fun t k => castTop (ef_3 m a1 a2) k) ?_
  obtain ⟨cl1, Ar1, qk1, S1, M1, H1, G1⟩ := id V_a
  refine own_go (B := s₁.setTop (mkF m 6 #[rv a1, rv a2] [.null, (.int 2), (.int 0), (.ref a2), (.ref a1)])) (fun t k => ?_) ?_
  · show own_S p e below s₁ (mkF m 0 #[rv a1, rv a2] []) _
    refine XS.aloadN X0.here hx rfl (hb hby d3_0) rfl rfl ?_
    refine XS.aloadN X0.here hx rfl (hb hby d3_1) rfl rfl ?_
    refine XS.iconst X0.here hx rfl (hb hby d3_2) ?_
    show own_S p e below s₁ (mkF m 3 #[rv a1, rv a2] [(.int 0), (.ref a2), (.ref a1)]) _
    refine XS.aloadN X0.here hx rfl (hb hby d3_3) rfl rfl ?_
    refine X0.arraylength hx (by rw [e0]; exact Ar1.1) (State.isArrayOf_alike hZ.alike Ar1.2.1) (g := (mkF m 4 #[rv a1, rv a2] [(.ref a2), (.int 0), (.ref a2), (.ref a1)])) rfl rfl (hb hby d3_4) _ ?_
    rw [len_of S1 M1]
    refine XS.aconstNull X0.here hx rfl (hb hby d3_5) ?_
    exact k
  obtain ⟨_, _, ⟨T2, L2, k2, n2⟩, -, X2, ⟨Lc2, hQ2, l2, y2, z2⟩, st2⟩ := X0.specialBack hx (y := own_y10) rfl hown (mvT hZ (own_w hw 15 rfl)) (mvT hZ (own_w hw 16 rfl)) (mvT hZ (own_w hw 18 rfl)) (by decide) (backOf (W := 0) (rm4_2 l Z a0 hw [] a1 a2 kc2 y0 y1 GC h0 n0 Z0 S_C hGC O0 E_a1 g_a1 F_v F_c V_a n_12 hp0 hp1) hZ (own_w hw 18 rfl) (own_w hw 11 rfl) (by decide) (by decide)) (g := (mkF m 6 #[rv a1, rv a2] [.null, (.int 2), (.int 0), (.ref a2), (.ref a1)])) rfl (by rw [hml]; rfl) (Steps.refl _) (a := a1) (argsL := [(.ref a2), (.int 0), (.int 2), .null]) (rest := []) (lenOf own_pd6 rfl) rfl (by show 2 * 0 + _ ≤ _; exact Nat.le_of_eq rfl) (hb hby d3_6) (fun _ _ => ⟨rfl, e0, (by decide : 0 + 1 ≤ _), (by decide : 0 + 2 ≤ _)⟩)
  dsimp only [Pt.U, Pt.locs, Pt.cells, Pt.slots] at X2 l2 y2 z2 st2 hQ2
  subst l2 y2 z2
  obtain ⟨rfl, N2q, bq2, kq2, K2q, E2q, F2c, F2v, V2q⟩ := hQ2
  have N2 := Fr.app N0 N2q
  have c2_V_a2 := V_a.keep K2q (fun q => (Ne.symm n_12) (List.mem_singleton.mp q))
  have O2 := O0.keep K2q (allS g_a1 all0)
  have K2 := (Keep.refl h0 [a1]).trans K2q (allS (Or.inl (List.mem_of_getElem? (i := 0) rfl)) all0)
  refine own_go (B := T2.setTop (mkF m 9 #[rv a1, rv a2] [])) (fun t k => st2.trans k) ?_
  obtain ⟨fs, hr, hrun, hended, hW, hsame⟩ := X2.leave (v := none) (fun _ => rfl)
  refine ⟨_, _, ?_, hrun, hended, _, _, rfl, ?_, ⟨_, rfl⟩, hW, hsame.mono (by decide) (by decide)⟩
  · show own_S p e below T2 (mkF m 9 #[rv a1, rv a2] []) _
    exact X2.returnOut hx Bd.returns (hb hby d3_9) hr
  · show Q3_2 Z a1 a2 kc2 y0 y1 GC h0 n0 _ T2.heap _
    exact ⟨rfl, N2, bq2, kq2, K2, E2q, F2c, F2v, V2q⟩
def Q4_3 (Z : State) (a1 : Addr) (a2 : Addr) (kc2 : ClassId) (y0 : Int32) (y1 : Int32) (y2 : Int32) (GC : Int32) (h0 : Heap) (n0 : Nat) (v : Option Value) (h : Heap) (L : List Loc) : Prop := v = none ∧ Fr n0 L ∧ (∃ (b : Addr) (kb : ClassId), Keep h0 h [a1] ∧ Exa Z h a1 "java/lang/String" ∧ Fld Z h a1 "java/lang/String" "coder" "B" (.int (0 : Int32)) ∧ Fld Z h a1 "java/lang/String" "value" "[B" (.ref b) ∧ Arv Z h b kb .byte (3 : Int32) [(.int (own_b y0)), (.int (own_b y1)), (.int (own_b y2))] (.int (0 : Int32)))
set_option maxRecDepth 65536 in
set_option maxHeartbeats 40000000 in
theorem rm4_3 (l : Launch) (Z : State) (a0 : Array Value) (hw : ∀ d ∈ tables_1, d.before a0 Z = true) (ws : List Jvm.Cond) (a1 : Addr) (a2 : Addr) (kc2 : ClassId) (y0 : Int32) (y1 : Int32) (y2 : Int32) (GC : Int32) (h0 : Heap) (n0 : Nat) (Z0 : n0 ≤ h0.size) (S_C : Sta Z Z.heap "java/lang/String" "COMPACT_STRINGS" "Z" (.int GC)) (hGC : ¬ GC = (0 : Int32)) (O0 : Old Z n0 h0) (E_a1 : Exa Z h0 a1 "java/lang/String") (g_a1 : n0 ≤ a1) (F_v : Fld Z h0 a1 "java/lang/String" "value" "[B" .null) (F_c : Fld Z h0 a1 "java/lang/String" "coder" "B" (.int (0 : Int32))) (V_a : Arv Z h0 a2 kc2 .char (3 : Int32) [(.int y0), (.int y1), (.int y2)] (.int (0 : Int32))) (n_12 : a1 ≠ a2) (hp0 : ¬ (255 : Int32) < y0) (hp1 : ¬ (255 : Int32) < y1) (hp2 : ¬ (255 : Int32) < y2) :
    MetFree l own_y10 (head1 (Jvm.Cond.code own_y10 jdk_42_method_149_code 6 none :: ws) ({ frames := 2, cells := 1, slots := 3, locals := 35 } : Room)) (fun a U => a = #[(.ref a1), (.ref a2), (.int 0), (.int 3), .null] ∧ Z.Warmed39 U.vm ∧ U.heap = h0) (fun _ _ _ _ _ => True) (fun _ U o U' => ∃ v L, o = .returned v ∧ Q4_3 Z a1 a2 kc2 y0 y1 y2 GC h0 n0 v U'.heap L ∧ FrameEnd U o U' L ({ frames := 2, cells := 1, slots := 3, locals := 35 } : Room).cells ({ frames := 2, cells := 1, slots := 3, locals := 35 } : Room).slots) := by
  refine MetFree.of_bodySF (plainFor_of_name pn_4) hisR ?_
  intro p e s m args below meth c s₁ Bd hml0 hP hK
  obtain ⟨rfl, hZ, hh⟩ := hP
  have hx := Bd.exec
  have hby := Bd.bytes
  have hml : c.maxLocals = 6 := hml0
  have hown : s.vm.findClass "java/lang/String" = some m.cls := findClass_of_methodNamed Bd.named
  have hnm := (name_of_methodNamed Bd.named Bd.method).1
  have X0 : Stand p l e ({ frames := 2, cells := 1, slots := 3, locals := 35 } : Room) s m #[(.ref a1), (.ref a2), (.int 0), (.int 3), .null] below meth c s₁ [] 0 0 := Stand.of_body Bd
  have e0 : s₁.heap = h0 := by rw [← hh, Bd.state]; rfl
  have N0 := Fr.nil n0
  refine own_go (B := s₁.setTop (mkF m 0 #[rv a1, rv a2, iv 0, iv 3, .val .null, .unset] [])) (fun t k => castTop (ef_4n4 m a1 a2 (0 : Int32) (3 : Int32)) k) ?_
  refine own_go (B := s₁.setTop (mkF m 1 #[rv a1, rv a2, iv 0, iv 3, .val .null, .unset] [(.ref a1)])) (fun t k => ?_) ?_
  · show own_S p e below s₁ (mkF m 0 #[rv a1, rv a2, iv 0, iv 3, .val .null, .unset] []) _
    refine XS.aloadN X0.here hx rfl (hb hby d4_0) rfl rfl ?_
    exact k
  obtain ⟨T1, X1, e1, st1⟩ := initO X0 hx hZ hown (own_w hw 19 rfl) (own_w hw 20 rfl) (own_w hw 21 rfl) e0 (g := (mkF m 1 #[rv a1, rv a2, iv 0, iv 3, .val .null, .unset] [(.ref a1)])) rfl (by rw [hml]; rfl) rfl (hb hby d4_1) (by decide) (W := 0) (by show 2 * 0 + _ ≤ _; exact Nat.le_of_eq rfl) (by decide)
  refine own_go (B := T1.setTop (mkF m 4 #[rv a1, rv a2, iv 0, iv 3, .val .null, .unset] [])) (fun t k => st1 _ k) ?_
  refine own_go (B := T1.setTop (mkF m 27 #[rv a1, rv a2, iv 0, iv 3, .val .null, .unset] [])) (fun t k => ?_) ?_
  · show own_S p e below T1 (mkF m 4 #[rv a1, rv a2, iv 0, iv 3, .val .null, .unset] []) _
    refine XS.iloadN X1.here hx rfl (hb hby d4_4) rfl ?_
    refine XS.ifYes X1.here hx rfl (pc0 := 5) (pc' := 27) rfl (hb hby d4_5) rfl ((if0 _ _).trans (feq (by decide)).2) (by decide) (by decide) ?_
    exact k
  obtain ⟨T2, X2, e2, st2⟩ := getS2 X1 hx hZ hown (host := "") (Or.inl (own_w hw 49 rfl)) Via.refl e1 (S_C.ext O0.2) (g := (mkF m 27 #[rv a1, rv a2, iv 0, iv 3, .val .null, .unset] [])) rfl (hb hby d4_27)
  refine own_go (B := T2.setTop (mkF m 30 #[rv a1, rv a2, iv 0, iv 3, .val .null, .unset] [(.int GC)])) (fun t k => st2 _ k) ?_
  refine own_go (B := T2.setTop (mkF m 36 #[rv a1, rv a2, iv 0, iv 3, .val .null, .unset] [(.int 3), (.int 0), (.ref a2)])) (fun t k => ?_) ?_
  · show own_S p e below T2 (mkF m 30 #[rv a1, rv a2, iv 0, iv 3, .val .null, .unset] [(.int GC)]) _
    refine XS.ifNo X2.here hx rfl (hb hby d4_30) rfl ((if0 _ _).trans (feq hGC).1) ?_
    refine XS.aloadN X2.here hx rfl (hb hby d4_33) rfl rfl ?_
    refine XS.iloadN X2.here hx rfl (hb hby d4_34) rfl ?_
    show own_S p e below T2 (mkF m 35 #[rv a1, rv a2, iv 0, iv 3, .val .null, .unset] [(.int 0), (.ref a2)]) _
    refine XS.iloadN X2.here hx rfl (hb hby d4_35) rfl ?_
    exact k
  obtain ⟨_, _, ⟨T3, L3, k3, n3⟩, -, X3, ⟨Lc3, hQ3, l3, y3, z3⟩, st3⟩ := Jvm.LawKit.callS X2 hx (y := own_y8) hown (mvT hZ (own_w hw 79 rfl)) (mvT hZ (own_w hw 80 rfl)) (mvT hZ (own_w hw 81 rfl)) (mvT hZ (own_w hw 82 rfl)) (by decide) (backOf (W := 0) (rm17_3 l Z a0 hw [] a2 kc2 y0 y1 y2 h0 n0 Z0 V_a hp0 hp1 hp2) hZ (own_w hw 82 rfl) (own_w hw 81 rfl) (by decide) (by decide)) (g := (mkF m 36 #[rv a1, rv a2, iv 0, iv 3, .val .null, .unset] [(.int 3), (.int 0), (.ref a2)])) rfl (by rw [hml]; rfl) (argsL := [(.ref a2), (.int 0), (.int 3)]) (rest := []) (lenOf own_pd7 rfl) rfl (by show 2 * 0 + _ ≤ _; exact Nat.le_of_eq rfl) (hb hby d4_36) (fun _ _ => ⟨rfl, e2, (by decide : 0 + 1 ≤ _), (by decide : 0 + 3 ≤ _)⟩)
  dsimp only [Pt.U, Pt.locs, Pt.cells, Pt.slots] at X3 l3 y3 z3 st3 hQ3
  subst l3 y3 z3
  obtain ⟨bq3, kq3, rfl, N3q, K3q, q3z, q3g, V3q⟩ := hQ3
  have N3 := Fr.app N0 N3q
  have sz_bq3 : h0.size ≤ bq3 := Nat.le_trans ((Keep.refl h0 [a1])).1 q3z
  have g_bq3 : n0 ≤ bq3 := q3g
  have ne_a1_bq3 : a1 ≠ bq3 := Nat.ne_of_lt (Nat.lt_of_lt_of_le E_a1.lt q3z)
  have ne_a2_bq3 : a2 ≠ bq3 := Nat.ne_of_lt (Nat.lt_of_lt_of_le V_a.lt q3z)
  have c3_E_a1 := E_a1.keep K3q
  have c3_F_a1_value := F_v.keep K3q (List.not_mem_nil)
  have c3_F_a1_coder := F_c.keep K3q (List.not_mem_nil)
  have c3_V_a2 := V_a.keep K3q (List.not_mem_nil)
  have O3 := O0.keep K3q all0
  have K3 := (Keep.refl h0 [a1]).trans K3q all0
  refine own_go (B := T3.setTop (mkF m 39 #[rv a1, rv a2, iv 0, iv 3, .val .null, .unset] [(.ref bq3)])) (fun t k => st3 _ k) ?_
  refine own_go (B := T3.setTop (mkF m 45 #[rv a1, rv a2, iv 0, iv 3, .val .null, rv bq3] [(.int 3), (.ref bq3), (.ref a1)])) (fun t k => ?_) ?_
  · show own_S p e below T3 (mkF m 39 #[rv a1, rv a2, iv 0, iv 3, .val .null, .unset] [(.ref bq3)]) _
    refine XS.astore X3.here hx rfl (hb hby d4_39) rfl rfl (l' := #[rv a1, rv a2, iv 0, iv 3, .val .null, rv bq3]) rfl ?_
    refine XS.aloadN X3.here hx rfl (hb hby d4_41) rfl rfl ?_
    refine XS.aload X3.here hx rfl (hb hby d4_42) rfl rfl ?_
    show own_S p e below T3 (mkF m 44 #[rv a1, rv a2, iv 0, iv 3, .val .null, rv bq3] [(.ref bq3), (.ref a1)]) _
    refine XS.iloadN X3.here hx rfl (hb hby d4_44) rfl ?_
    exact k
  obtain ⟨_, _, ⟨T4, L4, k4, n4⟩, -, X4, ⟨Lc4, hQ4, l4, y4, z4⟩, st4⟩ := Jvm.LawKit.callS X3 hx (y := own_y9) hown (mvT hZ (own_w hw 86 rfl)) (mvT hZ (own_w hw 87 rfl)) (mvT hZ (own_w hw 81 rfl)) (mvT hZ (own_w hw 88 rfl)) (by decide) (backOf (W := 1) (rm19 l Z a0 hw [] bq3 (3 : Int32) kq3 [(.int (own_b y0)), (.int (own_b y1)), (.int (own_b y2))] (.int (0 : Int32)) T3.heap n0 (Nat.le_trans Z0 K3q.1) V3q) hZ (own_w hw 88 rfl) (own_w hw 81 rfl) (by decide) (by decide)) (g := (mkF m 45 #[rv a1, rv a2, iv 0, iv 3, .val .null, rv bq3] [(.int 3), (.ref bq3), (.ref a1)])) rfl (by rw [hml]; rfl) (argsL := [(.ref bq3), (.int 3)]) (rest := [(.ref a1)]) (lenOf own_pd8 rfl) rfl (by show 2 * 0 + _ ≤ _; exact Nat.le_of_eq rfl) (hb hby d4_45) (fun _ _ => ⟨rfl, rfl, (by decide : 1 + 0 ≤ _), (by decide : 3 + 0 ≤ _)⟩)
  dsimp only [Pt.U, Pt.locs, Pt.cells, Pt.slots] at X4 l4 y4 z4 st4 hQ4
  subst l4 y4 z4
  obtain ⟨rfl, N4q, eq4⟩ := hQ4
  have N4 := Fr.app N3 N4q
  refine own_go (B := T4.setTop (mkF m 48 #[rv a1, rv a2, iv 0, iv 3, .val .null, rv bq3] [(.int 0), (.ref a1)])) (fun t k => st4 _ k) ?_
  obtain ⟨T5, h5, X5, e5, W5, st5⟩ := putFN X4 hx hZ hown (own_w hw 29 rfl) Via.refl eq4 c3_F_a1_coder c3_E_a1 (Or.inr ⟨(own_w hw 25 rfl), rfl, hnm⟩) (own_w hw 10 rfl) (ty := .byte) (v' := (.int 0)) (by decide) rfl (by decide) (g := (mkF m 48 #[rv a1, rv a2, iv 0, iv 3, .val .null, rv bq3] [(.int 0), (.ref a1)])) rfl rfl (hb hby d4_48)
  have c5_E_a1 := c3_E_a1.wr W5
  have c5_F_a1_value := c3_F_a1_value.other W5 (Or.inr (slot_ne (Or.inr (own_w hw 24 rfl)) (Or.inr (own_w hw 25 rfl)) (by decide) (t := (.array .byte)) (t' := .byte) (by decide) (by decide)))
  have c5_F_a1_coder := c3_F_a1_coder.same W5
  have c5_V_a2 := c3_V_a2.other W5 (Ne.symm n_12)
  have c5_V_bq3 := V3q.other W5 (Ne.symm ne_a1_bq3)
  have K5 := K3.wr W5 (Or.inl (List.mem_of_getElem? (i := 0) rfl))
  have O5 := O3.wr W5 g_a1
  have N5 := Fr.snoc X5 N4 g_a1
  refine own_go (B := T5.setTop (mkF m 51 #[rv a1, rv a2, iv 0, iv 3, .val .null, rv bq3] [])) (fun t k => st5 _ k) ?_
  refine own_go (B := T5.setTop (mkF m 54 #[rv a1, rv a2, iv 0, iv 3, .val .null, rv bq3] [(.ref bq3), (.ref a1)])) (fun t k => ?_) ?_
  · show own_S p e below T5 (mkF m 51 #[rv a1, rv a2, iv 0, iv 3, .val .null, rv bq3] []) _
    refine XS.aloadN X5.here hx rfl (hb hby d4_51) rfl rfl ?_
    refine XS.aload X5.here hx rfl (hb hby d4_52) rfl rfl ?_
    exact k
  obtain ⟨T6, h6, X6, e6, W6, st6⟩ := putF X5 hx hZ hown (host := "") (Or.inl (own_w hw 28 rfl)) Via.refl e5 c5_F_a1_value c5_E_a1 (Or.inr ⟨(own_w hw 24 rfl), rfl, hnm⟩) (own_w hw 10 rfl) (ty := (.array .byte)) (by decide) rfl rfl (g := (mkF m 54 #[rv a1, rv a2, iv 0, iv 3, .val .null, rv bq3] [(.ref bq3), (.ref a1)])) rfl rfl (hb hby d4_54)
  have c6_E_a1 := c5_E_a1.wr W6
  have c6_F_a1_value := c5_F_a1_value.same W6
  have c6_F_a1_coder := c5_F_a1_coder.other W6 (Or.inr (slot_ne (Or.inr (own_w hw 25 rfl)) (Or.inr (own_w hw 24 rfl)) (by decide) (t := .byte) (t' := (.array .byte)) (by decide) (by decide)))
  have c6_V_a2 := c5_V_a2.other W6 (Ne.symm n_12)
  have c6_V_bq3 := c5_V_bq3.other W6 (Ne.symm ne_a1_bq3)
  have K6 := K5.wr W6 (Or.inl (List.mem_of_getElem? (i := 0) rfl))
  have O6 := O5.wr W6 g_a1
  have N6 := Fr.snoc X6 N5 g_a1
  refine own_go (B := T6.setTop (mkF m 57 #[rv a1, rv a2, iv 0, iv 3, .val .null, rv bq3] [])) (fun t k => st6 _ k) ?_
  obtain ⟨fs, hr, hrun, hended, hW, hsame⟩ := X6.leave (v := none) (fun _ => rfl)
  refine ⟨_, _, ?_, hrun, hended, _, _, rfl, ?_, ⟨_, rfl⟩, hW, hsame.mono (by decide) (by decide)⟩
  · show own_S p e below T6 (mkF m 57 #[rv a1, rv a2, iv 0, iv 3, .val .null, rv bq3] []) _
    exact X6.returnOut hx Bd.returns (hb hby d4_57) hr
  · show Q4_3 Z a1 a2 kc2 y0 y1 y2 GC h0 n0 _ T6.heap _
    rw [e6]
    exact ⟨rfl, N6, bq3, kq3, K6, c6_E_a1, c6_F_a1_coder, c6_F_a1_value, c6_V_bq3⟩
def Q3_3 (Z : State) (a1 : Addr) (a2 : Addr) (kc2 : ClassId) (y0 : Int32) (y1 : Int32) (y2 : Int32) (GC : Int32) (h0 : Heap) (n0 : Nat) (v : Option Value) (h : Heap) (L : List Loc) : Prop := v = none ∧ Fr n0 L ∧ (∃ (b : Addr) (kb : ClassId), Keep h0 h [a1] ∧ Exa Z h a1 "java/lang/String" ∧ Fld Z h a1 "java/lang/String" "coder" "B" (.int (0 : Int32)) ∧ Fld Z h a1 "java/lang/String" "value" "[B" (.ref b) ∧ Arv Z h b kb .byte (3 : Int32) [(.int (own_b y0)), (.int (own_b y1)), (.int (own_b y2))] (.int (0 : Int32)))
set_option maxRecDepth 65536 in
set_option maxHeartbeats 40000000 in
theorem rm3_3 (l : Launch) (Z : State) (a0 : Array Value) (hw : ∀ d ∈ tables_1, d.before a0 Z = true) (ws : List Jvm.Cond) (a1 : Addr) (a2 : Addr) (kc2 : ClassId) (y0 : Int32) (y1 : Int32) (y2 : Int32) (GC : Int32) (h0 : Heap) (n0 : Nat) (Z0 : n0 ≤ h0.size) (S_C : Sta Z Z.heap "java/lang/String" "COMPACT_STRINGS" "Z" (.int GC)) (hGC : ¬ GC = (0 : Int32)) (O0 : Old Z n0 h0) (E_a1 : Exa Z h0 a1 "java/lang/String") (g_a1 : n0 ≤ a1) (F_v : Fld Z h0 a1 "java/lang/String" "value" "[B" .null) (F_c : Fld Z h0 a1 "java/lang/String" "coder" "B" (.int (0 : Int32))) (V_a : Arv Z h0 a2 kc2 .char (3 : Int32) [(.int y0), (.int y1), (.int y2)] (.int (0 : Int32))) (n_12 : a1 ≠ a2) (hp0 : ¬ (255 : Int32) < y0) (hp1 : ¬ (255 : Int32) < y1) (hp2 : ¬ (255 : Int32) < y2) :
    MetFree l own_y11 (head1 (Jvm.Cond.code own_y11 jdk_42_method_3_code 2 none :: ws) ({ frames := 3, cells := 1, slots := 3, locals := 52 } : Room)) (fun a U => a = #[(.ref a1), (.ref a2)] ∧ Z.Warmed39 U.vm ∧ U.heap = h0) (fun _ _ _ _ _ => True) (fun _ U o U' => ∃ v L, o = .returned v ∧ Q3_3 Z a1 a2 kc2 y0 y1 y2 GC h0 n0 v U'.heap L ∧ FrameEnd U o U' L ({ frames := 3, cells := 1, slots := 3, locals := 52 } : Room).cells ({ frames := 3, cells := 1, slots := 3, locals := 52 } : Room).slots) := by
  refine MetFree.of_bodySF (plainFor_of_name pn_3) hisR ?_
  intro p e s m args below meth c s₁ Bd hml0 hP hK
  obtain ⟨rfl, hZ, hh⟩ := hP
  have hx := Bd.exec
  have hby := Bd.bytes
  have hml : c.maxLocals = 2 := hml0
  have hown : s.vm.findClass "java/lang/String" = some m.cls := findClass_of_methodNamed Bd.named
  have hnm := (name_of_methodNamed Bd.named Bd.method).1
  have X0 : Stand p l e ({ frames := 3, cells := 1, slots := 3, locals := 52 } : Room) s m #[(.ref a1), (.ref a2)] below meth c s₁ [] 0 0 := Stand.of_body Bd
  have e0 : s₁.heap = h0 := by rw [← hh, Bd.state]; rfl
  have N0 := Fr.nil n0
  refine own_go (B := s₁.setTop (mkF m 0 #[rv a1, rv a2] [])) (fun t k => castTop (ef_3 m a1 a2) k) ?_
  obtain ⟨cl1, Ar1, qk1, S1, M1, H1, G1⟩ := id V_a
  refine own_go (B := s₁.setTop (mkF m 6 #[rv a1, rv a2] [.null, (.int 3), (.int 0), (.ref a2), (.ref a1)])) (fun t k => ?_) ?_
  · show own_S p e below s₁ (mkF m 0 #[rv a1, rv a2] []) _
    refine XS.aloadN X0.here hx rfl (hb hby d3_0) rfl rfl ?_
    refine XS.aloadN X0.here hx rfl (hb hby d3_1) rfl rfl ?_
    refine XS.iconst X0.here hx rfl (hb hby d3_2) ?_
    show own_S p e below s₁ (mkF m 3 #[rv a1, rv a2] [(.int 0), (.ref a2), (.ref a1)]) _
    refine XS.aloadN X0.here hx rfl (hb hby d3_3) rfl rfl ?_
    refine X0.arraylength hx (by rw [e0]; exact Ar1.1) (State.isArrayOf_alike hZ.alike Ar1.2.1) (g := (mkF m 4 #[rv a1, rv a2] [(.ref a2), (.int 0), (.ref a2), (.ref a1)])) rfl rfl (hb hby d3_4) _ ?_
    rw [len_of S1 M1]
    refine XS.aconstNull X0.here hx rfl (hb hby d3_5) ?_
    exact k
  obtain ⟨_, _, ⟨T2, L2, k2, n2⟩, -, X2, ⟨Lc2, hQ2, l2, y2, z2⟩, st2⟩ := X0.specialBack hx (y := own_y10) rfl hown (mvT hZ (own_w hw 15 rfl)) (mvT hZ (own_w hw 16 rfl)) (mvT hZ (own_w hw 18 rfl)) (by decide) (backOf (W := 0) (rm4_3 l Z a0 hw [] a1 a2 kc2 y0 y1 y2 GC h0 n0 Z0 S_C hGC O0 E_a1 g_a1 F_v F_c V_a n_12 hp0 hp1 hp2) hZ (own_w hw 18 rfl) (own_w hw 11 rfl) (by decide) (by decide)) (g := (mkF m 6 #[rv a1, rv a2] [.null, (.int 3), (.int 0), (.ref a2), (.ref a1)])) rfl (by rw [hml]; rfl) (Steps.refl _) (a := a1) (argsL := [(.ref a2), (.int 0), (.int 3), .null]) (rest := []) (lenOf own_pd6 rfl) rfl (by show 2 * 0 + _ ≤ _; exact Nat.le_of_eq rfl) (hb hby d3_6) (fun _ _ => ⟨rfl, e0, (by decide : 0 + 1 ≤ _), (by decide : 0 + 3 ≤ _)⟩)
  dsimp only [Pt.U, Pt.locs, Pt.cells, Pt.slots] at X2 l2 y2 z2 st2 hQ2
  subst l2 y2 z2
  obtain ⟨rfl, N2q, bq2, kq2, K2q, E2q, F2c, F2v, V2q⟩ := hQ2
  have N2 := Fr.app N0 N2q
  have c2_V_a2 := V_a.keep K2q (fun q => (Ne.symm n_12) (List.mem_singleton.mp q))
  have O2 := O0.keep K2q (allS g_a1 all0)
  have K2 := (Keep.refl h0 [a1]).trans K2q (allS (Or.inl (List.mem_of_getElem? (i := 0) rfl)) all0)
  refine own_go (B := T2.setTop (mkF m 9 #[rv a1, rv a2] [])) (fun t k => st2.trans k) ?_
  obtain ⟨fs, hr, hrun, hended, hW, hsame⟩ := X2.leave (v := none) (fun _ => rfl)
  refine ⟨_, _, ?_, hrun, hended, _, _, rfl, ?_, ⟨_, rfl⟩, hW, hsame.mono (by decide) (by decide)⟩
  · show own_S p e below T2 (mkF m 9 #[rv a1, rv a2] []) _
    exact X2.returnOut hx Bd.returns (hb hby d3_9) hr
  · show Q3_3 Z a1 a2 kc2 y0 y1 y2 GC h0 n0 _ T2.heap _
    exact ⟨rfl, N2, bq2, kq2, K2, E2q, F2c, F2v, V2q⟩
def Q4_4 (Z : State) (a1 : Addr) (a2 : Addr) (kc2 : ClassId) (y0 : Int32) (y1 : Int32) (y2 : Int32) (y3 : Int32) (GC : Int32) (h0 : Heap) (n0 : Nat) (v : Option Value) (h : Heap) (L : List Loc) : Prop := v = none ∧ Fr n0 L ∧ (∃ (b : Addr) (kb : ClassId), Keep h0 h [a1] ∧ Exa Z h a1 "java/lang/String" ∧ Fld Z h a1 "java/lang/String" "coder" "B" (.int (0 : Int32)) ∧ Fld Z h a1 "java/lang/String" "value" "[B" (.ref b) ∧ Arv Z h b kb .byte (4 : Int32) [(.int (own_b y0)), (.int (own_b y1)), (.int (own_b y2)), (.int (own_b y3))] (.int (0 : Int32)))
set_option maxRecDepth 65536 in
set_option maxHeartbeats 40000000 in
theorem rm4_4 (l : Launch) (Z : State) (a0 : Array Value) (hw : ∀ d ∈ tables_1, d.before a0 Z = true) (ws : List Jvm.Cond) (a1 : Addr) (a2 : Addr) (kc2 : ClassId) (y0 : Int32) (y1 : Int32) (y2 : Int32) (y3 : Int32) (GC : Int32) (h0 : Heap) (n0 : Nat) (Z0 : n0 ≤ h0.size) (S_C : Sta Z Z.heap "java/lang/String" "COMPACT_STRINGS" "Z" (.int GC)) (hGC : ¬ GC = (0 : Int32)) (O0 : Old Z n0 h0) (E_a1 : Exa Z h0 a1 "java/lang/String") (g_a1 : n0 ≤ a1) (F_v : Fld Z h0 a1 "java/lang/String" "value" "[B" .null) (F_c : Fld Z h0 a1 "java/lang/String" "coder" "B" (.int (0 : Int32))) (V_a : Arv Z h0 a2 kc2 .char (4 : Int32) [(.int y0), (.int y1), (.int y2), (.int y3)] (.int (0 : Int32))) (n_12 : a1 ≠ a2) (hp0 : ¬ (255 : Int32) < y0) (hp1 : ¬ (255 : Int32) < y1) (hp2 : ¬ (255 : Int32) < y2) (hp3 : ¬ (255 : Int32) < y3) :
    MetFree l own_y10 (head1 (Jvm.Cond.code own_y10 jdk_42_method_149_code 6 none :: ws) ({ frames := 2, cells := 1, slots := 4, locals := 35 } : Room)) (fun a U => a = #[(.ref a1), (.ref a2), (.int 0), (.int 4), .null] ∧ Z.Warmed39 U.vm ∧ U.heap = h0) (fun _ _ _ _ _ => True) (fun _ U o U' => ∃ v L, o = .returned v ∧ Q4_4 Z a1 a2 kc2 y0 y1 y2 y3 GC h0 n0 v U'.heap L ∧ FrameEnd U o U' L ({ frames := 2, cells := 1, slots := 4, locals := 35 } : Room).cells ({ frames := 2, cells := 1, slots := 4, locals := 35 } : Room).slots) := by
  refine MetFree.of_bodySF (plainFor_of_name pn_4) hisR ?_
  intro p e s m args below meth c s₁ Bd hml0 hP hK
  obtain ⟨rfl, hZ, hh⟩ := hP
  have hx := Bd.exec
  have hby := Bd.bytes
  have hml : c.maxLocals = 6 := hml0
  have hown : s.vm.findClass "java/lang/String" = some m.cls := findClass_of_methodNamed Bd.named
  have hnm := (name_of_methodNamed Bd.named Bd.method).1
  have X0 : Stand p l e ({ frames := 2, cells := 1, slots := 4, locals := 35 } : Room) s m #[(.ref a1), (.ref a2), (.int 0), (.int 4), .null] below meth c s₁ [] 0 0 := Stand.of_body Bd
  have e0 : s₁.heap = h0 := by rw [← hh, Bd.state]; rfl
  have N0 := Fr.nil n0
  refine own_go (B := s₁.setTop (mkF m 0 #[rv a1, rv a2, iv 0, iv 4, .val .null, .unset] [])) (fun t k => castTop (ef_4n4 m a1 a2 (0 : Int32) (4 : Int32)) k) ?_
  refine own_go (B := s₁.setTop (mkF m 1 #[rv a1, rv a2, iv 0, iv 4, .val .null, .unset] [(.ref a1)])) (fun t k => ?_) ?_
  · show own_S p e below s₁ (mkF m 0 #[rv a1, rv a2, iv 0, iv 4, .val .null, .unset] []) _
    refine XS.aloadN X0.here hx rfl (hb hby d4_0) rfl rfl ?_
    exact k
  obtain ⟨T1, X1, e1, st1⟩ := initO X0 hx hZ hown (own_w hw 19 rfl) (own_w hw 20 rfl) (own_w hw 21 rfl) e0 (g := (mkF m 1 #[rv a1, rv a2, iv 0, iv 4, .val .null, .unset] [(.ref a1)])) rfl (by rw [hml]; rfl) rfl (hb hby d4_1) (by decide) (W := 0) (by show 2 * 0 + _ ≤ _; exact Nat.le_of_eq rfl) (by decide)
  refine own_go (B := T1.setTop (mkF m 4 #[rv a1, rv a2, iv 0, iv 4, .val .null, .unset] [])) (fun t k => st1 _ k) ?_
  refine own_go (B := T1.setTop (mkF m 27 #[rv a1, rv a2, iv 0, iv 4, .val .null, .unset] [])) (fun t k => ?_) ?_
  · show own_S p e below T1 (mkF m 4 #[rv a1, rv a2, iv 0, iv 4, .val .null, .unset] []) _
    refine XS.iloadN X1.here hx rfl (hb hby d4_4) rfl ?_
    refine XS.ifYes X1.here hx rfl (pc0 := 5) (pc' := 27) rfl (hb hby d4_5) rfl ((if0 _ _).trans (feq (by decide)).2) (by decide) (by decide) ?_
    exact k
  obtain ⟨T2, X2, e2, st2⟩ := getS2 X1 hx hZ hown (host := "") (Or.inl (own_w hw 49 rfl)) Via.refl e1 (S_C.ext O0.2) (g := (mkF m 27 #[rv a1, rv a2, iv 0, iv 4, .val .null, .unset] [])) rfl (hb hby d4_27)
  refine own_go (B := T2.setTop (mkF m 30 #[rv a1, rv a2, iv 0, iv 4, .val .null, .unset] [(.int GC)])) (fun t k => st2 _ k) ?_
  refine own_go (B := T2.setTop (mkF m 36 #[rv a1, rv a2, iv 0, iv 4, .val .null, .unset] [(.int 4), (.int 0), (.ref a2)])) (fun t k => ?_) ?_
  · show own_S p e below T2 (mkF m 30 #[rv a1, rv a2, iv 0, iv 4, .val .null, .unset] [(.int GC)]) _
    refine XS.ifNo X2.here hx rfl (hb hby d4_30) rfl ((if0 _ _).trans (feq hGC).1) ?_
    refine XS.aloadN X2.here hx rfl (hb hby d4_33) rfl rfl ?_
    refine XS.iloadN X2.here hx rfl (hb hby d4_34) rfl ?_
    show own_S p e below T2 (mkF m 35 #[rv a1, rv a2, iv 0, iv 4, .val .null, .unset] [(.int 0), (.ref a2)]) _
    refine XS.iloadN X2.here hx rfl (hb hby d4_35) rfl ?_
    exact k
  obtain ⟨_, _, ⟨T3, L3, k3, n3⟩, -, X3, ⟨Lc3, hQ3, l3, y3, z3⟩, st3⟩ := Jvm.LawKit.callS X2 hx (y := own_y8) hown (mvT hZ (own_w hw 79 rfl)) (mvT hZ (own_w hw 80 rfl)) (mvT hZ (own_w hw 81 rfl)) (mvT hZ (own_w hw 82 rfl)) (by decide) (backOf (W := 0) (rm17_4 l Z a0 hw [] a2 kc2 y0 y1 y2 y3 h0 n0 Z0 V_a hp0 hp1 hp2 hp3) hZ (own_w hw 82 rfl) (own_w hw 81 rfl) (by decide) (by decide)) (g := (mkF m 36 #[rv a1, rv a2, iv 0, iv 4, .val .null, .unset] [(.int 4), (.int 0), (.ref a2)])) rfl (by rw [hml]; rfl) (argsL := [(.ref a2), (.int 0), (.int 4)]) (rest := []) (lenOf own_pd7 rfl) rfl (by show 2 * 0 + _ ≤ _; exact Nat.le_of_eq rfl) (hb hby d4_36) (fun _ _ => ⟨rfl, e2, (by decide : 0 + 1 ≤ _), (by decide : 0 + 4 ≤ _)⟩)
  dsimp only [Pt.U, Pt.locs, Pt.cells, Pt.slots] at X3 l3 y3 z3 st3 hQ3
  subst l3 y3 z3
  obtain ⟨bq3, kq3, rfl, N3q, K3q, q3z, q3g, V3q⟩ := hQ3
  have N3 := Fr.app N0 N3q
  have sz_bq3 : h0.size ≤ bq3 := Nat.le_trans ((Keep.refl h0 [a1])).1 q3z
  have g_bq3 : n0 ≤ bq3 := q3g
  have ne_a1_bq3 : a1 ≠ bq3 := Nat.ne_of_lt (Nat.lt_of_lt_of_le E_a1.lt q3z)
  have ne_a2_bq3 : a2 ≠ bq3 := Nat.ne_of_lt (Nat.lt_of_lt_of_le V_a.lt q3z)
  have c3_E_a1 := E_a1.keep K3q
  have c3_F_a1_value := F_v.keep K3q (List.not_mem_nil)
  have c3_F_a1_coder := F_c.keep K3q (List.not_mem_nil)
  have c3_V_a2 := V_a.keep K3q (List.not_mem_nil)
  have O3 := O0.keep K3q all0
  have K3 := (Keep.refl h0 [a1]).trans K3q all0
  refine own_go (B := T3.setTop (mkF m 39 #[rv a1, rv a2, iv 0, iv 4, .val .null, .unset] [(.ref bq3)])) (fun t k => st3 _ k) ?_
  refine own_go (B := T3.setTop (mkF m 45 #[rv a1, rv a2, iv 0, iv 4, .val .null, rv bq3] [(.int 4), (.ref bq3), (.ref a1)])) (fun t k => ?_) ?_
  · show own_S p e below T3 (mkF m 39 #[rv a1, rv a2, iv 0, iv 4, .val .null, .unset] [(.ref bq3)]) _
    refine XS.astore X3.here hx rfl (hb hby d4_39) rfl rfl (l' := #[rv a1, rv a2, iv 0, iv 4, .val .null, rv bq3]) rfl ?_
    refine XS.aloadN X3.here hx rfl (hb hby d4_41) rfl rfl ?_
    refine XS.aload X3.here hx rfl (hb hby d4_42) rfl rfl ?_
    show own_S p e below T3 (mkF m 44 #[rv a1, rv a2, iv 0, iv 4, .val .null, rv bq3] [(.ref bq3), (.ref a1)]) _
    refine XS.iloadN X3.here hx rfl (hb hby d4_44) rfl ?_
    exact k
  obtain ⟨_, _, ⟨T4, L4, k4, n4⟩, -, X4, ⟨Lc4, hQ4, l4, y4, z4⟩, st4⟩ := Jvm.LawKit.callS X3 hx (y := own_y9) hown (mvT hZ (own_w hw 86 rfl)) (mvT hZ (own_w hw 87 rfl)) (mvT hZ (own_w hw 81 rfl)) (mvT hZ (own_w hw 88 rfl)) (by decide) (backOf (W := 1) (rm19 l Z a0 hw [] bq3 (4 : Int32) kq3 [(.int (own_b y0)), (.int (own_b y1)), (.int (own_b y2)), (.int (own_b y3))] (.int (0 : Int32)) T3.heap n0 (Nat.le_trans Z0 K3q.1) V3q) hZ (own_w hw 88 rfl) (own_w hw 81 rfl) (by decide) (by decide)) (g := (mkF m 45 #[rv a1, rv a2, iv 0, iv 4, .val .null, rv bq3] [(.int 4), (.ref bq3), (.ref a1)])) rfl (by rw [hml]; rfl) (argsL := [(.ref bq3), (.int 4)]) (rest := [(.ref a1)]) (lenOf own_pd8 rfl) rfl (by show 2 * 0 + _ ≤ _; exact Nat.le_of_eq rfl) (hb hby d4_45) (fun _ _ => ⟨rfl, rfl, (by decide : 1 + 0 ≤ _), (by decide : 4 + 0 ≤ _)⟩)
  dsimp only [Pt.U, Pt.locs, Pt.cells, Pt.slots] at X4 l4 y4 z4 st4 hQ4
  subst l4 y4 z4
  obtain ⟨rfl, N4q, eq4⟩ := hQ4
  have N4 := Fr.app N3 N4q
  refine own_go (B := T4.setTop (mkF m 48 #[rv a1, rv a2, iv 0, iv 4, .val .null, rv bq3] [(.int 0), (.ref a1)])) (fun t k => st4 _ k) ?_
  obtain ⟨T5, h5, X5, e5, W5, st5⟩ := putFN X4 hx hZ hown (own_w hw 29 rfl) Via.refl eq4 c3_F_a1_coder c3_E_a1 (Or.inr ⟨(own_w hw 25 rfl), rfl, hnm⟩) (own_w hw 10 rfl) (ty := .byte) (v' := (.int 0)) (by decide) rfl (by decide) (g := (mkF m 48 #[rv a1, rv a2, iv 0, iv 4, .val .null, rv bq3] [(.int 0), (.ref a1)])) rfl rfl (hb hby d4_48)
  have c5_E_a1 := c3_E_a1.wr W5
  have c5_F_a1_value := c3_F_a1_value.other W5 (Or.inr (slot_ne (Or.inr (own_w hw 24 rfl)) (Or.inr (own_w hw 25 rfl)) (by decide) (t := (.array .byte)) (t' := .byte) (by decide) (by decide)))
  have c5_F_a1_coder := c3_F_a1_coder.same W5
  have c5_V_a2 := c3_V_a2.other W5 (Ne.symm n_12)
  have c5_V_bq3 := V3q.other W5 (Ne.symm ne_a1_bq3)
  have K5 := K3.wr W5 (Or.inl (List.mem_of_getElem? (i := 0) rfl))
  have O5 := O3.wr W5 g_a1
  have N5 := Fr.snoc X5 N4 g_a1
  refine own_go (B := T5.setTop (mkF m 51 #[rv a1, rv a2, iv 0, iv 4, .val .null, rv bq3] [])) (fun t k => st5 _ k) ?_
  refine own_go (B := T5.setTop (mkF m 54 #[rv a1, rv a2, iv 0, iv 4, .val .null, rv bq3] [(.ref bq3), (.ref a1)])) (fun t k => ?_) ?_
  · show own_S p e below T5 (mkF m 51 #[rv a1, rv a2, iv 0, iv 4, .val .null, rv bq3] []) _
    refine XS.aloadN X5.here hx rfl (hb hby d4_51) rfl rfl ?_
    refine XS.aload X5.here hx rfl (hb hby d4_52) rfl rfl ?_
    exact k
  obtain ⟨T6, h6, X6, e6, W6, st6⟩ := putF X5 hx hZ hown (host := "") (Or.inl (own_w hw 28 rfl)) Via.refl e5 c5_F_a1_value c5_E_a1 (Or.inr ⟨(own_w hw 24 rfl), rfl, hnm⟩) (own_w hw 10 rfl) (ty := (.array .byte)) (by decide) rfl rfl (g := (mkF m 54 #[rv a1, rv a2, iv 0, iv 4, .val .null, rv bq3] [(.ref bq3), (.ref a1)])) rfl rfl (hb hby d4_54)
  have c6_E_a1 := c5_E_a1.wr W6
  have c6_F_a1_value := c5_F_a1_value.same W6
  have c6_F_a1_coder := c5_F_a1_coder.other W6 (Or.inr (slot_ne (Or.inr (own_w hw 25 rfl)) (Or.inr (own_w hw 24 rfl)) (by decide) (t := .byte) (t' := (.array .byte)) (by decide) (by decide)))
  have c6_V_a2 := c5_V_a2.other W6 (Ne.symm n_12)
  have c6_V_bq3 := c5_V_bq3.other W6 (Ne.symm ne_a1_bq3)
  have K6 := K5.wr W6 (Or.inl (List.mem_of_getElem? (i := 0) rfl))
  have O6 := O5.wr W6 g_a1
  have N6 := Fr.snoc X6 N5 g_a1
  refine own_go (B := T6.setTop (mkF m 57 #[rv a1, rv a2, iv 0, iv 4, .val .null, rv bq3] [])) (fun t k => st6 _ k) ?_
  obtain ⟨fs, hr, hrun, hended, hW, hsame⟩ := X6.leave (v := none) (fun _ => rfl)
  refine ⟨_, _, ?_, hrun, hended, _, _, rfl, ?_, ⟨_, rfl⟩, hW, hsame.mono (by decide) (by decide)⟩
  · show own_S p e below T6 (mkF m 57 #[rv a1, rv a2, iv 0, iv 4, .val .null, rv bq3] []) _
    exact X6.returnOut hx Bd.returns (hb hby d4_57) hr
  · show Q4_4 Z a1 a2 kc2 y0 y1 y2 y3 GC h0 n0 _ T6.heap _
    rw [e6]
    exact ⟨rfl, N6, bq3, kq3, K6, c6_E_a1, c6_F_a1_coder, c6_F_a1_value, c6_V_bq3⟩
def Q3_4 (Z : State) (a1 : Addr) (a2 : Addr) (kc2 : ClassId) (y0 : Int32) (y1 : Int32) (y2 : Int32) (y3 : Int32) (GC : Int32) (h0 : Heap) (n0 : Nat) (v : Option Value) (h : Heap) (L : List Loc) : Prop := v = none ∧ Fr n0 L ∧ (∃ (b : Addr) (kb : ClassId), Keep h0 h [a1] ∧ Exa Z h a1 "java/lang/String" ∧ Fld Z h a1 "java/lang/String" "coder" "B" (.int (0 : Int32)) ∧ Fld Z h a1 "java/lang/String" "value" "[B" (.ref b) ∧ Arv Z h b kb .byte (4 : Int32) [(.int (own_b y0)), (.int (own_b y1)), (.int (own_b y2)), (.int (own_b y3))] (.int (0 : Int32)))
set_option maxRecDepth 65536 in
set_option maxHeartbeats 40000000 in
theorem rm3_4 (l : Launch) (Z : State) (a0 : Array Value) (hw : ∀ d ∈ tables_1, d.before a0 Z = true) (ws : List Jvm.Cond) (a1 : Addr) (a2 : Addr) (kc2 : ClassId) (y0 : Int32) (y1 : Int32) (y2 : Int32) (y3 : Int32) (GC : Int32) (h0 : Heap) (n0 : Nat) (Z0 : n0 ≤ h0.size) (S_C : Sta Z Z.heap "java/lang/String" "COMPACT_STRINGS" "Z" (.int GC)) (hGC : ¬ GC = (0 : Int32)) (O0 : Old Z n0 h0) (E_a1 : Exa Z h0 a1 "java/lang/String") (g_a1 : n0 ≤ a1) (F_v : Fld Z h0 a1 "java/lang/String" "value" "[B" .null) (F_c : Fld Z h0 a1 "java/lang/String" "coder" "B" (.int (0 : Int32))) (V_a : Arv Z h0 a2 kc2 .char (4 : Int32) [(.int y0), (.int y1), (.int y2), (.int y3)] (.int (0 : Int32))) (n_12 : a1 ≠ a2) (hp0 : ¬ (255 : Int32) < y0) (hp1 : ¬ (255 : Int32) < y1) (hp2 : ¬ (255 : Int32) < y2) (hp3 : ¬ (255 : Int32) < y3) :
    MetFree l own_y11 (head1 (Jvm.Cond.code own_y11 jdk_42_method_3_code 2 none :: ws) ({ frames := 3, cells := 1, slots := 4, locals := 52 } : Room)) (fun a U => a = #[(.ref a1), (.ref a2)] ∧ Z.Warmed39 U.vm ∧ U.heap = h0) (fun _ _ _ _ _ => True) (fun _ U o U' => ∃ v L, o = .returned v ∧ Q3_4 Z a1 a2 kc2 y0 y1 y2 y3 GC h0 n0 v U'.heap L ∧ FrameEnd U o U' L ({ frames := 3, cells := 1, slots := 4, locals := 52 } : Room).cells ({ frames := 3, cells := 1, slots := 4, locals := 52 } : Room).slots) := by
  refine MetFree.of_bodySF (plainFor_of_name pn_3) hisR ?_
  intro p e s m args below meth c s₁ Bd hml0 hP hK
  obtain ⟨rfl, hZ, hh⟩ := hP
  have hx := Bd.exec
  have hby := Bd.bytes
  have hml : c.maxLocals = 2 := hml0
  have hown : s.vm.findClass "java/lang/String" = some m.cls := findClass_of_methodNamed Bd.named
  have hnm := (name_of_methodNamed Bd.named Bd.method).1
  have X0 : Stand p l e ({ frames := 3, cells := 1, slots := 4, locals := 52 } : Room) s m #[(.ref a1), (.ref a2)] below meth c s₁ [] 0 0 := Stand.of_body Bd
  have e0 : s₁.heap = h0 := by rw [← hh, Bd.state]; rfl
  have N0 := Fr.nil n0
  refine own_go (B := s₁.setTop (mkF m 0 #[rv a1, rv a2] [])) (fun t k => castTop (ef_3 m a1 a2) k) ?_
  obtain ⟨cl1, Ar1, qk1, S1, M1, H1, G1⟩ := id V_a
  refine own_go (B := s₁.setTop (mkF m 6 #[rv a1, rv a2] [.null, (.int 4), (.int 0), (.ref a2), (.ref a1)])) (fun t k => ?_) ?_
  · show own_S p e below s₁ (mkF m 0 #[rv a1, rv a2] []) _
    refine XS.aloadN X0.here hx rfl (hb hby d3_0) rfl rfl ?_
    refine XS.aloadN X0.here hx rfl (hb hby d3_1) rfl rfl ?_
    refine XS.iconst X0.here hx rfl (hb hby d3_2) ?_
    show own_S p e below s₁ (mkF m 3 #[rv a1, rv a2] [(.int 0), (.ref a2), (.ref a1)]) _
    refine XS.aloadN X0.here hx rfl (hb hby d3_3) rfl rfl ?_
    refine X0.arraylength hx (by rw [e0]; exact Ar1.1) (State.isArrayOf_alike hZ.alike Ar1.2.1) (g := (mkF m 4 #[rv a1, rv a2] [(.ref a2), (.int 0), (.ref a2), (.ref a1)])) rfl rfl (hb hby d3_4) _ ?_
    rw [len_of S1 M1]
    refine XS.aconstNull X0.here hx rfl (hb hby d3_5) ?_
    exact k
  obtain ⟨_, _, ⟨T2, L2, k2, n2⟩, -, X2, ⟨Lc2, hQ2, l2, y2, z2⟩, st2⟩ := X0.specialBack hx (y := own_y10) rfl hown (mvT hZ (own_w hw 15 rfl)) (mvT hZ (own_w hw 16 rfl)) (mvT hZ (own_w hw 18 rfl)) (by decide) (backOf (W := 0) (rm4_4 l Z a0 hw [] a1 a2 kc2 y0 y1 y2 y3 GC h0 n0 Z0 S_C hGC O0 E_a1 g_a1 F_v F_c V_a n_12 hp0 hp1 hp2 hp3) hZ (own_w hw 18 rfl) (own_w hw 11 rfl) (by decide) (by decide)) (g := (mkF m 6 #[rv a1, rv a2] [.null, (.int 4), (.int 0), (.ref a2), (.ref a1)])) rfl (by rw [hml]; rfl) (Steps.refl _) (a := a1) (argsL := [(.ref a2), (.int 0), (.int 4), .null]) (rest := []) (lenOf own_pd6 rfl) rfl (by show 2 * 0 + _ ≤ _; exact Nat.le_of_eq rfl) (hb hby d3_6) (fun _ _ => ⟨rfl, e0, (by decide : 0 + 1 ≤ _), (by decide : 0 + 4 ≤ _)⟩)
  dsimp only [Pt.U, Pt.locs, Pt.cells, Pt.slots] at X2 l2 y2 z2 st2 hQ2
  subst l2 y2 z2
  obtain ⟨rfl, N2q, bq2, kq2, K2q, E2q, F2c, F2v, V2q⟩ := hQ2
  have N2 := Fr.app N0 N2q
  have c2_V_a2 := V_a.keep K2q (fun q => (Ne.symm n_12) (List.mem_singleton.mp q))
  have O2 := O0.keep K2q (allS g_a1 all0)
  have K2 := (Keep.refl h0 [a1]).trans K2q (allS (Or.inl (List.mem_of_getElem? (i := 0) rfl)) all0)
  refine own_go (B := T2.setTop (mkF m 9 #[rv a1, rv a2] [])) (fun t k => st2.trans k) ?_
  obtain ⟨fs, hr, hrun, hended, hW, hsame⟩ := X2.leave (v := none) (fun _ => rfl)
  refine ⟨_, _, ?_, hrun, hended, _, _, rfl, ?_, ⟨_, rfl⟩, hW, hsame.mono (by decide) (by decide)⟩
  · show own_S p e below T2 (mkF m 9 #[rv a1, rv a2] []) _
    exact X2.returnOut hx Bd.returns (hb hby d3_9) hr
  · show Q3_4 Z a1 a2 kc2 y0 y1 y2 y3 GC h0 n0 _ T2.heap _
    exact ⟨rfl, N2, bq2, kq2, K2, E2q, F2c, F2v, V2q⟩
theorem pn_13 : plainName "java/lang/StringLatin1" = true := by first | (simp [plainName, overriddenIn]; done) | decide +kernel
theorem d13_0 : decode jdk_43_method_4_code 0 = .ok (.iload_n 0, 1) := by decide +kernel
theorem d13_1 : decode jdk_43_method_4_code 1 = .ok (.ifCond .lt 14, 3) := by decide +kernel
theorem d13_4 : decode jdk_43_method_4_code 4 = .ok (.iload_n 0, 1) := by decide +kernel
theorem d13_5 : decode jdk_43_method_4_code 5 = .ok (.sipush 255, 3) := by decide +kernel
theorem d13_8 : decode jdk_43_method_4_code 8 = .ok (.if_icmp .gt 7, 3) := by decide +kernel
theorem d13_11 : decode jdk_43_method_4_code 11 = .ok (.iconst 1, 1) := by decide +kernel
theorem d13_12 : decode jdk_43_method_4_code 12 = .ok (.goto 4, 3) := by decide +kernel
theorem d13_16 : decode jdk_43_method_4_code 16 = .ok (.ireturn, 1) := by decide +kernel
theorem ef_13 (m : MethodId) (x0 : Int32) : entryFrame m #[(.int x0)] 1 = mkF m 0 #[.val (.int x0)] [] := by first | (simp [entryFrame, mkF, argsToLocals, Value.category]; done) | rfl
def Q13 (Z : State)  (h0 : Heap) (n0 : Nat) (v : Option Value) (h : Heap) (L : List Loc) : Prop := v = some (.int (1 : Int32)) ∧ Fr n0 L ∧ h = h0
set_option maxRecDepth 65536 in
set_option maxHeartbeats 40000000 in
theorem rm13 (l : Launch) (Z : State) (a0 : Array Value) (hw : ∀ d ∈ tables_1, d.before a0 Z = true) (ws : List Jvm.Cond)  (h0 : Heap) (n0 : Nat) (Z0 : n0 ≤ h0.size) :
    MetFree l own_y12 (head1 (Jvm.Cond.code own_y12 jdk_43_method_4_code 1 (some .boolean) :: ws) ({ frames := 0, cells := 0, slots := 0, locals := 0 } : Room)) (fun a U => a = #[(.int 63)] ∧ Z.Warmed39 U.vm ∧ U.heap = h0) (fun _ _ _ _ _ => True) (fun _ U o U' => ∃ v L, o = .returned v ∧ Q13 Z  h0 n0 v U'.heap L ∧ FrameEnd U o U' L ({ frames := 0, cells := 0, slots := 0, locals := 0 } : Room).cells ({ frames := 0, cells := 0, slots := 0, locals := 0 } : Room).slots) := by
  refine MetFree.of_bodySF (plainFor_of_name pn_13) hisR ?_
  intro p e s m args below meth c s₁ Bd hml0 hP hK
  obtain ⟨rfl, hZ, hh⟩ := hP
  have hx := Bd.exec
  have hby := Bd.bytes
  have hml : c.maxLocals = 1 := hml0
  have hown : s.vm.findClass "java/lang/StringLatin1" = some m.cls := findClass_of_methodNamed Bd.named
  have hnm := (name_of_methodNamed Bd.named Bd.method).1
  have X0 : Stand p l e ({ frames := 0, cells := 0, slots := 0, locals := 0 } : Room) s m #[(.int 63)] below meth c s₁ [] 0 0 := Stand.of_body Bd
  have e0 : s₁.heap = h0 := by rw [← hh, Bd.state]; rfl
  have N0 := Fr.nil n0
  refine own_go (B := s₁.setTop (mkF m 0 #[iv 63] [])) (fun t k => castTop (ef_13 m (63 : Int32)) k) ?_
  obtain ⟨fs, hr, hrun, hended, hW, hsame⟩ := X0.leave (v := some (.int 1)) (fun h => by rw [Bd.returns] at h; cases h)
  refine ⟨_, _, ?_, hrun, hended, _, _, rfl, ?_, ⟨_, rfl⟩, hW, hsame.mono (by decide) (by decide)⟩
  · show own_S p e below s₁ (mkF m 0 #[iv 63] []) _
    refine XS.iloadN X0.here hx rfl (hb hby d13_0) rfl ?_
    refine XS.ifNo X0.here hx rfl (hb hby d13_1) rfl ((if0 _ _).trans (flt (by decide)).1) ?_
    refine XS.iloadN X0.here hx rfl (hb hby d13_4) rfl ?_
    show own_S p e below s₁ (mkF m 5 #[iv 63] [(.int 63)]) _
    refine XS.sipush X0.here hx rfl (hb hby d13_5) ?_
    refine XS.icmpNo X0.here hx rfl (hb hby d13_8) rfl (flt (by decide)).2.2.1 ?_
    refine XS.iconst X0.here hx rfl (hb hby d13_11) ?_
    show own_S p e below s₁ (mkF m 12 #[iv 63] [(.int 1)]) _
    refine XS.goto X0.here hx rfl (pc0 := 12) (pc' := 16) rfl (hb hby d13_12) (by decide) (by decide) ?_
    show own_S p e below s₁ (mkF m 16 #[iv 63] [(.int 1)]) _
    exact retN X0 hx (t := .boolean) Bd.returns (by simp) (hb hby d13_16) hr
  · show Q13 Z  h0 n0 _ s₁.heap _
    rw [e0]
    exact ⟨rfl, N0, rfl⟩
theorem d14_0 : decode jdk_29_method_65_code 0 = .ok (.iload_n 0, 1) := by decide +kernel
theorem d14_1 : decode jdk_29_method_65_code 1 = .ok (.iload_n 1, 1) := by decide +kernel
theorem d14_2 : decode jdk_29_method_65_code 2 = .ok (.if_icmp .lt 7, 3) := by decide +kernel
theorem d14_5 : decode jdk_29_method_65_code 5 = .ok (.iload_n 0, 1) := by decide +kernel
theorem d14_6 : decode jdk_29_method_65_code 6 = .ok (.goto 4, 3) := by decide +kernel
theorem d14_9 : decode jdk_29_method_65_code 9 = .ok (.iload_n 1, 1) := by decide +kernel
theorem d14_10 : decode jdk_29_method_65_code 10 = .ok (.ireturn, 1) := by decide +kernel
theorem ef_14 (m : MethodId) (x0 : Int32) (x1 : Int32) : entryFrame m #[(.int x0), (.int x1)] 2 = mkF m 0 #[.val (.int x0), .val (.int x1)] [] := by first | (simp [entryFrame, mkF, argsToLocals, Value.category]; done) | rfl
def Q14 (Z : State) (u1 : Int32) (u2 : Int32) (r1 : Int32) (h0 : Heap) (n0 : Nat) (v : Option Value) (h : Heap) (L : List Loc) : Prop := v = some (.int r1) ∧ Fr n0 L ∧ h = h0
set_option maxRecDepth 65536 in
set_option maxHeartbeats 40000000 in
theorem rm14 (l : Launch) (Z : State) (a0 : Array Value) (hw : ∀ d ∈ tables_1, d.before a0 Z = true) (ws : List Jvm.Cond) (u1 : Int32) (u2 : Int32) (r1 : Int32) (h0 : Heap) (n0 : Nat) (Z0 : n0 ≤ h0.size) (hr1 : r1 = (if u1 < u2 then u2 else u1)) :
    MetFree l own_y13 (head1 (Jvm.Cond.code own_y13 jdk_29_method_65_code 2 (some .int) :: ws) ({ frames := 0, cells := 0, slots := 0, locals := 0 } : Room)) (fun a U => a = #[(.int u1), (.int u2)] ∧ Z.Warmed39 U.vm ∧ U.heap = h0) (fun _ _ _ _ _ => True) (fun _ U o U' => ∃ v L, o = .returned v ∧ Q14 Z u1 u2 r1 h0 n0 v U'.heap L ∧ FrameEnd U o U' L ({ frames := 0, cells := 0, slots := 0, locals := 0 } : Room).cells ({ frames := 0, cells := 0, slots := 0, locals := 0 } : Room).slots) := by
  refine MetFree.of_bodySF (Jvm.Free.JP.mathPlain rfl (by decide +kernel)) hisR ?_
  intro p e s m args below meth c s₁ Bd hml0 hP hK
  obtain ⟨rfl, hZ, hh⟩ := hP
  have hx := Bd.exec
  have hby := Bd.bytes
  have hml : c.maxLocals = 2 := hml0
  have hown : s.vm.findClass "java/lang/Math" = some m.cls := findClass_of_methodNamed Bd.named
  have hnm := (name_of_methodNamed Bd.named Bd.method).1
  have X0 : Stand p l e ({ frames := 0, cells := 0, slots := 0, locals := 0 } : Room) s m #[(.int u1), (.int u2)] below meth c s₁ [] 0 0 := Stand.of_body Bd
  have e0 : s₁.heap = h0 := by rw [← hh, Bd.state]; rfl
  have N0 := Fr.nil n0
  refine own_go (B := s₁.setTop (mkF m 0 #[iv u1, iv u2] [])) (fun t k => castTop (ef_14 m u1 u2) k) ?_
  refine own_go (B := s₁.setTop (mkF m 2 #[iv u1, iv u2] [(.int u2), (.int u1)])) (fun t k => ?_) ?_
  · show own_S p e below s₁ (mkF m 0 #[iv u1, iv u2] []) _
    refine XS.iloadN X0.here hx rfl (hb hby d14_0) rfl ?_
    refine XS.iloadN X0.here hx rfl (hb hby d14_1) rfl ?_
    exact k
  by_cases hc2_1 : u1 < u2
  · obtain ⟨fs, hr, hrun, hended, hW, hsame⟩ := X0.leave (v := some (.int u2)) (fun h => by rw [Bd.returns] at h; cases h)
    refine ⟨_, _, ?_, hrun, hended, _, _, rfl, ?_, ⟨_, rfl⟩, hW, hsame.mono (by decide) (by decide)⟩
    · show own_S p e below s₁ (mkF m 2 #[iv u1, iv u2] [(.int u2), (.int u1)]) _
      refine XS.icmpYes X0.here hx rfl (pc0 := 2) (pc' := 9) rfl (hb hby d14_2) rfl (tlt hc2_1).1 (by decide) (by decide) ?_
      refine XS.iloadN X0.here hx rfl (hb hby d14_9) rfl ?_
      show own_S p e below s₁ (mkF m 10 #[iv u1, iv u2] [(.int u2)]) _
      exact retI X0 hx Bd.returns (hb hby d14_10) hr
    · show Q14 Z u1 u2 r1 h0 n0 _ s₁.heap _
      rw [e0]
      exact ⟨by rw [hr1, if_pos hc2_1], N0, rfl⟩
  · obtain ⟨fs, hr, hrun, hended, hW, hsame⟩ := X0.leave (v := some (.int u1)) (fun h => by rw [Bd.returns] at h; cases h)
    refine ⟨_, _, ?_, hrun, hended, _, _, rfl, ?_, ⟨_, rfl⟩, hW, hsame.mono (by decide) (by decide)⟩
    · show own_S p e below s₁ (mkF m 2 #[iv u1, iv u2] [(.int u2), (.int u1)]) _
      refine XS.icmpNo X0.here hx rfl (hb hby d14_2) rfl (flt hc2_1).1 ?_
      refine XS.iloadN X0.here hx rfl (hb hby d14_5) rfl ?_
      refine XS.goto X0.here hx rfl (pc0 := 6) (pc' := 10) rfl (hb hby d14_6) (by decide) (by decide) ?_
      show own_S p e below s₁ (mkF m 10 #[iv u1, iv u2] [(.int u1)]) _
      exact retI X0 hx Bd.returns (hb hby d14_10) hr
    · show Q14 Z u1 u2 r1 h0 n0 _ s₁.heap _
      rw [e0]
      exact ⟨by rw [hr1, if_neg hc2_1], N0, rfl⟩
theorem d15_0 : decode jdk_29_method_69_code 0 = .ok (.iload_n 0, 1) := by decide +kernel
theorem d15_1 : decode jdk_29_method_69_code 1 = .ok (.iload_n 1, 1) := by decide +kernel
theorem d15_2 : decode jdk_29_method_69_code 2 = .ok (.if_icmp .gt 7, 3) := by decide +kernel
theorem d15_5 : decode jdk_29_method_69_code 5 = .ok (.iload_n 0, 1) := by decide +kernel
theorem d15_6 : decode jdk_29_method_69_code 6 = .ok (.goto 4, 3) := by decide +kernel
theorem d15_9 : decode jdk_29_method_69_code 9 = .ok (.iload_n 1, 1) := by decide +kernel
theorem d15_10 : decode jdk_29_method_69_code 10 = .ok (.ireturn, 1) := by decide +kernel
theorem ef_15 (m : MethodId) (x0 : Int32) (x1 : Int32) : entryFrame m #[(.int x0), (.int x1)] 2 = mkF m 0 #[.val (.int x0), .val (.int x1)] [] := by first | (simp [entryFrame, mkF, argsToLocals, Value.category]; done) | rfl
def Q15 (Z : State) (u1 : Int32) (u2 : Int32) (r1 : Int32) (h0 : Heap) (n0 : Nat) (v : Option Value) (h : Heap) (L : List Loc) : Prop := v = some (.int r1) ∧ Fr n0 L ∧ h = h0
set_option maxRecDepth 65536 in
set_option maxHeartbeats 40000000 in
theorem rm15 (l : Launch) (Z : State) (a0 : Array Value) (hw : ∀ d ∈ tables_1, d.before a0 Z = true) (ws : List Jvm.Cond) (u1 : Int32) (u2 : Int32) (r1 : Int32) (h0 : Heap) (n0 : Nat) (Z0 : n0 ≤ h0.size) (hr1 : r1 = (if u2 < u1 then u2 else u1)) :
    MetFree l own_y14 (head1 (Jvm.Cond.code own_y14 jdk_29_method_69_code 2 (some .int) :: ws) ({ frames := 0, cells := 0, slots := 0, locals := 0 } : Room)) (fun a U => a = #[(.int u1), (.int u2)] ∧ Z.Warmed39 U.vm ∧ U.heap = h0) (fun _ _ _ _ _ => True) (fun _ U o U' => ∃ v L, o = .returned v ∧ Q15 Z u1 u2 r1 h0 n0 v U'.heap L ∧ FrameEnd U o U' L ({ frames := 0, cells := 0, slots := 0, locals := 0 } : Room).cells ({ frames := 0, cells := 0, slots := 0, locals := 0 } : Room).slots) := by
  refine MetFree.of_bodySF (Jvm.Free.JP.mathPlain rfl (by decide +kernel)) hisR ?_
  intro p e s m args below meth c s₁ Bd hml0 hP hK
  obtain ⟨rfl, hZ, hh⟩ := hP
  have hx := Bd.exec
  have hby := Bd.bytes
  have hml : c.maxLocals = 2 := hml0
  have hown : s.vm.findClass "java/lang/Math" = some m.cls := findClass_of_methodNamed Bd.named
  have hnm := (name_of_methodNamed Bd.named Bd.method).1
  have X0 : Stand p l e ({ frames := 0, cells := 0, slots := 0, locals := 0 } : Room) s m #[(.int u1), (.int u2)] below meth c s₁ [] 0 0 := Stand.of_body Bd
  have e0 : s₁.heap = h0 := by rw [← hh, Bd.state]; rfl
  have N0 := Fr.nil n0
  refine own_go (B := s₁.setTop (mkF m 0 #[iv u1, iv u2] [])) (fun t k => castTop (ef_15 m u1 u2) k) ?_
  refine own_go (B := s₁.setTop (mkF m 2 #[iv u1, iv u2] [(.int u2), (.int u1)])) (fun t k => ?_) ?_
  · show own_S p e below s₁ (mkF m 0 #[iv u1, iv u2] []) _
    refine XS.iloadN X0.here hx rfl (hb hby d15_0) rfl ?_
    refine XS.iloadN X0.here hx rfl (hb hby d15_1) rfl ?_
    exact k
  by_cases hc2_1 : u2 < u1
  · obtain ⟨fs, hr, hrun, hended, hW, hsame⟩ := X0.leave (v := some (.int u2)) (fun h => by rw [Bd.returns] at h; cases h)
    refine ⟨_, _, ?_, hrun, hended, _, _, rfl, ?_, ⟨_, rfl⟩, hW, hsame.mono (by decide) (by decide)⟩
    · show own_S p e below s₁ (mkF m 2 #[iv u1, iv u2] [(.int u2), (.int u1)]) _
      refine XS.icmpYes X0.here hx rfl (pc0 := 2) (pc' := 9) rfl (hb hby d15_2) rfl (tlt hc2_1).2.2.1 (by decide) (by decide) ?_
      refine XS.iloadN X0.here hx rfl (hb hby d15_9) rfl ?_
      show own_S p e below s₁ (mkF m 10 #[iv u1, iv u2] [(.int u2)]) _
      exact retI X0 hx Bd.returns (hb hby d15_10) hr
    · show Q15 Z u1 u2 r1 h0 n0 _ s₁.heap _
      rw [e0]
      exact ⟨by rw [hr1, if_pos hc2_1], N0, rfl⟩
  · obtain ⟨fs, hr, hrun, hended, hW, hsame⟩ := X0.leave (v := some (.int u1)) (fun h => by rw [Bd.returns] at h; cases h)
    refine ⟨_, _, ?_, hrun, hended, _, _, rfl, ?_, ⟨_, rfl⟩, hW, hsame.mono (by decide) (by decide)⟩
    · show own_S p e below s₁ (mkF m 2 #[iv u1, iv u2] [(.int u2), (.int u1)]) _
      refine XS.icmpNo X0.here hx rfl (hb hby d15_2) rfl (flt hc2_1).2.2.1 ?_
      refine XS.iloadN X0.here hx rfl (hb hby d15_5) rfl ?_
      refine XS.goto X0.here hx rfl (pc0 := 6) (pc' := 10) rfl (hb hby d15_6) (by decide) (by decide) ?_
      show own_S p e below s₁ (mkF m 10 #[iv u1, iv u2] [(.int u1)]) _
      exact retI X0 hx Bd.returns (hb hby d15_10) hr
    · show Q15 Z u1 u2 r1 h0 n0 _ s₁.heap _
      rw [e0]
      exact ⟨by rw [hr1, if_neg hc2_1], N0, rfl⟩
theorem pn_24 : plainName "jdk/internal/util/Preconditions" = true := by first | (simp [plainName, overriddenIn]; done) | decide +kernel
theorem d24_0 : decode jdk_41_method_12_code 0 = .ok (.iload_n 0, 1) := by decide +kernel
theorem d24_1 : decode jdk_41_method_12_code 1 = .ok (.ifCond .lt 13, 3) := by decide +kernel
theorem d24_4 : decode jdk_41_method_12_code 4 = .ok (.iload_n 0, 1) := by decide +kernel
theorem d24_5 : decode jdk_41_method_12_code 5 = .ok (.iload_n 1, 1) := by decide +kernel
theorem d24_6 : decode jdk_41_method_12_code 6 = .ok (.if_icmp .gt 8, 3) := by decide +kernel
theorem d24_9 : decode jdk_41_method_12_code 9 = .ok (.iload_n 1, 1) := by decide +kernel
theorem d24_10 : decode jdk_41_method_12_code 10 = .ok (.iload_n 2, 1) := by decide +kernel
theorem d24_11 : decode jdk_41_method_12_code 11 = .ok (.if_icmp .le 11, 3) := by decide +kernel
theorem d24_22 : decode jdk_41_method_12_code 22 = .ok (.iload_n 0, 1) := by decide +kernel
theorem d24_23 : decode jdk_41_method_12_code 23 = .ok (.ireturn, 1) := by decide +kernel
theorem ef_24 (m : MethodId) (x0 : Int32) (x1 : Int32) (x2 : Int32) (x3 : Value) (hx3 : x3.isRef = true) : entryFrame m #[(.int x0), (.int x1), (.int x2), x3] 4 = mkF m 0 #[.val (.int x0), .val (.int x1), .val (.int x2), .val x3] [] := by rcases ref_cases hx3 with rfl | ⟨y3, rfl⟩ <;> first | (simp [entryFrame, mkF, argsToLocals, Value.category]; done) | rfl
def Q24 (Z : State) (p1 : Int32) (p2 : Int32) (p3 : Int32) (GF : Value) (h0 : Heap) (n0 : Nat) (v : Option Value) (h : Heap) (L : List Loc) : Prop := v = some (.int p1) ∧ Fr n0 L ∧ h = h0
set_option maxRecDepth 65536 in
set_option maxHeartbeats 40000000 in
theorem rm24 (l : Launch) (Z : State) (a0 : Array Value) (hw : ∀ d ∈ tables_1, d.before a0 Z = true) (ws : List Jvm.Cond) (p1 : Int32) (p2 : Int32) (p3 : Int32) (GF : Value) (h0 : Heap) (n0 : Nat) (Z0 : n0 ≤ h0.size) (is_GF : GF.isRef = true) (hq : ¬ p1 < 0 ∧ ¬ p2 < p1 ∧ ¬ p3 < p2) :
    MetFree l own_y15 (head1 (Jvm.Cond.code own_y15 jdk_41_method_12_code 4 (some .int) :: ws) ({ frames := 0, cells := 0, slots := 0, locals := 0 } : Room)) (fun a U => a = #[(.int p1), (.int p2), (.int p3), GF] ∧ Z.Warmed39 U.vm ∧ U.heap = h0) (fun _ _ _ _ _ => True) (fun _ U o U' => ∃ v L, o = .returned v ∧ Q24 Z p1 p2 p3 GF h0 n0 v U'.heap L ∧ FrameEnd U o U' L ({ frames := 0, cells := 0, slots := 0, locals := 0 } : Room).cells ({ frames := 0, cells := 0, slots := 0, locals := 0 } : Room).slots) := by
  refine MetFree.of_bodySF (plainFor_of_name pn_24) hisR ?_
  intro p e s m args below meth c s₁ Bd hml0 hP hK
  obtain ⟨rfl, hZ, hh⟩ := hP
  have hx := Bd.exec
  have hby := Bd.bytes
  have hml : c.maxLocals = 4 := hml0
  have hown : s.vm.findClass "jdk/internal/util/Preconditions" = some m.cls := findClass_of_methodNamed Bd.named
  have hnm := (name_of_methodNamed Bd.named Bd.method).1
  have X0 : Stand p l e ({ frames := 0, cells := 0, slots := 0, locals := 0 } : Room) s m #[(.int p1), (.int p2), (.int p3), GF] below meth c s₁ [] 0 0 := Stand.of_body Bd
  have e0 : s₁.heap = h0 := by rw [← hh, Bd.state]; rfl
  have N0 := Fr.nil n0
  refine own_go (B := s₁.setTop (mkF m 0 #[iv p1, iv p2, iv p3, .val GF] [])) (fun t k => castTop (ef_24 m p1 p2 p3 GF is_GF) k) ?_
  obtain ⟨fs, hr, hrun, hended, hW, hsame⟩ := X0.leave (v := some (.int p1)) (fun h => by rw [Bd.returns] at h; cases h)
  refine ⟨_, _, ?_, hrun, hended, _, _, rfl, ?_, ⟨_, rfl⟩, hW, hsame.mono (by decide) (by decide)⟩
  · show own_S p e below s₁ (mkF m 0 #[iv p1, iv p2, iv p3, .val GF] []) _
    refine XS.iloadN X0.here hx rfl (hb hby d24_0) rfl ?_
    refine XS.ifNo X0.here hx rfl (hb hby d24_1) rfl ((if0 _ _).trans (flt hq.1).1) ?_
    refine XS.iloadN X0.here hx rfl (hb hby d24_4) rfl ?_
    show own_S p e below s₁ (mkF m 5 #[iv p1, iv p2, iv p3, .val GF] [(.int p1)]) _
    refine XS.iloadN X0.here hx rfl (hb hby d24_5) rfl ?_
    refine XS.icmpNo X0.here hx rfl (hb hby d24_6) rfl (flt hq.2.1).2.2.1 ?_
    refine XS.iloadN X0.here hx rfl (hb hby d24_9) rfl ?_
    show own_S p e below s₁ (mkF m 10 #[iv p1, iv p2, iv p3, .val GF] [(.int p2)]) _
    refine XS.iloadN X0.here hx rfl (hb hby d24_10) rfl ?_
    refine XS.icmpYes X0.here hx rfl (pc0 := 11) (pc' := 22) rfl (hb hby d24_11) rfl (flt hq.2.2).2.2.2 (by decide) (by decide) ?_
    refine XS.iloadN X0.here hx rfl (hb hby d24_22) rfl ?_
    show own_S p e below s₁ (mkF m 23 #[iv p1, iv p2, iv p3, .val GF] [(.int p1)]) _
    exact retI X0 hx Bd.returns (hb hby d24_23) hr
  · show Q24 Z p1 p2 p3 GF h0 n0 _ s₁.heap _
    rw [e0]
    exact ⟨rfl, N0, rfl⟩
theorem pn_23 : plainName "java/lang/String" = true := by first | (simp [plainName, overriddenIn]; done) | decide +kernel
theorem d23_0 : decode jdk_42_method_158_code 0 = .ok (.iload_n 0, 1) := by decide +kernel
theorem d23_1 : decode jdk_42_method_158_code 1 = .ok (.iload_n 1, 1) := by decide +kernel
theorem d23_2 : decode jdk_42_method_158_code 2 = .ok (.iload_n 2, 1) := by decide +kernel
theorem d23_3 : decode jdk_42_method_158_code 3 = .ok (.getstatic 1053, 3) := by decide +kernel
theorem d23_6 : decode jdk_42_method_158_code 6 = .ok (.invokestatic 1062, 3) := by decide +kernel
theorem d23_9 : decode jdk_42_method_158_code 9 = .ok (.pop, 1) := by decide +kernel
theorem d23_10 : decode jdk_42_method_158_code 10 = .ok (.return_, 1) := by decide +kernel
theorem ef_23 (m : MethodId) (x0 : Int32) (x1 : Int32) (x2 : Int32) : entryFrame m #[(.int x0), (.int x1), (.int x2)] 3 = mkF m 0 #[.val (.int x0), .val (.int x1), .val (.int x2)] [] := by first | (simp [entryFrame, mkF, argsToLocals, Value.category]; done) | rfl
def Q23 (Z : State) (p1 : Int32) (p2 : Int32) (p3 : Int32) (GF : Value) (h0 : Heap) (n0 : Nat) (v : Option Value) (h : Heap) (L : List Loc) : Prop := v = none ∧ Fr n0 L ∧ h = h0
set_option maxRecDepth 65536 in
set_option maxHeartbeats 40000000 in
theorem rm23 (l : Launch) (Z : State) (a0 : Array Value) (hw : ∀ d ∈ tables_1, d.before a0 Z = true) (ws : List Jvm.Cond) (p1 : Int32) (p2 : Int32) (p3 : Int32) (GF : Value) (h0 : Heap) (n0 : Nat) (Z0 : n0 ≤ h0.size) (S_F : Sta Z Z.heap "jdk/internal/util/Preconditions" "SIOOBE_FORMATTER" "Ljava/util/function/BiFunction;" GF) (is_GF : GF.isRef = true) (O0 : Old Z n0 h0) (hq : ¬ p1 < 0 ∧ ¬ p2 < p1 ∧ ¬ p3 < p2) :
    MetFree l own_y16 (head1 (Jvm.Cond.code own_y16 jdk_42_method_158_code 3 none :: ws) ({ frames := 1, cells := 0, slots := 0, locals := 15 } : Room)) (fun a U => a = #[(.int p1), (.int p2), (.int p3)] ∧ Z.Warmed39 U.vm ∧ U.heap = h0) (fun _ _ _ _ _ => True) (fun _ U o U' => ∃ v L, o = .returned v ∧ Q23 Z p1 p2 p3 GF h0 n0 v U'.heap L ∧ FrameEnd U o U' L ({ frames := 1, cells := 0, slots := 0, locals := 15 } : Room).cells ({ frames := 1, cells := 0, slots := 0, locals := 15 } : Room).slots) := by
  refine MetFree.of_bodySF (plainFor_of_name pn_23) hisR ?_
  intro p e s m args below meth c s₁ Bd hml0 hP hK
  obtain ⟨rfl, hZ, hh⟩ := hP
  have hx := Bd.exec
  have hby := Bd.bytes
  have hml : c.maxLocals = 3 := hml0
  have hown : s.vm.findClass "java/lang/String" = some m.cls := findClass_of_methodNamed Bd.named
  have hnm := (name_of_methodNamed Bd.named Bd.method).1
  have X0 : Stand p l e ({ frames := 1, cells := 0, slots := 0, locals := 15 } : Room) s m #[(.int p1), (.int p2), (.int p3)] below meth c s₁ [] 0 0 := Stand.of_body Bd
  have e0 : s₁.heap = h0 := by rw [← hh, Bd.state]; rfl
  have N0 := Fr.nil n0
  refine own_go (B := s₁.setTop (mkF m 0 #[iv p1, iv p2, iv p3] [])) (fun t k => castTop (ef_23 m p1 p2 p3) k) ?_
  refine own_go (B := s₁.setTop (mkF m 3 #[iv p1, iv p2, iv p3] [(.int p3), (.int p2), (.int p1)])) (fun t k => ?_) ?_
  · show own_S p e below s₁ (mkF m 0 #[iv p1, iv p2, iv p3] []) _
    refine XS.iloadN X0.here hx rfl (hb hby d23_0) rfl ?_
    refine XS.iloadN X0.here hx rfl (hb hby d23_1) rfl ?_
    refine XS.iloadN X0.here hx rfl (hb hby d23_2) rfl ?_
    exact k
  obtain ⟨T1, X1, e1, st1⟩ := getS2 X0 hx hZ hown (host := "") (Or.inl (own_w hw 105 rfl)) Via.refl e0 (S_F.ext O0.2) (g := (mkF m 3 #[iv p1, iv p2, iv p3] [(.int p3), (.int p2), (.int p1)])) rfl (hb hby d23_3)
  refine own_go (B := T1.setTop (mkF m 6 #[iv p1, iv p2, iv p3] [GF, (.int p3), (.int p2), (.int p1)])) (fun t k => st1 _ k) ?_
  obtain ⟨_, _, ⟨T2, L2, k2, n2⟩, -, X2, ⟨Lc2, hQ2, l2, y2, z2⟩, st2⟩ := Jvm.LawKit.callS X1 hx (y := own_y15) hown (mvT hZ (own_w hw 107 rfl)) (mvT hZ (own_w hw 108 rfl)) (mvT hZ (own_w hw 106 rfl)) (mvT hZ (own_w hw 109 rfl)) (by decide) (backOf (W := 0) (rm24 l Z a0 hw [] p1 p2 p3 GF h0 n0 Z0 is_GF hq) hZ (own_w hw 109 rfl) (own_w hw 106 rfl) (by decide) (by decide)) (g := (mkF m 6 #[iv p1, iv p2, iv p3] [GF, (.int p3), (.int p2), (.int p1)])) rfl (by rw [hml]; rfl) (argsL := [(.int p1), (.int p2), (.int p3), GF]) (rest := []) (lenOf own_pd9 rfl) rfl (by show 2 * 0 + _ ≤ _; exact Nat.le_of_eq rfl) (hb hby d23_6) (fun _ _ => ⟨rfl, e1, (by decide : 0 + 0 ≤ _), (by decide : 0 + 0 ≤ _)⟩)
  dsimp only [Pt.U, Pt.locs, Pt.cells, Pt.slots] at X2 l2 y2 z2 st2 hQ2
  subst l2 y2 z2
  obtain ⟨rfl, N2q, eq2⟩ := hQ2
  have N2 := Fr.app N0 N2q
  refine own_go (B := T2.setTop (mkF m 9 #[iv p1, iv p2, iv p3] [(.int p1)])) (fun t k => st2 _ k) ?_
  obtain ⟨fs, hr, hrun, hended, hW, hsame⟩ := X2.leave (v := none) (fun _ => rfl)
  refine ⟨_, _, ?_, hrun, hended, _, _, rfl, ?_, ⟨_, rfl⟩, hW, hsame.mono (by decide) (by decide)⟩
  · show own_S p e below T2 (mkF m 9 #[iv p1, iv p2, iv p3] [(.int p1)]) _
    refine XS.pop X2.here hx rfl (hb hby d23_9) rfl rfl ?_
    show own_S p e below T2 (mkF m 10 #[iv p1, iv p2, iv p3] []) _
    exact X2.returnOut hx Bd.returns (hb hby d23_10) hr
  · show Q23 Z p1 p2 p3 GF h0 n0 _ T2.heap _
    rw [eq2]
    exact ⟨rfl, N2, rfl⟩
theorem pn_28 : plainName "java/util/Arrays" = true := by first | (simp [plainName, overriddenIn]; done) | decide +kernel
theorem d28_0 : decode jdk_65_method_131_code 0 = .ok (.iload_n 1, 1) := by decide +kernel
theorem d28_1 : decode jdk_65_method_131_code 1 = .ok (.iload_n 0, 1) := by decide +kernel
theorem d28_2 : decode jdk_65_method_131_code 2 = .ok (.if_icmp .ge 35, 3) := by decide +kernel
theorem d28_37 : decode jdk_65_method_131_code 37 = .ok (.return_, 1) := by decide +kernel
theorem ef_28 (m : MethodId) (x0 : Int32) (x1 : Int32) : entryFrame m #[(.int x0), (.int x1)] 2 = mkF m 0 #[.val (.int x0), .val (.int x1)] [] := by first | (simp [entryFrame, mkF, argsToLocals, Value.category]; done) | rfl
def Q28 (Z : State) (p1 : Int32) (p2 : Int32) (h0 : Heap) (n0 : Nat) (v : Option Value) (h : Heap) (L : List Loc) : Prop := v = none ∧ Fr n0 L ∧ h = h0
set_option maxRecDepth 65536 in
set_option maxHeartbeats 40000000 in
theorem rm28 (l : Launch) (Z : State) (a0 : Array Value) (hw : ∀ d ∈ tables_1, d.before a0 Z = true) (ws : List Jvm.Cond) (p1 : Int32) (p2 : Int32) (h0 : Heap) (n0 : Nat) (Z0 : n0 ≤ h0.size) (hq : ¬ p2 < p1) :
    MetFree l own_y17 (head1 (Jvm.Cond.code own_y17 jdk_65_method_131_code 2 none :: ws) ({ frames := 0, cells := 0, slots := 0, locals := 0 } : Room)) (fun a U => a = #[(.int p1), (.int p2)] ∧ Z.Warmed39 U.vm ∧ U.heap = h0) (fun _ _ _ _ _ => True) (fun _ U o U' => ∃ v L, o = .returned v ∧ Q28 Z p1 p2 h0 n0 v U'.heap L ∧ FrameEnd U o U' L ({ frames := 0, cells := 0, slots := 0, locals := 0 } : Room).cells ({ frames := 0, cells := 0, slots := 0, locals := 0 } : Room).slots) := by
  refine MetFree.of_bodySF (plainFor_of_name pn_28) hisR ?_
  intro p e s m args below meth c s₁ Bd hml0 hP hK
  obtain ⟨rfl, hZ, hh⟩ := hP
  have hx := Bd.exec
  have hby := Bd.bytes
  have hml : c.maxLocals = 2 := hml0
  have hown : s.vm.findClass "java/util/Arrays" = some m.cls := findClass_of_methodNamed Bd.named
  have hnm := (name_of_methodNamed Bd.named Bd.method).1
  have X0 : Stand p l e ({ frames := 0, cells := 0, slots := 0, locals := 0 } : Room) s m #[(.int p1), (.int p2)] below meth c s₁ [] 0 0 := Stand.of_body Bd
  have e0 : s₁.heap = h0 := by rw [← hh, Bd.state]; rfl
  have N0 := Fr.nil n0
  refine own_go (B := s₁.setTop (mkF m 0 #[iv p1, iv p2] [])) (fun t k => castTop (ef_28 m p1 p2) k) ?_
  obtain ⟨fs, hr, hrun, hended, hW, hsame⟩ := X0.leave (v := none) (fun _ => rfl)
  refine ⟨_, _, ?_, hrun, hended, _, _, rfl, ?_, ⟨_, rfl⟩, hW, hsame.mono (by decide) (by decide)⟩
  · show own_S p e below s₁ (mkF m 0 #[iv p1, iv p2] []) _
    refine XS.iloadN X0.here hx rfl (hb hby d28_0) rfl ?_
    refine XS.iloadN X0.here hx rfl (hb hby d28_1) rfl ?_
    refine XS.icmpYes X0.here hx rfl (pc0 := 2) (pc' := 37) rfl (hb hby d28_2) rfl (flt hq).2.1 (by decide) (by decide) ?_
    show own_S p e below s₁ (mkF m 37 #[iv p1, iv p2] []) _
    exact X0.returnOut hx Bd.returns (hb hby d28_37) hr
  · show Q28 Z p1 p2 h0 n0 _ s₁.heap _
    rw [e0]
    exact ⟨rfl, N0, rfl⟩
theorem pn_29 : plainName "java/lang/String" = true := by first | (simp [plainName, overriddenIn]; done) | decide +kernel
theorem d29_0 : decode jdk_42_method_151_code 0 = .ok (.aload_n 0, 1) := by decide +kernel
theorem d29_1 : decode jdk_42_method_151_code 1 = .ok (.invokespecial 1, 3) := by decide +kernel
theorem d29_4 : decode jdk_42_method_151_code 4 = .ok (.aload_n 0, 1) := by decide +kernel
theorem d29_5 : decode jdk_42_method_151_code 5 = .ok (.aload_n 1, 1) := by decide +kernel
theorem d29_6 : decode jdk_42_method_151_code 6 = .ok (.putfield 9, 3) := by decide +kernel
theorem d29_9 : decode jdk_42_method_151_code 9 = .ok (.aload_n 0, 1) := by decide +kernel
theorem d29_10 : decode jdk_42_method_151_code 10 = .ok (.iload_n 2, 1) := by decide +kernel
theorem d29_11 : decode jdk_42_method_151_code 11 = .ok (.putfield 15, 3) := by decide +kernel
theorem d29_14 : decode jdk_42_method_151_code 14 = .ok (.return_, 1) := by decide +kernel
theorem ef_29 (m : MethodId) (x0 : Addr) (x1 : Addr) (x2 : Int32) : entryFrame m #[(.ref x0), (.ref x1), (.int x2)] 3 = mkF m 0 #[.val (.ref x0), .val (.ref x1), .val (.int x2)] [] := by first | (simp [entryFrame, mkF, argsToLocals, Value.category]; done) | rfl
def Q29 (Z : State) (a1 : Addr) (a2 : Addr) (h0 : Heap) (n0 : Nat) (v : Option Value) (h : Heap) (L : List Loc) : Prop := v = none ∧ Fr n0 L ∧ Keep h0 h [a1] ∧ Exa Z h a1 "java/lang/String" ∧ Fld Z h a1 "java/lang/String" "coder" "B" (.int (0 : Int32)) ∧ Fld Z h a1 "java/lang/String" "value" "[B" (.ref a2)
set_option maxRecDepth 65536 in
set_option maxHeartbeats 40000000 in
theorem rm29 (l : Launch) (Z : State) (a0 : Array Value) (hw : ∀ d ∈ tables_1, d.before a0 Z = true) (ws : List Jvm.Cond) (a1 : Addr) (a2 : Addr) (h0 : Heap) (n0 : Nat) (Z0 : n0 ≤ h0.size) (E_a1 : Exa Z h0 a1 "java/lang/String") (g_a1 : n0 ≤ a1) (F_v : Fld Z h0 a1 "java/lang/String" "value" "[B" .null) (F_c : Fld Z h0 a1 "java/lang/String" "coder" "B" (.int (0 : Int32))) :
    MetFree l own_y18 (head1 (Jvm.Cond.code own_y18 jdk_42_method_151_code 3 none :: ws) ({ frames := 1, cells := 0, slots := 0, locals := 12 } : Room)) (fun a U => a = #[(.ref a1), (.ref a2), (.int 0)] ∧ Z.Warmed39 U.vm ∧ U.heap = h0) (fun _ _ _ _ _ => True) (fun _ U o U' => ∃ v L, o = .returned v ∧ Q29 Z a1 a2 h0 n0 v U'.heap L ∧ FrameEnd U o U' L ({ frames := 1, cells := 0, slots := 0, locals := 12 } : Room).cells ({ frames := 1, cells := 0, slots := 0, locals := 12 } : Room).slots) := by
  refine MetFree.of_bodySF (plainFor_of_name pn_29) hisR ?_
  intro p e s m args below meth c s₁ Bd hml0 hP hK
  obtain ⟨rfl, hZ, hh⟩ := hP
  have hx := Bd.exec
  have hby := Bd.bytes
  have hml : c.maxLocals = 3 := hml0
  have hown : s.vm.findClass "java/lang/String" = some m.cls := findClass_of_methodNamed Bd.named
  have hnm := (name_of_methodNamed Bd.named Bd.method).1
  have X0 : Stand p l e ({ frames := 1, cells := 0, slots := 0, locals := 12 } : Room) s m #[(.ref a1), (.ref a2), (.int 0)] below meth c s₁ [] 0 0 := Stand.of_body Bd
  have e0 : s₁.heap = h0 := by rw [← hh, Bd.state]; rfl
  have N0 := Fr.nil n0
  refine own_go (B := s₁.setTop (mkF m 0 #[rv a1, rv a2, iv 0] [])) (fun t k => castTop (ef_29 m a1 a2 (0 : Int32)) k) ?_
  refine own_go (B := s₁.setTop (mkF m 1 #[rv a1, rv a2, iv 0] [(.ref a1)])) (fun t k => ?_) ?_
  · show own_S p e below s₁ (mkF m 0 #[rv a1, rv a2, iv 0] []) _
    refine XS.aloadN X0.here hx rfl (hb hby d29_0) rfl rfl ?_
    exact k
  obtain ⟨T1, X1, e1, st1⟩ := initO X0 hx hZ hown (own_w hw 19 rfl) (own_w hw 20 rfl) (own_w hw 21 rfl) e0 (g := (mkF m 1 #[rv a1, rv a2, iv 0] [(.ref a1)])) rfl (by rw [hml]; rfl) rfl (hb hby d29_1) (by decide) (W := 0) (by show 2 * 0 + _ ≤ _; exact Nat.le_of_eq rfl) (by decide)
  refine own_go (B := T1.setTop (mkF m 4 #[rv a1, rv a2, iv 0] [])) (fun t k => st1 _ k) ?_
  refine own_go (B := T1.setTop (mkF m 6 #[rv a1, rv a2, iv 0] [(.ref a2), (.ref a1)])) (fun t k => ?_) ?_
  · show own_S p e below T1 (mkF m 4 #[rv a1, rv a2, iv 0] []) _
    refine XS.aloadN X1.here hx rfl (hb hby d29_4) rfl rfl ?_
    refine XS.aloadN X1.here hx rfl (hb hby d29_5) rfl rfl ?_
    exact k
  obtain ⟨T2, h2, X2, e2, W2, st2⟩ := putF X1 hx hZ hown (host := "") (Or.inl (own_w hw 28 rfl)) Via.refl e1 F_v E_a1 (Or.inr ⟨(own_w hw 24 rfl), rfl, hnm⟩) (own_w hw 10 rfl) (ty := (.array .byte)) (by decide) rfl rfl (g := (mkF m 6 #[rv a1, rv a2, iv 0] [(.ref a2), (.ref a1)])) rfl rfl (hb hby d29_6)
  have c2_E_a1 := E_a1.wr W2
  have c2_F_a1_value := F_v.same W2
  have c2_F_a1_coder := F_c.other W2 (Or.inr (slot_ne (Or.inr (own_w hw 25 rfl)) (Or.inr (own_w hw 24 rfl)) (by decide) (t := .byte) (t' := (.array .byte)) (by decide) (by decide)))
  have K2 := (Keep.refl h0 [a1]).wr W2 (Or.inl (List.mem_of_getElem? (i := 0) rfl))
  have N2 := Fr.snoc X2 N0 g_a1
  refine own_go (B := T2.setTop (mkF m 9 #[rv a1, rv a2, iv 0] [])) (fun t k => st2 _ k) ?_
  refine own_go (B := T2.setTop (mkF m 11 #[rv a1, rv a2, iv 0] [(.int 0), (.ref a1)])) (fun t k => ?_) ?_
  · show own_S p e below T2 (mkF m 9 #[rv a1, rv a2, iv 0] []) _
    refine XS.aloadN X2.here hx rfl (hb hby d29_9) rfl rfl ?_
    refine XS.iloadN X2.here hx rfl (hb hby d29_10) rfl ?_
    exact k
  obtain ⟨T3, h3, X3, e3, W3, st3⟩ := putFN X2 hx hZ hown (own_w hw 29 rfl) Via.refl e2 c2_F_a1_coder c2_E_a1 (Or.inr ⟨(own_w hw 25 rfl), rfl, hnm⟩) (own_w hw 10 rfl) (ty := .byte) (v' := (.int 0)) (by decide) rfl (by decide) (g := (mkF m 11 #[rv a1, rv a2, iv 0] [(.int 0), (.ref a1)])) rfl rfl (hb hby d29_11)
  have c3_E_a1 := c2_E_a1.wr W3
  have c3_F_a1_value := c2_F_a1_value.other W3 (Or.inr (slot_ne (Or.inr (own_w hw 24 rfl)) (Or.inr (own_w hw 25 rfl)) (by decide) (t := (.array .byte)) (t' := .byte) (by decide) (by decide)))
  have c3_F_a1_coder := c2_F_a1_coder.same W3
  have K3 := K2.wr W3 (Or.inl (List.mem_of_getElem? (i := 0) rfl))
  have N3 := Fr.snoc X3 N2 g_a1
  refine own_go (B := T3.setTop (mkF m 14 #[rv a1, rv a2, iv 0] [])) (fun t k => st3 _ k) ?_
  obtain ⟨fs, hr, hrun, hended, hW, hsame⟩ := X3.leave (v := none) (fun _ => rfl)
  refine ⟨_, _, ?_, hrun, hended, _, _, rfl, ?_, ⟨_, rfl⟩, hW, hsame.mono (by decide) (by decide)⟩
  · show own_S p e below T3 (mkF m 14 #[rv a1, rv a2, iv 0] []) _
    exact X3.returnOut hx Bd.returns (hb hby d29_14) hr
  · show Q29 Z a1 a2 h0 n0 _ T3.heap _
    rw [e3]
    exact ⟨rfl, N3, K3, c3_E_a1, c3_F_a1_coder, c3_F_a1_value⟩
def own_QS (Z : State) (m : Int32) (us : List Value) (h0 : Heap) (n0 : Nat) (v : Option Value) (h : Heap) (L : List Loc) : Prop := ∃ (a b : Addr) (kq : ClassId), v = some (.ref a) ∧ Fr n0 L ∧ Keep h0 h [] ∧ Exa Z h a "java/lang/String" ∧ Fld Z h a "java/lang/String" "coder" "B" (.int (0 : Int32)) ∧ Fld Z h a "java/lang/String" "value" "[B" (.ref b) ∧ Arv Z h b kq .byte m us (.int (0 : Int32))
def own_QA (Z : State) (m : Int32) (us : List Value) (h0 : Heap) (n0 : Nat) (v : Option Value) (h : Heap) (L : List Loc) : Prop := ∃ (b : Addr) (kq : ClassId), v = some (.ref b) ∧ Fr n0 L ∧ Keep h0 h [] ∧ h0.size ≤ b ∧ n0 ≤ b ∧ Arv Z h b kq .byte m us (.int (0 : Int32))
def own_QI (r : Int32) (h0 : Heap) (n0 : Nat) (v : Option Value) (h : Heap) (L : List Loc) : Prop := v = some (.int r) ∧ Fr n0 L ∧ h = h0
theorem pn_26 : plainName "java/util/Arrays" = true := by first | (simp [plainName, overriddenIn]; done) | decide +kernel
theorem d26_0 : decode jdk_65_method_132_code 0 = .ok (.iload_n 1, 1) := by decide +kernel
theorem d26_1 : decode jdk_65_method_132_code 1 = .ok (.ifCond .ne 9, 3) := by decide +kernel
theorem d26_10 : decode jdk_65_method_132_code 10 = .ok (.aload_n 0, 1) := by decide +kernel
theorem d26_11 : decode jdk_65_method_132_code 11 = .ok (.iload_n 1, 1) := by decide +kernel
theorem d26_12 : decode jdk_65_method_132_code 12 = .ok (.iload_n 2, 1) := by decide +kernel
theorem d26_13 : decode jdk_65_method_132_code 13 = .ok (.invokestatic 339, 3) := by decide +kernel
theorem d26_16 : decode jdk_65_method_132_code 16 = .ok (.areturn, 1) := by decide +kernel
theorem ef_26 (m : MethodId) (x0 : Addr) (x1 : Int32) (x2 : Int32) : entryFrame m #[(.ref x0), (.int x1), (.int x2)] 3 = mkF m 0 #[.val (.ref x0), .val (.int x1), .val (.int x2)] [] := by first | (simp [entryFrame, mkF, argsToLocals, Value.category]; done) | rfl
def Q26 (Z : State) (sb1 : Addr) (p2 : Int32) (p3 : Int32) (m1 : Int32) (us : List Value) (h0 : Heap) (n0 : Nat) (v : Option Value) (h : Heap) (L : List Loc) : Prop := own_QA Z m1 us h0 n0 v h L
set_option maxRecDepth 65536 in
set_option maxHeartbeats 40000000 in
theorem rm26 (l : Launch) (Z : State) (a0 : Array Value) (hw : ∀ d ∈ tables_1, d.before a0 Z = true) (ws : List Jvm.Cond) (sb1 : Addr) (p2 : Int32) (p3 : Int32) (m1 : Int32) (us : List Value) (h0 : Heap) (n0 : Nat) (Z0 : n0 ≤ h0.size) (hk : ¬ p2 = (0 : Int32)) (hM : MetFree l own_y19 (head1 (Jvm.Cond.code own_y19 jdk_65_method_133_code 5 (some (.array .byte)) :: []) ({ frames := 1, cells := 1, slots := 4, locals := 18 } : Room)) (fun a U => a = #[(.ref sb1), (.int p2), (.int p3)] ∧ Z.Warmed39 U.vm ∧ U.heap = h0) (fun _ _ _ _ _ => True) (fun _ U o U' => ∃ v L, o = .returned v ∧ own_QA Z m1 us h0 n0 v U'.heap L ∧ FrameEnd U o U' L ({ frames := 1, cells := 1, slots := 4, locals := 18 } : Room).cells ({ frames := 1, cells := 1, slots := 4, locals := 18 } : Room).slots)) :
    MetFree l own_y20 (head1 (Jvm.Cond.code own_y20 jdk_65_method_132_code 3 (some (.array .byte)) :: ws) ({ frames := 2, cells := 1, slots := 4, locals := 34 } : Room)) (fun a U => a = #[(.ref sb1), (.int p2), (.int p3)] ∧ Z.Warmed39 U.vm ∧ U.heap = h0) (fun _ _ _ _ _ => True) (fun _ U o U' => ∃ v L, o = .returned v ∧ Q26 Z sb1 p2 p3 m1 us h0 n0 v U'.heap L ∧ FrameEnd U o U' L ({ frames := 2, cells := 1, slots := 4, locals := 34 } : Room).cells ({ frames := 2, cells := 1, slots := 4, locals := 34 } : Room).slots) := by
  refine MetFree.of_bodySF (plainFor_of_name pn_26) hisR ?_
  intro p e s m args below meth c s₁ Bd hml0 hP hK
  obtain ⟨rfl, hZ, hh⟩ := hP
  have hx := Bd.exec
  have hby := Bd.bytes
  have hml : c.maxLocals = 3 := hml0
  have hown : s.vm.findClass "java/util/Arrays" = some m.cls := findClass_of_methodNamed Bd.named
  have hnm := (name_of_methodNamed Bd.named Bd.method).1
  have X0 : Stand p l e ({ frames := 2, cells := 1, slots := 4, locals := 34 } : Room) s m #[(.ref sb1), (.int p2), (.int p3)] below meth c s₁ [] 0 0 := Stand.of_body Bd
  have e0 : s₁.heap = h0 := by rw [← hh, Bd.state]; rfl
  have N0 := Fr.nil n0
  refine own_go (B := s₁.setTop (mkF m 0 #[rv sb1, iv p2, iv p3] [])) (fun t k => castTop (ef_26 m sb1 p2 p3) k) ?_
  refine own_go (B := s₁.setTop (mkF m 13 #[rv sb1, iv p2, iv p3] [(.int p3), (.int p2), (.ref sb1)])) (fun t k => ?_) ?_
  · show own_S p e below s₁ (mkF m 0 #[rv sb1, iv p2, iv p3] []) _
    refine XS.iloadN X0.here hx rfl (hb hby d26_0) rfl ?_
    refine XS.ifYes X0.here hx rfl (pc0 := 1) (pc' := 10) rfl (hb hby d26_1) rfl ((if0 _ _).trans (feq hk).2) (by decide) (by decide) ?_
    refine XS.aloadN X0.here hx rfl (hb hby d26_10) rfl rfl ?_
    show own_S p e below s₁ (mkF m 11 #[rv sb1, iv p2, iv p3] [(.ref sb1)]) _
    refine XS.iloadN X0.here hx rfl (hb hby d26_11) rfl ?_
    refine XS.iloadN X0.here hx rfl (hb hby d26_12) rfl ?_
    exact k
  obtain ⟨_, _, ⟨T1, L1, k1, n1⟩, -, X1, ⟨Lc1, hQ1, l1, y1, z1⟩, st1⟩ := Jvm.LawKit.callS X0 hx (y := own_y19) hown (mvT hZ (own_w hw 118 rfl)) (mvT hZ (own_w hw 119 rfl)) (mvT hZ (own_w hw 116 rfl)) (mvT hZ (own_w hw 120 rfl)) (by decide) (backOf (W := 0) (hM) hZ (own_w hw 120 rfl) (own_w hw 116 rfl) (by decide) (by decide)) (g := (mkF m 13 #[rv sb1, iv p2, iv p3] [(.int p3), (.int p2), (.ref sb1)])) rfl (by rw [hml]; rfl) (argsL := [(.ref sb1), (.int p2), (.int p3)]) (rest := []) (lenOf own_pd10 rfl) rfl (by show 2 * 0 + _ ≤ _; exact Nat.le_of_eq rfl) (hb hby d26_13) (fun _ _ => ⟨rfl, e0, (by decide : 0 + 1 ≤ _), (by decide : 0 + 4 ≤ _)⟩)
  dsimp only [Pt.U, Pt.locs, Pt.cells, Pt.slots] at X1 l1 y1 z1 st1 hQ1
  subst l1 y1 z1
  obtain ⟨bq1, kq1, rfl, N1q, K1q, q1z, q1g, V1q⟩ := hQ1
  have N1 := Fr.app N0 N1q
  have sz_bq1 : h0.size ≤ bq1 := Nat.le_trans ((Keep.refl h0 [])).1 q1z
  have g_bq1 : n0 ≤ bq1 := q1g
  have K1 := (Keep.refl h0 []).trans K1q all0
  refine own_go (B := T1.setTop (mkF m 16 #[rv sb1, iv p2, iv p3] [(.ref bq1)])) (fun t k => st1 _ k) ?_
  obtain ⟨fs, hr, hrun, hended, hW, hsame⟩ := X1.leave (v := some (.ref bq1)) (fun h => by rw [Bd.returns] at h; cases h)
  refine ⟨_, _, ?_, hrun, hended, _, _, rfl, ?_, ⟨_, rfl⟩, hW, hsame.mono (by decide) (by decide)⟩
  · show own_S p e below T1 (mkF m 16 #[rv sb1, iv p2, iv p3] [(.ref bq1)]) _
    jvm_step X1.here [X1.here.top, hx, (hb hby d26_16), X1.method', Bd.returns, Value.isRef, FieldType.isReference]
    first | (intro acts; rw [hr _ acts rfl rfl rfl]) | rw [hr _ _ rfl rfl rfl]
    exact Steps.refl _
  · show Q26 Z sb1 p2 p3 m1 us h0 n0 _ T1.heap _
    exact ⟨bq1, kq1, rfl, N1, K1, sz_bq1, g_bq1, V1q⟩
theorem pn_22 : plainName "java/lang/String" = true := by first | (simp [plainName, overriddenIn]; done) | decide +kernel
theorem d22_0 : decode jdk_42_method_92_code 0 = .ok (.aload_n 0, 1) := by decide +kernel
theorem d22_1 : decode jdk_42_method_92_code 1 = .ok (.invokevirtual 505, 3) := by decide +kernel
theorem d22_4 : decode jdk_42_method_92_code 4 = .ok (.istore_n 3, 1) := by decide +kernel
theorem d22_5 : decode jdk_42_method_92_code 5 = .ok (.iload_n 1, 1) := by decide +kernel
theorem d22_6 : decode jdk_42_method_92_code 6 = .ok (.iload_n 2, 1) := by decide +kernel
theorem d22_7 : decode jdk_42_method_92_code 7 = .ok (.iload_n 3, 1) := by decide +kernel
theorem d22_8 : decode jdk_42_method_92_code 8 = .ok (.invokestatic 521, 3) := by decide +kernel
theorem d22_11 : decode jdk_42_method_92_code 11 = .ok (.iload_n 1, 1) := by decide +kernel
theorem d22_12 : decode jdk_42_method_92_code 12 = .ok (.ifCond .ne 10, 3) := by decide +kernel
theorem d22_22 : decode jdk_42_method_92_code 22 = .ok (.iload_n 2, 1) := by decide +kernel
theorem d22_23 : decode jdk_42_method_92_code 23 = .ok (.iload_n 1, 1) := by decide +kernel
theorem d22_24 : decode jdk_42_method_92_code 24 = .ok (.isub, 1) := by decide +kernel
theorem d22_25 : decode jdk_42_method_92_code 25 = .ok (.istore 4, 2) := by decide +kernel
theorem d22_27 : decode jdk_42_method_92_code 27 = .ok (.aload_n 0, 1) := by decide +kernel
theorem d22_28 : decode jdk_42_method_92_code 28 = .ok (.invokevirtual 492, 3) := by decide +kernel
theorem d22_31 : decode jdk_42_method_92_code 31 = .ok (.ifCond .eq 16, 3) := by decide +kernel
theorem d22_34 : decode jdk_42_method_92_code 34 = .ok (.aload_n 0, 1) := by decide +kernel
theorem d22_35 : decode jdk_42_method_92_code 35 = .ok (.getfield 9, 3) := by decide +kernel
theorem d22_38 : decode jdk_42_method_92_code 38 = .ok (.iload_n 1, 1) := by decide +kernel
theorem d22_39 : decode jdk_42_method_92_code 39 = .ok (.iload 4, 2) := by decide +kernel
theorem d22_41 : decode jdk_42_method_92_code 41 = .ok (.invokestatic 685, 3) := by decide +kernel
theorem d22_44 : decode jdk_42_method_92_code 44 = .ok (.goto 13, 3) := by decide +kernel
theorem d22_57 : decode jdk_42_method_92_code 57 = .ok (.areturn, 1) := by decide +kernel
theorem ef_22 (m : MethodId) (x0 : Addr) (x1 : Int32) (x2 : Int32) : entryFrame m #[(.ref x0), (.int x1), (.int x2)] 5 = mkF m 0 #[.val (.ref x0), .val (.int x1), .val (.int x2), .unset, .unset] [] := by first | (simp [entryFrame, mkF, argsToLocals, Value.category]; done) | rfl
def Q22g (Z : State) (a1 : Addr) (p2 : Int32) (p3 : Int32) (sb1 : Addr) (kb : ClassId) (vs : List Value) (us : List Value) (GC : Int32) (GF : Value) (h0 : Heap) (n0 : Nat) (v : Option Value) (h : Heap) (L : List Loc) : Prop := own_QS Z (p3 - p2) us h0 n0 v h L
set_option maxRecDepth 65536 in
set_option maxHeartbeats 40000000 in
theorem rm22g (l : Launch) (Z : State) (a0 : Array Value) (hw : ∀ d ∈ tables_1, d.before a0 Z = true) (ws : List Jvm.Cond) (a1 : Addr) (p2 : Int32) (p3 : Int32) (sb1 : Addr) (kb : ClassId) (vs : List Value) (us : List Value) (GC : Int32) (GF : Value) (h0 : Heap) (n0 : Nat) (Z0 : n0 ≤ h0.size) (S_C : Sta Z Z.heap "java/lang/String" "COMPACT_STRINGS" "Z" (.int GC)) (hGC : ¬ GC = (0 : Int32)) (O0 : Old Z n0 h0) (S_F : Sta Z Z.heap "jdk/internal/util/Preconditions" "SIOOBE_FORMATTER" "Ljava/util/function/BiFunction;" GF) (is_GF : GF.isRef = true) (E_a1 : Exa Z h0 a1 "java/lang/String") (F_c : Fld Z h0 a1 "java/lang/String" "coder" "B" (.int (0 : Int32))) (F_v : Fld Z h0 a1 "java/lang/String" "value" "[B" (.ref sb1)) (V_b : Arv Z h0 sb1 kb .byte p3 vs (.int (0 : Int32))) (hk : ¬ p2 = (0 : Int32)) (hq : ¬ p2 < 0 ∧ ¬ p3 < p2 ∧ ¬ p3 < p3) (hM : MetFree l own_y21 (head1 (Jvm.Cond.code own_y21 jdk_43_method_47_code 3 (some (.object "java/lang/String")) :: []) ({ frames := 3, cells := 2, slots := 8, locals := 50 } : Room)) (fun a U => a = #[(.ref sb1), (.int p2), (.int (p3 - p2))] ∧ Z.Warmed39 U.vm ∧ U.heap = h0) (fun _ _ _ _ _ => True) (fun _ U o U' => ∃ v L, o = .returned v ∧ own_QS Z (p3 - p2) us h0 n0 v U'.heap L ∧ FrameEnd U o U' L ({ frames := 3, cells := 2, slots := 8, locals := 50 } : Room).cells ({ frames := 3, cells := 2, slots := 8, locals := 50 } : Room).slots)) :
    MetFree l own_y22 (head1 (Jvm.Cond.code own_y22 jdk_42_method_92_code 5 (some (.object "java/lang/String")) :: ws) ({ frames := 4, cells := 2, slots := 8, locals := 64 } : Room)) (fun a U => a = #[(.ref a1), (.int p2), (.int p3)] ∧ Z.Warmed39 U.vm ∧ U.heap = h0) (fun _ _ _ _ _ => True) (fun _ U o U' => ∃ v L, o = .returned v ∧ Q22g Z a1 p2 p3 sb1 kb vs us GC GF h0 n0 v U'.heap L ∧ FrameEnd U o U' L ({ frames := 4, cells := 2, slots := 8, locals := 64 } : Room).cells ({ frames := 4, cells := 2, slots := 8, locals := 64 } : Room).slots) := by
  refine MetFree.of_bodySF (plainFor_of_name pn_22) hisR ?_
  intro p e s m args below meth c s₁ Bd hml0 hP hK
  obtain ⟨rfl, hZ, hh⟩ := hP
  have hx := Bd.exec
  have hby := Bd.bytes
  have hml : c.maxLocals = 5 := hml0
  have hown : s.vm.findClass "java/lang/String" = some m.cls := findClass_of_methodNamed Bd.named
  have hnm := (name_of_methodNamed Bd.named Bd.method).1
  have X0 : Stand p l e ({ frames := 4, cells := 2, slots := 8, locals := 64 } : Room) s m #[(.ref a1), (.int p2), (.int p3)] below meth c s₁ [] 0 0 := Stand.of_body Bd
  have e0 : s₁.heap = h0 := by rw [← hh, Bd.state]; rfl
  have N0 := Fr.nil n0
  refine own_go (B := s₁.setTop (mkF m 0 #[rv a1, iv p2, iv p3, .unset, .unset] [])) (fun t k => castTop (ef_22 m a1 p2 p3) k) ?_
  refine own_go (B := s₁.setTop (mkF m 1 #[rv a1, iv p2, iv p3, .unset, .unset] [(.ref a1)])) (fun t k => ?_) ?_
  · show own_S p e below s₁ (mkF m 0 #[rv a1, iv p2, iv p3, .unset, .unset] []) _
    refine XS.aloadN X0.here hx rfl (hb hby d22_0) rfl rfl ?_
    exact k
  obtain ⟨cq1, kq1, q1a, q1b, q1c⟩ := isOf hZ e0 E_a1
  obtain ⟨_, _, ⟨T1, L1, k1, n1⟩, -, X1, ⟨Lc1, hQ1, l1, y1, z1⟩, st1⟩ := X0.virtualBack hx (y := own_y2) (z := own_y2) hown (mvT hZ (own_w hw 50 rfl)) (mvT hZ (own_w hw 51 rfl)) (notFace_of_selects (args := #[]) (mvT hZ (own_w hw 53 rfl))) (mvT hZ (own_w hw 53 rfl)) (mvT hZ (own_w hw 52 rfl)) (by decide) (backOf (W := 0) (rm10 l Z a0 hw [] a1 sb1 kb p3 vs (.int (0 : Int32)) GC h0 n0 Z0 S_C hGC O0 E_a1 F_c F_v V_b) hZ (own_w hw 54 rfl) (own_w hw 11 rfl) (by decide) (by decide)) q1a q1c (g := (mkF m 1 #[rv a1, iv p2, iv p3, .unset, .unset] [(.ref a1)])) rfl (by rw [hml]; rfl) (Steps.refl _) (argsL := []) (rest := []) (lenOf own_pd11 rfl) rfl (by show 2 * 0 + _ ≤ _; exact Nat.le_of_eq rfl) (hb hby d22_1) (fun _ _ => ⟨rfl, e0, (by decide : 0 + 0 ≤ _), (by decide : 0 + 0 ≤ _)⟩)
  dsimp only [Pt.U, Pt.locs, Pt.cells, Pt.slots] at X1 l1 y1 z1 st1 hQ1
  subst l1 y1 z1
  obtain ⟨rfl, N1q, eq1⟩ := hQ1
  have N1 := Fr.app N0 N1q
  refine own_go (B := T1.setTop (mkF m 4 #[rv a1, iv p2, iv p3, .unset, .unset] [(.int p3)])) (fun t k => st1.trans k) ?_
  refine own_go (B := T1.setTop (mkF m 8 #[rv a1, iv p2, iv p3, iv p3, .unset] [(.int p3), (.int p3), (.int p2)])) (fun t k => ?_) ?_
  · show own_S p e below T1 (mkF m 4 #[rv a1, iv p2, iv p3, .unset, .unset] [(.int p3)]) _
    refine XS.istoreN X1.here hx rfl (hb hby d22_4) rfl (l' := #[rv a1, iv p2, iv p3, iv p3, .unset]) rfl ?_
    refine XS.iloadN X1.here hx rfl (hb hby d22_5) rfl ?_
    refine XS.iloadN X1.here hx rfl (hb hby d22_6) rfl ?_
    show own_S p e below T1 (mkF m 7 #[rv a1, iv p2, iv p3, iv p3, .unset] [(.int p3), (.int p2)]) _
    refine XS.iloadN X1.here hx rfl (hb hby d22_7) rfl ?_
    exact k
  obtain ⟨_, _, ⟨T2, L2, k2, n2⟩, -, X2, ⟨Lc2, hQ2, l2, y2, z2⟩, st2⟩ := Jvm.LawKit.callS X1 hx (y := own_y16) hown (mvT hZ (own_w hw 102 rfl)) (mvT hZ (own_w hw 103 rfl)) (mvT hZ (own_w hw 11 rfl)) (mvT hZ (own_w hw 104 rfl)) (by decide) (backOf (W := 0) (rm23 l Z a0 hw [] p2 p3 p3 GF h0 n0 Z0 S_F is_GF O0 hq) hZ (own_w hw 104 rfl) (own_w hw 11 rfl) (by decide) (by decide)) (g := (mkF m 8 #[rv a1, iv p2, iv p3, iv p3, .unset] [(.int p3), (.int p3), (.int p2)])) rfl (by rw [hml]; rfl) (argsL := [(.int p2), (.int p3), (.int p3)]) (rest := []) (lenOf own_pd12 rfl) rfl (by show 2 * 0 + _ ≤ _; exact Nat.le_of_eq rfl) (hb hby d22_8) (fun _ _ => ⟨rfl, eq1, (by decide : 0 + 0 ≤ _), (by decide : 0 + 0 ≤ _)⟩)
  dsimp only [Pt.U, Pt.locs, Pt.cells, Pt.slots] at X2 l2 y2 z2 st2 hQ2
  subst l2 y2 z2
  obtain ⟨rfl, N2q, eq2⟩ := hQ2
  have N2 := Fr.app N1 N2q
  refine own_go (B := T2.setTop (mkF m 11 #[rv a1, iv p2, iv p3, iv p3, .unset] [])) (fun t k => st2 _ k) ?_
  refine own_go (B := T2.setTop (mkF m 28 #[rv a1, iv p2, iv p3, iv p3, iv (p3 - p2)] [(.ref a1)])) (fun t k => ?_) ?_
  · show own_S p e below T2 (mkF m 11 #[rv a1, iv p2, iv p3, iv p3, .unset] []) _
    refine XS.iloadN X2.here hx rfl (hb hby d22_11) rfl ?_
    refine XS.ifYes X2.here hx rfl (pc0 := 12) (pc' := 22) rfl (hb hby d22_12) rfl ((if0 _ _).trans (feq hk).2) (by decide) (by decide) ?_
    refine XS.iloadN X2.here hx rfl (hb hby d22_22) rfl ?_
    show own_S p e below T2 (mkF m 23 #[rv a1, iv p2, iv p3, iv p3, .unset] [(.int p3)]) _
    refine XS.iloadN X2.here hx rfl (hb hby d22_23) rfl ?_
    refine XS.isub X2.here hx rfl (hb hby d22_24) rfl ?_
    refine XS.istore X2.here hx rfl (hb hby d22_25) rfl (l' := #[rv a1, iv p2, iv p3, iv p3, iv (p3 - p2)]) rfl ?_
    show own_S p e below T2 (mkF m 27 #[rv a1, iv p2, iv p3, iv p3, iv (p3 - p2)] []) _
    refine XS.aloadN X2.here hx rfl (hb hby d22_27) rfl rfl ?_
    exact k
  obtain ⟨cq3, kq3, q3a, q3b, q3c⟩ := isOf hZ eq2 E_a1
  obtain ⟨_, _, ⟨T3, L3, k3, n3⟩, -, X3, ⟨Lc3, hQ3, l3, y3, z3⟩, st3⟩ := X2.virtualBack hx (y := own_y0) (z := own_y0) hown (mvT hZ (own_w hw 44 rfl)) (mvT hZ (own_w hw 45 rfl)) (notFace_of_selects (args := #[]) (mvT hZ (own_w hw 47 rfl))) (mvT hZ (own_w hw 47 rfl)) (mvT hZ (own_w hw 46 rfl)) (by decide) (backOf (W := 0) (rm9 l Z a0 hw [] a1 GC h0 n0 Z0 S_C hGC O0 F_c) hZ (own_w hw 48 rfl) (own_w hw 11 rfl) (by decide) (by decide)) q3a q3c (g := (mkF m 28 #[rv a1, iv p2, iv p3, iv p3, iv (p3 - p2)] [(.ref a1)])) rfl (by rw [hml]; rfl) (Steps.refl _) (argsL := []) (rest := []) (lenOf own_pd3 rfl) rfl (by show 2 * 0 + _ ≤ _; exact Nat.le_of_eq rfl) (hb hby d22_28) (fun _ _ => ⟨rfl, eq2, (by decide : 0 + 0 ≤ _), (by decide : 0 + 0 ≤ _)⟩)
  dsimp only [Pt.U, Pt.locs, Pt.cells, Pt.slots] at X3 l3 y3 z3 st3 hQ3
  subst l3 y3 z3
  obtain ⟨rfl, N3q, eq3⟩ := hQ3
  have N3 := Fr.app N2 N3q
  refine own_go (B := T3.setTop (mkF m 31 #[rv a1, iv p2, iv p3, iv p3, iv (p3 - p2)] [(.int 1)])) (fun t k => st3.trans k) ?_
  refine own_go (B := T3.setTop (mkF m 35 #[rv a1, iv p2, iv p3, iv p3, iv (p3 - p2)] [(.ref a1)])) (fun t k => ?_) ?_
  · show own_S p e below T3 (mkF m 31 #[rv a1, iv p2, iv p3, iv p3, iv (p3 - p2)] [(.int 1)]) _
    refine XS.ifNo X3.here hx rfl (hb hby d22_31) rfl ((if0 _ _).trans (feq (by decide)).1) ?_
    refine XS.aloadN X3.here hx rfl (hb hby d22_34) rfl rfl ?_
    exact k
  obtain ⟨T4, X4, e4, st4⟩ := getF X3 hx hZ hown (host := "") (Or.inl (own_w hw 28 rfl)) Via.refl eq3 F_v (g := (mkF m 35 #[rv a1, iv p2, iv p3, iv p3, iv (p3 - p2)] [(.ref a1)])) rfl rfl (hb hby d22_35)
  refine own_go (B := T4.setTop (mkF m 38 #[rv a1, iv p2, iv p3, iv p3, iv (p3 - p2)] [(.ref sb1)])) (fun t k => st4 _ k) ?_
  refine own_go (B := T4.setTop (mkF m 41 #[rv a1, iv p2, iv p3, iv p3, iv (p3 - p2)] [(.int (p3 - p2)), (.int p2), (.ref sb1)])) (fun t k => ?_) ?_
  · show own_S p e below T4 (mkF m 38 #[rv a1, iv p2, iv p3, iv p3, iv (p3 - p2)] [(.ref sb1)]) _
    refine XS.iloadN X4.here hx rfl (hb hby d22_38) rfl ?_
    refine XS.iload X4.here hx rfl (hb hby d22_39) rfl ?_
    exact k
  obtain ⟨_, _, ⟨T5, L5, k5, n5⟩, -, X5, ⟨Lc5, hQ5, l5, y5, z5⟩, st5⟩ := Jvm.LawKit.callS X4 hx (y := own_y21) hown (mvT hZ (own_w hw 110 rfl)) (mvT hZ (own_w hw 111 rfl)) (mvT hZ (own_w hw 62 rfl)) (mvT hZ (own_w hw 112 rfl)) (by decide) (backOf (W := 0) (hM) hZ (own_w hw 112 rfl) (own_w hw 62 rfl) (by decide) (by decide)) (g := (mkF m 41 #[rv a1, iv p2, iv p3, iv p3, iv (p3 - p2)] [(.int (p3 - p2)), (.int p2), (.ref sb1)])) rfl (by rw [hml]; rfl) (argsL := [(.ref sb1), (.int p2), (.int (p3 - p2))]) (rest := []) (lenOf own_pd13 rfl) rfl (by show 2 * 0 + _ ≤ _; exact Nat.le_of_eq rfl) (hb hby d22_41) (fun _ _ => ⟨rfl, e4, (by decide : 0 + 2 ≤ _), (by decide : 0 + 8 ≤ _)⟩)
  dsimp only [Pt.U, Pt.locs, Pt.cells, Pt.slots] at X5 l5 y5 z5 st5 hQ5
  subst l5 y5 z5
  obtain ⟨aq5, bq5, kq5, rfl, N5q, K5q, E5q, F5c, F5v, V5q⟩ := hQ5
  have N5 := Fr.app N3 N5q
  have c5_E_a1 := E_a1.keep K5q
  have c5_F_a1_value := F_v.keep K5q (List.not_mem_nil)
  have c5_F_a1_coder := F_c.keep K5q (List.not_mem_nil)
  have c5_V_sb1 := V_b.keep K5q (List.not_mem_nil)
  have O5 := O0.keep K5q all0
  have K5 := (Keep.refl h0 []).trans K5q all0
  refine own_go (B := T5.setTop (mkF m 44 #[rv a1, iv p2, iv p3, iv p3, iv (p3 - p2)] [(.ref aq5)])) (fun t k => st5 _ k) ?_
  obtain ⟨fs, hr, hrun, hended, hW, hsame⟩ := X5.leave (v := some (.ref aq5)) (fun h => by rw [Bd.returns] at h; cases h)
  refine ⟨_, _, ?_, hrun, hended, _, _, rfl, ?_, ⟨_, rfl⟩, hW, hsame.mono (by decide) (by decide)⟩
  · show own_S p e below T5 (mkF m 44 #[rv a1, iv p2, iv p3, iv p3, iv (p3 - p2)] [(.ref aq5)]) _
    refine XS.goto X5.here hx rfl (pc0 := 44) (pc' := 57) rfl (hb hby d22_44) (by decide) (by decide) ?_
    show own_S p e below T5 (mkF m 57 #[rv a1, iv p2, iv p3, iv p3, iv (p3 - p2)] [(.ref aq5)]) _
    jvm_step X5.here [X5.here.top, hx, (hb hby d22_57), X5.method', Bd.returns, Value.isRef, FieldType.isReference]
    first | (intro acts; rw [hr _ acts rfl rfl rfl]) | rw [hr _ _ rfl rfl rfl]
    exact Steps.refl _
  · show Q22g Z a1 p2 p3 sb1 kb vs us GC GF h0 n0 _ T5.heap _
    exact ⟨aq5, bq5, kq5, rfl, N5, K5, E5q, F5c, F5v, V5q⟩
theorem pn_21 : plainName "java/lang/String" = true := by first | (simp [plainName, overriddenIn]; done) | decide +kernel
theorem d21_0 : decode jdk_42_method_91_code 0 = .ok (.aload_n 0, 1) := by decide +kernel
theorem d21_1 : decode jdk_42_method_91_code 1 = .ok (.iload_n 1, 1) := by decide +kernel
theorem d21_2 : decode jdk_42_method_91_code 2 = .ok (.aload_n 0, 1) := by decide +kernel
theorem d21_3 : decode jdk_42_method_91_code 3 = .ok (.invokevirtual 505, 3) := by decide +kernel
theorem d21_6 : decode jdk_42_method_91_code 6 = .ok (.invokevirtual 681, 3) := by decide +kernel
theorem d21_9 : decode jdk_42_method_91_code 9 = .ok (.areturn, 1) := by decide +kernel
theorem ef_21 (m : MethodId) (x0 : Addr) (x1 : Int32) : entryFrame m #[(.ref x0), (.int x1)] 2 = mkF m 0 #[.val (.ref x0), .val (.int x1)] [] := by first | (simp [entryFrame, mkF, argsToLocals, Value.category]; done) | rfl
def Q21g (Z : State) (a1 : Addr) (p2 : Int32) (p3 : Int32) (sb1 : Addr) (kb : ClassId) (vs : List Value) (us : List Value) (GC : Int32) (GF : Value) (h0 : Heap) (n0 : Nat) (v : Option Value) (h : Heap) (L : List Loc) : Prop := own_QS Z (p3 - p2) us h0 n0 v h L
set_option maxRecDepth 65536 in
set_option maxHeartbeats 40000000 in
theorem rm21g (l : Launch) (Z : State) (a0 : Array Value) (hw : ∀ d ∈ tables_1, d.before a0 Z = true) (ws : List Jvm.Cond) (a1 : Addr) (p2 : Int32) (p3 : Int32) (sb1 : Addr) (kb : ClassId) (vs : List Value) (us : List Value) (GC : Int32) (GF : Value) (h0 : Heap) (n0 : Nat) (Z0 : n0 ≤ h0.size) (S_C : Sta Z Z.heap "java/lang/String" "COMPACT_STRINGS" "Z" (.int GC)) (hGC : ¬ GC = (0 : Int32)) (O0 : Old Z n0 h0) (S_F : Sta Z Z.heap "jdk/internal/util/Preconditions" "SIOOBE_FORMATTER" "Ljava/util/function/BiFunction;" GF) (is_GF : GF.isRef = true) (E_a1 : Exa Z h0 a1 "java/lang/String") (F_c : Fld Z h0 a1 "java/lang/String" "coder" "B" (.int (0 : Int32))) (F_v : Fld Z h0 a1 "java/lang/String" "value" "[B" (.ref sb1)) (V_b : Arv Z h0 sb1 kb .byte p3 vs (.int (0 : Int32))) (hk : ¬ p2 = (0 : Int32)) (hq : ¬ p2 < 0 ∧ ¬ p3 < p2 ∧ ¬ p3 < p3) (hM : MetFree l own_y21 (head1 (Jvm.Cond.code own_y21 jdk_43_method_47_code 3 (some (.object "java/lang/String")) :: []) ({ frames := 3, cells := 2, slots := 8, locals := 50 } : Room)) (fun a U => a = #[(.ref sb1), (.int p2), (.int (p3 - p2))] ∧ Z.Warmed39 U.vm ∧ U.heap = h0) (fun _ _ _ _ _ => True) (fun _ U o U' => ∃ v L, o = .returned v ∧ own_QS Z (p3 - p2) us h0 n0 v U'.heap L ∧ FrameEnd U o U' L ({ frames := 3, cells := 2, slots := 8, locals := 50 } : Room).cells ({ frames := 3, cells := 2, slots := 8, locals := 50 } : Room).slots)) :
    MetFree l own_y23 (head1 (Jvm.Cond.code own_y23 jdk_42_method_91_code 2 (some (.object "java/lang/String")) :: ws) ({ frames := 5, cells := 2, slots := 8, locals := 80 } : Room)) (fun a U => a = #[(.ref a1), (.int p2)] ∧ Z.Warmed39 U.vm ∧ U.heap = h0) (fun _ _ _ _ _ => True) (fun _ U o U' => ∃ v L, o = .returned v ∧ Q21g Z a1 p2 p3 sb1 kb vs us GC GF h0 n0 v U'.heap L ∧ FrameEnd U o U' L ({ frames := 5, cells := 2, slots := 8, locals := 80 } : Room).cells ({ frames := 5, cells := 2, slots := 8, locals := 80 } : Room).slots) := by
  refine MetFree.of_bodySF (plainFor_of_name pn_21) hisR ?_
  intro p e s m args below meth c s₁ Bd hml0 hP hK
  obtain ⟨rfl, hZ, hh⟩ := hP
  have hx := Bd.exec
  have hby := Bd.bytes
  have hml : c.maxLocals = 2 := hml0
  have hown : s.vm.findClass "java/lang/String" = some m.cls := findClass_of_methodNamed Bd.named
  have hnm := (name_of_methodNamed Bd.named Bd.method).1
  have X0 : Stand p l e ({ frames := 5, cells := 2, slots := 8, locals := 80 } : Room) s m #[(.ref a1), (.int p2)] below meth c s₁ [] 0 0 := Stand.of_body Bd
  have e0 : s₁.heap = h0 := by rw [← hh, Bd.state]; rfl
  have N0 := Fr.nil n0
  refine own_go (B := s₁.setTop (mkF m 0 #[rv a1, iv p2] [])) (fun t k => castTop (ef_21 m a1 p2) k) ?_
  refine own_go (B := s₁.setTop (mkF m 3 #[rv a1, iv p2] [(.ref a1), (.int p2), (.ref a1)])) (fun t k => ?_) ?_
  · show own_S p e below s₁ (mkF m 0 #[rv a1, iv p2] []) _
    refine XS.aloadN X0.here hx rfl (hb hby d21_0) rfl rfl ?_
    refine XS.iloadN X0.here hx rfl (hb hby d21_1) rfl ?_
    refine XS.aloadN X0.here hx rfl (hb hby d21_2) rfl rfl ?_
    exact k
  obtain ⟨cq1, kq1, q1a, q1b, q1c⟩ := isOf hZ e0 E_a1
  obtain ⟨_, _, ⟨T1, L1, k1, n1⟩, -, X1, ⟨Lc1, hQ1, l1, y1, z1⟩, st1⟩ := X0.virtualBack hx (y := own_y2) (z := own_y2) hown (mvT hZ (own_w hw 50 rfl)) (mvT hZ (own_w hw 51 rfl)) (notFace_of_selects (args := #[]) (mvT hZ (own_w hw 53 rfl))) (mvT hZ (own_w hw 53 rfl)) (mvT hZ (own_w hw 52 rfl)) (by decide) (backOf (W := 2) (rm10 l Z a0 hw [] a1 sb1 kb p3 vs (.int (0 : Int32)) GC h0 n0 Z0 S_C hGC O0 E_a1 F_c F_v V_b) hZ (own_w hw 54 rfl) (own_w hw 11 rfl) (by decide) (by decide)) q1a q1c (g := (mkF m 3 #[rv a1, iv p2] [(.ref a1), (.int p2), (.ref a1)])) rfl (by rw [hml]; rfl) (Steps.refl _) (argsL := []) (rest := [(.int p2), (.ref a1)]) (lenOf own_pd11 rfl) rfl (by show 2 * 0 + _ ≤ _; exact Nat.le_of_eq rfl) (hb hby d21_3) (fun _ _ => ⟨rfl, e0, (by decide : 0 + 0 ≤ _), (by decide : 0 + 0 ≤ _)⟩)
  dsimp only [Pt.U, Pt.locs, Pt.cells, Pt.slots] at X1 l1 y1 z1 st1 hQ1
  subst l1 y1 z1
  obtain ⟨rfl, N1q, eq1⟩ := hQ1
  have N1 := Fr.app N0 N1q
  refine own_go (B := T1.setTop (mkF m 6 #[rv a1, iv p2] [(.int p3), (.int p2), (.ref a1)])) (fun t k => st1.trans k) ?_
  obtain ⟨cq2, kq2, q2a, q2b, q2c⟩ := isOf hZ eq1 E_a1
  obtain ⟨_, _, ⟨T2, L2, k2, n2⟩, -, X2, ⟨Lc2, hQ2, l2, y2, z2⟩, st2⟩ := X1.virtualBack hx (y := own_y22) (z := own_y22) hown (mvT hZ (own_w hw 97 rfl)) (mvT hZ (own_w hw 98 rfl)) (notFace_of_selects (args := #[]) (mvT hZ (own_w hw 100 rfl))) (mvT hZ (own_w hw 100 rfl)) (mvT hZ (own_w hw 99 rfl)) (by decide) (backOf (W := 0) (rm22g l Z a0 hw [] a1 p2 p3 sb1 kb vs us GC GF h0 n0 Z0 S_C hGC O0 S_F is_GF E_a1 F_c F_v V_b hk hq hM) hZ (own_w hw 101 rfl) (own_w hw 11 rfl) (by decide) (by decide)) q2a q2c (g := (mkF m 6 #[rv a1, iv p2] [(.int p3), (.int p2), (.ref a1)])) rfl (by rw [hml]; rfl) (Steps.refl _) (argsL := [(.int p2), (.int p3)]) (rest := []) (lenOf own_pd14 rfl) rfl (by show 2 * 0 + _ ≤ _; exact Nat.le_of_eq rfl) (hb hby d21_6) (fun _ _ => ⟨rfl, eq1, (by decide : 0 + 2 ≤ _), (by decide : 0 + 8 ≤ _)⟩)
  dsimp only [Pt.U, Pt.locs, Pt.cells, Pt.slots] at X2 l2 y2 z2 st2 hQ2
  subst l2 y2 z2
  obtain ⟨aq2, bq2, kq2, rfl, N2q, K2q, E2q, F2c, F2v, V2q⟩ := hQ2
  have N2 := Fr.app N1 N2q
  have c2_E_a1 := E_a1.keep K2q
  have c2_F_a1_value := F_v.keep K2q (List.not_mem_nil)
  have c2_F_a1_coder := F_c.keep K2q (List.not_mem_nil)
  have c2_V_sb1 := V_b.keep K2q (List.not_mem_nil)
  have O2 := O0.keep K2q all0
  have K2 := (Keep.refl h0 []).trans K2q all0
  refine own_go (B := T2.setTop (mkF m 9 #[rv a1, iv p2] [(.ref aq2)])) (fun t k => st2.trans k) ?_
  obtain ⟨fs, hr, hrun, hended, hW, hsame⟩ := X2.leave (v := some (.ref aq2)) (fun h => by rw [Bd.returns] at h; cases h)
  refine ⟨_, _, ?_, hrun, hended, _, _, rfl, ?_, ⟨_, rfl⟩, hW, hsame.mono (by decide) (by decide)⟩
  · show own_S p e below T2 (mkF m 9 #[rv a1, iv p2] [(.ref aq2)]) _
    jvm_step X2.here [X2.here.top, hx, (hb hby d21_9), X2.method', Bd.returns, Value.isRef, FieldType.isReference]
    first | (intro acts; rw [hr _ acts rfl rfl rfl]) | rw [hr _ _ rfl rfl rfl]
    exact Steps.refl _
  · show Q21g Z a1 p2 p3 sb1 kb vs us GC GF h0 n0 _ T2.heap _
    exact ⟨aq2, bq2, kq2, rfl, N2, K2, E2q, F2c, F2v, V2q⟩
def Q22gh (Z : State) (a1 : Addr) (p2 : Int32) (p3 : Int32) (sb1 : Addr) (kb : ClassId) (vs : List Value) (us : List Value) (GC : Int32) (GF : Value) (h0 : Heap) (n0 : Nat) (v : Option Value) (h : Heap) (L : List Loc) : Prop := own_QS Z (p3 - p2) us h0 n0 v h L
set_option maxRecDepth 65536 in
set_option maxHeartbeats 40000000 in
theorem rm22gh (l : Launch) (Z : State) (a0 : Array Value) (hw : ∀ d ∈ tables_1, d.before a0 Z = true) (ws : List Jvm.Cond) (a1 : Addr) (p2 : Int32) (p3 : Int32) (sb1 : Addr) (kb : ClassId) (vs : List Value) (us : List Value) (GC : Int32) (GF : Value) (h0 : Heap) (n0 : Nat) (Z0 : n0 ≤ h0.size) (S_C : Sta Z Z.heap "java/lang/String" "COMPACT_STRINGS" "Z" (.int GC)) (hGC : ¬ GC = (0 : Int32)) (O0 : Old Z n0 h0) (S_F : Sta Z Z.heap "jdk/internal/util/Preconditions" "SIOOBE_FORMATTER" "Ljava/util/function/BiFunction;" GF) (is_GF : GF.isRef = true) (E_a1 : Exa Z h0 a1 "java/lang/String") (F_c : Fld Z h0 a1 "java/lang/String" "coder" "B" (.int (0 : Int32))) (F_v : Fld Z h0 a1 "java/lang/String" "value" "[B" (.ref sb1)) (V_b : Arv Z h0 sb1 kb .byte p3 vs (.int (0 : Int32))) (hk : ¬ p2 = (0 : Int32)) (hq : ¬ p2 < 0 ∧ ¬ p3 < p2 ∧ ¬ p3 < p3) (hM : MetFree l own_y21 (head1 (Jvm.Cond.code own_y21 jdk_43_method_47_code 3 (some (.object "java/lang/String")) :: []) ({ frames := 0, cells := 2, slots := 4, locals := 0 } : Room)) (fun a U => a = #[(.ref sb1), (.int p2), (.int (p3 - p2))] ∧ Z.Warmed39 U.vm ∧ U.heap = h0 ∧ CHv Z consts_1 U.vm h0) (fun _ _ _ _ _ => True) (fun _ U o U' => ∃ v L, o = .returned v ∧ own_QS Z (p3 - p2) us h0 n0 v U'.heap L ∧ CHr Z consts_1 U.vm U.heap U'.vm U'.heap ∧ ReturnedEndW U o U' L ({ frames := 0, cells := 2, slots := 4, locals := 0 } : Room).cells ({ frames := 0, cells := 2, slots := 4, locals := 0 } : Room).slots)) :
    MetFree l own_y22 (head1 (Jvm.Cond.code own_y22 jdk_42_method_92_code 5 (some (.object "java/lang/String")) :: ws) ({ frames := 4, cells := 2, slots := 4, locals := 64 } : Room)) (fun a U => a = #[(.ref a1), (.int p2), (.int p3)] ∧ Z.Warmed39 U.vm ∧ U.heap = h0 ∧ CHv Z consts_1 U.vm h0) (fun _ _ _ _ _ => True) (fun _ U o U' => ∃ v L, o = .returned v ∧ Q22gh Z a1 p2 p3 sb1 kb vs us GC GF h0 n0 v U'.heap L ∧ CHr Z consts_1 U.vm U.heap U'.vm U'.heap ∧ ReturnedEndW U o U' L ({ frames := 4, cells := 2, slots := 4, locals := 64 } : Room).cells ({ frames := 4, cells := 2, slots := 4, locals := 64 } : Room).slots) := by
  refine MetFree.of_bodySF (plainFor_of_name pn_22) hisR ?_
  intro p e s m args below meth c s₁ Bd hml0 hP hK
  obtain ⟨rfl, hZ, hh, hCH⟩ := hP
  have hx := Bd.exec
  have hby := Bd.bytes
  have hml : c.maxLocals = 5 := hml0
  have hown : s.vm.findClass "java/lang/String" = some m.cls := findClass_of_methodNamed Bd.named
  have hnm := (name_of_methodNamed Bd.named Bd.method).1
  have X0 : Stand p l e ({ frames := 4, cells := 2, slots := 4, locals := 64 } : Room) s m #[(.ref a1), (.int p2), (.int p3)] below meth c s₁ [] 0 0 := Stand.of_body Bd
  have e0 : s₁.heap = h0 := by rw [← hh, Bd.state]; rfl
  have N0 := Fr.nil n0
  have X0 : Stand p l e ({ frames := 4, cells := 2, slots := 4, locals := 64 } : Room) (s.setVm s.vm) m #[(.ref a1), (.int p2), (.int p3)] below meth c s₁ [] 0 0 := X0
  have hZ : Z.Warmed39 (s.setVm s.vm).vm := hZ
  have hown : (s.setVm s.vm).vm.findClass "java/lang/String" = some m.cls := hown
  have hS : s.Since s.vm 0 := (State.WarmedH.refl s).since 0
  refine own_go (B := s₁.setTop (mkF m 0 #[rv a1, iv p2, iv p3, .unset, .unset] [])) (fun t k => castTop (ef_22 m a1 p2 p3) k) ?_
  refine own_go (B := s₁.setTop (mkF m 1 #[rv a1, iv p2, iv p3, .unset, .unset] [(.ref a1)])) (fun t k => ?_) ?_
  · show own_S p e below s₁ (mkF m 0 #[rv a1, iv p2, iv p3, .unset, .unset] []) _
    refine XS.aloadN X0.here hx rfl (hb hby d22_0) rfl rfl ?_
    exact k
  obtain ⟨cq1, kq1, q1a, q1b, q1c⟩ := isOf hZ e0 E_a1
  obtain ⟨_, _, ⟨T1, L1, k1, n1⟩, -, X1, ⟨Lc1, hQ1, l1, y1, z1⟩, st1⟩ := X0.virtualBack hx (y := own_y2) (z := own_y2) hown (mvT hZ (own_w hw 50 rfl)) (mvT hZ (own_w hw 51 rfl)) (notFace_of_selects (args := #[]) (mvT hZ (own_w hw 53 rfl))) (mvT hZ (own_w hw 53 rfl)) (mvT hZ (own_w hw 52 rfl)) (by decide) (backOf (W := 0) (rm10 l Z a0 hw [] a1 sb1 kb p3 vs (.int (0 : Int32)) GC h0 n0 Z0 S_C hGC O0 E_a1 F_c F_v V_b) hZ (own_w hw 54 rfl) (own_w hw 11 rfl) (by decide) (by decide)) q1a q1c (g := (mkF m 1 #[rv a1, iv p2, iv p3, .unset, .unset] [(.ref a1)])) rfl (by rw [hml]; rfl) (Steps.refl _) (argsL := []) (rest := []) (lenOf own_pd11 rfl) rfl (by show 2 * 0 + _ ≤ _; exact Nat.le_of_eq rfl) (hb hby d22_1) (fun _ _ => ⟨rfl, e0, (by decide : 0 + 0 ≤ _), (by decide : 0 + 0 ≤ _)⟩)
  dsimp only [Pt.U, Pt.locs, Pt.cells, Pt.slots] at X1 l1 y1 z1 st1 hQ1
  subst l1 y1 z1
  obtain ⟨rfl, N1q, eq1⟩ := hQ1
  have N1 := Fr.app N0 N1q
  refine own_go (B := T1.setTop (mkF m 4 #[rv a1, iv p2, iv p3, .unset, .unset] [(.int p3)])) (fun t k => st1.trans k) ?_
  refine own_go (B := T1.setTop (mkF m 8 #[rv a1, iv p2, iv p3, iv p3, .unset] [(.int p3), (.int p3), (.int p2)])) (fun t k => ?_) ?_
  · show own_S p e below T1 (mkF m 4 #[rv a1, iv p2, iv p3, .unset, .unset] [(.int p3)]) _
    refine XS.istoreN X1.here hx rfl (hb hby d22_4) rfl (l' := #[rv a1, iv p2, iv p3, iv p3, .unset]) rfl ?_
    refine XS.iloadN X1.here hx rfl (hb hby d22_5) rfl ?_
    refine XS.iloadN X1.here hx rfl (hb hby d22_6) rfl ?_
    show own_S p e below T1 (mkF m 7 #[rv a1, iv p2, iv p3, iv p3, .unset] [(.int p3), (.int p2)]) _
    refine XS.iloadN X1.here hx rfl (hb hby d22_7) rfl ?_
    exact k
  obtain ⟨_, _, ⟨T2, L2, k2, n2⟩, -, X2, ⟨Lc2, hQ2, l2, y2, z2⟩, st2⟩ := Jvm.LawKit.callS X1 hx (y := own_y16) hown (mvT hZ (own_w hw 102 rfl)) (mvT hZ (own_w hw 103 rfl)) (mvT hZ (own_w hw 11 rfl)) (mvT hZ (own_w hw 104 rfl)) (by decide) (backOf (W := 0) (rm23 l Z a0 hw [] p2 p3 p3 GF h0 n0 Z0 S_F is_GF O0 hq) hZ (own_w hw 104 rfl) (own_w hw 11 rfl) (by decide) (by decide)) (g := (mkF m 8 #[rv a1, iv p2, iv p3, iv p3, .unset] [(.int p3), (.int p3), (.int p2)])) rfl (by rw [hml]; rfl) (argsL := [(.int p2), (.int p3), (.int p3)]) (rest := []) (lenOf own_pd12 rfl) rfl (by show 2 * 0 + _ ≤ _; exact Nat.le_of_eq rfl) (hb hby d22_8) (fun _ _ => ⟨rfl, eq1, (by decide : 0 + 0 ≤ _), (by decide : 0 + 0 ≤ _)⟩)
  dsimp only [Pt.U, Pt.locs, Pt.cells, Pt.slots] at X2 l2 y2 z2 st2 hQ2
  subst l2 y2 z2
  obtain ⟨rfl, N2q, eq2⟩ := hQ2
  have N2 := Fr.app N1 N2q
  refine own_go (B := T2.setTop (mkF m 11 #[rv a1, iv p2, iv p3, iv p3, .unset] [])) (fun t k => st2 _ k) ?_
  refine own_go (B := T2.setTop (mkF m 28 #[rv a1, iv p2, iv p3, iv p3, iv (p3 - p2)] [(.ref a1)])) (fun t k => ?_) ?_
  · show own_S p e below T2 (mkF m 11 #[rv a1, iv p2, iv p3, iv p3, .unset] []) _
    refine XS.iloadN X2.here hx rfl (hb hby d22_11) rfl ?_
    refine XS.ifYes X2.here hx rfl (pc0 := 12) (pc' := 22) rfl (hb hby d22_12) rfl ((if0 _ _).trans (feq hk).2) (by decide) (by decide) ?_
    refine XS.iloadN X2.here hx rfl (hb hby d22_22) rfl ?_
    show own_S p e below T2 (mkF m 23 #[rv a1, iv p2, iv p3, iv p3, .unset] [(.int p3)]) _
    refine XS.iloadN X2.here hx rfl (hb hby d22_23) rfl ?_
    refine XS.isub X2.here hx rfl (hb hby d22_24) rfl ?_
    refine XS.istore X2.here hx rfl (hb hby d22_25) rfl (l' := #[rv a1, iv p2, iv p3, iv p3, iv (p3 - p2)]) rfl ?_
    show own_S p e below T2 (mkF m 27 #[rv a1, iv p2, iv p3, iv p3, iv (p3 - p2)] []) _
    refine XS.aloadN X2.here hx rfl (hb hby d22_27) rfl rfl ?_
    exact k
  obtain ⟨cq3, kq3, q3a, q3b, q3c⟩ := isOf hZ eq2 E_a1
  obtain ⟨_, _, ⟨T3, L3, k3, n3⟩, -, X3, ⟨Lc3, hQ3, l3, y3, z3⟩, st3⟩ := X2.virtualBack hx (y := own_y0) (z := own_y0) hown (mvT hZ (own_w hw 44 rfl)) (mvT hZ (own_w hw 45 rfl)) (notFace_of_selects (args := #[]) (mvT hZ (own_w hw 47 rfl))) (mvT hZ (own_w hw 47 rfl)) (mvT hZ (own_w hw 46 rfl)) (by decide) (backOf (W := 0) (rm9 l Z a0 hw [] a1 GC h0 n0 Z0 S_C hGC O0 F_c) hZ (own_w hw 48 rfl) (own_w hw 11 rfl) (by decide) (by decide)) q3a q3c (g := (mkF m 28 #[rv a1, iv p2, iv p3, iv p3, iv (p3 - p2)] [(.ref a1)])) rfl (by rw [hml]; rfl) (Steps.refl _) (argsL := []) (rest := []) (lenOf own_pd3 rfl) rfl (by show 2 * 0 + _ ≤ _; exact Nat.le_of_eq rfl) (hb hby d22_28) (fun _ _ => ⟨rfl, eq2, (by decide : 0 + 0 ≤ _), (by decide : 0 + 0 ≤ _)⟩)
  dsimp only [Pt.U, Pt.locs, Pt.cells, Pt.slots] at X3 l3 y3 z3 st3 hQ3
  subst l3 y3 z3
  obtain ⟨rfl, N3q, eq3⟩ := hQ3
  have N3 := Fr.app N2 N3q
  refine own_go (B := T3.setTop (mkF m 31 #[rv a1, iv p2, iv p3, iv p3, iv (p3 - p2)] [(.int 1)])) (fun t k => st3.trans k) ?_
  refine own_go (B := T3.setTop (mkF m 35 #[rv a1, iv p2, iv p3, iv p3, iv (p3 - p2)] [(.ref a1)])) (fun t k => ?_) ?_
  · show own_S p e below T3 (mkF m 31 #[rv a1, iv p2, iv p3, iv p3, iv (p3 - p2)] [(.int 1)]) _
    refine XS.ifNo X3.here hx rfl (hb hby d22_31) rfl ((if0 _ _).trans (feq (by decide)).1) ?_
    refine XS.aloadN X3.here hx rfl (hb hby d22_34) rfl rfl ?_
    exact k
  obtain ⟨T4, X4, e4, st4⟩ := getF X3 hx hZ hown (host := "") (Or.inl (own_w hw 28 rfl)) Via.refl eq3 F_v (g := (mkF m 35 #[rv a1, iv p2, iv p3, iv p3, iv (p3 - p2)] [(.ref a1)])) rfl rfl (hb hby d22_35)
  refine own_go (B := T4.setTop (mkF m 38 #[rv a1, iv p2, iv p3, iv p3, iv (p3 - p2)] [(.ref sb1)])) (fun t k => st4 _ k) ?_
  refine own_go (B := T4.setTop (mkF m 41 #[rv a1, iv p2, iv p3, iv p3, iv (p3 - p2)] [(.int (p3 - p2)), (.int p2), (.ref sb1)])) (fun t k => ?_) ?_
  · show own_S p e below T4 (mkF m 38 #[rv a1, iv p2, iv p3, iv p3, iv (p3 - p2)] [(.ref sb1)]) _
    refine XS.iloadN X4.here hx rfl (hb hby d22_38) rfl ?_
    refine XS.iload X4.here hx rfl (hb hby d22_39) rfl ?_
    exact k
  have Ch5p := CHr.refl hCH
  obtain ⟨_, _, ⟨T5, L5, k5, n5⟩, -, X5, hS5, hg5, ⟨Lc5, hQ5, l5, y5, z5, hCr5⟩, st5⟩ := callSS X4 hx (y := own_y21) hown (mvT hZ (own_w hw 110 rfl)) (mvT hZ (own_w hw 111 rfl)) (mvT hZ (own_w hw 62 rfl)) (mvT hZ (own_w hw 112 rfl)) (by decide) (backOfSH (W := 0) (hM) hZ (own_w hw 112 rfl) (own_w hw 62 rfl) (by decide) (by decide) (own_hEL hw) Ch5p.1) (g := (mkF m 41 #[rv a1, iv p2, iv p3, iv p3, iv (p3 - p2)] [(.int (p3 - p2)), (.int p2), (.ref sb1)])) rfl (by rw [hml]; rfl) (argsL := [(.ref sb1), (.int p2), (.int (p3 - p2))]) (rest := []) (lenOf own_pd13 rfl) rfl (by show 2 * 0 + _ ≤ _; exact Nat.le_of_eq rfl) (hb hby d22_41) (fun _ _ => ⟨rfl, e4, (by decide : 0 + 2 ≤ _), (by decide : 0 + 4 ≤ _)⟩)
  dsimp only [Pt.U, Pt.locs, Pt.cells, Pt.slots] at X5 l5 y5 z5 st5 hQ5 hS5 hg5 hCr5
  subst l5 y5 z5
  have hS := hS.trans hS5 (Nat.le_trans (Nat.zero_le _) (Nat.le_trans (Nat.le_of_eq (congrArg Array.size e4.symm)) hg5))
  have hZ : Z.Warmed39 (s.setVm T5.vm).vm := State.Warmed39.trans hZ hS5.1
  have hown : (s.setVm T5.vm).vm.findClass "java/lang/String" = some m.cls := (hS5.1.alike.findClass _ _).trans hown
  obtain ⟨aq5, bq5, kq5, rfl, N5q, K5q, E5q, F5c, F5v, V5q⟩ := hQ5
  have N5 := Fr.app N3 N5q
  have c5_E_a1 := E_a1.keep K5q
  have c5_F_a1_value := F_v.keep K5q (List.not_mem_nil)
  have c5_F_a1_coder := F_c.keep K5q (List.not_mem_nil)
  have c5_V_sb1 := V_b.keep K5q (List.not_mem_nil)
  have O5 := O0.keep K5q all0
  have K5 := (Keep.refl h0 []).trans K5q all0
  have Ch5 := Ch5p.trans hCr5
  refine own_go (B := T5.setTop (mkF m 44 #[rv a1, iv p2, iv p3, iv p3, iv (p3 - p2)] [(.ref aq5)])) (fun t k => st5.trans k) ?_
  obtain ⟨fs, hr, hrun, hended, hRW⟩ := X5.leaveW hS ((Nat.le_refl _)) (v := some (.ref aq5)) (fun h => by rw [Bd.returns] at h; cases h)
  refine ⟨_, _, ?_, hrun, hended, _, _, rfl, ?_, (by have q := (Ch5).trans (CHv.at X5 hZ (own_hEL hw) (Ch5).1); rw [← hh] at q; exact q), hRW.1, hRW.2.1, hRW.2.2.1, hRW.2.2.2.mono (by decide) (by decide)⟩
  · show own_S p e below T5 (mkF m 44 #[rv a1, iv p2, iv p3, iv p3, iv (p3 - p2)] [(.ref aq5)]) _
    refine XS.goto X5.here hx rfl (pc0 := 44) (pc' := 57) rfl (hb hby d22_44) (by decide) (by decide) ?_
    show own_S p e below T5 (mkF m 57 #[rv a1, iv p2, iv p3, iv p3, iv (p3 - p2)] [(.ref aq5)]) _
    jvm_step X5.here [X5.here.top, hx, (hb hby d22_57), X5.method', Bd.returns, Value.isRef, FieldType.isReference]
    first | (intro acts; rw [hr _ acts rfl rfl rfl]) | rw [hr _ _ rfl rfl rfl]
    exact Steps.refl _
  · show Q22gh Z a1 p2 p3 sb1 kb vs us GC GF h0 n0 _ T5.heap _
    exact ⟨aq5, bq5, kq5, rfl, N5, K5, E5q, F5c, F5v, V5q⟩
def Q21gh (Z : State) (a1 : Addr) (p2 : Int32) (p3 : Int32) (sb1 : Addr) (kb : ClassId) (vs : List Value) (us : List Value) (GC : Int32) (GF : Value) (h0 : Heap) (n0 : Nat) (v : Option Value) (h : Heap) (L : List Loc) : Prop := own_QS Z (p3 - p2) us h0 n0 v h L
set_option maxRecDepth 65536 in
set_option maxHeartbeats 40000000 in
theorem rm21gh (l : Launch) (Z : State) (a0 : Array Value) (hw : ∀ d ∈ tables_1, d.before a0 Z = true) (ws : List Jvm.Cond) (a1 : Addr) (p2 : Int32) (p3 : Int32) (sb1 : Addr) (kb : ClassId) (vs : List Value) (us : List Value) (GC : Int32) (GF : Value) (h0 : Heap) (n0 : Nat) (Z0 : n0 ≤ h0.size) (S_C : Sta Z Z.heap "java/lang/String" "COMPACT_STRINGS" "Z" (.int GC)) (hGC : ¬ GC = (0 : Int32)) (O0 : Old Z n0 h0) (S_F : Sta Z Z.heap "jdk/internal/util/Preconditions" "SIOOBE_FORMATTER" "Ljava/util/function/BiFunction;" GF) (is_GF : GF.isRef = true) (E_a1 : Exa Z h0 a1 "java/lang/String") (F_c : Fld Z h0 a1 "java/lang/String" "coder" "B" (.int (0 : Int32))) (F_v : Fld Z h0 a1 "java/lang/String" "value" "[B" (.ref sb1)) (V_b : Arv Z h0 sb1 kb .byte p3 vs (.int (0 : Int32))) (hk : ¬ p2 = (0 : Int32)) (hq : ¬ p2 < 0 ∧ ¬ p3 < p2 ∧ ¬ p3 < p3) (hM : MetFree l own_y21 (head1 (Jvm.Cond.code own_y21 jdk_43_method_47_code 3 (some (.object "java/lang/String")) :: []) ({ frames := 0, cells := 2, slots := 4, locals := 0 } : Room)) (fun a U => a = #[(.ref sb1), (.int p2), (.int (p3 - p2))] ∧ Z.Warmed39 U.vm ∧ U.heap = h0 ∧ CHv Z consts_1 U.vm h0) (fun _ _ _ _ _ => True) (fun _ U o U' => ∃ v L, o = .returned v ∧ own_QS Z (p3 - p2) us h0 n0 v U'.heap L ∧ CHr Z consts_1 U.vm U.heap U'.vm U'.heap ∧ ReturnedEndW U o U' L ({ frames := 0, cells := 2, slots := 4, locals := 0 } : Room).cells ({ frames := 0, cells := 2, slots := 4, locals := 0 } : Room).slots)) :
    MetFree l own_y23 (head1 (Jvm.Cond.code own_y23 jdk_42_method_91_code 2 (some (.object "java/lang/String")) :: ws) ({ frames := 5, cells := 2, slots := 4, locals := 80 } : Room)) (fun a U => a = #[(.ref a1), (.int p2)] ∧ Z.Warmed39 U.vm ∧ U.heap = h0 ∧ CHv Z consts_1 U.vm h0) (fun _ _ _ _ _ => True) (fun _ U o U' => ∃ v L, o = .returned v ∧ Q21gh Z a1 p2 p3 sb1 kb vs us GC GF h0 n0 v U'.heap L ∧ CHr Z consts_1 U.vm U.heap U'.vm U'.heap ∧ ReturnedEndW U o U' L ({ frames := 5, cells := 2, slots := 4, locals := 80 } : Room).cells ({ frames := 5, cells := 2, slots := 4, locals := 80 } : Room).slots) := by
  refine MetFree.of_bodySF (plainFor_of_name pn_21) hisR ?_
  intro p e s m args below meth c s₁ Bd hml0 hP hK
  obtain ⟨rfl, hZ, hh, hCH⟩ := hP
  have hx := Bd.exec
  have hby := Bd.bytes
  have hml : c.maxLocals = 2 := hml0
  have hown : s.vm.findClass "java/lang/String" = some m.cls := findClass_of_methodNamed Bd.named
  have hnm := (name_of_methodNamed Bd.named Bd.method).1
  have X0 : Stand p l e ({ frames := 5, cells := 2, slots := 4, locals := 80 } : Room) s m #[(.ref a1), (.int p2)] below meth c s₁ [] 0 0 := Stand.of_body Bd
  have e0 : s₁.heap = h0 := by rw [← hh, Bd.state]; rfl
  have N0 := Fr.nil n0
  have X0 : Stand p l e ({ frames := 5, cells := 2, slots := 4, locals := 80 } : Room) (s.setVm s.vm) m #[(.ref a1), (.int p2)] below meth c s₁ [] 0 0 := X0
  have hZ : Z.Warmed39 (s.setVm s.vm).vm := hZ
  have hown : (s.setVm s.vm).vm.findClass "java/lang/String" = some m.cls := hown
  have hS : s.Since s.vm 0 := (State.WarmedH.refl s).since 0
  refine own_go (B := s₁.setTop (mkF m 0 #[rv a1, iv p2] [])) (fun t k => castTop (ef_21 m a1 p2) k) ?_
  refine own_go (B := s₁.setTop (mkF m 3 #[rv a1, iv p2] [(.ref a1), (.int p2), (.ref a1)])) (fun t k => ?_) ?_
  · show own_S p e below s₁ (mkF m 0 #[rv a1, iv p2] []) _
    refine XS.aloadN X0.here hx rfl (hb hby d21_0) rfl rfl ?_
    refine XS.iloadN X0.here hx rfl (hb hby d21_1) rfl ?_
    refine XS.aloadN X0.here hx rfl (hb hby d21_2) rfl rfl ?_
    exact k
  obtain ⟨cq1, kq1, q1a, q1b, q1c⟩ := isOf hZ e0 E_a1
  obtain ⟨_, _, ⟨T1, L1, k1, n1⟩, -, X1, ⟨Lc1, hQ1, l1, y1, z1⟩, st1⟩ := X0.virtualBack hx (y := own_y2) (z := own_y2) hown (mvT hZ (own_w hw 50 rfl)) (mvT hZ (own_w hw 51 rfl)) (notFace_of_selects (args := #[]) (mvT hZ (own_w hw 53 rfl))) (mvT hZ (own_w hw 53 rfl)) (mvT hZ (own_w hw 52 rfl)) (by decide) (backOf (W := 2) (rm10 l Z a0 hw [] a1 sb1 kb p3 vs (.int (0 : Int32)) GC h0 n0 Z0 S_C hGC O0 E_a1 F_c F_v V_b) hZ (own_w hw 54 rfl) (own_w hw 11 rfl) (by decide) (by decide)) q1a q1c (g := (mkF m 3 #[rv a1, iv p2] [(.ref a1), (.int p2), (.ref a1)])) rfl (by rw [hml]; rfl) (Steps.refl _) (argsL := []) (rest := [(.int p2), (.ref a1)]) (lenOf own_pd11 rfl) rfl (by show 2 * 0 + _ ≤ _; exact Nat.le_of_eq rfl) (hb hby d21_3) (fun _ _ => ⟨rfl, e0, (by decide : 0 + 0 ≤ _), (by decide : 0 + 0 ≤ _)⟩)
  dsimp only [Pt.U, Pt.locs, Pt.cells, Pt.slots] at X1 l1 y1 z1 st1 hQ1
  subst l1 y1 z1
  obtain ⟨rfl, N1q, eq1⟩ := hQ1
  have N1 := Fr.app N0 N1q
  refine own_go (B := T1.setTop (mkF m 6 #[rv a1, iv p2] [(.int p3), (.int p2), (.ref a1)])) (fun t k => st1.trans k) ?_
  have Ch2p := CHr.refl hCH
  obtain ⟨cq2, kq2, q2a, q2b, q2c⟩ := isOf hZ eq1 E_a1
  obtain ⟨_, _, ⟨T2, L2, k2, n2⟩, -, X2, hS2, hg2, ⟨Lc2, hQ2, l2, y2, z2, hCr2⟩, st2⟩ := X1.virtualBackS hx (y := own_y22) (z := own_y22) hown (mvT hZ (own_w hw 97 rfl)) (mvT hZ (own_w hw 98 rfl)) (notFace_of_selects (args := #[]) (mvT hZ (own_w hw 100 rfl))) (mvT hZ (own_w hw 100 rfl)) (mvT hZ (own_w hw 99 rfl)) (by decide) (backOfSH (W := 0) (rm22gh l Z a0 hw [] a1 p2 p3 sb1 kb vs us GC GF h0 n0 Z0 S_C hGC O0 S_F is_GF E_a1 F_c F_v V_b hk hq hM) hZ (own_w hw 101 rfl) (own_w hw 11 rfl) (by decide) (by decide) (own_hEL hw) Ch2p.1) q2a q2c (g := (mkF m 6 #[rv a1, iv p2] [(.int p3), (.int p2), (.ref a1)])) rfl (by rw [hml]; rfl) (Steps.refl _) (argsL := [(.int p2), (.int p3)]) (rest := []) (lenOf own_pd14 rfl) rfl (by show 2 * 0 + _ ≤ _; exact Nat.le_of_eq rfl) (hb hby d21_6) (fun _ _ => ⟨rfl, eq1, (by decide : 0 + 2 ≤ _), (by decide : 0 + 4 ≤ _)⟩)
  dsimp only [Pt.U, Pt.locs, Pt.cells, Pt.slots] at X2 l2 y2 z2 st2 hQ2 hS2 hg2 hCr2
  subst l2 y2 z2
  have hS := hS.trans hS2 (Nat.le_trans (Nat.zero_le _) (Nat.le_trans (Nat.le_of_eq (congrArg Array.size eq1.symm)) hg2))
  have hZ : Z.Warmed39 (s.setVm T2.vm).vm := State.Warmed39.trans hZ hS2.1
  have hown : (s.setVm T2.vm).vm.findClass "java/lang/String" = some m.cls := (hS2.1.alike.findClass _ _).trans hown
  obtain ⟨aq2, bq2, kq2, rfl, N2q, K2q, E2q, F2c, F2v, V2q⟩ := hQ2
  have N2 := Fr.app N1 N2q
  have c2_E_a1 := E_a1.keep K2q
  have c2_F_a1_value := F_v.keep K2q (List.not_mem_nil)
  have c2_F_a1_coder := F_c.keep K2q (List.not_mem_nil)
  have c2_V_sb1 := V_b.keep K2q (List.not_mem_nil)
  have O2 := O0.keep K2q all0
  have K2 := (Keep.refl h0 []).trans K2q all0
  have Ch2 := Ch2p.trans hCr2
  refine own_go (B := T2.setTop (mkF m 9 #[rv a1, iv p2] [(.ref aq2)])) (fun t k => st2.trans k) ?_
  obtain ⟨fs, hr, hrun, hended, hRW⟩ := X2.leaveW hS ((Nat.le_refl _)) (v := some (.ref aq2)) (fun h => by rw [Bd.returns] at h; cases h)
  refine ⟨_, _, ?_, hrun, hended, _, _, rfl, ?_, (by have q := (Ch2).trans (CHv.at X2 hZ (own_hEL hw) (Ch2).1); rw [← hh] at q; exact q), hRW.1, hRW.2.1, hRW.2.2.1, hRW.2.2.2.mono (by decide) (by decide)⟩
  · show own_S p e below T2 (mkF m 9 #[rv a1, iv p2] [(.ref aq2)]) _
    jvm_step X2.here [X2.here.top, hx, (hb hby d21_9), X2.method', Bd.returns, Value.isRef, FieldType.isReference]
    first | (intro acts; rw [hr _ acts rfl rfl rfl]) | rw [hr _ _ rfl rfl rfl]
    exact Steps.refl _
  · show Q21gh Z a1 p2 p3 sb1 kb vs us GC GF h0 n0 _ T2.heap _
    exact ⟨aq2, bq2, kq2, rfl, N2, K2, E2q, F2c, F2v, V2q⟩
theorem pn_8 : plainName "java/lang/String" = true := by first | (simp [plainName, overriddenIn]; done) | decide +kernel
theorem d8_0 : decode jdk_42_method_80_code 0 = .ok (.aload_n 0, 1) := by decide +kernel
theorem d8_1 : decode jdk_42_method_80_code 1 = .ok (.invokevirtual 492, 3) := by decide +kernel
theorem d8_4 : decode jdk_42_method_80_code 4 = .ok (.ifCond .eq 19, 3) := by decide +kernel
theorem d8_7 : decode jdk_42_method_80_code 7 = .ok (.aload_n 0, 1) := by decide +kernel
theorem d8_8 : decode jdk_42_method_80_code 8 = .ok (.getfield 9, 3) := by decide +kernel
theorem d8_11 : decode jdk_42_method_80_code 11 = .ok (.iload_n 1, 1) := by decide +kernel
theorem d8_12 : decode jdk_42_method_80_code 12 = .ok (.iload_n 2, 1) := by decide +kernel
theorem d8_13 : decode jdk_42_method_80_code 13 = .ok (.aload_n 0, 1) := by decide +kernel
theorem d8_14 : decode jdk_42_method_80_code 14 = .ok (.invokevirtual 505, 3) := by decide +kernel
theorem d8_17 : decode jdk_42_method_80_code 17 = .ok (.invokestatic 637, 3) := by decide +kernel
theorem d8_20 : decode jdk_42_method_80_code 20 = .ok (.goto 16, 3) := by decide +kernel
theorem d8_36 : decode jdk_42_method_80_code 36 = .ok (.ireturn, 1) := by decide +kernel
theorem ef_8 (m : MethodId) (x0 : Addr) (x1 : Int32) (x2 : Int32) : entryFrame m #[(.ref x0), (.int x1), (.int x2)] 3 = mkF m 0 #[.val (.ref x0), .val (.int x1), .val (.int x2)] [] := by first | (simp [entryFrame, mkF, argsToLocals, Value.category]; done) | rfl
def Q8g (Z : State) (a1 : Addr) (p2 : Int32) (p3 : Int32) (sb1 : Addr) (kb : ClassId) (z1 : Int32) (vs : List Value) (r1 : Int32) (GC : Int32) (h0 : Heap) (n0 : Nat) (v : Option Value) (h : Heap) (L : List Loc) : Prop := own_QI r1 h0 n0 v h L
set_option maxRecDepth 65536 in
set_option maxHeartbeats 40000000 in
theorem rm8g (l : Launch) (Z : State) (a0 : Array Value) (hw : ∀ d ∈ tables_1, d.before a0 Z = true) (ws : List Jvm.Cond) (a1 : Addr) (p2 : Int32) (p3 : Int32) (sb1 : Addr) (kb : ClassId) (z1 : Int32) (vs : List Value) (r1 : Int32) (GC : Int32) (h0 : Heap) (n0 : Nat) (Z0 : n0 ≤ h0.size) (S_C : Sta Z Z.heap "java/lang/String" "COMPACT_STRINGS" "Z" (.int GC)) (hGC : ¬ GC = (0 : Int32)) (O0 : Old Z n0 h0) (E_a1 : Exa Z h0 a1 "java/lang/String") (F_c : Fld Z h0 a1 "java/lang/String" "coder" "B" (.int (0 : Int32))) (F_v : Fld Z h0 a1 "java/lang/String" "value" "[B" (.ref sb1)) (V_b : Arv Z h0 sb1 kb .byte z1 vs (.int (0 : Int32))) (hM : MetFree l own_y24 (head1 (Jvm.Cond.code own_y24 jdk_43_method_22_code 4 (some .int) :: []) ({ frames := 1, cells := 0, slots := 0, locals := 17 } : Room)) (fun a U => a = #[(.ref sb1), (.int p2), (.int p3), (.int z1)] ∧ Z.Warmed39 U.vm ∧ U.heap = h0) (fun _ _ _ _ _ => True) (fun _ U o U' => ∃ v L, o = .returned v ∧ own_QI r1 h0 n0 v U'.heap L ∧ FrameEnd U o U' L ({ frames := 1, cells := 0, slots := 0, locals := 17 } : Room).cells ({ frames := 1, cells := 0, slots := 0, locals := 17 } : Room).slots)) :
    MetFree l own_y25 (head1 (Jvm.Cond.code own_y25 jdk_42_method_80_code 3 (some .int) :: ws) ({ frames := 2, cells := 0, slots := 0, locals := 32 } : Room)) (fun a U => a = #[(.ref a1), (.int p2), (.int p3)] ∧ Z.Warmed39 U.vm ∧ U.heap = h0) (fun _ _ _ _ _ => True) (fun _ U o U' => ∃ v L, o = .returned v ∧ Q8g Z a1 p2 p3 sb1 kb z1 vs r1 GC h0 n0 v U'.heap L ∧ FrameEnd U o U' L ({ frames := 2, cells := 0, slots := 0, locals := 32 } : Room).cells ({ frames := 2, cells := 0, slots := 0, locals := 32 } : Room).slots) := by
  refine MetFree.of_bodySF (plainFor_of_name pn_8) hisR ?_
  intro p e s m args below meth c s₁ Bd hml0 hP hK
  obtain ⟨rfl, hZ, hh⟩ := hP
  have hx := Bd.exec
  have hby := Bd.bytes
  have hml : c.maxLocals = 3 := hml0
  have hown : s.vm.findClass "java/lang/String" = some m.cls := findClass_of_methodNamed Bd.named
  have hnm := (name_of_methodNamed Bd.named Bd.method).1
  have X0 : Stand p l e ({ frames := 2, cells := 0, slots := 0, locals := 32 } : Room) s m #[(.ref a1), (.int p2), (.int p3)] below meth c s₁ [] 0 0 := Stand.of_body Bd
  have e0 : s₁.heap = h0 := by rw [← hh, Bd.state]; rfl
  have N0 := Fr.nil n0
  refine own_go (B := s₁.setTop (mkF m 0 #[rv a1, iv p2, iv p3] [])) (fun t k => castTop (ef_8 m a1 p2 p3) k) ?_
  refine own_go (B := s₁.setTop (mkF m 1 #[rv a1, iv p2, iv p3] [(.ref a1)])) (fun t k => ?_) ?_
  · show own_S p e below s₁ (mkF m 0 #[rv a1, iv p2, iv p3] []) _
    refine XS.aloadN X0.here hx rfl (hb hby d8_0) rfl rfl ?_
    exact k
  obtain ⟨cq1, kq1, q1a, q1b, q1c⟩ := isOf hZ e0 E_a1
  obtain ⟨_, _, ⟨T1, L1, k1, n1⟩, -, X1, ⟨Lc1, hQ1, l1, y1, z1⟩, st1⟩ := X0.virtualBack hx (y := own_y0) (z := own_y0) hown (mvT hZ (own_w hw 44 rfl)) (mvT hZ (own_w hw 45 rfl)) (notFace_of_selects (args := #[]) (mvT hZ (own_w hw 47 rfl))) (mvT hZ (own_w hw 47 rfl)) (mvT hZ (own_w hw 46 rfl)) (by decide) (backOf (W := 0) (rm9 l Z a0 hw [] a1 GC h0 n0 Z0 S_C hGC O0 F_c) hZ (own_w hw 48 rfl) (own_w hw 11 rfl) (by decide) (by decide)) q1a q1c (g := (mkF m 1 #[rv a1, iv p2, iv p3] [(.ref a1)])) rfl (by rw [hml]; rfl) (Steps.refl _) (argsL := []) (rest := []) (lenOf own_pd3 rfl) rfl (by show 2 * 0 + _ ≤ _; exact Nat.le_of_eq rfl) (hb hby d8_1) (fun _ _ => ⟨rfl, e0, (by decide : 0 + 0 ≤ _), (by decide : 0 + 0 ≤ _)⟩)
  dsimp only [Pt.U, Pt.locs, Pt.cells, Pt.slots] at X1 l1 y1 z1 st1 hQ1
  subst l1 y1 z1
  obtain ⟨rfl, N1q, eq1⟩ := hQ1
  have N1 := Fr.app N0 N1q
  refine own_go (B := T1.setTop (mkF m 4 #[rv a1, iv p2, iv p3] [(.int 1)])) (fun t k => st1.trans k) ?_
  refine own_go (B := T1.setTop (mkF m 8 #[rv a1, iv p2, iv p3] [(.ref a1)])) (fun t k => ?_) ?_
  · show own_S p e below T1 (mkF m 4 #[rv a1, iv p2, iv p3] [(.int 1)]) _
    refine XS.ifNo X1.here hx rfl (hb hby d8_4) rfl ((if0 _ _).trans (feq (by decide)).1) ?_
    refine XS.aloadN X1.here hx rfl (hb hby d8_7) rfl rfl ?_
    exact k
  obtain ⟨T2, X2, e2, st2⟩ := getF X1 hx hZ hown (host := "") (Or.inl (own_w hw 28 rfl)) Via.refl eq1 F_v (g := (mkF m 8 #[rv a1, iv p2, iv p3] [(.ref a1)])) rfl rfl (hb hby d8_8)
  refine own_go (B := T2.setTop (mkF m 11 #[rv a1, iv p2, iv p3] [(.ref sb1)])) (fun t k => st2 _ k) ?_
  refine own_go (B := T2.setTop (mkF m 14 #[rv a1, iv p2, iv p3] [(.ref a1), (.int p3), (.int p2), (.ref sb1)])) (fun t k => ?_) ?_
  · show own_S p e below T2 (mkF m 11 #[rv a1, iv p2, iv p3] [(.ref sb1)]) _
    refine XS.iloadN X2.here hx rfl (hb hby d8_11) rfl ?_
    refine XS.iloadN X2.here hx rfl (hb hby d8_12) rfl ?_
    refine XS.aloadN X2.here hx rfl (hb hby d8_13) rfl rfl ?_
    exact k
  obtain ⟨cq3, kq3, q3a, q3b, q3c⟩ := isOf hZ e2 E_a1
  obtain ⟨_, _, ⟨T3, L3, k3, n3⟩, -, X3, ⟨Lc3, hQ3, l3, y3, z3⟩, st3⟩ := X2.virtualBack hx (y := own_y2) (z := own_y2) hown (mvT hZ (own_w hw 50 rfl)) (mvT hZ (own_w hw 51 rfl)) (notFace_of_selects (args := #[]) (mvT hZ (own_w hw 53 rfl))) (mvT hZ (own_w hw 53 rfl)) (mvT hZ (own_w hw 52 rfl)) (by decide) (backOf (W := 3) (rm10 l Z a0 hw [] a1 sb1 kb z1 vs (.int (0 : Int32)) GC h0 n0 Z0 S_C hGC O0 E_a1 F_c F_v V_b) hZ (own_w hw 54 rfl) (own_w hw 11 rfl) (by decide) (by decide)) q3a q3c (g := (mkF m 14 #[rv a1, iv p2, iv p3] [(.ref a1), (.int p3), (.int p2), (.ref sb1)])) rfl (by rw [hml]; rfl) (Steps.refl _) (argsL := []) (rest := [(.int p3), (.int p2), (.ref sb1)]) (lenOf own_pd11 rfl) rfl (by show 2 * 0 + _ ≤ _; exact Nat.le_of_eq rfl) (hb hby d8_14) (fun _ _ => ⟨rfl, e2, (by decide : 0 + 0 ≤ _), (by decide : 0 + 0 ≤ _)⟩)
  dsimp only [Pt.U, Pt.locs, Pt.cells, Pt.slots] at X3 l3 y3 z3 st3 hQ3
  subst l3 y3 z3
  obtain ⟨rfl, N3q, eq3⟩ := hQ3
  have N3 := Fr.app N1 N3q
  refine own_go (B := T3.setTop (mkF m 17 #[rv a1, iv p2, iv p3] [(.int z1), (.int p3), (.int p2), (.ref sb1)])) (fun t k => st3.trans k) ?_
  obtain ⟨_, _, ⟨T4, L4, k4, n4⟩, -, X4, ⟨Lc4, hQ4, l4, y4, z4⟩, st4⟩ := Jvm.LawKit.callS X3 hx (y := own_y24) hown (mvT hZ (own_w hw 60 rfl)) (mvT hZ (own_w hw 61 rfl)) (mvT hZ (own_w hw 62 rfl)) (mvT hZ (own_w hw 63 rfl)) (by decide) (backOf (W := 0) (hM) hZ (own_w hw 63 rfl) (own_w hw 62 rfl) (by decide) (by decide)) (g := (mkF m 17 #[rv a1, iv p2, iv p3] [(.int z1), (.int p3), (.int p2), (.ref sb1)])) rfl (by rw [hml]; rfl) (argsL := [(.ref sb1), (.int p2), (.int p3), (.int z1)]) (rest := []) (lenOf own_pd15 rfl) rfl (by show 2 * 0 + _ ≤ _; exact Nat.le_of_eq rfl) (hb hby d8_17) (fun _ _ => ⟨rfl, eq3, (by decide : 0 + 0 ≤ _), (by decide : 0 + 0 ≤ _)⟩)
  dsimp only [Pt.U, Pt.locs, Pt.cells, Pt.slots] at X4 l4 y4 z4 st4 hQ4
  subst l4 y4 z4
  obtain ⟨rfl, N4q, eq4⟩ := hQ4
  have N4 := Fr.app N3 N4q
  refine own_go (B := T4.setTop (mkF m 20 #[rv a1, iv p2, iv p3] [(.int r1)])) (fun t k => st4 _ k) ?_
  obtain ⟨fs, hr, hrun, hended, hW, hsame⟩ := X4.leave (v := some (.int r1)) (fun h => by rw [Bd.returns] at h; cases h)
  refine ⟨_, _, ?_, hrun, hended, _, _, rfl, ?_, ⟨_, rfl⟩, hW, hsame.mono (by decide) (by decide)⟩
  · show own_S p e below T4 (mkF m 20 #[rv a1, iv p2, iv p3] [(.int r1)]) _
    refine XS.goto X4.here hx rfl (pc0 := 20) (pc' := 36) rfl (hb hby d8_20) (by decide) (by decide) ?_
    show own_S p e below T4 (mkF m 36 #[rv a1, iv p2, iv p3] [(.int r1)]) _
    exact retI X4 hx Bd.returns (hb hby d8_36) hr
  · show Q8g Z a1 p2 p3 sb1 kb z1 vs r1 GC h0 n0 _ T4.heap _
    rw [eq4]
    exact ⟨rfl, N4, rfl⟩
theorem pn_7 : plainName "java/lang/String" = true := by first | (simp [plainName, overriddenIn]; done) | decide +kernel
theorem d7_0 : decode jdk_42_method_79_code 0 = .ok (.aload_n 0, 1) := by decide +kernel
theorem d7_1 : decode jdk_42_method_79_code 1 = .ok (.iload_n 1, 1) := by decide +kernel
theorem d7_2 : decode jdk_42_method_79_code 2 = .ok (.iconst 0, 1) := by decide +kernel
theorem d7_3 : decode jdk_42_method_79_code 3 = .ok (.invokevirtual 633, 3) := by decide +kernel
theorem d7_6 : decode jdk_42_method_79_code 6 = .ok (.ireturn, 1) := by decide +kernel
theorem ef_7 (m : MethodId) (x0 : Addr) (x1 : Int32) : entryFrame m #[(.ref x0), (.int x1)] 2 = mkF m 0 #[.val (.ref x0), .val (.int x1)] [] := by first | (simp [entryFrame, mkF, argsToLocals, Value.category]; done) | rfl
def Q7g (Z : State) (a1 : Addr) (p2 : Int32) (sb1 : Addr) (kb : ClassId) (z1 : Int32) (vs : List Value) (r1 : Int32) (GC : Int32) (h0 : Heap) (n0 : Nat) (v : Option Value) (h : Heap) (L : List Loc) : Prop := own_QI r1 h0 n0 v h L
set_option maxRecDepth 65536 in
set_option maxHeartbeats 40000000 in
theorem rm7g (l : Launch) (Z : State) (a0 : Array Value) (hw : ∀ d ∈ tables_1, d.before a0 Z = true) (ws : List Jvm.Cond) (a1 : Addr) (p2 : Int32) (sb1 : Addr) (kb : ClassId) (z1 : Int32) (vs : List Value) (r1 : Int32) (GC : Int32) (h0 : Heap) (n0 : Nat) (Z0 : n0 ≤ h0.size) (S_C : Sta Z Z.heap "java/lang/String" "COMPACT_STRINGS" "Z" (.int GC)) (hGC : ¬ GC = (0 : Int32)) (O0 : Old Z n0 h0) (E_a1 : Exa Z h0 a1 "java/lang/String") (F_c : Fld Z h0 a1 "java/lang/String" "coder" "B" (.int (0 : Int32))) (F_v : Fld Z h0 a1 "java/lang/String" "value" "[B" (.ref sb1)) (V_b : Arv Z h0 sb1 kb .byte z1 vs (.int (0 : Int32))) (hM : MetFree l own_y24 (head1 (Jvm.Cond.code own_y24 jdk_43_method_22_code 4 (some .int) :: []) ({ frames := 1, cells := 0, slots := 0, locals := 17 } : Room)) (fun a U => a = #[(.ref sb1), (.int p2), (.int 0), (.int z1)] ∧ Z.Warmed39 U.vm ∧ U.heap = h0) (fun _ _ _ _ _ => True) (fun _ U o U' => ∃ v L, o = .returned v ∧ own_QI r1 h0 n0 v U'.heap L ∧ FrameEnd U o U' L ({ frames := 1, cells := 0, slots := 0, locals := 17 } : Room).cells ({ frames := 1, cells := 0, slots := 0, locals := 17 } : Room).slots)) :
    MetFree l own_y26 (head1 (Jvm.Cond.code own_y26 jdk_42_method_79_code 2 (some .int) :: ws) ({ frames := 3, cells := 0, slots := 0, locals := 46 } : Room)) (fun a U => a = #[(.ref a1), (.int p2)] ∧ Z.Warmed39 U.vm ∧ U.heap = h0) (fun _ _ _ _ _ => True) (fun _ U o U' => ∃ v L, o = .returned v ∧ Q7g Z a1 p2 sb1 kb z1 vs r1 GC h0 n0 v U'.heap L ∧ FrameEnd U o U' L ({ frames := 3, cells := 0, slots := 0, locals := 46 } : Room).cells ({ frames := 3, cells := 0, slots := 0, locals := 46 } : Room).slots) := by
  refine MetFree.of_bodySF (plainFor_of_name pn_7) hisR ?_
  intro p e s m args below meth c s₁ Bd hml0 hP hK
  obtain ⟨rfl, hZ, hh⟩ := hP
  have hx := Bd.exec
  have hby := Bd.bytes
  have hml : c.maxLocals = 2 := hml0
  have hown : s.vm.findClass "java/lang/String" = some m.cls := findClass_of_methodNamed Bd.named
  have hnm := (name_of_methodNamed Bd.named Bd.method).1
  have X0 : Stand p l e ({ frames := 3, cells := 0, slots := 0, locals := 46 } : Room) s m #[(.ref a1), (.int p2)] below meth c s₁ [] 0 0 := Stand.of_body Bd
  have e0 : s₁.heap = h0 := by rw [← hh, Bd.state]; rfl
  have N0 := Fr.nil n0
  refine own_go (B := s₁.setTop (mkF m 0 #[rv a1, iv p2] [])) (fun t k => castTop (ef_7 m a1 p2) k) ?_
  refine own_go (B := s₁.setTop (mkF m 3 #[rv a1, iv p2] [(.int 0), (.int p2), (.ref a1)])) (fun t k => ?_) ?_
  · show own_S p e below s₁ (mkF m 0 #[rv a1, iv p2] []) _
    refine XS.aloadN X0.here hx rfl (hb hby d7_0) rfl rfl ?_
    refine XS.iloadN X0.here hx rfl (hb hby d7_1) rfl ?_
    refine XS.iconst X0.here hx rfl (hb hby d7_2) ?_
    exact k
  obtain ⟨cq1, kq1, q1a, q1b, q1c⟩ := isOf hZ e0 E_a1
  obtain ⟨_, _, ⟨T1, L1, k1, n1⟩, -, X1, ⟨Lc1, hQ1, l1, y1, z1⟩, st1⟩ := X0.virtualBack hx (y := own_y25) (z := own_y25) hown (mvT hZ (own_w hw 39 rfl)) (mvT hZ (own_w hw 40 rfl)) (notFace_of_selects (args := #[]) (mvT hZ (own_w hw 42 rfl))) (mvT hZ (own_w hw 42 rfl)) (mvT hZ (own_w hw 41 rfl)) (by decide) (backOf (W := 0) (rm8g l Z a0 hw [] a1 p2 (0 : Int32) sb1 kb z1 vs r1 GC h0 n0 Z0 S_C hGC O0 E_a1 F_c F_v V_b hM) hZ (own_w hw 43 rfl) (own_w hw 11 rfl) (by decide) (by decide)) q1a q1c (g := (mkF m 3 #[rv a1, iv p2] [(.int 0), (.int p2), (.ref a1)])) rfl (by rw [hml]; rfl) (Steps.refl _) (argsL := [(.int p2), (.int 0)]) (rest := []) (lenOf own_pd16 rfl) rfl (by show 2 * 0 + _ ≤ _; exact Nat.le_of_eq rfl) (hb hby d7_3) (fun _ _ => ⟨rfl, e0, (by decide : 0 + 0 ≤ _), (by decide : 0 + 0 ≤ _)⟩)
  dsimp only [Pt.U, Pt.locs, Pt.cells, Pt.slots] at X1 l1 y1 z1 st1 hQ1
  subst l1 y1 z1
  obtain ⟨rfl, N1q, eq1⟩ := hQ1
  have N1 := Fr.app N0 N1q
  refine own_go (B := T1.setTop (mkF m 6 #[rv a1, iv p2] [(.int r1)])) (fun t k => st1.trans k) ?_
  obtain ⟨fs, hr, hrun, hended, hW, hsame⟩ := X1.leave (v := some (.int r1)) (fun h => by rw [Bd.returns] at h; cases h)
  refine ⟨_, _, ?_, hrun, hended, _, _, rfl, ?_, ⟨_, rfl⟩, hW, hsame.mono (by decide) (by decide)⟩
  · show own_S p e below T1 (mkF m 6 #[rv a1, iv p2] [(.int r1)]) _
    exact retI X1 hx Bd.returns (hb hby d7_6) hr
  · show Q7g Z a1 p2 sb1 kb z1 vs r1 GC h0 n0 _ T1.heap _
    rw [eq1]
    exact ⟨rfl, N1, rfl⟩
def own_ix0  : Int32 := (-1 : Int32)
theorem pn_12 : plainName "java/lang/StringLatin1" = true := by first | (simp [plainName, overriddenIn]; done) | decide +kernel
theorem d12_0 : decode jdk_43_method_22_code 0 = .ok (.iload_n 1, 1) := by decide +kernel
theorem d12_1 : decode jdk_43_method_22_code 1 = .ok (.invokestatic 88, 3) := by decide +kernel
theorem d12_4 : decode jdk_43_method_22_code 4 = .ok (.ifCond .ne 5, 3) := by decide +kernel
theorem d12_9 : decode jdk_43_method_22_code 9 = .ok (.iload_n 2, 1) := by decide +kernel
theorem d12_10 : decode jdk_43_method_22_code 10 = .ok (.iconst 0, 1) := by decide +kernel
theorem d12_11 : decode jdk_43_method_22_code 11 = .ok (.invokestatic 92, 3) := by decide +kernel
theorem d12_14 : decode jdk_43_method_22_code 14 = .ok (.istore_n 2, 1) := by decide +kernel
theorem d12_15 : decode jdk_43_method_22_code 15 = .ok (.iload_n 3, 1) := by decide +kernel
theorem d12_16 : decode jdk_43_method_22_code 16 = .ok (.aload_n 0, 1) := by decide +kernel
theorem d12_17 : decode jdk_43_method_22_code 17 = .ok (.arraylength, 1) := by decide +kernel
theorem d12_18 : decode jdk_43_method_22_code 18 = .ok (.invokestatic 38, 3) := by decide +kernel
theorem d12_21 : decode jdk_43_method_22_code 21 = .ok (.istore_n 3, 1) := by decide +kernel
theorem d12_22 : decode jdk_43_method_22_code 22 = .ok (.iload_n 2, 1) := by decide +kernel
theorem d12_23 : decode jdk_43_method_22_code 23 = .ok (.iload_n 3, 1) := by decide +kernel
theorem d12_24 : decode jdk_43_method_22_code 24 = .ok (.if_icmp .lt 5, 3) := by decide +kernel
theorem d12_27 : decode jdk_43_method_22_code 27 = .ok (.iconst (-1), 1) := by decide +kernel
theorem d12_28 : decode jdk_43_method_22_code 28 = .ok (.ireturn, 1) := by decide +kernel
theorem ef_12 (m : MethodId) (x0 : Addr) (x1 : Int32) (x2 : Int32) (x3 : Int32) : entryFrame m #[(.ref x0), (.int x1), (.int x2), (.int x3)] 4 = mkF m 0 #[.val (.ref x0), .val (.int x1), .val (.int x2), .val (.int x3)] [] := by first | (simp [entryFrame, mkF, argsToLocals, Value.category]; done) | rfl
def Q12_0 (Z : State) (sb1 : Addr) (kb : ClassId) (r1 : Int32) (h0 : Heap) (n0 : Nat) (v : Option Value) (h : Heap) (L : List Loc) : Prop := own_QI r1 h0 n0 v h L
set_option maxRecDepth 65536 in
set_option maxHeartbeats 40000000 in
theorem rm12_0 (l : Launch) (Z : State) (a0 : Array Value) (hw : ∀ d ∈ tables_1, d.before a0 Z = true) (ws : List Jvm.Cond) (sb1 : Addr) (kb : ClassId) (r1 : Int32) (h0 : Heap) (n0 : Nat) (Z0 : n0 ≤ h0.size) (V_b : Arv Z h0 sb1 kb .byte (0 : Int32) [] (.int (0 : Int32))) (hr1 : own_ix0 = r1) :
    MetFree l own_y24 (head1 (Jvm.Cond.code own_y24 jdk_43_method_22_code 4 (some .int) :: ws) ({ frames := 1, cells := 0, slots := 0, locals := 17 } : Room)) (fun a U => a = #[(.ref sb1), (.int 63), (.int 0), (.int 0)] ∧ Z.Warmed39 U.vm ∧ U.heap = h0) (fun _ _ _ _ _ => True) (fun _ U o U' => ∃ v L, o = .returned v ∧ Q12_0 Z sb1 kb r1 h0 n0 v U'.heap L ∧ FrameEnd U o U' L ({ frames := 1, cells := 0, slots := 0, locals := 17 } : Room).cells ({ frames := 1, cells := 0, slots := 0, locals := 17 } : Room).slots) := by
  refine MetFree.of_bodySF (plainFor_of_name pn_12) hisR ?_
  intro p e s m args below meth c s₁ Bd hml0 hP hK
  obtain ⟨rfl, hZ, hh⟩ := hP
  have hx := Bd.exec
  have hby := Bd.bytes
  have hml : c.maxLocals = 4 := hml0
  have hown : s.vm.findClass "java/lang/StringLatin1" = some m.cls := findClass_of_methodNamed Bd.named
  have hnm := (name_of_methodNamed Bd.named Bd.method).1
  have X0 : Stand p l e ({ frames := 1, cells := 0, slots := 0, locals := 17 } : Room) s m #[(.ref sb1), (.int 63), (.int 0), (.int 0)] below meth c s₁ [] 0 0 := Stand.of_body Bd
  have e0 : s₁.heap = h0 := by rw [← hh, Bd.state]; rfl
  have N0 := Fr.nil n0
  refine own_go (B := s₁.setTop (mkF m 0 #[rv sb1, iv 63, iv 0, iv 0] [])) (fun t k => castTop (ef_12 m sb1 (63 : Int32) (0 : Int32) (0 : Int32)) k) ?_
  refine own_go (B := s₁.setTop (mkF m 1 #[rv sb1, iv 63, iv 0, iv 0] [(.int 63)])) (fun t k => ?_) ?_
  · show own_S p e below s₁ (mkF m 0 #[rv sb1, iv 63, iv 0, iv 0] []) _
    refine XS.iloadN X0.here hx rfl (hb hby d12_0) rfl ?_
    exact k
  obtain ⟨_, _, ⟨T1, L1, k1, n1⟩, -, X1, ⟨Lc1, hQ1, l1, y1, z1⟩, st1⟩ := Jvm.LawKit.callS X0 hx (y := own_y12) hown (mvT hZ (own_w hw 64 rfl)) (mvT hZ (own_w hw 65 rfl)) (mvT hZ (own_w hw 62 rfl)) (mvT hZ (own_w hw 66 rfl)) (by decide) (backOf (W := 0) (rm13 l Z a0 hw [] h0 n0 Z0) hZ (own_w hw 66 rfl) (own_w hw 62 rfl) (by decide) (by decide)) (g := (mkF m 1 #[rv sb1, iv 63, iv 0, iv 0] [(.int 63)])) rfl (by rw [hml]; rfl) (argsL := [(.int 63)]) (rest := []) (lenOf own_pd17 rfl) rfl (by show 2 * 0 + _ ≤ _; exact Nat.le_of_eq rfl) (hb hby d12_1) (fun _ _ => ⟨rfl, e0, (by decide : 0 + 0 ≤ _), (by decide : 0 + 0 ≤ _)⟩)
  dsimp only [Pt.U, Pt.locs, Pt.cells, Pt.slots] at X1 l1 y1 z1 st1 hQ1
  subst l1 y1 z1
  obtain ⟨rfl, N1q, eq1⟩ := hQ1
  have N1 := Fr.app N0 N1q
  refine own_go (B := T1.setTop (mkF m 4 #[rv sb1, iv 63, iv 0, iv 0] [(.int 1)])) (fun t k => st1 _ k) ?_
  refine own_go (B := T1.setTop (mkF m 11 #[rv sb1, iv 63, iv 0, iv 0] [(.int 0), (.int 0)])) (fun t k => ?_) ?_
  · show own_S p e below T1 (mkF m 4 #[rv sb1, iv 63, iv 0, iv 0] [(.int 1)]) _
    refine XS.ifYes X1.here hx rfl (pc0 := 4) (pc' := 9) rfl (hb hby d12_4) rfl ((if0 _ _).trans (feq (by decide)).2) (by decide) (by decide) ?_
    refine XS.iloadN X1.here hx rfl (hb hby d12_9) rfl ?_
    refine XS.iconst X1.here hx rfl (hb hby d12_10) ?_
    exact k
  obtain ⟨_, _, ⟨T2, L2, k2, n2⟩, -, X2, ⟨Lc2, hQ2, l2, y2, z2⟩, st2⟩ := Jvm.LawKit.callS X1 hx (y := own_y13) hown (mvT hZ (own_w hw 67 rfl)) (mvT hZ (own_w hw 68 rfl)) (mvT hZ (own_w hw 69 rfl)) (mvT hZ (own_w hw 70 rfl)) (by decide) (backOf (W := 0) (rm14 l Z a0 hw [] (0 : Int32) (0 : Int32) (0 : Int32) h0 n0 Z0 (by decide)) hZ (own_w hw 70 rfl) (own_w hw 69 rfl) (by decide) (by decide)) (g := (mkF m 11 #[rv sb1, iv 63, iv 0, iv 0] [(.int 0), (.int 0)])) rfl (by rw [hml]; rfl) (argsL := [(.int 0), (.int 0)]) (rest := []) (lenOf own_pd16 rfl) rfl (by show 2 * 0 + _ ≤ _; exact Nat.le_of_eq rfl) (hb hby d12_11) (fun _ _ => ⟨rfl, eq1, (by decide : 0 + 0 ≤ _), (by decide : 0 + 0 ≤ _)⟩)
  dsimp only [Pt.U, Pt.locs, Pt.cells, Pt.slots] at X2 l2 y2 z2 st2 hQ2
  subst l2 y2 z2
  obtain ⟨rfl, N2q, eq2⟩ := hQ2
  have N2 := Fr.app N1 N2q
  refine own_go (B := T2.setTop (mkF m 14 #[rv sb1, iv 63, iv 0, iv 0] [(.int 0)])) (fun t k => st2 _ k) ?_
  obtain ⟨cl3, Ar3, qk3, S3, M3, H3, G3⟩ := id V_b
  refine own_go (B := T2.setTop (mkF m 18 #[rv sb1, iv 63, iv 0, iv 0] [(.int 0), (.int 0)])) (fun t k => ?_) ?_
  · show own_S p e below T2 (mkF m 14 #[rv sb1, iv 63, iv 0, iv 0] [(.int 0)]) _
    refine XS.istoreN X2.here hx rfl (hb hby d12_14) rfl (l' := #[rv sb1, iv 63, iv 0, iv 0]) rfl ?_
    refine XS.iloadN X2.here hx rfl (hb hby d12_15) rfl ?_
    refine XS.aloadN X2.here hx rfl (hb hby d12_16) rfl rfl ?_
    show own_S p e below T2 (mkF m 17 #[rv sb1, iv 63, iv 0, iv 0] [(.ref sb1), (.int 0)]) _
    refine X2.arraylength hx (by rw [eq2]; exact Ar3.1) (State.isArrayOf_alike hZ.alike Ar3.2.1) (g := (mkF m 17 #[rv sb1, iv 63, iv 0, iv 0] [(.ref sb1), (.int 0)])) rfl rfl (hb hby d12_17) _ ?_
    rw [len_of S3 M3]
    exact k
  obtain ⟨_, _, ⟨T4, L4, k4, n4⟩, -, X4, ⟨Lc4, hQ4, l4, y4, z4⟩, st4⟩ := Jvm.LawKit.callS X2 hx (y := own_y14) hown (mvT hZ (own_w hw 71 rfl)) (mvT hZ (own_w hw 72 rfl)) (mvT hZ (own_w hw 69 rfl)) (mvT hZ (own_w hw 73 rfl)) (by decide) (backOf (W := 0) (rm15 l Z a0 hw [] (0 : Int32) (0 : Int32) (0 : Int32) h0 n0 Z0 (by decide)) hZ (own_w hw 73 rfl) (own_w hw 69 rfl) (by decide) (by decide)) (g := (mkF m 18 #[rv sb1, iv 63, iv 0, iv 0] [(.int 0), (.int 0)])) rfl (by rw [hml]; rfl) (argsL := [(.int 0), (.int 0)]) (rest := []) (lenOf own_pd16 rfl) rfl (by show 2 * 0 + _ ≤ _; exact Nat.le_of_eq rfl) (hb hby d12_18) (fun _ _ => ⟨rfl, eq2, (by decide : 0 + 0 ≤ _), (by decide : 0 + 0 ≤ _)⟩)
  dsimp only [Pt.U, Pt.locs, Pt.cells, Pt.slots] at X4 l4 y4 z4 st4 hQ4
  subst l4 y4 z4
  obtain ⟨rfl, N4q, eq4⟩ := hQ4
  have N4 := Fr.app N2 N4q
  refine own_go (B := T4.setTop (mkF m 21 #[rv sb1, iv 63, iv 0, iv 0] [(.int 0)])) (fun t k => st4 _ k) ?_
  obtain ⟨fs, hr, hrun, hended, hW, hsame⟩ := X4.leave (v := some (.int (-1))) (fun h => by rw [Bd.returns] at h; cases h)
  refine ⟨_, _, ?_, hrun, hended, _, _, rfl, ?_, ⟨_, rfl⟩, hW, hsame.mono (by decide) (by decide)⟩
  · show own_S p e below T4 (mkF m 21 #[rv sb1, iv 63, iv 0, iv 0] [(.int 0)]) _
    refine XS.istoreN X4.here hx rfl (hb hby d12_21) rfl (l' := #[rv sb1, iv 63, iv 0, iv 0]) rfl ?_
    refine XS.iloadN X4.here hx rfl (hb hby d12_22) rfl ?_
    refine XS.iloadN X4.here hx rfl (hb hby d12_23) rfl ?_
    show own_S p e below T4 (mkF m 24 #[rv sb1, iv 63, iv 0, iv 0] [(.int 0), (.int 0)]) _
    refine XS.icmpNo X4.here hx rfl (hb hby d12_24) rfl (flt (by decide)).1 ?_
    refine XS.iconst X4.here hx rfl (hb hby d12_27) ?_
    show own_S p e below T4 (mkF m 28 #[rv sb1, iv 63, iv 0, iv 0] [(.int (-1))]) _
    exact retI X4 hx Bd.returns (hb hby d12_28) hr
  · show Q12_0 Z sb1 kb r1 h0 n0 _ T4.heap _
    rw [eq4]
    exact ⟨by first | (rw [← hr1]; done) | (rw [← hr1]; rfl), N4, rfl⟩
def own_ix1 (x0 : Int32) : Int32 := (if x0 = ((63 : Int32).toInt8.toInt32) then (0 : Int32) else (-1 : Int32))
theorem pn_20 : plainName "java/lang/StringLatin1" = true := by first | (simp [plainName, overriddenIn]; done) | decide +kernel
theorem d20_0 : decode jdk_43_method_23_code 0 = .ok (.iload_n 1, 1) := by decide +kernel
theorem d20_1 : decode jdk_43_method_23_code 1 = .ok (.i2b, 1) := by decide +kernel
theorem d20_2 : decode jdk_43_method_23_code 2 = .ok (.istore 4, 2) := by decide +kernel
theorem d20_4 : decode jdk_43_method_23_code 4 = .ok (.iload_n 2, 1) := by decide +kernel
theorem d20_5 : decode jdk_43_method_23_code 5 = .ok (.istore 5, 2) := by decide +kernel
theorem d20_7 : decode jdk_43_method_23_code 7 = .ok (.iload 5, 2) := by decide +kernel
theorem d20_9 : decode jdk_43_method_23_code 9 = .ok (.iload_n 3, 1) := by decide +kernel
theorem d20_10 : decode jdk_43_method_23_code 10 = .ok (.if_icmp .ge 21, 3) := by decide +kernel
theorem d20_13 : decode jdk_43_method_23_code 13 = .ok (.aload_n 0, 1) := by decide +kernel
theorem d20_14 : decode jdk_43_method_23_code 14 = .ok (.iload 5, 2) := by decide +kernel
theorem d20_16 : decode jdk_43_method_23_code 16 = .ok (.baload, 1) := by decide +kernel
theorem d20_17 : decode jdk_43_method_23_code 17 = .ok (.iload 4, 2) := by decide +kernel
theorem d20_19 : decode jdk_43_method_23_code 19 = .ok (.if_icmp .ne 6, 3) := by decide +kernel
theorem d20_22 : decode jdk_43_method_23_code 22 = .ok (.iload 5, 2) := by decide +kernel
theorem d20_24 : decode jdk_43_method_23_code 24 = .ok (.ireturn, 1) := by decide +kernel
theorem d20_25 : decode jdk_43_method_23_code 25 = .ok (.iinc 5 1, 3) := by decide +kernel
theorem d20_28 : decode jdk_43_method_23_code 28 = .ok (.goto (-21), 3) := by decide +kernel
theorem d20_31 : decode jdk_43_method_23_code 31 = .ok (.iconst (-1), 1) := by decide +kernel
theorem d20_32 : decode jdk_43_method_23_code 32 = .ok (.ireturn, 1) := by decide +kernel
theorem ef_20 (m : MethodId) (x0 : Addr) (x1 : Int32) (x2 : Int32) (x3 : Int32) : entryFrame m #[(.ref x0), (.int x1), (.int x2), (.int x3)] 6 = mkF m 0 #[.val (.ref x0), .val (.int x1), .val (.int x2), .val (.int x3), .unset, .unset] [] := by first | (simp [entryFrame, mkF, argsToLocals, Value.category]; done) | rfl
def Q20_1 (Z : State) (sb1 : Addr) (kb : ClassId) (x0 : Int32) (h0 : Heap) (n0 : Nat) (v : Option Value) (h : Heap) (L : List Loc) : Prop := own_QI (own_ix1 x0) h0 n0 v h L
set_option maxRecDepth 65536 in
set_option maxHeartbeats 40000000 in
theorem rm20_1 (l : Launch) (Z : State) (a0 : Array Value) (hw : ∀ d ∈ tables_1, d.before a0 Z = true) (ws : List Jvm.Cond) (sb1 : Addr) (kb : ClassId) (x0 : Int32) (h0 : Heap) (n0 : Nat) (Z0 : n0 ≤ h0.size) (V_b : Arv Z h0 sb1 kb .byte (1 : Int32) [(.int x0)] (.int (0 : Int32))) :
    MetFree l own_y27 (head1 (Jvm.Cond.code own_y27 jdk_43_method_23_code 6 (some .int) :: ws) ({ frames := 0, cells := 0, slots := 0, locals := 0 } : Room)) (fun a U => a = #[(.ref sb1), (.int 63), (.int 0), (.int 1)] ∧ Z.Warmed39 U.vm ∧ U.heap = h0) (fun _ _ _ _ _ => True) (fun _ U o U' => ∃ v L, o = .returned v ∧ Q20_1 Z sb1 kb x0 h0 n0 v U'.heap L ∧ FrameEnd U o U' L ({ frames := 0, cells := 0, slots := 0, locals := 0 } : Room).cells ({ frames := 0, cells := 0, slots := 0, locals := 0 } : Room).slots) := by
  refine MetFree.of_bodySF (plainFor_of_name pn_20) hisR ?_
  intro p e s m args below meth c s₁ Bd hml0 hP hK
  obtain ⟨rfl, hZ, hh⟩ := hP
  have hx := Bd.exec
  have hby := Bd.bytes
  have hml : c.maxLocals = 6 := hml0
  have hown : s.vm.findClass "java/lang/StringLatin1" = some m.cls := findClass_of_methodNamed Bd.named
  have hnm := (name_of_methodNamed Bd.named Bd.method).1
  have X0 : Stand p l e ({ frames := 0, cells := 0, slots := 0, locals := 0 } : Room) s m #[(.ref sb1), (.int 63), (.int 0), (.int 1)] below meth c s₁ [] 0 0 := Stand.of_body Bd
  have e0 : s₁.heap = h0 := by rw [← hh, Bd.state]; rfl
  have N0 := Fr.nil n0
  refine own_go (B := s₁.setTop (mkF m 0 #[rv sb1, iv 63, iv 0, iv 1, .unset, .unset] [])) (fun t k => castTop (ef_20 m sb1 (63 : Int32) (0 : Int32) (1 : Int32)) k) ?_
  obtain ⟨cl1, Ar1, qk1, S1, M1, H1, G1⟩ := id V_b
  refine own_go (B := s₁.setTop (mkF m 19 #[rv sb1, iv 63, iv 0, iv 1, iv ((63 : Int32).toInt8.toInt32), iv 0] [(.int ((63 : Int32).toInt8.toInt32)), (.int x0)])) (fun t k => ?_) ?_
  · show own_S p e below s₁ (mkF m 0 #[rv sb1, iv 63, iv 0, iv 1, .unset, .unset] []) _
    refine XS.iloadN X0.here hx rfl (hb hby d20_0) rfl ?_
    refine XS.i2b X0.here hx rfl (hb hby d20_1) rfl ?_
    refine XS.istore X0.here hx rfl (hb hby d20_2) rfl (l' := #[rv sb1, iv 63, iv 0, iv 1, iv ((63 : Int32).toInt8.toInt32), .unset]) rfl ?_
    show own_S p e below s₁ (mkF m 4 #[rv sb1, iv 63, iv 0, iv 1, iv ((63 : Int32).toInt8.toInt32), .unset] []) _
    refine XS.iloadN X0.here hx rfl (hb hby d20_4) rfl ?_
    refine XS.istore X0.here hx rfl (hb hby d20_5) rfl (l' := #[rv sb1, iv 63, iv 0, iv 1, iv ((63 : Int32).toInt8.toInt32), iv 0]) rfl ?_
    refine XS.iload X0.here hx rfl (hb hby d20_7) rfl ?_
    show own_S p e below s₁ (mkF m 9 #[rv sb1, iv 63, iv 0, iv 1, iv ((63 : Int32).toInt8.toInt32), iv 0] [(.int 0)]) _
    refine XS.iloadN X0.here hx rfl (hb hby d20_9) rfl ?_
    refine XS.icmpNo X0.here hx rfl (hb hby d20_10) rfl (tlt (by decide)).2.1 ?_
    refine XS.aloadN X0.here hx rfl (hb hby d20_13) rfl rfl ?_
    show own_S p e below s₁ (mkF m 14 #[rv sb1, iv 63, iv 0, iv 1, iv ((63 : Int32).toInt8.toInt32), iv 0] [(.ref sb1)]) _
    refine XS.iload X0.here hx rfl (hb hby d20_14) rfl ?_
    refine X0.baloadBytes hx (j := (0 : Int32)) (v := (.int x0)) (by rw [e0]; exact Ar1.1) (State.isArrayOf_alike hZ.alike Ar1.2.1) Ar1.2.2 (inb_of S1 ⟨by decide, by decide⟩) (Has.at H1 (inb_of S1 ⟨by decide, by decide⟩) rfl) (g := (mkF m 16 #[rv sb1, iv 63, iv 0, iv 1, iv ((63 : Int32).toInt8.toInt32), iv 0] [(.int 0), (.ref sb1)])) rfl rfl (hb hby d20_16) _ ?_
    refine XS.iload X0.here hx rfl (hb hby d20_17) rfl ?_
    exact k
  by_cases hc19_2 : x0 = ((63 : Int32).toInt8.toInt32)
  · obtain ⟨fs, hr, hrun, hended, hW, hsame⟩ := X0.leave (v := some (.int 0)) (fun h => by rw [Bd.returns] at h; cases h)
    refine ⟨_, _, ?_, hrun, hended, _, _, rfl, ?_, ⟨_, rfl⟩, hW, hsame.mono (by decide) (by decide)⟩
    · show own_S p e below s₁ (mkF m 19 #[rv sb1, iv 63, iv 0, iv 1, iv ((63 : Int32).toInt8.toInt32), iv 0] [(.int ((63 : Int32).toInt8.toInt32)), (.int x0)]) _
      refine XS.icmpNo X0.here hx rfl (hb hby d20_19) rfl (teq hc19_2).2 ?_
      refine XS.iload X0.here hx rfl (hb hby d20_22) rfl ?_
      show own_S p e below s₁ (mkF m 24 #[rv sb1, iv 63, iv 0, iv 1, iv ((63 : Int32).toInt8.toInt32), iv 0] [(.int 0)]) _
      exact retI X0 hx Bd.returns (hb hby d20_24) hr
    · show Q20_1 Z sb1 kb x0 h0 n0 _ s₁.heap _
      rw [e0]
      exact ⟨by rw [own_ix1, if_pos hc19_2], N0, rfl⟩
  · obtain ⟨fs, hr, hrun, hended, hW, hsame⟩ := X0.leave (v := some (.int (-1))) (fun h => by rw [Bd.returns] at h; cases h)
    refine ⟨_, _, ?_, hrun, hended, _, _, rfl, ?_, ⟨_, rfl⟩, hW, hsame.mono (by decide) (by decide)⟩
    · show own_S p e below s₁ (mkF m 19 #[rv sb1, iv 63, iv 0, iv 1, iv ((63 : Int32).toInt8.toInt32), iv 0] [(.int ((63 : Int32).toInt8.toInt32)), (.int x0)]) _
      refine XS.icmpYes X0.here hx rfl (pc0 := 19) (pc' := 25) rfl (hb hby d20_19) rfl (feq hc19_2).2 (by decide) (by decide) ?_
      refine XS.iinc X0.here hx rfl (hb hby d20_25) rfl (l' := #[rv sb1, iv 63, iv 0, iv 1, iv ((63 : Int32).toInt8.toInt32), iv 1]) rfl ?_
      refine XS.goto X0.here hx rfl (pc0 := 28) (pc' := 7) rfl (hb hby d20_28) (by decide) (by decide) ?_
      show own_S p e below s₁ (mkF m 7 #[rv sb1, iv 63, iv 0, iv 1, iv ((63 : Int32).toInt8.toInt32), iv 1] []) _
      refine XS.iload X0.here hx rfl (hb hby d20_7) rfl ?_
      refine XS.iloadN X0.here hx rfl (hb hby d20_9) rfl ?_
      refine XS.icmpYes X0.here hx rfl (pc0 := 10) (pc' := 31) rfl (hb hby d20_10) rfl (flt (by decide)).2.1 (by decide) (by decide) ?_
      show own_S p e below s₁ (mkF m 31 #[rv sb1, iv 63, iv 0, iv 1, iv ((63 : Int32).toInt8.toInt32), iv 1] []) _
      refine XS.iconst X0.here hx rfl (hb hby d20_31) ?_
      show own_S p e below s₁ (mkF m 32 #[rv sb1, iv 63, iv 0, iv 1, iv ((63 : Int32).toInt8.toInt32), iv 1] [(.int (-1))]) _
      exact retI X0 hx Bd.returns (hb hby d20_32) hr
    · show Q20_1 Z sb1 kb x0 h0 n0 _ s₁.heap _
      rw [e0]
      exact ⟨by rw [own_ix1, if_neg hc19_2], N0, rfl⟩
theorem d12_29 : decode jdk_43_method_22_code 29 = .ok (.aload_n 0, 1) := by decide +kernel
theorem d12_30 : decode jdk_43_method_22_code 30 = .ok (.iload_n 1, 1) := by decide +kernel
theorem d12_31 : decode jdk_43_method_22_code 31 = .ok (.iload_n 2, 1) := by decide +kernel
theorem d12_32 : decode jdk_43_method_22_code 32 = .ok (.iload_n 3, 1) := by decide +kernel
theorem d12_33 : decode jdk_43_method_22_code 33 = .ok (.invokestatic 95, 3) := by decide +kernel
theorem d12_36 : decode jdk_43_method_22_code 36 = .ok (.ireturn, 1) := by decide +kernel
def Q12_1 (Z : State) (sb1 : Addr) (kb : ClassId) (x0 : Int32) (r1 : Int32) (h0 : Heap) (n0 : Nat) (v : Option Value) (h : Heap) (L : List Loc) : Prop := own_QI r1 h0 n0 v h L
set_option maxRecDepth 65536 in
set_option maxHeartbeats 40000000 in
theorem rm12_1 (l : Launch) (Z : State) (a0 : Array Value) (hw : ∀ d ∈ tables_1, d.before a0 Z = true) (ws : List Jvm.Cond) (sb1 : Addr) (kb : ClassId) (x0 : Int32) (r1 : Int32) (h0 : Heap) (n0 : Nat) (Z0 : n0 ≤ h0.size) (V_b : Arv Z h0 sb1 kb .byte (1 : Int32) [(.int x0)] (.int (0 : Int32))) (hr1 : (own_ix1 x0) = r1) :
    MetFree l own_y24 (head1 (Jvm.Cond.code own_y24 jdk_43_method_22_code 4 (some .int) :: ws) ({ frames := 1, cells := 0, slots := 0, locals := 17 } : Room)) (fun a U => a = #[(.ref sb1), (.int 63), (.int 0), (.int 1)] ∧ Z.Warmed39 U.vm ∧ U.heap = h0) (fun _ _ _ _ _ => True) (fun _ U o U' => ∃ v L, o = .returned v ∧ Q12_1 Z sb1 kb x0 r1 h0 n0 v U'.heap L ∧ FrameEnd U o U' L ({ frames := 1, cells := 0, slots := 0, locals := 17 } : Room).cells ({ frames := 1, cells := 0, slots := 0, locals := 17 } : Room).slots) := by
  refine MetFree.of_bodySF (plainFor_of_name pn_12) hisR ?_
  intro p e s m args below meth c s₁ Bd hml0 hP hK
  obtain ⟨rfl, hZ, hh⟩ := hP
  have hx := Bd.exec
  have hby := Bd.bytes
  have hml : c.maxLocals = 4 := hml0
  have hown : s.vm.findClass "java/lang/StringLatin1" = some m.cls := findClass_of_methodNamed Bd.named
  have hnm := (name_of_methodNamed Bd.named Bd.method).1
  have X0 : Stand p l e ({ frames := 1, cells := 0, slots := 0, locals := 17 } : Room) s m #[(.ref sb1), (.int 63), (.int 0), (.int 1)] below meth c s₁ [] 0 0 := Stand.of_body Bd
  have e0 : s₁.heap = h0 := by rw [← hh, Bd.state]; rfl
  have N0 := Fr.nil n0
  refine own_go (B := s₁.setTop (mkF m 0 #[rv sb1, iv 63, iv 0, iv 1] [])) (fun t k => castTop (ef_12 m sb1 (63 : Int32) (0 : Int32) (1 : Int32)) k) ?_
  refine own_go (B := s₁.setTop (mkF m 1 #[rv sb1, iv 63, iv 0, iv 1] [(.int 63)])) (fun t k => ?_) ?_
  · show own_S p e below s₁ (mkF m 0 #[rv sb1, iv 63, iv 0, iv 1] []) _
    refine XS.iloadN X0.here hx rfl (hb hby d12_0) rfl ?_
    exact k
  obtain ⟨_, _, ⟨T1, L1, k1, n1⟩, -, X1, ⟨Lc1, hQ1, l1, y1, z1⟩, st1⟩ := Jvm.LawKit.callS X0 hx (y := own_y12) hown (mvT hZ (own_w hw 64 rfl)) (mvT hZ (own_w hw 65 rfl)) (mvT hZ (own_w hw 62 rfl)) (mvT hZ (own_w hw 66 rfl)) (by decide) (backOf (W := 0) (rm13 l Z a0 hw [] h0 n0 Z0) hZ (own_w hw 66 rfl) (own_w hw 62 rfl) (by decide) (by decide)) (g := (mkF m 1 #[rv sb1, iv 63, iv 0, iv 1] [(.int 63)])) rfl (by rw [hml]; rfl) (argsL := [(.int 63)]) (rest := []) (lenOf own_pd17 rfl) rfl (by show 2 * 0 + _ ≤ _; exact Nat.le_of_eq rfl) (hb hby d12_1) (fun _ _ => ⟨rfl, e0, (by decide : 0 + 0 ≤ _), (by decide : 0 + 0 ≤ _)⟩)
  dsimp only [Pt.U, Pt.locs, Pt.cells, Pt.slots] at X1 l1 y1 z1 st1 hQ1
  subst l1 y1 z1
  obtain ⟨rfl, N1q, eq1⟩ := hQ1
  have N1 := Fr.app N0 N1q
  refine own_go (B := T1.setTop (mkF m 4 #[rv sb1, iv 63, iv 0, iv 1] [(.int 1)])) (fun t k => st1 _ k) ?_
  refine own_go (B := T1.setTop (mkF m 11 #[rv sb1, iv 63, iv 0, iv 1] [(.int 0), (.int 0)])) (fun t k => ?_) ?_
  · show own_S p e below T1 (mkF m 4 #[rv sb1, iv 63, iv 0, iv 1] [(.int 1)]) _
    refine XS.ifYes X1.here hx rfl (pc0 := 4) (pc' := 9) rfl (hb hby d12_4) rfl ((if0 _ _).trans (feq (by decide)).2) (by decide) (by decide) ?_
    refine XS.iloadN X1.here hx rfl (hb hby d12_9) rfl ?_
    refine XS.iconst X1.here hx rfl (hb hby d12_10) ?_
    exact k
  obtain ⟨_, _, ⟨T2, L2, k2, n2⟩, -, X2, ⟨Lc2, hQ2, l2, y2, z2⟩, st2⟩ := Jvm.LawKit.callS X1 hx (y := own_y13) hown (mvT hZ (own_w hw 67 rfl)) (mvT hZ (own_w hw 68 rfl)) (mvT hZ (own_w hw 69 rfl)) (mvT hZ (own_w hw 70 rfl)) (by decide) (backOf (W := 0) (rm14 l Z a0 hw [] (0 : Int32) (0 : Int32) (0 : Int32) h0 n0 Z0 (by decide)) hZ (own_w hw 70 rfl) (own_w hw 69 rfl) (by decide) (by decide)) (g := (mkF m 11 #[rv sb1, iv 63, iv 0, iv 1] [(.int 0), (.int 0)])) rfl (by rw [hml]; rfl) (argsL := [(.int 0), (.int 0)]) (rest := []) (lenOf own_pd16 rfl) rfl (by show 2 * 0 + _ ≤ _; exact Nat.le_of_eq rfl) (hb hby d12_11) (fun _ _ => ⟨rfl, eq1, (by decide : 0 + 0 ≤ _), (by decide : 0 + 0 ≤ _)⟩)
  dsimp only [Pt.U, Pt.locs, Pt.cells, Pt.slots] at X2 l2 y2 z2 st2 hQ2
  subst l2 y2 z2
  obtain ⟨rfl, N2q, eq2⟩ := hQ2
  have N2 := Fr.app N1 N2q
  refine own_go (B := T2.setTop (mkF m 14 #[rv sb1, iv 63, iv 0, iv 1] [(.int 0)])) (fun t k => st2 _ k) ?_
  obtain ⟨cl3, Ar3, qk3, S3, M3, H3, G3⟩ := id V_b
  refine own_go (B := T2.setTop (mkF m 18 #[rv sb1, iv 63, iv 0, iv 1] [(.int 1), (.int 1)])) (fun t k => ?_) ?_
  · show own_S p e below T2 (mkF m 14 #[rv sb1, iv 63, iv 0, iv 1] [(.int 0)]) _
    refine XS.istoreN X2.here hx rfl (hb hby d12_14) rfl (l' := #[rv sb1, iv 63, iv 0, iv 1]) rfl ?_
    refine XS.iloadN X2.here hx rfl (hb hby d12_15) rfl ?_
    refine XS.aloadN X2.here hx rfl (hb hby d12_16) rfl rfl ?_
    show own_S p e below T2 (mkF m 17 #[rv sb1, iv 63, iv 0, iv 1] [(.ref sb1), (.int 1)]) _
    refine X2.arraylength hx (by rw [eq2]; exact Ar3.1) (State.isArrayOf_alike hZ.alike Ar3.2.1) (g := (mkF m 17 #[rv sb1, iv 63, iv 0, iv 1] [(.ref sb1), (.int 1)])) rfl rfl (hb hby d12_17) _ ?_
    rw [len_of S3 M3]
    exact k
  obtain ⟨_, _, ⟨T4, L4, k4, n4⟩, -, X4, ⟨Lc4, hQ4, l4, y4, z4⟩, st4⟩ := Jvm.LawKit.callS X2 hx (y := own_y14) hown (mvT hZ (own_w hw 71 rfl)) (mvT hZ (own_w hw 72 rfl)) (mvT hZ (own_w hw 69 rfl)) (mvT hZ (own_w hw 73 rfl)) (by decide) (backOf (W := 0) (rm15 l Z a0 hw [] (1 : Int32) (1 : Int32) (1 : Int32) h0 n0 Z0 (by decide)) hZ (own_w hw 73 rfl) (own_w hw 69 rfl) (by decide) (by decide)) (g := (mkF m 18 #[rv sb1, iv 63, iv 0, iv 1] [(.int 1), (.int 1)])) rfl (by rw [hml]; rfl) (argsL := [(.int 1), (.int 1)]) (rest := []) (lenOf own_pd16 rfl) rfl (by show 2 * 0 + _ ≤ _; exact Nat.le_of_eq rfl) (hb hby d12_18) (fun _ _ => ⟨rfl, eq2, (by decide : 0 + 0 ≤ _), (by decide : 0 + 0 ≤ _)⟩)
  dsimp only [Pt.U, Pt.locs, Pt.cells, Pt.slots] at X4 l4 y4 z4 st4 hQ4
  subst l4 y4 z4
  obtain ⟨rfl, N4q, eq4⟩ := hQ4
  have N4 := Fr.app N2 N4q
  refine own_go (B := T4.setTop (mkF m 21 #[rv sb1, iv 63, iv 0, iv 1] [(.int 1)])) (fun t k => st4 _ k) ?_
  refine own_go (B := T4.setTop (mkF m 33 #[rv sb1, iv 63, iv 0, iv 1] [(.int 1), (.int 0), (.int 63), (.ref sb1)])) (fun t k => ?_) ?_
  · show own_S p e below T4 (mkF m 21 #[rv sb1, iv 63, iv 0, iv 1] [(.int 1)]) _
    refine XS.istoreN X4.here hx rfl (hb hby d12_21) rfl (l' := #[rv sb1, iv 63, iv 0, iv 1]) rfl ?_
    refine XS.iloadN X4.here hx rfl (hb hby d12_22) rfl ?_
    refine XS.iloadN X4.here hx rfl (hb hby d12_23) rfl ?_
    show own_S p e below T4 (mkF m 24 #[rv sb1, iv 63, iv 0, iv 1] [(.int 1), (.int 0)]) _
    refine XS.icmpYes X4.here hx rfl (pc0 := 24) (pc' := 29) rfl (hb hby d12_24) rfl (tlt (by decide)).1 (by decide) (by decide) ?_
    refine XS.aloadN X4.here hx rfl (hb hby d12_29) rfl rfl ?_
    refine XS.iloadN X4.here hx rfl (hb hby d12_30) rfl ?_
    show own_S p e below T4 (mkF m 31 #[rv sb1, iv 63, iv 0, iv 1] [(.int 63), (.ref sb1)]) _
    refine XS.iloadN X4.here hx rfl (hb hby d12_31) rfl ?_
    refine XS.iloadN X4.here hx rfl (hb hby d12_32) rfl ?_
    exact k
  obtain ⟨_, _, ⟨T5, L5, k5, n5⟩, -, X5, ⟨Lc5, hQ5, l5, y5, z5⟩, st5⟩ := Jvm.LawKit.callS X4 hx (y := own_y27) hown (mvT hZ (own_w hw 89 rfl)) (mvT hZ (own_w hw 90 rfl)) (mvT hZ (own_w hw 62 rfl)) (mvT hZ (own_w hw 91 rfl)) (by decide) (backOf (W := 0) (rm20_1 l Z a0 hw [] sb1 kb x0 h0 n0 Z0 V_b) hZ (own_w hw 91 rfl) (own_w hw 62 rfl) (by decide) (by decide)) (g := (mkF m 33 #[rv sb1, iv 63, iv 0, iv 1] [(.int 1), (.int 0), (.int 63), (.ref sb1)])) rfl (by rw [hml]; rfl) (argsL := [(.ref sb1), (.int 63), (.int 0), (.int 1)]) (rest := []) (lenOf own_pd15 rfl) rfl (by show 2 * 0 + _ ≤ _; exact Nat.le_of_eq rfl) (hb hby d12_33) (fun _ _ => ⟨rfl, eq4, (by decide : 0 + 0 ≤ _), (by decide : 0 + 0 ≤ _)⟩)
  dsimp only [Pt.U, Pt.locs, Pt.cells, Pt.slots] at X5 l5 y5 z5 st5 hQ5
  subst l5 y5 z5
  obtain ⟨rfl, N5q, eq5⟩ := hQ5
  have N5 := Fr.app N4 N5q
  refine own_go (B := T5.setTop (mkF m 36 #[rv sb1, iv 63, iv 0, iv 1] [(.int (own_ix1 x0))])) (fun t k => st5 _ k) ?_
  obtain ⟨fs, hr, hrun, hended, hW, hsame⟩ := X5.leave (v := some (.int (own_ix1 x0))) (fun h => by rw [Bd.returns] at h; cases h)
  refine ⟨_, _, ?_, hrun, hended, _, _, rfl, ?_, ⟨_, rfl⟩, hW, hsame.mono (by decide) (by decide)⟩
  · show own_S p e below T5 (mkF m 36 #[rv sb1, iv 63, iv 0, iv 1] [(.int (own_ix1 x0))]) _
    exact retI X5 hx Bd.returns (hb hby d12_36) hr
  · show Q12_1 Z sb1 kb x0 r1 h0 n0 _ T5.heap _
    rw [eq5]
    exact ⟨by first | (rw [← hr1]; done) | (rw [← hr1]; rfl), N5, rfl⟩
def own_ix2 (x0 : Int32) (x1 : Int32) : Int32 := (if x0 = ((63 : Int32).toInt8.toInt32) then (0 : Int32) else (if x1 = ((63 : Int32).toInt8.toInt32) then (1 : Int32) else (-1 : Int32)))
def Q20_2 (Z : State) (sb1 : Addr) (kb : ClassId) (x0 : Int32) (x1 : Int32) (h0 : Heap) (n0 : Nat) (v : Option Value) (h : Heap) (L : List Loc) : Prop := own_QI (own_ix2 x0 x1) h0 n0 v h L
set_option maxRecDepth 65536 in
set_option maxHeartbeats 40000000 in
theorem rm20_2 (l : Launch) (Z : State) (a0 : Array Value) (hw : ∀ d ∈ tables_1, d.before a0 Z = true) (ws : List Jvm.Cond) (sb1 : Addr) (kb : ClassId) (x0 : Int32) (x1 : Int32) (h0 : Heap) (n0 : Nat) (Z0 : n0 ≤ h0.size) (V_b : Arv Z h0 sb1 kb .byte (2 : Int32) [(.int x0), (.int x1)] (.int (0 : Int32))) :
    MetFree l own_y27 (head1 (Jvm.Cond.code own_y27 jdk_43_method_23_code 6 (some .int) :: ws) ({ frames := 0, cells := 0, slots := 0, locals := 0 } : Room)) (fun a U => a = #[(.ref sb1), (.int 63), (.int 0), (.int 2)] ∧ Z.Warmed39 U.vm ∧ U.heap = h0) (fun _ _ _ _ _ => True) (fun _ U o U' => ∃ v L, o = .returned v ∧ Q20_2 Z sb1 kb x0 x1 h0 n0 v U'.heap L ∧ FrameEnd U o U' L ({ frames := 0, cells := 0, slots := 0, locals := 0 } : Room).cells ({ frames := 0, cells := 0, slots := 0, locals := 0 } : Room).slots) := by
  refine MetFree.of_bodySF (plainFor_of_name pn_20) hisR ?_
  intro p e s m args below meth c s₁ Bd hml0 hP hK
  obtain ⟨rfl, hZ, hh⟩ := hP
  have hx := Bd.exec
  have hby := Bd.bytes
  have hml : c.maxLocals = 6 := hml0
  have hown : s.vm.findClass "java/lang/StringLatin1" = some m.cls := findClass_of_methodNamed Bd.named
  have hnm := (name_of_methodNamed Bd.named Bd.method).1
  have X0 : Stand p l e ({ frames := 0, cells := 0, slots := 0, locals := 0 } : Room) s m #[(.ref sb1), (.int 63), (.int 0), (.int 2)] below meth c s₁ [] 0 0 := Stand.of_body Bd
  have e0 : s₁.heap = h0 := by rw [← hh, Bd.state]; rfl
  have N0 := Fr.nil n0
  refine own_go (B := s₁.setTop (mkF m 0 #[rv sb1, iv 63, iv 0, iv 2, .unset, .unset] [])) (fun t k => castTop (ef_20 m sb1 (63 : Int32) (0 : Int32) (2 : Int32)) k) ?_
  obtain ⟨cl1, Ar1, qk1, S1, M1, H1, G1⟩ := id V_b
  refine own_go (B := s₁.setTop (mkF m 19 #[rv sb1, iv 63, iv 0, iv 2, iv ((63 : Int32).toInt8.toInt32), iv 0] [(.int ((63 : Int32).toInt8.toInt32)), (.int x0)])) (fun t k => ?_) ?_
  · show own_S p e below s₁ (mkF m 0 #[rv sb1, iv 63, iv 0, iv 2, .unset, .unset] []) _
    refine XS.iloadN X0.here hx rfl (hb hby d20_0) rfl ?_
    refine XS.i2b X0.here hx rfl (hb hby d20_1) rfl ?_
    refine XS.istore X0.here hx rfl (hb hby d20_2) rfl (l' := #[rv sb1, iv 63, iv 0, iv 2, iv ((63 : Int32).toInt8.toInt32), .unset]) rfl ?_
    show own_S p e below s₁ (mkF m 4 #[rv sb1, iv 63, iv 0, iv 2, iv ((63 : Int32).toInt8.toInt32), .unset] []) _
    refine XS.iloadN X0.here hx rfl (hb hby d20_4) rfl ?_
    refine XS.istore X0.here hx rfl (hb hby d20_5) rfl (l' := #[rv sb1, iv 63, iv 0, iv 2, iv ((63 : Int32).toInt8.toInt32), iv 0]) rfl ?_
    refine XS.iload X0.here hx rfl (hb hby d20_7) rfl ?_
    show own_S p e below s₁ (mkF m 9 #[rv sb1, iv 63, iv 0, iv 2, iv ((63 : Int32).toInt8.toInt32), iv 0] [(.int 0)]) _
    refine XS.iloadN X0.here hx rfl (hb hby d20_9) rfl ?_
    refine XS.icmpNo X0.here hx rfl (hb hby d20_10) rfl (tlt (by decide)).2.1 ?_
    refine XS.aloadN X0.here hx rfl (hb hby d20_13) rfl rfl ?_
    show own_S p e below s₁ (mkF m 14 #[rv sb1, iv 63, iv 0, iv 2, iv ((63 : Int32).toInt8.toInt32), iv 0] [(.ref sb1)]) _
    refine XS.iload X0.here hx rfl (hb hby d20_14) rfl ?_
    refine X0.baloadBytes hx (j := (0 : Int32)) (v := (.int x0)) (by rw [e0]; exact Ar1.1) (State.isArrayOf_alike hZ.alike Ar1.2.1) Ar1.2.2 (inb_of S1 ⟨by decide, by decide⟩) (Has.at H1 (inb_of S1 ⟨by decide, by decide⟩) rfl) (g := (mkF m 16 #[rv sb1, iv 63, iv 0, iv 2, iv ((63 : Int32).toInt8.toInt32), iv 0] [(.int 0), (.ref sb1)])) rfl rfl (hb hby d20_16) _ ?_
    refine XS.iload X0.here hx rfl (hb hby d20_17) rfl ?_
    exact k
  by_cases hc19_2 : x0 = ((63 : Int32).toInt8.toInt32)
  · obtain ⟨fs, hr, hrun, hended, hW, hsame⟩ := X0.leave (v := some (.int 0)) (fun h => by rw [Bd.returns] at h; cases h)
    refine ⟨_, _, ?_, hrun, hended, _, _, rfl, ?_, ⟨_, rfl⟩, hW, hsame.mono (by decide) (by decide)⟩
    · show own_S p e below s₁ (mkF m 19 #[rv sb1, iv 63, iv 0, iv 2, iv ((63 : Int32).toInt8.toInt32), iv 0] [(.int ((63 : Int32).toInt8.toInt32)), (.int x0)]) _
      refine XS.icmpNo X0.here hx rfl (hb hby d20_19) rfl (teq hc19_2).2 ?_
      refine XS.iload X0.here hx rfl (hb hby d20_22) rfl ?_
      show own_S p e below s₁ (mkF m 24 #[rv sb1, iv 63, iv 0, iv 2, iv ((63 : Int32).toInt8.toInt32), iv 0] [(.int 0)]) _
      exact retI X0 hx Bd.returns (hb hby d20_24) hr
    · show Q20_2 Z sb1 kb x0 x1 h0 n0 _ s₁.heap _
      rw [e0]
      exact ⟨by rw [own_ix2, if_pos hc19_2], N0, rfl⟩
  · obtain ⟨cl3, Ar3, qk3, S3, M3, H3, G3⟩ := id V_b
    refine own_go (B := s₁.setTop (mkF m 19 #[rv sb1, iv 63, iv 0, iv 2, iv ((63 : Int32).toInt8.toInt32), iv 1] [(.int ((63 : Int32).toInt8.toInt32)), (.int x1)])) (fun t k => ?_) ?_
    · show own_S p e below s₁ (mkF m 19 #[rv sb1, iv 63, iv 0, iv 2, iv ((63 : Int32).toInt8.toInt32), iv 0] [(.int ((63 : Int32).toInt8.toInt32)), (.int x0)]) _
      refine XS.icmpYes X0.here hx rfl (pc0 := 19) (pc' := 25) rfl (hb hby d20_19) rfl (feq hc19_2).2 (by decide) (by decide) ?_
      refine XS.iinc X0.here hx rfl (hb hby d20_25) rfl (l' := #[rv sb1, iv 63, iv 0, iv 2, iv ((63 : Int32).toInt8.toInt32), iv 1]) rfl ?_
      refine XS.goto X0.here hx rfl (pc0 := 28) (pc' := 7) rfl (hb hby d20_28) (by decide) (by decide) ?_
      show own_S p e below s₁ (mkF m 7 #[rv sb1, iv 63, iv 0, iv 2, iv ((63 : Int32).toInt8.toInt32), iv 1] []) _
      refine XS.iload X0.here hx rfl (hb hby d20_7) rfl ?_
      refine XS.iloadN X0.here hx rfl (hb hby d20_9) rfl ?_
      refine XS.icmpNo X0.here hx rfl (hb hby d20_10) rfl (tlt (by decide)).2.1 ?_
      show own_S p e below s₁ (mkF m 13 #[rv sb1, iv 63, iv 0, iv 2, iv ((63 : Int32).toInt8.toInt32), iv 1] []) _
      refine XS.aloadN X0.here hx rfl (hb hby d20_13) rfl rfl ?_
      refine XS.iload X0.here hx rfl (hb hby d20_14) rfl ?_
      refine X0.baloadBytes hx (j := (1 : Int32)) (v := (.int x1)) (by rw [e0]; exact Ar3.1) (State.isArrayOf_alike hZ.alike Ar3.2.1) Ar3.2.2 (inb_of S3 ⟨by decide, by decide⟩) (Has.at H3 (inb_of S3 ⟨by decide, by decide⟩) rfl) (g := (mkF m 16 #[rv sb1, iv 63, iv 0, iv 2, iv ((63 : Int32).toInt8.toInt32), iv 1] [(.int 1), (.ref sb1)])) rfl rfl (hb hby d20_16) _ ?_
      show own_S p e below s₁ (mkF m 17 #[rv sb1, iv 63, iv 0, iv 2, iv ((63 : Int32).toInt8.toInt32), iv 1] [(.int x1)]) _
      refine XS.iload X0.here hx rfl (hb hby d20_17) rfl ?_
      exact k
    by_cases hc19_4 : x1 = ((63 : Int32).toInt8.toInt32)
    · obtain ⟨fs, hr, hrun, hended, hW, hsame⟩ := X0.leave (v := some (.int 1)) (fun h => by rw [Bd.returns] at h; cases h)
      refine ⟨_, _, ?_, hrun, hended, _, _, rfl, ?_, ⟨_, rfl⟩, hW, hsame.mono (by decide) (by decide)⟩
      · show own_S p e below s₁ (mkF m 19 #[rv sb1, iv 63, iv 0, iv 2, iv ((63 : Int32).toInt8.toInt32), iv 1] [(.int ((63 : Int32).toInt8.toInt32)), (.int x1)]) _
        refine XS.icmpNo X0.here hx rfl (hb hby d20_19) rfl (teq hc19_4).2 ?_
        refine XS.iload X0.here hx rfl (hb hby d20_22) rfl ?_
        show own_S p e below s₁ (mkF m 24 #[rv sb1, iv 63, iv 0, iv 2, iv ((63 : Int32).toInt8.toInt32), iv 1] [(.int 1)]) _
        exact retI X0 hx Bd.returns (hb hby d20_24) hr
      · show Q20_2 Z sb1 kb x0 x1 h0 n0 _ s₁.heap _
        rw [e0]
        exact ⟨by rw [own_ix2, if_neg hc19_2, if_pos hc19_4], N0, rfl⟩
    · obtain ⟨fs, hr, hrun, hended, hW, hsame⟩ := X0.leave (v := some (.int (-1))) (fun h => by rw [Bd.returns] at h; cases h)
      refine ⟨_, _, ?_, hrun, hended, _, _, rfl, ?_, ⟨_, rfl⟩, hW, hsame.mono (by decide) (by decide)⟩
      · show own_S p e below s₁ (mkF m 19 #[rv sb1, iv 63, iv 0, iv 2, iv ((63 : Int32).toInt8.toInt32), iv 1] [(.int ((63 : Int32).toInt8.toInt32)), (.int x1)]) _
        refine XS.icmpYes X0.here hx rfl (pc0 := 19) (pc' := 25) rfl (hb hby d20_19) rfl (feq hc19_4).2 (by decide) (by decide) ?_
        refine XS.iinc X0.here hx rfl (hb hby d20_25) rfl (l' := #[rv sb1, iv 63, iv 0, iv 2, iv ((63 : Int32).toInt8.toInt32), iv 2]) rfl ?_
        refine XS.goto X0.here hx rfl (pc0 := 28) (pc' := 7) rfl (hb hby d20_28) (by decide) (by decide) ?_
        show own_S p e below s₁ (mkF m 7 #[rv sb1, iv 63, iv 0, iv 2, iv ((63 : Int32).toInt8.toInt32), iv 2] []) _
        refine XS.iload X0.here hx rfl (hb hby d20_7) rfl ?_
        refine XS.iloadN X0.here hx rfl (hb hby d20_9) rfl ?_
        refine XS.icmpYes X0.here hx rfl (pc0 := 10) (pc' := 31) rfl (hb hby d20_10) rfl (flt (by decide)).2.1 (by decide) (by decide) ?_
        show own_S p e below s₁ (mkF m 31 #[rv sb1, iv 63, iv 0, iv 2, iv ((63 : Int32).toInt8.toInt32), iv 2] []) _
        refine XS.iconst X0.here hx rfl (hb hby d20_31) ?_
        show own_S p e below s₁ (mkF m 32 #[rv sb1, iv 63, iv 0, iv 2, iv ((63 : Int32).toInt8.toInt32), iv 2] [(.int (-1))]) _
        exact retI X0 hx Bd.returns (hb hby d20_32) hr
      · show Q20_2 Z sb1 kb x0 x1 h0 n0 _ s₁.heap _
        rw [e0]
        exact ⟨by rw [own_ix2, if_neg hc19_2, if_neg hc19_4], N0, rfl⟩
def Q12_2 (Z : State) (sb1 : Addr) (kb : ClassId) (x0 : Int32) (x1 : Int32) (r1 : Int32) (h0 : Heap) (n0 : Nat) (v : Option Value) (h : Heap) (L : List Loc) : Prop := own_QI r1 h0 n0 v h L
set_option maxRecDepth 65536 in
set_option maxHeartbeats 40000000 in
theorem rm12_2 (l : Launch) (Z : State) (a0 : Array Value) (hw : ∀ d ∈ tables_1, d.before a0 Z = true) (ws : List Jvm.Cond) (sb1 : Addr) (kb : ClassId) (x0 : Int32) (x1 : Int32) (r1 : Int32) (h0 : Heap) (n0 : Nat) (Z0 : n0 ≤ h0.size) (V_b : Arv Z h0 sb1 kb .byte (2 : Int32) [(.int x0), (.int x1)] (.int (0 : Int32))) (hr1 : (own_ix2 x0 x1) = r1) :
    MetFree l own_y24 (head1 (Jvm.Cond.code own_y24 jdk_43_method_22_code 4 (some .int) :: ws) ({ frames := 1, cells := 0, slots := 0, locals := 17 } : Room)) (fun a U => a = #[(.ref sb1), (.int 63), (.int 0), (.int 2)] ∧ Z.Warmed39 U.vm ∧ U.heap = h0) (fun _ _ _ _ _ => True) (fun _ U o U' => ∃ v L, o = .returned v ∧ Q12_2 Z sb1 kb x0 x1 r1 h0 n0 v U'.heap L ∧ FrameEnd U o U' L ({ frames := 1, cells := 0, slots := 0, locals := 17 } : Room).cells ({ frames := 1, cells := 0, slots := 0, locals := 17 } : Room).slots) := by
  refine MetFree.of_bodySF (plainFor_of_name pn_12) hisR ?_
  intro p e s m args below meth c s₁ Bd hml0 hP hK
  obtain ⟨rfl, hZ, hh⟩ := hP
  have hx := Bd.exec
  have hby := Bd.bytes
  have hml : c.maxLocals = 4 := hml0
  have hown : s.vm.findClass "java/lang/StringLatin1" = some m.cls := findClass_of_methodNamed Bd.named
  have hnm := (name_of_methodNamed Bd.named Bd.method).1
  have X0 : Stand p l e ({ frames := 1, cells := 0, slots := 0, locals := 17 } : Room) s m #[(.ref sb1), (.int 63), (.int 0), (.int 2)] below meth c s₁ [] 0 0 := Stand.of_body Bd
  have e0 : s₁.heap = h0 := by rw [← hh, Bd.state]; rfl
  have N0 := Fr.nil n0
  refine own_go (B := s₁.setTop (mkF m 0 #[rv sb1, iv 63, iv 0, iv 2] [])) (fun t k => castTop (ef_12 m sb1 (63 : Int32) (0 : Int32) (2 : Int32)) k) ?_
  refine own_go (B := s₁.setTop (mkF m 1 #[rv sb1, iv 63, iv 0, iv 2] [(.int 63)])) (fun t k => ?_) ?_
  · show own_S p e below s₁ (mkF m 0 #[rv sb1, iv 63, iv 0, iv 2] []) _
    refine XS.iloadN X0.here hx rfl (hb hby d12_0) rfl ?_
    exact k
  obtain ⟨_, _, ⟨T1, L1, k1, n1⟩, -, X1, ⟨Lc1, hQ1, l1, y1, z1⟩, st1⟩ := Jvm.LawKit.callS X0 hx (y := own_y12) hown (mvT hZ (own_w hw 64 rfl)) (mvT hZ (own_w hw 65 rfl)) (mvT hZ (own_w hw 62 rfl)) (mvT hZ (own_w hw 66 rfl)) (by decide) (backOf (W := 0) (rm13 l Z a0 hw [] h0 n0 Z0) hZ (own_w hw 66 rfl) (own_w hw 62 rfl) (by decide) (by decide)) (g := (mkF m 1 #[rv sb1, iv 63, iv 0, iv 2] [(.int 63)])) rfl (by rw [hml]; rfl) (argsL := [(.int 63)]) (rest := []) (lenOf own_pd17 rfl) rfl (by show 2 * 0 + _ ≤ _; exact Nat.le_of_eq rfl) (hb hby d12_1) (fun _ _ => ⟨rfl, e0, (by decide : 0 + 0 ≤ _), (by decide : 0 + 0 ≤ _)⟩)
  dsimp only [Pt.U, Pt.locs, Pt.cells, Pt.slots] at X1 l1 y1 z1 st1 hQ1
  subst l1 y1 z1
  obtain ⟨rfl, N1q, eq1⟩ := hQ1
  have N1 := Fr.app N0 N1q
  refine own_go (B := T1.setTop (mkF m 4 #[rv sb1, iv 63, iv 0, iv 2] [(.int 1)])) (fun t k => st1 _ k) ?_
  refine own_go (B := T1.setTop (mkF m 11 #[rv sb1, iv 63, iv 0, iv 2] [(.int 0), (.int 0)])) (fun t k => ?_) ?_
  · show own_S p e below T1 (mkF m 4 #[rv sb1, iv 63, iv 0, iv 2] [(.int 1)]) _
    refine XS.ifYes X1.here hx rfl (pc0 := 4) (pc' := 9) rfl (hb hby d12_4) rfl ((if0 _ _).trans (feq (by decide)).2) (by decide) (by decide) ?_
    refine XS.iloadN X1.here hx rfl (hb hby d12_9) rfl ?_
    refine XS.iconst X1.here hx rfl (hb hby d12_10) ?_
    exact k
  obtain ⟨_, _, ⟨T2, L2, k2, n2⟩, -, X2, ⟨Lc2, hQ2, l2, y2, z2⟩, st2⟩ := Jvm.LawKit.callS X1 hx (y := own_y13) hown (mvT hZ (own_w hw 67 rfl)) (mvT hZ (own_w hw 68 rfl)) (mvT hZ (own_w hw 69 rfl)) (mvT hZ (own_w hw 70 rfl)) (by decide) (backOf (W := 0) (rm14 l Z a0 hw [] (0 : Int32) (0 : Int32) (0 : Int32) h0 n0 Z0 (by decide)) hZ (own_w hw 70 rfl) (own_w hw 69 rfl) (by decide) (by decide)) (g := (mkF m 11 #[rv sb1, iv 63, iv 0, iv 2] [(.int 0), (.int 0)])) rfl (by rw [hml]; rfl) (argsL := [(.int 0), (.int 0)]) (rest := []) (lenOf own_pd16 rfl) rfl (by show 2 * 0 + _ ≤ _; exact Nat.le_of_eq rfl) (hb hby d12_11) (fun _ _ => ⟨rfl, eq1, (by decide : 0 + 0 ≤ _), (by decide : 0 + 0 ≤ _)⟩)
  dsimp only [Pt.U, Pt.locs, Pt.cells, Pt.slots] at X2 l2 y2 z2 st2 hQ2
  subst l2 y2 z2
  obtain ⟨rfl, N2q, eq2⟩ := hQ2
  have N2 := Fr.app N1 N2q
  refine own_go (B := T2.setTop (mkF m 14 #[rv sb1, iv 63, iv 0, iv 2] [(.int 0)])) (fun t k => st2 _ k) ?_
  obtain ⟨cl3, Ar3, qk3, S3, M3, H3, G3⟩ := id V_b
  refine own_go (B := T2.setTop (mkF m 18 #[rv sb1, iv 63, iv 0, iv 2] [(.int 2), (.int 2)])) (fun t k => ?_) ?_
  · show own_S p e below T2 (mkF m 14 #[rv sb1, iv 63, iv 0, iv 2] [(.int 0)]) _
    refine XS.istoreN X2.here hx rfl (hb hby d12_14) rfl (l' := #[rv sb1, iv 63, iv 0, iv 2]) rfl ?_
    refine XS.iloadN X2.here hx rfl (hb hby d12_15) rfl ?_
    refine XS.aloadN X2.here hx rfl (hb hby d12_16) rfl rfl ?_
    show own_S p e below T2 (mkF m 17 #[rv sb1, iv 63, iv 0, iv 2] [(.ref sb1), (.int 2)]) _
    refine X2.arraylength hx (by rw [eq2]; exact Ar3.1) (State.isArrayOf_alike hZ.alike Ar3.2.1) (g := (mkF m 17 #[rv sb1, iv 63, iv 0, iv 2] [(.ref sb1), (.int 2)])) rfl rfl (hb hby d12_17) _ ?_
    rw [len_of S3 M3]
    exact k
  obtain ⟨_, _, ⟨T4, L4, k4, n4⟩, -, X4, ⟨Lc4, hQ4, l4, y4, z4⟩, st4⟩ := Jvm.LawKit.callS X2 hx (y := own_y14) hown (mvT hZ (own_w hw 71 rfl)) (mvT hZ (own_w hw 72 rfl)) (mvT hZ (own_w hw 69 rfl)) (mvT hZ (own_w hw 73 rfl)) (by decide) (backOf (W := 0) (rm15 l Z a0 hw [] (2 : Int32) (2 : Int32) (2 : Int32) h0 n0 Z0 (by decide)) hZ (own_w hw 73 rfl) (own_w hw 69 rfl) (by decide) (by decide)) (g := (mkF m 18 #[rv sb1, iv 63, iv 0, iv 2] [(.int 2), (.int 2)])) rfl (by rw [hml]; rfl) (argsL := [(.int 2), (.int 2)]) (rest := []) (lenOf own_pd16 rfl) rfl (by show 2 * 0 + _ ≤ _; exact Nat.le_of_eq rfl) (hb hby d12_18) (fun _ _ => ⟨rfl, eq2, (by decide : 0 + 0 ≤ _), (by decide : 0 + 0 ≤ _)⟩)
  dsimp only [Pt.U, Pt.locs, Pt.cells, Pt.slots] at X4 l4 y4 z4 st4 hQ4
  subst l4 y4 z4
  obtain ⟨rfl, N4q, eq4⟩ := hQ4
  have N4 := Fr.app N2 N4q
  refine own_go (B := T4.setTop (mkF m 21 #[rv sb1, iv 63, iv 0, iv 2] [(.int 2)])) (fun t k => st4 _ k) ?_
  refine own_go (B := T4.setTop (mkF m 33 #[rv sb1, iv 63, iv 0, iv 2] [(.int 2), (.int 0), (.int 63), (.ref sb1)])) (fun t k => ?_) ?_
  · show own_S p e below T4 (mkF m 21 #[rv sb1, iv 63, iv 0, iv 2] [(.int 2)]) _
    refine XS.istoreN X4.here hx rfl (hb hby d12_21) rfl (l' := #[rv sb1, iv 63, iv 0, iv 2]) rfl ?_
    refine XS.iloadN X4.here hx rfl (hb hby d12_22) rfl ?_
    refine XS.iloadN X4.here hx rfl (hb hby d12_23) rfl ?_
    show own_S p e below T4 (mkF m 24 #[rv sb1, iv 63, iv 0, iv 2] [(.int 2), (.int 0)]) _
    refine XS.icmpYes X4.here hx rfl (pc0 := 24) (pc' := 29) rfl (hb hby d12_24) rfl (tlt (by decide)).1 (by decide) (by decide) ?_
    refine XS.aloadN X4.here hx rfl (hb hby d12_29) rfl rfl ?_
    refine XS.iloadN X4.here hx rfl (hb hby d12_30) rfl ?_
    show own_S p e below T4 (mkF m 31 #[rv sb1, iv 63, iv 0, iv 2] [(.int 63), (.ref sb1)]) _
    refine XS.iloadN X4.here hx rfl (hb hby d12_31) rfl ?_
    refine XS.iloadN X4.here hx rfl (hb hby d12_32) rfl ?_
    exact k
  obtain ⟨_, _, ⟨T5, L5, k5, n5⟩, -, X5, ⟨Lc5, hQ5, l5, y5, z5⟩, st5⟩ := Jvm.LawKit.callS X4 hx (y := own_y27) hown (mvT hZ (own_w hw 89 rfl)) (mvT hZ (own_w hw 90 rfl)) (mvT hZ (own_w hw 62 rfl)) (mvT hZ (own_w hw 91 rfl)) (by decide) (backOf (W := 0) (rm20_2 l Z a0 hw [] sb1 kb x0 x1 h0 n0 Z0 V_b) hZ (own_w hw 91 rfl) (own_w hw 62 rfl) (by decide) (by decide)) (g := (mkF m 33 #[rv sb1, iv 63, iv 0, iv 2] [(.int 2), (.int 0), (.int 63), (.ref sb1)])) rfl (by rw [hml]; rfl) (argsL := [(.ref sb1), (.int 63), (.int 0), (.int 2)]) (rest := []) (lenOf own_pd15 rfl) rfl (by show 2 * 0 + _ ≤ _; exact Nat.le_of_eq rfl) (hb hby d12_33) (fun _ _ => ⟨rfl, eq4, (by decide : 0 + 0 ≤ _), (by decide : 0 + 0 ≤ _)⟩)
  dsimp only [Pt.U, Pt.locs, Pt.cells, Pt.slots] at X5 l5 y5 z5 st5 hQ5
  subst l5 y5 z5
  obtain ⟨rfl, N5q, eq5⟩ := hQ5
  have N5 := Fr.app N4 N5q
  refine own_go (B := T5.setTop (mkF m 36 #[rv sb1, iv 63, iv 0, iv 2] [(.int (own_ix2 x0 x1))])) (fun t k => st5 _ k) ?_
  obtain ⟨fs, hr, hrun, hended, hW, hsame⟩ := X5.leave (v := some (.int (own_ix2 x0 x1))) (fun h => by rw [Bd.returns] at h; cases h)
  refine ⟨_, _, ?_, hrun, hended, _, _, rfl, ?_, ⟨_, rfl⟩, hW, hsame.mono (by decide) (by decide)⟩
  · show own_S p e below T5 (mkF m 36 #[rv sb1, iv 63, iv 0, iv 2] [(.int (own_ix2 x0 x1))]) _
    exact retI X5 hx Bd.returns (hb hby d12_36) hr
  · show Q12_2 Z sb1 kb x0 x1 r1 h0 n0 _ T5.heap _
    rw [eq5]
    exact ⟨by first | (rw [← hr1]; done) | (rw [← hr1]; rfl), N5, rfl⟩
def own_ix3 (x0 : Int32) (x1 : Int32) (x2 : Int32) : Int32 := (if x0 = ((63 : Int32).toInt8.toInt32) then (0 : Int32) else (if x1 = ((63 : Int32).toInt8.toInt32) then (1 : Int32) else (if x2 = ((63 : Int32).toInt8.toInt32) then (2 : Int32) else (-1 : Int32))))
def Q20_3 (Z : State) (sb1 : Addr) (kb : ClassId) (x0 : Int32) (x1 : Int32) (x2 : Int32) (h0 : Heap) (n0 : Nat) (v : Option Value) (h : Heap) (L : List Loc) : Prop := own_QI (own_ix3 x0 x1 x2) h0 n0 v h L
set_option maxRecDepth 65536 in
set_option maxHeartbeats 40000000 in
theorem rm20_3 (l : Launch) (Z : State) (a0 : Array Value) (hw : ∀ d ∈ tables_1, d.before a0 Z = true) (ws : List Jvm.Cond) (sb1 : Addr) (kb : ClassId) (x0 : Int32) (x1 : Int32) (x2 : Int32) (h0 : Heap) (n0 : Nat) (Z0 : n0 ≤ h0.size) (V_b : Arv Z h0 sb1 kb .byte (3 : Int32) [(.int x0), (.int x1), (.int x2)] (.int (0 : Int32))) :
    MetFree l own_y27 (head1 (Jvm.Cond.code own_y27 jdk_43_method_23_code 6 (some .int) :: ws) ({ frames := 0, cells := 0, slots := 0, locals := 0 } : Room)) (fun a U => a = #[(.ref sb1), (.int 63), (.int 0), (.int 3)] ∧ Z.Warmed39 U.vm ∧ U.heap = h0) (fun _ _ _ _ _ => True) (fun _ U o U' => ∃ v L, o = .returned v ∧ Q20_3 Z sb1 kb x0 x1 x2 h0 n0 v U'.heap L ∧ FrameEnd U o U' L ({ frames := 0, cells := 0, slots := 0, locals := 0 } : Room).cells ({ frames := 0, cells := 0, slots := 0, locals := 0 } : Room).slots) := by
  refine MetFree.of_bodySF (plainFor_of_name pn_20) hisR ?_
  intro p e s m args below meth c s₁ Bd hml0 hP hK
  obtain ⟨rfl, hZ, hh⟩ := hP
  have hx := Bd.exec
  have hby := Bd.bytes
  have hml : c.maxLocals = 6 := hml0
  have hown : s.vm.findClass "java/lang/StringLatin1" = some m.cls := findClass_of_methodNamed Bd.named
  have hnm := (name_of_methodNamed Bd.named Bd.method).1
  have X0 : Stand p l e ({ frames := 0, cells := 0, slots := 0, locals := 0 } : Room) s m #[(.ref sb1), (.int 63), (.int 0), (.int 3)] below meth c s₁ [] 0 0 := Stand.of_body Bd
  have e0 : s₁.heap = h0 := by rw [← hh, Bd.state]; rfl
  have N0 := Fr.nil n0
  refine own_go (B := s₁.setTop (mkF m 0 #[rv sb1, iv 63, iv 0, iv 3, .unset, .unset] [])) (fun t k => castTop (ef_20 m sb1 (63 : Int32) (0 : Int32) (3 : Int32)) k) ?_
  obtain ⟨cl1, Ar1, qk1, S1, M1, H1, G1⟩ := id V_b
  refine own_go (B := s₁.setTop (mkF m 19 #[rv sb1, iv 63, iv 0, iv 3, iv ((63 : Int32).toInt8.toInt32), iv 0] [(.int ((63 : Int32).toInt8.toInt32)), (.int x0)])) (fun t k => ?_) ?_
  · show own_S p e below s₁ (mkF m 0 #[rv sb1, iv 63, iv 0, iv 3, .unset, .unset] []) _
    refine XS.iloadN X0.here hx rfl (hb hby d20_0) rfl ?_
    refine XS.i2b X0.here hx rfl (hb hby d20_1) rfl ?_
    refine XS.istore X0.here hx rfl (hb hby d20_2) rfl (l' := #[rv sb1, iv 63, iv 0, iv 3, iv ((63 : Int32).toInt8.toInt32), .unset]) rfl ?_
    show own_S p e below s₁ (mkF m 4 #[rv sb1, iv 63, iv 0, iv 3, iv ((63 : Int32).toInt8.toInt32), .unset] []) _
    refine XS.iloadN X0.here hx rfl (hb hby d20_4) rfl ?_
    refine XS.istore X0.here hx rfl (hb hby d20_5) rfl (l' := #[rv sb1, iv 63, iv 0, iv 3, iv ((63 : Int32).toInt8.toInt32), iv 0]) rfl ?_
    refine XS.iload X0.here hx rfl (hb hby d20_7) rfl ?_
    show own_S p e below s₁ (mkF m 9 #[rv sb1, iv 63, iv 0, iv 3, iv ((63 : Int32).toInt8.toInt32), iv 0] [(.int 0)]) _
    refine XS.iloadN X0.here hx rfl (hb hby d20_9) rfl ?_
    refine XS.icmpNo X0.here hx rfl (hb hby d20_10) rfl (tlt (by decide)).2.1 ?_
    refine XS.aloadN X0.here hx rfl (hb hby d20_13) rfl rfl ?_
    show own_S p e below s₁ (mkF m 14 #[rv sb1, iv 63, iv 0, iv 3, iv ((63 : Int32).toInt8.toInt32), iv 0] [(.ref sb1)]) _
    refine XS.iload X0.here hx rfl (hb hby d20_14) rfl ?_
    refine X0.baloadBytes hx (j := (0 : Int32)) (v := (.int x0)) (by rw [e0]; exact Ar1.1) (State.isArrayOf_alike hZ.alike Ar1.2.1) Ar1.2.2 (inb_of S1 ⟨by decide, by decide⟩) (Has.at H1 (inb_of S1 ⟨by decide, by decide⟩) rfl) (g := (mkF m 16 #[rv sb1, iv 63, iv 0, iv 3, iv ((63 : Int32).toInt8.toInt32), iv 0] [(.int 0), (.ref sb1)])) rfl rfl (hb hby d20_16) _ ?_
    refine XS.iload X0.here hx rfl (hb hby d20_17) rfl ?_
    exact k
  by_cases hc19_2 : x0 = ((63 : Int32).toInt8.toInt32)
  · obtain ⟨fs, hr, hrun, hended, hW, hsame⟩ := X0.leave (v := some (.int 0)) (fun h => by rw [Bd.returns] at h; cases h)
    refine ⟨_, _, ?_, hrun, hended, _, _, rfl, ?_, ⟨_, rfl⟩, hW, hsame.mono (by decide) (by decide)⟩
    · show own_S p e below s₁ (mkF m 19 #[rv sb1, iv 63, iv 0, iv 3, iv ((63 : Int32).toInt8.toInt32), iv 0] [(.int ((63 : Int32).toInt8.toInt32)), (.int x0)]) _
      refine XS.icmpNo X0.here hx rfl (hb hby d20_19) rfl (teq hc19_2).2 ?_
      refine XS.iload X0.here hx rfl (hb hby d20_22) rfl ?_
      show own_S p e below s₁ (mkF m 24 #[rv sb1, iv 63, iv 0, iv 3, iv ((63 : Int32).toInt8.toInt32), iv 0] [(.int 0)]) _
      exact retI X0 hx Bd.returns (hb hby d20_24) hr
    · show Q20_3 Z sb1 kb x0 x1 x2 h0 n0 _ s₁.heap _
      rw [e0]
      exact ⟨by rw [own_ix3, if_pos hc19_2], N0, rfl⟩
  · obtain ⟨cl3, Ar3, qk3, S3, M3, H3, G3⟩ := id V_b
    refine own_go (B := s₁.setTop (mkF m 19 #[rv sb1, iv 63, iv 0, iv 3, iv ((63 : Int32).toInt8.toInt32), iv 1] [(.int ((63 : Int32).toInt8.toInt32)), (.int x1)])) (fun t k => ?_) ?_
    · show own_S p e below s₁ (mkF m 19 #[rv sb1, iv 63, iv 0, iv 3, iv ((63 : Int32).toInt8.toInt32), iv 0] [(.int ((63 : Int32).toInt8.toInt32)), (.int x0)]) _
      refine XS.icmpYes X0.here hx rfl (pc0 := 19) (pc' := 25) rfl (hb hby d20_19) rfl (feq hc19_2).2 (by decide) (by decide) ?_
      refine XS.iinc X0.here hx rfl (hb hby d20_25) rfl (l' := #[rv sb1, iv 63, iv 0, iv 3, iv ((63 : Int32).toInt8.toInt32), iv 1]) rfl ?_
      refine XS.goto X0.here hx rfl (pc0 := 28) (pc' := 7) rfl (hb hby d20_28) (by decide) (by decide) ?_
      show own_S p e below s₁ (mkF m 7 #[rv sb1, iv 63, iv 0, iv 3, iv ((63 : Int32).toInt8.toInt32), iv 1] []) _
      refine XS.iload X0.here hx rfl (hb hby d20_7) rfl ?_
      refine XS.iloadN X0.here hx rfl (hb hby d20_9) rfl ?_
      refine XS.icmpNo X0.here hx rfl (hb hby d20_10) rfl (tlt (by decide)).2.1 ?_
      show own_S p e below s₁ (mkF m 13 #[rv sb1, iv 63, iv 0, iv 3, iv ((63 : Int32).toInt8.toInt32), iv 1] []) _
      refine XS.aloadN X0.here hx rfl (hb hby d20_13) rfl rfl ?_
      refine XS.iload X0.here hx rfl (hb hby d20_14) rfl ?_
      refine X0.baloadBytes hx (j := (1 : Int32)) (v := (.int x1)) (by rw [e0]; exact Ar3.1) (State.isArrayOf_alike hZ.alike Ar3.2.1) Ar3.2.2 (inb_of S3 ⟨by decide, by decide⟩) (Has.at H3 (inb_of S3 ⟨by decide, by decide⟩) rfl) (g := (mkF m 16 #[rv sb1, iv 63, iv 0, iv 3, iv ((63 : Int32).toInt8.toInt32), iv 1] [(.int 1), (.ref sb1)])) rfl rfl (hb hby d20_16) _ ?_
      show own_S p e below s₁ (mkF m 17 #[rv sb1, iv 63, iv 0, iv 3, iv ((63 : Int32).toInt8.toInt32), iv 1] [(.int x1)]) _
      refine XS.iload X0.here hx rfl (hb hby d20_17) rfl ?_
      exact k
    by_cases hc19_4 : x1 = ((63 : Int32).toInt8.toInt32)
    · obtain ⟨fs, hr, hrun, hended, hW, hsame⟩ := X0.leave (v := some (.int 1)) (fun h => by rw [Bd.returns] at h; cases h)
      refine ⟨_, _, ?_, hrun, hended, _, _, rfl, ?_, ⟨_, rfl⟩, hW, hsame.mono (by decide) (by decide)⟩
      · show own_S p e below s₁ (mkF m 19 #[rv sb1, iv 63, iv 0, iv 3, iv ((63 : Int32).toInt8.toInt32), iv 1] [(.int ((63 : Int32).toInt8.toInt32)), (.int x1)]) _
        refine XS.icmpNo X0.here hx rfl (hb hby d20_19) rfl (teq hc19_4).2 ?_
        refine XS.iload X0.here hx rfl (hb hby d20_22) rfl ?_
        show own_S p e below s₁ (mkF m 24 #[rv sb1, iv 63, iv 0, iv 3, iv ((63 : Int32).toInt8.toInt32), iv 1] [(.int 1)]) _
        exact retI X0 hx Bd.returns (hb hby d20_24) hr
      · show Q20_3 Z sb1 kb x0 x1 x2 h0 n0 _ s₁.heap _
        rw [e0]
        exact ⟨by rw [own_ix3, if_neg hc19_2, if_pos hc19_4], N0, rfl⟩
    · obtain ⟨cl5, Ar5, qk5, S5, M5, H5, G5⟩ := id V_b
      refine own_go (B := s₁.setTop (mkF m 19 #[rv sb1, iv 63, iv 0, iv 3, iv ((63 : Int32).toInt8.toInt32), iv 2] [(.int ((63 : Int32).toInt8.toInt32)), (.int x2)])) (fun t k => ?_) ?_
      · show own_S p e below s₁ (mkF m 19 #[rv sb1, iv 63, iv 0, iv 3, iv ((63 : Int32).toInt8.toInt32), iv 1] [(.int ((63 : Int32).toInt8.toInt32)), (.int x1)]) _
        refine XS.icmpYes X0.here hx rfl (pc0 := 19) (pc' := 25) rfl (hb hby d20_19) rfl (feq hc19_4).2 (by decide) (by decide) ?_
        refine XS.iinc X0.here hx rfl (hb hby d20_25) rfl (l' := #[rv sb1, iv 63, iv 0, iv 3, iv ((63 : Int32).toInt8.toInt32), iv 2]) rfl ?_
        refine XS.goto X0.here hx rfl (pc0 := 28) (pc' := 7) rfl (hb hby d20_28) (by decide) (by decide) ?_
        show own_S p e below s₁ (mkF m 7 #[rv sb1, iv 63, iv 0, iv 3, iv ((63 : Int32).toInt8.toInt32), iv 2] []) _
        refine XS.iload X0.here hx rfl (hb hby d20_7) rfl ?_
        refine XS.iloadN X0.here hx rfl (hb hby d20_9) rfl ?_
        refine XS.icmpNo X0.here hx rfl (hb hby d20_10) rfl (tlt (by decide)).2.1 ?_
        show own_S p e below s₁ (mkF m 13 #[rv sb1, iv 63, iv 0, iv 3, iv ((63 : Int32).toInt8.toInt32), iv 2] []) _
        refine XS.aloadN X0.here hx rfl (hb hby d20_13) rfl rfl ?_
        refine XS.iload X0.here hx rfl (hb hby d20_14) rfl ?_
        refine X0.baloadBytes hx (j := (2 : Int32)) (v := (.int x2)) (by rw [e0]; exact Ar5.1) (State.isArrayOf_alike hZ.alike Ar5.2.1) Ar5.2.2 (inb_of S5 ⟨by decide, by decide⟩) (Has.at H5 (inb_of S5 ⟨by decide, by decide⟩) rfl) (g := (mkF m 16 #[rv sb1, iv 63, iv 0, iv 3, iv ((63 : Int32).toInt8.toInt32), iv 2] [(.int 2), (.ref sb1)])) rfl rfl (hb hby d20_16) _ ?_
        show own_S p e below s₁ (mkF m 17 #[rv sb1, iv 63, iv 0, iv 3, iv ((63 : Int32).toInt8.toInt32), iv 2] [(.int x2)]) _
        refine XS.iload X0.here hx rfl (hb hby d20_17) rfl ?_
        exact k
      by_cases hc19_6 : x2 = ((63 : Int32).toInt8.toInt32)
      · obtain ⟨fs, hr, hrun, hended, hW, hsame⟩ := X0.leave (v := some (.int 2)) (fun h => by rw [Bd.returns] at h; cases h)
        refine ⟨_, _, ?_, hrun, hended, _, _, rfl, ?_, ⟨_, rfl⟩, hW, hsame.mono (by decide) (by decide)⟩
        · show own_S p e below s₁ (mkF m 19 #[rv sb1, iv 63, iv 0, iv 3, iv ((63 : Int32).toInt8.toInt32), iv 2] [(.int ((63 : Int32).toInt8.toInt32)), (.int x2)]) _
          refine XS.icmpNo X0.here hx rfl (hb hby d20_19) rfl (teq hc19_6).2 ?_
          refine XS.iload X0.here hx rfl (hb hby d20_22) rfl ?_
          show own_S p e below s₁ (mkF m 24 #[rv sb1, iv 63, iv 0, iv 3, iv ((63 : Int32).toInt8.toInt32), iv 2] [(.int 2)]) _
          exact retI X0 hx Bd.returns (hb hby d20_24) hr
        · show Q20_3 Z sb1 kb x0 x1 x2 h0 n0 _ s₁.heap _
          rw [e0]
          exact ⟨by rw [own_ix3, if_neg hc19_2, if_neg hc19_4, if_pos hc19_6], N0, rfl⟩
      · obtain ⟨fs, hr, hrun, hended, hW, hsame⟩ := X0.leave (v := some (.int (-1))) (fun h => by rw [Bd.returns] at h; cases h)
        refine ⟨_, _, ?_, hrun, hended, _, _, rfl, ?_, ⟨_, rfl⟩, hW, hsame.mono (by decide) (by decide)⟩
        · show own_S p e below s₁ (mkF m 19 #[rv sb1, iv 63, iv 0, iv 3, iv ((63 : Int32).toInt8.toInt32), iv 2] [(.int ((63 : Int32).toInt8.toInt32)), (.int x2)]) _
          refine XS.icmpYes X0.here hx rfl (pc0 := 19) (pc' := 25) rfl (hb hby d20_19) rfl (feq hc19_6).2 (by decide) (by decide) ?_
          refine XS.iinc X0.here hx rfl (hb hby d20_25) rfl (l' := #[rv sb1, iv 63, iv 0, iv 3, iv ((63 : Int32).toInt8.toInt32), iv 3]) rfl ?_
          refine XS.goto X0.here hx rfl (pc0 := 28) (pc' := 7) rfl (hb hby d20_28) (by decide) (by decide) ?_
          show own_S p e below s₁ (mkF m 7 #[rv sb1, iv 63, iv 0, iv 3, iv ((63 : Int32).toInt8.toInt32), iv 3] []) _
          refine XS.iload X0.here hx rfl (hb hby d20_7) rfl ?_
          refine XS.iloadN X0.here hx rfl (hb hby d20_9) rfl ?_
          refine XS.icmpYes X0.here hx rfl (pc0 := 10) (pc' := 31) rfl (hb hby d20_10) rfl (flt (by decide)).2.1 (by decide) (by decide) ?_
          show own_S p e below s₁ (mkF m 31 #[rv sb1, iv 63, iv 0, iv 3, iv ((63 : Int32).toInt8.toInt32), iv 3] []) _
          refine XS.iconst X0.here hx rfl (hb hby d20_31) ?_
          show own_S p e below s₁ (mkF m 32 #[rv sb1, iv 63, iv 0, iv 3, iv ((63 : Int32).toInt8.toInt32), iv 3] [(.int (-1))]) _
          exact retI X0 hx Bd.returns (hb hby d20_32) hr
        · show Q20_3 Z sb1 kb x0 x1 x2 h0 n0 _ s₁.heap _
          rw [e0]
          exact ⟨by rw [own_ix3, if_neg hc19_2, if_neg hc19_4, if_neg hc19_6], N0, rfl⟩
def Q12_3 (Z : State) (sb1 : Addr) (kb : ClassId) (x0 : Int32) (x1 : Int32) (x2 : Int32) (r1 : Int32) (h0 : Heap) (n0 : Nat) (v : Option Value) (h : Heap) (L : List Loc) : Prop := own_QI r1 h0 n0 v h L
set_option maxRecDepth 65536 in
set_option maxHeartbeats 40000000 in
theorem rm12_3 (l : Launch) (Z : State) (a0 : Array Value) (hw : ∀ d ∈ tables_1, d.before a0 Z = true) (ws : List Jvm.Cond) (sb1 : Addr) (kb : ClassId) (x0 : Int32) (x1 : Int32) (x2 : Int32) (r1 : Int32) (h0 : Heap) (n0 : Nat) (Z0 : n0 ≤ h0.size) (V_b : Arv Z h0 sb1 kb .byte (3 : Int32) [(.int x0), (.int x1), (.int x2)] (.int (0 : Int32))) (hr1 : (own_ix3 x0 x1 x2) = r1) :
    MetFree l own_y24 (head1 (Jvm.Cond.code own_y24 jdk_43_method_22_code 4 (some .int) :: ws) ({ frames := 1, cells := 0, slots := 0, locals := 17 } : Room)) (fun a U => a = #[(.ref sb1), (.int 63), (.int 0), (.int 3)] ∧ Z.Warmed39 U.vm ∧ U.heap = h0) (fun _ _ _ _ _ => True) (fun _ U o U' => ∃ v L, o = .returned v ∧ Q12_3 Z sb1 kb x0 x1 x2 r1 h0 n0 v U'.heap L ∧ FrameEnd U o U' L ({ frames := 1, cells := 0, slots := 0, locals := 17 } : Room).cells ({ frames := 1, cells := 0, slots := 0, locals := 17 } : Room).slots) := by
  refine MetFree.of_bodySF (plainFor_of_name pn_12) hisR ?_
  intro p e s m args below meth c s₁ Bd hml0 hP hK
  obtain ⟨rfl, hZ, hh⟩ := hP
  have hx := Bd.exec
  have hby := Bd.bytes
  have hml : c.maxLocals = 4 := hml0
  have hown : s.vm.findClass "java/lang/StringLatin1" = some m.cls := findClass_of_methodNamed Bd.named
  have hnm := (name_of_methodNamed Bd.named Bd.method).1
  have X0 : Stand p l e ({ frames := 1, cells := 0, slots := 0, locals := 17 } : Room) s m #[(.ref sb1), (.int 63), (.int 0), (.int 3)] below meth c s₁ [] 0 0 := Stand.of_body Bd
  have e0 : s₁.heap = h0 := by rw [← hh, Bd.state]; rfl
  have N0 := Fr.nil n0
  refine own_go (B := s₁.setTop (mkF m 0 #[rv sb1, iv 63, iv 0, iv 3] [])) (fun t k => castTop (ef_12 m sb1 (63 : Int32) (0 : Int32) (3 : Int32)) k) ?_
  refine own_go (B := s₁.setTop (mkF m 1 #[rv sb1, iv 63, iv 0, iv 3] [(.int 63)])) (fun t k => ?_) ?_
  · show own_S p e below s₁ (mkF m 0 #[rv sb1, iv 63, iv 0, iv 3] []) _
    refine XS.iloadN X0.here hx rfl (hb hby d12_0) rfl ?_
    exact k
  obtain ⟨_, _, ⟨T1, L1, k1, n1⟩, -, X1, ⟨Lc1, hQ1, l1, y1, z1⟩, st1⟩ := Jvm.LawKit.callS X0 hx (y := own_y12) hown (mvT hZ (own_w hw 64 rfl)) (mvT hZ (own_w hw 65 rfl)) (mvT hZ (own_w hw 62 rfl)) (mvT hZ (own_w hw 66 rfl)) (by decide) (backOf (W := 0) (rm13 l Z a0 hw [] h0 n0 Z0) hZ (own_w hw 66 rfl) (own_w hw 62 rfl) (by decide) (by decide)) (g := (mkF m 1 #[rv sb1, iv 63, iv 0, iv 3] [(.int 63)])) rfl (by rw [hml]; rfl) (argsL := [(.int 63)]) (rest := []) (lenOf own_pd17 rfl) rfl (by show 2 * 0 + _ ≤ _; exact Nat.le_of_eq rfl) (hb hby d12_1) (fun _ _ => ⟨rfl, e0, (by decide : 0 + 0 ≤ _), (by decide : 0 + 0 ≤ _)⟩)
  dsimp only [Pt.U, Pt.locs, Pt.cells, Pt.slots] at X1 l1 y1 z1 st1 hQ1
  subst l1 y1 z1
  obtain ⟨rfl, N1q, eq1⟩ := hQ1
  have N1 := Fr.app N0 N1q
  refine own_go (B := T1.setTop (mkF m 4 #[rv sb1, iv 63, iv 0, iv 3] [(.int 1)])) (fun t k => st1 _ k) ?_
  refine own_go (B := T1.setTop (mkF m 11 #[rv sb1, iv 63, iv 0, iv 3] [(.int 0), (.int 0)])) (fun t k => ?_) ?_
  · show own_S p e below T1 (mkF m 4 #[rv sb1, iv 63, iv 0, iv 3] [(.int 1)]) _
    refine XS.ifYes X1.here hx rfl (pc0 := 4) (pc' := 9) rfl (hb hby d12_4) rfl ((if0 _ _).trans (feq (by decide)).2) (by decide) (by decide) ?_
    refine XS.iloadN X1.here hx rfl (hb hby d12_9) rfl ?_
    refine XS.iconst X1.here hx rfl (hb hby d12_10) ?_
    exact k
  obtain ⟨_, _, ⟨T2, L2, k2, n2⟩, -, X2, ⟨Lc2, hQ2, l2, y2, z2⟩, st2⟩ := Jvm.LawKit.callS X1 hx (y := own_y13) hown (mvT hZ (own_w hw 67 rfl)) (mvT hZ (own_w hw 68 rfl)) (mvT hZ (own_w hw 69 rfl)) (mvT hZ (own_w hw 70 rfl)) (by decide) (backOf (W := 0) (rm14 l Z a0 hw [] (0 : Int32) (0 : Int32) (0 : Int32) h0 n0 Z0 (by decide)) hZ (own_w hw 70 rfl) (own_w hw 69 rfl) (by decide) (by decide)) (g := (mkF m 11 #[rv sb1, iv 63, iv 0, iv 3] [(.int 0), (.int 0)])) rfl (by rw [hml]; rfl) (argsL := [(.int 0), (.int 0)]) (rest := []) (lenOf own_pd16 rfl) rfl (by show 2 * 0 + _ ≤ _; exact Nat.le_of_eq rfl) (hb hby d12_11) (fun _ _ => ⟨rfl, eq1, (by decide : 0 + 0 ≤ _), (by decide : 0 + 0 ≤ _)⟩)
  dsimp only [Pt.U, Pt.locs, Pt.cells, Pt.slots] at X2 l2 y2 z2 st2 hQ2
  subst l2 y2 z2
  obtain ⟨rfl, N2q, eq2⟩ := hQ2
  have N2 := Fr.app N1 N2q
  refine own_go (B := T2.setTop (mkF m 14 #[rv sb1, iv 63, iv 0, iv 3] [(.int 0)])) (fun t k => st2 _ k) ?_
  obtain ⟨cl3, Ar3, qk3, S3, M3, H3, G3⟩ := id V_b
  refine own_go (B := T2.setTop (mkF m 18 #[rv sb1, iv 63, iv 0, iv 3] [(.int 3), (.int 3)])) (fun t k => ?_) ?_
  · show own_S p e below T2 (mkF m 14 #[rv sb1, iv 63, iv 0, iv 3] [(.int 0)]) _
    refine XS.istoreN X2.here hx rfl (hb hby d12_14) rfl (l' := #[rv sb1, iv 63, iv 0, iv 3]) rfl ?_
    refine XS.iloadN X2.here hx rfl (hb hby d12_15) rfl ?_
    refine XS.aloadN X2.here hx rfl (hb hby d12_16) rfl rfl ?_
    show own_S p e below T2 (mkF m 17 #[rv sb1, iv 63, iv 0, iv 3] [(.ref sb1), (.int 3)]) _
    refine X2.arraylength hx (by rw [eq2]; exact Ar3.1) (State.isArrayOf_alike hZ.alike Ar3.2.1) (g := (mkF m 17 #[rv sb1, iv 63, iv 0, iv 3] [(.ref sb1), (.int 3)])) rfl rfl (hb hby d12_17) _ ?_
    rw [len_of S3 M3]
    exact k
  obtain ⟨_, _, ⟨T4, L4, k4, n4⟩, -, X4, ⟨Lc4, hQ4, l4, y4, z4⟩, st4⟩ := Jvm.LawKit.callS X2 hx (y := own_y14) hown (mvT hZ (own_w hw 71 rfl)) (mvT hZ (own_w hw 72 rfl)) (mvT hZ (own_w hw 69 rfl)) (mvT hZ (own_w hw 73 rfl)) (by decide) (backOf (W := 0) (rm15 l Z a0 hw [] (3 : Int32) (3 : Int32) (3 : Int32) h0 n0 Z0 (by decide)) hZ (own_w hw 73 rfl) (own_w hw 69 rfl) (by decide) (by decide)) (g := (mkF m 18 #[rv sb1, iv 63, iv 0, iv 3] [(.int 3), (.int 3)])) rfl (by rw [hml]; rfl) (argsL := [(.int 3), (.int 3)]) (rest := []) (lenOf own_pd16 rfl) rfl (by show 2 * 0 + _ ≤ _; exact Nat.le_of_eq rfl) (hb hby d12_18) (fun _ _ => ⟨rfl, eq2, (by decide : 0 + 0 ≤ _), (by decide : 0 + 0 ≤ _)⟩)
  dsimp only [Pt.U, Pt.locs, Pt.cells, Pt.slots] at X4 l4 y4 z4 st4 hQ4
  subst l4 y4 z4
  obtain ⟨rfl, N4q, eq4⟩ := hQ4
  have N4 := Fr.app N2 N4q
  refine own_go (B := T4.setTop (mkF m 21 #[rv sb1, iv 63, iv 0, iv 3] [(.int 3)])) (fun t k => st4 _ k) ?_
  refine own_go (B := T4.setTop (mkF m 33 #[rv sb1, iv 63, iv 0, iv 3] [(.int 3), (.int 0), (.int 63), (.ref sb1)])) (fun t k => ?_) ?_
  · show own_S p e below T4 (mkF m 21 #[rv sb1, iv 63, iv 0, iv 3] [(.int 3)]) _
    refine XS.istoreN X4.here hx rfl (hb hby d12_21) rfl (l' := #[rv sb1, iv 63, iv 0, iv 3]) rfl ?_
    refine XS.iloadN X4.here hx rfl (hb hby d12_22) rfl ?_
    refine XS.iloadN X4.here hx rfl (hb hby d12_23) rfl ?_
    show own_S p e below T4 (mkF m 24 #[rv sb1, iv 63, iv 0, iv 3] [(.int 3), (.int 0)]) _
    refine XS.icmpYes X4.here hx rfl (pc0 := 24) (pc' := 29) rfl (hb hby d12_24) rfl (tlt (by decide)).1 (by decide) (by decide) ?_
    refine XS.aloadN X4.here hx rfl (hb hby d12_29) rfl rfl ?_
    refine XS.iloadN X4.here hx rfl (hb hby d12_30) rfl ?_
    show own_S p e below T4 (mkF m 31 #[rv sb1, iv 63, iv 0, iv 3] [(.int 63), (.ref sb1)]) _
    refine XS.iloadN X4.here hx rfl (hb hby d12_31) rfl ?_
    refine XS.iloadN X4.here hx rfl (hb hby d12_32) rfl ?_
    exact k
  obtain ⟨_, _, ⟨T5, L5, k5, n5⟩, -, X5, ⟨Lc5, hQ5, l5, y5, z5⟩, st5⟩ := Jvm.LawKit.callS X4 hx (y := own_y27) hown (mvT hZ (own_w hw 89 rfl)) (mvT hZ (own_w hw 90 rfl)) (mvT hZ (own_w hw 62 rfl)) (mvT hZ (own_w hw 91 rfl)) (by decide) (backOf (W := 0) (rm20_3 l Z a0 hw [] sb1 kb x0 x1 x2 h0 n0 Z0 V_b) hZ (own_w hw 91 rfl) (own_w hw 62 rfl) (by decide) (by decide)) (g := (mkF m 33 #[rv sb1, iv 63, iv 0, iv 3] [(.int 3), (.int 0), (.int 63), (.ref sb1)])) rfl (by rw [hml]; rfl) (argsL := [(.ref sb1), (.int 63), (.int 0), (.int 3)]) (rest := []) (lenOf own_pd15 rfl) rfl (by show 2 * 0 + _ ≤ _; exact Nat.le_of_eq rfl) (hb hby d12_33) (fun _ _ => ⟨rfl, eq4, (by decide : 0 + 0 ≤ _), (by decide : 0 + 0 ≤ _)⟩)
  dsimp only [Pt.U, Pt.locs, Pt.cells, Pt.slots] at X5 l5 y5 z5 st5 hQ5
  subst l5 y5 z5
  obtain ⟨rfl, N5q, eq5⟩ := hQ5
  have N5 := Fr.app N4 N5q
  refine own_go (B := T5.setTop (mkF m 36 #[rv sb1, iv 63, iv 0, iv 3] [(.int (own_ix3 x0 x1 x2))])) (fun t k => st5 _ k) ?_
  obtain ⟨fs, hr, hrun, hended, hW, hsame⟩ := X5.leave (v := some (.int (own_ix3 x0 x1 x2))) (fun h => by rw [Bd.returns] at h; cases h)
  refine ⟨_, _, ?_, hrun, hended, _, _, rfl, ?_, ⟨_, rfl⟩, hW, hsame.mono (by decide) (by decide)⟩
  · show own_S p e below T5 (mkF m 36 #[rv sb1, iv 63, iv 0, iv 3] [(.int (own_ix3 x0 x1 x2))]) _
    exact retI X5 hx Bd.returns (hb hby d12_36) hr
  · show Q12_3 Z sb1 kb x0 x1 x2 r1 h0 n0 _ T5.heap _
    rw [eq5]
    exact ⟨by first | (rw [← hr1]; done) | (rw [← hr1]; rfl), N5, rfl⟩
def own_ix4 (x0 : Int32) (x1 : Int32) (x2 : Int32) (x3 : Int32) : Int32 := (if x0 = ((63 : Int32).toInt8.toInt32) then (0 : Int32) else (if x1 = ((63 : Int32).toInt8.toInt32) then (1 : Int32) else (if x2 = ((63 : Int32).toInt8.toInt32) then (2 : Int32) else (if x3 = ((63 : Int32).toInt8.toInt32) then (3 : Int32) else (-1 : Int32)))))
def Q20_4 (Z : State) (sb1 : Addr) (kb : ClassId) (x0 : Int32) (x1 : Int32) (x2 : Int32) (x3 : Int32) (h0 : Heap) (n0 : Nat) (v : Option Value) (h : Heap) (L : List Loc) : Prop := own_QI (own_ix4 x0 x1 x2 x3) h0 n0 v h L
set_option maxRecDepth 65536 in
set_option maxHeartbeats 40000000 in
theorem rm20_4 (l : Launch) (Z : State) (a0 : Array Value) (hw : ∀ d ∈ tables_1, d.before a0 Z = true) (ws : List Jvm.Cond) (sb1 : Addr) (kb : ClassId) (x0 : Int32) (x1 : Int32) (x2 : Int32) (x3 : Int32) (h0 : Heap) (n0 : Nat) (Z0 : n0 ≤ h0.size) (V_b : Arv Z h0 sb1 kb .byte (4 : Int32) [(.int x0), (.int x1), (.int x2), (.int x3)] (.int (0 : Int32))) :
    MetFree l own_y27 (head1 (Jvm.Cond.code own_y27 jdk_43_method_23_code 6 (some .int) :: ws) ({ frames := 0, cells := 0, slots := 0, locals := 0 } : Room)) (fun a U => a = #[(.ref sb1), (.int 63), (.int 0), (.int 4)] ∧ Z.Warmed39 U.vm ∧ U.heap = h0) (fun _ _ _ _ _ => True) (fun _ U o U' => ∃ v L, o = .returned v ∧ Q20_4 Z sb1 kb x0 x1 x2 x3 h0 n0 v U'.heap L ∧ FrameEnd U o U' L ({ frames := 0, cells := 0, slots := 0, locals := 0 } : Room).cells ({ frames := 0, cells := 0, slots := 0, locals := 0 } : Room).slots) := by
  refine MetFree.of_bodySF (plainFor_of_name pn_20) hisR ?_
  intro p e s m args below meth c s₁ Bd hml0 hP hK
  obtain ⟨rfl, hZ, hh⟩ := hP
  have hx := Bd.exec
  have hby := Bd.bytes
  have hml : c.maxLocals = 6 := hml0
  have hown : s.vm.findClass "java/lang/StringLatin1" = some m.cls := findClass_of_methodNamed Bd.named
  have hnm := (name_of_methodNamed Bd.named Bd.method).1
  have X0 : Stand p l e ({ frames := 0, cells := 0, slots := 0, locals := 0 } : Room) s m #[(.ref sb1), (.int 63), (.int 0), (.int 4)] below meth c s₁ [] 0 0 := Stand.of_body Bd
  have e0 : s₁.heap = h0 := by rw [← hh, Bd.state]; rfl
  have N0 := Fr.nil n0
  refine own_go (B := s₁.setTop (mkF m 0 #[rv sb1, iv 63, iv 0, iv 4, .unset, .unset] [])) (fun t k => castTop (ef_20 m sb1 (63 : Int32) (0 : Int32) (4 : Int32)) k) ?_
  obtain ⟨cl1, Ar1, qk1, S1, M1, H1, G1⟩ := id V_b
  refine own_go (B := s₁.setTop (mkF m 19 #[rv sb1, iv 63, iv 0, iv 4, iv ((63 : Int32).toInt8.toInt32), iv 0] [(.int ((63 : Int32).toInt8.toInt32)), (.int x0)])) (fun t k => ?_) ?_
  · show own_S p e below s₁ (mkF m 0 #[rv sb1, iv 63, iv 0, iv 4, .unset, .unset] []) _
    refine XS.iloadN X0.here hx rfl (hb hby d20_0) rfl ?_
    refine XS.i2b X0.here hx rfl (hb hby d20_1) rfl ?_
    refine XS.istore X0.here hx rfl (hb hby d20_2) rfl (l' := #[rv sb1, iv 63, iv 0, iv 4, iv ((63 : Int32).toInt8.toInt32), .unset]) rfl ?_
    show own_S p e below s₁ (mkF m 4 #[rv sb1, iv 63, iv 0, iv 4, iv ((63 : Int32).toInt8.toInt32), .unset] []) _
    refine XS.iloadN X0.here hx rfl (hb hby d20_4) rfl ?_
    refine XS.istore X0.here hx rfl (hb hby d20_5) rfl (l' := #[rv sb1, iv 63, iv 0, iv 4, iv ((63 : Int32).toInt8.toInt32), iv 0]) rfl ?_
    refine XS.iload X0.here hx rfl (hb hby d20_7) rfl ?_
    show own_S p e below s₁ (mkF m 9 #[rv sb1, iv 63, iv 0, iv 4, iv ((63 : Int32).toInt8.toInt32), iv 0] [(.int 0)]) _
    refine XS.iloadN X0.here hx rfl (hb hby d20_9) rfl ?_
    refine XS.icmpNo X0.here hx rfl (hb hby d20_10) rfl (tlt (by decide)).2.1 ?_
    refine XS.aloadN X0.here hx rfl (hb hby d20_13) rfl rfl ?_
    show own_S p e below s₁ (mkF m 14 #[rv sb1, iv 63, iv 0, iv 4, iv ((63 : Int32).toInt8.toInt32), iv 0] [(.ref sb1)]) _
    refine XS.iload X0.here hx rfl (hb hby d20_14) rfl ?_
    refine X0.baloadBytes hx (j := (0 : Int32)) (v := (.int x0)) (by rw [e0]; exact Ar1.1) (State.isArrayOf_alike hZ.alike Ar1.2.1) Ar1.2.2 (inb_of S1 ⟨by decide, by decide⟩) (Has.at H1 (inb_of S1 ⟨by decide, by decide⟩) rfl) (g := (mkF m 16 #[rv sb1, iv 63, iv 0, iv 4, iv ((63 : Int32).toInt8.toInt32), iv 0] [(.int 0), (.ref sb1)])) rfl rfl (hb hby d20_16) _ ?_
    refine XS.iload X0.here hx rfl (hb hby d20_17) rfl ?_
    exact k
  by_cases hc19_2 : x0 = ((63 : Int32).toInt8.toInt32)
  · obtain ⟨fs, hr, hrun, hended, hW, hsame⟩ := X0.leave (v := some (.int 0)) (fun h => by rw [Bd.returns] at h; cases h)
    refine ⟨_, _, ?_, hrun, hended, _, _, rfl, ?_, ⟨_, rfl⟩, hW, hsame.mono (by decide) (by decide)⟩
    · show own_S p e below s₁ (mkF m 19 #[rv sb1, iv 63, iv 0, iv 4, iv ((63 : Int32).toInt8.toInt32), iv 0] [(.int ((63 : Int32).toInt8.toInt32)), (.int x0)]) _
      refine XS.icmpNo X0.here hx rfl (hb hby d20_19) rfl (teq hc19_2).2 ?_
      refine XS.iload X0.here hx rfl (hb hby d20_22) rfl ?_
      show own_S p e below s₁ (mkF m 24 #[rv sb1, iv 63, iv 0, iv 4, iv ((63 : Int32).toInt8.toInt32), iv 0] [(.int 0)]) _
      exact retI X0 hx Bd.returns (hb hby d20_24) hr
    · show Q20_4 Z sb1 kb x0 x1 x2 x3 h0 n0 _ s₁.heap _
      rw [e0]
      exact ⟨by rw [own_ix4, if_pos hc19_2], N0, rfl⟩
  · obtain ⟨cl3, Ar3, qk3, S3, M3, H3, G3⟩ := id V_b
    refine own_go (B := s₁.setTop (mkF m 19 #[rv sb1, iv 63, iv 0, iv 4, iv ((63 : Int32).toInt8.toInt32), iv 1] [(.int ((63 : Int32).toInt8.toInt32)), (.int x1)])) (fun t k => ?_) ?_
    · show own_S p e below s₁ (mkF m 19 #[rv sb1, iv 63, iv 0, iv 4, iv ((63 : Int32).toInt8.toInt32), iv 0] [(.int ((63 : Int32).toInt8.toInt32)), (.int x0)]) _
      refine XS.icmpYes X0.here hx rfl (pc0 := 19) (pc' := 25) rfl (hb hby d20_19) rfl (feq hc19_2).2 (by decide) (by decide) ?_
      refine XS.iinc X0.here hx rfl (hb hby d20_25) rfl (l' := #[rv sb1, iv 63, iv 0, iv 4, iv ((63 : Int32).toInt8.toInt32), iv 1]) rfl ?_
      refine XS.goto X0.here hx rfl (pc0 := 28) (pc' := 7) rfl (hb hby d20_28) (by decide) (by decide) ?_
      show own_S p e below s₁ (mkF m 7 #[rv sb1, iv 63, iv 0, iv 4, iv ((63 : Int32).toInt8.toInt32), iv 1] []) _
      refine XS.iload X0.here hx rfl (hb hby d20_7) rfl ?_
      refine XS.iloadN X0.here hx rfl (hb hby d20_9) rfl ?_
      refine XS.icmpNo X0.here hx rfl (hb hby d20_10) rfl (tlt (by decide)).2.1 ?_
      show own_S p e below s₁ (mkF m 13 #[rv sb1, iv 63, iv 0, iv 4, iv ((63 : Int32).toInt8.toInt32), iv 1] []) _
      refine XS.aloadN X0.here hx rfl (hb hby d20_13) rfl rfl ?_
      refine XS.iload X0.here hx rfl (hb hby d20_14) rfl ?_
      refine X0.baloadBytes hx (j := (1 : Int32)) (v := (.int x1)) (by rw [e0]; exact Ar3.1) (State.isArrayOf_alike hZ.alike Ar3.2.1) Ar3.2.2 (inb_of S3 ⟨by decide, by decide⟩) (Has.at H3 (inb_of S3 ⟨by decide, by decide⟩) rfl) (g := (mkF m 16 #[rv sb1, iv 63, iv 0, iv 4, iv ((63 : Int32).toInt8.toInt32), iv 1] [(.int 1), (.ref sb1)])) rfl rfl (hb hby d20_16) _ ?_
      show own_S p e below s₁ (mkF m 17 #[rv sb1, iv 63, iv 0, iv 4, iv ((63 : Int32).toInt8.toInt32), iv 1] [(.int x1)]) _
      refine XS.iload X0.here hx rfl (hb hby d20_17) rfl ?_
      exact k
    by_cases hc19_4 : x1 = ((63 : Int32).toInt8.toInt32)
    · obtain ⟨fs, hr, hrun, hended, hW, hsame⟩ := X0.leave (v := some (.int 1)) (fun h => by rw [Bd.returns] at h; cases h)
      refine ⟨_, _, ?_, hrun, hended, _, _, rfl, ?_, ⟨_, rfl⟩, hW, hsame.mono (by decide) (by decide)⟩
      · show own_S p e below s₁ (mkF m 19 #[rv sb1, iv 63, iv 0, iv 4, iv ((63 : Int32).toInt8.toInt32), iv 1] [(.int ((63 : Int32).toInt8.toInt32)), (.int x1)]) _
        refine XS.icmpNo X0.here hx rfl (hb hby d20_19) rfl (teq hc19_4).2 ?_
        refine XS.iload X0.here hx rfl (hb hby d20_22) rfl ?_
        show own_S p e below s₁ (mkF m 24 #[rv sb1, iv 63, iv 0, iv 4, iv ((63 : Int32).toInt8.toInt32), iv 1] [(.int 1)]) _
        exact retI X0 hx Bd.returns (hb hby d20_24) hr
      · show Q20_4 Z sb1 kb x0 x1 x2 x3 h0 n0 _ s₁.heap _
        rw [e0]
        exact ⟨by rw [own_ix4, if_neg hc19_2, if_pos hc19_4], N0, rfl⟩
    · obtain ⟨cl5, Ar5, qk5, S5, M5, H5, G5⟩ := id V_b
      refine own_go (B := s₁.setTop (mkF m 19 #[rv sb1, iv 63, iv 0, iv 4, iv ((63 : Int32).toInt8.toInt32), iv 2] [(.int ((63 : Int32).toInt8.toInt32)), (.int x2)])) (fun t k => ?_) ?_
      · show own_S p e below s₁ (mkF m 19 #[rv sb1, iv 63, iv 0, iv 4, iv ((63 : Int32).toInt8.toInt32), iv 1] [(.int ((63 : Int32).toInt8.toInt32)), (.int x1)]) _
        refine XS.icmpYes X0.here hx rfl (pc0 := 19) (pc' := 25) rfl (hb hby d20_19) rfl (feq hc19_4).2 (by decide) (by decide) ?_
        refine XS.iinc X0.here hx rfl (hb hby d20_25) rfl (l' := #[rv sb1, iv 63, iv 0, iv 4, iv ((63 : Int32).toInt8.toInt32), iv 2]) rfl ?_
        refine XS.goto X0.here hx rfl (pc0 := 28) (pc' := 7) rfl (hb hby d20_28) (by decide) (by decide) ?_
        show own_S p e below s₁ (mkF m 7 #[rv sb1, iv 63, iv 0, iv 4, iv ((63 : Int32).toInt8.toInt32), iv 2] []) _
        refine XS.iload X0.here hx rfl (hb hby d20_7) rfl ?_
        refine XS.iloadN X0.here hx rfl (hb hby d20_9) rfl ?_
        refine XS.icmpNo X0.here hx rfl (hb hby d20_10) rfl (tlt (by decide)).2.1 ?_
        show own_S p e below s₁ (mkF m 13 #[rv sb1, iv 63, iv 0, iv 4, iv ((63 : Int32).toInt8.toInt32), iv 2] []) _
        refine XS.aloadN X0.here hx rfl (hb hby d20_13) rfl rfl ?_
        refine XS.iload X0.here hx rfl (hb hby d20_14) rfl ?_
        refine X0.baloadBytes hx (j := (2 : Int32)) (v := (.int x2)) (by rw [e0]; exact Ar5.1) (State.isArrayOf_alike hZ.alike Ar5.2.1) Ar5.2.2 (inb_of S5 ⟨by decide, by decide⟩) (Has.at H5 (inb_of S5 ⟨by decide, by decide⟩) rfl) (g := (mkF m 16 #[rv sb1, iv 63, iv 0, iv 4, iv ((63 : Int32).toInt8.toInt32), iv 2] [(.int 2), (.ref sb1)])) rfl rfl (hb hby d20_16) _ ?_
        show own_S p e below s₁ (mkF m 17 #[rv sb1, iv 63, iv 0, iv 4, iv ((63 : Int32).toInt8.toInt32), iv 2] [(.int x2)]) _
        refine XS.iload X0.here hx rfl (hb hby d20_17) rfl ?_
        exact k
      by_cases hc19_6 : x2 = ((63 : Int32).toInt8.toInt32)
      · obtain ⟨fs, hr, hrun, hended, hW, hsame⟩ := X0.leave (v := some (.int 2)) (fun h => by rw [Bd.returns] at h; cases h)
        refine ⟨_, _, ?_, hrun, hended, _, _, rfl, ?_, ⟨_, rfl⟩, hW, hsame.mono (by decide) (by decide)⟩
        · show own_S p e below s₁ (mkF m 19 #[rv sb1, iv 63, iv 0, iv 4, iv ((63 : Int32).toInt8.toInt32), iv 2] [(.int ((63 : Int32).toInt8.toInt32)), (.int x2)]) _
          refine XS.icmpNo X0.here hx rfl (hb hby d20_19) rfl (teq hc19_6).2 ?_
          refine XS.iload X0.here hx rfl (hb hby d20_22) rfl ?_
          show own_S p e below s₁ (mkF m 24 #[rv sb1, iv 63, iv 0, iv 4, iv ((63 : Int32).toInt8.toInt32), iv 2] [(.int 2)]) _
          exact retI X0 hx Bd.returns (hb hby d20_24) hr
        · show Q20_4 Z sb1 kb x0 x1 x2 x3 h0 n0 _ s₁.heap _
          rw [e0]
          exact ⟨by rw [own_ix4, if_neg hc19_2, if_neg hc19_4, if_pos hc19_6], N0, rfl⟩
      · obtain ⟨cl7, Ar7, qk7, S7, M7, H7, G7⟩ := id V_b
        refine own_go (B := s₁.setTop (mkF m 19 #[rv sb1, iv 63, iv 0, iv 4, iv ((63 : Int32).toInt8.toInt32), iv 3] [(.int ((63 : Int32).toInt8.toInt32)), (.int x3)])) (fun t k => ?_) ?_
        · show own_S p e below s₁ (mkF m 19 #[rv sb1, iv 63, iv 0, iv 4, iv ((63 : Int32).toInt8.toInt32), iv 2] [(.int ((63 : Int32).toInt8.toInt32)), (.int x2)]) _
          refine XS.icmpYes X0.here hx rfl (pc0 := 19) (pc' := 25) rfl (hb hby d20_19) rfl (feq hc19_6).2 (by decide) (by decide) ?_
          refine XS.iinc X0.here hx rfl (hb hby d20_25) rfl (l' := #[rv sb1, iv 63, iv 0, iv 4, iv ((63 : Int32).toInt8.toInt32), iv 3]) rfl ?_
          refine XS.goto X0.here hx rfl (pc0 := 28) (pc' := 7) rfl (hb hby d20_28) (by decide) (by decide) ?_
          show own_S p e below s₁ (mkF m 7 #[rv sb1, iv 63, iv 0, iv 4, iv ((63 : Int32).toInt8.toInt32), iv 3] []) _
          refine XS.iload X0.here hx rfl (hb hby d20_7) rfl ?_
          refine XS.iloadN X0.here hx rfl (hb hby d20_9) rfl ?_
          refine XS.icmpNo X0.here hx rfl (hb hby d20_10) rfl (tlt (by decide)).2.1 ?_
          show own_S p e below s₁ (mkF m 13 #[rv sb1, iv 63, iv 0, iv 4, iv ((63 : Int32).toInt8.toInt32), iv 3] []) _
          refine XS.aloadN X0.here hx rfl (hb hby d20_13) rfl rfl ?_
          refine XS.iload X0.here hx rfl (hb hby d20_14) rfl ?_
          refine X0.baloadBytes hx (j := (3 : Int32)) (v := (.int x3)) (by rw [e0]; exact Ar7.1) (State.isArrayOf_alike hZ.alike Ar7.2.1) Ar7.2.2 (inb_of S7 ⟨by decide, by decide⟩) (Has.at H7 (inb_of S7 ⟨by decide, by decide⟩) rfl) (g := (mkF m 16 #[rv sb1, iv 63, iv 0, iv 4, iv ((63 : Int32).toInt8.toInt32), iv 3] [(.int 3), (.ref sb1)])) rfl rfl (hb hby d20_16) _ ?_
          show own_S p e below s₁ (mkF m 17 #[rv sb1, iv 63, iv 0, iv 4, iv ((63 : Int32).toInt8.toInt32), iv 3] [(.int x3)]) _
          refine XS.iload X0.here hx rfl (hb hby d20_17) rfl ?_
          exact k
        by_cases hc19_8 : x3 = ((63 : Int32).toInt8.toInt32)
        · obtain ⟨fs, hr, hrun, hended, hW, hsame⟩ := X0.leave (v := some (.int 3)) (fun h => by rw [Bd.returns] at h; cases h)
          refine ⟨_, _, ?_, hrun, hended, _, _, rfl, ?_, ⟨_, rfl⟩, hW, hsame.mono (by decide) (by decide)⟩
          · show own_S p e below s₁ (mkF m 19 #[rv sb1, iv 63, iv 0, iv 4, iv ((63 : Int32).toInt8.toInt32), iv 3] [(.int ((63 : Int32).toInt8.toInt32)), (.int x3)]) _
            refine XS.icmpNo X0.here hx rfl (hb hby d20_19) rfl (teq hc19_8).2 ?_
            refine XS.iload X0.here hx rfl (hb hby d20_22) rfl ?_
            show own_S p e below s₁ (mkF m 24 #[rv sb1, iv 63, iv 0, iv 4, iv ((63 : Int32).toInt8.toInt32), iv 3] [(.int 3)]) _
            exact retI X0 hx Bd.returns (hb hby d20_24) hr
          · show Q20_4 Z sb1 kb x0 x1 x2 x3 h0 n0 _ s₁.heap _
            rw [e0]
            exact ⟨by rw [own_ix4, if_neg hc19_2, if_neg hc19_4, if_neg hc19_6, if_pos hc19_8], N0, rfl⟩
        · obtain ⟨fs, hr, hrun, hended, hW, hsame⟩ := X0.leave (v := some (.int (-1))) (fun h => by rw [Bd.returns] at h; cases h)
          refine ⟨_, _, ?_, hrun, hended, _, _, rfl, ?_, ⟨_, rfl⟩, hW, hsame.mono (by decide) (by decide)⟩
          · show own_S p e below s₁ (mkF m 19 #[rv sb1, iv 63, iv 0, iv 4, iv ((63 : Int32).toInt8.toInt32), iv 3] [(.int ((63 : Int32).toInt8.toInt32)), (.int x3)]) _
            refine XS.icmpYes X0.here hx rfl (pc0 := 19) (pc' := 25) rfl (hb hby d20_19) rfl (feq hc19_8).2 (by decide) (by decide) ?_
            refine XS.iinc X0.here hx rfl (hb hby d20_25) rfl (l' := #[rv sb1, iv 63, iv 0, iv 4, iv ((63 : Int32).toInt8.toInt32), iv 4]) rfl ?_
            refine XS.goto X0.here hx rfl (pc0 := 28) (pc' := 7) rfl (hb hby d20_28) (by decide) (by decide) ?_
            show own_S p e below s₁ (mkF m 7 #[rv sb1, iv 63, iv 0, iv 4, iv ((63 : Int32).toInt8.toInt32), iv 4] []) _
            refine XS.iload X0.here hx rfl (hb hby d20_7) rfl ?_
            refine XS.iloadN X0.here hx rfl (hb hby d20_9) rfl ?_
            refine XS.icmpYes X0.here hx rfl (pc0 := 10) (pc' := 31) rfl (hb hby d20_10) rfl (flt (by decide)).2.1 (by decide) (by decide) ?_
            show own_S p e below s₁ (mkF m 31 #[rv sb1, iv 63, iv 0, iv 4, iv ((63 : Int32).toInt8.toInt32), iv 4] []) _
            refine XS.iconst X0.here hx rfl (hb hby d20_31) ?_
            show own_S p e below s₁ (mkF m 32 #[rv sb1, iv 63, iv 0, iv 4, iv ((63 : Int32).toInt8.toInt32), iv 4] [(.int (-1))]) _
            exact retI X0 hx Bd.returns (hb hby d20_32) hr
          · show Q20_4 Z sb1 kb x0 x1 x2 x3 h0 n0 _ s₁.heap _
            rw [e0]
            exact ⟨by rw [own_ix4, if_neg hc19_2, if_neg hc19_4, if_neg hc19_6, if_neg hc19_8], N0, rfl⟩
def Q12_4 (Z : State) (sb1 : Addr) (kb : ClassId) (x0 : Int32) (x1 : Int32) (x2 : Int32) (x3 : Int32) (r1 : Int32) (h0 : Heap) (n0 : Nat) (v : Option Value) (h : Heap) (L : List Loc) : Prop := own_QI r1 h0 n0 v h L
set_option maxRecDepth 65536 in
set_option maxHeartbeats 40000000 in
theorem rm12_4 (l : Launch) (Z : State) (a0 : Array Value) (hw : ∀ d ∈ tables_1, d.before a0 Z = true) (ws : List Jvm.Cond) (sb1 : Addr) (kb : ClassId) (x0 : Int32) (x1 : Int32) (x2 : Int32) (x3 : Int32) (r1 : Int32) (h0 : Heap) (n0 : Nat) (Z0 : n0 ≤ h0.size) (V_b : Arv Z h0 sb1 kb .byte (4 : Int32) [(.int x0), (.int x1), (.int x2), (.int x3)] (.int (0 : Int32))) (hr1 : (own_ix4 x0 x1 x2 x3) = r1) :
    MetFree l own_y24 (head1 (Jvm.Cond.code own_y24 jdk_43_method_22_code 4 (some .int) :: ws) ({ frames := 1, cells := 0, slots := 0, locals := 17 } : Room)) (fun a U => a = #[(.ref sb1), (.int 63), (.int 0), (.int 4)] ∧ Z.Warmed39 U.vm ∧ U.heap = h0) (fun _ _ _ _ _ => True) (fun _ U o U' => ∃ v L, o = .returned v ∧ Q12_4 Z sb1 kb x0 x1 x2 x3 r1 h0 n0 v U'.heap L ∧ FrameEnd U o U' L ({ frames := 1, cells := 0, slots := 0, locals := 17 } : Room).cells ({ frames := 1, cells := 0, slots := 0, locals := 17 } : Room).slots) := by
  refine MetFree.of_bodySF (plainFor_of_name pn_12) hisR ?_
  intro p e s m args below meth c s₁ Bd hml0 hP hK
  obtain ⟨rfl, hZ, hh⟩ := hP
  have hx := Bd.exec
  have hby := Bd.bytes
  have hml : c.maxLocals = 4 := hml0
  have hown : s.vm.findClass "java/lang/StringLatin1" = some m.cls := findClass_of_methodNamed Bd.named
  have hnm := (name_of_methodNamed Bd.named Bd.method).1
  have X0 : Stand p l e ({ frames := 1, cells := 0, slots := 0, locals := 17 } : Room) s m #[(.ref sb1), (.int 63), (.int 0), (.int 4)] below meth c s₁ [] 0 0 := Stand.of_body Bd
  have e0 : s₁.heap = h0 := by rw [← hh, Bd.state]; rfl
  have N0 := Fr.nil n0
  refine own_go (B := s₁.setTop (mkF m 0 #[rv sb1, iv 63, iv 0, iv 4] [])) (fun t k => castTop (ef_12 m sb1 (63 : Int32) (0 : Int32) (4 : Int32)) k) ?_
  refine own_go (B := s₁.setTop (mkF m 1 #[rv sb1, iv 63, iv 0, iv 4] [(.int 63)])) (fun t k => ?_) ?_
  · show own_S p e below s₁ (mkF m 0 #[rv sb1, iv 63, iv 0, iv 4] []) _
    refine XS.iloadN X0.here hx rfl (hb hby d12_0) rfl ?_
    exact k
  obtain ⟨_, _, ⟨T1, L1, k1, n1⟩, -, X1, ⟨Lc1, hQ1, l1, y1, z1⟩, st1⟩ := Jvm.LawKit.callS X0 hx (y := own_y12) hown (mvT hZ (own_w hw 64 rfl)) (mvT hZ (own_w hw 65 rfl)) (mvT hZ (own_w hw 62 rfl)) (mvT hZ (own_w hw 66 rfl)) (by decide) (backOf (W := 0) (rm13 l Z a0 hw [] h0 n0 Z0) hZ (own_w hw 66 rfl) (own_w hw 62 rfl) (by decide) (by decide)) (g := (mkF m 1 #[rv sb1, iv 63, iv 0, iv 4] [(.int 63)])) rfl (by rw [hml]; rfl) (argsL := [(.int 63)]) (rest := []) (lenOf own_pd17 rfl) rfl (by show 2 * 0 + _ ≤ _; exact Nat.le_of_eq rfl) (hb hby d12_1) (fun _ _ => ⟨rfl, e0, (by decide : 0 + 0 ≤ _), (by decide : 0 + 0 ≤ _)⟩)
  dsimp only [Pt.U, Pt.locs, Pt.cells, Pt.slots] at X1 l1 y1 z1 st1 hQ1
  subst l1 y1 z1
  obtain ⟨rfl, N1q, eq1⟩ := hQ1
  have N1 := Fr.app N0 N1q
  refine own_go (B := T1.setTop (mkF m 4 #[rv sb1, iv 63, iv 0, iv 4] [(.int 1)])) (fun t k => st1 _ k) ?_
  refine own_go (B := T1.setTop (mkF m 11 #[rv sb1, iv 63, iv 0, iv 4] [(.int 0), (.int 0)])) (fun t k => ?_) ?_
  · show own_S p e below T1 (mkF m 4 #[rv sb1, iv 63, iv 0, iv 4] [(.int 1)]) _
    refine XS.ifYes X1.here hx rfl (pc0 := 4) (pc' := 9) rfl (hb hby d12_4) rfl ((if0 _ _).trans (feq (by decide)).2) (by decide) (by decide) ?_
    refine XS.iloadN X1.here hx rfl (hb hby d12_9) rfl ?_
    refine XS.iconst X1.here hx rfl (hb hby d12_10) ?_
    exact k
  obtain ⟨_, _, ⟨T2, L2, k2, n2⟩, -, X2, ⟨Lc2, hQ2, l2, y2, z2⟩, st2⟩ := Jvm.LawKit.callS X1 hx (y := own_y13) hown (mvT hZ (own_w hw 67 rfl)) (mvT hZ (own_w hw 68 rfl)) (mvT hZ (own_w hw 69 rfl)) (mvT hZ (own_w hw 70 rfl)) (by decide) (backOf (W := 0) (rm14 l Z a0 hw [] (0 : Int32) (0 : Int32) (0 : Int32) h0 n0 Z0 (by decide)) hZ (own_w hw 70 rfl) (own_w hw 69 rfl) (by decide) (by decide)) (g := (mkF m 11 #[rv sb1, iv 63, iv 0, iv 4] [(.int 0), (.int 0)])) rfl (by rw [hml]; rfl) (argsL := [(.int 0), (.int 0)]) (rest := []) (lenOf own_pd16 rfl) rfl (by show 2 * 0 + _ ≤ _; exact Nat.le_of_eq rfl) (hb hby d12_11) (fun _ _ => ⟨rfl, eq1, (by decide : 0 + 0 ≤ _), (by decide : 0 + 0 ≤ _)⟩)
  dsimp only [Pt.U, Pt.locs, Pt.cells, Pt.slots] at X2 l2 y2 z2 st2 hQ2
  subst l2 y2 z2
  obtain ⟨rfl, N2q, eq2⟩ := hQ2
  have N2 := Fr.app N1 N2q
  refine own_go (B := T2.setTop (mkF m 14 #[rv sb1, iv 63, iv 0, iv 4] [(.int 0)])) (fun t k => st2 _ k) ?_
  obtain ⟨cl3, Ar3, qk3, S3, M3, H3, G3⟩ := id V_b
  refine own_go (B := T2.setTop (mkF m 18 #[rv sb1, iv 63, iv 0, iv 4] [(.int 4), (.int 4)])) (fun t k => ?_) ?_
  · show own_S p e below T2 (mkF m 14 #[rv sb1, iv 63, iv 0, iv 4] [(.int 0)]) _
    refine XS.istoreN X2.here hx rfl (hb hby d12_14) rfl (l' := #[rv sb1, iv 63, iv 0, iv 4]) rfl ?_
    refine XS.iloadN X2.here hx rfl (hb hby d12_15) rfl ?_
    refine XS.aloadN X2.here hx rfl (hb hby d12_16) rfl rfl ?_
    show own_S p e below T2 (mkF m 17 #[rv sb1, iv 63, iv 0, iv 4] [(.ref sb1), (.int 4)]) _
    refine X2.arraylength hx (by rw [eq2]; exact Ar3.1) (State.isArrayOf_alike hZ.alike Ar3.2.1) (g := (mkF m 17 #[rv sb1, iv 63, iv 0, iv 4] [(.ref sb1), (.int 4)])) rfl rfl (hb hby d12_17) _ ?_
    rw [len_of S3 M3]
    exact k
  obtain ⟨_, _, ⟨T4, L4, k4, n4⟩, -, X4, ⟨Lc4, hQ4, l4, y4, z4⟩, st4⟩ := Jvm.LawKit.callS X2 hx (y := own_y14) hown (mvT hZ (own_w hw 71 rfl)) (mvT hZ (own_w hw 72 rfl)) (mvT hZ (own_w hw 69 rfl)) (mvT hZ (own_w hw 73 rfl)) (by decide) (backOf (W := 0) (rm15 l Z a0 hw [] (4 : Int32) (4 : Int32) (4 : Int32) h0 n0 Z0 (by decide)) hZ (own_w hw 73 rfl) (own_w hw 69 rfl) (by decide) (by decide)) (g := (mkF m 18 #[rv sb1, iv 63, iv 0, iv 4] [(.int 4), (.int 4)])) rfl (by rw [hml]; rfl) (argsL := [(.int 4), (.int 4)]) (rest := []) (lenOf own_pd16 rfl) rfl (by show 2 * 0 + _ ≤ _; exact Nat.le_of_eq rfl) (hb hby d12_18) (fun _ _ => ⟨rfl, eq2, (by decide : 0 + 0 ≤ _), (by decide : 0 + 0 ≤ _)⟩)
  dsimp only [Pt.U, Pt.locs, Pt.cells, Pt.slots] at X4 l4 y4 z4 st4 hQ4
  subst l4 y4 z4
  obtain ⟨rfl, N4q, eq4⟩ := hQ4
  have N4 := Fr.app N2 N4q
  refine own_go (B := T4.setTop (mkF m 21 #[rv sb1, iv 63, iv 0, iv 4] [(.int 4)])) (fun t k => st4 _ k) ?_
  refine own_go (B := T4.setTop (mkF m 33 #[rv sb1, iv 63, iv 0, iv 4] [(.int 4), (.int 0), (.int 63), (.ref sb1)])) (fun t k => ?_) ?_
  · show own_S p e below T4 (mkF m 21 #[rv sb1, iv 63, iv 0, iv 4] [(.int 4)]) _
    refine XS.istoreN X4.here hx rfl (hb hby d12_21) rfl (l' := #[rv sb1, iv 63, iv 0, iv 4]) rfl ?_
    refine XS.iloadN X4.here hx rfl (hb hby d12_22) rfl ?_
    refine XS.iloadN X4.here hx rfl (hb hby d12_23) rfl ?_
    show own_S p e below T4 (mkF m 24 #[rv sb1, iv 63, iv 0, iv 4] [(.int 4), (.int 0)]) _
    refine XS.icmpYes X4.here hx rfl (pc0 := 24) (pc' := 29) rfl (hb hby d12_24) rfl (tlt (by decide)).1 (by decide) (by decide) ?_
    refine XS.aloadN X4.here hx rfl (hb hby d12_29) rfl rfl ?_
    refine XS.iloadN X4.here hx rfl (hb hby d12_30) rfl ?_
    show own_S p e below T4 (mkF m 31 #[rv sb1, iv 63, iv 0, iv 4] [(.int 63), (.ref sb1)]) _
    refine XS.iloadN X4.here hx rfl (hb hby d12_31) rfl ?_
    refine XS.iloadN X4.here hx rfl (hb hby d12_32) rfl ?_
    exact k
  obtain ⟨_, _, ⟨T5, L5, k5, n5⟩, -, X5, ⟨Lc5, hQ5, l5, y5, z5⟩, st5⟩ := Jvm.LawKit.callS X4 hx (y := own_y27) hown (mvT hZ (own_w hw 89 rfl)) (mvT hZ (own_w hw 90 rfl)) (mvT hZ (own_w hw 62 rfl)) (mvT hZ (own_w hw 91 rfl)) (by decide) (backOf (W := 0) (rm20_4 l Z a0 hw [] sb1 kb x0 x1 x2 x3 h0 n0 Z0 V_b) hZ (own_w hw 91 rfl) (own_w hw 62 rfl) (by decide) (by decide)) (g := (mkF m 33 #[rv sb1, iv 63, iv 0, iv 4] [(.int 4), (.int 0), (.int 63), (.ref sb1)])) rfl (by rw [hml]; rfl) (argsL := [(.ref sb1), (.int 63), (.int 0), (.int 4)]) (rest := []) (lenOf own_pd15 rfl) rfl (by show 2 * 0 + _ ≤ _; exact Nat.le_of_eq rfl) (hb hby d12_33) (fun _ _ => ⟨rfl, eq4, (by decide : 0 + 0 ≤ _), (by decide : 0 + 0 ≤ _)⟩)
  dsimp only [Pt.U, Pt.locs, Pt.cells, Pt.slots] at X5 l5 y5 z5 st5 hQ5
  subst l5 y5 z5
  obtain ⟨rfl, N5q, eq5⟩ := hQ5
  have N5 := Fr.app N4 N5q
  refine own_go (B := T5.setTop (mkF m 36 #[rv sb1, iv 63, iv 0, iv 4] [(.int (own_ix4 x0 x1 x2 x3))])) (fun t k => st5 _ k) ?_
  obtain ⟨fs, hr, hrun, hended, hW, hsame⟩ := X5.leave (v := some (.int (own_ix4 x0 x1 x2 x3))) (fun h => by rw [Bd.returns] at h; cases h)
  refine ⟨_, _, ?_, hrun, hended, _, _, rfl, ?_, ⟨_, rfl⟩, hW, hsame.mono (by decide) (by decide)⟩
  · show own_S p e below T5 (mkF m 36 #[rv sb1, iv 63, iv 0, iv 4] [(.int (own_ix4 x0 x1 x2 x3))]) _
    exact retI X5 hx Bd.returns (hb hby d12_36) hr
  · show Q12_4 Z sb1 kb x0 x1 x2 x3 r1 h0 n0 _ T5.heap _
    rw [eq5]
    exact ⟨by first | (rw [← hr1]; done) | (rw [← hr1]; rfl), N5, rfl⟩
theorem pn_25 : plainName "java/lang/StringLatin1" = true := by first | (simp [plainName, overriddenIn]; done) | decide +kernel
theorem d25_0 : decode jdk_43_method_47_code 0 = .ok (.iload_n 2, 1) := by decide +kernel
theorem d25_1 : decode jdk_43_method_47_code 1 = .ok (.ifCond .ne 6, 3) := by decide +kernel
theorem d25_4 : decode jdk_43_method_47_code 4 = .ok (.ldc 151, 2) := by decide +kernel
theorem d25_6 : decode jdk_43_method_47_code 6 = .ok (.areturn, 1) := by decide +kernel
theorem ef_25 (m : MethodId) (x0 : Addr) (x1 : Int32) (x2 : Int32) : entryFrame m #[(.ref x0), (.int x1), (.int x2)] 3 = mkF m 0 #[.val (.ref x0), .val (.int x1), .val (.int x2)] [] := by first | (simp [entryFrame, mkF, argsToLocals, Value.category]; done) | rfl
def Q25_1_1 (Z : State) (sb1 : Addr) (kb : ClassId) (x0 : Int32) (h0 : Heap) (n0 : Nat) (v : Option Value) (h : Heap) (L : List Loc) : Prop := own_QS Z (0 : Int32) [] h0 n0 v h L
set_option maxRecDepth 65536 in
set_option maxHeartbeats 40000000 in
theorem rm25_1_1 (l : Launch) (Z : State) (a0 : Array Value) (hw : ∀ d ∈ tables_1, d.before a0 Z = true) (ws : List Jvm.Cond) (sb1 : Addr) (kb : ClassId) (x0 : Int32) (h0 : Heap) (n0 : Nat) (Z0 : n0 ≤ h0.size) (V_b : Arv Z h0 sb1 kb .byte (1 : Int32) [(.int x0)] (.int (0 : Int32))) :
    MetFree l own_y21 (head1 (Jvm.Cond.code own_y21 jdk_43_method_47_code 3 (some (.object "java/lang/String")) :: ws) ({ frames := 0, cells := 2, slots := 4, locals := 0 } : Room)) (fun a U => a = #[(.ref sb1), (.int 1), (.int 0)] ∧ Z.Warmed39 U.vm ∧ U.heap = h0 ∧ CHv Z consts_1 U.vm h0) (fun _ _ _ _ _ => True) (fun _ U o U' => ∃ v L, o = .returned v ∧ Q25_1_1 Z sb1 kb x0 h0 n0 v U'.heap L ∧ CHr Z consts_1 U.vm U.heap U'.vm U'.heap ∧ ReturnedEndW U o U' L ({ frames := 0, cells := 2, slots := 4, locals := 0 } : Room).cells ({ frames := 0, cells := 2, slots := 4, locals := 0 } : Room).slots) := by
  refine MetFree.of_bodySF (plainFor_of_name pn_25) hisR ?_
  intro p e s m args below meth c s₁ Bd hml0 hP hK
  obtain ⟨rfl, hZ, hh, hCH⟩ := hP
  have hx := Bd.exec
  have hby := Bd.bytes
  have hml : c.maxLocals = 3 := hml0
  have hown : s.vm.findClass "java/lang/StringLatin1" = some m.cls := findClass_of_methodNamed Bd.named
  have hnm := (name_of_methodNamed Bd.named Bd.method).1
  have X0 : Stand p l e ({ frames := 0, cells := 2, slots := 4, locals := 0 } : Room) s m #[(.ref sb1), (.int 1), (.int 0)] below meth c s₁ [] 0 0 := Stand.of_body Bd
  have e0 : s₁.heap = h0 := by rw [← hh, Bd.state]; rfl
  have N0 := Fr.nil n0
  have X0 : Stand p l e ({ frames := 0, cells := 2, slots := 4, locals := 0 } : Room) (s.setVm s.vm) m #[(.ref sb1), (.int 1), (.int 0)] below meth c s₁ [] 0 0 := X0
  have hZ : Z.Warmed39 (s.setVm s.vm).vm := hZ
  have hown : (s.setVm s.vm).vm.findClass "java/lang/StringLatin1" = some m.cls := hown
  have hS : s.Since s.vm 0 := (State.WarmedH.refl s).since 0
  refine own_go (B := s₁.setTop (mkF m 0 #[rv sb1, iv 1, iv 0] [])) (fun t k => castTop (ef_25 m sb1 (1 : Int32) (0 : Int32)) k) ?_
  refine own_go (B := s₁.setTop (mkF m 4 #[rv sb1, iv 1, iv 0] [])) (fun t k => ?_) ?_
  · show own_S p e below s₁ (mkF m 0 #[rv sb1, iv 1, iv 0] []) _
    refine XS.iloadN X0.here hx rfl (hb hby d25_0) rfl ?_
    refine XS.ifNo X0.here hx rfl (hb hby d25_1) rfl ((if0 _ _).trans (teq (by decide)).2) ?_
    exact k
  obtain ⟨as1, T1, h1, kk1, bs1, ks1, X1, e1, E1, hS, hk1, hZ, hown, LE1, LC1, LV1, LA1, la1, lb1, hC1, hL1, hSf1, st1⟩ := ldcCH (EL := consts_1) X0 hx hZ hown (own_w hw 146 rfl) (own_wS hw) e0 hS (Nat.zero_le _) (own_hEL hw) (by decide) (CHr.refl hCH).1 (z := (0 : Int32)) own_ht0 (by decide) rfl (g := (mkF m 4 #[rv sb1, iv 1, iv 0] [])) rfl (hb hby d25_4) (n := 0) (by decide) (by decide) (by decide) (by decide)
  have Ch1 := (CHr.refl hCH).trans hC1
  have c1_V_sb1 := V_b.ext E1
  have K1 := (Keep.refl h0 []).ext E1
  refine own_go (B := T1.setTop (mkF m 6 #[rv sb1, iv 1, iv 0] [(.ref as1)])) (fun t k => st1 _ k) ?_
  obtain ⟨fs, hr, hrun, hended, hRW⟩ := X1.leaveW hS (by rw [e1]; exact hk1) (v := some (.ref as1)) (fun h => by rw [Bd.returns] at h; cases h)
  refine ⟨_, _, ?_, hrun, hended, _, _, rfl, ?_, (by have q := (Ch1).trans (CHv.at X1 hZ (own_hEL hw) (Ch1).1); rw [← hh, ← e1] at q; exact q), hRW.1, hRW.2.1, hRW.2.2.1, hRW.2.2.2.mono (by decide) (by decide)⟩
  · show own_S p e below T1 (mkF m 6 #[rv sb1, iv 1, iv 0] [(.ref as1)]) _
    jvm_step X1.here [X1.here.top, hx, (hb hby d25_6), X1.method', Bd.returns, Value.isRef, FieldType.isReference]
    first | (intro acts; rw [hr _ acts rfl rfl rfl]) | rw [hr _ _ rfl rfl rfl]
    exact Steps.refl _
  · show Q25_1_1 Z sb1 kb x0 h0 n0 _ T1.heap _
    rw [e1]
    exact ⟨as1, bs1, ks1, rfl, N0, K1, LE1, LC1, LV1, LA1⟩
theorem pn_27 : plainName "java/util/Arrays" = true := by first | (simp [plainName, overriddenIn]; done) | decide +kernel
theorem d27_0 : decode jdk_65_method_133_code 0 = .ok (.iload_n 1, 1) := by decide +kernel
theorem d27_1 : decode jdk_65_method_133_code 1 = .ok (.iload_n 2, 1) := by decide +kernel
theorem d27_2 : decode jdk_65_method_133_code 2 = .ok (.invokestatic 343, 3) := by decide +kernel
theorem d27_5 : decode jdk_65_method_133_code 5 = .ok (.iload_n 2, 1) := by decide +kernel
theorem d27_6 : decode jdk_65_method_133_code 6 = .ok (.iload_n 1, 1) := by decide +kernel
theorem d27_7 : decode jdk_65_method_133_code 7 = .ok (.isub, 1) := by decide +kernel
theorem d27_8 : decode jdk_65_method_133_code 8 = .ok (.istore_n 3, 1) := by decide +kernel
theorem d27_9 : decode jdk_65_method_133_code 9 = .ok (.iload_n 3, 1) := by decide +kernel
theorem d27_10 : decode jdk_65_method_133_code 10 = .ok (.newarray .byte, 2) := by decide +kernel
theorem d27_12 : decode jdk_65_method_133_code 12 = .ok (.astore 4, 2) := by decide +kernel
theorem d27_14 : decode jdk_65_method_133_code 14 = .ok (.aload_n 0, 1) := by decide +kernel
theorem d27_15 : decode jdk_65_method_133_code 15 = .ok (.iload_n 1, 1) := by decide +kernel
theorem d27_16 : decode jdk_65_method_133_code 16 = .ok (.aload 4, 2) := by decide +kernel
theorem d27_18 : decode jdk_65_method_133_code 18 = .ok (.iconst 0, 1) := by decide +kernel
theorem d27_19 : decode jdk_65_method_133_code 19 = .ok (.aload_n 0, 1) := by decide +kernel
theorem d27_20 : decode jdk_65_method_133_code 20 = .ok (.arraylength, 1) := by decide +kernel
theorem d27_21 : decode jdk_65_method_133_code 21 = .ok (.iload_n 1, 1) := by decide +kernel
theorem d27_22 : decode jdk_65_method_133_code 22 = .ok (.isub, 1) := by decide +kernel
theorem d27_23 : decode jdk_65_method_133_code 23 = .ok (.iload_n 3, 1) := by decide +kernel
theorem d27_24 : decode jdk_65_method_133_code 24 = .ok (.invokestatic 304, 3) := by decide +kernel
theorem d27_27 : decode jdk_65_method_133_code 27 = .ok (.invokestatic 150, 3) := by decide +kernel
theorem d27_30 : decode jdk_65_method_133_code 30 = .ok (.aload 4, 2) := by decide +kernel
theorem d27_32 : decode jdk_65_method_133_code 32 = .ok (.areturn, 1) := by decide +kernel
theorem ef_27 (m : MethodId) (x0 : Addr) (x1 : Int32) (x2 : Int32) : entryFrame m #[(.ref x0), (.int x1), (.int x2)] 5 = mkF m 0 #[.val (.ref x0), .val (.int x1), .val (.int x2), .unset, .unset] [] := by first | (simp [entryFrame, mkF, argsToLocals, Value.category]; done) | rfl
def Q27_2_1 (Z : State) (sb1 : Addr) (kb : ClassId) (x0 : Int32) (x1 : Int32) (h0 : Heap) (n0 : Nat) (v : Option Value) (h : Heap) (L : List Loc) : Prop := own_QA Z (1 : Int32) [(.int x1)] h0 n0 v h L
set_option maxRecDepth 65536 in
set_option maxHeartbeats 40000000 in
theorem rm27_2_1 (l : Launch) (Z : State) (a0 : Array Value) (hw : ∀ d ∈ tables_1, d.before a0 Z = true) (ws : List Jvm.Cond) (sb1 : Addr) (kb : ClassId) (x0 : Int32) (x1 : Int32) (h0 : Heap) (n0 : Nat) (Z0 : n0 ≤ h0.size) (V_b : Arv Z h0 sb1 kb .byte (2 : Int32) [(.int x0), (.int x1)] (.int (0 : Int32))) :
    MetFree l own_y19 (head1 (Jvm.Cond.code own_y19 jdk_65_method_133_code 5 (some (.array .byte)) :: ws) ({ frames := 1, cells := 1, slots := 4, locals := 18 } : Room)) (fun a U => a = #[(.ref sb1), (.int 1), (.int 2)] ∧ Z.Warmed39 U.vm ∧ U.heap = h0) (fun _ _ _ _ _ => True) (fun _ U o U' => ∃ v L, o = .returned v ∧ Q27_2_1 Z sb1 kb x0 x1 h0 n0 v U'.heap L ∧ FrameEnd U o U' L ({ frames := 1, cells := 1, slots := 4, locals := 18 } : Room).cells ({ frames := 1, cells := 1, slots := 4, locals := 18 } : Room).slots) := by
  refine MetFree.of_bodySF (plainFor_of_name pn_27) hisR ?_
  intro p e s m args below meth c s₁ Bd hml0 hP hK
  obtain ⟨rfl, hZ, hh⟩ := hP
  have hx := Bd.exec
  have hby := Bd.bytes
  have hml : c.maxLocals = 5 := hml0
  have hown : s.vm.findClass "java/util/Arrays" = some m.cls := findClass_of_methodNamed Bd.named
  have hnm := (name_of_methodNamed Bd.named Bd.method).1
  have X0 : Stand p l e ({ frames := 1, cells := 1, slots := 4, locals := 18 } : Room) s m #[(.ref sb1), (.int 1), (.int 2)] below meth c s₁ [] 0 0 := Stand.of_body Bd
  have e0 : s₁.heap = h0 := by rw [← hh, Bd.state]; rfl
  have N0 := Fr.nil n0
  refine own_go (B := s₁.setTop (mkF m 0 #[rv sb1, iv 1, iv 2, .unset, .unset] [])) (fun t k => castTop (ef_27 m sb1 (1 : Int32) (2 : Int32)) k) ?_
  refine own_go (B := s₁.setTop (mkF m 2 #[rv sb1, iv 1, iv 2, .unset, .unset] [(.int 2), (.int 1)])) (fun t k => ?_) ?_
  · show own_S p e below s₁ (mkF m 0 #[rv sb1, iv 1, iv 2, .unset, .unset] []) _
    refine XS.iloadN X0.here hx rfl (hb hby d27_0) rfl ?_
    refine XS.iloadN X0.here hx rfl (hb hby d27_1) rfl ?_
    exact k
  obtain ⟨_, _, ⟨T1, L1, k1, n1⟩, -, X1, ⟨Lc1, hQ1, l1, y1, z1⟩, st1⟩ := Jvm.LawKit.callS X0 hx (y := own_y17) hown (mvT hZ (own_w hw 121 rfl)) (mvT hZ (own_w hw 122 rfl)) (mvT hZ (own_w hw 116 rfl)) (mvT hZ (own_w hw 123 rfl)) (by decide) (backOf (W := 0) (rm28 l Z a0 hw [] (1 : Int32) (2 : Int32) h0 n0 Z0 (by decide)) hZ (own_w hw 123 rfl) (own_w hw 116 rfl) (by decide) (by decide)) (g := (mkF m 2 #[rv sb1, iv 1, iv 2, .unset, .unset] [(.int 2), (.int 1)])) rfl (by rw [hml]; rfl) (argsL := [(.int 1), (.int 2)]) (rest := []) (lenOf own_pd2 rfl) rfl (by show 2 * 0 + _ ≤ _; exact Nat.le_of_eq rfl) (hb hby d27_2) (fun _ _ => ⟨rfl, e0, (by decide : 0 + 0 ≤ _), (by decide : 0 + 0 ≤ _)⟩)
  dsimp only [Pt.U, Pt.locs, Pt.cells, Pt.slots] at X1 l1 y1 z1 st1 hQ1
  subst l1 y1 z1
  obtain ⟨rfl, N1q, eq1⟩ := hQ1
  have N1 := Fr.app N0 N1q
  refine own_go (B := T1.setTop (mkF m 5 #[rv sb1, iv 1, iv 2, .unset, .unset] [])) (fun t k => st1 _ k) ?_
  refine own_go (B := T1.setTop (mkF m 10 #[rv sb1, iv 1, iv 2, iv 1, .unset] [(.int 1)])) (fun t k => ?_) ?_
  · show own_S p e below T1 (mkF m 5 #[rv sb1, iv 1, iv 2, .unset, .unset] []) _
    refine XS.iloadN X1.here hx rfl (hb hby d27_5) rfl ?_
    refine XS.iloadN X1.here hx rfl (hb hby d27_6) rfl ?_
    refine XS.isub X1.here hx rfl (hb hby d27_7) rfl ?_
    show own_S p e below T1 (mkF m 8 #[rv sb1, iv 1, iv 2, .unset, .unset] [(.int 1)]) _
    refine XS.istoreN X1.here hx rfl (hb hby d27_8) rfl (l' := #[rv sb1, iv 1, iv 2, iv 1, .unset]) rfl ?_
    refine XS.iloadN X1.here hx rfl (hb hby d27_9) rfl ?_
    exact k
  obtain ⟨T2, h2, k2, X2, e2, E2, A2, st2⟩ := newP X1 hx hZ (own_w hw 23 rfl) eq1 (g := (mkF m 10 #[rv sb1, iv 1, iv 2, iv 1, .unset] [(.int 1)])) rfl (hb hby d27_10) rfl (by decide) (cap := 1) (by decide) (by decide) (by decide) (by decide)
  obtain ⟨b2, g2⟩ : ∃ z, z = h0.size := ⟨_, rfl⟩
  rw [← g2] at A2 st2
  have g_b2 : n0 ≤ b2 := Nat.le_trans Z0 (Nat.le_of_eq g2.symm)
  have sz_b2 : h0.size ≤ b2 := Nat.le_trans (Keep.refl h0 []).1 (Nat.le_of_eq g2.symm)
  have ne_sb1_b2 : sb1 ≠ b2 := Nat.ne_of_lt (Nat.lt_of_lt_of_le V_b.lt (Nat.le_of_eq g2.symm))
  have c2_V_sb1 := V_b.ext E2
  have K2 := (Keep.refl h0 []).ext E2
  have V2 : Arv Z h2 b2 k2 .byte (1 : Int32) [(.int (0 : Int32))] (.int (0 : Int32)) := (Arv.new A2 (by decide)).pad (pad_rep [] (.int (0 : Int32)) 1)
  refine own_go (B := T2.setTop (mkF m 12 #[rv sb1, iv 1, iv 2, iv 1, .unset] [(.ref b2)])) (fun t k => st2 _ k) ?_
  obtain ⟨cl3, Ar3, qk3, S3, M3, H3, G3⟩ := id c2_V_sb1
  refine own_go (B := T2.setTop (mkF m 24 #[rv sb1, iv 1, iv 2, iv 1, rv b2] [(.int 1), (.int 1), (.int 0), (.ref b2), (.int 1), (.ref sb1)])) (fun t k => ?_) ?_
  · show own_S p e below T2 (mkF m 12 #[rv sb1, iv 1, iv 2, iv 1, .unset] [(.ref b2)]) _
    refine XS.astore X2.here hx rfl (hb hby d27_12) rfl rfl (l' := #[rv sb1, iv 1, iv 2, iv 1, rv b2]) rfl ?_
    refine XS.aloadN X2.here hx rfl (hb hby d27_14) rfl rfl ?_
    refine XS.iloadN X2.here hx rfl (hb hby d27_15) rfl ?_
    show own_S p e below T2 (mkF m 16 #[rv sb1, iv 1, iv 2, iv 1, rv b2] [(.int 1), (.ref sb1)]) _
    refine XS.aload X2.here hx rfl (hb hby d27_16) rfl rfl ?_
    refine XS.iconst X2.here hx rfl (hb hby d27_18) ?_
    refine XS.aloadN X2.here hx rfl (hb hby d27_19) rfl rfl ?_
    show own_S p e below T2 (mkF m 20 #[rv sb1, iv 1, iv 2, iv 1, rv b2] [(.ref sb1), (.int 0), (.ref b2), (.int 1), (.ref sb1)]) _
    refine X2.arraylength hx (by rw [e2]; exact Ar3.1) (State.isArrayOf_alike hZ.alike Ar3.2.1) (g := (mkF m 20 #[rv sb1, iv 1, iv 2, iv 1, rv b2] [(.ref sb1), (.int 0), (.ref b2), (.int 1), (.ref sb1)])) rfl rfl (hb hby d27_20) _ ?_
    rw [len_of S3 M3]
    refine XS.iloadN X2.here hx rfl (hb hby d27_21) rfl ?_
    refine XS.isub X2.here hx rfl (hb hby d27_22) rfl ?_
    show own_S p e below T2 (mkF m 23 #[rv sb1, iv 1, iv 2, iv 1, rv b2] [(.int 1), (.int 0), (.ref b2), (.int 1), (.ref sb1)]) _
    refine XS.iloadN X2.here hx rfl (hb hby d27_23) rfl ?_
    exact k
  obtain ⟨_, _, ⟨T4, L4, k4, n4⟩, -, X4, ⟨Lc4, hQ4, l4, y4, z4⟩, st4⟩ := Jvm.LawKit.callS X2 hx (y := own_y14) hown (mvT hZ (own_w hw 124 rfl)) (mvT hZ (own_w hw 72 rfl)) (mvT hZ (own_w hw 69 rfl)) (mvT hZ (own_w hw 73 rfl)) (by decide) (backOf (W := 4) (rm15 l Z a0 hw [] (1 : Int32) (1 : Int32) (1 : Int32) h2 n0 (Nat.le_trans Z0 E2.1) (by decide)) hZ (own_w hw 73 rfl) (own_w hw 69 rfl) (by decide) (by decide)) (g := (mkF m 24 #[rv sb1, iv 1, iv 2, iv 1, rv b2] [(.int 1), (.int 1), (.int 0), (.ref b2), (.int 1), (.ref sb1)])) rfl (by rw [hml]; rfl) (argsL := [(.int 1), (.int 1)]) (rest := [(.int 0), (.ref b2), (.int 1), (.ref sb1)]) (lenOf own_pd16 rfl) rfl (by show 2 * 0 + _ ≤ _; exact Nat.le_of_eq rfl) (hb hby d27_24) (fun _ _ => ⟨rfl, e2, (by decide : 1 + 0 ≤ _), (by decide : 1 + 0 ≤ _)⟩)
  dsimp only [Pt.U, Pt.locs, Pt.cells, Pt.slots] at X4 l4 y4 z4 st4 hQ4
  subst l4 y4 z4
  obtain ⟨rfl, N4q, eq4⟩ := hQ4
  have N4 := Fr.app N1 N4q
  refine own_go (B := T4.setTop (mkF m 27 #[rv sb1, iv 1, iv 2, iv 1, rv b2] [(.int 1), (.int 0), (.ref b2), (.int 1), (.ref sb1)])) (fun t k => st4 _ k) ?_
  obtain ⟨T5, h5, L5, X5, e5, N5, K5q, V5q, st5⟩ := cpA X4 hx hZ hown (own_w hw 125 rfl) (own_w hw 128 rfl) (own_w hw 126 rfl) (own_w hw 127 rfl) eq4 c2_V_sb1 V2 (us := [(.int x1)]) (Or.inl ⟨rfl, rfl⟩) (by decide) (by decide) (by decide) (by decide) (by decide) rfl (by decide) N4 g_b2 (g := (mkF m 27 #[rv sb1, iv 1, iv 2, iv 1, rv b2] [(.int 1), (.int 0), (.ref b2), (.int 1), (.ref sb1)])) rfl (by rw [hml]; rfl) (rest := []) rfl (hb hby d27_27) (by decide) (W := 0) (by show 2 * 0 + _ ≤ _; exact Nat.le_of_eq rfl) (by decide)
  have V5 : Arv Z h5 b2 k2 .byte (1 : Int32) [(.int x1)] (.int (0 : Int32)) := V5q
  have c5_V_sb1 := c2_V_sb1.keep K5q (fun q => ne_sb1_b2 (List.mem_singleton.mp q))
  have K5 := K2.trans K5q (allS (Or.inr sz_b2) all0)
  refine own_go (B := T5.setTop (mkF m 30 #[rv sb1, iv 1, iv 2, iv 1, rv b2] [])) (fun t k => st5 _ k) ?_
  obtain ⟨fs, hr, hrun, hended, hW, hsame⟩ := X5.leave (v := some (.ref b2)) (fun h => by rw [Bd.returns] at h; cases h)
  refine ⟨_, _, ?_, hrun, hended, _, _, rfl, ?_, ⟨_, rfl⟩, hW, hsame.mono (by decide) (by decide)⟩
  · show own_S p e below T5 (mkF m 30 #[rv sb1, iv 1, iv 2, iv 1, rv b2] []) _
    refine XS.aload X5.here hx rfl (hb hby d27_30) rfl rfl ?_
    show own_S p e below T5 (mkF m 32 #[rv sb1, iv 1, iv 2, iv 1, rv b2] [(.ref b2)]) _
    jvm_step X5.here [X5.here.top, hx, (hb hby d27_32), X5.method', Bd.returns, Value.isRef, FieldType.isReference]
    first | (intro acts; rw [hr _ acts rfl rfl rfl]) | rw [hr _ _ rfl rfl rfl]
    exact Steps.refl _
  · show Q27_2_1 Z sb1 kb x0 x1 h0 n0 _ T5.heap _
    rw [e5]
    exact ⟨b2, k2, rfl, N5, K5, sz_b2, g_b2, V5⟩
theorem d25_7 : decode jdk_43_method_47_code 7 = .ok (.new 1, 3) := by decide +kernel
theorem d25_10 : decode jdk_43_method_47_code 10 = .ok (.dup, 1) := by decide +kernel
theorem d25_11 : decode jdk_43_method_47_code 11 = .ok (.aload_n 0, 1) := by decide +kernel
theorem d25_12 : decode jdk_43_method_47_code 12 = .ok (.iload_n 1, 1) := by decide +kernel
theorem d25_13 : decode jdk_43_method_47_code 13 = .ok (.iload_n 1, 1) := by decide +kernel
theorem d25_14 : decode jdk_43_method_47_code 14 = .ok (.iload_n 2, 1) := by decide +kernel
theorem d25_15 : decode jdk_43_method_47_code 15 = .ok (.iadd, 1) := by decide +kernel
theorem d25_16 : decode jdk_43_method_47_code 16 = .ok (.invokestatic 232, 3) := by decide +kernel
theorem d25_19 : decode jdk_43_method_47_code 19 = .ok (.iconst 0, 1) := by decide +kernel
theorem d25_20 : decode jdk_43_method_47_code 20 = .ok (.invokespecial 112, 3) := by decide +kernel
theorem d25_23 : decode jdk_43_method_47_code 23 = .ok (.areturn, 1) := by decide +kernel
def Q25_2_1 (Z : State) (sb1 : Addr) (kb : ClassId) (x0 : Int32) (x1 : Int32) (h0 : Heap) (n0 : Nat) (v : Option Value) (h : Heap) (L : List Loc) : Prop := own_QS Z (1 : Int32) [(.int x1)] h0 n0 v h L
set_option maxRecDepth 65536 in
set_option maxHeartbeats 40000000 in
theorem rm25_2_1 (l : Launch) (Z : State) (a0 : Array Value) (hw : ∀ d ∈ tables_1, d.before a0 Z = true) (ws : List Jvm.Cond) (sb1 : Addr) (kb : ClassId) (x0 : Int32) (x1 : Int32) (h0 : Heap) (n0 : Nat) (Z0 : n0 ≤ h0.size) (V_b : Arv Z h0 sb1 kb .byte (2 : Int32) [(.int x0), (.int x1)] (.int (0 : Int32))) :
    MetFree l own_y21 (head1 (Jvm.Cond.code own_y21 jdk_43_method_47_code 3 (some (.object "java/lang/String")) :: ws) ({ frames := 3, cells := 2, slots := 8, locals := 50 } : Room)) (fun a U => a = #[(.ref sb1), (.int 1), (.int 1)] ∧ Z.Warmed39 U.vm ∧ U.heap = h0) (fun _ _ _ _ _ => True) (fun _ U o U' => ∃ v L, o = .returned v ∧ Q25_2_1 Z sb1 kb x0 x1 h0 n0 v U'.heap L ∧ FrameEnd U o U' L ({ frames := 3, cells := 2, slots := 8, locals := 50 } : Room).cells ({ frames := 3, cells := 2, slots := 8, locals := 50 } : Room).slots) := by
  refine MetFree.of_bodySF (plainFor_of_name pn_25) hisR ?_
  intro p e s m args below meth c s₁ Bd hml0 hP hK
  obtain ⟨rfl, hZ, hh⟩ := hP
  have hx := Bd.exec
  have hby := Bd.bytes
  have hml : c.maxLocals = 3 := hml0
  have hown : s.vm.findClass "java/lang/StringLatin1" = some m.cls := findClass_of_methodNamed Bd.named
  have hnm := (name_of_methodNamed Bd.named Bd.method).1
  have X0 : Stand p l e ({ frames := 3, cells := 2, slots := 8, locals := 50 } : Room) s m #[(.ref sb1), (.int 1), (.int 1)] below meth c s₁ [] 0 0 := Stand.of_body Bd
  have e0 : s₁.heap = h0 := by rw [← hh, Bd.state]; rfl
  have N0 := Fr.nil n0
  refine own_go (B := s₁.setTop (mkF m 0 #[rv sb1, iv 1, iv 1] [])) (fun t k => castTop (ef_25 m sb1 (1 : Int32) (1 : Int32)) k) ?_
  refine own_go (B := s₁.setTop (mkF m 7 #[rv sb1, iv 1, iv 1] [])) (fun t k => ?_) ?_
  · show own_S p e below s₁ (mkF m 0 #[rv sb1, iv 1, iv 1] []) _
    refine XS.iloadN X0.here hx rfl (hb hby d25_0) rfl ?_
    refine XS.ifYes X0.here hx rfl (pc0 := 1) (pc' := 7) rfl (hb hby d25_1) rfl ((if0 _ _).trans (feq (by decide)).2) (by decide) (by decide) ?_
    exact k
  obtain ⟨T1, h1, X1, e1, E1, A1, D1, -, st1⟩ := newO X0 hx hZ hown (own_w hw 113 rfl) (own_w hw 10 rfl) (own_w hw 11 rfl) e0 (g := (mkF m 7 #[rv sb1, iv 1, iv 1] [])) rfl (hb hby d25_7) (by decide) (by decide)
  obtain ⟨b1, g1⟩ : ∃ z, z = h0.size := ⟨_, rfl⟩
  rw [← g1] at A1 D1 st1
  have g_b1 : n0 ≤ b1 := Nat.le_trans Z0 (Nat.le_of_eq g1.symm)
  have sz_b1 : h0.size ≤ b1 := Nat.le_trans (Keep.refl h0 []).1 (Nat.le_of_eq g1.symm)
  have ne_sb1_b1 : sb1 ≠ b1 := Nat.ne_of_lt (Nat.lt_of_lt_of_le V_b.lt (Nat.le_of_eq g1.symm))
  have c1_V_sb1 := V_b.ext E1
  have K1 := (Keep.refl h0 []).ext E1
  have F1_value : Fld Z h1 b1 "java/lang/String" "value" "[B" .null := D1 (Or.inr (own_w hw 24 rfl)) (ty := (.array .byte)) (by decide)
  have F1_coder : Fld Z h1 b1 "java/lang/String" "coder" "B" (.int 0) := D1 (Or.inr (own_w hw 25 rfl)) (ty := .byte) (by decide)
  refine own_go (B := T1.setTop (mkF m 10 #[rv sb1, iv 1, iv 1] [(.ref b1)])) (fun t k => st1 _ k) ?_
  refine own_go (B := T1.setTop (mkF m 16 #[rv sb1, iv 1, iv 1] [(.int 2), (.int 1), (.ref sb1), (.ref b1), (.ref b1)])) (fun t k => ?_) ?_
  · show own_S p e below T1 (mkF m 10 #[rv sb1, iv 1, iv 1] [(.ref b1)]) _
    refine XS.dup X1.here hx rfl (hb hby d25_10) rfl rfl ?_
    refine XS.aloadN X1.here hx rfl (hb hby d25_11) rfl rfl ?_
    refine XS.iloadN X1.here hx rfl (hb hby d25_12) rfl ?_
    show own_S p e below T1 (mkF m 13 #[rv sb1, iv 1, iv 1] [(.int 1), (.ref sb1), (.ref b1), (.ref b1)]) _
    refine XS.iloadN X1.here hx rfl (hb hby d25_13) rfl ?_
    refine XS.iloadN X1.here hx rfl (hb hby d25_14) rfl ?_
    refine XS.iadd X1.here hx rfl (hb hby d25_15) rfl ?_
    exact k
  obtain ⟨_, _, ⟨T2, L2, k2, n2⟩, -, X2, ⟨Lc2, hQ2, l2, y2, z2⟩, st2⟩ := Jvm.LawKit.callS X1 hx (y := own_y20) hown (mvT hZ (own_w hw 114 rfl)) (mvT hZ (own_w hw 115 rfl)) (mvT hZ (own_w hw 116 rfl)) (mvT hZ (own_w hw 117 rfl)) (by decide) (backOf (W := 2) (rm26 l Z a0 hw [] sb1 (1 : Int32) (2 : Int32) (1 : Int32) [(.int x1)] h1 n0 (Nat.le_trans Z0 E1.1) (by decide) (rm27_2_1 l Z a0 hw [] sb1 kb x0 x1 h1 n0 (Nat.le_trans Z0 E1.1) c1_V_sb1)) hZ (own_w hw 117 rfl) (own_w hw 116 rfl) (by decide) (by decide)) (g := (mkF m 16 #[rv sb1, iv 1, iv 1] [(.int 2), (.int 1), (.ref sb1), (.ref b1), (.ref b1)])) rfl (by rw [hml]; rfl) (argsL := [(.ref sb1), (.int 1), (.int 2)]) (rest := [(.ref b1), (.ref b1)]) (lenOf own_pd10 rfl) rfl (by show 2 * 0 + _ ≤ _; exact Nat.le_of_eq rfl) (hb hby d25_16) (fun _ _ => ⟨rfl, e1, (by decide : 1 + 1 ≤ _), (by decide : 4 + 4 ≤ _)⟩)
  dsimp only [Pt.U, Pt.locs, Pt.cells, Pt.slots] at X2 l2 y2 z2 st2 hQ2
  subst l2 y2 z2
  obtain ⟨bq2, kq2, rfl, N2q, K2q, q2z, q2g, V2q⟩ := hQ2
  have N2 := Fr.app N0 N2q
  have sz_bq2 : h0.size ≤ bq2 := Nat.le_trans (K1).1 q2z
  have g_bq2 : n0 ≤ bq2 := q2g
  have ne_sb1_bq2 : sb1 ≠ bq2 := Nat.ne_of_lt (Nat.lt_of_lt_of_le c1_V_sb1.lt q2z)
  have ne_b1_bq2 : b1 ≠ bq2 := Nat.ne_of_lt (Nat.lt_of_lt_of_le A1.lt q2z)
  have c2_V_sb1 := c1_V_sb1.keep K2q (List.not_mem_nil)
  have c2_E_b1 := A1.keep K2q
  have c2_F_b1_value := F1_value.keep K2q (List.not_mem_nil)
  have c2_F_b1_coder := F1_coder.keep K2q (List.not_mem_nil)
  have K2 := K1.trans K2q all0
  refine own_go (B := T2.setTop (mkF m 19 #[rv sb1, iv 1, iv 1] [(.ref bq2), (.ref b1), (.ref b1)])) (fun t k => st2 _ k) ?_
  refine own_go (B := T2.setTop (mkF m 20 #[rv sb1, iv 1, iv 1] [(.int 0), (.ref bq2), (.ref b1), (.ref b1)])) (fun t k => ?_) ?_
  · show own_S p e below T2 (mkF m 19 #[rv sb1, iv 1, iv 1] [(.ref bq2), (.ref b1), (.ref b1)]) _
    refine XS.iconst X2.here hx rfl (hb hby d25_19) ?_
    exact k
  obtain ⟨_, _, ⟨T3, L3, k3, n3⟩, -, X3, ⟨Lc3, hQ3, l3, y3, z3⟩, st3⟩ := X2.specialBack hx (y := own_y18) rfl hown (mvT hZ (own_w hw 129 rfl)) (mvT hZ (own_w hw 130 rfl)) (mvT hZ (own_w hw 131 rfl)) (by decide) (backOf (W := 1) (rm29 l Z a0 hw [] b1 bq2 T2.heap n0 (Nat.le_trans (Nat.le_trans Z0 E1.1) K2q.1) c2_E_b1 g_b1 c2_F_b1_value c2_F_b1_coder) hZ (own_w hw 131 rfl) (own_w hw 11 rfl) (by decide) (by decide)) (g := (mkF m 20 #[rv sb1, iv 1, iv 1] [(.int 0), (.ref bq2), (.ref b1), (.ref b1)])) rfl (by rw [hml]; rfl) (Steps.refl _) (a := b1) (argsL := [(.ref bq2), (.int 0)]) (rest := [(.ref b1)]) (lenOf own_pd18 rfl) rfl (by show 2 * 0 + _ ≤ _; exact Nat.le_of_eq rfl) (hb hby d25_20) (fun _ _ => ⟨rfl, rfl, (by decide : 2 + 0 ≤ _), (by decide : 8 + 0 ≤ _)⟩)
  dsimp only [Pt.U, Pt.locs, Pt.cells, Pt.slots] at X3 l3 y3 z3 st3 hQ3
  subst l3 y3 z3
  obtain ⟨rfl, N3q, K3q, E3q, F3c, F3v⟩ := hQ3
  have N3 := Fr.app N2 N3q
  have c3_V_sb1 := c2_V_sb1.keep K3q (fun q => ne_sb1_b1 (List.mem_singleton.mp q))
  have c3_V_bq2 := V2q.keep K3q (fun q => (Ne.symm ne_b1_bq2) (List.mem_singleton.mp q))
  have K3 := K2.trans K3q (allS (Or.inr sz_b1) all0)
  refine own_go (B := T3.setTop (mkF m 23 #[rv sb1, iv 1, iv 1] [(.ref b1)])) (fun t k => st3.trans k) ?_
  obtain ⟨fs, hr, hrun, hended, hW, hsame⟩ := X3.leave (v := some (.ref b1)) (fun h => by rw [Bd.returns] at h; cases h)
  refine ⟨_, _, ?_, hrun, hended, _, _, rfl, ?_, ⟨_, rfl⟩, hW, hsame.mono (by decide) (by decide)⟩
  · show own_S p e below T3 (mkF m 23 #[rv sb1, iv 1, iv 1] [(.ref b1)]) _
    jvm_step X3.here [X3.here.top, hx, (hb hby d25_23), X3.method', Bd.returns, Value.isRef, FieldType.isReference]
    first | (intro acts; rw [hr _ acts rfl rfl rfl]) | rw [hr _ _ rfl rfl rfl]
    exact Steps.refl _
  · show Q25_2_1 Z sb1 kb x0 x1 h0 n0 _ T3.heap _
    exact ⟨b1, bq2, kq2, rfl, N3, K3, E3q, F3c, F3v, c3_V_bq2⟩
def Q25_2_2 (Z : State) (sb1 : Addr) (kb : ClassId) (x0 : Int32) (x1 : Int32) (h0 : Heap) (n0 : Nat) (v : Option Value) (h : Heap) (L : List Loc) : Prop := own_QS Z (0 : Int32) [] h0 n0 v h L
set_option maxRecDepth 65536 in
set_option maxHeartbeats 40000000 in
theorem rm25_2_2 (l : Launch) (Z : State) (a0 : Array Value) (hw : ∀ d ∈ tables_1, d.before a0 Z = true) (ws : List Jvm.Cond) (sb1 : Addr) (kb : ClassId) (x0 : Int32) (x1 : Int32) (h0 : Heap) (n0 : Nat) (Z0 : n0 ≤ h0.size) (V_b : Arv Z h0 sb1 kb .byte (2 : Int32) [(.int x0), (.int x1)] (.int (0 : Int32))) :
    MetFree l own_y21 (head1 (Jvm.Cond.code own_y21 jdk_43_method_47_code 3 (some (.object "java/lang/String")) :: ws) ({ frames := 0, cells := 2, slots := 4, locals := 0 } : Room)) (fun a U => a = #[(.ref sb1), (.int 2), (.int 0)] ∧ Z.Warmed39 U.vm ∧ U.heap = h0 ∧ CHv Z consts_1 U.vm h0) (fun _ _ _ _ _ => True) (fun _ U o U' => ∃ v L, o = .returned v ∧ Q25_2_2 Z sb1 kb x0 x1 h0 n0 v U'.heap L ∧ CHr Z consts_1 U.vm U.heap U'.vm U'.heap ∧ ReturnedEndW U o U' L ({ frames := 0, cells := 2, slots := 4, locals := 0 } : Room).cells ({ frames := 0, cells := 2, slots := 4, locals := 0 } : Room).slots) := by
  refine MetFree.of_bodySF (plainFor_of_name pn_25) hisR ?_
  intro p e s m args below meth c s₁ Bd hml0 hP hK
  obtain ⟨rfl, hZ, hh, hCH⟩ := hP
  have hx := Bd.exec
  have hby := Bd.bytes
  have hml : c.maxLocals = 3 := hml0
  have hown : s.vm.findClass "java/lang/StringLatin1" = some m.cls := findClass_of_methodNamed Bd.named
  have hnm := (name_of_methodNamed Bd.named Bd.method).1
  have X0 : Stand p l e ({ frames := 0, cells := 2, slots := 4, locals := 0 } : Room) s m #[(.ref sb1), (.int 2), (.int 0)] below meth c s₁ [] 0 0 := Stand.of_body Bd
  have e0 : s₁.heap = h0 := by rw [← hh, Bd.state]; rfl
  have N0 := Fr.nil n0
  have X0 : Stand p l e ({ frames := 0, cells := 2, slots := 4, locals := 0 } : Room) (s.setVm s.vm) m #[(.ref sb1), (.int 2), (.int 0)] below meth c s₁ [] 0 0 := X0
  have hZ : Z.Warmed39 (s.setVm s.vm).vm := hZ
  have hown : (s.setVm s.vm).vm.findClass "java/lang/StringLatin1" = some m.cls := hown
  have hS : s.Since s.vm 0 := (State.WarmedH.refl s).since 0
  refine own_go (B := s₁.setTop (mkF m 0 #[rv sb1, iv 2, iv 0] [])) (fun t k => castTop (ef_25 m sb1 (2 : Int32) (0 : Int32)) k) ?_
  refine own_go (B := s₁.setTop (mkF m 4 #[rv sb1, iv 2, iv 0] [])) (fun t k => ?_) ?_
  · show own_S p e below s₁ (mkF m 0 #[rv sb1, iv 2, iv 0] []) _
    refine XS.iloadN X0.here hx rfl (hb hby d25_0) rfl ?_
    refine XS.ifNo X0.here hx rfl (hb hby d25_1) rfl ((if0 _ _).trans (teq (by decide)).2) ?_
    exact k
  obtain ⟨as1, T1, h1, kk1, bs1, ks1, X1, e1, E1, hS, hk1, hZ, hown, LE1, LC1, LV1, LA1, la1, lb1, hC1, hL1, hSf1, st1⟩ := ldcCH (EL := consts_1) X0 hx hZ hown (own_w hw 146 rfl) (own_wS hw) e0 hS (Nat.zero_le _) (own_hEL hw) (by decide) (CHr.refl hCH).1 (z := (0 : Int32)) own_ht0 (by decide) rfl (g := (mkF m 4 #[rv sb1, iv 2, iv 0] [])) rfl (hb hby d25_4) (n := 0) (by decide) (by decide) (by decide) (by decide)
  have Ch1 := (CHr.refl hCH).trans hC1
  have c1_V_sb1 := V_b.ext E1
  have K1 := (Keep.refl h0 []).ext E1
  refine own_go (B := T1.setTop (mkF m 6 #[rv sb1, iv 2, iv 0] [(.ref as1)])) (fun t k => st1 _ k) ?_
  obtain ⟨fs, hr, hrun, hended, hRW⟩ := X1.leaveW hS (by rw [e1]; exact hk1) (v := some (.ref as1)) (fun h => by rw [Bd.returns] at h; cases h)
  refine ⟨_, _, ?_, hrun, hended, _, _, rfl, ?_, (by have q := (Ch1).trans (CHv.at X1 hZ (own_hEL hw) (Ch1).1); rw [← hh, ← e1] at q; exact q), hRW.1, hRW.2.1, hRW.2.2.1, hRW.2.2.2.mono (by decide) (by decide)⟩
  · show own_S p e below T1 (mkF m 6 #[rv sb1, iv 2, iv 0] [(.ref as1)]) _
    jvm_step X1.here [X1.here.top, hx, (hb hby d25_6), X1.method', Bd.returns, Value.isRef, FieldType.isReference]
    first | (intro acts; rw [hr _ acts rfl rfl rfl]) | rw [hr _ _ rfl rfl rfl]
    exact Steps.refl _
  · show Q25_2_2 Z sb1 kb x0 x1 h0 n0 _ T1.heap _
    rw [e1]
    exact ⟨as1, bs1, ks1, rfl, N0, K1, LE1, LC1, LV1, LA1⟩
def Q27_3_1 (Z : State) (sb1 : Addr) (kb : ClassId) (x0 : Int32) (x1 : Int32) (x2 : Int32) (h0 : Heap) (n0 : Nat) (v : Option Value) (h : Heap) (L : List Loc) : Prop := own_QA Z (2 : Int32) [(.int x1), (.int x2)] h0 n0 v h L
set_option maxRecDepth 65536 in
set_option maxHeartbeats 40000000 in
theorem rm27_3_1 (l : Launch) (Z : State) (a0 : Array Value) (hw : ∀ d ∈ tables_1, d.before a0 Z = true) (ws : List Jvm.Cond) (sb1 : Addr) (kb : ClassId) (x0 : Int32) (x1 : Int32) (x2 : Int32) (h0 : Heap) (n0 : Nat) (Z0 : n0 ≤ h0.size) (V_b : Arv Z h0 sb1 kb .byte (3 : Int32) [(.int x0), (.int x1), (.int x2)] (.int (0 : Int32))) :
    MetFree l own_y19 (head1 (Jvm.Cond.code own_y19 jdk_65_method_133_code 5 (some (.array .byte)) :: ws) ({ frames := 1, cells := 1, slots := 4, locals := 18 } : Room)) (fun a U => a = #[(.ref sb1), (.int 1), (.int 3)] ∧ Z.Warmed39 U.vm ∧ U.heap = h0) (fun _ _ _ _ _ => True) (fun _ U o U' => ∃ v L, o = .returned v ∧ Q27_3_1 Z sb1 kb x0 x1 x2 h0 n0 v U'.heap L ∧ FrameEnd U o U' L ({ frames := 1, cells := 1, slots := 4, locals := 18 } : Room).cells ({ frames := 1, cells := 1, slots := 4, locals := 18 } : Room).slots) := by
  refine MetFree.of_bodySF (plainFor_of_name pn_27) hisR ?_
  intro p e s m args below meth c s₁ Bd hml0 hP hK
  obtain ⟨rfl, hZ, hh⟩ := hP
  have hx := Bd.exec
  have hby := Bd.bytes
  have hml : c.maxLocals = 5 := hml0
  have hown : s.vm.findClass "java/util/Arrays" = some m.cls := findClass_of_methodNamed Bd.named
  have hnm := (name_of_methodNamed Bd.named Bd.method).1
  have X0 : Stand p l e ({ frames := 1, cells := 1, slots := 4, locals := 18 } : Room) s m #[(.ref sb1), (.int 1), (.int 3)] below meth c s₁ [] 0 0 := Stand.of_body Bd
  have e0 : s₁.heap = h0 := by rw [← hh, Bd.state]; rfl
  have N0 := Fr.nil n0
  refine own_go (B := s₁.setTop (mkF m 0 #[rv sb1, iv 1, iv 3, .unset, .unset] [])) (fun t k => castTop (ef_27 m sb1 (1 : Int32) (3 : Int32)) k) ?_
  refine own_go (B := s₁.setTop (mkF m 2 #[rv sb1, iv 1, iv 3, .unset, .unset] [(.int 3), (.int 1)])) (fun t k => ?_) ?_
  · show own_S p e below s₁ (mkF m 0 #[rv sb1, iv 1, iv 3, .unset, .unset] []) _
    refine XS.iloadN X0.here hx rfl (hb hby d27_0) rfl ?_
    refine XS.iloadN X0.here hx rfl (hb hby d27_1) rfl ?_
    exact k
  obtain ⟨_, _, ⟨T1, L1, k1, n1⟩, -, X1, ⟨Lc1, hQ1, l1, y1, z1⟩, st1⟩ := Jvm.LawKit.callS X0 hx (y := own_y17) hown (mvT hZ (own_w hw 121 rfl)) (mvT hZ (own_w hw 122 rfl)) (mvT hZ (own_w hw 116 rfl)) (mvT hZ (own_w hw 123 rfl)) (by decide) (backOf (W := 0) (rm28 l Z a0 hw [] (1 : Int32) (3 : Int32) h0 n0 Z0 (by decide)) hZ (own_w hw 123 rfl) (own_w hw 116 rfl) (by decide) (by decide)) (g := (mkF m 2 #[rv sb1, iv 1, iv 3, .unset, .unset] [(.int 3), (.int 1)])) rfl (by rw [hml]; rfl) (argsL := [(.int 1), (.int 3)]) (rest := []) (lenOf own_pd2 rfl) rfl (by show 2 * 0 + _ ≤ _; exact Nat.le_of_eq rfl) (hb hby d27_2) (fun _ _ => ⟨rfl, e0, (by decide : 0 + 0 ≤ _), (by decide : 0 + 0 ≤ _)⟩)
  dsimp only [Pt.U, Pt.locs, Pt.cells, Pt.slots] at X1 l1 y1 z1 st1 hQ1
  subst l1 y1 z1
  obtain ⟨rfl, N1q, eq1⟩ := hQ1
  have N1 := Fr.app N0 N1q
  refine own_go (B := T1.setTop (mkF m 5 #[rv sb1, iv 1, iv 3, .unset, .unset] [])) (fun t k => st1 _ k) ?_
  refine own_go (B := T1.setTop (mkF m 10 #[rv sb1, iv 1, iv 3, iv 2, .unset] [(.int 2)])) (fun t k => ?_) ?_
  · show own_S p e below T1 (mkF m 5 #[rv sb1, iv 1, iv 3, .unset, .unset] []) _
    refine XS.iloadN X1.here hx rfl (hb hby d27_5) rfl ?_
    refine XS.iloadN X1.here hx rfl (hb hby d27_6) rfl ?_
    refine XS.isub X1.here hx rfl (hb hby d27_7) rfl ?_
    show own_S p e below T1 (mkF m 8 #[rv sb1, iv 1, iv 3, .unset, .unset] [(.int 2)]) _
    refine XS.istoreN X1.here hx rfl (hb hby d27_8) rfl (l' := #[rv sb1, iv 1, iv 3, iv 2, .unset]) rfl ?_
    refine XS.iloadN X1.here hx rfl (hb hby d27_9) rfl ?_
    exact k
  obtain ⟨T2, h2, k2, X2, e2, E2, A2, st2⟩ := newP X1 hx hZ (own_w hw 23 rfl) eq1 (g := (mkF m 10 #[rv sb1, iv 1, iv 3, iv 2, .unset] [(.int 2)])) rfl (hb hby d27_10) rfl (by decide) (cap := 2) (by decide) (by decide) (by decide) (by decide)
  obtain ⟨b2, g2⟩ : ∃ z, z = h0.size := ⟨_, rfl⟩
  rw [← g2] at A2 st2
  have g_b2 : n0 ≤ b2 := Nat.le_trans Z0 (Nat.le_of_eq g2.symm)
  have sz_b2 : h0.size ≤ b2 := Nat.le_trans (Keep.refl h0 []).1 (Nat.le_of_eq g2.symm)
  have ne_sb1_b2 : sb1 ≠ b2 := Nat.ne_of_lt (Nat.lt_of_lt_of_le V_b.lt (Nat.le_of_eq g2.symm))
  have c2_V_sb1 := V_b.ext E2
  have K2 := (Keep.refl h0 []).ext E2
  have V2 : Arv Z h2 b2 k2 .byte (2 : Int32) [(.int (0 : Int32)), (.int (0 : Int32))] (.int (0 : Int32)) := (Arv.new A2 (by decide)).pad (pad_rep [] (.int (0 : Int32)) 2)
  refine own_go (B := T2.setTop (mkF m 12 #[rv sb1, iv 1, iv 3, iv 2, .unset] [(.ref b2)])) (fun t k => st2 _ k) ?_
  obtain ⟨cl3, Ar3, qk3, S3, M3, H3, G3⟩ := id c2_V_sb1
  refine own_go (B := T2.setTop (mkF m 24 #[rv sb1, iv 1, iv 3, iv 2, rv b2] [(.int 2), (.int 2), (.int 0), (.ref b2), (.int 1), (.ref sb1)])) (fun t k => ?_) ?_
  · show own_S p e below T2 (mkF m 12 #[rv sb1, iv 1, iv 3, iv 2, .unset] [(.ref b2)]) _
    refine XS.astore X2.here hx rfl (hb hby d27_12) rfl rfl (l' := #[rv sb1, iv 1, iv 3, iv 2, rv b2]) rfl ?_
    refine XS.aloadN X2.here hx rfl (hb hby d27_14) rfl rfl ?_
    refine XS.iloadN X2.here hx rfl (hb hby d27_15) rfl ?_
    show own_S p e below T2 (mkF m 16 #[rv sb1, iv 1, iv 3, iv 2, rv b2] [(.int 1), (.ref sb1)]) _
    refine XS.aload X2.here hx rfl (hb hby d27_16) rfl rfl ?_
    refine XS.iconst X2.here hx rfl (hb hby d27_18) ?_
    refine XS.aloadN X2.here hx rfl (hb hby d27_19) rfl rfl ?_
    show own_S p e below T2 (mkF m 20 #[rv sb1, iv 1, iv 3, iv 2, rv b2] [(.ref sb1), (.int 0), (.ref b2), (.int 1), (.ref sb1)]) _
    refine X2.arraylength hx (by rw [e2]; exact Ar3.1) (State.isArrayOf_alike hZ.alike Ar3.2.1) (g := (mkF m 20 #[rv sb1, iv 1, iv 3, iv 2, rv b2] [(.ref sb1), (.int 0), (.ref b2), (.int 1), (.ref sb1)])) rfl rfl (hb hby d27_20) _ ?_
    rw [len_of S3 M3]
    refine XS.iloadN X2.here hx rfl (hb hby d27_21) rfl ?_
    refine XS.isub X2.here hx rfl (hb hby d27_22) rfl ?_
    show own_S p e below T2 (mkF m 23 #[rv sb1, iv 1, iv 3, iv 2, rv b2] [(.int 2), (.int 0), (.ref b2), (.int 1), (.ref sb1)]) _
    refine XS.iloadN X2.here hx rfl (hb hby d27_23) rfl ?_
    exact k
  obtain ⟨_, _, ⟨T4, L4, k4, n4⟩, -, X4, ⟨Lc4, hQ4, l4, y4, z4⟩, st4⟩ := Jvm.LawKit.callS X2 hx (y := own_y14) hown (mvT hZ (own_w hw 124 rfl)) (mvT hZ (own_w hw 72 rfl)) (mvT hZ (own_w hw 69 rfl)) (mvT hZ (own_w hw 73 rfl)) (by decide) (backOf (W := 4) (rm15 l Z a0 hw [] (2 : Int32) (2 : Int32) (2 : Int32) h2 n0 (Nat.le_trans Z0 E2.1) (by decide)) hZ (own_w hw 73 rfl) (own_w hw 69 rfl) (by decide) (by decide)) (g := (mkF m 24 #[rv sb1, iv 1, iv 3, iv 2, rv b2] [(.int 2), (.int 2), (.int 0), (.ref b2), (.int 1), (.ref sb1)])) rfl (by rw [hml]; rfl) (argsL := [(.int 2), (.int 2)]) (rest := [(.int 0), (.ref b2), (.int 1), (.ref sb1)]) (lenOf own_pd16 rfl) rfl (by show 2 * 0 + _ ≤ _; exact Nat.le_of_eq rfl) (hb hby d27_24) (fun _ _ => ⟨rfl, e2, (by decide : 1 + 0 ≤ _), (by decide : 2 + 0 ≤ _)⟩)
  dsimp only [Pt.U, Pt.locs, Pt.cells, Pt.slots] at X4 l4 y4 z4 st4 hQ4
  subst l4 y4 z4
  obtain ⟨rfl, N4q, eq4⟩ := hQ4
  have N4 := Fr.app N1 N4q
  refine own_go (B := T4.setTop (mkF m 27 #[rv sb1, iv 1, iv 3, iv 2, rv b2] [(.int 2), (.int 0), (.ref b2), (.int 1), (.ref sb1)])) (fun t k => st4 _ k) ?_
  obtain ⟨T5, h5, L5, X5, e5, N5, K5q, V5q, st5⟩ := cpA X4 hx hZ hown (own_w hw 125 rfl) (own_w hw 128 rfl) (own_w hw 126 rfl) (own_w hw 127 rfl) eq4 c2_V_sb1 V2 (us := [(.int x1), (.int x2)]) (Or.inl ⟨rfl, rfl⟩) (by decide) (by decide) (by decide) (by decide) (by decide) rfl (by decide) N4 g_b2 (g := (mkF m 27 #[rv sb1, iv 1, iv 3, iv 2, rv b2] [(.int 2), (.int 0), (.ref b2), (.int 1), (.ref sb1)])) rfl (by rw [hml]; rfl) (rest := []) rfl (hb hby d27_27) (by decide) (W := 0) (by show 2 * 0 + _ ≤ _; exact Nat.le_of_eq rfl) (by decide)
  have V5 : Arv Z h5 b2 k2 .byte (2 : Int32) [(.int x1), (.int x2)] (.int (0 : Int32)) := V5q
  have c5_V_sb1 := c2_V_sb1.keep K5q (fun q => ne_sb1_b2 (List.mem_singleton.mp q))
  have K5 := K2.trans K5q (allS (Or.inr sz_b2) all0)
  refine own_go (B := T5.setTop (mkF m 30 #[rv sb1, iv 1, iv 3, iv 2, rv b2] [])) (fun t k => st5 _ k) ?_
  obtain ⟨fs, hr, hrun, hended, hW, hsame⟩ := X5.leave (v := some (.ref b2)) (fun h => by rw [Bd.returns] at h; cases h)
  refine ⟨_, _, ?_, hrun, hended, _, _, rfl, ?_, ⟨_, rfl⟩, hW, hsame.mono (by decide) (by decide)⟩
  · show own_S p e below T5 (mkF m 30 #[rv sb1, iv 1, iv 3, iv 2, rv b2] []) _
    refine XS.aload X5.here hx rfl (hb hby d27_30) rfl rfl ?_
    show own_S p e below T5 (mkF m 32 #[rv sb1, iv 1, iv 3, iv 2, rv b2] [(.ref b2)]) _
    jvm_step X5.here [X5.here.top, hx, (hb hby d27_32), X5.method', Bd.returns, Value.isRef, FieldType.isReference]
    first | (intro acts; rw [hr _ acts rfl rfl rfl]) | rw [hr _ _ rfl rfl rfl]
    exact Steps.refl _
  · show Q27_3_1 Z sb1 kb x0 x1 x2 h0 n0 _ T5.heap _
    rw [e5]
    exact ⟨b2, k2, rfl, N5, K5, sz_b2, g_b2, V5⟩
def Q25_3_1 (Z : State) (sb1 : Addr) (kb : ClassId) (x0 : Int32) (x1 : Int32) (x2 : Int32) (h0 : Heap) (n0 : Nat) (v : Option Value) (h : Heap) (L : List Loc) : Prop := own_QS Z (2 : Int32) [(.int x1), (.int x2)] h0 n0 v h L
set_option maxRecDepth 65536 in
set_option maxHeartbeats 40000000 in
theorem rm25_3_1 (l : Launch) (Z : State) (a0 : Array Value) (hw : ∀ d ∈ tables_1, d.before a0 Z = true) (ws : List Jvm.Cond) (sb1 : Addr) (kb : ClassId) (x0 : Int32) (x1 : Int32) (x2 : Int32) (h0 : Heap) (n0 : Nat) (Z0 : n0 ≤ h0.size) (V_b : Arv Z h0 sb1 kb .byte (3 : Int32) [(.int x0), (.int x1), (.int x2)] (.int (0 : Int32))) :
    MetFree l own_y21 (head1 (Jvm.Cond.code own_y21 jdk_43_method_47_code 3 (some (.object "java/lang/String")) :: ws) ({ frames := 3, cells := 2, slots := 8, locals := 50 } : Room)) (fun a U => a = #[(.ref sb1), (.int 1), (.int 2)] ∧ Z.Warmed39 U.vm ∧ U.heap = h0) (fun _ _ _ _ _ => True) (fun _ U o U' => ∃ v L, o = .returned v ∧ Q25_3_1 Z sb1 kb x0 x1 x2 h0 n0 v U'.heap L ∧ FrameEnd U o U' L ({ frames := 3, cells := 2, slots := 8, locals := 50 } : Room).cells ({ frames := 3, cells := 2, slots := 8, locals := 50 } : Room).slots) := by
  refine MetFree.of_bodySF (plainFor_of_name pn_25) hisR ?_
  intro p e s m args below meth c s₁ Bd hml0 hP hK
  obtain ⟨rfl, hZ, hh⟩ := hP
  have hx := Bd.exec
  have hby := Bd.bytes
  have hml : c.maxLocals = 3 := hml0
  have hown : s.vm.findClass "java/lang/StringLatin1" = some m.cls := findClass_of_methodNamed Bd.named
  have hnm := (name_of_methodNamed Bd.named Bd.method).1
  have X0 : Stand p l e ({ frames := 3, cells := 2, slots := 8, locals := 50 } : Room) s m #[(.ref sb1), (.int 1), (.int 2)] below meth c s₁ [] 0 0 := Stand.of_body Bd
  have e0 : s₁.heap = h0 := by rw [← hh, Bd.state]; rfl
  have N0 := Fr.nil n0
  refine own_go (B := s₁.setTop (mkF m 0 #[rv sb1, iv 1, iv 2] [])) (fun t k => castTop (ef_25 m sb1 (1 : Int32) (2 : Int32)) k) ?_
  refine own_go (B := s₁.setTop (mkF m 7 #[rv sb1, iv 1, iv 2] [])) (fun t k => ?_) ?_
  · show own_S p e below s₁ (mkF m 0 #[rv sb1, iv 1, iv 2] []) _
    refine XS.iloadN X0.here hx rfl (hb hby d25_0) rfl ?_
    refine XS.ifYes X0.here hx rfl (pc0 := 1) (pc' := 7) rfl (hb hby d25_1) rfl ((if0 _ _).trans (feq (by decide)).2) (by decide) (by decide) ?_
    exact k
  obtain ⟨T1, h1, X1, e1, E1, A1, D1, -, st1⟩ := newO X0 hx hZ hown (own_w hw 113 rfl) (own_w hw 10 rfl) (own_w hw 11 rfl) e0 (g := (mkF m 7 #[rv sb1, iv 1, iv 2] [])) rfl (hb hby d25_7) (by decide) (by decide)
  obtain ⟨b1, g1⟩ : ∃ z, z = h0.size := ⟨_, rfl⟩
  rw [← g1] at A1 D1 st1
  have g_b1 : n0 ≤ b1 := Nat.le_trans Z0 (Nat.le_of_eq g1.symm)
  have sz_b1 : h0.size ≤ b1 := Nat.le_trans (Keep.refl h0 []).1 (Nat.le_of_eq g1.symm)
  have ne_sb1_b1 : sb1 ≠ b1 := Nat.ne_of_lt (Nat.lt_of_lt_of_le V_b.lt (Nat.le_of_eq g1.symm))
  have c1_V_sb1 := V_b.ext E1
  have K1 := (Keep.refl h0 []).ext E1
  have F1_value : Fld Z h1 b1 "java/lang/String" "value" "[B" .null := D1 (Or.inr (own_w hw 24 rfl)) (ty := (.array .byte)) (by decide)
  have F1_coder : Fld Z h1 b1 "java/lang/String" "coder" "B" (.int 0) := D1 (Or.inr (own_w hw 25 rfl)) (ty := .byte) (by decide)
  refine own_go (B := T1.setTop (mkF m 10 #[rv sb1, iv 1, iv 2] [(.ref b1)])) (fun t k => st1 _ k) ?_
  refine own_go (B := T1.setTop (mkF m 16 #[rv sb1, iv 1, iv 2] [(.int 3), (.int 1), (.ref sb1), (.ref b1), (.ref b1)])) (fun t k => ?_) ?_
  · show own_S p e below T1 (mkF m 10 #[rv sb1, iv 1, iv 2] [(.ref b1)]) _
    refine XS.dup X1.here hx rfl (hb hby d25_10) rfl rfl ?_
    refine XS.aloadN X1.here hx rfl (hb hby d25_11) rfl rfl ?_
    refine XS.iloadN X1.here hx rfl (hb hby d25_12) rfl ?_
    show own_S p e below T1 (mkF m 13 #[rv sb1, iv 1, iv 2] [(.int 1), (.ref sb1), (.ref b1), (.ref b1)]) _
    refine XS.iloadN X1.here hx rfl (hb hby d25_13) rfl ?_
    refine XS.iloadN X1.here hx rfl (hb hby d25_14) rfl ?_
    refine XS.iadd X1.here hx rfl (hb hby d25_15) rfl ?_
    exact k
  obtain ⟨_, _, ⟨T2, L2, k2, n2⟩, -, X2, ⟨Lc2, hQ2, l2, y2, z2⟩, st2⟩ := Jvm.LawKit.callS X1 hx (y := own_y20) hown (mvT hZ (own_w hw 114 rfl)) (mvT hZ (own_w hw 115 rfl)) (mvT hZ (own_w hw 116 rfl)) (mvT hZ (own_w hw 117 rfl)) (by decide) (backOf (W := 2) (rm26 l Z a0 hw [] sb1 (1 : Int32) (3 : Int32) (2 : Int32) [(.int x1), (.int x2)] h1 n0 (Nat.le_trans Z0 E1.1) (by decide) (rm27_3_1 l Z a0 hw [] sb1 kb x0 x1 x2 h1 n0 (Nat.le_trans Z0 E1.1) c1_V_sb1)) hZ (own_w hw 117 rfl) (own_w hw 116 rfl) (by decide) (by decide)) (g := (mkF m 16 #[rv sb1, iv 1, iv 2] [(.int 3), (.int 1), (.ref sb1), (.ref b1), (.ref b1)])) rfl (by rw [hml]; rfl) (argsL := [(.ref sb1), (.int 1), (.int 3)]) (rest := [(.ref b1), (.ref b1)]) (lenOf own_pd10 rfl) rfl (by show 2 * 0 + _ ≤ _; exact Nat.le_of_eq rfl) (hb hby d25_16) (fun _ _ => ⟨rfl, e1, (by decide : 1 + 1 ≤ _), (by decide : 4 + 4 ≤ _)⟩)
  dsimp only [Pt.U, Pt.locs, Pt.cells, Pt.slots] at X2 l2 y2 z2 st2 hQ2
  subst l2 y2 z2
  obtain ⟨bq2, kq2, rfl, N2q, K2q, q2z, q2g, V2q⟩ := hQ2
  have N2 := Fr.app N0 N2q
  have sz_bq2 : h0.size ≤ bq2 := Nat.le_trans (K1).1 q2z
  have g_bq2 : n0 ≤ bq2 := q2g
  have ne_sb1_bq2 : sb1 ≠ bq2 := Nat.ne_of_lt (Nat.lt_of_lt_of_le c1_V_sb1.lt q2z)
  have ne_b1_bq2 : b1 ≠ bq2 := Nat.ne_of_lt (Nat.lt_of_lt_of_le A1.lt q2z)
  have c2_V_sb1 := c1_V_sb1.keep K2q (List.not_mem_nil)
  have c2_E_b1 := A1.keep K2q
  have c2_F_b1_value := F1_value.keep K2q (List.not_mem_nil)
  have c2_F_b1_coder := F1_coder.keep K2q (List.not_mem_nil)
  have K2 := K1.trans K2q all0
  refine own_go (B := T2.setTop (mkF m 19 #[rv sb1, iv 1, iv 2] [(.ref bq2), (.ref b1), (.ref b1)])) (fun t k => st2 _ k) ?_
  refine own_go (B := T2.setTop (mkF m 20 #[rv sb1, iv 1, iv 2] [(.int 0), (.ref bq2), (.ref b1), (.ref b1)])) (fun t k => ?_) ?_
  · show own_S p e below T2 (mkF m 19 #[rv sb1, iv 1, iv 2] [(.ref bq2), (.ref b1), (.ref b1)]) _
    refine XS.iconst X2.here hx rfl (hb hby d25_19) ?_
    exact k
  obtain ⟨_, _, ⟨T3, L3, k3, n3⟩, -, X3, ⟨Lc3, hQ3, l3, y3, z3⟩, st3⟩ := X2.specialBack hx (y := own_y18) rfl hown (mvT hZ (own_w hw 129 rfl)) (mvT hZ (own_w hw 130 rfl)) (mvT hZ (own_w hw 131 rfl)) (by decide) (backOf (W := 1) (rm29 l Z a0 hw [] b1 bq2 T2.heap n0 (Nat.le_trans (Nat.le_trans Z0 E1.1) K2q.1) c2_E_b1 g_b1 c2_F_b1_value c2_F_b1_coder) hZ (own_w hw 131 rfl) (own_w hw 11 rfl) (by decide) (by decide)) (g := (mkF m 20 #[rv sb1, iv 1, iv 2] [(.int 0), (.ref bq2), (.ref b1), (.ref b1)])) rfl (by rw [hml]; rfl) (Steps.refl _) (a := b1) (argsL := [(.ref bq2), (.int 0)]) (rest := [(.ref b1)]) (lenOf own_pd18 rfl) rfl (by show 2 * 0 + _ ≤ _; exact Nat.le_of_eq rfl) (hb hby d25_20) (fun _ _ => ⟨rfl, rfl, (by decide : 2 + 0 ≤ _), (by decide : 8 + 0 ≤ _)⟩)
  dsimp only [Pt.U, Pt.locs, Pt.cells, Pt.slots] at X3 l3 y3 z3 st3 hQ3
  subst l3 y3 z3
  obtain ⟨rfl, N3q, K3q, E3q, F3c, F3v⟩ := hQ3
  have N3 := Fr.app N2 N3q
  have c3_V_sb1 := c2_V_sb1.keep K3q (fun q => ne_sb1_b1 (List.mem_singleton.mp q))
  have c3_V_bq2 := V2q.keep K3q (fun q => (Ne.symm ne_b1_bq2) (List.mem_singleton.mp q))
  have K3 := K2.trans K3q (allS (Or.inr sz_b1) all0)
  refine own_go (B := T3.setTop (mkF m 23 #[rv sb1, iv 1, iv 2] [(.ref b1)])) (fun t k => st3.trans k) ?_
  obtain ⟨fs, hr, hrun, hended, hW, hsame⟩ := X3.leave (v := some (.ref b1)) (fun h => by rw [Bd.returns] at h; cases h)
  refine ⟨_, _, ?_, hrun, hended, _, _, rfl, ?_, ⟨_, rfl⟩, hW, hsame.mono (by decide) (by decide)⟩
  · show own_S p e below T3 (mkF m 23 #[rv sb1, iv 1, iv 2] [(.ref b1)]) _
    jvm_step X3.here [X3.here.top, hx, (hb hby d25_23), X3.method', Bd.returns, Value.isRef, FieldType.isReference]
    first | (intro acts; rw [hr _ acts rfl rfl rfl]) | rw [hr _ _ rfl rfl rfl]
    exact Steps.refl _
  · show Q25_3_1 Z sb1 kb x0 x1 x2 h0 n0 _ T3.heap _
    exact ⟨b1, bq2, kq2, rfl, N3, K3, E3q, F3c, F3v, c3_V_bq2⟩
def Q27_3_2 (Z : State) (sb1 : Addr) (kb : ClassId) (x0 : Int32) (x1 : Int32) (x2 : Int32) (h0 : Heap) (n0 : Nat) (v : Option Value) (h : Heap) (L : List Loc) : Prop := own_QA Z (1 : Int32) [(.int x2)] h0 n0 v h L
set_option maxRecDepth 65536 in
set_option maxHeartbeats 40000000 in
theorem rm27_3_2 (l : Launch) (Z : State) (a0 : Array Value) (hw : ∀ d ∈ tables_1, d.before a0 Z = true) (ws : List Jvm.Cond) (sb1 : Addr) (kb : ClassId) (x0 : Int32) (x1 : Int32) (x2 : Int32) (h0 : Heap) (n0 : Nat) (Z0 : n0 ≤ h0.size) (V_b : Arv Z h0 sb1 kb .byte (3 : Int32) [(.int x0), (.int x1), (.int x2)] (.int (0 : Int32))) :
    MetFree l own_y19 (head1 (Jvm.Cond.code own_y19 jdk_65_method_133_code 5 (some (.array .byte)) :: ws) ({ frames := 1, cells := 1, slots := 4, locals := 18 } : Room)) (fun a U => a = #[(.ref sb1), (.int 2), (.int 3)] ∧ Z.Warmed39 U.vm ∧ U.heap = h0) (fun _ _ _ _ _ => True) (fun _ U o U' => ∃ v L, o = .returned v ∧ Q27_3_2 Z sb1 kb x0 x1 x2 h0 n0 v U'.heap L ∧ FrameEnd U o U' L ({ frames := 1, cells := 1, slots := 4, locals := 18 } : Room).cells ({ frames := 1, cells := 1, slots := 4, locals := 18 } : Room).slots) := by
  refine MetFree.of_bodySF (plainFor_of_name pn_27) hisR ?_
  intro p e s m args below meth c s₁ Bd hml0 hP hK
  obtain ⟨rfl, hZ, hh⟩ := hP
  have hx := Bd.exec
  have hby := Bd.bytes
  have hml : c.maxLocals = 5 := hml0
  have hown : s.vm.findClass "java/util/Arrays" = some m.cls := findClass_of_methodNamed Bd.named
  have hnm := (name_of_methodNamed Bd.named Bd.method).1
  have X0 : Stand p l e ({ frames := 1, cells := 1, slots := 4, locals := 18 } : Room) s m #[(.ref sb1), (.int 2), (.int 3)] below meth c s₁ [] 0 0 := Stand.of_body Bd
  have e0 : s₁.heap = h0 := by rw [← hh, Bd.state]; rfl
  have N0 := Fr.nil n0
  refine own_go (B := s₁.setTop (mkF m 0 #[rv sb1, iv 2, iv 3, .unset, .unset] [])) (fun t k => castTop (ef_27 m sb1 (2 : Int32) (3 : Int32)) k) ?_
  refine own_go (B := s₁.setTop (mkF m 2 #[rv sb1, iv 2, iv 3, .unset, .unset] [(.int 3), (.int 2)])) (fun t k => ?_) ?_
  · show own_S p e below s₁ (mkF m 0 #[rv sb1, iv 2, iv 3, .unset, .unset] []) _
    refine XS.iloadN X0.here hx rfl (hb hby d27_0) rfl ?_
    refine XS.iloadN X0.here hx rfl (hb hby d27_1) rfl ?_
    exact k
  obtain ⟨_, _, ⟨T1, L1, k1, n1⟩, -, X1, ⟨Lc1, hQ1, l1, y1, z1⟩, st1⟩ := Jvm.LawKit.callS X0 hx (y := own_y17) hown (mvT hZ (own_w hw 121 rfl)) (mvT hZ (own_w hw 122 rfl)) (mvT hZ (own_w hw 116 rfl)) (mvT hZ (own_w hw 123 rfl)) (by decide) (backOf (W := 0) (rm28 l Z a0 hw [] (2 : Int32) (3 : Int32) h0 n0 Z0 (by decide)) hZ (own_w hw 123 rfl) (own_w hw 116 rfl) (by decide) (by decide)) (g := (mkF m 2 #[rv sb1, iv 2, iv 3, .unset, .unset] [(.int 3), (.int 2)])) rfl (by rw [hml]; rfl) (argsL := [(.int 2), (.int 3)]) (rest := []) (lenOf own_pd2 rfl) rfl (by show 2 * 0 + _ ≤ _; exact Nat.le_of_eq rfl) (hb hby d27_2) (fun _ _ => ⟨rfl, e0, (by decide : 0 + 0 ≤ _), (by decide : 0 + 0 ≤ _)⟩)
  dsimp only [Pt.U, Pt.locs, Pt.cells, Pt.slots] at X1 l1 y1 z1 st1 hQ1
  subst l1 y1 z1
  obtain ⟨rfl, N1q, eq1⟩ := hQ1
  have N1 := Fr.app N0 N1q
  refine own_go (B := T1.setTop (mkF m 5 #[rv sb1, iv 2, iv 3, .unset, .unset] [])) (fun t k => st1 _ k) ?_
  refine own_go (B := T1.setTop (mkF m 10 #[rv sb1, iv 2, iv 3, iv 1, .unset] [(.int 1)])) (fun t k => ?_) ?_
  · show own_S p e below T1 (mkF m 5 #[rv sb1, iv 2, iv 3, .unset, .unset] []) _
    refine XS.iloadN X1.here hx rfl (hb hby d27_5) rfl ?_
    refine XS.iloadN X1.here hx rfl (hb hby d27_6) rfl ?_
    refine XS.isub X1.here hx rfl (hb hby d27_7) rfl ?_
    show own_S p e below T1 (mkF m 8 #[rv sb1, iv 2, iv 3, .unset, .unset] [(.int 1)]) _
    refine XS.istoreN X1.here hx rfl (hb hby d27_8) rfl (l' := #[rv sb1, iv 2, iv 3, iv 1, .unset]) rfl ?_
    refine XS.iloadN X1.here hx rfl (hb hby d27_9) rfl ?_
    exact k
  obtain ⟨T2, h2, k2, X2, e2, E2, A2, st2⟩ := newP X1 hx hZ (own_w hw 23 rfl) eq1 (g := (mkF m 10 #[rv sb1, iv 2, iv 3, iv 1, .unset] [(.int 1)])) rfl (hb hby d27_10) rfl (by decide) (cap := 1) (by decide) (by decide) (by decide) (by decide)
  obtain ⟨b2, g2⟩ : ∃ z, z = h0.size := ⟨_, rfl⟩
  rw [← g2] at A2 st2
  have g_b2 : n0 ≤ b2 := Nat.le_trans Z0 (Nat.le_of_eq g2.symm)
  have sz_b2 : h0.size ≤ b2 := Nat.le_trans (Keep.refl h0 []).1 (Nat.le_of_eq g2.symm)
  have ne_sb1_b2 : sb1 ≠ b2 := Nat.ne_of_lt (Nat.lt_of_lt_of_le V_b.lt (Nat.le_of_eq g2.symm))
  have c2_V_sb1 := V_b.ext E2
  have K2 := (Keep.refl h0 []).ext E2
  have V2 : Arv Z h2 b2 k2 .byte (1 : Int32) [(.int (0 : Int32))] (.int (0 : Int32)) := (Arv.new A2 (by decide)).pad (pad_rep [] (.int (0 : Int32)) 1)
  refine own_go (B := T2.setTop (mkF m 12 #[rv sb1, iv 2, iv 3, iv 1, .unset] [(.ref b2)])) (fun t k => st2 _ k) ?_
  obtain ⟨cl3, Ar3, qk3, S3, M3, H3, G3⟩ := id c2_V_sb1
  refine own_go (B := T2.setTop (mkF m 24 #[rv sb1, iv 2, iv 3, iv 1, rv b2] [(.int 1), (.int 1), (.int 0), (.ref b2), (.int 2), (.ref sb1)])) (fun t k => ?_) ?_
  · show own_S p e below T2 (mkF m 12 #[rv sb1, iv 2, iv 3, iv 1, .unset] [(.ref b2)]) _
    refine XS.astore X2.here hx rfl (hb hby d27_12) rfl rfl (l' := #[rv sb1, iv 2, iv 3, iv 1, rv b2]) rfl ?_
    refine XS.aloadN X2.here hx rfl (hb hby d27_14) rfl rfl ?_
    refine XS.iloadN X2.here hx rfl (hb hby d27_15) rfl ?_
    show own_S p e below T2 (mkF m 16 #[rv sb1, iv 2, iv 3, iv 1, rv b2] [(.int 2), (.ref sb1)]) _
    refine XS.aload X2.here hx rfl (hb hby d27_16) rfl rfl ?_
    refine XS.iconst X2.here hx rfl (hb hby d27_18) ?_
    refine XS.aloadN X2.here hx rfl (hb hby d27_19) rfl rfl ?_
    show own_S p e below T2 (mkF m 20 #[rv sb1, iv 2, iv 3, iv 1, rv b2] [(.ref sb1), (.int 0), (.ref b2), (.int 2), (.ref sb1)]) _
    refine X2.arraylength hx (by rw [e2]; exact Ar3.1) (State.isArrayOf_alike hZ.alike Ar3.2.1) (g := (mkF m 20 #[rv sb1, iv 2, iv 3, iv 1, rv b2] [(.ref sb1), (.int 0), (.ref b2), (.int 2), (.ref sb1)])) rfl rfl (hb hby d27_20) _ ?_
    rw [len_of S3 M3]
    refine XS.iloadN X2.here hx rfl (hb hby d27_21) rfl ?_
    refine XS.isub X2.here hx rfl (hb hby d27_22) rfl ?_
    show own_S p e below T2 (mkF m 23 #[rv sb1, iv 2, iv 3, iv 1, rv b2] [(.int 1), (.int 0), (.ref b2), (.int 2), (.ref sb1)]) _
    refine XS.iloadN X2.here hx rfl (hb hby d27_23) rfl ?_
    exact k
  obtain ⟨_, _, ⟨T4, L4, k4, n4⟩, -, X4, ⟨Lc4, hQ4, l4, y4, z4⟩, st4⟩ := Jvm.LawKit.callS X2 hx (y := own_y14) hown (mvT hZ (own_w hw 124 rfl)) (mvT hZ (own_w hw 72 rfl)) (mvT hZ (own_w hw 69 rfl)) (mvT hZ (own_w hw 73 rfl)) (by decide) (backOf (W := 4) (rm15 l Z a0 hw [] (1 : Int32) (1 : Int32) (1 : Int32) h2 n0 (Nat.le_trans Z0 E2.1) (by decide)) hZ (own_w hw 73 rfl) (own_w hw 69 rfl) (by decide) (by decide)) (g := (mkF m 24 #[rv sb1, iv 2, iv 3, iv 1, rv b2] [(.int 1), (.int 1), (.int 0), (.ref b2), (.int 2), (.ref sb1)])) rfl (by rw [hml]; rfl) (argsL := [(.int 1), (.int 1)]) (rest := [(.int 0), (.ref b2), (.int 2), (.ref sb1)]) (lenOf own_pd16 rfl) rfl (by show 2 * 0 + _ ≤ _; exact Nat.le_of_eq rfl) (hb hby d27_24) (fun _ _ => ⟨rfl, e2, (by decide : 1 + 0 ≤ _), (by decide : 1 + 0 ≤ _)⟩)
  dsimp only [Pt.U, Pt.locs, Pt.cells, Pt.slots] at X4 l4 y4 z4 st4 hQ4
  subst l4 y4 z4
  obtain ⟨rfl, N4q, eq4⟩ := hQ4
  have N4 := Fr.app N1 N4q
  refine own_go (B := T4.setTop (mkF m 27 #[rv sb1, iv 2, iv 3, iv 1, rv b2] [(.int 1), (.int 0), (.ref b2), (.int 2), (.ref sb1)])) (fun t k => st4 _ k) ?_
  obtain ⟨T5, h5, L5, X5, e5, N5, K5q, V5q, st5⟩ := cpA X4 hx hZ hown (own_w hw 125 rfl) (own_w hw 128 rfl) (own_w hw 126 rfl) (own_w hw 127 rfl) eq4 c2_V_sb1 V2 (us := [(.int x2)]) (Or.inl ⟨rfl, rfl⟩) (by decide) (by decide) (by decide) (by decide) (by decide) rfl (by decide) N4 g_b2 (g := (mkF m 27 #[rv sb1, iv 2, iv 3, iv 1, rv b2] [(.int 1), (.int 0), (.ref b2), (.int 2), (.ref sb1)])) rfl (by rw [hml]; rfl) (rest := []) rfl (hb hby d27_27) (by decide) (W := 0) (by show 2 * 0 + _ ≤ _; exact Nat.le_of_eq rfl) (by decide)
  have V5 : Arv Z h5 b2 k2 .byte (1 : Int32) [(.int x2)] (.int (0 : Int32)) := V5q
  have c5_V_sb1 := c2_V_sb1.keep K5q (fun q => ne_sb1_b2 (List.mem_singleton.mp q))
  have K5 := K2.trans K5q (allS (Or.inr sz_b2) all0)
  refine own_go (B := T5.setTop (mkF m 30 #[rv sb1, iv 2, iv 3, iv 1, rv b2] [])) (fun t k => st5 _ k) ?_
  obtain ⟨fs, hr, hrun, hended, hW, hsame⟩ := X5.leave (v := some (.ref b2)) (fun h => by rw [Bd.returns] at h; cases h)
  refine ⟨_, _, ?_, hrun, hended, _, _, rfl, ?_, ⟨_, rfl⟩, hW, hsame.mono (by decide) (by decide)⟩
  · show own_S p e below T5 (mkF m 30 #[rv sb1, iv 2, iv 3, iv 1, rv b2] []) _
    refine XS.aload X5.here hx rfl (hb hby d27_30) rfl rfl ?_
    show own_S p e below T5 (mkF m 32 #[rv sb1, iv 2, iv 3, iv 1, rv b2] [(.ref b2)]) _
    jvm_step X5.here [X5.here.top, hx, (hb hby d27_32), X5.method', Bd.returns, Value.isRef, FieldType.isReference]
    first | (intro acts; rw [hr _ acts rfl rfl rfl]) | rw [hr _ _ rfl rfl rfl]
    exact Steps.refl _
  · show Q27_3_2 Z sb1 kb x0 x1 x2 h0 n0 _ T5.heap _
    rw [e5]
    exact ⟨b2, k2, rfl, N5, K5, sz_b2, g_b2, V5⟩
def Q25_3_2 (Z : State) (sb1 : Addr) (kb : ClassId) (x0 : Int32) (x1 : Int32) (x2 : Int32) (h0 : Heap) (n0 : Nat) (v : Option Value) (h : Heap) (L : List Loc) : Prop := own_QS Z (1 : Int32) [(.int x2)] h0 n0 v h L
set_option maxRecDepth 65536 in
set_option maxHeartbeats 40000000 in
theorem rm25_3_2 (l : Launch) (Z : State) (a0 : Array Value) (hw : ∀ d ∈ tables_1, d.before a0 Z = true) (ws : List Jvm.Cond) (sb1 : Addr) (kb : ClassId) (x0 : Int32) (x1 : Int32) (x2 : Int32) (h0 : Heap) (n0 : Nat) (Z0 : n0 ≤ h0.size) (V_b : Arv Z h0 sb1 kb .byte (3 : Int32) [(.int x0), (.int x1), (.int x2)] (.int (0 : Int32))) :
    MetFree l own_y21 (head1 (Jvm.Cond.code own_y21 jdk_43_method_47_code 3 (some (.object "java/lang/String")) :: ws) ({ frames := 3, cells := 2, slots := 8, locals := 50 } : Room)) (fun a U => a = #[(.ref sb1), (.int 2), (.int 1)] ∧ Z.Warmed39 U.vm ∧ U.heap = h0) (fun _ _ _ _ _ => True) (fun _ U o U' => ∃ v L, o = .returned v ∧ Q25_3_2 Z sb1 kb x0 x1 x2 h0 n0 v U'.heap L ∧ FrameEnd U o U' L ({ frames := 3, cells := 2, slots := 8, locals := 50 } : Room).cells ({ frames := 3, cells := 2, slots := 8, locals := 50 } : Room).slots) := by
  refine MetFree.of_bodySF (plainFor_of_name pn_25) hisR ?_
  intro p e s m args below meth c s₁ Bd hml0 hP hK
  obtain ⟨rfl, hZ, hh⟩ := hP
  have hx := Bd.exec
  have hby := Bd.bytes
  have hml : c.maxLocals = 3 := hml0
  have hown : s.vm.findClass "java/lang/StringLatin1" = some m.cls := findClass_of_methodNamed Bd.named
  have hnm := (name_of_methodNamed Bd.named Bd.method).1
  have X0 : Stand p l e ({ frames := 3, cells := 2, slots := 8, locals := 50 } : Room) s m #[(.ref sb1), (.int 2), (.int 1)] below meth c s₁ [] 0 0 := Stand.of_body Bd
  have e0 : s₁.heap = h0 := by rw [← hh, Bd.state]; rfl
  have N0 := Fr.nil n0
  refine own_go (B := s₁.setTop (mkF m 0 #[rv sb1, iv 2, iv 1] [])) (fun t k => castTop (ef_25 m sb1 (2 : Int32) (1 : Int32)) k) ?_
  refine own_go (B := s₁.setTop (mkF m 7 #[rv sb1, iv 2, iv 1] [])) (fun t k => ?_) ?_
  · show own_S p e below s₁ (mkF m 0 #[rv sb1, iv 2, iv 1] []) _
    refine XS.iloadN X0.here hx rfl (hb hby d25_0) rfl ?_
    refine XS.ifYes X0.here hx rfl (pc0 := 1) (pc' := 7) rfl (hb hby d25_1) rfl ((if0 _ _).trans (feq (by decide)).2) (by decide) (by decide) ?_
    exact k
  obtain ⟨T1, h1, X1, e1, E1, A1, D1, -, st1⟩ := newO X0 hx hZ hown (own_w hw 113 rfl) (own_w hw 10 rfl) (own_w hw 11 rfl) e0 (g := (mkF m 7 #[rv sb1, iv 2, iv 1] [])) rfl (hb hby d25_7) (by decide) (by decide)
  obtain ⟨b1, g1⟩ : ∃ z, z = h0.size := ⟨_, rfl⟩
  rw [← g1] at A1 D1 st1
  have g_b1 : n0 ≤ b1 := Nat.le_trans Z0 (Nat.le_of_eq g1.symm)
  have sz_b1 : h0.size ≤ b1 := Nat.le_trans (Keep.refl h0 []).1 (Nat.le_of_eq g1.symm)
  have ne_sb1_b1 : sb1 ≠ b1 := Nat.ne_of_lt (Nat.lt_of_lt_of_le V_b.lt (Nat.le_of_eq g1.symm))
  have c1_V_sb1 := V_b.ext E1
  have K1 := (Keep.refl h0 []).ext E1
  have F1_value : Fld Z h1 b1 "java/lang/String" "value" "[B" .null := D1 (Or.inr (own_w hw 24 rfl)) (ty := (.array .byte)) (by decide)
  have F1_coder : Fld Z h1 b1 "java/lang/String" "coder" "B" (.int 0) := D1 (Or.inr (own_w hw 25 rfl)) (ty := .byte) (by decide)
  refine own_go (B := T1.setTop (mkF m 10 #[rv sb1, iv 2, iv 1] [(.ref b1)])) (fun t k => st1 _ k) ?_
  refine own_go (B := T1.setTop (mkF m 16 #[rv sb1, iv 2, iv 1] [(.int 3), (.int 2), (.ref sb1), (.ref b1), (.ref b1)])) (fun t k => ?_) ?_
  · show own_S p e below T1 (mkF m 10 #[rv sb1, iv 2, iv 1] [(.ref b1)]) _
    refine XS.dup X1.here hx rfl (hb hby d25_10) rfl rfl ?_
    refine XS.aloadN X1.here hx rfl (hb hby d25_11) rfl rfl ?_
    refine XS.iloadN X1.here hx rfl (hb hby d25_12) rfl ?_
    show own_S p e below T1 (mkF m 13 #[rv sb1, iv 2, iv 1] [(.int 2), (.ref sb1), (.ref b1), (.ref b1)]) _
    refine XS.iloadN X1.here hx rfl (hb hby d25_13) rfl ?_
    refine XS.iloadN X1.here hx rfl (hb hby d25_14) rfl ?_
    refine XS.iadd X1.here hx rfl (hb hby d25_15) rfl ?_
    exact k
  obtain ⟨_, _, ⟨T2, L2, k2, n2⟩, -, X2, ⟨Lc2, hQ2, l2, y2, z2⟩, st2⟩ := Jvm.LawKit.callS X1 hx (y := own_y20) hown (mvT hZ (own_w hw 114 rfl)) (mvT hZ (own_w hw 115 rfl)) (mvT hZ (own_w hw 116 rfl)) (mvT hZ (own_w hw 117 rfl)) (by decide) (backOf (W := 2) (rm26 l Z a0 hw [] sb1 (2 : Int32) (3 : Int32) (1 : Int32) [(.int x2)] h1 n0 (Nat.le_trans Z0 E1.1) (by decide) (rm27_3_2 l Z a0 hw [] sb1 kb x0 x1 x2 h1 n0 (Nat.le_trans Z0 E1.1) c1_V_sb1)) hZ (own_w hw 117 rfl) (own_w hw 116 rfl) (by decide) (by decide)) (g := (mkF m 16 #[rv sb1, iv 2, iv 1] [(.int 3), (.int 2), (.ref sb1), (.ref b1), (.ref b1)])) rfl (by rw [hml]; rfl) (argsL := [(.ref sb1), (.int 2), (.int 3)]) (rest := [(.ref b1), (.ref b1)]) (lenOf own_pd10 rfl) rfl (by show 2 * 0 + _ ≤ _; exact Nat.le_of_eq rfl) (hb hby d25_16) (fun _ _ => ⟨rfl, e1, (by decide : 1 + 1 ≤ _), (by decide : 4 + 4 ≤ _)⟩)
  dsimp only [Pt.U, Pt.locs, Pt.cells, Pt.slots] at X2 l2 y2 z2 st2 hQ2
  subst l2 y2 z2
  obtain ⟨bq2, kq2, rfl, N2q, K2q, q2z, q2g, V2q⟩ := hQ2
  have N2 := Fr.app N0 N2q
  have sz_bq2 : h0.size ≤ bq2 := Nat.le_trans (K1).1 q2z
  have g_bq2 : n0 ≤ bq2 := q2g
  have ne_sb1_bq2 : sb1 ≠ bq2 := Nat.ne_of_lt (Nat.lt_of_lt_of_le c1_V_sb1.lt q2z)
  have ne_b1_bq2 : b1 ≠ bq2 := Nat.ne_of_lt (Nat.lt_of_lt_of_le A1.lt q2z)
  have c2_V_sb1 := c1_V_sb1.keep K2q (List.not_mem_nil)
  have c2_E_b1 := A1.keep K2q
  have c2_F_b1_value := F1_value.keep K2q (List.not_mem_nil)
  have c2_F_b1_coder := F1_coder.keep K2q (List.not_mem_nil)
  have K2 := K1.trans K2q all0
  refine own_go (B := T2.setTop (mkF m 19 #[rv sb1, iv 2, iv 1] [(.ref bq2), (.ref b1), (.ref b1)])) (fun t k => st2 _ k) ?_
  refine own_go (B := T2.setTop (mkF m 20 #[rv sb1, iv 2, iv 1] [(.int 0), (.ref bq2), (.ref b1), (.ref b1)])) (fun t k => ?_) ?_
  · show own_S p e below T2 (mkF m 19 #[rv sb1, iv 2, iv 1] [(.ref bq2), (.ref b1), (.ref b1)]) _
    refine XS.iconst X2.here hx rfl (hb hby d25_19) ?_
    exact k
  obtain ⟨_, _, ⟨T3, L3, k3, n3⟩, -, X3, ⟨Lc3, hQ3, l3, y3, z3⟩, st3⟩ := X2.specialBack hx (y := own_y18) rfl hown (mvT hZ (own_w hw 129 rfl)) (mvT hZ (own_w hw 130 rfl)) (mvT hZ (own_w hw 131 rfl)) (by decide) (backOf (W := 1) (rm29 l Z a0 hw [] b1 bq2 T2.heap n0 (Nat.le_trans (Nat.le_trans Z0 E1.1) K2q.1) c2_E_b1 g_b1 c2_F_b1_value c2_F_b1_coder) hZ (own_w hw 131 rfl) (own_w hw 11 rfl) (by decide) (by decide)) (g := (mkF m 20 #[rv sb1, iv 2, iv 1] [(.int 0), (.ref bq2), (.ref b1), (.ref b1)])) rfl (by rw [hml]; rfl) (Steps.refl _) (a := b1) (argsL := [(.ref bq2), (.int 0)]) (rest := [(.ref b1)]) (lenOf own_pd18 rfl) rfl (by show 2 * 0 + _ ≤ _; exact Nat.le_of_eq rfl) (hb hby d25_20) (fun _ _ => ⟨rfl, rfl, (by decide : 2 + 0 ≤ _), (by decide : 8 + 0 ≤ _)⟩)
  dsimp only [Pt.U, Pt.locs, Pt.cells, Pt.slots] at X3 l3 y3 z3 st3 hQ3
  subst l3 y3 z3
  obtain ⟨rfl, N3q, K3q, E3q, F3c, F3v⟩ := hQ3
  have N3 := Fr.app N2 N3q
  have c3_V_sb1 := c2_V_sb1.keep K3q (fun q => ne_sb1_b1 (List.mem_singleton.mp q))
  have c3_V_bq2 := V2q.keep K3q (fun q => (Ne.symm ne_b1_bq2) (List.mem_singleton.mp q))
  have K3 := K2.trans K3q (allS (Or.inr sz_b1) all0)
  refine own_go (B := T3.setTop (mkF m 23 #[rv sb1, iv 2, iv 1] [(.ref b1)])) (fun t k => st3.trans k) ?_
  obtain ⟨fs, hr, hrun, hended, hW, hsame⟩ := X3.leave (v := some (.ref b1)) (fun h => by rw [Bd.returns] at h; cases h)
  refine ⟨_, _, ?_, hrun, hended, _, _, rfl, ?_, ⟨_, rfl⟩, hW, hsame.mono (by decide) (by decide)⟩
  · show own_S p e below T3 (mkF m 23 #[rv sb1, iv 2, iv 1] [(.ref b1)]) _
    jvm_step X3.here [X3.here.top, hx, (hb hby d25_23), X3.method', Bd.returns, Value.isRef, FieldType.isReference]
    first | (intro acts; rw [hr _ acts rfl rfl rfl]) | rw [hr _ _ rfl rfl rfl]
    exact Steps.refl _
  · show Q25_3_2 Z sb1 kb x0 x1 x2 h0 n0 _ T3.heap _
    exact ⟨b1, bq2, kq2, rfl, N3, K3, E3q, F3c, F3v, c3_V_bq2⟩
def Q25_3_3 (Z : State) (sb1 : Addr) (kb : ClassId) (x0 : Int32) (x1 : Int32) (x2 : Int32) (h0 : Heap) (n0 : Nat) (v : Option Value) (h : Heap) (L : List Loc) : Prop := own_QS Z (0 : Int32) [] h0 n0 v h L
set_option maxRecDepth 65536 in
set_option maxHeartbeats 40000000 in
theorem rm25_3_3 (l : Launch) (Z : State) (a0 : Array Value) (hw : ∀ d ∈ tables_1, d.before a0 Z = true) (ws : List Jvm.Cond) (sb1 : Addr) (kb : ClassId) (x0 : Int32) (x1 : Int32) (x2 : Int32) (h0 : Heap) (n0 : Nat) (Z0 : n0 ≤ h0.size) (V_b : Arv Z h0 sb1 kb .byte (3 : Int32) [(.int x0), (.int x1), (.int x2)] (.int (0 : Int32))) :
    MetFree l own_y21 (head1 (Jvm.Cond.code own_y21 jdk_43_method_47_code 3 (some (.object "java/lang/String")) :: ws) ({ frames := 0, cells := 2, slots := 4, locals := 0 } : Room)) (fun a U => a = #[(.ref sb1), (.int 3), (.int 0)] ∧ Z.Warmed39 U.vm ∧ U.heap = h0 ∧ CHv Z consts_1 U.vm h0) (fun _ _ _ _ _ => True) (fun _ U o U' => ∃ v L, o = .returned v ∧ Q25_3_3 Z sb1 kb x0 x1 x2 h0 n0 v U'.heap L ∧ CHr Z consts_1 U.vm U.heap U'.vm U'.heap ∧ ReturnedEndW U o U' L ({ frames := 0, cells := 2, slots := 4, locals := 0 } : Room).cells ({ frames := 0, cells := 2, slots := 4, locals := 0 } : Room).slots) := by
  refine MetFree.of_bodySF (plainFor_of_name pn_25) hisR ?_
  intro p e s m args below meth c s₁ Bd hml0 hP hK
  obtain ⟨rfl, hZ, hh, hCH⟩ := hP
  have hx := Bd.exec
  have hby := Bd.bytes
  have hml : c.maxLocals = 3 := hml0
  have hown : s.vm.findClass "java/lang/StringLatin1" = some m.cls := findClass_of_methodNamed Bd.named
  have hnm := (name_of_methodNamed Bd.named Bd.method).1
  have X0 : Stand p l e ({ frames := 0, cells := 2, slots := 4, locals := 0 } : Room) s m #[(.ref sb1), (.int 3), (.int 0)] below meth c s₁ [] 0 0 := Stand.of_body Bd
  have e0 : s₁.heap = h0 := by rw [← hh, Bd.state]; rfl
  have N0 := Fr.nil n0
  have X0 : Stand p l e ({ frames := 0, cells := 2, slots := 4, locals := 0 } : Room) (s.setVm s.vm) m #[(.ref sb1), (.int 3), (.int 0)] below meth c s₁ [] 0 0 := X0
  have hZ : Z.Warmed39 (s.setVm s.vm).vm := hZ
  have hown : (s.setVm s.vm).vm.findClass "java/lang/StringLatin1" = some m.cls := hown
  have hS : s.Since s.vm 0 := (State.WarmedH.refl s).since 0
  refine own_go (B := s₁.setTop (mkF m 0 #[rv sb1, iv 3, iv 0] [])) (fun t k => castTop (ef_25 m sb1 (3 : Int32) (0 : Int32)) k) ?_
  refine own_go (B := s₁.setTop (mkF m 4 #[rv sb1, iv 3, iv 0] [])) (fun t k => ?_) ?_
  · show own_S p e below s₁ (mkF m 0 #[rv sb1, iv 3, iv 0] []) _
    refine XS.iloadN X0.here hx rfl (hb hby d25_0) rfl ?_
    refine XS.ifNo X0.here hx rfl (hb hby d25_1) rfl ((if0 _ _).trans (teq (by decide)).2) ?_
    exact k
  obtain ⟨as1, T1, h1, kk1, bs1, ks1, X1, e1, E1, hS, hk1, hZ, hown, LE1, LC1, LV1, LA1, la1, lb1, hC1, hL1, hSf1, st1⟩ := ldcCH (EL := consts_1) X0 hx hZ hown (own_w hw 146 rfl) (own_wS hw) e0 hS (Nat.zero_le _) (own_hEL hw) (by decide) (CHr.refl hCH).1 (z := (0 : Int32)) own_ht0 (by decide) rfl (g := (mkF m 4 #[rv sb1, iv 3, iv 0] [])) rfl (hb hby d25_4) (n := 0) (by decide) (by decide) (by decide) (by decide)
  have Ch1 := (CHr.refl hCH).trans hC1
  have c1_V_sb1 := V_b.ext E1
  have K1 := (Keep.refl h0 []).ext E1
  refine own_go (B := T1.setTop (mkF m 6 #[rv sb1, iv 3, iv 0] [(.ref as1)])) (fun t k => st1 _ k) ?_
  obtain ⟨fs, hr, hrun, hended, hRW⟩ := X1.leaveW hS (by rw [e1]; exact hk1) (v := some (.ref as1)) (fun h => by rw [Bd.returns] at h; cases h)
  refine ⟨_, _, ?_, hrun, hended, _, _, rfl, ?_, (by have q := (Ch1).trans (CHv.at X1 hZ (own_hEL hw) (Ch1).1); rw [← hh, ← e1] at q; exact q), hRW.1, hRW.2.1, hRW.2.2.1, hRW.2.2.2.mono (by decide) (by decide)⟩
  · show own_S p e below T1 (mkF m 6 #[rv sb1, iv 3, iv 0] [(.ref as1)]) _
    jvm_step X1.here [X1.here.top, hx, (hb hby d25_6), X1.method', Bd.returns, Value.isRef, FieldType.isReference]
    first | (intro acts; rw [hr _ acts rfl rfl rfl]) | rw [hr _ _ rfl rfl rfl]
    exact Steps.refl _
  · show Q25_3_3 Z sb1 kb x0 x1 x2 h0 n0 _ T1.heap _
    rw [e1]
    exact ⟨as1, bs1, ks1, rfl, N0, K1, LE1, LC1, LV1, LA1⟩
def Q27_4_1 (Z : State) (sb1 : Addr) (kb : ClassId) (x0 : Int32) (x1 : Int32) (x2 : Int32) (x3 : Int32) (h0 : Heap) (n0 : Nat) (v : Option Value) (h : Heap) (L : List Loc) : Prop := own_QA Z (3 : Int32) [(.int x1), (.int x2), (.int x3)] h0 n0 v h L
set_option maxRecDepth 65536 in
set_option maxHeartbeats 40000000 in
theorem rm27_4_1 (l : Launch) (Z : State) (a0 : Array Value) (hw : ∀ d ∈ tables_1, d.before a0 Z = true) (ws : List Jvm.Cond) (sb1 : Addr) (kb : ClassId) (x0 : Int32) (x1 : Int32) (x2 : Int32) (x3 : Int32) (h0 : Heap) (n0 : Nat) (Z0 : n0 ≤ h0.size) (V_b : Arv Z h0 sb1 kb .byte (4 : Int32) [(.int x0), (.int x1), (.int x2), (.int x3)] (.int (0 : Int32))) :
    MetFree l own_y19 (head1 (Jvm.Cond.code own_y19 jdk_65_method_133_code 5 (some (.array .byte)) :: ws) ({ frames := 1, cells := 1, slots := 4, locals := 18 } : Room)) (fun a U => a = #[(.ref sb1), (.int 1), (.int 4)] ∧ Z.Warmed39 U.vm ∧ U.heap = h0) (fun _ _ _ _ _ => True) (fun _ U o U' => ∃ v L, o = .returned v ∧ Q27_4_1 Z sb1 kb x0 x1 x2 x3 h0 n0 v U'.heap L ∧ FrameEnd U o U' L ({ frames := 1, cells := 1, slots := 4, locals := 18 } : Room).cells ({ frames := 1, cells := 1, slots := 4, locals := 18 } : Room).slots) := by
  refine MetFree.of_bodySF (plainFor_of_name pn_27) hisR ?_
  intro p e s m args below meth c s₁ Bd hml0 hP hK
  obtain ⟨rfl, hZ, hh⟩ := hP
  have hx := Bd.exec
  have hby := Bd.bytes
  have hml : c.maxLocals = 5 := hml0
  have hown : s.vm.findClass "java/util/Arrays" = some m.cls := findClass_of_methodNamed Bd.named
  have hnm := (name_of_methodNamed Bd.named Bd.method).1
  have X0 : Stand p l e ({ frames := 1, cells := 1, slots := 4, locals := 18 } : Room) s m #[(.ref sb1), (.int 1), (.int 4)] below meth c s₁ [] 0 0 := Stand.of_body Bd
  have e0 : s₁.heap = h0 := by rw [← hh, Bd.state]; rfl
  have N0 := Fr.nil n0
  refine own_go (B := s₁.setTop (mkF m 0 #[rv sb1, iv 1, iv 4, .unset, .unset] [])) (fun t k => castTop (ef_27 m sb1 (1 : Int32) (4 : Int32)) k) ?_
  refine own_go (B := s₁.setTop (mkF m 2 #[rv sb1, iv 1, iv 4, .unset, .unset] [(.int 4), (.int 1)])) (fun t k => ?_) ?_
  · show own_S p e below s₁ (mkF m 0 #[rv sb1, iv 1, iv 4, .unset, .unset] []) _
    refine XS.iloadN X0.here hx rfl (hb hby d27_0) rfl ?_
    refine XS.iloadN X0.here hx rfl (hb hby d27_1) rfl ?_
    exact k
  obtain ⟨_, _, ⟨T1, L1, k1, n1⟩, -, X1, ⟨Lc1, hQ1, l1, y1, z1⟩, st1⟩ := Jvm.LawKit.callS X0 hx (y := own_y17) hown (mvT hZ (own_w hw 121 rfl)) (mvT hZ (own_w hw 122 rfl)) (mvT hZ (own_w hw 116 rfl)) (mvT hZ (own_w hw 123 rfl)) (by decide) (backOf (W := 0) (rm28 l Z a0 hw [] (1 : Int32) (4 : Int32) h0 n0 Z0 (by decide)) hZ (own_w hw 123 rfl) (own_w hw 116 rfl) (by decide) (by decide)) (g := (mkF m 2 #[rv sb1, iv 1, iv 4, .unset, .unset] [(.int 4), (.int 1)])) rfl (by rw [hml]; rfl) (argsL := [(.int 1), (.int 4)]) (rest := []) (lenOf own_pd2 rfl) rfl (by show 2 * 0 + _ ≤ _; exact Nat.le_of_eq rfl) (hb hby d27_2) (fun _ _ => ⟨rfl, e0, (by decide : 0 + 0 ≤ _), (by decide : 0 + 0 ≤ _)⟩)
  dsimp only [Pt.U, Pt.locs, Pt.cells, Pt.slots] at X1 l1 y1 z1 st1 hQ1
  subst l1 y1 z1
  obtain ⟨rfl, N1q, eq1⟩ := hQ1
  have N1 := Fr.app N0 N1q
  refine own_go (B := T1.setTop (mkF m 5 #[rv sb1, iv 1, iv 4, .unset, .unset] [])) (fun t k => st1 _ k) ?_
  refine own_go (B := T1.setTop (mkF m 10 #[rv sb1, iv 1, iv 4, iv 3, .unset] [(.int 3)])) (fun t k => ?_) ?_
  · show own_S p e below T1 (mkF m 5 #[rv sb1, iv 1, iv 4, .unset, .unset] []) _
    refine XS.iloadN X1.here hx rfl (hb hby d27_5) rfl ?_
    refine XS.iloadN X1.here hx rfl (hb hby d27_6) rfl ?_
    refine XS.isub X1.here hx rfl (hb hby d27_7) rfl ?_
    show own_S p e below T1 (mkF m 8 #[rv sb1, iv 1, iv 4, .unset, .unset] [(.int 3)]) _
    refine XS.istoreN X1.here hx rfl (hb hby d27_8) rfl (l' := #[rv sb1, iv 1, iv 4, iv 3, .unset]) rfl ?_
    refine XS.iloadN X1.here hx rfl (hb hby d27_9) rfl ?_
    exact k
  obtain ⟨T2, h2, k2, X2, e2, E2, A2, st2⟩ := newP X1 hx hZ (own_w hw 23 rfl) eq1 (g := (mkF m 10 #[rv sb1, iv 1, iv 4, iv 3, .unset] [(.int 3)])) rfl (hb hby d27_10) rfl (by decide) (cap := 3) (by decide) (by decide) (by decide) (by decide)
  obtain ⟨b2, g2⟩ : ∃ z, z = h0.size := ⟨_, rfl⟩
  rw [← g2] at A2 st2
  have g_b2 : n0 ≤ b2 := Nat.le_trans Z0 (Nat.le_of_eq g2.symm)
  have sz_b2 : h0.size ≤ b2 := Nat.le_trans (Keep.refl h0 []).1 (Nat.le_of_eq g2.symm)
  have ne_sb1_b2 : sb1 ≠ b2 := Nat.ne_of_lt (Nat.lt_of_lt_of_le V_b.lt (Nat.le_of_eq g2.symm))
  have c2_V_sb1 := V_b.ext E2
  have K2 := (Keep.refl h0 []).ext E2
  have V2 : Arv Z h2 b2 k2 .byte (3 : Int32) [(.int (0 : Int32)), (.int (0 : Int32)), (.int (0 : Int32))] (.int (0 : Int32)) := (Arv.new A2 (by decide)).pad (pad_rep [] (.int (0 : Int32)) 3)
  refine own_go (B := T2.setTop (mkF m 12 #[rv sb1, iv 1, iv 4, iv 3, .unset] [(.ref b2)])) (fun t k => st2 _ k) ?_
  obtain ⟨cl3, Ar3, qk3, S3, M3, H3, G3⟩ := id c2_V_sb1
  refine own_go (B := T2.setTop (mkF m 24 #[rv sb1, iv 1, iv 4, iv 3, rv b2] [(.int 3), (.int 3), (.int 0), (.ref b2), (.int 1), (.ref sb1)])) (fun t k => ?_) ?_
  · show own_S p e below T2 (mkF m 12 #[rv sb1, iv 1, iv 4, iv 3, .unset] [(.ref b2)]) _
    refine XS.astore X2.here hx rfl (hb hby d27_12) rfl rfl (l' := #[rv sb1, iv 1, iv 4, iv 3, rv b2]) rfl ?_
    refine XS.aloadN X2.here hx rfl (hb hby d27_14) rfl rfl ?_
    refine XS.iloadN X2.here hx rfl (hb hby d27_15) rfl ?_
    show own_S p e below T2 (mkF m 16 #[rv sb1, iv 1, iv 4, iv 3, rv b2] [(.int 1), (.ref sb1)]) _
    refine XS.aload X2.here hx rfl (hb hby d27_16) rfl rfl ?_
    refine XS.iconst X2.here hx rfl (hb hby d27_18) ?_
    refine XS.aloadN X2.here hx rfl (hb hby d27_19) rfl rfl ?_
    show own_S p e below T2 (mkF m 20 #[rv sb1, iv 1, iv 4, iv 3, rv b2] [(.ref sb1), (.int 0), (.ref b2), (.int 1), (.ref sb1)]) _
    refine X2.arraylength hx (by rw [e2]; exact Ar3.1) (State.isArrayOf_alike hZ.alike Ar3.2.1) (g := (mkF m 20 #[rv sb1, iv 1, iv 4, iv 3, rv b2] [(.ref sb1), (.int 0), (.ref b2), (.int 1), (.ref sb1)])) rfl rfl (hb hby d27_20) _ ?_
    rw [len_of S3 M3]
    refine XS.iloadN X2.here hx rfl (hb hby d27_21) rfl ?_
    refine XS.isub X2.here hx rfl (hb hby d27_22) rfl ?_
    show own_S p e below T2 (mkF m 23 #[rv sb1, iv 1, iv 4, iv 3, rv b2] [(.int 3), (.int 0), (.ref b2), (.int 1), (.ref sb1)]) _
    refine XS.iloadN X2.here hx rfl (hb hby d27_23) rfl ?_
    exact k
  obtain ⟨_, _, ⟨T4, L4, k4, n4⟩, -, X4, ⟨Lc4, hQ4, l4, y4, z4⟩, st4⟩ := Jvm.LawKit.callS X2 hx (y := own_y14) hown (mvT hZ (own_w hw 124 rfl)) (mvT hZ (own_w hw 72 rfl)) (mvT hZ (own_w hw 69 rfl)) (mvT hZ (own_w hw 73 rfl)) (by decide) (backOf (W := 4) (rm15 l Z a0 hw [] (3 : Int32) (3 : Int32) (3 : Int32) h2 n0 (Nat.le_trans Z0 E2.1) (by decide)) hZ (own_w hw 73 rfl) (own_w hw 69 rfl) (by decide) (by decide)) (g := (mkF m 24 #[rv sb1, iv 1, iv 4, iv 3, rv b2] [(.int 3), (.int 3), (.int 0), (.ref b2), (.int 1), (.ref sb1)])) rfl (by rw [hml]; rfl) (argsL := [(.int 3), (.int 3)]) (rest := [(.int 0), (.ref b2), (.int 1), (.ref sb1)]) (lenOf own_pd16 rfl) rfl (by show 2 * 0 + _ ≤ _; exact Nat.le_of_eq rfl) (hb hby d27_24) (fun _ _ => ⟨rfl, e2, (by decide : 1 + 0 ≤ _), (by decide : 3 + 0 ≤ _)⟩)
  dsimp only [Pt.U, Pt.locs, Pt.cells, Pt.slots] at X4 l4 y4 z4 st4 hQ4
  subst l4 y4 z4
  obtain ⟨rfl, N4q, eq4⟩ := hQ4
  have N4 := Fr.app N1 N4q
  refine own_go (B := T4.setTop (mkF m 27 #[rv sb1, iv 1, iv 4, iv 3, rv b2] [(.int 3), (.int 0), (.ref b2), (.int 1), (.ref sb1)])) (fun t k => st4 _ k) ?_
  obtain ⟨T5, h5, L5, X5, e5, N5, K5q, V5q, st5⟩ := cpA X4 hx hZ hown (own_w hw 125 rfl) (own_w hw 128 rfl) (own_w hw 126 rfl) (own_w hw 127 rfl) eq4 c2_V_sb1 V2 (us := [(.int x1), (.int x2), (.int x3)]) (Or.inl ⟨rfl, rfl⟩) (by decide) (by decide) (by decide) (by decide) (by decide) rfl (by decide) N4 g_b2 (g := (mkF m 27 #[rv sb1, iv 1, iv 4, iv 3, rv b2] [(.int 3), (.int 0), (.ref b2), (.int 1), (.ref sb1)])) rfl (by rw [hml]; rfl) (rest := []) rfl (hb hby d27_27) (by decide) (W := 0) (by show 2 * 0 + _ ≤ _; exact Nat.le_of_eq rfl) (by decide)
  have V5 : Arv Z h5 b2 k2 .byte (3 : Int32) [(.int x1), (.int x2), (.int x3)] (.int (0 : Int32)) := V5q
  have c5_V_sb1 := c2_V_sb1.keep K5q (fun q => ne_sb1_b2 (List.mem_singleton.mp q))
  have K5 := K2.trans K5q (allS (Or.inr sz_b2) all0)
  refine own_go (B := T5.setTop (mkF m 30 #[rv sb1, iv 1, iv 4, iv 3, rv b2] [])) (fun t k => st5 _ k) ?_
  obtain ⟨fs, hr, hrun, hended, hW, hsame⟩ := X5.leave (v := some (.ref b2)) (fun h => by rw [Bd.returns] at h; cases h)
  refine ⟨_, _, ?_, hrun, hended, _, _, rfl, ?_, ⟨_, rfl⟩, hW, hsame.mono (by decide) (by decide)⟩
  · show own_S p e below T5 (mkF m 30 #[rv sb1, iv 1, iv 4, iv 3, rv b2] []) _
    refine XS.aload X5.here hx rfl (hb hby d27_30) rfl rfl ?_
    show own_S p e below T5 (mkF m 32 #[rv sb1, iv 1, iv 4, iv 3, rv b2] [(.ref b2)]) _
    jvm_step X5.here [X5.here.top, hx, (hb hby d27_32), X5.method', Bd.returns, Value.isRef, FieldType.isReference]
    first | (intro acts; rw [hr _ acts rfl rfl rfl]) | rw [hr _ _ rfl rfl rfl]
    exact Steps.refl _
  · show Q27_4_1 Z sb1 kb x0 x1 x2 x3 h0 n0 _ T5.heap _
    rw [e5]
    exact ⟨b2, k2, rfl, N5, K5, sz_b2, g_b2, V5⟩
def Q25_4_1 (Z : State) (sb1 : Addr) (kb : ClassId) (x0 : Int32) (x1 : Int32) (x2 : Int32) (x3 : Int32) (h0 : Heap) (n0 : Nat) (v : Option Value) (h : Heap) (L : List Loc) : Prop := own_QS Z (3 : Int32) [(.int x1), (.int x2), (.int x3)] h0 n0 v h L
set_option maxRecDepth 65536 in
set_option maxHeartbeats 40000000 in
theorem rm25_4_1 (l : Launch) (Z : State) (a0 : Array Value) (hw : ∀ d ∈ tables_1, d.before a0 Z = true) (ws : List Jvm.Cond) (sb1 : Addr) (kb : ClassId) (x0 : Int32) (x1 : Int32) (x2 : Int32) (x3 : Int32) (h0 : Heap) (n0 : Nat) (Z0 : n0 ≤ h0.size) (V_b : Arv Z h0 sb1 kb .byte (4 : Int32) [(.int x0), (.int x1), (.int x2), (.int x3)] (.int (0 : Int32))) :
    MetFree l own_y21 (head1 (Jvm.Cond.code own_y21 jdk_43_method_47_code 3 (some (.object "java/lang/String")) :: ws) ({ frames := 3, cells := 2, slots := 8, locals := 50 } : Room)) (fun a U => a = #[(.ref sb1), (.int 1), (.int 3)] ∧ Z.Warmed39 U.vm ∧ U.heap = h0) (fun _ _ _ _ _ => True) (fun _ U o U' => ∃ v L, o = .returned v ∧ Q25_4_1 Z sb1 kb x0 x1 x2 x3 h0 n0 v U'.heap L ∧ FrameEnd U o U' L ({ frames := 3, cells := 2, slots := 8, locals := 50 } : Room).cells ({ frames := 3, cells := 2, slots := 8, locals := 50 } : Room).slots) := by
  refine MetFree.of_bodySF (plainFor_of_name pn_25) hisR ?_
  intro p e s m args below meth c s₁ Bd hml0 hP hK
  obtain ⟨rfl, hZ, hh⟩ := hP
  have hx := Bd.exec
  have hby := Bd.bytes
  have hml : c.maxLocals = 3 := hml0
  have hown : s.vm.findClass "java/lang/StringLatin1" = some m.cls := findClass_of_methodNamed Bd.named
  have hnm := (name_of_methodNamed Bd.named Bd.method).1
  have X0 : Stand p l e ({ frames := 3, cells := 2, slots := 8, locals := 50 } : Room) s m #[(.ref sb1), (.int 1), (.int 3)] below meth c s₁ [] 0 0 := Stand.of_body Bd
  have e0 : s₁.heap = h0 := by rw [← hh, Bd.state]; rfl
  have N0 := Fr.nil n0
  refine own_go (B := s₁.setTop (mkF m 0 #[rv sb1, iv 1, iv 3] [])) (fun t k => castTop (ef_25 m sb1 (1 : Int32) (3 : Int32)) k) ?_
  refine own_go (B := s₁.setTop (mkF m 7 #[rv sb1, iv 1, iv 3] [])) (fun t k => ?_) ?_
  · show own_S p e below s₁ (mkF m 0 #[rv sb1, iv 1, iv 3] []) _
    refine XS.iloadN X0.here hx rfl (hb hby d25_0) rfl ?_
    refine XS.ifYes X0.here hx rfl (pc0 := 1) (pc' := 7) rfl (hb hby d25_1) rfl ((if0 _ _).trans (feq (by decide)).2) (by decide) (by decide) ?_
    exact k
  obtain ⟨T1, h1, X1, e1, E1, A1, D1, -, st1⟩ := newO X0 hx hZ hown (own_w hw 113 rfl) (own_w hw 10 rfl) (own_w hw 11 rfl) e0 (g := (mkF m 7 #[rv sb1, iv 1, iv 3] [])) rfl (hb hby d25_7) (by decide) (by decide)
  obtain ⟨b1, g1⟩ : ∃ z, z = h0.size := ⟨_, rfl⟩
  rw [← g1] at A1 D1 st1
  have g_b1 : n0 ≤ b1 := Nat.le_trans Z0 (Nat.le_of_eq g1.symm)
  have sz_b1 : h0.size ≤ b1 := Nat.le_trans (Keep.refl h0 []).1 (Nat.le_of_eq g1.symm)
  have ne_sb1_b1 : sb1 ≠ b1 := Nat.ne_of_lt (Nat.lt_of_lt_of_le V_b.lt (Nat.le_of_eq g1.symm))
  have c1_V_sb1 := V_b.ext E1
  have K1 := (Keep.refl h0 []).ext E1
  have F1_value : Fld Z h1 b1 "java/lang/String" "value" "[B" .null := D1 (Or.inr (own_w hw 24 rfl)) (ty := (.array .byte)) (by decide)
  have F1_coder : Fld Z h1 b1 "java/lang/String" "coder" "B" (.int 0) := D1 (Or.inr (own_w hw 25 rfl)) (ty := .byte) (by decide)
  refine own_go (B := T1.setTop (mkF m 10 #[rv sb1, iv 1, iv 3] [(.ref b1)])) (fun t k => st1 _ k) ?_
  refine own_go (B := T1.setTop (mkF m 16 #[rv sb1, iv 1, iv 3] [(.int 4), (.int 1), (.ref sb1), (.ref b1), (.ref b1)])) (fun t k => ?_) ?_
  · show own_S p e below T1 (mkF m 10 #[rv sb1, iv 1, iv 3] [(.ref b1)]) _
    refine XS.dup X1.here hx rfl (hb hby d25_10) rfl rfl ?_
    refine XS.aloadN X1.here hx rfl (hb hby d25_11) rfl rfl ?_
    refine XS.iloadN X1.here hx rfl (hb hby d25_12) rfl ?_
    show own_S p e below T1 (mkF m 13 #[rv sb1, iv 1, iv 3] [(.int 1), (.ref sb1), (.ref b1), (.ref b1)]) _
    refine XS.iloadN X1.here hx rfl (hb hby d25_13) rfl ?_
    refine XS.iloadN X1.here hx rfl (hb hby d25_14) rfl ?_
    refine XS.iadd X1.here hx rfl (hb hby d25_15) rfl ?_
    exact k
  obtain ⟨_, _, ⟨T2, L2, k2, n2⟩, -, X2, ⟨Lc2, hQ2, l2, y2, z2⟩, st2⟩ := Jvm.LawKit.callS X1 hx (y := own_y20) hown (mvT hZ (own_w hw 114 rfl)) (mvT hZ (own_w hw 115 rfl)) (mvT hZ (own_w hw 116 rfl)) (mvT hZ (own_w hw 117 rfl)) (by decide) (backOf (W := 2) (rm26 l Z a0 hw [] sb1 (1 : Int32) (4 : Int32) (3 : Int32) [(.int x1), (.int x2), (.int x3)] h1 n0 (Nat.le_trans Z0 E1.1) (by decide) (rm27_4_1 l Z a0 hw [] sb1 kb x0 x1 x2 x3 h1 n0 (Nat.le_trans Z0 E1.1) c1_V_sb1)) hZ (own_w hw 117 rfl) (own_w hw 116 rfl) (by decide) (by decide)) (g := (mkF m 16 #[rv sb1, iv 1, iv 3] [(.int 4), (.int 1), (.ref sb1), (.ref b1), (.ref b1)])) rfl (by rw [hml]; rfl) (argsL := [(.ref sb1), (.int 1), (.int 4)]) (rest := [(.ref b1), (.ref b1)]) (lenOf own_pd10 rfl) rfl (by show 2 * 0 + _ ≤ _; exact Nat.le_of_eq rfl) (hb hby d25_16) (fun _ _ => ⟨rfl, e1, (by decide : 1 + 1 ≤ _), (by decide : 4 + 4 ≤ _)⟩)
  dsimp only [Pt.U, Pt.locs, Pt.cells, Pt.slots] at X2 l2 y2 z2 st2 hQ2
  subst l2 y2 z2
  obtain ⟨bq2, kq2, rfl, N2q, K2q, q2z, q2g, V2q⟩ := hQ2
  have N2 := Fr.app N0 N2q
  have sz_bq2 : h0.size ≤ bq2 := Nat.le_trans (K1).1 q2z
  have g_bq2 : n0 ≤ bq2 := q2g
  have ne_sb1_bq2 : sb1 ≠ bq2 := Nat.ne_of_lt (Nat.lt_of_lt_of_le c1_V_sb1.lt q2z)
  have ne_b1_bq2 : b1 ≠ bq2 := Nat.ne_of_lt (Nat.lt_of_lt_of_le A1.lt q2z)
  have c2_V_sb1 := c1_V_sb1.keep K2q (List.not_mem_nil)
  have c2_E_b1 := A1.keep K2q
  have c2_F_b1_value := F1_value.keep K2q (List.not_mem_nil)
  have c2_F_b1_coder := F1_coder.keep K2q (List.not_mem_nil)
  have K2 := K1.trans K2q all0
  refine own_go (B := T2.setTop (mkF m 19 #[rv sb1, iv 1, iv 3] [(.ref bq2), (.ref b1), (.ref b1)])) (fun t k => st2 _ k) ?_
  refine own_go (B := T2.setTop (mkF m 20 #[rv sb1, iv 1, iv 3] [(.int 0), (.ref bq2), (.ref b1), (.ref b1)])) (fun t k => ?_) ?_
  · show own_S p e below T2 (mkF m 19 #[rv sb1, iv 1, iv 3] [(.ref bq2), (.ref b1), (.ref b1)]) _
    refine XS.iconst X2.here hx rfl (hb hby d25_19) ?_
    exact k
  obtain ⟨_, _, ⟨T3, L3, k3, n3⟩, -, X3, ⟨Lc3, hQ3, l3, y3, z3⟩, st3⟩ := X2.specialBack hx (y := own_y18) rfl hown (mvT hZ (own_w hw 129 rfl)) (mvT hZ (own_w hw 130 rfl)) (mvT hZ (own_w hw 131 rfl)) (by decide) (backOf (W := 1) (rm29 l Z a0 hw [] b1 bq2 T2.heap n0 (Nat.le_trans (Nat.le_trans Z0 E1.1) K2q.1) c2_E_b1 g_b1 c2_F_b1_value c2_F_b1_coder) hZ (own_w hw 131 rfl) (own_w hw 11 rfl) (by decide) (by decide)) (g := (mkF m 20 #[rv sb1, iv 1, iv 3] [(.int 0), (.ref bq2), (.ref b1), (.ref b1)])) rfl (by rw [hml]; rfl) (Steps.refl _) (a := b1) (argsL := [(.ref bq2), (.int 0)]) (rest := [(.ref b1)]) (lenOf own_pd18 rfl) rfl (by show 2 * 0 + _ ≤ _; exact Nat.le_of_eq rfl) (hb hby d25_20) (fun _ _ => ⟨rfl, rfl, (by decide : 2 + 0 ≤ _), (by decide : 8 + 0 ≤ _)⟩)
  dsimp only [Pt.U, Pt.locs, Pt.cells, Pt.slots] at X3 l3 y3 z3 st3 hQ3
  subst l3 y3 z3
  obtain ⟨rfl, N3q, K3q, E3q, F3c, F3v⟩ := hQ3
  have N3 := Fr.app N2 N3q
  have c3_V_sb1 := c2_V_sb1.keep K3q (fun q => ne_sb1_b1 (List.mem_singleton.mp q))
  have c3_V_bq2 := V2q.keep K3q (fun q => (Ne.symm ne_b1_bq2) (List.mem_singleton.mp q))
  have K3 := K2.trans K3q (allS (Or.inr sz_b1) all0)
  refine own_go (B := T3.setTop (mkF m 23 #[rv sb1, iv 1, iv 3] [(.ref b1)])) (fun t k => st3.trans k) ?_
  obtain ⟨fs, hr, hrun, hended, hW, hsame⟩ := X3.leave (v := some (.ref b1)) (fun h => by rw [Bd.returns] at h; cases h)
  refine ⟨_, _, ?_, hrun, hended, _, _, rfl, ?_, ⟨_, rfl⟩, hW, hsame.mono (by decide) (by decide)⟩
  · show own_S p e below T3 (mkF m 23 #[rv sb1, iv 1, iv 3] [(.ref b1)]) _
    jvm_step X3.here [X3.here.top, hx, (hb hby d25_23), X3.method', Bd.returns, Value.isRef, FieldType.isReference]
    first | (intro acts; rw [hr _ acts rfl rfl rfl]) | rw [hr _ _ rfl rfl rfl]
    exact Steps.refl _
  · show Q25_4_1 Z sb1 kb x0 x1 x2 x3 h0 n0 _ T3.heap _
    exact ⟨b1, bq2, kq2, rfl, N3, K3, E3q, F3c, F3v, c3_V_bq2⟩
def Q27_4_2 (Z : State) (sb1 : Addr) (kb : ClassId) (x0 : Int32) (x1 : Int32) (x2 : Int32) (x3 : Int32) (h0 : Heap) (n0 : Nat) (v : Option Value) (h : Heap) (L : List Loc) : Prop := own_QA Z (2 : Int32) [(.int x2), (.int x3)] h0 n0 v h L
set_option maxRecDepth 65536 in
set_option maxHeartbeats 40000000 in
theorem rm27_4_2 (l : Launch) (Z : State) (a0 : Array Value) (hw : ∀ d ∈ tables_1, d.before a0 Z = true) (ws : List Jvm.Cond) (sb1 : Addr) (kb : ClassId) (x0 : Int32) (x1 : Int32) (x2 : Int32) (x3 : Int32) (h0 : Heap) (n0 : Nat) (Z0 : n0 ≤ h0.size) (V_b : Arv Z h0 sb1 kb .byte (4 : Int32) [(.int x0), (.int x1), (.int x2), (.int x3)] (.int (0 : Int32))) :
    MetFree l own_y19 (head1 (Jvm.Cond.code own_y19 jdk_65_method_133_code 5 (some (.array .byte)) :: ws) ({ frames := 1, cells := 1, slots := 4, locals := 18 } : Room)) (fun a U => a = #[(.ref sb1), (.int 2), (.int 4)] ∧ Z.Warmed39 U.vm ∧ U.heap = h0) (fun _ _ _ _ _ => True) (fun _ U o U' => ∃ v L, o = .returned v ∧ Q27_4_2 Z sb1 kb x0 x1 x2 x3 h0 n0 v U'.heap L ∧ FrameEnd U o U' L ({ frames := 1, cells := 1, slots := 4, locals := 18 } : Room).cells ({ frames := 1, cells := 1, slots := 4, locals := 18 } : Room).slots) := by
  refine MetFree.of_bodySF (plainFor_of_name pn_27) hisR ?_
  intro p e s m args below meth c s₁ Bd hml0 hP hK
  obtain ⟨rfl, hZ, hh⟩ := hP
  have hx := Bd.exec
  have hby := Bd.bytes
  have hml : c.maxLocals = 5 := hml0
  have hown : s.vm.findClass "java/util/Arrays" = some m.cls := findClass_of_methodNamed Bd.named
  have hnm := (name_of_methodNamed Bd.named Bd.method).1
  have X0 : Stand p l e ({ frames := 1, cells := 1, slots := 4, locals := 18 } : Room) s m #[(.ref sb1), (.int 2), (.int 4)] below meth c s₁ [] 0 0 := Stand.of_body Bd
  have e0 : s₁.heap = h0 := by rw [← hh, Bd.state]; rfl
  have N0 := Fr.nil n0
  refine own_go (B := s₁.setTop (mkF m 0 #[rv sb1, iv 2, iv 4, .unset, .unset] [])) (fun t k => castTop (ef_27 m sb1 (2 : Int32) (4 : Int32)) k) ?_
  refine own_go (B := s₁.setTop (mkF m 2 #[rv sb1, iv 2, iv 4, .unset, .unset] [(.int 4), (.int 2)])) (fun t k => ?_) ?_
  · show own_S p e below s₁ (mkF m 0 #[rv sb1, iv 2, iv 4, .unset, .unset] []) _
    refine XS.iloadN X0.here hx rfl (hb hby d27_0) rfl ?_
    refine XS.iloadN X0.here hx rfl (hb hby d27_1) rfl ?_
    exact k
  obtain ⟨_, _, ⟨T1, L1, k1, n1⟩, -, X1, ⟨Lc1, hQ1, l1, y1, z1⟩, st1⟩ := Jvm.LawKit.callS X0 hx (y := own_y17) hown (mvT hZ (own_w hw 121 rfl)) (mvT hZ (own_w hw 122 rfl)) (mvT hZ (own_w hw 116 rfl)) (mvT hZ (own_w hw 123 rfl)) (by decide) (backOf (W := 0) (rm28 l Z a0 hw [] (2 : Int32) (4 : Int32) h0 n0 Z0 (by decide)) hZ (own_w hw 123 rfl) (own_w hw 116 rfl) (by decide) (by decide)) (g := (mkF m 2 #[rv sb1, iv 2, iv 4, .unset, .unset] [(.int 4), (.int 2)])) rfl (by rw [hml]; rfl) (argsL := [(.int 2), (.int 4)]) (rest := []) (lenOf own_pd2 rfl) rfl (by show 2 * 0 + _ ≤ _; exact Nat.le_of_eq rfl) (hb hby d27_2) (fun _ _ => ⟨rfl, e0, (by decide : 0 + 0 ≤ _), (by decide : 0 + 0 ≤ _)⟩)
  dsimp only [Pt.U, Pt.locs, Pt.cells, Pt.slots] at X1 l1 y1 z1 st1 hQ1
  subst l1 y1 z1
  obtain ⟨rfl, N1q, eq1⟩ := hQ1
  have N1 := Fr.app N0 N1q
  refine own_go (B := T1.setTop (mkF m 5 #[rv sb1, iv 2, iv 4, .unset, .unset] [])) (fun t k => st1 _ k) ?_
  refine own_go (B := T1.setTop (mkF m 10 #[rv sb1, iv 2, iv 4, iv 2, .unset] [(.int 2)])) (fun t k => ?_) ?_
  · show own_S p e below T1 (mkF m 5 #[rv sb1, iv 2, iv 4, .unset, .unset] []) _
    refine XS.iloadN X1.here hx rfl (hb hby d27_5) rfl ?_
    refine XS.iloadN X1.here hx rfl (hb hby d27_6) rfl ?_
    refine XS.isub X1.here hx rfl (hb hby d27_7) rfl ?_
    show own_S p e below T1 (mkF m 8 #[rv sb1, iv 2, iv 4, .unset, .unset] [(.int 2)]) _
    refine XS.istoreN X1.here hx rfl (hb hby d27_8) rfl (l' := #[rv sb1, iv 2, iv 4, iv 2, .unset]) rfl ?_
    refine XS.iloadN X1.here hx rfl (hb hby d27_9) rfl ?_
    exact k
  obtain ⟨T2, h2, k2, X2, e2, E2, A2, st2⟩ := newP X1 hx hZ (own_w hw 23 rfl) eq1 (g := (mkF m 10 #[rv sb1, iv 2, iv 4, iv 2, .unset] [(.int 2)])) rfl (hb hby d27_10) rfl (by decide) (cap := 2) (by decide) (by decide) (by decide) (by decide)
  obtain ⟨b2, g2⟩ : ∃ z, z = h0.size := ⟨_, rfl⟩
  rw [← g2] at A2 st2
  have g_b2 : n0 ≤ b2 := Nat.le_trans Z0 (Nat.le_of_eq g2.symm)
  have sz_b2 : h0.size ≤ b2 := Nat.le_trans (Keep.refl h0 []).1 (Nat.le_of_eq g2.symm)
  have ne_sb1_b2 : sb1 ≠ b2 := Nat.ne_of_lt (Nat.lt_of_lt_of_le V_b.lt (Nat.le_of_eq g2.symm))
  have c2_V_sb1 := V_b.ext E2
  have K2 := (Keep.refl h0 []).ext E2
  have V2 : Arv Z h2 b2 k2 .byte (2 : Int32) [(.int (0 : Int32)), (.int (0 : Int32))] (.int (0 : Int32)) := (Arv.new A2 (by decide)).pad (pad_rep [] (.int (0 : Int32)) 2)
  refine own_go (B := T2.setTop (mkF m 12 #[rv sb1, iv 2, iv 4, iv 2, .unset] [(.ref b2)])) (fun t k => st2 _ k) ?_
  obtain ⟨cl3, Ar3, qk3, S3, M3, H3, G3⟩ := id c2_V_sb1
  refine own_go (B := T2.setTop (mkF m 24 #[rv sb1, iv 2, iv 4, iv 2, rv b2] [(.int 2), (.int 2), (.int 0), (.ref b2), (.int 2), (.ref sb1)])) (fun t k => ?_) ?_
  · show own_S p e below T2 (mkF m 12 #[rv sb1, iv 2, iv 4, iv 2, .unset] [(.ref b2)]) _
    refine XS.astore X2.here hx rfl (hb hby d27_12) rfl rfl (l' := #[rv sb1, iv 2, iv 4, iv 2, rv b2]) rfl ?_
    refine XS.aloadN X2.here hx rfl (hb hby d27_14) rfl rfl ?_
    refine XS.iloadN X2.here hx rfl (hb hby d27_15) rfl ?_
    show own_S p e below T2 (mkF m 16 #[rv sb1, iv 2, iv 4, iv 2, rv b2] [(.int 2), (.ref sb1)]) _
    refine XS.aload X2.here hx rfl (hb hby d27_16) rfl rfl ?_
    refine XS.iconst X2.here hx rfl (hb hby d27_18) ?_
    refine XS.aloadN X2.here hx rfl (hb hby d27_19) rfl rfl ?_
    show own_S p e below T2 (mkF m 20 #[rv sb1, iv 2, iv 4, iv 2, rv b2] [(.ref sb1), (.int 0), (.ref b2), (.int 2), (.ref sb1)]) _
    refine X2.arraylength hx (by rw [e2]; exact Ar3.1) (State.isArrayOf_alike hZ.alike Ar3.2.1) (g := (mkF m 20 #[rv sb1, iv 2, iv 4, iv 2, rv b2] [(.ref sb1), (.int 0), (.ref b2), (.int 2), (.ref sb1)])) rfl rfl (hb hby d27_20) _ ?_
    rw [len_of S3 M3]
    refine XS.iloadN X2.here hx rfl (hb hby d27_21) rfl ?_
    refine XS.isub X2.here hx rfl (hb hby d27_22) rfl ?_
    show own_S p e below T2 (mkF m 23 #[rv sb1, iv 2, iv 4, iv 2, rv b2] [(.int 2), (.int 0), (.ref b2), (.int 2), (.ref sb1)]) _
    refine XS.iloadN X2.here hx rfl (hb hby d27_23) rfl ?_
    exact k
  obtain ⟨_, _, ⟨T4, L4, k4, n4⟩, -, X4, ⟨Lc4, hQ4, l4, y4, z4⟩, st4⟩ := Jvm.LawKit.callS X2 hx (y := own_y14) hown (mvT hZ (own_w hw 124 rfl)) (mvT hZ (own_w hw 72 rfl)) (mvT hZ (own_w hw 69 rfl)) (mvT hZ (own_w hw 73 rfl)) (by decide) (backOf (W := 4) (rm15 l Z a0 hw [] (2 : Int32) (2 : Int32) (2 : Int32) h2 n0 (Nat.le_trans Z0 E2.1) (by decide)) hZ (own_w hw 73 rfl) (own_w hw 69 rfl) (by decide) (by decide)) (g := (mkF m 24 #[rv sb1, iv 2, iv 4, iv 2, rv b2] [(.int 2), (.int 2), (.int 0), (.ref b2), (.int 2), (.ref sb1)])) rfl (by rw [hml]; rfl) (argsL := [(.int 2), (.int 2)]) (rest := [(.int 0), (.ref b2), (.int 2), (.ref sb1)]) (lenOf own_pd16 rfl) rfl (by show 2 * 0 + _ ≤ _; exact Nat.le_of_eq rfl) (hb hby d27_24) (fun _ _ => ⟨rfl, e2, (by decide : 1 + 0 ≤ _), (by decide : 2 + 0 ≤ _)⟩)
  dsimp only [Pt.U, Pt.locs, Pt.cells, Pt.slots] at X4 l4 y4 z4 st4 hQ4
  subst l4 y4 z4
  obtain ⟨rfl, N4q, eq4⟩ := hQ4
  have N4 := Fr.app N1 N4q
  refine own_go (B := T4.setTop (mkF m 27 #[rv sb1, iv 2, iv 4, iv 2, rv b2] [(.int 2), (.int 0), (.ref b2), (.int 2), (.ref sb1)])) (fun t k => st4 _ k) ?_
  obtain ⟨T5, h5, L5, X5, e5, N5, K5q, V5q, st5⟩ := cpA X4 hx hZ hown (own_w hw 125 rfl) (own_w hw 128 rfl) (own_w hw 126 rfl) (own_w hw 127 rfl) eq4 c2_V_sb1 V2 (us := [(.int x2), (.int x3)]) (Or.inl ⟨rfl, rfl⟩) (by decide) (by decide) (by decide) (by decide) (by decide) rfl (by decide) N4 g_b2 (g := (mkF m 27 #[rv sb1, iv 2, iv 4, iv 2, rv b2] [(.int 2), (.int 0), (.ref b2), (.int 2), (.ref sb1)])) rfl (by rw [hml]; rfl) (rest := []) rfl (hb hby d27_27) (by decide) (W := 0) (by show 2 * 0 + _ ≤ _; exact Nat.le_of_eq rfl) (by decide)
  have V5 : Arv Z h5 b2 k2 .byte (2 : Int32) [(.int x2), (.int x3)] (.int (0 : Int32)) := V5q
  have c5_V_sb1 := c2_V_sb1.keep K5q (fun q => ne_sb1_b2 (List.mem_singleton.mp q))
  have K5 := K2.trans K5q (allS (Or.inr sz_b2) all0)
  refine own_go (B := T5.setTop (mkF m 30 #[rv sb1, iv 2, iv 4, iv 2, rv b2] [])) (fun t k => st5 _ k) ?_
  obtain ⟨fs, hr, hrun, hended, hW, hsame⟩ := X5.leave (v := some (.ref b2)) (fun h => by rw [Bd.returns] at h; cases h)
  refine ⟨_, _, ?_, hrun, hended, _, _, rfl, ?_, ⟨_, rfl⟩, hW, hsame.mono (by decide) (by decide)⟩
  · show own_S p e below T5 (mkF m 30 #[rv sb1, iv 2, iv 4, iv 2, rv b2] []) _
    refine XS.aload X5.here hx rfl (hb hby d27_30) rfl rfl ?_
    show own_S p e below T5 (mkF m 32 #[rv sb1, iv 2, iv 4, iv 2, rv b2] [(.ref b2)]) _
    jvm_step X5.here [X5.here.top, hx, (hb hby d27_32), X5.method', Bd.returns, Value.isRef, FieldType.isReference]
    first | (intro acts; rw [hr _ acts rfl rfl rfl]) | rw [hr _ _ rfl rfl rfl]
    exact Steps.refl _
  · show Q27_4_2 Z sb1 kb x0 x1 x2 x3 h0 n0 _ T5.heap _
    rw [e5]
    exact ⟨b2, k2, rfl, N5, K5, sz_b2, g_b2, V5⟩
def Q25_4_2 (Z : State) (sb1 : Addr) (kb : ClassId) (x0 : Int32) (x1 : Int32) (x2 : Int32) (x3 : Int32) (h0 : Heap) (n0 : Nat) (v : Option Value) (h : Heap) (L : List Loc) : Prop := own_QS Z (2 : Int32) [(.int x2), (.int x3)] h0 n0 v h L
set_option maxRecDepth 65536 in
set_option maxHeartbeats 40000000 in
theorem rm25_4_2 (l : Launch) (Z : State) (a0 : Array Value) (hw : ∀ d ∈ tables_1, d.before a0 Z = true) (ws : List Jvm.Cond) (sb1 : Addr) (kb : ClassId) (x0 : Int32) (x1 : Int32) (x2 : Int32) (x3 : Int32) (h0 : Heap) (n0 : Nat) (Z0 : n0 ≤ h0.size) (V_b : Arv Z h0 sb1 kb .byte (4 : Int32) [(.int x0), (.int x1), (.int x2), (.int x3)] (.int (0 : Int32))) :
    MetFree l own_y21 (head1 (Jvm.Cond.code own_y21 jdk_43_method_47_code 3 (some (.object "java/lang/String")) :: ws) ({ frames := 3, cells := 2, slots := 8, locals := 50 } : Room)) (fun a U => a = #[(.ref sb1), (.int 2), (.int 2)] ∧ Z.Warmed39 U.vm ∧ U.heap = h0) (fun _ _ _ _ _ => True) (fun _ U o U' => ∃ v L, o = .returned v ∧ Q25_4_2 Z sb1 kb x0 x1 x2 x3 h0 n0 v U'.heap L ∧ FrameEnd U o U' L ({ frames := 3, cells := 2, slots := 8, locals := 50 } : Room).cells ({ frames := 3, cells := 2, slots := 8, locals := 50 } : Room).slots) := by
  refine MetFree.of_bodySF (plainFor_of_name pn_25) hisR ?_
  intro p e s m args below meth c s₁ Bd hml0 hP hK
  obtain ⟨rfl, hZ, hh⟩ := hP
  have hx := Bd.exec
  have hby := Bd.bytes
  have hml : c.maxLocals = 3 := hml0
  have hown : s.vm.findClass "java/lang/StringLatin1" = some m.cls := findClass_of_methodNamed Bd.named
  have hnm := (name_of_methodNamed Bd.named Bd.method).1
  have X0 : Stand p l e ({ frames := 3, cells := 2, slots := 8, locals := 50 } : Room) s m #[(.ref sb1), (.int 2), (.int 2)] below meth c s₁ [] 0 0 := Stand.of_body Bd
  have e0 : s₁.heap = h0 := by rw [← hh, Bd.state]; rfl
  have N0 := Fr.nil n0
  refine own_go (B := s₁.setTop (mkF m 0 #[rv sb1, iv 2, iv 2] [])) (fun t k => castTop (ef_25 m sb1 (2 : Int32) (2 : Int32)) k) ?_
  refine own_go (B := s₁.setTop (mkF m 7 #[rv sb1, iv 2, iv 2] [])) (fun t k => ?_) ?_
  · show own_S p e below s₁ (mkF m 0 #[rv sb1, iv 2, iv 2] []) _
    refine XS.iloadN X0.here hx rfl (hb hby d25_0) rfl ?_
    refine XS.ifYes X0.here hx rfl (pc0 := 1) (pc' := 7) rfl (hb hby d25_1) rfl ((if0 _ _).trans (feq (by decide)).2) (by decide) (by decide) ?_
    exact k
  obtain ⟨T1, h1, X1, e1, E1, A1, D1, -, st1⟩ := newO X0 hx hZ hown (own_w hw 113 rfl) (own_w hw 10 rfl) (own_w hw 11 rfl) e0 (g := (mkF m 7 #[rv sb1, iv 2, iv 2] [])) rfl (hb hby d25_7) (by decide) (by decide)
  obtain ⟨b1, g1⟩ : ∃ z, z = h0.size := ⟨_, rfl⟩
  rw [← g1] at A1 D1 st1
  have g_b1 : n0 ≤ b1 := Nat.le_trans Z0 (Nat.le_of_eq g1.symm)
  have sz_b1 : h0.size ≤ b1 := Nat.le_trans (Keep.refl h0 []).1 (Nat.le_of_eq g1.symm)
  have ne_sb1_b1 : sb1 ≠ b1 := Nat.ne_of_lt (Nat.lt_of_lt_of_le V_b.lt (Nat.le_of_eq g1.symm))
  have c1_V_sb1 := V_b.ext E1
  have K1 := (Keep.refl h0 []).ext E1
  have F1_value : Fld Z h1 b1 "java/lang/String" "value" "[B" .null := D1 (Or.inr (own_w hw 24 rfl)) (ty := (.array .byte)) (by decide)
  have F1_coder : Fld Z h1 b1 "java/lang/String" "coder" "B" (.int 0) := D1 (Or.inr (own_w hw 25 rfl)) (ty := .byte) (by decide)
  refine own_go (B := T1.setTop (mkF m 10 #[rv sb1, iv 2, iv 2] [(.ref b1)])) (fun t k => st1 _ k) ?_
  refine own_go (B := T1.setTop (mkF m 16 #[rv sb1, iv 2, iv 2] [(.int 4), (.int 2), (.ref sb1), (.ref b1), (.ref b1)])) (fun t k => ?_) ?_
  · show own_S p e below T1 (mkF m 10 #[rv sb1, iv 2, iv 2] [(.ref b1)]) _
    refine XS.dup X1.here hx rfl (hb hby d25_10) rfl rfl ?_
    refine XS.aloadN X1.here hx rfl (hb hby d25_11) rfl rfl ?_
    refine XS.iloadN X1.here hx rfl (hb hby d25_12) rfl ?_
    show own_S p e below T1 (mkF m 13 #[rv sb1, iv 2, iv 2] [(.int 2), (.ref sb1), (.ref b1), (.ref b1)]) _
    refine XS.iloadN X1.here hx rfl (hb hby d25_13) rfl ?_
    refine XS.iloadN X1.here hx rfl (hb hby d25_14) rfl ?_
    refine XS.iadd X1.here hx rfl (hb hby d25_15) rfl ?_
    exact k
  obtain ⟨_, _, ⟨T2, L2, k2, n2⟩, -, X2, ⟨Lc2, hQ2, l2, y2, z2⟩, st2⟩ := Jvm.LawKit.callS X1 hx (y := own_y20) hown (mvT hZ (own_w hw 114 rfl)) (mvT hZ (own_w hw 115 rfl)) (mvT hZ (own_w hw 116 rfl)) (mvT hZ (own_w hw 117 rfl)) (by decide) (backOf (W := 2) (rm26 l Z a0 hw [] sb1 (2 : Int32) (4 : Int32) (2 : Int32) [(.int x2), (.int x3)] h1 n0 (Nat.le_trans Z0 E1.1) (by decide) (rm27_4_2 l Z a0 hw [] sb1 kb x0 x1 x2 x3 h1 n0 (Nat.le_trans Z0 E1.1) c1_V_sb1)) hZ (own_w hw 117 rfl) (own_w hw 116 rfl) (by decide) (by decide)) (g := (mkF m 16 #[rv sb1, iv 2, iv 2] [(.int 4), (.int 2), (.ref sb1), (.ref b1), (.ref b1)])) rfl (by rw [hml]; rfl) (argsL := [(.ref sb1), (.int 2), (.int 4)]) (rest := [(.ref b1), (.ref b1)]) (lenOf own_pd10 rfl) rfl (by show 2 * 0 + _ ≤ _; exact Nat.le_of_eq rfl) (hb hby d25_16) (fun _ _ => ⟨rfl, e1, (by decide : 1 + 1 ≤ _), (by decide : 4 + 4 ≤ _)⟩)
  dsimp only [Pt.U, Pt.locs, Pt.cells, Pt.slots] at X2 l2 y2 z2 st2 hQ2
  subst l2 y2 z2
  obtain ⟨bq2, kq2, rfl, N2q, K2q, q2z, q2g, V2q⟩ := hQ2
  have N2 := Fr.app N0 N2q
  have sz_bq2 : h0.size ≤ bq2 := Nat.le_trans (K1).1 q2z
  have g_bq2 : n0 ≤ bq2 := q2g
  have ne_sb1_bq2 : sb1 ≠ bq2 := Nat.ne_of_lt (Nat.lt_of_lt_of_le c1_V_sb1.lt q2z)
  have ne_b1_bq2 : b1 ≠ bq2 := Nat.ne_of_lt (Nat.lt_of_lt_of_le A1.lt q2z)
  have c2_V_sb1 := c1_V_sb1.keep K2q (List.not_mem_nil)
  have c2_E_b1 := A1.keep K2q
  have c2_F_b1_value := F1_value.keep K2q (List.not_mem_nil)
  have c2_F_b1_coder := F1_coder.keep K2q (List.not_mem_nil)
  have K2 := K1.trans K2q all0
  refine own_go (B := T2.setTop (mkF m 19 #[rv sb1, iv 2, iv 2] [(.ref bq2), (.ref b1), (.ref b1)])) (fun t k => st2 _ k) ?_
  refine own_go (B := T2.setTop (mkF m 20 #[rv sb1, iv 2, iv 2] [(.int 0), (.ref bq2), (.ref b1), (.ref b1)])) (fun t k => ?_) ?_
  · show own_S p e below T2 (mkF m 19 #[rv sb1, iv 2, iv 2] [(.ref bq2), (.ref b1), (.ref b1)]) _
    refine XS.iconst X2.here hx rfl (hb hby d25_19) ?_
    exact k
  obtain ⟨_, _, ⟨T3, L3, k3, n3⟩, -, X3, ⟨Lc3, hQ3, l3, y3, z3⟩, st3⟩ := X2.specialBack hx (y := own_y18) rfl hown (mvT hZ (own_w hw 129 rfl)) (mvT hZ (own_w hw 130 rfl)) (mvT hZ (own_w hw 131 rfl)) (by decide) (backOf (W := 1) (rm29 l Z a0 hw [] b1 bq2 T2.heap n0 (Nat.le_trans (Nat.le_trans Z0 E1.1) K2q.1) c2_E_b1 g_b1 c2_F_b1_value c2_F_b1_coder) hZ (own_w hw 131 rfl) (own_w hw 11 rfl) (by decide) (by decide)) (g := (mkF m 20 #[rv sb1, iv 2, iv 2] [(.int 0), (.ref bq2), (.ref b1), (.ref b1)])) rfl (by rw [hml]; rfl) (Steps.refl _) (a := b1) (argsL := [(.ref bq2), (.int 0)]) (rest := [(.ref b1)]) (lenOf own_pd18 rfl) rfl (by show 2 * 0 + _ ≤ _; exact Nat.le_of_eq rfl) (hb hby d25_20) (fun _ _ => ⟨rfl, rfl, (by decide : 2 + 0 ≤ _), (by decide : 8 + 0 ≤ _)⟩)
  dsimp only [Pt.U, Pt.locs, Pt.cells, Pt.slots] at X3 l3 y3 z3 st3 hQ3
  subst l3 y3 z3
  obtain ⟨rfl, N3q, K3q, E3q, F3c, F3v⟩ := hQ3
  have N3 := Fr.app N2 N3q
  have c3_V_sb1 := c2_V_sb1.keep K3q (fun q => ne_sb1_b1 (List.mem_singleton.mp q))
  have c3_V_bq2 := V2q.keep K3q (fun q => (Ne.symm ne_b1_bq2) (List.mem_singleton.mp q))
  have K3 := K2.trans K3q (allS (Or.inr sz_b1) all0)
  refine own_go (B := T3.setTop (mkF m 23 #[rv sb1, iv 2, iv 2] [(.ref b1)])) (fun t k => st3.trans k) ?_
  obtain ⟨fs, hr, hrun, hended, hW, hsame⟩ := X3.leave (v := some (.ref b1)) (fun h => by rw [Bd.returns] at h; cases h)
  refine ⟨_, _, ?_, hrun, hended, _, _, rfl, ?_, ⟨_, rfl⟩, hW, hsame.mono (by decide) (by decide)⟩
  · show own_S p e below T3 (mkF m 23 #[rv sb1, iv 2, iv 2] [(.ref b1)]) _
    jvm_step X3.here [X3.here.top, hx, (hb hby d25_23), X3.method', Bd.returns, Value.isRef, FieldType.isReference]
    first | (intro acts; rw [hr _ acts rfl rfl rfl]) | rw [hr _ _ rfl rfl rfl]
    exact Steps.refl _
  · show Q25_4_2 Z sb1 kb x0 x1 x2 x3 h0 n0 _ T3.heap _
    exact ⟨b1, bq2, kq2, rfl, N3, K3, E3q, F3c, F3v, c3_V_bq2⟩
def Q27_4_3 (Z : State) (sb1 : Addr) (kb : ClassId) (x0 : Int32) (x1 : Int32) (x2 : Int32) (x3 : Int32) (h0 : Heap) (n0 : Nat) (v : Option Value) (h : Heap) (L : List Loc) : Prop := own_QA Z (1 : Int32) [(.int x3)] h0 n0 v h L
set_option maxRecDepth 65536 in
set_option maxHeartbeats 40000000 in
theorem rm27_4_3 (l : Launch) (Z : State) (a0 : Array Value) (hw : ∀ d ∈ tables_1, d.before a0 Z = true) (ws : List Jvm.Cond) (sb1 : Addr) (kb : ClassId) (x0 : Int32) (x1 : Int32) (x2 : Int32) (x3 : Int32) (h0 : Heap) (n0 : Nat) (Z0 : n0 ≤ h0.size) (V_b : Arv Z h0 sb1 kb .byte (4 : Int32) [(.int x0), (.int x1), (.int x2), (.int x3)] (.int (0 : Int32))) :
    MetFree l own_y19 (head1 (Jvm.Cond.code own_y19 jdk_65_method_133_code 5 (some (.array .byte)) :: ws) ({ frames := 1, cells := 1, slots := 4, locals := 18 } : Room)) (fun a U => a = #[(.ref sb1), (.int 3), (.int 4)] ∧ Z.Warmed39 U.vm ∧ U.heap = h0) (fun _ _ _ _ _ => True) (fun _ U o U' => ∃ v L, o = .returned v ∧ Q27_4_3 Z sb1 kb x0 x1 x2 x3 h0 n0 v U'.heap L ∧ FrameEnd U o U' L ({ frames := 1, cells := 1, slots := 4, locals := 18 } : Room).cells ({ frames := 1, cells := 1, slots := 4, locals := 18 } : Room).slots) := by
  refine MetFree.of_bodySF (plainFor_of_name pn_27) hisR ?_
  intro p e s m args below meth c s₁ Bd hml0 hP hK
  obtain ⟨rfl, hZ, hh⟩ := hP
  have hx := Bd.exec
  have hby := Bd.bytes
  have hml : c.maxLocals = 5 := hml0
  have hown : s.vm.findClass "java/util/Arrays" = some m.cls := findClass_of_methodNamed Bd.named
  have hnm := (name_of_methodNamed Bd.named Bd.method).1
  have X0 : Stand p l e ({ frames := 1, cells := 1, slots := 4, locals := 18 } : Room) s m #[(.ref sb1), (.int 3), (.int 4)] below meth c s₁ [] 0 0 := Stand.of_body Bd
  have e0 : s₁.heap = h0 := by rw [← hh, Bd.state]; rfl
  have N0 := Fr.nil n0
  refine own_go (B := s₁.setTop (mkF m 0 #[rv sb1, iv 3, iv 4, .unset, .unset] [])) (fun t k => castTop (ef_27 m sb1 (3 : Int32) (4 : Int32)) k) ?_
  refine own_go (B := s₁.setTop (mkF m 2 #[rv sb1, iv 3, iv 4, .unset, .unset] [(.int 4), (.int 3)])) (fun t k => ?_) ?_
  · show own_S p e below s₁ (mkF m 0 #[rv sb1, iv 3, iv 4, .unset, .unset] []) _
    refine XS.iloadN X0.here hx rfl (hb hby d27_0) rfl ?_
    refine XS.iloadN X0.here hx rfl (hb hby d27_1) rfl ?_
    exact k
  obtain ⟨_, _, ⟨T1, L1, k1, n1⟩, -, X1, ⟨Lc1, hQ1, l1, y1, z1⟩, st1⟩ := Jvm.LawKit.callS X0 hx (y := own_y17) hown (mvT hZ (own_w hw 121 rfl)) (mvT hZ (own_w hw 122 rfl)) (mvT hZ (own_w hw 116 rfl)) (mvT hZ (own_w hw 123 rfl)) (by decide) (backOf (W := 0) (rm28 l Z a0 hw [] (3 : Int32) (4 : Int32) h0 n0 Z0 (by decide)) hZ (own_w hw 123 rfl) (own_w hw 116 rfl) (by decide) (by decide)) (g := (mkF m 2 #[rv sb1, iv 3, iv 4, .unset, .unset] [(.int 4), (.int 3)])) rfl (by rw [hml]; rfl) (argsL := [(.int 3), (.int 4)]) (rest := []) (lenOf own_pd2 rfl) rfl (by show 2 * 0 + _ ≤ _; exact Nat.le_of_eq rfl) (hb hby d27_2) (fun _ _ => ⟨rfl, e0, (by decide : 0 + 0 ≤ _), (by decide : 0 + 0 ≤ _)⟩)
  dsimp only [Pt.U, Pt.locs, Pt.cells, Pt.slots] at X1 l1 y1 z1 st1 hQ1
  subst l1 y1 z1
  obtain ⟨rfl, N1q, eq1⟩ := hQ1
  have N1 := Fr.app N0 N1q
  refine own_go (B := T1.setTop (mkF m 5 #[rv sb1, iv 3, iv 4, .unset, .unset] [])) (fun t k => st1 _ k) ?_
  refine own_go (B := T1.setTop (mkF m 10 #[rv sb1, iv 3, iv 4, iv 1, .unset] [(.int 1)])) (fun t k => ?_) ?_
  · show own_S p e below T1 (mkF m 5 #[rv sb1, iv 3, iv 4, .unset, .unset] []) _
    refine XS.iloadN X1.here hx rfl (hb hby d27_5) rfl ?_
    refine XS.iloadN X1.here hx rfl (hb hby d27_6) rfl ?_
    refine XS.isub X1.here hx rfl (hb hby d27_7) rfl ?_
    show own_S p e below T1 (mkF m 8 #[rv sb1, iv 3, iv 4, .unset, .unset] [(.int 1)]) _
    refine XS.istoreN X1.here hx rfl (hb hby d27_8) rfl (l' := #[rv sb1, iv 3, iv 4, iv 1, .unset]) rfl ?_
    refine XS.iloadN X1.here hx rfl (hb hby d27_9) rfl ?_
    exact k
  obtain ⟨T2, h2, k2, X2, e2, E2, A2, st2⟩ := newP X1 hx hZ (own_w hw 23 rfl) eq1 (g := (mkF m 10 #[rv sb1, iv 3, iv 4, iv 1, .unset] [(.int 1)])) rfl (hb hby d27_10) rfl (by decide) (cap := 1) (by decide) (by decide) (by decide) (by decide)
  obtain ⟨b2, g2⟩ : ∃ z, z = h0.size := ⟨_, rfl⟩
  rw [← g2] at A2 st2
  have g_b2 : n0 ≤ b2 := Nat.le_trans Z0 (Nat.le_of_eq g2.symm)
  have sz_b2 : h0.size ≤ b2 := Nat.le_trans (Keep.refl h0 []).1 (Nat.le_of_eq g2.symm)
  have ne_sb1_b2 : sb1 ≠ b2 := Nat.ne_of_lt (Nat.lt_of_lt_of_le V_b.lt (Nat.le_of_eq g2.symm))
  have c2_V_sb1 := V_b.ext E2
  have K2 := (Keep.refl h0 []).ext E2
  have V2 : Arv Z h2 b2 k2 .byte (1 : Int32) [(.int (0 : Int32))] (.int (0 : Int32)) := (Arv.new A2 (by decide)).pad (pad_rep [] (.int (0 : Int32)) 1)
  refine own_go (B := T2.setTop (mkF m 12 #[rv sb1, iv 3, iv 4, iv 1, .unset] [(.ref b2)])) (fun t k => st2 _ k) ?_
  obtain ⟨cl3, Ar3, qk3, S3, M3, H3, G3⟩ := id c2_V_sb1
  refine own_go (B := T2.setTop (mkF m 24 #[rv sb1, iv 3, iv 4, iv 1, rv b2] [(.int 1), (.int 1), (.int 0), (.ref b2), (.int 3), (.ref sb1)])) (fun t k => ?_) ?_
  · show own_S p e below T2 (mkF m 12 #[rv sb1, iv 3, iv 4, iv 1, .unset] [(.ref b2)]) _
    refine XS.astore X2.here hx rfl (hb hby d27_12) rfl rfl (l' := #[rv sb1, iv 3, iv 4, iv 1, rv b2]) rfl ?_
    refine XS.aloadN X2.here hx rfl (hb hby d27_14) rfl rfl ?_
    refine XS.iloadN X2.here hx rfl (hb hby d27_15) rfl ?_
    show own_S p e below T2 (mkF m 16 #[rv sb1, iv 3, iv 4, iv 1, rv b2] [(.int 3), (.ref sb1)]) _
    refine XS.aload X2.here hx rfl (hb hby d27_16) rfl rfl ?_
    refine XS.iconst X2.here hx rfl (hb hby d27_18) ?_
    refine XS.aloadN X2.here hx rfl (hb hby d27_19) rfl rfl ?_
    show own_S p e below T2 (mkF m 20 #[rv sb1, iv 3, iv 4, iv 1, rv b2] [(.ref sb1), (.int 0), (.ref b2), (.int 3), (.ref sb1)]) _
    refine X2.arraylength hx (by rw [e2]; exact Ar3.1) (State.isArrayOf_alike hZ.alike Ar3.2.1) (g := (mkF m 20 #[rv sb1, iv 3, iv 4, iv 1, rv b2] [(.ref sb1), (.int 0), (.ref b2), (.int 3), (.ref sb1)])) rfl rfl (hb hby d27_20) _ ?_
    rw [len_of S3 M3]
    refine XS.iloadN X2.here hx rfl (hb hby d27_21) rfl ?_
    refine XS.isub X2.here hx rfl (hb hby d27_22) rfl ?_
    show own_S p e below T2 (mkF m 23 #[rv sb1, iv 3, iv 4, iv 1, rv b2] [(.int 1), (.int 0), (.ref b2), (.int 3), (.ref sb1)]) _
    refine XS.iloadN X2.here hx rfl (hb hby d27_23) rfl ?_
    exact k
  obtain ⟨_, _, ⟨T4, L4, k4, n4⟩, -, X4, ⟨Lc4, hQ4, l4, y4, z4⟩, st4⟩ := Jvm.LawKit.callS X2 hx (y := own_y14) hown (mvT hZ (own_w hw 124 rfl)) (mvT hZ (own_w hw 72 rfl)) (mvT hZ (own_w hw 69 rfl)) (mvT hZ (own_w hw 73 rfl)) (by decide) (backOf (W := 4) (rm15 l Z a0 hw [] (1 : Int32) (1 : Int32) (1 : Int32) h2 n0 (Nat.le_trans Z0 E2.1) (by decide)) hZ (own_w hw 73 rfl) (own_w hw 69 rfl) (by decide) (by decide)) (g := (mkF m 24 #[rv sb1, iv 3, iv 4, iv 1, rv b2] [(.int 1), (.int 1), (.int 0), (.ref b2), (.int 3), (.ref sb1)])) rfl (by rw [hml]; rfl) (argsL := [(.int 1), (.int 1)]) (rest := [(.int 0), (.ref b2), (.int 3), (.ref sb1)]) (lenOf own_pd16 rfl) rfl (by show 2 * 0 + _ ≤ _; exact Nat.le_of_eq rfl) (hb hby d27_24) (fun _ _ => ⟨rfl, e2, (by decide : 1 + 0 ≤ _), (by decide : 1 + 0 ≤ _)⟩)
  dsimp only [Pt.U, Pt.locs, Pt.cells, Pt.slots] at X4 l4 y4 z4 st4 hQ4
  subst l4 y4 z4
  obtain ⟨rfl, N4q, eq4⟩ := hQ4
  have N4 := Fr.app N1 N4q
  refine own_go (B := T4.setTop (mkF m 27 #[rv sb1, iv 3, iv 4, iv 1, rv b2] [(.int 1), (.int 0), (.ref b2), (.int 3), (.ref sb1)])) (fun t k => st4 _ k) ?_
  obtain ⟨T5, h5, L5, X5, e5, N5, K5q, V5q, st5⟩ := cpA X4 hx hZ hown (own_w hw 125 rfl) (own_w hw 128 rfl) (own_w hw 126 rfl) (own_w hw 127 rfl) eq4 c2_V_sb1 V2 (us := [(.int x3)]) (Or.inl ⟨rfl, rfl⟩) (by decide) (by decide) (by decide) (by decide) (by decide) rfl (by decide) N4 g_b2 (g := (mkF m 27 #[rv sb1, iv 3, iv 4, iv 1, rv b2] [(.int 1), (.int 0), (.ref b2), (.int 3), (.ref sb1)])) rfl (by rw [hml]; rfl) (rest := []) rfl (hb hby d27_27) (by decide) (W := 0) (by show 2 * 0 + _ ≤ _; exact Nat.le_of_eq rfl) (by decide)
  have V5 : Arv Z h5 b2 k2 .byte (1 : Int32) [(.int x3)] (.int (0 : Int32)) := V5q
  have c5_V_sb1 := c2_V_sb1.keep K5q (fun q => ne_sb1_b2 (List.mem_singleton.mp q))
  have K5 := K2.trans K5q (allS (Or.inr sz_b2) all0)
  refine own_go (B := T5.setTop (mkF m 30 #[rv sb1, iv 3, iv 4, iv 1, rv b2] [])) (fun t k => st5 _ k) ?_
  obtain ⟨fs, hr, hrun, hended, hW, hsame⟩ := X5.leave (v := some (.ref b2)) (fun h => by rw [Bd.returns] at h; cases h)
  refine ⟨_, _, ?_, hrun, hended, _, _, rfl, ?_, ⟨_, rfl⟩, hW, hsame.mono (by decide) (by decide)⟩
  · show own_S p e below T5 (mkF m 30 #[rv sb1, iv 3, iv 4, iv 1, rv b2] []) _
    refine XS.aload X5.here hx rfl (hb hby d27_30) rfl rfl ?_
    show own_S p e below T5 (mkF m 32 #[rv sb1, iv 3, iv 4, iv 1, rv b2] [(.ref b2)]) _
    jvm_step X5.here [X5.here.top, hx, (hb hby d27_32), X5.method', Bd.returns, Value.isRef, FieldType.isReference]
    first | (intro acts; rw [hr _ acts rfl rfl rfl]) | rw [hr _ _ rfl rfl rfl]
    exact Steps.refl _
  · show Q27_4_3 Z sb1 kb x0 x1 x2 x3 h0 n0 _ T5.heap _
    rw [e5]
    exact ⟨b2, k2, rfl, N5, K5, sz_b2, g_b2, V5⟩
def Q25_4_3 (Z : State) (sb1 : Addr) (kb : ClassId) (x0 : Int32) (x1 : Int32) (x2 : Int32) (x3 : Int32) (h0 : Heap) (n0 : Nat) (v : Option Value) (h : Heap) (L : List Loc) : Prop := own_QS Z (1 : Int32) [(.int x3)] h0 n0 v h L
set_option maxRecDepth 65536 in
set_option maxHeartbeats 40000000 in
theorem rm25_4_3 (l : Launch) (Z : State) (a0 : Array Value) (hw : ∀ d ∈ tables_1, d.before a0 Z = true) (ws : List Jvm.Cond) (sb1 : Addr) (kb : ClassId) (x0 : Int32) (x1 : Int32) (x2 : Int32) (x3 : Int32) (h0 : Heap) (n0 : Nat) (Z0 : n0 ≤ h0.size) (V_b : Arv Z h0 sb1 kb .byte (4 : Int32) [(.int x0), (.int x1), (.int x2), (.int x3)] (.int (0 : Int32))) :
    MetFree l own_y21 (head1 (Jvm.Cond.code own_y21 jdk_43_method_47_code 3 (some (.object "java/lang/String")) :: ws) ({ frames := 3, cells := 2, slots := 8, locals := 50 } : Room)) (fun a U => a = #[(.ref sb1), (.int 3), (.int 1)] ∧ Z.Warmed39 U.vm ∧ U.heap = h0) (fun _ _ _ _ _ => True) (fun _ U o U' => ∃ v L, o = .returned v ∧ Q25_4_3 Z sb1 kb x0 x1 x2 x3 h0 n0 v U'.heap L ∧ FrameEnd U o U' L ({ frames := 3, cells := 2, slots := 8, locals := 50 } : Room).cells ({ frames := 3, cells := 2, slots := 8, locals := 50 } : Room).slots) := by
  refine MetFree.of_bodySF (plainFor_of_name pn_25) hisR ?_
  intro p e s m args below meth c s₁ Bd hml0 hP hK
  obtain ⟨rfl, hZ, hh⟩ := hP
  have hx := Bd.exec
  have hby := Bd.bytes
  have hml : c.maxLocals = 3 := hml0
  have hown : s.vm.findClass "java/lang/StringLatin1" = some m.cls := findClass_of_methodNamed Bd.named
  have hnm := (name_of_methodNamed Bd.named Bd.method).1
  have X0 : Stand p l e ({ frames := 3, cells := 2, slots := 8, locals := 50 } : Room) s m #[(.ref sb1), (.int 3), (.int 1)] below meth c s₁ [] 0 0 := Stand.of_body Bd
  have e0 : s₁.heap = h0 := by rw [← hh, Bd.state]; rfl
  have N0 := Fr.nil n0
  refine own_go (B := s₁.setTop (mkF m 0 #[rv sb1, iv 3, iv 1] [])) (fun t k => castTop (ef_25 m sb1 (3 : Int32) (1 : Int32)) k) ?_
  refine own_go (B := s₁.setTop (mkF m 7 #[rv sb1, iv 3, iv 1] [])) (fun t k => ?_) ?_
  · show own_S p e below s₁ (mkF m 0 #[rv sb1, iv 3, iv 1] []) _
    refine XS.iloadN X0.here hx rfl (hb hby d25_0) rfl ?_
    refine XS.ifYes X0.here hx rfl (pc0 := 1) (pc' := 7) rfl (hb hby d25_1) rfl ((if0 _ _).trans (feq (by decide)).2) (by decide) (by decide) ?_
    exact k
  obtain ⟨T1, h1, X1, e1, E1, A1, D1, -, st1⟩ := newO X0 hx hZ hown (own_w hw 113 rfl) (own_w hw 10 rfl) (own_w hw 11 rfl) e0 (g := (mkF m 7 #[rv sb1, iv 3, iv 1] [])) rfl (hb hby d25_7) (by decide) (by decide)
  obtain ⟨b1, g1⟩ : ∃ z, z = h0.size := ⟨_, rfl⟩
  rw [← g1] at A1 D1 st1
  have g_b1 : n0 ≤ b1 := Nat.le_trans Z0 (Nat.le_of_eq g1.symm)
  have sz_b1 : h0.size ≤ b1 := Nat.le_trans (Keep.refl h0 []).1 (Nat.le_of_eq g1.symm)
  have ne_sb1_b1 : sb1 ≠ b1 := Nat.ne_of_lt (Nat.lt_of_lt_of_le V_b.lt (Nat.le_of_eq g1.symm))
  have c1_V_sb1 := V_b.ext E1
  have K1 := (Keep.refl h0 []).ext E1
  have F1_value : Fld Z h1 b1 "java/lang/String" "value" "[B" .null := D1 (Or.inr (own_w hw 24 rfl)) (ty := (.array .byte)) (by decide)
  have F1_coder : Fld Z h1 b1 "java/lang/String" "coder" "B" (.int 0) := D1 (Or.inr (own_w hw 25 rfl)) (ty := .byte) (by decide)
  refine own_go (B := T1.setTop (mkF m 10 #[rv sb1, iv 3, iv 1] [(.ref b1)])) (fun t k => st1 _ k) ?_
  refine own_go (B := T1.setTop (mkF m 16 #[rv sb1, iv 3, iv 1] [(.int 4), (.int 3), (.ref sb1), (.ref b1), (.ref b1)])) (fun t k => ?_) ?_
  · show own_S p e below T1 (mkF m 10 #[rv sb1, iv 3, iv 1] [(.ref b1)]) _
    refine XS.dup X1.here hx rfl (hb hby d25_10) rfl rfl ?_
    refine XS.aloadN X1.here hx rfl (hb hby d25_11) rfl rfl ?_
    refine XS.iloadN X1.here hx rfl (hb hby d25_12) rfl ?_
    show own_S p e below T1 (mkF m 13 #[rv sb1, iv 3, iv 1] [(.int 3), (.ref sb1), (.ref b1), (.ref b1)]) _
    refine XS.iloadN X1.here hx rfl (hb hby d25_13) rfl ?_
    refine XS.iloadN X1.here hx rfl (hb hby d25_14) rfl ?_
    refine XS.iadd X1.here hx rfl (hb hby d25_15) rfl ?_
    exact k
  obtain ⟨_, _, ⟨T2, L2, k2, n2⟩, -, X2, ⟨Lc2, hQ2, l2, y2, z2⟩, st2⟩ := Jvm.LawKit.callS X1 hx (y := own_y20) hown (mvT hZ (own_w hw 114 rfl)) (mvT hZ (own_w hw 115 rfl)) (mvT hZ (own_w hw 116 rfl)) (mvT hZ (own_w hw 117 rfl)) (by decide) (backOf (W := 2) (rm26 l Z a0 hw [] sb1 (3 : Int32) (4 : Int32) (1 : Int32) [(.int x3)] h1 n0 (Nat.le_trans Z0 E1.1) (by decide) (rm27_4_3 l Z a0 hw [] sb1 kb x0 x1 x2 x3 h1 n0 (Nat.le_trans Z0 E1.1) c1_V_sb1)) hZ (own_w hw 117 rfl) (own_w hw 116 rfl) (by decide) (by decide)) (g := (mkF m 16 #[rv sb1, iv 3, iv 1] [(.int 4), (.int 3), (.ref sb1), (.ref b1), (.ref b1)])) rfl (by rw [hml]; rfl) (argsL := [(.ref sb1), (.int 3), (.int 4)]) (rest := [(.ref b1), (.ref b1)]) (lenOf own_pd10 rfl) rfl (by show 2 * 0 + _ ≤ _; exact Nat.le_of_eq rfl) (hb hby d25_16) (fun _ _ => ⟨rfl, e1, (by decide : 1 + 1 ≤ _), (by decide : 4 + 4 ≤ _)⟩)
  dsimp only [Pt.U, Pt.locs, Pt.cells, Pt.slots] at X2 l2 y2 z2 st2 hQ2
  subst l2 y2 z2
  obtain ⟨bq2, kq2, rfl, N2q, K2q, q2z, q2g, V2q⟩ := hQ2
  have N2 := Fr.app N0 N2q
  have sz_bq2 : h0.size ≤ bq2 := Nat.le_trans (K1).1 q2z
  have g_bq2 : n0 ≤ bq2 := q2g
  have ne_sb1_bq2 : sb1 ≠ bq2 := Nat.ne_of_lt (Nat.lt_of_lt_of_le c1_V_sb1.lt q2z)
  have ne_b1_bq2 : b1 ≠ bq2 := Nat.ne_of_lt (Nat.lt_of_lt_of_le A1.lt q2z)
  have c2_V_sb1 := c1_V_sb1.keep K2q (List.not_mem_nil)
  have c2_E_b1 := A1.keep K2q
  have c2_F_b1_value := F1_value.keep K2q (List.not_mem_nil)
  have c2_F_b1_coder := F1_coder.keep K2q (List.not_mem_nil)
  have K2 := K1.trans K2q all0
  refine own_go (B := T2.setTop (mkF m 19 #[rv sb1, iv 3, iv 1] [(.ref bq2), (.ref b1), (.ref b1)])) (fun t k => st2 _ k) ?_
  refine own_go (B := T2.setTop (mkF m 20 #[rv sb1, iv 3, iv 1] [(.int 0), (.ref bq2), (.ref b1), (.ref b1)])) (fun t k => ?_) ?_
  · show own_S p e below T2 (mkF m 19 #[rv sb1, iv 3, iv 1] [(.ref bq2), (.ref b1), (.ref b1)]) _
    refine XS.iconst X2.here hx rfl (hb hby d25_19) ?_
    exact k
  obtain ⟨_, _, ⟨T3, L3, k3, n3⟩, -, X3, ⟨Lc3, hQ3, l3, y3, z3⟩, st3⟩ := X2.specialBack hx (y := own_y18) rfl hown (mvT hZ (own_w hw 129 rfl)) (mvT hZ (own_w hw 130 rfl)) (mvT hZ (own_w hw 131 rfl)) (by decide) (backOf (W := 1) (rm29 l Z a0 hw [] b1 bq2 T2.heap n0 (Nat.le_trans (Nat.le_trans Z0 E1.1) K2q.1) c2_E_b1 g_b1 c2_F_b1_value c2_F_b1_coder) hZ (own_w hw 131 rfl) (own_w hw 11 rfl) (by decide) (by decide)) (g := (mkF m 20 #[rv sb1, iv 3, iv 1] [(.int 0), (.ref bq2), (.ref b1), (.ref b1)])) rfl (by rw [hml]; rfl) (Steps.refl _) (a := b1) (argsL := [(.ref bq2), (.int 0)]) (rest := [(.ref b1)]) (lenOf own_pd18 rfl) rfl (by show 2 * 0 + _ ≤ _; exact Nat.le_of_eq rfl) (hb hby d25_20) (fun _ _ => ⟨rfl, rfl, (by decide : 2 + 0 ≤ _), (by decide : 8 + 0 ≤ _)⟩)
  dsimp only [Pt.U, Pt.locs, Pt.cells, Pt.slots] at X3 l3 y3 z3 st3 hQ3
  subst l3 y3 z3
  obtain ⟨rfl, N3q, K3q, E3q, F3c, F3v⟩ := hQ3
  have N3 := Fr.app N2 N3q
  have c3_V_sb1 := c2_V_sb1.keep K3q (fun q => ne_sb1_b1 (List.mem_singleton.mp q))
  have c3_V_bq2 := V2q.keep K3q (fun q => (Ne.symm ne_b1_bq2) (List.mem_singleton.mp q))
  have K3 := K2.trans K3q (allS (Or.inr sz_b1) all0)
  refine own_go (B := T3.setTop (mkF m 23 #[rv sb1, iv 3, iv 1] [(.ref b1)])) (fun t k => st3.trans k) ?_
  obtain ⟨fs, hr, hrun, hended, hW, hsame⟩ := X3.leave (v := some (.ref b1)) (fun h => by rw [Bd.returns] at h; cases h)
  refine ⟨_, _, ?_, hrun, hended, _, _, rfl, ?_, ⟨_, rfl⟩, hW, hsame.mono (by decide) (by decide)⟩
  · show own_S p e below T3 (mkF m 23 #[rv sb1, iv 3, iv 1] [(.ref b1)]) _
    jvm_step X3.here [X3.here.top, hx, (hb hby d25_23), X3.method', Bd.returns, Value.isRef, FieldType.isReference]
    first | (intro acts; rw [hr _ acts rfl rfl rfl]) | rw [hr _ _ rfl rfl rfl]
    exact Steps.refl _
  · show Q25_4_3 Z sb1 kb x0 x1 x2 x3 h0 n0 _ T3.heap _
    exact ⟨b1, bq2, kq2, rfl, N3, K3, E3q, F3c, F3v, c3_V_bq2⟩
def Q25_4_4 (Z : State) (sb1 : Addr) (kb : ClassId) (x0 : Int32) (x1 : Int32) (x2 : Int32) (x3 : Int32) (h0 : Heap) (n0 : Nat) (v : Option Value) (h : Heap) (L : List Loc) : Prop := own_QS Z (0 : Int32) [] h0 n0 v h L
set_option maxRecDepth 65536 in
set_option maxHeartbeats 40000000 in
theorem rm25_4_4 (l : Launch) (Z : State) (a0 : Array Value) (hw : ∀ d ∈ tables_1, d.before a0 Z = true) (ws : List Jvm.Cond) (sb1 : Addr) (kb : ClassId) (x0 : Int32) (x1 : Int32) (x2 : Int32) (x3 : Int32) (h0 : Heap) (n0 : Nat) (Z0 : n0 ≤ h0.size) (V_b : Arv Z h0 sb1 kb .byte (4 : Int32) [(.int x0), (.int x1), (.int x2), (.int x3)] (.int (0 : Int32))) :
    MetFree l own_y21 (head1 (Jvm.Cond.code own_y21 jdk_43_method_47_code 3 (some (.object "java/lang/String")) :: ws) ({ frames := 0, cells := 2, slots := 4, locals := 0 } : Room)) (fun a U => a = #[(.ref sb1), (.int 4), (.int 0)] ∧ Z.Warmed39 U.vm ∧ U.heap = h0 ∧ CHv Z consts_1 U.vm h0) (fun _ _ _ _ _ => True) (fun _ U o U' => ∃ v L, o = .returned v ∧ Q25_4_4 Z sb1 kb x0 x1 x2 x3 h0 n0 v U'.heap L ∧ CHr Z consts_1 U.vm U.heap U'.vm U'.heap ∧ ReturnedEndW U o U' L ({ frames := 0, cells := 2, slots := 4, locals := 0 } : Room).cells ({ frames := 0, cells := 2, slots := 4, locals := 0 } : Room).slots) := by
  refine MetFree.of_bodySF (plainFor_of_name pn_25) hisR ?_
  intro p e s m args below meth c s₁ Bd hml0 hP hK
  obtain ⟨rfl, hZ, hh, hCH⟩ := hP
  have hx := Bd.exec
  have hby := Bd.bytes
  have hml : c.maxLocals = 3 := hml0
  have hown : s.vm.findClass "java/lang/StringLatin1" = some m.cls := findClass_of_methodNamed Bd.named
  have hnm := (name_of_methodNamed Bd.named Bd.method).1
  have X0 : Stand p l e ({ frames := 0, cells := 2, slots := 4, locals := 0 } : Room) s m #[(.ref sb1), (.int 4), (.int 0)] below meth c s₁ [] 0 0 := Stand.of_body Bd
  have e0 : s₁.heap = h0 := by rw [← hh, Bd.state]; rfl
  have N0 := Fr.nil n0
  have X0 : Stand p l e ({ frames := 0, cells := 2, slots := 4, locals := 0 } : Room) (s.setVm s.vm) m #[(.ref sb1), (.int 4), (.int 0)] below meth c s₁ [] 0 0 := X0
  have hZ : Z.Warmed39 (s.setVm s.vm).vm := hZ
  have hown : (s.setVm s.vm).vm.findClass "java/lang/StringLatin1" = some m.cls := hown
  have hS : s.Since s.vm 0 := (State.WarmedH.refl s).since 0
  refine own_go (B := s₁.setTop (mkF m 0 #[rv sb1, iv 4, iv 0] [])) (fun t k => castTop (ef_25 m sb1 (4 : Int32) (0 : Int32)) k) ?_
  refine own_go (B := s₁.setTop (mkF m 4 #[rv sb1, iv 4, iv 0] [])) (fun t k => ?_) ?_
  · show own_S p e below s₁ (mkF m 0 #[rv sb1, iv 4, iv 0] []) _
    refine XS.iloadN X0.here hx rfl (hb hby d25_0) rfl ?_
    refine XS.ifNo X0.here hx rfl (hb hby d25_1) rfl ((if0 _ _).trans (teq (by decide)).2) ?_
    exact k
  obtain ⟨as1, T1, h1, kk1, bs1, ks1, X1, e1, E1, hS, hk1, hZ, hown, LE1, LC1, LV1, LA1, la1, lb1, hC1, hL1, hSf1, st1⟩ := ldcCH (EL := consts_1) X0 hx hZ hown (own_w hw 146 rfl) (own_wS hw) e0 hS (Nat.zero_le _) (own_hEL hw) (by decide) (CHr.refl hCH).1 (z := (0 : Int32)) own_ht0 (by decide) rfl (g := (mkF m 4 #[rv sb1, iv 4, iv 0] [])) rfl (hb hby d25_4) (n := 0) (by decide) (by decide) (by decide) (by decide)
  have Ch1 := (CHr.refl hCH).trans hC1
  have c1_V_sb1 := V_b.ext E1
  have K1 := (Keep.refl h0 []).ext E1
  refine own_go (B := T1.setTop (mkF m 6 #[rv sb1, iv 4, iv 0] [(.ref as1)])) (fun t k => st1 _ k) ?_
  obtain ⟨fs, hr, hrun, hended, hRW⟩ := X1.leaveW hS (by rw [e1]; exact hk1) (v := some (.ref as1)) (fun h => by rw [Bd.returns] at h; cases h)
  refine ⟨_, _, ?_, hrun, hended, _, _, rfl, ?_, (by have q := (Ch1).trans (CHv.at X1 hZ (own_hEL hw) (Ch1).1); rw [← hh, ← e1] at q; exact q), hRW.1, hRW.2.1, hRW.2.2.1, hRW.2.2.2.mono (by decide) (by decide)⟩
  · show own_S p e below T1 (mkF m 6 #[rv sb1, iv 4, iv 0] [(.ref as1)]) _
    jvm_step X1.here [X1.here.top, hx, (hb hby d25_6), X1.method', Bd.returns, Value.isRef, FieldType.isReference]
    first | (intro acts; rw [hr _ acts rfl rfl rfl]) | rw [hr _ _ rfl rfl rfl]
    exact Steps.refl _
  · show Q25_4_4 Z sb1 kb x0 x1 x2 x3 h0 n0 _ T1.heap _
    rw [e1]
    exact ⟨as1, bs1, ks1, rfl, N0, K1, LE1, LC1, LV1, LA1⟩
def own_ch (u1 : Int32) : Int32 := (if (u1 &&& (256 : Int32)) = (0 : Int32) then (nar .char ((u1 &&& (255 : Int32)).toUInt32.toUInt16.toUInt32.toInt32)) else (nar .char (63 : Int32)))
theorem pn_1 : plainName "com/example/arcas/arcas/http/RequestLineQueryPinLaw" = true := by first | (simp [plainName, overriddenIn]; done) | decide +kernel
theorem d1_0 : decode method_2_code 0 = .ok (.iload_n 0, 1) := by decide +kernel
theorem d1_1 : decode method_2_code 1 = .ok (.sipush 256, 3) := by decide +kernel
theorem d1_4 : decode method_2_code 4 = .ok (.iand, 1) := by decide +kernel
theorem d1_5 : decode method_2_code 5 = .ok (.ifCond .eq 8, 3) := by decide +kernel
theorem d1_8 : decode method_2_code 8 = .ok (.bipush 63, 2) := by decide +kernel
theorem d1_10 : decode method_2_code 10 = .ok (.goto 9, 3) := by decide +kernel
theorem d1_13 : decode method_2_code 13 = .ok (.iload_n 0, 1) := by decide +kernel
theorem d1_14 : decode method_2_code 14 = .ok (.sipush 255, 3) := by decide +kernel
theorem d1_17 : decode method_2_code 17 = .ok (.iand, 1) := by decide +kernel
theorem d1_18 : decode method_2_code 18 = .ok (.i2c, 1) := by decide +kernel
theorem d1_19 : decode method_2_code 19 = .ok (.ireturn, 1) := by decide +kernel
theorem ef_1 (m : MethodId) (x0 : Int32) : entryFrame m #[(.int x0)] 1 = mkF m 0 #[.val (.int x0)] [] := by first | (simp [entryFrame, mkF, argsToLocals, Value.category]; done) | rfl
def Q1 (Z : State) (u1 : Int32) (h0 : Heap) (n0 : Nat) (v : Option Value) (h : Heap) (L : List Loc) : Prop := v = some (.int (own_ch u1)) ∧ Fr n0 L ∧ h = h0
set_option maxRecDepth 65536 in
set_option maxHeartbeats 40000000 in
theorem rm1 (l : Launch) (Z : State) (a0 : Array Value) (hw : ∀ d ∈ tables_1, d.before a0 Z = true) (ws : List Jvm.Cond) (u1 : Int32) (h0 : Heap) (n0 : Nat) (Z0 : n0 ≤ h0.size) :
    MetFree l own_y28 (head1 (Jvm.Cond.code own_y28 method_2_code 1 (some .char) :: ws) ({ frames := 0, cells := 0, slots := 0, locals := 0 } : Room)) (fun a U => a = #[(.int u1)] ∧ Z.Warmed39 U.vm ∧ U.heap = h0) (fun _ _ _ _ _ => True) (fun _ U o U' => ∃ v L, o = .returned v ∧ Q1 Z u1 h0 n0 v U'.heap L ∧ FrameEnd U o U' L ({ frames := 0, cells := 0, slots := 0, locals := 0 } : Room).cells ({ frames := 0, cells := 0, slots := 0, locals := 0 } : Room).slots) := by
  refine MetFree.of_bodySF (plainFor_of_name pn_1) hisR ?_
  intro p e s m args below meth c s₁ Bd hml0 hP hK
  obtain ⟨rfl, hZ, hh⟩ := hP
  have hx := Bd.exec
  have hby := Bd.bytes
  have hml : c.maxLocals = 1 := hml0
  have hown : s.vm.findClass "com/example/arcas/arcas/http/RequestLineQueryPinLaw" = some m.cls := findClass_of_methodNamed Bd.named
  have hnm := (name_of_methodNamed Bd.named Bd.method).1
  have X0 : Stand p l e ({ frames := 0, cells := 0, slots := 0, locals := 0 } : Room) s m #[(.int u1)] below meth c s₁ [] 0 0 := Stand.of_body Bd
  have e0 : s₁.heap = h0 := by rw [← hh, Bd.state]; rfl
  have N0 := Fr.nil n0
  refine own_go (B := s₁.setTop (mkF m 0 #[iv u1] [])) (fun t k => castTop (ef_1 m u1) k) ?_
  refine own_go (B := s₁.setTop (mkF m 5 #[iv u1] [(.int (u1 &&& (256 : Int32)))])) (fun t k => ?_) ?_
  · show own_S p e below s₁ (mkF m 0 #[iv u1] []) _
    refine XS.iloadN X0.here hx rfl (hb hby d1_0) rfl ?_
    refine XS.sipush X0.here hx rfl (hb hby d1_1) ?_
    refine XS.iand X0.here hx rfl (hb hby d1_4) rfl ?_
    exact k
  by_cases hc5_1 : (u1 &&& (256 : Int32)) = (0 : Int32)
  · obtain ⟨fs, hr, hrun, hended, hW, hsame⟩ := X0.leave (v := some (.int (nar .char ((u1 &&& (255 : Int32)).toUInt32.toUInt16.toUInt32.toInt32)))) (fun h => by rw [Bd.returns] at h; cases h)
    refine ⟨_, _, ?_, hrun, hended, _, _, rfl, ?_, ⟨_, rfl⟩, hW, hsame.mono (by decide) (by decide)⟩
    · show own_S p e below s₁ (mkF m 5 #[iv u1] [(.int (u1 &&& (256 : Int32)))]) _
      refine XS.ifYes X0.here hx rfl (pc0 := 5) (pc' := 13) rfl (hb hby d1_5) rfl ((if0 _ _).trans (teq hc5_1).1) (by decide) (by decide) ?_
      refine XS.iloadN X0.here hx rfl (hb hby d1_13) rfl ?_
      refine XS.sipush X0.here hx rfl (hb hby d1_14) ?_
      show own_S p e below s₁ (mkF m 17 #[iv u1] [(.int 255), (.int u1)]) _
      refine XS.iand X0.here hx rfl (hb hby d1_17) rfl ?_
      refine XS.i2c X0.here hx rfl (hb hby d1_18) rfl ?_
      show own_S p e below s₁ (mkF m 19 #[iv u1] [(.int ((u1 &&& (255 : Int32)).toUInt32.toUInt16.toUInt32.toInt32))]) _
      exact retN X0 hx (t := .char) Bd.returns (by simp) (hb hby d1_19) hr
    · show Q1 Z u1 h0 n0 _ s₁.heap _
      rw [e0]
      exact ⟨by rw [own_ch, if_pos hc5_1], N0, rfl⟩
  · obtain ⟨fs, hr, hrun, hended, hW, hsame⟩ := X0.leave (v := some (.int (nar .char (63 : Int32)))) (fun h => by rw [Bd.returns] at h; cases h)
    refine ⟨_, _, ?_, hrun, hended, _, _, rfl, ?_, ⟨_, rfl⟩, hW, hsame.mono (by decide) (by decide)⟩
    · show own_S p e below s₁ (mkF m 5 #[iv u1] [(.int (u1 &&& (256 : Int32)))]) _
      refine XS.ifNo X0.here hx rfl (hb hby d1_5) rfl ((if0 _ _).trans (feq hc5_1).1) ?_
      refine XS.bipush X0.here hx rfl (hb hby d1_8) ?_
      refine XS.goto X0.here hx rfl (pc0 := 10) (pc' := 19) rfl (hb hby d1_10) (by decide) (by decide) ?_
      show own_S p e below s₁ (mkF m 19 #[iv u1] [(.int 63)]) _
      exact retN X0 hx (t := .char) Bd.returns (by simp) (hb hby d1_19) hr
    · show Q1 Z u1 h0 n0 _ s₁.heap _
      rw [e0]
      exact ⟨by rw [own_ch, if_neg hc5_1], N0, rfl⟩
theorem pn_2 : plainName "com/example/arcas/arcas/http/RequestLineQueryPinLaw" = true := by first | (simp [plainName, overriddenIn]; done) | decide +kernel
theorem d2_0 : decode method_3_code 0 = .ok (.iload_n 0, 1) := by decide +kernel
theorem d2_1 : decode method_3_code 1 = .ok (.ifCond .ne 7, 3) := by decide +kernel
theorem d2_4 : decode method_3_code 4 = .ok (.iconst 0, 1) := by decide +kernel
theorem d2_5 : decode method_3_code 5 = .ok (.newarray .char, 2) := by decide +kernel
theorem d2_7 : decode method_3_code 7 = .ok (.areturn, 1) := by decide +kernel
theorem ef_2 (m : MethodId) (x0 : Int32) (x1 : Int32) (x2 : Int32) (x3 : Int32) (x4 : Int32) : entryFrame m #[(.int x0), (.int x1), (.int x2), (.int x3), (.int x4)] 5 = mkF m 0 #[.val (.int x0), .val (.int x1), .val (.int x2), .val (.int x3), .val (.int x4)] [] := by first | (simp [entryFrame, mkF, argsToLocals, Value.category]; done) | rfl
def Q2_0 (Z : State) (p0 : Int32) (p1 : Int32) (p2 : Int32) (p3 : Int32) (h0 : Heap) (n0 : Nat) (v : Option Value) (h : Heap) (L : List Loc) : Prop := ∃ (b : Addr) (kb : ClassId), v = some (.ref b) ∧ Fr n0 L ∧ Keep h0 h [] ∧ h0.size ≤ b ∧ n0 ≤ b ∧ Arv Z h b kb .char (0 : Int32) [] (.int (0 : Int32))
set_option maxRecDepth 65536 in
set_option maxHeartbeats 40000000 in
theorem rm2_0 (l : Launch) (Z : State) (a0 : Array Value) (hw : ∀ d ∈ tables_1, d.before a0 Z = true) (ws : List Jvm.Cond) (p0 : Int32) (p1 : Int32) (p2 : Int32) (p3 : Int32) (h0 : Heap) (n0 : Nat) (Z0 : n0 ≤ h0.size) :
    MetFree l own_y29 (head1 (Jvm.Cond.code own_y29 method_3_code 5 (some (.array .char)) :: ws) ({ frames := 0, cells := 1, slots := 0, locals := 0 } : Room)) (fun a U => a = #[(.int 0), (.int p0), (.int p1), (.int p2), (.int p3)] ∧ Z.Warmed39 U.vm ∧ U.heap = h0) (fun _ _ _ _ _ => True) (fun _ U o U' => ∃ v L, o = .returned v ∧ Q2_0 Z p0 p1 p2 p3 h0 n0 v U'.heap L ∧ FrameEnd U o U' L ({ frames := 0, cells := 1, slots := 0, locals := 0 } : Room).cells ({ frames := 0, cells := 1, slots := 0, locals := 0 } : Room).slots) := by
  refine MetFree.of_bodySF (plainFor_of_name pn_2) hisR ?_
  intro p e s m args below meth c s₁ Bd hml0 hP hK
  obtain ⟨rfl, hZ, hh⟩ := hP
  have hx := Bd.exec
  have hby := Bd.bytes
  have hml : c.maxLocals = 5 := hml0
  have hown : s.vm.findClass "com/example/arcas/arcas/http/RequestLineQueryPinLaw" = some m.cls := findClass_of_methodNamed Bd.named
  have hnm := (name_of_methodNamed Bd.named Bd.method).1
  have X0 : Stand p l e ({ frames := 0, cells := 1, slots := 0, locals := 0 } : Room) s m #[(.int 0), (.int p0), (.int p1), (.int p2), (.int p3)] below meth c s₁ [] 0 0 := Stand.of_body Bd
  have e0 : s₁.heap = h0 := by rw [← hh, Bd.state]; rfl
  have N0 := Fr.nil n0
  refine own_go (B := s₁.setTop (mkF m 0 #[iv 0, iv p0, iv p1, iv p2, iv p3] [])) (fun t k => castTop (ef_2 m (0 : Int32) p0 p1 p2 p3) k) ?_
  refine own_go (B := s₁.setTop (mkF m 5 #[iv 0, iv p0, iv p1, iv p2, iv p3] [(.int 0)])) (fun t k => ?_) ?_
  · show own_S p e below s₁ (mkF m 0 #[iv 0, iv p0, iv p1, iv p2, iv p3] []) _
    refine XS.iloadN X0.here hx rfl (hb hby d2_0) rfl ?_
    refine XS.ifNo X0.here hx rfl (hb hby d2_1) rfl ((if0 _ _).trans (teq (by decide)).2) ?_
    refine XS.iconst X0.here hx rfl (hb hby d2_4) ?_
    exact k
  obtain ⟨T1, h1, k1, X1, e1, E1, A1, st1⟩ := newP X0 hx hZ (own_w hw 8 rfl) e0 (g := (mkF m 5 #[iv 0, iv p0, iv p1, iv p2, iv p3] [(.int 0)])) rfl (hb hby d2_5) rfl (by decide) (cap := 0) (by decide) (by decide) (by decide) (by decide)
  obtain ⟨b1, g1⟩ : ∃ z, z = h0.size := ⟨_, rfl⟩
  rw [← g1] at A1 st1
  have g_b1 : n0 ≤ b1 := Nat.le_trans Z0 (Nat.le_of_eq g1.symm)
  have sz_b1 : h0.size ≤ b1 := Nat.le_trans (Keep.refl h0 []).1 (Nat.le_of_eq g1.symm)
  have K1 := (Keep.refl h0 []).ext E1
  have V1 : Arv Z h1 b1 k1 .char (0 : Int32) [] (.int (0 : Int32)) := Arv.new A1 (by decide)
  refine own_go (B := T1.setTop (mkF m 7 #[iv 0, iv p0, iv p1, iv p2, iv p3] [(.ref b1)])) (fun t k => st1 _ k) ?_
  obtain ⟨fs, hr, hrun, hended, hW, hsame⟩ := X1.leave (v := some (.ref b1)) (fun h => by rw [Bd.returns] at h; cases h)
  refine ⟨_, _, ?_, hrun, hended, _, _, rfl, ?_, ⟨_, rfl⟩, hW, hsame.mono (by decide) (by decide)⟩
  · show own_S p e below T1 (mkF m 7 #[iv 0, iv p0, iv p1, iv p2, iv p3] [(.ref b1)]) _
    jvm_step X1.here [X1.here.top, hx, (hb hby d2_7), X1.method', Bd.returns, Value.isRef, FieldType.isReference]
    first | (intro acts; rw [hr _ acts rfl rfl rfl]) | rw [hr _ _ rfl rfl rfl]
    exact Steps.refl _
  · show Q2_0 Z p0 p1 p2 p3 h0 n0 _ T1.heap _
    rw [e1]
    exact ⟨b1, k1, rfl, N0, K1, sz_b1, g_b1, V1⟩
theorem d2_8 : decode method_3_code 8 = .ok (.iload_n 0, 1) := by decide +kernel
theorem d2_9 : decode method_3_code 9 = .ok (.iconst 1, 1) := by decide +kernel
theorem d2_10 : decode method_3_code 10 = .ok (.if_icmp .ne 11, 3) := by decide +kernel
theorem d2_13 : decode method_3_code 13 = .ok (.iconst 1, 1) := by decide +kernel
theorem d2_14 : decode method_3_code 14 = .ok (.newarray .char, 2) := by decide +kernel
theorem d2_16 : decode method_3_code 16 = .ok (.dup, 1) := by decide +kernel
theorem d2_17 : decode method_3_code 17 = .ok (.iconst 0, 1) := by decide +kernel
theorem d2_18 : decode method_3_code 18 = .ok (.iload_n 1, 1) := by decide +kernel
theorem d2_19 : decode method_3_code 19 = .ok (.castore, 1) := by decide +kernel
theorem d2_20 : decode method_3_code 20 = .ok (.areturn, 1) := by decide +kernel
def Q2_1 (Z : State) (p0 : Int32) (p1 : Int32) (p2 : Int32) (p3 : Int32) (h0 : Heap) (n0 : Nat) (v : Option Value) (h : Heap) (L : List Loc) : Prop := ∃ (b : Addr) (kb : ClassId), v = some (.ref b) ∧ Fr n0 L ∧ Keep h0 h [] ∧ h0.size ≤ b ∧ n0 ≤ b ∧ Arv Z h b kb .char (1 : Int32) [(.int p0)] (.int (0 : Int32))
set_option maxRecDepth 65536 in
set_option maxHeartbeats 40000000 in
theorem rm2_1 (l : Launch) (Z : State) (a0 : Array Value) (hw : ∀ d ∈ tables_1, d.before a0 Z = true) (ws : List Jvm.Cond) (p0 : Int32) (p1 : Int32) (p2 : Int32) (p3 : Int32) (h0 : Heap) (n0 : Nat) (Z0 : n0 ≤ h0.size) (hn0 : nar .char p0 = p0) :
    MetFree l own_y29 (head1 (Jvm.Cond.code own_y29 method_3_code 5 (some (.array .char)) :: ws) ({ frames := 0, cells := 1, slots := 1, locals := 0 } : Room)) (fun a U => a = #[(.int 1), (.int p0), (.int p1), (.int p2), (.int p3)] ∧ Z.Warmed39 U.vm ∧ U.heap = h0) (fun _ _ _ _ _ => True) (fun _ U o U' => ∃ v L, o = .returned v ∧ Q2_1 Z p0 p1 p2 p3 h0 n0 v U'.heap L ∧ FrameEnd U o U' L ({ frames := 0, cells := 1, slots := 1, locals := 0 } : Room).cells ({ frames := 0, cells := 1, slots := 1, locals := 0 } : Room).slots) := by
  refine MetFree.of_bodySF (plainFor_of_name pn_2) hisR ?_
  intro p e s m args below meth c s₁ Bd hml0 hP hK
  obtain ⟨rfl, hZ, hh⟩ := hP
  have hx := Bd.exec
  have hby := Bd.bytes
  have hml : c.maxLocals = 5 := hml0
  have hown : s.vm.findClass "com/example/arcas/arcas/http/RequestLineQueryPinLaw" = some m.cls := findClass_of_methodNamed Bd.named
  have hnm := (name_of_methodNamed Bd.named Bd.method).1
  have X0 : Stand p l e ({ frames := 0, cells := 1, slots := 1, locals := 0 } : Room) s m #[(.int 1), (.int p0), (.int p1), (.int p2), (.int p3)] below meth c s₁ [] 0 0 := Stand.of_body Bd
  have e0 : s₁.heap = h0 := by rw [← hh, Bd.state]; rfl
  have N0 := Fr.nil n0
  refine own_go (B := s₁.setTop (mkF m 0 #[iv 1, iv p0, iv p1, iv p2, iv p3] [])) (fun t k => castTop (ef_2 m (1 : Int32) p0 p1 p2 p3) k) ?_
  refine own_go (B := s₁.setTop (mkF m 14 #[iv 1, iv p0, iv p1, iv p2, iv p3] [(.int 1)])) (fun t k => ?_) ?_
  · show own_S p e below s₁ (mkF m 0 #[iv 1, iv p0, iv p1, iv p2, iv p3] []) _
    refine XS.iloadN X0.here hx rfl (hb hby d2_0) rfl ?_
    refine XS.ifYes X0.here hx rfl (pc0 := 1) (pc' := 8) rfl (hb hby d2_1) rfl ((if0 _ _).trans (feq (by decide)).2) (by decide) (by decide) ?_
    refine XS.iloadN X0.here hx rfl (hb hby d2_8) rfl ?_
    show own_S p e below s₁ (mkF m 9 #[iv 1, iv p0, iv p1, iv p2, iv p3] [(.int 1)]) _
    refine XS.iconst X0.here hx rfl (hb hby d2_9) ?_
    refine XS.icmpNo X0.here hx rfl (hb hby d2_10) rfl (teq (by decide)).2 ?_
    refine XS.iconst X0.here hx rfl (hb hby d2_13) ?_
    exact k
  obtain ⟨T1, h1, k1, X1, e1, E1, A1, st1⟩ := newP X0 hx hZ (own_w hw 8 rfl) e0 (g := (mkF m 14 #[iv 1, iv p0, iv p1, iv p2, iv p3] [(.int 1)])) rfl (hb hby d2_14) rfl (by decide) (cap := 1) (by decide) (by decide) (by decide) (by decide)
  obtain ⟨b1, g1⟩ : ∃ z, z = h0.size := ⟨_, rfl⟩
  rw [← g1] at A1 st1
  have g_b1 : n0 ≤ b1 := Nat.le_trans Z0 (Nat.le_of_eq g1.symm)
  have sz_b1 : h0.size ≤ b1 := Nat.le_trans (Keep.refl h0 []).1 (Nat.le_of_eq g1.symm)
  have K1 := (Keep.refl h0 []).ext E1
  have V1 : Arv Z h1 b1 k1 .char (1 : Int32) [(.int (0 : Int32))] (.int (0 : Int32)) := (Arv.new A1 (by decide)).pad (pad_rep [] (.int (0 : Int32)) 1)
  refine own_go (B := T1.setTop (mkF m 16 #[iv 1, iv p0, iv p1, iv p2, iv p3] [(.ref b1)])) (fun t k => st1 _ k) ?_
  refine own_go (B := T1.setTop (mkF m 19 #[iv 1, iv p0, iv p1, iv p2, iv p3] [(.int p0), (.int 0), (.ref b1), (.ref b1)])) (fun t k => ?_) ?_
  · show own_S p e below T1 (mkF m 16 #[iv 1, iv p0, iv p1, iv p2, iv p3] [(.ref b1)]) _
    refine XS.dup X1.here hx rfl (hb hby d2_16) rfl rfl ?_
    refine XS.iconst X1.here hx rfl (hb hby d2_17) ?_
    refine XS.iloadN X1.here hx rfl (hb hby d2_18) rfl ?_
    exact k
  obtain ⟨cl2, Ar2, qk2, S2, M2, H2, G2⟩ := id V1
  obtain ⟨T2, h2, X2, e2, W2, st2⟩ := stC X1 hx hZ e1 Ar2 (j := (0 : Int32)) (inb_of S2 ⟨by decide, by decide⟩) (g := (mkF m 19 #[iv 1, iv p0, iv p1, iv p2, iv p3] [(.int p0), (.int 0), (.ref b1), (.ref b1)])) rfl rfl (hb hby d2_19)
  have V2 : Arv Z h2 b1 k1 .char (1 : Int32) [(.int (nar .char p0))] (.int (0 : Int32)) := Arv.set Ar2 qk2 S2 M2 H2 G2 (fits_nar_char _) W2 0 rfl (Nat.le_of_ble_eq_true rfl)
  have K2 := K1.wr W2 (Or.inr sz_b1)
  have N2 := Fr.snoc X2 N0 g_b1
  refine own_go (B := T2.setTop (mkF m 20 #[iv 1, iv p0, iv p1, iv p2, iv p3] [(.ref b1)])) (fun t k => st2 _ k) ?_
  obtain ⟨fs, hr, hrun, hended, hW, hsame⟩ := X2.leave (v := some (.ref b1)) (fun h => by rw [Bd.returns] at h; cases h)
  refine ⟨_, _, ?_, hrun, hended, _, _, rfl, ?_, ⟨_, rfl⟩, hW, hsame.mono (by decide) (by decide)⟩
  · show own_S p e below T2 (mkF m 20 #[iv 1, iv p0, iv p1, iv p2, iv p3] [(.ref b1)]) _
    jvm_step X2.here [X2.here.top, hx, (hb hby d2_20), X2.method', Bd.returns, Value.isRef, FieldType.isReference]
    first | (intro acts; rw [hr _ acts rfl rfl rfl]) | rw [hr _ _ rfl rfl rfl]
    exact Steps.refl _
  · show Q2_1 Z p0 p1 p2 p3 h0 n0 _ T2.heap _
    rw [e2]
    exact ⟨b1, k1, rfl, N2, K2, sz_b1, g_b1, (by have q := V2; rw [hn0] at q; exact q)⟩
theorem d2_21 : decode method_3_code 21 = .ok (.iload_n 0, 1) := by decide +kernel
theorem d2_22 : decode method_3_code 22 = .ok (.iconst 2, 1) := by decide +kernel
theorem d2_23 : decode method_3_code 23 = .ok (.if_icmp .ne 15, 3) := by decide +kernel
theorem d2_26 : decode method_3_code 26 = .ok (.iconst 2, 1) := by decide +kernel
theorem d2_27 : decode method_3_code 27 = .ok (.newarray .char, 2) := by decide +kernel
theorem d2_29 : decode method_3_code 29 = .ok (.dup, 1) := by decide +kernel
theorem d2_30 : decode method_3_code 30 = .ok (.iconst 0, 1) := by decide +kernel
theorem d2_31 : decode method_3_code 31 = .ok (.iload_n 1, 1) := by decide +kernel
theorem d2_32 : decode method_3_code 32 = .ok (.castore, 1) := by decide +kernel
theorem d2_33 : decode method_3_code 33 = .ok (.dup, 1) := by decide +kernel
theorem d2_34 : decode method_3_code 34 = .ok (.iconst 1, 1) := by decide +kernel
theorem d2_35 : decode method_3_code 35 = .ok (.iload_n 2, 1) := by decide +kernel
theorem d2_36 : decode method_3_code 36 = .ok (.castore, 1) := by decide +kernel
theorem d2_37 : decode method_3_code 37 = .ok (.areturn, 1) := by decide +kernel
def Q2_2 (Z : State) (p0 : Int32) (p1 : Int32) (p2 : Int32) (p3 : Int32) (h0 : Heap) (n0 : Nat) (v : Option Value) (h : Heap) (L : List Loc) : Prop := ∃ (b : Addr) (kb : ClassId), v = some (.ref b) ∧ Fr n0 L ∧ Keep h0 h [] ∧ h0.size ≤ b ∧ n0 ≤ b ∧ Arv Z h b kb .char (2 : Int32) [(.int p0), (.int p1)] (.int (0 : Int32))
set_option maxRecDepth 65536 in
set_option maxHeartbeats 40000000 in
theorem rm2_2 (l : Launch) (Z : State) (a0 : Array Value) (hw : ∀ d ∈ tables_1, d.before a0 Z = true) (ws : List Jvm.Cond) (p0 : Int32) (p1 : Int32) (p2 : Int32) (p3 : Int32) (h0 : Heap) (n0 : Nat) (Z0 : n0 ≤ h0.size) (hn0 : nar .char p0 = p0) (hn1 : nar .char p1 = p1) :
    MetFree l own_y29 (head1 (Jvm.Cond.code own_y29 method_3_code 5 (some (.array .char)) :: ws) ({ frames := 0, cells := 1, slots := 2, locals := 0 } : Room)) (fun a U => a = #[(.int 2), (.int p0), (.int p1), (.int p2), (.int p3)] ∧ Z.Warmed39 U.vm ∧ U.heap = h0) (fun _ _ _ _ _ => True) (fun _ U o U' => ∃ v L, o = .returned v ∧ Q2_2 Z p0 p1 p2 p3 h0 n0 v U'.heap L ∧ FrameEnd U o U' L ({ frames := 0, cells := 1, slots := 2, locals := 0 } : Room).cells ({ frames := 0, cells := 1, slots := 2, locals := 0 } : Room).slots) := by
  refine MetFree.of_bodySF (plainFor_of_name pn_2) hisR ?_
  intro p e s m args below meth c s₁ Bd hml0 hP hK
  obtain ⟨rfl, hZ, hh⟩ := hP
  have hx := Bd.exec
  have hby := Bd.bytes
  have hml : c.maxLocals = 5 := hml0
  have hown : s.vm.findClass "com/example/arcas/arcas/http/RequestLineQueryPinLaw" = some m.cls := findClass_of_methodNamed Bd.named
  have hnm := (name_of_methodNamed Bd.named Bd.method).1
  have X0 : Stand p l e ({ frames := 0, cells := 1, slots := 2, locals := 0 } : Room) s m #[(.int 2), (.int p0), (.int p1), (.int p2), (.int p3)] below meth c s₁ [] 0 0 := Stand.of_body Bd
  have e0 : s₁.heap = h0 := by rw [← hh, Bd.state]; rfl
  have N0 := Fr.nil n0
  refine own_go (B := s₁.setTop (mkF m 0 #[iv 2, iv p0, iv p1, iv p2, iv p3] [])) (fun t k => castTop (ef_2 m (2 : Int32) p0 p1 p2 p3) k) ?_
  refine own_go (B := s₁.setTop (mkF m 27 #[iv 2, iv p0, iv p1, iv p2, iv p3] [(.int 2)])) (fun t k => ?_) ?_
  · show own_S p e below s₁ (mkF m 0 #[iv 2, iv p0, iv p1, iv p2, iv p3] []) _
    refine XS.iloadN X0.here hx rfl (hb hby d2_0) rfl ?_
    refine XS.ifYes X0.here hx rfl (pc0 := 1) (pc' := 8) rfl (hb hby d2_1) rfl ((if0 _ _).trans (feq (by decide)).2) (by decide) (by decide) ?_
    refine XS.iloadN X0.here hx rfl (hb hby d2_8) rfl ?_
    show own_S p e below s₁ (mkF m 9 #[iv 2, iv p0, iv p1, iv p2, iv p3] [(.int 2)]) _
    refine XS.iconst X0.here hx rfl (hb hby d2_9) ?_
    refine XS.icmpYes X0.here hx rfl (pc0 := 10) (pc' := 21) rfl (hb hby d2_10) rfl (feq (by decide)).2 (by decide) (by decide) ?_
    refine XS.iloadN X0.here hx rfl (hb hby d2_21) rfl ?_
    show own_S p e below s₁ (mkF m 22 #[iv 2, iv p0, iv p1, iv p2, iv p3] [(.int 2)]) _
    refine XS.iconst X0.here hx rfl (hb hby d2_22) ?_
    refine XS.icmpNo X0.here hx rfl (hb hby d2_23) rfl (teq (by decide)).2 ?_
    refine XS.iconst X0.here hx rfl (hb hby d2_26) ?_
    exact k
  obtain ⟨T1, h1, k1, X1, e1, E1, A1, st1⟩ := newP X0 hx hZ (own_w hw 8 rfl) e0 (g := (mkF m 27 #[iv 2, iv p0, iv p1, iv p2, iv p3] [(.int 2)])) rfl (hb hby d2_27) rfl (by decide) (cap := 2) (by decide) (by decide) (by decide) (by decide)
  obtain ⟨b1, g1⟩ : ∃ z, z = h0.size := ⟨_, rfl⟩
  rw [← g1] at A1 st1
  have g_b1 : n0 ≤ b1 := Nat.le_trans Z0 (Nat.le_of_eq g1.symm)
  have sz_b1 : h0.size ≤ b1 := Nat.le_trans (Keep.refl h0 []).1 (Nat.le_of_eq g1.symm)
  have K1 := (Keep.refl h0 []).ext E1
  have V1 : Arv Z h1 b1 k1 .char (2 : Int32) [(.int (0 : Int32)), (.int (0 : Int32))] (.int (0 : Int32)) := (Arv.new A1 (by decide)).pad (pad_rep [] (.int (0 : Int32)) 2)
  refine own_go (B := T1.setTop (mkF m 29 #[iv 2, iv p0, iv p1, iv p2, iv p3] [(.ref b1)])) (fun t k => st1 _ k) ?_
  refine own_go (B := T1.setTop (mkF m 32 #[iv 2, iv p0, iv p1, iv p2, iv p3] [(.int p0), (.int 0), (.ref b1), (.ref b1)])) (fun t k => ?_) ?_
  · show own_S p e below T1 (mkF m 29 #[iv 2, iv p0, iv p1, iv p2, iv p3] [(.ref b1)]) _
    refine XS.dup X1.here hx rfl (hb hby d2_29) rfl rfl ?_
    refine XS.iconst X1.here hx rfl (hb hby d2_30) ?_
    refine XS.iloadN X1.here hx rfl (hb hby d2_31) rfl ?_
    exact k
  obtain ⟨cl2, Ar2, qk2, S2, M2, H2, G2⟩ := id V1
  obtain ⟨T2, h2, X2, e2, W2, st2⟩ := stC X1 hx hZ e1 Ar2 (j := (0 : Int32)) (inb_of S2 ⟨by decide, by decide⟩) (g := (mkF m 32 #[iv 2, iv p0, iv p1, iv p2, iv p3] [(.int p0), (.int 0), (.ref b1), (.ref b1)])) rfl rfl (hb hby d2_32)
  have V2 : Arv Z h2 b1 k1 .char (2 : Int32) [(.int (nar .char p0)), (.int (0 : Int32))] (.int (0 : Int32)) := Arv.set Ar2 qk2 S2 M2 H2 G2 (fits_nar_char _) W2 0 rfl (Nat.le_of_ble_eq_true rfl)
  have K2 := K1.wr W2 (Or.inr sz_b1)
  have N2 := Fr.snoc X2 N0 g_b1
  refine own_go (B := T2.setTop (mkF m 33 #[iv 2, iv p0, iv p1, iv p2, iv p3] [(.ref b1)])) (fun t k => st2 _ k) ?_
  refine own_go (B := T2.setTop (mkF m 36 #[iv 2, iv p0, iv p1, iv p2, iv p3] [(.int p1), (.int 1), (.ref b1), (.ref b1)])) (fun t k => ?_) ?_
  · show own_S p e below T2 (mkF m 33 #[iv 2, iv p0, iv p1, iv p2, iv p3] [(.ref b1)]) _
    refine XS.dup X2.here hx rfl (hb hby d2_33) rfl rfl ?_
    refine XS.iconst X2.here hx rfl (hb hby d2_34) ?_
    refine XS.iloadN X2.here hx rfl (hb hby d2_35) rfl ?_
    exact k
  obtain ⟨cl3, Ar3, qk3, S3, M3, H3, G3⟩ := id V2
  obtain ⟨T3, h3, X3, e3, W3, st3⟩ := stC X2 hx hZ e2 Ar3 (j := (1 : Int32)) (inb_of S3 ⟨by decide, by decide⟩) (g := (mkF m 36 #[iv 2, iv p0, iv p1, iv p2, iv p3] [(.int p1), (.int 1), (.ref b1), (.ref b1)])) rfl rfl (hb hby d2_36)
  have V3 : Arv Z h3 b1 k1 .char (2 : Int32) [(.int (nar .char p0)), (.int (nar .char p1))] (.int (0 : Int32)) := Arv.set Ar3 qk3 S3 M3 H3 G3 (fits_nar_char _) W3 1 rfl (Nat.le_of_ble_eq_true rfl)
  have K3 := K2.wr W3 (Or.inr sz_b1)
  have N3 := Fr.snoc X3 N2 g_b1
  refine own_go (B := T3.setTop (mkF m 37 #[iv 2, iv p0, iv p1, iv p2, iv p3] [(.ref b1)])) (fun t k => st3 _ k) ?_
  obtain ⟨fs, hr, hrun, hended, hW, hsame⟩ := X3.leave (v := some (.ref b1)) (fun h => by rw [Bd.returns] at h; cases h)
  refine ⟨_, _, ?_, hrun, hended, _, _, rfl, ?_, ⟨_, rfl⟩, hW, hsame.mono (by decide) (by decide)⟩
  · show own_S p e below T3 (mkF m 37 #[iv 2, iv p0, iv p1, iv p2, iv p3] [(.ref b1)]) _
    jvm_step X3.here [X3.here.top, hx, (hb hby d2_37), X3.method', Bd.returns, Value.isRef, FieldType.isReference]
    first | (intro acts; rw [hr _ acts rfl rfl rfl]) | rw [hr _ _ rfl rfl rfl]
    exact Steps.refl _
  · show Q2_2 Z p0 p1 p2 p3 h0 n0 _ T3.heap _
    rw [e3]
    exact ⟨b1, k1, rfl, N3, K3, sz_b1, g_b1, (by have q := V3; rw [hn0, hn1] at q; exact q)⟩
theorem d2_38 : decode method_3_code 38 = .ok (.iload_n 0, 1) := by decide +kernel
theorem d2_39 : decode method_3_code 39 = .ok (.iconst 3, 1) := by decide +kernel
theorem d2_40 : decode method_3_code 40 = .ok (.if_icmp .ne 19, 3) := by decide +kernel
theorem d2_43 : decode method_3_code 43 = .ok (.iconst 3, 1) := by decide +kernel
theorem d2_44 : decode method_3_code 44 = .ok (.newarray .char, 2) := by decide +kernel
theorem d2_46 : decode method_3_code 46 = .ok (.dup, 1) := by decide +kernel
theorem d2_47 : decode method_3_code 47 = .ok (.iconst 0, 1) := by decide +kernel
theorem d2_48 : decode method_3_code 48 = .ok (.iload_n 1, 1) := by decide +kernel
theorem d2_49 : decode method_3_code 49 = .ok (.castore, 1) := by decide +kernel
theorem d2_50 : decode method_3_code 50 = .ok (.dup, 1) := by decide +kernel
theorem d2_51 : decode method_3_code 51 = .ok (.iconst 1, 1) := by decide +kernel
theorem d2_52 : decode method_3_code 52 = .ok (.iload_n 2, 1) := by decide +kernel
theorem d2_53 : decode method_3_code 53 = .ok (.castore, 1) := by decide +kernel
theorem d2_54 : decode method_3_code 54 = .ok (.dup, 1) := by decide +kernel
theorem d2_55 : decode method_3_code 55 = .ok (.iconst 2, 1) := by decide +kernel
theorem d2_56 : decode method_3_code 56 = .ok (.iload_n 3, 1) := by decide +kernel
theorem d2_57 : decode method_3_code 57 = .ok (.castore, 1) := by decide +kernel
theorem d2_58 : decode method_3_code 58 = .ok (.areturn, 1) := by decide +kernel
def Q2_3 (Z : State) (p0 : Int32) (p1 : Int32) (p2 : Int32) (p3 : Int32) (h0 : Heap) (n0 : Nat) (v : Option Value) (h : Heap) (L : List Loc) : Prop := ∃ (b : Addr) (kb : ClassId), v = some (.ref b) ∧ Fr n0 L ∧ Keep h0 h [] ∧ h0.size ≤ b ∧ n0 ≤ b ∧ Arv Z h b kb .char (3 : Int32) [(.int p0), (.int p1), (.int p2)] (.int (0 : Int32))
set_option maxRecDepth 65536 in
set_option maxHeartbeats 40000000 in
theorem rm2_3 (l : Launch) (Z : State) (a0 : Array Value) (hw : ∀ d ∈ tables_1, d.before a0 Z = true) (ws : List Jvm.Cond) (p0 : Int32) (p1 : Int32) (p2 : Int32) (p3 : Int32) (h0 : Heap) (n0 : Nat) (Z0 : n0 ≤ h0.size) (hn0 : nar .char p0 = p0) (hn1 : nar .char p1 = p1) (hn2 : nar .char p2 = p2) :
    MetFree l own_y29 (head1 (Jvm.Cond.code own_y29 method_3_code 5 (some (.array .char)) :: ws) ({ frames := 0, cells := 1, slots := 3, locals := 0 } : Room)) (fun a U => a = #[(.int 3), (.int p0), (.int p1), (.int p2), (.int p3)] ∧ Z.Warmed39 U.vm ∧ U.heap = h0) (fun _ _ _ _ _ => True) (fun _ U o U' => ∃ v L, o = .returned v ∧ Q2_3 Z p0 p1 p2 p3 h0 n0 v U'.heap L ∧ FrameEnd U o U' L ({ frames := 0, cells := 1, slots := 3, locals := 0 } : Room).cells ({ frames := 0, cells := 1, slots := 3, locals := 0 } : Room).slots) := by
  refine MetFree.of_bodySF (plainFor_of_name pn_2) hisR ?_
  intro p e s m args below meth c s₁ Bd hml0 hP hK
  obtain ⟨rfl, hZ, hh⟩ := hP
  have hx := Bd.exec
  have hby := Bd.bytes
  have hml : c.maxLocals = 5 := hml0
  have hown : s.vm.findClass "com/example/arcas/arcas/http/RequestLineQueryPinLaw" = some m.cls := findClass_of_methodNamed Bd.named
  have hnm := (name_of_methodNamed Bd.named Bd.method).1
  have X0 : Stand p l e ({ frames := 0, cells := 1, slots := 3, locals := 0 } : Room) s m #[(.int 3), (.int p0), (.int p1), (.int p2), (.int p3)] below meth c s₁ [] 0 0 := Stand.of_body Bd
  have e0 : s₁.heap = h0 := by rw [← hh, Bd.state]; rfl
  have N0 := Fr.nil n0
  refine own_go (B := s₁.setTop (mkF m 0 #[iv 3, iv p0, iv p1, iv p2, iv p3] [])) (fun t k => castTop (ef_2 m (3 : Int32) p0 p1 p2 p3) k) ?_
  refine own_go (B := s₁.setTop (mkF m 44 #[iv 3, iv p0, iv p1, iv p2, iv p3] [(.int 3)])) (fun t k => ?_) ?_
  · show own_S p e below s₁ (mkF m 0 #[iv 3, iv p0, iv p1, iv p2, iv p3] []) _
    refine XS.iloadN X0.here hx rfl (hb hby d2_0) rfl ?_
    refine XS.ifYes X0.here hx rfl (pc0 := 1) (pc' := 8) rfl (hb hby d2_1) rfl ((if0 _ _).trans (feq (by decide)).2) (by decide) (by decide) ?_
    refine XS.iloadN X0.here hx rfl (hb hby d2_8) rfl ?_
    show own_S p e below s₁ (mkF m 9 #[iv 3, iv p0, iv p1, iv p2, iv p3] [(.int 3)]) _
    refine XS.iconst X0.here hx rfl (hb hby d2_9) ?_
    refine XS.icmpYes X0.here hx rfl (pc0 := 10) (pc' := 21) rfl (hb hby d2_10) rfl (feq (by decide)).2 (by decide) (by decide) ?_
    refine XS.iloadN X0.here hx rfl (hb hby d2_21) rfl ?_
    show own_S p e below s₁ (mkF m 22 #[iv 3, iv p0, iv p1, iv p2, iv p3] [(.int 3)]) _
    refine XS.iconst X0.here hx rfl (hb hby d2_22) ?_
    refine XS.icmpYes X0.here hx rfl (pc0 := 23) (pc' := 38) rfl (hb hby d2_23) rfl (feq (by decide)).2 (by decide) (by decide) ?_
    refine XS.iloadN X0.here hx rfl (hb hby d2_38) rfl ?_
    show own_S p e below s₁ (mkF m 39 #[iv 3, iv p0, iv p1, iv p2, iv p3] [(.int 3)]) _
    refine XS.iconst X0.here hx rfl (hb hby d2_39) ?_
    refine XS.icmpNo X0.here hx rfl (hb hby d2_40) rfl (teq (by decide)).2 ?_
    refine XS.iconst X0.here hx rfl (hb hby d2_43) ?_
    exact k
  obtain ⟨T1, h1, k1, X1, e1, E1, A1, st1⟩ := newP X0 hx hZ (own_w hw 8 rfl) e0 (g := (mkF m 44 #[iv 3, iv p0, iv p1, iv p2, iv p3] [(.int 3)])) rfl (hb hby d2_44) rfl (by decide) (cap := 3) (by decide) (by decide) (by decide) (by decide)
  obtain ⟨b1, g1⟩ : ∃ z, z = h0.size := ⟨_, rfl⟩
  rw [← g1] at A1 st1
  have g_b1 : n0 ≤ b1 := Nat.le_trans Z0 (Nat.le_of_eq g1.symm)
  have sz_b1 : h0.size ≤ b1 := Nat.le_trans (Keep.refl h0 []).1 (Nat.le_of_eq g1.symm)
  have K1 := (Keep.refl h0 []).ext E1
  have V1 : Arv Z h1 b1 k1 .char (3 : Int32) [(.int (0 : Int32)), (.int (0 : Int32)), (.int (0 : Int32))] (.int (0 : Int32)) := (Arv.new A1 (by decide)).pad (pad_rep [] (.int (0 : Int32)) 3)
  refine own_go (B := T1.setTop (mkF m 46 #[iv 3, iv p0, iv p1, iv p2, iv p3] [(.ref b1)])) (fun t k => st1 _ k) ?_
  refine own_go (B := T1.setTop (mkF m 49 #[iv 3, iv p0, iv p1, iv p2, iv p3] [(.int p0), (.int 0), (.ref b1), (.ref b1)])) (fun t k => ?_) ?_
  · show own_S p e below T1 (mkF m 46 #[iv 3, iv p0, iv p1, iv p2, iv p3] [(.ref b1)]) _
    refine XS.dup X1.here hx rfl (hb hby d2_46) rfl rfl ?_
    refine XS.iconst X1.here hx rfl (hb hby d2_47) ?_
    refine XS.iloadN X1.here hx rfl (hb hby d2_48) rfl ?_
    exact k
  obtain ⟨cl2, Ar2, qk2, S2, M2, H2, G2⟩ := id V1
  obtain ⟨T2, h2, X2, e2, W2, st2⟩ := stC X1 hx hZ e1 Ar2 (j := (0 : Int32)) (inb_of S2 ⟨by decide, by decide⟩) (g := (mkF m 49 #[iv 3, iv p0, iv p1, iv p2, iv p3] [(.int p0), (.int 0), (.ref b1), (.ref b1)])) rfl rfl (hb hby d2_49)
  have V2 : Arv Z h2 b1 k1 .char (3 : Int32) [(.int (nar .char p0)), (.int (0 : Int32)), (.int (0 : Int32))] (.int (0 : Int32)) := Arv.set Ar2 qk2 S2 M2 H2 G2 (fits_nar_char _) W2 0 rfl (Nat.le_of_ble_eq_true rfl)
  have K2 := K1.wr W2 (Or.inr sz_b1)
  have N2 := Fr.snoc X2 N0 g_b1
  refine own_go (B := T2.setTop (mkF m 50 #[iv 3, iv p0, iv p1, iv p2, iv p3] [(.ref b1)])) (fun t k => st2 _ k) ?_
  refine own_go (B := T2.setTop (mkF m 53 #[iv 3, iv p0, iv p1, iv p2, iv p3] [(.int p1), (.int 1), (.ref b1), (.ref b1)])) (fun t k => ?_) ?_
  · show own_S p e below T2 (mkF m 50 #[iv 3, iv p0, iv p1, iv p2, iv p3] [(.ref b1)]) _
    refine XS.dup X2.here hx rfl (hb hby d2_50) rfl rfl ?_
    refine XS.iconst X2.here hx rfl (hb hby d2_51) ?_
    refine XS.iloadN X2.here hx rfl (hb hby d2_52) rfl ?_
    exact k
  obtain ⟨cl3, Ar3, qk3, S3, M3, H3, G3⟩ := id V2
  obtain ⟨T3, h3, X3, e3, W3, st3⟩ := stC X2 hx hZ e2 Ar3 (j := (1 : Int32)) (inb_of S3 ⟨by decide, by decide⟩) (g := (mkF m 53 #[iv 3, iv p0, iv p1, iv p2, iv p3] [(.int p1), (.int 1), (.ref b1), (.ref b1)])) rfl rfl (hb hby d2_53)
  have V3 : Arv Z h3 b1 k1 .char (3 : Int32) [(.int (nar .char p0)), (.int (nar .char p1)), (.int (0 : Int32))] (.int (0 : Int32)) := Arv.set Ar3 qk3 S3 M3 H3 G3 (fits_nar_char _) W3 1 rfl (Nat.le_of_ble_eq_true rfl)
  have K3 := K2.wr W3 (Or.inr sz_b1)
  have N3 := Fr.snoc X3 N2 g_b1
  refine own_go (B := T3.setTop (mkF m 54 #[iv 3, iv p0, iv p1, iv p2, iv p3] [(.ref b1)])) (fun t k => st3 _ k) ?_
  refine own_go (B := T3.setTop (mkF m 57 #[iv 3, iv p0, iv p1, iv p2, iv p3] [(.int p2), (.int 2), (.ref b1), (.ref b1)])) (fun t k => ?_) ?_
  · show own_S p e below T3 (mkF m 54 #[iv 3, iv p0, iv p1, iv p2, iv p3] [(.ref b1)]) _
    refine XS.dup X3.here hx rfl (hb hby d2_54) rfl rfl ?_
    refine XS.iconst X3.here hx rfl (hb hby d2_55) ?_
    refine XS.iloadN X3.here hx rfl (hb hby d2_56) rfl ?_
    exact k
  obtain ⟨cl4, Ar4, qk4, S4, M4, H4, G4⟩ := id V3
  obtain ⟨T4, h4, X4, e4, W4, st4⟩ := stC X3 hx hZ e3 Ar4 (j := (2 : Int32)) (inb_of S4 ⟨by decide, by decide⟩) (g := (mkF m 57 #[iv 3, iv p0, iv p1, iv p2, iv p3] [(.int p2), (.int 2), (.ref b1), (.ref b1)])) rfl rfl (hb hby d2_57)
  have V4 : Arv Z h4 b1 k1 .char (3 : Int32) [(.int (nar .char p0)), (.int (nar .char p1)), (.int (nar .char p2))] (.int (0 : Int32)) := Arv.set Ar4 qk4 S4 M4 H4 G4 (fits_nar_char _) W4 2 rfl (Nat.le_of_ble_eq_true rfl)
  have K4 := K3.wr W4 (Or.inr sz_b1)
  have N4 := Fr.snoc X4 N3 g_b1
  refine own_go (B := T4.setTop (mkF m 58 #[iv 3, iv p0, iv p1, iv p2, iv p3] [(.ref b1)])) (fun t k => st4 _ k) ?_
  obtain ⟨fs, hr, hrun, hended, hW, hsame⟩ := X4.leave (v := some (.ref b1)) (fun h => by rw [Bd.returns] at h; cases h)
  refine ⟨_, _, ?_, hrun, hended, _, _, rfl, ?_, ⟨_, rfl⟩, hW, hsame.mono (by decide) (by decide)⟩
  · show own_S p e below T4 (mkF m 58 #[iv 3, iv p0, iv p1, iv p2, iv p3] [(.ref b1)]) _
    jvm_step X4.here [X4.here.top, hx, (hb hby d2_58), X4.method', Bd.returns, Value.isRef, FieldType.isReference]
    first | (intro acts; rw [hr _ acts rfl rfl rfl]) | rw [hr _ _ rfl rfl rfl]
    exact Steps.refl _
  · show Q2_3 Z p0 p1 p2 p3 h0 n0 _ T4.heap _
    rw [e4]
    exact ⟨b1, k1, rfl, N4, K4, sz_b1, g_b1, (by have q := V4; rw [hn0, hn1, hn2] at q; exact q)⟩
theorem d2_59 : decode method_3_code 59 = .ok (.iconst 4, 1) := by decide +kernel
theorem d2_60 : decode method_3_code 60 = .ok (.newarray .char, 2) := by decide +kernel
theorem d2_62 : decode method_3_code 62 = .ok (.dup, 1) := by decide +kernel
theorem d2_63 : decode method_3_code 63 = .ok (.iconst 0, 1) := by decide +kernel
theorem d2_64 : decode method_3_code 64 = .ok (.iload_n 1, 1) := by decide +kernel
theorem d2_65 : decode method_3_code 65 = .ok (.castore, 1) := by decide +kernel
theorem d2_66 : decode method_3_code 66 = .ok (.dup, 1) := by decide +kernel
theorem d2_67 : decode method_3_code 67 = .ok (.iconst 1, 1) := by decide +kernel
theorem d2_68 : decode method_3_code 68 = .ok (.iload_n 2, 1) := by decide +kernel
theorem d2_69 : decode method_3_code 69 = .ok (.castore, 1) := by decide +kernel
theorem d2_70 : decode method_3_code 70 = .ok (.dup, 1) := by decide +kernel
theorem d2_71 : decode method_3_code 71 = .ok (.iconst 2, 1) := by decide +kernel
theorem d2_72 : decode method_3_code 72 = .ok (.iload_n 3, 1) := by decide +kernel
theorem d2_73 : decode method_3_code 73 = .ok (.castore, 1) := by decide +kernel
theorem d2_74 : decode method_3_code 74 = .ok (.dup, 1) := by decide +kernel
theorem d2_75 : decode method_3_code 75 = .ok (.iconst 3, 1) := by decide +kernel
theorem d2_76 : decode method_3_code 76 = .ok (.iload 4, 2) := by decide +kernel
theorem d2_78 : decode method_3_code 78 = .ok (.castore, 1) := by decide +kernel
theorem d2_79 : decode method_3_code 79 = .ok (.areturn, 1) := by decide +kernel
def Q2_4 (Z : State) (p0 : Int32) (p1 : Int32) (p2 : Int32) (p3 : Int32) (h0 : Heap) (n0 : Nat) (v : Option Value) (h : Heap) (L : List Loc) : Prop := ∃ (b : Addr) (kb : ClassId), v = some (.ref b) ∧ Fr n0 L ∧ Keep h0 h [] ∧ h0.size ≤ b ∧ n0 ≤ b ∧ Arv Z h b kb .char (4 : Int32) [(.int p0), (.int p1), (.int p2), (.int p3)] (.int (0 : Int32))
set_option maxRecDepth 65536 in
set_option maxHeartbeats 40000000 in
theorem rm2_4 (l : Launch) (Z : State) (a0 : Array Value) (hw : ∀ d ∈ tables_1, d.before a0 Z = true) (ws : List Jvm.Cond) (p0 : Int32) (p1 : Int32) (p2 : Int32) (p3 : Int32) (h0 : Heap) (n0 : Nat) (Z0 : n0 ≤ h0.size) (hn0 : nar .char p0 = p0) (hn1 : nar .char p1 = p1) (hn2 : nar .char p2 = p2) (hn3 : nar .char p3 = p3) :
    MetFree l own_y29 (head1 (Jvm.Cond.code own_y29 method_3_code 5 (some (.array .char)) :: ws) ({ frames := 0, cells := 1, slots := 4, locals := 0 } : Room)) (fun a U => a = #[(.int 4), (.int p0), (.int p1), (.int p2), (.int p3)] ∧ Z.Warmed39 U.vm ∧ U.heap = h0) (fun _ _ _ _ _ => True) (fun _ U o U' => ∃ v L, o = .returned v ∧ Q2_4 Z p0 p1 p2 p3 h0 n0 v U'.heap L ∧ FrameEnd U o U' L ({ frames := 0, cells := 1, slots := 4, locals := 0 } : Room).cells ({ frames := 0, cells := 1, slots := 4, locals := 0 } : Room).slots) := by
  refine MetFree.of_bodySF (plainFor_of_name pn_2) hisR ?_
  intro p e s m args below meth c s₁ Bd hml0 hP hK
  obtain ⟨rfl, hZ, hh⟩ := hP
  have hx := Bd.exec
  have hby := Bd.bytes
  have hml : c.maxLocals = 5 := hml0
  have hown : s.vm.findClass "com/example/arcas/arcas/http/RequestLineQueryPinLaw" = some m.cls := findClass_of_methodNamed Bd.named
  have hnm := (name_of_methodNamed Bd.named Bd.method).1
  have X0 : Stand p l e ({ frames := 0, cells := 1, slots := 4, locals := 0 } : Room) s m #[(.int 4), (.int p0), (.int p1), (.int p2), (.int p3)] below meth c s₁ [] 0 0 := Stand.of_body Bd
  have e0 : s₁.heap = h0 := by rw [← hh, Bd.state]; rfl
  have N0 := Fr.nil n0
  refine own_go (B := s₁.setTop (mkF m 0 #[iv 4, iv p0, iv p1, iv p2, iv p3] [])) (fun t k => castTop (ef_2 m (4 : Int32) p0 p1 p2 p3) k) ?_
  refine own_go (B := s₁.setTop (mkF m 60 #[iv 4, iv p0, iv p1, iv p2, iv p3] [(.int 4)])) (fun t k => ?_) ?_
  · show own_S p e below s₁ (mkF m 0 #[iv 4, iv p0, iv p1, iv p2, iv p3] []) _
    refine XS.iloadN X0.here hx rfl (hb hby d2_0) rfl ?_
    refine XS.ifYes X0.here hx rfl (pc0 := 1) (pc' := 8) rfl (hb hby d2_1) rfl ((if0 _ _).trans (feq (by decide)).2) (by decide) (by decide) ?_
    refine XS.iloadN X0.here hx rfl (hb hby d2_8) rfl ?_
    show own_S p e below s₁ (mkF m 9 #[iv 4, iv p0, iv p1, iv p2, iv p3] [(.int 4)]) _
    refine XS.iconst X0.here hx rfl (hb hby d2_9) ?_
    refine XS.icmpYes X0.here hx rfl (pc0 := 10) (pc' := 21) rfl (hb hby d2_10) rfl (feq (by decide)).2 (by decide) (by decide) ?_
    refine XS.iloadN X0.here hx rfl (hb hby d2_21) rfl ?_
    show own_S p e below s₁ (mkF m 22 #[iv 4, iv p0, iv p1, iv p2, iv p3] [(.int 4)]) _
    refine XS.iconst X0.here hx rfl (hb hby d2_22) ?_
    refine XS.icmpYes X0.here hx rfl (pc0 := 23) (pc' := 38) rfl (hb hby d2_23) rfl (feq (by decide)).2 (by decide) (by decide) ?_
    refine XS.iloadN X0.here hx rfl (hb hby d2_38) rfl ?_
    show own_S p e below s₁ (mkF m 39 #[iv 4, iv p0, iv p1, iv p2, iv p3] [(.int 4)]) _
    refine XS.iconst X0.here hx rfl (hb hby d2_39) ?_
    refine XS.icmpYes X0.here hx rfl (pc0 := 40) (pc' := 59) rfl (hb hby d2_40) rfl (feq (by decide)).2 (by decide) (by decide) ?_
    refine XS.iconst X0.here hx rfl (hb hby d2_59) ?_
    exact k
  obtain ⟨T1, h1, k1, X1, e1, E1, A1, st1⟩ := newP X0 hx hZ (own_w hw 8 rfl) e0 (g := (mkF m 60 #[iv 4, iv p0, iv p1, iv p2, iv p3] [(.int 4)])) rfl (hb hby d2_60) rfl (by decide) (cap := 4) (by decide) (by decide) (by decide) (by decide)
  obtain ⟨b1, g1⟩ : ∃ z, z = h0.size := ⟨_, rfl⟩
  rw [← g1] at A1 st1
  have g_b1 : n0 ≤ b1 := Nat.le_trans Z0 (Nat.le_of_eq g1.symm)
  have sz_b1 : h0.size ≤ b1 := Nat.le_trans (Keep.refl h0 []).1 (Nat.le_of_eq g1.symm)
  have K1 := (Keep.refl h0 []).ext E1
  have V1 : Arv Z h1 b1 k1 .char (4 : Int32) [(.int (0 : Int32)), (.int (0 : Int32)), (.int (0 : Int32)), (.int (0 : Int32))] (.int (0 : Int32)) := (Arv.new A1 (by decide)).pad (pad_rep [] (.int (0 : Int32)) 4)
  refine own_go (B := T1.setTop (mkF m 62 #[iv 4, iv p0, iv p1, iv p2, iv p3] [(.ref b1)])) (fun t k => st1 _ k) ?_
  refine own_go (B := T1.setTop (mkF m 65 #[iv 4, iv p0, iv p1, iv p2, iv p3] [(.int p0), (.int 0), (.ref b1), (.ref b1)])) (fun t k => ?_) ?_
  · show own_S p e below T1 (mkF m 62 #[iv 4, iv p0, iv p1, iv p2, iv p3] [(.ref b1)]) _
    refine XS.dup X1.here hx rfl (hb hby d2_62) rfl rfl ?_
    refine XS.iconst X1.here hx rfl (hb hby d2_63) ?_
    refine XS.iloadN X1.here hx rfl (hb hby d2_64) rfl ?_
    exact k
  obtain ⟨cl2, Ar2, qk2, S2, M2, H2, G2⟩ := id V1
  obtain ⟨T2, h2, X2, e2, W2, st2⟩ := stC X1 hx hZ e1 Ar2 (j := (0 : Int32)) (inb_of S2 ⟨by decide, by decide⟩) (g := (mkF m 65 #[iv 4, iv p0, iv p1, iv p2, iv p3] [(.int p0), (.int 0), (.ref b1), (.ref b1)])) rfl rfl (hb hby d2_65)
  have V2 : Arv Z h2 b1 k1 .char (4 : Int32) [(.int (nar .char p0)), (.int (0 : Int32)), (.int (0 : Int32)), (.int (0 : Int32))] (.int (0 : Int32)) := Arv.set Ar2 qk2 S2 M2 H2 G2 (fits_nar_char _) W2 0 rfl (Nat.le_of_ble_eq_true rfl)
  have K2 := K1.wr W2 (Or.inr sz_b1)
  have N2 := Fr.snoc X2 N0 g_b1
  refine own_go (B := T2.setTop (mkF m 66 #[iv 4, iv p0, iv p1, iv p2, iv p3] [(.ref b1)])) (fun t k => st2 _ k) ?_
  refine own_go (B := T2.setTop (mkF m 69 #[iv 4, iv p0, iv p1, iv p2, iv p3] [(.int p1), (.int 1), (.ref b1), (.ref b1)])) (fun t k => ?_) ?_
  · show own_S p e below T2 (mkF m 66 #[iv 4, iv p0, iv p1, iv p2, iv p3] [(.ref b1)]) _
    refine XS.dup X2.here hx rfl (hb hby d2_66) rfl rfl ?_
    refine XS.iconst X2.here hx rfl (hb hby d2_67) ?_
    refine XS.iloadN X2.here hx rfl (hb hby d2_68) rfl ?_
    exact k
  obtain ⟨cl3, Ar3, qk3, S3, M3, H3, G3⟩ := id V2
  obtain ⟨T3, h3, X3, e3, W3, st3⟩ := stC X2 hx hZ e2 Ar3 (j := (1 : Int32)) (inb_of S3 ⟨by decide, by decide⟩) (g := (mkF m 69 #[iv 4, iv p0, iv p1, iv p2, iv p3] [(.int p1), (.int 1), (.ref b1), (.ref b1)])) rfl rfl (hb hby d2_69)
  have V3 : Arv Z h3 b1 k1 .char (4 : Int32) [(.int (nar .char p0)), (.int (nar .char p1)), (.int (0 : Int32)), (.int (0 : Int32))] (.int (0 : Int32)) := Arv.set Ar3 qk3 S3 M3 H3 G3 (fits_nar_char _) W3 1 rfl (Nat.le_of_ble_eq_true rfl)
  have K3 := K2.wr W3 (Or.inr sz_b1)
  have N3 := Fr.snoc X3 N2 g_b1
  refine own_go (B := T3.setTop (mkF m 70 #[iv 4, iv p0, iv p1, iv p2, iv p3] [(.ref b1)])) (fun t k => st3 _ k) ?_
  refine own_go (B := T3.setTop (mkF m 73 #[iv 4, iv p0, iv p1, iv p2, iv p3] [(.int p2), (.int 2), (.ref b1), (.ref b1)])) (fun t k => ?_) ?_
  · show own_S p e below T3 (mkF m 70 #[iv 4, iv p0, iv p1, iv p2, iv p3] [(.ref b1)]) _
    refine XS.dup X3.here hx rfl (hb hby d2_70) rfl rfl ?_
    refine XS.iconst X3.here hx rfl (hb hby d2_71) ?_
    refine XS.iloadN X3.here hx rfl (hb hby d2_72) rfl ?_
    exact k
  obtain ⟨cl4, Ar4, qk4, S4, M4, H4, G4⟩ := id V3
  obtain ⟨T4, h4, X4, e4, W4, st4⟩ := stC X3 hx hZ e3 Ar4 (j := (2 : Int32)) (inb_of S4 ⟨by decide, by decide⟩) (g := (mkF m 73 #[iv 4, iv p0, iv p1, iv p2, iv p3] [(.int p2), (.int 2), (.ref b1), (.ref b1)])) rfl rfl (hb hby d2_73)
  have V4 : Arv Z h4 b1 k1 .char (4 : Int32) [(.int (nar .char p0)), (.int (nar .char p1)), (.int (nar .char p2)), (.int (0 : Int32))] (.int (0 : Int32)) := Arv.set Ar4 qk4 S4 M4 H4 G4 (fits_nar_char _) W4 2 rfl (Nat.le_of_ble_eq_true rfl)
  have K4 := K3.wr W4 (Or.inr sz_b1)
  have N4 := Fr.snoc X4 N3 g_b1
  refine own_go (B := T4.setTop (mkF m 74 #[iv 4, iv p0, iv p1, iv p2, iv p3] [(.ref b1)])) (fun t k => st4 _ k) ?_
  refine own_go (B := T4.setTop (mkF m 78 #[iv 4, iv p0, iv p1, iv p2, iv p3] [(.int p3), (.int 3), (.ref b1), (.ref b1)])) (fun t k => ?_) ?_
  · show own_S p e below T4 (mkF m 74 #[iv 4, iv p0, iv p1, iv p2, iv p3] [(.ref b1)]) _
    refine XS.dup X4.here hx rfl (hb hby d2_74) rfl rfl ?_
    refine XS.iconst X4.here hx rfl (hb hby d2_75) ?_
    refine XS.iload X4.here hx rfl (hb hby d2_76) rfl ?_
    exact k
  obtain ⟨cl5, Ar5, qk5, S5, M5, H5, G5⟩ := id V4
  obtain ⟨T5, h5, X5, e5, W5, st5⟩ := stC X4 hx hZ e4 Ar5 (j := (3 : Int32)) (inb_of S5 ⟨by decide, by decide⟩) (g := (mkF m 78 #[iv 4, iv p0, iv p1, iv p2, iv p3] [(.int p3), (.int 3), (.ref b1), (.ref b1)])) rfl rfl (hb hby d2_78)
  have V5 : Arv Z h5 b1 k1 .char (4 : Int32) [(.int (nar .char p0)), (.int (nar .char p1)), (.int (nar .char p2)), (.int (nar .char p3))] (.int (0 : Int32)) := Arv.set Ar5 qk5 S5 M5 H5 G5 (fits_nar_char _) W5 3 rfl (Nat.le_of_ble_eq_true rfl)
  have K5 := K4.wr W5 (Or.inr sz_b1)
  have N5 := Fr.snoc X5 N4 g_b1
  refine own_go (B := T5.setTop (mkF m 79 #[iv 4, iv p0, iv p1, iv p2, iv p3] [(.ref b1)])) (fun t k => st5 _ k) ?_
  obtain ⟨fs, hr, hrun, hended, hW, hsame⟩ := X5.leave (v := some (.ref b1)) (fun h => by rw [Bd.returns] at h; cases h)
  refine ⟨_, _, ?_, hrun, hended, _, _, rfl, ?_, ⟨_, rfl⟩, hW, hsame.mono (by decide) (by decide)⟩
  · show own_S p e below T5 (mkF m 79 #[iv 4, iv p0, iv p1, iv p2, iv p3] [(.ref b1)]) _
    jvm_step X5.here [X5.here.top, hx, (hb hby d2_79), X5.method', Bd.returns, Value.isRef, FieldType.isReference]
    first | (intro acts; rw [hr _ acts rfl rfl rfl]) | rw [hr _ _ rfl rfl rfl]
    exact Steps.refl _
  · show Q2_4 Z p0 p1 p2 p3 h0 n0 _ T5.heap _
    rw [e5]
    exact ⟨b1, k1, rfl, N5, K5, sz_b1, g_b1, (by have q := V5; rw [hn0, hn1, hn2, hn3] at q; exact q)⟩
theorem pn_6 : plainName "com/example/arcas/arcas/http/RequestLine" = true := by first | (simp [plainName, overriddenIn]; done) | decide +kernel
theorem d6_0 : decode prog_21_method_6_code 0 = .ok (.aload_n 0, 1) := by decide +kernel
theorem d6_1 : decode prog_21_method_6_code 1 = .ok (.bipush 63, 2) := by decide +kernel
theorem d6_3 : decode prog_21_method_6_code 3 = .ok (.invokevirtual 64, 3) := by decide +kernel
theorem d6_6 : decode prog_21_method_6_code 6 = .ok (.istore_n 1, 1) := by decide +kernel
theorem d6_7 : decode prog_21_method_6_code 7 = .ok (.iload_n 1, 1) := by decide +kernel
theorem d6_8 : decode prog_21_method_6_code 8 = .ok (.ifCond .ge 8, 3) := by decide +kernel
theorem d6_11 : decode prog_21_method_6_code 11 = .ok (.ldc 42, 2) := by decide +kernel
theorem d6_13 : decode prog_21_method_6_code 13 = .ok (.goto 10, 3) := by decide +kernel
theorem d6_23 : decode prog_21_method_6_code 23 = .ok (.areturn, 1) := by decide +kernel
theorem ef_6 (m : MethodId) (x0 : Addr) : entryFrame m #[(.ref x0)] 2 = mkF m 0 #[.val (.ref x0), .unset] [] := by first | (simp [entryFrame, mkF, argsToLocals, Value.category]; done) | rfl
def Q6n (Z : State) (a1 : Addr) (r1 : Int32) (h0 : Heap) (n0 : Nat) (v : Option Value) (h : Heap) (L : List Loc) : Prop := own_QS Z (0 : Int32) [] h0 n0 v h L
set_option maxRecDepth 65536 in
set_option maxHeartbeats 40000000 in
theorem rm6n (l : Launch) (Z : State) (a0 : Array Value) (hw : ∀ d ∈ tables_1, d.before a0 Z = true) (ws : List Jvm.Cond) (a1 : Addr) (r1 : Int32) (h0 : Heap) (n0 : Nat) (Z0 : n0 ≤ h0.size) (E_a1 : Exa Z h0 a1 "java/lang/String") (hM7 : MetFree l own_y26 (head1 (Jvm.Cond.code own_y26 jdk_42_method_79_code 2 (some .int) :: []) ({ frames := 3, cells := 0, slots := 0, locals := 46 } : Room)) (fun a U => a = #[(.ref a1), (.int 63)] ∧ Z.Warmed39 U.vm ∧ U.heap = h0) (fun _ _ _ _ _ => True) (fun _ U o U' => ∃ v L, o = .returned v ∧ own_QI r1 h0 n0 v U'.heap L ∧ FrameEnd U o U' L ({ frames := 3, cells := 0, slots := 0, locals := 46 } : Room).cells ({ frames := 3, cells := 0, slots := 0, locals := 46 } : Room).slots)) (hr : r1 < (0 : Int32)) :
    MetFree l own_y30 (head1 (Jvm.Cond.code own_y30 prog_21_method_6_code 2 (some (.object "java/lang/String")) :: ws) ({ frames := 6, cells := 2, slots := 8, locals := 93 } : Room)) (fun a U => a = #[(.ref a1)] ∧ Z.Warmed39 U.vm ∧ U.heap = h0 ∧ CHv Z consts_1 U.vm h0) (fun _ _ _ _ _ => True) (fun _ U o U' => ∃ v L, o = .returned v ∧ Q6n Z a1 r1 h0 n0 v U'.heap L ∧ CHr Z consts_1 U.vm U.heap U'.vm U'.heap ∧ ReturnedEndW U o U' L ({ frames := 6, cells := 2, slots := 8, locals := 93 } : Room).cells ({ frames := 6, cells := 2, slots := 8, locals := 93 } : Room).slots) := by
  refine MetFree.of_bodySF (plainFor_of_name pn_6) hisR ?_
  intro p e s m args below meth c s₁ Bd hml0 hP hK
  obtain ⟨rfl, hZ, hh, hCH⟩ := hP
  have hx := Bd.exec
  have hby := Bd.bytes
  have hml : c.maxLocals = 2 := hml0
  have hown : s.vm.findClass "com/example/arcas/arcas/http/RequestLine" = some m.cls := findClass_of_methodNamed Bd.named
  have hnm := (name_of_methodNamed Bd.named Bd.method).1
  have X0 : Stand p l e ({ frames := 6, cells := 2, slots := 8, locals := 93 } : Room) s m #[(.ref a1)] below meth c s₁ [] 0 0 := Stand.of_body Bd
  have e0 : s₁.heap = h0 := by rw [← hh, Bd.state]; rfl
  have N0 := Fr.nil n0
  have X0 : Stand p l e ({ frames := 6, cells := 2, slots := 8, locals := 93 } : Room) (s.setVm s.vm) m #[(.ref a1)] below meth c s₁ [] 0 0 := X0
  have hZ : Z.Warmed39 (s.setVm s.vm).vm := hZ
  have hown : (s.setVm s.vm).vm.findClass "com/example/arcas/arcas/http/RequestLine" = some m.cls := hown
  have hS : s.Since s.vm 0 := (State.WarmedH.refl s).since 0
  refine own_go (B := s₁.setTop (mkF m 0 #[rv a1, .unset] [])) (fun t k => castTop (ef_6 m a1) k) ?_
  refine own_go (B := s₁.setTop (mkF m 3 #[rv a1, .unset] [(.int 63), (.ref a1)])) (fun t k => ?_) ?_
  · show own_S p e below s₁ (mkF m 0 #[rv a1, .unset] []) _
    refine XS.aloadN X0.here hx rfl (hb hby d6_0) rfl rfl ?_
    refine XS.bipush X0.here hx rfl (hb hby d6_1) ?_
    exact k
  obtain ⟨cq1, kq1, q1a, q1b, q1c⟩ := isOf hZ e0 E_a1
  obtain ⟨_, _, ⟨T1, L1, k1, n1⟩, -, X1, ⟨Lc1, hQ1, l1, y1, z1⟩, st1⟩ := X0.virtualBack hx (y := own_y26) (z := own_y26) hown (mvT hZ (own_w hw 34 rfl)) (mvT hZ (own_w hw 35 rfl)) (notFace_of_selects (args := #[]) (mvT hZ (own_w hw 37 rfl))) (mvT hZ (own_w hw 37 rfl)) (mvT hZ (own_w hw 36 rfl)) (by decide) (backOf (W := 0) (hM7) hZ (own_w hw 38 rfl) (own_w hw 11 rfl) (by decide) (by decide)) q1a q1c (g := (mkF m 3 #[rv a1, .unset] [(.int 63), (.ref a1)])) rfl (by rw [hml]; rfl) (Steps.refl _) (argsL := [(.int 63)]) (rest := []) (lenOf own_pd19 rfl) rfl (by show 2 * 0 + _ ≤ _; exact Nat.le_of_eq rfl) (hb hby d6_3) (fun _ _ => ⟨rfl, e0, (by decide : 0 + 0 ≤ _), (by decide : 0 + 0 ≤ _)⟩)
  dsimp only [Pt.U, Pt.locs, Pt.cells, Pt.slots] at X1 l1 y1 z1 st1 hQ1
  subst l1 y1 z1
  obtain ⟨rfl, N1q, eq1⟩ := hQ1
  have N1 := Fr.app N0 N1q
  refine own_go (B := T1.setTop (mkF m 6 #[rv a1, .unset] [(.int r1)])) (fun t k => st1.trans k) ?_
  refine own_go (B := T1.setTop (mkF m 11 #[rv a1, iv r1] [])) (fun t k => ?_) ?_
  · show own_S p e below T1 (mkF m 6 #[rv a1, .unset] [(.int r1)]) _
    refine XS.istoreN X1.here hx rfl (hb hby d6_6) rfl (l' := #[rv a1, iv r1]) rfl ?_
    refine XS.iloadN X1.here hx rfl (hb hby d6_7) rfl ?_
    refine XS.ifNo X1.here hx rfl (hb hby d6_8) rfl ((if0 _ _).trans (tlt hr).2.1) ?_
    exact k
  obtain ⟨as2, T2, h2, kk2, bs2, ks2, X2, e2, E2, hS, hk2, hZ, hown, LE2, LC2, LV2, LA2, la2, lb2, hC2, hL2, hSf2, st2⟩ := ldcCH (EL := consts_1) X1 hx hZ hown (own_w hw 74 rfl) (own_wS hw) eq1 hS (Nat.zero_le _) (own_hEL hw) (by decide) (CHr.refl hCH).1 (z := (0 : Int32)) own_ht0 (by decide) rfl (g := (mkF m 11 #[rv a1, iv r1] [])) rfl (hb hby d6_11) (n := 0) (by decide) (by decide) (by decide) (by decide)
  have Ch2 := (CHr.refl hCH).trans hC2
  have c2_E_a1 := E_a1.ext E2
  have K2 := (Keep.refl h0 []).ext E2
  refine own_go (B := T2.setTop (mkF m 13 #[rv a1, iv r1] [(.ref as2)])) (fun t k => st2 _ k) ?_
  obtain ⟨fs, hr, hrun, hended, hRW⟩ := X2.leaveW hS (by rw [e2]; exact hk2) (v := some (.ref as2)) (fun h => by rw [Bd.returns] at h; cases h)
  refine ⟨_, _, ?_, hrun, hended, _, _, rfl, ?_, (by have q := (Ch2).trans (CHv.at X2 hZ (own_hEL hw) (Ch2).1); rw [← hh, ← e2] at q; exact q), hRW.1, hRW.2.1, hRW.2.2.1, hRW.2.2.2.mono (by decide) (by decide)⟩
  · show own_S p e below T2 (mkF m 13 #[rv a1, iv r1] [(.ref as2)]) _
    refine XS.goto X2.here hx rfl (pc0 := 13) (pc' := 23) rfl (hb hby d6_13) (by decide) (by decide) ?_
    show own_S p e below T2 (mkF m 23 #[rv a1, iv r1] [(.ref as2)]) _
    jvm_step X2.here [X2.here.top, hx, (hb hby d6_23), X2.method', Bd.returns, Value.isRef, FieldType.isReference]
    first | (intro acts; rw [hr _ acts rfl rfl rfl]) | rw [hr _ _ rfl rfl rfl]
    exact Steps.refl _
  · show Q6n Z a1 r1 h0 n0 _ T2.heap _
    rw [e2]
    exact ⟨as2, bs2, ks2, rfl, N1, K2, LE2, LC2, LV2, LA2⟩
theorem d6_16 : decode prog_21_method_6_code 16 = .ok (.aload_n 0, 1) := by decide +kernel
theorem d6_17 : decode prog_21_method_6_code 17 = .ok (.iload_n 1, 1) := by decide +kernel
theorem d6_18 : decode prog_21_method_6_code 18 = .ok (.iconst 1, 1) := by decide +kernel
theorem d6_19 : decode prog_21_method_6_code 19 = .ok (.iadd, 1) := by decide +kernel
theorem d6_20 : decode prog_21_method_6_code 20 = .ok (.invokevirtual 73, 3) := by decide +kernel
def Q6y (Z : State) (a1 : Addr) (r1 : Int32) (m1 : Int32) (us : List Value) (h0 : Heap) (n0 : Nat) (v : Option Value) (h : Heap) (L : List Loc) : Prop := own_QS Z m1 us h0 n0 v h L
set_option maxRecDepth 65536 in
set_option maxHeartbeats 40000000 in
theorem rm6y (l : Launch) (Z : State) (a0 : Array Value) (hw : ∀ d ∈ tables_1, d.before a0 Z = true) (ws : List Jvm.Cond) (a1 : Addr) (r1 : Int32) (m1 : Int32) (us : List Value) (h0 : Heap) (n0 : Nat) (Z0 : n0 ≤ h0.size) (E_a1 : Exa Z h0 a1 "java/lang/String") (hM7 : MetFree l own_y26 (head1 (Jvm.Cond.code own_y26 jdk_42_method_79_code 2 (some .int) :: []) ({ frames := 3, cells := 0, slots := 0, locals := 46 } : Room)) (fun a U => a = #[(.ref a1), (.int 63)] ∧ Z.Warmed39 U.vm ∧ U.heap = h0) (fun _ _ _ _ _ => True) (fun _ U o U' => ∃ v L, o = .returned v ∧ own_QI r1 h0 n0 v U'.heap L ∧ FrameEnd U o U' L ({ frames := 3, cells := 0, slots := 0, locals := 46 } : Room).cells ({ frames := 3, cells := 0, slots := 0, locals := 46 } : Room).slots)) (hr : ¬ r1 < (0 : Int32)) (hM21 : MetFree l own_y23 (head1 (Jvm.Cond.code own_y23 jdk_42_method_91_code 2 (some (.object "java/lang/String")) :: []) ({ frames := 5, cells := 2, slots := 8, locals := 80 } : Room)) (fun a U => a = #[(.ref a1), (.int (r1 + (1 : Int32)))] ∧ Z.Warmed39 U.vm ∧ U.heap = h0) (fun _ _ _ _ _ => True) (fun _ U o U' => ∃ v L, o = .returned v ∧ own_QS Z m1 us h0 n0 v U'.heap L ∧ FrameEnd U o U' L ({ frames := 5, cells := 2, slots := 8, locals := 80 } : Room).cells ({ frames := 5, cells := 2, slots := 8, locals := 80 } : Room).slots)) :
    MetFree l own_y30 (head1 (Jvm.Cond.code own_y30 prog_21_method_6_code 2 (some (.object "java/lang/String")) :: ws) ({ frames := 6, cells := 2, slots := 8, locals := 93 } : Room)) (fun a U => a = #[(.ref a1)] ∧ Z.Warmed39 U.vm ∧ U.heap = h0) (fun _ _ _ _ _ => True) (fun _ U o U' => ∃ v L, o = .returned v ∧ Q6y Z a1 r1 m1 us h0 n0 v U'.heap L ∧ FrameEnd U o U' L ({ frames := 6, cells := 2, slots := 8, locals := 93 } : Room).cells ({ frames := 6, cells := 2, slots := 8, locals := 93 } : Room).slots) := by
  refine MetFree.of_bodySF (plainFor_of_name pn_6) hisR ?_
  intro p e s m args below meth c s₁ Bd hml0 hP hK
  obtain ⟨rfl, hZ, hh⟩ := hP
  have hx := Bd.exec
  have hby := Bd.bytes
  have hml : c.maxLocals = 2 := hml0
  have hown : s.vm.findClass "com/example/arcas/arcas/http/RequestLine" = some m.cls := findClass_of_methodNamed Bd.named
  have hnm := (name_of_methodNamed Bd.named Bd.method).1
  have X0 : Stand p l e ({ frames := 6, cells := 2, slots := 8, locals := 93 } : Room) s m #[(.ref a1)] below meth c s₁ [] 0 0 := Stand.of_body Bd
  have e0 : s₁.heap = h0 := by rw [← hh, Bd.state]; rfl
  have N0 := Fr.nil n0
  refine own_go (B := s₁.setTop (mkF m 0 #[rv a1, .unset] [])) (fun t k => castTop (ef_6 m a1) k) ?_
  refine own_go (B := s₁.setTop (mkF m 3 #[rv a1, .unset] [(.int 63), (.ref a1)])) (fun t k => ?_) ?_
  · show own_S p e below s₁ (mkF m 0 #[rv a1, .unset] []) _
    refine XS.aloadN X0.here hx rfl (hb hby d6_0) rfl rfl ?_
    refine XS.bipush X0.here hx rfl (hb hby d6_1) ?_
    exact k
  obtain ⟨cq1, kq1, q1a, q1b, q1c⟩ := isOf hZ e0 E_a1
  obtain ⟨_, _, ⟨T1, L1, k1, n1⟩, -, X1, ⟨Lc1, hQ1, l1, y1, z1⟩, st1⟩ := X0.virtualBack hx (y := own_y26) (z := own_y26) hown (mvT hZ (own_w hw 34 rfl)) (mvT hZ (own_w hw 35 rfl)) (notFace_of_selects (args := #[]) (mvT hZ (own_w hw 37 rfl))) (mvT hZ (own_w hw 37 rfl)) (mvT hZ (own_w hw 36 rfl)) (by decide) (backOf (W := 0) (hM7) hZ (own_w hw 38 rfl) (own_w hw 11 rfl) (by decide) (by decide)) q1a q1c (g := (mkF m 3 #[rv a1, .unset] [(.int 63), (.ref a1)])) rfl (by rw [hml]; rfl) (Steps.refl _) (argsL := [(.int 63)]) (rest := []) (lenOf own_pd19 rfl) rfl (by show 2 * 0 + _ ≤ _; exact Nat.le_of_eq rfl) (hb hby d6_3) (fun _ _ => ⟨rfl, e0, (by decide : 0 + 0 ≤ _), (by decide : 0 + 0 ≤ _)⟩)
  dsimp only [Pt.U, Pt.locs, Pt.cells, Pt.slots] at X1 l1 y1 z1 st1 hQ1
  subst l1 y1 z1
  obtain ⟨rfl, N1q, eq1⟩ := hQ1
  have N1 := Fr.app N0 N1q
  refine own_go (B := T1.setTop (mkF m 6 #[rv a1, .unset] [(.int r1)])) (fun t k => st1.trans k) ?_
  refine own_go (B := T1.setTop (mkF m 20 #[rv a1, iv r1] [(.int (r1 + (1 : Int32))), (.ref a1)])) (fun t k => ?_) ?_
  · show own_S p e below T1 (mkF m 6 #[rv a1, .unset] [(.int r1)]) _
    refine XS.istoreN X1.here hx rfl (hb hby d6_6) rfl (l' := #[rv a1, iv r1]) rfl ?_
    refine XS.iloadN X1.here hx rfl (hb hby d6_7) rfl ?_
    refine XS.ifYes X1.here hx rfl (pc0 := 8) (pc' := 16) rfl (hb hby d6_8) rfl ((if0 _ _).trans (flt hr).2.1) (by decide) (by decide) ?_
    show own_S p e below T1 (mkF m 16 #[rv a1, iv r1] []) _
    refine XS.aloadN X1.here hx rfl (hb hby d6_16) rfl rfl ?_
    refine XS.iloadN X1.here hx rfl (hb hby d6_17) rfl ?_
    refine XS.iconst X1.here hx rfl (hb hby d6_18) ?_
    show own_S p e below T1 (mkF m 19 #[rv a1, iv r1] [(.int 1), (.int r1), (.ref a1)]) _
    refine XS.iadd X1.here hx rfl (hb hby d6_19) rfl ?_
    exact k
  obtain ⟨cq2, kq2, q2a, q2b, q2c⟩ := isOf hZ eq1 E_a1
  obtain ⟨_, _, ⟨T2, L2, k2, n2⟩, -, X2, ⟨Lc2, hQ2, l2, y2, z2⟩, st2⟩ := X1.virtualBack hx (y := own_y23) (z := own_y23) hown (mvT hZ (own_w hw 92 rfl)) (mvT hZ (own_w hw 93 rfl)) (notFace_of_selects (args := #[]) (mvT hZ (own_w hw 95 rfl))) (mvT hZ (own_w hw 95 rfl)) (mvT hZ (own_w hw 94 rfl)) (by decide) (backOf (W := 0) (hM21) hZ (own_w hw 96 rfl) (own_w hw 11 rfl) (by decide) (by decide)) q2a q2c (g := (mkF m 20 #[rv a1, iv r1] [(.int (r1 + (1 : Int32))), (.ref a1)])) rfl (by rw [hml]; rfl) (Steps.refl _) (argsL := [(.int (r1 + (1 : Int32)))]) (rest := []) (lenOf own_pd20 rfl) rfl (by show 2 * 0 + _ ≤ _; exact Nat.le_of_eq rfl) (hb hby d6_20) (fun _ _ => ⟨rfl, eq1, (by decide : 0 + 2 ≤ _), (by decide : 0 + 8 ≤ _)⟩)
  dsimp only [Pt.U, Pt.locs, Pt.cells, Pt.slots] at X2 l2 y2 z2 st2 hQ2
  subst l2 y2 z2
  obtain ⟨aq2, bq2, kq2, rfl, N2q, K2q, E2q, F2c, F2v, V2q⟩ := hQ2
  have N2 := Fr.app N1 N2q
  have c2_E_a1 := E_a1.keep K2q
  have K2 := (Keep.refl h0 []).trans K2q all0
  refine own_go (B := T2.setTop (mkF m 23 #[rv a1, iv r1] [(.ref aq2)])) (fun t k => st2.trans k) ?_
  obtain ⟨fs, hr, hrun, hended, hW, hsame⟩ := X2.leave (v := some (.ref aq2)) (fun h => by rw [Bd.returns] at h; cases h)
  refine ⟨_, _, ?_, hrun, hended, _, _, rfl, ?_, ⟨_, rfl⟩, hW, hsame.mono (by decide) (by decide)⟩
  · show own_S p e below T2 (mkF m 23 #[rv a1, iv r1] [(.ref aq2)]) _
    jvm_step X2.here [X2.here.top, hx, (hb hby d6_23), X2.method', Bd.returns, Value.isRef, FieldType.isReference]
    first | (intro acts; rw [hr _ acts rfl rfl rfl]) | rw [hr _ _ rfl rfl rfl]
    exact Steps.refl _
  · show Q6y Z a1 r1 m1 us h0 n0 _ T2.heap _
    exact ⟨aq2, bq2, kq2, rfl, N2, K2, E2q, F2c, F2v, V2q⟩
def Q6yh (Z : State) (a1 : Addr) (r1 : Int32) (m1 : Int32) (us : List Value) (h0 : Heap) (n0 : Nat) (v : Option Value) (h : Heap) (L : List Loc) : Prop := own_QS Z m1 us h0 n0 v h L
set_option maxRecDepth 65536 in
set_option maxHeartbeats 40000000 in
theorem rm6yh (l : Launch) (Z : State) (a0 : Array Value) (hw : ∀ d ∈ tables_1, d.before a0 Z = true) (ws : List Jvm.Cond) (a1 : Addr) (r1 : Int32) (m1 : Int32) (us : List Value) (h0 : Heap) (n0 : Nat) (Z0 : n0 ≤ h0.size) (E_a1 : Exa Z h0 a1 "java/lang/String") (hM7 : MetFree l own_y26 (head1 (Jvm.Cond.code own_y26 jdk_42_method_79_code 2 (some .int) :: []) ({ frames := 3, cells := 0, slots := 0, locals := 46 } : Room)) (fun a U => a = #[(.ref a1), (.int 63)] ∧ Z.Warmed39 U.vm ∧ U.heap = h0) (fun _ _ _ _ _ => True) (fun _ U o U' => ∃ v L, o = .returned v ∧ own_QI r1 h0 n0 v U'.heap L ∧ FrameEnd U o U' L ({ frames := 3, cells := 0, slots := 0, locals := 46 } : Room).cells ({ frames := 3, cells := 0, slots := 0, locals := 46 } : Room).slots)) (hr : ¬ r1 < (0 : Int32)) (hM21 : MetFree l own_y23 (head1 (Jvm.Cond.code own_y23 jdk_42_method_91_code 2 (some (.object "java/lang/String")) :: []) ({ frames := 5, cells := 2, slots := 4, locals := 80 } : Room)) (fun a U => a = #[(.ref a1), (.int (r1 + (1 : Int32)))] ∧ Z.Warmed39 U.vm ∧ U.heap = h0 ∧ CHv Z consts_1 U.vm h0) (fun _ _ _ _ _ => True) (fun _ U o U' => ∃ v L, o = .returned v ∧ own_QS Z m1 us h0 n0 v U'.heap L ∧ CHr Z consts_1 U.vm U.heap U'.vm U'.heap ∧ ReturnedEndW U o U' L ({ frames := 5, cells := 2, slots := 4, locals := 80 } : Room).cells ({ frames := 5, cells := 2, slots := 4, locals := 80 } : Room).slots)) :
    MetFree l own_y30 (head1 (Jvm.Cond.code own_y30 prog_21_method_6_code 2 (some (.object "java/lang/String")) :: ws) ({ frames := 6, cells := 2, slots := 8, locals := 93 } : Room)) (fun a U => a = #[(.ref a1)] ∧ Z.Warmed39 U.vm ∧ U.heap = h0 ∧ CHv Z consts_1 U.vm h0) (fun _ _ _ _ _ => True) (fun _ U o U' => ∃ v L, o = .returned v ∧ Q6yh Z a1 r1 m1 us h0 n0 v U'.heap L ∧ CHr Z consts_1 U.vm U.heap U'.vm U'.heap ∧ ReturnedEndW U o U' L ({ frames := 6, cells := 2, slots := 8, locals := 93 } : Room).cells ({ frames := 6, cells := 2, slots := 8, locals := 93 } : Room).slots) := by
  refine MetFree.of_bodySF (plainFor_of_name pn_6) hisR ?_
  intro p e s m args below meth c s₁ Bd hml0 hP hK
  obtain ⟨rfl, hZ, hh, hCH⟩ := hP
  have hx := Bd.exec
  have hby := Bd.bytes
  have hml : c.maxLocals = 2 := hml0
  have hown : s.vm.findClass "com/example/arcas/arcas/http/RequestLine" = some m.cls := findClass_of_methodNamed Bd.named
  have hnm := (name_of_methodNamed Bd.named Bd.method).1
  have X0 : Stand p l e ({ frames := 6, cells := 2, slots := 8, locals := 93 } : Room) s m #[(.ref a1)] below meth c s₁ [] 0 0 := Stand.of_body Bd
  have e0 : s₁.heap = h0 := by rw [← hh, Bd.state]; rfl
  have N0 := Fr.nil n0
  have X0 : Stand p l e ({ frames := 6, cells := 2, slots := 8, locals := 93 } : Room) (s.setVm s.vm) m #[(.ref a1)] below meth c s₁ [] 0 0 := X0
  have hZ : Z.Warmed39 (s.setVm s.vm).vm := hZ
  have hown : (s.setVm s.vm).vm.findClass "com/example/arcas/arcas/http/RequestLine" = some m.cls := hown
  have hS : s.Since s.vm 0 := (State.WarmedH.refl s).since 0
  refine own_go (B := s₁.setTop (mkF m 0 #[rv a1, .unset] [])) (fun t k => castTop (ef_6 m a1) k) ?_
  refine own_go (B := s₁.setTop (mkF m 3 #[rv a1, .unset] [(.int 63), (.ref a1)])) (fun t k => ?_) ?_
  · show own_S p e below s₁ (mkF m 0 #[rv a1, .unset] []) _
    refine XS.aloadN X0.here hx rfl (hb hby d6_0) rfl rfl ?_
    refine XS.bipush X0.here hx rfl (hb hby d6_1) ?_
    exact k
  obtain ⟨cq1, kq1, q1a, q1b, q1c⟩ := isOf hZ e0 E_a1
  obtain ⟨_, _, ⟨T1, L1, k1, n1⟩, -, X1, ⟨Lc1, hQ1, l1, y1, z1⟩, st1⟩ := X0.virtualBack hx (y := own_y26) (z := own_y26) hown (mvT hZ (own_w hw 34 rfl)) (mvT hZ (own_w hw 35 rfl)) (notFace_of_selects (args := #[]) (mvT hZ (own_w hw 37 rfl))) (mvT hZ (own_w hw 37 rfl)) (mvT hZ (own_w hw 36 rfl)) (by decide) (backOf (W := 0) (hM7) hZ (own_w hw 38 rfl) (own_w hw 11 rfl) (by decide) (by decide)) q1a q1c (g := (mkF m 3 #[rv a1, .unset] [(.int 63), (.ref a1)])) rfl (by rw [hml]; rfl) (Steps.refl _) (argsL := [(.int 63)]) (rest := []) (lenOf own_pd19 rfl) rfl (by show 2 * 0 + _ ≤ _; exact Nat.le_of_eq rfl) (hb hby d6_3) (fun _ _ => ⟨rfl, e0, (by decide : 0 + 0 ≤ _), (by decide : 0 + 0 ≤ _)⟩)
  dsimp only [Pt.U, Pt.locs, Pt.cells, Pt.slots] at X1 l1 y1 z1 st1 hQ1
  subst l1 y1 z1
  obtain ⟨rfl, N1q, eq1⟩ := hQ1
  have N1 := Fr.app N0 N1q
  refine own_go (B := T1.setTop (mkF m 6 #[rv a1, .unset] [(.int r1)])) (fun t k => st1.trans k) ?_
  refine own_go (B := T1.setTop (mkF m 20 #[rv a1, iv r1] [(.int (r1 + (1 : Int32))), (.ref a1)])) (fun t k => ?_) ?_
  · show own_S p e below T1 (mkF m 6 #[rv a1, .unset] [(.int r1)]) _
    refine XS.istoreN X1.here hx rfl (hb hby d6_6) rfl (l' := #[rv a1, iv r1]) rfl ?_
    refine XS.iloadN X1.here hx rfl (hb hby d6_7) rfl ?_
    refine XS.ifYes X1.here hx rfl (pc0 := 8) (pc' := 16) rfl (hb hby d6_8) rfl ((if0 _ _).trans (flt hr).2.1) (by decide) (by decide) ?_
    show own_S p e below T1 (mkF m 16 #[rv a1, iv r1] []) _
    refine XS.aloadN X1.here hx rfl (hb hby d6_16) rfl rfl ?_
    refine XS.iloadN X1.here hx rfl (hb hby d6_17) rfl ?_
    refine XS.iconst X1.here hx rfl (hb hby d6_18) ?_
    show own_S p e below T1 (mkF m 19 #[rv a1, iv r1] [(.int 1), (.int r1), (.ref a1)]) _
    refine XS.iadd X1.here hx rfl (hb hby d6_19) rfl ?_
    exact k
  have Ch2p := CHr.refl hCH
  obtain ⟨cq2, kq2, q2a, q2b, q2c⟩ := isOf hZ eq1 E_a1
  obtain ⟨_, _, ⟨T2, L2, k2, n2⟩, -, X2, hS2, hg2, ⟨Lc2, hQ2, l2, y2, z2, hCr2⟩, st2⟩ := X1.virtualBackS hx (y := own_y23) (z := own_y23) hown (mvT hZ (own_w hw 92 rfl)) (mvT hZ (own_w hw 93 rfl)) (notFace_of_selects (args := #[]) (mvT hZ (own_w hw 95 rfl))) (mvT hZ (own_w hw 95 rfl)) (mvT hZ (own_w hw 94 rfl)) (by decide) (backOfSH (W := 0) (hM21) hZ (own_w hw 96 rfl) (own_w hw 11 rfl) (by decide) (by decide) (own_hEL hw) Ch2p.1) q2a q2c (g := (mkF m 20 #[rv a1, iv r1] [(.int (r1 + (1 : Int32))), (.ref a1)])) rfl (by rw [hml]; rfl) (Steps.refl _) (argsL := [(.int (r1 + (1 : Int32)))]) (rest := []) (lenOf own_pd20 rfl) rfl (by show 2 * 0 + _ ≤ _; exact Nat.le_of_eq rfl) (hb hby d6_20) (fun _ _ => ⟨rfl, eq1, (by decide : 0 + 2 ≤ _), (by decide : 0 + 4 ≤ _)⟩)
  dsimp only [Pt.U, Pt.locs, Pt.cells, Pt.slots] at X2 l2 y2 z2 st2 hQ2 hS2 hg2 hCr2
  subst l2 y2 z2
  have hS := hS.trans hS2 (Nat.le_trans (Nat.zero_le _) (Nat.le_trans (Nat.le_of_eq (congrArg Array.size eq1.symm)) hg2))
  have hZ : Z.Warmed39 (s.setVm T2.vm).vm := State.Warmed39.trans hZ hS2.1
  have hown : (s.setVm T2.vm).vm.findClass "com/example/arcas/arcas/http/RequestLine" = some m.cls := (hS2.1.alike.findClass _ _).trans hown
  obtain ⟨aq2, bq2, kq2, rfl, N2q, K2q, E2q, F2c, F2v, V2q⟩ := hQ2
  have N2 := Fr.app N1 N2q
  have c2_E_a1 := E_a1.keep K2q
  have K2 := (Keep.refl h0 []).trans K2q all0
  have Ch2 := Ch2p.trans hCr2
  refine own_go (B := T2.setTop (mkF m 23 #[rv a1, iv r1] [(.ref aq2)])) (fun t k => st2.trans k) ?_
  obtain ⟨fs, hr, hrun, hended, hRW⟩ := X2.leaveW hS ((Nat.le_refl _)) (v := some (.ref aq2)) (fun h => by rw [Bd.returns] at h; cases h)
  refine ⟨_, _, ?_, hrun, hended, _, _, rfl, ?_, (by have q := (Ch2).trans (CHv.at X2 hZ (own_hEL hw) (Ch2).1); rw [← hh] at q; exact q), hRW.1, hRW.2.1, hRW.2.2.1, hRW.2.2.2.mono (by decide) (by decide)⟩
  · show own_S p e below T2 (mkF m 23 #[rv a1, iv r1] [(.ref aq2)]) _
    jvm_step X2.here [X2.here.top, hx, (hb hby d6_23), X2.method', Bd.returns, Value.isRef, FieldType.isReference]
    first | (intro acts; rw [hr _ acts rfl rfl rfl]) | rw [hr _ _ rfl rfl rfl]
    exact Steps.refl _
  · show Q6yh Z a1 r1 m1 us h0 n0 _ T2.heap _
    exact ⟨aq2, bq2, kq2, rfl, N2, K2, E2q, F2c, F2v, V2q⟩
theorem pn_16 : plainName "com/example/arcas/arcas/http/RequestLineQueryPinLaw" = true := by first | (simp [plainName, overriddenIn]; done) | decide +kernel
theorem d16_0 : decode method_4_code 0 = .ok (.iload_n 1, 1) := by decide +kernel
theorem d16_1 : decode method_4_code 1 = .ok (.iload 4, 2) := by decide +kernel
theorem d16_3 : decode method_4_code 3 = .ok (.if_icmp .ge 16, 3) := by decide +kernel
theorem d16_6 : decode method_4_code 6 = .ok (.aload_n 0, 1) := by decide +kernel
theorem d16_7 : decode method_4_code 7 = .ok (.iload_n 1, 1) := by decide +kernel
theorem d16_8 : decode method_4_code 8 = .ok (.invokevirtual 7, 3) := by decide +kernel
theorem d16_11 : decode method_4_code 11 = .ok (.aload_n 2, 1) := by decide +kernel
theorem d16_12 : decode method_4_code 12 = .ok (.iload_n 3, 1) := by decide +kernel
theorem d16_13 : decode method_4_code 13 = .ok (.iload_n 1, 1) := by decide +kernel
theorem d16_14 : decode method_4_code 14 = .ok (.iadd, 1) := by decide +kernel
theorem d16_15 : decode method_4_code 15 = .ok (.caload, 1) := by decide +kernel
theorem d16_16 : decode method_4_code 16 = .ok (.if_icmp .ne 7, 3) := by decide +kernel
theorem d16_19 : decode method_4_code 19 = .ok (.iconst 1, 1) := by decide +kernel
theorem d16_20 : decode method_4_code 20 = .ok (.goto 4, 3) := by decide +kernel
theorem d16_24 : decode method_4_code 24 = .ok (.ireturn, 1) := by decide +kernel
theorem ef_16 (m : MethodId) (x0 : Addr) (x1 : Int32) (x2 : Addr) (x3 : Int32) (x4 : Int32) : entryFrame m #[(.ref x0), (.int x1), (.ref x2), (.int x3), (.int x4)] 5 = mkF m 0 #[.val (.ref x0), .val (.int x1), .val (.ref x2), .val (.int x3), .val (.int x4)] [] := by first | (simp [entryFrame, mkF, argsToLocals, Value.category]; done) | rfl
def Q16 (Z : State) (a1 : Addr) (p2 : Int32) (a3 : Addr) (p4 : Int32) (p5 : Int32) (sb1 : Addr) (ka : ClassId) (vs : List Value) (kc : ClassId) (zc : Int32) (us : List Value) (GC : Int32) (GF : Value) (h0 : Heap) (n0 : Nat) (v : Option Value) (h : Heap) (L : List Loc) : Prop := v = some (.int (1 : Int32)) ∧ Fr n0 L ∧ h = h0
set_option maxRecDepth 65536 in
set_option maxHeartbeats 40000000 in
theorem rm16 (l : Launch) (Z : State) (a0 : Array Value) (hw : ∀ d ∈ tables_1, d.before a0 Z = true) (ws : List Jvm.Cond) (a1 : Addr) (p2 : Int32) (a3 : Addr) (p4 : Int32) (p5 : Int32) (sb1 : Addr) (ka : ClassId) (vs : List Value) (kc : ClassId) (zc : Int32) (us : List Value) (GC : Int32) (GF : Value) (h0 : Heap) (n0 : Nat) (Z0 : n0 ≤ h0.size) (S_C : Sta Z Z.heap "java/lang/String" "COMPACT_STRINGS" "Z" (.int GC)) (hGC : ¬ GC = (0 : Int32)) (O0 : Old Z n0 h0) (S_F : Sta Z Z.heap "jdk/internal/util/Preconditions" "SIOOBE_FORMATTER" "Ljava/util/function/BiFunction;" GF) (is_GF : GF.isRef = true) (E_a1 : Exa Z h0 a1 "java/lang/String") (F_c : Fld Z h0 a1 "java/lang/String" "coder" "B" (.int (0 : Int32))) (F_v : Fld Z h0 a1 "java/lang/String" "value" "[B" (.ref sb1)) (V_b : Arv Z h0 sb1 ka .byte p5 vs (.int 0)) (V_c : Arv Z h0 a3 kc .char zc us (.int 0)) (hnn : ¬ p2 < 0) (hA : p2 < p5 → ∃ x1 y1 : Int32, vs.getD (p2).toNatClampNeg (.int 0) = .int x1 ∧ (¬ (p4 + p2) < 0 ∧ (p4 + p2) < zc) ∧ us.getD (p4 + p2).toNatClampNeg (.int 0) = .int y1 ∧ own_c x1 = y1) :
    MetFree l own_y31 (head1 (Jvm.Cond.code own_y31 method_4_code 5 (some .boolean) :: ws) ({ frames := 4, cells := 0, slots := 0, locals := 53 } : Room)) (fun a U => a = #[(.ref a1), (.int p2), (.ref a3), (.int p4), (.int p5)] ∧ Z.Warmed39 U.vm ∧ U.heap = h0) (fun _ _ _ _ _ => True) (fun _ U o U' => ∃ v L, o = .returned v ∧ Q16 Z a1 p2 a3 p4 p5 sb1 ka vs kc zc us GC GF h0 n0 v U'.heap L ∧ FrameEnd U o U' L ({ frames := 4, cells := 0, slots := 0, locals := 53 } : Room).cells ({ frames := 4, cells := 0, slots := 0, locals := 53 } : Room).slots) := by
  refine MetFree.of_bodySF (plainFor_of_name pn_16) hisR ?_
  intro p e s m args below meth c s₁ Bd hml0 hP hK
  obtain ⟨rfl, hZ, hh⟩ := hP
  have hx := Bd.exec
  have hby := Bd.bytes
  have hml : c.maxLocals = 5 := hml0
  have hown : s.vm.findClass "com/example/arcas/arcas/http/RequestLineQueryPinLaw" = some m.cls := findClass_of_methodNamed Bd.named
  have hnm := (name_of_methodNamed Bd.named Bd.method).1
  have X0 : Stand p l e ({ frames := 4, cells := 0, slots := 0, locals := 53 } : Room) s m #[(.ref a1), (.int p2), (.ref a3), (.int p4), (.int p5)] below meth c s₁ [] 0 0 := Stand.of_body Bd
  have e0 : s₁.heap = h0 := by rw [← hh, Bd.state]; rfl
  have N0 := Fr.nil n0
  refine own_go (B := s₁.setTop (mkF m 0 #[rv a1, iv p2, rv a3, iv p4, iv p5] [])) (fun t k => castTop (ef_16 m a1 p2 a3 p4 p5) k) ?_
  refine own_go (B := s₁.setTop (mkF m 3 #[rv a1, iv p2, rv a3, iv p4, iv p5] [(.int p5), (.int p2)])) (fun t k => ?_) ?_
  · show own_S p e below s₁ (mkF m 0 #[rv a1, iv p2, rv a3, iv p4, iv p5] []) _
    refine XS.iloadN X0.here hx rfl (hb hby d16_0) rfl ?_
    refine XS.iload X0.here hx rfl (hb hby d16_1) rfl ?_
    exact k
  by_cases hc3_1 : p2 < p5
  · refine own_go (B := s₁.setTop (mkF m 6 #[rv a1, iv p2, rv a3, iv p4, iv p5] [])) (fun t k => ?_) ?_
    · show own_S p e below s₁ (mkF m 3 #[rv a1, iv p2, rv a3, iv p4, iv p5] [(.int p5), (.int p2)]) _
      refine XS.icmpNo X0.here hx rfl (hb hby d16_3) rfl (tlt hc3_1).2.1 ?_
      exact k
    obtain ⟨x1, y1, hat, hin2, hat2, heq⟩ := hA hc3_1
    have hin : ¬ p2 < 0 ∧ p2 < p5 := ⟨hnn, hc3_1⟩
    refine own_go (B := s₁.setTop (mkF m 8 #[rv a1, iv p2, rv a3, iv p4, iv p5] [(.int p2), (.ref a1)])) (fun t k => ?_) ?_
    · show own_S p e below s₁ (mkF m 6 #[rv a1, iv p2, rv a3, iv p4, iv p5] []) _
      refine XS.aloadN X0.here hx rfl (hb hby d16_6) rfl rfl ?_
      refine XS.iloadN X0.here hx rfl (hb hby d16_7) rfl ?_
      exact k
    obtain ⟨cq2, kq2, q2a, q2b, q2c⟩ := isOf hZ e0 E_a1
    obtain ⟨_, _, ⟨T2, L2, k2, n2⟩, -, X2, ⟨Lc2, hQ2, l2, y2, z2⟩, st2⟩ := X0.virtualBack hx (y := own_y6) (z := own_y6) hown (mvT hZ (own_w hw 132 rfl)) (mvT hZ (own_w hw 133 rfl)) (notFace_of_selects (args := #[]) (mvT hZ (own_w hw 135 rfl))) (mvT hZ (own_w hw 135 rfl)) (mvT hZ (own_w hw 134 rfl)) (by decide) (backOf (W := 0) (rm30 l Z a0 hw [] a1 p2 sb1 ka p5 vs (.int 0) x1 GC GF h0 n0 Z0 S_C hGC O0 E_a1 F_c F_v V_b hin hat S_F is_GF) hZ (own_w hw 136 rfl) (own_w hw 11 rfl) (by decide) (by decide)) q2a q2c (g := (mkF m 8 #[rv a1, iv p2, rv a3, iv p4, iv p5] [(.int p2), (.ref a1)])) rfl (by rw [hml]; rfl) (Steps.refl _) (argsL := [(.int p2)]) (rest := []) (lenOf own_pd21 rfl) rfl (by show 2 * 0 + _ ≤ _; exact Nat.le_of_eq rfl) (hb hby d16_8) (fun _ _ => ⟨rfl, e0, (by decide : 0 + 0 ≤ _), (by decide : 0 + 0 ≤ _)⟩)
    dsimp only [Pt.U, Pt.locs, Pt.cells, Pt.slots] at X2 l2 y2 z2 st2 hQ2
    subst l2 y2 z2
    obtain ⟨rfl, N2q, eq2⟩ := hQ2
    have N2 := Fr.app N0 N2q
    refine own_go (B := T2.setTop (mkF m 11 #[rv a1, iv p2, rv a3, iv p4, iv p5] [(.int (own_c x1))])) (fun t k => st2.trans k) ?_
    obtain ⟨cl3, Ar3, qk3, S3, M3, H3, G3⟩ := id V_c
    obtain ⟨fs, hr, hrun, hended, hW, hsame⟩ := X2.leave (v := some (.int 1)) (fun h => by rw [Bd.returns] at h; cases h)
    refine ⟨_, _, ?_, hrun, hended, _, _, rfl, ?_, ⟨_, rfl⟩, hW, hsame.mono (by decide) (by decide)⟩
    · show own_S p e below T2 (mkF m 11 #[rv a1, iv p2, rv a3, iv p4, iv p5] [(.int (own_c x1))]) _
      refine XS.aloadN X2.here hx rfl (hb hby d16_11) rfl rfl ?_
      refine XS.iloadN X2.here hx rfl (hb hby d16_12) rfl ?_
      refine XS.iloadN X2.here hx rfl (hb hby d16_13) rfl ?_
      show own_S p e below T2 (mkF m 14 #[rv a1, iv p2, rv a3, iv p4, iv p5] [(.int p2), (.int p4), (.ref a3), (.int (own_c x1))]) _
      refine XS.iadd X2.here hx rfl (hb hby d16_14) rfl ?_
      refine X2.caload hx (j := (p4 + p2)) (v := (.int y1)) (by rw [eq2]; exact Ar3.1) (State.isArrayOf_alike hZ.alike Ar3.2.1) Ar3.2.2 (inb_of S3 hin2) (Has.at H3 (inb_of S3 hin2) hat2) (g := (mkF m 15 #[rv a1, iv p2, rv a3, iv p4, iv p5] [(.int (p4 + p2)), (.ref a3), (.int (own_c x1))])) rfl rfl (hb hby d16_15) _ ?_
      refine XS.icmpNo X2.here hx rfl (hb hby d16_16) rfl (teq heq).2 ?_
      show own_S p e below T2 (mkF m 19 #[rv a1, iv p2, rv a3, iv p4, iv p5] []) _
      refine XS.iconst X2.here hx rfl (hb hby d16_19) ?_
      refine XS.goto X2.here hx rfl (pc0 := 20) (pc' := 24) rfl (hb hby d16_20) (by decide) (by decide) ?_
      show own_S p e below T2 (mkF m 24 #[rv a1, iv p2, rv a3, iv p4, iv p5] [(.int 1)]) _
      exact retN X2 hx (t := .boolean) Bd.returns (by simp) (hb hby d16_24) hr
    · show Q16 Z a1 p2 a3 p4 p5 sb1 ka vs kc zc us GC GF h0 n0 _ T2.heap _
      rw [eq2]
      exact ⟨rfl, N2, rfl⟩
  · obtain ⟨fs, hr, hrun, hended, hW, hsame⟩ := X0.leave (v := some (.int 1)) (fun h => by rw [Bd.returns] at h; cases h)
    refine ⟨_, _, ?_, hrun, hended, _, _, rfl, ?_, ⟨_, rfl⟩, hW, hsame.mono (by decide) (by decide)⟩
    · show own_S p e below s₁ (mkF m 3 #[rv a1, iv p2, rv a3, iv p4, iv p5] [(.int p5), (.int p2)]) _
      refine XS.icmpYes X0.here hx rfl (pc0 := 3) (pc' := 19) rfl (hb hby d16_3) rfl (flt hc3_1).2.1 (by decide) (by decide) ?_
      refine XS.iconst X0.here hx rfl (hb hby d16_19) ?_
      refine XS.goto X0.here hx rfl (pc0 := 20) (pc' := 24) rfl (hb hby d16_20) (by decide) (by decide) ?_
      show own_S p e below s₁ (mkF m 24 #[rv a1, iv p2, rv a3, iv p4, iv p5] [(.int 1)]) _
      exact retN X0 hx (t := .boolean) Bd.returns (by simp) (hb hby d16_24) hr
    · show Q16 Z a1 p2 a3 p4 p5 sb1 ka vs kc zc us GC GF h0 n0 _ s₁.heap _
      rw [e0]
      exact ⟨rfl, N0, rfl⟩
theorem own_five (x : Int32) : ((x &&& (2147483647 : Int32)) % (5 : Int32)) = 0 ∨ ((x &&& (2147483647 : Int32)) % (5 : Int32)) = 1 ∨ ((x &&& (2147483647 : Int32)) % (5 : Int32)) = 2 ∨ ((x &&& (2147483647 : Int32)) % (5 : Int32)) = 3 ∨ ((x &&& (2147483647 : Int32)) % (5 : Int32)) = 4 := by
  have h := c_mask x 2147483647 31 (by decide) (by decide)
  have h2 := (c_irem (x &&& (2147483647 : Int32)) 5 5 (by decide)).1 (by omega)
  generalize (x &&& (2147483647 : Int32)) % (5 : Int32) = i at *
  have k : i.toInt = 0 ∨ i.toInt = 1 ∨ i.toInt = 2 ∨ i.toInt = 3 ∨ i.toInt = 4 := by omega
  rcases k with k | k | k | k | k
  · exact Or.inl (Int32.toInt_inj.mp k)
  · exact Or.inr (Or.inl (Int32.toInt_inj.mp k))
  · exact Or.inr (Or.inr (Or.inl (Int32.toInt_inj.mp k)))
  · exact Or.inr (Or.inr (Or.inr (Or.inl (Int32.toInt_inj.mp k))))
  · exact Or.inr (Or.inr (Or.inr (Or.inr (Int32.toInt_inj.mp k))))
theorem own_all : ∀ i : Fin 256, nar .char (Int32.ofNat i.1) = Int32.ofNat i.1 ∧ own_c (own_b (Int32.ofNat i.1)) = Int32.ofNat i.1 ∧ (own_b (Int32.ofNat i.1) = ((63 : Int32).toInt8.toInt32) → Int32.ofNat i.1 = 63) := by decide +kernel
theorem own_ch_rng (x : Int32) : 0 ≤ (own_ch x).toInt ∧ (own_ch x).toInt ≤ 255 := by
  unfold own_ch
  split
  · have h := c_mask x 255 8 (by decide) (by decide)
    have h2 := c_i2c (x &&& (255 : Int32))
    have h3 := c_i2c ((x &&& (255 : Int32)).toUInt32.toUInt16.toUInt32.toInt32)
    show 0 ≤ ((x &&& (255 : Int32)).toUInt32.toUInt16.toUInt32.toInt32).toUInt32.toUInt16.toUInt32.toInt32.toInt ∧ ((x &&& (255 : Int32)).toUInt32.toUInt16.toUInt32.toInt32).toUInt32.toUInt16.toUInt32.toInt32.toInt ≤ 255
    omega
  · decide
theorem own_chF (c : Int32) (h : 0 ≤ c.toInt ∧ c.toInt ≤ 255) : nar .char c = c ∧ own_c (own_b c) = c ∧ (own_b c = ((63 : Int32).toInt8.toInt32) → c = 63) ∧ ¬ (255 : Int32) < c := by
  have h3 : c = Int32.ofNat c.toInt.toNat := by
    apply Int32.toInt_inj.mp
    rw [Int32.toInt_ofNat_of_lt (by omega)]
    omega
  have q := own_all ⟨c.toInt.toNat, by omega⟩
  rw [← h3] at q
  refine ⟨q.1, q.2.1, q.2.2, ?_⟩
  rw [Int32.lt_iff_toInt_lt]
  have k : (255 : Int32).toInt = 255 := by decide
  omega
theorem own_nb {c : Int32} (h : own_b c = ((63 : Int32).toInt8.toInt32) → c = 63) (g : ¬ c = 63) : ¬ own_b c = ((63 : Int32).toInt8.toInt32) := fun q => g (h q)
theorem own_yb {c : Int32} (h : c = 63) : own_b c = ((63 : Int32).toInt8.toInt32) := by subst h; decide
theorem pn_0 : plainName "com/example/arcas/arcas/http/RequestLineQueryPinLaw" = true := by first | (simp [plainName, overriddenIn]; done) | decide +kernel
theorem ef_0 (m : MethodId) (x0 : Int32) (x1 : Int32) (x2 : Int32) (x3 : Int32) (x4 : Int32) : entryFrame m #[(.int x0), (.int x1), (.int x2), (.int x3), (.int x4)] maxLocals = mkF m 0 #[.val (.int x0), .val (.int x1), .val (.int x2), .val (.int x3), .val (.int x4), .unset, .unset, .unset, .unset, .unset, .unset, .unset, .unset, .unset, .unset, .unset] [] := by first | (simp [entryFrame, mkF, argsToLocals, Value.category, maxLocals]; done) | rfl
def Q0 (Z : State) (p1 : Int32) (p2 : Int32) (p3 : Int32) (p4 : Int32) (p5 : Int32) (GC : Int32) (GF : Value) (h0 : Heap) (n0 : Nat) (v : Option Value) (h : Heap) (L : List Loc) : Prop := v = some (.int 1) ∧ Fr n0 L
set_option maxRecDepth 65536 in
set_option maxHeartbeats 40000000 in
theorem own_tail {p : Program} {l : Launch} {e : Env} {s : State} {vm0 : Vm} {m : MethodId} {args : Array Value} {below : List Frame} {meth : Method} {c : Code} {s₁ T0 : State} {locs : List Loc} {cells slots n0 k0 : Nat} {Z : State} {a0 : Array Value} {h0 hq : Heap} {ws : List Jvm.Cond} (p1 p2 p3 p4 p5 nn vc0 vc1 vc2 vc3 qv mv sv : Int32) (ac asx ar sb1 : Addr) (ka kc : ClassId) (vs us : List Value) (zc GC : Int32) (GF : Value)
    (X0 : Stand p l e room_1 (s.setVm vm0) m args below meth c T0 locs cells slots) (hx : p.tables.exec = Jvm.exec) (hZ : Z.Warmed39 (s.setVm vm0).vm) (hw : ∀ d ∈ tables_1, d.before a0 Z = true) (hby : c.code = code) (hml : c.maxLocals = 16) (hown : (s.setVm vm0).vm.findClass "com/example/arcas/arcas/http/RequestLineQueryPinLaw" = some m.cls) (Bd : BodyLoose p l x (head1 (Jvm.Cond.code x code maxLocals ret :: ws) room_1) code maxLocals ret e s m args below meth c s₁) (hS : s.Since vm0 k0)
    (e0 : T0.heap = h0) (N0 : Fr n0 locs) (Z0 : n0 ≤ h0.size) (hk : k0 ≤ h0.size) (hcl : cells ≤ 24) (hsl : slots ≤ 3200) (S_C : Sta Z Z.heap "java/lang/String" "COMPACT_STRINGS" "Z" (.int GC)) (hGC : ¬ GC = (0 : Int32)) (O0 : Old Z n0 h0) (S_F : Sta Z Z.heap "jdk/internal/util/Preconditions" "SIOOBE_FORMATTER" "Ljava/util/function/BiFunction;" GF) (is_GF : GF.isRef = true)
    (E_r : Exa Z h0 ar "java/lang/String") (C_r : Fld Z h0 ar "java/lang/String" "coder" "B" (.int (0 : Int32))) (V_r : Fld Z h0 ar "java/lang/String" "value" "[B" (.ref sb1)) (A_r : Arv Z h0 sb1 ka .byte mv vs (.int 0)) (A_c : Arv Z h0 ac kc .char zc us (.int 0)) (hA0 : (0 : Int32) < mv → ∃ x1 y1 : Int32, vs.getD ((0 : Int32)).toNatClampNeg (.int 0) = .int x1 ∧ (¬ (sv + (0 : Int32)) < 0 ∧ (sv + (0 : Int32)) < zc) ∧ us.getD (sv + (0 : Int32)).toNatClampNeg (.int 0) = .int y1 ∧ own_c x1 = y1) (hA1 : (1 : Int32) < mv → ∃ x1 y1 : Int32, vs.getD ((1 : Int32)).toNatClampNeg (.int 0) = .int x1 ∧ (¬ (sv + (1 : Int32)) < 0 ∧ (sv + (1 : Int32)) < zc) ∧ us.getD (sv + (1 : Int32)).toNatClampNeg (.int 0) = .int y1 ∧ own_c x1 = y1) (hA2 : (2 : Int32) < mv → ∃ x1 y1 : Int32, vs.getD ((2 : Int32)).toNatClampNeg (.int 0) = .int x1 ∧ (¬ (sv + (2 : Int32)) < 0 ∧ (sv + (2 : Int32)) < zc) ∧ us.getD (sv + (2 : Int32)).toNatClampNeg (.int 0) = .int y1 ∧ own_c x1 = y1) :
    ∃ s₂ o, Steps p.tables e below (T0.setTop (mkF m 156 #[iv p1, iv p2, iv p3, iv p4, iv p5, iv nn, iv vc0, iv vc1, iv vc2, iv vc3, rv ac, rv asx, iv qv, iv mv, iv sv, rv ar] [])) s₂ ∧ s₂.status = .running ∧ Ended s₂ below o ∧ ∃ v L, o = .returned v ∧ Q0 Z p1 p2 p3 p4 p5 GC GF hq n0 v s₂.heap L ∧ ReturnedEndW s o s₂ L room_1.cells room_1.slots := by
  refine own_go (B := T0.setTop (mkF m 163 #[iv p1, iv p2, iv p3, iv p4, iv p5, iv nn, iv vc0, iv vc1, iv vc2, iv vc3, rv ac, rv asx, iv qv, iv mv, iv sv, rv ar] [(.ref ar)])) (fun t k => ?_) ?_
  · show own_S p e below T0 (mkF m 156 #[iv p1, iv p2, iv p3, iv p4, iv p5, iv nn, iv vc0, iv vc1, iv vc2, iv vc3, rv ac, rv asx, iv qv, iv mv, iv sv, rv ar] []) _
    refine XS.aload X0.here hx rfl (hb hby at_156) rfl rfl ?_
    refine XS.ifnullNo X0.here hx rfl (hb hby at_158) rfl ?_
    refine XS.aload X0.here hx rfl (hb hby at_161) rfl rfl ?_
    exact k
  obtain ⟨cq1, kq1, q1a, q1b, q1c⟩ := isOf hZ e0 E_r
  obtain ⟨_, _, ⟨T1, L1, k1, n1⟩, -, X1, ⟨Lc1, hQ1, l1, y1, z1⟩, st1⟩ := X0.virtualBack hx (y := own_y2) (z := own_y2) hown (mvT hZ (own_w hw 75 rfl)) (mvT hZ (own_w hw 51 rfl)) (notFace_of_selects (args := #[]) (mvT hZ (own_w hw 53 rfl))) (mvT hZ (own_w hw 53 rfl)) (mvT hZ (own_w hw 52 rfl)) (by decide) (backOf (W := 0) (rm10 l Z a0 hw [] ar sb1 ka mv vs (.int 0) GC h0 n0 Z0 S_C hGC O0 E_r C_r V_r A_r) hZ (own_w hw 54 rfl) (own_w hw 11 rfl) (by decide) (by decide)) q1a q1c (g := (mkF m 163 #[iv p1, iv p2, iv p3, iv p4, iv p5, iv nn, iv vc0, iv vc1, iv vc2, iv vc3, rv ac, rv asx, iv qv, iv mv, iv sv, rv ar] [(.ref ar)])) rfl (by rw [hml]; rfl) (Steps.refl _) (argsL := []) (rest := []) (lenOf own_pd11 rfl) rfl (by show 2 * 0 + _ ≤ _; exact Nat.le_of_eq rfl) (hb hby at_163) (fun _ _ => ⟨rfl, e0, hcl, hsl⟩)
  dsimp only [Pt.U, Pt.locs, Pt.cells, Pt.slots] at X1 l1 y1 z1 st1 hQ1
  subst l1 y1 z1
  obtain ⟨rfl, N1q, eq1⟩ := hQ1
  have N1 := Fr.app N0 N1q
  refine own_go (B := T1.setTop (mkF m 166 #[iv p1, iv p2, iv p3, iv p4, iv p5, iv nn, iv vc0, iv vc1, iv vc2, iv vc3, rv ac, rv asx, iv qv, iv mv, iv sv, rv ar] [(.int mv)])) (fun t k => st1.trans k) ?_
  refine own_go (B := T1.setTop (mkF m 182 #[iv p1, iv p2, iv p3, iv p4, iv p5, iv nn, iv vc0, iv vc1, iv vc2, iv vc3, rv ac, rv asx, iv qv, iv mv, iv sv, rv ar] [(.int mv), (.int sv), (.ref ac), (.int 0), (.ref ar)])) (fun t k => ?_) ?_
  · show own_S p e below T1 (mkF m 166 #[iv p1, iv p2, iv p3, iv p4, iv p5, iv nn, iv vc0, iv vc1, iv vc2, iv vc3, rv ac, rv asx, iv qv, iv mv, iv sv, rv ar] [(.int mv)]) _
    refine XS.iload X1.here hx rfl (hb hby at_166) rfl ?_
    refine XS.icmpYes X1.here hx rfl (pc0 := 168) (pc' := 173) rfl (hb hby at_168) rfl (teq rfl).1 (by decide) (by decide) ?_
    refine XS.aload X1.here hx rfl (hb hby at_173) rfl rfl ?_
    show own_S p e below T1 (mkF m 175 #[iv p1, iv p2, iv p3, iv p4, iv p5, iv nn, iv vc0, iv vc1, iv vc2, iv vc3, rv ac, rv asx, iv qv, iv mv, iv sv, rv ar] [(.ref ar)]) _
    refine XS.iconst X1.here hx rfl (hb hby at_175) ?_
    refine XS.aload X1.here hx rfl (hb hby at_176) rfl rfl ?_
    refine XS.iload X1.here hx rfl (hb hby at_178) rfl ?_
    show own_S p e below T1 (mkF m 180 #[iv p1, iv p2, iv p3, iv p4, iv p5, iv nn, iv vc0, iv vc1, iv vc2, iv vc3, rv ac, rv asx, iv qv, iv mv, iv sv, rv ar] [(.int sv), (.ref ac), (.int 0), (.ref ar)]) _
    refine XS.iload X1.here hx rfl (hb hby at_180) rfl ?_
    exact k
  obtain ⟨_, _, ⟨T2, L2, k2, n2⟩, -, X2, ⟨Lc2, hQ2, l2, y2, z2⟩, st2⟩ := Jvm.LawKit.callS X1 hx (y := own_y31) hown (mvT hZ (own_w hw 76 rfl)) (mvT hZ (own_w hw 77 rfl)) (mvT hZ (own_w hw 3 rfl)) (mvT hZ (own_w hw 78 rfl)) (by decide) (backOf (W := 0) (rm16 l Z a0 hw [] ar (0 : Int32) ac sv mv sb1 ka vs kc zc us GC GF h0 n0 Z0 S_C hGC O0 S_F is_GF E_r C_r V_r A_r A_c (by decide) hA0) hZ (own_w hw 78 rfl) (own_w hw 3 rfl) (by decide) (by decide)) (g := (mkF m 182 #[iv p1, iv p2, iv p3, iv p4, iv p5, iv nn, iv vc0, iv vc1, iv vc2, iv vc3, rv ac, rv asx, iv qv, iv mv, iv sv, rv ar] [(.int mv), (.int sv), (.ref ac), (.int 0), (.ref ar)])) rfl (by rw [hml]; rfl) (argsL := [(.ref ar), (.int 0), (.ref ac), (.int sv), (.int mv)]) (rest := []) (lenOf own_pd22 rfl) rfl (by show 2 * 0 + _ ≤ _; exact Nat.le_of_eq rfl) (hb hby at_182) (fun _ _ => ⟨rfl, eq1, hcl, hsl⟩)
  dsimp only [Pt.U, Pt.locs, Pt.cells, Pt.slots] at X2 l2 y2 z2 st2 hQ2
  subst l2 y2 z2
  obtain ⟨rfl, N2q, eq2⟩ := hQ2
  have N2 := Fr.app N1 N2q
  refine own_go (B := T2.setTop (mkF m 185 #[iv p1, iv p2, iv p3, iv p4, iv p5, iv nn, iv vc0, iv vc1, iv vc2, iv vc3, rv ac, rv asx, iv qv, iv mv, iv sv, rv ar] [(.int 1)])) (fun t k => st2 _ k) ?_
  refine own_go (B := T2.setTop (mkF m 197 #[iv p1, iv p2, iv p3, iv p4, iv p5, iv nn, iv vc0, iv vc1, iv vc2, iv vc3, rv ac, rv asx, iv qv, iv mv, iv sv, rv ar] [(.int mv), (.int sv), (.ref ac), (.int 1), (.ref ar)])) (fun t k => ?_) ?_
  · show own_S p e below T2 (mkF m 185 #[iv p1, iv p2, iv p3, iv p4, iv p5, iv nn, iv vc0, iv vc1, iv vc2, iv vc3, rv ac, rv asx, iv qv, iv mv, iv sv, rv ar] [(.int 1)]) _
    refine XS.ifNo X2.here hx rfl (hb hby at_185) rfl ((if0 _ _).trans (feq (by decide)).1) ?_
    refine XS.aload X2.here hx rfl (hb hby at_188) rfl rfl ?_
    refine XS.iconst X2.here hx rfl (hb hby at_190) ?_
    show own_S p e below T2 (mkF m 191 #[iv p1, iv p2, iv p3, iv p4, iv p5, iv nn, iv vc0, iv vc1, iv vc2, iv vc3, rv ac, rv asx, iv qv, iv mv, iv sv, rv ar] [(.int 1), (.ref ar)]) _
    refine XS.aload X2.here hx rfl (hb hby at_191) rfl rfl ?_
    refine XS.iload X2.here hx rfl (hb hby at_193) rfl ?_
    refine XS.iload X2.here hx rfl (hb hby at_195) rfl ?_
    exact k
  obtain ⟨_, _, ⟨T3, L3, k3, n3⟩, -, X3, ⟨Lc3, hQ3, l3, y3, z3⟩, st3⟩ := Jvm.LawKit.callS X2 hx (y := own_y31) hown (mvT hZ (own_w hw 76 rfl)) (mvT hZ (own_w hw 77 rfl)) (mvT hZ (own_w hw 3 rfl)) (mvT hZ (own_w hw 78 rfl)) (by decide) (backOf (W := 0) (rm16 l Z a0 hw [] ar (1 : Int32) ac sv mv sb1 ka vs kc zc us GC GF h0 n0 Z0 S_C hGC O0 S_F is_GF E_r C_r V_r A_r A_c (by decide) hA1) hZ (own_w hw 78 rfl) (own_w hw 3 rfl) (by decide) (by decide)) (g := (mkF m 197 #[iv p1, iv p2, iv p3, iv p4, iv p5, iv nn, iv vc0, iv vc1, iv vc2, iv vc3, rv ac, rv asx, iv qv, iv mv, iv sv, rv ar] [(.int mv), (.int sv), (.ref ac), (.int 1), (.ref ar)])) rfl (by rw [hml]; rfl) (argsL := [(.ref ar), (.int 1), (.ref ac), (.int sv), (.int mv)]) (rest := []) (lenOf own_pd22 rfl) rfl (by show 2 * 0 + _ ≤ _; exact Nat.le_of_eq rfl) (hb hby at_197) (fun _ _ => ⟨rfl, eq2, hcl, hsl⟩)
  dsimp only [Pt.U, Pt.locs, Pt.cells, Pt.slots] at X3 l3 y3 z3 st3 hQ3
  subst l3 y3 z3
  obtain ⟨rfl, N3q, eq3⟩ := hQ3
  have N3 := Fr.app N2 N3q
  refine own_go (B := T3.setTop (mkF m 200 #[iv p1, iv p2, iv p3, iv p4, iv p5, iv nn, iv vc0, iv vc1, iv vc2, iv vc3, rv ac, rv asx, iv qv, iv mv, iv sv, rv ar] [(.int 1)])) (fun t k => st3 _ k) ?_
  refine own_go (B := T3.setTop (mkF m 212 #[iv p1, iv p2, iv p3, iv p4, iv p5, iv nn, iv vc0, iv vc1, iv vc2, iv vc3, rv ac, rv asx, iv qv, iv mv, iv sv, rv ar] [(.int mv), (.int sv), (.ref ac), (.int 2), (.ref ar)])) (fun t k => ?_) ?_
  · show own_S p e below T3 (mkF m 200 #[iv p1, iv p2, iv p3, iv p4, iv p5, iv nn, iv vc0, iv vc1, iv vc2, iv vc3, rv ac, rv asx, iv qv, iv mv, iv sv, rv ar] [(.int 1)]) _
    refine XS.ifNo X3.here hx rfl (hb hby at_200) rfl ((if0 _ _).trans (feq (by decide)).1) ?_
    refine XS.aload X3.here hx rfl (hb hby at_203) rfl rfl ?_
    refine XS.iconst X3.here hx rfl (hb hby at_205) ?_
    show own_S p e below T3 (mkF m 206 #[iv p1, iv p2, iv p3, iv p4, iv p5, iv nn, iv vc0, iv vc1, iv vc2, iv vc3, rv ac, rv asx, iv qv, iv mv, iv sv, rv ar] [(.int 2), (.ref ar)]) _
    refine XS.aload X3.here hx rfl (hb hby at_206) rfl rfl ?_
    refine XS.iload X3.here hx rfl (hb hby at_208) rfl ?_
    refine XS.iload X3.here hx rfl (hb hby at_210) rfl ?_
    exact k
  obtain ⟨_, _, ⟨T4, L4, k4, n4⟩, -, X4, ⟨Lc4, hQ4, l4, y4, z4⟩, st4⟩ := Jvm.LawKit.callS X3 hx (y := own_y31) hown (mvT hZ (own_w hw 76 rfl)) (mvT hZ (own_w hw 77 rfl)) (mvT hZ (own_w hw 3 rfl)) (mvT hZ (own_w hw 78 rfl)) (by decide) (backOf (W := 0) (rm16 l Z a0 hw [] ar (2 : Int32) ac sv mv sb1 ka vs kc zc us GC GF h0 n0 Z0 S_C hGC O0 S_F is_GF E_r C_r V_r A_r A_c (by decide) hA2) hZ (own_w hw 78 rfl) (own_w hw 3 rfl) (by decide) (by decide)) (g := (mkF m 212 #[iv p1, iv p2, iv p3, iv p4, iv p5, iv nn, iv vc0, iv vc1, iv vc2, iv vc3, rv ac, rv asx, iv qv, iv mv, iv sv, rv ar] [(.int mv), (.int sv), (.ref ac), (.int 2), (.ref ar)])) rfl (by rw [hml]; rfl) (argsL := [(.ref ar), (.int 2), (.ref ac), (.int sv), (.int mv)]) (rest := []) (lenOf own_pd22 rfl) rfl (by show 2 * 0 + _ ≤ _; exact Nat.le_of_eq rfl) (hb hby at_212) (fun _ _ => ⟨rfl, eq3, hcl, hsl⟩)
  dsimp only [Pt.U, Pt.locs, Pt.cells, Pt.slots] at X4 l4 y4 z4 st4 hQ4
  subst l4 y4 z4
  obtain ⟨rfl, N4q, eq4⟩ := hQ4
  have N4 := Fr.app N3 N4q
  refine own_go (B := T4.setTop (mkF m 215 #[iv p1, iv p2, iv p3, iv p4, iv p5, iv nn, iv vc0, iv vc1, iv vc2, iv vc3, rv ac, rv asx, iv qv, iv mv, iv sv, rv ar] [(.int 1)])) (fun t k => st4 _ k) ?_
  obtain ⟨fs, hr, hrun, hended, hRW⟩ := X4.leaveW hS (by rw [eq4]; exact hk) (v := some (.int 1)) (fun h => by rw [Bd.returns] at h; cases h)
  refine ⟨_, _, ?_, hrun, hended, _, _, rfl, ?_, hRW.1, hRW.2.1, hRW.2.2.1, hRW.2.2.2.mono hcl hsl⟩
  · show own_S p e below T4 (mkF m 215 #[iv p1, iv p2, iv p3, iv p4, iv p5, iv nn, iv vc0, iv vc1, iv vc2, iv vc3, rv ac, rv asx, iv qv, iv mv, iv sv, rv ar] [(.int 1)]) _
    refine XS.ifNo X4.here hx rfl (hb hby at_215) rfl ((if0 _ _).trans (feq (by decide)).1) ?_
    refine XS.iconst X4.here hx rfl (hb hby at_218) ?_
    refine XS.goto X4.here hx rfl (pc0 := 219) (pc' := 223) rfl (hb hby at_219) (by decide) (by decide) ?_
    show own_S p e below T4 (mkF m 223 #[iv p1, iv p2, iv p3, iv p4, iv p5, iv nn, iv vc0, iv vc1, iv vc2, iv vc3, rv ac, rv asx, iv qv, iv mv, iv sv, rv ar] [(.int 1)]) _
    exact retN X4 hx (t := .boolean) Bd.returns (by simp) (hb hby at_223) hr
  · show Q0 Z p1 p2 p3 p4 p5 GC GF h0 n0 _ T4.heap _
    rw [eq4]
    exact ⟨rfl, N4⟩
set_option maxRecDepth 65536 in
set_option maxHeartbeats 40000000 in
theorem rm0 (l : Launch) (Z : State) (a0 : Array Value) (hw : ∀ d ∈ tables_1, d.before a0 Z = true) (ws : List Jvm.Cond) (p1 : Int32) (p2 : Int32) (p3 : Int32) (p4 : Int32) (p5 : Int32) (GC : Int32) (GF : Value) (h0 : Heap) (n0 : Nat) (Z0 : n0 ≤ h0.size) (S_C : Sta Z Z.heap "java/lang/String" "COMPACT_STRINGS" "Z" (.int GC)) (hGC : ¬ GC = (0 : Int32)) (O0 : Old Z n0 h0) (S_F : Sta Z Z.heap "jdk/internal/util/Preconditions" "SIOOBE_FORMATTER" "Ljava/util/function/BiFunction;" GF) (is_GF : GF.isRef = true) :
    MetFree l x (head1 (Jvm.Cond.code x code maxLocals ret :: ws) room_1) (fun a U => a = #[(.int p1), (.int p2), (.int p3), (.int p4), (.int p5)] ∧ Z.Warmed39 U.vm ∧ U.heap = h0 ∧ CHv Z consts_1 U.vm h0) (fun _ _ _ _ _ => True) (fun _ U o U' => ∃ v L, o = .returned v ∧ Q0 Z p1 p2 p3 p4 p5 GC GF h0 n0 v U'.heap L ∧ ReturnedEndW U o U' L room_1.cells room_1.slots) := by
  refine MetFree.of_bodySF (plainFor_of_name pn_0) hisR ?_
  intro p e s m args below meth c s₁ Bd hml0 hP hK
  obtain ⟨rfl, hZ, hh, hCH⟩ := hP
  have hx := Bd.exec
  have hby := Bd.bytes
  have hml : c.maxLocals = 16 := hml0
  have hown : s.vm.findClass "com/example/arcas/arcas/http/RequestLineQueryPinLaw" = some m.cls := findClass_of_methodNamed Bd.named
  have hnm := (name_of_methodNamed Bd.named Bd.method).1
  have X0 : Stand p l e room_1 s m #[(.int p1), (.int p2), (.int p3), (.int p4), (.int p5)] below meth c s₁ [] 0 0 := Stand.of_body Bd
  have e0 : s₁.heap = h0 := by rw [← hh, Bd.state]; rfl
  have N0 := Fr.nil n0
  have X0 : Stand p l e room_1 (s.setVm s.vm) m #[(.int p1), (.int p2), (.int p3), (.int p4), (.int p5)] below meth c s₁ [] 0 0 := X0
  have hZ : Z.Warmed39 (s.setVm s.vm).vm := hZ
  have hown : (s.setVm s.vm).vm.findClass "com/example/arcas/arcas/http/RequestLineQueryPinLaw" = some m.cls := hown
  have hS : s.Since s.vm 0 := (State.WarmedH.refl s).since 0
  refine own_go (B := s₁.setTop (mkF m 0 #[iv p1, iv p2, iv p3, iv p4, iv p5, .unset, .unset, .unset, .unset, .unset, .unset, .unset, .unset, .unset, .unset, .unset] [])) (fun t k => castTop (ef_0 m p1 p2 p3 p4 p5) k) ?_
  refine own_go (B := s₁.setTop (mkF m 9 #[iv p1, iv p2, iv p3, iv p4, iv p5, iv ((p1 &&& (2147483647 : Int32)) % (5 : Int32)), .unset, .unset, .unset, .unset, .unset, .unset, .unset, .unset, .unset, .unset] [(.int p2)])) (fun t k => ?_) ?_
  · show own_S p e below s₁ (mkF m 0 #[iv p1, iv p2, iv p3, iv p4, iv p5, .unset, .unset, .unset, .unset, .unset, .unset, .unset, .unset, .unset, .unset, .unset] []) _
    refine XS.iloadN X0.here hx rfl (hb hby at_0) rfl ?_
    refine X0.ldcInt hx hown (mvT hZ (own_w hw 0 rfl)) (g := (mkF m 1 #[iv p1, iv p2, iv p3, iv p4, iv p5, .unset, .unset, .unset, .unset, .unset, .unset, .unset, .unset, .unset, .unset, .unset] [(.int p1)])) rfl (hb hby at_1) _ ?_
    refine XS.iand X0.here hx rfl (hb hby at_3) rfl ?_
    show own_S p e below s₁ (mkF m 4 #[iv p1, iv p2, iv p3, iv p4, iv p5, .unset, .unset, .unset, .unset, .unset, .unset, .unset, .unset, .unset, .unset, .unset] [(.int (p1 &&& (2147483647 : Int32)))]) _
    refine XS.iconst X0.here hx rfl (hb hby at_4) ?_
    refine iremM X0 hx rfl (hb hby at_5) rfl (by decide) ?_
    refine XS.istore X0.here hx rfl (hb hby at_6) rfl (l' := #[iv p1, iv p2, iv p3, iv p4, iv p5, iv ((p1 &&& (2147483647 : Int32)) % (5 : Int32)), .unset, .unset, .unset, .unset, .unset, .unset, .unset, .unset, .unset, .unset]) rfl ?_
    show own_S p e below s₁ (mkF m 8 #[iv p1, iv p2, iv p3, iv p4, iv p5, iv ((p1 &&& (2147483647 : Int32)) % (5 : Int32)), .unset, .unset, .unset, .unset, .unset, .unset, .unset, .unset, .unset, .unset] []) _
    refine XS.iloadN X0.here hx rfl (hb hby at_8) rfl ?_
    exact k
  obtain ⟨_, _, ⟨T1, L1, k1, n1⟩, -, X1, ⟨Lc1, hQ1, l1, y1, z1⟩, st1⟩ := Jvm.LawKit.callS X0 hx (y := own_y28) hown (mvT hZ (own_w hw 1 rfl)) (mvT hZ (own_w hw 2 rfl)) (mvT hZ (own_w hw 3 rfl)) (mvT hZ (own_w hw 4 rfl)) (by decide) (backOf (W := 0) (rm1 l Z a0 hw [] p2 h0 n0 Z0) hZ (own_w hw 4 rfl) (own_w hw 3 rfl) (by decide) (by decide)) (g := (mkF m 9 #[iv p1, iv p2, iv p3, iv p4, iv p5, iv ((p1 &&& (2147483647 : Int32)) % (5 : Int32)), .unset, .unset, .unset, .unset, .unset, .unset, .unset, .unset, .unset, .unset] [(.int p2)])) rfl (by rw [hml]; rfl) (argsL := [(.int p2)]) (rest := []) (lenOf own_pd21 rfl) rfl (by show 2 * 0 + _ ≤ _; exact Nat.le_of_eq rfl) (hb hby at_9) (fun _ _ => ⟨rfl, e0, (by decide : 0 + 0 ≤ _), (by decide : 0 + 0 ≤ _)⟩)
  dsimp only [Pt.U, Pt.locs, Pt.cells, Pt.slots] at X1 l1 y1 z1 st1 hQ1
  subst l1 y1 z1
  obtain ⟨rfl, N1q, eq1⟩ := hQ1
  have N1 := Fr.app N0 N1q
  refine own_go (B := T1.setTop (mkF m 12 #[iv p1, iv p2, iv p3, iv p4, iv p5, iv ((p1 &&& (2147483647 : Int32)) % (5 : Int32)), .unset, .unset, .unset, .unset, .unset, .unset, .unset, .unset, .unset, .unset] [(.int (own_ch p2))])) (fun t k => st1 _ k) ?_
  refine own_go (B := T1.setTop (mkF m 15 #[iv p1, iv p2, iv p3, iv p4, iv p5, iv ((p1 &&& (2147483647 : Int32)) % (5 : Int32)), iv (own_ch p2), .unset, .unset, .unset, .unset, .unset, .unset, .unset, .unset, .unset] [(.int p3)])) (fun t k => ?_) ?_
  · show own_S p e below T1 (mkF m 12 #[iv p1, iv p2, iv p3, iv p4, iv p5, iv ((p1 &&& (2147483647 : Int32)) % (5 : Int32)), .unset, .unset, .unset, .unset, .unset, .unset, .unset, .unset, .unset, .unset] [(.int (own_ch p2))]) _
    refine XS.istore X1.here hx rfl (hb hby at_12) rfl (l' := #[iv p1, iv p2, iv p3, iv p4, iv p5, iv ((p1 &&& (2147483647 : Int32)) % (5 : Int32)), iv (own_ch p2), .unset, .unset, .unset, .unset, .unset, .unset, .unset, .unset, .unset]) rfl ?_
    refine XS.iloadN X1.here hx rfl (hb hby at_14) rfl ?_
    exact k
  obtain ⟨_, _, ⟨T2, L2, k2, n2⟩, -, X2, ⟨Lc2, hQ2, l2, y2, z2⟩, st2⟩ := Jvm.LawKit.callS X1 hx (y := own_y28) hown (mvT hZ (own_w hw 1 rfl)) (mvT hZ (own_w hw 2 rfl)) (mvT hZ (own_w hw 3 rfl)) (mvT hZ (own_w hw 4 rfl)) (by decide) (backOf (W := 0) (rm1 l Z a0 hw [] p3 h0 n0 Z0) hZ (own_w hw 4 rfl) (own_w hw 3 rfl) (by decide) (by decide)) (g := (mkF m 15 #[iv p1, iv p2, iv p3, iv p4, iv p5, iv ((p1 &&& (2147483647 : Int32)) % (5 : Int32)), iv (own_ch p2), .unset, .unset, .unset, .unset, .unset, .unset, .unset, .unset, .unset] [(.int p3)])) rfl (by rw [hml]; rfl) (argsL := [(.int p3)]) (rest := []) (lenOf own_pd21 rfl) rfl (by show 2 * 0 + _ ≤ _; exact Nat.le_of_eq rfl) (hb hby at_15) (fun _ _ => ⟨rfl, eq1, (by decide : 0 + 0 ≤ _), (by decide : 0 + 0 ≤ _)⟩)
  dsimp only [Pt.U, Pt.locs, Pt.cells, Pt.slots] at X2 l2 y2 z2 st2 hQ2
  subst l2 y2 z2
  obtain ⟨rfl, N2q, eq2⟩ := hQ2
  have N2 := Fr.app N1 N2q
  refine own_go (B := T2.setTop (mkF m 18 #[iv p1, iv p2, iv p3, iv p4, iv p5, iv ((p1 &&& (2147483647 : Int32)) % (5 : Int32)), iv (own_ch p2), .unset, .unset, .unset, .unset, .unset, .unset, .unset, .unset, .unset] [(.int (own_ch p3))])) (fun t k => st2 _ k) ?_
  refine own_go (B := T2.setTop (mkF m 21 #[iv p1, iv p2, iv p3, iv p4, iv p5, iv ((p1 &&& (2147483647 : Int32)) % (5 : Int32)), iv (own_ch p2), iv (own_ch p3), .unset, .unset, .unset, .unset, .unset, .unset, .unset, .unset] [(.int p4)])) (fun t k => ?_) ?_
  · show own_S p e below T2 (mkF m 18 #[iv p1, iv p2, iv p3, iv p4, iv p5, iv ((p1 &&& (2147483647 : Int32)) % (5 : Int32)), iv (own_ch p2), .unset, .unset, .unset, .unset, .unset, .unset, .unset, .unset, .unset] [(.int (own_ch p3))]) _
    refine XS.istore X2.here hx rfl (hb hby at_18) rfl (l' := #[iv p1, iv p2, iv p3, iv p4, iv p5, iv ((p1 &&& (2147483647 : Int32)) % (5 : Int32)), iv (own_ch p2), iv (own_ch p3), .unset, .unset, .unset, .unset, .unset, .unset, .unset, .unset]) rfl ?_
    refine XS.iloadN X2.here hx rfl (hb hby at_20) rfl ?_
    exact k
  obtain ⟨_, _, ⟨T3, L3, k3, n3⟩, -, X3, ⟨Lc3, hQ3, l3, y3, z3⟩, st3⟩ := Jvm.LawKit.callS X2 hx (y := own_y28) hown (mvT hZ (own_w hw 1 rfl)) (mvT hZ (own_w hw 2 rfl)) (mvT hZ (own_w hw 3 rfl)) (mvT hZ (own_w hw 4 rfl)) (by decide) (backOf (W := 0) (rm1 l Z a0 hw [] p4 h0 n0 Z0) hZ (own_w hw 4 rfl) (own_w hw 3 rfl) (by decide) (by decide)) (g := (mkF m 21 #[iv p1, iv p2, iv p3, iv p4, iv p5, iv ((p1 &&& (2147483647 : Int32)) % (5 : Int32)), iv (own_ch p2), iv (own_ch p3), .unset, .unset, .unset, .unset, .unset, .unset, .unset, .unset] [(.int p4)])) rfl (by rw [hml]; rfl) (argsL := [(.int p4)]) (rest := []) (lenOf own_pd21 rfl) rfl (by show 2 * 0 + _ ≤ _; exact Nat.le_of_eq rfl) (hb hby at_21) (fun _ _ => ⟨rfl, eq2, (by decide : 0 + 0 ≤ _), (by decide : 0 + 0 ≤ _)⟩)
  dsimp only [Pt.U, Pt.locs, Pt.cells, Pt.slots] at X3 l3 y3 z3 st3 hQ3
  subst l3 y3 z3
  obtain ⟨rfl, N3q, eq3⟩ := hQ3
  have N3 := Fr.app N2 N3q
  refine own_go (B := T3.setTop (mkF m 24 #[iv p1, iv p2, iv p3, iv p4, iv p5, iv ((p1 &&& (2147483647 : Int32)) % (5 : Int32)), iv (own_ch p2), iv (own_ch p3), .unset, .unset, .unset, .unset, .unset, .unset, .unset, .unset] [(.int (own_ch p4))])) (fun t k => st3 _ k) ?_
  refine own_go (B := T3.setTop (mkF m 28 #[iv p1, iv p2, iv p3, iv p4, iv p5, iv ((p1 &&& (2147483647 : Int32)) % (5 : Int32)), iv (own_ch p2), iv (own_ch p3), iv (own_ch p4), .unset, .unset, .unset, .unset, .unset, .unset, .unset] [(.int p5)])) (fun t k => ?_) ?_
  · show own_S p e below T3 (mkF m 24 #[iv p1, iv p2, iv p3, iv p4, iv p5, iv ((p1 &&& (2147483647 : Int32)) % (5 : Int32)), iv (own_ch p2), iv (own_ch p3), .unset, .unset, .unset, .unset, .unset, .unset, .unset, .unset] [(.int (own_ch p4))]) _
    refine XS.istore X3.here hx rfl (hb hby at_24) rfl (l' := #[iv p1, iv p2, iv p3, iv p4, iv p5, iv ((p1 &&& (2147483647 : Int32)) % (5 : Int32)), iv (own_ch p2), iv (own_ch p3), iv (own_ch p4), .unset, .unset, .unset, .unset, .unset, .unset, .unset]) rfl ?_
    refine XS.iload X3.here hx rfl (hb hby at_26) rfl ?_
    exact k
  obtain ⟨_, _, ⟨T4, L4, k4, n4⟩, -, X4, ⟨Lc4, hQ4, l4, y4, z4⟩, st4⟩ := Jvm.LawKit.callS X3 hx (y := own_y28) hown (mvT hZ (own_w hw 1 rfl)) (mvT hZ (own_w hw 2 rfl)) (mvT hZ (own_w hw 3 rfl)) (mvT hZ (own_w hw 4 rfl)) (by decide) (backOf (W := 0) (rm1 l Z a0 hw [] p5 h0 n0 Z0) hZ (own_w hw 4 rfl) (own_w hw 3 rfl) (by decide) (by decide)) (g := (mkF m 28 #[iv p1, iv p2, iv p3, iv p4, iv p5, iv ((p1 &&& (2147483647 : Int32)) % (5 : Int32)), iv (own_ch p2), iv (own_ch p3), iv (own_ch p4), .unset, .unset, .unset, .unset, .unset, .unset, .unset] [(.int p5)])) rfl (by rw [hml]; rfl) (argsL := [(.int p5)]) (rest := []) (lenOf own_pd21 rfl) rfl (by show 2 * 0 + _ ≤ _; exact Nat.le_of_eq rfl) (hb hby at_28) (fun _ _ => ⟨rfl, eq3, (by decide : 0 + 0 ≤ _), (by decide : 0 + 0 ≤ _)⟩)
  dsimp only [Pt.U, Pt.locs, Pt.cells, Pt.slots] at X4 l4 y4 z4 st4 hQ4
  subst l4 y4 z4
  obtain ⟨rfl, N4q, eq4⟩ := hQ4
  have N4 := Fr.app N3 N4q
  refine own_go (B := T4.setTop (mkF m 31 #[iv p1, iv p2, iv p3, iv p4, iv p5, iv ((p1 &&& (2147483647 : Int32)) % (5 : Int32)), iv (own_ch p2), iv (own_ch p3), iv (own_ch p4), .unset, .unset, .unset, .unset, .unset, .unset, .unset] [(.int (own_ch p5))])) (fun t k => st4 _ k) ?_
  refine own_go (B := T4.setTop (mkF m 33 #[iv p1, iv p2, iv p3, iv p4, iv p5, iv ((p1 &&& (2147483647 : Int32)) % (5 : Int32)), iv (own_ch p2), iv (own_ch p3), iv (own_ch p4), iv (own_ch p5), .unset, .unset, .unset, .unset, .unset, .unset] [])) (fun t k => ?_) ?_
  · show own_S p e below T4 (mkF m 31 #[iv p1, iv p2, iv p3, iv p4, iv p5, iv ((p1 &&& (2147483647 : Int32)) % (5 : Int32)), iv (own_ch p2), iv (own_ch p3), iv (own_ch p4), .unset, .unset, .unset, .unset, .unset, .unset, .unset] [(.int (own_ch p5))]) _
    refine XS.istore X4.here hx rfl (hb hby at_31) rfl (l' := #[iv p1, iv p2, iv p3, iv p4, iv p5, iv ((p1 &&& (2147483647 : Int32)) % (5 : Int32)), iv (own_ch p2), iv (own_ch p3), iv (own_ch p4), iv (own_ch p5), .unset, .unset, .unset, .unset, .unset, .unset]) rfl ?_
    exact k
  obtain ⟨vc0, hvc0⟩ : ∃ z : Int32, z = (own_ch p2) := ⟨_, rfl⟩
  refine own_go (B := T4.setTop (mkF m 33 #[iv p1, iv p2, iv p3, iv p4, iv p5, iv ((p1 &&& (2147483647 : Int32)) % (5 : Int32)), iv vc0, iv (own_ch p3), iv (own_ch p4), iv (own_ch p5), .unset, .unset, .unset, .unset, .unset, .unset] [])) (fun t k => by rw [hvc0] at k; exact k) ?_
  obtain ⟨vc1, hvc1⟩ : ∃ z : Int32, z = (own_ch p3) := ⟨_, rfl⟩
  refine own_go (B := T4.setTop (mkF m 33 #[iv p1, iv p2, iv p3, iv p4, iv p5, iv ((p1 &&& (2147483647 : Int32)) % (5 : Int32)), iv vc0, iv vc1, iv (own_ch p4), iv (own_ch p5), .unset, .unset, .unset, .unset, .unset, .unset] [])) (fun t k => by rw [hvc1] at k; exact k) ?_
  obtain ⟨vc2, hvc2⟩ : ∃ z : Int32, z = (own_ch p4) := ⟨_, rfl⟩
  refine own_go (B := T4.setTop (mkF m 33 #[iv p1, iv p2, iv p3, iv p4, iv p5, iv ((p1 &&& (2147483647 : Int32)) % (5 : Int32)), iv vc0, iv vc1, iv vc2, iv (own_ch p5), .unset, .unset, .unset, .unset, .unset, .unset] [])) (fun t k => by rw [hvc2] at k; exact k) ?_
  obtain ⟨vc3, hvc3⟩ : ∃ z : Int32, z = (own_ch p5) := ⟨_, rfl⟩
  refine own_go (B := T4.setTop (mkF m 33 #[iv p1, iv p2, iv p3, iv p4, iv p5, iv ((p1 &&& (2147483647 : Int32)) % (5 : Int32)), iv vc0, iv vc1, iv vc2, iv vc3, .unset, .unset, .unset, .unset, .unset, .unset] [])) (fun t k => by rw [hvc3] at k; exact k) ?_
  obtain ⟨nn, hnn⟩ : ∃ z : Int32, z = ((p1 &&& (2147483647 : Int32)) % (5 : Int32)) := ⟨_, rfl⟩
  refine own_go (B := T4.setTop (mkF m 33 #[iv p1, iv p2, iv p3, iv p4, iv p5, iv nn, iv vc0, iv vc1, iv vc2, iv vc3, .unset, .unset, .unset, .unset, .unset, .unset] [])) (fun t k => by rw [hnn] at k; exact k) ?_
  obtain ⟨hnc0, hrt0, hcv0, hbig0⟩ := own_chF vc0 (by rw [hvc0]; exact own_ch_rng _)
  obtain ⟨hnc1, hrt1, hcv1, hbig1⟩ := own_chF vc1 (by rw [hvc1]; exact own_ch_rng _)
  obtain ⟨hnc2, hrt2, hcv2, hbig2⟩ := own_chF vc2 (by rw [hvc2]; exact own_ch_rng _)
  obtain ⟨hnc3, hrt3, hcv3, hbig3⟩ := own_chF vc3 (by rw [hvc3]; exact own_ch_rng _)
  have hnn1 : nn = 0 ∨ nn = 1 ∨ nn = 2 ∨ nn = 3 ∨ nn = 4 := by rw [hnn]; exact own_five p1
  clear hnn
  rcases hnn1 with rfl | rfl | rfl | rfl | rfl
  · refine own_go (B := T4.setTop (mkF m 43 #[iv p1, iv p2, iv p3, iv p4, iv p5, iv 0, iv vc0, iv vc1, iv vc2, iv vc3, .unset, .unset, .unset, .unset, .unset, .unset] [(.int vc3), (.int vc2), (.int vc1), (.int vc0), (.int 0)])) (fun t k => ?_) ?_
    · show own_S p e below T4 (mkF m 33 #[iv p1, iv p2, iv p3, iv p4, iv p5, iv 0, iv vc0, iv vc1, iv vc2, iv vc3, .unset, .unset, .unset, .unset, .unset, .unset] []) _
      refine XS.iload X4.here hx rfl (hb hby at_33) rfl ?_
      refine XS.iload X4.here hx rfl (hb hby at_35) rfl ?_
      refine XS.iload X4.here hx rfl (hb hby at_37) rfl ?_
      show own_S p e below T4 (mkF m 39 #[iv p1, iv p2, iv p3, iv p4, iv p5, iv 0, iv vc0, iv vc1, iv vc2, iv vc3, .unset, .unset, .unset, .unset, .unset, .unset] [(.int vc1), (.int vc0), (.int 0)]) _
      refine XS.iload X4.here hx rfl (hb hby at_39) rfl ?_
      refine XS.iload X4.here hx rfl (hb hby at_41) rfl ?_
      exact k
    obtain ⟨_, _, ⟨T5, L5, k5, n5⟩, -, X5, ⟨Lc5, hQ5, l5, y5, z5⟩, st5⟩ := Jvm.LawKit.callS X4 hx (y := own_y29) hown (mvT hZ (own_w hw 5 rfl)) (mvT hZ (own_w hw 6 rfl)) (mvT hZ (own_w hw 3 rfl)) (mvT hZ (own_w hw 7 rfl)) (by decide) (backOf (W := 0) (rm2_0 l Z a0 hw [] vc0 vc1 vc2 vc3 h0 n0 Z0 ) hZ (own_w hw 7 rfl) (own_w hw 3 rfl) (by decide) (by decide)) (g := (mkF m 43 #[iv p1, iv p2, iv p3, iv p4, iv p5, iv 0, iv vc0, iv vc1, iv vc2, iv vc3, .unset, .unset, .unset, .unset, .unset, .unset] [(.int vc3), (.int vc2), (.int vc1), (.int vc0), (.int 0)])) rfl (by rw [hml]; rfl) (argsL := [(.int 0), (.int vc0), (.int vc1), (.int vc2), (.int vc3)]) (rest := []) (lenOf own_pd23 rfl) rfl (by show 2 * 0 + _ ≤ _; exact Nat.le_of_eq rfl) (hb hby at_43) (fun _ _ => ⟨rfl, eq4, (by decide : 0 + 1 ≤ _), (by decide : 0 + 0 ≤ _)⟩)
    dsimp only [Pt.U, Pt.locs, Pt.cells, Pt.slots] at X5 l5 y5 z5 st5 hQ5
    subst l5 y5 z5
    obtain ⟨bq5, kq5, rfl, N5q, K5q, q5z, q5g, V5q⟩ := hQ5
    have N5 := Fr.app N4 N5q
    have sz_bq5 : h0.size ≤ bq5 := Nat.le_trans ((Keep.refl h0 [])).1 q5z
    have g_bq5 : n0 ≤ bq5 := q5g
    have O5 := O0.keep K5q all0
    have K5 := (Keep.refl h0 []).trans K5q all0
    refine own_go (B := T5.setTop (mkF m 46 #[iv p1, iv p2, iv p3, iv p4, iv p5, iv 0, iv vc0, iv vc1, iv vc2, iv vc3, .unset, .unset, .unset, .unset, .unset, .unset] [(.ref bq5)])) (fun t k => st5 _ k) ?_
    refine own_go (B := T5.setTop (mkF m 48 #[iv p1, iv p2, iv p3, iv p4, iv p5, iv 0, iv vc0, iv vc1, iv vc2, iv vc3, rv bq5, .unset, .unset, .unset, .unset, .unset] [])) (fun t k => ?_) ?_
    · show own_S p e below T5 (mkF m 46 #[iv p1, iv p2, iv p3, iv p4, iv p5, iv 0, iv vc0, iv vc1, iv vc2, iv vc3, .unset, .unset, .unset, .unset, .unset, .unset] [(.ref bq5)]) _
      refine XS.astore X5.here hx rfl (hb hby at_46) rfl rfl (l' := #[iv p1, iv p2, iv p3, iv p4, iv p5, iv 0, iv vc0, iv vc1, iv vc2, iv vc3, rv bq5, .unset, .unset, .unset, .unset, .unset]) rfl ?_
      exact k
    obtain ⟨T6, h6, X6, e6, E6, A6, D6, -, st6⟩ := newO X5 hx hZ hown (own_w hw 9 rfl) (own_w hw 10 rfl) (own_w hw 11 rfl) rfl (g := (mkF m 48 #[iv p1, iv p2, iv p3, iv p4, iv p5, iv 0, iv vc0, iv vc1, iv vc2, iv vc3, rv bq5, .unset, .unset, .unset, .unset, .unset] [])) rfl (hb hby at_48) (by decide) (by decide)
    obtain ⟨b6, g6⟩ : ∃ z, z = T5.heap.size := ⟨_, rfl⟩
    rw [← g6] at A6 D6 st6
    have g_b6 : n0 ≤ b6 := Nat.le_trans (Nat.le_trans Z0 K5q.1) (Nat.le_of_eq g6.symm)
    have sz_b6 : h0.size ≤ b6 := Nat.le_trans K5.1 (Nat.le_of_eq g6.symm)
    have ne_bq5_b6 : bq5 ≠ b6 := Nat.ne_of_lt (Nat.lt_of_lt_of_le V5q.lt (Nat.le_of_eq g6.symm))
    have c6_V_bq5 := V5q.ext E6
    have K6 := K5.ext E6
    have O6 := O5.ext E6
    have F6_value : Fld Z h6 b6 "java/lang/String" "value" "[B" .null := D6 (Or.inr (own_w hw 24 rfl)) (ty := (.array .byte)) (by decide)
    have F6_coder : Fld Z h6 b6 "java/lang/String" "coder" "B" (.int 0) := D6 (Or.inr (own_w hw 25 rfl)) (ty := .byte) (by decide)
    refine own_go (B := T6.setTop (mkF m 51 #[iv p1, iv p2, iv p3, iv p4, iv p5, iv 0, iv vc0, iv vc1, iv vc2, iv vc3, rv bq5, .unset, .unset, .unset, .unset, .unset] [(.ref b6)])) (fun t k => st6 _ k) ?_
    refine own_go (B := T6.setTop (mkF m 54 #[iv p1, iv p2, iv p3, iv p4, iv p5, iv 0, iv vc0, iv vc1, iv vc2, iv vc3, rv bq5, .unset, .unset, .unset, .unset, .unset] [(.ref bq5), (.ref b6), (.ref b6)])) (fun t k => ?_) ?_
    · show own_S p e below T6 (mkF m 51 #[iv p1, iv p2, iv p3, iv p4, iv p5, iv 0, iv vc0, iv vc1, iv vc2, iv vc3, rv bq5, .unset, .unset, .unset, .unset, .unset] [(.ref b6)]) _
      refine XS.dup X6.here hx rfl (hb hby at_51) rfl rfl ?_
      refine XS.aload X6.here hx rfl (hb hby at_52) rfl rfl ?_
      exact k
    have Ch7p := CHr.ext (own_ext K6) hCH
    obtain ⟨_, _, ⟨T7, L7, k7, n7⟩, -, X7, hS7, hg7, ⟨Lc7, hQ7, l7, y7, z7, hCr7⟩, st7⟩ := X6.specialBackS hx (y := own_y11) rfl hown (mvT hZ (own_w hw 12 rfl)) (mvT hZ (own_w hw 13 rfl)) (mvT hZ (own_w hw 14 rfl)) (by decide) (backOfSH (W := 1) (rm3_0 l Z a0 hw [] b6 bq5 kq5  GC h6 n0 (Nat.le_trans (Nat.le_trans Z0 K5q.1) E6.1) S_C hGC O6 A6 g_b6 F6_value F6_coder c6_V_bq5 (Ne.symm ne_bq5_b6) ) hZ (own_w hw 14 rfl) (own_w hw 11 rfl) (by decide) (by decide) (own_hEL hw) Ch7p.1) (g := (mkF m 54 #[iv p1, iv p2, iv p3, iv p4, iv p5, iv 0, iv vc0, iv vc1, iv vc2, iv vc3, rv bq5, .unset, .unset, .unset, .unset, .unset] [(.ref bq5), (.ref b6), (.ref b6)])) rfl (by rw [hml]; rfl) (Steps.refl _) (a := b6) (argsL := [(.ref bq5)]) (rest := [(.ref b6)]) (lenOf own_pd24 rfl) rfl (by show 2 * 0 + _ ≤ _; exact Nat.le_of_eq rfl) (hb hby at_54) (fun _ _ => ⟨rfl, e6, (by decide : 2 + 2 ≤ _), (by decide : 4 + 4 ≤ _)⟩)
    dsimp only [Pt.U, Pt.locs, Pt.cells, Pt.slots] at X7 l7 y7 z7 st7 hQ7 hS7 hg7 hCr7
    subst l7 y7 z7
    have hS := hS.trans hS7 (Nat.le_trans (Nat.le_trans (Nat.le_trans (Nat.zero_le _) K5q.1) E6.1) (Nat.le_trans (Nat.le_of_eq (congrArg Array.size e6.symm)) hg7))
    have hZ : Z.Warmed39 (s.setVm T7.vm).vm := State.Warmed39.trans hZ hS7.1
    have hown : (s.setVm T7.vm).vm.findClass "com/example/arcas/arcas/http/RequestLineQueryPinLaw" = some m.cls := (hS7.1.alike.findClass _ _).trans hown
    obtain ⟨rfl, N7q, bq7, kq7, K7q, E7q, F7c, F7v, V7q⟩ := hQ7
    have N7 := Fr.app N5 N7q
    have c7_V_bq5 := c6_V_bq5.keep K7q (fun q => ne_bq5_b6 (List.mem_singleton.mp q))
    have O7 := O6.keep K7q (allS g_b6 all0)
    have K7 := K6.trans K7q (allS (Or.inr sz_b6) all0)
    have Ch7 := Ch7p.trans hCr7
    refine own_go (B := T7.setTop (mkF m 57 #[iv p1, iv p2, iv p3, iv p4, iv p5, iv 0, iv vc0, iv vc1, iv vc2, iv vc3, rv bq5, .unset, .unset, .unset, .unset, .unset] [(.ref b6)])) (fun t k => st7.trans k) ?_
    refine own_go (B := T7.setTop (mkF m 62 #[iv p1, iv p2, iv p3, iv p4, iv p5, iv 0, iv vc0, iv vc1, iv vc2, iv vc3, rv bq5, rv b6, iv (-1), .unset, .unset, .unset] [])) (fun t k => ?_) ?_
    · show own_S p e below T7 (mkF m 57 #[iv p1, iv p2, iv p3, iv p4, iv p5, iv 0, iv vc0, iv vc1, iv vc2, iv vc3, rv bq5, .unset, .unset, .unset, .unset, .unset] [(.ref b6)]) _
      refine XS.astore X7.here hx rfl (hb hby at_57) rfl rfl (l' := #[iv p1, iv p2, iv p3, iv p4, iv p5, iv 0, iv vc0, iv vc1, iv vc2, iv vc3, rv bq5, rv b6, .unset, .unset, .unset, .unset]) rfl ?_
      refine XS.iconst X7.here hx rfl (hb hby at_59) ?_
      refine XS.istore X7.here hx rfl (hb hby at_60) rfl (l' := #[iv p1, iv p2, iv p3, iv p4, iv p5, iv 0, iv vc0, iv vc1, iv vc2, iv vc3, rv bq5, rv b6, iv (-1), .unset, .unset, .unset]) rfl ?_
      exact k
    refine own_go (B := T7.setTop (mkF m 151 #[iv p1, iv p2, iv p3, iv p4, iv p5, iv 0, iv vc0, iv vc1, iv vc2, iv vc3, rv bq5, rv b6, iv (-1), iv 0, iv 0, .unset] [(.ref b6)])) (fun t k => ?_) ?_
    · show own_S p e below T7 (mkF m 62 #[iv p1, iv p2, iv p3, iv p4, iv p5, iv 0, iv vc0, iv vc1, iv vc2, iv vc3, rv bq5, rv b6, iv (-1), .unset, .unset, .unset] []) _
      refine XS.iload X7.here hx rfl (hb hby at_62) rfl ?_
      refine XS.iconst X7.here hx rfl (hb hby at_64) ?_
      refine XS.icmpYes X7.here hx rfl (pc0 := 65) (pc' := 78) rfl (hb hby at_65) rfl (flt (by decide)).2.2.2 (by decide) (by decide) ?_
      show own_S p e below T7 (mkF m 78 #[iv p1, iv p2, iv p3, iv p4, iv p5, iv 0, iv vc0, iv vc1, iv vc2, iv vc3, rv bq5, rv b6, iv (-1), .unset, .unset, .unset] []) _
      refine XS.iload X7.here hx rfl (hb hby at_78) rfl ?_
      refine XS.iconst X7.here hx rfl (hb hby at_80) ?_
      refine XS.icmpYes X7.here hx rfl (pc0 := 81) (pc' := 94) rfl (hb hby at_81) rfl (flt (by decide)).2.2.2 (by decide) (by decide) ?_
      show own_S p e below T7 (mkF m 94 #[iv p1, iv p2, iv p3, iv p4, iv p5, iv 0, iv vc0, iv vc1, iv vc2, iv vc3, rv bq5, rv b6, iv (-1), .unset, .unset, .unset] []) _
      refine XS.iload X7.here hx rfl (hb hby at_94) rfl ?_
      refine XS.iconst X7.here hx rfl (hb hby at_96) ?_
      refine XS.icmpYes X7.here hx rfl (pc0 := 97) (pc' := 110) rfl (hb hby at_97) rfl (flt (by decide)).2.2.2 (by decide) (by decide) ?_
      show own_S p e below T7 (mkF m 110 #[iv p1, iv p2, iv p3, iv p4, iv p5, iv 0, iv vc0, iv vc1, iv vc2, iv vc3, rv bq5, rv b6, iv (-1), .unset, .unset, .unset] []) _
      refine XS.iload X7.here hx rfl (hb hby at_110) rfl ?_
      refine XS.ifYes X7.here hx rfl (pc0 := 112) (pc' := 125) rfl (hb hby at_112) rfl ((if0 _ _).trans (flt (by decide)).2.2.2) (by decide) (by decide) ?_
      refine XS.iload X7.here hx rfl (hb hby at_125) rfl ?_
      show own_S p e below T7 (mkF m 127 #[iv p1, iv p2, iv p3, iv p4, iv p5, iv 0, iv vc0, iv vc1, iv vc2, iv vc3, rv bq5, rv b6, iv (-1), .unset, .unset, .unset] [(.int (-1))]) _
      refine XS.ifNo X7.here hx rfl (hb hby at_127) rfl ((if0 _ _).trans (tlt (by decide)).2.1) ?_
      refine XS.iconst X7.here hx rfl (hb hby at_130) ?_
      refine XS.goto X7.here hx rfl (pc0 := 131) (pc' := 141) rfl (hb hby at_131) (by decide) (by decide) ?_
      show own_S p e below T7 (mkF m 141 #[iv p1, iv p2, iv p3, iv p4, iv p5, iv 0, iv vc0, iv vc1, iv vc2, iv vc3, rv bq5, rv b6, iv (-1), .unset, .unset, .unset] [(.int 0)]) _
      refine XS.istore X7.here hx rfl (hb hby at_141) rfl (l' := #[iv p1, iv p2, iv p3, iv p4, iv p5, iv 0, iv vc0, iv vc1, iv vc2, iv vc3, rv bq5, rv b6, iv (-1), iv 0, .unset, .unset]) rfl ?_
      refine XS.iload X7.here hx rfl (hb hby at_143) rfl ?_
      refine XS.iconst X7.here hx rfl (hb hby at_145) ?_
      show own_S p e below T7 (mkF m 146 #[iv p1, iv p2, iv p3, iv p4, iv p5, iv 0, iv vc0, iv vc1, iv vc2, iv vc3, rv bq5, rv b6, iv (-1), iv 0, .unset, .unset] [(.int 1), (.int (-1))]) _
      refine XS.iadd X7.here hx rfl (hb hby at_146) rfl ?_
      refine XS.istore X7.here hx rfl (hb hby at_147) rfl (l' := #[iv p1, iv p2, iv p3, iv p4, iv p5, iv 0, iv vc0, iv vc1, iv vc2, iv vc3, rv bq5, rv b6, iv (-1), iv 0, iv 0, .unset]) rfl ?_
      refine XS.aload X7.here hx rfl (hb hby at_149) rfl rfl ?_
      exact k
    obtain ⟨_, _, ⟨T8, L8, k8, n8⟩, -, X8, hS8, hg8, ⟨Lc8, hQ8, l8, y8, z8, hCr8⟩, st8⟩ := callSS X7 hx (y := own_y30) hown (mvT hZ (own_w hw 30 rfl)) (mvT hZ (own_w hw 31 rfl)) (mvT hZ (own_w hw 32 rfl)) (mvT hZ (own_w hw 33 rfl)) (by decide) (backOfSH (W := 0) (rm6n l Z a0 hw [] b6 (-1 : Int32) T7.heap n0 (Nat.le_trans (Nat.le_trans (Nat.le_trans Z0 K5q.1) E6.1) K7q.1) E7q (rm7g l Z a0 hw [] b6 (63 : Int32) bq7 kq7 (0 : Int32) [] (-1 : Int32) GC T7.heap n0 (Nat.le_trans (Nat.le_trans (Nat.le_trans Z0 K5q.1) E6.1) K7q.1) S_C hGC O7 E7q F7c F7v V7q (rm12_0 l Z a0 hw [] bq7 kq7  (-1 : Int32) T7.heap n0 (Nat.le_trans (Nat.le_trans (Nat.le_trans Z0 K5q.1) E6.1) K7q.1) V7q rfl)) (by decide)) hZ (own_w hw 33 rfl) (own_w hw 32 rfl) (by decide) (by decide) (own_hEL hw) Ch7.1) (g := (mkF m 151 #[iv p1, iv p2, iv p3, iv p4, iv p5, iv 0, iv vc0, iv vc1, iv vc2, iv vc3, rv bq5, rv b6, iv (-1), iv 0, iv 0, .unset] [(.ref b6)])) rfl (by rw [hml]; rfl) (argsL := [(.ref b6)]) (rest := []) (lenOf own_pd25 rfl) rfl (by show 2 * 0 + _ ≤ _; exact Nat.le_of_eq rfl) (hb hby at_151) (fun _ _ => ⟨rfl, rfl, (by decide : 4 + 2 ≤ _), (by decide : 8 + 8 ≤ _)⟩)
    dsimp only [Pt.U, Pt.locs, Pt.cells, Pt.slots] at X8 l8 y8 z8 st8 hQ8 hS8 hg8 hCr8
    subst l8 y8 z8
    have hS := hS.trans hS8 (Nat.le_trans (Nat.le_refl _) (Nat.le_trans (Nat.le_of_eq (congrArg Array.size rfl.symm)) hg8))
    have hZ : Z.Warmed39 (s.setVm T8.vm).vm := State.Warmed39.trans hZ hS8.1
    have hown : (s.setVm T8.vm).vm.findClass "com/example/arcas/arcas/http/RequestLineQueryPinLaw" = some m.cls := (hS8.1.alike.findClass _ _).trans hown
    obtain ⟨aq8, bq8, kq8, rfl, N8q, K8q, E8q, F8c, F8v, V8q⟩ := hQ8
    have N8 := Fr.app N7 N8q
    have c8_V_bq5 := c7_V_bq5.keep K8q (List.not_mem_nil)
    have c8_E_b6 := E7q.keep K8q
    have c8_F_b6_coder := F7c.keep K8q (List.not_mem_nil)
    have c8_F_b6_value := F7v.keep K8q (List.not_mem_nil)
    have c8_V_bq7 := V7q.keep K8q (List.not_mem_nil)
    have O8 := O7.keep K8q all0
    have K8 := K7.trans K8q all0
    have Ch8 := Ch7.trans hCr8
    refine own_go (B := T8.setTop (mkF m 154 #[iv p1, iv p2, iv p3, iv p4, iv p5, iv 0, iv vc0, iv vc1, iv vc2, iv vc3, rv bq5, rv b6, iv (-1), iv 0, iv 0, .unset] [(.ref aq8)])) (fun t k => st8.trans k) ?_
    refine own_go (B := T8.setTop (mkF m 156 #[iv p1, iv p2, iv p3, iv p4, iv p5, iv 0, iv vc0, iv vc1, iv vc2, iv vc3, rv bq5, rv b6, iv (-1), iv 0, iv 0, rv aq8] [])) (fun t k => ?_) ?_
    · show own_S p e below T8 (mkF m 154 #[iv p1, iv p2, iv p3, iv p4, iv p5, iv 0, iv vc0, iv vc1, iv vc2, iv vc3, rv bq5, rv b6, iv (-1), iv 0, iv 0, .unset] [(.ref aq8)]) _
      refine XS.astore X8.here hx rfl (hb hby at_154) rfl rfl (l' := #[iv p1, iv p2, iv p3, iv p4, iv p5, iv 0, iv vc0, iv vc1, iv vc2, iv vc3, rv bq5, rv b6, iv (-1), iv 0, iv 0, rv aq8]) rfl ?_
      exact k
    exact own_tail p1 p2 p3 p4 p5 (0 : Int32) vc0 vc1 vc2 vc3 (-1 : Int32) (0 : Int32) (0 : Int32) bq5 b6 aq8 bq8 kq8 kq5 [] [] (0 : Int32) GC GF X8 hx hZ hw hby hml hown Bd hS rfl N8 (Nat.le_trans (Nat.le_trans (Nat.le_trans (Nat.le_trans Z0 K5q.1) E6.1) K7q.1) K8q.1) (Nat.le_refl _) (by decide) (by decide) S_C hGC O8 S_F is_GF E8q F8c F8v V8q c8_V_bq5 (fun q => absurd q (by decide)) (fun q => absurd q (by decide)) (fun q => absurd q (by decide))
  · refine own_go (B := T4.setTop (mkF m 43 #[iv p1, iv p2, iv p3, iv p4, iv p5, iv 1, iv vc0, iv vc1, iv vc2, iv vc3, .unset, .unset, .unset, .unset, .unset, .unset] [(.int vc3), (.int vc2), (.int vc1), (.int vc0), (.int 1)])) (fun t k => ?_) ?_
    · show own_S p e below T4 (mkF m 33 #[iv p1, iv p2, iv p3, iv p4, iv p5, iv 1, iv vc0, iv vc1, iv vc2, iv vc3, .unset, .unset, .unset, .unset, .unset, .unset] []) _
      refine XS.iload X4.here hx rfl (hb hby at_33) rfl ?_
      refine XS.iload X4.here hx rfl (hb hby at_35) rfl ?_
      refine XS.iload X4.here hx rfl (hb hby at_37) rfl ?_
      show own_S p e below T4 (mkF m 39 #[iv p1, iv p2, iv p3, iv p4, iv p5, iv 1, iv vc0, iv vc1, iv vc2, iv vc3, .unset, .unset, .unset, .unset, .unset, .unset] [(.int vc1), (.int vc0), (.int 1)]) _
      refine XS.iload X4.here hx rfl (hb hby at_39) rfl ?_
      refine XS.iload X4.here hx rfl (hb hby at_41) rfl ?_
      exact k
    obtain ⟨_, _, ⟨T9, L9, k9, n9⟩, -, X9, ⟨Lc9, hQ9, l9, y9, z9⟩, st9⟩ := Jvm.LawKit.callS X4 hx (y := own_y29) hown (mvT hZ (own_w hw 5 rfl)) (mvT hZ (own_w hw 6 rfl)) (mvT hZ (own_w hw 3 rfl)) (mvT hZ (own_w hw 7 rfl)) (by decide) (backOf (W := 0) (rm2_1 l Z a0 hw [] vc0 vc1 vc2 vc3 h0 n0 Z0 hnc0) hZ (own_w hw 7 rfl) (own_w hw 3 rfl) (by decide) (by decide)) (g := (mkF m 43 #[iv p1, iv p2, iv p3, iv p4, iv p5, iv 1, iv vc0, iv vc1, iv vc2, iv vc3, .unset, .unset, .unset, .unset, .unset, .unset] [(.int vc3), (.int vc2), (.int vc1), (.int vc0), (.int 1)])) rfl (by rw [hml]; rfl) (argsL := [(.int 1), (.int vc0), (.int vc1), (.int vc2), (.int vc3)]) (rest := []) (lenOf own_pd23 rfl) rfl (by show 2 * 0 + _ ≤ _; exact Nat.le_of_eq rfl) (hb hby at_43) (fun _ _ => ⟨rfl, eq4, (by decide : 0 + 1 ≤ _), (by decide : 0 + 1 ≤ _)⟩)
    dsimp only [Pt.U, Pt.locs, Pt.cells, Pt.slots] at X9 l9 y9 z9 st9 hQ9
    subst l9 y9 z9
    obtain ⟨bq9, kq9, rfl, N9q, K9q, q9z, q9g, V9q⟩ := hQ9
    have N9 := Fr.app N4 N9q
    have sz_bq9 : h0.size ≤ bq9 := Nat.le_trans ((Keep.refl h0 [])).1 q9z
    have g_bq9 : n0 ≤ bq9 := q9g
    have O9 := O0.keep K9q all0
    have K9 := (Keep.refl h0 []).trans K9q all0
    refine own_go (B := T9.setTop (mkF m 46 #[iv p1, iv p2, iv p3, iv p4, iv p5, iv 1, iv vc0, iv vc1, iv vc2, iv vc3, .unset, .unset, .unset, .unset, .unset, .unset] [(.ref bq9)])) (fun t k => st9 _ k) ?_
    refine own_go (B := T9.setTop (mkF m 48 #[iv p1, iv p2, iv p3, iv p4, iv p5, iv 1, iv vc0, iv vc1, iv vc2, iv vc3, rv bq9, .unset, .unset, .unset, .unset, .unset] [])) (fun t k => ?_) ?_
    · show own_S p e below T9 (mkF m 46 #[iv p1, iv p2, iv p3, iv p4, iv p5, iv 1, iv vc0, iv vc1, iv vc2, iv vc3, .unset, .unset, .unset, .unset, .unset, .unset] [(.ref bq9)]) _
      refine XS.astore X9.here hx rfl (hb hby at_46) rfl rfl (l' := #[iv p1, iv p2, iv p3, iv p4, iv p5, iv 1, iv vc0, iv vc1, iv vc2, iv vc3, rv bq9, .unset, .unset, .unset, .unset, .unset]) rfl ?_
      exact k
    obtain ⟨T10, h10, X10, e10, E10, A10, D10, -, st10⟩ := newO X9 hx hZ hown (own_w hw 9 rfl) (own_w hw 10 rfl) (own_w hw 11 rfl) rfl (g := (mkF m 48 #[iv p1, iv p2, iv p3, iv p4, iv p5, iv 1, iv vc0, iv vc1, iv vc2, iv vc3, rv bq9, .unset, .unset, .unset, .unset, .unset] [])) rfl (hb hby at_48) (by decide) (by decide)
    obtain ⟨b10, g10⟩ : ∃ z, z = T9.heap.size := ⟨_, rfl⟩
    rw [← g10] at A10 D10 st10
    have g_b10 : n0 ≤ b10 := Nat.le_trans (Nat.le_trans Z0 K9q.1) (Nat.le_of_eq g10.symm)
    have sz_b10 : h0.size ≤ b10 := Nat.le_trans K9.1 (Nat.le_of_eq g10.symm)
    have ne_bq9_b10 : bq9 ≠ b10 := Nat.ne_of_lt (Nat.lt_of_lt_of_le V9q.lt (Nat.le_of_eq g10.symm))
    have c10_V_bq9 := V9q.ext E10
    have K10 := K9.ext E10
    have O10 := O9.ext E10
    have F10_value : Fld Z h10 b10 "java/lang/String" "value" "[B" .null := D10 (Or.inr (own_w hw 24 rfl)) (ty := (.array .byte)) (by decide)
    have F10_coder : Fld Z h10 b10 "java/lang/String" "coder" "B" (.int 0) := D10 (Or.inr (own_w hw 25 rfl)) (ty := .byte) (by decide)
    refine own_go (B := T10.setTop (mkF m 51 #[iv p1, iv p2, iv p3, iv p4, iv p5, iv 1, iv vc0, iv vc1, iv vc2, iv vc3, rv bq9, .unset, .unset, .unset, .unset, .unset] [(.ref b10)])) (fun t k => st10 _ k) ?_
    refine own_go (B := T10.setTop (mkF m 54 #[iv p1, iv p2, iv p3, iv p4, iv p5, iv 1, iv vc0, iv vc1, iv vc2, iv vc3, rv bq9, .unset, .unset, .unset, .unset, .unset] [(.ref bq9), (.ref b10), (.ref b10)])) (fun t k => ?_) ?_
    · show own_S p e below T10 (mkF m 51 #[iv p1, iv p2, iv p3, iv p4, iv p5, iv 1, iv vc0, iv vc1, iv vc2, iv vc3, rv bq9, .unset, .unset, .unset, .unset, .unset] [(.ref b10)]) _
      refine XS.dup X10.here hx rfl (hb hby at_51) rfl rfl ?_
      refine XS.aload X10.here hx rfl (hb hby at_52) rfl rfl ?_
      exact k
    obtain ⟨_, _, ⟨T11, L11, k11, n11⟩, -, X11, ⟨Lc11, hQ11, l11, y11, z11⟩, st11⟩ := X10.specialBack hx (y := own_y11) rfl hown (mvT hZ (own_w hw 12 rfl)) (mvT hZ (own_w hw 13 rfl)) (mvT hZ (own_w hw 14 rfl)) (by decide) (backOf (W := 1) (rm3_1 l Z a0 hw [] b10 bq9 kq9 vc0 GC h10 n0 (Nat.le_trans (Nat.le_trans Z0 K9q.1) E10.1) S_C hGC O10 A10 g_b10 F10_value F10_coder c10_V_bq9 (Ne.symm ne_bq9_b10) hbig0) hZ (own_w hw 14 rfl) (own_w hw 11 rfl) (by decide) (by decide)) (g := (mkF m 54 #[iv p1, iv p2, iv p3, iv p4, iv p5, iv 1, iv vc0, iv vc1, iv vc2, iv vc3, rv bq9, .unset, .unset, .unset, .unset, .unset] [(.ref bq9), (.ref b10), (.ref b10)])) rfl (by rw [hml]; rfl) (Steps.refl _) (a := b10) (argsL := [(.ref bq9)]) (rest := [(.ref b10)]) (lenOf own_pd24 rfl) rfl (by show 2 * 0 + _ ≤ _; exact Nat.le_of_eq rfl) (hb hby at_54) (fun _ _ => ⟨rfl, e10, (by decide : 2 + 1 ≤ _), (by decide : 5 + 1 ≤ _)⟩)
    dsimp only [Pt.U, Pt.locs, Pt.cells, Pt.slots] at X11 l11 y11 z11 st11 hQ11
    subst l11 y11 z11
    obtain ⟨rfl, N11q, bq11, kq11, K11q, E11q, F11c, F11v, V11q⟩ := hQ11
    have N11 := Fr.app N9 N11q
    have c11_V_bq9 := c10_V_bq9.keep K11q (fun q => ne_bq9_b10 (List.mem_singleton.mp q))
    have O11 := O10.keep K11q (allS g_b10 all0)
    have K11 := K10.trans K11q (allS (Or.inr sz_b10) all0)
    refine own_go (B := T11.setTop (mkF m 57 #[iv p1, iv p2, iv p3, iv p4, iv p5, iv 1, iv vc0, iv vc1, iv vc2, iv vc3, rv bq9, .unset, .unset, .unset, .unset, .unset] [(.ref b10)])) (fun t k => st11.trans k) ?_
    refine own_go (B := T11.setTop (mkF m 62 #[iv p1, iv p2, iv p3, iv p4, iv p5, iv 1, iv vc0, iv vc1, iv vc2, iv vc3, rv bq9, rv b10, iv (-1), .unset, .unset, .unset] [])) (fun t k => ?_) ?_
    · show own_S p e below T11 (mkF m 57 #[iv p1, iv p2, iv p3, iv p4, iv p5, iv 1, iv vc0, iv vc1, iv vc2, iv vc3, rv bq9, .unset, .unset, .unset, .unset, .unset] [(.ref b10)]) _
      refine XS.astore X11.here hx rfl (hb hby at_57) rfl rfl (l' := #[iv p1, iv p2, iv p3, iv p4, iv p5, iv 1, iv vc0, iv vc1, iv vc2, iv vc3, rv bq9, rv b10, .unset, .unset, .unset, .unset]) rfl ?_
      refine XS.iconst X11.here hx rfl (hb hby at_59) ?_
      refine XS.istore X11.here hx rfl (hb hby at_60) rfl (l' := #[iv p1, iv p2, iv p3, iv p4, iv p5, iv 1, iv vc0, iv vc1, iv vc2, iv vc3, rv bq9, rv b10, iv (-1), .unset, .unset, .unset]) rfl ?_
      exact k
    by_cases hq0 : vc0 = (63 : Int32)
    · refine own_go (B := T11.setTop (mkF m 151 #[iv p1, iv p2, iv p3, iv p4, iv p5, iv 1, iv vc0, iv vc1, iv vc2, iv vc3, rv bq9, rv b10, iv 0, iv 0, iv 1, .unset] [(.ref b10)])) (fun t k => ?_) ?_
      · show own_S p e below T11 (mkF m 62 #[iv p1, iv p2, iv p3, iv p4, iv p5, iv 1, iv vc0, iv vc1, iv vc2, iv vc3, rv bq9, rv b10, iv (-1), .unset, .unset, .unset] []) _
        refine XS.iload X11.here hx rfl (hb hby at_62) rfl ?_
        refine XS.iconst X11.here hx rfl (hb hby at_64) ?_
        refine XS.icmpYes X11.here hx rfl (pc0 := 65) (pc' := 78) rfl (hb hby at_65) rfl (flt (by decide)).2.2.2 (by decide) (by decide) ?_
        show own_S p e below T11 (mkF m 78 #[iv p1, iv p2, iv p3, iv p4, iv p5, iv 1, iv vc0, iv vc1, iv vc2, iv vc3, rv bq9, rv b10, iv (-1), .unset, .unset, .unset] []) _
        refine XS.iload X11.here hx rfl (hb hby at_78) rfl ?_
        refine XS.iconst X11.here hx rfl (hb hby at_80) ?_
        refine XS.icmpYes X11.here hx rfl (pc0 := 81) (pc' := 94) rfl (hb hby at_81) rfl (flt (by decide)).2.2.2 (by decide) (by decide) ?_
        show own_S p e below T11 (mkF m 94 #[iv p1, iv p2, iv p3, iv p4, iv p5, iv 1, iv vc0, iv vc1, iv vc2, iv vc3, rv bq9, rv b10, iv (-1), .unset, .unset, .unset] []) _
        refine XS.iload X11.here hx rfl (hb hby at_94) rfl ?_
        refine XS.iconst X11.here hx rfl (hb hby at_96) ?_
        refine XS.icmpYes X11.here hx rfl (pc0 := 97) (pc' := 110) rfl (hb hby at_97) rfl (flt (by decide)).2.2.2 (by decide) (by decide) ?_
        show own_S p e below T11 (mkF m 110 #[iv p1, iv p2, iv p3, iv p4, iv p5, iv 1, iv vc0, iv vc1, iv vc2, iv vc3, rv bq9, rv b10, iv (-1), .unset, .unset, .unset] []) _
        refine XS.iload X11.here hx rfl (hb hby at_110) rfl ?_
        refine XS.ifNo X11.here hx rfl (hb hby at_112) rfl ((if0 _ _).trans (tlt (by decide)).2.2.2) ?_
        refine XS.iload X11.here hx rfl (hb hby at_115) rfl ?_
        show own_S p e below T11 (mkF m 117 #[iv p1, iv p2, iv p3, iv p4, iv p5, iv 1, iv vc0, iv vc1, iv vc2, iv vc3, rv bq9, rv b10, iv (-1), .unset, .unset, .unset] [(.int vc0)]) _
        refine XS.bipush X11.here hx rfl (hb hby at_117) ?_
        refine XS.icmpNo X11.here hx rfl (hb hby at_119) rfl (teq hq0).2 ?_
        refine XS.iconst X11.here hx rfl (hb hby at_122) ?_
        show own_S p e below T11 (mkF m 123 #[iv p1, iv p2, iv p3, iv p4, iv p5, iv 1, iv vc0, iv vc1, iv vc2, iv vc3, rv bq9, rv b10, iv (-1), .unset, .unset, .unset] [(.int 0)]) _
        refine XS.istore X11.here hx rfl (hb hby at_123) rfl (l' := #[iv p1, iv p2, iv p3, iv p4, iv p5, iv 1, iv vc0, iv vc1, iv vc2, iv vc3, rv bq9, rv b10, iv 0, .unset, .unset, .unset]) rfl ?_
        refine XS.iload X11.here hx rfl (hb hby at_125) rfl ?_
        refine XS.ifYes X11.here hx rfl (pc0 := 127) (pc' := 134) rfl (hb hby at_127) rfl ((if0 _ _).trans (flt (by decide)).2.1) (by decide) (by decide) ?_
        show own_S p e below T11 (mkF m 134 #[iv p1, iv p2, iv p3, iv p4, iv p5, iv 1, iv vc0, iv vc1, iv vc2, iv vc3, rv bq9, rv b10, iv 0, .unset, .unset, .unset] []) _
        refine XS.iload X11.here hx rfl (hb hby at_134) rfl ?_
        refine XS.iload X11.here hx rfl (hb hby at_136) rfl ?_
        refine XS.isub X11.here hx rfl (hb hby at_138) rfl ?_
        show own_S p e below T11 (mkF m 139 #[iv p1, iv p2, iv p3, iv p4, iv p5, iv 1, iv vc0, iv vc1, iv vc2, iv vc3, rv bq9, rv b10, iv 0, .unset, .unset, .unset] [(.int 1)]) _
        refine XS.iconst X11.here hx rfl (hb hby at_139) ?_
        refine XS.isub X11.here hx rfl (hb hby at_140) rfl ?_
        refine XS.istore X11.here hx rfl (hb hby at_141) rfl (l' := #[iv p1, iv p2, iv p3, iv p4, iv p5, iv 1, iv vc0, iv vc1, iv vc2, iv vc3, rv bq9, rv b10, iv 0, iv 0, .unset, .unset]) rfl ?_
        show own_S p e below T11 (mkF m 143 #[iv p1, iv p2, iv p3, iv p4, iv p5, iv 1, iv vc0, iv vc1, iv vc2, iv vc3, rv bq9, rv b10, iv 0, iv 0, .unset, .unset] []) _
        refine XS.iload X11.here hx rfl (hb hby at_143) rfl ?_
        refine XS.iconst X11.here hx rfl (hb hby at_145) ?_
        refine XS.iadd X11.here hx rfl (hb hby at_146) rfl ?_
        show own_S p e below T11 (mkF m 147 #[iv p1, iv p2, iv p3, iv p4, iv p5, iv 1, iv vc0, iv vc1, iv vc2, iv vc3, rv bq9, rv b10, iv 0, iv 0, .unset, .unset] [(.int 1)]) _
        refine XS.istore X11.here hx rfl (hb hby at_147) rfl (l' := #[iv p1, iv p2, iv p3, iv p4, iv p5, iv 1, iv vc0, iv vc1, iv vc2, iv vc3, rv bq9, rv b10, iv 0, iv 0, iv 1, .unset]) rfl ?_
        refine XS.aload X11.here hx rfl (hb hby at_149) rfl rfl ?_
        exact k
      have Ch12p := CHr.ext (own_ext K11) hCH
      obtain ⟨_, _, ⟨T12, L12, k12, n12⟩, -, X12, hS12, hg12, ⟨Lc12, hQ12, l12, y12, z12, hCr12⟩, st12⟩ := callSS X11 hx (y := own_y30) hown (mvT hZ (own_w hw 30 rfl)) (mvT hZ (own_w hw 31 rfl)) (mvT hZ (own_w hw 32 rfl)) (mvT hZ (own_w hw 33 rfl)) (by decide) (backOfSH (W := 0) (rm6yh l Z a0 hw [] b10 (0 : Int32) (0 : Int32) [] T11.heap n0 (Nat.le_trans (Nat.le_trans (Nat.le_trans Z0 K9q.1) E10.1) K11q.1) E11q (rm7g l Z a0 hw [] b10 (63 : Int32) bq11 kq11 (1 : Int32) [(.int (own_b vc0))] (0 : Int32) GC T11.heap n0 (Nat.le_trans (Nat.le_trans (Nat.le_trans Z0 K9q.1) E10.1) K11q.1) S_C hGC O11 E11q F11c F11v V11q (rm12_1 l Z a0 hw [] bq11 kq11 (own_b vc0) (0 : Int32) T11.heap n0 (Nat.le_trans (Nat.le_trans (Nat.le_trans Z0 K9q.1) E10.1) K11q.1) V11q (by rw [own_ix1, if_pos (own_yb hq0)]))) (by decide) (rm21gh l Z a0 hw [] b10 (1 : Int32) (1 : Int32) bq11 kq11 [(.int (own_b vc0))] [] GC GF T11.heap n0 (Nat.le_trans (Nat.le_trans (Nat.le_trans Z0 K9q.1) E10.1) K11q.1) S_C hGC O11 S_F is_GF E11q F11c F11v V11q (by decide) (by decide) (rm25_1_1 l Z a0 hw [] bq11 kq11 (own_b vc0) T11.heap n0 (Nat.le_trans (Nat.le_trans (Nat.le_trans Z0 K9q.1) E10.1) K11q.1) V11q))) hZ (own_w hw 33 rfl) (own_w hw 32 rfl) (by decide) (by decide) (own_hEL hw) Ch12p.1) (g := (mkF m 151 #[iv p1, iv p2, iv p3, iv p4, iv p5, iv 1, iv vc0, iv vc1, iv vc2, iv vc3, rv bq9, rv b10, iv 0, iv 0, iv 1, .unset] [(.ref b10)])) rfl (by rw [hml]; rfl) (argsL := [(.ref b10)]) (rest := []) (lenOf own_pd25 rfl) rfl (by show 2 * 0 + _ ≤ _; exact Nat.le_of_eq rfl) (hb hby at_151) (fun _ _ => ⟨rfl, rfl, (by decide : 3 + 2 ≤ _), (by decide : 6 + 8 ≤ _)⟩)
      dsimp only [Pt.U, Pt.locs, Pt.cells, Pt.slots] at X12 l12 y12 z12 st12 hQ12 hS12 hg12 hCr12
      subst l12 y12 z12
      have hS := hS.trans hS12 (Nat.le_trans (Nat.le_trans (Nat.le_trans (Nat.le_trans (Nat.zero_le _) K9q.1) E10.1) K11q.1) (Nat.le_trans (Nat.le_of_eq (congrArg Array.size rfl.symm)) hg12))
      have hZ : Z.Warmed39 (s.setVm T12.vm).vm := State.Warmed39.trans hZ hS12.1
      have hown : (s.setVm T12.vm).vm.findClass "com/example/arcas/arcas/http/RequestLineQueryPinLaw" = some m.cls := (hS12.1.alike.findClass _ _).trans hown
      obtain ⟨aq12, bq12, kq12, rfl, N12q, K12q, E12q, F12c, F12v, V12q⟩ := hQ12
      have N12 := Fr.app N11 N12q
      have c12_V_bq9 := c11_V_bq9.keep K12q (List.not_mem_nil)
      have c12_E_b10 := E11q.keep K12q
      have c12_F_b10_coder := F11c.keep K12q (List.not_mem_nil)
      have c12_F_b10_value := F11v.keep K12q (List.not_mem_nil)
      have c12_V_bq11 := V11q.keep K12q (List.not_mem_nil)
      have O12 := O11.keep K12q all0
      have K12 := K11.trans K12q all0
      have Ch12 := Ch12p.trans hCr12
      refine own_go (B := T12.setTop (mkF m 154 #[iv p1, iv p2, iv p3, iv p4, iv p5, iv 1, iv vc0, iv vc1, iv vc2, iv vc3, rv bq9, rv b10, iv 0, iv 0, iv 1, .unset] [(.ref aq12)])) (fun t k => st12.trans k) ?_
      refine own_go (B := T12.setTop (mkF m 156 #[iv p1, iv p2, iv p3, iv p4, iv p5, iv 1, iv vc0, iv vc1, iv vc2, iv vc3, rv bq9, rv b10, iv 0, iv 0, iv 1, rv aq12] [])) (fun t k => ?_) ?_
      · show own_S p e below T12 (mkF m 154 #[iv p1, iv p2, iv p3, iv p4, iv p5, iv 1, iv vc0, iv vc1, iv vc2, iv vc3, rv bq9, rv b10, iv 0, iv 0, iv 1, .unset] [(.ref aq12)]) _
        refine XS.astore X12.here hx rfl (hb hby at_154) rfl rfl (l' := #[iv p1, iv p2, iv p3, iv p4, iv p5, iv 1, iv vc0, iv vc1, iv vc2, iv vc3, rv bq9, rv b10, iv 0, iv 0, iv 1, rv aq12]) rfl ?_
        exact k
      exact own_tail p1 p2 p3 p4 p5 (1 : Int32) vc0 vc1 vc2 vc3 (0 : Int32) (0 : Int32) (1 : Int32) bq9 b10 aq12 bq12 kq12 kq9 [] [(.int vc0)] (1 : Int32) GC GF X12 hx hZ hw hby hml hown Bd hS rfl N12 (Nat.le_trans (Nat.le_trans (Nat.le_trans (Nat.le_trans Z0 K9q.1) E10.1) K11q.1) K12q.1) (Nat.le_refl _) (by decide) (by decide) S_C hGC O12 S_F is_GF E12q F12c F12v V12q c12_V_bq9 (fun q => absurd q (by decide)) (fun q => absurd q (by decide)) (fun q => absurd q (by decide))
    · refine own_go (B := T11.setTop (mkF m 151 #[iv p1, iv p2, iv p3, iv p4, iv p5, iv 1, iv vc0, iv vc1, iv vc2, iv vc3, rv bq9, rv b10, iv (-1), iv 0, iv 0, .unset] [(.ref b10)])) (fun t k => ?_) ?_
      · show own_S p e below T11 (mkF m 62 #[iv p1, iv p2, iv p3, iv p4, iv p5, iv 1, iv vc0, iv vc1, iv vc2, iv vc3, rv bq9, rv b10, iv (-1), .unset, .unset, .unset] []) _
        refine XS.iload X11.here hx rfl (hb hby at_62) rfl ?_
        refine XS.iconst X11.here hx rfl (hb hby at_64) ?_
        refine XS.icmpYes X11.here hx rfl (pc0 := 65) (pc' := 78) rfl (hb hby at_65) rfl (flt (by decide)).2.2.2 (by decide) (by decide) ?_
        show own_S p e below T11 (mkF m 78 #[iv p1, iv p2, iv p3, iv p4, iv p5, iv 1, iv vc0, iv vc1, iv vc2, iv vc3, rv bq9, rv b10, iv (-1), .unset, .unset, .unset] []) _
        refine XS.iload X11.here hx rfl (hb hby at_78) rfl ?_
        refine XS.iconst X11.here hx rfl (hb hby at_80) ?_
        refine XS.icmpYes X11.here hx rfl (pc0 := 81) (pc' := 94) rfl (hb hby at_81) rfl (flt (by decide)).2.2.2 (by decide) (by decide) ?_
        show own_S p e below T11 (mkF m 94 #[iv p1, iv p2, iv p3, iv p4, iv p5, iv 1, iv vc0, iv vc1, iv vc2, iv vc3, rv bq9, rv b10, iv (-1), .unset, .unset, .unset] []) _
        refine XS.iload X11.here hx rfl (hb hby at_94) rfl ?_
        refine XS.iconst X11.here hx rfl (hb hby at_96) ?_
        refine XS.icmpYes X11.here hx rfl (pc0 := 97) (pc' := 110) rfl (hb hby at_97) rfl (flt (by decide)).2.2.2 (by decide) (by decide) ?_
        show own_S p e below T11 (mkF m 110 #[iv p1, iv p2, iv p3, iv p4, iv p5, iv 1, iv vc0, iv vc1, iv vc2, iv vc3, rv bq9, rv b10, iv (-1), .unset, .unset, .unset] []) _
        refine XS.iload X11.here hx rfl (hb hby at_110) rfl ?_
        refine XS.ifNo X11.here hx rfl (hb hby at_112) rfl ((if0 _ _).trans (tlt (by decide)).2.2.2) ?_
        refine XS.iload X11.here hx rfl (hb hby at_115) rfl ?_
        show own_S p e below T11 (mkF m 117 #[iv p1, iv p2, iv p3, iv p4, iv p5, iv 1, iv vc0, iv vc1, iv vc2, iv vc3, rv bq9, rv b10, iv (-1), .unset, .unset, .unset] [(.int vc0)]) _
        refine XS.bipush X11.here hx rfl (hb hby at_117) ?_
        refine XS.icmpYes X11.here hx rfl (pc0 := 119) (pc' := 125) rfl (hb hby at_119) rfl (feq hq0).2 (by decide) (by decide) ?_
        refine XS.iload X11.here hx rfl (hb hby at_125) rfl ?_
        show own_S p e below T11 (mkF m 127 #[iv p1, iv p2, iv p3, iv p4, iv p5, iv 1, iv vc0, iv vc1, iv vc2, iv vc3, rv bq9, rv b10, iv (-1), .unset, .unset, .unset] [(.int (-1))]) _
        refine XS.ifNo X11.here hx rfl (hb hby at_127) rfl ((if0 _ _).trans (tlt (by decide)).2.1) ?_
        refine XS.iconst X11.here hx rfl (hb hby at_130) ?_
        refine XS.goto X11.here hx rfl (pc0 := 131) (pc' := 141) rfl (hb hby at_131) (by decide) (by decide) ?_
        show own_S p e below T11 (mkF m 141 #[iv p1, iv p2, iv p3, iv p4, iv p5, iv 1, iv vc0, iv vc1, iv vc2, iv vc3, rv bq9, rv b10, iv (-1), .unset, .unset, .unset] [(.int 0)]) _
        refine XS.istore X11.here hx rfl (hb hby at_141) rfl (l' := #[iv p1, iv p2, iv p3, iv p4, iv p5, iv 1, iv vc0, iv vc1, iv vc2, iv vc3, rv bq9, rv b10, iv (-1), iv 0, .unset, .unset]) rfl ?_
        refine XS.iload X11.here hx rfl (hb hby at_143) rfl ?_
        refine XS.iconst X11.here hx rfl (hb hby at_145) ?_
        show own_S p e below T11 (mkF m 146 #[iv p1, iv p2, iv p3, iv p4, iv p5, iv 1, iv vc0, iv vc1, iv vc2, iv vc3, rv bq9, rv b10, iv (-1), iv 0, .unset, .unset] [(.int 1), (.int (-1))]) _
        refine XS.iadd X11.here hx rfl (hb hby at_146) rfl ?_
        refine XS.istore X11.here hx rfl (hb hby at_147) rfl (l' := #[iv p1, iv p2, iv p3, iv p4, iv p5, iv 1, iv vc0, iv vc1, iv vc2, iv vc3, rv bq9, rv b10, iv (-1), iv 0, iv 0, .unset]) rfl ?_
        refine XS.aload X11.here hx rfl (hb hby at_149) rfl rfl ?_
        exact k
      have Ch13p := CHr.ext (own_ext K11) hCH
      obtain ⟨_, _, ⟨T13, L13, k13, n13⟩, -, X13, hS13, hg13, ⟨Lc13, hQ13, l13, y13, z13, hCr13⟩, st13⟩ := callSS X11 hx (y := own_y30) hown (mvT hZ (own_w hw 30 rfl)) (mvT hZ (own_w hw 31 rfl)) (mvT hZ (own_w hw 32 rfl)) (mvT hZ (own_w hw 33 rfl)) (by decide) (backOfSH (W := 0) (rm6n l Z a0 hw [] b10 (-1 : Int32) T11.heap n0 (Nat.le_trans (Nat.le_trans (Nat.le_trans Z0 K9q.1) E10.1) K11q.1) E11q (rm7g l Z a0 hw [] b10 (63 : Int32) bq11 kq11 (1 : Int32) [(.int (own_b vc0))] (-1 : Int32) GC T11.heap n0 (Nat.le_trans (Nat.le_trans (Nat.le_trans Z0 K9q.1) E10.1) K11q.1) S_C hGC O11 E11q F11c F11v V11q (rm12_1 l Z a0 hw [] bq11 kq11 (own_b vc0) (-1 : Int32) T11.heap n0 (Nat.le_trans (Nat.le_trans (Nat.le_trans Z0 K9q.1) E10.1) K11q.1) V11q (by rw [own_ix1, if_neg (own_nb hcv0 hq0)]))) (by decide)) hZ (own_w hw 33 rfl) (own_w hw 32 rfl) (by decide) (by decide) (own_hEL hw) Ch13p.1) (g := (mkF m 151 #[iv p1, iv p2, iv p3, iv p4, iv p5, iv 1, iv vc0, iv vc1, iv vc2, iv vc3, rv bq9, rv b10, iv (-1), iv 0, iv 0, .unset] [(.ref b10)])) rfl (by rw [hml]; rfl) (argsL := [(.ref b10)]) (rest := []) (lenOf own_pd25 rfl) rfl (by show 2 * 0 + _ ≤ _; exact Nat.le_of_eq rfl) (hb hby at_151) (fun _ _ => ⟨rfl, rfl, (by decide : 3 + 2 ≤ _), (by decide : 6 + 8 ≤ _)⟩)
      dsimp only [Pt.U, Pt.locs, Pt.cells, Pt.slots] at X13 l13 y13 z13 st13 hQ13 hS13 hg13 hCr13
      subst l13 y13 z13
      have hS := hS.trans hS13 (Nat.le_trans (Nat.le_trans (Nat.le_trans (Nat.le_trans (Nat.zero_le _) K9q.1) E10.1) K11q.1) (Nat.le_trans (Nat.le_of_eq (congrArg Array.size rfl.symm)) hg13))
      have hZ : Z.Warmed39 (s.setVm T13.vm).vm := State.Warmed39.trans hZ hS13.1
      have hown : (s.setVm T13.vm).vm.findClass "com/example/arcas/arcas/http/RequestLineQueryPinLaw" = some m.cls := (hS13.1.alike.findClass _ _).trans hown
      obtain ⟨aq13, bq13, kq13, rfl, N13q, K13q, E13q, F13c, F13v, V13q⟩ := hQ13
      have N13 := Fr.app N11 N13q
      have c13_V_bq9 := c11_V_bq9.keep K13q (List.not_mem_nil)
      have c13_E_b10 := E11q.keep K13q
      have c13_F_b10_coder := F11c.keep K13q (List.not_mem_nil)
      have c13_F_b10_value := F11v.keep K13q (List.not_mem_nil)
      have c13_V_bq11 := V11q.keep K13q (List.not_mem_nil)
      have O13 := O11.keep K13q all0
      have K13 := K11.trans K13q all0
      have Ch13 := Ch13p.trans hCr13
      refine own_go (B := T13.setTop (mkF m 154 #[iv p1, iv p2, iv p3, iv p4, iv p5, iv 1, iv vc0, iv vc1, iv vc2, iv vc3, rv bq9, rv b10, iv (-1), iv 0, iv 0, .unset] [(.ref aq13)])) (fun t k => st13.trans k) ?_
      refine own_go (B := T13.setTop (mkF m 156 #[iv p1, iv p2, iv p3, iv p4, iv p5, iv 1, iv vc0, iv vc1, iv vc2, iv vc3, rv bq9, rv b10, iv (-1), iv 0, iv 0, rv aq13] [])) (fun t k => ?_) ?_
      · show own_S p e below T13 (mkF m 154 #[iv p1, iv p2, iv p3, iv p4, iv p5, iv 1, iv vc0, iv vc1, iv vc2, iv vc3, rv bq9, rv b10, iv (-1), iv 0, iv 0, .unset] [(.ref aq13)]) _
        refine XS.astore X13.here hx rfl (hb hby at_154) rfl rfl (l' := #[iv p1, iv p2, iv p3, iv p4, iv p5, iv 1, iv vc0, iv vc1, iv vc2, iv vc3, rv bq9, rv b10, iv (-1), iv 0, iv 0, rv aq13]) rfl ?_
        exact k
      exact own_tail p1 p2 p3 p4 p5 (1 : Int32) vc0 vc1 vc2 vc3 (-1 : Int32) (0 : Int32) (0 : Int32) bq9 b10 aq13 bq13 kq13 kq9 [] [(.int vc0)] (1 : Int32) GC GF X13 hx hZ hw hby hml hown Bd hS rfl N13 (Nat.le_trans (Nat.le_trans (Nat.le_trans (Nat.le_trans Z0 K9q.1) E10.1) K11q.1) K13q.1) (Nat.le_refl _) (by decide) (by decide) S_C hGC O13 S_F is_GF E13q F13c F13v V13q c13_V_bq9 (fun q => absurd q (by decide)) (fun q => absurd q (by decide)) (fun q => absurd q (by decide))
  · refine own_go (B := T4.setTop (mkF m 43 #[iv p1, iv p2, iv p3, iv p4, iv p5, iv 2, iv vc0, iv vc1, iv vc2, iv vc3, .unset, .unset, .unset, .unset, .unset, .unset] [(.int vc3), (.int vc2), (.int vc1), (.int vc0), (.int 2)])) (fun t k => ?_) ?_
    · show own_S p e below T4 (mkF m 33 #[iv p1, iv p2, iv p3, iv p4, iv p5, iv 2, iv vc0, iv vc1, iv vc2, iv vc3, .unset, .unset, .unset, .unset, .unset, .unset] []) _
      refine XS.iload X4.here hx rfl (hb hby at_33) rfl ?_
      refine XS.iload X4.here hx rfl (hb hby at_35) rfl ?_
      refine XS.iload X4.here hx rfl (hb hby at_37) rfl ?_
      show own_S p e below T4 (mkF m 39 #[iv p1, iv p2, iv p3, iv p4, iv p5, iv 2, iv vc0, iv vc1, iv vc2, iv vc3, .unset, .unset, .unset, .unset, .unset, .unset] [(.int vc1), (.int vc0), (.int 2)]) _
      refine XS.iload X4.here hx rfl (hb hby at_39) rfl ?_
      refine XS.iload X4.here hx rfl (hb hby at_41) rfl ?_
      exact k
    obtain ⟨_, _, ⟨T14, L14, k14, n14⟩, -, X14, ⟨Lc14, hQ14, l14, y14, z14⟩, st14⟩ := Jvm.LawKit.callS X4 hx (y := own_y29) hown (mvT hZ (own_w hw 5 rfl)) (mvT hZ (own_w hw 6 rfl)) (mvT hZ (own_w hw 3 rfl)) (mvT hZ (own_w hw 7 rfl)) (by decide) (backOf (W := 0) (rm2_2 l Z a0 hw [] vc0 vc1 vc2 vc3 h0 n0 Z0 hnc0 hnc1) hZ (own_w hw 7 rfl) (own_w hw 3 rfl) (by decide) (by decide)) (g := (mkF m 43 #[iv p1, iv p2, iv p3, iv p4, iv p5, iv 2, iv vc0, iv vc1, iv vc2, iv vc3, .unset, .unset, .unset, .unset, .unset, .unset] [(.int vc3), (.int vc2), (.int vc1), (.int vc0), (.int 2)])) rfl (by rw [hml]; rfl) (argsL := [(.int 2), (.int vc0), (.int vc1), (.int vc2), (.int vc3)]) (rest := []) (lenOf own_pd23 rfl) rfl (by show 2 * 0 + _ ≤ _; exact Nat.le_of_eq rfl) (hb hby at_43) (fun _ _ => ⟨rfl, eq4, (by decide : 0 + 1 ≤ _), (by decide : 0 + 2 ≤ _)⟩)
    dsimp only [Pt.U, Pt.locs, Pt.cells, Pt.slots] at X14 l14 y14 z14 st14 hQ14
    subst l14 y14 z14
    obtain ⟨bq14, kq14, rfl, N14q, K14q, q14z, q14g, V14q⟩ := hQ14
    have N14 := Fr.app N4 N14q
    have sz_bq14 : h0.size ≤ bq14 := Nat.le_trans ((Keep.refl h0 [])).1 q14z
    have g_bq14 : n0 ≤ bq14 := q14g
    have O14 := O0.keep K14q all0
    have K14 := (Keep.refl h0 []).trans K14q all0
    refine own_go (B := T14.setTop (mkF m 46 #[iv p1, iv p2, iv p3, iv p4, iv p5, iv 2, iv vc0, iv vc1, iv vc2, iv vc3, .unset, .unset, .unset, .unset, .unset, .unset] [(.ref bq14)])) (fun t k => st14 _ k) ?_
    refine own_go (B := T14.setTop (mkF m 48 #[iv p1, iv p2, iv p3, iv p4, iv p5, iv 2, iv vc0, iv vc1, iv vc2, iv vc3, rv bq14, .unset, .unset, .unset, .unset, .unset] [])) (fun t k => ?_) ?_
    · show own_S p e below T14 (mkF m 46 #[iv p1, iv p2, iv p3, iv p4, iv p5, iv 2, iv vc0, iv vc1, iv vc2, iv vc3, .unset, .unset, .unset, .unset, .unset, .unset] [(.ref bq14)]) _
      refine XS.astore X14.here hx rfl (hb hby at_46) rfl rfl (l' := #[iv p1, iv p2, iv p3, iv p4, iv p5, iv 2, iv vc0, iv vc1, iv vc2, iv vc3, rv bq14, .unset, .unset, .unset, .unset, .unset]) rfl ?_
      exact k
    obtain ⟨T15, h15, X15, e15, E15, A15, D15, -, st15⟩ := newO X14 hx hZ hown (own_w hw 9 rfl) (own_w hw 10 rfl) (own_w hw 11 rfl) rfl (g := (mkF m 48 #[iv p1, iv p2, iv p3, iv p4, iv p5, iv 2, iv vc0, iv vc1, iv vc2, iv vc3, rv bq14, .unset, .unset, .unset, .unset, .unset] [])) rfl (hb hby at_48) (by decide) (by decide)
    obtain ⟨b15, g15⟩ : ∃ z, z = T14.heap.size := ⟨_, rfl⟩
    rw [← g15] at A15 D15 st15
    have g_b15 : n0 ≤ b15 := Nat.le_trans (Nat.le_trans Z0 K14q.1) (Nat.le_of_eq g15.symm)
    have sz_b15 : h0.size ≤ b15 := Nat.le_trans K14.1 (Nat.le_of_eq g15.symm)
    have ne_bq14_b15 : bq14 ≠ b15 := Nat.ne_of_lt (Nat.lt_of_lt_of_le V14q.lt (Nat.le_of_eq g15.symm))
    have c15_V_bq14 := V14q.ext E15
    have K15 := K14.ext E15
    have O15 := O14.ext E15
    have F15_value : Fld Z h15 b15 "java/lang/String" "value" "[B" .null := D15 (Or.inr (own_w hw 24 rfl)) (ty := (.array .byte)) (by decide)
    have F15_coder : Fld Z h15 b15 "java/lang/String" "coder" "B" (.int 0) := D15 (Or.inr (own_w hw 25 rfl)) (ty := .byte) (by decide)
    refine own_go (B := T15.setTop (mkF m 51 #[iv p1, iv p2, iv p3, iv p4, iv p5, iv 2, iv vc0, iv vc1, iv vc2, iv vc3, rv bq14, .unset, .unset, .unset, .unset, .unset] [(.ref b15)])) (fun t k => st15 _ k) ?_
    refine own_go (B := T15.setTop (mkF m 54 #[iv p1, iv p2, iv p3, iv p4, iv p5, iv 2, iv vc0, iv vc1, iv vc2, iv vc3, rv bq14, .unset, .unset, .unset, .unset, .unset] [(.ref bq14), (.ref b15), (.ref b15)])) (fun t k => ?_) ?_
    · show own_S p e below T15 (mkF m 51 #[iv p1, iv p2, iv p3, iv p4, iv p5, iv 2, iv vc0, iv vc1, iv vc2, iv vc3, rv bq14, .unset, .unset, .unset, .unset, .unset] [(.ref b15)]) _
      refine XS.dup X15.here hx rfl (hb hby at_51) rfl rfl ?_
      refine XS.aload X15.here hx rfl (hb hby at_52) rfl rfl ?_
      exact k
    obtain ⟨_, _, ⟨T16, L16, k16, n16⟩, -, X16, ⟨Lc16, hQ16, l16, y16, z16⟩, st16⟩ := X15.specialBack hx (y := own_y11) rfl hown (mvT hZ (own_w hw 12 rfl)) (mvT hZ (own_w hw 13 rfl)) (mvT hZ (own_w hw 14 rfl)) (by decide) (backOf (W := 1) (rm3_2 l Z a0 hw [] b15 bq14 kq14 vc0 vc1 GC h15 n0 (Nat.le_trans (Nat.le_trans Z0 K14q.1) E15.1) S_C hGC O15 A15 g_b15 F15_value F15_coder c15_V_bq14 (Ne.symm ne_bq14_b15) hbig0 hbig1) hZ (own_w hw 14 rfl) (own_w hw 11 rfl) (by decide) (by decide)) (g := (mkF m 54 #[iv p1, iv p2, iv p3, iv p4, iv p5, iv 2, iv vc0, iv vc1, iv vc2, iv vc3, rv bq14, .unset, .unset, .unset, .unset, .unset] [(.ref bq14), (.ref b15), (.ref b15)])) rfl (by rw [hml]; rfl) (Steps.refl _) (a := b15) (argsL := [(.ref bq14)]) (rest := [(.ref b15)]) (lenOf own_pd24 rfl) rfl (by show 2 * 0 + _ ≤ _; exact Nat.le_of_eq rfl) (hb hby at_54) (fun _ _ => ⟨rfl, e15, (by decide : 2 + 1 ≤ _), (by decide : 6 + 2 ≤ _)⟩)
    dsimp only [Pt.U, Pt.locs, Pt.cells, Pt.slots] at X16 l16 y16 z16 st16 hQ16
    subst l16 y16 z16
    obtain ⟨rfl, N16q, bq16, kq16, K16q, E16q, F16c, F16v, V16q⟩ := hQ16
    have N16 := Fr.app N14 N16q
    have c16_V_bq14 := c15_V_bq14.keep K16q (fun q => ne_bq14_b15 (List.mem_singleton.mp q))
    have O16 := O15.keep K16q (allS g_b15 all0)
    have K16 := K15.trans K16q (allS (Or.inr sz_b15) all0)
    refine own_go (B := T16.setTop (mkF m 57 #[iv p1, iv p2, iv p3, iv p4, iv p5, iv 2, iv vc0, iv vc1, iv vc2, iv vc3, rv bq14, .unset, .unset, .unset, .unset, .unset] [(.ref b15)])) (fun t k => st16.trans k) ?_
    refine own_go (B := T16.setTop (mkF m 62 #[iv p1, iv p2, iv p3, iv p4, iv p5, iv 2, iv vc0, iv vc1, iv vc2, iv vc3, rv bq14, rv b15, iv (-1), .unset, .unset, .unset] [])) (fun t k => ?_) ?_
    · show own_S p e below T16 (mkF m 57 #[iv p1, iv p2, iv p3, iv p4, iv p5, iv 2, iv vc0, iv vc1, iv vc2, iv vc3, rv bq14, .unset, .unset, .unset, .unset, .unset] [(.ref b15)]) _
      refine XS.astore X16.here hx rfl (hb hby at_57) rfl rfl (l' := #[iv p1, iv p2, iv p3, iv p4, iv p5, iv 2, iv vc0, iv vc1, iv vc2, iv vc3, rv bq14, rv b15, .unset, .unset, .unset, .unset]) rfl ?_
      refine XS.iconst X16.here hx rfl (hb hby at_59) ?_
      refine XS.istore X16.here hx rfl (hb hby at_60) rfl (l' := #[iv p1, iv p2, iv p3, iv p4, iv p5, iv 2, iv vc0, iv vc1, iv vc2, iv vc3, rv bq14, rv b15, iv (-1), .unset, .unset, .unset]) rfl ?_
      exact k
    by_cases hq0 : vc0 = (63 : Int32)
    · refine own_go (B := T16.setTop (mkF m 104 #[iv p1, iv p2, iv p3, iv p4, iv p5, iv 2, iv vc0, iv vc1, iv vc2, iv vc3, rv bq14, rv b15, iv (-1), .unset, .unset, .unset] [(.int 63), (.int vc1)])) (fun t k => ?_) ?_
      · show own_S p e below T16 (mkF m 62 #[iv p1, iv p2, iv p3, iv p4, iv p5, iv 2, iv vc0, iv vc1, iv vc2, iv vc3, rv bq14, rv b15, iv (-1), .unset, .unset, .unset] []) _
        refine XS.iload X16.here hx rfl (hb hby at_62) rfl ?_
        refine XS.iconst X16.here hx rfl (hb hby at_64) ?_
        refine XS.icmpYes X16.here hx rfl (pc0 := 65) (pc' := 78) rfl (hb hby at_65) rfl (flt (by decide)).2.2.2 (by decide) (by decide) ?_
        show own_S p e below T16 (mkF m 78 #[iv p1, iv p2, iv p3, iv p4, iv p5, iv 2, iv vc0, iv vc1, iv vc2, iv vc3, rv bq14, rv b15, iv (-1), .unset, .unset, .unset] []) _
        refine XS.iload X16.here hx rfl (hb hby at_78) rfl ?_
        refine XS.iconst X16.here hx rfl (hb hby at_80) ?_
        refine XS.icmpYes X16.here hx rfl (pc0 := 81) (pc' := 94) rfl (hb hby at_81) rfl (flt (by decide)).2.2.2 (by decide) (by decide) ?_
        show own_S p e below T16 (mkF m 94 #[iv p1, iv p2, iv p3, iv p4, iv p5, iv 2, iv vc0, iv vc1, iv vc2, iv vc3, rv bq14, rv b15, iv (-1), .unset, .unset, .unset] []) _
        refine XS.iload X16.here hx rfl (hb hby at_94) rfl ?_
        refine XS.iconst X16.here hx rfl (hb hby at_96) ?_
        refine XS.icmpNo X16.here hx rfl (hb hby at_97) rfl (tlt (by decide)).2.2.2 ?_
        show own_S p e below T16 (mkF m 100 #[iv p1, iv p2, iv p3, iv p4, iv p5, iv 2, iv vc0, iv vc1, iv vc2, iv vc3, rv bq14, rv b15, iv (-1), .unset, .unset, .unset] []) _
        refine XS.iload X16.here hx rfl (hb hby at_100) rfl ?_
        refine XS.bipush X16.here hx rfl (hb hby at_102) ?_
        exact k
      obtain ⟨z17, hz17⟩ : ∃ q : Int32, q = (if vc1 = (63 : Int32) then (1 : Int32) else (-1 : Int32)) := ⟨_, rfl⟩
      refine own_go (B := T16.setTop (mkF m 110 #[iv p1, iv p2, iv p3, iv p4, iv p5, iv 2, iv vc0, iv vc1, iv vc2, iv vc3, rv bq14, rv b15, iv z17, .unset, .unset, .unset] [])) (fun t k => ?_) ?_
      · by_cases hc104_18 : vc1 = (63 : Int32)
        · rw [show z17 = (1 : Int32) from hz17.trans (by rw [if_pos hc104_18])] at k
          show own_S p e below T16 (mkF m 104 #[iv p1, iv p2, iv p3, iv p4, iv p5, iv 2, iv vc0, iv vc1, iv vc2, iv vc3, rv bq14, rv b15, iv (-1), .unset, .unset, .unset] [(.int 63), (.int vc1)]) _
          refine XS.icmpNo X16.here hx rfl (hb hby at_104) rfl (teq hc104_18).2 ?_
          refine XS.iconst X16.here hx rfl (hb hby at_107) ?_
          refine XS.istore X16.here hx rfl (hb hby at_108) rfl (l' := #[iv p1, iv p2, iv p3, iv p4, iv p5, iv 2, iv vc0, iv vc1, iv vc2, iv vc3, rv bq14, rv b15, iv 1, .unset, .unset, .unset]) rfl ?_
          exact k
        · rw [show z17 = (-1 : Int32) from hz17.trans (by rw [if_neg hc104_18])] at k
          show own_S p e below T16 (mkF m 104 #[iv p1, iv p2, iv p3, iv p4, iv p5, iv 2, iv vc0, iv vc1, iv vc2, iv vc3, rv bq14, rv b15, iv (-1), .unset, .unset, .unset] [(.int 63), (.int vc1)]) _
          refine XS.icmpYes X16.here hx rfl (pc0 := 104) (pc' := 110) rfl (hb hby at_104) rfl (feq hc104_18).2 (by decide) (by decide) ?_
          exact k
      refine own_go (B := T16.setTop (mkF m 151 #[iv p1, iv p2, iv p3, iv p4, iv p5, iv 2, iv vc0, iv vc1, iv vc2, iv vc3, rv bq14, rv b15, iv 0, iv 1, iv 1, .unset] [(.ref b15)])) (fun t k => ?_) ?_
      · show own_S p e below T16 (mkF m 110 #[iv p1, iv p2, iv p3, iv p4, iv p5, iv 2, iv vc0, iv vc1, iv vc2, iv vc3, rv bq14, rv b15, iv z17, .unset, .unset, .unset] []) _
        refine XS.iload X16.here hx rfl (hb hby at_110) rfl ?_
        refine XS.ifNo X16.here hx rfl (hb hby at_112) rfl ((if0 _ _).trans (tlt (by decide)).2.2.2) ?_
        refine XS.iload X16.here hx rfl (hb hby at_115) rfl ?_
        show own_S p e below T16 (mkF m 117 #[iv p1, iv p2, iv p3, iv p4, iv p5, iv 2, iv vc0, iv vc1, iv vc2, iv vc3, rv bq14, rv b15, iv z17, .unset, .unset, .unset] [(.int vc0)]) _
        refine XS.bipush X16.here hx rfl (hb hby at_117) ?_
        refine XS.icmpNo X16.here hx rfl (hb hby at_119) rfl (teq hq0).2 ?_
        refine XS.iconst X16.here hx rfl (hb hby at_122) ?_
        show own_S p e below T16 (mkF m 123 #[iv p1, iv p2, iv p3, iv p4, iv p5, iv 2, iv vc0, iv vc1, iv vc2, iv vc3, rv bq14, rv b15, iv z17, .unset, .unset, .unset] [(.int 0)]) _
        refine XS.istore X16.here hx rfl (hb hby at_123) rfl (l' := #[iv p1, iv p2, iv p3, iv p4, iv p5, iv 2, iv vc0, iv vc1, iv vc2, iv vc3, rv bq14, rv b15, iv 0, .unset, .unset, .unset]) rfl ?_
        refine XS.iload X16.here hx rfl (hb hby at_125) rfl ?_
        refine XS.ifYes X16.here hx rfl (pc0 := 127) (pc' := 134) rfl (hb hby at_127) rfl ((if0 _ _).trans (flt (by decide)).2.1) (by decide) (by decide) ?_
        show own_S p e below T16 (mkF m 134 #[iv p1, iv p2, iv p3, iv p4, iv p5, iv 2, iv vc0, iv vc1, iv vc2, iv vc3, rv bq14, rv b15, iv 0, .unset, .unset, .unset] []) _
        refine XS.iload X16.here hx rfl (hb hby at_134) rfl ?_
        refine XS.iload X16.here hx rfl (hb hby at_136) rfl ?_
        refine XS.isub X16.here hx rfl (hb hby at_138) rfl ?_
        show own_S p e below T16 (mkF m 139 #[iv p1, iv p2, iv p3, iv p4, iv p5, iv 2, iv vc0, iv vc1, iv vc2, iv vc3, rv bq14, rv b15, iv 0, .unset, .unset, .unset] [(.int 2)]) _
        refine XS.iconst X16.here hx rfl (hb hby at_139) ?_
        refine XS.isub X16.here hx rfl (hb hby at_140) rfl ?_
        refine XS.istore X16.here hx rfl (hb hby at_141) rfl (l' := #[iv p1, iv p2, iv p3, iv p4, iv p5, iv 2, iv vc0, iv vc1, iv vc2, iv vc3, rv bq14, rv b15, iv 0, iv 1, .unset, .unset]) rfl ?_
        show own_S p e below T16 (mkF m 143 #[iv p1, iv p2, iv p3, iv p4, iv p5, iv 2, iv vc0, iv vc1, iv vc2, iv vc3, rv bq14, rv b15, iv 0, iv 1, .unset, .unset] []) _
        refine XS.iload X16.here hx rfl (hb hby at_143) rfl ?_
        refine XS.iconst X16.here hx rfl (hb hby at_145) ?_
        refine XS.iadd X16.here hx rfl (hb hby at_146) rfl ?_
        show own_S p e below T16 (mkF m 147 #[iv p1, iv p2, iv p3, iv p4, iv p5, iv 2, iv vc0, iv vc1, iv vc2, iv vc3, rv bq14, rv b15, iv 0, iv 1, .unset, .unset] [(.int 1)]) _
        refine XS.istore X16.here hx rfl (hb hby at_147) rfl (l' := #[iv p1, iv p2, iv p3, iv p4, iv p5, iv 2, iv vc0, iv vc1, iv vc2, iv vc3, rv bq14, rv b15, iv 0, iv 1, iv 1, .unset]) rfl ?_
        refine XS.aload X16.here hx rfl (hb hby at_149) rfl rfl ?_
        exact k
      obtain ⟨_, _, ⟨T19, L19, k19, n19⟩, -, X19, ⟨Lc19, hQ19, l19, y19, z19⟩, st19⟩ := Jvm.LawKit.callS X16 hx (y := own_y30) hown (mvT hZ (own_w hw 30 rfl)) (mvT hZ (own_w hw 31 rfl)) (mvT hZ (own_w hw 32 rfl)) (mvT hZ (own_w hw 33 rfl)) (by decide) (backOf (W := 0) (rm6y l Z a0 hw [] b15 (0 : Int32) (1 : Int32) [(.int (own_b vc1))] T16.heap n0 (Nat.le_trans (Nat.le_trans (Nat.le_trans Z0 K14q.1) E15.1) K16q.1) E16q (rm7g l Z a0 hw [] b15 (63 : Int32) bq16 kq16 (2 : Int32) [(.int (own_b vc0)), (.int (own_b vc1))] (0 : Int32) GC T16.heap n0 (Nat.le_trans (Nat.le_trans (Nat.le_trans Z0 K14q.1) E15.1) K16q.1) S_C hGC O16 E16q F16c F16v V16q (rm12_2 l Z a0 hw [] bq16 kq16 (own_b vc0) (own_b vc1) (0 : Int32) T16.heap n0 (Nat.le_trans (Nat.le_trans (Nat.le_trans Z0 K14q.1) E15.1) K16q.1) V16q (by rw [own_ix2, if_pos (own_yb hq0)]))) (by decide) (rm21g l Z a0 hw [] b15 (1 : Int32) (2 : Int32) bq16 kq16 [(.int (own_b vc0)), (.int (own_b vc1))] [(.int (own_b vc1))] GC GF T16.heap n0 (Nat.le_trans (Nat.le_trans (Nat.le_trans Z0 K14q.1) E15.1) K16q.1) S_C hGC O16 S_F is_GF E16q F16c F16v V16q (by decide) (by decide) (rm25_2_1 l Z a0 hw [] bq16 kq16 (own_b vc0) (own_b vc1) T16.heap n0 (Nat.le_trans (Nat.le_trans (Nat.le_trans Z0 K14q.1) E15.1) K16q.1) V16q))) hZ (own_w hw 33 rfl) (own_w hw 32 rfl) (by decide) (by decide)) (g := (mkF m 151 #[iv p1, iv p2, iv p3, iv p4, iv p5, iv 2, iv vc0, iv vc1, iv vc2, iv vc3, rv bq14, rv b15, iv 0, iv 1, iv 1, .unset] [(.ref b15)])) rfl (by rw [hml]; rfl) (argsL := [(.ref b15)]) (rest := []) (lenOf own_pd25 rfl) rfl (by show 2 * 0 + _ ≤ _; exact Nat.le_of_eq rfl) (hb hby at_151) (fun _ _ => ⟨rfl, rfl, (by decide : 3 + 2 ≤ _), (by decide : 8 + 8 ≤ _)⟩)
      dsimp only [Pt.U, Pt.locs, Pt.cells, Pt.slots] at X19 l19 y19 z19 st19 hQ19
      subst l19 y19 z19
      obtain ⟨aq19, bq19, kq19, rfl, N19q, K19q, E19q, F19c, F19v, V19q⟩ := hQ19
      have N19 := Fr.app N16 N19q
      have c19_V_bq14 := c16_V_bq14.keep K19q (List.not_mem_nil)
      have c19_E_b15 := E16q.keep K19q
      have c19_F_b15_coder := F16c.keep K19q (List.not_mem_nil)
      have c19_F_b15_value := F16v.keep K19q (List.not_mem_nil)
      have c19_V_bq16 := V16q.keep K19q (List.not_mem_nil)
      have O19 := O16.keep K19q all0
      have K19 := K16.trans K19q all0
      refine own_go (B := T19.setTop (mkF m 154 #[iv p1, iv p2, iv p3, iv p4, iv p5, iv 2, iv vc0, iv vc1, iv vc2, iv vc3, rv bq14, rv b15, iv 0, iv 1, iv 1, .unset] [(.ref aq19)])) (fun t k => st19 _ k) ?_
      refine own_go (B := T19.setTop (mkF m 156 #[iv p1, iv p2, iv p3, iv p4, iv p5, iv 2, iv vc0, iv vc1, iv vc2, iv vc3, rv bq14, rv b15, iv 0, iv 1, iv 1, rv aq19] [])) (fun t k => ?_) ?_
      · show own_S p e below T19 (mkF m 154 #[iv p1, iv p2, iv p3, iv p4, iv p5, iv 2, iv vc0, iv vc1, iv vc2, iv vc3, rv bq14, rv b15, iv 0, iv 1, iv 1, .unset] [(.ref aq19)]) _
        refine XS.astore X19.here hx rfl (hb hby at_154) rfl rfl (l' := #[iv p1, iv p2, iv p3, iv p4, iv p5, iv 2, iv vc0, iv vc1, iv vc2, iv vc3, rv bq14, rv b15, iv 0, iv 1, iv 1, rv aq19]) rfl ?_
        exact k
      exact own_tail p1 p2 p3 p4 p5 (2 : Int32) vc0 vc1 vc2 vc3 (0 : Int32) (1 : Int32) (1 : Int32) bq14 b15 aq19 bq19 kq19 kq14 [(.int (own_b vc1))] [(.int vc0), (.int vc1)] (2 : Int32) GC GF X19 hx hZ hw hby hml hown Bd hS rfl N19 (Nat.le_trans (Nat.le_trans (Nat.le_trans (Nat.le_trans Z0 K14q.1) E15.1) K16q.1) K19q.1) (Nat.le_trans (Nat.le_trans (Nat.le_trans (Nat.le_trans (Nat.zero_le _) K14q.1) E15.1) K16q.1) K19q.1) (by decide) (by decide) S_C hGC O19 S_F is_GF E19q F19c F19v V19q c19_V_bq14 (fun _ => ⟨_, _, rfl, by decide, rfl, hrt1⟩) (fun q => absurd q (by decide)) (fun q => absurd q (by decide))
    · by_cases hq1 : vc1 = (63 : Int32)
      · refine own_go (B := T16.setTop (mkF m 151 #[iv p1, iv p2, iv p3, iv p4, iv p5, iv 2, iv vc0, iv vc1, iv vc2, iv vc3, rv bq14, rv b15, iv 1, iv 0, iv 2, .unset] [(.ref b15)])) (fun t k => ?_) ?_
        · show own_S p e below T16 (mkF m 62 #[iv p1, iv p2, iv p3, iv p4, iv p5, iv 2, iv vc0, iv vc1, iv vc2, iv vc3, rv bq14, rv b15, iv (-1), .unset, .unset, .unset] []) _
          refine XS.iload X16.here hx rfl (hb hby at_62) rfl ?_
          refine XS.iconst X16.here hx rfl (hb hby at_64) ?_
          refine XS.icmpYes X16.here hx rfl (pc0 := 65) (pc' := 78) rfl (hb hby at_65) rfl (flt (by decide)).2.2.2 (by decide) (by decide) ?_
          show own_S p e below T16 (mkF m 78 #[iv p1, iv p2, iv p3, iv p4, iv p5, iv 2, iv vc0, iv vc1, iv vc2, iv vc3, rv bq14, rv b15, iv (-1), .unset, .unset, .unset] []) _
          refine XS.iload X16.here hx rfl (hb hby at_78) rfl ?_
          refine XS.iconst X16.here hx rfl (hb hby at_80) ?_
          refine XS.icmpYes X16.here hx rfl (pc0 := 81) (pc' := 94) rfl (hb hby at_81) rfl (flt (by decide)).2.2.2 (by decide) (by decide) ?_
          show own_S p e below T16 (mkF m 94 #[iv p1, iv p2, iv p3, iv p4, iv p5, iv 2, iv vc0, iv vc1, iv vc2, iv vc3, rv bq14, rv b15, iv (-1), .unset, .unset, .unset] []) _
          refine XS.iload X16.here hx rfl (hb hby at_94) rfl ?_
          refine XS.iconst X16.here hx rfl (hb hby at_96) ?_
          refine XS.icmpNo X16.here hx rfl (hb hby at_97) rfl (tlt (by decide)).2.2.2 ?_
          show own_S p e below T16 (mkF m 100 #[iv p1, iv p2, iv p3, iv p4, iv p5, iv 2, iv vc0, iv vc1, iv vc2, iv vc3, rv bq14, rv b15, iv (-1), .unset, .unset, .unset] []) _
          refine XS.iload X16.here hx rfl (hb hby at_100) rfl ?_
          refine XS.bipush X16.here hx rfl (hb hby at_102) ?_
          refine XS.icmpNo X16.here hx rfl (hb hby at_104) rfl (teq hq1).2 ?_
          show own_S p e below T16 (mkF m 107 #[iv p1, iv p2, iv p3, iv p4, iv p5, iv 2, iv vc0, iv vc1, iv vc2, iv vc3, rv bq14, rv b15, iv (-1), .unset, .unset, .unset] []) _
          refine XS.iconst X16.here hx rfl (hb hby at_107) ?_
          refine XS.istore X16.here hx rfl (hb hby at_108) rfl (l' := #[iv p1, iv p2, iv p3, iv p4, iv p5, iv 2, iv vc0, iv vc1, iv vc2, iv vc3, rv bq14, rv b15, iv 1, .unset, .unset, .unset]) rfl ?_
          refine XS.iload X16.here hx rfl (hb hby at_110) rfl ?_
          show own_S p e below T16 (mkF m 112 #[iv p1, iv p2, iv p3, iv p4, iv p5, iv 2, iv vc0, iv vc1, iv vc2, iv vc3, rv bq14, rv b15, iv 1, .unset, .unset, .unset] [(.int 2)]) _
          refine XS.ifNo X16.here hx rfl (hb hby at_112) rfl ((if0 _ _).trans (tlt (by decide)).2.2.2) ?_
          refine XS.iload X16.here hx rfl (hb hby at_115) rfl ?_
          refine XS.bipush X16.here hx rfl (hb hby at_117) ?_
          show own_S p e below T16 (mkF m 119 #[iv p1, iv p2, iv p3, iv p4, iv p5, iv 2, iv vc0, iv vc1, iv vc2, iv vc3, rv bq14, rv b15, iv 1, .unset, .unset, .unset] [(.int 63), (.int vc0)]) _
          refine XS.icmpYes X16.here hx rfl (pc0 := 119) (pc' := 125) rfl (hb hby at_119) rfl (feq hq0).2 (by decide) (by decide) ?_
          refine XS.iload X16.here hx rfl (hb hby at_125) rfl ?_
          refine XS.ifYes X16.here hx rfl (pc0 := 127) (pc' := 134) rfl (hb hby at_127) rfl ((if0 _ _).trans (flt (by decide)).2.1) (by decide) (by decide) ?_
          show own_S p e below T16 (mkF m 134 #[iv p1, iv p2, iv p3, iv p4, iv p5, iv 2, iv vc0, iv vc1, iv vc2, iv vc3, rv bq14, rv b15, iv 1, .unset, .unset, .unset] []) _
          refine XS.iload X16.here hx rfl (hb hby at_134) rfl ?_
          refine XS.iload X16.here hx rfl (hb hby at_136) rfl ?_
          refine XS.isub X16.here hx rfl (hb hby at_138) rfl ?_
          show own_S p e below T16 (mkF m 139 #[iv p1, iv p2, iv p3, iv p4, iv p5, iv 2, iv vc0, iv vc1, iv vc2, iv vc3, rv bq14, rv b15, iv 1, .unset, .unset, .unset] [(.int 1)]) _
          refine XS.iconst X16.here hx rfl (hb hby at_139) ?_
          refine XS.isub X16.here hx rfl (hb hby at_140) rfl ?_
          refine XS.istore X16.here hx rfl (hb hby at_141) rfl (l' := #[iv p1, iv p2, iv p3, iv p4, iv p5, iv 2, iv vc0, iv vc1, iv vc2, iv vc3, rv bq14, rv b15, iv 1, iv 0, .unset, .unset]) rfl ?_
          show own_S p e below T16 (mkF m 143 #[iv p1, iv p2, iv p3, iv p4, iv p5, iv 2, iv vc0, iv vc1, iv vc2, iv vc3, rv bq14, rv b15, iv 1, iv 0, .unset, .unset] []) _
          refine XS.iload X16.here hx rfl (hb hby at_143) rfl ?_
          refine XS.iconst X16.here hx rfl (hb hby at_145) ?_
          refine XS.iadd X16.here hx rfl (hb hby at_146) rfl ?_
          show own_S p e below T16 (mkF m 147 #[iv p1, iv p2, iv p3, iv p4, iv p5, iv 2, iv vc0, iv vc1, iv vc2, iv vc3, rv bq14, rv b15, iv 1, iv 0, .unset, .unset] [(.int 2)]) _
          refine XS.istore X16.here hx rfl (hb hby at_147) rfl (l' := #[iv p1, iv p2, iv p3, iv p4, iv p5, iv 2, iv vc0, iv vc1, iv vc2, iv vc3, rv bq14, rv b15, iv 1, iv 0, iv 2, .unset]) rfl ?_
          refine XS.aload X16.here hx rfl (hb hby at_149) rfl rfl ?_
          exact k
        have Ch20p := CHr.ext (own_ext K16) hCH
        obtain ⟨_, _, ⟨T20, L20, k20, n20⟩, -, X20, hS20, hg20, ⟨Lc20, hQ20, l20, y20, z20, hCr20⟩, st20⟩ := callSS X16 hx (y := own_y30) hown (mvT hZ (own_w hw 30 rfl)) (mvT hZ (own_w hw 31 rfl)) (mvT hZ (own_w hw 32 rfl)) (mvT hZ (own_w hw 33 rfl)) (by decide) (backOfSH (W := 0) (rm6yh l Z a0 hw [] b15 (1 : Int32) (0 : Int32) [] T16.heap n0 (Nat.le_trans (Nat.le_trans (Nat.le_trans Z0 K14q.1) E15.1) K16q.1) E16q (rm7g l Z a0 hw [] b15 (63 : Int32) bq16 kq16 (2 : Int32) [(.int (own_b vc0)), (.int (own_b vc1))] (1 : Int32) GC T16.heap n0 (Nat.le_trans (Nat.le_trans (Nat.le_trans Z0 K14q.1) E15.1) K16q.1) S_C hGC O16 E16q F16c F16v V16q (rm12_2 l Z a0 hw [] bq16 kq16 (own_b vc0) (own_b vc1) (1 : Int32) T16.heap n0 (Nat.le_trans (Nat.le_trans (Nat.le_trans Z0 K14q.1) E15.1) K16q.1) V16q (by rw [own_ix2, if_neg (own_nb hcv0 hq0), if_pos (own_yb hq1)]))) (by decide) (rm21gh l Z a0 hw [] b15 (2 : Int32) (2 : Int32) bq16 kq16 [(.int (own_b vc0)), (.int (own_b vc1))] [] GC GF T16.heap n0 (Nat.le_trans (Nat.le_trans (Nat.le_trans Z0 K14q.1) E15.1) K16q.1) S_C hGC O16 S_F is_GF E16q F16c F16v V16q (by decide) (by decide) (rm25_2_2 l Z a0 hw [] bq16 kq16 (own_b vc0) (own_b vc1) T16.heap n0 (Nat.le_trans (Nat.le_trans (Nat.le_trans Z0 K14q.1) E15.1) K16q.1) V16q))) hZ (own_w hw 33 rfl) (own_w hw 32 rfl) (by decide) (by decide) (own_hEL hw) Ch20p.1) (g := (mkF m 151 #[iv p1, iv p2, iv p3, iv p4, iv p5, iv 2, iv vc0, iv vc1, iv vc2, iv vc3, rv bq14, rv b15, iv 1, iv 0, iv 2, .unset] [(.ref b15)])) rfl (by rw [hml]; rfl) (argsL := [(.ref b15)]) (rest := []) (lenOf own_pd25 rfl) rfl (by show 2 * 0 + _ ≤ _; exact Nat.le_of_eq rfl) (hb hby at_151) (fun _ _ => ⟨rfl, rfl, (by decide : 3 + 2 ≤ _), (by decide : 8 + 8 ≤ _)⟩)
        dsimp only [Pt.U, Pt.locs, Pt.cells, Pt.slots] at X20 l20 y20 z20 st20 hQ20 hS20 hg20 hCr20
        subst l20 y20 z20
        have hS := hS.trans hS20 (Nat.le_trans (Nat.le_trans (Nat.le_trans (Nat.le_trans (Nat.zero_le _) K14q.1) E15.1) K16q.1) (Nat.le_trans (Nat.le_of_eq (congrArg Array.size rfl.symm)) hg20))
        have hZ : Z.Warmed39 (s.setVm T20.vm).vm := State.Warmed39.trans hZ hS20.1
        have hown : (s.setVm T20.vm).vm.findClass "com/example/arcas/arcas/http/RequestLineQueryPinLaw" = some m.cls := (hS20.1.alike.findClass _ _).trans hown
        obtain ⟨aq20, bq20, kq20, rfl, N20q, K20q, E20q, F20c, F20v, V20q⟩ := hQ20
        have N20 := Fr.app N16 N20q
        have c20_V_bq14 := c16_V_bq14.keep K20q (List.not_mem_nil)
        have c20_E_b15 := E16q.keep K20q
        have c20_F_b15_coder := F16c.keep K20q (List.not_mem_nil)
        have c20_F_b15_value := F16v.keep K20q (List.not_mem_nil)
        have c20_V_bq16 := V16q.keep K20q (List.not_mem_nil)
        have O20 := O16.keep K20q all0
        have K20 := K16.trans K20q all0
        have Ch20 := Ch20p.trans hCr20
        refine own_go (B := T20.setTop (mkF m 154 #[iv p1, iv p2, iv p3, iv p4, iv p5, iv 2, iv vc0, iv vc1, iv vc2, iv vc3, rv bq14, rv b15, iv 1, iv 0, iv 2, .unset] [(.ref aq20)])) (fun t k => st20.trans k) ?_
        refine own_go (B := T20.setTop (mkF m 156 #[iv p1, iv p2, iv p3, iv p4, iv p5, iv 2, iv vc0, iv vc1, iv vc2, iv vc3, rv bq14, rv b15, iv 1, iv 0, iv 2, rv aq20] [])) (fun t k => ?_) ?_
        · show own_S p e below T20 (mkF m 154 #[iv p1, iv p2, iv p3, iv p4, iv p5, iv 2, iv vc0, iv vc1, iv vc2, iv vc3, rv bq14, rv b15, iv 1, iv 0, iv 2, .unset] [(.ref aq20)]) _
          refine XS.astore X20.here hx rfl (hb hby at_154) rfl rfl (l' := #[iv p1, iv p2, iv p3, iv p4, iv p5, iv 2, iv vc0, iv vc1, iv vc2, iv vc3, rv bq14, rv b15, iv 1, iv 0, iv 2, rv aq20]) rfl ?_
          exact k
        exact own_tail p1 p2 p3 p4 p5 (2 : Int32) vc0 vc1 vc2 vc3 (1 : Int32) (0 : Int32) (2 : Int32) bq14 b15 aq20 bq20 kq20 kq14 [] [(.int vc0), (.int vc1)] (2 : Int32) GC GF X20 hx hZ hw hby hml hown Bd hS rfl N20 (Nat.le_trans (Nat.le_trans (Nat.le_trans (Nat.le_trans Z0 K14q.1) E15.1) K16q.1) K20q.1) (Nat.le_refl _) (by decide) (by decide) S_C hGC O20 S_F is_GF E20q F20c F20v V20q c20_V_bq14 (fun q => absurd q (by decide)) (fun q => absurd q (by decide)) (fun q => absurd q (by decide))
      · refine own_go (B := T16.setTop (mkF m 151 #[iv p1, iv p2, iv p3, iv p4, iv p5, iv 2, iv vc0, iv vc1, iv vc2, iv vc3, rv bq14, rv b15, iv (-1), iv 0, iv 0, .unset] [(.ref b15)])) (fun t k => ?_) ?_
        · show own_S p e below T16 (mkF m 62 #[iv p1, iv p2, iv p3, iv p4, iv p5, iv 2, iv vc0, iv vc1, iv vc2, iv vc3, rv bq14, rv b15, iv (-1), .unset, .unset, .unset] []) _
          refine XS.iload X16.here hx rfl (hb hby at_62) rfl ?_
          refine XS.iconst X16.here hx rfl (hb hby at_64) ?_
          refine XS.icmpYes X16.here hx rfl (pc0 := 65) (pc' := 78) rfl (hb hby at_65) rfl (flt (by decide)).2.2.2 (by decide) (by decide) ?_
          show own_S p e below T16 (mkF m 78 #[iv p1, iv p2, iv p3, iv p4, iv p5, iv 2, iv vc0, iv vc1, iv vc2, iv vc3, rv bq14, rv b15, iv (-1), .unset, .unset, .unset] []) _
          refine XS.iload X16.here hx rfl (hb hby at_78) rfl ?_
          refine XS.iconst X16.here hx rfl (hb hby at_80) ?_
          refine XS.icmpYes X16.here hx rfl (pc0 := 81) (pc' := 94) rfl (hb hby at_81) rfl (flt (by decide)).2.2.2 (by decide) (by decide) ?_
          show own_S p e below T16 (mkF m 94 #[iv p1, iv p2, iv p3, iv p4, iv p5, iv 2, iv vc0, iv vc1, iv vc2, iv vc3, rv bq14, rv b15, iv (-1), .unset, .unset, .unset] []) _
          refine XS.iload X16.here hx rfl (hb hby at_94) rfl ?_
          refine XS.iconst X16.here hx rfl (hb hby at_96) ?_
          refine XS.icmpNo X16.here hx rfl (hb hby at_97) rfl (tlt (by decide)).2.2.2 ?_
          show own_S p e below T16 (mkF m 100 #[iv p1, iv p2, iv p3, iv p4, iv p5, iv 2, iv vc0, iv vc1, iv vc2, iv vc3, rv bq14, rv b15, iv (-1), .unset, .unset, .unset] []) _
          refine XS.iload X16.here hx rfl (hb hby at_100) rfl ?_
          refine XS.bipush X16.here hx rfl (hb hby at_102) ?_
          refine XS.icmpYes X16.here hx rfl (pc0 := 104) (pc' := 110) rfl (hb hby at_104) rfl (feq hq1).2 (by decide) (by decide) ?_
          show own_S p e below T16 (mkF m 110 #[iv p1, iv p2, iv p3, iv p4, iv p5, iv 2, iv vc0, iv vc1, iv vc2, iv vc3, rv bq14, rv b15, iv (-1), .unset, .unset, .unset] []) _
          refine XS.iload X16.here hx rfl (hb hby at_110) rfl ?_
          refine XS.ifNo X16.here hx rfl (hb hby at_112) rfl ((if0 _ _).trans (tlt (by decide)).2.2.2) ?_
          refine XS.iload X16.here hx rfl (hb hby at_115) rfl ?_
          show own_S p e below T16 (mkF m 117 #[iv p1, iv p2, iv p3, iv p4, iv p5, iv 2, iv vc0, iv vc1, iv vc2, iv vc3, rv bq14, rv b15, iv (-1), .unset, .unset, .unset] [(.int vc0)]) _
          refine XS.bipush X16.here hx rfl (hb hby at_117) ?_
          refine XS.icmpYes X16.here hx rfl (pc0 := 119) (pc' := 125) rfl (hb hby at_119) rfl (feq hq0).2 (by decide) (by decide) ?_
          refine XS.iload X16.here hx rfl (hb hby at_125) rfl ?_
          show own_S p e below T16 (mkF m 127 #[iv p1, iv p2, iv p3, iv p4, iv p5, iv 2, iv vc0, iv vc1, iv vc2, iv vc3, rv bq14, rv b15, iv (-1), .unset, .unset, .unset] [(.int (-1))]) _
          refine XS.ifNo X16.here hx rfl (hb hby at_127) rfl ((if0 _ _).trans (tlt (by decide)).2.1) ?_
          refine XS.iconst X16.here hx rfl (hb hby at_130) ?_
          refine XS.goto X16.here hx rfl (pc0 := 131) (pc' := 141) rfl (hb hby at_131) (by decide) (by decide) ?_
          show own_S p e below T16 (mkF m 141 #[iv p1, iv p2, iv p3, iv p4, iv p5, iv 2, iv vc0, iv vc1, iv vc2, iv vc3, rv bq14, rv b15, iv (-1), .unset, .unset, .unset] [(.int 0)]) _
          refine XS.istore X16.here hx rfl (hb hby at_141) rfl (l' := #[iv p1, iv p2, iv p3, iv p4, iv p5, iv 2, iv vc0, iv vc1, iv vc2, iv vc3, rv bq14, rv b15, iv (-1), iv 0, .unset, .unset]) rfl ?_
          refine XS.iload X16.here hx rfl (hb hby at_143) rfl ?_
          refine XS.iconst X16.here hx rfl (hb hby at_145) ?_
          show own_S p e below T16 (mkF m 146 #[iv p1, iv p2, iv p3, iv p4, iv p5, iv 2, iv vc0, iv vc1, iv vc2, iv vc3, rv bq14, rv b15, iv (-1), iv 0, .unset, .unset] [(.int 1), (.int (-1))]) _
          refine XS.iadd X16.here hx rfl (hb hby at_146) rfl ?_
          refine XS.istore X16.here hx rfl (hb hby at_147) rfl (l' := #[iv p1, iv p2, iv p3, iv p4, iv p5, iv 2, iv vc0, iv vc1, iv vc2, iv vc3, rv bq14, rv b15, iv (-1), iv 0, iv 0, .unset]) rfl ?_
          refine XS.aload X16.here hx rfl (hb hby at_149) rfl rfl ?_
          exact k
        have Ch21p := CHr.ext (own_ext K16) hCH
        obtain ⟨_, _, ⟨T21, L21, k21, n21⟩, -, X21, hS21, hg21, ⟨Lc21, hQ21, l21, y21, z21, hCr21⟩, st21⟩ := callSS X16 hx (y := own_y30) hown (mvT hZ (own_w hw 30 rfl)) (mvT hZ (own_w hw 31 rfl)) (mvT hZ (own_w hw 32 rfl)) (mvT hZ (own_w hw 33 rfl)) (by decide) (backOfSH (W := 0) (rm6n l Z a0 hw [] b15 (-1 : Int32) T16.heap n0 (Nat.le_trans (Nat.le_trans (Nat.le_trans Z0 K14q.1) E15.1) K16q.1) E16q (rm7g l Z a0 hw [] b15 (63 : Int32) bq16 kq16 (2 : Int32) [(.int (own_b vc0)), (.int (own_b vc1))] (-1 : Int32) GC T16.heap n0 (Nat.le_trans (Nat.le_trans (Nat.le_trans Z0 K14q.1) E15.1) K16q.1) S_C hGC O16 E16q F16c F16v V16q (rm12_2 l Z a0 hw [] bq16 kq16 (own_b vc0) (own_b vc1) (-1 : Int32) T16.heap n0 (Nat.le_trans (Nat.le_trans (Nat.le_trans Z0 K14q.1) E15.1) K16q.1) V16q (by rw [own_ix2, if_neg (own_nb hcv0 hq0), if_neg (own_nb hcv1 hq1)]))) (by decide)) hZ (own_w hw 33 rfl) (own_w hw 32 rfl) (by decide) (by decide) (own_hEL hw) Ch21p.1) (g := (mkF m 151 #[iv p1, iv p2, iv p3, iv p4, iv p5, iv 2, iv vc0, iv vc1, iv vc2, iv vc3, rv bq14, rv b15, iv (-1), iv 0, iv 0, .unset] [(.ref b15)])) rfl (by rw [hml]; rfl) (argsL := [(.ref b15)]) (rest := []) (lenOf own_pd25 rfl) rfl (by show 2 * 0 + _ ≤ _; exact Nat.le_of_eq rfl) (hb hby at_151) (fun _ _ => ⟨rfl, rfl, (by decide : 3 + 2 ≤ _), (by decide : 8 + 8 ≤ _)⟩)
        dsimp only [Pt.U, Pt.locs, Pt.cells, Pt.slots] at X21 l21 y21 z21 st21 hQ21 hS21 hg21 hCr21
        subst l21 y21 z21
        have hS := hS.trans hS21 (Nat.le_trans (Nat.le_trans (Nat.le_trans (Nat.le_trans (Nat.zero_le _) K14q.1) E15.1) K16q.1) (Nat.le_trans (Nat.le_of_eq (congrArg Array.size rfl.symm)) hg21))
        have hZ : Z.Warmed39 (s.setVm T21.vm).vm := State.Warmed39.trans hZ hS21.1
        have hown : (s.setVm T21.vm).vm.findClass "com/example/arcas/arcas/http/RequestLineQueryPinLaw" = some m.cls := (hS21.1.alike.findClass _ _).trans hown
        obtain ⟨aq21, bq21, kq21, rfl, N21q, K21q, E21q, F21c, F21v, V21q⟩ := hQ21
        have N21 := Fr.app N16 N21q
        have c21_V_bq14 := c16_V_bq14.keep K21q (List.not_mem_nil)
        have c21_E_b15 := E16q.keep K21q
        have c21_F_b15_coder := F16c.keep K21q (List.not_mem_nil)
        have c21_F_b15_value := F16v.keep K21q (List.not_mem_nil)
        have c21_V_bq16 := V16q.keep K21q (List.not_mem_nil)
        have O21 := O16.keep K21q all0
        have K21 := K16.trans K21q all0
        have Ch21 := Ch21p.trans hCr21
        refine own_go (B := T21.setTop (mkF m 154 #[iv p1, iv p2, iv p3, iv p4, iv p5, iv 2, iv vc0, iv vc1, iv vc2, iv vc3, rv bq14, rv b15, iv (-1), iv 0, iv 0, .unset] [(.ref aq21)])) (fun t k => st21.trans k) ?_
        refine own_go (B := T21.setTop (mkF m 156 #[iv p1, iv p2, iv p3, iv p4, iv p5, iv 2, iv vc0, iv vc1, iv vc2, iv vc3, rv bq14, rv b15, iv (-1), iv 0, iv 0, rv aq21] [])) (fun t k => ?_) ?_
        · show own_S p e below T21 (mkF m 154 #[iv p1, iv p2, iv p3, iv p4, iv p5, iv 2, iv vc0, iv vc1, iv vc2, iv vc3, rv bq14, rv b15, iv (-1), iv 0, iv 0, .unset] [(.ref aq21)]) _
          refine XS.astore X21.here hx rfl (hb hby at_154) rfl rfl (l' := #[iv p1, iv p2, iv p3, iv p4, iv p5, iv 2, iv vc0, iv vc1, iv vc2, iv vc3, rv bq14, rv b15, iv (-1), iv 0, iv 0, rv aq21]) rfl ?_
          exact k
        exact own_tail p1 p2 p3 p4 p5 (2 : Int32) vc0 vc1 vc2 vc3 (-1 : Int32) (0 : Int32) (0 : Int32) bq14 b15 aq21 bq21 kq21 kq14 [] [(.int vc0), (.int vc1)] (2 : Int32) GC GF X21 hx hZ hw hby hml hown Bd hS rfl N21 (Nat.le_trans (Nat.le_trans (Nat.le_trans (Nat.le_trans Z0 K14q.1) E15.1) K16q.1) K21q.1) (Nat.le_refl _) (by decide) (by decide) S_C hGC O21 S_F is_GF E21q F21c F21v V21q c21_V_bq14 (fun q => absurd q (by decide)) (fun q => absurd q (by decide)) (fun q => absurd q (by decide))
  · refine own_go (B := T4.setTop (mkF m 43 #[iv p1, iv p2, iv p3, iv p4, iv p5, iv 3, iv vc0, iv vc1, iv vc2, iv vc3, .unset, .unset, .unset, .unset, .unset, .unset] [(.int vc3), (.int vc2), (.int vc1), (.int vc0), (.int 3)])) (fun t k => ?_) ?_
    · show own_S p e below T4 (mkF m 33 #[iv p1, iv p2, iv p3, iv p4, iv p5, iv 3, iv vc0, iv vc1, iv vc2, iv vc3, .unset, .unset, .unset, .unset, .unset, .unset] []) _
      refine XS.iload X4.here hx rfl (hb hby at_33) rfl ?_
      refine XS.iload X4.here hx rfl (hb hby at_35) rfl ?_
      refine XS.iload X4.here hx rfl (hb hby at_37) rfl ?_
      show own_S p e below T4 (mkF m 39 #[iv p1, iv p2, iv p3, iv p4, iv p5, iv 3, iv vc0, iv vc1, iv vc2, iv vc3, .unset, .unset, .unset, .unset, .unset, .unset] [(.int vc1), (.int vc0), (.int 3)]) _
      refine XS.iload X4.here hx rfl (hb hby at_39) rfl ?_
      refine XS.iload X4.here hx rfl (hb hby at_41) rfl ?_
      exact k
    obtain ⟨_, _, ⟨T22, L22, k22, n22⟩, -, X22, ⟨Lc22, hQ22, l22, y22, z22⟩, st22⟩ := Jvm.LawKit.callS X4 hx (y := own_y29) hown (mvT hZ (own_w hw 5 rfl)) (mvT hZ (own_w hw 6 rfl)) (mvT hZ (own_w hw 3 rfl)) (mvT hZ (own_w hw 7 rfl)) (by decide) (backOf (W := 0) (rm2_3 l Z a0 hw [] vc0 vc1 vc2 vc3 h0 n0 Z0 hnc0 hnc1 hnc2) hZ (own_w hw 7 rfl) (own_w hw 3 rfl) (by decide) (by decide)) (g := (mkF m 43 #[iv p1, iv p2, iv p3, iv p4, iv p5, iv 3, iv vc0, iv vc1, iv vc2, iv vc3, .unset, .unset, .unset, .unset, .unset, .unset] [(.int vc3), (.int vc2), (.int vc1), (.int vc0), (.int 3)])) rfl (by rw [hml]; rfl) (argsL := [(.int 3), (.int vc0), (.int vc1), (.int vc2), (.int vc3)]) (rest := []) (lenOf own_pd23 rfl) rfl (by show 2 * 0 + _ ≤ _; exact Nat.le_of_eq rfl) (hb hby at_43) (fun _ _ => ⟨rfl, eq4, (by decide : 0 + 1 ≤ _), (by decide : 0 + 3 ≤ _)⟩)
    dsimp only [Pt.U, Pt.locs, Pt.cells, Pt.slots] at X22 l22 y22 z22 st22 hQ22
    subst l22 y22 z22
    obtain ⟨bq22, kq22, rfl, N22q, K22q, q22z, q22g, V22q⟩ := hQ22
    have N22 := Fr.app N4 N22q
    have sz_bq22 : h0.size ≤ bq22 := Nat.le_trans ((Keep.refl h0 [])).1 q22z
    have g_bq22 : n0 ≤ bq22 := q22g
    have O22 := O0.keep K22q all0
    have K22 := (Keep.refl h0 []).trans K22q all0
    refine own_go (B := T22.setTop (mkF m 46 #[iv p1, iv p2, iv p3, iv p4, iv p5, iv 3, iv vc0, iv vc1, iv vc2, iv vc3, .unset, .unset, .unset, .unset, .unset, .unset] [(.ref bq22)])) (fun t k => st22 _ k) ?_
    refine own_go (B := T22.setTop (mkF m 48 #[iv p1, iv p2, iv p3, iv p4, iv p5, iv 3, iv vc0, iv vc1, iv vc2, iv vc3, rv bq22, .unset, .unset, .unset, .unset, .unset] [])) (fun t k => ?_) ?_
    · show own_S p e below T22 (mkF m 46 #[iv p1, iv p2, iv p3, iv p4, iv p5, iv 3, iv vc0, iv vc1, iv vc2, iv vc3, .unset, .unset, .unset, .unset, .unset, .unset] [(.ref bq22)]) _
      refine XS.astore X22.here hx rfl (hb hby at_46) rfl rfl (l' := #[iv p1, iv p2, iv p3, iv p4, iv p5, iv 3, iv vc0, iv vc1, iv vc2, iv vc3, rv bq22, .unset, .unset, .unset, .unset, .unset]) rfl ?_
      exact k
    obtain ⟨T23, h23, X23, e23, E23, A23, D23, -, st23⟩ := newO X22 hx hZ hown (own_w hw 9 rfl) (own_w hw 10 rfl) (own_w hw 11 rfl) rfl (g := (mkF m 48 #[iv p1, iv p2, iv p3, iv p4, iv p5, iv 3, iv vc0, iv vc1, iv vc2, iv vc3, rv bq22, .unset, .unset, .unset, .unset, .unset] [])) rfl (hb hby at_48) (by decide) (by decide)
    obtain ⟨b23, g23⟩ : ∃ z, z = T22.heap.size := ⟨_, rfl⟩
    rw [← g23] at A23 D23 st23
    have g_b23 : n0 ≤ b23 := Nat.le_trans (Nat.le_trans Z0 K22q.1) (Nat.le_of_eq g23.symm)
    have sz_b23 : h0.size ≤ b23 := Nat.le_trans K22.1 (Nat.le_of_eq g23.symm)
    have ne_bq22_b23 : bq22 ≠ b23 := Nat.ne_of_lt (Nat.lt_of_lt_of_le V22q.lt (Nat.le_of_eq g23.symm))
    have c23_V_bq22 := V22q.ext E23
    have K23 := K22.ext E23
    have O23 := O22.ext E23
    have F23_value : Fld Z h23 b23 "java/lang/String" "value" "[B" .null := D23 (Or.inr (own_w hw 24 rfl)) (ty := (.array .byte)) (by decide)
    have F23_coder : Fld Z h23 b23 "java/lang/String" "coder" "B" (.int 0) := D23 (Or.inr (own_w hw 25 rfl)) (ty := .byte) (by decide)
    refine own_go (B := T23.setTop (mkF m 51 #[iv p1, iv p2, iv p3, iv p4, iv p5, iv 3, iv vc0, iv vc1, iv vc2, iv vc3, rv bq22, .unset, .unset, .unset, .unset, .unset] [(.ref b23)])) (fun t k => st23 _ k) ?_
    refine own_go (B := T23.setTop (mkF m 54 #[iv p1, iv p2, iv p3, iv p4, iv p5, iv 3, iv vc0, iv vc1, iv vc2, iv vc3, rv bq22, .unset, .unset, .unset, .unset, .unset] [(.ref bq22), (.ref b23), (.ref b23)])) (fun t k => ?_) ?_
    · show own_S p e below T23 (mkF m 51 #[iv p1, iv p2, iv p3, iv p4, iv p5, iv 3, iv vc0, iv vc1, iv vc2, iv vc3, rv bq22, .unset, .unset, .unset, .unset, .unset] [(.ref b23)]) _
      refine XS.dup X23.here hx rfl (hb hby at_51) rfl rfl ?_
      refine XS.aload X23.here hx rfl (hb hby at_52) rfl rfl ?_
      exact k
    obtain ⟨_, _, ⟨T24, L24, k24, n24⟩, -, X24, ⟨Lc24, hQ24, l24, y24, z24⟩, st24⟩ := X23.specialBack hx (y := own_y11) rfl hown (mvT hZ (own_w hw 12 rfl)) (mvT hZ (own_w hw 13 rfl)) (mvT hZ (own_w hw 14 rfl)) (by decide) (backOf (W := 1) (rm3_3 l Z a0 hw [] b23 bq22 kq22 vc0 vc1 vc2 GC h23 n0 (Nat.le_trans (Nat.le_trans Z0 K22q.1) E23.1) S_C hGC O23 A23 g_b23 F23_value F23_coder c23_V_bq22 (Ne.symm ne_bq22_b23) hbig0 hbig1 hbig2) hZ (own_w hw 14 rfl) (own_w hw 11 rfl) (by decide) (by decide)) (g := (mkF m 54 #[iv p1, iv p2, iv p3, iv p4, iv p5, iv 3, iv vc0, iv vc1, iv vc2, iv vc3, rv bq22, .unset, .unset, .unset, .unset, .unset] [(.ref bq22), (.ref b23), (.ref b23)])) rfl (by rw [hml]; rfl) (Steps.refl _) (a := b23) (argsL := [(.ref bq22)]) (rest := [(.ref b23)]) (lenOf own_pd24 rfl) rfl (by show 2 * 0 + _ ≤ _; exact Nat.le_of_eq rfl) (hb hby at_54) (fun _ _ => ⟨rfl, e23, (by decide : 2 + 1 ≤ _), (by decide : 7 + 3 ≤ _)⟩)
    dsimp only [Pt.U, Pt.locs, Pt.cells, Pt.slots] at X24 l24 y24 z24 st24 hQ24
    subst l24 y24 z24
    obtain ⟨rfl, N24q, bq24, kq24, K24q, E24q, F24c, F24v, V24q⟩ := hQ24
    have N24 := Fr.app N22 N24q
    have c24_V_bq22 := c23_V_bq22.keep K24q (fun q => ne_bq22_b23 (List.mem_singleton.mp q))
    have O24 := O23.keep K24q (allS g_b23 all0)
    have K24 := K23.trans K24q (allS (Or.inr sz_b23) all0)
    refine own_go (B := T24.setTop (mkF m 57 #[iv p1, iv p2, iv p3, iv p4, iv p5, iv 3, iv vc0, iv vc1, iv vc2, iv vc3, rv bq22, .unset, .unset, .unset, .unset, .unset] [(.ref b23)])) (fun t k => st24.trans k) ?_
    refine own_go (B := T24.setTop (mkF m 62 #[iv p1, iv p2, iv p3, iv p4, iv p5, iv 3, iv vc0, iv vc1, iv vc2, iv vc3, rv bq22, rv b23, iv (-1), .unset, .unset, .unset] [])) (fun t k => ?_) ?_
    · show own_S p e below T24 (mkF m 57 #[iv p1, iv p2, iv p3, iv p4, iv p5, iv 3, iv vc0, iv vc1, iv vc2, iv vc3, rv bq22, .unset, .unset, .unset, .unset, .unset] [(.ref b23)]) _
      refine XS.astore X24.here hx rfl (hb hby at_57) rfl rfl (l' := #[iv p1, iv p2, iv p3, iv p4, iv p5, iv 3, iv vc0, iv vc1, iv vc2, iv vc3, rv bq22, rv b23, .unset, .unset, .unset, .unset]) rfl ?_
      refine XS.iconst X24.here hx rfl (hb hby at_59) ?_
      refine XS.istore X24.here hx rfl (hb hby at_60) rfl (l' := #[iv p1, iv p2, iv p3, iv p4, iv p5, iv 3, iv vc0, iv vc1, iv vc2, iv vc3, rv bq22, rv b23, iv (-1), .unset, .unset, .unset]) rfl ?_
      exact k
    by_cases hq0 : vc0 = (63 : Int32)
    · refine own_go (B := T24.setTop (mkF m 88 #[iv p1, iv p2, iv p3, iv p4, iv p5, iv 3, iv vc0, iv vc1, iv vc2, iv vc3, rv bq22, rv b23, iv (-1), .unset, .unset, .unset] [(.int 63), (.int vc2)])) (fun t k => ?_) ?_
      · show own_S p e below T24 (mkF m 62 #[iv p1, iv p2, iv p3, iv p4, iv p5, iv 3, iv vc0, iv vc1, iv vc2, iv vc3, rv bq22, rv b23, iv (-1), .unset, .unset, .unset] []) _
        refine XS.iload X24.here hx rfl (hb hby at_62) rfl ?_
        refine XS.iconst X24.here hx rfl (hb hby at_64) ?_
        refine XS.icmpYes X24.here hx rfl (pc0 := 65) (pc' := 78) rfl (hb hby at_65) rfl (flt (by decide)).2.2.2 (by decide) (by decide) ?_
        show own_S p e below T24 (mkF m 78 #[iv p1, iv p2, iv p3, iv p4, iv p5, iv 3, iv vc0, iv vc1, iv vc2, iv vc3, rv bq22, rv b23, iv (-1), .unset, .unset, .unset] []) _
        refine XS.iload X24.here hx rfl (hb hby at_78) rfl ?_
        refine XS.iconst X24.here hx rfl (hb hby at_80) ?_
        refine XS.icmpNo X24.here hx rfl (hb hby at_81) rfl (tlt (by decide)).2.2.2 ?_
        show own_S p e below T24 (mkF m 84 #[iv p1, iv p2, iv p3, iv p4, iv p5, iv 3, iv vc0, iv vc1, iv vc2, iv vc3, rv bq22, rv b23, iv (-1), .unset, .unset, .unset] []) _
        refine XS.iload X24.here hx rfl (hb hby at_84) rfl ?_
        refine XS.bipush X24.here hx rfl (hb hby at_86) ?_
        exact k
      obtain ⟨z25, hz25⟩ : ∃ q : Int32, q = (if vc2 = (63 : Int32) then (2 : Int32) else (-1 : Int32)) := ⟨_, rfl⟩
      refine own_go (B := T24.setTop (mkF m 94 #[iv p1, iv p2, iv p3, iv p4, iv p5, iv 3, iv vc0, iv vc1, iv vc2, iv vc3, rv bq22, rv b23, iv z25, .unset, .unset, .unset] [])) (fun t k => ?_) ?_
      · by_cases hc88_26 : vc2 = (63 : Int32)
        · rw [show z25 = (2 : Int32) from hz25.trans (by rw [if_pos hc88_26])] at k
          show own_S p e below T24 (mkF m 88 #[iv p1, iv p2, iv p3, iv p4, iv p5, iv 3, iv vc0, iv vc1, iv vc2, iv vc3, rv bq22, rv b23, iv (-1), .unset, .unset, .unset] [(.int 63), (.int vc2)]) _
          refine XS.icmpNo X24.here hx rfl (hb hby at_88) rfl (teq hc88_26).2 ?_
          refine XS.iconst X24.here hx rfl (hb hby at_91) ?_
          refine XS.istore X24.here hx rfl (hb hby at_92) rfl (l' := #[iv p1, iv p2, iv p3, iv p4, iv p5, iv 3, iv vc0, iv vc1, iv vc2, iv vc3, rv bq22, rv b23, iv 2, .unset, .unset, .unset]) rfl ?_
          exact k
        · rw [show z25 = (-1 : Int32) from hz25.trans (by rw [if_neg hc88_26])] at k
          show own_S p e below T24 (mkF m 88 #[iv p1, iv p2, iv p3, iv p4, iv p5, iv 3, iv vc0, iv vc1, iv vc2, iv vc3, rv bq22, rv b23, iv (-1), .unset, .unset, .unset] [(.int 63), (.int vc2)]) _
          refine XS.icmpYes X24.here hx rfl (pc0 := 88) (pc' := 94) rfl (hb hby at_88) rfl (feq hc88_26).2 (by decide) (by decide) ?_
          exact k
      refine own_go (B := T24.setTop (mkF m 104 #[iv p1, iv p2, iv p3, iv p4, iv p5, iv 3, iv vc0, iv vc1, iv vc2, iv vc3, rv bq22, rv b23, iv z25, .unset, .unset, .unset] [(.int 63), (.int vc1)])) (fun t k => ?_) ?_
      · show own_S p e below T24 (mkF m 94 #[iv p1, iv p2, iv p3, iv p4, iv p5, iv 3, iv vc0, iv vc1, iv vc2, iv vc3, rv bq22, rv b23, iv z25, .unset, .unset, .unset] []) _
        refine XS.iload X24.here hx rfl (hb hby at_94) rfl ?_
        refine XS.iconst X24.here hx rfl (hb hby at_96) ?_
        refine XS.icmpNo X24.here hx rfl (hb hby at_97) rfl (tlt (by decide)).2.2.2 ?_
        show own_S p e below T24 (mkF m 100 #[iv p1, iv p2, iv p3, iv p4, iv p5, iv 3, iv vc0, iv vc1, iv vc2, iv vc3, rv bq22, rv b23, iv z25, .unset, .unset, .unset] []) _
        refine XS.iload X24.here hx rfl (hb hby at_100) rfl ?_
        refine XS.bipush X24.here hx rfl (hb hby at_102) ?_
        exact k
      obtain ⟨z27, hz27⟩ : ∃ q : Int32, q = (if vc1 = (63 : Int32) then (1 : Int32) else z25) := ⟨_, rfl⟩
      refine own_go (B := T24.setTop (mkF m 110 #[iv p1, iv p2, iv p3, iv p4, iv p5, iv 3, iv vc0, iv vc1, iv vc2, iv vc3, rv bq22, rv b23, iv z27, .unset, .unset, .unset] [])) (fun t k => ?_) ?_
      · by_cases hc104_28 : vc1 = (63 : Int32)
        · rw [show z27 = (1 : Int32) from hz27.trans (by rw [if_pos hc104_28])] at k
          show own_S p e below T24 (mkF m 104 #[iv p1, iv p2, iv p3, iv p4, iv p5, iv 3, iv vc0, iv vc1, iv vc2, iv vc3, rv bq22, rv b23, iv z25, .unset, .unset, .unset] [(.int 63), (.int vc1)]) _
          refine XS.icmpNo X24.here hx rfl (hb hby at_104) rfl (teq hc104_28).2 ?_
          refine XS.iconst X24.here hx rfl (hb hby at_107) ?_
          refine XS.istore X24.here hx rfl (hb hby at_108) rfl (l' := #[iv p1, iv p2, iv p3, iv p4, iv p5, iv 3, iv vc0, iv vc1, iv vc2, iv vc3, rv bq22, rv b23, iv 1, .unset, .unset, .unset]) rfl ?_
          exact k
        · rw [show z27 = z25 from hz27.trans (by rw [if_neg hc104_28])] at k
          show own_S p e below T24 (mkF m 104 #[iv p1, iv p2, iv p3, iv p4, iv p5, iv 3, iv vc0, iv vc1, iv vc2, iv vc3, rv bq22, rv b23, iv z25, .unset, .unset, .unset] [(.int 63), (.int vc1)]) _
          refine XS.icmpYes X24.here hx rfl (pc0 := 104) (pc' := 110) rfl (hb hby at_104) rfl (feq hc104_28).2 (by decide) (by decide) ?_
          exact k
      refine own_go (B := T24.setTop (mkF m 151 #[iv p1, iv p2, iv p3, iv p4, iv p5, iv 3, iv vc0, iv vc1, iv vc2, iv vc3, rv bq22, rv b23, iv 0, iv 2, iv 1, .unset] [(.ref b23)])) (fun t k => ?_) ?_
      · show own_S p e below T24 (mkF m 110 #[iv p1, iv p2, iv p3, iv p4, iv p5, iv 3, iv vc0, iv vc1, iv vc2, iv vc3, rv bq22, rv b23, iv z27, .unset, .unset, .unset] []) _
        refine XS.iload X24.here hx rfl (hb hby at_110) rfl ?_
        refine XS.ifNo X24.here hx rfl (hb hby at_112) rfl ((if0 _ _).trans (tlt (by decide)).2.2.2) ?_
        refine XS.iload X24.here hx rfl (hb hby at_115) rfl ?_
        show own_S p e below T24 (mkF m 117 #[iv p1, iv p2, iv p3, iv p4, iv p5, iv 3, iv vc0, iv vc1, iv vc2, iv vc3, rv bq22, rv b23, iv z27, .unset, .unset, .unset] [(.int vc0)]) _
        refine XS.bipush X24.here hx rfl (hb hby at_117) ?_
        refine XS.icmpNo X24.here hx rfl (hb hby at_119) rfl (teq hq0).2 ?_
        refine XS.iconst X24.here hx rfl (hb hby at_122) ?_
        show own_S p e below T24 (mkF m 123 #[iv p1, iv p2, iv p3, iv p4, iv p5, iv 3, iv vc0, iv vc1, iv vc2, iv vc3, rv bq22, rv b23, iv z27, .unset, .unset, .unset] [(.int 0)]) _
        refine XS.istore X24.here hx rfl (hb hby at_123) rfl (l' := #[iv p1, iv p2, iv p3, iv p4, iv p5, iv 3, iv vc0, iv vc1, iv vc2, iv vc3, rv bq22, rv b23, iv 0, .unset, .unset, .unset]) rfl ?_
        refine XS.iload X24.here hx rfl (hb hby at_125) rfl ?_
        refine XS.ifYes X24.here hx rfl (pc0 := 127) (pc' := 134) rfl (hb hby at_127) rfl ((if0 _ _).trans (flt (by decide)).2.1) (by decide) (by decide) ?_
        show own_S p e below T24 (mkF m 134 #[iv p1, iv p2, iv p3, iv p4, iv p5, iv 3, iv vc0, iv vc1, iv vc2, iv vc3, rv bq22, rv b23, iv 0, .unset, .unset, .unset] []) _
        refine XS.iload X24.here hx rfl (hb hby at_134) rfl ?_
        refine XS.iload X24.here hx rfl (hb hby at_136) rfl ?_
        refine XS.isub X24.here hx rfl (hb hby at_138) rfl ?_
        show own_S p e below T24 (mkF m 139 #[iv p1, iv p2, iv p3, iv p4, iv p5, iv 3, iv vc0, iv vc1, iv vc2, iv vc3, rv bq22, rv b23, iv 0, .unset, .unset, .unset] [(.int 3)]) _
        refine XS.iconst X24.here hx rfl (hb hby at_139) ?_
        refine XS.isub X24.here hx rfl (hb hby at_140) rfl ?_
        refine XS.istore X24.here hx rfl (hb hby at_141) rfl (l' := #[iv p1, iv p2, iv p3, iv p4, iv p5, iv 3, iv vc0, iv vc1, iv vc2, iv vc3, rv bq22, rv b23, iv 0, iv 2, .unset, .unset]) rfl ?_
        show own_S p e below T24 (mkF m 143 #[iv p1, iv p2, iv p3, iv p4, iv p5, iv 3, iv vc0, iv vc1, iv vc2, iv vc3, rv bq22, rv b23, iv 0, iv 2, .unset, .unset] []) _
        refine XS.iload X24.here hx rfl (hb hby at_143) rfl ?_
        refine XS.iconst X24.here hx rfl (hb hby at_145) ?_
        refine XS.iadd X24.here hx rfl (hb hby at_146) rfl ?_
        show own_S p e below T24 (mkF m 147 #[iv p1, iv p2, iv p3, iv p4, iv p5, iv 3, iv vc0, iv vc1, iv vc2, iv vc3, rv bq22, rv b23, iv 0, iv 2, .unset, .unset] [(.int 1)]) _
        refine XS.istore X24.here hx rfl (hb hby at_147) rfl (l' := #[iv p1, iv p2, iv p3, iv p4, iv p5, iv 3, iv vc0, iv vc1, iv vc2, iv vc3, rv bq22, rv b23, iv 0, iv 2, iv 1, .unset]) rfl ?_
        refine XS.aload X24.here hx rfl (hb hby at_149) rfl rfl ?_
        exact k
      obtain ⟨_, _, ⟨T29, L29, k29, n29⟩, -, X29, ⟨Lc29, hQ29, l29, y29, z29⟩, st29⟩ := Jvm.LawKit.callS X24 hx (y := own_y30) hown (mvT hZ (own_w hw 30 rfl)) (mvT hZ (own_w hw 31 rfl)) (mvT hZ (own_w hw 32 rfl)) (mvT hZ (own_w hw 33 rfl)) (by decide) (backOf (W := 0) (rm6y l Z a0 hw [] b23 (0 : Int32) (2 : Int32) [(.int (own_b vc1)), (.int (own_b vc2))] T24.heap n0 (Nat.le_trans (Nat.le_trans (Nat.le_trans Z0 K22q.1) E23.1) K24q.1) E24q (rm7g l Z a0 hw [] b23 (63 : Int32) bq24 kq24 (3 : Int32) [(.int (own_b vc0)), (.int (own_b vc1)), (.int (own_b vc2))] (0 : Int32) GC T24.heap n0 (Nat.le_trans (Nat.le_trans (Nat.le_trans Z0 K22q.1) E23.1) K24q.1) S_C hGC O24 E24q F24c F24v V24q (rm12_3 l Z a0 hw [] bq24 kq24 (own_b vc0) (own_b vc1) (own_b vc2) (0 : Int32) T24.heap n0 (Nat.le_trans (Nat.le_trans (Nat.le_trans Z0 K22q.1) E23.1) K24q.1) V24q (by rw [own_ix3, if_pos (own_yb hq0)]))) (by decide) (rm21g l Z a0 hw [] b23 (1 : Int32) (3 : Int32) bq24 kq24 [(.int (own_b vc0)), (.int (own_b vc1)), (.int (own_b vc2))] [(.int (own_b vc1)), (.int (own_b vc2))] GC GF T24.heap n0 (Nat.le_trans (Nat.le_trans (Nat.le_trans Z0 K22q.1) E23.1) K24q.1) S_C hGC O24 S_F is_GF E24q F24c F24v V24q (by decide) (by decide) (rm25_3_1 l Z a0 hw [] bq24 kq24 (own_b vc0) (own_b vc1) (own_b vc2) T24.heap n0 (Nat.le_trans (Nat.le_trans (Nat.le_trans Z0 K22q.1) E23.1) K24q.1) V24q))) hZ (own_w hw 33 rfl) (own_w hw 32 rfl) (by decide) (by decide)) (g := (mkF m 151 #[iv p1, iv p2, iv p3, iv p4, iv p5, iv 3, iv vc0, iv vc1, iv vc2, iv vc3, rv bq22, rv b23, iv 0, iv 2, iv 1, .unset] [(.ref b23)])) rfl (by rw [hml]; rfl) (argsL := [(.ref b23)]) (rest := []) (lenOf own_pd25 rfl) rfl (by show 2 * 0 + _ ≤ _; exact Nat.le_of_eq rfl) (hb hby at_151) (fun _ _ => ⟨rfl, rfl, (by decide : 3 + 2 ≤ _), (by decide : 10 + 8 ≤ _)⟩)
      dsimp only [Pt.U, Pt.locs, Pt.cells, Pt.slots] at X29 l29 y29 z29 st29 hQ29
      subst l29 y29 z29
      obtain ⟨aq29, bq29, kq29, rfl, N29q, K29q, E29q, F29c, F29v, V29q⟩ := hQ29
      have N29 := Fr.app N24 N29q
      have c29_V_bq22 := c24_V_bq22.keep K29q (List.not_mem_nil)
      have c29_E_b23 := E24q.keep K29q
      have c29_F_b23_coder := F24c.keep K29q (List.not_mem_nil)
      have c29_F_b23_value := F24v.keep K29q (List.not_mem_nil)
      have c29_V_bq24 := V24q.keep K29q (List.not_mem_nil)
      have O29 := O24.keep K29q all0
      have K29 := K24.trans K29q all0
      refine own_go (B := T29.setTop (mkF m 154 #[iv p1, iv p2, iv p3, iv p4, iv p5, iv 3, iv vc0, iv vc1, iv vc2, iv vc3, rv bq22, rv b23, iv 0, iv 2, iv 1, .unset] [(.ref aq29)])) (fun t k => st29 _ k) ?_
      refine own_go (B := T29.setTop (mkF m 156 #[iv p1, iv p2, iv p3, iv p4, iv p5, iv 3, iv vc0, iv vc1, iv vc2, iv vc3, rv bq22, rv b23, iv 0, iv 2, iv 1, rv aq29] [])) (fun t k => ?_) ?_
      · show own_S p e below T29 (mkF m 154 #[iv p1, iv p2, iv p3, iv p4, iv p5, iv 3, iv vc0, iv vc1, iv vc2, iv vc3, rv bq22, rv b23, iv 0, iv 2, iv 1, .unset] [(.ref aq29)]) _
        refine XS.astore X29.here hx rfl (hb hby at_154) rfl rfl (l' := #[iv p1, iv p2, iv p3, iv p4, iv p5, iv 3, iv vc0, iv vc1, iv vc2, iv vc3, rv bq22, rv b23, iv 0, iv 2, iv 1, rv aq29]) rfl ?_
        exact k
      exact own_tail p1 p2 p3 p4 p5 (3 : Int32) vc0 vc1 vc2 vc3 (0 : Int32) (2 : Int32) (1 : Int32) bq22 b23 aq29 bq29 kq29 kq22 [(.int (own_b vc1)), (.int (own_b vc2))] [(.int vc0), (.int vc1), (.int vc2)] (3 : Int32) GC GF X29 hx hZ hw hby hml hown Bd hS rfl N29 (Nat.le_trans (Nat.le_trans (Nat.le_trans (Nat.le_trans Z0 K22q.1) E23.1) K24q.1) K29q.1) (Nat.le_trans (Nat.le_trans (Nat.le_trans (Nat.le_trans (Nat.zero_le _) K22q.1) E23.1) K24q.1) K29q.1) (by decide) (by decide) S_C hGC O29 S_F is_GF E29q F29c F29v V29q c29_V_bq22 (fun _ => ⟨_, _, rfl, by decide, rfl, hrt1⟩) (fun _ => ⟨_, _, rfl, by decide, rfl, hrt2⟩) (fun q => absurd q (by decide))
    · by_cases hq1 : vc1 = (63 : Int32)
      · refine own_go (B := T24.setTop (mkF m 88 #[iv p1, iv p2, iv p3, iv p4, iv p5, iv 3, iv vc0, iv vc1, iv vc2, iv vc3, rv bq22, rv b23, iv (-1), .unset, .unset, .unset] [(.int 63), (.int vc2)])) (fun t k => ?_) ?_
        · show own_S p e below T24 (mkF m 62 #[iv p1, iv p2, iv p3, iv p4, iv p5, iv 3, iv vc0, iv vc1, iv vc2, iv vc3, rv bq22, rv b23, iv (-1), .unset, .unset, .unset] []) _
          refine XS.iload X24.here hx rfl (hb hby at_62) rfl ?_
          refine XS.iconst X24.here hx rfl (hb hby at_64) ?_
          refine XS.icmpYes X24.here hx rfl (pc0 := 65) (pc' := 78) rfl (hb hby at_65) rfl (flt (by decide)).2.2.2 (by decide) (by decide) ?_
          show own_S p e below T24 (mkF m 78 #[iv p1, iv p2, iv p3, iv p4, iv p5, iv 3, iv vc0, iv vc1, iv vc2, iv vc3, rv bq22, rv b23, iv (-1), .unset, .unset, .unset] []) _
          refine XS.iload X24.here hx rfl (hb hby at_78) rfl ?_
          refine XS.iconst X24.here hx rfl (hb hby at_80) ?_
          refine XS.icmpNo X24.here hx rfl (hb hby at_81) rfl (tlt (by decide)).2.2.2 ?_
          show own_S p e below T24 (mkF m 84 #[iv p1, iv p2, iv p3, iv p4, iv p5, iv 3, iv vc0, iv vc1, iv vc2, iv vc3, rv bq22, rv b23, iv (-1), .unset, .unset, .unset] []) _
          refine XS.iload X24.here hx rfl (hb hby at_84) rfl ?_
          refine XS.bipush X24.here hx rfl (hb hby at_86) ?_
          exact k
        obtain ⟨z30, hz30⟩ : ∃ q : Int32, q = (if vc2 = (63 : Int32) then (2 : Int32) else (-1 : Int32)) := ⟨_, rfl⟩
        refine own_go (B := T24.setTop (mkF m 94 #[iv p1, iv p2, iv p3, iv p4, iv p5, iv 3, iv vc0, iv vc1, iv vc2, iv vc3, rv bq22, rv b23, iv z30, .unset, .unset, .unset] [])) (fun t k => ?_) ?_
        · by_cases hc88_31 : vc2 = (63 : Int32)
          · rw [show z30 = (2 : Int32) from hz30.trans (by rw [if_pos hc88_31])] at k
            show own_S p e below T24 (mkF m 88 #[iv p1, iv p2, iv p3, iv p4, iv p5, iv 3, iv vc0, iv vc1, iv vc2, iv vc3, rv bq22, rv b23, iv (-1), .unset, .unset, .unset] [(.int 63), (.int vc2)]) _
            refine XS.icmpNo X24.here hx rfl (hb hby at_88) rfl (teq hc88_31).2 ?_
            refine XS.iconst X24.here hx rfl (hb hby at_91) ?_
            refine XS.istore X24.here hx rfl (hb hby at_92) rfl (l' := #[iv p1, iv p2, iv p3, iv p4, iv p5, iv 3, iv vc0, iv vc1, iv vc2, iv vc3, rv bq22, rv b23, iv 2, .unset, .unset, .unset]) rfl ?_
            exact k
          · rw [show z30 = (-1 : Int32) from hz30.trans (by rw [if_neg hc88_31])] at k
            show own_S p e below T24 (mkF m 88 #[iv p1, iv p2, iv p3, iv p4, iv p5, iv 3, iv vc0, iv vc1, iv vc2, iv vc3, rv bq22, rv b23, iv (-1), .unset, .unset, .unset] [(.int 63), (.int vc2)]) _
            refine XS.icmpYes X24.here hx rfl (pc0 := 88) (pc' := 94) rfl (hb hby at_88) rfl (feq hc88_31).2 (by decide) (by decide) ?_
            exact k
        refine own_go (B := T24.setTop (mkF m 151 #[iv p1, iv p2, iv p3, iv p4, iv p5, iv 3, iv vc0, iv vc1, iv vc2, iv vc3, rv bq22, rv b23, iv 1, iv 1, iv 2, .unset] [(.ref b23)])) (fun t k => ?_) ?_
        · show own_S p e below T24 (mkF m 94 #[iv p1, iv p2, iv p3, iv p4, iv p5, iv 3, iv vc0, iv vc1, iv vc2, iv vc3, rv bq22, rv b23, iv z30, .unset, .unset, .unset] []) _
          refine XS.iload X24.here hx rfl (hb hby at_94) rfl ?_
          refine XS.iconst X24.here hx rfl (hb hby at_96) ?_
          refine XS.icmpNo X24.here hx rfl (hb hby at_97) rfl (tlt (by decide)).2.2.2 ?_
          show own_S p e below T24 (mkF m 100 #[iv p1, iv p2, iv p3, iv p4, iv p5, iv 3, iv vc0, iv vc1, iv vc2, iv vc3, rv bq22, rv b23, iv z30, .unset, .unset, .unset] []) _
          refine XS.iload X24.here hx rfl (hb hby at_100) rfl ?_
          refine XS.bipush X24.here hx rfl (hb hby at_102) ?_
          refine XS.icmpNo X24.here hx rfl (hb hby at_104) rfl (teq hq1).2 ?_
          show own_S p e below T24 (mkF m 107 #[iv p1, iv p2, iv p3, iv p4, iv p5, iv 3, iv vc0, iv vc1, iv vc2, iv vc3, rv bq22, rv b23, iv z30, .unset, .unset, .unset] []) _
          refine XS.iconst X24.here hx rfl (hb hby at_107) ?_
          refine XS.istore X24.here hx rfl (hb hby at_108) rfl (l' := #[iv p1, iv p2, iv p3, iv p4, iv p5, iv 3, iv vc0, iv vc1, iv vc2, iv vc3, rv bq22, rv b23, iv 1, .unset, .unset, .unset]) rfl ?_
          refine XS.iload X24.here hx rfl (hb hby at_110) rfl ?_
          show own_S p e below T24 (mkF m 112 #[iv p1, iv p2, iv p3, iv p4, iv p5, iv 3, iv vc0, iv vc1, iv vc2, iv vc3, rv bq22, rv b23, iv 1, .unset, .unset, .unset] [(.int 3)]) _
          refine XS.ifNo X24.here hx rfl (hb hby at_112) rfl ((if0 _ _).trans (tlt (by decide)).2.2.2) ?_
          refine XS.iload X24.here hx rfl (hb hby at_115) rfl ?_
          refine XS.bipush X24.here hx rfl (hb hby at_117) ?_
          show own_S p e below T24 (mkF m 119 #[iv p1, iv p2, iv p3, iv p4, iv p5, iv 3, iv vc0, iv vc1, iv vc2, iv vc3, rv bq22, rv b23, iv 1, .unset, .unset, .unset] [(.int 63), (.int vc0)]) _
          refine XS.icmpYes X24.here hx rfl (pc0 := 119) (pc' := 125) rfl (hb hby at_119) rfl (feq hq0).2 (by decide) (by decide) ?_
          refine XS.iload X24.here hx rfl (hb hby at_125) rfl ?_
          refine XS.ifYes X24.here hx rfl (pc0 := 127) (pc' := 134) rfl (hb hby at_127) rfl ((if0 _ _).trans (flt (by decide)).2.1) (by decide) (by decide) ?_
          show own_S p e below T24 (mkF m 134 #[iv p1, iv p2, iv p3, iv p4, iv p5, iv 3, iv vc0, iv vc1, iv vc2, iv vc3, rv bq22, rv b23, iv 1, .unset, .unset, .unset] []) _
          refine XS.iload X24.here hx rfl (hb hby at_134) rfl ?_
          refine XS.iload X24.here hx rfl (hb hby at_136) rfl ?_
          refine XS.isub X24.here hx rfl (hb hby at_138) rfl ?_
          show own_S p e below T24 (mkF m 139 #[iv p1, iv p2, iv p3, iv p4, iv p5, iv 3, iv vc0, iv vc1, iv vc2, iv vc3, rv bq22, rv b23, iv 1, .unset, .unset, .unset] [(.int 2)]) _
          refine XS.iconst X24.here hx rfl (hb hby at_139) ?_
          refine XS.isub X24.here hx rfl (hb hby at_140) rfl ?_
          refine XS.istore X24.here hx rfl (hb hby at_141) rfl (l' := #[iv p1, iv p2, iv p3, iv p4, iv p5, iv 3, iv vc0, iv vc1, iv vc2, iv vc3, rv bq22, rv b23, iv 1, iv 1, .unset, .unset]) rfl ?_
          show own_S p e below T24 (mkF m 143 #[iv p1, iv p2, iv p3, iv p4, iv p5, iv 3, iv vc0, iv vc1, iv vc2, iv vc3, rv bq22, rv b23, iv 1, iv 1, .unset, .unset] []) _
          refine XS.iload X24.here hx rfl (hb hby at_143) rfl ?_
          refine XS.iconst X24.here hx rfl (hb hby at_145) ?_
          refine XS.iadd X24.here hx rfl (hb hby at_146) rfl ?_
          show own_S p e below T24 (mkF m 147 #[iv p1, iv p2, iv p3, iv p4, iv p5, iv 3, iv vc0, iv vc1, iv vc2, iv vc3, rv bq22, rv b23, iv 1, iv 1, .unset, .unset] [(.int 2)]) _
          refine XS.istore X24.here hx rfl (hb hby at_147) rfl (l' := #[iv p1, iv p2, iv p3, iv p4, iv p5, iv 3, iv vc0, iv vc1, iv vc2, iv vc3, rv bq22, rv b23, iv 1, iv 1, iv 2, .unset]) rfl ?_
          refine XS.aload X24.here hx rfl (hb hby at_149) rfl rfl ?_
          exact k
        obtain ⟨_, _, ⟨T32, L32, k32, n32⟩, -, X32, ⟨Lc32, hQ32, l32, y32, z32⟩, st32⟩ := Jvm.LawKit.callS X24 hx (y := own_y30) hown (mvT hZ (own_w hw 30 rfl)) (mvT hZ (own_w hw 31 rfl)) (mvT hZ (own_w hw 32 rfl)) (mvT hZ (own_w hw 33 rfl)) (by decide) (backOf (W := 0) (rm6y l Z a0 hw [] b23 (1 : Int32) (1 : Int32) [(.int (own_b vc2))] T24.heap n0 (Nat.le_trans (Nat.le_trans (Nat.le_trans Z0 K22q.1) E23.1) K24q.1) E24q (rm7g l Z a0 hw [] b23 (63 : Int32) bq24 kq24 (3 : Int32) [(.int (own_b vc0)), (.int (own_b vc1)), (.int (own_b vc2))] (1 : Int32) GC T24.heap n0 (Nat.le_trans (Nat.le_trans (Nat.le_trans Z0 K22q.1) E23.1) K24q.1) S_C hGC O24 E24q F24c F24v V24q (rm12_3 l Z a0 hw [] bq24 kq24 (own_b vc0) (own_b vc1) (own_b vc2) (1 : Int32) T24.heap n0 (Nat.le_trans (Nat.le_trans (Nat.le_trans Z0 K22q.1) E23.1) K24q.1) V24q (by rw [own_ix3, if_neg (own_nb hcv0 hq0), if_pos (own_yb hq1)]))) (by decide) (rm21g l Z a0 hw [] b23 (2 : Int32) (3 : Int32) bq24 kq24 [(.int (own_b vc0)), (.int (own_b vc1)), (.int (own_b vc2))] [(.int (own_b vc2))] GC GF T24.heap n0 (Nat.le_trans (Nat.le_trans (Nat.le_trans Z0 K22q.1) E23.1) K24q.1) S_C hGC O24 S_F is_GF E24q F24c F24v V24q (by decide) (by decide) (rm25_3_2 l Z a0 hw [] bq24 kq24 (own_b vc0) (own_b vc1) (own_b vc2) T24.heap n0 (Nat.le_trans (Nat.le_trans (Nat.le_trans Z0 K22q.1) E23.1) K24q.1) V24q))) hZ (own_w hw 33 rfl) (own_w hw 32 rfl) (by decide) (by decide)) (g := (mkF m 151 #[iv p1, iv p2, iv p3, iv p4, iv p5, iv 3, iv vc0, iv vc1, iv vc2, iv vc3, rv bq22, rv b23, iv 1, iv 1, iv 2, .unset] [(.ref b23)])) rfl (by rw [hml]; rfl) (argsL := [(.ref b23)]) (rest := []) (lenOf own_pd25 rfl) rfl (by show 2 * 0 + _ ≤ _; exact Nat.le_of_eq rfl) (hb hby at_151) (fun _ _ => ⟨rfl, rfl, (by decide : 3 + 2 ≤ _), (by decide : 10 + 8 ≤ _)⟩)
        dsimp only [Pt.U, Pt.locs, Pt.cells, Pt.slots] at X32 l32 y32 z32 st32 hQ32
        subst l32 y32 z32
        obtain ⟨aq32, bq32, kq32, rfl, N32q, K32q, E32q, F32c, F32v, V32q⟩ := hQ32
        have N32 := Fr.app N24 N32q
        have c32_V_bq22 := c24_V_bq22.keep K32q (List.not_mem_nil)
        have c32_E_b23 := E24q.keep K32q
        have c32_F_b23_coder := F24c.keep K32q (List.not_mem_nil)
        have c32_F_b23_value := F24v.keep K32q (List.not_mem_nil)
        have c32_V_bq24 := V24q.keep K32q (List.not_mem_nil)
        have O32 := O24.keep K32q all0
        have K32 := K24.trans K32q all0
        refine own_go (B := T32.setTop (mkF m 154 #[iv p1, iv p2, iv p3, iv p4, iv p5, iv 3, iv vc0, iv vc1, iv vc2, iv vc3, rv bq22, rv b23, iv 1, iv 1, iv 2, .unset] [(.ref aq32)])) (fun t k => st32 _ k) ?_
        refine own_go (B := T32.setTop (mkF m 156 #[iv p1, iv p2, iv p3, iv p4, iv p5, iv 3, iv vc0, iv vc1, iv vc2, iv vc3, rv bq22, rv b23, iv 1, iv 1, iv 2, rv aq32] [])) (fun t k => ?_) ?_
        · show own_S p e below T32 (mkF m 154 #[iv p1, iv p2, iv p3, iv p4, iv p5, iv 3, iv vc0, iv vc1, iv vc2, iv vc3, rv bq22, rv b23, iv 1, iv 1, iv 2, .unset] [(.ref aq32)]) _
          refine XS.astore X32.here hx rfl (hb hby at_154) rfl rfl (l' := #[iv p1, iv p2, iv p3, iv p4, iv p5, iv 3, iv vc0, iv vc1, iv vc2, iv vc3, rv bq22, rv b23, iv 1, iv 1, iv 2, rv aq32]) rfl ?_
          exact k
        exact own_tail p1 p2 p3 p4 p5 (3 : Int32) vc0 vc1 vc2 vc3 (1 : Int32) (1 : Int32) (2 : Int32) bq22 b23 aq32 bq32 kq32 kq22 [(.int (own_b vc2))] [(.int vc0), (.int vc1), (.int vc2)] (3 : Int32) GC GF X32 hx hZ hw hby hml hown Bd hS rfl N32 (Nat.le_trans (Nat.le_trans (Nat.le_trans (Nat.le_trans Z0 K22q.1) E23.1) K24q.1) K32q.1) (Nat.le_trans (Nat.le_trans (Nat.le_trans (Nat.le_trans (Nat.zero_le _) K22q.1) E23.1) K24q.1) K32q.1) (by decide) (by decide) S_C hGC O32 S_F is_GF E32q F32c F32v V32q c32_V_bq22 (fun _ => ⟨_, _, rfl, by decide, rfl, hrt2⟩) (fun q => absurd q (by decide)) (fun q => absurd q (by decide))
      · by_cases hq2 : vc2 = (63 : Int32)
        · refine own_go (B := T24.setTop (mkF m 151 #[iv p1, iv p2, iv p3, iv p4, iv p5, iv 3, iv vc0, iv vc1, iv vc2, iv vc3, rv bq22, rv b23, iv 2, iv 0, iv 3, .unset] [(.ref b23)])) (fun t k => ?_) ?_
          · show own_S p e below T24 (mkF m 62 #[iv p1, iv p2, iv p3, iv p4, iv p5, iv 3, iv vc0, iv vc1, iv vc2, iv vc3, rv bq22, rv b23, iv (-1), .unset, .unset, .unset] []) _
            refine XS.iload X24.here hx rfl (hb hby at_62) rfl ?_
            refine XS.iconst X24.here hx rfl (hb hby at_64) ?_
            refine XS.icmpYes X24.here hx rfl (pc0 := 65) (pc' := 78) rfl (hb hby at_65) rfl (flt (by decide)).2.2.2 (by decide) (by decide) ?_
            show own_S p e below T24 (mkF m 78 #[iv p1, iv p2, iv p3, iv p4, iv p5, iv 3, iv vc0, iv vc1, iv vc2, iv vc3, rv bq22, rv b23, iv (-1), .unset, .unset, .unset] []) _
            refine XS.iload X24.here hx rfl (hb hby at_78) rfl ?_
            refine XS.iconst X24.here hx rfl (hb hby at_80) ?_
            refine XS.icmpNo X24.here hx rfl (hb hby at_81) rfl (tlt (by decide)).2.2.2 ?_
            show own_S p e below T24 (mkF m 84 #[iv p1, iv p2, iv p3, iv p4, iv p5, iv 3, iv vc0, iv vc1, iv vc2, iv vc3, rv bq22, rv b23, iv (-1), .unset, .unset, .unset] []) _
            refine XS.iload X24.here hx rfl (hb hby at_84) rfl ?_
            refine XS.bipush X24.here hx rfl (hb hby at_86) ?_
            refine XS.icmpNo X24.here hx rfl (hb hby at_88) rfl (teq hq2).2 ?_
            show own_S p e below T24 (mkF m 91 #[iv p1, iv p2, iv p3, iv p4, iv p5, iv 3, iv vc0, iv vc1, iv vc2, iv vc3, rv bq22, rv b23, iv (-1), .unset, .unset, .unset] []) _
            refine XS.iconst X24.here hx rfl (hb hby at_91) ?_
            refine XS.istore X24.here hx rfl (hb hby at_92) rfl (l' := #[iv p1, iv p2, iv p3, iv p4, iv p5, iv 3, iv vc0, iv vc1, iv vc2, iv vc3, rv bq22, rv b23, iv 2, .unset, .unset, .unset]) rfl ?_
            refine XS.iload X24.here hx rfl (hb hby at_94) rfl ?_
            show own_S p e below T24 (mkF m 96 #[iv p1, iv p2, iv p3, iv p4, iv p5, iv 3, iv vc0, iv vc1, iv vc2, iv vc3, rv bq22, rv b23, iv 2, .unset, .unset, .unset] [(.int 3)]) _
            refine XS.iconst X24.here hx rfl (hb hby at_96) ?_
            refine XS.icmpNo X24.here hx rfl (hb hby at_97) rfl (tlt (by decide)).2.2.2 ?_
            refine XS.iload X24.here hx rfl (hb hby at_100) rfl ?_
            show own_S p e below T24 (mkF m 102 #[iv p1, iv p2, iv p3, iv p4, iv p5, iv 3, iv vc0, iv vc1, iv vc2, iv vc3, rv bq22, rv b23, iv 2, .unset, .unset, .unset] [(.int vc1)]) _
            refine XS.bipush X24.here hx rfl (hb hby at_102) ?_
            refine XS.icmpYes X24.here hx rfl (pc0 := 104) (pc' := 110) rfl (hb hby at_104) rfl (feq hq1).2 (by decide) (by decide) ?_
            refine XS.iload X24.here hx rfl (hb hby at_110) rfl ?_
            show own_S p e below T24 (mkF m 112 #[iv p1, iv p2, iv p3, iv p4, iv p5, iv 3, iv vc0, iv vc1, iv vc2, iv vc3, rv bq22, rv b23, iv 2, .unset, .unset, .unset] [(.int 3)]) _
            refine XS.ifNo X24.here hx rfl (hb hby at_112) rfl ((if0 _ _).trans (tlt (by decide)).2.2.2) ?_
            refine XS.iload X24.here hx rfl (hb hby at_115) rfl ?_
            refine XS.bipush X24.here hx rfl (hb hby at_117) ?_
            show own_S p e below T24 (mkF m 119 #[iv p1, iv p2, iv p3, iv p4, iv p5, iv 3, iv vc0, iv vc1, iv vc2, iv vc3, rv bq22, rv b23, iv 2, .unset, .unset, .unset] [(.int 63), (.int vc0)]) _
            refine XS.icmpYes X24.here hx rfl (pc0 := 119) (pc' := 125) rfl (hb hby at_119) rfl (feq hq0).2 (by decide) (by decide) ?_
            refine XS.iload X24.here hx rfl (hb hby at_125) rfl ?_
            refine XS.ifYes X24.here hx rfl (pc0 := 127) (pc' := 134) rfl (hb hby at_127) rfl ((if0 _ _).trans (flt (by decide)).2.1) (by decide) (by decide) ?_
            show own_S p e below T24 (mkF m 134 #[iv p1, iv p2, iv p3, iv p4, iv p5, iv 3, iv vc0, iv vc1, iv vc2, iv vc3, rv bq22, rv b23, iv 2, .unset, .unset, .unset] []) _
            refine XS.iload X24.here hx rfl (hb hby at_134) rfl ?_
            refine XS.iload X24.here hx rfl (hb hby at_136) rfl ?_
            refine XS.isub X24.here hx rfl (hb hby at_138) rfl ?_
            show own_S p e below T24 (mkF m 139 #[iv p1, iv p2, iv p3, iv p4, iv p5, iv 3, iv vc0, iv vc1, iv vc2, iv vc3, rv bq22, rv b23, iv 2, .unset, .unset, .unset] [(.int 1)]) _
            refine XS.iconst X24.here hx rfl (hb hby at_139) ?_
            refine XS.isub X24.here hx rfl (hb hby at_140) rfl ?_
            refine XS.istore X24.here hx rfl (hb hby at_141) rfl (l' := #[iv p1, iv p2, iv p3, iv p4, iv p5, iv 3, iv vc0, iv vc1, iv vc2, iv vc3, rv bq22, rv b23, iv 2, iv 0, .unset, .unset]) rfl ?_
            show own_S p e below T24 (mkF m 143 #[iv p1, iv p2, iv p3, iv p4, iv p5, iv 3, iv vc0, iv vc1, iv vc2, iv vc3, rv bq22, rv b23, iv 2, iv 0, .unset, .unset] []) _
            refine XS.iload X24.here hx rfl (hb hby at_143) rfl ?_
            refine XS.iconst X24.here hx rfl (hb hby at_145) ?_
            refine XS.iadd X24.here hx rfl (hb hby at_146) rfl ?_
            show own_S p e below T24 (mkF m 147 #[iv p1, iv p2, iv p3, iv p4, iv p5, iv 3, iv vc0, iv vc1, iv vc2, iv vc3, rv bq22, rv b23, iv 2, iv 0, .unset, .unset] [(.int 3)]) _
            refine XS.istore X24.here hx rfl (hb hby at_147) rfl (l' := #[iv p1, iv p2, iv p3, iv p4, iv p5, iv 3, iv vc0, iv vc1, iv vc2, iv vc3, rv bq22, rv b23, iv 2, iv 0, iv 3, .unset]) rfl ?_
            refine XS.aload X24.here hx rfl (hb hby at_149) rfl rfl ?_
            exact k
          have Ch33p := CHr.ext (own_ext K24) hCH
          obtain ⟨_, _, ⟨T33, L33, k33, n33⟩, -, X33, hS33, hg33, ⟨Lc33, hQ33, l33, y33, z33, hCr33⟩, st33⟩ := callSS X24 hx (y := own_y30) hown (mvT hZ (own_w hw 30 rfl)) (mvT hZ (own_w hw 31 rfl)) (mvT hZ (own_w hw 32 rfl)) (mvT hZ (own_w hw 33 rfl)) (by decide) (backOfSH (W := 0) (rm6yh l Z a0 hw [] b23 (2 : Int32) (0 : Int32) [] T24.heap n0 (Nat.le_trans (Nat.le_trans (Nat.le_trans Z0 K22q.1) E23.1) K24q.1) E24q (rm7g l Z a0 hw [] b23 (63 : Int32) bq24 kq24 (3 : Int32) [(.int (own_b vc0)), (.int (own_b vc1)), (.int (own_b vc2))] (2 : Int32) GC T24.heap n0 (Nat.le_trans (Nat.le_trans (Nat.le_trans Z0 K22q.1) E23.1) K24q.1) S_C hGC O24 E24q F24c F24v V24q (rm12_3 l Z a0 hw [] bq24 kq24 (own_b vc0) (own_b vc1) (own_b vc2) (2 : Int32) T24.heap n0 (Nat.le_trans (Nat.le_trans (Nat.le_trans Z0 K22q.1) E23.1) K24q.1) V24q (by rw [own_ix3, if_neg (own_nb hcv0 hq0), if_neg (own_nb hcv1 hq1), if_pos (own_yb hq2)]))) (by decide) (rm21gh l Z a0 hw [] b23 (3 : Int32) (3 : Int32) bq24 kq24 [(.int (own_b vc0)), (.int (own_b vc1)), (.int (own_b vc2))] [] GC GF T24.heap n0 (Nat.le_trans (Nat.le_trans (Nat.le_trans Z0 K22q.1) E23.1) K24q.1) S_C hGC O24 S_F is_GF E24q F24c F24v V24q (by decide) (by decide) (rm25_3_3 l Z a0 hw [] bq24 kq24 (own_b vc0) (own_b vc1) (own_b vc2) T24.heap n0 (Nat.le_trans (Nat.le_trans (Nat.le_trans Z0 K22q.1) E23.1) K24q.1) V24q))) hZ (own_w hw 33 rfl) (own_w hw 32 rfl) (by decide) (by decide) (own_hEL hw) Ch33p.1) (g := (mkF m 151 #[iv p1, iv p2, iv p3, iv p4, iv p5, iv 3, iv vc0, iv vc1, iv vc2, iv vc3, rv bq22, rv b23, iv 2, iv 0, iv 3, .unset] [(.ref b23)])) rfl (by rw [hml]; rfl) (argsL := [(.ref b23)]) (rest := []) (lenOf own_pd25 rfl) rfl (by show 2 * 0 + _ ≤ _; exact Nat.le_of_eq rfl) (hb hby at_151) (fun _ _ => ⟨rfl, rfl, (by decide : 3 + 2 ≤ _), (by decide : 10 + 8 ≤ _)⟩)
          dsimp only [Pt.U, Pt.locs, Pt.cells, Pt.slots] at X33 l33 y33 z33 st33 hQ33 hS33 hg33 hCr33
          subst l33 y33 z33
          have hS := hS.trans hS33 (Nat.le_trans (Nat.le_trans (Nat.le_trans (Nat.le_trans (Nat.zero_le _) K22q.1) E23.1) K24q.1) (Nat.le_trans (Nat.le_of_eq (congrArg Array.size rfl.symm)) hg33))
          have hZ : Z.Warmed39 (s.setVm T33.vm).vm := State.Warmed39.trans hZ hS33.1
          have hown : (s.setVm T33.vm).vm.findClass "com/example/arcas/arcas/http/RequestLineQueryPinLaw" = some m.cls := (hS33.1.alike.findClass _ _).trans hown
          obtain ⟨aq33, bq33, kq33, rfl, N33q, K33q, E33q, F33c, F33v, V33q⟩ := hQ33
          have N33 := Fr.app N24 N33q
          have c33_V_bq22 := c24_V_bq22.keep K33q (List.not_mem_nil)
          have c33_E_b23 := E24q.keep K33q
          have c33_F_b23_coder := F24c.keep K33q (List.not_mem_nil)
          have c33_F_b23_value := F24v.keep K33q (List.not_mem_nil)
          have c33_V_bq24 := V24q.keep K33q (List.not_mem_nil)
          have O33 := O24.keep K33q all0
          have K33 := K24.trans K33q all0
          have Ch33 := Ch33p.trans hCr33
          refine own_go (B := T33.setTop (mkF m 154 #[iv p1, iv p2, iv p3, iv p4, iv p5, iv 3, iv vc0, iv vc1, iv vc2, iv vc3, rv bq22, rv b23, iv 2, iv 0, iv 3, .unset] [(.ref aq33)])) (fun t k => st33.trans k) ?_
          refine own_go (B := T33.setTop (mkF m 156 #[iv p1, iv p2, iv p3, iv p4, iv p5, iv 3, iv vc0, iv vc1, iv vc2, iv vc3, rv bq22, rv b23, iv 2, iv 0, iv 3, rv aq33] [])) (fun t k => ?_) ?_
          · show own_S p e below T33 (mkF m 154 #[iv p1, iv p2, iv p3, iv p4, iv p5, iv 3, iv vc0, iv vc1, iv vc2, iv vc3, rv bq22, rv b23, iv 2, iv 0, iv 3, .unset] [(.ref aq33)]) _
            refine XS.astore X33.here hx rfl (hb hby at_154) rfl rfl (l' := #[iv p1, iv p2, iv p3, iv p4, iv p5, iv 3, iv vc0, iv vc1, iv vc2, iv vc3, rv bq22, rv b23, iv 2, iv 0, iv 3, rv aq33]) rfl ?_
            exact k
          exact own_tail p1 p2 p3 p4 p5 (3 : Int32) vc0 vc1 vc2 vc3 (2 : Int32) (0 : Int32) (3 : Int32) bq22 b23 aq33 bq33 kq33 kq22 [] [(.int vc0), (.int vc1), (.int vc2)] (3 : Int32) GC GF X33 hx hZ hw hby hml hown Bd hS rfl N33 (Nat.le_trans (Nat.le_trans (Nat.le_trans (Nat.le_trans Z0 K22q.1) E23.1) K24q.1) K33q.1) (Nat.le_refl _) (by decide) (by decide) S_C hGC O33 S_F is_GF E33q F33c F33v V33q c33_V_bq22 (fun q => absurd q (by decide)) (fun q => absurd q (by decide)) (fun q => absurd q (by decide))
        · refine own_go (B := T24.setTop (mkF m 151 #[iv p1, iv p2, iv p3, iv p4, iv p5, iv 3, iv vc0, iv vc1, iv vc2, iv vc3, rv bq22, rv b23, iv (-1), iv 0, iv 0, .unset] [(.ref b23)])) (fun t k => ?_) ?_
          · show own_S p e below T24 (mkF m 62 #[iv p1, iv p2, iv p3, iv p4, iv p5, iv 3, iv vc0, iv vc1, iv vc2, iv vc3, rv bq22, rv b23, iv (-1), .unset, .unset, .unset] []) _
            refine XS.iload X24.here hx rfl (hb hby at_62) rfl ?_
            refine XS.iconst X24.here hx rfl (hb hby at_64) ?_
            refine XS.icmpYes X24.here hx rfl (pc0 := 65) (pc' := 78) rfl (hb hby at_65) rfl (flt (by decide)).2.2.2 (by decide) (by decide) ?_
            show own_S p e below T24 (mkF m 78 #[iv p1, iv p2, iv p3, iv p4, iv p5, iv 3, iv vc0, iv vc1, iv vc2, iv vc3, rv bq22, rv b23, iv (-1), .unset, .unset, .unset] []) _
            refine XS.iload X24.here hx rfl (hb hby at_78) rfl ?_
            refine XS.iconst X24.here hx rfl (hb hby at_80) ?_
            refine XS.icmpNo X24.here hx rfl (hb hby at_81) rfl (tlt (by decide)).2.2.2 ?_
            show own_S p e below T24 (mkF m 84 #[iv p1, iv p2, iv p3, iv p4, iv p5, iv 3, iv vc0, iv vc1, iv vc2, iv vc3, rv bq22, rv b23, iv (-1), .unset, .unset, .unset] []) _
            refine XS.iload X24.here hx rfl (hb hby at_84) rfl ?_
            refine XS.bipush X24.here hx rfl (hb hby at_86) ?_
            refine XS.icmpYes X24.here hx rfl (pc0 := 88) (pc' := 94) rfl (hb hby at_88) rfl (feq hq2).2 (by decide) (by decide) ?_
            show own_S p e below T24 (mkF m 94 #[iv p1, iv p2, iv p3, iv p4, iv p5, iv 3, iv vc0, iv vc1, iv vc2, iv vc3, rv bq22, rv b23, iv (-1), .unset, .unset, .unset] []) _
            refine XS.iload X24.here hx rfl (hb hby at_94) rfl ?_
            refine XS.iconst X24.here hx rfl (hb hby at_96) ?_
            refine XS.icmpNo X24.here hx rfl (hb hby at_97) rfl (tlt (by decide)).2.2.2 ?_
            show own_S p e below T24 (mkF m 100 #[iv p1, iv p2, iv p3, iv p4, iv p5, iv 3, iv vc0, iv vc1, iv vc2, iv vc3, rv bq22, rv b23, iv (-1), .unset, .unset, .unset] []) _
            refine XS.iload X24.here hx rfl (hb hby at_100) rfl ?_
            refine XS.bipush X24.here hx rfl (hb hby at_102) ?_
            refine XS.icmpYes X24.here hx rfl (pc0 := 104) (pc' := 110) rfl (hb hby at_104) rfl (feq hq1).2 (by decide) (by decide) ?_
            show own_S p e below T24 (mkF m 110 #[iv p1, iv p2, iv p3, iv p4, iv p5, iv 3, iv vc0, iv vc1, iv vc2, iv vc3, rv bq22, rv b23, iv (-1), .unset, .unset, .unset] []) _
            refine XS.iload X24.here hx rfl (hb hby at_110) rfl ?_
            refine XS.ifNo X24.here hx rfl (hb hby at_112) rfl ((if0 _ _).trans (tlt (by decide)).2.2.2) ?_
            refine XS.iload X24.here hx rfl (hb hby at_115) rfl ?_
            show own_S p e below T24 (mkF m 117 #[iv p1, iv p2, iv p3, iv p4, iv p5, iv 3, iv vc0, iv vc1, iv vc2, iv vc3, rv bq22, rv b23, iv (-1), .unset, .unset, .unset] [(.int vc0)]) _
            refine XS.bipush X24.here hx rfl (hb hby at_117) ?_
            refine XS.icmpYes X24.here hx rfl (pc0 := 119) (pc' := 125) rfl (hb hby at_119) rfl (feq hq0).2 (by decide) (by decide) ?_
            refine XS.iload X24.here hx rfl (hb hby at_125) rfl ?_
            show own_S p e below T24 (mkF m 127 #[iv p1, iv p2, iv p3, iv p4, iv p5, iv 3, iv vc0, iv vc1, iv vc2, iv vc3, rv bq22, rv b23, iv (-1), .unset, .unset, .unset] [(.int (-1))]) _
            refine XS.ifNo X24.here hx rfl (hb hby at_127) rfl ((if0 _ _).trans (tlt (by decide)).2.1) ?_
            refine XS.iconst X24.here hx rfl (hb hby at_130) ?_
            refine XS.goto X24.here hx rfl (pc0 := 131) (pc' := 141) rfl (hb hby at_131) (by decide) (by decide) ?_
            show own_S p e below T24 (mkF m 141 #[iv p1, iv p2, iv p3, iv p4, iv p5, iv 3, iv vc0, iv vc1, iv vc2, iv vc3, rv bq22, rv b23, iv (-1), .unset, .unset, .unset] [(.int 0)]) _
            refine XS.istore X24.here hx rfl (hb hby at_141) rfl (l' := #[iv p1, iv p2, iv p3, iv p4, iv p5, iv 3, iv vc0, iv vc1, iv vc2, iv vc3, rv bq22, rv b23, iv (-1), iv 0, .unset, .unset]) rfl ?_
            refine XS.iload X24.here hx rfl (hb hby at_143) rfl ?_
            refine XS.iconst X24.here hx rfl (hb hby at_145) ?_
            show own_S p e below T24 (mkF m 146 #[iv p1, iv p2, iv p3, iv p4, iv p5, iv 3, iv vc0, iv vc1, iv vc2, iv vc3, rv bq22, rv b23, iv (-1), iv 0, .unset, .unset] [(.int 1), (.int (-1))]) _
            refine XS.iadd X24.here hx rfl (hb hby at_146) rfl ?_
            refine XS.istore X24.here hx rfl (hb hby at_147) rfl (l' := #[iv p1, iv p2, iv p3, iv p4, iv p5, iv 3, iv vc0, iv vc1, iv vc2, iv vc3, rv bq22, rv b23, iv (-1), iv 0, iv 0, .unset]) rfl ?_
            refine XS.aload X24.here hx rfl (hb hby at_149) rfl rfl ?_
            exact k
          have Ch34p := CHr.ext (own_ext K24) hCH
          obtain ⟨_, _, ⟨T34, L34, k34, n34⟩, -, X34, hS34, hg34, ⟨Lc34, hQ34, l34, y34, z34, hCr34⟩, st34⟩ := callSS X24 hx (y := own_y30) hown (mvT hZ (own_w hw 30 rfl)) (mvT hZ (own_w hw 31 rfl)) (mvT hZ (own_w hw 32 rfl)) (mvT hZ (own_w hw 33 rfl)) (by decide) (backOfSH (W := 0) (rm6n l Z a0 hw [] b23 (-1 : Int32) T24.heap n0 (Nat.le_trans (Nat.le_trans (Nat.le_trans Z0 K22q.1) E23.1) K24q.1) E24q (rm7g l Z a0 hw [] b23 (63 : Int32) bq24 kq24 (3 : Int32) [(.int (own_b vc0)), (.int (own_b vc1)), (.int (own_b vc2))] (-1 : Int32) GC T24.heap n0 (Nat.le_trans (Nat.le_trans (Nat.le_trans Z0 K22q.1) E23.1) K24q.1) S_C hGC O24 E24q F24c F24v V24q (rm12_3 l Z a0 hw [] bq24 kq24 (own_b vc0) (own_b vc1) (own_b vc2) (-1 : Int32) T24.heap n0 (Nat.le_trans (Nat.le_trans (Nat.le_trans Z0 K22q.1) E23.1) K24q.1) V24q (by rw [own_ix3, if_neg (own_nb hcv0 hq0), if_neg (own_nb hcv1 hq1), if_neg (own_nb hcv2 hq2)]))) (by decide)) hZ (own_w hw 33 rfl) (own_w hw 32 rfl) (by decide) (by decide) (own_hEL hw) Ch34p.1) (g := (mkF m 151 #[iv p1, iv p2, iv p3, iv p4, iv p5, iv 3, iv vc0, iv vc1, iv vc2, iv vc3, rv bq22, rv b23, iv (-1), iv 0, iv 0, .unset] [(.ref b23)])) rfl (by rw [hml]; rfl) (argsL := [(.ref b23)]) (rest := []) (lenOf own_pd25 rfl) rfl (by show 2 * 0 + _ ≤ _; exact Nat.le_of_eq rfl) (hb hby at_151) (fun _ _ => ⟨rfl, rfl, (by decide : 3 + 2 ≤ _), (by decide : 10 + 8 ≤ _)⟩)
          dsimp only [Pt.U, Pt.locs, Pt.cells, Pt.slots] at X34 l34 y34 z34 st34 hQ34 hS34 hg34 hCr34
          subst l34 y34 z34
          have hS := hS.trans hS34 (Nat.le_trans (Nat.le_trans (Nat.le_trans (Nat.le_trans (Nat.zero_le _) K22q.1) E23.1) K24q.1) (Nat.le_trans (Nat.le_of_eq (congrArg Array.size rfl.symm)) hg34))
          have hZ : Z.Warmed39 (s.setVm T34.vm).vm := State.Warmed39.trans hZ hS34.1
          have hown : (s.setVm T34.vm).vm.findClass "com/example/arcas/arcas/http/RequestLineQueryPinLaw" = some m.cls := (hS34.1.alike.findClass _ _).trans hown
          obtain ⟨aq34, bq34, kq34, rfl, N34q, K34q, E34q, F34c, F34v, V34q⟩ := hQ34
          have N34 := Fr.app N24 N34q
          have c34_V_bq22 := c24_V_bq22.keep K34q (List.not_mem_nil)
          have c34_E_b23 := E24q.keep K34q
          have c34_F_b23_coder := F24c.keep K34q (List.not_mem_nil)
          have c34_F_b23_value := F24v.keep K34q (List.not_mem_nil)
          have c34_V_bq24 := V24q.keep K34q (List.not_mem_nil)
          have O34 := O24.keep K34q all0
          have K34 := K24.trans K34q all0
          have Ch34 := Ch34p.trans hCr34
          refine own_go (B := T34.setTop (mkF m 154 #[iv p1, iv p2, iv p3, iv p4, iv p5, iv 3, iv vc0, iv vc1, iv vc2, iv vc3, rv bq22, rv b23, iv (-1), iv 0, iv 0, .unset] [(.ref aq34)])) (fun t k => st34.trans k) ?_
          refine own_go (B := T34.setTop (mkF m 156 #[iv p1, iv p2, iv p3, iv p4, iv p5, iv 3, iv vc0, iv vc1, iv vc2, iv vc3, rv bq22, rv b23, iv (-1), iv 0, iv 0, rv aq34] [])) (fun t k => ?_) ?_
          · show own_S p e below T34 (mkF m 154 #[iv p1, iv p2, iv p3, iv p4, iv p5, iv 3, iv vc0, iv vc1, iv vc2, iv vc3, rv bq22, rv b23, iv (-1), iv 0, iv 0, .unset] [(.ref aq34)]) _
            refine XS.astore X34.here hx rfl (hb hby at_154) rfl rfl (l' := #[iv p1, iv p2, iv p3, iv p4, iv p5, iv 3, iv vc0, iv vc1, iv vc2, iv vc3, rv bq22, rv b23, iv (-1), iv 0, iv 0, rv aq34]) rfl ?_
            exact k
          exact own_tail p1 p2 p3 p4 p5 (3 : Int32) vc0 vc1 vc2 vc3 (-1 : Int32) (0 : Int32) (0 : Int32) bq22 b23 aq34 bq34 kq34 kq22 [] [(.int vc0), (.int vc1), (.int vc2)] (3 : Int32) GC GF X34 hx hZ hw hby hml hown Bd hS rfl N34 (Nat.le_trans (Nat.le_trans (Nat.le_trans (Nat.le_trans Z0 K22q.1) E23.1) K24q.1) K34q.1) (Nat.le_refl _) (by decide) (by decide) S_C hGC O34 S_F is_GF E34q F34c F34v V34q c34_V_bq22 (fun q => absurd q (by decide)) (fun q => absurd q (by decide)) (fun q => absurd q (by decide))
  · refine own_go (B := T4.setTop (mkF m 43 #[iv p1, iv p2, iv p3, iv p4, iv p5, iv 4, iv vc0, iv vc1, iv vc2, iv vc3, .unset, .unset, .unset, .unset, .unset, .unset] [(.int vc3), (.int vc2), (.int vc1), (.int vc0), (.int 4)])) (fun t k => ?_) ?_
    · show own_S p e below T4 (mkF m 33 #[iv p1, iv p2, iv p3, iv p4, iv p5, iv 4, iv vc0, iv vc1, iv vc2, iv vc3, .unset, .unset, .unset, .unset, .unset, .unset] []) _
      refine XS.iload X4.here hx rfl (hb hby at_33) rfl ?_
      refine XS.iload X4.here hx rfl (hb hby at_35) rfl ?_
      refine XS.iload X4.here hx rfl (hb hby at_37) rfl ?_
      show own_S p e below T4 (mkF m 39 #[iv p1, iv p2, iv p3, iv p4, iv p5, iv 4, iv vc0, iv vc1, iv vc2, iv vc3, .unset, .unset, .unset, .unset, .unset, .unset] [(.int vc1), (.int vc0), (.int 4)]) _
      refine XS.iload X4.here hx rfl (hb hby at_39) rfl ?_
      refine XS.iload X4.here hx rfl (hb hby at_41) rfl ?_
      exact k
    obtain ⟨_, _, ⟨T35, L35, k35, n35⟩, -, X35, ⟨Lc35, hQ35, l35, y35, z35⟩, st35⟩ := Jvm.LawKit.callS X4 hx (y := own_y29) hown (mvT hZ (own_w hw 5 rfl)) (mvT hZ (own_w hw 6 rfl)) (mvT hZ (own_w hw 3 rfl)) (mvT hZ (own_w hw 7 rfl)) (by decide) (backOf (W := 0) (rm2_4 l Z a0 hw [] vc0 vc1 vc2 vc3 h0 n0 Z0 hnc0 hnc1 hnc2 hnc3) hZ (own_w hw 7 rfl) (own_w hw 3 rfl) (by decide) (by decide)) (g := (mkF m 43 #[iv p1, iv p2, iv p3, iv p4, iv p5, iv 4, iv vc0, iv vc1, iv vc2, iv vc3, .unset, .unset, .unset, .unset, .unset, .unset] [(.int vc3), (.int vc2), (.int vc1), (.int vc0), (.int 4)])) rfl (by rw [hml]; rfl) (argsL := [(.int 4), (.int vc0), (.int vc1), (.int vc2), (.int vc3)]) (rest := []) (lenOf own_pd23 rfl) rfl (by show 2 * 0 + _ ≤ _; exact Nat.le_of_eq rfl) (hb hby at_43) (fun _ _ => ⟨rfl, eq4, (by decide : 0 + 1 ≤ _), (by decide : 0 + 4 ≤ _)⟩)
    dsimp only [Pt.U, Pt.locs, Pt.cells, Pt.slots] at X35 l35 y35 z35 st35 hQ35
    subst l35 y35 z35
    obtain ⟨bq35, kq35, rfl, N35q, K35q, q35z, q35g, V35q⟩ := hQ35
    have N35 := Fr.app N4 N35q
    have sz_bq35 : h0.size ≤ bq35 := Nat.le_trans ((Keep.refl h0 [])).1 q35z
    have g_bq35 : n0 ≤ bq35 := q35g
    have O35 := O0.keep K35q all0
    have K35 := (Keep.refl h0 []).trans K35q all0
    refine own_go (B := T35.setTop (mkF m 46 #[iv p1, iv p2, iv p3, iv p4, iv p5, iv 4, iv vc0, iv vc1, iv vc2, iv vc3, .unset, .unset, .unset, .unset, .unset, .unset] [(.ref bq35)])) (fun t k => st35 _ k) ?_
    refine own_go (B := T35.setTop (mkF m 48 #[iv p1, iv p2, iv p3, iv p4, iv p5, iv 4, iv vc0, iv vc1, iv vc2, iv vc3, rv bq35, .unset, .unset, .unset, .unset, .unset] [])) (fun t k => ?_) ?_
    · show own_S p e below T35 (mkF m 46 #[iv p1, iv p2, iv p3, iv p4, iv p5, iv 4, iv vc0, iv vc1, iv vc2, iv vc3, .unset, .unset, .unset, .unset, .unset, .unset] [(.ref bq35)]) _
      refine XS.astore X35.here hx rfl (hb hby at_46) rfl rfl (l' := #[iv p1, iv p2, iv p3, iv p4, iv p5, iv 4, iv vc0, iv vc1, iv vc2, iv vc3, rv bq35, .unset, .unset, .unset, .unset, .unset]) rfl ?_
      exact k
    obtain ⟨T36, h36, X36, e36, E36, A36, D36, -, st36⟩ := newO X35 hx hZ hown (own_w hw 9 rfl) (own_w hw 10 rfl) (own_w hw 11 rfl) rfl (g := (mkF m 48 #[iv p1, iv p2, iv p3, iv p4, iv p5, iv 4, iv vc0, iv vc1, iv vc2, iv vc3, rv bq35, .unset, .unset, .unset, .unset, .unset] [])) rfl (hb hby at_48) (by decide) (by decide)
    obtain ⟨b36, g36⟩ : ∃ z, z = T35.heap.size := ⟨_, rfl⟩
    rw [← g36] at A36 D36 st36
    have g_b36 : n0 ≤ b36 := Nat.le_trans (Nat.le_trans Z0 K35q.1) (Nat.le_of_eq g36.symm)
    have sz_b36 : h0.size ≤ b36 := Nat.le_trans K35.1 (Nat.le_of_eq g36.symm)
    have ne_bq35_b36 : bq35 ≠ b36 := Nat.ne_of_lt (Nat.lt_of_lt_of_le V35q.lt (Nat.le_of_eq g36.symm))
    have c36_V_bq35 := V35q.ext E36
    have K36 := K35.ext E36
    have O36 := O35.ext E36
    have F36_value : Fld Z h36 b36 "java/lang/String" "value" "[B" .null := D36 (Or.inr (own_w hw 24 rfl)) (ty := (.array .byte)) (by decide)
    have F36_coder : Fld Z h36 b36 "java/lang/String" "coder" "B" (.int 0) := D36 (Or.inr (own_w hw 25 rfl)) (ty := .byte) (by decide)
    refine own_go (B := T36.setTop (mkF m 51 #[iv p1, iv p2, iv p3, iv p4, iv p5, iv 4, iv vc0, iv vc1, iv vc2, iv vc3, rv bq35, .unset, .unset, .unset, .unset, .unset] [(.ref b36)])) (fun t k => st36 _ k) ?_
    refine own_go (B := T36.setTop (mkF m 54 #[iv p1, iv p2, iv p3, iv p4, iv p5, iv 4, iv vc0, iv vc1, iv vc2, iv vc3, rv bq35, .unset, .unset, .unset, .unset, .unset] [(.ref bq35), (.ref b36), (.ref b36)])) (fun t k => ?_) ?_
    · show own_S p e below T36 (mkF m 51 #[iv p1, iv p2, iv p3, iv p4, iv p5, iv 4, iv vc0, iv vc1, iv vc2, iv vc3, rv bq35, .unset, .unset, .unset, .unset, .unset] [(.ref b36)]) _
      refine XS.dup X36.here hx rfl (hb hby at_51) rfl rfl ?_
      refine XS.aload X36.here hx rfl (hb hby at_52) rfl rfl ?_
      exact k
    obtain ⟨_, _, ⟨T37, L37, k37, n37⟩, -, X37, ⟨Lc37, hQ37, l37, y37, z37⟩, st37⟩ := X36.specialBack hx (y := own_y11) rfl hown (mvT hZ (own_w hw 12 rfl)) (mvT hZ (own_w hw 13 rfl)) (mvT hZ (own_w hw 14 rfl)) (by decide) (backOf (W := 1) (rm3_4 l Z a0 hw [] b36 bq35 kq35 vc0 vc1 vc2 vc3 GC h36 n0 (Nat.le_trans (Nat.le_trans Z0 K35q.1) E36.1) S_C hGC O36 A36 g_b36 F36_value F36_coder c36_V_bq35 (Ne.symm ne_bq35_b36) hbig0 hbig1 hbig2 hbig3) hZ (own_w hw 14 rfl) (own_w hw 11 rfl) (by decide) (by decide)) (g := (mkF m 54 #[iv p1, iv p2, iv p3, iv p4, iv p5, iv 4, iv vc0, iv vc1, iv vc2, iv vc3, rv bq35, .unset, .unset, .unset, .unset, .unset] [(.ref bq35), (.ref b36), (.ref b36)])) rfl (by rw [hml]; rfl) (Steps.refl _) (a := b36) (argsL := [(.ref bq35)]) (rest := [(.ref b36)]) (lenOf own_pd24 rfl) rfl (by show 2 * 0 + _ ≤ _; exact Nat.le_of_eq rfl) (hb hby at_54) (fun _ _ => ⟨rfl, e36, (by decide : 2 + 1 ≤ _), (by decide : 8 + 4 ≤ _)⟩)
    dsimp only [Pt.U, Pt.locs, Pt.cells, Pt.slots] at X37 l37 y37 z37 st37 hQ37
    subst l37 y37 z37
    obtain ⟨rfl, N37q, bq37, kq37, K37q, E37q, F37c, F37v, V37q⟩ := hQ37
    have N37 := Fr.app N35 N37q
    have c37_V_bq35 := c36_V_bq35.keep K37q (fun q => ne_bq35_b36 (List.mem_singleton.mp q))
    have O37 := O36.keep K37q (allS g_b36 all0)
    have K37 := K36.trans K37q (allS (Or.inr sz_b36) all0)
    refine own_go (B := T37.setTop (mkF m 57 #[iv p1, iv p2, iv p3, iv p4, iv p5, iv 4, iv vc0, iv vc1, iv vc2, iv vc3, rv bq35, .unset, .unset, .unset, .unset, .unset] [(.ref b36)])) (fun t k => st37.trans k) ?_
    refine own_go (B := T37.setTop (mkF m 62 #[iv p1, iv p2, iv p3, iv p4, iv p5, iv 4, iv vc0, iv vc1, iv vc2, iv vc3, rv bq35, rv b36, iv (-1), .unset, .unset, .unset] [])) (fun t k => ?_) ?_
    · show own_S p e below T37 (mkF m 57 #[iv p1, iv p2, iv p3, iv p4, iv p5, iv 4, iv vc0, iv vc1, iv vc2, iv vc3, rv bq35, .unset, .unset, .unset, .unset, .unset] [(.ref b36)]) _
      refine XS.astore X37.here hx rfl (hb hby at_57) rfl rfl (l' := #[iv p1, iv p2, iv p3, iv p4, iv p5, iv 4, iv vc0, iv vc1, iv vc2, iv vc3, rv bq35, rv b36, .unset, .unset, .unset, .unset]) rfl ?_
      refine XS.iconst X37.here hx rfl (hb hby at_59) ?_
      refine XS.istore X37.here hx rfl (hb hby at_60) rfl (l' := #[iv p1, iv p2, iv p3, iv p4, iv p5, iv 4, iv vc0, iv vc1, iv vc2, iv vc3, rv bq35, rv b36, iv (-1), .unset, .unset, .unset]) rfl ?_
      exact k
    by_cases hq0 : vc0 = (63 : Int32)
    · refine own_go (B := T37.setTop (mkF m 72 #[iv p1, iv p2, iv p3, iv p4, iv p5, iv 4, iv vc0, iv vc1, iv vc2, iv vc3, rv bq35, rv b36, iv (-1), .unset, .unset, .unset] [(.int 63), (.int vc3)])) (fun t k => ?_) ?_
      · show own_S p e below T37 (mkF m 62 #[iv p1, iv p2, iv p3, iv p4, iv p5, iv 4, iv vc0, iv vc1, iv vc2, iv vc3, rv bq35, rv b36, iv (-1), .unset, .unset, .unset] []) _
        refine XS.iload X37.here hx rfl (hb hby at_62) rfl ?_
        refine XS.iconst X37.here hx rfl (hb hby at_64) ?_
        refine XS.icmpNo X37.here hx rfl (hb hby at_65) rfl (tlt (by decide)).2.2.2 ?_
        show own_S p e below T37 (mkF m 68 #[iv p1, iv p2, iv p3, iv p4, iv p5, iv 4, iv vc0, iv vc1, iv vc2, iv vc3, rv bq35, rv b36, iv (-1), .unset, .unset, .unset] []) _
        refine XS.iload X37.here hx rfl (hb hby at_68) rfl ?_
        refine XS.bipush X37.here hx rfl (hb hby at_70) ?_
        exact k
      obtain ⟨z38, hz38⟩ : ∃ q : Int32, q = (if vc3 = (63 : Int32) then (3 : Int32) else (-1 : Int32)) := ⟨_, rfl⟩
      refine own_go (B := T37.setTop (mkF m 78 #[iv p1, iv p2, iv p3, iv p4, iv p5, iv 4, iv vc0, iv vc1, iv vc2, iv vc3, rv bq35, rv b36, iv z38, .unset, .unset, .unset] [])) (fun t k => ?_) ?_
      · by_cases hc72_39 : vc3 = (63 : Int32)
        · rw [show z38 = (3 : Int32) from hz38.trans (by rw [if_pos hc72_39])] at k
          show own_S p e below T37 (mkF m 72 #[iv p1, iv p2, iv p3, iv p4, iv p5, iv 4, iv vc0, iv vc1, iv vc2, iv vc3, rv bq35, rv b36, iv (-1), .unset, .unset, .unset] [(.int 63), (.int vc3)]) _
          refine XS.icmpNo X37.here hx rfl (hb hby at_72) rfl (teq hc72_39).2 ?_
          refine XS.iconst X37.here hx rfl (hb hby at_75) ?_
          refine XS.istore X37.here hx rfl (hb hby at_76) rfl (l' := #[iv p1, iv p2, iv p3, iv p4, iv p5, iv 4, iv vc0, iv vc1, iv vc2, iv vc3, rv bq35, rv b36, iv 3, .unset, .unset, .unset]) rfl ?_
          exact k
        · rw [show z38 = (-1 : Int32) from hz38.trans (by rw [if_neg hc72_39])] at k
          show own_S p e below T37 (mkF m 72 #[iv p1, iv p2, iv p3, iv p4, iv p5, iv 4, iv vc0, iv vc1, iv vc2, iv vc3, rv bq35, rv b36, iv (-1), .unset, .unset, .unset] [(.int 63), (.int vc3)]) _
          refine XS.icmpYes X37.here hx rfl (pc0 := 72) (pc' := 78) rfl (hb hby at_72) rfl (feq hc72_39).2 (by decide) (by decide) ?_
          exact k
      refine own_go (B := T37.setTop (mkF m 88 #[iv p1, iv p2, iv p3, iv p4, iv p5, iv 4, iv vc0, iv vc1, iv vc2, iv vc3, rv bq35, rv b36, iv z38, .unset, .unset, .unset] [(.int 63), (.int vc2)])) (fun t k => ?_) ?_
      · show own_S p e below T37 (mkF m 78 #[iv p1, iv p2, iv p3, iv p4, iv p5, iv 4, iv vc0, iv vc1, iv vc2, iv vc3, rv bq35, rv b36, iv z38, .unset, .unset, .unset] []) _
        refine XS.iload X37.here hx rfl (hb hby at_78) rfl ?_
        refine XS.iconst X37.here hx rfl (hb hby at_80) ?_
        refine XS.icmpNo X37.here hx rfl (hb hby at_81) rfl (tlt (by decide)).2.2.2 ?_
        show own_S p e below T37 (mkF m 84 #[iv p1, iv p2, iv p3, iv p4, iv p5, iv 4, iv vc0, iv vc1, iv vc2, iv vc3, rv bq35, rv b36, iv z38, .unset, .unset, .unset] []) _
        refine XS.iload X37.here hx rfl (hb hby at_84) rfl ?_
        refine XS.bipush X37.here hx rfl (hb hby at_86) ?_
        exact k
      obtain ⟨z40, hz40⟩ : ∃ q : Int32, q = (if vc2 = (63 : Int32) then (2 : Int32) else z38) := ⟨_, rfl⟩
      refine own_go (B := T37.setTop (mkF m 94 #[iv p1, iv p2, iv p3, iv p4, iv p5, iv 4, iv vc0, iv vc1, iv vc2, iv vc3, rv bq35, rv b36, iv z40, .unset, .unset, .unset] [])) (fun t k => ?_) ?_
      · by_cases hc88_41 : vc2 = (63 : Int32)
        · rw [show z40 = (2 : Int32) from hz40.trans (by rw [if_pos hc88_41])] at k
          show own_S p e below T37 (mkF m 88 #[iv p1, iv p2, iv p3, iv p4, iv p5, iv 4, iv vc0, iv vc1, iv vc2, iv vc3, rv bq35, rv b36, iv z38, .unset, .unset, .unset] [(.int 63), (.int vc2)]) _
          refine XS.icmpNo X37.here hx rfl (hb hby at_88) rfl (teq hc88_41).2 ?_
          refine XS.iconst X37.here hx rfl (hb hby at_91) ?_
          refine XS.istore X37.here hx rfl (hb hby at_92) rfl (l' := #[iv p1, iv p2, iv p3, iv p4, iv p5, iv 4, iv vc0, iv vc1, iv vc2, iv vc3, rv bq35, rv b36, iv 2, .unset, .unset, .unset]) rfl ?_
          exact k
        · rw [show z40 = z38 from hz40.trans (by rw [if_neg hc88_41])] at k
          show own_S p e below T37 (mkF m 88 #[iv p1, iv p2, iv p3, iv p4, iv p5, iv 4, iv vc0, iv vc1, iv vc2, iv vc3, rv bq35, rv b36, iv z38, .unset, .unset, .unset] [(.int 63), (.int vc2)]) _
          refine XS.icmpYes X37.here hx rfl (pc0 := 88) (pc' := 94) rfl (hb hby at_88) rfl (feq hc88_41).2 (by decide) (by decide) ?_
          exact k
      refine own_go (B := T37.setTop (mkF m 104 #[iv p1, iv p2, iv p3, iv p4, iv p5, iv 4, iv vc0, iv vc1, iv vc2, iv vc3, rv bq35, rv b36, iv z40, .unset, .unset, .unset] [(.int 63), (.int vc1)])) (fun t k => ?_) ?_
      · show own_S p e below T37 (mkF m 94 #[iv p1, iv p2, iv p3, iv p4, iv p5, iv 4, iv vc0, iv vc1, iv vc2, iv vc3, rv bq35, rv b36, iv z40, .unset, .unset, .unset] []) _
        refine XS.iload X37.here hx rfl (hb hby at_94) rfl ?_
        refine XS.iconst X37.here hx rfl (hb hby at_96) ?_
        refine XS.icmpNo X37.here hx rfl (hb hby at_97) rfl (tlt (by decide)).2.2.2 ?_
        show own_S p e below T37 (mkF m 100 #[iv p1, iv p2, iv p3, iv p4, iv p5, iv 4, iv vc0, iv vc1, iv vc2, iv vc3, rv bq35, rv b36, iv z40, .unset, .unset, .unset] []) _
        refine XS.iload X37.here hx rfl (hb hby at_100) rfl ?_
        refine XS.bipush X37.here hx rfl (hb hby at_102) ?_
        exact k
      obtain ⟨z42, hz42⟩ : ∃ q : Int32, q = (if vc1 = (63 : Int32) then (1 : Int32) else z40) := ⟨_, rfl⟩
      refine own_go (B := T37.setTop (mkF m 110 #[iv p1, iv p2, iv p3, iv p4, iv p5, iv 4, iv vc0, iv vc1, iv vc2, iv vc3, rv bq35, rv b36, iv z42, .unset, .unset, .unset] [])) (fun t k => ?_) ?_
      · by_cases hc104_43 : vc1 = (63 : Int32)
        · rw [show z42 = (1 : Int32) from hz42.trans (by rw [if_pos hc104_43])] at k
          show own_S p e below T37 (mkF m 104 #[iv p1, iv p2, iv p3, iv p4, iv p5, iv 4, iv vc0, iv vc1, iv vc2, iv vc3, rv bq35, rv b36, iv z40, .unset, .unset, .unset] [(.int 63), (.int vc1)]) _
          refine XS.icmpNo X37.here hx rfl (hb hby at_104) rfl (teq hc104_43).2 ?_
          refine XS.iconst X37.here hx rfl (hb hby at_107) ?_
          refine XS.istore X37.here hx rfl (hb hby at_108) rfl (l' := #[iv p1, iv p2, iv p3, iv p4, iv p5, iv 4, iv vc0, iv vc1, iv vc2, iv vc3, rv bq35, rv b36, iv 1, .unset, .unset, .unset]) rfl ?_
          exact k
        · rw [show z42 = z40 from hz42.trans (by rw [if_neg hc104_43])] at k
          show own_S p e below T37 (mkF m 104 #[iv p1, iv p2, iv p3, iv p4, iv p5, iv 4, iv vc0, iv vc1, iv vc2, iv vc3, rv bq35, rv b36, iv z40, .unset, .unset, .unset] [(.int 63), (.int vc1)]) _
          refine XS.icmpYes X37.here hx rfl (pc0 := 104) (pc' := 110) rfl (hb hby at_104) rfl (feq hc104_43).2 (by decide) (by decide) ?_
          exact k
      refine own_go (B := T37.setTop (mkF m 151 #[iv p1, iv p2, iv p3, iv p4, iv p5, iv 4, iv vc0, iv vc1, iv vc2, iv vc3, rv bq35, rv b36, iv 0, iv 3, iv 1, .unset] [(.ref b36)])) (fun t k => ?_) ?_
      · show own_S p e below T37 (mkF m 110 #[iv p1, iv p2, iv p3, iv p4, iv p5, iv 4, iv vc0, iv vc1, iv vc2, iv vc3, rv bq35, rv b36, iv z42, .unset, .unset, .unset] []) _
        refine XS.iload X37.here hx rfl (hb hby at_110) rfl ?_
        refine XS.ifNo X37.here hx rfl (hb hby at_112) rfl ((if0 _ _).trans (tlt (by decide)).2.2.2) ?_
        refine XS.iload X37.here hx rfl (hb hby at_115) rfl ?_
        show own_S p e below T37 (mkF m 117 #[iv p1, iv p2, iv p3, iv p4, iv p5, iv 4, iv vc0, iv vc1, iv vc2, iv vc3, rv bq35, rv b36, iv z42, .unset, .unset, .unset] [(.int vc0)]) _
        refine XS.bipush X37.here hx rfl (hb hby at_117) ?_
        refine XS.icmpNo X37.here hx rfl (hb hby at_119) rfl (teq hq0).2 ?_
        refine XS.iconst X37.here hx rfl (hb hby at_122) ?_
        show own_S p e below T37 (mkF m 123 #[iv p1, iv p2, iv p3, iv p4, iv p5, iv 4, iv vc0, iv vc1, iv vc2, iv vc3, rv bq35, rv b36, iv z42, .unset, .unset, .unset] [(.int 0)]) _
        refine XS.istore X37.here hx rfl (hb hby at_123) rfl (l' := #[iv p1, iv p2, iv p3, iv p4, iv p5, iv 4, iv vc0, iv vc1, iv vc2, iv vc3, rv bq35, rv b36, iv 0, .unset, .unset, .unset]) rfl ?_
        refine XS.iload X37.here hx rfl (hb hby at_125) rfl ?_
        refine XS.ifYes X37.here hx rfl (pc0 := 127) (pc' := 134) rfl (hb hby at_127) rfl ((if0 _ _).trans (flt (by decide)).2.1) (by decide) (by decide) ?_
        show own_S p e below T37 (mkF m 134 #[iv p1, iv p2, iv p3, iv p4, iv p5, iv 4, iv vc0, iv vc1, iv vc2, iv vc3, rv bq35, rv b36, iv 0, .unset, .unset, .unset] []) _
        refine XS.iload X37.here hx rfl (hb hby at_134) rfl ?_
        refine XS.iload X37.here hx rfl (hb hby at_136) rfl ?_
        refine XS.isub X37.here hx rfl (hb hby at_138) rfl ?_
        show own_S p e below T37 (mkF m 139 #[iv p1, iv p2, iv p3, iv p4, iv p5, iv 4, iv vc0, iv vc1, iv vc2, iv vc3, rv bq35, rv b36, iv 0, .unset, .unset, .unset] [(.int 4)]) _
        refine XS.iconst X37.here hx rfl (hb hby at_139) ?_
        refine XS.isub X37.here hx rfl (hb hby at_140) rfl ?_
        refine XS.istore X37.here hx rfl (hb hby at_141) rfl (l' := #[iv p1, iv p2, iv p3, iv p4, iv p5, iv 4, iv vc0, iv vc1, iv vc2, iv vc3, rv bq35, rv b36, iv 0, iv 3, .unset, .unset]) rfl ?_
        show own_S p e below T37 (mkF m 143 #[iv p1, iv p2, iv p3, iv p4, iv p5, iv 4, iv vc0, iv vc1, iv vc2, iv vc3, rv bq35, rv b36, iv 0, iv 3, .unset, .unset] []) _
        refine XS.iload X37.here hx rfl (hb hby at_143) rfl ?_
        refine XS.iconst X37.here hx rfl (hb hby at_145) ?_
        refine XS.iadd X37.here hx rfl (hb hby at_146) rfl ?_
        show own_S p e below T37 (mkF m 147 #[iv p1, iv p2, iv p3, iv p4, iv p5, iv 4, iv vc0, iv vc1, iv vc2, iv vc3, rv bq35, rv b36, iv 0, iv 3, .unset, .unset] [(.int 1)]) _
        refine XS.istore X37.here hx rfl (hb hby at_147) rfl (l' := #[iv p1, iv p2, iv p3, iv p4, iv p5, iv 4, iv vc0, iv vc1, iv vc2, iv vc3, rv bq35, rv b36, iv 0, iv 3, iv 1, .unset]) rfl ?_
        refine XS.aload X37.here hx rfl (hb hby at_149) rfl rfl ?_
        exact k
      obtain ⟨_, _, ⟨T44, L44, k44, n44⟩, -, X44, ⟨Lc44, hQ44, l44, y44, z44⟩, st44⟩ := Jvm.LawKit.callS X37 hx (y := own_y30) hown (mvT hZ (own_w hw 30 rfl)) (mvT hZ (own_w hw 31 rfl)) (mvT hZ (own_w hw 32 rfl)) (mvT hZ (own_w hw 33 rfl)) (by decide) (backOf (W := 0) (rm6y l Z a0 hw [] b36 (0 : Int32) (3 : Int32) [(.int (own_b vc1)), (.int (own_b vc2)), (.int (own_b vc3))] T37.heap n0 (Nat.le_trans (Nat.le_trans (Nat.le_trans Z0 K35q.1) E36.1) K37q.1) E37q (rm7g l Z a0 hw [] b36 (63 : Int32) bq37 kq37 (4 : Int32) [(.int (own_b vc0)), (.int (own_b vc1)), (.int (own_b vc2)), (.int (own_b vc3))] (0 : Int32) GC T37.heap n0 (Nat.le_trans (Nat.le_trans (Nat.le_trans Z0 K35q.1) E36.1) K37q.1) S_C hGC O37 E37q F37c F37v V37q (rm12_4 l Z a0 hw [] bq37 kq37 (own_b vc0) (own_b vc1) (own_b vc2) (own_b vc3) (0 : Int32) T37.heap n0 (Nat.le_trans (Nat.le_trans (Nat.le_trans Z0 K35q.1) E36.1) K37q.1) V37q (by rw [own_ix4, if_pos (own_yb hq0)]))) (by decide) (rm21g l Z a0 hw [] b36 (1 : Int32) (4 : Int32) bq37 kq37 [(.int (own_b vc0)), (.int (own_b vc1)), (.int (own_b vc2)), (.int (own_b vc3))] [(.int (own_b vc1)), (.int (own_b vc2)), (.int (own_b vc3))] GC GF T37.heap n0 (Nat.le_trans (Nat.le_trans (Nat.le_trans Z0 K35q.1) E36.1) K37q.1) S_C hGC O37 S_F is_GF E37q F37c F37v V37q (by decide) (by decide) (rm25_4_1 l Z a0 hw [] bq37 kq37 (own_b vc0) (own_b vc1) (own_b vc2) (own_b vc3) T37.heap n0 (Nat.le_trans (Nat.le_trans (Nat.le_trans Z0 K35q.1) E36.1) K37q.1) V37q))) hZ (own_w hw 33 rfl) (own_w hw 32 rfl) (by decide) (by decide)) (g := (mkF m 151 #[iv p1, iv p2, iv p3, iv p4, iv p5, iv 4, iv vc0, iv vc1, iv vc2, iv vc3, rv bq35, rv b36, iv 0, iv 3, iv 1, .unset] [(.ref b36)])) rfl (by rw [hml]; rfl) (argsL := [(.ref b36)]) (rest := []) (lenOf own_pd25 rfl) rfl (by show 2 * 0 + _ ≤ _; exact Nat.le_of_eq rfl) (hb hby at_151) (fun _ _ => ⟨rfl, rfl, (by decide : 3 + 2 ≤ _), (by decide : 12 + 8 ≤ _)⟩)
      dsimp only [Pt.U, Pt.locs, Pt.cells, Pt.slots] at X44 l44 y44 z44 st44 hQ44
      subst l44 y44 z44
      obtain ⟨aq44, bq44, kq44, rfl, N44q, K44q, E44q, F44c, F44v, V44q⟩ := hQ44
      have N44 := Fr.app N37 N44q
      have c44_V_bq35 := c37_V_bq35.keep K44q (List.not_mem_nil)
      have c44_E_b36 := E37q.keep K44q
      have c44_F_b36_coder := F37c.keep K44q (List.not_mem_nil)
      have c44_F_b36_value := F37v.keep K44q (List.not_mem_nil)
      have c44_V_bq37 := V37q.keep K44q (List.not_mem_nil)
      have O44 := O37.keep K44q all0
      have K44 := K37.trans K44q all0
      refine own_go (B := T44.setTop (mkF m 154 #[iv p1, iv p2, iv p3, iv p4, iv p5, iv 4, iv vc0, iv vc1, iv vc2, iv vc3, rv bq35, rv b36, iv 0, iv 3, iv 1, .unset] [(.ref aq44)])) (fun t k => st44 _ k) ?_
      refine own_go (B := T44.setTop (mkF m 156 #[iv p1, iv p2, iv p3, iv p4, iv p5, iv 4, iv vc0, iv vc1, iv vc2, iv vc3, rv bq35, rv b36, iv 0, iv 3, iv 1, rv aq44] [])) (fun t k => ?_) ?_
      · show own_S p e below T44 (mkF m 154 #[iv p1, iv p2, iv p3, iv p4, iv p5, iv 4, iv vc0, iv vc1, iv vc2, iv vc3, rv bq35, rv b36, iv 0, iv 3, iv 1, .unset] [(.ref aq44)]) _
        refine XS.astore X44.here hx rfl (hb hby at_154) rfl rfl (l' := #[iv p1, iv p2, iv p3, iv p4, iv p5, iv 4, iv vc0, iv vc1, iv vc2, iv vc3, rv bq35, rv b36, iv 0, iv 3, iv 1, rv aq44]) rfl ?_
        exact k
      exact own_tail p1 p2 p3 p4 p5 (4 : Int32) vc0 vc1 vc2 vc3 (0 : Int32) (3 : Int32) (1 : Int32) bq35 b36 aq44 bq44 kq44 kq35 [(.int (own_b vc1)), (.int (own_b vc2)), (.int (own_b vc3))] [(.int vc0), (.int vc1), (.int vc2), (.int vc3)] (4 : Int32) GC GF X44 hx hZ hw hby hml hown Bd hS rfl N44 (Nat.le_trans (Nat.le_trans (Nat.le_trans (Nat.le_trans Z0 K35q.1) E36.1) K37q.1) K44q.1) (Nat.le_trans (Nat.le_trans (Nat.le_trans (Nat.le_trans (Nat.zero_le _) K35q.1) E36.1) K37q.1) K44q.1) (by decide) (by decide) S_C hGC O44 S_F is_GF E44q F44c F44v V44q c44_V_bq35 (fun _ => ⟨_, _, rfl, by decide, rfl, hrt1⟩) (fun _ => ⟨_, _, rfl, by decide, rfl, hrt2⟩) (fun _ => ⟨_, _, rfl, by decide, rfl, hrt3⟩)
    · by_cases hq1 : vc1 = (63 : Int32)
      · refine own_go (B := T37.setTop (mkF m 72 #[iv p1, iv p2, iv p3, iv p4, iv p5, iv 4, iv vc0, iv vc1, iv vc2, iv vc3, rv bq35, rv b36, iv (-1), .unset, .unset, .unset] [(.int 63), (.int vc3)])) (fun t k => ?_) ?_
        · show own_S p e below T37 (mkF m 62 #[iv p1, iv p2, iv p3, iv p4, iv p5, iv 4, iv vc0, iv vc1, iv vc2, iv vc3, rv bq35, rv b36, iv (-1), .unset, .unset, .unset] []) _
          refine XS.iload X37.here hx rfl (hb hby at_62) rfl ?_
          refine XS.iconst X37.here hx rfl (hb hby at_64) ?_
          refine XS.icmpNo X37.here hx rfl (hb hby at_65) rfl (tlt (by decide)).2.2.2 ?_
          show own_S p e below T37 (mkF m 68 #[iv p1, iv p2, iv p3, iv p4, iv p5, iv 4, iv vc0, iv vc1, iv vc2, iv vc3, rv bq35, rv b36, iv (-1), .unset, .unset, .unset] []) _
          refine XS.iload X37.here hx rfl (hb hby at_68) rfl ?_
          refine XS.bipush X37.here hx rfl (hb hby at_70) ?_
          exact k
        obtain ⟨z45, hz45⟩ : ∃ q : Int32, q = (if vc3 = (63 : Int32) then (3 : Int32) else (-1 : Int32)) := ⟨_, rfl⟩
        refine own_go (B := T37.setTop (mkF m 78 #[iv p1, iv p2, iv p3, iv p4, iv p5, iv 4, iv vc0, iv vc1, iv vc2, iv vc3, rv bq35, rv b36, iv z45, .unset, .unset, .unset] [])) (fun t k => ?_) ?_
        · by_cases hc72_46 : vc3 = (63 : Int32)
          · rw [show z45 = (3 : Int32) from hz45.trans (by rw [if_pos hc72_46])] at k
            show own_S p e below T37 (mkF m 72 #[iv p1, iv p2, iv p3, iv p4, iv p5, iv 4, iv vc0, iv vc1, iv vc2, iv vc3, rv bq35, rv b36, iv (-1), .unset, .unset, .unset] [(.int 63), (.int vc3)]) _
            refine XS.icmpNo X37.here hx rfl (hb hby at_72) rfl (teq hc72_46).2 ?_
            refine XS.iconst X37.here hx rfl (hb hby at_75) ?_
            refine XS.istore X37.here hx rfl (hb hby at_76) rfl (l' := #[iv p1, iv p2, iv p3, iv p4, iv p5, iv 4, iv vc0, iv vc1, iv vc2, iv vc3, rv bq35, rv b36, iv 3, .unset, .unset, .unset]) rfl ?_
            exact k
          · rw [show z45 = (-1 : Int32) from hz45.trans (by rw [if_neg hc72_46])] at k
            show own_S p e below T37 (mkF m 72 #[iv p1, iv p2, iv p3, iv p4, iv p5, iv 4, iv vc0, iv vc1, iv vc2, iv vc3, rv bq35, rv b36, iv (-1), .unset, .unset, .unset] [(.int 63), (.int vc3)]) _
            refine XS.icmpYes X37.here hx rfl (pc0 := 72) (pc' := 78) rfl (hb hby at_72) rfl (feq hc72_46).2 (by decide) (by decide) ?_
            exact k
        refine own_go (B := T37.setTop (mkF m 88 #[iv p1, iv p2, iv p3, iv p4, iv p5, iv 4, iv vc0, iv vc1, iv vc2, iv vc3, rv bq35, rv b36, iv z45, .unset, .unset, .unset] [(.int 63), (.int vc2)])) (fun t k => ?_) ?_
        · show own_S p e below T37 (mkF m 78 #[iv p1, iv p2, iv p3, iv p4, iv p5, iv 4, iv vc0, iv vc1, iv vc2, iv vc3, rv bq35, rv b36, iv z45, .unset, .unset, .unset] []) _
          refine XS.iload X37.here hx rfl (hb hby at_78) rfl ?_
          refine XS.iconst X37.here hx rfl (hb hby at_80) ?_
          refine XS.icmpNo X37.here hx rfl (hb hby at_81) rfl (tlt (by decide)).2.2.2 ?_
          show own_S p e below T37 (mkF m 84 #[iv p1, iv p2, iv p3, iv p4, iv p5, iv 4, iv vc0, iv vc1, iv vc2, iv vc3, rv bq35, rv b36, iv z45, .unset, .unset, .unset] []) _
          refine XS.iload X37.here hx rfl (hb hby at_84) rfl ?_
          refine XS.bipush X37.here hx rfl (hb hby at_86) ?_
          exact k
        obtain ⟨z47, hz47⟩ : ∃ q : Int32, q = (if vc2 = (63 : Int32) then (2 : Int32) else z45) := ⟨_, rfl⟩
        refine own_go (B := T37.setTop (mkF m 94 #[iv p1, iv p2, iv p3, iv p4, iv p5, iv 4, iv vc0, iv vc1, iv vc2, iv vc3, rv bq35, rv b36, iv z47, .unset, .unset, .unset] [])) (fun t k => ?_) ?_
        · by_cases hc88_48 : vc2 = (63 : Int32)
          · rw [show z47 = (2 : Int32) from hz47.trans (by rw [if_pos hc88_48])] at k
            show own_S p e below T37 (mkF m 88 #[iv p1, iv p2, iv p3, iv p4, iv p5, iv 4, iv vc0, iv vc1, iv vc2, iv vc3, rv bq35, rv b36, iv z45, .unset, .unset, .unset] [(.int 63), (.int vc2)]) _
            refine XS.icmpNo X37.here hx rfl (hb hby at_88) rfl (teq hc88_48).2 ?_
            refine XS.iconst X37.here hx rfl (hb hby at_91) ?_
            refine XS.istore X37.here hx rfl (hb hby at_92) rfl (l' := #[iv p1, iv p2, iv p3, iv p4, iv p5, iv 4, iv vc0, iv vc1, iv vc2, iv vc3, rv bq35, rv b36, iv 2, .unset, .unset, .unset]) rfl ?_
            exact k
          · rw [show z47 = z45 from hz47.trans (by rw [if_neg hc88_48])] at k
            show own_S p e below T37 (mkF m 88 #[iv p1, iv p2, iv p3, iv p4, iv p5, iv 4, iv vc0, iv vc1, iv vc2, iv vc3, rv bq35, rv b36, iv z45, .unset, .unset, .unset] [(.int 63), (.int vc2)]) _
            refine XS.icmpYes X37.here hx rfl (pc0 := 88) (pc' := 94) rfl (hb hby at_88) rfl (feq hc88_48).2 (by decide) (by decide) ?_
            exact k
        refine own_go (B := T37.setTop (mkF m 151 #[iv p1, iv p2, iv p3, iv p4, iv p5, iv 4, iv vc0, iv vc1, iv vc2, iv vc3, rv bq35, rv b36, iv 1, iv 2, iv 2, .unset] [(.ref b36)])) (fun t k => ?_) ?_
        · show own_S p e below T37 (mkF m 94 #[iv p1, iv p2, iv p3, iv p4, iv p5, iv 4, iv vc0, iv vc1, iv vc2, iv vc3, rv bq35, rv b36, iv z47, .unset, .unset, .unset] []) _
          refine XS.iload X37.here hx rfl (hb hby at_94) rfl ?_
          refine XS.iconst X37.here hx rfl (hb hby at_96) ?_
          refine XS.icmpNo X37.here hx rfl (hb hby at_97) rfl (tlt (by decide)).2.2.2 ?_
          show own_S p e below T37 (mkF m 100 #[iv p1, iv p2, iv p3, iv p4, iv p5, iv 4, iv vc0, iv vc1, iv vc2, iv vc3, rv bq35, rv b36, iv z47, .unset, .unset, .unset] []) _
          refine XS.iload X37.here hx rfl (hb hby at_100) rfl ?_
          refine XS.bipush X37.here hx rfl (hb hby at_102) ?_
          refine XS.icmpNo X37.here hx rfl (hb hby at_104) rfl (teq hq1).2 ?_
          show own_S p e below T37 (mkF m 107 #[iv p1, iv p2, iv p3, iv p4, iv p5, iv 4, iv vc0, iv vc1, iv vc2, iv vc3, rv bq35, rv b36, iv z47, .unset, .unset, .unset] []) _
          refine XS.iconst X37.here hx rfl (hb hby at_107) ?_
          refine XS.istore X37.here hx rfl (hb hby at_108) rfl (l' := #[iv p1, iv p2, iv p3, iv p4, iv p5, iv 4, iv vc0, iv vc1, iv vc2, iv vc3, rv bq35, rv b36, iv 1, .unset, .unset, .unset]) rfl ?_
          refine XS.iload X37.here hx rfl (hb hby at_110) rfl ?_
          show own_S p e below T37 (mkF m 112 #[iv p1, iv p2, iv p3, iv p4, iv p5, iv 4, iv vc0, iv vc1, iv vc2, iv vc3, rv bq35, rv b36, iv 1, .unset, .unset, .unset] [(.int 4)]) _
          refine XS.ifNo X37.here hx rfl (hb hby at_112) rfl ((if0 _ _).trans (tlt (by decide)).2.2.2) ?_
          refine XS.iload X37.here hx rfl (hb hby at_115) rfl ?_
          refine XS.bipush X37.here hx rfl (hb hby at_117) ?_
          show own_S p e below T37 (mkF m 119 #[iv p1, iv p2, iv p3, iv p4, iv p5, iv 4, iv vc0, iv vc1, iv vc2, iv vc3, rv bq35, rv b36, iv 1, .unset, .unset, .unset] [(.int 63), (.int vc0)]) _
          refine XS.icmpYes X37.here hx rfl (pc0 := 119) (pc' := 125) rfl (hb hby at_119) rfl (feq hq0).2 (by decide) (by decide) ?_
          refine XS.iload X37.here hx rfl (hb hby at_125) rfl ?_
          refine XS.ifYes X37.here hx rfl (pc0 := 127) (pc' := 134) rfl (hb hby at_127) rfl ((if0 _ _).trans (flt (by decide)).2.1) (by decide) (by decide) ?_
          show own_S p e below T37 (mkF m 134 #[iv p1, iv p2, iv p3, iv p4, iv p5, iv 4, iv vc0, iv vc1, iv vc2, iv vc3, rv bq35, rv b36, iv 1, .unset, .unset, .unset] []) _
          refine XS.iload X37.here hx rfl (hb hby at_134) rfl ?_
          refine XS.iload X37.here hx rfl (hb hby at_136) rfl ?_
          refine XS.isub X37.here hx rfl (hb hby at_138) rfl ?_
          show own_S p e below T37 (mkF m 139 #[iv p1, iv p2, iv p3, iv p4, iv p5, iv 4, iv vc0, iv vc1, iv vc2, iv vc3, rv bq35, rv b36, iv 1, .unset, .unset, .unset] [(.int 3)]) _
          refine XS.iconst X37.here hx rfl (hb hby at_139) ?_
          refine XS.isub X37.here hx rfl (hb hby at_140) rfl ?_
          refine XS.istore X37.here hx rfl (hb hby at_141) rfl (l' := #[iv p1, iv p2, iv p3, iv p4, iv p5, iv 4, iv vc0, iv vc1, iv vc2, iv vc3, rv bq35, rv b36, iv 1, iv 2, .unset, .unset]) rfl ?_
          show own_S p e below T37 (mkF m 143 #[iv p1, iv p2, iv p3, iv p4, iv p5, iv 4, iv vc0, iv vc1, iv vc2, iv vc3, rv bq35, rv b36, iv 1, iv 2, .unset, .unset] []) _
          refine XS.iload X37.here hx rfl (hb hby at_143) rfl ?_
          refine XS.iconst X37.here hx rfl (hb hby at_145) ?_
          refine XS.iadd X37.here hx rfl (hb hby at_146) rfl ?_
          show own_S p e below T37 (mkF m 147 #[iv p1, iv p2, iv p3, iv p4, iv p5, iv 4, iv vc0, iv vc1, iv vc2, iv vc3, rv bq35, rv b36, iv 1, iv 2, .unset, .unset] [(.int 2)]) _
          refine XS.istore X37.here hx rfl (hb hby at_147) rfl (l' := #[iv p1, iv p2, iv p3, iv p4, iv p5, iv 4, iv vc0, iv vc1, iv vc2, iv vc3, rv bq35, rv b36, iv 1, iv 2, iv 2, .unset]) rfl ?_
          refine XS.aload X37.here hx rfl (hb hby at_149) rfl rfl ?_
          exact k
        obtain ⟨_, _, ⟨T49, L49, k49, n49⟩, -, X49, ⟨Lc49, hQ49, l49, y49, z49⟩, st49⟩ := Jvm.LawKit.callS X37 hx (y := own_y30) hown (mvT hZ (own_w hw 30 rfl)) (mvT hZ (own_w hw 31 rfl)) (mvT hZ (own_w hw 32 rfl)) (mvT hZ (own_w hw 33 rfl)) (by decide) (backOf (W := 0) (rm6y l Z a0 hw [] b36 (1 : Int32) (2 : Int32) [(.int (own_b vc2)), (.int (own_b vc3))] T37.heap n0 (Nat.le_trans (Nat.le_trans (Nat.le_trans Z0 K35q.1) E36.1) K37q.1) E37q (rm7g l Z a0 hw [] b36 (63 : Int32) bq37 kq37 (4 : Int32) [(.int (own_b vc0)), (.int (own_b vc1)), (.int (own_b vc2)), (.int (own_b vc3))] (1 : Int32) GC T37.heap n0 (Nat.le_trans (Nat.le_trans (Nat.le_trans Z0 K35q.1) E36.1) K37q.1) S_C hGC O37 E37q F37c F37v V37q (rm12_4 l Z a0 hw [] bq37 kq37 (own_b vc0) (own_b vc1) (own_b vc2) (own_b vc3) (1 : Int32) T37.heap n0 (Nat.le_trans (Nat.le_trans (Nat.le_trans Z0 K35q.1) E36.1) K37q.1) V37q (by rw [own_ix4, if_neg (own_nb hcv0 hq0), if_pos (own_yb hq1)]))) (by decide) (rm21g l Z a0 hw [] b36 (2 : Int32) (4 : Int32) bq37 kq37 [(.int (own_b vc0)), (.int (own_b vc1)), (.int (own_b vc2)), (.int (own_b vc3))] [(.int (own_b vc2)), (.int (own_b vc3))] GC GF T37.heap n0 (Nat.le_trans (Nat.le_trans (Nat.le_trans Z0 K35q.1) E36.1) K37q.1) S_C hGC O37 S_F is_GF E37q F37c F37v V37q (by decide) (by decide) (rm25_4_2 l Z a0 hw [] bq37 kq37 (own_b vc0) (own_b vc1) (own_b vc2) (own_b vc3) T37.heap n0 (Nat.le_trans (Nat.le_trans (Nat.le_trans Z0 K35q.1) E36.1) K37q.1) V37q))) hZ (own_w hw 33 rfl) (own_w hw 32 rfl) (by decide) (by decide)) (g := (mkF m 151 #[iv p1, iv p2, iv p3, iv p4, iv p5, iv 4, iv vc0, iv vc1, iv vc2, iv vc3, rv bq35, rv b36, iv 1, iv 2, iv 2, .unset] [(.ref b36)])) rfl (by rw [hml]; rfl) (argsL := [(.ref b36)]) (rest := []) (lenOf own_pd25 rfl) rfl (by show 2 * 0 + _ ≤ _; exact Nat.le_of_eq rfl) (hb hby at_151) (fun _ _ => ⟨rfl, rfl, (by decide : 3 + 2 ≤ _), (by decide : 12 + 8 ≤ _)⟩)
        dsimp only [Pt.U, Pt.locs, Pt.cells, Pt.slots] at X49 l49 y49 z49 st49 hQ49
        subst l49 y49 z49
        obtain ⟨aq49, bq49, kq49, rfl, N49q, K49q, E49q, F49c, F49v, V49q⟩ := hQ49
        have N49 := Fr.app N37 N49q
        have c49_V_bq35 := c37_V_bq35.keep K49q (List.not_mem_nil)
        have c49_E_b36 := E37q.keep K49q
        have c49_F_b36_coder := F37c.keep K49q (List.not_mem_nil)
        have c49_F_b36_value := F37v.keep K49q (List.not_mem_nil)
        have c49_V_bq37 := V37q.keep K49q (List.not_mem_nil)
        have O49 := O37.keep K49q all0
        have K49 := K37.trans K49q all0
        refine own_go (B := T49.setTop (mkF m 154 #[iv p1, iv p2, iv p3, iv p4, iv p5, iv 4, iv vc0, iv vc1, iv vc2, iv vc3, rv bq35, rv b36, iv 1, iv 2, iv 2, .unset] [(.ref aq49)])) (fun t k => st49 _ k) ?_
        refine own_go (B := T49.setTop (mkF m 156 #[iv p1, iv p2, iv p3, iv p4, iv p5, iv 4, iv vc0, iv vc1, iv vc2, iv vc3, rv bq35, rv b36, iv 1, iv 2, iv 2, rv aq49] [])) (fun t k => ?_) ?_
        · show own_S p e below T49 (mkF m 154 #[iv p1, iv p2, iv p3, iv p4, iv p5, iv 4, iv vc0, iv vc1, iv vc2, iv vc3, rv bq35, rv b36, iv 1, iv 2, iv 2, .unset] [(.ref aq49)]) _
          refine XS.astore X49.here hx rfl (hb hby at_154) rfl rfl (l' := #[iv p1, iv p2, iv p3, iv p4, iv p5, iv 4, iv vc0, iv vc1, iv vc2, iv vc3, rv bq35, rv b36, iv 1, iv 2, iv 2, rv aq49]) rfl ?_
          exact k
        exact own_tail p1 p2 p3 p4 p5 (4 : Int32) vc0 vc1 vc2 vc3 (1 : Int32) (2 : Int32) (2 : Int32) bq35 b36 aq49 bq49 kq49 kq35 [(.int (own_b vc2)), (.int (own_b vc3))] [(.int vc0), (.int vc1), (.int vc2), (.int vc3)] (4 : Int32) GC GF X49 hx hZ hw hby hml hown Bd hS rfl N49 (Nat.le_trans (Nat.le_trans (Nat.le_trans (Nat.le_trans Z0 K35q.1) E36.1) K37q.1) K49q.1) (Nat.le_trans (Nat.le_trans (Nat.le_trans (Nat.le_trans (Nat.zero_le _) K35q.1) E36.1) K37q.1) K49q.1) (by decide) (by decide) S_C hGC O49 S_F is_GF E49q F49c F49v V49q c49_V_bq35 (fun _ => ⟨_, _, rfl, by decide, rfl, hrt2⟩) (fun _ => ⟨_, _, rfl, by decide, rfl, hrt3⟩) (fun q => absurd q (by decide))
      · by_cases hq2 : vc2 = (63 : Int32)
        · refine own_go (B := T37.setTop (mkF m 72 #[iv p1, iv p2, iv p3, iv p4, iv p5, iv 4, iv vc0, iv vc1, iv vc2, iv vc3, rv bq35, rv b36, iv (-1), .unset, .unset, .unset] [(.int 63), (.int vc3)])) (fun t k => ?_) ?_
          · show own_S p e below T37 (mkF m 62 #[iv p1, iv p2, iv p3, iv p4, iv p5, iv 4, iv vc0, iv vc1, iv vc2, iv vc3, rv bq35, rv b36, iv (-1), .unset, .unset, .unset] []) _
            refine XS.iload X37.here hx rfl (hb hby at_62) rfl ?_
            refine XS.iconst X37.here hx rfl (hb hby at_64) ?_
            refine XS.icmpNo X37.here hx rfl (hb hby at_65) rfl (tlt (by decide)).2.2.2 ?_
            show own_S p e below T37 (mkF m 68 #[iv p1, iv p2, iv p3, iv p4, iv p5, iv 4, iv vc0, iv vc1, iv vc2, iv vc3, rv bq35, rv b36, iv (-1), .unset, .unset, .unset] []) _
            refine XS.iload X37.here hx rfl (hb hby at_68) rfl ?_
            refine XS.bipush X37.here hx rfl (hb hby at_70) ?_
            exact k
          obtain ⟨z50, hz50⟩ : ∃ q : Int32, q = (if vc3 = (63 : Int32) then (3 : Int32) else (-1 : Int32)) := ⟨_, rfl⟩
          refine own_go (B := T37.setTop (mkF m 78 #[iv p1, iv p2, iv p3, iv p4, iv p5, iv 4, iv vc0, iv vc1, iv vc2, iv vc3, rv bq35, rv b36, iv z50, .unset, .unset, .unset] [])) (fun t k => ?_) ?_
          · by_cases hc72_51 : vc3 = (63 : Int32)
            · rw [show z50 = (3 : Int32) from hz50.trans (by rw [if_pos hc72_51])] at k
              show own_S p e below T37 (mkF m 72 #[iv p1, iv p2, iv p3, iv p4, iv p5, iv 4, iv vc0, iv vc1, iv vc2, iv vc3, rv bq35, rv b36, iv (-1), .unset, .unset, .unset] [(.int 63), (.int vc3)]) _
              refine XS.icmpNo X37.here hx rfl (hb hby at_72) rfl (teq hc72_51).2 ?_
              refine XS.iconst X37.here hx rfl (hb hby at_75) ?_
              refine XS.istore X37.here hx rfl (hb hby at_76) rfl (l' := #[iv p1, iv p2, iv p3, iv p4, iv p5, iv 4, iv vc0, iv vc1, iv vc2, iv vc3, rv bq35, rv b36, iv 3, .unset, .unset, .unset]) rfl ?_
              exact k
            · rw [show z50 = (-1 : Int32) from hz50.trans (by rw [if_neg hc72_51])] at k
              show own_S p e below T37 (mkF m 72 #[iv p1, iv p2, iv p3, iv p4, iv p5, iv 4, iv vc0, iv vc1, iv vc2, iv vc3, rv bq35, rv b36, iv (-1), .unset, .unset, .unset] [(.int 63), (.int vc3)]) _
              refine XS.icmpYes X37.here hx rfl (pc0 := 72) (pc' := 78) rfl (hb hby at_72) rfl (feq hc72_51).2 (by decide) (by decide) ?_
              exact k
          refine own_go (B := T37.setTop (mkF m 151 #[iv p1, iv p2, iv p3, iv p4, iv p5, iv 4, iv vc0, iv vc1, iv vc2, iv vc3, rv bq35, rv b36, iv 2, iv 1, iv 3, .unset] [(.ref b36)])) (fun t k => ?_) ?_
          · show own_S p e below T37 (mkF m 78 #[iv p1, iv p2, iv p3, iv p4, iv p5, iv 4, iv vc0, iv vc1, iv vc2, iv vc3, rv bq35, rv b36, iv z50, .unset, .unset, .unset] []) _
            refine XS.iload X37.here hx rfl (hb hby at_78) rfl ?_
            refine XS.iconst X37.here hx rfl (hb hby at_80) ?_
            refine XS.icmpNo X37.here hx rfl (hb hby at_81) rfl (tlt (by decide)).2.2.2 ?_
            show own_S p e below T37 (mkF m 84 #[iv p1, iv p2, iv p3, iv p4, iv p5, iv 4, iv vc0, iv vc1, iv vc2, iv vc3, rv bq35, rv b36, iv z50, .unset, .unset, .unset] []) _
            refine XS.iload X37.here hx rfl (hb hby at_84) rfl ?_
            refine XS.bipush X37.here hx rfl (hb hby at_86) ?_
            refine XS.icmpNo X37.here hx rfl (hb hby at_88) rfl (teq hq2).2 ?_
            show own_S p e below T37 (mkF m 91 #[iv p1, iv p2, iv p3, iv p4, iv p5, iv 4, iv vc0, iv vc1, iv vc2, iv vc3, rv bq35, rv b36, iv z50, .unset, .unset, .unset] []) _
            refine XS.iconst X37.here hx rfl (hb hby at_91) ?_
            refine XS.istore X37.here hx rfl (hb hby at_92) rfl (l' := #[iv p1, iv p2, iv p3, iv p4, iv p5, iv 4, iv vc0, iv vc1, iv vc2, iv vc3, rv bq35, rv b36, iv 2, .unset, .unset, .unset]) rfl ?_
            refine XS.iload X37.here hx rfl (hb hby at_94) rfl ?_
            show own_S p e below T37 (mkF m 96 #[iv p1, iv p2, iv p3, iv p4, iv p5, iv 4, iv vc0, iv vc1, iv vc2, iv vc3, rv bq35, rv b36, iv 2, .unset, .unset, .unset] [(.int 4)]) _
            refine XS.iconst X37.here hx rfl (hb hby at_96) ?_
            refine XS.icmpNo X37.here hx rfl (hb hby at_97) rfl (tlt (by decide)).2.2.2 ?_
            refine XS.iload X37.here hx rfl (hb hby at_100) rfl ?_
            show own_S p e below T37 (mkF m 102 #[iv p1, iv p2, iv p3, iv p4, iv p5, iv 4, iv vc0, iv vc1, iv vc2, iv vc3, rv bq35, rv b36, iv 2, .unset, .unset, .unset] [(.int vc1)]) _
            refine XS.bipush X37.here hx rfl (hb hby at_102) ?_
            refine XS.icmpYes X37.here hx rfl (pc0 := 104) (pc' := 110) rfl (hb hby at_104) rfl (feq hq1).2 (by decide) (by decide) ?_
            refine XS.iload X37.here hx rfl (hb hby at_110) rfl ?_
            show own_S p e below T37 (mkF m 112 #[iv p1, iv p2, iv p3, iv p4, iv p5, iv 4, iv vc0, iv vc1, iv vc2, iv vc3, rv bq35, rv b36, iv 2, .unset, .unset, .unset] [(.int 4)]) _
            refine XS.ifNo X37.here hx rfl (hb hby at_112) rfl ((if0 _ _).trans (tlt (by decide)).2.2.2) ?_
            refine XS.iload X37.here hx rfl (hb hby at_115) rfl ?_
            refine XS.bipush X37.here hx rfl (hb hby at_117) ?_
            show own_S p e below T37 (mkF m 119 #[iv p1, iv p2, iv p3, iv p4, iv p5, iv 4, iv vc0, iv vc1, iv vc2, iv vc3, rv bq35, rv b36, iv 2, .unset, .unset, .unset] [(.int 63), (.int vc0)]) _
            refine XS.icmpYes X37.here hx rfl (pc0 := 119) (pc' := 125) rfl (hb hby at_119) rfl (feq hq0).2 (by decide) (by decide) ?_
            refine XS.iload X37.here hx rfl (hb hby at_125) rfl ?_
            refine XS.ifYes X37.here hx rfl (pc0 := 127) (pc' := 134) rfl (hb hby at_127) rfl ((if0 _ _).trans (flt (by decide)).2.1) (by decide) (by decide) ?_
            show own_S p e below T37 (mkF m 134 #[iv p1, iv p2, iv p3, iv p4, iv p5, iv 4, iv vc0, iv vc1, iv vc2, iv vc3, rv bq35, rv b36, iv 2, .unset, .unset, .unset] []) _
            refine XS.iload X37.here hx rfl (hb hby at_134) rfl ?_
            refine XS.iload X37.here hx rfl (hb hby at_136) rfl ?_
            refine XS.isub X37.here hx rfl (hb hby at_138) rfl ?_
            show own_S p e below T37 (mkF m 139 #[iv p1, iv p2, iv p3, iv p4, iv p5, iv 4, iv vc0, iv vc1, iv vc2, iv vc3, rv bq35, rv b36, iv 2, .unset, .unset, .unset] [(.int 2)]) _
            refine XS.iconst X37.here hx rfl (hb hby at_139) ?_
            refine XS.isub X37.here hx rfl (hb hby at_140) rfl ?_
            refine XS.istore X37.here hx rfl (hb hby at_141) rfl (l' := #[iv p1, iv p2, iv p3, iv p4, iv p5, iv 4, iv vc0, iv vc1, iv vc2, iv vc3, rv bq35, rv b36, iv 2, iv 1, .unset, .unset]) rfl ?_
            show own_S p e below T37 (mkF m 143 #[iv p1, iv p2, iv p3, iv p4, iv p5, iv 4, iv vc0, iv vc1, iv vc2, iv vc3, rv bq35, rv b36, iv 2, iv 1, .unset, .unset] []) _
            refine XS.iload X37.here hx rfl (hb hby at_143) rfl ?_
            refine XS.iconst X37.here hx rfl (hb hby at_145) ?_
            refine XS.iadd X37.here hx rfl (hb hby at_146) rfl ?_
            show own_S p e below T37 (mkF m 147 #[iv p1, iv p2, iv p3, iv p4, iv p5, iv 4, iv vc0, iv vc1, iv vc2, iv vc3, rv bq35, rv b36, iv 2, iv 1, .unset, .unset] [(.int 3)]) _
            refine XS.istore X37.here hx rfl (hb hby at_147) rfl (l' := #[iv p1, iv p2, iv p3, iv p4, iv p5, iv 4, iv vc0, iv vc1, iv vc2, iv vc3, rv bq35, rv b36, iv 2, iv 1, iv 3, .unset]) rfl ?_
            refine XS.aload X37.here hx rfl (hb hby at_149) rfl rfl ?_
            exact k
          obtain ⟨_, _, ⟨T52, L52, k52, n52⟩, -, X52, ⟨Lc52, hQ52, l52, y52, z52⟩, st52⟩ := Jvm.LawKit.callS X37 hx (y := own_y30) hown (mvT hZ (own_w hw 30 rfl)) (mvT hZ (own_w hw 31 rfl)) (mvT hZ (own_w hw 32 rfl)) (mvT hZ (own_w hw 33 rfl)) (by decide) (backOf (W := 0) (rm6y l Z a0 hw [] b36 (2 : Int32) (1 : Int32) [(.int (own_b vc3))] T37.heap n0 (Nat.le_trans (Nat.le_trans (Nat.le_trans Z0 K35q.1) E36.1) K37q.1) E37q (rm7g l Z a0 hw [] b36 (63 : Int32) bq37 kq37 (4 : Int32) [(.int (own_b vc0)), (.int (own_b vc1)), (.int (own_b vc2)), (.int (own_b vc3))] (2 : Int32) GC T37.heap n0 (Nat.le_trans (Nat.le_trans (Nat.le_trans Z0 K35q.1) E36.1) K37q.1) S_C hGC O37 E37q F37c F37v V37q (rm12_4 l Z a0 hw [] bq37 kq37 (own_b vc0) (own_b vc1) (own_b vc2) (own_b vc3) (2 : Int32) T37.heap n0 (Nat.le_trans (Nat.le_trans (Nat.le_trans Z0 K35q.1) E36.1) K37q.1) V37q (by rw [own_ix4, if_neg (own_nb hcv0 hq0), if_neg (own_nb hcv1 hq1), if_pos (own_yb hq2)]))) (by decide) (rm21g l Z a0 hw [] b36 (3 : Int32) (4 : Int32) bq37 kq37 [(.int (own_b vc0)), (.int (own_b vc1)), (.int (own_b vc2)), (.int (own_b vc3))] [(.int (own_b vc3))] GC GF T37.heap n0 (Nat.le_trans (Nat.le_trans (Nat.le_trans Z0 K35q.1) E36.1) K37q.1) S_C hGC O37 S_F is_GF E37q F37c F37v V37q (by decide) (by decide) (rm25_4_3 l Z a0 hw [] bq37 kq37 (own_b vc0) (own_b vc1) (own_b vc2) (own_b vc3) T37.heap n0 (Nat.le_trans (Nat.le_trans (Nat.le_trans Z0 K35q.1) E36.1) K37q.1) V37q))) hZ (own_w hw 33 rfl) (own_w hw 32 rfl) (by decide) (by decide)) (g := (mkF m 151 #[iv p1, iv p2, iv p3, iv p4, iv p5, iv 4, iv vc0, iv vc1, iv vc2, iv vc3, rv bq35, rv b36, iv 2, iv 1, iv 3, .unset] [(.ref b36)])) rfl (by rw [hml]; rfl) (argsL := [(.ref b36)]) (rest := []) (lenOf own_pd25 rfl) rfl (by show 2 * 0 + _ ≤ _; exact Nat.le_of_eq rfl) (hb hby at_151) (fun _ _ => ⟨rfl, rfl, (by decide : 3 + 2 ≤ _), (by decide : 12 + 8 ≤ _)⟩)
          dsimp only [Pt.U, Pt.locs, Pt.cells, Pt.slots] at X52 l52 y52 z52 st52 hQ52
          subst l52 y52 z52
          obtain ⟨aq52, bq52, kq52, rfl, N52q, K52q, E52q, F52c, F52v, V52q⟩ := hQ52
          have N52 := Fr.app N37 N52q
          have c52_V_bq35 := c37_V_bq35.keep K52q (List.not_mem_nil)
          have c52_E_b36 := E37q.keep K52q
          have c52_F_b36_coder := F37c.keep K52q (List.not_mem_nil)
          have c52_F_b36_value := F37v.keep K52q (List.not_mem_nil)
          have c52_V_bq37 := V37q.keep K52q (List.not_mem_nil)
          have O52 := O37.keep K52q all0
          have K52 := K37.trans K52q all0
          refine own_go (B := T52.setTop (mkF m 154 #[iv p1, iv p2, iv p3, iv p4, iv p5, iv 4, iv vc0, iv vc1, iv vc2, iv vc3, rv bq35, rv b36, iv 2, iv 1, iv 3, .unset] [(.ref aq52)])) (fun t k => st52 _ k) ?_
          refine own_go (B := T52.setTop (mkF m 156 #[iv p1, iv p2, iv p3, iv p4, iv p5, iv 4, iv vc0, iv vc1, iv vc2, iv vc3, rv bq35, rv b36, iv 2, iv 1, iv 3, rv aq52] [])) (fun t k => ?_) ?_
          · show own_S p e below T52 (mkF m 154 #[iv p1, iv p2, iv p3, iv p4, iv p5, iv 4, iv vc0, iv vc1, iv vc2, iv vc3, rv bq35, rv b36, iv 2, iv 1, iv 3, .unset] [(.ref aq52)]) _
            refine XS.astore X52.here hx rfl (hb hby at_154) rfl rfl (l' := #[iv p1, iv p2, iv p3, iv p4, iv p5, iv 4, iv vc0, iv vc1, iv vc2, iv vc3, rv bq35, rv b36, iv 2, iv 1, iv 3, rv aq52]) rfl ?_
            exact k
          exact own_tail p1 p2 p3 p4 p5 (4 : Int32) vc0 vc1 vc2 vc3 (2 : Int32) (1 : Int32) (3 : Int32) bq35 b36 aq52 bq52 kq52 kq35 [(.int (own_b vc3))] [(.int vc0), (.int vc1), (.int vc2), (.int vc3)] (4 : Int32) GC GF X52 hx hZ hw hby hml hown Bd hS rfl N52 (Nat.le_trans (Nat.le_trans (Nat.le_trans (Nat.le_trans Z0 K35q.1) E36.1) K37q.1) K52q.1) (Nat.le_trans (Nat.le_trans (Nat.le_trans (Nat.le_trans (Nat.zero_le _) K35q.1) E36.1) K37q.1) K52q.1) (by decide) (by decide) S_C hGC O52 S_F is_GF E52q F52c F52v V52q c52_V_bq35 (fun _ => ⟨_, _, rfl, by decide, rfl, hrt3⟩) (fun q => absurd q (by decide)) (fun q => absurd q (by decide))
        · by_cases hq3 : vc3 = (63 : Int32)
          · refine own_go (B := T37.setTop (mkF m 151 #[iv p1, iv p2, iv p3, iv p4, iv p5, iv 4, iv vc0, iv vc1, iv vc2, iv vc3, rv bq35, rv b36, iv 3, iv 0, iv 4, .unset] [(.ref b36)])) (fun t k => ?_) ?_
            · show own_S p e below T37 (mkF m 62 #[iv p1, iv p2, iv p3, iv p4, iv p5, iv 4, iv vc0, iv vc1, iv vc2, iv vc3, rv bq35, rv b36, iv (-1), .unset, .unset, .unset] []) _
              refine XS.iload X37.here hx rfl (hb hby at_62) rfl ?_
              refine XS.iconst X37.here hx rfl (hb hby at_64) ?_
              refine XS.icmpNo X37.here hx rfl (hb hby at_65) rfl (tlt (by decide)).2.2.2 ?_
              show own_S p e below T37 (mkF m 68 #[iv p1, iv p2, iv p3, iv p4, iv p5, iv 4, iv vc0, iv vc1, iv vc2, iv vc3, rv bq35, rv b36, iv (-1), .unset, .unset, .unset] []) _
              refine XS.iload X37.here hx rfl (hb hby at_68) rfl ?_
              refine XS.bipush X37.here hx rfl (hb hby at_70) ?_
              refine XS.icmpNo X37.here hx rfl (hb hby at_72) rfl (teq hq3).2 ?_
              show own_S p e below T37 (mkF m 75 #[iv p1, iv p2, iv p3, iv p4, iv p5, iv 4, iv vc0, iv vc1, iv vc2, iv vc3, rv bq35, rv b36, iv (-1), .unset, .unset, .unset] []) _
              refine XS.iconst X37.here hx rfl (hb hby at_75) ?_
              refine XS.istore X37.here hx rfl (hb hby at_76) rfl (l' := #[iv p1, iv p2, iv p3, iv p4, iv p5, iv 4, iv vc0, iv vc1, iv vc2, iv vc3, rv bq35, rv b36, iv 3, .unset, .unset, .unset]) rfl ?_
              refine XS.iload X37.here hx rfl (hb hby at_78) rfl ?_
              show own_S p e below T37 (mkF m 80 #[iv p1, iv p2, iv p3, iv p4, iv p5, iv 4, iv vc0, iv vc1, iv vc2, iv vc3, rv bq35, rv b36, iv 3, .unset, .unset, .unset] [(.int 4)]) _
              refine XS.iconst X37.here hx rfl (hb hby at_80) ?_
              refine XS.icmpNo X37.here hx rfl (hb hby at_81) rfl (tlt (by decide)).2.2.2 ?_
              refine XS.iload X37.here hx rfl (hb hby at_84) rfl ?_
              show own_S p e below T37 (mkF m 86 #[iv p1, iv p2, iv p3, iv p4, iv p5, iv 4, iv vc0, iv vc1, iv vc2, iv vc3, rv bq35, rv b36, iv 3, .unset, .unset, .unset] [(.int vc2)]) _
              refine XS.bipush X37.here hx rfl (hb hby at_86) ?_
              refine XS.icmpYes X37.here hx rfl (pc0 := 88) (pc' := 94) rfl (hb hby at_88) rfl (feq hq2).2 (by decide) (by decide) ?_
              refine XS.iload X37.here hx rfl (hb hby at_94) rfl ?_
              show own_S p e below T37 (mkF m 96 #[iv p1, iv p2, iv p3, iv p4, iv p5, iv 4, iv vc0, iv vc1, iv vc2, iv vc3, rv bq35, rv b36, iv 3, .unset, .unset, .unset] [(.int 4)]) _
              refine XS.iconst X37.here hx rfl (hb hby at_96) ?_
              refine XS.icmpNo X37.here hx rfl (hb hby at_97) rfl (tlt (by decide)).2.2.2 ?_
              refine XS.iload X37.here hx rfl (hb hby at_100) rfl ?_
              show own_S p e below T37 (mkF m 102 #[iv p1, iv p2, iv p3, iv p4, iv p5, iv 4, iv vc0, iv vc1, iv vc2, iv vc3, rv bq35, rv b36, iv 3, .unset, .unset, .unset] [(.int vc1)]) _
              refine XS.bipush X37.here hx rfl (hb hby at_102) ?_
              refine XS.icmpYes X37.here hx rfl (pc0 := 104) (pc' := 110) rfl (hb hby at_104) rfl (feq hq1).2 (by decide) (by decide) ?_
              refine XS.iload X37.here hx rfl (hb hby at_110) rfl ?_
              show own_S p e below T37 (mkF m 112 #[iv p1, iv p2, iv p3, iv p4, iv p5, iv 4, iv vc0, iv vc1, iv vc2, iv vc3, rv bq35, rv b36, iv 3, .unset, .unset, .unset] [(.int 4)]) _
              refine XS.ifNo X37.here hx rfl (hb hby at_112) rfl ((if0 _ _).trans (tlt (by decide)).2.2.2) ?_
              refine XS.iload X37.here hx rfl (hb hby at_115) rfl ?_
              refine XS.bipush X37.here hx rfl (hb hby at_117) ?_
              show own_S p e below T37 (mkF m 119 #[iv p1, iv p2, iv p3, iv p4, iv p5, iv 4, iv vc0, iv vc1, iv vc2, iv vc3, rv bq35, rv b36, iv 3, .unset, .unset, .unset] [(.int 63), (.int vc0)]) _
              refine XS.icmpYes X37.here hx rfl (pc0 := 119) (pc' := 125) rfl (hb hby at_119) rfl (feq hq0).2 (by decide) (by decide) ?_
              refine XS.iload X37.here hx rfl (hb hby at_125) rfl ?_
              refine XS.ifYes X37.here hx rfl (pc0 := 127) (pc' := 134) rfl (hb hby at_127) rfl ((if0 _ _).trans (flt (by decide)).2.1) (by decide) (by decide) ?_
              show own_S p e below T37 (mkF m 134 #[iv p1, iv p2, iv p3, iv p4, iv p5, iv 4, iv vc0, iv vc1, iv vc2, iv vc3, rv bq35, rv b36, iv 3, .unset, .unset, .unset] []) _
              refine XS.iload X37.here hx rfl (hb hby at_134) rfl ?_
              refine XS.iload X37.here hx rfl (hb hby at_136) rfl ?_
              refine XS.isub X37.here hx rfl (hb hby at_138) rfl ?_
              show own_S p e below T37 (mkF m 139 #[iv p1, iv p2, iv p3, iv p4, iv p5, iv 4, iv vc0, iv vc1, iv vc2, iv vc3, rv bq35, rv b36, iv 3, .unset, .unset, .unset] [(.int 1)]) _
              refine XS.iconst X37.here hx rfl (hb hby at_139) ?_
              refine XS.isub X37.here hx rfl (hb hby at_140) rfl ?_
              refine XS.istore X37.here hx rfl (hb hby at_141) rfl (l' := #[iv p1, iv p2, iv p3, iv p4, iv p5, iv 4, iv vc0, iv vc1, iv vc2, iv vc3, rv bq35, rv b36, iv 3, iv 0, .unset, .unset]) rfl ?_
              show own_S p e below T37 (mkF m 143 #[iv p1, iv p2, iv p3, iv p4, iv p5, iv 4, iv vc0, iv vc1, iv vc2, iv vc3, rv bq35, rv b36, iv 3, iv 0, .unset, .unset] []) _
              refine XS.iload X37.here hx rfl (hb hby at_143) rfl ?_
              refine XS.iconst X37.here hx rfl (hb hby at_145) ?_
              refine XS.iadd X37.here hx rfl (hb hby at_146) rfl ?_
              show own_S p e below T37 (mkF m 147 #[iv p1, iv p2, iv p3, iv p4, iv p5, iv 4, iv vc0, iv vc1, iv vc2, iv vc3, rv bq35, rv b36, iv 3, iv 0, .unset, .unset] [(.int 4)]) _
              refine XS.istore X37.here hx rfl (hb hby at_147) rfl (l' := #[iv p1, iv p2, iv p3, iv p4, iv p5, iv 4, iv vc0, iv vc1, iv vc2, iv vc3, rv bq35, rv b36, iv 3, iv 0, iv 4, .unset]) rfl ?_
              refine XS.aload X37.here hx rfl (hb hby at_149) rfl rfl ?_
              exact k
            have Ch53p := CHr.ext (own_ext K37) hCH
            obtain ⟨_, _, ⟨T53, L53, k53, n53⟩, -, X53, hS53, hg53, ⟨Lc53, hQ53, l53, y53, z53, hCr53⟩, st53⟩ := callSS X37 hx (y := own_y30) hown (mvT hZ (own_w hw 30 rfl)) (mvT hZ (own_w hw 31 rfl)) (mvT hZ (own_w hw 32 rfl)) (mvT hZ (own_w hw 33 rfl)) (by decide) (backOfSH (W := 0) (rm6yh l Z a0 hw [] b36 (3 : Int32) (0 : Int32) [] T37.heap n0 (Nat.le_trans (Nat.le_trans (Nat.le_trans Z0 K35q.1) E36.1) K37q.1) E37q (rm7g l Z a0 hw [] b36 (63 : Int32) bq37 kq37 (4 : Int32) [(.int (own_b vc0)), (.int (own_b vc1)), (.int (own_b vc2)), (.int (own_b vc3))] (3 : Int32) GC T37.heap n0 (Nat.le_trans (Nat.le_trans (Nat.le_trans Z0 K35q.1) E36.1) K37q.1) S_C hGC O37 E37q F37c F37v V37q (rm12_4 l Z a0 hw [] bq37 kq37 (own_b vc0) (own_b vc1) (own_b vc2) (own_b vc3) (3 : Int32) T37.heap n0 (Nat.le_trans (Nat.le_trans (Nat.le_trans Z0 K35q.1) E36.1) K37q.1) V37q (by rw [own_ix4, if_neg (own_nb hcv0 hq0), if_neg (own_nb hcv1 hq1), if_neg (own_nb hcv2 hq2), if_pos (own_yb hq3)]))) (by decide) (rm21gh l Z a0 hw [] b36 (4 : Int32) (4 : Int32) bq37 kq37 [(.int (own_b vc0)), (.int (own_b vc1)), (.int (own_b vc2)), (.int (own_b vc3))] [] GC GF T37.heap n0 (Nat.le_trans (Nat.le_trans (Nat.le_trans Z0 K35q.1) E36.1) K37q.1) S_C hGC O37 S_F is_GF E37q F37c F37v V37q (by decide) (by decide) (rm25_4_4 l Z a0 hw [] bq37 kq37 (own_b vc0) (own_b vc1) (own_b vc2) (own_b vc3) T37.heap n0 (Nat.le_trans (Nat.le_trans (Nat.le_trans Z0 K35q.1) E36.1) K37q.1) V37q))) hZ (own_w hw 33 rfl) (own_w hw 32 rfl) (by decide) (by decide) (own_hEL hw) Ch53p.1) (g := (mkF m 151 #[iv p1, iv p2, iv p3, iv p4, iv p5, iv 4, iv vc0, iv vc1, iv vc2, iv vc3, rv bq35, rv b36, iv 3, iv 0, iv 4, .unset] [(.ref b36)])) rfl (by rw [hml]; rfl) (argsL := [(.ref b36)]) (rest := []) (lenOf own_pd25 rfl) rfl (by show 2 * 0 + _ ≤ _; exact Nat.le_of_eq rfl) (hb hby at_151) (fun _ _ => ⟨rfl, rfl, (by decide : 3 + 2 ≤ _), (by decide : 12 + 8 ≤ _)⟩)
            dsimp only [Pt.U, Pt.locs, Pt.cells, Pt.slots] at X53 l53 y53 z53 st53 hQ53 hS53 hg53 hCr53
            subst l53 y53 z53
            have hS := hS.trans hS53 (Nat.le_trans (Nat.le_trans (Nat.le_trans (Nat.le_trans (Nat.zero_le _) K35q.1) E36.1) K37q.1) (Nat.le_trans (Nat.le_of_eq (congrArg Array.size rfl.symm)) hg53))
            have hZ : Z.Warmed39 (s.setVm T53.vm).vm := State.Warmed39.trans hZ hS53.1
            have hown : (s.setVm T53.vm).vm.findClass "com/example/arcas/arcas/http/RequestLineQueryPinLaw" = some m.cls := (hS53.1.alike.findClass _ _).trans hown
            obtain ⟨aq53, bq53, kq53, rfl, N53q, K53q, E53q, F53c, F53v, V53q⟩ := hQ53
            have N53 := Fr.app N37 N53q
            have c53_V_bq35 := c37_V_bq35.keep K53q (List.not_mem_nil)
            have c53_E_b36 := E37q.keep K53q
            have c53_F_b36_coder := F37c.keep K53q (List.not_mem_nil)
            have c53_F_b36_value := F37v.keep K53q (List.not_mem_nil)
            have c53_V_bq37 := V37q.keep K53q (List.not_mem_nil)
            have O53 := O37.keep K53q all0
            have K53 := K37.trans K53q all0
            have Ch53 := Ch53p.trans hCr53
            refine own_go (B := T53.setTop (mkF m 154 #[iv p1, iv p2, iv p3, iv p4, iv p5, iv 4, iv vc0, iv vc1, iv vc2, iv vc3, rv bq35, rv b36, iv 3, iv 0, iv 4, .unset] [(.ref aq53)])) (fun t k => st53.trans k) ?_
            refine own_go (B := T53.setTop (mkF m 156 #[iv p1, iv p2, iv p3, iv p4, iv p5, iv 4, iv vc0, iv vc1, iv vc2, iv vc3, rv bq35, rv b36, iv 3, iv 0, iv 4, rv aq53] [])) (fun t k => ?_) ?_
            · show own_S p e below T53 (mkF m 154 #[iv p1, iv p2, iv p3, iv p4, iv p5, iv 4, iv vc0, iv vc1, iv vc2, iv vc3, rv bq35, rv b36, iv 3, iv 0, iv 4, .unset] [(.ref aq53)]) _
              refine XS.astore X53.here hx rfl (hb hby at_154) rfl rfl (l' := #[iv p1, iv p2, iv p3, iv p4, iv p5, iv 4, iv vc0, iv vc1, iv vc2, iv vc3, rv bq35, rv b36, iv 3, iv 0, iv 4, rv aq53]) rfl ?_
              exact k
            exact own_tail p1 p2 p3 p4 p5 (4 : Int32) vc0 vc1 vc2 vc3 (3 : Int32) (0 : Int32) (4 : Int32) bq35 b36 aq53 bq53 kq53 kq35 [] [(.int vc0), (.int vc1), (.int vc2), (.int vc3)] (4 : Int32) GC GF X53 hx hZ hw hby hml hown Bd hS rfl N53 (Nat.le_trans (Nat.le_trans (Nat.le_trans (Nat.le_trans Z0 K35q.1) E36.1) K37q.1) K53q.1) (Nat.le_refl _) (by decide) (by decide) S_C hGC O53 S_F is_GF E53q F53c F53v V53q c53_V_bq35 (fun q => absurd q (by decide)) (fun q => absurd q (by decide)) (fun q => absurd q (by decide))
          · refine own_go (B := T37.setTop (mkF m 151 #[iv p1, iv p2, iv p3, iv p4, iv p5, iv 4, iv vc0, iv vc1, iv vc2, iv vc3, rv bq35, rv b36, iv (-1), iv 0, iv 0, .unset] [(.ref b36)])) (fun t k => ?_) ?_
            · show own_S p e below T37 (mkF m 62 #[iv p1, iv p2, iv p3, iv p4, iv p5, iv 4, iv vc0, iv vc1, iv vc2, iv vc3, rv bq35, rv b36, iv (-1), .unset, .unset, .unset] []) _
              refine XS.iload X37.here hx rfl (hb hby at_62) rfl ?_
              refine XS.iconst X37.here hx rfl (hb hby at_64) ?_
              refine XS.icmpNo X37.here hx rfl (hb hby at_65) rfl (tlt (by decide)).2.2.2 ?_
              show own_S p e below T37 (mkF m 68 #[iv p1, iv p2, iv p3, iv p4, iv p5, iv 4, iv vc0, iv vc1, iv vc2, iv vc3, rv bq35, rv b36, iv (-1), .unset, .unset, .unset] []) _
              refine XS.iload X37.here hx rfl (hb hby at_68) rfl ?_
              refine XS.bipush X37.here hx rfl (hb hby at_70) ?_
              refine XS.icmpYes X37.here hx rfl (pc0 := 72) (pc' := 78) rfl (hb hby at_72) rfl (feq hq3).2 (by decide) (by decide) ?_
              show own_S p e below T37 (mkF m 78 #[iv p1, iv p2, iv p3, iv p4, iv p5, iv 4, iv vc0, iv vc1, iv vc2, iv vc3, rv bq35, rv b36, iv (-1), .unset, .unset, .unset] []) _
              refine XS.iload X37.here hx rfl (hb hby at_78) rfl ?_
              refine XS.iconst X37.here hx rfl (hb hby at_80) ?_
              refine XS.icmpNo X37.here hx rfl (hb hby at_81) rfl (tlt (by decide)).2.2.2 ?_
              show own_S p e below T37 (mkF m 84 #[iv p1, iv p2, iv p3, iv p4, iv p5, iv 4, iv vc0, iv vc1, iv vc2, iv vc3, rv bq35, rv b36, iv (-1), .unset, .unset, .unset] []) _
              refine XS.iload X37.here hx rfl (hb hby at_84) rfl ?_
              refine XS.bipush X37.here hx rfl (hb hby at_86) ?_
              refine XS.icmpYes X37.here hx rfl (pc0 := 88) (pc' := 94) rfl (hb hby at_88) rfl (feq hq2).2 (by decide) (by decide) ?_
              show own_S p e below T37 (mkF m 94 #[iv p1, iv p2, iv p3, iv p4, iv p5, iv 4, iv vc0, iv vc1, iv vc2, iv vc3, rv bq35, rv b36, iv (-1), .unset, .unset, .unset] []) _
              refine XS.iload X37.here hx rfl (hb hby at_94) rfl ?_
              refine XS.iconst X37.here hx rfl (hb hby at_96) ?_
              refine XS.icmpNo X37.here hx rfl (hb hby at_97) rfl (tlt (by decide)).2.2.2 ?_
              show own_S p e below T37 (mkF m 100 #[iv p1, iv p2, iv p3, iv p4, iv p5, iv 4, iv vc0, iv vc1, iv vc2, iv vc3, rv bq35, rv b36, iv (-1), .unset, .unset, .unset] []) _
              refine XS.iload X37.here hx rfl (hb hby at_100) rfl ?_
              refine XS.bipush X37.here hx rfl (hb hby at_102) ?_
              refine XS.icmpYes X37.here hx rfl (pc0 := 104) (pc' := 110) rfl (hb hby at_104) rfl (feq hq1).2 (by decide) (by decide) ?_
              show own_S p e below T37 (mkF m 110 #[iv p1, iv p2, iv p3, iv p4, iv p5, iv 4, iv vc0, iv vc1, iv vc2, iv vc3, rv bq35, rv b36, iv (-1), .unset, .unset, .unset] []) _
              refine XS.iload X37.here hx rfl (hb hby at_110) rfl ?_
              refine XS.ifNo X37.here hx rfl (hb hby at_112) rfl ((if0 _ _).trans (tlt (by decide)).2.2.2) ?_
              refine XS.iload X37.here hx rfl (hb hby at_115) rfl ?_
              show own_S p e below T37 (mkF m 117 #[iv p1, iv p2, iv p3, iv p4, iv p5, iv 4, iv vc0, iv vc1, iv vc2, iv vc3, rv bq35, rv b36, iv (-1), .unset, .unset, .unset] [(.int vc0)]) _
              refine XS.bipush X37.here hx rfl (hb hby at_117) ?_
              refine XS.icmpYes X37.here hx rfl (pc0 := 119) (pc' := 125) rfl (hb hby at_119) rfl (feq hq0).2 (by decide) (by decide) ?_
              refine XS.iload X37.here hx rfl (hb hby at_125) rfl ?_
              show own_S p e below T37 (mkF m 127 #[iv p1, iv p2, iv p3, iv p4, iv p5, iv 4, iv vc0, iv vc1, iv vc2, iv vc3, rv bq35, rv b36, iv (-1), .unset, .unset, .unset] [(.int (-1))]) _
              refine XS.ifNo X37.here hx rfl (hb hby at_127) rfl ((if0 _ _).trans (tlt (by decide)).2.1) ?_
              refine XS.iconst X37.here hx rfl (hb hby at_130) ?_
              refine XS.goto X37.here hx rfl (pc0 := 131) (pc' := 141) rfl (hb hby at_131) (by decide) (by decide) ?_
              show own_S p e below T37 (mkF m 141 #[iv p1, iv p2, iv p3, iv p4, iv p5, iv 4, iv vc0, iv vc1, iv vc2, iv vc3, rv bq35, rv b36, iv (-1), .unset, .unset, .unset] [(.int 0)]) _
              refine XS.istore X37.here hx rfl (hb hby at_141) rfl (l' := #[iv p1, iv p2, iv p3, iv p4, iv p5, iv 4, iv vc0, iv vc1, iv vc2, iv vc3, rv bq35, rv b36, iv (-1), iv 0, .unset, .unset]) rfl ?_
              refine XS.iload X37.here hx rfl (hb hby at_143) rfl ?_
              refine XS.iconst X37.here hx rfl (hb hby at_145) ?_
              show own_S p e below T37 (mkF m 146 #[iv p1, iv p2, iv p3, iv p4, iv p5, iv 4, iv vc0, iv vc1, iv vc2, iv vc3, rv bq35, rv b36, iv (-1), iv 0, .unset, .unset] [(.int 1), (.int (-1))]) _
              refine XS.iadd X37.here hx rfl (hb hby at_146) rfl ?_
              refine XS.istore X37.here hx rfl (hb hby at_147) rfl (l' := #[iv p1, iv p2, iv p3, iv p4, iv p5, iv 4, iv vc0, iv vc1, iv vc2, iv vc3, rv bq35, rv b36, iv (-1), iv 0, iv 0, .unset]) rfl ?_
              refine XS.aload X37.here hx rfl (hb hby at_149) rfl rfl ?_
              exact k
            have Ch54p := CHr.ext (own_ext K37) hCH
            obtain ⟨_, _, ⟨T54, L54, k54, n54⟩, -, X54, hS54, hg54, ⟨Lc54, hQ54, l54, y54, z54, hCr54⟩, st54⟩ := callSS X37 hx (y := own_y30) hown (mvT hZ (own_w hw 30 rfl)) (mvT hZ (own_w hw 31 rfl)) (mvT hZ (own_w hw 32 rfl)) (mvT hZ (own_w hw 33 rfl)) (by decide) (backOfSH (W := 0) (rm6n l Z a0 hw [] b36 (-1 : Int32) T37.heap n0 (Nat.le_trans (Nat.le_trans (Nat.le_trans Z0 K35q.1) E36.1) K37q.1) E37q (rm7g l Z a0 hw [] b36 (63 : Int32) bq37 kq37 (4 : Int32) [(.int (own_b vc0)), (.int (own_b vc1)), (.int (own_b vc2)), (.int (own_b vc3))] (-1 : Int32) GC T37.heap n0 (Nat.le_trans (Nat.le_trans (Nat.le_trans Z0 K35q.1) E36.1) K37q.1) S_C hGC O37 E37q F37c F37v V37q (rm12_4 l Z a0 hw [] bq37 kq37 (own_b vc0) (own_b vc1) (own_b vc2) (own_b vc3) (-1 : Int32) T37.heap n0 (Nat.le_trans (Nat.le_trans (Nat.le_trans Z0 K35q.1) E36.1) K37q.1) V37q (by rw [own_ix4, if_neg (own_nb hcv0 hq0), if_neg (own_nb hcv1 hq1), if_neg (own_nb hcv2 hq2), if_neg (own_nb hcv3 hq3)]))) (by decide)) hZ (own_w hw 33 rfl) (own_w hw 32 rfl) (by decide) (by decide) (own_hEL hw) Ch54p.1) (g := (mkF m 151 #[iv p1, iv p2, iv p3, iv p4, iv p5, iv 4, iv vc0, iv vc1, iv vc2, iv vc3, rv bq35, rv b36, iv (-1), iv 0, iv 0, .unset] [(.ref b36)])) rfl (by rw [hml]; rfl) (argsL := [(.ref b36)]) (rest := []) (lenOf own_pd25 rfl) rfl (by show 2 * 0 + _ ≤ _; exact Nat.le_of_eq rfl) (hb hby at_151) (fun _ _ => ⟨rfl, rfl, (by decide : 3 + 2 ≤ _), (by decide : 12 + 8 ≤ _)⟩)
            dsimp only [Pt.U, Pt.locs, Pt.cells, Pt.slots] at X54 l54 y54 z54 st54 hQ54 hS54 hg54 hCr54
            subst l54 y54 z54
            have hS := hS.trans hS54 (Nat.le_trans (Nat.le_trans (Nat.le_trans (Nat.le_trans (Nat.zero_le _) K35q.1) E36.1) K37q.1) (Nat.le_trans (Nat.le_of_eq (congrArg Array.size rfl.symm)) hg54))
            have hZ : Z.Warmed39 (s.setVm T54.vm).vm := State.Warmed39.trans hZ hS54.1
            have hown : (s.setVm T54.vm).vm.findClass "com/example/arcas/arcas/http/RequestLineQueryPinLaw" = some m.cls := (hS54.1.alike.findClass _ _).trans hown
            obtain ⟨aq54, bq54, kq54, rfl, N54q, K54q, E54q, F54c, F54v, V54q⟩ := hQ54
            have N54 := Fr.app N37 N54q
            have c54_V_bq35 := c37_V_bq35.keep K54q (List.not_mem_nil)
            have c54_E_b36 := E37q.keep K54q
            have c54_F_b36_coder := F37c.keep K54q (List.not_mem_nil)
            have c54_F_b36_value := F37v.keep K54q (List.not_mem_nil)
            have c54_V_bq37 := V37q.keep K54q (List.not_mem_nil)
            have O54 := O37.keep K54q all0
            have K54 := K37.trans K54q all0
            have Ch54 := Ch54p.trans hCr54
            refine own_go (B := T54.setTop (mkF m 154 #[iv p1, iv p2, iv p3, iv p4, iv p5, iv 4, iv vc0, iv vc1, iv vc2, iv vc3, rv bq35, rv b36, iv (-1), iv 0, iv 0, .unset] [(.ref aq54)])) (fun t k => st54.trans k) ?_
            refine own_go (B := T54.setTop (mkF m 156 #[iv p1, iv p2, iv p3, iv p4, iv p5, iv 4, iv vc0, iv vc1, iv vc2, iv vc3, rv bq35, rv b36, iv (-1), iv 0, iv 0, rv aq54] [])) (fun t k => ?_) ?_
            · show own_S p e below T54 (mkF m 154 #[iv p1, iv p2, iv p3, iv p4, iv p5, iv 4, iv vc0, iv vc1, iv vc2, iv vc3, rv bq35, rv b36, iv (-1), iv 0, iv 0, .unset] [(.ref aq54)]) _
              refine XS.astore X54.here hx rfl (hb hby at_154) rfl rfl (l' := #[iv p1, iv p2, iv p3, iv p4, iv p5, iv 4, iv vc0, iv vc1, iv vc2, iv vc3, rv bq35, rv b36, iv (-1), iv 0, iv 0, rv aq54]) rfl ?_
              exact k
            exact own_tail p1 p2 p3 p4 p5 (4 : Int32) vc0 vc1 vc2 vc3 (-1 : Int32) (0 : Int32) (0 : Int32) bq35 b36 aq54 bq54 kq54 kq35 [] [(.int vc0), (.int vc1), (.int vc2), (.int vc3)] (4 : Int32) GC GF X54 hx hZ hw hby hml hown Bd hS rfl N54 (Nat.le_trans (Nat.le_trans (Nat.le_trans (Nat.le_trans Z0 K35q.1) E36.1) K37q.1) K54q.1) (Nat.le_refl _) (by decide) (by decide) S_C hGC O54 S_F is_GF E54q F54c F54v V54q c54_V_bq35 (fun q => absurd q (by decide)) (fun q => absurd q (by decide)) (fun q => absurd q (by decide))
set_option maxRecDepth 65536 in
set_option maxHeartbeats 40000000 in
theorem comes_1 {Post : Tables → Env → Array Value → State → Outcome → State → Prop} (hpost : ∀ tb e args s v u, (limb_1_1.after args s (.returned v) u = true ∧ limb_1_2.after args s (.returned v) u = true ∧ True) → ReturnedEndW s (.returned v) u (Jvm.fieldLocs frame_1_writes args s ++ Jvm.arrayLocs frame_1_arrays args s ++ Jvm.staticLocs frame_1_statics s) 24 3200 → Post tb e args s (.returned v) u) :
    ArmFor flags0 classFile x code maxLocals ret World_1 tables_1 room_1 Calls_1 rest_1 Pre_1 Post := by
  intro l hfl _ _ p e ha hc hk s m args below hf hA hF happ hP
  obtain ⟨hcalls, hrest, hpre⟩ := hP
  obtain ⟨-, -, -, hnamed, -, -, -, hat⟩ := (Spec.applies_iff hf).mp happ
  obtain ⟨hg, hn⟩ := and_e (Cond.before_iff.mp (show (Jvm.Cond.and given_1 narrow_1).before args s = true from hpre))
  obtain ⟨gc, ga0⟩ := and_e hg
  obtain ⟨ha0, ga1⟩ := and_e ga0
  obtain ⟨ha1, ga2⟩ := and_e ga1
  obtain ⟨ha2, ga3⟩ := and_e ga2
  obtain ⟨ha3, ga4⟩ := and_e ga3
  obtain ⟨w0, w1, w2, w3, w4, rfl⟩ : ∃ w0 w1 w2 w3 w4 : Value, args = #[w0, w1, w2, w3, w4] := by
    have hs : args.size = 5 := by simpa [Cond.value, given_1] using gc
    obtain ⟨L⟩ := args
    match L, hs with
    | [w0, w1, w2, w3, w4], _ => exact ⟨w0, w1, w2, w3, w4, rfl⟩
  have hw := fun d (hd : d ∈ tables_1) => atoms_spec (ws := Jvm.Cond.code x code maxLocals ret :: tables_1) hat d (List.mem_cons_of_mem _ hd)
  have hfit : Fit s := fun {y c} hc i hi => by
    obtain ⟨ha, rfl⟩ := Array.getElem?_eq_some_iff.mp hc
    have q := List.all_eq_true.mp ((Array.all_eq_true_iff_forall_mem.mp hF) _ (Array.getElem_mem ha)) i (List.mem_range.mpr hi)
    simpa [Array.getElem?_eq_getElem hi] using q
  obtain ⟨hsets, hown0⟩ := atoms_of _ (rest_1_c_eq ▸ (show rest_1_c.before _ s = true from hrest))
  have hr0 := Cond.before_iff.mp hown0
  obtain ⟨i0, ei0⟩ := is_v ha0
  obtain rfl : w0 = (.int i0) := Option.some.inj ei0
  obtain ⟨i1, ei1⟩ := is_v ha1
  obtain rfl : w1 = (.int i1) := Option.some.inj ei1
  obtain ⟨i2, ei2⟩ := is_v ha2
  obtain rfl : w2 = (.int i2) := Option.some.inj ei2
  obtain ⟨i3, ei3⟩ := is_v ha3
  obtain rfl : w3 = (.int i3) := Option.some.inj ei3
  obtain ⟨i4, ei4⟩ := is_v ga4
  obtain rfl : w4 = (.int i4) := Option.some.inj ei4
  obtain ⟨GC, eGC⟩ := is_v (Cond.before_iff.mp (hsets _ (List.mem_of_getElem? (i := 1) rfl)))
  have S_C : Sta s s.heap "java/lang/String" "COMPACT_STRINGS" "Z" (.int GC) := Sta.start eGC (Or.inl (hsets _ (List.mem_of_getElem? (i := 0) rfl)))
  have hGC : ¬ (GC = (0 : Int32)) := gotF (Cond.eq_ints eGC (Term.int_eval (0))) (not_v (Cond.before_iff.mp (hsets _ (List.mem_of_getElem? (i := 2) rfl))))
  obtain ⟨GF, eGF, is_GF⟩ := isR_v (Cond.before_iff.mp (hsets _ (List.mem_of_getElem? (i := 8) rfl)))
  have S_F : Sta s s.heap "jdk/internal/util/Preconditions" "SIOOBE_FORMATTER" "Ljava/util/function/BiFunction;" GF := Sta.start eGF (Or.inl (hsets _ (List.mem_of_getElem? (i := 7) rfl)))
  have hCH : CHv s consts_1 s.vm s.heap := CHv.start (own_hEL hw) hcalls.1 (hsets _ (List.mem_of_getElem? (i := 2) rfl)) (own_w hw 23 rfl) (own_w hw 10 rfl)
  obtain ⟨n, o, h1, h2, h3, _, L, rfl, ⟨rfl, N⟩, hq⟩ := rm0 l s _ hw tables_1 i0 i1 i2 i3 i4 GC GF s.heap s.heap.size (Nat.le_refl _) S_C hGC (Old.start s) S_F is_GF p e ha hc hk s m _ below hf ((Spec.applies_iff_loose hf).mp happ).1 ⟨rfl, State.Warmed39.refl s, rfl, hCH⟩ trivial
  refine ⟨n, _, h1, h2, h3, hpost _ _ _ _ _ _ ⟨Cond.after_iff.mpr rfl, Cond.after_iff.mpr (eq_i res_at (Term.int_eval (1)) rfl), trivial⟩ ⟨hq.1, hq.2.1, hq.2.2.1, (hq.2.2.2.sift fun y hy => Or.inr (N y hy)).mono (by decide) (by decide)⟩⟩
theorem main_1_1 : Claimed_1_1 := comes_1 fun _ _ _ _ _ _ h hF => ⟨h.1, hF⟩
theorem main_1_2 : Claimed_1_2 := comes_1 fun _ _ _ _ _ _ h hF => ⟨h.2.1, hF⟩
end Jvm.Pilot.@@N@@
namespace Jvm.Pilot.@@N@@
open Jvm Jvm.ClassFile Sem Op Lib Jvm.Free Jvm.Stand Jvm.Pilot.@@N@@.Jvm.D
/-! MADE BY PROGRAM (witnessworld.py) out of the Statement's table words and the real class files: 23 classes; the members and pool entries that the words name. The judged class is class 1, her method 4. -/
namespace start1
open Jvm.ClassFile
def u (s : String) : CpInfo := .utf8 (stringToUtf16 s)
/-- a pool by its gaps: so many unusable entries, then the entry; so many at the end -/
def gap : Nat → List CpInfo → List CpInfo
  | 0, r => r
  | n + 1, r => .unusable :: gap n r
def poolList (es : List (Nat × CpInfo)) (last : Nat) : List CpInfo := es.foldr (fun e r => gap e.1 (e.2 :: r)) (gap last [])
def pool (es : List (Nat × CpInfo)) (last : Nat) : Array CpInfo := ⟨poolList es last⟩
def fileOf (pool : Array CpInfo) (this : Nat) (attrs : Array Attribute := #[]) (ms : Array MethodInfo := #[]) (fl : Nat := 33) (sup : Nat := 0) (ifs : Array Nat := #[]) (fds : Array FieldInfo := #[]) : ClassFile where
  minorVersion := 0
  majorVersion := 65
  constantPool := pool
  accessFlags := fl
  thisClass := this
  superClass := sup
  interfaces := ifs
  fields := fds
  methods := ms
  attributes := attrs
def plain (name : String) (sup : Option ClassId) : Class where
  name := name
  kind := .ordinary
  loader := none
  accessFlags := 33
  super := sup
  interfaces := #[]
  cf := none
  fields := #[]
  methods := #[]
  instanceTypes := #[]
  staticTypes := #[]
  resolved := #[]
  callSites := []
  init := .initialized
  statics := none
  mirror := none

def pool0 : Array CpInfo := pool [(5, u "<init>"), (0, u "()V"), (1, .class_ 10), (1, u "java/lang/Object")] 113

def k0c0 : Code := { maxStack := 0, maxLocals := 1, code := object_method_1_code, exceptionTable := #[], attributes := #[] }
def k0m0 : Method := { name := "<init>", desc := "()V", sig := { parameters := [], returnType := none }, accessFlags := 1, code := some k0c0 }
/-- java/lang/Object -/
def k0 : Class := { plain "java/lang/Object" none with
  accessFlags := 33
  interfaces := #[]
  cf := some (fileOf pool0 8 #[] #[{ accessFlags := 1, nameIndex := 5, descriptorIndex := 6, attributes := #[] }] 33 0 #[] #[])
  fields := #[]
  methods := #[k0m0]
  instanceTypes := #[]
  staticTypes := #[]
  resolved := Array.replicate 124 none
  statics := none }

def pool1 : Array CpInfo := pool [(2, .class_ 4), (1, u "java/lang/Object"), (0, u "<init>"), (0, u "()V"), (0, .methodref 8 9), (0, .class_ 10), (0, .nameAndType 11 12), (0, u "java/lang/String"), (0, u "charAt"), (0, u "(I)C"), (0, .integer 2147483647), (0, .methodref 15 16), (0, .class_ 17), (0, .nameAndType 18 12), (0, u "com/example/arcas/arcas/http/RequestLineQueryPinLaw"), (0, u "ch"), (0, .methodref 15 20), (0, .nameAndType 21 22), (0, u "take"), (0, u "(ICCCC)[C"), (0, .methodref 8 24), (0, .nameAndType 5 25), (0, u "([C)V"), (0, .methodref 27 28), (0, .class_ 29), (0, .nameAndType 30 31), (0, u "com/example/arcas/arcas/http/RequestLine"), (0, u "query"), (0, u "(Ljava/lang/String;)Ljava/lang/String;"), (0, .methodref 8 33), (0, .nameAndType 34 35), (0, u "length"), (0, u "()I"), (0, .methodref 15 37), (0, .nameAndType 38 39), (0, u "at"), (0, u "(Ljava/lang/String;I[CII)Z"), (3, u "law"), (0, u "(IIIII)Z")] 4

def k1m0 : Method := { name := "<init>", desc := "()V", sig := { parameters := [], returnType := none }, accessFlags := 1, code := none }
def k1c1 : Code := { maxStack := 2, maxLocals := 1, code := method_2_code, exceptionTable := #[], attributes := #[] }
def k1m1 : Method := { name := "ch", desc := "(I)C", sig := { parameters := [.int], returnType := some .char }, accessFlags := 10, code := some k1c1 }
def k1c2 : Code := { maxStack := 4, maxLocals := 5, code := method_3_code, exceptionTable := #[], attributes := #[] }
def k1m2 : Method := { name := "take", desc := "(ICCCC)[C", sig := { parameters := [.int, .char, .char, .char, .char], returnType := some (.array .char) }, accessFlags := 10, code := some k1c2 }
def k1c3 : Code := { maxStack := 4, maxLocals := 5, code := method_4_code, exceptionTable := #[], attributes := #[] }
def k1m3 : Method := { name := "at", desc := "(Ljava/lang/String;I[CII)Z", sig := { parameters := [(.object "java/lang/String"), .int, (.array .char), .int, .int], returnType := some .boolean }, accessFlags := 10, code := some k1c3 }
def k1c4 : Code := { maxStack := 5, maxLocals := 16, code := code, exceptionTable := #[], attributes := #[] }
def k1m4 : Method := { name := "law", desc := "(IIIII)Z", sig := { parameters := [.int, .int, .int, .int, .int], returnType := some .boolean }, accessFlags := 9, code := some k1c4 }
/-- com/example/arcas/arcas/http/RequestLineQueryPinLaw -/
def k1 : Class := { plain "com/example/arcas/arcas/http/RequestLineQueryPinLaw" (some 0) with
  accessFlags := 49
  interfaces := #[]
  cf := some (fileOf pool1 15 #[] #[{ accessFlags := 1, nameIndex := 5, descriptorIndex := 6, attributes := #[] }, { accessFlags := 10, nameIndex := 18, descriptorIndex := 12, attributes := #[] }, { accessFlags := 10, nameIndex := 21, descriptorIndex := 22, attributes := #[] }, { accessFlags := 10, nameIndex := 38, descriptorIndex := 39, attributes := #[] }, { accessFlags := 9, nameIndex := 43, descriptorIndex := 44, attributes := #[] }] 49 2 #[] #[])
  fields := #[]
  methods := #[k1m0, k1m1, k1m2, k1m3, k1m4]
  instanceTypes := #[]
  staticTypes := #[]
  resolved := Array.replicate 49 none
  statics := none }

def pool2 : Array CpInfo := pool [(1, .class_ 2), (0, u "java/io/Serializable"), (0, .class_ 4), (0, u "java/lang/Object")] 2

/-- java/io/Serializable -/
def k2 : Class := { plain "java/io/Serializable" (some 0) with
  accessFlags := 1537
  interfaces := #[]
  cf := some (fileOf pool2 1 #[] #[] 1537 3 #[] #[])
  fields := #[]
  methods := #[]
  instanceTypes := #[]
  staticTypes := #[]
  resolved := Array.replicate 7 none
  statics := none }

def pool3 : Array CpInfo := pool [(1, .class_ 2), (0, u "java/lang/Comparable"), (0, .class_ 4), (0, u "java/lang/Object")] 7

/-- java/lang/Comparable -/
def k3 : Class := { plain "java/lang/Comparable" (some 0) with
  accessFlags := 1537
  interfaces := #[]
  cf := some (fileOf pool3 1 #[] #[] 1537 3 #[] #[])
  fields := #[]
  methods := #[]
  instanceTypes := #[]
  staticTypes := #[]
  resolved := Array.replicate 12 none
  statics := none }

def pool4 : Array CpInfo := pool [(2, .class_ 4), (1, u "java/lang/CharSequence"), (42, .class_ 48), (0, u "java/lang/CharSequence$1CodePointIterator"), (10, .class_ 60), (0, u "java/lang/CharSequence$1CharIterator"), (5, .class_ 67), (0, u "java/lang/Object")] 63

/-- java/lang/CharSequence -/
def k4 : Class := { plain "java/lang/CharSequence" (some 0) with
  accessFlags := 1537
  interfaces := #[]
  cf := some (fileOf pool4 2 #[.nestMembers #[47, 59]] #[] 1537 66 #[] #[])
  fields := #[]
  methods := #[]
  instanceTypes := #[]
  staticTypes := #[]
  resolved := Array.replicate 131 none
  statics := none }

def pool5 : Array CpInfo := pool [(1, .class_ 2), (0, u "java/lang/constant/Constable"), (0, .class_ 4), (0, u "java/lang/Object")] 6

/-- java/lang/constant/Constable -/
def k5 : Class := { plain "java/lang/constant/Constable" (some 0) with
  accessFlags := 1537
  interfaces := #[]
  cf := some (fileOf pool5 1 #[] #[] 1537 3 #[] #[])
  fields := #[]
  methods := #[]
  instanceTypes := #[]
  staticTypes := #[]
  resolved := Array.replicate 11 none
  statics := none }

def pool6 : Array CpInfo := pool [(1, .class_ 2), (0, u "java/lang/constant/ConstantDesc"), (0, .class_ 4), (0, u "java/lang/Object")] 32

/-- java/lang/constant/ConstantDesc -/
def k6 : Class := { plain "java/lang/constant/ConstantDesc" (some 0) with
  accessFlags := 1537
  interfaces := #[]
  cf := some (fileOf pool6 1 #[] #[] 1537 3 #[] #[])
  fields := #[]
  methods := #[]
  instanceTypes := #[]
  staticTypes := #[]
  resolved := Array.replicate 37 none
  statics := none }

def pool7 : Array CpInfo := pool [(1, .methodref 2 3), (0, .class_ 4), (0, .nameAndType 5 6), (0, u "java/lang/Object"), (0, u "<init>"), (0, u "()V"), (0, .string 8), (0, u ""), (0, .fieldref 10 11), (0, .class_ 12), (0, .nameAndType 13 14), (0, u "java/lang/String"), (0, u "value"), (0, u "[B"), (0, .fieldref 10 16), (0, .nameAndType 17 18), (0, u "coder"), (0, u "B"), (2, u "hash"), (0, u "I"), (2, u "hashIsZero"), (0, u "Z"), (0, .methodref 10 28), (0, .nameAndType 5 29), (0, u "([CIILjava/lang/Void;)V"), (8, .fieldref 10 39), (0, .nameAndType 40 26), (0, u "COMPACT_STRINGS"), (1, .class_ 44), (1, u "java/lang/StringUTF16"), (0, u "compress"), (1, .methodref 42 48), (0, .nameAndType 49 50), (0, u "coderFromArrayLen"), (0, u "([BI)B"), (56, .class_ 109), (1, u "java/lang/StringLatin1"), (32, u "()Z"), (34, .methodref 42 178), (0, .nameAndType 45 179), (0, u "([CII)[B"), (31, u "([BB)V"), (122, u "()I"), (0, .methodref 10 336), (0, .nameAndType 17 337), (0, u "()B"), (25, u "([BI)C"), (27, u "(II)V"), (35, u "(I)C"), (64, .methodref 10 493), (0, .nameAndType 494 142), (0, u "isLatin1"), (0, .methodref 107 496), (0, .nameAndType 497 363), (0, u "charAt"), (3, u "checkIndex"), (3, .methodref 10 506), (0, .nameAndType 507 334), (0, u "length"), (5, u "checkFromToIndex"), (7, .methodref 10 522), (0, .nameAndType 523 524), (0, u "checkBoundsBeginEnd"), (0, u "(III)V"), (50, .class_ 576), (0, u "java/lang/CharSequence"), (22, u "CASE_INSENSITIVE_ORDER"), (0, u "Ljava/util/Comparator;"), (32, .methodref 10 634), (0, .nameAndType 635 636), (0, u "indexOf"), (0, u "(II)I"), (0, .methodref 107 638), (0, .nameAndType 635 639), (0, u "([BIII)I"), (41, .methodref 10 682), (0, .nameAndType 683 684), (0, u "substring"), (0, u "(II)Ljava/lang/String;"), (0, .methodref 107 686), (0, .nameAndType 687 688), (0, u "newString"), (0, u "([BII)Ljava/lang/String;"), (76, u "(I)I"), (126, u "(I)Ljava/lang/String;"), (117, u "([C)V"), (42, .fieldref 1054 1055), (0, .class_ 1056), (0, .nameAndType 1057 1058), (0, u "jdk/internal/util/Preconditions"), (0, u "SIOOBE_FORMATTER"), (0, u "Ljava/util/function/BiFunction;"), (0, .methodref 1054 1060), (0, .nameAndType 501 1061), (0, u "(IILjava/util/function/BiFunction;)I"), (0, .methodref 1054 1063), (0, .nameAndType 513 1064), (0, u "(IIILjava/util/function/BiFunction;)I"), (36, u "serialPersistentFields"), (0, u "[Ljava/io/ObjectStreamField;"), (0, .class_ 1104), (0, u "java/lang/String$CaseInsensitiveComparator"), (1, .class_ 1107), (0, u "java/io/Serializable"), (0, .class_ 1109), (0, u "java/lang/Comparable"), (0, .class_ 1111), (0, u "java/lang/constant/Constable"), (0, .class_ 1113), (0, u "java/lang/constant/ConstantDesc"), (2, u "serialVersionUID"), (0, u "J"), (3, u "REPL"), (0, u "C"), (2, u "LATIN1"), (1, u "UTF16")] 323

def k7m0 : Method := { name := "<init>", desc := "()V", sig := { parameters := [], returnType := none }, accessFlags := 1, code := none }
def k7c1 : Code := { maxStack := 5, maxLocals := 2, code := jdk_42_method_3_code, exceptionTable := #[], attributes := #[] }
def k7m1 : Method := { name := "<init>", desc := "([C)V", sig := { parameters := [(.array .char)], returnType := none }, accessFlags := 1, code := some k7c1 }
def k7c2 : Code := { maxStack := 2, maxLocals := 1, code := jdk_42_method_54_code, exceptionTable := #[], attributes := #[] }
def k7m2 : Method := { name := "length", desc := "()I", sig := { parameters := [], returnType := some .int }, accessFlags := 1, code := some k7c2 }
def k7c3 : Code := { maxStack := 2, maxLocals := 2, code := jdk_42_method_56_code, exceptionTable := #[], attributes := #[] }
def k7m3 : Method := { name := "charAt", desc := "(I)C", sig := { parameters := [.int], returnType := some .char }, accessFlags := 1, code := some k7c3 }
def k7c4 : Code := { maxStack := 3, maxLocals := 2, code := jdk_42_method_79_code, exceptionTable := #[], attributes := #[] }
def k7m4 : Method := { name := "indexOf", desc := "(I)I", sig := { parameters := [.int], returnType := some .int }, accessFlags := 1, code := some k7c4 }
def k7c5 : Code := { maxStack := 4, maxLocals := 3, code := jdk_42_method_80_code, exceptionTable := #[], attributes := #[] }
def k7m5 : Method := { name := "indexOf", desc := "(II)I", sig := { parameters := [.int, .int], returnType := some .int }, accessFlags := 1, code := some k7c5 }
def k7c6 : Code := { maxStack := 3, maxLocals := 2, code := jdk_42_method_91_code, exceptionTable := #[], attributes := #[] }
def k7m6 : Method := { name := "substring", desc := "(I)Ljava/lang/String;", sig := { parameters := [.int], returnType := some (.object "java/lang/String") }, accessFlags := 1, code := some k7c6 }
def k7c7 : Code := { maxStack := 3, maxLocals := 5, code := jdk_42_method_92_code, exceptionTable := #[], attributes := #[] }
def k7m7 : Method := { name := "substring", desc := "(II)Ljava/lang/String;", sig := { parameters := [.int, .int], returnType := some (.object "java/lang/String") }, accessFlags := 1, code := some k7c7 }
def k7c8 : Code := { maxStack := 4, maxLocals := 6, code := jdk_42_method_149_code, exceptionTable := #[], attributes := #[] }
def k7m8 : Method := { name := "<init>", desc := "([CIILjava/lang/Void;)V", sig := { parameters := [(.array .char), .int, .int, (.object "java/lang/Void")], returnType := none }, accessFlags := 2, code := some k7c8 }
def k7c9 : Code := { maxStack := 2, maxLocals := 3, code := jdk_42_method_151_code, exceptionTable := #[], attributes := #[] }
def k7m9 : Method := { name := "<init>", desc := "([BB)V", sig := { parameters := [(.array .byte), .byte], returnType := none }, accessFlags := 0, code := some k7c9 }
def k7c10 : Code := { maxStack := 1, maxLocals := 1, code := jdk_42_method_152_code, exceptionTable := #[], attributes := #[] }
def k7m10 : Method := { name := "coder", desc := "()B", sig := { parameters := [], returnType := some .byte }, accessFlags := 0, code := some k7c10 }
def k7c11 : Code := { maxStack := 1, maxLocals := 1, code := jdk_42_method_154_code, exceptionTable := #[], attributes := #[] }
def k7m11 : Method := { name := "isLatin1", desc := "()Z", sig := { parameters := [], returnType := some .boolean }, accessFlags := 0, code := some k7c11 }
def k7c12 : Code := { maxStack := 3, maxLocals := 2, code := jdk_42_method_155_code, exceptionTable := #[], attributes := #[] }
def k7m12 : Method := { name := "checkIndex", desc := "(II)V", sig := { parameters := [.int, .int], returnType := none }, accessFlags := 8, code := some k7c12 }
def k7c13 : Code := { maxStack := 4, maxLocals := 3, code := jdk_42_method_158_code, exceptionTable := #[], attributes := #[] }
def k7m13 : Method := { name := "checkBoundsBeginEnd", desc := "(III)V", sig := { parameters := [.int, .int, .int], returnType := none }, accessFlags := 8, code := some k7c13 }
/-- java/lang/String -/
def k7 : Class := { plain "java/lang/String" (some 0) with
  accessFlags := 49
  interfaces := #[2, 3, 4, 5, 6]
  cf := some (fileOf pool7 10 #[.nestMembers #[1103]] #[{ accessFlags := 1, nameIndex := 5, descriptorIndex := 6, attributes := #[] }, { accessFlags := 1, nameIndex := 5, descriptorIndex := 1010, attributes := #[] }, { accessFlags := 1, nameIndex := 507, descriptorIndex := 334, attributes := #[] }, { accessFlags := 1, nameIndex := 497, descriptorIndex := 427, attributes := #[] }, { accessFlags := 1, nameIndex := 635, descriptorIndex := 765, attributes := #[] }, { accessFlags := 1, nameIndex := 635, descriptorIndex := 636, attributes := #[] }, { accessFlags := 1, nameIndex := 683, descriptorIndex := 892, attributes := #[] }, { accessFlags := 1, nameIndex := 683, descriptorIndex := 684, attributes := #[] }, { accessFlags := 2, nameIndex := 5, descriptorIndex := 29, attributes := #[] }, { accessFlags := 0, nameIndex := 5, descriptorIndex := 211, attributes := #[] }, { accessFlags := 0, nameIndex := 17, descriptorIndex := 337, attributes := #[] }, { accessFlags := 0, nameIndex := 494, descriptorIndex := 142, attributes := #[] }, { accessFlags := 8, nameIndex := 501, descriptorIndex := 391, attributes := #[] }, { accessFlags := 8, nameIndex := 523, descriptorIndex := 524, attributes := #[] }] 49 2 #[1106, 1108, 575, 1110, 1112] #[{ accessFlags := 18, nameIndex := 13, descriptorIndex := 14, attributes := #[] }, { accessFlags := 18, nameIndex := 17, descriptorIndex := 18, attributes := #[] }, { accessFlags := 2, nameIndex := 21, descriptorIndex := 22, attributes := #[] }, { accessFlags := 2, nameIndex := 25, descriptorIndex := 26, attributes := #[] }, { accessFlags := 26, nameIndex := 1116, descriptorIndex := 1117, attributes := #[] }, { accessFlags := 24, nameIndex := 40, descriptorIndex := 26, attributes := #[] }, { accessFlags := 26, nameIndex := 1101, descriptorIndex := 1102, attributes := #[] }, { accessFlags := 26, nameIndex := 1121, descriptorIndex := 1122, attributes := #[] }, { accessFlags := 25, nameIndex := 599, descriptorIndex := 600, attributes := #[] }, { accessFlags := 24, nameIndex := 1125, descriptorIndex := 18, attributes := #[] }, { accessFlags := 24, nameIndex := 1127, descriptorIndex := 18, attributes := #[] }])
  fields := #[{ name := "value", type := (.array .byte), accessFlags := 18, slot := 0, constantValue := 0 }, { name := "coder", type := .byte, accessFlags := 18, slot := 1, constantValue := 0 }, { name := "hash", type := .int, accessFlags := 2, slot := 2, constantValue := 0 }, { name := "hashIsZero", type := .boolean, accessFlags := 2, slot := 3, constantValue := 0 }, { name := "serialVersionUID", type := .long, accessFlags := 26, slot := 0, constantValue := 0 }, { name := "COMPACT_STRINGS", type := .boolean, accessFlags := 24, slot := 1, constantValue := 0 }, { name := "serialPersistentFields", type := (.array (.object "java/io/ObjectStreamField")), accessFlags := 26, slot := 2, constantValue := 0 }, { name := "REPL", type := .char, accessFlags := 26, slot := 3, constantValue := 0 }, { name := "CASE_INSENSITIVE_ORDER", type := (.object "java/util/Comparator"), accessFlags := 25, slot := 4, constantValue := 0 }, { name := "LATIN1", type := .byte, accessFlags := 24, slot := 5, constantValue := 0 }, { name := "UTF16", type := .byte, accessFlags := 24, slot := 6, constantValue := 0 }]
  methods := #[k7m0, k7m1, k7m2, k7m3, k7m4, k7m5, k7m6, k7m7, k7m8, k7m9, k7m10, k7m11, k7m12, k7m13]
  instanceTypes := #[(.array .byte), .byte, .int, .boolean]
  staticTypes := #[.long, .boolean, (.array (.object "java/io/ObjectStreamField")), .char, (.object "java/util/Comparator"), .byte, .byte]
  resolved := Array.replicate 1451 none
  statics := some 0 }

def pool8 : Array CpInfo := pool [(2, .class_ 4), (1, u "java/lang/Object"), (0, u "<init>"), (0, u "()V"), (1, .class_ 10), (1, u "java/lang/String"), (21, u "(Ljava/lang/String;)Ljava/lang/String;"), (7, u "indexOf"), (1, .string 43), (0, u ""), (2, u "substring"), (17, .methodref 8 65), (0, .nameAndType 40 66), (0, u "(I)I"), (6, .methodref 8 74), (0, .nameAndType 46 75), (0, u "(I)Ljava/lang/String;"), (0, .class_ 77), (0, u "com/example/arcas/arcas/http/RequestLine"), (7, u "query")] 32

def k8m0 : Method := { name := "<init>", desc := "()V", sig := { parameters := [], returnType := none }, accessFlags := 2, code := none }
def k8c1 : Code := { maxStack := 3, maxLocals := 2, code := prog_21_method_6_code, exceptionTable := #[], attributes := #[] }
def k8m1 : Method := { name := "query", desc := "(Ljava/lang/String;)Ljava/lang/String;", sig := { parameters := [(.object "java/lang/String")], returnType := some (.object "java/lang/String") }, accessFlags := 9, code := some k8c1 }
/-- com/example/arcas/arcas/http/RequestLine -/
def k8 : Class := { plain "com/example/arcas/arcas/http/RequestLine" (some 0) with
  accessFlags := 33
  interfaces := #[]
  cf := some (fileOf pool8 76 #[] #[{ accessFlags := 2, nameIndex := 5, descriptorIndex := 6, attributes := #[] }, { accessFlags := 9, nameIndex := 85, descriptorIndex := 32, attributes := #[] }] 33 2 #[] #[])
  fields := #[]
  methods := #[k8m0, k8m1]
  instanceTypes := #[]
  staticTypes := #[]
  resolved := Array.replicate 118 none
  statics := none }

def pool9 : Array CpInfo := pool [(1, .class_ 2), (0, u "java/lang/String"), (1, .class_ 6), (1, u "java/lang/Object"), (0, u "<init>"), (0, u "()V"), (0, .methodref 1 10), (0, .nameAndType 11 12), (0, u "checkIndex"), (0, u "(II)V"), (1, .class_ 16), (1, u "java/lang/StringLatin1"), (21, .methodref 39 40), (0, .class_ 41), (0, .nameAndType 42 43), (0, u "java/lang/Math"), (0, u "min"), (0, u "(II)I"), (9, u "([BI)C"), (34, .methodref 14 89), (0, .nameAndType 90 91), (0, u "canEncode"), (0, u "(I)Z"), (0, .methodref 39 93), (0, .nameAndType 94 43), (0, u "max"), (0, .methodref 14 96), (0, .nameAndType 97 98), (0, u "indexOfChar"), (0, u "([BIII)I"), (2, u "indexOf"), (10, .methodref 1 113), (0, .nameAndType 7 114), (0, u "([BB)V"), (6, u "$assertionsDisabled"), (0, u "Z"), (8, .class_ 133), (1, u "java/util/Arrays"), (17, .string 152), (0, u ""), (43, u "newString"), (0, u "([BII)Ljava/lang/String;"), (23, .class_ 223), (1, u "java/lang/StringLatin1$LinesSpliterator"), (8, .methodref 131 233), (0, .nameAndType 234 235), (0, u "copyOfRange"), (0, u "([BII)[B"), (16, u "charAt"), (137, .class_ 391), (0, u "java/lang/StringLatin1$CharsSpliterator")] 3

def k9m0 : Method := { name := "<init>", desc := "()V", sig := { parameters := [], returnType := none }, accessFlags := 0, code := none }
def k9c1 : Code := { maxStack := 2, maxLocals := 2, code := jdk_43_method_2_code, exceptionTable := #[], attributes := #[] }
def k9m1 : Method := { name := "charAt", desc := "([BI)C", sig := { parameters := [(.array .byte), .int], returnType := some .char }, accessFlags := 9, code := some k9c1 }
def k9c2 : Code := { maxStack := 2, maxLocals := 1, code := jdk_43_method_4_code, exceptionTable := #[], attributes := #[] }
def k9m2 : Method := { name := "canEncode", desc := "(I)Z", sig := { parameters := [.int], returnType := some .boolean }, accessFlags := 9, code := some k9c2 }
def k9c3 : Code := { maxStack := 4, maxLocals := 4, code := jdk_43_method_22_code, exceptionTable := #[], attributes := #[] }
def k9m3 : Method := { name := "indexOf", desc := "([BIII)I", sig := { parameters := [(.array .byte), .int, .int, .int], returnType := some .int }, accessFlags := 9, code := some k9c3 }
def k9c4 : Code := { maxStack := 2, maxLocals := 6, code := jdk_43_method_23_code, exceptionTable := #[], attributes := #[] }
def k9m4 : Method := { name := "indexOfChar", desc := "([BIII)I", sig := { parameters := [(.array .byte), .int, .int, .int], returnType := some .int }, accessFlags := 10, code := some k9c4 }
def k9c5 : Code := { maxStack := 6, maxLocals := 3, code := jdk_43_method_47_code, exceptionTable := #[], attributes := #[] }
def k9m5 : Method := { name := "newString", desc := "([BII)Ljava/lang/String;", sig := { parameters := [(.array .byte), .int, .int], returnType := some (.object "java/lang/String") }, accessFlags := 9, code := some k9c5 }
/-- java/lang/StringLatin1 -/
def k9 : Class := { plain "java/lang/StringLatin1" (some 0) with
  accessFlags := 48
  interfaces := #[]
  cf := some (fileOf pool9 14 #[.nestMembers #[390, 221]] #[{ accessFlags := 0, nameIndex := 7, descriptorIndex := 8, attributes := #[] }, { accessFlags := 9, nameIndex := 252, descriptorIndex := 53, attributes := #[] }, { accessFlags := 9, nameIndex := 90, descriptorIndex := 91, attributes := #[] }, { accessFlags := 9, nameIndex := 101, descriptorIndex := 98, attributes := #[] }, { accessFlags := 10, nameIndex := 97, descriptorIndex := 98, attributes := #[] }, { accessFlags := 9, nameIndex := 196, descriptorIndex := 197, attributes := #[] }] 48 4 #[] #[{ accessFlags := 4120, nameIndex := 121, descriptorIndex := 122, attributes := #[] }])
  fields := #[{ name := "$assertionsDisabled", type := .boolean, accessFlags := 4120, slot := 0, constantValue := 0 }]
  methods := #[k9m0, k9m1, k9m2, k9m3, k9m4, k9m5]
  instanceTypes := #[]
  staticTypes := #[.boolean]
  resolved := Array.replicate 395 none
  statics := none }

def pool10 : Array CpInfo := pool [(1, .class_ 2), (0, u "java/lang/Math"), (1, .class_ 6), (1, u "java/lang/Object"), (0, u "<init>"), (0, u "()V"), (89, .class_ 100), (1, u "java/lang/Math$RandomNumberGeneratorHolder"), (71, u "negativeZeroFloatBits"), (0, u "J"), (2, u "negativeZeroDoubleBits"), (21, u "max"), (2, u "min"), (43, u "$assertionsDisabled"), (0, u "Z"), (88, u "(II)I"), (2, u "twoToTheDoubleScaleDown"), (0, u "D"), (4, u "twoToTheDoubleScaleUp"), (9, u "E"), (3, u "PI"), (2, u "TAU"), (2, u "DEGREES_TO_RADIANS"), (0, u "RADIANS_TO_DEGREES")] 94

def k10m0 : Method := { name := "<init>", desc := "()V", sig := { parameters := [], returnType := none }, accessFlags := 2, code := none }
def k10c1 : Code := { maxStack := 2, maxLocals := 2, code := jdk_29_method_65_code, exceptionTable := #[], attributes := #[] }
def k10m1 : Method := { name := "max", desc := "(II)I", sig := { parameters := [.int, .int], returnType := some .int }, accessFlags := 9, code := some k10c1 }
def k10c2 : Code := { maxStack := 2, maxLocals := 2, code := jdk_29_method_69_code, exceptionTable := #[], attributes := #[] }
def k10m2 : Method := { name := "min", desc := "(II)I", sig := { parameters := [.int, .int], returnType := some .int }, accessFlags := 9, code := some k10c2 }
/-- java/lang/Math -/
def k10 : Class := { plain "java/lang/Math" (some 0) with
  accessFlags := 49
  interfaces := #[]
  cf := some (fileOf pool10 1 #[.nestMembers #[98]] #[{ accessFlags := 2, nameIndex := 7, descriptorIndex := 8, attributes := #[] }, { accessFlags := 9, nameIndex := 198, descriptorIndex := 335, attributes := #[] }, { accessFlags := 9, nameIndex := 201, descriptorIndex := 335, attributes := #[] }] 49 4 #[] #[{ accessFlags := 25, nameIndex := 354, descriptorIndex := 339, attributes := #[] }, { accessFlags := 25, nameIndex := 358, descriptorIndex := 339, attributes := #[] }, { accessFlags := 25, nameIndex := 361, descriptorIndex := 339, attributes := #[] }, { accessFlags := 26, nameIndex := 364, descriptorIndex := 339, attributes := #[] }, { accessFlags := 26, nameIndex := 365, descriptorIndex := 339, attributes := #[] }, { accessFlags := 26, nameIndex := 172, descriptorIndex := 173, attributes := #[] }, { accessFlags := 26, nameIndex := 176, descriptorIndex := 173, attributes := #[] }, { accessFlags := 8, nameIndex := 344, descriptorIndex := 339, attributes := #[] }, { accessFlags := 8, nameIndex := 338, descriptorIndex := 339, attributes := #[] }, { accessFlags := 4120, nameIndex := 245, descriptorIndex := 246, attributes := #[] }])
  fields := #[{ name := "E", type := .double, accessFlags := 25, slot := 0, constantValue := 0 }, { name := "PI", type := .double, accessFlags := 25, slot := 1, constantValue := 0 }, { name := "TAU", type := .double, accessFlags := 25, slot := 2, constantValue := 0 }, { name := "DEGREES_TO_RADIANS", type := .double, accessFlags := 26, slot := 3, constantValue := 0 }, { name := "RADIANS_TO_DEGREES", type := .double, accessFlags := 26, slot := 4, constantValue := 0 }, { name := "negativeZeroFloatBits", type := .long, accessFlags := 26, slot := 5, constantValue := 0 }, { name := "negativeZeroDoubleBits", type := .long, accessFlags := 26, slot := 6, constantValue := 0 }, { name := "twoToTheDoubleScaleUp", type := .double, accessFlags := 8, slot := 7, constantValue := 0 }, { name := "twoToTheDoubleScaleDown", type := .double, accessFlags := 8, slot := 8, constantValue := 0 }, { name := "$assertionsDisabled", type := .boolean, accessFlags := 4120, slot := 9, constantValue := 0 }]
  methods := #[k10m0, k10m1, k10m2]
  instanceTypes := #[]
  staticTypes := #[.double, .double, .double, .double, .double, .long, .long, .double, .double, .boolean]
  resolved := Array.replicate 460 none
  statics := none }

def pool11 : Array CpInfo := pool [(6, .class_ 8), (1, u "java/lang/Object"), (0, u "<init>"), (0, u "()V"), (1, .class_ 14), (1, u "java/lang/StringUTF16"), (31, u "$assertionsDisabled"), (0, u "Z"), (13, u "HI_BYTE_SHIFT"), (0, u "I"), (2, u "LO_BYTE_SHIFT"), (49, .methodref 12 116), (0, .nameAndType 117 118), (0, u "compress"), (0, u "([CI[BII)I"), (3, u "([CII)[B"), (138, u "coderFromArrayLen"), (0, u "([BI)B"), (106, .class_ 371), (1, u "java/lang/StringUTF16$LinesSpliterator"), (58, u "MAX_LENGTH"), (196, .class_ 628), (0, u "java/lang/StringUTF16$CodePointsSpliterator"), (0, .class_ 630), (0, u "java/lang/StringUTF16$CharsSpliterator")] 4

def k11m0 : Method := { name := "<init>", desc := "()V", sig := { parameters := [], returnType := none }, accessFlags := 0, code := none }
def k11c1 : Code := { maxStack := 2, maxLocals := 2, code := jdk_52_method_15_code, exceptionTable := #[], attributes := #[] }
def k11m1 : Method := { name := "coderFromArrayLen", desc := "([BI)B", sig := { parameters := [(.array .byte), .int], returnType := some .byte }, accessFlags := 8, code := some k11c1 }
def k11c2 : Code := { maxStack := 5, maxLocals := 6, code := jdk_52_method_16_code, exceptionTable := #[], attributes := #[] }
def k11m2 : Method := { name := "compress", desc := "([CII)[B", sig := { parameters := [(.array .char), .int, .int], returnType := some (.array .byte) }, accessFlags := 9, code := some k11c2 }
def k11c3 : Code := { maxStack := 3, maxLocals := 7, code := jdk_52_method_21_code, exceptionTable := #[], attributes := #[] }
def k11m3 : Method := { name := "compress", desc := "([CI[BII)I", sig := { parameters := [(.array .char), .int, (.array .byte), .int, .int], returnType := some .int }, accessFlags := 9, code := some k11c3 }
/-- java/lang/StringUTF16 -/
def k11 : Class := { plain "java/lang/StringUTF16" (some 0) with
  accessFlags := 48
  interfaces := #[]
  cf := some (fileOf pool11 12 #[.nestMembers #[627, 629, 369]] #[{ accessFlags := 0, nameIndex := 9, descriptorIndex := 10, attributes := #[] }, { accessFlags := 8, nameIndex := 261, descriptorIndex := 262, attributes := #[] }, { accessFlags := 9, nameIndex := 117, descriptorIndex := 122, attributes := #[] }, { accessFlags := 9, nameIndex := 117, descriptorIndex := 118, attributes := #[] }] 48 6 #[] #[{ accessFlags := 26, nameIndex := 61, descriptorIndex := 62, attributes := #[] }, { accessFlags := 26, nameIndex := 65, descriptorIndex := 62, attributes := #[] }, { accessFlags := 24, nameIndex := 430, descriptorIndex := 62, attributes := #[] }, { accessFlags := 4120, nameIndex := 46, descriptorIndex := 47, attributes := #[] }])
  fields := #[{ name := "HI_BYTE_SHIFT", type := .int, accessFlags := 26, slot := 0, constantValue := 0 }, { name := "LO_BYTE_SHIFT", type := .int, accessFlags := 26, slot := 1, constantValue := 0 }, { name := "MAX_LENGTH", type := .int, accessFlags := 24, slot := 2, constantValue := 0 }, { name := "$assertionsDisabled", type := .boolean, accessFlags := 4120, slot := 3, constantValue := 0 }]
  methods := #[k11m0, k11m1, k11m2, k11m3]
  instanceTypes := #[]
  staticTypes := #[.int, .int, .int, .boolean]
  resolved := Array.replicate 635 none
  statics := none }

def pool12 : Array CpInfo := pool [(2, .class_ 4), (1, u "java/lang/Object"), (0, u "<init>"), (0, u "()V"), (17, .class_ 26), (1, u "jdk/internal/util/Preconditions"), (6, u "checkIndex"), (13, u "checkFromToIndex"), (7, .class_ 56), (0, u "jdk/internal/util/Preconditions$4"), (57, .class_ 115), (0, u "jdk/internal/util/Preconditions$1"), (7, u "SIOOBE_FORMATTER"), (0, u "Ljava/util/function/BiFunction;"), (0, .class_ 126), (0, u "jdk/internal/util/Preconditions$2"), (3, u "AIOOBE_FORMATTER"), (0, .class_ 132), (0, u "jdk/internal/util/Preconditions$3"), (3, u "IOOBE_FORMATTER"), (41, u "(IILjava/util/function/BiFunction;)I"), (4, u "(IIILjava/util/function/BiFunction;)I")] 10

def k12m0 : Method := { name := "<init>", desc := "()V", sig := { parameters := [], returnType := none }, accessFlags := 1, code := none }
def k12c1 : Code := { maxStack := 3, maxLocals := 3, code := jdk_41_method_11_code, exceptionTable := #[], attributes := #[] }
def k12m1 : Method := { name := "checkIndex", desc := "(IILjava/util/function/BiFunction;)I", sig := { parameters := [.int, .int, (.object "java/util/function/BiFunction")], returnType := some .int }, accessFlags := 9, code := some k12c1 }
def k12c2 : Code := { maxStack := 4, maxLocals := 4, code := jdk_41_method_12_code, exceptionTable := #[], attributes := #[] }
def k12m2 : Method := { name := "checkFromToIndex", desc := "(IIILjava/util/function/BiFunction;)I", sig := { parameters := [.int, .int, .int, (.object "java/util/function/BiFunction")], returnType := some .int }, accessFlags := 9, code := some k12c2 }
/-- jdk/internal/util/Preconditions -/
def k12 : Class := { plain "jdk/internal/util/Preconditions" (some 0) with
  accessFlags := 33
  interfaces := #[]
  cf := some (fileOf pool12 24 #[.nestMembers #[55, 131, 125, 114]] #[{ accessFlags := 1, nameIndex := 5, descriptorIndex := 6, attributes := #[] }, { accessFlags := 9, nameIndex := 33, descriptorIndex := 178, attributes := #[] }, { accessFlags := 9, nameIndex := 47, descriptorIndex := 183, attributes := #[] }] 33 2 #[] #[{ accessFlags := 25, nameIndex := 123, descriptorIndex := 124, attributes := #[] }, { accessFlags := 25, nameIndex := 130, descriptorIndex := 124, attributes := #[] }, { accessFlags := 25, nameIndex := 136, descriptorIndex := 124, attributes := #[] }])
  fields := #[{ name := "SIOOBE_FORMATTER", type := (.object "java/util/function/BiFunction"), accessFlags := 25, slot := 0, constantValue := 0 }, { name := "AIOOBE_FORMATTER", type := (.object "java/util/function/BiFunction"), accessFlags := 25, slot := 1, constantValue := 0 }, { name := "IOOBE_FORMATTER", type := (.object "java/util/function/BiFunction"), accessFlags := 25, slot := 2, constantValue := 0 }]
  methods := #[k12m0, k12m1, k12m2]
  instanceTypes := #[]
  staticTypes := #[(.object "java/util/function/BiFunction"), (.object "java/util/function/BiFunction"), (.object "java/util/function/BiFunction")]
  resolved := Array.replicate 194 none
  statics := some 1 }

def pool13 : Array CpInfo := pool [(2, .class_ 4), (1, u "java/lang/Object"), (0, u "<init>"), (0, u "()V"), (7, .class_ 16), (1, u "java/util/Arrays"), (57, .class_ 76), (1, u "java/util/Arrays$NaturalOrder"), (36, .class_ 115), (1, u "java/util/Arrays$LegacyMergeSort"), (1, u "Z"), (21, u "copyOfRange"), (10, .methodref 151 152), (0, .class_ 153), (0, .nameAndType 154 155), (0, u "java/lang/System"), (0, u "arraycopy"), (0, u "(Ljava/lang/Object;ILjava/lang/Object;II)V"), (148, .methodref 305 306), (0, .class_ 307), (0, .nameAndType 308 309), (0, u "java/lang/Math"), (0, u "min"), (0, u "(II)I"), (29, .methodref 14 340), (0, .nameAndType 341 342), (0, u "copyOfRangeByte"), (0, u "([BII)[B"), (0, .methodref 14 344), (0, .nameAndType 345 346), (0, u "checkLength"), (0, u "(II)V"), (28, .class_ 376), (0, u "java/util/Arrays$ArrayList"), (68, u "$assertionsDisabled"), (269, u "MIN_ARRAY_SORT_GRAN"), (0, u "I"), (2, u "INSERTIONSORT_THRESHOLD"), (255, .class_ 976), (0, u "java/util/Arrays$ArrayItr")] 52

def k13m0 : Method := { name := "<init>", desc := "()V", sig := { parameters := [], returnType := none }, accessFlags := 2, code := none }
def k13c1 : Code := { maxStack := 4, maxLocals := 2, code := jdk_65_method_131_code, exceptionTable := #[], attributes := #[] }
def k13m1 : Method := { name := "checkLength", desc := "(II)V", sig := { parameters := [.int, .int], returnType := none }, accessFlags := 10, code := some k13c1 }
def k13c2 : Code := { maxStack := 3, maxLocals := 3, code := jdk_65_method_132_code, exceptionTable := #[], attributes := #[] }
def k13m2 : Method := { name := "copyOfRange", desc := "([BII)[B", sig := { parameters := [(.array .byte), .int, .int], returnType := some (.array .byte) }, accessFlags := 9, code := some k13c2 }
def k13c3 : Code := { maxStack := 6, maxLocals := 5, code := jdk_65_method_133_code, exceptionTable := #[], attributes := #[] }
def k13m3 : Method := { name := "copyOfRangeByte", desc := "([BII)[B", sig := { parameters := [(.array .byte), .int, .int], returnType := some (.array .byte) }, accessFlags := 10, code := some k13c3 }
/-- java/util/Arrays -/
def k13 : Class := { plain "java/util/Arrays" (some 0) with
  accessFlags := 49
  interfaces := #[]
  cf := some (fileOf pool13 14 #[.nestMembers #[975, 375, 113, 74]] #[{ accessFlags := 2, nameIndex := 5, descriptorIndex := 6, attributes := #[] }, { accessFlags := 10, nameIndex := 345, descriptorIndex := 346, attributes := #[] }, { accessFlags := 9, nameIndex := 139, descriptorIndex := 342, attributes := #[] }, { accessFlags := 10, nameIndex := 341, descriptorIndex := 342, attributes := #[] }] 49 2 #[] #[{ accessFlags := 26, nameIndex := 715, descriptorIndex := 716, attributes := #[] }, { accessFlags := 26, nameIndex := 719, descriptorIndex := 716, attributes := #[] }, { accessFlags := 4120, nameIndex := 445, descriptorIndex := 117, attributes := #[] }])
  fields := #[{ name := "MIN_ARRAY_SORT_GRAN", type := .int, accessFlags := 26, slot := 0, constantValue := 0 }, { name := "INSERTIONSORT_THRESHOLD", type := .int, accessFlags := 26, slot := 1, constantValue := 0 }, { name := "$assertionsDisabled", type := .boolean, accessFlags := 4120, slot := 2, constantValue := 0 }]
  methods := #[k13m0, k13m1, k13m2, k13m3]
  instanceTypes := #[]
  staticTypes := #[.int, .int, .boolean]
  resolved := Array.replicate 1029 none
  statics := none }

def pool14 : Array CpInfo := pool [(2, .class_ 4), (1, u "java/lang/Object"), (0, u "<init>"), (0, u "()V"), (1, .class_ 10), (1, u "java/lang/System"), (0, u "allowSecurityManager"), (0, u "I"), (16, u "cons"), (0, u "Ljava/io/Console;"), (77, .class_ 110), (1, u "java/lang/System$CallersHolder"), (43, u "initialErrStream"), (0, u "Ljava/io/PrintStream;"), (19, u "security"), (0, u "Ljava/lang/SecurityManager;"), (31, .class_ 209), (0, u "java/lang/System$1"), (7, u "props"), (0, u "Ljava/util/Properties;"), (2, u "lineSeparator"), (0, u "Ljava/lang/String;"), (96, .class_ 321), (1, u "java/lang/System$LoggerFinder"), (5, .class_ 328), (0, u "java/lang/System$Logger"), (67, u "err"), (2, u "out"), (91, u "notSupportedJnuEncoding"), (15, u "in"), (17, u "initialIn"), (0, u "Ljava/io/InputStream;"), (35, u "bootLayer"), (0, u "Ljava/lang/ModuleLayer;"), (99, .class_ 664), (0, u "java/lang/System$2"), (9, u "NEVER"), (2, u "MAYBE"), (49, u "arraycopy"), (0, u "(Ljava/lang/Object;ILjava/lang/Object;II)V"), (72, .class_ 802), (0, u "java/lang/System$Logger$Level")] 31

def k14m0 : Method := { name := "<init>", desc := "()V", sig := { parameters := [], returnType := none }, accessFlags := 2, code := none }
def k14m1 : Method := { name := "arraycopy", desc := "(Ljava/lang/Object;ILjava/lang/Object;II)V", sig := { parameters := [(.object "java/lang/Object"), .int, (.object "java/lang/Object"), .int, .int], returnType := none }, accessFlags := 265, code := none }
/-- java/lang/System -/
def k14 : Class := { plain "java/lang/System" (some 0) with
  accessFlags := 49
  interfaces := #[]
  cf := some (fileOf pool14 8 #[.nestMembers #[319, 327, 801, 108, 663, 208]] #[{ accessFlags := 2, nameIndex := 5, descriptorIndex := 6, attributes := #[] }, { accessFlags := 265, nameIndex := 727, descriptorIndex := 728, attributes := #[] }] 49 2 #[] #[{ accessFlags := 25, nameIndex := 507, descriptorIndex := 526, attributes := #[] }, { accessFlags := 25, nameIndex := 399, descriptorIndex := 155, attributes := #[] }, { accessFlags := 25, nameIndex := 396, descriptorIndex := 155, attributes := #[] }, { accessFlags := 10, nameIndex := 525, descriptorIndex := 526, attributes := #[] }, { accessFlags := 26, nameIndex := 674, descriptorIndex := 12, attributes := #[] }, { accessFlags := 26, nameIndex := 677, descriptorIndex := 12, attributes := #[] }, { accessFlags := 10, nameIndex := 11, descriptorIndex := 12, attributes := #[] }, { accessFlags := 74, nameIndex := 175, descriptorIndex := 176, attributes := #[] }, { accessFlags := 10, nameIndex := 491, descriptorIndex := 222, attributes := #[] }, { accessFlags := 74, nameIndex := 29, descriptorIndex := 30, attributes := #[] }, { accessFlags := 74, nameIndex := 154, descriptorIndex := 155, attributes := #[] }, { accessFlags := 10, nameIndex := 217, descriptorIndex := 218, attributes := #[] }, { accessFlags := 10, nameIndex := 221, descriptorIndex := 222, attributes := #[] }, { accessFlags := 8, nameIndex := 562, descriptorIndex := 563, attributes := #[] }])
  fields := #[{ name := "in", type := (.object "java/io/InputStream"), accessFlags := 25, slot := 0, constantValue := 0 }, { name := "out", type := (.object "java/io/PrintStream"), accessFlags := 25, slot := 1, constantValue := 0 }, { name := "err", type := (.object "java/io/PrintStream"), accessFlags := 25, slot := 2, constantValue := 0 }, { name := "initialIn", type := (.object "java/io/InputStream"), accessFlags := 10, slot := 3, constantValue := 0 }, { name := "NEVER", type := .int, accessFlags := 26, slot := 4, constantValue := 0 }, { name := "MAYBE", type := .int, accessFlags := 26, slot := 5, constantValue := 0 }, { name := "allowSecurityManager", type := .int, accessFlags := 10, slot := 6, constantValue := 0 }, { name := "security", type := (.object "java/lang/SecurityManager"), accessFlags := 74, slot := 7, constantValue := 0 }, { name := "notSupportedJnuEncoding", type := (.object "java/lang/String"), accessFlags := 10, slot := 8, constantValue := 0 }, { name := "cons", type := (.object "java/io/Console"), accessFlags := 74, slot := 9, constantValue := 0 }, { name := "initialErrStream", type := (.object "java/io/PrintStream"), accessFlags := 74, slot := 10, constantValue := 0 }, { name := "props", type := (.object "java/util/Properties"), accessFlags := 10, slot := 11, constantValue := 0 }, { name := "lineSeparator", type := (.object "java/lang/String"), accessFlags := 10, slot := 12, constantValue := 0 }, { name := "bootLayer", type := (.object "java/lang/ModuleLayer"), accessFlags := 8, slot := 13, constantValue := 0 }]
  methods := #[k14m0, k14m1]
  instanceTypes := #[]
  staticTypes := #[(.object "java/io/InputStream"), (.object "java/io/PrintStream"), (.object "java/io/PrintStream"), (.object "java/io/InputStream"), .int, .int, .int, (.object "java/lang/SecurityManager"), (.object "java/lang/String"), (.object "java/io/Console"), (.object "java/io/PrintStream"), (.object "java/util/Properties"), (.object "java/lang/String"), (.object "java/lang/ModuleLayer")]
  resolved := Array.replicate 834 none
  statics := none }

def pool15 : Array CpInfo := pool [(9, u "<init>"), (6, .class_ 18), (1, u "java/lang/Object"), (0, u "()V"), (1, .class_ 23), (1, u "jdk/internal/util/ArraysSupport"), (0, u "LOG2_ARRAY_LONG_INDEX_SCALE"), (0, u "I"), (2, u "U"), (0, u "Ljdk/internal/misc/Unsafe;"), (8, u "BIG_ENDIAN"), (0, u "Z"), (8, u "LOG2_BYTE_BIT_SIZE"), (4, u "LOG2_ARRAY_INT_INDEX_SCALE"), (54, u "JLA"), (0, u "Ljdk/internal/access/JavaLangAccess;"), (11, u "LOG2_ARRAY_BOOLEAN_INDEX_SCALE"), (9, u "LOG2_ARRAY_BYTE_INDEX_SCALE"), (5, u "LOG2_ARRAY_CHAR_INDEX_SCALE"), (5, u "LOG2_ARRAY_SHORT_INDEX_SCALE"), (18, u "LOG2_ARRAY_FLOAT_INDEX_SCALE"), (24, u "LOG2_ARRAY_DOUBLE_INDEX_SCALE"), (89, u "T_BOOLEAN"), (2, u "T_CHAR"), (1, u "T_FLOAT"), (1, u "T_DOUBLE"), (1, u "T_BYTE"), (1, u "T_SHORT"), (1, u "T_INT"), (1, u "T_LONG"), (1, u "SOFT_MAX_ARRAY_LENGTH")] 83

def k15m0 : Method := { name := "<init>", desc := "()V", sig := { parameters := [], returnType := none }, accessFlags := 2, code := none }
/-- jdk/internal/util/ArraysSupport -/
def k15 : Class := { plain "jdk/internal/util/ArraysSupport" (some 0) with
  accessFlags := 33
  interfaces := #[]
  cf := some (fileOf pool15 21 #[] #[{ accessFlags := 2, nameIndex := 9, descriptorIndex := 19, attributes := #[] }] 33 16 #[] #[{ accessFlags := 24, nameIndex := 28, descriptorIndex := 29, attributes := #[] }, { accessFlags := 26, nameIndex := 38, descriptorIndex := 39, attributes := #[] }, { accessFlags := 25, nameIndex := 121, descriptorIndex := 25, attributes := #[] }, { accessFlags := 25, nameIndex := 131, descriptorIndex := 25, attributes := #[] }, { accessFlags := 25, nameIndex := 137, descriptorIndex := 25, attributes := #[] }, { accessFlags := 25, nameIndex := 143, descriptorIndex := 25, attributes := #[] }, { accessFlags := 25, nameIndex := 53, descriptorIndex := 25, attributes := #[] }, { accessFlags := 25, nameIndex := 24, descriptorIndex := 25, attributes := #[] }, { accessFlags := 25, nameIndex := 162, descriptorIndex := 25, attributes := #[] }, { accessFlags := 25, nameIndex := 187, descriptorIndex := 25, attributes := #[] }, { accessFlags := 26, nameIndex := 48, descriptorIndex := 25, attributes := #[] }, { accessFlags := 25, nameIndex := 277, descriptorIndex := 25, attributes := #[] }, { accessFlags := 25, nameIndex := 280, descriptorIndex := 25, attributes := #[] }, { accessFlags := 25, nameIndex := 282, descriptorIndex := 25, attributes := #[] }, { accessFlags := 25, nameIndex := 284, descriptorIndex := 25, attributes := #[] }, { accessFlags := 25, nameIndex := 286, descriptorIndex := 25, attributes := #[] }, { accessFlags := 25, nameIndex := 288, descriptorIndex := 25, attributes := #[] }, { accessFlags := 25, nameIndex := 290, descriptorIndex := 25, attributes := #[] }, { accessFlags := 25, nameIndex := 292, descriptorIndex := 25, attributes := #[] }, { accessFlags := 26, nameIndex := 108, descriptorIndex := 109, attributes := #[] }, { accessFlags := 25, nameIndex := 294, descriptorIndex := 25, attributes := #[] }])
  fields := #[{ name := "U", type := (.object "jdk/internal/misc/Unsafe"), accessFlags := 24, slot := 0, constantValue := 0 }, { name := "BIG_ENDIAN", type := .boolean, accessFlags := 26, slot := 1, constantValue := 0 }, { name := "LOG2_ARRAY_BOOLEAN_INDEX_SCALE", type := .int, accessFlags := 25, slot := 2, constantValue := 0 }, { name := "LOG2_ARRAY_BYTE_INDEX_SCALE", type := .int, accessFlags := 25, slot := 3, constantValue := 0 }, { name := "LOG2_ARRAY_CHAR_INDEX_SCALE", type := .int, accessFlags := 25, slot := 4, constantValue := 0 }, { name := "LOG2_ARRAY_SHORT_INDEX_SCALE", type := .int, accessFlags := 25, slot := 5, constantValue := 0 }, { name := "LOG2_ARRAY_INT_INDEX_SCALE", type := .int, accessFlags := 25, slot := 6, constantValue := 0 }, { name := "LOG2_ARRAY_LONG_INDEX_SCALE", type := .int, accessFlags := 25, slot := 7, constantValue := 0 }, { name := "LOG2_ARRAY_FLOAT_INDEX_SCALE", type := .int, accessFlags := 25, slot := 8, constantValue := 0 }, { name := "LOG2_ARRAY_DOUBLE_INDEX_SCALE", type := .int, accessFlags := 25, slot := 9, constantValue := 0 }, { name := "LOG2_BYTE_BIT_SIZE", type := .int, accessFlags := 26, slot := 10, constantValue := 0 }, { name := "T_BOOLEAN", type := .int, accessFlags := 25, slot := 11, constantValue := 0 }, { name := "T_CHAR", type := .int, accessFlags := 25, slot := 12, constantValue := 0 }, { name := "T_FLOAT", type := .int, accessFlags := 25, slot := 13, constantValue := 0 }, { name := "T_DOUBLE", type := .int, accessFlags := 25, slot := 14, constantValue := 0 }, { name := "T_BYTE", type := .int, accessFlags := 25, slot := 15, constantValue := 0 }, { name := "T_SHORT", type := .int, accessFlags := 25, slot := 16, constantValue := 0 }, { name := "T_INT", type := .int, accessFlags := 25, slot := 17, constantValue := 0 }, { name := "T_LONG", type := .int, accessFlags := 25, slot := 18, constantValue := 0 }, { name := "JLA", type := (.object "jdk/internal/access/JavaLangAccess"), accessFlags := 26, slot := 19, constantValue := 0 }, { name := "SOFT_MAX_ARRAY_LENGTH", type := .int, accessFlags := 25, slot := 20, constantValue := 0 }]
  methods := #[k15m0]
  instanceTypes := #[]
  staticTypes := #[(.object "jdk/internal/misc/Unsafe"), .boolean, .int, .int, .int, .int, .int, .int, .int, .int, .int, .int, .int, .int, .int, .int, .int, .int, .int, (.object "jdk/internal/access/JavaLangAccess"), .int]
  resolved := Array.replicate 378 none
  statics := none }

def pool16 : Array CpInfo := pool [(1, u "java/lang/Cloneable"), (0, .class_ 1), (0, u "java/lang/Object"), (0, .class_ 3)] 3

/-- java/lang/Cloneable -/
def k16 : Class := { plain "java/lang/Cloneable" (some 0) with
  accessFlags := 1537
  interfaces := #[]
  cf := some (fileOf pool16 2 #[] #[] 1537 4 #[] #[])
  fields := #[]
  methods := #[]
  instanceTypes := #[]
  staticTypes := #[]
  resolved := Array.replicate 8 none
  statics := none }

/-- the primitive byte -/
def k17 : Class := { plain "byte" none with kind := .primitive 'B', accessFlags := 0x411 }
/-- [B -/
def k18 : Class := { plain "[B" (some 0) with kind := .array 17 .byte, interfaces := #[16, 2], accessFlags := 1041 }

/-- the primitive char -/
def k19 : Class := { plain "char" none with kind := .primitive 'C', accessFlags := 0x411 }
/-- [C -/
def k20 : Class := { plain "[C" (some 0) with kind := .array 19 .char, interfaces := #[16, 2], accessFlags := 1041 }

/-- the primitive int -/
def k21 : Class := { plain "int" none with kind := .primitive 'I', accessFlags := 0x411 }
/-- [I -/
def k22 : Class := { plain "[I" (some 0) with kind := .array 21 .int, interfaces := #[16, 2], accessFlags := 1041 }

def heap : Heap := #[{ cls := 7, slots := #[.long 0, .int 1, .null, .int 0, .null, .int 0, .int 0], vm := .statics 7 },
  { cls := 12, slots := #[.null, .null, .null], vm := .statics 12 }]
def classes : Array Class := #[k0, k1, k2, k3, k4, k5, k6, k7, k8, k9, k10, k11, k12, k13, k14, k15, k16, k17, k18, k19, k20, k21, k22]
def interned : List (Array UInt16 × Addr) := []
def slotsUsed : Nat := 10
def theMethod : MethodId := ⟨1, 4⟩
def args0 : Array Value := #[.int 2, .int 256, .int 65, .int 66, .int 67]
def aboutOver (below : List Frame) : State where
  vm := { classes := classes, interned := interned.toArray }
  heap := heap
  slotsUsed := slotsUsed
  threads := #[{ frames := .invoking theMethod args0 :: below }]
def below0 : List Frame := [.native { method := ⟨0, 0⟩, args := #[] }]
def about1 : State := aboutOver below0
def p0 : Program := .bare "" "" ""
def e0 : Env := launch0.env 0 0 0
theorem w_frames : about1.frames = Frame.invoking theMethod args0 :: below0 := rfl
set_option maxRecDepth 65536 in
theorem w_args : argsFit about1.vm theMethod args0 = true := by decide +kernel
set_option maxRecDepth 65536 in
theorem w_heap : heapFits about1 = true := by decide +kernel
set_option maxRecDepth 65536 in
theorem w_runnable : about1.curStatus? = some .runnable := by decide +kernel
set_option maxRecDepth 65536 in
theorem w_alone : about1.alone = true := by decide +kernel
set_option maxRecDepth 65536 in
theorem w_named : about1.methodNamed? x = some theMethod := by decide +kernel
set_option maxRecDepth 65536 in
theorem w_hears : about1.hears theMethod below0 = true := by decide +kernel
set_option maxRecDepth 65536 in
theorem w_ripe : about1.ripe theMethod args0 below0 = true := by decide +kernel
theorem w_running : about1.status = .running := rfl
set_option maxRecDepth 65536 in
theorem w_room : about1.hasRoom e0.platform room_1 = true :=
  launch0.hasRoom_least _ room_1 (by decide +kernel) (by decide +kernel) (by decide +kernel) (by decide +kernel) (by decide +kernel) (by decide +kernel)
theorem allAtoms_all (ts : List Jvm.Cond) (a : Array Jvm.Value) (st : Jvm.State) : (allAtoms ts).before a st = ts.all (fun c => c.before a st) := by
  induction ts with
  | nil => rfl
  | cons c t ih =>
    show (Jvm.Cond.and c (allAtoms t)).before a st = _
    rw [Jvm.Cond.before_and, ih, List.all_cons]
def words1 : List Jvm.Cond := Jvm.Cond.code x code maxLocals ret :: tables_1
/-- a 'code' word, met by the world's own term for the bytes: nothing is compared byte by byte -/
theorem code_word {y : MethodName} {bytes : ByteArray} {mx : Nat} {rt : Option FieldType} {a : Array Value} {s : State} {m : MethodId} {meth : Method} {c : Code} (h1 : s.methodNamed? y = some m) (h2 : s.vm.method? m = some meth) (h3 : meth.code = some c) (h4 : c.code = bytes)
    (h5 : (c.maxLocals == mx && c.exceptionTable.isEmpty && decide (c.maxStack ≤ mostOperands) && decide (meth.sig.returnType = rt) && !meth.locks && decide (parseMethodDescriptor y.desc = some meth.sig)) = true) : (Jvm.Cond.code y bytes mx rt).before a s = true := by
  simp only [Bool.and_eq_true, beq_iff_eq, Bool.not_eq_true', decide_eq_true_eq] at h5
  obtain ⟨⟨⟨⟨⟨g1, g2⟩, g3⟩, g4⟩, g5⟩, g6⟩ := h5
  simp [Cond.before, Cond.holds, Cond.value, h1, h2, h3, h4, g1, g2, g3, g4, g5, g6]
def isCode : Jvm.Cond → Bool
  | .code _ _ _ _ => true
  | _ => false
theorem all_split {L : List Jvm.Cond} {P : Jvm.Cond → Bool} (h1 : L.all (fun c => isCode c || P c) = true) (h2 : ∀ c ∈ L.filter isCode, P c = true) : L.all P = true := by
  refine List.all_eq_true.mpr fun c hc => ?_
  have h := List.all_eq_true.mp h1 c hc
  rcases Bool.eq_false_or_eq_true (isCode c) with hi | hi
  · exact h2 c (List.mem_filter.mpr ⟨hc, hi⟩)
  · simpa [hi] using h
set_option maxRecDepth 65536 in
theorem w_c0 : (Jvm.Cond.code x code maxLocals ret).before args0 about1 = true := code_word (m := ⟨1, 4⟩) (meth := k1m4) (c := k1c4) (by decide +kernel) rfl rfl rfl (by decide +kernel)
set_option maxRecDepth 65536 in
theorem w_c1 : (Jvm.Cond.code ({ cls := "com/example/arcas/arcas/http/RequestLineQueryPinLaw", name := "ch", desc := "(I)C" } : Jvm.MethodName) method_2_code (1 : Nat) (Option.some Jvm.ClassFile.FieldType.char)).before args0 about1 = true := code_word (m := ⟨1, 1⟩) (meth := k1m1) (c := k1c1) (by decide +kernel) rfl rfl rfl (by decide +kernel)
set_option maxRecDepth 65536 in
theorem w_c2 : (Jvm.Cond.code ({ cls := "com/example/arcas/arcas/http/RequestLineQueryPinLaw", name := "take", desc := "(ICCCC)[C" } : Jvm.MethodName) method_3_code (5 : Nat) (Option.some (Jvm.ClassFile.FieldType.array Jvm.ClassFile.FieldType.char))).before args0 about1 = true := code_word (m := ⟨1, 2⟩) (meth := k1m2) (c := k1c2) (by decide +kernel) rfl rfl rfl (by decide +kernel)
set_option maxRecDepth 65536 in
theorem w_c3 : (Jvm.Cond.code ({ cls := "java/lang/String", name := "<init>", desc := "([C)V" } : Jvm.MethodName) jdk_42_method_3_code (2 : Nat) (Option.none : Option Jvm.ClassFile.FieldType)).before args0 about1 = true := code_word (m := ⟨7, 1⟩) (meth := k7m1) (c := k7c1) (by decide +kernel) rfl rfl rfl (by decide +kernel)
set_option maxRecDepth 65536 in
theorem w_c4 : (Jvm.Cond.code ({ cls := "java/lang/String", name := "<init>", desc := "([CIILjava/lang/Void;)V" } : Jvm.MethodName) jdk_42_method_149_code (6 : Nat) (Option.none : Option Jvm.ClassFile.FieldType)).before args0 about1 = true := code_word (m := ⟨7, 8⟩) (meth := k7m8) (c := k7c8) (by decide +kernel) rfl rfl rfl (by decide +kernel)
set_option maxRecDepth 65536 in
theorem w_c5 : (Jvm.Cond.code ({ cls := "java/lang/Object", name := "<init>", desc := "()V" } : Jvm.MethodName) object_method_1_code (1 : Nat) (Option.none : Option Jvm.ClassFile.FieldType)).before args0 about1 = true := code_word (m := ⟨0, 0⟩) (meth := k0m0) (c := k0c0) (by decide +kernel) rfl rfl rfl (by decide +kernel)
set_option maxRecDepth 65536 in
theorem w_c6 : (Jvm.Cond.code ({ cls := "com/example/arcas/arcas/http/RequestLine", name := "query", desc := "(Ljava/lang/String;)Ljava/lang/String;" } : Jvm.MethodName) prog_21_method_6_code (2 : Nat) (Option.some (Jvm.ClassFile.FieldType.object "java/lang/String"))).before args0 about1 = true := code_word (m := ⟨8, 1⟩) (meth := k8m1) (c := k8c1) (by decide +kernel) rfl rfl rfl (by decide +kernel)
set_option maxRecDepth 65536 in
theorem w_c7 : (Jvm.Cond.code ({ cls := "java/lang/String", name := "indexOf", desc := "(I)I" } : Jvm.MethodName) jdk_42_method_79_code (2 : Nat) (Option.some Jvm.ClassFile.FieldType.int)).before args0 about1 = true := code_word (m := ⟨7, 4⟩) (meth := k7m4) (c := k7c4) (by decide +kernel) rfl rfl rfl (by decide +kernel)
set_option maxRecDepth 65536 in
theorem w_c8 : (Jvm.Cond.code ({ cls := "java/lang/String", name := "indexOf", desc := "(II)I" } : Jvm.MethodName) jdk_42_method_80_code (3 : Nat) (Option.some Jvm.ClassFile.FieldType.int)).before args0 about1 = true := code_word (m := ⟨7, 5⟩) (meth := k7m5) (c := k7c5) (by decide +kernel) rfl rfl rfl (by decide +kernel)
set_option maxRecDepth 65536 in
theorem w_c9 : (Jvm.Cond.code ({ cls := "java/lang/String", name := "isLatin1", desc := "()Z" } : Jvm.MethodName) jdk_42_method_154_code (1 : Nat) (Option.some Jvm.ClassFile.FieldType.boolean)).before args0 about1 = true := code_word (m := ⟨7, 11⟩) (meth := k7m11) (c := k7c11) (by decide +kernel) rfl rfl rfl (by decide +kernel)
set_option maxRecDepth 65536 in
theorem w_c10 : (Jvm.Cond.code ({ cls := "java/lang/String", name := "length", desc := "()I" } : Jvm.MethodName) jdk_42_method_54_code (1 : Nat) (Option.some Jvm.ClassFile.FieldType.int)).before args0 about1 = true := code_word (m := ⟨7, 2⟩) (meth := k7m2) (c := k7c2) (by decide +kernel) rfl rfl rfl (by decide +kernel)
set_option maxRecDepth 65536 in
theorem w_c11 : (Jvm.Cond.code ({ cls := "java/lang/String", name := "coder", desc := "()B" } : Jvm.MethodName) jdk_42_method_152_code (1 : Nat) (Option.some Jvm.ClassFile.FieldType.byte)).before args0 about1 = true := code_word (m := ⟨7, 10⟩) (meth := k7m10) (c := k7c10) (by decide +kernel) rfl rfl rfl (by decide +kernel)
set_option maxRecDepth 65536 in
theorem w_c12 : (Jvm.Cond.code ({ cls := "java/lang/StringLatin1", name := "indexOf", desc := "([BIII)I" } : Jvm.MethodName) jdk_43_method_22_code (4 : Nat) (Option.some Jvm.ClassFile.FieldType.int)).before args0 about1 = true := code_word (m := ⟨9, 3⟩) (meth := k9m3) (c := k9c3) (by decide +kernel) rfl rfl rfl (by decide +kernel)
set_option maxRecDepth 65536 in
theorem w_c13 : (Jvm.Cond.code ({ cls := "java/lang/StringLatin1", name := "canEncode", desc := "(I)Z" } : Jvm.MethodName) jdk_43_method_4_code (1 : Nat) (Option.some Jvm.ClassFile.FieldType.boolean)).before args0 about1 = true := code_word (m := ⟨9, 2⟩) (meth := k9m2) (c := k9c2) (by decide +kernel) rfl rfl rfl (by decide +kernel)
set_option maxRecDepth 65536 in
theorem w_c14 : (Jvm.Cond.code ({ cls := "java/lang/Math", name := "max", desc := "(II)I" } : Jvm.MethodName) jdk_29_method_65_code (2 : Nat) (Option.some Jvm.ClassFile.FieldType.int)).before args0 about1 = true := code_word (m := ⟨10, 1⟩) (meth := k10m1) (c := k10c1) (by decide +kernel) rfl rfl rfl (by decide +kernel)
set_option maxRecDepth 65536 in
theorem w_c15 : (Jvm.Cond.code ({ cls := "java/lang/Math", name := "min", desc := "(II)I" } : Jvm.MethodName) jdk_29_method_69_code (2 : Nat) (Option.some Jvm.ClassFile.FieldType.int)).before args0 about1 = true := code_word (m := ⟨10, 2⟩) (meth := k10m2) (c := k10c2) (by decide +kernel) rfl rfl rfl (by decide +kernel)
set_option maxRecDepth 65536 in
theorem w_c16 : (Jvm.Cond.code ({ cls := "com/example/arcas/arcas/http/RequestLineQueryPinLaw", name := "at", desc := "(Ljava/lang/String;I[CII)Z" } : Jvm.MethodName) method_4_code (5 : Nat) (Option.some Jvm.ClassFile.FieldType.boolean)).before args0 about1 = true := code_word (m := ⟨1, 3⟩) (meth := k1m3) (c := k1c3) (by decide +kernel) rfl rfl rfl (by decide +kernel)
set_option maxRecDepth 65536 in
theorem w_c17 : (Jvm.Cond.code ({ cls := "java/lang/StringUTF16", name := "compress", desc := "([CII)[B" } : Jvm.MethodName) jdk_52_method_16_code (6 : Nat) (Option.some (Jvm.ClassFile.FieldType.array Jvm.ClassFile.FieldType.byte))).before args0 about1 = true := code_word (m := ⟨11, 2⟩) (meth := k11m2) (c := k11c2) (by decide +kernel) rfl rfl rfl (by decide +kernel)
set_option maxRecDepth 65536 in
theorem w_c18 : (Jvm.Cond.code ({ cls := "java/lang/StringUTF16", name := "compress", desc := "([CI[BII)I" } : Jvm.MethodName) jdk_52_method_21_code (7 : Nat) (Option.some Jvm.ClassFile.FieldType.int)).before args0 about1 = true := code_word (m := ⟨11, 3⟩) (meth := k11m3) (c := k11c3) (by decide +kernel) rfl rfl rfl (by decide +kernel)
set_option maxRecDepth 65536 in
theorem w_c19 : (Jvm.Cond.code ({ cls := "java/lang/StringUTF16", name := "coderFromArrayLen", desc := "([BI)B" } : Jvm.MethodName) jdk_52_method_15_code (2 : Nat) (Option.some Jvm.ClassFile.FieldType.byte)).before args0 about1 = true := code_word (m := ⟨11, 1⟩) (meth := k11m1) (c := k11c1) (by decide +kernel) rfl rfl rfl (by decide +kernel)
set_option maxRecDepth 65536 in
theorem w_c20 : (Jvm.Cond.code ({ cls := "java/lang/StringLatin1", name := "indexOfChar", desc := "([BIII)I" } : Jvm.MethodName) jdk_43_method_23_code (6 : Nat) (Option.some Jvm.ClassFile.FieldType.int)).before args0 about1 = true := code_word (m := ⟨9, 4⟩) (meth := k9m4) (c := k9c4) (by decide +kernel) rfl rfl rfl (by decide +kernel)
set_option maxRecDepth 65536 in
theorem w_c21 : (Jvm.Cond.code ({ cls := "java/lang/String", name := "substring", desc := "(I)Ljava/lang/String;" } : Jvm.MethodName) jdk_42_method_91_code (2 : Nat) (Option.some (Jvm.ClassFile.FieldType.object "java/lang/String"))).before args0 about1 = true := code_word (m := ⟨7, 6⟩) (meth := k7m6) (c := k7c6) (by decide +kernel) rfl rfl rfl (by decide +kernel)
set_option maxRecDepth 65536 in
theorem w_c22 : (Jvm.Cond.code ({ cls := "java/lang/String", name := "substring", desc := "(II)Ljava/lang/String;" } : Jvm.MethodName) jdk_42_method_92_code (5 : Nat) (Option.some (Jvm.ClassFile.FieldType.object "java/lang/String"))).before args0 about1 = true := code_word (m := ⟨7, 7⟩) (meth := k7m7) (c := k7c7) (by decide +kernel) rfl rfl rfl (by decide +kernel)
set_option maxRecDepth 65536 in
theorem w_c23 : (Jvm.Cond.code ({ cls := "java/lang/String", name := "checkBoundsBeginEnd", desc := "(III)V" } : Jvm.MethodName) jdk_42_method_158_code (3 : Nat) (Option.none : Option Jvm.ClassFile.FieldType)).before args0 about1 = true := code_word (m := ⟨7, 13⟩) (meth := k7m13) (c := k7c13) (by decide +kernel) rfl rfl rfl (by decide +kernel)
set_option maxRecDepth 65536 in
theorem w_c24 : (Jvm.Cond.code ({ cls := "jdk/internal/util/Preconditions", name := "checkFromToIndex", desc := "(IIILjava/util/function/BiFunction;)I" } : Jvm.MethodName) jdk_41_method_12_code (4 : Nat) (Option.some Jvm.ClassFile.FieldType.int)).before args0 about1 = true := code_word (m := ⟨12, 2⟩) (meth := k12m2) (c := k12c2) (by decide +kernel) rfl rfl rfl (by decide +kernel)
set_option maxRecDepth 65536 in
theorem w_c25 : (Jvm.Cond.code ({ cls := "java/lang/StringLatin1", name := "newString", desc := "([BII)Ljava/lang/String;" } : Jvm.MethodName) jdk_43_method_47_code (3 : Nat) (Option.some (Jvm.ClassFile.FieldType.object "java/lang/String"))).before args0 about1 = true := code_word (m := ⟨9, 5⟩) (meth := k9m5) (c := k9c5) (by decide +kernel) rfl rfl rfl (by decide +kernel)
set_option maxRecDepth 65536 in
theorem w_c26 : (Jvm.Cond.code ({ cls := "java/util/Arrays", name := "copyOfRange", desc := "([BII)[B" } : Jvm.MethodName) jdk_65_method_132_code (3 : Nat) (Option.some (Jvm.ClassFile.FieldType.array Jvm.ClassFile.FieldType.byte))).before args0 about1 = true := code_word (m := ⟨13, 2⟩) (meth := k13m2) (c := k13c2) (by decide +kernel) rfl rfl rfl (by decide +kernel)
set_option maxRecDepth 65536 in
theorem w_c27 : (Jvm.Cond.code ({ cls := "java/util/Arrays", name := "copyOfRangeByte", desc := "([BII)[B" } : Jvm.MethodName) jdk_65_method_133_code (5 : Nat) (Option.some (Jvm.ClassFile.FieldType.array Jvm.ClassFile.FieldType.byte))).before args0 about1 = true := code_word (m := ⟨13, 3⟩) (meth := k13m3) (c := k13c3) (by decide +kernel) rfl rfl rfl (by decide +kernel)
set_option maxRecDepth 65536 in
theorem w_c28 : (Jvm.Cond.code ({ cls := "java/util/Arrays", name := "checkLength", desc := "(II)V" } : Jvm.MethodName) jdk_65_method_131_code (2 : Nat) (Option.none : Option Jvm.ClassFile.FieldType)).before args0 about1 = true := code_word (m := ⟨13, 1⟩) (meth := k13m1) (c := k13c1) (by decide +kernel) rfl rfl rfl (by decide +kernel)
set_option maxRecDepth 65536 in
theorem w_c29 : (Jvm.Cond.code ({ cls := "java/lang/String", name := "<init>", desc := "([BB)V" } : Jvm.MethodName) jdk_42_method_151_code (3 : Nat) (Option.none : Option Jvm.ClassFile.FieldType)).before args0 about1 = true := code_word (m := ⟨7, 9⟩) (meth := k7m9) (c := k7c9) (by decide +kernel) rfl rfl rfl (by decide +kernel)
set_option maxRecDepth 65536 in
theorem w_c30 : (Jvm.Cond.code ({ cls := "java/lang/String", name := "charAt", desc := "(I)C" } : Jvm.MethodName) jdk_42_method_56_code (2 : Nat) (Option.some Jvm.ClassFile.FieldType.char)).before args0 about1 = true := code_word (m := ⟨7, 3⟩) (meth := k7m3) (c := k7c3) (by decide +kernel) rfl rfl rfl (by decide +kernel)
set_option maxRecDepth 65536 in
theorem w_c31 : (Jvm.Cond.code ({ cls := "java/lang/StringLatin1", name := "charAt", desc := "([BI)C" } : Jvm.MethodName) jdk_43_method_2_code (2 : Nat) (Option.some Jvm.ClassFile.FieldType.char)).before args0 about1 = true := code_word (m := ⟨9, 1⟩) (meth := k9m1) (c := k9c1) (by decide +kernel) rfl rfl rfl (by decide +kernel)
set_option maxRecDepth 65536 in
theorem w_c32 : (Jvm.Cond.code ({ cls := "java/lang/String", name := "checkIndex", desc := "(II)V" } : Jvm.MethodName) jdk_42_method_155_code (2 : Nat) (Option.none : Option Jvm.ClassFile.FieldType)).before args0 about1 = true := code_word (m := ⟨7, 12⟩) (meth := k7m12) (c := k7c12) (by decide +kernel) rfl rfl rfl (by decide +kernel)
set_option maxRecDepth 65536 in
theorem w_c33 : (Jvm.Cond.code ({ cls := "jdk/internal/util/Preconditions", name := "checkIndex", desc := "(IILjava/util/function/BiFunction;)I" } : Jvm.MethodName) jdk_41_method_11_code (3 : Nat) (Option.some Jvm.ClassFile.FieldType.int)).before args0 about1 = true := code_word (m := ⟨12, 1⟩) (meth := k12m1) (c := k12c1) (by decide +kernel) rfl rfl rfl (by decide +kernel)
def codes1 : List Jvm.Cond := [Jvm.Cond.code x code maxLocals ret, Jvm.Cond.code ({ cls := "com/example/arcas/arcas/http/RequestLineQueryPinLaw", name := "ch", desc := "(I)C" } : Jvm.MethodName) method_2_code (1 : Nat) (Option.some Jvm.ClassFile.FieldType.char), Jvm.Cond.code ({ cls := "com/example/arcas/arcas/http/RequestLineQueryPinLaw", name := "take", desc := "(ICCCC)[C" } : Jvm.MethodName) method_3_code (5 : Nat) (Option.some (Jvm.ClassFile.FieldType.array Jvm.ClassFile.FieldType.char)), Jvm.Cond.code ({ cls := "java/lang/String", name := "<init>", desc := "([C)V" } : Jvm.MethodName) jdk_42_method_3_code (2 : Nat) (Option.none : Option Jvm.ClassFile.FieldType), Jvm.Cond.code ({ cls := "java/lang/String", name := "<init>", desc := "([CIILjava/lang/Void;)V" } : Jvm.MethodName) jdk_42_method_149_code (6 : Nat) (Option.none : Option Jvm.ClassFile.FieldType), Jvm.Cond.code ({ cls := "java/lang/Object", name := "<init>", desc := "()V" } : Jvm.MethodName) object_method_1_code (1 : Nat) (Option.none : Option Jvm.ClassFile.FieldType), Jvm.Cond.code ({ cls := "com/example/arcas/arcas/http/RequestLine", name := "query", desc := "(Ljava/lang/String;)Ljava/lang/String;" } : Jvm.MethodName) prog_21_method_6_code (2 : Nat) (Option.some (Jvm.ClassFile.FieldType.object "java/lang/String")), Jvm.Cond.code ({ cls := "java/lang/String", name := "indexOf", desc := "(I)I" } : Jvm.MethodName) jdk_42_method_79_code (2 : Nat) (Option.some Jvm.ClassFile.FieldType.int), Jvm.Cond.code ({ cls := "java/lang/String", name := "indexOf", desc := "(II)I" } : Jvm.MethodName) jdk_42_method_80_code (3 : Nat) (Option.some Jvm.ClassFile.FieldType.int), Jvm.Cond.code ({ cls := "java/lang/String", name := "isLatin1", desc := "()Z" } : Jvm.MethodName) jdk_42_method_154_code (1 : Nat) (Option.some Jvm.ClassFile.FieldType.boolean), Jvm.Cond.code ({ cls := "java/lang/String", name := "length", desc := "()I" } : Jvm.MethodName) jdk_42_method_54_code (1 : Nat) (Option.some Jvm.ClassFile.FieldType.int), Jvm.Cond.code ({ cls := "java/lang/String", name := "coder", desc := "()B" } : Jvm.MethodName) jdk_42_method_152_code (1 : Nat) (Option.some Jvm.ClassFile.FieldType.byte), Jvm.Cond.code ({ cls := "java/lang/StringLatin1", name := "indexOf", desc := "([BIII)I" } : Jvm.MethodName) jdk_43_method_22_code (4 : Nat) (Option.some Jvm.ClassFile.FieldType.int), Jvm.Cond.code ({ cls := "java/lang/StringLatin1", name := "canEncode", desc := "(I)Z" } : Jvm.MethodName) jdk_43_method_4_code (1 : Nat) (Option.some Jvm.ClassFile.FieldType.boolean), Jvm.Cond.code ({ cls := "java/lang/Math", name := "max", desc := "(II)I" } : Jvm.MethodName) jdk_29_method_65_code (2 : Nat) (Option.some Jvm.ClassFile.FieldType.int), Jvm.Cond.code ({ cls := "java/lang/Math", name := "min", desc := "(II)I" } : Jvm.MethodName) jdk_29_method_69_code (2 : Nat) (Option.some Jvm.ClassFile.FieldType.int), Jvm.Cond.code ({ cls := "com/example/arcas/arcas/http/RequestLineQueryPinLaw", name := "at", desc := "(Ljava/lang/String;I[CII)Z" } : Jvm.MethodName) method_4_code (5 : Nat) (Option.some Jvm.ClassFile.FieldType.boolean), Jvm.Cond.code ({ cls := "java/lang/StringUTF16", name := "compress", desc := "([CII)[B" } : Jvm.MethodName) jdk_52_method_16_code (6 : Nat) (Option.some (Jvm.ClassFile.FieldType.array Jvm.ClassFile.FieldType.byte)), Jvm.Cond.code ({ cls := "java/lang/StringUTF16", name := "compress", desc := "([CI[BII)I" } : Jvm.MethodName) jdk_52_method_21_code (7 : Nat) (Option.some Jvm.ClassFile.FieldType.int), Jvm.Cond.code ({ cls := "java/lang/StringUTF16", name := "coderFromArrayLen", desc := "([BI)B" } : Jvm.MethodName) jdk_52_method_15_code (2 : Nat) (Option.some Jvm.ClassFile.FieldType.byte), Jvm.Cond.code ({ cls := "java/lang/StringLatin1", name := "indexOfChar", desc := "([BIII)I" } : Jvm.MethodName) jdk_43_method_23_code (6 : Nat) (Option.some Jvm.ClassFile.FieldType.int), Jvm.Cond.code ({ cls := "java/lang/String", name := "substring", desc := "(I)Ljava/lang/String;" } : Jvm.MethodName) jdk_42_method_91_code (2 : Nat) (Option.some (Jvm.ClassFile.FieldType.object "java/lang/String")), Jvm.Cond.code ({ cls := "java/lang/String", name := "substring", desc := "(II)Ljava/lang/String;" } : Jvm.MethodName) jdk_42_method_92_code (5 : Nat) (Option.some (Jvm.ClassFile.FieldType.object "java/lang/String")), Jvm.Cond.code ({ cls := "java/lang/String", name := "checkBoundsBeginEnd", desc := "(III)V" } : Jvm.MethodName) jdk_42_method_158_code (3 : Nat) (Option.none : Option Jvm.ClassFile.FieldType), Jvm.Cond.code ({ cls := "jdk/internal/util/Preconditions", name := "checkFromToIndex", desc := "(IIILjava/util/function/BiFunction;)I" } : Jvm.MethodName) jdk_41_method_12_code (4 : Nat) (Option.some Jvm.ClassFile.FieldType.int), Jvm.Cond.code ({ cls := "java/lang/StringLatin1", name := "newString", desc := "([BII)Ljava/lang/String;" } : Jvm.MethodName) jdk_43_method_47_code (3 : Nat) (Option.some (Jvm.ClassFile.FieldType.object "java/lang/String")), Jvm.Cond.code ({ cls := "java/util/Arrays", name := "copyOfRange", desc := "([BII)[B" } : Jvm.MethodName) jdk_65_method_132_code (3 : Nat) (Option.some (Jvm.ClassFile.FieldType.array Jvm.ClassFile.FieldType.byte)), Jvm.Cond.code ({ cls := "java/util/Arrays", name := "copyOfRangeByte", desc := "([BII)[B" } : Jvm.MethodName) jdk_65_method_133_code (5 : Nat) (Option.some (Jvm.ClassFile.FieldType.array Jvm.ClassFile.FieldType.byte)), Jvm.Cond.code ({ cls := "java/util/Arrays", name := "checkLength", desc := "(II)V" } : Jvm.MethodName) jdk_65_method_131_code (2 : Nat) (Option.none : Option Jvm.ClassFile.FieldType), Jvm.Cond.code ({ cls := "java/lang/String", name := "<init>", desc := "([BB)V" } : Jvm.MethodName) jdk_42_method_151_code (3 : Nat) (Option.none : Option Jvm.ClassFile.FieldType), Jvm.Cond.code ({ cls := "java/lang/String", name := "charAt", desc := "(I)C" } : Jvm.MethodName) jdk_42_method_56_code (2 : Nat) (Option.some Jvm.ClassFile.FieldType.char), Jvm.Cond.code ({ cls := "java/lang/StringLatin1", name := "charAt", desc := "([BI)C" } : Jvm.MethodName) jdk_43_method_2_code (2 : Nat) (Option.some Jvm.ClassFile.FieldType.char), Jvm.Cond.code ({ cls := "java/lang/String", name := "checkIndex", desc := "(II)V" } : Jvm.MethodName) jdk_42_method_155_code (2 : Nat) (Option.none : Option Jvm.ClassFile.FieldType), Jvm.Cond.code ({ cls := "jdk/internal/util/Preconditions", name := "checkIndex", desc := "(IILjava/util/function/BiFunction;)I" } : Jvm.MethodName) jdk_41_method_11_code (3 : Nat) (Option.some Jvm.ClassFile.FieldType.int)]
set_option maxRecDepth 65536 in
theorem codes_eq : words1.filter isCode = codes1 := rfl
theorem w_codes : ∀ c ∈ words1.filter isCode, c.before args0 about1 = true := by
  rw [codes_eq]
  intro c hc
  simp only [codes1, List.mem_cons, List.not_mem_nil, or_false] at hc
  rcases hc with rfl | rfl | rfl | rfl | rfl | rfl | rfl | rfl | rfl | rfl | rfl | rfl | rfl | rfl | rfl | rfl | rfl | rfl | rfl | rfl | rfl | rfl | rfl | rfl | rfl | rfl | rfl | rfl | rfl | rfl | rfl | rfl | rfl | rfl
  · exact w_c0
  · exact w_c1
  · exact w_c2
  · exact w_c3
  · exact w_c4
  · exact w_c5
  · exact w_c6
  · exact w_c7
  · exact w_c8
  · exact w_c9
  · exact w_c10
  · exact w_c11
  · exact w_c12
  · exact w_c13
  · exact w_c14
  · exact w_c15
  · exact w_c16
  · exact w_c17
  · exact w_c18
  · exact w_c19
  · exact w_c20
  · exact w_c21
  · exact w_c22
  · exact w_c23
  · exact w_c24
  · exact w_c25
  · exact w_c26
  · exact w_c27
  · exact w_c28
  · exact w_c29
  · exact w_c30
  · exact w_c31
  · exact w_c32
  · exact w_c33
set_option maxRecDepth 65536 in
theorem w_t1 : (words1.take 24).all (fun c => isCode c || c.before args0 about1) = true := by decide +kernel
set_option maxRecDepth 65536 in
theorem w_t2 : ((words1.drop 24).take 24).all (fun c => isCode c || c.before args0 about1) = true := by decide +kernel
set_option maxRecDepth 65536 in
theorem w_t3 : (((words1.drop 24).drop 24).take 24).all (fun c => isCode c || c.before args0 about1) = true := by decide +kernel
set_option maxRecDepth 65536 in
theorem w_t4 : ((((words1.drop 24).drop 24).drop 24).take 24).all (fun c => isCode c || c.before args0 about1) = true := by decide +kernel
set_option maxRecDepth 65536 in
theorem w_t5 : (((((words1.drop 24).drop 24).drop 24).drop 24).take 24).all (fun c => isCode c || c.before args0 about1) = true := by decide +kernel
set_option maxRecDepth 65536 in
theorem w_t6 : ((((((words1.drop 24).drop 24).drop 24).drop 24).drop 24).take 24).all (fun c => isCode c || c.before args0 about1) = true := by decide +kernel
set_option maxRecDepth 65536 in
theorem w_t7 : ((((((words1.drop 24).drop 24).drop 24).drop 24).drop 24).drop 24).all (fun c => isCode c || c.before args0 about1) = true := by decide +kernel
theorem w_tables : (allAtoms (Jvm.Cond.code x code maxLocals ret :: tables_1)).before args0 about1 = true := by
  rw [allAtoms_all]
  show words1.all (fun c => c.before args0 about1) = true
  refine all_split ?_ w_codes
  rw [← List.take_append_drop 24 words1, List.all_append, w_t1, ← List.take_append_drop 24 (words1.drop 24), List.all_append, w_t2, ← List.take_append_drop 24 ((words1.drop 24).drop 24), List.all_append, w_t3, ← List.take_append_drop 24 (((words1.drop 24).drop 24).drop 24), List.all_append, w_t4, ← List.take_append_drop 24 ((((words1.drop 24).drop 24).drop 24).drop 24), List.all_append, w_t5, ← List.take_append_drop 24 (((((words1.drop 24).drop 24).drop 24).drop 24).drop 24), List.all_append, w_t6, w_t7]
  rfl
set_option maxRecDepth 65536 in
theorem w_rest : rest_1_c.before args0 about1 = true := by decide +kernel
set_option maxRecDepth 65536 in
theorem w_case : (Jvm.Cond.and given_1 narrow_1).before args0 about1 = true := by decide +kernel
set_option maxRecDepth 65536 in
theorem w_consts : constsHeld consts_1 about1 := Jvm.Lit.constsHeldB_iff.mp (by decide +kernel)
theorem w_applies : (headSpec (Jvm.Cond.code x code maxLocals ret :: tables_1) room_1).applies x e0.platform about1 = true :=
  (Spec.applies_iff w_frames).mpr ⟨w_running, w_runnable, w_alone, w_named, w_hears, w_ripe, w_room, w_tables⟩
theorem atStart : AtStart classFile x code maxLocals ret World_1 tables_1 room_1 Calls_1 rest_1 Pre_1 launch0 p0 e0 about1 theMethod args0 below0 :=
  ⟨lists_1, trivial, launch0.admits_env _ _ _, launch0.least_env, fairChoices_fair.cas, fairChoices_fair.clock, w_frames, w_args, w_heap, w_applies, ⟨w_consts, trivial⟩, w_rest, w_case⟩
end start1
theorem witness_1 : WitnessClaimed_1 := ⟨start1.p0, start1.e0, start1.about1, start1.theMethod, start1.args0, start1.below0, start1.atStart⟩
end Jvm.Pilot.@@N@@
