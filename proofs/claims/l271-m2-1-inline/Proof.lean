import JvmDerived
import JvmDerived.Pilot.@@N@@Statement
import JvmDerived.Pilot.@@N@@Code
set_option linter.unusedVariables false
set_option linter.unusedSimpArgs false
namespace Jvm.RoadKit
open Sem ClassFile Op Lib Jvm.Stand Jvm.Free Jvm.LawKit
section New
variable {p : Program} {l : Launch} {e : Env} {R : Room} {s : State} {m : MethodId} {args : Array Value} {below : List Frame} {meth : Method} {c : Code} {T : State} {locs : List Loc} {cells slots : Nat}
theorem retI (X : Stand p l e R s m args below meth c T locs cells slots) (hx : p.tables.exec = Jvm.exec) {pc : Nat} {Ls : Array Slot} {z : Int32} {rest : List Value} (hret : meth.sig.returnType = some .int) (hd : decode c.code pc = .ok (.ireturn, 1)) {fs : List Frame}
    (hl : ∀ (f : JFrame) (acts : List Action), f.method = m → f.locked = none → f.entered = [] → (doReturn e (T.setTop f) acts (some (.int z))).1 = T.setFrames fs) : Steps p.tables e below (T.setTop (mkF m pc Ls (.int z :: rest))) (T.setFrames fs) := by
  have hm' : T.vm.method? m = some meth := X.method'
  have hn : narrow .int (.int z) = .int z := rfl
  show Steps p.tables e below (T.setTop { method := m, pc := pc, locals := Ls, stack := _ :: rest, locked := none }) _
  jvm_step X.here [X.here.top, hx, hd, hm', hret, hn]
  first | (intro acts; rw [hl _ acts rfl rfl rfl]) | rw [hl _ _ rfl rfl rfl]
  exact Steps.refl _
end New
end Jvm.RoadKit
namespace Jvm.Pilot.@@N@@
open Jvm Jvm.ClassFile Sem Op Lib Jvm.Free Jvm.Stand Jvm.LawKit Jvm.RoadKit Bundle Jvm.Pilot.@@N@@.Jvm.D
theorem og {tb : Tables} {e : Env} {below : List Frame} {A B : State} {R : State → Outcome → Prop} (h : ∀ t, Steps tb e below B t → Steps tb e below A t) (k : ∃ s₂ o, Steps tb e below B s₂ ∧ R s₂ o) : ∃ s₂ o, Steps tb e below A s₂ ∧ R s₂ o := by
  obtain ⟨s₂, o, h1, h2⟩ := k
  exact ⟨s₂, o, h _ h1, h2⟩
theorem ow {Z : State} {a0 : Array Value} {d : Jvm.Cond} (hw : ∀ d ∈ tables_1, d.before a0 Z = true) (i : Nat) (h : tables_1[i]? = some d) : d.before a0 Z = true := hw _ (List.mem_of_getElem? h)
abbrev own_S (p : Program) (e : Env) (below : List Frame) (T : State) (f : JFrame) (t : State) : Prop := Steps p.tables e below (T.setTop f) t
abbrev own_y0 : MethodName := ⟨"java/lang/String", "isLatin1", "()Z"⟩
abbrev own_y1 : MethodName := ⟨"java/lang/String", "coder", "()B"⟩
abbrev own_y2 : MethodName := ⟨"java/lang/String", "length", "()I"⟩
abbrev own_y3 : MethodName := ⟨"jdk/internal/util/Preconditions", "checkIndex", "(IILjava/util/function/BiFunction;)I"⟩
abbrev own_y4 : MethodName := ⟨"java/lang/String", "checkIndex", "(II)V"⟩
abbrev own_y5 : MethodName := ⟨"java/lang/StringLatin1", "charAt", "([BI)C"⟩
abbrev own_y6 : MethodName := ⟨"java/lang/String", "charAt", "(I)C"⟩
abbrev own_y7 : MethodName := ⟨"java/lang/StringUTF16", "compress", "([CI[BII)I"⟩
abbrev own_y8 : MethodName := ⟨"java/lang/StringUTF16", "compress", "([CII)[B"⟩
abbrev own_y9 : MethodName := ⟨"java/lang/StringUTF16", "coderFromArrayLen", "([BI)B"⟩
abbrev own_y10 : MethodName := ⟨"java/lang/String", "<init>", "([CIILjava/lang/Void;)V"⟩
abbrev own_y11 : MethodName := ⟨"java/lang/String", "<init>", "([C)V"⟩
abbrev own_y12 : MethodName := ⟨"java/lang/Math", "min", "(II)I"⟩
abbrev own_y13 : MethodName := ⟨"java/lang/AbstractStringBuilder", "<init>", "(I)V"⟩
abbrev own_y14 : MethodName := ⟨"java/lang/StringBuilder", "<init>", "()V"⟩
abbrev own_y15 : MethodName := ⟨"java/lang/AbstractStringBuilder", "ensureCapacityInternal", "(I)V"⟩
abbrev own_y16 : MethodName := ⟨"java/lang/AbstractStringBuilder", "inflateIfNeededFor", "(Ljava/lang/String;)V"⟩
abbrev own_y17 : MethodName := ⟨"java/lang/String", "getBytes", "([BIB)V"⟩
abbrev own_y18 : MethodName := ⟨"java/lang/AbstractStringBuilder", "putStringAt", "(ILjava/lang/String;)V"⟩
abbrev own_y19 : MethodName := ⟨"java/lang/AbstractStringBuilder", "append", "(Ljava/lang/String;)Ljava/lang/AbstractStringBuilder;"⟩
abbrev own_y20 : MethodName := ⟨"java/lang/StringBuilder", "append", "(Ljava/lang/String;)Ljava/lang/StringBuilder;"⟩
abbrev own_y21 : MethodName := ⟨"java/lang/AbstractStringBuilder", "getValue", "()[B"⟩
abbrev own_y22 : MethodName := ⟨"java/lang/AbstractStringBuilder", "length", "()I"⟩
abbrev own_y23 : MethodName := ⟨"java/lang/StringBuilder", "length", "()I"⟩
abbrev own_y24 : MethodName := ⟨"java/lang/AbstractStringBuilder", "isLatin1", "()Z"⟩
abbrev own_y25 : MethodName := ⟨"java/util/Arrays", "checkLength", "(II)V"⟩
abbrev own_y26 : MethodName := ⟨"java/util/Arrays", "copyOfRangeByte", "([BII)[B"⟩
abbrev own_y27 : MethodName := ⟨"java/util/Arrays", "copyOfRange", "([BII)[B"⟩
abbrev own_y28 : MethodName := ⟨"java/lang/String", "<init>", "(Ljava/lang/AbstractStringBuilder;Ljava/lang/Void;)V"⟩
abbrev own_y29 : MethodName := ⟨"java/lang/String", "<init>", "(Ljava/lang/StringBuilder;)V"⟩
abbrev own_y30 : MethodName := ⟨"java/lang/StringBuilder", "toString", "()Ljava/lang/String;"⟩
abbrev own_y31 : MethodName := ⟨"java/lang/CharacterDataLatin1", "toLowerCase", "(I)I"⟩
abbrev own_y32 : MethodName := ⟨"java/lang/StringLatin1", "canEncode", "(I)Z"⟩
abbrev own_y33 : MethodName := ⟨"sun/util/locale/BaseLocale", "getLanguage", "()Ljava/lang/String;"⟩
abbrev own_y34 : MethodName := ⟨"java/util/Locale", "getLanguage", "()Ljava/lang/String;"⟩
abbrev own_y35 : MethodName := ⟨"java/lang/String", "<init>", "([BB)V"⟩
abbrev own_y36 : MethodName := ⟨"java/lang/StringLatin1", "toLowerCase", "(Ljava/lang/String;[BLjava/util/Locale;)Ljava/lang/String;"⟩
abbrev own_y37 : MethodName := ⟨"java/lang/String", "toLowerCase", "(Ljava/util/Locale;)Ljava/lang/String;"⟩
abbrev own_y38 : MethodName := ⟨"com/example/sira/sira/engine/StreamState", "key", "(Ljava/lang/String;Ljava/lang/String;)Ljava/lang/String;"⟩
abbrev own_y39 : MethodName := ⟨"com/example/sira/sira/engine/StreamStateKeyPinLaw", "str", "(ICCC)Ljava/lang/String;"⟩
abbrev own_y40 : MethodName := ⟨"com/example/sira/sira/engine/StreamStateKeyPinLaw", "lower", "(C)C"⟩
theorem own_pd0 : parseMethodDescriptor "()B" = some ⟨[], some .byte⟩ := by decide +kernel
theorem own_pd1 : parseMethodDescriptor "(IILjava/util/function/BiFunction;)I" = some ⟨[.int, .int, (.object "java/util/function/BiFunction")], some .int⟩ := by decide +kernel
theorem own_pd2 : parseMethodDescriptor "(II)V" = some ⟨[.int, .int], none⟩ := by decide +kernel
theorem own_pd3 : parseMethodDescriptor "()Z" = some ⟨[], some .boolean⟩ := by decide +kernel
theorem own_pd4 : parseMethodDescriptor "([BI)C" = some ⟨[(.array .byte), .int], some .char⟩ := by decide +kernel
theorem own_pd5 : parseMethodDescriptor "([CI[BII)I" = some ⟨[(.array .char), .int, (.array .byte), .int, .int], some .int⟩ := by decide +kernel
theorem own_pd6 : parseMethodDescriptor "([CII)[B" = some ⟨[(.array .char), .int, .int], some (.array .byte)⟩ := by decide +kernel
theorem own_pd7 : parseMethodDescriptor "([BI)B" = some ⟨[(.array .byte), .int], some .byte⟩ := by decide +kernel
theorem own_pd8 : parseMethodDescriptor "([CIILjava/lang/Void;)V" = some ⟨[(.array .char), .int, .int, (.object "java/lang/Void")], none⟩ := by decide +kernel
theorem own_pd9 : parseMethodDescriptor "(I)V" = some ⟨[.int], none⟩ := by decide +kernel
theorem own_pd10 : parseMethodDescriptor "(Ljava/lang/String;)V" = some ⟨[(.object "java/lang/String")], none⟩ := by decide +kernel
theorem own_pd11 : parseMethodDescriptor "([BIB)V" = some ⟨[(.array .byte), .int, .byte], none⟩ := by decide +kernel
theorem own_pd12 : parseMethodDescriptor "()I" = some ⟨[], some .int⟩ := by decide +kernel
theorem own_pd13 : parseMethodDescriptor "(ILjava/lang/String;)V" = some ⟨[.int, (.object "java/lang/String")], none⟩ := by decide +kernel
theorem own_pd14 : parseMethodDescriptor "(Ljava/lang/String;)Ljava/lang/AbstractStringBuilder;" = some ⟨[(.object "java/lang/String")], some (.object "java/lang/AbstractStringBuilder")⟩ := by decide +kernel
theorem own_pd15 : parseMethodDescriptor "(II)I" = some ⟨[.int, .int], some .int⟩ := by decide +kernel
theorem own_pd16 : parseMethodDescriptor "([BII)[B" = some ⟨[(.array .byte), .int, .int], some (.array .byte)⟩ := by decide +kernel
theorem own_pd17 : parseMethodDescriptor "()[B" = some ⟨[], some (.array .byte)⟩ := by decide +kernel
theorem own_pd18 : parseMethodDescriptor "(Ljava/lang/AbstractStringBuilder;Ljava/lang/Void;)V" = some ⟨[(.object "java/lang/AbstractStringBuilder"), (.object "java/lang/Void")], none⟩ := by decide +kernel
theorem own_pd19 : parseMethodDescriptor "(Ljava/lang/StringBuilder;)V" = some ⟨[(.object "java/lang/StringBuilder")], none⟩ := by decide +kernel
theorem own_pd20 : parseMethodDescriptor "()Ljava/lang/String;" = some ⟨[], some (.object "java/lang/String")⟩ := by decide +kernel
theorem own_pd21 : parseMethodDescriptor "(I)I" = some ⟨[.int], some .int⟩ := by decide +kernel
theorem own_pd22 : parseMethodDescriptor "(I)Z" = some ⟨[.int], some .boolean⟩ := by decide +kernel
theorem own_pd23 : parseMethodDescriptor "([BB)V" = some ⟨[(.array .byte), .byte], none⟩ := by decide +kernel
theorem own_pd24 : parseMethodDescriptor "(Ljava/lang/String;[BLjava/util/Locale;)Ljava/lang/String;" = some ⟨[(.object "java/lang/String"), (.array .byte), (.object "java/util/Locale")], some (.object "java/lang/String")⟩ := by decide +kernel
theorem own_pd25 : parseMethodDescriptor "()V" = some ⟨[], none⟩ := by decide +kernel
theorem own_pd26 : parseMethodDescriptor "(Ljava/lang/String;)Ljava/lang/StringBuilder;" = some ⟨[(.object "java/lang/String")], some (.object "java/lang/StringBuilder")⟩ := by decide +kernel
theorem own_pd27 : parseMethodDescriptor "(Ljava/util/Locale;)Ljava/lang/String;" = some ⟨[(.object "java/util/Locale")], some (.object "java/lang/String")⟩ := by decide +kernel
theorem own_pd28 : parseMethodDescriptor "([C)V" = some ⟨[(.array .char)], none⟩ := by decide +kernel
theorem own_pd29 : parseMethodDescriptor "(ICCC)Ljava/lang/String;" = some ⟨[.int, .char, .char, .char], some (.object "java/lang/String")⟩ := by decide +kernel
theorem own_pd30 : parseMethodDescriptor "(Ljava/lang/String;Ljava/lang/String;)Ljava/lang/String;" = some ⟨[(.object "java/lang/String"), (.object "java/lang/String")], some (.object "java/lang/String")⟩ := by decide +kernel
theorem own_pd31 : parseMethodDescriptor "(I)C" = some ⟨[.int], some .char⟩ := by decide +kernel
theorem own_pd32 : parseMethodDescriptor "(C)C" = some ⟨[.char], some .char⟩ := by decide +kernel
theorem own_safe {Z : State} {EL : List (String × Nat)} {vm : Vm} {h : Heap} {x : Addr} (hal : Z.vm.Alike vm) (E : Exa Z h x "java/lang/String") (F : Fld Z h x "java/lang/String" "value" "[B" .null) : Safe Z EL vm h x := fun B => by
  obtain ⟨p, -, u, a, -, q, -, G, rfl | rfl⟩ := B
  · obtain ⟨cS, ⟨⟨s1, s2, s3, ⟨cv, kv, iv, s4, s4'⟩, -, s6, s7, s8, -⟩, -, -⟩, -⟩ := G
    obtain ⟨kv', z4⟩ := ff_back (Z := Z) (U := Wst Z vm h) hal s4
    have F2 : Fld Z h q.sa "java/lang/String" "value" "[B" (.ref q.sd) := ⟨q.sC, cv, kv', iv, q.fSV, s1, z4, s6, s2, s3, by rw [← hal.assignable]; exact s4', s8⟩
    exact Fld.ne F F2 (by simp) rfl
  · obtain ⟨cell, k, e1, e2, e3, -, -⟩ := E
    cases (show h[q.sd]? = some q.SA from G.hd).symm.trans e1
    obtain ⟨cS, -, -, f, -⟩ := G
    have f' : Z.vm.findClass "[B" = some q.SA.cls := (hal.findClass _ _).symm.trans f
    obtain ⟨k1, q1, q2⟩ := Vm.findClass_spec f'
    obtain ⟨k2, q3, q4⟩ := Vm.findClass_spec e2
    cases q1.symm.trans q3
    exact absurd (q2.symm.trans q4) (by decide)
theorem own_ext {h h' : Heap} (K : Keep h h' []) : Ext h h' := ⟨K.1, fun a c q => K.2.1 a c q nin0⟩
theorem own_wS {Z : State} {a0 : Array Value} (hw : ∀ d ∈ tables_1, d.before a0 Z = true) : ∀ a ∈ Bundle.stringAtoms, a.before a0 Z = true := fun d hd => hw d ((by decide +kernel : ∀ d ∈ Bundle.stringAtoms, d ∈ tables_1) d hd)
theorem own_ht0 : (∀ c ∈ "".toList, c.toNat < 256) ∧ "".toList.map (fun c => Value.int (Jvm.Lit.byteI c.toNat.toUInt16)) = [] := ⟨fun c hc => by simp at hc, rfl⟩
theorem own_httr : (∀ c ∈ "tr".toList, c.toNat < 256) ∧ "tr".toList.map (fun c => Value.int (Jvm.Lit.byteI c.toNat.toUInt16)) = [(.int (116 : Int32)), (.int (114 : Int32))] := ⟨by decide, by decide⟩
theorem own_htaz : (∀ c ∈ "az".toList, c.toNat < 256) ∧ "az".toList.map (fun c => Value.int (Jvm.Lit.byteI c.toNat.toUInt16)) = [(.int (97 : Int32)), (.int (122 : Int32))] := ⟨by decide, by decide⟩
theorem own_htlt : (∀ c ∈ "lt".toList, c.toNat < 256) ∧ "lt".toList.map (fun c => Value.int (Jvm.Lit.byteI c.toNat.toUInt16)) = [(.int (108 : Int32)), (.int (116 : Int32))] := ⟨by decide, by decide⟩
theorem own_hEL {Z : State} {a0 : Array Value} (hw : ∀ d ∈ tables_1, d.before a0 Z = true) : EW Z a0 consts_1 := (EW.cons (text := "") (ow hw 34 rfl) own_ht0.1 (EW.cons (text := "tr") (ow hw 209 rfl) own_httr.1 (EW.cons (text := "az") (ow hw 210 rfl) own_htaz.1 (EW.cons (text := "lt") (ow hw 211 rfl) own_htlt.1 EW.nil))))
theorem own_decl {a : Array Value} {s : State} {y : MethodName} {b : ByteArray} {ml : Nat} {rt : Option FieldType} (h1 : (Cond.instanceMethod y).before a s = true) (h2 : (Cond.code y b ml rt).before a s = true) : (Cond.declares y).before a s = true := by
  obtain ⟨m, meth, hn, hm, hst, -⟩ := Cond.instanceMethod_spec h1
  obtain ⟨m2, cM, q1, -, -, -, -, -, -, hsig⟩ := Cond.code_spec hn h2
  cases hm.symm.trans q1
  simp [Cond.before, Cond.holds, Cond.value, hn, hm, hst, hsig]
theorem own_same {a : Array Value} {s : State} {y : MethodName} (hd : (Cond.declares y).before a s = true) (hy : y.cls ≠ "java/lang/invoke/MethodHandle" ∧ y.cls ≠ "java/lang/invoke/VarHandle") (hnf : NotFace s y) : (Cond.sameMethod y.cls y.cls y.name y.desc).before a s = true := by
  obtain ⟨m, meth, hn, hm, -⟩ := Cond.declares_spec hd
  obtain ⟨kr, h1, h2⟩ := hnf m hn
  have hc := findClass_of_methodNamed hn
  have hf := State.methodFound?_of_named hn hy
  simp [Cond.before, Cond.holds, Cond.value, hn, hc, hf, h1, h2]
theorem own_nfA {Z : State} {a0 : Array Value} (hw : ∀ d ∈ tables_1, d.before a0 Z = true) {y : MethodName} (hy : y.cls = "java/lang/AbstractStringBuilder") : NotFace Z y := fun r0 h0 => by
  have q := notFace_of_selects (ow hw 137 rfl)
  obtain ⟨m, meth, hn, -⟩ := Cond.declares_spec (ow hw 135 rfl)
  obtain ⟨kr, h1, h2⟩ := q m hn
  have c1 := findClass_of_methodNamed h0
  have c2 := findClass_of_methodNamed hn
  rw [hy] at c1
  have c3 := Option.some.inj (c1.symm.trans c2)
  exact ⟨kr, by rw [c3]; exact h1, h2⟩
theorem own_nfM {Z s : State} {y : MethodName} (hZ : Z.Warmed39 s.vm) (h : NotFace Z y) : NotFace s y := Jvm.Free.NotFace.move hZ.alike h
theorem pn_20 : plainName "java/lang/String" = true := by first | (simp [plainName, overriddenIn]; done) | decide +kernel
theorem d20_0 : decode jdk_42_method_154_code 0 = .ok (.getstatic 38, 3) := by decide +kernel
theorem d20_3 : decode jdk_42_method_154_code 3 = .ok (.ifCond .eq 14, 3) := by decide +kernel
theorem d20_6 : decode jdk_42_method_154_code 6 = .ok (.aload_n 0, 1) := by decide +kernel
theorem d20_7 : decode jdk_42_method_154_code 7 = .ok (.getfield 15, 3) := by decide +kernel
theorem d20_10 : decode jdk_42_method_154_code 10 = .ok (.ifCond .ne 7, 3) := by decide +kernel
theorem d20_13 : decode jdk_42_method_154_code 13 = .ok (.iconst 1, 1) := by decide +kernel
theorem d20_14 : decode jdk_42_method_154_code 14 = .ok (.goto 4, 3) := by decide +kernel
theorem d20_18 : decode jdk_42_method_154_code 18 = .ok (.ireturn, 1) := by decide +kernel
theorem ef_20 (m : MethodId) (x0 : Addr) : entryFrame m #[(.ref x0)] 1 = mkF m 0 #[.val (.ref x0)] [] := by first | (simp [entryFrame, mkF, argsToLocals, Value.category]; done) | rfl
def Q20 (Z : State) (a1 : Addr) (GC : Int32) (h0 : Heap) (n0 : Nat) (v : Option Value) (h : Heap) (L : List Loc) : Prop := v = some (.int (1 : Int32)) ∧ Fr n0 L ∧ h = h0
set_option maxRecDepth 65536 in
set_option maxHeartbeats 40000000 in
theorem rm20 (l : Launch) (Z : State) (a0 : Array Value) (hw : ∀ d ∈ tables_1, d.before a0 Z = true) (ws : List Jvm.Cond) (a1 : Addr) (GC : Int32) (h0 : Heap) (n0 : Nat) (Z0 : n0 ≤ h0.size) (S_C : Sta Z Z.heap "java/lang/String" "COMPACT_STRINGS" "Z" (.int GC)) (hGC : ¬ GC = (0 : Int32)) (O0 : Old Z n0 h0) (F_c : Fld Z h0 a1 "java/lang/String" "coder" "B" (.int 0)) :
    MetFree l own_y0 (head1 (Jvm.Cond.code own_y0 jdk_42_method_154_code 1 (some .boolean) :: ws) ({ frames := 0, cells := 0, slots := 0, locals := 0 } : Room)) (fun a U => a = #[(.ref a1)] ∧ Z.Warmed39 U.vm ∧ U.heap = h0) (fun _ _ _ _ _ => True) (fun _ U o U' => ∃ v L, o = .returned v ∧ Q20 Z a1 GC h0 n0 v U'.heap L ∧ FrameEnd U o U' L ({ frames := 0, cells := 0, slots := 0, locals := 0 } : Room).cells ({ frames := 0, cells := 0, slots := 0, locals := 0 } : Room).slots) := by
  refine MetFree.of_bodySF (plainFor_of_name pn_20) hisR ?_
  intro p e s m args below meth c s₁ Bd hml0 hP hK
  obtain ⟨rfl, hZ, hh⟩ := hP
  have hx := Bd.exec
  have hby := Bd.bytes
  have hml : c.maxLocals = 1 := hml0
  have hown : s.vm.findClass "java/lang/String" = some m.cls := findClass_of_methodNamed Bd.named
  have hnm := (name_of_methodNamed Bd.named Bd.method).1
  have X0 : Stand p l e ({ frames := 0, cells := 0, slots := 0, locals := 0 } : Room) s m #[(.ref a1)] below meth c s₁ [] 0 0 := Stand.of_body Bd
  have e0 : s₁.heap = h0 := by rw [← hh, Bd.state]; rfl
  have N0 := Fr.nil n0
  refine og (B := s₁.setTop (mkF m 0 #[rv a1] [])) (fun t k => castTop (ef_20 m a1) k) ?_
  obtain ⟨T1, X1, e1, st1⟩ := getS2 X0 hx hZ hown (host := "") (Or.inl (ow hw 14 rfl)) Via.refl e0 (S_C.ext O0.2) (g := (mkF m 0 #[rv a1] [])) rfl (hb hby d20_0)
  refine og (B := T1.setTop (mkF m 3 #[rv a1] [(.int GC)])) st1 ?_
  refine og (B := T1.setTop (mkF m 7 #[rv a1] [(.ref a1)])) (fun t k => ?_) ?_
  · refine XS.ifNo X1.here hx rfl (hb hby d20_3) rfl ((if0 _ _).trans (feq hGC).1) ?_
    refine XS.aloadN X1.here hx rfl (hb hby d20_6) rfl rfl ?_
    exact k
  obtain ⟨T2, X2, e2, st2⟩ := getF X1 hx hZ hown (host := "") (Or.inl (ow hw 26 rfl)) Via.refl e1 F_c (g := (mkF m 7 #[rv a1] [(.ref a1)])) rfl rfl (hb hby d20_7)
  refine og (B := T2.setTop (mkF m 10 #[rv a1] [(.int 0)])) st2 ?_
  obtain ⟨fs, hr, hrun, hended, hW, hsame⟩ := X2.leave (v := some (.int 1)) (fun h => by rw [Bd.returns] at h; cases h)
  refine ⟨_, _, ?_, hrun, hended, _, _, rfl, ?_, ⟨_, rfl⟩, hW, hsame.mono (by decide) (by decide)⟩
  · refine XS.ifNo X2.here hx rfl (hb hby d20_10) rfl ((if0 _ _).trans (teq (by decide)).2) ?_
    refine XS.iconst X2.here hx rfl (hb hby d20_13) ?_
    refine XS.goto X2.here hx rfl (pc0 := 14) (pc' := 18) rfl (hb hby d20_14) (by decide) (by decide) ?_
    show own_S p e below T2 (mkF m 18 #[rv a1] [(.int 1)]) _
    exact retN X2 hx (t := .boolean) Bd.returns (by simp) (hb hby d20_18) hr
  · show Q20 Z a1 GC h0 n0 _ T2.heap _
    rw [e2]
    exact ⟨rfl, N0, rfl⟩
theorem pn_14 : plainName "java/lang/String" = true := by first | (simp [plainName, overriddenIn]; done) | decide +kernel
theorem d14_0 : decode jdk_42_method_152_code 0 = .ok (.getstatic 38, 3) := by decide +kernel
theorem d14_3 : decode jdk_42_method_152_code 3 = .ok (.ifCond .eq 10, 3) := by decide +kernel
theorem d14_6 : decode jdk_42_method_152_code 6 = .ok (.aload_n 0, 1) := by decide +kernel
theorem d14_7 : decode jdk_42_method_152_code 7 = .ok (.getfield 15, 3) := by decide +kernel
theorem d14_10 : decode jdk_42_method_152_code 10 = .ok (.goto 4, 3) := by decide +kernel
theorem d14_14 : decode jdk_42_method_152_code 14 = .ok (.ireturn, 1) := by decide +kernel
theorem ef_14 (m : MethodId) (x0 : Addr) : entryFrame m #[(.ref x0)] 1 = mkF m 0 #[.val (.ref x0)] [] := by first | (simp [entryFrame, mkF, argsToLocals, Value.category]; done) | rfl
def Q14 (Z : State) (a1 : Addr) (GC : Int32) (h0 : Heap) (n0 : Nat) (v : Option Value) (h : Heap) (L : List Loc) : Prop := v = some (.int 0) ∧ Fr n0 L ∧ h = h0
set_option maxRecDepth 65536 in
set_option maxHeartbeats 40000000 in
theorem rm14 (l : Launch) (Z : State) (a0 : Array Value) (hw : ∀ d ∈ tables_1, d.before a0 Z = true) (ws : List Jvm.Cond) (a1 : Addr) (GC : Int32) (h0 : Heap) (n0 : Nat) (Z0 : n0 ≤ h0.size) (S_C : Sta Z Z.heap "java/lang/String" "COMPACT_STRINGS" "Z" (.int GC)) (hGC : ¬ GC = (0 : Int32)) (O0 : Old Z n0 h0) (F_c : Fld Z h0 a1 "java/lang/String" "coder" "B" (.int 0)) :
    MetFree l own_y1 (head1 (Jvm.Cond.code own_y1 jdk_42_method_152_code 1 (some .byte) :: ws) ({ frames := 0, cells := 0, slots := 0, locals := 0 } : Room)) (fun a U => a = #[(.ref a1)] ∧ Z.Warmed39 U.vm ∧ U.heap = h0) (fun _ _ _ _ _ => True) (fun _ U o U' => ∃ v L, o = .returned v ∧ Q14 Z a1 GC h0 n0 v U'.heap L ∧ FrameEnd U o U' L ({ frames := 0, cells := 0, slots := 0, locals := 0 } : Room).cells ({ frames := 0, cells := 0, slots := 0, locals := 0 } : Room).slots) := by
  refine MetFree.of_bodySF (plainFor_of_name pn_14) hisR ?_
  intro p e s m args below meth c s₁ Bd hml0 hP hK
  obtain ⟨rfl, hZ, hh⟩ := hP
  have hx := Bd.exec
  have hby := Bd.bytes
  have hml : c.maxLocals = 1 := hml0
  have hown : s.vm.findClass "java/lang/String" = some m.cls := findClass_of_methodNamed Bd.named
  have hnm := (name_of_methodNamed Bd.named Bd.method).1
  have X0 : Stand p l e ({ frames := 0, cells := 0, slots := 0, locals := 0 } : Room) s m #[(.ref a1)] below meth c s₁ [] 0 0 := Stand.of_body Bd
  have e0 : s₁.heap = h0 := by rw [← hh, Bd.state]; rfl
  have N0 := Fr.nil n0
  refine og (B := s₁.setTop (mkF m 0 #[rv a1] [])) (fun t k => castTop (ef_14 m a1) k) ?_
  obtain ⟨T1, X1, e1, st1⟩ := getS2 X0 hx hZ hown (host := "") (Or.inl (ow hw 14 rfl)) Via.refl e0 (S_C.ext O0.2) (g := (mkF m 0 #[rv a1] [])) rfl (hb hby d14_0)
  refine og (B := T1.setTop (mkF m 3 #[rv a1] [(.int GC)])) st1 ?_
  refine og (B := T1.setTop (mkF m 7 #[rv a1] [(.ref a1)])) (fun t k => ?_) ?_
  · refine XS.ifNo X1.here hx rfl (hb hby d14_3) rfl ((if0 _ _).trans (feq hGC).1) ?_
    refine XS.aloadN X1.here hx rfl (hb hby d14_6) rfl rfl ?_
    exact k
  obtain ⟨T2, X2, e2, st2⟩ := getF X1 hx hZ hown (host := "") (Or.inl (ow hw 26 rfl)) Via.refl e1 F_c (g := (mkF m 7 #[rv a1] [(.ref a1)])) rfl rfl (hb hby d14_7)
  refine og (B := T2.setTop (mkF m 10 #[rv a1] [(.int 0)])) st2 ?_
  obtain ⟨fs, hr, hrun, hended, hW, hsame⟩ := X2.leave (v := some (.int 0)) (fun h => by rw [Bd.returns] at h; cases h)
  refine ⟨_, _, ?_, hrun, hended, _, _, rfl, ?_, ⟨_, rfl⟩, hW, hsame.mono (by decide) (by decide)⟩
  · refine XS.goto X2.here hx rfl (pc0 := 10) (pc' := 14) rfl (hb hby d14_10) (by decide) (by decide) ?_
    show own_S p e below T2 (mkF m 14 #[rv a1] [(.int 0)]) _
    exact retN X2 hx (t := .byte) Bd.returns (by simp) (hb hby d14_14) hr
  · show Q14 Z a1 GC h0 n0 _ T2.heap _
    rw [e2]
    exact ⟨rfl, N0, rfl⟩
theorem own_shr0 (z : Int32) : z >>> ((0 : Int32) &&& 31) = z := by
  apply Int32.toInt_inj.mp
  have q := c_ishr z 0 0 (by decide)
  rw [q]
  exact Int.ediv_one _
theorem pn_13 : plainName "java/lang/String" = true := by first | (simp [plainName, overriddenIn]; done) | decide +kernel
theorem d13_0 : decode jdk_42_method_54_code 0 = .ok (.aload_n 0, 1) := by decide +kernel
theorem d13_1 : decode jdk_42_method_54_code 1 = .ok (.getfield 9, 3) := by decide +kernel
theorem d13_4 : decode jdk_42_method_54_code 4 = .ok (.arraylength, 1) := by decide +kernel
theorem d13_5 : decode jdk_42_method_54_code 5 = .ok (.aload_n 0, 1) := by decide +kernel
theorem d13_6 : decode jdk_42_method_54_code 6 = .ok (.invokevirtual 335, 3) := by decide +kernel
theorem d13_9 : decode jdk_42_method_54_code 9 = .ok (.ishr, 1) := by decide +kernel
theorem d13_10 : decode jdk_42_method_54_code 10 = .ok (.ireturn, 1) := by decide +kernel
theorem ef_13 (m : MethodId) (x0 : Addr) : entryFrame m #[(.ref x0)] 1 = mkF m 0 #[.val (.ref x0)] [] := by first | (simp [entryFrame, mkF, argsToLocals, Value.category]; done) | rfl
def Q13 (Z : State) (a1 : Addr) (sb1 : Addr) (kb : ClassId) (z1 : Int32) (vs : List Value) (dv : Value) (GC : Int32) (h0 : Heap) (n0 : Nat) (v : Option Value) (h : Heap) (L : List Loc) : Prop := v = some (.int z1) ∧ Fr n0 L ∧ h = h0
set_option maxRecDepth 65536 in
set_option maxHeartbeats 40000000 in
theorem rm13 (l : Launch) (Z : State) (a0 : Array Value) (hw : ∀ d ∈ tables_1, d.before a0 Z = true) (ws : List Jvm.Cond) (a1 : Addr) (sb1 : Addr) (kb : ClassId) (z1 : Int32) (vs : List Value) (dv : Value) (GC : Int32) (h0 : Heap) (n0 : Nat) (Z0 : n0 ≤ h0.size) (S_C : Sta Z Z.heap "java/lang/String" "COMPACT_STRINGS" "Z" (.int GC)) (hGC : ¬ GC = (0 : Int32)) (O0 : Old Z n0 h0) (E_a1 : Exa Z h0 a1 "java/lang/String") (F_c : Fld Z h0 a1 "java/lang/String" "coder" "B" (.int 0)) (F_v : Fld Z h0 a1 "java/lang/String" "value" "[B" (.ref sb1)) (V_b : Arv Z h0 sb1 kb .byte z1 vs dv) :
    MetFree l own_y2 (head1 (Jvm.Cond.code own_y2 jdk_42_method_54_code 1 (some .int) :: ws) ({ frames := 1, cells := 0, slots := 0, locals := 13 } : Room)) (fun a U => a = #[(.ref a1)] ∧ Z.Warmed39 U.vm ∧ U.heap = h0) (fun _ _ _ _ _ => True) (fun _ U o U' => ∃ v L, o = .returned v ∧ Q13 Z a1 sb1 kb z1 vs dv GC h0 n0 v U'.heap L ∧ FrameEnd U o U' L ({ frames := 1, cells := 0, slots := 0, locals := 13 } : Room).cells ({ frames := 1, cells := 0, slots := 0, locals := 13 } : Room).slots) := by
  refine MetFree.of_bodySF (plainFor_of_name pn_13) hisR ?_
  intro p e s m args below meth c s₁ Bd hml0 hP hK
  obtain ⟨rfl, hZ, hh⟩ := hP
  have hx := Bd.exec
  have hby := Bd.bytes
  have hml : c.maxLocals = 1 := hml0
  have hown : s.vm.findClass "java/lang/String" = some m.cls := findClass_of_methodNamed Bd.named
  have hnm := (name_of_methodNamed Bd.named Bd.method).1
  have X0 : Stand p l e ({ frames := 1, cells := 0, slots := 0, locals := 13 } : Room) s m #[(.ref a1)] below meth c s₁ [] 0 0 := Stand.of_body Bd
  have e0 : s₁.heap = h0 := by rw [← hh, Bd.state]; rfl
  have N0 := Fr.nil n0
  refine og (B := s₁.setTop (mkF m 0 #[rv a1] [])) (fun t k => castTop (ef_13 m a1) k) ?_
  refine og (B := s₁.setTop (mkF m 1 #[rv a1] [(.ref a1)])) (fun t k => ?_) ?_
  · refine XS.aloadN X0.here hx rfl (hb hby d13_0) rfl rfl ?_
    exact k
  obtain ⟨T1, X1, e1, st1⟩ := getF X0 hx hZ hown (host := "") (Or.inl (ow hw 28 rfl)) Via.refl e0 F_v (g := (mkF m 1 #[rv a1] [(.ref a1)])) rfl rfl (hb hby d13_1)
  refine og (B := T1.setTop (mkF m 4 #[rv a1] [(.ref sb1)])) st1 ?_
  obtain ⟨cl2, Ar2, qk2, S2, M2, H2, G2⟩ := id V_b
  refine og (B := T1.setTop (mkF m 6 #[rv a1] [(.ref a1), (.int z1)])) (fun t k => ?_) ?_
  · refine X1.arraylength hx (by rw [e1]; exact Ar2.1) (State.isArrayOf_alike hZ.alike Ar2.2.1) (g := (mkF m 4 #[rv a1] [(.ref sb1)])) rfl rfl (hb hby d13_4) _ ?_
    rw [len_of S2 M2]
    refine XS.aloadN X1.here hx rfl (hb hby d13_5) rfl rfl ?_
    exact k
  obtain ⟨cq3, kq3, q3a, q3b, q3c⟩ := isOf hZ e1 E_a1
  obtain ⟨_, _, ⟨T3, L3, k3, n3⟩, -, X3, ⟨Lc3, hQ3, l3, y3, z3⟩, st3⟩ := X1.virtualBack hx (y := own_y1) (z := own_y1) hown (mvT hZ (ow hw 74 rfl)) (mvT hZ (ow hw 75 rfl)) (notFace_of_selects (args := #[]) (mvT hZ (ow hw 77 rfl))) (mvT hZ (ow hw 77 rfl)) (mvT hZ (ow hw 76 rfl)) (by decide) (backOf (W := 1) (rm14 l Z a0 hw [] a1 GC h0 n0 Z0 S_C hGC O0 F_c) hZ (ow hw 78 rfl) (ow hw 2 rfl) (by decide) (by decide)) q3a q3c (g := (mkF m 6 #[rv a1] [(.ref a1), (.int z1)])) rfl (by rw [hml]; rfl) (Steps.refl _) (argsL := []) (rest := [(.int z1)]) (lenOf own_pd0 rfl) rfl (Nat.le_refl _) (hb hby d13_6) (fun _ _ => ⟨rfl, e1, (by decide : 0 + 0 ≤ _), (by decide : 0 + 0 ≤ _)⟩)
  dsimp only [Pt.U, Pt.locs, Pt.cells, Pt.slots] at X3 l3 y3 z3 st3 hQ3
  subst l3 y3 z3
  obtain ⟨rfl, N3q, eq3⟩ := hQ3
  have N3 := Fr.app N0 N3q
  refine og (B := T3.setTop (mkF m 9 #[rv a1] [(.int 0), (.int z1)])) (fun _ => st3.trans) ?_
  obtain ⟨fs, hr, hrun, hended, hW, hsame⟩ := X3.leave (v := some (.int (z1 >>> ((0 : Int32) &&& 31)))) (fun h => by rw [Bd.returns] at h; cases h)
  refine ⟨_, _, ?_, hrun, hended, _, _, rfl, ?_, ⟨_, rfl⟩, hW, hsame.mono (by decide) (by decide)⟩
  · refine XS.ishr X3.here hx rfl (hb hby d13_9) rfl ?_
    show own_S p e below T3 (mkF m 10 #[rv a1] [(.int (z1 >>> ((0 : Int32) &&& 31)))]) _
    exact retI X3 hx Bd.returns (hb hby d13_10) hr
  · show Q13 Z a1 sb1 kb z1 vs dv GC h0 n0 _ T3.heap _
    rw [eq3]
    exact ⟨by rw [own_shr0], N3, rfl⟩
theorem pn_36 : plainName "jdk/internal/util/Preconditions" = true := by first | (simp [plainName, overriddenIn]; done) | decide +kernel
theorem d36_0 : decode jdk_41_method_11_code 0 = .ok (.iload_n 0, 1) := by decide +kernel
theorem d36_1 : decode jdk_41_method_11_code 1 = .ok (.ifCond .lt 8, 3) := by decide +kernel
theorem d36_4 : decode jdk_41_method_11_code 4 = .ok (.iload_n 0, 1) := by decide +kernel
theorem d36_5 : decode jdk_41_method_11_code 5 = .ok (.iload_n 1, 1) := by decide +kernel
theorem d36_6 : decode jdk_41_method_11_code 6 = .ok (.if_icmp .lt 10, 3) := by decide +kernel
theorem d36_16 : decode jdk_41_method_11_code 16 = .ok (.iload_n 0, 1) := by decide +kernel
theorem d36_17 : decode jdk_41_method_11_code 17 = .ok (.ireturn, 1) := by decide +kernel
theorem ef_36 (m : MethodId) (x0 : Int32) (x1 : Int32) (x2 : Value) (hx2 : x2.isRef = true) : entryFrame m #[(.int x0), (.int x1), x2] 3 = mkF m 0 #[.val (.int x0), .val (.int x1), .val x2] [] := by rcases ref_cases hx2 with rfl | ⟨y2, rfl⟩ <;> first | (simp [entryFrame, mkF, argsToLocals, Value.category]; done) | rfl
def Q36 (Z : State) (p1 : Int32) (p2 : Int32) (GF : Value) (h0 : Heap) (n0 : Nat) (v : Option Value) (h : Heap) (L : List Loc) : Prop := v = some (.int p1) ∧ Fr n0 L ∧ h = h0
set_option maxRecDepth 65536 in
set_option maxHeartbeats 40000000 in
theorem rm36 (l : Launch) (Z : State) (a0 : Array Value) (hw : ∀ d ∈ tables_1, d.before a0 Z = true) (ws : List Jvm.Cond) (p1 : Int32) (p2 : Int32) (GF : Value) (h0 : Heap) (n0 : Nat) (Z0 : n0 ≤ h0.size) (is_GF : GF.isRef = true) (hin : ¬ p1 < 0 ∧ p1 < p2) :
    MetFree l own_y3 (head1 (Jvm.Cond.code own_y3 jdk_41_method_11_code 3 (some .int) :: ws) ({ frames := 0, cells := 0, slots := 0, locals := 0 } : Room)) (fun a U => a = #[(.int p1), (.int p2), GF] ∧ Z.Warmed39 U.vm ∧ U.heap = h0) (fun _ _ _ _ _ => True) (fun _ U o U' => ∃ v L, o = .returned v ∧ Q36 Z p1 p2 GF h0 n0 v U'.heap L ∧ FrameEnd U o U' L ({ frames := 0, cells := 0, slots := 0, locals := 0 } : Room).cells ({ frames := 0, cells := 0, slots := 0, locals := 0 } : Room).slots) := by
  refine MetFree.of_bodySF (plainFor_of_name pn_36) hisR ?_
  intro p e s m args below meth c s₁ Bd hml0 hP hK
  obtain ⟨rfl, hZ, hh⟩ := hP
  have hx := Bd.exec
  have hby := Bd.bytes
  have hml : c.maxLocals = 3 := hml0
  have hown : s.vm.findClass "jdk/internal/util/Preconditions" = some m.cls := findClass_of_methodNamed Bd.named
  have hnm := (name_of_methodNamed Bd.named Bd.method).1
  have X0 : Stand p l e ({ frames := 0, cells := 0, slots := 0, locals := 0 } : Room) s m #[(.int p1), (.int p2), GF] below meth c s₁ [] 0 0 := Stand.of_body Bd
  have e0 : s₁.heap = h0 := by rw [← hh, Bd.state]; rfl
  have N0 := Fr.nil n0
  refine og (B := s₁.setTop (mkF m 0 #[iv p1, iv p2, .val GF] [])) (fun t k => castTop (ef_36 m p1 p2 GF is_GF) k) ?_
  obtain ⟨fs, hr, hrun, hended, hW, hsame⟩ := X0.leave (v := some (.int p1)) (fun h => by rw [Bd.returns] at h; cases h)
  refine ⟨_, _, ?_, hrun, hended, _, _, rfl, ?_, ⟨_, rfl⟩, hW, hsame.mono (by decide) (by decide)⟩
  · refine XS.iloadN X0.here hx rfl (hb hby d36_0) rfl ?_
    refine XS.ifNo X0.here hx rfl (hb hby d36_1) rfl ((if0 _ _).trans (flt hin.1).1) ?_
    refine XS.iloadN X0.here hx rfl (hb hby d36_4) rfl ?_
    refine XS.iloadN X0.here hx rfl (hb hby d36_5) rfl ?_
    refine XS.icmpYes X0.here hx rfl (pc0 := 6) (pc' := 16) rfl (hb hby d36_6) rfl (tlt hin.2).1 (by decide) (by decide) ?_
    refine XS.iloadN X0.here hx rfl (hb hby d36_16) rfl ?_
    show own_S p e below s₁ (mkF m 17 #[iv p1, iv p2, .val GF] [(.int p1)]) _
    exact retI X0 hx Bd.returns (hb hby d36_17) hr
  · show Q36 Z p1 p2 GF h0 n0 _ s₁.heap _
    rw [e0]
    exact ⟨rfl, N0, rfl⟩
theorem pn_35 : plainName "java/lang/String" = true := by first | (simp [plainName, overriddenIn]; done) | decide +kernel
theorem d35_0 : decode jdk_42_method_155_code 0 = .ok (.iload_n 0, 1) := by decide +kernel
theorem d35_1 : decode jdk_42_method_155_code 1 = .ok (.iload_n 1, 1) := by decide +kernel
theorem d35_2 : decode jdk_42_method_155_code 2 = .ok (.getstatic 1053, 3) := by decide +kernel
theorem d35_5 : decode jdk_42_method_155_code 5 = .ok (.invokestatic 1059, 3) := by decide +kernel
theorem d35_8 : decode jdk_42_method_155_code 8 = .ok (.pop, 1) := by decide +kernel
theorem d35_9 : decode jdk_42_method_155_code 9 = .ok (.return_, 1) := by decide +kernel
theorem ef_35 (m : MethodId) (x0 : Int32) (x1 : Int32) : entryFrame m #[(.int x0), (.int x1)] 2 = mkF m 0 #[.val (.int x0), .val (.int x1)] [] := by first | (simp [entryFrame, mkF, argsToLocals, Value.category]; done) | rfl
def Q35 (Z : State) (p1 : Int32) (p2 : Int32) (GF : Value) (h0 : Heap) (n0 : Nat) (v : Option Value) (h : Heap) (L : List Loc) : Prop := v = none ∧ Fr n0 L ∧ h = h0
set_option maxRecDepth 65536 in
set_option maxHeartbeats 40000000 in
theorem rm35 (l : Launch) (Z : State) (a0 : Array Value) (hw : ∀ d ∈ tables_1, d.before a0 Z = true) (ws : List Jvm.Cond) (p1 : Int32) (p2 : Int32) (GF : Value) (h0 : Heap) (n0 : Nat) (Z0 : n0 ≤ h0.size) (S_F : Sta Z Z.heap "jdk/internal/util/Preconditions" "SIOOBE_FORMATTER" "Ljava/util/function/BiFunction;" GF) (is_GF : GF.isRef = true) (O0 : Old Z n0 h0) (hin : ¬ p1 < 0 ∧ p1 < p2) :
    MetFree l own_y4 (head1 (Jvm.Cond.code own_y4 jdk_42_method_155_code 2 none :: ws) ({ frames := 1, cells := 0, slots := 0, locals := 14 } : Room)) (fun a U => a = #[(.int p1), (.int p2)] ∧ Z.Warmed39 U.vm ∧ U.heap = h0) (fun _ _ _ _ _ => True) (fun _ U o U' => ∃ v L, o = .returned v ∧ Q35 Z p1 p2 GF h0 n0 v U'.heap L ∧ FrameEnd U o U' L ({ frames := 1, cells := 0, slots := 0, locals := 14 } : Room).cells ({ frames := 1, cells := 0, slots := 0, locals := 14 } : Room).slots) := by
  refine MetFree.of_bodySF (plainFor_of_name pn_35) hisR ?_
  intro p e s m args below meth c s₁ Bd hml0 hP hK
  obtain ⟨rfl, hZ, hh⟩ := hP
  have hx := Bd.exec
  have hby := Bd.bytes
  have hml : c.maxLocals = 2 := hml0
  have hown : s.vm.findClass "java/lang/String" = some m.cls := findClass_of_methodNamed Bd.named
  have hnm := (name_of_methodNamed Bd.named Bd.method).1
  have X0 : Stand p l e ({ frames := 1, cells := 0, slots := 0, locals := 14 } : Room) s m #[(.int p1), (.int p2)] below meth c s₁ [] 0 0 := Stand.of_body Bd
  have e0 : s₁.heap = h0 := by rw [← hh, Bd.state]; rfl
  have N0 := Fr.nil n0
  refine og (B := s₁.setTop (mkF m 0 #[iv p1, iv p2] [])) (fun t k => castTop (ef_35 m p1 p2) k) ?_
  refine og (B := s₁.setTop (mkF m 2 #[iv p1, iv p2] [(.int p2), (.int p1)])) (fun t k => ?_) ?_
  · refine XS.iloadN X0.here hx rfl (hb hby d35_0) rfl ?_
    refine XS.iloadN X0.here hx rfl (hb hby d35_1) rfl ?_
    exact k
  obtain ⟨T1, X1, e1, st1⟩ := getS2 X0 hx hZ hown (host := "") (Or.inl (ow hw 179 rfl)) Via.refl e0 (S_F.ext O0.2) (g := (mkF m 2 #[iv p1, iv p2] [(.int p2), (.int p1)])) rfl (hb hby d35_2)
  refine og (B := T1.setTop (mkF m 5 #[iv p1, iv p2] [GF, (.int p2), (.int p1)])) st1 ?_
  obtain ⟨_, _, ⟨T2, L2, k2, n2⟩, -, X2, ⟨Lc2, hQ2, l2, y2, z2⟩, st2⟩ := Jvm.LawKit.callS X1 hx (y := own_y3) hown (mvT hZ (ow hw 181 rfl)) (mvT hZ (ow hw 182 rfl)) (mvT hZ (ow hw 180 rfl)) (mvT hZ (ow hw 183 rfl)) (by decide) (backOf (W := 0) (rm36 l Z a0 hw [] p1 p2 GF h0 n0 Z0 is_GF hin) hZ (ow hw 183 rfl) (ow hw 180 rfl) (by decide) (by decide)) (g := (mkF m 5 #[iv p1, iv p2] [GF, (.int p2), (.int p1)])) rfl (by rw [hml]; rfl) (argsL := [(.int p1), (.int p2), GF]) (rest := []) (lenOf own_pd1 rfl) rfl (Nat.le_refl _) (hb hby d35_5) (fun _ _ => ⟨rfl, e1, (by decide : 0 + 0 ≤ _), (by decide : 0 + 0 ≤ _)⟩)
  dsimp only [Pt.U, Pt.locs, Pt.cells, Pt.slots] at X2 l2 y2 z2 st2 hQ2
  subst l2 y2 z2
  obtain ⟨rfl, N2q, eq2⟩ := hQ2
  have N2 := Fr.app N0 N2q
  refine og (B := T2.setTop (mkF m 8 #[iv p1, iv p2] [(.int p1)])) st2 ?_
  obtain ⟨fs, hr, hrun, hended, hW, hsame⟩ := X2.leave (v := none) (fun _ => rfl)
  refine ⟨_, _, ?_, hrun, hended, _, _, rfl, ?_, ⟨_, rfl⟩, hW, hsame.mono (by decide) (by decide)⟩
  · refine XS.pop X2.here hx rfl (hb hby d35_8) rfl rfl ?_
    show own_S p e below T2 (mkF m 9 #[iv p1, iv p2] []) _
    exact X2.returnOut hx Bd.returns (hb hby d35_9) hr
  · show Q35 Z p1 p2 GF h0 n0 _ T2.heap _
    rw [eq2]
    exact ⟨rfl, N2, rfl⟩
def own_c (x : Int32) : Int32 := nar .char (((x &&& (255 : Int32))).toUInt32.toUInt16.toUInt32.toInt32)
theorem own_cc (x : Int32) : nar .char (own_c x) = own_c x := by simp only [own_c, nar, UInt32.toUInt32_toInt32, UInt16.toUInt16_toUInt32]
theorem pn_34 : plainName "java/lang/StringLatin1" = true := by first | (simp [plainName, overriddenIn]; done) | decide +kernel
theorem d34_0 : decode jdk_43_method_2_code 0 = .ok (.iload_n 1, 1) := by decide +kernel
theorem d34_1 : decode jdk_43_method_2_code 1 = .ok (.aload_n 0, 1) := by decide +kernel
theorem d34_2 : decode jdk_43_method_2_code 2 = .ok (.arraylength, 1) := by decide +kernel
theorem d34_3 : decode jdk_43_method_2_code 3 = .ok (.invokestatic 9, 3) := by decide +kernel
theorem d34_6 : decode jdk_43_method_2_code 6 = .ok (.aload_n 0, 1) := by decide +kernel
theorem d34_7 : decode jdk_43_method_2_code 7 = .ok (.iload_n 1, 1) := by decide +kernel
theorem d34_8 : decode jdk_43_method_2_code 8 = .ok (.baload, 1) := by decide +kernel
theorem d34_9 : decode jdk_43_method_2_code 9 = .ok (.sipush 255, 3) := by decide +kernel
theorem d34_12 : decode jdk_43_method_2_code 12 = .ok (.iand, 1) := by decide +kernel
theorem d34_13 : decode jdk_43_method_2_code 13 = .ok (.i2c, 1) := by decide +kernel
theorem d34_14 : decode jdk_43_method_2_code 14 = .ok (.ireturn, 1) := by decide +kernel
theorem ef_34 (m : MethodId) (x0 : Addr) (x1 : Int32) : entryFrame m #[(.ref x0), (.int x1)] 2 = mkF m 0 #[.val (.ref x0), .val (.int x1)] [] := by first | (simp [entryFrame, mkF, argsToLocals, Value.category]; done) | rfl
def Q34 (Z : State) (a1 : Addr) (p2 : Int32) (ka : ClassId) (z1 : Int32) (vs : List Value) (dv : Value) (x1 : Int32) (GF : Value) (h0 : Heap) (n0 : Nat) (v : Option Value) (h : Heap) (L : List Loc) : Prop := v = some (.int (own_c x1)) ∧ Fr n0 L ∧ h = h0
set_option maxRecDepth 65536 in
set_option maxHeartbeats 40000000 in
theorem rm34 (l : Launch) (Z : State) (a0 : Array Value) (hw : ∀ d ∈ tables_1, d.before a0 Z = true) (ws : List Jvm.Cond) (a1 : Addr) (p2 : Int32) (ka : ClassId) (z1 : Int32) (vs : List Value) (dv : Value) (x1 : Int32) (GF : Value) (h0 : Heap) (n0 : Nat) (Z0 : n0 ≤ h0.size) (V_a : Arv Z h0 a1 ka .byte z1 vs dv) (hin : ¬ p2 < 0 ∧ p2 < z1) (hat : vs.getD p2.toNatClampNeg dv = .int x1) (S_F : Sta Z Z.heap "jdk/internal/util/Preconditions" "SIOOBE_FORMATTER" "Ljava/util/function/BiFunction;" GF) (is_GF : GF.isRef = true) (O0 : Old Z n0 h0) :
    MetFree l own_y5 (head1 (Jvm.Cond.code own_y5 jdk_43_method_2_code 2 (some .char) :: ws) ({ frames := 2, cells := 0, slots := 0, locals := 27 } : Room)) (fun a U => a = #[(.ref a1), (.int p2)] ∧ Z.Warmed39 U.vm ∧ U.heap = h0) (fun _ _ _ _ _ => True) (fun _ U o U' => ∃ v L, o = .returned v ∧ Q34 Z a1 p2 ka z1 vs dv x1 GF h0 n0 v U'.heap L ∧ FrameEnd U o U' L ({ frames := 2, cells := 0, slots := 0, locals := 27 } : Room).cells ({ frames := 2, cells := 0, slots := 0, locals := 27 } : Room).slots) := by
  refine MetFree.of_bodySF (plainFor_of_name pn_34) hisR ?_
  intro p e s m args below meth c s₁ Bd hml0 hP hK
  obtain ⟨rfl, hZ, hh⟩ := hP
  have hx := Bd.exec
  have hby := Bd.bytes
  have hml : c.maxLocals = 2 := hml0
  have hown : s.vm.findClass "java/lang/StringLatin1" = some m.cls := findClass_of_methodNamed Bd.named
  have hnm := (name_of_methodNamed Bd.named Bd.method).1
  have X0 : Stand p l e ({ frames := 2, cells := 0, slots := 0, locals := 27 } : Room) s m #[(.ref a1), (.int p2)] below meth c s₁ [] 0 0 := Stand.of_body Bd
  have e0 : s₁.heap = h0 := by rw [← hh, Bd.state]; rfl
  have N0 := Fr.nil n0
  refine og (B := s₁.setTop (mkF m 0 #[rv a1, iv p2] [])) (fun t k => castTop (ef_34 m a1 p2) k) ?_
  obtain ⟨cl1, Ar1, qk1, S1, M1, H1, G1⟩ := id V_a
  refine og (B := s₁.setTop (mkF m 3 #[rv a1, iv p2] [(.int z1), (.int p2)])) (fun t k => ?_) ?_
  · refine XS.iloadN X0.here hx rfl (hb hby d34_0) rfl ?_
    refine XS.aloadN X0.here hx rfl (hb hby d34_1) rfl rfl ?_
    refine X0.arraylength hx (by rw [e0]; exact Ar1.1) (State.isArrayOf_alike hZ.alike Ar1.2.1) (g := (mkF m 2 #[rv a1, iv p2] [(.ref a1), (.int p2)])) rfl rfl (hb hby d34_2) _ ?_
    rw [len_of S1 M1]
    exact k
  obtain ⟨_, _, ⟨T2, L2, k2, n2⟩, -, X2, ⟨Lc2, hQ2, l2, y2, z2⟩, st2⟩ := Jvm.LawKit.callS X0 hx (y := own_y4) hown (mvT hZ (ow hw 176 rfl)) (mvT hZ (ow hw 177 rfl)) (mvT hZ (ow hw 2 rfl)) (mvT hZ (ow hw 178 rfl)) (by decide) (backOf (W := 0) (rm35 l Z a0 hw [] p2 z1 GF h0 n0 Z0 S_F is_GF O0 hin) hZ (ow hw 178 rfl) (ow hw 2 rfl) (by decide) (by decide)) (g := (mkF m 3 #[rv a1, iv p2] [(.int z1), (.int p2)])) rfl (by rw [hml]; rfl) (argsL := [(.int p2), (.int z1)]) (rest := []) (lenOf own_pd2 rfl) rfl (Nat.le_refl _) (hb hby d34_3) (fun _ _ => ⟨rfl, e0, (by decide : 0 + 0 ≤ _), (by decide : 0 + 0 ≤ _)⟩)
  dsimp only [Pt.U, Pt.locs, Pt.cells, Pt.slots] at X2 l2 y2 z2 st2 hQ2
  subst l2 y2 z2
  obtain ⟨rfl, N2q, eq2⟩ := hQ2
  have N2 := Fr.app N0 N2q
  refine og (B := T2.setTop (mkF m 6 #[rv a1, iv p2] [])) st2 ?_
  obtain ⟨cl3, Ar3, qk3, S3, M3, H3, G3⟩ := id V_a
  obtain ⟨fs, hr, hrun, hended, hW, hsame⟩ := X2.leave (v := some (.int (nar .char ((x1 &&& (255 : Int32)).toUInt32.toUInt16.toUInt32.toInt32)))) (fun h => by rw [Bd.returns] at h; cases h)
  refine ⟨_, _, ?_, hrun, hended, _, _, rfl, ?_, ⟨_, rfl⟩, hW, hsame.mono (by decide) (by decide)⟩
  · refine XS.aloadN X2.here hx rfl (hb hby d34_6) rfl rfl ?_
    refine XS.iloadN X2.here hx rfl (hb hby d34_7) rfl ?_
    refine X2.baloadBytes hx (j := p2) (v := (.int x1)) (by rw [eq2]; exact Ar3.1) (State.isArrayOf_alike hZ.alike Ar3.2.1) Ar3.2.2 (inb_of S3 hin) (Has.at H3 (inb_of S3 hin) hat) (g := (mkF m 8 #[rv a1, iv p2] [(.int p2), (.ref a1)])) rfl rfl (hb hby d34_8) _ ?_
    refine XS.sipush X2.here hx rfl (hb hby d34_9) ?_
    refine XS.iand X2.here hx rfl (hb hby d34_12) rfl ?_
    refine XS.i2c X2.here hx rfl (hb hby d34_13) rfl ?_
    show own_S p e below T2 (mkF m 14 #[rv a1, iv p2] [(.int ((x1 &&& (255 : Int32)).toUInt32.toUInt16.toUInt32.toInt32))]) _
    exact retN X2 hx (t := .char) Bd.returns (by simp) (hb hby d34_14) hr
  · show Q34 Z a1 p2 ka z1 vs dv x1 GF h0 n0 _ T2.heap _
    rw [eq2]
    exact ⟨rfl, N2, rfl⟩
theorem pn_33 : plainName "java/lang/String" = true := by first | (simp [plainName, overriddenIn]; done) | decide +kernel
theorem d33_0 : decode jdk_42_method_56_code 0 = .ok (.aload_n 0, 1) := by decide +kernel
theorem d33_1 : decode jdk_42_method_56_code 1 = .ok (.invokevirtual 492, 3) := by decide +kernel
theorem d33_4 : decode jdk_42_method_56_code 4 = .ok (.ifCond .eq 12, 3) := by decide +kernel
theorem d33_7 : decode jdk_42_method_56_code 7 = .ok (.aload_n 0, 1) := by decide +kernel
theorem d33_8 : decode jdk_42_method_56_code 8 = .ok (.getfield 9, 3) := by decide +kernel
theorem d33_11 : decode jdk_42_method_56_code 11 = .ok (.iload_n 1, 1) := by decide +kernel
theorem d33_12 : decode jdk_42_method_56_code 12 = .ok (.invokestatic 495, 3) := by decide +kernel
theorem d33_15 : decode jdk_42_method_56_code 15 = .ok (.ireturn, 1) := by decide +kernel
theorem ef_33 (m : MethodId) (x0 : Addr) (x1 : Int32) : entryFrame m #[(.ref x0), (.int x1)] 2 = mkF m 0 #[.val (.ref x0), .val (.int x1)] [] := by first | (simp [entryFrame, mkF, argsToLocals, Value.category]; done) | rfl
def Q33 (Z : State) (a1 : Addr) (p2 : Int32) (sb1 : Addr) (ka : ClassId) (z1 : Int32) (vs : List Value) (dv : Value) (x1 : Int32) (GC : Int32) (GF : Value) (h0 : Heap) (n0 : Nat) (v : Option Value) (h : Heap) (L : List Loc) : Prop := v = some (.int (own_c x1)) ∧ Fr n0 L ∧ h = h0
set_option maxRecDepth 65536 in
set_option maxHeartbeats 40000000 in
theorem rm33 (l : Launch) (Z : State) (a0 : Array Value) (hw : ∀ d ∈ tables_1, d.before a0 Z = true) (ws : List Jvm.Cond) (a1 : Addr) (p2 : Int32) (sb1 : Addr) (ka : ClassId) (z1 : Int32) (vs : List Value) (dv : Value) (x1 : Int32) (GC : Int32) (GF : Value) (h0 : Heap) (n0 : Nat) (Z0 : n0 ≤ h0.size) (S_C : Sta Z Z.heap "java/lang/String" "COMPACT_STRINGS" "Z" (.int GC)) (hGC : ¬ GC = (0 : Int32)) (O0 : Old Z n0 h0) (E_a1 : Exa Z h0 a1 "java/lang/String") (F_c : Fld Z h0 a1 "java/lang/String" "coder" "B" (.int 0)) (F_v : Fld Z h0 a1 "java/lang/String" "value" "[B" (.ref sb1)) (V_b : Arv Z h0 sb1 ka .byte z1 vs dv) (hin : ¬ p2 < 0 ∧ p2 < z1) (hat : vs.getD p2.toNatClampNeg dv = .int x1) (S_F : Sta Z Z.heap "jdk/internal/util/Preconditions" "SIOOBE_FORMATTER" "Ljava/util/function/BiFunction;" GF) (is_GF : GF.isRef = true) :
    MetFree l own_y6 (head1 (Jvm.Cond.code own_y6 jdk_42_method_56_code 2 (some .char) :: ws) ({ frames := 3, cells := 0, slots := 0, locals := 40 } : Room)) (fun a U => a = #[(.ref a1), (.int p2)] ∧ Z.Warmed39 U.vm ∧ U.heap = h0) (fun _ _ _ _ _ => True) (fun _ U o U' => ∃ v L, o = .returned v ∧ Q33 Z a1 p2 sb1 ka z1 vs dv x1 GC GF h0 n0 v U'.heap L ∧ FrameEnd U o U' L ({ frames := 3, cells := 0, slots := 0, locals := 40 } : Room).cells ({ frames := 3, cells := 0, slots := 0, locals := 40 } : Room).slots) := by
  refine MetFree.of_bodySF (plainFor_of_name pn_33) hisR ?_
  intro p e s m args below meth c s₁ Bd hml0 hP hK
  obtain ⟨rfl, hZ, hh⟩ := hP
  have hx := Bd.exec
  have hby := Bd.bytes
  have hml : c.maxLocals = 2 := hml0
  have hown : s.vm.findClass "java/lang/String" = some m.cls := findClass_of_methodNamed Bd.named
  have hnm := (name_of_methodNamed Bd.named Bd.method).1
  have X0 : Stand p l e ({ frames := 3, cells := 0, slots := 0, locals := 40 } : Room) s m #[(.ref a1), (.int p2)] below meth c s₁ [] 0 0 := Stand.of_body Bd
  have e0 : s₁.heap = h0 := by rw [← hh, Bd.state]; rfl
  have N0 := Fr.nil n0
  refine og (B := s₁.setTop (mkF m 0 #[rv a1, iv p2] [])) (fun t k => castTop (ef_33 m a1 p2) k) ?_
  refine og (B := s₁.setTop (mkF m 1 #[rv a1, iv p2] [(.ref a1)])) (fun t k => ?_) ?_
  · refine XS.aloadN X0.here hx rfl (hb hby d33_0) rfl rfl ?_
    exact k
  obtain ⟨cq1, kq1, q1a, q1b, q1c⟩ := isOf hZ e0 E_a1
  obtain ⟨_, _, ⟨T1, L1, k1, n1⟩, -, X1, ⟨Lc1, hQ1, l1, y1, z1⟩, st1⟩ := X0.virtualBack hx (y := own_y0) (z := own_y0) hown (mvT hZ (ow hw 113 rfl)) (mvT hZ (ow hw 114 rfl)) (notFace_of_selects (args := #[]) (mvT hZ (ow hw 116 rfl))) (mvT hZ (ow hw 116 rfl)) (mvT hZ (ow hw 115 rfl)) (by decide) (backOf (W := 0) (rm20 l Z a0 hw [] a1 GC h0 n0 Z0 S_C hGC O0 F_c) hZ (ow hw 117 rfl) (ow hw 2 rfl) (by decide) (by decide)) q1a q1c (g := (mkF m 1 #[rv a1, iv p2] [(.ref a1)])) rfl (by rw [hml]; rfl) (Steps.refl _) (argsL := []) (rest := []) (lenOf own_pd3 rfl) rfl (Nat.le_refl _) (hb hby d33_1) (fun _ _ => ⟨rfl, e0, (by decide : 0 + 0 ≤ _), (by decide : 0 + 0 ≤ _)⟩)
  dsimp only [Pt.U, Pt.locs, Pt.cells, Pt.slots] at X1 l1 y1 z1 st1 hQ1
  subst l1 y1 z1
  obtain ⟨rfl, N1q, eq1⟩ := hQ1
  have N1 := Fr.app N0 N1q
  refine og (B := T1.setTop (mkF m 4 #[rv a1, iv p2] [(.int 1)])) (fun _ => st1.trans) ?_
  refine og (B := T1.setTop (mkF m 8 #[rv a1, iv p2] [(.ref a1)])) (fun t k => ?_) ?_
  · refine XS.ifNo X1.here hx rfl (hb hby d33_4) rfl ((if0 _ _).trans (feq (by decide)).1) ?_
    refine XS.aloadN X1.here hx rfl (hb hby d33_7) rfl rfl ?_
    exact k
  obtain ⟨T2, X2, e2, st2⟩ := getF X1 hx hZ hown (host := "") (Or.inl (ow hw 28 rfl)) Via.refl eq1 F_v (g := (mkF m 8 #[rv a1, iv p2] [(.ref a1)])) rfl rfl (hb hby d33_8)
  refine og (B := T2.setTop (mkF m 11 #[rv a1, iv p2] [(.ref sb1)])) st2 ?_
  refine og (B := T2.setTop (mkF m 12 #[rv a1, iv p2] [(.int p2), (.ref sb1)])) (fun t k => ?_) ?_
  · refine XS.iloadN X2.here hx rfl (hb hby d33_11) rfl ?_
    exact k
  obtain ⟨_, _, ⟨T3, L3, k3, n3⟩, -, X3, ⟨Lc3, hQ3, l3, y3, z3⟩, st3⟩ := Jvm.LawKit.callS X2 hx (y := own_y5) hown (mvT hZ (ow hw 173 rfl)) (mvT hZ (ow hw 174 rfl)) (mvT hZ (ow hw 120 rfl)) (mvT hZ (ow hw 175 rfl)) (by decide) (backOf (W := 0) (rm34 l Z a0 hw [] sb1 p2 ka z1 vs dv x1 GF h0 n0 Z0 V_b hin hat S_F is_GF O0) hZ (ow hw 175 rfl) (ow hw 120 rfl) (by decide) (by decide)) (g := (mkF m 12 #[rv a1, iv p2] [(.int p2), (.ref sb1)])) rfl (by rw [hml]; rfl) (argsL := [(.ref sb1), (.int p2)]) (rest := []) (lenOf own_pd4 rfl) rfl (Nat.le_refl _) (hb hby d33_12) (fun _ _ => ⟨rfl, e2, (by decide : 0 + 0 ≤ _), (by decide : 0 + 0 ≤ _)⟩)
  dsimp only [Pt.U, Pt.locs, Pt.cells, Pt.slots] at X3 l3 y3 z3 st3 hQ3
  subst l3 y3 z3
  obtain ⟨rfl, N3q, eq3⟩ := hQ3
  have N3 := Fr.app N1 N3q
  refine og (B := T3.setTop (mkF m 15 #[rv a1, iv p2] [(.int (own_c x1))])) st3 ?_
  obtain ⟨fs, hr, hrun, hended, hW, hsame⟩ := X3.leave (v := some (.int (nar .char (own_c x1)))) (fun h => by rw [Bd.returns] at h; cases h)
  refine ⟨_, _, ?_, hrun, hended, _, _, rfl, ?_, ⟨_, rfl⟩, hW, hsame.mono (by decide) (by decide)⟩
  · show own_S p e below T3 (mkF m 15 #[rv a1, iv p2] [(.int (own_c x1))]) _
    exact retN X3 hx (t := .char) Bd.returns (by simp) (hb hby d33_15) hr
  · show Q33 Z a1 p2 sb1 ka z1 vs dv x1 GC GF h0 n0 _ T3.heap _
    rw [eq3]
    exact ⟨by rw [own_cc], N3, rfl⟩
def own_QS (Z : State) (m : Int32) (us : List Value) (h0 : Heap) (n0 : Nat) (v : Option Value) (h : Heap) (L : List Loc) : Prop := ∃ (a b : Addr) (kq : ClassId), v = some (.ref a) ∧ Fr n0 L ∧ Keep h0 h [] ∧ Exa Z h a "java/lang/String" ∧ Fld Z h a "java/lang/String" "coder" "B" (.int 0) ∧ Fld Z h a "java/lang/String" "value" "[B" (.ref b) ∧ Arv Z h b kq .byte m us (.int 0)
def own_QA (Z : State) (m : Int32) (us : List Value) (h0 : Heap) (n0 : Nat) (v : Option Value) (h : Heap) (L : List Loc) : Prop := ∃ (b : Addr) (kq : ClassId), v = some (.ref b) ∧ Fr n0 L ∧ Keep h0 h [] ∧ h0.size ≤ b ∧ n0 ≤ b ∧ Arv Z h b kq .byte m us (.int 0)
def own_QI (r : Int32) (h0 : Heap) (n0 : Nat) (v : Option Value) (h : Heap) (L : List Loc) : Prop := v = some (.int r) ∧ Fr n0 L ∧ h = h0
def own_b (y : Int32) : Int32 := nar .byte (y.toInt8.toInt32)
theorem pn_5 : plainName "java/lang/StringUTF16" = true := by first | (simp [plainName, overriddenIn]; done) | decide +kernel
theorem d5_0 : decode jdk_52_method_21_code 0 = .ok (.iconst 0, 1) := by decide +kernel
theorem d5_1 : decode jdk_52_method_21_code 1 = .ok (.istore 5, 2) := by decide +kernel
theorem d5_3 : decode jdk_52_method_21_code 3 = .ok (.iload 5, 2) := by decide +kernel
theorem d5_5 : decode jdk_52_method_21_code 5 = .ok (.iload 4, 2) := by decide +kernel
theorem d5_7 : decode jdk_52_method_21_code 7 = .ok (.if_icmp .ge 37, 3) := by decide +kernel
theorem d5_10 : decode jdk_52_method_21_code 10 = .ok (.aload_n 0, 1) := by decide +kernel
theorem d5_11 : decode jdk_52_method_21_code 11 = .ok (.iload_n 1, 1) := by decide +kernel
theorem d5_12 : decode jdk_52_method_21_code 12 = .ok (.caload, 1) := by decide +kernel
theorem d5_13 : decode jdk_52_method_21_code 13 = .ok (.istore 6, 2) := by decide +kernel
theorem d5_15 : decode jdk_52_method_21_code 15 = .ok (.iload 6, 2) := by decide +kernel
theorem d5_17 : decode jdk_52_method_21_code 17 = .ok (.sipush 255, 3) := by decide +kernel
theorem d5_20 : decode jdk_52_method_21_code 20 = .ok (.if_icmp .le 6, 3) := by decide +kernel
theorem d5_26 : decode jdk_52_method_21_code 26 = .ok (.aload_n 2, 1) := by decide +kernel
theorem d5_27 : decode jdk_52_method_21_code 27 = .ok (.iload_n 3, 1) := by decide +kernel
theorem d5_28 : decode jdk_52_method_21_code 28 = .ok (.iload 6, 2) := by decide +kernel
theorem d5_30 : decode jdk_52_method_21_code 30 = .ok (.i2b, 1) := by decide +kernel
theorem d5_31 : decode jdk_52_method_21_code 31 = .ok (.bastore, 1) := by decide +kernel
theorem d5_32 : decode jdk_52_method_21_code 32 = .ok (.iinc 1 1, 3) := by decide +kernel
theorem d5_35 : decode jdk_52_method_21_code 35 = .ok (.iinc 3 1, 3) := by decide +kernel
theorem d5_38 : decode jdk_52_method_21_code 38 = .ok (.iinc 5 1, 3) := by decide +kernel
theorem d5_41 : decode jdk_52_method_21_code 41 = .ok (.goto (-38), 3) := by decide +kernel
theorem d5_44 : decode jdk_52_method_21_code 44 = .ok (.iload 4, 2) := by decide +kernel
theorem d5_46 : decode jdk_52_method_21_code 46 = .ok (.ireturn, 1) := by decide +kernel
theorem ef_5 (m : MethodId) (x0 : Addr) (x1 : Int32) (x2 : Addr) (x3 : Int32) (x4 : Int32) : entryFrame m #[(.ref x0), (.int x1), (.ref x2), (.int x3), (.int x4)] 7 = mkF m 0 #[.val (.ref x0), .val (.int x1), .val (.ref x2), .val (.int x3), .val (.int x4), .unset, .unset] [] := by first | (simp [entryFrame, mkF, argsToLocals, Value.category]; done) | rfl
def Q5_1 (Z : State) (a1 : Addr) (a3 : Addr) (kc1 : ClassId) (kc3 : ClassId) (y0 : Int32) (h0 : Heap) (n0 : Nat) (v : Option Value) (h : Heap) (L : List Loc) : Prop := v = some (.int (1 : Int32)) ∧ Fr n0 L ∧ Keep h0 h [a3] ∧ Arv Z h a3 kc3 .byte (1 : Int32) [(.int (own_b y0))] (.int 0)
set_option maxRecDepth 65536 in
set_option maxHeartbeats 40000000 in
theorem rm5_1 (l : Launch) (Z : State) (a0 : Array Value) (hw : ∀ d ∈ tables_1, d.before a0 Z = true) (ws : List Jvm.Cond) (a1 : Addr) (a3 : Addr) (kc1 : ClassId) (kc3 : ClassId) (y0 : Int32) (h0 : Heap) (n0 : Nat) (Z0 : n0 ≤ h0.size) (V_a : Arv Z h0 a1 kc1 .char (1 : Int32) [(.int y0)] (.int 0)) (V_b : Arv Z h0 a3 kc3 .byte (1 : Int32) [(.int 0)] (.int 0)) (n_ab : a1 ≠ a3) (g_a3 : n0 ≤ a3) (hp0 : ¬ (255 : Int32) < y0) :
    MetFree l own_y7 (head1 (Jvm.Cond.code own_y7 jdk_52_method_21_code 7 (some .int) :: ws) ({ frames := 0, cells := 0, slots := 0, locals := 0 } : Room)) (fun a U => a = #[(.ref a1), (.int 0), (.ref a3), (.int 0), (.int 1)] ∧ Z.Warmed39 U.vm ∧ U.heap = h0) (fun _ _ _ _ _ => True) (fun _ U o U' => ∃ v L, o = .returned v ∧ Q5_1 Z a1 a3 kc1 kc3 y0 h0 n0 v U'.heap L ∧ FrameEnd U o U' L ({ frames := 0, cells := 0, slots := 0, locals := 0 } : Room).cells ({ frames := 0, cells := 0, slots := 0, locals := 0 } : Room).slots) := by
  refine MetFree.of_bodySF (plainFor_of_name pn_5) hisR ?_
  intro p e s m args below meth c s₁ Bd hml0 hP hK
  obtain ⟨rfl, hZ, hh⟩ := hP
  have hx := Bd.exec
  have hby := Bd.bytes
  have hml : c.maxLocals = 7 := hml0
  have hown : s.vm.findClass "java/lang/StringUTF16" = some m.cls := findClass_of_methodNamed Bd.named
  have hnm := (name_of_methodNamed Bd.named Bd.method).1
  have X0 : Stand p l e ({ frames := 0, cells := 0, slots := 0, locals := 0 } : Room) s m #[(.ref a1), (.int 0), (.ref a3), (.int 0), (.int 1)] below meth c s₁ [] 0 0 := Stand.of_body Bd
  have e0 : s₁.heap = h0 := by rw [← hh, Bd.state]; rfl
  have N0 := Fr.nil n0
  refine og (B := s₁.setTop (mkF m 0 #[rv a1, iv 0, rv a3, iv 0, iv 1, .unset, .unset] [])) (fun t k => castTop (ef_5 m a1 (0 : Int32) a3 (0 : Int32) (1 : Int32)) k) ?_
  obtain ⟨cl1, Ar1, qk1, S1, M1, H1, G1⟩ := id V_a
  refine og (B := s₁.setTop (mkF m 31 #[rv a1, iv 0, rv a3, iv 0, iv 1, iv 0, iv y0] [(.int (y0.toInt8.toInt32)), (.int 0), (.ref a3)])) (fun t k => ?_) ?_
  · refine XS.iconst X0.here hx rfl (hb hby d5_0) ?_
    refine XS.istore X0.here hx rfl (hb hby d5_1) rfl (l' := #[rv a1, iv 0, rv a3, iv 0, iv 1, iv 0, .unset]) rfl ?_
    refine XS.iload X0.here hx rfl (hb hby d5_3) rfl ?_
    refine XS.iload X0.here hx rfl (hb hby d5_5) rfl ?_
    refine XS.icmpNo X0.here hx rfl (hb hby d5_7) rfl (tlt (by decide)).2.1 ?_
    refine XS.aloadN X0.here hx rfl (hb hby d5_10) rfl rfl ?_
    show own_S p e below s₁ (mkF m 11 #[rv a1, iv 0, rv a3, iv 0, iv 1, iv 0, .unset] [(.ref a1)]) _
    refine XS.iloadN X0.here hx rfl (hb hby d5_11) rfl ?_
    refine X0.caload hx (j := (0 : Int32)) (v := (.int y0)) (by rw [e0]; exact Ar1.1) (State.isArrayOf_alike hZ.alike Ar1.2.1) Ar1.2.2 (inb_of S1 ⟨by decide, by decide⟩) (Has.at H1 (inb_of S1 ⟨by decide, by decide⟩) rfl) (g := (mkF m 12 #[rv a1, iv 0, rv a3, iv 0, iv 1, iv 0, .unset] [(.int 0), (.ref a1)])) rfl rfl (hb hby d5_12) _ ?_
    refine XS.istore X0.here hx rfl (hb hby d5_13) rfl (l' := #[rv a1, iv 0, rv a3, iv 0, iv 1, iv 0, iv y0]) rfl ?_
    refine XS.iload X0.here hx rfl (hb hby d5_15) rfl ?_
    refine XS.sipush X0.here hx rfl (hb hby d5_17) ?_
    refine XS.icmpYes X0.here hx rfl (pc0 := 20) (pc' := 26) rfl (hb hby d5_20) rfl (flt hp0).2.2.2 (by decide) (by decide) ?_
    show own_S p e below s₁ (mkF m 26 #[rv a1, iv 0, rv a3, iv 0, iv 1, iv 0, iv y0] []) _
    refine XS.aloadN X0.here hx rfl (hb hby d5_26) rfl rfl ?_
    refine XS.iloadN X0.here hx rfl (hb hby d5_27) rfl ?_
    refine XS.iload X0.here hx rfl (hb hby d5_28) rfl ?_
    refine XS.i2b X0.here hx rfl (hb hby d5_30) rfl ?_
    exact k
  obtain ⟨cl2, Ar2, qk2, S2, M2, H2, G2⟩ := id V_b
  obtain ⟨T2, h2, X2, e2, W2, st2⟩ := stB X0 hx hZ e0 Ar2 (j := (0 : Int32)) (inb_of S2 ⟨by decide, by decide⟩) (g := (mkF m 31 #[rv a1, iv 0, rv a3, iv 0, iv 1, iv 0, iv y0] [(.int (y0.toInt8.toInt32)), (.int 0), (.ref a3)])) rfl rfl (hb hby d5_31)
  have V2 : Arv Z h2 a3 kc3 .byte (1 : Int32) [(.int (nar .byte (y0.toInt8.toInt32)))] (.int 0) := Arv.set Ar2 qk2 S2 M2 H2 G2 (fits_nar_byte _) W2 0 rfl (Nat.le_of_ble_eq_true rfl)
  have c2_V_a1 := V_a.other W2 n_ab
  have K2 := (Keep.refl h0 [a3]).wr W2 (Or.inl (List.mem_of_getElem? (i := 0) rfl))
  have N2 := Fr.snoc X2 N0 g_a3
  have zs2 := (Nat.le_trans Z0 (Keep.of_wr W2).1)
  have zk2 := (Nat.le_trans (Nat.zero_le _) (Keep.of_wr W2).1)
  refine og (B := T2.setTop (mkF m 32 #[rv a1, iv 0, rv a3, iv 0, iv 1, iv 0, iv y0] [])) st2 ?_
  obtain ⟨fs, hr, hrun, hended, hW, hsame⟩ := X2.leave (v := some (.int 1)) (fun h => by rw [Bd.returns] at h; cases h)
  refine ⟨_, _, ?_, hrun, hended, _, _, rfl, ?_, ⟨_, rfl⟩, hW, hsame.mono (by decide) (by decide)⟩
  · refine XS.iinc X2.here hx rfl (hb hby d5_32) rfl (l' := #[rv a1, iv 1, rv a3, iv 0, iv 1, iv 0, iv y0]) rfl ?_
    refine XS.iinc X2.here hx rfl (hb hby d5_35) rfl (l' := #[rv a1, iv 1, rv a3, iv 1, iv 1, iv 0, iv y0]) rfl ?_
    refine XS.iinc X2.here hx rfl (hb hby d5_38) rfl (l' := #[rv a1, iv 1, rv a3, iv 1, iv 1, iv 1, iv y0]) rfl ?_
    refine XS.goto X2.here hx rfl (pc0 := 41) (pc' := 3) rfl (hb hby d5_41) (by decide) (by decide) ?_
    refine XS.iload X2.here hx rfl (hb hby d5_3) rfl ?_
    refine XS.iload X2.here hx rfl (hb hby d5_5) rfl ?_
    show own_S p e below T2 (mkF m 7 #[rv a1, iv 1, rv a3, iv 1, iv 1, iv 1, iv y0] [(.int 1), (.int 1)]) _
    refine XS.icmpYes X2.here hx rfl (pc0 := 7) (pc' := 44) rfl (hb hby d5_7) rfl (flt (by decide)).2.1 (by decide) (by decide) ?_
    refine XS.iload X2.here hx rfl (hb hby d5_44) rfl ?_
    show own_S p e below T2 (mkF m 46 #[rv a1, iv 1, rv a3, iv 1, iv 1, iv 1, iv y0] [(.int 1)]) _
    exact retI X2 hx Bd.returns (hb hby d5_46) hr
  · show Q5_1 Z a1 a3 kc1 kc3 y0 h0 n0 _ T2.heap _
    rw [e2]
    exact ⟨rfl, N2, K2, V2⟩
theorem pn_4 : plainName "java/lang/StringUTF16" = true := by first | (simp [plainName, overriddenIn]; done) | decide +kernel
theorem d4_0 : decode jdk_52_method_16_code 0 = .ok (.iload_n 2, 1) := by decide +kernel
theorem d4_1 : decode jdk_52_method_16_code 1 = .ok (.newarray .byte, 2) := by decide +kernel
theorem d4_3 : decode jdk_52_method_16_code 3 = .ok (.astore_n 3, 1) := by decide +kernel
theorem d4_4 : decode jdk_52_method_16_code 4 = .ok (.aload_n 0, 1) := by decide +kernel
theorem d4_5 : decode jdk_52_method_16_code 5 = .ok (.iload_n 1, 1) := by decide +kernel
theorem d4_6 : decode jdk_52_method_16_code 6 = .ok (.aload_n 3, 1) := by decide +kernel
theorem d4_7 : decode jdk_52_method_16_code 7 = .ok (.iconst 0, 1) := by decide +kernel
theorem d4_8 : decode jdk_52_method_16_code 8 = .ok (.iload_n 2, 1) := by decide +kernel
theorem d4_9 : decode jdk_52_method_16_code 9 = .ok (.invokestatic 115, 3) := by decide +kernel
theorem d4_12 : decode jdk_52_method_16_code 12 = .ok (.istore 4, 2) := by decide +kernel
theorem d4_14 : decode jdk_52_method_16_code 14 = .ok (.iload 4, 2) := by decide +kernel
theorem d4_16 : decode jdk_52_method_16_code 16 = .ok (.iload_n 2, 1) := by decide +kernel
theorem d4_17 : decode jdk_52_method_16_code 17 = .ok (.if_icmp .eq 40, 3) := by decide +kernel
theorem d4_57 : decode jdk_52_method_16_code 57 = .ok (.aload_n 3, 1) := by decide +kernel
theorem d4_58 : decode jdk_52_method_16_code 58 = .ok (.areturn, 1) := by decide +kernel
theorem ef_4 (m : MethodId) (x0 : Addr) (x1 : Int32) (x2 : Int32) : entryFrame m #[(.ref x0), (.int x1), (.int x2)] 6 = mkF m 0 #[.val (.ref x0), .val (.int x1), .val (.int x2), .unset, .unset, .unset] [] := by first | (simp [entryFrame, mkF, argsToLocals, Value.category]; done) | rfl
def Q4_1 (Z : State) (a1 : Addr) (kc1 : ClassId) (y0 : Int32) (h0 : Heap) (n0 : Nat) (v : Option Value) (h : Heap) (L : List Loc) : Prop := ∃ (b : Addr) (kb : ClassId), v = some (.ref b) ∧ Fr n0 L ∧ Keep h0 h [] ∧ h0.size ≤ b ∧ n0 ≤ b ∧ Arv Z h b kb .byte (1 : Int32) [(.int (own_b y0))] (.int 0)
set_option maxRecDepth 65536 in
set_option maxHeartbeats 40000000 in
theorem rm4_1 (l : Launch) (Z : State) (a0 : Array Value) (hw : ∀ d ∈ tables_1, d.before a0 Z = true) (ws : List Jvm.Cond) (a1 : Addr) (kc1 : ClassId) (y0 : Int32) (h0 : Heap) (n0 : Nat) (Z0 : n0 ≤ h0.size) (V_a : Arv Z h0 a1 kc1 .char (1 : Int32) [(.int y0)] (.int 0)) (hp0 : ¬ (255 : Int32) < y0) :
    MetFree l own_y8 (head1 (Jvm.Cond.code own_y8 jdk_52_method_16_code 6 (some (.array .byte)) :: ws) ({ frames := 1, cells := 1, slots := 3, locals := 18 } : Room)) (fun a U => a = #[(.ref a1), (.int 0), (.int 1)] ∧ Z.Warmed39 U.vm ∧ U.heap = h0) (fun _ _ _ _ _ => True) (fun _ U o U' => ∃ v L, o = .returned v ∧ Q4_1 Z a1 kc1 y0 h0 n0 v U'.heap L ∧ FrameEnd U o U' L ({ frames := 1, cells := 1, slots := 3, locals := 18 } : Room).cells ({ frames := 1, cells := 1, slots := 3, locals := 18 } : Room).slots) := by
  refine MetFree.of_bodySF (plainFor_of_name pn_4) hisR ?_
  intro p e s m args below meth c s₁ Bd hml0 hP hK
  obtain ⟨rfl, hZ, hh⟩ := hP
  have hx := Bd.exec
  have hby := Bd.bytes
  have hml : c.maxLocals = 6 := hml0
  have hown : s.vm.findClass "java/lang/StringUTF16" = some m.cls := findClass_of_methodNamed Bd.named
  have hnm := (name_of_methodNamed Bd.named Bd.method).1
  have X0 : Stand p l e ({ frames := 1, cells := 1, slots := 3, locals := 18 } : Room) s m #[(.ref a1), (.int 0), (.int 1)] below meth c s₁ [] 0 0 := Stand.of_body Bd
  have e0 : s₁.heap = h0 := by rw [← hh, Bd.state]; rfl
  have N0 := Fr.nil n0
  refine og (B := s₁.setTop (mkF m 0 #[rv a1, iv 0, iv 1, .unset, .unset, .unset] [])) (fun t k => castTop (ef_4 m a1 (0 : Int32) (1 : Int32)) k) ?_
  refine og (B := s₁.setTop (mkF m 1 #[rv a1, iv 0, iv 1, .unset, .unset, .unset] [(.int 1)])) (fun t k => ?_) ?_
  · refine XS.iloadN X0.here hx rfl (hb hby d4_0) rfl ?_
    exact k
  obtain ⟨T1, h1, k1, X1, e1, E1, A1, st1⟩ := newP X0 hx hZ (ow hw 19 rfl) e0 (g := (mkF m 1 #[rv a1, iv 0, iv 1, .unset, .unset, .unset] [(.int 1)])) rfl (hb hby d4_1) rfl (by decide) (cap := 1) (by decide) (by decide) (by decide) (by decide)
  obtain ⟨b1, g1⟩ : ∃ z, z = h0.size := ⟨_, rfl⟩
  rw [← g1] at A1 st1
  have g_b1 : n0 ≤ b1 := Nat.le_trans Z0 (Nat.le_of_eq g1.symm)
  have sz_b1 : h0.size ≤ b1 := Nat.le_trans (Keep.refl h0 []).1 (Nat.le_of_eq g1.symm)
  have ne_a1_b1 : a1 ≠ b1 := Nat.ne_of_lt (Nat.lt_of_lt_of_le V_a.lt (Nat.le_of_eq g1.symm))
  have c1_V_a1 := V_a.ext E1
  have K1 := (Keep.refl h0 []).ext E1
  have V1 : Arv Z h1 b1 k1 .byte (1 : Int32) [(.int 0)] (.int 0) := (Arv.new A1 (by decide)).pad (pad_rep [] (.int 0) 1)
  have zk1 := (Nat.le_trans (Nat.zero_le _) E1.1)
  refine og (B := T1.setTop (mkF m 3 #[rv a1, iv 0, iv 1, .unset, .unset, .unset] [(.ref b1)])) st1 ?_
  refine og (B := T1.setTop (mkF m 9 #[rv a1, iv 0, iv 1, rv b1, .unset, .unset] [(.int 1), (.int 0), (.ref b1), (.int 0), (.ref a1)])) (fun t k => ?_) ?_
  · refine XS.astoreN X1.here hx rfl (hb hby d4_3) rfl rfl (l' := #[rv a1, iv 0, iv 1, rv b1, .unset, .unset]) rfl ?_
    refine XS.aloadN X1.here hx rfl (hb hby d4_4) rfl rfl ?_
    refine XS.iloadN X1.here hx rfl (hb hby d4_5) rfl ?_
    refine XS.aloadN X1.here hx rfl (hb hby d4_6) rfl rfl ?_
    refine XS.iconst X1.here hx rfl (hb hby d4_7) ?_
    refine XS.iloadN X1.here hx rfl (hb hby d4_8) rfl ?_
    exact k
  obtain ⟨_, _, ⟨T2, L2, k2, n2⟩, -, X2, ⟨Lc2, hQ2, l2, y2, z2⟩, st2⟩ := Jvm.LawKit.callS X1 hx (y := own_y7) hown (mvT hZ (ow hw 20 rfl)) (mvT hZ (ow hw 21 rfl)) (mvT hZ (ow hw 17 rfl)) (mvT hZ (ow hw 22 rfl)) (by decide) (backOf (W := 0) (rm5_1 l Z a0 hw [] a1 b1 kc1 k1 y0 h1 n0 (Nat.le_trans Z0 E1.1) c1_V_a1 V1 ne_a1_b1 g_b1 hp0) hZ (ow hw 22 rfl) (ow hw 17 rfl) (by decide) (by decide)) (g := (mkF m 9 #[rv a1, iv 0, iv 1, rv b1, .unset, .unset] [(.int 1), (.int 0), (.ref b1), (.int 0), (.ref a1)])) rfl (by rw [hml]; rfl) (argsL := [(.ref a1), (.int 0), (.ref b1), (.int 0), (.int 1)]) (rest := []) (lenOf own_pd5 rfl) rfl (Nat.le_refl _) (hb hby d4_9) (fun _ _ => ⟨rfl, e1, (by decide : 1 + 0 ≤ _), (by decide : 1 + 0 ≤ _)⟩)
  dsimp only [Pt.U, Pt.locs, Pt.cells, Pt.slots] at X2 l2 y2 z2 st2 hQ2
  subst l2 y2 z2
  obtain ⟨rfl, N2q, K2q, V2q⟩ := hQ2
  have N2 := Fr.app N0 N2q
  have c2_V_a1 := c1_V_a1.keep K2q (fun q => ne_a1_b1 (List.mem_singleton.mp q))
  have K2 := K1.trans K2q (allS (Or.inr sz_b1) all0)
  have zs2 := (Nat.le_trans (Nat.le_trans Z0 E1.1) K2q.1)
  refine og (B := T2.setTop (mkF m 12 #[rv a1, iv 0, iv 1, rv b1, .unset, .unset] [(.int 1)])) st2 ?_
  obtain ⟨fs, hr, hrun, hended, hW, hsame⟩ := X2.leave (v := some (.ref b1)) (fun h => by rw [Bd.returns] at h; cases h)
  refine ⟨_, _, ?_, hrun, hended, _, _, rfl, ?_, ⟨_, rfl⟩, hW, hsame.mono (by decide) (by decide)⟩
  · refine XS.istore X2.here hx rfl (hb hby d4_12) rfl (l' := #[rv a1, iv 0, iv 1, rv b1, iv 1, .unset]) rfl ?_
    refine XS.iload X2.here hx rfl (hb hby d4_14) rfl ?_
    refine XS.iloadN X2.here hx rfl (hb hby d4_16) rfl ?_
    refine XS.icmpYes X2.here hx rfl (pc0 := 17) (pc' := 57) rfl (hb hby d4_17) rfl (teq (by decide)).1 (by decide) (by decide) ?_
    refine XS.aloadN X2.here hx rfl (hb hby d4_57) rfl rfl ?_
    show own_S p e below T2 (mkF m 58 #[rv a1, iv 0, iv 1, rv b1, iv 1, .unset] [(.ref b1)]) _
    jvm_step X2.here [X2.here.top, hx, (hb hby d4_58), X2.method', Bd.returns, Value.isRef, FieldType.isReference]
    first | (intro acts; rw [hr _ acts rfl rfl rfl]) | rw [hr _ _ rfl rfl rfl]
    exact Steps.refl _
  · show Q4_1 Z a1 kc1 y0 h0 n0 _ T2.heap _
    exact ⟨b1, k1, rfl, N2, K2, sz_b1, g_b1, V2q⟩
def Q5_2 (Z : State) (a1 : Addr) (a3 : Addr) (kc1 : ClassId) (kc3 : ClassId) (y0 : Int32) (y1 : Int32) (h0 : Heap) (n0 : Nat) (v : Option Value) (h : Heap) (L : List Loc) : Prop := v = some (.int (2 : Int32)) ∧ Fr n0 L ∧ Keep h0 h [a3] ∧ Arv Z h a3 kc3 .byte (2 : Int32) [(.int (own_b y0)), (.int (own_b y1))] (.int 0)
set_option maxRecDepth 65536 in
set_option maxHeartbeats 40000000 in
theorem rm5_2 (l : Launch) (Z : State) (a0 : Array Value) (hw : ∀ d ∈ tables_1, d.before a0 Z = true) (ws : List Jvm.Cond) (a1 : Addr) (a3 : Addr) (kc1 : ClassId) (kc3 : ClassId) (y0 : Int32) (y1 : Int32) (h0 : Heap) (n0 : Nat) (Z0 : n0 ≤ h0.size) (V_a : Arv Z h0 a1 kc1 .char (2 : Int32) [(.int y0), (.int y1)] (.int 0)) (V_b : Arv Z h0 a3 kc3 .byte (2 : Int32) [(.int 0), (.int 0)] (.int 0)) (n_ab : a1 ≠ a3) (g_a3 : n0 ≤ a3) (hp0 : ¬ (255 : Int32) < y0) (hp1 : ¬ (255 : Int32) < y1) :
    MetFree l own_y7 (head1 (Jvm.Cond.code own_y7 jdk_52_method_21_code 7 (some .int) :: ws) ({ frames := 0, cells := 0, slots := 0, locals := 0 } : Room)) (fun a U => a = #[(.ref a1), (.int 0), (.ref a3), (.int 0), (.int 2)] ∧ Z.Warmed39 U.vm ∧ U.heap = h0) (fun _ _ _ _ _ => True) (fun _ U o U' => ∃ v L, o = .returned v ∧ Q5_2 Z a1 a3 kc1 kc3 y0 y1 h0 n0 v U'.heap L ∧ FrameEnd U o U' L ({ frames := 0, cells := 0, slots := 0, locals := 0 } : Room).cells ({ frames := 0, cells := 0, slots := 0, locals := 0 } : Room).slots) := by
  refine MetFree.of_bodySF (plainFor_of_name pn_5) hisR ?_
  intro p e s m args below meth c s₁ Bd hml0 hP hK
  obtain ⟨rfl, hZ, hh⟩ := hP
  have hx := Bd.exec
  have hby := Bd.bytes
  have hml : c.maxLocals = 7 := hml0
  have hown : s.vm.findClass "java/lang/StringUTF16" = some m.cls := findClass_of_methodNamed Bd.named
  have hnm := (name_of_methodNamed Bd.named Bd.method).1
  have X0 : Stand p l e ({ frames := 0, cells := 0, slots := 0, locals := 0 } : Room) s m #[(.ref a1), (.int 0), (.ref a3), (.int 0), (.int 2)] below meth c s₁ [] 0 0 := Stand.of_body Bd
  have e0 : s₁.heap = h0 := by rw [← hh, Bd.state]; rfl
  have N0 := Fr.nil n0
  refine og (B := s₁.setTop (mkF m 0 #[rv a1, iv 0, rv a3, iv 0, iv 2, .unset, .unset] [])) (fun t k => castTop (ef_5 m a1 (0 : Int32) a3 (0 : Int32) (2 : Int32)) k) ?_
  obtain ⟨cl1, Ar1, qk1, S1, M1, H1, G1⟩ := id V_a
  refine og (B := s₁.setTop (mkF m 31 #[rv a1, iv 0, rv a3, iv 0, iv 2, iv 0, iv y0] [(.int (y0.toInt8.toInt32)), (.int 0), (.ref a3)])) (fun t k => ?_) ?_
  · refine XS.iconst X0.here hx rfl (hb hby d5_0) ?_
    refine XS.istore X0.here hx rfl (hb hby d5_1) rfl (l' := #[rv a1, iv 0, rv a3, iv 0, iv 2, iv 0, .unset]) rfl ?_
    refine XS.iload X0.here hx rfl (hb hby d5_3) rfl ?_
    refine XS.iload X0.here hx rfl (hb hby d5_5) rfl ?_
    refine XS.icmpNo X0.here hx rfl (hb hby d5_7) rfl (tlt (by decide)).2.1 ?_
    refine XS.aloadN X0.here hx rfl (hb hby d5_10) rfl rfl ?_
    show own_S p e below s₁ (mkF m 11 #[rv a1, iv 0, rv a3, iv 0, iv 2, iv 0, .unset] [(.ref a1)]) _
    refine XS.iloadN X0.here hx rfl (hb hby d5_11) rfl ?_
    refine X0.caload hx (j := (0 : Int32)) (v := (.int y0)) (by rw [e0]; exact Ar1.1) (State.isArrayOf_alike hZ.alike Ar1.2.1) Ar1.2.2 (inb_of S1 ⟨by decide, by decide⟩) (Has.at H1 (inb_of S1 ⟨by decide, by decide⟩) rfl) (g := (mkF m 12 #[rv a1, iv 0, rv a3, iv 0, iv 2, iv 0, .unset] [(.int 0), (.ref a1)])) rfl rfl (hb hby d5_12) _ ?_
    refine XS.istore X0.here hx rfl (hb hby d5_13) rfl (l' := #[rv a1, iv 0, rv a3, iv 0, iv 2, iv 0, iv y0]) rfl ?_
    refine XS.iload X0.here hx rfl (hb hby d5_15) rfl ?_
    refine XS.sipush X0.here hx rfl (hb hby d5_17) ?_
    refine XS.icmpYes X0.here hx rfl (pc0 := 20) (pc' := 26) rfl (hb hby d5_20) rfl (flt hp0).2.2.2 (by decide) (by decide) ?_
    show own_S p e below s₁ (mkF m 26 #[rv a1, iv 0, rv a3, iv 0, iv 2, iv 0, iv y0] []) _
    refine XS.aloadN X0.here hx rfl (hb hby d5_26) rfl rfl ?_
    refine XS.iloadN X0.here hx rfl (hb hby d5_27) rfl ?_
    refine XS.iload X0.here hx rfl (hb hby d5_28) rfl ?_
    refine XS.i2b X0.here hx rfl (hb hby d5_30) rfl ?_
    exact k
  obtain ⟨cl2, Ar2, qk2, S2, M2, H2, G2⟩ := id V_b
  obtain ⟨T2, h2, X2, e2, W2, st2⟩ := stB X0 hx hZ e0 Ar2 (j := (0 : Int32)) (inb_of S2 ⟨by decide, by decide⟩) (g := (mkF m 31 #[rv a1, iv 0, rv a3, iv 0, iv 2, iv 0, iv y0] [(.int (y0.toInt8.toInt32)), (.int 0), (.ref a3)])) rfl rfl (hb hby d5_31)
  have V2 : Arv Z h2 a3 kc3 .byte (2 : Int32) [(.int (nar .byte (y0.toInt8.toInt32))), (.int 0)] (.int 0) := Arv.set Ar2 qk2 S2 M2 H2 G2 (fits_nar_byte _) W2 0 rfl (Nat.le_of_ble_eq_true rfl)
  have c2_V_a1 := V_a.other W2 n_ab
  have K2 := (Keep.refl h0 [a3]).wr W2 (Or.inl (List.mem_of_getElem? (i := 0) rfl))
  have N2 := Fr.snoc X2 N0 g_a3
  have zs2 := (Nat.le_trans Z0 (Keep.of_wr W2).1)
  have zk2 := (Nat.le_trans (Nat.zero_le _) (Keep.of_wr W2).1)
  refine og (B := T2.setTop (mkF m 32 #[rv a1, iv 0, rv a3, iv 0, iv 2, iv 0, iv y0] [])) st2 ?_
  obtain ⟨cl3, Ar3, qk3, S3, M3, H3, G3⟩ := id c2_V_a1
  refine og (B := T2.setTop (mkF m 31 #[rv a1, iv 1, rv a3, iv 1, iv 2, iv 1, iv y1] [(.int (y1.toInt8.toInt32)), (.int 1), (.ref a3)])) (fun t k => ?_) ?_
  · refine XS.iinc X2.here hx rfl (hb hby d5_32) rfl (l' := #[rv a1, iv 1, rv a3, iv 0, iv 2, iv 0, iv y0]) rfl ?_
    refine XS.iinc X2.here hx rfl (hb hby d5_35) rfl (l' := #[rv a1, iv 1, rv a3, iv 1, iv 2, iv 0, iv y0]) rfl ?_
    refine XS.iinc X2.here hx rfl (hb hby d5_38) rfl (l' := #[rv a1, iv 1, rv a3, iv 1, iv 2, iv 1, iv y0]) rfl ?_
    refine XS.goto X2.here hx rfl (pc0 := 41) (pc' := 3) rfl (hb hby d5_41) (by decide) (by decide) ?_
    refine XS.iload X2.here hx rfl (hb hby d5_3) rfl ?_
    refine XS.iload X2.here hx rfl (hb hby d5_5) rfl ?_
    show own_S p e below T2 (mkF m 7 #[rv a1, iv 1, rv a3, iv 1, iv 2, iv 1, iv y0] [(.int 2), (.int 1)]) _
    refine XS.icmpNo X2.here hx rfl (hb hby d5_7) rfl (tlt (by decide)).2.1 ?_
    refine XS.aloadN X2.here hx rfl (hb hby d5_10) rfl rfl ?_
    refine XS.iloadN X2.here hx rfl (hb hby d5_11) rfl ?_
    refine X2.caload hx (j := (1 : Int32)) (v := (.int y1)) (by rw [e2]; exact Ar3.1) (State.isArrayOf_alike hZ.alike Ar3.2.1) Ar3.2.2 (inb_of S3 ⟨by decide, by decide⟩) (Has.at H3 (inb_of S3 ⟨by decide, by decide⟩) rfl) (g := (mkF m 12 #[rv a1, iv 1, rv a3, iv 1, iv 2, iv 1, iv y0] [(.int 1), (.ref a1)])) rfl rfl (hb hby d5_12) _ ?_
    refine XS.istore X2.here hx rfl (hb hby d5_13) rfl (l' := #[rv a1, iv 1, rv a3, iv 1, iv 2, iv 1, iv y1]) rfl ?_
    refine XS.iload X2.here hx rfl (hb hby d5_15) rfl ?_
    show own_S p e below T2 (mkF m 17 #[rv a1, iv 1, rv a3, iv 1, iv 2, iv 1, iv y1] [(.int y1)]) _
    refine XS.sipush X2.here hx rfl (hb hby d5_17) ?_
    refine XS.icmpYes X2.here hx rfl (pc0 := 20) (pc' := 26) rfl (hb hby d5_20) rfl (flt hp1).2.2.2 (by decide) (by decide) ?_
    refine XS.aloadN X2.here hx rfl (hb hby d5_26) rfl rfl ?_
    refine XS.iloadN X2.here hx rfl (hb hby d5_27) rfl ?_
    refine XS.iload X2.here hx rfl (hb hby d5_28) rfl ?_
    refine XS.i2b X2.here hx rfl (hb hby d5_30) rfl ?_
    exact k
  obtain ⟨cl4, Ar4, qk4, S4, M4, H4, G4⟩ := id V2
  obtain ⟨T4, h4, X4, e4, W4, st4⟩ := stB X2 hx hZ e2 Ar4 (j := (1 : Int32)) (inb_of S4 ⟨by decide, by decide⟩) (g := (mkF m 31 #[rv a1, iv 1, rv a3, iv 1, iv 2, iv 1, iv y1] [(.int (y1.toInt8.toInt32)), (.int 1), (.ref a3)])) rfl rfl (hb hby d5_31)
  have V4 : Arv Z h4 a3 kc3 .byte (2 : Int32) [(.int (nar .byte (y0.toInt8.toInt32))), (.int (nar .byte (y1.toInt8.toInt32)))] (.int 0) := Arv.set Ar4 qk4 S4 M4 H4 G4 (fits_nar_byte _) W4 1 rfl (Nat.le_of_ble_eq_true rfl)
  have c4_V_a1 := c2_V_a1.other W4 n_ab
  have K4 := K2.wr W4 (Or.inl (List.mem_of_getElem? (i := 0) rfl))
  have N4 := Fr.snoc X4 N2 g_a3
  have zs4 := (Nat.le_trans zs2 (Keep.of_wr W4).1)
  have zk4 := (Nat.le_trans zk2 (Keep.of_wr W4).1)
  refine og (B := T4.setTop (mkF m 32 #[rv a1, iv 1, rv a3, iv 1, iv 2, iv 1, iv y1] [])) st4 ?_
  obtain ⟨fs, hr, hrun, hended, hW, hsame⟩ := X4.leave (v := some (.int 2)) (fun h => by rw [Bd.returns] at h; cases h)
  refine ⟨_, _, ?_, hrun, hended, _, _, rfl, ?_, ⟨_, rfl⟩, hW, hsame.mono (by decide) (by decide)⟩
  · refine XS.iinc X4.here hx rfl (hb hby d5_32) rfl (l' := #[rv a1, iv 2, rv a3, iv 1, iv 2, iv 1, iv y1]) rfl ?_
    refine XS.iinc X4.here hx rfl (hb hby d5_35) rfl (l' := #[rv a1, iv 2, rv a3, iv 2, iv 2, iv 1, iv y1]) rfl ?_
    refine XS.iinc X4.here hx rfl (hb hby d5_38) rfl (l' := #[rv a1, iv 2, rv a3, iv 2, iv 2, iv 2, iv y1]) rfl ?_
    refine XS.goto X4.here hx rfl (pc0 := 41) (pc' := 3) rfl (hb hby d5_41) (by decide) (by decide) ?_
    refine XS.iload X4.here hx rfl (hb hby d5_3) rfl ?_
    refine XS.iload X4.here hx rfl (hb hby d5_5) rfl ?_
    show own_S p e below T4 (mkF m 7 #[rv a1, iv 2, rv a3, iv 2, iv 2, iv 2, iv y1] [(.int 2), (.int 2)]) _
    refine XS.icmpYes X4.here hx rfl (pc0 := 7) (pc' := 44) rfl (hb hby d5_7) rfl (flt (by decide)).2.1 (by decide) (by decide) ?_
    refine XS.iload X4.here hx rfl (hb hby d5_44) rfl ?_
    show own_S p e below T4 (mkF m 46 #[rv a1, iv 2, rv a3, iv 2, iv 2, iv 2, iv y1] [(.int 2)]) _
    exact retI X4 hx Bd.returns (hb hby d5_46) hr
  · show Q5_2 Z a1 a3 kc1 kc3 y0 y1 h0 n0 _ T4.heap _
    rw [e4]
    exact ⟨rfl, N4, K4, V4⟩
def Q4_2 (Z : State) (a1 : Addr) (kc1 : ClassId) (y0 : Int32) (y1 : Int32) (h0 : Heap) (n0 : Nat) (v : Option Value) (h : Heap) (L : List Loc) : Prop := ∃ (b : Addr) (kb : ClassId), v = some (.ref b) ∧ Fr n0 L ∧ Keep h0 h [] ∧ h0.size ≤ b ∧ n0 ≤ b ∧ Arv Z h b kb .byte (2 : Int32) [(.int (own_b y0)), (.int (own_b y1))] (.int 0)
set_option maxRecDepth 65536 in
set_option maxHeartbeats 40000000 in
theorem rm4_2 (l : Launch) (Z : State) (a0 : Array Value) (hw : ∀ d ∈ tables_1, d.before a0 Z = true) (ws : List Jvm.Cond) (a1 : Addr) (kc1 : ClassId) (y0 : Int32) (y1 : Int32) (h0 : Heap) (n0 : Nat) (Z0 : n0 ≤ h0.size) (V_a : Arv Z h0 a1 kc1 .char (2 : Int32) [(.int y0), (.int y1)] (.int 0)) (hp0 : ¬ (255 : Int32) < y0) (hp1 : ¬ (255 : Int32) < y1) :
    MetFree l own_y8 (head1 (Jvm.Cond.code own_y8 jdk_52_method_16_code 6 (some (.array .byte)) :: ws) ({ frames := 1, cells := 1, slots := 3, locals := 18 } : Room)) (fun a U => a = #[(.ref a1), (.int 0), (.int 2)] ∧ Z.Warmed39 U.vm ∧ U.heap = h0) (fun _ _ _ _ _ => True) (fun _ U o U' => ∃ v L, o = .returned v ∧ Q4_2 Z a1 kc1 y0 y1 h0 n0 v U'.heap L ∧ FrameEnd U o U' L ({ frames := 1, cells := 1, slots := 3, locals := 18 } : Room).cells ({ frames := 1, cells := 1, slots := 3, locals := 18 } : Room).slots) := by
  refine MetFree.of_bodySF (plainFor_of_name pn_4) hisR ?_
  intro p e s m args below meth c s₁ Bd hml0 hP hK
  obtain ⟨rfl, hZ, hh⟩ := hP
  have hx := Bd.exec
  have hby := Bd.bytes
  have hml : c.maxLocals = 6 := hml0
  have hown : s.vm.findClass "java/lang/StringUTF16" = some m.cls := findClass_of_methodNamed Bd.named
  have hnm := (name_of_methodNamed Bd.named Bd.method).1
  have X0 : Stand p l e ({ frames := 1, cells := 1, slots := 3, locals := 18 } : Room) s m #[(.ref a1), (.int 0), (.int 2)] below meth c s₁ [] 0 0 := Stand.of_body Bd
  have e0 : s₁.heap = h0 := by rw [← hh, Bd.state]; rfl
  have N0 := Fr.nil n0
  refine og (B := s₁.setTop (mkF m 0 #[rv a1, iv 0, iv 2, .unset, .unset, .unset] [])) (fun t k => castTop (ef_4 m a1 (0 : Int32) (2 : Int32)) k) ?_
  refine og (B := s₁.setTop (mkF m 1 #[rv a1, iv 0, iv 2, .unset, .unset, .unset] [(.int 2)])) (fun t k => ?_) ?_
  · refine XS.iloadN X0.here hx rfl (hb hby d4_0) rfl ?_
    exact k
  obtain ⟨T1, h1, k1, X1, e1, E1, A1, st1⟩ := newP X0 hx hZ (ow hw 19 rfl) e0 (g := (mkF m 1 #[rv a1, iv 0, iv 2, .unset, .unset, .unset] [(.int 2)])) rfl (hb hby d4_1) rfl (by decide) (cap := 2) (by decide) (by decide) (by decide) (by decide)
  obtain ⟨b1, g1⟩ : ∃ z, z = h0.size := ⟨_, rfl⟩
  rw [← g1] at A1 st1
  have g_b1 : n0 ≤ b1 := Nat.le_trans Z0 (Nat.le_of_eq g1.symm)
  have sz_b1 : h0.size ≤ b1 := Nat.le_trans (Keep.refl h0 []).1 (Nat.le_of_eq g1.symm)
  have ne_a1_b1 : a1 ≠ b1 := Nat.ne_of_lt (Nat.lt_of_lt_of_le V_a.lt (Nat.le_of_eq g1.symm))
  have c1_V_a1 := V_a.ext E1
  have K1 := (Keep.refl h0 []).ext E1
  have V1 : Arv Z h1 b1 k1 .byte (2 : Int32) [(.int 0), (.int 0)] (.int 0) := (Arv.new A1 (by decide)).pad (pad_rep [] (.int 0) 2)
  have zk1 := (Nat.le_trans (Nat.zero_le _) E1.1)
  refine og (B := T1.setTop (mkF m 3 #[rv a1, iv 0, iv 2, .unset, .unset, .unset] [(.ref b1)])) st1 ?_
  refine og (B := T1.setTop (mkF m 9 #[rv a1, iv 0, iv 2, rv b1, .unset, .unset] [(.int 2), (.int 0), (.ref b1), (.int 0), (.ref a1)])) (fun t k => ?_) ?_
  · refine XS.astoreN X1.here hx rfl (hb hby d4_3) rfl rfl (l' := #[rv a1, iv 0, iv 2, rv b1, .unset, .unset]) rfl ?_
    refine XS.aloadN X1.here hx rfl (hb hby d4_4) rfl rfl ?_
    refine XS.iloadN X1.here hx rfl (hb hby d4_5) rfl ?_
    refine XS.aloadN X1.here hx rfl (hb hby d4_6) rfl rfl ?_
    refine XS.iconst X1.here hx rfl (hb hby d4_7) ?_
    refine XS.iloadN X1.here hx rfl (hb hby d4_8) rfl ?_
    exact k
  obtain ⟨_, _, ⟨T2, L2, k2, n2⟩, -, X2, ⟨Lc2, hQ2, l2, y2, z2⟩, st2⟩ := Jvm.LawKit.callS X1 hx (y := own_y7) hown (mvT hZ (ow hw 20 rfl)) (mvT hZ (ow hw 21 rfl)) (mvT hZ (ow hw 17 rfl)) (mvT hZ (ow hw 22 rfl)) (by decide) (backOf (W := 0) (rm5_2 l Z a0 hw [] a1 b1 kc1 k1 y0 y1 h1 n0 (Nat.le_trans Z0 E1.1) c1_V_a1 V1 ne_a1_b1 g_b1 hp0 hp1) hZ (ow hw 22 rfl) (ow hw 17 rfl) (by decide) (by decide)) (g := (mkF m 9 #[rv a1, iv 0, iv 2, rv b1, .unset, .unset] [(.int 2), (.int 0), (.ref b1), (.int 0), (.ref a1)])) rfl (by rw [hml]; rfl) (argsL := [(.ref a1), (.int 0), (.ref b1), (.int 0), (.int 2)]) (rest := []) (lenOf own_pd5 rfl) rfl (Nat.le_refl _) (hb hby d4_9) (fun _ _ => ⟨rfl, e1, (by decide : 1 + 0 ≤ _), (by decide : 2 + 0 ≤ _)⟩)
  dsimp only [Pt.U, Pt.locs, Pt.cells, Pt.slots] at X2 l2 y2 z2 st2 hQ2
  subst l2 y2 z2
  obtain ⟨rfl, N2q, K2q, V2q⟩ := hQ2
  have N2 := Fr.app N0 N2q
  have c2_V_a1 := c1_V_a1.keep K2q (fun q => ne_a1_b1 (List.mem_singleton.mp q))
  have K2 := K1.trans K2q (allS (Or.inr sz_b1) all0)
  have zs2 := (Nat.le_trans (Nat.le_trans Z0 E1.1) K2q.1)
  refine og (B := T2.setTop (mkF m 12 #[rv a1, iv 0, iv 2, rv b1, .unset, .unset] [(.int 2)])) st2 ?_
  obtain ⟨fs, hr, hrun, hended, hW, hsame⟩ := X2.leave (v := some (.ref b1)) (fun h => by rw [Bd.returns] at h; cases h)
  refine ⟨_, _, ?_, hrun, hended, _, _, rfl, ?_, ⟨_, rfl⟩, hW, hsame.mono (by decide) (by decide)⟩
  · refine XS.istore X2.here hx rfl (hb hby d4_12) rfl (l' := #[rv a1, iv 0, iv 2, rv b1, iv 2, .unset]) rfl ?_
    refine XS.iload X2.here hx rfl (hb hby d4_14) rfl ?_
    refine XS.iloadN X2.here hx rfl (hb hby d4_16) rfl ?_
    refine XS.icmpYes X2.here hx rfl (pc0 := 17) (pc' := 57) rfl (hb hby d4_17) rfl (teq (by decide)).1 (by decide) (by decide) ?_
    refine XS.aloadN X2.here hx rfl (hb hby d4_57) rfl rfl ?_
    show own_S p e below T2 (mkF m 58 #[rv a1, iv 0, iv 2, rv b1, iv 2, .unset] [(.ref b1)]) _
    jvm_step X2.here [X2.here.top, hx, (hb hby d4_58), X2.method', Bd.returns, Value.isRef, FieldType.isReference]
    first | (intro acts; rw [hr _ acts rfl rfl rfl]) | rw [hr _ _ rfl rfl rfl]
    exact Steps.refl _
  · show Q4_2 Z a1 kc1 y0 y1 h0 n0 _ T2.heap _
    exact ⟨b1, k1, rfl, N2, K2, sz_b1, g_b1, V2q⟩
def Q5_3 (Z : State) (a1 : Addr) (a3 : Addr) (kc1 : ClassId) (kc3 : ClassId) (y0 : Int32) (y1 : Int32) (y2 : Int32) (h0 : Heap) (n0 : Nat) (v : Option Value) (h : Heap) (L : List Loc) : Prop := v = some (.int (3 : Int32)) ∧ Fr n0 L ∧ Keep h0 h [a3] ∧ Arv Z h a3 kc3 .byte (3 : Int32) [(.int (own_b y0)), (.int (own_b y1)), (.int (own_b y2))] (.int 0)
set_option maxRecDepth 65536 in
set_option maxHeartbeats 40000000 in
theorem rm5_3 (l : Launch) (Z : State) (a0 : Array Value) (hw : ∀ d ∈ tables_1, d.before a0 Z = true) (ws : List Jvm.Cond) (a1 : Addr) (a3 : Addr) (kc1 : ClassId) (kc3 : ClassId) (y0 : Int32) (y1 : Int32) (y2 : Int32) (h0 : Heap) (n0 : Nat) (Z0 : n0 ≤ h0.size) (V_a : Arv Z h0 a1 kc1 .char (3 : Int32) [(.int y0), (.int y1), (.int y2)] (.int 0)) (V_b : Arv Z h0 a3 kc3 .byte (3 : Int32) [(.int 0), (.int 0), (.int 0)] (.int 0)) (n_ab : a1 ≠ a3) (g_a3 : n0 ≤ a3) (hp0 : ¬ (255 : Int32) < y0) (hp1 : ¬ (255 : Int32) < y1) (hp2 : ¬ (255 : Int32) < y2) :
    MetFree l own_y7 (head1 (Jvm.Cond.code own_y7 jdk_52_method_21_code 7 (some .int) :: ws) ({ frames := 0, cells := 0, slots := 0, locals := 0 } : Room)) (fun a U => a = #[(.ref a1), (.int 0), (.ref a3), (.int 0), (.int 3)] ∧ Z.Warmed39 U.vm ∧ U.heap = h0) (fun _ _ _ _ _ => True) (fun _ U o U' => ∃ v L, o = .returned v ∧ Q5_3 Z a1 a3 kc1 kc3 y0 y1 y2 h0 n0 v U'.heap L ∧ FrameEnd U o U' L ({ frames := 0, cells := 0, slots := 0, locals := 0 } : Room).cells ({ frames := 0, cells := 0, slots := 0, locals := 0 } : Room).slots) := by
  refine MetFree.of_bodySF (plainFor_of_name pn_5) hisR ?_
  intro p e s m args below meth c s₁ Bd hml0 hP hK
  obtain ⟨rfl, hZ, hh⟩ := hP
  have hx := Bd.exec
  have hby := Bd.bytes
  have hml : c.maxLocals = 7 := hml0
  have hown : s.vm.findClass "java/lang/StringUTF16" = some m.cls := findClass_of_methodNamed Bd.named
  have hnm := (name_of_methodNamed Bd.named Bd.method).1
  have X0 : Stand p l e ({ frames := 0, cells := 0, slots := 0, locals := 0 } : Room) s m #[(.ref a1), (.int 0), (.ref a3), (.int 0), (.int 3)] below meth c s₁ [] 0 0 := Stand.of_body Bd
  have e0 : s₁.heap = h0 := by rw [← hh, Bd.state]; rfl
  have N0 := Fr.nil n0
  refine og (B := s₁.setTop (mkF m 0 #[rv a1, iv 0, rv a3, iv 0, iv 3, .unset, .unset] [])) (fun t k => castTop (ef_5 m a1 (0 : Int32) a3 (0 : Int32) (3 : Int32)) k) ?_
  obtain ⟨cl1, Ar1, qk1, S1, M1, H1, G1⟩ := id V_a
  refine og (B := s₁.setTop (mkF m 31 #[rv a1, iv 0, rv a3, iv 0, iv 3, iv 0, iv y0] [(.int (y0.toInt8.toInt32)), (.int 0), (.ref a3)])) (fun t k => ?_) ?_
  · refine XS.iconst X0.here hx rfl (hb hby d5_0) ?_
    refine XS.istore X0.here hx rfl (hb hby d5_1) rfl (l' := #[rv a1, iv 0, rv a3, iv 0, iv 3, iv 0, .unset]) rfl ?_
    refine XS.iload X0.here hx rfl (hb hby d5_3) rfl ?_
    refine XS.iload X0.here hx rfl (hb hby d5_5) rfl ?_
    refine XS.icmpNo X0.here hx rfl (hb hby d5_7) rfl (tlt (by decide)).2.1 ?_
    refine XS.aloadN X0.here hx rfl (hb hby d5_10) rfl rfl ?_
    show own_S p e below s₁ (mkF m 11 #[rv a1, iv 0, rv a3, iv 0, iv 3, iv 0, .unset] [(.ref a1)]) _
    refine XS.iloadN X0.here hx rfl (hb hby d5_11) rfl ?_
    refine X0.caload hx (j := (0 : Int32)) (v := (.int y0)) (by rw [e0]; exact Ar1.1) (State.isArrayOf_alike hZ.alike Ar1.2.1) Ar1.2.2 (inb_of S1 ⟨by decide, by decide⟩) (Has.at H1 (inb_of S1 ⟨by decide, by decide⟩) rfl) (g := (mkF m 12 #[rv a1, iv 0, rv a3, iv 0, iv 3, iv 0, .unset] [(.int 0), (.ref a1)])) rfl rfl (hb hby d5_12) _ ?_
    refine XS.istore X0.here hx rfl (hb hby d5_13) rfl (l' := #[rv a1, iv 0, rv a3, iv 0, iv 3, iv 0, iv y0]) rfl ?_
    refine XS.iload X0.here hx rfl (hb hby d5_15) rfl ?_
    refine XS.sipush X0.here hx rfl (hb hby d5_17) ?_
    refine XS.icmpYes X0.here hx rfl (pc0 := 20) (pc' := 26) rfl (hb hby d5_20) rfl (flt hp0).2.2.2 (by decide) (by decide) ?_
    show own_S p e below s₁ (mkF m 26 #[rv a1, iv 0, rv a3, iv 0, iv 3, iv 0, iv y0] []) _
    refine XS.aloadN X0.here hx rfl (hb hby d5_26) rfl rfl ?_
    refine XS.iloadN X0.here hx rfl (hb hby d5_27) rfl ?_
    refine XS.iload X0.here hx rfl (hb hby d5_28) rfl ?_
    refine XS.i2b X0.here hx rfl (hb hby d5_30) rfl ?_
    exact k
  obtain ⟨cl2, Ar2, qk2, S2, M2, H2, G2⟩ := id V_b
  obtain ⟨T2, h2, X2, e2, W2, st2⟩ := stB X0 hx hZ e0 Ar2 (j := (0 : Int32)) (inb_of S2 ⟨by decide, by decide⟩) (g := (mkF m 31 #[rv a1, iv 0, rv a3, iv 0, iv 3, iv 0, iv y0] [(.int (y0.toInt8.toInt32)), (.int 0), (.ref a3)])) rfl rfl (hb hby d5_31)
  have V2 : Arv Z h2 a3 kc3 .byte (3 : Int32) [(.int (nar .byte (y0.toInt8.toInt32))), (.int 0), (.int 0)] (.int 0) := Arv.set Ar2 qk2 S2 M2 H2 G2 (fits_nar_byte _) W2 0 rfl (Nat.le_of_ble_eq_true rfl)
  have c2_V_a1 := V_a.other W2 n_ab
  have K2 := (Keep.refl h0 [a3]).wr W2 (Or.inl (List.mem_of_getElem? (i := 0) rfl))
  have N2 := Fr.snoc X2 N0 g_a3
  have zs2 := (Nat.le_trans Z0 (Keep.of_wr W2).1)
  have zk2 := (Nat.le_trans (Nat.zero_le _) (Keep.of_wr W2).1)
  refine og (B := T2.setTop (mkF m 32 #[rv a1, iv 0, rv a3, iv 0, iv 3, iv 0, iv y0] [])) st2 ?_
  obtain ⟨cl3, Ar3, qk3, S3, M3, H3, G3⟩ := id c2_V_a1
  refine og (B := T2.setTop (mkF m 31 #[rv a1, iv 1, rv a3, iv 1, iv 3, iv 1, iv y1] [(.int (y1.toInt8.toInt32)), (.int 1), (.ref a3)])) (fun t k => ?_) ?_
  · refine XS.iinc X2.here hx rfl (hb hby d5_32) rfl (l' := #[rv a1, iv 1, rv a3, iv 0, iv 3, iv 0, iv y0]) rfl ?_
    refine XS.iinc X2.here hx rfl (hb hby d5_35) rfl (l' := #[rv a1, iv 1, rv a3, iv 1, iv 3, iv 0, iv y0]) rfl ?_
    refine XS.iinc X2.here hx rfl (hb hby d5_38) rfl (l' := #[rv a1, iv 1, rv a3, iv 1, iv 3, iv 1, iv y0]) rfl ?_
    refine XS.goto X2.here hx rfl (pc0 := 41) (pc' := 3) rfl (hb hby d5_41) (by decide) (by decide) ?_
    refine XS.iload X2.here hx rfl (hb hby d5_3) rfl ?_
    refine XS.iload X2.here hx rfl (hb hby d5_5) rfl ?_
    show own_S p e below T2 (mkF m 7 #[rv a1, iv 1, rv a3, iv 1, iv 3, iv 1, iv y0] [(.int 3), (.int 1)]) _
    refine XS.icmpNo X2.here hx rfl (hb hby d5_7) rfl (tlt (by decide)).2.1 ?_
    refine XS.aloadN X2.here hx rfl (hb hby d5_10) rfl rfl ?_
    refine XS.iloadN X2.here hx rfl (hb hby d5_11) rfl ?_
    refine X2.caload hx (j := (1 : Int32)) (v := (.int y1)) (by rw [e2]; exact Ar3.1) (State.isArrayOf_alike hZ.alike Ar3.2.1) Ar3.2.2 (inb_of S3 ⟨by decide, by decide⟩) (Has.at H3 (inb_of S3 ⟨by decide, by decide⟩) rfl) (g := (mkF m 12 #[rv a1, iv 1, rv a3, iv 1, iv 3, iv 1, iv y0] [(.int 1), (.ref a1)])) rfl rfl (hb hby d5_12) _ ?_
    refine XS.istore X2.here hx rfl (hb hby d5_13) rfl (l' := #[rv a1, iv 1, rv a3, iv 1, iv 3, iv 1, iv y1]) rfl ?_
    refine XS.iload X2.here hx rfl (hb hby d5_15) rfl ?_
    show own_S p e below T2 (mkF m 17 #[rv a1, iv 1, rv a3, iv 1, iv 3, iv 1, iv y1] [(.int y1)]) _
    refine XS.sipush X2.here hx rfl (hb hby d5_17) ?_
    refine XS.icmpYes X2.here hx rfl (pc0 := 20) (pc' := 26) rfl (hb hby d5_20) rfl (flt hp1).2.2.2 (by decide) (by decide) ?_
    refine XS.aloadN X2.here hx rfl (hb hby d5_26) rfl rfl ?_
    refine XS.iloadN X2.here hx rfl (hb hby d5_27) rfl ?_
    refine XS.iload X2.here hx rfl (hb hby d5_28) rfl ?_
    refine XS.i2b X2.here hx rfl (hb hby d5_30) rfl ?_
    exact k
  obtain ⟨cl4, Ar4, qk4, S4, M4, H4, G4⟩ := id V2
  obtain ⟨T4, h4, X4, e4, W4, st4⟩ := stB X2 hx hZ e2 Ar4 (j := (1 : Int32)) (inb_of S4 ⟨by decide, by decide⟩) (g := (mkF m 31 #[rv a1, iv 1, rv a3, iv 1, iv 3, iv 1, iv y1] [(.int (y1.toInt8.toInt32)), (.int 1), (.ref a3)])) rfl rfl (hb hby d5_31)
  have V4 : Arv Z h4 a3 kc3 .byte (3 : Int32) [(.int (nar .byte (y0.toInt8.toInt32))), (.int (nar .byte (y1.toInt8.toInt32))), (.int 0)] (.int 0) := Arv.set Ar4 qk4 S4 M4 H4 G4 (fits_nar_byte _) W4 1 rfl (Nat.le_of_ble_eq_true rfl)
  have c4_V_a1 := c2_V_a1.other W4 n_ab
  have K4 := K2.wr W4 (Or.inl (List.mem_of_getElem? (i := 0) rfl))
  have N4 := Fr.snoc X4 N2 g_a3
  have zs4 := (Nat.le_trans zs2 (Keep.of_wr W4).1)
  have zk4 := (Nat.le_trans zk2 (Keep.of_wr W4).1)
  refine og (B := T4.setTop (mkF m 32 #[rv a1, iv 1, rv a3, iv 1, iv 3, iv 1, iv y1] [])) st4 ?_
  obtain ⟨cl5, Ar5, qk5, S5, M5, H5, G5⟩ := id c4_V_a1
  refine og (B := T4.setTop (mkF m 31 #[rv a1, iv 2, rv a3, iv 2, iv 3, iv 2, iv y2] [(.int (y2.toInt8.toInt32)), (.int 2), (.ref a3)])) (fun t k => ?_) ?_
  · refine XS.iinc X4.here hx rfl (hb hby d5_32) rfl (l' := #[rv a1, iv 2, rv a3, iv 1, iv 3, iv 1, iv y1]) rfl ?_
    refine XS.iinc X4.here hx rfl (hb hby d5_35) rfl (l' := #[rv a1, iv 2, rv a3, iv 2, iv 3, iv 1, iv y1]) rfl ?_
    refine XS.iinc X4.here hx rfl (hb hby d5_38) rfl (l' := #[rv a1, iv 2, rv a3, iv 2, iv 3, iv 2, iv y1]) rfl ?_
    refine XS.goto X4.here hx rfl (pc0 := 41) (pc' := 3) rfl (hb hby d5_41) (by decide) (by decide) ?_
    refine XS.iload X4.here hx rfl (hb hby d5_3) rfl ?_
    refine XS.iload X4.here hx rfl (hb hby d5_5) rfl ?_
    show own_S p e below T4 (mkF m 7 #[rv a1, iv 2, rv a3, iv 2, iv 3, iv 2, iv y1] [(.int 3), (.int 2)]) _
    refine XS.icmpNo X4.here hx rfl (hb hby d5_7) rfl (tlt (by decide)).2.1 ?_
    refine XS.aloadN X4.here hx rfl (hb hby d5_10) rfl rfl ?_
    refine XS.iloadN X4.here hx rfl (hb hby d5_11) rfl ?_
    refine X4.caload hx (j := (2 : Int32)) (v := (.int y2)) (by rw [e4]; exact Ar5.1) (State.isArrayOf_alike hZ.alike Ar5.2.1) Ar5.2.2 (inb_of S5 ⟨by decide, by decide⟩) (Has.at H5 (inb_of S5 ⟨by decide, by decide⟩) rfl) (g := (mkF m 12 #[rv a1, iv 2, rv a3, iv 2, iv 3, iv 2, iv y1] [(.int 2), (.ref a1)])) rfl rfl (hb hby d5_12) _ ?_
    refine XS.istore X4.here hx rfl (hb hby d5_13) rfl (l' := #[rv a1, iv 2, rv a3, iv 2, iv 3, iv 2, iv y2]) rfl ?_
    refine XS.iload X4.here hx rfl (hb hby d5_15) rfl ?_
    show own_S p e below T4 (mkF m 17 #[rv a1, iv 2, rv a3, iv 2, iv 3, iv 2, iv y2] [(.int y2)]) _
    refine XS.sipush X4.here hx rfl (hb hby d5_17) ?_
    refine XS.icmpYes X4.here hx rfl (pc0 := 20) (pc' := 26) rfl (hb hby d5_20) rfl (flt hp2).2.2.2 (by decide) (by decide) ?_
    refine XS.aloadN X4.here hx rfl (hb hby d5_26) rfl rfl ?_
    refine XS.iloadN X4.here hx rfl (hb hby d5_27) rfl ?_
    refine XS.iload X4.here hx rfl (hb hby d5_28) rfl ?_
    refine XS.i2b X4.here hx rfl (hb hby d5_30) rfl ?_
    exact k
  obtain ⟨cl6, Ar6, qk6, S6, M6, H6, G6⟩ := id V4
  obtain ⟨T6, h6, X6, e6, W6, st6⟩ := stB X4 hx hZ e4 Ar6 (j := (2 : Int32)) (inb_of S6 ⟨by decide, by decide⟩) (g := (mkF m 31 #[rv a1, iv 2, rv a3, iv 2, iv 3, iv 2, iv y2] [(.int (y2.toInt8.toInt32)), (.int 2), (.ref a3)])) rfl rfl (hb hby d5_31)
  have V6 : Arv Z h6 a3 kc3 .byte (3 : Int32) [(.int (nar .byte (y0.toInt8.toInt32))), (.int (nar .byte (y1.toInt8.toInt32))), (.int (nar .byte (y2.toInt8.toInt32)))] (.int 0) := Arv.set Ar6 qk6 S6 M6 H6 G6 (fits_nar_byte _) W6 2 rfl (Nat.le_of_ble_eq_true rfl)
  have c6_V_a1 := c4_V_a1.other W6 n_ab
  have K6 := K4.wr W6 (Or.inl (List.mem_of_getElem? (i := 0) rfl))
  have N6 := Fr.snoc X6 N4 g_a3
  have zs6 := (Nat.le_trans zs4 (Keep.of_wr W6).1)
  have zk6 := (Nat.le_trans zk4 (Keep.of_wr W6).1)
  refine og (B := T6.setTop (mkF m 32 #[rv a1, iv 2, rv a3, iv 2, iv 3, iv 2, iv y2] [])) st6 ?_
  obtain ⟨fs, hr, hrun, hended, hW, hsame⟩ := X6.leave (v := some (.int 3)) (fun h => by rw [Bd.returns] at h; cases h)
  refine ⟨_, _, ?_, hrun, hended, _, _, rfl, ?_, ⟨_, rfl⟩, hW, hsame.mono (by decide) (by decide)⟩
  · refine XS.iinc X6.here hx rfl (hb hby d5_32) rfl (l' := #[rv a1, iv 3, rv a3, iv 2, iv 3, iv 2, iv y2]) rfl ?_
    refine XS.iinc X6.here hx rfl (hb hby d5_35) rfl (l' := #[rv a1, iv 3, rv a3, iv 3, iv 3, iv 2, iv y2]) rfl ?_
    refine XS.iinc X6.here hx rfl (hb hby d5_38) rfl (l' := #[rv a1, iv 3, rv a3, iv 3, iv 3, iv 3, iv y2]) rfl ?_
    refine XS.goto X6.here hx rfl (pc0 := 41) (pc' := 3) rfl (hb hby d5_41) (by decide) (by decide) ?_
    refine XS.iload X6.here hx rfl (hb hby d5_3) rfl ?_
    refine XS.iload X6.here hx rfl (hb hby d5_5) rfl ?_
    show own_S p e below T6 (mkF m 7 #[rv a1, iv 3, rv a3, iv 3, iv 3, iv 3, iv y2] [(.int 3), (.int 3)]) _
    refine XS.icmpYes X6.here hx rfl (pc0 := 7) (pc' := 44) rfl (hb hby d5_7) rfl (flt (by decide)).2.1 (by decide) (by decide) ?_
    refine XS.iload X6.here hx rfl (hb hby d5_44) rfl ?_
    show own_S p e below T6 (mkF m 46 #[rv a1, iv 3, rv a3, iv 3, iv 3, iv 3, iv y2] [(.int 3)]) _
    exact retI X6 hx Bd.returns (hb hby d5_46) hr
  · show Q5_3 Z a1 a3 kc1 kc3 y0 y1 y2 h0 n0 _ T6.heap _
    rw [e6]
    exact ⟨rfl, N6, K6, V6⟩
def Q4_3 (Z : State) (a1 : Addr) (kc1 : ClassId) (y0 : Int32) (y1 : Int32) (y2 : Int32) (h0 : Heap) (n0 : Nat) (v : Option Value) (h : Heap) (L : List Loc) : Prop := ∃ (b : Addr) (kb : ClassId), v = some (.ref b) ∧ Fr n0 L ∧ Keep h0 h [] ∧ h0.size ≤ b ∧ n0 ≤ b ∧ Arv Z h b kb .byte (3 : Int32) [(.int (own_b y0)), (.int (own_b y1)), (.int (own_b y2))] (.int 0)
set_option maxRecDepth 65536 in
set_option maxHeartbeats 40000000 in
theorem rm4_3 (l : Launch) (Z : State) (a0 : Array Value) (hw : ∀ d ∈ tables_1, d.before a0 Z = true) (ws : List Jvm.Cond) (a1 : Addr) (kc1 : ClassId) (y0 : Int32) (y1 : Int32) (y2 : Int32) (h0 : Heap) (n0 : Nat) (Z0 : n0 ≤ h0.size) (V_a : Arv Z h0 a1 kc1 .char (3 : Int32) [(.int y0), (.int y1), (.int y2)] (.int 0)) (hp0 : ¬ (255 : Int32) < y0) (hp1 : ¬ (255 : Int32) < y1) (hp2 : ¬ (255 : Int32) < y2) :
    MetFree l own_y8 (head1 (Jvm.Cond.code own_y8 jdk_52_method_16_code 6 (some (.array .byte)) :: ws) ({ frames := 1, cells := 1, slots := 3, locals := 18 } : Room)) (fun a U => a = #[(.ref a1), (.int 0), (.int 3)] ∧ Z.Warmed39 U.vm ∧ U.heap = h0) (fun _ _ _ _ _ => True) (fun _ U o U' => ∃ v L, o = .returned v ∧ Q4_3 Z a1 kc1 y0 y1 y2 h0 n0 v U'.heap L ∧ FrameEnd U o U' L ({ frames := 1, cells := 1, slots := 3, locals := 18 } : Room).cells ({ frames := 1, cells := 1, slots := 3, locals := 18 } : Room).slots) := by
  refine MetFree.of_bodySF (plainFor_of_name pn_4) hisR ?_
  intro p e s m args below meth c s₁ Bd hml0 hP hK
  obtain ⟨rfl, hZ, hh⟩ := hP
  have hx := Bd.exec
  have hby := Bd.bytes
  have hml : c.maxLocals = 6 := hml0
  have hown : s.vm.findClass "java/lang/StringUTF16" = some m.cls := findClass_of_methodNamed Bd.named
  have hnm := (name_of_methodNamed Bd.named Bd.method).1
  have X0 : Stand p l e ({ frames := 1, cells := 1, slots := 3, locals := 18 } : Room) s m #[(.ref a1), (.int 0), (.int 3)] below meth c s₁ [] 0 0 := Stand.of_body Bd
  have e0 : s₁.heap = h0 := by rw [← hh, Bd.state]; rfl
  have N0 := Fr.nil n0
  refine og (B := s₁.setTop (mkF m 0 #[rv a1, iv 0, iv 3, .unset, .unset, .unset] [])) (fun t k => castTop (ef_4 m a1 (0 : Int32) (3 : Int32)) k) ?_
  refine og (B := s₁.setTop (mkF m 1 #[rv a1, iv 0, iv 3, .unset, .unset, .unset] [(.int 3)])) (fun t k => ?_) ?_
  · refine XS.iloadN X0.here hx rfl (hb hby d4_0) rfl ?_
    exact k
  obtain ⟨T1, h1, k1, X1, e1, E1, A1, st1⟩ := newP X0 hx hZ (ow hw 19 rfl) e0 (g := (mkF m 1 #[rv a1, iv 0, iv 3, .unset, .unset, .unset] [(.int 3)])) rfl (hb hby d4_1) rfl (by decide) (cap := 3) (by decide) (by decide) (by decide) (by decide)
  obtain ⟨b1, g1⟩ : ∃ z, z = h0.size := ⟨_, rfl⟩
  rw [← g1] at A1 st1
  have g_b1 : n0 ≤ b1 := Nat.le_trans Z0 (Nat.le_of_eq g1.symm)
  have sz_b1 : h0.size ≤ b1 := Nat.le_trans (Keep.refl h0 []).1 (Nat.le_of_eq g1.symm)
  have ne_a1_b1 : a1 ≠ b1 := Nat.ne_of_lt (Nat.lt_of_lt_of_le V_a.lt (Nat.le_of_eq g1.symm))
  have c1_V_a1 := V_a.ext E1
  have K1 := (Keep.refl h0 []).ext E1
  have V1 : Arv Z h1 b1 k1 .byte (3 : Int32) [(.int 0), (.int 0), (.int 0)] (.int 0) := (Arv.new A1 (by decide)).pad (pad_rep [] (.int 0) 3)
  have zk1 := (Nat.le_trans (Nat.zero_le _) E1.1)
  refine og (B := T1.setTop (mkF m 3 #[rv a1, iv 0, iv 3, .unset, .unset, .unset] [(.ref b1)])) st1 ?_
  refine og (B := T1.setTop (mkF m 9 #[rv a1, iv 0, iv 3, rv b1, .unset, .unset] [(.int 3), (.int 0), (.ref b1), (.int 0), (.ref a1)])) (fun t k => ?_) ?_
  · refine XS.astoreN X1.here hx rfl (hb hby d4_3) rfl rfl (l' := #[rv a1, iv 0, iv 3, rv b1, .unset, .unset]) rfl ?_
    refine XS.aloadN X1.here hx rfl (hb hby d4_4) rfl rfl ?_
    refine XS.iloadN X1.here hx rfl (hb hby d4_5) rfl ?_
    refine XS.aloadN X1.here hx rfl (hb hby d4_6) rfl rfl ?_
    refine XS.iconst X1.here hx rfl (hb hby d4_7) ?_
    refine XS.iloadN X1.here hx rfl (hb hby d4_8) rfl ?_
    exact k
  obtain ⟨_, _, ⟨T2, L2, k2, n2⟩, -, X2, ⟨Lc2, hQ2, l2, y2, z2⟩, st2⟩ := Jvm.LawKit.callS X1 hx (y := own_y7) hown (mvT hZ (ow hw 20 rfl)) (mvT hZ (ow hw 21 rfl)) (mvT hZ (ow hw 17 rfl)) (mvT hZ (ow hw 22 rfl)) (by decide) (backOf (W := 0) (rm5_3 l Z a0 hw [] a1 b1 kc1 k1 y0 y1 y2 h1 n0 (Nat.le_trans Z0 E1.1) c1_V_a1 V1 ne_a1_b1 g_b1 hp0 hp1 hp2) hZ (ow hw 22 rfl) (ow hw 17 rfl) (by decide) (by decide)) (g := (mkF m 9 #[rv a1, iv 0, iv 3, rv b1, .unset, .unset] [(.int 3), (.int 0), (.ref b1), (.int 0), (.ref a1)])) rfl (by rw [hml]; rfl) (argsL := [(.ref a1), (.int 0), (.ref b1), (.int 0), (.int 3)]) (rest := []) (lenOf own_pd5 rfl) rfl (Nat.le_refl _) (hb hby d4_9) (fun _ _ => ⟨rfl, e1, (by decide : 1 + 0 ≤ _), (by decide : 3 + 0 ≤ _)⟩)
  dsimp only [Pt.U, Pt.locs, Pt.cells, Pt.slots] at X2 l2 y2 z2 st2 hQ2
  subst l2 y2 z2
  obtain ⟨rfl, N2q, K2q, V2q⟩ := hQ2
  have N2 := Fr.app N0 N2q
  have c2_V_a1 := c1_V_a1.keep K2q (fun q => ne_a1_b1 (List.mem_singleton.mp q))
  have K2 := K1.trans K2q (allS (Or.inr sz_b1) all0)
  have zs2 := (Nat.le_trans (Nat.le_trans Z0 E1.1) K2q.1)
  refine og (B := T2.setTop (mkF m 12 #[rv a1, iv 0, iv 3, rv b1, .unset, .unset] [(.int 3)])) st2 ?_
  obtain ⟨fs, hr, hrun, hended, hW, hsame⟩ := X2.leave (v := some (.ref b1)) (fun h => by rw [Bd.returns] at h; cases h)
  refine ⟨_, _, ?_, hrun, hended, _, _, rfl, ?_, ⟨_, rfl⟩, hW, hsame.mono (by decide) (by decide)⟩
  · refine XS.istore X2.here hx rfl (hb hby d4_12) rfl (l' := #[rv a1, iv 0, iv 3, rv b1, iv 3, .unset]) rfl ?_
    refine XS.iload X2.here hx rfl (hb hby d4_14) rfl ?_
    refine XS.iloadN X2.here hx rfl (hb hby d4_16) rfl ?_
    refine XS.icmpYes X2.here hx rfl (pc0 := 17) (pc' := 57) rfl (hb hby d4_17) rfl (teq (by decide)).1 (by decide) (by decide) ?_
    refine XS.aloadN X2.here hx rfl (hb hby d4_57) rfl rfl ?_
    show own_S p e below T2 (mkF m 58 #[rv a1, iv 0, iv 3, rv b1, iv 3, .unset] [(.ref b1)]) _
    jvm_step X2.here [X2.here.top, hx, (hb hby d4_58), X2.method', Bd.returns, Value.isRef, FieldType.isReference]
    first | (intro acts; rw [hr _ acts rfl rfl rfl]) | rw [hr _ _ rfl rfl rfl]
    exact Steps.refl _
  · show Q4_3 Z a1 kc1 y0 y1 y2 h0 n0 _ T2.heap _
    exact ⟨b1, k1, rfl, N2, K2, sz_b1, g_b1, V2q⟩
theorem pn_6 : plainName "java/lang/StringUTF16" = true := by first | (simp [plainName, overriddenIn]; done) | decide +kernel
theorem d6_0 : decode jdk_52_method_15_code 0 = .ok (.iload_n 1, 1) := by decide +kernel
theorem d6_1 : decode jdk_52_method_15_code 1 = .ok (.aload_n 0, 1) := by decide +kernel
theorem d6_2 : decode jdk_52_method_15_code 2 = .ok (.arraylength, 1) := by decide +kernel
theorem d6_3 : decode jdk_52_method_15_code 3 = .ok (.isub, 1) := by decide +kernel
theorem d6_4 : decode jdk_52_method_15_code 4 = .ok (.bipush 31, 2) := by decide +kernel
theorem d6_6 : decode jdk_52_method_15_code 6 = .ok (.iushr, 1) := by decide +kernel
theorem d6_7 : decode jdk_52_method_15_code 7 = .ok (.i2b, 1) := by decide +kernel
theorem d6_8 : decode jdk_52_method_15_code 8 = .ok (.ireturn, 1) := by decide +kernel
theorem ef_6 (m : MethodId) (x0 : Addr) (x1 : Int32) : entryFrame m #[(.ref x0), (.int x1)] 2 = mkF m 0 #[.val (.ref x0), .val (.int x1)] [] := by first | (simp [entryFrame, mkF, argsToLocals, Value.category]; done) | rfl
def Q6 (Z : State) (a1 : Addr) (z1 : Int32) (kc1 : ClassId) (vs : List Value) (dv : Value) (h0 : Heap) (n0 : Nat) (v : Option Value) (h : Heap) (L : List Loc) : Prop := v = some (.int 0) ∧ Fr n0 L ∧ h = h0
set_option maxRecDepth 65536 in
set_option maxHeartbeats 40000000 in
theorem rm6 (l : Launch) (Z : State) (a0 : Array Value) (hw : ∀ d ∈ tables_1, d.before a0 Z = true) (ws : List Jvm.Cond) (a1 : Addr) (z1 : Int32) (kc1 : ClassId) (vs : List Value) (dv : Value) (h0 : Heap) (n0 : Nat) (Z0 : n0 ≤ h0.size) (V_a : Arv Z h0 a1 kc1 .byte z1 vs dv) :
    MetFree l own_y9 (head1 (Jvm.Cond.code own_y9 jdk_52_method_15_code 2 (some .byte) :: ws) ({ frames := 0, cells := 0, slots := 0, locals := 0 } : Room)) (fun a U => a = #[(.ref a1), (.int z1)] ∧ Z.Warmed39 U.vm ∧ U.heap = h0) (fun _ _ _ _ _ => True) (fun _ U o U' => ∃ v L, o = .returned v ∧ Q6 Z a1 z1 kc1 vs dv h0 n0 v U'.heap L ∧ FrameEnd U o U' L ({ frames := 0, cells := 0, slots := 0, locals := 0 } : Room).cells ({ frames := 0, cells := 0, slots := 0, locals := 0 } : Room).slots) := by
  refine MetFree.of_bodySF (plainFor_of_name pn_6) hisR ?_
  intro p e s m args below meth c s₁ Bd hml0 hP hK
  obtain ⟨rfl, hZ, hh⟩ := hP
  have hx := Bd.exec
  have hby := Bd.bytes
  have hml : c.maxLocals = 2 := hml0
  have hown : s.vm.findClass "java/lang/StringUTF16" = some m.cls := findClass_of_methodNamed Bd.named
  have hnm := (name_of_methodNamed Bd.named Bd.method).1
  have X0 : Stand p l e ({ frames := 0, cells := 0, slots := 0, locals := 0 } : Room) s m #[(.ref a1), (.int z1)] below meth c s₁ [] 0 0 := Stand.of_body Bd
  have e0 : s₁.heap = h0 := by rw [← hh, Bd.state]; rfl
  have N0 := Fr.nil n0
  refine og (B := s₁.setTop (mkF m 0 #[rv a1, iv z1] [])) (fun t k => castTop (ef_6 m a1 z1) k) ?_
  obtain ⟨cl1, Ar1, qk1, S1, M1, H1, G1⟩ := id V_a
  obtain ⟨fs, hr, hrun, hended, hW, hsame⟩ := X0.leave (v := some (.int (nar .byte ((((z1 - z1).toUInt32 >>> ((31 : Int32) &&& 31).toUInt32).toInt32).toInt8.toInt32)))) (fun h => by rw [Bd.returns] at h; cases h)
  refine ⟨_, _, ?_, hrun, hended, _, _, rfl, ?_, ⟨_, rfl⟩, hW, hsame.mono (by decide) (by decide)⟩
  · refine XS.iloadN X0.here hx rfl (hb hby d6_0) rfl ?_
    refine XS.aloadN X0.here hx rfl (hb hby d6_1) rfl rfl ?_
    refine X0.arraylength hx (by rw [e0]; exact Ar1.1) (State.isArrayOf_alike hZ.alike Ar1.2.1) (g := (mkF m 2 #[rv a1, iv z1] [(.ref a1), (.int z1)])) rfl rfl (hb hby d6_2) _ ?_
    rw [len_of S1 M1]
    refine XS.isub X0.here hx rfl (hb hby d6_3) rfl ?_
    refine XS.bipush X0.here hx rfl (hb hby d6_4) ?_
    refine XS.iushr X0.here hx rfl (hb hby d6_6) rfl ?_
    show own_S p e below s₁ (mkF m 7 #[rv a1, iv z1] [(.int (((z1 - z1).toUInt32 >>> ((31 : Int32) &&& 31).toUInt32).toInt32))]) _
    refine XS.i2b X0.here hx rfl (hb hby d6_7) rfl ?_
    show own_S p e below s₁ (mkF m 8 #[rv a1, iv z1] [(.int ((((z1 - z1).toUInt32 >>> ((31 : Int32) &&& 31).toUInt32).toInt32).toInt8.toInt32))]) _
    exact retN X0 hx (t := .byte) Bd.returns (by simp) (hb hby d6_8) hr
  · show Q6 Z a1 z1 kc1 vs dv h0 n0 _ s₁.heap _
    rw [e0]
    exact ⟨by rw [Int32.sub_self]; rfl, N0, rfl⟩
def own_cf (p2 z1 : Int32) : Int32 := nar .byte ((((p2 - z1).toUInt32 >>> ((31 : Int32) &&& 31).toUInt32).toInt32).toInt8.toInt32)
def own_cd (p2 z1 : Int32) : Int32 := nar .byte (own_cf p2 z1)
def Q6g (Z : State) (a1 : Addr) (p2 : Int32) (kc1 : ClassId) (z1 : Int32) (vs : List Value) (dv : Value) (h0 : Heap) (n0 : Nat) (v : Option Value) (h : Heap) (L : List Loc) : Prop := v = some (.int (own_cf p2 z1)) ∧ Fr n0 L ∧ h = h0
set_option maxRecDepth 65536 in
set_option maxHeartbeats 40000000 in
theorem rm6g (l : Launch) (Z : State) (a0 : Array Value) (hw : ∀ d ∈ tables_1, d.before a0 Z = true) (ws : List Jvm.Cond) (a1 : Addr) (p2 : Int32) (kc1 : ClassId) (z1 : Int32) (vs : List Value) (dv : Value) (h0 : Heap) (n0 : Nat) (Z0 : n0 ≤ h0.size) (V_a : Arv Z h0 a1 kc1 .byte z1 vs dv) :
    MetFree l own_y9 (head1 (Jvm.Cond.code own_y9 jdk_52_method_15_code 2 (some .byte) :: ws) ({ frames := 0, cells := 0, slots := 0, locals := 0 } : Room)) (fun a U => a = #[(.ref a1), (.int p2)] ∧ Z.Warmed39 U.vm ∧ U.heap = h0) (fun _ _ _ _ _ => True) (fun _ U o U' => ∃ v L, o = .returned v ∧ Q6g Z a1 p2 kc1 z1 vs dv h0 n0 v U'.heap L ∧ FrameEnd U o U' L ({ frames := 0, cells := 0, slots := 0, locals := 0 } : Room).cells ({ frames := 0, cells := 0, slots := 0, locals := 0 } : Room).slots) := by
  refine MetFree.of_bodySF (plainFor_of_name pn_6) hisR ?_
  intro p e s m args below meth c s₁ Bd hml0 hP hK
  obtain ⟨rfl, hZ, hh⟩ := hP
  have hx := Bd.exec
  have hby := Bd.bytes
  have hml : c.maxLocals = 2 := hml0
  have hown : s.vm.findClass "java/lang/StringUTF16" = some m.cls := findClass_of_methodNamed Bd.named
  have hnm := (name_of_methodNamed Bd.named Bd.method).1
  have X0 : Stand p l e ({ frames := 0, cells := 0, slots := 0, locals := 0 } : Room) s m #[(.ref a1), (.int p2)] below meth c s₁ [] 0 0 := Stand.of_body Bd
  have e0 : s₁.heap = h0 := by rw [← hh, Bd.state]; rfl
  have N0 := Fr.nil n0
  refine og (B := s₁.setTop (mkF m 0 #[rv a1, iv p2] [])) (fun t k => castTop (ef_6 m a1 p2) k) ?_
  obtain ⟨cl1, Ar1, qk1, S1, M1, H1, G1⟩ := id V_a
  obtain ⟨fs, hr, hrun, hended, hW, hsame⟩ := X0.leave (v := some (.int (nar .byte ((((p2 - z1).toUInt32 >>> ((31 : Int32) &&& 31).toUInt32).toInt32).toInt8.toInt32)))) (fun h => by rw [Bd.returns] at h; cases h)
  refine ⟨_, _, ?_, hrun, hended, _, _, rfl, ?_, ⟨_, rfl⟩, hW, hsame.mono (by decide) (by decide)⟩
  · refine XS.iloadN X0.here hx rfl (hb hby d6_0) rfl ?_
    refine XS.aloadN X0.here hx rfl (hb hby d6_1) rfl rfl ?_
    refine X0.arraylength hx (by rw [e0]; exact Ar1.1) (State.isArrayOf_alike hZ.alike Ar1.2.1) (g := (mkF m 2 #[rv a1, iv p2] [(.ref a1), (.int p2)])) rfl rfl (hb hby d6_2) _ ?_
    rw [len_of S1 M1]
    refine XS.isub X0.here hx rfl (hb hby d6_3) rfl ?_
    refine XS.bipush X0.here hx rfl (hb hby d6_4) ?_
    refine XS.iushr X0.here hx rfl (hb hby d6_6) rfl ?_
    show own_S p e below s₁ (mkF m 7 #[rv a1, iv p2] [(.int (((p2 - z1).toUInt32 >>> ((31 : Int32) &&& 31).toUInt32).toInt32))]) _
    refine XS.i2b X0.here hx rfl (hb hby d6_7) rfl ?_
    show own_S p e below s₁ (mkF m 8 #[rv a1, iv p2] [(.int ((((p2 - z1).toUInt32 >>> ((31 : Int32) &&& 31).toUInt32).toInt32).toInt8.toInt32))]) _
    exact retN X0 hx (t := .byte) Bd.returns (by simp) (hb hby d6_8) hr
  · show Q6g Z a1 p2 kc1 z1 vs dv h0 n0 _ s₁.heap _
    rw [e0]
    exact ⟨rfl, N0, rfl⟩
theorem pn_2 : plainName "java/lang/String" = true := by first | (simp [plainName, overriddenIn]; done) | decide +kernel
theorem d2_0 : decode jdk_42_method_149_code 0 = .ok (.aload_n 0, 1) := by decide +kernel
theorem d2_1 : decode jdk_42_method_149_code 1 = .ok (.invokespecial 1, 3) := by decide +kernel
theorem d2_4 : decode jdk_42_method_149_code 4 = .ok (.iload_n 3, 1) := by decide +kernel
theorem d2_5 : decode jdk_42_method_149_code 5 = .ok (.ifCond .ne 22, 3) := by decide +kernel
theorem d2_27 : decode jdk_42_method_149_code 27 = .ok (.getstatic 38, 3) := by decide +kernel
theorem d2_30 : decode jdk_42_method_149_code 30 = .ok (.ifCond .eq 28, 3) := by decide +kernel
theorem d2_33 : decode jdk_42_method_149_code 33 = .ok (.aload_n 1, 1) := by decide +kernel
theorem d2_34 : decode jdk_42_method_149_code 34 = .ok (.iload_n 2, 1) := by decide +kernel
theorem d2_35 : decode jdk_42_method_149_code 35 = .ok (.iload_n 3, 1) := by decide +kernel
theorem d2_36 : decode jdk_42_method_149_code 36 = .ok (.invokestatic 177, 3) := by decide +kernel
theorem d2_39 : decode jdk_42_method_149_code 39 = .ok (.astore 5, 2) := by decide +kernel
theorem d2_41 : decode jdk_42_method_149_code 41 = .ok (.aload_n 0, 1) := by decide +kernel
theorem d2_42 : decode jdk_42_method_149_code 42 = .ok (.aload 5, 2) := by decide +kernel
theorem d2_44 : decode jdk_42_method_149_code 44 = .ok (.iload_n 3, 1) := by decide +kernel
theorem d2_45 : decode jdk_42_method_149_code 45 = .ok (.invokestatic 47, 3) := by decide +kernel
theorem d2_48 : decode jdk_42_method_149_code 48 = .ok (.putfield 15, 3) := by decide +kernel
theorem d2_51 : decode jdk_42_method_149_code 51 = .ok (.aload_n 0, 1) := by decide +kernel
theorem d2_52 : decode jdk_42_method_149_code 52 = .ok (.aload 5, 2) := by decide +kernel
theorem d2_54 : decode jdk_42_method_149_code 54 = .ok (.putfield 9, 3) := by decide +kernel
theorem d2_57 : decode jdk_42_method_149_code 57 = .ok (.return_, 1) := by decide +kernel
theorem ef_2n4 (m : MethodId) (x0 : Addr) (x1 : Addr) (x2 : Int32) (x3 : Int32) : entryFrame m #[(.ref x0), (.ref x1), (.int x2), (.int x3), .null] 6 = mkF m 0 #[.val (.ref x0), .val (.ref x1), .val (.int x2), .val (.int x3), .val .null, .unset] [] := by first | (simp [entryFrame, mkF, argsToLocals, Value.category]; done) | rfl
def Q2g (Z : State) (a1 : Addr) (a2 : Addr) (kc2 : ClassId) (z2 : Int32) (ys : List Value) (m1 : Int32) (us : List Value) (GC : Int32) (h0 : Heap) (n0 : Nat) (v : Option Value) (h : Heap) (L : List Loc) : Prop := v = none ∧ Fr n0 L ∧ (∃ (b : Addr) (kb : ClassId), Keep h0 h [a1] ∧ Exa Z h a1 "java/lang/String" ∧ Fld Z h a1 "java/lang/String" "coder" "B" (.int (own_cd z2 m1)) ∧ Fld Z h a1 "java/lang/String" "value" "[B" (.ref b) ∧ Arv Z h b kb .byte m1 us (.int 0))
set_option maxRecDepth 65536 in
set_option maxHeartbeats 40000000 in
theorem rm2g (l : Launch) (Z : State) (a0 : Array Value) (hw : ∀ d ∈ tables_1, d.before a0 Z = true) (ws : List Jvm.Cond) (a1 : Addr) (a2 : Addr) (kc2 : ClassId) (z2 : Int32) (ys : List Value) (m1 : Int32) (us : List Value) (GC : Int32) (h0 : Heap) (n0 : Nat) (Z0 : n0 ≤ h0.size) (S_C : Sta Z Z.heap "java/lang/String" "COMPACT_STRINGS" "Z" (.int GC)) (hGC : ¬ GC = (0 : Int32)) (O0 : Old Z n0 h0) (E_a1 : Exa Z h0 a1 "java/lang/String") (g_a1 : n0 ≤ a1) (F_v : Fld Z h0 a1 "java/lang/String" "value" "[B" .null) (F_c : Fld Z h0 a1 "java/lang/String" "coder" "B" (.int 0)) (V_a : Arv Z h0 a2 kc2 .char z2 ys (.int 0)) (n_12 : a1 ≠ a2) (hz2 : ¬ z2 = (0 : Int32)) (hM : MetFree l own_y8 (head1 (Jvm.Cond.code own_y8 jdk_52_method_16_code 6 (some (.array .byte)) :: []) ({ frames := 1, cells := 1, slots := 3, locals := 18 } : Room)) (fun a U => a = #[(.ref a2), (.int 0), (.int z2)] ∧ Z.Warmed39 U.vm ∧ U.heap = h0) (fun _ _ _ _ _ => True) (fun _ U o U' => ∃ v L, o = .returned v ∧ own_QA Z m1 us h0 n0 v U'.heap L ∧ FrameEnd U o U' L ({ frames := 1, cells := 1, slots := 3, locals := 18 } : Room).cells ({ frames := 1, cells := 1, slots := 3, locals := 18 } : Room).slots)) :
    MetFree l own_y10 (head1 (Jvm.Cond.code own_y10 jdk_42_method_149_code 6 none :: ws) ({ frames := 2, cells := 1, slots := 3, locals := 35 } : Room)) (fun a U => a = #[(.ref a1), (.ref a2), (.int 0), (.int z2), .null] ∧ Z.Warmed39 U.vm ∧ U.heap = h0) (fun _ _ _ _ _ => True) (fun _ U o U' => ∃ v L, o = .returned v ∧ Q2g Z a1 a2 kc2 z2 ys m1 us GC h0 n0 v U'.heap L ∧ FrameEnd U o U' L ({ frames := 2, cells := 1, slots := 3, locals := 35 } : Room).cells ({ frames := 2, cells := 1, slots := 3, locals := 35 } : Room).slots) := by
  refine MetFree.of_bodySF (plainFor_of_name pn_2) hisR ?_
  intro p e s m args below meth c s₁ Bd hml0 hP hK
  obtain ⟨rfl, hZ, hh⟩ := hP
  have hx := Bd.exec
  have hby := Bd.bytes
  have hml : c.maxLocals = 6 := hml0
  have hown : s.vm.findClass "java/lang/String" = some m.cls := findClass_of_methodNamed Bd.named
  have hnm := (name_of_methodNamed Bd.named Bd.method).1
  have X0 : Stand p l e ({ frames := 2, cells := 1, slots := 3, locals := 35 } : Room) s m #[(.ref a1), (.ref a2), (.int 0), (.int z2), .null] below meth c s₁ [] 0 0 := Stand.of_body Bd
  have e0 : s₁.heap = h0 := by rw [← hh, Bd.state]; rfl
  have N0 := Fr.nil n0
  refine og (B := s₁.setTop (mkF m 0 #[rv a1, rv a2, iv 0, iv z2, .val .null, .unset] [])) (fun t k => castTop (ef_2n4 m a1 a2 (0 : Int32) z2) k) ?_
  refine og (B := s₁.setTop (mkF m 1 #[rv a1, rv a2, iv 0, iv z2, .val .null, .unset] [(.ref a1)])) (fun t k => ?_) ?_
  · refine XS.aloadN X0.here hx rfl (hb hby d2_0) rfl rfl ?_
    exact k
  obtain ⟨T1, X1, e1, st1⟩ := initO X0 hx hZ hown (ow hw 11 rfl) (ow hw 12 rfl) (ow hw 13 rfl) e0 (g := (mkF m 1 #[rv a1, rv a2, iv 0, iv z2, .val .null, .unset] [(.ref a1)])) rfl (by rw [hml]; rfl) rfl (hb hby d2_1) (by decide) (W := 0) (Nat.le_refl _) (by decide)
  refine og (B := T1.setTop (mkF m 4 #[rv a1, rv a2, iv 0, iv z2, .val .null, .unset] [])) st1 ?_
  refine og (B := T1.setTop (mkF m 27 #[rv a1, rv a2, iv 0, iv z2, .val .null, .unset] [])) (fun t k => ?_) ?_
  · refine XS.iloadN X1.here hx rfl (hb hby d2_4) rfl ?_
    refine XS.ifYes X1.here hx rfl (pc0 := 5) (pc' := 27) rfl (hb hby d2_5) rfl ((if0 _ _).trans (feq hz2).2) (by decide) (by decide) ?_
    exact k
  obtain ⟨T2, X2, e2, st2⟩ := getS2 X1 hx hZ hown (host := "") (Or.inl (ow hw 14 rfl)) Via.refl e1 (S_C.ext O0.2) (g := (mkF m 27 #[rv a1, rv a2, iv 0, iv z2, .val .null, .unset] [])) rfl (hb hby d2_27)
  refine og (B := T2.setTop (mkF m 30 #[rv a1, rv a2, iv 0, iv z2, .val .null, .unset] [(.int GC)])) st2 ?_
  refine og (B := T2.setTop (mkF m 36 #[rv a1, rv a2, iv 0, iv z2, .val .null, .unset] [(.int z2), (.int 0), (.ref a2)])) (fun t k => ?_) ?_
  · refine XS.ifNo X2.here hx rfl (hb hby d2_30) rfl ((if0 _ _).trans (feq hGC).1) ?_
    refine XS.aloadN X2.here hx rfl (hb hby d2_33) rfl rfl ?_
    refine XS.iloadN X2.here hx rfl (hb hby d2_34) rfl ?_
    refine XS.iloadN X2.here hx rfl (hb hby d2_35) rfl ?_
    exact k
  obtain ⟨_, _, ⟨T3, L3, k3, n3⟩, -, X3, ⟨Lc3, hQ3, l3, y3, z3⟩, st3⟩ := Jvm.LawKit.callS X2 hx (y := own_y8) hown (mvT hZ (ow hw 15 rfl)) (mvT hZ (ow hw 16 rfl)) (mvT hZ (ow hw 17 rfl)) (mvT hZ (ow hw 18 rfl)) (by decide) (backOf (W := 0) (hM) hZ (ow hw 18 rfl) (ow hw 17 rfl) (by decide) (by decide)) (g := (mkF m 36 #[rv a1, rv a2, iv 0, iv z2, .val .null, .unset] [(.int z2), (.int 0), (.ref a2)])) rfl (by rw [hml]; rfl) (argsL := [(.ref a2), (.int 0), (.int z2)]) (rest := []) (lenOf own_pd6 rfl) rfl (Nat.le_refl _) (hb hby d2_36) (fun _ _ => ⟨rfl, e2, (by decide : 0 + 1 ≤ _), (by decide : 0 + 3 ≤ _)⟩)
  dsimp only [Pt.U, Pt.locs, Pt.cells, Pt.slots] at X3 l3 y3 z3 st3 hQ3
  subst l3 y3 z3
  obtain ⟨bq3, kq3, rfl, N3q, K3q, q3z, q3g, V3q⟩ := hQ3
  have N3 := Fr.app N0 N3q
  have sz_bq3 : h0.size ≤ bq3 := Nat.le_trans ((Keep.refl h0 [a1])).1 q3z
  have g_bq3 : n0 ≤ bq3 := q3g
  have ne_a1_bq3 : a1 ≠ bq3 := Nat.ne_of_lt (Nat.lt_of_lt_of_le E_a1.lt q3z)
  have ne_a2_bq3 : a2 ≠ bq3 := Nat.ne_of_lt (Nat.lt_of_lt_of_le V_a.lt q3z)
  have c3_E_a1 := E_a1.keep K3q
  have c3_F_a1_value := F_v.keep K3q (List.not_mem_nil)
  have c3_F_a1_coder := F_c.keep K3q (List.not_mem_nil)
  have c3_V_a2 := V_a.keep K3q (List.not_mem_nil)
  have O3 := O0.keep K3q all0
  have K3 := (Keep.refl h0 [a1]).trans K3q all0
  have zk3 := (Nat.le_trans (Nat.zero_le _) K3q.1)
  refine og (B := T3.setTop (mkF m 39 #[rv a1, rv a2, iv 0, iv z2, .val .null, .unset] [(.ref bq3)])) st3 ?_
  refine og (B := T3.setTop (mkF m 45 #[rv a1, rv a2, iv 0, iv z2, .val .null, rv bq3] [(.int z2), (.ref bq3), (.ref a1)])) (fun t k => ?_) ?_
  · refine XS.astore X3.here hx rfl (hb hby d2_39) rfl rfl (l' := #[rv a1, rv a2, iv 0, iv z2, .val .null, rv bq3]) rfl ?_
    refine XS.aloadN X3.here hx rfl (hb hby d2_41) rfl rfl ?_
    refine XS.aload X3.here hx rfl (hb hby d2_42) rfl rfl ?_
    refine XS.iloadN X3.here hx rfl (hb hby d2_44) rfl ?_
    exact k
  obtain ⟨_, _, ⟨T4, L4, k4, n4⟩, -, X4, ⟨Lc4, hQ4, l4, y4, z4⟩, st4⟩ := Jvm.LawKit.callS X3 hx (y := own_y9) hown (mvT hZ (ow hw 23 rfl)) (mvT hZ (ow hw 24 rfl)) (mvT hZ (ow hw 17 rfl)) (mvT hZ (ow hw 25 rfl)) (by decide) (backOf (W := 1) (rm6g l Z a0 hw [] bq3 z2 kq3 m1 us (.int 0) T3.heap n0 (Nat.le_trans Z0 K3q.1) V3q) hZ (ow hw 25 rfl) (ow hw 17 rfl) (by decide) (by decide)) (g := (mkF m 45 #[rv a1, rv a2, iv 0, iv z2, .val .null, rv bq3] [(.int z2), (.ref bq3), (.ref a1)])) rfl (by rw [hml]; rfl) (argsL := [(.ref bq3), (.int z2)]) (rest := [(.ref a1)]) (lenOf own_pd7 rfl) rfl (Nat.le_refl _) (hb hby d2_45) (fun _ _ => ⟨rfl, rfl, (by decide : 1 + 0 ≤ _), (by decide : 3 + 0 ≤ _)⟩)
  dsimp only [Pt.U, Pt.locs, Pt.cells, Pt.slots] at X4 l4 y4 z4 st4 hQ4
  subst l4 y4 z4
  obtain ⟨rfl, N4q, eq4⟩ := hQ4
  have N4 := Fr.app N3 N4q
  refine og (B := T4.setTop (mkF m 48 #[rv a1, rv a2, iv 0, iv z2, .val .null, rv bq3] [(.int (own_cf z2 m1)), (.ref a1)])) st4 ?_
  obtain ⟨T5, h5, X5, e5, W5, st5⟩ := putFN X4 hx hZ hown (ow hw 26 rfl) Via.refl eq4 c3_F_a1_coder c3_E_a1 (Or.inr ⟨(ow hw 27 rfl), rfl, hnm⟩) (ow hw 1 rfl) (ty := .byte) (v' := (.int (nar .byte (own_cf z2 m1)))) (by decide) rfl (fits_nar_byte _) (g := (mkF m 48 #[rv a1, rv a2, iv 0, iv z2, .val .null, rv bq3] [(.int (own_cf z2 m1)), (.ref a1)])) rfl rfl (hb hby d2_48)
  have c5_E_a1 := c3_E_a1.wr W5
  have c5_F_a1_value := c3_F_a1_value.other W5 (Or.inr (slot_ne (Or.inr (ow hw 29 rfl)) (Or.inr (ow hw 27 rfl)) (by decide) (t := (.array .byte)) (t' := .byte) (by decide) (by decide)))
  have c5_F_a1_coder := c3_F_a1_coder.same W5
  have c5_V_a2 := c3_V_a2.other W5 (Ne.symm n_12)
  have c5_V_bq3 := V3q.other W5 (Ne.symm ne_a1_bq3)
  have K5 := K3.wr W5 (Or.inl (List.mem_of_getElem? (i := 0) rfl))
  have O5 := O3.wr W5 g_a1
  have N5 := Fr.snoc X5 N4 g_a1
  have zs5 := (Nat.le_trans (Nat.le_trans Z0 K3q.1) (Keep.of_wr W5).1)
  have zk5 := (Nat.le_trans zk3 (Keep.of_wr W5).1)
  refine og (B := T5.setTop (mkF m 51 #[rv a1, rv a2, iv 0, iv z2, .val .null, rv bq3] [])) st5 ?_
  refine og (B := T5.setTop (mkF m 54 #[rv a1, rv a2, iv 0, iv z2, .val .null, rv bq3] [(.ref bq3), (.ref a1)])) (fun t k => ?_) ?_
  · refine XS.aloadN X5.here hx rfl (hb hby d2_51) rfl rfl ?_
    refine XS.aload X5.here hx rfl (hb hby d2_52) rfl rfl ?_
    exact k
  obtain ⟨T6, h6, X6, e6, W6, st6⟩ := putF X5 hx hZ hown (host := "") (Or.inl (ow hw 28 rfl)) Via.refl e5 c5_F_a1_value c5_E_a1 (Or.inr ⟨(ow hw 29 rfl), rfl, hnm⟩) (ow hw 1 rfl) (ty := (.array .byte)) (by decide) rfl rfl (g := (mkF m 54 #[rv a1, rv a2, iv 0, iv z2, .val .null, rv bq3] [(.ref bq3), (.ref a1)])) rfl rfl (hb hby d2_54)
  have c6_E_a1 := c5_E_a1.wr W6
  have c6_F_a1_value := c5_F_a1_value.same W6
  have c6_F_a1_coder := c5_F_a1_coder.other W6 (Or.inr (slot_ne (Or.inr (ow hw 27 rfl)) (Or.inr (ow hw 29 rfl)) (by decide) (t := .byte) (t' := (.array .byte)) (by decide) (by decide)))
  have c6_V_a2 := c5_V_a2.other W6 (Ne.symm n_12)
  have c6_V_bq3 := c5_V_bq3.other W6 (Ne.symm ne_a1_bq3)
  have K6 := K5.wr W6 (Or.inl (List.mem_of_getElem? (i := 0) rfl))
  have O6 := O5.wr W6 g_a1
  have N6 := Fr.snoc X6 N5 g_a1
  have zs6 := (Nat.le_trans zs5 (Keep.of_wr W6).1)
  have zk6 := (Nat.le_trans zk5 (Keep.of_wr W6).1)
  refine og (B := T6.setTop (mkF m 57 #[rv a1, rv a2, iv 0, iv z2, .val .null, rv bq3] [])) st6 ?_
  obtain ⟨fs, hr, hrun, hended, hW, hsame⟩ := X6.leave (v := none) (fun _ => rfl)
  refine ⟨_, _, ?_, hrun, hended, _, _, rfl, ?_, ⟨_, rfl⟩, hW, hsame.mono (by decide) (by decide)⟩
  · show own_S p e below T6 (mkF m 57 #[rv a1, rv a2, iv 0, iv z2, .val .null, rv bq3] []) _
    exact X6.returnOut hx Bd.returns (hb hby d2_57) hr
  · show Q2g Z a1 a2 kc2 z2 ys m1 us GC h0 n0 _ T6.heap _
    rw [e6]
    exact ⟨rfl, N6, bq3, kq3, K6, c6_E_a1, c6_F_a1_coder, c6_F_a1_value, c6_V_bq3⟩
theorem pn_1 : plainName "java/lang/String" = true := by first | (simp [plainName, overriddenIn]; done) | decide +kernel
theorem d1_0 : decode jdk_42_method_3_code 0 = .ok (.aload_n 0, 1) := by decide +kernel
theorem d1_1 : decode jdk_42_method_3_code 1 = .ok (.aload_n 1, 1) := by decide +kernel
theorem d1_2 : decode jdk_42_method_3_code 2 = .ok (.iconst 0, 1) := by decide +kernel
theorem d1_3 : decode jdk_42_method_3_code 3 = .ok (.aload_n 1, 1) := by decide +kernel
theorem d1_4 : decode jdk_42_method_3_code 4 = .ok (.arraylength, 1) := by decide +kernel
theorem d1_5 : decode jdk_42_method_3_code 5 = .ok (.aconst_null, 1) := by decide +kernel
theorem d1_6 : decode jdk_42_method_3_code 6 = .ok (.invokespecial 27, 3) := by decide +kernel
theorem d1_9 : decode jdk_42_method_3_code 9 = .ok (.return_, 1) := by decide +kernel
theorem ef_1 (m : MethodId) (x0 : Addr) (x1 : Addr) : entryFrame m #[(.ref x0), (.ref x1)] 2 = mkF m 0 #[.val (.ref x0), .val (.ref x1)] [] := by first | (simp [entryFrame, mkF, argsToLocals, Value.category]; done) | rfl
def Q1g (Z : State) (a1 : Addr) (a2 : Addr) (kc2 : ClassId) (z2 : Int32) (ys : List Value) (m1 : Int32) (us : List Value) (GC : Int32) (h0 : Heap) (n0 : Nat) (v : Option Value) (h : Heap) (L : List Loc) : Prop := v = none ∧ Fr n0 L ∧ (∃ (b : Addr) (kb : ClassId), Keep h0 h [a1] ∧ Exa Z h a1 "java/lang/String" ∧ Fld Z h a1 "java/lang/String" "coder" "B" (.int (own_cd z2 m1)) ∧ Fld Z h a1 "java/lang/String" "value" "[B" (.ref b) ∧ Arv Z h b kb .byte m1 us (.int 0))
set_option maxRecDepth 65536 in
set_option maxHeartbeats 40000000 in
theorem rm1g (l : Launch) (Z : State) (a0 : Array Value) (hw : ∀ d ∈ tables_1, d.before a0 Z = true) (ws : List Jvm.Cond) (a1 : Addr) (a2 : Addr) (kc2 : ClassId) (z2 : Int32) (ys : List Value) (m1 : Int32) (us : List Value) (GC : Int32) (h0 : Heap) (n0 : Nat) (Z0 : n0 ≤ h0.size) (S_C : Sta Z Z.heap "java/lang/String" "COMPACT_STRINGS" "Z" (.int GC)) (hGC : ¬ GC = (0 : Int32)) (O0 : Old Z n0 h0) (E_a1 : Exa Z h0 a1 "java/lang/String") (g_a1 : n0 ≤ a1) (F_v : Fld Z h0 a1 "java/lang/String" "value" "[B" .null) (F_c : Fld Z h0 a1 "java/lang/String" "coder" "B" (.int 0)) (V_a : Arv Z h0 a2 kc2 .char z2 ys (.int 0)) (n_12 : a1 ≠ a2) (hz2 : ¬ z2 = (0 : Int32)) (hM : MetFree l own_y8 (head1 (Jvm.Cond.code own_y8 jdk_52_method_16_code 6 (some (.array .byte)) :: []) ({ frames := 1, cells := 1, slots := 3, locals := 18 } : Room)) (fun a U => a = #[(.ref a2), (.int 0), (.int z2)] ∧ Z.Warmed39 U.vm ∧ U.heap = h0) (fun _ _ _ _ _ => True) (fun _ U o U' => ∃ v L, o = .returned v ∧ own_QA Z m1 us h0 n0 v U'.heap L ∧ FrameEnd U o U' L ({ frames := 1, cells := 1, slots := 3, locals := 18 } : Room).cells ({ frames := 1, cells := 1, slots := 3, locals := 18 } : Room).slots)) :
    MetFree l own_y11 (head1 (Jvm.Cond.code own_y11 jdk_42_method_3_code 2 none :: ws) ({ frames := 3, cells := 1, slots := 3, locals := 52 } : Room)) (fun a U => a = #[(.ref a1), (.ref a2)] ∧ Z.Warmed39 U.vm ∧ U.heap = h0) (fun _ _ _ _ _ => True) (fun _ U o U' => ∃ v L, o = .returned v ∧ Q1g Z a1 a2 kc2 z2 ys m1 us GC h0 n0 v U'.heap L ∧ FrameEnd U o U' L ({ frames := 3, cells := 1, slots := 3, locals := 52 } : Room).cells ({ frames := 3, cells := 1, slots := 3, locals := 52 } : Room).slots) := by
  refine MetFree.of_bodySF (plainFor_of_name pn_1) hisR ?_
  intro p e s m args below meth c s₁ Bd hml0 hP hK
  obtain ⟨rfl, hZ, hh⟩ := hP
  have hx := Bd.exec
  have hby := Bd.bytes
  have hml : c.maxLocals = 2 := hml0
  have hown : s.vm.findClass "java/lang/String" = some m.cls := findClass_of_methodNamed Bd.named
  have hnm := (name_of_methodNamed Bd.named Bd.method).1
  have X0 : Stand p l e ({ frames := 3, cells := 1, slots := 3, locals := 52 } : Room) s m #[(.ref a1), (.ref a2)] below meth c s₁ [] 0 0 := Stand.of_body Bd
  have e0 : s₁.heap = h0 := by rw [← hh, Bd.state]; rfl
  have N0 := Fr.nil n0
  refine og (B := s₁.setTop (mkF m 0 #[rv a1, rv a2] [])) (fun t k => castTop (ef_1 m a1 a2) k) ?_
  obtain ⟨cl1, Ar1, qk1, S1, M1, H1, G1⟩ := id V_a
  refine og (B := s₁.setTop (mkF m 6 #[rv a1, rv a2] [.null, (.int z2), (.int 0), (.ref a2), (.ref a1)])) (fun t k => ?_) ?_
  · refine XS.aloadN X0.here hx rfl (hb hby d1_0) rfl rfl ?_
    refine XS.aloadN X0.here hx rfl (hb hby d1_1) rfl rfl ?_
    refine XS.iconst X0.here hx rfl (hb hby d1_2) ?_
    refine XS.aloadN X0.here hx rfl (hb hby d1_3) rfl rfl ?_
    refine X0.arraylength hx (by rw [e0]; exact Ar1.1) (State.isArrayOf_alike hZ.alike Ar1.2.1) (g := (mkF m 4 #[rv a1, rv a2] [(.ref a2), (.int 0), (.ref a2), (.ref a1)])) rfl rfl (hb hby d1_4) _ ?_
    rw [len_of S1 M1]
    refine XS.aconstNull X0.here hx rfl (hb hby d1_5) ?_
    exact k
  obtain ⟨_, _, ⟨T2, L2, k2, n2⟩, -, X2, ⟨Lc2, hQ2, l2, y2, z2⟩, st2⟩ := X0.specialBack hx (y := own_y10) rfl hown (mvT hZ (ow hw 7 rfl)) (mvT hZ (ow hw 8 rfl)) (mvT hZ (ow hw 10 rfl)) (by decide) (backOf (W := 0) (rm2g l Z a0 hw [] a1 a2 kc2 z2 ys m1 us GC h0 n0 Z0 S_C hGC O0 E_a1 g_a1 F_v F_c V_a n_12 hz2 hM) hZ (ow hw 10 rfl) (ow hw 2 rfl) (by decide) (by decide)) (g := (mkF m 6 #[rv a1, rv a2] [.null, (.int z2), (.int 0), (.ref a2), (.ref a1)])) rfl (by rw [hml]; rfl) (Steps.refl _) (a := a1) (argsL := [(.ref a2), (.int 0), (.int z2), .null]) (rest := []) (lenOf own_pd8 rfl) rfl (Nat.le_refl _) (hb hby d1_6) (fun _ _ => ⟨rfl, e0, (by decide : 0 + 1 ≤ _), (by decide : 0 + 3 ≤ _)⟩)
  dsimp only [Pt.U, Pt.locs, Pt.cells, Pt.slots] at X2 l2 y2 z2 st2 hQ2
  subst l2 y2 z2
  obtain ⟨rfl, N2q, bq2, kq2, K2q, E2q, F2c, F2v, V2q⟩ := hQ2
  have N2 := Fr.app N0 N2q
  have c2_V_a2 := V_a.keep K2q (fun q => (Ne.symm n_12) (List.mem_singleton.mp q))
  have O2 := O0.keep K2q (allS g_a1 all0)
  have K2 := (Keep.refl h0 [a1]).trans K2q (allS (Or.inl (List.mem_of_getElem? (i := 0) rfl)) all0)
  have zk2 := (Nat.le_trans (Nat.zero_le _) K2q.1)
  refine og (B := T2.setTop (mkF m 9 #[rv a1, rv a2] [])) (fun _ => st2.trans) ?_
  obtain ⟨fs, hr, hrun, hended, hW, hsame⟩ := X2.leave (v := none) (fun _ => rfl)
  refine ⟨_, _, ?_, hrun, hended, _, _, rfl, ?_, ⟨_, rfl⟩, hW, hsame.mono (by decide) (by decide)⟩
  · show own_S p e below T2 (mkF m 9 #[rv a1, rv a2] []) _
    exact X2.returnOut hx Bd.returns (hb hby d1_9) hr
  · show Q1g Z a1 a2 kc2 z2 ys m1 us GC h0 n0 _ T2.heap _
    exact ⟨rfl, N2, bq2, kq2, K2, E2q, F2c, F2v, V2q⟩
theorem d2_8 : decode jdk_42_method_149_code 8 = .ok (.aload_n 0, 1) := by decide +kernel
theorem d2_9 : decode jdk_42_method_149_code 9 = .ok (.ldc 7, 2) := by decide +kernel
theorem d2_11 : decode jdk_42_method_149_code 11 = .ok (.getfield 9, 3) := by decide +kernel
theorem d2_14 : decode jdk_42_method_149_code 14 = .ok (.putfield 9, 3) := by decide +kernel
theorem d2_17 : decode jdk_42_method_149_code 17 = .ok (.aload_n 0, 1) := by decide +kernel
theorem d2_18 : decode jdk_42_method_149_code 18 = .ok (.ldc 7, 2) := by decide +kernel
theorem d2_20 : decode jdk_42_method_149_code 20 = .ok (.getfield 15, 3) := by decide +kernel
theorem d2_23 : decode jdk_42_method_149_code 23 = .ok (.putfield 15, 3) := by decide +kernel
theorem d2_26 : decode jdk_42_method_149_code 26 = .ok (.return_, 1) := by decide +kernel
def Q2_0 (Z : State) (a1 : Addr) (a2 : Addr) (kc2 : ClassId) (GC : Int32) (h0 : Heap) (n0 : Nat) (v : Option Value) (h : Heap) (L : List Loc) : Prop := v = none ∧ Fr n0 L ∧ (∃ (b : Addr) (kb : ClassId), Keep h0 h [a1] ∧ Exa Z h a1 "java/lang/String" ∧ Fld Z h a1 "java/lang/String" "coder" "B" (.int 0) ∧ Fld Z h a1 "java/lang/String" "value" "[B" (.ref b) ∧ Arv Z h b kb .byte (0 : Int32) [] (.int 0))
set_option maxRecDepth 65536 in
set_option maxHeartbeats 40000000 in
theorem rm2_0 (l : Launch) (Z : State) (a0 : Array Value) (hw : ∀ d ∈ tables_1, d.before a0 Z = true) (ws : List Jvm.Cond) (a1 : Addr) (a2 : Addr) (kc2 : ClassId) (GC : Int32) (h0 : Heap) (n0 : Nat) (Z0 : n0 ≤ h0.size) (S_C : Sta Z Z.heap "java/lang/String" "COMPACT_STRINGS" "Z" (.int GC)) (hGC : ¬ GC = (0 : Int32)) (O0 : Old Z n0 h0) (E_a1 : Exa Z h0 a1 "java/lang/String") (g_a1 : n0 ≤ a1) (F_v : Fld Z h0 a1 "java/lang/String" "value" "[B" .null) (F_c : Fld Z h0 a1 "java/lang/String" "coder" "B" (.int 0)) (V_a : Arv Z h0 a2 kc2 .char (0 : Int32) [] (.int 0)) (n_12 : a1 ≠ a2) :
    MetFree l own_y10 (head1 (Jvm.Cond.code own_y10 jdk_42_method_149_code 6 none :: ws) ({ frames := 1, cells := 2, slots := 4, locals := 12 } : Room)) (fun a U => a = #[(.ref a1), (.ref a2), (.int 0), (.int 0), .null] ∧ Z.Warmed39 U.vm ∧ U.heap = h0 ∧ CHv Z consts_1 U.vm h0) (fun _ _ _ _ _ => True) (fun _ U o U' => ∃ v L, o = .returned v ∧ Q2_0 Z a1 a2 kc2 GC h0 n0 v U'.heap L ∧ CHr Z consts_1 U.vm U.heap U'.vm U'.heap ∧ ReturnedEndW U o U' L ({ frames := 1, cells := 2, slots := 4, locals := 12 } : Room).cells ({ frames := 1, cells := 2, slots := 4, locals := 12 } : Room).slots) := by
  refine MetFree.of_bodySF (plainFor_of_name pn_2) hisR ?_
  intro p e s m args below meth c s₁ Bd hml0 hP hK
  obtain ⟨rfl, hZ, hh, hCH⟩ := hP
  have hx := Bd.exec
  have hby := Bd.bytes
  have hml : c.maxLocals = 6 := hml0
  have hown : s.vm.findClass "java/lang/String" = some m.cls := findClass_of_methodNamed Bd.named
  have hnm := (name_of_methodNamed Bd.named Bd.method).1
  have X0 : Stand p l e ({ frames := 1, cells := 2, slots := 4, locals := 12 } : Room) s m #[(.ref a1), (.ref a2), (.int 0), (.int 0), .null] below meth c s₁ [] 0 0 := Stand.of_body Bd
  have e0 : s₁.heap = h0 := by rw [← hh, Bd.state]; rfl
  have N0 := Fr.nil n0
  have X0 : Stand p l e ({ frames := 1, cells := 2, slots := 4, locals := 12 } : Room) (s.setVm s.vm) m #[(.ref a1), (.ref a2), (.int 0), (.int 0), .null] below meth c s₁ [] 0 0 := X0
  have hZ : Z.Warmed39 (s.setVm s.vm).vm := hZ
  have hown : (s.setVm s.vm).vm.findClass "java/lang/String" = some m.cls := hown
  have hS : s.Since s.vm 0 := (State.WarmedH.refl s).since 0
  refine og (B := s₁.setTop (mkF m 0 #[rv a1, rv a2, iv 0, iv 0, .val .null, .unset] [])) (fun t k => castTop (ef_2n4 m a1 a2 (0 : Int32) (0 : Int32)) k) ?_
  refine og (B := s₁.setTop (mkF m 1 #[rv a1, rv a2, iv 0, iv 0, .val .null, .unset] [(.ref a1)])) (fun t k => ?_) ?_
  · refine XS.aloadN X0.here hx rfl (hb hby d2_0) rfl rfl ?_
    exact k
  obtain ⟨T1, X1, e1, st1⟩ := initO X0 hx hZ hown (ow hw 11 rfl) (ow hw 12 rfl) (ow hw 13 rfl) e0 (g := (mkF m 1 #[rv a1, rv a2, iv 0, iv 0, .val .null, .unset] [(.ref a1)])) rfl (by rw [hml]; rfl) rfl (hb hby d2_1) (by decide) (W := 0) (Nat.le_refl _) (by decide)
  refine og (B := T1.setTop (mkF m 4 #[rv a1, rv a2, iv 0, iv 0, .val .null, .unset] [])) st1 ?_
  refine og (B := T1.setTop (mkF m 9 #[rv a1, rv a2, iv 0, iv 0, .val .null, .unset] [(.ref a1)])) (fun t k => ?_) ?_
  · refine XS.iloadN X1.here hx rfl (hb hby d2_4) rfl ?_
    refine XS.ifNo X1.here hx rfl (hb hby d2_5) rfl ((if0 _ _).trans (teq (by decide)).2) ?_
    refine XS.aloadN X1.here hx rfl (hb hby d2_8) rfl rfl ?_
    exact k
  obtain ⟨as2, T2, h2, kk2, bs2, ks2, X2, e2, E2, hS, hk2, hZ, hown, LE2, LC2, LV2, LA2, la2, lb2, hC2, hL2, hSf2, st2⟩ := ldcCH (EL := consts_1) X1 hx hZ hown (ow hw 34 rfl) (own_wS hw) e1 hS (Nat.zero_le _) (own_hEL hw) (by decide) (CHr.refl hCH).1 (z := (0 : Int32)) own_ht0 (by decide) rfl (g := (mkF m 9 #[rv a1, rv a2, iv 0, iv 0, .val .null, .unset] [(.ref a1)])) rfl (hb hby d2_9) (n := 0) (by decide) (by decide) (by decide) (by decide)
  have Ch2 := (CHr.refl hCH).trans hC2
  have c2_E_a1 := E_a1.ext E2
  have c2_F_a1_value := F_v.ext E2
  have c2_F_a1_coder := F_c.ext E2
  have c2_V_a2 := V_a.ext E2
  have K2 := (Keep.refl h0 [a1]).ext E2
  have O2 := O0.ext E2
  have ne_a1_as2 : a1 ≠ as2 := Fld.ne c2_F_a1_value LV2 (by simp)
  have ne_a1_bs2 : a1 ≠ bs2 := Exa.neArv c2_E_a1 LA2 (ow hw 1 rfl)
  refine og (B := T2.setTop (mkF m 11 #[rv a1, rv a2, iv 0, iv 0, .val .null, .unset] [(.ref as2), (.ref a1)])) st2 ?_
  obtain ⟨T3, X3, e3, st3⟩ := getF X2 hx hZ hown (host := "") (Or.inl (ow hw 28 rfl)) Via.refl e2 LV2 (g := (mkF m 11 #[rv a1, rv a2, iv 0, iv 0, .val .null, .unset] [(.ref as2), (.ref a1)])) rfl rfl (hb hby d2_11)
  refine og (B := T3.setTop (mkF m 14 #[rv a1, rv a2, iv 0, iv 0, .val .null, .unset] [(.ref bs2), (.ref a1)])) st3 ?_
  obtain ⟨T4, h4, X4, e4, W4, st4⟩ := putF X3 hx hZ hown (host := "") (Or.inl (ow hw 28 rfl)) Via.refl e3 c2_F_a1_value c2_E_a1 (Or.inr ⟨(ow hw 29 rfl), rfl, hnm⟩) (ow hw 1 rfl) (ty := (.array .byte)) (by decide) rfl rfl (g := (mkF m 14 #[rv a1, rv a2, iv 0, iv 0, .val .null, .unset] [(.ref bs2), (.ref a1)])) rfl rfl (hb hby d2_14)
  have Sf4 := own_safe (EL := consts_1) hZ.alike c2_E_a1 c2_F_a1_value
  have c4_E_a1 := c2_E_a1.wr W4
  have c4_F_a1_value := c2_F_a1_value.same W4
  have c4_F_a1_coder := c2_F_a1_coder.other W4 (Or.inr (slot_ne (Or.inr (ow hw 27 rfl)) (Or.inr (ow hw 29 rfl)) (by decide) (t := .byte) (t' := (.array .byte)) (by decide) (by decide)))
  have c4_V_a2 := c2_V_a2.other W4 (Ne.symm n_12)
  have c4_E_as2 := LE2.wr W4
  have c4_F_as2_coder := LC2.other W4 (Or.inl (Ne.symm ne_a1_as2))
  have c4_F_as2_value := LV2.other W4 (Or.inl (Ne.symm ne_a1_as2))
  have c4_V_bs2 := LA2.other W4 (Ne.symm ne_a1_bs2)
  have Ch4 := (Ch2).trans (CHr.wr W4 Sf4 (Ch2).1)
  have Sf4w := Safe.wr W4 Sf4 (Ch2).1 Sf4
  have K4 := K2.wr W4 (Or.inl (List.mem_of_getElem? (i := 0) rfl))
  have O4 := O2.wr W4 g_a1
  have N4 := Fr.snoc X4 N0 g_a1
  have zs4 := (Nat.le_trans (Nat.le_trans Z0 E2.1) (Keep.of_wr W4).1)
  have zk4 := (Nat.le_trans hk2 (Keep.of_wr W4).1)
  refine og (B := T4.setTop (mkF m 17 #[rv a1, rv a2, iv 0, iv 0, .val .null, .unset] [])) st4 ?_
  refine og (B := T4.setTop (mkF m 18 #[rv a1, rv a2, iv 0, iv 0, .val .null, .unset] [(.ref a1)])) (fun t k => ?_) ?_
  · refine XS.aloadN X4.here hx rfl (hb hby d2_17) rfl rfl ?_
    exact k
  refine og (B := T4.setTop (mkF m 20 #[rv a1, rv a2, iv 0, iv 0, .val .null, .unset] [(.ref as2), (.ref a1)])) (fun t k => ldcAgain X4 hx hZ hown (ow hw 34 rfl) hL2 (g := (mkF m 18 #[rv a1, rv a2, iv 0, iv 0, .val .null, .unset] [(.ref a1)])) rfl (hb hby d2_18) _ k) ?_
  obtain ⟨T6, X6, e6, st6⟩ := getF X4 hx hZ hown (host := "") (Or.inl (ow hw 26 rfl)) Via.refl e4 c4_F_as2_coder (g := (mkF m 20 #[rv a1, rv a2, iv 0, iv 0, .val .null, .unset] [(.ref as2), (.ref a1)])) rfl rfl (hb hby d2_20)
  refine og (B := T6.setTop (mkF m 23 #[rv a1, rv a2, iv 0, iv 0, .val .null, .unset] [(.int 0), (.ref a1)])) st6 ?_
  obtain ⟨T7, h7, X7, e7, W7, st7⟩ := putFN X6 hx hZ hown (ow hw 26 rfl) Via.refl e6 c4_F_a1_coder c4_E_a1 (Or.inr ⟨(ow hw 27 rfl), rfl, hnm⟩) (ow hw 1 rfl) (ty := .byte) (v' := (.int 0)) (by decide) rfl (by decide) (g := (mkF m 23 #[rv a1, rv a2, iv 0, iv 0, .val .null, .unset] [(.int 0), (.ref a1)])) rfl rfl (hb hby d2_23)
  have c7_E_a1 := c4_E_a1.wr W7
  have c7_F_a1_value := c4_F_a1_value.other W7 (Or.inr (slot_ne (Or.inr (ow hw 29 rfl)) (Or.inr (ow hw 27 rfl)) (by decide) (t := (.array .byte)) (t' := .byte) (by decide) (by decide)))
  have c7_F_a1_coder := c4_F_a1_coder.same W7
  have c7_V_a2 := c4_V_a2.other W7 (Ne.symm n_12)
  have c7_E_as2 := c4_E_as2.wr W7
  have c7_F_as2_coder := c4_F_as2_coder.other W7 (Or.inl (Ne.symm ne_a1_as2))
  have c7_F_as2_value := c4_F_as2_value.other W7 (Or.inl (Ne.symm ne_a1_as2))
  have c7_V_bs2 := c4_V_bs2.other W7 (Ne.symm ne_a1_bs2)
  have Ch7 := (Ch4).trans (CHr.wr W7 Sf4w (Ch4).1)
  have Sf7w := Safe.wr W7 Sf4w (Ch4).1 Sf4w
  have K7 := K4.wr W7 (Or.inl (List.mem_of_getElem? (i := 0) rfl))
  have O7 := O4.wr W7 g_a1
  have N7 := Fr.snoc X7 N4 g_a1
  have zs7 := (Nat.le_trans zs4 (Keep.of_wr W7).1)
  have zk7 := (Nat.le_trans zk4 (Keep.of_wr W7).1)
  refine og (B := T7.setTop (mkF m 26 #[rv a1, rv a2, iv 0, iv 0, .val .null, .unset] [])) st7 ?_
  obtain ⟨fs, hr, hrun, hended, hRW⟩ := X7.leaveW hS (by rw [e7]; exact zk7) (v := none) (fun _ => rfl)
  refine ⟨_, _, ?_, hrun, hended, _, _, rfl, ?_, (by have q := (Ch7).trans (CHv.at X7 hZ (own_hEL hw) (Ch7).1); rw [← hh, ← e7] at q; exact q), hRW.1, hRW.2.1, hRW.2.2.1, hRW.2.2.2.mono (by decide) (by decide)⟩
  · show own_S p e below T7 (mkF m 26 #[rv a1, rv a2, iv 0, iv 0, .val .null, .unset] []) _
    exact X7.returnOut hx Bd.returns (hb hby d2_26) hr
  · show Q2_0 Z a1 a2 kc2 GC h0 n0 _ T7.heap _
    rw [e7]
    exact ⟨rfl, N7, bs2, ks2, K7, c7_E_a1, c7_F_a1_coder, c7_F_a1_value, c7_V_bs2⟩
def Q1_0 (Z : State) (a1 : Addr) (a2 : Addr) (kc2 : ClassId) (GC : Int32) (h0 : Heap) (n0 : Nat) (v : Option Value) (h : Heap) (L : List Loc) : Prop := v = none ∧ Fr n0 L ∧ (∃ (b : Addr) (kb : ClassId), Keep h0 h [a1] ∧ Exa Z h a1 "java/lang/String" ∧ Fld Z h a1 "java/lang/String" "coder" "B" (.int 0) ∧ Fld Z h a1 "java/lang/String" "value" "[B" (.ref b) ∧ Arv Z h b kb .byte (0 : Int32) [] (.int 0))
set_option maxRecDepth 65536 in
set_option maxHeartbeats 40000000 in
theorem rm1_0 (l : Launch) (Z : State) (a0 : Array Value) (hw : ∀ d ∈ tables_1, d.before a0 Z = true) (ws : List Jvm.Cond) (a1 : Addr) (a2 : Addr) (kc2 : ClassId) (GC : Int32) (h0 : Heap) (n0 : Nat) (Z0 : n0 ≤ h0.size) (S_C : Sta Z Z.heap "java/lang/String" "COMPACT_STRINGS" "Z" (.int GC)) (hGC : ¬ GC = (0 : Int32)) (O0 : Old Z n0 h0) (E_a1 : Exa Z h0 a1 "java/lang/String") (g_a1 : n0 ≤ a1) (F_v : Fld Z h0 a1 "java/lang/String" "value" "[B" .null) (F_c : Fld Z h0 a1 "java/lang/String" "coder" "B" (.int 0)) (V_a : Arv Z h0 a2 kc2 .char (0 : Int32) [] (.int 0)) (n_12 : a1 ≠ a2) :
    MetFree l own_y11 (head1 (Jvm.Cond.code own_y11 jdk_42_method_3_code 2 none :: ws) ({ frames := 2, cells := 2, slots := 4, locals := 29 } : Room)) (fun a U => a = #[(.ref a1), (.ref a2)] ∧ Z.Warmed39 U.vm ∧ U.heap = h0 ∧ CHv Z consts_1 U.vm h0) (fun _ _ _ _ _ => True) (fun _ U o U' => ∃ v L, o = .returned v ∧ Q1_0 Z a1 a2 kc2 GC h0 n0 v U'.heap L ∧ CHr Z consts_1 U.vm U.heap U'.vm U'.heap ∧ ReturnedEndW U o U' L ({ frames := 2, cells := 2, slots := 4, locals := 29 } : Room).cells ({ frames := 2, cells := 2, slots := 4, locals := 29 } : Room).slots) := by
  refine MetFree.of_bodySF (plainFor_of_name pn_1) hisR ?_
  intro p e s m args below meth c s₁ Bd hml0 hP hK
  obtain ⟨rfl, hZ, hh, hCH⟩ := hP
  have hx := Bd.exec
  have hby := Bd.bytes
  have hml : c.maxLocals = 2 := hml0
  have hown : s.vm.findClass "java/lang/String" = some m.cls := findClass_of_methodNamed Bd.named
  have hnm := (name_of_methodNamed Bd.named Bd.method).1
  have X0 : Stand p l e ({ frames := 2, cells := 2, slots := 4, locals := 29 } : Room) s m #[(.ref a1), (.ref a2)] below meth c s₁ [] 0 0 := Stand.of_body Bd
  have e0 : s₁.heap = h0 := by rw [← hh, Bd.state]; rfl
  have N0 := Fr.nil n0
  have X0 : Stand p l e ({ frames := 2, cells := 2, slots := 4, locals := 29 } : Room) (s.setVm s.vm) m #[(.ref a1), (.ref a2)] below meth c s₁ [] 0 0 := X0
  have hZ : Z.Warmed39 (s.setVm s.vm).vm := hZ
  have hown : (s.setVm s.vm).vm.findClass "java/lang/String" = some m.cls := hown
  have hS : s.Since s.vm 0 := (State.WarmedH.refl s).since 0
  refine og (B := s₁.setTop (mkF m 0 #[rv a1, rv a2] [])) (fun t k => castTop (ef_1 m a1 a2) k) ?_
  obtain ⟨cl1, Ar1, qk1, S1, M1, H1, G1⟩ := id V_a
  refine og (B := s₁.setTop (mkF m 6 #[rv a1, rv a2] [.null, (.int 0), (.int 0), (.ref a2), (.ref a1)])) (fun t k => ?_) ?_
  · refine XS.aloadN X0.here hx rfl (hb hby d1_0) rfl rfl ?_
    refine XS.aloadN X0.here hx rfl (hb hby d1_1) rfl rfl ?_
    refine XS.iconst X0.here hx rfl (hb hby d1_2) ?_
    refine XS.aloadN X0.here hx rfl (hb hby d1_3) rfl rfl ?_
    refine X0.arraylength hx (by rw [e0]; exact Ar1.1) (State.isArrayOf_alike hZ.alike Ar1.2.1) (g := (mkF m 4 #[rv a1, rv a2] [(.ref a2), (.int 0), (.ref a2), (.ref a1)])) rfl rfl (hb hby d1_4) _ ?_
    rw [len_of S1 M1]
    refine XS.aconstNull X0.here hx rfl (hb hby d1_5) ?_
    exact k
  have Ch2p := CHr.refl hCH
  obtain ⟨_, _, ⟨T2, L2, k2, n2⟩, -, X2, hS2, hg2, ⟨Lc2, hQ2, l2, y2, z2, hCr2⟩, st2⟩ := X0.specialBackS hx (y := own_y10) rfl hown (mvT hZ (ow hw 7 rfl)) (mvT hZ (ow hw 8 rfl)) (mvT hZ (ow hw 10 rfl)) (by decide) (backOfSH (W := 0) (rm2_0 l Z a0 hw [] a1 a2 kc2  GC h0 n0 Z0 S_C hGC O0 E_a1 g_a1 F_v F_c V_a n_12 ) hZ (ow hw 10 rfl) (ow hw 2 rfl) (by decide) (by decide) (own_hEL hw) Ch2p.1) (g := (mkF m 6 #[rv a1, rv a2] [.null, (.int 0), (.int 0), (.ref a2), (.ref a1)])) rfl (by rw [hml]; rfl) (Steps.refl _) (a := a1) (argsL := [(.ref a2), (.int 0), (.int 0), .null]) (rest := []) (lenOf own_pd8 rfl) rfl (Nat.le_refl _) (hb hby d1_6) (fun _ _ => ⟨rfl, e0, (by decide : 0 + 2 ≤ _), (by decide : 0 + 4 ≤ _)⟩)
  dsimp only [Pt.U, Pt.locs, Pt.cells, Pt.slots] at X2 l2 y2 z2 st2 hQ2 hS2 hg2 hCr2
  subst l2 y2 z2
  have hS := hS.trans hS2 (Nat.le_trans (Nat.zero_le _) (Nat.le_trans (Nat.le_of_eq (congrArg Array.size e0.symm)) hg2))
  have hZ : Z.Warmed39 (s.setVm T2.vm).vm := State.Warmed39.trans hZ hS2.1
  have hown : (s.setVm T2.vm).vm.findClass "java/lang/String" = some m.cls := (hS2.1.alike.findClass _ _).trans hown
  obtain ⟨rfl, N2q, bq2, kq2, K2q, E2q, F2c, F2v, V2q⟩ := hQ2
  have N2 := Fr.app N0 N2q
  have c2_V_a2 := V_a.keep K2q (fun q => (Ne.symm n_12) (List.mem_singleton.mp q))
  have O2 := O0.keep K2q (allS g_a1 all0)
  have K2 := (Keep.refl h0 [a1]).trans K2q (allS (Or.inl (List.mem_of_getElem? (i := 0) rfl)) all0)
  have Ch2 := Ch2p.trans hCr2
  refine og (B := T2.setTop (mkF m 9 #[rv a1, rv a2] [])) (fun _ => st2.trans) ?_
  obtain ⟨fs, hr, hrun, hended, hRW⟩ := X2.leaveW hS ((Nat.le_refl _)) (v := none) (fun _ => rfl)
  refine ⟨_, _, ?_, hrun, hended, _, _, rfl, ?_, (by have q := (Ch2).trans (CHv.at X2 hZ (own_hEL hw) (Ch2).1); rw [← hh] at q; exact q), hRW.1, hRW.2.1, hRW.2.2.1, hRW.2.2.2.mono (by decide) (by decide)⟩
  · show own_S p e below T2 (mkF m 9 #[rv a1, rv a2] []) _
    exact X2.returnOut hx Bd.returns (hb hby d1_9) hr
  · show Q1_0 Z a1 a2 kc2 GC h0 n0 _ T2.heap _
    exact ⟨rfl, N2, bq2, kq2, K2, E2q, F2c, F2v, V2q⟩
theorem d32_0 : decode jdk_29_method_69_code 0 = .ok (.iload_n 0, 1) := by decide +kernel
theorem d32_1 : decode jdk_29_method_69_code 1 = .ok (.iload_n 1, 1) := by decide +kernel
theorem d32_2 : decode jdk_29_method_69_code 2 = .ok (.if_icmp .gt 7, 3) := by decide +kernel
theorem d32_5 : decode jdk_29_method_69_code 5 = .ok (.iload_n 0, 1) := by decide +kernel
theorem d32_6 : decode jdk_29_method_69_code 6 = .ok (.goto 4, 3) := by decide +kernel
theorem d32_9 : decode jdk_29_method_69_code 9 = .ok (.iload_n 1, 1) := by decide +kernel
theorem d32_10 : decode jdk_29_method_69_code 10 = .ok (.ireturn, 1) := by decide +kernel
theorem ef_32 (m : MethodId) (x0 : Int32) (x1 : Int32) : entryFrame m #[(.int x0), (.int x1)] 2 = mkF m 0 #[.val (.int x0), .val (.int x1)] [] := by first | (simp [entryFrame, mkF, argsToLocals, Value.category]; done) | rfl
def Q32 (Z : State) (u1 : Int32) (u2 : Int32) (r1 : Int32) (h0 : Heap) (n0 : Nat) (v : Option Value) (h : Heap) (L : List Loc) : Prop := v = some (.int r1) ∧ Fr n0 L ∧ h = h0
set_option maxRecDepth 65536 in
set_option maxHeartbeats 40000000 in
theorem rm32 (l : Launch) (Z : State) (a0 : Array Value) (hw : ∀ d ∈ tables_1, d.before a0 Z = true) (ws : List Jvm.Cond) (u1 : Int32) (u2 : Int32) (r1 : Int32) (h0 : Heap) (n0 : Nat) (Z0 : n0 ≤ h0.size) (hr1 : r1 = (if u2 < u1 then u2 else u1)) :
    MetFree l own_y12 (head1 (Jvm.Cond.code own_y12 jdk_29_method_69_code 2 (some .int) :: ws) ({ frames := 0, cells := 0, slots := 0, locals := 0 } : Room)) (fun a U => a = #[(.int u1), (.int u2)] ∧ Z.Warmed39 U.vm ∧ U.heap = h0) (fun _ _ _ _ _ => True) (fun _ U o U' => ∃ v L, o = .returned v ∧ Q32 Z u1 u2 r1 h0 n0 v U'.heap L ∧ FrameEnd U o U' L ({ frames := 0, cells := 0, slots := 0, locals := 0 } : Room).cells ({ frames := 0, cells := 0, slots := 0, locals := 0 } : Room).slots) := by
  refine MetFree.of_bodySF (Jvm.Free.JP.mathPlain rfl (by decide +kernel)) hisR ?_
  intro p e s m args below meth c s₁ Bd hml0 hP hK
  obtain ⟨rfl, hZ, hh⟩ := hP
  have hx := Bd.exec
  have hby := Bd.bytes
  have hml : c.maxLocals = 2 := hml0
  have hown : s.vm.findClass "java/lang/Math" = some m.cls := findClass_of_methodNamed Bd.named
  have hnm := (name_of_methodNamed Bd.named Bd.method).1
  have X0 : Stand p l e ({ frames := 0, cells := 0, slots := 0, locals := 0 } : Room) s m #[(.int u1), (.int u2)] below meth c s₁ [] 0 0 := Stand.of_body Bd
  have e0 : s₁.heap = h0 := by rw [← hh, Bd.state]; rfl
  have N0 := Fr.nil n0
  refine og (B := s₁.setTop (mkF m 0 #[iv u1, iv u2] [])) (fun t k => castTop (ef_32 m u1 u2) k) ?_
  refine og (B := s₁.setTop (mkF m 2 #[iv u1, iv u2] [(.int u2), (.int u1)])) (fun t k => ?_) ?_
  · refine XS.iloadN X0.here hx rfl (hb hby d32_0) rfl ?_
    refine XS.iloadN X0.here hx rfl (hb hby d32_1) rfl ?_
    exact k
  by_cases hc2_1 : u2 < u1
  · obtain ⟨fs, hr, hrun, hended, hW, hsame⟩ := X0.leave (v := some (.int u2)) (fun h => by rw [Bd.returns] at h; cases h)
    refine ⟨_, _, ?_, hrun, hended, _, _, rfl, ?_, ⟨_, rfl⟩, hW, hsame.mono (by decide) (by decide)⟩
    · refine XS.icmpYes X0.here hx rfl (pc0 := 2) (pc' := 9) rfl (hb hby d32_2) rfl (tlt hc2_1).2.2.1 (by decide) (by decide) ?_
      refine XS.iloadN X0.here hx rfl (hb hby d32_9) rfl ?_
      show own_S p e below s₁ (mkF m 10 #[iv u1, iv u2] [(.int u2)]) _
      exact retI X0 hx Bd.returns (hb hby d32_10) hr
    · show Q32 Z u1 u2 r1 h0 n0 _ s₁.heap _
      rw [e0]
      exact ⟨by rw [hr1, if_pos hc2_1], N0, rfl⟩
  · obtain ⟨fs, hr, hrun, hended, hW, hsame⟩ := X0.leave (v := some (.int u1)) (fun h => by rw [Bd.returns] at h; cases h)
    refine ⟨_, _, ?_, hrun, hended, _, _, rfl, ?_, ⟨_, rfl⟩, hW, hsame.mono (by decide) (by decide)⟩
    · refine XS.icmpNo X0.here hx rfl (hb hby d32_2) rfl (flt hc2_1).2.2.1 ?_
      refine XS.iloadN X0.here hx rfl (hb hby d32_5) rfl ?_
      refine XS.goto X0.here hx rfl (pc0 := 6) (pc' := 10) rfl (hb hby d32_6) (by decide) (by decide) ?_
      show own_S p e below s₁ (mkF m 10 #[iv u1, iv u2] [(.int u1)]) _
      exact retI X0 hx Bd.returns (hb hby d32_10) hr
    · show Q32 Z u1 u2 r1 h0 n0 _ s₁.heap _
      rw [e0]
      exact ⟨by rw [hr1, if_neg hc2_1], N0, rfl⟩
theorem pn_10 : plainName "java/lang/AbstractStringBuilder" = true := by first | (simp [plainName, overriddenIn]; done) | decide +kernel
theorem d10_0 : decode jdk_68_method_2_code 0 = .ok (.aload_n 0, 1) := by decide +kernel
theorem d10_1 : decode jdk_68_method_2_code 1 = .ok (.invokespecial 3, 3) := by decide +kernel
theorem d10_4 : decode jdk_68_method_2_code 4 = .ok (.getstatic 18, 3) := by decide +kernel
theorem d10_7 : decode jdk_68_method_2_code 7 = .ok (.ifCond .eq 18, 3) := by decide +kernel
theorem d10_10 : decode jdk_68_method_2_code 10 = .ok (.aload_n 0, 1) := by decide +kernel
theorem d10_11 : decode jdk_68_method_2_code 11 = .ok (.iload_n 1, 1) := by decide +kernel
theorem d10_12 : decode jdk_68_method_2_code 12 = .ok (.newarray .byte, 2) := by decide +kernel
theorem d10_14 : decode jdk_68_method_2_code 14 = .ok (.putfield 15, 3) := by decide +kernel
theorem d10_17 : decode jdk_68_method_2_code 17 = .ok (.aload_n 0, 1) := by decide +kernel
theorem d10_18 : decode jdk_68_method_2_code 18 = .ok (.iconst 0, 1) := by decide +kernel
theorem d10_19 : decode jdk_68_method_2_code 19 = .ok (.putfield 22, 3) := by decide +kernel
theorem d10_22 : decode jdk_68_method_2_code 22 = .ok (.goto 16, 3) := by decide +kernel
theorem d10_38 : decode jdk_68_method_2_code 38 = .ok (.return_, 1) := by decide +kernel
theorem ef_10 (m : MethodId) (x0 : Addr) (x1 : Int32) : entryFrame m #[(.ref x0), (.int x1)] 2 = mkF m 0 #[.val (.ref x0), .val (.int x1)] [] := by first | (simp [entryFrame, mkF, argsToLocals, Value.category]; done) | rfl
def Q10 (Z : State) (a1 : Addr) (GC : Int32) (h0 : Heap) (n0 : Nat) (v : Option Value) (h : Heap) (L : List Loc) : Prop := v = none ∧ Fr n0 L ∧ (∃ (b : Addr) (kb : ClassId), Keep h0 h [a1] ∧ h0.size ≤ b ∧ n0 ≤ b ∧ Exa Z h a1 "java/lang/StringBuilder" ∧ Fld Z h a1 "java/lang/AbstractStringBuilder" "value" "[B" (.ref b) ∧ Fld Z h a1 "java/lang/AbstractStringBuilder" "coder" "B" (.int 0) ∧ Fld Z h a1 "java/lang/AbstractStringBuilder" "count" "I" (.int 0) ∧ Arv Z h b kb .byte (16 : Int32) [(.int 0), (.int 0), (.int 0), (.int 0), (.int 0), (.int 0), (.int 0), (.int 0), (.int 0), (.int 0), (.int 0), (.int 0), (.int 0), (.int 0), (.int 0), (.int 0)] (.int 0))
set_option maxRecDepth 65536 in
set_option maxHeartbeats 40000000 in
theorem rm10 (l : Launch) (Z : State) (a0 : Array Value) (hw : ∀ d ∈ tables_1, d.before a0 Z = true) (ws : List Jvm.Cond) (a1 : Addr) (GC : Int32) (h0 : Heap) (n0 : Nat) (Z0 : n0 ≤ h0.size) (S_C : Sta Z Z.heap "java/lang/String" "COMPACT_STRINGS" "Z" (.int GC)) (hGC : ¬ GC = (0 : Int32)) (O0 : Old Z n0 h0) (E_a1 : Exa Z h0 a1 "java/lang/StringBuilder") (g_a1 : n0 ≤ a1) (F_v1 : Fld Z h0 a1 "java/lang/AbstractStringBuilder" "value" "[B" .null) (F_c1 : Fld Z h0 a1 "java/lang/AbstractStringBuilder" "coder" "B" (.int 0)) (F_n1 : Fld Z h0 a1 "java/lang/AbstractStringBuilder" "count" "I" (.int 0)) :
    MetFree l own_y13 (head1 (Jvm.Cond.code own_y13 jdk_68_method_2_code 2 none :: ws) ({ frames := 1, cells := 1, slots := 16, locals := 12 } : Room)) (fun a U => a = #[(.ref a1), (.int 16)] ∧ Z.Warmed39 U.vm ∧ U.heap = h0) (fun _ _ _ _ _ => True) (fun _ U o U' => ∃ v L, o = .returned v ∧ Q10 Z a1 GC h0 n0 v U'.heap L ∧ FrameEnd U o U' L ({ frames := 1, cells := 1, slots := 16, locals := 12 } : Room).cells ({ frames := 1, cells := 1, slots := 16, locals := 12 } : Room).slots) := by
  refine MetFree.of_bodySF (plainFor_of_name pn_10) hisR ?_
  intro p e s m args below meth c s₁ Bd hml0 hP hK
  obtain ⟨rfl, hZ, hh⟩ := hP
  have hx := Bd.exec
  have hby := Bd.bytes
  have hml : c.maxLocals = 2 := hml0
  have hown : s.vm.findClass "java/lang/AbstractStringBuilder" = some m.cls := findClass_of_methodNamed Bd.named
  have hnm := (name_of_methodNamed Bd.named Bd.method).1
  have X0 : Stand p l e ({ frames := 1, cells := 1, slots := 16, locals := 12 } : Room) s m #[(.ref a1), (.int 16)] below meth c s₁ [] 0 0 := Stand.of_body Bd
  have e0 : s₁.heap = h0 := by rw [← hh, Bd.state]; rfl
  have N0 := Fr.nil n0
  refine og (B := s₁.setTop (mkF m 0 #[rv a1, iv 16] [])) (fun t k => castTop (ef_10 m a1 (16 : Int32)) k) ?_
  refine og (B := s₁.setTop (mkF m 1 #[rv a1, iv 16] [(.ref a1)])) (fun t k => ?_) ?_
  · refine XS.aloadN X0.here hx rfl (hb hby d10_0) rfl rfl ?_
    exact k
  obtain ⟨T1, X1, e1, st1⟩ := initO X0 hx hZ hown (ow hw 53 rfl) (ow hw 12 rfl) (ow hw 13 rfl) e0 (g := (mkF m 1 #[rv a1, iv 16] [(.ref a1)])) rfl (by rw [hml]; rfl) rfl (hb hby d10_1) (by decide) (W := 0) (Nat.le_refl _) (by decide)
  refine og (B := T1.setTop (mkF m 4 #[rv a1, iv 16] [])) st1 ?_
  obtain ⟨T2, X2, e2, st2⟩ := getS2 X1 hx hZ hown (host := "") (Or.inl (ow hw 54 rfl)) Via.refl e1 (S_C.ext O0.2) (g := (mkF m 4 #[rv a1, iv 16] [])) rfl (hb hby d10_4)
  refine og (B := T2.setTop (mkF m 7 #[rv a1, iv 16] [(.int GC)])) st2 ?_
  refine og (B := T2.setTop (mkF m 12 #[rv a1, iv 16] [(.int 16), (.ref a1)])) (fun t k => ?_) ?_
  · refine XS.ifNo X2.here hx rfl (hb hby d10_7) rfl ((if0 _ _).trans (feq hGC).1) ?_
    refine XS.aloadN X2.here hx rfl (hb hby d10_10) rfl rfl ?_
    refine XS.iloadN X2.here hx rfl (hb hby d10_11) rfl ?_
    exact k
  obtain ⟨T3, h3, k3, X3, e3, E3, A3, st3⟩ := newP X2 hx hZ (ow hw 19 rfl) e2 (g := (mkF m 12 #[rv a1, iv 16] [(.int 16), (.ref a1)])) rfl (hb hby d10_12) rfl (by decide) (cap := 16) (by decide) (by decide) (by decide) (by decide)
  obtain ⟨b3, g3⟩ : ∃ z, z = h0.size := ⟨_, rfl⟩
  rw [← g3] at A3 st3
  have g_b3 : n0 ≤ b3 := Nat.le_trans Z0 (Nat.le_of_eq g3.symm)
  have sz_b3 : h0.size ≤ b3 := Nat.le_trans (Keep.refl h0 [a1]).1 (Nat.le_of_eq g3.symm)
  have ne_a1_b3 : a1 ≠ b3 := Nat.ne_of_lt (Nat.lt_of_lt_of_le E_a1.lt (Nat.le_of_eq g3.symm))
  have c3_E_a1 := E_a1.ext E3
  have c3_F_a1_value := F_v1.ext E3
  have c3_F_a1_coder := F_c1.ext E3
  have c3_F_a1_count := F_n1.ext E3
  have K3 := (Keep.refl h0 [a1]).ext E3
  have O3 := O0.ext E3
  have V3 : Arv Z h3 b3 k3 .byte (16 : Int32) [(.int 0), (.int 0), (.int 0), (.int 0), (.int 0), (.int 0), (.int 0), (.int 0), (.int 0), (.int 0), (.int 0), (.int 0), (.int 0), (.int 0), (.int 0), (.int 0)] (.int 0) := (Arv.new A3 (by decide)).pad (pad_rep [] (.int 0) 16)
  have zk3 := (Nat.le_trans (Nat.zero_le _) E3.1)
  refine og (B := T3.setTop (mkF m 14 #[rv a1, iv 16] [(.ref b3), (.ref a1)])) st3 ?_
  obtain ⟨T4, h4, X4, e4, W4, st4⟩ := putF X3 hx hZ hown (host := "") (Or.inl (ow hw 55 rfl)) Via.refl e3 c3_F_a1_value c3_E_a1 (Or.inl (ow hw 56 rfl)) (ow hw 42 rfl) (ty := (.array .byte)) (by decide) rfl rfl (g := (mkF m 14 #[rv a1, iv 16] [(.ref b3), (.ref a1)])) rfl rfl (hb hby d10_14)
  have c4_E_a1 := c3_E_a1.wr W4
  have c4_F_a1_value := c3_F_a1_value.same W4
  have c4_F_a1_coder := c3_F_a1_coder.other W4 (Or.inr (slot_ne (Or.inl (ow hw 58 rfl)) (Or.inl (ow hw 56 rfl)) (by decide) (t := .byte) (t' := (.array .byte)) (by decide) (by decide)))
  have c4_F_a1_count := c3_F_a1_count.other W4 (Or.inr (slot_ne (Or.inl (ow hw 80 rfl)) (Or.inl (ow hw 56 rfl)) (by decide) (t := .int) (t' := (.array .byte)) (by decide) (by decide)))
  have c4_V_b3 := V3.other W4 (Ne.symm ne_a1_b3)
  have K4 := K3.wr W4 (Or.inl (List.mem_of_getElem? (i := 0) rfl))
  have O4 := O3.wr W4 g_a1
  have N4 := Fr.snoc X4 N0 g_a1
  have zs4 := (Nat.le_trans (Nat.le_trans Z0 E3.1) (Keep.of_wr W4).1)
  have zk4 := (Nat.le_trans zk3 (Keep.of_wr W4).1)
  refine og (B := T4.setTop (mkF m 17 #[rv a1, iv 16] [])) st4 ?_
  refine og (B := T4.setTop (mkF m 19 #[rv a1, iv 16] [(.int 0), (.ref a1)])) (fun t k => ?_) ?_
  · refine XS.aloadN X4.here hx rfl (hb hby d10_17) rfl rfl ?_
    refine XS.iconst X4.here hx rfl (hb hby d10_18) ?_
    exact k
  obtain ⟨T5, h5, X5, e5, W5, st5⟩ := putFN X4 hx hZ hown (ow hw 57 rfl) Via.refl e4 c4_F_a1_coder c4_E_a1 (Or.inl (ow hw 58 rfl)) (ow hw 42 rfl) (ty := .byte) (v' := (.int 0)) (by decide) rfl (by decide) (g := (mkF m 19 #[rv a1, iv 16] [(.int 0), (.ref a1)])) rfl rfl (hb hby d10_19)
  have c5_E_a1 := c4_E_a1.wr W5
  have c5_F_a1_value := c4_F_a1_value.other W5 (Or.inr (slot_ne (Or.inl (ow hw 56 rfl)) (Or.inl (ow hw 58 rfl)) (by decide) (t := (.array .byte)) (t' := .byte) (by decide) (by decide)))
  have c5_F_a1_coder := c4_F_a1_coder.same W5
  have c5_F_a1_count := c4_F_a1_count.other W5 (Or.inr (slot_ne (Or.inl (ow hw 80 rfl)) (Or.inl (ow hw 58 rfl)) (by decide) (t := .int) (t' := .byte) (by decide) (by decide)))
  have c5_V_b3 := c4_V_b3.other W5 (Ne.symm ne_a1_b3)
  have K5 := K4.wr W5 (Or.inl (List.mem_of_getElem? (i := 0) rfl))
  have O5 := O4.wr W5 g_a1
  have N5 := Fr.snoc X5 N4 g_a1
  have zs5 := (Nat.le_trans zs4 (Keep.of_wr W5).1)
  have zk5 := (Nat.le_trans zk4 (Keep.of_wr W5).1)
  refine og (B := T5.setTop (mkF m 22 #[rv a1, iv 16] [])) st5 ?_
  obtain ⟨fs, hr, hrun, hended, hW, hsame⟩ := X5.leave (v := none) (fun _ => rfl)
  refine ⟨_, _, ?_, hrun, hended, _, _, rfl, ?_, ⟨_, rfl⟩, hW, hsame.mono (by decide) (by decide)⟩
  · refine XS.goto X5.here hx rfl (pc0 := 22) (pc' := 38) rfl (hb hby d10_22) (by decide) (by decide) ?_
    show own_S p e below T5 (mkF m 38 #[rv a1, iv 16] []) _
    exact X5.returnOut hx Bd.returns (hb hby d10_38) hr
  · show Q10 Z a1 GC h0 n0 _ T5.heap _
    rw [e5]
    exact ⟨rfl, N5, b3, k3, K5, sz_b3, g_b3, c5_E_a1, c5_F_a1_value, c5_F_a1_coder, c5_F_a1_count, c5_V_b3⟩
theorem pn_9 : plainName "java/lang/StringBuilder" = true := by first | (simp [plainName, overriddenIn]; done) | decide +kernel
theorem d9_0 : decode jdk_67_method_1_code 0 = .ok (.aload_n 0, 1) := by decide +kernel
theorem d9_1 : decode jdk_67_method_1_code 1 = .ok (.bipush 16, 2) := by decide +kernel
theorem d9_3 : decode jdk_67_method_1_code 3 = .ok (.invokespecial 1, 3) := by decide +kernel
theorem d9_6 : decode jdk_67_method_1_code 6 = .ok (.return_, 1) := by decide +kernel
theorem ef_9 (m : MethodId) (x0 : Addr) : entryFrame m #[(.ref x0)] 1 = mkF m 0 #[.val (.ref x0)] [] := by first | (simp [entryFrame, mkF, argsToLocals, Value.category]; done) | rfl
def Q9 (Z : State) (a1 : Addr) (GC : Int32) (h0 : Heap) (n0 : Nat) (v : Option Value) (h : Heap) (L : List Loc) : Prop := v = none ∧ Fr n0 L ∧ (∃ (b : Addr) (kb : ClassId), Keep h0 h [a1] ∧ h0.size ≤ b ∧ n0 ≤ b ∧ Exa Z h a1 "java/lang/StringBuilder" ∧ Fld Z h a1 "java/lang/AbstractStringBuilder" "value" "[B" (.ref b) ∧ Fld Z h a1 "java/lang/AbstractStringBuilder" "coder" "B" (.int 0) ∧ Fld Z h a1 "java/lang/AbstractStringBuilder" "count" "I" (.int 0) ∧ Arv Z h b kb .byte (16 : Int32) [(.int 0), (.int 0), (.int 0), (.int 0), (.int 0), (.int 0), (.int 0), (.int 0), (.int 0), (.int 0), (.int 0), (.int 0), (.int 0), (.int 0), (.int 0), (.int 0)] (.int 0))
set_option maxRecDepth 65536 in
set_option maxHeartbeats 40000000 in
theorem rm9 (l : Launch) (Z : State) (a0 : Array Value) (hw : ∀ d ∈ tables_1, d.before a0 Z = true) (ws : List Jvm.Cond) (a1 : Addr) (GC : Int32) (h0 : Heap) (n0 : Nat) (Z0 : n0 ≤ h0.size) (S_C : Sta Z Z.heap "java/lang/String" "COMPACT_STRINGS" "Z" (.int GC)) (hGC : ¬ GC = (0 : Int32)) (O0 : Old Z n0 h0) (E_a1 : Exa Z h0 a1 "java/lang/StringBuilder") (g_a1 : n0 ≤ a1) (F_v1 : Fld Z h0 a1 "java/lang/AbstractStringBuilder" "value" "[B" .null) (F_c1 : Fld Z h0 a1 "java/lang/AbstractStringBuilder" "coder" "B" (.int 0)) (F_n1 : Fld Z h0 a1 "java/lang/AbstractStringBuilder" "count" "I" (.int 0)) :
    MetFree l own_y14 (head1 (Jvm.Cond.code own_y14 jdk_67_method_1_code 1 none :: ws) ({ frames := 2, cells := 1, slots := 16, locals := 25 } : Room)) (fun a U => a = #[(.ref a1)] ∧ Z.Warmed39 U.vm ∧ U.heap = h0) (fun _ _ _ _ _ => True) (fun _ U o U' => ∃ v L, o = .returned v ∧ Q9 Z a1 GC h0 n0 v U'.heap L ∧ FrameEnd U o U' L ({ frames := 2, cells := 1, slots := 16, locals := 25 } : Room).cells ({ frames := 2, cells := 1, slots := 16, locals := 25 } : Room).slots) := by
  refine MetFree.of_bodySF (plainFor_of_name pn_9) hisR ?_
  intro p e s m args below meth c s₁ Bd hml0 hP hK
  obtain ⟨rfl, hZ, hh⟩ := hP
  have hx := Bd.exec
  have hby := Bd.bytes
  have hml : c.maxLocals = 1 := hml0
  have hown : s.vm.findClass "java/lang/StringBuilder" = some m.cls := findClass_of_methodNamed Bd.named
  have hnm := (name_of_methodNamed Bd.named Bd.method).1
  have X0 : Stand p l e ({ frames := 2, cells := 1, slots := 16, locals := 25 } : Room) s m #[(.ref a1)] below meth c s₁ [] 0 0 := Stand.of_body Bd
  have e0 : s₁.heap = h0 := by rw [← hh, Bd.state]; rfl
  have N0 := Fr.nil n0
  refine og (B := s₁.setTop (mkF m 0 #[rv a1] [])) (fun t k => castTop (ef_9 m a1) k) ?_
  refine og (B := s₁.setTop (mkF m 3 #[rv a1] [(.int 16), (.ref a1)])) (fun t k => ?_) ?_
  · refine XS.aloadN X0.here hx rfl (hb hby d9_0) rfl rfl ?_
    refine XS.bipush X0.here hx rfl (hb hby d9_1) ?_
    exact k
  obtain ⟨_, _, ⟨T1, L1, k1, n1⟩, -, X1, ⟨Lc1, hQ1, l1, y1, z1⟩, st1⟩ := X0.specialBack hx (y := own_y13) rfl hown (mvT hZ (ow hw 47 rfl)) (mvT hZ (ow hw 48 rfl)) (mvT hZ (ow hw 52 rfl)) (by decide) (backOf (W := 0) (rm10 l Z a0 hw [] a1 GC h0 n0 Z0 S_C hGC O0 E_a1 g_a1 F_v1 F_c1 F_n1) hZ (ow hw 52 rfl) (ow hw 51 rfl) (by decide) (by decide)) (g := (mkF m 3 #[rv a1] [(.int 16), (.ref a1)])) rfl (by rw [hml]; rfl) (Steps.refl _) (a := a1) (argsL := [(.int 16)]) (rest := []) (lenOf own_pd9 rfl) rfl (Nat.le_refl _) (hb hby d9_3) (fun _ _ => ⟨rfl, e0, (by decide : 0 + 1 ≤ _), (by decide : 0 + 16 ≤ _)⟩)
  dsimp only [Pt.U, Pt.locs, Pt.cells, Pt.slots] at X1 l1 y1 z1 st1 hQ1
  subst l1 y1 z1
  obtain ⟨rfl, N1q, bq1, kq1, K1q, q1z, q1g, E1q, F1v, F1c, F1n, V1q⟩ := hQ1
  have N1 := Fr.app N0 N1q
  have sz_bq1 : h0.size ≤ bq1 := Nat.le_trans ((Keep.refl h0 [a1])).1 q1z
  have g_bq1 : n0 ≤ bq1 := q1g
  have ne_a1_bq1 : a1 ≠ bq1 := Nat.ne_of_lt (Nat.lt_of_lt_of_le E_a1.lt q1z)
  have O1 := O0.keep K1q (allS g_a1 all0)
  have K1 := (Keep.refl h0 [a1]).trans K1q (allS (Or.inl (List.mem_of_getElem? (i := 0) rfl)) all0)
  have zk1 := (Nat.le_trans (Nat.zero_le _) K1q.1)
  refine og (B := T1.setTop (mkF m 6 #[rv a1] [])) (fun _ => st1.trans) ?_
  obtain ⟨fs, hr, hrun, hended, hW, hsame⟩ := X1.leave (v := none) (fun _ => rfl)
  refine ⟨_, _, ?_, hrun, hended, _, _, rfl, ?_, ⟨_, rfl⟩, hW, hsame.mono (by decide) (by decide)⟩
  · show own_S p e below T1 (mkF m 6 #[rv a1] []) _
    exact X1.returnOut hx Bd.returns (hb hby d9_6) hr
  · show Q9 Z a1 GC h0 n0 _ T1.heap _
    exact ⟨rfl, N1, bq1, kq1, K1, sz_bq1, g_bq1, E1q, F1v, F1c, F1n, V1q⟩
theorem pn_15 : plainName "java/lang/AbstractStringBuilder" = true := by first | (simp [plainName, overriddenIn]; done) | decide +kernel
theorem d15_0 : decode jdk_68_method_9_code 0 = .ok (.aload_n 0, 1) := by decide +kernel
theorem d15_1 : decode jdk_68_method_9_code 1 = .ok (.getfield 15, 3) := by decide +kernel
theorem d15_4 : decode jdk_68_method_9_code 4 = .ok (.arraylength, 1) := by decide +kernel
theorem d15_5 : decode jdk_68_method_9_code 5 = .ok (.aload_n 0, 1) := by decide +kernel
theorem d15_6 : decode jdk_68_method_9_code 6 = .ok (.getfield 22, 3) := by decide +kernel
theorem d15_9 : decode jdk_68_method_9_code 9 = .ok (.ishr, 1) := by decide +kernel
theorem d15_10 : decode jdk_68_method_9_code 10 = .ok (.istore_n 2, 1) := by decide +kernel
theorem d15_11 : decode jdk_68_method_9_code 11 = .ok (.iload_n 1, 1) := by decide +kernel
theorem d15_12 : decode jdk_68_method_9_code 12 = .ok (.iload_n 2, 1) := by decide +kernel
theorem d15_13 : decode jdk_68_method_9_code 13 = .ok (.isub, 1) := by decide +kernel
theorem d15_14 : decode jdk_68_method_9_code 14 = .ok (.ifCond .le 24, 3) := by decide +kernel
theorem d15_38 : decode jdk_68_method_9_code 38 = .ok (.return_, 1) := by decide +kernel
theorem ef_15 (m : MethodId) (x0 : Addr) (x1 : Int32) : entryFrame m #[(.ref x0), (.int x1)] 3 = mkF m 0 #[.val (.ref x0), .val (.int x1), .unset] [] := by first | (simp [entryFrame, mkF, argsToLocals, Value.category]; done) | rfl
def Q15 (Z : State) (a1 : Addr) (p2 : Int32) (sbv : Addr) (kv : ClassId) (dl : List Value) (h0 : Heap) (n0 : Nat) (v : Option Value) (h : Heap) (L : List Loc) : Prop := v = none ∧ Fr n0 L ∧ h = h0
set_option maxRecDepth 65536 in
set_option maxHeartbeats 40000000 in
theorem rm15 (l : Launch) (Z : State) (a0 : Array Value) (hw : ∀ d ∈ tables_1, d.before a0 Z = true) (ws : List Jvm.Cond) (a1 : Addr) (p2 : Int32) (sbv : Addr) (kv : ClassId) (dl : List Value) (h0 : Heap) (n0 : Nat) (Z0 : n0 ≤ h0.size) (F_v1 : Fld Z h0 a1 "java/lang/AbstractStringBuilder" "value" "[B" (.ref sbv)) (F_c1 : Fld Z h0 a1 "java/lang/AbstractStringBuilder" "coder" "B" (.int 0)) (V_v : Arv Z h0 sbv kv .byte (16 : Int32) dl (.int 0)) (hcap : ¬ (0 : Int32) < (p2 - (16 : Int32))) :
    MetFree l own_y15 (head1 (Jvm.Cond.code own_y15 jdk_68_method_9_code 3 none :: ws) ({ frames := 0, cells := 0, slots := 0, locals := 0 } : Room)) (fun a U => a = #[(.ref a1), (.int p2)] ∧ Z.Warmed39 U.vm ∧ U.heap = h0) (fun _ _ _ _ _ => True) (fun _ U o U' => ∃ v L, o = .returned v ∧ Q15 Z a1 p2 sbv kv dl h0 n0 v U'.heap L ∧ FrameEnd U o U' L ({ frames := 0, cells := 0, slots := 0, locals := 0 } : Room).cells ({ frames := 0, cells := 0, slots := 0, locals := 0 } : Room).slots) := by
  refine MetFree.of_bodySF (plainFor_of_name pn_15) hisR ?_
  intro p e s m args below meth c s₁ Bd hml0 hP hK
  obtain ⟨rfl, hZ, hh⟩ := hP
  have hx := Bd.exec
  have hby := Bd.bytes
  have hml : c.maxLocals = 3 := hml0
  have hown : s.vm.findClass "java/lang/AbstractStringBuilder" = some m.cls := findClass_of_methodNamed Bd.named
  have hnm := (name_of_methodNamed Bd.named Bd.method).1
  have X0 : Stand p l e ({ frames := 0, cells := 0, slots := 0, locals := 0 } : Room) s m #[(.ref a1), (.int p2)] below meth c s₁ [] 0 0 := Stand.of_body Bd
  have e0 : s₁.heap = h0 := by rw [← hh, Bd.state]; rfl
  have N0 := Fr.nil n0
  refine og (B := s₁.setTop (mkF m 0 #[rv a1, iv p2, .unset] [])) (fun t k => castTop (ef_15 m a1 p2) k) ?_
  refine og (B := s₁.setTop (mkF m 1 #[rv a1, iv p2, .unset] [(.ref a1)])) (fun t k => ?_) ?_
  · refine XS.aloadN X0.here hx rfl (hb hby d15_0) rfl rfl ?_
    exact k
  obtain ⟨T1, X1, e1, st1⟩ := getF X0 hx hZ hown (host := "") (Or.inl (ow hw 55 rfl)) Via.refl e0 F_v1 (g := (mkF m 1 #[rv a1, iv p2, .unset] [(.ref a1)])) rfl rfl (hb hby d15_1)
  refine og (B := T1.setTop (mkF m 4 #[rv a1, iv p2, .unset] [(.ref sbv)])) st1 ?_
  obtain ⟨cl2, Ar2, qk2, S2, M2, H2, G2⟩ := id V_v
  refine og (B := T1.setTop (mkF m 6 #[rv a1, iv p2, .unset] [(.ref a1), (.int 16)])) (fun t k => ?_) ?_
  · refine X1.arraylength hx (by rw [e1]; exact Ar2.1) (State.isArrayOf_alike hZ.alike Ar2.2.1) (g := (mkF m 4 #[rv a1, iv p2, .unset] [(.ref sbv)])) rfl rfl (hb hby d15_4) _ ?_
    rw [len_of S2 M2]
    refine XS.aloadN X1.here hx rfl (hb hby d15_5) rfl rfl ?_
    exact k
  obtain ⟨T3, X3, e3, st3⟩ := getF X1 hx hZ hown (host := "") (Or.inl (ow hw 57 rfl)) Via.refl e1 F_c1 (g := (mkF m 6 #[rv a1, iv p2, .unset] [(.ref a1), (.int 16)])) rfl rfl (hb hby d15_6)
  refine og (B := T3.setTop (mkF m 9 #[rv a1, iv p2, .unset] [(.int 0), (.int 16)])) st3 ?_
  obtain ⟨fs, hr, hrun, hended, hW, hsame⟩ := X3.leave (v := none) (fun _ => rfl)
  refine ⟨_, _, ?_, hrun, hended, _, _, rfl, ?_, ⟨_, rfl⟩, hW, hsame.mono (by decide) (by decide)⟩
  · refine XS.ishr X3.here hx rfl (hb hby d15_9) rfl ?_
    refine XS.istoreN X3.here hx rfl (hb hby d15_10) rfl (l' := #[rv a1, iv p2, iv 16]) rfl ?_
    refine XS.iloadN X3.here hx rfl (hb hby d15_11) rfl ?_
    refine XS.iloadN X3.here hx rfl (hb hby d15_12) rfl ?_
    refine XS.isub X3.here hx rfl (hb hby d15_13) rfl ?_
    refine XS.ifYes X3.here hx rfl (pc0 := 14) (pc' := 38) rfl (hb hby d15_14) rfl ((if0 _ _).trans (flt hcap).2.2.2) (by decide) (by decide) ?_
    show own_S p e below T3 (mkF m 38 #[rv a1, iv p2, iv 16] []) _
    exact X3.returnOut hx Bd.returns (hb hby d15_38) hr
  · show Q15 Z a1 p2 sbv kv dl h0 n0 _ T3.heap _
    rw [e3]
    exact ⟨rfl, N0, rfl⟩
theorem pn_17 : plainName "java/lang/AbstractStringBuilder" = true := by first | (simp [plainName, overriddenIn]; done) | decide +kernel
theorem d17_0 : decode jdk_68_method_71_code 0 = .ok (.getstatic 18, 3) := by decide +kernel
theorem d17_3 : decode jdk_68_method_71_code 3 = .ok (.ifCond .eq 18, 3) := by decide +kernel
theorem d17_6 : decode jdk_68_method_71_code 6 = .ok (.aload_n 0, 1) := by decide +kernel
theorem d17_7 : decode jdk_68_method_71_code 7 = .ok (.getfield 22, 3) := by decide +kernel
theorem d17_10 : decode jdk_68_method_71_code 10 = .ok (.aload_n 1, 1) := by decide +kernel
theorem d17_11 : decode jdk_68_method_71_code 11 = .ok (.invokevirtual 40, 3) := by decide +kernel
theorem d17_14 : decode jdk_68_method_71_code 14 = .ok (.if_icmp .eq 7, 3) := by decide +kernel
theorem d17_21 : decode jdk_68_method_71_code 21 = .ok (.return_, 1) := by decide +kernel
theorem ef_17 (m : MethodId) (x0 : Addr) (x1 : Addr) : entryFrame m #[(.ref x0), (.ref x1)] 2 = mkF m 0 #[.val (.ref x0), .val (.ref x1)] [] := by first | (simp [entryFrame, mkF, argsToLocals, Value.category]; done) | rfl
def Q17 (Z : State) (a1 : Addr) (a2 : Addr) (GC : Int32) (h0 : Heap) (n0 : Nat) (v : Option Value) (h : Heap) (L : List Loc) : Prop := v = none ∧ Fr n0 L ∧ h = h0
set_option maxRecDepth 65536 in
set_option maxHeartbeats 40000000 in
theorem rm17 (l : Launch) (Z : State) (a0 : Array Value) (hw : ∀ d ∈ tables_1, d.before a0 Z = true) (ws : List Jvm.Cond) (a1 : Addr) (a2 : Addr) (GC : Int32) (h0 : Heap) (n0 : Nat) (Z0 : n0 ≤ h0.size) (S_C : Sta Z Z.heap "java/lang/String" "COMPACT_STRINGS" "Z" (.int GC)) (hGC : ¬ GC = (0 : Int32)) (O0 : Old Z n0 h0) (F_c1 : Fld Z h0 a1 "java/lang/AbstractStringBuilder" "coder" "B" (.int 0)) (E_a2 : Exa Z h0 a2 "java/lang/String") (F_c2 : Fld Z h0 a2 "java/lang/String" "coder" "B" (.int 0)) :
    MetFree l own_y16 (head1 (Jvm.Cond.code own_y16 jdk_68_method_71_code 2 none :: ws) ({ frames := 1, cells := 0, slots := 0, locals := 13 } : Room)) (fun a U => a = #[(.ref a1), (.ref a2)] ∧ Z.Warmed39 U.vm ∧ U.heap = h0) (fun _ _ _ _ _ => True) (fun _ U o U' => ∃ v L, o = .returned v ∧ Q17 Z a1 a2 GC h0 n0 v U'.heap L ∧ FrameEnd U o U' L ({ frames := 1, cells := 0, slots := 0, locals := 13 } : Room).cells ({ frames := 1, cells := 0, slots := 0, locals := 13 } : Room).slots) := by
  refine MetFree.of_bodySF (plainFor_of_name pn_17) hisR ?_
  intro p e s m args below meth c s₁ Bd hml0 hP hK
  obtain ⟨rfl, hZ, hh⟩ := hP
  have hx := Bd.exec
  have hby := Bd.bytes
  have hml : c.maxLocals = 2 := hml0
  have hown : s.vm.findClass "java/lang/AbstractStringBuilder" = some m.cls := findClass_of_methodNamed Bd.named
  have hnm := (name_of_methodNamed Bd.named Bd.method).1
  have X0 : Stand p l e ({ frames := 1, cells := 0, slots := 0, locals := 13 } : Room) s m #[(.ref a1), (.ref a2)] below meth c s₁ [] 0 0 := Stand.of_body Bd
  have e0 : s₁.heap = h0 := by rw [← hh, Bd.state]; rfl
  have N0 := Fr.nil n0
  refine og (B := s₁.setTop (mkF m 0 #[rv a1, rv a2] [])) (fun t k => castTop (ef_17 m a1 a2) k) ?_
  obtain ⟨T1, X1, e1, st1⟩ := getS2 X0 hx hZ hown (host := "") (Or.inl (ow hw 54 rfl)) Via.refl e0 (S_C.ext O0.2) (g := (mkF m 0 #[rv a1, rv a2] [])) rfl (hb hby d17_0)
  refine og (B := T1.setTop (mkF m 3 #[rv a1, rv a2] [(.int GC)])) st1 ?_
  refine og (B := T1.setTop (mkF m 7 #[rv a1, rv a2] [(.ref a1)])) (fun t k => ?_) ?_
  · refine XS.ifNo X1.here hx rfl (hb hby d17_3) rfl ((if0 _ _).trans (feq hGC).1) ?_
    refine XS.aloadN X1.here hx rfl (hb hby d17_6) rfl rfl ?_
    exact k
  obtain ⟨T2, X2, e2, st2⟩ := getF X1 hx hZ hown (host := "") (Or.inl (ow hw 57 rfl)) Via.refl e1 F_c1 (g := (mkF m 7 #[rv a1, rv a2] [(.ref a1)])) rfl rfl (hb hby d17_7)
  refine og (B := T2.setTop (mkF m 10 #[rv a1, rv a2] [(.int 0)])) st2 ?_
  refine og (B := T2.setTop (mkF m 11 #[rv a1, rv a2] [(.ref a2), (.int 0)])) (fun t k => ?_) ?_
  · refine XS.aloadN X2.here hx rfl (hb hby d17_10) rfl rfl ?_
    exact k
  obtain ⟨cq3, kq3, q3a, q3b, q3c⟩ := isOf hZ e2 E_a2
  obtain ⟨_, _, ⟨T3, L3, k3, n3⟩, -, X3, ⟨Lc3, hQ3, l3, y3, z3⟩, st3⟩ := X2.virtualBack hx (y := own_y1) (z := own_y1) hown (mvT hZ (ow hw 96 rfl)) (mvT hZ (ow hw 75 rfl)) (notFace_of_selects (args := #[]) (mvT hZ (ow hw 77 rfl))) (mvT hZ (ow hw 77 rfl)) (mvT hZ (ow hw 76 rfl)) (by decide) (backOf (W := 1) (rm14 l Z a0 hw [] a2 GC h0 n0 Z0 S_C hGC O0 F_c2) hZ (ow hw 78 rfl) (ow hw 2 rfl) (by decide) (by decide)) q3a q3c (g := (mkF m 11 #[rv a1, rv a2] [(.ref a2), (.int 0)])) rfl (by rw [hml]; rfl) (Steps.refl _) (argsL := []) (rest := [(.int 0)]) (lenOf own_pd0 rfl) rfl (Nat.le_refl _) (hb hby d17_11) (fun _ _ => ⟨rfl, e2, (by decide : 0 + 0 ≤ _), (by decide : 0 + 0 ≤ _)⟩)
  dsimp only [Pt.U, Pt.locs, Pt.cells, Pt.slots] at X3 l3 y3 z3 st3 hQ3
  subst l3 y3 z3
  obtain ⟨rfl, N3q, eq3⟩ := hQ3
  have N3 := Fr.app N0 N3q
  refine og (B := T3.setTop (mkF m 14 #[rv a1, rv a2] [(.int 0), (.int 0)])) (fun _ => st3.trans) ?_
  obtain ⟨fs, hr, hrun, hended, hW, hsame⟩ := X3.leave (v := none) (fun _ => rfl)
  refine ⟨_, _, ?_, hrun, hended, _, _, rfl, ?_, ⟨_, rfl⟩, hW, hsame.mono (by decide) (by decide)⟩
  · refine XS.icmpYes X3.here hx rfl (pc0 := 14) (pc' := 21) rfl (hb hby d17_14) rfl (teq (by decide)).1 (by decide) (by decide) ?_
    show own_S p e below T3 (mkF m 21 #[rv a1, rv a2] []) _
    exact X3.returnOut hx Bd.returns (hb hby d17_21) hr
  · show Q17 Z a1 a2 GC h0 n0 _ T3.heap _
    rw [eq3]
    exact ⟨rfl, N3, rfl⟩
theorem pn_18 : plainName "java/lang/String" = true := by first | (simp [plainName, overriddenIn]; done) | decide +kernel
theorem d18_0 : decode jdk_42_method_147_code 0 = .ok (.aload_n 0, 1) := by decide +kernel
theorem d18_1 : decode jdk_42_method_147_code 1 = .ok (.invokevirtual 335, 3) := by decide +kernel
theorem d18_4 : decode jdk_42_method_147_code 4 = .ok (.iload_n 3, 1) := by decide +kernel
theorem d18_5 : decode jdk_42_method_147_code 5 = .ok (.if_icmp .ne 23, 3) := by decide +kernel
theorem d18_8 : decode jdk_42_method_147_code 8 = .ok (.aload_n 0, 1) := by decide +kernel
theorem d18_9 : decode jdk_42_method_147_code 9 = .ok (.getfield 9, 3) := by decide +kernel
theorem d18_12 : decode jdk_42_method_147_code 12 = .ok (.iconst 0, 1) := by decide +kernel
theorem d18_13 : decode jdk_42_method_147_code 13 = .ok (.aload_n 1, 1) := by decide +kernel
theorem d18_14 : decode jdk_42_method_147_code 14 = .ok (.iload_n 2, 1) := by decide +kernel
theorem d18_15 : decode jdk_42_method_147_code 15 = .ok (.iload_n 3, 1) := by decide +kernel
theorem d18_16 : decode jdk_42_method_147_code 16 = .ok (.ishl, 1) := by decide +kernel
theorem d18_17 : decode jdk_42_method_147_code 17 = .ok (.aload_n 0, 1) := by decide +kernel
theorem d18_18 : decode jdk_42_method_147_code 18 = .ok (.getfield 9, 3) := by decide +kernel
theorem d18_21 : decode jdk_42_method_147_code 21 = .ok (.arraylength, 1) := by decide +kernel
theorem d18_22 : decode jdk_42_method_147_code 22 = .ok (.invokestatic 212, 3) := by decide +kernel
theorem d18_25 : decode jdk_42_method_147_code 25 = .ok (.goto 18, 3) := by decide +kernel
theorem d18_43 : decode jdk_42_method_147_code 43 = .ok (.return_, 1) := by decide +kernel
theorem ef_18 (m : MethodId) (x0 : Addr) (x1 : Addr) (x2 : Int32) (x3 : Int32) : entryFrame m #[(.ref x0), (.ref x1), (.int x2), (.int x3)] 4 = mkF m 0 #[.val (.ref x0), .val (.ref x1), .val (.int x2), .val (.int x3)] [] := by first | (simp [entryFrame, mkF, argsToLocals, Value.category]; done) | rfl
def Q18_0_2 (Z : State) (a2 : Addr) (sbv : Addr) (sb2 : Addr) (kv : ClassId) (kb : ClassId) (x0 : Int32) (x1 : Int32) (GC : Int32) (h0 : Heap) (n0 : Nat) (v : Option Value) (h : Heap) (L : List Loc) : Prop := v = none ∧ Fr n0 L ∧ Keep h0 h [sbv] ∧ Arv Z h sbv kv .byte (16 : Int32) [(.int x0), (.int x1), (.int 0), (.int 0), (.int 0), (.int 0), (.int 0), (.int 0), (.int 0), (.int 0), (.int 0), (.int 0), (.int 0), (.int 0), (.int 0), (.int 0)] (.int 0)
set_option maxRecDepth 65536 in
set_option maxHeartbeats 40000000 in
theorem rm18_0_2 (l : Launch) (Z : State) (a0 : Array Value) (hw : ∀ d ∈ tables_1, d.before a0 Z = true) (ws : List Jvm.Cond) (a2 : Addr) (sbv : Addr) (sb2 : Addr) (kv : ClassId) (kb : ClassId) (x0 : Int32) (x1 : Int32) (GC : Int32) (h0 : Heap) (n0 : Nat) (Z0 : n0 ≤ h0.size) (S_C : Sta Z Z.heap "java/lang/String" "COMPACT_STRINGS" "Z" (.int GC)) (hGC : ¬ GC = (0 : Int32)) (O0 : Old Z n0 h0) (V_v : Arv Z h0 sbv kv .byte (16 : Int32) [(.int 0), (.int 0), (.int 0), (.int 0), (.int 0), (.int 0), (.int 0), (.int 0), (.int 0), (.int 0), (.int 0), (.int 0), (.int 0), (.int 0), (.int 0), (.int 0)] (.int 0)) (g_v : n0 ≤ sbv) (E_a2 : Exa Z h0 a2 "java/lang/String") (F_c2 : Fld Z h0 a2 "java/lang/String" "coder" "B" (.int 0)) (F_v2 : Fld Z h0 a2 "java/lang/String" "value" "[B" (.ref sb2)) (V_2 : Arv Z h0 sb2 kb .byte (2 : Int32) [(.int x0), (.int x1)] (.int 0)) (n_2v : a2 ≠ sbv) (n_bv : sb2 ≠ sbv) :
    MetFree l own_y17 (head1 (Jvm.Cond.code own_y17 jdk_42_method_147_code 4 none :: ws) ({ frames := 1, cells := 0, slots := 0, locals := 18 } : Room)) (fun a U => a = #[(.ref a2), (.ref sbv), (.int 0), (.int 0)] ∧ Z.Warmed39 U.vm ∧ U.heap = h0) (fun _ _ _ _ _ => True) (fun _ U o U' => ∃ v L, o = .returned v ∧ Q18_0_2 Z a2 sbv sb2 kv kb x0 x1 GC h0 n0 v U'.heap L ∧ FrameEnd U o U' L ({ frames := 1, cells := 0, slots := 0, locals := 18 } : Room).cells ({ frames := 1, cells := 0, slots := 0, locals := 18 } : Room).slots) := by
  refine MetFree.of_bodySF (plainFor_of_name pn_18) hisR ?_
  intro p e s m args below meth c s₁ Bd hml0 hP hK
  obtain ⟨rfl, hZ, hh⟩ := hP
  have hx := Bd.exec
  have hby := Bd.bytes
  have hml : c.maxLocals = 4 := hml0
  have hown : s.vm.findClass "java/lang/String" = some m.cls := findClass_of_methodNamed Bd.named
  have hnm := (name_of_methodNamed Bd.named Bd.method).1
  have X0 : Stand p l e ({ frames := 1, cells := 0, slots := 0, locals := 18 } : Room) s m #[(.ref a2), (.ref sbv), (.int 0), (.int 0)] below meth c s₁ [] 0 0 := Stand.of_body Bd
  have e0 : s₁.heap = h0 := by rw [← hh, Bd.state]; rfl
  have N0 := Fr.nil n0
  refine og (B := s₁.setTop (mkF m 0 #[rv a2, rv sbv, iv 0, iv 0] [])) (fun t k => castTop (ef_18 m a2 sbv (0 : Int32) (0 : Int32)) k) ?_
  have g_sbv := g_v
  refine og (B := s₁.setTop (mkF m 1 #[rv a2, rv sbv, iv 0, iv 0] [(.ref a2)])) (fun t k => ?_) ?_
  · refine XS.aloadN X0.here hx rfl (hb hby d18_0) rfl rfl ?_
    exact k
  obtain ⟨cq1, kq1, q1a, q1b, q1c⟩ := isOf hZ e0 E_a2
  obtain ⟨_, _, ⟨T1, L1, k1, n1⟩, -, X1, ⟨Lc1, hQ1, l1, y1, z1⟩, st1⟩ := X0.virtualBack hx (y := own_y1) (z := own_y1) hown (mvT hZ (ow hw 74 rfl)) (mvT hZ (ow hw 75 rfl)) (notFace_of_selects (args := #[]) (mvT hZ (ow hw 77 rfl))) (mvT hZ (ow hw 77 rfl)) (mvT hZ (ow hw 76 rfl)) (by decide) (backOf (W := 0) (rm14 l Z a0 hw [] a2 GC h0 n0 Z0 S_C hGC O0 F_c2) hZ (ow hw 78 rfl) (ow hw 2 rfl) (by decide) (by decide)) q1a q1c (g := (mkF m 1 #[rv a2, rv sbv, iv 0, iv 0] [(.ref a2)])) rfl (by rw [hml]; rfl) (Steps.refl _) (argsL := []) (rest := []) (lenOf own_pd0 rfl) rfl (Nat.le_refl _) (hb hby d18_1) (fun _ _ => ⟨rfl, e0, (by decide : 0 + 0 ≤ _), (by decide : 0 + 0 ≤ _)⟩)
  dsimp only [Pt.U, Pt.locs, Pt.cells, Pt.slots] at X1 l1 y1 z1 st1 hQ1
  subst l1 y1 z1
  obtain ⟨rfl, N1q, eq1⟩ := hQ1
  have N1 := Fr.app N0 N1q
  refine og (B := T1.setTop (mkF m 4 #[rv a2, rv sbv, iv 0, iv 0] [(.int 0)])) (fun _ => st1.trans) ?_
  refine og (B := T1.setTop (mkF m 9 #[rv a2, rv sbv, iv 0, iv 0] [(.ref a2)])) (fun t k => ?_) ?_
  · refine XS.iloadN X1.here hx rfl (hb hby d18_4) rfl ?_
    refine XS.icmpNo X1.here hx rfl (hb hby d18_5) rfl (teq (by decide)).2 ?_
    refine XS.aloadN X1.here hx rfl (hb hby d18_8) rfl rfl ?_
    exact k
  obtain ⟨T2, X2, e2, st2⟩ := getF X1 hx hZ hown (host := "") (Or.inl (ow hw 28 rfl)) Via.refl eq1 F_v2 (g := (mkF m 9 #[rv a2, rv sbv, iv 0, iv 0] [(.ref a2)])) rfl rfl (hb hby d18_9)
  refine og (B := T2.setTop (mkF m 12 #[rv a2, rv sbv, iv 0, iv 0] [(.ref sb2)])) st2 ?_
  refine og (B := T2.setTop (mkF m 18 #[rv a2, rv sbv, iv 0, iv 0] [(.ref a2), (.int 0), (.ref sbv), (.int 0), (.ref sb2)])) (fun t k => ?_) ?_
  · refine XS.iconst X2.here hx rfl (hb hby d18_12) ?_
    refine XS.aloadN X2.here hx rfl (hb hby d18_13) rfl rfl ?_
    refine XS.iloadN X2.here hx rfl (hb hby d18_14) rfl ?_
    refine XS.iloadN X2.here hx rfl (hb hby d18_15) rfl ?_
    refine XS.ishl X2.here hx rfl (hb hby d18_16) rfl ?_
    refine XS.aloadN X2.here hx rfl (hb hby d18_17) rfl rfl ?_
    exact k
  obtain ⟨T3, X3, e3, st3⟩ := getF X2 hx hZ hown (host := "") (Or.inl (ow hw 28 rfl)) Via.refl e2 F_v2 (g := (mkF m 18 #[rv a2, rv sbv, iv 0, iv 0] [(.ref a2), (.int 0), (.ref sbv), (.int 0), (.ref sb2)])) rfl rfl (hb hby d18_18)
  refine og (B := T3.setTop (mkF m 21 #[rv a2, rv sbv, iv 0, iv 0] [(.ref sb2), (.int 0), (.ref sbv), (.int 0), (.ref sb2)])) st3 ?_
  obtain ⟨cl4, Ar4, qk4, S4, M4, H4, G4⟩ := id V_2
  refine og (B := T3.setTop (mkF m 22 #[rv a2, rv sbv, iv 0, iv 0] [(.int 2), (.int 0), (.ref sbv), (.int 0), (.ref sb2)])) (fun t k => ?_) ?_
  · refine X3.arraylength hx (by rw [e3]; exact Ar4.1) (State.isArrayOf_alike hZ.alike Ar4.2.1) (g := (mkF m 21 #[rv a2, rv sbv, iv 0, iv 0] [(.ref sb2), (.int 0), (.ref sbv), (.int 0), (.ref sb2)])) rfl rfl (hb hby d18_21) _ ?_
    rw [len_of S4 M4]
    exact k
  obtain ⟨T5, h5, L5, X5, e5, N5, K5q, V5q, st5⟩ := cpA X3 hx hZ hown (ow hw 102 rfl) (ow hw 105 rfl) (ow hw 103 rfl) (ow hw 104 rfl) e3 V_2 V_v (us := [(.int x0), (.int x1)]) (Or.inl ⟨rfl, rfl⟩) (by decide) (by decide) (by decide) (by decide) (by decide) rfl (Nat.le_of_ble_eq_true rfl) N1 g_sbv (g := (mkF m 22 #[rv a2, rv sbv, iv 0, iv 0] [(.int 2), (.int 0), (.ref sbv), (.int 0), (.ref sb2)])) rfl (by rw [hml]; rfl) (rest := []) rfl (hb hby d18_22) (by decide) (W := 0) (Nat.le_refl _) (by decide)
  have V5 : Arv Z h5 sbv kv .byte (16 : Int32) [(.int x0), (.int x1), (.int 0), (.int 0), (.int 0), (.int 0), (.int 0), (.int 0), (.int 0), (.int 0), (.int 0), (.int 0), (.int 0), (.int 0), (.int 0), (.int 0)] (.int 0) := V5q
  have c5_E_a2 := E_a2.keep K5q
  have c5_F_a2_coder := F_c2.keep K5q (fun q => n_2v (List.mem_singleton.mp q))
  have c5_F_a2_value := F_v2.keep K5q (fun q => n_2v (List.mem_singleton.mp q))
  have c5_V_sb2 := V_2.keep K5q (fun q => n_bv (List.mem_singleton.mp q))
  have O5 := O0.keep K5q (allS g_sbv all0)
  have K5 := (Keep.refl h0 [sbv]).trans K5q (allS (Or.inl (List.mem_of_getElem? (i := 0) rfl)) all0)
  have zk5 := (Nat.le_trans (Nat.zero_le _) K5q.1)
  refine og (B := T5.setTop (mkF m 25 #[rv a2, rv sbv, iv 0, iv 0] [])) st5 ?_
  obtain ⟨fs, hr, hrun, hended, hW, hsame⟩ := X5.leave (v := none) (fun _ => rfl)
  refine ⟨_, _, ?_, hrun, hended, _, _, rfl, ?_, ⟨_, rfl⟩, hW, hsame.mono (by decide) (by decide)⟩
  · refine XS.goto X5.here hx rfl (pc0 := 25) (pc' := 43) rfl (hb hby d18_25) (by decide) (by decide) ?_
    show own_S p e below T5 (mkF m 43 #[rv a2, rv sbv, iv 0, iv 0] []) _
    exact X5.returnOut hx Bd.returns (hb hby d18_43) hr
  · show Q18_0_2 Z a2 sbv sb2 kv kb x0 x1 GC h0 n0 _ T5.heap _
    rw [e5]
    exact ⟨rfl, N5, K5, V5⟩
def Q18_2_0 (Z : State) (a2 : Addr) (sbv : Addr) (sb2 : Addr) (kv : ClassId) (kb : ClassId) (d0 : Int32) (d1 : Int32) (GC : Int32) (h0 : Heap) (n0 : Nat) (v : Option Value) (h : Heap) (L : List Loc) : Prop := v = none ∧ Fr n0 L ∧ Keep h0 h [sbv] ∧ Arv Z h sbv kv .byte (16 : Int32) [(.int d0), (.int d1), (.int 0), (.int 0), (.int 0), (.int 0), (.int 0), (.int 0), (.int 0), (.int 0), (.int 0), (.int 0), (.int 0), (.int 0), (.int 0), (.int 0)] (.int 0)
set_option maxRecDepth 65536 in
set_option maxHeartbeats 40000000 in
theorem rm18_2_0 (l : Launch) (Z : State) (a0 : Array Value) (hw : ∀ d ∈ tables_1, d.before a0 Z = true) (ws : List Jvm.Cond) (a2 : Addr) (sbv : Addr) (sb2 : Addr) (kv : ClassId) (kb : ClassId) (d0 : Int32) (d1 : Int32) (GC : Int32) (h0 : Heap) (n0 : Nat) (Z0 : n0 ≤ h0.size) (S_C : Sta Z Z.heap "java/lang/String" "COMPACT_STRINGS" "Z" (.int GC)) (hGC : ¬ GC = (0 : Int32)) (O0 : Old Z n0 h0) (V_v : Arv Z h0 sbv kv .byte (16 : Int32) [(.int d0), (.int d1), (.int 0), (.int 0), (.int 0), (.int 0), (.int 0), (.int 0), (.int 0), (.int 0), (.int 0), (.int 0), (.int 0), (.int 0), (.int 0), (.int 0)] (.int 0)) (g_v : n0 ≤ sbv) (E_a2 : Exa Z h0 a2 "java/lang/String") (F_c2 : Fld Z h0 a2 "java/lang/String" "coder" "B" (.int 0)) (F_v2 : Fld Z h0 a2 "java/lang/String" "value" "[B" (.ref sb2)) (V_2 : Arv Z h0 sb2 kb .byte (0 : Int32) [] (.int 0)) (n_2v : a2 ≠ sbv) (n_bv : sb2 ≠ sbv) :
    MetFree l own_y17 (head1 (Jvm.Cond.code own_y17 jdk_42_method_147_code 4 none :: ws) ({ frames := 1, cells := 0, slots := 0, locals := 18 } : Room)) (fun a U => a = #[(.ref a2), (.ref sbv), (.int 2), (.int 0)] ∧ Z.Warmed39 U.vm ∧ U.heap = h0) (fun _ _ _ _ _ => True) (fun _ U o U' => ∃ v L, o = .returned v ∧ Q18_2_0 Z a2 sbv sb2 kv kb d0 d1 GC h0 n0 v U'.heap L ∧ FrameEnd U o U' L ({ frames := 1, cells := 0, slots := 0, locals := 18 } : Room).cells ({ frames := 1, cells := 0, slots := 0, locals := 18 } : Room).slots) := by
  refine MetFree.of_bodySF (plainFor_of_name pn_18) hisR ?_
  intro p e s m args below meth c s₁ Bd hml0 hP hK
  obtain ⟨rfl, hZ, hh⟩ := hP
  have hx := Bd.exec
  have hby := Bd.bytes
  have hml : c.maxLocals = 4 := hml0
  have hown : s.vm.findClass "java/lang/String" = some m.cls := findClass_of_methodNamed Bd.named
  have hnm := (name_of_methodNamed Bd.named Bd.method).1
  have X0 : Stand p l e ({ frames := 1, cells := 0, slots := 0, locals := 18 } : Room) s m #[(.ref a2), (.ref sbv), (.int 2), (.int 0)] below meth c s₁ [] 0 0 := Stand.of_body Bd
  have e0 : s₁.heap = h0 := by rw [← hh, Bd.state]; rfl
  have N0 := Fr.nil n0
  refine og (B := s₁.setTop (mkF m 0 #[rv a2, rv sbv, iv 2, iv 0] [])) (fun t k => castTop (ef_18 m a2 sbv (2 : Int32) (0 : Int32)) k) ?_
  have g_sbv := g_v
  refine og (B := s₁.setTop (mkF m 1 #[rv a2, rv sbv, iv 2, iv 0] [(.ref a2)])) (fun t k => ?_) ?_
  · refine XS.aloadN X0.here hx rfl (hb hby d18_0) rfl rfl ?_
    exact k
  obtain ⟨cq1, kq1, q1a, q1b, q1c⟩ := isOf hZ e0 E_a2
  obtain ⟨_, _, ⟨T1, L1, k1, n1⟩, -, X1, ⟨Lc1, hQ1, l1, y1, z1⟩, st1⟩ := X0.virtualBack hx (y := own_y1) (z := own_y1) hown (mvT hZ (ow hw 74 rfl)) (mvT hZ (ow hw 75 rfl)) (notFace_of_selects (args := #[]) (mvT hZ (ow hw 77 rfl))) (mvT hZ (ow hw 77 rfl)) (mvT hZ (ow hw 76 rfl)) (by decide) (backOf (W := 0) (rm14 l Z a0 hw [] a2 GC h0 n0 Z0 S_C hGC O0 F_c2) hZ (ow hw 78 rfl) (ow hw 2 rfl) (by decide) (by decide)) q1a q1c (g := (mkF m 1 #[rv a2, rv sbv, iv 2, iv 0] [(.ref a2)])) rfl (by rw [hml]; rfl) (Steps.refl _) (argsL := []) (rest := []) (lenOf own_pd0 rfl) rfl (Nat.le_refl _) (hb hby d18_1) (fun _ _ => ⟨rfl, e0, (by decide : 0 + 0 ≤ _), (by decide : 0 + 0 ≤ _)⟩)
  dsimp only [Pt.U, Pt.locs, Pt.cells, Pt.slots] at X1 l1 y1 z1 st1 hQ1
  subst l1 y1 z1
  obtain ⟨rfl, N1q, eq1⟩ := hQ1
  have N1 := Fr.app N0 N1q
  refine og (B := T1.setTop (mkF m 4 #[rv a2, rv sbv, iv 2, iv 0] [(.int 0)])) (fun _ => st1.trans) ?_
  refine og (B := T1.setTop (mkF m 9 #[rv a2, rv sbv, iv 2, iv 0] [(.ref a2)])) (fun t k => ?_) ?_
  · refine XS.iloadN X1.here hx rfl (hb hby d18_4) rfl ?_
    refine XS.icmpNo X1.here hx rfl (hb hby d18_5) rfl (teq (by decide)).2 ?_
    refine XS.aloadN X1.here hx rfl (hb hby d18_8) rfl rfl ?_
    exact k
  obtain ⟨T2, X2, e2, st2⟩ := getF X1 hx hZ hown (host := "") (Or.inl (ow hw 28 rfl)) Via.refl eq1 F_v2 (g := (mkF m 9 #[rv a2, rv sbv, iv 2, iv 0] [(.ref a2)])) rfl rfl (hb hby d18_9)
  refine og (B := T2.setTop (mkF m 12 #[rv a2, rv sbv, iv 2, iv 0] [(.ref sb2)])) st2 ?_
  refine og (B := T2.setTop (mkF m 18 #[rv a2, rv sbv, iv 2, iv 0] [(.ref a2), (.int 2), (.ref sbv), (.int 0), (.ref sb2)])) (fun t k => ?_) ?_
  · refine XS.iconst X2.here hx rfl (hb hby d18_12) ?_
    refine XS.aloadN X2.here hx rfl (hb hby d18_13) rfl rfl ?_
    refine XS.iloadN X2.here hx rfl (hb hby d18_14) rfl ?_
    refine XS.iloadN X2.here hx rfl (hb hby d18_15) rfl ?_
    refine XS.ishl X2.here hx rfl (hb hby d18_16) rfl ?_
    refine XS.aloadN X2.here hx rfl (hb hby d18_17) rfl rfl ?_
    exact k
  obtain ⟨T3, X3, e3, st3⟩ := getF X2 hx hZ hown (host := "") (Or.inl (ow hw 28 rfl)) Via.refl e2 F_v2 (g := (mkF m 18 #[rv a2, rv sbv, iv 2, iv 0] [(.ref a2), (.int 2), (.ref sbv), (.int 0), (.ref sb2)])) rfl rfl (hb hby d18_18)
  refine og (B := T3.setTop (mkF m 21 #[rv a2, rv sbv, iv 2, iv 0] [(.ref sb2), (.int 2), (.ref sbv), (.int 0), (.ref sb2)])) st3 ?_
  obtain ⟨cl4, Ar4, qk4, S4, M4, H4, G4⟩ := id V_2
  refine og (B := T3.setTop (mkF m 22 #[rv a2, rv sbv, iv 2, iv 0] [(.int 0), (.int 2), (.ref sbv), (.int 0), (.ref sb2)])) (fun t k => ?_) ?_
  · refine X3.arraylength hx (by rw [e3]; exact Ar4.1) (State.isArrayOf_alike hZ.alike Ar4.2.1) (g := (mkF m 21 #[rv a2, rv sbv, iv 2, iv 0] [(.ref sb2), (.int 2), (.ref sbv), (.int 0), (.ref sb2)])) rfl rfl (hb hby d18_21) _ ?_
    rw [len_of S4 M4]
    exact k
  obtain ⟨T5, h5, L5, X5, e5, N5, K5q, V5q, st5⟩ := cpA X3 hx hZ hown (ow hw 102 rfl) (ow hw 105 rfl) (ow hw 103 rfl) (ow hw 104 rfl) e3 V_2 V_v (us := []) (Or.inl ⟨rfl, rfl⟩) (by decide) (by decide) (by decide) (by decide) (by decide) rfl (Nat.le_of_ble_eq_true rfl) N1 g_sbv (g := (mkF m 22 #[rv a2, rv sbv, iv 2, iv 0] [(.int 0), (.int 2), (.ref sbv), (.int 0), (.ref sb2)])) rfl (by rw [hml]; rfl) (rest := []) rfl (hb hby d18_22) (by decide) (W := 0) (Nat.le_refl _) (by decide)
  have V5 : Arv Z h5 sbv kv .byte (16 : Int32) [(.int d0), (.int d1), (.int 0), (.int 0), (.int 0), (.int 0), (.int 0), (.int 0), (.int 0), (.int 0), (.int 0), (.int 0), (.int 0), (.int 0), (.int 0), (.int 0)] (.int 0) := V5q
  have c5_E_a2 := E_a2.keep K5q
  have c5_F_a2_coder := F_c2.keep K5q (fun q => n_2v (List.mem_singleton.mp q))
  have c5_F_a2_value := F_v2.keep K5q (fun q => n_2v (List.mem_singleton.mp q))
  have c5_V_sb2 := V_2.keep K5q (fun q => n_bv (List.mem_singleton.mp q))
  have O5 := O0.keep K5q (allS g_sbv all0)
  have K5 := (Keep.refl h0 [sbv]).trans K5q (allS (Or.inl (List.mem_of_getElem? (i := 0) rfl)) all0)
  have zk5 := (Nat.le_trans (Nat.zero_le _) K5q.1)
  refine og (B := T5.setTop (mkF m 25 #[rv a2, rv sbv, iv 2, iv 0] [])) st5 ?_
  obtain ⟨fs, hr, hrun, hended, hW, hsame⟩ := X5.leave (v := none) (fun _ => rfl)
  refine ⟨_, _, ?_, hrun, hended, _, _, rfl, ?_, ⟨_, rfl⟩, hW, hsame.mono (by decide) (by decide)⟩
  · refine XS.goto X5.here hx rfl (pc0 := 25) (pc' := 43) rfl (hb hby d18_25) (by decide) (by decide) ?_
    show own_S p e below T5 (mkF m 43 #[rv a2, rv sbv, iv 2, iv 0] []) _
    exact X5.returnOut hx Bd.returns (hb hby d18_43) hr
  · show Q18_2_0 Z a2 sbv sb2 kv kb d0 d1 GC h0 n0 _ T5.heap _
    rw [e5]
    exact ⟨rfl, N5, K5, V5⟩
def Q18_2_1 (Z : State) (a2 : Addr) (sbv : Addr) (sb2 : Addr) (kv : ClassId) (kb : ClassId) (d0 : Int32) (d1 : Int32) (x0 : Int32) (GC : Int32) (h0 : Heap) (n0 : Nat) (v : Option Value) (h : Heap) (L : List Loc) : Prop := v = none ∧ Fr n0 L ∧ Keep h0 h [sbv] ∧ Arv Z h sbv kv .byte (16 : Int32) [(.int d0), (.int d1), (.int x0), (.int 0), (.int 0), (.int 0), (.int 0), (.int 0), (.int 0), (.int 0), (.int 0), (.int 0), (.int 0), (.int 0), (.int 0), (.int 0)] (.int 0)
set_option maxRecDepth 65536 in
set_option maxHeartbeats 40000000 in
theorem rm18_2_1 (l : Launch) (Z : State) (a0 : Array Value) (hw : ∀ d ∈ tables_1, d.before a0 Z = true) (ws : List Jvm.Cond) (a2 : Addr) (sbv : Addr) (sb2 : Addr) (kv : ClassId) (kb : ClassId) (d0 : Int32) (d1 : Int32) (x0 : Int32) (GC : Int32) (h0 : Heap) (n0 : Nat) (Z0 : n0 ≤ h0.size) (S_C : Sta Z Z.heap "java/lang/String" "COMPACT_STRINGS" "Z" (.int GC)) (hGC : ¬ GC = (0 : Int32)) (O0 : Old Z n0 h0) (V_v : Arv Z h0 sbv kv .byte (16 : Int32) [(.int d0), (.int d1), (.int 0), (.int 0), (.int 0), (.int 0), (.int 0), (.int 0), (.int 0), (.int 0), (.int 0), (.int 0), (.int 0), (.int 0), (.int 0), (.int 0)] (.int 0)) (g_v : n0 ≤ sbv) (E_a2 : Exa Z h0 a2 "java/lang/String") (F_c2 : Fld Z h0 a2 "java/lang/String" "coder" "B" (.int 0)) (F_v2 : Fld Z h0 a2 "java/lang/String" "value" "[B" (.ref sb2)) (V_2 : Arv Z h0 sb2 kb .byte (1 : Int32) [(.int x0)] (.int 0)) (n_2v : a2 ≠ sbv) (n_bv : sb2 ≠ sbv) :
    MetFree l own_y17 (head1 (Jvm.Cond.code own_y17 jdk_42_method_147_code 4 none :: ws) ({ frames := 1, cells := 0, slots := 0, locals := 18 } : Room)) (fun a U => a = #[(.ref a2), (.ref sbv), (.int 2), (.int 0)] ∧ Z.Warmed39 U.vm ∧ U.heap = h0) (fun _ _ _ _ _ => True) (fun _ U o U' => ∃ v L, o = .returned v ∧ Q18_2_1 Z a2 sbv sb2 kv kb d0 d1 x0 GC h0 n0 v U'.heap L ∧ FrameEnd U o U' L ({ frames := 1, cells := 0, slots := 0, locals := 18 } : Room).cells ({ frames := 1, cells := 0, slots := 0, locals := 18 } : Room).slots) := by
  refine MetFree.of_bodySF (plainFor_of_name pn_18) hisR ?_
  intro p e s m args below meth c s₁ Bd hml0 hP hK
  obtain ⟨rfl, hZ, hh⟩ := hP
  have hx := Bd.exec
  have hby := Bd.bytes
  have hml : c.maxLocals = 4 := hml0
  have hown : s.vm.findClass "java/lang/String" = some m.cls := findClass_of_methodNamed Bd.named
  have hnm := (name_of_methodNamed Bd.named Bd.method).1
  have X0 : Stand p l e ({ frames := 1, cells := 0, slots := 0, locals := 18 } : Room) s m #[(.ref a2), (.ref sbv), (.int 2), (.int 0)] below meth c s₁ [] 0 0 := Stand.of_body Bd
  have e0 : s₁.heap = h0 := by rw [← hh, Bd.state]; rfl
  have N0 := Fr.nil n0
  refine og (B := s₁.setTop (mkF m 0 #[rv a2, rv sbv, iv 2, iv 0] [])) (fun t k => castTop (ef_18 m a2 sbv (2 : Int32) (0 : Int32)) k) ?_
  have g_sbv := g_v
  refine og (B := s₁.setTop (mkF m 1 #[rv a2, rv sbv, iv 2, iv 0] [(.ref a2)])) (fun t k => ?_) ?_
  · refine XS.aloadN X0.here hx rfl (hb hby d18_0) rfl rfl ?_
    exact k
  obtain ⟨cq1, kq1, q1a, q1b, q1c⟩ := isOf hZ e0 E_a2
  obtain ⟨_, _, ⟨T1, L1, k1, n1⟩, -, X1, ⟨Lc1, hQ1, l1, y1, z1⟩, st1⟩ := X0.virtualBack hx (y := own_y1) (z := own_y1) hown (mvT hZ (ow hw 74 rfl)) (mvT hZ (ow hw 75 rfl)) (notFace_of_selects (args := #[]) (mvT hZ (ow hw 77 rfl))) (mvT hZ (ow hw 77 rfl)) (mvT hZ (ow hw 76 rfl)) (by decide) (backOf (W := 0) (rm14 l Z a0 hw [] a2 GC h0 n0 Z0 S_C hGC O0 F_c2) hZ (ow hw 78 rfl) (ow hw 2 rfl) (by decide) (by decide)) q1a q1c (g := (mkF m 1 #[rv a2, rv sbv, iv 2, iv 0] [(.ref a2)])) rfl (by rw [hml]; rfl) (Steps.refl _) (argsL := []) (rest := []) (lenOf own_pd0 rfl) rfl (Nat.le_refl _) (hb hby d18_1) (fun _ _ => ⟨rfl, e0, (by decide : 0 + 0 ≤ _), (by decide : 0 + 0 ≤ _)⟩)
  dsimp only [Pt.U, Pt.locs, Pt.cells, Pt.slots] at X1 l1 y1 z1 st1 hQ1
  subst l1 y1 z1
  obtain ⟨rfl, N1q, eq1⟩ := hQ1
  have N1 := Fr.app N0 N1q
  refine og (B := T1.setTop (mkF m 4 #[rv a2, rv sbv, iv 2, iv 0] [(.int 0)])) (fun _ => st1.trans) ?_
  refine og (B := T1.setTop (mkF m 9 #[rv a2, rv sbv, iv 2, iv 0] [(.ref a2)])) (fun t k => ?_) ?_
  · refine XS.iloadN X1.here hx rfl (hb hby d18_4) rfl ?_
    refine XS.icmpNo X1.here hx rfl (hb hby d18_5) rfl (teq (by decide)).2 ?_
    refine XS.aloadN X1.here hx rfl (hb hby d18_8) rfl rfl ?_
    exact k
  obtain ⟨T2, X2, e2, st2⟩ := getF X1 hx hZ hown (host := "") (Or.inl (ow hw 28 rfl)) Via.refl eq1 F_v2 (g := (mkF m 9 #[rv a2, rv sbv, iv 2, iv 0] [(.ref a2)])) rfl rfl (hb hby d18_9)
  refine og (B := T2.setTop (mkF m 12 #[rv a2, rv sbv, iv 2, iv 0] [(.ref sb2)])) st2 ?_
  refine og (B := T2.setTop (mkF m 18 #[rv a2, rv sbv, iv 2, iv 0] [(.ref a2), (.int 2), (.ref sbv), (.int 0), (.ref sb2)])) (fun t k => ?_) ?_
  · refine XS.iconst X2.here hx rfl (hb hby d18_12) ?_
    refine XS.aloadN X2.here hx rfl (hb hby d18_13) rfl rfl ?_
    refine XS.iloadN X2.here hx rfl (hb hby d18_14) rfl ?_
    refine XS.iloadN X2.here hx rfl (hb hby d18_15) rfl ?_
    refine XS.ishl X2.here hx rfl (hb hby d18_16) rfl ?_
    refine XS.aloadN X2.here hx rfl (hb hby d18_17) rfl rfl ?_
    exact k
  obtain ⟨T3, X3, e3, st3⟩ := getF X2 hx hZ hown (host := "") (Or.inl (ow hw 28 rfl)) Via.refl e2 F_v2 (g := (mkF m 18 #[rv a2, rv sbv, iv 2, iv 0] [(.ref a2), (.int 2), (.ref sbv), (.int 0), (.ref sb2)])) rfl rfl (hb hby d18_18)
  refine og (B := T3.setTop (mkF m 21 #[rv a2, rv sbv, iv 2, iv 0] [(.ref sb2), (.int 2), (.ref sbv), (.int 0), (.ref sb2)])) st3 ?_
  obtain ⟨cl4, Ar4, qk4, S4, M4, H4, G4⟩ := id V_2
  refine og (B := T3.setTop (mkF m 22 #[rv a2, rv sbv, iv 2, iv 0] [(.int 1), (.int 2), (.ref sbv), (.int 0), (.ref sb2)])) (fun t k => ?_) ?_
  · refine X3.arraylength hx (by rw [e3]; exact Ar4.1) (State.isArrayOf_alike hZ.alike Ar4.2.1) (g := (mkF m 21 #[rv a2, rv sbv, iv 2, iv 0] [(.ref sb2), (.int 2), (.ref sbv), (.int 0), (.ref sb2)])) rfl rfl (hb hby d18_21) _ ?_
    rw [len_of S4 M4]
    exact k
  obtain ⟨T5, h5, L5, X5, e5, N5, K5q, V5q, st5⟩ := cpA X3 hx hZ hown (ow hw 102 rfl) (ow hw 105 rfl) (ow hw 103 rfl) (ow hw 104 rfl) e3 V_2 V_v (us := [(.int x0)]) (Or.inl ⟨rfl, rfl⟩) (by decide) (by decide) (by decide) (by decide) (by decide) rfl (Nat.le_of_ble_eq_true rfl) N1 g_sbv (g := (mkF m 22 #[rv a2, rv sbv, iv 2, iv 0] [(.int 1), (.int 2), (.ref sbv), (.int 0), (.ref sb2)])) rfl (by rw [hml]; rfl) (rest := []) rfl (hb hby d18_22) (by decide) (W := 0) (Nat.le_refl _) (by decide)
  have V5 : Arv Z h5 sbv kv .byte (16 : Int32) [(.int d0), (.int d1), (.int x0), (.int 0), (.int 0), (.int 0), (.int 0), (.int 0), (.int 0), (.int 0), (.int 0), (.int 0), (.int 0), (.int 0), (.int 0), (.int 0)] (.int 0) := V5q
  have c5_E_a2 := E_a2.keep K5q
  have c5_F_a2_coder := F_c2.keep K5q (fun q => n_2v (List.mem_singleton.mp q))
  have c5_F_a2_value := F_v2.keep K5q (fun q => n_2v (List.mem_singleton.mp q))
  have c5_V_sb2 := V_2.keep K5q (fun q => n_bv (List.mem_singleton.mp q))
  have O5 := O0.keep K5q (allS g_sbv all0)
  have K5 := (Keep.refl h0 [sbv]).trans K5q (allS (Or.inl (List.mem_of_getElem? (i := 0) rfl)) all0)
  have zk5 := (Nat.le_trans (Nat.zero_le _) K5q.1)
  refine og (B := T5.setTop (mkF m 25 #[rv a2, rv sbv, iv 2, iv 0] [])) st5 ?_
  obtain ⟨fs, hr, hrun, hended, hW, hsame⟩ := X5.leave (v := none) (fun _ => rfl)
  refine ⟨_, _, ?_, hrun, hended, _, _, rfl, ?_, ⟨_, rfl⟩, hW, hsame.mono (by decide) (by decide)⟩
  · refine XS.goto X5.here hx rfl (pc0 := 25) (pc' := 43) rfl (hb hby d18_25) (by decide) (by decide) ?_
    show own_S p e below T5 (mkF m 43 #[rv a2, rv sbv, iv 2, iv 0] []) _
    exact X5.returnOut hx Bd.returns (hb hby d18_43) hr
  · show Q18_2_1 Z a2 sbv sb2 kv kb d0 d1 x0 GC h0 n0 _ T5.heap _
    rw [e5]
    exact ⟨rfl, N5, K5, V5⟩
def Q18_2_2 (Z : State) (a2 : Addr) (sbv : Addr) (sb2 : Addr) (kv : ClassId) (kb : ClassId) (d0 : Int32) (d1 : Int32) (x0 : Int32) (x1 : Int32) (GC : Int32) (h0 : Heap) (n0 : Nat) (v : Option Value) (h : Heap) (L : List Loc) : Prop := v = none ∧ Fr n0 L ∧ Keep h0 h [sbv] ∧ Arv Z h sbv kv .byte (16 : Int32) [(.int d0), (.int d1), (.int x0), (.int x1), (.int 0), (.int 0), (.int 0), (.int 0), (.int 0), (.int 0), (.int 0), (.int 0), (.int 0), (.int 0), (.int 0), (.int 0)] (.int 0)
set_option maxRecDepth 65536 in
set_option maxHeartbeats 40000000 in
theorem rm18_2_2 (l : Launch) (Z : State) (a0 : Array Value) (hw : ∀ d ∈ tables_1, d.before a0 Z = true) (ws : List Jvm.Cond) (a2 : Addr) (sbv : Addr) (sb2 : Addr) (kv : ClassId) (kb : ClassId) (d0 : Int32) (d1 : Int32) (x0 : Int32) (x1 : Int32) (GC : Int32) (h0 : Heap) (n0 : Nat) (Z0 : n0 ≤ h0.size) (S_C : Sta Z Z.heap "java/lang/String" "COMPACT_STRINGS" "Z" (.int GC)) (hGC : ¬ GC = (0 : Int32)) (O0 : Old Z n0 h0) (V_v : Arv Z h0 sbv kv .byte (16 : Int32) [(.int d0), (.int d1), (.int 0), (.int 0), (.int 0), (.int 0), (.int 0), (.int 0), (.int 0), (.int 0), (.int 0), (.int 0), (.int 0), (.int 0), (.int 0), (.int 0)] (.int 0)) (g_v : n0 ≤ sbv) (E_a2 : Exa Z h0 a2 "java/lang/String") (F_c2 : Fld Z h0 a2 "java/lang/String" "coder" "B" (.int 0)) (F_v2 : Fld Z h0 a2 "java/lang/String" "value" "[B" (.ref sb2)) (V_2 : Arv Z h0 sb2 kb .byte (2 : Int32) [(.int x0), (.int x1)] (.int 0)) (n_2v : a2 ≠ sbv) (n_bv : sb2 ≠ sbv) :
    MetFree l own_y17 (head1 (Jvm.Cond.code own_y17 jdk_42_method_147_code 4 none :: ws) ({ frames := 1, cells := 0, slots := 0, locals := 18 } : Room)) (fun a U => a = #[(.ref a2), (.ref sbv), (.int 2), (.int 0)] ∧ Z.Warmed39 U.vm ∧ U.heap = h0) (fun _ _ _ _ _ => True) (fun _ U o U' => ∃ v L, o = .returned v ∧ Q18_2_2 Z a2 sbv sb2 kv kb d0 d1 x0 x1 GC h0 n0 v U'.heap L ∧ FrameEnd U o U' L ({ frames := 1, cells := 0, slots := 0, locals := 18 } : Room).cells ({ frames := 1, cells := 0, slots := 0, locals := 18 } : Room).slots) := by
  refine MetFree.of_bodySF (plainFor_of_name pn_18) hisR ?_
  intro p e s m args below meth c s₁ Bd hml0 hP hK
  obtain ⟨rfl, hZ, hh⟩ := hP
  have hx := Bd.exec
  have hby := Bd.bytes
  have hml : c.maxLocals = 4 := hml0
  have hown : s.vm.findClass "java/lang/String" = some m.cls := findClass_of_methodNamed Bd.named
  have hnm := (name_of_methodNamed Bd.named Bd.method).1
  have X0 : Stand p l e ({ frames := 1, cells := 0, slots := 0, locals := 18 } : Room) s m #[(.ref a2), (.ref sbv), (.int 2), (.int 0)] below meth c s₁ [] 0 0 := Stand.of_body Bd
  have e0 : s₁.heap = h0 := by rw [← hh, Bd.state]; rfl
  have N0 := Fr.nil n0
  refine og (B := s₁.setTop (mkF m 0 #[rv a2, rv sbv, iv 2, iv 0] [])) (fun t k => castTop (ef_18 m a2 sbv (2 : Int32) (0 : Int32)) k) ?_
  have g_sbv := g_v
  refine og (B := s₁.setTop (mkF m 1 #[rv a2, rv sbv, iv 2, iv 0] [(.ref a2)])) (fun t k => ?_) ?_
  · refine XS.aloadN X0.here hx rfl (hb hby d18_0) rfl rfl ?_
    exact k
  obtain ⟨cq1, kq1, q1a, q1b, q1c⟩ := isOf hZ e0 E_a2
  obtain ⟨_, _, ⟨T1, L1, k1, n1⟩, -, X1, ⟨Lc1, hQ1, l1, y1, z1⟩, st1⟩ := X0.virtualBack hx (y := own_y1) (z := own_y1) hown (mvT hZ (ow hw 74 rfl)) (mvT hZ (ow hw 75 rfl)) (notFace_of_selects (args := #[]) (mvT hZ (ow hw 77 rfl))) (mvT hZ (ow hw 77 rfl)) (mvT hZ (ow hw 76 rfl)) (by decide) (backOf (W := 0) (rm14 l Z a0 hw [] a2 GC h0 n0 Z0 S_C hGC O0 F_c2) hZ (ow hw 78 rfl) (ow hw 2 rfl) (by decide) (by decide)) q1a q1c (g := (mkF m 1 #[rv a2, rv sbv, iv 2, iv 0] [(.ref a2)])) rfl (by rw [hml]; rfl) (Steps.refl _) (argsL := []) (rest := []) (lenOf own_pd0 rfl) rfl (Nat.le_refl _) (hb hby d18_1) (fun _ _ => ⟨rfl, e0, (by decide : 0 + 0 ≤ _), (by decide : 0 + 0 ≤ _)⟩)
  dsimp only [Pt.U, Pt.locs, Pt.cells, Pt.slots] at X1 l1 y1 z1 st1 hQ1
  subst l1 y1 z1
  obtain ⟨rfl, N1q, eq1⟩ := hQ1
  have N1 := Fr.app N0 N1q
  refine og (B := T1.setTop (mkF m 4 #[rv a2, rv sbv, iv 2, iv 0] [(.int 0)])) (fun _ => st1.trans) ?_
  refine og (B := T1.setTop (mkF m 9 #[rv a2, rv sbv, iv 2, iv 0] [(.ref a2)])) (fun t k => ?_) ?_
  · refine XS.iloadN X1.here hx rfl (hb hby d18_4) rfl ?_
    refine XS.icmpNo X1.here hx rfl (hb hby d18_5) rfl (teq (by decide)).2 ?_
    refine XS.aloadN X1.here hx rfl (hb hby d18_8) rfl rfl ?_
    exact k
  obtain ⟨T2, X2, e2, st2⟩ := getF X1 hx hZ hown (host := "") (Or.inl (ow hw 28 rfl)) Via.refl eq1 F_v2 (g := (mkF m 9 #[rv a2, rv sbv, iv 2, iv 0] [(.ref a2)])) rfl rfl (hb hby d18_9)
  refine og (B := T2.setTop (mkF m 12 #[rv a2, rv sbv, iv 2, iv 0] [(.ref sb2)])) st2 ?_
  refine og (B := T2.setTop (mkF m 18 #[rv a2, rv sbv, iv 2, iv 0] [(.ref a2), (.int 2), (.ref sbv), (.int 0), (.ref sb2)])) (fun t k => ?_) ?_
  · refine XS.iconst X2.here hx rfl (hb hby d18_12) ?_
    refine XS.aloadN X2.here hx rfl (hb hby d18_13) rfl rfl ?_
    refine XS.iloadN X2.here hx rfl (hb hby d18_14) rfl ?_
    refine XS.iloadN X2.here hx rfl (hb hby d18_15) rfl ?_
    refine XS.ishl X2.here hx rfl (hb hby d18_16) rfl ?_
    refine XS.aloadN X2.here hx rfl (hb hby d18_17) rfl rfl ?_
    exact k
  obtain ⟨T3, X3, e3, st3⟩ := getF X2 hx hZ hown (host := "") (Or.inl (ow hw 28 rfl)) Via.refl e2 F_v2 (g := (mkF m 18 #[rv a2, rv sbv, iv 2, iv 0] [(.ref a2), (.int 2), (.ref sbv), (.int 0), (.ref sb2)])) rfl rfl (hb hby d18_18)
  refine og (B := T3.setTop (mkF m 21 #[rv a2, rv sbv, iv 2, iv 0] [(.ref sb2), (.int 2), (.ref sbv), (.int 0), (.ref sb2)])) st3 ?_
  obtain ⟨cl4, Ar4, qk4, S4, M4, H4, G4⟩ := id V_2
  refine og (B := T3.setTop (mkF m 22 #[rv a2, rv sbv, iv 2, iv 0] [(.int 2), (.int 2), (.ref sbv), (.int 0), (.ref sb2)])) (fun t k => ?_) ?_
  · refine X3.arraylength hx (by rw [e3]; exact Ar4.1) (State.isArrayOf_alike hZ.alike Ar4.2.1) (g := (mkF m 21 #[rv a2, rv sbv, iv 2, iv 0] [(.ref sb2), (.int 2), (.ref sbv), (.int 0), (.ref sb2)])) rfl rfl (hb hby d18_21) _ ?_
    rw [len_of S4 M4]
    exact k
  obtain ⟨T5, h5, L5, X5, e5, N5, K5q, V5q, st5⟩ := cpA X3 hx hZ hown (ow hw 102 rfl) (ow hw 105 rfl) (ow hw 103 rfl) (ow hw 104 rfl) e3 V_2 V_v (us := [(.int x0), (.int x1)]) (Or.inl ⟨rfl, rfl⟩) (by decide) (by decide) (by decide) (by decide) (by decide) rfl (Nat.le_of_ble_eq_true rfl) N1 g_sbv (g := (mkF m 22 #[rv a2, rv sbv, iv 2, iv 0] [(.int 2), (.int 2), (.ref sbv), (.int 0), (.ref sb2)])) rfl (by rw [hml]; rfl) (rest := []) rfl (hb hby d18_22) (by decide) (W := 0) (Nat.le_refl _) (by decide)
  have V5 : Arv Z h5 sbv kv .byte (16 : Int32) [(.int d0), (.int d1), (.int x0), (.int x1), (.int 0), (.int 0), (.int 0), (.int 0), (.int 0), (.int 0), (.int 0), (.int 0), (.int 0), (.int 0), (.int 0), (.int 0)] (.int 0) := V5q
  have c5_E_a2 := E_a2.keep K5q
  have c5_F_a2_coder := F_c2.keep K5q (fun q => n_2v (List.mem_singleton.mp q))
  have c5_F_a2_value := F_v2.keep K5q (fun q => n_2v (List.mem_singleton.mp q))
  have c5_V_sb2 := V_2.keep K5q (fun q => n_bv (List.mem_singleton.mp q))
  have O5 := O0.keep K5q (allS g_sbv all0)
  have K5 := (Keep.refl h0 [sbv]).trans K5q (allS (Or.inl (List.mem_of_getElem? (i := 0) rfl)) all0)
  have zk5 := (Nat.le_trans (Nat.zero_le _) K5q.1)
  refine og (B := T5.setTop (mkF m 25 #[rv a2, rv sbv, iv 2, iv 0] [])) st5 ?_
  obtain ⟨fs, hr, hrun, hended, hW, hsame⟩ := X5.leave (v := none) (fun _ => rfl)
  refine ⟨_, _, ?_, hrun, hended, _, _, rfl, ?_, ⟨_, rfl⟩, hW, hsame.mono (by decide) (by decide)⟩
  · refine XS.goto X5.here hx rfl (pc0 := 25) (pc' := 43) rfl (hb hby d18_25) (by decide) (by decide) ?_
    show own_S p e below T5 (mkF m 43 #[rv a2, rv sbv, iv 2, iv 0] []) _
    exact X5.returnOut hx Bd.returns (hb hby d18_43) hr
  · show Q18_2_2 Z a2 sbv sb2 kv kb d0 d1 x0 x1 GC h0 n0 _ T5.heap _
    rw [e5]
    exact ⟨rfl, N5, K5, V5⟩
def Q18_2_3 (Z : State) (a2 : Addr) (sbv : Addr) (sb2 : Addr) (kv : ClassId) (kb : ClassId) (d0 : Int32) (d1 : Int32) (x0 : Int32) (x1 : Int32) (x2 : Int32) (GC : Int32) (h0 : Heap) (n0 : Nat) (v : Option Value) (h : Heap) (L : List Loc) : Prop := v = none ∧ Fr n0 L ∧ Keep h0 h [sbv] ∧ Arv Z h sbv kv .byte (16 : Int32) [(.int d0), (.int d1), (.int x0), (.int x1), (.int x2), (.int 0), (.int 0), (.int 0), (.int 0), (.int 0), (.int 0), (.int 0), (.int 0), (.int 0), (.int 0), (.int 0)] (.int 0)
set_option maxRecDepth 65536 in
set_option maxHeartbeats 40000000 in
theorem rm18_2_3 (l : Launch) (Z : State) (a0 : Array Value) (hw : ∀ d ∈ tables_1, d.before a0 Z = true) (ws : List Jvm.Cond) (a2 : Addr) (sbv : Addr) (sb2 : Addr) (kv : ClassId) (kb : ClassId) (d0 : Int32) (d1 : Int32) (x0 : Int32) (x1 : Int32) (x2 : Int32) (GC : Int32) (h0 : Heap) (n0 : Nat) (Z0 : n0 ≤ h0.size) (S_C : Sta Z Z.heap "java/lang/String" "COMPACT_STRINGS" "Z" (.int GC)) (hGC : ¬ GC = (0 : Int32)) (O0 : Old Z n0 h0) (V_v : Arv Z h0 sbv kv .byte (16 : Int32) [(.int d0), (.int d1), (.int 0), (.int 0), (.int 0), (.int 0), (.int 0), (.int 0), (.int 0), (.int 0), (.int 0), (.int 0), (.int 0), (.int 0), (.int 0), (.int 0)] (.int 0)) (g_v : n0 ≤ sbv) (E_a2 : Exa Z h0 a2 "java/lang/String") (F_c2 : Fld Z h0 a2 "java/lang/String" "coder" "B" (.int 0)) (F_v2 : Fld Z h0 a2 "java/lang/String" "value" "[B" (.ref sb2)) (V_2 : Arv Z h0 sb2 kb .byte (3 : Int32) [(.int x0), (.int x1), (.int x2)] (.int 0)) (n_2v : a2 ≠ sbv) (n_bv : sb2 ≠ sbv) :
    MetFree l own_y17 (head1 (Jvm.Cond.code own_y17 jdk_42_method_147_code 4 none :: ws) ({ frames := 1, cells := 0, slots := 0, locals := 18 } : Room)) (fun a U => a = #[(.ref a2), (.ref sbv), (.int 2), (.int 0)] ∧ Z.Warmed39 U.vm ∧ U.heap = h0) (fun _ _ _ _ _ => True) (fun _ U o U' => ∃ v L, o = .returned v ∧ Q18_2_3 Z a2 sbv sb2 kv kb d0 d1 x0 x1 x2 GC h0 n0 v U'.heap L ∧ FrameEnd U o U' L ({ frames := 1, cells := 0, slots := 0, locals := 18 } : Room).cells ({ frames := 1, cells := 0, slots := 0, locals := 18 } : Room).slots) := by
  refine MetFree.of_bodySF (plainFor_of_name pn_18) hisR ?_
  intro p e s m args below meth c s₁ Bd hml0 hP hK
  obtain ⟨rfl, hZ, hh⟩ := hP
  have hx := Bd.exec
  have hby := Bd.bytes
  have hml : c.maxLocals = 4 := hml0
  have hown : s.vm.findClass "java/lang/String" = some m.cls := findClass_of_methodNamed Bd.named
  have hnm := (name_of_methodNamed Bd.named Bd.method).1
  have X0 : Stand p l e ({ frames := 1, cells := 0, slots := 0, locals := 18 } : Room) s m #[(.ref a2), (.ref sbv), (.int 2), (.int 0)] below meth c s₁ [] 0 0 := Stand.of_body Bd
  have e0 : s₁.heap = h0 := by rw [← hh, Bd.state]; rfl
  have N0 := Fr.nil n0
  refine og (B := s₁.setTop (mkF m 0 #[rv a2, rv sbv, iv 2, iv 0] [])) (fun t k => castTop (ef_18 m a2 sbv (2 : Int32) (0 : Int32)) k) ?_
  have g_sbv := g_v
  refine og (B := s₁.setTop (mkF m 1 #[rv a2, rv sbv, iv 2, iv 0] [(.ref a2)])) (fun t k => ?_) ?_
  · refine XS.aloadN X0.here hx rfl (hb hby d18_0) rfl rfl ?_
    exact k
  obtain ⟨cq1, kq1, q1a, q1b, q1c⟩ := isOf hZ e0 E_a2
  obtain ⟨_, _, ⟨T1, L1, k1, n1⟩, -, X1, ⟨Lc1, hQ1, l1, y1, z1⟩, st1⟩ := X0.virtualBack hx (y := own_y1) (z := own_y1) hown (mvT hZ (ow hw 74 rfl)) (mvT hZ (ow hw 75 rfl)) (notFace_of_selects (args := #[]) (mvT hZ (ow hw 77 rfl))) (mvT hZ (ow hw 77 rfl)) (mvT hZ (ow hw 76 rfl)) (by decide) (backOf (W := 0) (rm14 l Z a0 hw [] a2 GC h0 n0 Z0 S_C hGC O0 F_c2) hZ (ow hw 78 rfl) (ow hw 2 rfl) (by decide) (by decide)) q1a q1c (g := (mkF m 1 #[rv a2, rv sbv, iv 2, iv 0] [(.ref a2)])) rfl (by rw [hml]; rfl) (Steps.refl _) (argsL := []) (rest := []) (lenOf own_pd0 rfl) rfl (Nat.le_refl _) (hb hby d18_1) (fun _ _ => ⟨rfl, e0, (by decide : 0 + 0 ≤ _), (by decide : 0 + 0 ≤ _)⟩)
  dsimp only [Pt.U, Pt.locs, Pt.cells, Pt.slots] at X1 l1 y1 z1 st1 hQ1
  subst l1 y1 z1
  obtain ⟨rfl, N1q, eq1⟩ := hQ1
  have N1 := Fr.app N0 N1q
  refine og (B := T1.setTop (mkF m 4 #[rv a2, rv sbv, iv 2, iv 0] [(.int 0)])) (fun _ => st1.trans) ?_
  refine og (B := T1.setTop (mkF m 9 #[rv a2, rv sbv, iv 2, iv 0] [(.ref a2)])) (fun t k => ?_) ?_
  · refine XS.iloadN X1.here hx rfl (hb hby d18_4) rfl ?_
    refine XS.icmpNo X1.here hx rfl (hb hby d18_5) rfl (teq (by decide)).2 ?_
    refine XS.aloadN X1.here hx rfl (hb hby d18_8) rfl rfl ?_
    exact k
  obtain ⟨T2, X2, e2, st2⟩ := getF X1 hx hZ hown (host := "") (Or.inl (ow hw 28 rfl)) Via.refl eq1 F_v2 (g := (mkF m 9 #[rv a2, rv sbv, iv 2, iv 0] [(.ref a2)])) rfl rfl (hb hby d18_9)
  refine og (B := T2.setTop (mkF m 12 #[rv a2, rv sbv, iv 2, iv 0] [(.ref sb2)])) st2 ?_
  refine og (B := T2.setTop (mkF m 18 #[rv a2, rv sbv, iv 2, iv 0] [(.ref a2), (.int 2), (.ref sbv), (.int 0), (.ref sb2)])) (fun t k => ?_) ?_
  · refine XS.iconst X2.here hx rfl (hb hby d18_12) ?_
    refine XS.aloadN X2.here hx rfl (hb hby d18_13) rfl rfl ?_
    refine XS.iloadN X2.here hx rfl (hb hby d18_14) rfl ?_
    refine XS.iloadN X2.here hx rfl (hb hby d18_15) rfl ?_
    refine XS.ishl X2.here hx rfl (hb hby d18_16) rfl ?_
    refine XS.aloadN X2.here hx rfl (hb hby d18_17) rfl rfl ?_
    exact k
  obtain ⟨T3, X3, e3, st3⟩ := getF X2 hx hZ hown (host := "") (Or.inl (ow hw 28 rfl)) Via.refl e2 F_v2 (g := (mkF m 18 #[rv a2, rv sbv, iv 2, iv 0] [(.ref a2), (.int 2), (.ref sbv), (.int 0), (.ref sb2)])) rfl rfl (hb hby d18_18)
  refine og (B := T3.setTop (mkF m 21 #[rv a2, rv sbv, iv 2, iv 0] [(.ref sb2), (.int 2), (.ref sbv), (.int 0), (.ref sb2)])) st3 ?_
  obtain ⟨cl4, Ar4, qk4, S4, M4, H4, G4⟩ := id V_2
  refine og (B := T3.setTop (mkF m 22 #[rv a2, rv sbv, iv 2, iv 0] [(.int 3), (.int 2), (.ref sbv), (.int 0), (.ref sb2)])) (fun t k => ?_) ?_
  · refine X3.arraylength hx (by rw [e3]; exact Ar4.1) (State.isArrayOf_alike hZ.alike Ar4.2.1) (g := (mkF m 21 #[rv a2, rv sbv, iv 2, iv 0] [(.ref sb2), (.int 2), (.ref sbv), (.int 0), (.ref sb2)])) rfl rfl (hb hby d18_21) _ ?_
    rw [len_of S4 M4]
    exact k
  obtain ⟨T5, h5, L5, X5, e5, N5, K5q, V5q, st5⟩ := cpA X3 hx hZ hown (ow hw 102 rfl) (ow hw 105 rfl) (ow hw 103 rfl) (ow hw 104 rfl) e3 V_2 V_v (us := [(.int x0), (.int x1), (.int x2)]) (Or.inl ⟨rfl, rfl⟩) (by decide) (by decide) (by decide) (by decide) (by decide) rfl (Nat.le_of_ble_eq_true rfl) N1 g_sbv (g := (mkF m 22 #[rv a2, rv sbv, iv 2, iv 0] [(.int 3), (.int 2), (.ref sbv), (.int 0), (.ref sb2)])) rfl (by rw [hml]; rfl) (rest := []) rfl (hb hby d18_22) (by decide) (W := 0) (Nat.le_refl _) (by decide)
  have V5 : Arv Z h5 sbv kv .byte (16 : Int32) [(.int d0), (.int d1), (.int x0), (.int x1), (.int x2), (.int 0), (.int 0), (.int 0), (.int 0), (.int 0), (.int 0), (.int 0), (.int 0), (.int 0), (.int 0), (.int 0)] (.int 0) := V5q
  have c5_E_a2 := E_a2.keep K5q
  have c5_F_a2_coder := F_c2.keep K5q (fun q => n_2v (List.mem_singleton.mp q))
  have c5_F_a2_value := F_v2.keep K5q (fun q => n_2v (List.mem_singleton.mp q))
  have c5_V_sb2 := V_2.keep K5q (fun q => n_bv (List.mem_singleton.mp q))
  have O5 := O0.keep K5q (allS g_sbv all0)
  have K5 := (Keep.refl h0 [sbv]).trans K5q (allS (Or.inl (List.mem_of_getElem? (i := 0) rfl)) all0)
  have zk5 := (Nat.le_trans (Nat.zero_le _) K5q.1)
  refine og (B := T5.setTop (mkF m 25 #[rv a2, rv sbv, iv 2, iv 0] [])) st5 ?_
  obtain ⟨fs, hr, hrun, hended, hW, hsame⟩ := X5.leave (v := none) (fun _ => rfl)
  refine ⟨_, _, ?_, hrun, hended, _, _, rfl, ?_, ⟨_, rfl⟩, hW, hsame.mono (by decide) (by decide)⟩
  · refine XS.goto X5.here hx rfl (pc0 := 25) (pc' := 43) rfl (hb hby d18_25) (by decide) (by decide) ?_
    show own_S p e below T5 (mkF m 43 #[rv a2, rv sbv, iv 2, iv 0] []) _
    exact X5.returnOut hx Bd.returns (hb hby d18_43) hr
  · show Q18_2_3 Z a2 sbv sb2 kv kb d0 d1 x0 x1 x2 GC h0 n0 _ T5.heap _
    rw [e5]
    exact ⟨rfl, N5, K5, V5⟩
def own_QG (Z : State) (sbv : Addr) (kv : ClassId) (nl : List Value) (h0 : Heap) (n0 : Nat) (v : Option Value) (h : Heap) (L : List Loc) : Prop := v = none ∧ Fr n0 L ∧ Keep h0 h [sbv] ∧ Arv Z h sbv kv .byte (16 : Int32) nl (.int 0)
def own_QP (Z : State) (a1 sbv : Addr) (kv : ClassId) (r : Option Value) (cc : Int32) (nl : List Value) (h0 : Heap) (n0 : Nat) (v : Option Value) (h : Heap) (L : List Loc) : Prop := v = r ∧ Fr n0 L ∧ Keep h0 h [a1, sbv] ∧ Exa Z h a1 "java/lang/StringBuilder" ∧ Fld Z h a1 "java/lang/AbstractStringBuilder" "value" "[B" (.ref sbv) ∧ Fld Z h a1 "java/lang/AbstractStringBuilder" "coder" "B" (.int 0) ∧ Fld Z h a1 "java/lang/AbstractStringBuilder" "count" "I" (.int cc) ∧ Arv Z h sbv kv .byte (16 : Int32) nl (.int 0)
theorem pn_16 : plainName "java/lang/AbstractStringBuilder" = true := by first | (simp [plainName, overriddenIn]; done) | decide +kernel
theorem d16_0 : decode jdk_68_method_73_code 0 = .ok (.aload_n 0, 1) := by decide +kernel
theorem d16_1 : decode jdk_68_method_73_code 1 = .ok (.aload_n 2, 1) := by decide +kernel
theorem d16_2 : decode jdk_68_method_73_code 2 = .ok (.invokevirtual 397, 3) := by decide +kernel
theorem d16_5 : decode jdk_68_method_73_code 5 = .ok (.aload_n 2, 1) := by decide +kernel
theorem d16_6 : decode jdk_68_method_73_code 6 = .ok (.aload_n 0, 1) := by decide +kernel
theorem d16_7 : decode jdk_68_method_73_code 7 = .ok (.getfield 15, 3) := by decide +kernel
theorem d16_10 : decode jdk_68_method_73_code 10 = .ok (.iload_n 1, 1) := by decide +kernel
theorem d16_11 : decode jdk_68_method_73_code 11 = .ok (.aload_n 0, 1) := by decide +kernel
theorem d16_12 : decode jdk_68_method_73_code 12 = .ok (.getfield 22, 3) := by decide +kernel
theorem d16_15 : decode jdk_68_method_73_code 15 = .ok (.invokevirtual 399, 3) := by decide +kernel
theorem d16_18 : decode jdk_68_method_73_code 18 = .ok (.return_, 1) := by decide +kernel
theorem ef_16 (m : MethodId) (x0 : Addr) (x1 : Int32) (x2 : Addr) : entryFrame m #[(.ref x0), (.int x1), (.ref x2)] 3 = mkF m 0 #[.val (.ref x0), .val (.int x1), .val (.ref x2)] [] := by first | (simp [entryFrame, mkF, argsToLocals, Value.category]; done) | rfl
def Q16 (Z : State) (a1 : Addr) (a2 : Addr) (sbv : Addr) (sb2 : Addr) (kv : ClassId) (kb : ClassId) (c1 : Int32) (m1 : Int32) (dl : List Value) (xl : List Value) (nl : List Value) (GC : Int32) (h0 : Heap) (n0 : Nat) (v : Option Value) (h : Heap) (L : List Loc) : Prop := own_QP Z a1 sbv kv none c1 nl h0 n0 v h L
set_option maxRecDepth 65536 in
set_option maxHeartbeats 40000000 in
theorem rm16 (l : Launch) (Z : State) (a0 : Array Value) (hw : ∀ d ∈ tables_1, d.before a0 Z = true) (ws : List Jvm.Cond) (a1 : Addr) (a2 : Addr) (sbv : Addr) (sb2 : Addr) (kv : ClassId) (kb : ClassId) (c1 : Int32) (m1 : Int32) (dl : List Value) (xl : List Value) (nl : List Value) (GC : Int32) (h0 : Heap) (n0 : Nat) (Z0 : n0 ≤ h0.size) (S_C : Sta Z Z.heap "java/lang/String" "COMPACT_STRINGS" "Z" (.int GC)) (hGC : ¬ GC = (0 : Int32)) (O0 : Old Z n0 h0) (E_a1 : Exa Z h0 a1 "java/lang/StringBuilder") (g_a1 : n0 ≤ a1) (F_v1 : Fld Z h0 a1 "java/lang/AbstractStringBuilder" "value" "[B" (.ref sbv)) (F_c1 : Fld Z h0 a1 "java/lang/AbstractStringBuilder" "coder" "B" (.int 0)) (F_n1 : Fld Z h0 a1 "java/lang/AbstractStringBuilder" "count" "I" (.int c1)) (V_v : Arv Z h0 sbv kv .byte (16 : Int32) dl (.int 0)) (g_v : n0 ≤ sbv) (E_a2 : Exa Z h0 a2 "java/lang/String") (F_c2 : Fld Z h0 a2 "java/lang/String" "coder" "B" (.int 0)) (F_v2 : Fld Z h0 a2 "java/lang/String" "value" "[B" (.ref sb2)) (V_2 : Arv Z h0 sb2 kb .byte m1 xl (.int 0)) (n_2v : a2 ≠ sbv) (n_bv : sb2 ≠ sbv) (n_1v : a1 ≠ sbv) (n_12 : a1 ≠ a2) (n_1b : a1 ≠ sb2) (hcap : ¬ (0 : Int32) < ((c1 + m1) - (16 : Int32))) (hM : MetFree l own_y17 (head1 (Jvm.Cond.code own_y17 jdk_42_method_147_code 4 none :: []) ({ frames := 1, cells := 0, slots := 0, locals := 18 } : Room)) (fun a U => a = #[(.ref a2), (.ref sbv), (.int c1), (.int 0)] ∧ Z.Warmed39 U.vm ∧ U.heap = h0) (fun _ _ _ _ _ => True) (fun _ U o U' => ∃ v L, o = .returned v ∧ own_QG Z sbv kv nl h0 n0 v U'.heap L ∧ FrameEnd U o U' L ({ frames := 1, cells := 0, slots := 0, locals := 18 } : Room).cells ({ frames := 1, cells := 0, slots := 0, locals := 18 } : Room).slots)) :
    MetFree l own_y18 (head1 (Jvm.Cond.code own_y18 jdk_68_method_73_code 3 none :: ws) ({ frames := 2, cells := 0, slots := 0, locals := 33 } : Room)) (fun a U => a = #[(.ref a1), (.int c1), (.ref a2)] ∧ Z.Warmed39 U.vm ∧ U.heap = h0) (fun _ _ _ _ _ => True) (fun _ U o U' => ∃ v L, o = .returned v ∧ Q16 Z a1 a2 sbv sb2 kv kb c1 m1 dl xl nl GC h0 n0 v U'.heap L ∧ FrameEnd U o U' L ({ frames := 2, cells := 0, slots := 0, locals := 33 } : Room).cells ({ frames := 2, cells := 0, slots := 0, locals := 33 } : Room).slots) := by
  refine MetFree.of_bodySF (plainFor_of_name pn_16) hisR ?_
  intro p e s m args below meth c s₁ Bd hml0 hP hK
  obtain ⟨rfl, hZ, hh⟩ := hP
  have hx := Bd.exec
  have hby := Bd.bytes
  have hml : c.maxLocals = 3 := hml0
  have hown : s.vm.findClass "java/lang/AbstractStringBuilder" = some m.cls := findClass_of_methodNamed Bd.named
  have hnm := (name_of_methodNamed Bd.named Bd.method).1
  have X0 : Stand p l e ({ frames := 2, cells := 0, slots := 0, locals := 33 } : Room) s m #[(.ref a1), (.int c1), (.ref a2)] below meth c s₁ [] 0 0 := Stand.of_body Bd
  have e0 : s₁.heap = h0 := by rw [← hh, Bd.state]; rfl
  have N0 := Fr.nil n0
  refine og (B := s₁.setTop (mkF m 0 #[rv a1, iv c1, rv a2] [])) (fun t k => castTop (ef_16 m a1 c1 a2) k) ?_
  have g_sbv := g_v
  refine og (B := s₁.setTop (mkF m 2 #[rv a1, iv c1, rv a2] [(.ref a2), (.ref a1)])) (fun t k => ?_) ?_
  · refine XS.aloadN X0.here hx rfl (hb hby d16_0) rfl rfl ?_
    refine XS.aloadN X0.here hx rfl (hb hby d16_1) rfl rfl ?_
    exact k
  obtain ⟨cq1, kq1, q1a, q1b, q1c⟩ := isOf hZ e0 E_a1
  obtain ⟨_, _, ⟨T1, L1, k1, n1⟩, -, X1, ⟨Lc1, hQ1, l1, y1, z1⟩, st1⟩ := X0.virtualBack hx (y := own_y16) (z := own_y16) hown (mvT hZ (ow hw 91 rfl)) (mvT hZ (own_decl (ow hw 92 rfl) (ow hw 95 rfl))) (notFace_of_selects (args := #[]) (mvT hZ (ow hw 94 rfl))) (mvT hZ (ow hw 94 rfl)) (mvT hZ (ow hw 92 rfl)) (by decide) (backOf (W := 0) (rm17 l Z a0 hw [] a1 a2 GC h0 n0 Z0 S_C hGC O0 F_c1 E_a2 F_c2) hZ (ow hw 95 rfl) (ow hw 51 rfl) (by decide) (by decide)) q1a q1c (g := (mkF m 2 #[rv a1, iv c1, rv a2] [(.ref a2), (.ref a1)])) rfl (by rw [hml]; rfl) (Steps.refl _) (argsL := [(.ref a2)]) (rest := []) (lenOf own_pd10 rfl) rfl (Nat.le_refl _) (hb hby d16_2) (fun _ _ => ⟨rfl, e0, (by decide : 0 + 0 ≤ _), (by decide : 0 + 0 ≤ _)⟩)
  dsimp only [Pt.U, Pt.locs, Pt.cells, Pt.slots] at X1 l1 y1 z1 st1 hQ1
  subst l1 y1 z1
  obtain ⟨rfl, N1q, eq1⟩ := hQ1
  have N1 := Fr.app N0 N1q
  refine og (B := T1.setTop (mkF m 5 #[rv a1, iv c1, rv a2] [])) (fun _ => st1.trans) ?_
  refine og (B := T1.setTop (mkF m 7 #[rv a1, iv c1, rv a2] [(.ref a1), (.ref a2)])) (fun t k => ?_) ?_
  · refine XS.aloadN X1.here hx rfl (hb hby d16_5) rfl rfl ?_
    refine XS.aloadN X1.here hx rfl (hb hby d16_6) rfl rfl ?_
    exact k
  obtain ⟨T2, X2, e2, st2⟩ := getF X1 hx hZ hown (host := "") (Or.inl (ow hw 55 rfl)) Via.refl eq1 F_v1 (g := (mkF m 7 #[rv a1, iv c1, rv a2] [(.ref a1), (.ref a2)])) rfl rfl (hb hby d16_7)
  refine og (B := T2.setTop (mkF m 10 #[rv a1, iv c1, rv a2] [(.ref sbv), (.ref a2)])) st2 ?_
  refine og (B := T2.setTop (mkF m 12 #[rv a1, iv c1, rv a2] [(.ref a1), (.int c1), (.ref sbv), (.ref a2)])) (fun t k => ?_) ?_
  · refine XS.iloadN X2.here hx rfl (hb hby d16_10) rfl ?_
    refine XS.aloadN X2.here hx rfl (hb hby d16_11) rfl rfl ?_
    exact k
  obtain ⟨T3, X3, e3, st3⟩ := getF X2 hx hZ hown (host := "") (Or.inl (ow hw 57 rfl)) Via.refl e2 F_c1 (g := (mkF m 12 #[rv a1, iv c1, rv a2] [(.ref a1), (.int c1), (.ref sbv), (.ref a2)])) rfl rfl (hb hby d16_12)
  refine og (B := T3.setTop (mkF m 15 #[rv a1, iv c1, rv a2] [(.int 0), (.int c1), (.ref sbv), (.ref a2)])) st3 ?_
  obtain ⟨cq4, kq4, q4a, q4b, q4c⟩ := isOf hZ e3 E_a2
  obtain ⟨_, _, ⟨T4, L4, k4, n4⟩, -, X4, ⟨Lc4, hQ4, l4, y4, z4⟩, st4⟩ := X3.virtualBack hx (y := own_y17) (z := own_y17) hown (mvT hZ (ow hw 97 rfl)) (mvT hZ (ow hw 98 rfl)) (notFace_of_selects (args := #[]) (mvT hZ (ow hw 100 rfl))) (mvT hZ (ow hw 100 rfl)) (mvT hZ (ow hw 99 rfl)) (by decide) (backOf (W := 0) (hM) hZ (ow hw 101 rfl) (ow hw 2 rfl) (by decide) (by decide)) q4a q4c (g := (mkF m 15 #[rv a1, iv c1, rv a2] [(.int 0), (.int c1), (.ref sbv), (.ref a2)])) rfl (by rw [hml]; rfl) (Steps.refl _) (argsL := [(.ref sbv), (.int c1), (.int 0)]) (rest := []) (lenOf own_pd11 rfl) rfl (Nat.le_refl _) (hb hby d16_15) (fun _ _ => ⟨rfl, e3, (by decide : 0 + 0 ≤ _), (by decide : 0 + 0 ≤ _)⟩)
  dsimp only [Pt.U, Pt.locs, Pt.cells, Pt.slots] at X4 l4 y4 z4 st4 hQ4
  subst l4 y4 z4
  obtain ⟨rfl, N4q, K4q, V4q⟩ := hQ4
  have N4 := Fr.app N1 N4q
  have c4_E_a2 := E_a2.keep K4q
  have c4_F_a2_coder := F_c2.keep K4q (fun q => n_2v (List.mem_singleton.mp q))
  have c4_F_a2_value := F_v2.keep K4q (fun q => n_2v (List.mem_singleton.mp q))
  have c4_V_sb2 := V_2.keep K4q (fun q => n_bv (List.mem_singleton.mp q))
  have c4_E_a1 := E_a1.keep K4q
  have c4_F_a1_value := F_v1.keep K4q (fun q => n_1v (List.mem_singleton.mp q))
  have c4_F_a1_coder := F_c1.keep K4q (fun q => n_1v (List.mem_singleton.mp q))
  have c4_F_a1_count := F_n1.keep K4q (fun q => n_1v (List.mem_singleton.mp q))
  have O4 := O0.keep K4q (allS g_sbv all0)
  have K4 := (Keep.refl h0 [a1, sbv]).trans K4q (allS (Or.inl (List.mem_of_getElem? (i := 1) rfl)) all0)
  have zk4 := (Nat.le_trans (Nat.zero_le _) K4q.1)
  refine og (B := T4.setTop (mkF m 18 #[rv a1, iv c1, rv a2] [])) (fun _ => st4.trans) ?_
  obtain ⟨fs, hr, hrun, hended, hW, hsame⟩ := X4.leave (v := none) (fun _ => rfl)
  refine ⟨_, _, ?_, hrun, hended, _, _, rfl, ?_, ⟨_, rfl⟩, hW, hsame.mono (by decide) (by decide)⟩
  · show own_S p e below T4 (mkF m 18 #[rv a1, iv c1, rv a2] []) _
    exact X4.returnOut hx Bd.returns (hb hby d16_18) hr
  · show Q16 Z a1 a2 sbv sb2 kv kb c1 m1 dl xl nl GC h0 n0 _ T4.heap _
    exact ⟨rfl, N4, K4, c4_E_a1, c4_F_a1_value, c4_F_a1_coder, c4_F_a1_count, V4q⟩
theorem pn_12 : plainName "java/lang/AbstractStringBuilder" = true := by first | (simp [plainName, overriddenIn]; done) | decide +kernel
theorem d12_0 : decode jdk_68_method_22_code 0 = .ok (.aload_n 1, 1) := by decide +kernel
theorem d12_1 : decode jdk_68_method_22_code 1 = .ok (.ifnonnull 8, 3) := by decide +kernel
theorem d12_9 : decode jdk_68_method_22_code 9 = .ok (.aload_n 1, 1) := by decide +kernel
theorem d12_10 : decode jdk_68_method_22_code 10 = .ok (.invokevirtual 32, 3) := by decide +kernel
theorem d12_13 : decode jdk_68_method_22_code 13 = .ok (.istore_n 2, 1) := by decide +kernel
theorem d12_14 : decode jdk_68_method_22_code 14 = .ok (.aload_n 0, 1) := by decide +kernel
theorem d12_15 : decode jdk_68_method_22_code 15 = .ok (.aload_n 0, 1) := by decide +kernel
theorem d12_16 : decode jdk_68_method_22_code 16 = .ok (.getfield 79, 3) := by decide +kernel
theorem d12_19 : decode jdk_68_method_22_code 19 = .ok (.iload_n 2, 1) := by decide +kernel
theorem d12_20 : decode jdk_68_method_22_code 20 = .ok (.iadd, 1) := by decide +kernel
theorem d12_21 : decode jdk_68_method_22_code 21 = .ok (.invokevirtual 100, 3) := by decide +kernel
theorem d12_24 : decode jdk_68_method_22_code 24 = .ok (.aload_n 0, 1) := by decide +kernel
theorem d12_25 : decode jdk_68_method_22_code 25 = .ok (.aload_n 0, 1) := by decide +kernel
theorem d12_26 : decode jdk_68_method_22_code 26 = .ok (.getfield 79, 3) := by decide +kernel
theorem d12_29 : decode jdk_68_method_22_code 29 = .ok (.aload_n 1, 1) := by decide +kernel
theorem d12_30 : decode jdk_68_method_22_code 30 = .ok (.invokevirtual 208, 3) := by decide +kernel
theorem d12_33 : decode jdk_68_method_22_code 33 = .ok (.aload_n 0, 1) := by decide +kernel
theorem d12_34 : decode jdk_68_method_22_code 34 = .ok (.dup, 1) := by decide +kernel
theorem d12_35 : decode jdk_68_method_22_code 35 = .ok (.getfield 79, 3) := by decide +kernel
theorem d12_38 : decode jdk_68_method_22_code 38 = .ok (.iload_n 2, 1) := by decide +kernel
theorem d12_39 : decode jdk_68_method_22_code 39 = .ok (.iadd, 1) := by decide +kernel
theorem d12_40 : decode jdk_68_method_22_code 40 = .ok (.putfield 79, 3) := by decide +kernel
theorem d12_43 : decode jdk_68_method_22_code 43 = .ok (.aload_n 0, 1) := by decide +kernel
theorem d12_44 : decode jdk_68_method_22_code 44 = .ok (.areturn, 1) := by decide +kernel
theorem ef_12 (m : MethodId) (x0 : Addr) (x1 : Addr) : entryFrame m #[(.ref x0), (.ref x1)] 3 = mkF m 0 #[.val (.ref x0), .val (.ref x1), .unset] [] := by first | (simp [entryFrame, mkF, argsToLocals, Value.category]; done) | rfl
def Q12 (Z : State) (a1 : Addr) (a2 : Addr) (sbv : Addr) (sb2 : Addr) (kv : ClassId) (kb : ClassId) (c1 : Int32) (m1 : Int32) (dl : List Value) (xl : List Value) (nl : List Value) (GC : Int32) (h0 : Heap) (n0 : Nat) (v : Option Value) (h : Heap) (L : List Loc) : Prop := own_QP Z a1 sbv kv (some (.ref a1)) (c1 + m1) nl h0 n0 v h L
set_option maxRecDepth 65536 in
set_option maxHeartbeats 40000000 in
theorem rm12 (l : Launch) (Z : State) (a0 : Array Value) (hw : ∀ d ∈ tables_1, d.before a0 Z = true) (ws : List Jvm.Cond) (a1 : Addr) (a2 : Addr) (sbv : Addr) (sb2 : Addr) (kv : ClassId) (kb : ClassId) (c1 : Int32) (m1 : Int32) (dl : List Value) (xl : List Value) (nl : List Value) (GC : Int32) (h0 : Heap) (n0 : Nat) (Z0 : n0 ≤ h0.size) (S_C : Sta Z Z.heap "java/lang/String" "COMPACT_STRINGS" "Z" (.int GC)) (hGC : ¬ GC = (0 : Int32)) (O0 : Old Z n0 h0) (E_a1 : Exa Z h0 a1 "java/lang/StringBuilder") (g_a1 : n0 ≤ a1) (F_v1 : Fld Z h0 a1 "java/lang/AbstractStringBuilder" "value" "[B" (.ref sbv)) (F_c1 : Fld Z h0 a1 "java/lang/AbstractStringBuilder" "coder" "B" (.int 0)) (F_n1 : Fld Z h0 a1 "java/lang/AbstractStringBuilder" "count" "I" (.int c1)) (V_v : Arv Z h0 sbv kv .byte (16 : Int32) dl (.int 0)) (g_v : n0 ≤ sbv) (E_a2 : Exa Z h0 a2 "java/lang/String") (F_c2 : Fld Z h0 a2 "java/lang/String" "coder" "B" (.int 0)) (F_v2 : Fld Z h0 a2 "java/lang/String" "value" "[B" (.ref sb2)) (V_2 : Arv Z h0 sb2 kb .byte m1 xl (.int 0)) (n_2v : a2 ≠ sbv) (n_bv : sb2 ≠ sbv) (n_1v : a1 ≠ sbv) (n_12 : a1 ≠ a2) (n_1b : a1 ≠ sb2) (hcap : ¬ (0 : Int32) < ((c1 + m1) - (16 : Int32))) (hM : MetFree l own_y18 (head1 (Jvm.Cond.code own_y18 jdk_68_method_73_code 3 none :: []) ({ frames := 2, cells := 0, slots := 0, locals := 33 } : Room)) (fun a U => a = #[(.ref a1), (.int c1), (.ref a2)] ∧ Z.Warmed39 U.vm ∧ U.heap = h0) (fun _ _ _ _ _ => True) (fun _ U o U' => ∃ v L, o = .returned v ∧ own_QP Z a1 sbv kv none c1 nl h0 n0 v U'.heap L ∧ FrameEnd U o U' L ({ frames := 2, cells := 0, slots := 0, locals := 33 } : Room).cells ({ frames := 2, cells := 0, slots := 0, locals := 33 } : Room).slots)) :
    MetFree l own_y19 (head1 (Jvm.Cond.code own_y19 jdk_68_method_22_code 3 (some (.object "java/lang/AbstractStringBuilder")) :: ws) ({ frames := 3, cells := 0, slots := 0, locals := 47 } : Room)) (fun a U => a = #[(.ref a1), (.ref a2)] ∧ Z.Warmed39 U.vm ∧ U.heap = h0) (fun _ _ _ _ _ => True) (fun _ U o U' => ∃ v L, o = .returned v ∧ Q12 Z a1 a2 sbv sb2 kv kb c1 m1 dl xl nl GC h0 n0 v U'.heap L ∧ FrameEnd U o U' L ({ frames := 3, cells := 0, slots := 0, locals := 47 } : Room).cells ({ frames := 3, cells := 0, slots := 0, locals := 47 } : Room).slots) := by
  refine MetFree.of_bodySF (plainFor_of_name pn_12) hisR ?_
  intro p e s m args below meth c s₁ Bd hml0 hP hK
  obtain ⟨rfl, hZ, hh⟩ := hP
  have hx := Bd.exec
  have hby := Bd.bytes
  have hml : c.maxLocals = 3 := hml0
  have hown : s.vm.findClass "java/lang/AbstractStringBuilder" = some m.cls := findClass_of_methodNamed Bd.named
  have hnm := (name_of_methodNamed Bd.named Bd.method).1
  have X0 : Stand p l e ({ frames := 3, cells := 0, slots := 0, locals := 47 } : Room) s m #[(.ref a1), (.ref a2)] below meth c s₁ [] 0 0 := Stand.of_body Bd
  have e0 : s₁.heap = h0 := by rw [← hh, Bd.state]; rfl
  have N0 := Fr.nil n0
  refine og (B := s₁.setTop (mkF m 0 #[rv a1, rv a2, .unset] [])) (fun t k => castTop (ef_12 m a1 a2) k) ?_
  have g_sbv := g_v
  refine og (B := s₁.setTop (mkF m 10 #[rv a1, rv a2, .unset] [(.ref a2)])) (fun t k => ?_) ?_
  · refine XS.aloadN X0.here hx rfl (hb hby d12_0) rfl rfl ?_
    refine XS.ifnonnullYes X0.here hx rfl (pc0 := 1) (pc' := 9) rfl (hb hby d12_1) rfl (by decide) (by decide) ?_
    refine XS.aloadN X0.here hx rfl (hb hby d12_9) rfl rfl ?_
    exact k
  obtain ⟨cq1, kq1, q1a, q1b, q1c⟩ := isOf hZ e0 E_a2
  obtain ⟨_, _, ⟨T1, L1, k1, n1⟩, -, X1, ⟨Lc1, hQ1, l1, y1, z1⟩, st1⟩ := X0.virtualBack hx (y := own_y2) (z := own_y2) hown (mvT hZ (ow hw 69 rfl)) (mvT hZ (ow hw 70 rfl)) (notFace_of_selects (args := #[]) (mvT hZ (ow hw 72 rfl))) (mvT hZ (ow hw 72 rfl)) (mvT hZ (ow hw 71 rfl)) (by decide) (backOf (W := 0) (rm13 l Z a0 hw [] a2 sb2 kb m1 xl (.int 0) GC h0 n0 Z0 S_C hGC O0 E_a2 F_c2 F_v2 V_2) hZ (ow hw 73 rfl) (ow hw 2 rfl) (by decide) (by decide)) q1a q1c (g := (mkF m 10 #[rv a1, rv a2, .unset] [(.ref a2)])) rfl (by rw [hml]; rfl) (Steps.refl _) (argsL := []) (rest := []) (lenOf own_pd12 rfl) rfl (Nat.le_refl _) (hb hby d12_10) (fun _ _ => ⟨rfl, e0, (by decide : 0 + 0 ≤ _), (by decide : 0 + 0 ≤ _)⟩)
  dsimp only [Pt.U, Pt.locs, Pt.cells, Pt.slots] at X1 l1 y1 z1 st1 hQ1
  subst l1 y1 z1
  obtain ⟨rfl, N1q, eq1⟩ := hQ1
  have N1 := Fr.app N0 N1q
  refine og (B := T1.setTop (mkF m 13 #[rv a1, rv a2, .unset] [(.int m1)])) (fun _ => st1.trans) ?_
  refine og (B := T1.setTop (mkF m 16 #[rv a1, rv a2, iv m1] [(.ref a1), (.ref a1)])) (fun t k => ?_) ?_
  · refine XS.istoreN X1.here hx rfl (hb hby d12_13) rfl (l' := #[rv a1, rv a2, iv m1]) rfl ?_
    refine XS.aloadN X1.here hx rfl (hb hby d12_14) rfl rfl ?_
    refine XS.aloadN X1.here hx rfl (hb hby d12_15) rfl rfl ?_
    exact k
  obtain ⟨T2, X2, e2, st2⟩ := getF X1 hx hZ hown (host := "") (Or.inl (ow hw 79 rfl)) Via.refl eq1 F_n1 (g := (mkF m 16 #[rv a1, rv a2, iv m1] [(.ref a1), (.ref a1)])) rfl rfl (hb hby d12_16)
  refine og (B := T2.setTop (mkF m 19 #[rv a1, rv a2, iv m1] [(.int c1), (.ref a1)])) st2 ?_
  refine og (B := T2.setTop (mkF m 21 #[rv a1, rv a2, iv m1] [(.int (c1 + m1)), (.ref a1)])) (fun t k => ?_) ?_
  · refine XS.iloadN X2.here hx rfl (hb hby d12_19) rfl ?_
    refine XS.iadd X2.here hx rfl (hb hby d12_20) rfl ?_
    exact k
  obtain ⟨cq3, kq3, q3a, q3b, q3c⟩ := isOf hZ e2 E_a1
  obtain ⟨_, _, ⟨T3, L3, k3, n3⟩, -, X3, ⟨Lc3, hQ3, l3, y3, z3⟩, st3⟩ := X2.virtualBack hx (y := own_y15) (z := own_y15) hown (mvT hZ (ow hw 81 rfl)) (mvT hZ (own_decl (ow hw 82 rfl) (ow hw 85 rfl))) (notFace_of_selects (args := #[]) (mvT hZ (ow hw 84 rfl))) (mvT hZ (ow hw 84 rfl)) (mvT hZ (ow hw 82 rfl)) (by decide) (backOf (W := 0) (rm15 l Z a0 hw [] a1 (c1 + m1) sbv kv dl h0 n0 Z0 F_v1 F_c1 V_v hcap) hZ (ow hw 85 rfl) (ow hw 51 rfl) (by decide) (by decide)) q3a q3c (g := (mkF m 21 #[rv a1, rv a2, iv m1] [(.int (c1 + m1)), (.ref a1)])) rfl (by rw [hml]; rfl) (Steps.refl _) (argsL := [(.int (c1 + m1))]) (rest := []) (lenOf own_pd9 rfl) rfl (Nat.le_refl _) (hb hby d12_21) (fun _ _ => ⟨rfl, e2, (by decide : 0 + 0 ≤ _), (by decide : 0 + 0 ≤ _)⟩)
  dsimp only [Pt.U, Pt.locs, Pt.cells, Pt.slots] at X3 l3 y3 z3 st3 hQ3
  subst l3 y3 z3
  obtain ⟨rfl, N3q, eq3⟩ := hQ3
  have N3 := Fr.app N1 N3q
  refine og (B := T3.setTop (mkF m 24 #[rv a1, rv a2, iv m1] [])) (fun _ => st3.trans) ?_
  refine og (B := T3.setTop (mkF m 26 #[rv a1, rv a2, iv m1] [(.ref a1), (.ref a1)])) (fun t k => ?_) ?_
  · refine XS.aloadN X3.here hx rfl (hb hby d12_24) rfl rfl ?_
    refine XS.aloadN X3.here hx rfl (hb hby d12_25) rfl rfl ?_
    exact k
  obtain ⟨T4, X4, e4, st4⟩ := getF X3 hx hZ hown (host := "") (Or.inl (ow hw 79 rfl)) Via.refl eq3 F_n1 (g := (mkF m 26 #[rv a1, rv a2, iv m1] [(.ref a1), (.ref a1)])) rfl rfl (hb hby d12_26)
  refine og (B := T4.setTop (mkF m 29 #[rv a1, rv a2, iv m1] [(.int c1), (.ref a1)])) st4 ?_
  refine og (B := T4.setTop (mkF m 30 #[rv a1, rv a2, iv m1] [(.ref a2), (.int c1), (.ref a1)])) (fun t k => ?_) ?_
  · refine XS.aloadN X4.here hx rfl (hb hby d12_29) rfl rfl ?_
    exact k
  obtain ⟨cq5, kq5, q5a, q5b, q5c⟩ := isOf hZ e4 E_a1
  obtain ⟨_, _, ⟨T5, L5, k5, n5⟩, -, X5, ⟨Lc5, hQ5, l5, y5, z5⟩, st5⟩ := X4.virtualBack hx (y := own_y18) (z := own_y18) hown (mvT hZ (ow hw 86 rfl)) (mvT hZ (own_decl (ow hw 87 rfl) (ow hw 90 rfl))) (notFace_of_selects (args := #[]) (mvT hZ (ow hw 89 rfl))) (mvT hZ (ow hw 89 rfl)) (mvT hZ (ow hw 87 rfl)) (by decide) (backOf (W := 0) (hM) hZ (ow hw 90 rfl) (ow hw 51 rfl) (by decide) (by decide)) q5a q5c (g := (mkF m 30 #[rv a1, rv a2, iv m1] [(.ref a2), (.int c1), (.ref a1)])) rfl (by rw [hml]; rfl) (Steps.refl _) (argsL := [(.int c1), (.ref a2)]) (rest := []) (lenOf own_pd13 rfl) rfl (Nat.le_refl _) (hb hby d12_30) (fun _ _ => ⟨rfl, e4, (by decide : 0 + 0 ≤ _), (by decide : 0 + 0 ≤ _)⟩)
  dsimp only [Pt.U, Pt.locs, Pt.cells, Pt.slots] at X5 l5 y5 z5 st5 hQ5
  subst l5 y5 z5
  obtain ⟨rfl, N5q, K5q, E5q, F5v, F5c, F5n, V5q⟩ := hQ5
  have N5 := Fr.app N3 N5q
  have c5_E_a2 := E_a2.keep K5q
  have c5_F_a2_coder := F_c2.keep K5q (by simp only [List.mem_cons, List.not_mem_nil, or_false, not_or]; exact ⟨(Ne.symm n_12), n_2v⟩)
  have c5_F_a2_value := F_v2.keep K5q (by simp only [List.mem_cons, List.not_mem_nil, or_false, not_or]; exact ⟨(Ne.symm n_12), n_2v⟩)
  have c5_V_sb2 := V_2.keep K5q (by simp only [List.mem_cons, List.not_mem_nil, or_false, not_or]; exact ⟨(Ne.symm n_1b), n_bv⟩)
  have O5 := O0.keep K5q (allS g_a1 (allS g_sbv all0))
  have K5 := (Keep.refl h0 [a1, sbv]).trans K5q (allS (Or.inl (List.mem_of_getElem? (i := 0) rfl)) (allS (Or.inl (List.mem_of_getElem? (i := 1) rfl)) all0))
  have zk5 := (Nat.le_trans (Nat.zero_le _) K5q.1)
  refine og (B := T5.setTop (mkF m 33 #[rv a1, rv a2, iv m1] [])) (fun _ => st5.trans) ?_
  refine og (B := T5.setTop (mkF m 35 #[rv a1, rv a2, iv m1] [(.ref a1), (.ref a1)])) (fun t k => ?_) ?_
  · refine XS.aloadN X5.here hx rfl (hb hby d12_33) rfl rfl ?_
    refine XS.dup X5.here hx rfl (hb hby d12_34) rfl rfl ?_
    exact k
  obtain ⟨T6, X6, e6, st6⟩ := getF X5 hx hZ hown (host := "") (Or.inl (ow hw 79 rfl)) Via.refl rfl F5n (g := (mkF m 35 #[rv a1, rv a2, iv m1] [(.ref a1), (.ref a1)])) rfl rfl (hb hby d12_35)
  refine og (B := T6.setTop (mkF m 38 #[rv a1, rv a2, iv m1] [(.int c1), (.ref a1)])) st6 ?_
  refine og (B := T6.setTop (mkF m 40 #[rv a1, rv a2, iv m1] [(.int (c1 + m1)), (.ref a1)])) (fun t k => ?_) ?_
  · refine XS.iloadN X6.here hx rfl (hb hby d12_38) rfl ?_
    refine XS.iadd X6.here hx rfl (hb hby d12_39) rfl ?_
    exact k
  obtain ⟨T7, h7, X7, e7, W7, st7⟩ := putF X6 hx hZ hown (host := "") (Or.inl (ow hw 79 rfl)) Via.refl e6 F5n E5q (Or.inl (ow hw 80 rfl)) (ow hw 42 rfl) (ty := .int) (by decide) rfl rfl (g := (mkF m 40 #[rv a1, rv a2, iv m1] [(.int (c1 + m1)), (.ref a1)])) rfl rfl (hb hby d12_40)
  have c7_E_a2 := c5_E_a2.wr W7
  have c7_F_a2_coder := c5_F_a2_coder.other W7 (Or.inl (Ne.symm n_12))
  have c7_F_a2_value := c5_F_a2_value.other W7 (Or.inl (Ne.symm n_12))
  have c7_V_sb2 := c5_V_sb2.other W7 (Ne.symm n_1b)
  have c7_E_a1 := E5q.wr W7
  have c7_F_a1_value := F5v.other W7 (Or.inr (slot_ne (Or.inl (ow hw 56 rfl)) (Or.inl (ow hw 80 rfl)) (by decide) (t := (.array .byte)) (t' := .int) (by decide) (by decide)))
  have c7_F_a1_coder := F5c.other W7 (Or.inr (slot_ne (Or.inl (ow hw 58 rfl)) (Or.inl (ow hw 80 rfl)) (by decide) (t := .byte) (t' := .int) (by decide) (by decide)))
  have c7_F_a1_count := F5n.same W7
  have c7_V_sbv := V5q.other W7 (Ne.symm n_1v)
  have K7 := K5.wr W7 (Or.inl (List.mem_of_getElem? (i := 0) rfl))
  have O7 := O5.wr W7 g_a1
  have N7 := Fr.snoc X7 N5 g_a1
  have zs7 := (Nat.le_trans (Nat.le_trans Z0 K5q.1) (Keep.of_wr W7).1)
  have zk7 := (Nat.le_trans zk5 (Keep.of_wr W7).1)
  refine og (B := T7.setTop (mkF m 43 #[rv a1, rv a2, iv m1] [])) st7 ?_
  obtain ⟨fs, hr, hrun, hended, hW, hsame⟩ := X7.leave (v := some (.ref a1)) (fun h => by rw [Bd.returns] at h; cases h)
  refine ⟨_, _, ?_, hrun, hended, _, _, rfl, ?_, ⟨_, rfl⟩, hW, hsame.mono (by decide) (by decide)⟩
  · refine XS.aloadN X7.here hx rfl (hb hby d12_43) rfl rfl ?_
    show own_S p e below T7 (mkF m 44 #[rv a1, rv a2, iv m1] [(.ref a1)]) _
    jvm_step X7.here [X7.here.top, hx, (hb hby d12_44), X7.method', Bd.returns, Value.isRef, FieldType.isReference]
    first | (intro acts; rw [hr _ acts rfl rfl rfl]) | rw [hr _ _ rfl rfl rfl]
    exact Steps.refl _
  · show Q12 Z a1 a2 sbv sb2 kv kb c1 m1 dl xl nl GC h0 n0 _ T7.heap _
    rw [e7]
    exact ⟨rfl, N7, K7, c7_E_a1, c7_F_a1_value, c7_F_a1_coder, c7_F_a1_count, c7_V_sbv⟩
theorem pn_11 : plainName "java/lang/StringBuilder" = true := by first | (simp [plainName, overriddenIn]; done) | decide +kernel
theorem d11_0 : decode jdk_67_method_7_code 0 = .ok (.aload_n 0, 1) := by decide +kernel
theorem d11_1 : decode jdk_67_method_7_code 1 = .ok (.aload_n 1, 1) := by decide +kernel
theorem d11_2 : decode jdk_67_method_7_code 2 = .ok (.invokespecial 29, 3) := by decide +kernel
theorem d11_5 : decode jdk_67_method_7_code 5 = .ok (.pop, 1) := by decide +kernel
theorem d11_6 : decode jdk_67_method_7_code 6 = .ok (.aload_n 0, 1) := by decide +kernel
theorem d11_7 : decode jdk_67_method_7_code 7 = .ok (.areturn, 1) := by decide +kernel
theorem ef_11 (m : MethodId) (x0 : Addr) (x1 : Addr) : entryFrame m #[(.ref x0), (.ref x1)] 2 = mkF m 0 #[.val (.ref x0), .val (.ref x1)] [] := by first | (simp [entryFrame, mkF, argsToLocals, Value.category]; done) | rfl
def Q11 (Z : State) (a1 : Addr) (a2 : Addr) (sbv : Addr) (sb2 : Addr) (kv : ClassId) (kb : ClassId) (c1 : Int32) (m1 : Int32) (dl : List Value) (xl : List Value) (nl : List Value) (GC : Int32) (h0 : Heap) (n0 : Nat) (v : Option Value) (h : Heap) (L : List Loc) : Prop := own_QP Z a1 sbv kv (some (.ref a1)) (c1 + m1) nl h0 n0 v h L
set_option maxRecDepth 65536 in
set_option maxHeartbeats 40000000 in
theorem rm11 (l : Launch) (Z : State) (a0 : Array Value) (hw : ∀ d ∈ tables_1, d.before a0 Z = true) (ws : List Jvm.Cond) (a1 : Addr) (a2 : Addr) (sbv : Addr) (sb2 : Addr) (kv : ClassId) (kb : ClassId) (c1 : Int32) (m1 : Int32) (dl : List Value) (xl : List Value) (nl : List Value) (GC : Int32) (h0 : Heap) (n0 : Nat) (Z0 : n0 ≤ h0.size) (S_C : Sta Z Z.heap "java/lang/String" "COMPACT_STRINGS" "Z" (.int GC)) (hGC : ¬ GC = (0 : Int32)) (O0 : Old Z n0 h0) (E_a1 : Exa Z h0 a1 "java/lang/StringBuilder") (g_a1 : n0 ≤ a1) (F_v1 : Fld Z h0 a1 "java/lang/AbstractStringBuilder" "value" "[B" (.ref sbv)) (F_c1 : Fld Z h0 a1 "java/lang/AbstractStringBuilder" "coder" "B" (.int 0)) (F_n1 : Fld Z h0 a1 "java/lang/AbstractStringBuilder" "count" "I" (.int c1)) (V_v : Arv Z h0 sbv kv .byte (16 : Int32) dl (.int 0)) (g_v : n0 ≤ sbv) (E_a2 : Exa Z h0 a2 "java/lang/String") (F_c2 : Fld Z h0 a2 "java/lang/String" "coder" "B" (.int 0)) (F_v2 : Fld Z h0 a2 "java/lang/String" "value" "[B" (.ref sb2)) (V_2 : Arv Z h0 sb2 kb .byte m1 xl (.int 0)) (n_2v : a2 ≠ sbv) (n_bv : sb2 ≠ sbv) (n_1v : a1 ≠ sbv) (n_12 : a1 ≠ a2) (n_1b : a1 ≠ sb2) (hcap : ¬ (0 : Int32) < ((c1 + m1) - (16 : Int32))) (hM : MetFree l own_y19 (head1 (Jvm.Cond.code own_y19 jdk_68_method_22_code 3 (some (.object "java/lang/AbstractStringBuilder")) :: []) ({ frames := 3, cells := 0, slots := 0, locals := 47 } : Room)) (fun a U => a = #[(.ref a1), (.ref a2)] ∧ Z.Warmed39 U.vm ∧ U.heap = h0) (fun _ _ _ _ _ => True) (fun _ U o U' => ∃ v L, o = .returned v ∧ own_QP Z a1 sbv kv (some (.ref a1)) (c1 + m1) nl h0 n0 v U'.heap L ∧ FrameEnd U o U' L ({ frames := 3, cells := 0, slots := 0, locals := 47 } : Room).cells ({ frames := 3, cells := 0, slots := 0, locals := 47 } : Room).slots)) :
    MetFree l own_y20 (head1 (Jvm.Cond.code own_y20 jdk_67_method_7_code 2 (some (.object "java/lang/StringBuilder")) :: ws) ({ frames := 4, cells := 0, slots := 0, locals := 61 } : Room)) (fun a U => a = #[(.ref a1), (.ref a2)] ∧ Z.Warmed39 U.vm ∧ U.heap = h0) (fun _ _ _ _ _ => True) (fun _ U o U' => ∃ v L, o = .returned v ∧ Q11 Z a1 a2 sbv sb2 kv kb c1 m1 dl xl nl GC h0 n0 v U'.heap L ∧ FrameEnd U o U' L ({ frames := 4, cells := 0, slots := 0, locals := 61 } : Room).cells ({ frames := 4, cells := 0, slots := 0, locals := 61 } : Room).slots) := by
  refine MetFree.of_bodySF (plainFor_of_name pn_11) hisR ?_
  intro p e s m args below meth c s₁ Bd hml0 hP hK
  obtain ⟨rfl, hZ, hh⟩ := hP
  have hx := Bd.exec
  have hby := Bd.bytes
  have hml : c.maxLocals = 2 := hml0
  have hown : s.vm.findClass "java/lang/StringBuilder" = some m.cls := findClass_of_methodNamed Bd.named
  have hnm := (name_of_methodNamed Bd.named Bd.method).1
  have X0 : Stand p l e ({ frames := 4, cells := 0, slots := 0, locals := 61 } : Room) s m #[(.ref a1), (.ref a2)] below meth c s₁ [] 0 0 := Stand.of_body Bd
  have e0 : s₁.heap = h0 := by rw [← hh, Bd.state]; rfl
  have N0 := Fr.nil n0
  refine og (B := s₁.setTop (mkF m 0 #[rv a1, rv a2] [])) (fun t k => castTop (ef_11 m a1 a2) k) ?_
  have g_sbv := g_v
  refine og (B := s₁.setTop (mkF m 2 #[rv a1, rv a2] [(.ref a2), (.ref a1)])) (fun t k => ?_) ?_
  · refine XS.aloadN X0.here hx rfl (hb hby d11_0) rfl rfl ?_
    refine XS.aloadN X0.here hx rfl (hb hby d11_1) rfl rfl ?_
    exact k
  obtain ⟨_, _, ⟨T1, L1, k1, n1⟩, -, X1, ⟨Lc1, hQ1, l1, y1, z1⟩, st1⟩ := superBack X0 hx hZ (y := own_y19) hown (ow hw 64 rfl) (own_same (ow hw 67 rfl) (by decide) (own_nfA hw rfl)) (ow hw 65 rfl) (ow hw 66 rfl) (by decide) (backOf (W := 0) (hM) hZ (ow hw 68 rfl) (ow hw 51 rfl) (by decide) (by decide)) e0 (Ins.self E_a1) (g := (mkF m 2 #[rv a1, rv a2] [(.ref a2), (.ref a1)])) rfl (by rw [hml]; rfl) (ow hw 68 rfl) (argsL := [(.ref a2)]) (rest := []) (lenOf own_pd14 rfl) rfl (Nat.le_refl _) (hb hby d11_2) (fun _ _ => ⟨rfl, e0, (by decide : 0 + 0 ≤ _), (by decide : 0 + 0 ≤ _)⟩)
  dsimp only [Pt.U, Pt.locs, Pt.cells, Pt.slots] at X1 l1 y1 z1 st1 hQ1
  subst l1 y1 z1
  obtain ⟨rfl, N1q, K1q, E1q, F1v, F1c, F1n, V1q⟩ := hQ1
  have N1 := Fr.app N0 N1q
  have c1_E_a2 := E_a2.keep K1q
  have c1_F_a2_coder := F_c2.keep K1q (by simp only [List.mem_cons, List.not_mem_nil, or_false, not_or]; exact ⟨(Ne.symm n_12), n_2v⟩)
  have c1_F_a2_value := F_v2.keep K1q (by simp only [List.mem_cons, List.not_mem_nil, or_false, not_or]; exact ⟨(Ne.symm n_12), n_2v⟩)
  have c1_V_sb2 := V_2.keep K1q (by simp only [List.mem_cons, List.not_mem_nil, or_false, not_or]; exact ⟨(Ne.symm n_1b), n_bv⟩)
  have O1 := O0.keep K1q (allS g_a1 (allS g_sbv all0))
  have K1 := (Keep.refl h0 [a1, sbv]).trans K1q (allS (Or.inl (List.mem_of_getElem? (i := 0) rfl)) (allS (Or.inl (List.mem_of_getElem? (i := 1) rfl)) all0))
  have zk1 := (Nat.le_trans (Nat.zero_le _) K1q.1)
  refine og (B := T1.setTop (mkF m 5 #[rv a1, rv a2] [(.ref a1)])) (fun _ => st1.trans) ?_
  obtain ⟨fs, hr, hrun, hended, hW, hsame⟩ := X1.leave (v := some (.ref a1)) (fun h => by rw [Bd.returns] at h; cases h)
  refine ⟨_, _, ?_, hrun, hended, _, _, rfl, ?_, ⟨_, rfl⟩, hW, hsame.mono (by decide) (by decide)⟩
  · refine XS.pop X1.here hx rfl (hb hby d11_5) rfl rfl ?_
    refine XS.aloadN X1.here hx rfl (hb hby d11_6) rfl rfl ?_
    show own_S p e below T1 (mkF m 7 #[rv a1, rv a2] [(.ref a1)]) _
    jvm_step X1.here [X1.here.top, hx, (hb hby d11_7), X1.method', Bd.returns, Value.isRef, FieldType.isReference]
    first | (intro acts; rw [hr _ acts rfl rfl rfl]) | rw [hr _ _ rfl rfl rfl]
    exact Steps.refl _
  · show Q11 Z a1 a2 sbv sb2 kv kb c1 m1 dl xl nl GC h0 n0 _ T1.heap _
    exact ⟨rfl, N1, K1, E1q, F1v, F1c, F1n, V1q⟩
theorem own_app (l : Launch) (Z : State) (a0 : Array Value) (hw : ∀ d ∈ tables_1, d.before a0 Z = true) (a1 : Addr) (a2 : Addr) (sbv : Addr) (sb2 : Addr) (kv : ClassId) (kb : ClassId) (c1 : Int32) (m1 : Int32) (dl : List Value) (xl : List Value) (nl : List Value) (GC : Int32) (h0 : Heap) (n0 : Nat) (Z0 : n0 ≤ h0.size) (S_C : Sta Z Z.heap "java/lang/String" "COMPACT_STRINGS" "Z" (.int GC)) (hGC : ¬ GC = (0 : Int32)) (O0 : Old Z n0 h0) (E_a1 : Exa Z h0 a1 "java/lang/StringBuilder") (g_a1 : n0 ≤ a1) (F_v1 : Fld Z h0 a1 "java/lang/AbstractStringBuilder" "value" "[B" (.ref sbv)) (F_c1 : Fld Z h0 a1 "java/lang/AbstractStringBuilder" "coder" "B" (.int 0)) (F_n1 : Fld Z h0 a1 "java/lang/AbstractStringBuilder" "count" "I" (.int c1)) (V_v : Arv Z h0 sbv kv .byte (16 : Int32) dl (.int 0)) (g_v : n0 ≤ sbv) (E_a2 : Exa Z h0 a2 "java/lang/String") (F_c2 : Fld Z h0 a2 "java/lang/String" "coder" "B" (.int 0)) (F_v2 : Fld Z h0 a2 "java/lang/String" "value" "[B" (.ref sb2)) (V_2 : Arv Z h0 sb2 kb .byte m1 xl (.int 0)) (n_2v : a2 ≠ sbv) (n_bv : sb2 ≠ sbv) (n_1v : a1 ≠ sbv) (n_12 : a1 ≠ a2) (n_1b : a1 ≠ sb2) (hcap : ¬ (0 : Int32) < ((c1 + m1) - (16 : Int32))) (hM : MetFree l own_y17 (head1 (Jvm.Cond.code own_y17 jdk_42_method_147_code 4 none :: []) ({ frames := 1, cells := 0, slots := 0, locals := 18 } : Room)) (fun a U => a = #[(.ref a2), (.ref sbv), (.int c1), (.int 0)] ∧ Z.Warmed39 U.vm ∧ U.heap = h0) (fun _ _ _ _ _ => True) (fun _ U o U' => ∃ v L, o = .returned v ∧ own_QG Z sbv kv nl h0 n0 v U'.heap L ∧ FrameEnd U o U' L ({ frames := 1, cells := 0, slots := 0, locals := 18 } : Room).cells ({ frames := 1, cells := 0, slots := 0, locals := 18 } : Room).slots)) :
    MetFree l own_y20 (head1 (Jvm.Cond.code own_y20 jdk_67_method_7_code 2 (some (.object "java/lang/StringBuilder")) :: []) ({ frames := 4, cells := 0, slots := 0, locals := 61 } : Room)) (fun a U => a = #[(.ref a1), (.ref a2)] ∧ Z.Warmed39 U.vm ∧ U.heap = h0) (fun _ _ _ _ _ => True) (fun _ U o U' => ∃ v L, o = .returned v ∧ own_QP Z a1 sbv kv (some (.ref a1)) (c1 + m1) nl h0 n0 v U'.heap L ∧ FrameEnd U o U' L ({ frames := 4, cells := 0, slots := 0, locals := 61 } : Room).cells ({ frames := 4, cells := 0, slots := 0, locals := 61 } : Room).slots) :=
  rm11 l Z a0 hw [] a1 a2 sbv sb2 kv kb c1 m1 dl xl nl GC h0 n0 Z0 S_C hGC O0 E_a1 g_a1 F_v1 F_c1 F_n1 V_v g_v E_a2 F_c2 F_v2 V_2 n_2v n_bv n_1v n_12 n_1b hcap (rm12 l Z a0 hw [] a1 a2 sbv sb2 kv kb c1 m1 dl xl nl GC h0 n0 Z0 S_C hGC O0 E_a1 g_a1 F_v1 F_c1 F_n1 V_v g_v E_a2 F_c2 F_v2 V_2 n_2v n_bv n_1v n_12 n_1b hcap (rm16 l Z a0 hw [] a1 a2 sbv sb2 kv kb c1 m1 dl xl nl GC h0 n0 Z0 S_C hGC O0 E_a1 g_a1 F_v1 F_c1 F_n1 V_v g_v E_a2 F_c2 F_v2 V_2 n_2v n_bv n_1v n_12 n_1b hcap hM))
theorem pn_25 : plainName "java/lang/AbstractStringBuilder" = true := by first | (simp [plainName, overriddenIn]; done) | decide +kernel
theorem d25_0 : decode jdk_68_method_64_code 0 = .ok (.aload_n 0, 1) := by decide +kernel
theorem d25_1 : decode jdk_68_method_64_code 1 = .ok (.getfield 15, 3) := by decide +kernel
theorem d25_4 : decode jdk_68_method_64_code 4 = .ok (.areturn, 1) := by decide +kernel
theorem ef_25 (m : MethodId) (x0 : Addr) : entryFrame m #[(.ref x0)] 1 = mkF m 0 #[.val (.ref x0)] [] := by first | (simp [entryFrame, mkF, argsToLocals, Value.category]; done) | rfl
def Q25 (Z : State) (a1 : Addr) (sbv : Addr) (h0 : Heap) (n0 : Nat) (v : Option Value) (h : Heap) (L : List Loc) : Prop := v = some (.ref sbv) ∧ Fr n0 L ∧ h = h0
set_option maxRecDepth 65536 in
set_option maxHeartbeats 40000000 in
theorem rm25 (l : Launch) (Z : State) (a0 : Array Value) (hw : ∀ d ∈ tables_1, d.before a0 Z = true) (ws : List Jvm.Cond) (a1 : Addr) (sbv : Addr) (h0 : Heap) (n0 : Nat) (Z0 : n0 ≤ h0.size) (E_a1 : Exa Z h0 a1 "java/lang/StringBuilder") (F_1 : Fld Z h0 a1 "java/lang/AbstractStringBuilder" "value" "[B" (.ref sbv)) :
    MetFree l own_y21 (head1 (Jvm.Cond.code own_y21 jdk_68_method_64_code 1 (some (.array .byte)) :: ws) ({ frames := 0, cells := 0, slots := 0, locals := 0 } : Room)) (fun a U => a = #[(.ref a1)] ∧ Z.Warmed39 U.vm ∧ U.heap = h0) (fun _ _ _ _ _ => True) (fun _ U o U' => ∃ v L, o = .returned v ∧ Q25 Z a1 sbv h0 n0 v U'.heap L ∧ FrameEnd U o U' L ({ frames := 0, cells := 0, slots := 0, locals := 0 } : Room).cells ({ frames := 0, cells := 0, slots := 0, locals := 0 } : Room).slots) := by
  refine MetFree.of_bodySF (plainFor_of_name pn_25) hisR ?_
  intro p e s m args below meth c s₁ Bd hml0 hP hK
  obtain ⟨rfl, hZ, hh⟩ := hP
  have hx := Bd.exec
  have hby := Bd.bytes
  have hml : c.maxLocals = 1 := hml0
  have hown : s.vm.findClass "java/lang/AbstractStringBuilder" = some m.cls := findClass_of_methodNamed Bd.named
  have hnm := (name_of_methodNamed Bd.named Bd.method).1
  have X0 : Stand p l e ({ frames := 0, cells := 0, slots := 0, locals := 0 } : Room) s m #[(.ref a1)] below meth c s₁ [] 0 0 := Stand.of_body Bd
  have e0 : s₁.heap = h0 := by rw [← hh, Bd.state]; rfl
  have N0 := Fr.nil n0
  refine og (B := s₁.setTop (mkF m 0 #[rv a1] [])) (fun t k => castTop (ef_25 m a1) k) ?_
  refine og (B := s₁.setTop (mkF m 1 #[rv a1] [(.ref a1)])) (fun t k => ?_) ?_
  · refine XS.aloadN X0.here hx rfl (hb hby d25_0) rfl rfl ?_
    exact k
  obtain ⟨T1, X1, e1, st1⟩ := getF X0 hx hZ hown (host := "") (Or.inl (ow hw 55 rfl)) Via.refl e0 F_1 (g := (mkF m 1 #[rv a1] [(.ref a1)])) rfl rfl (hb hby d25_1)
  refine og (B := T1.setTop (mkF m 4 #[rv a1] [(.ref sbv)])) st1 ?_
  obtain ⟨fs, hr, hrun, hended, hW, hsame⟩ := X1.leave (v := some (.ref sbv)) (fun h => by rw [Bd.returns] at h; cases h)
  refine ⟨_, _, ?_, hrun, hended, _, _, rfl, ?_, ⟨_, rfl⟩, hW, hsame.mono (by decide) (by decide)⟩
  · show own_S p e below T1 (mkF m 4 #[rv a1] [(.ref sbv)]) _
    jvm_step X1.here [X1.here.top, hx, (hb hby d25_4), X1.method', Bd.returns, Value.isRef, FieldType.isReference]
    first | (intro acts; rw [hr _ acts rfl rfl rfl]) | rw [hr _ _ rfl rfl rfl]
    exact Steps.refl _
  · show Q25 Z a1 sbv h0 n0 _ T1.heap _
    rw [e1]
    exact ⟨rfl, N0, rfl⟩
theorem pn_27 : plainName "java/lang/AbstractStringBuilder" = true := by first | (simp [plainName, overriddenIn]; done) | decide +kernel
theorem d27_0 : decode jdk_68_method_6_code 0 = .ok (.aload_n 0, 1) := by decide +kernel
theorem d27_1 : decode jdk_68_method_6_code 1 = .ok (.getfield 79, 3) := by decide +kernel
theorem d27_4 : decode jdk_68_method_6_code 4 = .ok (.ireturn, 1) := by decide +kernel
theorem ef_27 (m : MethodId) (x0 : Addr) : entryFrame m #[(.ref x0)] 1 = mkF m 0 #[.val (.ref x0)] [] := by first | (simp [entryFrame, mkF, argsToLocals, Value.category]; done) | rfl
def Q27 (Z : State) (a1 : Addr) (z1 : Int32) (h0 : Heap) (n0 : Nat) (v : Option Value) (h : Heap) (L : List Loc) : Prop := v = some (.int z1) ∧ Fr n0 L ∧ h = h0
set_option maxRecDepth 65536 in
set_option maxHeartbeats 40000000 in
theorem rm27 (l : Launch) (Z : State) (a0 : Array Value) (hw : ∀ d ∈ tables_1, d.before a0 Z = true) (ws : List Jvm.Cond) (a1 : Addr) (z1 : Int32) (h0 : Heap) (n0 : Nat) (Z0 : n0 ≤ h0.size) (E_a1 : Exa Z h0 a1 "java/lang/StringBuilder") (F_1 : Fld Z h0 a1 "java/lang/AbstractStringBuilder" "count" "I" (.int z1)) :
    MetFree l own_y22 (head1 (Jvm.Cond.code own_y22 jdk_68_method_6_code 1 (some .int) :: ws) ({ frames := 0, cells := 0, slots := 0, locals := 0 } : Room)) (fun a U => a = #[(.ref a1)] ∧ Z.Warmed39 U.vm ∧ U.heap = h0) (fun _ _ _ _ _ => True) (fun _ U o U' => ∃ v L, o = .returned v ∧ Q27 Z a1 z1 h0 n0 v U'.heap L ∧ FrameEnd U o U' L ({ frames := 0, cells := 0, slots := 0, locals := 0 } : Room).cells ({ frames := 0, cells := 0, slots := 0, locals := 0 } : Room).slots) := by
  refine MetFree.of_bodySF (plainFor_of_name pn_27) hisR ?_
  intro p e s m args below meth c s₁ Bd hml0 hP hK
  obtain ⟨rfl, hZ, hh⟩ := hP
  have hx := Bd.exec
  have hby := Bd.bytes
  have hml : c.maxLocals = 1 := hml0
  have hown : s.vm.findClass "java/lang/AbstractStringBuilder" = some m.cls := findClass_of_methodNamed Bd.named
  have hnm := (name_of_methodNamed Bd.named Bd.method).1
  have X0 : Stand p l e ({ frames := 0, cells := 0, slots := 0, locals := 0 } : Room) s m #[(.ref a1)] below meth c s₁ [] 0 0 := Stand.of_body Bd
  have e0 : s₁.heap = h0 := by rw [← hh, Bd.state]; rfl
  have N0 := Fr.nil n0
  refine og (B := s₁.setTop (mkF m 0 #[rv a1] [])) (fun t k => castTop (ef_27 m a1) k) ?_
  refine og (B := s₁.setTop (mkF m 1 #[rv a1] [(.ref a1)])) (fun t k => ?_) ?_
  · refine XS.aloadN X0.here hx rfl (hb hby d27_0) rfl rfl ?_
    exact k
  obtain ⟨T1, X1, e1, st1⟩ := getF X0 hx hZ hown (host := "") (Or.inl (ow hw 79 rfl)) Via.refl e0 F_1 (g := (mkF m 1 #[rv a1] [(.ref a1)])) rfl rfl (hb hby d27_1)
  refine og (B := T1.setTop (mkF m 4 #[rv a1] [(.int z1)])) st1 ?_
  obtain ⟨fs, hr, hrun, hended, hW, hsame⟩ := X1.leave (v := some (.int z1)) (fun h => by rw [Bd.returns] at h; cases h)
  refine ⟨_, _, ?_, hrun, hended, _, _, rfl, ?_, ⟨_, rfl⟩, hW, hsame.mono (by decide) (by decide)⟩
  · show own_S p e below T1 (mkF m 4 #[rv a1] [(.int z1)]) _
    exact retI X1 hx Bd.returns (hb hby d27_4) hr
  · show Q27 Z a1 z1 h0 n0 _ T1.heap _
    rw [e1]
    exact ⟨rfl, N0, rfl⟩
theorem pn_26 : plainName "java/lang/StringBuilder" = true := by first | (simp [plainName, overriddenIn]; done) | decide +kernel
theorem d26_0 : decode jdk_67_method_93_code 0 = .ok (.aload_n 0, 1) := by decide +kernel
theorem d26_1 : decode jdk_67_method_93_code 1 = .ok (.invokespecial 343, 3) := by decide +kernel
theorem d26_4 : decode jdk_67_method_93_code 4 = .ok (.ireturn, 1) := by decide +kernel
theorem ef_26 (m : MethodId) (x0 : Addr) : entryFrame m #[(.ref x0)] 1 = mkF m 0 #[.val (.ref x0)] [] := by first | (simp [entryFrame, mkF, argsToLocals, Value.category]; done) | rfl
def Q26 (Z : State) (a1 : Addr) (z1 : Int32) (h0 : Heap) (n0 : Nat) (v : Option Value) (h : Heap) (L : List Loc) : Prop := v = some (.int z1) ∧ Fr n0 L ∧ h = h0
set_option maxRecDepth 65536 in
set_option maxHeartbeats 40000000 in
theorem rm26 (l : Launch) (Z : State) (a0 : Array Value) (hw : ∀ d ∈ tables_1, d.before a0 Z = true) (ws : List Jvm.Cond) (a1 : Addr) (z1 : Int32) (h0 : Heap) (n0 : Nat) (Z0 : n0 ≤ h0.size) (E_a1 : Exa Z h0 a1 "java/lang/StringBuilder") (F_1 : Fld Z h0 a1 "java/lang/AbstractStringBuilder" "count" "I" (.int z1)) :
    MetFree l own_y23 (head1 (Jvm.Cond.code own_y23 jdk_67_method_93_code 1 (some .int) :: ws) ({ frames := 1, cells := 0, slots := 0, locals := 12 } : Room)) (fun a U => a = #[(.ref a1)] ∧ Z.Warmed39 U.vm ∧ U.heap = h0) (fun _ _ _ _ _ => True) (fun _ U o U' => ∃ v L, o = .returned v ∧ Q26 Z a1 z1 h0 n0 v U'.heap L ∧ FrameEnd U o U' L ({ frames := 1, cells := 0, slots := 0, locals := 12 } : Room).cells ({ frames := 1, cells := 0, slots := 0, locals := 12 } : Room).slots) := by
  refine MetFree.of_bodySF (plainFor_of_name pn_26) hisR ?_
  intro p e s m args below meth c s₁ Bd hml0 hP hK
  obtain ⟨rfl, hZ, hh⟩ := hP
  have hx := Bd.exec
  have hby := Bd.bytes
  have hml : c.maxLocals = 1 := hml0
  have hown : s.vm.findClass "java/lang/StringBuilder" = some m.cls := findClass_of_methodNamed Bd.named
  have hnm := (name_of_methodNamed Bd.named Bd.method).1
  have X0 : Stand p l e ({ frames := 1, cells := 0, slots := 0, locals := 12 } : Room) s m #[(.ref a1)] below meth c s₁ [] 0 0 := Stand.of_body Bd
  have e0 : s₁.heap = h0 := by rw [← hh, Bd.state]; rfl
  have N0 := Fr.nil n0
  refine og (B := s₁.setTop (mkF m 0 #[rv a1] [])) (fun t k => castTop (ef_26 m a1) k) ?_
  refine og (B := s₁.setTop (mkF m 1 #[rv a1] [(.ref a1)])) (fun t k => ?_) ?_
  · refine XS.aloadN X0.here hx rfl (hb hby d26_0) rfl rfl ?_
    exact k
  obtain ⟨_, _, ⟨T1, L1, k1, n1⟩, -, X1, ⟨Lc1, hQ1, l1, y1, z1⟩, st1⟩ := superBack X0 hx hZ (y := own_y22) hown (ow hw 145 rfl) (own_same (ow hw 140 rfl) (by decide) (own_nfA hw rfl)) (ow hw 141 rfl) (ow hw 66 rfl) (by decide) (backOf (W := 0) (rm27 l Z a0 hw [] a1 z1 h0 n0 Z0 E_a1 F_1) hZ (ow hw 146 rfl) (ow hw 51 rfl) (by decide) (by decide)) e0 (Ins.self E_a1) (g := (mkF m 1 #[rv a1] [(.ref a1)])) rfl (by rw [hml]; rfl) (ow hw 146 rfl) (argsL := []) (rest := []) (lenOf own_pd12 rfl) rfl (Nat.le_refl _) (hb hby d26_1) (fun _ _ => ⟨rfl, e0, (by decide : 0 + 0 ≤ _), (by decide : 0 + 0 ≤ _)⟩)
  dsimp only [Pt.U, Pt.locs, Pt.cells, Pt.slots] at X1 l1 y1 z1 st1 hQ1
  subst l1 y1 z1
  obtain ⟨rfl, N1q, eq1⟩ := hQ1
  have N1 := Fr.app N0 N1q
  refine og (B := T1.setTop (mkF m 4 #[rv a1] [(.int z1)])) (fun _ => st1.trans) ?_
  obtain ⟨fs, hr, hrun, hended, hW, hsame⟩ := X1.leave (v := some (.int z1)) (fun h => by rw [Bd.returns] at h; cases h)
  refine ⟨_, _, ?_, hrun, hended, _, _, rfl, ?_, ⟨_, rfl⟩, hW, hsame.mono (by decide) (by decide)⟩
  · show own_S p e below T1 (mkF m 4 #[rv a1] [(.int z1)]) _
    exact retI X1 hx Bd.returns (hb hby d26_4) hr
  · show Q26 Z a1 z1 h0 n0 _ T1.heap _
    rw [eq1]
    exact ⟨rfl, N1, rfl⟩
theorem pn_28 : plainName "java/lang/AbstractStringBuilder" = true := by first | (simp [plainName, overriddenIn]; done) | decide +kernel
theorem d28_0 : decode jdk_68_method_68_code 0 = .ok (.getstatic 18, 3) := by decide +kernel
theorem d28_3 : decode jdk_68_method_68_code 3 = .ok (.ifCond .eq 14, 3) := by decide +kernel
theorem d28_6 : decode jdk_68_method_68_code 6 = .ok (.aload_n 0, 1) := by decide +kernel
theorem d28_7 : decode jdk_68_method_68_code 7 = .ok (.getfield 22, 3) := by decide +kernel
theorem d28_10 : decode jdk_68_method_68_code 10 = .ok (.ifCond .ne 7, 3) := by decide +kernel
theorem d28_13 : decode jdk_68_method_68_code 13 = .ok (.iconst 1, 1) := by decide +kernel
theorem d28_14 : decode jdk_68_method_68_code 14 = .ok (.goto 4, 3) := by decide +kernel
theorem d28_18 : decode jdk_68_method_68_code 18 = .ok (.ireturn, 1) := by decide +kernel
theorem ef_28 (m : MethodId) (x0 : Addr) : entryFrame m #[(.ref x0)] 1 = mkF m 0 #[.val (.ref x0)] [] := by first | (simp [entryFrame, mkF, argsToLocals, Value.category]; done) | rfl
def Q28 (Z : State) (a1 : Addr) (GC : Int32) (h0 : Heap) (n0 : Nat) (v : Option Value) (h : Heap) (L : List Loc) : Prop := v = some (.int (1 : Int32)) ∧ Fr n0 L ∧ h = h0
set_option maxRecDepth 65536 in
set_option maxHeartbeats 40000000 in
theorem rm28 (l : Launch) (Z : State) (a0 : Array Value) (hw : ∀ d ∈ tables_1, d.before a0 Z = true) (ws : List Jvm.Cond) (a1 : Addr) (GC : Int32) (h0 : Heap) (n0 : Nat) (Z0 : n0 ≤ h0.size) (S_C : Sta Z Z.heap "java/lang/String" "COMPACT_STRINGS" "Z" (.int GC)) (hGC : ¬ GC = (0 : Int32)) (O0 : Old Z n0 h0) (E_a1 : Exa Z h0 a1 "java/lang/StringBuilder") (F_1 : Fld Z h0 a1 "java/lang/AbstractStringBuilder" "coder" "B" (.int 0)) :
    MetFree l own_y24 (head1 (Jvm.Cond.code own_y24 jdk_68_method_68_code 1 (some .boolean) :: ws) ({ frames := 0, cells := 0, slots := 0, locals := 0 } : Room)) (fun a U => a = #[(.ref a1)] ∧ Z.Warmed39 U.vm ∧ U.heap = h0) (fun _ _ _ _ _ => True) (fun _ U o U' => ∃ v L, o = .returned v ∧ Q28 Z a1 GC h0 n0 v U'.heap L ∧ FrameEnd U o U' L ({ frames := 0, cells := 0, slots := 0, locals := 0 } : Room).cells ({ frames := 0, cells := 0, slots := 0, locals := 0 } : Room).slots) := by
  refine MetFree.of_bodySF (plainFor_of_name pn_28) hisR ?_
  intro p e s m args below meth c s₁ Bd hml0 hP hK
  obtain ⟨rfl, hZ, hh⟩ := hP
  have hx := Bd.exec
  have hby := Bd.bytes
  have hml : c.maxLocals = 1 := hml0
  have hown : s.vm.findClass "java/lang/AbstractStringBuilder" = some m.cls := findClass_of_methodNamed Bd.named
  have hnm := (name_of_methodNamed Bd.named Bd.method).1
  have X0 : Stand p l e ({ frames := 0, cells := 0, slots := 0, locals := 0 } : Room) s m #[(.ref a1)] below meth c s₁ [] 0 0 := Stand.of_body Bd
  have e0 : s₁.heap = h0 := by rw [← hh, Bd.state]; rfl
  have N0 := Fr.nil n0
  refine og (B := s₁.setTop (mkF m 0 #[rv a1] [])) (fun t k => castTop (ef_28 m a1) k) ?_
  obtain ⟨T1, X1, e1, st1⟩ := getS2 X0 hx hZ hown (host := "") (Or.inl (ow hw 54 rfl)) Via.refl e0 (S_C.ext O0.2) (g := (mkF m 0 #[rv a1] [])) rfl (hb hby d28_0)
  refine og (B := T1.setTop (mkF m 3 #[rv a1] [(.int GC)])) st1 ?_
  refine og (B := T1.setTop (mkF m 7 #[rv a1] [(.ref a1)])) (fun t k => ?_) ?_
  · refine XS.ifNo X1.here hx rfl (hb hby d28_3) rfl ((if0 _ _).trans (feq hGC).1) ?_
    refine XS.aloadN X1.here hx rfl (hb hby d28_6) rfl rfl ?_
    exact k
  obtain ⟨T2, X2, e2, st2⟩ := getF X1 hx hZ hown (host := "") (Or.inl (ow hw 57 rfl)) Via.refl e1 F_1 (g := (mkF m 7 #[rv a1] [(.ref a1)])) rfl rfl (hb hby d28_7)
  refine og (B := T2.setTop (mkF m 10 #[rv a1] [(.int 0)])) st2 ?_
  obtain ⟨fs, hr, hrun, hended, hW, hsame⟩ := X2.leave (v := some (.int 1)) (fun h => by rw [Bd.returns] at h; cases h)
  refine ⟨_, _, ?_, hrun, hended, _, _, rfl, ?_, ⟨_, rfl⟩, hW, hsame.mono (by decide) (by decide)⟩
  · refine XS.ifNo X2.here hx rfl (hb hby d28_10) rfl ((if0 _ _).trans (teq (by decide)).2) ?_
    refine XS.iconst X2.here hx rfl (hb hby d28_13) ?_
    refine XS.goto X2.here hx rfl (pc0 := 14) (pc' := 18) rfl (hb hby d28_14) (by decide) (by decide) ?_
    show own_S p e below T2 (mkF m 18 #[rv a1] [(.int 1)]) _
    exact retN X2 hx (t := .boolean) Bd.returns (by simp) (hb hby d28_18) hr
  · show Q28 Z a1 GC h0 n0 _ T2.heap _
    rw [e2]
    exact ⟨rfl, N0, rfl⟩
theorem pn_31 : plainName "java/util/Arrays" = true := by first | (simp [plainName, overriddenIn]; done) | decide +kernel
theorem d31_0 : decode jdk_65_method_131_code 0 = .ok (.iload_n 1, 1) := by decide +kernel
theorem d31_1 : decode jdk_65_method_131_code 1 = .ok (.iload_n 0, 1) := by decide +kernel
theorem d31_2 : decode jdk_65_method_131_code 2 = .ok (.if_icmp .ge 35, 3) := by decide +kernel
theorem d31_37 : decode jdk_65_method_131_code 37 = .ok (.return_, 1) := by decide +kernel
theorem ef_31 (m : MethodId) (x0 : Int32) (x1 : Int32) : entryFrame m #[(.int x0), (.int x1)] 2 = mkF m 0 #[.val (.int x0), .val (.int x1)] [] := by first | (simp [entryFrame, mkF, argsToLocals, Value.category]; done) | rfl
def Q31 (Z : State) (p1 : Int32) (p2 : Int32) (h0 : Heap) (n0 : Nat) (v : Option Value) (h : Heap) (L : List Loc) : Prop := v = none ∧ Fr n0 L ∧ h = h0
set_option maxRecDepth 65536 in
set_option maxHeartbeats 40000000 in
theorem rm31 (l : Launch) (Z : State) (a0 : Array Value) (hw : ∀ d ∈ tables_1, d.before a0 Z = true) (ws : List Jvm.Cond) (p1 : Int32) (p2 : Int32) (h0 : Heap) (n0 : Nat) (Z0 : n0 ≤ h0.size) (hq : ¬ p2 < p1) :
    MetFree l own_y25 (head1 (Jvm.Cond.code own_y25 jdk_65_method_131_code 2 none :: ws) ({ frames := 0, cells := 0, slots := 0, locals := 0 } : Room)) (fun a U => a = #[(.int p1), (.int p2)] ∧ Z.Warmed39 U.vm ∧ U.heap = h0) (fun _ _ _ _ _ => True) (fun _ U o U' => ∃ v L, o = .returned v ∧ Q31 Z p1 p2 h0 n0 v U'.heap L ∧ FrameEnd U o U' L ({ frames := 0, cells := 0, slots := 0, locals := 0 } : Room).cells ({ frames := 0, cells := 0, slots := 0, locals := 0 } : Room).slots) := by
  refine MetFree.of_bodySF (plainFor_of_name pn_31) hisR ?_
  intro p e s m args below meth c s₁ Bd hml0 hP hK
  obtain ⟨rfl, hZ, hh⟩ := hP
  have hx := Bd.exec
  have hby := Bd.bytes
  have hml : c.maxLocals = 2 := hml0
  have hown : s.vm.findClass "java/util/Arrays" = some m.cls := findClass_of_methodNamed Bd.named
  have hnm := (name_of_methodNamed Bd.named Bd.method).1
  have X0 : Stand p l e ({ frames := 0, cells := 0, slots := 0, locals := 0 } : Room) s m #[(.int p1), (.int p2)] below meth c s₁ [] 0 0 := Stand.of_body Bd
  have e0 : s₁.heap = h0 := by rw [← hh, Bd.state]; rfl
  have N0 := Fr.nil n0
  refine og (B := s₁.setTop (mkF m 0 #[iv p1, iv p2] [])) (fun t k => castTop (ef_31 m p1 p2) k) ?_
  obtain ⟨fs, hr, hrun, hended, hW, hsame⟩ := X0.leave (v := none) (fun _ => rfl)
  refine ⟨_, _, ?_, hrun, hended, _, _, rfl, ?_, ⟨_, rfl⟩, hW, hsame.mono (by decide) (by decide)⟩
  · refine XS.iloadN X0.here hx rfl (hb hby d31_0) rfl ?_
    refine XS.iloadN X0.here hx rfl (hb hby d31_1) rfl ?_
    refine XS.icmpYes X0.here hx rfl (pc0 := 2) (pc' := 37) rfl (hb hby d31_2) rfl (flt hq).2.1 (by decide) (by decide) ?_
    show own_S p e below s₁ (mkF m 37 #[iv p1, iv p2] []) _
    exact X0.returnOut hx Bd.returns (hb hby d31_37) hr
  · show Q31 Z p1 p2 h0 n0 _ s₁.heap _
    rw [e0]
    exact ⟨rfl, N0, rfl⟩
theorem pn_30 : plainName "java/util/Arrays" = true := by first | (simp [plainName, overriddenIn]; done) | decide +kernel
theorem d30_0 : decode jdk_65_method_133_code 0 = .ok (.iload_n 1, 1) := by decide +kernel
theorem d30_1 : decode jdk_65_method_133_code 1 = .ok (.iload_n 2, 1) := by decide +kernel
theorem d30_2 : decode jdk_65_method_133_code 2 = .ok (.invokestatic 343, 3) := by decide +kernel
theorem d30_5 : decode jdk_65_method_133_code 5 = .ok (.iload_n 2, 1) := by decide +kernel
theorem d30_6 : decode jdk_65_method_133_code 6 = .ok (.iload_n 1, 1) := by decide +kernel
theorem d30_7 : decode jdk_65_method_133_code 7 = .ok (.isub, 1) := by decide +kernel
theorem d30_8 : decode jdk_65_method_133_code 8 = .ok (.istore_n 3, 1) := by decide +kernel
theorem d30_9 : decode jdk_65_method_133_code 9 = .ok (.iload_n 3, 1) := by decide +kernel
theorem d30_10 : decode jdk_65_method_133_code 10 = .ok (.newarray .byte, 2) := by decide +kernel
theorem d30_12 : decode jdk_65_method_133_code 12 = .ok (.astore 4, 2) := by decide +kernel
theorem d30_14 : decode jdk_65_method_133_code 14 = .ok (.aload_n 0, 1) := by decide +kernel
theorem d30_15 : decode jdk_65_method_133_code 15 = .ok (.iload_n 1, 1) := by decide +kernel
theorem d30_16 : decode jdk_65_method_133_code 16 = .ok (.aload 4, 2) := by decide +kernel
theorem d30_18 : decode jdk_65_method_133_code 18 = .ok (.iconst 0, 1) := by decide +kernel
theorem d30_19 : decode jdk_65_method_133_code 19 = .ok (.aload_n 0, 1) := by decide +kernel
theorem d30_20 : decode jdk_65_method_133_code 20 = .ok (.arraylength, 1) := by decide +kernel
theorem d30_21 : decode jdk_65_method_133_code 21 = .ok (.iload_n 1, 1) := by decide +kernel
theorem d30_22 : decode jdk_65_method_133_code 22 = .ok (.isub, 1) := by decide +kernel
theorem d30_23 : decode jdk_65_method_133_code 23 = .ok (.iload_n 3, 1) := by decide +kernel
theorem d30_24 : decode jdk_65_method_133_code 24 = .ok (.invokestatic 304, 3) := by decide +kernel
theorem d30_27 : decode jdk_65_method_133_code 27 = .ok (.invokestatic 150, 3) := by decide +kernel
theorem d30_30 : decode jdk_65_method_133_code 30 = .ok (.aload 4, 2) := by decide +kernel
theorem d30_32 : decode jdk_65_method_133_code 32 = .ok (.areturn, 1) := by decide +kernel
theorem ef_30 (m : MethodId) (x0 : Addr) (x1 : Int32) (x2 : Int32) : entryFrame m #[(.ref x0), (.int x1), (.int x2)] 5 = mkF m 0 #[.val (.ref x0), .val (.int x1), .val (.int x2), .unset, .unset] [] := by first | (simp [entryFrame, mkF, argsToLocals, Value.category]; done) | rfl
def Q30_2 (Z : State) (sbv : Addr) (kv : ClassId) (x0 : Int32) (x1 : Int32) (h0 : Heap) (n0 : Nat) (v : Option Value) (h : Heap) (L : List Loc) : Prop := own_QA Z (2 : Int32) [(.int x0), (.int x1)] h0 n0 v h L
set_option maxRecDepth 65536 in
set_option maxHeartbeats 40000000 in
theorem rm30_2 (l : Launch) (Z : State) (a0 : Array Value) (hw : ∀ d ∈ tables_1, d.before a0 Z = true) (ws : List Jvm.Cond) (sbv : Addr) (kv : ClassId) (x0 : Int32) (x1 : Int32) (h0 : Heap) (n0 : Nat) (Z0 : n0 ≤ h0.size) (V_v : Arv Z h0 sbv kv .byte (16 : Int32) [(.int x0), (.int x1), (.int 0), (.int 0), (.int 0), (.int 0), (.int 0), (.int 0), (.int 0), (.int 0), (.int 0), (.int 0), (.int 0), (.int 0), (.int 0), (.int 0)] (.int 0)) :
    MetFree l own_y26 (head1 (Jvm.Cond.code own_y26 jdk_65_method_133_code 5 (some (.array .byte)) :: ws) ({ frames := 1, cells := 1, slots := 5, locals := 18 } : Room)) (fun a U => a = #[(.ref sbv), (.int 0), (.int 2)] ∧ Z.Warmed39 U.vm ∧ U.heap = h0) (fun _ _ _ _ _ => True) (fun _ U o U' => ∃ v L, o = .returned v ∧ Q30_2 Z sbv kv x0 x1 h0 n0 v U'.heap L ∧ FrameEnd U o U' L ({ frames := 1, cells := 1, slots := 5, locals := 18 } : Room).cells ({ frames := 1, cells := 1, slots := 5, locals := 18 } : Room).slots) := by
  refine MetFree.of_bodySF (plainFor_of_name pn_30) hisR ?_
  intro p e s m args below meth c s₁ Bd hml0 hP hK
  obtain ⟨rfl, hZ, hh⟩ := hP
  have hx := Bd.exec
  have hby := Bd.bytes
  have hml : c.maxLocals = 5 := hml0
  have hown : s.vm.findClass "java/util/Arrays" = some m.cls := findClass_of_methodNamed Bd.named
  have hnm := (name_of_methodNamed Bd.named Bd.method).1
  have X0 : Stand p l e ({ frames := 1, cells := 1, slots := 5, locals := 18 } : Room) s m #[(.ref sbv), (.int 0), (.int 2)] below meth c s₁ [] 0 0 := Stand.of_body Bd
  have e0 : s₁.heap = h0 := by rw [← hh, Bd.state]; rfl
  have N0 := Fr.nil n0
  refine og (B := s₁.setTop (mkF m 0 #[rv sbv, iv 0, iv 2, .unset, .unset] [])) (fun t k => castTop (ef_30 m sbv (0 : Int32) (2 : Int32)) k) ?_
  refine og (B := s₁.setTop (mkF m 2 #[rv sbv, iv 0, iv 2, .unset, .unset] [(.int 2), (.int 0)])) (fun t k => ?_) ?_
  · refine XS.iloadN X0.here hx rfl (hb hby d30_0) rfl ?_
    refine XS.iloadN X0.here hx rfl (hb hby d30_1) rfl ?_
    exact k
  obtain ⟨_, _, ⟨T1, L1, k1, n1⟩, -, X1, ⟨Lc1, hQ1, l1, y1, z1⟩, st1⟩ := Jvm.LawKit.callS X0 hx (y := own_y25) hown (mvT hZ (ow hw 159 rfl)) (mvT hZ (ow hw 160 rfl)) (mvT hZ (ow hw 154 rfl)) (mvT hZ (ow hw 161 rfl)) (by decide) (backOf (W := 0) (rm31 l Z a0 hw [] (0 : Int32) (2 : Int32) h0 n0 Z0 (by decide)) hZ (ow hw 161 rfl) (ow hw 154 rfl) (by decide) (by decide)) (g := (mkF m 2 #[rv sbv, iv 0, iv 2, .unset, .unset] [(.int 2), (.int 0)])) rfl (by rw [hml]; rfl) (argsL := [(.int 0), (.int 2)]) (rest := []) (lenOf own_pd2 rfl) rfl (Nat.le_refl _) (hb hby d30_2) (fun _ _ => ⟨rfl, e0, (by decide : 0 + 0 ≤ _), (by decide : 0 + 0 ≤ _)⟩)
  dsimp only [Pt.U, Pt.locs, Pt.cells, Pt.slots] at X1 l1 y1 z1 st1 hQ1
  subst l1 y1 z1
  obtain ⟨rfl, N1q, eq1⟩ := hQ1
  have N1 := Fr.app N0 N1q
  refine og (B := T1.setTop (mkF m 5 #[rv sbv, iv 0, iv 2, .unset, .unset] [])) st1 ?_
  refine og (B := T1.setTop (mkF m 10 #[rv sbv, iv 0, iv 2, iv 2, .unset] [(.int 2)])) (fun t k => ?_) ?_
  · refine XS.iloadN X1.here hx rfl (hb hby d30_5) rfl ?_
    refine XS.iloadN X1.here hx rfl (hb hby d30_6) rfl ?_
    refine XS.isub X1.here hx rfl (hb hby d30_7) rfl ?_
    refine XS.istoreN X1.here hx rfl (hb hby d30_8) rfl (l' := #[rv sbv, iv 0, iv 2, iv 2, .unset]) rfl ?_
    refine XS.iloadN X1.here hx rfl (hb hby d30_9) rfl ?_
    exact k
  obtain ⟨T2, h2, k2, X2, e2, E2, A2, st2⟩ := newP X1 hx hZ (ow hw 19 rfl) eq1 (g := (mkF m 10 #[rv sbv, iv 0, iv 2, iv 2, .unset] [(.int 2)])) rfl (hb hby d30_10) rfl (by decide) (cap := 2) (by decide) (by decide) (by decide) (by decide)
  obtain ⟨b2, g2⟩ : ∃ z, z = h0.size := ⟨_, rfl⟩
  rw [← g2] at A2 st2
  have g_b2 : n0 ≤ b2 := Nat.le_trans Z0 (Nat.le_of_eq g2.symm)
  have sz_b2 : h0.size ≤ b2 := Nat.le_trans (Keep.refl h0 []).1 (Nat.le_of_eq g2.symm)
  have ne_sbv_b2 : sbv ≠ b2 := Nat.ne_of_lt (Nat.lt_of_lt_of_le V_v.lt (Nat.le_of_eq g2.symm))
  have c2_V_sbv := V_v.ext E2
  have K2 := (Keep.refl h0 []).ext E2
  have V2 : Arv Z h2 b2 k2 .byte (2 : Int32) [(.int 0), (.int 0)] (.int 0) := (Arv.new A2 (by decide)).pad (pad_rep [] (.int 0) 2)
  have zk2 := (Nat.le_trans (Nat.zero_le _) E2.1)
  refine og (B := T2.setTop (mkF m 12 #[rv sbv, iv 0, iv 2, iv 2, .unset] [(.ref b2)])) st2 ?_
  obtain ⟨cl3, Ar3, qk3, S3, M3, H3, G3⟩ := id c2_V_sbv
  refine og (B := T2.setTop (mkF m 24 #[rv sbv, iv 0, iv 2, iv 2, rv b2] [(.int 2), (.int 16), (.int 0), (.ref b2), (.int 0), (.ref sbv)])) (fun t k => ?_) ?_
  · refine XS.astore X2.here hx rfl (hb hby d30_12) rfl rfl (l' := #[rv sbv, iv 0, iv 2, iv 2, rv b2]) rfl ?_
    refine XS.aloadN X2.here hx rfl (hb hby d30_14) rfl rfl ?_
    refine XS.iloadN X2.here hx rfl (hb hby d30_15) rfl ?_
    refine XS.aload X2.here hx rfl (hb hby d30_16) rfl rfl ?_
    refine XS.iconst X2.here hx rfl (hb hby d30_18) ?_
    refine XS.aloadN X2.here hx rfl (hb hby d30_19) rfl rfl ?_
    show own_S p e below T2 (mkF m 20 #[rv sbv, iv 0, iv 2, iv 2, rv b2] [(.ref sbv), (.int 0), (.ref b2), (.int 0), (.ref sbv)]) _
    refine X2.arraylength hx (by rw [e2]; exact Ar3.1) (State.isArrayOf_alike hZ.alike Ar3.2.1) (g := (mkF m 20 #[rv sbv, iv 0, iv 2, iv 2, rv b2] [(.ref sbv), (.int 0), (.ref b2), (.int 0), (.ref sbv)])) rfl rfl (hb hby d30_20) _ ?_
    rw [len_of S3 M3]
    refine XS.iloadN X2.here hx rfl (hb hby d30_21) rfl ?_
    refine XS.isub X2.here hx rfl (hb hby d30_22) rfl ?_
    refine XS.iloadN X2.here hx rfl (hb hby d30_23) rfl ?_
    exact k
  obtain ⟨_, _, ⟨T4, L4, k4, n4⟩, -, X4, ⟨Lc4, hQ4, l4, y4, z4⟩, st4⟩ := Jvm.LawKit.callS X2 hx (y := own_y12) hown (mvT hZ (ow hw 162 rfl)) (mvT hZ (ow hw 163 rfl)) (mvT hZ (ow hw 164 rfl)) (mvT hZ (ow hw 165 rfl)) (by decide) (backOf (W := 4) (rm32 l Z a0 hw [] (16 : Int32) (2 : Int32) (2 : Int32) h2 n0 (Nat.le_trans Z0 E2.1) (by decide)) hZ (ow hw 165 rfl) (ow hw 164 rfl) (by decide) (by decide)) (g := (mkF m 24 #[rv sbv, iv 0, iv 2, iv 2, rv b2] [(.int 2), (.int 16), (.int 0), (.ref b2), (.int 0), (.ref sbv)])) rfl (by rw [hml]; rfl) (argsL := [(.int 16), (.int 2)]) (rest := [(.int 0), (.ref b2), (.int 0), (.ref sbv)]) (lenOf own_pd15 rfl) rfl (Nat.le_refl _) (hb hby d30_24) (fun _ _ => ⟨rfl, e2, (by decide : 1 + 0 ≤ _), (by decide : 2 + 0 ≤ _)⟩)
  dsimp only [Pt.U, Pt.locs, Pt.cells, Pt.slots] at X4 l4 y4 z4 st4 hQ4
  subst l4 y4 z4
  obtain ⟨rfl, N4q, eq4⟩ := hQ4
  have N4 := Fr.app N1 N4q
  refine og (B := T4.setTop (mkF m 27 #[rv sbv, iv 0, iv 2, iv 2, rv b2] [(.int 2), (.int 0), (.ref b2), (.int 0), (.ref sbv)])) st4 ?_
  obtain ⟨T5, h5, L5, X5, e5, N5, K5q, V5q, st5⟩ := cpA X4 hx hZ hown (ow hw 166 rfl) (ow hw 105 rfl) (ow hw 103 rfl) (ow hw 104 rfl) eq4 c2_V_sbv V2 (us := [(.int x0), (.int x1)]) (Or.inl ⟨rfl, rfl⟩) (by decide) (by decide) (by decide) (by decide) (by decide) rfl (by decide) N4 g_b2 (g := (mkF m 27 #[rv sbv, iv 0, iv 2, iv 2, rv b2] [(.int 2), (.int 0), (.ref b2), (.int 0), (.ref sbv)])) rfl (by rw [hml]; rfl) (rest := []) rfl (hb hby d30_27) (by decide) (W := 0) (Nat.le_refl _) (by decide)
  have V5 : Arv Z h5 b2 k2 .byte (2 : Int32) [(.int x0), (.int x1)] (.int 0) := V5q
  have c5_V_sbv := c2_V_sbv.keep K5q (fun q => ne_sbv_b2 (List.mem_singleton.mp q))
  have K5 := K2.trans K5q (allS (Or.inr sz_b2) all0)
  have zs5 := (Nat.le_trans (Nat.le_trans Z0 E2.1) K5q.1)
  refine og (B := T5.setTop (mkF m 30 #[rv sbv, iv 0, iv 2, iv 2, rv b2] [])) st5 ?_
  obtain ⟨fs, hr, hrun, hended, hW, hsame⟩ := X5.leave (v := some (.ref b2)) (fun h => by rw [Bd.returns] at h; cases h)
  refine ⟨_, _, ?_, hrun, hended, _, _, rfl, ?_, ⟨_, rfl⟩, hW, hsame.mono (by decide) (by decide)⟩
  · refine XS.aload X5.here hx rfl (hb hby d30_30) rfl rfl ?_
    show own_S p e below T5 (mkF m 32 #[rv sbv, iv 0, iv 2, iv 2, rv b2] [(.ref b2)]) _
    jvm_step X5.here [X5.here.top, hx, (hb hby d30_32), X5.method', Bd.returns, Value.isRef, FieldType.isReference]
    first | (intro acts; rw [hr _ acts rfl rfl rfl]) | rw [hr _ _ rfl rfl rfl]
    exact Steps.refl _
  · show Q30_2 Z sbv kv x0 x1 h0 n0 _ T5.heap _
    rw [e5]
    exact ⟨b2, k2, rfl, N5, K5, sz_b2, g_b2, V5⟩
def Q30_3 (Z : State) (sbv : Addr) (kv : ClassId) (x0 : Int32) (x1 : Int32) (x2 : Int32) (h0 : Heap) (n0 : Nat) (v : Option Value) (h : Heap) (L : List Loc) : Prop := own_QA Z (3 : Int32) [(.int x0), (.int x1), (.int x2)] h0 n0 v h L
set_option maxRecDepth 65536 in
set_option maxHeartbeats 40000000 in
theorem rm30_3 (l : Launch) (Z : State) (a0 : Array Value) (hw : ∀ d ∈ tables_1, d.before a0 Z = true) (ws : List Jvm.Cond) (sbv : Addr) (kv : ClassId) (x0 : Int32) (x1 : Int32) (x2 : Int32) (h0 : Heap) (n0 : Nat) (Z0 : n0 ≤ h0.size) (V_v : Arv Z h0 sbv kv .byte (16 : Int32) [(.int x0), (.int x1), (.int x2), (.int 0), (.int 0), (.int 0), (.int 0), (.int 0), (.int 0), (.int 0), (.int 0), (.int 0), (.int 0), (.int 0), (.int 0), (.int 0)] (.int 0)) :
    MetFree l own_y26 (head1 (Jvm.Cond.code own_y26 jdk_65_method_133_code 5 (some (.array .byte)) :: ws) ({ frames := 1, cells := 1, slots := 5, locals := 18 } : Room)) (fun a U => a = #[(.ref sbv), (.int 0), (.int 3)] ∧ Z.Warmed39 U.vm ∧ U.heap = h0) (fun _ _ _ _ _ => True) (fun _ U o U' => ∃ v L, o = .returned v ∧ Q30_3 Z sbv kv x0 x1 x2 h0 n0 v U'.heap L ∧ FrameEnd U o U' L ({ frames := 1, cells := 1, slots := 5, locals := 18 } : Room).cells ({ frames := 1, cells := 1, slots := 5, locals := 18 } : Room).slots) := by
  refine MetFree.of_bodySF (plainFor_of_name pn_30) hisR ?_
  intro p e s m args below meth c s₁ Bd hml0 hP hK
  obtain ⟨rfl, hZ, hh⟩ := hP
  have hx := Bd.exec
  have hby := Bd.bytes
  have hml : c.maxLocals = 5 := hml0
  have hown : s.vm.findClass "java/util/Arrays" = some m.cls := findClass_of_methodNamed Bd.named
  have hnm := (name_of_methodNamed Bd.named Bd.method).1
  have X0 : Stand p l e ({ frames := 1, cells := 1, slots := 5, locals := 18 } : Room) s m #[(.ref sbv), (.int 0), (.int 3)] below meth c s₁ [] 0 0 := Stand.of_body Bd
  have e0 : s₁.heap = h0 := by rw [← hh, Bd.state]; rfl
  have N0 := Fr.nil n0
  refine og (B := s₁.setTop (mkF m 0 #[rv sbv, iv 0, iv 3, .unset, .unset] [])) (fun t k => castTop (ef_30 m sbv (0 : Int32) (3 : Int32)) k) ?_
  refine og (B := s₁.setTop (mkF m 2 #[rv sbv, iv 0, iv 3, .unset, .unset] [(.int 3), (.int 0)])) (fun t k => ?_) ?_
  · refine XS.iloadN X0.here hx rfl (hb hby d30_0) rfl ?_
    refine XS.iloadN X0.here hx rfl (hb hby d30_1) rfl ?_
    exact k
  obtain ⟨_, _, ⟨T1, L1, k1, n1⟩, -, X1, ⟨Lc1, hQ1, l1, y1, z1⟩, st1⟩ := Jvm.LawKit.callS X0 hx (y := own_y25) hown (mvT hZ (ow hw 159 rfl)) (mvT hZ (ow hw 160 rfl)) (mvT hZ (ow hw 154 rfl)) (mvT hZ (ow hw 161 rfl)) (by decide) (backOf (W := 0) (rm31 l Z a0 hw [] (0 : Int32) (3 : Int32) h0 n0 Z0 (by decide)) hZ (ow hw 161 rfl) (ow hw 154 rfl) (by decide) (by decide)) (g := (mkF m 2 #[rv sbv, iv 0, iv 3, .unset, .unset] [(.int 3), (.int 0)])) rfl (by rw [hml]; rfl) (argsL := [(.int 0), (.int 3)]) (rest := []) (lenOf own_pd2 rfl) rfl (Nat.le_refl _) (hb hby d30_2) (fun _ _ => ⟨rfl, e0, (by decide : 0 + 0 ≤ _), (by decide : 0 + 0 ≤ _)⟩)
  dsimp only [Pt.U, Pt.locs, Pt.cells, Pt.slots] at X1 l1 y1 z1 st1 hQ1
  subst l1 y1 z1
  obtain ⟨rfl, N1q, eq1⟩ := hQ1
  have N1 := Fr.app N0 N1q
  refine og (B := T1.setTop (mkF m 5 #[rv sbv, iv 0, iv 3, .unset, .unset] [])) st1 ?_
  refine og (B := T1.setTop (mkF m 10 #[rv sbv, iv 0, iv 3, iv 3, .unset] [(.int 3)])) (fun t k => ?_) ?_
  · refine XS.iloadN X1.here hx rfl (hb hby d30_5) rfl ?_
    refine XS.iloadN X1.here hx rfl (hb hby d30_6) rfl ?_
    refine XS.isub X1.here hx rfl (hb hby d30_7) rfl ?_
    refine XS.istoreN X1.here hx rfl (hb hby d30_8) rfl (l' := #[rv sbv, iv 0, iv 3, iv 3, .unset]) rfl ?_
    refine XS.iloadN X1.here hx rfl (hb hby d30_9) rfl ?_
    exact k
  obtain ⟨T2, h2, k2, X2, e2, E2, A2, st2⟩ := newP X1 hx hZ (ow hw 19 rfl) eq1 (g := (mkF m 10 #[rv sbv, iv 0, iv 3, iv 3, .unset] [(.int 3)])) rfl (hb hby d30_10) rfl (by decide) (cap := 3) (by decide) (by decide) (by decide) (by decide)
  obtain ⟨b2, g2⟩ : ∃ z, z = h0.size := ⟨_, rfl⟩
  rw [← g2] at A2 st2
  have g_b2 : n0 ≤ b2 := Nat.le_trans Z0 (Nat.le_of_eq g2.symm)
  have sz_b2 : h0.size ≤ b2 := Nat.le_trans (Keep.refl h0 []).1 (Nat.le_of_eq g2.symm)
  have ne_sbv_b2 : sbv ≠ b2 := Nat.ne_of_lt (Nat.lt_of_lt_of_le V_v.lt (Nat.le_of_eq g2.symm))
  have c2_V_sbv := V_v.ext E2
  have K2 := (Keep.refl h0 []).ext E2
  have V2 : Arv Z h2 b2 k2 .byte (3 : Int32) [(.int 0), (.int 0), (.int 0)] (.int 0) := (Arv.new A2 (by decide)).pad (pad_rep [] (.int 0) 3)
  have zk2 := (Nat.le_trans (Nat.zero_le _) E2.1)
  refine og (B := T2.setTop (mkF m 12 #[rv sbv, iv 0, iv 3, iv 3, .unset] [(.ref b2)])) st2 ?_
  obtain ⟨cl3, Ar3, qk3, S3, M3, H3, G3⟩ := id c2_V_sbv
  refine og (B := T2.setTop (mkF m 24 #[rv sbv, iv 0, iv 3, iv 3, rv b2] [(.int 3), (.int 16), (.int 0), (.ref b2), (.int 0), (.ref sbv)])) (fun t k => ?_) ?_
  · refine XS.astore X2.here hx rfl (hb hby d30_12) rfl rfl (l' := #[rv sbv, iv 0, iv 3, iv 3, rv b2]) rfl ?_
    refine XS.aloadN X2.here hx rfl (hb hby d30_14) rfl rfl ?_
    refine XS.iloadN X2.here hx rfl (hb hby d30_15) rfl ?_
    refine XS.aload X2.here hx rfl (hb hby d30_16) rfl rfl ?_
    refine XS.iconst X2.here hx rfl (hb hby d30_18) ?_
    refine XS.aloadN X2.here hx rfl (hb hby d30_19) rfl rfl ?_
    show own_S p e below T2 (mkF m 20 #[rv sbv, iv 0, iv 3, iv 3, rv b2] [(.ref sbv), (.int 0), (.ref b2), (.int 0), (.ref sbv)]) _
    refine X2.arraylength hx (by rw [e2]; exact Ar3.1) (State.isArrayOf_alike hZ.alike Ar3.2.1) (g := (mkF m 20 #[rv sbv, iv 0, iv 3, iv 3, rv b2] [(.ref sbv), (.int 0), (.ref b2), (.int 0), (.ref sbv)])) rfl rfl (hb hby d30_20) _ ?_
    rw [len_of S3 M3]
    refine XS.iloadN X2.here hx rfl (hb hby d30_21) rfl ?_
    refine XS.isub X2.here hx rfl (hb hby d30_22) rfl ?_
    refine XS.iloadN X2.here hx rfl (hb hby d30_23) rfl ?_
    exact k
  obtain ⟨_, _, ⟨T4, L4, k4, n4⟩, -, X4, ⟨Lc4, hQ4, l4, y4, z4⟩, st4⟩ := Jvm.LawKit.callS X2 hx (y := own_y12) hown (mvT hZ (ow hw 162 rfl)) (mvT hZ (ow hw 163 rfl)) (mvT hZ (ow hw 164 rfl)) (mvT hZ (ow hw 165 rfl)) (by decide) (backOf (W := 4) (rm32 l Z a0 hw [] (16 : Int32) (3 : Int32) (3 : Int32) h2 n0 (Nat.le_trans Z0 E2.1) (by decide)) hZ (ow hw 165 rfl) (ow hw 164 rfl) (by decide) (by decide)) (g := (mkF m 24 #[rv sbv, iv 0, iv 3, iv 3, rv b2] [(.int 3), (.int 16), (.int 0), (.ref b2), (.int 0), (.ref sbv)])) rfl (by rw [hml]; rfl) (argsL := [(.int 16), (.int 3)]) (rest := [(.int 0), (.ref b2), (.int 0), (.ref sbv)]) (lenOf own_pd15 rfl) rfl (Nat.le_refl _) (hb hby d30_24) (fun _ _ => ⟨rfl, e2, (by decide : 1 + 0 ≤ _), (by decide : 3 + 0 ≤ _)⟩)
  dsimp only [Pt.U, Pt.locs, Pt.cells, Pt.slots] at X4 l4 y4 z4 st4 hQ4
  subst l4 y4 z4
  obtain ⟨rfl, N4q, eq4⟩ := hQ4
  have N4 := Fr.app N1 N4q
  refine og (B := T4.setTop (mkF m 27 #[rv sbv, iv 0, iv 3, iv 3, rv b2] [(.int 3), (.int 0), (.ref b2), (.int 0), (.ref sbv)])) st4 ?_
  obtain ⟨T5, h5, L5, X5, e5, N5, K5q, V5q, st5⟩ := cpA X4 hx hZ hown (ow hw 166 rfl) (ow hw 105 rfl) (ow hw 103 rfl) (ow hw 104 rfl) eq4 c2_V_sbv V2 (us := [(.int x0), (.int x1), (.int x2)]) (Or.inl ⟨rfl, rfl⟩) (by decide) (by decide) (by decide) (by decide) (by decide) rfl (by decide) N4 g_b2 (g := (mkF m 27 #[rv sbv, iv 0, iv 3, iv 3, rv b2] [(.int 3), (.int 0), (.ref b2), (.int 0), (.ref sbv)])) rfl (by rw [hml]; rfl) (rest := []) rfl (hb hby d30_27) (by decide) (W := 0) (Nat.le_refl _) (by decide)
  have V5 : Arv Z h5 b2 k2 .byte (3 : Int32) [(.int x0), (.int x1), (.int x2)] (.int 0) := V5q
  have c5_V_sbv := c2_V_sbv.keep K5q (fun q => ne_sbv_b2 (List.mem_singleton.mp q))
  have K5 := K2.trans K5q (allS (Or.inr sz_b2) all0)
  have zs5 := (Nat.le_trans (Nat.le_trans Z0 E2.1) K5q.1)
  refine og (B := T5.setTop (mkF m 30 #[rv sbv, iv 0, iv 3, iv 3, rv b2] [])) st5 ?_
  obtain ⟨fs, hr, hrun, hended, hW, hsame⟩ := X5.leave (v := some (.ref b2)) (fun h => by rw [Bd.returns] at h; cases h)
  refine ⟨_, _, ?_, hrun, hended, _, _, rfl, ?_, ⟨_, rfl⟩, hW, hsame.mono (by decide) (by decide)⟩
  · refine XS.aload X5.here hx rfl (hb hby d30_30) rfl rfl ?_
    show own_S p e below T5 (mkF m 32 #[rv sbv, iv 0, iv 3, iv 3, rv b2] [(.ref b2)]) _
    jvm_step X5.here [X5.here.top, hx, (hb hby d30_32), X5.method', Bd.returns, Value.isRef, FieldType.isReference]
    first | (intro acts; rw [hr _ acts rfl rfl rfl]) | rw [hr _ _ rfl rfl rfl]
    exact Steps.refl _
  · show Q30_3 Z sbv kv x0 x1 x2 h0 n0 _ T5.heap _
    rw [e5]
    exact ⟨b2, k2, rfl, N5, K5, sz_b2, g_b2, V5⟩
def Q30_4 (Z : State) (sbv : Addr) (kv : ClassId) (x0 : Int32) (x1 : Int32) (x2 : Int32) (x3 : Int32) (h0 : Heap) (n0 : Nat) (v : Option Value) (h : Heap) (L : List Loc) : Prop := own_QA Z (4 : Int32) [(.int x0), (.int x1), (.int x2), (.int x3)] h0 n0 v h L
set_option maxRecDepth 65536 in
set_option maxHeartbeats 40000000 in
theorem rm30_4 (l : Launch) (Z : State) (a0 : Array Value) (hw : ∀ d ∈ tables_1, d.before a0 Z = true) (ws : List Jvm.Cond) (sbv : Addr) (kv : ClassId) (x0 : Int32) (x1 : Int32) (x2 : Int32) (x3 : Int32) (h0 : Heap) (n0 : Nat) (Z0 : n0 ≤ h0.size) (V_v : Arv Z h0 sbv kv .byte (16 : Int32) [(.int x0), (.int x1), (.int x2), (.int x3), (.int 0), (.int 0), (.int 0), (.int 0), (.int 0), (.int 0), (.int 0), (.int 0), (.int 0), (.int 0), (.int 0), (.int 0)] (.int 0)) :
    MetFree l own_y26 (head1 (Jvm.Cond.code own_y26 jdk_65_method_133_code 5 (some (.array .byte)) :: ws) ({ frames := 1, cells := 1, slots := 5, locals := 18 } : Room)) (fun a U => a = #[(.ref sbv), (.int 0), (.int 4)] ∧ Z.Warmed39 U.vm ∧ U.heap = h0) (fun _ _ _ _ _ => True) (fun _ U o U' => ∃ v L, o = .returned v ∧ Q30_4 Z sbv kv x0 x1 x2 x3 h0 n0 v U'.heap L ∧ FrameEnd U o U' L ({ frames := 1, cells := 1, slots := 5, locals := 18 } : Room).cells ({ frames := 1, cells := 1, slots := 5, locals := 18 } : Room).slots) := by
  refine MetFree.of_bodySF (plainFor_of_name pn_30) hisR ?_
  intro p e s m args below meth c s₁ Bd hml0 hP hK
  obtain ⟨rfl, hZ, hh⟩ := hP
  have hx := Bd.exec
  have hby := Bd.bytes
  have hml : c.maxLocals = 5 := hml0
  have hown : s.vm.findClass "java/util/Arrays" = some m.cls := findClass_of_methodNamed Bd.named
  have hnm := (name_of_methodNamed Bd.named Bd.method).1
  have X0 : Stand p l e ({ frames := 1, cells := 1, slots := 5, locals := 18 } : Room) s m #[(.ref sbv), (.int 0), (.int 4)] below meth c s₁ [] 0 0 := Stand.of_body Bd
  have e0 : s₁.heap = h0 := by rw [← hh, Bd.state]; rfl
  have N0 := Fr.nil n0
  refine og (B := s₁.setTop (mkF m 0 #[rv sbv, iv 0, iv 4, .unset, .unset] [])) (fun t k => castTop (ef_30 m sbv (0 : Int32) (4 : Int32)) k) ?_
  refine og (B := s₁.setTop (mkF m 2 #[rv sbv, iv 0, iv 4, .unset, .unset] [(.int 4), (.int 0)])) (fun t k => ?_) ?_
  · refine XS.iloadN X0.here hx rfl (hb hby d30_0) rfl ?_
    refine XS.iloadN X0.here hx rfl (hb hby d30_1) rfl ?_
    exact k
  obtain ⟨_, _, ⟨T1, L1, k1, n1⟩, -, X1, ⟨Lc1, hQ1, l1, y1, z1⟩, st1⟩ := Jvm.LawKit.callS X0 hx (y := own_y25) hown (mvT hZ (ow hw 159 rfl)) (mvT hZ (ow hw 160 rfl)) (mvT hZ (ow hw 154 rfl)) (mvT hZ (ow hw 161 rfl)) (by decide) (backOf (W := 0) (rm31 l Z a0 hw [] (0 : Int32) (4 : Int32) h0 n0 Z0 (by decide)) hZ (ow hw 161 rfl) (ow hw 154 rfl) (by decide) (by decide)) (g := (mkF m 2 #[rv sbv, iv 0, iv 4, .unset, .unset] [(.int 4), (.int 0)])) rfl (by rw [hml]; rfl) (argsL := [(.int 0), (.int 4)]) (rest := []) (lenOf own_pd2 rfl) rfl (Nat.le_refl _) (hb hby d30_2) (fun _ _ => ⟨rfl, e0, (by decide : 0 + 0 ≤ _), (by decide : 0 + 0 ≤ _)⟩)
  dsimp only [Pt.U, Pt.locs, Pt.cells, Pt.slots] at X1 l1 y1 z1 st1 hQ1
  subst l1 y1 z1
  obtain ⟨rfl, N1q, eq1⟩ := hQ1
  have N1 := Fr.app N0 N1q
  refine og (B := T1.setTop (mkF m 5 #[rv sbv, iv 0, iv 4, .unset, .unset] [])) st1 ?_
  refine og (B := T1.setTop (mkF m 10 #[rv sbv, iv 0, iv 4, iv 4, .unset] [(.int 4)])) (fun t k => ?_) ?_
  · refine XS.iloadN X1.here hx rfl (hb hby d30_5) rfl ?_
    refine XS.iloadN X1.here hx rfl (hb hby d30_6) rfl ?_
    refine XS.isub X1.here hx rfl (hb hby d30_7) rfl ?_
    refine XS.istoreN X1.here hx rfl (hb hby d30_8) rfl (l' := #[rv sbv, iv 0, iv 4, iv 4, .unset]) rfl ?_
    refine XS.iloadN X1.here hx rfl (hb hby d30_9) rfl ?_
    exact k
  obtain ⟨T2, h2, k2, X2, e2, E2, A2, st2⟩ := newP X1 hx hZ (ow hw 19 rfl) eq1 (g := (mkF m 10 #[rv sbv, iv 0, iv 4, iv 4, .unset] [(.int 4)])) rfl (hb hby d30_10) rfl (by decide) (cap := 4) (by decide) (by decide) (by decide) (by decide)
  obtain ⟨b2, g2⟩ : ∃ z, z = h0.size := ⟨_, rfl⟩
  rw [← g2] at A2 st2
  have g_b2 : n0 ≤ b2 := Nat.le_trans Z0 (Nat.le_of_eq g2.symm)
  have sz_b2 : h0.size ≤ b2 := Nat.le_trans (Keep.refl h0 []).1 (Nat.le_of_eq g2.symm)
  have ne_sbv_b2 : sbv ≠ b2 := Nat.ne_of_lt (Nat.lt_of_lt_of_le V_v.lt (Nat.le_of_eq g2.symm))
  have c2_V_sbv := V_v.ext E2
  have K2 := (Keep.refl h0 []).ext E2
  have V2 : Arv Z h2 b2 k2 .byte (4 : Int32) [(.int 0), (.int 0), (.int 0), (.int 0)] (.int 0) := (Arv.new A2 (by decide)).pad (pad_rep [] (.int 0) 4)
  have zk2 := (Nat.le_trans (Nat.zero_le _) E2.1)
  refine og (B := T2.setTop (mkF m 12 #[rv sbv, iv 0, iv 4, iv 4, .unset] [(.ref b2)])) st2 ?_
  obtain ⟨cl3, Ar3, qk3, S3, M3, H3, G3⟩ := id c2_V_sbv
  refine og (B := T2.setTop (mkF m 24 #[rv sbv, iv 0, iv 4, iv 4, rv b2] [(.int 4), (.int 16), (.int 0), (.ref b2), (.int 0), (.ref sbv)])) (fun t k => ?_) ?_
  · refine XS.astore X2.here hx rfl (hb hby d30_12) rfl rfl (l' := #[rv sbv, iv 0, iv 4, iv 4, rv b2]) rfl ?_
    refine XS.aloadN X2.here hx rfl (hb hby d30_14) rfl rfl ?_
    refine XS.iloadN X2.here hx rfl (hb hby d30_15) rfl ?_
    refine XS.aload X2.here hx rfl (hb hby d30_16) rfl rfl ?_
    refine XS.iconst X2.here hx rfl (hb hby d30_18) ?_
    refine XS.aloadN X2.here hx rfl (hb hby d30_19) rfl rfl ?_
    show own_S p e below T2 (mkF m 20 #[rv sbv, iv 0, iv 4, iv 4, rv b2] [(.ref sbv), (.int 0), (.ref b2), (.int 0), (.ref sbv)]) _
    refine X2.arraylength hx (by rw [e2]; exact Ar3.1) (State.isArrayOf_alike hZ.alike Ar3.2.1) (g := (mkF m 20 #[rv sbv, iv 0, iv 4, iv 4, rv b2] [(.ref sbv), (.int 0), (.ref b2), (.int 0), (.ref sbv)])) rfl rfl (hb hby d30_20) _ ?_
    rw [len_of S3 M3]
    refine XS.iloadN X2.here hx rfl (hb hby d30_21) rfl ?_
    refine XS.isub X2.here hx rfl (hb hby d30_22) rfl ?_
    refine XS.iloadN X2.here hx rfl (hb hby d30_23) rfl ?_
    exact k
  obtain ⟨_, _, ⟨T4, L4, k4, n4⟩, -, X4, ⟨Lc4, hQ4, l4, y4, z4⟩, st4⟩ := Jvm.LawKit.callS X2 hx (y := own_y12) hown (mvT hZ (ow hw 162 rfl)) (mvT hZ (ow hw 163 rfl)) (mvT hZ (ow hw 164 rfl)) (mvT hZ (ow hw 165 rfl)) (by decide) (backOf (W := 4) (rm32 l Z a0 hw [] (16 : Int32) (4 : Int32) (4 : Int32) h2 n0 (Nat.le_trans Z0 E2.1) (by decide)) hZ (ow hw 165 rfl) (ow hw 164 rfl) (by decide) (by decide)) (g := (mkF m 24 #[rv sbv, iv 0, iv 4, iv 4, rv b2] [(.int 4), (.int 16), (.int 0), (.ref b2), (.int 0), (.ref sbv)])) rfl (by rw [hml]; rfl) (argsL := [(.int 16), (.int 4)]) (rest := [(.int 0), (.ref b2), (.int 0), (.ref sbv)]) (lenOf own_pd15 rfl) rfl (Nat.le_refl _) (hb hby d30_24) (fun _ _ => ⟨rfl, e2, (by decide : 1 + 0 ≤ _), (by decide : 4 + 0 ≤ _)⟩)
  dsimp only [Pt.U, Pt.locs, Pt.cells, Pt.slots] at X4 l4 y4 z4 st4 hQ4
  subst l4 y4 z4
  obtain ⟨rfl, N4q, eq4⟩ := hQ4
  have N4 := Fr.app N1 N4q
  refine og (B := T4.setTop (mkF m 27 #[rv sbv, iv 0, iv 4, iv 4, rv b2] [(.int 4), (.int 0), (.ref b2), (.int 0), (.ref sbv)])) st4 ?_
  obtain ⟨T5, h5, L5, X5, e5, N5, K5q, V5q, st5⟩ := cpA X4 hx hZ hown (ow hw 166 rfl) (ow hw 105 rfl) (ow hw 103 rfl) (ow hw 104 rfl) eq4 c2_V_sbv V2 (us := [(.int x0), (.int x1), (.int x2), (.int x3)]) (Or.inl ⟨rfl, rfl⟩) (by decide) (by decide) (by decide) (by decide) (by decide) rfl (by decide) N4 g_b2 (g := (mkF m 27 #[rv sbv, iv 0, iv 4, iv 4, rv b2] [(.int 4), (.int 0), (.ref b2), (.int 0), (.ref sbv)])) rfl (by rw [hml]; rfl) (rest := []) rfl (hb hby d30_27) (by decide) (W := 0) (Nat.le_refl _) (by decide)
  have V5 : Arv Z h5 b2 k2 .byte (4 : Int32) [(.int x0), (.int x1), (.int x2), (.int x3)] (.int 0) := V5q
  have c5_V_sbv := c2_V_sbv.keep K5q (fun q => ne_sbv_b2 (List.mem_singleton.mp q))
  have K5 := K2.trans K5q (allS (Or.inr sz_b2) all0)
  have zs5 := (Nat.le_trans (Nat.le_trans Z0 E2.1) K5q.1)
  refine og (B := T5.setTop (mkF m 30 #[rv sbv, iv 0, iv 4, iv 4, rv b2] [])) st5 ?_
  obtain ⟨fs, hr, hrun, hended, hW, hsame⟩ := X5.leave (v := some (.ref b2)) (fun h => by rw [Bd.returns] at h; cases h)
  refine ⟨_, _, ?_, hrun, hended, _, _, rfl, ?_, ⟨_, rfl⟩, hW, hsame.mono (by decide) (by decide)⟩
  · refine XS.aload X5.here hx rfl (hb hby d30_30) rfl rfl ?_
    show own_S p e below T5 (mkF m 32 #[rv sbv, iv 0, iv 4, iv 4, rv b2] [(.ref b2)]) _
    jvm_step X5.here [X5.here.top, hx, (hb hby d30_32), X5.method', Bd.returns, Value.isRef, FieldType.isReference]
    first | (intro acts; rw [hr _ acts rfl rfl rfl]) | rw [hr _ _ rfl rfl rfl]
    exact Steps.refl _
  · show Q30_4 Z sbv kv x0 x1 x2 x3 h0 n0 _ T5.heap _
    rw [e5]
    exact ⟨b2, k2, rfl, N5, K5, sz_b2, g_b2, V5⟩
def Q30_5 (Z : State) (sbv : Addr) (kv : ClassId) (x0 : Int32) (x1 : Int32) (x2 : Int32) (x3 : Int32) (x4 : Int32) (h0 : Heap) (n0 : Nat) (v : Option Value) (h : Heap) (L : List Loc) : Prop := own_QA Z (5 : Int32) [(.int x0), (.int x1), (.int x2), (.int x3), (.int x4)] h0 n0 v h L
set_option maxRecDepth 65536 in
set_option maxHeartbeats 40000000 in
theorem rm30_5 (l : Launch) (Z : State) (a0 : Array Value) (hw : ∀ d ∈ tables_1, d.before a0 Z = true) (ws : List Jvm.Cond) (sbv : Addr) (kv : ClassId) (x0 : Int32) (x1 : Int32) (x2 : Int32) (x3 : Int32) (x4 : Int32) (h0 : Heap) (n0 : Nat) (Z0 : n0 ≤ h0.size) (V_v : Arv Z h0 sbv kv .byte (16 : Int32) [(.int x0), (.int x1), (.int x2), (.int x3), (.int x4), (.int 0), (.int 0), (.int 0), (.int 0), (.int 0), (.int 0), (.int 0), (.int 0), (.int 0), (.int 0), (.int 0)] (.int 0)) :
    MetFree l own_y26 (head1 (Jvm.Cond.code own_y26 jdk_65_method_133_code 5 (some (.array .byte)) :: ws) ({ frames := 1, cells := 1, slots := 5, locals := 18 } : Room)) (fun a U => a = #[(.ref sbv), (.int 0), (.int 5)] ∧ Z.Warmed39 U.vm ∧ U.heap = h0) (fun _ _ _ _ _ => True) (fun _ U o U' => ∃ v L, o = .returned v ∧ Q30_5 Z sbv kv x0 x1 x2 x3 x4 h0 n0 v U'.heap L ∧ FrameEnd U o U' L ({ frames := 1, cells := 1, slots := 5, locals := 18 } : Room).cells ({ frames := 1, cells := 1, slots := 5, locals := 18 } : Room).slots) := by
  refine MetFree.of_bodySF (plainFor_of_name pn_30) hisR ?_
  intro p e s m args below meth c s₁ Bd hml0 hP hK
  obtain ⟨rfl, hZ, hh⟩ := hP
  have hx := Bd.exec
  have hby := Bd.bytes
  have hml : c.maxLocals = 5 := hml0
  have hown : s.vm.findClass "java/util/Arrays" = some m.cls := findClass_of_methodNamed Bd.named
  have hnm := (name_of_methodNamed Bd.named Bd.method).1
  have X0 : Stand p l e ({ frames := 1, cells := 1, slots := 5, locals := 18 } : Room) s m #[(.ref sbv), (.int 0), (.int 5)] below meth c s₁ [] 0 0 := Stand.of_body Bd
  have e0 : s₁.heap = h0 := by rw [← hh, Bd.state]; rfl
  have N0 := Fr.nil n0
  refine og (B := s₁.setTop (mkF m 0 #[rv sbv, iv 0, iv 5, .unset, .unset] [])) (fun t k => castTop (ef_30 m sbv (0 : Int32) (5 : Int32)) k) ?_
  refine og (B := s₁.setTop (mkF m 2 #[rv sbv, iv 0, iv 5, .unset, .unset] [(.int 5), (.int 0)])) (fun t k => ?_) ?_
  · refine XS.iloadN X0.here hx rfl (hb hby d30_0) rfl ?_
    refine XS.iloadN X0.here hx rfl (hb hby d30_1) rfl ?_
    exact k
  obtain ⟨_, _, ⟨T1, L1, k1, n1⟩, -, X1, ⟨Lc1, hQ1, l1, y1, z1⟩, st1⟩ := Jvm.LawKit.callS X0 hx (y := own_y25) hown (mvT hZ (ow hw 159 rfl)) (mvT hZ (ow hw 160 rfl)) (mvT hZ (ow hw 154 rfl)) (mvT hZ (ow hw 161 rfl)) (by decide) (backOf (W := 0) (rm31 l Z a0 hw [] (0 : Int32) (5 : Int32) h0 n0 Z0 (by decide)) hZ (ow hw 161 rfl) (ow hw 154 rfl) (by decide) (by decide)) (g := (mkF m 2 #[rv sbv, iv 0, iv 5, .unset, .unset] [(.int 5), (.int 0)])) rfl (by rw [hml]; rfl) (argsL := [(.int 0), (.int 5)]) (rest := []) (lenOf own_pd2 rfl) rfl (Nat.le_refl _) (hb hby d30_2) (fun _ _ => ⟨rfl, e0, (by decide : 0 + 0 ≤ _), (by decide : 0 + 0 ≤ _)⟩)
  dsimp only [Pt.U, Pt.locs, Pt.cells, Pt.slots] at X1 l1 y1 z1 st1 hQ1
  subst l1 y1 z1
  obtain ⟨rfl, N1q, eq1⟩ := hQ1
  have N1 := Fr.app N0 N1q
  refine og (B := T1.setTop (mkF m 5 #[rv sbv, iv 0, iv 5, .unset, .unset] [])) st1 ?_
  refine og (B := T1.setTop (mkF m 10 #[rv sbv, iv 0, iv 5, iv 5, .unset] [(.int 5)])) (fun t k => ?_) ?_
  · refine XS.iloadN X1.here hx rfl (hb hby d30_5) rfl ?_
    refine XS.iloadN X1.here hx rfl (hb hby d30_6) rfl ?_
    refine XS.isub X1.here hx rfl (hb hby d30_7) rfl ?_
    refine XS.istoreN X1.here hx rfl (hb hby d30_8) rfl (l' := #[rv sbv, iv 0, iv 5, iv 5, .unset]) rfl ?_
    refine XS.iloadN X1.here hx rfl (hb hby d30_9) rfl ?_
    exact k
  obtain ⟨T2, h2, k2, X2, e2, E2, A2, st2⟩ := newP X1 hx hZ (ow hw 19 rfl) eq1 (g := (mkF m 10 #[rv sbv, iv 0, iv 5, iv 5, .unset] [(.int 5)])) rfl (hb hby d30_10) rfl (by decide) (cap := 5) (by decide) (by decide) (by decide) (by decide)
  obtain ⟨b2, g2⟩ : ∃ z, z = h0.size := ⟨_, rfl⟩
  rw [← g2] at A2 st2
  have g_b2 : n0 ≤ b2 := Nat.le_trans Z0 (Nat.le_of_eq g2.symm)
  have sz_b2 : h0.size ≤ b2 := Nat.le_trans (Keep.refl h0 []).1 (Nat.le_of_eq g2.symm)
  have ne_sbv_b2 : sbv ≠ b2 := Nat.ne_of_lt (Nat.lt_of_lt_of_le V_v.lt (Nat.le_of_eq g2.symm))
  have c2_V_sbv := V_v.ext E2
  have K2 := (Keep.refl h0 []).ext E2
  have V2 : Arv Z h2 b2 k2 .byte (5 : Int32) [(.int 0), (.int 0), (.int 0), (.int 0), (.int 0)] (.int 0) := (Arv.new A2 (by decide)).pad (pad_rep [] (.int 0) 5)
  have zk2 := (Nat.le_trans (Nat.zero_le _) E2.1)
  refine og (B := T2.setTop (mkF m 12 #[rv sbv, iv 0, iv 5, iv 5, .unset] [(.ref b2)])) st2 ?_
  obtain ⟨cl3, Ar3, qk3, S3, M3, H3, G3⟩ := id c2_V_sbv
  refine og (B := T2.setTop (mkF m 24 #[rv sbv, iv 0, iv 5, iv 5, rv b2] [(.int 5), (.int 16), (.int 0), (.ref b2), (.int 0), (.ref sbv)])) (fun t k => ?_) ?_
  · refine XS.astore X2.here hx rfl (hb hby d30_12) rfl rfl (l' := #[rv sbv, iv 0, iv 5, iv 5, rv b2]) rfl ?_
    refine XS.aloadN X2.here hx rfl (hb hby d30_14) rfl rfl ?_
    refine XS.iloadN X2.here hx rfl (hb hby d30_15) rfl ?_
    refine XS.aload X2.here hx rfl (hb hby d30_16) rfl rfl ?_
    refine XS.iconst X2.here hx rfl (hb hby d30_18) ?_
    refine XS.aloadN X2.here hx rfl (hb hby d30_19) rfl rfl ?_
    show own_S p e below T2 (mkF m 20 #[rv sbv, iv 0, iv 5, iv 5, rv b2] [(.ref sbv), (.int 0), (.ref b2), (.int 0), (.ref sbv)]) _
    refine X2.arraylength hx (by rw [e2]; exact Ar3.1) (State.isArrayOf_alike hZ.alike Ar3.2.1) (g := (mkF m 20 #[rv sbv, iv 0, iv 5, iv 5, rv b2] [(.ref sbv), (.int 0), (.ref b2), (.int 0), (.ref sbv)])) rfl rfl (hb hby d30_20) _ ?_
    rw [len_of S3 M3]
    refine XS.iloadN X2.here hx rfl (hb hby d30_21) rfl ?_
    refine XS.isub X2.here hx rfl (hb hby d30_22) rfl ?_
    refine XS.iloadN X2.here hx rfl (hb hby d30_23) rfl ?_
    exact k
  obtain ⟨_, _, ⟨T4, L4, k4, n4⟩, -, X4, ⟨Lc4, hQ4, l4, y4, z4⟩, st4⟩ := Jvm.LawKit.callS X2 hx (y := own_y12) hown (mvT hZ (ow hw 162 rfl)) (mvT hZ (ow hw 163 rfl)) (mvT hZ (ow hw 164 rfl)) (mvT hZ (ow hw 165 rfl)) (by decide) (backOf (W := 4) (rm32 l Z a0 hw [] (16 : Int32) (5 : Int32) (5 : Int32) h2 n0 (Nat.le_trans Z0 E2.1) (by decide)) hZ (ow hw 165 rfl) (ow hw 164 rfl) (by decide) (by decide)) (g := (mkF m 24 #[rv sbv, iv 0, iv 5, iv 5, rv b2] [(.int 5), (.int 16), (.int 0), (.ref b2), (.int 0), (.ref sbv)])) rfl (by rw [hml]; rfl) (argsL := [(.int 16), (.int 5)]) (rest := [(.int 0), (.ref b2), (.int 0), (.ref sbv)]) (lenOf own_pd15 rfl) rfl (Nat.le_refl _) (hb hby d30_24) (fun _ _ => ⟨rfl, e2, (by decide : 1 + 0 ≤ _), (by decide : 5 + 0 ≤ _)⟩)
  dsimp only [Pt.U, Pt.locs, Pt.cells, Pt.slots] at X4 l4 y4 z4 st4 hQ4
  subst l4 y4 z4
  obtain ⟨rfl, N4q, eq4⟩ := hQ4
  have N4 := Fr.app N1 N4q
  refine og (B := T4.setTop (mkF m 27 #[rv sbv, iv 0, iv 5, iv 5, rv b2] [(.int 5), (.int 0), (.ref b2), (.int 0), (.ref sbv)])) st4 ?_
  obtain ⟨T5, h5, L5, X5, e5, N5, K5q, V5q, st5⟩ := cpA X4 hx hZ hown (ow hw 166 rfl) (ow hw 105 rfl) (ow hw 103 rfl) (ow hw 104 rfl) eq4 c2_V_sbv V2 (us := [(.int x0), (.int x1), (.int x2), (.int x3), (.int x4)]) (Or.inl ⟨rfl, rfl⟩) (by decide) (by decide) (by decide) (by decide) (by decide) rfl (by decide) N4 g_b2 (g := (mkF m 27 #[rv sbv, iv 0, iv 5, iv 5, rv b2] [(.int 5), (.int 0), (.ref b2), (.int 0), (.ref sbv)])) rfl (by rw [hml]; rfl) (rest := []) rfl (hb hby d30_27) (by decide) (W := 0) (Nat.le_refl _) (by decide)
  have V5 : Arv Z h5 b2 k2 .byte (5 : Int32) [(.int x0), (.int x1), (.int x2), (.int x3), (.int x4)] (.int 0) := V5q
  have c5_V_sbv := c2_V_sbv.keep K5q (fun q => ne_sbv_b2 (List.mem_singleton.mp q))
  have K5 := K2.trans K5q (allS (Or.inr sz_b2) all0)
  have zs5 := (Nat.le_trans (Nat.le_trans Z0 E2.1) K5q.1)
  refine og (B := T5.setTop (mkF m 30 #[rv sbv, iv 0, iv 5, iv 5, rv b2] [])) st5 ?_
  obtain ⟨fs, hr, hrun, hended, hW, hsame⟩ := X5.leave (v := some (.ref b2)) (fun h => by rw [Bd.returns] at h; cases h)
  refine ⟨_, _, ?_, hrun, hended, _, _, rfl, ?_, ⟨_, rfl⟩, hW, hsame.mono (by decide) (by decide)⟩
  · refine XS.aload X5.here hx rfl (hb hby d30_30) rfl rfl ?_
    show own_S p e below T5 (mkF m 32 #[rv sbv, iv 0, iv 5, iv 5, rv b2] [(.ref b2)]) _
    jvm_step X5.here [X5.here.top, hx, (hb hby d30_32), X5.method', Bd.returns, Value.isRef, FieldType.isReference]
    first | (intro acts; rw [hr _ acts rfl rfl rfl]) | rw [hr _ _ rfl rfl rfl]
    exact Steps.refl _
  · show Q30_5 Z sbv kv x0 x1 x2 x3 x4 h0 n0 _ T5.heap _
    rw [e5]
    exact ⟨b2, k2, rfl, N5, K5, sz_b2, g_b2, V5⟩
theorem pn_29 : plainName "java/util/Arrays" = true := by first | (simp [plainName, overriddenIn]; done) | decide +kernel
theorem d29_0 : decode jdk_65_method_132_code 0 = .ok (.iload_n 1, 1) := by decide +kernel
theorem d29_1 : decode jdk_65_method_132_code 1 = .ok (.ifCond .ne 9, 3) := by decide +kernel
theorem d29_4 : decode jdk_65_method_132_code 4 = .ok (.iload_n 2, 1) := by decide +kernel
theorem d29_5 : decode jdk_65_method_132_code 5 = .ok (.aload_n 0, 1) := by decide +kernel
theorem d29_6 : decode jdk_65_method_132_code 6 = .ok (.arraylength, 1) := by decide +kernel
theorem d29_7 : decode jdk_65_method_132_code 7 = .ok (.if_icmp .eq 10, 3) := by decide +kernel
theorem d29_10 : decode jdk_65_method_132_code 10 = .ok (.aload_n 0, 1) := by decide +kernel
theorem d29_11 : decode jdk_65_method_132_code 11 = .ok (.iload_n 1, 1) := by decide +kernel
theorem d29_12 : decode jdk_65_method_132_code 12 = .ok (.iload_n 2, 1) := by decide +kernel
theorem d29_13 : decode jdk_65_method_132_code 13 = .ok (.invokestatic 339, 3) := by decide +kernel
theorem d29_16 : decode jdk_65_method_132_code 16 = .ok (.areturn, 1) := by decide +kernel
theorem ef_29 (m : MethodId) (x0 : Addr) (x1 : Int32) (x2 : Int32) : entryFrame m #[(.ref x0), (.int x1), (.int x2)] 3 = mkF m 0 #[.val (.ref x0), .val (.int x1), .val (.int x2)] [] := by first | (simp [entryFrame, mkF, argsToLocals, Value.category]; done) | rfl
def Q29 (Z : State) (sbv : Addr) (kv : ClassId) (p3 : Int32) (dl : List Value) (us : List Value) (h0 : Heap) (n0 : Nat) (v : Option Value) (h : Heap) (L : List Loc) : Prop := own_QA Z p3 us h0 n0 v h L
set_option maxRecDepth 65536 in
set_option maxHeartbeats 40000000 in
theorem rm29 (l : Launch) (Z : State) (a0 : Array Value) (hw : ∀ d ∈ tables_1, d.before a0 Z = true) (ws : List Jvm.Cond) (sbv : Addr) (kv : ClassId) (p3 : Int32) (dl : List Value) (us : List Value) (h0 : Heap) (n0 : Nat) (Z0 : n0 ≤ h0.size) (V_v : Arv Z h0 sbv kv .byte (16 : Int32) dl (.int 0)) (hne : ¬ p3 = (16 : Int32)) (hM : MetFree l own_y26 (head1 (Jvm.Cond.code own_y26 jdk_65_method_133_code 5 (some (.array .byte)) :: []) ({ frames := 1, cells := 1, slots := 5, locals := 18 } : Room)) (fun a U => a = #[(.ref sbv), (.int 0), (.int p3)] ∧ Z.Warmed39 U.vm ∧ U.heap = h0) (fun _ _ _ _ _ => True) (fun _ U o U' => ∃ v L, o = .returned v ∧ own_QA Z p3 us h0 n0 v U'.heap L ∧ FrameEnd U o U' L ({ frames := 1, cells := 1, slots := 5, locals := 18 } : Room).cells ({ frames := 1, cells := 1, slots := 5, locals := 18 } : Room).slots)) :
    MetFree l own_y27 (head1 (Jvm.Cond.code own_y27 jdk_65_method_132_code 3 (some (.array .byte)) :: ws) ({ frames := 2, cells := 1, slots := 5, locals := 34 } : Room)) (fun a U => a = #[(.ref sbv), (.int 0), (.int p3)] ∧ Z.Warmed39 U.vm ∧ U.heap = h0) (fun _ _ _ _ _ => True) (fun _ U o U' => ∃ v L, o = .returned v ∧ Q29 Z sbv kv p3 dl us h0 n0 v U'.heap L ∧ FrameEnd U o U' L ({ frames := 2, cells := 1, slots := 5, locals := 34 } : Room).cells ({ frames := 2, cells := 1, slots := 5, locals := 34 } : Room).slots) := by
  refine MetFree.of_bodySF (plainFor_of_name pn_29) hisR ?_
  intro p e s m args below meth c s₁ Bd hml0 hP hK
  obtain ⟨rfl, hZ, hh⟩ := hP
  have hx := Bd.exec
  have hby := Bd.bytes
  have hml : c.maxLocals = 3 := hml0
  have hown : s.vm.findClass "java/util/Arrays" = some m.cls := findClass_of_methodNamed Bd.named
  have hnm := (name_of_methodNamed Bd.named Bd.method).1
  have X0 : Stand p l e ({ frames := 2, cells := 1, slots := 5, locals := 34 } : Room) s m #[(.ref sbv), (.int 0), (.int p3)] below meth c s₁ [] 0 0 := Stand.of_body Bd
  have e0 : s₁.heap = h0 := by rw [← hh, Bd.state]; rfl
  have N0 := Fr.nil n0
  refine og (B := s₁.setTop (mkF m 0 #[rv sbv, iv 0, iv p3] [])) (fun t k => castTop (ef_29 m sbv (0 : Int32) p3) k) ?_
  obtain ⟨cl1, Ar1, qk1, S1, M1, H1, G1⟩ := id V_v
  refine og (B := s₁.setTop (mkF m 13 #[rv sbv, iv 0, iv p3] [(.int p3), (.int 0), (.ref sbv)])) (fun t k => ?_) ?_
  · refine XS.iloadN X0.here hx rfl (hb hby d29_0) rfl ?_
    refine XS.ifNo X0.here hx rfl (hb hby d29_1) rfl ((if0 _ _).trans (teq (by decide)).2) ?_
    refine XS.iloadN X0.here hx rfl (hb hby d29_4) rfl ?_
    refine XS.aloadN X0.here hx rfl (hb hby d29_5) rfl rfl ?_
    refine X0.arraylength hx (by rw [e0]; exact Ar1.1) (State.isArrayOf_alike hZ.alike Ar1.2.1) (g := (mkF m 6 #[rv sbv, iv 0, iv p3] [(.ref sbv), (.int p3)])) rfl rfl (hb hby d29_6) _ ?_
    rw [len_of S1 M1]
    refine XS.icmpNo X0.here hx rfl (hb hby d29_7) rfl (feq hne).1 ?_
    show own_S p e below s₁ (mkF m 10 #[rv sbv, iv 0, iv p3] []) _
    refine XS.aloadN X0.here hx rfl (hb hby d29_10) rfl rfl ?_
    refine XS.iloadN X0.here hx rfl (hb hby d29_11) rfl ?_
    refine XS.iloadN X0.here hx rfl (hb hby d29_12) rfl ?_
    exact k
  obtain ⟨_, _, ⟨T2, L2, k2, n2⟩, -, X2, ⟨Lc2, hQ2, l2, y2, z2⟩, st2⟩ := Jvm.LawKit.callS X0 hx (y := own_y26) hown (mvT hZ (ow hw 156 rfl)) (mvT hZ (ow hw 157 rfl)) (mvT hZ (ow hw 154 rfl)) (mvT hZ (ow hw 158 rfl)) (by decide) (backOf (W := 0) (hM) hZ (ow hw 158 rfl) (ow hw 154 rfl) (by decide) (by decide)) (g := (mkF m 13 #[rv sbv, iv 0, iv p3] [(.int p3), (.int 0), (.ref sbv)])) rfl (by rw [hml]; rfl) (argsL := [(.ref sbv), (.int 0), (.int p3)]) (rest := []) (lenOf own_pd16 rfl) rfl (Nat.le_refl _) (hb hby d29_13) (fun _ _ => ⟨rfl, e0, (by decide : 0 + 1 ≤ _), (by decide : 0 + 5 ≤ _)⟩)
  dsimp only [Pt.U, Pt.locs, Pt.cells, Pt.slots] at X2 l2 y2 z2 st2 hQ2
  subst l2 y2 z2
  obtain ⟨bq2, kq2, rfl, N2q, K2q, q2z, q2g, V2q⟩ := hQ2
  have N2 := Fr.app N0 N2q
  have sz_bq2 : h0.size ≤ bq2 := Nat.le_trans ((Keep.refl h0 [])).1 q2z
  have g_bq2 : n0 ≤ bq2 := q2g
  have ne_sbv_bq2 : sbv ≠ bq2 := Nat.ne_of_lt (Nat.lt_of_lt_of_le V_v.lt q2z)
  have c2_V_sbv := V_v.keep K2q (List.not_mem_nil)
  have K2 := (Keep.refl h0 []).trans K2q all0
  have zk2 := (Nat.le_trans (Nat.zero_le _) K2q.1)
  refine og (B := T2.setTop (mkF m 16 #[rv sbv, iv 0, iv p3] [(.ref bq2)])) st2 ?_
  obtain ⟨fs, hr, hrun, hended, hW, hsame⟩ := X2.leave (v := some (.ref bq2)) (fun h => by rw [Bd.returns] at h; cases h)
  refine ⟨_, _, ?_, hrun, hended, _, _, rfl, ?_, ⟨_, rfl⟩, hW, hsame.mono (by decide) (by decide)⟩
  · show own_S p e below T2 (mkF m 16 #[rv sbv, iv 0, iv p3] [(.ref bq2)]) _
    jvm_step X2.here [X2.here.top, hx, (hb hby d29_16), X2.method', Bd.returns, Value.isRef, FieldType.isReference]
    first | (intro acts; rw [hr _ acts rfl rfl rfl]) | rw [hr _ _ rfl rfl rfl]
    exact Steps.refl _
  · show Q29 Z sbv kv p3 dl us h0 n0 _ T2.heap _
    exact ⟨bq2, kq2, rfl, N2, K2, sz_bq2, g_bq2, V2q⟩
theorem pn_24 : plainName "java/lang/String" = true := by first | (simp [plainName, overriddenIn]; done) | decide +kernel
theorem d24_0 : decode jdk_42_method_150_code 0 = .ok (.aload_n 0, 1) := by decide +kernel
theorem d24_1 : decode jdk_42_method_150_code 1 = .ok (.invokespecial 1, 3) := by decide +kernel
theorem d24_4 : decode jdk_42_method_150_code 4 = .ok (.aload_n 1, 1) := by decide +kernel
theorem d24_5 : decode jdk_42_method_150_code 5 = .ok (.invokevirtual 552, 3) := by decide +kernel
theorem d24_8 : decode jdk_42_method_150_code 8 = .ok (.astore_n 3, 1) := by decide +kernel
theorem d24_9 : decode jdk_42_method_150_code 9 = .ok (.aload_n 1, 1) := by decide +kernel
theorem d24_10 : decode jdk_42_method_150_code 10 = .ok (.invokevirtual 549, 3) := by decide +kernel
theorem d24_13 : decode jdk_42_method_150_code 13 = .ok (.istore 4, 2) := by decide +kernel
theorem d24_15 : decode jdk_42_method_150_code 15 = .ok (.aload_n 1, 1) := by decide +kernel
theorem d24_16 : decode jdk_42_method_150_code 16 = .ok (.invokevirtual 1047, 3) := by decide +kernel
theorem d24_19 : decode jdk_42_method_150_code 19 = .ok (.ifCond .eq 22, 3) := by decide +kernel
theorem d24_22 : decode jdk_42_method_150_code 22 = .ok (.aload_n 0, 1) := by decide +kernel
theorem d24_23 : decode jdk_42_method_150_code 23 = .ok (.iconst 0, 1) := by decide +kernel
theorem d24_24 : decode jdk_42_method_150_code 24 = .ok (.putfield 15, 3) := by decide +kernel
theorem d24_27 : decode jdk_42_method_150_code 27 = .ok (.aload_n 0, 1) := by decide +kernel
theorem d24_28 : decode jdk_42_method_150_code 28 = .ok (.aload_n 3, 1) := by decide +kernel
theorem d24_29 : decode jdk_42_method_150_code 29 = .ok (.iconst 0, 1) := by decide +kernel
theorem d24_30 : decode jdk_42_method_150_code 30 = .ok (.iload 4, 2) := by decide +kernel
theorem d24_32 : decode jdk_42_method_150_code 32 = .ok (.invokestatic 54, 3) := by decide +kernel
theorem d24_35 : decode jdk_42_method_150_code 35 = .ok (.putfield 9, 3) := by decide +kernel
theorem d24_38 : decode jdk_42_method_150_code 38 = .ok (.goto 59, 3) := by decide +kernel
theorem d24_97 : decode jdk_42_method_150_code 97 = .ok (.return_, 1) := by decide +kernel
theorem ef_24n2 (m : MethodId) (x0 : Addr) (x1 : Addr) : entryFrame m #[(.ref x0), (.ref x1), .null] 5 = mkF m 0 #[.val (.ref x0), .val (.ref x1), .val .null, .unset, .unset] [] := by first | (simp [entryFrame, mkF, argsToLocals, Value.category]; done) | rfl
def Q24 (Z : State) (a1 : Addr) (a2 : Addr) (sbv : Addr) (kv : ClassId) (p3 : Int32) (dl : List Value) (us : List Value) (GC : Int32) (h0 : Heap) (n0 : Nat) (v : Option Value) (h : Heap) (L : List Loc) : Prop := v = none ∧ Fr n0 L ∧ (∃ (b : Addr) (kb : ClassId), Keep h0 h [a1] ∧ Exa Z h a1 "java/lang/String" ∧ Fld Z h a1 "java/lang/String" "coder" "B" (.int 0) ∧ Fld Z h a1 "java/lang/String" "value" "[B" (.ref b) ∧ Arv Z h b kb .byte p3 us (.int 0))
set_option maxRecDepth 65536 in
set_option maxHeartbeats 40000000 in
theorem rm24 (l : Launch) (Z : State) (a0 : Array Value) (hw : ∀ d ∈ tables_1, d.before a0 Z = true) (ws : List Jvm.Cond) (a1 : Addr) (a2 : Addr) (sbv : Addr) (kv : ClassId) (p3 : Int32) (dl : List Value) (us : List Value) (GC : Int32) (h0 : Heap) (n0 : Nat) (Z0 : n0 ≤ h0.size) (S_C : Sta Z Z.heap "java/lang/String" "COMPACT_STRINGS" "Z" (.int GC)) (hGC : ¬ GC = (0 : Int32)) (O0 : Old Z n0 h0) (E_a1 : Exa Z h0 a1 "java/lang/String") (g_a1 : n0 ≤ a1) (F_v : Fld Z h0 a1 "java/lang/String" "value" "[B" .null) (F_c : Fld Z h0 a1 "java/lang/String" "coder" "B" (.int 0)) (E_a2 : Exa Z h0 a2 "java/lang/StringBuilder") (F_v2 : Fld Z h0 a2 "java/lang/AbstractStringBuilder" "value" "[B" (.ref sbv)) (F_c2 : Fld Z h0 a2 "java/lang/AbstractStringBuilder" "coder" "B" (.int 0)) (F_n2 : Fld Z h0 a2 "java/lang/AbstractStringBuilder" "count" "I" (.int p3)) (V_v : Arv Z h0 sbv kv .byte (16 : Int32) dl (.int 0)) (n_12 : a1 ≠ a2) (n_1v : a1 ≠ sbv) (hM : ∀ h1 : Heap, n0 ≤ h1.size → Arv Z h1 sbv kv .byte (16 : Int32) dl (.int 0) → MetFree l own_y27 (head1 (Jvm.Cond.code own_y27 jdk_65_method_132_code 3 (some (.array .byte)) :: []) ({ frames := 2, cells := 1, slots := 5, locals := 34 } : Room)) (fun a U => a = #[(.ref sbv), (.int 0), (.int p3)] ∧ Z.Warmed39 U.vm ∧ U.heap = h1) (fun _ _ _ _ _ => True) (fun _ U o U' => ∃ v L, o = .returned v ∧ own_QA Z p3 us h1 n0 v U'.heap L ∧ FrameEnd U o U' L ({ frames := 2, cells := 1, slots := 5, locals := 34 } : Room).cells ({ frames := 2, cells := 1, slots := 5, locals := 34 } : Room).slots)) :
    MetFree l own_y28 (head1 (Jvm.Cond.code own_y28 jdk_42_method_150_code 5 none :: ws) ({ frames := 3, cells := 1, slots := 5, locals := 49 } : Room)) (fun a U => a = #[(.ref a1), (.ref a2), .null] ∧ Z.Warmed39 U.vm ∧ U.heap = h0) (fun _ _ _ _ _ => True) (fun _ U o U' => ∃ v L, o = .returned v ∧ Q24 Z a1 a2 sbv kv p3 dl us GC h0 n0 v U'.heap L ∧ FrameEnd U o U' L ({ frames := 3, cells := 1, slots := 5, locals := 49 } : Room).cells ({ frames := 3, cells := 1, slots := 5, locals := 49 } : Room).slots) := by
  refine MetFree.of_bodySF (plainFor_of_name pn_24) hisR ?_
  intro p e s m args below meth c s₁ Bd hml0 hP hK
  obtain ⟨rfl, hZ, hh⟩ := hP
  have hx := Bd.exec
  have hby := Bd.bytes
  have hml : c.maxLocals = 5 := hml0
  have hown : s.vm.findClass "java/lang/String" = some m.cls := findClass_of_methodNamed Bd.named
  have hnm := (name_of_methodNamed Bd.named Bd.method).1
  have X0 : Stand p l e ({ frames := 3, cells := 1, slots := 5, locals := 49 } : Room) s m #[(.ref a1), (.ref a2), .null] below meth c s₁ [] 0 0 := Stand.of_body Bd
  have e0 : s₁.heap = h0 := by rw [← hh, Bd.state]; rfl
  have N0 := Fr.nil n0
  refine og (B := s₁.setTop (mkF m 0 #[rv a1, rv a2, .val .null, .unset, .unset] [])) (fun t k => castTop (ef_24n2 m a1 a2) k) ?_
  refine og (B := s₁.setTop (mkF m 1 #[rv a1, rv a2, .val .null, .unset, .unset] [(.ref a1)])) (fun t k => ?_) ?_
  · refine XS.aloadN X0.here hx rfl (hb hby d24_0) rfl rfl ?_
    exact k
  obtain ⟨T1, X1, e1, st1⟩ := initO X0 hx hZ hown (ow hw 11 rfl) (ow hw 12 rfl) (ow hw 13 rfl) e0 (g := (mkF m 1 #[rv a1, rv a2, .val .null, .unset, .unset] [(.ref a1)])) rfl (by rw [hml]; rfl) rfl (hb hby d24_1) (by decide) (W := 0) (Nat.le_refl _) (by decide)
  refine og (B := T1.setTop (mkF m 4 #[rv a1, rv a2, .val .null, .unset, .unset] [])) st1 ?_
  refine og (B := T1.setTop (mkF m 5 #[rv a1, rv a2, .val .null, .unset, .unset] [(.ref a2)])) (fun t k => ?_) ?_
  · refine XS.aloadN X1.here hx rfl (hb hby d24_4) rfl rfl ?_
    exact k
  obtain ⟨cq2, kq2, q2a, q2b, q2c⟩ := isOf hZ e1 E_a2
  obtain ⟨_, _, ⟨T2, L2, k2, n2⟩, -, X2, ⟨Lc2, hQ2, l2, y2, z2⟩, st2⟩ := X1.virtualBack hx (y := own_y21) (z := own_y21) hown (mvT hZ (ow hw 134 rfl)) (mvT hZ (ow hw 135 rfl)) (notFace_of_selects (args := #[]) (mvT hZ (ow hw 137 rfl))) (mvT hZ (ow hw 137 rfl)) (mvT hZ (ow hw 136 rfl)) (by decide) (backOf (W := 0) (rm25 l Z a0 hw [] a2 sbv h0 n0 Z0 E_a2 F_v2) hZ (ow hw 138 rfl) (ow hw 51 rfl) (by decide) (by decide)) q2a q2c (g := (mkF m 5 #[rv a1, rv a2, .val .null, .unset, .unset] [(.ref a2)])) rfl (by rw [hml]; rfl) (Steps.refl _) (argsL := []) (rest := []) (lenOf own_pd17 rfl) rfl (Nat.le_refl _) (hb hby d24_5) (fun _ _ => ⟨rfl, e1, (by decide : 0 + 0 ≤ _), (by decide : 0 + 0 ≤ _)⟩)
  dsimp only [Pt.U, Pt.locs, Pt.cells, Pt.slots] at X2 l2 y2 z2 st2 hQ2
  subst l2 y2 z2
  obtain ⟨rfl, N2q, eq2⟩ := hQ2
  have N2 := Fr.app N0 N2q
  refine og (B := T2.setTop (mkF m 8 #[rv a1, rv a2, .val .null, .unset, .unset] [(.ref sbv)])) (fun _ => st2.trans) ?_
  refine og (B := T2.setTop (mkF m 10 #[rv a1, rv a2, .val .null, rv sbv, .unset] [(.ref a2)])) (fun t k => ?_) ?_
  · refine XS.astoreN X2.here hx rfl (hb hby d24_8) rfl rfl (l' := #[rv a1, rv a2, .val .null, rv sbv, .unset]) rfl ?_
    refine XS.aloadN X2.here hx rfl (hb hby d24_9) rfl rfl ?_
    exact k
  obtain ⟨cq3, kq3, q3a, q3b, q3c⟩ := isOf hZ eq2 E_a2
  obtain ⟨_, _, ⟨T3, L3, k3, n3⟩, -, X3, ⟨Lc3, hQ3, l3, y3, z3⟩, st3⟩ := X2.virtualBack hx (y := own_y22) (z := own_y23) hown (mvT hZ (ow hw 139 rfl)) (mvT hZ (ow hw 140 rfl)) (own_nfM hZ (own_nfA hw rfl)) (mvT hZ (ow hw 142 rfl)) (mvT hZ (ow hw 143 rfl)) (by decide) (backOf (W := 0) (rm26 l Z a0 hw [] a2 p3 h0 n0 Z0 E_a2 F_n2) hZ (ow hw 144 rfl) (ow hw 43 rfl) (by decide) (by decide)) q3a q3c (g := (mkF m 10 #[rv a1, rv a2, .val .null, rv sbv, .unset] [(.ref a2)])) rfl (by rw [hml]; rfl) (Steps.refl _) (argsL := []) (rest := []) (lenOf own_pd12 rfl) rfl (Nat.le_refl _) (hb hby d24_10) (fun _ _ => ⟨rfl, eq2, (by decide : 0 + 0 ≤ _), (by decide : 0 + 0 ≤ _)⟩)
  dsimp only [Pt.U, Pt.locs, Pt.cells, Pt.slots] at X3 l3 y3 z3 st3 hQ3
  subst l3 y3 z3
  obtain ⟨rfl, N3q, eq3⟩ := hQ3
  have N3 := Fr.app N2 N3q
  refine og (B := T3.setTop (mkF m 13 #[rv a1, rv a2, .val .null, rv sbv, .unset] [(.int p3)])) (fun _ => st3.trans) ?_
  refine og (B := T3.setTop (mkF m 16 #[rv a1, rv a2, .val .null, rv sbv, iv p3] [(.ref a2)])) (fun t k => ?_) ?_
  · refine XS.istore X3.here hx rfl (hb hby d24_13) rfl (l' := #[rv a1, rv a2, .val .null, rv sbv, iv p3]) rfl ?_
    refine XS.aloadN X3.here hx rfl (hb hby d24_15) rfl rfl ?_
    exact k
  obtain ⟨cq4, kq4, q4a, q4b, q4c⟩ := isOf hZ eq3 E_a2
  obtain ⟨_, _, ⟨T4, L4, k4, n4⟩, -, X4, ⟨Lc4, hQ4, l4, y4, z4⟩, st4⟩ := X3.virtualBack hx (y := own_y24) (z := own_y24) hown (mvT hZ (ow hw 147 rfl)) (mvT hZ (ow hw 148 rfl)) (notFace_of_selects (args := #[]) (mvT hZ (ow hw 150 rfl))) (mvT hZ (ow hw 150 rfl)) (mvT hZ (ow hw 149 rfl)) (by decide) (backOf (W := 0) (rm28 l Z a0 hw [] a2 GC h0 n0 Z0 S_C hGC O0 E_a2 F_c2) hZ (ow hw 151 rfl) (ow hw 51 rfl) (by decide) (by decide)) q4a q4c (g := (mkF m 16 #[rv a1, rv a2, .val .null, rv sbv, iv p3] [(.ref a2)])) rfl (by rw [hml]; rfl) (Steps.refl _) (argsL := []) (rest := []) (lenOf own_pd3 rfl) rfl (Nat.le_refl _) (hb hby d24_16) (fun _ _ => ⟨rfl, eq3, (by decide : 0 + 0 ≤ _), (by decide : 0 + 0 ≤ _)⟩)
  dsimp only [Pt.U, Pt.locs, Pt.cells, Pt.slots] at X4 l4 y4 z4 st4 hQ4
  subst l4 y4 z4
  obtain ⟨rfl, N4q, eq4⟩ := hQ4
  have N4 := Fr.app N3 N4q
  refine og (B := T4.setTop (mkF m 19 #[rv a1, rv a2, .val .null, rv sbv, iv p3] [(.int 1)])) (fun _ => st4.trans) ?_
  refine og (B := T4.setTop (mkF m 24 #[rv a1, rv a2, .val .null, rv sbv, iv p3] [(.int 0), (.ref a1)])) (fun t k => ?_) ?_
  · refine XS.ifNo X4.here hx rfl (hb hby d24_19) rfl ((if0 _ _).trans (feq (by decide)).1) ?_
    refine XS.aloadN X4.here hx rfl (hb hby d24_22) rfl rfl ?_
    refine XS.iconst X4.here hx rfl (hb hby d24_23) ?_
    exact k
  obtain ⟨T5, h5, X5, e5, W5, st5⟩ := putFN X4 hx hZ hown (ow hw 26 rfl) Via.refl eq4 F_c E_a1 (Or.inr ⟨(ow hw 27 rfl), rfl, hnm⟩) (ow hw 1 rfl) (ty := .byte) (v' := (.int 0)) (by decide) rfl (by decide) (g := (mkF m 24 #[rv a1, rv a2, .val .null, rv sbv, iv p3] [(.int 0), (.ref a1)])) rfl rfl (hb hby d24_24)
  have c5_E_a2 := E_a2.wr W5
  have c5_F_a2_value := F_v2.other W5 (Or.inl (Ne.symm n_12))
  have c5_F_a2_coder := F_c2.other W5 (Or.inl (Ne.symm n_12))
  have c5_F_a2_count := F_n2.other W5 (Or.inl (Ne.symm n_12))
  have c5_V_sbv := V_v.other W5 (Ne.symm n_1v)
  have c5_E_a1 := E_a1.wr W5
  have c5_F_a1_value := F_v.other W5 (Or.inr (slot_ne (Or.inr (ow hw 29 rfl)) (Or.inr (ow hw 27 rfl)) (by decide) (t := (.array .byte)) (t' := .byte) (by decide) (by decide)))
  have c5_F_a1_coder := F_c.same W5
  have K5 := (Keep.refl h0 [a1]).wr W5 (Or.inl (List.mem_of_getElem? (i := 0) rfl))
  have O5 := O0.wr W5 g_a1
  have N5 := Fr.snoc X5 N4 g_a1
  have zs5 := (Nat.le_trans Z0 (Keep.of_wr W5).1)
  have zk5 := (Nat.le_trans (Nat.zero_le _) (Keep.of_wr W5).1)
  refine og (B := T5.setTop (mkF m 27 #[rv a1, rv a2, .val .null, rv sbv, iv p3] [])) st5 ?_
  refine og (B := T5.setTop (mkF m 32 #[rv a1, rv a2, .val .null, rv sbv, iv p3] [(.int p3), (.int 0), (.ref sbv), (.ref a1)])) (fun t k => ?_) ?_
  · refine XS.aloadN X5.here hx rfl (hb hby d24_27) rfl rfl ?_
    refine XS.aloadN X5.here hx rfl (hb hby d24_28) rfl rfl ?_
    refine XS.iconst X5.here hx rfl (hb hby d24_29) ?_
    refine XS.iload X5.here hx rfl (hb hby d24_30) rfl ?_
    exact k
  obtain ⟨_, _, ⟨T6, L6, k6, n6⟩, -, X6, ⟨Lc6, hQ6, l6, y6, z6⟩, st6⟩ := Jvm.LawKit.callS X5 hx (y := own_y27) hown (mvT hZ (ow hw 152 rfl)) (mvT hZ (ow hw 153 rfl)) (mvT hZ (ow hw 154 rfl)) (mvT hZ (ow hw 155 rfl)) (by decide) (backOf (W := 1) (hM h5 zs5 c5_V_sbv) hZ (ow hw 155 rfl) (ow hw 154 rfl) (by decide) (by decide)) (g := (mkF m 32 #[rv a1, rv a2, .val .null, rv sbv, iv p3] [(.int p3), (.int 0), (.ref sbv), (.ref a1)])) rfl (by rw [hml]; rfl) (argsL := [(.ref sbv), (.int 0), (.int p3)]) (rest := [(.ref a1)]) (lenOf own_pd16 rfl) rfl (Nat.le_refl _) (hb hby d24_32) (fun _ _ => ⟨rfl, e5, (by decide : 0 + 1 ≤ _), (by decide : 0 + 5 ≤ _)⟩)
  dsimp only [Pt.U, Pt.locs, Pt.cells, Pt.slots] at X6 l6 y6 z6 st6 hQ6
  subst l6 y6 z6
  obtain ⟨bq6, kq6, rfl, N6q, K6q, q6z, q6g, V6q⟩ := hQ6
  have N6 := Fr.app N5 N6q
  have sz_bq6 : h0.size ≤ bq6 := Nat.le_trans (K5).1 q6z
  have g_bq6 : n0 ≤ bq6 := q6g
  have ne_a2_bq6 : a2 ≠ bq6 := Nat.ne_of_lt (Nat.lt_of_lt_of_le c5_E_a2.lt q6z)
  have ne_sbv_bq6 : sbv ≠ bq6 := Nat.ne_of_lt (Nat.lt_of_lt_of_le c5_V_sbv.lt q6z)
  have ne_a1_bq6 : a1 ≠ bq6 := Nat.ne_of_lt (Nat.lt_of_lt_of_le c5_E_a1.lt q6z)
  have c6_E_a2 := c5_E_a2.keep K6q
  have c6_F_a2_value := c5_F_a2_value.keep K6q (List.not_mem_nil)
  have c6_F_a2_coder := c5_F_a2_coder.keep K6q (List.not_mem_nil)
  have c6_F_a2_count := c5_F_a2_count.keep K6q (List.not_mem_nil)
  have c6_V_sbv := c5_V_sbv.keep K6q (List.not_mem_nil)
  have c6_E_a1 := c5_E_a1.keep K6q
  have c6_F_a1_value := c5_F_a1_value.keep K6q (List.not_mem_nil)
  have c6_F_a1_coder := c5_F_a1_coder.keep K6q (List.not_mem_nil)
  have O6 := O5.keep K6q all0
  have K6 := K5.trans K6q all0
  refine og (B := T6.setTop (mkF m 35 #[rv a1, rv a2, .val .null, rv sbv, iv p3] [(.ref bq6), (.ref a1)])) st6 ?_
  obtain ⟨T7, h7, X7, e7, W7, st7⟩ := putF X6 hx hZ hown (host := "") (Or.inl (ow hw 28 rfl)) Via.refl rfl c6_F_a1_value c6_E_a1 (Or.inr ⟨(ow hw 29 rfl), rfl, hnm⟩) (ow hw 1 rfl) (ty := (.array .byte)) (by decide) rfl rfl (g := (mkF m 35 #[rv a1, rv a2, .val .null, rv sbv, iv p3] [(.ref bq6), (.ref a1)])) rfl rfl (hb hby d24_35)
  have c7_E_a2 := c6_E_a2.wr W7
  have c7_F_a2_value := c6_F_a2_value.other W7 (Or.inl (Ne.symm n_12))
  have c7_F_a2_coder := c6_F_a2_coder.other W7 (Or.inl (Ne.symm n_12))
  have c7_F_a2_count := c6_F_a2_count.other W7 (Or.inl (Ne.symm n_12))
  have c7_V_sbv := c6_V_sbv.other W7 (Ne.symm n_1v)
  have c7_E_a1 := c6_E_a1.wr W7
  have c7_F_a1_value := c6_F_a1_value.same W7
  have c7_F_a1_coder := c6_F_a1_coder.other W7 (Or.inr (slot_ne (Or.inr (ow hw 27 rfl)) (Or.inr (ow hw 29 rfl)) (by decide) (t := .byte) (t' := (.array .byte)) (by decide) (by decide)))
  have c7_V_bq6 := V6q.other W7 (Ne.symm ne_a1_bq6)
  have K7 := K6.wr W7 (Or.inl (List.mem_of_getElem? (i := 0) rfl))
  have O7 := O6.wr W7 g_a1
  have N7 := Fr.snoc X7 N6 g_a1
  have zs7 := (Nat.le_trans (Nat.le_trans zs5 K6q.1) (Keep.of_wr W7).1)
  have zk7 := (Nat.le_trans (Nat.le_trans zk5 K6q.1) (Keep.of_wr W7).1)
  refine og (B := T7.setTop (mkF m 38 #[rv a1, rv a2, .val .null, rv sbv, iv p3] [])) st7 ?_
  obtain ⟨fs, hr, hrun, hended, hW, hsame⟩ := X7.leave (v := none) (fun _ => rfl)
  refine ⟨_, _, ?_, hrun, hended, _, _, rfl, ?_, ⟨_, rfl⟩, hW, hsame.mono (by decide) (by decide)⟩
  · refine XS.goto X7.here hx rfl (pc0 := 38) (pc' := 97) rfl (hb hby d24_38) (by decide) (by decide) ?_
    show own_S p e below T7 (mkF m 97 #[rv a1, rv a2, .val .null, rv sbv, iv p3] []) _
    exact X7.returnOut hx Bd.returns (hb hby d24_97) hr
  · show Q24 Z a1 a2 sbv kv p3 dl us GC h0 n0 _ T7.heap _
    rw [e7]
    exact ⟨rfl, N7, bq6, kq6, K7, c7_E_a1, c7_F_a1_coder, c7_F_a1_value, c7_V_bq6⟩
theorem pn_23 : plainName "java/lang/String" = true := by first | (simp [plainName, overriddenIn]; done) | decide +kernel
theorem d23_0 : decode jdk_42_method_53_code 0 = .ok (.aload_n 0, 1) := by decide +kernel
theorem d23_1 : decode jdk_42_method_53_code 1 = .ok (.aload_n 1, 1) := by decide +kernel
theorem d23_2 : decode jdk_42_method_53_code 2 = .ok (.aconst_null, 1) := by decide +kernel
theorem d23_3 : decode jdk_42_method_53_code 3 = .ok (.invokespecial 489, 3) := by decide +kernel
theorem d23_6 : decode jdk_42_method_53_code 6 = .ok (.return_, 1) := by decide +kernel
theorem ef_23 (m : MethodId) (x0 : Addr) (x1 : Addr) : entryFrame m #[(.ref x0), (.ref x1)] 2 = mkF m 0 #[.val (.ref x0), .val (.ref x1)] [] := by first | (simp [entryFrame, mkF, argsToLocals, Value.category]; done) | rfl
def Q23 (Z : State) (a1 : Addr) (a2 : Addr) (sbv : Addr) (kv : ClassId) (p3 : Int32) (dl : List Value) (us : List Value) (GC : Int32) (h0 : Heap) (n0 : Nat) (v : Option Value) (h : Heap) (L : List Loc) : Prop := v = none ∧ Fr n0 L ∧ (∃ (b : Addr) (kb : ClassId), Keep h0 h [a1] ∧ Exa Z h a1 "java/lang/String" ∧ Fld Z h a1 "java/lang/String" "coder" "B" (.int 0) ∧ Fld Z h a1 "java/lang/String" "value" "[B" (.ref b) ∧ Arv Z h b kb .byte p3 us (.int 0))
set_option maxRecDepth 65536 in
set_option maxHeartbeats 40000000 in
theorem rm23 (l : Launch) (Z : State) (a0 : Array Value) (hw : ∀ d ∈ tables_1, d.before a0 Z = true) (ws : List Jvm.Cond) (a1 : Addr) (a2 : Addr) (sbv : Addr) (kv : ClassId) (p3 : Int32) (dl : List Value) (us : List Value) (GC : Int32) (h0 : Heap) (n0 : Nat) (Z0 : n0 ≤ h0.size) (S_C : Sta Z Z.heap "java/lang/String" "COMPACT_STRINGS" "Z" (.int GC)) (hGC : ¬ GC = (0 : Int32)) (O0 : Old Z n0 h0) (E_a1 : Exa Z h0 a1 "java/lang/String") (g_a1 : n0 ≤ a1) (F_v : Fld Z h0 a1 "java/lang/String" "value" "[B" .null) (F_c : Fld Z h0 a1 "java/lang/String" "coder" "B" (.int 0)) (E_a2 : Exa Z h0 a2 "java/lang/StringBuilder") (F_v2 : Fld Z h0 a2 "java/lang/AbstractStringBuilder" "value" "[B" (.ref sbv)) (F_c2 : Fld Z h0 a2 "java/lang/AbstractStringBuilder" "coder" "B" (.int 0)) (F_n2 : Fld Z h0 a2 "java/lang/AbstractStringBuilder" "count" "I" (.int p3)) (V_v : Arv Z h0 sbv kv .byte (16 : Int32) dl (.int 0)) (n_12 : a1 ≠ a2) (n_1v : a1 ≠ sbv) (hM : ∀ h1 : Heap, n0 ≤ h1.size → Arv Z h1 sbv kv .byte (16 : Int32) dl (.int 0) → MetFree l own_y27 (head1 (Jvm.Cond.code own_y27 jdk_65_method_132_code 3 (some (.array .byte)) :: []) ({ frames := 2, cells := 1, slots := 5, locals := 34 } : Room)) (fun a U => a = #[(.ref sbv), (.int 0), (.int p3)] ∧ Z.Warmed39 U.vm ∧ U.heap = h1) (fun _ _ _ _ _ => True) (fun _ U o U' => ∃ v L, o = .returned v ∧ own_QA Z p3 us h1 n0 v U'.heap L ∧ FrameEnd U o U' L ({ frames := 2, cells := 1, slots := 5, locals := 34 } : Room).cells ({ frames := 2, cells := 1, slots := 5, locals := 34 } : Room).slots)) :
    MetFree l own_y29 (head1 (Jvm.Cond.code own_y29 jdk_42_method_53_code 2 none :: ws) ({ frames := 4, cells := 1, slots := 5, locals := 65 } : Room)) (fun a U => a = #[(.ref a1), (.ref a2)] ∧ Z.Warmed39 U.vm ∧ U.heap = h0) (fun _ _ _ _ _ => True) (fun _ U o U' => ∃ v L, o = .returned v ∧ Q23 Z a1 a2 sbv kv p3 dl us GC h0 n0 v U'.heap L ∧ FrameEnd U o U' L ({ frames := 4, cells := 1, slots := 5, locals := 65 } : Room).cells ({ frames := 4, cells := 1, slots := 5, locals := 65 } : Room).slots) := by
  refine MetFree.of_bodySF (plainFor_of_name pn_23) hisR ?_
  intro p e s m args below meth c s₁ Bd hml0 hP hK
  obtain ⟨rfl, hZ, hh⟩ := hP
  have hx := Bd.exec
  have hby := Bd.bytes
  have hml : c.maxLocals = 2 := hml0
  have hown : s.vm.findClass "java/lang/String" = some m.cls := findClass_of_methodNamed Bd.named
  have hnm := (name_of_methodNamed Bd.named Bd.method).1
  have X0 : Stand p l e ({ frames := 4, cells := 1, slots := 5, locals := 65 } : Room) s m #[(.ref a1), (.ref a2)] below meth c s₁ [] 0 0 := Stand.of_body Bd
  have e0 : s₁.heap = h0 := by rw [← hh, Bd.state]; rfl
  have N0 := Fr.nil n0
  refine og (B := s₁.setTop (mkF m 0 #[rv a1, rv a2] [])) (fun t k => castTop (ef_23 m a1 a2) k) ?_
  refine og (B := s₁.setTop (mkF m 3 #[rv a1, rv a2] [.null, (.ref a2), (.ref a1)])) (fun t k => ?_) ?_
  · refine XS.aloadN X0.here hx rfl (hb hby d23_0) rfl rfl ?_
    refine XS.aloadN X0.here hx rfl (hb hby d23_1) rfl rfl ?_
    refine XS.aconstNull X0.here hx rfl (hb hby d23_2) ?_
    exact k
  obtain ⟨_, _, ⟨T1, L1, k1, n1⟩, -, X1, ⟨Lc1, hQ1, l1, y1, z1⟩, st1⟩ := X0.specialBack hx (y := own_y28) rfl hown (mvT hZ (ow hw 131 rfl)) (mvT hZ (ow hw 132 rfl)) (mvT hZ (ow hw 133 rfl)) (by decide) (backOf (W := 0) (rm24 l Z a0 hw [] a1 a2 sbv kv p3 dl us GC h0 n0 Z0 S_C hGC O0 E_a1 g_a1 F_v F_c E_a2 F_v2 F_c2 F_n2 V_v n_12 n_1v hM) hZ (ow hw 133 rfl) (ow hw 2 rfl) (by decide) (by decide)) (g := (mkF m 3 #[rv a1, rv a2] [.null, (.ref a2), (.ref a1)])) rfl (by rw [hml]; rfl) (Steps.refl _) (a := a1) (argsL := [(.ref a2), .null]) (rest := []) (lenOf own_pd18 rfl) rfl (Nat.le_refl _) (hb hby d23_3) (fun _ _ => ⟨rfl, e0, (by decide : 0 + 1 ≤ _), (by decide : 0 + 5 ≤ _)⟩)
  dsimp only [Pt.U, Pt.locs, Pt.cells, Pt.slots] at X1 l1 y1 z1 st1 hQ1
  subst l1 y1 z1
  obtain ⟨rfl, N1q, bq1, kq1, K1q, E1q, F1c, F1v, V1q⟩ := hQ1
  have N1 := Fr.app N0 N1q
  have c1_E_a2 := E_a2.keep K1q
  have c1_F_a2_value := F_v2.keep K1q (fun q => (Ne.symm n_12) (List.mem_singleton.mp q))
  have c1_F_a2_coder := F_c2.keep K1q (fun q => (Ne.symm n_12) (List.mem_singleton.mp q))
  have c1_F_a2_count := F_n2.keep K1q (fun q => (Ne.symm n_12) (List.mem_singleton.mp q))
  have c1_V_sbv := V_v.keep K1q (fun q => (Ne.symm n_1v) (List.mem_singleton.mp q))
  have O1 := O0.keep K1q (allS g_a1 all0)
  have K1 := (Keep.refl h0 [a1]).trans K1q (allS (Or.inl (List.mem_of_getElem? (i := 0) rfl)) all0)
  have zk1 := (Nat.le_trans (Nat.zero_le _) K1q.1)
  refine og (B := T1.setTop (mkF m 6 #[rv a1, rv a2] [])) (fun _ => st1.trans) ?_
  obtain ⟨fs, hr, hrun, hended, hW, hsame⟩ := X1.leave (v := none) (fun _ => rfl)
  refine ⟨_, _, ?_, hrun, hended, _, _, rfl, ?_, ⟨_, rfl⟩, hW, hsame.mono (by decide) (by decide)⟩
  · show own_S p e below T1 (mkF m 6 #[rv a1, rv a2] []) _
    exact X1.returnOut hx Bd.returns (hb hby d23_6) hr
  · show Q23 Z a1 a2 sbv kv p3 dl us GC h0 n0 _ T1.heap _
    exact ⟨rfl, N1, bq1, kq1, K1, E1q, F1c, F1v, V1q⟩
theorem pn_22 : plainName "java/lang/StringBuilder" = true := by first | (simp [plainName, overriddenIn]; done) | decide +kernel
theorem d22_0 : decode jdk_67_method_42_code 0 = .ok (.new 18, 3) := by decide +kernel
theorem d22_3 : decode jdk_67_method_42_code 3 = .ok (.dup, 1) := by decide +kernel
theorem d22_4 : decode jdk_67_method_42_code 4 = .ok (.aload_n 0, 1) := by decide +kernel
theorem d22_5 : decode jdk_67_method_42_code 5 = .ok (.invokespecial 137, 3) := by decide +kernel
theorem d22_8 : decode jdk_67_method_42_code 8 = .ok (.areturn, 1) := by decide +kernel
theorem ef_22 (m : MethodId) (x0 : Addr) : entryFrame m #[(.ref x0)] 1 = mkF m 0 #[.val (.ref x0)] [] := by first | (simp [entryFrame, mkF, argsToLocals, Value.category]; done) | rfl
def Q22 (Z : State) (a2 : Addr) (sbv : Addr) (kv : ClassId) (p3 : Int32) (dl : List Value) (us : List Value) (GC : Int32) (h0 : Heap) (n0 : Nat) (v : Option Value) (h : Heap) (L : List Loc) : Prop := own_QS Z p3 us h0 n0 v h L
set_option maxRecDepth 65536 in
set_option maxHeartbeats 40000000 in
theorem rm22 (l : Launch) (Z : State) (a0 : Array Value) (hw : ∀ d ∈ tables_1, d.before a0 Z = true) (ws : List Jvm.Cond) (a2 : Addr) (sbv : Addr) (kv : ClassId) (p3 : Int32) (dl : List Value) (us : List Value) (GC : Int32) (h0 : Heap) (n0 : Nat) (Z0 : n0 ≤ h0.size) (S_C : Sta Z Z.heap "java/lang/String" "COMPACT_STRINGS" "Z" (.int GC)) (hGC : ¬ GC = (0 : Int32)) (O0 : Old Z n0 h0) (E_a2 : Exa Z h0 a2 "java/lang/StringBuilder") (F_v2 : Fld Z h0 a2 "java/lang/AbstractStringBuilder" "value" "[B" (.ref sbv)) (F_c2 : Fld Z h0 a2 "java/lang/AbstractStringBuilder" "coder" "B" (.int 0)) (F_n2 : Fld Z h0 a2 "java/lang/AbstractStringBuilder" "count" "I" (.int p3)) (V_v : Arv Z h0 sbv kv .byte (16 : Int32) dl (.int 0)) (hM : ∀ h1 : Heap, n0 ≤ h1.size → Arv Z h1 sbv kv .byte (16 : Int32) dl (.int 0) → MetFree l own_y27 (head1 (Jvm.Cond.code own_y27 jdk_65_method_132_code 3 (some (.array .byte)) :: []) ({ frames := 2, cells := 1, slots := 5, locals := 34 } : Room)) (fun a U => a = #[(.ref sbv), (.int 0), (.int p3)] ∧ Z.Warmed39 U.vm ∧ U.heap = h1) (fun _ _ _ _ _ => True) (fun _ U o U' => ∃ v L, o = .returned v ∧ own_QA Z p3 us h1 n0 v U'.heap L ∧ FrameEnd U o U' L ({ frames := 2, cells := 1, slots := 5, locals := 34 } : Room).cells ({ frames := 2, cells := 1, slots := 5, locals := 34 } : Room).slots)) :
    MetFree l own_y30 (head1 (Jvm.Cond.code own_y30 jdk_67_method_42_code 1 (some (.object "java/lang/String")) :: ws) ({ frames := 5, cells := 2, slots := 9, locals := 79 } : Room)) (fun a U => a = #[(.ref a2)] ∧ Z.Warmed39 U.vm ∧ U.heap = h0) (fun _ _ _ _ _ => True) (fun _ U o U' => ∃ v L, o = .returned v ∧ Q22 Z a2 sbv kv p3 dl us GC h0 n0 v U'.heap L ∧ FrameEnd U o U' L ({ frames := 5, cells := 2, slots := 9, locals := 79 } : Room).cells ({ frames := 5, cells := 2, slots := 9, locals := 79 } : Room).slots) := by
  refine MetFree.of_bodySF (plainFor_of_name pn_22) hisR ?_
  intro p e s m args below meth c s₁ Bd hml0 hP hK
  obtain ⟨rfl, hZ, hh⟩ := hP
  have hx := Bd.exec
  have hby := Bd.bytes
  have hml : c.maxLocals = 1 := hml0
  have hown : s.vm.findClass "java/lang/StringBuilder" = some m.cls := findClass_of_methodNamed Bd.named
  have hnm := (name_of_methodNamed Bd.named Bd.method).1
  have X0 : Stand p l e ({ frames := 5, cells := 2, slots := 9, locals := 79 } : Room) s m #[(.ref a2)] below meth c s₁ [] 0 0 := Stand.of_body Bd
  have e0 : s₁.heap = h0 := by rw [← hh, Bd.state]; rfl
  have N0 := Fr.nil n0
  refine og (B := s₁.setTop (mkF m 0 #[rv a2] [])) (fun t k => castTop (ef_22 m a2) k) ?_
  obtain ⟨T1, h1, X1, e1, E1, A1, D1, -, st1⟩ := newO X0 hx hZ hown (ow hw 127 rfl) (ow hw 1 rfl) (ow hw 2 rfl) e0 (g := (mkF m 0 #[rv a2] [])) rfl (hb hby d22_0) (by decide) (by decide)
  obtain ⟨b1, g1⟩ : ∃ z, z = h0.size := ⟨_, rfl⟩
  rw [← g1] at A1 D1 st1
  have g_b1 : n0 ≤ b1 := Nat.le_trans Z0 (Nat.le_of_eq g1.symm)
  have sz_b1 : h0.size ≤ b1 := Nat.le_trans (Keep.refl h0 []).1 (Nat.le_of_eq g1.symm)
  have ne_a2_b1 : a2 ≠ b1 := Nat.ne_of_lt (Nat.lt_of_lt_of_le E_a2.lt (Nat.le_of_eq g1.symm))
  have ne_sbv_b1 : sbv ≠ b1 := Nat.ne_of_lt (Nat.lt_of_lt_of_le V_v.lt (Nat.le_of_eq g1.symm))
  have c1_E_a2 := E_a2.ext E1
  have c1_F_a2_value := F_v2.ext E1
  have c1_F_a2_coder := F_c2.ext E1
  have c1_F_a2_count := F_n2.ext E1
  have c1_V_sbv := V_v.ext E1
  have K1 := (Keep.refl h0 []).ext E1
  have O1 := O0.ext E1
  have F1_coder : Fld Z h1 b1 "java/lang/String" "coder" "B" (.int 0) := D1 (Or.inr (ow hw 27 rfl)) (ty := .byte) (by decide)
  have F1_value : Fld Z h1 b1 "java/lang/String" "value" "[B" .null := D1 (Or.inr (ow hw 29 rfl)) (ty := (.array .byte)) (by decide)
  have zk1 := (Nat.le_trans (Nat.zero_le _) E1.1)
  refine og (B := T1.setTop (mkF m 3 #[rv a2] [(.ref b1)])) st1 ?_
  refine og (B := T1.setTop (mkF m 5 #[rv a2] [(.ref a2), (.ref b1), (.ref b1)])) (fun t k => ?_) ?_
  · refine XS.dup X1.here hx rfl (hb hby d22_3) rfl rfl ?_
    refine XS.aloadN X1.here hx rfl (hb hby d22_4) rfl rfl ?_
    exact k
  obtain ⟨_, _, ⟨T2, L2, k2, n2⟩, -, X2, ⟨Lc2, hQ2, l2, y2, z2⟩, st2⟩ := X1.specialBack hx (y := own_y29) rfl hown (mvT hZ (ow hw 128 rfl)) (mvT hZ (ow hw 129 rfl)) (mvT hZ (ow hw 130 rfl)) (by decide) (backOf (W := 1) (rm23 l Z a0 hw [] b1 a2 sbv kv p3 dl us GC h1 n0 (Nat.le_trans Z0 E1.1) S_C hGC O1 A1 g_b1 F1_value F1_coder c1_E_a2 c1_F_a2_value c1_F_a2_coder c1_F_a2_count c1_V_sbv (Ne.symm ne_a2_b1) (Ne.symm ne_sbv_b1) hM) hZ (ow hw 130 rfl) (ow hw 2 rfl) (by decide) (by decide)) (g := (mkF m 5 #[rv a2] [(.ref a2), (.ref b1), (.ref b1)])) rfl (by rw [hml]; rfl) (Steps.refl _) (a := b1) (argsL := [(.ref a2)]) (rest := [(.ref b1)]) (lenOf own_pd19 rfl) rfl (Nat.le_refl _) (hb hby d22_5) (fun _ _ => ⟨rfl, e1, (by decide : 1 + 1 ≤ _), (by decide : 4 + 5 ≤ _)⟩)
  dsimp only [Pt.U, Pt.locs, Pt.cells, Pt.slots] at X2 l2 y2 z2 st2 hQ2
  subst l2 y2 z2
  obtain ⟨rfl, N2q, bq2, kq2, K2q, E2q, F2c, F2v, V2q⟩ := hQ2
  have N2 := Fr.app N0 N2q
  have c2_E_a2 := c1_E_a2.keep K2q
  have c2_F_a2_value := c1_F_a2_value.keep K2q (fun q => ne_a2_b1 (List.mem_singleton.mp q))
  have c2_F_a2_coder := c1_F_a2_coder.keep K2q (fun q => ne_a2_b1 (List.mem_singleton.mp q))
  have c2_F_a2_count := c1_F_a2_count.keep K2q (fun q => ne_a2_b1 (List.mem_singleton.mp q))
  have c2_V_sbv := c1_V_sbv.keep K2q (fun q => ne_sbv_b1 (List.mem_singleton.mp q))
  have O2 := O1.keep K2q (allS g_b1 all0)
  have K2 := K1.trans K2q (allS (Or.inr sz_b1) all0)
  have zs2 := (Nat.le_trans (Nat.le_trans Z0 E1.1) K2q.1)
  refine og (B := T2.setTop (mkF m 8 #[rv a2] [(.ref b1)])) (fun _ => st2.trans) ?_
  obtain ⟨fs, hr, hrun, hended, hW, hsame⟩ := X2.leave (v := some (.ref b1)) (fun h => by rw [Bd.returns] at h; cases h)
  refine ⟨_, _, ?_, hrun, hended, _, _, rfl, ?_, ⟨_, rfl⟩, hW, hsame.mono (by decide) (by decide)⟩
  · show own_S p e below T2 (mkF m 8 #[rv a2] [(.ref b1)]) _
    jvm_step X2.here [X2.here.top, hx, (hb hby d22_8), X2.method', Bd.returns, Value.isRef, FieldType.isReference]
    first | (intro acts; rw [hr _ acts rfl rfl rfl]) | rw [hr _ _ rfl rfl rfl]
    exact Steps.refl _
  · show Q22 Z a2 sbv kv p3 dl us GC h0 n0 _ T2.heap _
    exact ⟨b1, bq2, kq2, rfl, N2, K2, E2q, F2c, F2v, V2q⟩
def own_low (u1 : Int32) : Int32 := (if u1 < (65 : Int32) then u1 else (if (122 : Int32) < (u1 ||| (32 : Int32)) then (if (u1 ||| (32 : Int32)) < (224 : Int32) then u1 else (if (254 : Int32) < (u1 ||| (32 : Int32)) then u1 else (if (u1 ||| (32 : Int32)) = (247 : Int32) then u1 else (u1 ||| (32 : Int32))))) else (u1 ||| (32 : Int32))))
theorem pn_37 : plainName "java/lang/CharacterDataLatin1" = true := by first | (simp [plainName, overriddenIn]; done) | decide +kernel
theorem d37_0 : decode jdk_116_method_20_code 0 = .ok (.iload_n 1, 1) := by decide +kernel
theorem d37_1 : decode jdk_116_method_20_code 1 = .ok (.bipush 65, 2) := by decide +kernel
theorem d37_3 : decode jdk_116_method_20_code 3 = .ok (.if_icmp .ge 5, 3) := by decide +kernel
theorem d37_6 : decode jdk_116_method_20_code 6 = .ok (.iload_n 1, 1) := by decide +kernel
theorem d37_7 : decode jdk_116_method_20_code 7 = .ok (.ireturn, 1) := by decide +kernel
theorem d37_8 : decode jdk_116_method_20_code 8 = .ok (.iload_n 1, 1) := by decide +kernel
theorem d37_9 : decode jdk_116_method_20_code 9 = .ok (.bipush 32, 2) := by decide +kernel
theorem d37_11 : decode jdk_116_method_20_code 11 = .ok (.ior, 1) := by decide +kernel
theorem d37_12 : decode jdk_116_method_20_code 12 = .ok (.istore_n 2, 1) := by decide +kernel
theorem d37_13 : decode jdk_116_method_20_code 13 = .ok (.iload_n 2, 1) := by decide +kernel
theorem d37_14 : decode jdk_116_method_20_code 14 = .ok (.bipush 122, 2) := by decide +kernel
theorem d37_16 : decode jdk_116_method_20_code 16 = .ok (.if_icmp .le 24, 3) := by decide +kernel
theorem d37_19 : decode jdk_116_method_20_code 19 = .ok (.iload_n 2, 1) := by decide +kernel
theorem d37_20 : decode jdk_116_method_20_code 20 = .ok (.sipush 224, 3) := by decide +kernel
theorem d37_23 : decode jdk_116_method_20_code 23 = .ok (.if_icmp .lt 19, 3) := by decide +kernel
theorem d37_26 : decode jdk_116_method_20_code 26 = .ok (.iload_n 2, 1) := by decide +kernel
theorem d37_27 : decode jdk_116_method_20_code 27 = .ok (.sipush 254, 3) := by decide +kernel
theorem d37_30 : decode jdk_116_method_20_code 30 = .ok (.if_icmp .gt 12, 3) := by decide +kernel
theorem d37_33 : decode jdk_116_method_20_code 33 = .ok (.iload_n 2, 1) := by decide +kernel
theorem d37_34 : decode jdk_116_method_20_code 34 = .ok (.sipush 247, 3) := by decide +kernel
theorem d37_37 : decode jdk_116_method_20_code 37 = .ok (.if_icmp .eq 5, 3) := by decide +kernel
theorem d37_40 : decode jdk_116_method_20_code 40 = .ok (.iload_n 2, 1) := by decide +kernel
theorem d37_41 : decode jdk_116_method_20_code 41 = .ok (.ireturn, 1) := by decide +kernel
theorem d37_42 : decode jdk_116_method_20_code 42 = .ok (.iload_n 1, 1) := by decide +kernel
theorem d37_43 : decode jdk_116_method_20_code 43 = .ok (.ireturn, 1) := by decide +kernel
theorem ef_37 (m : MethodId) (x0 : Addr) (x1 : Int32) : entryFrame m #[(.ref x0), (.int x1)] 3 = mkF m 0 #[.val (.ref x0), .val (.int x1), .unset] [] := by first | (simp [entryFrame, mkF, argsToLocals, Value.category]; done) | rfl
def Q37 (Z : State) (a1 : Addr) (u1 : Int32) (h0 : Heap) (n0 : Nat) (v : Option Value) (h : Heap) (L : List Loc) : Prop := v = some (.int (own_low u1)) ∧ Fr n0 L ∧ h = h0
set_option maxRecDepth 65536 in
set_option maxHeartbeats 40000000 in
theorem rm37 (l : Launch) (Z : State) (a0 : Array Value) (hw : ∀ d ∈ tables_1, d.before a0 Z = true) (ws : List Jvm.Cond) (a1 : Addr) (u1 : Int32) (h0 : Heap) (n0 : Nat) (Z0 : n0 ≤ h0.size) :
    MetFree l own_y31 (head1 (Jvm.Cond.code own_y31 jdk_116_method_20_code 3 (some .int) :: ws) ({ frames := 0, cells := 0, slots := 0, locals := 0 } : Room)) (fun a U => a = #[(.ref a1), (.int u1)] ∧ Z.Warmed39 U.vm ∧ U.heap = h0) (fun _ _ _ _ _ => True) (fun _ U o U' => ∃ v L, o = .returned v ∧ Q37 Z a1 u1 h0 n0 v U'.heap L ∧ FrameEnd U o U' L ({ frames := 0, cells := 0, slots := 0, locals := 0 } : Room).cells ({ frames := 0, cells := 0, slots := 0, locals := 0 } : Room).slots) := by
  refine MetFree.of_bodySF (plainFor_of_name pn_37) hisR ?_
  intro p e s m args below meth c s₁ Bd hml0 hP hK
  obtain ⟨rfl, hZ, hh⟩ := hP
  have hx := Bd.exec
  have hby := Bd.bytes
  have hml : c.maxLocals = 3 := hml0
  have hown : s.vm.findClass "java/lang/CharacterDataLatin1" = some m.cls := findClass_of_methodNamed Bd.named
  have hnm := (name_of_methodNamed Bd.named Bd.method).1
  have X0 : Stand p l e ({ frames := 0, cells := 0, slots := 0, locals := 0 } : Room) s m #[(.ref a1), (.int u1)] below meth c s₁ [] 0 0 := Stand.of_body Bd
  have e0 : s₁.heap = h0 := by rw [← hh, Bd.state]; rfl
  have N0 := Fr.nil n0
  refine og (B := s₁.setTop (mkF m 0 #[rv a1, iv u1, .unset] [])) (fun t k => castTop (ef_37 m a1 u1) k) ?_
  refine og (B := s₁.setTop (mkF m 3 #[rv a1, iv u1, .unset] [(.int 65), (.int u1)])) (fun t k => ?_) ?_
  · refine XS.iloadN X0.here hx rfl (hb hby d37_0) rfl ?_
    refine XS.bipush X0.here hx rfl (hb hby d37_1) ?_
    exact k
  by_cases hc3_1 : u1 < (65 : Int32)
  · obtain ⟨fs, hr, hrun, hended, hW, hsame⟩ := X0.leave (v := some (.int u1)) (fun h => by rw [Bd.returns] at h; cases h)
    refine ⟨_, _, ?_, hrun, hended, _, _, rfl, ?_, ⟨_, rfl⟩, hW, hsame.mono (by decide) (by decide)⟩
    · refine XS.icmpNo X0.here hx rfl (hb hby d37_3) rfl (tlt hc3_1).2.1 ?_
      refine XS.iloadN X0.here hx rfl (hb hby d37_6) rfl ?_
      show own_S p e below s₁ (mkF m 7 #[rv a1, iv u1, .unset] [(.int u1)]) _
      exact retI X0 hx Bd.returns (hb hby d37_7) hr
    · show Q37 Z a1 u1 h0 n0 _ s₁.heap _
      rw [e0]
      exact ⟨by rw [own_low, if_pos hc3_1], N0, rfl⟩
  · refine og (B := s₁.setTop (mkF m 16 #[rv a1, iv u1, iv (u1 ||| (32 : Int32))] [(.int 122), (.int (u1 ||| (32 : Int32)))])) (fun t k => ?_) ?_
    · refine XS.icmpYes X0.here hx rfl (pc0 := 3) (pc' := 8) rfl (hb hby d37_3) rfl (flt hc3_1).2.1 (by decide) (by decide) ?_
      refine XS.iloadN X0.here hx rfl (hb hby d37_8) rfl ?_
      refine XS.bipush X0.here hx rfl (hb hby d37_9) ?_
      refine XS.ior X0.here hx rfl (hb hby d37_11) rfl ?_
      refine XS.istoreN X0.here hx rfl (hb hby d37_12) rfl (l' := #[rv a1, iv u1, iv (u1 ||| (32 : Int32))]) rfl ?_
      refine XS.iloadN X0.here hx rfl (hb hby d37_13) rfl ?_
      show own_S p e below s₁ (mkF m 14 #[rv a1, iv u1, iv (u1 ||| (32 : Int32))] [(.int (u1 ||| (32 : Int32)))]) _
      refine XS.bipush X0.here hx rfl (hb hby d37_14) ?_
      exact k
    by_cases hc16_2 : (122 : Int32) < (u1 ||| (32 : Int32))
    · refine og (B := s₁.setTop (mkF m 23 #[rv a1, iv u1, iv (u1 ||| (32 : Int32))] [(.int 224), (.int (u1 ||| (32 : Int32)))])) (fun t k => ?_) ?_
      · refine XS.icmpNo X0.here hx rfl (hb hby d37_16) rfl (tlt hc16_2).2.2.2 ?_
        refine XS.iloadN X0.here hx rfl (hb hby d37_19) rfl ?_
        refine XS.sipush X0.here hx rfl (hb hby d37_20) ?_
        exact k
      by_cases hc23_3 : (u1 ||| (32 : Int32)) < (224 : Int32)
      · obtain ⟨fs, hr, hrun, hended, hW, hsame⟩ := X0.leave (v := some (.int u1)) (fun h => by rw [Bd.returns] at h; cases h)
        refine ⟨_, _, ?_, hrun, hended, _, _, rfl, ?_, ⟨_, rfl⟩, hW, hsame.mono (by decide) (by decide)⟩
        · refine XS.icmpYes X0.here hx rfl (pc0 := 23) (pc' := 42) rfl (hb hby d37_23) rfl (tlt hc23_3).1 (by decide) (by decide) ?_
          refine XS.iloadN X0.here hx rfl (hb hby d37_42) rfl ?_
          show own_S p e below s₁ (mkF m 43 #[rv a1, iv u1, iv (u1 ||| (32 : Int32))] [(.int u1)]) _
          exact retI X0 hx Bd.returns (hb hby d37_43) hr
        · show Q37 Z a1 u1 h0 n0 _ s₁.heap _
          rw [e0]
          exact ⟨by rw [own_low, if_neg hc3_1, if_pos hc16_2, if_pos hc23_3], N0, rfl⟩
      · refine og (B := s₁.setTop (mkF m 30 #[rv a1, iv u1, iv (u1 ||| (32 : Int32))] [(.int 254), (.int (u1 ||| (32 : Int32)))])) (fun t k => ?_) ?_
        · refine XS.icmpNo X0.here hx rfl (hb hby d37_23) rfl (flt hc23_3).1 ?_
          refine XS.iloadN X0.here hx rfl (hb hby d37_26) rfl ?_
          refine XS.sipush X0.here hx rfl (hb hby d37_27) ?_
          exact k
        by_cases hc30_4 : (254 : Int32) < (u1 ||| (32 : Int32))
        · obtain ⟨fs, hr, hrun, hended, hW, hsame⟩ := X0.leave (v := some (.int u1)) (fun h => by rw [Bd.returns] at h; cases h)
          refine ⟨_, _, ?_, hrun, hended, _, _, rfl, ?_, ⟨_, rfl⟩, hW, hsame.mono (by decide) (by decide)⟩
          · refine XS.icmpYes X0.here hx rfl (pc0 := 30) (pc' := 42) rfl (hb hby d37_30) rfl (tlt hc30_4).2.2.1 (by decide) (by decide) ?_
            refine XS.iloadN X0.here hx rfl (hb hby d37_42) rfl ?_
            show own_S p e below s₁ (mkF m 43 #[rv a1, iv u1, iv (u1 ||| (32 : Int32))] [(.int u1)]) _
            exact retI X0 hx Bd.returns (hb hby d37_43) hr
          · show Q37 Z a1 u1 h0 n0 _ s₁.heap _
            rw [e0]
            exact ⟨by rw [own_low, if_neg hc3_1, if_pos hc16_2, if_neg hc23_3, if_pos hc30_4], N0, rfl⟩
        · refine og (B := s₁.setTop (mkF m 37 #[rv a1, iv u1, iv (u1 ||| (32 : Int32))] [(.int 247), (.int (u1 ||| (32 : Int32)))])) (fun t k => ?_) ?_
          · refine XS.icmpNo X0.here hx rfl (hb hby d37_30) rfl (flt hc30_4).2.2.1 ?_
            refine XS.iloadN X0.here hx rfl (hb hby d37_33) rfl ?_
            refine XS.sipush X0.here hx rfl (hb hby d37_34) ?_
            exact k
          by_cases hc37_5 : (u1 ||| (32 : Int32)) = (247 : Int32)
          · obtain ⟨fs, hr, hrun, hended, hW, hsame⟩ := X0.leave (v := some (.int u1)) (fun h => by rw [Bd.returns] at h; cases h)
            refine ⟨_, _, ?_, hrun, hended, _, _, rfl, ?_, ⟨_, rfl⟩, hW, hsame.mono (by decide) (by decide)⟩
            · refine XS.icmpYes X0.here hx rfl (pc0 := 37) (pc' := 42) rfl (hb hby d37_37) rfl (teq hc37_5).1 (by decide) (by decide) ?_
              refine XS.iloadN X0.here hx rfl (hb hby d37_42) rfl ?_
              show own_S p e below s₁ (mkF m 43 #[rv a1, iv u1, iv (u1 ||| (32 : Int32))] [(.int u1)]) _
              exact retI X0 hx Bd.returns (hb hby d37_43) hr
            · show Q37 Z a1 u1 h0 n0 _ s₁.heap _
              rw [e0]
              exact ⟨by rw [own_low, if_neg hc3_1, if_pos hc16_2, if_neg hc23_3, if_neg hc30_4, if_pos hc37_5], N0, rfl⟩
          · obtain ⟨fs, hr, hrun, hended, hW, hsame⟩ := X0.leave (v := some (.int (u1 ||| (32 : Int32)))) (fun h => by rw [Bd.returns] at h; cases h)
            refine ⟨_, _, ?_, hrun, hended, _, _, rfl, ?_, ⟨_, rfl⟩, hW, hsame.mono (by decide) (by decide)⟩
            · refine XS.icmpNo X0.here hx rfl (hb hby d37_37) rfl (feq hc37_5).1 ?_
              refine XS.iloadN X0.here hx rfl (hb hby d37_40) rfl ?_
              show own_S p e below s₁ (mkF m 41 #[rv a1, iv u1, iv (u1 ||| (32 : Int32))] [(.int (u1 ||| (32 : Int32)))]) _
              exact retI X0 hx Bd.returns (hb hby d37_41) hr
            · show Q37 Z a1 u1 h0 n0 _ s₁.heap _
              rw [e0]
              exact ⟨by rw [own_low, if_neg hc3_1, if_pos hc16_2, if_neg hc23_3, if_neg hc30_4, if_neg hc37_5], N0, rfl⟩
    · obtain ⟨fs, hr, hrun, hended, hW, hsame⟩ := X0.leave (v := some (.int (u1 ||| (32 : Int32)))) (fun h => by rw [Bd.returns] at h; cases h)
      refine ⟨_, _, ?_, hrun, hended, _, _, rfl, ?_, ⟨_, rfl⟩, hW, hsame.mono (by decide) (by decide)⟩
      · refine XS.icmpYes X0.here hx rfl (pc0 := 16) (pc' := 40) rfl (hb hby d37_16) rfl (flt hc16_2).2.2.2 (by decide) (by decide) ?_
        refine XS.iloadN X0.here hx rfl (hb hby d37_40) rfl ?_
        show own_S p e below s₁ (mkF m 41 #[rv a1, iv u1, iv (u1 ||| (32 : Int32))] [(.int (u1 ||| (32 : Int32)))]) _
        exact retI X0 hx Bd.returns (hb hby d37_41) hr
      · show Q37 Z a1 u1 h0 n0 _ s₁.heap _
        rw [e0]
        exact ⟨by rw [own_low, if_neg hc3_1, if_neg hc16_2], N0, rfl⟩
theorem pn_41 : plainName "java/lang/StringLatin1" = true := by first | (simp [plainName, overriddenIn]; done) | decide +kernel
theorem d41_0 : decode jdk_43_method_4_code 0 = .ok (.iload_n 0, 1) := by decide +kernel
theorem d41_1 : decode jdk_43_method_4_code 1 = .ok (.ifCond .lt 14, 3) := by decide +kernel
theorem d41_4 : decode jdk_43_method_4_code 4 = .ok (.iload_n 0, 1) := by decide +kernel
theorem d41_5 : decode jdk_43_method_4_code 5 = .ok (.sipush 255, 3) := by decide +kernel
theorem d41_8 : decode jdk_43_method_4_code 8 = .ok (.if_icmp .gt 7, 3) := by decide +kernel
theorem d41_11 : decode jdk_43_method_4_code 11 = .ok (.iconst 1, 1) := by decide +kernel
theorem d41_12 : decode jdk_43_method_4_code 12 = .ok (.goto 4, 3) := by decide +kernel
theorem d41_16 : decode jdk_43_method_4_code 16 = .ok (.ireturn, 1) := by decide +kernel
theorem ef_41 (m : MethodId) (x0 : Int32) : entryFrame m #[(.int x0)] 1 = mkF m 0 #[.val (.int x0)] [] := by first | (simp [entryFrame, mkF, argsToLocals, Value.category]; done) | rfl
def Q41 (Z : State) (u1 : Int32) (h0 : Heap) (n0 : Nat) (v : Option Value) (h : Heap) (L : List Loc) : Prop := v = some (.int (1 : Int32)) ∧ Fr n0 L ∧ h = h0
set_option maxRecDepth 65536 in
set_option maxHeartbeats 40000000 in
theorem rm41 (l : Launch) (Z : State) (a0 : Array Value) (hw : ∀ d ∈ tables_1, d.before a0 Z = true) (ws : List Jvm.Cond) (u1 : Int32) (h0 : Heap) (n0 : Nat) (Z0 : n0 ≤ h0.size) (h1 : ¬ u1 < (0 : Int32)) (h2 : ¬ (255 : Int32) < u1) :
    MetFree l own_y32 (head1 (Jvm.Cond.code own_y32 jdk_43_method_4_code 1 (some .boolean) :: ws) ({ frames := 0, cells := 0, slots := 0, locals := 0 } : Room)) (fun a U => a = #[(.int u1)] ∧ Z.Warmed39 U.vm ∧ U.heap = h0) (fun _ _ _ _ _ => True) (fun _ U o U' => ∃ v L, o = .returned v ∧ Q41 Z u1 h0 n0 v U'.heap L ∧ FrameEnd U o U' L ({ frames := 0, cells := 0, slots := 0, locals := 0 } : Room).cells ({ frames := 0, cells := 0, slots := 0, locals := 0 } : Room).slots) := by
  refine MetFree.of_bodySF (plainFor_of_name pn_41) hisR ?_
  intro p e s m args below meth c s₁ Bd hml0 hP hK
  obtain ⟨rfl, hZ, hh⟩ := hP
  have hx := Bd.exec
  have hby := Bd.bytes
  have hml : c.maxLocals = 1 := hml0
  have hown : s.vm.findClass "java/lang/StringLatin1" = some m.cls := findClass_of_methodNamed Bd.named
  have hnm := (name_of_methodNamed Bd.named Bd.method).1
  have X0 : Stand p l e ({ frames := 0, cells := 0, slots := 0, locals := 0 } : Room) s m #[(.int u1)] below meth c s₁ [] 0 0 := Stand.of_body Bd
  have e0 : s₁.heap = h0 := by rw [← hh, Bd.state]; rfl
  have N0 := Fr.nil n0
  refine og (B := s₁.setTop (mkF m 0 #[iv u1] [])) (fun t k => castTop (ef_41 m u1) k) ?_
  obtain ⟨fs, hr, hrun, hended, hW, hsame⟩ := X0.leave (v := some (.int 1)) (fun h => by rw [Bd.returns] at h; cases h)
  refine ⟨_, _, ?_, hrun, hended, _, _, rfl, ?_, ⟨_, rfl⟩, hW, hsame.mono (by decide) (by decide)⟩
  · refine XS.iloadN X0.here hx rfl (hb hby d41_0) rfl ?_
    refine XS.ifNo X0.here hx rfl (hb hby d41_1) rfl ((if0 _ _).trans (flt h1).1) ?_
    refine XS.iloadN X0.here hx rfl (hb hby d41_4) rfl ?_
    refine XS.sipush X0.here hx rfl (hb hby d41_5) ?_
    refine XS.icmpNo X0.here hx rfl (hb hby d41_8) rfl (flt h2).2.2.1 ?_
    refine XS.iconst X0.here hx rfl (hb hby d41_11) ?_
    show own_S p e below s₁ (mkF m 12 #[iv u1] [(.int 1)]) _
    refine XS.goto X0.here hx rfl (pc0 := 12) (pc' := 16) rfl (hb hby d41_12) (by decide) (by decide) ?_
    show own_S p e below s₁ (mkF m 16 #[iv u1] [(.int 1)]) _
    exact retN X0 hx (t := .boolean) Bd.returns (by simp) (hb hby d41_16) hr
  · show Q41 Z u1 h0 n0 _ s₁.heap _
    rw [e0]
    exact ⟨rfl, N0, rfl⟩
theorem own_m8 (x : Int32) : ∃ i : Fin 256, (x &&& (255 : Int32)) = Int32.ofNat i.1 := by
  have h := c_mask x 255 8 (by decide) (by decide)
  generalize (x &&& (255 : Int32)) = y at *
  refine ⟨⟨y.toInt.toNat, by omega⟩, ?_⟩
  apply Int32.toInt_inj.mp
  show y.toInt = (Int32.ofNat y.toInt.toNat).toInt
  rw [Int32.toInt_ofNat_of_lt (by omega)]
  omega
theorem own_lt : ∀ i : Fin 256, (¬ own_low (Int32.ofNat i.1) < (0 : Int32) ∧ ¬ (255 : Int32) < own_low (Int32.ofNat i.1)) ∧ ((nar .byte ((own_low (Int32.ofNat i.1)).toInt8.toInt32)) &&& (255 : Int32)) = own_low (Int32.ofNat i.1) := by decide +kernel
theorem own_lr (x : Int32) : ¬ own_low (x &&& (255 : Int32)) < (0 : Int32) ∧ ¬ (255 : Int32) < own_low (x &&& (255 : Int32)) := by
  obtain ⟨i, e⟩ := own_m8 x
  rw [e]
  exact (own_lt i).1
def own_l (x : Int32) : Int32 := nar .byte ((own_low (x &&& (255 : Int32))).toInt8.toInt32)
theorem own_lE (x : Int32) : (own_l x &&& (255 : Int32)) = own_low (x &&& (255 : Int32)) := by
  unfold own_l
  obtain ⟨i, e⟩ := own_m8 x
  rw [e]
  exact (own_lt i).2
def own_E0 (Z : State) (h : Heap) (a : Addr) : Prop := ∃ c, Arr Z h a c .byte ∧ c.slots.size.toInt32 = 0
theorem own_E0.ext {Z : State} {h h' : Heap} {a : Addr} (F : own_E0 Z h a) (E : Ext h h') : own_E0 Z h' a := by
  obtain ⟨c, A, e⟩ := F
  exact ⟨c, A.ext E, e⟩
theorem own_lne {Z : State} {h : Heap} {x y b1 b2 : Addr} {k2 : ClassId} {l2 : List Value} {d2 : Value} (F1 : Fld Z h x "java/lang/String" "value" "[B" (.ref b1)) (A1 : own_E0 Z h b1) (F2 : Fld Z h y "java/lang/String" "value" "[B" (.ref b2)) (A2 : Arv Z h b2 k2 .byte (2 : Int32) l2 d2) : x ≠ y := by
  by_cases e : b1 = b2
  · subst e
    obtain ⟨c1, Ar1, e1⟩ := A1
    obtain ⟨c2, Ar2, -, S2, -, -, -⟩ := A2
    cases Ar1.1.symm.trans Ar2.1
    rw [S2] at e1
    exact absurd e1 (by decide)
  · exact Fld.ne F1 F2 (fun q => e (Value.ref.inj q))
theorem pn_40 : plainName "sun/util/locale/BaseLocale" = true := by first | (simp [plainName, overriddenIn]; done) | decide +kernel
theorem d40_0 : decode jdk_3003_method_5_code 0 = .ok (.aload_n 0, 1) := by decide +kernel
theorem d40_1 : decode jdk_3003_method_5_code 1 = .ok (.getfield 19, 3) := by decide +kernel
theorem d40_4 : decode jdk_3003_method_5_code 4 = .ok (.areturn, 1) := by decide +kernel
theorem ef_40 (m : MethodId) (x0 : Addr) : entryFrame m #[(.ref x0)] 1 = mkF m 0 #[.val (.ref x0)] [] := by first | (simp [entryFrame, mkF, argsToLocals, Value.category]; done) | rfl
def Q40 (Z : State) (a1 : Addr) (ag : Addr) (h0 : Heap) (n0 : Nat) (v : Option Value) (h : Heap) (L : List Loc) : Prop := v = some (.ref ag) ∧ Fr n0 L ∧ h = h0
set_option maxRecDepth 65536 in
set_option maxHeartbeats 40000000 in
theorem rm40 (l : Launch) (Z : State) (a0 : Array Value) (hw : ∀ d ∈ tables_1, d.before a0 Z = true) (ws : List Jvm.Cond) (a1 : Addr) (ag : Addr) (h0 : Heap) (n0 : Nat) (Z0 : n0 ≤ h0.size) (F_1 : Fld Z h0 a1 "sun/util/locale/BaseLocale" "language" "Ljava/lang/String;" (.ref ag)) :
    MetFree l own_y33 (head1 (Jvm.Cond.code own_y33 jdk_3003_method_5_code 1 (some (.object "java/lang/String")) :: ws) ({ frames := 0, cells := 0, slots := 0, locals := 0 } : Room)) (fun a U => a = #[(.ref a1)] ∧ Z.Warmed39 U.vm ∧ U.heap = h0) (fun _ _ _ _ _ => True) (fun _ U o U' => ∃ v L, o = .returned v ∧ Q40 Z a1 ag h0 n0 v U'.heap L ∧ FrameEnd U o U' L ({ frames := 0, cells := 0, slots := 0, locals := 0 } : Room).cells ({ frames := 0, cells := 0, slots := 0, locals := 0 } : Room).slots) := by
  refine MetFree.of_bodySF (plainFor_of_name pn_40) hisR ?_
  intro p e s m args below meth c s₁ Bd hml0 hP hK
  obtain ⟨rfl, hZ, hh⟩ := hP
  have hx := Bd.exec
  have hby := Bd.bytes
  have hml : c.maxLocals = 1 := hml0
  have hown : s.vm.findClass "sun/util/locale/BaseLocale" = some m.cls := findClass_of_methodNamed Bd.named
  have hnm := (name_of_methodNamed Bd.named Bd.method).1
  have X0 : Stand p l e ({ frames := 0, cells := 0, slots := 0, locals := 0 } : Room) s m #[(.ref a1)] below meth c s₁ [] 0 0 := Stand.of_body Bd
  have e0 : s₁.heap = h0 := by rw [← hh, Bd.state]; rfl
  have N0 := Fr.nil n0
  refine og (B := s₁.setTop (mkF m 0 #[rv a1] [])) (fun t k => castTop (ef_40 m a1) k) ?_
  refine og (B := s₁.setTop (mkF m 1 #[rv a1] [(.ref a1)])) (fun t k => ?_) ?_
  · refine XS.aloadN X0.here hx rfl (hb hby d40_0) rfl rfl ?_
    exact k
  obtain ⟨T1, X1, e1, st1⟩ := getF X0 hx hZ hown (host := "") (Or.inl (ow hw 207 rfl)) Via.refl e0 F_1 (g := (mkF m 1 #[rv a1] [(.ref a1)])) rfl rfl (hb hby d40_1)
  refine og (B := T1.setTop (mkF m 4 #[rv a1] [(.ref ag)])) st1 ?_
  obtain ⟨fs, hr, hrun, hended, hW, hsame⟩ := X1.leave (v := some (.ref ag)) (fun h => by rw [Bd.returns] at h; cases h)
  refine ⟨_, _, ?_, hrun, hended, _, _, rfl, ?_, ⟨_, rfl⟩, hW, hsame.mono (by decide) (by decide)⟩
  · show own_S p e below T1 (mkF m 4 #[rv a1] [(.ref ag)]) _
    jvm_step X1.here [X1.here.top, hx, (hb hby d40_4), X1.method', Bd.returns, Value.isRef, FieldType.isReference]
    first | (intro acts; rw [hr _ acts rfl rfl rfl]) | rw [hr _ _ rfl rfl rfl]
    exact Steps.refl _
  · show Q40 Z a1 ag h0 n0 _ T1.heap _
    rw [e1]
    exact ⟨rfl, N0, rfl⟩
theorem pn_39 : plainName "java/util/Locale" = true := by first | (simp [plainName, overriddenIn]; done) | decide +kernel
theorem d39_0 : decode jdk_2628_method_27_code 0 = .ok (.aload_n 0, 1) := by decide +kernel
theorem d39_1 : decode jdk_2628_method_27_code 1 = .ok (.getfield 28, 3) := by decide +kernel
theorem d39_4 : decode jdk_2628_method_27_code 4 = .ok (.invokevirtual 293, 3) := by decide +kernel
theorem d39_7 : decode jdk_2628_method_27_code 7 = .ok (.areturn, 1) := by decide +kernel
theorem ef_39 (m : MethodId) (x0 : Addr) : entryFrame m #[(.ref x0)] 1 = mkF m 0 #[.val (.ref x0)] [] := by first | (simp [entryFrame, mkF, argsToLocals, Value.category]; done) | rfl
def Q39 (Z : State) (a1 : Addr) (ab : Addr) (ag : Addr) (h0 : Heap) (n0 : Nat) (v : Option Value) (h : Heap) (L : List Loc) : Prop := v = some (.ref ag) ∧ Fr n0 L ∧ h = h0
set_option maxRecDepth 65536 in
set_option maxHeartbeats 40000000 in
theorem rm39 (l : Launch) (Z : State) (a0 : Array Value) (hw : ∀ d ∈ tables_1, d.before a0 Z = true) (ws : List Jvm.Cond) (a1 : Addr) (ab : Addr) (ag : Addr) (h0 : Heap) (n0 : Nat) (Z0 : n0 ≤ h0.size) (F_1 : Fld Z h0 a1 "java/util/Locale" "baseLocale" "Lsun/util/locale/BaseLocale;" (.ref ab)) (E_b : Exa Z h0 ab "sun/util/locale/BaseLocale") (F_2 : Fld Z h0 ab "sun/util/locale/BaseLocale" "language" "Ljava/lang/String;" (.ref ag)) :
    MetFree l own_y34 (head1 (Jvm.Cond.code own_y34 jdk_2628_method_27_code 1 (some (.object "java/lang/String")) :: ws) ({ frames := 1, cells := 0, slots := 0, locals := 12 } : Room)) (fun a U => a = #[(.ref a1)] ∧ Z.Warmed39 U.vm ∧ U.heap = h0) (fun _ _ _ _ _ => True) (fun _ U o U' => ∃ v L, o = .returned v ∧ Q39 Z a1 ab ag h0 n0 v U'.heap L ∧ FrameEnd U o U' L ({ frames := 1, cells := 0, slots := 0, locals := 12 } : Room).cells ({ frames := 1, cells := 0, slots := 0, locals := 12 } : Room).slots) := by
  refine MetFree.of_bodySF (plainFor_of_name pn_39) hisR ?_
  intro p e s m args below meth c s₁ Bd hml0 hP hK
  obtain ⟨rfl, hZ, hh⟩ := hP
  have hx := Bd.exec
  have hby := Bd.bytes
  have hml : c.maxLocals = 1 := hml0
  have hown : s.vm.findClass "java/util/Locale" = some m.cls := findClass_of_methodNamed Bd.named
  have hnm := (name_of_methodNamed Bd.named Bd.method).1
  have X0 : Stand p l e ({ frames := 1, cells := 0, slots := 0, locals := 12 } : Room) s m #[(.ref a1)] below meth c s₁ [] 0 0 := Stand.of_body Bd
  have e0 : s₁.heap = h0 := by rw [← hh, Bd.state]; rfl
  have N0 := Fr.nil n0
  refine og (B := s₁.setTop (mkF m 0 #[rv a1] [])) (fun t k => castTop (ef_39 m a1) k) ?_
  refine og (B := s₁.setTop (mkF m 1 #[rv a1] [(.ref a1)])) (fun t k => ?_) ?_
  · refine XS.aloadN X0.here hx rfl (hb hby d39_0) rfl rfl ?_
    exact k
  obtain ⟨T1, X1, e1, st1⟩ := getF X0 hx hZ hown (host := "") (Or.inl (ow hw 199 rfl)) Via.refl e0 F_1 (g := (mkF m 1 #[rv a1] [(.ref a1)])) rfl rfl (hb hby d39_1)
  refine og (B := T1.setTop (mkF m 4 #[rv a1] [(.ref ab)])) st1 ?_
  obtain ⟨cq2, kq2, q2a, q2b, q2c⟩ := isOf hZ e1 E_b
  obtain ⟨_, _, ⟨T2, L2, k2, n2⟩, -, X2, ⟨Lc2, hQ2, l2, y2, z2⟩, st2⟩ := X1.virtualBack hx (y := own_y33) (z := own_y33) hown (mvT hZ (ow hw 201 rfl)) (mvT hZ (ow hw 202 rfl)) (notFace_of_selects (args := #[]) (mvT hZ (ow hw 204 rfl))) (mvT hZ (ow hw 204 rfl)) (mvT hZ (ow hw 203 rfl)) (by decide) (backOf (W := 0) (rm40 l Z a0 hw [] ab ag h0 n0 Z0 F_2) hZ (ow hw 206 rfl) (ow hw 205 rfl) (by decide) (by decide)) q2a q2c (g := (mkF m 4 #[rv a1] [(.ref ab)])) rfl (by rw [hml]; rfl) (Steps.refl _) (argsL := []) (rest := []) (lenOf own_pd20 rfl) rfl (Nat.le_refl _) (hb hby d39_4) (fun _ _ => ⟨rfl, e1, (by decide : 0 + 0 ≤ _), (by decide : 0 + 0 ≤ _)⟩)
  dsimp only [Pt.U, Pt.locs, Pt.cells, Pt.slots] at X2 l2 y2 z2 st2 hQ2
  subst l2 y2 z2
  obtain ⟨rfl, N2q, eq2⟩ := hQ2
  have N2 := Fr.app N0 N2q
  refine og (B := T2.setTop (mkF m 7 #[rv a1] [(.ref ag)])) (fun _ => st2.trans) ?_
  obtain ⟨fs, hr, hrun, hended, hW, hsame⟩ := X2.leave (v := some (.ref ag)) (fun h => by rw [Bd.returns] at h; cases h)
  refine ⟨_, _, ?_, hrun, hended, _, _, rfl, ?_, ⟨_, rfl⟩, hW, hsame.mono (by decide) (by decide)⟩
  · show own_S p e below T2 (mkF m 7 #[rv a1] [(.ref ag)]) _
    jvm_step X2.here [X2.here.top, hx, (hb hby d39_7), X2.method', Bd.returns, Value.isRef, FieldType.isReference]
    first | (intro acts; rw [hr _ acts rfl rfl rfl]) | rw [hr _ _ rfl rfl rfl]
    exact Steps.refl _
  · show Q39 Z a1 ab ag h0 n0 _ T2.heap _
    rw [eq2]
    exact ⟨rfl, N2, rfl⟩
theorem pn_42 : plainName "java/lang/String" = true := by first | (simp [plainName, overriddenIn]; done) | decide +kernel
theorem d42_0 : decode jdk_42_method_151_code 0 = .ok (.aload_n 0, 1) := by decide +kernel
theorem d42_1 : decode jdk_42_method_151_code 1 = .ok (.invokespecial 1, 3) := by decide +kernel
theorem d42_4 : decode jdk_42_method_151_code 4 = .ok (.aload_n 0, 1) := by decide +kernel
theorem d42_5 : decode jdk_42_method_151_code 5 = .ok (.aload_n 1, 1) := by decide +kernel
theorem d42_6 : decode jdk_42_method_151_code 6 = .ok (.putfield 9, 3) := by decide +kernel
theorem d42_9 : decode jdk_42_method_151_code 9 = .ok (.aload_n 0, 1) := by decide +kernel
theorem d42_10 : decode jdk_42_method_151_code 10 = .ok (.iload_n 2, 1) := by decide +kernel
theorem d42_11 : decode jdk_42_method_151_code 11 = .ok (.putfield 15, 3) := by decide +kernel
theorem d42_14 : decode jdk_42_method_151_code 14 = .ok (.return_, 1) := by decide +kernel
theorem ef_42 (m : MethodId) (x0 : Addr) (x1 : Addr) (x2 : Int32) : entryFrame m #[(.ref x0), (.ref x1), (.int x2)] 3 = mkF m 0 #[.val (.ref x0), .val (.ref x1), .val (.int x2)] [] := by first | (simp [entryFrame, mkF, argsToLocals, Value.category]; done) | rfl
def Q42 (Z : State) (a1 : Addr) (a2 : Addr) (h0 : Heap) (n0 : Nat) (v : Option Value) (h : Heap) (L : List Loc) : Prop := v = none ∧ Fr n0 L ∧ Keep h0 h [a1] ∧ Exa Z h a1 "java/lang/String" ∧ Fld Z h a1 "java/lang/String" "coder" "B" (.int 0) ∧ Fld Z h a1 "java/lang/String" "value" "[B" (.ref a2)
set_option maxRecDepth 65536 in
set_option maxHeartbeats 40000000 in
theorem rm42 (l : Launch) (Z : State) (a0 : Array Value) (hw : ∀ d ∈ tables_1, d.before a0 Z = true) (ws : List Jvm.Cond) (a1 : Addr) (a2 : Addr) (h0 : Heap) (n0 : Nat) (Z0 : n0 ≤ h0.size) (E_a1 : Exa Z h0 a1 "java/lang/String") (g_a1 : n0 ≤ a1) (F_v : Fld Z h0 a1 "java/lang/String" "value" "[B" .null) (F_c : Fld Z h0 a1 "java/lang/String" "coder" "B" (.int 0)) :
    MetFree l own_y35 (head1 (Jvm.Cond.code own_y35 jdk_42_method_151_code 3 none :: ws) ({ frames := 1, cells := 0, slots := 0, locals := 12 } : Room)) (fun a U => a = #[(.ref a1), (.ref a2), (.int 0)] ∧ Z.Warmed39 U.vm ∧ U.heap = h0) (fun _ _ _ _ _ => True) (fun _ U o U' => ∃ v L, o = .returned v ∧ Q42 Z a1 a2 h0 n0 v U'.heap L ∧ FrameEnd U o U' L ({ frames := 1, cells := 0, slots := 0, locals := 12 } : Room).cells ({ frames := 1, cells := 0, slots := 0, locals := 12 } : Room).slots) := by
  refine MetFree.of_bodySF (plainFor_of_name pn_42) hisR ?_
  intro p e s m args below meth c s₁ Bd hml0 hP hK
  obtain ⟨rfl, hZ, hh⟩ := hP
  have hx := Bd.exec
  have hby := Bd.bytes
  have hml : c.maxLocals = 3 := hml0
  have hown : s.vm.findClass "java/lang/String" = some m.cls := findClass_of_methodNamed Bd.named
  have hnm := (name_of_methodNamed Bd.named Bd.method).1
  have X0 : Stand p l e ({ frames := 1, cells := 0, slots := 0, locals := 12 } : Room) s m #[(.ref a1), (.ref a2), (.int 0)] below meth c s₁ [] 0 0 := Stand.of_body Bd
  have e0 : s₁.heap = h0 := by rw [← hh, Bd.state]; rfl
  have N0 := Fr.nil n0
  refine og (B := s₁.setTop (mkF m 0 #[rv a1, rv a2, iv 0] [])) (fun t k => castTop (ef_42 m a1 a2 (0 : Int32)) k) ?_
  refine og (B := s₁.setTop (mkF m 1 #[rv a1, rv a2, iv 0] [(.ref a1)])) (fun t k => ?_) ?_
  · refine XS.aloadN X0.here hx rfl (hb hby d42_0) rfl rfl ?_
    exact k
  obtain ⟨T1, X1, e1, st1⟩ := initO X0 hx hZ hown (ow hw 11 rfl) (ow hw 12 rfl) (ow hw 13 rfl) e0 (g := (mkF m 1 #[rv a1, rv a2, iv 0] [(.ref a1)])) rfl (by rw [hml]; rfl) rfl (hb hby d42_1) (by decide) (W := 0) (Nat.le_refl _) (by decide)
  refine og (B := T1.setTop (mkF m 4 #[rv a1, rv a2, iv 0] [])) st1 ?_
  refine og (B := T1.setTop (mkF m 6 #[rv a1, rv a2, iv 0] [(.ref a2), (.ref a1)])) (fun t k => ?_) ?_
  · refine XS.aloadN X1.here hx rfl (hb hby d42_4) rfl rfl ?_
    refine XS.aloadN X1.here hx rfl (hb hby d42_5) rfl rfl ?_
    exact k
  obtain ⟨T2, h2, X2, e2, W2, st2⟩ := putF X1 hx hZ hown (host := "") (Or.inl (ow hw 28 rfl)) Via.refl e1 F_v E_a1 (Or.inr ⟨(ow hw 29 rfl), rfl, hnm⟩) (ow hw 1 rfl) (ty := (.array .byte)) (by decide) rfl rfl (g := (mkF m 6 #[rv a1, rv a2, iv 0] [(.ref a2), (.ref a1)])) rfl rfl (hb hby d42_6)
  have c2_E_a1 := E_a1.wr W2
  have c2_F_a1_value := F_v.same W2
  have c2_F_a1_coder := F_c.other W2 (Or.inr (slot_ne (Or.inr (ow hw 27 rfl)) (Or.inr (ow hw 29 rfl)) (by decide) (t := .byte) (t' := (.array .byte)) (by decide) (by decide)))
  have K2 := (Keep.refl h0 [a1]).wr W2 (Or.inl (List.mem_of_getElem? (i := 0) rfl))
  have N2 := Fr.snoc X2 N0 g_a1
  have zs2 := (Nat.le_trans Z0 (Keep.of_wr W2).1)
  have zk2 := (Nat.le_trans (Nat.zero_le _) (Keep.of_wr W2).1)
  refine og (B := T2.setTop (mkF m 9 #[rv a1, rv a2, iv 0] [])) st2 ?_
  refine og (B := T2.setTop (mkF m 11 #[rv a1, rv a2, iv 0] [(.int 0), (.ref a1)])) (fun t k => ?_) ?_
  · refine XS.aloadN X2.here hx rfl (hb hby d42_9) rfl rfl ?_
    refine XS.iloadN X2.here hx rfl (hb hby d42_10) rfl ?_
    exact k
  obtain ⟨T3, h3, X3, e3, W3, st3⟩ := putFN X2 hx hZ hown (ow hw 26 rfl) Via.refl e2 c2_F_a1_coder c2_E_a1 (Or.inr ⟨(ow hw 27 rfl), rfl, hnm⟩) (ow hw 1 rfl) (ty := .byte) (v' := (.int 0)) (by decide) rfl (by decide) (g := (mkF m 11 #[rv a1, rv a2, iv 0] [(.int 0), (.ref a1)])) rfl rfl (hb hby d42_11)
  have c3_E_a1 := c2_E_a1.wr W3
  have c3_F_a1_value := c2_F_a1_value.other W3 (Or.inr (slot_ne (Or.inr (ow hw 29 rfl)) (Or.inr (ow hw 27 rfl)) (by decide) (t := (.array .byte)) (t' := .byte) (by decide) (by decide)))
  have c3_F_a1_coder := c2_F_a1_coder.same W3
  have K3 := K2.wr W3 (Or.inl (List.mem_of_getElem? (i := 0) rfl))
  have N3 := Fr.snoc X3 N2 g_a1
  have zs3 := (Nat.le_trans zs2 (Keep.of_wr W3).1)
  have zk3 := (Nat.le_trans zk2 (Keep.of_wr W3).1)
  refine og (B := T3.setTop (mkF m 14 #[rv a1, rv a2, iv 0] [])) st3 ?_
  obtain ⟨fs, hr, hrun, hended, hW, hsame⟩ := X3.leave (v := none) (fun _ => rfl)
  refine ⟨_, _, ?_, hrun, hended, _, _, rfl, ?_, ⟨_, rfl⟩, hW, hsame.mono (by decide) (by decide)⟩
  · show own_S p e below T3 (mkF m 14 #[rv a1, rv a2, iv 0] []) _
    exact X3.returnOut hx Bd.returns (hb hby d42_14) hr
  · show Q42 Z a1 a2 h0 n0 _ T3.heap _
    rw [e3]
    exact ⟨rfl, N3, K3, c3_E_a1, c3_F_a1_coder, c3_F_a1_value⟩
def own_QL0 (Z : State) (a1 sb1 : Addr) (h0 : Heap) (n0 : Nat) (v : Option Value) (h : Heap) (L : List Loc) : Prop := ∃ (a b : Addr) (kq : ClassId), v = some (.ref a) ∧ Fr n0 L ∧ Keep h0 h [] ∧ Exa Z h a "java/lang/String" ∧ Fld Z h a "java/lang/String" "coder" "B" (.int 0) ∧ Fld Z h a "java/lang/String" "value" "[B" (.ref b) ∧ Arv Z h b kq .byte (0 : Int32) [] (.int 0)  ∧ (a = a1 ∨ h0.size ≤ a) ∧ (b = sb1 ∨ h0.size ≤ b) ∧ (True)
theorem pn_21 : plainName "java/lang/StringLatin1" = true := by first | (simp [plainName, overriddenIn]; done) | decide +kernel
theorem d21_0 : decode jdk_43_method_32_code 0 = .ok (.aload_n 2, 1) := by decide +kernel
theorem d21_1 : decode jdk_43_method_32_code 1 = .ok (.ifnonnull 11, 3) := by decide +kernel
theorem d21_12 : decode jdk_43_method_32_code 12 = .ok (.aload_n 1, 1) := by decide +kernel
theorem d21_13 : decode jdk_43_method_32_code 13 = .ok (.arraylength, 1) := by decide +kernel
theorem d21_14 : decode jdk_43_method_32_code 14 = .ok (.istore 4, 2) := by decide +kernel
theorem d21_16 : decode jdk_43_method_32_code 16 = .ok (.iconst 0, 1) := by decide +kernel
theorem d21_17 : decode jdk_43_method_32_code 17 = .ok (.istore_n 3, 1) := by decide +kernel
theorem d21_18 : decode jdk_43_method_32_code 18 = .ok (.iload_n 3, 1) := by decide +kernel
theorem d21_19 : decode jdk_43_method_32_code 19 = .ok (.iload 4, 2) := by decide +kernel
theorem d21_21 : decode jdk_43_method_32_code 21 = .ok (.if_icmp .ge 34, 3) := by decide +kernel
theorem d21_55 : decode jdk_43_method_32_code 55 = .ok (.iload_n 3, 1) := by decide +kernel
theorem d21_56 : decode jdk_43_method_32_code 56 = .ok (.iload 4, 2) := by decide +kernel
theorem d21_58 : decode jdk_43_method_32_code 58 = .ok (.if_icmp .ne 5, 3) := by decide +kernel
theorem d21_61 : decode jdk_43_method_32_code 61 = .ok (.aload_n 0, 1) := by decide +kernel
theorem d21_62 : decode jdk_43_method_32_code 62 = .ok (.areturn, 1) := by decide +kernel
theorem ef_21 (m : MethodId) (x0 : Addr) (x1 : Addr) (x2 : Addr) : entryFrame m #[(.ref x0), (.ref x1), (.ref x2)] 9 = mkF m 0 #[.val (.ref x0), .val (.ref x1), .val (.ref x2), .unset, .unset, .unset, .unset, .unset, .unset] [] := by first | (simp [entryFrame, mkF, argsToLocals, Value.category]; done) | rfl
def Q21_0 (Z : State) (a1 : Addr) (sb1 : Addr) (kb : ClassId) (GC : Int32) (ci : Addr) (al : Addr) (ab : Addr) (ag : Addr) (agv : Addr) (h0 : Heap) (n0 : Nat) (v : Option Value) (h : Heap) (L : List Loc) : Prop := own_QL0 Z a1 sb1 h0 n0 v h L
set_option maxRecDepth 65536 in
set_option maxHeartbeats 40000000 in
theorem rm21_0 (l : Launch) (Z : State) (a0 : Array Value) (hw : ∀ d ∈ tables_1, d.before a0 Z = true) (ws : List Jvm.Cond) (a1 : Addr) (sb1 : Addr) (kb : ClassId) (GC : Int32) (ci : Addr) (al : Addr) (ab : Addr) (ag : Addr) (agv : Addr) (h0 : Heap) (n0 : Nat) (Z0 : n0 ≤ h0.size) (S_C : Sta Z Z.heap "java/lang/String" "COMPACT_STRINGS" "Z" (.int GC)) (hGC : ¬ GC = (0 : Int32)) (O0 : Old Z n0 h0) (S_I : Sta Z Z.heap "java/lang/CharacterDataLatin1" "instance" "Ljava/lang/CharacterDataLatin1;" (.ref ci)) (E_ci : Exa Z Z.heap ci "java/lang/CharacterDataLatin1") (S_R : Sta Z Z.heap "java/util/Locale" "ROOT" "Ljava/util/Locale;" (.ref al)) (E_al : Exa Z Z.heap al "java/util/Locale") (F_ab : Fld Z Z.heap al "java/util/Locale" "baseLocale" "Lsun/util/locale/BaseLocale;" (.ref ab)) (E_ab : Exa Z Z.heap ab "sun/util/locale/BaseLocale") (F_ag : Fld Z Z.heap ab "sun/util/locale/BaseLocale" "language" "Ljava/lang/String;" (.ref ag)) (F_gv : Fld Z Z.heap ag "java/lang/String" "value" "[B" (.ref agv)) (V_gv : own_E0 Z Z.heap agv) (E_a1 : Exa Z h0 a1 "java/lang/String") (F_c : Fld Z h0 a1 "java/lang/String" "coder" "B" (.int 0)) (F_v : Fld Z h0 a1 "java/lang/String" "value" "[B" (.ref sb1)) (V_b : Arv Z h0 sb1 kb .byte (0 : Int32) [] (.int 0)) :
    MetFree l own_y36 (head1 (Jvm.Cond.code own_y36 jdk_43_method_32_code 9 (some (.object "java/lang/String")) :: ws) ({ frames := 2, cells := 8, slots := 48, locals := 27 } : Room)) (fun a U => a = #[(.ref a1), (.ref sb1), (.ref al)] ∧ Z.Warmed39 U.vm ∧ U.heap = h0 ∧ CHv Z consts_1 U.vm h0) (fun _ _ _ _ _ => True) (fun _ U o U' => ∃ v L, o = .returned v ∧ Q21_0 Z a1 sb1 kb GC ci al ab ag agv h0 n0 v U'.heap L ∧ CHr Z consts_1 U.vm U.heap U'.vm U'.heap ∧ ReturnedEndW U o U' L ({ frames := 2, cells := 8, slots := 48, locals := 27 } : Room).cells ({ frames := 2, cells := 8, slots := 48, locals := 27 } : Room).slots) := by
  refine MetFree.of_bodySF (plainFor_of_name pn_21) hisR ?_
  intro p e s m args below meth c s₁ Bd hml0 hP hK
  obtain ⟨rfl, hZ, hh, hCH⟩ := hP
  have hx := Bd.exec
  have hby := Bd.bytes
  have hml : c.maxLocals = 9 := hml0
  have hown : s.vm.findClass "java/lang/StringLatin1" = some m.cls := findClass_of_methodNamed Bd.named
  have hnm := (name_of_methodNamed Bd.named Bd.method).1
  have X0 : Stand p l e ({ frames := 2, cells := 8, slots := 48, locals := 27 } : Room) s m #[(.ref a1), (.ref sb1), (.ref al)] below meth c s₁ [] 0 0 := Stand.of_body Bd
  have e0 : s₁.heap = h0 := by rw [← hh, Bd.state]; rfl
  have N0 := Fr.nil n0
  have X0 : Stand p l e ({ frames := 2, cells := 8, slots := 48, locals := 27 } : Room) (s.setVm s.vm) m #[(.ref a1), (.ref sb1), (.ref al)] below meth c s₁ [] 0 0 := X0
  have hZ : Z.Warmed39 (s.setVm s.vm).vm := hZ
  have hown : (s.setVm s.vm).vm.findClass "java/lang/StringLatin1" = some m.cls := hown
  have hS : s.Since s.vm 0 := (State.WarmedH.refl s).since 0
  refine og (B := s₁.setTop (mkF m 0 #[rv a1, rv sb1, rv al, .unset, .unset, .unset, .unset, .unset, .unset] [])) (fun t k => castTop (ef_21 m a1 sb1 al) k) ?_
  obtain ⟨cl1, Ar1, qk1, S1, M1, H1, G1⟩ := id V_b
  obtain ⟨fs, hr, hrun, hended, hRW⟩ := X0.leaveW hS (by rw [e0]; exact (Nat.zero_le _)) (v := some (.ref a1)) (fun h => by rw [Bd.returns] at h; cases h)
  refine ⟨_, _, ?_, hrun, hended, _, _, rfl, ?_, (by have q := (CHr.refl hCH).trans (CHv.at X0 hZ (own_hEL hw) (CHr.refl hCH).1); show CHr Z consts_1 s.vm s.heap s₁.vm s₁.heap; rw [e0, hh]; exact q), hRW.1, hRW.2.1, hRW.2.2.1, hRW.2.2.2.mono (by decide) (by decide)⟩
  · refine XS.aloadN X0.here hx rfl (hb hby d21_0) rfl rfl ?_
    refine XS.ifnonnullYes X0.here hx rfl (pc0 := 1) (pc' := 12) rfl (hb hby d21_1) rfl (by decide) (by decide) ?_
    refine XS.aloadN X0.here hx rfl (hb hby d21_12) rfl rfl ?_
    refine X0.arraylength hx (by rw [e0]; exact Ar1.1) (State.isArrayOf_alike hZ.alike Ar1.2.1) (g := (mkF m 13 #[rv a1, rv sb1, rv al, .unset, .unset, .unset, .unset, .unset, .unset] [(.ref sb1)])) rfl rfl (hb hby d21_13) _ ?_
    rw [len_of S1 M1]
    refine XS.istore X0.here hx rfl (hb hby d21_14) rfl (l' := #[rv a1, rv sb1, rv al, .unset, iv 0, .unset, .unset, .unset, .unset]) rfl ?_
    refine XS.iconst X0.here hx rfl (hb hby d21_16) ?_
    show own_S p e below s₁ (mkF m 17 #[rv a1, rv sb1, rv al, .unset, iv 0, .unset, .unset, .unset, .unset] [(.int 0)]) _
    refine XS.istoreN X0.here hx rfl (hb hby d21_17) rfl (l' := #[rv a1, rv sb1, rv al, iv 0, iv 0, .unset, .unset, .unset, .unset]) rfl ?_
    refine XS.iloadN X0.here hx rfl (hb hby d21_18) rfl ?_
    refine XS.iload X0.here hx rfl (hb hby d21_19) rfl ?_
    refine XS.icmpYes X0.here hx rfl (pc0 := 21) (pc' := 55) rfl (hb hby d21_21) rfl (flt (by decide)).2.1 (by decide) (by decide) ?_
    refine XS.iloadN X0.here hx rfl (hb hby d21_55) rfl ?_
    refine XS.iload X0.here hx rfl (hb hby d21_56) rfl ?_
    show own_S p e below s₁ (mkF m 58 #[rv a1, rv sb1, rv al, iv 0, iv 0, .unset, .unset, .unset, .unset] [(.int 0), (.int 0)]) _
    refine XS.icmpNo X0.here hx rfl (hb hby d21_58) rfl (teq (by decide)).2 ?_
    refine XS.aloadN X0.here hx rfl (hb hby d21_61) rfl rfl ?_
    show own_S p e below s₁ (mkF m 62 #[rv a1, rv sb1, rv al, iv 0, iv 0, .unset, .unset, .unset, .unset] [(.ref a1)]) _
    jvm_step X0.here [X0.here.top, hx, (hb hby d21_62), X0.method', Bd.returns, Value.isRef, FieldType.isReference]
    first | (intro acts; rw [hr _ acts rfl rfl rfl]) | rw [hr _ _ rfl rfl rfl]
    exact Steps.refl _
  · show Q21_0 Z a1 sb1 kb GC ci al ab ag agv h0 n0 _ s₁.heap _
    rw [e0]
    exact ⟨a1, sb1, kb, rfl, N0, (Keep.refl h0 []), E_a1, F_c, F_v, V_b, Or.inl rfl, Or.inl rfl, trivial⟩
def own_QL1 (Z : State) (a1 sb1 : Addr) (x0 : Int32) (h0 : Heap) (n0 : Nat) (v : Option Value) (h : Heap) (L : List Loc) : Prop := ∃ (a b : Addr) (kq : ClassId) (u0 : Int32), v = some (.ref a) ∧ Fr n0 L ∧ Keep h0 h [] ∧ Exa Z h a "java/lang/String" ∧ Fld Z h a "java/lang/String" "coder" "B" (.int 0) ∧ Fld Z h a "java/lang/String" "value" "[B" (.ref b) ∧ Arv Z h b kq .byte (1 : Int32) [(.int u0)] (.int 0)  ∧ (a = a1 ∨ h0.size ≤ a) ∧ (b = sb1 ∨ h0.size ≤ b) ∧ ((u0 &&& (255 : Int32)) = own_low (x0 &&& (255 : Int32)) ∧ True)
theorem d21_24 : decode jdk_43_method_32_code 24 = .ok (.aload_n 1, 1) := by decide +kernel
theorem d21_25 : decode jdk_43_method_32_code 25 = .ok (.iload_n 3, 1) := by decide +kernel
theorem d21_26 : decode jdk_43_method_32_code 26 = .ok (.baload, 1) := by decide +kernel
theorem d21_27 : decode jdk_43_method_32_code 27 = .ok (.sipush 255, 3) := by decide +kernel
theorem d21_30 : decode jdk_43_method_32_code 30 = .ok (.iand, 1) := by decide +kernel
theorem d21_31 : decode jdk_43_method_32_code 31 = .ok (.istore 5, 2) := by decide +kernel
theorem d21_33 : decode jdk_43_method_32_code 33 = .ok (.iload 5, 2) := by decide +kernel
theorem d21_35 : decode jdk_43_method_32_code 35 = .ok (.getstatic 66, 3) := by decide +kernel
theorem d21_38 : decode jdk_43_method_32_code 38 = .ok (.iload 5, 2) := by decide +kernel
theorem d21_40 : decode jdk_43_method_32_code 40 = .ok (.invokevirtual 160, 3) := by decide +kernel
theorem d21_43 : decode jdk_43_method_32_code 43 = .ok (.if_icmp .eq 6, 3) := by decide +kernel
theorem d21_46 : decode jdk_43_method_32_code 46 = .ok (.goto 9, 3) := by decide +kernel
theorem d21_49 : decode jdk_43_method_32_code 49 = .ok (.iinc 3 1, 3) := by decide +kernel
theorem d21_52 : decode jdk_43_method_32_code 52 = .ok (.goto (-34), 3) := by decide +kernel
theorem d21_63 : decode jdk_43_method_32_code 63 = .ok (.aload_n 2, 1) := by decide +kernel
theorem d21_64 : decode jdk_43_method_32_code 64 = .ok (.invokevirtual 162, 3) := by decide +kernel
theorem d21_67 : decode jdk_43_method_32_code 67 = .ok (.astore 5, 2) := by decide +kernel
theorem d21_69 : decode jdk_43_method_32_code 69 = .ok (.aload 5, 2) := by decide +kernel
theorem d21_71 : decode jdk_43_method_32_code 71 = .ok (.ldc 168, 2) := by decide +kernel
theorem d21_73 : decode jdk_43_method_32_code 73 = .ok (.if_acmp .eq 17, 3) := by decide +kernel
theorem d21_76 : decode jdk_43_method_32_code 76 = .ok (.aload 5, 2) := by decide +kernel
theorem d21_78 : decode jdk_43_method_32_code 78 = .ok (.ldc 170, 2) := by decide +kernel
theorem d21_80 : decode jdk_43_method_32_code 80 = .ok (.if_acmp .eq 10, 3) := by decide +kernel
theorem d21_83 : decode jdk_43_method_32_code 83 = .ok (.aload 5, 2) := by decide +kernel
theorem d21_85 : decode jdk_43_method_32_code 85 = .ok (.ldc 172, 2) := by decide +kernel
theorem d21_87 : decode jdk_43_method_32_code 87 = .ok (.if_acmp .ne 12, 3) := by decide +kernel
theorem d21_99 : decode jdk_43_method_32_code 99 = .ok (.iload 4, 2) := by decide +kernel
theorem d21_101 : decode jdk_43_method_32_code 101 = .ok (.newarray .byte, 2) := by decide +kernel
theorem d21_103 : decode jdk_43_method_32_code 103 = .ok (.astore 6, 2) := by decide +kernel
theorem d21_105 : decode jdk_43_method_32_code 105 = .ok (.aload_n 1, 1) := by decide +kernel
theorem d21_106 : decode jdk_43_method_32_code 106 = .ok (.iconst 0, 1) := by decide +kernel
theorem d21_107 : decode jdk_43_method_32_code 107 = .ok (.aload 6, 2) := by decide +kernel
theorem d21_109 : decode jdk_43_method_32_code 109 = .ok (.iconst 0, 1) := by decide +kernel
theorem d21_110 : decode jdk_43_method_32_code 110 = .ok (.iload_n 3, 1) := by decide +kernel
theorem d21_111 : decode jdk_43_method_32_code 111 = .ok (.invokestatic 28, 3) := by decide +kernel
theorem d21_114 : decode jdk_43_method_32_code 114 = .ok (.iload_n 3, 1) := by decide +kernel
theorem d21_115 : decode jdk_43_method_32_code 115 = .ok (.istore 7, 2) := by decide +kernel
theorem d21_117 : decode jdk_43_method_32_code 117 = .ok (.iload 7, 2) := by decide +kernel
theorem d21_119 : decode jdk_43_method_32_code 119 = .ok (.iload 4, 2) := by decide +kernel
theorem d21_121 : decode jdk_43_method_32_code 121 = .ok (.if_icmp .ge 54, 3) := by decide +kernel
theorem d21_124 : decode jdk_43_method_32_code 124 = .ok (.aload_n 1, 1) := by decide +kernel
theorem d21_125 : decode jdk_43_method_32_code 125 = .ok (.iload 7, 2) := by decide +kernel
theorem d21_127 : decode jdk_43_method_32_code 127 = .ok (.baload, 1) := by decide +kernel
theorem d21_128 : decode jdk_43_method_32_code 128 = .ok (.sipush 255, 3) := by decide +kernel
theorem d21_131 : decode jdk_43_method_32_code 131 = .ok (.iand, 1) := by decide +kernel
theorem d21_132 : decode jdk_43_method_32_code 132 = .ok (.istore 8, 2) := by decide +kernel
theorem d21_134 : decode jdk_43_method_32_code 134 = .ok (.getstatic 66, 3) := by decide +kernel
theorem d21_137 : decode jdk_43_method_32_code 137 = .ok (.iload 8, 2) := by decide +kernel
theorem d21_139 : decode jdk_43_method_32_code 139 = .ok (.invokevirtual 160, 3) := by decide +kernel
theorem d21_142 : decode jdk_43_method_32_code 142 = .ok (.istore 8, 2) := by decide +kernel
theorem d21_144 : decode jdk_43_method_32_code 144 = .ok (.iload 8, 2) := by decide +kernel
theorem d21_146 : decode jdk_43_method_32_code 146 = .ok (.invokestatic 88, 3) := by decide +kernel
theorem d21_149 : decode jdk_43_method_32_code 149 = .ok (.ifCond .ne 12, 3) := by decide +kernel
theorem d21_161 : decode jdk_43_method_32_code 161 = .ok (.aload 6, 2) := by decide +kernel
theorem d21_163 : decode jdk_43_method_32_code 163 = .ok (.iload 7, 2) := by decide +kernel
theorem d21_165 : decode jdk_43_method_32_code 165 = .ok (.iload 8, 2) := by decide +kernel
theorem d21_167 : decode jdk_43_method_32_code 167 = .ok (.i2b, 1) := by decide +kernel
theorem d21_168 : decode jdk_43_method_32_code 168 = .ok (.bastore, 1) := by decide +kernel
theorem d21_169 : decode jdk_43_method_32_code 169 = .ok (.iinc 7 1, 3) := by decide +kernel
theorem d21_172 : decode jdk_43_method_32_code 172 = .ok (.goto (-55), 3) := by decide +kernel
theorem d21_175 : decode jdk_43_method_32_code 175 = .ok (.new 1, 3) := by decide +kernel
theorem d21_178 : decode jdk_43_method_32_code 178 = .ok (.dup, 1) := by decide +kernel
theorem d21_179 : decode jdk_43_method_32_code 179 = .ok (.aload 6, 2) := by decide +kernel
theorem d21_181 : decode jdk_43_method_32_code 181 = .ok (.iconst 0, 1) := by decide +kernel
theorem d21_182 : decode jdk_43_method_32_code 182 = .ok (.invokespecial 112, 3) := by decide +kernel
theorem d21_185 : decode jdk_43_method_32_code 185 = .ok (.areturn, 1) := by decide +kernel
def Q21_1 (Z : State) (a1 : Addr) (sb1 : Addr) (kb : ClassId) (x0 : Int32) (GC : Int32) (ci : Addr) (al : Addr) (ab : Addr) (ag : Addr) (agv : Addr) (h0 : Heap) (n0 : Nat) (v : Option Value) (h : Heap) (L : List Loc) : Prop := own_QL1 Z a1 sb1 x0 h0 n0 v h L
set_option maxRecDepth 65536 in
set_option maxHeartbeats 40000000 in
theorem rm21_1 (l : Launch) (Z : State) (a0 : Array Value) (hw : ∀ d ∈ tables_1, d.before a0 Z = true) (ws : List Jvm.Cond) (a1 : Addr) (sb1 : Addr) (kb : ClassId) (x0 : Int32) (GC : Int32) (ci : Addr) (al : Addr) (ab : Addr) (ag : Addr) (agv : Addr) (h0 : Heap) (n0 : Nat) (Z0 : n0 ≤ h0.size) (S_C : Sta Z Z.heap "java/lang/String" "COMPACT_STRINGS" "Z" (.int GC)) (hGC : ¬ GC = (0 : Int32)) (O0 : Old Z n0 h0) (S_I : Sta Z Z.heap "java/lang/CharacterDataLatin1" "instance" "Ljava/lang/CharacterDataLatin1;" (.ref ci)) (E_ci : Exa Z Z.heap ci "java/lang/CharacterDataLatin1") (S_R : Sta Z Z.heap "java/util/Locale" "ROOT" "Ljava/util/Locale;" (.ref al)) (E_al : Exa Z Z.heap al "java/util/Locale") (F_ab : Fld Z Z.heap al "java/util/Locale" "baseLocale" "Lsun/util/locale/BaseLocale;" (.ref ab)) (E_ab : Exa Z Z.heap ab "sun/util/locale/BaseLocale") (F_ag : Fld Z Z.heap ab "sun/util/locale/BaseLocale" "language" "Ljava/lang/String;" (.ref ag)) (F_gv : Fld Z Z.heap ag "java/lang/String" "value" "[B" (.ref agv)) (V_gv : own_E0 Z Z.heap agv) (E_a1 : Exa Z h0 a1 "java/lang/String") (F_c : Fld Z h0 a1 "java/lang/String" "coder" "B" (.int 0)) (F_v : Fld Z h0 a1 "java/lang/String" "value" "[B" (.ref sb1)) (V_b : Arv Z h0 sb1 kb .byte (1 : Int32) [(.int x0)] (.int 0)) :
    MetFree l own_y36 (head1 (Jvm.Cond.code own_y36 jdk_43_method_32_code 9 (some (.object "java/lang/String")) :: ws) ({ frames := 2, cells := 8, slots := 48, locals := 27 } : Room)) (fun a U => a = #[(.ref a1), (.ref sb1), (.ref al)] ∧ Z.Warmed39 U.vm ∧ U.heap = h0 ∧ CHv Z consts_1 U.vm h0) (fun _ _ _ _ _ => True) (fun _ U o U' => ∃ v L, o = .returned v ∧ Q21_1 Z a1 sb1 kb x0 GC ci al ab ag agv h0 n0 v U'.heap L ∧ CHr Z consts_1 U.vm U.heap U'.vm U'.heap ∧ ReturnedEndW U o U' L ({ frames := 2, cells := 8, slots := 48, locals := 27 } : Room).cells ({ frames := 2, cells := 8, slots := 48, locals := 27 } : Room).slots) := by
  refine MetFree.of_bodySF (plainFor_of_name pn_21) hisR ?_
  intro p e s m args below meth c s₁ Bd hml0 hP hK
  obtain ⟨rfl, hZ, hh, hCH⟩ := hP
  have hx := Bd.exec
  have hby := Bd.bytes
  have hml : c.maxLocals = 9 := hml0
  have hown : s.vm.findClass "java/lang/StringLatin1" = some m.cls := findClass_of_methodNamed Bd.named
  have hnm := (name_of_methodNamed Bd.named Bd.method).1
  have X0 : Stand p l e ({ frames := 2, cells := 8, slots := 48, locals := 27 } : Room) s m #[(.ref a1), (.ref sb1), (.ref al)] below meth c s₁ [] 0 0 := Stand.of_body Bd
  have e0 : s₁.heap = h0 := by rw [← hh, Bd.state]; rfl
  have N0 := Fr.nil n0
  have X0 : Stand p l e ({ frames := 2, cells := 8, slots := 48, locals := 27 } : Room) (s.setVm s.vm) m #[(.ref a1), (.ref sb1), (.ref al)] below meth c s₁ [] 0 0 := X0
  have hZ : Z.Warmed39 (s.setVm s.vm).vm := hZ
  have hown : (s.setVm s.vm).vm.findClass "java/lang/StringLatin1" = some m.cls := hown
  have hS : s.Since s.vm 0 := (State.WarmedH.refl s).since 0
  refine og (B := s₁.setTop (mkF m 0 #[rv a1, rv sb1, rv al, .unset, .unset, .unset, .unset, .unset, .unset] [])) (fun t k => castTop (ef_21 m a1 sb1 al) k) ?_
  obtain ⟨cl1, Ar1, qk1, S1, M1, H1, G1⟩ := id V_b
  obtain ⟨cl2, Ar2, qk2, S2, M2, H2, G2⟩ := id V_b
  refine og (B := s₁.setTop (mkF m 35 #[rv a1, rv sb1, rv al, iv 0, iv 1, iv (x0 &&& (255 : Int32)), .unset, .unset, .unset] [(.int (x0 &&& (255 : Int32)))])) (fun t k => ?_) ?_
  · refine XS.aloadN X0.here hx rfl (hb hby d21_0) rfl rfl ?_
    refine XS.ifnonnullYes X0.here hx rfl (pc0 := 1) (pc' := 12) rfl (hb hby d21_1) rfl (by decide) (by decide) ?_
    refine XS.aloadN X0.here hx rfl (hb hby d21_12) rfl rfl ?_
    refine X0.arraylength hx (by rw [e0]; exact Ar1.1) (State.isArrayOf_alike hZ.alike Ar1.2.1) (g := (mkF m 13 #[rv a1, rv sb1, rv al, .unset, .unset, .unset, .unset, .unset, .unset] [(.ref sb1)])) rfl rfl (hb hby d21_13) _ ?_
    rw [len_of S1 M1]
    refine XS.istore X0.here hx rfl (hb hby d21_14) rfl (l' := #[rv a1, rv sb1, rv al, .unset, iv 1, .unset, .unset, .unset, .unset]) rfl ?_
    refine XS.iconst X0.here hx rfl (hb hby d21_16) ?_
    show own_S p e below s₁ (mkF m 17 #[rv a1, rv sb1, rv al, .unset, iv 1, .unset, .unset, .unset, .unset] [(.int 0)]) _
    refine XS.istoreN X0.here hx rfl (hb hby d21_17) rfl (l' := #[rv a1, rv sb1, rv al, iv 0, iv 1, .unset, .unset, .unset, .unset]) rfl ?_
    refine XS.iloadN X0.here hx rfl (hb hby d21_18) rfl ?_
    refine XS.iload X0.here hx rfl (hb hby d21_19) rfl ?_
    refine XS.icmpNo X0.here hx rfl (hb hby d21_21) rfl (tlt (by decide)).2.1 ?_
    refine XS.aloadN X0.here hx rfl (hb hby d21_24) rfl rfl ?_
    refine XS.iloadN X0.here hx rfl (hb hby d21_25) rfl ?_
    show own_S p e below s₁ (mkF m 26 #[rv a1, rv sb1, rv al, iv 0, iv 1, .unset, .unset, .unset, .unset] [(.int 0), (.ref sb1)]) _
    refine X0.baloadBytes hx (j := (0 : Int32)) (v := (.int x0)) (by rw [e0]; exact Ar2.1) (State.isArrayOf_alike hZ.alike Ar2.2.1) Ar2.2.2 (inb_of S2 ⟨by decide, by decide⟩) (Has.at H2 (inb_of S2 ⟨by decide, by decide⟩) rfl) (g := (mkF m 26 #[rv a1, rv sb1, rv al, iv 0, iv 1, .unset, .unset, .unset, .unset] [(.int 0), (.ref sb1)])) rfl rfl (hb hby d21_26) _ ?_
    refine XS.sipush X0.here hx rfl (hb hby d21_27) ?_
    refine XS.iand X0.here hx rfl (hb hby d21_30) rfl ?_
    refine XS.istore X0.here hx rfl (hb hby d21_31) rfl (l' := #[rv a1, rv sb1, rv al, iv 0, iv 1, iv (x0 &&& (255 : Int32)), .unset, .unset, .unset]) rfl ?_
    refine XS.iload X0.here hx rfl (hb hby d21_33) rfl ?_
    exact k
  obtain ⟨T3, X3, e3, st3⟩ := getS2 X0 hx hZ hown (host := "") (Or.inl (ow hw 184 rfl)) Via.refl e0 (S_I.ext O0.2) (g := (mkF m 35 #[rv a1, rv sb1, rv al, iv 0, iv 1, iv (x0 &&& (255 : Int32)), .unset, .unset, .unset] [(.int (x0 &&& (255 : Int32)))])) rfl (hb hby d21_35)
  refine og (B := T3.setTop (mkF m 38 #[rv a1, rv sb1, rv al, iv 0, iv 1, iv (x0 &&& (255 : Int32)), .unset, .unset, .unset] [(.ref ci), (.int (x0 &&& (255 : Int32)))])) st3 ?_
  refine og (B := T3.setTop (mkF m 40 #[rv a1, rv sb1, rv al, iv 0, iv 1, iv (x0 &&& (255 : Int32)), .unset, .unset, .unset] [(.int (x0 &&& (255 : Int32))), (.ref ci), (.int (x0 &&& (255 : Int32)))])) (fun t k => ?_) ?_
  · refine XS.iload X3.here hx rfl (hb hby d21_38) rfl ?_
    exact k
  obtain ⟨cq4, kq4, q4a, q4b, q4c⟩ := isOf hZ e3 (E_ci.ext O0.2)
  obtain ⟨_, _, ⟨T4, L4, k4, n4⟩, -, X4, ⟨Lc4, hQ4, l4, y4, z4⟩, st4⟩ := X3.virtualBack hx (y := own_y31) (z := own_y31) hown (mvT hZ (ow hw 186 rfl)) (mvT hZ (ow hw 187 rfl)) (notFace_of_selects (args := #[]) (mvT hZ (ow hw 189 rfl))) (mvT hZ (ow hw 189 rfl)) (mvT hZ (ow hw 188 rfl)) (by decide) (backOf (W := 1) (rm37 l Z a0 hw [] ci (x0 &&& (255 : Int32)) h0 n0 Z0) hZ (ow hw 190 rfl) (ow hw 185 rfl) (by decide) (by decide)) q4a q4c (g := (mkF m 40 #[rv a1, rv sb1, rv al, iv 0, iv 1, iv (x0 &&& (255 : Int32)), .unset, .unset, .unset] [(.int (x0 &&& (255 : Int32))), (.ref ci), (.int (x0 &&& (255 : Int32)))])) rfl (by rw [hml]; rfl) (Steps.refl _) (argsL := [(.int (x0 &&& (255 : Int32)))]) (rest := [(.int (x0 &&& (255 : Int32)))]) (lenOf own_pd21 rfl) rfl (Nat.le_refl _) (hb hby d21_40) (fun _ _ => ⟨rfl, e3, (by decide : 0 + 0 ≤ _), (by decide : 0 + 0 ≤ _)⟩)
  dsimp only [Pt.U, Pt.locs, Pt.cells, Pt.slots] at X4 l4 y4 z4 st4 hQ4
  subst l4 y4 z4
  obtain ⟨rfl, N4q, eq4⟩ := hQ4
  have N4 := Fr.app N0 N4q
  refine og (B := T4.setTop (mkF m 43 #[rv a1, rv sb1, rv al, iv 0, iv 1, iv (x0 &&& (255 : Int32)), .unset, .unset, .unset] [(.int (own_low (x0 &&& (255 : Int32)))), (.int (x0 &&& (255 : Int32)))])) (fun _ => st4.trans) ?_
  by_cases hc43_5 : (x0 &&& (255 : Int32)) = (own_low (x0 &&& (255 : Int32)))
  · obtain ⟨fs, hr, hrun, hended, hRW⟩ := X4.leaveW hS (by rw [eq4]; exact (Nat.zero_le _)) (v := some (.ref a1)) (fun h => by rw [Bd.returns] at h; cases h)
    refine ⟨_, _, ?_, hrun, hended, _, _, rfl, ?_, (by have q := (CHr.refl hCH).trans (CHv.at X4 hZ (own_hEL hw) (CHr.refl hCH).1); show CHr Z consts_1 s.vm s.heap T4.vm T4.heap; rw [eq4, hh]; exact q), hRW.1, hRW.2.1, hRW.2.2.1, hRW.2.2.2.mono (by decide) (by decide)⟩
    · refine XS.icmpYes X4.here hx rfl (pc0 := 43) (pc' := 49) rfl (hb hby d21_43) rfl (teq hc43_5).1 (by decide) (by decide) ?_
      refine XS.iinc X4.here hx rfl (hb hby d21_49) rfl (l' := #[rv a1, rv sb1, rv al, iv 1, iv 1, iv (x0 &&& (255 : Int32)), .unset, .unset, .unset]) rfl ?_
      refine XS.goto X4.here hx rfl (pc0 := 52) (pc' := 18) rfl (hb hby d21_52) (by decide) (by decide) ?_
      refine XS.iloadN X4.here hx rfl (hb hby d21_18) rfl ?_
      refine XS.iload X4.here hx rfl (hb hby d21_19) rfl ?_
      refine XS.icmpYes X4.here hx rfl (pc0 := 21) (pc' := 55) rfl (hb hby d21_21) rfl (flt (by decide)).2.1 (by decide) (by decide) ?_
      show own_S p e below T4 (mkF m 55 #[rv a1, rv sb1, rv al, iv 1, iv 1, iv (x0 &&& (255 : Int32)), .unset, .unset, .unset] []) _
      refine XS.iloadN X4.here hx rfl (hb hby d21_55) rfl ?_
      refine XS.iload X4.here hx rfl (hb hby d21_56) rfl ?_
      refine XS.icmpNo X4.here hx rfl (hb hby d21_58) rfl (teq (by decide)).2 ?_
      refine XS.aloadN X4.here hx rfl (hb hby d21_61) rfl rfl ?_
      show own_S p e below T4 (mkF m 62 #[rv a1, rv sb1, rv al, iv 1, iv 1, iv (x0 &&& (255 : Int32)), .unset, .unset, .unset] [(.ref a1)]) _
      jvm_step X4.here [X4.here.top, hx, (hb hby d21_62), X4.method', Bd.returns, Value.isRef, FieldType.isReference]
      first | (intro acts; rw [hr _ acts rfl rfl rfl]) | rw [hr _ _ rfl rfl rfl]
      exact Steps.refl _
    · show Q21_1 Z a1 sb1 kb x0 GC ci al ab ag agv h0 n0 _ T4.heap _
      rw [eq4]
      exact ⟨a1, sb1, kb, x0, rfl, N4, (Keep.refl h0 []), E_a1, F_c, F_v, V_b, Or.inl rfl, Or.inl rfl, hc43_5, trivial⟩
  · refine og (B := T4.setTop (mkF m 63 #[rv a1, rv sb1, rv al, iv 0, iv 1, iv (x0 &&& (255 : Int32)), .unset, .unset, .unset] [])) (fun t k => ?_) ?_
    · refine XS.icmpNo X4.here hx rfl (hb hby d21_43) rfl (feq hc43_5).1 ?_
      refine XS.goto X4.here hx rfl (pc0 := 46) (pc' := 55) rfl (hb hby d21_46) (by decide) (by decide) ?_
      refine XS.iloadN X4.here hx rfl (hb hby d21_55) rfl ?_
      refine XS.iload X4.here hx rfl (hb hby d21_56) rfl ?_
      refine XS.icmpYes X4.here hx rfl (pc0 := 58) (pc' := 63) rfl (hb hby d21_58) rfl (feq (by decide)).2 (by decide) (by decide) ?_
      exact k
    refine og (B := T4.setTop (mkF m 64 #[rv a1, rv sb1, rv al, iv 0, iv 1, iv (x0 &&& (255 : Int32)), .unset, .unset, .unset] [(.ref al)])) (fun t k => ?_) ?_
    · refine XS.aloadN X4.here hx rfl (hb hby d21_63) rfl rfl ?_
      exact k
    obtain ⟨cq6, kq6, q6a, q6b, q6c⟩ := isOf hZ eq4 (E_al.ext O0.2)
    obtain ⟨_, _, ⟨T6, L6, k6, n6⟩, -, X6, ⟨Lc6, hQ6, l6, y6, z6⟩, st6⟩ := X4.virtualBack hx (y := own_y34) (z := own_y34) hown (mvT hZ (ow hw 194 rfl)) (mvT hZ (ow hw 195 rfl)) (notFace_of_selects (args := #[]) (mvT hZ (ow hw 197 rfl))) (mvT hZ (ow hw 197 rfl)) (mvT hZ (ow hw 196 rfl)) (by decide) (backOf (W := 0) (rm39 l Z a0 hw [] al ab ag h0 n0 Z0 (F_ab.ext O0.2) (E_ab.ext O0.2) (F_ag.ext O0.2)) hZ (ow hw 198 rfl) (ow hw 107 rfl) (by decide) (by decide)) q6a q6c (g := (mkF m 64 #[rv a1, rv sb1, rv al, iv 0, iv 1, iv (x0 &&& (255 : Int32)), .unset, .unset, .unset] [(.ref al)])) rfl (by rw [hml]; rfl) (Steps.refl _) (argsL := []) (rest := []) (lenOf own_pd20 rfl) rfl (Nat.le_refl _) (hb hby d21_64) (fun _ _ => ⟨rfl, eq4, (by decide : 0 + 0 ≤ _), (by decide : 0 + 0 ≤ _)⟩)
    dsimp only [Pt.U, Pt.locs, Pt.cells, Pt.slots] at X6 l6 y6 z6 st6 hQ6
    subst l6 y6 z6
    obtain ⟨rfl, N6q, eq6⟩ := hQ6
    have N6 := Fr.app N4 N6q
    refine og (B := T6.setTop (mkF m 67 #[rv a1, rv sb1, rv al, iv 0, iv 1, iv (x0 &&& (255 : Int32)), .unset, .unset, .unset] [(.ref ag)])) (fun _ => st6.trans) ?_
    refine og (B := T6.setTop (mkF m 71 #[rv a1, rv sb1, rv al, iv 0, iv 1, rv ag, .unset, .unset, .unset] [(.ref ag)])) (fun t k => ?_) ?_
    · refine XS.astore X6.here hx rfl (hb hby d21_67) rfl rfl (l' := #[rv a1, rv sb1, rv al, iv 0, iv 1, rv ag, .unset, .unset, .unset]) rfl ?_
      refine XS.aload X6.here hx rfl (hb hby d21_69) rfl rfl ?_
      exact k
    obtain ⟨as7, T7, h7, kk7, bs7, ks7, X7, e7, E7, hS, hk7, hZ, hown, LE7, LC7, LV7, LA7, la7, lb7, hC7, hL7, hSf7, st7⟩ := ldcCH (EL := consts_1) X6 hx hZ hown (ow hw 209 rfl) (own_wS hw) eq6 hS (Nat.zero_le _) (own_hEL hw) (by decide) (CHr.refl hCH).1 (z := (2 : Int32)) own_httr (by decide) rfl (g := (mkF m 71 #[rv a1, rv sb1, rv al, iv 0, iv 1, rv ag, .unset, .unset, .unset] [(.ref ag)])) rfl (hb hby d21_71) (n := 8) (by decide) (by decide) (by decide) (by decide)
    have Ch7 := (CHr.refl hCH).trans hC7
    have c7_V_sb1 := V_b.ext E7
    have K7 := (Keep.refl h0 []).ext E7
    have O7 := O0.ext E7
    refine og (B := T7.setTop (mkF m 73 #[rv a1, rv sb1, rv al, iv 0, iv 1, rv ag, .unset, .unset, .unset] [(.ref as7), (.ref ag)])) st7 ?_
    refine og (B := T7.setTop (mkF m 76 #[rv a1, rv sb1, rv al, iv 0, iv 1, rv ag, .unset, .unset, .unset] [])) (fun t k => ?_) ?_
    · refine Jvm.RoadKit.acmp (g := (mkF m 73 #[rv a1, rv sb1, rv al, iv 0, iv 1, rv ag, .unset, .unset, .unset] [(.ref as7), (.ref ag)])) X7 hx rfl rfl rfl (pc0 := 73) (pc' := 76) (same := false) rfl (hb hby d21_73) rfl (decide_eq_false fun q => (own_lne (F_gv.ext O7.2) (V_gv.ext O7.2) LV7 LA7) (Value.ref.inj q)) (by decide) (by decide) ?_
      exact k
    refine og (B := T7.setTop (mkF m 78 #[rv a1, rv sb1, rv al, iv 0, iv 1, rv ag, .unset, .unset, .unset] [(.ref ag)])) (fun t k => ?_) ?_
    · refine XS.aload X7.here hx rfl (hb hby d21_76) rfl rfl ?_
      exact k
    obtain ⟨as8, T8, h8, kk8, bs8, ks8, X8, e8, E8, hS, hk8, hZ, hown, LE8, LC8, LV8, LA8, la8, lb8, hC8, hL8, hSf8, st8⟩ := ldcCH (EL := consts_1) X7 hx hZ hown (ow hw 210 rfl) (own_wS hw) e7 hS hk7 (own_hEL hw) (by decide) (Ch7).1 (z := (2 : Int32)) own_htaz (by decide) rfl (g := (mkF m 78 #[rv a1, rv sb1, rv al, iv 0, iv 1, rv ag, .unset, .unset, .unset] [(.ref ag)])) rfl (hb hby d21_78) (n := 8) (by decide) (by decide) (by decide) (by decide)
    have Ch8 := (Ch7).trans hC8
    have c8_V_sb1 := c7_V_sb1.ext E8
    have K8 := K7.ext E8
    have O8 := O7.ext E8
    have zs8 := (Nat.le_trans (Nat.le_trans Z0 E7.1) E8.1)
    refine og (B := T8.setTop (mkF m 80 #[rv a1, rv sb1, rv al, iv 0, iv 1, rv ag, .unset, .unset, .unset] [(.ref as8), (.ref ag)])) st8 ?_
    refine og (B := T8.setTop (mkF m 83 #[rv a1, rv sb1, rv al, iv 0, iv 1, rv ag, .unset, .unset, .unset] [])) (fun t k => ?_) ?_
    · refine Jvm.RoadKit.acmp (g := (mkF m 80 #[rv a1, rv sb1, rv al, iv 0, iv 1, rv ag, .unset, .unset, .unset] [(.ref as8), (.ref ag)])) X8 hx rfl rfl rfl (pc0 := 80) (pc' := 83) (same := false) rfl (hb hby d21_80) rfl (decide_eq_false fun q => (own_lne (F_gv.ext O8.2) (V_gv.ext O8.2) LV8 LA8) (Value.ref.inj q)) (by decide) (by decide) ?_
      exact k
    refine og (B := T8.setTop (mkF m 85 #[rv a1, rv sb1, rv al, iv 0, iv 1, rv ag, .unset, .unset, .unset] [(.ref ag)])) (fun t k => ?_) ?_
    · refine XS.aload X8.here hx rfl (hb hby d21_83) rfl rfl ?_
      exact k
    obtain ⟨as9, T9, h9, kk9, bs9, ks9, X9, e9, E9, hS, hk9, hZ, hown, LE9, LC9, LV9, LA9, la9, lb9, hC9, hL9, hSf9, st9⟩ := ldcCH (EL := consts_1) X8 hx hZ hown (ow hw 211 rfl) (own_wS hw) e8 hS hk8 (own_hEL hw) (by decide) (Ch8).1 (z := (2 : Int32)) own_htlt (by decide) rfl (g := (mkF m 85 #[rv a1, rv sb1, rv al, iv 0, iv 1, rv ag, .unset, .unset, .unset] [(.ref ag)])) rfl (hb hby d21_85) (n := 8) (by decide) (by decide) (by decide) (by decide)
    have Ch9 := (Ch8).trans hC9
    have c9_V_sb1 := c8_V_sb1.ext E9
    have K9 := K8.ext E9
    have O9 := O8.ext E9
    refine og (B := T9.setTop (mkF m 87 #[rv a1, rv sb1, rv al, iv 0, iv 1, rv ag, .unset, .unset, .unset] [(.ref as9), (.ref ag)])) st9 ?_
    refine og (B := T9.setTop (mkF m 99 #[rv a1, rv sb1, rv al, iv 0, iv 1, rv ag, .unset, .unset, .unset] [])) (fun t k => ?_) ?_
    · refine Jvm.RoadKit.acmp (g := (mkF m 87 #[rv a1, rv sb1, rv al, iv 0, iv 1, rv ag, .unset, .unset, .unset] [(.ref as9), (.ref ag)])) X9 hx rfl rfl rfl (pc0 := 87) (pc' := 99) (same := false) rfl (hb hby d21_87) rfl (decide_eq_false fun q => (own_lne (F_gv.ext O9.2) (V_gv.ext O9.2) LV9 LA9) (Value.ref.inj q)) (by decide) (by decide) ?_
      exact k
    refine og (B := T9.setTop (mkF m 101 #[rv a1, rv sb1, rv al, iv 0, iv 1, rv ag, .unset, .unset, .unset] [(.int 1)])) (fun t k => ?_) ?_
    · refine XS.iload X9.here hx rfl (hb hby d21_99) rfl ?_
      exact k
    obtain ⟨T10, h10, k10, X10, e10, E10, A10, st10⟩ := newP X9 hx hZ (ow hw 19 rfl) e9 (g := (mkF m 101 #[rv a1, rv sb1, rv al, iv 0, iv 1, rv ag, .unset, .unset, .unset] [(.int 1)])) rfl (hb hby d21_101) rfl (by decide) (cap := 1) (by decide) (by decide) (by decide) (by decide)
    obtain ⟨b10, g10⟩ : ∃ z, z = h9.size := ⟨_, rfl⟩
    rw [← g10] at A10 st10
    have g_b10 : n0 ≤ b10 := Nat.le_trans (Nat.le_trans zs8 E9.1) (Nat.le_of_eq g10.symm)
    have sz_b10 : h0.size ≤ b10 := Nat.le_trans K9.1 (Nat.le_of_eq g10.symm)
    have sy_b10 : h9.size ≤ b10 := Nat.le_trans (Keep.refl h9 []).1 (Nat.le_of_eq g10.symm)
    have ne_sb1_b10 : sb1 ≠ b10 := Nat.ne_of_lt (Nat.lt_of_lt_of_le c9_V_sb1.lt (Nat.le_of_eq g10.symm))
    have c10_V_sb1 := c9_V_sb1.ext E10
    have K10 := K9.ext E10
    have J10 := (Keep.refl h9 []).ext E10
    have O10 := O9.ext E10
    have V10 : Arv Z h10 b10 k10 .byte (1 : Int32) [(.int 0)] (.int 0) := (Arv.new A10 (by decide)).pad (pad_rep [] (.int 0) 1)
    have zs10 := (Nat.le_trans (Nat.le_trans zs8 E9.1) E10.1)
    refine og (B := T10.setTop (mkF m 103 #[rv a1, rv sb1, rv al, iv 0, iv 1, rv ag, .unset, .unset, .unset] [(.ref b10)])) st10 ?_
    refine og (B := T10.setTop (mkF m 111 #[rv a1, rv sb1, rv al, iv 0, iv 1, rv ag, rv b10, .unset, .unset] [(.int 0), (.int 0), (.ref b10), (.int 0), (.ref sb1)])) (fun t k => ?_) ?_
    · refine XS.astore X10.here hx rfl (hb hby d21_103) rfl rfl (l' := #[rv a1, rv sb1, rv al, iv 0, iv 1, rv ag, rv b10, .unset, .unset]) rfl ?_
      refine XS.aloadN X10.here hx rfl (hb hby d21_105) rfl rfl ?_
      refine XS.iconst X10.here hx rfl (hb hby d21_106) ?_
      refine XS.aload X10.here hx rfl (hb hby d21_107) rfl rfl ?_
      refine XS.iconst X10.here hx rfl (hb hby d21_109) ?_
      refine XS.iloadN X10.here hx rfl (hb hby d21_110) rfl ?_
      exact k
    obtain ⟨T11, h11, L11, X11, e11, N11, K11q, V11q, st11⟩ := cpA X10 hx hZ hown (ow hw 212 rfl) (ow hw 105 rfl) (ow hw 103 rfl) (ow hw 104 rfl) e10 c10_V_sb1 V10 (us := []) (Or.inl ⟨rfl, rfl⟩) (by decide) (by decide) (by decide) (by decide) (by decide) rfl (Nat.le_of_ble_eq_true rfl) N6 g_b10 (g := (mkF m 111 #[rv a1, rv sb1, rv al, iv 0, iv 1, rv ag, rv b10, .unset, .unset] [(.int 0), (.int 0), (.ref b10), (.int 0), (.ref sb1)])) rfl (by rw [hml]; rfl) (rest := []) rfl (hb hby d21_111) (by decide) (W := 0) (Nat.le_refl _) (by decide)
    have V11 : Arv Z h11 b10 k10 .byte (1 : Int32) [(.int 0)] (.int 0) := V11q
    have c11_V_sb1 := c10_V_sb1.keep K11q (fun q => ne_sb1_b10 (List.mem_singleton.mp q))
    have O11 := O10.keep K11q (allS g_b10 all0)
    have K11 := K10.trans K11q (allS (Or.inr sz_b10) all0)
    have J11 := J10.trans K11q (allS (Or.inr sy_b10) all0)
    have zk11 := (Nat.le_trans (Nat.le_trans hk9 E10.1) K11q.1)
    refine og (B := T11.setTop (mkF m 114 #[rv a1, rv sb1, rv al, iv 0, iv 1, rv ag, rv b10, .unset, .unset] [])) st11 ?_
    obtain ⟨cl12, Ar12, qk12, S12, M12, H12, G12⟩ := id c11_V_sb1
    refine og (B := T11.setTop (mkF m 134 #[rv a1, rv sb1, rv al, iv 0, iv 1, rv ag, rv b10, iv 0, iv (x0 &&& (255 : Int32))] [])) (fun t k => ?_) ?_
    · refine XS.iloadN X11.here hx rfl (hb hby d21_114) rfl ?_
      refine XS.istore X11.here hx rfl (hb hby d21_115) rfl (l' := #[rv a1, rv sb1, rv al, iv 0, iv 1, rv ag, rv b10, iv 0, .unset]) rfl ?_
      refine XS.iload X11.here hx rfl (hb hby d21_117) rfl ?_
      refine XS.iload X11.here hx rfl (hb hby d21_119) rfl ?_
      refine XS.icmpNo X11.here hx rfl (hb hby d21_121) rfl (tlt (by decide)).2.1 ?_
      refine XS.aloadN X11.here hx rfl (hb hby d21_124) rfl rfl ?_
      show own_S p e below T11 (mkF m 125 #[rv a1, rv sb1, rv al, iv 0, iv 1, rv ag, rv b10, iv 0, .unset] [(.ref sb1)]) _
      refine XS.iload X11.here hx rfl (hb hby d21_125) rfl ?_
      refine X11.baloadBytes hx (j := (0 : Int32)) (v := (.int x0)) (by rw [e11]; exact Ar12.1) (State.isArrayOf_alike hZ.alike Ar12.2.1) Ar12.2.2 (inb_of S12 ⟨by decide, by decide⟩) (Has.at H12 (inb_of S12 ⟨by decide, by decide⟩) rfl) (g := (mkF m 127 #[rv a1, rv sb1, rv al, iv 0, iv 1, rv ag, rv b10, iv 0, .unset] [(.int 0), (.ref sb1)])) rfl rfl (hb hby d21_127) _ ?_
      refine XS.sipush X11.here hx rfl (hb hby d21_128) ?_
      refine XS.iand X11.here hx rfl (hb hby d21_131) rfl ?_
      refine XS.istore X11.here hx rfl (hb hby d21_132) rfl (l' := #[rv a1, rv sb1, rv al, iv 0, iv 1, rv ag, rv b10, iv 0, iv (x0 &&& (255 : Int32))]) rfl ?_
      exact k
    obtain ⟨T13, X13, e13, st13⟩ := getS2 X11 hx hZ hown (host := "") (Or.inl (ow hw 184 rfl)) Via.refl e11 (S_I.ext O11.2) (g := (mkF m 134 #[rv a1, rv sb1, rv al, iv 0, iv 1, rv ag, rv b10, iv 0, iv (x0 &&& (255 : Int32))] [])) rfl (hb hby d21_134)
    refine og (B := T13.setTop (mkF m 137 #[rv a1, rv sb1, rv al, iv 0, iv 1, rv ag, rv b10, iv 0, iv (x0 &&& (255 : Int32))] [(.ref ci)])) st13 ?_
    refine og (B := T13.setTop (mkF m 139 #[rv a1, rv sb1, rv al, iv 0, iv 1, rv ag, rv b10, iv 0, iv (x0 &&& (255 : Int32))] [(.int (x0 &&& (255 : Int32))), (.ref ci)])) (fun t k => ?_) ?_
    · refine XS.iload X13.here hx rfl (hb hby d21_137) rfl ?_
      exact k
    obtain ⟨cq14, kq14, q14a, q14b, q14c⟩ := isOf hZ e13 (E_ci.ext O11.2)
    obtain ⟨_, _, ⟨T14, L14, k14, n14⟩, -, X14, ⟨Lc14, hQ14, l14, y14, z14⟩, st14⟩ := X13.virtualBack hx (y := own_y31) (z := own_y31) hown (mvT hZ (ow hw 186 rfl)) (mvT hZ (ow hw 187 rfl)) (notFace_of_selects (args := #[]) (mvT hZ (ow hw 189 rfl))) (mvT hZ (ow hw 189 rfl)) (mvT hZ (ow hw 188 rfl)) (by decide) (backOf (W := 0) (rm37 l Z a0 hw [] ci (x0 &&& (255 : Int32)) h11 n0 (Nat.le_trans zs10 K11q.1)) hZ (ow hw 190 rfl) (ow hw 185 rfl) (by decide) (by decide)) q14a q14c (g := (mkF m 139 #[rv a1, rv sb1, rv al, iv 0, iv 1, rv ag, rv b10, iv 0, iv (x0 &&& (255 : Int32))] [(.int (x0 &&& (255 : Int32))), (.ref ci)])) rfl (by rw [hml]; rfl) (Steps.refl _) (argsL := [(.int (x0 &&& (255 : Int32)))]) (rest := []) (lenOf own_pd21 rfl) rfl (Nat.le_refl _) (hb hby d21_139) (fun _ _ => ⟨rfl, e13, (by decide : 7 + 0 ≤ _), (by decide : 37 + 0 ≤ _)⟩)
    dsimp only [Pt.U, Pt.locs, Pt.cells, Pt.slots] at X14 l14 y14 z14 st14 hQ14
    subst l14 y14 z14
    obtain ⟨rfl, N14q, eq14⟩ := hQ14
    have N14 := Fr.app N11 N14q
    refine og (B := T14.setTop (mkF m 142 #[rv a1, rv sb1, rv al, iv 0, iv 1, rv ag, rv b10, iv 0, iv (x0 &&& (255 : Int32))] [(.int (own_low (x0 &&& (255 : Int32))))])) (fun _ => st14.trans) ?_
    refine og (B := T14.setTop (mkF m 146 #[rv a1, rv sb1, rv al, iv 0, iv 1, rv ag, rv b10, iv 0, iv (own_low (x0 &&& (255 : Int32)))] [(.int (own_low (x0 &&& (255 : Int32))))])) (fun t k => ?_) ?_
    · refine XS.istore X14.here hx rfl (hb hby d21_142) rfl (l' := #[rv a1, rv sb1, rv al, iv 0, iv 1, rv ag, rv b10, iv 0, iv (own_low (x0 &&& (255 : Int32)))]) rfl ?_
      refine XS.iload X14.here hx rfl (hb hby d21_144) rfl ?_
      exact k
    obtain ⟨_, _, ⟨T15, L15, k15, n15⟩, -, X15, ⟨Lc15, hQ15, l15, y15, z15⟩, st15⟩ := Jvm.LawKit.callS X14 hx (y := own_y32) hown (mvT hZ (ow hw 213 rfl)) (mvT hZ (ow hw 214 rfl)) (mvT hZ (ow hw 120 rfl)) (mvT hZ (ow hw 215 rfl)) (by decide) (backOf (W := 0) (rm41 l Z a0 hw [] (own_low (x0 &&& (255 : Int32))) h11 n0 (Nat.le_trans zs10 K11q.1) (own_lr _).1 (own_lr _).2) hZ (ow hw 215 rfl) (ow hw 120 rfl) (by decide) (by decide)) (g := (mkF m 146 #[rv a1, rv sb1, rv al, iv 0, iv 1, rv ag, rv b10, iv 0, iv (own_low (x0 &&& (255 : Int32)))] [(.int (own_low (x0 &&& (255 : Int32))))])) rfl (by rw [hml]; rfl) (argsL := [(.int (own_low (x0 &&& (255 : Int32))))]) (rest := []) (lenOf own_pd22 rfl) rfl (Nat.le_refl _) (hb hby d21_146) (fun _ _ => ⟨rfl, eq14, (by decide : 7 + 0 ≤ _), (by decide : 37 + 0 ≤ _)⟩)
    dsimp only [Pt.U, Pt.locs, Pt.cells, Pt.slots] at X15 l15 y15 z15 st15 hQ15
    subst l15 y15 z15
    obtain ⟨rfl, N15q, eq15⟩ := hQ15
    have N15 := Fr.app N14 N15q
    refine og (B := T15.setTop (mkF m 149 #[rv a1, rv sb1, rv al, iv 0, iv 1, rv ag, rv b10, iv 0, iv (own_low (x0 &&& (255 : Int32)))] [(.int 1)])) st15 ?_
    refine og (B := T15.setTop (mkF m 168 #[rv a1, rv sb1, rv al, iv 0, iv 1, rv ag, rv b10, iv 0, iv (own_low (x0 &&& (255 : Int32)))] [(.int ((own_low (x0 &&& (255 : Int32))).toInt8.toInt32)), (.int 0), (.ref b10)])) (fun t k => ?_) ?_
    · refine XS.ifYes X15.here hx rfl (pc0 := 149) (pc' := 161) rfl (hb hby d21_149) rfl ((if0 _ _).trans (feq (by decide)).2) (by decide) (by decide) ?_
      refine XS.aload X15.here hx rfl (hb hby d21_161) rfl rfl ?_
      refine XS.iload X15.here hx rfl (hb hby d21_163) rfl ?_
      refine XS.iload X15.here hx rfl (hb hby d21_165) rfl ?_
      refine XS.i2b X15.here hx rfl (hb hby d21_167) rfl ?_
      exact k
    obtain ⟨cl16, Ar16, qk16, S16, M16, H16, G16⟩ := id V11
    obtain ⟨T16, h16, X16, e16, W16, st16⟩ := stB X15 hx hZ eq15 Ar16 (j := (0 : Int32)) (inb_of S16 ⟨by decide, by decide⟩) (g := (mkF m 168 #[rv a1, rv sb1, rv al, iv 0, iv 1, rv ag, rv b10, iv 0, iv (own_low (x0 &&& (255 : Int32)))] [(.int ((own_low (x0 &&& (255 : Int32))).toInt8.toInt32)), (.int 0), (.ref b10)])) rfl rfl (hb hby d21_168)
    have V16 : Arv Z h16 b10 k10 .byte (1 : Int32) [(.int (nar .byte ((own_low (x0 &&& (255 : Int32))).toInt8.toInt32)))] (.int 0) := Arv.set Ar16 qk16 S16 M16 H16 G16 (fits_nar_byte _) W16 0 rfl (Nat.le_of_ble_eq_true rfl)
    have c16_V_sb1 := c11_V_sb1.other W16 ne_sb1_b10
    have K16 := K11.wr W16 (Or.inr sz_b10)
    have J16 := J11.wr W16 (Or.inr sy_b10)
    have O16 := O11.wr W16 g_b10
    have N16 := Fr.snoc X16 N15 g_b10
    have zs16 := (Nat.le_trans (Nat.le_trans zs10 K11q.1) (Keep.of_wr W16).1)
    have zk16 := (Nat.le_trans zk11 (Keep.of_wr W16).1)
    refine og (B := T16.setTop (mkF m 169 #[rv a1, rv sb1, rv al, iv 0, iv 1, rv ag, rv b10, iv 0, iv (own_low (x0 &&& (255 : Int32)))] [])) st16 ?_
    refine og (B := T16.setTop (mkF m 175 #[rv a1, rv sb1, rv al, iv 0, iv 1, rv ag, rv b10, iv 1, iv (own_low (x0 &&& (255 : Int32)))] [])) (fun t k => ?_) ?_
    · refine XS.iinc X16.here hx rfl (hb hby d21_169) rfl (l' := #[rv a1, rv sb1, rv al, iv 0, iv 1, rv ag, rv b10, iv 1, iv (own_low (x0 &&& (255 : Int32)))]) rfl ?_
      refine XS.goto X16.here hx rfl (pc0 := 172) (pc' := 117) rfl (hb hby d21_172) (by decide) (by decide) ?_
      refine XS.iload X16.here hx rfl (hb hby d21_117) rfl ?_
      refine XS.iload X16.here hx rfl (hb hby d21_119) rfl ?_
      refine XS.icmpYes X16.here hx rfl (pc0 := 121) (pc' := 175) rfl (hb hby d21_121) rfl (flt (by decide)).2.1 (by decide) (by decide) ?_
      exact k
    obtain ⟨T17, h17, X17, e17, E17, A17, D17, -, st17⟩ := newO X16 hx hZ hown (ow hw 216 rfl) (ow hw 1 rfl) (ow hw 2 rfl) e16 (g := (mkF m 175 #[rv a1, rv sb1, rv al, iv 0, iv 1, rv ag, rv b10, iv 1, iv (own_low (x0 &&& (255 : Int32)))] [])) rfl (hb hby d21_175) (by decide) (by decide)
    obtain ⟨b17, g17⟩ : ∃ z, z = h16.size := ⟨_, rfl⟩
    rw [← g17] at A17 D17 st17
    have g_b17 : n0 ≤ b17 := Nat.le_trans zs16 (Nat.le_of_eq g17.symm)
    have sz_b17 : h0.size ≤ b17 := Nat.le_trans K16.1 (Nat.le_of_eq g17.symm)
    have sy_b17 : h9.size ≤ b17 := Nat.le_trans J16.1 (Nat.le_of_eq g17.symm)
    have ne_sb1_b17 : sb1 ≠ b17 := Nat.ne_of_lt (Nat.lt_of_lt_of_le c16_V_sb1.lt (Nat.le_of_eq g17.symm))
    have ne_b10_b17 : b10 ≠ b17 := Nat.ne_of_lt (Nat.lt_of_lt_of_le V16.lt (Nat.le_of_eq g17.symm))
    have c17_V_sb1 := c16_V_sb1.ext E17
    have c17_V_b10 := V16.ext E17
    have K17 := K16.ext E17
    have J17 := J16.ext E17
    have O17 := O16.ext E17
    have F17_coder : Fld Z h17 b17 "java/lang/String" "coder" "B" (.int 0) := D17 (Or.inr (ow hw 27 rfl)) (ty := .byte) (by decide)
    have F17_value : Fld Z h17 b17 "java/lang/String" "value" "[B" .null := D17 (Or.inr (ow hw 29 rfl)) (ty := (.array .byte)) (by decide)
    refine og (B := T17.setTop (mkF m 178 #[rv a1, rv sb1, rv al, iv 0, iv 1, rv ag, rv b10, iv 1, iv (own_low (x0 &&& (255 : Int32)))] [(.ref b17)])) st17 ?_
    refine og (B := T17.setTop (mkF m 182 #[rv a1, rv sb1, rv al, iv 0, iv 1, rv ag, rv b10, iv 1, iv (own_low (x0 &&& (255 : Int32)))] [(.int 0), (.ref b10), (.ref b17), (.ref b17)])) (fun t k => ?_) ?_
    · refine XS.dup X17.here hx rfl (hb hby d21_178) rfl rfl ?_
      refine XS.aload X17.here hx rfl (hb hby d21_179) rfl rfl ?_
      refine XS.iconst X17.here hx rfl (hb hby d21_181) ?_
      exact k
    obtain ⟨_, _, ⟨T18, L18, k18, n18⟩, -, X18, ⟨Lc18, hQ18, l18, y18, z18⟩, st18⟩ := X17.specialBack hx (y := own_y35) rfl hown (mvT hZ (ow hw 217 rfl)) (mvT hZ (ow hw 218 rfl)) (mvT hZ (ow hw 219 rfl)) (by decide) (backOf (W := 1) (rm42 l Z a0 hw [] b17 b10 h17 n0 (Nat.le_trans zs16 E17.1) A17 g_b17 F17_value F17_coder) hZ (ow hw 219 rfl) (ow hw 2 rfl) (by decide) (by decide)) (g := (mkF m 182 #[rv a1, rv sb1, rv al, iv 0, iv 1, rv ag, rv b10, iv 1, iv (own_low (x0 &&& (255 : Int32)))] [(.int 0), (.ref b10), (.ref b17), (.ref b17)])) rfl (by rw [hml]; rfl) (Steps.refl _) (a := b17) (argsL := [(.ref b10), (.int 0)]) (rest := [(.ref b17)]) (lenOf own_pd23 rfl) rfl (Nat.le_refl _) (hb hby d21_182) (fun _ _ => ⟨rfl, e17, (by decide : 8 + 0 ≤ _), (by decide : 41 + 0 ≤ _)⟩)
    dsimp only [Pt.U, Pt.locs, Pt.cells, Pt.slots] at X18 l18 y18 z18 st18 hQ18
    subst l18 y18 z18
    obtain ⟨rfl, N18q, K18q, E18q, F18c, F18v⟩ := hQ18
    have N18 := Fr.app N16 N18q
    have c18_V_sb1 := c17_V_sb1.keep K18q (fun q => ne_sb1_b17 (List.mem_singleton.mp q))
    have c18_V_b10 := c17_V_b10.keep K18q (fun q => ne_b10_b17 (List.mem_singleton.mp q))
    have O18 := O17.keep K18q (allS g_b17 all0)
    have K18 := K17.trans K18q (allS (Or.inr sz_b17) all0)
    have J18 := J17.trans K18q (allS (Or.inr sy_b17) all0)
    have zs18 := (Nat.le_trans (Nat.le_trans zs16 E17.1) K18q.1)
    have zk18 := (Nat.le_trans (Nat.le_trans zk16 E17.1) K18q.1)
    refine og (B := T18.setTop (mkF m 185 #[rv a1, rv sb1, rv al, iv 0, iv 1, rv ag, rv b10, iv 1, iv (own_low (x0 &&& (255 : Int32)))] [(.ref b17)])) (fun _ => st18.trans) ?_
    obtain ⟨fs, hr, hrun, hended, hRW⟩ := X18.leaveW hS (zk18) (v := some (.ref b17)) (fun h => by rw [Bd.returns] at h; cases h)
    refine ⟨_, _, ?_, hrun, hended, _, _, rfl, ?_, (by have q := ((Ch9).trans (CHr.ext (own_ext J18) (Ch9).1)).trans (CHv.at X18 hZ (own_hEL hw) ((Ch9).trans (CHr.ext (own_ext J18) (Ch9).1)).1); rw [← hh] at q; exact q), hRW.1, hRW.2.1, hRW.2.2.1, hRW.2.2.2.mono (by decide) (by decide)⟩
    · show own_S p e below T18 (mkF m 185 #[rv a1, rv sb1, rv al, iv 0, iv 1, rv ag, rv b10, iv 1, iv (own_low (x0 &&& (255 : Int32)))] [(.ref b17)]) _
      jvm_step X18.here [X18.here.top, hx, (hb hby d21_185), X18.method', Bd.returns, Value.isRef, FieldType.isReference]
      first | (intro acts; rw [hr _ acts rfl rfl rfl]) | rw [hr _ _ rfl rfl rfl]
      exact Steps.refl _
    · show Q21_1 Z a1 sb1 kb x0 GC ci al ab ag agv h0 n0 _ T18.heap _
      exact ⟨b17, b10, k10, (nar .byte ((own_low (x0 &&& (255 : Int32))).toInt8.toInt32)), rfl, N18, K18, E18q, F18c, F18v, c18_V_b10, Or.inr sz_b17, Or.inr sz_b10, (own_lE x0), trivial⟩
def own_QL2 (Z : State) (a1 sb1 : Addr) (x0 : Int32) (x1 : Int32) (h0 : Heap) (n0 : Nat) (v : Option Value) (h : Heap) (L : List Loc) : Prop := ∃ (a b : Addr) (kq : ClassId) (u0 : Int32) (u1 : Int32), v = some (.ref a) ∧ Fr n0 L ∧ Keep h0 h [] ∧ Exa Z h a "java/lang/String" ∧ Fld Z h a "java/lang/String" "coder" "B" (.int 0) ∧ Fld Z h a "java/lang/String" "value" "[B" (.ref b) ∧ Arv Z h b kq .byte (2 : Int32) [(.int u0), (.int u1)] (.int 0)  ∧ (a = a1 ∨ h0.size ≤ a) ∧ (b = sb1 ∨ h0.size ≤ b) ∧ ((u0 &&& (255 : Int32)) = own_low (x0 &&& (255 : Int32)) ∧ (u1 &&& (255 : Int32)) = own_low (x1 &&& (255 : Int32)) ∧ True)
def Q21_2 (Z : State) (a1 : Addr) (sb1 : Addr) (kb : ClassId) (x0 : Int32) (x1 : Int32) (GC : Int32) (ci : Addr) (al : Addr) (ab : Addr) (ag : Addr) (agv : Addr) (h0 : Heap) (n0 : Nat) (v : Option Value) (h : Heap) (L : List Loc) : Prop := own_QL2 Z a1 sb1 x0 x1 h0 n0 v h L
set_option maxRecDepth 65536 in
set_option maxHeartbeats 40000000 in
theorem rm21_2 (l : Launch) (Z : State) (a0 : Array Value) (hw : ∀ d ∈ tables_1, d.before a0 Z = true) (ws : List Jvm.Cond) (a1 : Addr) (sb1 : Addr) (kb : ClassId) (x0 : Int32) (x1 : Int32) (GC : Int32) (ci : Addr) (al : Addr) (ab : Addr) (ag : Addr) (agv : Addr) (h0 : Heap) (n0 : Nat) (Z0 : n0 ≤ h0.size) (S_C : Sta Z Z.heap "java/lang/String" "COMPACT_STRINGS" "Z" (.int GC)) (hGC : ¬ GC = (0 : Int32)) (O0 : Old Z n0 h0) (S_I : Sta Z Z.heap "java/lang/CharacterDataLatin1" "instance" "Ljava/lang/CharacterDataLatin1;" (.ref ci)) (E_ci : Exa Z Z.heap ci "java/lang/CharacterDataLatin1") (S_R : Sta Z Z.heap "java/util/Locale" "ROOT" "Ljava/util/Locale;" (.ref al)) (E_al : Exa Z Z.heap al "java/util/Locale") (F_ab : Fld Z Z.heap al "java/util/Locale" "baseLocale" "Lsun/util/locale/BaseLocale;" (.ref ab)) (E_ab : Exa Z Z.heap ab "sun/util/locale/BaseLocale") (F_ag : Fld Z Z.heap ab "sun/util/locale/BaseLocale" "language" "Ljava/lang/String;" (.ref ag)) (F_gv : Fld Z Z.heap ag "java/lang/String" "value" "[B" (.ref agv)) (V_gv : own_E0 Z Z.heap agv) (E_a1 : Exa Z h0 a1 "java/lang/String") (F_c : Fld Z h0 a1 "java/lang/String" "coder" "B" (.int 0)) (F_v : Fld Z h0 a1 "java/lang/String" "value" "[B" (.ref sb1)) (V_b : Arv Z h0 sb1 kb .byte (2 : Int32) [(.int x0), (.int x1)] (.int 0)) :
    MetFree l own_y36 (head1 (Jvm.Cond.code own_y36 jdk_43_method_32_code 9 (some (.object "java/lang/String")) :: ws) ({ frames := 2, cells := 8, slots := 48, locals := 27 } : Room)) (fun a U => a = #[(.ref a1), (.ref sb1), (.ref al)] ∧ Z.Warmed39 U.vm ∧ U.heap = h0 ∧ CHv Z consts_1 U.vm h0) (fun _ _ _ _ _ => True) (fun _ U o U' => ∃ v L, o = .returned v ∧ Q21_2 Z a1 sb1 kb x0 x1 GC ci al ab ag agv h0 n0 v U'.heap L ∧ CHr Z consts_1 U.vm U.heap U'.vm U'.heap ∧ ReturnedEndW U o U' L ({ frames := 2, cells := 8, slots := 48, locals := 27 } : Room).cells ({ frames := 2, cells := 8, slots := 48, locals := 27 } : Room).slots) := by
  refine MetFree.of_bodySF (plainFor_of_name pn_21) hisR ?_
  intro p e s m args below meth c s₁ Bd hml0 hP hK
  obtain ⟨rfl, hZ, hh, hCH⟩ := hP
  have hx := Bd.exec
  have hby := Bd.bytes
  have hml : c.maxLocals = 9 := hml0
  have hown : s.vm.findClass "java/lang/StringLatin1" = some m.cls := findClass_of_methodNamed Bd.named
  have hnm := (name_of_methodNamed Bd.named Bd.method).1
  have X0 : Stand p l e ({ frames := 2, cells := 8, slots := 48, locals := 27 } : Room) s m #[(.ref a1), (.ref sb1), (.ref al)] below meth c s₁ [] 0 0 := Stand.of_body Bd
  have e0 : s₁.heap = h0 := by rw [← hh, Bd.state]; rfl
  have N0 := Fr.nil n0
  have X0 : Stand p l e ({ frames := 2, cells := 8, slots := 48, locals := 27 } : Room) (s.setVm s.vm) m #[(.ref a1), (.ref sb1), (.ref al)] below meth c s₁ [] 0 0 := X0
  have hZ : Z.Warmed39 (s.setVm s.vm).vm := hZ
  have hown : (s.setVm s.vm).vm.findClass "java/lang/StringLatin1" = some m.cls := hown
  have hS : s.Since s.vm 0 := (State.WarmedH.refl s).since 0
  refine og (B := s₁.setTop (mkF m 0 #[rv a1, rv sb1, rv al, .unset, .unset, .unset, .unset, .unset, .unset] [])) (fun t k => castTop (ef_21 m a1 sb1 al) k) ?_
  obtain ⟨cl1, Ar1, qk1, S1, M1, H1, G1⟩ := id V_b
  obtain ⟨cl2, Ar2, qk2, S2, M2, H2, G2⟩ := id V_b
  refine og (B := s₁.setTop (mkF m 35 #[rv a1, rv sb1, rv al, iv 0, iv 2, iv (x0 &&& (255 : Int32)), .unset, .unset, .unset] [(.int (x0 &&& (255 : Int32)))])) (fun t k => ?_) ?_
  · refine XS.aloadN X0.here hx rfl (hb hby d21_0) rfl rfl ?_
    refine XS.ifnonnullYes X0.here hx rfl (pc0 := 1) (pc' := 12) rfl (hb hby d21_1) rfl (by decide) (by decide) ?_
    refine XS.aloadN X0.here hx rfl (hb hby d21_12) rfl rfl ?_
    refine X0.arraylength hx (by rw [e0]; exact Ar1.1) (State.isArrayOf_alike hZ.alike Ar1.2.1) (g := (mkF m 13 #[rv a1, rv sb1, rv al, .unset, .unset, .unset, .unset, .unset, .unset] [(.ref sb1)])) rfl rfl (hb hby d21_13) _ ?_
    rw [len_of S1 M1]
    refine XS.istore X0.here hx rfl (hb hby d21_14) rfl (l' := #[rv a1, rv sb1, rv al, .unset, iv 2, .unset, .unset, .unset, .unset]) rfl ?_
    refine XS.iconst X0.here hx rfl (hb hby d21_16) ?_
    show own_S p e below s₁ (mkF m 17 #[rv a1, rv sb1, rv al, .unset, iv 2, .unset, .unset, .unset, .unset] [(.int 0)]) _
    refine XS.istoreN X0.here hx rfl (hb hby d21_17) rfl (l' := #[rv a1, rv sb1, rv al, iv 0, iv 2, .unset, .unset, .unset, .unset]) rfl ?_
    refine XS.iloadN X0.here hx rfl (hb hby d21_18) rfl ?_
    refine XS.iload X0.here hx rfl (hb hby d21_19) rfl ?_
    refine XS.icmpNo X0.here hx rfl (hb hby d21_21) rfl (tlt (by decide)).2.1 ?_
    refine XS.aloadN X0.here hx rfl (hb hby d21_24) rfl rfl ?_
    refine XS.iloadN X0.here hx rfl (hb hby d21_25) rfl ?_
    show own_S p e below s₁ (mkF m 26 #[rv a1, rv sb1, rv al, iv 0, iv 2, .unset, .unset, .unset, .unset] [(.int 0), (.ref sb1)]) _
    refine X0.baloadBytes hx (j := (0 : Int32)) (v := (.int x0)) (by rw [e0]; exact Ar2.1) (State.isArrayOf_alike hZ.alike Ar2.2.1) Ar2.2.2 (inb_of S2 ⟨by decide, by decide⟩) (Has.at H2 (inb_of S2 ⟨by decide, by decide⟩) rfl) (g := (mkF m 26 #[rv a1, rv sb1, rv al, iv 0, iv 2, .unset, .unset, .unset, .unset] [(.int 0), (.ref sb1)])) rfl rfl (hb hby d21_26) _ ?_
    refine XS.sipush X0.here hx rfl (hb hby d21_27) ?_
    refine XS.iand X0.here hx rfl (hb hby d21_30) rfl ?_
    refine XS.istore X0.here hx rfl (hb hby d21_31) rfl (l' := #[rv a1, rv sb1, rv al, iv 0, iv 2, iv (x0 &&& (255 : Int32)), .unset, .unset, .unset]) rfl ?_
    refine XS.iload X0.here hx rfl (hb hby d21_33) rfl ?_
    exact k
  obtain ⟨T3, X3, e3, st3⟩ := getS2 X0 hx hZ hown (host := "") (Or.inl (ow hw 184 rfl)) Via.refl e0 (S_I.ext O0.2) (g := (mkF m 35 #[rv a1, rv sb1, rv al, iv 0, iv 2, iv (x0 &&& (255 : Int32)), .unset, .unset, .unset] [(.int (x0 &&& (255 : Int32)))])) rfl (hb hby d21_35)
  refine og (B := T3.setTop (mkF m 38 #[rv a1, rv sb1, rv al, iv 0, iv 2, iv (x0 &&& (255 : Int32)), .unset, .unset, .unset] [(.ref ci), (.int (x0 &&& (255 : Int32)))])) st3 ?_
  refine og (B := T3.setTop (mkF m 40 #[rv a1, rv sb1, rv al, iv 0, iv 2, iv (x0 &&& (255 : Int32)), .unset, .unset, .unset] [(.int (x0 &&& (255 : Int32))), (.ref ci), (.int (x0 &&& (255 : Int32)))])) (fun t k => ?_) ?_
  · refine XS.iload X3.here hx rfl (hb hby d21_38) rfl ?_
    exact k
  obtain ⟨cq4, kq4, q4a, q4b, q4c⟩ := isOf hZ e3 (E_ci.ext O0.2)
  obtain ⟨_, _, ⟨T4, L4, k4, n4⟩, -, X4, ⟨Lc4, hQ4, l4, y4, z4⟩, st4⟩ := X3.virtualBack hx (y := own_y31) (z := own_y31) hown (mvT hZ (ow hw 186 rfl)) (mvT hZ (ow hw 187 rfl)) (notFace_of_selects (args := #[]) (mvT hZ (ow hw 189 rfl))) (mvT hZ (ow hw 189 rfl)) (mvT hZ (ow hw 188 rfl)) (by decide) (backOf (W := 1) (rm37 l Z a0 hw [] ci (x0 &&& (255 : Int32)) h0 n0 Z0) hZ (ow hw 190 rfl) (ow hw 185 rfl) (by decide) (by decide)) q4a q4c (g := (mkF m 40 #[rv a1, rv sb1, rv al, iv 0, iv 2, iv (x0 &&& (255 : Int32)), .unset, .unset, .unset] [(.int (x0 &&& (255 : Int32))), (.ref ci), (.int (x0 &&& (255 : Int32)))])) rfl (by rw [hml]; rfl) (Steps.refl _) (argsL := [(.int (x0 &&& (255 : Int32)))]) (rest := [(.int (x0 &&& (255 : Int32)))]) (lenOf own_pd21 rfl) rfl (Nat.le_refl _) (hb hby d21_40) (fun _ _ => ⟨rfl, e3, (by decide : 0 + 0 ≤ _), (by decide : 0 + 0 ≤ _)⟩)
  dsimp only [Pt.U, Pt.locs, Pt.cells, Pt.slots] at X4 l4 y4 z4 st4 hQ4
  subst l4 y4 z4
  obtain ⟨rfl, N4q, eq4⟩ := hQ4
  have N4 := Fr.app N0 N4q
  refine og (B := T4.setTop (mkF m 43 #[rv a1, rv sb1, rv al, iv 0, iv 2, iv (x0 &&& (255 : Int32)), .unset, .unset, .unset] [(.int (own_low (x0 &&& (255 : Int32)))), (.int (x0 &&& (255 : Int32)))])) (fun _ => st4.trans) ?_
  by_cases hc43_5 : (x0 &&& (255 : Int32)) = (own_low (x0 &&& (255 : Int32)))
  · obtain ⟨cl6, Ar6, qk6, S6, M6, H6, G6⟩ := id V_b
    refine og (B := T4.setTop (mkF m 35 #[rv a1, rv sb1, rv al, iv 1, iv 2, iv (x1 &&& (255 : Int32)), .unset, .unset, .unset] [(.int (x1 &&& (255 : Int32)))])) (fun t k => ?_) ?_
    · refine XS.icmpYes X4.here hx rfl (pc0 := 43) (pc' := 49) rfl (hb hby d21_43) rfl (teq hc43_5).1 (by decide) (by decide) ?_
      refine XS.iinc X4.here hx rfl (hb hby d21_49) rfl (l' := #[rv a1, rv sb1, rv al, iv 1, iv 2, iv (x0 &&& (255 : Int32)), .unset, .unset, .unset]) rfl ?_
      refine XS.goto X4.here hx rfl (pc0 := 52) (pc' := 18) rfl (hb hby d21_52) (by decide) (by decide) ?_
      refine XS.iloadN X4.here hx rfl (hb hby d21_18) rfl ?_
      refine XS.iload X4.here hx rfl (hb hby d21_19) rfl ?_
      refine XS.icmpNo X4.here hx rfl (hb hby d21_21) rfl (tlt (by decide)).2.1 ?_
      show own_S p e below T4 (mkF m 24 #[rv a1, rv sb1, rv al, iv 1, iv 2, iv (x0 &&& (255 : Int32)), .unset, .unset, .unset] []) _
      refine XS.aloadN X4.here hx rfl (hb hby d21_24) rfl rfl ?_
      refine XS.iloadN X4.here hx rfl (hb hby d21_25) rfl ?_
      refine X4.baloadBytes hx (j := (1 : Int32)) (v := (.int x1)) (by rw [eq4]; exact Ar6.1) (State.isArrayOf_alike hZ.alike Ar6.2.1) Ar6.2.2 (inb_of S6 ⟨by decide, by decide⟩) (Has.at H6 (inb_of S6 ⟨by decide, by decide⟩) rfl) (g := (mkF m 26 #[rv a1, rv sb1, rv al, iv 1, iv 2, iv (x0 &&& (255 : Int32)), .unset, .unset, .unset] [(.int 1), (.ref sb1)])) rfl rfl (hb hby d21_26) _ ?_
      refine XS.sipush X4.here hx rfl (hb hby d21_27) ?_
      refine XS.iand X4.here hx rfl (hb hby d21_30) rfl ?_
      refine XS.istore X4.here hx rfl (hb hby d21_31) rfl (l' := #[rv a1, rv sb1, rv al, iv 1, iv 2, iv (x1 &&& (255 : Int32)), .unset, .unset, .unset]) rfl ?_
      show own_S p e below T4 (mkF m 33 #[rv a1, rv sb1, rv al, iv 1, iv 2, iv (x1 &&& (255 : Int32)), .unset, .unset, .unset] []) _
      refine XS.iload X4.here hx rfl (hb hby d21_33) rfl ?_
      exact k
    obtain ⟨T7, X7, e7, st7⟩ := getS2 X4 hx hZ hown (host := "") (Or.inl (ow hw 184 rfl)) Via.refl eq4 (S_I.ext O0.2) (g := (mkF m 35 #[rv a1, rv sb1, rv al, iv 1, iv 2, iv (x1 &&& (255 : Int32)), .unset, .unset, .unset] [(.int (x1 &&& (255 : Int32)))])) rfl (hb hby d21_35)
    refine og (B := T7.setTop (mkF m 38 #[rv a1, rv sb1, rv al, iv 1, iv 2, iv (x1 &&& (255 : Int32)), .unset, .unset, .unset] [(.ref ci), (.int (x1 &&& (255 : Int32)))])) st7 ?_
    refine og (B := T7.setTop (mkF m 40 #[rv a1, rv sb1, rv al, iv 1, iv 2, iv (x1 &&& (255 : Int32)), .unset, .unset, .unset] [(.int (x1 &&& (255 : Int32))), (.ref ci), (.int (x1 &&& (255 : Int32)))])) (fun t k => ?_) ?_
    · refine XS.iload X7.here hx rfl (hb hby d21_38) rfl ?_
      exact k
    obtain ⟨cq8, kq8, q8a, q8b, q8c⟩ := isOf hZ e7 (E_ci.ext O0.2)
    obtain ⟨_, _, ⟨T8, L8, k8, n8⟩, -, X8, ⟨Lc8, hQ8, l8, y8, z8⟩, st8⟩ := X7.virtualBack hx (y := own_y31) (z := own_y31) hown (mvT hZ (ow hw 186 rfl)) (mvT hZ (ow hw 187 rfl)) (notFace_of_selects (args := #[]) (mvT hZ (ow hw 189 rfl))) (mvT hZ (ow hw 189 rfl)) (mvT hZ (ow hw 188 rfl)) (by decide) (backOf (W := 1) (rm37 l Z a0 hw [] ci (x1 &&& (255 : Int32)) h0 n0 Z0) hZ (ow hw 190 rfl) (ow hw 185 rfl) (by decide) (by decide)) q8a q8c (g := (mkF m 40 #[rv a1, rv sb1, rv al, iv 1, iv 2, iv (x1 &&& (255 : Int32)), .unset, .unset, .unset] [(.int (x1 &&& (255 : Int32))), (.ref ci), (.int (x1 &&& (255 : Int32)))])) rfl (by rw [hml]; rfl) (Steps.refl _) (argsL := [(.int (x1 &&& (255 : Int32)))]) (rest := [(.int (x1 &&& (255 : Int32)))]) (lenOf own_pd21 rfl) rfl (Nat.le_refl _) (hb hby d21_40) (fun _ _ => ⟨rfl, e7, (by decide : 0 + 0 ≤ _), (by decide : 0 + 0 ≤ _)⟩)
    dsimp only [Pt.U, Pt.locs, Pt.cells, Pt.slots] at X8 l8 y8 z8 st8 hQ8
    subst l8 y8 z8
    obtain ⟨rfl, N8q, eq8⟩ := hQ8
    have N8 := Fr.app N4 N8q
    refine og (B := T8.setTop (mkF m 43 #[rv a1, rv sb1, rv al, iv 1, iv 2, iv (x1 &&& (255 : Int32)), .unset, .unset, .unset] [(.int (own_low (x1 &&& (255 : Int32)))), (.int (x1 &&& (255 : Int32)))])) (fun _ => st8.trans) ?_
    by_cases hc43_9 : (x1 &&& (255 : Int32)) = (own_low (x1 &&& (255 : Int32)))
    · obtain ⟨fs, hr, hrun, hended, hRW⟩ := X8.leaveW hS (by rw [eq8]; exact (Nat.zero_le _)) (v := some (.ref a1)) (fun h => by rw [Bd.returns] at h; cases h)
      refine ⟨_, _, ?_, hrun, hended, _, _, rfl, ?_, (by have q := (CHr.refl hCH).trans (CHv.at X8 hZ (own_hEL hw) (CHr.refl hCH).1); show CHr Z consts_1 s.vm s.heap T8.vm T8.heap; rw [eq8, hh]; exact q), hRW.1, hRW.2.1, hRW.2.2.1, hRW.2.2.2.mono (by decide) (by decide)⟩
      · refine XS.icmpYes X8.here hx rfl (pc0 := 43) (pc' := 49) rfl (hb hby d21_43) rfl (teq hc43_9).1 (by decide) (by decide) ?_
        refine XS.iinc X8.here hx rfl (hb hby d21_49) rfl (l' := #[rv a1, rv sb1, rv al, iv 2, iv 2, iv (x1 &&& (255 : Int32)), .unset, .unset, .unset]) rfl ?_
        refine XS.goto X8.here hx rfl (pc0 := 52) (pc' := 18) rfl (hb hby d21_52) (by decide) (by decide) ?_
        refine XS.iloadN X8.here hx rfl (hb hby d21_18) rfl ?_
        refine XS.iload X8.here hx rfl (hb hby d21_19) rfl ?_
        refine XS.icmpYes X8.here hx rfl (pc0 := 21) (pc' := 55) rfl (hb hby d21_21) rfl (flt (by decide)).2.1 (by decide) (by decide) ?_
        show own_S p e below T8 (mkF m 55 #[rv a1, rv sb1, rv al, iv 2, iv 2, iv (x1 &&& (255 : Int32)), .unset, .unset, .unset] []) _
        refine XS.iloadN X8.here hx rfl (hb hby d21_55) rfl ?_
        refine XS.iload X8.here hx rfl (hb hby d21_56) rfl ?_
        refine XS.icmpNo X8.here hx rfl (hb hby d21_58) rfl (teq (by decide)).2 ?_
        refine XS.aloadN X8.here hx rfl (hb hby d21_61) rfl rfl ?_
        show own_S p e below T8 (mkF m 62 #[rv a1, rv sb1, rv al, iv 2, iv 2, iv (x1 &&& (255 : Int32)), .unset, .unset, .unset] [(.ref a1)]) _
        jvm_step X8.here [X8.here.top, hx, (hb hby d21_62), X8.method', Bd.returns, Value.isRef, FieldType.isReference]
        first | (intro acts; rw [hr _ acts rfl rfl rfl]) | rw [hr _ _ rfl rfl rfl]
        exact Steps.refl _
      · show Q21_2 Z a1 sb1 kb x0 x1 GC ci al ab ag agv h0 n0 _ T8.heap _
        rw [eq8]
        exact ⟨a1, sb1, kb, x0, x1, rfl, N8, (Keep.refl h0 []), E_a1, F_c, F_v, V_b, Or.inl rfl, Or.inl rfl, hc43_5, hc43_9, trivial⟩
    · refine og (B := T8.setTop (mkF m 63 #[rv a1, rv sb1, rv al, iv 1, iv 2, iv (x1 &&& (255 : Int32)), .unset, .unset, .unset] [])) (fun t k => ?_) ?_
      · refine XS.icmpNo X8.here hx rfl (hb hby d21_43) rfl (feq hc43_9).1 ?_
        refine XS.goto X8.here hx rfl (pc0 := 46) (pc' := 55) rfl (hb hby d21_46) (by decide) (by decide) ?_
        refine XS.iloadN X8.here hx rfl (hb hby d21_55) rfl ?_
        refine XS.iload X8.here hx rfl (hb hby d21_56) rfl ?_
        refine XS.icmpYes X8.here hx rfl (pc0 := 58) (pc' := 63) rfl (hb hby d21_58) rfl (feq (by decide)).2 (by decide) (by decide) ?_
        exact k
      refine og (B := T8.setTop (mkF m 64 #[rv a1, rv sb1, rv al, iv 1, iv 2, iv (x1 &&& (255 : Int32)), .unset, .unset, .unset] [(.ref al)])) (fun t k => ?_) ?_
      · refine XS.aloadN X8.here hx rfl (hb hby d21_63) rfl rfl ?_
        exact k
      obtain ⟨cq10, kq10, q10a, q10b, q10c⟩ := isOf hZ eq8 (E_al.ext O0.2)
      obtain ⟨_, _, ⟨T10, L10, k10, n10⟩, -, X10, ⟨Lc10, hQ10, l10, y10, z10⟩, st10⟩ := X8.virtualBack hx (y := own_y34) (z := own_y34) hown (mvT hZ (ow hw 194 rfl)) (mvT hZ (ow hw 195 rfl)) (notFace_of_selects (args := #[]) (mvT hZ (ow hw 197 rfl))) (mvT hZ (ow hw 197 rfl)) (mvT hZ (ow hw 196 rfl)) (by decide) (backOf (W := 0) (rm39 l Z a0 hw [] al ab ag h0 n0 Z0 (F_ab.ext O0.2) (E_ab.ext O0.2) (F_ag.ext O0.2)) hZ (ow hw 198 rfl) (ow hw 107 rfl) (by decide) (by decide)) q10a q10c (g := (mkF m 64 #[rv a1, rv sb1, rv al, iv 1, iv 2, iv (x1 &&& (255 : Int32)), .unset, .unset, .unset] [(.ref al)])) rfl (by rw [hml]; rfl) (Steps.refl _) (argsL := []) (rest := []) (lenOf own_pd20 rfl) rfl (Nat.le_refl _) (hb hby d21_64) (fun _ _ => ⟨rfl, eq8, (by decide : 0 + 0 ≤ _), (by decide : 0 + 0 ≤ _)⟩)
      dsimp only [Pt.U, Pt.locs, Pt.cells, Pt.slots] at X10 l10 y10 z10 st10 hQ10
      subst l10 y10 z10
      obtain ⟨rfl, N10q, eq10⟩ := hQ10
      have N10 := Fr.app N8 N10q
      refine og (B := T10.setTop (mkF m 67 #[rv a1, rv sb1, rv al, iv 1, iv 2, iv (x1 &&& (255 : Int32)), .unset, .unset, .unset] [(.ref ag)])) (fun _ => st10.trans) ?_
      refine og (B := T10.setTop (mkF m 71 #[rv a1, rv sb1, rv al, iv 1, iv 2, rv ag, .unset, .unset, .unset] [(.ref ag)])) (fun t k => ?_) ?_
      · refine XS.astore X10.here hx rfl (hb hby d21_67) rfl rfl (l' := #[rv a1, rv sb1, rv al, iv 1, iv 2, rv ag, .unset, .unset, .unset]) rfl ?_
        refine XS.aload X10.here hx rfl (hb hby d21_69) rfl rfl ?_
        exact k
      obtain ⟨as11, T11, h11, kk11, bs11, ks11, X11, e11, E11, hS, hk11, hZ, hown, LE11, LC11, LV11, LA11, la11, lb11, hC11, hL11, hSf11, st11⟩ := ldcCH (EL := consts_1) X10 hx hZ hown (ow hw 209 rfl) (own_wS hw) eq10 hS (Nat.zero_le _) (own_hEL hw) (by decide) (CHr.refl hCH).1 (z := (2 : Int32)) own_httr (by decide) rfl (g := (mkF m 71 #[rv a1, rv sb1, rv al, iv 1, iv 2, rv ag, .unset, .unset, .unset] [(.ref ag)])) rfl (hb hby d21_71) (n := 8) (by decide) (by decide) (by decide) (by decide)
      have Ch11 := (CHr.refl hCH).trans hC11
      have c11_V_sb1 := V_b.ext E11
      have K11 := (Keep.refl h0 []).ext E11
      have O11 := O0.ext E11
      refine og (B := T11.setTop (mkF m 73 #[rv a1, rv sb1, rv al, iv 1, iv 2, rv ag, .unset, .unset, .unset] [(.ref as11), (.ref ag)])) st11 ?_
      refine og (B := T11.setTop (mkF m 76 #[rv a1, rv sb1, rv al, iv 1, iv 2, rv ag, .unset, .unset, .unset] [])) (fun t k => ?_) ?_
      · refine Jvm.RoadKit.acmp (g := (mkF m 73 #[rv a1, rv sb1, rv al, iv 1, iv 2, rv ag, .unset, .unset, .unset] [(.ref as11), (.ref ag)])) X11 hx rfl rfl rfl (pc0 := 73) (pc' := 76) (same := false) rfl (hb hby d21_73) rfl (decide_eq_false fun q => (own_lne (F_gv.ext O11.2) (V_gv.ext O11.2) LV11 LA11) (Value.ref.inj q)) (by decide) (by decide) ?_
        exact k
      refine og (B := T11.setTop (mkF m 78 #[rv a1, rv sb1, rv al, iv 1, iv 2, rv ag, .unset, .unset, .unset] [(.ref ag)])) (fun t k => ?_) ?_
      · refine XS.aload X11.here hx rfl (hb hby d21_76) rfl rfl ?_
        exact k
      obtain ⟨as12, T12, h12, kk12, bs12, ks12, X12, e12, E12, hS, hk12, hZ, hown, LE12, LC12, LV12, LA12, la12, lb12, hC12, hL12, hSf12, st12⟩ := ldcCH (EL := consts_1) X11 hx hZ hown (ow hw 210 rfl) (own_wS hw) e11 hS hk11 (own_hEL hw) (by decide) (Ch11).1 (z := (2 : Int32)) own_htaz (by decide) rfl (g := (mkF m 78 #[rv a1, rv sb1, rv al, iv 1, iv 2, rv ag, .unset, .unset, .unset] [(.ref ag)])) rfl (hb hby d21_78) (n := 8) (by decide) (by decide) (by decide) (by decide)
      have Ch12 := (Ch11).trans hC12
      have c12_V_sb1 := c11_V_sb1.ext E12
      have K12 := K11.ext E12
      have O12 := O11.ext E12
      have zs12 := (Nat.le_trans (Nat.le_trans Z0 E11.1) E12.1)
      refine og (B := T12.setTop (mkF m 80 #[rv a1, rv sb1, rv al, iv 1, iv 2, rv ag, .unset, .unset, .unset] [(.ref as12), (.ref ag)])) st12 ?_
      refine og (B := T12.setTop (mkF m 83 #[rv a1, rv sb1, rv al, iv 1, iv 2, rv ag, .unset, .unset, .unset] [])) (fun t k => ?_) ?_
      · refine Jvm.RoadKit.acmp (g := (mkF m 80 #[rv a1, rv sb1, rv al, iv 1, iv 2, rv ag, .unset, .unset, .unset] [(.ref as12), (.ref ag)])) X12 hx rfl rfl rfl (pc0 := 80) (pc' := 83) (same := false) rfl (hb hby d21_80) rfl (decide_eq_false fun q => (own_lne (F_gv.ext O12.2) (V_gv.ext O12.2) LV12 LA12) (Value.ref.inj q)) (by decide) (by decide) ?_
        exact k
      refine og (B := T12.setTop (mkF m 85 #[rv a1, rv sb1, rv al, iv 1, iv 2, rv ag, .unset, .unset, .unset] [(.ref ag)])) (fun t k => ?_) ?_
      · refine XS.aload X12.here hx rfl (hb hby d21_83) rfl rfl ?_
        exact k
      obtain ⟨as13, T13, h13, kk13, bs13, ks13, X13, e13, E13, hS, hk13, hZ, hown, LE13, LC13, LV13, LA13, la13, lb13, hC13, hL13, hSf13, st13⟩ := ldcCH (EL := consts_1) X12 hx hZ hown (ow hw 211 rfl) (own_wS hw) e12 hS hk12 (own_hEL hw) (by decide) (Ch12).1 (z := (2 : Int32)) own_htlt (by decide) rfl (g := (mkF m 85 #[rv a1, rv sb1, rv al, iv 1, iv 2, rv ag, .unset, .unset, .unset] [(.ref ag)])) rfl (hb hby d21_85) (n := 8) (by decide) (by decide) (by decide) (by decide)
      have Ch13 := (Ch12).trans hC13
      have c13_V_sb1 := c12_V_sb1.ext E13
      have K13 := K12.ext E13
      have O13 := O12.ext E13
      refine og (B := T13.setTop (mkF m 87 #[rv a1, rv sb1, rv al, iv 1, iv 2, rv ag, .unset, .unset, .unset] [(.ref as13), (.ref ag)])) st13 ?_
      refine og (B := T13.setTop (mkF m 99 #[rv a1, rv sb1, rv al, iv 1, iv 2, rv ag, .unset, .unset, .unset] [])) (fun t k => ?_) ?_
      · refine Jvm.RoadKit.acmp (g := (mkF m 87 #[rv a1, rv sb1, rv al, iv 1, iv 2, rv ag, .unset, .unset, .unset] [(.ref as13), (.ref ag)])) X13 hx rfl rfl rfl (pc0 := 87) (pc' := 99) (same := false) rfl (hb hby d21_87) rfl (decide_eq_false fun q => (own_lne (F_gv.ext O13.2) (V_gv.ext O13.2) LV13 LA13) (Value.ref.inj q)) (by decide) (by decide) ?_
        exact k
      refine og (B := T13.setTop (mkF m 101 #[rv a1, rv sb1, rv al, iv 1, iv 2, rv ag, .unset, .unset, .unset] [(.int 2)])) (fun t k => ?_) ?_
      · refine XS.iload X13.here hx rfl (hb hby d21_99) rfl ?_
        exact k
      obtain ⟨T14, h14, k14, X14, e14, E14, A14, st14⟩ := newP X13 hx hZ (ow hw 19 rfl) e13 (g := (mkF m 101 #[rv a1, rv sb1, rv al, iv 1, iv 2, rv ag, .unset, .unset, .unset] [(.int 2)])) rfl (hb hby d21_101) rfl (by decide) (cap := 2) (by decide) (by decide) (by decide) (by decide)
      obtain ⟨b14, g14⟩ : ∃ z, z = h13.size := ⟨_, rfl⟩
      rw [← g14] at A14 st14
      have g_b14 : n0 ≤ b14 := Nat.le_trans (Nat.le_trans zs12 E13.1) (Nat.le_of_eq g14.symm)
      have sz_b14 : h0.size ≤ b14 := Nat.le_trans K13.1 (Nat.le_of_eq g14.symm)
      have sy_b14 : h13.size ≤ b14 := Nat.le_trans (Keep.refl h13 []).1 (Nat.le_of_eq g14.symm)
      have ne_sb1_b14 : sb1 ≠ b14 := Nat.ne_of_lt (Nat.lt_of_lt_of_le c13_V_sb1.lt (Nat.le_of_eq g14.symm))
      have c14_V_sb1 := c13_V_sb1.ext E14
      have K14 := K13.ext E14
      have J14 := (Keep.refl h13 []).ext E14
      have O14 := O13.ext E14
      have V14 : Arv Z h14 b14 k14 .byte (2 : Int32) [(.int 0), (.int 0)] (.int 0) := (Arv.new A14 (by decide)).pad (pad_rep [] (.int 0) 2)
      have zs14 := (Nat.le_trans (Nat.le_trans zs12 E13.1) E14.1)
      refine og (B := T14.setTop (mkF m 103 #[rv a1, rv sb1, rv al, iv 1, iv 2, rv ag, .unset, .unset, .unset] [(.ref b14)])) st14 ?_
      refine og (B := T14.setTop (mkF m 111 #[rv a1, rv sb1, rv al, iv 1, iv 2, rv ag, rv b14, .unset, .unset] [(.int 1), (.int 0), (.ref b14), (.int 0), (.ref sb1)])) (fun t k => ?_) ?_
      · refine XS.astore X14.here hx rfl (hb hby d21_103) rfl rfl (l' := #[rv a1, rv sb1, rv al, iv 1, iv 2, rv ag, rv b14, .unset, .unset]) rfl ?_
        refine XS.aloadN X14.here hx rfl (hb hby d21_105) rfl rfl ?_
        refine XS.iconst X14.here hx rfl (hb hby d21_106) ?_
        refine XS.aload X14.here hx rfl (hb hby d21_107) rfl rfl ?_
        refine XS.iconst X14.here hx rfl (hb hby d21_109) ?_
        refine XS.iloadN X14.here hx rfl (hb hby d21_110) rfl ?_
        exact k
      obtain ⟨T15, h15, L15, X15, e15, N15, K15q, V15q, st15⟩ := cpA X14 hx hZ hown (ow hw 212 rfl) (ow hw 105 rfl) (ow hw 103 rfl) (ow hw 104 rfl) e14 c14_V_sb1 V14 (us := [(.int x0)]) (Or.inl ⟨rfl, rfl⟩) (by decide) (by decide) (by decide) (by decide) (by decide) rfl (Nat.le_of_ble_eq_true rfl) N10 g_b14 (g := (mkF m 111 #[rv a1, rv sb1, rv al, iv 1, iv 2, rv ag, rv b14, .unset, .unset] [(.int 1), (.int 0), (.ref b14), (.int 0), (.ref sb1)])) rfl (by rw [hml]; rfl) (rest := []) rfl (hb hby d21_111) (by decide) (W := 0) (Nat.le_refl _) (by decide)
      have V15 : Arv Z h15 b14 k14 .byte (2 : Int32) [(.int x0), (.int 0)] (.int 0) := V15q
      have c15_V_sb1 := c14_V_sb1.keep K15q (fun q => ne_sb1_b14 (List.mem_singleton.mp q))
      have O15 := O14.keep K15q (allS g_b14 all0)
      have K15 := K14.trans K15q (allS (Or.inr sz_b14) all0)
      have J15 := J14.trans K15q (allS (Or.inr sy_b14) all0)
      have zk15 := (Nat.le_trans (Nat.le_trans hk13 E14.1) K15q.1)
      refine og (B := T15.setTop (mkF m 114 #[rv a1, rv sb1, rv al, iv 1, iv 2, rv ag, rv b14, .unset, .unset] [])) st15 ?_
      obtain ⟨cl16, Ar16, qk16, S16, M16, H16, G16⟩ := id c15_V_sb1
      refine og (B := T15.setTop (mkF m 134 #[rv a1, rv sb1, rv al, iv 1, iv 2, rv ag, rv b14, iv 1, iv (x1 &&& (255 : Int32))] [])) (fun t k => ?_) ?_
      · refine XS.iloadN X15.here hx rfl (hb hby d21_114) rfl ?_
        refine XS.istore X15.here hx rfl (hb hby d21_115) rfl (l' := #[rv a1, rv sb1, rv al, iv 1, iv 2, rv ag, rv b14, iv 1, .unset]) rfl ?_
        refine XS.iload X15.here hx rfl (hb hby d21_117) rfl ?_
        refine XS.iload X15.here hx rfl (hb hby d21_119) rfl ?_
        refine XS.icmpNo X15.here hx rfl (hb hby d21_121) rfl (tlt (by decide)).2.1 ?_
        refine XS.aloadN X15.here hx rfl (hb hby d21_124) rfl rfl ?_
        show own_S p e below T15 (mkF m 125 #[rv a1, rv sb1, rv al, iv 1, iv 2, rv ag, rv b14, iv 1, .unset] [(.ref sb1)]) _
        refine XS.iload X15.here hx rfl (hb hby d21_125) rfl ?_
        refine X15.baloadBytes hx (j := (1 : Int32)) (v := (.int x1)) (by rw [e15]; exact Ar16.1) (State.isArrayOf_alike hZ.alike Ar16.2.1) Ar16.2.2 (inb_of S16 ⟨by decide, by decide⟩) (Has.at H16 (inb_of S16 ⟨by decide, by decide⟩) rfl) (g := (mkF m 127 #[rv a1, rv sb1, rv al, iv 1, iv 2, rv ag, rv b14, iv 1, .unset] [(.int 1), (.ref sb1)])) rfl rfl (hb hby d21_127) _ ?_
        refine XS.sipush X15.here hx rfl (hb hby d21_128) ?_
        refine XS.iand X15.here hx rfl (hb hby d21_131) rfl ?_
        refine XS.istore X15.here hx rfl (hb hby d21_132) rfl (l' := #[rv a1, rv sb1, rv al, iv 1, iv 2, rv ag, rv b14, iv 1, iv (x1 &&& (255 : Int32))]) rfl ?_
        exact k
      obtain ⟨T17, X17, e17, st17⟩ := getS2 X15 hx hZ hown (host := "") (Or.inl (ow hw 184 rfl)) Via.refl e15 (S_I.ext O15.2) (g := (mkF m 134 #[rv a1, rv sb1, rv al, iv 1, iv 2, rv ag, rv b14, iv 1, iv (x1 &&& (255 : Int32))] [])) rfl (hb hby d21_134)
      refine og (B := T17.setTop (mkF m 137 #[rv a1, rv sb1, rv al, iv 1, iv 2, rv ag, rv b14, iv 1, iv (x1 &&& (255 : Int32))] [(.ref ci)])) st17 ?_
      refine og (B := T17.setTop (mkF m 139 #[rv a1, rv sb1, rv al, iv 1, iv 2, rv ag, rv b14, iv 1, iv (x1 &&& (255 : Int32))] [(.int (x1 &&& (255 : Int32))), (.ref ci)])) (fun t k => ?_) ?_
      · refine XS.iload X17.here hx rfl (hb hby d21_137) rfl ?_
        exact k
      obtain ⟨cq18, kq18, q18a, q18b, q18c⟩ := isOf hZ e17 (E_ci.ext O15.2)
      obtain ⟨_, _, ⟨T18, L18, k18, n18⟩, -, X18, ⟨Lc18, hQ18, l18, y18, z18⟩, st18⟩ := X17.virtualBack hx (y := own_y31) (z := own_y31) hown (mvT hZ (ow hw 186 rfl)) (mvT hZ (ow hw 187 rfl)) (notFace_of_selects (args := #[]) (mvT hZ (ow hw 189 rfl))) (mvT hZ (ow hw 189 rfl)) (mvT hZ (ow hw 188 rfl)) (by decide) (backOf (W := 0) (rm37 l Z a0 hw [] ci (x1 &&& (255 : Int32)) h15 n0 (Nat.le_trans zs14 K15q.1)) hZ (ow hw 190 rfl) (ow hw 185 rfl) (by decide) (by decide)) q18a q18c (g := (mkF m 139 #[rv a1, rv sb1, rv al, iv 1, iv 2, rv ag, rv b14, iv 1, iv (x1 &&& (255 : Int32))] [(.int (x1 &&& (255 : Int32))), (.ref ci)])) rfl (by rw [hml]; rfl) (Steps.refl _) (argsL := [(.int (x1 &&& (255 : Int32)))]) (rest := []) (lenOf own_pd21 rfl) rfl (Nat.le_refl _) (hb hby d21_139) (fun _ _ => ⟨rfl, e17, (by decide : 7 + 0 ≤ _), (by decide : 38 + 0 ≤ _)⟩)
      dsimp only [Pt.U, Pt.locs, Pt.cells, Pt.slots] at X18 l18 y18 z18 st18 hQ18
      subst l18 y18 z18
      obtain ⟨rfl, N18q, eq18⟩ := hQ18
      have N18 := Fr.app N15 N18q
      refine og (B := T18.setTop (mkF m 142 #[rv a1, rv sb1, rv al, iv 1, iv 2, rv ag, rv b14, iv 1, iv (x1 &&& (255 : Int32))] [(.int (own_low (x1 &&& (255 : Int32))))])) (fun _ => st18.trans) ?_
      refine og (B := T18.setTop (mkF m 146 #[rv a1, rv sb1, rv al, iv 1, iv 2, rv ag, rv b14, iv 1, iv (own_low (x1 &&& (255 : Int32)))] [(.int (own_low (x1 &&& (255 : Int32))))])) (fun t k => ?_) ?_
      · refine XS.istore X18.here hx rfl (hb hby d21_142) rfl (l' := #[rv a1, rv sb1, rv al, iv 1, iv 2, rv ag, rv b14, iv 1, iv (own_low (x1 &&& (255 : Int32)))]) rfl ?_
        refine XS.iload X18.here hx rfl (hb hby d21_144) rfl ?_
        exact k
      obtain ⟨_, _, ⟨T19, L19, k19, n19⟩, -, X19, ⟨Lc19, hQ19, l19, y19, z19⟩, st19⟩ := Jvm.LawKit.callS X18 hx (y := own_y32) hown (mvT hZ (ow hw 213 rfl)) (mvT hZ (ow hw 214 rfl)) (mvT hZ (ow hw 120 rfl)) (mvT hZ (ow hw 215 rfl)) (by decide) (backOf (W := 0) (rm41 l Z a0 hw [] (own_low (x1 &&& (255 : Int32))) h15 n0 (Nat.le_trans zs14 K15q.1) (own_lr _).1 (own_lr _).2) hZ (ow hw 215 rfl) (ow hw 120 rfl) (by decide) (by decide)) (g := (mkF m 146 #[rv a1, rv sb1, rv al, iv 1, iv 2, rv ag, rv b14, iv 1, iv (own_low (x1 &&& (255 : Int32)))] [(.int (own_low (x1 &&& (255 : Int32))))])) rfl (by rw [hml]; rfl) (argsL := [(.int (own_low (x1 &&& (255 : Int32))))]) (rest := []) (lenOf own_pd22 rfl) rfl (Nat.le_refl _) (hb hby d21_146) (fun _ _ => ⟨rfl, eq18, (by decide : 7 + 0 ≤ _), (by decide : 38 + 0 ≤ _)⟩)
      dsimp only [Pt.U, Pt.locs, Pt.cells, Pt.slots] at X19 l19 y19 z19 st19 hQ19
      subst l19 y19 z19
      obtain ⟨rfl, N19q, eq19⟩ := hQ19
      have N19 := Fr.app N18 N19q
      refine og (B := T19.setTop (mkF m 149 #[rv a1, rv sb1, rv al, iv 1, iv 2, rv ag, rv b14, iv 1, iv (own_low (x1 &&& (255 : Int32)))] [(.int 1)])) st19 ?_
      refine og (B := T19.setTop (mkF m 168 #[rv a1, rv sb1, rv al, iv 1, iv 2, rv ag, rv b14, iv 1, iv (own_low (x1 &&& (255 : Int32)))] [(.int ((own_low (x1 &&& (255 : Int32))).toInt8.toInt32)), (.int 1), (.ref b14)])) (fun t k => ?_) ?_
      · refine XS.ifYes X19.here hx rfl (pc0 := 149) (pc' := 161) rfl (hb hby d21_149) rfl ((if0 _ _).trans (feq (by decide)).2) (by decide) (by decide) ?_
        refine XS.aload X19.here hx rfl (hb hby d21_161) rfl rfl ?_
        refine XS.iload X19.here hx rfl (hb hby d21_163) rfl ?_
        refine XS.iload X19.here hx rfl (hb hby d21_165) rfl ?_
        refine XS.i2b X19.here hx rfl (hb hby d21_167) rfl ?_
        exact k
      obtain ⟨cl20, Ar20, qk20, S20, M20, H20, G20⟩ := id V15
      obtain ⟨T20, h20, X20, e20, W20, st20⟩ := stB X19 hx hZ eq19 Ar20 (j := (1 : Int32)) (inb_of S20 ⟨by decide, by decide⟩) (g := (mkF m 168 #[rv a1, rv sb1, rv al, iv 1, iv 2, rv ag, rv b14, iv 1, iv (own_low (x1 &&& (255 : Int32)))] [(.int ((own_low (x1 &&& (255 : Int32))).toInt8.toInt32)), (.int 1), (.ref b14)])) rfl rfl (hb hby d21_168)
      have V20 : Arv Z h20 b14 k14 .byte (2 : Int32) [(.int x0), (.int (nar .byte ((own_low (x1 &&& (255 : Int32))).toInt8.toInt32)))] (.int 0) := Arv.set Ar20 qk20 S20 M20 H20 G20 (fits_nar_byte _) W20 1 rfl (Nat.le_of_ble_eq_true rfl)
      have c20_V_sb1 := c15_V_sb1.other W20 ne_sb1_b14
      have K20 := K15.wr W20 (Or.inr sz_b14)
      have J20 := J15.wr W20 (Or.inr sy_b14)
      have O20 := O15.wr W20 g_b14
      have N20 := Fr.snoc X20 N19 g_b14
      have zs20 := (Nat.le_trans (Nat.le_trans zs14 K15q.1) (Keep.of_wr W20).1)
      have zk20 := (Nat.le_trans zk15 (Keep.of_wr W20).1)
      refine og (B := T20.setTop (mkF m 169 #[rv a1, rv sb1, rv al, iv 1, iv 2, rv ag, rv b14, iv 1, iv (own_low (x1 &&& (255 : Int32)))] [])) st20 ?_
      refine og (B := T20.setTop (mkF m 175 #[rv a1, rv sb1, rv al, iv 1, iv 2, rv ag, rv b14, iv 2, iv (own_low (x1 &&& (255 : Int32)))] [])) (fun t k => ?_) ?_
      · refine XS.iinc X20.here hx rfl (hb hby d21_169) rfl (l' := #[rv a1, rv sb1, rv al, iv 1, iv 2, rv ag, rv b14, iv 2, iv (own_low (x1 &&& (255 : Int32)))]) rfl ?_
        refine XS.goto X20.here hx rfl (pc0 := 172) (pc' := 117) rfl (hb hby d21_172) (by decide) (by decide) ?_
        refine XS.iload X20.here hx rfl (hb hby d21_117) rfl ?_
        refine XS.iload X20.here hx rfl (hb hby d21_119) rfl ?_
        refine XS.icmpYes X20.here hx rfl (pc0 := 121) (pc' := 175) rfl (hb hby d21_121) rfl (flt (by decide)).2.1 (by decide) (by decide) ?_
        exact k
      obtain ⟨T21, h21, X21, e21, E21, A21, D21, -, st21⟩ := newO X20 hx hZ hown (ow hw 216 rfl) (ow hw 1 rfl) (ow hw 2 rfl) e20 (g := (mkF m 175 #[rv a1, rv sb1, rv al, iv 1, iv 2, rv ag, rv b14, iv 2, iv (own_low (x1 &&& (255 : Int32)))] [])) rfl (hb hby d21_175) (by decide) (by decide)
      obtain ⟨b21, g21⟩ : ∃ z, z = h20.size := ⟨_, rfl⟩
      rw [← g21] at A21 D21 st21
      have g_b21 : n0 ≤ b21 := Nat.le_trans zs20 (Nat.le_of_eq g21.symm)
      have sz_b21 : h0.size ≤ b21 := Nat.le_trans K20.1 (Nat.le_of_eq g21.symm)
      have sy_b21 : h13.size ≤ b21 := Nat.le_trans J20.1 (Nat.le_of_eq g21.symm)
      have ne_sb1_b21 : sb1 ≠ b21 := Nat.ne_of_lt (Nat.lt_of_lt_of_le c20_V_sb1.lt (Nat.le_of_eq g21.symm))
      have ne_b14_b21 : b14 ≠ b21 := Nat.ne_of_lt (Nat.lt_of_lt_of_le V20.lt (Nat.le_of_eq g21.symm))
      have c21_V_sb1 := c20_V_sb1.ext E21
      have c21_V_b14 := V20.ext E21
      have K21 := K20.ext E21
      have J21 := J20.ext E21
      have O21 := O20.ext E21
      have F21_coder : Fld Z h21 b21 "java/lang/String" "coder" "B" (.int 0) := D21 (Or.inr (ow hw 27 rfl)) (ty := .byte) (by decide)
      have F21_value : Fld Z h21 b21 "java/lang/String" "value" "[B" .null := D21 (Or.inr (ow hw 29 rfl)) (ty := (.array .byte)) (by decide)
      refine og (B := T21.setTop (mkF m 178 #[rv a1, rv sb1, rv al, iv 1, iv 2, rv ag, rv b14, iv 2, iv (own_low (x1 &&& (255 : Int32)))] [(.ref b21)])) st21 ?_
      refine og (B := T21.setTop (mkF m 182 #[rv a1, rv sb1, rv al, iv 1, iv 2, rv ag, rv b14, iv 2, iv (own_low (x1 &&& (255 : Int32)))] [(.int 0), (.ref b14), (.ref b21), (.ref b21)])) (fun t k => ?_) ?_
      · refine XS.dup X21.here hx rfl (hb hby d21_178) rfl rfl ?_
        refine XS.aload X21.here hx rfl (hb hby d21_179) rfl rfl ?_
        refine XS.iconst X21.here hx rfl (hb hby d21_181) ?_
        exact k
      obtain ⟨_, _, ⟨T22, L22, k22, n22⟩, -, X22, ⟨Lc22, hQ22, l22, y22, z22⟩, st22⟩ := X21.specialBack hx (y := own_y35) rfl hown (mvT hZ (ow hw 217 rfl)) (mvT hZ (ow hw 218 rfl)) (mvT hZ (ow hw 219 rfl)) (by decide) (backOf (W := 1) (rm42 l Z a0 hw [] b21 b14 h21 n0 (Nat.le_trans zs20 E21.1) A21 g_b21 F21_value F21_coder) hZ (ow hw 219 rfl) (ow hw 2 rfl) (by decide) (by decide)) (g := (mkF m 182 #[rv a1, rv sb1, rv al, iv 1, iv 2, rv ag, rv b14, iv 2, iv (own_low (x1 &&& (255 : Int32)))] [(.int 0), (.ref b14), (.ref b21), (.ref b21)])) rfl (by rw [hml]; rfl) (Steps.refl _) (a := b21) (argsL := [(.ref b14), (.int 0)]) (rest := [(.ref b21)]) (lenOf own_pd23 rfl) rfl (Nat.le_refl _) (hb hby d21_182) (fun _ _ => ⟨rfl, e21, (by decide : 8 + 0 ≤ _), (by decide : 42 + 0 ≤ _)⟩)
      dsimp only [Pt.U, Pt.locs, Pt.cells, Pt.slots] at X22 l22 y22 z22 st22 hQ22
      subst l22 y22 z22
      obtain ⟨rfl, N22q, K22q, E22q, F22c, F22v⟩ := hQ22
      have N22 := Fr.app N20 N22q
      have c22_V_sb1 := c21_V_sb1.keep K22q (fun q => ne_sb1_b21 (List.mem_singleton.mp q))
      have c22_V_b14 := c21_V_b14.keep K22q (fun q => ne_b14_b21 (List.mem_singleton.mp q))
      have O22 := O21.keep K22q (allS g_b21 all0)
      have K22 := K21.trans K22q (allS (Or.inr sz_b21) all0)
      have J22 := J21.trans K22q (allS (Or.inr sy_b21) all0)
      have zs22 := (Nat.le_trans (Nat.le_trans zs20 E21.1) K22q.1)
      have zk22 := (Nat.le_trans (Nat.le_trans zk20 E21.1) K22q.1)
      refine og (B := T22.setTop (mkF m 185 #[rv a1, rv sb1, rv al, iv 1, iv 2, rv ag, rv b14, iv 2, iv (own_low (x1 &&& (255 : Int32)))] [(.ref b21)])) (fun _ => st22.trans) ?_
      obtain ⟨fs, hr, hrun, hended, hRW⟩ := X22.leaveW hS (zk22) (v := some (.ref b21)) (fun h => by rw [Bd.returns] at h; cases h)
      refine ⟨_, _, ?_, hrun, hended, _, _, rfl, ?_, (by have q := ((Ch13).trans (CHr.ext (own_ext J22) (Ch13).1)).trans (CHv.at X22 hZ (own_hEL hw) ((Ch13).trans (CHr.ext (own_ext J22) (Ch13).1)).1); rw [← hh] at q; exact q), hRW.1, hRW.2.1, hRW.2.2.1, hRW.2.2.2.mono (by decide) (by decide)⟩
      · show own_S p e below T22 (mkF m 185 #[rv a1, rv sb1, rv al, iv 1, iv 2, rv ag, rv b14, iv 2, iv (own_low (x1 &&& (255 : Int32)))] [(.ref b21)]) _
        jvm_step X22.here [X22.here.top, hx, (hb hby d21_185), X22.method', Bd.returns, Value.isRef, FieldType.isReference]
        first | (intro acts; rw [hr _ acts rfl rfl rfl]) | rw [hr _ _ rfl rfl rfl]
        exact Steps.refl _
      · show Q21_2 Z a1 sb1 kb x0 x1 GC ci al ab ag agv h0 n0 _ T22.heap _
        exact ⟨b21, b14, k14, x0, (nar .byte ((own_low (x1 &&& (255 : Int32))).toInt8.toInt32)), rfl, N22, K22, E22q, F22c, F22v, c22_V_b14, Or.inr sz_b21, Or.inr sz_b14, hc43_5, (own_lE x1), trivial⟩
  · refine og (B := T4.setTop (mkF m 63 #[rv a1, rv sb1, rv al, iv 0, iv 2, iv (x0 &&& (255 : Int32)), .unset, .unset, .unset] [])) (fun t k => ?_) ?_
    · refine XS.icmpNo X4.here hx rfl (hb hby d21_43) rfl (feq hc43_5).1 ?_
      refine XS.goto X4.here hx rfl (pc0 := 46) (pc' := 55) rfl (hb hby d21_46) (by decide) (by decide) ?_
      refine XS.iloadN X4.here hx rfl (hb hby d21_55) rfl ?_
      refine XS.iload X4.here hx rfl (hb hby d21_56) rfl ?_
      refine XS.icmpYes X4.here hx rfl (pc0 := 58) (pc' := 63) rfl (hb hby d21_58) rfl (feq (by decide)).2 (by decide) (by decide) ?_
      exact k
    refine og (B := T4.setTop (mkF m 64 #[rv a1, rv sb1, rv al, iv 0, iv 2, iv (x0 &&& (255 : Int32)), .unset, .unset, .unset] [(.ref al)])) (fun t k => ?_) ?_
    · refine XS.aloadN X4.here hx rfl (hb hby d21_63) rfl rfl ?_
      exact k
    obtain ⟨cq23, kq23, q23a, q23b, q23c⟩ := isOf hZ eq4 (E_al.ext O0.2)
    obtain ⟨_, _, ⟨T23, L23, k23, n23⟩, -, X23, ⟨Lc23, hQ23, l23, y23, z23⟩, st23⟩ := X4.virtualBack hx (y := own_y34) (z := own_y34) hown (mvT hZ (ow hw 194 rfl)) (mvT hZ (ow hw 195 rfl)) (notFace_of_selects (args := #[]) (mvT hZ (ow hw 197 rfl))) (mvT hZ (ow hw 197 rfl)) (mvT hZ (ow hw 196 rfl)) (by decide) (backOf (W := 0) (rm39 l Z a0 hw [] al ab ag h0 n0 Z0 (F_ab.ext O0.2) (E_ab.ext O0.2) (F_ag.ext O0.2)) hZ (ow hw 198 rfl) (ow hw 107 rfl) (by decide) (by decide)) q23a q23c (g := (mkF m 64 #[rv a1, rv sb1, rv al, iv 0, iv 2, iv (x0 &&& (255 : Int32)), .unset, .unset, .unset] [(.ref al)])) rfl (by rw [hml]; rfl) (Steps.refl _) (argsL := []) (rest := []) (lenOf own_pd20 rfl) rfl (Nat.le_refl _) (hb hby d21_64) (fun _ _ => ⟨rfl, eq4, (by decide : 0 + 0 ≤ _), (by decide : 0 + 0 ≤ _)⟩)
    dsimp only [Pt.U, Pt.locs, Pt.cells, Pt.slots] at X23 l23 y23 z23 st23 hQ23
    subst l23 y23 z23
    obtain ⟨rfl, N23q, eq23⟩ := hQ23
    have N23 := Fr.app N4 N23q
    refine og (B := T23.setTop (mkF m 67 #[rv a1, rv sb1, rv al, iv 0, iv 2, iv (x0 &&& (255 : Int32)), .unset, .unset, .unset] [(.ref ag)])) (fun _ => st23.trans) ?_
    refine og (B := T23.setTop (mkF m 71 #[rv a1, rv sb1, rv al, iv 0, iv 2, rv ag, .unset, .unset, .unset] [(.ref ag)])) (fun t k => ?_) ?_
    · refine XS.astore X23.here hx rfl (hb hby d21_67) rfl rfl (l' := #[rv a1, rv sb1, rv al, iv 0, iv 2, rv ag, .unset, .unset, .unset]) rfl ?_
      refine XS.aload X23.here hx rfl (hb hby d21_69) rfl rfl ?_
      exact k
    obtain ⟨as24, T24, h24, kk24, bs24, ks24, X24, e24, E24, hS, hk24, hZ, hown, LE24, LC24, LV24, LA24, la24, lb24, hC24, hL24, hSf24, st24⟩ := ldcCH (EL := consts_1) X23 hx hZ hown (ow hw 209 rfl) (own_wS hw) eq23 hS (Nat.zero_le _) (own_hEL hw) (by decide) (CHr.refl hCH).1 (z := (2 : Int32)) own_httr (by decide) rfl (g := (mkF m 71 #[rv a1, rv sb1, rv al, iv 0, iv 2, rv ag, .unset, .unset, .unset] [(.ref ag)])) rfl (hb hby d21_71) (n := 8) (by decide) (by decide) (by decide) (by decide)
    have Ch24 := (CHr.refl hCH).trans hC24
    have c24_V_sb1 := V_b.ext E24
    have K24 := (Keep.refl h0 []).ext E24
    have O24 := O0.ext E24
    refine og (B := T24.setTop (mkF m 73 #[rv a1, rv sb1, rv al, iv 0, iv 2, rv ag, .unset, .unset, .unset] [(.ref as24), (.ref ag)])) st24 ?_
    refine og (B := T24.setTop (mkF m 76 #[rv a1, rv sb1, rv al, iv 0, iv 2, rv ag, .unset, .unset, .unset] [])) (fun t k => ?_) ?_
    · refine Jvm.RoadKit.acmp (g := (mkF m 73 #[rv a1, rv sb1, rv al, iv 0, iv 2, rv ag, .unset, .unset, .unset] [(.ref as24), (.ref ag)])) X24 hx rfl rfl rfl (pc0 := 73) (pc' := 76) (same := false) rfl (hb hby d21_73) rfl (decide_eq_false fun q => (own_lne (F_gv.ext O24.2) (V_gv.ext O24.2) LV24 LA24) (Value.ref.inj q)) (by decide) (by decide) ?_
      exact k
    refine og (B := T24.setTop (mkF m 78 #[rv a1, rv sb1, rv al, iv 0, iv 2, rv ag, .unset, .unset, .unset] [(.ref ag)])) (fun t k => ?_) ?_
    · refine XS.aload X24.here hx rfl (hb hby d21_76) rfl rfl ?_
      exact k
    obtain ⟨as25, T25, h25, kk25, bs25, ks25, X25, e25, E25, hS, hk25, hZ, hown, LE25, LC25, LV25, LA25, la25, lb25, hC25, hL25, hSf25, st25⟩ := ldcCH (EL := consts_1) X24 hx hZ hown (ow hw 210 rfl) (own_wS hw) e24 hS hk24 (own_hEL hw) (by decide) (Ch24).1 (z := (2 : Int32)) own_htaz (by decide) rfl (g := (mkF m 78 #[rv a1, rv sb1, rv al, iv 0, iv 2, rv ag, .unset, .unset, .unset] [(.ref ag)])) rfl (hb hby d21_78) (n := 8) (by decide) (by decide) (by decide) (by decide)
    have Ch25 := (Ch24).trans hC25
    have c25_V_sb1 := c24_V_sb1.ext E25
    have K25 := K24.ext E25
    have O25 := O24.ext E25
    have zs25 := (Nat.le_trans (Nat.le_trans Z0 E24.1) E25.1)
    refine og (B := T25.setTop (mkF m 80 #[rv a1, rv sb1, rv al, iv 0, iv 2, rv ag, .unset, .unset, .unset] [(.ref as25), (.ref ag)])) st25 ?_
    refine og (B := T25.setTop (mkF m 83 #[rv a1, rv sb1, rv al, iv 0, iv 2, rv ag, .unset, .unset, .unset] [])) (fun t k => ?_) ?_
    · refine Jvm.RoadKit.acmp (g := (mkF m 80 #[rv a1, rv sb1, rv al, iv 0, iv 2, rv ag, .unset, .unset, .unset] [(.ref as25), (.ref ag)])) X25 hx rfl rfl rfl (pc0 := 80) (pc' := 83) (same := false) rfl (hb hby d21_80) rfl (decide_eq_false fun q => (own_lne (F_gv.ext O25.2) (V_gv.ext O25.2) LV25 LA25) (Value.ref.inj q)) (by decide) (by decide) ?_
      exact k
    refine og (B := T25.setTop (mkF m 85 #[rv a1, rv sb1, rv al, iv 0, iv 2, rv ag, .unset, .unset, .unset] [(.ref ag)])) (fun t k => ?_) ?_
    · refine XS.aload X25.here hx rfl (hb hby d21_83) rfl rfl ?_
      exact k
    obtain ⟨as26, T26, h26, kk26, bs26, ks26, X26, e26, E26, hS, hk26, hZ, hown, LE26, LC26, LV26, LA26, la26, lb26, hC26, hL26, hSf26, st26⟩ := ldcCH (EL := consts_1) X25 hx hZ hown (ow hw 211 rfl) (own_wS hw) e25 hS hk25 (own_hEL hw) (by decide) (Ch25).1 (z := (2 : Int32)) own_htlt (by decide) rfl (g := (mkF m 85 #[rv a1, rv sb1, rv al, iv 0, iv 2, rv ag, .unset, .unset, .unset] [(.ref ag)])) rfl (hb hby d21_85) (n := 8) (by decide) (by decide) (by decide) (by decide)
    have Ch26 := (Ch25).trans hC26
    have c26_V_sb1 := c25_V_sb1.ext E26
    have K26 := K25.ext E26
    have O26 := O25.ext E26
    refine og (B := T26.setTop (mkF m 87 #[rv a1, rv sb1, rv al, iv 0, iv 2, rv ag, .unset, .unset, .unset] [(.ref as26), (.ref ag)])) st26 ?_
    refine og (B := T26.setTop (mkF m 99 #[rv a1, rv sb1, rv al, iv 0, iv 2, rv ag, .unset, .unset, .unset] [])) (fun t k => ?_) ?_
    · refine Jvm.RoadKit.acmp (g := (mkF m 87 #[rv a1, rv sb1, rv al, iv 0, iv 2, rv ag, .unset, .unset, .unset] [(.ref as26), (.ref ag)])) X26 hx rfl rfl rfl (pc0 := 87) (pc' := 99) (same := false) rfl (hb hby d21_87) rfl (decide_eq_false fun q => (own_lne (F_gv.ext O26.2) (V_gv.ext O26.2) LV26 LA26) (Value.ref.inj q)) (by decide) (by decide) ?_
      exact k
    refine og (B := T26.setTop (mkF m 101 #[rv a1, rv sb1, rv al, iv 0, iv 2, rv ag, .unset, .unset, .unset] [(.int 2)])) (fun t k => ?_) ?_
    · refine XS.iload X26.here hx rfl (hb hby d21_99) rfl ?_
      exact k
    obtain ⟨T27, h27, k27, X27, e27, E27, A27, st27⟩ := newP X26 hx hZ (ow hw 19 rfl) e26 (g := (mkF m 101 #[rv a1, rv sb1, rv al, iv 0, iv 2, rv ag, .unset, .unset, .unset] [(.int 2)])) rfl (hb hby d21_101) rfl (by decide) (cap := 2) (by decide) (by decide) (by decide) (by decide)
    obtain ⟨b27, g27⟩ : ∃ z, z = h26.size := ⟨_, rfl⟩
    rw [← g27] at A27 st27
    have g_b27 : n0 ≤ b27 := Nat.le_trans (Nat.le_trans zs25 E26.1) (Nat.le_of_eq g27.symm)
    have sz_b27 : h0.size ≤ b27 := Nat.le_trans K26.1 (Nat.le_of_eq g27.symm)
    have sy_b27 : h26.size ≤ b27 := Nat.le_trans (Keep.refl h26 []).1 (Nat.le_of_eq g27.symm)
    have ne_sb1_b27 : sb1 ≠ b27 := Nat.ne_of_lt (Nat.lt_of_lt_of_le c26_V_sb1.lt (Nat.le_of_eq g27.symm))
    have c27_V_sb1 := c26_V_sb1.ext E27
    have K27 := K26.ext E27
    have J27 := (Keep.refl h26 []).ext E27
    have O27 := O26.ext E27
    have V27 : Arv Z h27 b27 k27 .byte (2 : Int32) [(.int 0), (.int 0)] (.int 0) := (Arv.new A27 (by decide)).pad (pad_rep [] (.int 0) 2)
    have zs27 := (Nat.le_trans (Nat.le_trans zs25 E26.1) E27.1)
    refine og (B := T27.setTop (mkF m 103 #[rv a1, rv sb1, rv al, iv 0, iv 2, rv ag, .unset, .unset, .unset] [(.ref b27)])) st27 ?_
    refine og (B := T27.setTop (mkF m 111 #[rv a1, rv sb1, rv al, iv 0, iv 2, rv ag, rv b27, .unset, .unset] [(.int 0), (.int 0), (.ref b27), (.int 0), (.ref sb1)])) (fun t k => ?_) ?_
    · refine XS.astore X27.here hx rfl (hb hby d21_103) rfl rfl (l' := #[rv a1, rv sb1, rv al, iv 0, iv 2, rv ag, rv b27, .unset, .unset]) rfl ?_
      refine XS.aloadN X27.here hx rfl (hb hby d21_105) rfl rfl ?_
      refine XS.iconst X27.here hx rfl (hb hby d21_106) ?_
      refine XS.aload X27.here hx rfl (hb hby d21_107) rfl rfl ?_
      refine XS.iconst X27.here hx rfl (hb hby d21_109) ?_
      refine XS.iloadN X27.here hx rfl (hb hby d21_110) rfl ?_
      exact k
    obtain ⟨T28, h28, L28, X28, e28, N28, K28q, V28q, st28⟩ := cpA X27 hx hZ hown (ow hw 212 rfl) (ow hw 105 rfl) (ow hw 103 rfl) (ow hw 104 rfl) e27 c27_V_sb1 V27 (us := []) (Or.inl ⟨rfl, rfl⟩) (by decide) (by decide) (by decide) (by decide) (by decide) rfl (Nat.le_of_ble_eq_true rfl) N23 g_b27 (g := (mkF m 111 #[rv a1, rv sb1, rv al, iv 0, iv 2, rv ag, rv b27, .unset, .unset] [(.int 0), (.int 0), (.ref b27), (.int 0), (.ref sb1)])) rfl (by rw [hml]; rfl) (rest := []) rfl (hb hby d21_111) (by decide) (W := 0) (Nat.le_refl _) (by decide)
    have V28 : Arv Z h28 b27 k27 .byte (2 : Int32) [(.int 0), (.int 0)] (.int 0) := V28q
    have c28_V_sb1 := c27_V_sb1.keep K28q (fun q => ne_sb1_b27 (List.mem_singleton.mp q))
    have O28 := O27.keep K28q (allS g_b27 all0)
    have K28 := K27.trans K28q (allS (Or.inr sz_b27) all0)
    have J28 := J27.trans K28q (allS (Or.inr sy_b27) all0)
    have zk28 := (Nat.le_trans (Nat.le_trans hk26 E27.1) K28q.1)
    refine og (B := T28.setTop (mkF m 114 #[rv a1, rv sb1, rv al, iv 0, iv 2, rv ag, rv b27, .unset, .unset] [])) st28 ?_
    obtain ⟨cl29, Ar29, qk29, S29, M29, H29, G29⟩ := id c28_V_sb1
    refine og (B := T28.setTop (mkF m 134 #[rv a1, rv sb1, rv al, iv 0, iv 2, rv ag, rv b27, iv 0, iv (x0 &&& (255 : Int32))] [])) (fun t k => ?_) ?_
    · refine XS.iloadN X28.here hx rfl (hb hby d21_114) rfl ?_
      refine XS.istore X28.here hx rfl (hb hby d21_115) rfl (l' := #[rv a1, rv sb1, rv al, iv 0, iv 2, rv ag, rv b27, iv 0, .unset]) rfl ?_
      refine XS.iload X28.here hx rfl (hb hby d21_117) rfl ?_
      refine XS.iload X28.here hx rfl (hb hby d21_119) rfl ?_
      refine XS.icmpNo X28.here hx rfl (hb hby d21_121) rfl (tlt (by decide)).2.1 ?_
      refine XS.aloadN X28.here hx rfl (hb hby d21_124) rfl rfl ?_
      show own_S p e below T28 (mkF m 125 #[rv a1, rv sb1, rv al, iv 0, iv 2, rv ag, rv b27, iv 0, .unset] [(.ref sb1)]) _
      refine XS.iload X28.here hx rfl (hb hby d21_125) rfl ?_
      refine X28.baloadBytes hx (j := (0 : Int32)) (v := (.int x0)) (by rw [e28]; exact Ar29.1) (State.isArrayOf_alike hZ.alike Ar29.2.1) Ar29.2.2 (inb_of S29 ⟨by decide, by decide⟩) (Has.at H29 (inb_of S29 ⟨by decide, by decide⟩) rfl) (g := (mkF m 127 #[rv a1, rv sb1, rv al, iv 0, iv 2, rv ag, rv b27, iv 0, .unset] [(.int 0), (.ref sb1)])) rfl rfl (hb hby d21_127) _ ?_
      refine XS.sipush X28.here hx rfl (hb hby d21_128) ?_
      refine XS.iand X28.here hx rfl (hb hby d21_131) rfl ?_
      refine XS.istore X28.here hx rfl (hb hby d21_132) rfl (l' := #[rv a1, rv sb1, rv al, iv 0, iv 2, rv ag, rv b27, iv 0, iv (x0 &&& (255 : Int32))]) rfl ?_
      exact k
    obtain ⟨T30, X30, e30, st30⟩ := getS2 X28 hx hZ hown (host := "") (Or.inl (ow hw 184 rfl)) Via.refl e28 (S_I.ext O28.2) (g := (mkF m 134 #[rv a1, rv sb1, rv al, iv 0, iv 2, rv ag, rv b27, iv 0, iv (x0 &&& (255 : Int32))] [])) rfl (hb hby d21_134)
    refine og (B := T30.setTop (mkF m 137 #[rv a1, rv sb1, rv al, iv 0, iv 2, rv ag, rv b27, iv 0, iv (x0 &&& (255 : Int32))] [(.ref ci)])) st30 ?_
    refine og (B := T30.setTop (mkF m 139 #[rv a1, rv sb1, rv al, iv 0, iv 2, rv ag, rv b27, iv 0, iv (x0 &&& (255 : Int32))] [(.int (x0 &&& (255 : Int32))), (.ref ci)])) (fun t k => ?_) ?_
    · refine XS.iload X30.here hx rfl (hb hby d21_137) rfl ?_
      exact k
    obtain ⟨cq31, kq31, q31a, q31b, q31c⟩ := isOf hZ e30 (E_ci.ext O28.2)
    obtain ⟨_, _, ⟨T31, L31, k31, n31⟩, -, X31, ⟨Lc31, hQ31, l31, y31, z31⟩, st31⟩ := X30.virtualBack hx (y := own_y31) (z := own_y31) hown (mvT hZ (ow hw 186 rfl)) (mvT hZ (ow hw 187 rfl)) (notFace_of_selects (args := #[]) (mvT hZ (ow hw 189 rfl))) (mvT hZ (ow hw 189 rfl)) (mvT hZ (ow hw 188 rfl)) (by decide) (backOf (W := 0) (rm37 l Z a0 hw [] ci (x0 &&& (255 : Int32)) h28 n0 (Nat.le_trans zs27 K28q.1)) hZ (ow hw 190 rfl) (ow hw 185 rfl) (by decide) (by decide)) q31a q31c (g := (mkF m 139 #[rv a1, rv sb1, rv al, iv 0, iv 2, rv ag, rv b27, iv 0, iv (x0 &&& (255 : Int32))] [(.int (x0 &&& (255 : Int32))), (.ref ci)])) rfl (by rw [hml]; rfl) (Steps.refl _) (argsL := [(.int (x0 &&& (255 : Int32)))]) (rest := []) (lenOf own_pd21 rfl) rfl (Nat.le_refl _) (hb hby d21_139) (fun _ _ => ⟨rfl, e30, (by decide : 7 + 0 ≤ _), (by decide : 38 + 0 ≤ _)⟩)
    dsimp only [Pt.U, Pt.locs, Pt.cells, Pt.slots] at X31 l31 y31 z31 st31 hQ31
    subst l31 y31 z31
    obtain ⟨rfl, N31q, eq31⟩ := hQ31
    have N31 := Fr.app N28 N31q
    refine og (B := T31.setTop (mkF m 142 #[rv a1, rv sb1, rv al, iv 0, iv 2, rv ag, rv b27, iv 0, iv (x0 &&& (255 : Int32))] [(.int (own_low (x0 &&& (255 : Int32))))])) (fun _ => st31.trans) ?_
    refine og (B := T31.setTop (mkF m 146 #[rv a1, rv sb1, rv al, iv 0, iv 2, rv ag, rv b27, iv 0, iv (own_low (x0 &&& (255 : Int32)))] [(.int (own_low (x0 &&& (255 : Int32))))])) (fun t k => ?_) ?_
    · refine XS.istore X31.here hx rfl (hb hby d21_142) rfl (l' := #[rv a1, rv sb1, rv al, iv 0, iv 2, rv ag, rv b27, iv 0, iv (own_low (x0 &&& (255 : Int32)))]) rfl ?_
      refine XS.iload X31.here hx rfl (hb hby d21_144) rfl ?_
      exact k
    obtain ⟨_, _, ⟨T32, L32, k32, n32⟩, -, X32, ⟨Lc32, hQ32, l32, y32, z32⟩, st32⟩ := Jvm.LawKit.callS X31 hx (y := own_y32) hown (mvT hZ (ow hw 213 rfl)) (mvT hZ (ow hw 214 rfl)) (mvT hZ (ow hw 120 rfl)) (mvT hZ (ow hw 215 rfl)) (by decide) (backOf (W := 0) (rm41 l Z a0 hw [] (own_low (x0 &&& (255 : Int32))) h28 n0 (Nat.le_trans zs27 K28q.1) (own_lr _).1 (own_lr _).2) hZ (ow hw 215 rfl) (ow hw 120 rfl) (by decide) (by decide)) (g := (mkF m 146 #[rv a1, rv sb1, rv al, iv 0, iv 2, rv ag, rv b27, iv 0, iv (own_low (x0 &&& (255 : Int32)))] [(.int (own_low (x0 &&& (255 : Int32))))])) rfl (by rw [hml]; rfl) (argsL := [(.int (own_low (x0 &&& (255 : Int32))))]) (rest := []) (lenOf own_pd22 rfl) rfl (Nat.le_refl _) (hb hby d21_146) (fun _ _ => ⟨rfl, eq31, (by decide : 7 + 0 ≤ _), (by decide : 38 + 0 ≤ _)⟩)
    dsimp only [Pt.U, Pt.locs, Pt.cells, Pt.slots] at X32 l32 y32 z32 st32 hQ32
    subst l32 y32 z32
    obtain ⟨rfl, N32q, eq32⟩ := hQ32
    have N32 := Fr.app N31 N32q
    refine og (B := T32.setTop (mkF m 149 #[rv a1, rv sb1, rv al, iv 0, iv 2, rv ag, rv b27, iv 0, iv (own_low (x0 &&& (255 : Int32)))] [(.int 1)])) st32 ?_
    refine og (B := T32.setTop (mkF m 168 #[rv a1, rv sb1, rv al, iv 0, iv 2, rv ag, rv b27, iv 0, iv (own_low (x0 &&& (255 : Int32)))] [(.int ((own_low (x0 &&& (255 : Int32))).toInt8.toInt32)), (.int 0), (.ref b27)])) (fun t k => ?_) ?_
    · refine XS.ifYes X32.here hx rfl (pc0 := 149) (pc' := 161) rfl (hb hby d21_149) rfl ((if0 _ _).trans (feq (by decide)).2) (by decide) (by decide) ?_
      refine XS.aload X32.here hx rfl (hb hby d21_161) rfl rfl ?_
      refine XS.iload X32.here hx rfl (hb hby d21_163) rfl ?_
      refine XS.iload X32.here hx rfl (hb hby d21_165) rfl ?_
      refine XS.i2b X32.here hx rfl (hb hby d21_167) rfl ?_
      exact k
    obtain ⟨cl33, Ar33, qk33, S33, M33, H33, G33⟩ := id V28
    obtain ⟨T33, h33, X33, e33, W33, st33⟩ := stB X32 hx hZ eq32 Ar33 (j := (0 : Int32)) (inb_of S33 ⟨by decide, by decide⟩) (g := (mkF m 168 #[rv a1, rv sb1, rv al, iv 0, iv 2, rv ag, rv b27, iv 0, iv (own_low (x0 &&& (255 : Int32)))] [(.int ((own_low (x0 &&& (255 : Int32))).toInt8.toInt32)), (.int 0), (.ref b27)])) rfl rfl (hb hby d21_168)
    have V33 : Arv Z h33 b27 k27 .byte (2 : Int32) [(.int (nar .byte ((own_low (x0 &&& (255 : Int32))).toInt8.toInt32))), (.int 0)] (.int 0) := Arv.set Ar33 qk33 S33 M33 H33 G33 (fits_nar_byte _) W33 0 rfl (Nat.le_of_ble_eq_true rfl)
    have c33_V_sb1 := c28_V_sb1.other W33 ne_sb1_b27
    have K33 := K28.wr W33 (Or.inr sz_b27)
    have J33 := J28.wr W33 (Or.inr sy_b27)
    have O33 := O28.wr W33 g_b27
    have N33 := Fr.snoc X33 N32 g_b27
    have zs33 := (Nat.le_trans (Nat.le_trans zs27 K28q.1) (Keep.of_wr W33).1)
    have zk33 := (Nat.le_trans zk28 (Keep.of_wr W33).1)
    refine og (B := T33.setTop (mkF m 169 #[rv a1, rv sb1, rv al, iv 0, iv 2, rv ag, rv b27, iv 0, iv (own_low (x0 &&& (255 : Int32)))] [])) st33 ?_
    obtain ⟨cl34, Ar34, qk34, S34, M34, H34, G34⟩ := id c33_V_sb1
    refine og (B := T33.setTop (mkF m 134 #[rv a1, rv sb1, rv al, iv 0, iv 2, rv ag, rv b27, iv 1, iv (x1 &&& (255 : Int32))] [])) (fun t k => ?_) ?_
    · refine XS.iinc X33.here hx rfl (hb hby d21_169) rfl (l' := #[rv a1, rv sb1, rv al, iv 0, iv 2, rv ag, rv b27, iv 1, iv (own_low (x0 &&& (255 : Int32)))]) rfl ?_
      refine XS.goto X33.here hx rfl (pc0 := 172) (pc' := 117) rfl (hb hby d21_172) (by decide) (by decide) ?_
      refine XS.iload X33.here hx rfl (hb hby d21_117) rfl ?_
      refine XS.iload X33.here hx rfl (hb hby d21_119) rfl ?_
      refine XS.icmpNo X33.here hx rfl (hb hby d21_121) rfl (tlt (by decide)).2.1 ?_
      refine XS.aloadN X33.here hx rfl (hb hby d21_124) rfl rfl ?_
      show own_S p e below T33 (mkF m 125 #[rv a1, rv sb1, rv al, iv 0, iv 2, rv ag, rv b27, iv 1, iv (own_low (x0 &&& (255 : Int32)))] [(.ref sb1)]) _
      refine XS.iload X33.here hx rfl (hb hby d21_125) rfl ?_
      refine X33.baloadBytes hx (j := (1 : Int32)) (v := (.int x1)) (by rw [e33]; exact Ar34.1) (State.isArrayOf_alike hZ.alike Ar34.2.1) Ar34.2.2 (inb_of S34 ⟨by decide, by decide⟩) (Has.at H34 (inb_of S34 ⟨by decide, by decide⟩) rfl) (g := (mkF m 127 #[rv a1, rv sb1, rv al, iv 0, iv 2, rv ag, rv b27, iv 1, iv (own_low (x0 &&& (255 : Int32)))] [(.int 1), (.ref sb1)])) rfl rfl (hb hby d21_127) _ ?_
      refine XS.sipush X33.here hx rfl (hb hby d21_128) ?_
      refine XS.iand X33.here hx rfl (hb hby d21_131) rfl ?_
      refine XS.istore X33.here hx rfl (hb hby d21_132) rfl (l' := #[rv a1, rv sb1, rv al, iv 0, iv 2, rv ag, rv b27, iv 1, iv (x1 &&& (255 : Int32))]) rfl ?_
      exact k
    obtain ⟨T35, X35, e35, st35⟩ := getS2 X33 hx hZ hown (host := "") (Or.inl (ow hw 184 rfl)) Via.refl e33 (S_I.ext O33.2) (g := (mkF m 134 #[rv a1, rv sb1, rv al, iv 0, iv 2, rv ag, rv b27, iv 1, iv (x1 &&& (255 : Int32))] [])) rfl (hb hby d21_134)
    refine og (B := T35.setTop (mkF m 137 #[rv a1, rv sb1, rv al, iv 0, iv 2, rv ag, rv b27, iv 1, iv (x1 &&& (255 : Int32))] [(.ref ci)])) st35 ?_
    refine og (B := T35.setTop (mkF m 139 #[rv a1, rv sb1, rv al, iv 0, iv 2, rv ag, rv b27, iv 1, iv (x1 &&& (255 : Int32))] [(.int (x1 &&& (255 : Int32))), (.ref ci)])) (fun t k => ?_) ?_
    · refine XS.iload X35.here hx rfl (hb hby d21_137) rfl ?_
      exact k
    obtain ⟨cq36, kq36, q36a, q36b, q36c⟩ := isOf hZ e35 (E_ci.ext O33.2)
    obtain ⟨_, _, ⟨T36, L36, k36, n36⟩, -, X36, ⟨Lc36, hQ36, l36, y36, z36⟩, st36⟩ := X35.virtualBack hx (y := own_y31) (z := own_y31) hown (mvT hZ (ow hw 186 rfl)) (mvT hZ (ow hw 187 rfl)) (notFace_of_selects (args := #[]) (mvT hZ (ow hw 189 rfl))) (mvT hZ (ow hw 189 rfl)) (mvT hZ (ow hw 188 rfl)) (by decide) (backOf (W := 0) (rm37 l Z a0 hw [] ci (x1 &&& (255 : Int32)) h33 n0 zs33) hZ (ow hw 190 rfl) (ow hw 185 rfl) (by decide) (by decide)) q36a q36c (g := (mkF m 139 #[rv a1, rv sb1, rv al, iv 0, iv 2, rv ag, rv b27, iv 1, iv (x1 &&& (255 : Int32))] [(.int (x1 &&& (255 : Int32))), (.ref ci)])) rfl (by rw [hml]; rfl) (Steps.refl _) (argsL := [(.int (x1 &&& (255 : Int32)))]) (rest := []) (lenOf own_pd21 rfl) rfl (Nat.le_refl _) (hb hby d21_139) (fun _ _ => ⟨rfl, e35, (by decide : 7 + 0 ≤ _), (by decide : 38 + 0 ≤ _)⟩)
    dsimp only [Pt.U, Pt.locs, Pt.cells, Pt.slots] at X36 l36 y36 z36 st36 hQ36
    subst l36 y36 z36
    obtain ⟨rfl, N36q, eq36⟩ := hQ36
    have N36 := Fr.app N33 N36q
    refine og (B := T36.setTop (mkF m 142 #[rv a1, rv sb1, rv al, iv 0, iv 2, rv ag, rv b27, iv 1, iv (x1 &&& (255 : Int32))] [(.int (own_low (x1 &&& (255 : Int32))))])) (fun _ => st36.trans) ?_
    refine og (B := T36.setTop (mkF m 146 #[rv a1, rv sb1, rv al, iv 0, iv 2, rv ag, rv b27, iv 1, iv (own_low (x1 &&& (255 : Int32)))] [(.int (own_low (x1 &&& (255 : Int32))))])) (fun t k => ?_) ?_
    · refine XS.istore X36.here hx rfl (hb hby d21_142) rfl (l' := #[rv a1, rv sb1, rv al, iv 0, iv 2, rv ag, rv b27, iv 1, iv (own_low (x1 &&& (255 : Int32)))]) rfl ?_
      refine XS.iload X36.here hx rfl (hb hby d21_144) rfl ?_
      exact k
    obtain ⟨_, _, ⟨T37, L37, k37, n37⟩, -, X37, ⟨Lc37, hQ37, l37, y37, z37⟩, st37⟩ := Jvm.LawKit.callS X36 hx (y := own_y32) hown (mvT hZ (ow hw 213 rfl)) (mvT hZ (ow hw 214 rfl)) (mvT hZ (ow hw 120 rfl)) (mvT hZ (ow hw 215 rfl)) (by decide) (backOf (W := 0) (rm41 l Z a0 hw [] (own_low (x1 &&& (255 : Int32))) h33 n0 zs33 (own_lr _).1 (own_lr _).2) hZ (ow hw 215 rfl) (ow hw 120 rfl) (by decide) (by decide)) (g := (mkF m 146 #[rv a1, rv sb1, rv al, iv 0, iv 2, rv ag, rv b27, iv 1, iv (own_low (x1 &&& (255 : Int32)))] [(.int (own_low (x1 &&& (255 : Int32))))])) rfl (by rw [hml]; rfl) (argsL := [(.int (own_low (x1 &&& (255 : Int32))))]) (rest := []) (lenOf own_pd22 rfl) rfl (Nat.le_refl _) (hb hby d21_146) (fun _ _ => ⟨rfl, eq36, (by decide : 7 + 0 ≤ _), (by decide : 38 + 0 ≤ _)⟩)
    dsimp only [Pt.U, Pt.locs, Pt.cells, Pt.slots] at X37 l37 y37 z37 st37 hQ37
    subst l37 y37 z37
    obtain ⟨rfl, N37q, eq37⟩ := hQ37
    have N37 := Fr.app N36 N37q
    refine og (B := T37.setTop (mkF m 149 #[rv a1, rv sb1, rv al, iv 0, iv 2, rv ag, rv b27, iv 1, iv (own_low (x1 &&& (255 : Int32)))] [(.int 1)])) st37 ?_
    refine og (B := T37.setTop (mkF m 168 #[rv a1, rv sb1, rv al, iv 0, iv 2, rv ag, rv b27, iv 1, iv (own_low (x1 &&& (255 : Int32)))] [(.int ((own_low (x1 &&& (255 : Int32))).toInt8.toInt32)), (.int 1), (.ref b27)])) (fun t k => ?_) ?_
    · refine XS.ifYes X37.here hx rfl (pc0 := 149) (pc' := 161) rfl (hb hby d21_149) rfl ((if0 _ _).trans (feq (by decide)).2) (by decide) (by decide) ?_
      refine XS.aload X37.here hx rfl (hb hby d21_161) rfl rfl ?_
      refine XS.iload X37.here hx rfl (hb hby d21_163) rfl ?_
      refine XS.iload X37.here hx rfl (hb hby d21_165) rfl ?_
      refine XS.i2b X37.here hx rfl (hb hby d21_167) rfl ?_
      exact k
    obtain ⟨cl38, Ar38, qk38, S38, M38, H38, G38⟩ := id V33
    obtain ⟨T38, h38, X38, e38, W38, st38⟩ := stB X37 hx hZ eq37 Ar38 (j := (1 : Int32)) (inb_of S38 ⟨by decide, by decide⟩) (g := (mkF m 168 #[rv a1, rv sb1, rv al, iv 0, iv 2, rv ag, rv b27, iv 1, iv (own_low (x1 &&& (255 : Int32)))] [(.int ((own_low (x1 &&& (255 : Int32))).toInt8.toInt32)), (.int 1), (.ref b27)])) rfl rfl (hb hby d21_168)
    have V38 : Arv Z h38 b27 k27 .byte (2 : Int32) [(.int (nar .byte ((own_low (x0 &&& (255 : Int32))).toInt8.toInt32))), (.int (nar .byte ((own_low (x1 &&& (255 : Int32))).toInt8.toInt32)))] (.int 0) := Arv.set Ar38 qk38 S38 M38 H38 G38 (fits_nar_byte _) W38 1 rfl (Nat.le_of_ble_eq_true rfl)
    have c38_V_sb1 := c33_V_sb1.other W38 ne_sb1_b27
    have K38 := K33.wr W38 (Or.inr sz_b27)
    have J38 := J33.wr W38 (Or.inr sy_b27)
    have O38 := O33.wr W38 g_b27
    have N38 := Fr.snoc X38 N37 g_b27
    have zs38 := (Nat.le_trans zs33 (Keep.of_wr W38).1)
    have zk38 := (Nat.le_trans zk33 (Keep.of_wr W38).1)
    refine og (B := T38.setTop (mkF m 169 #[rv a1, rv sb1, rv al, iv 0, iv 2, rv ag, rv b27, iv 1, iv (own_low (x1 &&& (255 : Int32)))] [])) st38 ?_
    refine og (B := T38.setTop (mkF m 175 #[rv a1, rv sb1, rv al, iv 0, iv 2, rv ag, rv b27, iv 2, iv (own_low (x1 &&& (255 : Int32)))] [])) (fun t k => ?_) ?_
    · refine XS.iinc X38.here hx rfl (hb hby d21_169) rfl (l' := #[rv a1, rv sb1, rv al, iv 0, iv 2, rv ag, rv b27, iv 2, iv (own_low (x1 &&& (255 : Int32)))]) rfl ?_
      refine XS.goto X38.here hx rfl (pc0 := 172) (pc' := 117) rfl (hb hby d21_172) (by decide) (by decide) ?_
      refine XS.iload X38.here hx rfl (hb hby d21_117) rfl ?_
      refine XS.iload X38.here hx rfl (hb hby d21_119) rfl ?_
      refine XS.icmpYes X38.here hx rfl (pc0 := 121) (pc' := 175) rfl (hb hby d21_121) rfl (flt (by decide)).2.1 (by decide) (by decide) ?_
      exact k
    obtain ⟨T39, h39, X39, e39, E39, A39, D39, -, st39⟩ := newO X38 hx hZ hown (ow hw 216 rfl) (ow hw 1 rfl) (ow hw 2 rfl) e38 (g := (mkF m 175 #[rv a1, rv sb1, rv al, iv 0, iv 2, rv ag, rv b27, iv 2, iv (own_low (x1 &&& (255 : Int32)))] [])) rfl (hb hby d21_175) (by decide) (by decide)
    obtain ⟨b39, g39⟩ : ∃ z, z = h38.size := ⟨_, rfl⟩
    rw [← g39] at A39 D39 st39
    have g_b39 : n0 ≤ b39 := Nat.le_trans zs38 (Nat.le_of_eq g39.symm)
    have sz_b39 : h0.size ≤ b39 := Nat.le_trans K38.1 (Nat.le_of_eq g39.symm)
    have sy_b39 : h26.size ≤ b39 := Nat.le_trans J38.1 (Nat.le_of_eq g39.symm)
    have ne_sb1_b39 : sb1 ≠ b39 := Nat.ne_of_lt (Nat.lt_of_lt_of_le c38_V_sb1.lt (Nat.le_of_eq g39.symm))
    have ne_b27_b39 : b27 ≠ b39 := Nat.ne_of_lt (Nat.lt_of_lt_of_le V38.lt (Nat.le_of_eq g39.symm))
    have c39_V_sb1 := c38_V_sb1.ext E39
    have c39_V_b27 := V38.ext E39
    have K39 := K38.ext E39
    have J39 := J38.ext E39
    have O39 := O38.ext E39
    have F39_coder : Fld Z h39 b39 "java/lang/String" "coder" "B" (.int 0) := D39 (Or.inr (ow hw 27 rfl)) (ty := .byte) (by decide)
    have F39_value : Fld Z h39 b39 "java/lang/String" "value" "[B" .null := D39 (Or.inr (ow hw 29 rfl)) (ty := (.array .byte)) (by decide)
    refine og (B := T39.setTop (mkF m 178 #[rv a1, rv sb1, rv al, iv 0, iv 2, rv ag, rv b27, iv 2, iv (own_low (x1 &&& (255 : Int32)))] [(.ref b39)])) st39 ?_
    refine og (B := T39.setTop (mkF m 182 #[rv a1, rv sb1, rv al, iv 0, iv 2, rv ag, rv b27, iv 2, iv (own_low (x1 &&& (255 : Int32)))] [(.int 0), (.ref b27), (.ref b39), (.ref b39)])) (fun t k => ?_) ?_
    · refine XS.dup X39.here hx rfl (hb hby d21_178) rfl rfl ?_
      refine XS.aload X39.here hx rfl (hb hby d21_179) rfl rfl ?_
      refine XS.iconst X39.here hx rfl (hb hby d21_181) ?_
      exact k
    obtain ⟨_, _, ⟨T40, L40, k40, n40⟩, -, X40, ⟨Lc40, hQ40, l40, y40, z40⟩, st40⟩ := X39.specialBack hx (y := own_y35) rfl hown (mvT hZ (ow hw 217 rfl)) (mvT hZ (ow hw 218 rfl)) (mvT hZ (ow hw 219 rfl)) (by decide) (backOf (W := 1) (rm42 l Z a0 hw [] b39 b27 h39 n0 (Nat.le_trans zs38 E39.1) A39 g_b39 F39_value F39_coder) hZ (ow hw 219 rfl) (ow hw 2 rfl) (by decide) (by decide)) (g := (mkF m 182 #[rv a1, rv sb1, rv al, iv 0, iv 2, rv ag, rv b27, iv 2, iv (own_low (x1 &&& (255 : Int32)))] [(.int 0), (.ref b27), (.ref b39), (.ref b39)])) rfl (by rw [hml]; rfl) (Steps.refl _) (a := b39) (argsL := [(.ref b27), (.int 0)]) (rest := [(.ref b39)]) (lenOf own_pd23 rfl) rfl (Nat.le_refl _) (hb hby d21_182) (fun _ _ => ⟨rfl, e39, (by decide : 8 + 0 ≤ _), (by decide : 42 + 0 ≤ _)⟩)
    dsimp only [Pt.U, Pt.locs, Pt.cells, Pt.slots] at X40 l40 y40 z40 st40 hQ40
    subst l40 y40 z40
    obtain ⟨rfl, N40q, K40q, E40q, F40c, F40v⟩ := hQ40
    have N40 := Fr.app N38 N40q
    have c40_V_sb1 := c39_V_sb1.keep K40q (fun q => ne_sb1_b39 (List.mem_singleton.mp q))
    have c40_V_b27 := c39_V_b27.keep K40q (fun q => ne_b27_b39 (List.mem_singleton.mp q))
    have O40 := O39.keep K40q (allS g_b39 all0)
    have K40 := K39.trans K40q (allS (Or.inr sz_b39) all0)
    have J40 := J39.trans K40q (allS (Or.inr sy_b39) all0)
    have zs40 := (Nat.le_trans (Nat.le_trans zs38 E39.1) K40q.1)
    have zk40 := (Nat.le_trans (Nat.le_trans zk38 E39.1) K40q.1)
    refine og (B := T40.setTop (mkF m 185 #[rv a1, rv sb1, rv al, iv 0, iv 2, rv ag, rv b27, iv 2, iv (own_low (x1 &&& (255 : Int32)))] [(.ref b39)])) (fun _ => st40.trans) ?_
    obtain ⟨fs, hr, hrun, hended, hRW⟩ := X40.leaveW hS (zk40) (v := some (.ref b39)) (fun h => by rw [Bd.returns] at h; cases h)
    refine ⟨_, _, ?_, hrun, hended, _, _, rfl, ?_, (by have q := ((Ch26).trans (CHr.ext (own_ext J40) (Ch26).1)).trans (CHv.at X40 hZ (own_hEL hw) ((Ch26).trans (CHr.ext (own_ext J40) (Ch26).1)).1); rw [← hh] at q; exact q), hRW.1, hRW.2.1, hRW.2.2.1, hRW.2.2.2.mono (by decide) (by decide)⟩
    · show own_S p e below T40 (mkF m 185 #[rv a1, rv sb1, rv al, iv 0, iv 2, rv ag, rv b27, iv 2, iv (own_low (x1 &&& (255 : Int32)))] [(.ref b39)]) _
      jvm_step X40.here [X40.here.top, hx, (hb hby d21_185), X40.method', Bd.returns, Value.isRef, FieldType.isReference]
      first | (intro acts; rw [hr _ acts rfl rfl rfl]) | rw [hr _ _ rfl rfl rfl]
      exact Steps.refl _
    · show Q21_2 Z a1 sb1 kb x0 x1 GC ci al ab ag agv h0 n0 _ T40.heap _
      exact ⟨b39, b27, k27, (nar .byte ((own_low (x0 &&& (255 : Int32))).toInt8.toInt32)), (nar .byte ((own_low (x1 &&& (255 : Int32))).toInt8.toInt32)), rfl, N40, K40, E40q, F40c, F40v, c40_V_b27, Or.inr sz_b39, Or.inr sz_b27, (own_lE x0), (own_lE x1), trivial⟩
def own_QL3 (Z : State) (a1 sb1 : Addr) (x0 : Int32) (x1 : Int32) (x2 : Int32) (h0 : Heap) (n0 : Nat) (v : Option Value) (h : Heap) (L : List Loc) : Prop := ∃ (a b : Addr) (kq : ClassId) (u0 : Int32) (u1 : Int32) (u2 : Int32), v = some (.ref a) ∧ Fr n0 L ∧ Keep h0 h [] ∧ Exa Z h a "java/lang/String" ∧ Fld Z h a "java/lang/String" "coder" "B" (.int 0) ∧ Fld Z h a "java/lang/String" "value" "[B" (.ref b) ∧ Arv Z h b kq .byte (3 : Int32) [(.int u0), (.int u1), (.int u2)] (.int 0)  ∧ (a = a1 ∨ h0.size ≤ a) ∧ (b = sb1 ∨ h0.size ≤ b) ∧ ((u0 &&& (255 : Int32)) = own_low (x0 &&& (255 : Int32)) ∧ (u1 &&& (255 : Int32)) = own_low (x1 &&& (255 : Int32)) ∧ (u2 &&& (255 : Int32)) = own_low (x2 &&& (255 : Int32)) ∧ True)
def Q21_3 (Z : State) (a1 : Addr) (sb1 : Addr) (kb : ClassId) (x0 : Int32) (x1 : Int32) (x2 : Int32) (GC : Int32) (ci : Addr) (al : Addr) (ab : Addr) (ag : Addr) (agv : Addr) (h0 : Heap) (n0 : Nat) (v : Option Value) (h : Heap) (L : List Loc) : Prop := own_QL3 Z a1 sb1 x0 x1 x2 h0 n0 v h L
set_option maxRecDepth 65536 in
set_option maxHeartbeats 40000000 in
theorem rm21_3 (l : Launch) (Z : State) (a0 : Array Value) (hw : ∀ d ∈ tables_1, d.before a0 Z = true) (ws : List Jvm.Cond) (a1 : Addr) (sb1 : Addr) (kb : ClassId) (x0 : Int32) (x1 : Int32) (x2 : Int32) (GC : Int32) (ci : Addr) (al : Addr) (ab : Addr) (ag : Addr) (agv : Addr) (h0 : Heap) (n0 : Nat) (Z0 : n0 ≤ h0.size) (S_C : Sta Z Z.heap "java/lang/String" "COMPACT_STRINGS" "Z" (.int GC)) (hGC : ¬ GC = (0 : Int32)) (O0 : Old Z n0 h0) (S_I : Sta Z Z.heap "java/lang/CharacterDataLatin1" "instance" "Ljava/lang/CharacterDataLatin1;" (.ref ci)) (E_ci : Exa Z Z.heap ci "java/lang/CharacterDataLatin1") (S_R : Sta Z Z.heap "java/util/Locale" "ROOT" "Ljava/util/Locale;" (.ref al)) (E_al : Exa Z Z.heap al "java/util/Locale") (F_ab : Fld Z Z.heap al "java/util/Locale" "baseLocale" "Lsun/util/locale/BaseLocale;" (.ref ab)) (E_ab : Exa Z Z.heap ab "sun/util/locale/BaseLocale") (F_ag : Fld Z Z.heap ab "sun/util/locale/BaseLocale" "language" "Ljava/lang/String;" (.ref ag)) (F_gv : Fld Z Z.heap ag "java/lang/String" "value" "[B" (.ref agv)) (V_gv : own_E0 Z Z.heap agv) (E_a1 : Exa Z h0 a1 "java/lang/String") (F_c : Fld Z h0 a1 "java/lang/String" "coder" "B" (.int 0)) (F_v : Fld Z h0 a1 "java/lang/String" "value" "[B" (.ref sb1)) (V_b : Arv Z h0 sb1 kb .byte (3 : Int32) [(.int x0), (.int x1), (.int x2)] (.int 0)) :
    MetFree l own_y36 (head1 (Jvm.Cond.code own_y36 jdk_43_method_32_code 9 (some (.object "java/lang/String")) :: ws) ({ frames := 2, cells := 8, slots := 48, locals := 27 } : Room)) (fun a U => a = #[(.ref a1), (.ref sb1), (.ref al)] ∧ Z.Warmed39 U.vm ∧ U.heap = h0 ∧ CHv Z consts_1 U.vm h0) (fun _ _ _ _ _ => True) (fun _ U o U' => ∃ v L, o = .returned v ∧ Q21_3 Z a1 sb1 kb x0 x1 x2 GC ci al ab ag agv h0 n0 v U'.heap L ∧ CHr Z consts_1 U.vm U.heap U'.vm U'.heap ∧ ReturnedEndW U o U' L ({ frames := 2, cells := 8, slots := 48, locals := 27 } : Room).cells ({ frames := 2, cells := 8, slots := 48, locals := 27 } : Room).slots) := by
  refine MetFree.of_bodySF (plainFor_of_name pn_21) hisR ?_
  intro p e s m args below meth c s₁ Bd hml0 hP hK
  obtain ⟨rfl, hZ, hh, hCH⟩ := hP
  have hx := Bd.exec
  have hby := Bd.bytes
  have hml : c.maxLocals = 9 := hml0
  have hown : s.vm.findClass "java/lang/StringLatin1" = some m.cls := findClass_of_methodNamed Bd.named
  have hnm := (name_of_methodNamed Bd.named Bd.method).1
  have X0 : Stand p l e ({ frames := 2, cells := 8, slots := 48, locals := 27 } : Room) s m #[(.ref a1), (.ref sb1), (.ref al)] below meth c s₁ [] 0 0 := Stand.of_body Bd
  have e0 : s₁.heap = h0 := by rw [← hh, Bd.state]; rfl
  have N0 := Fr.nil n0
  have X0 : Stand p l e ({ frames := 2, cells := 8, slots := 48, locals := 27 } : Room) (s.setVm s.vm) m #[(.ref a1), (.ref sb1), (.ref al)] below meth c s₁ [] 0 0 := X0
  have hZ : Z.Warmed39 (s.setVm s.vm).vm := hZ
  have hown : (s.setVm s.vm).vm.findClass "java/lang/StringLatin1" = some m.cls := hown
  have hS : s.Since s.vm 0 := (State.WarmedH.refl s).since 0
  refine og (B := s₁.setTop (mkF m 0 #[rv a1, rv sb1, rv al, .unset, .unset, .unset, .unset, .unset, .unset] [])) (fun t k => castTop (ef_21 m a1 sb1 al) k) ?_
  obtain ⟨cl1, Ar1, qk1, S1, M1, H1, G1⟩ := id V_b
  obtain ⟨cl2, Ar2, qk2, S2, M2, H2, G2⟩ := id V_b
  refine og (B := s₁.setTop (mkF m 35 #[rv a1, rv sb1, rv al, iv 0, iv 3, iv (x0 &&& (255 : Int32)), .unset, .unset, .unset] [(.int (x0 &&& (255 : Int32)))])) (fun t k => ?_) ?_
  · refine XS.aloadN X0.here hx rfl (hb hby d21_0) rfl rfl ?_
    refine XS.ifnonnullYes X0.here hx rfl (pc0 := 1) (pc' := 12) rfl (hb hby d21_1) rfl (by decide) (by decide) ?_
    refine XS.aloadN X0.here hx rfl (hb hby d21_12) rfl rfl ?_
    refine X0.arraylength hx (by rw [e0]; exact Ar1.1) (State.isArrayOf_alike hZ.alike Ar1.2.1) (g := (mkF m 13 #[rv a1, rv sb1, rv al, .unset, .unset, .unset, .unset, .unset, .unset] [(.ref sb1)])) rfl rfl (hb hby d21_13) _ ?_
    rw [len_of S1 M1]
    refine XS.istore X0.here hx rfl (hb hby d21_14) rfl (l' := #[rv a1, rv sb1, rv al, .unset, iv 3, .unset, .unset, .unset, .unset]) rfl ?_
    refine XS.iconst X0.here hx rfl (hb hby d21_16) ?_
    show own_S p e below s₁ (mkF m 17 #[rv a1, rv sb1, rv al, .unset, iv 3, .unset, .unset, .unset, .unset] [(.int 0)]) _
    refine XS.istoreN X0.here hx rfl (hb hby d21_17) rfl (l' := #[rv a1, rv sb1, rv al, iv 0, iv 3, .unset, .unset, .unset, .unset]) rfl ?_
    refine XS.iloadN X0.here hx rfl (hb hby d21_18) rfl ?_
    refine XS.iload X0.here hx rfl (hb hby d21_19) rfl ?_
    refine XS.icmpNo X0.here hx rfl (hb hby d21_21) rfl (tlt (by decide)).2.1 ?_
    refine XS.aloadN X0.here hx rfl (hb hby d21_24) rfl rfl ?_
    refine XS.iloadN X0.here hx rfl (hb hby d21_25) rfl ?_
    show own_S p e below s₁ (mkF m 26 #[rv a1, rv sb1, rv al, iv 0, iv 3, .unset, .unset, .unset, .unset] [(.int 0), (.ref sb1)]) _
    refine X0.baloadBytes hx (j := (0 : Int32)) (v := (.int x0)) (by rw [e0]; exact Ar2.1) (State.isArrayOf_alike hZ.alike Ar2.2.1) Ar2.2.2 (inb_of S2 ⟨by decide, by decide⟩) (Has.at H2 (inb_of S2 ⟨by decide, by decide⟩) rfl) (g := (mkF m 26 #[rv a1, rv sb1, rv al, iv 0, iv 3, .unset, .unset, .unset, .unset] [(.int 0), (.ref sb1)])) rfl rfl (hb hby d21_26) _ ?_
    refine XS.sipush X0.here hx rfl (hb hby d21_27) ?_
    refine XS.iand X0.here hx rfl (hb hby d21_30) rfl ?_
    refine XS.istore X0.here hx rfl (hb hby d21_31) rfl (l' := #[rv a1, rv sb1, rv al, iv 0, iv 3, iv (x0 &&& (255 : Int32)), .unset, .unset, .unset]) rfl ?_
    refine XS.iload X0.here hx rfl (hb hby d21_33) rfl ?_
    exact k
  obtain ⟨T3, X3, e3, st3⟩ := getS2 X0 hx hZ hown (host := "") (Or.inl (ow hw 184 rfl)) Via.refl e0 (S_I.ext O0.2) (g := (mkF m 35 #[rv a1, rv sb1, rv al, iv 0, iv 3, iv (x0 &&& (255 : Int32)), .unset, .unset, .unset] [(.int (x0 &&& (255 : Int32)))])) rfl (hb hby d21_35)
  refine og (B := T3.setTop (mkF m 38 #[rv a1, rv sb1, rv al, iv 0, iv 3, iv (x0 &&& (255 : Int32)), .unset, .unset, .unset] [(.ref ci), (.int (x0 &&& (255 : Int32)))])) st3 ?_
  refine og (B := T3.setTop (mkF m 40 #[rv a1, rv sb1, rv al, iv 0, iv 3, iv (x0 &&& (255 : Int32)), .unset, .unset, .unset] [(.int (x0 &&& (255 : Int32))), (.ref ci), (.int (x0 &&& (255 : Int32)))])) (fun t k => ?_) ?_
  · refine XS.iload X3.here hx rfl (hb hby d21_38) rfl ?_
    exact k
  obtain ⟨cq4, kq4, q4a, q4b, q4c⟩ := isOf hZ e3 (E_ci.ext O0.2)
  obtain ⟨_, _, ⟨T4, L4, k4, n4⟩, -, X4, ⟨Lc4, hQ4, l4, y4, z4⟩, st4⟩ := X3.virtualBack hx (y := own_y31) (z := own_y31) hown (mvT hZ (ow hw 186 rfl)) (mvT hZ (ow hw 187 rfl)) (notFace_of_selects (args := #[]) (mvT hZ (ow hw 189 rfl))) (mvT hZ (ow hw 189 rfl)) (mvT hZ (ow hw 188 rfl)) (by decide) (backOf (W := 1) (rm37 l Z a0 hw [] ci (x0 &&& (255 : Int32)) h0 n0 Z0) hZ (ow hw 190 rfl) (ow hw 185 rfl) (by decide) (by decide)) q4a q4c (g := (mkF m 40 #[rv a1, rv sb1, rv al, iv 0, iv 3, iv (x0 &&& (255 : Int32)), .unset, .unset, .unset] [(.int (x0 &&& (255 : Int32))), (.ref ci), (.int (x0 &&& (255 : Int32)))])) rfl (by rw [hml]; rfl) (Steps.refl _) (argsL := [(.int (x0 &&& (255 : Int32)))]) (rest := [(.int (x0 &&& (255 : Int32)))]) (lenOf own_pd21 rfl) rfl (Nat.le_refl _) (hb hby d21_40) (fun _ _ => ⟨rfl, e3, (by decide : 0 + 0 ≤ _), (by decide : 0 + 0 ≤ _)⟩)
  dsimp only [Pt.U, Pt.locs, Pt.cells, Pt.slots] at X4 l4 y4 z4 st4 hQ4
  subst l4 y4 z4
  obtain ⟨rfl, N4q, eq4⟩ := hQ4
  have N4 := Fr.app N0 N4q
  refine og (B := T4.setTop (mkF m 43 #[rv a1, rv sb1, rv al, iv 0, iv 3, iv (x0 &&& (255 : Int32)), .unset, .unset, .unset] [(.int (own_low (x0 &&& (255 : Int32)))), (.int (x0 &&& (255 : Int32)))])) (fun _ => st4.trans) ?_
  by_cases hc43_5 : (x0 &&& (255 : Int32)) = (own_low (x0 &&& (255 : Int32)))
  · obtain ⟨cl6, Ar6, qk6, S6, M6, H6, G6⟩ := id V_b
    refine og (B := T4.setTop (mkF m 35 #[rv a1, rv sb1, rv al, iv 1, iv 3, iv (x1 &&& (255 : Int32)), .unset, .unset, .unset] [(.int (x1 &&& (255 : Int32)))])) (fun t k => ?_) ?_
    · refine XS.icmpYes X4.here hx rfl (pc0 := 43) (pc' := 49) rfl (hb hby d21_43) rfl (teq hc43_5).1 (by decide) (by decide) ?_
      refine XS.iinc X4.here hx rfl (hb hby d21_49) rfl (l' := #[rv a1, rv sb1, rv al, iv 1, iv 3, iv (x0 &&& (255 : Int32)), .unset, .unset, .unset]) rfl ?_
      refine XS.goto X4.here hx rfl (pc0 := 52) (pc' := 18) rfl (hb hby d21_52) (by decide) (by decide) ?_
      refine XS.iloadN X4.here hx rfl (hb hby d21_18) rfl ?_
      refine XS.iload X4.here hx rfl (hb hby d21_19) rfl ?_
      refine XS.icmpNo X4.here hx rfl (hb hby d21_21) rfl (tlt (by decide)).2.1 ?_
      show own_S p e below T4 (mkF m 24 #[rv a1, rv sb1, rv al, iv 1, iv 3, iv (x0 &&& (255 : Int32)), .unset, .unset, .unset] []) _
      refine XS.aloadN X4.here hx rfl (hb hby d21_24) rfl rfl ?_
      refine XS.iloadN X4.here hx rfl (hb hby d21_25) rfl ?_
      refine X4.baloadBytes hx (j := (1 : Int32)) (v := (.int x1)) (by rw [eq4]; exact Ar6.1) (State.isArrayOf_alike hZ.alike Ar6.2.1) Ar6.2.2 (inb_of S6 ⟨by decide, by decide⟩) (Has.at H6 (inb_of S6 ⟨by decide, by decide⟩) rfl) (g := (mkF m 26 #[rv a1, rv sb1, rv al, iv 1, iv 3, iv (x0 &&& (255 : Int32)), .unset, .unset, .unset] [(.int 1), (.ref sb1)])) rfl rfl (hb hby d21_26) _ ?_
      refine XS.sipush X4.here hx rfl (hb hby d21_27) ?_
      refine XS.iand X4.here hx rfl (hb hby d21_30) rfl ?_
      refine XS.istore X4.here hx rfl (hb hby d21_31) rfl (l' := #[rv a1, rv sb1, rv al, iv 1, iv 3, iv (x1 &&& (255 : Int32)), .unset, .unset, .unset]) rfl ?_
      show own_S p e below T4 (mkF m 33 #[rv a1, rv sb1, rv al, iv 1, iv 3, iv (x1 &&& (255 : Int32)), .unset, .unset, .unset] []) _
      refine XS.iload X4.here hx rfl (hb hby d21_33) rfl ?_
      exact k
    obtain ⟨T7, X7, e7, st7⟩ := getS2 X4 hx hZ hown (host := "") (Or.inl (ow hw 184 rfl)) Via.refl eq4 (S_I.ext O0.2) (g := (mkF m 35 #[rv a1, rv sb1, rv al, iv 1, iv 3, iv (x1 &&& (255 : Int32)), .unset, .unset, .unset] [(.int (x1 &&& (255 : Int32)))])) rfl (hb hby d21_35)
    refine og (B := T7.setTop (mkF m 38 #[rv a1, rv sb1, rv al, iv 1, iv 3, iv (x1 &&& (255 : Int32)), .unset, .unset, .unset] [(.ref ci), (.int (x1 &&& (255 : Int32)))])) st7 ?_
    refine og (B := T7.setTop (mkF m 40 #[rv a1, rv sb1, rv al, iv 1, iv 3, iv (x1 &&& (255 : Int32)), .unset, .unset, .unset] [(.int (x1 &&& (255 : Int32))), (.ref ci), (.int (x1 &&& (255 : Int32)))])) (fun t k => ?_) ?_
    · refine XS.iload X7.here hx rfl (hb hby d21_38) rfl ?_
      exact k
    obtain ⟨cq8, kq8, q8a, q8b, q8c⟩ := isOf hZ e7 (E_ci.ext O0.2)
    obtain ⟨_, _, ⟨T8, L8, k8, n8⟩, -, X8, ⟨Lc8, hQ8, l8, y8, z8⟩, st8⟩ := X7.virtualBack hx (y := own_y31) (z := own_y31) hown (mvT hZ (ow hw 186 rfl)) (mvT hZ (ow hw 187 rfl)) (notFace_of_selects (args := #[]) (mvT hZ (ow hw 189 rfl))) (mvT hZ (ow hw 189 rfl)) (mvT hZ (ow hw 188 rfl)) (by decide) (backOf (W := 1) (rm37 l Z a0 hw [] ci (x1 &&& (255 : Int32)) h0 n0 Z0) hZ (ow hw 190 rfl) (ow hw 185 rfl) (by decide) (by decide)) q8a q8c (g := (mkF m 40 #[rv a1, rv sb1, rv al, iv 1, iv 3, iv (x1 &&& (255 : Int32)), .unset, .unset, .unset] [(.int (x1 &&& (255 : Int32))), (.ref ci), (.int (x1 &&& (255 : Int32)))])) rfl (by rw [hml]; rfl) (Steps.refl _) (argsL := [(.int (x1 &&& (255 : Int32)))]) (rest := [(.int (x1 &&& (255 : Int32)))]) (lenOf own_pd21 rfl) rfl (Nat.le_refl _) (hb hby d21_40) (fun _ _ => ⟨rfl, e7, (by decide : 0 + 0 ≤ _), (by decide : 0 + 0 ≤ _)⟩)
    dsimp only [Pt.U, Pt.locs, Pt.cells, Pt.slots] at X8 l8 y8 z8 st8 hQ8
    subst l8 y8 z8
    obtain ⟨rfl, N8q, eq8⟩ := hQ8
    have N8 := Fr.app N4 N8q
    refine og (B := T8.setTop (mkF m 43 #[rv a1, rv sb1, rv al, iv 1, iv 3, iv (x1 &&& (255 : Int32)), .unset, .unset, .unset] [(.int (own_low (x1 &&& (255 : Int32)))), (.int (x1 &&& (255 : Int32)))])) (fun _ => st8.trans) ?_
    by_cases hc43_9 : (x1 &&& (255 : Int32)) = (own_low (x1 &&& (255 : Int32)))
    · obtain ⟨cl10, Ar10, qk10, S10, M10, H10, G10⟩ := id V_b
      refine og (B := T8.setTop (mkF m 35 #[rv a1, rv sb1, rv al, iv 2, iv 3, iv (x2 &&& (255 : Int32)), .unset, .unset, .unset] [(.int (x2 &&& (255 : Int32)))])) (fun t k => ?_) ?_
      · refine XS.icmpYes X8.here hx rfl (pc0 := 43) (pc' := 49) rfl (hb hby d21_43) rfl (teq hc43_9).1 (by decide) (by decide) ?_
        refine XS.iinc X8.here hx rfl (hb hby d21_49) rfl (l' := #[rv a1, rv sb1, rv al, iv 2, iv 3, iv (x1 &&& (255 : Int32)), .unset, .unset, .unset]) rfl ?_
        refine XS.goto X8.here hx rfl (pc0 := 52) (pc' := 18) rfl (hb hby d21_52) (by decide) (by decide) ?_
        refine XS.iloadN X8.here hx rfl (hb hby d21_18) rfl ?_
        refine XS.iload X8.here hx rfl (hb hby d21_19) rfl ?_
        refine XS.icmpNo X8.here hx rfl (hb hby d21_21) rfl (tlt (by decide)).2.1 ?_
        show own_S p e below T8 (mkF m 24 #[rv a1, rv sb1, rv al, iv 2, iv 3, iv (x1 &&& (255 : Int32)), .unset, .unset, .unset] []) _
        refine XS.aloadN X8.here hx rfl (hb hby d21_24) rfl rfl ?_
        refine XS.iloadN X8.here hx rfl (hb hby d21_25) rfl ?_
        refine X8.baloadBytes hx (j := (2 : Int32)) (v := (.int x2)) (by rw [eq8]; exact Ar10.1) (State.isArrayOf_alike hZ.alike Ar10.2.1) Ar10.2.2 (inb_of S10 ⟨by decide, by decide⟩) (Has.at H10 (inb_of S10 ⟨by decide, by decide⟩) rfl) (g := (mkF m 26 #[rv a1, rv sb1, rv al, iv 2, iv 3, iv (x1 &&& (255 : Int32)), .unset, .unset, .unset] [(.int 2), (.ref sb1)])) rfl rfl (hb hby d21_26) _ ?_
        refine XS.sipush X8.here hx rfl (hb hby d21_27) ?_
        refine XS.iand X8.here hx rfl (hb hby d21_30) rfl ?_
        refine XS.istore X8.here hx rfl (hb hby d21_31) rfl (l' := #[rv a1, rv sb1, rv al, iv 2, iv 3, iv (x2 &&& (255 : Int32)), .unset, .unset, .unset]) rfl ?_
        show own_S p e below T8 (mkF m 33 #[rv a1, rv sb1, rv al, iv 2, iv 3, iv (x2 &&& (255 : Int32)), .unset, .unset, .unset] []) _
        refine XS.iload X8.here hx rfl (hb hby d21_33) rfl ?_
        exact k
      obtain ⟨T11, X11, e11, st11⟩ := getS2 X8 hx hZ hown (host := "") (Or.inl (ow hw 184 rfl)) Via.refl eq8 (S_I.ext O0.2) (g := (mkF m 35 #[rv a1, rv sb1, rv al, iv 2, iv 3, iv (x2 &&& (255 : Int32)), .unset, .unset, .unset] [(.int (x2 &&& (255 : Int32)))])) rfl (hb hby d21_35)
      refine og (B := T11.setTop (mkF m 38 #[rv a1, rv sb1, rv al, iv 2, iv 3, iv (x2 &&& (255 : Int32)), .unset, .unset, .unset] [(.ref ci), (.int (x2 &&& (255 : Int32)))])) st11 ?_
      refine og (B := T11.setTop (mkF m 40 #[rv a1, rv sb1, rv al, iv 2, iv 3, iv (x2 &&& (255 : Int32)), .unset, .unset, .unset] [(.int (x2 &&& (255 : Int32))), (.ref ci), (.int (x2 &&& (255 : Int32)))])) (fun t k => ?_) ?_
      · refine XS.iload X11.here hx rfl (hb hby d21_38) rfl ?_
        exact k
      obtain ⟨cq12, kq12, q12a, q12b, q12c⟩ := isOf hZ e11 (E_ci.ext O0.2)
      obtain ⟨_, _, ⟨T12, L12, k12, n12⟩, -, X12, ⟨Lc12, hQ12, l12, y12, z12⟩, st12⟩ := X11.virtualBack hx (y := own_y31) (z := own_y31) hown (mvT hZ (ow hw 186 rfl)) (mvT hZ (ow hw 187 rfl)) (notFace_of_selects (args := #[]) (mvT hZ (ow hw 189 rfl))) (mvT hZ (ow hw 189 rfl)) (mvT hZ (ow hw 188 rfl)) (by decide) (backOf (W := 1) (rm37 l Z a0 hw [] ci (x2 &&& (255 : Int32)) h0 n0 Z0) hZ (ow hw 190 rfl) (ow hw 185 rfl) (by decide) (by decide)) q12a q12c (g := (mkF m 40 #[rv a1, rv sb1, rv al, iv 2, iv 3, iv (x2 &&& (255 : Int32)), .unset, .unset, .unset] [(.int (x2 &&& (255 : Int32))), (.ref ci), (.int (x2 &&& (255 : Int32)))])) rfl (by rw [hml]; rfl) (Steps.refl _) (argsL := [(.int (x2 &&& (255 : Int32)))]) (rest := [(.int (x2 &&& (255 : Int32)))]) (lenOf own_pd21 rfl) rfl (Nat.le_refl _) (hb hby d21_40) (fun _ _ => ⟨rfl, e11, (by decide : 0 + 0 ≤ _), (by decide : 0 + 0 ≤ _)⟩)
      dsimp only [Pt.U, Pt.locs, Pt.cells, Pt.slots] at X12 l12 y12 z12 st12 hQ12
      subst l12 y12 z12
      obtain ⟨rfl, N12q, eq12⟩ := hQ12
      have N12 := Fr.app N8 N12q
      refine og (B := T12.setTop (mkF m 43 #[rv a1, rv sb1, rv al, iv 2, iv 3, iv (x2 &&& (255 : Int32)), .unset, .unset, .unset] [(.int (own_low (x2 &&& (255 : Int32)))), (.int (x2 &&& (255 : Int32)))])) (fun _ => st12.trans) ?_
      by_cases hc43_13 : (x2 &&& (255 : Int32)) = (own_low (x2 &&& (255 : Int32)))
      · obtain ⟨fs, hr, hrun, hended, hRW⟩ := X12.leaveW hS (by rw [eq12]; exact (Nat.zero_le _)) (v := some (.ref a1)) (fun h => by rw [Bd.returns] at h; cases h)
        refine ⟨_, _, ?_, hrun, hended, _, _, rfl, ?_, (by have q := (CHr.refl hCH).trans (CHv.at X12 hZ (own_hEL hw) (CHr.refl hCH).1); show CHr Z consts_1 s.vm s.heap T12.vm T12.heap; rw [eq12, hh]; exact q), hRW.1, hRW.2.1, hRW.2.2.1, hRW.2.2.2.mono (by decide) (by decide)⟩
        · refine XS.icmpYes X12.here hx rfl (pc0 := 43) (pc' := 49) rfl (hb hby d21_43) rfl (teq hc43_13).1 (by decide) (by decide) ?_
          refine XS.iinc X12.here hx rfl (hb hby d21_49) rfl (l' := #[rv a1, rv sb1, rv al, iv 3, iv 3, iv (x2 &&& (255 : Int32)), .unset, .unset, .unset]) rfl ?_
          refine XS.goto X12.here hx rfl (pc0 := 52) (pc' := 18) rfl (hb hby d21_52) (by decide) (by decide) ?_
          refine XS.iloadN X12.here hx rfl (hb hby d21_18) rfl ?_
          refine XS.iload X12.here hx rfl (hb hby d21_19) rfl ?_
          refine XS.icmpYes X12.here hx rfl (pc0 := 21) (pc' := 55) rfl (hb hby d21_21) rfl (flt (by decide)).2.1 (by decide) (by decide) ?_
          show own_S p e below T12 (mkF m 55 #[rv a1, rv sb1, rv al, iv 3, iv 3, iv (x2 &&& (255 : Int32)), .unset, .unset, .unset] []) _
          refine XS.iloadN X12.here hx rfl (hb hby d21_55) rfl ?_
          refine XS.iload X12.here hx rfl (hb hby d21_56) rfl ?_
          refine XS.icmpNo X12.here hx rfl (hb hby d21_58) rfl (teq (by decide)).2 ?_
          refine XS.aloadN X12.here hx rfl (hb hby d21_61) rfl rfl ?_
          show own_S p e below T12 (mkF m 62 #[rv a1, rv sb1, rv al, iv 3, iv 3, iv (x2 &&& (255 : Int32)), .unset, .unset, .unset] [(.ref a1)]) _
          jvm_step X12.here [X12.here.top, hx, (hb hby d21_62), X12.method', Bd.returns, Value.isRef, FieldType.isReference]
          first | (intro acts; rw [hr _ acts rfl rfl rfl]) | rw [hr _ _ rfl rfl rfl]
          exact Steps.refl _
        · show Q21_3 Z a1 sb1 kb x0 x1 x2 GC ci al ab ag agv h0 n0 _ T12.heap _
          rw [eq12]
          exact ⟨a1, sb1, kb, x0, x1, x2, rfl, N12, (Keep.refl h0 []), E_a1, F_c, F_v, V_b, Or.inl rfl, Or.inl rfl, hc43_5, hc43_9, hc43_13, trivial⟩
      · refine og (B := T12.setTop (mkF m 63 #[rv a1, rv sb1, rv al, iv 2, iv 3, iv (x2 &&& (255 : Int32)), .unset, .unset, .unset] [])) (fun t k => ?_) ?_
        · refine XS.icmpNo X12.here hx rfl (hb hby d21_43) rfl (feq hc43_13).1 ?_
          refine XS.goto X12.here hx rfl (pc0 := 46) (pc' := 55) rfl (hb hby d21_46) (by decide) (by decide) ?_
          refine XS.iloadN X12.here hx rfl (hb hby d21_55) rfl ?_
          refine XS.iload X12.here hx rfl (hb hby d21_56) rfl ?_
          refine XS.icmpYes X12.here hx rfl (pc0 := 58) (pc' := 63) rfl (hb hby d21_58) rfl (feq (by decide)).2 (by decide) (by decide) ?_
          exact k
        refine og (B := T12.setTop (mkF m 64 #[rv a1, rv sb1, rv al, iv 2, iv 3, iv (x2 &&& (255 : Int32)), .unset, .unset, .unset] [(.ref al)])) (fun t k => ?_) ?_
        · refine XS.aloadN X12.here hx rfl (hb hby d21_63) rfl rfl ?_
          exact k
        obtain ⟨cq14, kq14, q14a, q14b, q14c⟩ := isOf hZ eq12 (E_al.ext O0.2)
        obtain ⟨_, _, ⟨T14, L14, k14, n14⟩, -, X14, ⟨Lc14, hQ14, l14, y14, z14⟩, st14⟩ := X12.virtualBack hx (y := own_y34) (z := own_y34) hown (mvT hZ (ow hw 194 rfl)) (mvT hZ (ow hw 195 rfl)) (notFace_of_selects (args := #[]) (mvT hZ (ow hw 197 rfl))) (mvT hZ (ow hw 197 rfl)) (mvT hZ (ow hw 196 rfl)) (by decide) (backOf (W := 0) (rm39 l Z a0 hw [] al ab ag h0 n0 Z0 (F_ab.ext O0.2) (E_ab.ext O0.2) (F_ag.ext O0.2)) hZ (ow hw 198 rfl) (ow hw 107 rfl) (by decide) (by decide)) q14a q14c (g := (mkF m 64 #[rv a1, rv sb1, rv al, iv 2, iv 3, iv (x2 &&& (255 : Int32)), .unset, .unset, .unset] [(.ref al)])) rfl (by rw [hml]; rfl) (Steps.refl _) (argsL := []) (rest := []) (lenOf own_pd20 rfl) rfl (Nat.le_refl _) (hb hby d21_64) (fun _ _ => ⟨rfl, eq12, (by decide : 0 + 0 ≤ _), (by decide : 0 + 0 ≤ _)⟩)
        dsimp only [Pt.U, Pt.locs, Pt.cells, Pt.slots] at X14 l14 y14 z14 st14 hQ14
        subst l14 y14 z14
        obtain ⟨rfl, N14q, eq14⟩ := hQ14
        have N14 := Fr.app N12 N14q
        refine og (B := T14.setTop (mkF m 67 #[rv a1, rv sb1, rv al, iv 2, iv 3, iv (x2 &&& (255 : Int32)), .unset, .unset, .unset] [(.ref ag)])) (fun _ => st14.trans) ?_
        refine og (B := T14.setTop (mkF m 71 #[rv a1, rv sb1, rv al, iv 2, iv 3, rv ag, .unset, .unset, .unset] [(.ref ag)])) (fun t k => ?_) ?_
        · refine XS.astore X14.here hx rfl (hb hby d21_67) rfl rfl (l' := #[rv a1, rv sb1, rv al, iv 2, iv 3, rv ag, .unset, .unset, .unset]) rfl ?_
          refine XS.aload X14.here hx rfl (hb hby d21_69) rfl rfl ?_
          exact k
        obtain ⟨as15, T15, h15, kk15, bs15, ks15, X15, e15, E15, hS, hk15, hZ, hown, LE15, LC15, LV15, LA15, la15, lb15, hC15, hL15, hSf15, st15⟩ := ldcCH (EL := consts_1) X14 hx hZ hown (ow hw 209 rfl) (own_wS hw) eq14 hS (Nat.zero_le _) (own_hEL hw) (by decide) (CHr.refl hCH).1 (z := (2 : Int32)) own_httr (by decide) rfl (g := (mkF m 71 #[rv a1, rv sb1, rv al, iv 2, iv 3, rv ag, .unset, .unset, .unset] [(.ref ag)])) rfl (hb hby d21_71) (n := 8) (by decide) (by decide) (by decide) (by decide)
        have Ch15 := (CHr.refl hCH).trans hC15
        have c15_V_sb1 := V_b.ext E15
        have K15 := (Keep.refl h0 []).ext E15
        have O15 := O0.ext E15
        refine og (B := T15.setTop (mkF m 73 #[rv a1, rv sb1, rv al, iv 2, iv 3, rv ag, .unset, .unset, .unset] [(.ref as15), (.ref ag)])) st15 ?_
        refine og (B := T15.setTop (mkF m 76 #[rv a1, rv sb1, rv al, iv 2, iv 3, rv ag, .unset, .unset, .unset] [])) (fun t k => ?_) ?_
        · refine Jvm.RoadKit.acmp (g := (mkF m 73 #[rv a1, rv sb1, rv al, iv 2, iv 3, rv ag, .unset, .unset, .unset] [(.ref as15), (.ref ag)])) X15 hx rfl rfl rfl (pc0 := 73) (pc' := 76) (same := false) rfl (hb hby d21_73) rfl (decide_eq_false fun q => (own_lne (F_gv.ext O15.2) (V_gv.ext O15.2) LV15 LA15) (Value.ref.inj q)) (by decide) (by decide) ?_
          exact k
        refine og (B := T15.setTop (mkF m 78 #[rv a1, rv sb1, rv al, iv 2, iv 3, rv ag, .unset, .unset, .unset] [(.ref ag)])) (fun t k => ?_) ?_
        · refine XS.aload X15.here hx rfl (hb hby d21_76) rfl rfl ?_
          exact k
        obtain ⟨as16, T16, h16, kk16, bs16, ks16, X16, e16, E16, hS, hk16, hZ, hown, LE16, LC16, LV16, LA16, la16, lb16, hC16, hL16, hSf16, st16⟩ := ldcCH (EL := consts_1) X15 hx hZ hown (ow hw 210 rfl) (own_wS hw) e15 hS hk15 (own_hEL hw) (by decide) (Ch15).1 (z := (2 : Int32)) own_htaz (by decide) rfl (g := (mkF m 78 #[rv a1, rv sb1, rv al, iv 2, iv 3, rv ag, .unset, .unset, .unset] [(.ref ag)])) rfl (hb hby d21_78) (n := 8) (by decide) (by decide) (by decide) (by decide)
        have Ch16 := (Ch15).trans hC16
        have c16_V_sb1 := c15_V_sb1.ext E16
        have K16 := K15.ext E16
        have O16 := O15.ext E16
        have zs16 := (Nat.le_trans (Nat.le_trans Z0 E15.1) E16.1)
        refine og (B := T16.setTop (mkF m 80 #[rv a1, rv sb1, rv al, iv 2, iv 3, rv ag, .unset, .unset, .unset] [(.ref as16), (.ref ag)])) st16 ?_
        refine og (B := T16.setTop (mkF m 83 #[rv a1, rv sb1, rv al, iv 2, iv 3, rv ag, .unset, .unset, .unset] [])) (fun t k => ?_) ?_
        · refine Jvm.RoadKit.acmp (g := (mkF m 80 #[rv a1, rv sb1, rv al, iv 2, iv 3, rv ag, .unset, .unset, .unset] [(.ref as16), (.ref ag)])) X16 hx rfl rfl rfl (pc0 := 80) (pc' := 83) (same := false) rfl (hb hby d21_80) rfl (decide_eq_false fun q => (own_lne (F_gv.ext O16.2) (V_gv.ext O16.2) LV16 LA16) (Value.ref.inj q)) (by decide) (by decide) ?_
          exact k
        refine og (B := T16.setTop (mkF m 85 #[rv a1, rv sb1, rv al, iv 2, iv 3, rv ag, .unset, .unset, .unset] [(.ref ag)])) (fun t k => ?_) ?_
        · refine XS.aload X16.here hx rfl (hb hby d21_83) rfl rfl ?_
          exact k
        obtain ⟨as17, T17, h17, kk17, bs17, ks17, X17, e17, E17, hS, hk17, hZ, hown, LE17, LC17, LV17, LA17, la17, lb17, hC17, hL17, hSf17, st17⟩ := ldcCH (EL := consts_1) X16 hx hZ hown (ow hw 211 rfl) (own_wS hw) e16 hS hk16 (own_hEL hw) (by decide) (Ch16).1 (z := (2 : Int32)) own_htlt (by decide) rfl (g := (mkF m 85 #[rv a1, rv sb1, rv al, iv 2, iv 3, rv ag, .unset, .unset, .unset] [(.ref ag)])) rfl (hb hby d21_85) (n := 8) (by decide) (by decide) (by decide) (by decide)
        have Ch17 := (Ch16).trans hC17
        have c17_V_sb1 := c16_V_sb1.ext E17
        have K17 := K16.ext E17
        have O17 := O16.ext E17
        refine og (B := T17.setTop (mkF m 87 #[rv a1, rv sb1, rv al, iv 2, iv 3, rv ag, .unset, .unset, .unset] [(.ref as17), (.ref ag)])) st17 ?_
        refine og (B := T17.setTop (mkF m 99 #[rv a1, rv sb1, rv al, iv 2, iv 3, rv ag, .unset, .unset, .unset] [])) (fun t k => ?_) ?_
        · refine Jvm.RoadKit.acmp (g := (mkF m 87 #[rv a1, rv sb1, rv al, iv 2, iv 3, rv ag, .unset, .unset, .unset] [(.ref as17), (.ref ag)])) X17 hx rfl rfl rfl (pc0 := 87) (pc' := 99) (same := false) rfl (hb hby d21_87) rfl (decide_eq_false fun q => (own_lne (F_gv.ext O17.2) (V_gv.ext O17.2) LV17 LA17) (Value.ref.inj q)) (by decide) (by decide) ?_
          exact k
        refine og (B := T17.setTop (mkF m 101 #[rv a1, rv sb1, rv al, iv 2, iv 3, rv ag, .unset, .unset, .unset] [(.int 3)])) (fun t k => ?_) ?_
        · refine XS.iload X17.here hx rfl (hb hby d21_99) rfl ?_
          exact k
        obtain ⟨T18, h18, k18, X18, e18, E18, A18, st18⟩ := newP X17 hx hZ (ow hw 19 rfl) e17 (g := (mkF m 101 #[rv a1, rv sb1, rv al, iv 2, iv 3, rv ag, .unset, .unset, .unset] [(.int 3)])) rfl (hb hby d21_101) rfl (by decide) (cap := 3) (by decide) (by decide) (by decide) (by decide)
        obtain ⟨b18, g18⟩ : ∃ z, z = h17.size := ⟨_, rfl⟩
        rw [← g18] at A18 st18
        have g_b18 : n0 ≤ b18 := Nat.le_trans (Nat.le_trans zs16 E17.1) (Nat.le_of_eq g18.symm)
        have sz_b18 : h0.size ≤ b18 := Nat.le_trans K17.1 (Nat.le_of_eq g18.symm)
        have sy_b18 : h17.size ≤ b18 := Nat.le_trans (Keep.refl h17 []).1 (Nat.le_of_eq g18.symm)
        have ne_sb1_b18 : sb1 ≠ b18 := Nat.ne_of_lt (Nat.lt_of_lt_of_le c17_V_sb1.lt (Nat.le_of_eq g18.symm))
        have c18_V_sb1 := c17_V_sb1.ext E18
        have K18 := K17.ext E18
        have J18 := (Keep.refl h17 []).ext E18
        have O18 := O17.ext E18
        have V18 : Arv Z h18 b18 k18 .byte (3 : Int32) [(.int 0), (.int 0), (.int 0)] (.int 0) := (Arv.new A18 (by decide)).pad (pad_rep [] (.int 0) 3)
        have zs18 := (Nat.le_trans (Nat.le_trans zs16 E17.1) E18.1)
        refine og (B := T18.setTop (mkF m 103 #[rv a1, rv sb1, rv al, iv 2, iv 3, rv ag, .unset, .unset, .unset] [(.ref b18)])) st18 ?_
        refine og (B := T18.setTop (mkF m 111 #[rv a1, rv sb1, rv al, iv 2, iv 3, rv ag, rv b18, .unset, .unset] [(.int 2), (.int 0), (.ref b18), (.int 0), (.ref sb1)])) (fun t k => ?_) ?_
        · refine XS.astore X18.here hx rfl (hb hby d21_103) rfl rfl (l' := #[rv a1, rv sb1, rv al, iv 2, iv 3, rv ag, rv b18, .unset, .unset]) rfl ?_
          refine XS.aloadN X18.here hx rfl (hb hby d21_105) rfl rfl ?_
          refine XS.iconst X18.here hx rfl (hb hby d21_106) ?_
          refine XS.aload X18.here hx rfl (hb hby d21_107) rfl rfl ?_
          refine XS.iconst X18.here hx rfl (hb hby d21_109) ?_
          refine XS.iloadN X18.here hx rfl (hb hby d21_110) rfl ?_
          exact k
        obtain ⟨T19, h19, L19, X19, e19, N19, K19q, V19q, st19⟩ := cpA X18 hx hZ hown (ow hw 212 rfl) (ow hw 105 rfl) (ow hw 103 rfl) (ow hw 104 rfl) e18 c18_V_sb1 V18 (us := [(.int x0), (.int x1)]) (Or.inl ⟨rfl, rfl⟩) (by decide) (by decide) (by decide) (by decide) (by decide) rfl (Nat.le_of_ble_eq_true rfl) N14 g_b18 (g := (mkF m 111 #[rv a1, rv sb1, rv al, iv 2, iv 3, rv ag, rv b18, .unset, .unset] [(.int 2), (.int 0), (.ref b18), (.int 0), (.ref sb1)])) rfl (by rw [hml]; rfl) (rest := []) rfl (hb hby d21_111) (by decide) (W := 0) (Nat.le_refl _) (by decide)
        have V19 : Arv Z h19 b18 k18 .byte (3 : Int32) [(.int x0), (.int x1), (.int 0)] (.int 0) := V19q
        have c19_V_sb1 := c18_V_sb1.keep K19q (fun q => ne_sb1_b18 (List.mem_singleton.mp q))
        have O19 := O18.keep K19q (allS g_b18 all0)
        have K19 := K18.trans K19q (allS (Or.inr sz_b18) all0)
        have J19 := J18.trans K19q (allS (Or.inr sy_b18) all0)
        have zk19 := (Nat.le_trans (Nat.le_trans hk17 E18.1) K19q.1)
        refine og (B := T19.setTop (mkF m 114 #[rv a1, rv sb1, rv al, iv 2, iv 3, rv ag, rv b18, .unset, .unset] [])) st19 ?_
        obtain ⟨cl20, Ar20, qk20, S20, M20, H20, G20⟩ := id c19_V_sb1
        refine og (B := T19.setTop (mkF m 134 #[rv a1, rv sb1, rv al, iv 2, iv 3, rv ag, rv b18, iv 2, iv (x2 &&& (255 : Int32))] [])) (fun t k => ?_) ?_
        · refine XS.iloadN X19.here hx rfl (hb hby d21_114) rfl ?_
          refine XS.istore X19.here hx rfl (hb hby d21_115) rfl (l' := #[rv a1, rv sb1, rv al, iv 2, iv 3, rv ag, rv b18, iv 2, .unset]) rfl ?_
          refine XS.iload X19.here hx rfl (hb hby d21_117) rfl ?_
          refine XS.iload X19.here hx rfl (hb hby d21_119) rfl ?_
          refine XS.icmpNo X19.here hx rfl (hb hby d21_121) rfl (tlt (by decide)).2.1 ?_
          refine XS.aloadN X19.here hx rfl (hb hby d21_124) rfl rfl ?_
          show own_S p e below T19 (mkF m 125 #[rv a1, rv sb1, rv al, iv 2, iv 3, rv ag, rv b18, iv 2, .unset] [(.ref sb1)]) _
          refine XS.iload X19.here hx rfl (hb hby d21_125) rfl ?_
          refine X19.baloadBytes hx (j := (2 : Int32)) (v := (.int x2)) (by rw [e19]; exact Ar20.1) (State.isArrayOf_alike hZ.alike Ar20.2.1) Ar20.2.2 (inb_of S20 ⟨by decide, by decide⟩) (Has.at H20 (inb_of S20 ⟨by decide, by decide⟩) rfl) (g := (mkF m 127 #[rv a1, rv sb1, rv al, iv 2, iv 3, rv ag, rv b18, iv 2, .unset] [(.int 2), (.ref sb1)])) rfl rfl (hb hby d21_127) _ ?_
          refine XS.sipush X19.here hx rfl (hb hby d21_128) ?_
          refine XS.iand X19.here hx rfl (hb hby d21_131) rfl ?_
          refine XS.istore X19.here hx rfl (hb hby d21_132) rfl (l' := #[rv a1, rv sb1, rv al, iv 2, iv 3, rv ag, rv b18, iv 2, iv (x2 &&& (255 : Int32))]) rfl ?_
          exact k
        obtain ⟨T21, X21, e21, st21⟩ := getS2 X19 hx hZ hown (host := "") (Or.inl (ow hw 184 rfl)) Via.refl e19 (S_I.ext O19.2) (g := (mkF m 134 #[rv a1, rv sb1, rv al, iv 2, iv 3, rv ag, rv b18, iv 2, iv (x2 &&& (255 : Int32))] [])) rfl (hb hby d21_134)
        refine og (B := T21.setTop (mkF m 137 #[rv a1, rv sb1, rv al, iv 2, iv 3, rv ag, rv b18, iv 2, iv (x2 &&& (255 : Int32))] [(.ref ci)])) st21 ?_
        refine og (B := T21.setTop (mkF m 139 #[rv a1, rv sb1, rv al, iv 2, iv 3, rv ag, rv b18, iv 2, iv (x2 &&& (255 : Int32))] [(.int (x2 &&& (255 : Int32))), (.ref ci)])) (fun t k => ?_) ?_
        · refine XS.iload X21.here hx rfl (hb hby d21_137) rfl ?_
          exact k
        obtain ⟨cq22, kq22, q22a, q22b, q22c⟩ := isOf hZ e21 (E_ci.ext O19.2)
        obtain ⟨_, _, ⟨T22, L22, k22, n22⟩, -, X22, ⟨Lc22, hQ22, l22, y22, z22⟩, st22⟩ := X21.virtualBack hx (y := own_y31) (z := own_y31) hown (mvT hZ (ow hw 186 rfl)) (mvT hZ (ow hw 187 rfl)) (notFace_of_selects (args := #[]) (mvT hZ (ow hw 189 rfl))) (mvT hZ (ow hw 189 rfl)) (mvT hZ (ow hw 188 rfl)) (by decide) (backOf (W := 0) (rm37 l Z a0 hw [] ci (x2 &&& (255 : Int32)) h19 n0 (Nat.le_trans zs18 K19q.1)) hZ (ow hw 190 rfl) (ow hw 185 rfl) (by decide) (by decide)) q22a q22c (g := (mkF m 139 #[rv a1, rv sb1, rv al, iv 2, iv 3, rv ag, rv b18, iv 2, iv (x2 &&& (255 : Int32))] [(.int (x2 &&& (255 : Int32))), (.ref ci)])) rfl (by rw [hml]; rfl) (Steps.refl _) (argsL := [(.int (x2 &&& (255 : Int32)))]) (rest := []) (lenOf own_pd21 rfl) rfl (Nat.le_refl _) (hb hby d21_139) (fun _ _ => ⟨rfl, e21, (by decide : 7 + 0 ≤ _), (by decide : 39 + 0 ≤ _)⟩)
        dsimp only [Pt.U, Pt.locs, Pt.cells, Pt.slots] at X22 l22 y22 z22 st22 hQ22
        subst l22 y22 z22
        obtain ⟨rfl, N22q, eq22⟩ := hQ22
        have N22 := Fr.app N19 N22q
        refine og (B := T22.setTop (mkF m 142 #[rv a1, rv sb1, rv al, iv 2, iv 3, rv ag, rv b18, iv 2, iv (x2 &&& (255 : Int32))] [(.int (own_low (x2 &&& (255 : Int32))))])) (fun _ => st22.trans) ?_
        refine og (B := T22.setTop (mkF m 146 #[rv a1, rv sb1, rv al, iv 2, iv 3, rv ag, rv b18, iv 2, iv (own_low (x2 &&& (255 : Int32)))] [(.int (own_low (x2 &&& (255 : Int32))))])) (fun t k => ?_) ?_
        · refine XS.istore X22.here hx rfl (hb hby d21_142) rfl (l' := #[rv a1, rv sb1, rv al, iv 2, iv 3, rv ag, rv b18, iv 2, iv (own_low (x2 &&& (255 : Int32)))]) rfl ?_
          refine XS.iload X22.here hx rfl (hb hby d21_144) rfl ?_
          exact k
        obtain ⟨_, _, ⟨T23, L23, k23, n23⟩, -, X23, ⟨Lc23, hQ23, l23, y23, z23⟩, st23⟩ := Jvm.LawKit.callS X22 hx (y := own_y32) hown (mvT hZ (ow hw 213 rfl)) (mvT hZ (ow hw 214 rfl)) (mvT hZ (ow hw 120 rfl)) (mvT hZ (ow hw 215 rfl)) (by decide) (backOf (W := 0) (rm41 l Z a0 hw [] (own_low (x2 &&& (255 : Int32))) h19 n0 (Nat.le_trans zs18 K19q.1) (own_lr _).1 (own_lr _).2) hZ (ow hw 215 rfl) (ow hw 120 rfl) (by decide) (by decide)) (g := (mkF m 146 #[rv a1, rv sb1, rv al, iv 2, iv 3, rv ag, rv b18, iv 2, iv (own_low (x2 &&& (255 : Int32)))] [(.int (own_low (x2 &&& (255 : Int32))))])) rfl (by rw [hml]; rfl) (argsL := [(.int (own_low (x2 &&& (255 : Int32))))]) (rest := []) (lenOf own_pd22 rfl) rfl (Nat.le_refl _) (hb hby d21_146) (fun _ _ => ⟨rfl, eq22, (by decide : 7 + 0 ≤ _), (by decide : 39 + 0 ≤ _)⟩)
        dsimp only [Pt.U, Pt.locs, Pt.cells, Pt.slots] at X23 l23 y23 z23 st23 hQ23
        subst l23 y23 z23
        obtain ⟨rfl, N23q, eq23⟩ := hQ23
        have N23 := Fr.app N22 N23q
        refine og (B := T23.setTop (mkF m 149 #[rv a1, rv sb1, rv al, iv 2, iv 3, rv ag, rv b18, iv 2, iv (own_low (x2 &&& (255 : Int32)))] [(.int 1)])) st23 ?_
        refine og (B := T23.setTop (mkF m 168 #[rv a1, rv sb1, rv al, iv 2, iv 3, rv ag, rv b18, iv 2, iv (own_low (x2 &&& (255 : Int32)))] [(.int ((own_low (x2 &&& (255 : Int32))).toInt8.toInt32)), (.int 2), (.ref b18)])) (fun t k => ?_) ?_
        · refine XS.ifYes X23.here hx rfl (pc0 := 149) (pc' := 161) rfl (hb hby d21_149) rfl ((if0 _ _).trans (feq (by decide)).2) (by decide) (by decide) ?_
          refine XS.aload X23.here hx rfl (hb hby d21_161) rfl rfl ?_
          refine XS.iload X23.here hx rfl (hb hby d21_163) rfl ?_
          refine XS.iload X23.here hx rfl (hb hby d21_165) rfl ?_
          refine XS.i2b X23.here hx rfl (hb hby d21_167) rfl ?_
          exact k
        obtain ⟨cl24, Ar24, qk24, S24, M24, H24, G24⟩ := id V19
        obtain ⟨T24, h24, X24, e24, W24, st24⟩ := stB X23 hx hZ eq23 Ar24 (j := (2 : Int32)) (inb_of S24 ⟨by decide, by decide⟩) (g := (mkF m 168 #[rv a1, rv sb1, rv al, iv 2, iv 3, rv ag, rv b18, iv 2, iv (own_low (x2 &&& (255 : Int32)))] [(.int ((own_low (x2 &&& (255 : Int32))).toInt8.toInt32)), (.int 2), (.ref b18)])) rfl rfl (hb hby d21_168)
        have V24 : Arv Z h24 b18 k18 .byte (3 : Int32) [(.int x0), (.int x1), (.int (nar .byte ((own_low (x2 &&& (255 : Int32))).toInt8.toInt32)))] (.int 0) := Arv.set Ar24 qk24 S24 M24 H24 G24 (fits_nar_byte _) W24 2 rfl (Nat.le_of_ble_eq_true rfl)
        have c24_V_sb1 := c19_V_sb1.other W24 ne_sb1_b18
        have K24 := K19.wr W24 (Or.inr sz_b18)
        have J24 := J19.wr W24 (Or.inr sy_b18)
        have O24 := O19.wr W24 g_b18
        have N24 := Fr.snoc X24 N23 g_b18
        have zs24 := (Nat.le_trans (Nat.le_trans zs18 K19q.1) (Keep.of_wr W24).1)
        have zk24 := (Nat.le_trans zk19 (Keep.of_wr W24).1)
        refine og (B := T24.setTop (mkF m 169 #[rv a1, rv sb1, rv al, iv 2, iv 3, rv ag, rv b18, iv 2, iv (own_low (x2 &&& (255 : Int32)))] [])) st24 ?_
        refine og (B := T24.setTop (mkF m 175 #[rv a1, rv sb1, rv al, iv 2, iv 3, rv ag, rv b18, iv 3, iv (own_low (x2 &&& (255 : Int32)))] [])) (fun t k => ?_) ?_
        · refine XS.iinc X24.here hx rfl (hb hby d21_169) rfl (l' := #[rv a1, rv sb1, rv al, iv 2, iv 3, rv ag, rv b18, iv 3, iv (own_low (x2 &&& (255 : Int32)))]) rfl ?_
          refine XS.goto X24.here hx rfl (pc0 := 172) (pc' := 117) rfl (hb hby d21_172) (by decide) (by decide) ?_
          refine XS.iload X24.here hx rfl (hb hby d21_117) rfl ?_
          refine XS.iload X24.here hx rfl (hb hby d21_119) rfl ?_
          refine XS.icmpYes X24.here hx rfl (pc0 := 121) (pc' := 175) rfl (hb hby d21_121) rfl (flt (by decide)).2.1 (by decide) (by decide) ?_
          exact k
        obtain ⟨T25, h25, X25, e25, E25, A25, D25, -, st25⟩ := newO X24 hx hZ hown (ow hw 216 rfl) (ow hw 1 rfl) (ow hw 2 rfl) e24 (g := (mkF m 175 #[rv a1, rv sb1, rv al, iv 2, iv 3, rv ag, rv b18, iv 3, iv (own_low (x2 &&& (255 : Int32)))] [])) rfl (hb hby d21_175) (by decide) (by decide)
        obtain ⟨b25, g25⟩ : ∃ z, z = h24.size := ⟨_, rfl⟩
        rw [← g25] at A25 D25 st25
        have g_b25 : n0 ≤ b25 := Nat.le_trans zs24 (Nat.le_of_eq g25.symm)
        have sz_b25 : h0.size ≤ b25 := Nat.le_trans K24.1 (Nat.le_of_eq g25.symm)
        have sy_b25 : h17.size ≤ b25 := Nat.le_trans J24.1 (Nat.le_of_eq g25.symm)
        have ne_sb1_b25 : sb1 ≠ b25 := Nat.ne_of_lt (Nat.lt_of_lt_of_le c24_V_sb1.lt (Nat.le_of_eq g25.symm))
        have ne_b18_b25 : b18 ≠ b25 := Nat.ne_of_lt (Nat.lt_of_lt_of_le V24.lt (Nat.le_of_eq g25.symm))
        have c25_V_sb1 := c24_V_sb1.ext E25
        have c25_V_b18 := V24.ext E25
        have K25 := K24.ext E25
        have J25 := J24.ext E25
        have O25 := O24.ext E25
        have F25_coder : Fld Z h25 b25 "java/lang/String" "coder" "B" (.int 0) := D25 (Or.inr (ow hw 27 rfl)) (ty := .byte) (by decide)
        have F25_value : Fld Z h25 b25 "java/lang/String" "value" "[B" .null := D25 (Or.inr (ow hw 29 rfl)) (ty := (.array .byte)) (by decide)
        refine og (B := T25.setTop (mkF m 178 #[rv a1, rv sb1, rv al, iv 2, iv 3, rv ag, rv b18, iv 3, iv (own_low (x2 &&& (255 : Int32)))] [(.ref b25)])) st25 ?_
        refine og (B := T25.setTop (mkF m 182 #[rv a1, rv sb1, rv al, iv 2, iv 3, rv ag, rv b18, iv 3, iv (own_low (x2 &&& (255 : Int32)))] [(.int 0), (.ref b18), (.ref b25), (.ref b25)])) (fun t k => ?_) ?_
        · refine XS.dup X25.here hx rfl (hb hby d21_178) rfl rfl ?_
          refine XS.aload X25.here hx rfl (hb hby d21_179) rfl rfl ?_
          refine XS.iconst X25.here hx rfl (hb hby d21_181) ?_
          exact k
        obtain ⟨_, _, ⟨T26, L26, k26, n26⟩, -, X26, ⟨Lc26, hQ26, l26, y26, z26⟩, st26⟩ := X25.specialBack hx (y := own_y35) rfl hown (mvT hZ (ow hw 217 rfl)) (mvT hZ (ow hw 218 rfl)) (mvT hZ (ow hw 219 rfl)) (by decide) (backOf (W := 1) (rm42 l Z a0 hw [] b25 b18 h25 n0 (Nat.le_trans zs24 E25.1) A25 g_b25 F25_value F25_coder) hZ (ow hw 219 rfl) (ow hw 2 rfl) (by decide) (by decide)) (g := (mkF m 182 #[rv a1, rv sb1, rv al, iv 2, iv 3, rv ag, rv b18, iv 3, iv (own_low (x2 &&& (255 : Int32)))] [(.int 0), (.ref b18), (.ref b25), (.ref b25)])) rfl (by rw [hml]; rfl) (Steps.refl _) (a := b25) (argsL := [(.ref b18), (.int 0)]) (rest := [(.ref b25)]) (lenOf own_pd23 rfl) rfl (Nat.le_refl _) (hb hby d21_182) (fun _ _ => ⟨rfl, e25, (by decide : 8 + 0 ≤ _), (by decide : 43 + 0 ≤ _)⟩)
        dsimp only [Pt.U, Pt.locs, Pt.cells, Pt.slots] at X26 l26 y26 z26 st26 hQ26
        subst l26 y26 z26
        obtain ⟨rfl, N26q, K26q, E26q, F26c, F26v⟩ := hQ26
        have N26 := Fr.app N24 N26q
        have c26_V_sb1 := c25_V_sb1.keep K26q (fun q => ne_sb1_b25 (List.mem_singleton.mp q))
        have c26_V_b18 := c25_V_b18.keep K26q (fun q => ne_b18_b25 (List.mem_singleton.mp q))
        have O26 := O25.keep K26q (allS g_b25 all0)
        have K26 := K25.trans K26q (allS (Or.inr sz_b25) all0)
        have J26 := J25.trans K26q (allS (Or.inr sy_b25) all0)
        have zs26 := (Nat.le_trans (Nat.le_trans zs24 E25.1) K26q.1)
        have zk26 := (Nat.le_trans (Nat.le_trans zk24 E25.1) K26q.1)
        refine og (B := T26.setTop (mkF m 185 #[rv a1, rv sb1, rv al, iv 2, iv 3, rv ag, rv b18, iv 3, iv (own_low (x2 &&& (255 : Int32)))] [(.ref b25)])) (fun _ => st26.trans) ?_
        obtain ⟨fs, hr, hrun, hended, hRW⟩ := X26.leaveW hS (zk26) (v := some (.ref b25)) (fun h => by rw [Bd.returns] at h; cases h)
        refine ⟨_, _, ?_, hrun, hended, _, _, rfl, ?_, (by have q := ((Ch17).trans (CHr.ext (own_ext J26) (Ch17).1)).trans (CHv.at X26 hZ (own_hEL hw) ((Ch17).trans (CHr.ext (own_ext J26) (Ch17).1)).1); rw [← hh] at q; exact q), hRW.1, hRW.2.1, hRW.2.2.1, hRW.2.2.2.mono (by decide) (by decide)⟩
        · show own_S p e below T26 (mkF m 185 #[rv a1, rv sb1, rv al, iv 2, iv 3, rv ag, rv b18, iv 3, iv (own_low (x2 &&& (255 : Int32)))] [(.ref b25)]) _
          jvm_step X26.here [X26.here.top, hx, (hb hby d21_185), X26.method', Bd.returns, Value.isRef, FieldType.isReference]
          first | (intro acts; rw [hr _ acts rfl rfl rfl]) | rw [hr _ _ rfl rfl rfl]
          exact Steps.refl _
        · show Q21_3 Z a1 sb1 kb x0 x1 x2 GC ci al ab ag agv h0 n0 _ T26.heap _
          exact ⟨b25, b18, k18, x0, x1, (nar .byte ((own_low (x2 &&& (255 : Int32))).toInt8.toInt32)), rfl, N26, K26, E26q, F26c, F26v, c26_V_b18, Or.inr sz_b25, Or.inr sz_b18, hc43_5, hc43_9, (own_lE x2), trivial⟩
    · refine og (B := T8.setTop (mkF m 63 #[rv a1, rv sb1, rv al, iv 1, iv 3, iv (x1 &&& (255 : Int32)), .unset, .unset, .unset] [])) (fun t k => ?_) ?_
      · refine XS.icmpNo X8.here hx rfl (hb hby d21_43) rfl (feq hc43_9).1 ?_
        refine XS.goto X8.here hx rfl (pc0 := 46) (pc' := 55) rfl (hb hby d21_46) (by decide) (by decide) ?_
        refine XS.iloadN X8.here hx rfl (hb hby d21_55) rfl ?_
        refine XS.iload X8.here hx rfl (hb hby d21_56) rfl ?_
        refine XS.icmpYes X8.here hx rfl (pc0 := 58) (pc' := 63) rfl (hb hby d21_58) rfl (feq (by decide)).2 (by decide) (by decide) ?_
        exact k
      refine og (B := T8.setTop (mkF m 64 #[rv a1, rv sb1, rv al, iv 1, iv 3, iv (x1 &&& (255 : Int32)), .unset, .unset, .unset] [(.ref al)])) (fun t k => ?_) ?_
      · refine XS.aloadN X8.here hx rfl (hb hby d21_63) rfl rfl ?_
        exact k
      obtain ⟨cq27, kq27, q27a, q27b, q27c⟩ := isOf hZ eq8 (E_al.ext O0.2)
      obtain ⟨_, _, ⟨T27, L27, k27, n27⟩, -, X27, ⟨Lc27, hQ27, l27, y27, z27⟩, st27⟩ := X8.virtualBack hx (y := own_y34) (z := own_y34) hown (mvT hZ (ow hw 194 rfl)) (mvT hZ (ow hw 195 rfl)) (notFace_of_selects (args := #[]) (mvT hZ (ow hw 197 rfl))) (mvT hZ (ow hw 197 rfl)) (mvT hZ (ow hw 196 rfl)) (by decide) (backOf (W := 0) (rm39 l Z a0 hw [] al ab ag h0 n0 Z0 (F_ab.ext O0.2) (E_ab.ext O0.2) (F_ag.ext O0.2)) hZ (ow hw 198 rfl) (ow hw 107 rfl) (by decide) (by decide)) q27a q27c (g := (mkF m 64 #[rv a1, rv sb1, rv al, iv 1, iv 3, iv (x1 &&& (255 : Int32)), .unset, .unset, .unset] [(.ref al)])) rfl (by rw [hml]; rfl) (Steps.refl _) (argsL := []) (rest := []) (lenOf own_pd20 rfl) rfl (Nat.le_refl _) (hb hby d21_64) (fun _ _ => ⟨rfl, eq8, (by decide : 0 + 0 ≤ _), (by decide : 0 + 0 ≤ _)⟩)
      dsimp only [Pt.U, Pt.locs, Pt.cells, Pt.slots] at X27 l27 y27 z27 st27 hQ27
      subst l27 y27 z27
      obtain ⟨rfl, N27q, eq27⟩ := hQ27
      have N27 := Fr.app N8 N27q
      refine og (B := T27.setTop (mkF m 67 #[rv a1, rv sb1, rv al, iv 1, iv 3, iv (x1 &&& (255 : Int32)), .unset, .unset, .unset] [(.ref ag)])) (fun _ => st27.trans) ?_
      refine og (B := T27.setTop (mkF m 71 #[rv a1, rv sb1, rv al, iv 1, iv 3, rv ag, .unset, .unset, .unset] [(.ref ag)])) (fun t k => ?_) ?_
      · refine XS.astore X27.here hx rfl (hb hby d21_67) rfl rfl (l' := #[rv a1, rv sb1, rv al, iv 1, iv 3, rv ag, .unset, .unset, .unset]) rfl ?_
        refine XS.aload X27.here hx rfl (hb hby d21_69) rfl rfl ?_
        exact k
      obtain ⟨as28, T28, h28, kk28, bs28, ks28, X28, e28, E28, hS, hk28, hZ, hown, LE28, LC28, LV28, LA28, la28, lb28, hC28, hL28, hSf28, st28⟩ := ldcCH (EL := consts_1) X27 hx hZ hown (ow hw 209 rfl) (own_wS hw) eq27 hS (Nat.zero_le _) (own_hEL hw) (by decide) (CHr.refl hCH).1 (z := (2 : Int32)) own_httr (by decide) rfl (g := (mkF m 71 #[rv a1, rv sb1, rv al, iv 1, iv 3, rv ag, .unset, .unset, .unset] [(.ref ag)])) rfl (hb hby d21_71) (n := 8) (by decide) (by decide) (by decide) (by decide)
      have Ch28 := (CHr.refl hCH).trans hC28
      have c28_V_sb1 := V_b.ext E28
      have K28 := (Keep.refl h0 []).ext E28
      have O28 := O0.ext E28
      refine og (B := T28.setTop (mkF m 73 #[rv a1, rv sb1, rv al, iv 1, iv 3, rv ag, .unset, .unset, .unset] [(.ref as28), (.ref ag)])) st28 ?_
      refine og (B := T28.setTop (mkF m 76 #[rv a1, rv sb1, rv al, iv 1, iv 3, rv ag, .unset, .unset, .unset] [])) (fun t k => ?_) ?_
      · refine Jvm.RoadKit.acmp (g := (mkF m 73 #[rv a1, rv sb1, rv al, iv 1, iv 3, rv ag, .unset, .unset, .unset] [(.ref as28), (.ref ag)])) X28 hx rfl rfl rfl (pc0 := 73) (pc' := 76) (same := false) rfl (hb hby d21_73) rfl (decide_eq_false fun q => (own_lne (F_gv.ext O28.2) (V_gv.ext O28.2) LV28 LA28) (Value.ref.inj q)) (by decide) (by decide) ?_
        exact k
      refine og (B := T28.setTop (mkF m 78 #[rv a1, rv sb1, rv al, iv 1, iv 3, rv ag, .unset, .unset, .unset] [(.ref ag)])) (fun t k => ?_) ?_
      · refine XS.aload X28.here hx rfl (hb hby d21_76) rfl rfl ?_
        exact k
      obtain ⟨as29, T29, h29, kk29, bs29, ks29, X29, e29, E29, hS, hk29, hZ, hown, LE29, LC29, LV29, LA29, la29, lb29, hC29, hL29, hSf29, st29⟩ := ldcCH (EL := consts_1) X28 hx hZ hown (ow hw 210 rfl) (own_wS hw) e28 hS hk28 (own_hEL hw) (by decide) (Ch28).1 (z := (2 : Int32)) own_htaz (by decide) rfl (g := (mkF m 78 #[rv a1, rv sb1, rv al, iv 1, iv 3, rv ag, .unset, .unset, .unset] [(.ref ag)])) rfl (hb hby d21_78) (n := 8) (by decide) (by decide) (by decide) (by decide)
      have Ch29 := (Ch28).trans hC29
      have c29_V_sb1 := c28_V_sb1.ext E29
      have K29 := K28.ext E29
      have O29 := O28.ext E29
      have zs29 := (Nat.le_trans (Nat.le_trans Z0 E28.1) E29.1)
      refine og (B := T29.setTop (mkF m 80 #[rv a1, rv sb1, rv al, iv 1, iv 3, rv ag, .unset, .unset, .unset] [(.ref as29), (.ref ag)])) st29 ?_
      refine og (B := T29.setTop (mkF m 83 #[rv a1, rv sb1, rv al, iv 1, iv 3, rv ag, .unset, .unset, .unset] [])) (fun t k => ?_) ?_
      · refine Jvm.RoadKit.acmp (g := (mkF m 80 #[rv a1, rv sb1, rv al, iv 1, iv 3, rv ag, .unset, .unset, .unset] [(.ref as29), (.ref ag)])) X29 hx rfl rfl rfl (pc0 := 80) (pc' := 83) (same := false) rfl (hb hby d21_80) rfl (decide_eq_false fun q => (own_lne (F_gv.ext O29.2) (V_gv.ext O29.2) LV29 LA29) (Value.ref.inj q)) (by decide) (by decide) ?_
        exact k
      refine og (B := T29.setTop (mkF m 85 #[rv a1, rv sb1, rv al, iv 1, iv 3, rv ag, .unset, .unset, .unset] [(.ref ag)])) (fun t k => ?_) ?_
      · refine XS.aload X29.here hx rfl (hb hby d21_83) rfl rfl ?_
        exact k
      obtain ⟨as30, T30, h30, kk30, bs30, ks30, X30, e30, E30, hS, hk30, hZ, hown, LE30, LC30, LV30, LA30, la30, lb30, hC30, hL30, hSf30, st30⟩ := ldcCH (EL := consts_1) X29 hx hZ hown (ow hw 211 rfl) (own_wS hw) e29 hS hk29 (own_hEL hw) (by decide) (Ch29).1 (z := (2 : Int32)) own_htlt (by decide) rfl (g := (mkF m 85 #[rv a1, rv sb1, rv al, iv 1, iv 3, rv ag, .unset, .unset, .unset] [(.ref ag)])) rfl (hb hby d21_85) (n := 8) (by decide) (by decide) (by decide) (by decide)
      have Ch30 := (Ch29).trans hC30
      have c30_V_sb1 := c29_V_sb1.ext E30
      have K30 := K29.ext E30
      have O30 := O29.ext E30
      refine og (B := T30.setTop (mkF m 87 #[rv a1, rv sb1, rv al, iv 1, iv 3, rv ag, .unset, .unset, .unset] [(.ref as30), (.ref ag)])) st30 ?_
      refine og (B := T30.setTop (mkF m 99 #[rv a1, rv sb1, rv al, iv 1, iv 3, rv ag, .unset, .unset, .unset] [])) (fun t k => ?_) ?_
      · refine Jvm.RoadKit.acmp (g := (mkF m 87 #[rv a1, rv sb1, rv al, iv 1, iv 3, rv ag, .unset, .unset, .unset] [(.ref as30), (.ref ag)])) X30 hx rfl rfl rfl (pc0 := 87) (pc' := 99) (same := false) rfl (hb hby d21_87) rfl (decide_eq_false fun q => (own_lne (F_gv.ext O30.2) (V_gv.ext O30.2) LV30 LA30) (Value.ref.inj q)) (by decide) (by decide) ?_
        exact k
      refine og (B := T30.setTop (mkF m 101 #[rv a1, rv sb1, rv al, iv 1, iv 3, rv ag, .unset, .unset, .unset] [(.int 3)])) (fun t k => ?_) ?_
      · refine XS.iload X30.here hx rfl (hb hby d21_99) rfl ?_
        exact k
      obtain ⟨T31, h31, k31, X31, e31, E31, A31, st31⟩ := newP X30 hx hZ (ow hw 19 rfl) e30 (g := (mkF m 101 #[rv a1, rv sb1, rv al, iv 1, iv 3, rv ag, .unset, .unset, .unset] [(.int 3)])) rfl (hb hby d21_101) rfl (by decide) (cap := 3) (by decide) (by decide) (by decide) (by decide)
      obtain ⟨b31, g31⟩ : ∃ z, z = h30.size := ⟨_, rfl⟩
      rw [← g31] at A31 st31
      have g_b31 : n0 ≤ b31 := Nat.le_trans (Nat.le_trans zs29 E30.1) (Nat.le_of_eq g31.symm)
      have sz_b31 : h0.size ≤ b31 := Nat.le_trans K30.1 (Nat.le_of_eq g31.symm)
      have sy_b31 : h30.size ≤ b31 := Nat.le_trans (Keep.refl h30 []).1 (Nat.le_of_eq g31.symm)
      have ne_sb1_b31 : sb1 ≠ b31 := Nat.ne_of_lt (Nat.lt_of_lt_of_le c30_V_sb1.lt (Nat.le_of_eq g31.symm))
      have c31_V_sb1 := c30_V_sb1.ext E31
      have K31 := K30.ext E31
      have J31 := (Keep.refl h30 []).ext E31
      have O31 := O30.ext E31
      have V31 : Arv Z h31 b31 k31 .byte (3 : Int32) [(.int 0), (.int 0), (.int 0)] (.int 0) := (Arv.new A31 (by decide)).pad (pad_rep [] (.int 0) 3)
      have zs31 := (Nat.le_trans (Nat.le_trans zs29 E30.1) E31.1)
      refine og (B := T31.setTop (mkF m 103 #[rv a1, rv sb1, rv al, iv 1, iv 3, rv ag, .unset, .unset, .unset] [(.ref b31)])) st31 ?_
      refine og (B := T31.setTop (mkF m 111 #[rv a1, rv sb1, rv al, iv 1, iv 3, rv ag, rv b31, .unset, .unset] [(.int 1), (.int 0), (.ref b31), (.int 0), (.ref sb1)])) (fun t k => ?_) ?_
      · refine XS.astore X31.here hx rfl (hb hby d21_103) rfl rfl (l' := #[rv a1, rv sb1, rv al, iv 1, iv 3, rv ag, rv b31, .unset, .unset]) rfl ?_
        refine XS.aloadN X31.here hx rfl (hb hby d21_105) rfl rfl ?_
        refine XS.iconst X31.here hx rfl (hb hby d21_106) ?_
        refine XS.aload X31.here hx rfl (hb hby d21_107) rfl rfl ?_
        refine XS.iconst X31.here hx rfl (hb hby d21_109) ?_
        refine XS.iloadN X31.here hx rfl (hb hby d21_110) rfl ?_
        exact k
      obtain ⟨T32, h32, L32, X32, e32, N32, K32q, V32q, st32⟩ := cpA X31 hx hZ hown (ow hw 212 rfl) (ow hw 105 rfl) (ow hw 103 rfl) (ow hw 104 rfl) e31 c31_V_sb1 V31 (us := [(.int x0)]) (Or.inl ⟨rfl, rfl⟩) (by decide) (by decide) (by decide) (by decide) (by decide) rfl (Nat.le_of_ble_eq_true rfl) N27 g_b31 (g := (mkF m 111 #[rv a1, rv sb1, rv al, iv 1, iv 3, rv ag, rv b31, .unset, .unset] [(.int 1), (.int 0), (.ref b31), (.int 0), (.ref sb1)])) rfl (by rw [hml]; rfl) (rest := []) rfl (hb hby d21_111) (by decide) (W := 0) (Nat.le_refl _) (by decide)
      have V32 : Arv Z h32 b31 k31 .byte (3 : Int32) [(.int x0), (.int 0), (.int 0)] (.int 0) := V32q
      have c32_V_sb1 := c31_V_sb1.keep K32q (fun q => ne_sb1_b31 (List.mem_singleton.mp q))
      have O32 := O31.keep K32q (allS g_b31 all0)
      have K32 := K31.trans K32q (allS (Or.inr sz_b31) all0)
      have J32 := J31.trans K32q (allS (Or.inr sy_b31) all0)
      have zk32 := (Nat.le_trans (Nat.le_trans hk30 E31.1) K32q.1)
      refine og (B := T32.setTop (mkF m 114 #[rv a1, rv sb1, rv al, iv 1, iv 3, rv ag, rv b31, .unset, .unset] [])) st32 ?_
      obtain ⟨cl33, Ar33, qk33, S33, M33, H33, G33⟩ := id c32_V_sb1
      refine og (B := T32.setTop (mkF m 134 #[rv a1, rv sb1, rv al, iv 1, iv 3, rv ag, rv b31, iv 1, iv (x1 &&& (255 : Int32))] [])) (fun t k => ?_) ?_
      · refine XS.iloadN X32.here hx rfl (hb hby d21_114) rfl ?_
        refine XS.istore X32.here hx rfl (hb hby d21_115) rfl (l' := #[rv a1, rv sb1, rv al, iv 1, iv 3, rv ag, rv b31, iv 1, .unset]) rfl ?_
        refine XS.iload X32.here hx rfl (hb hby d21_117) rfl ?_
        refine XS.iload X32.here hx rfl (hb hby d21_119) rfl ?_
        refine XS.icmpNo X32.here hx rfl (hb hby d21_121) rfl (tlt (by decide)).2.1 ?_
        refine XS.aloadN X32.here hx rfl (hb hby d21_124) rfl rfl ?_
        show own_S p e below T32 (mkF m 125 #[rv a1, rv sb1, rv al, iv 1, iv 3, rv ag, rv b31, iv 1, .unset] [(.ref sb1)]) _
        refine XS.iload X32.here hx rfl (hb hby d21_125) rfl ?_
        refine X32.baloadBytes hx (j := (1 : Int32)) (v := (.int x1)) (by rw [e32]; exact Ar33.1) (State.isArrayOf_alike hZ.alike Ar33.2.1) Ar33.2.2 (inb_of S33 ⟨by decide, by decide⟩) (Has.at H33 (inb_of S33 ⟨by decide, by decide⟩) rfl) (g := (mkF m 127 #[rv a1, rv sb1, rv al, iv 1, iv 3, rv ag, rv b31, iv 1, .unset] [(.int 1), (.ref sb1)])) rfl rfl (hb hby d21_127) _ ?_
        refine XS.sipush X32.here hx rfl (hb hby d21_128) ?_
        refine XS.iand X32.here hx rfl (hb hby d21_131) rfl ?_
        refine XS.istore X32.here hx rfl (hb hby d21_132) rfl (l' := #[rv a1, rv sb1, rv al, iv 1, iv 3, rv ag, rv b31, iv 1, iv (x1 &&& (255 : Int32))]) rfl ?_
        exact k
      obtain ⟨T34, X34, e34, st34⟩ := getS2 X32 hx hZ hown (host := "") (Or.inl (ow hw 184 rfl)) Via.refl e32 (S_I.ext O32.2) (g := (mkF m 134 #[rv a1, rv sb1, rv al, iv 1, iv 3, rv ag, rv b31, iv 1, iv (x1 &&& (255 : Int32))] [])) rfl (hb hby d21_134)
      refine og (B := T34.setTop (mkF m 137 #[rv a1, rv sb1, rv al, iv 1, iv 3, rv ag, rv b31, iv 1, iv (x1 &&& (255 : Int32))] [(.ref ci)])) st34 ?_
      refine og (B := T34.setTop (mkF m 139 #[rv a1, rv sb1, rv al, iv 1, iv 3, rv ag, rv b31, iv 1, iv (x1 &&& (255 : Int32))] [(.int (x1 &&& (255 : Int32))), (.ref ci)])) (fun t k => ?_) ?_
      · refine XS.iload X34.here hx rfl (hb hby d21_137) rfl ?_
        exact k
      obtain ⟨cq35, kq35, q35a, q35b, q35c⟩ := isOf hZ e34 (E_ci.ext O32.2)
      obtain ⟨_, _, ⟨T35, L35, k35, n35⟩, -, X35, ⟨Lc35, hQ35, l35, y35, z35⟩, st35⟩ := X34.virtualBack hx (y := own_y31) (z := own_y31) hown (mvT hZ (ow hw 186 rfl)) (mvT hZ (ow hw 187 rfl)) (notFace_of_selects (args := #[]) (mvT hZ (ow hw 189 rfl))) (mvT hZ (ow hw 189 rfl)) (mvT hZ (ow hw 188 rfl)) (by decide) (backOf (W := 0) (rm37 l Z a0 hw [] ci (x1 &&& (255 : Int32)) h32 n0 (Nat.le_trans zs31 K32q.1)) hZ (ow hw 190 rfl) (ow hw 185 rfl) (by decide) (by decide)) q35a q35c (g := (mkF m 139 #[rv a1, rv sb1, rv al, iv 1, iv 3, rv ag, rv b31, iv 1, iv (x1 &&& (255 : Int32))] [(.int (x1 &&& (255 : Int32))), (.ref ci)])) rfl (by rw [hml]; rfl) (Steps.refl _) (argsL := [(.int (x1 &&& (255 : Int32)))]) (rest := []) (lenOf own_pd21 rfl) rfl (Nat.le_refl _) (hb hby d21_139) (fun _ _ => ⟨rfl, e34, (by decide : 7 + 0 ≤ _), (by decide : 39 + 0 ≤ _)⟩)
      dsimp only [Pt.U, Pt.locs, Pt.cells, Pt.slots] at X35 l35 y35 z35 st35 hQ35
      subst l35 y35 z35
      obtain ⟨rfl, N35q, eq35⟩ := hQ35
      have N35 := Fr.app N32 N35q
      refine og (B := T35.setTop (mkF m 142 #[rv a1, rv sb1, rv al, iv 1, iv 3, rv ag, rv b31, iv 1, iv (x1 &&& (255 : Int32))] [(.int (own_low (x1 &&& (255 : Int32))))])) (fun _ => st35.trans) ?_
      refine og (B := T35.setTop (mkF m 146 #[rv a1, rv sb1, rv al, iv 1, iv 3, rv ag, rv b31, iv 1, iv (own_low (x1 &&& (255 : Int32)))] [(.int (own_low (x1 &&& (255 : Int32))))])) (fun t k => ?_) ?_
      · refine XS.istore X35.here hx rfl (hb hby d21_142) rfl (l' := #[rv a1, rv sb1, rv al, iv 1, iv 3, rv ag, rv b31, iv 1, iv (own_low (x1 &&& (255 : Int32)))]) rfl ?_
        refine XS.iload X35.here hx rfl (hb hby d21_144) rfl ?_
        exact k
      obtain ⟨_, _, ⟨T36, L36, k36, n36⟩, -, X36, ⟨Lc36, hQ36, l36, y36, z36⟩, st36⟩ := Jvm.LawKit.callS X35 hx (y := own_y32) hown (mvT hZ (ow hw 213 rfl)) (mvT hZ (ow hw 214 rfl)) (mvT hZ (ow hw 120 rfl)) (mvT hZ (ow hw 215 rfl)) (by decide) (backOf (W := 0) (rm41 l Z a0 hw [] (own_low (x1 &&& (255 : Int32))) h32 n0 (Nat.le_trans zs31 K32q.1) (own_lr _).1 (own_lr _).2) hZ (ow hw 215 rfl) (ow hw 120 rfl) (by decide) (by decide)) (g := (mkF m 146 #[rv a1, rv sb1, rv al, iv 1, iv 3, rv ag, rv b31, iv 1, iv (own_low (x1 &&& (255 : Int32)))] [(.int (own_low (x1 &&& (255 : Int32))))])) rfl (by rw [hml]; rfl) (argsL := [(.int (own_low (x1 &&& (255 : Int32))))]) (rest := []) (lenOf own_pd22 rfl) rfl (Nat.le_refl _) (hb hby d21_146) (fun _ _ => ⟨rfl, eq35, (by decide : 7 + 0 ≤ _), (by decide : 39 + 0 ≤ _)⟩)
      dsimp only [Pt.U, Pt.locs, Pt.cells, Pt.slots] at X36 l36 y36 z36 st36 hQ36
      subst l36 y36 z36
      obtain ⟨rfl, N36q, eq36⟩ := hQ36
      have N36 := Fr.app N35 N36q
      refine og (B := T36.setTop (mkF m 149 #[rv a1, rv sb1, rv al, iv 1, iv 3, rv ag, rv b31, iv 1, iv (own_low (x1 &&& (255 : Int32)))] [(.int 1)])) st36 ?_
      refine og (B := T36.setTop (mkF m 168 #[rv a1, rv sb1, rv al, iv 1, iv 3, rv ag, rv b31, iv 1, iv (own_low (x1 &&& (255 : Int32)))] [(.int ((own_low (x1 &&& (255 : Int32))).toInt8.toInt32)), (.int 1), (.ref b31)])) (fun t k => ?_) ?_
      · refine XS.ifYes X36.here hx rfl (pc0 := 149) (pc' := 161) rfl (hb hby d21_149) rfl ((if0 _ _).trans (feq (by decide)).2) (by decide) (by decide) ?_
        refine XS.aload X36.here hx rfl (hb hby d21_161) rfl rfl ?_
        refine XS.iload X36.here hx rfl (hb hby d21_163) rfl ?_
        refine XS.iload X36.here hx rfl (hb hby d21_165) rfl ?_
        refine XS.i2b X36.here hx rfl (hb hby d21_167) rfl ?_
        exact k
      obtain ⟨cl37, Ar37, qk37, S37, M37, H37, G37⟩ := id V32
      obtain ⟨T37, h37, X37, e37, W37, st37⟩ := stB X36 hx hZ eq36 Ar37 (j := (1 : Int32)) (inb_of S37 ⟨by decide, by decide⟩) (g := (mkF m 168 #[rv a1, rv sb1, rv al, iv 1, iv 3, rv ag, rv b31, iv 1, iv (own_low (x1 &&& (255 : Int32)))] [(.int ((own_low (x1 &&& (255 : Int32))).toInt8.toInt32)), (.int 1), (.ref b31)])) rfl rfl (hb hby d21_168)
      have V37 : Arv Z h37 b31 k31 .byte (3 : Int32) [(.int x0), (.int (nar .byte ((own_low (x1 &&& (255 : Int32))).toInt8.toInt32))), (.int 0)] (.int 0) := Arv.set Ar37 qk37 S37 M37 H37 G37 (fits_nar_byte _) W37 1 rfl (Nat.le_of_ble_eq_true rfl)
      have c37_V_sb1 := c32_V_sb1.other W37 ne_sb1_b31
      have K37 := K32.wr W37 (Or.inr sz_b31)
      have J37 := J32.wr W37 (Or.inr sy_b31)
      have O37 := O32.wr W37 g_b31
      have N37 := Fr.snoc X37 N36 g_b31
      have zs37 := (Nat.le_trans (Nat.le_trans zs31 K32q.1) (Keep.of_wr W37).1)
      have zk37 := (Nat.le_trans zk32 (Keep.of_wr W37).1)
      refine og (B := T37.setTop (mkF m 169 #[rv a1, rv sb1, rv al, iv 1, iv 3, rv ag, rv b31, iv 1, iv (own_low (x1 &&& (255 : Int32)))] [])) st37 ?_
      obtain ⟨cl38, Ar38, qk38, S38, M38, H38, G38⟩ := id c37_V_sb1
      refine og (B := T37.setTop (mkF m 134 #[rv a1, rv sb1, rv al, iv 1, iv 3, rv ag, rv b31, iv 2, iv (x2 &&& (255 : Int32))] [])) (fun t k => ?_) ?_
      · refine XS.iinc X37.here hx rfl (hb hby d21_169) rfl (l' := #[rv a1, rv sb1, rv al, iv 1, iv 3, rv ag, rv b31, iv 2, iv (own_low (x1 &&& (255 : Int32)))]) rfl ?_
        refine XS.goto X37.here hx rfl (pc0 := 172) (pc' := 117) rfl (hb hby d21_172) (by decide) (by decide) ?_
        refine XS.iload X37.here hx rfl (hb hby d21_117) rfl ?_
        refine XS.iload X37.here hx rfl (hb hby d21_119) rfl ?_
        refine XS.icmpNo X37.here hx rfl (hb hby d21_121) rfl (tlt (by decide)).2.1 ?_
        refine XS.aloadN X37.here hx rfl (hb hby d21_124) rfl rfl ?_
        show own_S p e below T37 (mkF m 125 #[rv a1, rv sb1, rv al, iv 1, iv 3, rv ag, rv b31, iv 2, iv (own_low (x1 &&& (255 : Int32)))] [(.ref sb1)]) _
        refine XS.iload X37.here hx rfl (hb hby d21_125) rfl ?_
        refine X37.baloadBytes hx (j := (2 : Int32)) (v := (.int x2)) (by rw [e37]; exact Ar38.1) (State.isArrayOf_alike hZ.alike Ar38.2.1) Ar38.2.2 (inb_of S38 ⟨by decide, by decide⟩) (Has.at H38 (inb_of S38 ⟨by decide, by decide⟩) rfl) (g := (mkF m 127 #[rv a1, rv sb1, rv al, iv 1, iv 3, rv ag, rv b31, iv 2, iv (own_low (x1 &&& (255 : Int32)))] [(.int 2), (.ref sb1)])) rfl rfl (hb hby d21_127) _ ?_
        refine XS.sipush X37.here hx rfl (hb hby d21_128) ?_
        refine XS.iand X37.here hx rfl (hb hby d21_131) rfl ?_
        refine XS.istore X37.here hx rfl (hb hby d21_132) rfl (l' := #[rv a1, rv sb1, rv al, iv 1, iv 3, rv ag, rv b31, iv 2, iv (x2 &&& (255 : Int32))]) rfl ?_
        exact k
      obtain ⟨T39, X39, e39, st39⟩ := getS2 X37 hx hZ hown (host := "") (Or.inl (ow hw 184 rfl)) Via.refl e37 (S_I.ext O37.2) (g := (mkF m 134 #[rv a1, rv sb1, rv al, iv 1, iv 3, rv ag, rv b31, iv 2, iv (x2 &&& (255 : Int32))] [])) rfl (hb hby d21_134)
      refine og (B := T39.setTop (mkF m 137 #[rv a1, rv sb1, rv al, iv 1, iv 3, rv ag, rv b31, iv 2, iv (x2 &&& (255 : Int32))] [(.ref ci)])) st39 ?_
      refine og (B := T39.setTop (mkF m 139 #[rv a1, rv sb1, rv al, iv 1, iv 3, rv ag, rv b31, iv 2, iv (x2 &&& (255 : Int32))] [(.int (x2 &&& (255 : Int32))), (.ref ci)])) (fun t k => ?_) ?_
      · refine XS.iload X39.here hx rfl (hb hby d21_137) rfl ?_
        exact k
      obtain ⟨cq40, kq40, q40a, q40b, q40c⟩ := isOf hZ e39 (E_ci.ext O37.2)
      obtain ⟨_, _, ⟨T40, L40, k40, n40⟩, -, X40, ⟨Lc40, hQ40, l40, y40, z40⟩, st40⟩ := X39.virtualBack hx (y := own_y31) (z := own_y31) hown (mvT hZ (ow hw 186 rfl)) (mvT hZ (ow hw 187 rfl)) (notFace_of_selects (args := #[]) (mvT hZ (ow hw 189 rfl))) (mvT hZ (ow hw 189 rfl)) (mvT hZ (ow hw 188 rfl)) (by decide) (backOf (W := 0) (rm37 l Z a0 hw [] ci (x2 &&& (255 : Int32)) h37 n0 zs37) hZ (ow hw 190 rfl) (ow hw 185 rfl) (by decide) (by decide)) q40a q40c (g := (mkF m 139 #[rv a1, rv sb1, rv al, iv 1, iv 3, rv ag, rv b31, iv 2, iv (x2 &&& (255 : Int32))] [(.int (x2 &&& (255 : Int32))), (.ref ci)])) rfl (by rw [hml]; rfl) (Steps.refl _) (argsL := [(.int (x2 &&& (255 : Int32)))]) (rest := []) (lenOf own_pd21 rfl) rfl (Nat.le_refl _) (hb hby d21_139) (fun _ _ => ⟨rfl, e39, (by decide : 7 + 0 ≤ _), (by decide : 39 + 0 ≤ _)⟩)
      dsimp only [Pt.U, Pt.locs, Pt.cells, Pt.slots] at X40 l40 y40 z40 st40 hQ40
      subst l40 y40 z40
      obtain ⟨rfl, N40q, eq40⟩ := hQ40
      have N40 := Fr.app N37 N40q
      refine og (B := T40.setTop (mkF m 142 #[rv a1, rv sb1, rv al, iv 1, iv 3, rv ag, rv b31, iv 2, iv (x2 &&& (255 : Int32))] [(.int (own_low (x2 &&& (255 : Int32))))])) (fun _ => st40.trans) ?_
      refine og (B := T40.setTop (mkF m 146 #[rv a1, rv sb1, rv al, iv 1, iv 3, rv ag, rv b31, iv 2, iv (own_low (x2 &&& (255 : Int32)))] [(.int (own_low (x2 &&& (255 : Int32))))])) (fun t k => ?_) ?_
      · refine XS.istore X40.here hx rfl (hb hby d21_142) rfl (l' := #[rv a1, rv sb1, rv al, iv 1, iv 3, rv ag, rv b31, iv 2, iv (own_low (x2 &&& (255 : Int32)))]) rfl ?_
        refine XS.iload X40.here hx rfl (hb hby d21_144) rfl ?_
        exact k
      obtain ⟨_, _, ⟨T41, L41, k41, n41⟩, -, X41, ⟨Lc41, hQ41, l41, y41, z41⟩, st41⟩ := Jvm.LawKit.callS X40 hx (y := own_y32) hown (mvT hZ (ow hw 213 rfl)) (mvT hZ (ow hw 214 rfl)) (mvT hZ (ow hw 120 rfl)) (mvT hZ (ow hw 215 rfl)) (by decide) (backOf (W := 0) (rm41 l Z a0 hw [] (own_low (x2 &&& (255 : Int32))) h37 n0 zs37 (own_lr _).1 (own_lr _).2) hZ (ow hw 215 rfl) (ow hw 120 rfl) (by decide) (by decide)) (g := (mkF m 146 #[rv a1, rv sb1, rv al, iv 1, iv 3, rv ag, rv b31, iv 2, iv (own_low (x2 &&& (255 : Int32)))] [(.int (own_low (x2 &&& (255 : Int32))))])) rfl (by rw [hml]; rfl) (argsL := [(.int (own_low (x2 &&& (255 : Int32))))]) (rest := []) (lenOf own_pd22 rfl) rfl (Nat.le_refl _) (hb hby d21_146) (fun _ _ => ⟨rfl, eq40, (by decide : 7 + 0 ≤ _), (by decide : 39 + 0 ≤ _)⟩)
      dsimp only [Pt.U, Pt.locs, Pt.cells, Pt.slots] at X41 l41 y41 z41 st41 hQ41
      subst l41 y41 z41
      obtain ⟨rfl, N41q, eq41⟩ := hQ41
      have N41 := Fr.app N40 N41q
      refine og (B := T41.setTop (mkF m 149 #[rv a1, rv sb1, rv al, iv 1, iv 3, rv ag, rv b31, iv 2, iv (own_low (x2 &&& (255 : Int32)))] [(.int 1)])) st41 ?_
      refine og (B := T41.setTop (mkF m 168 #[rv a1, rv sb1, rv al, iv 1, iv 3, rv ag, rv b31, iv 2, iv (own_low (x2 &&& (255 : Int32)))] [(.int ((own_low (x2 &&& (255 : Int32))).toInt8.toInt32)), (.int 2), (.ref b31)])) (fun t k => ?_) ?_
      · refine XS.ifYes X41.here hx rfl (pc0 := 149) (pc' := 161) rfl (hb hby d21_149) rfl ((if0 _ _).trans (feq (by decide)).2) (by decide) (by decide) ?_
        refine XS.aload X41.here hx rfl (hb hby d21_161) rfl rfl ?_
        refine XS.iload X41.here hx rfl (hb hby d21_163) rfl ?_
        refine XS.iload X41.here hx rfl (hb hby d21_165) rfl ?_
        refine XS.i2b X41.here hx rfl (hb hby d21_167) rfl ?_
        exact k
      obtain ⟨cl42, Ar42, qk42, S42, M42, H42, G42⟩ := id V37
      obtain ⟨T42, h42, X42, e42, W42, st42⟩ := stB X41 hx hZ eq41 Ar42 (j := (2 : Int32)) (inb_of S42 ⟨by decide, by decide⟩) (g := (mkF m 168 #[rv a1, rv sb1, rv al, iv 1, iv 3, rv ag, rv b31, iv 2, iv (own_low (x2 &&& (255 : Int32)))] [(.int ((own_low (x2 &&& (255 : Int32))).toInt8.toInt32)), (.int 2), (.ref b31)])) rfl rfl (hb hby d21_168)
      have V42 : Arv Z h42 b31 k31 .byte (3 : Int32) [(.int x0), (.int (nar .byte ((own_low (x1 &&& (255 : Int32))).toInt8.toInt32))), (.int (nar .byte ((own_low (x2 &&& (255 : Int32))).toInt8.toInt32)))] (.int 0) := Arv.set Ar42 qk42 S42 M42 H42 G42 (fits_nar_byte _) W42 2 rfl (Nat.le_of_ble_eq_true rfl)
      have c42_V_sb1 := c37_V_sb1.other W42 ne_sb1_b31
      have K42 := K37.wr W42 (Or.inr sz_b31)
      have J42 := J37.wr W42 (Or.inr sy_b31)
      have O42 := O37.wr W42 g_b31
      have N42 := Fr.snoc X42 N41 g_b31
      have zs42 := (Nat.le_trans zs37 (Keep.of_wr W42).1)
      have zk42 := (Nat.le_trans zk37 (Keep.of_wr W42).1)
      refine og (B := T42.setTop (mkF m 169 #[rv a1, rv sb1, rv al, iv 1, iv 3, rv ag, rv b31, iv 2, iv (own_low (x2 &&& (255 : Int32)))] [])) st42 ?_
      refine og (B := T42.setTop (mkF m 175 #[rv a1, rv sb1, rv al, iv 1, iv 3, rv ag, rv b31, iv 3, iv (own_low (x2 &&& (255 : Int32)))] [])) (fun t k => ?_) ?_
      · refine XS.iinc X42.here hx rfl (hb hby d21_169) rfl (l' := #[rv a1, rv sb1, rv al, iv 1, iv 3, rv ag, rv b31, iv 3, iv (own_low (x2 &&& (255 : Int32)))]) rfl ?_
        refine XS.goto X42.here hx rfl (pc0 := 172) (pc' := 117) rfl (hb hby d21_172) (by decide) (by decide) ?_
        refine XS.iload X42.here hx rfl (hb hby d21_117) rfl ?_
        refine XS.iload X42.here hx rfl (hb hby d21_119) rfl ?_
        refine XS.icmpYes X42.here hx rfl (pc0 := 121) (pc' := 175) rfl (hb hby d21_121) rfl (flt (by decide)).2.1 (by decide) (by decide) ?_
        exact k
      obtain ⟨T43, h43, X43, e43, E43, A43, D43, -, st43⟩ := newO X42 hx hZ hown (ow hw 216 rfl) (ow hw 1 rfl) (ow hw 2 rfl) e42 (g := (mkF m 175 #[rv a1, rv sb1, rv al, iv 1, iv 3, rv ag, rv b31, iv 3, iv (own_low (x2 &&& (255 : Int32)))] [])) rfl (hb hby d21_175) (by decide) (by decide)
      obtain ⟨b43, g43⟩ : ∃ z, z = h42.size := ⟨_, rfl⟩
      rw [← g43] at A43 D43 st43
      have g_b43 : n0 ≤ b43 := Nat.le_trans zs42 (Nat.le_of_eq g43.symm)
      have sz_b43 : h0.size ≤ b43 := Nat.le_trans K42.1 (Nat.le_of_eq g43.symm)
      have sy_b43 : h30.size ≤ b43 := Nat.le_trans J42.1 (Nat.le_of_eq g43.symm)
      have ne_sb1_b43 : sb1 ≠ b43 := Nat.ne_of_lt (Nat.lt_of_lt_of_le c42_V_sb1.lt (Nat.le_of_eq g43.symm))
      have ne_b31_b43 : b31 ≠ b43 := Nat.ne_of_lt (Nat.lt_of_lt_of_le V42.lt (Nat.le_of_eq g43.symm))
      have c43_V_sb1 := c42_V_sb1.ext E43
      have c43_V_b31 := V42.ext E43
      have K43 := K42.ext E43
      have J43 := J42.ext E43
      have O43 := O42.ext E43
      have F43_coder : Fld Z h43 b43 "java/lang/String" "coder" "B" (.int 0) := D43 (Or.inr (ow hw 27 rfl)) (ty := .byte) (by decide)
      have F43_value : Fld Z h43 b43 "java/lang/String" "value" "[B" .null := D43 (Or.inr (ow hw 29 rfl)) (ty := (.array .byte)) (by decide)
      refine og (B := T43.setTop (mkF m 178 #[rv a1, rv sb1, rv al, iv 1, iv 3, rv ag, rv b31, iv 3, iv (own_low (x2 &&& (255 : Int32)))] [(.ref b43)])) st43 ?_
      refine og (B := T43.setTop (mkF m 182 #[rv a1, rv sb1, rv al, iv 1, iv 3, rv ag, rv b31, iv 3, iv (own_low (x2 &&& (255 : Int32)))] [(.int 0), (.ref b31), (.ref b43), (.ref b43)])) (fun t k => ?_) ?_
      · refine XS.dup X43.here hx rfl (hb hby d21_178) rfl rfl ?_
        refine XS.aload X43.here hx rfl (hb hby d21_179) rfl rfl ?_
        refine XS.iconst X43.here hx rfl (hb hby d21_181) ?_
        exact k
      obtain ⟨_, _, ⟨T44, L44, k44, n44⟩, -, X44, ⟨Lc44, hQ44, l44, y44, z44⟩, st44⟩ := X43.specialBack hx (y := own_y35) rfl hown (mvT hZ (ow hw 217 rfl)) (mvT hZ (ow hw 218 rfl)) (mvT hZ (ow hw 219 rfl)) (by decide) (backOf (W := 1) (rm42 l Z a0 hw [] b43 b31 h43 n0 (Nat.le_trans zs42 E43.1) A43 g_b43 F43_value F43_coder) hZ (ow hw 219 rfl) (ow hw 2 rfl) (by decide) (by decide)) (g := (mkF m 182 #[rv a1, rv sb1, rv al, iv 1, iv 3, rv ag, rv b31, iv 3, iv (own_low (x2 &&& (255 : Int32)))] [(.int 0), (.ref b31), (.ref b43), (.ref b43)])) rfl (by rw [hml]; rfl) (Steps.refl _) (a := b43) (argsL := [(.ref b31), (.int 0)]) (rest := [(.ref b43)]) (lenOf own_pd23 rfl) rfl (Nat.le_refl _) (hb hby d21_182) (fun _ _ => ⟨rfl, e43, (by decide : 8 + 0 ≤ _), (by decide : 43 + 0 ≤ _)⟩)
      dsimp only [Pt.U, Pt.locs, Pt.cells, Pt.slots] at X44 l44 y44 z44 st44 hQ44
      subst l44 y44 z44
      obtain ⟨rfl, N44q, K44q, E44q, F44c, F44v⟩ := hQ44
      have N44 := Fr.app N42 N44q
      have c44_V_sb1 := c43_V_sb1.keep K44q (fun q => ne_sb1_b43 (List.mem_singleton.mp q))
      have c44_V_b31 := c43_V_b31.keep K44q (fun q => ne_b31_b43 (List.mem_singleton.mp q))
      have O44 := O43.keep K44q (allS g_b43 all0)
      have K44 := K43.trans K44q (allS (Or.inr sz_b43) all0)
      have J44 := J43.trans K44q (allS (Or.inr sy_b43) all0)
      have zs44 := (Nat.le_trans (Nat.le_trans zs42 E43.1) K44q.1)
      have zk44 := (Nat.le_trans (Nat.le_trans zk42 E43.1) K44q.1)
      refine og (B := T44.setTop (mkF m 185 #[rv a1, rv sb1, rv al, iv 1, iv 3, rv ag, rv b31, iv 3, iv (own_low (x2 &&& (255 : Int32)))] [(.ref b43)])) (fun _ => st44.trans) ?_
      obtain ⟨fs, hr, hrun, hended, hRW⟩ := X44.leaveW hS (zk44) (v := some (.ref b43)) (fun h => by rw [Bd.returns] at h; cases h)
      refine ⟨_, _, ?_, hrun, hended, _, _, rfl, ?_, (by have q := ((Ch30).trans (CHr.ext (own_ext J44) (Ch30).1)).trans (CHv.at X44 hZ (own_hEL hw) ((Ch30).trans (CHr.ext (own_ext J44) (Ch30).1)).1); rw [← hh] at q; exact q), hRW.1, hRW.2.1, hRW.2.2.1, hRW.2.2.2.mono (by decide) (by decide)⟩
      · show own_S p e below T44 (mkF m 185 #[rv a1, rv sb1, rv al, iv 1, iv 3, rv ag, rv b31, iv 3, iv (own_low (x2 &&& (255 : Int32)))] [(.ref b43)]) _
        jvm_step X44.here [X44.here.top, hx, (hb hby d21_185), X44.method', Bd.returns, Value.isRef, FieldType.isReference]
        first | (intro acts; rw [hr _ acts rfl rfl rfl]) | rw [hr _ _ rfl rfl rfl]
        exact Steps.refl _
      · show Q21_3 Z a1 sb1 kb x0 x1 x2 GC ci al ab ag agv h0 n0 _ T44.heap _
        exact ⟨b43, b31, k31, x0, (nar .byte ((own_low (x1 &&& (255 : Int32))).toInt8.toInt32)), (nar .byte ((own_low (x2 &&& (255 : Int32))).toInt8.toInt32)), rfl, N44, K44, E44q, F44c, F44v, c44_V_b31, Or.inr sz_b43, Or.inr sz_b31, hc43_5, (own_lE x1), (own_lE x2), trivial⟩
  · refine og (B := T4.setTop (mkF m 63 #[rv a1, rv sb1, rv al, iv 0, iv 3, iv (x0 &&& (255 : Int32)), .unset, .unset, .unset] [])) (fun t k => ?_) ?_
    · refine XS.icmpNo X4.here hx rfl (hb hby d21_43) rfl (feq hc43_5).1 ?_
      refine XS.goto X4.here hx rfl (pc0 := 46) (pc' := 55) rfl (hb hby d21_46) (by decide) (by decide) ?_
      refine XS.iloadN X4.here hx rfl (hb hby d21_55) rfl ?_
      refine XS.iload X4.here hx rfl (hb hby d21_56) rfl ?_
      refine XS.icmpYes X4.here hx rfl (pc0 := 58) (pc' := 63) rfl (hb hby d21_58) rfl (feq (by decide)).2 (by decide) (by decide) ?_
      exact k
    refine og (B := T4.setTop (mkF m 64 #[rv a1, rv sb1, rv al, iv 0, iv 3, iv (x0 &&& (255 : Int32)), .unset, .unset, .unset] [(.ref al)])) (fun t k => ?_) ?_
    · refine XS.aloadN X4.here hx rfl (hb hby d21_63) rfl rfl ?_
      exact k
    obtain ⟨cq45, kq45, q45a, q45b, q45c⟩ := isOf hZ eq4 (E_al.ext O0.2)
    obtain ⟨_, _, ⟨T45, L45, k45, n45⟩, -, X45, ⟨Lc45, hQ45, l45, y45, z45⟩, st45⟩ := X4.virtualBack hx (y := own_y34) (z := own_y34) hown (mvT hZ (ow hw 194 rfl)) (mvT hZ (ow hw 195 rfl)) (notFace_of_selects (args := #[]) (mvT hZ (ow hw 197 rfl))) (mvT hZ (ow hw 197 rfl)) (mvT hZ (ow hw 196 rfl)) (by decide) (backOf (W := 0) (rm39 l Z a0 hw [] al ab ag h0 n0 Z0 (F_ab.ext O0.2) (E_ab.ext O0.2) (F_ag.ext O0.2)) hZ (ow hw 198 rfl) (ow hw 107 rfl) (by decide) (by decide)) q45a q45c (g := (mkF m 64 #[rv a1, rv sb1, rv al, iv 0, iv 3, iv (x0 &&& (255 : Int32)), .unset, .unset, .unset] [(.ref al)])) rfl (by rw [hml]; rfl) (Steps.refl _) (argsL := []) (rest := []) (lenOf own_pd20 rfl) rfl (Nat.le_refl _) (hb hby d21_64) (fun _ _ => ⟨rfl, eq4, (by decide : 0 + 0 ≤ _), (by decide : 0 + 0 ≤ _)⟩)
    dsimp only [Pt.U, Pt.locs, Pt.cells, Pt.slots] at X45 l45 y45 z45 st45 hQ45
    subst l45 y45 z45
    obtain ⟨rfl, N45q, eq45⟩ := hQ45
    have N45 := Fr.app N4 N45q
    refine og (B := T45.setTop (mkF m 67 #[rv a1, rv sb1, rv al, iv 0, iv 3, iv (x0 &&& (255 : Int32)), .unset, .unset, .unset] [(.ref ag)])) (fun _ => st45.trans) ?_
    refine og (B := T45.setTop (mkF m 71 #[rv a1, rv sb1, rv al, iv 0, iv 3, rv ag, .unset, .unset, .unset] [(.ref ag)])) (fun t k => ?_) ?_
    · refine XS.astore X45.here hx rfl (hb hby d21_67) rfl rfl (l' := #[rv a1, rv sb1, rv al, iv 0, iv 3, rv ag, .unset, .unset, .unset]) rfl ?_
      refine XS.aload X45.here hx rfl (hb hby d21_69) rfl rfl ?_
      exact k
    obtain ⟨as46, T46, h46, kk46, bs46, ks46, X46, e46, E46, hS, hk46, hZ, hown, LE46, LC46, LV46, LA46, la46, lb46, hC46, hL46, hSf46, st46⟩ := ldcCH (EL := consts_1) X45 hx hZ hown (ow hw 209 rfl) (own_wS hw) eq45 hS (Nat.zero_le _) (own_hEL hw) (by decide) (CHr.refl hCH).1 (z := (2 : Int32)) own_httr (by decide) rfl (g := (mkF m 71 #[rv a1, rv sb1, rv al, iv 0, iv 3, rv ag, .unset, .unset, .unset] [(.ref ag)])) rfl (hb hby d21_71) (n := 8) (by decide) (by decide) (by decide) (by decide)
    have Ch46 := (CHr.refl hCH).trans hC46
    have c46_V_sb1 := V_b.ext E46
    have K46 := (Keep.refl h0 []).ext E46
    have O46 := O0.ext E46
    refine og (B := T46.setTop (mkF m 73 #[rv a1, rv sb1, rv al, iv 0, iv 3, rv ag, .unset, .unset, .unset] [(.ref as46), (.ref ag)])) st46 ?_
    refine og (B := T46.setTop (mkF m 76 #[rv a1, rv sb1, rv al, iv 0, iv 3, rv ag, .unset, .unset, .unset] [])) (fun t k => ?_) ?_
    · refine Jvm.RoadKit.acmp (g := (mkF m 73 #[rv a1, rv sb1, rv al, iv 0, iv 3, rv ag, .unset, .unset, .unset] [(.ref as46), (.ref ag)])) X46 hx rfl rfl rfl (pc0 := 73) (pc' := 76) (same := false) rfl (hb hby d21_73) rfl (decide_eq_false fun q => (own_lne (F_gv.ext O46.2) (V_gv.ext O46.2) LV46 LA46) (Value.ref.inj q)) (by decide) (by decide) ?_
      exact k
    refine og (B := T46.setTop (mkF m 78 #[rv a1, rv sb1, rv al, iv 0, iv 3, rv ag, .unset, .unset, .unset] [(.ref ag)])) (fun t k => ?_) ?_
    · refine XS.aload X46.here hx rfl (hb hby d21_76) rfl rfl ?_
      exact k
    obtain ⟨as47, T47, h47, kk47, bs47, ks47, X47, e47, E47, hS, hk47, hZ, hown, LE47, LC47, LV47, LA47, la47, lb47, hC47, hL47, hSf47, st47⟩ := ldcCH (EL := consts_1) X46 hx hZ hown (ow hw 210 rfl) (own_wS hw) e46 hS hk46 (own_hEL hw) (by decide) (Ch46).1 (z := (2 : Int32)) own_htaz (by decide) rfl (g := (mkF m 78 #[rv a1, rv sb1, rv al, iv 0, iv 3, rv ag, .unset, .unset, .unset] [(.ref ag)])) rfl (hb hby d21_78) (n := 8) (by decide) (by decide) (by decide) (by decide)
    have Ch47 := (Ch46).trans hC47
    have c47_V_sb1 := c46_V_sb1.ext E47
    have K47 := K46.ext E47
    have O47 := O46.ext E47
    have zs47 := (Nat.le_trans (Nat.le_trans Z0 E46.1) E47.1)
    refine og (B := T47.setTop (mkF m 80 #[rv a1, rv sb1, rv al, iv 0, iv 3, rv ag, .unset, .unset, .unset] [(.ref as47), (.ref ag)])) st47 ?_
    refine og (B := T47.setTop (mkF m 83 #[rv a1, rv sb1, rv al, iv 0, iv 3, rv ag, .unset, .unset, .unset] [])) (fun t k => ?_) ?_
    · refine Jvm.RoadKit.acmp (g := (mkF m 80 #[rv a1, rv sb1, rv al, iv 0, iv 3, rv ag, .unset, .unset, .unset] [(.ref as47), (.ref ag)])) X47 hx rfl rfl rfl (pc0 := 80) (pc' := 83) (same := false) rfl (hb hby d21_80) rfl (decide_eq_false fun q => (own_lne (F_gv.ext O47.2) (V_gv.ext O47.2) LV47 LA47) (Value.ref.inj q)) (by decide) (by decide) ?_
      exact k
    refine og (B := T47.setTop (mkF m 85 #[rv a1, rv sb1, rv al, iv 0, iv 3, rv ag, .unset, .unset, .unset] [(.ref ag)])) (fun t k => ?_) ?_
    · refine XS.aload X47.here hx rfl (hb hby d21_83) rfl rfl ?_
      exact k
    obtain ⟨as48, T48, h48, kk48, bs48, ks48, X48, e48, E48, hS, hk48, hZ, hown, LE48, LC48, LV48, LA48, la48, lb48, hC48, hL48, hSf48, st48⟩ := ldcCH (EL := consts_1) X47 hx hZ hown (ow hw 211 rfl) (own_wS hw) e47 hS hk47 (own_hEL hw) (by decide) (Ch47).1 (z := (2 : Int32)) own_htlt (by decide) rfl (g := (mkF m 85 #[rv a1, rv sb1, rv al, iv 0, iv 3, rv ag, .unset, .unset, .unset] [(.ref ag)])) rfl (hb hby d21_85) (n := 8) (by decide) (by decide) (by decide) (by decide)
    have Ch48 := (Ch47).trans hC48
    have c48_V_sb1 := c47_V_sb1.ext E48
    have K48 := K47.ext E48
    have O48 := O47.ext E48
    refine og (B := T48.setTop (mkF m 87 #[rv a1, rv sb1, rv al, iv 0, iv 3, rv ag, .unset, .unset, .unset] [(.ref as48), (.ref ag)])) st48 ?_
    refine og (B := T48.setTop (mkF m 99 #[rv a1, rv sb1, rv al, iv 0, iv 3, rv ag, .unset, .unset, .unset] [])) (fun t k => ?_) ?_
    · refine Jvm.RoadKit.acmp (g := (mkF m 87 #[rv a1, rv sb1, rv al, iv 0, iv 3, rv ag, .unset, .unset, .unset] [(.ref as48), (.ref ag)])) X48 hx rfl rfl rfl (pc0 := 87) (pc' := 99) (same := false) rfl (hb hby d21_87) rfl (decide_eq_false fun q => (own_lne (F_gv.ext O48.2) (V_gv.ext O48.2) LV48 LA48) (Value.ref.inj q)) (by decide) (by decide) ?_
      exact k
    refine og (B := T48.setTop (mkF m 101 #[rv a1, rv sb1, rv al, iv 0, iv 3, rv ag, .unset, .unset, .unset] [(.int 3)])) (fun t k => ?_) ?_
    · refine XS.iload X48.here hx rfl (hb hby d21_99) rfl ?_
      exact k
    obtain ⟨T49, h49, k49, X49, e49, E49, A49, st49⟩ := newP X48 hx hZ (ow hw 19 rfl) e48 (g := (mkF m 101 #[rv a1, rv sb1, rv al, iv 0, iv 3, rv ag, .unset, .unset, .unset] [(.int 3)])) rfl (hb hby d21_101) rfl (by decide) (cap := 3) (by decide) (by decide) (by decide) (by decide)
    obtain ⟨b49, g49⟩ : ∃ z, z = h48.size := ⟨_, rfl⟩
    rw [← g49] at A49 st49
    have g_b49 : n0 ≤ b49 := Nat.le_trans (Nat.le_trans zs47 E48.1) (Nat.le_of_eq g49.symm)
    have sz_b49 : h0.size ≤ b49 := Nat.le_trans K48.1 (Nat.le_of_eq g49.symm)
    have sy_b49 : h48.size ≤ b49 := Nat.le_trans (Keep.refl h48 []).1 (Nat.le_of_eq g49.symm)
    have ne_sb1_b49 : sb1 ≠ b49 := Nat.ne_of_lt (Nat.lt_of_lt_of_le c48_V_sb1.lt (Nat.le_of_eq g49.symm))
    have c49_V_sb1 := c48_V_sb1.ext E49
    have K49 := K48.ext E49
    have J49 := (Keep.refl h48 []).ext E49
    have O49 := O48.ext E49
    have V49 : Arv Z h49 b49 k49 .byte (3 : Int32) [(.int 0), (.int 0), (.int 0)] (.int 0) := (Arv.new A49 (by decide)).pad (pad_rep [] (.int 0) 3)
    have zs49 := (Nat.le_trans (Nat.le_trans zs47 E48.1) E49.1)
    refine og (B := T49.setTop (mkF m 103 #[rv a1, rv sb1, rv al, iv 0, iv 3, rv ag, .unset, .unset, .unset] [(.ref b49)])) st49 ?_
    refine og (B := T49.setTop (mkF m 111 #[rv a1, rv sb1, rv al, iv 0, iv 3, rv ag, rv b49, .unset, .unset] [(.int 0), (.int 0), (.ref b49), (.int 0), (.ref sb1)])) (fun t k => ?_) ?_
    · refine XS.astore X49.here hx rfl (hb hby d21_103) rfl rfl (l' := #[rv a1, rv sb1, rv al, iv 0, iv 3, rv ag, rv b49, .unset, .unset]) rfl ?_
      refine XS.aloadN X49.here hx rfl (hb hby d21_105) rfl rfl ?_
      refine XS.iconst X49.here hx rfl (hb hby d21_106) ?_
      refine XS.aload X49.here hx rfl (hb hby d21_107) rfl rfl ?_
      refine XS.iconst X49.here hx rfl (hb hby d21_109) ?_
      refine XS.iloadN X49.here hx rfl (hb hby d21_110) rfl ?_
      exact k
    obtain ⟨T50, h50, L50, X50, e50, N50, K50q, V50q, st50⟩ := cpA X49 hx hZ hown (ow hw 212 rfl) (ow hw 105 rfl) (ow hw 103 rfl) (ow hw 104 rfl) e49 c49_V_sb1 V49 (us := []) (Or.inl ⟨rfl, rfl⟩) (by decide) (by decide) (by decide) (by decide) (by decide) rfl (Nat.le_of_ble_eq_true rfl) N45 g_b49 (g := (mkF m 111 #[rv a1, rv sb1, rv al, iv 0, iv 3, rv ag, rv b49, .unset, .unset] [(.int 0), (.int 0), (.ref b49), (.int 0), (.ref sb1)])) rfl (by rw [hml]; rfl) (rest := []) rfl (hb hby d21_111) (by decide) (W := 0) (Nat.le_refl _) (by decide)
    have V50 : Arv Z h50 b49 k49 .byte (3 : Int32) [(.int 0), (.int 0), (.int 0)] (.int 0) := V50q
    have c50_V_sb1 := c49_V_sb1.keep K50q (fun q => ne_sb1_b49 (List.mem_singleton.mp q))
    have O50 := O49.keep K50q (allS g_b49 all0)
    have K50 := K49.trans K50q (allS (Or.inr sz_b49) all0)
    have J50 := J49.trans K50q (allS (Or.inr sy_b49) all0)
    have zk50 := (Nat.le_trans (Nat.le_trans hk48 E49.1) K50q.1)
    refine og (B := T50.setTop (mkF m 114 #[rv a1, rv sb1, rv al, iv 0, iv 3, rv ag, rv b49, .unset, .unset] [])) st50 ?_
    obtain ⟨cl51, Ar51, qk51, S51, M51, H51, G51⟩ := id c50_V_sb1
    refine og (B := T50.setTop (mkF m 134 #[rv a1, rv sb1, rv al, iv 0, iv 3, rv ag, rv b49, iv 0, iv (x0 &&& (255 : Int32))] [])) (fun t k => ?_) ?_
    · refine XS.iloadN X50.here hx rfl (hb hby d21_114) rfl ?_
      refine XS.istore X50.here hx rfl (hb hby d21_115) rfl (l' := #[rv a1, rv sb1, rv al, iv 0, iv 3, rv ag, rv b49, iv 0, .unset]) rfl ?_
      refine XS.iload X50.here hx rfl (hb hby d21_117) rfl ?_
      refine XS.iload X50.here hx rfl (hb hby d21_119) rfl ?_
      refine XS.icmpNo X50.here hx rfl (hb hby d21_121) rfl (tlt (by decide)).2.1 ?_
      refine XS.aloadN X50.here hx rfl (hb hby d21_124) rfl rfl ?_
      show own_S p e below T50 (mkF m 125 #[rv a1, rv sb1, rv al, iv 0, iv 3, rv ag, rv b49, iv 0, .unset] [(.ref sb1)]) _
      refine XS.iload X50.here hx rfl (hb hby d21_125) rfl ?_
      refine X50.baloadBytes hx (j := (0 : Int32)) (v := (.int x0)) (by rw [e50]; exact Ar51.1) (State.isArrayOf_alike hZ.alike Ar51.2.1) Ar51.2.2 (inb_of S51 ⟨by decide, by decide⟩) (Has.at H51 (inb_of S51 ⟨by decide, by decide⟩) rfl) (g := (mkF m 127 #[rv a1, rv sb1, rv al, iv 0, iv 3, rv ag, rv b49, iv 0, .unset] [(.int 0), (.ref sb1)])) rfl rfl (hb hby d21_127) _ ?_
      refine XS.sipush X50.here hx rfl (hb hby d21_128) ?_
      refine XS.iand X50.here hx rfl (hb hby d21_131) rfl ?_
      refine XS.istore X50.here hx rfl (hb hby d21_132) rfl (l' := #[rv a1, rv sb1, rv al, iv 0, iv 3, rv ag, rv b49, iv 0, iv (x0 &&& (255 : Int32))]) rfl ?_
      exact k
    obtain ⟨T52, X52, e52, st52⟩ := getS2 X50 hx hZ hown (host := "") (Or.inl (ow hw 184 rfl)) Via.refl e50 (S_I.ext O50.2) (g := (mkF m 134 #[rv a1, rv sb1, rv al, iv 0, iv 3, rv ag, rv b49, iv 0, iv (x0 &&& (255 : Int32))] [])) rfl (hb hby d21_134)
    refine og (B := T52.setTop (mkF m 137 #[rv a1, rv sb1, rv al, iv 0, iv 3, rv ag, rv b49, iv 0, iv (x0 &&& (255 : Int32))] [(.ref ci)])) st52 ?_
    refine og (B := T52.setTop (mkF m 139 #[rv a1, rv sb1, rv al, iv 0, iv 3, rv ag, rv b49, iv 0, iv (x0 &&& (255 : Int32))] [(.int (x0 &&& (255 : Int32))), (.ref ci)])) (fun t k => ?_) ?_
    · refine XS.iload X52.here hx rfl (hb hby d21_137) rfl ?_
      exact k
    obtain ⟨cq53, kq53, q53a, q53b, q53c⟩ := isOf hZ e52 (E_ci.ext O50.2)
    obtain ⟨_, _, ⟨T53, L53, k53, n53⟩, -, X53, ⟨Lc53, hQ53, l53, y53, z53⟩, st53⟩ := X52.virtualBack hx (y := own_y31) (z := own_y31) hown (mvT hZ (ow hw 186 rfl)) (mvT hZ (ow hw 187 rfl)) (notFace_of_selects (args := #[]) (mvT hZ (ow hw 189 rfl))) (mvT hZ (ow hw 189 rfl)) (mvT hZ (ow hw 188 rfl)) (by decide) (backOf (W := 0) (rm37 l Z a0 hw [] ci (x0 &&& (255 : Int32)) h50 n0 (Nat.le_trans zs49 K50q.1)) hZ (ow hw 190 rfl) (ow hw 185 rfl) (by decide) (by decide)) q53a q53c (g := (mkF m 139 #[rv a1, rv sb1, rv al, iv 0, iv 3, rv ag, rv b49, iv 0, iv (x0 &&& (255 : Int32))] [(.int (x0 &&& (255 : Int32))), (.ref ci)])) rfl (by rw [hml]; rfl) (Steps.refl _) (argsL := [(.int (x0 &&& (255 : Int32)))]) (rest := []) (lenOf own_pd21 rfl) rfl (Nat.le_refl _) (hb hby d21_139) (fun _ _ => ⟨rfl, e52, (by decide : 7 + 0 ≤ _), (by decide : 39 + 0 ≤ _)⟩)
    dsimp only [Pt.U, Pt.locs, Pt.cells, Pt.slots] at X53 l53 y53 z53 st53 hQ53
    subst l53 y53 z53
    obtain ⟨rfl, N53q, eq53⟩ := hQ53
    have N53 := Fr.app N50 N53q
    refine og (B := T53.setTop (mkF m 142 #[rv a1, rv sb1, rv al, iv 0, iv 3, rv ag, rv b49, iv 0, iv (x0 &&& (255 : Int32))] [(.int (own_low (x0 &&& (255 : Int32))))])) (fun _ => st53.trans) ?_
    refine og (B := T53.setTop (mkF m 146 #[rv a1, rv sb1, rv al, iv 0, iv 3, rv ag, rv b49, iv 0, iv (own_low (x0 &&& (255 : Int32)))] [(.int (own_low (x0 &&& (255 : Int32))))])) (fun t k => ?_) ?_
    · refine XS.istore X53.here hx rfl (hb hby d21_142) rfl (l' := #[rv a1, rv sb1, rv al, iv 0, iv 3, rv ag, rv b49, iv 0, iv (own_low (x0 &&& (255 : Int32)))]) rfl ?_
      refine XS.iload X53.here hx rfl (hb hby d21_144) rfl ?_
      exact k
    obtain ⟨_, _, ⟨T54, L54, k54, n54⟩, -, X54, ⟨Lc54, hQ54, l54, y54, z54⟩, st54⟩ := Jvm.LawKit.callS X53 hx (y := own_y32) hown (mvT hZ (ow hw 213 rfl)) (mvT hZ (ow hw 214 rfl)) (mvT hZ (ow hw 120 rfl)) (mvT hZ (ow hw 215 rfl)) (by decide) (backOf (W := 0) (rm41 l Z a0 hw [] (own_low (x0 &&& (255 : Int32))) h50 n0 (Nat.le_trans zs49 K50q.1) (own_lr _).1 (own_lr _).2) hZ (ow hw 215 rfl) (ow hw 120 rfl) (by decide) (by decide)) (g := (mkF m 146 #[rv a1, rv sb1, rv al, iv 0, iv 3, rv ag, rv b49, iv 0, iv (own_low (x0 &&& (255 : Int32)))] [(.int (own_low (x0 &&& (255 : Int32))))])) rfl (by rw [hml]; rfl) (argsL := [(.int (own_low (x0 &&& (255 : Int32))))]) (rest := []) (lenOf own_pd22 rfl) rfl (Nat.le_refl _) (hb hby d21_146) (fun _ _ => ⟨rfl, eq53, (by decide : 7 + 0 ≤ _), (by decide : 39 + 0 ≤ _)⟩)
    dsimp only [Pt.U, Pt.locs, Pt.cells, Pt.slots] at X54 l54 y54 z54 st54 hQ54
    subst l54 y54 z54
    obtain ⟨rfl, N54q, eq54⟩ := hQ54
    have N54 := Fr.app N53 N54q
    refine og (B := T54.setTop (mkF m 149 #[rv a1, rv sb1, rv al, iv 0, iv 3, rv ag, rv b49, iv 0, iv (own_low (x0 &&& (255 : Int32)))] [(.int 1)])) st54 ?_
    refine og (B := T54.setTop (mkF m 168 #[rv a1, rv sb1, rv al, iv 0, iv 3, rv ag, rv b49, iv 0, iv (own_low (x0 &&& (255 : Int32)))] [(.int ((own_low (x0 &&& (255 : Int32))).toInt8.toInt32)), (.int 0), (.ref b49)])) (fun t k => ?_) ?_
    · refine XS.ifYes X54.here hx rfl (pc0 := 149) (pc' := 161) rfl (hb hby d21_149) rfl ((if0 _ _).trans (feq (by decide)).2) (by decide) (by decide) ?_
      refine XS.aload X54.here hx rfl (hb hby d21_161) rfl rfl ?_
      refine XS.iload X54.here hx rfl (hb hby d21_163) rfl ?_
      refine XS.iload X54.here hx rfl (hb hby d21_165) rfl ?_
      refine XS.i2b X54.here hx rfl (hb hby d21_167) rfl ?_
      exact k
    obtain ⟨cl55, Ar55, qk55, S55, M55, H55, G55⟩ := id V50
    obtain ⟨T55, h55, X55, e55, W55, st55⟩ := stB X54 hx hZ eq54 Ar55 (j := (0 : Int32)) (inb_of S55 ⟨by decide, by decide⟩) (g := (mkF m 168 #[rv a1, rv sb1, rv al, iv 0, iv 3, rv ag, rv b49, iv 0, iv (own_low (x0 &&& (255 : Int32)))] [(.int ((own_low (x0 &&& (255 : Int32))).toInt8.toInt32)), (.int 0), (.ref b49)])) rfl rfl (hb hby d21_168)
    have V55 : Arv Z h55 b49 k49 .byte (3 : Int32) [(.int (nar .byte ((own_low (x0 &&& (255 : Int32))).toInt8.toInt32))), (.int 0), (.int 0)] (.int 0) := Arv.set Ar55 qk55 S55 M55 H55 G55 (fits_nar_byte _) W55 0 rfl (Nat.le_of_ble_eq_true rfl)
    have c55_V_sb1 := c50_V_sb1.other W55 ne_sb1_b49
    have K55 := K50.wr W55 (Or.inr sz_b49)
    have J55 := J50.wr W55 (Or.inr sy_b49)
    have O55 := O50.wr W55 g_b49
    have N55 := Fr.snoc X55 N54 g_b49
    have zs55 := (Nat.le_trans (Nat.le_trans zs49 K50q.1) (Keep.of_wr W55).1)
    have zk55 := (Nat.le_trans zk50 (Keep.of_wr W55).1)
    refine og (B := T55.setTop (mkF m 169 #[rv a1, rv sb1, rv al, iv 0, iv 3, rv ag, rv b49, iv 0, iv (own_low (x0 &&& (255 : Int32)))] [])) st55 ?_
    obtain ⟨cl56, Ar56, qk56, S56, M56, H56, G56⟩ := id c55_V_sb1
    refine og (B := T55.setTop (mkF m 134 #[rv a1, rv sb1, rv al, iv 0, iv 3, rv ag, rv b49, iv 1, iv (x1 &&& (255 : Int32))] [])) (fun t k => ?_) ?_
    · refine XS.iinc X55.here hx rfl (hb hby d21_169) rfl (l' := #[rv a1, rv sb1, rv al, iv 0, iv 3, rv ag, rv b49, iv 1, iv (own_low (x0 &&& (255 : Int32)))]) rfl ?_
      refine XS.goto X55.here hx rfl (pc0 := 172) (pc' := 117) rfl (hb hby d21_172) (by decide) (by decide) ?_
      refine XS.iload X55.here hx rfl (hb hby d21_117) rfl ?_
      refine XS.iload X55.here hx rfl (hb hby d21_119) rfl ?_
      refine XS.icmpNo X55.here hx rfl (hb hby d21_121) rfl (tlt (by decide)).2.1 ?_
      refine XS.aloadN X55.here hx rfl (hb hby d21_124) rfl rfl ?_
      show own_S p e below T55 (mkF m 125 #[rv a1, rv sb1, rv al, iv 0, iv 3, rv ag, rv b49, iv 1, iv (own_low (x0 &&& (255 : Int32)))] [(.ref sb1)]) _
      refine XS.iload X55.here hx rfl (hb hby d21_125) rfl ?_
      refine X55.baloadBytes hx (j := (1 : Int32)) (v := (.int x1)) (by rw [e55]; exact Ar56.1) (State.isArrayOf_alike hZ.alike Ar56.2.1) Ar56.2.2 (inb_of S56 ⟨by decide, by decide⟩) (Has.at H56 (inb_of S56 ⟨by decide, by decide⟩) rfl) (g := (mkF m 127 #[rv a1, rv sb1, rv al, iv 0, iv 3, rv ag, rv b49, iv 1, iv (own_low (x0 &&& (255 : Int32)))] [(.int 1), (.ref sb1)])) rfl rfl (hb hby d21_127) _ ?_
      refine XS.sipush X55.here hx rfl (hb hby d21_128) ?_
      refine XS.iand X55.here hx rfl (hb hby d21_131) rfl ?_
      refine XS.istore X55.here hx rfl (hb hby d21_132) rfl (l' := #[rv a1, rv sb1, rv al, iv 0, iv 3, rv ag, rv b49, iv 1, iv (x1 &&& (255 : Int32))]) rfl ?_
      exact k
    obtain ⟨T57, X57, e57, st57⟩ := getS2 X55 hx hZ hown (host := "") (Or.inl (ow hw 184 rfl)) Via.refl e55 (S_I.ext O55.2) (g := (mkF m 134 #[rv a1, rv sb1, rv al, iv 0, iv 3, rv ag, rv b49, iv 1, iv (x1 &&& (255 : Int32))] [])) rfl (hb hby d21_134)
    refine og (B := T57.setTop (mkF m 137 #[rv a1, rv sb1, rv al, iv 0, iv 3, rv ag, rv b49, iv 1, iv (x1 &&& (255 : Int32))] [(.ref ci)])) st57 ?_
    refine og (B := T57.setTop (mkF m 139 #[rv a1, rv sb1, rv al, iv 0, iv 3, rv ag, rv b49, iv 1, iv (x1 &&& (255 : Int32))] [(.int (x1 &&& (255 : Int32))), (.ref ci)])) (fun t k => ?_) ?_
    · refine XS.iload X57.here hx rfl (hb hby d21_137) rfl ?_
      exact k
    obtain ⟨cq58, kq58, q58a, q58b, q58c⟩ := isOf hZ e57 (E_ci.ext O55.2)
    obtain ⟨_, _, ⟨T58, L58, k58, n58⟩, -, X58, ⟨Lc58, hQ58, l58, y58, z58⟩, st58⟩ := X57.virtualBack hx (y := own_y31) (z := own_y31) hown (mvT hZ (ow hw 186 rfl)) (mvT hZ (ow hw 187 rfl)) (notFace_of_selects (args := #[]) (mvT hZ (ow hw 189 rfl))) (mvT hZ (ow hw 189 rfl)) (mvT hZ (ow hw 188 rfl)) (by decide) (backOf (W := 0) (rm37 l Z a0 hw [] ci (x1 &&& (255 : Int32)) h55 n0 zs55) hZ (ow hw 190 rfl) (ow hw 185 rfl) (by decide) (by decide)) q58a q58c (g := (mkF m 139 #[rv a1, rv sb1, rv al, iv 0, iv 3, rv ag, rv b49, iv 1, iv (x1 &&& (255 : Int32))] [(.int (x1 &&& (255 : Int32))), (.ref ci)])) rfl (by rw [hml]; rfl) (Steps.refl _) (argsL := [(.int (x1 &&& (255 : Int32)))]) (rest := []) (lenOf own_pd21 rfl) rfl (Nat.le_refl _) (hb hby d21_139) (fun _ _ => ⟨rfl, e57, (by decide : 7 + 0 ≤ _), (by decide : 39 + 0 ≤ _)⟩)
    dsimp only [Pt.U, Pt.locs, Pt.cells, Pt.slots] at X58 l58 y58 z58 st58 hQ58
    subst l58 y58 z58
    obtain ⟨rfl, N58q, eq58⟩ := hQ58
    have N58 := Fr.app N55 N58q
    refine og (B := T58.setTop (mkF m 142 #[rv a1, rv sb1, rv al, iv 0, iv 3, rv ag, rv b49, iv 1, iv (x1 &&& (255 : Int32))] [(.int (own_low (x1 &&& (255 : Int32))))])) (fun _ => st58.trans) ?_
    refine og (B := T58.setTop (mkF m 146 #[rv a1, rv sb1, rv al, iv 0, iv 3, rv ag, rv b49, iv 1, iv (own_low (x1 &&& (255 : Int32)))] [(.int (own_low (x1 &&& (255 : Int32))))])) (fun t k => ?_) ?_
    · refine XS.istore X58.here hx rfl (hb hby d21_142) rfl (l' := #[rv a1, rv sb1, rv al, iv 0, iv 3, rv ag, rv b49, iv 1, iv (own_low (x1 &&& (255 : Int32)))]) rfl ?_
      refine XS.iload X58.here hx rfl (hb hby d21_144) rfl ?_
      exact k
    obtain ⟨_, _, ⟨T59, L59, k59, n59⟩, -, X59, ⟨Lc59, hQ59, l59, y59, z59⟩, st59⟩ := Jvm.LawKit.callS X58 hx (y := own_y32) hown (mvT hZ (ow hw 213 rfl)) (mvT hZ (ow hw 214 rfl)) (mvT hZ (ow hw 120 rfl)) (mvT hZ (ow hw 215 rfl)) (by decide) (backOf (W := 0) (rm41 l Z a0 hw [] (own_low (x1 &&& (255 : Int32))) h55 n0 zs55 (own_lr _).1 (own_lr _).2) hZ (ow hw 215 rfl) (ow hw 120 rfl) (by decide) (by decide)) (g := (mkF m 146 #[rv a1, rv sb1, rv al, iv 0, iv 3, rv ag, rv b49, iv 1, iv (own_low (x1 &&& (255 : Int32)))] [(.int (own_low (x1 &&& (255 : Int32))))])) rfl (by rw [hml]; rfl) (argsL := [(.int (own_low (x1 &&& (255 : Int32))))]) (rest := []) (lenOf own_pd22 rfl) rfl (Nat.le_refl _) (hb hby d21_146) (fun _ _ => ⟨rfl, eq58, (by decide : 7 + 0 ≤ _), (by decide : 39 + 0 ≤ _)⟩)
    dsimp only [Pt.U, Pt.locs, Pt.cells, Pt.slots] at X59 l59 y59 z59 st59 hQ59
    subst l59 y59 z59
    obtain ⟨rfl, N59q, eq59⟩ := hQ59
    have N59 := Fr.app N58 N59q
    refine og (B := T59.setTop (mkF m 149 #[rv a1, rv sb1, rv al, iv 0, iv 3, rv ag, rv b49, iv 1, iv (own_low (x1 &&& (255 : Int32)))] [(.int 1)])) st59 ?_
    refine og (B := T59.setTop (mkF m 168 #[rv a1, rv sb1, rv al, iv 0, iv 3, rv ag, rv b49, iv 1, iv (own_low (x1 &&& (255 : Int32)))] [(.int ((own_low (x1 &&& (255 : Int32))).toInt8.toInt32)), (.int 1), (.ref b49)])) (fun t k => ?_) ?_
    · refine XS.ifYes X59.here hx rfl (pc0 := 149) (pc' := 161) rfl (hb hby d21_149) rfl ((if0 _ _).trans (feq (by decide)).2) (by decide) (by decide) ?_
      refine XS.aload X59.here hx rfl (hb hby d21_161) rfl rfl ?_
      refine XS.iload X59.here hx rfl (hb hby d21_163) rfl ?_
      refine XS.iload X59.here hx rfl (hb hby d21_165) rfl ?_
      refine XS.i2b X59.here hx rfl (hb hby d21_167) rfl ?_
      exact k
    obtain ⟨cl60, Ar60, qk60, S60, M60, H60, G60⟩ := id V55
    obtain ⟨T60, h60, X60, e60, W60, st60⟩ := stB X59 hx hZ eq59 Ar60 (j := (1 : Int32)) (inb_of S60 ⟨by decide, by decide⟩) (g := (mkF m 168 #[rv a1, rv sb1, rv al, iv 0, iv 3, rv ag, rv b49, iv 1, iv (own_low (x1 &&& (255 : Int32)))] [(.int ((own_low (x1 &&& (255 : Int32))).toInt8.toInt32)), (.int 1), (.ref b49)])) rfl rfl (hb hby d21_168)
    have V60 : Arv Z h60 b49 k49 .byte (3 : Int32) [(.int (nar .byte ((own_low (x0 &&& (255 : Int32))).toInt8.toInt32))), (.int (nar .byte ((own_low (x1 &&& (255 : Int32))).toInt8.toInt32))), (.int 0)] (.int 0) := Arv.set Ar60 qk60 S60 M60 H60 G60 (fits_nar_byte _) W60 1 rfl (Nat.le_of_ble_eq_true rfl)
    have c60_V_sb1 := c55_V_sb1.other W60 ne_sb1_b49
    have K60 := K55.wr W60 (Or.inr sz_b49)
    have J60 := J55.wr W60 (Or.inr sy_b49)
    have O60 := O55.wr W60 g_b49
    have N60 := Fr.snoc X60 N59 g_b49
    have zs60 := (Nat.le_trans zs55 (Keep.of_wr W60).1)
    have zk60 := (Nat.le_trans zk55 (Keep.of_wr W60).1)
    refine og (B := T60.setTop (mkF m 169 #[rv a1, rv sb1, rv al, iv 0, iv 3, rv ag, rv b49, iv 1, iv (own_low (x1 &&& (255 : Int32)))] [])) st60 ?_
    obtain ⟨cl61, Ar61, qk61, S61, M61, H61, G61⟩ := id c60_V_sb1
    refine og (B := T60.setTop (mkF m 134 #[rv a1, rv sb1, rv al, iv 0, iv 3, rv ag, rv b49, iv 2, iv (x2 &&& (255 : Int32))] [])) (fun t k => ?_) ?_
    · refine XS.iinc X60.here hx rfl (hb hby d21_169) rfl (l' := #[rv a1, rv sb1, rv al, iv 0, iv 3, rv ag, rv b49, iv 2, iv (own_low (x1 &&& (255 : Int32)))]) rfl ?_
      refine XS.goto X60.here hx rfl (pc0 := 172) (pc' := 117) rfl (hb hby d21_172) (by decide) (by decide) ?_
      refine XS.iload X60.here hx rfl (hb hby d21_117) rfl ?_
      refine XS.iload X60.here hx rfl (hb hby d21_119) rfl ?_
      refine XS.icmpNo X60.here hx rfl (hb hby d21_121) rfl (tlt (by decide)).2.1 ?_
      refine XS.aloadN X60.here hx rfl (hb hby d21_124) rfl rfl ?_
      show own_S p e below T60 (mkF m 125 #[rv a1, rv sb1, rv al, iv 0, iv 3, rv ag, rv b49, iv 2, iv (own_low (x1 &&& (255 : Int32)))] [(.ref sb1)]) _
      refine XS.iload X60.here hx rfl (hb hby d21_125) rfl ?_
      refine X60.baloadBytes hx (j := (2 : Int32)) (v := (.int x2)) (by rw [e60]; exact Ar61.1) (State.isArrayOf_alike hZ.alike Ar61.2.1) Ar61.2.2 (inb_of S61 ⟨by decide, by decide⟩) (Has.at H61 (inb_of S61 ⟨by decide, by decide⟩) rfl) (g := (mkF m 127 #[rv a1, rv sb1, rv al, iv 0, iv 3, rv ag, rv b49, iv 2, iv (own_low (x1 &&& (255 : Int32)))] [(.int 2), (.ref sb1)])) rfl rfl (hb hby d21_127) _ ?_
      refine XS.sipush X60.here hx rfl (hb hby d21_128) ?_
      refine XS.iand X60.here hx rfl (hb hby d21_131) rfl ?_
      refine XS.istore X60.here hx rfl (hb hby d21_132) rfl (l' := #[rv a1, rv sb1, rv al, iv 0, iv 3, rv ag, rv b49, iv 2, iv (x2 &&& (255 : Int32))]) rfl ?_
      exact k
    obtain ⟨T62, X62, e62, st62⟩ := getS2 X60 hx hZ hown (host := "") (Or.inl (ow hw 184 rfl)) Via.refl e60 (S_I.ext O60.2) (g := (mkF m 134 #[rv a1, rv sb1, rv al, iv 0, iv 3, rv ag, rv b49, iv 2, iv (x2 &&& (255 : Int32))] [])) rfl (hb hby d21_134)
    refine og (B := T62.setTop (mkF m 137 #[rv a1, rv sb1, rv al, iv 0, iv 3, rv ag, rv b49, iv 2, iv (x2 &&& (255 : Int32))] [(.ref ci)])) st62 ?_
    refine og (B := T62.setTop (mkF m 139 #[rv a1, rv sb1, rv al, iv 0, iv 3, rv ag, rv b49, iv 2, iv (x2 &&& (255 : Int32))] [(.int (x2 &&& (255 : Int32))), (.ref ci)])) (fun t k => ?_) ?_
    · refine XS.iload X62.here hx rfl (hb hby d21_137) rfl ?_
      exact k
    obtain ⟨cq63, kq63, q63a, q63b, q63c⟩ := isOf hZ e62 (E_ci.ext O60.2)
    obtain ⟨_, _, ⟨T63, L63, k63, n63⟩, -, X63, ⟨Lc63, hQ63, l63, y63, z63⟩, st63⟩ := X62.virtualBack hx (y := own_y31) (z := own_y31) hown (mvT hZ (ow hw 186 rfl)) (mvT hZ (ow hw 187 rfl)) (notFace_of_selects (args := #[]) (mvT hZ (ow hw 189 rfl))) (mvT hZ (ow hw 189 rfl)) (mvT hZ (ow hw 188 rfl)) (by decide) (backOf (W := 0) (rm37 l Z a0 hw [] ci (x2 &&& (255 : Int32)) h60 n0 zs60) hZ (ow hw 190 rfl) (ow hw 185 rfl) (by decide) (by decide)) q63a q63c (g := (mkF m 139 #[rv a1, rv sb1, rv al, iv 0, iv 3, rv ag, rv b49, iv 2, iv (x2 &&& (255 : Int32))] [(.int (x2 &&& (255 : Int32))), (.ref ci)])) rfl (by rw [hml]; rfl) (Steps.refl _) (argsL := [(.int (x2 &&& (255 : Int32)))]) (rest := []) (lenOf own_pd21 rfl) rfl (Nat.le_refl _) (hb hby d21_139) (fun _ _ => ⟨rfl, e62, (by decide : 7 + 0 ≤ _), (by decide : 39 + 0 ≤ _)⟩)
    dsimp only [Pt.U, Pt.locs, Pt.cells, Pt.slots] at X63 l63 y63 z63 st63 hQ63
    subst l63 y63 z63
    obtain ⟨rfl, N63q, eq63⟩ := hQ63
    have N63 := Fr.app N60 N63q
    refine og (B := T63.setTop (mkF m 142 #[rv a1, rv sb1, rv al, iv 0, iv 3, rv ag, rv b49, iv 2, iv (x2 &&& (255 : Int32))] [(.int (own_low (x2 &&& (255 : Int32))))])) (fun _ => st63.trans) ?_
    refine og (B := T63.setTop (mkF m 146 #[rv a1, rv sb1, rv al, iv 0, iv 3, rv ag, rv b49, iv 2, iv (own_low (x2 &&& (255 : Int32)))] [(.int (own_low (x2 &&& (255 : Int32))))])) (fun t k => ?_) ?_
    · refine XS.istore X63.here hx rfl (hb hby d21_142) rfl (l' := #[rv a1, rv sb1, rv al, iv 0, iv 3, rv ag, rv b49, iv 2, iv (own_low (x2 &&& (255 : Int32)))]) rfl ?_
      refine XS.iload X63.here hx rfl (hb hby d21_144) rfl ?_
      exact k
    obtain ⟨_, _, ⟨T64, L64, k64, n64⟩, -, X64, ⟨Lc64, hQ64, l64, y64, z64⟩, st64⟩ := Jvm.LawKit.callS X63 hx (y := own_y32) hown (mvT hZ (ow hw 213 rfl)) (mvT hZ (ow hw 214 rfl)) (mvT hZ (ow hw 120 rfl)) (mvT hZ (ow hw 215 rfl)) (by decide) (backOf (W := 0) (rm41 l Z a0 hw [] (own_low (x2 &&& (255 : Int32))) h60 n0 zs60 (own_lr _).1 (own_lr _).2) hZ (ow hw 215 rfl) (ow hw 120 rfl) (by decide) (by decide)) (g := (mkF m 146 #[rv a1, rv sb1, rv al, iv 0, iv 3, rv ag, rv b49, iv 2, iv (own_low (x2 &&& (255 : Int32)))] [(.int (own_low (x2 &&& (255 : Int32))))])) rfl (by rw [hml]; rfl) (argsL := [(.int (own_low (x2 &&& (255 : Int32))))]) (rest := []) (lenOf own_pd22 rfl) rfl (Nat.le_refl _) (hb hby d21_146) (fun _ _ => ⟨rfl, eq63, (by decide : 7 + 0 ≤ _), (by decide : 39 + 0 ≤ _)⟩)
    dsimp only [Pt.U, Pt.locs, Pt.cells, Pt.slots] at X64 l64 y64 z64 st64 hQ64
    subst l64 y64 z64
    obtain ⟨rfl, N64q, eq64⟩ := hQ64
    have N64 := Fr.app N63 N64q
    refine og (B := T64.setTop (mkF m 149 #[rv a1, rv sb1, rv al, iv 0, iv 3, rv ag, rv b49, iv 2, iv (own_low (x2 &&& (255 : Int32)))] [(.int 1)])) st64 ?_
    refine og (B := T64.setTop (mkF m 168 #[rv a1, rv sb1, rv al, iv 0, iv 3, rv ag, rv b49, iv 2, iv (own_low (x2 &&& (255 : Int32)))] [(.int ((own_low (x2 &&& (255 : Int32))).toInt8.toInt32)), (.int 2), (.ref b49)])) (fun t k => ?_) ?_
    · refine XS.ifYes X64.here hx rfl (pc0 := 149) (pc' := 161) rfl (hb hby d21_149) rfl ((if0 _ _).trans (feq (by decide)).2) (by decide) (by decide) ?_
      refine XS.aload X64.here hx rfl (hb hby d21_161) rfl rfl ?_
      refine XS.iload X64.here hx rfl (hb hby d21_163) rfl ?_
      refine XS.iload X64.here hx rfl (hb hby d21_165) rfl ?_
      refine XS.i2b X64.here hx rfl (hb hby d21_167) rfl ?_
      exact k
    obtain ⟨cl65, Ar65, qk65, S65, M65, H65, G65⟩ := id V60
    obtain ⟨T65, h65, X65, e65, W65, st65⟩ := stB X64 hx hZ eq64 Ar65 (j := (2 : Int32)) (inb_of S65 ⟨by decide, by decide⟩) (g := (mkF m 168 #[rv a1, rv sb1, rv al, iv 0, iv 3, rv ag, rv b49, iv 2, iv (own_low (x2 &&& (255 : Int32)))] [(.int ((own_low (x2 &&& (255 : Int32))).toInt8.toInt32)), (.int 2), (.ref b49)])) rfl rfl (hb hby d21_168)
    have V65 : Arv Z h65 b49 k49 .byte (3 : Int32) [(.int (nar .byte ((own_low (x0 &&& (255 : Int32))).toInt8.toInt32))), (.int (nar .byte ((own_low (x1 &&& (255 : Int32))).toInt8.toInt32))), (.int (nar .byte ((own_low (x2 &&& (255 : Int32))).toInt8.toInt32)))] (.int 0) := Arv.set Ar65 qk65 S65 M65 H65 G65 (fits_nar_byte _) W65 2 rfl (Nat.le_of_ble_eq_true rfl)
    have c65_V_sb1 := c60_V_sb1.other W65 ne_sb1_b49
    have K65 := K60.wr W65 (Or.inr sz_b49)
    have J65 := J60.wr W65 (Or.inr sy_b49)
    have O65 := O60.wr W65 g_b49
    have N65 := Fr.snoc X65 N64 g_b49
    have zs65 := (Nat.le_trans zs60 (Keep.of_wr W65).1)
    have zk65 := (Nat.le_trans zk60 (Keep.of_wr W65).1)
    refine og (B := T65.setTop (mkF m 169 #[rv a1, rv sb1, rv al, iv 0, iv 3, rv ag, rv b49, iv 2, iv (own_low (x2 &&& (255 : Int32)))] [])) st65 ?_
    refine og (B := T65.setTop (mkF m 175 #[rv a1, rv sb1, rv al, iv 0, iv 3, rv ag, rv b49, iv 3, iv (own_low (x2 &&& (255 : Int32)))] [])) (fun t k => ?_) ?_
    · refine XS.iinc X65.here hx rfl (hb hby d21_169) rfl (l' := #[rv a1, rv sb1, rv al, iv 0, iv 3, rv ag, rv b49, iv 3, iv (own_low (x2 &&& (255 : Int32)))]) rfl ?_
      refine XS.goto X65.here hx rfl (pc0 := 172) (pc' := 117) rfl (hb hby d21_172) (by decide) (by decide) ?_
      refine XS.iload X65.here hx rfl (hb hby d21_117) rfl ?_
      refine XS.iload X65.here hx rfl (hb hby d21_119) rfl ?_
      refine XS.icmpYes X65.here hx rfl (pc0 := 121) (pc' := 175) rfl (hb hby d21_121) rfl (flt (by decide)).2.1 (by decide) (by decide) ?_
      exact k
    obtain ⟨T66, h66, X66, e66, E66, A66, D66, -, st66⟩ := newO X65 hx hZ hown (ow hw 216 rfl) (ow hw 1 rfl) (ow hw 2 rfl) e65 (g := (mkF m 175 #[rv a1, rv sb1, rv al, iv 0, iv 3, rv ag, rv b49, iv 3, iv (own_low (x2 &&& (255 : Int32)))] [])) rfl (hb hby d21_175) (by decide) (by decide)
    obtain ⟨b66, g66⟩ : ∃ z, z = h65.size := ⟨_, rfl⟩
    rw [← g66] at A66 D66 st66
    have g_b66 : n0 ≤ b66 := Nat.le_trans zs65 (Nat.le_of_eq g66.symm)
    have sz_b66 : h0.size ≤ b66 := Nat.le_trans K65.1 (Nat.le_of_eq g66.symm)
    have sy_b66 : h48.size ≤ b66 := Nat.le_trans J65.1 (Nat.le_of_eq g66.symm)
    have ne_sb1_b66 : sb1 ≠ b66 := Nat.ne_of_lt (Nat.lt_of_lt_of_le c65_V_sb1.lt (Nat.le_of_eq g66.symm))
    have ne_b49_b66 : b49 ≠ b66 := Nat.ne_of_lt (Nat.lt_of_lt_of_le V65.lt (Nat.le_of_eq g66.symm))
    have c66_V_sb1 := c65_V_sb1.ext E66
    have c66_V_b49 := V65.ext E66
    have K66 := K65.ext E66
    have J66 := J65.ext E66
    have O66 := O65.ext E66
    have F66_coder : Fld Z h66 b66 "java/lang/String" "coder" "B" (.int 0) := D66 (Or.inr (ow hw 27 rfl)) (ty := .byte) (by decide)
    have F66_value : Fld Z h66 b66 "java/lang/String" "value" "[B" .null := D66 (Or.inr (ow hw 29 rfl)) (ty := (.array .byte)) (by decide)
    refine og (B := T66.setTop (mkF m 178 #[rv a1, rv sb1, rv al, iv 0, iv 3, rv ag, rv b49, iv 3, iv (own_low (x2 &&& (255 : Int32)))] [(.ref b66)])) st66 ?_
    refine og (B := T66.setTop (mkF m 182 #[rv a1, rv sb1, rv al, iv 0, iv 3, rv ag, rv b49, iv 3, iv (own_low (x2 &&& (255 : Int32)))] [(.int 0), (.ref b49), (.ref b66), (.ref b66)])) (fun t k => ?_) ?_
    · refine XS.dup X66.here hx rfl (hb hby d21_178) rfl rfl ?_
      refine XS.aload X66.here hx rfl (hb hby d21_179) rfl rfl ?_
      refine XS.iconst X66.here hx rfl (hb hby d21_181) ?_
      exact k
    obtain ⟨_, _, ⟨T67, L67, k67, n67⟩, -, X67, ⟨Lc67, hQ67, l67, y67, z67⟩, st67⟩ := X66.specialBack hx (y := own_y35) rfl hown (mvT hZ (ow hw 217 rfl)) (mvT hZ (ow hw 218 rfl)) (mvT hZ (ow hw 219 rfl)) (by decide) (backOf (W := 1) (rm42 l Z a0 hw [] b66 b49 h66 n0 (Nat.le_trans zs65 E66.1) A66 g_b66 F66_value F66_coder) hZ (ow hw 219 rfl) (ow hw 2 rfl) (by decide) (by decide)) (g := (mkF m 182 #[rv a1, rv sb1, rv al, iv 0, iv 3, rv ag, rv b49, iv 3, iv (own_low (x2 &&& (255 : Int32)))] [(.int 0), (.ref b49), (.ref b66), (.ref b66)])) rfl (by rw [hml]; rfl) (Steps.refl _) (a := b66) (argsL := [(.ref b49), (.int 0)]) (rest := [(.ref b66)]) (lenOf own_pd23 rfl) rfl (Nat.le_refl _) (hb hby d21_182) (fun _ _ => ⟨rfl, e66, (by decide : 8 + 0 ≤ _), (by decide : 43 + 0 ≤ _)⟩)
    dsimp only [Pt.U, Pt.locs, Pt.cells, Pt.slots] at X67 l67 y67 z67 st67 hQ67
    subst l67 y67 z67
    obtain ⟨rfl, N67q, K67q, E67q, F67c, F67v⟩ := hQ67
    have N67 := Fr.app N65 N67q
    have c67_V_sb1 := c66_V_sb1.keep K67q (fun q => ne_sb1_b66 (List.mem_singleton.mp q))
    have c67_V_b49 := c66_V_b49.keep K67q (fun q => ne_b49_b66 (List.mem_singleton.mp q))
    have O67 := O66.keep K67q (allS g_b66 all0)
    have K67 := K66.trans K67q (allS (Or.inr sz_b66) all0)
    have J67 := J66.trans K67q (allS (Or.inr sy_b66) all0)
    have zs67 := (Nat.le_trans (Nat.le_trans zs65 E66.1) K67q.1)
    have zk67 := (Nat.le_trans (Nat.le_trans zk65 E66.1) K67q.1)
    refine og (B := T67.setTop (mkF m 185 #[rv a1, rv sb1, rv al, iv 0, iv 3, rv ag, rv b49, iv 3, iv (own_low (x2 &&& (255 : Int32)))] [(.ref b66)])) (fun _ => st67.trans) ?_
    obtain ⟨fs, hr, hrun, hended, hRW⟩ := X67.leaveW hS (zk67) (v := some (.ref b66)) (fun h => by rw [Bd.returns] at h; cases h)
    refine ⟨_, _, ?_, hrun, hended, _, _, rfl, ?_, (by have q := ((Ch48).trans (CHr.ext (own_ext J67) (Ch48).1)).trans (CHv.at X67 hZ (own_hEL hw) ((Ch48).trans (CHr.ext (own_ext J67) (Ch48).1)).1); rw [← hh] at q; exact q), hRW.1, hRW.2.1, hRW.2.2.1, hRW.2.2.2.mono (by decide) (by decide)⟩
    · show own_S p e below T67 (mkF m 185 #[rv a1, rv sb1, rv al, iv 0, iv 3, rv ag, rv b49, iv 3, iv (own_low (x2 &&& (255 : Int32)))] [(.ref b66)]) _
      jvm_step X67.here [X67.here.top, hx, (hb hby d21_185), X67.method', Bd.returns, Value.isRef, FieldType.isReference]
      first | (intro acts; rw [hr _ acts rfl rfl rfl]) | rw [hr _ _ rfl rfl rfl]
      exact Steps.refl _
    · show Q21_3 Z a1 sb1 kb x0 x1 x2 GC ci al ab ag agv h0 n0 _ T67.heap _
      exact ⟨b66, b49, k49, (nar .byte ((own_low (x0 &&& (255 : Int32))).toInt8.toInt32)), (nar .byte ((own_low (x1 &&& (255 : Int32))).toInt8.toInt32)), (nar .byte ((own_low (x2 &&& (255 : Int32))).toInt8.toInt32)), rfl, N67, K67, E67q, F67c, F67v, c67_V_b49, Or.inr sz_b66, Or.inr sz_b49, (own_lE x0), (own_lE x1), (own_lE x2), trivial⟩
theorem pn_19 : plainName "java/lang/String" = true := by first | (simp [plainName, overriddenIn]; done) | decide +kernel
theorem d19_0 : decode jdk_42_method_109_code 0 = .ok (.aload_n 0, 1) := by decide +kernel
theorem d19_1 : decode jdk_42_method_109_code 1 = .ok (.invokevirtual 492, 3) := by decide +kernel
theorem d19_4 : decode jdk_42_method_109_code 4 = .ok (.ifCond .eq 15, 3) := by decide +kernel
theorem d19_7 : decode jdk_42_method_109_code 7 = .ok (.aload_n 0, 1) := by decide +kernel
theorem d19_8 : decode jdk_42_method_109_code 8 = .ok (.aload_n 0, 1) := by decide +kernel
theorem d19_9 : decode jdk_42_method_109_code 9 = .ok (.getfield 9, 3) := by decide +kernel
theorem d19_12 : decode jdk_42_method_109_code 12 = .ok (.aload_n 1, 1) := by decide +kernel
theorem d19_13 : decode jdk_42_method_109_code 13 = .ok (.invokestatic 839, 3) := by decide +kernel
theorem d19_16 : decode jdk_42_method_109_code 16 = .ok (.goto 12, 3) := by decide +kernel
theorem d19_28 : decode jdk_42_method_109_code 28 = .ok (.areturn, 1) := by decide +kernel
theorem ef_19 (m : MethodId) (x0 : Addr) (x1 : Addr) : entryFrame m #[(.ref x0), (.ref x1)] 2 = mkF m 0 #[.val (.ref x0), .val (.ref x1)] [] := by first | (simp [entryFrame, mkF, argsToLocals, Value.category]; done) | rfl
def Q19_0 (Z : State) (a1 : Addr) (sb1 : Addr) (kb : ClassId) (GC : Int32) (ci : Addr) (al : Addr) (ab : Addr) (ag : Addr) (agv : Addr) (h0 : Heap) (n0 : Nat) (v : Option Value) (h : Heap) (L : List Loc) : Prop := own_QL0 Z a1 sb1 h0 n0 v h L
set_option maxRecDepth 65536 in
set_option maxHeartbeats 40000000 in
theorem rm19_0 (l : Launch) (Z : State) (a0 : Array Value) (hw : ∀ d ∈ tables_1, d.before a0 Z = true) (ws : List Jvm.Cond) (a1 : Addr) (sb1 : Addr) (kb : ClassId) (GC : Int32) (ci : Addr) (al : Addr) (ab : Addr) (ag : Addr) (agv : Addr) (h0 : Heap) (n0 : Nat) (Z0 : n0 ≤ h0.size) (S_C : Sta Z Z.heap "java/lang/String" "COMPACT_STRINGS" "Z" (.int GC)) (hGC : ¬ GC = (0 : Int32)) (O0 : Old Z n0 h0) (S_I : Sta Z Z.heap "java/lang/CharacterDataLatin1" "instance" "Ljava/lang/CharacterDataLatin1;" (.ref ci)) (E_ci : Exa Z Z.heap ci "java/lang/CharacterDataLatin1") (S_R : Sta Z Z.heap "java/util/Locale" "ROOT" "Ljava/util/Locale;" (.ref al)) (E_al : Exa Z Z.heap al "java/util/Locale") (F_ab : Fld Z Z.heap al "java/util/Locale" "baseLocale" "Lsun/util/locale/BaseLocale;" (.ref ab)) (E_ab : Exa Z Z.heap ab "sun/util/locale/BaseLocale") (F_ag : Fld Z Z.heap ab "sun/util/locale/BaseLocale" "language" "Ljava/lang/String;" (.ref ag)) (F_gv : Fld Z Z.heap ag "java/lang/String" "value" "[B" (.ref agv)) (V_gv : own_E0 Z Z.heap agv) (E_a1 : Exa Z h0 a1 "java/lang/String") (F_c : Fld Z h0 a1 "java/lang/String" "coder" "B" (.int 0)) (F_v : Fld Z h0 a1 "java/lang/String" "value" "[B" (.ref sb1)) (V_b : Arv Z h0 sb1 kb .byte (0 : Int32) [] (.int 0)) :
    MetFree l own_y37 (head1 (Jvm.Cond.code own_y37 jdk_42_method_109_code 2 (some (.object "java/lang/String")) :: ws) ({ frames := 3, cells := 8, slots := 48, locals := 47 } : Room)) (fun a U => a = #[(.ref a1), (.ref al)] ∧ Z.Warmed39 U.vm ∧ U.heap = h0 ∧ CHv Z consts_1 U.vm h0) (fun _ _ _ _ _ => True) (fun _ U o U' => ∃ v L, o = .returned v ∧ Q19_0 Z a1 sb1 kb GC ci al ab ag agv h0 n0 v U'.heap L ∧ CHr Z consts_1 U.vm U.heap U'.vm U'.heap ∧ ReturnedEndW U o U' L ({ frames := 3, cells := 8, slots := 48, locals := 47 } : Room).cells ({ frames := 3, cells := 8, slots := 48, locals := 47 } : Room).slots) := by
  refine MetFree.of_bodySF (plainFor_of_name pn_19) hisR ?_
  intro p e s m args below meth c s₁ Bd hml0 hP hK
  obtain ⟨rfl, hZ, hh, hCH⟩ := hP
  have hx := Bd.exec
  have hby := Bd.bytes
  have hml : c.maxLocals = 2 := hml0
  have hown : s.vm.findClass "java/lang/String" = some m.cls := findClass_of_methodNamed Bd.named
  have hnm := (name_of_methodNamed Bd.named Bd.method).1
  have X0 : Stand p l e ({ frames := 3, cells := 8, slots := 48, locals := 47 } : Room) s m #[(.ref a1), (.ref al)] below meth c s₁ [] 0 0 := Stand.of_body Bd
  have e0 : s₁.heap = h0 := by rw [← hh, Bd.state]; rfl
  have N0 := Fr.nil n0
  have X0 : Stand p l e ({ frames := 3, cells := 8, slots := 48, locals := 47 } : Room) (s.setVm s.vm) m #[(.ref a1), (.ref al)] below meth c s₁ [] 0 0 := X0
  have hZ : Z.Warmed39 (s.setVm s.vm).vm := hZ
  have hown : (s.setVm s.vm).vm.findClass "java/lang/String" = some m.cls := hown
  have hS : s.Since s.vm 0 := (State.WarmedH.refl s).since 0
  refine og (B := s₁.setTop (mkF m 0 #[rv a1, rv al] [])) (fun t k => castTop (ef_19 m a1 al) k) ?_
  refine og (B := s₁.setTop (mkF m 1 #[rv a1, rv al] [(.ref a1)])) (fun t k => ?_) ?_
  · refine XS.aloadN X0.here hx rfl (hb hby d19_0) rfl rfl ?_
    exact k
  obtain ⟨cq1, kq1, q1a, q1b, q1c⟩ := isOf hZ e0 E_a1
  obtain ⟨_, _, ⟨T1, L1, k1, n1⟩, -, X1, ⟨Lc1, hQ1, l1, y1, z1⟩, st1⟩ := X0.virtualBack hx (y := own_y0) (z := own_y0) hown (mvT hZ (ow hw 113 rfl)) (mvT hZ (ow hw 114 rfl)) (notFace_of_selects (args := #[]) (mvT hZ (ow hw 116 rfl))) (mvT hZ (ow hw 116 rfl)) (mvT hZ (ow hw 115 rfl)) (by decide) (backOf (W := 0) (rm20 l Z a0 hw [] a1 GC h0 n0 Z0 S_C hGC O0 F_c) hZ (ow hw 117 rfl) (ow hw 2 rfl) (by decide) (by decide)) q1a q1c (g := (mkF m 1 #[rv a1, rv al] [(.ref a1)])) rfl (by rw [hml]; rfl) (Steps.refl _) (argsL := []) (rest := []) (lenOf own_pd3 rfl) rfl (Nat.le_refl _) (hb hby d19_1) (fun _ _ => ⟨rfl, e0, (by decide : 0 + 0 ≤ _), (by decide : 0 + 0 ≤ _)⟩)
  dsimp only [Pt.U, Pt.locs, Pt.cells, Pt.slots] at X1 l1 y1 z1 st1 hQ1
  subst l1 y1 z1
  obtain ⟨rfl, N1q, eq1⟩ := hQ1
  have N1 := Fr.app N0 N1q
  refine og (B := T1.setTop (mkF m 4 #[rv a1, rv al] [(.int 1)])) (fun _ => st1.trans) ?_
  refine og (B := T1.setTop (mkF m 9 #[rv a1, rv al] [(.ref a1), (.ref a1)])) (fun t k => ?_) ?_
  · refine XS.ifNo X1.here hx rfl (hb hby d19_4) rfl ((if0 _ _).trans (feq (by decide)).1) ?_
    refine XS.aloadN X1.here hx rfl (hb hby d19_7) rfl rfl ?_
    refine XS.aloadN X1.here hx rfl (hb hby d19_8) rfl rfl ?_
    exact k
  obtain ⟨T2, X2, e2, st2⟩ := getF X1 hx hZ hown (host := "") (Or.inl (ow hw 28 rfl)) Via.refl eq1 F_v (g := (mkF m 9 #[rv a1, rv al] [(.ref a1), (.ref a1)])) rfl rfl (hb hby d19_9)
  refine og (B := T2.setTop (mkF m 12 #[rv a1, rv al] [(.ref sb1), (.ref a1)])) st2 ?_
  refine og (B := T2.setTop (mkF m 13 #[rv a1, rv al] [(.ref al), (.ref sb1), (.ref a1)])) (fun t k => ?_) ?_
  · refine XS.aloadN X2.here hx rfl (hb hby d19_12) rfl rfl ?_
    exact k
  have Ch3p := CHr.refl hCH
  obtain ⟨_, _, ⟨T3, L3, k3, n3⟩, -, X3, hS3, hg3, ⟨Lc3, hQ3, l3, y3, z3, hCr3⟩, st3⟩ := callSS X2 hx (y := own_y36) hown (mvT hZ (ow hw 118 rfl)) (mvT hZ (ow hw 119 rfl)) (mvT hZ (ow hw 120 rfl)) (mvT hZ (ow hw 121 rfl)) (by decide) (backOfSH (W := 0) (rm21_0 l Z a0 hw [] a1 sb1 kb  GC ci al ab ag agv h0 n0 Z0 S_C hGC O0 S_I E_ci S_R E_al F_ab E_ab F_ag F_gv V_gv E_a1 F_c F_v V_b) hZ (ow hw 121 rfl) (ow hw 120 rfl) (by decide) (by decide) (own_hEL hw) Ch3p.1) (g := (mkF m 13 #[rv a1, rv al] [(.ref al), (.ref sb1), (.ref a1)])) rfl (by rw [hml]; rfl) (argsL := [(.ref a1), (.ref sb1), (.ref al)]) (rest := []) (lenOf own_pd24 rfl) rfl (Nat.le_refl _) (hb hby d19_13) (fun _ _ => ⟨rfl, e2, (by decide : 0 + 8 ≤ _), (by decide : 0 + 48 ≤ _)⟩)
  dsimp only [Pt.U, Pt.locs, Pt.cells, Pt.slots] at X3 l3 y3 z3 st3 hQ3 hS3 hg3 hCr3
  subst l3 y3 z3
  have hS := hS.trans hS3 (Nat.le_trans (Nat.zero_le _) (Nat.le_trans (Nat.le_of_eq (congrArg Array.size e2.symm)) hg3))
  have hZ : Z.Warmed39 (s.setVm T3.vm).vm := State.Warmed39.trans hZ hS3.1
  have hown : (s.setVm T3.vm).vm.findClass "java/lang/String" = some m.cls := (hS3.1.alike.findClass _ _).trans hown
  obtain ⟨aq3, bq3, kq3, rfl, N3q, K3q, E3q, F3c, F3v, V3q, oa3, ob3, -⟩ := hQ3
  have N3 := Fr.app N1 N3q
  have c3_E_a1 := E_a1.keep K3q
  have c3_F_a1_value := F_v.keep K3q (List.not_mem_nil)
  have c3_F_a1_coder := F_c.keep K3q (List.not_mem_nil)
  have c3_V_sb1 := V_b.keep K3q (List.not_mem_nil)
  have O3 := O0.keep K3q all0
  have K3 := (Keep.refl h0 []).trans K3q all0
  have Ch3 := Ch3p.trans hCr3
  refine og (B := T3.setTop (mkF m 16 #[rv a1, rv al] [(.ref aq3)])) (fun _ => st3.trans) ?_
  obtain ⟨fs, hr, hrun, hended, hRW⟩ := X3.leaveW hS ((Nat.le_refl _)) (v := some (.ref aq3)) (fun h => by rw [Bd.returns] at h; cases h)
  refine ⟨_, _, ?_, hrun, hended, _, _, rfl, ?_, (by have q := (Ch3).trans (CHv.at X3 hZ (own_hEL hw) (Ch3).1); rw [← hh] at q; exact q), hRW.1, hRW.2.1, hRW.2.2.1, hRW.2.2.2.mono (by decide) (by decide)⟩
  · refine XS.goto X3.here hx rfl (pc0 := 16) (pc' := 28) rfl (hb hby d19_16) (by decide) (by decide) ?_
    show own_S p e below T3 (mkF m 28 #[rv a1, rv al] [(.ref aq3)]) _
    jvm_step X3.here [X3.here.top, hx, (hb hby d19_28), X3.method', Bd.returns, Value.isRef, FieldType.isReference]
    first | (intro acts; rw [hr _ acts rfl rfl rfl]) | rw [hr _ _ rfl rfl rfl]
    exact Steps.refl _
  · show Q19_0 Z a1 sb1 kb GC ci al ab ag agv h0 n0 _ T3.heap _
    exact ⟨aq3, bq3, kq3, rfl, N3, K3, E3q, F3c, F3v, V3q, oa3, ob3, trivial⟩
def own_QK0 (Z : State) (s0 s1 : Int32) (h0 : Heap) (n0 : Nat) (v : Option Value) (h : Heap) (L : List Loc) : Prop := ∃ (a b : Addr) (kq : ClassId), v = some (.ref a) ∧ Fr n0 L ∧ Keep h0 h [] ∧ Exa Z h a "java/lang/String" ∧ Fld Z h a "java/lang/String" "coder" "B" (.int 0) ∧ Fld Z h a "java/lang/String" "value" "[B" (.ref b) ∧ Arv Z h b kq .byte (2 : Int32) [(.int s0), (.int s1)] (.int 0)  ∧ (True)
theorem pn_8 : plainName "com/example/sira/sira/engine/StreamState" = true := by first | (simp [plainName, overriddenIn]; done) | decide +kernel
theorem d8_0 : decode prog_31_method_2_code 0 = .ok (.new 33, 3) := by decide +kernel
theorem d8_3 : decode prog_31_method_2_code 3 = .ok (.dup, 1) := by decide +kernel
theorem d8_4 : decode prog_31_method_2_code 4 = .ok (.invokespecial 35, 3) := by decide +kernel
theorem d8_7 : decode prog_31_method_2_code 7 = .ok (.aload_n 1, 1) := by decide +kernel
theorem d8_8 : decode prog_31_method_2_code 8 = .ok (.invokevirtual 36, 3) := by decide +kernel
theorem d8_11 : decode prog_31_method_2_code 11 = .ok (.aload_n 0, 1) := by decide +kernel
theorem d8_12 : decode prog_31_method_2_code 12 = .ok (.getstatic 40, 3) := by decide +kernel
theorem d8_15 : decode prog_31_method_2_code 15 = .ok (.invokevirtual 46, 3) := by decide +kernel
theorem d8_18 : decode prog_31_method_2_code 18 = .ok (.invokevirtual 36, 3) := by decide +kernel
theorem d8_21 : decode prog_31_method_2_code 21 = .ok (.invokevirtual 52, 3) := by decide +kernel
theorem d8_24 : decode prog_31_method_2_code 24 = .ok (.areturn, 1) := by decide +kernel
theorem ef_8 (m : MethodId) (x0 : Addr) (x1 : Addr) : entryFrame m #[(.ref x0), (.ref x1)] 2 = mkF m 0 #[.val (.ref x0), .val (.ref x1)] [] := by first | (simp [entryFrame, mkF, argsToLocals, Value.category]; done) | rfl
def Q8_0 (Z : State) (a1 : Addr) (a2 : Addr) (sb1 : Addr) (sb2 : Addr) (kb : ClassId) (kb2 : ClassId) (s0 : Int32) (s1 : Int32) (GC : Int32) (ci : Addr) (al : Addr) (ab : Addr) (ag : Addr) (agv : Addr) (h0 : Heap) (n0 : Nat) (v : Option Value) (h : Heap) (L : List Loc) : Prop := own_QK0 Z s0 s1 h0 n0 v h L
set_option maxRecDepth 65536 in
set_option maxHeartbeats 40000000 in
theorem rm8_0 (l : Launch) (Z : State) (a0 : Array Value) (hw : ∀ d ∈ tables_1, d.before a0 Z = true) (ws : List Jvm.Cond) (a1 : Addr) (a2 : Addr) (sb1 : Addr) (sb2 : Addr) (kb : ClassId) (kb2 : ClassId) (s0 : Int32) (s1 : Int32) (GC : Int32) (ci : Addr) (al : Addr) (ab : Addr) (ag : Addr) (agv : Addr) (h0 : Heap) (n0 : Nat) (Z0 : n0 ≤ h0.size) (S_C : Sta Z Z.heap "java/lang/String" "COMPACT_STRINGS" "Z" (.int GC)) (hGC : ¬ GC = (0 : Int32)) (O0 : Old Z n0 h0) (S_I : Sta Z Z.heap "java/lang/CharacterDataLatin1" "instance" "Ljava/lang/CharacterDataLatin1;" (.ref ci)) (E_ci : Exa Z Z.heap ci "java/lang/CharacterDataLatin1") (S_R : Sta Z Z.heap "java/util/Locale" "ROOT" "Ljava/util/Locale;" (.ref al)) (E_al : Exa Z Z.heap al "java/util/Locale") (F_ab : Fld Z Z.heap al "java/util/Locale" "baseLocale" "Lsun/util/locale/BaseLocale;" (.ref ab)) (E_ab : Exa Z Z.heap ab "sun/util/locale/BaseLocale") (F_ag : Fld Z Z.heap ab "sun/util/locale/BaseLocale" "language" "Ljava/lang/String;" (.ref ag)) (F_gv : Fld Z Z.heap ag "java/lang/String" "value" "[B" (.ref agv)) (V_gv : own_E0 Z Z.heap agv) (E_a1 : Exa Z h0 a1 "java/lang/String") (F_c : Fld Z h0 a1 "java/lang/String" "coder" "B" (.int 0)) (F_v : Fld Z h0 a1 "java/lang/String" "value" "[B" (.ref sb1)) (V_b : Arv Z h0 sb1 kb .byte (0 : Int32) [] (.int 0)) (E_a2 : Exa Z h0 a2 "java/lang/String") (F_c2 : Fld Z h0 a2 "java/lang/String" "coder" "B" (.int 0)) (F_v2 : Fld Z h0 a2 "java/lang/String" "value" "[B" (.ref sb2)) (V_2 : Arv Z h0 sb2 kb2 .byte (2 : Int32) [(.int s0), (.int s1)] (.int 0)) :
    MetFree l own_y38 (head1 (Jvm.Cond.code own_y38 prog_31_method_2_code 2 (some (.object "java/lang/String")) :: ws) ({ frames := 6, cells := 12, slots := 80, locals := 91 } : Room)) (fun a U => a = #[(.ref a1), (.ref a2)] ∧ Z.Warmed39 U.vm ∧ U.heap = h0 ∧ CHv Z consts_1 U.vm h0) (fun _ _ _ _ _ => True) (fun _ U o U' => ∃ v L, o = .returned v ∧ Q8_0 Z a1 a2 sb1 sb2 kb kb2 s0 s1 GC ci al ab ag agv h0 n0 v U'.heap L ∧ CHr Z consts_1 U.vm U.heap U'.vm U'.heap ∧ ReturnedEndW U o U' L ({ frames := 6, cells := 12, slots := 80, locals := 91 } : Room).cells ({ frames := 6, cells := 12, slots := 80, locals := 91 } : Room).slots) := by
  refine MetFree.of_bodySF (plainFor_of_name pn_8) hisR ?_
  intro p e s m args below meth c s₁ Bd hml0 hP hK
  obtain ⟨rfl, hZ, hh, hCH⟩ := hP
  have hx := Bd.exec
  have hby := Bd.bytes
  have hml : c.maxLocals = 2 := hml0
  have hown : s.vm.findClass "com/example/sira/sira/engine/StreamState" = some m.cls := findClass_of_methodNamed Bd.named
  have hnm := (name_of_methodNamed Bd.named Bd.method).1
  have X0 : Stand p l e ({ frames := 6, cells := 12, slots := 80, locals := 91 } : Room) s m #[(.ref a1), (.ref a2)] below meth c s₁ [] 0 0 := Stand.of_body Bd
  have e0 : s₁.heap = h0 := by rw [← hh, Bd.state]; rfl
  have N0 := Fr.nil n0
  have X0 : Stand p l e ({ frames := 6, cells := 12, slots := 80, locals := 91 } : Room) (s.setVm s.vm) m #[(.ref a1), (.ref a2)] below meth c s₁ [] 0 0 := X0
  have hZ : Z.Warmed39 (s.setVm s.vm).vm := hZ
  have hown : (s.setVm s.vm).vm.findClass "com/example/sira/sira/engine/StreamState" = some m.cls := hown
  have hS : s.Since s.vm 0 := (State.WarmedH.refl s).since 0
  refine og (B := s₁.setTop (mkF m 0 #[rv a1, rv a2] [])) (fun t k => castTop (ef_8 m a1 a2) k) ?_
  obtain ⟨T1, h1, X1, e1, E1, A1, D1, -, st1⟩ := newO X0 hx hZ hown (ow hw 41 rfl) (ow hw 42 rfl) (ow hw 43 rfl) e0 (g := (mkF m 0 #[rv a1, rv a2] [])) rfl (hb hby d8_0) (by decide) (by decide)
  obtain ⟨b1, g1⟩ : ∃ z, z = h0.size := ⟨_, rfl⟩
  rw [← g1] at A1 D1 st1
  have g_b1 : n0 ≤ b1 := Nat.le_trans Z0 (Nat.le_of_eq g1.symm)
  have sz_b1 : h0.size ≤ b1 := Nat.le_trans (Keep.refl h0 []).1 (Nat.le_of_eq g1.symm)
  have ne_a1_b1 : a1 ≠ b1 := Nat.ne_of_lt (Nat.lt_of_lt_of_le E_a1.lt (Nat.le_of_eq g1.symm))
  have ne_sb1_b1 : sb1 ≠ b1 := Nat.ne_of_lt (Nat.lt_of_lt_of_le V_b.lt (Nat.le_of_eq g1.symm))
  have ne_a2_b1 : a2 ≠ b1 := Nat.ne_of_lt (Nat.lt_of_lt_of_le E_a2.lt (Nat.le_of_eq g1.symm))
  have ne_sb2_b1 : sb2 ≠ b1 := Nat.ne_of_lt (Nat.lt_of_lt_of_le V_2.lt (Nat.le_of_eq g1.symm))
  have c1_E_a1 := E_a1.ext E1
  have c1_F_a1_value := F_v.ext E1
  have c1_F_a1_coder := F_c.ext E1
  have c1_V_sb1 := V_b.ext E1
  have c1_E_a2 := E_a2.ext E1
  have c1_F_a2_value := F_v2.ext E1
  have c1_F_a2_coder := F_c2.ext E1
  have c1_V_sb2 := V_2.ext E1
  have K1 := (Keep.refl h0 []).ext E1
  have O1 := O0.ext E1
  have F1_value : Fld Z h1 b1 "java/lang/AbstractStringBuilder" "value" "[B" .null := D1 (Or.inl (ow hw 56 rfl)) (ty := (.array .byte)) (by decide)
  have F1_coder : Fld Z h1 b1 "java/lang/AbstractStringBuilder" "coder" "B" (.int 0) := D1 (Or.inl (ow hw 58 rfl)) (ty := .byte) (by decide)
  have F1_count : Fld Z h1 b1 "java/lang/AbstractStringBuilder" "count" "I" (.int 0) := D1 (Or.inl (ow hw 80 rfl)) (ty := .int) (by decide)
  have zk1 := (Nat.le_trans (Nat.zero_le _) E1.1)
  refine og (B := T1.setTop (mkF m 3 #[rv a1, rv a2] [(.ref b1)])) st1 ?_
  refine og (B := T1.setTop (mkF m 4 #[rv a1, rv a2] [(.ref b1), (.ref b1)])) (fun t k => ?_) ?_
  · refine XS.dup X1.here hx rfl (hb hby d8_3) rfl rfl ?_
    exact k
  obtain ⟨_, _, ⟨T2, L2, k2, n2⟩, -, X2, ⟨Lc2, hQ2, l2, y2, z2⟩, st2⟩ := X1.specialBack hx (y := own_y14) rfl hown (mvT hZ (ow hw 44 rfl)) (mvT hZ (ow hw 45 rfl)) (mvT hZ (ow hw 46 rfl)) (by decide) (backOf (W := 1) (rm9 l Z a0 hw [] b1 GC h1 n0 (Nat.le_trans Z0 E1.1) S_C hGC O1 A1 g_b1 F1_value F1_coder F1_count) hZ (ow hw 46 rfl) (ow hw 43 rfl) (by decide) (by decide)) (g := (mkF m 4 #[rv a1, rv a2] [(.ref b1), (.ref b1)])) rfl (by rw [hml]; rfl) (Steps.refl _) (a := b1) (argsL := []) (rest := [(.ref b1)]) (lenOf own_pd25 rfl) rfl (Nat.le_refl _) (hb hby d8_4) (fun _ _ => ⟨rfl, e1, (by decide : 1 + 1 ≤ _), (by decide : 4 + 16 ≤ _)⟩)
  dsimp only [Pt.U, Pt.locs, Pt.cells, Pt.slots] at X2 l2 y2 z2 st2 hQ2
  subst l2 y2 z2
  obtain ⟨rfl, N2q, bq2, kq2, K2q, q2z, q2g, E2q, F2v, F2c, F2n, V2q⟩ := hQ2
  have N2 := Fr.app N0 N2q
  have sz_bq2 : h0.size ≤ bq2 := Nat.le_trans (K1).1 q2z
  have g_bq2 : n0 ≤ bq2 := q2g
  have ne_a1_bq2 : a1 ≠ bq2 := Nat.ne_of_lt (Nat.lt_of_lt_of_le c1_E_a1.lt q2z)
  have ne_sb1_bq2 : sb1 ≠ bq2 := Nat.ne_of_lt (Nat.lt_of_lt_of_le c1_V_sb1.lt q2z)
  have ne_a2_bq2 : a2 ≠ bq2 := Nat.ne_of_lt (Nat.lt_of_lt_of_le c1_E_a2.lt q2z)
  have ne_sb2_bq2 : sb2 ≠ bq2 := Nat.ne_of_lt (Nat.lt_of_lt_of_le c1_V_sb2.lt q2z)
  have ne_b1_bq2 : b1 ≠ bq2 := Nat.ne_of_lt (Nat.lt_of_lt_of_le A1.lt q2z)
  have c2_E_a1 := c1_E_a1.keep K2q
  have c2_F_a1_value := c1_F_a1_value.keep K2q (fun q => ne_a1_b1 (List.mem_singleton.mp q))
  have c2_F_a1_coder := c1_F_a1_coder.keep K2q (fun q => ne_a1_b1 (List.mem_singleton.mp q))
  have c2_V_sb1 := c1_V_sb1.keep K2q (fun q => ne_sb1_b1 (List.mem_singleton.mp q))
  have c2_E_a2 := c1_E_a2.keep K2q
  have c2_F_a2_value := c1_F_a2_value.keep K2q (fun q => ne_a2_b1 (List.mem_singleton.mp q))
  have c2_F_a2_coder := c1_F_a2_coder.keep K2q (fun q => ne_a2_b1 (List.mem_singleton.mp q))
  have c2_V_sb2 := c1_V_sb2.keep K2q (fun q => ne_sb2_b1 (List.mem_singleton.mp q))
  have O2 := O1.keep K2q (allS g_b1 all0)
  have K2 := K1.trans K2q (allS (Or.inr sz_b1) all0)
  have zs2 := (Nat.le_trans (Nat.le_trans Z0 E1.1) K2q.1)
  refine og (B := T2.setTop (mkF m 7 #[rv a1, rv a2] [(.ref b1)])) (fun _ => st2.trans) ?_
  refine og (B := T2.setTop (mkF m 8 #[rv a1, rv a2] [(.ref a2), (.ref b1)])) (fun t k => ?_) ?_
  · refine XS.aloadN X2.here hx rfl (hb hby d8_7) rfl rfl ?_
    exact k
  obtain ⟨cq3, kq3, q3a, q3b, q3c⟩ := isOf hZ rfl E2q
  obtain ⟨_, _, ⟨T3, L3, k3, n3⟩, -, X3, ⟨Lc3, hQ3, l3, y3, z3⟩, st3⟩ := X2.virtualBack hx (y := own_y20) (z := own_y20) hown (mvT hZ (ow hw 59 rfl)) (mvT hZ (ow hw 60 rfl)) (notFace_of_selects (args := #[]) (mvT hZ (ow hw 62 rfl))) (mvT hZ (ow hw 62 rfl)) (mvT hZ (ow hw 61 rfl)) (by decide) (backOf (W := 0) (own_app l Z a0 hw b1 a2 bq2 sb2 kq2 kb2 (0 : Int32) (2 : Int32) [(.int 0), (.int 0), (.int 0), (.int 0), (.int 0), (.int 0), (.int 0), (.int 0), (.int 0), (.int 0), (.int 0), (.int 0), (.int 0), (.int 0), (.int 0), (.int 0)] [(.int s0), (.int s1)] [(.int s0), (.int s1), (.int 0), (.int 0), (.int 0), (.int 0), (.int 0), (.int 0), (.int 0), (.int 0), (.int 0), (.int 0), (.int 0), (.int 0), (.int 0), (.int 0)] GC T2.heap n0 zs2 S_C hGC O2 E2q g_b1 F2v F2c F2n V2q g_bq2 c2_E_a2 c2_F_a2_coder c2_F_a2_value c2_V_sb2 ne_a2_bq2 ne_sb2_bq2 ne_b1_bq2 (Ne.symm ne_a2_b1) (Ne.symm ne_sb2_b1) (by decide) (rm18_0_2 l Z a0 hw [] a2 bq2 sb2 kq2 kb2 s0 s1 GC T2.heap n0 zs2 S_C hGC O2 V2q g_bq2 c2_E_a2 c2_F_a2_coder c2_F_a2_value c2_V_sb2 ne_a2_bq2 ne_sb2_bq2)) hZ (ow hw 63 rfl) (ow hw 43 rfl) (by decide) (by decide)) q3a q3c (g := (mkF m 8 #[rv a1, rv a2] [(.ref a2), (.ref b1)])) rfl (by rw [hml]; rfl) (Steps.refl _) (argsL := [(.ref a2)]) (rest := []) (lenOf own_pd26 rfl) rfl (Nat.le_refl _) (hb hby d8_8) (fun _ _ => ⟨rfl, rfl, (by decide : 2 + 0 ≤ _), (by decide : 20 + 0 ≤ _)⟩)
  dsimp only [Pt.U, Pt.locs, Pt.cells, Pt.slots] at X3 l3 y3 z3 st3 hQ3
  subst l3 y3 z3
  obtain ⟨rfl, N3q, K3q, E3q, F3v, F3c, F3n, V3q⟩ := hQ3
  have N3 := Fr.app N2 N3q
  have c3_E_a1 := c2_E_a1.keep K3q
  have c3_F_a1_value := c2_F_a1_value.keep K3q (by simp only [List.mem_cons, List.not_mem_nil, or_false, not_or]; exact ⟨ne_a1_b1, ne_a1_bq2⟩)
  have c3_F_a1_coder := c2_F_a1_coder.keep K3q (by simp only [List.mem_cons, List.not_mem_nil, or_false, not_or]; exact ⟨ne_a1_b1, ne_a1_bq2⟩)
  have c3_V_sb1 := c2_V_sb1.keep K3q (by simp only [List.mem_cons, List.not_mem_nil, or_false, not_or]; exact ⟨ne_sb1_b1, ne_sb1_bq2⟩)
  have c3_E_a2 := c2_E_a2.keep K3q
  have c3_F_a2_value := c2_F_a2_value.keep K3q (by simp only [List.mem_cons, List.not_mem_nil, or_false, not_or]; exact ⟨ne_a2_b1, ne_a2_bq2⟩)
  have c3_F_a2_coder := c2_F_a2_coder.keep K3q (by simp only [List.mem_cons, List.not_mem_nil, or_false, not_or]; exact ⟨ne_a2_b1, ne_a2_bq2⟩)
  have c3_V_sb2 := c2_V_sb2.keep K3q (by simp only [List.mem_cons, List.not_mem_nil, or_false, not_or]; exact ⟨ne_sb2_b1, ne_sb2_bq2⟩)
  have O3 := O2.keep K3q (allS g_b1 (allS g_bq2 all0))
  have K3 := K2.trans K3q (allS (Or.inr sz_b1) (allS (Or.inr sz_bq2) all0))
  have zk3 := (Nat.le_trans (Nat.le_trans zk1 K2q.1) K3q.1)
  refine og (B := T3.setTop (mkF m 11 #[rv a1, rv a2] [(.ref b1)])) (fun _ => st3.trans) ?_
  refine og (B := T3.setTop (mkF m 12 #[rv a1, rv a2] [(.ref a1), (.ref b1)])) (fun t k => ?_) ?_
  · refine XS.aloadN X3.here hx rfl (hb hby d8_11) rfl rfl ?_
    exact k
  obtain ⟨T4, X4, e4, st4⟩ := getS2 X3 hx hZ hown (host := "") (Or.inl (ow hw 106 rfl)) Via.refl rfl (S_R.ext O3.2) (g := (mkF m 12 #[rv a1, rv a2] [(.ref a1), (.ref b1)])) rfl (hb hby d8_12)
  refine og (B := T4.setTop (mkF m 15 #[rv a1, rv a2] [(.ref al), (.ref a1), (.ref b1)])) st4 ?_
  have Sf1 := Safe.ext (own_ext K3) hCH (Safe.new (EL := consts_1) (Z := Z) sz_bq2)
  have lt1 := V3q.lt
  have lt2 := E3q.lt
  have Ch5p := CHr.ext (own_ext K3) hCH
  obtain ⟨cq5, kq5, q5a, q5b, q5c⟩ := isOf hZ e4 c3_E_a1
  obtain ⟨_, _, ⟨T5, L5, k5, n5⟩, -, X5, hS5, hg5, ⟨Lc5, hQ5, l5, y5, z5, hCr5⟩, st5⟩ := X4.virtualBackS hx (y := own_y37) (z := own_y37) hown (mvT hZ (ow hw 108 rfl)) (mvT hZ (ow hw 109 rfl)) (notFace_of_selects (args := #[]) (mvT hZ (ow hw 111 rfl))) (mvT hZ (ow hw 111 rfl)) (mvT hZ (ow hw 110 rfl)) (by decide) (backOfSH (W := 1) (rm19_0 l Z a0 hw [] a1 sb1 kb  GC ci al ab ag agv T3.heap n0 (Nat.le_trans zs2 K3q.1) S_C hGC O3 S_I E_ci S_R E_al F_ab E_ab F_ag F_gv V_gv c3_E_a1 c3_F_a1_coder c3_F_a1_value c3_V_sb1) hZ (ow hw 112 rfl) (ow hw 2 rfl) (by decide) (by decide) (own_hEL hw) Ch5p.1) q5a q5c (g := (mkF m 15 #[rv a1, rv a2] [(.ref al), (.ref a1), (.ref b1)])) rfl (by rw [hml]; rfl) (Steps.refl _) (argsL := [(.ref al)]) (rest := [(.ref b1)]) (lenOf own_pd27 rfl) rfl (Nat.le_refl _) (hb hby d8_15) (fun _ _ => ⟨rfl, e4, (by decide : 2 + 8 ≤ _), (by decide : 20 + 48 ≤ _)⟩)
  dsimp only [Pt.U, Pt.locs, Pt.cells, Pt.slots] at X5 l5 y5 z5 st5 hQ5 hS5 hg5 hCr5
  subst l5 y5 z5
  have hS := hS.trans hS5 (Nat.le_trans zk3 (Nat.le_trans (Nat.le_of_eq (congrArg Array.size e4.symm)) hg5))
  have hZ : Z.Warmed39 (s.setVm T5.vm).vm := State.Warmed39.trans hZ hS5.1
  have hown : (s.setVm T5.vm).vm.findClass "com/example/sira/sira/engine/StreamState" = some m.cls := (hS5.1.alike.findClass _ _).trans hown
  obtain ⟨aq5, bq5, kq5, rfl, N5q, K5q, E5q, F5c, F5v, V5q, oa5, ob5, -⟩ := hQ5
  have N5 := Fr.app N3 N5q
  have c5_E_a1 := c3_E_a1.keep K5q
  have c5_F_a1_value := c3_F_a1_value.keep K5q (List.not_mem_nil)
  have c5_F_a1_coder := c3_F_a1_coder.keep K5q (List.not_mem_nil)
  have c5_V_sb1 := c3_V_sb1.keep K5q (List.not_mem_nil)
  have c5_E_a2 := c3_E_a2.keep K5q
  have c5_F_a2_value := c3_F_a2_value.keep K5q (List.not_mem_nil)
  have c5_F_a2_coder := c3_F_a2_coder.keep K5q (List.not_mem_nil)
  have c5_V_sb2 := c3_V_sb2.keep K5q (List.not_mem_nil)
  have c5_E_b1 := E3q.keep K5q
  have c5_F_b1_value := F3v.keep K5q (List.not_mem_nil)
  have c5_F_b1_coder := F3c.keep K5q (List.not_mem_nil)
  have c5_F_b1_count := F3n.keep K5q (List.not_mem_nil)
  have c5_V_bq2 := V3q.keep K5q (List.not_mem_nil)
  have O5 := O3.keep K5q all0
  have K5 := K3.trans K5q all0
  have Ch5 := Ch5p.trans hCr5
  have zs5 := (Nat.le_trans (Nat.le_trans zs2 K3q.1) K5q.1)
  refine og (B := T5.setTop (mkF m 18 #[rv a1, rv a2] [(.ref aq5), (.ref b1)])) (fun _ => st5.trans) ?_
  have Sf2 := CHr.safe hCr5 lt1 Sf1
  have Sf3 := Safe.exa (EL := consts_1) hZ.alike c5_E_b1 (by decide) (by decide)
  have ne_aq5_bq2 : aq5 ≠ bq2 := Exa.neArv E5q c5_V_bq2 (ow hw 1 rfl)
  have ne_bq5_bq2 : bq5 ≠ bq2 := fun q => ob5.elim (fun e => ne_sb1_bq2 (e.symm.trans q)) (fun e => absurd (Nat.le_trans e (Nat.le_of_eq q)) (Nat.not_le_of_lt lt1))
  have ne_aq5_b1 : aq5 ≠ b1 := fun q => oa5.elim (fun e => ne_a1_b1 (e.symm.trans q)) (fun e => absurd (Nat.le_trans e (Nat.le_of_eq q)) (Nat.not_le_of_lt lt2))
  have ne_b1_bq5 : b1 ≠ bq5 := Exa.neArv c5_E_b1 V5q (ow hw 42 rfl)
  obtain ⟨cq6, kq6, q6a, q6b, q6c⟩ := isOf hZ rfl c5_E_b1
  obtain ⟨_, _, ⟨T6, L6, k6, n6⟩, -, X6, ⟨Lc6, hQ6, l6, y6, z6⟩, st6⟩ := X5.virtualBack hx (y := own_y20) (z := own_y20) hown (mvT hZ (ow hw 59 rfl)) (mvT hZ (ow hw 60 rfl)) (notFace_of_selects (args := #[]) (mvT hZ (ow hw 62 rfl))) (mvT hZ (ow hw 62 rfl)) (mvT hZ (ow hw 61 rfl)) (by decide) (backOf (W := 0) (own_app l Z a0 hw b1 aq5 bq2 bq5 kq2 kq5 (2 : Int32) (0 : Int32) [(.int s0), (.int s1), (.int 0), (.int 0), (.int 0), (.int 0), (.int 0), (.int 0), (.int 0), (.int 0), (.int 0), (.int 0), (.int 0), (.int 0), (.int 0), (.int 0)] [] [(.int s0), (.int s1), (.int 0), (.int 0), (.int 0), (.int 0), (.int 0), (.int 0), (.int 0), (.int 0), (.int 0), (.int 0), (.int 0), (.int 0), (.int 0), (.int 0)] GC T5.heap n0 zs5 S_C hGC O5 c5_E_b1 g_b1 c5_F_b1_value c5_F_b1_coder c5_F_b1_count c5_V_bq2 g_bq2 E5q F5c F5v V5q ne_aq5_bq2 ne_bq5_bq2 ne_b1_bq2 (Ne.symm ne_aq5_b1) ne_b1_bq5 (by decide) (rm18_2_0 l Z a0 hw [] aq5 bq2 bq5 kq2 kq5 s0 s1 GC T5.heap n0 zs5 S_C hGC O5 c5_V_bq2 g_bq2 E5q F5c F5v V5q ne_aq5_bq2 ne_bq5_bq2)) hZ (ow hw 63 rfl) (ow hw 43 rfl) (by decide) (by decide)) q6a q6c (g := (mkF m 18 #[rv a1, rv a2] [(.ref aq5), (.ref b1)])) rfl (by rw [hml]; rfl) (Steps.refl _) (argsL := [(.ref aq5)]) (rest := []) (lenOf own_pd26 rfl) rfl (Nat.le_refl _) (hb hby d8_18) (fun _ _ => ⟨rfl, rfl, (by decide : 10 + 0 ≤ _), (by decide : 68 + 0 ≤ _)⟩)
  dsimp only [Pt.U, Pt.locs, Pt.cells, Pt.slots] at X6 l6 y6 z6 st6 hQ6
  subst l6 y6 z6
  obtain ⟨rfl, N6q, K6q, E6q, F6v, F6c, F6n, V6q⟩ := hQ6
  have N6 := Fr.app N5 N6q
  have c6_E_a1 := c5_E_a1.keep K6q
  have c6_F_a1_value := c5_F_a1_value.keep K6q (by simp only [List.mem_cons, List.not_mem_nil, or_false, not_or]; exact ⟨ne_a1_b1, ne_a1_bq2⟩)
  have c6_F_a1_coder := c5_F_a1_coder.keep K6q (by simp only [List.mem_cons, List.not_mem_nil, or_false, not_or]; exact ⟨ne_a1_b1, ne_a1_bq2⟩)
  have c6_V_sb1 := c5_V_sb1.keep K6q (by simp only [List.mem_cons, List.not_mem_nil, or_false, not_or]; exact ⟨ne_sb1_b1, ne_sb1_bq2⟩)
  have c6_E_a2 := c5_E_a2.keep K6q
  have c6_F_a2_value := c5_F_a2_value.keep K6q (by simp only [List.mem_cons, List.not_mem_nil, or_false, not_or]; exact ⟨ne_a2_b1, ne_a2_bq2⟩)
  have c6_F_a2_coder := c5_F_a2_coder.keep K6q (by simp only [List.mem_cons, List.not_mem_nil, or_false, not_or]; exact ⟨ne_a2_b1, ne_a2_bq2⟩)
  have c6_V_sb2 := c5_V_sb2.keep K6q (by simp only [List.mem_cons, List.not_mem_nil, or_false, not_or]; exact ⟨ne_sb2_b1, ne_sb2_bq2⟩)
  have c6_E_aq5 := E5q.keep K6q
  have c6_F_aq5_coder := F5c.keep K6q (by simp only [List.mem_cons, List.not_mem_nil, or_false, not_or]; exact ⟨ne_aq5_b1, ne_aq5_bq2⟩)
  have c6_F_aq5_value := F5v.keep K6q (by simp only [List.mem_cons, List.not_mem_nil, or_false, not_or]; exact ⟨ne_aq5_b1, ne_aq5_bq2⟩)
  have c6_V_bq5 := V5q.keep K6q (by simp only [List.mem_cons, List.not_mem_nil, or_false, not_or]; exact ⟨(Ne.symm ne_b1_bq5), ne_bq5_bq2⟩)
  have O6 := O5.keep K6q (allS g_b1 (allS g_bq2 all0))
  have K6 := K5.trans K6q (allS (Or.inr sz_b1) (allS (Or.inr sz_bq2) all0))
  have Ch6 := (Ch5).trans (CHr.keep K6q (allS Sf3 (allS Sf2 all0)) (Ch5).1)
  have zk6 := (Nat.le_trans (Nat.le_refl _) K6q.1)
  refine og (B := T6.setTop (mkF m 21 #[rv a1, rv a2] [(.ref b1)])) (fun _ => st6.trans) ?_
  obtain ⟨cq7, kq7, q7a, q7b, q7c⟩ := isOf hZ rfl E6q
  obtain ⟨_, _, ⟨T7, L7, k7, n7⟩, -, X7, ⟨Lc7, hQ7, l7, y7, z7⟩, st7⟩ := X6.virtualBack hx (y := own_y30) (z := own_y30) hown (mvT hZ (ow hw 122 rfl)) (mvT hZ (ow hw 123 rfl)) (notFace_of_selects (args := #[]) (mvT hZ (ow hw 125 rfl))) (mvT hZ (ow hw 125 rfl)) (mvT hZ (ow hw 124 rfl)) (by decide) (backOf (W := 0) (rm22 l Z a0 hw [] b1 bq2 kq2 (2 : Int32) [(.int s0), (.int s1), (.int 0), (.int 0), (.int 0), (.int 0), (.int 0), (.int 0), (.int 0), (.int 0), (.int 0), (.int 0), (.int 0), (.int 0), (.int 0), (.int 0)] [(.int s0), (.int s1)] GC T6.heap n0 (Nat.le_trans zs5 K6q.1) S_C hGC O6 E6q F6v F6c F6n V6q (fun h1 z1 v1 => rm29 l Z a0 hw [] bq2 kq2 (2 : Int32) [(.int s0), (.int s1), (.int 0), (.int 0), (.int 0), (.int 0), (.int 0), (.int 0), (.int 0), (.int 0), (.int 0), (.int 0), (.int 0), (.int 0), (.int 0), (.int 0)] [(.int s0), (.int s1)] h1 n0 z1 v1 (by decide) (rm30_2 l Z a0 hw [] bq2 kq2 s0 s1 h1 n0 z1 v1))) hZ (ow hw 126 rfl) (ow hw 43 rfl) (by decide) (by decide)) q7a q7c (g := (mkF m 21 #[rv a1, rv a2] [(.ref b1)])) rfl (by rw [hml]; rfl) (Steps.refl _) (argsL := []) (rest := []) (lenOf own_pd20 rfl) rfl (Nat.le_refl _) (hb hby d8_21) (fun _ _ => ⟨rfl, rfl, (by decide : 10 + 2 ≤ _), (by decide : 68 + 9 ≤ _)⟩)
  dsimp only [Pt.U, Pt.locs, Pt.cells, Pt.slots] at X7 l7 y7 z7 st7 hQ7
  subst l7 y7 z7
  obtain ⟨aq7, bq7, kq7, rfl, N7q, K7q, E7q, F7c, F7v, V7q⟩ := hQ7
  have N7 := Fr.app N6 N7q
  have c7_E_a1 := c6_E_a1.keep K7q
  have c7_F_a1_value := c6_F_a1_value.keep K7q (List.not_mem_nil)
  have c7_F_a1_coder := c6_F_a1_coder.keep K7q (List.not_mem_nil)
  have c7_V_sb1 := c6_V_sb1.keep K7q (List.not_mem_nil)
  have c7_E_a2 := c6_E_a2.keep K7q
  have c7_F_a2_value := c6_F_a2_value.keep K7q (List.not_mem_nil)
  have c7_F_a2_coder := c6_F_a2_coder.keep K7q (List.not_mem_nil)
  have c7_V_sb2 := c6_V_sb2.keep K7q (List.not_mem_nil)
  have c7_E_aq5 := c6_E_aq5.keep K7q
  have c7_F_aq5_coder := c6_F_aq5_coder.keep K7q (List.not_mem_nil)
  have c7_F_aq5_value := c6_F_aq5_value.keep K7q (List.not_mem_nil)
  have c7_V_bq5 := c6_V_bq5.keep K7q (List.not_mem_nil)
  have c7_E_b1 := E6q.keep K7q
  have c7_F_b1_value := F6v.keep K7q (List.not_mem_nil)
  have c7_F_b1_coder := F6c.keep K7q (List.not_mem_nil)
  have c7_F_b1_count := F6n.keep K7q (List.not_mem_nil)
  have c7_V_bq2 := V6q.keep K7q (List.not_mem_nil)
  have O7 := O6.keep K7q all0
  have K7 := K6.trans K7q all0
  have Ch7 := (Ch6).trans (CHr.keep K7q all0 (Ch6).1)
  have zs7 := (Nat.le_trans (Nat.le_trans zs5 K6q.1) K7q.1)
  refine og (B := T7.setTop (mkF m 24 #[rv a1, rv a2] [(.ref aq7)])) (fun _ => st7.trans) ?_
  obtain ⟨fs, hr, hrun, hended, hRW⟩ := X7.leaveW hS ((Nat.le_trans zk6 K7q.1)) (v := some (.ref aq7)) (fun h => by rw [Bd.returns] at h; cases h)
  refine ⟨_, _, ?_, hrun, hended, _, _, rfl, ?_, (by have q := (Ch7).trans (CHv.at X7 hZ (own_hEL hw) (Ch7).1); rw [← hh] at q; exact q), hRW.1, hRW.2.1, hRW.2.2.1, hRW.2.2.2.mono (by decide) (by decide)⟩
  · show own_S p e below T7 (mkF m 24 #[rv a1, rv a2] [(.ref aq7)]) _
    jvm_step X7.here [X7.here.top, hx, (hb hby d8_24), X7.method', Bd.returns, Value.isRef, FieldType.isReference]
    first | (intro acts; rw [hr _ acts rfl rfl rfl]) | rw [hr _ _ rfl rfl rfl]
    exact Steps.refl _
  · show Q8_0 Z a1 a2 sb1 sb2 kb kb2 s0 s1 GC ci al ab ag agv h0 n0 _ T7.heap _
    exact ⟨aq7, bq7, kq7, rfl, N7, K7, E7q, F7c, F7v, V7q, trivial⟩
def Q19_1 (Z : State) (a1 : Addr) (sb1 : Addr) (kb : ClassId) (x0 : Int32) (GC : Int32) (ci : Addr) (al : Addr) (ab : Addr) (ag : Addr) (agv : Addr) (h0 : Heap) (n0 : Nat) (v : Option Value) (h : Heap) (L : List Loc) : Prop := own_QL1 Z a1 sb1 x0 h0 n0 v h L
set_option maxRecDepth 65536 in
set_option maxHeartbeats 40000000 in
theorem rm19_1 (l : Launch) (Z : State) (a0 : Array Value) (hw : ∀ d ∈ tables_1, d.before a0 Z = true) (ws : List Jvm.Cond) (a1 : Addr) (sb1 : Addr) (kb : ClassId) (x0 : Int32) (GC : Int32) (ci : Addr) (al : Addr) (ab : Addr) (ag : Addr) (agv : Addr) (h0 : Heap) (n0 : Nat) (Z0 : n0 ≤ h0.size) (S_C : Sta Z Z.heap "java/lang/String" "COMPACT_STRINGS" "Z" (.int GC)) (hGC : ¬ GC = (0 : Int32)) (O0 : Old Z n0 h0) (S_I : Sta Z Z.heap "java/lang/CharacterDataLatin1" "instance" "Ljava/lang/CharacterDataLatin1;" (.ref ci)) (E_ci : Exa Z Z.heap ci "java/lang/CharacterDataLatin1") (S_R : Sta Z Z.heap "java/util/Locale" "ROOT" "Ljava/util/Locale;" (.ref al)) (E_al : Exa Z Z.heap al "java/util/Locale") (F_ab : Fld Z Z.heap al "java/util/Locale" "baseLocale" "Lsun/util/locale/BaseLocale;" (.ref ab)) (E_ab : Exa Z Z.heap ab "sun/util/locale/BaseLocale") (F_ag : Fld Z Z.heap ab "sun/util/locale/BaseLocale" "language" "Ljava/lang/String;" (.ref ag)) (F_gv : Fld Z Z.heap ag "java/lang/String" "value" "[B" (.ref agv)) (V_gv : own_E0 Z Z.heap agv) (E_a1 : Exa Z h0 a1 "java/lang/String") (F_c : Fld Z h0 a1 "java/lang/String" "coder" "B" (.int 0)) (F_v : Fld Z h0 a1 "java/lang/String" "value" "[B" (.ref sb1)) (V_b : Arv Z h0 sb1 kb .byte (1 : Int32) [(.int x0)] (.int 0)) :
    MetFree l own_y37 (head1 (Jvm.Cond.code own_y37 jdk_42_method_109_code 2 (some (.object "java/lang/String")) :: ws) ({ frames := 3, cells := 8, slots := 48, locals := 47 } : Room)) (fun a U => a = #[(.ref a1), (.ref al)] ∧ Z.Warmed39 U.vm ∧ U.heap = h0 ∧ CHv Z consts_1 U.vm h0) (fun _ _ _ _ _ => True) (fun _ U o U' => ∃ v L, o = .returned v ∧ Q19_1 Z a1 sb1 kb x0 GC ci al ab ag agv h0 n0 v U'.heap L ∧ CHr Z consts_1 U.vm U.heap U'.vm U'.heap ∧ ReturnedEndW U o U' L ({ frames := 3, cells := 8, slots := 48, locals := 47 } : Room).cells ({ frames := 3, cells := 8, slots := 48, locals := 47 } : Room).slots) := by
  refine MetFree.of_bodySF (plainFor_of_name pn_19) hisR ?_
  intro p e s m args below meth c s₁ Bd hml0 hP hK
  obtain ⟨rfl, hZ, hh, hCH⟩ := hP
  have hx := Bd.exec
  have hby := Bd.bytes
  have hml : c.maxLocals = 2 := hml0
  have hown : s.vm.findClass "java/lang/String" = some m.cls := findClass_of_methodNamed Bd.named
  have hnm := (name_of_methodNamed Bd.named Bd.method).1
  have X0 : Stand p l e ({ frames := 3, cells := 8, slots := 48, locals := 47 } : Room) s m #[(.ref a1), (.ref al)] below meth c s₁ [] 0 0 := Stand.of_body Bd
  have e0 : s₁.heap = h0 := by rw [← hh, Bd.state]; rfl
  have N0 := Fr.nil n0
  have X0 : Stand p l e ({ frames := 3, cells := 8, slots := 48, locals := 47 } : Room) (s.setVm s.vm) m #[(.ref a1), (.ref al)] below meth c s₁ [] 0 0 := X0
  have hZ : Z.Warmed39 (s.setVm s.vm).vm := hZ
  have hown : (s.setVm s.vm).vm.findClass "java/lang/String" = some m.cls := hown
  have hS : s.Since s.vm 0 := (State.WarmedH.refl s).since 0
  refine og (B := s₁.setTop (mkF m 0 #[rv a1, rv al] [])) (fun t k => castTop (ef_19 m a1 al) k) ?_
  refine og (B := s₁.setTop (mkF m 1 #[rv a1, rv al] [(.ref a1)])) (fun t k => ?_) ?_
  · refine XS.aloadN X0.here hx rfl (hb hby d19_0) rfl rfl ?_
    exact k
  obtain ⟨cq1, kq1, q1a, q1b, q1c⟩ := isOf hZ e0 E_a1
  obtain ⟨_, _, ⟨T1, L1, k1, n1⟩, -, X1, ⟨Lc1, hQ1, l1, y1, z1⟩, st1⟩ := X0.virtualBack hx (y := own_y0) (z := own_y0) hown (mvT hZ (ow hw 113 rfl)) (mvT hZ (ow hw 114 rfl)) (notFace_of_selects (args := #[]) (mvT hZ (ow hw 116 rfl))) (mvT hZ (ow hw 116 rfl)) (mvT hZ (ow hw 115 rfl)) (by decide) (backOf (W := 0) (rm20 l Z a0 hw [] a1 GC h0 n0 Z0 S_C hGC O0 F_c) hZ (ow hw 117 rfl) (ow hw 2 rfl) (by decide) (by decide)) q1a q1c (g := (mkF m 1 #[rv a1, rv al] [(.ref a1)])) rfl (by rw [hml]; rfl) (Steps.refl _) (argsL := []) (rest := []) (lenOf own_pd3 rfl) rfl (Nat.le_refl _) (hb hby d19_1) (fun _ _ => ⟨rfl, e0, (by decide : 0 + 0 ≤ _), (by decide : 0 + 0 ≤ _)⟩)
  dsimp only [Pt.U, Pt.locs, Pt.cells, Pt.slots] at X1 l1 y1 z1 st1 hQ1
  subst l1 y1 z1
  obtain ⟨rfl, N1q, eq1⟩ := hQ1
  have N1 := Fr.app N0 N1q
  refine og (B := T1.setTop (mkF m 4 #[rv a1, rv al] [(.int 1)])) (fun _ => st1.trans) ?_
  refine og (B := T1.setTop (mkF m 9 #[rv a1, rv al] [(.ref a1), (.ref a1)])) (fun t k => ?_) ?_
  · refine XS.ifNo X1.here hx rfl (hb hby d19_4) rfl ((if0 _ _).trans (feq (by decide)).1) ?_
    refine XS.aloadN X1.here hx rfl (hb hby d19_7) rfl rfl ?_
    refine XS.aloadN X1.here hx rfl (hb hby d19_8) rfl rfl ?_
    exact k
  obtain ⟨T2, X2, e2, st2⟩ := getF X1 hx hZ hown (host := "") (Or.inl (ow hw 28 rfl)) Via.refl eq1 F_v (g := (mkF m 9 #[rv a1, rv al] [(.ref a1), (.ref a1)])) rfl rfl (hb hby d19_9)
  refine og (B := T2.setTop (mkF m 12 #[rv a1, rv al] [(.ref sb1), (.ref a1)])) st2 ?_
  refine og (B := T2.setTop (mkF m 13 #[rv a1, rv al] [(.ref al), (.ref sb1), (.ref a1)])) (fun t k => ?_) ?_
  · refine XS.aloadN X2.here hx rfl (hb hby d19_12) rfl rfl ?_
    exact k
  have Ch3p := CHr.refl hCH
  obtain ⟨_, _, ⟨T3, L3, k3, n3⟩, -, X3, hS3, hg3, ⟨Lc3, hQ3, l3, y3, z3, hCr3⟩, st3⟩ := callSS X2 hx (y := own_y36) hown (mvT hZ (ow hw 118 rfl)) (mvT hZ (ow hw 119 rfl)) (mvT hZ (ow hw 120 rfl)) (mvT hZ (ow hw 121 rfl)) (by decide) (backOfSH (W := 0) (rm21_1 l Z a0 hw [] a1 sb1 kb x0 GC ci al ab ag agv h0 n0 Z0 S_C hGC O0 S_I E_ci S_R E_al F_ab E_ab F_ag F_gv V_gv E_a1 F_c F_v V_b) hZ (ow hw 121 rfl) (ow hw 120 rfl) (by decide) (by decide) (own_hEL hw) Ch3p.1) (g := (mkF m 13 #[rv a1, rv al] [(.ref al), (.ref sb1), (.ref a1)])) rfl (by rw [hml]; rfl) (argsL := [(.ref a1), (.ref sb1), (.ref al)]) (rest := []) (lenOf own_pd24 rfl) rfl (Nat.le_refl _) (hb hby d19_13) (fun _ _ => ⟨rfl, e2, (by decide : 0 + 8 ≤ _), (by decide : 0 + 48 ≤ _)⟩)
  dsimp only [Pt.U, Pt.locs, Pt.cells, Pt.slots] at X3 l3 y3 z3 st3 hQ3 hS3 hg3 hCr3
  subst l3 y3 z3
  have hS := hS.trans hS3 (Nat.le_trans (Nat.zero_le _) (Nat.le_trans (Nat.le_of_eq (congrArg Array.size e2.symm)) hg3))
  have hZ : Z.Warmed39 (s.setVm T3.vm).vm := State.Warmed39.trans hZ hS3.1
  have hown : (s.setVm T3.vm).vm.findClass "java/lang/String" = some m.cls := (hS3.1.alike.findClass _ _).trans hown
  obtain ⟨aq3, bq3, kq3, uq3_0, rfl, N3q, K3q, E3q, F3c, F3v, V3q, oa3, ob3, lw3_0, -⟩ := hQ3
  have N3 := Fr.app N1 N3q
  have c3_E_a1 := E_a1.keep K3q
  have c3_F_a1_value := F_v.keep K3q (List.not_mem_nil)
  have c3_F_a1_coder := F_c.keep K3q (List.not_mem_nil)
  have c3_V_sb1 := V_b.keep K3q (List.not_mem_nil)
  have O3 := O0.keep K3q all0
  have K3 := (Keep.refl h0 []).trans K3q all0
  have Ch3 := Ch3p.trans hCr3
  refine og (B := T3.setTop (mkF m 16 #[rv a1, rv al] [(.ref aq3)])) (fun _ => st3.trans) ?_
  obtain ⟨fs, hr, hrun, hended, hRW⟩ := X3.leaveW hS ((Nat.le_refl _)) (v := some (.ref aq3)) (fun h => by rw [Bd.returns] at h; cases h)
  refine ⟨_, _, ?_, hrun, hended, _, _, rfl, ?_, (by have q := (Ch3).trans (CHv.at X3 hZ (own_hEL hw) (Ch3).1); rw [← hh] at q; exact q), hRW.1, hRW.2.1, hRW.2.2.1, hRW.2.2.2.mono (by decide) (by decide)⟩
  · refine XS.goto X3.here hx rfl (pc0 := 16) (pc' := 28) rfl (hb hby d19_16) (by decide) (by decide) ?_
    show own_S p e below T3 (mkF m 28 #[rv a1, rv al] [(.ref aq3)]) _
    jvm_step X3.here [X3.here.top, hx, (hb hby d19_28), X3.method', Bd.returns, Value.isRef, FieldType.isReference]
    first | (intro acts; rw [hr _ acts rfl rfl rfl]) | rw [hr _ _ rfl rfl rfl]
    exact Steps.refl _
  · show Q19_1 Z a1 sb1 kb x0 GC ci al ab ag agv h0 n0 _ T3.heap _
    exact ⟨aq3, bq3, kq3, uq3_0, rfl, N3, K3, E3q, F3c, F3v, V3q, oa3, ob3, lw3_0, trivial⟩
def own_QK1 (Z : State) (x0 : Int32) (s0 s1 : Int32) (h0 : Heap) (n0 : Nat) (v : Option Value) (h : Heap) (L : List Loc) : Prop := ∃ (a b : Addr) (kq : ClassId) (u0 : Int32), v = some (.ref a) ∧ Fr n0 L ∧ Keep h0 h [] ∧ Exa Z h a "java/lang/String" ∧ Fld Z h a "java/lang/String" "coder" "B" (.int 0) ∧ Fld Z h a "java/lang/String" "value" "[B" (.ref b) ∧ Arv Z h b kq .byte (3 : Int32) [(.int s0), (.int s1), (.int u0)] (.int 0)  ∧ ((u0 &&& (255 : Int32)) = own_low (x0 &&& (255 : Int32)) ∧ True)
def Q8_1 (Z : State) (a1 : Addr) (a2 : Addr) (sb1 : Addr) (sb2 : Addr) (kb : ClassId) (kb2 : ClassId) (x0 : Int32) (s0 : Int32) (s1 : Int32) (GC : Int32) (ci : Addr) (al : Addr) (ab : Addr) (ag : Addr) (agv : Addr) (h0 : Heap) (n0 : Nat) (v : Option Value) (h : Heap) (L : List Loc) : Prop := own_QK1 Z x0 s0 s1 h0 n0 v h L
set_option maxRecDepth 65536 in
set_option maxHeartbeats 40000000 in
theorem rm8_1 (l : Launch) (Z : State) (a0 : Array Value) (hw : ∀ d ∈ tables_1, d.before a0 Z = true) (ws : List Jvm.Cond) (a1 : Addr) (a2 : Addr) (sb1 : Addr) (sb2 : Addr) (kb : ClassId) (kb2 : ClassId) (x0 : Int32) (s0 : Int32) (s1 : Int32) (GC : Int32) (ci : Addr) (al : Addr) (ab : Addr) (ag : Addr) (agv : Addr) (h0 : Heap) (n0 : Nat) (Z0 : n0 ≤ h0.size) (S_C : Sta Z Z.heap "java/lang/String" "COMPACT_STRINGS" "Z" (.int GC)) (hGC : ¬ GC = (0 : Int32)) (O0 : Old Z n0 h0) (S_I : Sta Z Z.heap "java/lang/CharacterDataLatin1" "instance" "Ljava/lang/CharacterDataLatin1;" (.ref ci)) (E_ci : Exa Z Z.heap ci "java/lang/CharacterDataLatin1") (S_R : Sta Z Z.heap "java/util/Locale" "ROOT" "Ljava/util/Locale;" (.ref al)) (E_al : Exa Z Z.heap al "java/util/Locale") (F_ab : Fld Z Z.heap al "java/util/Locale" "baseLocale" "Lsun/util/locale/BaseLocale;" (.ref ab)) (E_ab : Exa Z Z.heap ab "sun/util/locale/BaseLocale") (F_ag : Fld Z Z.heap ab "sun/util/locale/BaseLocale" "language" "Ljava/lang/String;" (.ref ag)) (F_gv : Fld Z Z.heap ag "java/lang/String" "value" "[B" (.ref agv)) (V_gv : own_E0 Z Z.heap agv) (E_a1 : Exa Z h0 a1 "java/lang/String") (F_c : Fld Z h0 a1 "java/lang/String" "coder" "B" (.int 0)) (F_v : Fld Z h0 a1 "java/lang/String" "value" "[B" (.ref sb1)) (V_b : Arv Z h0 sb1 kb .byte (1 : Int32) [(.int x0)] (.int 0)) (E_a2 : Exa Z h0 a2 "java/lang/String") (F_c2 : Fld Z h0 a2 "java/lang/String" "coder" "B" (.int 0)) (F_v2 : Fld Z h0 a2 "java/lang/String" "value" "[B" (.ref sb2)) (V_2 : Arv Z h0 sb2 kb2 .byte (2 : Int32) [(.int s0), (.int s1)] (.int 0)) :
    MetFree l own_y38 (head1 (Jvm.Cond.code own_y38 prog_31_method_2_code 2 (some (.object "java/lang/String")) :: ws) ({ frames := 6, cells := 12, slots := 80, locals := 91 } : Room)) (fun a U => a = #[(.ref a1), (.ref a2)] ∧ Z.Warmed39 U.vm ∧ U.heap = h0 ∧ CHv Z consts_1 U.vm h0) (fun _ _ _ _ _ => True) (fun _ U o U' => ∃ v L, o = .returned v ∧ Q8_1 Z a1 a2 sb1 sb2 kb kb2 x0 s0 s1 GC ci al ab ag agv h0 n0 v U'.heap L ∧ CHr Z consts_1 U.vm U.heap U'.vm U'.heap ∧ ReturnedEndW U o U' L ({ frames := 6, cells := 12, slots := 80, locals := 91 } : Room).cells ({ frames := 6, cells := 12, slots := 80, locals := 91 } : Room).slots) := by
  refine MetFree.of_bodySF (plainFor_of_name pn_8) hisR ?_
  intro p e s m args below meth c s₁ Bd hml0 hP hK
  obtain ⟨rfl, hZ, hh, hCH⟩ := hP
  have hx := Bd.exec
  have hby := Bd.bytes
  have hml : c.maxLocals = 2 := hml0
  have hown : s.vm.findClass "com/example/sira/sira/engine/StreamState" = some m.cls := findClass_of_methodNamed Bd.named
  have hnm := (name_of_methodNamed Bd.named Bd.method).1
  have X0 : Stand p l e ({ frames := 6, cells := 12, slots := 80, locals := 91 } : Room) s m #[(.ref a1), (.ref a2)] below meth c s₁ [] 0 0 := Stand.of_body Bd
  have e0 : s₁.heap = h0 := by rw [← hh, Bd.state]; rfl
  have N0 := Fr.nil n0
  have X0 : Stand p l e ({ frames := 6, cells := 12, slots := 80, locals := 91 } : Room) (s.setVm s.vm) m #[(.ref a1), (.ref a2)] below meth c s₁ [] 0 0 := X0
  have hZ : Z.Warmed39 (s.setVm s.vm).vm := hZ
  have hown : (s.setVm s.vm).vm.findClass "com/example/sira/sira/engine/StreamState" = some m.cls := hown
  have hS : s.Since s.vm 0 := (State.WarmedH.refl s).since 0
  refine og (B := s₁.setTop (mkF m 0 #[rv a1, rv a2] [])) (fun t k => castTop (ef_8 m a1 a2) k) ?_
  obtain ⟨T1, h1, X1, e1, E1, A1, D1, -, st1⟩ := newO X0 hx hZ hown (ow hw 41 rfl) (ow hw 42 rfl) (ow hw 43 rfl) e0 (g := (mkF m 0 #[rv a1, rv a2] [])) rfl (hb hby d8_0) (by decide) (by decide)
  obtain ⟨b1, g1⟩ : ∃ z, z = h0.size := ⟨_, rfl⟩
  rw [← g1] at A1 D1 st1
  have g_b1 : n0 ≤ b1 := Nat.le_trans Z0 (Nat.le_of_eq g1.symm)
  have sz_b1 : h0.size ≤ b1 := Nat.le_trans (Keep.refl h0 []).1 (Nat.le_of_eq g1.symm)
  have ne_a1_b1 : a1 ≠ b1 := Nat.ne_of_lt (Nat.lt_of_lt_of_le E_a1.lt (Nat.le_of_eq g1.symm))
  have ne_sb1_b1 : sb1 ≠ b1 := Nat.ne_of_lt (Nat.lt_of_lt_of_le V_b.lt (Nat.le_of_eq g1.symm))
  have ne_a2_b1 : a2 ≠ b1 := Nat.ne_of_lt (Nat.lt_of_lt_of_le E_a2.lt (Nat.le_of_eq g1.symm))
  have ne_sb2_b1 : sb2 ≠ b1 := Nat.ne_of_lt (Nat.lt_of_lt_of_le V_2.lt (Nat.le_of_eq g1.symm))
  have c1_E_a1 := E_a1.ext E1
  have c1_F_a1_value := F_v.ext E1
  have c1_F_a1_coder := F_c.ext E1
  have c1_V_sb1 := V_b.ext E1
  have c1_E_a2 := E_a2.ext E1
  have c1_F_a2_value := F_v2.ext E1
  have c1_F_a2_coder := F_c2.ext E1
  have c1_V_sb2 := V_2.ext E1
  have K1 := (Keep.refl h0 []).ext E1
  have O1 := O0.ext E1
  have F1_value : Fld Z h1 b1 "java/lang/AbstractStringBuilder" "value" "[B" .null := D1 (Or.inl (ow hw 56 rfl)) (ty := (.array .byte)) (by decide)
  have F1_coder : Fld Z h1 b1 "java/lang/AbstractStringBuilder" "coder" "B" (.int 0) := D1 (Or.inl (ow hw 58 rfl)) (ty := .byte) (by decide)
  have F1_count : Fld Z h1 b1 "java/lang/AbstractStringBuilder" "count" "I" (.int 0) := D1 (Or.inl (ow hw 80 rfl)) (ty := .int) (by decide)
  have zk1 := (Nat.le_trans (Nat.zero_le _) E1.1)
  refine og (B := T1.setTop (mkF m 3 #[rv a1, rv a2] [(.ref b1)])) st1 ?_
  refine og (B := T1.setTop (mkF m 4 #[rv a1, rv a2] [(.ref b1), (.ref b1)])) (fun t k => ?_) ?_
  · refine XS.dup X1.here hx rfl (hb hby d8_3) rfl rfl ?_
    exact k
  obtain ⟨_, _, ⟨T2, L2, k2, n2⟩, -, X2, ⟨Lc2, hQ2, l2, y2, z2⟩, st2⟩ := X1.specialBack hx (y := own_y14) rfl hown (mvT hZ (ow hw 44 rfl)) (mvT hZ (ow hw 45 rfl)) (mvT hZ (ow hw 46 rfl)) (by decide) (backOf (W := 1) (rm9 l Z a0 hw [] b1 GC h1 n0 (Nat.le_trans Z0 E1.1) S_C hGC O1 A1 g_b1 F1_value F1_coder F1_count) hZ (ow hw 46 rfl) (ow hw 43 rfl) (by decide) (by decide)) (g := (mkF m 4 #[rv a1, rv a2] [(.ref b1), (.ref b1)])) rfl (by rw [hml]; rfl) (Steps.refl _) (a := b1) (argsL := []) (rest := [(.ref b1)]) (lenOf own_pd25 rfl) rfl (Nat.le_refl _) (hb hby d8_4) (fun _ _ => ⟨rfl, e1, (by decide : 1 + 1 ≤ _), (by decide : 4 + 16 ≤ _)⟩)
  dsimp only [Pt.U, Pt.locs, Pt.cells, Pt.slots] at X2 l2 y2 z2 st2 hQ2
  subst l2 y2 z2
  obtain ⟨rfl, N2q, bq2, kq2, K2q, q2z, q2g, E2q, F2v, F2c, F2n, V2q⟩ := hQ2
  have N2 := Fr.app N0 N2q
  have sz_bq2 : h0.size ≤ bq2 := Nat.le_trans (K1).1 q2z
  have g_bq2 : n0 ≤ bq2 := q2g
  have ne_a1_bq2 : a1 ≠ bq2 := Nat.ne_of_lt (Nat.lt_of_lt_of_le c1_E_a1.lt q2z)
  have ne_sb1_bq2 : sb1 ≠ bq2 := Nat.ne_of_lt (Nat.lt_of_lt_of_le c1_V_sb1.lt q2z)
  have ne_a2_bq2 : a2 ≠ bq2 := Nat.ne_of_lt (Nat.lt_of_lt_of_le c1_E_a2.lt q2z)
  have ne_sb2_bq2 : sb2 ≠ bq2 := Nat.ne_of_lt (Nat.lt_of_lt_of_le c1_V_sb2.lt q2z)
  have ne_b1_bq2 : b1 ≠ bq2 := Nat.ne_of_lt (Nat.lt_of_lt_of_le A1.lt q2z)
  have c2_E_a1 := c1_E_a1.keep K2q
  have c2_F_a1_value := c1_F_a1_value.keep K2q (fun q => ne_a1_b1 (List.mem_singleton.mp q))
  have c2_F_a1_coder := c1_F_a1_coder.keep K2q (fun q => ne_a1_b1 (List.mem_singleton.mp q))
  have c2_V_sb1 := c1_V_sb1.keep K2q (fun q => ne_sb1_b1 (List.mem_singleton.mp q))
  have c2_E_a2 := c1_E_a2.keep K2q
  have c2_F_a2_value := c1_F_a2_value.keep K2q (fun q => ne_a2_b1 (List.mem_singleton.mp q))
  have c2_F_a2_coder := c1_F_a2_coder.keep K2q (fun q => ne_a2_b1 (List.mem_singleton.mp q))
  have c2_V_sb2 := c1_V_sb2.keep K2q (fun q => ne_sb2_b1 (List.mem_singleton.mp q))
  have O2 := O1.keep K2q (allS g_b1 all0)
  have K2 := K1.trans K2q (allS (Or.inr sz_b1) all0)
  have zs2 := (Nat.le_trans (Nat.le_trans Z0 E1.1) K2q.1)
  refine og (B := T2.setTop (mkF m 7 #[rv a1, rv a2] [(.ref b1)])) (fun _ => st2.trans) ?_
  refine og (B := T2.setTop (mkF m 8 #[rv a1, rv a2] [(.ref a2), (.ref b1)])) (fun t k => ?_) ?_
  · refine XS.aloadN X2.here hx rfl (hb hby d8_7) rfl rfl ?_
    exact k
  obtain ⟨cq3, kq3, q3a, q3b, q3c⟩ := isOf hZ rfl E2q
  obtain ⟨_, _, ⟨T3, L3, k3, n3⟩, -, X3, ⟨Lc3, hQ3, l3, y3, z3⟩, st3⟩ := X2.virtualBack hx (y := own_y20) (z := own_y20) hown (mvT hZ (ow hw 59 rfl)) (mvT hZ (ow hw 60 rfl)) (notFace_of_selects (args := #[]) (mvT hZ (ow hw 62 rfl))) (mvT hZ (ow hw 62 rfl)) (mvT hZ (ow hw 61 rfl)) (by decide) (backOf (W := 0) (own_app l Z a0 hw b1 a2 bq2 sb2 kq2 kb2 (0 : Int32) (2 : Int32) [(.int 0), (.int 0), (.int 0), (.int 0), (.int 0), (.int 0), (.int 0), (.int 0), (.int 0), (.int 0), (.int 0), (.int 0), (.int 0), (.int 0), (.int 0), (.int 0)] [(.int s0), (.int s1)] [(.int s0), (.int s1), (.int 0), (.int 0), (.int 0), (.int 0), (.int 0), (.int 0), (.int 0), (.int 0), (.int 0), (.int 0), (.int 0), (.int 0), (.int 0), (.int 0)] GC T2.heap n0 zs2 S_C hGC O2 E2q g_b1 F2v F2c F2n V2q g_bq2 c2_E_a2 c2_F_a2_coder c2_F_a2_value c2_V_sb2 ne_a2_bq2 ne_sb2_bq2 ne_b1_bq2 (Ne.symm ne_a2_b1) (Ne.symm ne_sb2_b1) (by decide) (rm18_0_2 l Z a0 hw [] a2 bq2 sb2 kq2 kb2 s0 s1 GC T2.heap n0 zs2 S_C hGC O2 V2q g_bq2 c2_E_a2 c2_F_a2_coder c2_F_a2_value c2_V_sb2 ne_a2_bq2 ne_sb2_bq2)) hZ (ow hw 63 rfl) (ow hw 43 rfl) (by decide) (by decide)) q3a q3c (g := (mkF m 8 #[rv a1, rv a2] [(.ref a2), (.ref b1)])) rfl (by rw [hml]; rfl) (Steps.refl _) (argsL := [(.ref a2)]) (rest := []) (lenOf own_pd26 rfl) rfl (Nat.le_refl _) (hb hby d8_8) (fun _ _ => ⟨rfl, rfl, (by decide : 2 + 0 ≤ _), (by decide : 20 + 0 ≤ _)⟩)
  dsimp only [Pt.U, Pt.locs, Pt.cells, Pt.slots] at X3 l3 y3 z3 st3 hQ3
  subst l3 y3 z3
  obtain ⟨rfl, N3q, K3q, E3q, F3v, F3c, F3n, V3q⟩ := hQ3
  have N3 := Fr.app N2 N3q
  have c3_E_a1 := c2_E_a1.keep K3q
  have c3_F_a1_value := c2_F_a1_value.keep K3q (by simp only [List.mem_cons, List.not_mem_nil, or_false, not_or]; exact ⟨ne_a1_b1, ne_a1_bq2⟩)
  have c3_F_a1_coder := c2_F_a1_coder.keep K3q (by simp only [List.mem_cons, List.not_mem_nil, or_false, not_or]; exact ⟨ne_a1_b1, ne_a1_bq2⟩)
  have c3_V_sb1 := c2_V_sb1.keep K3q (by simp only [List.mem_cons, List.not_mem_nil, or_false, not_or]; exact ⟨ne_sb1_b1, ne_sb1_bq2⟩)
  have c3_E_a2 := c2_E_a2.keep K3q
  have c3_F_a2_value := c2_F_a2_value.keep K3q (by simp only [List.mem_cons, List.not_mem_nil, or_false, not_or]; exact ⟨ne_a2_b1, ne_a2_bq2⟩)
  have c3_F_a2_coder := c2_F_a2_coder.keep K3q (by simp only [List.mem_cons, List.not_mem_nil, or_false, not_or]; exact ⟨ne_a2_b1, ne_a2_bq2⟩)
  have c3_V_sb2 := c2_V_sb2.keep K3q (by simp only [List.mem_cons, List.not_mem_nil, or_false, not_or]; exact ⟨ne_sb2_b1, ne_sb2_bq2⟩)
  have O3 := O2.keep K3q (allS g_b1 (allS g_bq2 all0))
  have K3 := K2.trans K3q (allS (Or.inr sz_b1) (allS (Or.inr sz_bq2) all0))
  have zk3 := (Nat.le_trans (Nat.le_trans zk1 K2q.1) K3q.1)
  refine og (B := T3.setTop (mkF m 11 #[rv a1, rv a2] [(.ref b1)])) (fun _ => st3.trans) ?_
  refine og (B := T3.setTop (mkF m 12 #[rv a1, rv a2] [(.ref a1), (.ref b1)])) (fun t k => ?_) ?_
  · refine XS.aloadN X3.here hx rfl (hb hby d8_11) rfl rfl ?_
    exact k
  obtain ⟨T4, X4, e4, st4⟩ := getS2 X3 hx hZ hown (host := "") (Or.inl (ow hw 106 rfl)) Via.refl rfl (S_R.ext O3.2) (g := (mkF m 12 #[rv a1, rv a2] [(.ref a1), (.ref b1)])) rfl (hb hby d8_12)
  refine og (B := T4.setTop (mkF m 15 #[rv a1, rv a2] [(.ref al), (.ref a1), (.ref b1)])) st4 ?_
  have Sf1 := Safe.ext (own_ext K3) hCH (Safe.new (EL := consts_1) (Z := Z) sz_bq2)
  have lt1 := V3q.lt
  have lt2 := E3q.lt
  have Ch5p := CHr.ext (own_ext K3) hCH
  obtain ⟨cq5, kq5, q5a, q5b, q5c⟩ := isOf hZ e4 c3_E_a1
  obtain ⟨_, _, ⟨T5, L5, k5, n5⟩, -, X5, hS5, hg5, ⟨Lc5, hQ5, l5, y5, z5, hCr5⟩, st5⟩ := X4.virtualBackS hx (y := own_y37) (z := own_y37) hown (mvT hZ (ow hw 108 rfl)) (mvT hZ (ow hw 109 rfl)) (notFace_of_selects (args := #[]) (mvT hZ (ow hw 111 rfl))) (mvT hZ (ow hw 111 rfl)) (mvT hZ (ow hw 110 rfl)) (by decide) (backOfSH (W := 1) (rm19_1 l Z a0 hw [] a1 sb1 kb x0 GC ci al ab ag agv T3.heap n0 (Nat.le_trans zs2 K3q.1) S_C hGC O3 S_I E_ci S_R E_al F_ab E_ab F_ag F_gv V_gv c3_E_a1 c3_F_a1_coder c3_F_a1_value c3_V_sb1) hZ (ow hw 112 rfl) (ow hw 2 rfl) (by decide) (by decide) (own_hEL hw) Ch5p.1) q5a q5c (g := (mkF m 15 #[rv a1, rv a2] [(.ref al), (.ref a1), (.ref b1)])) rfl (by rw [hml]; rfl) (Steps.refl _) (argsL := [(.ref al)]) (rest := [(.ref b1)]) (lenOf own_pd27 rfl) rfl (Nat.le_refl _) (hb hby d8_15) (fun _ _ => ⟨rfl, e4, (by decide : 2 + 8 ≤ _), (by decide : 20 + 48 ≤ _)⟩)
  dsimp only [Pt.U, Pt.locs, Pt.cells, Pt.slots] at X5 l5 y5 z5 st5 hQ5 hS5 hg5 hCr5
  subst l5 y5 z5
  have hS := hS.trans hS5 (Nat.le_trans zk3 (Nat.le_trans (Nat.le_of_eq (congrArg Array.size e4.symm)) hg5))
  have hZ : Z.Warmed39 (s.setVm T5.vm).vm := State.Warmed39.trans hZ hS5.1
  have hown : (s.setVm T5.vm).vm.findClass "com/example/sira/sira/engine/StreamState" = some m.cls := (hS5.1.alike.findClass _ _).trans hown
  obtain ⟨aq5, bq5, kq5, uq5_0, rfl, N5q, K5q, E5q, F5c, F5v, V5q, oa5, ob5, lw5_0, -⟩ := hQ5
  have N5 := Fr.app N3 N5q
  have c5_E_a1 := c3_E_a1.keep K5q
  have c5_F_a1_value := c3_F_a1_value.keep K5q (List.not_mem_nil)
  have c5_F_a1_coder := c3_F_a1_coder.keep K5q (List.not_mem_nil)
  have c5_V_sb1 := c3_V_sb1.keep K5q (List.not_mem_nil)
  have c5_E_a2 := c3_E_a2.keep K5q
  have c5_F_a2_value := c3_F_a2_value.keep K5q (List.not_mem_nil)
  have c5_F_a2_coder := c3_F_a2_coder.keep K5q (List.not_mem_nil)
  have c5_V_sb2 := c3_V_sb2.keep K5q (List.not_mem_nil)
  have c5_E_b1 := E3q.keep K5q
  have c5_F_b1_value := F3v.keep K5q (List.not_mem_nil)
  have c5_F_b1_coder := F3c.keep K5q (List.not_mem_nil)
  have c5_F_b1_count := F3n.keep K5q (List.not_mem_nil)
  have c5_V_bq2 := V3q.keep K5q (List.not_mem_nil)
  have O5 := O3.keep K5q all0
  have K5 := K3.trans K5q all0
  have Ch5 := Ch5p.trans hCr5
  have zs5 := (Nat.le_trans (Nat.le_trans zs2 K3q.1) K5q.1)
  refine og (B := T5.setTop (mkF m 18 #[rv a1, rv a2] [(.ref aq5), (.ref b1)])) (fun _ => st5.trans) ?_
  have Sf2 := CHr.safe hCr5 lt1 Sf1
  have Sf3 := Safe.exa (EL := consts_1) hZ.alike c5_E_b1 (by decide) (by decide)
  have ne_aq5_bq2 : aq5 ≠ bq2 := Exa.neArv E5q c5_V_bq2 (ow hw 1 rfl)
  have ne_bq5_bq2 : bq5 ≠ bq2 := fun q => ob5.elim (fun e => ne_sb1_bq2 (e.symm.trans q)) (fun e => absurd (Nat.le_trans e (Nat.le_of_eq q)) (Nat.not_le_of_lt lt1))
  have ne_aq5_b1 : aq5 ≠ b1 := fun q => oa5.elim (fun e => ne_a1_b1 (e.symm.trans q)) (fun e => absurd (Nat.le_trans e (Nat.le_of_eq q)) (Nat.not_le_of_lt lt2))
  have ne_b1_bq5 : b1 ≠ bq5 := Exa.neArv c5_E_b1 V5q (ow hw 42 rfl)
  obtain ⟨cq6, kq6, q6a, q6b, q6c⟩ := isOf hZ rfl c5_E_b1
  obtain ⟨_, _, ⟨T6, L6, k6, n6⟩, -, X6, ⟨Lc6, hQ6, l6, y6, z6⟩, st6⟩ := X5.virtualBack hx (y := own_y20) (z := own_y20) hown (mvT hZ (ow hw 59 rfl)) (mvT hZ (ow hw 60 rfl)) (notFace_of_selects (args := #[]) (mvT hZ (ow hw 62 rfl))) (mvT hZ (ow hw 62 rfl)) (mvT hZ (ow hw 61 rfl)) (by decide) (backOf (W := 0) (own_app l Z a0 hw b1 aq5 bq2 bq5 kq2 kq5 (2 : Int32) (1 : Int32) [(.int s0), (.int s1), (.int 0), (.int 0), (.int 0), (.int 0), (.int 0), (.int 0), (.int 0), (.int 0), (.int 0), (.int 0), (.int 0), (.int 0), (.int 0), (.int 0)] [(.int uq5_0)] [(.int s0), (.int s1), (.int uq5_0), (.int 0), (.int 0), (.int 0), (.int 0), (.int 0), (.int 0), (.int 0), (.int 0), (.int 0), (.int 0), (.int 0), (.int 0), (.int 0)] GC T5.heap n0 zs5 S_C hGC O5 c5_E_b1 g_b1 c5_F_b1_value c5_F_b1_coder c5_F_b1_count c5_V_bq2 g_bq2 E5q F5c F5v V5q ne_aq5_bq2 ne_bq5_bq2 ne_b1_bq2 (Ne.symm ne_aq5_b1) ne_b1_bq5 (by decide) (rm18_2_1 l Z a0 hw [] aq5 bq2 bq5 kq2 kq5 s0 s1 uq5_0 GC T5.heap n0 zs5 S_C hGC O5 c5_V_bq2 g_bq2 E5q F5c F5v V5q ne_aq5_bq2 ne_bq5_bq2)) hZ (ow hw 63 rfl) (ow hw 43 rfl) (by decide) (by decide)) q6a q6c (g := (mkF m 18 #[rv a1, rv a2] [(.ref aq5), (.ref b1)])) rfl (by rw [hml]; rfl) (Steps.refl _) (argsL := [(.ref aq5)]) (rest := []) (lenOf own_pd26 rfl) rfl (Nat.le_refl _) (hb hby d8_18) (fun _ _ => ⟨rfl, rfl, (by decide : 10 + 0 ≤ _), (by decide : 68 + 0 ≤ _)⟩)
  dsimp only [Pt.U, Pt.locs, Pt.cells, Pt.slots] at X6 l6 y6 z6 st6 hQ6
  subst l6 y6 z6
  obtain ⟨rfl, N6q, K6q, E6q, F6v, F6c, F6n, V6q⟩ := hQ6
  have N6 := Fr.app N5 N6q
  have c6_E_a1 := c5_E_a1.keep K6q
  have c6_F_a1_value := c5_F_a1_value.keep K6q (by simp only [List.mem_cons, List.not_mem_nil, or_false, not_or]; exact ⟨ne_a1_b1, ne_a1_bq2⟩)
  have c6_F_a1_coder := c5_F_a1_coder.keep K6q (by simp only [List.mem_cons, List.not_mem_nil, or_false, not_or]; exact ⟨ne_a1_b1, ne_a1_bq2⟩)
  have c6_V_sb1 := c5_V_sb1.keep K6q (by simp only [List.mem_cons, List.not_mem_nil, or_false, not_or]; exact ⟨ne_sb1_b1, ne_sb1_bq2⟩)
  have c6_E_a2 := c5_E_a2.keep K6q
  have c6_F_a2_value := c5_F_a2_value.keep K6q (by simp only [List.mem_cons, List.not_mem_nil, or_false, not_or]; exact ⟨ne_a2_b1, ne_a2_bq2⟩)
  have c6_F_a2_coder := c5_F_a2_coder.keep K6q (by simp only [List.mem_cons, List.not_mem_nil, or_false, not_or]; exact ⟨ne_a2_b1, ne_a2_bq2⟩)
  have c6_V_sb2 := c5_V_sb2.keep K6q (by simp only [List.mem_cons, List.not_mem_nil, or_false, not_or]; exact ⟨ne_sb2_b1, ne_sb2_bq2⟩)
  have c6_E_aq5 := E5q.keep K6q
  have c6_F_aq5_coder := F5c.keep K6q (by simp only [List.mem_cons, List.not_mem_nil, or_false, not_or]; exact ⟨ne_aq5_b1, ne_aq5_bq2⟩)
  have c6_F_aq5_value := F5v.keep K6q (by simp only [List.mem_cons, List.not_mem_nil, or_false, not_or]; exact ⟨ne_aq5_b1, ne_aq5_bq2⟩)
  have c6_V_bq5 := V5q.keep K6q (by simp only [List.mem_cons, List.not_mem_nil, or_false, not_or]; exact ⟨(Ne.symm ne_b1_bq5), ne_bq5_bq2⟩)
  have O6 := O5.keep K6q (allS g_b1 (allS g_bq2 all0))
  have K6 := K5.trans K6q (allS (Or.inr sz_b1) (allS (Or.inr sz_bq2) all0))
  have Ch6 := (Ch5).trans (CHr.keep K6q (allS Sf3 (allS Sf2 all0)) (Ch5).1)
  have zk6 := (Nat.le_trans (Nat.le_refl _) K6q.1)
  refine og (B := T6.setTop (mkF m 21 #[rv a1, rv a2] [(.ref b1)])) (fun _ => st6.trans) ?_
  obtain ⟨cq7, kq7, q7a, q7b, q7c⟩ := isOf hZ rfl E6q
  obtain ⟨_, _, ⟨T7, L7, k7, n7⟩, -, X7, ⟨Lc7, hQ7, l7, y7, z7⟩, st7⟩ := X6.virtualBack hx (y := own_y30) (z := own_y30) hown (mvT hZ (ow hw 122 rfl)) (mvT hZ (ow hw 123 rfl)) (notFace_of_selects (args := #[]) (mvT hZ (ow hw 125 rfl))) (mvT hZ (ow hw 125 rfl)) (mvT hZ (ow hw 124 rfl)) (by decide) (backOf (W := 0) (rm22 l Z a0 hw [] b1 bq2 kq2 (3 : Int32) [(.int s0), (.int s1), (.int uq5_0), (.int 0), (.int 0), (.int 0), (.int 0), (.int 0), (.int 0), (.int 0), (.int 0), (.int 0), (.int 0), (.int 0), (.int 0), (.int 0)] [(.int s0), (.int s1), (.int uq5_0)] GC T6.heap n0 (Nat.le_trans zs5 K6q.1) S_C hGC O6 E6q F6v F6c F6n V6q (fun h1 z1 v1 => rm29 l Z a0 hw [] bq2 kq2 (3 : Int32) [(.int s0), (.int s1), (.int uq5_0), (.int 0), (.int 0), (.int 0), (.int 0), (.int 0), (.int 0), (.int 0), (.int 0), (.int 0), (.int 0), (.int 0), (.int 0), (.int 0)] [(.int s0), (.int s1), (.int uq5_0)] h1 n0 z1 v1 (by decide) (rm30_3 l Z a0 hw [] bq2 kq2 s0 s1 uq5_0 h1 n0 z1 v1))) hZ (ow hw 126 rfl) (ow hw 43 rfl) (by decide) (by decide)) q7a q7c (g := (mkF m 21 #[rv a1, rv a2] [(.ref b1)])) rfl (by rw [hml]; rfl) (Steps.refl _) (argsL := []) (rest := []) (lenOf own_pd20 rfl) rfl (Nat.le_refl _) (hb hby d8_21) (fun _ _ => ⟨rfl, rfl, (by decide : 10 + 2 ≤ _), (by decide : 68 + 9 ≤ _)⟩)
  dsimp only [Pt.U, Pt.locs, Pt.cells, Pt.slots] at X7 l7 y7 z7 st7 hQ7
  subst l7 y7 z7
  obtain ⟨aq7, bq7, kq7, rfl, N7q, K7q, E7q, F7c, F7v, V7q⟩ := hQ7
  have N7 := Fr.app N6 N7q
  have c7_E_a1 := c6_E_a1.keep K7q
  have c7_F_a1_value := c6_F_a1_value.keep K7q (List.not_mem_nil)
  have c7_F_a1_coder := c6_F_a1_coder.keep K7q (List.not_mem_nil)
  have c7_V_sb1 := c6_V_sb1.keep K7q (List.not_mem_nil)
  have c7_E_a2 := c6_E_a2.keep K7q
  have c7_F_a2_value := c6_F_a2_value.keep K7q (List.not_mem_nil)
  have c7_F_a2_coder := c6_F_a2_coder.keep K7q (List.not_mem_nil)
  have c7_V_sb2 := c6_V_sb2.keep K7q (List.not_mem_nil)
  have c7_E_aq5 := c6_E_aq5.keep K7q
  have c7_F_aq5_coder := c6_F_aq5_coder.keep K7q (List.not_mem_nil)
  have c7_F_aq5_value := c6_F_aq5_value.keep K7q (List.not_mem_nil)
  have c7_V_bq5 := c6_V_bq5.keep K7q (List.not_mem_nil)
  have c7_E_b1 := E6q.keep K7q
  have c7_F_b1_value := F6v.keep K7q (List.not_mem_nil)
  have c7_F_b1_coder := F6c.keep K7q (List.not_mem_nil)
  have c7_F_b1_count := F6n.keep K7q (List.not_mem_nil)
  have c7_V_bq2 := V6q.keep K7q (List.not_mem_nil)
  have O7 := O6.keep K7q all0
  have K7 := K6.trans K7q all0
  have Ch7 := (Ch6).trans (CHr.keep K7q all0 (Ch6).1)
  have zs7 := (Nat.le_trans (Nat.le_trans zs5 K6q.1) K7q.1)
  refine og (B := T7.setTop (mkF m 24 #[rv a1, rv a2] [(.ref aq7)])) (fun _ => st7.trans) ?_
  obtain ⟨fs, hr, hrun, hended, hRW⟩ := X7.leaveW hS ((Nat.le_trans zk6 K7q.1)) (v := some (.ref aq7)) (fun h => by rw [Bd.returns] at h; cases h)
  refine ⟨_, _, ?_, hrun, hended, _, _, rfl, ?_, (by have q := (Ch7).trans (CHv.at X7 hZ (own_hEL hw) (Ch7).1); rw [← hh] at q; exact q), hRW.1, hRW.2.1, hRW.2.2.1, hRW.2.2.2.mono (by decide) (by decide)⟩
  · show own_S p e below T7 (mkF m 24 #[rv a1, rv a2] [(.ref aq7)]) _
    jvm_step X7.here [X7.here.top, hx, (hb hby d8_24), X7.method', Bd.returns, Value.isRef, FieldType.isReference]
    first | (intro acts; rw [hr _ acts rfl rfl rfl]) | rw [hr _ _ rfl rfl rfl]
    exact Steps.refl _
  · show Q8_1 Z a1 a2 sb1 sb2 kb kb2 x0 s0 s1 GC ci al ab ag agv h0 n0 _ T7.heap _
    exact ⟨aq7, bq7, kq7, uq5_0, rfl, N7, K7, E7q, F7c, F7v, V7q, lw5_0, trivial⟩
def Q19_2 (Z : State) (a1 : Addr) (sb1 : Addr) (kb : ClassId) (x0 : Int32) (x1 : Int32) (GC : Int32) (ci : Addr) (al : Addr) (ab : Addr) (ag : Addr) (agv : Addr) (h0 : Heap) (n0 : Nat) (v : Option Value) (h : Heap) (L : List Loc) : Prop := own_QL2 Z a1 sb1 x0 x1 h0 n0 v h L
set_option maxRecDepth 65536 in
set_option maxHeartbeats 40000000 in
theorem rm19_2 (l : Launch) (Z : State) (a0 : Array Value) (hw : ∀ d ∈ tables_1, d.before a0 Z = true) (ws : List Jvm.Cond) (a1 : Addr) (sb1 : Addr) (kb : ClassId) (x0 : Int32) (x1 : Int32) (GC : Int32) (ci : Addr) (al : Addr) (ab : Addr) (ag : Addr) (agv : Addr) (h0 : Heap) (n0 : Nat) (Z0 : n0 ≤ h0.size) (S_C : Sta Z Z.heap "java/lang/String" "COMPACT_STRINGS" "Z" (.int GC)) (hGC : ¬ GC = (0 : Int32)) (O0 : Old Z n0 h0) (S_I : Sta Z Z.heap "java/lang/CharacterDataLatin1" "instance" "Ljava/lang/CharacterDataLatin1;" (.ref ci)) (E_ci : Exa Z Z.heap ci "java/lang/CharacterDataLatin1") (S_R : Sta Z Z.heap "java/util/Locale" "ROOT" "Ljava/util/Locale;" (.ref al)) (E_al : Exa Z Z.heap al "java/util/Locale") (F_ab : Fld Z Z.heap al "java/util/Locale" "baseLocale" "Lsun/util/locale/BaseLocale;" (.ref ab)) (E_ab : Exa Z Z.heap ab "sun/util/locale/BaseLocale") (F_ag : Fld Z Z.heap ab "sun/util/locale/BaseLocale" "language" "Ljava/lang/String;" (.ref ag)) (F_gv : Fld Z Z.heap ag "java/lang/String" "value" "[B" (.ref agv)) (V_gv : own_E0 Z Z.heap agv) (E_a1 : Exa Z h0 a1 "java/lang/String") (F_c : Fld Z h0 a1 "java/lang/String" "coder" "B" (.int 0)) (F_v : Fld Z h0 a1 "java/lang/String" "value" "[B" (.ref sb1)) (V_b : Arv Z h0 sb1 kb .byte (2 : Int32) [(.int x0), (.int x1)] (.int 0)) :
    MetFree l own_y37 (head1 (Jvm.Cond.code own_y37 jdk_42_method_109_code 2 (some (.object "java/lang/String")) :: ws) ({ frames := 3, cells := 8, slots := 48, locals := 47 } : Room)) (fun a U => a = #[(.ref a1), (.ref al)] ∧ Z.Warmed39 U.vm ∧ U.heap = h0 ∧ CHv Z consts_1 U.vm h0) (fun _ _ _ _ _ => True) (fun _ U o U' => ∃ v L, o = .returned v ∧ Q19_2 Z a1 sb1 kb x0 x1 GC ci al ab ag agv h0 n0 v U'.heap L ∧ CHr Z consts_1 U.vm U.heap U'.vm U'.heap ∧ ReturnedEndW U o U' L ({ frames := 3, cells := 8, slots := 48, locals := 47 } : Room).cells ({ frames := 3, cells := 8, slots := 48, locals := 47 } : Room).slots) := by
  refine MetFree.of_bodySF (plainFor_of_name pn_19) hisR ?_
  intro p e s m args below meth c s₁ Bd hml0 hP hK
  obtain ⟨rfl, hZ, hh, hCH⟩ := hP
  have hx := Bd.exec
  have hby := Bd.bytes
  have hml : c.maxLocals = 2 := hml0
  have hown : s.vm.findClass "java/lang/String" = some m.cls := findClass_of_methodNamed Bd.named
  have hnm := (name_of_methodNamed Bd.named Bd.method).1
  have X0 : Stand p l e ({ frames := 3, cells := 8, slots := 48, locals := 47 } : Room) s m #[(.ref a1), (.ref al)] below meth c s₁ [] 0 0 := Stand.of_body Bd
  have e0 : s₁.heap = h0 := by rw [← hh, Bd.state]; rfl
  have N0 := Fr.nil n0
  have X0 : Stand p l e ({ frames := 3, cells := 8, slots := 48, locals := 47 } : Room) (s.setVm s.vm) m #[(.ref a1), (.ref al)] below meth c s₁ [] 0 0 := X0
  have hZ : Z.Warmed39 (s.setVm s.vm).vm := hZ
  have hown : (s.setVm s.vm).vm.findClass "java/lang/String" = some m.cls := hown
  have hS : s.Since s.vm 0 := (State.WarmedH.refl s).since 0
  refine og (B := s₁.setTop (mkF m 0 #[rv a1, rv al] [])) (fun t k => castTop (ef_19 m a1 al) k) ?_
  refine og (B := s₁.setTop (mkF m 1 #[rv a1, rv al] [(.ref a1)])) (fun t k => ?_) ?_
  · refine XS.aloadN X0.here hx rfl (hb hby d19_0) rfl rfl ?_
    exact k
  obtain ⟨cq1, kq1, q1a, q1b, q1c⟩ := isOf hZ e0 E_a1
  obtain ⟨_, _, ⟨T1, L1, k1, n1⟩, -, X1, ⟨Lc1, hQ1, l1, y1, z1⟩, st1⟩ := X0.virtualBack hx (y := own_y0) (z := own_y0) hown (mvT hZ (ow hw 113 rfl)) (mvT hZ (ow hw 114 rfl)) (notFace_of_selects (args := #[]) (mvT hZ (ow hw 116 rfl))) (mvT hZ (ow hw 116 rfl)) (mvT hZ (ow hw 115 rfl)) (by decide) (backOf (W := 0) (rm20 l Z a0 hw [] a1 GC h0 n0 Z0 S_C hGC O0 F_c) hZ (ow hw 117 rfl) (ow hw 2 rfl) (by decide) (by decide)) q1a q1c (g := (mkF m 1 #[rv a1, rv al] [(.ref a1)])) rfl (by rw [hml]; rfl) (Steps.refl _) (argsL := []) (rest := []) (lenOf own_pd3 rfl) rfl (Nat.le_refl _) (hb hby d19_1) (fun _ _ => ⟨rfl, e0, (by decide : 0 + 0 ≤ _), (by decide : 0 + 0 ≤ _)⟩)
  dsimp only [Pt.U, Pt.locs, Pt.cells, Pt.slots] at X1 l1 y1 z1 st1 hQ1
  subst l1 y1 z1
  obtain ⟨rfl, N1q, eq1⟩ := hQ1
  have N1 := Fr.app N0 N1q
  refine og (B := T1.setTop (mkF m 4 #[rv a1, rv al] [(.int 1)])) (fun _ => st1.trans) ?_
  refine og (B := T1.setTop (mkF m 9 #[rv a1, rv al] [(.ref a1), (.ref a1)])) (fun t k => ?_) ?_
  · refine XS.ifNo X1.here hx rfl (hb hby d19_4) rfl ((if0 _ _).trans (feq (by decide)).1) ?_
    refine XS.aloadN X1.here hx rfl (hb hby d19_7) rfl rfl ?_
    refine XS.aloadN X1.here hx rfl (hb hby d19_8) rfl rfl ?_
    exact k
  obtain ⟨T2, X2, e2, st2⟩ := getF X1 hx hZ hown (host := "") (Or.inl (ow hw 28 rfl)) Via.refl eq1 F_v (g := (mkF m 9 #[rv a1, rv al] [(.ref a1), (.ref a1)])) rfl rfl (hb hby d19_9)
  refine og (B := T2.setTop (mkF m 12 #[rv a1, rv al] [(.ref sb1), (.ref a1)])) st2 ?_
  refine og (B := T2.setTop (mkF m 13 #[rv a1, rv al] [(.ref al), (.ref sb1), (.ref a1)])) (fun t k => ?_) ?_
  · refine XS.aloadN X2.here hx rfl (hb hby d19_12) rfl rfl ?_
    exact k
  have Ch3p := CHr.refl hCH
  obtain ⟨_, _, ⟨T3, L3, k3, n3⟩, -, X3, hS3, hg3, ⟨Lc3, hQ3, l3, y3, z3, hCr3⟩, st3⟩ := callSS X2 hx (y := own_y36) hown (mvT hZ (ow hw 118 rfl)) (mvT hZ (ow hw 119 rfl)) (mvT hZ (ow hw 120 rfl)) (mvT hZ (ow hw 121 rfl)) (by decide) (backOfSH (W := 0) (rm21_2 l Z a0 hw [] a1 sb1 kb x0 x1 GC ci al ab ag agv h0 n0 Z0 S_C hGC O0 S_I E_ci S_R E_al F_ab E_ab F_ag F_gv V_gv E_a1 F_c F_v V_b) hZ (ow hw 121 rfl) (ow hw 120 rfl) (by decide) (by decide) (own_hEL hw) Ch3p.1) (g := (mkF m 13 #[rv a1, rv al] [(.ref al), (.ref sb1), (.ref a1)])) rfl (by rw [hml]; rfl) (argsL := [(.ref a1), (.ref sb1), (.ref al)]) (rest := []) (lenOf own_pd24 rfl) rfl (Nat.le_refl _) (hb hby d19_13) (fun _ _ => ⟨rfl, e2, (by decide : 0 + 8 ≤ _), (by decide : 0 + 48 ≤ _)⟩)
  dsimp only [Pt.U, Pt.locs, Pt.cells, Pt.slots] at X3 l3 y3 z3 st3 hQ3 hS3 hg3 hCr3
  subst l3 y3 z3
  have hS := hS.trans hS3 (Nat.le_trans (Nat.zero_le _) (Nat.le_trans (Nat.le_of_eq (congrArg Array.size e2.symm)) hg3))
  have hZ : Z.Warmed39 (s.setVm T3.vm).vm := State.Warmed39.trans hZ hS3.1
  have hown : (s.setVm T3.vm).vm.findClass "java/lang/String" = some m.cls := (hS3.1.alike.findClass _ _).trans hown
  obtain ⟨aq3, bq3, kq3, uq3_0, uq3_1, rfl, N3q, K3q, E3q, F3c, F3v, V3q, oa3, ob3, lw3_0, lw3_1, -⟩ := hQ3
  have N3 := Fr.app N1 N3q
  have c3_E_a1 := E_a1.keep K3q
  have c3_F_a1_value := F_v.keep K3q (List.not_mem_nil)
  have c3_F_a1_coder := F_c.keep K3q (List.not_mem_nil)
  have c3_V_sb1 := V_b.keep K3q (List.not_mem_nil)
  have O3 := O0.keep K3q all0
  have K3 := (Keep.refl h0 []).trans K3q all0
  have Ch3 := Ch3p.trans hCr3
  refine og (B := T3.setTop (mkF m 16 #[rv a1, rv al] [(.ref aq3)])) (fun _ => st3.trans) ?_
  obtain ⟨fs, hr, hrun, hended, hRW⟩ := X3.leaveW hS ((Nat.le_refl _)) (v := some (.ref aq3)) (fun h => by rw [Bd.returns] at h; cases h)
  refine ⟨_, _, ?_, hrun, hended, _, _, rfl, ?_, (by have q := (Ch3).trans (CHv.at X3 hZ (own_hEL hw) (Ch3).1); rw [← hh] at q; exact q), hRW.1, hRW.2.1, hRW.2.2.1, hRW.2.2.2.mono (by decide) (by decide)⟩
  · refine XS.goto X3.here hx rfl (pc0 := 16) (pc' := 28) rfl (hb hby d19_16) (by decide) (by decide) ?_
    show own_S p e below T3 (mkF m 28 #[rv a1, rv al] [(.ref aq3)]) _
    jvm_step X3.here [X3.here.top, hx, (hb hby d19_28), X3.method', Bd.returns, Value.isRef, FieldType.isReference]
    first | (intro acts; rw [hr _ acts rfl rfl rfl]) | rw [hr _ _ rfl rfl rfl]
    exact Steps.refl _
  · show Q19_2 Z a1 sb1 kb x0 x1 GC ci al ab ag agv h0 n0 _ T3.heap _
    exact ⟨aq3, bq3, kq3, uq3_0, uq3_1, rfl, N3, K3, E3q, F3c, F3v, V3q, oa3, ob3, lw3_0, lw3_1, trivial⟩
def own_QK2 (Z : State) (x0 : Int32) (x1 : Int32) (s0 s1 : Int32) (h0 : Heap) (n0 : Nat) (v : Option Value) (h : Heap) (L : List Loc) : Prop := ∃ (a b : Addr) (kq : ClassId) (u0 : Int32) (u1 : Int32), v = some (.ref a) ∧ Fr n0 L ∧ Keep h0 h [] ∧ Exa Z h a "java/lang/String" ∧ Fld Z h a "java/lang/String" "coder" "B" (.int 0) ∧ Fld Z h a "java/lang/String" "value" "[B" (.ref b) ∧ Arv Z h b kq .byte (4 : Int32) [(.int s0), (.int s1), (.int u0), (.int u1)] (.int 0)  ∧ ((u0 &&& (255 : Int32)) = own_low (x0 &&& (255 : Int32)) ∧ (u1 &&& (255 : Int32)) = own_low (x1 &&& (255 : Int32)) ∧ True)
def Q8_2 (Z : State) (a1 : Addr) (a2 : Addr) (sb1 : Addr) (sb2 : Addr) (kb : ClassId) (kb2 : ClassId) (x0 : Int32) (x1 : Int32) (s0 : Int32) (s1 : Int32) (GC : Int32) (ci : Addr) (al : Addr) (ab : Addr) (ag : Addr) (agv : Addr) (h0 : Heap) (n0 : Nat) (v : Option Value) (h : Heap) (L : List Loc) : Prop := own_QK2 Z x0 x1 s0 s1 h0 n0 v h L
set_option maxRecDepth 65536 in
set_option maxHeartbeats 40000000 in
theorem rm8_2 (l : Launch) (Z : State) (a0 : Array Value) (hw : ∀ d ∈ tables_1, d.before a0 Z = true) (ws : List Jvm.Cond) (a1 : Addr) (a2 : Addr) (sb1 : Addr) (sb2 : Addr) (kb : ClassId) (kb2 : ClassId) (x0 : Int32) (x1 : Int32) (s0 : Int32) (s1 : Int32) (GC : Int32) (ci : Addr) (al : Addr) (ab : Addr) (ag : Addr) (agv : Addr) (h0 : Heap) (n0 : Nat) (Z0 : n0 ≤ h0.size) (S_C : Sta Z Z.heap "java/lang/String" "COMPACT_STRINGS" "Z" (.int GC)) (hGC : ¬ GC = (0 : Int32)) (O0 : Old Z n0 h0) (S_I : Sta Z Z.heap "java/lang/CharacterDataLatin1" "instance" "Ljava/lang/CharacterDataLatin1;" (.ref ci)) (E_ci : Exa Z Z.heap ci "java/lang/CharacterDataLatin1") (S_R : Sta Z Z.heap "java/util/Locale" "ROOT" "Ljava/util/Locale;" (.ref al)) (E_al : Exa Z Z.heap al "java/util/Locale") (F_ab : Fld Z Z.heap al "java/util/Locale" "baseLocale" "Lsun/util/locale/BaseLocale;" (.ref ab)) (E_ab : Exa Z Z.heap ab "sun/util/locale/BaseLocale") (F_ag : Fld Z Z.heap ab "sun/util/locale/BaseLocale" "language" "Ljava/lang/String;" (.ref ag)) (F_gv : Fld Z Z.heap ag "java/lang/String" "value" "[B" (.ref agv)) (V_gv : own_E0 Z Z.heap agv) (E_a1 : Exa Z h0 a1 "java/lang/String") (F_c : Fld Z h0 a1 "java/lang/String" "coder" "B" (.int 0)) (F_v : Fld Z h0 a1 "java/lang/String" "value" "[B" (.ref sb1)) (V_b : Arv Z h0 sb1 kb .byte (2 : Int32) [(.int x0), (.int x1)] (.int 0)) (E_a2 : Exa Z h0 a2 "java/lang/String") (F_c2 : Fld Z h0 a2 "java/lang/String" "coder" "B" (.int 0)) (F_v2 : Fld Z h0 a2 "java/lang/String" "value" "[B" (.ref sb2)) (V_2 : Arv Z h0 sb2 kb2 .byte (2 : Int32) [(.int s0), (.int s1)] (.int 0)) :
    MetFree l own_y38 (head1 (Jvm.Cond.code own_y38 prog_31_method_2_code 2 (some (.object "java/lang/String")) :: ws) ({ frames := 6, cells := 12, slots := 80, locals := 91 } : Room)) (fun a U => a = #[(.ref a1), (.ref a2)] ∧ Z.Warmed39 U.vm ∧ U.heap = h0 ∧ CHv Z consts_1 U.vm h0) (fun _ _ _ _ _ => True) (fun _ U o U' => ∃ v L, o = .returned v ∧ Q8_2 Z a1 a2 sb1 sb2 kb kb2 x0 x1 s0 s1 GC ci al ab ag agv h0 n0 v U'.heap L ∧ CHr Z consts_1 U.vm U.heap U'.vm U'.heap ∧ ReturnedEndW U o U' L ({ frames := 6, cells := 12, slots := 80, locals := 91 } : Room).cells ({ frames := 6, cells := 12, slots := 80, locals := 91 } : Room).slots) := by
  refine MetFree.of_bodySF (plainFor_of_name pn_8) hisR ?_
  intro p e s m args below meth c s₁ Bd hml0 hP hK
  obtain ⟨rfl, hZ, hh, hCH⟩ := hP
  have hx := Bd.exec
  have hby := Bd.bytes
  have hml : c.maxLocals = 2 := hml0
  have hown : s.vm.findClass "com/example/sira/sira/engine/StreamState" = some m.cls := findClass_of_methodNamed Bd.named
  have hnm := (name_of_methodNamed Bd.named Bd.method).1
  have X0 : Stand p l e ({ frames := 6, cells := 12, slots := 80, locals := 91 } : Room) s m #[(.ref a1), (.ref a2)] below meth c s₁ [] 0 0 := Stand.of_body Bd
  have e0 : s₁.heap = h0 := by rw [← hh, Bd.state]; rfl
  have N0 := Fr.nil n0
  have X0 : Stand p l e ({ frames := 6, cells := 12, slots := 80, locals := 91 } : Room) (s.setVm s.vm) m #[(.ref a1), (.ref a2)] below meth c s₁ [] 0 0 := X0
  have hZ : Z.Warmed39 (s.setVm s.vm).vm := hZ
  have hown : (s.setVm s.vm).vm.findClass "com/example/sira/sira/engine/StreamState" = some m.cls := hown
  have hS : s.Since s.vm 0 := (State.WarmedH.refl s).since 0
  refine og (B := s₁.setTop (mkF m 0 #[rv a1, rv a2] [])) (fun t k => castTop (ef_8 m a1 a2) k) ?_
  obtain ⟨T1, h1, X1, e1, E1, A1, D1, -, st1⟩ := newO X0 hx hZ hown (ow hw 41 rfl) (ow hw 42 rfl) (ow hw 43 rfl) e0 (g := (mkF m 0 #[rv a1, rv a2] [])) rfl (hb hby d8_0) (by decide) (by decide)
  obtain ⟨b1, g1⟩ : ∃ z, z = h0.size := ⟨_, rfl⟩
  rw [← g1] at A1 D1 st1
  have g_b1 : n0 ≤ b1 := Nat.le_trans Z0 (Nat.le_of_eq g1.symm)
  have sz_b1 : h0.size ≤ b1 := Nat.le_trans (Keep.refl h0 []).1 (Nat.le_of_eq g1.symm)
  have ne_a1_b1 : a1 ≠ b1 := Nat.ne_of_lt (Nat.lt_of_lt_of_le E_a1.lt (Nat.le_of_eq g1.symm))
  have ne_sb1_b1 : sb1 ≠ b1 := Nat.ne_of_lt (Nat.lt_of_lt_of_le V_b.lt (Nat.le_of_eq g1.symm))
  have ne_a2_b1 : a2 ≠ b1 := Nat.ne_of_lt (Nat.lt_of_lt_of_le E_a2.lt (Nat.le_of_eq g1.symm))
  have ne_sb2_b1 : sb2 ≠ b1 := Nat.ne_of_lt (Nat.lt_of_lt_of_le V_2.lt (Nat.le_of_eq g1.symm))
  have c1_E_a1 := E_a1.ext E1
  have c1_F_a1_value := F_v.ext E1
  have c1_F_a1_coder := F_c.ext E1
  have c1_V_sb1 := V_b.ext E1
  have c1_E_a2 := E_a2.ext E1
  have c1_F_a2_value := F_v2.ext E1
  have c1_F_a2_coder := F_c2.ext E1
  have c1_V_sb2 := V_2.ext E1
  have K1 := (Keep.refl h0 []).ext E1
  have O1 := O0.ext E1
  have F1_value : Fld Z h1 b1 "java/lang/AbstractStringBuilder" "value" "[B" .null := D1 (Or.inl (ow hw 56 rfl)) (ty := (.array .byte)) (by decide)
  have F1_coder : Fld Z h1 b1 "java/lang/AbstractStringBuilder" "coder" "B" (.int 0) := D1 (Or.inl (ow hw 58 rfl)) (ty := .byte) (by decide)
  have F1_count : Fld Z h1 b1 "java/lang/AbstractStringBuilder" "count" "I" (.int 0) := D1 (Or.inl (ow hw 80 rfl)) (ty := .int) (by decide)
  have zk1 := (Nat.le_trans (Nat.zero_le _) E1.1)
  refine og (B := T1.setTop (mkF m 3 #[rv a1, rv a2] [(.ref b1)])) st1 ?_
  refine og (B := T1.setTop (mkF m 4 #[rv a1, rv a2] [(.ref b1), (.ref b1)])) (fun t k => ?_) ?_
  · refine XS.dup X1.here hx rfl (hb hby d8_3) rfl rfl ?_
    exact k
  obtain ⟨_, _, ⟨T2, L2, k2, n2⟩, -, X2, ⟨Lc2, hQ2, l2, y2, z2⟩, st2⟩ := X1.specialBack hx (y := own_y14) rfl hown (mvT hZ (ow hw 44 rfl)) (mvT hZ (ow hw 45 rfl)) (mvT hZ (ow hw 46 rfl)) (by decide) (backOf (W := 1) (rm9 l Z a0 hw [] b1 GC h1 n0 (Nat.le_trans Z0 E1.1) S_C hGC O1 A1 g_b1 F1_value F1_coder F1_count) hZ (ow hw 46 rfl) (ow hw 43 rfl) (by decide) (by decide)) (g := (mkF m 4 #[rv a1, rv a2] [(.ref b1), (.ref b1)])) rfl (by rw [hml]; rfl) (Steps.refl _) (a := b1) (argsL := []) (rest := [(.ref b1)]) (lenOf own_pd25 rfl) rfl (Nat.le_refl _) (hb hby d8_4) (fun _ _ => ⟨rfl, e1, (by decide : 1 + 1 ≤ _), (by decide : 4 + 16 ≤ _)⟩)
  dsimp only [Pt.U, Pt.locs, Pt.cells, Pt.slots] at X2 l2 y2 z2 st2 hQ2
  subst l2 y2 z2
  obtain ⟨rfl, N2q, bq2, kq2, K2q, q2z, q2g, E2q, F2v, F2c, F2n, V2q⟩ := hQ2
  have N2 := Fr.app N0 N2q
  have sz_bq2 : h0.size ≤ bq2 := Nat.le_trans (K1).1 q2z
  have g_bq2 : n0 ≤ bq2 := q2g
  have ne_a1_bq2 : a1 ≠ bq2 := Nat.ne_of_lt (Nat.lt_of_lt_of_le c1_E_a1.lt q2z)
  have ne_sb1_bq2 : sb1 ≠ bq2 := Nat.ne_of_lt (Nat.lt_of_lt_of_le c1_V_sb1.lt q2z)
  have ne_a2_bq2 : a2 ≠ bq2 := Nat.ne_of_lt (Nat.lt_of_lt_of_le c1_E_a2.lt q2z)
  have ne_sb2_bq2 : sb2 ≠ bq2 := Nat.ne_of_lt (Nat.lt_of_lt_of_le c1_V_sb2.lt q2z)
  have ne_b1_bq2 : b1 ≠ bq2 := Nat.ne_of_lt (Nat.lt_of_lt_of_le A1.lt q2z)
  have c2_E_a1 := c1_E_a1.keep K2q
  have c2_F_a1_value := c1_F_a1_value.keep K2q (fun q => ne_a1_b1 (List.mem_singleton.mp q))
  have c2_F_a1_coder := c1_F_a1_coder.keep K2q (fun q => ne_a1_b1 (List.mem_singleton.mp q))
  have c2_V_sb1 := c1_V_sb1.keep K2q (fun q => ne_sb1_b1 (List.mem_singleton.mp q))
  have c2_E_a2 := c1_E_a2.keep K2q
  have c2_F_a2_value := c1_F_a2_value.keep K2q (fun q => ne_a2_b1 (List.mem_singleton.mp q))
  have c2_F_a2_coder := c1_F_a2_coder.keep K2q (fun q => ne_a2_b1 (List.mem_singleton.mp q))
  have c2_V_sb2 := c1_V_sb2.keep K2q (fun q => ne_sb2_b1 (List.mem_singleton.mp q))
  have O2 := O1.keep K2q (allS g_b1 all0)
  have K2 := K1.trans K2q (allS (Or.inr sz_b1) all0)
  have zs2 := (Nat.le_trans (Nat.le_trans Z0 E1.1) K2q.1)
  refine og (B := T2.setTop (mkF m 7 #[rv a1, rv a2] [(.ref b1)])) (fun _ => st2.trans) ?_
  refine og (B := T2.setTop (mkF m 8 #[rv a1, rv a2] [(.ref a2), (.ref b1)])) (fun t k => ?_) ?_
  · refine XS.aloadN X2.here hx rfl (hb hby d8_7) rfl rfl ?_
    exact k
  obtain ⟨cq3, kq3, q3a, q3b, q3c⟩ := isOf hZ rfl E2q
  obtain ⟨_, _, ⟨T3, L3, k3, n3⟩, -, X3, ⟨Lc3, hQ3, l3, y3, z3⟩, st3⟩ := X2.virtualBack hx (y := own_y20) (z := own_y20) hown (mvT hZ (ow hw 59 rfl)) (mvT hZ (ow hw 60 rfl)) (notFace_of_selects (args := #[]) (mvT hZ (ow hw 62 rfl))) (mvT hZ (ow hw 62 rfl)) (mvT hZ (ow hw 61 rfl)) (by decide) (backOf (W := 0) (own_app l Z a0 hw b1 a2 bq2 sb2 kq2 kb2 (0 : Int32) (2 : Int32) [(.int 0), (.int 0), (.int 0), (.int 0), (.int 0), (.int 0), (.int 0), (.int 0), (.int 0), (.int 0), (.int 0), (.int 0), (.int 0), (.int 0), (.int 0), (.int 0)] [(.int s0), (.int s1)] [(.int s0), (.int s1), (.int 0), (.int 0), (.int 0), (.int 0), (.int 0), (.int 0), (.int 0), (.int 0), (.int 0), (.int 0), (.int 0), (.int 0), (.int 0), (.int 0)] GC T2.heap n0 zs2 S_C hGC O2 E2q g_b1 F2v F2c F2n V2q g_bq2 c2_E_a2 c2_F_a2_coder c2_F_a2_value c2_V_sb2 ne_a2_bq2 ne_sb2_bq2 ne_b1_bq2 (Ne.symm ne_a2_b1) (Ne.symm ne_sb2_b1) (by decide) (rm18_0_2 l Z a0 hw [] a2 bq2 sb2 kq2 kb2 s0 s1 GC T2.heap n0 zs2 S_C hGC O2 V2q g_bq2 c2_E_a2 c2_F_a2_coder c2_F_a2_value c2_V_sb2 ne_a2_bq2 ne_sb2_bq2)) hZ (ow hw 63 rfl) (ow hw 43 rfl) (by decide) (by decide)) q3a q3c (g := (mkF m 8 #[rv a1, rv a2] [(.ref a2), (.ref b1)])) rfl (by rw [hml]; rfl) (Steps.refl _) (argsL := [(.ref a2)]) (rest := []) (lenOf own_pd26 rfl) rfl (Nat.le_refl _) (hb hby d8_8) (fun _ _ => ⟨rfl, rfl, (by decide : 2 + 0 ≤ _), (by decide : 20 + 0 ≤ _)⟩)
  dsimp only [Pt.U, Pt.locs, Pt.cells, Pt.slots] at X3 l3 y3 z3 st3 hQ3
  subst l3 y3 z3
  obtain ⟨rfl, N3q, K3q, E3q, F3v, F3c, F3n, V3q⟩ := hQ3
  have N3 := Fr.app N2 N3q
  have c3_E_a1 := c2_E_a1.keep K3q
  have c3_F_a1_value := c2_F_a1_value.keep K3q (by simp only [List.mem_cons, List.not_mem_nil, or_false, not_or]; exact ⟨ne_a1_b1, ne_a1_bq2⟩)
  have c3_F_a1_coder := c2_F_a1_coder.keep K3q (by simp only [List.mem_cons, List.not_mem_nil, or_false, not_or]; exact ⟨ne_a1_b1, ne_a1_bq2⟩)
  have c3_V_sb1 := c2_V_sb1.keep K3q (by simp only [List.mem_cons, List.not_mem_nil, or_false, not_or]; exact ⟨ne_sb1_b1, ne_sb1_bq2⟩)
  have c3_E_a2 := c2_E_a2.keep K3q
  have c3_F_a2_value := c2_F_a2_value.keep K3q (by simp only [List.mem_cons, List.not_mem_nil, or_false, not_or]; exact ⟨ne_a2_b1, ne_a2_bq2⟩)
  have c3_F_a2_coder := c2_F_a2_coder.keep K3q (by simp only [List.mem_cons, List.not_mem_nil, or_false, not_or]; exact ⟨ne_a2_b1, ne_a2_bq2⟩)
  have c3_V_sb2 := c2_V_sb2.keep K3q (by simp only [List.mem_cons, List.not_mem_nil, or_false, not_or]; exact ⟨ne_sb2_b1, ne_sb2_bq2⟩)
  have O3 := O2.keep K3q (allS g_b1 (allS g_bq2 all0))
  have K3 := K2.trans K3q (allS (Or.inr sz_b1) (allS (Or.inr sz_bq2) all0))
  have zk3 := (Nat.le_trans (Nat.le_trans zk1 K2q.1) K3q.1)
  refine og (B := T3.setTop (mkF m 11 #[rv a1, rv a2] [(.ref b1)])) (fun _ => st3.trans) ?_
  refine og (B := T3.setTop (mkF m 12 #[rv a1, rv a2] [(.ref a1), (.ref b1)])) (fun t k => ?_) ?_
  · refine XS.aloadN X3.here hx rfl (hb hby d8_11) rfl rfl ?_
    exact k
  obtain ⟨T4, X4, e4, st4⟩ := getS2 X3 hx hZ hown (host := "") (Or.inl (ow hw 106 rfl)) Via.refl rfl (S_R.ext O3.2) (g := (mkF m 12 #[rv a1, rv a2] [(.ref a1), (.ref b1)])) rfl (hb hby d8_12)
  refine og (B := T4.setTop (mkF m 15 #[rv a1, rv a2] [(.ref al), (.ref a1), (.ref b1)])) st4 ?_
  have Sf1 := Safe.ext (own_ext K3) hCH (Safe.new (EL := consts_1) (Z := Z) sz_bq2)
  have lt1 := V3q.lt
  have lt2 := E3q.lt
  have Ch5p := CHr.ext (own_ext K3) hCH
  obtain ⟨cq5, kq5, q5a, q5b, q5c⟩ := isOf hZ e4 c3_E_a1
  obtain ⟨_, _, ⟨T5, L5, k5, n5⟩, -, X5, hS5, hg5, ⟨Lc5, hQ5, l5, y5, z5, hCr5⟩, st5⟩ := X4.virtualBackS hx (y := own_y37) (z := own_y37) hown (mvT hZ (ow hw 108 rfl)) (mvT hZ (ow hw 109 rfl)) (notFace_of_selects (args := #[]) (mvT hZ (ow hw 111 rfl))) (mvT hZ (ow hw 111 rfl)) (mvT hZ (ow hw 110 rfl)) (by decide) (backOfSH (W := 1) (rm19_2 l Z a0 hw [] a1 sb1 kb x0 x1 GC ci al ab ag agv T3.heap n0 (Nat.le_trans zs2 K3q.1) S_C hGC O3 S_I E_ci S_R E_al F_ab E_ab F_ag F_gv V_gv c3_E_a1 c3_F_a1_coder c3_F_a1_value c3_V_sb1) hZ (ow hw 112 rfl) (ow hw 2 rfl) (by decide) (by decide) (own_hEL hw) Ch5p.1) q5a q5c (g := (mkF m 15 #[rv a1, rv a2] [(.ref al), (.ref a1), (.ref b1)])) rfl (by rw [hml]; rfl) (Steps.refl _) (argsL := [(.ref al)]) (rest := [(.ref b1)]) (lenOf own_pd27 rfl) rfl (Nat.le_refl _) (hb hby d8_15) (fun _ _ => ⟨rfl, e4, (by decide : 2 + 8 ≤ _), (by decide : 20 + 48 ≤ _)⟩)
  dsimp only [Pt.U, Pt.locs, Pt.cells, Pt.slots] at X5 l5 y5 z5 st5 hQ5 hS5 hg5 hCr5
  subst l5 y5 z5
  have hS := hS.trans hS5 (Nat.le_trans zk3 (Nat.le_trans (Nat.le_of_eq (congrArg Array.size e4.symm)) hg5))
  have hZ : Z.Warmed39 (s.setVm T5.vm).vm := State.Warmed39.trans hZ hS5.1
  have hown : (s.setVm T5.vm).vm.findClass "com/example/sira/sira/engine/StreamState" = some m.cls := (hS5.1.alike.findClass _ _).trans hown
  obtain ⟨aq5, bq5, kq5, uq5_0, uq5_1, rfl, N5q, K5q, E5q, F5c, F5v, V5q, oa5, ob5, lw5_0, lw5_1, -⟩ := hQ5
  have N5 := Fr.app N3 N5q
  have c5_E_a1 := c3_E_a1.keep K5q
  have c5_F_a1_value := c3_F_a1_value.keep K5q (List.not_mem_nil)
  have c5_F_a1_coder := c3_F_a1_coder.keep K5q (List.not_mem_nil)
  have c5_V_sb1 := c3_V_sb1.keep K5q (List.not_mem_nil)
  have c5_E_a2 := c3_E_a2.keep K5q
  have c5_F_a2_value := c3_F_a2_value.keep K5q (List.not_mem_nil)
  have c5_F_a2_coder := c3_F_a2_coder.keep K5q (List.not_mem_nil)
  have c5_V_sb2 := c3_V_sb2.keep K5q (List.not_mem_nil)
  have c5_E_b1 := E3q.keep K5q
  have c5_F_b1_value := F3v.keep K5q (List.not_mem_nil)
  have c5_F_b1_coder := F3c.keep K5q (List.not_mem_nil)
  have c5_F_b1_count := F3n.keep K5q (List.not_mem_nil)
  have c5_V_bq2 := V3q.keep K5q (List.not_mem_nil)
  have O5 := O3.keep K5q all0
  have K5 := K3.trans K5q all0
  have Ch5 := Ch5p.trans hCr5
  have zs5 := (Nat.le_trans (Nat.le_trans zs2 K3q.1) K5q.1)
  refine og (B := T5.setTop (mkF m 18 #[rv a1, rv a2] [(.ref aq5), (.ref b1)])) (fun _ => st5.trans) ?_
  have Sf2 := CHr.safe hCr5 lt1 Sf1
  have Sf3 := Safe.exa (EL := consts_1) hZ.alike c5_E_b1 (by decide) (by decide)
  have ne_aq5_bq2 : aq5 ≠ bq2 := Exa.neArv E5q c5_V_bq2 (ow hw 1 rfl)
  have ne_bq5_bq2 : bq5 ≠ bq2 := fun q => ob5.elim (fun e => ne_sb1_bq2 (e.symm.trans q)) (fun e => absurd (Nat.le_trans e (Nat.le_of_eq q)) (Nat.not_le_of_lt lt1))
  have ne_aq5_b1 : aq5 ≠ b1 := fun q => oa5.elim (fun e => ne_a1_b1 (e.symm.trans q)) (fun e => absurd (Nat.le_trans e (Nat.le_of_eq q)) (Nat.not_le_of_lt lt2))
  have ne_b1_bq5 : b1 ≠ bq5 := Exa.neArv c5_E_b1 V5q (ow hw 42 rfl)
  obtain ⟨cq6, kq6, q6a, q6b, q6c⟩ := isOf hZ rfl c5_E_b1
  obtain ⟨_, _, ⟨T6, L6, k6, n6⟩, -, X6, ⟨Lc6, hQ6, l6, y6, z6⟩, st6⟩ := X5.virtualBack hx (y := own_y20) (z := own_y20) hown (mvT hZ (ow hw 59 rfl)) (mvT hZ (ow hw 60 rfl)) (notFace_of_selects (args := #[]) (mvT hZ (ow hw 62 rfl))) (mvT hZ (ow hw 62 rfl)) (mvT hZ (ow hw 61 rfl)) (by decide) (backOf (W := 0) (own_app l Z a0 hw b1 aq5 bq2 bq5 kq2 kq5 (2 : Int32) (2 : Int32) [(.int s0), (.int s1), (.int 0), (.int 0), (.int 0), (.int 0), (.int 0), (.int 0), (.int 0), (.int 0), (.int 0), (.int 0), (.int 0), (.int 0), (.int 0), (.int 0)] [(.int uq5_0), (.int uq5_1)] [(.int s0), (.int s1), (.int uq5_0), (.int uq5_1), (.int 0), (.int 0), (.int 0), (.int 0), (.int 0), (.int 0), (.int 0), (.int 0), (.int 0), (.int 0), (.int 0), (.int 0)] GC T5.heap n0 zs5 S_C hGC O5 c5_E_b1 g_b1 c5_F_b1_value c5_F_b1_coder c5_F_b1_count c5_V_bq2 g_bq2 E5q F5c F5v V5q ne_aq5_bq2 ne_bq5_bq2 ne_b1_bq2 (Ne.symm ne_aq5_b1) ne_b1_bq5 (by decide) (rm18_2_2 l Z a0 hw [] aq5 bq2 bq5 kq2 kq5 s0 s1 uq5_0 uq5_1 GC T5.heap n0 zs5 S_C hGC O5 c5_V_bq2 g_bq2 E5q F5c F5v V5q ne_aq5_bq2 ne_bq5_bq2)) hZ (ow hw 63 rfl) (ow hw 43 rfl) (by decide) (by decide)) q6a q6c (g := (mkF m 18 #[rv a1, rv a2] [(.ref aq5), (.ref b1)])) rfl (by rw [hml]; rfl) (Steps.refl _) (argsL := [(.ref aq5)]) (rest := []) (lenOf own_pd26 rfl) rfl (Nat.le_refl _) (hb hby d8_18) (fun _ _ => ⟨rfl, rfl, (by decide : 10 + 0 ≤ _), (by decide : 68 + 0 ≤ _)⟩)
  dsimp only [Pt.U, Pt.locs, Pt.cells, Pt.slots] at X6 l6 y6 z6 st6 hQ6
  subst l6 y6 z6
  obtain ⟨rfl, N6q, K6q, E6q, F6v, F6c, F6n, V6q⟩ := hQ6
  have N6 := Fr.app N5 N6q
  have c6_E_a1 := c5_E_a1.keep K6q
  have c6_F_a1_value := c5_F_a1_value.keep K6q (by simp only [List.mem_cons, List.not_mem_nil, or_false, not_or]; exact ⟨ne_a1_b1, ne_a1_bq2⟩)
  have c6_F_a1_coder := c5_F_a1_coder.keep K6q (by simp only [List.mem_cons, List.not_mem_nil, or_false, not_or]; exact ⟨ne_a1_b1, ne_a1_bq2⟩)
  have c6_V_sb1 := c5_V_sb1.keep K6q (by simp only [List.mem_cons, List.not_mem_nil, or_false, not_or]; exact ⟨ne_sb1_b1, ne_sb1_bq2⟩)
  have c6_E_a2 := c5_E_a2.keep K6q
  have c6_F_a2_value := c5_F_a2_value.keep K6q (by simp only [List.mem_cons, List.not_mem_nil, or_false, not_or]; exact ⟨ne_a2_b1, ne_a2_bq2⟩)
  have c6_F_a2_coder := c5_F_a2_coder.keep K6q (by simp only [List.mem_cons, List.not_mem_nil, or_false, not_or]; exact ⟨ne_a2_b1, ne_a2_bq2⟩)
  have c6_V_sb2 := c5_V_sb2.keep K6q (by simp only [List.mem_cons, List.not_mem_nil, or_false, not_or]; exact ⟨ne_sb2_b1, ne_sb2_bq2⟩)
  have c6_E_aq5 := E5q.keep K6q
  have c6_F_aq5_coder := F5c.keep K6q (by simp only [List.mem_cons, List.not_mem_nil, or_false, not_or]; exact ⟨ne_aq5_b1, ne_aq5_bq2⟩)
  have c6_F_aq5_value := F5v.keep K6q (by simp only [List.mem_cons, List.not_mem_nil, or_false, not_or]; exact ⟨ne_aq5_b1, ne_aq5_bq2⟩)
  have c6_V_bq5 := V5q.keep K6q (by simp only [List.mem_cons, List.not_mem_nil, or_false, not_or]; exact ⟨(Ne.symm ne_b1_bq5), ne_bq5_bq2⟩)
  have O6 := O5.keep K6q (allS g_b1 (allS g_bq2 all0))
  have K6 := K5.trans K6q (allS (Or.inr sz_b1) (allS (Or.inr sz_bq2) all0))
  have Ch6 := (Ch5).trans (CHr.keep K6q (allS Sf3 (allS Sf2 all0)) (Ch5).1)
  have zk6 := (Nat.le_trans (Nat.le_refl _) K6q.1)
  refine og (B := T6.setTop (mkF m 21 #[rv a1, rv a2] [(.ref b1)])) (fun _ => st6.trans) ?_
  obtain ⟨cq7, kq7, q7a, q7b, q7c⟩ := isOf hZ rfl E6q
  obtain ⟨_, _, ⟨T7, L7, k7, n7⟩, -, X7, ⟨Lc7, hQ7, l7, y7, z7⟩, st7⟩ := X6.virtualBack hx (y := own_y30) (z := own_y30) hown (mvT hZ (ow hw 122 rfl)) (mvT hZ (ow hw 123 rfl)) (notFace_of_selects (args := #[]) (mvT hZ (ow hw 125 rfl))) (mvT hZ (ow hw 125 rfl)) (mvT hZ (ow hw 124 rfl)) (by decide) (backOf (W := 0) (rm22 l Z a0 hw [] b1 bq2 kq2 (4 : Int32) [(.int s0), (.int s1), (.int uq5_0), (.int uq5_1), (.int 0), (.int 0), (.int 0), (.int 0), (.int 0), (.int 0), (.int 0), (.int 0), (.int 0), (.int 0), (.int 0), (.int 0)] [(.int s0), (.int s1), (.int uq5_0), (.int uq5_1)] GC T6.heap n0 (Nat.le_trans zs5 K6q.1) S_C hGC O6 E6q F6v F6c F6n V6q (fun h1 z1 v1 => rm29 l Z a0 hw [] bq2 kq2 (4 : Int32) [(.int s0), (.int s1), (.int uq5_0), (.int uq5_1), (.int 0), (.int 0), (.int 0), (.int 0), (.int 0), (.int 0), (.int 0), (.int 0), (.int 0), (.int 0), (.int 0), (.int 0)] [(.int s0), (.int s1), (.int uq5_0), (.int uq5_1)] h1 n0 z1 v1 (by decide) (rm30_4 l Z a0 hw [] bq2 kq2 s0 s1 uq5_0 uq5_1 h1 n0 z1 v1))) hZ (ow hw 126 rfl) (ow hw 43 rfl) (by decide) (by decide)) q7a q7c (g := (mkF m 21 #[rv a1, rv a2] [(.ref b1)])) rfl (by rw [hml]; rfl) (Steps.refl _) (argsL := []) (rest := []) (lenOf own_pd20 rfl) rfl (Nat.le_refl _) (hb hby d8_21) (fun _ _ => ⟨rfl, rfl, (by decide : 10 + 2 ≤ _), (by decide : 68 + 9 ≤ _)⟩)
  dsimp only [Pt.U, Pt.locs, Pt.cells, Pt.slots] at X7 l7 y7 z7 st7 hQ7
  subst l7 y7 z7
  obtain ⟨aq7, bq7, kq7, rfl, N7q, K7q, E7q, F7c, F7v, V7q⟩ := hQ7
  have N7 := Fr.app N6 N7q
  have c7_E_a1 := c6_E_a1.keep K7q
  have c7_F_a1_value := c6_F_a1_value.keep K7q (List.not_mem_nil)
  have c7_F_a1_coder := c6_F_a1_coder.keep K7q (List.not_mem_nil)
  have c7_V_sb1 := c6_V_sb1.keep K7q (List.not_mem_nil)
  have c7_E_a2 := c6_E_a2.keep K7q
  have c7_F_a2_value := c6_F_a2_value.keep K7q (List.not_mem_nil)
  have c7_F_a2_coder := c6_F_a2_coder.keep K7q (List.not_mem_nil)
  have c7_V_sb2 := c6_V_sb2.keep K7q (List.not_mem_nil)
  have c7_E_aq5 := c6_E_aq5.keep K7q
  have c7_F_aq5_coder := c6_F_aq5_coder.keep K7q (List.not_mem_nil)
  have c7_F_aq5_value := c6_F_aq5_value.keep K7q (List.not_mem_nil)
  have c7_V_bq5 := c6_V_bq5.keep K7q (List.not_mem_nil)
  have c7_E_b1 := E6q.keep K7q
  have c7_F_b1_value := F6v.keep K7q (List.not_mem_nil)
  have c7_F_b1_coder := F6c.keep K7q (List.not_mem_nil)
  have c7_F_b1_count := F6n.keep K7q (List.not_mem_nil)
  have c7_V_bq2 := V6q.keep K7q (List.not_mem_nil)
  have O7 := O6.keep K7q all0
  have K7 := K6.trans K7q all0
  have Ch7 := (Ch6).trans (CHr.keep K7q all0 (Ch6).1)
  have zs7 := (Nat.le_trans (Nat.le_trans zs5 K6q.1) K7q.1)
  refine og (B := T7.setTop (mkF m 24 #[rv a1, rv a2] [(.ref aq7)])) (fun _ => st7.trans) ?_
  obtain ⟨fs, hr, hrun, hended, hRW⟩ := X7.leaveW hS ((Nat.le_trans zk6 K7q.1)) (v := some (.ref aq7)) (fun h => by rw [Bd.returns] at h; cases h)
  refine ⟨_, _, ?_, hrun, hended, _, _, rfl, ?_, (by have q := (Ch7).trans (CHv.at X7 hZ (own_hEL hw) (Ch7).1); rw [← hh] at q; exact q), hRW.1, hRW.2.1, hRW.2.2.1, hRW.2.2.2.mono (by decide) (by decide)⟩
  · show own_S p e below T7 (mkF m 24 #[rv a1, rv a2] [(.ref aq7)]) _
    jvm_step X7.here [X7.here.top, hx, (hb hby d8_24), X7.method', Bd.returns, Value.isRef, FieldType.isReference]
    first | (intro acts; rw [hr _ acts rfl rfl rfl]) | rw [hr _ _ rfl rfl rfl]
    exact Steps.refl _
  · show Q8_2 Z a1 a2 sb1 sb2 kb kb2 x0 x1 s0 s1 GC ci al ab ag agv h0 n0 _ T7.heap _
    exact ⟨aq7, bq7, kq7, uq5_0, uq5_1, rfl, N7, K7, E7q, F7c, F7v, V7q, lw5_0, lw5_1, trivial⟩
def Q19_3 (Z : State) (a1 : Addr) (sb1 : Addr) (kb : ClassId) (x0 : Int32) (x1 : Int32) (x2 : Int32) (GC : Int32) (ci : Addr) (al : Addr) (ab : Addr) (ag : Addr) (agv : Addr) (h0 : Heap) (n0 : Nat) (v : Option Value) (h : Heap) (L : List Loc) : Prop := own_QL3 Z a1 sb1 x0 x1 x2 h0 n0 v h L
set_option maxRecDepth 65536 in
set_option maxHeartbeats 40000000 in
theorem rm19_3 (l : Launch) (Z : State) (a0 : Array Value) (hw : ∀ d ∈ tables_1, d.before a0 Z = true) (ws : List Jvm.Cond) (a1 : Addr) (sb1 : Addr) (kb : ClassId) (x0 : Int32) (x1 : Int32) (x2 : Int32) (GC : Int32) (ci : Addr) (al : Addr) (ab : Addr) (ag : Addr) (agv : Addr) (h0 : Heap) (n0 : Nat) (Z0 : n0 ≤ h0.size) (S_C : Sta Z Z.heap "java/lang/String" "COMPACT_STRINGS" "Z" (.int GC)) (hGC : ¬ GC = (0 : Int32)) (O0 : Old Z n0 h0) (S_I : Sta Z Z.heap "java/lang/CharacterDataLatin1" "instance" "Ljava/lang/CharacterDataLatin1;" (.ref ci)) (E_ci : Exa Z Z.heap ci "java/lang/CharacterDataLatin1") (S_R : Sta Z Z.heap "java/util/Locale" "ROOT" "Ljava/util/Locale;" (.ref al)) (E_al : Exa Z Z.heap al "java/util/Locale") (F_ab : Fld Z Z.heap al "java/util/Locale" "baseLocale" "Lsun/util/locale/BaseLocale;" (.ref ab)) (E_ab : Exa Z Z.heap ab "sun/util/locale/BaseLocale") (F_ag : Fld Z Z.heap ab "sun/util/locale/BaseLocale" "language" "Ljava/lang/String;" (.ref ag)) (F_gv : Fld Z Z.heap ag "java/lang/String" "value" "[B" (.ref agv)) (V_gv : own_E0 Z Z.heap agv) (E_a1 : Exa Z h0 a1 "java/lang/String") (F_c : Fld Z h0 a1 "java/lang/String" "coder" "B" (.int 0)) (F_v : Fld Z h0 a1 "java/lang/String" "value" "[B" (.ref sb1)) (V_b : Arv Z h0 sb1 kb .byte (3 : Int32) [(.int x0), (.int x1), (.int x2)] (.int 0)) :
    MetFree l own_y37 (head1 (Jvm.Cond.code own_y37 jdk_42_method_109_code 2 (some (.object "java/lang/String")) :: ws) ({ frames := 3, cells := 8, slots := 48, locals := 47 } : Room)) (fun a U => a = #[(.ref a1), (.ref al)] ∧ Z.Warmed39 U.vm ∧ U.heap = h0 ∧ CHv Z consts_1 U.vm h0) (fun _ _ _ _ _ => True) (fun _ U o U' => ∃ v L, o = .returned v ∧ Q19_3 Z a1 sb1 kb x0 x1 x2 GC ci al ab ag agv h0 n0 v U'.heap L ∧ CHr Z consts_1 U.vm U.heap U'.vm U'.heap ∧ ReturnedEndW U o U' L ({ frames := 3, cells := 8, slots := 48, locals := 47 } : Room).cells ({ frames := 3, cells := 8, slots := 48, locals := 47 } : Room).slots) := by
  refine MetFree.of_bodySF (plainFor_of_name pn_19) hisR ?_
  intro p e s m args below meth c s₁ Bd hml0 hP hK
  obtain ⟨rfl, hZ, hh, hCH⟩ := hP
  have hx := Bd.exec
  have hby := Bd.bytes
  have hml : c.maxLocals = 2 := hml0
  have hown : s.vm.findClass "java/lang/String" = some m.cls := findClass_of_methodNamed Bd.named
  have hnm := (name_of_methodNamed Bd.named Bd.method).1
  have X0 : Stand p l e ({ frames := 3, cells := 8, slots := 48, locals := 47 } : Room) s m #[(.ref a1), (.ref al)] below meth c s₁ [] 0 0 := Stand.of_body Bd
  have e0 : s₁.heap = h0 := by rw [← hh, Bd.state]; rfl
  have N0 := Fr.nil n0
  have X0 : Stand p l e ({ frames := 3, cells := 8, slots := 48, locals := 47 } : Room) (s.setVm s.vm) m #[(.ref a1), (.ref al)] below meth c s₁ [] 0 0 := X0
  have hZ : Z.Warmed39 (s.setVm s.vm).vm := hZ
  have hown : (s.setVm s.vm).vm.findClass "java/lang/String" = some m.cls := hown
  have hS : s.Since s.vm 0 := (State.WarmedH.refl s).since 0
  refine og (B := s₁.setTop (mkF m 0 #[rv a1, rv al] [])) (fun t k => castTop (ef_19 m a1 al) k) ?_
  refine og (B := s₁.setTop (mkF m 1 #[rv a1, rv al] [(.ref a1)])) (fun t k => ?_) ?_
  · refine XS.aloadN X0.here hx rfl (hb hby d19_0) rfl rfl ?_
    exact k
  obtain ⟨cq1, kq1, q1a, q1b, q1c⟩ := isOf hZ e0 E_a1
  obtain ⟨_, _, ⟨T1, L1, k1, n1⟩, -, X1, ⟨Lc1, hQ1, l1, y1, z1⟩, st1⟩ := X0.virtualBack hx (y := own_y0) (z := own_y0) hown (mvT hZ (ow hw 113 rfl)) (mvT hZ (ow hw 114 rfl)) (notFace_of_selects (args := #[]) (mvT hZ (ow hw 116 rfl))) (mvT hZ (ow hw 116 rfl)) (mvT hZ (ow hw 115 rfl)) (by decide) (backOf (W := 0) (rm20 l Z a0 hw [] a1 GC h0 n0 Z0 S_C hGC O0 F_c) hZ (ow hw 117 rfl) (ow hw 2 rfl) (by decide) (by decide)) q1a q1c (g := (mkF m 1 #[rv a1, rv al] [(.ref a1)])) rfl (by rw [hml]; rfl) (Steps.refl _) (argsL := []) (rest := []) (lenOf own_pd3 rfl) rfl (Nat.le_refl _) (hb hby d19_1) (fun _ _ => ⟨rfl, e0, (by decide : 0 + 0 ≤ _), (by decide : 0 + 0 ≤ _)⟩)
  dsimp only [Pt.U, Pt.locs, Pt.cells, Pt.slots] at X1 l1 y1 z1 st1 hQ1
  subst l1 y1 z1
  obtain ⟨rfl, N1q, eq1⟩ := hQ1
  have N1 := Fr.app N0 N1q
  refine og (B := T1.setTop (mkF m 4 #[rv a1, rv al] [(.int 1)])) (fun _ => st1.trans) ?_
  refine og (B := T1.setTop (mkF m 9 #[rv a1, rv al] [(.ref a1), (.ref a1)])) (fun t k => ?_) ?_
  · refine XS.ifNo X1.here hx rfl (hb hby d19_4) rfl ((if0 _ _).trans (feq (by decide)).1) ?_
    refine XS.aloadN X1.here hx rfl (hb hby d19_7) rfl rfl ?_
    refine XS.aloadN X1.here hx rfl (hb hby d19_8) rfl rfl ?_
    exact k
  obtain ⟨T2, X2, e2, st2⟩ := getF X1 hx hZ hown (host := "") (Or.inl (ow hw 28 rfl)) Via.refl eq1 F_v (g := (mkF m 9 #[rv a1, rv al] [(.ref a1), (.ref a1)])) rfl rfl (hb hby d19_9)
  refine og (B := T2.setTop (mkF m 12 #[rv a1, rv al] [(.ref sb1), (.ref a1)])) st2 ?_
  refine og (B := T2.setTop (mkF m 13 #[rv a1, rv al] [(.ref al), (.ref sb1), (.ref a1)])) (fun t k => ?_) ?_
  · refine XS.aloadN X2.here hx rfl (hb hby d19_12) rfl rfl ?_
    exact k
  have Ch3p := CHr.refl hCH
  obtain ⟨_, _, ⟨T3, L3, k3, n3⟩, -, X3, hS3, hg3, ⟨Lc3, hQ3, l3, y3, z3, hCr3⟩, st3⟩ := callSS X2 hx (y := own_y36) hown (mvT hZ (ow hw 118 rfl)) (mvT hZ (ow hw 119 rfl)) (mvT hZ (ow hw 120 rfl)) (mvT hZ (ow hw 121 rfl)) (by decide) (backOfSH (W := 0) (rm21_3 l Z a0 hw [] a1 sb1 kb x0 x1 x2 GC ci al ab ag agv h0 n0 Z0 S_C hGC O0 S_I E_ci S_R E_al F_ab E_ab F_ag F_gv V_gv E_a1 F_c F_v V_b) hZ (ow hw 121 rfl) (ow hw 120 rfl) (by decide) (by decide) (own_hEL hw) Ch3p.1) (g := (mkF m 13 #[rv a1, rv al] [(.ref al), (.ref sb1), (.ref a1)])) rfl (by rw [hml]; rfl) (argsL := [(.ref a1), (.ref sb1), (.ref al)]) (rest := []) (lenOf own_pd24 rfl) rfl (Nat.le_refl _) (hb hby d19_13) (fun _ _ => ⟨rfl, e2, (by decide : 0 + 8 ≤ _), (by decide : 0 + 48 ≤ _)⟩)
  dsimp only [Pt.U, Pt.locs, Pt.cells, Pt.slots] at X3 l3 y3 z3 st3 hQ3 hS3 hg3 hCr3
  subst l3 y3 z3
  have hS := hS.trans hS3 (Nat.le_trans (Nat.zero_le _) (Nat.le_trans (Nat.le_of_eq (congrArg Array.size e2.symm)) hg3))
  have hZ : Z.Warmed39 (s.setVm T3.vm).vm := State.Warmed39.trans hZ hS3.1
  have hown : (s.setVm T3.vm).vm.findClass "java/lang/String" = some m.cls := (hS3.1.alike.findClass _ _).trans hown
  obtain ⟨aq3, bq3, kq3, uq3_0, uq3_1, uq3_2, rfl, N3q, K3q, E3q, F3c, F3v, V3q, oa3, ob3, lw3_0, lw3_1, lw3_2, -⟩ := hQ3
  have N3 := Fr.app N1 N3q
  have c3_E_a1 := E_a1.keep K3q
  have c3_F_a1_value := F_v.keep K3q (List.not_mem_nil)
  have c3_F_a1_coder := F_c.keep K3q (List.not_mem_nil)
  have c3_V_sb1 := V_b.keep K3q (List.not_mem_nil)
  have O3 := O0.keep K3q all0
  have K3 := (Keep.refl h0 []).trans K3q all0
  have Ch3 := Ch3p.trans hCr3
  refine og (B := T3.setTop (mkF m 16 #[rv a1, rv al] [(.ref aq3)])) (fun _ => st3.trans) ?_
  obtain ⟨fs, hr, hrun, hended, hRW⟩ := X3.leaveW hS ((Nat.le_refl _)) (v := some (.ref aq3)) (fun h => by rw [Bd.returns] at h; cases h)
  refine ⟨_, _, ?_, hrun, hended, _, _, rfl, ?_, (by have q := (Ch3).trans (CHv.at X3 hZ (own_hEL hw) (Ch3).1); rw [← hh] at q; exact q), hRW.1, hRW.2.1, hRW.2.2.1, hRW.2.2.2.mono (by decide) (by decide)⟩
  · refine XS.goto X3.here hx rfl (pc0 := 16) (pc' := 28) rfl (hb hby d19_16) (by decide) (by decide) ?_
    show own_S p e below T3 (mkF m 28 #[rv a1, rv al] [(.ref aq3)]) _
    jvm_step X3.here [X3.here.top, hx, (hb hby d19_28), X3.method', Bd.returns, Value.isRef, FieldType.isReference]
    first | (intro acts; rw [hr _ acts rfl rfl rfl]) | rw [hr _ _ rfl rfl rfl]
    exact Steps.refl _
  · show Q19_3 Z a1 sb1 kb x0 x1 x2 GC ci al ab ag agv h0 n0 _ T3.heap _
    exact ⟨aq3, bq3, kq3, uq3_0, uq3_1, uq3_2, rfl, N3, K3, E3q, F3c, F3v, V3q, oa3, ob3, lw3_0, lw3_1, lw3_2, trivial⟩
def own_QK3 (Z : State) (x0 : Int32) (x1 : Int32) (x2 : Int32) (s0 s1 : Int32) (h0 : Heap) (n0 : Nat) (v : Option Value) (h : Heap) (L : List Loc) : Prop := ∃ (a b : Addr) (kq : ClassId) (u0 : Int32) (u1 : Int32) (u2 : Int32), v = some (.ref a) ∧ Fr n0 L ∧ Keep h0 h [] ∧ Exa Z h a "java/lang/String" ∧ Fld Z h a "java/lang/String" "coder" "B" (.int 0) ∧ Fld Z h a "java/lang/String" "value" "[B" (.ref b) ∧ Arv Z h b kq .byte (5 : Int32) [(.int s0), (.int s1), (.int u0), (.int u1), (.int u2)] (.int 0)  ∧ ((u0 &&& (255 : Int32)) = own_low (x0 &&& (255 : Int32)) ∧ (u1 &&& (255 : Int32)) = own_low (x1 &&& (255 : Int32)) ∧ (u2 &&& (255 : Int32)) = own_low (x2 &&& (255 : Int32)) ∧ True)
def Q8_3 (Z : State) (a1 : Addr) (a2 : Addr) (sb1 : Addr) (sb2 : Addr) (kb : ClassId) (kb2 : ClassId) (x0 : Int32) (x1 : Int32) (x2 : Int32) (s0 : Int32) (s1 : Int32) (GC : Int32) (ci : Addr) (al : Addr) (ab : Addr) (ag : Addr) (agv : Addr) (h0 : Heap) (n0 : Nat) (v : Option Value) (h : Heap) (L : List Loc) : Prop := own_QK3 Z x0 x1 x2 s0 s1 h0 n0 v h L
set_option maxRecDepth 65536 in
set_option maxHeartbeats 40000000 in
theorem rm8_3 (l : Launch) (Z : State) (a0 : Array Value) (hw : ∀ d ∈ tables_1, d.before a0 Z = true) (ws : List Jvm.Cond) (a1 : Addr) (a2 : Addr) (sb1 : Addr) (sb2 : Addr) (kb : ClassId) (kb2 : ClassId) (x0 : Int32) (x1 : Int32) (x2 : Int32) (s0 : Int32) (s1 : Int32) (GC : Int32) (ci : Addr) (al : Addr) (ab : Addr) (ag : Addr) (agv : Addr) (h0 : Heap) (n0 : Nat) (Z0 : n0 ≤ h0.size) (S_C : Sta Z Z.heap "java/lang/String" "COMPACT_STRINGS" "Z" (.int GC)) (hGC : ¬ GC = (0 : Int32)) (O0 : Old Z n0 h0) (S_I : Sta Z Z.heap "java/lang/CharacterDataLatin1" "instance" "Ljava/lang/CharacterDataLatin1;" (.ref ci)) (E_ci : Exa Z Z.heap ci "java/lang/CharacterDataLatin1") (S_R : Sta Z Z.heap "java/util/Locale" "ROOT" "Ljava/util/Locale;" (.ref al)) (E_al : Exa Z Z.heap al "java/util/Locale") (F_ab : Fld Z Z.heap al "java/util/Locale" "baseLocale" "Lsun/util/locale/BaseLocale;" (.ref ab)) (E_ab : Exa Z Z.heap ab "sun/util/locale/BaseLocale") (F_ag : Fld Z Z.heap ab "sun/util/locale/BaseLocale" "language" "Ljava/lang/String;" (.ref ag)) (F_gv : Fld Z Z.heap ag "java/lang/String" "value" "[B" (.ref agv)) (V_gv : own_E0 Z Z.heap agv) (E_a1 : Exa Z h0 a1 "java/lang/String") (F_c : Fld Z h0 a1 "java/lang/String" "coder" "B" (.int 0)) (F_v : Fld Z h0 a1 "java/lang/String" "value" "[B" (.ref sb1)) (V_b : Arv Z h0 sb1 kb .byte (3 : Int32) [(.int x0), (.int x1), (.int x2)] (.int 0)) (E_a2 : Exa Z h0 a2 "java/lang/String") (F_c2 : Fld Z h0 a2 "java/lang/String" "coder" "B" (.int 0)) (F_v2 : Fld Z h0 a2 "java/lang/String" "value" "[B" (.ref sb2)) (V_2 : Arv Z h0 sb2 kb2 .byte (2 : Int32) [(.int s0), (.int s1)] (.int 0)) :
    MetFree l own_y38 (head1 (Jvm.Cond.code own_y38 prog_31_method_2_code 2 (some (.object "java/lang/String")) :: ws) ({ frames := 6, cells := 12, slots := 80, locals := 91 } : Room)) (fun a U => a = #[(.ref a1), (.ref a2)] ∧ Z.Warmed39 U.vm ∧ U.heap = h0 ∧ CHv Z consts_1 U.vm h0) (fun _ _ _ _ _ => True) (fun _ U o U' => ∃ v L, o = .returned v ∧ Q8_3 Z a1 a2 sb1 sb2 kb kb2 x0 x1 x2 s0 s1 GC ci al ab ag agv h0 n0 v U'.heap L ∧ CHr Z consts_1 U.vm U.heap U'.vm U'.heap ∧ ReturnedEndW U o U' L ({ frames := 6, cells := 12, slots := 80, locals := 91 } : Room).cells ({ frames := 6, cells := 12, slots := 80, locals := 91 } : Room).slots) := by
  refine MetFree.of_bodySF (plainFor_of_name pn_8) hisR ?_
  intro p e s m args below meth c s₁ Bd hml0 hP hK
  obtain ⟨rfl, hZ, hh, hCH⟩ := hP
  have hx := Bd.exec
  have hby := Bd.bytes
  have hml : c.maxLocals = 2 := hml0
  have hown : s.vm.findClass "com/example/sira/sira/engine/StreamState" = some m.cls := findClass_of_methodNamed Bd.named
  have hnm := (name_of_methodNamed Bd.named Bd.method).1
  have X0 : Stand p l e ({ frames := 6, cells := 12, slots := 80, locals := 91 } : Room) s m #[(.ref a1), (.ref a2)] below meth c s₁ [] 0 0 := Stand.of_body Bd
  have e0 : s₁.heap = h0 := by rw [← hh, Bd.state]; rfl
  have N0 := Fr.nil n0
  have X0 : Stand p l e ({ frames := 6, cells := 12, slots := 80, locals := 91 } : Room) (s.setVm s.vm) m #[(.ref a1), (.ref a2)] below meth c s₁ [] 0 0 := X0
  have hZ : Z.Warmed39 (s.setVm s.vm).vm := hZ
  have hown : (s.setVm s.vm).vm.findClass "com/example/sira/sira/engine/StreamState" = some m.cls := hown
  have hS : s.Since s.vm 0 := (State.WarmedH.refl s).since 0
  refine og (B := s₁.setTop (mkF m 0 #[rv a1, rv a2] [])) (fun t k => castTop (ef_8 m a1 a2) k) ?_
  obtain ⟨T1, h1, X1, e1, E1, A1, D1, -, st1⟩ := newO X0 hx hZ hown (ow hw 41 rfl) (ow hw 42 rfl) (ow hw 43 rfl) e0 (g := (mkF m 0 #[rv a1, rv a2] [])) rfl (hb hby d8_0) (by decide) (by decide)
  obtain ⟨b1, g1⟩ : ∃ z, z = h0.size := ⟨_, rfl⟩
  rw [← g1] at A1 D1 st1
  have g_b1 : n0 ≤ b1 := Nat.le_trans Z0 (Nat.le_of_eq g1.symm)
  have sz_b1 : h0.size ≤ b1 := Nat.le_trans (Keep.refl h0 []).1 (Nat.le_of_eq g1.symm)
  have ne_a1_b1 : a1 ≠ b1 := Nat.ne_of_lt (Nat.lt_of_lt_of_le E_a1.lt (Nat.le_of_eq g1.symm))
  have ne_sb1_b1 : sb1 ≠ b1 := Nat.ne_of_lt (Nat.lt_of_lt_of_le V_b.lt (Nat.le_of_eq g1.symm))
  have ne_a2_b1 : a2 ≠ b1 := Nat.ne_of_lt (Nat.lt_of_lt_of_le E_a2.lt (Nat.le_of_eq g1.symm))
  have ne_sb2_b1 : sb2 ≠ b1 := Nat.ne_of_lt (Nat.lt_of_lt_of_le V_2.lt (Nat.le_of_eq g1.symm))
  have c1_E_a1 := E_a1.ext E1
  have c1_F_a1_value := F_v.ext E1
  have c1_F_a1_coder := F_c.ext E1
  have c1_V_sb1 := V_b.ext E1
  have c1_E_a2 := E_a2.ext E1
  have c1_F_a2_value := F_v2.ext E1
  have c1_F_a2_coder := F_c2.ext E1
  have c1_V_sb2 := V_2.ext E1
  have K1 := (Keep.refl h0 []).ext E1
  have O1 := O0.ext E1
  have F1_value : Fld Z h1 b1 "java/lang/AbstractStringBuilder" "value" "[B" .null := D1 (Or.inl (ow hw 56 rfl)) (ty := (.array .byte)) (by decide)
  have F1_coder : Fld Z h1 b1 "java/lang/AbstractStringBuilder" "coder" "B" (.int 0) := D1 (Or.inl (ow hw 58 rfl)) (ty := .byte) (by decide)
  have F1_count : Fld Z h1 b1 "java/lang/AbstractStringBuilder" "count" "I" (.int 0) := D1 (Or.inl (ow hw 80 rfl)) (ty := .int) (by decide)
  have zk1 := (Nat.le_trans (Nat.zero_le _) E1.1)
  refine og (B := T1.setTop (mkF m 3 #[rv a1, rv a2] [(.ref b1)])) st1 ?_
  refine og (B := T1.setTop (mkF m 4 #[rv a1, rv a2] [(.ref b1), (.ref b1)])) (fun t k => ?_) ?_
  · refine XS.dup X1.here hx rfl (hb hby d8_3) rfl rfl ?_
    exact k
  obtain ⟨_, _, ⟨T2, L2, k2, n2⟩, -, X2, ⟨Lc2, hQ2, l2, y2, z2⟩, st2⟩ := X1.specialBack hx (y := own_y14) rfl hown (mvT hZ (ow hw 44 rfl)) (mvT hZ (ow hw 45 rfl)) (mvT hZ (ow hw 46 rfl)) (by decide) (backOf (W := 1) (rm9 l Z a0 hw [] b1 GC h1 n0 (Nat.le_trans Z0 E1.1) S_C hGC O1 A1 g_b1 F1_value F1_coder F1_count) hZ (ow hw 46 rfl) (ow hw 43 rfl) (by decide) (by decide)) (g := (mkF m 4 #[rv a1, rv a2] [(.ref b1), (.ref b1)])) rfl (by rw [hml]; rfl) (Steps.refl _) (a := b1) (argsL := []) (rest := [(.ref b1)]) (lenOf own_pd25 rfl) rfl (Nat.le_refl _) (hb hby d8_4) (fun _ _ => ⟨rfl, e1, (by decide : 1 + 1 ≤ _), (by decide : 4 + 16 ≤ _)⟩)
  dsimp only [Pt.U, Pt.locs, Pt.cells, Pt.slots] at X2 l2 y2 z2 st2 hQ2
  subst l2 y2 z2
  obtain ⟨rfl, N2q, bq2, kq2, K2q, q2z, q2g, E2q, F2v, F2c, F2n, V2q⟩ := hQ2
  have N2 := Fr.app N0 N2q
  have sz_bq2 : h0.size ≤ bq2 := Nat.le_trans (K1).1 q2z
  have g_bq2 : n0 ≤ bq2 := q2g
  have ne_a1_bq2 : a1 ≠ bq2 := Nat.ne_of_lt (Nat.lt_of_lt_of_le c1_E_a1.lt q2z)
  have ne_sb1_bq2 : sb1 ≠ bq2 := Nat.ne_of_lt (Nat.lt_of_lt_of_le c1_V_sb1.lt q2z)
  have ne_a2_bq2 : a2 ≠ bq2 := Nat.ne_of_lt (Nat.lt_of_lt_of_le c1_E_a2.lt q2z)
  have ne_sb2_bq2 : sb2 ≠ bq2 := Nat.ne_of_lt (Nat.lt_of_lt_of_le c1_V_sb2.lt q2z)
  have ne_b1_bq2 : b1 ≠ bq2 := Nat.ne_of_lt (Nat.lt_of_lt_of_le A1.lt q2z)
  have c2_E_a1 := c1_E_a1.keep K2q
  have c2_F_a1_value := c1_F_a1_value.keep K2q (fun q => ne_a1_b1 (List.mem_singleton.mp q))
  have c2_F_a1_coder := c1_F_a1_coder.keep K2q (fun q => ne_a1_b1 (List.mem_singleton.mp q))
  have c2_V_sb1 := c1_V_sb1.keep K2q (fun q => ne_sb1_b1 (List.mem_singleton.mp q))
  have c2_E_a2 := c1_E_a2.keep K2q
  have c2_F_a2_value := c1_F_a2_value.keep K2q (fun q => ne_a2_b1 (List.mem_singleton.mp q))
  have c2_F_a2_coder := c1_F_a2_coder.keep K2q (fun q => ne_a2_b1 (List.mem_singleton.mp q))
  have c2_V_sb2 := c1_V_sb2.keep K2q (fun q => ne_sb2_b1 (List.mem_singleton.mp q))
  have O2 := O1.keep K2q (allS g_b1 all0)
  have K2 := K1.trans K2q (allS (Or.inr sz_b1) all0)
  have zs2 := (Nat.le_trans (Nat.le_trans Z0 E1.1) K2q.1)
  refine og (B := T2.setTop (mkF m 7 #[rv a1, rv a2] [(.ref b1)])) (fun _ => st2.trans) ?_
  refine og (B := T2.setTop (mkF m 8 #[rv a1, rv a2] [(.ref a2), (.ref b1)])) (fun t k => ?_) ?_
  · refine XS.aloadN X2.here hx rfl (hb hby d8_7) rfl rfl ?_
    exact k
  obtain ⟨cq3, kq3, q3a, q3b, q3c⟩ := isOf hZ rfl E2q
  obtain ⟨_, _, ⟨T3, L3, k3, n3⟩, -, X3, ⟨Lc3, hQ3, l3, y3, z3⟩, st3⟩ := X2.virtualBack hx (y := own_y20) (z := own_y20) hown (mvT hZ (ow hw 59 rfl)) (mvT hZ (ow hw 60 rfl)) (notFace_of_selects (args := #[]) (mvT hZ (ow hw 62 rfl))) (mvT hZ (ow hw 62 rfl)) (mvT hZ (ow hw 61 rfl)) (by decide) (backOf (W := 0) (own_app l Z a0 hw b1 a2 bq2 sb2 kq2 kb2 (0 : Int32) (2 : Int32) [(.int 0), (.int 0), (.int 0), (.int 0), (.int 0), (.int 0), (.int 0), (.int 0), (.int 0), (.int 0), (.int 0), (.int 0), (.int 0), (.int 0), (.int 0), (.int 0)] [(.int s0), (.int s1)] [(.int s0), (.int s1), (.int 0), (.int 0), (.int 0), (.int 0), (.int 0), (.int 0), (.int 0), (.int 0), (.int 0), (.int 0), (.int 0), (.int 0), (.int 0), (.int 0)] GC T2.heap n0 zs2 S_C hGC O2 E2q g_b1 F2v F2c F2n V2q g_bq2 c2_E_a2 c2_F_a2_coder c2_F_a2_value c2_V_sb2 ne_a2_bq2 ne_sb2_bq2 ne_b1_bq2 (Ne.symm ne_a2_b1) (Ne.symm ne_sb2_b1) (by decide) (rm18_0_2 l Z a0 hw [] a2 bq2 sb2 kq2 kb2 s0 s1 GC T2.heap n0 zs2 S_C hGC O2 V2q g_bq2 c2_E_a2 c2_F_a2_coder c2_F_a2_value c2_V_sb2 ne_a2_bq2 ne_sb2_bq2)) hZ (ow hw 63 rfl) (ow hw 43 rfl) (by decide) (by decide)) q3a q3c (g := (mkF m 8 #[rv a1, rv a2] [(.ref a2), (.ref b1)])) rfl (by rw [hml]; rfl) (Steps.refl _) (argsL := [(.ref a2)]) (rest := []) (lenOf own_pd26 rfl) rfl (Nat.le_refl _) (hb hby d8_8) (fun _ _ => ⟨rfl, rfl, (by decide : 2 + 0 ≤ _), (by decide : 20 + 0 ≤ _)⟩)
  dsimp only [Pt.U, Pt.locs, Pt.cells, Pt.slots] at X3 l3 y3 z3 st3 hQ3
  subst l3 y3 z3
  obtain ⟨rfl, N3q, K3q, E3q, F3v, F3c, F3n, V3q⟩ := hQ3
  have N3 := Fr.app N2 N3q
  have c3_E_a1 := c2_E_a1.keep K3q
  have c3_F_a1_value := c2_F_a1_value.keep K3q (by simp only [List.mem_cons, List.not_mem_nil, or_false, not_or]; exact ⟨ne_a1_b1, ne_a1_bq2⟩)
  have c3_F_a1_coder := c2_F_a1_coder.keep K3q (by simp only [List.mem_cons, List.not_mem_nil, or_false, not_or]; exact ⟨ne_a1_b1, ne_a1_bq2⟩)
  have c3_V_sb1 := c2_V_sb1.keep K3q (by simp only [List.mem_cons, List.not_mem_nil, or_false, not_or]; exact ⟨ne_sb1_b1, ne_sb1_bq2⟩)
  have c3_E_a2 := c2_E_a2.keep K3q
  have c3_F_a2_value := c2_F_a2_value.keep K3q (by simp only [List.mem_cons, List.not_mem_nil, or_false, not_or]; exact ⟨ne_a2_b1, ne_a2_bq2⟩)
  have c3_F_a2_coder := c2_F_a2_coder.keep K3q (by simp only [List.mem_cons, List.not_mem_nil, or_false, not_or]; exact ⟨ne_a2_b1, ne_a2_bq2⟩)
  have c3_V_sb2 := c2_V_sb2.keep K3q (by simp only [List.mem_cons, List.not_mem_nil, or_false, not_or]; exact ⟨ne_sb2_b1, ne_sb2_bq2⟩)
  have O3 := O2.keep K3q (allS g_b1 (allS g_bq2 all0))
  have K3 := K2.trans K3q (allS (Or.inr sz_b1) (allS (Or.inr sz_bq2) all0))
  have zk3 := (Nat.le_trans (Nat.le_trans zk1 K2q.1) K3q.1)
  refine og (B := T3.setTop (mkF m 11 #[rv a1, rv a2] [(.ref b1)])) (fun _ => st3.trans) ?_
  refine og (B := T3.setTop (mkF m 12 #[rv a1, rv a2] [(.ref a1), (.ref b1)])) (fun t k => ?_) ?_
  · refine XS.aloadN X3.here hx rfl (hb hby d8_11) rfl rfl ?_
    exact k
  obtain ⟨T4, X4, e4, st4⟩ := getS2 X3 hx hZ hown (host := "") (Or.inl (ow hw 106 rfl)) Via.refl rfl (S_R.ext O3.2) (g := (mkF m 12 #[rv a1, rv a2] [(.ref a1), (.ref b1)])) rfl (hb hby d8_12)
  refine og (B := T4.setTop (mkF m 15 #[rv a1, rv a2] [(.ref al), (.ref a1), (.ref b1)])) st4 ?_
  have Sf1 := Safe.ext (own_ext K3) hCH (Safe.new (EL := consts_1) (Z := Z) sz_bq2)
  have lt1 := V3q.lt
  have lt2 := E3q.lt
  have Ch5p := CHr.ext (own_ext K3) hCH
  obtain ⟨cq5, kq5, q5a, q5b, q5c⟩ := isOf hZ e4 c3_E_a1
  obtain ⟨_, _, ⟨T5, L5, k5, n5⟩, -, X5, hS5, hg5, ⟨Lc5, hQ5, l5, y5, z5, hCr5⟩, st5⟩ := X4.virtualBackS hx (y := own_y37) (z := own_y37) hown (mvT hZ (ow hw 108 rfl)) (mvT hZ (ow hw 109 rfl)) (notFace_of_selects (args := #[]) (mvT hZ (ow hw 111 rfl))) (mvT hZ (ow hw 111 rfl)) (mvT hZ (ow hw 110 rfl)) (by decide) (backOfSH (W := 1) (rm19_3 l Z a0 hw [] a1 sb1 kb x0 x1 x2 GC ci al ab ag agv T3.heap n0 (Nat.le_trans zs2 K3q.1) S_C hGC O3 S_I E_ci S_R E_al F_ab E_ab F_ag F_gv V_gv c3_E_a1 c3_F_a1_coder c3_F_a1_value c3_V_sb1) hZ (ow hw 112 rfl) (ow hw 2 rfl) (by decide) (by decide) (own_hEL hw) Ch5p.1) q5a q5c (g := (mkF m 15 #[rv a1, rv a2] [(.ref al), (.ref a1), (.ref b1)])) rfl (by rw [hml]; rfl) (Steps.refl _) (argsL := [(.ref al)]) (rest := [(.ref b1)]) (lenOf own_pd27 rfl) rfl (Nat.le_refl _) (hb hby d8_15) (fun _ _ => ⟨rfl, e4, (by decide : 2 + 8 ≤ _), (by decide : 20 + 48 ≤ _)⟩)
  dsimp only [Pt.U, Pt.locs, Pt.cells, Pt.slots] at X5 l5 y5 z5 st5 hQ5 hS5 hg5 hCr5
  subst l5 y5 z5
  have hS := hS.trans hS5 (Nat.le_trans zk3 (Nat.le_trans (Nat.le_of_eq (congrArg Array.size e4.symm)) hg5))
  have hZ : Z.Warmed39 (s.setVm T5.vm).vm := State.Warmed39.trans hZ hS5.1
  have hown : (s.setVm T5.vm).vm.findClass "com/example/sira/sira/engine/StreamState" = some m.cls := (hS5.1.alike.findClass _ _).trans hown
  obtain ⟨aq5, bq5, kq5, uq5_0, uq5_1, uq5_2, rfl, N5q, K5q, E5q, F5c, F5v, V5q, oa5, ob5, lw5_0, lw5_1, lw5_2, -⟩ := hQ5
  have N5 := Fr.app N3 N5q
  have c5_E_a1 := c3_E_a1.keep K5q
  have c5_F_a1_value := c3_F_a1_value.keep K5q (List.not_mem_nil)
  have c5_F_a1_coder := c3_F_a1_coder.keep K5q (List.not_mem_nil)
  have c5_V_sb1 := c3_V_sb1.keep K5q (List.not_mem_nil)
  have c5_E_a2 := c3_E_a2.keep K5q
  have c5_F_a2_value := c3_F_a2_value.keep K5q (List.not_mem_nil)
  have c5_F_a2_coder := c3_F_a2_coder.keep K5q (List.not_mem_nil)
  have c5_V_sb2 := c3_V_sb2.keep K5q (List.not_mem_nil)
  have c5_E_b1 := E3q.keep K5q
  have c5_F_b1_value := F3v.keep K5q (List.not_mem_nil)
  have c5_F_b1_coder := F3c.keep K5q (List.not_mem_nil)
  have c5_F_b1_count := F3n.keep K5q (List.not_mem_nil)
  have c5_V_bq2 := V3q.keep K5q (List.not_mem_nil)
  have O5 := O3.keep K5q all0
  have K5 := K3.trans K5q all0
  have Ch5 := Ch5p.trans hCr5
  have zs5 := (Nat.le_trans (Nat.le_trans zs2 K3q.1) K5q.1)
  refine og (B := T5.setTop (mkF m 18 #[rv a1, rv a2] [(.ref aq5), (.ref b1)])) (fun _ => st5.trans) ?_
  have Sf2 := CHr.safe hCr5 lt1 Sf1
  have Sf3 := Safe.exa (EL := consts_1) hZ.alike c5_E_b1 (by decide) (by decide)
  have ne_aq5_bq2 : aq5 ≠ bq2 := Exa.neArv E5q c5_V_bq2 (ow hw 1 rfl)
  have ne_bq5_bq2 : bq5 ≠ bq2 := fun q => ob5.elim (fun e => ne_sb1_bq2 (e.symm.trans q)) (fun e => absurd (Nat.le_trans e (Nat.le_of_eq q)) (Nat.not_le_of_lt lt1))
  have ne_aq5_b1 : aq5 ≠ b1 := fun q => oa5.elim (fun e => ne_a1_b1 (e.symm.trans q)) (fun e => absurd (Nat.le_trans e (Nat.le_of_eq q)) (Nat.not_le_of_lt lt2))
  have ne_b1_bq5 : b1 ≠ bq5 := Exa.neArv c5_E_b1 V5q (ow hw 42 rfl)
  obtain ⟨cq6, kq6, q6a, q6b, q6c⟩ := isOf hZ rfl c5_E_b1
  obtain ⟨_, _, ⟨T6, L6, k6, n6⟩, -, X6, ⟨Lc6, hQ6, l6, y6, z6⟩, st6⟩ := X5.virtualBack hx (y := own_y20) (z := own_y20) hown (mvT hZ (ow hw 59 rfl)) (mvT hZ (ow hw 60 rfl)) (notFace_of_selects (args := #[]) (mvT hZ (ow hw 62 rfl))) (mvT hZ (ow hw 62 rfl)) (mvT hZ (ow hw 61 rfl)) (by decide) (backOf (W := 0) (own_app l Z a0 hw b1 aq5 bq2 bq5 kq2 kq5 (2 : Int32) (3 : Int32) [(.int s0), (.int s1), (.int 0), (.int 0), (.int 0), (.int 0), (.int 0), (.int 0), (.int 0), (.int 0), (.int 0), (.int 0), (.int 0), (.int 0), (.int 0), (.int 0)] [(.int uq5_0), (.int uq5_1), (.int uq5_2)] [(.int s0), (.int s1), (.int uq5_0), (.int uq5_1), (.int uq5_2), (.int 0), (.int 0), (.int 0), (.int 0), (.int 0), (.int 0), (.int 0), (.int 0), (.int 0), (.int 0), (.int 0)] GC T5.heap n0 zs5 S_C hGC O5 c5_E_b1 g_b1 c5_F_b1_value c5_F_b1_coder c5_F_b1_count c5_V_bq2 g_bq2 E5q F5c F5v V5q ne_aq5_bq2 ne_bq5_bq2 ne_b1_bq2 (Ne.symm ne_aq5_b1) ne_b1_bq5 (by decide) (rm18_2_3 l Z a0 hw [] aq5 bq2 bq5 kq2 kq5 s0 s1 uq5_0 uq5_1 uq5_2 GC T5.heap n0 zs5 S_C hGC O5 c5_V_bq2 g_bq2 E5q F5c F5v V5q ne_aq5_bq2 ne_bq5_bq2)) hZ (ow hw 63 rfl) (ow hw 43 rfl) (by decide) (by decide)) q6a q6c (g := (mkF m 18 #[rv a1, rv a2] [(.ref aq5), (.ref b1)])) rfl (by rw [hml]; rfl) (Steps.refl _) (argsL := [(.ref aq5)]) (rest := []) (lenOf own_pd26 rfl) rfl (Nat.le_refl _) (hb hby d8_18) (fun _ _ => ⟨rfl, rfl, (by decide : 10 + 0 ≤ _), (by decide : 68 + 0 ≤ _)⟩)
  dsimp only [Pt.U, Pt.locs, Pt.cells, Pt.slots] at X6 l6 y6 z6 st6 hQ6
  subst l6 y6 z6
  obtain ⟨rfl, N6q, K6q, E6q, F6v, F6c, F6n, V6q⟩ := hQ6
  have N6 := Fr.app N5 N6q
  have c6_E_a1 := c5_E_a1.keep K6q
  have c6_F_a1_value := c5_F_a1_value.keep K6q (by simp only [List.mem_cons, List.not_mem_nil, or_false, not_or]; exact ⟨ne_a1_b1, ne_a1_bq2⟩)
  have c6_F_a1_coder := c5_F_a1_coder.keep K6q (by simp only [List.mem_cons, List.not_mem_nil, or_false, not_or]; exact ⟨ne_a1_b1, ne_a1_bq2⟩)
  have c6_V_sb1 := c5_V_sb1.keep K6q (by simp only [List.mem_cons, List.not_mem_nil, or_false, not_or]; exact ⟨ne_sb1_b1, ne_sb1_bq2⟩)
  have c6_E_a2 := c5_E_a2.keep K6q
  have c6_F_a2_value := c5_F_a2_value.keep K6q (by simp only [List.mem_cons, List.not_mem_nil, or_false, not_or]; exact ⟨ne_a2_b1, ne_a2_bq2⟩)
  have c6_F_a2_coder := c5_F_a2_coder.keep K6q (by simp only [List.mem_cons, List.not_mem_nil, or_false, not_or]; exact ⟨ne_a2_b1, ne_a2_bq2⟩)
  have c6_V_sb2 := c5_V_sb2.keep K6q (by simp only [List.mem_cons, List.not_mem_nil, or_false, not_or]; exact ⟨ne_sb2_b1, ne_sb2_bq2⟩)
  have c6_E_aq5 := E5q.keep K6q
  have c6_F_aq5_coder := F5c.keep K6q (by simp only [List.mem_cons, List.not_mem_nil, or_false, not_or]; exact ⟨ne_aq5_b1, ne_aq5_bq2⟩)
  have c6_F_aq5_value := F5v.keep K6q (by simp only [List.mem_cons, List.not_mem_nil, or_false, not_or]; exact ⟨ne_aq5_b1, ne_aq5_bq2⟩)
  have c6_V_bq5 := V5q.keep K6q (by simp only [List.mem_cons, List.not_mem_nil, or_false, not_or]; exact ⟨(Ne.symm ne_b1_bq5), ne_bq5_bq2⟩)
  have O6 := O5.keep K6q (allS g_b1 (allS g_bq2 all0))
  have K6 := K5.trans K6q (allS (Or.inr sz_b1) (allS (Or.inr sz_bq2) all0))
  have Ch6 := (Ch5).trans (CHr.keep K6q (allS Sf3 (allS Sf2 all0)) (Ch5).1)
  have zk6 := (Nat.le_trans (Nat.le_refl _) K6q.1)
  refine og (B := T6.setTop (mkF m 21 #[rv a1, rv a2] [(.ref b1)])) (fun _ => st6.trans) ?_
  obtain ⟨cq7, kq7, q7a, q7b, q7c⟩ := isOf hZ rfl E6q
  obtain ⟨_, _, ⟨T7, L7, k7, n7⟩, -, X7, ⟨Lc7, hQ7, l7, y7, z7⟩, st7⟩ := X6.virtualBack hx (y := own_y30) (z := own_y30) hown (mvT hZ (ow hw 122 rfl)) (mvT hZ (ow hw 123 rfl)) (notFace_of_selects (args := #[]) (mvT hZ (ow hw 125 rfl))) (mvT hZ (ow hw 125 rfl)) (mvT hZ (ow hw 124 rfl)) (by decide) (backOf (W := 0) (rm22 l Z a0 hw [] b1 bq2 kq2 (5 : Int32) [(.int s0), (.int s1), (.int uq5_0), (.int uq5_1), (.int uq5_2), (.int 0), (.int 0), (.int 0), (.int 0), (.int 0), (.int 0), (.int 0), (.int 0), (.int 0), (.int 0), (.int 0)] [(.int s0), (.int s1), (.int uq5_0), (.int uq5_1), (.int uq5_2)] GC T6.heap n0 (Nat.le_trans zs5 K6q.1) S_C hGC O6 E6q F6v F6c F6n V6q (fun h1 z1 v1 => rm29 l Z a0 hw [] bq2 kq2 (5 : Int32) [(.int s0), (.int s1), (.int uq5_0), (.int uq5_1), (.int uq5_2), (.int 0), (.int 0), (.int 0), (.int 0), (.int 0), (.int 0), (.int 0), (.int 0), (.int 0), (.int 0), (.int 0)] [(.int s0), (.int s1), (.int uq5_0), (.int uq5_1), (.int uq5_2)] h1 n0 z1 v1 (by decide) (rm30_5 l Z a0 hw [] bq2 kq2 s0 s1 uq5_0 uq5_1 uq5_2 h1 n0 z1 v1))) hZ (ow hw 126 rfl) (ow hw 43 rfl) (by decide) (by decide)) q7a q7c (g := (mkF m 21 #[rv a1, rv a2] [(.ref b1)])) rfl (by rw [hml]; rfl) (Steps.refl _) (argsL := []) (rest := []) (lenOf own_pd20 rfl) rfl (Nat.le_refl _) (hb hby d8_21) (fun _ _ => ⟨rfl, rfl, (by decide : 10 + 2 ≤ _), (by decide : 68 + 9 ≤ _)⟩)
  dsimp only [Pt.U, Pt.locs, Pt.cells, Pt.slots] at X7 l7 y7 z7 st7 hQ7
  subst l7 y7 z7
  obtain ⟨aq7, bq7, kq7, rfl, N7q, K7q, E7q, F7c, F7v, V7q⟩ := hQ7
  have N7 := Fr.app N6 N7q
  have c7_E_a1 := c6_E_a1.keep K7q
  have c7_F_a1_value := c6_F_a1_value.keep K7q (List.not_mem_nil)
  have c7_F_a1_coder := c6_F_a1_coder.keep K7q (List.not_mem_nil)
  have c7_V_sb1 := c6_V_sb1.keep K7q (List.not_mem_nil)
  have c7_E_a2 := c6_E_a2.keep K7q
  have c7_F_a2_value := c6_F_a2_value.keep K7q (List.not_mem_nil)
  have c7_F_a2_coder := c6_F_a2_coder.keep K7q (List.not_mem_nil)
  have c7_V_sb2 := c6_V_sb2.keep K7q (List.not_mem_nil)
  have c7_E_aq5 := c6_E_aq5.keep K7q
  have c7_F_aq5_coder := c6_F_aq5_coder.keep K7q (List.not_mem_nil)
  have c7_F_aq5_value := c6_F_aq5_value.keep K7q (List.not_mem_nil)
  have c7_V_bq5 := c6_V_bq5.keep K7q (List.not_mem_nil)
  have c7_E_b1 := E6q.keep K7q
  have c7_F_b1_value := F6v.keep K7q (List.not_mem_nil)
  have c7_F_b1_coder := F6c.keep K7q (List.not_mem_nil)
  have c7_F_b1_count := F6n.keep K7q (List.not_mem_nil)
  have c7_V_bq2 := V6q.keep K7q (List.not_mem_nil)
  have O7 := O6.keep K7q all0
  have K7 := K6.trans K7q all0
  have Ch7 := (Ch6).trans (CHr.keep K7q all0 (Ch6).1)
  have zs7 := (Nat.le_trans (Nat.le_trans zs5 K6q.1) K7q.1)
  refine og (B := T7.setTop (mkF m 24 #[rv a1, rv a2] [(.ref aq7)])) (fun _ => st7.trans) ?_
  obtain ⟨fs, hr, hrun, hended, hRW⟩ := X7.leaveW hS ((Nat.le_trans zk6 K7q.1)) (v := some (.ref aq7)) (fun h => by rw [Bd.returns] at h; cases h)
  refine ⟨_, _, ?_, hrun, hended, _, _, rfl, ?_, (by have q := (Ch7).trans (CHv.at X7 hZ (own_hEL hw) (Ch7).1); rw [← hh] at q; exact q), hRW.1, hRW.2.1, hRW.2.2.1, hRW.2.2.2.mono (by decide) (by decide)⟩
  · show own_S p e below T7 (mkF m 24 #[rv a1, rv a2] [(.ref aq7)]) _
    jvm_step X7.here [X7.here.top, hx, (hb hby d8_24), X7.method', Bd.returns, Value.isRef, FieldType.isReference]
    first | (intro acts; rw [hr _ acts rfl rfl rfl]) | rw [hr _ _ rfl rfl rfl]
    exact Steps.refl _
  · show Q8_3 Z a1 a2 sb1 sb2 kb kb2 x0 x1 x2 s0 s1 GC ci al ab ag agv h0 n0 _ T7.heap _
    exact ⟨aq7, bq7, kq7, uq5_0, uq5_1, uq5_2, rfl, N7, K7, E7q, F7c, F7v, V7q, lw5_0, lw5_1, lw5_2, trivial⟩
theorem pn_7 : plainName "com/example/sira/sira/engine/StreamStateKeyPinLaw" = true := by first | (simp [plainName, overriddenIn]; done) | decide +kernel
theorem d7_0 : decode method_3_code 0 = .ok (.iload_n 0, 1) := by decide +kernel
theorem d7_1 : decode method_3_code 1 = .ok (.ifCond .ne 14, 3) := by decide +kernel
theorem d7_4 : decode method_3_code 4 = .ok (.new 7, 3) := by decide +kernel
theorem d7_7 : decode method_3_code 7 = .ok (.dup, 1) := by decide +kernel
theorem d7_8 : decode method_3_code 8 = .ok (.iconst 0, 1) := by decide +kernel
theorem d7_9 : decode method_3_code 9 = .ok (.newarray .char, 2) := by decide +kernel
theorem d7_11 : decode method_3_code 11 = .ok (.invokespecial 9, 3) := by decide +kernel
theorem d7_14 : decode method_3_code 14 = .ok (.areturn, 1) := by decide +kernel
theorem ef_7 (m : MethodId) (x0 : Int32) (x1 : Int32) (x2 : Int32) (x3 : Int32) : entryFrame m #[(.int x0), (.int x1), (.int x2), (.int x3)] 4 = mkF m 0 #[.val (.int x0), .val (.int x1), .val (.int x2), .val (.int x3)] [] := by first | (simp [entryFrame, mkF, argsToLocals, Value.category]; done) | rfl
def Q7_0 (Z : State) (c0 : Int32) (c1 : Int32) (c2 : Int32) (GC : Int32) (h0 : Heap) (n0 : Nat) (v : Option Value) (h : Heap) (L : List Loc) : Prop := own_QS Z (0 : Int32) [] h0 n0 v h L
set_option maxRecDepth 65536 in
set_option maxHeartbeats 40000000 in
theorem rm7_0 (l : Launch) (Z : State) (a0 : Array Value) (hw : ∀ d ∈ tables_1, d.before a0 Z = true) (ws : List Jvm.Cond) (c0 : Int32) (c1 : Int32) (c2 : Int32) (GC : Int32) (h0 : Heap) (n0 : Nat) (Z0 : n0 ≤ h0.size) (S_C : Sta Z Z.heap "java/lang/String" "COMPACT_STRINGS" "Z" (.int GC)) (hGC : ¬ GC = (0 : Int32)) (O0 : Old Z n0 h0) :
    MetFree l own_y39 (head1 (Jvm.Cond.code own_y39 method_3_code 4 (some (.object "java/lang/String")) :: ws) ({ frames := 4, cells := 4, slots := 12, locals := 66 } : Room)) (fun a U => a = #[(.int 0), (.int c0), (.int c1), (.int c2)] ∧ Z.Warmed39 U.vm ∧ U.heap = h0 ∧ CHv Z consts_1 U.vm h0) (fun _ _ _ _ _ => True) (fun _ U o U' => ∃ v L, o = .returned v ∧ Q7_0 Z c0 c1 c2 GC h0 n0 v U'.heap L ∧ CHr Z consts_1 U.vm U.heap U'.vm U'.heap ∧ ReturnedEndW U o U' L ({ frames := 4, cells := 4, slots := 12, locals := 66 } : Room).cells ({ frames := 4, cells := 4, slots := 12, locals := 66 } : Room).slots) := by
  refine MetFree.of_bodySF (plainFor_of_name pn_7) hisR ?_
  intro p e s m args below meth c s₁ Bd hml0 hP hK
  obtain ⟨rfl, hZ, hh, hCH⟩ := hP
  have hx := Bd.exec
  have hby := Bd.bytes
  have hml : c.maxLocals = 4 := hml0
  have hown : s.vm.findClass "com/example/sira/sira/engine/StreamStateKeyPinLaw" = some m.cls := findClass_of_methodNamed Bd.named
  have hnm := (name_of_methodNamed Bd.named Bd.method).1
  have X0 : Stand p l e ({ frames := 4, cells := 4, slots := 12, locals := 66 } : Room) s m #[(.int 0), (.int c0), (.int c1), (.int c2)] below meth c s₁ [] 0 0 := Stand.of_body Bd
  have e0 : s₁.heap = h0 := by rw [← hh, Bd.state]; rfl
  have N0 := Fr.nil n0
  have X0 : Stand p l e ({ frames := 4, cells := 4, slots := 12, locals := 66 } : Room) (s.setVm s.vm) m #[(.int 0), (.int c0), (.int c1), (.int c2)] below meth c s₁ [] 0 0 := X0
  have hZ : Z.Warmed39 (s.setVm s.vm).vm := hZ
  have hown : (s.setVm s.vm).vm.findClass "com/example/sira/sira/engine/StreamStateKeyPinLaw" = some m.cls := hown
  have hS : s.Since s.vm 0 := (State.WarmedH.refl s).since 0
  refine og (B := s₁.setTop (mkF m 0 #[iv 0, iv c0, iv c1, iv c2] [])) (fun t k => castTop (ef_7 m (0 : Int32) c0 c1 c2) k) ?_
  refine og (B := s₁.setTop (mkF m 4 #[iv 0, iv c0, iv c1, iv c2] [])) (fun t k => ?_) ?_
  · refine XS.iloadN X0.here hx rfl (hb hby d7_0) rfl ?_
    refine XS.ifNo X0.here hx rfl (hb hby d7_1) rfl ((if0 _ _).trans (teq (by decide)).2) ?_
    exact k
  obtain ⟨T1, h1, X1, e1, E1, A1, D1, -, st1⟩ := newO X0 hx hZ hown (ow hw 0 rfl) (ow hw 1 rfl) (ow hw 2 rfl) e0 (g := (mkF m 4 #[iv 0, iv c0, iv c1, iv c2] [])) rfl (hb hby d7_4) (by decide) (by decide)
  obtain ⟨b1, g1⟩ : ∃ z, z = h0.size := ⟨_, rfl⟩
  rw [← g1] at A1 D1 st1
  have g_b1 : n0 ≤ b1 := Nat.le_trans Z0 (Nat.le_of_eq g1.symm)
  have sz_b1 : h0.size ≤ b1 := Nat.le_trans (Keep.refl h0 []).1 (Nat.le_of_eq g1.symm)
  have K1 := (Keep.refl h0 []).ext E1
  have O1 := O0.ext E1
  have F1_coder : Fld Z h1 b1 "java/lang/String" "coder" "B" (.int 0) := D1 (Or.inr (ow hw 27 rfl)) (ty := .byte) (by decide)
  have F1_value : Fld Z h1 b1 "java/lang/String" "value" "[B" .null := D1 (Or.inr (ow hw 29 rfl)) (ty := (.array .byte)) (by decide)
  have zk1 := (Nat.le_trans (Nat.zero_le _) E1.1)
  refine og (B := T1.setTop (mkF m 7 #[iv 0, iv c0, iv c1, iv c2] [(.ref b1)])) st1 ?_
  refine og (B := T1.setTop (mkF m 9 #[iv 0, iv c0, iv c1, iv c2] [(.int 0), (.ref b1), (.ref b1)])) (fun t k => ?_) ?_
  · refine XS.dup X1.here hx rfl (hb hby d7_7) rfl rfl ?_
    refine XS.iconst X1.here hx rfl (hb hby d7_8) ?_
    exact k
  obtain ⟨T2, h2, k2, X2, e2, E2, A2, st2⟩ := newP X1 hx hZ (ow hw 3 rfl) e1 (g := (mkF m 9 #[iv 0, iv c0, iv c1, iv c2] [(.int 0), (.ref b1), (.ref b1)])) rfl (hb hby d7_9) rfl (by decide) (cap := 0) (by decide) (by decide) (by decide) (by decide)
  obtain ⟨b2, g2⟩ : ∃ z, z = h1.size := ⟨_, rfl⟩
  rw [← g2] at A2 st2
  have g_b2 : n0 ≤ b2 := Nat.le_trans (Nat.le_trans Z0 E1.1) (Nat.le_of_eq g2.symm)
  have sz_b2 : h0.size ≤ b2 := Nat.le_trans K1.1 (Nat.le_of_eq g2.symm)
  have ne_b1_b2 : b1 ≠ b2 := Nat.ne_of_lt (Nat.lt_of_lt_of_le A1.lt (Nat.le_of_eq g2.symm))
  have c2_E_b1 := A1.ext E2
  have c2_F_b1_coder := F1_coder.ext E2
  have c2_F_b1_value := F1_value.ext E2
  have K2 := K1.ext E2
  have O2 := O1.ext E2
  have V2 : Arv Z h2 b2 k2 .char (0 : Int32) [] (.int 0) := Arv.new A2 (by decide)
  have zs2 := (Nat.le_trans (Nat.le_trans Z0 E1.1) E2.1)
  refine og (B := T2.setTop (mkF m 11 #[iv 0, iv c0, iv c1, iv c2] [(.ref b2), (.ref b1), (.ref b1)])) st2 ?_
  have Ch3p := CHr.ext (own_ext K2) hCH
  obtain ⟨_, _, ⟨T3, L3, k3, n3⟩, -, X3, hS3, hg3, ⟨Lc3, hQ3, l3, y3, z3, hCr3⟩, st3⟩ := X2.specialBackS hx (y := own_y11) rfl hown (mvT hZ (ow hw 4 rfl)) (mvT hZ (ow hw 5 rfl)) (mvT hZ (ow hw 6 rfl)) (by decide) (backOfSH (W := 1) (rm1_0 l Z a0 hw [] b1 b2 k2  GC h2 n0 zs2 S_C hGC O2 c2_E_b1 g_b1 c2_F_b1_value c2_F_b1_coder V2 ne_b1_b2 ) hZ (ow hw 6 rfl) (ow hw 2 rfl) (by decide) (by decide) (own_hEL hw) Ch3p.1) (g := (mkF m 11 #[iv 0, iv c0, iv c1, iv c2] [(.ref b2), (.ref b1), (.ref b1)])) rfl (by rw [hml]; rfl) (Steps.refl _) (a := b1) (argsL := [(.ref b2)]) (rest := [(.ref b1)]) (lenOf own_pd28 rfl) rfl (Nat.le_refl _) (hb hby d7_11) (fun _ _ => ⟨rfl, e2, (by decide : 2 + 2 ≤ _), (by decide : 4 + 4 ≤ _)⟩)
  dsimp only [Pt.U, Pt.locs, Pt.cells, Pt.slots] at X3 l3 y3 z3 st3 hQ3 hS3 hg3 hCr3
  subst l3 y3 z3
  have hS := hS.trans hS3 (Nat.le_trans (Nat.le_trans zk1 E2.1) (Nat.le_trans (Nat.le_of_eq (congrArg Array.size e2.symm)) hg3))
  have hZ : Z.Warmed39 (s.setVm T3.vm).vm := State.Warmed39.trans hZ hS3.1
  have hown : (s.setVm T3.vm).vm.findClass "com/example/sira/sira/engine/StreamStateKeyPinLaw" = some m.cls := (hS3.1.alike.findClass _ _).trans hown
  obtain ⟨rfl, N3q, bq3, kq3, K3q, E3q, F3c, F3v, V3q⟩ := hQ3
  have N3 := Fr.app N0 N3q
  have c3_V_b2 := V2.keep K3q (fun q => (Ne.symm ne_b1_b2) (List.mem_singleton.mp q))
  have O3 := O2.keep K3q (allS g_b1 all0)
  have K3 := K2.trans K3q (allS (Or.inr sz_b1) all0)
  have Ch3 := Ch3p.trans hCr3
  refine og (B := T3.setTop (mkF m 14 #[iv 0, iv c0, iv c1, iv c2] [(.ref b1)])) (fun _ => st3.trans) ?_
  obtain ⟨fs, hr, hrun, hended, hRW⟩ := X3.leaveW hS ((Nat.le_refl _)) (v := some (.ref b1)) (fun h => by rw [Bd.returns] at h; cases h)
  refine ⟨_, _, ?_, hrun, hended, _, _, rfl, ?_, (by have q := (Ch3).trans (CHv.at X3 hZ (own_hEL hw) (Ch3).1); rw [← hh] at q; exact q), hRW.1, hRW.2.1, hRW.2.2.1, hRW.2.2.2.mono (by decide) (by decide)⟩
  · show own_S p e below T3 (mkF m 14 #[iv 0, iv c0, iv c1, iv c2] [(.ref b1)]) _
    jvm_step X3.here [X3.here.top, hx, (hb hby d7_14), X3.method', Bd.returns, Value.isRef, FieldType.isReference]
    first | (intro acts; rw [hr _ acts rfl rfl rfl]) | rw [hr _ _ rfl rfl rfl]
    exact Steps.refl _
  · show Q7_0 Z c0 c1 c2 GC h0 n0 _ T3.heap _
    exact ⟨b1, bq3, kq3, rfl, N3, K3, E3q, F3c, F3v, V3q⟩
theorem d7_15 : decode method_3_code 15 = .ok (.iload_n 0, 1) := by decide +kernel
theorem d7_16 : decode method_3_code 16 = .ok (.iconst 1, 1) := by decide +kernel
theorem d7_17 : decode method_3_code 17 = .ok (.if_icmp .ne 18, 3) := by decide +kernel
theorem d7_20 : decode method_3_code 20 = .ok (.new 7, 3) := by decide +kernel
theorem d7_23 : decode method_3_code 23 = .ok (.dup, 1) := by decide +kernel
theorem d7_24 : decode method_3_code 24 = .ok (.iconst 1, 1) := by decide +kernel
theorem d7_25 : decode method_3_code 25 = .ok (.newarray .char, 2) := by decide +kernel
theorem d7_27 : decode method_3_code 27 = .ok (.dup, 1) := by decide +kernel
theorem d7_28 : decode method_3_code 28 = .ok (.iconst 0, 1) := by decide +kernel
theorem d7_29 : decode method_3_code 29 = .ok (.iload_n 1, 1) := by decide +kernel
theorem d7_30 : decode method_3_code 30 = .ok (.castore, 1) := by decide +kernel
theorem d7_31 : decode method_3_code 31 = .ok (.invokespecial 9, 3) := by decide +kernel
theorem d7_34 : decode method_3_code 34 = .ok (.areturn, 1) := by decide +kernel
def Q7_1 (Z : State) (c0 : Int32) (c1 : Int32) (c2 : Int32) (GC : Int32) (h0 : Heap) (n0 : Nat) (v : Option Value) (h : Heap) (L : List Loc) : Prop := own_QS Z (1 : Int32) [(.int (own_b c0))] h0 n0 v h L
set_option maxRecDepth 65536 in
set_option maxHeartbeats 40000000 in
theorem rm7_1 (l : Launch) (Z : State) (a0 : Array Value) (hw : ∀ d ∈ tables_1, d.before a0 Z = true) (ws : List Jvm.Cond) (c0 : Int32) (c1 : Int32) (c2 : Int32) (GC : Int32) (h0 : Heap) (n0 : Nat) (Z0 : n0 ≤ h0.size) (S_C : Sta Z Z.heap "java/lang/String" "COMPACT_STRINGS" "Z" (.int GC)) (hGC : ¬ GC = (0 : Int32)) (O0 : Old Z n0 h0) (hn_c0 : nar .char c0 = c0) (hp_c0 : ¬ (255 : Int32) < c0) :
    MetFree l own_y39 (head1 (Jvm.Cond.code own_y39 method_3_code 4 (some (.object "java/lang/String")) :: ws) ({ frames := 4, cells := 4, slots := 12, locals := 66 } : Room)) (fun a U => a = #[(.int 1), (.int c0), (.int c1), (.int c2)] ∧ Z.Warmed39 U.vm ∧ U.heap = h0 ∧ CHv Z consts_1 U.vm h0) (fun _ _ _ _ _ => True) (fun _ U o U' => ∃ v L, o = .returned v ∧ Q7_1 Z c0 c1 c2 GC h0 n0 v U'.heap L ∧ CHr Z consts_1 U.vm U.heap U'.vm U'.heap ∧ ReturnedEndW U o U' L ({ frames := 4, cells := 4, slots := 12, locals := 66 } : Room).cells ({ frames := 4, cells := 4, slots := 12, locals := 66 } : Room).slots) := by
  refine MetFree.of_bodySF (plainFor_of_name pn_7) hisR ?_
  intro p e s m args below meth c s₁ Bd hml0 hP hK
  obtain ⟨rfl, hZ, hh, hCH⟩ := hP
  have hx := Bd.exec
  have hby := Bd.bytes
  have hml : c.maxLocals = 4 := hml0
  have hown : s.vm.findClass "com/example/sira/sira/engine/StreamStateKeyPinLaw" = some m.cls := findClass_of_methodNamed Bd.named
  have hnm := (name_of_methodNamed Bd.named Bd.method).1
  have X0 : Stand p l e ({ frames := 4, cells := 4, slots := 12, locals := 66 } : Room) s m #[(.int 1), (.int c0), (.int c1), (.int c2)] below meth c s₁ [] 0 0 := Stand.of_body Bd
  have e0 : s₁.heap = h0 := by rw [← hh, Bd.state]; rfl
  have N0 := Fr.nil n0
  have X0 : Stand p l e ({ frames := 4, cells := 4, slots := 12, locals := 66 } : Room) (s.setVm s.vm) m #[(.int 1), (.int c0), (.int c1), (.int c2)] below meth c s₁ [] 0 0 := X0
  have hZ : Z.Warmed39 (s.setVm s.vm).vm := hZ
  have hown : (s.setVm s.vm).vm.findClass "com/example/sira/sira/engine/StreamStateKeyPinLaw" = some m.cls := hown
  have hS : s.Since s.vm 0 := (State.WarmedH.refl s).since 0
  refine og (B := s₁.setTop (mkF m 0 #[iv 1, iv c0, iv c1, iv c2] [])) (fun t k => castTop (ef_7 m (1 : Int32) c0 c1 c2) k) ?_
  refine og (B := s₁.setTop (mkF m 20 #[iv 1, iv c0, iv c1, iv c2] [])) (fun t k => ?_) ?_
  · refine XS.iloadN X0.here hx rfl (hb hby d7_0) rfl ?_
    refine XS.ifYes X0.here hx rfl (pc0 := 1) (pc' := 15) rfl (hb hby d7_1) rfl ((if0 _ _).trans (feq (by decide)).2) (by decide) (by decide) ?_
    refine XS.iloadN X0.here hx rfl (hb hby d7_15) rfl ?_
    refine XS.iconst X0.here hx rfl (hb hby d7_16) ?_
    refine XS.icmpNo X0.here hx rfl (hb hby d7_17) rfl (teq (by decide)).2 ?_
    exact k
  obtain ⟨T1, h1, X1, e1, E1, A1, D1, -, st1⟩ := newO X0 hx hZ hown (ow hw 0 rfl) (ow hw 1 rfl) (ow hw 2 rfl) e0 (g := (mkF m 20 #[iv 1, iv c0, iv c1, iv c2] [])) rfl (hb hby d7_20) (by decide) (by decide)
  obtain ⟨b1, g1⟩ : ∃ z, z = h0.size := ⟨_, rfl⟩
  rw [← g1] at A1 D1 st1
  have g_b1 : n0 ≤ b1 := Nat.le_trans Z0 (Nat.le_of_eq g1.symm)
  have sz_b1 : h0.size ≤ b1 := Nat.le_trans (Keep.refl h0 []).1 (Nat.le_of_eq g1.symm)
  have K1 := (Keep.refl h0 []).ext E1
  have O1 := O0.ext E1
  have F1_coder : Fld Z h1 b1 "java/lang/String" "coder" "B" (.int 0) := D1 (Or.inr (ow hw 27 rfl)) (ty := .byte) (by decide)
  have F1_value : Fld Z h1 b1 "java/lang/String" "value" "[B" .null := D1 (Or.inr (ow hw 29 rfl)) (ty := (.array .byte)) (by decide)
  have zk1 := (Nat.le_trans (Nat.zero_le _) E1.1)
  refine og (B := T1.setTop (mkF m 23 #[iv 1, iv c0, iv c1, iv c2] [(.ref b1)])) st1 ?_
  refine og (B := T1.setTop (mkF m 25 #[iv 1, iv c0, iv c1, iv c2] [(.int 1), (.ref b1), (.ref b1)])) (fun t k => ?_) ?_
  · refine XS.dup X1.here hx rfl (hb hby d7_23) rfl rfl ?_
    refine XS.iconst X1.here hx rfl (hb hby d7_24) ?_
    exact k
  obtain ⟨T2, h2, k2, X2, e2, E2, A2, st2⟩ := newP X1 hx hZ (ow hw 3 rfl) e1 (g := (mkF m 25 #[iv 1, iv c0, iv c1, iv c2] [(.int 1), (.ref b1), (.ref b1)])) rfl (hb hby d7_25) rfl (by decide) (cap := 1) (by decide) (by decide) (by decide) (by decide)
  obtain ⟨b2, g2⟩ : ∃ z, z = h1.size := ⟨_, rfl⟩
  rw [← g2] at A2 st2
  have g_b2 : n0 ≤ b2 := Nat.le_trans (Nat.le_trans Z0 E1.1) (Nat.le_of_eq g2.symm)
  have sz_b2 : h0.size ≤ b2 := Nat.le_trans K1.1 (Nat.le_of_eq g2.symm)
  have ne_b1_b2 : b1 ≠ b2 := Nat.ne_of_lt (Nat.lt_of_lt_of_le A1.lt (Nat.le_of_eq g2.symm))
  have c2_E_b1 := A1.ext E2
  have c2_F_b1_coder := F1_coder.ext E2
  have c2_F_b1_value := F1_value.ext E2
  have K2 := K1.ext E2
  have O2 := O1.ext E2
  have V2 : Arv Z h2 b2 k2 .char (1 : Int32) [(.int 0)] (.int 0) := (Arv.new A2 (by decide)).pad (pad_rep [] (.int 0) 1)
  have zs2 := (Nat.le_trans (Nat.le_trans Z0 E1.1) E2.1)
  refine og (B := T2.setTop (mkF m 27 #[iv 1, iv c0, iv c1, iv c2] [(.ref b2), (.ref b1), (.ref b1)])) st2 ?_
  refine og (B := T2.setTop (mkF m 30 #[iv 1, iv c0, iv c1, iv c2] [(.int c0), (.int 0), (.ref b2), (.ref b2), (.ref b1), (.ref b1)])) (fun t k => ?_) ?_
  · refine XS.dup X2.here hx rfl (hb hby d7_27) rfl rfl ?_
    refine XS.iconst X2.here hx rfl (hb hby d7_28) ?_
    refine XS.iloadN X2.here hx rfl (hb hby d7_29) rfl ?_
    exact k
  obtain ⟨cl3, Ar3, qk3, S3, M3, H3, G3⟩ := id V2
  obtain ⟨T3, h3, X3, e3, W3, st3⟩ := stC X2 hx hZ e2 Ar3 (j := (0 : Int32)) (inb_of S3 ⟨by decide, by decide⟩) (g := (mkF m 30 #[iv 1, iv c0, iv c1, iv c2] [(.int c0), (.int 0), (.ref b2), (.ref b2), (.ref b1), (.ref b1)])) rfl rfl (hb hby d7_30)
  have V3 : Arv Z h3 b2 k2 .char (1 : Int32) [(.int (nar .char c0))] (.int 0) := Arv.set Ar3 qk3 S3 M3 H3 G3 (fits_nar_char _) W3 0 rfl (Nat.le_of_ble_eq_true rfl)
  have c3_E_b1 := c2_E_b1.wr W3
  have c3_F_b1_coder := c2_F_b1_coder.other W3 (Or.inl ne_b1_b2)
  have c3_F_b1_value := c2_F_b1_value.other W3 (Or.inl ne_b1_b2)
  have K3 := K2.wr W3 (Or.inr sz_b2)
  have O3 := O2.wr W3 g_b2
  have N3 := Fr.snoc X3 N0 g_b2
  have zs3 := (Nat.le_trans zs2 (Keep.of_wr W3).1)
  have zk3 := (Nat.le_trans (Nat.le_trans zk1 E2.1) (Keep.of_wr W3).1)
  refine og (B := T3.setTop (mkF m 31 #[iv 1, iv c0, iv c1, iv c2] [(.ref b2), (.ref b1), (.ref b1)])) st3 ?_
  have Vn4 : Arv Z h3 b2 k2 .char (1 : Int32) [(.int c0)] (.int 0) := by have q := V3; rw [hn_c0] at q; exact q
  obtain ⟨_, _, ⟨T5, L5, k5, n5⟩, -, X5, ⟨Lc5, hQ5, l5, y5, z5⟩, st5⟩ := X3.specialBack hx (y := own_y11) rfl hown (mvT hZ (ow hw 4 rfl)) (mvT hZ (ow hw 5 rfl)) (mvT hZ (ow hw 6 rfl)) (by decide) (backOf (W := 1) (rm1g l Z a0 hw [] b1 b2 k2 (1 : Int32) [(.int c0)] (1 : Int32) [(.int (own_b c0))] GC h3 n0 zs3 S_C hGC O3 c3_E_b1 g_b1 c3_F_b1_value c3_F_b1_coder Vn4 ne_b1_b2 (by decide) (rm4_1 l Z a0 hw [] b2 k2 c0 h3 n0 zs3 Vn4 hp_c0)) hZ (ow hw 6 rfl) (ow hw 2 rfl) (by decide) (by decide)) (g := (mkF m 31 #[iv 1, iv c0, iv c1, iv c2] [(.ref b2), (.ref b1), (.ref b1)])) rfl (by rw [hml]; rfl) (Steps.refl _) (a := b1) (argsL := [(.ref b2)]) (rest := [(.ref b1)]) (lenOf own_pd28 rfl) rfl (Nat.le_refl _) (hb hby d7_31) (fun _ _ => ⟨rfl, e3, (by decide : 2 + 1 ≤ _), (by decide : 5 + 3 ≤ _)⟩)
  dsimp only [Pt.U, Pt.locs, Pt.cells, Pt.slots] at X5 l5 y5 z5 st5 hQ5
  subst l5 y5 z5
  obtain ⟨rfl, N5q, bq5, kq5, K5q, E5q, F5c, F5v, V5q⟩ := hQ5
  have N5 := Fr.app N3 N5q
  rw [show own_cd (1 : Int32) (1 : Int32) = (0 : Int32) from by decide] at F5c
  have c5_V_b2 := Vn4.keep K5q (fun q => (Ne.symm ne_b1_b2) (List.mem_singleton.mp q))
  have O5 := O3.keep K5q (allS g_b1 all0)
  have K5 := K3.trans K5q (allS (Or.inr sz_b1) all0)
  refine og (B := T5.setTop (mkF m 34 #[iv 1, iv c0, iv c1, iv c2] [(.ref b1)])) (fun _ => st5.trans) ?_
  obtain ⟨fs, hr, hrun, hended, hRW⟩ := X5.leaveW hS ((Nat.le_trans zk3 K5q.1)) (v := some (.ref b1)) (fun h => by rw [Bd.returns] at h; cases h)
  refine ⟨_, _, ?_, hrun, hended, _, _, rfl, ?_, (by have q := (CHr.ext (own_ext K5) hCH).trans (CHv.at X5 hZ (own_hEL hw) (CHr.ext (own_ext K5) hCH).1); rw [← hh] at q; exact q), hRW.1, hRW.2.1, hRW.2.2.1, hRW.2.2.2.mono (by decide) (by decide)⟩
  · show own_S p e below T5 (mkF m 34 #[iv 1, iv c0, iv c1, iv c2] [(.ref b1)]) _
    jvm_step X5.here [X5.here.top, hx, (hb hby d7_34), X5.method', Bd.returns, Value.isRef, FieldType.isReference]
    first | (intro acts; rw [hr _ acts rfl rfl rfl]) | rw [hr _ _ rfl rfl rfl]
    exact Steps.refl _
  · show Q7_1 Z c0 c1 c2 GC h0 n0 _ T5.heap _
    exact ⟨b1, bq5, kq5, rfl, N5, K5, E5q, F5c, F5v, V5q⟩
theorem d7_35 : decode method_3_code 35 = .ok (.iload_n 0, 1) := by decide +kernel
theorem d7_36 : decode method_3_code 36 = .ok (.iconst 2, 1) := by decide +kernel
theorem d7_37 : decode method_3_code 37 = .ok (.if_icmp .ne 22, 3) := by decide +kernel
theorem d7_40 : decode method_3_code 40 = .ok (.new 7, 3) := by decide +kernel
theorem d7_43 : decode method_3_code 43 = .ok (.dup, 1) := by decide +kernel
theorem d7_44 : decode method_3_code 44 = .ok (.iconst 2, 1) := by decide +kernel
theorem d7_45 : decode method_3_code 45 = .ok (.newarray .char, 2) := by decide +kernel
theorem d7_47 : decode method_3_code 47 = .ok (.dup, 1) := by decide +kernel
theorem d7_48 : decode method_3_code 48 = .ok (.iconst 0, 1) := by decide +kernel
theorem d7_49 : decode method_3_code 49 = .ok (.iload_n 1, 1) := by decide +kernel
theorem d7_50 : decode method_3_code 50 = .ok (.castore, 1) := by decide +kernel
theorem d7_51 : decode method_3_code 51 = .ok (.dup, 1) := by decide +kernel
theorem d7_52 : decode method_3_code 52 = .ok (.iconst 1, 1) := by decide +kernel
theorem d7_53 : decode method_3_code 53 = .ok (.iload_n 2, 1) := by decide +kernel
theorem d7_54 : decode method_3_code 54 = .ok (.castore, 1) := by decide +kernel
theorem d7_55 : decode method_3_code 55 = .ok (.invokespecial 9, 3) := by decide +kernel
theorem d7_58 : decode method_3_code 58 = .ok (.areturn, 1) := by decide +kernel
def Q7_2 (Z : State) (c0 : Int32) (c1 : Int32) (c2 : Int32) (GC : Int32) (h0 : Heap) (n0 : Nat) (v : Option Value) (h : Heap) (L : List Loc) : Prop := own_QS Z (2 : Int32) [(.int (own_b c0)), (.int (own_b c1))] h0 n0 v h L
set_option maxRecDepth 65536 in
set_option maxHeartbeats 40000000 in
theorem rm7_2 (l : Launch) (Z : State) (a0 : Array Value) (hw : ∀ d ∈ tables_1, d.before a0 Z = true) (ws : List Jvm.Cond) (c0 : Int32) (c1 : Int32) (c2 : Int32) (GC : Int32) (h0 : Heap) (n0 : Nat) (Z0 : n0 ≤ h0.size) (S_C : Sta Z Z.heap "java/lang/String" "COMPACT_STRINGS" "Z" (.int GC)) (hGC : ¬ GC = (0 : Int32)) (O0 : Old Z n0 h0) (hn_c0 : nar .char c0 = c0) (hp_c0 : ¬ (255 : Int32) < c0) (hn_c1 : nar .char c1 = c1) (hp_c1 : ¬ (255 : Int32) < c1) :
    MetFree l own_y39 (head1 (Jvm.Cond.code own_y39 method_3_code 4 (some (.object "java/lang/String")) :: ws) ({ frames := 4, cells := 4, slots := 12, locals := 66 } : Room)) (fun a U => a = #[(.int 2), (.int c0), (.int c1), (.int c2)] ∧ Z.Warmed39 U.vm ∧ U.heap = h0 ∧ CHv Z consts_1 U.vm h0) (fun _ _ _ _ _ => True) (fun _ U o U' => ∃ v L, o = .returned v ∧ Q7_2 Z c0 c1 c2 GC h0 n0 v U'.heap L ∧ CHr Z consts_1 U.vm U.heap U'.vm U'.heap ∧ ReturnedEndW U o U' L ({ frames := 4, cells := 4, slots := 12, locals := 66 } : Room).cells ({ frames := 4, cells := 4, slots := 12, locals := 66 } : Room).slots) := by
  refine MetFree.of_bodySF (plainFor_of_name pn_7) hisR ?_
  intro p e s m args below meth c s₁ Bd hml0 hP hK
  obtain ⟨rfl, hZ, hh, hCH⟩ := hP
  have hx := Bd.exec
  have hby := Bd.bytes
  have hml : c.maxLocals = 4 := hml0
  have hown : s.vm.findClass "com/example/sira/sira/engine/StreamStateKeyPinLaw" = some m.cls := findClass_of_methodNamed Bd.named
  have hnm := (name_of_methodNamed Bd.named Bd.method).1
  have X0 : Stand p l e ({ frames := 4, cells := 4, slots := 12, locals := 66 } : Room) s m #[(.int 2), (.int c0), (.int c1), (.int c2)] below meth c s₁ [] 0 0 := Stand.of_body Bd
  have e0 : s₁.heap = h0 := by rw [← hh, Bd.state]; rfl
  have N0 := Fr.nil n0
  have X0 : Stand p l e ({ frames := 4, cells := 4, slots := 12, locals := 66 } : Room) (s.setVm s.vm) m #[(.int 2), (.int c0), (.int c1), (.int c2)] below meth c s₁ [] 0 0 := X0
  have hZ : Z.Warmed39 (s.setVm s.vm).vm := hZ
  have hown : (s.setVm s.vm).vm.findClass "com/example/sira/sira/engine/StreamStateKeyPinLaw" = some m.cls := hown
  have hS : s.Since s.vm 0 := (State.WarmedH.refl s).since 0
  refine og (B := s₁.setTop (mkF m 0 #[iv 2, iv c0, iv c1, iv c2] [])) (fun t k => castTop (ef_7 m (2 : Int32) c0 c1 c2) k) ?_
  refine og (B := s₁.setTop (mkF m 40 #[iv 2, iv c0, iv c1, iv c2] [])) (fun t k => ?_) ?_
  · refine XS.iloadN X0.here hx rfl (hb hby d7_0) rfl ?_
    refine XS.ifYes X0.here hx rfl (pc0 := 1) (pc' := 15) rfl (hb hby d7_1) rfl ((if0 _ _).trans (feq (by decide)).2) (by decide) (by decide) ?_
    refine XS.iloadN X0.here hx rfl (hb hby d7_15) rfl ?_
    refine XS.iconst X0.here hx rfl (hb hby d7_16) ?_
    refine XS.icmpYes X0.here hx rfl (pc0 := 17) (pc' := 35) rfl (hb hby d7_17) rfl (feq (by decide)).2 (by decide) (by decide) ?_
    refine XS.iloadN X0.here hx rfl (hb hby d7_35) rfl ?_
    show own_S p e below s₁ (mkF m 36 #[iv 2, iv c0, iv c1, iv c2] [(.int 2)]) _
    refine XS.iconst X0.here hx rfl (hb hby d7_36) ?_
    refine XS.icmpNo X0.here hx rfl (hb hby d7_37) rfl (teq (by decide)).2 ?_
    exact k
  obtain ⟨T1, h1, X1, e1, E1, A1, D1, -, st1⟩ := newO X0 hx hZ hown (ow hw 0 rfl) (ow hw 1 rfl) (ow hw 2 rfl) e0 (g := (mkF m 40 #[iv 2, iv c0, iv c1, iv c2] [])) rfl (hb hby d7_40) (by decide) (by decide)
  obtain ⟨b1, g1⟩ : ∃ z, z = h0.size := ⟨_, rfl⟩
  rw [← g1] at A1 D1 st1
  have g_b1 : n0 ≤ b1 := Nat.le_trans Z0 (Nat.le_of_eq g1.symm)
  have sz_b1 : h0.size ≤ b1 := Nat.le_trans (Keep.refl h0 []).1 (Nat.le_of_eq g1.symm)
  have K1 := (Keep.refl h0 []).ext E1
  have O1 := O0.ext E1
  have F1_coder : Fld Z h1 b1 "java/lang/String" "coder" "B" (.int 0) := D1 (Or.inr (ow hw 27 rfl)) (ty := .byte) (by decide)
  have F1_value : Fld Z h1 b1 "java/lang/String" "value" "[B" .null := D1 (Or.inr (ow hw 29 rfl)) (ty := (.array .byte)) (by decide)
  have zk1 := (Nat.le_trans (Nat.zero_le _) E1.1)
  refine og (B := T1.setTop (mkF m 43 #[iv 2, iv c0, iv c1, iv c2] [(.ref b1)])) st1 ?_
  refine og (B := T1.setTop (mkF m 45 #[iv 2, iv c0, iv c1, iv c2] [(.int 2), (.ref b1), (.ref b1)])) (fun t k => ?_) ?_
  · refine XS.dup X1.here hx rfl (hb hby d7_43) rfl rfl ?_
    refine XS.iconst X1.here hx rfl (hb hby d7_44) ?_
    exact k
  obtain ⟨T2, h2, k2, X2, e2, E2, A2, st2⟩ := newP X1 hx hZ (ow hw 3 rfl) e1 (g := (mkF m 45 #[iv 2, iv c0, iv c1, iv c2] [(.int 2), (.ref b1), (.ref b1)])) rfl (hb hby d7_45) rfl (by decide) (cap := 2) (by decide) (by decide) (by decide) (by decide)
  obtain ⟨b2, g2⟩ : ∃ z, z = h1.size := ⟨_, rfl⟩
  rw [← g2] at A2 st2
  have g_b2 : n0 ≤ b2 := Nat.le_trans (Nat.le_trans Z0 E1.1) (Nat.le_of_eq g2.symm)
  have sz_b2 : h0.size ≤ b2 := Nat.le_trans K1.1 (Nat.le_of_eq g2.symm)
  have ne_b1_b2 : b1 ≠ b2 := Nat.ne_of_lt (Nat.lt_of_lt_of_le A1.lt (Nat.le_of_eq g2.symm))
  have c2_E_b1 := A1.ext E2
  have c2_F_b1_coder := F1_coder.ext E2
  have c2_F_b1_value := F1_value.ext E2
  have K2 := K1.ext E2
  have O2 := O1.ext E2
  have V2 : Arv Z h2 b2 k2 .char (2 : Int32) [(.int 0), (.int 0)] (.int 0) := (Arv.new A2 (by decide)).pad (pad_rep [] (.int 0) 2)
  have zs2 := (Nat.le_trans (Nat.le_trans Z0 E1.1) E2.1)
  refine og (B := T2.setTop (mkF m 47 #[iv 2, iv c0, iv c1, iv c2] [(.ref b2), (.ref b1), (.ref b1)])) st2 ?_
  refine og (B := T2.setTop (mkF m 50 #[iv 2, iv c0, iv c1, iv c2] [(.int c0), (.int 0), (.ref b2), (.ref b2), (.ref b1), (.ref b1)])) (fun t k => ?_) ?_
  · refine XS.dup X2.here hx rfl (hb hby d7_47) rfl rfl ?_
    refine XS.iconst X2.here hx rfl (hb hby d7_48) ?_
    refine XS.iloadN X2.here hx rfl (hb hby d7_49) rfl ?_
    exact k
  obtain ⟨cl3, Ar3, qk3, S3, M3, H3, G3⟩ := id V2
  obtain ⟨T3, h3, X3, e3, W3, st3⟩ := stC X2 hx hZ e2 Ar3 (j := (0 : Int32)) (inb_of S3 ⟨by decide, by decide⟩) (g := (mkF m 50 #[iv 2, iv c0, iv c1, iv c2] [(.int c0), (.int 0), (.ref b2), (.ref b2), (.ref b1), (.ref b1)])) rfl rfl (hb hby d7_50)
  have V3 : Arv Z h3 b2 k2 .char (2 : Int32) [(.int (nar .char c0)), (.int 0)] (.int 0) := Arv.set Ar3 qk3 S3 M3 H3 G3 (fits_nar_char _) W3 0 rfl (Nat.le_of_ble_eq_true rfl)
  have c3_E_b1 := c2_E_b1.wr W3
  have c3_F_b1_coder := c2_F_b1_coder.other W3 (Or.inl ne_b1_b2)
  have c3_F_b1_value := c2_F_b1_value.other W3 (Or.inl ne_b1_b2)
  have K3 := K2.wr W3 (Or.inr sz_b2)
  have O3 := O2.wr W3 g_b2
  have N3 := Fr.snoc X3 N0 g_b2
  have zs3 := (Nat.le_trans zs2 (Keep.of_wr W3).1)
  have zk3 := (Nat.le_trans (Nat.le_trans zk1 E2.1) (Keep.of_wr W3).1)
  refine og (B := T3.setTop (mkF m 51 #[iv 2, iv c0, iv c1, iv c2] [(.ref b2), (.ref b1), (.ref b1)])) st3 ?_
  refine og (B := T3.setTop (mkF m 54 #[iv 2, iv c0, iv c1, iv c2] [(.int c1), (.int 1), (.ref b2), (.ref b2), (.ref b1), (.ref b1)])) (fun t k => ?_) ?_
  · refine XS.dup X3.here hx rfl (hb hby d7_51) rfl rfl ?_
    refine XS.iconst X3.here hx rfl (hb hby d7_52) ?_
    refine XS.iloadN X3.here hx rfl (hb hby d7_53) rfl ?_
    exact k
  obtain ⟨cl4, Ar4, qk4, S4, M4, H4, G4⟩ := id V3
  obtain ⟨T4, h4, X4, e4, W4, st4⟩ := stC X3 hx hZ e3 Ar4 (j := (1 : Int32)) (inb_of S4 ⟨by decide, by decide⟩) (g := (mkF m 54 #[iv 2, iv c0, iv c1, iv c2] [(.int c1), (.int 1), (.ref b2), (.ref b2), (.ref b1), (.ref b1)])) rfl rfl (hb hby d7_54)
  have V4 : Arv Z h4 b2 k2 .char (2 : Int32) [(.int (nar .char c0)), (.int (nar .char c1))] (.int 0) := Arv.set Ar4 qk4 S4 M4 H4 G4 (fits_nar_char _) W4 1 rfl (Nat.le_of_ble_eq_true rfl)
  have c4_E_b1 := c3_E_b1.wr W4
  have c4_F_b1_coder := c3_F_b1_coder.other W4 (Or.inl ne_b1_b2)
  have c4_F_b1_value := c3_F_b1_value.other W4 (Or.inl ne_b1_b2)
  have K4 := K3.wr W4 (Or.inr sz_b2)
  have O4 := O3.wr W4 g_b2
  have N4 := Fr.snoc X4 N3 g_b2
  have zs4 := (Nat.le_trans zs3 (Keep.of_wr W4).1)
  have zk4 := (Nat.le_trans zk3 (Keep.of_wr W4).1)
  refine og (B := T4.setTop (mkF m 55 #[iv 2, iv c0, iv c1, iv c2] [(.ref b2), (.ref b1), (.ref b1)])) st4 ?_
  have Vn5 : Arv Z h4 b2 k2 .char (2 : Int32) [(.int c0), (.int c1)] (.int 0) := by have q := V4; rw [hn_c0, hn_c1] at q; exact q
  obtain ⟨_, _, ⟨T6, L6, k6, n6⟩, -, X6, ⟨Lc6, hQ6, l6, y6, z6⟩, st6⟩ := X4.specialBack hx (y := own_y11) rfl hown (mvT hZ (ow hw 4 rfl)) (mvT hZ (ow hw 5 rfl)) (mvT hZ (ow hw 6 rfl)) (by decide) (backOf (W := 1) (rm1g l Z a0 hw [] b1 b2 k2 (2 : Int32) [(.int c0), (.int c1)] (2 : Int32) [(.int (own_b c0)), (.int (own_b c1))] GC h4 n0 zs4 S_C hGC O4 c4_E_b1 g_b1 c4_F_b1_value c4_F_b1_coder Vn5 ne_b1_b2 (by decide) (rm4_2 l Z a0 hw [] b2 k2 c0 c1 h4 n0 zs4 Vn5 hp_c0 hp_c1)) hZ (ow hw 6 rfl) (ow hw 2 rfl) (by decide) (by decide)) (g := (mkF m 55 #[iv 2, iv c0, iv c1, iv c2] [(.ref b2), (.ref b1), (.ref b1)])) rfl (by rw [hml]; rfl) (Steps.refl _) (a := b1) (argsL := [(.ref b2)]) (rest := [(.ref b1)]) (lenOf own_pd28 rfl) rfl (Nat.le_refl _) (hb hby d7_55) (fun _ _ => ⟨rfl, e4, (by decide : 2 + 1 ≤ _), (by decide : 6 + 3 ≤ _)⟩)
  dsimp only [Pt.U, Pt.locs, Pt.cells, Pt.slots] at X6 l6 y6 z6 st6 hQ6
  subst l6 y6 z6
  obtain ⟨rfl, N6q, bq6, kq6, K6q, E6q, F6c, F6v, V6q⟩ := hQ6
  have N6 := Fr.app N4 N6q
  rw [show own_cd (2 : Int32) (2 : Int32) = (0 : Int32) from by decide] at F6c
  have c6_V_b2 := Vn5.keep K6q (fun q => (Ne.symm ne_b1_b2) (List.mem_singleton.mp q))
  have O6 := O4.keep K6q (allS g_b1 all0)
  have K6 := K4.trans K6q (allS (Or.inr sz_b1) all0)
  refine og (B := T6.setTop (mkF m 58 #[iv 2, iv c0, iv c1, iv c2] [(.ref b1)])) (fun _ => st6.trans) ?_
  obtain ⟨fs, hr, hrun, hended, hRW⟩ := X6.leaveW hS ((Nat.le_trans zk4 K6q.1)) (v := some (.ref b1)) (fun h => by rw [Bd.returns] at h; cases h)
  refine ⟨_, _, ?_, hrun, hended, _, _, rfl, ?_, (by have q := (CHr.ext (own_ext K6) hCH).trans (CHv.at X6 hZ (own_hEL hw) (CHr.ext (own_ext K6) hCH).1); rw [← hh] at q; exact q), hRW.1, hRW.2.1, hRW.2.2.1, hRW.2.2.2.mono (by decide) (by decide)⟩
  · show own_S p e below T6 (mkF m 58 #[iv 2, iv c0, iv c1, iv c2] [(.ref b1)]) _
    jvm_step X6.here [X6.here.top, hx, (hb hby d7_58), X6.method', Bd.returns, Value.isRef, FieldType.isReference]
    first | (intro acts; rw [hr _ acts rfl rfl rfl]) | rw [hr _ _ rfl rfl rfl]
    exact Steps.refl _
  · show Q7_2 Z c0 c1 c2 GC h0 n0 _ T6.heap _
    exact ⟨b1, bq6, kq6, rfl, N6, K6, E6q, F6c, F6v, V6q⟩
theorem d7_59 : decode method_3_code 59 = .ok (.new 7, 3) := by decide +kernel
theorem d7_62 : decode method_3_code 62 = .ok (.dup, 1) := by decide +kernel
theorem d7_63 : decode method_3_code 63 = .ok (.iconst 3, 1) := by decide +kernel
theorem d7_64 : decode method_3_code 64 = .ok (.newarray .char, 2) := by decide +kernel
theorem d7_66 : decode method_3_code 66 = .ok (.dup, 1) := by decide +kernel
theorem d7_67 : decode method_3_code 67 = .ok (.iconst 0, 1) := by decide +kernel
theorem d7_68 : decode method_3_code 68 = .ok (.iload_n 1, 1) := by decide +kernel
theorem d7_69 : decode method_3_code 69 = .ok (.castore, 1) := by decide +kernel
theorem d7_70 : decode method_3_code 70 = .ok (.dup, 1) := by decide +kernel
theorem d7_71 : decode method_3_code 71 = .ok (.iconst 1, 1) := by decide +kernel
theorem d7_72 : decode method_3_code 72 = .ok (.iload_n 2, 1) := by decide +kernel
theorem d7_73 : decode method_3_code 73 = .ok (.castore, 1) := by decide +kernel
theorem d7_74 : decode method_3_code 74 = .ok (.dup, 1) := by decide +kernel
theorem d7_75 : decode method_3_code 75 = .ok (.iconst 2, 1) := by decide +kernel
theorem d7_76 : decode method_3_code 76 = .ok (.iload_n 3, 1) := by decide +kernel
theorem d7_77 : decode method_3_code 77 = .ok (.castore, 1) := by decide +kernel
theorem d7_78 : decode method_3_code 78 = .ok (.invokespecial 9, 3) := by decide +kernel
theorem d7_81 : decode method_3_code 81 = .ok (.areturn, 1) := by decide +kernel
def Q7_3 (Z : State) (c0 : Int32) (c1 : Int32) (c2 : Int32) (GC : Int32) (h0 : Heap) (n0 : Nat) (v : Option Value) (h : Heap) (L : List Loc) : Prop := own_QS Z (3 : Int32) [(.int (own_b c0)), (.int (own_b c1)), (.int (own_b c2))] h0 n0 v h L
set_option maxRecDepth 65536 in
set_option maxHeartbeats 40000000 in
theorem rm7_3 (l : Launch) (Z : State) (a0 : Array Value) (hw : ∀ d ∈ tables_1, d.before a0 Z = true) (ws : List Jvm.Cond) (c0 : Int32) (c1 : Int32) (c2 : Int32) (GC : Int32) (h0 : Heap) (n0 : Nat) (Z0 : n0 ≤ h0.size) (S_C : Sta Z Z.heap "java/lang/String" "COMPACT_STRINGS" "Z" (.int GC)) (hGC : ¬ GC = (0 : Int32)) (O0 : Old Z n0 h0) (hn_c0 : nar .char c0 = c0) (hp_c0 : ¬ (255 : Int32) < c0) (hn_c1 : nar .char c1 = c1) (hp_c1 : ¬ (255 : Int32) < c1) (hn_c2 : nar .char c2 = c2) (hp_c2 : ¬ (255 : Int32) < c2) :
    MetFree l own_y39 (head1 (Jvm.Cond.code own_y39 method_3_code 4 (some (.object "java/lang/String")) :: ws) ({ frames := 4, cells := 4, slots := 12, locals := 66 } : Room)) (fun a U => a = #[(.int 3), (.int c0), (.int c1), (.int c2)] ∧ Z.Warmed39 U.vm ∧ U.heap = h0 ∧ CHv Z consts_1 U.vm h0) (fun _ _ _ _ _ => True) (fun _ U o U' => ∃ v L, o = .returned v ∧ Q7_3 Z c0 c1 c2 GC h0 n0 v U'.heap L ∧ CHr Z consts_1 U.vm U.heap U'.vm U'.heap ∧ ReturnedEndW U o U' L ({ frames := 4, cells := 4, slots := 12, locals := 66 } : Room).cells ({ frames := 4, cells := 4, slots := 12, locals := 66 } : Room).slots) := by
  refine MetFree.of_bodySF (plainFor_of_name pn_7) hisR ?_
  intro p e s m args below meth c s₁ Bd hml0 hP hK
  obtain ⟨rfl, hZ, hh, hCH⟩ := hP
  have hx := Bd.exec
  have hby := Bd.bytes
  have hml : c.maxLocals = 4 := hml0
  have hown : s.vm.findClass "com/example/sira/sira/engine/StreamStateKeyPinLaw" = some m.cls := findClass_of_methodNamed Bd.named
  have hnm := (name_of_methodNamed Bd.named Bd.method).1
  have X0 : Stand p l e ({ frames := 4, cells := 4, slots := 12, locals := 66 } : Room) s m #[(.int 3), (.int c0), (.int c1), (.int c2)] below meth c s₁ [] 0 0 := Stand.of_body Bd
  have e0 : s₁.heap = h0 := by rw [← hh, Bd.state]; rfl
  have N0 := Fr.nil n0
  have X0 : Stand p l e ({ frames := 4, cells := 4, slots := 12, locals := 66 } : Room) (s.setVm s.vm) m #[(.int 3), (.int c0), (.int c1), (.int c2)] below meth c s₁ [] 0 0 := X0
  have hZ : Z.Warmed39 (s.setVm s.vm).vm := hZ
  have hown : (s.setVm s.vm).vm.findClass "com/example/sira/sira/engine/StreamStateKeyPinLaw" = some m.cls := hown
  have hS : s.Since s.vm 0 := (State.WarmedH.refl s).since 0
  refine og (B := s₁.setTop (mkF m 0 #[iv 3, iv c0, iv c1, iv c2] [])) (fun t k => castTop (ef_7 m (3 : Int32) c0 c1 c2) k) ?_
  refine og (B := s₁.setTop (mkF m 59 #[iv 3, iv c0, iv c1, iv c2] [])) (fun t k => ?_) ?_
  · refine XS.iloadN X0.here hx rfl (hb hby d7_0) rfl ?_
    refine XS.ifYes X0.here hx rfl (pc0 := 1) (pc' := 15) rfl (hb hby d7_1) rfl ((if0 _ _).trans (feq (by decide)).2) (by decide) (by decide) ?_
    refine XS.iloadN X0.here hx rfl (hb hby d7_15) rfl ?_
    refine XS.iconst X0.here hx rfl (hb hby d7_16) ?_
    refine XS.icmpYes X0.here hx rfl (pc0 := 17) (pc' := 35) rfl (hb hby d7_17) rfl (feq (by decide)).2 (by decide) (by decide) ?_
    refine XS.iloadN X0.here hx rfl (hb hby d7_35) rfl ?_
    show own_S p e below s₁ (mkF m 36 #[iv 3, iv c0, iv c1, iv c2] [(.int 3)]) _
    refine XS.iconst X0.here hx rfl (hb hby d7_36) ?_
    refine XS.icmpYes X0.here hx rfl (pc0 := 37) (pc' := 59) rfl (hb hby d7_37) rfl (feq (by decide)).2 (by decide) (by decide) ?_
    exact k
  obtain ⟨T1, h1, X1, e1, E1, A1, D1, -, st1⟩ := newO X0 hx hZ hown (ow hw 0 rfl) (ow hw 1 rfl) (ow hw 2 rfl) e0 (g := (mkF m 59 #[iv 3, iv c0, iv c1, iv c2] [])) rfl (hb hby d7_59) (by decide) (by decide)
  obtain ⟨b1, g1⟩ : ∃ z, z = h0.size := ⟨_, rfl⟩
  rw [← g1] at A1 D1 st1
  have g_b1 : n0 ≤ b1 := Nat.le_trans Z0 (Nat.le_of_eq g1.symm)
  have sz_b1 : h0.size ≤ b1 := Nat.le_trans (Keep.refl h0 []).1 (Nat.le_of_eq g1.symm)
  have K1 := (Keep.refl h0 []).ext E1
  have O1 := O0.ext E1
  have F1_coder : Fld Z h1 b1 "java/lang/String" "coder" "B" (.int 0) := D1 (Or.inr (ow hw 27 rfl)) (ty := .byte) (by decide)
  have F1_value : Fld Z h1 b1 "java/lang/String" "value" "[B" .null := D1 (Or.inr (ow hw 29 rfl)) (ty := (.array .byte)) (by decide)
  have zk1 := (Nat.le_trans (Nat.zero_le _) E1.1)
  refine og (B := T1.setTop (mkF m 62 #[iv 3, iv c0, iv c1, iv c2] [(.ref b1)])) st1 ?_
  refine og (B := T1.setTop (mkF m 64 #[iv 3, iv c0, iv c1, iv c2] [(.int 3), (.ref b1), (.ref b1)])) (fun t k => ?_) ?_
  · refine XS.dup X1.here hx rfl (hb hby d7_62) rfl rfl ?_
    refine XS.iconst X1.here hx rfl (hb hby d7_63) ?_
    exact k
  obtain ⟨T2, h2, k2, X2, e2, E2, A2, st2⟩ := newP X1 hx hZ (ow hw 3 rfl) e1 (g := (mkF m 64 #[iv 3, iv c0, iv c1, iv c2] [(.int 3), (.ref b1), (.ref b1)])) rfl (hb hby d7_64) rfl (by decide) (cap := 3) (by decide) (by decide) (by decide) (by decide)
  obtain ⟨b2, g2⟩ : ∃ z, z = h1.size := ⟨_, rfl⟩
  rw [← g2] at A2 st2
  have g_b2 : n0 ≤ b2 := Nat.le_trans (Nat.le_trans Z0 E1.1) (Nat.le_of_eq g2.symm)
  have sz_b2 : h0.size ≤ b2 := Nat.le_trans K1.1 (Nat.le_of_eq g2.symm)
  have ne_b1_b2 : b1 ≠ b2 := Nat.ne_of_lt (Nat.lt_of_lt_of_le A1.lt (Nat.le_of_eq g2.symm))
  have c2_E_b1 := A1.ext E2
  have c2_F_b1_coder := F1_coder.ext E2
  have c2_F_b1_value := F1_value.ext E2
  have K2 := K1.ext E2
  have O2 := O1.ext E2
  have V2 : Arv Z h2 b2 k2 .char (3 : Int32) [(.int 0), (.int 0), (.int 0)] (.int 0) := (Arv.new A2 (by decide)).pad (pad_rep [] (.int 0) 3)
  have zs2 := (Nat.le_trans (Nat.le_trans Z0 E1.1) E2.1)
  refine og (B := T2.setTop (mkF m 66 #[iv 3, iv c0, iv c1, iv c2] [(.ref b2), (.ref b1), (.ref b1)])) st2 ?_
  refine og (B := T2.setTop (mkF m 69 #[iv 3, iv c0, iv c1, iv c2] [(.int c0), (.int 0), (.ref b2), (.ref b2), (.ref b1), (.ref b1)])) (fun t k => ?_) ?_
  · refine XS.dup X2.here hx rfl (hb hby d7_66) rfl rfl ?_
    refine XS.iconst X2.here hx rfl (hb hby d7_67) ?_
    refine XS.iloadN X2.here hx rfl (hb hby d7_68) rfl ?_
    exact k
  obtain ⟨cl3, Ar3, qk3, S3, M3, H3, G3⟩ := id V2
  obtain ⟨T3, h3, X3, e3, W3, st3⟩ := stC X2 hx hZ e2 Ar3 (j := (0 : Int32)) (inb_of S3 ⟨by decide, by decide⟩) (g := (mkF m 69 #[iv 3, iv c0, iv c1, iv c2] [(.int c0), (.int 0), (.ref b2), (.ref b2), (.ref b1), (.ref b1)])) rfl rfl (hb hby d7_69)
  have V3 : Arv Z h3 b2 k2 .char (3 : Int32) [(.int (nar .char c0)), (.int 0), (.int 0)] (.int 0) := Arv.set Ar3 qk3 S3 M3 H3 G3 (fits_nar_char _) W3 0 rfl (Nat.le_of_ble_eq_true rfl)
  have c3_E_b1 := c2_E_b1.wr W3
  have c3_F_b1_coder := c2_F_b1_coder.other W3 (Or.inl ne_b1_b2)
  have c3_F_b1_value := c2_F_b1_value.other W3 (Or.inl ne_b1_b2)
  have K3 := K2.wr W3 (Or.inr sz_b2)
  have O3 := O2.wr W3 g_b2
  have N3 := Fr.snoc X3 N0 g_b2
  have zs3 := (Nat.le_trans zs2 (Keep.of_wr W3).1)
  have zk3 := (Nat.le_trans (Nat.le_trans zk1 E2.1) (Keep.of_wr W3).1)
  refine og (B := T3.setTop (mkF m 70 #[iv 3, iv c0, iv c1, iv c2] [(.ref b2), (.ref b1), (.ref b1)])) st3 ?_
  refine og (B := T3.setTop (mkF m 73 #[iv 3, iv c0, iv c1, iv c2] [(.int c1), (.int 1), (.ref b2), (.ref b2), (.ref b1), (.ref b1)])) (fun t k => ?_) ?_
  · refine XS.dup X3.here hx rfl (hb hby d7_70) rfl rfl ?_
    refine XS.iconst X3.here hx rfl (hb hby d7_71) ?_
    refine XS.iloadN X3.here hx rfl (hb hby d7_72) rfl ?_
    exact k
  obtain ⟨cl4, Ar4, qk4, S4, M4, H4, G4⟩ := id V3
  obtain ⟨T4, h4, X4, e4, W4, st4⟩ := stC X3 hx hZ e3 Ar4 (j := (1 : Int32)) (inb_of S4 ⟨by decide, by decide⟩) (g := (mkF m 73 #[iv 3, iv c0, iv c1, iv c2] [(.int c1), (.int 1), (.ref b2), (.ref b2), (.ref b1), (.ref b1)])) rfl rfl (hb hby d7_73)
  have V4 : Arv Z h4 b2 k2 .char (3 : Int32) [(.int (nar .char c0)), (.int (nar .char c1)), (.int 0)] (.int 0) := Arv.set Ar4 qk4 S4 M4 H4 G4 (fits_nar_char _) W4 1 rfl (Nat.le_of_ble_eq_true rfl)
  have c4_E_b1 := c3_E_b1.wr W4
  have c4_F_b1_coder := c3_F_b1_coder.other W4 (Or.inl ne_b1_b2)
  have c4_F_b1_value := c3_F_b1_value.other W4 (Or.inl ne_b1_b2)
  have K4 := K3.wr W4 (Or.inr sz_b2)
  have O4 := O3.wr W4 g_b2
  have N4 := Fr.snoc X4 N3 g_b2
  have zs4 := (Nat.le_trans zs3 (Keep.of_wr W4).1)
  have zk4 := (Nat.le_trans zk3 (Keep.of_wr W4).1)
  refine og (B := T4.setTop (mkF m 74 #[iv 3, iv c0, iv c1, iv c2] [(.ref b2), (.ref b1), (.ref b1)])) st4 ?_
  refine og (B := T4.setTop (mkF m 77 #[iv 3, iv c0, iv c1, iv c2] [(.int c2), (.int 2), (.ref b2), (.ref b2), (.ref b1), (.ref b1)])) (fun t k => ?_) ?_
  · refine XS.dup X4.here hx rfl (hb hby d7_74) rfl rfl ?_
    refine XS.iconst X4.here hx rfl (hb hby d7_75) ?_
    refine XS.iloadN X4.here hx rfl (hb hby d7_76) rfl ?_
    exact k
  obtain ⟨cl5, Ar5, qk5, S5, M5, H5, G5⟩ := id V4
  obtain ⟨T5, h5, X5, e5, W5, st5⟩ := stC X4 hx hZ e4 Ar5 (j := (2 : Int32)) (inb_of S5 ⟨by decide, by decide⟩) (g := (mkF m 77 #[iv 3, iv c0, iv c1, iv c2] [(.int c2), (.int 2), (.ref b2), (.ref b2), (.ref b1), (.ref b1)])) rfl rfl (hb hby d7_77)
  have V5 : Arv Z h5 b2 k2 .char (3 : Int32) [(.int (nar .char c0)), (.int (nar .char c1)), (.int (nar .char c2))] (.int 0) := Arv.set Ar5 qk5 S5 M5 H5 G5 (fits_nar_char _) W5 2 rfl (Nat.le_of_ble_eq_true rfl)
  have c5_E_b1 := c4_E_b1.wr W5
  have c5_F_b1_coder := c4_F_b1_coder.other W5 (Or.inl ne_b1_b2)
  have c5_F_b1_value := c4_F_b1_value.other W5 (Or.inl ne_b1_b2)
  have K5 := K4.wr W5 (Or.inr sz_b2)
  have O5 := O4.wr W5 g_b2
  have N5 := Fr.snoc X5 N4 g_b2
  have zs5 := (Nat.le_trans zs4 (Keep.of_wr W5).1)
  have zk5 := (Nat.le_trans zk4 (Keep.of_wr W5).1)
  refine og (B := T5.setTop (mkF m 78 #[iv 3, iv c0, iv c1, iv c2] [(.ref b2), (.ref b1), (.ref b1)])) st5 ?_
  have Vn6 : Arv Z h5 b2 k2 .char (3 : Int32) [(.int c0), (.int c1), (.int c2)] (.int 0) := by have q := V5; rw [hn_c0, hn_c1, hn_c2] at q; exact q
  obtain ⟨_, _, ⟨T7, L7, k7, n7⟩, -, X7, ⟨Lc7, hQ7, l7, y7, z7⟩, st7⟩ := X5.specialBack hx (y := own_y11) rfl hown (mvT hZ (ow hw 4 rfl)) (mvT hZ (ow hw 5 rfl)) (mvT hZ (ow hw 6 rfl)) (by decide) (backOf (W := 1) (rm1g l Z a0 hw [] b1 b2 k2 (3 : Int32) [(.int c0), (.int c1), (.int c2)] (3 : Int32) [(.int (own_b c0)), (.int (own_b c1)), (.int (own_b c2))] GC h5 n0 zs5 S_C hGC O5 c5_E_b1 g_b1 c5_F_b1_value c5_F_b1_coder Vn6 ne_b1_b2 (by decide) (rm4_3 l Z a0 hw [] b2 k2 c0 c1 c2 h5 n0 zs5 Vn6 hp_c0 hp_c1 hp_c2)) hZ (ow hw 6 rfl) (ow hw 2 rfl) (by decide) (by decide)) (g := (mkF m 78 #[iv 3, iv c0, iv c1, iv c2] [(.ref b2), (.ref b1), (.ref b1)])) rfl (by rw [hml]; rfl) (Steps.refl _) (a := b1) (argsL := [(.ref b2)]) (rest := [(.ref b1)]) (lenOf own_pd28 rfl) rfl (Nat.le_refl _) (hb hby d7_78) (fun _ _ => ⟨rfl, e5, (by decide : 2 + 1 ≤ _), (by decide : 7 + 3 ≤ _)⟩)
  dsimp only [Pt.U, Pt.locs, Pt.cells, Pt.slots] at X7 l7 y7 z7 st7 hQ7
  subst l7 y7 z7
  obtain ⟨rfl, N7q, bq7, kq7, K7q, E7q, F7c, F7v, V7q⟩ := hQ7
  have N7 := Fr.app N5 N7q
  rw [show own_cd (3 : Int32) (3 : Int32) = (0 : Int32) from by decide] at F7c
  have c7_V_b2 := Vn6.keep K7q (fun q => (Ne.symm ne_b1_b2) (List.mem_singleton.mp q))
  have O7 := O5.keep K7q (allS g_b1 all0)
  have K7 := K5.trans K7q (allS (Or.inr sz_b1) all0)
  refine og (B := T7.setTop (mkF m 81 #[iv 3, iv c0, iv c1, iv c2] [(.ref b1)])) (fun _ => st7.trans) ?_
  obtain ⟨fs, hr, hrun, hended, hRW⟩ := X7.leaveW hS ((Nat.le_trans zk5 K7q.1)) (v := some (.ref b1)) (fun h => by rw [Bd.returns] at h; cases h)
  refine ⟨_, _, ?_, hrun, hended, _, _, rfl, ?_, (by have q := (CHr.ext (own_ext K7) hCH).trans (CHv.at X7 hZ (own_hEL hw) (CHr.ext (own_ext K7) hCH).1); rw [← hh] at q; exact q), hRW.1, hRW.2.1, hRW.2.2.1, hRW.2.2.2.mono (by decide) (by decide)⟩
  · show own_S p e below T7 (mkF m 81 #[iv 3, iv c0, iv c1, iv c2] [(.ref b1)]) _
    jvm_step X7.here [X7.here.top, hx, (hb hby d7_81), X7.method', Bd.returns, Value.isRef, FieldType.isReference]
    first | (intro acts; rw [hr _ acts rfl rfl rfl]) | rw [hr _ _ rfl rfl rfl]
    exact Steps.refl _
  · show Q7_3 Z c0 c1 c2 GC h0 n0 _ T7.heap _
    exact ⟨b1, bq7, kq7, rfl, N7, K7, E7q, F7c, F7v, V7q⟩
def own_lw (u1 : Int32) : Int32 := (if u1 < (65 : Int32) then (if u1 < (192 : Int32) then (nar .char u1) else (if (222 : Int32) < u1 then (nar .char u1) else (if u1 = (215 : Int32) then (nar .char u1) else (nar .char ((u1 + (32 : Int32)).toUInt32.toUInt16.toUInt32.toInt32))))) else (if (90 : Int32) < u1 then (if u1 < (192 : Int32) then (nar .char u1) else (if (222 : Int32) < u1 then (nar .char u1) else (if u1 = (215 : Int32) then (nar .char u1) else (nar .char ((u1 + (32 : Int32)).toUInt32.toUInt16.toUInt32.toInt32))))) else (nar .char ((u1 + (32 : Int32)).toUInt32.toUInt16.toUInt32.toInt32))))
theorem pn_38 : plainName "com/example/sira/sira/engine/StreamStateKeyPinLaw" = true := by first | (simp [plainName, overriddenIn]; done) | decide +kernel
theorem d38_0 : decode method_2_code 0 = .ok (.iload_n 0, 1) := by decide +kernel
theorem d38_1 : decode method_2_code 1 = .ok (.bipush 65, 2) := by decide +kernel
theorem d38_3 : decode method_2_code 3 = .ok (.if_icmp .lt 15, 3) := by decide +kernel
theorem d38_6 : decode method_2_code 6 = .ok (.iload_n 0, 1) := by decide +kernel
theorem d38_7 : decode method_2_code 7 = .ok (.bipush 90, 2) := by decide +kernel
theorem d38_9 : decode method_2_code 9 = .ok (.if_icmp .gt 9, 3) := by decide +kernel
theorem d38_12 : decode method_2_code 12 = .ok (.iload_n 0, 1) := by decide +kernel
theorem d38_13 : decode method_2_code 13 = .ok (.bipush 32, 2) := by decide +kernel
theorem d38_15 : decode method_2_code 15 = .ok (.iadd, 1) := by decide +kernel
theorem d38_16 : decode method_2_code 16 = .ok (.i2c, 1) := by decide +kernel
theorem d38_17 : decode method_2_code 17 = .ok (.ireturn, 1) := by decide +kernel
theorem d38_18 : decode method_2_code 18 = .ok (.iload_n 0, 1) := by decide +kernel
theorem d38_19 : decode method_2_code 19 = .ok (.sipush 192, 3) := by decide +kernel
theorem d38_22 : decode method_2_code 22 = .ok (.if_icmp .lt 23, 3) := by decide +kernel
theorem d38_25 : decode method_2_code 25 = .ok (.iload_n 0, 1) := by decide +kernel
theorem d38_26 : decode method_2_code 26 = .ok (.sipush 222, 3) := by decide +kernel
theorem d38_29 : decode method_2_code 29 = .ok (.if_icmp .gt 16, 3) := by decide +kernel
theorem d38_32 : decode method_2_code 32 = .ok (.iload_n 0, 1) := by decide +kernel
theorem d38_33 : decode method_2_code 33 = .ok (.sipush 215, 3) := by decide +kernel
theorem d38_36 : decode method_2_code 36 = .ok (.if_icmp .eq 9, 3) := by decide +kernel
theorem d38_39 : decode method_2_code 39 = .ok (.iload_n 0, 1) := by decide +kernel
theorem d38_40 : decode method_2_code 40 = .ok (.bipush 32, 2) := by decide +kernel
theorem d38_42 : decode method_2_code 42 = .ok (.iadd, 1) := by decide +kernel
theorem d38_43 : decode method_2_code 43 = .ok (.i2c, 1) := by decide +kernel
theorem d38_44 : decode method_2_code 44 = .ok (.ireturn, 1) := by decide +kernel
theorem d38_45 : decode method_2_code 45 = .ok (.iload_n 0, 1) := by decide +kernel
theorem d38_46 : decode method_2_code 46 = .ok (.ireturn, 1) := by decide +kernel
theorem ef_38 (m : MethodId) (x0 : Int32) : entryFrame m #[(.int x0)] 1 = mkF m 0 #[.val (.int x0)] [] := by first | (simp [entryFrame, mkF, argsToLocals, Value.category]; done) | rfl
def Q38 (Z : State) (u1 : Int32) (h0 : Heap) (n0 : Nat) (v : Option Value) (h : Heap) (L : List Loc) : Prop := v = some (.int (own_lw u1)) ∧ Fr n0 L ∧ h = h0
set_option maxRecDepth 65536 in
set_option maxHeartbeats 40000000 in
theorem rm38 (l : Launch) (Z : State) (a0 : Array Value) (hw : ∀ d ∈ tables_1, d.before a0 Z = true) (ws : List Jvm.Cond) (u1 : Int32) (h0 : Heap) (n0 : Nat) (Z0 : n0 ≤ h0.size) :
    MetFree l own_y40 (head1 (Jvm.Cond.code own_y40 method_2_code 1 (some .char) :: ws) ({ frames := 0, cells := 0, slots := 0, locals := 0 } : Room)) (fun a U => a = #[(.int u1)] ∧ Z.Warmed39 U.vm ∧ U.heap = h0) (fun _ _ _ _ _ => True) (fun _ U o U' => ∃ v L, o = .returned v ∧ Q38 Z u1 h0 n0 v U'.heap L ∧ FrameEnd U o U' L ({ frames := 0, cells := 0, slots := 0, locals := 0 } : Room).cells ({ frames := 0, cells := 0, slots := 0, locals := 0 } : Room).slots) := by
  refine MetFree.of_bodySF (plainFor_of_name pn_38) hisR ?_
  intro p e s m args below meth c s₁ Bd hml0 hP hK
  obtain ⟨rfl, hZ, hh⟩ := hP
  have hx := Bd.exec
  have hby := Bd.bytes
  have hml : c.maxLocals = 1 := hml0
  have hown : s.vm.findClass "com/example/sira/sira/engine/StreamStateKeyPinLaw" = some m.cls := findClass_of_methodNamed Bd.named
  have hnm := (name_of_methodNamed Bd.named Bd.method).1
  have X0 : Stand p l e ({ frames := 0, cells := 0, slots := 0, locals := 0 } : Room) s m #[(.int u1)] below meth c s₁ [] 0 0 := Stand.of_body Bd
  have e0 : s₁.heap = h0 := by rw [← hh, Bd.state]; rfl
  have N0 := Fr.nil n0
  refine og (B := s₁.setTop (mkF m 0 #[iv u1] [])) (fun t k => castTop (ef_38 m u1) k) ?_
  refine og (B := s₁.setTop (mkF m 3 #[iv u1] [(.int 65), (.int u1)])) (fun t k => ?_) ?_
  · refine XS.iloadN X0.here hx rfl (hb hby d38_0) rfl ?_
    refine XS.bipush X0.here hx rfl (hb hby d38_1) ?_
    exact k
  by_cases hc3_1 : u1 < (65 : Int32)
  · refine og (B := s₁.setTop (mkF m 22 #[iv u1] [(.int 192), (.int u1)])) (fun t k => ?_) ?_
    · refine XS.icmpYes X0.here hx rfl (pc0 := 3) (pc' := 18) rfl (hb hby d38_3) rfl (tlt hc3_1).1 (by decide) (by decide) ?_
      refine XS.iloadN X0.here hx rfl (hb hby d38_18) rfl ?_
      refine XS.sipush X0.here hx rfl (hb hby d38_19) ?_
      exact k
    by_cases hc22_2 : u1 < (192 : Int32)
    · obtain ⟨fs, hr, hrun, hended, hW, hsame⟩ := X0.leave (v := some (.int (nar .char u1))) (fun h => by rw [Bd.returns] at h; cases h)
      refine ⟨_, _, ?_, hrun, hended, _, _, rfl, ?_, ⟨_, rfl⟩, hW, hsame.mono (by decide) (by decide)⟩
      · refine XS.icmpYes X0.here hx rfl (pc0 := 22) (pc' := 45) rfl (hb hby d38_22) rfl (tlt hc22_2).1 (by decide) (by decide) ?_
        refine XS.iloadN X0.here hx rfl (hb hby d38_45) rfl ?_
        show own_S p e below s₁ (mkF m 46 #[iv u1] [(.int u1)]) _
        exact retN X0 hx (t := .char) Bd.returns (by simp) (hb hby d38_46) hr
      · show Q38 Z u1 h0 n0 _ s₁.heap _
        rw [e0]
        exact ⟨by rw [own_lw, if_pos hc3_1, if_pos hc22_2], N0, rfl⟩
    · refine og (B := s₁.setTop (mkF m 29 #[iv u1] [(.int 222), (.int u1)])) (fun t k => ?_) ?_
      · refine XS.icmpNo X0.here hx rfl (hb hby d38_22) rfl (flt hc22_2).1 ?_
        refine XS.iloadN X0.here hx rfl (hb hby d38_25) rfl ?_
        refine XS.sipush X0.here hx rfl (hb hby d38_26) ?_
        exact k
      by_cases hc29_3 : (222 : Int32) < u1
      · obtain ⟨fs, hr, hrun, hended, hW, hsame⟩ := X0.leave (v := some (.int (nar .char u1))) (fun h => by rw [Bd.returns] at h; cases h)
        refine ⟨_, _, ?_, hrun, hended, _, _, rfl, ?_, ⟨_, rfl⟩, hW, hsame.mono (by decide) (by decide)⟩
        · refine XS.icmpYes X0.here hx rfl (pc0 := 29) (pc' := 45) rfl (hb hby d38_29) rfl (tlt hc29_3).2.2.1 (by decide) (by decide) ?_
          refine XS.iloadN X0.here hx rfl (hb hby d38_45) rfl ?_
          show own_S p e below s₁ (mkF m 46 #[iv u1] [(.int u1)]) _
          exact retN X0 hx (t := .char) Bd.returns (by simp) (hb hby d38_46) hr
        · show Q38 Z u1 h0 n0 _ s₁.heap _
          rw [e0]
          exact ⟨by rw [own_lw, if_pos hc3_1, if_neg hc22_2, if_pos hc29_3], N0, rfl⟩
      · refine og (B := s₁.setTop (mkF m 36 #[iv u1] [(.int 215), (.int u1)])) (fun t k => ?_) ?_
        · refine XS.icmpNo X0.here hx rfl (hb hby d38_29) rfl (flt hc29_3).2.2.1 ?_
          refine XS.iloadN X0.here hx rfl (hb hby d38_32) rfl ?_
          refine XS.sipush X0.here hx rfl (hb hby d38_33) ?_
          exact k
        by_cases hc36_4 : u1 = (215 : Int32)
        · obtain ⟨fs, hr, hrun, hended, hW, hsame⟩ := X0.leave (v := some (.int (nar .char u1))) (fun h => by rw [Bd.returns] at h; cases h)
          refine ⟨_, _, ?_, hrun, hended, _, _, rfl, ?_, ⟨_, rfl⟩, hW, hsame.mono (by decide) (by decide)⟩
          · refine XS.icmpYes X0.here hx rfl (pc0 := 36) (pc' := 45) rfl (hb hby d38_36) rfl (teq hc36_4).1 (by decide) (by decide) ?_
            refine XS.iloadN X0.here hx rfl (hb hby d38_45) rfl ?_
            show own_S p e below s₁ (mkF m 46 #[iv u1] [(.int u1)]) _
            exact retN X0 hx (t := .char) Bd.returns (by simp) (hb hby d38_46) hr
          · show Q38 Z u1 h0 n0 _ s₁.heap _
            rw [e0]
            exact ⟨by rw [own_lw, if_pos hc3_1, if_neg hc22_2, if_neg hc29_3, if_pos hc36_4], N0, rfl⟩
        · obtain ⟨fs, hr, hrun, hended, hW, hsame⟩ := X0.leave (v := some (.int (nar .char ((u1 + (32 : Int32)).toUInt32.toUInt16.toUInt32.toInt32)))) (fun h => by rw [Bd.returns] at h; cases h)
          refine ⟨_, _, ?_, hrun, hended, _, _, rfl, ?_, ⟨_, rfl⟩, hW, hsame.mono (by decide) (by decide)⟩
          · refine XS.icmpNo X0.here hx rfl (hb hby d38_36) rfl (feq hc36_4).1 ?_
            refine XS.iloadN X0.here hx rfl (hb hby d38_39) rfl ?_
            refine XS.bipush X0.here hx rfl (hb hby d38_40) ?_
            refine XS.iadd X0.here hx rfl (hb hby d38_42) rfl ?_
            refine XS.i2c X0.here hx rfl (hb hby d38_43) rfl ?_
            show own_S p e below s₁ (mkF m 44 #[iv u1] [(.int ((u1 + (32 : Int32)).toUInt32.toUInt16.toUInt32.toInt32))]) _
            exact retN X0 hx (t := .char) Bd.returns (by simp) (hb hby d38_44) hr
          · show Q38 Z u1 h0 n0 _ s₁.heap _
            rw [e0]
            exact ⟨by rw [own_lw, if_pos hc3_1, if_neg hc22_2, if_neg hc29_3, if_neg hc36_4], N0, rfl⟩
  · refine og (B := s₁.setTop (mkF m 9 #[iv u1] [(.int 90), (.int u1)])) (fun t k => ?_) ?_
    · refine XS.icmpNo X0.here hx rfl (hb hby d38_3) rfl (flt hc3_1).1 ?_
      refine XS.iloadN X0.here hx rfl (hb hby d38_6) rfl ?_
      refine XS.bipush X0.here hx rfl (hb hby d38_7) ?_
      exact k
    by_cases hc9_5 : (90 : Int32) < u1
    · refine og (B := s₁.setTop (mkF m 22 #[iv u1] [(.int 192), (.int u1)])) (fun t k => ?_) ?_
      · refine XS.icmpYes X0.here hx rfl (pc0 := 9) (pc' := 18) rfl (hb hby d38_9) rfl (tlt hc9_5).2.2.1 (by decide) (by decide) ?_
        refine XS.iloadN X0.here hx rfl (hb hby d38_18) rfl ?_
        refine XS.sipush X0.here hx rfl (hb hby d38_19) ?_
        exact k
      by_cases hc22_6 : u1 < (192 : Int32)
      · obtain ⟨fs, hr, hrun, hended, hW, hsame⟩ := X0.leave (v := some (.int (nar .char u1))) (fun h => by rw [Bd.returns] at h; cases h)
        refine ⟨_, _, ?_, hrun, hended, _, _, rfl, ?_, ⟨_, rfl⟩, hW, hsame.mono (by decide) (by decide)⟩
        · refine XS.icmpYes X0.here hx rfl (pc0 := 22) (pc' := 45) rfl (hb hby d38_22) rfl (tlt hc22_6).1 (by decide) (by decide) ?_
          refine XS.iloadN X0.here hx rfl (hb hby d38_45) rfl ?_
          show own_S p e below s₁ (mkF m 46 #[iv u1] [(.int u1)]) _
          exact retN X0 hx (t := .char) Bd.returns (by simp) (hb hby d38_46) hr
        · show Q38 Z u1 h0 n0 _ s₁.heap _
          rw [e0]
          exact ⟨by rw [own_lw, if_neg hc3_1, if_pos hc9_5, if_pos hc22_6], N0, rfl⟩
      · refine og (B := s₁.setTop (mkF m 29 #[iv u1] [(.int 222), (.int u1)])) (fun t k => ?_) ?_
        · refine XS.icmpNo X0.here hx rfl (hb hby d38_22) rfl (flt hc22_6).1 ?_
          refine XS.iloadN X0.here hx rfl (hb hby d38_25) rfl ?_
          refine XS.sipush X0.here hx rfl (hb hby d38_26) ?_
          exact k
        by_cases hc29_7 : (222 : Int32) < u1
        · obtain ⟨fs, hr, hrun, hended, hW, hsame⟩ := X0.leave (v := some (.int (nar .char u1))) (fun h => by rw [Bd.returns] at h; cases h)
          refine ⟨_, _, ?_, hrun, hended, _, _, rfl, ?_, ⟨_, rfl⟩, hW, hsame.mono (by decide) (by decide)⟩
          · refine XS.icmpYes X0.here hx rfl (pc0 := 29) (pc' := 45) rfl (hb hby d38_29) rfl (tlt hc29_7).2.2.1 (by decide) (by decide) ?_
            refine XS.iloadN X0.here hx rfl (hb hby d38_45) rfl ?_
            show own_S p e below s₁ (mkF m 46 #[iv u1] [(.int u1)]) _
            exact retN X0 hx (t := .char) Bd.returns (by simp) (hb hby d38_46) hr
          · show Q38 Z u1 h0 n0 _ s₁.heap _
            rw [e0]
            exact ⟨by rw [own_lw, if_neg hc3_1, if_pos hc9_5, if_neg hc22_6, if_pos hc29_7], N0, rfl⟩
        · refine og (B := s₁.setTop (mkF m 36 #[iv u1] [(.int 215), (.int u1)])) (fun t k => ?_) ?_
          · refine XS.icmpNo X0.here hx rfl (hb hby d38_29) rfl (flt hc29_7).2.2.1 ?_
            refine XS.iloadN X0.here hx rfl (hb hby d38_32) rfl ?_
            refine XS.sipush X0.here hx rfl (hb hby d38_33) ?_
            exact k
          by_cases hc36_8 : u1 = (215 : Int32)
          · obtain ⟨fs, hr, hrun, hended, hW, hsame⟩ := X0.leave (v := some (.int (nar .char u1))) (fun h => by rw [Bd.returns] at h; cases h)
            refine ⟨_, _, ?_, hrun, hended, _, _, rfl, ?_, ⟨_, rfl⟩, hW, hsame.mono (by decide) (by decide)⟩
            · refine XS.icmpYes X0.here hx rfl (pc0 := 36) (pc' := 45) rfl (hb hby d38_36) rfl (teq hc36_8).1 (by decide) (by decide) ?_
              refine XS.iloadN X0.here hx rfl (hb hby d38_45) rfl ?_
              show own_S p e below s₁ (mkF m 46 #[iv u1] [(.int u1)]) _
              exact retN X0 hx (t := .char) Bd.returns (by simp) (hb hby d38_46) hr
            · show Q38 Z u1 h0 n0 _ s₁.heap _
              rw [e0]
              exact ⟨by rw [own_lw, if_neg hc3_1, if_pos hc9_5, if_neg hc22_6, if_neg hc29_7, if_pos hc36_8], N0, rfl⟩
          · obtain ⟨fs, hr, hrun, hended, hW, hsame⟩ := X0.leave (v := some (.int (nar .char ((u1 + (32 : Int32)).toUInt32.toUInt16.toUInt32.toInt32)))) (fun h => by rw [Bd.returns] at h; cases h)
            refine ⟨_, _, ?_, hrun, hended, _, _, rfl, ?_, ⟨_, rfl⟩, hW, hsame.mono (by decide) (by decide)⟩
            · refine XS.icmpNo X0.here hx rfl (hb hby d38_36) rfl (feq hc36_8).1 ?_
              refine XS.iloadN X0.here hx rfl (hb hby d38_39) rfl ?_
              refine XS.bipush X0.here hx rfl (hb hby d38_40) ?_
              refine XS.iadd X0.here hx rfl (hb hby d38_42) rfl ?_
              refine XS.i2c X0.here hx rfl (hb hby d38_43) rfl ?_
              show own_S p e below s₁ (mkF m 44 #[iv u1] [(.int ((u1 + (32 : Int32)).toUInt32.toUInt16.toUInt32.toInt32))]) _
              exact retN X0 hx (t := .char) Bd.returns (by simp) (hb hby d38_44) hr
            · show Q38 Z u1 h0 n0 _ s₁.heap _
              rw [e0]
              exact ⟨by rw [own_lw, if_neg hc3_1, if_pos hc9_5, if_neg hc22_6, if_neg hc29_7, if_neg hc36_8], N0, rfl⟩
    · obtain ⟨fs, hr, hrun, hended, hW, hsame⟩ := X0.leave (v := some (.int (nar .char ((u1 + (32 : Int32)).toUInt32.toUInt16.toUInt32.toInt32)))) (fun h => by rw [Bd.returns] at h; cases h)
      refine ⟨_, _, ?_, hrun, hended, _, _, rfl, ?_, ⟨_, rfl⟩, hW, hsame.mono (by decide) (by decide)⟩
      · refine XS.icmpNo X0.here hx rfl (hb hby d38_9) rfl (flt hc9_5).2.2.1 ?_
        refine XS.iloadN X0.here hx rfl (hb hby d38_12) rfl ?_
        refine XS.bipush X0.here hx rfl (hb hby d38_13) ?_
        refine XS.iadd X0.here hx rfl (hb hby d38_15) rfl ?_
        refine XS.i2c X0.here hx rfl (hb hby d38_16) rfl ?_
        show own_S p e below s₁ (mkF m 17 #[iv u1] [(.int ((u1 + (32 : Int32)).toUInt32.toUInt16.toUInt32.toInt32))]) _
        exact retN X0 hx (t := .char) Bd.returns (by simp) (hb hby d38_17) hr
      · show Q38 Z u1 h0 n0 _ s₁.heap _
        rw [e0]
        exact ⟨by rw [own_lw, if_neg hc3_1, if_neg hc9_5], N0, rfl⟩
theorem own_t : ∀ i : Fin 256, nar .char (Int32.ofNat i.1) = Int32.ofNat i.1 ∧ own_c (own_b (Int32.ofNat i.1)) = Int32.ofNat i.1 ∧ (own_b (Int32.ofNat i.1) &&& (255 : Int32)) = Int32.ofNat i.1 ∧ nar .char ((own_low (Int32.ofNat i.1)).toUInt32.toUInt16.toUInt32.toInt32) = own_lw (Int32.ofNat i.1) ∧ ¬ (255 : Int32) < Int32.ofNat i.1 := by decide +kernel
theorem own_cF (x : Int32) : ∃ i : Fin 256, ((x &&& (255 : Int32)).toUInt32.toUInt16.toUInt32.toInt32) = Int32.ofNat i.1 := by
  have h := c_mask x 255 8 (by decide) (by decide)
  have h2 := c_i2c (x &&& (255 : Int32))
  generalize ((x &&& (255 : Int32)).toUInt32.toUInt16.toUInt32.toInt32) = y at *
  generalize (x &&& (255 : Int32)) = y2 at *
  refine ⟨⟨y.toInt.toNat, by omega⟩, ?_⟩
  apply Int32.toInt_inj.mp
  show y.toInt = (Int32.ofNat y.toInt.toNat).toInt
  rw [Int32.toInt_ofNat_of_lt (by omega)]
  omega
theorem own_fin {u q : Int32} (h : ∃ i : Fin 256, q = Int32.ofNat i.1) (e : (u &&& (255 : Int32)) = own_low (own_b q &&& (255 : Int32))) : own_c u = own_lw q := by
  obtain ⟨i, rfl⟩ := h
  have t := own_t i
  unfold own_c
  rw [e, t.2.2.1]
  exact t.2.2.2.1
theorem own_cP {q : Int32} (h : ∃ i : Fin 256, q = Int32.ofNat i.1) : nar .char q = q ∧ ¬ (255 : Int32) < q ∧ own_c (own_b q) = q := by
  obtain ⟨i, rfl⟩ := h
  have t := own_t i
  exact ⟨t.1, t.2.2.2.2, t.2.1⟩
theorem own_n3 (x : Int32) : (x &&& (3 : Int32)) = 0 ∨ (x &&& (3 : Int32)) = 1 ∨ (x &&& (3 : Int32)) = 2 ∨ (x &&& (3 : Int32)) = 3 := by
  have h := c_mask x 3 2 (by decide) (by decide)
  generalize (x &&& (3 : Int32)) = i at *
  have k : i.toInt = 0 ∨ i.toInt = 1 ∨ i.toInt = 2 ∨ i.toInt = 3 := by omega
  rcases k with k | k | k | k
  · exact Or.inl (Int32.toInt_inj.mp k)
  · exact Or.inr (Or.inl (Int32.toInt_inj.mp k))
  · exact Or.inr (Or.inr (Or.inl (Int32.toInt_inj.mp k)))
  · exact Or.inr (Or.inr (Or.inr (Int32.toInt_inj.mp k)))
theorem pn_0 : plainName "com/example/sira/sira/engine/StreamStateKeyPinLaw" = true := by first | (simp [plainName, overriddenIn]; done) | decide +kernel
theorem ef_0 (m : MethodId) (x0 : Int32) (x1 : Int32) : entryFrame m #[(.int x0), (.int x1)] maxLocals = mkF m 0 #[.val (.int x0), .val (.int x1), .unset, .unset, .unset, .unset, .unset, .unset, .unset, .unset, .unset] [] := by first | (simp [entryFrame, mkF, argsToLocals, Value.category, maxLocals]; done) | rfl
def Q0 (Z : State) (p1 : Int32) (p2 : Int32) (GC : Int32) (GF : Value) (ci : Addr) (al : Addr) (ab : Addr) (ag : Addr) (agv : Addr) (h0 : Heap) (n0 : Nat) (v : Option Value) (h : Heap) (L : List Loc) : Prop := v = some (.int 1) ∧ Fr n0 L
set_option maxRecDepth 65536 in
set_option maxHeartbeats 40000000 in
theorem rm0 (l : Launch) (Z : State) (a0 : Array Value) (hw : ∀ d ∈ tables_1, d.before a0 Z = true) (ws : List Jvm.Cond) (p1 : Int32) (p2 : Int32) (GC : Int32) (GF : Value) (ci : Addr) (al : Addr) (ab : Addr) (ag : Addr) (agv : Addr) (h0 : Heap) (n0 : Nat) (Z0 : n0 ≤ h0.size) (S_C : Sta Z Z.heap "java/lang/String" "COMPACT_STRINGS" "Z" (.int GC)) (hGC : ¬ GC = (0 : Int32)) (O0 : Old Z n0 h0) (S_F : Sta Z Z.heap "jdk/internal/util/Preconditions" "SIOOBE_FORMATTER" "Ljava/util/function/BiFunction;" GF) (is_GF : GF.isRef = true) (S_I : Sta Z Z.heap "java/lang/CharacterDataLatin1" "instance" "Ljava/lang/CharacterDataLatin1;" (.ref ci)) (E_ci : Exa Z Z.heap ci "java/lang/CharacterDataLatin1") (S_R : Sta Z Z.heap "java/util/Locale" "ROOT" "Ljava/util/Locale;" (.ref al)) (E_al : Exa Z Z.heap al "java/util/Locale") (F_ab : Fld Z Z.heap al "java/util/Locale" "baseLocale" "Lsun/util/locale/BaseLocale;" (.ref ab)) (E_ab : Exa Z Z.heap ab "sun/util/locale/BaseLocale") (F_ag : Fld Z Z.heap ab "sun/util/locale/BaseLocale" "language" "Ljava/lang/String;" (.ref ag)) (F_gv : Fld Z Z.heap ag "java/lang/String" "value" "[B" (.ref agv)) (V_gv : own_E0 Z Z.heap agv) :
    MetFree l x (head1 (Jvm.Cond.code x code maxLocals ret :: ws) room_1) (fun a U => a = #[(.int p1), (.int p2)] ∧ Z.Warmed39 U.vm ∧ U.heap = h0 ∧ CHv Z consts_1 U.vm h0) (fun _ _ _ _ _ => True) (fun _ U o U' => ∃ v L, o = .returned v ∧ Q0 Z p1 p2 GC GF ci al ab ag agv h0 n0 v U'.heap L ∧ ReturnedEndW U o U' L room_1.cells room_1.slots) := by
  refine MetFree.of_bodySF (plainFor_of_name pn_0) hisR ?_
  intro p e s m args below meth c s₁ Bd hml0 hP hK
  obtain ⟨rfl, hZ, hh, hCH⟩ := hP
  have hx := Bd.exec
  have hby := Bd.bytes
  have hml : c.maxLocals = 11 := hml0
  have hown : s.vm.findClass "com/example/sira/sira/engine/StreamStateKeyPinLaw" = some m.cls := findClass_of_methodNamed Bd.named
  have hnm := (name_of_methodNamed Bd.named Bd.method).1
  have X0 : Stand p l e room_1 s m #[(.int p1), (.int p2)] below meth c s₁ [] 0 0 := Stand.of_body Bd
  have e0 : s₁.heap = h0 := by rw [← hh, Bd.state]; rfl
  have N0 := Fr.nil n0
  have X0 : Stand p l e room_1 (s.setVm s.vm) m #[(.int p1), (.int p2)] below meth c s₁ [] 0 0 := X0
  have hZ : Z.Warmed39 (s.setVm s.vm).vm := hZ
  have hown : (s.setVm s.vm).vm.findClass "com/example/sira/sira/engine/StreamStateKeyPinLaw" = some m.cls := hown
  have hS : s.Since s.vm 0 := (State.WarmedH.refl s).since 0
  refine og (B := s₁.setTop (mkF m 0 #[iv p1, iv p2, .unset, .unset, .unset, .unset, .unset, .unset, .unset, .unset, .unset] [])) (fun t k => castTop (ef_0 m p1 p2) k) ?_
  refine og (B := s₁.setTop (mkF m 55 #[iv p1, iv p2, iv ((p1 &&& (255 : Int32)).toUInt32.toUInt16.toUInt32.toInt32), iv ((((p1.toUInt32 >>> ((8 : Int32) &&& 31).toUInt32).toInt32) &&& (255 : Int32)).toUInt32.toUInt16.toUInt32.toInt32), iv ((p2 &&& (255 : Int32)).toUInt32.toUInt16.toUInt32.toInt32), iv ((((p2.toUInt32 >>> ((8 : Int32) &&& 31).toUInt32).toInt32) &&& (255 : Int32)).toUInt32.toUInt16.toUInt32.toInt32), iv ((((p2.toUInt32 >>> ((16 : Int32) &&& 31).toUInt32).toInt32) &&& (255 : Int32)).toUInt32.toUInt16.toUInt32.toInt32), iv (((p2.toUInt32 >>> ((24 : Int32) &&& 31).toUInt32).toInt32) &&& (3 : Int32)), .unset, .unset, .unset] [])) (fun t k => ?_) ?_
  · refine XS.iloadN X0.here hx rfl (hb hby at_0) rfl ?_
    refine XS.sipush X0.here hx rfl (hb hby at_1) ?_
    refine XS.iand X0.here hx rfl (hb hby at_4) rfl ?_
    refine XS.i2c X0.here hx rfl (hb hby at_5) rfl ?_
    refine XS.istoreN X0.here hx rfl (hb hby at_6) rfl (l' := #[iv p1, iv p2, iv ((p1 &&& (255 : Int32)).toUInt32.toUInt16.toUInt32.toInt32), .unset, .unset, .unset, .unset, .unset, .unset, .unset, .unset]) rfl ?_
    refine XS.iloadN X0.here hx rfl (hb hby at_7) rfl ?_
    show own_S p e below s₁ (mkF m 8 #[iv p1, iv p2, iv ((p1 &&& (255 : Int32)).toUInt32.toUInt16.toUInt32.toInt32), .unset, .unset, .unset, .unset, .unset, .unset, .unset, .unset] [(.int p1)]) _
    refine XS.bipush X0.here hx rfl (hb hby at_8) ?_
    refine XS.iushr X0.here hx rfl (hb hby at_10) rfl ?_
    refine XS.sipush X0.here hx rfl (hb hby at_11) ?_
    refine XS.iand X0.here hx rfl (hb hby at_14) rfl ?_
    refine XS.i2c X0.here hx rfl (hb hby at_15) rfl ?_
    refine XS.istoreN X0.here hx rfl (hb hby at_16) rfl (l' := #[iv p1, iv p2, iv ((p1 &&& (255 : Int32)).toUInt32.toUInt16.toUInt32.toInt32), iv ((((p1.toUInt32 >>> ((8 : Int32) &&& 31).toUInt32).toInt32) &&& (255 : Int32)).toUInt32.toUInt16.toUInt32.toInt32), .unset, .unset, .unset, .unset, .unset, .unset, .unset]) rfl ?_
    show own_S p e below s₁ (mkF m 17 #[iv p1, iv p2, iv ((p1 &&& (255 : Int32)).toUInt32.toUInt16.toUInt32.toInt32), iv ((((p1.toUInt32 >>> ((8 : Int32) &&& 31).toUInt32).toInt32) &&& (255 : Int32)).toUInt32.toUInt16.toUInt32.toInt32), .unset, .unset, .unset, .unset, .unset, .unset, .unset] []) _
    refine XS.iloadN X0.here hx rfl (hb hby at_17) rfl ?_
    refine XS.sipush X0.here hx rfl (hb hby at_18) ?_
    refine XS.iand X0.here hx rfl (hb hby at_21) rfl ?_
    refine XS.i2c X0.here hx rfl (hb hby at_22) rfl ?_
    refine XS.istore X0.here hx rfl (hb hby at_23) rfl (l' := #[iv p1, iv p2, iv ((p1 &&& (255 : Int32)).toUInt32.toUInt16.toUInt32.toInt32), iv ((((p1.toUInt32 >>> ((8 : Int32) &&& 31).toUInt32).toInt32) &&& (255 : Int32)).toUInt32.toUInt16.toUInt32.toInt32), iv ((p2 &&& (255 : Int32)).toUInt32.toUInt16.toUInt32.toInt32), .unset, .unset, .unset, .unset, .unset, .unset]) rfl ?_
    refine XS.iloadN X0.here hx rfl (hb hby at_25) rfl ?_
    show own_S p e below s₁ (mkF m 26 #[iv p1, iv p2, iv ((p1 &&& (255 : Int32)).toUInt32.toUInt16.toUInt32.toInt32), iv ((((p1.toUInt32 >>> ((8 : Int32) &&& 31).toUInt32).toInt32) &&& (255 : Int32)).toUInt32.toUInt16.toUInt32.toInt32), iv ((p2 &&& (255 : Int32)).toUInt32.toUInt16.toUInt32.toInt32), .unset, .unset, .unset, .unset, .unset, .unset] [(.int p2)]) _
    refine XS.bipush X0.here hx rfl (hb hby at_26) ?_
    refine XS.iushr X0.here hx rfl (hb hby at_28) rfl ?_
    refine XS.sipush X0.here hx rfl (hb hby at_29) ?_
    refine XS.iand X0.here hx rfl (hb hby at_32) rfl ?_
    refine XS.i2c X0.here hx rfl (hb hby at_33) rfl ?_
    refine XS.istore X0.here hx rfl (hb hby at_34) rfl (l' := #[iv p1, iv p2, iv ((p1 &&& (255 : Int32)).toUInt32.toUInt16.toUInt32.toInt32), iv ((((p1.toUInt32 >>> ((8 : Int32) &&& 31).toUInt32).toInt32) &&& (255 : Int32)).toUInt32.toUInt16.toUInt32.toInt32), iv ((p2 &&& (255 : Int32)).toUInt32.toUInt16.toUInt32.toInt32), iv ((((p2.toUInt32 >>> ((8 : Int32) &&& 31).toUInt32).toInt32) &&& (255 : Int32)).toUInt32.toUInt16.toUInt32.toInt32), .unset, .unset, .unset, .unset, .unset]) rfl ?_
    show own_S p e below s₁ (mkF m 36 #[iv p1, iv p2, iv ((p1 &&& (255 : Int32)).toUInt32.toUInt16.toUInt32.toInt32), iv ((((p1.toUInt32 >>> ((8 : Int32) &&& 31).toUInt32).toInt32) &&& (255 : Int32)).toUInt32.toUInt16.toUInt32.toInt32), iv ((p2 &&& (255 : Int32)).toUInt32.toUInt16.toUInt32.toInt32), iv ((((p2.toUInt32 >>> ((8 : Int32) &&& 31).toUInt32).toInt32) &&& (255 : Int32)).toUInt32.toUInt16.toUInt32.toInt32), .unset, .unset, .unset, .unset, .unset] []) _
    refine XS.iloadN X0.here hx rfl (hb hby at_36) rfl ?_
    refine XS.bipush X0.here hx rfl (hb hby at_37) ?_
    refine XS.iushr X0.here hx rfl (hb hby at_39) rfl ?_
    refine XS.sipush X0.here hx rfl (hb hby at_40) ?_
    refine XS.iand X0.here hx rfl (hb hby at_43) rfl ?_
    refine XS.i2c X0.here hx rfl (hb hby at_44) rfl ?_
    show own_S p e below s₁ (mkF m 45 #[iv p1, iv p2, iv ((p1 &&& (255 : Int32)).toUInt32.toUInt16.toUInt32.toInt32), iv ((((p1.toUInt32 >>> ((8 : Int32) &&& 31).toUInt32).toInt32) &&& (255 : Int32)).toUInt32.toUInt16.toUInt32.toInt32), iv ((p2 &&& (255 : Int32)).toUInt32.toUInt16.toUInt32.toInt32), iv ((((p2.toUInt32 >>> ((8 : Int32) &&& 31).toUInt32).toInt32) &&& (255 : Int32)).toUInt32.toUInt16.toUInt32.toInt32), .unset, .unset, .unset, .unset, .unset] [(.int ((((p2.toUInt32 >>> ((16 : Int32) &&& 31).toUInt32).toInt32) &&& (255 : Int32)).toUInt32.toUInt16.toUInt32.toInt32))]) _
    refine XS.istore X0.here hx rfl (hb hby at_45) rfl (l' := #[iv p1, iv p2, iv ((p1 &&& (255 : Int32)).toUInt32.toUInt16.toUInt32.toInt32), iv ((((p1.toUInt32 >>> ((8 : Int32) &&& 31).toUInt32).toInt32) &&& (255 : Int32)).toUInt32.toUInt16.toUInt32.toInt32), iv ((p2 &&& (255 : Int32)).toUInt32.toUInt16.toUInt32.toInt32), iv ((((p2.toUInt32 >>> ((8 : Int32) &&& 31).toUInt32).toInt32) &&& (255 : Int32)).toUInt32.toUInt16.toUInt32.toInt32), iv ((((p2.toUInt32 >>> ((16 : Int32) &&& 31).toUInt32).toInt32) &&& (255 : Int32)).toUInt32.toUInt16.toUInt32.toInt32), .unset, .unset, .unset, .unset]) rfl ?_
    refine XS.iloadN X0.here hx rfl (hb hby at_47) rfl ?_
    refine XS.bipush X0.here hx rfl (hb hby at_48) ?_
    refine XS.iushr X0.here hx rfl (hb hby at_50) rfl ?_
    refine XS.iconst X0.here hx rfl (hb hby at_51) ?_
    refine XS.iand X0.here hx rfl (hb hby at_52) rfl ?_
    show own_S p e below s₁ (mkF m 53 #[iv p1, iv p2, iv ((p1 &&& (255 : Int32)).toUInt32.toUInt16.toUInt32.toInt32), iv ((((p1.toUInt32 >>> ((8 : Int32) &&& 31).toUInt32).toInt32) &&& (255 : Int32)).toUInt32.toUInt16.toUInt32.toInt32), iv ((p2 &&& (255 : Int32)).toUInt32.toUInt16.toUInt32.toInt32), iv ((((p2.toUInt32 >>> ((8 : Int32) &&& 31).toUInt32).toInt32) &&& (255 : Int32)).toUInt32.toUInt16.toUInt32.toInt32), iv ((((p2.toUInt32 >>> ((16 : Int32) &&& 31).toUInt32).toInt32) &&& (255 : Int32)).toUInt32.toUInt16.toUInt32.toInt32), .unset, .unset, .unset, .unset] [(.int (((p2.toUInt32 >>> ((24 : Int32) &&& 31).toUInt32).toInt32) &&& (3 : Int32)))]) _
    refine XS.istore X0.here hx rfl (hb hby at_53) rfl (l' := #[iv p1, iv p2, iv ((p1 &&& (255 : Int32)).toUInt32.toUInt16.toUInt32.toInt32), iv ((((p1.toUInt32 >>> ((8 : Int32) &&& 31).toUInt32).toInt32) &&& (255 : Int32)).toUInt32.toUInt16.toUInt32.toInt32), iv ((p2 &&& (255 : Int32)).toUInt32.toUInt16.toUInt32.toInt32), iv ((((p2.toUInt32 >>> ((8 : Int32) &&& 31).toUInt32).toInt32) &&& (255 : Int32)).toUInt32.toUInt16.toUInt32.toInt32), iv ((((p2.toUInt32 >>> ((16 : Int32) &&& 31).toUInt32).toInt32) &&& (255 : Int32)).toUInt32.toUInt16.toUInt32.toInt32), iv (((p2.toUInt32 >>> ((24 : Int32) &&& 31).toUInt32).toInt32) &&& (3 : Int32)), .unset, .unset, .unset]) rfl ?_
    exact k
  obtain ⟨vs0, hvs0⟩ : ∃ z : Int32, z = ((p1 &&& (255 : Int32)).toUInt32.toUInt16.toUInt32.toInt32) := ⟨_, rfl⟩
  refine og (B := s₁.setTop (mkF m 55 #[iv p1, iv p2, iv vs0, iv ((((p1.toUInt32 >>> ((8 : Int32) &&& 31).toUInt32).toInt32) &&& (255 : Int32)).toUInt32.toUInt16.toUInt32.toInt32), iv ((p2 &&& (255 : Int32)).toUInt32.toUInt16.toUInt32.toInt32), iv ((((p2.toUInt32 >>> ((8 : Int32) &&& 31).toUInt32).toInt32) &&& (255 : Int32)).toUInt32.toUInt16.toUInt32.toInt32), iv ((((p2.toUInt32 >>> ((16 : Int32) &&& 31).toUInt32).toInt32) &&& (255 : Int32)).toUInt32.toUInt16.toUInt32.toInt32), iv (((p2.toUInt32 >>> ((24 : Int32) &&& 31).toUInt32).toInt32) &&& (3 : Int32)), .unset, .unset, .unset] [])) (fun t k => by rw [hvs0] at k; exact k) ?_
  obtain ⟨vs1, hvs1⟩ : ∃ z : Int32, z = ((((p1.toUInt32 >>> ((8 : Int32) &&& 31).toUInt32).toInt32) &&& (255 : Int32)).toUInt32.toUInt16.toUInt32.toInt32) := ⟨_, rfl⟩
  refine og (B := s₁.setTop (mkF m 55 #[iv p1, iv p2, iv vs0, iv vs1, iv ((p2 &&& (255 : Int32)).toUInt32.toUInt16.toUInt32.toInt32), iv ((((p2.toUInt32 >>> ((8 : Int32) &&& 31).toUInt32).toInt32) &&& (255 : Int32)).toUInt32.toUInt16.toUInt32.toInt32), iv ((((p2.toUInt32 >>> ((16 : Int32) &&& 31).toUInt32).toInt32) &&& (255 : Int32)).toUInt32.toUInt16.toUInt32.toInt32), iv (((p2.toUInt32 >>> ((24 : Int32) &&& 31).toUInt32).toInt32) &&& (3 : Int32)), .unset, .unset, .unset] [])) (fun t k => by rw [hvs1] at k; exact k) ?_
  obtain ⟨vq0, hvq0⟩ : ∃ z : Int32, z = ((p2 &&& (255 : Int32)).toUInt32.toUInt16.toUInt32.toInt32) := ⟨_, rfl⟩
  refine og (B := s₁.setTop (mkF m 55 #[iv p1, iv p2, iv vs0, iv vs1, iv vq0, iv ((((p2.toUInt32 >>> ((8 : Int32) &&& 31).toUInt32).toInt32) &&& (255 : Int32)).toUInt32.toUInt16.toUInt32.toInt32), iv ((((p2.toUInt32 >>> ((16 : Int32) &&& 31).toUInt32).toInt32) &&& (255 : Int32)).toUInt32.toUInt16.toUInt32.toInt32), iv (((p2.toUInt32 >>> ((24 : Int32) &&& 31).toUInt32).toInt32) &&& (3 : Int32)), .unset, .unset, .unset] [])) (fun t k => by rw [hvq0] at k; exact k) ?_
  obtain ⟨vq1, hvq1⟩ : ∃ z : Int32, z = ((((p2.toUInt32 >>> ((8 : Int32) &&& 31).toUInt32).toInt32) &&& (255 : Int32)).toUInt32.toUInt16.toUInt32.toInt32) := ⟨_, rfl⟩
  refine og (B := s₁.setTop (mkF m 55 #[iv p1, iv p2, iv vs0, iv vs1, iv vq0, iv vq1, iv ((((p2.toUInt32 >>> ((16 : Int32) &&& 31).toUInt32).toInt32) &&& (255 : Int32)).toUInt32.toUInt16.toUInt32.toInt32), iv (((p2.toUInt32 >>> ((24 : Int32) &&& 31).toUInt32).toInt32) &&& (3 : Int32)), .unset, .unset, .unset] [])) (fun t k => by rw [hvq1] at k; exact k) ?_
  obtain ⟨vq2, hvq2⟩ : ∃ z : Int32, z = ((((p2.toUInt32 >>> ((16 : Int32) &&& 31).toUInt32).toInt32) &&& (255 : Int32)).toUInt32.toUInt16.toUInt32.toInt32) := ⟨_, rfl⟩
  refine og (B := s₁.setTop (mkF m 55 #[iv p1, iv p2, iv vs0, iv vs1, iv vq0, iv vq1, iv vq2, iv (((p2.toUInt32 >>> ((24 : Int32) &&& 31).toUInt32).toInt32) &&& (3 : Int32)), .unset, .unset, .unset] [])) (fun t k => by rw [hvq2] at k; exact k) ?_
  obtain ⟨nn, hnn⟩ : ∃ z : Int32, z = (((p2.toUInt32 >>> ((24 : Int32) &&& 31).toUInt32).toInt32) &&& (3 : Int32)) := ⟨_, rfl⟩
  refine og (B := s₁.setTop (mkF m 55 #[iv p1, iv p2, iv vs0, iv vs1, iv vq0, iv vq1, iv vq2, iv nn, .unset, .unset, .unset] [])) (fun t k => by rw [hnn] at k; exact k) ?_
  have hf_vs0 : ∃ i : Fin 256, vs0 = Int32.ofNat i.1 := by rw [hvs0]; exact own_cF _
  obtain ⟨hn_vs0, hp_vs0, hr_vs0⟩ := own_cP hf_vs0
  have hf_vs1 : ∃ i : Fin 256, vs1 = Int32.ofNat i.1 := by rw [hvs1]; exact own_cF _
  obtain ⟨hn_vs1, hp_vs1, hr_vs1⟩ := own_cP hf_vs1
  have hf_vq0 : ∃ i : Fin 256, vq0 = Int32.ofNat i.1 := by rw [hvq0]; exact own_cF _
  obtain ⟨hn_vq0, hp_vq0, hr_vq0⟩ := own_cP hf_vq0
  have hf_vq1 : ∃ i : Fin 256, vq1 = Int32.ofNat i.1 := by rw [hvq1]; exact own_cF _
  obtain ⟨hn_vq1, hp_vq1, hr_vq1⟩ := own_cP hf_vq1
  have hf_vq2 : ∃ i : Fin 256, vq2 = Int32.ofNat i.1 := by rw [hvq2]; exact own_cF _
  obtain ⟨hn_vq2, hp_vq2, hr_vq2⟩ := own_cP hf_vq2
  obtain ⟨T1, h1, X1, e1, E1, A1, D1, -, st1⟩ := newO X0 hx hZ hown (ow hw 0 rfl) (ow hw 1 rfl) (ow hw 2 rfl) e0 (g := (mkF m 55 #[iv p1, iv p2, iv vs0, iv vs1, iv vq0, iv vq1, iv vq2, iv nn, .unset, .unset, .unset] [])) rfl (hb hby at_55) (by decide) (by decide)
  obtain ⟨b1, g1⟩ : ∃ z, z = h0.size := ⟨_, rfl⟩
  rw [← g1] at A1 D1 st1
  have g_b1 : n0 ≤ b1 := Nat.le_trans Z0 (Nat.le_of_eq g1.symm)
  have sz_b1 : h0.size ≤ b1 := Nat.le_trans (Keep.refl h0 []).1 (Nat.le_of_eq g1.symm)
  have K1 := (Keep.refl h0 []).ext E1
  have O1 := O0.ext E1
  have F1_coder : Fld Z h1 b1 "java/lang/String" "coder" "B" (.int 0) := D1 (Or.inr (ow hw 27 rfl)) (ty := .byte) (by decide)
  have F1_value : Fld Z h1 b1 "java/lang/String" "value" "[B" .null := D1 (Or.inr (ow hw 29 rfl)) (ty := (.array .byte)) (by decide)
  have zk1 := (Nat.le_trans (Nat.zero_le _) E1.1)
  refine og (B := T1.setTop (mkF m 58 #[iv p1, iv p2, iv vs0, iv vs1, iv vq0, iv vq1, iv vq2, iv nn, .unset, .unset, .unset] [(.ref b1)])) st1 ?_
  refine og (B := T1.setTop (mkF m 60 #[iv p1, iv p2, iv vs0, iv vs1, iv vq0, iv vq1, iv vq2, iv nn, .unset, .unset, .unset] [(.int 2), (.ref b1), (.ref b1)])) (fun t k => ?_) ?_
  · refine XS.dup X1.here hx rfl (hb hby at_58) rfl rfl ?_
    refine XS.iconst X1.here hx rfl (hb hby at_59) ?_
    exact k
  obtain ⟨T2, h2, k2, X2, e2, E2, A2, st2⟩ := newP X1 hx hZ (ow hw 3 rfl) e1 (g := (mkF m 60 #[iv p1, iv p2, iv vs0, iv vs1, iv vq0, iv vq1, iv vq2, iv nn, .unset, .unset, .unset] [(.int 2), (.ref b1), (.ref b1)])) rfl (hb hby at_60) rfl (by decide) (cap := 2) (by decide) (by decide) (by decide) (by decide)
  obtain ⟨b2, g2⟩ : ∃ z, z = h1.size := ⟨_, rfl⟩
  rw [← g2] at A2 st2
  have g_b2 : n0 ≤ b2 := Nat.le_trans (Nat.le_trans Z0 E1.1) (Nat.le_of_eq g2.symm)
  have sz_b2 : h0.size ≤ b2 := Nat.le_trans K1.1 (Nat.le_of_eq g2.symm)
  have ne_b1_b2 : b1 ≠ b2 := Nat.ne_of_lt (Nat.lt_of_lt_of_le A1.lt (Nat.le_of_eq g2.symm))
  have c2_E_b1 := A1.ext E2
  have c2_F_b1_coder := F1_coder.ext E2
  have c2_F_b1_value := F1_value.ext E2
  have K2 := K1.ext E2
  have O2 := O1.ext E2
  have V2 : Arv Z h2 b2 k2 .char (2 : Int32) [(.int 0), (.int 0)] (.int 0) := (Arv.new A2 (by decide)).pad (pad_rep [] (.int 0) 2)
  have zs2 := (Nat.le_trans (Nat.le_trans Z0 E1.1) E2.1)
  refine og (B := T2.setTop (mkF m 62 #[iv p1, iv p2, iv vs0, iv vs1, iv vq0, iv vq1, iv vq2, iv nn, .unset, .unset, .unset] [(.ref b2), (.ref b1), (.ref b1)])) st2 ?_
  refine og (B := T2.setTop (mkF m 65 #[iv p1, iv p2, iv vs0, iv vs1, iv vq0, iv vq1, iv vq2, iv nn, .unset, .unset, .unset] [(.int vs0), (.int 0), (.ref b2), (.ref b2), (.ref b1), (.ref b1)])) (fun t k => ?_) ?_
  · refine XS.dup X2.here hx rfl (hb hby at_62) rfl rfl ?_
    refine XS.iconst X2.here hx rfl (hb hby at_63) ?_
    refine XS.iloadN X2.here hx rfl (hb hby at_64) rfl ?_
    exact k
  obtain ⟨cl3, Ar3, qk3, S3, M3, H3, G3⟩ := id V2
  obtain ⟨T3, h3, X3, e3, W3, st3⟩ := stC X2 hx hZ e2 Ar3 (j := (0 : Int32)) (inb_of S3 ⟨by decide, by decide⟩) (g := (mkF m 65 #[iv p1, iv p2, iv vs0, iv vs1, iv vq0, iv vq1, iv vq2, iv nn, .unset, .unset, .unset] [(.int vs0), (.int 0), (.ref b2), (.ref b2), (.ref b1), (.ref b1)])) rfl rfl (hb hby at_65)
  have V3 : Arv Z h3 b2 k2 .char (2 : Int32) [(.int (nar .char vs0)), (.int 0)] (.int 0) := Arv.set Ar3 qk3 S3 M3 H3 G3 (fits_nar_char _) W3 0 rfl (Nat.le_of_ble_eq_true rfl)
  have c3_E_b1 := c2_E_b1.wr W3
  have c3_F_b1_coder := c2_F_b1_coder.other W3 (Or.inl ne_b1_b2)
  have c3_F_b1_value := c2_F_b1_value.other W3 (Or.inl ne_b1_b2)
  have K3 := K2.wr W3 (Or.inr sz_b2)
  have O3 := O2.wr W3 g_b2
  have N3 := Fr.snoc X3 N0 g_b2
  have zs3 := (Nat.le_trans zs2 (Keep.of_wr W3).1)
  have zk3 := (Nat.le_trans (Nat.le_trans zk1 E2.1) (Keep.of_wr W3).1)
  refine og (B := T3.setTop (mkF m 66 #[iv p1, iv p2, iv vs0, iv vs1, iv vq0, iv vq1, iv vq2, iv nn, .unset, .unset, .unset] [(.ref b2), (.ref b1), (.ref b1)])) st3 ?_
  refine og (B := T3.setTop (mkF m 69 #[iv p1, iv p2, iv vs0, iv vs1, iv vq0, iv vq1, iv vq2, iv nn, .unset, .unset, .unset] [(.int vs1), (.int 1), (.ref b2), (.ref b2), (.ref b1), (.ref b1)])) (fun t k => ?_) ?_
  · refine XS.dup X3.here hx rfl (hb hby at_66) rfl rfl ?_
    refine XS.iconst X3.here hx rfl (hb hby at_67) ?_
    refine XS.iloadN X3.here hx rfl (hb hby at_68) rfl ?_
    exact k
  obtain ⟨cl4, Ar4, qk4, S4, M4, H4, G4⟩ := id V3
  obtain ⟨T4, h4, X4, e4, W4, st4⟩ := stC X3 hx hZ e3 Ar4 (j := (1 : Int32)) (inb_of S4 ⟨by decide, by decide⟩) (g := (mkF m 69 #[iv p1, iv p2, iv vs0, iv vs1, iv vq0, iv vq1, iv vq2, iv nn, .unset, .unset, .unset] [(.int vs1), (.int 1), (.ref b2), (.ref b2), (.ref b1), (.ref b1)])) rfl rfl (hb hby at_69)
  have V4 : Arv Z h4 b2 k2 .char (2 : Int32) [(.int (nar .char vs0)), (.int (nar .char vs1))] (.int 0) := Arv.set Ar4 qk4 S4 M4 H4 G4 (fits_nar_char _) W4 1 rfl (Nat.le_of_ble_eq_true rfl)
  have c4_E_b1 := c3_E_b1.wr W4
  have c4_F_b1_coder := c3_F_b1_coder.other W4 (Or.inl ne_b1_b2)
  have c4_F_b1_value := c3_F_b1_value.other W4 (Or.inl ne_b1_b2)
  have K4 := K3.wr W4 (Or.inr sz_b2)
  have O4 := O3.wr W4 g_b2
  have N4 := Fr.snoc X4 N3 g_b2
  have zs4 := (Nat.le_trans zs3 (Keep.of_wr W4).1)
  have zk4 := (Nat.le_trans zk3 (Keep.of_wr W4).1)
  refine og (B := T4.setTop (mkF m 70 #[iv p1, iv p2, iv vs0, iv vs1, iv vq0, iv vq1, iv vq2, iv nn, .unset, .unset, .unset] [(.ref b2), (.ref b1), (.ref b1)])) st4 ?_
  have Vn5 : Arv Z h4 b2 k2 .char (2 : Int32) [(.int vs0), (.int vs1)] (.int 0) := by have q := V4; rw [hn_vs0, hn_vs1] at q; exact q
  obtain ⟨_, _, ⟨T6, L6, k6, n6⟩, -, X6, ⟨Lc6, hQ6, l6, y6, z6⟩, st6⟩ := X4.specialBack hx (y := own_y11) rfl hown (mvT hZ (ow hw 4 rfl)) (mvT hZ (ow hw 5 rfl)) (mvT hZ (ow hw 6 rfl)) (by decide) (backOf (W := 1) (rm1g l Z a0 hw [] b1 b2 k2 (2 : Int32) [(.int vs0), (.int vs1)] (2 : Int32) [(.int (own_b vs0)), (.int (own_b vs1))] GC h4 n0 zs4 S_C hGC O4 c4_E_b1 g_b1 c4_F_b1_value c4_F_b1_coder Vn5 ne_b1_b2 (by decide) (rm4_2 l Z a0 hw [] b2 k2 vs0 vs1 h4 n0 zs4 Vn5 hp_vs0 hp_vs1)) hZ (ow hw 6 rfl) (ow hw 2 rfl) (by decide) (by decide)) (g := (mkF m 70 #[iv p1, iv p2, iv vs0, iv vs1, iv vq0, iv vq1, iv vq2, iv nn, .unset, .unset, .unset] [(.ref b2), (.ref b1), (.ref b1)])) rfl (by rw [hml]; rfl) (Steps.refl _) (a := b1) (argsL := [(.ref b2)]) (rest := [(.ref b1)]) (lenOf own_pd28 rfl) rfl (Nat.le_refl _) (hb hby at_70) (fun _ _ => ⟨rfl, e4, (by decide : 2 + 1 ≤ _), (by decide : 6 + 3 ≤ _)⟩)
  dsimp only [Pt.U, Pt.locs, Pt.cells, Pt.slots] at X6 l6 y6 z6 st6 hQ6
  subst l6 y6 z6
  obtain ⟨rfl, N6q, bq6, kq6, K6q, E6q, F6c, F6v, V6q⟩ := hQ6
  have N6 := Fr.app N4 N6q
  rw [show own_cd (2 : Int32) (2 : Int32) = (0 : Int32) from by decide] at F6c
  have c6_V_b2 := Vn5.keep K6q (fun q => (Ne.symm ne_b1_b2) (List.mem_singleton.mp q))
  have O6 := O4.keep K6q (allS g_b1 all0)
  have K6 := K4.trans K6q (allS (Or.inr sz_b1) all0)
  refine og (B := T6.setTop (mkF m 73 #[iv p1, iv p2, iv vs0, iv vs1, iv vq0, iv vq1, iv vq2, iv nn, .unset, .unset, .unset] [(.ref b1)])) (fun _ => st6.trans) ?_
  refine og (B := T6.setTop (mkF m 75 #[iv p1, iv p2, iv vs0, iv vs1, iv vq0, iv vq1, iv vq2, iv nn, rv b1, .unset, .unset] [])) (fun t k => ?_) ?_
  · refine XS.astore X6.here hx rfl (hb hby at_73) rfl rfl (l' := #[iv p1, iv p2, iv vs0, iv vs1, iv vq0, iv vq1, iv vq2, iv nn, rv b1, .unset, .unset]) rfl ?_
    exact k
  have hnn1 : nn = 0 ∨ nn = 1 ∨ nn = 2 ∨ nn = 3 := by rw [hnn]; exact own_n3 _
  clear hnn
  rcases hnn1 with rfl | rfl | rfl | rfl
  · refine og (B := T6.setTop (mkF m 83 #[iv p1, iv p2, iv vs0, iv vs1, iv vq0, iv vq1, iv vq2, iv 0, rv b1, .unset, .unset] [(.int vq2), (.int vq1), (.int vq0), (.int 0)])) (fun t k => ?_) ?_
    · refine XS.iload X6.here hx rfl (hb hby at_75) rfl ?_
      refine XS.iload X6.here hx rfl (hb hby at_77) rfl ?_
      refine XS.iload X6.here hx rfl (hb hby at_79) rfl ?_
      refine XS.iload X6.here hx rfl (hb hby at_81) rfl ?_
      exact k
    have Ch7p := CHr.ext (own_ext K6) hCH
    obtain ⟨_, _, ⟨T7, L7, k7, n7⟩, -, X7, hS7, hg7, ⟨Lc7, hQ7, l7, y7, z7, hCr7⟩, st7⟩ := callSS X6 hx (y := own_y39) hown (mvT hZ (ow hw 30 rfl)) (mvT hZ (ow hw 31 rfl)) (mvT hZ (ow hw 32 rfl)) (mvT hZ (ow hw 33 rfl)) (by decide) (backOfSH (W := 0) (rm7_0 l Z a0 hw [] vq0 vq1 vq2 GC T6.heap n0 (Nat.le_trans zs4 K6q.1) S_C hGC O6 ) hZ (ow hw 33 rfl) (ow hw 32 rfl) (by decide) (by decide) (own_hEL hw) Ch7p.1) (g := (mkF m 83 #[iv p1, iv p2, iv vs0, iv vs1, iv vq0, iv vq1, iv vq2, iv 0, rv b1, .unset, .unset] [(.int vq2), (.int vq1), (.int vq0), (.int 0)])) rfl (by rw [hml]; rfl) (argsL := [(.int 0), (.int vq0), (.int vq1), (.int vq2)]) (rest := []) (lenOf own_pd29 rfl) rfl (Nat.le_refl _) (hb hby at_83) (fun _ _ => ⟨rfl, rfl, (by decide : 3 + 4 ≤ _), (by decide : 9 + 12 ≤ _)⟩)
    dsimp only [Pt.U, Pt.locs, Pt.cells, Pt.slots] at X7 l7 y7 z7 st7 hQ7 hS7 hg7 hCr7
    subst l7 y7 z7
    have hS := hS.trans hS7 (Nat.le_trans (Nat.le_trans zk4 K6q.1) (Nat.le_trans (Nat.le_of_eq (congrArg Array.size rfl.symm)) hg7))
    have hZ : Z.Warmed39 (s.setVm T7.vm).vm := State.Warmed39.trans hZ hS7.1
    have hown : (s.setVm T7.vm).vm.findClass "com/example/sira/sira/engine/StreamStateKeyPinLaw" = some m.cls := (hS7.1.alike.findClass _ _).trans hown
    have X7 : Stand p l e _ (s.setVm T7.vm) m _ below meth c T7 _ _ _ := X7
    obtain ⟨aq7, bq7, kq7, rfl, N7q, K7q, E7q, F7c, F7v, V7q⟩ := hQ7
    have N7 := Fr.app N6 N7q
    have c7_V_b2 := c6_V_b2.keep K7q (List.not_mem_nil)
    have c7_E_b1 := E6q.keep K7q
    have c7_F_b1_coder := F6c.keep K7q (List.not_mem_nil)
    have c7_F_b1_value := F6v.keep K7q (List.not_mem_nil)
    have c7_V_bq6 := V6q.keep K7q (List.not_mem_nil)
    have O7 := O6.keep K7q all0
    have K7 := K6.trans K7q all0
    have Ch7 := Ch7p.trans hCr7
    have zs7 := (Nat.le_trans (Nat.le_trans zs4 K6q.1) K7q.1)
    refine og (B := T7.setTop (mkF m 86 #[iv p1, iv p2, iv vs0, iv vs1, iv vq0, iv vq1, iv vq2, iv 0, rv b1, .unset, .unset] [(.ref aq7)])) (fun _ => st7.trans) ?_
    refine og (B := T7.setTop (mkF m 92 #[iv p1, iv p2, iv vs0, iv vs1, iv vq0, iv vq1, iv vq2, iv 0, rv b1, rv aq7, .unset] [(.ref b1), (.ref aq7)])) (fun t k => ?_) ?_
    · refine XS.astore X7.here hx rfl (hb hby at_86) rfl rfl (l' := #[iv p1, iv p2, iv vs0, iv vs1, iv vq0, iv vq1, iv vq2, iv 0, rv b1, rv aq7, .unset]) rfl ?_
      refine XS.aload X7.here hx rfl (hb hby at_88) rfl rfl ?_
      refine XS.aload X7.here hx rfl (hb hby at_90) rfl rfl ?_
      exact k
    obtain ⟨_, _, ⟨T8, L8, k8, n8⟩, -, X8, hS8, hg8, ⟨Lc8, hQ8, l8, y8, z8, hCr8⟩, st8⟩ := callSS X7 hx (y := own_y38) hown (mvT hZ (ow hw 37 rfl)) (mvT hZ (ow hw 38 rfl)) (mvT hZ (ow hw 39 rfl)) (mvT hZ (ow hw 40 rfl)) (by decide) (backOfSH (W := 0) (rm8_0 l Z a0 hw [] aq7 b1 bq7 bq6 kq7 kq6 (own_b vs0) (own_b vs1) GC ci al ab ag agv T7.heap n0 zs7 S_C hGC O7 S_I E_ci S_R E_al F_ab E_ab F_ag F_gv V_gv E7q F7c F7v V7q c7_E_b1 c7_F_b1_coder c7_F_b1_value c7_V_bq6) hZ (ow hw 40 rfl) (ow hw 39 rfl) (by decide) (by decide) (own_hEL hw) Ch7.1) (g := (mkF m 92 #[iv p1, iv p2, iv vs0, iv vs1, iv vq0, iv vq1, iv vq2, iv 0, rv b1, rv aq7, .unset] [(.ref b1), (.ref aq7)])) rfl (by rw [hml]; rfl) (argsL := [(.ref aq7), (.ref b1)]) (rest := []) (lenOf own_pd30 rfl) rfl (Nat.le_refl _) (hb hby at_92) (fun _ _ => ⟨rfl, rfl, (by decide : 7 + 12 ≤ _), (by decide : 21 + 80 ≤ _)⟩)
    dsimp only [Pt.U, Pt.locs, Pt.cells, Pt.slots] at X8 l8 y8 z8 st8 hQ8 hS8 hg8 hCr8
    subst l8 y8 z8
    have hS := hS.trans hS8 (Nat.le_trans (Nat.le_refl _) (Nat.le_trans (Nat.le_of_eq (congrArg Array.size rfl.symm)) hg8))
    have hZ : Z.Warmed39 (s.setVm T8.vm).vm := State.Warmed39.trans hZ hS8.1
    have hown : (s.setVm T8.vm).vm.findClass "com/example/sira/sira/engine/StreamStateKeyPinLaw" = some m.cls := (hS8.1.alike.findClass _ _).trans hown
    have X8 : Stand p l e _ (s.setVm T8.vm) m _ below meth c T8 _ _ _ := X8
    obtain ⟨aq8, bq8, kq8, rfl, N8q, K8q, E8q, F8c, F8v, V8q, -⟩ := hQ8
    have N8 := Fr.app N7 N8q
    have c8_V_b2 := c7_V_b2.keep K8q (List.not_mem_nil)
    have c8_E_b1 := c7_E_b1.keep K8q
    have c8_F_b1_coder := c7_F_b1_coder.keep K8q (List.not_mem_nil)
    have c8_F_b1_value := c7_F_b1_value.keep K8q (List.not_mem_nil)
    have c8_V_bq6 := c7_V_bq6.keep K8q (List.not_mem_nil)
    have c8_E_aq7 := E7q.keep K8q
    have c8_F_aq7_coder := F7c.keep K8q (List.not_mem_nil)
    have c8_F_aq7_value := F7v.keep K8q (List.not_mem_nil)
    have c8_V_bq7 := V7q.keep K8q (List.not_mem_nil)
    have O8 := O7.keep K8q all0
    have K8 := K7.trans K8q all0
    have Ch8 := Ch7.trans hCr8
    refine og (B := T8.setTop (mkF m 95 #[iv p1, iv p2, iv vs0, iv vs1, iv vq0, iv vq1, iv vq2, iv 0, rv b1, rv aq7, .unset] [(.ref aq8)])) (fun _ => st8.trans) ?_
    refine og (B := T8.setTop (mkF m 104 #[iv p1, iv p2, iv vs0, iv vs1, iv vq0, iv vq1, iv vq2, iv 0, rv b1, rv aq7, rv aq8] [(.ref aq8)])) (fun t k => ?_) ?_
    · refine XS.astore X8.here hx rfl (hb hby at_95) rfl rfl (l' := #[iv p1, iv p2, iv vs0, iv vs1, iv vq0, iv vq1, iv vq2, iv 0, rv b1, rv aq7, rv aq8]) rfl ?_
      refine XS.aload X8.here hx rfl (hb hby at_97) rfl rfl ?_
      refine XS.ifnullNo X8.here hx rfl (hb hby at_99) rfl ?_
      refine XS.aload X8.here hx rfl (hb hby at_102) rfl rfl ?_
      exact k
    obtain ⟨cq9, kq9, q9a, q9b, q9c⟩ := isOf hZ rfl E8q
    obtain ⟨_, _, ⟨T9, L9, k9, n9⟩, -, X9, ⟨Lc9, hQ9, l9, y9, z9⟩, st9⟩ := X8.virtualBack hx (y := own_y2) (z := own_y2) hown (mvT hZ (ow hw 167 rfl)) (mvT hZ (ow hw 70 rfl)) (notFace_of_selects (args := #[]) (mvT hZ (ow hw 72 rfl))) (mvT hZ (ow hw 72 rfl)) (mvT hZ (ow hw 71 rfl)) (by decide) (backOf (W := 0) (rm13 l Z a0 hw [] aq8 bq8 kq8 (2 : Int32) [(.int (own_b vs0)), (.int (own_b vs1))] (.int 0) GC T8.heap n0 (Nat.le_trans zs7 K8q.1) S_C hGC O8 E8q F8c F8v V8q) hZ (ow hw 73 rfl) (ow hw 2 rfl) (by decide) (by decide)) q9a q9c (g := (mkF m 104 #[iv p1, iv p2, iv vs0, iv vs1, iv vq0, iv vq1, iv vq2, iv 0, rv b1, rv aq7, rv aq8] [(.ref aq8)])) rfl (by rw [hml]; rfl) (Steps.refl _) (argsL := []) (rest := []) (lenOf own_pd12 rfl) rfl (Nat.le_refl _) (hb hby at_104) (fun _ _ => ⟨rfl, rfl, (by decide : 19 + 0 ≤ _), (by decide : 101 + 0 ≤ _)⟩)
    dsimp only [Pt.U, Pt.locs, Pt.cells, Pt.slots] at X9 l9 y9 z9 st9 hQ9
    subst l9 y9 z9
    obtain ⟨rfl, N9q, eq9⟩ := hQ9
    have N9 := Fr.app N8 N9q
    refine og (B := T9.setTop (mkF m 107 #[iv p1, iv p2, iv vs0, iv vs1, iv vq0, iv vq1, iv vq2, iv 0, rv b1, rv aq7, rv aq8] [(.int 2)])) (fun _ => st9.trans) ?_
    refine og (B := T9.setTop (mkF m 119 #[iv p1, iv p2, iv vs0, iv vs1, iv vq0, iv vq1, iv vq2, iv 0, rv b1, rv aq7, rv aq8] [(.int 0), (.ref aq8)])) (fun t k => ?_) ?_
    · refine XS.iconst X9.here hx rfl (hb hby at_107) ?_
      refine XS.iload X9.here hx rfl (hb hby at_108) rfl ?_
      refine XS.iadd X9.here hx rfl (hb hby at_110) rfl ?_
      refine XS.icmpYes X9.here hx rfl (pc0 := 111) (pc' := 116) rfl (hb hby at_111) rfl (teq (by decide)).1 (by decide) (by decide) ?_
      refine XS.aload X9.here hx rfl (hb hby at_116) rfl rfl ?_
      refine XS.iconst X9.here hx rfl (hb hby at_118) ?_
      exact k
    obtain ⟨cq10, kq10, q10a, q10b, q10c⟩ := isOf hZ eq9 E8q
    obtain ⟨_, _, ⟨T10, L10, k10, n10⟩, -, X10, ⟨Lc10, hQ10, l10, y10, z10⟩, st10⟩ := X9.virtualBack hx (y := own_y6) (z := own_y6) hown (mvT hZ (ow hw 168 rfl)) (mvT hZ (ow hw 169 rfl)) (notFace_of_selects (args := #[]) (mvT hZ (ow hw 171 rfl))) (mvT hZ (ow hw 171 rfl)) (mvT hZ (ow hw 170 rfl)) (by decide) (backOf (W := 0) (rm33 l Z a0 hw [] aq8 (0 : Int32) bq8 kq8 (2 : Int32) [(.int (own_b vs0)), (.int (own_b vs1))] (.int 0) (own_b vs0) GC GF T8.heap n0 (Nat.le_trans zs7 K8q.1) S_C hGC O8 E8q F8c F8v V8q (by decide) rfl S_F is_GF) hZ (ow hw 172 rfl) (ow hw 2 rfl) (by decide) (by decide)) q10a q10c (g := (mkF m 119 #[iv p1, iv p2, iv vs0, iv vs1, iv vq0, iv vq1, iv vq2, iv 0, rv b1, rv aq7, rv aq8] [(.int 0), (.ref aq8)])) rfl (by rw [hml]; rfl) (Steps.refl _) (argsL := [(.int 0)]) (rest := []) (lenOf own_pd31 rfl) rfl (Nat.le_refl _) (hb hby at_119) (fun _ _ => ⟨rfl, eq9, (by decide : 19 + 0 ≤ _), (by decide : 101 + 0 ≤ _)⟩)
    dsimp only [Pt.U, Pt.locs, Pt.cells, Pt.slots] at X10 l10 y10 z10 st10 hQ10
    subst l10 y10 z10
    obtain ⟨rfl, N10q, eq10⟩ := hQ10
    have N10 := Fr.app N9 N10q
    refine og (B := T10.setTop (mkF m 122 #[iv p1, iv p2, iv vs0, iv vs1, iv vq0, iv vq1, iv vq2, iv 0, rv b1, rv aq7, rv aq8] [(.int (own_c (own_b vs0)))])) (fun _ => st10.trans) ?_
    refine og (B := T10.setTop (mkF m 129 #[iv p1, iv p2, iv vs0, iv vs1, iv vq0, iv vq1, iv vq2, iv 0, rv b1, rv aq7, rv aq8] [(.int 1), (.ref aq8)])) (fun t k => ?_) ?_
    · refine XS.iloadN X10.here hx rfl (hb hby at_122) rfl ?_
      refine XS.icmpNo X10.here hx rfl (hb hby at_123) rfl (teq hr_vs0).2 ?_
      refine XS.aload X10.here hx rfl (hb hby at_126) rfl rfl ?_
      refine XS.iconst X10.here hx rfl (hb hby at_128) ?_
      exact k
    obtain ⟨cq11, kq11, q11a, q11b, q11c⟩ := isOf hZ eq10 E8q
    obtain ⟨_, _, ⟨T11, L11, k11, n11⟩, -, X11, ⟨Lc11, hQ11, l11, y11, z11⟩, st11⟩ := X10.virtualBack hx (y := own_y6) (z := own_y6) hown (mvT hZ (ow hw 168 rfl)) (mvT hZ (ow hw 169 rfl)) (notFace_of_selects (args := #[]) (mvT hZ (ow hw 171 rfl))) (mvT hZ (ow hw 171 rfl)) (mvT hZ (ow hw 170 rfl)) (by decide) (backOf (W := 0) (rm33 l Z a0 hw [] aq8 (1 : Int32) bq8 kq8 (2 : Int32) [(.int (own_b vs0)), (.int (own_b vs1))] (.int 0) (own_b vs1) GC GF T8.heap n0 (Nat.le_trans zs7 K8q.1) S_C hGC O8 E8q F8c F8v V8q (by decide) rfl S_F is_GF) hZ (ow hw 172 rfl) (ow hw 2 rfl) (by decide) (by decide)) q11a q11c (g := (mkF m 129 #[iv p1, iv p2, iv vs0, iv vs1, iv vq0, iv vq1, iv vq2, iv 0, rv b1, rv aq7, rv aq8] [(.int 1), (.ref aq8)])) rfl (by rw [hml]; rfl) (Steps.refl _) (argsL := [(.int 1)]) (rest := []) (lenOf own_pd31 rfl) rfl (Nat.le_refl _) (hb hby at_129) (fun _ _ => ⟨rfl, eq10, (by decide : 19 + 0 ≤ _), (by decide : 101 + 0 ≤ _)⟩)
    dsimp only [Pt.U, Pt.locs, Pt.cells, Pt.slots] at X11 l11 y11 z11 st11 hQ11
    subst l11 y11 z11
    obtain ⟨rfl, N11q, eq11⟩ := hQ11
    have N11 := Fr.app N10 N11q
    refine og (B := T11.setTop (mkF m 132 #[iv p1, iv p2, iv vs0, iv vs1, iv vq0, iv vq1, iv vq2, iv 0, rv b1, rv aq7, rv aq8] [(.int (own_c (own_b vs1)))])) (fun _ => st11.trans) ?_
    obtain ⟨fs, hr, hrun, hended, hRW⟩ := X11.leaveW hS (by rw [eq11]; exact (Nat.le_refl _)) (v := some (.int 1)) (fun h => by rw [Bd.returns] at h; cases h)
    refine ⟨_, _, ?_, hrun, hended, _, _, rfl, ?_, hRW.1, hRW.2.1, hRW.2.2.1, hRW.2.2.2.mono (by decide) (by decide)⟩
    · refine XS.iloadN X11.here hx rfl (hb hby at_132) rfl ?_
      refine XS.icmpYes X11.here hx rfl (pc0 := 133) (pc' := 138) rfl (hb hby at_133) rfl (teq hr_vs1).1 (by decide) (by decide) ?_
      refine XS.iload X11.here hx rfl (hb hby at_138) rfl ?_
      refine XS.iconst X11.here hx rfl (hb hby at_140) ?_
      refine XS.icmpYes X11.here hx rfl (pc0 := 141) (pc' := 160) rfl (hb hby at_141) rfl (tlt (by decide)).1 (by decide) (by decide) ?_
      refine XS.iload X11.here hx rfl (hb hby at_160) rfl ?_
      show own_S p e below T11 (mkF m 162 #[iv p1, iv p2, iv vs0, iv vs1, iv vq0, iv vq1, iv vq2, iv 0, rv b1, rv aq7, rv aq8] [(.int 0)]) _
      refine XS.iconst X11.here hx rfl (hb hby at_162) ?_
      refine XS.icmpYes X11.here hx rfl (pc0 := 163) (pc' := 182) rfl (hb hby at_163) rfl (tlt (by decide)).1 (by decide) (by decide) ?_
      refine XS.iload X11.here hx rfl (hb hby at_182) rfl ?_
      refine XS.iconst X11.here hx rfl (hb hby at_184) ?_
      refine XS.icmpYes X11.here hx rfl (pc0 := 185) (pc' := 204) rfl (hb hby at_185) rfl (tlt (by decide)).1 (by decide) (by decide) ?_
      refine XS.iconst X11.here hx rfl (hb hby at_204) ?_
      show own_S p e below T11 (mkF m 205 #[iv p1, iv p2, iv vs0, iv vs1, iv vq0, iv vq1, iv vq2, iv 0, rv b1, rv aq7, rv aq8] [(.int 1)]) _
      exact retN X11 hx (t := .boolean) Bd.returns (by simp) (hb hby at_205) hr
    · show Q0 Z p1 p2 GC GF ci al ab ag agv h0 n0 _ T11.heap _
      rw [eq11]
      exact ⟨rfl, N11⟩
  · refine og (B := T6.setTop (mkF m 83 #[iv p1, iv p2, iv vs0, iv vs1, iv vq0, iv vq1, iv vq2, iv 1, rv b1, .unset, .unset] [(.int vq2), (.int vq1), (.int vq0), (.int 1)])) (fun t k => ?_) ?_
    · refine XS.iload X6.here hx rfl (hb hby at_75) rfl ?_
      refine XS.iload X6.here hx rfl (hb hby at_77) rfl ?_
      refine XS.iload X6.here hx rfl (hb hby at_79) rfl ?_
      refine XS.iload X6.here hx rfl (hb hby at_81) rfl ?_
      exact k
    have Ch12p := CHr.ext (own_ext K6) hCH
    obtain ⟨_, _, ⟨T12, L12, k12, n12⟩, -, X12, hS12, hg12, ⟨Lc12, hQ12, l12, y12, z12, hCr12⟩, st12⟩ := callSS X6 hx (y := own_y39) hown (mvT hZ (ow hw 30 rfl)) (mvT hZ (ow hw 31 rfl)) (mvT hZ (ow hw 32 rfl)) (mvT hZ (ow hw 33 rfl)) (by decide) (backOfSH (W := 0) (rm7_1 l Z a0 hw [] vq0 vq1 vq2 GC T6.heap n0 (Nat.le_trans zs4 K6q.1) S_C hGC O6 hn_vq0 hp_vq0) hZ (ow hw 33 rfl) (ow hw 32 rfl) (by decide) (by decide) (own_hEL hw) Ch12p.1) (g := (mkF m 83 #[iv p1, iv p2, iv vs0, iv vs1, iv vq0, iv vq1, iv vq2, iv 1, rv b1, .unset, .unset] [(.int vq2), (.int vq1), (.int vq0), (.int 1)])) rfl (by rw [hml]; rfl) (argsL := [(.int 1), (.int vq0), (.int vq1), (.int vq2)]) (rest := []) (lenOf own_pd29 rfl) rfl (Nat.le_refl _) (hb hby at_83) (fun _ _ => ⟨rfl, rfl, (by decide : 3 + 4 ≤ _), (by decide : 9 + 12 ≤ _)⟩)
    dsimp only [Pt.U, Pt.locs, Pt.cells, Pt.slots] at X12 l12 y12 z12 st12 hQ12 hS12 hg12 hCr12
    subst l12 y12 z12
    have hS := hS.trans hS12 (Nat.le_trans (Nat.le_trans zk4 K6q.1) (Nat.le_trans (Nat.le_of_eq (congrArg Array.size rfl.symm)) hg12))
    have hZ : Z.Warmed39 (s.setVm T12.vm).vm := State.Warmed39.trans hZ hS12.1
    have hown : (s.setVm T12.vm).vm.findClass "com/example/sira/sira/engine/StreamStateKeyPinLaw" = some m.cls := (hS12.1.alike.findClass _ _).trans hown
    have X12 : Stand p l e _ (s.setVm T12.vm) m _ below meth c T12 _ _ _ := X12
    obtain ⟨aq12, bq12, kq12, rfl, N12q, K12q, E12q, F12c, F12v, V12q⟩ := hQ12
    have N12 := Fr.app N6 N12q
    have c12_V_b2 := c6_V_b2.keep K12q (List.not_mem_nil)
    have c12_E_b1 := E6q.keep K12q
    have c12_F_b1_coder := F6c.keep K12q (List.not_mem_nil)
    have c12_F_b1_value := F6v.keep K12q (List.not_mem_nil)
    have c12_V_bq6 := V6q.keep K12q (List.not_mem_nil)
    have O12 := O6.keep K12q all0
    have K12 := K6.trans K12q all0
    have Ch12 := Ch12p.trans hCr12
    have zs12 := (Nat.le_trans (Nat.le_trans zs4 K6q.1) K12q.1)
    refine og (B := T12.setTop (mkF m 86 #[iv p1, iv p2, iv vs0, iv vs1, iv vq0, iv vq1, iv vq2, iv 1, rv b1, .unset, .unset] [(.ref aq12)])) (fun _ => st12.trans) ?_
    refine og (B := T12.setTop (mkF m 92 #[iv p1, iv p2, iv vs0, iv vs1, iv vq0, iv vq1, iv vq2, iv 1, rv b1, rv aq12, .unset] [(.ref b1), (.ref aq12)])) (fun t k => ?_) ?_
    · refine XS.astore X12.here hx rfl (hb hby at_86) rfl rfl (l' := #[iv p1, iv p2, iv vs0, iv vs1, iv vq0, iv vq1, iv vq2, iv 1, rv b1, rv aq12, .unset]) rfl ?_
      refine XS.aload X12.here hx rfl (hb hby at_88) rfl rfl ?_
      refine XS.aload X12.here hx rfl (hb hby at_90) rfl rfl ?_
      exact k
    obtain ⟨_, _, ⟨T13, L13, k13, n13⟩, -, X13, hS13, hg13, ⟨Lc13, hQ13, l13, y13, z13, hCr13⟩, st13⟩ := callSS X12 hx (y := own_y38) hown (mvT hZ (ow hw 37 rfl)) (mvT hZ (ow hw 38 rfl)) (mvT hZ (ow hw 39 rfl)) (mvT hZ (ow hw 40 rfl)) (by decide) (backOfSH (W := 0) (rm8_1 l Z a0 hw [] aq12 b1 bq12 bq6 kq12 kq6 (own_b vq0) (own_b vs0) (own_b vs1) GC ci al ab ag agv T12.heap n0 zs12 S_C hGC O12 S_I E_ci S_R E_al F_ab E_ab F_ag F_gv V_gv E12q F12c F12v V12q c12_E_b1 c12_F_b1_coder c12_F_b1_value c12_V_bq6) hZ (ow hw 40 rfl) (ow hw 39 rfl) (by decide) (by decide) (own_hEL hw) Ch12.1) (g := (mkF m 92 #[iv p1, iv p2, iv vs0, iv vs1, iv vq0, iv vq1, iv vq2, iv 1, rv b1, rv aq12, .unset] [(.ref b1), (.ref aq12)])) rfl (by rw [hml]; rfl) (argsL := [(.ref aq12), (.ref b1)]) (rest := []) (lenOf own_pd30 rfl) rfl (Nat.le_refl _) (hb hby at_92) (fun _ _ => ⟨rfl, rfl, (by decide : 7 + 12 ≤ _), (by decide : 21 + 80 ≤ _)⟩)
    dsimp only [Pt.U, Pt.locs, Pt.cells, Pt.slots] at X13 l13 y13 z13 st13 hQ13 hS13 hg13 hCr13
    subst l13 y13 z13
    have hS := hS.trans hS13 (Nat.le_trans (Nat.le_refl _) (Nat.le_trans (Nat.le_of_eq (congrArg Array.size rfl.symm)) hg13))
    have hZ : Z.Warmed39 (s.setVm T13.vm).vm := State.Warmed39.trans hZ hS13.1
    have hown : (s.setVm T13.vm).vm.findClass "com/example/sira/sira/engine/StreamStateKeyPinLaw" = some m.cls := (hS13.1.alike.findClass _ _).trans hown
    have X13 : Stand p l e _ (s.setVm T13.vm) m _ below meth c T13 _ _ _ := X13
    obtain ⟨aq13, bq13, kq13, uq13_0, rfl, N13q, K13q, E13q, F13c, F13v, V13q, lw13_0, -⟩ := hQ13
    have N13 := Fr.app N12 N13q
    have c13_V_b2 := c12_V_b2.keep K13q (List.not_mem_nil)
    have c13_E_b1 := c12_E_b1.keep K13q
    have c13_F_b1_coder := c12_F_b1_coder.keep K13q (List.not_mem_nil)
    have c13_F_b1_value := c12_F_b1_value.keep K13q (List.not_mem_nil)
    have c13_V_bq6 := c12_V_bq6.keep K13q (List.not_mem_nil)
    have c13_E_aq12 := E12q.keep K13q
    have c13_F_aq12_coder := F12c.keep K13q (List.not_mem_nil)
    have c13_F_aq12_value := F12v.keep K13q (List.not_mem_nil)
    have c13_V_bq12 := V12q.keep K13q (List.not_mem_nil)
    have O13 := O12.keep K13q all0
    have K13 := K12.trans K13q all0
    have Ch13 := Ch12.trans hCr13
    refine og (B := T13.setTop (mkF m 95 #[iv p1, iv p2, iv vs0, iv vs1, iv vq0, iv vq1, iv vq2, iv 1, rv b1, rv aq12, .unset] [(.ref aq13)])) (fun _ => st13.trans) ?_
    refine og (B := T13.setTop (mkF m 104 #[iv p1, iv p2, iv vs0, iv vs1, iv vq0, iv vq1, iv vq2, iv 1, rv b1, rv aq12, rv aq13] [(.ref aq13)])) (fun t k => ?_) ?_
    · refine XS.astore X13.here hx rfl (hb hby at_95) rfl rfl (l' := #[iv p1, iv p2, iv vs0, iv vs1, iv vq0, iv vq1, iv vq2, iv 1, rv b1, rv aq12, rv aq13]) rfl ?_
      refine XS.aload X13.here hx rfl (hb hby at_97) rfl rfl ?_
      refine XS.ifnullNo X13.here hx rfl (hb hby at_99) rfl ?_
      refine XS.aload X13.here hx rfl (hb hby at_102) rfl rfl ?_
      exact k
    obtain ⟨cq14, kq14, q14a, q14b, q14c⟩ := isOf hZ rfl E13q
    obtain ⟨_, _, ⟨T14, L14, k14, n14⟩, -, X14, ⟨Lc14, hQ14, l14, y14, z14⟩, st14⟩ := X13.virtualBack hx (y := own_y2) (z := own_y2) hown (mvT hZ (ow hw 167 rfl)) (mvT hZ (ow hw 70 rfl)) (notFace_of_selects (args := #[]) (mvT hZ (ow hw 72 rfl))) (mvT hZ (ow hw 72 rfl)) (mvT hZ (ow hw 71 rfl)) (by decide) (backOf (W := 0) (rm13 l Z a0 hw [] aq13 bq13 kq13 (3 : Int32) [(.int (own_b vs0)), (.int (own_b vs1)), (.int uq13_0)] (.int 0) GC T13.heap n0 (Nat.le_trans zs12 K13q.1) S_C hGC O13 E13q F13c F13v V13q) hZ (ow hw 73 rfl) (ow hw 2 rfl) (by decide) (by decide)) q14a q14c (g := (mkF m 104 #[iv p1, iv p2, iv vs0, iv vs1, iv vq0, iv vq1, iv vq2, iv 1, rv b1, rv aq12, rv aq13] [(.ref aq13)])) rfl (by rw [hml]; rfl) (Steps.refl _) (argsL := []) (rest := []) (lenOf own_pd12 rfl) rfl (Nat.le_refl _) (hb hby at_104) (fun _ _ => ⟨rfl, rfl, (by decide : 19 + 0 ≤ _), (by decide : 101 + 0 ≤ _)⟩)
    dsimp only [Pt.U, Pt.locs, Pt.cells, Pt.slots] at X14 l14 y14 z14 st14 hQ14
    subst l14 y14 z14
    obtain ⟨rfl, N14q, eq14⟩ := hQ14
    have N14 := Fr.app N13 N14q
    refine og (B := T14.setTop (mkF m 107 #[iv p1, iv p2, iv vs0, iv vs1, iv vq0, iv vq1, iv vq2, iv 1, rv b1, rv aq12, rv aq13] [(.int 3)])) (fun _ => st14.trans) ?_
    refine og (B := T14.setTop (mkF m 119 #[iv p1, iv p2, iv vs0, iv vs1, iv vq0, iv vq1, iv vq2, iv 1, rv b1, rv aq12, rv aq13] [(.int 0), (.ref aq13)])) (fun t k => ?_) ?_
    · refine XS.iconst X14.here hx rfl (hb hby at_107) ?_
      refine XS.iload X14.here hx rfl (hb hby at_108) rfl ?_
      refine XS.iadd X14.here hx rfl (hb hby at_110) rfl ?_
      refine XS.icmpYes X14.here hx rfl (pc0 := 111) (pc' := 116) rfl (hb hby at_111) rfl (teq (by decide)).1 (by decide) (by decide) ?_
      refine XS.aload X14.here hx rfl (hb hby at_116) rfl rfl ?_
      refine XS.iconst X14.here hx rfl (hb hby at_118) ?_
      exact k
    obtain ⟨cq15, kq15, q15a, q15b, q15c⟩ := isOf hZ eq14 E13q
    obtain ⟨_, _, ⟨T15, L15, k15, n15⟩, -, X15, ⟨Lc15, hQ15, l15, y15, z15⟩, st15⟩ := X14.virtualBack hx (y := own_y6) (z := own_y6) hown (mvT hZ (ow hw 168 rfl)) (mvT hZ (ow hw 169 rfl)) (notFace_of_selects (args := #[]) (mvT hZ (ow hw 171 rfl))) (mvT hZ (ow hw 171 rfl)) (mvT hZ (ow hw 170 rfl)) (by decide) (backOf (W := 0) (rm33 l Z a0 hw [] aq13 (0 : Int32) bq13 kq13 (3 : Int32) [(.int (own_b vs0)), (.int (own_b vs1)), (.int uq13_0)] (.int 0) (own_b vs0) GC GF T13.heap n0 (Nat.le_trans zs12 K13q.1) S_C hGC O13 E13q F13c F13v V13q (by decide) rfl S_F is_GF) hZ (ow hw 172 rfl) (ow hw 2 rfl) (by decide) (by decide)) q15a q15c (g := (mkF m 119 #[iv p1, iv p2, iv vs0, iv vs1, iv vq0, iv vq1, iv vq2, iv 1, rv b1, rv aq12, rv aq13] [(.int 0), (.ref aq13)])) rfl (by rw [hml]; rfl) (Steps.refl _) (argsL := [(.int 0)]) (rest := []) (lenOf own_pd31 rfl) rfl (Nat.le_refl _) (hb hby at_119) (fun _ _ => ⟨rfl, eq14, (by decide : 19 + 0 ≤ _), (by decide : 101 + 0 ≤ _)⟩)
    dsimp only [Pt.U, Pt.locs, Pt.cells, Pt.slots] at X15 l15 y15 z15 st15 hQ15
    subst l15 y15 z15
    obtain ⟨rfl, N15q, eq15⟩ := hQ15
    have N15 := Fr.app N14 N15q
    refine og (B := T15.setTop (mkF m 122 #[iv p1, iv p2, iv vs0, iv vs1, iv vq0, iv vq1, iv vq2, iv 1, rv b1, rv aq12, rv aq13] [(.int (own_c (own_b vs0)))])) (fun _ => st15.trans) ?_
    refine og (B := T15.setTop (mkF m 129 #[iv p1, iv p2, iv vs0, iv vs1, iv vq0, iv vq1, iv vq2, iv 1, rv b1, rv aq12, rv aq13] [(.int 1), (.ref aq13)])) (fun t k => ?_) ?_
    · refine XS.iloadN X15.here hx rfl (hb hby at_122) rfl ?_
      refine XS.icmpNo X15.here hx rfl (hb hby at_123) rfl (teq hr_vs0).2 ?_
      refine XS.aload X15.here hx rfl (hb hby at_126) rfl rfl ?_
      refine XS.iconst X15.here hx rfl (hb hby at_128) ?_
      exact k
    obtain ⟨cq16, kq16, q16a, q16b, q16c⟩ := isOf hZ eq15 E13q
    obtain ⟨_, _, ⟨T16, L16, k16, n16⟩, -, X16, ⟨Lc16, hQ16, l16, y16, z16⟩, st16⟩ := X15.virtualBack hx (y := own_y6) (z := own_y6) hown (mvT hZ (ow hw 168 rfl)) (mvT hZ (ow hw 169 rfl)) (notFace_of_selects (args := #[]) (mvT hZ (ow hw 171 rfl))) (mvT hZ (ow hw 171 rfl)) (mvT hZ (ow hw 170 rfl)) (by decide) (backOf (W := 0) (rm33 l Z a0 hw [] aq13 (1 : Int32) bq13 kq13 (3 : Int32) [(.int (own_b vs0)), (.int (own_b vs1)), (.int uq13_0)] (.int 0) (own_b vs1) GC GF T13.heap n0 (Nat.le_trans zs12 K13q.1) S_C hGC O13 E13q F13c F13v V13q (by decide) rfl S_F is_GF) hZ (ow hw 172 rfl) (ow hw 2 rfl) (by decide) (by decide)) q16a q16c (g := (mkF m 129 #[iv p1, iv p2, iv vs0, iv vs1, iv vq0, iv vq1, iv vq2, iv 1, rv b1, rv aq12, rv aq13] [(.int 1), (.ref aq13)])) rfl (by rw [hml]; rfl) (Steps.refl _) (argsL := [(.int 1)]) (rest := []) (lenOf own_pd31 rfl) rfl (Nat.le_refl _) (hb hby at_129) (fun _ _ => ⟨rfl, eq15, (by decide : 19 + 0 ≤ _), (by decide : 101 + 0 ≤ _)⟩)
    dsimp only [Pt.U, Pt.locs, Pt.cells, Pt.slots] at X16 l16 y16 z16 st16 hQ16
    subst l16 y16 z16
    obtain ⟨rfl, N16q, eq16⟩ := hQ16
    have N16 := Fr.app N15 N16q
    refine og (B := T16.setTop (mkF m 132 #[iv p1, iv p2, iv vs0, iv vs1, iv vq0, iv vq1, iv vq2, iv 1, rv b1, rv aq12, rv aq13] [(.int (own_c (own_b vs1)))])) (fun _ => st16.trans) ?_
    refine og (B := T16.setTop (mkF m 147 #[iv p1, iv p2, iv vs0, iv vs1, iv vq0, iv vq1, iv vq2, iv 1, rv b1, rv aq12, rv aq13] [(.int 2), (.ref aq13)])) (fun t k => ?_) ?_
    · refine XS.iloadN X16.here hx rfl (hb hby at_132) rfl ?_
      refine XS.icmpYes X16.here hx rfl (pc0 := 133) (pc' := 138) rfl (hb hby at_133) rfl (teq hr_vs1).1 (by decide) (by decide) ?_
      refine XS.iload X16.here hx rfl (hb hby at_138) rfl ?_
      refine XS.iconst X16.here hx rfl (hb hby at_140) ?_
      refine XS.icmpNo X16.here hx rfl (hb hby at_141) rfl (flt (by decide)).1 ?_
      refine XS.aload X16.here hx rfl (hb hby at_144) rfl rfl ?_
      show own_S p e below T16 (mkF m 146 #[iv p1, iv p2, iv vs0, iv vs1, iv vq0, iv vq1, iv vq2, iv 1, rv b1, rv aq12, rv aq13] [(.ref aq13)]) _
      refine XS.iconst X16.here hx rfl (hb hby at_146) ?_
      exact k
    obtain ⟨cq17, kq17, q17a, q17b, q17c⟩ := isOf hZ eq16 E13q
    obtain ⟨_, _, ⟨T17, L17, k17, n17⟩, -, X17, ⟨Lc17, hQ17, l17, y17, z17⟩, st17⟩ := X16.virtualBack hx (y := own_y6) (z := own_y6) hown (mvT hZ (ow hw 168 rfl)) (mvT hZ (ow hw 169 rfl)) (notFace_of_selects (args := #[]) (mvT hZ (ow hw 171 rfl))) (mvT hZ (ow hw 171 rfl)) (mvT hZ (ow hw 170 rfl)) (by decide) (backOf (W := 0) (rm33 l Z a0 hw [] aq13 (2 : Int32) bq13 kq13 (3 : Int32) [(.int (own_b vs0)), (.int (own_b vs1)), (.int uq13_0)] (.int 0) uq13_0 GC GF T13.heap n0 (Nat.le_trans zs12 K13q.1) S_C hGC O13 E13q F13c F13v V13q (by decide) rfl S_F is_GF) hZ (ow hw 172 rfl) (ow hw 2 rfl) (by decide) (by decide)) q17a q17c (g := (mkF m 147 #[iv p1, iv p2, iv vs0, iv vs1, iv vq0, iv vq1, iv vq2, iv 1, rv b1, rv aq12, rv aq13] [(.int 2), (.ref aq13)])) rfl (by rw [hml]; rfl) (Steps.refl _) (argsL := [(.int 2)]) (rest := []) (lenOf own_pd31 rfl) rfl (Nat.le_refl _) (hb hby at_147) (fun _ _ => ⟨rfl, eq16, (by decide : 19 + 0 ≤ _), (by decide : 101 + 0 ≤ _)⟩)
    dsimp only [Pt.U, Pt.locs, Pt.cells, Pt.slots] at X17 l17 y17 z17 st17 hQ17
    subst l17 y17 z17
    obtain ⟨rfl, N17q, eq17⟩ := hQ17
    have N17 := Fr.app N16 N17q
    refine og (B := T17.setTop (mkF m 150 #[iv p1, iv p2, iv vs0, iv vs1, iv vq0, iv vq1, iv vq2, iv 1, rv b1, rv aq12, rv aq13] [(.int (own_c uq13_0))])) (fun _ => st17.trans) ?_
    refine og (B := T17.setTop (mkF m 152 #[iv p1, iv p2, iv vs0, iv vs1, iv vq0, iv vq1, iv vq2, iv 1, rv b1, rv aq12, rv aq13] [(.int vq0), (.int (own_c uq13_0))])) (fun t k => ?_) ?_
    · refine XS.iload X17.here hx rfl (hb hby at_150) rfl ?_
      exact k
    obtain ⟨_, _, ⟨T18, L18, k18, n18⟩, -, X18, ⟨Lc18, hQ18, l18, y18, z18⟩, st18⟩ := Jvm.LawKit.callS X17 hx (y := own_y40) hown (mvT hZ (ow hw 191 rfl)) (mvT hZ (ow hw 192 rfl)) (mvT hZ (ow hw 32 rfl)) (mvT hZ (ow hw 193 rfl)) (by decide) (backOf (W := 1) (rm38 l Z a0 hw [] vq0 T13.heap n0 (Nat.le_trans zs12 K13q.1)) hZ (ow hw 193 rfl) (ow hw 32 rfl) (by decide) (by decide)) (g := (mkF m 152 #[iv p1, iv p2, iv vs0, iv vs1, iv vq0, iv vq1, iv vq2, iv 1, rv b1, rv aq12, rv aq13] [(.int vq0), (.int (own_c uq13_0))])) rfl (by rw [hml]; rfl) (argsL := [(.int vq0)]) (rest := [(.int (own_c uq13_0))]) (lenOf own_pd32 rfl) rfl (Nat.le_refl _) (hb hby at_152) (fun _ _ => ⟨rfl, eq17, (by decide : 19 + 0 ≤ _), (by decide : 101 + 0 ≤ _)⟩)
    dsimp only [Pt.U, Pt.locs, Pt.cells, Pt.slots] at X18 l18 y18 z18 st18 hQ18
    subst l18 y18 z18
    obtain ⟨rfl, N18q, eq18⟩ := hQ18
    have N18 := Fr.app N17 N18q
    refine og (B := T18.setTop (mkF m 155 #[iv p1, iv p2, iv vs0, iv vs1, iv vq0, iv vq1, iv vq2, iv 1, rv b1, rv aq12, rv aq13] [(.int (own_lw vq0)), (.int (own_c uq13_0))])) st18 ?_
    obtain ⟨fs, hr, hrun, hended, hRW⟩ := X18.leaveW hS (by rw [eq18]; exact (Nat.le_refl _)) (v := some (.int 1)) (fun h => by rw [Bd.returns] at h; cases h)
    refine ⟨_, _, ?_, hrun, hended, _, _, rfl, ?_, hRW.1, hRW.2.1, hRW.2.2.1, hRW.2.2.2.mono (by decide) (by decide)⟩
    · refine XS.icmpYes X18.here hx rfl (pc0 := 155) (pc' := 160) rfl (hb hby at_155) rfl (teq (own_fin hf_vq0 lw13_0)).1 (by decide) (by decide) ?_
      refine XS.iload X18.here hx rfl (hb hby at_160) rfl ?_
      refine XS.iconst X18.here hx rfl (hb hby at_162) ?_
      refine XS.icmpYes X18.here hx rfl (pc0 := 163) (pc' := 182) rfl (hb hby at_163) rfl (tlt (by decide)).1 (by decide) (by decide) ?_
      refine XS.iload X18.here hx rfl (hb hby at_182) rfl ?_
      refine XS.iconst X18.here hx rfl (hb hby at_184) ?_
      show own_S p e below T18 (mkF m 185 #[iv p1, iv p2, iv vs0, iv vs1, iv vq0, iv vq1, iv vq2, iv 1, rv b1, rv aq12, rv aq13] [(.int 3), (.int 1)]) _
      refine XS.icmpYes X18.here hx rfl (pc0 := 185) (pc' := 204) rfl (hb hby at_185) rfl (tlt (by decide)).1 (by decide) (by decide) ?_
      refine XS.iconst X18.here hx rfl (hb hby at_204) ?_
      show own_S p e below T18 (mkF m 205 #[iv p1, iv p2, iv vs0, iv vs1, iv vq0, iv vq1, iv vq2, iv 1, rv b1, rv aq12, rv aq13] [(.int 1)]) _
      exact retN X18 hx (t := .boolean) Bd.returns (by simp) (hb hby at_205) hr
    · show Q0 Z p1 p2 GC GF ci al ab ag agv h0 n0 _ T18.heap _
      rw [eq18]
      exact ⟨rfl, N18⟩
  · refine og (B := T6.setTop (mkF m 83 #[iv p1, iv p2, iv vs0, iv vs1, iv vq0, iv vq1, iv vq2, iv 2, rv b1, .unset, .unset] [(.int vq2), (.int vq1), (.int vq0), (.int 2)])) (fun t k => ?_) ?_
    · refine XS.iload X6.here hx rfl (hb hby at_75) rfl ?_
      refine XS.iload X6.here hx rfl (hb hby at_77) rfl ?_
      refine XS.iload X6.here hx rfl (hb hby at_79) rfl ?_
      refine XS.iload X6.here hx rfl (hb hby at_81) rfl ?_
      exact k
    have Ch19p := CHr.ext (own_ext K6) hCH
    obtain ⟨_, _, ⟨T19, L19, k19, n19⟩, -, X19, hS19, hg19, ⟨Lc19, hQ19, l19, y19, z19, hCr19⟩, st19⟩ := callSS X6 hx (y := own_y39) hown (mvT hZ (ow hw 30 rfl)) (mvT hZ (ow hw 31 rfl)) (mvT hZ (ow hw 32 rfl)) (mvT hZ (ow hw 33 rfl)) (by decide) (backOfSH (W := 0) (rm7_2 l Z a0 hw [] vq0 vq1 vq2 GC T6.heap n0 (Nat.le_trans zs4 K6q.1) S_C hGC O6 hn_vq0 hp_vq0 hn_vq1 hp_vq1) hZ (ow hw 33 rfl) (ow hw 32 rfl) (by decide) (by decide) (own_hEL hw) Ch19p.1) (g := (mkF m 83 #[iv p1, iv p2, iv vs0, iv vs1, iv vq0, iv vq1, iv vq2, iv 2, rv b1, .unset, .unset] [(.int vq2), (.int vq1), (.int vq0), (.int 2)])) rfl (by rw [hml]; rfl) (argsL := [(.int 2), (.int vq0), (.int vq1), (.int vq2)]) (rest := []) (lenOf own_pd29 rfl) rfl (Nat.le_refl _) (hb hby at_83) (fun _ _ => ⟨rfl, rfl, (by decide : 3 + 4 ≤ _), (by decide : 9 + 12 ≤ _)⟩)
    dsimp only [Pt.U, Pt.locs, Pt.cells, Pt.slots] at X19 l19 y19 z19 st19 hQ19 hS19 hg19 hCr19
    subst l19 y19 z19
    have hS := hS.trans hS19 (Nat.le_trans (Nat.le_trans zk4 K6q.1) (Nat.le_trans (Nat.le_of_eq (congrArg Array.size rfl.symm)) hg19))
    have hZ : Z.Warmed39 (s.setVm T19.vm).vm := State.Warmed39.trans hZ hS19.1
    have hown : (s.setVm T19.vm).vm.findClass "com/example/sira/sira/engine/StreamStateKeyPinLaw" = some m.cls := (hS19.1.alike.findClass _ _).trans hown
    have X19 : Stand p l e _ (s.setVm T19.vm) m _ below meth c T19 _ _ _ := X19
    obtain ⟨aq19, bq19, kq19, rfl, N19q, K19q, E19q, F19c, F19v, V19q⟩ := hQ19
    have N19 := Fr.app N6 N19q
    have c19_V_b2 := c6_V_b2.keep K19q (List.not_mem_nil)
    have c19_E_b1 := E6q.keep K19q
    have c19_F_b1_coder := F6c.keep K19q (List.not_mem_nil)
    have c19_F_b1_value := F6v.keep K19q (List.not_mem_nil)
    have c19_V_bq6 := V6q.keep K19q (List.not_mem_nil)
    have O19 := O6.keep K19q all0
    have K19 := K6.trans K19q all0
    have Ch19 := Ch19p.trans hCr19
    have zs19 := (Nat.le_trans (Nat.le_trans zs4 K6q.1) K19q.1)
    refine og (B := T19.setTop (mkF m 86 #[iv p1, iv p2, iv vs0, iv vs1, iv vq0, iv vq1, iv vq2, iv 2, rv b1, .unset, .unset] [(.ref aq19)])) (fun _ => st19.trans) ?_
    refine og (B := T19.setTop (mkF m 92 #[iv p1, iv p2, iv vs0, iv vs1, iv vq0, iv vq1, iv vq2, iv 2, rv b1, rv aq19, .unset] [(.ref b1), (.ref aq19)])) (fun t k => ?_) ?_
    · refine XS.astore X19.here hx rfl (hb hby at_86) rfl rfl (l' := #[iv p1, iv p2, iv vs0, iv vs1, iv vq0, iv vq1, iv vq2, iv 2, rv b1, rv aq19, .unset]) rfl ?_
      refine XS.aload X19.here hx rfl (hb hby at_88) rfl rfl ?_
      refine XS.aload X19.here hx rfl (hb hby at_90) rfl rfl ?_
      exact k
    obtain ⟨_, _, ⟨T20, L20, k20, n20⟩, -, X20, hS20, hg20, ⟨Lc20, hQ20, l20, y20, z20, hCr20⟩, st20⟩ := callSS X19 hx (y := own_y38) hown (mvT hZ (ow hw 37 rfl)) (mvT hZ (ow hw 38 rfl)) (mvT hZ (ow hw 39 rfl)) (mvT hZ (ow hw 40 rfl)) (by decide) (backOfSH (W := 0) (rm8_2 l Z a0 hw [] aq19 b1 bq19 bq6 kq19 kq6 (own_b vq0) (own_b vq1) (own_b vs0) (own_b vs1) GC ci al ab ag agv T19.heap n0 zs19 S_C hGC O19 S_I E_ci S_R E_al F_ab E_ab F_ag F_gv V_gv E19q F19c F19v V19q c19_E_b1 c19_F_b1_coder c19_F_b1_value c19_V_bq6) hZ (ow hw 40 rfl) (ow hw 39 rfl) (by decide) (by decide) (own_hEL hw) Ch19.1) (g := (mkF m 92 #[iv p1, iv p2, iv vs0, iv vs1, iv vq0, iv vq1, iv vq2, iv 2, rv b1, rv aq19, .unset] [(.ref b1), (.ref aq19)])) rfl (by rw [hml]; rfl) (argsL := [(.ref aq19), (.ref b1)]) (rest := []) (lenOf own_pd30 rfl) rfl (Nat.le_refl _) (hb hby at_92) (fun _ _ => ⟨rfl, rfl, (by decide : 7 + 12 ≤ _), (by decide : 21 + 80 ≤ _)⟩)
    dsimp only [Pt.U, Pt.locs, Pt.cells, Pt.slots] at X20 l20 y20 z20 st20 hQ20 hS20 hg20 hCr20
    subst l20 y20 z20
    have hS := hS.trans hS20 (Nat.le_trans (Nat.le_refl _) (Nat.le_trans (Nat.le_of_eq (congrArg Array.size rfl.symm)) hg20))
    have hZ : Z.Warmed39 (s.setVm T20.vm).vm := State.Warmed39.trans hZ hS20.1
    have hown : (s.setVm T20.vm).vm.findClass "com/example/sira/sira/engine/StreamStateKeyPinLaw" = some m.cls := (hS20.1.alike.findClass _ _).trans hown
    have X20 : Stand p l e _ (s.setVm T20.vm) m _ below meth c T20 _ _ _ := X20
    obtain ⟨aq20, bq20, kq20, uq20_0, uq20_1, rfl, N20q, K20q, E20q, F20c, F20v, V20q, lw20_0, lw20_1, -⟩ := hQ20
    have N20 := Fr.app N19 N20q
    have c20_V_b2 := c19_V_b2.keep K20q (List.not_mem_nil)
    have c20_E_b1 := c19_E_b1.keep K20q
    have c20_F_b1_coder := c19_F_b1_coder.keep K20q (List.not_mem_nil)
    have c20_F_b1_value := c19_F_b1_value.keep K20q (List.not_mem_nil)
    have c20_V_bq6 := c19_V_bq6.keep K20q (List.not_mem_nil)
    have c20_E_aq19 := E19q.keep K20q
    have c20_F_aq19_coder := F19c.keep K20q (List.not_mem_nil)
    have c20_F_aq19_value := F19v.keep K20q (List.not_mem_nil)
    have c20_V_bq19 := V19q.keep K20q (List.not_mem_nil)
    have O20 := O19.keep K20q all0
    have K20 := K19.trans K20q all0
    have Ch20 := Ch19.trans hCr20
    refine og (B := T20.setTop (mkF m 95 #[iv p1, iv p2, iv vs0, iv vs1, iv vq0, iv vq1, iv vq2, iv 2, rv b1, rv aq19, .unset] [(.ref aq20)])) (fun _ => st20.trans) ?_
    refine og (B := T20.setTop (mkF m 104 #[iv p1, iv p2, iv vs0, iv vs1, iv vq0, iv vq1, iv vq2, iv 2, rv b1, rv aq19, rv aq20] [(.ref aq20)])) (fun t k => ?_) ?_
    · refine XS.astore X20.here hx rfl (hb hby at_95) rfl rfl (l' := #[iv p1, iv p2, iv vs0, iv vs1, iv vq0, iv vq1, iv vq2, iv 2, rv b1, rv aq19, rv aq20]) rfl ?_
      refine XS.aload X20.here hx rfl (hb hby at_97) rfl rfl ?_
      refine XS.ifnullNo X20.here hx rfl (hb hby at_99) rfl ?_
      refine XS.aload X20.here hx rfl (hb hby at_102) rfl rfl ?_
      exact k
    obtain ⟨cq21, kq21, q21a, q21b, q21c⟩ := isOf hZ rfl E20q
    obtain ⟨_, _, ⟨T21, L21, k21, n21⟩, -, X21, ⟨Lc21, hQ21, l21, y21, z21⟩, st21⟩ := X20.virtualBack hx (y := own_y2) (z := own_y2) hown (mvT hZ (ow hw 167 rfl)) (mvT hZ (ow hw 70 rfl)) (notFace_of_selects (args := #[]) (mvT hZ (ow hw 72 rfl))) (mvT hZ (ow hw 72 rfl)) (mvT hZ (ow hw 71 rfl)) (by decide) (backOf (W := 0) (rm13 l Z a0 hw [] aq20 bq20 kq20 (4 : Int32) [(.int (own_b vs0)), (.int (own_b vs1)), (.int uq20_0), (.int uq20_1)] (.int 0) GC T20.heap n0 (Nat.le_trans zs19 K20q.1) S_C hGC O20 E20q F20c F20v V20q) hZ (ow hw 73 rfl) (ow hw 2 rfl) (by decide) (by decide)) q21a q21c (g := (mkF m 104 #[iv p1, iv p2, iv vs0, iv vs1, iv vq0, iv vq1, iv vq2, iv 2, rv b1, rv aq19, rv aq20] [(.ref aq20)])) rfl (by rw [hml]; rfl) (Steps.refl _) (argsL := []) (rest := []) (lenOf own_pd12 rfl) rfl (Nat.le_refl _) (hb hby at_104) (fun _ _ => ⟨rfl, rfl, (by decide : 19 + 0 ≤ _), (by decide : 101 + 0 ≤ _)⟩)
    dsimp only [Pt.U, Pt.locs, Pt.cells, Pt.slots] at X21 l21 y21 z21 st21 hQ21
    subst l21 y21 z21
    obtain ⟨rfl, N21q, eq21⟩ := hQ21
    have N21 := Fr.app N20 N21q
    refine og (B := T21.setTop (mkF m 107 #[iv p1, iv p2, iv vs0, iv vs1, iv vq0, iv vq1, iv vq2, iv 2, rv b1, rv aq19, rv aq20] [(.int 4)])) (fun _ => st21.trans) ?_
    refine og (B := T21.setTop (mkF m 119 #[iv p1, iv p2, iv vs0, iv vs1, iv vq0, iv vq1, iv vq2, iv 2, rv b1, rv aq19, rv aq20] [(.int 0), (.ref aq20)])) (fun t k => ?_) ?_
    · refine XS.iconst X21.here hx rfl (hb hby at_107) ?_
      refine XS.iload X21.here hx rfl (hb hby at_108) rfl ?_
      refine XS.iadd X21.here hx rfl (hb hby at_110) rfl ?_
      refine XS.icmpYes X21.here hx rfl (pc0 := 111) (pc' := 116) rfl (hb hby at_111) rfl (teq (by decide)).1 (by decide) (by decide) ?_
      refine XS.aload X21.here hx rfl (hb hby at_116) rfl rfl ?_
      refine XS.iconst X21.here hx rfl (hb hby at_118) ?_
      exact k
    obtain ⟨cq22, kq22, q22a, q22b, q22c⟩ := isOf hZ eq21 E20q
    obtain ⟨_, _, ⟨T22, L22, k22, n22⟩, -, X22, ⟨Lc22, hQ22, l22, y22, z22⟩, st22⟩ := X21.virtualBack hx (y := own_y6) (z := own_y6) hown (mvT hZ (ow hw 168 rfl)) (mvT hZ (ow hw 169 rfl)) (notFace_of_selects (args := #[]) (mvT hZ (ow hw 171 rfl))) (mvT hZ (ow hw 171 rfl)) (mvT hZ (ow hw 170 rfl)) (by decide) (backOf (W := 0) (rm33 l Z a0 hw [] aq20 (0 : Int32) bq20 kq20 (4 : Int32) [(.int (own_b vs0)), (.int (own_b vs1)), (.int uq20_0), (.int uq20_1)] (.int 0) (own_b vs0) GC GF T20.heap n0 (Nat.le_trans zs19 K20q.1) S_C hGC O20 E20q F20c F20v V20q (by decide) rfl S_F is_GF) hZ (ow hw 172 rfl) (ow hw 2 rfl) (by decide) (by decide)) q22a q22c (g := (mkF m 119 #[iv p1, iv p2, iv vs0, iv vs1, iv vq0, iv vq1, iv vq2, iv 2, rv b1, rv aq19, rv aq20] [(.int 0), (.ref aq20)])) rfl (by rw [hml]; rfl) (Steps.refl _) (argsL := [(.int 0)]) (rest := []) (lenOf own_pd31 rfl) rfl (Nat.le_refl _) (hb hby at_119) (fun _ _ => ⟨rfl, eq21, (by decide : 19 + 0 ≤ _), (by decide : 101 + 0 ≤ _)⟩)
    dsimp only [Pt.U, Pt.locs, Pt.cells, Pt.slots] at X22 l22 y22 z22 st22 hQ22
    subst l22 y22 z22
    obtain ⟨rfl, N22q, eq22⟩ := hQ22
    have N22 := Fr.app N21 N22q
    refine og (B := T22.setTop (mkF m 122 #[iv p1, iv p2, iv vs0, iv vs1, iv vq0, iv vq1, iv vq2, iv 2, rv b1, rv aq19, rv aq20] [(.int (own_c (own_b vs0)))])) (fun _ => st22.trans) ?_
    refine og (B := T22.setTop (mkF m 129 #[iv p1, iv p2, iv vs0, iv vs1, iv vq0, iv vq1, iv vq2, iv 2, rv b1, rv aq19, rv aq20] [(.int 1), (.ref aq20)])) (fun t k => ?_) ?_
    · refine XS.iloadN X22.here hx rfl (hb hby at_122) rfl ?_
      refine XS.icmpNo X22.here hx rfl (hb hby at_123) rfl (teq hr_vs0).2 ?_
      refine XS.aload X22.here hx rfl (hb hby at_126) rfl rfl ?_
      refine XS.iconst X22.here hx rfl (hb hby at_128) ?_
      exact k
    obtain ⟨cq23, kq23, q23a, q23b, q23c⟩ := isOf hZ eq22 E20q
    obtain ⟨_, _, ⟨T23, L23, k23, n23⟩, -, X23, ⟨Lc23, hQ23, l23, y23, z23⟩, st23⟩ := X22.virtualBack hx (y := own_y6) (z := own_y6) hown (mvT hZ (ow hw 168 rfl)) (mvT hZ (ow hw 169 rfl)) (notFace_of_selects (args := #[]) (mvT hZ (ow hw 171 rfl))) (mvT hZ (ow hw 171 rfl)) (mvT hZ (ow hw 170 rfl)) (by decide) (backOf (W := 0) (rm33 l Z a0 hw [] aq20 (1 : Int32) bq20 kq20 (4 : Int32) [(.int (own_b vs0)), (.int (own_b vs1)), (.int uq20_0), (.int uq20_1)] (.int 0) (own_b vs1) GC GF T20.heap n0 (Nat.le_trans zs19 K20q.1) S_C hGC O20 E20q F20c F20v V20q (by decide) rfl S_F is_GF) hZ (ow hw 172 rfl) (ow hw 2 rfl) (by decide) (by decide)) q23a q23c (g := (mkF m 129 #[iv p1, iv p2, iv vs0, iv vs1, iv vq0, iv vq1, iv vq2, iv 2, rv b1, rv aq19, rv aq20] [(.int 1), (.ref aq20)])) rfl (by rw [hml]; rfl) (Steps.refl _) (argsL := [(.int 1)]) (rest := []) (lenOf own_pd31 rfl) rfl (Nat.le_refl _) (hb hby at_129) (fun _ _ => ⟨rfl, eq22, (by decide : 19 + 0 ≤ _), (by decide : 101 + 0 ≤ _)⟩)
    dsimp only [Pt.U, Pt.locs, Pt.cells, Pt.slots] at X23 l23 y23 z23 st23 hQ23
    subst l23 y23 z23
    obtain ⟨rfl, N23q, eq23⟩ := hQ23
    have N23 := Fr.app N22 N23q
    refine og (B := T23.setTop (mkF m 132 #[iv p1, iv p2, iv vs0, iv vs1, iv vq0, iv vq1, iv vq2, iv 2, rv b1, rv aq19, rv aq20] [(.int (own_c (own_b vs1)))])) (fun _ => st23.trans) ?_
    refine og (B := T23.setTop (mkF m 147 #[iv p1, iv p2, iv vs0, iv vs1, iv vq0, iv vq1, iv vq2, iv 2, rv b1, rv aq19, rv aq20] [(.int 2), (.ref aq20)])) (fun t k => ?_) ?_
    · refine XS.iloadN X23.here hx rfl (hb hby at_132) rfl ?_
      refine XS.icmpYes X23.here hx rfl (pc0 := 133) (pc' := 138) rfl (hb hby at_133) rfl (teq hr_vs1).1 (by decide) (by decide) ?_
      refine XS.iload X23.here hx rfl (hb hby at_138) rfl ?_
      refine XS.iconst X23.here hx rfl (hb hby at_140) ?_
      refine XS.icmpNo X23.here hx rfl (hb hby at_141) rfl (flt (by decide)).1 ?_
      refine XS.aload X23.here hx rfl (hb hby at_144) rfl rfl ?_
      show own_S p e below T23 (mkF m 146 #[iv p1, iv p2, iv vs0, iv vs1, iv vq0, iv vq1, iv vq2, iv 2, rv b1, rv aq19, rv aq20] [(.ref aq20)]) _
      refine XS.iconst X23.here hx rfl (hb hby at_146) ?_
      exact k
    obtain ⟨cq24, kq24, q24a, q24b, q24c⟩ := isOf hZ eq23 E20q
    obtain ⟨_, _, ⟨T24, L24, k24, n24⟩, -, X24, ⟨Lc24, hQ24, l24, y24, z24⟩, st24⟩ := X23.virtualBack hx (y := own_y6) (z := own_y6) hown (mvT hZ (ow hw 168 rfl)) (mvT hZ (ow hw 169 rfl)) (notFace_of_selects (args := #[]) (mvT hZ (ow hw 171 rfl))) (mvT hZ (ow hw 171 rfl)) (mvT hZ (ow hw 170 rfl)) (by decide) (backOf (W := 0) (rm33 l Z a0 hw [] aq20 (2 : Int32) bq20 kq20 (4 : Int32) [(.int (own_b vs0)), (.int (own_b vs1)), (.int uq20_0), (.int uq20_1)] (.int 0) uq20_0 GC GF T20.heap n0 (Nat.le_trans zs19 K20q.1) S_C hGC O20 E20q F20c F20v V20q (by decide) rfl S_F is_GF) hZ (ow hw 172 rfl) (ow hw 2 rfl) (by decide) (by decide)) q24a q24c (g := (mkF m 147 #[iv p1, iv p2, iv vs0, iv vs1, iv vq0, iv vq1, iv vq2, iv 2, rv b1, rv aq19, rv aq20] [(.int 2), (.ref aq20)])) rfl (by rw [hml]; rfl) (Steps.refl _) (argsL := [(.int 2)]) (rest := []) (lenOf own_pd31 rfl) rfl (Nat.le_refl _) (hb hby at_147) (fun _ _ => ⟨rfl, eq23, (by decide : 19 + 0 ≤ _), (by decide : 101 + 0 ≤ _)⟩)
    dsimp only [Pt.U, Pt.locs, Pt.cells, Pt.slots] at X24 l24 y24 z24 st24 hQ24
    subst l24 y24 z24
    obtain ⟨rfl, N24q, eq24⟩ := hQ24
    have N24 := Fr.app N23 N24q
    refine og (B := T24.setTop (mkF m 150 #[iv p1, iv p2, iv vs0, iv vs1, iv vq0, iv vq1, iv vq2, iv 2, rv b1, rv aq19, rv aq20] [(.int (own_c uq20_0))])) (fun _ => st24.trans) ?_
    refine og (B := T24.setTop (mkF m 152 #[iv p1, iv p2, iv vs0, iv vs1, iv vq0, iv vq1, iv vq2, iv 2, rv b1, rv aq19, rv aq20] [(.int vq0), (.int (own_c uq20_0))])) (fun t k => ?_) ?_
    · refine XS.iload X24.here hx rfl (hb hby at_150) rfl ?_
      exact k
    obtain ⟨_, _, ⟨T25, L25, k25, n25⟩, -, X25, ⟨Lc25, hQ25, l25, y25, z25⟩, st25⟩ := Jvm.LawKit.callS X24 hx (y := own_y40) hown (mvT hZ (ow hw 191 rfl)) (mvT hZ (ow hw 192 rfl)) (mvT hZ (ow hw 32 rfl)) (mvT hZ (ow hw 193 rfl)) (by decide) (backOf (W := 1) (rm38 l Z a0 hw [] vq0 T20.heap n0 (Nat.le_trans zs19 K20q.1)) hZ (ow hw 193 rfl) (ow hw 32 rfl) (by decide) (by decide)) (g := (mkF m 152 #[iv p1, iv p2, iv vs0, iv vs1, iv vq0, iv vq1, iv vq2, iv 2, rv b1, rv aq19, rv aq20] [(.int vq0), (.int (own_c uq20_0))])) rfl (by rw [hml]; rfl) (argsL := [(.int vq0)]) (rest := [(.int (own_c uq20_0))]) (lenOf own_pd32 rfl) rfl (Nat.le_refl _) (hb hby at_152) (fun _ _ => ⟨rfl, eq24, (by decide : 19 + 0 ≤ _), (by decide : 101 + 0 ≤ _)⟩)
    dsimp only [Pt.U, Pt.locs, Pt.cells, Pt.slots] at X25 l25 y25 z25 st25 hQ25
    subst l25 y25 z25
    obtain ⟨rfl, N25q, eq25⟩ := hQ25
    have N25 := Fr.app N24 N25q
    refine og (B := T25.setTop (mkF m 155 #[iv p1, iv p2, iv vs0, iv vs1, iv vq0, iv vq1, iv vq2, iv 2, rv b1, rv aq19, rv aq20] [(.int (own_lw vq0)), (.int (own_c uq20_0))])) st25 ?_
    refine og (B := T25.setTop (mkF m 169 #[iv p1, iv p2, iv vs0, iv vs1, iv vq0, iv vq1, iv vq2, iv 2, rv b1, rv aq19, rv aq20] [(.int 3), (.ref aq20)])) (fun t k => ?_) ?_
    · refine XS.icmpYes X25.here hx rfl (pc0 := 155) (pc' := 160) rfl (hb hby at_155) rfl (teq (own_fin hf_vq0 lw20_0)).1 (by decide) (by decide) ?_
      refine XS.iload X25.here hx rfl (hb hby at_160) rfl ?_
      refine XS.iconst X25.here hx rfl (hb hby at_162) ?_
      refine XS.icmpNo X25.here hx rfl (hb hby at_163) rfl (flt (by decide)).1 ?_
      refine XS.aload X25.here hx rfl (hb hby at_166) rfl rfl ?_
      refine XS.iconst X25.here hx rfl (hb hby at_168) ?_
      exact k
    obtain ⟨cq26, kq26, q26a, q26b, q26c⟩ := isOf hZ eq25 E20q
    obtain ⟨_, _, ⟨T26, L26, k26, n26⟩, -, X26, ⟨Lc26, hQ26, l26, y26, z26⟩, st26⟩ := X25.virtualBack hx (y := own_y6) (z := own_y6) hown (mvT hZ (ow hw 168 rfl)) (mvT hZ (ow hw 169 rfl)) (notFace_of_selects (args := #[]) (mvT hZ (ow hw 171 rfl))) (mvT hZ (ow hw 171 rfl)) (mvT hZ (ow hw 170 rfl)) (by decide) (backOf (W := 0) (rm33 l Z a0 hw [] aq20 (3 : Int32) bq20 kq20 (4 : Int32) [(.int (own_b vs0)), (.int (own_b vs1)), (.int uq20_0), (.int uq20_1)] (.int 0) uq20_1 GC GF T20.heap n0 (Nat.le_trans zs19 K20q.1) S_C hGC O20 E20q F20c F20v V20q (by decide) rfl S_F is_GF) hZ (ow hw 172 rfl) (ow hw 2 rfl) (by decide) (by decide)) q26a q26c (g := (mkF m 169 #[iv p1, iv p2, iv vs0, iv vs1, iv vq0, iv vq1, iv vq2, iv 2, rv b1, rv aq19, rv aq20] [(.int 3), (.ref aq20)])) rfl (by rw [hml]; rfl) (Steps.refl _) (argsL := [(.int 3)]) (rest := []) (lenOf own_pd31 rfl) rfl (Nat.le_refl _) (hb hby at_169) (fun _ _ => ⟨rfl, eq25, (by decide : 19 + 0 ≤ _), (by decide : 101 + 0 ≤ _)⟩)
    dsimp only [Pt.U, Pt.locs, Pt.cells, Pt.slots] at X26 l26 y26 z26 st26 hQ26
    subst l26 y26 z26
    obtain ⟨rfl, N26q, eq26⟩ := hQ26
    have N26 := Fr.app N25 N26q
    refine og (B := T26.setTop (mkF m 172 #[iv p1, iv p2, iv vs0, iv vs1, iv vq0, iv vq1, iv vq2, iv 2, rv b1, rv aq19, rv aq20] [(.int (own_c uq20_1))])) (fun _ => st26.trans) ?_
    refine og (B := T26.setTop (mkF m 174 #[iv p1, iv p2, iv vs0, iv vs1, iv vq0, iv vq1, iv vq2, iv 2, rv b1, rv aq19, rv aq20] [(.int vq1), (.int (own_c uq20_1))])) (fun t k => ?_) ?_
    · refine XS.iload X26.here hx rfl (hb hby at_172) rfl ?_
      exact k
    obtain ⟨_, _, ⟨T27, L27, k27, n27⟩, -, X27, ⟨Lc27, hQ27, l27, y27, z27⟩, st27⟩ := Jvm.LawKit.callS X26 hx (y := own_y40) hown (mvT hZ (ow hw 191 rfl)) (mvT hZ (ow hw 192 rfl)) (mvT hZ (ow hw 32 rfl)) (mvT hZ (ow hw 193 rfl)) (by decide) (backOf (W := 1) (rm38 l Z a0 hw [] vq1 T20.heap n0 (Nat.le_trans zs19 K20q.1)) hZ (ow hw 193 rfl) (ow hw 32 rfl) (by decide) (by decide)) (g := (mkF m 174 #[iv p1, iv p2, iv vs0, iv vs1, iv vq0, iv vq1, iv vq2, iv 2, rv b1, rv aq19, rv aq20] [(.int vq1), (.int (own_c uq20_1))])) rfl (by rw [hml]; rfl) (argsL := [(.int vq1)]) (rest := [(.int (own_c uq20_1))]) (lenOf own_pd32 rfl) rfl (Nat.le_refl _) (hb hby at_174) (fun _ _ => ⟨rfl, eq26, (by decide : 19 + 0 ≤ _), (by decide : 101 + 0 ≤ _)⟩)
    dsimp only [Pt.U, Pt.locs, Pt.cells, Pt.slots] at X27 l27 y27 z27 st27 hQ27
    subst l27 y27 z27
    obtain ⟨rfl, N27q, eq27⟩ := hQ27
    have N27 := Fr.app N26 N27q
    refine og (B := T27.setTop (mkF m 177 #[iv p1, iv p2, iv vs0, iv vs1, iv vq0, iv vq1, iv vq2, iv 2, rv b1, rv aq19, rv aq20] [(.int (own_lw vq1)), (.int (own_c uq20_1))])) st27 ?_
    obtain ⟨fs, hr, hrun, hended, hRW⟩ := X27.leaveW hS (by rw [eq27]; exact (Nat.le_refl _)) (v := some (.int 1)) (fun h => by rw [Bd.returns] at h; cases h)
    refine ⟨_, _, ?_, hrun, hended, _, _, rfl, ?_, hRW.1, hRW.2.1, hRW.2.2.1, hRW.2.2.2.mono (by decide) (by decide)⟩
    · refine XS.icmpYes X27.here hx rfl (pc0 := 177) (pc' := 182) rfl (hb hby at_177) rfl (teq (own_fin hf_vq1 lw20_1)).1 (by decide) (by decide) ?_
      refine XS.iload X27.here hx rfl (hb hby at_182) rfl ?_
      refine XS.iconst X27.here hx rfl (hb hby at_184) ?_
      refine XS.icmpYes X27.here hx rfl (pc0 := 185) (pc' := 204) rfl (hb hby at_185) rfl (tlt (by decide)).1 (by decide) (by decide) ?_
      refine XS.iconst X27.here hx rfl (hb hby at_204) ?_
      show own_S p e below T27 (mkF m 205 #[iv p1, iv p2, iv vs0, iv vs1, iv vq0, iv vq1, iv vq2, iv 2, rv b1, rv aq19, rv aq20] [(.int 1)]) _
      exact retN X27 hx (t := .boolean) Bd.returns (by simp) (hb hby at_205) hr
    · show Q0 Z p1 p2 GC GF ci al ab ag agv h0 n0 _ T27.heap _
      rw [eq27]
      exact ⟨rfl, N27⟩
  · refine og (B := T6.setTop (mkF m 83 #[iv p1, iv p2, iv vs0, iv vs1, iv vq0, iv vq1, iv vq2, iv 3, rv b1, .unset, .unset] [(.int vq2), (.int vq1), (.int vq0), (.int 3)])) (fun t k => ?_) ?_
    · refine XS.iload X6.here hx rfl (hb hby at_75) rfl ?_
      refine XS.iload X6.here hx rfl (hb hby at_77) rfl ?_
      refine XS.iload X6.here hx rfl (hb hby at_79) rfl ?_
      refine XS.iload X6.here hx rfl (hb hby at_81) rfl ?_
      exact k
    have Ch28p := CHr.ext (own_ext K6) hCH
    obtain ⟨_, _, ⟨T28, L28, k28, n28⟩, -, X28, hS28, hg28, ⟨Lc28, hQ28, l28, y28, z28, hCr28⟩, st28⟩ := callSS X6 hx (y := own_y39) hown (mvT hZ (ow hw 30 rfl)) (mvT hZ (ow hw 31 rfl)) (mvT hZ (ow hw 32 rfl)) (mvT hZ (ow hw 33 rfl)) (by decide) (backOfSH (W := 0) (rm7_3 l Z a0 hw [] vq0 vq1 vq2 GC T6.heap n0 (Nat.le_trans zs4 K6q.1) S_C hGC O6 hn_vq0 hp_vq0 hn_vq1 hp_vq1 hn_vq2 hp_vq2) hZ (ow hw 33 rfl) (ow hw 32 rfl) (by decide) (by decide) (own_hEL hw) Ch28p.1) (g := (mkF m 83 #[iv p1, iv p2, iv vs0, iv vs1, iv vq0, iv vq1, iv vq2, iv 3, rv b1, .unset, .unset] [(.int vq2), (.int vq1), (.int vq0), (.int 3)])) rfl (by rw [hml]; rfl) (argsL := [(.int 3), (.int vq0), (.int vq1), (.int vq2)]) (rest := []) (lenOf own_pd29 rfl) rfl (Nat.le_refl _) (hb hby at_83) (fun _ _ => ⟨rfl, rfl, (by decide : 3 + 4 ≤ _), (by decide : 9 + 12 ≤ _)⟩)
    dsimp only [Pt.U, Pt.locs, Pt.cells, Pt.slots] at X28 l28 y28 z28 st28 hQ28 hS28 hg28 hCr28
    subst l28 y28 z28
    have hS := hS.trans hS28 (Nat.le_trans (Nat.le_trans zk4 K6q.1) (Nat.le_trans (Nat.le_of_eq (congrArg Array.size rfl.symm)) hg28))
    have hZ : Z.Warmed39 (s.setVm T28.vm).vm := State.Warmed39.trans hZ hS28.1
    have hown : (s.setVm T28.vm).vm.findClass "com/example/sira/sira/engine/StreamStateKeyPinLaw" = some m.cls := (hS28.1.alike.findClass _ _).trans hown
    have X28 : Stand p l e _ (s.setVm T28.vm) m _ below meth c T28 _ _ _ := X28
    obtain ⟨aq28, bq28, kq28, rfl, N28q, K28q, E28q, F28c, F28v, V28q⟩ := hQ28
    have N28 := Fr.app N6 N28q
    have c28_V_b2 := c6_V_b2.keep K28q (List.not_mem_nil)
    have c28_E_b1 := E6q.keep K28q
    have c28_F_b1_coder := F6c.keep K28q (List.not_mem_nil)
    have c28_F_b1_value := F6v.keep K28q (List.not_mem_nil)
    have c28_V_bq6 := V6q.keep K28q (List.not_mem_nil)
    have O28 := O6.keep K28q all0
    have K28 := K6.trans K28q all0
    have Ch28 := Ch28p.trans hCr28
    have zs28 := (Nat.le_trans (Nat.le_trans zs4 K6q.1) K28q.1)
    refine og (B := T28.setTop (mkF m 86 #[iv p1, iv p2, iv vs0, iv vs1, iv vq0, iv vq1, iv vq2, iv 3, rv b1, .unset, .unset] [(.ref aq28)])) (fun _ => st28.trans) ?_
    refine og (B := T28.setTop (mkF m 92 #[iv p1, iv p2, iv vs0, iv vs1, iv vq0, iv vq1, iv vq2, iv 3, rv b1, rv aq28, .unset] [(.ref b1), (.ref aq28)])) (fun t k => ?_) ?_
    · refine XS.astore X28.here hx rfl (hb hby at_86) rfl rfl (l' := #[iv p1, iv p2, iv vs0, iv vs1, iv vq0, iv vq1, iv vq2, iv 3, rv b1, rv aq28, .unset]) rfl ?_
      refine XS.aload X28.here hx rfl (hb hby at_88) rfl rfl ?_
      refine XS.aload X28.here hx rfl (hb hby at_90) rfl rfl ?_
      exact k
    obtain ⟨_, _, ⟨T29, L29, k29, n29⟩, -, X29, hS29, hg29, ⟨Lc29, hQ29, l29, y29, z29, hCr29⟩, st29⟩ := callSS X28 hx (y := own_y38) hown (mvT hZ (ow hw 37 rfl)) (mvT hZ (ow hw 38 rfl)) (mvT hZ (ow hw 39 rfl)) (mvT hZ (ow hw 40 rfl)) (by decide) (backOfSH (W := 0) (rm8_3 l Z a0 hw [] aq28 b1 bq28 bq6 kq28 kq6 (own_b vq0) (own_b vq1) (own_b vq2) (own_b vs0) (own_b vs1) GC ci al ab ag agv T28.heap n0 zs28 S_C hGC O28 S_I E_ci S_R E_al F_ab E_ab F_ag F_gv V_gv E28q F28c F28v V28q c28_E_b1 c28_F_b1_coder c28_F_b1_value c28_V_bq6) hZ (ow hw 40 rfl) (ow hw 39 rfl) (by decide) (by decide) (own_hEL hw) Ch28.1) (g := (mkF m 92 #[iv p1, iv p2, iv vs0, iv vs1, iv vq0, iv vq1, iv vq2, iv 3, rv b1, rv aq28, .unset] [(.ref b1), (.ref aq28)])) rfl (by rw [hml]; rfl) (argsL := [(.ref aq28), (.ref b1)]) (rest := []) (lenOf own_pd30 rfl) rfl (Nat.le_refl _) (hb hby at_92) (fun _ _ => ⟨rfl, rfl, (by decide : 7 + 12 ≤ _), (by decide : 21 + 80 ≤ _)⟩)
    dsimp only [Pt.U, Pt.locs, Pt.cells, Pt.slots] at X29 l29 y29 z29 st29 hQ29 hS29 hg29 hCr29
    subst l29 y29 z29
    have hS := hS.trans hS29 (Nat.le_trans (Nat.le_refl _) (Nat.le_trans (Nat.le_of_eq (congrArg Array.size rfl.symm)) hg29))
    have hZ : Z.Warmed39 (s.setVm T29.vm).vm := State.Warmed39.trans hZ hS29.1
    have hown : (s.setVm T29.vm).vm.findClass "com/example/sira/sira/engine/StreamStateKeyPinLaw" = some m.cls := (hS29.1.alike.findClass _ _).trans hown
    have X29 : Stand p l e _ (s.setVm T29.vm) m _ below meth c T29 _ _ _ := X29
    obtain ⟨aq29, bq29, kq29, uq29_0, uq29_1, uq29_2, rfl, N29q, K29q, E29q, F29c, F29v, V29q, lw29_0, lw29_1, lw29_2, -⟩ := hQ29
    have N29 := Fr.app N28 N29q
    have c29_V_b2 := c28_V_b2.keep K29q (List.not_mem_nil)
    have c29_E_b1 := c28_E_b1.keep K29q
    have c29_F_b1_coder := c28_F_b1_coder.keep K29q (List.not_mem_nil)
    have c29_F_b1_value := c28_F_b1_value.keep K29q (List.not_mem_nil)
    have c29_V_bq6 := c28_V_bq6.keep K29q (List.not_mem_nil)
    have c29_E_aq28 := E28q.keep K29q
    have c29_F_aq28_coder := F28c.keep K29q (List.not_mem_nil)
    have c29_F_aq28_value := F28v.keep K29q (List.not_mem_nil)
    have c29_V_bq28 := V28q.keep K29q (List.not_mem_nil)
    have O29 := O28.keep K29q all0
    have K29 := K28.trans K29q all0
    have Ch29 := Ch28.trans hCr29
    refine og (B := T29.setTop (mkF m 95 #[iv p1, iv p2, iv vs0, iv vs1, iv vq0, iv vq1, iv vq2, iv 3, rv b1, rv aq28, .unset] [(.ref aq29)])) (fun _ => st29.trans) ?_
    refine og (B := T29.setTop (mkF m 104 #[iv p1, iv p2, iv vs0, iv vs1, iv vq0, iv vq1, iv vq2, iv 3, rv b1, rv aq28, rv aq29] [(.ref aq29)])) (fun t k => ?_) ?_
    · refine XS.astore X29.here hx rfl (hb hby at_95) rfl rfl (l' := #[iv p1, iv p2, iv vs0, iv vs1, iv vq0, iv vq1, iv vq2, iv 3, rv b1, rv aq28, rv aq29]) rfl ?_
      refine XS.aload X29.here hx rfl (hb hby at_97) rfl rfl ?_
      refine XS.ifnullNo X29.here hx rfl (hb hby at_99) rfl ?_
      refine XS.aload X29.here hx rfl (hb hby at_102) rfl rfl ?_
      exact k
    obtain ⟨cq30, kq30, q30a, q30b, q30c⟩ := isOf hZ rfl E29q
    obtain ⟨_, _, ⟨T30, L30, k30, n30⟩, -, X30, ⟨Lc30, hQ30, l30, y30, z30⟩, st30⟩ := X29.virtualBack hx (y := own_y2) (z := own_y2) hown (mvT hZ (ow hw 167 rfl)) (mvT hZ (ow hw 70 rfl)) (notFace_of_selects (args := #[]) (mvT hZ (ow hw 72 rfl))) (mvT hZ (ow hw 72 rfl)) (mvT hZ (ow hw 71 rfl)) (by decide) (backOf (W := 0) (rm13 l Z a0 hw [] aq29 bq29 kq29 (5 : Int32) [(.int (own_b vs0)), (.int (own_b vs1)), (.int uq29_0), (.int uq29_1), (.int uq29_2)] (.int 0) GC T29.heap n0 (Nat.le_trans zs28 K29q.1) S_C hGC O29 E29q F29c F29v V29q) hZ (ow hw 73 rfl) (ow hw 2 rfl) (by decide) (by decide)) q30a q30c (g := (mkF m 104 #[iv p1, iv p2, iv vs0, iv vs1, iv vq0, iv vq1, iv vq2, iv 3, rv b1, rv aq28, rv aq29] [(.ref aq29)])) rfl (by rw [hml]; rfl) (Steps.refl _) (argsL := []) (rest := []) (lenOf own_pd12 rfl) rfl (Nat.le_refl _) (hb hby at_104) (fun _ _ => ⟨rfl, rfl, (by decide : 19 + 0 ≤ _), (by decide : 101 + 0 ≤ _)⟩)
    dsimp only [Pt.U, Pt.locs, Pt.cells, Pt.slots] at X30 l30 y30 z30 st30 hQ30
    subst l30 y30 z30
    obtain ⟨rfl, N30q, eq30⟩ := hQ30
    have N30 := Fr.app N29 N30q
    refine og (B := T30.setTop (mkF m 107 #[iv p1, iv p2, iv vs0, iv vs1, iv vq0, iv vq1, iv vq2, iv 3, rv b1, rv aq28, rv aq29] [(.int 5)])) (fun _ => st30.trans) ?_
    refine og (B := T30.setTop (mkF m 119 #[iv p1, iv p2, iv vs0, iv vs1, iv vq0, iv vq1, iv vq2, iv 3, rv b1, rv aq28, rv aq29] [(.int 0), (.ref aq29)])) (fun t k => ?_) ?_
    · refine XS.iconst X30.here hx rfl (hb hby at_107) ?_
      refine XS.iload X30.here hx rfl (hb hby at_108) rfl ?_
      refine XS.iadd X30.here hx rfl (hb hby at_110) rfl ?_
      refine XS.icmpYes X30.here hx rfl (pc0 := 111) (pc' := 116) rfl (hb hby at_111) rfl (teq (by decide)).1 (by decide) (by decide) ?_
      refine XS.aload X30.here hx rfl (hb hby at_116) rfl rfl ?_
      refine XS.iconst X30.here hx rfl (hb hby at_118) ?_
      exact k
    obtain ⟨cq31, kq31, q31a, q31b, q31c⟩ := isOf hZ eq30 E29q
    obtain ⟨_, _, ⟨T31, L31, k31, n31⟩, -, X31, ⟨Lc31, hQ31, l31, y31, z31⟩, st31⟩ := X30.virtualBack hx (y := own_y6) (z := own_y6) hown (mvT hZ (ow hw 168 rfl)) (mvT hZ (ow hw 169 rfl)) (notFace_of_selects (args := #[]) (mvT hZ (ow hw 171 rfl))) (mvT hZ (ow hw 171 rfl)) (mvT hZ (ow hw 170 rfl)) (by decide) (backOf (W := 0) (rm33 l Z a0 hw [] aq29 (0 : Int32) bq29 kq29 (5 : Int32) [(.int (own_b vs0)), (.int (own_b vs1)), (.int uq29_0), (.int uq29_1), (.int uq29_2)] (.int 0) (own_b vs0) GC GF T29.heap n0 (Nat.le_trans zs28 K29q.1) S_C hGC O29 E29q F29c F29v V29q (by decide) rfl S_F is_GF) hZ (ow hw 172 rfl) (ow hw 2 rfl) (by decide) (by decide)) q31a q31c (g := (mkF m 119 #[iv p1, iv p2, iv vs0, iv vs1, iv vq0, iv vq1, iv vq2, iv 3, rv b1, rv aq28, rv aq29] [(.int 0), (.ref aq29)])) rfl (by rw [hml]; rfl) (Steps.refl _) (argsL := [(.int 0)]) (rest := []) (lenOf own_pd31 rfl) rfl (Nat.le_refl _) (hb hby at_119) (fun _ _ => ⟨rfl, eq30, (by decide : 19 + 0 ≤ _), (by decide : 101 + 0 ≤ _)⟩)
    dsimp only [Pt.U, Pt.locs, Pt.cells, Pt.slots] at X31 l31 y31 z31 st31 hQ31
    subst l31 y31 z31
    obtain ⟨rfl, N31q, eq31⟩ := hQ31
    have N31 := Fr.app N30 N31q
    refine og (B := T31.setTop (mkF m 122 #[iv p1, iv p2, iv vs0, iv vs1, iv vq0, iv vq1, iv vq2, iv 3, rv b1, rv aq28, rv aq29] [(.int (own_c (own_b vs0)))])) (fun _ => st31.trans) ?_
    refine og (B := T31.setTop (mkF m 129 #[iv p1, iv p2, iv vs0, iv vs1, iv vq0, iv vq1, iv vq2, iv 3, rv b1, rv aq28, rv aq29] [(.int 1), (.ref aq29)])) (fun t k => ?_) ?_
    · refine XS.iloadN X31.here hx rfl (hb hby at_122) rfl ?_
      refine XS.icmpNo X31.here hx rfl (hb hby at_123) rfl (teq hr_vs0).2 ?_
      refine XS.aload X31.here hx rfl (hb hby at_126) rfl rfl ?_
      refine XS.iconst X31.here hx rfl (hb hby at_128) ?_
      exact k
    obtain ⟨cq32, kq32, q32a, q32b, q32c⟩ := isOf hZ eq31 E29q
    obtain ⟨_, _, ⟨T32, L32, k32, n32⟩, -, X32, ⟨Lc32, hQ32, l32, y32, z32⟩, st32⟩ := X31.virtualBack hx (y := own_y6) (z := own_y6) hown (mvT hZ (ow hw 168 rfl)) (mvT hZ (ow hw 169 rfl)) (notFace_of_selects (args := #[]) (mvT hZ (ow hw 171 rfl))) (mvT hZ (ow hw 171 rfl)) (mvT hZ (ow hw 170 rfl)) (by decide) (backOf (W := 0) (rm33 l Z a0 hw [] aq29 (1 : Int32) bq29 kq29 (5 : Int32) [(.int (own_b vs0)), (.int (own_b vs1)), (.int uq29_0), (.int uq29_1), (.int uq29_2)] (.int 0) (own_b vs1) GC GF T29.heap n0 (Nat.le_trans zs28 K29q.1) S_C hGC O29 E29q F29c F29v V29q (by decide) rfl S_F is_GF) hZ (ow hw 172 rfl) (ow hw 2 rfl) (by decide) (by decide)) q32a q32c (g := (mkF m 129 #[iv p1, iv p2, iv vs0, iv vs1, iv vq0, iv vq1, iv vq2, iv 3, rv b1, rv aq28, rv aq29] [(.int 1), (.ref aq29)])) rfl (by rw [hml]; rfl) (Steps.refl _) (argsL := [(.int 1)]) (rest := []) (lenOf own_pd31 rfl) rfl (Nat.le_refl _) (hb hby at_129) (fun _ _ => ⟨rfl, eq31, (by decide : 19 + 0 ≤ _), (by decide : 101 + 0 ≤ _)⟩)
    dsimp only [Pt.U, Pt.locs, Pt.cells, Pt.slots] at X32 l32 y32 z32 st32 hQ32
    subst l32 y32 z32
    obtain ⟨rfl, N32q, eq32⟩ := hQ32
    have N32 := Fr.app N31 N32q
    refine og (B := T32.setTop (mkF m 132 #[iv p1, iv p2, iv vs0, iv vs1, iv vq0, iv vq1, iv vq2, iv 3, rv b1, rv aq28, rv aq29] [(.int (own_c (own_b vs1)))])) (fun _ => st32.trans) ?_
    refine og (B := T32.setTop (mkF m 147 #[iv p1, iv p2, iv vs0, iv vs1, iv vq0, iv vq1, iv vq2, iv 3, rv b1, rv aq28, rv aq29] [(.int 2), (.ref aq29)])) (fun t k => ?_) ?_
    · refine XS.iloadN X32.here hx rfl (hb hby at_132) rfl ?_
      refine XS.icmpYes X32.here hx rfl (pc0 := 133) (pc' := 138) rfl (hb hby at_133) rfl (teq hr_vs1).1 (by decide) (by decide) ?_
      refine XS.iload X32.here hx rfl (hb hby at_138) rfl ?_
      refine XS.iconst X32.here hx rfl (hb hby at_140) ?_
      refine XS.icmpNo X32.here hx rfl (hb hby at_141) rfl (flt (by decide)).1 ?_
      refine XS.aload X32.here hx rfl (hb hby at_144) rfl rfl ?_
      show own_S p e below T32 (mkF m 146 #[iv p1, iv p2, iv vs0, iv vs1, iv vq0, iv vq1, iv vq2, iv 3, rv b1, rv aq28, rv aq29] [(.ref aq29)]) _
      refine XS.iconst X32.here hx rfl (hb hby at_146) ?_
      exact k
    obtain ⟨cq33, kq33, q33a, q33b, q33c⟩ := isOf hZ eq32 E29q
    obtain ⟨_, _, ⟨T33, L33, k33, n33⟩, -, X33, ⟨Lc33, hQ33, l33, y33, z33⟩, st33⟩ := X32.virtualBack hx (y := own_y6) (z := own_y6) hown (mvT hZ (ow hw 168 rfl)) (mvT hZ (ow hw 169 rfl)) (notFace_of_selects (args := #[]) (mvT hZ (ow hw 171 rfl))) (mvT hZ (ow hw 171 rfl)) (mvT hZ (ow hw 170 rfl)) (by decide) (backOf (W := 0) (rm33 l Z a0 hw [] aq29 (2 : Int32) bq29 kq29 (5 : Int32) [(.int (own_b vs0)), (.int (own_b vs1)), (.int uq29_0), (.int uq29_1), (.int uq29_2)] (.int 0) uq29_0 GC GF T29.heap n0 (Nat.le_trans zs28 K29q.1) S_C hGC O29 E29q F29c F29v V29q (by decide) rfl S_F is_GF) hZ (ow hw 172 rfl) (ow hw 2 rfl) (by decide) (by decide)) q33a q33c (g := (mkF m 147 #[iv p1, iv p2, iv vs0, iv vs1, iv vq0, iv vq1, iv vq2, iv 3, rv b1, rv aq28, rv aq29] [(.int 2), (.ref aq29)])) rfl (by rw [hml]; rfl) (Steps.refl _) (argsL := [(.int 2)]) (rest := []) (lenOf own_pd31 rfl) rfl (Nat.le_refl _) (hb hby at_147) (fun _ _ => ⟨rfl, eq32, (by decide : 19 + 0 ≤ _), (by decide : 101 + 0 ≤ _)⟩)
    dsimp only [Pt.U, Pt.locs, Pt.cells, Pt.slots] at X33 l33 y33 z33 st33 hQ33
    subst l33 y33 z33
    obtain ⟨rfl, N33q, eq33⟩ := hQ33
    have N33 := Fr.app N32 N33q
    refine og (B := T33.setTop (mkF m 150 #[iv p1, iv p2, iv vs0, iv vs1, iv vq0, iv vq1, iv vq2, iv 3, rv b1, rv aq28, rv aq29] [(.int (own_c uq29_0))])) (fun _ => st33.trans) ?_
    refine og (B := T33.setTop (mkF m 152 #[iv p1, iv p2, iv vs0, iv vs1, iv vq0, iv vq1, iv vq2, iv 3, rv b1, rv aq28, rv aq29] [(.int vq0), (.int (own_c uq29_0))])) (fun t k => ?_) ?_
    · refine XS.iload X33.here hx rfl (hb hby at_150) rfl ?_
      exact k
    obtain ⟨_, _, ⟨T34, L34, k34, n34⟩, -, X34, ⟨Lc34, hQ34, l34, y34, z34⟩, st34⟩ := Jvm.LawKit.callS X33 hx (y := own_y40) hown (mvT hZ (ow hw 191 rfl)) (mvT hZ (ow hw 192 rfl)) (mvT hZ (ow hw 32 rfl)) (mvT hZ (ow hw 193 rfl)) (by decide) (backOf (W := 1) (rm38 l Z a0 hw [] vq0 T29.heap n0 (Nat.le_trans zs28 K29q.1)) hZ (ow hw 193 rfl) (ow hw 32 rfl) (by decide) (by decide)) (g := (mkF m 152 #[iv p1, iv p2, iv vs0, iv vs1, iv vq0, iv vq1, iv vq2, iv 3, rv b1, rv aq28, rv aq29] [(.int vq0), (.int (own_c uq29_0))])) rfl (by rw [hml]; rfl) (argsL := [(.int vq0)]) (rest := [(.int (own_c uq29_0))]) (lenOf own_pd32 rfl) rfl (Nat.le_refl _) (hb hby at_152) (fun _ _ => ⟨rfl, eq33, (by decide : 19 + 0 ≤ _), (by decide : 101 + 0 ≤ _)⟩)
    dsimp only [Pt.U, Pt.locs, Pt.cells, Pt.slots] at X34 l34 y34 z34 st34 hQ34
    subst l34 y34 z34
    obtain ⟨rfl, N34q, eq34⟩ := hQ34
    have N34 := Fr.app N33 N34q
    refine og (B := T34.setTop (mkF m 155 #[iv p1, iv p2, iv vs0, iv vs1, iv vq0, iv vq1, iv vq2, iv 3, rv b1, rv aq28, rv aq29] [(.int (own_lw vq0)), (.int (own_c uq29_0))])) st34 ?_
    refine og (B := T34.setTop (mkF m 169 #[iv p1, iv p2, iv vs0, iv vs1, iv vq0, iv vq1, iv vq2, iv 3, rv b1, rv aq28, rv aq29] [(.int 3), (.ref aq29)])) (fun t k => ?_) ?_
    · refine XS.icmpYes X34.here hx rfl (pc0 := 155) (pc' := 160) rfl (hb hby at_155) rfl (teq (own_fin hf_vq0 lw29_0)).1 (by decide) (by decide) ?_
      refine XS.iload X34.here hx rfl (hb hby at_160) rfl ?_
      refine XS.iconst X34.here hx rfl (hb hby at_162) ?_
      refine XS.icmpNo X34.here hx rfl (hb hby at_163) rfl (flt (by decide)).1 ?_
      refine XS.aload X34.here hx rfl (hb hby at_166) rfl rfl ?_
      refine XS.iconst X34.here hx rfl (hb hby at_168) ?_
      exact k
    obtain ⟨cq35, kq35, q35a, q35b, q35c⟩ := isOf hZ eq34 E29q
    obtain ⟨_, _, ⟨T35, L35, k35, n35⟩, -, X35, ⟨Lc35, hQ35, l35, y35, z35⟩, st35⟩ := X34.virtualBack hx (y := own_y6) (z := own_y6) hown (mvT hZ (ow hw 168 rfl)) (mvT hZ (ow hw 169 rfl)) (notFace_of_selects (args := #[]) (mvT hZ (ow hw 171 rfl))) (mvT hZ (ow hw 171 rfl)) (mvT hZ (ow hw 170 rfl)) (by decide) (backOf (W := 0) (rm33 l Z a0 hw [] aq29 (3 : Int32) bq29 kq29 (5 : Int32) [(.int (own_b vs0)), (.int (own_b vs1)), (.int uq29_0), (.int uq29_1), (.int uq29_2)] (.int 0) uq29_1 GC GF T29.heap n0 (Nat.le_trans zs28 K29q.1) S_C hGC O29 E29q F29c F29v V29q (by decide) rfl S_F is_GF) hZ (ow hw 172 rfl) (ow hw 2 rfl) (by decide) (by decide)) q35a q35c (g := (mkF m 169 #[iv p1, iv p2, iv vs0, iv vs1, iv vq0, iv vq1, iv vq2, iv 3, rv b1, rv aq28, rv aq29] [(.int 3), (.ref aq29)])) rfl (by rw [hml]; rfl) (Steps.refl _) (argsL := [(.int 3)]) (rest := []) (lenOf own_pd31 rfl) rfl (Nat.le_refl _) (hb hby at_169) (fun _ _ => ⟨rfl, eq34, (by decide : 19 + 0 ≤ _), (by decide : 101 + 0 ≤ _)⟩)
    dsimp only [Pt.U, Pt.locs, Pt.cells, Pt.slots] at X35 l35 y35 z35 st35 hQ35
    subst l35 y35 z35
    obtain ⟨rfl, N35q, eq35⟩ := hQ35
    have N35 := Fr.app N34 N35q
    refine og (B := T35.setTop (mkF m 172 #[iv p1, iv p2, iv vs0, iv vs1, iv vq0, iv vq1, iv vq2, iv 3, rv b1, rv aq28, rv aq29] [(.int (own_c uq29_1))])) (fun _ => st35.trans) ?_
    refine og (B := T35.setTop (mkF m 174 #[iv p1, iv p2, iv vs0, iv vs1, iv vq0, iv vq1, iv vq2, iv 3, rv b1, rv aq28, rv aq29] [(.int vq1), (.int (own_c uq29_1))])) (fun t k => ?_) ?_
    · refine XS.iload X35.here hx rfl (hb hby at_172) rfl ?_
      exact k
    obtain ⟨_, _, ⟨T36, L36, k36, n36⟩, -, X36, ⟨Lc36, hQ36, l36, y36, z36⟩, st36⟩ := Jvm.LawKit.callS X35 hx (y := own_y40) hown (mvT hZ (ow hw 191 rfl)) (mvT hZ (ow hw 192 rfl)) (mvT hZ (ow hw 32 rfl)) (mvT hZ (ow hw 193 rfl)) (by decide) (backOf (W := 1) (rm38 l Z a0 hw [] vq1 T29.heap n0 (Nat.le_trans zs28 K29q.1)) hZ (ow hw 193 rfl) (ow hw 32 rfl) (by decide) (by decide)) (g := (mkF m 174 #[iv p1, iv p2, iv vs0, iv vs1, iv vq0, iv vq1, iv vq2, iv 3, rv b1, rv aq28, rv aq29] [(.int vq1), (.int (own_c uq29_1))])) rfl (by rw [hml]; rfl) (argsL := [(.int vq1)]) (rest := [(.int (own_c uq29_1))]) (lenOf own_pd32 rfl) rfl (Nat.le_refl _) (hb hby at_174) (fun _ _ => ⟨rfl, eq35, (by decide : 19 + 0 ≤ _), (by decide : 101 + 0 ≤ _)⟩)
    dsimp only [Pt.U, Pt.locs, Pt.cells, Pt.slots] at X36 l36 y36 z36 st36 hQ36
    subst l36 y36 z36
    obtain ⟨rfl, N36q, eq36⟩ := hQ36
    have N36 := Fr.app N35 N36q
    refine og (B := T36.setTop (mkF m 177 #[iv p1, iv p2, iv vs0, iv vs1, iv vq0, iv vq1, iv vq2, iv 3, rv b1, rv aq28, rv aq29] [(.int (own_lw vq1)), (.int (own_c uq29_1))])) st36 ?_
    refine og (B := T36.setTop (mkF m 191 #[iv p1, iv p2, iv vs0, iv vs1, iv vq0, iv vq1, iv vq2, iv 3, rv b1, rv aq28, rv aq29] [(.int 4), (.ref aq29)])) (fun t k => ?_) ?_
    · refine XS.icmpYes X36.here hx rfl (pc0 := 177) (pc' := 182) rfl (hb hby at_177) rfl (teq (own_fin hf_vq1 lw29_1)).1 (by decide) (by decide) ?_
      refine XS.iload X36.here hx rfl (hb hby at_182) rfl ?_
      refine XS.iconst X36.here hx rfl (hb hby at_184) ?_
      refine XS.icmpNo X36.here hx rfl (hb hby at_185) rfl (flt (by decide)).1 ?_
      refine XS.aload X36.here hx rfl (hb hby at_188) rfl rfl ?_
      refine XS.iconst X36.here hx rfl (hb hby at_190) ?_
      exact k
    obtain ⟨cq37, kq37, q37a, q37b, q37c⟩ := isOf hZ eq36 E29q
    obtain ⟨_, _, ⟨T37, L37, k37, n37⟩, -, X37, ⟨Lc37, hQ37, l37, y37, z37⟩, st37⟩ := X36.virtualBack hx (y := own_y6) (z := own_y6) hown (mvT hZ (ow hw 168 rfl)) (mvT hZ (ow hw 169 rfl)) (notFace_of_selects (args := #[]) (mvT hZ (ow hw 171 rfl))) (mvT hZ (ow hw 171 rfl)) (mvT hZ (ow hw 170 rfl)) (by decide) (backOf (W := 0) (rm33 l Z a0 hw [] aq29 (4 : Int32) bq29 kq29 (5 : Int32) [(.int (own_b vs0)), (.int (own_b vs1)), (.int uq29_0), (.int uq29_1), (.int uq29_2)] (.int 0) uq29_2 GC GF T29.heap n0 (Nat.le_trans zs28 K29q.1) S_C hGC O29 E29q F29c F29v V29q (by decide) rfl S_F is_GF) hZ (ow hw 172 rfl) (ow hw 2 rfl) (by decide) (by decide)) q37a q37c (g := (mkF m 191 #[iv p1, iv p2, iv vs0, iv vs1, iv vq0, iv vq1, iv vq2, iv 3, rv b1, rv aq28, rv aq29] [(.int 4), (.ref aq29)])) rfl (by rw [hml]; rfl) (Steps.refl _) (argsL := [(.int 4)]) (rest := []) (lenOf own_pd31 rfl) rfl (Nat.le_refl _) (hb hby at_191) (fun _ _ => ⟨rfl, eq36, (by decide : 19 + 0 ≤ _), (by decide : 101 + 0 ≤ _)⟩)
    dsimp only [Pt.U, Pt.locs, Pt.cells, Pt.slots] at X37 l37 y37 z37 st37 hQ37
    subst l37 y37 z37
    obtain ⟨rfl, N37q, eq37⟩ := hQ37
    have N37 := Fr.app N36 N37q
    refine og (B := T37.setTop (mkF m 194 #[iv p1, iv p2, iv vs0, iv vs1, iv vq0, iv vq1, iv vq2, iv 3, rv b1, rv aq28, rv aq29] [(.int (own_c uq29_2))])) (fun _ => st37.trans) ?_
    refine og (B := T37.setTop (mkF m 196 #[iv p1, iv p2, iv vs0, iv vs1, iv vq0, iv vq1, iv vq2, iv 3, rv b1, rv aq28, rv aq29] [(.int vq2), (.int (own_c uq29_2))])) (fun t k => ?_) ?_
    · refine XS.iload X37.here hx rfl (hb hby at_194) rfl ?_
      exact k
    obtain ⟨_, _, ⟨T38, L38, k38, n38⟩, -, X38, ⟨Lc38, hQ38, l38, y38, z38⟩, st38⟩ := Jvm.LawKit.callS X37 hx (y := own_y40) hown (mvT hZ (ow hw 191 rfl)) (mvT hZ (ow hw 192 rfl)) (mvT hZ (ow hw 32 rfl)) (mvT hZ (ow hw 193 rfl)) (by decide) (backOf (W := 1) (rm38 l Z a0 hw [] vq2 T29.heap n0 (Nat.le_trans zs28 K29q.1)) hZ (ow hw 193 rfl) (ow hw 32 rfl) (by decide) (by decide)) (g := (mkF m 196 #[iv p1, iv p2, iv vs0, iv vs1, iv vq0, iv vq1, iv vq2, iv 3, rv b1, rv aq28, rv aq29] [(.int vq2), (.int (own_c uq29_2))])) rfl (by rw [hml]; rfl) (argsL := [(.int vq2)]) (rest := [(.int (own_c uq29_2))]) (lenOf own_pd32 rfl) rfl (Nat.le_refl _) (hb hby at_196) (fun _ _ => ⟨rfl, eq37, (by decide : 19 + 0 ≤ _), (by decide : 101 + 0 ≤ _)⟩)
    dsimp only [Pt.U, Pt.locs, Pt.cells, Pt.slots] at X38 l38 y38 z38 st38 hQ38
    subst l38 y38 z38
    obtain ⟨rfl, N38q, eq38⟩ := hQ38
    have N38 := Fr.app N37 N38q
    refine og (B := T38.setTop (mkF m 199 #[iv p1, iv p2, iv vs0, iv vs1, iv vq0, iv vq1, iv vq2, iv 3, rv b1, rv aq28, rv aq29] [(.int (own_lw vq2)), (.int (own_c uq29_2))])) st38 ?_
    obtain ⟨fs, hr, hrun, hended, hRW⟩ := X38.leaveW hS (by rw [eq38]; exact (Nat.le_refl _)) (v := some (.int 1)) (fun h => by rw [Bd.returns] at h; cases h)
    refine ⟨_, _, ?_, hrun, hended, _, _, rfl, ?_, hRW.1, hRW.2.1, hRW.2.2.1, hRW.2.2.2.mono (by decide) (by decide)⟩
    · refine XS.icmpYes X38.here hx rfl (pc0 := 199) (pc' := 204) rfl (hb hby at_199) rfl (teq (own_fin hf_vq2 lw29_2)).1 (by decide) (by decide) ?_
      refine XS.iconst X38.here hx rfl (hb hby at_204) ?_
      show own_S p e below T38 (mkF m 205 #[iv p1, iv p2, iv vs0, iv vs1, iv vq0, iv vq1, iv vq2, iv 3, rv b1, rv aq28, rv aq29] [(.int 1)]) _
      exact retN X38 hx (t := .boolean) Bd.returns (by simp) (hb hby at_205) hr
    · show Q0 Z p1 p2 GC GF ci al ab ag agv h0 n0 _ T38.heap _
      rw [eq38]
      exact ⟨rfl, N38⟩
theorem own_eqi {t : Term} {n : Int32} {args : Array Value} {s : State} (h : (Cond.eq t (.int n)).before args s = true) : t.eval args s none [] s = some (.int n) := by
  simp only [Cond.before, Cond.holds, Cond.value] at h
  have hn : (Term.int n).eval args s none [] s = some (.int n) := rfl
  rw [hn] at h
  cases hv : t.eval args s none [] s with
  | none => simp [hv] at h
  | some v =>
    cases v with
    | int x => simp [hv] at h; rw [h]
    | _ => simp [hv] at h
theorem own_e0 {t : Term} {args : Array Value} {s : State} {a : Addr} (ev : t.eval args s none [] s = some (.ref a)) (h1 : (Cond.arrayOf t .byte).before args s = true) (h2 : (Cond.eq (Term.length t) (.int 0)).before args s = true) : own_E0 s s.heap a := by
  obtain ⟨c, A⟩ := Arr.start ev (Cond.before_iff.mp h1)
  obtain ⟨b, cell, q1, q2, q3⟩ := Term.length_spec (own_eqi h2)
  cases ev.symm.trans q1
  have q4 := Arr.fin (U := s) (Vm.Alike.refl _) A
  cases q2.symm.trans q4
  exact ⟨c, A, (Value.int.inj q3).symm⟩
set_option maxRecDepth 65536 in
set_option maxHeartbeats 40000000 in
theorem comes_1 {Post : Tables → Env → Array Value → State → Outcome → State → Prop} (hpost : ∀ tb e args s v u, (limb_1_1.after args s (.returned v) u = true ∧ limb_1_2.after args s (.returned v) u = true ∧ True) → ReturnedEndW s (.returned v) u (Jvm.fieldLocs frame_1_writes args s ++ Jvm.arrayLocs frame_1_arrays args s ++ Jvm.staticLocs frame_1_statics s) 40 4288 → Post tb e args s (.returned v) u) :
    ArmFor flags0 classFile x code maxLocals ret World_1 tables_1 room_1 Calls_1 rest_1 Pre_1 Post := by
  intro l hfl _ _ p e ha hc hk s m args below hf hA hF happ hP
  obtain ⟨hcalls, hrest, hpre⟩ := hP
  obtain ⟨-, -, -, hnamed, -, -, -, hat⟩ := (Spec.applies_iff hf).mp happ
  obtain ⟨hg, hn⟩ := and_e (Cond.before_iff.mp (show (Jvm.Cond.and given_1 narrow_1).before args s = true from hpre))
  obtain ⟨gc, ga0⟩ := and_e hg
  obtain ⟨ha0, ga1⟩ := and_e ga0
  obtain ⟨w0, w1, rfl⟩ : ∃ w0 w1 : Value, args = #[w0, w1] := by
    have hs : args.size = 2 := by simpa [Cond.value, given_1] using gc
    obtain ⟨L⟩ := args
    match L, hs with
    | [w0, w1], _ => exact ⟨w0, w1, rfl⟩
  have hw := fun d (hd : d ∈ tables_1) => atoms_spec (ws := Jvm.Cond.code x code maxLocals ret :: tables_1) hat d (List.mem_cons_of_mem _ hd)
  have hfit : Fit s := fun {y c} hc i hi => by
    obtain ⟨ha, rfl⟩ := Array.getElem?_eq_some_iff.mp hc
    have q := List.all_eq_true.mp ((Array.all_eq_true_iff_forall_mem.mp hF) _ (Array.getElem_mem ha)) i (List.mem_range.mpr hi)
    simpa [Array.getElem?_eq_getElem hi] using q
  obtain ⟨hsets, hown0⟩ := atoms_of _ (rest_1_c_eq ▸ (show rest_1_c.before _ s = true from hrest))
  have hr0 := Cond.before_iff.mp hown0
  obtain ⟨i0, ei0⟩ := is_v ha0
  obtain rfl : w0 = (.int i0) := Option.some.inj ei0
  obtain ⟨i1, ei1⟩ := is_v ga1
  obtain rfl : w1 = (.int i1) := Option.some.inj ei1
  obtain ⟨GC, eGC⟩ := is_v (Cond.before_iff.mp (hsets _ (List.mem_of_getElem? (i := 1) rfl)))
  have S_C : Sta s s.heap "java/lang/String" "COMPACT_STRINGS" "Z" (.int GC) := Sta.start eGC (Or.inl (hsets _ (List.mem_of_getElem? (i := 0) rfl)))
  have hGC : ¬ (GC = (0 : Int32)) := gotF (Cond.eq_ints eGC (Term.int_eval (0))) (not_v (Cond.before_iff.mp (hsets _ (List.mem_of_getElem? (i := 2) rfl))))
  obtain ⟨GF, eGF, is_GF⟩ := isR_v (Cond.before_iff.mp (hsets _ (List.mem_of_getElem? (i := 8) rfl)))
  have S_F : Sta s s.heap "jdk/internal/util/Preconditions" "SIOOBE_FORMATTER" "Ljava/util/function/BiFunction;" GF := Sta.start eGF (Or.inl (hsets _ (List.mem_of_getElem? (i := 7) rfl)))
  have hCH : CHv s consts_1 s.vm s.heap := CHv.start (own_hEL hw) hcalls.1 (hsets _ (List.mem_of_getElem? (i := 2) rfl)) (ow hw 19 rfl) (ow hw 1 rfl)
  obtain ⟨al, eal⟩ := exa_v (Cond.before_iff.mp (hsets _ (List.mem_of_getElem? (i := 11) rfl)))
  have S_R : Sta s s.heap "java/util/Locale" "ROOT" "Ljava/util/Locale;" (.ref al) := Sta.start eal (Or.inl (hsets _ (List.mem_of_getElem? (i := 10) rfl)))
  have E_al : Exa s s.heap al "java/util/Locale" := Exa.start eal (Cond.before_iff.mp (hsets _ (List.mem_of_getElem? (i := 11) rfl)))
  obtain ⟨ab, eab⟩ := exa_v (Cond.before_iff.mp (hsets _ (List.mem_of_getElem? (i := 12) rfl)))
  have F_ab : Fld s s.heap al "java/util/Locale" "baseLocale" "Lsun/util/locale/BaseLocale;" (.ref ab) := Fld.start ((fld_at eal).symm.trans eab)
  have E_ab : Exa s s.heap ab "sun/util/locale/BaseLocale" := Exa.start eab (Cond.before_iff.mp (hsets _ (List.mem_of_getElem? (i := 12) rfl)))
  obtain ⟨ag, eag⟩ := exa_v (Cond.before_iff.mp (hsets _ (List.mem_of_getElem? (i := 13) rfl)))
  have F_ag : Fld s s.heap ab "sun/util/locale/BaseLocale" "language" "Ljava/lang/String;" (.ref ag) := Fld.start ((fld_at eab).symm.trans eag)
  obtain ⟨agv, egv⟩ := exa_v (Cond.before_iff.mp (hsets _ (List.mem_of_getElem? (i := 16) rfl)))
  have F_gv : Fld s s.heap ag "java/lang/String" "value" "[B" (.ref agv) := Fld.start ((fld_at eag).symm.trans egv)
  have V_gv : own_E0 s s.heap agv := own_e0 egv (hsets _ (List.mem_of_getElem? (i := 15) rfl)) (hsets _ (List.mem_of_getElem? (i := 17) rfl))
  obtain ⟨ci, eci⟩ := exa_v (Cond.before_iff.mp (hsets _ (List.mem_of_getElem? (i := 20) rfl)))
  have S_I : Sta s s.heap "java/lang/CharacterDataLatin1" "instance" "Ljava/lang/CharacterDataLatin1;" (.ref ci) := Sta.start eci (Or.inl (hsets _ (List.mem_of_getElem? (i := 19) rfl)))
  have E_ci : Exa s s.heap ci "java/lang/CharacterDataLatin1" := Exa.start eci (Cond.before_iff.mp (hsets _ (List.mem_of_getElem? (i := 20) rfl)))
  obtain ⟨n, o, h1, h2, h3, _, L, rfl, ⟨rfl, N⟩, hq⟩ := rm0 l s _ hw tables_1 i0 i1 GC GF ci al ab ag agv s.heap s.heap.size (Nat.le_refl _) S_C hGC (Old.start s) S_F is_GF S_I E_ci S_R E_al F_ab E_ab F_ag F_gv V_gv p e ha hc hk s m _ below hf ((Spec.applies_iff_loose hf).mp happ).1 ⟨rfl, State.Warmed39.refl s, rfl, hCH⟩ trivial
  refine ⟨n, _, h1, h2, h3, hpost _ _ _ _ _ _ ⟨Cond.after_iff.mpr rfl, Cond.after_iff.mpr (eq_i res_at (Term.int_eval (1)) rfl), trivial⟩ ⟨hq.1, hq.2.1, hq.2.2.1, (hq.2.2.2.sift fun y hy => Or.inr (N y hy)).mono (by decide) (by decide)⟩⟩
theorem main_1_1 : Claimed_1_1 := comes_1 fun _ _ _ _ _ _ h hF => ⟨h.1, hF⟩
theorem main_1_2 : Claimed_1_2 := comes_1 fun _ _ _ _ _ _ h hF => ⟨h.2.1, hF⟩
end Jvm.Pilot.@@N@@
namespace Jvm.Pilot.@@N@@
open Jvm Jvm.ClassFile Sem Op Lib Jvm.Free Jvm.Stand Jvm.Pilot.@@N@@.Jvm.D
/-! MADE BY PROGRAM (witnessworld.py) out of the Statement's table words and the real class files: 30 classes; the members and pool entries that the words name. The judged class is class 1, her method 3. -/
namespace start1
open Jvm.ClassFile
def u (s : String) : CpInfo := .utf8 (stringToUtf16 s)
/-- a pool by its gaps: so many unusable entries, then the entry; so many at the end -/
def gap : Nat → List CpInfo → List CpInfo
  | 0, r => r
  | n + 1, r => .unusable :: gap n r
def poolList (es : List (Nat × CpInfo)) (last : Nat) : List CpInfo := es.foldr (fun e r => gap e.1 (e.2 :: r)) (gap last [])
def pool (es : List (Nat × CpInfo)) (last : Nat) : Array CpInfo := ⟨poolList es last⟩
def fileOf (pool : Array CpInfo) (this : Nat) (attrs : Array Attribute := #[]) (ms : Array MethodInfo := #[]) (fl : Nat := 33) (sup : Nat := 0) (ifs : Array Nat := #[]) (fds : Array FieldInfo := #[]) : ClassFile where
  minorVersion := 0
  majorVersion := 65
  constantPool := pool
  accessFlags := fl
  thisClass := this
  superClass := sup
  interfaces := ifs
  fields := fds
  methods := ms
  attributes := attrs
def plain (name : String) (sup : Option ClassId) : Class where
  name := name
  kind := .ordinary
  loader := none
  accessFlags := 33
  super := sup
  interfaces := #[]
  cf := none
  fields := #[]
  methods := #[]
  instanceTypes := #[]
  staticTypes := #[]
  resolved := #[]
  callSites := []
  init := .initialized
  statics := none
  mirror := none

def pool0 : Array CpInfo := pool [(5, u "<init>"), (0, u "()V"), (1, .class_ 10), (1, u "java/lang/Object")] 113

def k0c0 : Code := { maxStack := 0, maxLocals := 1, code := object_method_1_code, exceptionTable := #[], attributes := #[] }
def k0m0 : Method := { name := "<init>", desc := "()V", sig := { parameters := [], returnType := none }, accessFlags := 1, code := some k0c0 }
/-- java/lang/Object -/
def k0 : Class := { plain "java/lang/Object" none with
  accessFlags := 33
  interfaces := #[]
  cf := some (fileOf pool0 8 #[] #[{ accessFlags := 1, nameIndex := 5, descriptorIndex := 6, attributes := #[] }] 33 0 #[] #[])
  fields := #[]
  methods := #[k0m0]
  instanceTypes := #[]
  staticTypes := #[]
  resolved := Array.replicate 124 none
  statics := none }

def pool1 : Array CpInfo := pool [(2, .class_ 4), (1, u "java/lang/Object"), (0, u "<init>"), (0, u "()V"), (0, .class_ 8), (0, u "java/lang/String"), (0, .methodref 7 10), (0, .nameAndType 5 11), (0, u "([C)V"), (0, .methodref 13 14), (0, .class_ 15), (0, .nameAndType 16 17), (0, u "com/example/sira/sira/engine/StreamStateKeyPinLaw"), (0, u "str"), (0, u "(ICCC)Ljava/lang/String;"), (0, .methodref 19 20), (0, .class_ 21), (0, .nameAndType 22 23), (0, u "com/example/sira/sira/engine/StreamState"), (0, u "key"), (0, u "(Ljava/lang/String;Ljava/lang/String;)Ljava/lang/String;"), (0, .methodref 7 25), (0, .nameAndType 26 27), (0, u "length"), (0, u "()I"), (0, .methodref 7 29), (0, .nameAndType 30 31), (0, u "charAt"), (0, u "(I)C"), (0, .methodref 13 33), (0, .nameAndType 34 35), (0, u "lower"), (0, u "(C)C"), (3, u "law"), (0, u "(II)Z")] 2

def k1m0 : Method := { name := "<init>", desc := "()V", sig := { parameters := [], returnType := none }, accessFlags := 1, code := none }
def k1c1 : Code := { maxStack := 2, maxLocals := 1, code := method_2_code, exceptionTable := #[], attributes := #[] }
def k1m1 : Method := { name := "lower", desc := "(C)C", sig := { parameters := [.char], returnType := some .char }, accessFlags := 10, code := some k1c1 }
def k1c2 : Code := { maxStack := 6, maxLocals := 4, code := method_3_code, exceptionTable := #[], attributes := #[] }
def k1m2 : Method := { name := "str", desc := "(ICCC)Ljava/lang/String;", sig := { parameters := [.int, .char, .char, .char], returnType := some (.object "java/lang/String") }, accessFlags := 10, code := some k1c2 }
def k1c3 : Code := { maxStack := 6, maxLocals := 11, code := code, exceptionTable := #[], attributes := #[] }
def k1m3 : Method := { name := "law", desc := "(II)Z", sig := { parameters := [.int, .int], returnType := some .boolean }, accessFlags := 9, code := some k1c3 }
/-- com/example/sira/sira/engine/StreamStateKeyPinLaw -/
def k1 : Class := { plain "com/example/sira/sira/engine/StreamStateKeyPinLaw" (some 0) with
  accessFlags := 49
  interfaces := #[]
  cf := some (fileOf pool1 13 #[] #[{ accessFlags := 1, nameIndex := 5, descriptorIndex := 6, attributes := #[] }, { accessFlags := 10, nameIndex := 34, descriptorIndex := 35, attributes := #[] }, { accessFlags := 10, nameIndex := 16, descriptorIndex := 17, attributes := #[] }, { accessFlags := 9, nameIndex := 39, descriptorIndex := 40, attributes := #[] }] 49 2 #[] #[])
  fields := #[]
  methods := #[k1m0, k1m1, k1m2, k1m3]
  instanceTypes := #[]
  staticTypes := #[]
  resolved := Array.replicate 43 none
  statics := none }

def pool2 : Array CpInfo := pool [(1, .class_ 2), (0, u "java/io/Serializable"), (0, .class_ 4), (0, u "java/lang/Object")] 2

/-- java/io/Serializable -/
def k2 : Class := { plain "java/io/Serializable" (some 0) with
  accessFlags := 1537
  interfaces := #[]
  cf := some (fileOf pool2 1 #[] #[] 1537 3 #[] #[])
  fields := #[]
  methods := #[]
  instanceTypes := #[]
  staticTypes := #[]
  resolved := Array.replicate 7 none
  statics := none }

def pool3 : Array CpInfo := pool [(1, .class_ 2), (0, u "java/lang/Comparable"), (0, .class_ 4), (0, u "java/lang/Object")] 7

/-- java/lang/Comparable -/
def k3 : Class := { plain "java/lang/Comparable" (some 0) with
  accessFlags := 1537
  interfaces := #[]
  cf := some (fileOf pool3 1 #[] #[] 1537 3 #[] #[])
  fields := #[]
  methods := #[]
  instanceTypes := #[]
  staticTypes := #[]
  resolved := Array.replicate 12 none
  statics := none }

def pool4 : Array CpInfo := pool [(2, .class_ 4), (1, u "java/lang/CharSequence"), (42, .class_ 48), (0, u "java/lang/CharSequence$1CodePointIterator"), (10, .class_ 60), (0, u "java/lang/CharSequence$1CharIterator"), (5, .class_ 67), (0, u "java/lang/Object")] 63

/-- java/lang/CharSequence -/
def k4 : Class := { plain "java/lang/CharSequence" (some 0) with
  accessFlags := 1537
  interfaces := #[]
  cf := some (fileOf pool4 2 #[.nestMembers #[47, 59]] #[] 1537 66 #[] #[])
  fields := #[]
  methods := #[]
  instanceTypes := #[]
  staticTypes := #[]
  resolved := Array.replicate 131 none
  statics := none }

def pool5 : Array CpInfo := pool [(1, .class_ 2), (0, u "java/lang/constant/Constable"), (0, .class_ 4), (0, u "java/lang/Object")] 6

/-- java/lang/constant/Constable -/
def k5 : Class := { plain "java/lang/constant/Constable" (some 0) with
  accessFlags := 1537
  interfaces := #[]
  cf := some (fileOf pool5 1 #[] #[] 1537 3 #[] #[])
  fields := #[]
  methods := #[]
  instanceTypes := #[]
  staticTypes := #[]
  resolved := Array.replicate 11 none
  statics := none }

def pool6 : Array CpInfo := pool [(1, .class_ 2), (0, u "java/lang/constant/ConstantDesc"), (0, .class_ 4), (0, u "java/lang/Object")] 32

/-- java/lang/constant/ConstantDesc -/
def k6 : Class := { plain "java/lang/constant/ConstantDesc" (some 0) with
  accessFlags := 1537
  interfaces := #[]
  cf := some (fileOf pool6 1 #[] #[] 1537 3 #[] #[])
  fields := #[]
  methods := #[]
  instanceTypes := #[]
  staticTypes := #[]
  resolved := Array.replicate 37 none
  statics := none }

def pool7 : Array CpInfo := pool [(1, .methodref 2 3), (0, .class_ 4), (0, .nameAndType 5 6), (0, u "java/lang/Object"), (0, u "<init>"), (0, u "()V"), (0, .string 8), (0, u ""), (0, .fieldref 10 11), (0, .class_ 12), (0, .nameAndType 13 14), (0, u "java/lang/String"), (0, u "value"), (0, u "[B"), (0, .fieldref 10 16), (0, .nameAndType 17 18), (0, u "coder"), (0, u "B"), (2, u "hash"), (0, u "I"), (2, u "hashIsZero"), (0, u "Z"), (0, .methodref 10 28), (0, .nameAndType 5 29), (0, u "([CIILjava/lang/Void;)V"), (8, .fieldref 10 39), (0, .nameAndType 40 26), (0, u "COMPACT_STRINGS"), (1, .class_ 44), (1, u "java/lang/StringUTF16"), (0, u "compress"), (1, .methodref 42 48), (0, .nameAndType 49 50), (0, u "coderFromArrayLen"), (0, u "([BI)B"), (3, .methodref 55 56), (0, .class_ 57), (0, .nameAndType 58 59), (0, u "java/util/Arrays"), (0, u "copyOfRange"), (0, u "([BII)[B"), (47, .class_ 109), (1, u "java/lang/StringLatin1"), (32, u "()Z"), (34, .methodref 42 178), (0, .nameAndType 45 179), (0, u "([CII)[B"), (13, .class_ 195), (1, u "java/lang/System"), (15, u "([BB)V"), (0, .methodref 193 213), (0, .nameAndType 214 215), (0, u "arraycopy"), (0, u "(Ljava/lang/Object;ILjava/lang/Object;II)V"), (118, u "()I"), (0, .methodref 10 336), (0, .nameAndType 17 337), (0, u "()B"), (2, u "()[B"), (22, u "([BI)C"), (27, u "(II)V"), (35, u "(I)C"), (61, .methodref 10 490), (0, .nameAndType 5 491), (0, u "(Ljava/lang/AbstractStringBuilder;Ljava/lang/Void;)V"), (0, .methodref 10 493), (0, .nameAndType 494 142), (0, u "isLatin1"), (0, .methodref 107 496), (0, .nameAndType 497 363), (0, u "charAt"), (3, u "checkIndex"), (4, .nameAndType 507 334), (0, u "length"), (24, u "getBytes"), (16, .methodref 550 506), (0, .class_ 551), (0, u "java/lang/AbstractStringBuilder"), (0, .methodref 550 553), (0, .nameAndType 554 340), (0, u "getValue"), (20, .class_ 576), (0, u "java/lang/CharSequence"), (22, u "CASE_INSENSITIVE_ORDER"), (0, u "Ljava/util/Comparator;"), (220, u "([BIB)V"), (17, .methodref 107 840), (0, .nameAndType 841 842), (0, u "toLowerCase"), (0, u "(Ljava/lang/String;[BLjava/util/Locale;)Ljava/lang/String;"), (9, u "(Ljava/util/Locale;)Ljava/lang/String;"), (157, u "([C)V"), (36, .methodref 550 493), (5, .fieldref 1054 1055), (0, .class_ 1056), (0, .nameAndType 1057 1058), (0, u "jdk/internal/util/Preconditions"), (0, u "SIOOBE_FORMATTER"), (0, u "Ljava/util/function/BiFunction;"), (0, .methodref 1054 1060), (0, .nameAndType 501 1061), (0, u "(IILjava/util/function/BiFunction;)I"), (39, u "serialPersistentFields"), (0, u "[Ljava/io/ObjectStreamField;"), (0, .class_ 1104), (0, u "java/lang/String$CaseInsensitiveComparator"), (1, .class_ 1107), (0, u "java/io/Serializable"), (0, .class_ 1109), (0, u "java/lang/Comparable"), (0, .class_ 1111), (0, u "java/lang/constant/Constable"), (0, .class_ 1113), (0, u "java/lang/constant/ConstantDesc"), (2, u "serialVersionUID"), (0, u "J"), (3, u "REPL"), (0, u "C"), (2, u "LATIN1"), (1, u "UTF16"), (105, u "(Ljava/lang/StringBuilder;)V")] 217

def k7m0 : Method := { name := "<init>", desc := "()V", sig := { parameters := [], returnType := none }, accessFlags := 1, code := none }
def k7c1 : Code := { maxStack := 5, maxLocals := 2, code := jdk_42_method_3_code, exceptionTable := #[], attributes := #[] }
def k7m1 : Method := { name := "<init>", desc := "([C)V", sig := { parameters := [(.array .char)], returnType := none }, accessFlags := 1, code := some k7c1 }
def k7c2 : Code := { maxStack := 3, maxLocals := 2, code := jdk_42_method_53_code, exceptionTable := #[], attributes := #[] }
def k7m2 : Method := { name := "<init>", desc := "(Ljava/lang/StringBuilder;)V", sig := { parameters := [(.object "java/lang/StringBuilder")], returnType := none }, accessFlags := 1, code := some k7c2 }
def k7c3 : Code := { maxStack := 2, maxLocals := 1, code := jdk_42_method_54_code, exceptionTable := #[], attributes := #[] }
def k7m3 : Method := { name := "length", desc := "()I", sig := { parameters := [], returnType := some .int }, accessFlags := 1, code := some k7c3 }
def k7c4 : Code := { maxStack := 2, maxLocals := 2, code := jdk_42_method_56_code, exceptionTable := #[], attributes := #[] }
def k7m4 : Method := { name := "charAt", desc := "(I)C", sig := { parameters := [.int], returnType := some .char }, accessFlags := 1, code := some k7c4 }
def k7c5 : Code := { maxStack := 3, maxLocals := 2, code := jdk_42_method_109_code, exceptionTable := #[], attributes := #[] }
def k7m5 : Method := { name := "toLowerCase", desc := "(Ljava/util/Locale;)Ljava/lang/String;", sig := { parameters := [(.object "java/util/Locale")], returnType := some (.object "java/lang/String") }, accessFlags := 1, code := some k7c5 }
def k7c6 : Code := { maxStack := 5, maxLocals := 4, code := jdk_42_method_147_code, exceptionTable := #[], attributes := #[] }
def k7m6 : Method := { name := "getBytes", desc := "([BIB)V", sig := { parameters := [(.array .byte), .int, .byte], returnType := none }, accessFlags := 0, code := some k7c6 }
def k7c7 : Code := { maxStack := 4, maxLocals := 6, code := jdk_42_method_149_code, exceptionTable := #[], attributes := #[] }
def k7m7 : Method := { name := "<init>", desc := "([CIILjava/lang/Void;)V", sig := { parameters := [(.array .char), .int, .int, (.object "java/lang/Void")], returnType := none }, accessFlags := 2, code := some k7c7 }
def k7c8 : Code := { maxStack := 5, maxLocals := 5, code := jdk_42_method_150_code, exceptionTable := #[], attributes := #[] }
def k7m8 : Method := { name := "<init>", desc := "(Ljava/lang/AbstractStringBuilder;Ljava/lang/Void;)V", sig := { parameters := [(.object "java/lang/AbstractStringBuilder"), (.object "java/lang/Void")], returnType := none }, accessFlags := 0, code := some k7c8 }
def k7c9 : Code := { maxStack := 2, maxLocals := 3, code := jdk_42_method_151_code, exceptionTable := #[], attributes := #[] }
def k7m9 : Method := { name := "<init>", desc := "([BB)V", sig := { parameters := [(.array .byte), .byte], returnType := none }, accessFlags := 0, code := some k7c9 }
def k7c10 : Code := { maxStack := 1, maxLocals := 1, code := jdk_42_method_152_code, exceptionTable := #[], attributes := #[] }
def k7m10 : Method := { name := "coder", desc := "()B", sig := { parameters := [], returnType := some .byte }, accessFlags := 0, code := some k7c10 }
def k7c11 : Code := { maxStack := 1, maxLocals := 1, code := jdk_42_method_154_code, exceptionTable := #[], attributes := #[] }
def k7m11 : Method := { name := "isLatin1", desc := "()Z", sig := { parameters := [], returnType := some .boolean }, accessFlags := 0, code := some k7c11 }
def k7c12 : Code := { maxStack := 3, maxLocals := 2, code := jdk_42_method_155_code, exceptionTable := #[], attributes := #[] }
def k7m12 : Method := { name := "checkIndex", desc := "(II)V", sig := { parameters := [.int, .int], returnType := none }, accessFlags := 8, code := some k7c12 }
/-- java/lang/String -/
def k7 : Class := { plain "java/lang/String" (some 0) with
  accessFlags := 49
  interfaces := #[2, 3, 4, 5, 6]
  cf := some (fileOf pool7 10 #[.nestMembers #[1103]] #[{ accessFlags := 1, nameIndex := 5, descriptorIndex := 6, attributes := #[] }, { accessFlags := 1, nameIndex := 5, descriptorIndex := 1010, attributes := #[] }, { accessFlags := 1, nameIndex := 5, descriptorIndex := 1233, attributes := #[] }, { accessFlags := 1, nameIndex := 507, descriptorIndex := 334, attributes := #[] }, { accessFlags := 1, nameIndex := 497, descriptorIndex := 427, attributes := #[] }, { accessFlags := 1, nameIndex := 841, descriptorIndex := 852, attributes := #[] }, { accessFlags := 0, nameIndex := 532, descriptorIndex := 821, attributes := #[] }, { accessFlags := 2, nameIndex := 5, descriptorIndex := 29, attributes := #[] }, { accessFlags := 0, nameIndex := 5, descriptorIndex := 491, attributes := #[] }, { accessFlags := 0, nameIndex := 5, descriptorIndex := 211, attributes := #[] }, { accessFlags := 0, nameIndex := 17, descriptorIndex := 337, attributes := #[] }, { accessFlags := 0, nameIndex := 494, descriptorIndex := 142, attributes := #[] }, { accessFlags := 8, nameIndex := 501, descriptorIndex := 391, attributes := #[] }] 49 2 #[1106, 1108, 575, 1110, 1112] #[{ accessFlags := 18, nameIndex := 13, descriptorIndex := 14, attributes := #[] }, { accessFlags := 18, nameIndex := 17, descriptorIndex := 18, attributes := #[] }, { accessFlags := 2, nameIndex := 21, descriptorIndex := 22, attributes := #[] }, { accessFlags := 2, nameIndex := 25, descriptorIndex := 26, attributes := #[] }, { accessFlags := 26, nameIndex := 1116, descriptorIndex := 1117, attributes := #[] }, { accessFlags := 24, nameIndex := 40, descriptorIndex := 26, attributes := #[] }, { accessFlags := 26, nameIndex := 1101, descriptorIndex := 1102, attributes := #[] }, { accessFlags := 26, nameIndex := 1121, descriptorIndex := 1122, attributes := #[] }, { accessFlags := 25, nameIndex := 599, descriptorIndex := 600, attributes := #[] }, { accessFlags := 24, nameIndex := 1125, descriptorIndex := 18, attributes := #[] }, { accessFlags := 24, nameIndex := 1127, descriptorIndex := 18, attributes := #[] }])
  fields := #[{ name := "value", type := (.array .byte), accessFlags := 18, slot := 0, constantValue := 0 }, { name := "coder", type := .byte, accessFlags := 18, slot := 1, constantValue := 0 }, { name := "hash", type := .int, accessFlags := 2, slot := 2, constantValue := 0 }, { name := "hashIsZero", type := .boolean, accessFlags := 2, slot := 3, constantValue := 0 }, { name := "serialVersionUID", type := .long, accessFlags := 26, slot := 0, constantValue := 0 }, { name := "COMPACT_STRINGS", type := .boolean, accessFlags := 24, slot := 1, constantValue := 0 }, { name := "serialPersistentFields", type := (.array (.object "java/io/ObjectStreamField")), accessFlags := 26, slot := 2, constantValue := 0 }, { name := "REPL", type := .char, accessFlags := 26, slot := 3, constantValue := 0 }, { name := "CASE_INSENSITIVE_ORDER", type := (.object "java/util/Comparator"), accessFlags := 25, slot := 4, constantValue := 0 }, { name := "LATIN1", type := .byte, accessFlags := 24, slot := 5, constantValue := 0 }, { name := "UTF16", type := .byte, accessFlags := 24, slot := 6, constantValue := 0 }]
  methods := #[k7m0, k7m1, k7m2, k7m3, k7m4, k7m5, k7m6, k7m7, k7m8, k7m9, k7m10, k7m11, k7m12]
  instanceTypes := #[(.array .byte), .byte, .int, .boolean]
  staticTypes := #[.long, .boolean, (.array (.object "java/io/ObjectStreamField")), .char, (.object "java/util/Comparator"), .byte, .byte]
  resolved := Array.replicate 1451 none
  statics := some 0 }

def pool8 : Array CpInfo := pool [(6, .class_ 8), (1, u "java/lang/Object"), (0, u "<init>"), (0, u "()V"), (1, .class_ 14), (1, u "java/lang/StringUTF16"), (31, u "$assertionsDisabled"), (0, u "Z"), (13, u "HI_BYTE_SHIFT"), (0, u "I"), (2, u "LO_BYTE_SHIFT"), (49, .methodref 12 116), (0, .nameAndType 117 118), (0, u "compress"), (0, u "([CI[BII)I"), (3, u "([CII)[B"), (138, u "coderFromArrayLen"), (0, u "([BI)B"), (106, .class_ 371), (1, u "java/lang/StringUTF16$LinesSpliterator"), (58, u "MAX_LENGTH"), (196, .class_ 628), (0, u "java/lang/StringUTF16$CodePointsSpliterator"), (0, .class_ 630), (0, u "java/lang/StringUTF16$CharsSpliterator")] 4

def k8m0 : Method := { name := "<init>", desc := "()V", sig := { parameters := [], returnType := none }, accessFlags := 0, code := none }
def k8c1 : Code := { maxStack := 2, maxLocals := 2, code := jdk_52_method_15_code, exceptionTable := #[], attributes := #[] }
def k8m1 : Method := { name := "coderFromArrayLen", desc := "([BI)B", sig := { parameters := [(.array .byte), .int], returnType := some .byte }, accessFlags := 8, code := some k8c1 }
def k8c2 : Code := { maxStack := 5, maxLocals := 6, code := jdk_52_method_16_code, exceptionTable := #[], attributes := #[] }
def k8m2 : Method := { name := "compress", desc := "([CII)[B", sig := { parameters := [(.array .char), .int, .int], returnType := some (.array .byte) }, accessFlags := 9, code := some k8c2 }
def k8c3 : Code := { maxStack := 3, maxLocals := 7, code := jdk_52_method_21_code, exceptionTable := #[], attributes := #[] }
def k8m3 : Method := { name := "compress", desc := "([CI[BII)I", sig := { parameters := [(.array .char), .int, (.array .byte), .int, .int], returnType := some .int }, accessFlags := 9, code := some k8c3 }
/-- java/lang/StringUTF16 -/
def k8 : Class := { plain "java/lang/StringUTF16" (some 0) with
  accessFlags := 48
  interfaces := #[]
  cf := some (fileOf pool8 12 #[.nestMembers #[627, 629, 369]] #[{ accessFlags := 0, nameIndex := 9, descriptorIndex := 10, attributes := #[] }, { accessFlags := 8, nameIndex := 261, descriptorIndex := 262, attributes := #[] }, { accessFlags := 9, nameIndex := 117, descriptorIndex := 122, attributes := #[] }, { accessFlags := 9, nameIndex := 117, descriptorIndex := 118, attributes := #[] }] 48 6 #[] #[{ accessFlags := 26, nameIndex := 61, descriptorIndex := 62, attributes := #[] }, { accessFlags := 26, nameIndex := 65, descriptorIndex := 62, attributes := #[] }, { accessFlags := 24, nameIndex := 430, descriptorIndex := 62, attributes := #[] }, { accessFlags := 4120, nameIndex := 46, descriptorIndex := 47, attributes := #[] }])
  fields := #[{ name := "HI_BYTE_SHIFT", type := .int, accessFlags := 26, slot := 0, constantValue := 0 }, { name := "LO_BYTE_SHIFT", type := .int, accessFlags := 26, slot := 1, constantValue := 0 }, { name := "MAX_LENGTH", type := .int, accessFlags := 24, slot := 2, constantValue := 0 }, { name := "$assertionsDisabled", type := .boolean, accessFlags := 4120, slot := 3, constantValue := 0 }]
  methods := #[k8m0, k8m1, k8m2, k8m3]
  instanceTypes := #[]
  staticTypes := #[.int, .int, .int, .boolean]
  resolved := Array.replicate 635 none
  statics := none }

def pool9 : Array CpInfo := pool [(2, .class_ 4), (0, .nameAndType 5 6), (0, u "java/lang/Object"), (0, u "<init>"), (0, u "()V"), (1, .class_ 10), (1, u "com/example/sira/sira/engine/StreamState"), (0, u "queue"), (0, u "Ljava/lang/String;"), (2, u "sender"), (2, u "streamId"), (2, u "last"), (0, u "J"), (2, u "receiptsTo"), (0, u "Lcom/example/sira/sira/wire/QueueUrl;"), (2, u "acknowledged"), (2, u "message"), (0, .class_ 34), (0, u "java/lang/StringBuilder"), (0, .methodref 33 3), (0, .methodref 33 37), (0, .nameAndType 38 39), (0, u "append"), (0, u "(Ljava/lang/String;)Ljava/lang/StringBuilder;"), (0, .fieldref 41 42), (0, .class_ 43), (0, .nameAndType 44 45), (0, u "java/util/Locale"), (0, u "ROOT"), (0, u "Ljava/util/Locale;"), (0, .methodref 47 48), (0, .class_ 49), (0, .nameAndType 50 51), (0, u "java/lang/String"), (0, u "toLowerCase"), (0, u "(Ljava/util/Locale;)Ljava/lang/String;"), (0, .methodref 33 53), (0, .nameAndType 54 55), (0, u "toString"), (0, u "()Ljava/lang/String;"), (2, u "key"), (0, u "(Ljava/lang/String;Ljava/lang/String;)Ljava/lang/String;")] 11

def k9c0 : Code := { maxStack := 3, maxLocals := 2, code := prog_31_method_2_code, exceptionTable := #[], attributes := #[] }
def k9m0 : Method := { name := "key", desc := "(Ljava/lang/String;Ljava/lang/String;)Ljava/lang/String;", sig := { parameters := [(.object "java/lang/String"), (.object "java/lang/String")], returnType := some (.object "java/lang/String") }, accessFlags := 8, code := some k9c0 }
/-- com/example/sira/sira/engine/StreamState -/
def k9 : Class := { plain "com/example/sira/sira/engine/StreamState" (some 0) with
  accessFlags := 32
  interfaces := #[]
  cf := some (fileOf pool9 8 #[] #[{ accessFlags := 8, nameIndex := 58, descriptorIndex := 59, attributes := #[] }] 32 2 #[] #[{ accessFlags := 18, nameIndex := 11, descriptorIndex := 12, attributes := #[] }, { accessFlags := 18, nameIndex := 15, descriptorIndex := 12, attributes := #[] }, { accessFlags := 18, nameIndex := 18, descriptorIndex := 12, attributes := #[] }, { accessFlags := 18, nameIndex := 21, descriptorIndex := 22, attributes := #[] }, { accessFlags := 18, nameIndex := 25, descriptorIndex := 26, attributes := #[] }, { accessFlags := 18, nameIndex := 29, descriptorIndex := 22, attributes := #[] }, { accessFlags := 18, nameIndex := 32, descriptorIndex := 22, attributes := #[] }])
  fields := #[{ name := "queue", type := (.object "java/lang/String"), accessFlags := 18, slot := 0, constantValue := 0 }, { name := "sender", type := (.object "java/lang/String"), accessFlags := 18, slot := 1, constantValue := 0 }, { name := "streamId", type := (.object "java/lang/String"), accessFlags := 18, slot := 2, constantValue := 0 }, { name := "last", type := .long, accessFlags := 18, slot := 3, constantValue := 0 }, { name := "receiptsTo", type := (.object "com/example/sira/sira/wire/QueueUrl"), accessFlags := 18, slot := 4, constantValue := 0 }, { name := "acknowledged", type := .long, accessFlags := 18, slot := 5, constantValue := 0 }, { name := "message", type := .long, accessFlags := 18, slot := 6, constantValue := 0 }]
  methods := #[k9m0]
  instanceTypes := #[(.object "java/lang/String"), (.object "java/lang/String"), (.object "java/lang/String"), .long, (.object "com/example/sira/sira/wire/QueueUrl"), .long, .long]
  staticTypes := #[]
  resolved := Array.replicate 71 none
  statics := none }

def pool10 : Array CpInfo := pool [(1, .class_ 2), (0, u "java/lang/Appendable"), (0, .class_ 4), (0, u "java/lang/Object")] 9

/-- java/lang/Appendable -/
def k10 : Class := { plain "java/lang/Appendable" (some 0) with
  accessFlags := 1537
  interfaces := #[]
  cf := some (fileOf pool10 1 #[] #[] 1537 3 #[] #[])
  fields := #[]
  methods := #[]
  instanceTypes := #[]
  staticTypes := #[]
  resolved := Array.replicate 14 none
  statics := none }

def pool11 : Array CpInfo := pool [(1, .class_ 2), (0, u "java/lang/String"), (0, .methodref 4 5), (0, .class_ 6), (0, .nameAndType 7 8), (0, u "java/lang/Object"), (0, u "<init>"), (0, u "()V"), (1, .class_ 12), (1, u "java/lang/AbstractStringBuilder"), (0, u "EMPTYVALUE"), (0, u "[B"), (0, .fieldref 10 16), (0, .nameAndType 17 14), (0, u "value"), (0, .fieldref 1 19), (0, .nameAndType 20 21), (0, u "COMPACT_STRINGS"), (0, u "Z"), (0, .fieldref 10 23), (0, .nameAndType 24 25), (0, u "coder"), (0, u "B"), (6, .methodref 1 33), (0, .nameAndType 34 35), (0, u "length"), (0, u "()I"), (4, .methodref 1 41), (0, .nameAndType 24 42), (0, u "()B"), (2, u "append"), (0, u "(Ljava/lang/String;)Ljava/lang/AbstractStringBuilder;"), (1, .class_ 49), (0, u "java/lang/CharSequence"), (19, u "(Ljava/lang/String;)V"), (5, u "maybeLatin1"), (3, .fieldref 10 80), (0, .nameAndType 81 82), (0, u "count"), (0, u "I"), (2, u "isLatin1"), (0, u "()Z"), (13, .methodref 10 101), (0, .nameAndType 102 103), (0, u "ensureCapacityInternal"), (0, u "(I)V"), (104, .methodref 10 209), (0, .nameAndType 210 211), (0, u "putStringAt"), (0, u "(ILjava/lang/String;)V"), (5, u "inflateIfNeededFor"), (2, .nameAndType 221 222), (0, u "getBytes"), (0, u "([BIB)V"), (174, .methodref 10 398), (0, .nameAndType 217 69), (0, .methodref 1 220), (3, u "()[B"), (40, .class_ 445), (0, u "java/lang/Appendable"), (106, u "getValue")] 56

def k11m0 : Method := { name := "<init>", desc := "()V", sig := { parameters := [], returnType := none }, accessFlags := 0, code := none }
def k11c1 : Code := { maxStack := 2, maxLocals := 2, code := jdk_68_method_2_code, exceptionTable := #[], attributes := #[] }
def k11m1 : Method := { name := "<init>", desc := "(I)V", sig := { parameters := [.int], returnType := none }, accessFlags := 0, code := some k11c1 }
def k11c2 : Code := { maxStack := 1, maxLocals := 1, code := jdk_68_method_6_code, exceptionTable := #[], attributes := #[] }
def k11m2 : Method := { name := "length", desc := "()I", sig := { parameters := [], returnType := some .int }, accessFlags := 1, code := some k11c2 }
def k11c3 : Code := { maxStack := 4, maxLocals := 3, code := jdk_68_method_9_code, exceptionTable := #[], attributes := #[] }
def k11m3 : Method := { name := "ensureCapacityInternal", desc := "(I)V", sig := { parameters := [.int], returnType := none }, accessFlags := 2, code := some k11c3 }
def k11c4 : Code := { maxStack := 3, maxLocals := 3, code := jdk_68_method_22_code, exceptionTable := #[], attributes := #[] }
def k11m4 : Method := { name := "append", desc := "(Ljava/lang/String;)Ljava/lang/AbstractStringBuilder;", sig := { parameters := [(.object "java/lang/String")], returnType := some (.object "java/lang/AbstractStringBuilder") }, accessFlags := 1, code := some k11c4 }
def k11c5 : Code := { maxStack := 1, maxLocals := 1, code := jdk_68_method_64_code, exceptionTable := #[], attributes := #[] }
def k11m5 : Method := { name := "getValue", desc := "()[B", sig := { parameters := [], returnType := some (.array .byte) }, accessFlags := 16, code := some k11c5 }
def k11c6 : Code := { maxStack := 1, maxLocals := 1, code := jdk_68_method_68_code, exceptionTable := #[], attributes := #[] }
def k11m6 : Method := { name := "isLatin1", desc := "()Z", sig := { parameters := [], returnType := some .boolean }, accessFlags := 16, code := some k11c6 }
def k11c7 : Code := { maxStack := 2, maxLocals := 2, code := jdk_68_method_71_code, exceptionTable := #[], attributes := #[] }
def k11m7 : Method := { name := "inflateIfNeededFor", desc := "(Ljava/lang/String;)V", sig := { parameters := [(.object "java/lang/String")], returnType := none }, accessFlags := 2, code := some k11c7 }
def k11c8 : Code := { maxStack := 4, maxLocals := 3, code := jdk_68_method_73_code, exceptionTable := #[], attributes := #[] }
def k11m8 : Method := { name := "putStringAt", desc := "(ILjava/lang/String;)V", sig := { parameters := [.int, (.object "java/lang/String")], returnType := none }, accessFlags := 2, code := some k11c8 }
/-- java/lang/AbstractStringBuilder -/
def k11 : Class := { plain "java/lang/AbstractStringBuilder" (some 0) with
  accessFlags := 1056
  interfaces := #[10, 4]
  cf := some (fileOf pool11 10 #[] #[{ accessFlags := 0, nameIndex := 7, descriptorIndex := 8, attributes := #[] }, { accessFlags := 0, nameIndex := 7, descriptorIndex := 103, attributes := #[] }, { accessFlags := 1, nameIndex := 34, descriptorIndex := 35, attributes := #[] }, { accessFlags := 2, nameIndex := 102, descriptorIndex := 103, attributes := #[] }, { accessFlags := 1, nameIndex := 45, descriptorIndex := 46, attributes := #[] }, { accessFlags := 16, nameIndex := 552, descriptorIndex := 403, attributes := #[] }, { accessFlags := 16, nameIndex := 85, descriptorIndex := 86, attributes := #[] }, { accessFlags := 2, nameIndex := 217, descriptorIndex := 69, attributes := #[] }, { accessFlags := 2, nameIndex := 210, descriptorIndex := 211, attributes := #[] }] 1056 4 #[444, 48] #[{ accessFlags := 0, nameIndex := 17, descriptorIndex := 14, attributes := #[] }, { accessFlags := 0, nameIndex := 24, descriptorIndex := 25, attributes := #[] }, { accessFlags := 0, nameIndex := 75, descriptorIndex := 21, attributes := #[] }, { accessFlags := 0, nameIndex := 81, descriptorIndex := 82, attributes := #[] }, { accessFlags := 26, nameIndex := 13, descriptorIndex := 14, attributes := #[] }])
  fields := #[{ name := "value", type := (.array .byte), accessFlags := 0, slot := 0, constantValue := 0 }, { name := "coder", type := .byte, accessFlags := 0, slot := 1, constantValue := 0 }, { name := "maybeLatin1", type := .boolean, accessFlags := 0, slot := 2, constantValue := 0 }, { name := "count", type := .int, accessFlags := 0, slot := 3, constantValue := 0 }, { name := "EMPTYVALUE", type := (.array .byte), accessFlags := 26, slot := 0, constantValue := 0 }]
  methods := #[k11m0, k11m1, k11m2, k11m3, k11m4, k11m5, k11m6, k11m7, k11m8]
  instanceTypes := #[(.array .byte), .byte, .boolean, .int]
  staticTypes := #[(.array .byte)]
  resolved := Array.replicate 609 none
  statics := none }

def pool12 : Array CpInfo := pool [(1, .methodref 2 3), (0, .class_ 4), (0, .nameAndType 5 6), (0, u "java/lang/AbstractStringBuilder"), (0, u "<init>"), (0, u "(I)V"), (11, .class_ 20), (1, u "java/lang/String"), (3, .class_ 26), (1, u "java/lang/StringBuilder"), (0, u "append"), (0, u "(Ljava/lang/String;)Ljava/lang/StringBuilder;"), (0, .methodref 2 30), (0, .nameAndType 27 31), (0, u "(Ljava/lang/String;)Ljava/lang/AbstractStringBuilder;"), (105, .methodref 18 138), (0, .nameAndType 5 139), (0, u "(Ljava/lang/StringBuilder;)V"), (5, u "()V"), (10, u "()I"), (186, .methodref 2 344), (0, .nameAndType 345 156), (0, u "length"), (3, .class_ 350), (0, u "java/lang/Appendable"), (0, .class_ 352), (0, u "java/io/Serializable"), (0, .class_ 354), (0, u "java/lang/Comparable"), (0, .class_ 356), (0, u "java/lang/CharSequence"), (0, u "serialVersionUID"), (0, u "J"), (40, u "toString"), (0, u "()Ljava/lang/String;")] 21

def k12c0 : Code := { maxStack := 2, maxLocals := 1, code := jdk_67_method_1_code, exceptionTable := #[], attributes := #[] }
def k12m0 : Method := { name := "<init>", desc := "()V", sig := { parameters := [], returnType := none }, accessFlags := 1, code := some k12c0 }
def k12c1 : Code := { maxStack := 2, maxLocals := 2, code := jdk_67_method_7_code, exceptionTable := #[], attributes := #[] }
def k12m1 : Method := { name := "append", desc := "(Ljava/lang/String;)Ljava/lang/StringBuilder;", sig := { parameters := [(.object "java/lang/String")], returnType := some (.object "java/lang/StringBuilder") }, accessFlags := 1, code := some k12c1 }
def k12c2 : Code := { maxStack := 3, maxLocals := 1, code := jdk_67_method_42_code, exceptionTable := #[], attributes := #[] }
def k12m2 : Method := { name := "toString", desc := "()Ljava/lang/String;", sig := { parameters := [], returnType := some (.object "java/lang/String") }, accessFlags := 1, code := some k12c2 }
def k12c3 : Code := { maxStack := 1, maxLocals := 1, code := jdk_67_method_93_code, exceptionTable := #[], attributes := #[] }
def k12m3 : Method := { name := "length", desc := "()I", sig := { parameters := [], returnType := some .int }, accessFlags := 4161, code := some k12c3 }
/-- java/lang/StringBuilder -/
def k12 : Class := { plain "java/lang/StringBuilder" (some 11) with
  accessFlags := 49
  interfaces := #[10, 2, 3, 4]
  cf := some (fileOf pool12 24 #[] #[{ accessFlags := 1, nameIndex := 5, descriptorIndex := 145, attributes := #[] }, { accessFlags := 1, nameIndex := 27, descriptorIndex := 28, attributes := #[] }, { accessFlags := 1, nameIndex := 399, descriptorIndex := 400, attributes := #[] }, { accessFlags := 4161, nameIndex := 345, descriptorIndex := 156, attributes := #[] }] 49 2 #[349, 351, 353, 355] #[{ accessFlags := 24, nameIndex := 357, descriptorIndex := 358, attributes := #[] }])
  fields := #[{ name := "serialVersionUID", type := .long, accessFlags := 24, slot := 0, constantValue := 0 }]
  methods := #[k12m0, k12m1, k12m2, k12m3]
  instanceTypes := #[(.array .byte), .byte, .boolean, .int]
  staticTypes := #[.long]
  resolved := Array.replicate 422 none
  statics := none }

def pool13 : Array CpInfo := pool [(2, .class_ 4), (1, u "java/lang/Object"), (0, u "<init>"), (0, u "()V"), (1, .class_ 10), (1, u "java/lang/System"), (0, u "allowSecurityManager"), (0, u "I"), (16, u "cons"), (0, u "Ljava/io/Console;"), (77, .class_ 110), (1, u "java/lang/System$CallersHolder"), (43, u "initialErrStream"), (0, u "Ljava/io/PrintStream;"), (19, u "security"), (0, u "Ljava/lang/SecurityManager;"), (31, .class_ 209), (0, u "java/lang/System$1"), (7, u "props"), (0, u "Ljava/util/Properties;"), (2, u "lineSeparator"), (0, u "Ljava/lang/String;"), (96, .class_ 321), (1, u "java/lang/System$LoggerFinder"), (5, .class_ 328), (0, u "java/lang/System$Logger"), (67, u "err"), (2, u "out"), (91, u "notSupportedJnuEncoding"), (15, u "in"), (17, u "initialIn"), (0, u "Ljava/io/InputStream;"), (35, u "bootLayer"), (0, u "Ljava/lang/ModuleLayer;"), (99, .class_ 664), (0, u "java/lang/System$2"), (9, u "NEVER"), (2, u "MAYBE"), (49, u "arraycopy"), (0, u "(Ljava/lang/Object;ILjava/lang/Object;II)V"), (72, .class_ 802), (0, u "java/lang/System$Logger$Level")] 31

def k13m0 : Method := { name := "<init>", desc := "()V", sig := { parameters := [], returnType := none }, accessFlags := 2, code := none }
def k13m1 : Method := { name := "arraycopy", desc := "(Ljava/lang/Object;ILjava/lang/Object;II)V", sig := { parameters := [(.object "java/lang/Object"), .int, (.object "java/lang/Object"), .int, .int], returnType := none }, accessFlags := 265, code := none }
/-- java/lang/System -/
def k13 : Class := { plain "java/lang/System" (some 0) with
  accessFlags := 49
  interfaces := #[]
  cf := some (fileOf pool13 8 #[.nestMembers #[319, 327, 801, 108, 663, 208]] #[{ accessFlags := 2, nameIndex := 5, descriptorIndex := 6, attributes := #[] }, { accessFlags := 265, nameIndex := 727, descriptorIndex := 728, attributes := #[] }] 49 2 #[] #[{ accessFlags := 25, nameIndex := 507, descriptorIndex := 526, attributes := #[] }, { accessFlags := 25, nameIndex := 399, descriptorIndex := 155, attributes := #[] }, { accessFlags := 25, nameIndex := 396, descriptorIndex := 155, attributes := #[] }, { accessFlags := 10, nameIndex := 525, descriptorIndex := 526, attributes := #[] }, { accessFlags := 26, nameIndex := 674, descriptorIndex := 12, attributes := #[] }, { accessFlags := 26, nameIndex := 677, descriptorIndex := 12, attributes := #[] }, { accessFlags := 10, nameIndex := 11, descriptorIndex := 12, attributes := #[] }, { accessFlags := 74, nameIndex := 175, descriptorIndex := 176, attributes := #[] }, { accessFlags := 10, nameIndex := 491, descriptorIndex := 222, attributes := #[] }, { accessFlags := 74, nameIndex := 29, descriptorIndex := 30, attributes := #[] }, { accessFlags := 74, nameIndex := 154, descriptorIndex := 155, attributes := #[] }, { accessFlags := 10, nameIndex := 217, descriptorIndex := 218, attributes := #[] }, { accessFlags := 10, nameIndex := 221, descriptorIndex := 222, attributes := #[] }, { accessFlags := 8, nameIndex := 562, descriptorIndex := 563, attributes := #[] }])
  fields := #[{ name := "in", type := (.object "java/io/InputStream"), accessFlags := 25, slot := 0, constantValue := 0 }, { name := "out", type := (.object "java/io/PrintStream"), accessFlags := 25, slot := 1, constantValue := 0 }, { name := "err", type := (.object "java/io/PrintStream"), accessFlags := 25, slot := 2, constantValue := 0 }, { name := "initialIn", type := (.object "java/io/InputStream"), accessFlags := 10, slot := 3, constantValue := 0 }, { name := "NEVER", type := .int, accessFlags := 26, slot := 4, constantValue := 0 }, { name := "MAYBE", type := .int, accessFlags := 26, slot := 5, constantValue := 0 }, { name := "allowSecurityManager", type := .int, accessFlags := 10, slot := 6, constantValue := 0 }, { name := "security", type := (.object "java/lang/SecurityManager"), accessFlags := 74, slot := 7, constantValue := 0 }, { name := "notSupportedJnuEncoding", type := (.object "java/lang/String"), accessFlags := 10, slot := 8, constantValue := 0 }, { name := "cons", type := (.object "java/io/Console"), accessFlags := 74, slot := 9, constantValue := 0 }, { name := "initialErrStream", type := (.object "java/io/PrintStream"), accessFlags := 74, slot := 10, constantValue := 0 }, { name := "props", type := (.object "java/util/Properties"), accessFlags := 10, slot := 11, constantValue := 0 }, { name := "lineSeparator", type := (.object "java/lang/String"), accessFlags := 10, slot := 12, constantValue := 0 }, { name := "bootLayer", type := (.object "java/lang/ModuleLayer"), accessFlags := 8, slot := 13, constantValue := 0 }]
  methods := #[k13m0, k13m1]
  instanceTypes := #[]
  staticTypes := #[(.object "java/io/InputStream"), (.object "java/io/PrintStream"), (.object "java/io/PrintStream"), (.object "java/io/InputStream"), .int, .int, .int, (.object "java/lang/SecurityManager"), (.object "java/lang/String"), (.object "java/io/Console"), (.object "java/io/PrintStream"), (.object "java/util/Properties"), (.object "java/lang/String"), (.object "java/lang/ModuleLayer")]
  resolved := Array.replicate 834 none
  statics := none }

def pool14 : Array CpInfo := pool [(1, .class_ 2), (0, u "java/lang/Cloneable"), (0, .class_ 4), (0, u "java/lang/Object")] 2

/-- java/lang/Cloneable -/
def k14 : Class := { plain "java/lang/Cloneable" (some 0) with
  accessFlags := 1537
  interfaces := #[]
  cf := some (fileOf pool14 1 #[] #[] 1537 3 #[] #[])
  fields := #[]
  methods := #[]
  instanceTypes := #[]
  staticTypes := #[]
  resolved := Array.replicate 7 none
  statics := none }

def pool15 : Array CpInfo := pool [(2, .class_ 4), (1, u "sun/util/locale/BaseLocale"), (2, .class_ 8), (0, u "java/util/Locale"), (6, u "CONSTANT_LOCALES"), (0, u "Ljava/util/Map;"), (7, .class_ 26), (1, u "java/lang/Object"), (1, .fieldref 7 29), (0, .nameAndType 30 31), (0, u "baseLocale"), (0, u "Lsun/util/locale/BaseLocale;"), (2, u "localeExtensions"), (0, u "Lsun/util/locale/LocaleExtensions;"), (31, .class_ 69), (1, u "java/util/Locale$Cache"), (3, .class_ 74), (0, u "java/util/Locale$LocaleKey"), (3, u "defaultLocale"), (0, u "Ljava/util/Locale;"), (6, .class_ 88), (1, u "java/util/Locale$Category"), (4, u "defaultDisplayLocale"), (6, u "$assertionsDisabled"), (0, u "Z"), (12, u "defaultFormatLocale"), (12, u "Ljava/lang/String;"), (131, u "isoCountries"), (0, u "[Ljava/lang/String;"), (15, .class_ 278), (1, u "java/util/Locale$IsoCountryCode"), (4, u "isoLanguages"), (9, .methodref 2 294), (0, .nameAndType 295 296), (0, u "getLanguage"), (0, u "()Ljava/lang/String;"), (78, u "languageTag"), (114, .class_ 492), (1, u "java/util/Locale$LocaleNameGetter"), (125, u "hashCodeValue"), (0, u "I"), (29, u "ROOT"), (129, .class_ 781), (1, u "java/util/Locale$FilteringMode"), (39, u "ENGLISH"), (2, u "FRENCH"), (2, u "GERMAN"), (2, u "ITALIAN"), (2, u "JAPANESE"), (2, u "KOREAN"), (2, u "CHINESE"), (2, u "SIMPLIFIED_CHINESE"), (2, u "TRADITIONAL_CHINESE"), (2, u "FRANCE"), (2, u "GERMANY"), (2, u "ITALY"), (2, u "JAPAN"), (2, u "KOREA"), (2, u "UK"), (2, u "US"), (2, u "CANADA"), (2, u "CANADA_FRENCH"), (2, u "CHINA"), (2, u "PRC"), (2, u "TAIWAN"), (13, u "serialPersistentFields"), (0, u "[Ljava/io/ObjectStreamField;"), (0, .class_ 898), (0, u "java/lang/Cloneable"), (0, .class_ 900), (0, u "java/io/Serializable"), (2, u "PRIVATE_USE_EXTENSION"), (0, u "C"), (2, u "UNICODE_LOCALE_EXTENSION"), (1, u "serialVersionUID"), (0, u "J"), (2, u "DISPLAY_LANGUAGE"), (1, u "DISPLAY_COUNTRY"), (1, u "DISPLAY_VARIANT"), (1, u "DISPLAY_SCRIPT"), (1, u "DISPLAY_UEXT_KEY"), (1, u "DISPLAY_UEXT_TYPE"), (174, .class_ 1099), (0, u "java/util/Locale$LanguageRange"), (0, .class_ 1101), (0, u "java/util/Locale$Builder"), (0, .class_ 1103), (0, u "java/util/Locale$IsoCountryCode$3"), (0, .class_ 1105), (0, u "java/util/Locale$IsoCountryCode$2"), (0, .class_ 1107), (0, u "java/util/Locale$IsoCountryCode$1")] 46

def k15c0 : Code := { maxStack := 1, maxLocals := 1, code := jdk_2628_method_27_code, exceptionTable := #[], attributes := #[] }
def k15m0 : Method := { name := "getLanguage", desc := "()Ljava/lang/String;", sig := { parameters := [], returnType := some (.object "java/lang/String") }, accessFlags := 1, code := some k15c0 }
/-- java/util/Locale -/
def k15 : Class := { plain "java/util/Locale" (some 0) with
  accessFlags := 49
  interfaces := #[14, 2]
  cf := some (fileOf pool15 7 #[.nestMembers #[1098, 779, 1100, 86, 490, 73, 67, 276, 1102, 1104, 1106]] #[{ accessFlags := 1, nameIndex := 295, descriptorIndex := 296, attributes := #[] }] 49 24 #[897, 899] #[{ accessFlags := 25, nameIndex := 821, descriptorIndex := 79, attributes := #[] }, { accessFlags := 25, nameIndex := 824, descriptorIndex := 79, attributes := #[] }, { accessFlags := 25, nameIndex := 827, descriptorIndex := 79, attributes := #[] }, { accessFlags := 25, nameIndex := 830, descriptorIndex := 79, attributes := #[] }, { accessFlags := 25, nameIndex := 833, descriptorIndex := 79, attributes := #[] }, { accessFlags := 25, nameIndex := 836, descriptorIndex := 79, attributes := #[] }, { accessFlags := 25, nameIndex := 839, descriptorIndex := 79, attributes := #[] }, { accessFlags := 25, nameIndex := 842, descriptorIndex := 79, attributes := #[] }, { accessFlags := 25, nameIndex := 845, descriptorIndex := 79, attributes := #[] }, { accessFlags := 25, nameIndex := 848, descriptorIndex := 79, attributes := #[] }, { accessFlags := 25, nameIndex := 851, descriptorIndex := 79, attributes := #[] }, { accessFlags := 25, nameIndex := 854, descriptorIndex := 79, attributes := #[] }, { accessFlags := 25, nameIndex := 857, descriptorIndex := 79, attributes := #[] }, { accessFlags := 25, nameIndex := 860, descriptorIndex := 79, attributes := #[] }, { accessFlags := 25, nameIndex := 863, descriptorIndex := 79, attributes := #[] }, { accessFlags := 25, nameIndex := 866, descriptorIndex := 79, attributes := #[] }, { accessFlags := 25, nameIndex := 869, descriptorIndex := 79, attributes := #[] }, { accessFlags := 25, nameIndex := 872, descriptorIndex := 79, attributes := #[] }, { accessFlags := 25, nameIndex := 649, descriptorIndex := 79, attributes := #[] }, { accessFlags := 26, nameIndex := 15, descriptorIndex := 16, attributes := #[] }, { accessFlags := 25, nameIndex := 875, descriptorIndex := 79, attributes := #[] }, { accessFlags := 25, nameIndex := 878, descriptorIndex := 79, attributes := #[] }, { accessFlags := 25, nameIndex := 881, descriptorIndex := 79, attributes := #[] }, { accessFlags := 25, nameIndex := 903, descriptorIndex := 904, attributes := #[] }, { accessFlags := 25, nameIndex := 907, descriptorIndex := 904, attributes := #[] }, { accessFlags := 24, nameIndex := 909, descriptorIndex := 910, attributes := #[] }, { accessFlags := 26, nameIndex := 913, descriptorIndex := 619, attributes := #[] }, { accessFlags := 26, nameIndex := 915, descriptorIndex := 619, attributes := #[] }, { accessFlags := 26, nameIndex := 917, descriptorIndex := 619, attributes := #[] }, { accessFlags := 26, nameIndex := 919, descriptorIndex := 619, attributes := #[] }, { accessFlags := 26, nameIndex := 921, descriptorIndex := 619, attributes := #[] }, { accessFlags := 26, nameIndex := 923, descriptorIndex := 619, attributes := #[] }, { accessFlags := 130, nameIndex := 30, descriptorIndex := 31, attributes := #[] }, { accessFlags := 130, nameIndex := 34, descriptorIndex := 35, attributes := #[] }, { accessFlags := 130, nameIndex := 618, descriptorIndex := 619, attributes := #[] }, { accessFlags := 74, nameIndex := 78, descriptorIndex := 79, attributes := #[] }, { accessFlags := 74, nameIndex := 93, descriptorIndex := 79, attributes := #[] }, { accessFlags := 74, nameIndex := 114, descriptorIndex := 79, attributes := #[] }, { accessFlags := 194, nameIndex := 375, descriptorIndex := 127, attributes := #[] }, { accessFlags := 26, nameIndex := 895, descriptorIndex := 896, attributes := #[] }, { accessFlags := 74, nameIndex := 283, descriptorIndex := 260, attributes := #[] }, { accessFlags := 74, nameIndex := 259, descriptorIndex := 260, attributes := #[] }, { accessFlags := 4120, nameIndex := 100, descriptorIndex := 101, attributes := #[] }])
  fields := #[{ name := "ENGLISH", type := (.object "java/util/Locale"), accessFlags := 25, slot := 0, constantValue := 0 }, { name := "FRENCH", type := (.object "java/util/Locale"), accessFlags := 25, slot := 1, constantValue := 0 }, { name := "GERMAN", type := (.object "java/util/Locale"), accessFlags := 25, slot := 2, constantValue := 0 }, { name := "ITALIAN", type := (.object "java/util/Locale"), accessFlags := 25, slot := 3, constantValue := 0 }, { name := "JAPANESE", type := (.object "java/util/Locale"), accessFlags := 25, slot := 4, constantValue := 0 }, { name := "KOREAN", type := (.object "java/util/Locale"), accessFlags := 25, slot := 5, constantValue := 0 }, { name := "CHINESE", type := (.object "java/util/Locale"), accessFlags := 25, slot := 6, constantValue := 0 }, { name := "SIMPLIFIED_CHINESE", type := (.object "java/util/Locale"), accessFlags := 25, slot := 7, constantValue := 0 }, { name := "TRADITIONAL_CHINESE", type := (.object "java/util/Locale"), accessFlags := 25, slot := 8, constantValue := 0 }, { name := "FRANCE", type := (.object "java/util/Locale"), accessFlags := 25, slot := 9, constantValue := 0 }, { name := "GERMANY", type := (.object "java/util/Locale"), accessFlags := 25, slot := 10, constantValue := 0 }, { name := "ITALY", type := (.object "java/util/Locale"), accessFlags := 25, slot := 11, constantValue := 0 }, { name := "JAPAN", type := (.object "java/util/Locale"), accessFlags := 25, slot := 12, constantValue := 0 }, { name := "KOREA", type := (.object "java/util/Locale"), accessFlags := 25, slot := 13, constantValue := 0 }, { name := "UK", type := (.object "java/util/Locale"), accessFlags := 25, slot := 14, constantValue := 0 }, { name := "US", type := (.object "java/util/Locale"), accessFlags := 25, slot := 15, constantValue := 0 }, { name := "CANADA", type := (.object "java/util/Locale"), accessFlags := 25, slot := 16, constantValue := 0 }, { name := "CANADA_FRENCH", type := (.object "java/util/Locale"), accessFlags := 25, slot := 17, constantValue := 0 }, { name := "ROOT", type := (.object "java/util/Locale"), accessFlags := 25, slot := 18, constantValue := 0 }, { name := "CONSTANT_LOCALES", type := (.object "java/util/Map"), accessFlags := 26, slot := 19, constantValue := 0 }, { name := "CHINA", type := (.object "java/util/Locale"), accessFlags := 25, slot := 20, constantValue := 0 }, { name := "PRC", type := (.object "java/util/Locale"), accessFlags := 25, slot := 21, constantValue := 0 }, { name := "TAIWAN", type := (.object "java/util/Locale"), accessFlags := 25, slot := 22, constantValue := 0 }, { name := "PRIVATE_USE_EXTENSION", type := .char, accessFlags := 25, slot := 23, constantValue := 0 }, { name := "UNICODE_LOCALE_EXTENSION", type := .char, accessFlags := 25, slot := 24, constantValue := 0 }, { name := "serialVersionUID", type := .long, accessFlags := 24, slot := 25, constantValue := 0 }, { name := "DISPLAY_LANGUAGE", type := .int, accessFlags := 26, slot := 26, constantValue := 0 }, { name := "DISPLAY_COUNTRY", type := .int, accessFlags := 26, slot := 27, constantValue := 0 }, { name := "DISPLAY_VARIANT", type := .int, accessFlags := 26, slot := 28, constantValue := 0 }, { name := "DISPLAY_SCRIPT", type := .int, accessFlags := 26, slot := 29, constantValue := 0 }, { name := "DISPLAY_UEXT_KEY", type := .int, accessFlags := 26, slot := 30, constantValue := 0 }, { name := "DISPLAY_UEXT_TYPE", type := .int, accessFlags := 26, slot := 31, constantValue := 0 }, { name := "baseLocale", type := (.object "sun/util/locale/BaseLocale"), accessFlags := 130, slot := 0, constantValue := 0 }, { name := "localeExtensions", type := (.object "sun/util/locale/LocaleExtensions"), accessFlags := 130, slot := 1, constantValue := 0 }, { name := "hashCodeValue", type := .int, accessFlags := 130, slot := 2, constantValue := 0 }, { name := "defaultLocale", type := (.object "java/util/Locale"), accessFlags := 74, slot := 32, constantValue := 0 }, { name := "defaultDisplayLocale", type := (.object "java/util/Locale"), accessFlags := 74, slot := 33, constantValue := 0 }, { name := "defaultFormatLocale", type := (.object "java/util/Locale"), accessFlags := 74, slot := 34, constantValue := 0 }, { name := "languageTag", type := (.object "java/lang/String"), accessFlags := 194, slot := 3, constantValue := 0 }, { name := "serialPersistentFields", type := (.array (.object "java/io/ObjectStreamField")), accessFlags := 26, slot := 35, constantValue := 0 }, { name := "isoLanguages", type := (.array (.object "java/lang/String")), accessFlags := 74, slot := 36, constantValue := 0 }, { name := "isoCountries", type := (.array (.object "java/lang/String")), accessFlags := 74, slot := 37, constantValue := 0 }, { name := "$assertionsDisabled", type := .boolean, accessFlags := 4120, slot := 38, constantValue := 0 }]
  methods := #[k15m0]
  instanceTypes := #[(.object "sun/util/locale/BaseLocale"), (.object "sun/util/locale/LocaleExtensions"), .int, (.object "java/lang/String")]
  staticTypes := #[(.object "java/util/Locale"), (.object "java/util/Locale"), (.object "java/util/Locale"), (.object "java/util/Locale"), (.object "java/util/Locale"), (.object "java/util/Locale"), (.object "java/util/Locale"), (.object "java/util/Locale"), (.object "java/util/Locale"), (.object "java/util/Locale"), (.object "java/util/Locale"), (.object "java/util/Locale"), (.object "java/util/Locale"), (.object "java/util/Locale"), (.object "java/util/Locale"), (.object "java/util/Locale"), (.object "java/util/Locale"), (.object "java/util/Locale"), (.object "java/util/Locale"), (.object "java/util/Map"), (.object "java/util/Locale"), (.object "java/util/Locale"), (.object "java/util/Locale"), .char, .char, .long, .int, .int, .int, .int, .int, .int, (.object "java/util/Locale"), (.object "java/util/Locale"), (.object "java/util/Locale"), (.array (.object "java/io/ObjectStreamField")), (.array (.object "java/lang/String")), (.array (.object "java/lang/String")), .boolean]
  resolved := Array.replicate 1154 none
  statics := some 1 }

def pool16 : Array CpInfo := pool [(1, .class_ 2), (0, u "java/lang/String"), (1, .class_ 6), (1, u "java/lang/Object"), (0, u "<init>"), (0, u "()V"), (0, .methodref 1 10), (0, .nameAndType 11 12), (0, u "checkIndex"), (0, u "(II)V"), (1, .class_ 16), (1, u "java/lang/StringLatin1"), (11, .methodref 29 30), (0, .class_ 31), (0, .nameAndType 32 33), (0, u "java/lang/System"), (0, u "arraycopy"), (0, u "(Ljava/lang/Object;ILjava/lang/Object;II)V"), (19, u "([BI)C"), (12, .fieldref 67 68), (0, .class_ 69), (0, .nameAndType 70 71), (0, u "java/lang/CharacterDataLatin1"), (0, u "instance"), (0, u "Ljava/lang/CharacterDataLatin1;"), (3, u "(I)I"), (4, u "toLowerCase"), (7, .methodref 14 89), (0, .nameAndType 90 91), (0, u "canEncode"), (0, u "(I)Z"), (20, .methodref 1 113), (0, .nameAndType 7 114), (0, u "([BB)V"), (6, u "$assertionsDisabled"), (0, u "Z"), (37, .methodref 67 161), (0, .nameAndType 80 75), (0, .methodref 163 164), (0, .class_ 165), (0, .nameAndType 166 167), (0, u "java/util/Locale"), (0, u "getLanguage"), (0, u "()Ljava/lang/String;"), (0, .string 169), (0, u "tr"), (0, .string 171), (0, u "az"), (0, .string 173), (0, u "lt"), (47, .class_ 223), (1, u "java/lang/StringLatin1$LinesSpliterator"), (28, u "charAt"), (97, u "(Ljava/lang/String;[BLjava/util/Locale;)Ljava/lang/String;"), (39, .class_ 391), (0, u "java/lang/StringLatin1$CharsSpliterator")] 3

def k16m0 : Method := { name := "<init>", desc := "()V", sig := { parameters := [], returnType := none }, accessFlags := 0, code := none }
def k16c1 : Code := { maxStack := 2, maxLocals := 2, code := jdk_43_method_2_code, exceptionTable := #[], attributes := #[] }
def k16m1 : Method := { name := "charAt", desc := "([BI)C", sig := { parameters := [(.array .byte), .int], returnType := some .char }, accessFlags := 9, code := some k16c1 }
def k16c2 : Code := { maxStack := 2, maxLocals := 1, code := jdk_43_method_4_code, exceptionTable := #[], attributes := #[] }
def k16m2 : Method := { name := "canEncode", desc := "(I)Z", sig := { parameters := [.int], returnType := some .boolean }, accessFlags := 9, code := some k16c2 }
def k16c3 : Code := { maxStack := 5, maxLocals := 9, code := jdk_43_method_32_code, exceptionTable := #[], attributes := #[] }
def k16m3 : Method := { name := "toLowerCase", desc := "(Ljava/lang/String;[BLjava/util/Locale;)Ljava/lang/String;", sig := { parameters := [(.object "java/lang/String"), (.array .byte), (.object "java/util/Locale")], returnType := some (.object "java/lang/String") }, accessFlags := 9, code := some k16c3 }
/-- java/lang/StringLatin1 -/
def k16 : Class := { plain "java/lang/StringLatin1" (some 0) with
  accessFlags := 48
  interfaces := #[]
  cf := some (fileOf pool16 14 #[.nestMembers #[390, 221]] #[{ accessFlags := 0, nameIndex := 7, descriptorIndex := 8, attributes := #[] }, { accessFlags := 9, nameIndex := 252, descriptorIndex := 53, attributes := #[] }, { accessFlags := 9, nameIndex := 90, descriptorIndex := 91, attributes := #[] }, { accessFlags := 9, nameIndex := 80, descriptorIndex := 350, attributes := #[] }] 48 4 #[] #[{ accessFlags := 4120, nameIndex := 121, descriptorIndex := 122, attributes := #[] }])
  fields := #[{ name := "$assertionsDisabled", type := .boolean, accessFlags := 4120, slot := 0, constantValue := 0 }]
  methods := #[k16m0, k16m1, k16m2, k16m3]
  instanceTypes := #[]
  staticTypes := #[.boolean]
  resolved := Array.replicate 395 none
  statics := none }

def pool17 : Array CpInfo := pool [(2, .class_ 4), (1, u "java/lang/Object"), (0, u "<init>"), (0, u "()V"), (7, .class_ 16), (1, u "java/util/Arrays"), (57, .class_ 76), (1, u "java/util/Arrays$NaturalOrder"), (36, .class_ 115), (1, u "java/util/Arrays$LegacyMergeSort"), (1, u "Z"), (21, u "copyOfRange"), (10, .methodref 151 152), (0, .class_ 153), (0, .nameAndType 154 155), (0, u "java/lang/System"), (0, u "arraycopy"), (0, u "(Ljava/lang/Object;ILjava/lang/Object;II)V"), (148, .methodref 305 306), (0, .class_ 307), (0, .nameAndType 308 309), (0, u "java/lang/Math"), (0, u "min"), (0, u "(II)I"), (29, .methodref 14 340), (0, .nameAndType 341 342), (0, u "copyOfRangeByte"), (0, u "([BII)[B"), (0, .methodref 14 344), (0, .nameAndType 345 346), (0, u "checkLength"), (0, u "(II)V"), (28, .class_ 376), (0, u "java/util/Arrays$ArrayList"), (68, u "$assertionsDisabled"), (269, u "MIN_ARRAY_SORT_GRAN"), (0, u "I"), (2, u "INSERTIONSORT_THRESHOLD"), (255, .class_ 976), (0, u "java/util/Arrays$ArrayItr")] 52

def k17m0 : Method := { name := "<init>", desc := "()V", sig := { parameters := [], returnType := none }, accessFlags := 2, code := none }
def k17c1 : Code := { maxStack := 4, maxLocals := 2, code := jdk_65_method_131_code, exceptionTable := #[], attributes := #[] }
def k17m1 : Method := { name := "checkLength", desc := "(II)V", sig := { parameters := [.int, .int], returnType := none }, accessFlags := 10, code := some k17c1 }
def k17c2 : Code := { maxStack := 3, maxLocals := 3, code := jdk_65_method_132_code, exceptionTable := #[], attributes := #[] }
def k17m2 : Method := { name := "copyOfRange", desc := "([BII)[B", sig := { parameters := [(.array .byte), .int, .int], returnType := some (.array .byte) }, accessFlags := 9, code := some k17c2 }
def k17c3 : Code := { maxStack := 6, maxLocals := 5, code := jdk_65_method_133_code, exceptionTable := #[], attributes := #[] }
def k17m3 : Method := { name := "copyOfRangeByte", desc := "([BII)[B", sig := { parameters := [(.array .byte), .int, .int], returnType := some (.array .byte) }, accessFlags := 10, code := some k17c3 }
/-- java/util/Arrays -/
def k17 : Class := { plain "java/util/Arrays" (some 0) with
  accessFlags := 49
  interfaces := #[]
  cf := some (fileOf pool17 14 #[.nestMembers #[975, 375, 113, 74]] #[{ accessFlags := 2, nameIndex := 5, descriptorIndex := 6, attributes := #[] }, { accessFlags := 10, nameIndex := 345, descriptorIndex := 346, attributes := #[] }, { accessFlags := 9, nameIndex := 139, descriptorIndex := 342, attributes := #[] }, { accessFlags := 10, nameIndex := 341, descriptorIndex := 342, attributes := #[] }] 49 2 #[] #[{ accessFlags := 26, nameIndex := 715, descriptorIndex := 716, attributes := #[] }, { accessFlags := 26, nameIndex := 719, descriptorIndex := 716, attributes := #[] }, { accessFlags := 4120, nameIndex := 445, descriptorIndex := 117, attributes := #[] }])
  fields := #[{ name := "MIN_ARRAY_SORT_GRAN", type := .int, accessFlags := 26, slot := 0, constantValue := 0 }, { name := "INSERTIONSORT_THRESHOLD", type := .int, accessFlags := 26, slot := 1, constantValue := 0 }, { name := "$assertionsDisabled", type := .boolean, accessFlags := 4120, slot := 2, constantValue := 0 }]
  methods := #[k17m0, k17m1, k17m2, k17m3]
  instanceTypes := #[]
  staticTypes := #[.int, .int, .boolean]
  resolved := Array.replicate 1029 none
  statics := none }

def pool18 : Array CpInfo := pool [(1, .class_ 2), (0, u "java/lang/Math"), (1, .class_ 6), (1, u "java/lang/Object"), (0, u "<init>"), (0, u "()V"), (89, .class_ 100), (1, u "java/lang/Math$RandomNumberGeneratorHolder"), (71, u "negativeZeroFloatBits"), (0, u "J"), (2, u "negativeZeroDoubleBits"), (24, u "min"), (43, u "$assertionsDisabled"), (0, u "Z"), (88, u "(II)I"), (2, u "twoToTheDoubleScaleDown"), (0, u "D"), (4, u "twoToTheDoubleScaleUp"), (9, u "E"), (3, u "PI"), (2, u "TAU"), (2, u "DEGREES_TO_RADIANS"), (0, u "RADIANS_TO_DEGREES")] 94

def k18m0 : Method := { name := "<init>", desc := "()V", sig := { parameters := [], returnType := none }, accessFlags := 2, code := none }
def k18c1 : Code := { maxStack := 2, maxLocals := 2, code := jdk_29_method_69_code, exceptionTable := #[], attributes := #[] }
def k18m1 : Method := { name := "min", desc := "(II)I", sig := { parameters := [.int, .int], returnType := some .int }, accessFlags := 9, code := some k18c1 }
/-- java/lang/Math -/
def k18 : Class := { plain "java/lang/Math" (some 0) with
  accessFlags := 49
  interfaces := #[]
  cf := some (fileOf pool18 1 #[.nestMembers #[98]] #[{ accessFlags := 2, nameIndex := 7, descriptorIndex := 8, attributes := #[] }, { accessFlags := 9, nameIndex := 201, descriptorIndex := 335, attributes := #[] }] 49 4 #[] #[{ accessFlags := 25, nameIndex := 354, descriptorIndex := 339, attributes := #[] }, { accessFlags := 25, nameIndex := 358, descriptorIndex := 339, attributes := #[] }, { accessFlags := 25, nameIndex := 361, descriptorIndex := 339, attributes := #[] }, { accessFlags := 26, nameIndex := 364, descriptorIndex := 339, attributes := #[] }, { accessFlags := 26, nameIndex := 365, descriptorIndex := 339, attributes := #[] }, { accessFlags := 26, nameIndex := 172, descriptorIndex := 173, attributes := #[] }, { accessFlags := 26, nameIndex := 176, descriptorIndex := 173, attributes := #[] }, { accessFlags := 8, nameIndex := 344, descriptorIndex := 339, attributes := #[] }, { accessFlags := 8, nameIndex := 338, descriptorIndex := 339, attributes := #[] }, { accessFlags := 4120, nameIndex := 245, descriptorIndex := 246, attributes := #[] }])
  fields := #[{ name := "E", type := .double, accessFlags := 25, slot := 0, constantValue := 0 }, { name := "PI", type := .double, accessFlags := 25, slot := 1, constantValue := 0 }, { name := "TAU", type := .double, accessFlags := 25, slot := 2, constantValue := 0 }, { name := "DEGREES_TO_RADIANS", type := .double, accessFlags := 26, slot := 3, constantValue := 0 }, { name := "RADIANS_TO_DEGREES", type := .double, accessFlags := 26, slot := 4, constantValue := 0 }, { name := "negativeZeroFloatBits", type := .long, accessFlags := 26, slot := 5, constantValue := 0 }, { name := "negativeZeroDoubleBits", type := .long, accessFlags := 26, slot := 6, constantValue := 0 }, { name := "twoToTheDoubleScaleUp", type := .double, accessFlags := 8, slot := 7, constantValue := 0 }, { name := "twoToTheDoubleScaleDown", type := .double, accessFlags := 8, slot := 8, constantValue := 0 }, { name := "$assertionsDisabled", type := .boolean, accessFlags := 4120, slot := 9, constantValue := 0 }]
  methods := #[k18m0, k18m1]
  instanceTypes := #[]
  staticTypes := #[.double, .double, .double, .double, .double, .long, .long, .double, .double, .boolean]
  resolved := Array.replicate 460 none
  statics := none }

def pool19 : Array CpInfo := pool [(2, .class_ 4), (1, u "java/lang/Object"), (0, u "<init>"), (0, u "()V"), (17, .class_ 26), (1, u "jdk/internal/util/Preconditions"), (6, u "checkIndex"), (21, .class_ 56), (0, u "jdk/internal/util/Preconditions$4"), (57, .class_ 115), (0, u "jdk/internal/util/Preconditions$1"), (7, u "SIOOBE_FORMATTER"), (0, u "Ljava/util/function/BiFunction;"), (0, .class_ 126), (0, u "jdk/internal/util/Preconditions$2"), (3, u "AIOOBE_FORMATTER"), (0, .class_ 132), (0, u "jdk/internal/util/Preconditions$3"), (3, u "IOOBE_FORMATTER"), (41, u "(IILjava/util/function/BiFunction;)I")] 15

def k19m0 : Method := { name := "<init>", desc := "()V", sig := { parameters := [], returnType := none }, accessFlags := 1, code := none }
def k19c1 : Code := { maxStack := 3, maxLocals := 3, code := jdk_41_method_11_code, exceptionTable := #[], attributes := #[] }
def k19m1 : Method := { name := "checkIndex", desc := "(IILjava/util/function/BiFunction;)I", sig := { parameters := [.int, .int, (.object "java/util/function/BiFunction")], returnType := some .int }, accessFlags := 9, code := some k19c1 }
/-- jdk/internal/util/Preconditions -/
def k19 : Class := { plain "jdk/internal/util/Preconditions" (some 0) with
  accessFlags := 33
  interfaces := #[]
  cf := some (fileOf pool19 24 #[.nestMembers #[55, 131, 125, 114]] #[{ accessFlags := 1, nameIndex := 5, descriptorIndex := 6, attributes := #[] }, { accessFlags := 9, nameIndex := 33, descriptorIndex := 178, attributes := #[] }] 33 2 #[] #[{ accessFlags := 25, nameIndex := 123, descriptorIndex := 124, attributes := #[] }, { accessFlags := 25, nameIndex := 130, descriptorIndex := 124, attributes := #[] }, { accessFlags := 25, nameIndex := 136, descriptorIndex := 124, attributes := #[] }])
  fields := #[{ name := "SIOOBE_FORMATTER", type := (.object "java/util/function/BiFunction"), accessFlags := 25, slot := 0, constantValue := 0 }, { name := "AIOOBE_FORMATTER", type := (.object "java/util/function/BiFunction"), accessFlags := 25, slot := 1, constantValue := 0 }, { name := "IOOBE_FORMATTER", type := (.object "java/util/function/BiFunction"), accessFlags := 25, slot := 2, constantValue := 0 }]
  methods := #[k19m0, k19m1]
  instanceTypes := #[]
  staticTypes := #[(.object "java/util/function/BiFunction"), (.object "java/util/function/BiFunction"), (.object "java/util/function/BiFunction")]
  resolved := Array.replicate 194 none
  statics := some 2 }

def pool20 : Array CpInfo := pool [(2, .class_ 4), (1, u "java/lang/Object"), (0, u "<init>"), (0, u "()V"), (1, .class_ 10), (1, u "java/lang/CharacterData")] 75

def k20m0 : Method := { name := "<init>", desc := "()V", sig := { parameters := [], returnType := none }, accessFlags := 0, code := none }
/-- java/lang/CharacterData -/
def k20 : Class := { plain "java/lang/CharacterData" (some 0) with
  accessFlags := 1056
  interfaces := #[]
  cf := some (fileOf pool20 8 #[] #[{ accessFlags := 0, nameIndex := 5, descriptorIndex := 6, attributes := #[] }] 1056 2 #[] #[])
  fields := #[]
  methods := #[k20m0]
  instanceTypes := #[]
  staticTypes := #[]
  resolved := Array.replicate 86 none
  statics := none }

def pool21 : Array CpInfo := pool [(2, .class_ 4), (1, u "java/lang/CharacterDataLatin1"), (0, u "A"), (0, u "[I"), (2, u "B"), (0, u "[C"), (3, u "(I)I"), (12, u "DIGITS"), (0, u "[B"), (8, u "sharpsMap"), (1, .class_ 41), (1, u "java/lang/CharacterData"), (0, u "<init>"), (0, u "()V"), (3, u "instance"), (0, u "Ljava/lang/CharacterDataLatin1;"), (63, u "toLowerCase")] 28

def k21c0 : Code := { maxStack := 2, maxLocals := 3, code := jdk_116_method_20_code, exceptionTable := #[], attributes := #[] }
def k21m0 : Method := { name := "toLowerCase", desc := "(I)I", sig := { parameters := [.int], returnType := some .int }, accessFlags := 0, code := some k21c0 }
def k21m1 : Method := { name := "<init>", desc := "()V", sig := { parameters := [], returnType := none }, accessFlags := 2, code := none }
/-- java/lang/CharacterDataLatin1 -/
def k21 : Class := { plain "java/lang/CharacterDataLatin1" (some 20) with
  accessFlags := 32
  interfaces := #[]
  cf := some (fileOf pool21 2 #[] #[{ accessFlags := 0, nameIndex := 112, descriptorIndex := 14, attributes := #[] }, { accessFlags := 2, nameIndex := 42, descriptorIndex := 43, attributes := #[] }] 32 39 #[] #[{ accessFlags := 26, nameIndex := 27, descriptorIndex := 28, attributes := #[] }, { accessFlags := 8, nameIndex := 37, descriptorIndex := 10, attributes := #[] }, { accessFlags := 24, nameIndex := 47, descriptorIndex := 48, attributes := #[] }, { accessFlags := 24, nameIndex := 5, descriptorIndex := 6, attributes := #[] }, { accessFlags := 24, nameIndex := 9, descriptorIndex := 10, attributes := #[] }])
  fields := #[{ name := "DIGITS", type := (.array .byte), accessFlags := 26, slot := 0, constantValue := 0 }, { name := "sharpsMap", type := (.array .char), accessFlags := 8, slot := 1, constantValue := 0 }, { name := "instance", type := (.object "java/lang/CharacterDataLatin1"), accessFlags := 24, slot := 2, constantValue := 0 }, { name := "A", type := (.array .int), accessFlags := 24, slot := 3, constantValue := 0 }, { name := "B", type := (.array .char), accessFlags := 24, slot := 4, constantValue := 0 }]
  methods := #[k21m0, k21m1]
  instanceTypes := #[]
  staticTypes := #[(.array .byte), (.array .char), (.object "java/lang/CharacterDataLatin1"), (.array .int), (.array .char)]
  resolved := Array.replicate 141 none
  statics := some 3 }

def pool22 : Array CpInfo := pool [(2, .class_ 4), (1, u "java/lang/Object"), (13, u "()Ljava/lang/String;"), (0, .fieldref 20 21), (0, .class_ 22), (0, .nameAndType 23 24), (0, u "sun/util/locale/BaseLocale"), (0, u "language"), (0, u "Ljava/lang/String;"), (5, u "script"), (5, u "region"), (2, u "variant"), (11, u "constantBaseLocales"), (0, u "[Lsun/util/locale/BaseLocale;"), (2, u "getLanguage"), (10, .class_ 67), (0, u "sun/util/locale/BaseLocale$Key"), (2, .class_ 72), (1, u "sun/util/locale/BaseLocale$Cache"), (24, u "OLD_ISO_CODES"), (0, u "Z"), (32, u "hash"), (0, u "I"), (41, u "US"), (15, u "ENGLISH"), (0, u "B"), (2, u "FRENCH"), (1, u "GERMAN"), (1, u "ITALIAN"), (1, u "JAPANESE"), (1, u "KOREAN"), (1, u "CHINESE"), (1, u "SIMPLIFIED_CHINESE"), (1, u "TRADITIONAL_CHINESE"), (1, u "FRANCE"), (1, u "GERMANY"), (1, u "ITALY"), (1, u "JAPAN"), (1, u "KOREA"), (1, u "UK"), (2, u "CANADA"), (1, u "CANADA_FRENCH"), (1, u "ROOT"), (1, u "NUM_CONSTANTS"), (1, u "SEP")] 31

def k22c0 : Code := { maxStack := 1, maxLocals := 1, code := jdk_3003_method_5_code, exceptionTable := #[], attributes := #[] }
def k22m0 : Method := { name := "getLanguage", desc := "()Ljava/lang/String;", sig := { parameters := [], returnType := some (.object "java/lang/String") }, accessFlags := 1, code := some k22c0 }
/-- sun/util/locale/BaseLocale -/
def k22 : Class := { plain "sun/util/locale/BaseLocale" (some 0) with
  accessFlags := 49
  interfaces := #[]
  cf := some (fileOf pool22 20 #[.nestMembers #[70, 66]] #[{ accessFlags := 1, nameIndex := 55, descriptorIndex := 18, attributes := #[] }] 49 2 #[] #[{ accessFlags := 9, nameIndex := 51, descriptorIndex := 52, attributes := #[] }, { accessFlags := 25, nameIndex := 190, descriptorIndex := 191, attributes := #[] }, { accessFlags := 25, nameIndex := 194, descriptorIndex := 191, attributes := #[] }, { accessFlags := 25, nameIndex := 196, descriptorIndex := 191, attributes := #[] }, { accessFlags := 25, nameIndex := 198, descriptorIndex := 191, attributes := #[] }, { accessFlags := 25, nameIndex := 200, descriptorIndex := 191, attributes := #[] }, { accessFlags := 25, nameIndex := 202, descriptorIndex := 191, attributes := #[] }, { accessFlags := 25, nameIndex := 204, descriptorIndex := 191, attributes := #[] }, { accessFlags := 25, nameIndex := 206, descriptorIndex := 191, attributes := #[] }, { accessFlags := 25, nameIndex := 208, descriptorIndex := 191, attributes := #[] }, { accessFlags := 25, nameIndex := 210, descriptorIndex := 191, attributes := #[] }, { accessFlags := 25, nameIndex := 212, descriptorIndex := 191, attributes := #[] }, { accessFlags := 25, nameIndex := 214, descriptorIndex := 191, attributes := #[] }, { accessFlags := 25, nameIndex := 216, descriptorIndex := 191, attributes := #[] }, { accessFlags := 25, nameIndex := 218, descriptorIndex := 191, attributes := #[] }, { accessFlags := 25, nameIndex := 220, descriptorIndex := 191, attributes := #[] }, { accessFlags := 25, nameIndex := 174, descriptorIndex := 191, attributes := #[] }, { accessFlags := 25, nameIndex := 223, descriptorIndex := 191, attributes := #[] }, { accessFlags := 25, nameIndex := 225, descriptorIndex := 191, attributes := #[] }, { accessFlags := 25, nameIndex := 227, descriptorIndex := 191, attributes := #[] }, { accessFlags := 25, nameIndex := 229, descriptorIndex := 191, attributes := #[] }, { accessFlags := 25, nameIndex := 231, descriptorIndex := 24, attributes := #[] }, { accessFlags := 18, nameIndex := 23, descriptorIndex := 24, attributes := #[] }, { accessFlags := 18, nameIndex := 30, descriptorIndex := 24, attributes := #[] }, { accessFlags := 18, nameIndex := 36, descriptorIndex := 24, attributes := #[] }, { accessFlags := 18, nameIndex := 39, descriptorIndex := 24, attributes := #[] }, { accessFlags := 2, nameIndex := 131, descriptorIndex := 132, attributes := #[] }, { accessFlags := 26, nameIndex := 97, descriptorIndex := 98, attributes := #[] }])
  fields := #[{ name := "constantBaseLocales", type := (.array (.object "sun/util/locale/BaseLocale")), accessFlags := 9, slot := 0, constantValue := 0 }, { name := "ENGLISH", type := .byte, accessFlags := 25, slot := 1, constantValue := 0 }, { name := "FRENCH", type := .byte, accessFlags := 25, slot := 2, constantValue := 0 }, { name := "GERMAN", type := .byte, accessFlags := 25, slot := 3, constantValue := 0 }, { name := "ITALIAN", type := .byte, accessFlags := 25, slot := 4, constantValue := 0 }, { name := "JAPANESE", type := .byte, accessFlags := 25, slot := 5, constantValue := 0 }, { name := "KOREAN", type := .byte, accessFlags := 25, slot := 6, constantValue := 0 }, { name := "CHINESE", type := .byte, accessFlags := 25, slot := 7, constantValue := 0 }, { name := "SIMPLIFIED_CHINESE", type := .byte, accessFlags := 25, slot := 8, constantValue := 0 }, { name := "TRADITIONAL_CHINESE", type := .byte, accessFlags := 25, slot := 9, constantValue := 0 }, { name := "FRANCE", type := .byte, accessFlags := 25, slot := 10, constantValue := 0 }, { name := "GERMANY", type := .byte, accessFlags := 25, slot := 11, constantValue := 0 }, { name := "ITALY", type := .byte, accessFlags := 25, slot := 12, constantValue := 0 }, { name := "JAPAN", type := .byte, accessFlags := 25, slot := 13, constantValue := 0 }, { name := "KOREA", type := .byte, accessFlags := 25, slot := 14, constantValue := 0 }, { name := "UK", type := .byte, accessFlags := 25, slot := 15, constantValue := 0 }, { name := "US", type := .byte, accessFlags := 25, slot := 16, constantValue := 0 }, { name := "CANADA", type := .byte, accessFlags := 25, slot := 17, constantValue := 0 }, { name := "CANADA_FRENCH", type := .byte, accessFlags := 25, slot := 18, constantValue := 0 }, { name := "ROOT", type := .byte, accessFlags := 25, slot := 19, constantValue := 0 }, { name := "NUM_CONSTANTS", type := .byte, accessFlags := 25, slot := 20, constantValue := 0 }, { name := "SEP", type := (.object "java/lang/String"), accessFlags := 25, slot := 21, constantValue := 0 }, { name := "language", type := (.object "java/lang/String"), accessFlags := 18, slot := 0, constantValue := 0 }, { name := "script", type := (.object "java/lang/String"), accessFlags := 18, slot := 1, constantValue := 0 }, { name := "region", type := (.object "java/lang/String"), accessFlags := 18, slot := 2, constantValue := 0 }, { name := "variant", type := (.object "java/lang/String"), accessFlags := 18, slot := 3, constantValue := 0 }, { name := "hash", type := .int, accessFlags := 2, slot := 4, constantValue := 0 }, { name := "OLD_ISO_CODES", type := .boolean, accessFlags := 26, slot := 22, constantValue := 0 }]
  methods := #[k22m0]
  instanceTypes := #[(.object "java/lang/String"), (.object "java/lang/String"), (.object "java/lang/String"), (.object "java/lang/String"), .int]
  staticTypes := #[(.array (.object "sun/util/locale/BaseLocale")), .byte, .byte, .byte, .byte, .byte, .byte, .byte, .byte, .byte, .byte, .byte, .byte, .byte, .byte, .byte, .byte, .byte, .byte, .byte, .byte, (.object "java/lang/String"), .boolean]
  resolved := Array.replicate 263 none
  statics := none }

def pool23 : Array CpInfo := pool [(9, u "<init>"), (6, .class_ 18), (1, u "java/lang/Object"), (0, u "()V"), (1, .class_ 23), (1, u "jdk/internal/util/ArraysSupport"), (0, u "LOG2_ARRAY_LONG_INDEX_SCALE"), (0, u "I"), (2, u "U"), (0, u "Ljdk/internal/misc/Unsafe;"), (8, u "BIG_ENDIAN"), (0, u "Z"), (8, u "LOG2_BYTE_BIT_SIZE"), (4, u "LOG2_ARRAY_INT_INDEX_SCALE"), (54, u "JLA"), (0, u "Ljdk/internal/access/JavaLangAccess;"), (11, u "LOG2_ARRAY_BOOLEAN_INDEX_SCALE"), (9, u "LOG2_ARRAY_BYTE_INDEX_SCALE"), (5, u "LOG2_ARRAY_CHAR_INDEX_SCALE"), (5, u "LOG2_ARRAY_SHORT_INDEX_SCALE"), (18, u "LOG2_ARRAY_FLOAT_INDEX_SCALE"), (24, u "LOG2_ARRAY_DOUBLE_INDEX_SCALE"), (89, u "T_BOOLEAN"), (2, u "T_CHAR"), (1, u "T_FLOAT"), (1, u "T_DOUBLE"), (1, u "T_BYTE"), (1, u "T_SHORT"), (1, u "T_INT"), (1, u "T_LONG"), (1, u "SOFT_MAX_ARRAY_LENGTH")] 83

def k23m0 : Method := { name := "<init>", desc := "()V", sig := { parameters := [], returnType := none }, accessFlags := 2, code := none }
/-- jdk/internal/util/ArraysSupport -/
def k23 : Class := { plain "jdk/internal/util/ArraysSupport" (some 0) with
  accessFlags := 33
  interfaces := #[]
  cf := some (fileOf pool23 21 #[] #[{ accessFlags := 2, nameIndex := 9, descriptorIndex := 19, attributes := #[] }] 33 16 #[] #[{ accessFlags := 24, nameIndex := 28, descriptorIndex := 29, attributes := #[] }, { accessFlags := 26, nameIndex := 38, descriptorIndex := 39, attributes := #[] }, { accessFlags := 25, nameIndex := 121, descriptorIndex := 25, attributes := #[] }, { accessFlags := 25, nameIndex := 131, descriptorIndex := 25, attributes := #[] }, { accessFlags := 25, nameIndex := 137, descriptorIndex := 25, attributes := #[] }, { accessFlags := 25, nameIndex := 143, descriptorIndex := 25, attributes := #[] }, { accessFlags := 25, nameIndex := 53, descriptorIndex := 25, attributes := #[] }, { accessFlags := 25, nameIndex := 24, descriptorIndex := 25, attributes := #[] }, { accessFlags := 25, nameIndex := 162, descriptorIndex := 25, attributes := #[] }, { accessFlags := 25, nameIndex := 187, descriptorIndex := 25, attributes := #[] }, { accessFlags := 26, nameIndex := 48, descriptorIndex := 25, attributes := #[] }, { accessFlags := 25, nameIndex := 277, descriptorIndex := 25, attributes := #[] }, { accessFlags := 25, nameIndex := 280, descriptorIndex := 25, attributes := #[] }, { accessFlags := 25, nameIndex := 282, descriptorIndex := 25, attributes := #[] }, { accessFlags := 25, nameIndex := 284, descriptorIndex := 25, attributes := #[] }, { accessFlags := 25, nameIndex := 286, descriptorIndex := 25, attributes := #[] }, { accessFlags := 25, nameIndex := 288, descriptorIndex := 25, attributes := #[] }, { accessFlags := 25, nameIndex := 290, descriptorIndex := 25, attributes := #[] }, { accessFlags := 25, nameIndex := 292, descriptorIndex := 25, attributes := #[] }, { accessFlags := 26, nameIndex := 108, descriptorIndex := 109, attributes := #[] }, { accessFlags := 25, nameIndex := 294, descriptorIndex := 25, attributes := #[] }])
  fields := #[{ name := "U", type := (.object "jdk/internal/misc/Unsafe"), accessFlags := 24, slot := 0, constantValue := 0 }, { name := "BIG_ENDIAN", type := .boolean, accessFlags := 26, slot := 1, constantValue := 0 }, { name := "LOG2_ARRAY_BOOLEAN_INDEX_SCALE", type := .int, accessFlags := 25, slot := 2, constantValue := 0 }, { name := "LOG2_ARRAY_BYTE_INDEX_SCALE", type := .int, accessFlags := 25, slot := 3, constantValue := 0 }, { name := "LOG2_ARRAY_CHAR_INDEX_SCALE", type := .int, accessFlags := 25, slot := 4, constantValue := 0 }, { name := "LOG2_ARRAY_SHORT_INDEX_SCALE", type := .int, accessFlags := 25, slot := 5, constantValue := 0 }, { name := "LOG2_ARRAY_INT_INDEX_SCALE", type := .int, accessFlags := 25, slot := 6, constantValue := 0 }, { name := "LOG2_ARRAY_LONG_INDEX_SCALE", type := .int, accessFlags := 25, slot := 7, constantValue := 0 }, { name := "LOG2_ARRAY_FLOAT_INDEX_SCALE", type := .int, accessFlags := 25, slot := 8, constantValue := 0 }, { name := "LOG2_ARRAY_DOUBLE_INDEX_SCALE", type := .int, accessFlags := 25, slot := 9, constantValue := 0 }, { name := "LOG2_BYTE_BIT_SIZE", type := .int, accessFlags := 26, slot := 10, constantValue := 0 }, { name := "T_BOOLEAN", type := .int, accessFlags := 25, slot := 11, constantValue := 0 }, { name := "T_CHAR", type := .int, accessFlags := 25, slot := 12, constantValue := 0 }, { name := "T_FLOAT", type := .int, accessFlags := 25, slot := 13, constantValue := 0 }, { name := "T_DOUBLE", type := .int, accessFlags := 25, slot := 14, constantValue := 0 }, { name := "T_BYTE", type := .int, accessFlags := 25, slot := 15, constantValue := 0 }, { name := "T_SHORT", type := .int, accessFlags := 25, slot := 16, constantValue := 0 }, { name := "T_INT", type := .int, accessFlags := 25, slot := 17, constantValue := 0 }, { name := "T_LONG", type := .int, accessFlags := 25, slot := 18, constantValue := 0 }, { name := "JLA", type := (.object "jdk/internal/access/JavaLangAccess"), accessFlags := 26, slot := 19, constantValue := 0 }, { name := "SOFT_MAX_ARRAY_LENGTH", type := .int, accessFlags := 25, slot := 20, constantValue := 0 }]
  methods := #[k23m0]
  instanceTypes := #[]
  staticTypes := #[(.object "jdk/internal/misc/Unsafe"), .boolean, .int, .int, .int, .int, .int, .int, .int, .int, .int, .int, .int, .int, .int, .int, .int, .int, .int, (.object "jdk/internal/access/JavaLangAccess"), .int]
  resolved := Array.replicate 378 none
  statics := none }

/-- the primitive byte -/
def k24 : Class := { plain "byte" none with kind := .primitive 'B', accessFlags := 0x411 }
/-- [B -/
def k25 : Class := { plain "[B" (some 0) with kind := .array 24 .byte, interfaces := #[14, 2], accessFlags := 1041 }

/-- the primitive char -/
def k26 : Class := { plain "char" none with kind := .primitive 'C', accessFlags := 0x411 }
/-- [C -/
def k27 : Class := { plain "[C" (some 0) with kind := .array 26 .char, interfaces := #[14, 2], accessFlags := 1041 }

/-- the primitive int -/
def k28 : Class := { plain "int" none with kind := .primitive 'I', accessFlags := 0x411 }
/-- [I -/
def k29 : Class := { plain "[I" (some 0) with kind := .array 28 .int, interfaces := #[14, 2], accessFlags := 1041 }

def heap : Heap := #[{ cls := 7, slots := #[.long 0, .int 1, .null, .int 0, .null, .int 0, .int 0], vm := .statics 7 },
  { cls := 15, slots := #[.null, .null, .null, .null, .null, .null, .null, .null, .null, .null, .null, .null, .null, .null, .null, .null, .null, .null, .ref 7, .null, .null, .null, .null, .int 0, .int 0, .long 0, .int 0, .int 0, .int 0, .int 0, .int 0, .int 0, .null, .null, .null, .null, .null, .null, .int 0], vm := .statics 15 },
  { cls := 19, slots := #[.null, .null, .null], vm := .statics 19 },
  { cls := 21, slots := #[.null, .null, .ref 8, .null, .null], vm := .statics 21 },
  { cls := 25, slots := #[], vm := .none },
  { cls := 7, slots := #[.ref 4, .int 0, .int 0, .int 0], vm := .none },
  { cls := 22, slots := #[.ref 5, .null, .null, .null, .int 0], vm := .none },
  { cls := 15, slots := #[.ref 6, .null, .int 0, .null], vm := .none },
  { cls := 21, slots := #[], vm := .none }]
def classes : Array Class := #[k0, k1, k2, k3, k4, k5, k6, k7, k8, k9, k10, k11, k12, k13, k14, k15, k16, k17, k18, k19, k20, k21, k22, k23, k24, k25, k26, k27, k28, k29]
def interned : List (Array UInt16 × Addr) := []
def slotsUsed : Nat := 67
def theMethod : MethodId := ⟨1, 3⟩
def args0 : Array Value := #[.int 16961, .int 33572417]
def aboutOver (below : List Frame) : State where
  vm := { classes := classes, interned := interned.toArray }
  heap := heap
  slotsUsed := slotsUsed
  threads := #[{ frames := .invoking theMethod args0 :: below }]
def below0 : List Frame := [.native { method := ⟨0, 0⟩, args := #[] }]
def about1 : State := aboutOver below0
def p0 : Program := .bare "" "" ""
def e0 : Env := launch0.env 0 0 0
theorem w_frames : about1.frames = Frame.invoking theMethod args0 :: below0 := rfl
set_option maxRecDepth 65536 in
theorem w_args : argsFit about1.vm theMethod args0 = true := by decide +kernel
set_option maxRecDepth 65536 in
theorem w_heap : heapFits about1 = true := by decide +kernel
set_option maxRecDepth 65536 in
theorem w_runnable : about1.curStatus? = some .runnable := by decide +kernel
set_option maxRecDepth 65536 in
theorem w_alone : about1.alone = true := by decide +kernel
set_option maxRecDepth 65536 in
theorem w_named : about1.methodNamed? x = some theMethod := by decide +kernel
set_option maxRecDepth 65536 in
theorem w_hears : about1.hears theMethod below0 = true := by decide +kernel
set_option maxRecDepth 65536 in
theorem w_ripe : about1.ripe theMethod args0 below0 = true := by decide +kernel
theorem w_running : about1.status = .running := rfl
set_option maxRecDepth 65536 in
theorem w_room : about1.hasRoom e0.platform room_1 = true :=
  launch0.hasRoom_least _ room_1 (by decide +kernel) (by decide +kernel) (by decide +kernel) (by decide +kernel) (by decide +kernel) (by decide +kernel)
theorem allAtoms_all (ts : List Jvm.Cond) (a : Array Jvm.Value) (st : Jvm.State) : (allAtoms ts).before a st = ts.all (fun c => c.before a st) := by
  induction ts with
  | nil => rfl
  | cons c t ih =>
    show (Jvm.Cond.and c (allAtoms t)).before a st = _
    rw [Jvm.Cond.before_and, ih, List.all_cons]
def words1 : List Jvm.Cond := Jvm.Cond.code x code maxLocals ret :: tables_1
/-- a 'code' word, met by the world's own term for the bytes: nothing is compared byte by byte -/
theorem code_word {y : MethodName} {bytes : ByteArray} {mx : Nat} {rt : Option FieldType} {a : Array Value} {s : State} {m : MethodId} {meth : Method} {c : Code} (h1 : s.methodNamed? y = some m) (h2 : s.vm.method? m = some meth) (h3 : meth.code = some c) (h4 : c.code = bytes)
    (h5 : (c.maxLocals == mx && c.exceptionTable.isEmpty && decide (c.maxStack ≤ mostOperands) && decide (meth.sig.returnType = rt) && !meth.locks && decide (parseMethodDescriptor y.desc = some meth.sig)) = true) : (Jvm.Cond.code y bytes mx rt).before a s = true := by
  simp only [Bool.and_eq_true, beq_iff_eq, Bool.not_eq_true', decide_eq_true_eq] at h5
  obtain ⟨⟨⟨⟨⟨g1, g2⟩, g3⟩, g4⟩, g5⟩, g6⟩ := h5
  simp [Cond.before, Cond.holds, Cond.value, h1, h2, h3, h4, g1, g2, g3, g4, g5, g6]
def isCode : Jvm.Cond → Bool
  | .code _ _ _ _ => true
  | _ => false
theorem all_split {L : List Jvm.Cond} {P : Jvm.Cond → Bool} (h1 : L.all (fun c => isCode c || P c) = true) (h2 : ∀ c ∈ L.filter isCode, P c = true) : L.all P = true := by
  refine List.all_eq_true.mpr fun c hc => ?_
  have h := List.all_eq_true.mp h1 c hc
  rcases Bool.eq_false_or_eq_true (isCode c) with hi | hi
  · exact h2 c (List.mem_filter.mpr ⟨hc, hi⟩)
  · simpa [hi] using h
set_option maxRecDepth 65536 in
theorem w_c0 : (Jvm.Cond.code x code maxLocals ret).before args0 about1 = true := code_word (m := ⟨1, 3⟩) (meth := k1m3) (c := k1c3) (by decide +kernel) rfl rfl rfl (by decide +kernel)
set_option maxRecDepth 65536 in
theorem w_c1 : (Jvm.Cond.code ({ cls := "java/lang/String", name := "<init>", desc := "([C)V" } : Jvm.MethodName) jdk_42_method_3_code (2 : Nat) (Option.none : Option Jvm.ClassFile.FieldType)).before args0 about1 = true := code_word (m := ⟨7, 1⟩) (meth := k7m1) (c := k7c1) (by decide +kernel) rfl rfl rfl (by decide +kernel)
set_option maxRecDepth 65536 in
theorem w_c2 : (Jvm.Cond.code ({ cls := "java/lang/String", name := "<init>", desc := "([CIILjava/lang/Void;)V" } : Jvm.MethodName) jdk_42_method_149_code (6 : Nat) (Option.none : Option Jvm.ClassFile.FieldType)).before args0 about1 = true := code_word (m := ⟨7, 7⟩) (meth := k7m7) (c := k7c7) (by decide +kernel) rfl rfl rfl (by decide +kernel)
set_option maxRecDepth 65536 in
theorem w_c3 : (Jvm.Cond.code ({ cls := "java/lang/Object", name := "<init>", desc := "()V" } : Jvm.MethodName) object_method_1_code (1 : Nat) (Option.none : Option Jvm.ClassFile.FieldType)).before args0 about1 = true := code_word (m := ⟨0, 0⟩) (meth := k0m0) (c := k0c0) (by decide +kernel) rfl rfl rfl (by decide +kernel)
set_option maxRecDepth 65536 in
theorem w_c4 : (Jvm.Cond.code ({ cls := "java/lang/StringUTF16", name := "compress", desc := "([CII)[B" } : Jvm.MethodName) jdk_52_method_16_code (6 : Nat) (Option.some (Jvm.ClassFile.FieldType.array Jvm.ClassFile.FieldType.byte))).before args0 about1 = true := code_word (m := ⟨8, 2⟩) (meth := k8m2) (c := k8c2) (by decide +kernel) rfl rfl rfl (by decide +kernel)
set_option maxRecDepth 65536 in
theorem w_c5 : (Jvm.Cond.code ({ cls := "java/lang/StringUTF16", name := "compress", desc := "([CI[BII)I" } : Jvm.MethodName) jdk_52_method_21_code (7 : Nat) (Option.some Jvm.ClassFile.FieldType.int)).before args0 about1 = true := code_word (m := ⟨8, 3⟩) (meth := k8m3) (c := k8c3) (by decide +kernel) rfl rfl rfl (by decide +kernel)
set_option maxRecDepth 65536 in
theorem w_c6 : (Jvm.Cond.code ({ cls := "java/lang/StringUTF16", name := "coderFromArrayLen", desc := "([BI)B" } : Jvm.MethodName) jdk_52_method_15_code (2 : Nat) (Option.some Jvm.ClassFile.FieldType.byte)).before args0 about1 = true := code_word (m := ⟨8, 1⟩) (meth := k8m1) (c := k8c1) (by decide +kernel) rfl rfl rfl (by decide +kernel)
set_option maxRecDepth 65536 in
theorem w_c7 : (Jvm.Cond.code ({ cls := "com/example/sira/sira/engine/StreamStateKeyPinLaw", name := "str", desc := "(ICCC)Ljava/lang/String;" } : Jvm.MethodName) method_3_code (4 : Nat) (Option.some (Jvm.ClassFile.FieldType.object "java/lang/String"))).before args0 about1 = true := code_word (m := ⟨1, 2⟩) (meth := k1m2) (c := k1c2) (by decide +kernel) rfl rfl rfl (by decide +kernel)
set_option maxRecDepth 65536 in
theorem w_c8 : (Jvm.Cond.code ({ cls := "com/example/sira/sira/engine/StreamState", name := "key", desc := "(Ljava/lang/String;Ljava/lang/String;)Ljava/lang/String;" } : Jvm.MethodName) prog_31_method_2_code (2 : Nat) (Option.some (Jvm.ClassFile.FieldType.object "java/lang/String"))).before args0 about1 = true := code_word (m := ⟨9, 0⟩) (meth := k9m0) (c := k9c0) (by decide +kernel) rfl rfl rfl (by decide +kernel)
set_option maxRecDepth 65536 in
theorem w_c9 : (Jvm.Cond.code ({ cls := "java/lang/StringBuilder", name := "<init>", desc := "()V" } : Jvm.MethodName) jdk_67_method_1_code (1 : Nat) (Option.none : Option Jvm.ClassFile.FieldType)).before args0 about1 = true := code_word (m := ⟨12, 0⟩) (meth := k12m0) (c := k12c0) (by decide +kernel) rfl rfl rfl (by decide +kernel)
set_option maxRecDepth 65536 in
theorem w_c10 : (Jvm.Cond.code ({ cls := "java/lang/AbstractStringBuilder", name := "<init>", desc := "(I)V" } : Jvm.MethodName) jdk_68_method_2_code (2 : Nat) (Option.none : Option Jvm.ClassFile.FieldType)).before args0 about1 = true := code_word (m := ⟨11, 1⟩) (meth := k11m1) (c := k11c1) (by decide +kernel) rfl rfl rfl (by decide +kernel)
set_option maxRecDepth 65536 in
theorem w_c11 : (Jvm.Cond.code ({ cls := "java/lang/StringBuilder", name := "append", desc := "(Ljava/lang/String;)Ljava/lang/StringBuilder;" } : Jvm.MethodName) jdk_67_method_7_code (2 : Nat) (Option.some (Jvm.ClassFile.FieldType.object "java/lang/StringBuilder"))).before args0 about1 = true := code_word (m := ⟨12, 1⟩) (meth := k12m1) (c := k12c1) (by decide +kernel) rfl rfl rfl (by decide +kernel)
set_option maxRecDepth 65536 in
theorem w_c12 : (Jvm.Cond.code ({ cls := "java/lang/AbstractStringBuilder", name := "append", desc := "(Ljava/lang/String;)Ljava/lang/AbstractStringBuilder;" } : Jvm.MethodName) jdk_68_method_22_code (3 : Nat) (Option.some (Jvm.ClassFile.FieldType.object "java/lang/AbstractStringBuilder"))).before args0 about1 = true := code_word (m := ⟨11, 4⟩) (meth := k11m4) (c := k11c4) (by decide +kernel) rfl rfl rfl (by decide +kernel)
set_option maxRecDepth 65536 in
theorem w_c13 : (Jvm.Cond.code ({ cls := "java/lang/String", name := "length", desc := "()I" } : Jvm.MethodName) jdk_42_method_54_code (1 : Nat) (Option.some Jvm.ClassFile.FieldType.int)).before args0 about1 = true := code_word (m := ⟨7, 3⟩) (meth := k7m3) (c := k7c3) (by decide +kernel) rfl rfl rfl (by decide +kernel)
set_option maxRecDepth 65536 in
theorem w_c14 : (Jvm.Cond.code ({ cls := "java/lang/String", name := "coder", desc := "()B" } : Jvm.MethodName) jdk_42_method_152_code (1 : Nat) (Option.some Jvm.ClassFile.FieldType.byte)).before args0 about1 = true := code_word (m := ⟨7, 10⟩) (meth := k7m10) (c := k7c10) (by decide +kernel) rfl rfl rfl (by decide +kernel)
set_option maxRecDepth 65536 in
theorem w_c15 : (Jvm.Cond.code ({ cls := "java/lang/AbstractStringBuilder", name := "ensureCapacityInternal", desc := "(I)V" } : Jvm.MethodName) jdk_68_method_9_code (3 : Nat) (Option.none : Option Jvm.ClassFile.FieldType)).before args0 about1 = true := code_word (m := ⟨11, 3⟩) (meth := k11m3) (c := k11c3) (by decide +kernel) rfl rfl rfl (by decide +kernel)
set_option maxRecDepth 65536 in
theorem w_c16 : (Jvm.Cond.code ({ cls := "java/lang/AbstractStringBuilder", name := "putStringAt", desc := "(ILjava/lang/String;)V" } : Jvm.MethodName) jdk_68_method_73_code (3 : Nat) (Option.none : Option Jvm.ClassFile.FieldType)).before args0 about1 = true := code_word (m := ⟨11, 8⟩) (meth := k11m8) (c := k11c8) (by decide +kernel) rfl rfl rfl (by decide +kernel)
set_option maxRecDepth 65536 in
theorem w_c17 : (Jvm.Cond.code ({ cls := "java/lang/AbstractStringBuilder", name := "inflateIfNeededFor", desc := "(Ljava/lang/String;)V" } : Jvm.MethodName) jdk_68_method_71_code (2 : Nat) (Option.none : Option Jvm.ClassFile.FieldType)).before args0 about1 = true := code_word (m := ⟨11, 7⟩) (meth := k11m7) (c := k11c7) (by decide +kernel) rfl rfl rfl (by decide +kernel)
set_option maxRecDepth 65536 in
theorem w_c18 : (Jvm.Cond.code ({ cls := "java/lang/String", name := "getBytes", desc := "([BIB)V" } : Jvm.MethodName) jdk_42_method_147_code (4 : Nat) (Option.none : Option Jvm.ClassFile.FieldType)).before args0 about1 = true := code_word (m := ⟨7, 6⟩) (meth := k7m6) (c := k7c6) (by decide +kernel) rfl rfl rfl (by decide +kernel)
set_option maxRecDepth 65536 in
theorem w_c19 : (Jvm.Cond.code ({ cls := "java/lang/String", name := "toLowerCase", desc := "(Ljava/util/Locale;)Ljava/lang/String;" } : Jvm.MethodName) jdk_42_method_109_code (2 : Nat) (Option.some (Jvm.ClassFile.FieldType.object "java/lang/String"))).before args0 about1 = true := code_word (m := ⟨7, 5⟩) (meth := k7m5) (c := k7c5) (by decide +kernel) rfl rfl rfl (by decide +kernel)
set_option maxRecDepth 65536 in
theorem w_c20 : (Jvm.Cond.code ({ cls := "java/lang/String", name := "isLatin1", desc := "()Z" } : Jvm.MethodName) jdk_42_method_154_code (1 : Nat) (Option.some Jvm.ClassFile.FieldType.boolean)).before args0 about1 = true := code_word (m := ⟨7, 11⟩) (meth := k7m11) (c := k7c11) (by decide +kernel) rfl rfl rfl (by decide +kernel)
set_option maxRecDepth 65536 in
theorem w_c21 : (Jvm.Cond.code ({ cls := "java/lang/StringLatin1", name := "toLowerCase", desc := "(Ljava/lang/String;[BLjava/util/Locale;)Ljava/lang/String;" } : Jvm.MethodName) jdk_43_method_32_code (9 : Nat) (Option.some (Jvm.ClassFile.FieldType.object "java/lang/String"))).before args0 about1 = true := code_word (m := ⟨16, 3⟩) (meth := k16m3) (c := k16c3) (by decide +kernel) rfl rfl rfl (by decide +kernel)
set_option maxRecDepth 65536 in
theorem w_c22 : (Jvm.Cond.code ({ cls := "java/lang/StringBuilder", name := "toString", desc := "()Ljava/lang/String;" } : Jvm.MethodName) jdk_67_method_42_code (1 : Nat) (Option.some (Jvm.ClassFile.FieldType.object "java/lang/String"))).before args0 about1 = true := code_word (m := ⟨12, 2⟩) (meth := k12m2) (c := k12c2) (by decide +kernel) rfl rfl rfl (by decide +kernel)
set_option maxRecDepth 65536 in
theorem w_c23 : (Jvm.Cond.code ({ cls := "java/lang/String", name := "<init>", desc := "(Ljava/lang/StringBuilder;)V" } : Jvm.MethodName) jdk_42_method_53_code (2 : Nat) (Option.none : Option Jvm.ClassFile.FieldType)).before args0 about1 = true := code_word (m := ⟨7, 2⟩) (meth := k7m2) (c := k7c2) (by decide +kernel) rfl rfl rfl (by decide +kernel)
set_option maxRecDepth 65536 in
theorem w_c24 : (Jvm.Cond.code ({ cls := "java/lang/String", name := "<init>", desc := "(Ljava/lang/AbstractStringBuilder;Ljava/lang/Void;)V" } : Jvm.MethodName) jdk_42_method_150_code (5 : Nat) (Option.none : Option Jvm.ClassFile.FieldType)).before args0 about1 = true := code_word (m := ⟨7, 8⟩) (meth := k7m8) (c := k7c8) (by decide +kernel) rfl rfl rfl (by decide +kernel)
set_option maxRecDepth 65536 in
theorem w_c25 : (Jvm.Cond.code ({ cls := "java/lang/AbstractStringBuilder", name := "getValue", desc := "()[B" } : Jvm.MethodName) jdk_68_method_64_code (1 : Nat) (Option.some (Jvm.ClassFile.FieldType.array Jvm.ClassFile.FieldType.byte))).before args0 about1 = true := code_word (m := ⟨11, 5⟩) (meth := k11m5) (c := k11c5) (by decide +kernel) rfl rfl rfl (by decide +kernel)
set_option maxRecDepth 65536 in
theorem w_c26 : (Jvm.Cond.code ({ cls := "java/lang/StringBuilder", name := "length", desc := "()I" } : Jvm.MethodName) jdk_67_method_93_code (1 : Nat) (Option.some Jvm.ClassFile.FieldType.int)).before args0 about1 = true := code_word (m := ⟨12, 3⟩) (meth := k12m3) (c := k12c3) (by decide +kernel) rfl rfl rfl (by decide +kernel)
set_option maxRecDepth 65536 in
theorem w_c27 : (Jvm.Cond.code ({ cls := "java/lang/AbstractStringBuilder", name := "length", desc := "()I" } : Jvm.MethodName) jdk_68_method_6_code (1 : Nat) (Option.some Jvm.ClassFile.FieldType.int)).before args0 about1 = true := code_word (m := ⟨11, 2⟩) (meth := k11m2) (c := k11c2) (by decide +kernel) rfl rfl rfl (by decide +kernel)
set_option maxRecDepth 65536 in
theorem w_c28 : (Jvm.Cond.code ({ cls := "java/lang/AbstractStringBuilder", name := "isLatin1", desc := "()Z" } : Jvm.MethodName) jdk_68_method_68_code (1 : Nat) (Option.some Jvm.ClassFile.FieldType.boolean)).before args0 about1 = true := code_word (m := ⟨11, 6⟩) (meth := k11m6) (c := k11c6) (by decide +kernel) rfl rfl rfl (by decide +kernel)
set_option maxRecDepth 65536 in
theorem w_c29 : (Jvm.Cond.code ({ cls := "java/util/Arrays", name := "copyOfRange", desc := "([BII)[B" } : Jvm.MethodName) jdk_65_method_132_code (3 : Nat) (Option.some (Jvm.ClassFile.FieldType.array Jvm.ClassFile.FieldType.byte))).before args0 about1 = true := code_word (m := ⟨17, 2⟩) (meth := k17m2) (c := k17c2) (by decide +kernel) rfl rfl rfl (by decide +kernel)
set_option maxRecDepth 65536 in
theorem w_c30 : (Jvm.Cond.code ({ cls := "java/util/Arrays", name := "copyOfRangeByte", desc := "([BII)[B" } : Jvm.MethodName) jdk_65_method_133_code (5 : Nat) (Option.some (Jvm.ClassFile.FieldType.array Jvm.ClassFile.FieldType.byte))).before args0 about1 = true := code_word (m := ⟨17, 3⟩) (meth := k17m3) (c := k17c3) (by decide +kernel) rfl rfl rfl (by decide +kernel)
set_option maxRecDepth 65536 in
theorem w_c31 : (Jvm.Cond.code ({ cls := "java/util/Arrays", name := "checkLength", desc := "(II)V" } : Jvm.MethodName) jdk_65_method_131_code (2 : Nat) (Option.none : Option Jvm.ClassFile.FieldType)).before args0 about1 = true := code_word (m := ⟨17, 1⟩) (meth := k17m1) (c := k17c1) (by decide +kernel) rfl rfl rfl (by decide +kernel)
set_option maxRecDepth 65536 in
theorem w_c32 : (Jvm.Cond.code ({ cls := "java/lang/Math", name := "min", desc := "(II)I" } : Jvm.MethodName) jdk_29_method_69_code (2 : Nat) (Option.some Jvm.ClassFile.FieldType.int)).before args0 about1 = true := code_word (m := ⟨18, 1⟩) (meth := k18m1) (c := k18c1) (by decide +kernel) rfl rfl rfl (by decide +kernel)
set_option maxRecDepth 65536 in
theorem w_c33 : (Jvm.Cond.code ({ cls := "java/lang/String", name := "charAt", desc := "(I)C" } : Jvm.MethodName) jdk_42_method_56_code (2 : Nat) (Option.some Jvm.ClassFile.FieldType.char)).before args0 about1 = true := code_word (m := ⟨7, 4⟩) (meth := k7m4) (c := k7c4) (by decide +kernel) rfl rfl rfl (by decide +kernel)
set_option maxRecDepth 65536 in
theorem w_c34 : (Jvm.Cond.code ({ cls := "java/lang/StringLatin1", name := "charAt", desc := "([BI)C" } : Jvm.MethodName) jdk_43_method_2_code (2 : Nat) (Option.some Jvm.ClassFile.FieldType.char)).before args0 about1 = true := code_word (m := ⟨16, 1⟩) (meth := k16m1) (c := k16c1) (by decide +kernel) rfl rfl rfl (by decide +kernel)
set_option maxRecDepth 65536 in
theorem w_c35 : (Jvm.Cond.code ({ cls := "java/lang/String", name := "checkIndex", desc := "(II)V" } : Jvm.MethodName) jdk_42_method_155_code (2 : Nat) (Option.none : Option Jvm.ClassFile.FieldType)).before args0 about1 = true := code_word (m := ⟨7, 12⟩) (meth := k7m12) (c := k7c12) (by decide +kernel) rfl rfl rfl (by decide +kernel)
set_option maxRecDepth 65536 in
theorem w_c36 : (Jvm.Cond.code ({ cls := "jdk/internal/util/Preconditions", name := "checkIndex", desc := "(IILjava/util/function/BiFunction;)I" } : Jvm.MethodName) jdk_41_method_11_code (3 : Nat) (Option.some Jvm.ClassFile.FieldType.int)).before args0 about1 = true := code_word (m := ⟨19, 1⟩) (meth := k19m1) (c := k19c1) (by decide +kernel) rfl rfl rfl (by decide +kernel)
set_option maxRecDepth 65536 in
theorem w_c37 : (Jvm.Cond.code ({ cls := "java/lang/CharacterDataLatin1", name := "toLowerCase", desc := "(I)I" } : Jvm.MethodName) jdk_116_method_20_code (3 : Nat) (Option.some Jvm.ClassFile.FieldType.int)).before args0 about1 = true := code_word (m := ⟨21, 0⟩) (meth := k21m0) (c := k21c0) (by decide +kernel) rfl rfl rfl (by decide +kernel)
set_option maxRecDepth 65536 in
theorem w_c38 : (Jvm.Cond.code ({ cls := "com/example/sira/sira/engine/StreamStateKeyPinLaw", name := "lower", desc := "(C)C" } : Jvm.MethodName) method_2_code (1 : Nat) (Option.some Jvm.ClassFile.FieldType.char)).before args0 about1 = true := code_word (m := ⟨1, 1⟩) (meth := k1m1) (c := k1c1) (by decide +kernel) rfl rfl rfl (by decide +kernel)
set_option maxRecDepth 65536 in
theorem w_c39 : (Jvm.Cond.code ({ cls := "java/util/Locale", name := "getLanguage", desc := "()Ljava/lang/String;" } : Jvm.MethodName) jdk_2628_method_27_code (1 : Nat) (Option.some (Jvm.ClassFile.FieldType.object "java/lang/String"))).before args0 about1 = true := code_word (m := ⟨15, 0⟩) (meth := k15m0) (c := k15c0) (by decide +kernel) rfl rfl rfl (by decide +kernel)
set_option maxRecDepth 65536 in
theorem w_c40 : (Jvm.Cond.code ({ cls := "sun/util/locale/BaseLocale", name := "getLanguage", desc := "()Ljava/lang/String;" } : Jvm.MethodName) jdk_3003_method_5_code (1 : Nat) (Option.some (Jvm.ClassFile.FieldType.object "java/lang/String"))).before args0 about1 = true := code_word (m := ⟨22, 0⟩) (meth := k22m0) (c := k22c0) (by decide +kernel) rfl rfl rfl (by decide +kernel)
set_option maxRecDepth 65536 in
theorem w_c41 : (Jvm.Cond.code ({ cls := "java/lang/StringLatin1", name := "canEncode", desc := "(I)Z" } : Jvm.MethodName) jdk_43_method_4_code (1 : Nat) (Option.some Jvm.ClassFile.FieldType.boolean)).before args0 about1 = true := code_word (m := ⟨16, 2⟩) (meth := k16m2) (c := k16c2) (by decide +kernel) rfl rfl rfl (by decide +kernel)
set_option maxRecDepth 65536 in
theorem w_c42 : (Jvm.Cond.code ({ cls := "java/lang/String", name := "<init>", desc := "([BB)V" } : Jvm.MethodName) jdk_42_method_151_code (3 : Nat) (Option.none : Option Jvm.ClassFile.FieldType)).before args0 about1 = true := code_word (m := ⟨7, 9⟩) (meth := k7m9) (c := k7c9) (by decide +kernel) rfl rfl rfl (by decide +kernel)
def codes1 : List Jvm.Cond := [Jvm.Cond.code x code maxLocals ret, Jvm.Cond.code ({ cls := "java/lang/String", name := "<init>", desc := "([C)V" } : Jvm.MethodName) jdk_42_method_3_code (2 : Nat) (Option.none : Option Jvm.ClassFile.FieldType), Jvm.Cond.code ({ cls := "java/lang/String", name := "<init>", desc := "([CIILjava/lang/Void;)V" } : Jvm.MethodName) jdk_42_method_149_code (6 : Nat) (Option.none : Option Jvm.ClassFile.FieldType), Jvm.Cond.code ({ cls := "java/lang/Object", name := "<init>", desc := "()V" } : Jvm.MethodName) object_method_1_code (1 : Nat) (Option.none : Option Jvm.ClassFile.FieldType), Jvm.Cond.code ({ cls := "java/lang/StringUTF16", name := "compress", desc := "([CII)[B" } : Jvm.MethodName) jdk_52_method_16_code (6 : Nat) (Option.some (Jvm.ClassFile.FieldType.array Jvm.ClassFile.FieldType.byte)), Jvm.Cond.code ({ cls := "java/lang/StringUTF16", name := "compress", desc := "([CI[BII)I" } : Jvm.MethodName) jdk_52_method_21_code (7 : Nat) (Option.some Jvm.ClassFile.FieldType.int), Jvm.Cond.code ({ cls := "java/lang/StringUTF16", name := "coderFromArrayLen", desc := "([BI)B" } : Jvm.MethodName) jdk_52_method_15_code (2 : Nat) (Option.some Jvm.ClassFile.FieldType.byte), Jvm.Cond.code ({ cls := "com/example/sira/sira/engine/StreamStateKeyPinLaw", name := "str", desc := "(ICCC)Ljava/lang/String;" } : Jvm.MethodName) method_3_code (4 : Nat) (Option.some (Jvm.ClassFile.FieldType.object "java/lang/String")), Jvm.Cond.code ({ cls := "com/example/sira/sira/engine/StreamState", name := "key", desc := "(Ljava/lang/String;Ljava/lang/String;)Ljava/lang/String;" } : Jvm.MethodName) prog_31_method_2_code (2 : Nat) (Option.some (Jvm.ClassFile.FieldType.object "java/lang/String")), Jvm.Cond.code ({ cls := "java/lang/StringBuilder", name := "<init>", desc := "()V" } : Jvm.MethodName) jdk_67_method_1_code (1 : Nat) (Option.none : Option Jvm.ClassFile.FieldType), Jvm.Cond.code ({ cls := "java/lang/AbstractStringBuilder", name := "<init>", desc := "(I)V" } : Jvm.MethodName) jdk_68_method_2_code (2 : Nat) (Option.none : Option Jvm.ClassFile.FieldType), Jvm.Cond.code ({ cls := "java/lang/StringBuilder", name := "append", desc := "(Ljava/lang/String;)Ljava/lang/StringBuilder;" } : Jvm.MethodName) jdk_67_method_7_code (2 : Nat) (Option.some (Jvm.ClassFile.FieldType.object "java/lang/StringBuilder")), Jvm.Cond.code ({ cls := "java/lang/AbstractStringBuilder", name := "append", desc := "(Ljava/lang/String;)Ljava/lang/AbstractStringBuilder;" } : Jvm.MethodName) jdk_68_method_22_code (3 : Nat) (Option.some (Jvm.ClassFile.FieldType.object "java/lang/AbstractStringBuilder")), Jvm.Cond.code ({ cls := "java/lang/String", name := "length", desc := "()I" } : Jvm.MethodName) jdk_42_method_54_code (1 : Nat) (Option.some Jvm.ClassFile.FieldType.int), Jvm.Cond.code ({ cls := "java/lang/String", name := "coder", desc := "()B" } : Jvm.MethodName) jdk_42_method_152_code (1 : Nat) (Option.some Jvm.ClassFile.FieldType.byte), Jvm.Cond.code ({ cls := "java/lang/AbstractStringBuilder", name := "ensureCapacityInternal", desc := "(I)V" } : Jvm.MethodName) jdk_68_method_9_code (3 : Nat) (Option.none : Option Jvm.ClassFile.FieldType), Jvm.Cond.code ({ cls := "java/lang/AbstractStringBuilder", name := "putStringAt", desc := "(ILjava/lang/String;)V" } : Jvm.MethodName) jdk_68_method_73_code (3 : Nat) (Option.none : Option Jvm.ClassFile.FieldType), Jvm.Cond.code ({ cls := "java/lang/AbstractStringBuilder", name := "inflateIfNeededFor", desc := "(Ljava/lang/String;)V" } : Jvm.MethodName) jdk_68_method_71_code (2 : Nat) (Option.none : Option Jvm.ClassFile.FieldType), Jvm.Cond.code ({ cls := "java/lang/String", name := "getBytes", desc := "([BIB)V" } : Jvm.MethodName) jdk_42_method_147_code (4 : Nat) (Option.none : Option Jvm.ClassFile.FieldType), Jvm.Cond.code ({ cls := "java/lang/String", name := "toLowerCase", desc := "(Ljava/util/Locale;)Ljava/lang/String;" } : Jvm.MethodName) jdk_42_method_109_code (2 : Nat) (Option.some (Jvm.ClassFile.FieldType.object "java/lang/String")), Jvm.Cond.code ({ cls := "java/lang/String", name := "isLatin1", desc := "()Z" } : Jvm.MethodName) jdk_42_method_154_code (1 : Nat) (Option.some Jvm.ClassFile.FieldType.boolean), Jvm.Cond.code ({ cls := "java/lang/StringLatin1", name := "toLowerCase", desc := "(Ljava/lang/String;[BLjava/util/Locale;)Ljava/lang/String;" } : Jvm.MethodName) jdk_43_method_32_code (9 : Nat) (Option.some (Jvm.ClassFile.FieldType.object "java/lang/String")), Jvm.Cond.code ({ cls := "java/lang/StringBuilder", name := "toString", desc := "()Ljava/lang/String;" } : Jvm.MethodName) jdk_67_method_42_code (1 : Nat) (Option.some (Jvm.ClassFile.FieldType.object "java/lang/String")), Jvm.Cond.code ({ cls := "java/lang/String", name := "<init>", desc := "(Ljava/lang/StringBuilder;)V" } : Jvm.MethodName) jdk_42_method_53_code (2 : Nat) (Option.none : Option Jvm.ClassFile.FieldType), Jvm.Cond.code ({ cls := "java/lang/String", name := "<init>", desc := "(Ljava/lang/AbstractStringBuilder;Ljava/lang/Void;)V" } : Jvm.MethodName) jdk_42_method_150_code (5 : Nat) (Option.none : Option Jvm.ClassFile.FieldType), Jvm.Cond.code ({ cls := "java/lang/AbstractStringBuilder", name := "getValue", desc := "()[B" } : Jvm.MethodName) jdk_68_method_64_code (1 : Nat) (Option.some (Jvm.ClassFile.FieldType.array Jvm.ClassFile.FieldType.byte)), Jvm.Cond.code ({ cls := "java/lang/StringBuilder", name := "length", desc := "()I" } : Jvm.MethodName) jdk_67_method_93_code (1 : Nat) (Option.some Jvm.ClassFile.FieldType.int), Jvm.Cond.code ({ cls := "java/lang/AbstractStringBuilder", name := "length", desc := "()I" } : Jvm.MethodName) jdk_68_method_6_code (1 : Nat) (Option.some Jvm.ClassFile.FieldType.int), Jvm.Cond.code ({ cls := "java/lang/AbstractStringBuilder", name := "isLatin1", desc := "()Z" } : Jvm.MethodName) jdk_68_method_68_code (1 : Nat) (Option.some Jvm.ClassFile.FieldType.boolean), Jvm.Cond.code ({ cls := "java/util/Arrays", name := "copyOfRange", desc := "([BII)[B" } : Jvm.MethodName) jdk_65_method_132_code (3 : Nat) (Option.some (Jvm.ClassFile.FieldType.array Jvm.ClassFile.FieldType.byte)), Jvm.Cond.code ({ cls := "java/util/Arrays", name := "copyOfRangeByte", desc := "([BII)[B" } : Jvm.MethodName) jdk_65_method_133_code (5 : Nat) (Option.some (Jvm.ClassFile.FieldType.array Jvm.ClassFile.FieldType.byte)), Jvm.Cond.code ({ cls := "java/util/Arrays", name := "checkLength", desc := "(II)V" } : Jvm.MethodName) jdk_65_method_131_code (2 : Nat) (Option.none : Option Jvm.ClassFile.FieldType), Jvm.Cond.code ({ cls := "java/lang/Math", name := "min", desc := "(II)I" } : Jvm.MethodName) jdk_29_method_69_code (2 : Nat) (Option.some Jvm.ClassFile.FieldType.int), Jvm.Cond.code ({ cls := "java/lang/String", name := "charAt", desc := "(I)C" } : Jvm.MethodName) jdk_42_method_56_code (2 : Nat) (Option.some Jvm.ClassFile.FieldType.char), Jvm.Cond.code ({ cls := "java/lang/StringLatin1", name := "charAt", desc := "([BI)C" } : Jvm.MethodName) jdk_43_method_2_code (2 : Nat) (Option.some Jvm.ClassFile.FieldType.char), Jvm.Cond.code ({ cls := "java/lang/String", name := "checkIndex", desc := "(II)V" } : Jvm.MethodName) jdk_42_method_155_code (2 : Nat) (Option.none : Option Jvm.ClassFile.FieldType), Jvm.Cond.code ({ cls := "jdk/internal/util/Preconditions", name := "checkIndex", desc := "(IILjava/util/function/BiFunction;)I" } : Jvm.MethodName) jdk_41_method_11_code (3 : Nat) (Option.some Jvm.ClassFile.FieldType.int), Jvm.Cond.code ({ cls := "java/lang/CharacterDataLatin1", name := "toLowerCase", desc := "(I)I" } : Jvm.MethodName) jdk_116_method_20_code (3 : Nat) (Option.some Jvm.ClassFile.FieldType.int), Jvm.Cond.code ({ cls := "com/example/sira/sira/engine/StreamStateKeyPinLaw", name := "lower", desc := "(C)C" } : Jvm.MethodName) method_2_code (1 : Nat) (Option.some Jvm.ClassFile.FieldType.char), Jvm.Cond.code ({ cls := "java/util/Locale", name := "getLanguage", desc := "()Ljava/lang/String;" } : Jvm.MethodName) jdk_2628_method_27_code (1 : Nat) (Option.some (Jvm.ClassFile.FieldType.object "java/lang/String")), Jvm.Cond.code ({ cls := "sun/util/locale/BaseLocale", name := "getLanguage", desc := "()Ljava/lang/String;" } : Jvm.MethodName) jdk_3003_method_5_code (1 : Nat) (Option.some (Jvm.ClassFile.FieldType.object "java/lang/String")), Jvm.Cond.code ({ cls := "java/lang/StringLatin1", name := "canEncode", desc := "(I)Z" } : Jvm.MethodName) jdk_43_method_4_code (1 : Nat) (Option.some Jvm.ClassFile.FieldType.boolean), Jvm.Cond.code ({ cls := "java/lang/String", name := "<init>", desc := "([BB)V" } : Jvm.MethodName) jdk_42_method_151_code (3 : Nat) (Option.none : Option Jvm.ClassFile.FieldType)]
set_option maxRecDepth 65536 in
theorem codes_eq : words1.filter isCode = codes1 := rfl
theorem w_codes : ∀ c ∈ words1.filter isCode, c.before args0 about1 = true := by
  rw [codes_eq]
  intro c hc
  simp only [codes1, List.mem_cons, List.not_mem_nil, or_false] at hc
  rcases hc with rfl | rfl | rfl | rfl | rfl | rfl | rfl | rfl | rfl | rfl | rfl | rfl | rfl | rfl | rfl | rfl | rfl | rfl | rfl | rfl | rfl | rfl | rfl | rfl | rfl | rfl | rfl | rfl | rfl | rfl | rfl | rfl | rfl | rfl | rfl | rfl | rfl | rfl | rfl | rfl | rfl | rfl | rfl
  · exact w_c0
  · exact w_c1
  · exact w_c2
  · exact w_c3
  · exact w_c4
  · exact w_c5
  · exact w_c6
  · exact w_c7
  · exact w_c8
  · exact w_c9
  · exact w_c10
  · exact w_c11
  · exact w_c12
  · exact w_c13
  · exact w_c14
  · exact w_c15
  · exact w_c16
  · exact w_c17
  · exact w_c18
  · exact w_c19
  · exact w_c20
  · exact w_c21
  · exact w_c22
  · exact w_c23
  · exact w_c24
  · exact w_c25
  · exact w_c26
  · exact w_c27
  · exact w_c28
  · exact w_c29
  · exact w_c30
  · exact w_c31
  · exact w_c32
  · exact w_c33
  · exact w_c34
  · exact w_c35
  · exact w_c36
  · exact w_c37
  · exact w_c38
  · exact w_c39
  · exact w_c40
  · exact w_c41
  · exact w_c42
set_option maxRecDepth 65536 in
theorem w_t1 : (words1.take 24).all (fun c => isCode c || c.before args0 about1) = true := by decide +kernel
set_option maxRecDepth 65536 in
theorem w_t2 : ((words1.drop 24).take 24).all (fun c => isCode c || c.before args0 about1) = true := by decide +kernel
set_option maxRecDepth 65536 in
theorem w_t3 : (((words1.drop 24).drop 24).take 24).all (fun c => isCode c || c.before args0 about1) = true := by decide +kernel
set_option maxRecDepth 65536 in
theorem w_t4 : ((((words1.drop 24).drop 24).drop 24).take 24).all (fun c => isCode c || c.before args0 about1) = true := by decide +kernel
set_option maxRecDepth 65536 in
theorem w_t5 : (((((words1.drop 24).drop 24).drop 24).drop 24).take 24).all (fun c => isCode c || c.before args0 about1) = true := by decide +kernel
set_option maxRecDepth 65536 in
theorem w_t6 : ((((((words1.drop 24).drop 24).drop 24).drop 24).drop 24).take 24).all (fun c => isCode c || c.before args0 about1) = true := by decide +kernel
set_option maxRecDepth 65536 in
theorem w_t7 : (((((((words1.drop 24).drop 24).drop 24).drop 24).drop 24).drop 24).take 24).all (fun c => isCode c || c.before args0 about1) = true := by decide +kernel
set_option maxRecDepth 65536 in
theorem w_t8 : ((((((((words1.drop 24).drop 24).drop 24).drop 24).drop 24).drop 24).drop 24).take 24).all (fun c => isCode c || c.before args0 about1) = true := by decide +kernel
set_option maxRecDepth 65536 in
theorem w_t9 : (((((((((words1.drop 24).drop 24).drop 24).drop 24).drop 24).drop 24).drop 24).drop 24).take 24).all (fun c => isCode c || c.before args0 about1) = true := by decide +kernel
set_option maxRecDepth 65536 in
theorem w_t10 : (((((((((words1.drop 24).drop 24).drop 24).drop 24).drop 24).drop 24).drop 24).drop 24).drop 24).all (fun c => isCode c || c.before args0 about1) = true := by decide +kernel
theorem w_tables : (allAtoms (Jvm.Cond.code x code maxLocals ret :: tables_1)).before args0 about1 = true := by
  rw [allAtoms_all]
  show words1.all (fun c => c.before args0 about1) = true
  refine all_split ?_ w_codes
  rw [← List.take_append_drop 24 words1, List.all_append, w_t1, ← List.take_append_drop 24 (words1.drop 24), List.all_append, w_t2, ← List.take_append_drop 24 ((words1.drop 24).drop 24), List.all_append, w_t3, ← List.take_append_drop 24 (((words1.drop 24).drop 24).drop 24), List.all_append, w_t4, ← List.take_append_drop 24 ((((words1.drop 24).drop 24).drop 24).drop 24), List.all_append, w_t5, ← List.take_append_drop 24 (((((words1.drop 24).drop 24).drop 24).drop 24).drop 24), List.all_append, w_t6, ← List.take_append_drop 24 ((((((words1.drop 24).drop 24).drop 24).drop 24).drop 24).drop 24), List.all_append, w_t7, ← List.take_append_drop 24 (((((((words1.drop 24).drop 24).drop 24).drop 24).drop 24).drop 24).drop 24), List.all_append, w_t8, ← List.take_append_drop 24 ((((((((words1.drop 24).drop 24).drop 24).drop 24).drop 24).drop 24).drop 24).drop 24), List.all_append, w_t9, w_t10]
  rfl
set_option maxRecDepth 65536 in
theorem w_rest : rest_1_c.before args0 about1 = true := by decide +kernel
set_option maxRecDepth 65536 in
theorem w_case : (Jvm.Cond.and given_1 narrow_1).before args0 about1 = true := by decide +kernel
set_option maxRecDepth 65536 in
theorem w_consts : constsHeld consts_1 about1 := Jvm.Lit.constsHeldB_iff.mp (by decide +kernel)
theorem w_applies : (headSpec (Jvm.Cond.code x code maxLocals ret :: tables_1) room_1).applies x e0.platform about1 = true :=
  (Spec.applies_iff w_frames).mpr ⟨w_running, w_runnable, w_alone, w_named, w_hears, w_ripe, w_room, w_tables⟩
theorem atStart : AtStart classFile x code maxLocals ret World_1 tables_1 room_1 Calls_1 rest_1 Pre_1 launch0 p0 e0 about1 theMethod args0 below0 :=
  ⟨lists_1, trivial, launch0.admits_env _ _ _, launch0.least_env, fairChoices_fair.cas, fairChoices_fair.clock, w_frames, w_args, w_heap, w_applies, ⟨w_consts, trivial⟩, w_rest, w_case⟩
end start1
theorem witness_1 : WitnessClaimed_1 := ⟨start1.p0, start1.e0, start1.about1, start1.theMethod, start1.args0, start1.below0, start1.atStart⟩
end Jvm.Pilot.@@N@@
