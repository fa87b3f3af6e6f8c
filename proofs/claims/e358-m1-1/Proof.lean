import JvmDerived
import JvmDerived.Pilot.@@N@@Statement
import JvmDerived.Pilot.@@N@@Code
set_option linter.unusedVariables false
set_option linter.unusedSimpArgs false
namespace Jvm.RoadKit
open Sem ClassFile Op Lib Jvm.Stand Jvm.Free Jvm.LawKit
section Own
variable {p : Program} {l : Launch} {e : Env} {R : Room} {s : State} {m : MethodId} {args : Array Value} {below : List Frame} {meth : Method} {c : Code} {T : State} {locs : List Loc} {cells slots : Nat}
theorem own_retI (X : Stand p l e R s m args below meth c T locs cells slots) (hx : p.tables.exec = Jvm.exec) {pc : Nat} {Ls : Array Slot} {z : Int32} {rest : List Value} (hret : meth.sig.returnType = some .int) (hd : decode c.code pc = .ok (.ireturn, 1)) {fs : List Frame}
    (hl : ∀ (f : JFrame) (acts : List Action), f.method = m → f.locked = none → f.entered = [] → (doReturn e (T.setTop f) acts (some (.int z))).1 = T.setFrames fs) : Steps p.tables e below (T.setTop (mkF m pc Ls (.int z :: rest))) (T.setFrames fs) :=
  retOut X hx hret rfl (Or.inl ⟨rfl, Or.inl rfl, z, rfl⟩) hd hl
theorem own_retA (X : Stand p l e R s m args below meth c T locs cells slots) (hx : p.tables.exec = Jvm.exec) {pc : Nat} {Ls : Array Slot} {w : Value} {t : FieldType} {rest : List Value} (hret : meth.sig.returnType = some t) (hn : narrow t w = w) (ht : t.isReference = true) (hw : w.isRef = true) (hd : decode c.code pc = .ok (.areturn, 1)) {fs : List Frame}
    (hl : ∀ (f : JFrame) (acts : List Action), f.method = m → f.locked = none → f.entered = [] → (doReturn e (T.setTop f) acts (some w)).1 = T.setFrames fs) : Steps p.tables e below (T.setTop (mkF m pc Ls (w :: rest))) (T.setFrames fs) :=
  retOut X hx hret hn (Or.inr (Or.inr (Or.inr (Or.inr ⟨rfl, ht, hw⟩)))) hd hl
theorem own_cat {v : Value} (h : v.isRef = true) : v.category = 1 := by rcases ref_cases h with rfl | ⟨a, rfl⟩ <;> rfl
end Own
end Jvm.RoadKit
namespace Jvm.Pilot.@@N@@
open Jvm Jvm.ClassFile Sem Op Lib Jvm.Free Jvm.Stand Jvm.LawKit Jvm.RoadKit Bundle Jvm.Pilot.@@N@@.Jvm.D
theorem ef_I (m : MethodId) (a : Int32) : entryFrame m #[.int a] 1 = mkF m 0 #[.val (.int a)] [] := by first | (simp [entryFrame, mkF, argsToLocals, Value.category]; done) | rfl
theorem ef_R1 (m : MethodId) (a b : Addr) (k : Int32) : entryFrame m #[.ref a, .ref b, .int k] 3 = mkF m 0 #[.val (.ref a), .val (.ref b), .val (.int k)] [] := by first | (simp [entryFrame, mkF, argsToLocals, Value.category]; done) | rfl
theorem ef_RR (m : MethodId) (a b : Addr) : entryFrame m #[.ref a, .ref b] 2 = mkF m 0 #[.val (.ref a), .val (.ref b)] [] := by first | (simp [entryFrame, mkF, argsToLocals, Value.category]; done) | rfl
theorem ef_RRII (m : MethodId) (a b : Addr) (i j : Int32) : entryFrame m #[.ref a, .ref b, .int i, .int j] 4 = mkF m 0 #[.val (.ref a), .val (.ref b), .val (.int i), .val (.int j)] [] := by first | (simp [entryFrame, mkF, argsToLocals, Value.category]; done) | rfl
theorem ef_RRIIR (m : MethodId) (a b : Addr) (i j : Int32) (c : Addr) : entryFrame m #[.ref a, .ref b, .int i, .int j, .ref c] 5 = mkF m 0 #[.val (.ref a), .val (.ref b), .val (.int i), .val (.int j), .val (.ref c)] [] := by first | (simp [entryFrame, mkF, argsToLocals, Value.category]; done) | rfl
theorem ef_RRIIN (m : MethodId) (a b : Addr) (i j : Int32) : entryFrame m #[.ref a, .ref b, .int i, .int j, .null] 5 = mkF m 0 #[.val (.ref a), .val (.ref b), .val (.int i), .val (.int j), .val .null] [] := by first | (simp [entryFrame, mkF, argsToLocals, Value.category]; done) | rfl
theorem ef_RR3 (m : MethodId) (a b : Addr) : entryFrame m #[.ref a, .ref b] 3 = mkF m 0 #[.val (.ref a), .val (.ref b), .unset] [] := by first | (simp [entryFrame, mkF, argsToLocals, Value.category]; done) | rfl
theorem ef_RN3 (m : MethodId) (a : Addr) : entryFrame m #[.ref a, .null] 3 = mkF m 0 #[.val (.ref a), .val .null, .unset] [] := by first | (simp [entryFrame, mkF, argsToLocals, Value.category]; done) | rfl
theorem ef_L (m : MethodId) (a b c d f g : Int32) : entryFrame m #[.int a, .int b, .int c, .int d, .int f, .int g] maxLocals = mkF m 0 #[.val (.int a), .val (.int b), .val (.int c), .val (.int d), .val (.int f), .val (.int g), .unset, .unset, .unset, .unset, .unset, .unset, .unset, .unset, .unset, .unset, .unset, .unset, .unset, .unset, .unset, .unset] [] := by first | (simp [entryFrame, mkF, argsToLocals, Value.category, maxLocals]; done) | rfl
theorem own_strW {Z : State} {a0 : Array Value} (hw : ∀ d ∈ tables_1, d.before a0 Z = true) : ∀ d ∈ Bundle.stringAtoms, d.before a0 Z = true := by
  intro d hd
  simp only [Bundle.stringAtoms, List.mem_cons, List.not_mem_nil, or_false] at hd
  rcases hd with rfl | rfl | rfl | rfl | rfl | rfl | rfl
  · exact (hw _ (List.mem_of_getElem? (i := 2) rfl))
  · exact (hw _ (List.mem_of_getElem? (i := 10) rfl))
  · exact (hw _ (List.mem_of_getElem? (i := 14) rfl))
  · exact (hw _ (List.mem_of_getElem? (i := 23) rfl))
  · exact (hw _ (List.mem_of_getElem? (i := 25) rfl))
  · exact (hw _ (List.mem_of_getElem? (i := 34) rfl))
  · exact (hw _ (List.mem_of_getElem? (i := 35) rfl))
theorem own_ext {h h' : Heap} (K : Keep h h' []) : Ext h h' := ⟨K.1, fun a c q => K.2.1 a c q (by simp)⟩
theorem own_nin {a b : Addr} (h : a < b) : a ∉ [b] := fun q => Nat.ne_of_lt h (List.mem_singleton.mp q)
theorem pn_java_lang_StringLatin1 : plainName "java/lang/StringLatin1" = true := by first | (simp [plainName, overriddenIn]; done) | decide +kernel
theorem d2_0 : decode jdk_43_method_3_code 0 = .ok (.iload_n 0, 1) := by decide +kernel
theorem d2_1 : decode jdk_43_method_3_code 1 = .ok (.sipush 255, 3) := by decide +kernel
theorem d2_4 : decode jdk_43_method_3_code 4 = .ok (.if_icmp .gt 7, 3) := by decide +kernel
theorem d2_7 : decode jdk_43_method_3_code 7 = .ok (.iconst 1, 1) := by decide +kernel
theorem d2_8 : decode jdk_43_method_3_code 8 = .ok (.goto 4, 3) := by decide +kernel
theorem d2_12 : decode jdk_43_method_3_code 12 = .ok (.ireturn, 1) := by decide +kernel
def Q_rm2 (Z : State) (k : Int32) (h0 : Heap) (n0 : Nat) (v : Option Value) (hp : Heap) (L : List Loc) : Prop := v = some (.int 1) ∧ Fr n0 L ∧ hp = h0
set_option maxRecDepth 65536 in
set_option maxHeartbeats 40000000 in
theorem rm2 (l : Launch) (Z : State) (a0 : Array Value) (hw : ∀ d ∈ tables_1, d.before a0 Z = true) (ws : List Jvm.Cond) (k : Int32) (h0 : Heap) (n0 : Nat) (Z0 : n0 ≤ h0.size) (hk : ¬ (255 : Int32) < k) :
    MetFree l (⟨"java/lang/StringLatin1", "canEncode", "(C)Z"⟩ : MethodName) (head1 (Jvm.Cond.code (⟨"java/lang/StringLatin1", "canEncode", "(C)Z"⟩ : MethodName) jdk_43_method_3_code 1 (some .boolean) :: ws) ({ frames := 0, cells := 0, slots := 0, locals := 0 } : Room)) (fun aa U => aa = #[(.int k)] ∧ Z.Warmed39 U.vm ∧ U.heap = h0) (fun _ _ _ _ _ => True) (fun _ U o U' => ∃ v L, o = .returned v ∧ (Q_rm2 Z k h0 n0 v U'.heap L) ∧ FrameEnd U o U' L ({ frames := 0, cells := 0, slots := 0, locals := 0 } : Room).cells ({ frames := 0, cells := 0, slots := 0, locals := 0 } : Room).slots) := by
  refine MetFree.of_bodySF (plainFor_of_name pn_java_lang_StringLatin1) hisR ?_
  intro p e s m args below meth c s₁ Bd hml0 hP hK
  obtain ⟨rfl, hZ, hh⟩ := hP
  have hx := Bd.exec
  have hby := Bd.bytes
  have hml : c.maxLocals = 1 := hml0
  have hown : s.vm.findClass "java/lang/StringLatin1" = some m.cls := findClass_of_methodNamed Bd.named
  have hnm := (name_of_methodNamed Bd.named Bd.method).1
  have X0 : Stand p l e ({ frames := 0, cells := 0, slots := 0, locals := 0 } : Room) s m #[(.int k)] below meth c s₁ [] 0 0 := Stand.of_body Bd
  have e0 : s₁.heap = h0 := by rw [← hh, Bd.state]; rfl
  have N0 := Fr.nil n0
  have pre0 : ∀ t, Steps p.tables e below (s₁.setTop (mkF m 0 #[.val (.int k)] [])) t → Steps p.tables e below (s₁.setTop (entryFrame m #[(.int k)] 1)) t := fun t kk => castTop (ef_I m k) kk
  obtain ⟨fs, hr, hrun, hended, hW, hsame⟩ := X0.leave (v := some (.int (1 : Int32))) (fun h => by rw [Bd.returns] at h; cases h)
  have eF : (s₁.setFrames fs).heap = h0 := e0
  refine ⟨_, _, pre0 _ ?_, hrun, hended, _, _, rfl, ?_, ⟨_, rfl⟩, hW, hsame.mono (by decide) (by decide)⟩
  · show Steps p.tables e below (s₁.setTop (mkF m 0 #[.val (.int k)] [])) _
    refine XS.iloadN X0.here hx rfl (hb hby d2_0) rfl ?_
    show Steps p.tables e below (s₁.setTop (mkF m 1 #[.val (.int k)] [(.int k)])) _
    refine XS.sipush X0.here hx rfl (hb hby d2_1) ?_
    show Steps p.tables e below (s₁.setTop (mkF m 4 #[.val (.int k)] [(.int (255 : Int32)), (.int k)])) _
    refine XS.icmpNo X0.here hx rfl (hb hby d2_4) rfl (flt hk).2.2.1 ?_
    show Steps p.tables e below (s₁.setTop (mkF m 7 #[.val (.int k)] [])) _
    refine XS.iconst X0.here hx rfl (hb hby d2_7) ?_
    show Steps p.tables e below (s₁.setTop (mkF m 8 #[.val (.int k)] [(.int (1 : Int32))])) _
    refine XS.goto X0.here hx rfl (pc0 := 8) (pc' := 12) rfl (hb hby d2_8) (by decide) (by decide) ?_
    show Steps p.tables e below (s₁.setTop (mkF m 12 #[.val (.int k)] [(.int (1 : Int32))])) _
    exact retN X0 hx (t := .boolean) Bd.returns (by simp) (hb hby d2_12) hr
  · exact ⟨rfl, N0, e0⟩
theorem d3_0 : decode jdk_43_method_46_code 0 = .ok (.iconst 1, 1) := by decide +kernel
theorem d3_1 : decode jdk_43_method_46_code 1 = .ok (.newarray .byte, 2) := by decide +kernel
theorem d3_3 : decode jdk_43_method_46_code 3 = .ok (.dup, 1) := by decide +kernel
theorem d3_4 : decode jdk_43_method_46_code 4 = .ok (.iconst 0, 1) := by decide +kernel
theorem d3_5 : decode jdk_43_method_46_code 5 = .ok (.iload_n 0, 1) := by decide +kernel
theorem d3_6 : decode jdk_43_method_46_code 6 = .ok (.i2b, 1) := by decide +kernel
theorem d3_7 : decode jdk_43_method_46_code 7 = .ok (.bastore, 1) := by decide +kernel
theorem d3_8 : decode jdk_43_method_46_code 8 = .ok (.areturn, 1) := by decide +kernel
def Q_rm3 (Z : State) (k : Int32) (h0 : Heap) (n0 : Nat) (v : Option Value) (hp : Heap) (L : List Loc) : Prop := ∃ b : Addr, v = some (.ref b) ∧ Fr n0 L ∧ Keep h0 hp []
set_option maxRecDepth 65536 in
set_option maxHeartbeats 40000000 in
theorem rm3 (l : Launch) (Z : State) (a0 : Array Value) (hw : ∀ d ∈ tables_1, d.before a0 Z = true) (ws : List Jvm.Cond) (k : Int32) (h0 : Heap) (n0 : Nat) (Z0 : n0 ≤ h0.size)  :
    MetFree l (⟨"java/lang/StringLatin1", "toBytes", "(C)[B"⟩ : MethodName) (head1 (Jvm.Cond.code (⟨"java/lang/StringLatin1", "toBytes", "(C)[B"⟩ : MethodName) jdk_43_method_46_code 1 (some (.array .byte)) :: ws) ({ frames := 0, cells := 1, slots := 1, locals := 0 } : Room)) (fun aa U => aa = #[(.int k)] ∧ Z.Warmed39 U.vm ∧ U.heap = h0) (fun _ _ _ _ _ => True) (fun _ U o U' => ∃ v L, o = .returned v ∧ (Q_rm3 Z k h0 n0 v U'.heap L) ∧ FrameEnd U o U' L ({ frames := 0, cells := 1, slots := 1, locals := 0 } : Room).cells ({ frames := 0, cells := 1, slots := 1, locals := 0 } : Room).slots) := by
  refine MetFree.of_bodySF (plainFor_of_name pn_java_lang_StringLatin1) hisR ?_
  intro p e s m args below meth c s₁ Bd hml0 hP hK
  obtain ⟨rfl, hZ, hh⟩ := hP
  have hx := Bd.exec
  have hby := Bd.bytes
  have hml : c.maxLocals = 1 := hml0
  have hown : s.vm.findClass "java/lang/StringLatin1" = some m.cls := findClass_of_methodNamed Bd.named
  have hnm := (name_of_methodNamed Bd.named Bd.method).1
  have X0 : Stand p l e ({ frames := 0, cells := 1, slots := 1, locals := 0 } : Room) s m #[(.int k)] below meth c s₁ [] 0 0 := Stand.of_body Bd
  have e0 : s₁.heap = h0 := by rw [← hh, Bd.state]; rfl
  have N0 := Fr.nil n0
  have pre0 : ∀ t, Steps p.tables e below (s₁.setTop (mkF m 0 #[.val (.int k)] [])) t → Steps p.tables e below (s₁.setTop (entryFrame m #[(.int k)] 1)) t := fun t kk => castTop (ef_I m k) kk
  obtain ⟨T1, h1, k1, X1, e1, E1, A1, st1⟩ := newP X0 hx hZ (hw _ (List.mem_of_getElem? (i := 14) rfl)) e0 (g := (mkF m 1 #[.val (.int k)] [(.int (1 : Int32))])) rfl (hb hby d3_1) rfl (by decide) (cap := 1) (by decide) (by decide) (by decide) (by decide)
  obtain ⟨b1, g1⟩ : ∃ z, z = h0.size := ⟨_, rfl⟩
  rw [← g1] at A1 st1
  have hin : ¬ ((0 : Int32) < 0 ∨ (newA k1 .byte (1 : Int32)).slots.size ≤ (0 : Int32).toNatClampNeg) := by rw [sz_new]; decide
  obtain ⟨T2, h2, X2, e2, W2, st2⟩ := stB X1 hx hZ e1 A1 (j := (0 : Int32)) hin (g := (mkF m 7 #[.val (.int k)] [(.int (k.toInt8.toInt32)), (.int (0 : Int32)), (.ref b1), (.ref b1)])) rfl rfl (hb hby d3_7)
  have gb : n0 ≤ b1 := Nat.le_trans Z0 (Nat.le_of_eq g1.symm)
  have N2 := Fr.snoc X2 N0 gb
  obtain ⟨fs, hr, hrun, hended, hW, hsame⟩ := X2.leave (v := some (.ref b1)) (fun h => by rw [Bd.returns] at h; cases h)
  have eF : (T2.setFrames fs).heap = h2 := e2
  refine ⟨_, _, pre0 _ ?_, hrun, hended, _, _, rfl, ?_, ⟨_, rfl⟩, hW, hsame.mono (by decide) (by decide)⟩
  · show Steps p.tables e below (s₁.setTop (mkF m 0 #[.val (.int k)] [])) _
    refine XS.iconst X0.here hx rfl (hb hby d3_0) ?_
    show Steps p.tables e below (s₁.setTop (mkF m 1 #[.val (.int k)] [(.int (1 : Int32))])) _
    refine st1 _ ?_
    show Steps p.tables e below (T1.setTop (mkF m 3 #[.val (.int k)] [(.ref b1)])) _
    refine XS.dup X1.here hx rfl (hb hby d3_3) rfl rfl ?_
    show Steps p.tables e below (T1.setTop (mkF m 4 #[.val (.int k)] [(.ref b1), (.ref b1)])) _
    refine XS.iconst X1.here hx rfl (hb hby d3_4) ?_
    show Steps p.tables e below (T1.setTop (mkF m 5 #[.val (.int k)] [(.int (0 : Int32)), (.ref b1), (.ref b1)])) _
    refine XS.iloadN X1.here hx rfl (hb hby d3_5) rfl ?_
    show Steps p.tables e below (T1.setTop (mkF m 6 #[.val (.int k)] [(.int k), (.int (0 : Int32)), (.ref b1), (.ref b1)])) _
    refine XS.i2b X1.here hx rfl (hb hby d3_6) rfl ?_
    show Steps p.tables e below (T1.setTop (mkF m 7 #[.val (.int k)] [(.int (k.toInt8.toInt32)), (.int (0 : Int32)), (.ref b1), (.ref b1)])) _
    refine st2 _ ?_
    show Steps p.tables e below (T2.setTop (mkF m 8 #[.val (.int k)] [(.ref b1)])) _
    exact own_retA X2 hx Bd.returns rfl rfl rfl (hb hby d3_8) hr
  · exact ⟨b1, rfl, N2, by rw [eF]; exact ((Keep.refl h0 []).ext E1).wr W2 (Or.inr (Nat.le_of_eq g1.symm))⟩
theorem pn_java_lang_String : plainName "java/lang/String" = true := by first | (simp [plainName, overriddenIn]; done) | decide +kernel
theorem d4_0 : decode jdk_42_method_151_code 0 = .ok (.aload_n 0, 1) := by decide +kernel
theorem d4_1 : decode jdk_42_method_151_code 1 = .ok (.invokespecial 1, 3) := by decide +kernel
theorem d4_4 : decode jdk_42_method_151_code 4 = .ok (.aload_n 0, 1) := by decide +kernel
theorem d4_5 : decode jdk_42_method_151_code 5 = .ok (.aload_n 1, 1) := by decide +kernel
theorem d4_6 : decode jdk_42_method_151_code 6 = .ok (.putfield 9, 3) := by decide +kernel
theorem d4_9 : decode jdk_42_method_151_code 9 = .ok (.aload_n 0, 1) := by decide +kernel
theorem d4_10 : decode jdk_42_method_151_code 10 = .ok (.iload_n 2, 1) := by decide +kernel
theorem d4_11 : decode jdk_42_method_151_code 11 = .ok (.putfield 15, 3) := by decide +kernel
theorem d4_14 : decode jdk_42_method_151_code 14 = .ok (.return_, 1) := by decide +kernel
def Q_rm4 (Z : State) (a b : Addr) (k : Int32) (u u' : Value) (h0 : Heap) (n0 : Nat) (v : Option Value) (hp : Heap) (L : List Loc) : Prop := v = none ∧ Fr n0 L ∧ Keep h0 hp [a]
set_option maxRecDepth 65536 in
set_option maxHeartbeats 40000000 in
theorem rm4 (l : Launch) (Z : State) (a0 : Array Value) (hw : ∀ d ∈ tables_1, d.before a0 Z = true) (ws : List Jvm.Cond) (a b : Addr) (k : Int32) (u u' : Value) (h0 : Heap) (n0 : Nat) (Z0 : n0 ≤ h0.size) (E : Exa Z h0 a "java/lang/String") (F : Fld Z h0 a "java/lang/String" "value" "[B" u) (F' : Fld Z h0 a "java/lang/String" "coder" "B" u') (ge : n0 ≤ a) :
    MetFree l (⟨"java/lang/String", "<init>", "([BB)V"⟩ : MethodName) (head1 (Jvm.Cond.code (⟨"java/lang/String", "<init>", "([BB)V"⟩ : MethodName) jdk_42_method_151_code 3 none :: ws) ({ frames := 1, cells := 0, slots := 0, locals := 12 } : Room)) (fun aa U => aa = #[(.ref a), (.ref b), (.int k)] ∧ Z.Warmed39 U.vm ∧ U.heap = h0) (fun _ _ _ _ _ => True) (fun _ U o U' => ∃ v L, o = .returned v ∧ (Q_rm4 Z a b k u u' h0 n0 v U'.heap L) ∧ FrameEnd U o U' L ({ frames := 1, cells := 0, slots := 0, locals := 12 } : Room).cells ({ frames := 1, cells := 0, slots := 0, locals := 12 } : Room).slots) := by
  refine MetFree.of_bodySF (plainFor_of_name pn_java_lang_String) hisR ?_
  intro p e s m args below meth c s₁ Bd hml0 hP hK
  obtain ⟨rfl, hZ, hh⟩ := hP
  have hx := Bd.exec
  have hby := Bd.bytes
  have hml : c.maxLocals = 3 := hml0
  have hown : s.vm.findClass "java/lang/String" = some m.cls := findClass_of_methodNamed Bd.named
  have hnm := (name_of_methodNamed Bd.named Bd.method).1
  have X0 : Stand p l e ({ frames := 1, cells := 0, slots := 0, locals := 12 } : Room) s m #[(.ref a), (.ref b), (.int k)] below meth c s₁ [] 0 0 := Stand.of_body Bd
  have e0 : s₁.heap = h0 := by rw [← hh, Bd.state]; rfl
  have N0 := Fr.nil n0
  have pre0 : ∀ t, Steps p.tables e below (s₁.setTop (mkF m 0 #[.val (.ref a), .val (.ref b), .val (.int k)] [])) t → Steps p.tables e below (s₁.setTop (entryFrame m #[(.ref a), (.ref b), (.int k)] 3)) t := fun t kk => castTop (ef_R1 m a b k) kk
  obtain ⟨T1, X1, e1, st1⟩ := initO X0 hx hZ hown (hw _ (List.mem_of_getElem? (i := 19) rfl)) (hw _ (List.mem_of_getElem? (i := 20) rfl)) (hw _ (List.mem_of_getElem? (i := 21) rfl)) e0 (g := (mkF m 1 #[.val (.ref a), .val (.ref b), .val (.int k)] [(.ref a)])) rfl (by rw [hml]; rfl) rfl (hb hby d4_1) (by decide) (W := 0) (by show 2 * 0 + _ ≤ _; exact Nat.le_of_eq rfl) (by decide)
  obtain ⟨T2, h2, X2, e2, W2, st2⟩ := putF X1 hx hZ hown (host := "") (Or.inl (hw _ (List.mem_of_getElem? (i := 22) rfl))) Via.refl e1 F E (Or.inr ⟨(hw _ (List.mem_of_getElem? (i := 23) rfl)), rfl, hnm⟩) (hw _ (List.mem_of_getElem? (i := 10) rfl)) (ty := (.array .byte)) (by decide) rfl rfl (g := (mkF m 6 #[.val (.ref a), .val (.ref b), .val (.int k)] [(.ref b), (.ref a)])) rfl rfl (hb hby d4_6)
  have N2 := Fr.snoc X2 N0 ge
  have F2 := F'.other W2 (Or.inr (slot_ne (Or.inr (hw _ (List.mem_of_getElem? (i := 25) rfl))) (Or.inr (hw _ (List.mem_of_getElem? (i := 23) rfl))) (by decide) (t := .byte) (t' := (.array .byte)) (by decide) (by decide)))
  obtain ⟨T3, h3, X3, e3, W3, st3⟩ := putFN X2 hx hZ hown (hw _ (List.mem_of_getElem? (i := 24) rfl)) Via.refl e2 F2 (E.wr W2) (Or.inr ⟨(hw _ (List.mem_of_getElem? (i := 25) rfl)), rfl, hnm⟩) (hw _ (List.mem_of_getElem? (i := 10) rfl)) (ty := .byte) (v' := (.int (k.toInt8.toInt32))) (by decide) rfl (fits_nar_byte _) (g := (mkF m 11 #[.val (.ref a), .val (.ref b), .val (.int k)] [(.int k), (.ref a)])) rfl rfl (hb hby d4_11)
  have N3 := Fr.snoc X3 N2 ge
  obtain ⟨fs, hr, hrun, hended, hW, hsame⟩ := X3.leave (v := none) (fun _ => rfl)
  have eF : (T3.setFrames fs).heap = h3 := e3
  refine ⟨_, _, pre0 _ ?_, hrun, hended, _, _, rfl, ?_, ⟨_, rfl⟩, hW, hsame.mono (by decide) (by decide)⟩
  · show Steps p.tables e below (s₁.setTop (mkF m 0 #[.val (.ref a), .val (.ref b), .val (.int k)] [])) _
    refine XS.aloadN X0.here hx rfl (hb hby d4_0) rfl rfl ?_
    show Steps p.tables e below (s₁.setTop (mkF m 1 #[.val (.ref a), .val (.ref b), .val (.int k)] [(.ref a)])) _
    refine st1 _ ?_
    show Steps p.tables e below (T1.setTop (mkF m 4 #[.val (.ref a), .val (.ref b), .val (.int k)] [])) _
    refine XS.aloadN X1.here hx rfl (hb hby d4_4) rfl rfl ?_
    show Steps p.tables e below (T1.setTop (mkF m 5 #[.val (.ref a), .val (.ref b), .val (.int k)] [(.ref a)])) _
    refine XS.aloadN X1.here hx rfl (hb hby d4_5) rfl rfl ?_
    show Steps p.tables e below (T1.setTop (mkF m 6 #[.val (.ref a), .val (.ref b), .val (.int k)] [(.ref b), (.ref a)])) _
    refine st2 _ ?_
    show Steps p.tables e below (T2.setTop (mkF m 9 #[.val (.ref a), .val (.ref b), .val (.int k)] [])) _
    refine XS.aloadN X2.here hx rfl (hb hby d4_9) rfl rfl ?_
    show Steps p.tables e below (T2.setTop (mkF m 10 #[.val (.ref a), .val (.ref b), .val (.int k)] [(.ref a)])) _
    refine XS.iloadN X2.here hx rfl (hb hby d4_10) rfl ?_
    show Steps p.tables e below (T2.setTop (mkF m 11 #[.val (.ref a), .val (.ref b), .val (.int k)] [(.int k), (.ref a)])) _
    refine st3 _ ?_
    show Steps p.tables e below (T3.setTop (mkF m 14 #[.val (.ref a), .val (.ref b), .val (.int k)] [])) _
    exact X3.returnOut hx Bd.returns (hb hby d4_14) hr
  · exact ⟨rfl, N3, by rw [eF]; exact ((Keep.refl h0 [a]).wr W2 (Or.inl (List.mem_of_getElem? (i := 0) rfl))).wr W3 (Or.inl (List.mem_of_getElem? (i := 0) rfl))⟩
theorem d1_0 : decode jdk_42_method_139_code 0 = .ok (.getstatic 38, 3) := by decide +kernel
theorem d1_3 : decode jdk_42_method_139_code 3 = .ok (.ifCond .eq 23, 3) := by decide +kernel
theorem d1_6 : decode jdk_42_method_139_code 6 = .ok (.iload_n 0, 1) := by decide +kernel
theorem pd__CRZ : parseMethodDescriptor "(C)Z" = some ⟨[.char], some .boolean⟩ := by decide +kernel
theorem d1_7 : decode jdk_42_method_139_code 7 = .ok (.invokestatic 1015, 3) := by decide +kernel
theorem d1_10 : decode jdk_42_method_139_code 10 = .ok (.ifCond .eq 16, 3) := by decide +kernel
theorem d1_13 : decode jdk_42_method_139_code 13 = .ok (.new 10, 3) := by decide +kernel
theorem d1_16 : decode jdk_42_method_139_code 16 = .ok (.dup, 1) := by decide +kernel
theorem d1_17 : decode jdk_42_method_139_code 17 = .ok (.iload_n 0, 1) := by decide +kernel
theorem pd__CRAB : parseMethodDescriptor "(C)[B" = some ⟨[.char], some (.array .byte)⟩ := by decide +kernel
theorem d1_18 : decode jdk_42_method_139_code 18 = .ok (.invokestatic 1018, 3) := by decide +kernel
theorem d1_21 : decode jdk_42_method_139_code 21 = .ok (.iconst 0, 1) := by decide +kernel
theorem pd__ABBRV : parseMethodDescriptor "([BB)V" = some ⟨[(.array .byte), .byte], none⟩ := by decide +kernel
theorem d1_22 : decode jdk_42_method_139_code 22 = .ok (.invokespecial 209, 3) := by decide +kernel
theorem d1_25 : decode jdk_42_method_139_code 25 = .ok (.areturn, 1) := by decide +kernel
def Q_rm1 (Z : State) (k zc : Int32) (h0 : Heap) (n0 : Nat) (v : Option Value) (hp : Heap) (L : List Loc) : Prop := ∃ b : Addr, v = some (.ref b) ∧ Fr n0 L ∧ Keep h0 hp [] ∧ Exa Z hp b "java/lang/String"
set_option maxRecDepth 65536 in
set_option maxHeartbeats 40000000 in
theorem rm1 (l : Launch) (Z : State) (a0 : Array Value) (hw : ∀ d ∈ tables_1, d.before a0 Z = true) (ws : List Jvm.Cond) (k zc : Int32) (h0 : Heap) (n0 : Nat) (Z0 : n0 ≤ h0.size) (SC : Sta Z h0 "java/lang/String" "COMPACT_STRINGS" "Z" (.int zc)) (hz : ¬ zc = 0) (hk : ¬ (255 : Int32) < k) :
    MetFree l (⟨"java/lang/String", "valueOf", "(C)Ljava/lang/String;"⟩ : MethodName) (head1 (Jvm.Cond.code (⟨"java/lang/String", "valueOf", "(C)Ljava/lang/String;"⟩ : MethodName) jdk_42_method_139_code 1 (some (.object "java/lang/String")) :: ws) ({ frames := 2, cells := 2, slots := 5, locals := 28 } : Room)) (fun aa U => aa = #[(.int k)] ∧ Z.Warmed39 U.vm ∧ U.heap = h0) (fun _ _ _ _ _ => True) (fun _ U o U' => ∃ v L, o = .returned v ∧ (Q_rm1 Z k zc h0 n0 v U'.heap L) ∧ FrameEnd U o U' L ({ frames := 2, cells := 2, slots := 5, locals := 28 } : Room).cells ({ frames := 2, cells := 2, slots := 5, locals := 28 } : Room).slots) := by
  refine MetFree.of_bodySF (plainFor_of_name pn_java_lang_String) hisR ?_
  intro p e s m args below meth c s₁ Bd hml0 hP hK
  obtain ⟨rfl, hZ, hh⟩ := hP
  have hx := Bd.exec
  have hby := Bd.bytes
  have hml : c.maxLocals = 1 := hml0
  have hown : s.vm.findClass "java/lang/String" = some m.cls := findClass_of_methodNamed Bd.named
  have hnm := (name_of_methodNamed Bd.named Bd.method).1
  have X0 : Stand p l e ({ frames := 2, cells := 2, slots := 5, locals := 28 } : Room) s m #[(.int k)] below meth c s₁ [] 0 0 := Stand.of_body Bd
  have e0 : s₁.heap = h0 := by rw [← hh, Bd.state]; rfl
  have N0 := Fr.nil n0
  have pre0 : ∀ t, Steps p.tables e below (s₁.setTop (mkF m 0 #[.val (.int k)] [])) t → Steps p.tables e below (s₁.setTop (entryFrame m #[(.int k)] 1)) t := fun t kk => castTop (ef_I m k) kk
  obtain ⟨T1, X1, e1, st1⟩ := getS2 X0 hx hZ hown (host := "") (Or.inl (hw _ (List.mem_of_getElem? (i := 4) rfl))) Via.refl e0 SC (g := (mkF m 0 #[.val (.int k)] [])) rfl (hb hby d1_0)
  obtain ⟨_, _, ⟨T2, L2, k2, n2⟩, -, X2, ⟨Lc2, hQ2, l2, y2, z2⟩, st2⟩ := Jvm.LawKit.callS X1 hx (y := (⟨"java/lang/StringLatin1", "canEncode", "(C)Z"⟩ : MethodName)) hown (mvT hZ (hw _ (List.mem_of_getElem? (i := 5) rfl))) (mvT hZ (hw _ (List.mem_of_getElem? (i := 6) rfl))) (mvT hZ (hw _ (List.mem_of_getElem? (i := 7) rfl))) (mvT hZ (hw _ (List.mem_of_getElem? (i := 8) rfl))) (by decide) (backOf (W := 0) (rm2 l Z a0 hw [] k h0 n0 Z0 hk) hZ (hw _ (List.mem_of_getElem? (i := 8) rfl)) (hw _ (List.mem_of_getElem? (i := 7) rfl)) (by decide) (by decide)) (g := (mkF m 7 #[.val (.int k)] [(.int k)])) rfl (by rw [hml]; rfl) (argsL := [(.int k)]) (rest := []) (lenOf pd__CRZ rfl) rfl (by show 2 * 0 + _ ≤ _; exact Nat.le_of_eq rfl) (hb hby d1_7) (fun _ _ => ⟨rfl, e1, (by decide : 0 + 0 ≤ _), (by decide : 0 + 0 ≤ _)⟩)
  dsimp only [Pt.U, Pt.locs, Pt.cells, Pt.slots] at X2 l2 y2 z2 st2 hQ2
  subst l2 y2 z2
  obtain ⟨rfl, N2q, eh2⟩ := hQ2
  have N2 := Fr.app N0 N2q
  obtain ⟨T3, h3, X3, e3, E3, A3, D3, -, st3⟩ := newO X2 hx hZ hown (hw _ (List.mem_of_getElem? (i := 9) rfl)) (hw _ (List.mem_of_getElem? (i := 10) rfl)) (hw _ (List.mem_of_getElem? (i := 2) rfl)) eh2 (g := (mkF m 13 #[.val (.int k)] [])) rfl (hb hby d1_13) (by decide) (by decide)
  obtain ⟨b3, g3⟩ : ∃ z, z = h0.size := ⟨_, rfl⟩
  rw [← g3] at A3 D3 st3
  have Fv := D3 (Or.inr (hw _ (List.mem_of_getElem? (i := 23) rfl))) (ty := (.array .byte)) (by decide)
  have Fc := D3 (Or.inr (hw _ (List.mem_of_getElem? (i := 25) rfl))) (ty := .byte) (by decide)
  have gb : n0 ≤ b3 := Nat.le_trans Z0 (Nat.le_of_eq g3.symm)
  obtain ⟨_, _, ⟨T4, L4, k4, n4⟩, -, X4, ⟨Lc4, hQ4, l4, y4, z4⟩, st4⟩ := Jvm.LawKit.callS X3 hx (y := (⟨"java/lang/StringLatin1", "toBytes", "(C)[B"⟩ : MethodName)) hown (mvT hZ (hw _ (List.mem_of_getElem? (i := 11) rfl))) (mvT hZ (hw _ (List.mem_of_getElem? (i := 12) rfl))) (mvT hZ (hw _ (List.mem_of_getElem? (i := 7) rfl))) (mvT hZ (hw _ (List.mem_of_getElem? (i := 13) rfl))) (by decide) (backOf (W := 2) (rm3 l Z a0 hw [] k h3 n0 (Nat.le_trans Z0 E3.1)) hZ (hw _ (List.mem_of_getElem? (i := 13) rfl)) (hw _ (List.mem_of_getElem? (i := 7) rfl)) (by decide) (by decide)) (g := (mkF m 18 #[.val (.int k)] [(.int k), (.ref b3), (.ref b3)])) rfl (by rw [hml]; rfl) (argsL := [(.int k)]) (rest := [(.ref b3), (.ref b3)]) (lenOf pd__CRAB rfl) rfl (by show 2 * 0 + _ ≤ _; exact Nat.le_of_eq rfl) (hb hby d1_18) (fun _ _ => ⟨rfl, e3, (by decide : 1 + 1 ≤ _), (by decide : 4 + 1 ≤ _)⟩)
  dsimp only [Pt.U, Pt.locs, Pt.cells, Pt.slots] at X4 l4 y4 z4 st4 hQ4
  subst l4 y4 z4
  obtain ⟨bb, rfl, N4q, K4⟩ := hQ4
  have N4 := Fr.app N2 N4q
  have Fv2 := Fv.ext (own_ext K4)
  have Fc2 := Fc.ext (own_ext K4)
  have A2 := A3.ext (own_ext K4)
  obtain ⟨_, _, ⟨T5, L5, k5, n5⟩, -, X5, ⟨Lc5, hQ5, l5, y5, z5⟩, st5⟩ := X4.specialBack hx (y := (⟨"java/lang/String", "<init>", "([BB)V"⟩ : MethodName)) rfl hown (mvT hZ (hw _ (List.mem_of_getElem? (i := 15) rfl))) (mvT hZ (hw _ (List.mem_of_getElem? (i := 16) rfl))) (mvT hZ (hw _ (List.mem_of_getElem? (i := 18) rfl))) (by decide) (backOf (W := 1) (rm4 l Z a0 hw [] b3 bb 0 _ _ T4.heap n0 (Nat.le_trans Z0 (Nat.le_trans E3.1 K4.1)) A2 Fv2 Fc2 gb) hZ (hw _ (List.mem_of_getElem? (i := 18) rfl)) (hw _ (List.mem_of_getElem? (i := 2) rfl)) (by decide) (by decide)) (g := (mkF m 22 #[.val (.int k)] [(.int (0 : Int32)), (.ref bb), (.ref b3), (.ref b3)])) rfl (by rw [hml]; rfl) (Steps.refl _) (a := b3) (argsL := [(.ref bb), (.int (0 : Int32))]) (rest := [(.ref b3)]) (lenOf pd__ABBRV rfl) rfl (by show 2 * 0 + _ ≤ _; exact Nat.le_of_eq rfl) (hb hby d1_22) (fun _ _ => ⟨rfl, rfl, (by decide : 2 + 0 ≤ _), (by decide : 5 + 0 ≤ _)⟩)
  dsimp only [Pt.U, Pt.locs, Pt.cells, Pt.slots] at X5 l5 y5 z5 st5 hQ5
  subst l5 y5 z5
  obtain ⟨rfl, N5q, K5⟩ := hQ5
  have N5 := Fr.app N4 N5q
  obtain ⟨fs, hr, hrun, hended, hW, hsame⟩ := X5.leave (v := some (.ref b3)) (fun h => by rw [Bd.returns] at h; cases h)
  have eF : (T5.setFrames fs).heap = T5.heap := rfl
  refine ⟨_, _, pre0 _ ?_, hrun, hended, _, _, rfl, ?_, ⟨_, rfl⟩, hW, hsame.mono (by decide) (by decide)⟩
  · show Steps p.tables e below (s₁.setTop (mkF m 0 #[.val (.int k)] [])) _
    refine st1 _ ?_
    show Steps p.tables e below (T1.setTop (mkF m 3 #[.val (.int k)] [(.int zc)])) _
    refine XS.ifNo X1.here hx rfl (hb hby d1_3) rfl ((if0 _ _).trans (feq hz).1) ?_
    show Steps p.tables e below (T1.setTop (mkF m 6 #[.val (.int k)] [])) _
    refine XS.iloadN X1.here hx rfl (hb hby d1_6) rfl ?_
    show Steps p.tables e below (T1.setTop (mkF m 7 #[.val (.int k)] [(.int k)])) _
    refine st2 _ ?_
    show Steps p.tables e below (T2.setTop (mkF m 10 #[.val (.int k)] [(.int (1 : Int32))])) _
    refine XS.ifNo X2.here hx rfl (hb hby d1_10) rfl ((if0 _ _).trans (feq (by decide : ¬ ((1 : Int32) = (0 : Int32)))).1) ?_
    show Steps p.tables e below (T2.setTop (mkF m 13 #[.val (.int k)] [])) _
    refine st3 _ ?_
    show Steps p.tables e below (T3.setTop (mkF m 16 #[.val (.int k)] [(.ref b3)])) _
    refine XS.dup X3.here hx rfl (hb hby d1_16) rfl rfl ?_
    show Steps p.tables e below (T3.setTop (mkF m 17 #[.val (.int k)] [(.ref b3), (.ref b3)])) _
    refine XS.iloadN X3.here hx rfl (hb hby d1_17) rfl ?_
    show Steps p.tables e below (T3.setTop (mkF m 18 #[.val (.int k)] [(.int k), (.ref b3), (.ref b3)])) _
    refine st4 _ ?_
    show Steps p.tables e below (T4.setTop (mkF m 21 #[.val (.int k)] [(.ref bb), (.ref b3), (.ref b3)])) _
    refine XS.iconst X4.here hx rfl (hb hby d1_21) ?_
    show Steps p.tables e below (T4.setTop (mkF m 22 #[.val (.int k)] [(.int (0 : Int32)), (.ref bb), (.ref b3), (.ref b3)])) _
    refine st5.trans ?_
    show Steps p.tables e below (T5.setTop (mkF m 25 #[.val (.int k)] [(.ref b3)])) _
    exact own_retA X5 hx Bd.returns rfl rfl rfl (hb hby d1_25) hr
  · exact ⟨b3, rfl, N5, (((Keep.refl h0 []).ext E3).trans K4 (fun x hx => by cases hx)).trans K5 (fun x hx => by cases List.mem_singleton.mp hx; exact Or.inr (Nat.le_of_eq g3.symm)), A2.keep K5⟩
theorem pn_java_util_Objects : plainName "java/util/Objects" = true := by first | (simp [plainName, overriddenIn]; done) | decide +kernel
theorem d7_0 : decode jdk_31_method_11_code 0 = .ok (.aload_n 0, 1) := by decide +kernel
theorem d7_1 : decode jdk_31_method_11_code 1 = .ok (.ifnonnull 12, 3) := by decide +kernel
theorem d7_13 : decode jdk_31_method_11_code 13 = .ok (.aload_n 0, 1) := by decide +kernel
theorem d7_14 : decode jdk_31_method_11_code 14 = .ok (.areturn, 1) := by decide +kernel
def Q_rm7 (Z : State) (a b : Addr) (h0 : Heap) (n0 : Nat) (v : Option Value) (hp : Heap) (L : List Loc) : Prop := v = some (.ref a) ∧ Fr n0 L ∧ hp = h0
set_option maxRecDepth 65536 in
set_option maxHeartbeats 40000000 in
theorem rm7 (l : Launch) (Z : State) (a0 : Array Value) (hw : ∀ d ∈ tables_1, d.before a0 Z = true) (ws : List Jvm.Cond) (a b : Addr) (h0 : Heap) (n0 : Nat) (Z0 : n0 ≤ h0.size)  :
    MetFree l (⟨"java/util/Objects", "requireNonNull", "(Ljava/lang/Object;Ljava/lang/String;)Ljava/lang/Object;"⟩ : MethodName) (head1 (Jvm.Cond.code (⟨"java/util/Objects", "requireNonNull", "(Ljava/lang/Object;Ljava/lang/String;)Ljava/lang/Object;"⟩ : MethodName) jdk_31_method_11_code 2 (some (.object "java/lang/Object")) :: ws) ({ frames := 0, cells := 0, slots := 0, locals := 0 } : Room)) (fun aa U => aa = #[(.ref a), (.ref b)] ∧ Z.Warmed39 U.vm ∧ U.heap = h0) (fun _ _ _ _ _ => True) (fun _ U o U' => ∃ v L, o = .returned v ∧ (Q_rm7 Z a b h0 n0 v U'.heap L) ∧ FrameEnd U o U' L ({ frames := 0, cells := 0, slots := 0, locals := 0 } : Room).cells ({ frames := 0, cells := 0, slots := 0, locals := 0 } : Room).slots) := by
  refine MetFree.of_bodySF (plainFor_of_name pn_java_util_Objects) hisR ?_
  intro p e s m args below meth c s₁ Bd hml0 hP hK
  obtain ⟨rfl, hZ, hh⟩ := hP
  have hx := Bd.exec
  have hby := Bd.bytes
  have hml : c.maxLocals = 2 := hml0
  have hown : s.vm.findClass "java/util/Objects" = some m.cls := findClass_of_methodNamed Bd.named
  have hnm := (name_of_methodNamed Bd.named Bd.method).1
  have X0 : Stand p l e ({ frames := 0, cells := 0, slots := 0, locals := 0 } : Room) s m #[(.ref a), (.ref b)] below meth c s₁ [] 0 0 := Stand.of_body Bd
  have e0 : s₁.heap = h0 := by rw [← hh, Bd.state]; rfl
  have N0 := Fr.nil n0
  have pre0 : ∀ t, Steps p.tables e below (s₁.setTop (mkF m 0 #[.val (.ref a), .val (.ref b)] [])) t → Steps p.tables e below (s₁.setTop (entryFrame m #[(.ref a), (.ref b)] 2)) t := fun t kk => castTop (ef_RR m a b) kk
  obtain ⟨fs, hr, hrun, hended, hW, hsame⟩ := X0.leave (v := some (.ref a)) (fun h => by rw [Bd.returns] at h; cases h)
  have eF : (s₁.setFrames fs).heap = h0 := e0
  refine ⟨_, _, pre0 _ ?_, hrun, hended, _, _, rfl, ?_, ⟨_, rfl⟩, hW, hsame.mono (by decide) (by decide)⟩
  · show Steps p.tables e below (s₁.setTop (mkF m 0 #[.val (.ref a), .val (.ref b)] [])) _
    refine XS.aloadN X0.here hx rfl (hb hby d7_0) rfl rfl ?_
    show Steps p.tables e below (s₁.setTop (mkF m 1 #[.val (.ref a), .val (.ref b)] [(.ref a)])) _
    refine XS.ifnonnullYes X0.here hx rfl (pc0 := 1) (pc' := 13) rfl (hb hby d7_1) rfl (by decide) (by decide) ?_
    show Steps p.tables e below (s₁.setTop (mkF m 13 #[.val (.ref a), .val (.ref b)] [])) _
    refine XS.aloadN X0.here hx rfl (hb hby d7_13) rfl rfl ?_
    show Steps p.tables e below (s₁.setTop (mkF m 14 #[.val (.ref a), .val (.ref b)] [(.ref a)])) _
    exact own_retA X0 hx Bd.returns rfl rfl rfl (hb hby d7_14) hr
  · exact ⟨rfl, N0, e0⟩
theorem pn_com_example_burdock_burdock_query_Parameter : plainName "com/example/burdock/burdock/query/Parameter" = true := by first | (simp [plainName, overriddenIn]; done) | decide +kernel
theorem d6_0 : decode prog_108_method_1_code 0 = .ok (.aload_n 0, 1) := by decide +kernel
theorem d6_1 : decode prog_108_method_1_code 1 = .ok (.invokespecial 1, 3) := by decide +kernel
theorem d6_4 : decode prog_108_method_1_code 4 = .ok (.aload_n 0, 1) := by decide +kernel
theorem d6_5 : decode prog_108_method_1_code 5 = .ok (.aload_n 1, 1) := by decide +kernel
theorem d6_6 : decode prog_108_method_1_code 6 = .ok (.ldc 7, 2) := by decide +kernel
theorem pd__Ljava_lang_ObjectELjava_lang_StringERLjava_lang_ObjectE : parseMethodDescriptor "(Ljava/lang/Object;Ljava/lang/String;)Ljava/lang/Object;" = some ⟨[(.object "java/lang/Object"), (.object "java/lang/String")], some (.object "java/lang/Object")⟩ := by decide +kernel
theorem d6_8 : decode prog_108_method_1_code 8 = .ok (.invokestatic 9, 3) := by decide +kernel
theorem d6_11 : decode prog_108_method_1_code 11 = .ok (.checkcast 15, 3) := by decide +kernel
theorem d6_14 : decode prog_108_method_1_code 14 = .ok (.putfield 17, 3) := by decide +kernel
theorem d6_17 : decode prog_108_method_1_code 17 = .ok (.aload_n 0, 1) := by decide +kernel
theorem d6_18 : decode prog_108_method_1_code 18 = .ok (.iload_n 2, 1) := by decide +kernel
theorem d6_19 : decode prog_108_method_1_code 19 = .ok (.putfield 22, 3) := by decide +kernel
theorem d6_22 : decode prog_108_method_1_code 22 = .ok (.aload_n 0, 1) := by decide +kernel
theorem d6_23 : decode prog_108_method_1_code 23 = .ok (.iload_n 3, 1) := by decide +kernel
theorem d6_24 : decode prog_108_method_1_code 24 = .ok (.putfield 26, 3) := by decide +kernel
theorem d6_27 : decode prog_108_method_1_code 27 = .ok (.return_, 1) := by decide +kernel
def Q_rm6 (Z : State) (a b : Addr) (i j : Int32) (u u1 u2 : Value) (h0 : Heap) (n0 : Nat) (v : Option Value) (hp : Heap) (L : List Loc) : Prop := v = none ∧ Fr n0 L ∧ Keep h0 hp [a]
set_option maxRecDepth 65536 in
set_option maxHeartbeats 40000000 in
theorem rm6 (l : Launch) (Z : State) (a0 : Array Value) (hw : ∀ d ∈ tables_1, d.before a0 Z = true) (ws : List Jvm.Cond) (a b : Addr) (i j : Int32) (u u1 u2 : Value) (h0 : Heap) (n0 : Nat) (Z0 : n0 ≤ h0.size) (E : Exa Z h0 a "com/example/burdock/burdock/query/Parameter") (F : Fld Z h0 a "com/example/burdock/burdock/query/Parameter" "name" "Ljava/lang/String;" u) (F1 : Fld Z h0 a "com/example/burdock/burdock/query/Parameter" "ordinal" "Z" u1) (F2 : Fld Z h0 a "com/example/burdock/burdock/query/Parameter" "list" "Z" u2) (Eb : Exa Z h0 b "java/lang/String") (ge : n0 ≤ a) :
    MetFree l (⟨"com/example/burdock/burdock/query/Parameter", "<init>", "(Ljava/lang/String;ZZ)V"⟩ : MethodName) (head1 (Jvm.Cond.code (⟨"com/example/burdock/burdock/query/Parameter", "<init>", "(Ljava/lang/String;ZZ)V"⟩ : MethodName) prog_108_method_1_code 4 none :: ws) ({ frames := 1, cells := 2, slots := 20, locals := 14 } : Room)) (fun aa U => aa = #[(.ref a), (.ref b), (.int i), (.int j)] ∧ Z.Warmed39 U.vm ∧ U.heap = h0) (fun _ _ _ _ _ => True) (fun _ U o U' => ∃ v L, o = .returned v ∧ (Q_rm6 Z a b i j u u1 u2 h0 n0 v U'.heap L) ∧ ReturnedEndW U o U' L ({ frames := 1, cells := 2, slots := 20, locals := 14 } : Room).cells ({ frames := 1, cells := 2, slots := 20, locals := 14 } : Room).slots) := by
  refine MetFree.of_bodySF (plainFor_of_name pn_com_example_burdock_burdock_query_Parameter) hisR ?_
  intro p e s m args below meth c s₁ Bd hml0 hP hK
  obtain ⟨rfl, hZ, hh⟩ := hP
  have hx := Bd.exec
  have hby := Bd.bytes
  have hml : c.maxLocals = 4 := hml0
  have hown : s.vm.findClass "com/example/burdock/burdock/query/Parameter" = some m.cls := findClass_of_methodNamed Bd.named
  have hnm := (name_of_methodNamed Bd.named Bd.method).1
  have X0 : Stand p l e ({ frames := 1, cells := 2, slots := 20, locals := 14 } : Room) s m #[(.ref a), (.ref b), (.int i), (.int j)] below meth c s₁ [] 0 0 := Stand.of_body Bd
  have e0 : s₁.heap = h0 := by rw [← hh, Bd.state]; rfl
  have N0 := Fr.nil n0
  have pre0 : ∀ t, Steps p.tables e below (s₁.setTop (mkF m 0 #[.val (.ref a), .val (.ref b), .val (.int i), .val (.int j)] [])) t → Steps p.tables e below (s₁.setTop (entryFrame m #[(.ref a), (.ref b), (.int i), (.int j)] 4)) t := fun t kk => castTop (ef_RRII m a b i j) kk
  have hS0 := (State.WarmedH.refl s).since 0
  obtain ⟨T1, X1, e1, st1⟩ := initO X0 hx hZ hown (hw _ (List.mem_of_getElem? (i := 32) rfl)) (hw _ (List.mem_of_getElem? (i := 20) rfl)) (hw _ (List.mem_of_getElem? (i := 21) rfl)) e0 (g := (mkF m 1 #[.val (.ref a), .val (.ref b), .val (.int i), .val (.int j)] [(.ref a)])) rfl (by rw [hml]; rfl) rfl (hb hby d6_1) (by decide) (W := 0) (by show 2 * 0 + _ ≤ _; exact Nat.le_of_eq rfl) (by decide)
  obtain ⟨a2, T2, h2, k2, X2, e2, E2, hS2, kl2, hZ2, ho2, st2⟩ := ldcS (s := s) (vm0 := s.vm) X1 hx hZ hown (hw _ (List.mem_of_getElem? (i := 33) rfl)) (own_strW hw) e1 hS0 (Nat.zero_le _) (g := (mkF m 6 #[.val (.ref a), .val (.ref b), .val (.int i), .val (.int j)] [(.ref b), (.ref a)])) rfl (hb hby d6_6) (n := 16) (by decide) (by decide) (by decide) (by decide)
  have Ze := Nat.le_trans Z0 E2.1
  obtain ⟨_, _, ⟨T3, L3, k3, n3⟩, -, X3, ⟨Lc3, hQ3, l3, y3, z3⟩, st3⟩ := Jvm.LawKit.callS X2 hx (y := (⟨"java/util/Objects", "requireNonNull", "(Ljava/lang/Object;Ljava/lang/String;)Ljava/lang/Object;"⟩ : MethodName)) ho2 (mvT hZ2 (hw _ (List.mem_of_getElem? (i := 36) rfl))) (mvT hZ2 (hw _ (List.mem_of_getElem? (i := 37) rfl))) (mvT hZ2 (hw _ (List.mem_of_getElem? (i := 38) rfl))) (mvT hZ2 (hw _ (List.mem_of_getElem? (i := 39) rfl))) (by decide) (backOf (W := 1) (rm7 l Z a0 hw [] b a2 h2 n0 Ze) hZ2 (hw _ (List.mem_of_getElem? (i := 39) rfl)) (hw _ (List.mem_of_getElem? (i := 38) rfl)) (by decide) (by decide)) (g := (mkF m 8 #[.val (.ref a), .val (.ref b), .val (.int i), .val (.int j)] [(.ref a2), (.ref b), (.ref a)])) rfl (by rw [hml]; rfl) (argsL := [(.ref b), (.ref a2)]) (rest := [(.ref a)]) (lenOf pd__Ljava_lang_ObjectELjava_lang_StringERLjava_lang_ObjectE rfl) rfl (by show 2 * 0 + _ ≤ _; exact Nat.le_of_eq rfl) (hb hby d6_8) (fun _ _ => ⟨rfl, e2, (by decide : 2 + 0 ≤ _), (by decide : 20 + 0 ≤ _)⟩)
  dsimp only [Pt.U, Pt.locs, Pt.cells, Pt.slots] at X3 l3 y3 z3 st3 hQ3
  subst l3 y3 z3
  obtain ⟨rfl, N3q, eh3⟩ := hQ3
  have N3 := Fr.app N0 N3q
  obtain ⟨T4, X4, e4, st4⟩ := castY X3 hx hZ2 ho2 (hw _ (List.mem_of_getElem? (i := 40) rfl)) eh3 (Ins.self (Eb.ext E2)) (g := (mkF m 11 #[.val (.ref a), .val (.ref b), .val (.int i), .val (.int j)] [(.ref b), (.ref a)])) rfl rfl (hb hby d6_11)
  obtain ⟨T5, h5, X5, e5, W5, st5⟩ := putF X4 hx hZ2 ho2 (host := "") (Or.inl (hw _ (List.mem_of_getElem? (i := 41) rfl))) Via.refl e4 (F.ext E2) (E.ext E2) (Or.inr ⟨(hw _ (List.mem_of_getElem? (i := 42) rfl)), rfl, hnm⟩) (hw _ (List.mem_of_getElem? (i := 27) rfl)) (ty := (.object "java/lang/String")) (by decide) rfl rfl (g := (mkF m 14 #[.val (.ref a), .val (.ref b), .val (.int i), .val (.int j)] [(.ref b), (.ref a)])) rfl rfl (hb hby d6_14)
  have N5 := Fr.snoc X5 N3 ge
  have kl5 := Nat.le_trans kl2 (Nat.le_of_eq W5.size.symm)
  have G1 := (F1.ext E2).other W5 (Or.inr (slot_ne (Or.inr (hw _ (List.mem_of_getElem? (i := 44) rfl))) (Or.inr (hw _ (List.mem_of_getElem? (i := 42) rfl))) (by decide) (t := .boolean) (t' := (.object "java/lang/String")) (by decide) (by decide)))
  obtain ⟨T6, h6, X6, e6, W6, st6⟩ := putFN X5 hx hZ2 ho2 (hw _ (List.mem_of_getElem? (i := 43) rfl)) Via.refl e5 G1 ((E.ext E2).wr W5) (Or.inr ⟨(hw _ (List.mem_of_getElem? (i := 44) rfl)), rfl, hnm⟩) (hw _ (List.mem_of_getElem? (i := 27) rfl)) (ty := .boolean) (v' := (.int (nar .boolean i))) (by decide) rfl (fits_nar_bool _) (g := (mkF m 19 #[.val (.ref a), .val (.ref b), .val (.int i), .val (.int j)] [(.int i), (.ref a)])) rfl rfl (hb hby d6_19)
  have N6 := Fr.snoc X6 N5 ge
  have kl6 := Nat.le_trans kl5 (Nat.le_of_eq W6.size.symm)
  have G2 := ((F2.ext E2).other W5 (Or.inr (slot_ne (Or.inr (hw _ (List.mem_of_getElem? (i := 46) rfl))) (Or.inr (hw _ (List.mem_of_getElem? (i := 42) rfl))) (by decide) (t := .boolean) (t' := (.object "java/lang/String")) (by decide) (by decide)))).other W6 (Or.inr (slot_ne (Or.inr (hw _ (List.mem_of_getElem? (i := 46) rfl))) (Or.inr (hw _ (List.mem_of_getElem? (i := 44) rfl))) (by decide) (t := .boolean) (t' := .boolean) (by decide) (by decide)))
  obtain ⟨T7, h7, X7, e7, W7, st7⟩ := putFN X6 hx hZ2 ho2 (hw _ (List.mem_of_getElem? (i := 45) rfl)) Via.refl e6 G2 (((E.ext E2).wr W5).wr W6) (Or.inr ⟨(hw _ (List.mem_of_getElem? (i := 46) rfl)), rfl, hnm⟩) (hw _ (List.mem_of_getElem? (i := 27) rfl)) (ty := .boolean) (v' := (.int (nar .boolean j))) (by decide) rfl (fits_nar_bool _) (g := (mkF m 24 #[.val (.ref a), .val (.ref b), .val (.int i), .val (.int j)] [(.int j), (.ref a)])) rfl rfl (hb hby d6_24)
  have N7 := Fr.snoc X7 N6 ge
  have kl7 := Nat.le_trans kl6 (Nat.le_of_eq W7.size.symm)
  obtain ⟨fs, hr, hrun, hended, hEnd⟩ := X7.leaveW hS2 (by rw [e7]; exact kl7) (v := none) (fun _ => rfl)
  have eF : (T7.setFrames fs).heap = h7 := e7
  refine ⟨_, _, pre0 _ ?_, hrun, hended, _, _, rfl, ?_, hEnd.1, hEnd.2.1, hEnd.2.2.1, hEnd.2.2.2.mono (by decide) (by decide)⟩
  · show Steps p.tables e below (s₁.setTop (mkF m 0 #[.val (.ref a), .val (.ref b), .val (.int i), .val (.int j)] [])) _
    refine XS.aloadN X0.here hx rfl (hb hby d6_0) rfl rfl ?_
    show Steps p.tables e below (s₁.setTop (mkF m 1 #[.val (.ref a), .val (.ref b), .val (.int i), .val (.int j)] [(.ref a)])) _
    refine st1 _ ?_
    show Steps p.tables e below (T1.setTop (mkF m 4 #[.val (.ref a), .val (.ref b), .val (.int i), .val (.int j)] [])) _
    refine XS.aloadN X1.here hx rfl (hb hby d6_4) rfl rfl ?_
    show Steps p.tables e below (T1.setTop (mkF m 5 #[.val (.ref a), .val (.ref b), .val (.int i), .val (.int j)] [(.ref a)])) _
    refine XS.aloadN X1.here hx rfl (hb hby d6_5) rfl rfl ?_
    show Steps p.tables e below (T1.setTop (mkF m 6 #[.val (.ref a), .val (.ref b), .val (.int i), .val (.int j)] [(.ref b), (.ref a)])) _
    refine st2 _ ?_
    show Steps p.tables e below (T2.setTop (mkF m 8 #[.val (.ref a), .val (.ref b), .val (.int i), .val (.int j)] [(.ref a2), (.ref b), (.ref a)])) _
    refine st3 _ ?_
    show Steps p.tables e below (T3.setTop (mkF m 11 #[.val (.ref a), .val (.ref b), .val (.int i), .val (.int j)] [(.ref b), (.ref a)])) _
    refine st4 _ ?_
    show Steps p.tables e below (T4.setTop (mkF m 14 #[.val (.ref a), .val (.ref b), .val (.int i), .val (.int j)] [(.ref b), (.ref a)])) _
    refine st5 _ ?_
    show Steps p.tables e below (T5.setTop (mkF m 17 #[.val (.ref a), .val (.ref b), .val (.int i), .val (.int j)] [])) _
    refine XS.aloadN X5.here hx rfl (hb hby d6_17) rfl rfl ?_
    show Steps p.tables e below (T5.setTop (mkF m 18 #[.val (.ref a), .val (.ref b), .val (.int i), .val (.int j)] [(.ref a)])) _
    refine XS.iloadN X5.here hx rfl (hb hby d6_18) rfl ?_
    show Steps p.tables e below (T5.setTop (mkF m 19 #[.val (.ref a), .val (.ref b), .val (.int i), .val (.int j)] [(.int i), (.ref a)])) _
    refine st6 _ ?_
    show Steps p.tables e below (T6.setTop (mkF m 22 #[.val (.ref a), .val (.ref b), .val (.int i), .val (.int j)] [])) _
    refine XS.aloadN X6.here hx rfl (hb hby d6_22) rfl rfl ?_
    show Steps p.tables e below (T6.setTop (mkF m 23 #[.val (.ref a), .val (.ref b), .val (.int i), .val (.int j)] [(.ref a)])) _
    refine XS.iloadN X6.here hx rfl (hb hby d6_23) rfl ?_
    show Steps p.tables e below (T6.setTop (mkF m 24 #[.val (.ref a), .val (.ref b), .val (.int i), .val (.int j)] [(.int j), (.ref a)])) _
    refine st7 _ ?_
    show Steps p.tables e below (T7.setTop (mkF m 27 #[.val (.ref a), .val (.ref b), .val (.int i), .val (.int j)] [])) _
    exact X7.returnOut hx Bd.returns (hb hby d6_27) hr
  · exact ⟨rfl, N7, by rw [eF]; exact ((((Keep.refl h0 [a]).ext E2).wr W5 (Or.inl (List.mem_of_getElem? (i := 0) rfl))).wr W6 (Or.inl (List.mem_of_getElem? (i := 0) rfl))).wr W7 (Or.inl (List.mem_of_getElem? (i := 0) rfl))⟩
theorem pn_rdock_burdock_query_ParameterReferenceSameAsPinLaw : plainName "com/example/burdock/burdock/query/ParameterReferenceSameAsPinLaw" = true := by first | (simp [plainName, overriddenIn]; done) | decide +kernel
theorem d8_0 : decode method_2_code 0 = .ok (.iload_n 0, 1) := by decide +kernel
theorem d8_1 : decode method_2_code 1 = .ok (.iconst 1, 1) := by decide +kernel
theorem d8_2 : decode method_2_code 2 = .ok (.if_icmp .ne 7, 3) := by decide +kernel
theorem d8_5 : decode method_2_code 5 = .ok (.getstatic 7, 3) := by decide +kernel
theorem d8_8 : decode method_2_code 8 = .ok (.areturn, 1) := by decide +kernel
def Q_rm8a (Z : State) (k : Int32) (wS : Addr) (h0 : Heap) (n0 : Nat) (v : Option Value) (hp : Heap) (L : List Loc) : Prop := v = some (.ref wS) ∧ Fr n0 L ∧ hp = h0
set_option maxRecDepth 65536 in
set_option maxHeartbeats 40000000 in
theorem rm8a (l : Launch) (Z : State) (a0 : Array Value) (hw : ∀ d ∈ tables_1, d.before a0 Z = true) (ws : List Jvm.Cond) (k : Int32) (wS : Addr) (h0 : Heap) (n0 : Nat) (Z0 : n0 ≤ h0.size) (SS : Sta Z h0 "com/example/burdock/burdock/model/EnumStorage" "STRING" "Lcom/example/burdock/burdock/model/EnumStorage;" (.ref wS)) (h : k = 1) :
    MetFree l (⟨"com/example/burdock/burdock/query/ParameterReferenceSameAsPinLaw", "storage", "(I)Lcom/example/burdock/burdock/model/EnumStorage;"⟩ : MethodName) (head1 (Jvm.Cond.code (⟨"com/example/burdock/burdock/query/ParameterReferenceSameAsPinLaw", "storage", "(I)Lcom/example/burdock/burdock/model/EnumStorage;"⟩ : MethodName) method_2_code 1 (some (.object "com/example/burdock/burdock/model/EnumStorage")) :: ws) ({ frames := 0, cells := 0, slots := 0, locals := 0 } : Room)) (fun aa U => aa = #[(.int k)] ∧ Z.Warmed39 U.vm ∧ U.heap = h0) (fun _ _ _ _ _ => True) (fun _ U o U' => ∃ v L, o = .returned v ∧ (Q_rm8a Z k wS h0 n0 v U'.heap L) ∧ FrameEnd U o U' L ({ frames := 0, cells := 0, slots := 0, locals := 0 } : Room).cells ({ frames := 0, cells := 0, slots := 0, locals := 0 } : Room).slots) := by
  refine MetFree.of_bodySF (plainFor_of_name pn_rdock_burdock_query_ParameterReferenceSameAsPinLaw) hisR ?_
  intro p e s m args below meth c s₁ Bd hml0 hP hK
  obtain ⟨rfl, hZ, hh⟩ := hP
  have hx := Bd.exec
  have hby := Bd.bytes
  have hml : c.maxLocals = 1 := hml0
  have hown : s.vm.findClass "com/example/burdock/burdock/query/ParameterReferenceSameAsPinLaw" = some m.cls := findClass_of_methodNamed Bd.named
  have hnm := (name_of_methodNamed Bd.named Bd.method).1
  have X0 : Stand p l e ({ frames := 0, cells := 0, slots := 0, locals := 0 } : Room) s m #[(.int k)] below meth c s₁ [] 0 0 := Stand.of_body Bd
  have e0 : s₁.heap = h0 := by rw [← hh, Bd.state]; rfl
  have N0 := Fr.nil n0
  have pre0 : ∀ t, Steps p.tables e below (s₁.setTop (mkF m 0 #[.val (.int k)] [])) t → Steps p.tables e below (s₁.setTop (entryFrame m #[(.int k)] 1)) t := fun t kk => castTop (ef_I m k) kk
  obtain ⟨T1, X1, e1, st1⟩ := getS2 X0 hx hZ hown (host := "") (Or.inl (hw _ (List.mem_of_getElem? (i := 91) rfl))) Via.refl e0 SS (g := (mkF m 5 #[.val (.int k)] [])) rfl (hb hby d8_5)
  obtain ⟨fs, hr, hrun, hended, hW, hsame⟩ := X1.leave (v := some (.ref wS)) (fun h => by rw [Bd.returns] at h; cases h)
  have eF : (T1.setFrames fs).heap = h0 := e1
  refine ⟨_, _, pre0 _ ?_, hrun, hended, _, _, rfl, ?_, ⟨_, rfl⟩, hW, hsame.mono (by decide) (by decide)⟩
  · show Steps p.tables e below (s₁.setTop (mkF m 0 #[.val (.int k)] [])) _
    refine XS.iloadN X0.here hx rfl (hb hby d8_0) rfl ?_
    show Steps p.tables e below (s₁.setTop (mkF m 1 #[.val (.int k)] [(.int k)])) _
    refine XS.iconst X0.here hx rfl (hb hby d8_1) ?_
    show Steps p.tables e below (s₁.setTop (mkF m 2 #[.val (.int k)] [(.int (1 : Int32)), (.int k)])) _
    refine XS.icmpNo X0.here hx rfl (hb hby d8_2) rfl (teq h).2 ?_
    show Steps p.tables e below (s₁.setTop (mkF m 5 #[.val (.int k)] [])) _
    refine st1 _ ?_
    show Steps p.tables e below (T1.setTop (mkF m 8 #[.val (.int k)] [(.ref wS)])) _
    exact own_retA X1 hx Bd.returns rfl rfl rfl (hb hby d8_8) hr
  · exact ⟨rfl, N0, e1⟩
theorem d8_9 : decode method_2_code 9 = .ok (.iload_n 0, 1) := by decide +kernel
theorem d8_10 : decode method_2_code 10 = .ok (.iconst 2, 1) := by decide +kernel
theorem d8_11 : decode method_2_code 11 = .ok (.if_icmp .ne 7, 3) := by decide +kernel
theorem d8_14 : decode method_2_code 14 = .ok (.getstatic 13, 3) := by decide +kernel
theorem d8_17 : decode method_2_code 17 = .ok (.areturn, 1) := by decide +kernel
def Q_rm8b (Z : State) (k : Int32) (wO : Addr) (h0 : Heap) (n0 : Nat) (v : Option Value) (hp : Heap) (L : List Loc) : Prop := v = some (.ref wO) ∧ Fr n0 L ∧ hp = h0
set_option maxRecDepth 65536 in
set_option maxHeartbeats 40000000 in
theorem rm8b (l : Launch) (Z : State) (a0 : Array Value) (hw : ∀ d ∈ tables_1, d.before a0 Z = true) (ws : List Jvm.Cond) (k : Int32) (wO : Addr) (h0 : Heap) (n0 : Nat) (Z0 : n0 ≤ h0.size) (SO : Sta Z h0 "com/example/burdock/burdock/model/EnumStorage" "ORDINAL" "Lcom/example/burdock/burdock/model/EnumStorage;" (.ref wO)) (h : ¬ k = 1) (h' : k = 2) :
    MetFree l (⟨"com/example/burdock/burdock/query/ParameterReferenceSameAsPinLaw", "storage", "(I)Lcom/example/burdock/burdock/model/EnumStorage;"⟩ : MethodName) (head1 (Jvm.Cond.code (⟨"com/example/burdock/burdock/query/ParameterReferenceSameAsPinLaw", "storage", "(I)Lcom/example/burdock/burdock/model/EnumStorage;"⟩ : MethodName) method_2_code 1 (some (.object "com/example/burdock/burdock/model/EnumStorage")) :: ws) ({ frames := 0, cells := 0, slots := 0, locals := 0 } : Room)) (fun aa U => aa = #[(.int k)] ∧ Z.Warmed39 U.vm ∧ U.heap = h0) (fun _ _ _ _ _ => True) (fun _ U o U' => ∃ v L, o = .returned v ∧ (Q_rm8b Z k wO h0 n0 v U'.heap L) ∧ FrameEnd U o U' L ({ frames := 0, cells := 0, slots := 0, locals := 0 } : Room).cells ({ frames := 0, cells := 0, slots := 0, locals := 0 } : Room).slots) := by
  refine MetFree.of_bodySF (plainFor_of_name pn_rdock_burdock_query_ParameterReferenceSameAsPinLaw) hisR ?_
  intro p e s m args below meth c s₁ Bd hml0 hP hK
  obtain ⟨rfl, hZ, hh⟩ := hP
  have hx := Bd.exec
  have hby := Bd.bytes
  have hml : c.maxLocals = 1 := hml0
  have hown : s.vm.findClass "com/example/burdock/burdock/query/ParameterReferenceSameAsPinLaw" = some m.cls := findClass_of_methodNamed Bd.named
  have hnm := (name_of_methodNamed Bd.named Bd.method).1
  have X0 : Stand p l e ({ frames := 0, cells := 0, slots := 0, locals := 0 } : Room) s m #[(.int k)] below meth c s₁ [] 0 0 := Stand.of_body Bd
  have e0 : s₁.heap = h0 := by rw [← hh, Bd.state]; rfl
  have N0 := Fr.nil n0
  have pre0 : ∀ t, Steps p.tables e below (s₁.setTop (mkF m 0 #[.val (.int k)] [])) t → Steps p.tables e below (s₁.setTop (entryFrame m #[(.int k)] 1)) t := fun t kk => castTop (ef_I m k) kk
  obtain ⟨T1, X1, e1, st1⟩ := getS2 X0 hx hZ hown (host := "") (Or.inl (hw _ (List.mem_of_getElem? (i := 87) rfl))) Via.refl e0 SO (g := (mkF m 14 #[.val (.int k)] [])) rfl (hb hby d8_14)
  obtain ⟨fs, hr, hrun, hended, hW, hsame⟩ := X1.leave (v := some (.ref wO)) (fun h => by rw [Bd.returns] at h; cases h)
  have eF : (T1.setFrames fs).heap = h0 := e1
  refine ⟨_, _, pre0 _ ?_, hrun, hended, _, _, rfl, ?_, ⟨_, rfl⟩, hW, hsame.mono (by decide) (by decide)⟩
  · show Steps p.tables e below (s₁.setTop (mkF m 0 #[.val (.int k)] [])) _
    refine XS.iloadN X0.here hx rfl (hb hby d8_0) rfl ?_
    show Steps p.tables e below (s₁.setTop (mkF m 1 #[.val (.int k)] [(.int k)])) _
    refine XS.iconst X0.here hx rfl (hb hby d8_1) ?_
    show Steps p.tables e below (s₁.setTop (mkF m 2 #[.val (.int k)] [(.int (1 : Int32)), (.int k)])) _
    refine XS.icmpYes X0.here hx rfl (pc0 := 2) (pc' := 9) rfl (hb hby d8_2) rfl (feq h).2 (by decide) (by decide) ?_
    show Steps p.tables e below (s₁.setTop (mkF m 9 #[.val (.int k)] [])) _
    refine XS.iloadN X0.here hx rfl (hb hby d8_9) rfl ?_
    show Steps p.tables e below (s₁.setTop (mkF m 10 #[.val (.int k)] [(.int k)])) _
    refine XS.iconst X0.here hx rfl (hb hby d8_10) ?_
    show Steps p.tables e below (s₁.setTop (mkF m 11 #[.val (.int k)] [(.int (2 : Int32)), (.int k)])) _
    refine XS.icmpNo X0.here hx rfl (hb hby d8_11) rfl (teq h').2 ?_
    show Steps p.tables e below (s₁.setTop (mkF m 14 #[.val (.int k)] [])) _
    refine st1 _ ?_
    show Steps p.tables e below (T1.setTop (mkF m 17 #[.val (.int k)] [(.ref wO)])) _
    exact own_retA X1 hx Bd.returns rfl rfl rfl (hb hby d8_17) hr
  · exact ⟨rfl, N0, e1⟩
theorem d8_18 : decode method_2_code 18 = .ok (.aconst_null, 1) := by decide +kernel
theorem d8_19 : decode method_2_code 19 = .ok (.areturn, 1) := by decide +kernel
def Q_rm8c (Z : State) (k : Int32) (h0 : Heap) (n0 : Nat) (v : Option Value) (hp : Heap) (L : List Loc) : Prop := v = some .null ∧ Fr n0 L ∧ hp = h0
set_option maxRecDepth 65536 in
set_option maxHeartbeats 40000000 in
theorem rm8c (l : Launch) (Z : State) (a0 : Array Value) (hw : ∀ d ∈ tables_1, d.before a0 Z = true) (ws : List Jvm.Cond) (k : Int32) (h0 : Heap) (n0 : Nat) (Z0 : n0 ≤ h0.size) (h : ¬ k = 1) (h' : ¬ k = 2) :
    MetFree l (⟨"com/example/burdock/burdock/query/ParameterReferenceSameAsPinLaw", "storage", "(I)Lcom/example/burdock/burdock/model/EnumStorage;"⟩ : MethodName) (head1 (Jvm.Cond.code (⟨"com/example/burdock/burdock/query/ParameterReferenceSameAsPinLaw", "storage", "(I)Lcom/example/burdock/burdock/model/EnumStorage;"⟩ : MethodName) method_2_code 1 (some (.object "com/example/burdock/burdock/model/EnumStorage")) :: ws) ({ frames := 0, cells := 0, slots := 0, locals := 0 } : Room)) (fun aa U => aa = #[(.int k)] ∧ Z.Warmed39 U.vm ∧ U.heap = h0) (fun _ _ _ _ _ => True) (fun _ U o U' => ∃ v L, o = .returned v ∧ (Q_rm8c Z k h0 n0 v U'.heap L) ∧ FrameEnd U o U' L ({ frames := 0, cells := 0, slots := 0, locals := 0 } : Room).cells ({ frames := 0, cells := 0, slots := 0, locals := 0 } : Room).slots) := by
  refine MetFree.of_bodySF (plainFor_of_name pn_rdock_burdock_query_ParameterReferenceSameAsPinLaw) hisR ?_
  intro p e s m args below meth c s₁ Bd hml0 hP hK
  obtain ⟨rfl, hZ, hh⟩ := hP
  have hx := Bd.exec
  have hby := Bd.bytes
  have hml : c.maxLocals = 1 := hml0
  have hown : s.vm.findClass "com/example/burdock/burdock/query/ParameterReferenceSameAsPinLaw" = some m.cls := findClass_of_methodNamed Bd.named
  have hnm := (name_of_methodNamed Bd.named Bd.method).1
  have X0 : Stand p l e ({ frames := 0, cells := 0, slots := 0, locals := 0 } : Room) s m #[(.int k)] below meth c s₁ [] 0 0 := Stand.of_body Bd
  have e0 : s₁.heap = h0 := by rw [← hh, Bd.state]; rfl
  have N0 := Fr.nil n0
  have pre0 : ∀ t, Steps p.tables e below (s₁.setTop (mkF m 0 #[.val (.int k)] [])) t → Steps p.tables e below (s₁.setTop (entryFrame m #[(.int k)] 1)) t := fun t kk => castTop (ef_I m k) kk
  obtain ⟨fs, hr, hrun, hended, hW, hsame⟩ := X0.leave (v := some .null) (fun h => by rw [Bd.returns] at h; cases h)
  have eF : (s₁.setFrames fs).heap = h0 := e0
  refine ⟨_, _, pre0 _ ?_, hrun, hended, _, _, rfl, ?_, ⟨_, rfl⟩, hW, hsame.mono (by decide) (by decide)⟩
  · show Steps p.tables e below (s₁.setTop (mkF m 0 #[.val (.int k)] [])) _
    refine XS.iloadN X0.here hx rfl (hb hby d8_0) rfl ?_
    show Steps p.tables e below (s₁.setTop (mkF m 1 #[.val (.int k)] [(.int k)])) _
    refine XS.iconst X0.here hx rfl (hb hby d8_1) ?_
    show Steps p.tables e below (s₁.setTop (mkF m 2 #[.val (.int k)] [(.int (1 : Int32)), (.int k)])) _
    refine XS.icmpYes X0.here hx rfl (pc0 := 2) (pc' := 9) rfl (hb hby d8_2) rfl (feq h).2 (by decide) (by decide) ?_
    show Steps p.tables e below (s₁.setTop (mkF m 9 #[.val (.int k)] [])) _
    refine XS.iloadN X0.here hx rfl (hb hby d8_9) rfl ?_
    show Steps p.tables e below (s₁.setTop (mkF m 10 #[.val (.int k)] [(.int k)])) _
    refine XS.iconst X0.here hx rfl (hb hby d8_10) ?_
    show Steps p.tables e below (s₁.setTop (mkF m 11 #[.val (.int k)] [(.int (2 : Int32)), (.int k)])) _
    refine XS.icmpYes X0.here hx rfl (pc0 := 11) (pc' := 18) rfl (hb hby d8_11) rfl (feq h').2 (by decide) (by decide) ?_
    show Steps p.tables e below (s₁.setTop (mkF m 18 #[.val (.int k)] [])) _
    refine XS.aconstNull X0.here hx rfl (hb hby d8_18) ?_
    show Steps p.tables e below (s₁.setTop (mkF m 19 #[.val (.int k)] [.null])) _
    exact own_retA X0 hx Bd.returns rfl rfl rfl (hb hby d8_19) hr
  · exact ⟨rfl, N0, e0⟩
def own_Sto (wS wO : Addr) (k : Int32) (v : Value) : Prop := (k = 1 ∧ v = .ref wS) ∨ (¬ k = 1 ∧ k = 2 ∧ v = .ref wO) ∨ (¬ k = 1 ∧ ¬ k = 2 ∧ v = .null)
def Q_rm8 (Z : State) (k : Int32) (wS wO : Addr) (v0 : Value) (h0 : Heap) (n0 : Nat) (v : Option Value) (hp : Heap) (L : List Loc) : Prop := v = some v0 ∧ Fr n0 L ∧ hp = h0
theorem rm8 (l : Launch) (Z : State) (a0 : Array Value) (hw : ∀ d ∈ tables_1, d.before a0 Z = true) (ws : List Jvm.Cond) (k : Int32) (wS wO : Addr) (v0 : Value) (h0 : Heap) (n0 : Nat) (Z0 : n0 ≤ h0.size) (SS : Sta Z h0 "com/example/burdock/burdock/model/EnumStorage" "STRING" "Lcom/example/burdock/burdock/model/EnumStorage;" (.ref wS)) (SO : Sta Z h0 "com/example/burdock/burdock/model/EnumStorage" "ORDINAL" "Lcom/example/burdock/burdock/model/EnumStorage;" (.ref wO)) (Q : own_Sto wS wO k v0) :
    MetFree l (⟨"com/example/burdock/burdock/query/ParameterReferenceSameAsPinLaw", "storage", "(I)Lcom/example/burdock/burdock/model/EnumStorage;"⟩ : MethodName) (head1 (Jvm.Cond.code (⟨"com/example/burdock/burdock/query/ParameterReferenceSameAsPinLaw", "storage", "(I)Lcom/example/burdock/burdock/model/EnumStorage;"⟩ : MethodName) method_2_code 1 (some (.object "com/example/burdock/burdock/model/EnumStorage")) :: ws) ({ frames := 0, cells := 0, slots := 0, locals := 0 } : Room)) (fun aa U => aa = #[.int k] ∧ Z.Warmed39 U.vm ∧ U.heap = h0) (fun _ _ _ _ _ => True) (fun _ U o U' => ∃ v L, o = .returned v ∧ (Q_rm8 Z k wS wO v0 h0 n0 v U'.heap L) ∧ FrameEnd U o U' L ({ frames := 0, cells := 0, slots := 0, locals := 0 } : Room).cells ({ frames := 0, cells := 0, slots := 0, locals := 0 } : Room).slots) := by
  rcases Q with ⟨h, rfl⟩ | ⟨h, h', rfl⟩ | ⟨h, h', rfl⟩
  · exact rm8a l Z a0 hw ws k wS h0 n0 Z0 SS h
  · exact rm8b l Z a0 hw ws k wO h0 n0 Z0 SO h h'
  · exact rm8c l Z a0 hw ws k h0 n0 Z0 h h'
def own_Norm (k r : Int32) : Prop := (k = 3 ∧ r = 0) ∨ (¬ k = 3 ∧ r = k)
theorem d12_0 : decode method_3_code 0 = .ok (.iload_n 0, 1) := by decide +kernel
theorem d12_1 : decode method_3_code 1 = .ok (.iconst 3, 1) := by decide +kernel
theorem d12_2 : decode method_3_code 2 = .ok (.if_icmp .ne 7, 3) := by decide +kernel
theorem d12_5 : decode method_3_code 5 = .ok (.iconst 0, 1) := by decide +kernel
theorem d12_6 : decode method_3_code 6 = .ok (.goto 4, 3) := by decide +kernel
theorem d12_10 : decode method_3_code 10 = .ok (.ireturn, 1) := by decide +kernel
def Q_rm12a (Z : State) (k : Int32) (h0 : Heap) (n0 : Nat) (v : Option Value) (hp : Heap) (L : List Loc) : Prop := v = some (.int (0 : Int32)) ∧ Fr n0 L ∧ hp = h0
set_option maxRecDepth 65536 in
set_option maxHeartbeats 40000000 in
theorem rm12a (l : Launch) (Z : State) (a0 : Array Value) (hw : ∀ d ∈ tables_1, d.before a0 Z = true) (ws : List Jvm.Cond) (k : Int32) (h0 : Heap) (n0 : Nat) (Z0 : n0 ≤ h0.size) (h : k = 3) :
    MetFree l (⟨"com/example/burdock/burdock/query/ParameterReferenceSameAsPinLaw", "norm", "(I)I"⟩ : MethodName) (head1 (Jvm.Cond.code (⟨"com/example/burdock/burdock/query/ParameterReferenceSameAsPinLaw", "norm", "(I)I"⟩ : MethodName) method_3_code 1 (some .int) :: ws) ({ frames := 0, cells := 0, slots := 0, locals := 0 } : Room)) (fun aa U => aa = #[(.int k)] ∧ Z.Warmed39 U.vm ∧ U.heap = h0) (fun _ _ _ _ _ => True) (fun _ U o U' => ∃ v L, o = .returned v ∧ (Q_rm12a Z k h0 n0 v U'.heap L) ∧ FrameEnd U o U' L ({ frames := 0, cells := 0, slots := 0, locals := 0 } : Room).cells ({ frames := 0, cells := 0, slots := 0, locals := 0 } : Room).slots) := by
  refine MetFree.of_bodySF (plainFor_of_name pn_rdock_burdock_query_ParameterReferenceSameAsPinLaw) hisR ?_
  intro p e s m args below meth c s₁ Bd hml0 hP hK
  obtain ⟨rfl, hZ, hh⟩ := hP
  have hx := Bd.exec
  have hby := Bd.bytes
  have hml : c.maxLocals = 1 := hml0
  have hown : s.vm.findClass "com/example/burdock/burdock/query/ParameterReferenceSameAsPinLaw" = some m.cls := findClass_of_methodNamed Bd.named
  have hnm := (name_of_methodNamed Bd.named Bd.method).1
  have X0 : Stand p l e ({ frames := 0, cells := 0, slots := 0, locals := 0 } : Room) s m #[(.int k)] below meth c s₁ [] 0 0 := Stand.of_body Bd
  have e0 : s₁.heap = h0 := by rw [← hh, Bd.state]; rfl
  have N0 := Fr.nil n0
  have pre0 : ∀ t, Steps p.tables e below (s₁.setTop (mkF m 0 #[.val (.int k)] [])) t → Steps p.tables e below (s₁.setTop (entryFrame m #[(.int k)] 1)) t := fun t kk => castTop (ef_I m k) kk
  obtain ⟨fs, hr, hrun, hended, hW, hsame⟩ := X0.leave (v := some (.int (0 : Int32))) (fun h => by rw [Bd.returns] at h; cases h)
  have eF : (s₁.setFrames fs).heap = h0 := e0
  refine ⟨_, _, pre0 _ ?_, hrun, hended, _, _, rfl, ?_, ⟨_, rfl⟩, hW, hsame.mono (by decide) (by decide)⟩
  · show Steps p.tables e below (s₁.setTop (mkF m 0 #[.val (.int k)] [])) _
    refine XS.iloadN X0.here hx rfl (hb hby d12_0) rfl ?_
    show Steps p.tables e below (s₁.setTop (mkF m 1 #[.val (.int k)] [(.int k)])) _
    refine XS.iconst X0.here hx rfl (hb hby d12_1) ?_
    show Steps p.tables e below (s₁.setTop (mkF m 2 #[.val (.int k)] [(.int (3 : Int32)), (.int k)])) _
    refine XS.icmpNo X0.here hx rfl (hb hby d12_2) rfl (teq h).2 ?_
    show Steps p.tables e below (s₁.setTop (mkF m 5 #[.val (.int k)] [])) _
    refine XS.iconst X0.here hx rfl (hb hby d12_5) ?_
    show Steps p.tables e below (s₁.setTop (mkF m 6 #[.val (.int k)] [(.int (0 : Int32))])) _
    refine XS.goto X0.here hx rfl (pc0 := 6) (pc' := 10) rfl (hb hby d12_6) (by decide) (by decide) ?_
    show Steps p.tables e below (s₁.setTop (mkF m 10 #[.val (.int k)] [(.int (0 : Int32))])) _
    exact own_retI X0 hx Bd.returns (hb hby d12_10) hr
  · exact ⟨rfl, N0, e0⟩
theorem d12_9 : decode method_3_code 9 = .ok (.iload_n 0, 1) := by decide +kernel
def Q_rm12b (Z : State) (k : Int32) (h0 : Heap) (n0 : Nat) (v : Option Value) (hp : Heap) (L : List Loc) : Prop := v = some (.int k) ∧ Fr n0 L ∧ hp = h0
set_option maxRecDepth 65536 in
set_option maxHeartbeats 40000000 in
theorem rm12b (l : Launch) (Z : State) (a0 : Array Value) (hw : ∀ d ∈ tables_1, d.before a0 Z = true) (ws : List Jvm.Cond) (k : Int32) (h0 : Heap) (n0 : Nat) (Z0 : n0 ≤ h0.size) (h : ¬ k = 3) :
    MetFree l (⟨"com/example/burdock/burdock/query/ParameterReferenceSameAsPinLaw", "norm", "(I)I"⟩ : MethodName) (head1 (Jvm.Cond.code (⟨"com/example/burdock/burdock/query/ParameterReferenceSameAsPinLaw", "norm", "(I)I"⟩ : MethodName) method_3_code 1 (some .int) :: ws) ({ frames := 0, cells := 0, slots := 0, locals := 0 } : Room)) (fun aa U => aa = #[(.int k)] ∧ Z.Warmed39 U.vm ∧ U.heap = h0) (fun _ _ _ _ _ => True) (fun _ U o U' => ∃ v L, o = .returned v ∧ (Q_rm12b Z k h0 n0 v U'.heap L) ∧ FrameEnd U o U' L ({ frames := 0, cells := 0, slots := 0, locals := 0 } : Room).cells ({ frames := 0, cells := 0, slots := 0, locals := 0 } : Room).slots) := by
  refine MetFree.of_bodySF (plainFor_of_name pn_rdock_burdock_query_ParameterReferenceSameAsPinLaw) hisR ?_
  intro p e s m args below meth c s₁ Bd hml0 hP hK
  obtain ⟨rfl, hZ, hh⟩ := hP
  have hx := Bd.exec
  have hby := Bd.bytes
  have hml : c.maxLocals = 1 := hml0
  have hown : s.vm.findClass "com/example/burdock/burdock/query/ParameterReferenceSameAsPinLaw" = some m.cls := findClass_of_methodNamed Bd.named
  have hnm := (name_of_methodNamed Bd.named Bd.method).1
  have X0 : Stand p l e ({ frames := 0, cells := 0, slots := 0, locals := 0 } : Room) s m #[(.int k)] below meth c s₁ [] 0 0 := Stand.of_body Bd
  have e0 : s₁.heap = h0 := by rw [← hh, Bd.state]; rfl
  have N0 := Fr.nil n0
  have pre0 : ∀ t, Steps p.tables e below (s₁.setTop (mkF m 0 #[.val (.int k)] [])) t → Steps p.tables e below (s₁.setTop (entryFrame m #[(.int k)] 1)) t := fun t kk => castTop (ef_I m k) kk
  obtain ⟨fs, hr, hrun, hended, hW, hsame⟩ := X0.leave (v := some (.int k)) (fun h => by rw [Bd.returns] at h; cases h)
  have eF : (s₁.setFrames fs).heap = h0 := e0
  refine ⟨_, _, pre0 _ ?_, hrun, hended, _, _, rfl, ?_, ⟨_, rfl⟩, hW, hsame.mono (by decide) (by decide)⟩
  · show Steps p.tables e below (s₁.setTop (mkF m 0 #[.val (.int k)] [])) _
    refine XS.iloadN X0.here hx rfl (hb hby d12_0) rfl ?_
    show Steps p.tables e below (s₁.setTop (mkF m 1 #[.val (.int k)] [(.int k)])) _
    refine XS.iconst X0.here hx rfl (hb hby d12_1) ?_
    show Steps p.tables e below (s₁.setTop (mkF m 2 #[.val (.int k)] [(.int (3 : Int32)), (.int k)])) _
    refine XS.icmpYes X0.here hx rfl (pc0 := 2) (pc' := 9) rfl (hb hby d12_2) rfl (feq h).2 (by decide) (by decide) ?_
    show Steps p.tables e below (s₁.setTop (mkF m 9 #[.val (.int k)] [])) _
    refine XS.iloadN X0.here hx rfl (hb hby d12_9) rfl ?_
    show Steps p.tables e below (s₁.setTop (mkF m 10 #[.val (.int k)] [(.int k)])) _
    exact own_retI X0 hx Bd.returns (hb hby d12_10) hr
  · exact ⟨rfl, N0, e0⟩
def Q_rm12 (Z : State) (k r : Int32) (h0 : Heap) (n0 : Nat) (v : Option Value) (hp : Heap) (L : List Loc) : Prop := v = some (.int r) ∧ Fr n0 L ∧ hp = h0
theorem rm12 (l : Launch) (Z : State) (a0 : Array Value) (hw : ∀ d ∈ tables_1, d.before a0 Z = true) (ws : List Jvm.Cond) (k r : Int32) (h0 : Heap) (n0 : Nat) (Z0 : n0 ≤ h0.size) (Q : own_Norm k r) :
    MetFree l (⟨"com/example/burdock/burdock/query/ParameterReferenceSameAsPinLaw", "norm", "(I)I"⟩ : MethodName) (head1 (Jvm.Cond.code (⟨"com/example/burdock/burdock/query/ParameterReferenceSameAsPinLaw", "norm", "(I)I"⟩ : MethodName) method_3_code 1 (some .int) :: ws) ({ frames := 0, cells := 0, slots := 0, locals := 0 } : Room)) (fun aa U => aa = #[.int k] ∧ Z.Warmed39 U.vm ∧ U.heap = h0) (fun _ _ _ _ _ => True) (fun _ U o U' => ∃ v L, o = .returned v ∧ (Q_rm12 Z k r h0 n0 v U'.heap L) ∧ FrameEnd U o U' L ({ frames := 0, cells := 0, slots := 0, locals := 0 } : Room).cells ({ frames := 0, cells := 0, slots := 0, locals := 0 } : Room).slots) := by
  rcases Q with ⟨h, rfl⟩ | ⟨h, rfl⟩
  · exact rm12a l Z a0 hw ws k h0 n0 Z0 h
  · exact rm12b l Z a0 hw ws _ h0 n0 Z0 h
theorem pn_example_burdock_burdock_query_StructuralExpression : plainName "com/example/burdock/burdock/query/StructuralExpression" = true := by first | (simp [plainName, overriddenIn]; done) | decide +kernel
theorem d10_0 : decode prog_131_method_1_code 0 = .ok (.aload_n 0, 1) := by decide +kernel
theorem d10_1 : decode prog_131_method_1_code 1 = .ok (.invokespecial 1, 3) := by decide +kernel
theorem d10_4 : decode prog_131_method_1_code 4 = .ok (.aload_n 0, 1) := by decide +kernel
theorem d10_5 : decode prog_131_method_1_code 5 = .ok (.aload_n 1, 1) := by decide +kernel
theorem d10_6 : decode prog_131_method_1_code 6 = .ok (.putfield 7, 3) := by decide +kernel
theorem d10_9 : decode prog_131_method_1_code 9 = .ok (.return_, 1) := by decide +kernel
def Q_rm10 (Z : State) (a b : Addr) (u : Value) (h0 : Heap) (n0 : Nat) (v : Option Value) (hp : Heap) (L : List Loc) : Prop := v = none ∧ Fr n0 L ∧ Wr h0 hp a (Jvm.RoadKit.slotOf Z "com/example/burdock/burdock/query/StructuralExpression" "parts" "[Ljava/lang/Object;") (.ref b)
set_option maxRecDepth 65536 in
set_option maxHeartbeats 40000000 in
theorem rm10 (l : Launch) (Z : State) (a0 : Array Value) (hw : ∀ d ∈ tables_1, d.before a0 Z = true) (ws : List Jvm.Cond) (a b : Addr) (u : Value) (h0 : Heap) (n0 : Nat) (Z0 : n0 ≤ h0.size) (E : Exa Z h0 a "com/example/burdock/burdock/query/ParameterReference") (F : Fld Z h0 a "com/example/burdock/burdock/query/StructuralExpression" "parts" "[Ljava/lang/Object;" u) (ge : n0 ≤ a) :
    MetFree l (⟨"com/example/burdock/burdock/query/StructuralExpression", "<init>", "([Ljava/lang/Object;)V"⟩ : MethodName) (head1 (Jvm.Cond.code (⟨"com/example/burdock/burdock/query/StructuralExpression", "<init>", "([Ljava/lang/Object;)V"⟩ : MethodName) prog_131_method_1_code 2 none :: ws) ({ frames := 1, cells := 0, slots := 0, locals := 12 } : Room)) (fun aa U => aa = #[(.ref a), (.ref b)] ∧ Z.Warmed39 U.vm ∧ U.heap = h0) (fun _ _ _ _ _ => True) (fun _ U o U' => ∃ v L, o = .returned v ∧ (Q_rm10 Z a b u h0 n0 v U'.heap L) ∧ FrameEnd U o U' L ({ frames := 1, cells := 0, slots := 0, locals := 12 } : Room).cells ({ frames := 1, cells := 0, slots := 0, locals := 12 } : Room).slots) := by
  refine MetFree.of_bodySF (plainFor_of_name pn_example_burdock_burdock_query_StructuralExpression) hisR ?_
  intro p e s m args below meth c s₁ Bd hml0 hP hK
  obtain ⟨rfl, hZ, hh⟩ := hP
  have hx := Bd.exec
  have hby := Bd.bytes
  have hml : c.maxLocals = 2 := hml0
  have hown : s.vm.findClass "com/example/burdock/burdock/query/StructuralExpression" = some m.cls := findClass_of_methodNamed Bd.named
  have hnm := (name_of_methodNamed Bd.named Bd.method).1
  have X0 : Stand p l e ({ frames := 1, cells := 0, slots := 0, locals := 12 } : Room) s m #[(.ref a), (.ref b)] below meth c s₁ [] 0 0 := Stand.of_body Bd
  have e0 : s₁.heap = h0 := by rw [← hh, Bd.state]; rfl
  have N0 := Fr.nil n0
  have pre0 : ∀ t, Steps p.tables e below (s₁.setTop (mkF m 0 #[.val (.ref a), .val (.ref b)] [])) t → Steps p.tables e below (s₁.setTop (entryFrame m #[(.ref a), (.ref b)] 2)) t := fun t kk => castTop (ef_RR m a b) kk
  obtain ⟨T1, X1, e1, st1⟩ := initO X0 hx hZ hown (hw _ (List.mem_of_getElem? (i := 65) rfl)) (hw _ (List.mem_of_getElem? (i := 20) rfl)) (hw _ (List.mem_of_getElem? (i := 21) rfl)) e0 (g := (mkF m 1 #[.val (.ref a), .val (.ref b)] [(.ref a)])) rfl (by rw [hml]; rfl) rfl (hb hby d10_1) (by decide) (W := 0) (by show 2 * 0 + _ ≤ _; exact Nat.le_of_eq rfl) (by decide)
  obtain ⟨T2, h2, X2, e2, W2, st2⟩ := putF X1 hx hZ hown (host := "") (Or.inl (hw _ (List.mem_of_getElem? (i := 66) rfl))) Via.refl e1 F E (Or.inr ⟨(hw _ (List.mem_of_getElem? (i := 67) rfl)), rfl, hnm⟩) (hw _ (List.mem_of_getElem? (i := 52) rfl)) (ty := (.array (.object "java/lang/Object"))) (by decide) rfl rfl (g := (mkF m 6 #[.val (.ref a), .val (.ref b)] [(.ref b), (.ref a)])) rfl rfl (hb hby d10_6)
  have N2 := Fr.snoc X2 N0 ge
  obtain ⟨fs, hr, hrun, hended, hW, hsame⟩ := X2.leave (v := none) (fun _ => rfl)
  have eF : (T2.setFrames fs).heap = h2 := e2
  refine ⟨_, _, pre0 _ ?_, hrun, hended, _, _, rfl, ?_, ⟨_, rfl⟩, hW, hsame.mono (by decide) (by decide)⟩
  · show Steps p.tables e below (s₁.setTop (mkF m 0 #[.val (.ref a), .val (.ref b)] [])) _
    refine XS.aloadN X0.here hx rfl (hb hby d10_0) rfl rfl ?_
    show Steps p.tables e below (s₁.setTop (mkF m 1 #[.val (.ref a), .val (.ref b)] [(.ref a)])) _
    refine st1 _ ?_
    show Steps p.tables e below (T1.setTop (mkF m 4 #[.val (.ref a), .val (.ref b)] [])) _
    refine XS.aloadN X1.here hx rfl (hb hby d10_4) rfl rfl ?_
    show Steps p.tables e below (T1.setTop (mkF m 5 #[.val (.ref a), .val (.ref b)] [(.ref a)])) _
    refine XS.aloadN X1.here hx rfl (hb hby d10_5) rfl rfl ?_
    show Steps p.tables e below (T1.setTop (mkF m 6 #[.val (.ref a), .val (.ref b)] [(.ref b), (.ref a)])) _
    refine st2 _ ?_
    show Steps p.tables e below (T2.setTop (mkF m 9 #[.val (.ref a), .val (.ref b)] [])) _
    exact X2.returnOut hx Bd.returns (hb hby d10_9) hr
  · exact ⟨rfl, N2, by rw [eF]; exact W2⟩
theorem pn_m_example_burdock_burdock_query_ParameterReference : plainName "com/example/burdock/burdock/query/ParameterReference" = true := by first | (simp [plainName, overriddenIn]; done) | decide +kernel
theorem d9_0 : decode prog_109_method_1_code 0 = .ok (.aload_n 0, 1) := by decide +kernel
theorem d9_1 : decode prog_109_method_1_code 1 = .ok (.iconst 2, 1) := by decide +kernel
theorem d9_2 : decode prog_109_method_1_code 2 = .ok (.anewarray 1, 3) := by decide +kernel
theorem d9_5 : decode prog_109_method_1_code 5 = .ok (.dup, 1) := by decide +kernel
theorem d9_6 : decode prog_109_method_1_code 6 = .ok (.iconst 0, 1) := by decide +kernel
theorem d9_7 : decode prog_109_method_1_code 7 = .ok (.aload_n 1, 1) := by decide +kernel
theorem d9_8 : decode prog_109_method_1_code 8 = .ok (.aastore, 1) := by decide +kernel
theorem d9_9 : decode prog_109_method_1_code 9 = .ok (.dup, 1) := by decide +kernel
theorem d9_10 : decode prog_109_method_1_code 10 = .ok (.iconst 1, 1) := by decide +kernel
theorem d9_11 : decode prog_109_method_1_code 11 = .ok (.aload 4, 2) := by decide +kernel
theorem d9_13 : decode prog_109_method_1_code 13 = .ok (.aastore, 1) := by decide +kernel
theorem pd__ALjava_lang_ObjectERV : parseMethodDescriptor "([Ljava/lang/Object;)V" = some ⟨[(.array (.object "java/lang/Object"))], none⟩ := by decide +kernel
theorem d9_14 : decode prog_109_method_1_code 14 = .ok (.invokespecial 3, 3) := by decide +kernel
theorem d9_17 : decode prog_109_method_1_code 17 = .ok (.aload_n 0, 1) := by decide +kernel
theorem d9_18 : decode prog_109_method_1_code 18 = .ok (.aload_n 1, 1) := by decide +kernel
theorem d9_19 : decode prog_109_method_1_code 19 = .ok (.ldc 9, 2) := by decide +kernel
theorem d9_21 : decode prog_109_method_1_code 21 = .ok (.invokestatic 11, 3) := by decide +kernel
theorem d9_24 : decode prog_109_method_1_code 24 = .ok (.checkcast 17, 3) := by decide +kernel
theorem d9_27 : decode prog_109_method_1_code 27 = .ok (.putfield 19, 3) := by decide +kernel
theorem d9_30 : decode prog_109_method_1_code 30 = .ok (.aload_n 0, 1) := by decide +kernel
theorem d9_31 : decode prog_109_method_1_code 31 = .ok (.iload_n 2, 1) := by decide +kernel
theorem d9_32 : decode prog_109_method_1_code 32 = .ok (.putfield 24, 3) := by decide +kernel
theorem d9_35 : decode prog_109_method_1_code 35 = .ok (.aload_n 0, 1) := by decide +kernel
theorem d9_36 : decode prog_109_method_1_code 36 = .ok (.iload_n 3, 1) := by decide +kernel
theorem d9_37 : decode prog_109_method_1_code 37 = .ok (.putfield 28, 3) := by decide +kernel
theorem d9_40 : decode prog_109_method_1_code 40 = .ok (.aload_n 0, 1) := by decide +kernel
theorem d9_41 : decode prog_109_method_1_code 41 = .ok (.aload 4, 2) := by decide +kernel
theorem d9_43 : decode prog_109_method_1_code 43 = .ok (.putfield 31, 3) := by decide +kernel
theorem d9_46 : decode prog_109_method_1_code 46 = .ok (.return_, 1) := by decide +kernel
def Q_rm9a (Z : State) (a b : Addr) (i j : Int32) (c4 : Addr) (u0 u1 u2 u3 u4 : Value) (h0 : Heap) (n0 : Nat) (v : Option Value) (hp : Heap) (L : List Loc) : Prop := v = none ∧ Fr n0 L ∧ Keep h0 hp [a] ∧ Fld Z hp a "com/example/burdock/burdock/query/ParameterReference" "parameter" "Lcom/example/burdock/burdock/query/Parameter;" (.ref b) ∧ Fld Z hp a "com/example/burdock/burdock/query/ParameterReference" "enumStorage" "Lcom/example/burdock/burdock/model/EnumStorage;" (.ref c4)
set_option maxRecDepth 65536 in
set_option maxHeartbeats 40000000 in
theorem rm9a (l : Launch) (Z : State) (a0 : Array Value) (hw : ∀ d ∈ tables_1, d.before a0 Z = true) (ws : List Jvm.Cond) (a b : Addr) (i j : Int32) (c4 : Addr) (u0 u1 u2 u3 u4 : Value) (h0 : Heap) (n0 : Nat) (Z0 : n0 ≤ h0.size) (E : Exa Z h0 a "com/example/burdock/burdock/query/ParameterReference") (F0 : Fld Z h0 a "com/example/burdock/burdock/query/StructuralExpression" "parts" "[Ljava/lang/Object;" u0) (F1 : Fld Z h0 a "com/example/burdock/burdock/query/ParameterReference" "parameter" "Lcom/example/burdock/burdock/query/Parameter;" u1) (F2 : Fld Z h0 a "com/example/burdock/burdock/query/ParameterReference" "line" "I" u2) (F3 : Fld Z h0 a "com/example/burdock/burdock/query/ParameterReference" "column" "I" u3) (F4 : Fld Z h0 a "com/example/burdock/burdock/query/ParameterReference" "enumStorage" "Lcom/example/burdock/burdock/model/EnumStorage;" u4) (Eb : Exa Z h0 b "com/example/burdock/burdock/query/Parameter") (ge : n0 ≤ a) (Ec : Exa Z h0 c4 "com/example/burdock/burdock/model/EnumStorage") :
    MetFree l (⟨"com/example/burdock/burdock/query/ParameterReference", "<init>", "(Lcom/example/burdock/burdock/query/Parameter;IILcom/example/burdock/burdock/model/EnumStorage;)V"⟩ : MethodName) (head1 (Jvm.Cond.code (⟨"com/example/burdock/burdock/query/ParameterReference", "<init>", "(Lcom/example/burdock/burdock/query/Parameter;IILcom/example/burdock/burdock/model/EnumStorage;)V"⟩ : MethodName) prog_109_method_1_code 5 none :: ws) ({ frames := 2, cells := 3, slots := 42, locals := 26 } : Room)) (fun aa U => aa = #[(.ref a), (.ref b), (.int i), (.int j), (.ref c4)] ∧ Z.Warmed39 U.vm ∧ U.heap = h0) (fun _ _ _ _ _ => True) (fun _ U o U' => ∃ v L, o = .returned v ∧ (Q_rm9a Z a b i j c4 u0 u1 u2 u3 u4 h0 n0 v U'.heap L) ∧ ReturnedEndW U o U' L ({ frames := 2, cells := 3, slots := 42, locals := 26 } : Room).cells ({ frames := 2, cells := 3, slots := 42, locals := 26 } : Room).slots) := by
  refine MetFree.of_bodySF (plainFor_of_name pn_m_example_burdock_burdock_query_ParameterReference) hisR ?_
  intro p e s m args below meth c s₁ Bd hml0 hP hK
  obtain ⟨rfl, hZ, hh⟩ := hP
  have hx := Bd.exec
  have hby := Bd.bytes
  have hml : c.maxLocals = 5 := hml0
  have hown : s.vm.findClass "com/example/burdock/burdock/query/ParameterReference" = some m.cls := findClass_of_methodNamed Bd.named
  have hnm := (name_of_methodNamed Bd.named Bd.method).1
  have X0 : Stand p l e ({ frames := 2, cells := 3, slots := 42, locals := 26 } : Room) s m #[(.ref a), (.ref b), (.int i), (.int j), (.ref c4)] below meth c s₁ [] 0 0 := Stand.of_body Bd
  have e0 : s₁.heap = h0 := by rw [← hh, Bd.state]; rfl
  have N0 := Fr.nil n0
  have pre0 : ∀ t, Steps p.tables e below (s₁.setTop (mkF m 0 #[.val (.ref a), .val (.ref b), .val (.int i), .val (.int j), .val (.ref c4)] [])) t → Steps p.tables e below (s₁.setTop (entryFrame m #[(.ref a), (.ref b), (.int i), (.int j), (.ref c4)] 5)) t := fun t kk => castTop (ef_RRIIR m a b i j c4) kk
  have hS0 := (State.WarmedH.refl s).since 0
  obtain ⟨T1, h1, k1, X1, e1, E1, A1, O1, st1⟩ := newR X0 hx hZ hown (hw _ (List.mem_of_getElem? (i := 57) rfl)) (hw _ (List.mem_of_getElem? (i := 58) rfl)) e0 (g := (mkF m 2 #[.val (.ref a), .val (.ref b), .val (.int i), .val (.int j), .val (.ref c4)] [(.int (2 : Int32)), (.ref a)])) rfl (hb hby d9_2) rfl (by decide) (cap := 2) (by decide) (by decide) (by decide) (by decide)
  obtain ⟨b1, g1⟩ : ∃ z, z = h0.size := ⟨_, rfl⟩
  rw [← g1] at A1 st1
  have gb : n0 ≤ b1 := Nat.le_trans Z0 (Nat.le_of_eq g1.symm)
  have kl1 := Nat.le_trans (Nat.zero_le _) E1.1
  have hin2 : ¬ ((0 : Int32) < 0 ∨ (newA k1 (.object "java/lang/Object") (2 : Int32)).slots.size ≤ (0 : Int32).toNatClampNeg) := by first | (rw [sz_new]; decide) | (rw [sz_set, sz_new]; decide)
  obtain ⟨T2, h2, X2, e2, W2, st2⟩ := stR X1 hx hZ e1 A1 (j := (0 : Int32)) hin2 rfl (Sto.ofV A1 rfl O1 (Ins.of_exa (Eb.ext E1) (hw _ (List.mem_of_getElem? (i := 59) rfl)))) (g := (mkF m 8 #[.val (.ref a), .val (.ref b), .val (.int i), .val (.int j), .val (.ref c4)] [(.ref b), (.int (0 : Int32)), (.ref b1), (.ref b1), (.ref a)])) rfl rfl (hb hby d9_8)
  have N2 := Fr.snoc X2 N0 gb
  have kl2 := Nat.le_trans kl1 (Nat.le_of_eq W2.size.symm)
  have A2 := A1.same W2
  have hin3 : ¬ ((1 : Int32) < 0 ∨ ((newA k1 (.object "java/lang/Object") (2 : Int32)).setSlot (0 : Int32).toNatClampNeg (.ref b)).slots.size ≤ (1 : Int32).toNatClampNeg) := by first | (rw [sz_new]; decide) | (rw [sz_set, sz_new]; decide)
  obtain ⟨T3, h3, X3, e3, W3, st3⟩ := stR X2 hx hZ e2 A2 (j := (1 : Int32)) hin3 rfl (Sto.ofV A2 rfl O1 (Ins.of_exa ((Ec.ext E1).wr W2) (hw _ (List.mem_of_getElem? (i := 90) rfl)))) (g := (mkF m 13 #[.val (.ref a), .val (.ref b), .val (.int i), .val (.int j), .val (.ref c4)] [(.ref c4), (.int (1 : Int32)), (.ref b1), (.ref b1), (.ref a)])) rfl rfl (hb hby d9_13)
  have N3 := Fr.snoc X3 N2 gb
  have kl3 := Nat.le_trans kl2 (Nat.le_of_eq W3.size.symm)
  have nb : a ≠ b1 := Nat.ne_of_lt (Nat.lt_of_lt_of_le E.lt (Nat.le_of_eq g1.symm))
  have Ea1 := (((E.ext E1).wr W2).wr W3)
  have F01 := (((F0.ext E1).other W2 (Or.inl nb)).other W3 (Or.inl nb))
  have Zs : n0 ≤ h3.size := Nat.le_trans Z0 (Nat.le_trans E1.1 (Nat.le_of_eq (W3.size.trans W2.size).symm))
  have K1 : Keep h0 h3 [a] := (((Keep.refl h0 [a]).ext E1).wr W2 (Or.inr (Nat.le_of_eq g1.symm))).wr W3 (Or.inr (Nat.le_of_eq g1.symm))
  obtain ⟨_, _, ⟨T4, L4, k4, n4⟩, -, X4, ⟨Lc4, hQ4, l4, y4, z4⟩, st4⟩ := X3.specialBack hx (y := (⟨"com/example/burdock/burdock/query/StructuralExpression", "<init>", "([Ljava/lang/Object;)V"⟩ : MethodName)) rfl hown (mvT hZ (hw _ (List.mem_of_getElem? (i := 60) rfl))) (mvT hZ (hw _ (List.mem_of_getElem? (i := 61) rfl))) (mvT hZ (hw _ (List.mem_of_getElem? (i := 64) rfl))) (by decide) (backOf (W := 0) (rm10 l Z a0 hw [] a b1 u0 h3 n0 Zs Ea1 F01 ge) hZ (hw _ (List.mem_of_getElem? (i := 64) rfl)) (hw _ (List.mem_of_getElem? (i := 63) rfl)) (by decide) (by decide)) (g := (mkF m 14 #[.val (.ref a), .val (.ref b), .val (.int i), .val (.int j), .val (.ref c4)] [(.ref b1), (.ref a)])) rfl (by rw [hml]; rfl) (Steps.refl _) (a := a) (argsL := [(.ref b1)]) (rest := []) (lenOf pd__ALjava_lang_ObjectERV rfl) rfl (by show 2 * 0 + _ ≤ _; exact Nat.le_of_eq rfl) (hb hby d9_14) (fun _ _ => ⟨rfl, e3, (by decide : 1 + 0 ≤ _), (by decide : 2 + 0 ≤ _)⟩)
  dsimp only [Pt.U, Pt.locs, Pt.cells, Pt.slots] at X4 l4 y4 z4 st4 hQ4
  subst l4 y4 z4
  obtain ⟨rfl, N4q, W4⟩ := hQ4
  have N4 := Fr.app N3 N4q
  have kl4 := Nat.le_trans kl3 (Nat.le_of_eq W4.size.symm)
  have G1 := (((F1.ext E1).other W2 (Or.inl nb)).other W3 (Or.inl nb)).other W4 (Or.inr (slot_ne (Or.inr (hw _ (List.mem_of_getElem? (i := 73) rfl))) (Or.inr (hw _ (List.mem_of_getElem? (i := 67) rfl))) (by decide) (t := (.object "com/example/burdock/burdock/query/Parameter")) (t' := (.array (.object "java/lang/Object"))) (by decide) (by decide)))
  have G2 := (((F2.ext E1).other W2 (Or.inl nb)).other W3 (Or.inl nb)).other W4 (Or.inr (slot_ne (Or.inr (hw _ (List.mem_of_getElem? (i := 75) rfl))) (Or.inr (hw _ (List.mem_of_getElem? (i := 67) rfl))) (by decide) (t := .int) (t' := (.array (.object "java/lang/Object"))) (by decide) (by decide)))
  have G3 := (((F3.ext E1).other W2 (Or.inl nb)).other W3 (Or.inl nb)).other W4 (Or.inr (slot_ne (Or.inr (hw _ (List.mem_of_getElem? (i := 77) rfl))) (Or.inr (hw _ (List.mem_of_getElem? (i := 67) rfl))) (by decide) (t := .int) (t' := (.array (.object "java/lang/Object"))) (by decide) (by decide)))
  have G4 := (((F4.ext E1).other W2 (Or.inl nb)).other W3 (Or.inl nb)).other W4 (Or.inr (slot_ne (Or.inr (hw _ (List.mem_of_getElem? (i := 79) rfl))) (Or.inr (hw _ (List.mem_of_getElem? (i := 67) rfl))) (by decide) (t := (.object "com/example/burdock/burdock/model/EnumStorage")) (t' := (.array (.object "java/lang/Object"))) (by decide) (by decide)))
  have Ea2 := Ea1.wr W4
  have Eb2 := (((Eb.ext E1).wr W2).wr W3).wr W4
  have K2 := K1.wr W4 (Or.inl (List.mem_of_getElem? (i := 0) rfl))
  obtain ⟨a5, T5, h5, k5, X5, e5, E5, hS5, kl5, hZ5, ho5, st5⟩ := ldcS (s := s) (vm0 := s.vm) X4 hx hZ hown (hw _ (List.mem_of_getElem? (i := 68) rfl)) (own_strW hw) rfl hS0 kl4 (g := (mkF m 19 #[.val (.ref a), .val (.ref b), .val (.int i), .val (.int j), .val (.ref c4)] [(.ref b), (.ref a)])) rfl (hb hby d9_19) (n := 36) (by decide) (by decide) (by decide) (by decide)
  have Zl : n0 ≤ h5.size := Nat.le_trans (Nat.le_trans Z0 K2.1) E5.1
  have K3 := K2.ext E5
  obtain ⟨_, _, ⟨T6, L6, k6, n6⟩, -, X6, ⟨Lc6, hQ6, l6, y6, z6⟩, st6⟩ := Jvm.LawKit.callS X5 hx (y := (⟨"java/util/Objects", "requireNonNull", "(Ljava/lang/Object;Ljava/lang/String;)Ljava/lang/Object;"⟩ : MethodName)) ho5 (mvT hZ5 (hw _ (List.mem_of_getElem? (i := 69) rfl))) (mvT hZ5 (hw _ (List.mem_of_getElem? (i := 37) rfl))) (mvT hZ5 (hw _ (List.mem_of_getElem? (i := 38) rfl))) (mvT hZ5 (hw _ (List.mem_of_getElem? (i := 39) rfl))) (by decide) (backOf (W := 1) (rm7 l Z a0 hw [] b a5 h5 n0 Zl) hZ5 (hw _ (List.mem_of_getElem? (i := 39) rfl)) (hw _ (List.mem_of_getElem? (i := 38) rfl)) (by decide) (by decide)) (g := (mkF m 21 #[.val (.ref a), .val (.ref b), .val (.int i), .val (.int j), .val (.ref c4)] [(.ref a5), (.ref b), (.ref a)])) rfl (by rw [hml]; rfl) (argsL := [(.ref b), (.ref a5)]) (rest := [(.ref a)]) (lenOf pd__Ljava_lang_ObjectELjava_lang_StringERLjava_lang_ObjectE rfl) rfl (by show 2 * 0 + _ ≤ _; exact Nat.le_of_eq rfl) (hb hby d9_21) (fun _ _ => ⟨rfl, e5, (by decide : 3 + 0 ≤ _), (by decide : 42 + 0 ≤ _)⟩)
  dsimp only [Pt.U, Pt.locs, Pt.cells, Pt.slots] at X6 l6 y6 z6 st6 hQ6
  subst l6 y6 z6
  obtain ⟨rfl, N6q, eh6⟩ := hQ6
  have N6 := Fr.app N4 N6q
  obtain ⟨T7, X7, e7, st7⟩ := castY X6 hx hZ5 ho5 (hw _ (List.mem_of_getElem? (i := 70) rfl)) eh6 (Ins.self (Eb2.ext E5)) (g := (mkF m 24 #[.val (.ref a), .val (.ref b), .val (.int i), .val (.int j), .val (.ref c4)] [(.ref b), (.ref a)])) rfl rfl (hb hby d9_24)
  obtain ⟨T8, h8, X8, e8, W8, st8⟩ := putF X7 hx hZ5 ho5 (host := "") (Or.inl (hw _ (List.mem_of_getElem? (i := 72) rfl))) Via.refl e7 (G1.ext E5) (Ea2.ext E5) (Or.inr ⟨(hw _ (List.mem_of_getElem? (i := 73) rfl)), rfl, hnm⟩) (hw _ (List.mem_of_getElem? (i := 52) rfl)) (ty := (.object "com/example/burdock/burdock/query/Parameter")) (by decide) rfl rfl (g := (mkF m 27 #[.val (.ref a), .val (.ref b), .val (.int i), .val (.int j), .val (.ref c4)] [(.ref b), (.ref a)])) rfl rfl (hb hby d9_27)
  have N8 := Fr.snoc X8 N6 ge
  have kl8 := Nat.le_trans kl5 (Nat.le_of_eq W8.size.symm)
  have KK0 := K3.wr W8 (Or.inl (List.mem_of_getElem? (i := 0) rfl))
  have P0 := (G1.ext E5).same W8
  obtain ⟨T9, h9, X9, e9, W9, st9⟩ := putF X8 hx hZ5 ho5 (host := "") (Or.inl (hw _ (List.mem_of_getElem? (i := 74) rfl))) Via.refl e8 ((G2.ext E5).other W8 (Or.inr (slot_ne (Or.inr (hw _ (List.mem_of_getElem? (i := 75) rfl))) (Or.inr (hw _ (List.mem_of_getElem? (i := 73) rfl))) (by decide) (t := .int) (t' := (.object "com/example/burdock/burdock/query/Parameter")) (by decide) (by decide)))) ((Ea2.ext E5).wr W8) (Or.inr ⟨(hw _ (List.mem_of_getElem? (i := 75) rfl)), rfl, hnm⟩) (hw _ (List.mem_of_getElem? (i := 52) rfl)) (ty := .int) (by decide) rfl rfl (g := (mkF m 32 #[.val (.ref a), .val (.ref b), .val (.int i), .val (.int j), .val (.ref c4)] [(.int i), (.ref a)])) rfl rfl (hb hby d9_32)
  have N9 := Fr.snoc X9 N8 ge
  have kl9 := Nat.le_trans kl8 (Nat.le_of_eq W9.size.symm)
  have KK1 := KK0.wr W9 (Or.inl (List.mem_of_getElem? (i := 0) rfl))
  have P1 := P0.other W9 (Or.inr (slot_ne (Or.inr (hw _ (List.mem_of_getElem? (i := 73) rfl))) (Or.inr (hw _ (List.mem_of_getElem? (i := 75) rfl))) (by decide) (t := (.object "com/example/burdock/burdock/query/Parameter")) (t' := .int) (by decide) (by decide)))
  obtain ⟨T10, h10, X10, e10, W10, st10⟩ := putF X9 hx hZ5 ho5 (host := "") (Or.inl (hw _ (List.mem_of_getElem? (i := 76) rfl))) Via.refl e9 (((G3.ext E5).other W8 (Or.inr (slot_ne (Or.inr (hw _ (List.mem_of_getElem? (i := 77) rfl))) (Or.inr (hw _ (List.mem_of_getElem? (i := 73) rfl))) (by decide) (t := .int) (t' := (.object "com/example/burdock/burdock/query/Parameter")) (by decide) (by decide)))).other W9 (Or.inr (slot_ne (Or.inr (hw _ (List.mem_of_getElem? (i := 77) rfl))) (Or.inr (hw _ (List.mem_of_getElem? (i := 75) rfl))) (by decide) (t := .int) (t' := .int) (by decide) (by decide)))) (((Ea2.ext E5).wr W8).wr W9) (Or.inr ⟨(hw _ (List.mem_of_getElem? (i := 77) rfl)), rfl, hnm⟩) (hw _ (List.mem_of_getElem? (i := 52) rfl)) (ty := .int) (by decide) rfl rfl (g := (mkF m 37 #[.val (.ref a), .val (.ref b), .val (.int i), .val (.int j), .val (.ref c4)] [(.int j), (.ref a)])) rfl rfl (hb hby d9_37)
  have N10 := Fr.snoc X10 N9 ge
  have kl10 := Nat.le_trans kl9 (Nat.le_of_eq W10.size.symm)
  have KK2 := KK1.wr W10 (Or.inl (List.mem_of_getElem? (i := 0) rfl))
  have P2 := P1.other W10 (Or.inr (slot_ne (Or.inr (hw _ (List.mem_of_getElem? (i := 73) rfl))) (Or.inr (hw _ (List.mem_of_getElem? (i := 77) rfl))) (by decide) (t := (.object "com/example/burdock/burdock/query/Parameter")) (t' := .int) (by decide) (by decide)))
  obtain ⟨T11, h11, X11, e11, W11, st11⟩ := putF X10 hx hZ5 ho5 (host := "") (Or.inl (hw _ (List.mem_of_getElem? (i := 78) rfl))) Via.refl e10 ((((G4.ext E5).other W8 (Or.inr (slot_ne (Or.inr (hw _ (List.mem_of_getElem? (i := 79) rfl))) (Or.inr (hw _ (List.mem_of_getElem? (i := 73) rfl))) (by decide) (t := (.object "com/example/burdock/burdock/model/EnumStorage")) (t' := (.object "com/example/burdock/burdock/query/Parameter")) (by decide) (by decide)))).other W9 (Or.inr (slot_ne (Or.inr (hw _ (List.mem_of_getElem? (i := 79) rfl))) (Or.inr (hw _ (List.mem_of_getElem? (i := 75) rfl))) (by decide) (t := (.object "com/example/burdock/burdock/model/EnumStorage")) (t' := .int) (by decide) (by decide)))).other W10 (Or.inr (slot_ne (Or.inr (hw _ (List.mem_of_getElem? (i := 79) rfl))) (Or.inr (hw _ (List.mem_of_getElem? (i := 77) rfl))) (by decide) (t := (.object "com/example/burdock/burdock/model/EnumStorage")) (t' := .int) (by decide) (by decide)))) ((((Ea2.ext E5).wr W8).wr W9).wr W10) (Or.inr ⟨(hw _ (List.mem_of_getElem? (i := 79) rfl)), rfl, hnm⟩) (hw _ (List.mem_of_getElem? (i := 52) rfl)) (ty := (.object "com/example/burdock/burdock/model/EnumStorage")) (by decide) rfl rfl (g := (mkF m 43 #[.val (.ref a), .val (.ref b), .val (.int i), .val (.int j), .val (.ref c4)] [(.ref c4), (.ref a)])) rfl rfl (hb hby d9_43)
  have N11 := Fr.snoc X11 N10 ge
  have kl11 := Nat.le_trans kl10 (Nat.le_of_eq W11.size.symm)
  have KK3 := KK2.wr W11 (Or.inl (List.mem_of_getElem? (i := 0) rfl))
  have P3 := P2.other W11 (Or.inr (slot_ne (Or.inr (hw _ (List.mem_of_getElem? (i := 73) rfl))) (Or.inr (hw _ (List.mem_of_getElem? (i := 79) rfl))) (by decide) (t := (.object "com/example/burdock/burdock/query/Parameter")) (t' := (.object "com/example/burdock/burdock/model/EnumStorage")) (by decide) (by decide)))
  have Q3 := ((((G4.ext E5).other W8 (Or.inr (slot_ne (Or.inr (hw _ (List.mem_of_getElem? (i := 79) rfl))) (Or.inr (hw _ (List.mem_of_getElem? (i := 73) rfl))) (by decide) (t := (.object "com/example/burdock/burdock/model/EnumStorage")) (t' := (.object "com/example/burdock/burdock/query/Parameter")) (by decide) (by decide)))).other W9 (Or.inr (slot_ne (Or.inr (hw _ (List.mem_of_getElem? (i := 79) rfl))) (Or.inr (hw _ (List.mem_of_getElem? (i := 75) rfl))) (by decide) (t := (.object "com/example/burdock/burdock/model/EnumStorage")) (t' := .int) (by decide) (by decide)))).other W10 (Or.inr (slot_ne (Or.inr (hw _ (List.mem_of_getElem? (i := 79) rfl))) (Or.inr (hw _ (List.mem_of_getElem? (i := 77) rfl))) (by decide) (t := (.object "com/example/burdock/burdock/model/EnumStorage")) (t' := .int) (by decide) (by decide)))).same W11
  obtain ⟨fs, hr, hrun, hended, hEnd⟩ := X11.leaveW hS5 (by rw [e11]; exact kl11) (v := none) (fun _ => rfl)
  have eF : (T11.setFrames fs).heap = h11 := e11
  refine ⟨_, _, pre0 _ ?_, hrun, hended, _, _, rfl, ?_, hEnd.1, hEnd.2.1, hEnd.2.2.1, hEnd.2.2.2.mono (by decide) (by decide)⟩
  · show Steps p.tables e below (s₁.setTop (mkF m 0 #[.val (.ref a), .val (.ref b), .val (.int i), .val (.int j), .val (.ref c4)] [])) _
    refine XS.aloadN X0.here hx rfl (hb hby d9_0) rfl rfl ?_
    show Steps p.tables e below (s₁.setTop (mkF m 1 #[.val (.ref a), .val (.ref b), .val (.int i), .val (.int j), .val (.ref c4)] [(.ref a)])) _
    refine XS.iconst X0.here hx rfl (hb hby d9_1) ?_
    show Steps p.tables e below (s₁.setTop (mkF m 2 #[.val (.ref a), .val (.ref b), .val (.int i), .val (.int j), .val (.ref c4)] [(.int (2 : Int32)), (.ref a)])) _
    refine st1 _ ?_
    show Steps p.tables e below (T1.setTop (mkF m 5 #[.val (.ref a), .val (.ref b), .val (.int i), .val (.int j), .val (.ref c4)] [(.ref b1), (.ref a)])) _
    refine XS.dup X1.here hx rfl (hb hby d9_5) rfl rfl ?_
    show Steps p.tables e below (T1.setTop (mkF m 6 #[.val (.ref a), .val (.ref b), .val (.int i), .val (.int j), .val (.ref c4)] [(.ref b1), (.ref b1), (.ref a)])) _
    refine XS.iconst X1.here hx rfl (hb hby d9_6) ?_
    show Steps p.tables e below (T1.setTop (mkF m 7 #[.val (.ref a), .val (.ref b), .val (.int i), .val (.int j), .val (.ref c4)] [(.int (0 : Int32)), (.ref b1), (.ref b1), (.ref a)])) _
    refine XS.aloadN X1.here hx rfl (hb hby d9_7) rfl rfl ?_
    show Steps p.tables e below (T1.setTop (mkF m 8 #[.val (.ref a), .val (.ref b), .val (.int i), .val (.int j), .val (.ref c4)] [(.ref b), (.int (0 : Int32)), (.ref b1), (.ref b1), (.ref a)])) _
    refine st2 _ ?_
    show Steps p.tables e below (T2.setTop (mkF m 9 #[.val (.ref a), .val (.ref b), .val (.int i), .val (.int j), .val (.ref c4)] [(.ref b1), (.ref a)])) _
    refine XS.dup X2.here hx rfl (hb hby d9_9) rfl rfl ?_
    show Steps p.tables e below (T2.setTop (mkF m 10 #[.val (.ref a), .val (.ref b), .val (.int i), .val (.int j), .val (.ref c4)] [(.ref b1), (.ref b1), (.ref a)])) _
    refine XS.iconst X2.here hx rfl (hb hby d9_10) ?_
    show Steps p.tables e below (T2.setTop (mkF m 11 #[.val (.ref a), .val (.ref b), .val (.int i), .val (.int j), .val (.ref c4)] [(.int (1 : Int32)), (.ref b1), (.ref b1), (.ref a)])) _
    refine XS.aload X2.here hx rfl (hb hby d9_11) rfl rfl ?_
    show Steps p.tables e below (T2.setTop (mkF m 13 #[.val (.ref a), .val (.ref b), .val (.int i), .val (.int j), .val (.ref c4)] [(.ref c4), (.int (1 : Int32)), (.ref b1), (.ref b1), (.ref a)])) _
    refine st3 _ ?_
    show Steps p.tables e below (T3.setTop (mkF m 14 #[.val (.ref a), .val (.ref b), .val (.int i), .val (.int j), .val (.ref c4)] [(.ref b1), (.ref a)])) _
    refine st4.trans ?_
    show Steps p.tables e below (T4.setTop (mkF m 17 #[.val (.ref a), .val (.ref b), .val (.int i), .val (.int j), .val (.ref c4)] [])) _
    refine XS.aloadN X4.here hx rfl (hb hby d9_17) rfl rfl ?_
    show Steps p.tables e below (T4.setTop (mkF m 18 #[.val (.ref a), .val (.ref b), .val (.int i), .val (.int j), .val (.ref c4)] [(.ref a)])) _
    refine XS.aloadN X4.here hx rfl (hb hby d9_18) rfl rfl ?_
    show Steps p.tables e below (T4.setTop (mkF m 19 #[.val (.ref a), .val (.ref b), .val (.int i), .val (.int j), .val (.ref c4)] [(.ref b), (.ref a)])) _
    refine st5 _ ?_
    show Steps p.tables e below (T5.setTop (mkF m 21 #[.val (.ref a), .val (.ref b), .val (.int i), .val (.int j), .val (.ref c4)] [(.ref a5), (.ref b), (.ref a)])) _
    refine st6 _ ?_
    show Steps p.tables e below (T6.setTop (mkF m 24 #[.val (.ref a), .val (.ref b), .val (.int i), .val (.int j), .val (.ref c4)] [(.ref b), (.ref a)])) _
    refine st7 _ ?_
    show Steps p.tables e below (T7.setTop (mkF m 27 #[.val (.ref a), .val (.ref b), .val (.int i), .val (.int j), .val (.ref c4)] [(.ref b), (.ref a)])) _
    refine st8 _ ?_
    show Steps p.tables e below (T8.setTop (mkF m 30 #[.val (.ref a), .val (.ref b), .val (.int i), .val (.int j), .val (.ref c4)] [])) _
    refine XS.aloadN X8.here hx rfl (hb hby d9_30) rfl rfl ?_
    show Steps p.tables e below (T8.setTop (mkF m 31 #[.val (.ref a), .val (.ref b), .val (.int i), .val (.int j), .val (.ref c4)] [(.ref a)])) _
    refine XS.iloadN X8.here hx rfl (hb hby d9_31) rfl ?_
    show Steps p.tables e below (T8.setTop (mkF m 32 #[.val (.ref a), .val (.ref b), .val (.int i), .val (.int j), .val (.ref c4)] [(.int i), (.ref a)])) _
    refine st9 _ ?_
    show Steps p.tables e below (T9.setTop (mkF m 35 #[.val (.ref a), .val (.ref b), .val (.int i), .val (.int j), .val (.ref c4)] [])) _
    refine XS.aloadN X9.here hx rfl (hb hby d9_35) rfl rfl ?_
    show Steps p.tables e below (T9.setTop (mkF m 36 #[.val (.ref a), .val (.ref b), .val (.int i), .val (.int j), .val (.ref c4)] [(.ref a)])) _
    refine XS.iloadN X9.here hx rfl (hb hby d9_36) rfl ?_
    show Steps p.tables e below (T9.setTop (mkF m 37 #[.val (.ref a), .val (.ref b), .val (.int i), .val (.int j), .val (.ref c4)] [(.int j), (.ref a)])) _
    refine st10 _ ?_
    show Steps p.tables e below (T10.setTop (mkF m 40 #[.val (.ref a), .val (.ref b), .val (.int i), .val (.int j), .val (.ref c4)] [])) _
    refine XS.aloadN X10.here hx rfl (hb hby d9_40) rfl rfl ?_
    show Steps p.tables e below (T10.setTop (mkF m 41 #[.val (.ref a), .val (.ref b), .val (.int i), .val (.int j), .val (.ref c4)] [(.ref a)])) _
    refine XS.aload X10.here hx rfl (hb hby d9_41) rfl rfl ?_
    show Steps p.tables e below (T10.setTop (mkF m 43 #[.val (.ref a), .val (.ref b), .val (.int i), .val (.int j), .val (.ref c4)] [(.ref c4), (.ref a)])) _
    refine st11 _ ?_
    show Steps p.tables e below (T11.setTop (mkF m 46 #[.val (.ref a), .val (.ref b), .val (.int i), .val (.int j), .val (.ref c4)] [])) _
    exact X11.returnOut hx Bd.returns (hb hby d9_46) hr
  · exact ⟨rfl, N11, by rw [eF]; exact KK3, by rw [eF]; exact P3, by rw [eF]; exact Q3⟩
def Q_rm9b (Z : State) (a b : Addr) (i j : Int32) (u0 u1 u2 u3 u4 : Value) (h0 : Heap) (n0 : Nat) (v : Option Value) (hp : Heap) (L : List Loc) : Prop := v = none ∧ Fr n0 L ∧ Keep h0 hp [a] ∧ Fld Z hp a "com/example/burdock/burdock/query/ParameterReference" "parameter" "Lcom/example/burdock/burdock/query/Parameter;" (.ref b) ∧ Fld Z hp a "com/example/burdock/burdock/query/ParameterReference" "enumStorage" "Lcom/example/burdock/burdock/model/EnumStorage;" .null
set_option maxRecDepth 65536 in
set_option maxHeartbeats 40000000 in
theorem rm9b (l : Launch) (Z : State) (a0 : Array Value) (hw : ∀ d ∈ tables_1, d.before a0 Z = true) (ws : List Jvm.Cond) (a b : Addr) (i j : Int32) (u0 u1 u2 u3 u4 : Value) (h0 : Heap) (n0 : Nat) (Z0 : n0 ≤ h0.size) (E : Exa Z h0 a "com/example/burdock/burdock/query/ParameterReference") (F0 : Fld Z h0 a "com/example/burdock/burdock/query/StructuralExpression" "parts" "[Ljava/lang/Object;" u0) (F1 : Fld Z h0 a "com/example/burdock/burdock/query/ParameterReference" "parameter" "Lcom/example/burdock/burdock/query/Parameter;" u1) (F2 : Fld Z h0 a "com/example/burdock/burdock/query/ParameterReference" "line" "I" u2) (F3 : Fld Z h0 a "com/example/burdock/burdock/query/ParameterReference" "column" "I" u3) (F4 : Fld Z h0 a "com/example/burdock/burdock/query/ParameterReference" "enumStorage" "Lcom/example/burdock/burdock/model/EnumStorage;" u4) (Eb : Exa Z h0 b "com/example/burdock/burdock/query/Parameter") (ge : n0 ≤ a) :
    MetFree l (⟨"com/example/burdock/burdock/query/ParameterReference", "<init>", "(Lcom/example/burdock/burdock/query/Parameter;IILcom/example/burdock/burdock/model/EnumStorage;)V"⟩ : MethodName) (head1 (Jvm.Cond.code (⟨"com/example/burdock/burdock/query/ParameterReference", "<init>", "(Lcom/example/burdock/burdock/query/Parameter;IILcom/example/burdock/burdock/model/EnumStorage;)V"⟩ : MethodName) prog_109_method_1_code 5 none :: ws) ({ frames := 2, cells := 3, slots := 42, locals := 26 } : Room)) (fun aa U => aa = #[(.ref a), (.ref b), (.int i), (.int j), .null] ∧ Z.Warmed39 U.vm ∧ U.heap = h0) (fun _ _ _ _ _ => True) (fun _ U o U' => ∃ v L, o = .returned v ∧ (Q_rm9b Z a b i j u0 u1 u2 u3 u4 h0 n0 v U'.heap L) ∧ ReturnedEndW U o U' L ({ frames := 2, cells := 3, slots := 42, locals := 26 } : Room).cells ({ frames := 2, cells := 3, slots := 42, locals := 26 } : Room).slots) := by
  refine MetFree.of_bodySF (plainFor_of_name pn_m_example_burdock_burdock_query_ParameterReference) hisR ?_
  intro p e s m args below meth c s₁ Bd hml0 hP hK
  obtain ⟨rfl, hZ, hh⟩ := hP
  have hx := Bd.exec
  have hby := Bd.bytes
  have hml : c.maxLocals = 5 := hml0
  have hown : s.vm.findClass "com/example/burdock/burdock/query/ParameterReference" = some m.cls := findClass_of_methodNamed Bd.named
  have hnm := (name_of_methodNamed Bd.named Bd.method).1
  have X0 : Stand p l e ({ frames := 2, cells := 3, slots := 42, locals := 26 } : Room) s m #[(.ref a), (.ref b), (.int i), (.int j), .null] below meth c s₁ [] 0 0 := Stand.of_body Bd
  have e0 : s₁.heap = h0 := by rw [← hh, Bd.state]; rfl
  have N0 := Fr.nil n0
  have pre0 : ∀ t, Steps p.tables e below (s₁.setTop (mkF m 0 #[.val (.ref a), .val (.ref b), .val (.int i), .val (.int j), .val .null] [])) t → Steps p.tables e below (s₁.setTop (entryFrame m #[(.ref a), (.ref b), (.int i), (.int j), .null] 5)) t := fun t kk => castTop (ef_RRIIN m a b i j) kk
  have hS0 := (State.WarmedH.refl s).since 0
  obtain ⟨T1, h1, k1, X1, e1, E1, A1, O1, st1⟩ := newR X0 hx hZ hown (hw _ (List.mem_of_getElem? (i := 57) rfl)) (hw _ (List.mem_of_getElem? (i := 58) rfl)) e0 (g := (mkF m 2 #[.val (.ref a), .val (.ref b), .val (.int i), .val (.int j), .val .null] [(.int (2 : Int32)), (.ref a)])) rfl (hb hby d9_2) rfl (by decide) (cap := 2) (by decide) (by decide) (by decide) (by decide)
  obtain ⟨b1, g1⟩ : ∃ z, z = h0.size := ⟨_, rfl⟩
  rw [← g1] at A1 st1
  have gb : n0 ≤ b1 := Nat.le_trans Z0 (Nat.le_of_eq g1.symm)
  have kl1 := Nat.le_trans (Nat.zero_le _) E1.1
  have hin2 : ¬ ((0 : Int32) < 0 ∨ (newA k1 (.object "java/lang/Object") (2 : Int32)).slots.size ≤ (0 : Int32).toNatClampNeg) := by first | (rw [sz_new]; decide) | (rw [sz_set, sz_new]; decide)
  obtain ⟨T2, h2, X2, e2, W2, st2⟩ := stR X1 hx hZ e1 A1 (j := (0 : Int32)) hin2 rfl (Sto.ofV A1 rfl O1 (Ins.of_exa (Eb.ext E1) (hw _ (List.mem_of_getElem? (i := 59) rfl)))) (g := (mkF m 8 #[.val (.ref a), .val (.ref b), .val (.int i), .val (.int j), .val .null] [(.ref b), (.int (0 : Int32)), (.ref b1), (.ref b1), (.ref a)])) rfl rfl (hb hby d9_8)
  have N2 := Fr.snoc X2 N0 gb
  have kl2 := Nat.le_trans kl1 (Nat.le_of_eq W2.size.symm)
  have A2 := A1.same W2
  have hin3 : ¬ ((1 : Int32) < 0 ∨ ((newA k1 (.object "java/lang/Object") (2 : Int32)).setSlot (0 : Int32).toNatClampNeg (.ref b)).slots.size ≤ (1 : Int32).toNatClampNeg) := by first | (rw [sz_new]; decide) | (rw [sz_set, sz_new]; decide)
  obtain ⟨T3, h3, X3, e3, W3, st3⟩ := stR X2 hx hZ e2 A2 (j := (1 : Int32)) hin3 rfl (Or.inl rfl) (g := (mkF m 13 #[.val (.ref a), .val (.ref b), .val (.int i), .val (.int j), .val .null] [.null, (.int (1 : Int32)), (.ref b1), (.ref b1), (.ref a)])) rfl rfl (hb hby d9_13)
  have N3 := Fr.snoc X3 N2 gb
  have kl3 := Nat.le_trans kl2 (Nat.le_of_eq W3.size.symm)
  have nb : a ≠ b1 := Nat.ne_of_lt (Nat.lt_of_lt_of_le E.lt (Nat.le_of_eq g1.symm))
  have Ea1 := (((E.ext E1).wr W2).wr W3)
  have F01 := (((F0.ext E1).other W2 (Or.inl nb)).other W3 (Or.inl nb))
  have Zs : n0 ≤ h3.size := Nat.le_trans Z0 (Nat.le_trans E1.1 (Nat.le_of_eq (W3.size.trans W2.size).symm))
  have K1 : Keep h0 h3 [a] := (((Keep.refl h0 [a]).ext E1).wr W2 (Or.inr (Nat.le_of_eq g1.symm))).wr W3 (Or.inr (Nat.le_of_eq g1.symm))
  obtain ⟨_, _, ⟨T4, L4, k4, n4⟩, -, X4, ⟨Lc4, hQ4, l4, y4, z4⟩, st4⟩ := X3.specialBack hx (y := (⟨"com/example/burdock/burdock/query/StructuralExpression", "<init>", "([Ljava/lang/Object;)V"⟩ : MethodName)) rfl hown (mvT hZ (hw _ (List.mem_of_getElem? (i := 60) rfl))) (mvT hZ (hw _ (List.mem_of_getElem? (i := 61) rfl))) (mvT hZ (hw _ (List.mem_of_getElem? (i := 64) rfl))) (by decide) (backOf (W := 0) (rm10 l Z a0 hw [] a b1 u0 h3 n0 Zs Ea1 F01 ge) hZ (hw _ (List.mem_of_getElem? (i := 64) rfl)) (hw _ (List.mem_of_getElem? (i := 63) rfl)) (by decide) (by decide)) (g := (mkF m 14 #[.val (.ref a), .val (.ref b), .val (.int i), .val (.int j), .val .null] [(.ref b1), (.ref a)])) rfl (by rw [hml]; rfl) (Steps.refl _) (a := a) (argsL := [(.ref b1)]) (rest := []) (lenOf pd__ALjava_lang_ObjectERV rfl) rfl (by show 2 * 0 + _ ≤ _; exact Nat.le_of_eq rfl) (hb hby d9_14) (fun _ _ => ⟨rfl, e3, (by decide : 1 + 0 ≤ _), (by decide : 2 + 0 ≤ _)⟩)
  dsimp only [Pt.U, Pt.locs, Pt.cells, Pt.slots] at X4 l4 y4 z4 st4 hQ4
  subst l4 y4 z4
  obtain ⟨rfl, N4q, W4⟩ := hQ4
  have N4 := Fr.app N3 N4q
  have kl4 := Nat.le_trans kl3 (Nat.le_of_eq W4.size.symm)
  have G1 := (((F1.ext E1).other W2 (Or.inl nb)).other W3 (Or.inl nb)).other W4 (Or.inr (slot_ne (Or.inr (hw _ (List.mem_of_getElem? (i := 73) rfl))) (Or.inr (hw _ (List.mem_of_getElem? (i := 67) rfl))) (by decide) (t := (.object "com/example/burdock/burdock/query/Parameter")) (t' := (.array (.object "java/lang/Object"))) (by decide) (by decide)))
  have G2 := (((F2.ext E1).other W2 (Or.inl nb)).other W3 (Or.inl nb)).other W4 (Or.inr (slot_ne (Or.inr (hw _ (List.mem_of_getElem? (i := 75) rfl))) (Or.inr (hw _ (List.mem_of_getElem? (i := 67) rfl))) (by decide) (t := .int) (t' := (.array (.object "java/lang/Object"))) (by decide) (by decide)))
  have G3 := (((F3.ext E1).other W2 (Or.inl nb)).other W3 (Or.inl nb)).other W4 (Or.inr (slot_ne (Or.inr (hw _ (List.mem_of_getElem? (i := 77) rfl))) (Or.inr (hw _ (List.mem_of_getElem? (i := 67) rfl))) (by decide) (t := .int) (t' := (.array (.object "java/lang/Object"))) (by decide) (by decide)))
  have G4 := (((F4.ext E1).other W2 (Or.inl nb)).other W3 (Or.inl nb)).other W4 (Or.inr (slot_ne (Or.inr (hw _ (List.mem_of_getElem? (i := 79) rfl))) (Or.inr (hw _ (List.mem_of_getElem? (i := 67) rfl))) (by decide) (t := (.object "com/example/burdock/burdock/model/EnumStorage")) (t' := (.array (.object "java/lang/Object"))) (by decide) (by decide)))
  have Ea2 := Ea1.wr W4
  have Eb2 := (((Eb.ext E1).wr W2).wr W3).wr W4
  have K2 := K1.wr W4 (Or.inl (List.mem_of_getElem? (i := 0) rfl))
  obtain ⟨a5, T5, h5, k5, X5, e5, E5, hS5, kl5, hZ5, ho5, st5⟩ := ldcS (s := s) (vm0 := s.vm) X4 hx hZ hown (hw _ (List.mem_of_getElem? (i := 68) rfl)) (own_strW hw) rfl hS0 kl4 (g := (mkF m 19 #[.val (.ref a), .val (.ref b), .val (.int i), .val (.int j), .val .null] [(.ref b), (.ref a)])) rfl (hb hby d9_19) (n := 36) (by decide) (by decide) (by decide) (by decide)
  have Zl : n0 ≤ h5.size := Nat.le_trans (Nat.le_trans Z0 K2.1) E5.1
  have K3 := K2.ext E5
  obtain ⟨_, _, ⟨T6, L6, k6, n6⟩, -, X6, ⟨Lc6, hQ6, l6, y6, z6⟩, st6⟩ := Jvm.LawKit.callS X5 hx (y := (⟨"java/util/Objects", "requireNonNull", "(Ljava/lang/Object;Ljava/lang/String;)Ljava/lang/Object;"⟩ : MethodName)) ho5 (mvT hZ5 (hw _ (List.mem_of_getElem? (i := 69) rfl))) (mvT hZ5 (hw _ (List.mem_of_getElem? (i := 37) rfl))) (mvT hZ5 (hw _ (List.mem_of_getElem? (i := 38) rfl))) (mvT hZ5 (hw _ (List.mem_of_getElem? (i := 39) rfl))) (by decide) (backOf (W := 1) (rm7 l Z a0 hw [] b a5 h5 n0 Zl) hZ5 (hw _ (List.mem_of_getElem? (i := 39) rfl)) (hw _ (List.mem_of_getElem? (i := 38) rfl)) (by decide) (by decide)) (g := (mkF m 21 #[.val (.ref a), .val (.ref b), .val (.int i), .val (.int j), .val .null] [(.ref a5), (.ref b), (.ref a)])) rfl (by rw [hml]; rfl) (argsL := [(.ref b), (.ref a5)]) (rest := [(.ref a)]) (lenOf pd__Ljava_lang_ObjectELjava_lang_StringERLjava_lang_ObjectE rfl) rfl (by show 2 * 0 + _ ≤ _; exact Nat.le_of_eq rfl) (hb hby d9_21) (fun _ _ => ⟨rfl, e5, (by decide : 3 + 0 ≤ _), (by decide : 42 + 0 ≤ _)⟩)
  dsimp only [Pt.U, Pt.locs, Pt.cells, Pt.slots] at X6 l6 y6 z6 st6 hQ6
  subst l6 y6 z6
  obtain ⟨rfl, N6q, eh6⟩ := hQ6
  have N6 := Fr.app N4 N6q
  obtain ⟨T7, X7, e7, st7⟩ := castY X6 hx hZ5 ho5 (hw _ (List.mem_of_getElem? (i := 70) rfl)) eh6 (Ins.self (Eb2.ext E5)) (g := (mkF m 24 #[.val (.ref a), .val (.ref b), .val (.int i), .val (.int j), .val .null] [(.ref b), (.ref a)])) rfl rfl (hb hby d9_24)
  obtain ⟨T8, h8, X8, e8, W8, st8⟩ := putF X7 hx hZ5 ho5 (host := "") (Or.inl (hw _ (List.mem_of_getElem? (i := 72) rfl))) Via.refl e7 (G1.ext E5) (Ea2.ext E5) (Or.inr ⟨(hw _ (List.mem_of_getElem? (i := 73) rfl)), rfl, hnm⟩) (hw _ (List.mem_of_getElem? (i := 52) rfl)) (ty := (.object "com/example/burdock/burdock/query/Parameter")) (by decide) rfl rfl (g := (mkF m 27 #[.val (.ref a), .val (.ref b), .val (.int i), .val (.int j), .val .null] [(.ref b), (.ref a)])) rfl rfl (hb hby d9_27)
  have N8 := Fr.snoc X8 N6 ge
  have kl8 := Nat.le_trans kl5 (Nat.le_of_eq W8.size.symm)
  have KK0 := K3.wr W8 (Or.inl (List.mem_of_getElem? (i := 0) rfl))
  have P0 := (G1.ext E5).same W8
  obtain ⟨T9, h9, X9, e9, W9, st9⟩ := putF X8 hx hZ5 ho5 (host := "") (Or.inl (hw _ (List.mem_of_getElem? (i := 74) rfl))) Via.refl e8 ((G2.ext E5).other W8 (Or.inr (slot_ne (Or.inr (hw _ (List.mem_of_getElem? (i := 75) rfl))) (Or.inr (hw _ (List.mem_of_getElem? (i := 73) rfl))) (by decide) (t := .int) (t' := (.object "com/example/burdock/burdock/query/Parameter")) (by decide) (by decide)))) ((Ea2.ext E5).wr W8) (Or.inr ⟨(hw _ (List.mem_of_getElem? (i := 75) rfl)), rfl, hnm⟩) (hw _ (List.mem_of_getElem? (i := 52) rfl)) (ty := .int) (by decide) rfl rfl (g := (mkF m 32 #[.val (.ref a), .val (.ref b), .val (.int i), .val (.int j), .val .null] [(.int i), (.ref a)])) rfl rfl (hb hby d9_32)
  have N9 := Fr.snoc X9 N8 ge
  have kl9 := Nat.le_trans kl8 (Nat.le_of_eq W9.size.symm)
  have KK1 := KK0.wr W9 (Or.inl (List.mem_of_getElem? (i := 0) rfl))
  have P1 := P0.other W9 (Or.inr (slot_ne (Or.inr (hw _ (List.mem_of_getElem? (i := 73) rfl))) (Or.inr (hw _ (List.mem_of_getElem? (i := 75) rfl))) (by decide) (t := (.object "com/example/burdock/burdock/query/Parameter")) (t' := .int) (by decide) (by decide)))
  obtain ⟨T10, h10, X10, e10, W10, st10⟩ := putF X9 hx hZ5 ho5 (host := "") (Or.inl (hw _ (List.mem_of_getElem? (i := 76) rfl))) Via.refl e9 (((G3.ext E5).other W8 (Or.inr (slot_ne (Or.inr (hw _ (List.mem_of_getElem? (i := 77) rfl))) (Or.inr (hw _ (List.mem_of_getElem? (i := 73) rfl))) (by decide) (t := .int) (t' := (.object "com/example/burdock/burdock/query/Parameter")) (by decide) (by decide)))).other W9 (Or.inr (slot_ne (Or.inr (hw _ (List.mem_of_getElem? (i := 77) rfl))) (Or.inr (hw _ (List.mem_of_getElem? (i := 75) rfl))) (by decide) (t := .int) (t' := .int) (by decide) (by decide)))) (((Ea2.ext E5).wr W8).wr W9) (Or.inr ⟨(hw _ (List.mem_of_getElem? (i := 77) rfl)), rfl, hnm⟩) (hw _ (List.mem_of_getElem? (i := 52) rfl)) (ty := .int) (by decide) rfl rfl (g := (mkF m 37 #[.val (.ref a), .val (.ref b), .val (.int i), .val (.int j), .val .null] [(.int j), (.ref a)])) rfl rfl (hb hby d9_37)
  have N10 := Fr.snoc X10 N9 ge
  have kl10 := Nat.le_trans kl9 (Nat.le_of_eq W10.size.symm)
  have KK2 := KK1.wr W10 (Or.inl (List.mem_of_getElem? (i := 0) rfl))
  have P2 := P1.other W10 (Or.inr (slot_ne (Or.inr (hw _ (List.mem_of_getElem? (i := 73) rfl))) (Or.inr (hw _ (List.mem_of_getElem? (i := 77) rfl))) (by decide) (t := (.object "com/example/burdock/burdock/query/Parameter")) (t' := .int) (by decide) (by decide)))
  obtain ⟨T11, h11, X11, e11, W11, st11⟩ := putF X10 hx hZ5 ho5 (host := "") (Or.inl (hw _ (List.mem_of_getElem? (i := 78) rfl))) Via.refl e10 ((((G4.ext E5).other W8 (Or.inr (slot_ne (Or.inr (hw _ (List.mem_of_getElem? (i := 79) rfl))) (Or.inr (hw _ (List.mem_of_getElem? (i := 73) rfl))) (by decide) (t := (.object "com/example/burdock/burdock/model/EnumStorage")) (t' := (.object "com/example/burdock/burdock/query/Parameter")) (by decide) (by decide)))).other W9 (Or.inr (slot_ne (Or.inr (hw _ (List.mem_of_getElem? (i := 79) rfl))) (Or.inr (hw _ (List.mem_of_getElem? (i := 75) rfl))) (by decide) (t := (.object "com/example/burdock/burdock/model/EnumStorage")) (t' := .int) (by decide) (by decide)))).other W10 (Or.inr (slot_ne (Or.inr (hw _ (List.mem_of_getElem? (i := 79) rfl))) (Or.inr (hw _ (List.mem_of_getElem? (i := 77) rfl))) (by decide) (t := (.object "com/example/burdock/burdock/model/EnumStorage")) (t' := .int) (by decide) (by decide)))) ((((Ea2.ext E5).wr W8).wr W9).wr W10) (Or.inr ⟨(hw _ (List.mem_of_getElem? (i := 79) rfl)), rfl, hnm⟩) (hw _ (List.mem_of_getElem? (i := 52) rfl)) (ty := (.object "com/example/burdock/burdock/model/EnumStorage")) (by decide) rfl rfl (g := (mkF m 43 #[.val (.ref a), .val (.ref b), .val (.int i), .val (.int j), .val .null] [.null, (.ref a)])) rfl rfl (hb hby d9_43)
  have N11 := Fr.snoc X11 N10 ge
  have kl11 := Nat.le_trans kl10 (Nat.le_of_eq W11.size.symm)
  have KK3 := KK2.wr W11 (Or.inl (List.mem_of_getElem? (i := 0) rfl))
  have P3 := P2.other W11 (Or.inr (slot_ne (Or.inr (hw _ (List.mem_of_getElem? (i := 73) rfl))) (Or.inr (hw _ (List.mem_of_getElem? (i := 79) rfl))) (by decide) (t := (.object "com/example/burdock/burdock/query/Parameter")) (t' := (.object "com/example/burdock/burdock/model/EnumStorage")) (by decide) (by decide)))
  have Q3 := ((((G4.ext E5).other W8 (Or.inr (slot_ne (Or.inr (hw _ (List.mem_of_getElem? (i := 79) rfl))) (Or.inr (hw _ (List.mem_of_getElem? (i := 73) rfl))) (by decide) (t := (.object "com/example/burdock/burdock/model/EnumStorage")) (t' := (.object "com/example/burdock/burdock/query/Parameter")) (by decide) (by decide)))).other W9 (Or.inr (slot_ne (Or.inr (hw _ (List.mem_of_getElem? (i := 79) rfl))) (Or.inr (hw _ (List.mem_of_getElem? (i := 75) rfl))) (by decide) (t := (.object "com/example/burdock/burdock/model/EnumStorage")) (t' := .int) (by decide) (by decide)))).other W10 (Or.inr (slot_ne (Or.inr (hw _ (List.mem_of_getElem? (i := 79) rfl))) (Or.inr (hw _ (List.mem_of_getElem? (i := 77) rfl))) (by decide) (t := (.object "com/example/burdock/burdock/model/EnumStorage")) (t' := .int) (by decide) (by decide)))).same W11
  obtain ⟨fs, hr, hrun, hended, hEnd⟩ := X11.leaveW hS5 (by rw [e11]; exact kl11) (v := none) (fun _ => rfl)
  have eF : (T11.setFrames fs).heap = h11 := e11
  refine ⟨_, _, pre0 _ ?_, hrun, hended, _, _, rfl, ?_, hEnd.1, hEnd.2.1, hEnd.2.2.1, hEnd.2.2.2.mono (by decide) (by decide)⟩
  · show Steps p.tables e below (s₁.setTop (mkF m 0 #[.val (.ref a), .val (.ref b), .val (.int i), .val (.int j), .val .null] [])) _
    refine XS.aloadN X0.here hx rfl (hb hby d9_0) rfl rfl ?_
    show Steps p.tables e below (s₁.setTop (mkF m 1 #[.val (.ref a), .val (.ref b), .val (.int i), .val (.int j), .val .null] [(.ref a)])) _
    refine XS.iconst X0.here hx rfl (hb hby d9_1) ?_
    show Steps p.tables e below (s₁.setTop (mkF m 2 #[.val (.ref a), .val (.ref b), .val (.int i), .val (.int j), .val .null] [(.int (2 : Int32)), (.ref a)])) _
    refine st1 _ ?_
    show Steps p.tables e below (T1.setTop (mkF m 5 #[.val (.ref a), .val (.ref b), .val (.int i), .val (.int j), .val .null] [(.ref b1), (.ref a)])) _
    refine XS.dup X1.here hx rfl (hb hby d9_5) rfl rfl ?_
    show Steps p.tables e below (T1.setTop (mkF m 6 #[.val (.ref a), .val (.ref b), .val (.int i), .val (.int j), .val .null] [(.ref b1), (.ref b1), (.ref a)])) _
    refine XS.iconst X1.here hx rfl (hb hby d9_6) ?_
    show Steps p.tables e below (T1.setTop (mkF m 7 #[.val (.ref a), .val (.ref b), .val (.int i), .val (.int j), .val .null] [(.int (0 : Int32)), (.ref b1), (.ref b1), (.ref a)])) _
    refine XS.aloadN X1.here hx rfl (hb hby d9_7) rfl rfl ?_
    show Steps p.tables e below (T1.setTop (mkF m 8 #[.val (.ref a), .val (.ref b), .val (.int i), .val (.int j), .val .null] [(.ref b), (.int (0 : Int32)), (.ref b1), (.ref b1), (.ref a)])) _
    refine st2 _ ?_
    show Steps p.tables e below (T2.setTop (mkF m 9 #[.val (.ref a), .val (.ref b), .val (.int i), .val (.int j), .val .null] [(.ref b1), (.ref a)])) _
    refine XS.dup X2.here hx rfl (hb hby d9_9) rfl rfl ?_
    show Steps p.tables e below (T2.setTop (mkF m 10 #[.val (.ref a), .val (.ref b), .val (.int i), .val (.int j), .val .null] [(.ref b1), (.ref b1), (.ref a)])) _
    refine XS.iconst X2.here hx rfl (hb hby d9_10) ?_
    show Steps p.tables e below (T2.setTop (mkF m 11 #[.val (.ref a), .val (.ref b), .val (.int i), .val (.int j), .val .null] [(.int (1 : Int32)), (.ref b1), (.ref b1), (.ref a)])) _
    refine XS.aload X2.here hx rfl (hb hby d9_11) rfl rfl ?_
    show Steps p.tables e below (T2.setTop (mkF m 13 #[.val (.ref a), .val (.ref b), .val (.int i), .val (.int j), .val .null] [.null, (.int (1 : Int32)), (.ref b1), (.ref b1), (.ref a)])) _
    refine st3 _ ?_
    show Steps p.tables e below (T3.setTop (mkF m 14 #[.val (.ref a), .val (.ref b), .val (.int i), .val (.int j), .val .null] [(.ref b1), (.ref a)])) _
    refine st4.trans ?_
    show Steps p.tables e below (T4.setTop (mkF m 17 #[.val (.ref a), .val (.ref b), .val (.int i), .val (.int j), .val .null] [])) _
    refine XS.aloadN X4.here hx rfl (hb hby d9_17) rfl rfl ?_
    show Steps p.tables e below (T4.setTop (mkF m 18 #[.val (.ref a), .val (.ref b), .val (.int i), .val (.int j), .val .null] [(.ref a)])) _
    refine XS.aloadN X4.here hx rfl (hb hby d9_18) rfl rfl ?_
    show Steps p.tables e below (T4.setTop (mkF m 19 #[.val (.ref a), .val (.ref b), .val (.int i), .val (.int j), .val .null] [(.ref b), (.ref a)])) _
    refine st5 _ ?_
    show Steps p.tables e below (T5.setTop (mkF m 21 #[.val (.ref a), .val (.ref b), .val (.int i), .val (.int j), .val .null] [(.ref a5), (.ref b), (.ref a)])) _
    refine st6 _ ?_
    show Steps p.tables e below (T6.setTop (mkF m 24 #[.val (.ref a), .val (.ref b), .val (.int i), .val (.int j), .val .null] [(.ref b), (.ref a)])) _
    refine st7 _ ?_
    show Steps p.tables e below (T7.setTop (mkF m 27 #[.val (.ref a), .val (.ref b), .val (.int i), .val (.int j), .val .null] [(.ref b), (.ref a)])) _
    refine st8 _ ?_
    show Steps p.tables e below (T8.setTop (mkF m 30 #[.val (.ref a), .val (.ref b), .val (.int i), .val (.int j), .val .null] [])) _
    refine XS.aloadN X8.here hx rfl (hb hby d9_30) rfl rfl ?_
    show Steps p.tables e below (T8.setTop (mkF m 31 #[.val (.ref a), .val (.ref b), .val (.int i), .val (.int j), .val .null] [(.ref a)])) _
    refine XS.iloadN X8.here hx rfl (hb hby d9_31) rfl ?_
    show Steps p.tables e below (T8.setTop (mkF m 32 #[.val (.ref a), .val (.ref b), .val (.int i), .val (.int j), .val .null] [(.int i), (.ref a)])) _
    refine st9 _ ?_
    show Steps p.tables e below (T9.setTop (mkF m 35 #[.val (.ref a), .val (.ref b), .val (.int i), .val (.int j), .val .null] [])) _
    refine XS.aloadN X9.here hx rfl (hb hby d9_35) rfl rfl ?_
    show Steps p.tables e below (T9.setTop (mkF m 36 #[.val (.ref a), .val (.ref b), .val (.int i), .val (.int j), .val .null] [(.ref a)])) _
    refine XS.iloadN X9.here hx rfl (hb hby d9_36) rfl ?_
    show Steps p.tables e below (T9.setTop (mkF m 37 #[.val (.ref a), .val (.ref b), .val (.int i), .val (.int j), .val .null] [(.int j), (.ref a)])) _
    refine st10 _ ?_
    show Steps p.tables e below (T10.setTop (mkF m 40 #[.val (.ref a), .val (.ref b), .val (.int i), .val (.int j), .val .null] [])) _
    refine XS.aloadN X10.here hx rfl (hb hby d9_40) rfl rfl ?_
    show Steps p.tables e below (T10.setTop (mkF m 41 #[.val (.ref a), .val (.ref b), .val (.int i), .val (.int j), .val .null] [(.ref a)])) _
    refine XS.aload X10.here hx rfl (hb hby d9_41) rfl rfl ?_
    show Steps p.tables e below (T10.setTop (mkF m 43 #[.val (.ref a), .val (.ref b), .val (.int i), .val (.int j), .val .null] [.null, (.ref a)])) _
    refine st11 _ ?_
    show Steps p.tables e below (T11.setTop (mkF m 46 #[.val (.ref a), .val (.ref b), .val (.int i), .val (.int j), .val .null] [])) _
    exact X11.returnOut hx Bd.returns (hb hby d9_46) hr
  · exact ⟨rfl, N11, by rw [eF]; exact KK3, by rw [eF]; exact P3, by rw [eF]; exact Q3⟩
def Q_rm9 (Z : State) (a b : Addr) (i j : Int32) (v4 u0 u1 u2 u3 u4 : Value) (h0 : Heap) (n0 : Nat) (v : Option Value) (hp : Heap) (L : List Loc) : Prop := v = none ∧ Fr n0 L ∧ Keep h0 hp [a] ∧ Fld Z hp a "com/example/burdock/burdock/query/ParameterReference" "parameter" "Lcom/example/burdock/burdock/query/Parameter;" (.ref b) ∧ Fld Z hp a "com/example/burdock/burdock/query/ParameterReference" "enumStorage" "Lcom/example/burdock/burdock/model/EnumStorage;" v4
theorem rm9 (l : Launch) (Z : State) (a0 : Array Value) (hw : ∀ d ∈ tables_1, d.before a0 Z = true) (ws : List Jvm.Cond) (a b : Addr) (i j : Int32) (v4 u0 u1 u2 u3 u4 : Value) (h0 : Heap) (n0 : Nat) (Z0 : n0 ≤ h0.size) (E : Exa Z h0 a "com/example/burdock/burdock/query/ParameterReference") (F0 : Fld Z h0 a "com/example/burdock/burdock/query/StructuralExpression" "parts" "[Ljava/lang/Object;" u0) (F1 : Fld Z h0 a "com/example/burdock/burdock/query/ParameterReference" "parameter" "Lcom/example/burdock/burdock/query/Parameter;" u1) (F2 : Fld Z h0 a "com/example/burdock/burdock/query/ParameterReference" "line" "I" u2) (F3 : Fld Z h0 a "com/example/burdock/burdock/query/ParameterReference" "column" "I" u3) (F4 : Fld Z h0 a "com/example/burdock/burdock/query/ParameterReference" "enumStorage" "Lcom/example/burdock/burdock/model/EnumStorage;" u4) (Eb : Exa Z h0 b "com/example/burdock/burdock/query/Parameter") (ge : n0 ≤ a) (hv : v4 = .null ∨ ∃ c4, v4 = .ref c4 ∧ Exa Z h0 c4 "com/example/burdock/burdock/model/EnumStorage") :
    MetFree l (⟨"com/example/burdock/burdock/query/ParameterReference", "<init>", "(Lcom/example/burdock/burdock/query/Parameter;IILcom/example/burdock/burdock/model/EnumStorage;)V"⟩ : MethodName) (head1 (Jvm.Cond.code (⟨"com/example/burdock/burdock/query/ParameterReference", "<init>", "(Lcom/example/burdock/burdock/query/Parameter;IILcom/example/burdock/burdock/model/EnumStorage;)V"⟩ : MethodName) prog_109_method_1_code 5 none :: ws) ({ frames := 2, cells := 3, slots := 42, locals := 26 } : Room)) (fun aa U => aa = #[.ref a, .ref b, .int i, .int j, v4] ∧ Z.Warmed39 U.vm ∧ U.heap = h0) (fun _ _ _ _ _ => True) (fun _ U o U' => ∃ v L, o = .returned v ∧ (Q_rm9 Z a b i j v4 u0 u1 u2 u3 u4 h0 n0 v U'.heap L) ∧ ReturnedEndW U o U' L ({ frames := 2, cells := 3, slots := 42, locals := 26 } : Room).cells ({ frames := 2, cells := 3, slots := 42, locals := 26 } : Room).slots) := by
  rcases hv with rfl | ⟨c4, rfl, Ec⟩
  · exact rm9b l Z a0 hw ws a b i j u0 u1 u2 u3 u4 h0 n0 Z0 E F0 F1 F2 F3 F4 Eb ge
  · exact rm9a l Z a0 hw ws a b i j c4 u0 u1 u2 u3 u4 h0 n0 Z0 E F0 F1 F2 F3 F4 Eb ge Ec
theorem d11_0 : decode prog_109_method_8_code 0 = .ok (.aload_n 1, 1) := by decide +kernel
theorem d11_1 : decode prog_109_method_8_code 1 = .ok (.instanceof 20, 3) := by decide +kernel
theorem d11_4 : decode prog_109_method_8_code 4 = .ok (.ifCond .eq 34, 3) := by decide +kernel
theorem d11_7 : decode prog_109_method_8_code 7 = .ok (.aload_n 1, 1) := by decide +kernel
theorem d11_8 : decode prog_109_method_8_code 8 = .ok (.checkcast 20, 3) := by decide +kernel
theorem d11_11 : decode prog_109_method_8_code 11 = .ok (.astore_n 2, 1) := by decide +kernel
theorem d11_12 : decode prog_109_method_8_code 12 = .ok (.aload_n 2, 1) := by decide +kernel
theorem d11_13 : decode prog_109_method_8_code 13 = .ok (.getfield 19, 3) := by decide +kernel
theorem d11_16 : decode prog_109_method_8_code 16 = .ok (.aload_n 0, 1) := by decide +kernel
theorem d11_17 : decode prog_109_method_8_code 17 = .ok (.getfield 19, 3) := by decide +kernel
theorem d11_20 : decode prog_109_method_8_code 20 = .ok (.if_acmp .ne 18, 3) := by decide +kernel
theorem d11_38 : decode prog_109_method_8_code 38 = .ok (.iconst 0, 1) := by decide +kernel
theorem d11_39 : decode prog_109_method_8_code 39 = .ok (.ireturn, 1) := by decide +kernel
def Q_rm11a (Z : State) (a b p1 p2 : Addr) (h0 : Heap) (n0 : Nat) (v : Option Value) (hp : Heap) (L : List Loc) : Prop := v = some (.int 0) ∧ Fr n0 L ∧ hp = h0
set_option maxRecDepth 65536 in
set_option maxHeartbeats 40000000 in
theorem rm11a (l : Launch) (Z : State) (a0 : Array Value) (hw : ∀ d ∈ tables_1, d.before a0 Z = true) (ws : List Jvm.Cond) (a b p1 p2 : Addr) (h0 : Heap) (n0 : Nat) (Z0 : n0 ≤ h0.size) (E : Exa Z h0 b "com/example/burdock/burdock/query/ParameterReference") (Fa : Fld Z h0 a "com/example/burdock/burdock/query/ParameterReference" "parameter" "Lcom/example/burdock/burdock/query/Parameter;" (.ref p1)) (Fb : Fld Z h0 b "com/example/burdock/burdock/query/ParameterReference" "parameter" "Lcom/example/burdock/burdock/query/Parameter;" (.ref p2)) (h : ¬ p2 = p1) :
    MetFree l (⟨"com/example/burdock/burdock/query/ParameterReference", "sameAs", "(Ljava/lang/Object;)Z"⟩ : MethodName) (head1 (Jvm.Cond.code (⟨"com/example/burdock/burdock/query/ParameterReference", "sameAs", "(Ljava/lang/Object;)Z"⟩ : MethodName) prog_109_method_8_code 3 (some .boolean) :: ws) ({ frames := 0, cells := 0, slots := 0, locals := 0 } : Room)) (fun aa U => aa = #[(.ref a), (.ref b)] ∧ Z.Warmed39 U.vm ∧ U.heap = h0) (fun _ _ _ _ _ => True) (fun _ U o U' => ∃ v L, o = .returned v ∧ (Q_rm11a Z a b p1 p2 h0 n0 v U'.heap L) ∧ FrameEnd U o U' L ({ frames := 0, cells := 0, slots := 0, locals := 0 } : Room).cells ({ frames := 0, cells := 0, slots := 0, locals := 0 } : Room).slots) := by
  refine MetFree.of_bodySF (plainFor_of_name pn_m_example_burdock_burdock_query_ParameterReference) hisR ?_
  intro p e s m args below meth c s₁ Bd hml0 hP hK
  obtain ⟨rfl, hZ, hh⟩ := hP
  have hx := Bd.exec
  have hby := Bd.bytes
  have hml : c.maxLocals = 3 := hml0
  have hown : s.vm.findClass "com/example/burdock/burdock/query/ParameterReference" = some m.cls := findClass_of_methodNamed Bd.named
  have hnm := (name_of_methodNamed Bd.named Bd.method).1
  have X0 : Stand p l e ({ frames := 0, cells := 0, slots := 0, locals := 0 } : Room) s m #[(.ref a), (.ref b)] below meth c s₁ [] 0 0 := Stand.of_body Bd
  have e0 : s₁.heap = h0 := by rw [← hh, Bd.state]; rfl
  have N0 := Fr.nil n0
  have pre0 : ∀ t, Steps p.tables e below (s₁.setTop (mkF m 0 #[.val (.ref a), .val (.ref b), .unset] [])) t → Steps p.tables e below (s₁.setTop (entryFrame m #[(.ref a), (.ref b)] 3)) t := fun t kk => castTop (ef_RR3 m a b) kk
  obtain ⟨T1, X1, e1, st1⟩ := instY X0 hx hZ hown (hw _ (List.mem_of_getElem? (i := 85) rfl)) e0 (Ins.self E) (g := (mkF m 1 #[.val (.ref a), .val (.ref b), .unset] [(.ref b)])) rfl rfl (hb hby d11_1)
  obtain ⟨T2, X2, e2, st2⟩ := castY X1 hx hZ hown (hw _ (List.mem_of_getElem? (i := 85) rfl)) e1 (Ins.self E) (g := (mkF m 8 #[.val (.ref a), .val (.ref b), .unset] [(.ref b)])) rfl rfl (hb hby d11_8)
  obtain ⟨T3, X3, e3, st3⟩ := getF X2 hx hZ hown (host := "") (Or.inl (hw _ (List.mem_of_getElem? (i := 72) rfl))) Via.refl e2 Fb (g := (mkF m 13 #[.val (.ref a), .val (.ref b), .val (.ref b)] [(.ref b)])) rfl rfl (hb hby d11_13)
  obtain ⟨T4, X4, e4, st4⟩ := getF X3 hx hZ hown (host := "") (Or.inl (hw _ (List.mem_of_getElem? (i := 72) rfl))) Via.refl e3 Fa (g := (mkF m 17 #[.val (.ref a), .val (.ref b), .val (.ref b)] [(.ref a), (.ref p2)])) rfl rfl (hb hby d11_17)
  obtain ⟨fs, hr, hrun, hended, hW, hsame⟩ := X4.leave (v := some (.int (0 : Int32))) (fun h => by rw [Bd.returns] at h; cases h)
  have eF : (T4.setFrames fs).heap = h0 := e4
  refine ⟨_, _, pre0 _ ?_, hrun, hended, _, _, rfl, ?_, ⟨_, rfl⟩, hW, hsame.mono (by decide) (by decide)⟩
  · show Steps p.tables e below (s₁.setTop (mkF m 0 #[.val (.ref a), .val (.ref b), .unset] [])) _
    refine XS.aloadN X0.here hx rfl (hb hby d11_0) rfl rfl ?_
    show Steps p.tables e below (s₁.setTop (mkF m 1 #[.val (.ref a), .val (.ref b), .unset] [(.ref b)])) _
    refine st1 _ ?_
    show Steps p.tables e below (T1.setTop (mkF m 4 #[.val (.ref a), .val (.ref b), .unset] [(.int (1 : Int32))])) _
    refine XS.ifNo X1.here hx rfl (hb hby d11_4) rfl ((if0 _ _).trans (feq (by decide : ¬ ((1 : Int32) = (0 : Int32)))).1) ?_
    show Steps p.tables e below (T1.setTop (mkF m 7 #[.val (.ref a), .val (.ref b), .unset] [])) _
    refine XS.aloadN X1.here hx rfl (hb hby d11_7) rfl rfl ?_
    show Steps p.tables e below (T1.setTop (mkF m 8 #[.val (.ref a), .val (.ref b), .unset] [(.ref b)])) _
    refine st2 _ ?_
    show Steps p.tables e below (T2.setTop (mkF m 11 #[.val (.ref a), .val (.ref b), .unset] [(.ref b)])) _
    refine XS.astoreN X2.here hx rfl (hb hby d11_11) rfl rfl (l' := #[.val (.ref a), .val (.ref b), .val (.ref b)]) rfl ?_
    show Steps p.tables e below (T2.setTop (mkF m 12 #[.val (.ref a), .val (.ref b), .val (.ref b)] [])) _
    refine XS.aloadN X2.here hx rfl (hb hby d11_12) rfl rfl ?_
    show Steps p.tables e below (T2.setTop (mkF m 13 #[.val (.ref a), .val (.ref b), .val (.ref b)] [(.ref b)])) _
    refine st3 _ ?_
    show Steps p.tables e below (T3.setTop (mkF m 16 #[.val (.ref a), .val (.ref b), .val (.ref b)] [(.ref p2)])) _
    refine XS.aloadN X3.here hx rfl (hb hby d11_16) rfl rfl ?_
    show Steps p.tables e below (T3.setTop (mkF m 17 #[.val (.ref a), .val (.ref b), .val (.ref b)] [(.ref a), (.ref p2)])) _
    refine st4 _ ?_
    show Steps p.tables e below (T4.setTop (mkF m 20 #[.val (.ref a), .val (.ref b), .val (.ref b)] [(.ref p1), (.ref p2)])) _
    refine Jvm.RoadKit.acmp (g := (mkF m 20 #[.val (.ref a), .val (.ref b), .val (.ref b)] [(.ref p1), (.ref p2)])) X4 hx rfl rfl rfl (pc0 := 20) (pc' := 38) (same := false) rfl (hb hby d11_20) rfl (decide_eq_false (fun q => h (Value.ref.inj q))) (by decide) (by decide) ?_
    show Steps p.tables e below (T4.setTop (mkF m 38 #[.val (.ref a), .val (.ref b), .val (.ref b)] [])) _
    refine XS.iconst X4.here hx rfl (hb hby d11_38) ?_
    show Steps p.tables e below (T4.setTop (mkF m 39 #[.val (.ref a), .val (.ref b), .val (.ref b)] [(.int (0 : Int32))])) _
    exact retN X4 hx (t := .boolean) Bd.returns (by simp) (hb hby d11_39) hr
  · exact ⟨rfl, N0, e4⟩
theorem d11_23 : decode prog_109_method_8_code 23 = .ok (.aload_n 2, 1) := by decide +kernel
theorem d11_24 : decode prog_109_method_8_code 24 = .ok (.getfield 31, 3) := by decide +kernel
theorem d11_27 : decode prog_109_method_8_code 27 = .ok (.aload_n 0, 1) := by decide +kernel
theorem d11_28 : decode prog_109_method_8_code 28 = .ok (.getfield 31, 3) := by decide +kernel
theorem d11_31 : decode prog_109_method_8_code 31 = .ok (.if_acmp .ne 7, 3) := by decide +kernel
def Q_rm11b (Z : State) (a b p1 : Addr) (v1 v2 : Value) (h0 : Heap) (n0 : Nat) (v : Option Value) (hp : Heap) (L : List Loc) : Prop := v = some (.int 0) ∧ Fr n0 L ∧ hp = h0
set_option maxRecDepth 65536 in
set_option maxHeartbeats 40000000 in
theorem rm11b (l : Launch) (Z : State) (a0 : Array Value) (hw : ∀ d ∈ tables_1, d.before a0 Z = true) (ws : List Jvm.Cond) (a b p1 : Addr) (v1 v2 : Value) (h0 : Heap) (n0 : Nat) (Z0 : n0 ≤ h0.size) (E : Exa Z h0 b "com/example/burdock/burdock/query/ParameterReference") (Fa : Fld Z h0 a "com/example/burdock/burdock/query/ParameterReference" "parameter" "Lcom/example/burdock/burdock/query/Parameter;" (.ref p1)) (Fb : Fld Z h0 b "com/example/burdock/burdock/query/ParameterReference" "parameter" "Lcom/example/burdock/burdock/query/Parameter;" (.ref p1)) (Ga : Fld Z h0 a "com/example/burdock/burdock/query/ParameterReference" "enumStorage" "Lcom/example/burdock/burdock/model/EnumStorage;" v1) (Gb : Fld Z h0 b "com/example/burdock/burdock/query/ParameterReference" "enumStorage" "Lcom/example/burdock/burdock/model/EnumStorage;" v2) (r1 : v1.isRef = true) (r2 : v2.isRef = true) (h : ¬ v2 = v1) :
    MetFree l (⟨"com/example/burdock/burdock/query/ParameterReference", "sameAs", "(Ljava/lang/Object;)Z"⟩ : MethodName) (head1 (Jvm.Cond.code (⟨"com/example/burdock/burdock/query/ParameterReference", "sameAs", "(Ljava/lang/Object;)Z"⟩ : MethodName) prog_109_method_8_code 3 (some .boolean) :: ws) ({ frames := 0, cells := 0, slots := 0, locals := 0 } : Room)) (fun aa U => aa = #[(.ref a), (.ref b)] ∧ Z.Warmed39 U.vm ∧ U.heap = h0) (fun _ _ _ _ _ => True) (fun _ U o U' => ∃ v L, o = .returned v ∧ (Q_rm11b Z a b p1 v1 v2 h0 n0 v U'.heap L) ∧ FrameEnd U o U' L ({ frames := 0, cells := 0, slots := 0, locals := 0 } : Room).cells ({ frames := 0, cells := 0, slots := 0, locals := 0 } : Room).slots) := by
  refine MetFree.of_bodySF (plainFor_of_name pn_m_example_burdock_burdock_query_ParameterReference) hisR ?_
  intro p e s m args below meth c s₁ Bd hml0 hP hK
  obtain ⟨rfl, hZ, hh⟩ := hP
  have hx := Bd.exec
  have hby := Bd.bytes
  have hml : c.maxLocals = 3 := hml0
  have hown : s.vm.findClass "com/example/burdock/burdock/query/ParameterReference" = some m.cls := findClass_of_methodNamed Bd.named
  have hnm := (name_of_methodNamed Bd.named Bd.method).1
  have X0 : Stand p l e ({ frames := 0, cells := 0, slots := 0, locals := 0 } : Room) s m #[(.ref a), (.ref b)] below meth c s₁ [] 0 0 := Stand.of_body Bd
  have e0 : s₁.heap = h0 := by rw [← hh, Bd.state]; rfl
  have N0 := Fr.nil n0
  have pre0 : ∀ t, Steps p.tables e below (s₁.setTop (mkF m 0 #[.val (.ref a), .val (.ref b), .unset] [])) t → Steps p.tables e below (s₁.setTop (entryFrame m #[(.ref a), (.ref b)] 3)) t := fun t kk => castTop (ef_RR3 m a b) kk
  obtain ⟨T1, X1, e1, st1⟩ := instY X0 hx hZ hown (hw _ (List.mem_of_getElem? (i := 85) rfl)) e0 (Ins.self E) (g := (mkF m 1 #[.val (.ref a), .val (.ref b), .unset] [(.ref b)])) rfl rfl (hb hby d11_1)
  obtain ⟨T2, X2, e2, st2⟩ := castY X1 hx hZ hown (hw _ (List.mem_of_getElem? (i := 85) rfl)) e1 (Ins.self E) (g := (mkF m 8 #[.val (.ref a), .val (.ref b), .unset] [(.ref b)])) rfl rfl (hb hby d11_8)
  obtain ⟨T3, X3, e3, st3⟩ := getF X2 hx hZ hown (host := "") (Or.inl (hw _ (List.mem_of_getElem? (i := 72) rfl))) Via.refl e2 Fb (g := (mkF m 13 #[.val (.ref a), .val (.ref b), .val (.ref b)] [(.ref b)])) rfl rfl (hb hby d11_13)
  obtain ⟨T4, X4, e4, st4⟩ := getF X3 hx hZ hown (host := "") (Or.inl (hw _ (List.mem_of_getElem? (i := 72) rfl))) Via.refl e3 Fa (g := (mkF m 17 #[.val (.ref a), .val (.ref b), .val (.ref b)] [(.ref a), (.ref p1)])) rfl rfl (hb hby d11_17)
  obtain ⟨T5, X5, e5, st5⟩ := getF X4 hx hZ hown (host := "") (Or.inl (hw _ (List.mem_of_getElem? (i := 78) rfl))) Via.refl e4 Gb (g := (mkF m 24 #[.val (.ref a), .val (.ref b), .val (.ref b)] [(.ref b)])) rfl rfl (hb hby d11_24)
  obtain ⟨T6, X6, e6, st6⟩ := getF X5 hx hZ hown (host := "") (Or.inl (hw _ (List.mem_of_getElem? (i := 78) rfl))) Via.refl e5 Ga (g := (mkF m 28 #[.val (.ref a), .val (.ref b), .val (.ref b)] [(.ref a), v2])) rfl rfl (hb hby d11_28)
  obtain ⟨fs, hr, hrun, hended, hW, hsame⟩ := X6.leave (v := some (.int (0 : Int32))) (fun h => by rw [Bd.returns] at h; cases h)
  have eF : (T6.setFrames fs).heap = h0 := e6
  refine ⟨_, _, pre0 _ ?_, hrun, hended, _, _, rfl, ?_, ⟨_, rfl⟩, hW, hsame.mono (by decide) (by decide)⟩
  · show Steps p.tables e below (s₁.setTop (mkF m 0 #[.val (.ref a), .val (.ref b), .unset] [])) _
    refine XS.aloadN X0.here hx rfl (hb hby d11_0) rfl rfl ?_
    show Steps p.tables e below (s₁.setTop (mkF m 1 #[.val (.ref a), .val (.ref b), .unset] [(.ref b)])) _
    refine st1 _ ?_
    show Steps p.tables e below (T1.setTop (mkF m 4 #[.val (.ref a), .val (.ref b), .unset] [(.int (1 : Int32))])) _
    refine XS.ifNo X1.here hx rfl (hb hby d11_4) rfl ((if0 _ _).trans (feq (by decide : ¬ ((1 : Int32) = (0 : Int32)))).1) ?_
    show Steps p.tables e below (T1.setTop (mkF m 7 #[.val (.ref a), .val (.ref b), .unset] [])) _
    refine XS.aloadN X1.here hx rfl (hb hby d11_7) rfl rfl ?_
    show Steps p.tables e below (T1.setTop (mkF m 8 #[.val (.ref a), .val (.ref b), .unset] [(.ref b)])) _
    refine st2 _ ?_
    show Steps p.tables e below (T2.setTop (mkF m 11 #[.val (.ref a), .val (.ref b), .unset] [(.ref b)])) _
    refine XS.astoreN X2.here hx rfl (hb hby d11_11) rfl rfl (l' := #[.val (.ref a), .val (.ref b), .val (.ref b)]) rfl ?_
    show Steps p.tables e below (T2.setTop (mkF m 12 #[.val (.ref a), .val (.ref b), .val (.ref b)] [])) _
    refine XS.aloadN X2.here hx rfl (hb hby d11_12) rfl rfl ?_
    show Steps p.tables e below (T2.setTop (mkF m 13 #[.val (.ref a), .val (.ref b), .val (.ref b)] [(.ref b)])) _
    refine st3 _ ?_
    show Steps p.tables e below (T3.setTop (mkF m 16 #[.val (.ref a), .val (.ref b), .val (.ref b)] [(.ref p1)])) _
    refine XS.aloadN X3.here hx rfl (hb hby d11_16) rfl rfl ?_
    show Steps p.tables e below (T3.setTop (mkF m 17 #[.val (.ref a), .val (.ref b), .val (.ref b)] [(.ref a), (.ref p1)])) _
    refine st4 _ ?_
    show Steps p.tables e below (T4.setTop (mkF m 20 #[.val (.ref a), .val (.ref b), .val (.ref b)] [(.ref p1), (.ref p1)])) _
    refine Jvm.RoadKit.acmp (g := (mkF m 20 #[.val (.ref a), .val (.ref b), .val (.ref b)] [(.ref p1), (.ref p1)])) X4 hx rfl rfl rfl (pc0 := 20) (pc' := 23) (same := true) rfl (hb hby d11_20) rfl (decide_eq_true rfl) (by decide) (by decide) ?_
    show Steps p.tables e below (T4.setTop (mkF m 23 #[.val (.ref a), .val (.ref b), .val (.ref b)] [])) _
    refine XS.aloadN X4.here hx rfl (hb hby d11_23) rfl rfl ?_
    show Steps p.tables e below (T4.setTop (mkF m 24 #[.val (.ref a), .val (.ref b), .val (.ref b)] [(.ref b)])) _
    refine st5 _ ?_
    show Steps p.tables e below (T5.setTop (mkF m 27 #[.val (.ref a), .val (.ref b), .val (.ref b)] [v2])) _
    refine XS.aloadN X5.here hx rfl (hb hby d11_27) rfl rfl ?_
    show Steps p.tables e below (T5.setTop (mkF m 28 #[.val (.ref a), .val (.ref b), .val (.ref b)] [(.ref a), v2])) _
    refine st6 _ ?_
    show Steps p.tables e below (T6.setTop (mkF m 31 #[.val (.ref a), .val (.ref b), .val (.ref b)] [v1, v2])) _
    refine Jvm.RoadKit.acmp (g := (mkF m 31 #[.val (.ref a), .val (.ref b), .val (.ref b)] [v1, v2])) X6 hx rfl r2 r1 (pc0 := 31) (pc' := 38) (same := false) rfl (hb hby d11_31) rfl (decide_eq_false h) (by decide) (by decide) ?_
    show Steps p.tables e below (T6.setTop (mkF m 38 #[.val (.ref a), .val (.ref b), .val (.ref b)] [])) _
    refine XS.iconst X6.here hx rfl (hb hby d11_38) ?_
    show Steps p.tables e below (T6.setTop (mkF m 39 #[.val (.ref a), .val (.ref b), .val (.ref b)] [(.int (0 : Int32))])) _
    exact retN X6 hx (t := .boolean) Bd.returns (by simp) (hb hby d11_39) hr
  · exact ⟨rfl, N0, e6⟩
theorem d11_34 : decode prog_109_method_8_code 34 = .ok (.iconst 1, 1) := by decide +kernel
theorem d11_35 : decode prog_109_method_8_code 35 = .ok (.goto 4, 3) := by decide +kernel
def Q_rm11c (Z : State) (a b p1 : Addr) (v1 v2 : Value) (h0 : Heap) (n0 : Nat) (v : Option Value) (hp : Heap) (L : List Loc) : Prop := v = some (.int 1) ∧ Fr n0 L ∧ hp = h0
set_option maxRecDepth 65536 in
set_option maxHeartbeats 40000000 in
theorem rm11c (l : Launch) (Z : State) (a0 : Array Value) (hw : ∀ d ∈ tables_1, d.before a0 Z = true) (ws : List Jvm.Cond) (a b p1 : Addr) (v1 v2 : Value) (h0 : Heap) (n0 : Nat) (Z0 : n0 ≤ h0.size) (E : Exa Z h0 b "com/example/burdock/burdock/query/ParameterReference") (Fa : Fld Z h0 a "com/example/burdock/burdock/query/ParameterReference" "parameter" "Lcom/example/burdock/burdock/query/Parameter;" (.ref p1)) (Fb : Fld Z h0 b "com/example/burdock/burdock/query/ParameterReference" "parameter" "Lcom/example/burdock/burdock/query/Parameter;" (.ref p1)) (Ga : Fld Z h0 a "com/example/burdock/burdock/query/ParameterReference" "enumStorage" "Lcom/example/burdock/burdock/model/EnumStorage;" v1) (Gb : Fld Z h0 b "com/example/burdock/burdock/query/ParameterReference" "enumStorage" "Lcom/example/burdock/burdock/model/EnumStorage;" v2) (r1 : v1.isRef = true) (r2 : v2.isRef = true) (h : v2 = v1) :
    MetFree l (⟨"com/example/burdock/burdock/query/ParameterReference", "sameAs", "(Ljava/lang/Object;)Z"⟩ : MethodName) (head1 (Jvm.Cond.code (⟨"com/example/burdock/burdock/query/ParameterReference", "sameAs", "(Ljava/lang/Object;)Z"⟩ : MethodName) prog_109_method_8_code 3 (some .boolean) :: ws) ({ frames := 0, cells := 0, slots := 0, locals := 0 } : Room)) (fun aa U => aa = #[(.ref a), (.ref b)] ∧ Z.Warmed39 U.vm ∧ U.heap = h0) (fun _ _ _ _ _ => True) (fun _ U o U' => ∃ v L, o = .returned v ∧ (Q_rm11c Z a b p1 v1 v2 h0 n0 v U'.heap L) ∧ FrameEnd U o U' L ({ frames := 0, cells := 0, slots := 0, locals := 0 } : Room).cells ({ frames := 0, cells := 0, slots := 0, locals := 0 } : Room).slots) := by
  refine MetFree.of_bodySF (plainFor_of_name pn_m_example_burdock_burdock_query_ParameterReference) hisR ?_
  intro p e s m args below meth c s₁ Bd hml0 hP hK
  obtain ⟨rfl, hZ, hh⟩ := hP
  have hx := Bd.exec
  have hby := Bd.bytes
  have hml : c.maxLocals = 3 := hml0
  have hown : s.vm.findClass "com/example/burdock/burdock/query/ParameterReference" = some m.cls := findClass_of_methodNamed Bd.named
  have hnm := (name_of_methodNamed Bd.named Bd.method).1
  have X0 : Stand p l e ({ frames := 0, cells := 0, slots := 0, locals := 0 } : Room) s m #[(.ref a), (.ref b)] below meth c s₁ [] 0 0 := Stand.of_body Bd
  have e0 : s₁.heap = h0 := by rw [← hh, Bd.state]; rfl
  have N0 := Fr.nil n0
  have pre0 : ∀ t, Steps p.tables e below (s₁.setTop (mkF m 0 #[.val (.ref a), .val (.ref b), .unset] [])) t → Steps p.tables e below (s₁.setTop (entryFrame m #[(.ref a), (.ref b)] 3)) t := fun t kk => castTop (ef_RR3 m a b) kk
  obtain ⟨T1, X1, e1, st1⟩ := instY X0 hx hZ hown (hw _ (List.mem_of_getElem? (i := 85) rfl)) e0 (Ins.self E) (g := (mkF m 1 #[.val (.ref a), .val (.ref b), .unset] [(.ref b)])) rfl rfl (hb hby d11_1)
  obtain ⟨T2, X2, e2, st2⟩ := castY X1 hx hZ hown (hw _ (List.mem_of_getElem? (i := 85) rfl)) e1 (Ins.self E) (g := (mkF m 8 #[.val (.ref a), .val (.ref b), .unset] [(.ref b)])) rfl rfl (hb hby d11_8)
  obtain ⟨T3, X3, e3, st3⟩ := getF X2 hx hZ hown (host := "") (Or.inl (hw _ (List.mem_of_getElem? (i := 72) rfl))) Via.refl e2 Fb (g := (mkF m 13 #[.val (.ref a), .val (.ref b), .val (.ref b)] [(.ref b)])) rfl rfl (hb hby d11_13)
  obtain ⟨T4, X4, e4, st4⟩ := getF X3 hx hZ hown (host := "") (Or.inl (hw _ (List.mem_of_getElem? (i := 72) rfl))) Via.refl e3 Fa (g := (mkF m 17 #[.val (.ref a), .val (.ref b), .val (.ref b)] [(.ref a), (.ref p1)])) rfl rfl (hb hby d11_17)
  obtain ⟨T5, X5, e5, st5⟩ := getF X4 hx hZ hown (host := "") (Or.inl (hw _ (List.mem_of_getElem? (i := 78) rfl))) Via.refl e4 Gb (g := (mkF m 24 #[.val (.ref a), .val (.ref b), .val (.ref b)] [(.ref b)])) rfl rfl (hb hby d11_24)
  obtain ⟨T6, X6, e6, st6⟩ := getF X5 hx hZ hown (host := "") (Or.inl (hw _ (List.mem_of_getElem? (i := 78) rfl))) Via.refl e5 Ga (g := (mkF m 28 #[.val (.ref a), .val (.ref b), .val (.ref b)] [(.ref a), v2])) rfl rfl (hb hby d11_28)
  obtain ⟨fs, hr, hrun, hended, hW, hsame⟩ := X6.leave (v := some (.int (1 : Int32))) (fun h => by rw [Bd.returns] at h; cases h)
  have eF : (T6.setFrames fs).heap = h0 := e6
  refine ⟨_, _, pre0 _ ?_, hrun, hended, _, _, rfl, ?_, ⟨_, rfl⟩, hW, hsame.mono (by decide) (by decide)⟩
  · show Steps p.tables e below (s₁.setTop (mkF m 0 #[.val (.ref a), .val (.ref b), .unset] [])) _
    refine XS.aloadN X0.here hx rfl (hb hby d11_0) rfl rfl ?_
    show Steps p.tables e below (s₁.setTop (mkF m 1 #[.val (.ref a), .val (.ref b), .unset] [(.ref b)])) _
    refine st1 _ ?_
    show Steps p.tables e below (T1.setTop (mkF m 4 #[.val (.ref a), .val (.ref b), .unset] [(.int (1 : Int32))])) _
    refine XS.ifNo X1.here hx rfl (hb hby d11_4) rfl ((if0 _ _).trans (feq (by decide : ¬ ((1 : Int32) = (0 : Int32)))).1) ?_
    show Steps p.tables e below (T1.setTop (mkF m 7 #[.val (.ref a), .val (.ref b), .unset] [])) _
    refine XS.aloadN X1.here hx rfl (hb hby d11_7) rfl rfl ?_
    show Steps p.tables e below (T1.setTop (mkF m 8 #[.val (.ref a), .val (.ref b), .unset] [(.ref b)])) _
    refine st2 _ ?_
    show Steps p.tables e below (T2.setTop (mkF m 11 #[.val (.ref a), .val (.ref b), .unset] [(.ref b)])) _
    refine XS.astoreN X2.here hx rfl (hb hby d11_11) rfl rfl (l' := #[.val (.ref a), .val (.ref b), .val (.ref b)]) rfl ?_
    show Steps p.tables e below (T2.setTop (mkF m 12 #[.val (.ref a), .val (.ref b), .val (.ref b)] [])) _
    refine XS.aloadN X2.here hx rfl (hb hby d11_12) rfl rfl ?_
    show Steps p.tables e below (T2.setTop (mkF m 13 #[.val (.ref a), .val (.ref b), .val (.ref b)] [(.ref b)])) _
    refine st3 _ ?_
    show Steps p.tables e below (T3.setTop (mkF m 16 #[.val (.ref a), .val (.ref b), .val (.ref b)] [(.ref p1)])) _
    refine XS.aloadN X3.here hx rfl (hb hby d11_16) rfl rfl ?_
    show Steps p.tables e below (T3.setTop (mkF m 17 #[.val (.ref a), .val (.ref b), .val (.ref b)] [(.ref a), (.ref p1)])) _
    refine st4 _ ?_
    show Steps p.tables e below (T4.setTop (mkF m 20 #[.val (.ref a), .val (.ref b), .val (.ref b)] [(.ref p1), (.ref p1)])) _
    refine Jvm.RoadKit.acmp (g := (mkF m 20 #[.val (.ref a), .val (.ref b), .val (.ref b)] [(.ref p1), (.ref p1)])) X4 hx rfl rfl rfl (pc0 := 20) (pc' := 23) (same := true) rfl (hb hby d11_20) rfl (decide_eq_true rfl) (by decide) (by decide) ?_
    show Steps p.tables e below (T4.setTop (mkF m 23 #[.val (.ref a), .val (.ref b), .val (.ref b)] [])) _
    refine XS.aloadN X4.here hx rfl (hb hby d11_23) rfl rfl ?_
    show Steps p.tables e below (T4.setTop (mkF m 24 #[.val (.ref a), .val (.ref b), .val (.ref b)] [(.ref b)])) _
    refine st5 _ ?_
    show Steps p.tables e below (T5.setTop (mkF m 27 #[.val (.ref a), .val (.ref b), .val (.ref b)] [v2])) _
    refine XS.aloadN X5.here hx rfl (hb hby d11_27) rfl rfl ?_
    show Steps p.tables e below (T5.setTop (mkF m 28 #[.val (.ref a), .val (.ref b), .val (.ref b)] [(.ref a), v2])) _
    refine st6 _ ?_
    show Steps p.tables e below (T6.setTop (mkF m 31 #[.val (.ref a), .val (.ref b), .val (.ref b)] [v1, v2])) _
    refine Jvm.RoadKit.acmp (g := (mkF m 31 #[.val (.ref a), .val (.ref b), .val (.ref b)] [v1, v2])) X6 hx rfl r2 r1 (pc0 := 31) (pc' := 34) (same := true) rfl (hb hby d11_31) rfl (decide_eq_true h) (by decide) (by decide) ?_
    show Steps p.tables e below (T6.setTop (mkF m 34 #[.val (.ref a), .val (.ref b), .val (.ref b)] [])) _
    refine XS.iconst X6.here hx rfl (hb hby d11_34) ?_
    show Steps p.tables e below (T6.setTop (mkF m 35 #[.val (.ref a), .val (.ref b), .val (.ref b)] [(.int (1 : Int32))])) _
    refine XS.goto X6.here hx rfl (pc0 := 35) (pc' := 39) rfl (hb hby d11_35) (by decide) (by decide) ?_
    show Steps p.tables e below (T6.setTop (mkF m 39 #[.val (.ref a), .val (.ref b), .val (.ref b)] [(.int (1 : Int32))])) _
    exact retN X6 hx (t := .boolean) Bd.returns (by simp) (hb hby d11_39) hr
  · exact ⟨rfl, N0, e6⟩
def Q_rm11d (Z : State) (a : Addr) (h0 : Heap) (n0 : Nat) (v : Option Value) (hp : Heap) (L : List Loc) : Prop := v = some (.int 0) ∧ Fr n0 L ∧ hp = h0
set_option maxRecDepth 65536 in
set_option maxHeartbeats 40000000 in
theorem rm11d (l : Launch) (Z : State) (a0 : Array Value) (hw : ∀ d ∈ tables_1, d.before a0 Z = true) (ws : List Jvm.Cond) (a : Addr) (h0 : Heap) (n0 : Nat) (Z0 : n0 ≤ h0.size)  :
    MetFree l (⟨"com/example/burdock/burdock/query/ParameterReference", "sameAs", "(Ljava/lang/Object;)Z"⟩ : MethodName) (head1 (Jvm.Cond.code (⟨"com/example/burdock/burdock/query/ParameterReference", "sameAs", "(Ljava/lang/Object;)Z"⟩ : MethodName) prog_109_method_8_code 3 (some .boolean) :: ws) ({ frames := 0, cells := 0, slots := 0, locals := 0 } : Room)) (fun aa U => aa = #[(.ref a), .null] ∧ Z.Warmed39 U.vm ∧ U.heap = h0) (fun _ _ _ _ _ => True) (fun _ U o U' => ∃ v L, o = .returned v ∧ (Q_rm11d Z a h0 n0 v U'.heap L) ∧ FrameEnd U o U' L ({ frames := 0, cells := 0, slots := 0, locals := 0 } : Room).cells ({ frames := 0, cells := 0, slots := 0, locals := 0 } : Room).slots) := by
  refine MetFree.of_bodySF (plainFor_of_name pn_m_example_burdock_burdock_query_ParameterReference) hisR ?_
  intro p e s m args below meth c s₁ Bd hml0 hP hK
  obtain ⟨rfl, hZ, hh⟩ := hP
  have hx := Bd.exec
  have hby := Bd.bytes
  have hml : c.maxLocals = 3 := hml0
  have hown : s.vm.findClass "com/example/burdock/burdock/query/ParameterReference" = some m.cls := findClass_of_methodNamed Bd.named
  have hnm := (name_of_methodNamed Bd.named Bd.method).1
  have X0 : Stand p l e ({ frames := 0, cells := 0, slots := 0, locals := 0 } : Room) s m #[(.ref a), .null] below meth c s₁ [] 0 0 := Stand.of_body Bd
  have e0 : s₁.heap = h0 := by rw [← hh, Bd.state]; rfl
  have N0 := Fr.nil n0
  have pre0 : ∀ t, Steps p.tables e below (s₁.setTop (mkF m 0 #[.val (.ref a), .val .null, .unset] [])) t → Steps p.tables e below (s₁.setTop (entryFrame m #[(.ref a), .null] 3)) t := fun t kk => castTop (ef_RN3 m a) kk
  obtain ⟨fs, hr, hrun, hended, hW, hsame⟩ := X0.leave (v := some (.int (0 : Int32))) (fun h => by rw [Bd.returns] at h; cases h)
  have eF : (s₁.setFrames fs).heap = h0 := e0
  refine ⟨_, _, pre0 _ ?_, hrun, hended, _, _, rfl, ?_, ⟨_, rfl⟩, hW, hsame.mono (by decide) (by decide)⟩
  · show Steps p.tables e below (s₁.setTop (mkF m 0 #[.val (.ref a), .val .null, .unset] [])) _
    refine XS.aloadN X0.here hx rfl (hb hby d11_0) rfl rfl ?_
    show Steps p.tables e below (s₁.setTop (mkF m 1 #[.val (.ref a), .val .null, .unset] [.null])) _
    refine X0.instanceofNull hx (g := (mkF m 1 #[.val (.ref a), .val .null, .unset] [.null])) rfl rfl (hb hby d11_1) _ ?_
    show Steps p.tables e below (s₁.setTop (mkF m 4 #[.val (.ref a), .val .null, .unset] [(.int (0 : Int32))])) _
    refine XS.ifYes X0.here hx rfl (pc0 := 4) (pc' := 38) rfl (hb hby d11_4) rfl ((if0 _ _).trans (teq (rfl : (0 : Int32) = 0)).1) (by decide) (by decide) ?_
    show Steps p.tables e below (s₁.setTop (mkF m 38 #[.val (.ref a), .val .null, .unset] [])) _
    refine XS.iconst X0.here hx rfl (hb hby d11_38) ?_
    show Steps p.tables e below (s₁.setTop (mkF m 39 #[.val (.ref a), .val .null, .unset] [(.int (0 : Int32))])) _
    exact retN X0 hx (t := .boolean) Bd.returns (by simp) (hb hby d11_39) hr
  · exact ⟨rfl, N0, e0⟩
def Q_rm11e (Z : State) (a b : Addr) (h0 : Heap) (n0 : Nat) (v : Option Value) (hp : Heap) (L : List Loc) : Prop := v = some (.int 0) ∧ Fr n0 L ∧ hp = h0
set_option maxRecDepth 65536 in
set_option maxHeartbeats 40000000 in
theorem rm11e (l : Launch) (Z : State) (a0 : Array Value) (hw : ∀ d ∈ tables_1, d.before a0 Z = true) (ws : List Jvm.Cond) (a b : Addr) (h0 : Heap) (n0 : Nat) (Z0 : n0 ≤ h0.size) (E : Exa Z h0 b "com/example/burdock/burdock/query/Parameter") (NA : ∃ c t, Z.vm.findClass "com/example/burdock/burdock/query/Parameter" = some c ∧ Z.vm.findClass "com/example/burdock/burdock/query/ParameterReference" = some t ∧ Z.vm.assignable c t = false) :
    MetFree l (⟨"com/example/burdock/burdock/query/ParameterReference", "sameAs", "(Ljava/lang/Object;)Z"⟩ : MethodName) (head1 (Jvm.Cond.code (⟨"com/example/burdock/burdock/query/ParameterReference", "sameAs", "(Ljava/lang/Object;)Z"⟩ : MethodName) prog_109_method_8_code 3 (some .boolean) :: ws) ({ frames := 0, cells := 0, slots := 0, locals := 0 } : Room)) (fun aa U => aa = #[(.ref a), (.ref b)] ∧ Z.Warmed39 U.vm ∧ U.heap = h0) (fun _ _ _ _ _ => True) (fun _ U o U' => ∃ v L, o = .returned v ∧ (Q_rm11e Z a b h0 n0 v U'.heap L) ∧ FrameEnd U o U' L ({ frames := 0, cells := 0, slots := 0, locals := 0 } : Room).cells ({ frames := 0, cells := 0, slots := 0, locals := 0 } : Room).slots) := by
  refine MetFree.of_bodySF (plainFor_of_name pn_m_example_burdock_burdock_query_ParameterReference) hisR ?_
  intro p e s m args below meth c s₁ Bd hml0 hP hK
  obtain ⟨rfl, hZ, hh⟩ := hP
  have hx := Bd.exec
  have hby := Bd.bytes
  have hml : c.maxLocals = 3 := hml0
  have hown : s.vm.findClass "com/example/burdock/burdock/query/ParameterReference" = some m.cls := findClass_of_methodNamed Bd.named
  have hnm := (name_of_methodNamed Bd.named Bd.method).1
  have X0 : Stand p l e ({ frames := 0, cells := 0, slots := 0, locals := 0 } : Room) s m #[(.ref a), (.ref b)] below meth c s₁ [] 0 0 := Stand.of_body Bd
  have e0 : s₁.heap = h0 := by rw [← hh, Bd.state]; rfl
  have N0 := Fr.nil n0
  have pre0 : ∀ t, Steps p.tables e below (s₁.setTop (mkF m 0 #[.val (.ref a), .val (.ref b), .unset] [])) t → Steps p.tables e below (s₁.setTop (entryFrame m #[(.ref a), (.ref b)] 3)) t := fun t kk => castTop (ef_RR3 m a b) kk
  obtain ⟨T1, X1, e1, st1⟩ := instNo X0 hx hZ hown (hw _ (List.mem_of_getElem? (i := 85) rfl)) e0 E NA (g := (mkF m 1 #[.val (.ref a), .val (.ref b), .unset] [(.ref b)])) rfl rfl (hb hby d11_1)
  obtain ⟨fs, hr, hrun, hended, hW, hsame⟩ := X1.leave (v := some (.int (0 : Int32))) (fun h => by rw [Bd.returns] at h; cases h)
  have eF : (T1.setFrames fs).heap = h0 := e1
  refine ⟨_, _, pre0 _ ?_, hrun, hended, _, _, rfl, ?_, ⟨_, rfl⟩, hW, hsame.mono (by decide) (by decide)⟩
  · show Steps p.tables e below (s₁.setTop (mkF m 0 #[.val (.ref a), .val (.ref b), .unset] [])) _
    refine XS.aloadN X0.here hx rfl (hb hby d11_0) rfl rfl ?_
    show Steps p.tables e below (s₁.setTop (mkF m 1 #[.val (.ref a), .val (.ref b), .unset] [(.ref b)])) _
    refine st1 _ ?_
    show Steps p.tables e below (T1.setTop (mkF m 4 #[.val (.ref a), .val (.ref b), .unset] [(.int (0 : Int32))])) _
    refine XS.ifYes X1.here hx rfl (pc0 := 4) (pc' := 38) rfl (hb hby d11_4) rfl ((if0 _ _).trans (teq (rfl : (0 : Int32) = 0)).1) (by decide) (by decide) ?_
    show Steps p.tables e below (T1.setTop (mkF m 38 #[.val (.ref a), .val (.ref b), .unset] [])) _
    refine XS.iconst X1.here hx rfl (hb hby d11_38) ?_
    show Steps p.tables e below (T1.setTop (mkF m 39 #[.val (.ref a), .val (.ref b), .unset] [(.int (0 : Int32))])) _
    exact retN X1 hx (t := .boolean) Bd.returns (by simp) (hb hby d11_39) hr
  · exact ⟨rfl, N0, e1⟩
theorem own_sn {wS wO : Addr} {k1 k2 r1 r2 : Int32} {v1 v2 : Value} (ne : wS ≠ wO) (b1 : k1 = 0 ∨ k1 = 1 ∨ k1 = 2 ∨ k1 = 3) (b2 : k2 = 0 ∨ k2 = 1 ∨ k2 = 2 ∨ k2 = 3) (s1 : own_Sto wS wO k1 v1) (s2 : own_Sto wS wO k2 v2) (n1 : own_Norm k1 r1) (n2 : own_Norm k2 r2) : r1 = r2 ↔ v2 = v1 := by
  have ne' : ¬ wO = wS := fun q => ne q.symm
  rcases b1 with rfl | rfl | rfl | rfl <;> rcases b2 with rfl | rfl | rfl | rfl <;> simp_all [own_Sto, own_Norm]
theorem pd__CRLjava_lang_StringE : parseMethodDescriptor "(C)Ljava/lang/String;" = some ⟨[.char], some (.object "java/lang/String")⟩ := by decide +kernel
theorem pd__Ljava_lang_StringEZZRV : parseMethodDescriptor "(Ljava/lang/String;ZZ)V" = some ⟨[(.object "java/lang/String"), .boolean, .boolean], none⟩ := by decide +kernel
theorem pd__IRLcom_example_burdock_burdock_model_EnumStorageE : parseMethodDescriptor "(I)Lcom/example/burdock/burdock/model/EnumStorage;" = some ⟨[.int], some (.object "com/example/burdock/burdock/model/EnumStorage")⟩ := by decide +kernel
theorem pd_arameterEIILcom_example_burdock_burdock_model_EnumStorageERV : parseMethodDescriptor "(Lcom/example/burdock/burdock/query/Parameter;IILcom/example/burdock/burdock/model/EnumStorage;)V" = some ⟨[(.object "com/example/burdock/burdock/query/Parameter"), .int, .int, (.object "com/example/burdock/burdock/model/EnumStorage")], none⟩ := by decide +kernel
theorem pd__IRI : parseMethodDescriptor "(I)I" = some ⟨[.int], some .int⟩ := by decide +kernel
theorem pd__Ljava_lang_ObjectERZ : parseMethodDescriptor "(Ljava/lang/Object;)Z" = some ⟨[(.object "java/lang/Object")], some .boolean⟩ := by decide +kernel
def Q_rm0 (Z : State) (x0 x1 x2 x3 x4 x5 ob lb sp ch k1 k2 md zc : Int32) (wS wO : Addr) (v1 v2 : Value) (h0 : Heap) (n0 : Nat) (v : Option Value) (hp : Heap) (L : List Loc) : Prop := v = some (.int 1) ∧ Fr n0 L
set_option maxRecDepth 65536 in
set_option maxHeartbeats 40000000 in
theorem rm0 (l : Launch) (Z : State) (a0 : Array Value) (hw : ∀ d ∈ tables_1, d.before a0 Z = true) (ws : List Jvm.Cond) (x0 x1 x2 x3 x4 x5 ob lb sp ch k1 k2 md zc : Int32) (wS wO : Addr) (v1 v2 : Value) (h0 : Heap) (n0 : Nat) (Z0 : n0 ≤ h0.size) (H1 : ((¬ (x5 &&& (1 : Int32)) = 0 ∧ ob = 1) ∨ ((x5 &&& (1 : Int32)) = 0 ∧ ob = 0))) (H2 : ((¬ (x5 &&& (2 : Int32)) = 0 ∧ lb = 1) ∨ ((x5 &&& (2 : Int32)) = 0 ∧ lb = 0))) (H3 : ((¬ (x5 &&& (4 : Int32)) = 0 ∧ sp = 1) ∨ ((x5 &&& (4 : Int32)) = 0 ∧ sp = 0))) (hch : ((((x5.toUInt32 >>> ((3 : Int32) &&& 31).toUInt32).toInt32) &&& (255 : Int32)).toUInt32.toUInt16.toUInt32.toInt32) = ch) (hch' : ¬ (255 : Int32) < ch) (hk1 : (x4 &&& (3 : Int32)) = k1) (hk2 : (((x4.toUInt32 >>> ((2 : Int32) &&& 31).toUInt32).toInt32) &&& (3 : Int32)) = k2) (hmd : (((x4.toUInt32 >>> ((4 : Int32) &&& 31).toUInt32).toInt32) &&& (3 : Int32)) = md) (fb1 : (k1 = 0 ∨ k1 = 1 ∨ k1 = 2 ∨ k1 = 3)) (fb2 : (k2 = 0 ∨ k2 = 1 ∨ k2 = 2 ∨ k2 = 3)) (fb3 : (md = 0 ∨ md = 1 ∨ md = 2 ∨ md = 3))
    (SC : Sta Z h0 "java/lang/String" "COMPACT_STRINGS" "Z" (.int zc)) (hz : ¬ zc = 0) (SS : Sta Z h0 "com/example/burdock/burdock/model/EnumStorage" "STRING" "Lcom/example/burdock/burdock/model/EnumStorage;" (.ref wS)) (SO : Sta Z h0 "com/example/burdock/burdock/model/EnumStorage" "ORDINAL" "Lcom/example/burdock/burdock/model/EnumStorage;" (.ref wO)) (ES : Exa Z h0 wS "com/example/burdock/burdock/model/EnumStorage") (EO : Exa Z h0 wO "com/example/burdock/burdock/model/EnumStorage") (ne : wS ≠ wO) (QS1 : own_Sto wS wO k1 v1) (QS2 : own_Sto wS wO k2 v2) (NA : ∃ c t, Z.vm.findClass "com/example/burdock/burdock/query/Parameter" = some c ∧ Z.vm.findClass "com/example/burdock/burdock/query/ParameterReference" = some t ∧ Z.vm.assignable c t = false) :
    MetFree l x (head1 (Jvm.Cond.code x code maxLocals ret :: ws) room_1) (fun aa U => aa = #[(.int x0), (.int x1), (.int x2), (.int x3), (.int x4), (.int x5)] ∧ Z.Warmed39 U.vm ∧ U.heap = h0) (fun _ _ _ _ _ => True) (fun _ U o U' => ∃ v L, o = .returned v ∧ (Q_rm0 Z x0 x1 x2 x3 x4 x5 ob lb sp ch k1 k2 md zc wS wO v1 v2 h0 n0 v U'.heap L) ∧ ReturnedEndW U o U' L room_1.cells room_1.slots) := by
  refine MetFree.of_bodySF (plainFor_of_name pn_rdock_burdock_query_ParameterReferenceSameAsPinLaw) hisR ?_
  intro p e s m args below meth c s₁ Bd hml0 hP hK
  obtain ⟨rfl, hZ, hh⟩ := hP
  have hx := Bd.exec
  have hby := Bd.bytes
  have hml : c.maxLocals = 22 := hml0
  have hown : s.vm.findClass "com/example/burdock/burdock/query/ParameterReferenceSameAsPinLaw" = some m.cls := findClass_of_methodNamed Bd.named
  have hnm := (name_of_methodNamed Bd.named Bd.method).1
  have X0 : Stand p l e room_1 s m #[(.int x0), (.int x1), (.int x2), (.int x3), (.int x4), (.int x5)] below meth c s₁ [] 0 0 := Stand.of_body Bd
  have e0 : s₁.heap = h0 := by rw [← hh, Bd.state]; rfl
  have N0 := Fr.nil n0
  have pre0 : ∀ t, Steps p.tables e below (s₁.setTop (mkF m 0 #[.val (.int x0), .val (.int x1), .val (.int x2), .val (.int x3), .val (.int x4), .val (.int x5), .unset, .unset, .unset, .unset, .unset, .unset, .unset, .unset, .unset, .unset, .unset, .unset, .unset, .unset, .unset, .unset] [])) t → Steps p.tables e below (s₁.setTop (entryFrame m #[(.int x0), (.int x1), (.int x2), (.int x3), (.int x4), (.int x5)] maxLocals)) t := fun t kk => castTop (ef_L m x0 x1 x2 x3 x4 x5) kk
  have hS0 := (State.WarmedH.refl s).since 0
  have r1 : v1.isRef = true := by rcases QS1 with ⟨-, q⟩ | ⟨-, -, q⟩ | ⟨-, -, q⟩ <;> rw [q] <;> rfl
  have r2 : v2.isRef = true := by rcases QS2 with ⟨-, q⟩ | ⟨-, -, q⟩ | ⟨-, -, q⟩ <;> rw [q] <;> rfl
  have md14 : ∀ target, Steps p.tables e below (s₁.setTop (mkF m 14 #[.val (.int x0), .val (.int x1), .val (.int x2), .val (.int x3), .val (.int x4), .val (.int x5), .val (.int ob), .unset, .unset, .unset, .unset, .unset, .unset, .unset, .unset, .unset, .unset, .unset, .unset, .unset, .unset, .unset] [])) target → Steps p.tables e below (s₁.setTop (mkF m 0 #[.val (.int x0), .val (.int x1), .val (.int x2), .val (.int x3), .val (.int x4), .val (.int x5), .unset, .unset, .unset, .unset, .unset, .unset, .unset, .unset, .unset, .unset, .unset, .unset, .unset, .unset, .unset, .unset] [])) target := by
    intro target kt
    rcases H1 with ⟨h, hv⟩ | ⟨h, hv⟩
    · rw [hv] at kt
      show Steps p.tables e below (s₁.setTop (mkF m 0 #[.val (.int x0), .val (.int x1), .val (.int x2), .val (.int x3), .val (.int x4), .val (.int x5), .unset, .unset, .unset, .unset, .unset, .unset, .unset, .unset, .unset, .unset, .unset, .unset, .unset, .unset, .unset, .unset] [])) _
      refine XS.iload X0.here hx rfl (hb hby at_0) rfl ?_
      show Steps p.tables e below (s₁.setTop (mkF m 2 #[.val (.int x0), .val (.int x1), .val (.int x2), .val (.int x3), .val (.int x4), .val (.int x5), .unset, .unset, .unset, .unset, .unset, .unset, .unset, .unset, .unset, .unset, .unset, .unset, .unset, .unset, .unset, .unset] [(.int x5)])) _
      refine XS.iconst X0.here hx rfl (hb hby at_2) ?_
      show Steps p.tables e below (s₁.setTop (mkF m 3 #[.val (.int x0), .val (.int x1), .val (.int x2), .val (.int x3), .val (.int x4), .val (.int x5), .unset, .unset, .unset, .unset, .unset, .unset, .unset, .unset, .unset, .unset, .unset, .unset, .unset, .unset, .unset, .unset] [(.int (1 : Int32)), (.int x5)])) _
      refine XS.iand X0.here hx rfl (hb hby at_3) rfl ?_
      show Steps p.tables e below (s₁.setTop (mkF m 4 #[.val (.int x0), .val (.int x1), .val (.int x2), .val (.int x3), .val (.int x4), .val (.int x5), .unset, .unset, .unset, .unset, .unset, .unset, .unset, .unset, .unset, .unset, .unset, .unset, .unset, .unset, .unset, .unset] [(.int (x5 &&& (1 : Int32)))])) _
      refine XS.ifNo X0.here hx rfl (hb hby at_4) rfl ((if0 _ _).trans (feq h).1) ?_
      show Steps p.tables e below (s₁.setTop (mkF m 7 #[.val (.int x0), .val (.int x1), .val (.int x2), .val (.int x3), .val (.int x4), .val (.int x5), .unset, .unset, .unset, .unset, .unset, .unset, .unset, .unset, .unset, .unset, .unset, .unset, .unset, .unset, .unset, .unset] [])) _
      refine XS.iconst X0.here hx rfl (hb hby at_7) ?_
      show Steps p.tables e below (s₁.setTop (mkF m 8 #[.val (.int x0), .val (.int x1), .val (.int x2), .val (.int x3), .val (.int x4), .val (.int x5), .unset, .unset, .unset, .unset, .unset, .unset, .unset, .unset, .unset, .unset, .unset, .unset, .unset, .unset, .unset, .unset] [(.int (1 : Int32))])) _
      refine XS.goto X0.here hx rfl (pc0 := 8) (pc' := 12) rfl (hb hby at_8) (by decide) (by decide) ?_
      show Steps p.tables e below (s₁.setTop (mkF m 12 #[.val (.int x0), .val (.int x1), .val (.int x2), .val (.int x3), .val (.int x4), .val (.int x5), .unset, .unset, .unset, .unset, .unset, .unset, .unset, .unset, .unset, .unset, .unset, .unset, .unset, .unset, .unset, .unset] [(.int (1 : Int32))])) _
      refine XS.istore X0.here hx rfl (hb hby at_12) rfl (l' := #[.val (.int x0), .val (.int x1), .val (.int x2), .val (.int x3), .val (.int x4), .val (.int x5), .val (.int (1 : Int32)), .unset, .unset, .unset, .unset, .unset, .unset, .unset, .unset, .unset, .unset, .unset, .unset, .unset, .unset, .unset]) rfl ?_
      exact kt
    · rw [hv] at kt
      show Steps p.tables e below (s₁.setTop (mkF m 0 #[.val (.int x0), .val (.int x1), .val (.int x2), .val (.int x3), .val (.int x4), .val (.int x5), .unset, .unset, .unset, .unset, .unset, .unset, .unset, .unset, .unset, .unset, .unset, .unset, .unset, .unset, .unset, .unset] [])) _
      refine XS.iload X0.here hx rfl (hb hby at_0) rfl ?_
      show Steps p.tables e below (s₁.setTop (mkF m 2 #[.val (.int x0), .val (.int x1), .val (.int x2), .val (.int x3), .val (.int x4), .val (.int x5), .unset, .unset, .unset, .unset, .unset, .unset, .unset, .unset, .unset, .unset, .unset, .unset, .unset, .unset, .unset, .unset] [(.int x5)])) _
      refine XS.iconst X0.here hx rfl (hb hby at_2) ?_
      show Steps p.tables e below (s₁.setTop (mkF m 3 #[.val (.int x0), .val (.int x1), .val (.int x2), .val (.int x3), .val (.int x4), .val (.int x5), .unset, .unset, .unset, .unset, .unset, .unset, .unset, .unset, .unset, .unset, .unset, .unset, .unset, .unset, .unset, .unset] [(.int (1 : Int32)), (.int x5)])) _
      refine XS.iand X0.here hx rfl (hb hby at_3) rfl ?_
      show Steps p.tables e below (s₁.setTop (mkF m 4 #[.val (.int x0), .val (.int x1), .val (.int x2), .val (.int x3), .val (.int x4), .val (.int x5), .unset, .unset, .unset, .unset, .unset, .unset, .unset, .unset, .unset, .unset, .unset, .unset, .unset, .unset, .unset, .unset] [(.int (x5 &&& (1 : Int32)))])) _
      refine XS.ifYes X0.here hx rfl (pc0 := 4) (pc' := 11) rfl (hb hby at_4) rfl ((if0 _ _).trans (teq h).1) (by decide) (by decide) ?_
      show Steps p.tables e below (s₁.setTop (mkF m 11 #[.val (.int x0), .val (.int x1), .val (.int x2), .val (.int x3), .val (.int x4), .val (.int x5), .unset, .unset, .unset, .unset, .unset, .unset, .unset, .unset, .unset, .unset, .unset, .unset, .unset, .unset, .unset, .unset] [])) _
      refine XS.iconst X0.here hx rfl (hb hby at_11) ?_
      show Steps p.tables e below (s₁.setTop (mkF m 12 #[.val (.int x0), .val (.int x1), .val (.int x2), .val (.int x3), .val (.int x4), .val (.int x5), .unset, .unset, .unset, .unset, .unset, .unset, .unset, .unset, .unset, .unset, .unset, .unset, .unset, .unset, .unset, .unset] [(.int (0 : Int32))])) _
      refine XS.istore X0.here hx rfl (hb hby at_12) rfl (l' := #[.val (.int x0), .val (.int x1), .val (.int x2), .val (.int x3), .val (.int x4), .val (.int x5), .val (.int (0 : Int32)), .unset, .unset, .unset, .unset, .unset, .unset, .unset, .unset, .unset, .unset, .unset, .unset, .unset, .unset, .unset]) rfl ?_
      exact kt
  have md28 : ∀ target, Steps p.tables e below (s₁.setTop (mkF m 28 #[.val (.int x0), .val (.int x1), .val (.int x2), .val (.int x3), .val (.int x4), .val (.int x5), .val (.int ob), .val (.int lb), .unset, .unset, .unset, .unset, .unset, .unset, .unset, .unset, .unset, .unset, .unset, .unset, .unset, .unset] [])) target → Steps p.tables e below (s₁.setTop (mkF m 14 #[.val (.int x0), .val (.int x1), .val (.int x2), .val (.int x3), .val (.int x4), .val (.int x5), .val (.int ob), .unset, .unset, .unset, .unset, .unset, .unset, .unset, .unset, .unset, .unset, .unset, .unset, .unset, .unset, .unset] [])) target := by
    intro target kt
    rcases H2 with ⟨h, hv⟩ | ⟨h, hv⟩
    · rw [hv] at kt
      show Steps p.tables e below (s₁.setTop (mkF m 14 #[.val (.int x0), .val (.int x1), .val (.int x2), .val (.int x3), .val (.int x4), .val (.int x5), .val (.int ob), .unset, .unset, .unset, .unset, .unset, .unset, .unset, .unset, .unset, .unset, .unset, .unset, .unset, .unset, .unset] [])) _
      refine XS.iload X0.here hx rfl (hb hby at_14) rfl ?_
      show Steps p.tables e below (s₁.setTop (mkF m 16 #[.val (.int x0), .val (.int x1), .val (.int x2), .val (.int x3), .val (.int x4), .val (.int x5), .val (.int ob), .unset, .unset, .unset, .unset, .unset, .unset, .unset, .unset, .unset, .unset, .unset, .unset, .unset, .unset, .unset] [(.int x5)])) _
      refine XS.iconst X0.here hx rfl (hb hby at_16) ?_
      show Steps p.tables e below (s₁.setTop (mkF m 17 #[.val (.int x0), .val (.int x1), .val (.int x2), .val (.int x3), .val (.int x4), .val (.int x5), .val (.int ob), .unset, .unset, .unset, .unset, .unset, .unset, .unset, .unset, .unset, .unset, .unset, .unset, .unset, .unset, .unset] [(.int (2 : Int32)), (.int x5)])) _
      refine XS.iand X0.here hx rfl (hb hby at_17) rfl ?_
      show Steps p.tables e below (s₁.setTop (mkF m 18 #[.val (.int x0), .val (.int x1), .val (.int x2), .val (.int x3), .val (.int x4), .val (.int x5), .val (.int ob), .unset, .unset, .unset, .unset, .unset, .unset, .unset, .unset, .unset, .unset, .unset, .unset, .unset, .unset, .unset] [(.int (x5 &&& (2 : Int32)))])) _
      refine XS.ifNo X0.here hx rfl (hb hby at_18) rfl ((if0 _ _).trans (feq h).1) ?_
      show Steps p.tables e below (s₁.setTop (mkF m 21 #[.val (.int x0), .val (.int x1), .val (.int x2), .val (.int x3), .val (.int x4), .val (.int x5), .val (.int ob), .unset, .unset, .unset, .unset, .unset, .unset, .unset, .unset, .unset, .unset, .unset, .unset, .unset, .unset, .unset] [])) _
      refine XS.iconst X0.here hx rfl (hb hby at_21) ?_
      show Steps p.tables e below (s₁.setTop (mkF m 22 #[.val (.int x0), .val (.int x1), .val (.int x2), .val (.int x3), .val (.int x4), .val (.int x5), .val (.int ob), .unset, .unset, .unset, .unset, .unset, .unset, .unset, .unset, .unset, .unset, .unset, .unset, .unset, .unset, .unset] [(.int (1 : Int32))])) _
      refine XS.goto X0.here hx rfl (pc0 := 22) (pc' := 26) rfl (hb hby at_22) (by decide) (by decide) ?_
      show Steps p.tables e below (s₁.setTop (mkF m 26 #[.val (.int x0), .val (.int x1), .val (.int x2), .val (.int x3), .val (.int x4), .val (.int x5), .val (.int ob), .unset, .unset, .unset, .unset, .unset, .unset, .unset, .unset, .unset, .unset, .unset, .unset, .unset, .unset, .unset] [(.int (1 : Int32))])) _
      refine XS.istore X0.here hx rfl (hb hby at_26) rfl (l' := #[.val (.int x0), .val (.int x1), .val (.int x2), .val (.int x3), .val (.int x4), .val (.int x5), .val (.int ob), .val (.int (1 : Int32)), .unset, .unset, .unset, .unset, .unset, .unset, .unset, .unset, .unset, .unset, .unset, .unset, .unset, .unset]) rfl ?_
      exact kt
    · rw [hv] at kt
      show Steps p.tables e below (s₁.setTop (mkF m 14 #[.val (.int x0), .val (.int x1), .val (.int x2), .val (.int x3), .val (.int x4), .val (.int x5), .val (.int ob), .unset, .unset, .unset, .unset, .unset, .unset, .unset, .unset, .unset, .unset, .unset, .unset, .unset, .unset, .unset] [])) _
      refine XS.iload X0.here hx rfl (hb hby at_14) rfl ?_
      show Steps p.tables e below (s₁.setTop (mkF m 16 #[.val (.int x0), .val (.int x1), .val (.int x2), .val (.int x3), .val (.int x4), .val (.int x5), .val (.int ob), .unset, .unset, .unset, .unset, .unset, .unset, .unset, .unset, .unset, .unset, .unset, .unset, .unset, .unset, .unset] [(.int x5)])) _
      refine XS.iconst X0.here hx rfl (hb hby at_16) ?_
      show Steps p.tables e below (s₁.setTop (mkF m 17 #[.val (.int x0), .val (.int x1), .val (.int x2), .val (.int x3), .val (.int x4), .val (.int x5), .val (.int ob), .unset, .unset, .unset, .unset, .unset, .unset, .unset, .unset, .unset, .unset, .unset, .unset, .unset, .unset, .unset] [(.int (2 : Int32)), (.int x5)])) _
      refine XS.iand X0.here hx rfl (hb hby at_17) rfl ?_
      show Steps p.tables e below (s₁.setTop (mkF m 18 #[.val (.int x0), .val (.int x1), .val (.int x2), .val (.int x3), .val (.int x4), .val (.int x5), .val (.int ob), .unset, .unset, .unset, .unset, .unset, .unset, .unset, .unset, .unset, .unset, .unset, .unset, .unset, .unset, .unset] [(.int (x5 &&& (2 : Int32)))])) _
      refine XS.ifYes X0.here hx rfl (pc0 := 18) (pc' := 25) rfl (hb hby at_18) rfl ((if0 _ _).trans (teq h).1) (by decide) (by decide) ?_
      show Steps p.tables e below (s₁.setTop (mkF m 25 #[.val (.int x0), .val (.int x1), .val (.int x2), .val (.int x3), .val (.int x4), .val (.int x5), .val (.int ob), .unset, .unset, .unset, .unset, .unset, .unset, .unset, .unset, .unset, .unset, .unset, .unset, .unset, .unset, .unset] [])) _
      refine XS.iconst X0.here hx rfl (hb hby at_25) ?_
      show Steps p.tables e below (s₁.setTop (mkF m 26 #[.val (.int x0), .val (.int x1), .val (.int x2), .val (.int x3), .val (.int x4), .val (.int x5), .val (.int ob), .unset, .unset, .unset, .unset, .unset, .unset, .unset, .unset, .unset, .unset, .unset, .unset, .unset, .unset, .unset] [(.int (0 : Int32))])) _
      refine XS.istore X0.here hx rfl (hb hby at_26) rfl (l' := #[.val (.int x0), .val (.int x1), .val (.int x2), .val (.int x3), .val (.int x4), .val (.int x5), .val (.int ob), .val (.int (0 : Int32)), .unset, .unset, .unset, .unset, .unset, .unset, .unset, .unset, .unset, .unset, .unset, .unset, .unset, .unset]) rfl ?_
      exact kt
  have md42 : ∀ target, Steps p.tables e below (s₁.setTop (mkF m 42 #[.val (.int x0), .val (.int x1), .val (.int x2), .val (.int x3), .val (.int x4), .val (.int x5), .val (.int ob), .val (.int lb), .val (.int sp), .unset, .unset, .unset, .unset, .unset, .unset, .unset, .unset, .unset, .unset, .unset, .unset, .unset] [])) target → Steps p.tables e below (s₁.setTop (mkF m 28 #[.val (.int x0), .val (.int x1), .val (.int x2), .val (.int x3), .val (.int x4), .val (.int x5), .val (.int ob), .val (.int lb), .unset, .unset, .unset, .unset, .unset, .unset, .unset, .unset, .unset, .unset, .unset, .unset, .unset, .unset] [])) target := by
    intro target kt
    rcases H3 with ⟨h, hv⟩ | ⟨h, hv⟩
    · rw [hv] at kt
      show Steps p.tables e below (s₁.setTop (mkF m 28 #[.val (.int x0), .val (.int x1), .val (.int x2), .val (.int x3), .val (.int x4), .val (.int x5), .val (.int ob), .val (.int lb), .unset, .unset, .unset, .unset, .unset, .unset, .unset, .unset, .unset, .unset, .unset, .unset, .unset, .unset] [])) _
      refine XS.iload X0.here hx rfl (hb hby at_28) rfl ?_
      show Steps p.tables e below (s₁.setTop (mkF m 30 #[.val (.int x0), .val (.int x1), .val (.int x2), .val (.int x3), .val (.int x4), .val (.int x5), .val (.int ob), .val (.int lb), .unset, .unset, .unset, .unset, .unset, .unset, .unset, .unset, .unset, .unset, .unset, .unset, .unset, .unset] [(.int x5)])) _
      refine XS.iconst X0.here hx rfl (hb hby at_30) ?_
      show Steps p.tables e below (s₁.setTop (mkF m 31 #[.val (.int x0), .val (.int x1), .val (.int x2), .val (.int x3), .val (.int x4), .val (.int x5), .val (.int ob), .val (.int lb), .unset, .unset, .unset, .unset, .unset, .unset, .unset, .unset, .unset, .unset, .unset, .unset, .unset, .unset] [(.int (4 : Int32)), (.int x5)])) _
      refine XS.iand X0.here hx rfl (hb hby at_31) rfl ?_
      show Steps p.tables e below (s₁.setTop (mkF m 32 #[.val (.int x0), .val (.int x1), .val (.int x2), .val (.int x3), .val (.int x4), .val (.int x5), .val (.int ob), .val (.int lb), .unset, .unset, .unset, .unset, .unset, .unset, .unset, .unset, .unset, .unset, .unset, .unset, .unset, .unset] [(.int (x5 &&& (4 : Int32)))])) _
      refine XS.ifNo X0.here hx rfl (hb hby at_32) rfl ((if0 _ _).trans (feq h).1) ?_
      show Steps p.tables e below (s₁.setTop (mkF m 35 #[.val (.int x0), .val (.int x1), .val (.int x2), .val (.int x3), .val (.int x4), .val (.int x5), .val (.int ob), .val (.int lb), .unset, .unset, .unset, .unset, .unset, .unset, .unset, .unset, .unset, .unset, .unset, .unset, .unset, .unset] [])) _
      refine XS.iconst X0.here hx rfl (hb hby at_35) ?_
      show Steps p.tables e below (s₁.setTop (mkF m 36 #[.val (.int x0), .val (.int x1), .val (.int x2), .val (.int x3), .val (.int x4), .val (.int x5), .val (.int ob), .val (.int lb), .unset, .unset, .unset, .unset, .unset, .unset, .unset, .unset, .unset, .unset, .unset, .unset, .unset, .unset] [(.int (1 : Int32))])) _
      refine XS.goto X0.here hx rfl (pc0 := 36) (pc' := 40) rfl (hb hby at_36) (by decide) (by decide) ?_
      show Steps p.tables e below (s₁.setTop (mkF m 40 #[.val (.int x0), .val (.int x1), .val (.int x2), .val (.int x3), .val (.int x4), .val (.int x5), .val (.int ob), .val (.int lb), .unset, .unset, .unset, .unset, .unset, .unset, .unset, .unset, .unset, .unset, .unset, .unset, .unset, .unset] [(.int (1 : Int32))])) _
      refine XS.istore X0.here hx rfl (hb hby at_40) rfl (l' := #[.val (.int x0), .val (.int x1), .val (.int x2), .val (.int x3), .val (.int x4), .val (.int x5), .val (.int ob), .val (.int lb), .val (.int (1 : Int32)), .unset, .unset, .unset, .unset, .unset, .unset, .unset, .unset, .unset, .unset, .unset, .unset, .unset]) rfl ?_
      exact kt
    · rw [hv] at kt
      show Steps p.tables e below (s₁.setTop (mkF m 28 #[.val (.int x0), .val (.int x1), .val (.int x2), .val (.int x3), .val (.int x4), .val (.int x5), .val (.int ob), .val (.int lb), .unset, .unset, .unset, .unset, .unset, .unset, .unset, .unset, .unset, .unset, .unset, .unset, .unset, .unset] [])) _
      refine XS.iload X0.here hx rfl (hb hby at_28) rfl ?_
      show Steps p.tables e below (s₁.setTop (mkF m 30 #[.val (.int x0), .val (.int x1), .val (.int x2), .val (.int x3), .val (.int x4), .val (.int x5), .val (.int ob), .val (.int lb), .unset, .unset, .unset, .unset, .unset, .unset, .unset, .unset, .unset, .unset, .unset, .unset, .unset, .unset] [(.int x5)])) _
      refine XS.iconst X0.here hx rfl (hb hby at_30) ?_
      show Steps p.tables e below (s₁.setTop (mkF m 31 #[.val (.int x0), .val (.int x1), .val (.int x2), .val (.int x3), .val (.int x4), .val (.int x5), .val (.int ob), .val (.int lb), .unset, .unset, .unset, .unset, .unset, .unset, .unset, .unset, .unset, .unset, .unset, .unset, .unset, .unset] [(.int (4 : Int32)), (.int x5)])) _
      refine XS.iand X0.here hx rfl (hb hby at_31) rfl ?_
      show Steps p.tables e below (s₁.setTop (mkF m 32 #[.val (.int x0), .val (.int x1), .val (.int x2), .val (.int x3), .val (.int x4), .val (.int x5), .val (.int ob), .val (.int lb), .unset, .unset, .unset, .unset, .unset, .unset, .unset, .unset, .unset, .unset, .unset, .unset, .unset, .unset] [(.int (x5 &&& (4 : Int32)))])) _
      refine XS.ifYes X0.here hx rfl (pc0 := 32) (pc' := 39) rfl (hb hby at_32) rfl ((if0 _ _).trans (teq h).1) (by decide) (by decide) ?_
      show Steps p.tables e below (s₁.setTop (mkF m 39 #[.val (.int x0), .val (.int x1), .val (.int x2), .val (.int x3), .val (.int x4), .val (.int x5), .val (.int ob), .val (.int lb), .unset, .unset, .unset, .unset, .unset, .unset, .unset, .unset, .unset, .unset, .unset, .unset, .unset, .unset] [])) _
      refine XS.iconst X0.here hx rfl (hb hby at_39) ?_
      show Steps p.tables e below (s₁.setTop (mkF m 40 #[.val (.int x0), .val (.int x1), .val (.int x2), .val (.int x3), .val (.int x4), .val (.int x5), .val (.int ob), .val (.int lb), .unset, .unset, .unset, .unset, .unset, .unset, .unset, .unset, .unset, .unset, .unset, .unset, .unset, .unset] [(.int (0 : Int32))])) _
      refine XS.istore X0.here hx rfl (hb hby at_40) rfl (l' := #[.val (.int x0), .val (.int x1), .val (.int x2), .val (.int x3), .val (.int x4), .val (.int x5), .val (.int ob), .val (.int lb), .val (.int (0 : Int32)), .unset, .unset, .unset, .unset, .unset, .unset, .unset, .unset, .unset, .unset, .unset, .unset, .unset]) rfl ?_
      exact kt
  obtain ⟨_, _, ⟨T1, L1, k1, n1⟩, -, X1, ⟨Lc1, hQ1, l1, y1, z1⟩, st1⟩ := Jvm.LawKit.callS X0 hx (y := (⟨"java/lang/String", "valueOf", "(C)Ljava/lang/String;"⟩ : MethodName)) hown (mvT hZ (hw _ (List.mem_of_getElem? (i := 0) rfl))) (mvT hZ (hw _ (List.mem_of_getElem? (i := 1) rfl))) (mvT hZ (hw _ (List.mem_of_getElem? (i := 2) rfl))) (mvT hZ (hw _ (List.mem_of_getElem? (i := 3) rfl))) (by decide) (backOf (W := 0) (rm1 l Z a0 hw [] ch zc h0 n0 Z0 SC hz hch') hZ (hw _ (List.mem_of_getElem? (i := 3) rfl)) (hw _ (List.mem_of_getElem? (i := 2) rfl)) (by decide) (by decide)) (g := (mkF m 55 #[.val (.int x0), .val (.int x1), .val (.int x2), .val (.int x3), .val (.int x4), .val (.int x5), .val (.int ob), .val (.int lb), .val (.int sp), .val (.int ch), .unset, .unset, .unset, .unset, .unset, .unset, .unset, .unset, .unset, .unset, .unset, .unset] [(.int ch)])) rfl (by rw [hml]; rfl) (argsL := [(.int ch)]) (rest := []) (lenOf pd__CRLjava_lang_StringE rfl) rfl (by show 2 * 0 + _ ≤ _; exact Nat.le_of_eq rfl) (hb hby at_55) (fun _ _ => ⟨rfl, e0, (by decide : 0 + 2 ≤ _), (by decide : 0 + 5 ≤ _)⟩)
  dsimp only [Pt.U, Pt.locs, Pt.cells, Pt.slots] at X1 l1 y1 z1 st1 hQ1
  subst l1 y1 z1
  obtain ⟨bs, rfl, N1q, K1, Es1⟩ := hQ1
  have N1 := Fr.app N0 N1q
  have kl1 := Nat.le_trans (Nat.zero_le _) K1.1
  have X1e := own_ext K1
  have SS_1 := SS.ext X1e
  have SO_1 := SO.ext X1e
  have ES_1 := ES.ext X1e
  have EO_1 := EO.ext X1e
  have zz1 : n0 ≤ T1.heap.size := Nat.le_trans Z0 K1.1
  obtain ⟨T2, h2, X2, e2, E2, A2, D2, -, st2⟩ := newO X1 hx hZ hown (hw _ (List.mem_of_getElem? (i := 26) rfl)) (hw _ (List.mem_of_getElem? (i := 27) rfl)) (hw _ (List.mem_of_getElem? (i := 28) rfl)) rfl (g := (mkF m 60 #[.val (.int x0), .val (.int x1), .val (.int x2), .val (.int x3), .val (.int x4), .val (.int x5), .val (.int ob), .val (.int lb), .val (.int sp), .val (.int ch), .val (.ref bs), .unset, .unset, .unset, .unset, .unset, .unset, .unset, .unset, .unset, .unset, .unset] [])) rfl (hb hby at_60) (by decide) (by decide)
  obtain ⟨b2, g2⟩ : ∃ z, z = T1.heap.size := ⟨_, rfl⟩
  rw [← g2] at A2 D2 st2
  have kl2 := Nat.le_trans kl1 E2.1
  have Fn2 := D2 (Or.inr (hw _ (List.mem_of_getElem? (i := 42) rfl))) (ty := (.object "java/lang/String")) (by decide)
  have Fo2 := D2 (Or.inr (hw _ (List.mem_of_getElem? (i := 44) rfl))) (ty := .boolean) (by decide)
  have Fl2 := D2 (Or.inr (hw _ (List.mem_of_getElem? (i := 46) rfl))) (ty := .boolean) (by decide)
  have gb2 : n0 ≤ b2 := Nat.le_trans zz1 (Nat.le_of_eq g2.symm)
  obtain ⟨_, _, ⟨T3, L3, k3, n3⟩, -, Y3, S3, gr3, ⟨Lc3, hQ3, l3, y3, z3⟩, st3⟩ := X2.specialBackS hx (y := (⟨"com/example/burdock/burdock/query/Parameter", "<init>", "(Ljava/lang/String;ZZ)V"⟩ : MethodName)) rfl hown (mvT hZ (hw _ (List.mem_of_getElem? (i := 29) rfl))) (mvT hZ (hw _ (List.mem_of_getElem? (i := 30) rfl))) (mvT hZ (hw _ (List.mem_of_getElem? (i := 31) rfl))) (by decide) (backOfS (W := 1) (rm6 l Z a0 hw [] b2 bs ob lb _ _ _ h2 n0 (Nat.le_trans zz1 E2.1) A2 Fn2 Fo2 Fl2 (Es1.ext E2) gb2) hZ (hw _ (List.mem_of_getElem? (i := 31) rfl)) (hw _ (List.mem_of_getElem? (i := 28) rfl)) (by decide) (by decide)) (g := (mkF m 70 #[.val (.int x0), .val (.int x1), .val (.int x2), .val (.int x3), .val (.int x4), .val (.int x5), .val (.int ob), .val (.int lb), .val (.int sp), .val (.int ch), .val (.ref bs), .unset, .unset, .unset, .unset, .unset, .unset, .unset, .unset, .unset, .unset, .unset] [(.int lb), (.int ob), (.ref bs), (.ref b2), (.ref b2)])) rfl (by rw [hml]; rfl) (Steps.refl _) (a := b2) (argsL := [(.ref bs), (.int ob), (.int lb)]) (rest := [(.ref b2)]) (lenOf pd__Ljava_lang_StringEZZRV rfl) rfl (by show 2 * 0 + _ ≤ _; exact Nat.le_of_eq rfl) (hb hby at_70) (fun _ _ => ⟨rfl, e2, (by decide : 3 + 2 ≤ _), (by decide : 9 + 20 ≤ _)⟩)
  dsimp only [Pt.U, Pt.locs, Pt.cells, Pt.slots] at Y3 S3 gr3 l3 y3 z3 st3 hQ3
  subst l3 y3 z3
  obtain ⟨rfl, N3q, K3⟩ := hQ3
  have N3 := Fr.app N1 N3q
  obtain ⟨X3, hS3, hZ3, ho3⟩ := rebS (own := "com/example/burdock/burdock/query/ParameterReferenceSameAsPinLaw") (vm0 := s.vm) hS0 (n1 := T2.heap.size) (by rw [e2]; exact kl2) Y3 S3 gr3 hZ hown
  have C3 : Keep T1.heap T3.heap [] := ((Keep.refl T1.heap []).ext E2).trans K3 (fun x hx => by cases List.mem_singleton.mp hx; exact Or.inr (Nat.le_of_eq g2.symm))
  have X3e := own_ext C3
  have Es_3 := Es1.ext X3e
  have SS_3 := SS_1.ext X3e
  have SO_3 := SO_1.ext X3e
  have ES_3 := ES_1.ext X3e
  have EO_3 := EO_1.ext X3e
  have zz3 : n0 ≤ T3.heap.size := Nat.le_trans zz1 C3.1
  have P2_3 := A2.keep K3
  obtain ⟨T4, h4, X4, e4, E4, A4, D4, -, st4⟩ := newO X3 hx hZ3 ho3 (hw _ (List.mem_of_getElem? (i := 26) rfl)) (hw _ (List.mem_of_getElem? (i := 27) rfl)) (hw _ (List.mem_of_getElem? (i := 28) rfl)) rfl (g := (mkF m 75 #[.val (.int x0), .val (.int x1), .val (.int x2), .val (.int x3), .val (.int x4), .val (.int x5), .val (.int ob), .val (.int lb), .val (.int sp), .val (.int ch), .val (.ref bs), .val (.ref b2), .unset, .unset, .unset, .unset, .unset, .unset, .unset, .unset, .unset, .unset] [])) rfl (hb hby at_75) (by decide) (by decide)
  obtain ⟨b4, g4⟩ : ∃ z, z = T3.heap.size := ⟨_, rfl⟩
  rw [← g4] at A4 D4 st4
  have kl4 := Nat.le_trans (Nat.le_refl _) E4.1
  have Fn4 := D4 (Or.inr (hw _ (List.mem_of_getElem? (i := 42) rfl))) (ty := (.object "java/lang/String")) (by decide)
  have Fo4 := D4 (Or.inr (hw _ (List.mem_of_getElem? (i := 44) rfl))) (ty := .boolean) (by decide)
  have Fl4 := D4 (Or.inr (hw _ (List.mem_of_getElem? (i := 46) rfl))) (ty := .boolean) (by decide)
  have gb4 : n0 ≤ b4 := Nat.le_trans zz3 (Nat.le_of_eq g4.symm)
  have np : b2 ≠ b4 := Nat.ne_of_lt (Nat.lt_of_lt_of_le P2_3.lt (Nat.le_of_eq g4.symm))
  obtain ⟨_, _, ⟨T5, L5, k5, n5⟩, -, Y5, S5, gr5, ⟨Lc5, hQ5, l5, y5, z5⟩, st5⟩ := X4.specialBackS hx (y := (⟨"com/example/burdock/burdock/query/Parameter", "<init>", "(Ljava/lang/String;ZZ)V"⟩ : MethodName)) rfl ho3 (mvT hZ3 (hw _ (List.mem_of_getElem? (i := 29) rfl))) (mvT hZ3 (hw _ (List.mem_of_getElem? (i := 30) rfl))) (mvT hZ3 (hw _ (List.mem_of_getElem? (i := 31) rfl))) (by decide) (backOfS (W := 1) (rm6 l Z a0 hw [] b4 bs ob lb _ _ _ h4 n0 (Nat.le_trans zz3 E4.1) A4 Fn4 Fo4 Fl4 (Es_3.ext E4) gb4) hZ3 (hw _ (List.mem_of_getElem? (i := 31) rfl)) (hw _ (List.mem_of_getElem? (i := 28) rfl)) (by decide) (by decide)) (g := (mkF m 85 #[.val (.int x0), .val (.int x1), .val (.int x2), .val (.int x3), .val (.int x4), .val (.int x5), .val (.int ob), .val (.int lb), .val (.int sp), .val (.int ch), .val (.ref bs), .val (.ref b2), .unset, .unset, .unset, .unset, .unset, .unset, .unset, .unset, .unset, .unset] [(.int lb), (.int ob), (.ref bs), (.ref b4), (.ref b4)])) rfl (by rw [hml]; rfl) (Steps.refl _) (a := b4) (argsL := [(.ref bs), (.int ob), (.int lb)]) (rest := [(.ref b4)]) (lenOf pd__Ljava_lang_StringEZZRV rfl) rfl (by show 2 * 0 + _ ≤ _; exact Nat.le_of_eq rfl) (hb hby at_85) (fun _ _ => ⟨rfl, e4, (by decide : 6 + 2 ≤ _), (by decide : 33 + 20 ≤ _)⟩)
  dsimp only [Pt.U, Pt.locs, Pt.cells, Pt.slots] at Y5 S5 gr5 l5 y5 z5 st5 hQ5
  subst l5 y5 z5
  obtain ⟨rfl, N5q, K5⟩ := hQ5
  have N5 := Fr.app N3 N5q
  obtain ⟨X5, hS5, hZ5, ho5⟩ := rebS (own := "com/example/burdock/burdock/query/ParameterReferenceSameAsPinLaw") (vm0 := T3.vm) hS3 (n1 := T4.heap.size) (by rw [e4]; exact kl4) Y5 S5 gr5 hZ3 ho3
  have C5 : Keep T3.heap T5.heap [] := ((Keep.refl T3.heap []).ext E4).trans K5 (fun x hx => by cases List.mem_singleton.mp hx; exact Or.inr (Nat.le_of_eq g4.symm))
  have X5e := own_ext C5
  have Es_5 := Es_3.ext X5e
  have SS_5 := SS_3.ext X5e
  have SO_5 := SO_3.ext X5e
  have ES_5 := ES_3.ext X5e
  have EO_5 := EO_3.ext X5e
  have P2_5 := P2_3.ext X5e
  have zz5 : n0 ≤ T5.heap.size := Nat.le_trans zz3 C5.1
  have P4_5 := A4.keep K5
  obtain ⟨_, _, ⟨T6, L6, k6, n6⟩, -, X6, ⟨Lc6, hQ6, l6, y6, z6⟩, st6⟩ := Jvm.LawKit.callS X5 hx (y := (⟨"com/example/burdock/burdock/query/ParameterReferenceSameAsPinLaw", "storage", "(I)Lcom/example/burdock/burdock/model/EnumStorage;"⟩ : MethodName)) ho5 (mvT hZ5 (hw _ (List.mem_of_getElem? (i := 47) rfl))) (mvT hZ5 (hw _ (List.mem_of_getElem? (i := 48) rfl))) (mvT hZ5 (hw _ (List.mem_of_getElem? (i := 49) rfl))) (mvT hZ5 (hw _ (List.mem_of_getElem? (i := 50) rfl))) (by decide) (backOf (W := 0) (rm8 l Z a0 hw [] k1 wS wO v1 T5.heap n0 zz5 SS_5 SO_5 QS1) hZ5 (hw _ (List.mem_of_getElem? (i := 50) rfl)) (hw _ (List.mem_of_getElem? (i := 49) rfl)) (by decide) (by decide)) (g := (mkF m 114 #[.val (.int x0), .val (.int x1), .val (.int x2), .val (.int x3), .val (.int x4), .val (.int x5), .val (.int ob), .val (.int lb), .val (.int sp), .val (.int ch), .val (.ref bs), .val (.ref b2), .val (.ref b4), .val (.int k1), .val (.int k2), .val (.int md), .unset, .unset, .unset, .unset, .unset, .unset] [(.int k1)])) rfl (by rw [hml]; rfl) (argsL := [(.int k1)]) (rest := []) (lenOf pd__IRLcom_example_burdock_burdock_model_EnumStorageE rfl) rfl (by show 2 * 0 + _ ≤ _; exact Nat.le_of_eq rfl) (hb hby at_114) (fun _ _ => ⟨rfl, rfl, (by decide : 8 + 0 ≤ _), (by decide : 53 + 0 ≤ _)⟩)
  dsimp only [Pt.U, Pt.locs, Pt.cells, Pt.slots] at X6 l6 y6 z6 st6 hQ6
  subst l6 y6 z6
  obtain ⟨rfl, N6q, eh6⟩ := hQ6
  have N6 := Fr.app N5 N6q
  obtain ⟨_, _, ⟨T7, L7, k7, n7⟩, -, X7, ⟨Lc7, hQ7, l7, y7, z7⟩, st7⟩ := Jvm.LawKit.callS X6 hx (y := (⟨"com/example/burdock/burdock/query/ParameterReferenceSameAsPinLaw", "storage", "(I)Lcom/example/burdock/burdock/model/EnumStorage;"⟩ : MethodName)) ho5 (mvT hZ5 (hw _ (List.mem_of_getElem? (i := 47) rfl))) (mvT hZ5 (hw _ (List.mem_of_getElem? (i := 48) rfl))) (mvT hZ5 (hw _ (List.mem_of_getElem? (i := 49) rfl))) (mvT hZ5 (hw _ (List.mem_of_getElem? (i := 50) rfl))) (by decide) (backOf (W := 0) (rm8 l Z a0 hw [] k2 wS wO v2 T5.heap n0 zz5 SS_5 SO_5 QS2) hZ5 (hw _ (List.mem_of_getElem? (i := 50) rfl)) (hw _ (List.mem_of_getElem? (i := 49) rfl)) (by decide) (by decide)) (g := (mkF m 121 #[.val (.int x0), .val (.int x1), .val (.int x2), .val (.int x3), .val (.int x4), .val (.int x5), .val (.int ob), .val (.int lb), .val (.int sp), .val (.int ch), .val (.ref bs), .val (.ref b2), .val (.ref b4), .val (.int k1), .val (.int k2), .val (.int md), .val v1, .unset, .unset, .unset, .unset, .unset] [(.int k2)])) rfl (by rw [hml]; rfl) (argsL := [(.int k2)]) (rest := []) (lenOf pd__IRLcom_example_burdock_burdock_model_EnumStorageE rfl) rfl (by show 2 * 0 + _ ≤ _; exact Nat.le_of_eq rfl) (hb hby at_121) (fun _ _ => ⟨rfl, eh6, (by decide : 8 + 0 ≤ _), (by decide : 53 + 0 ≤ _)⟩)
  dsimp only [Pt.U, Pt.locs, Pt.cells, Pt.slots] at X7 l7 y7 z7 st7 hQ7
  subst l7 y7 z7
  obtain ⟨rfl, N7q, eh7⟩ := hQ7
  have N7 := Fr.app N6 N7q
  obtain ⟨T8, h8, X8, e8, E8, A8, D8, -, st8⟩ := newO X7 hx hZ5 ho5 (hw _ (List.mem_of_getElem? (i := 51) rfl)) (hw _ (List.mem_of_getElem? (i := 52) rfl)) (hw _ (List.mem_of_getElem? (i := 53) rfl)) eh7 (g := (mkF m 126 #[.val (.int x0), .val (.int x1), .val (.int x2), .val (.int x3), .val (.int x4), .val (.int x5), .val (.int ob), .val (.int lb), .val (.int sp), .val (.int ch), .val (.ref bs), .val (.ref b2), .val (.ref b4), .val (.int k1), .val (.int k2), .val (.int md), .val v1, .val v2, .unset, .unset, .unset, .unset] [])) rfl (hb hby at_126) (by decide) (by decide)
  obtain ⟨b8, g8⟩ : ∃ z, z = T5.heap.size := ⟨_, rfl⟩
  rw [← g8] at A8 D8 st8
  have kl8 := Nat.le_trans (Nat.le_refl _) E8.1
  have F0n8 := D8 (Or.inr (hw _ (List.mem_of_getElem? (i := 67) rfl))) (ty := (.array (.object "java/lang/Object"))) (by decide)
  have F1n8 := D8 (Or.inr (hw _ (List.mem_of_getElem? (i := 73) rfl))) (ty := (.object "com/example/burdock/burdock/query/Parameter")) (by decide)
  have F2n8 := D8 (Or.inr (hw _ (List.mem_of_getElem? (i := 75) rfl))) (ty := .int) (by decide)
  have F3n8 := D8 (Or.inr (hw _ (List.mem_of_getElem? (i := 77) rfl))) (ty := .int) (by decide)
  have F4n8 := D8 (Or.inr (hw _ (List.mem_of_getElem? (i := 79) rfl))) (ty := (.object "com/example/burdock/burdock/model/EnumStorage")) (by decide)
  have gb8 : n0 ≤ b8 := Nat.le_trans zz5 (Nat.le_of_eq g8.symm)
  obtain ⟨_, _, ⟨T9, L9, k9, n9⟩, -, Y9, S9, gr9, ⟨Lc9, hQ9, l9, y9, z9⟩, st9⟩ := X8.specialBackS hx (y := (⟨"com/example/burdock/burdock/query/ParameterReference", "<init>", "(Lcom/example/burdock/burdock/query/Parameter;IILcom/example/burdock/burdock/model/EnumStorage;)V"⟩ : MethodName)) rfl ho5 (mvT hZ5 (hw _ (List.mem_of_getElem? (i := 54) rfl))) (mvT hZ5 (hw _ (List.mem_of_getElem? (i := 55) rfl))) (mvT hZ5 (hw _ (List.mem_of_getElem? (i := 56) rfl))) (by decide) (backOfS (W := 1) (rm9 l Z a0 hw [] b8 b2 x0 x1 v1 _ _ _ _ _ h8 n0 (Nat.le_trans zz5 E8.1) A8 F0n8 F1n8 F2n8 F3n8 F4n8 (P2_5.ext E8) gb8 (by rcases QS1 with ⟨-, q⟩ | ⟨-, -, q⟩ | ⟨-, -, q⟩ <;> first | exact Or.inl q | exact Or.inr ⟨wS, q, ES_5.ext E8⟩ | exact Or.inr ⟨wO, q, EO_5.ext E8⟩)) hZ5 (hw _ (List.mem_of_getElem? (i := 56) rfl)) (hw _ (List.mem_of_getElem? (i := 53) rfl)) (by decide) (by decide)) (g := (mkF m 136 #[.val (.int x0), .val (.int x1), .val (.int x2), .val (.int x3), .val (.int x4), .val (.int x5), .val (.int ob), .val (.int lb), .val (.int sp), .val (.int ch), .val (.ref bs), .val (.ref b2), .val (.ref b4), .val (.int k1), .val (.int k2), .val (.int md), .val v1, .val v2, .unset, .unset, .unset, .unset] [v1, (.int x1), (.int x0), (.ref b2), (.ref b8), (.ref b8)])) rfl (by rw [hml]; rfl) (Steps.refl _) (a := b8) (argsL := [(.ref b2), (.int x0), (.int x1), v1]) (rest := [(.ref b8)]) (lenOf pd_arameterEIILcom_example_burdock_burdock_model_EnumStorageERV rfl) rfl (by show 2 * 0 + _ ≤ _; exact Nat.le_of_eq rfl) (hb hby at_136) (fun _ _ => ⟨rfl, e8, (by decide : 9 + 3 ≤ _), (by decide : 60 + 42 ≤ _)⟩)
  dsimp only [Pt.U, Pt.locs, Pt.cells, Pt.slots] at Y9 S9 gr9 l9 y9 z9 st9 hQ9
  subst l9 y9 z9
  obtain ⟨rfl, N9q, K9, Fp9, Fe9⟩ := hQ9
  have N9 := Fr.app N7 N9q
  obtain ⟨X9, hS9, hZ9, ho9⟩ := rebS (own := "com/example/burdock/burdock/query/ParameterReferenceSameAsPinLaw") (vm0 := T5.vm) hS5 (n1 := T8.heap.size) (by rw [e8]; exact kl8) Y9 S9 gr9 hZ5 ho5
  have C9 : Keep T5.heap T9.heap [] := ((Keep.refl T5.heap []).ext E8).trans K9 (fun x hx => by cases List.mem_singleton.mp hx; exact Or.inr (Nat.le_of_eq g8.symm))
  have X9e := own_ext C9
  have Es_9 := Es_5.ext X9e
  have SS_9 := SS_5.ext X9e
  have SO_9 := SO_5.ext X9e
  have ES_9 := ES_5.ext X9e
  have EO_9 := EO_5.ext X9e
  have P2_9 := P2_5.ext X9e
  have P4_9 := P4_5.ext X9e
  have zz9 : n0 ≤ T9.heap.size := Nat.le_trans zz5 C9.1
  have R8_9 := A8.keep K9
  obtain ⟨T10, h10, X10, e10, E10, A10, D10, -, st10⟩ := newO X9 hx hZ9 ho9 (hw _ (List.mem_of_getElem? (i := 51) rfl)) (hw _ (List.mem_of_getElem? (i := 52) rfl)) (hw _ (List.mem_of_getElem? (i := 53) rfl)) rfl (g := (mkF m 141 #[.val (.int x0), .val (.int x1), .val (.int x2), .val (.int x3), .val (.int x4), .val (.int x5), .val (.int ob), .val (.int lb), .val (.int sp), .val (.int ch), .val (.ref bs), .val (.ref b2), .val (.ref b4), .val (.int k1), .val (.int k2), .val (.int md), .val v1, .val v2, .val (.ref b8), .unset, .unset, .unset] [])) rfl (hb hby at_141) (by decide) (by decide)
  obtain ⟨b10, g10⟩ : ∃ z, z = T9.heap.size := ⟨_, rfl⟩
  rw [← g10] at A10 D10 st10
  have kl10 := Nat.le_trans (Nat.le_refl _) E10.1
  have F0n10 := D10 (Or.inr (hw _ (List.mem_of_getElem? (i := 67) rfl))) (ty := (.array (.object "java/lang/Object"))) (by decide)
  have F1n10 := D10 (Or.inr (hw _ (List.mem_of_getElem? (i := 73) rfl))) (ty := (.object "com/example/burdock/burdock/query/Parameter")) (by decide)
  have F2n10 := D10 (Or.inr (hw _ (List.mem_of_getElem? (i := 75) rfl))) (ty := .int) (by decide)
  have F3n10 := D10 (Or.inr (hw _ (List.mem_of_getElem? (i := 77) rfl))) (ty := .int) (by decide)
  have F4n10 := D10 (Or.inr (hw _ (List.mem_of_getElem? (i := 79) rfl))) (ty := (.object "com/example/burdock/burdock/model/EnumStorage")) (by decide)
  have gb10 : n0 ≤ b10 := Nat.le_trans zz9 (Nat.le_of_eq g10.symm)
  obtain ⟨pq, HP, Epq⟩ : ∃ pq, ((¬ sp = 0 ∧ pq = b2) ∨ (sp = 0 ∧ pq = b4)) ∧ Exa Z T9.heap pq "com/example/burdock/burdock/query/Parameter" := by
    by_cases q : sp = 0
    · exact ⟨b4, Or.inr ⟨q, rfl⟩, P4_9⟩
    · exact ⟨b2, Or.inl ⟨q, rfl⟩, P2_9⟩
  have mdq : ∀ target, Steps p.tables e below (T10.setTop (mkF m 157 #[.val (.int x0), .val (.int x1), .val (.int x2), .val (.int x3), .val (.int x4), .val (.int x5), .val (.int ob), .val (.int lb), .val (.int sp), .val (.int ch), .val (.ref bs), .val (.ref b2), .val (.ref b4), .val (.int k1), .val (.int k2), .val (.int md), .val v1, .val v2, .val (.ref b8), .unset, .unset, .unset] [(.ref pq), (.ref b10), (.ref b10)])) target → Steps p.tables e below (T10.setTop (mkF m 145 #[.val (.int x0), .val (.int x1), .val (.int x2), .val (.int x3), .val (.int x4), .val (.int x5), .val (.int ob), .val (.int lb), .val (.int sp), .val (.int ch), .val (.ref bs), .val (.ref b2), .val (.ref b4), .val (.int k1), .val (.int k2), .val (.int md), .val v1, .val v2, .val (.ref b8), .unset, .unset, .unset] [(.ref b10), (.ref b10)])) target := by
    intro target kt
    rcases HP with ⟨h, hv⟩ | ⟨h, hv⟩
    · rw [hv] at kt
      show Steps p.tables e below (T10.setTop (mkF m 145 #[.val (.int x0), .val (.int x1), .val (.int x2), .val (.int x3), .val (.int x4), .val (.int x5), .val (.int ob), .val (.int lb), .val (.int sp), .val (.int ch), .val (.ref bs), .val (.ref b2), .val (.ref b4), .val (.int k1), .val (.int k2), .val (.int md), .val v1, .val v2, .val (.ref b8), .unset, .unset, .unset] [(.ref b10), (.ref b10)])) _
      refine XS.iload X10.here hx rfl (hb hby at_145) rfl ?_
      show Steps p.tables e below (T10.setTop (mkF m 147 #[.val (.int x0), .val (.int x1), .val (.int x2), .val (.int x3), .val (.int x4), .val (.int x5), .val (.int ob), .val (.int lb), .val (.int sp), .val (.int ch), .val (.ref bs), .val (.ref b2), .val (.ref b4), .val (.int k1), .val (.int k2), .val (.int md), .val v1, .val v2, .val (.ref b8), .unset, .unset, .unset] [(.int sp), (.ref b10), (.ref b10)])) _
      refine XS.ifNo X10.here hx rfl (hb hby at_147) rfl ((if0 _ _).trans (feq h).1) ?_
      show Steps p.tables e below (T10.setTop (mkF m 150 #[.val (.int x0), .val (.int x1), .val (.int x2), .val (.int x3), .val (.int x4), .val (.int x5), .val (.int ob), .val (.int lb), .val (.int sp), .val (.int ch), .val (.ref bs), .val (.ref b2), .val (.ref b4), .val (.int k1), .val (.int k2), .val (.int md), .val v1, .val v2, .val (.ref b8), .unset, .unset, .unset] [(.ref b10), (.ref b10)])) _
      refine XS.aload X10.here hx rfl (hb hby at_150) rfl rfl ?_
      show Steps p.tables e below (T10.setTop (mkF m 152 #[.val (.int x0), .val (.int x1), .val (.int x2), .val (.int x3), .val (.int x4), .val (.int x5), .val (.int ob), .val (.int lb), .val (.int sp), .val (.int ch), .val (.ref bs), .val (.ref b2), .val (.ref b4), .val (.int k1), .val (.int k2), .val (.int md), .val v1, .val v2, .val (.ref b8), .unset, .unset, .unset] [(.ref b2), (.ref b10), (.ref b10)])) _
      refine XS.goto X10.here hx rfl (pc0 := 152) (pc' := 157) rfl (hb hby at_152) (by decide) (by decide) ?_
      exact kt
    · rw [hv] at kt
      show Steps p.tables e below (T10.setTop (mkF m 145 #[.val (.int x0), .val (.int x1), .val (.int x2), .val (.int x3), .val (.int x4), .val (.int x5), .val (.int ob), .val (.int lb), .val (.int sp), .val (.int ch), .val (.ref bs), .val (.ref b2), .val (.ref b4), .val (.int k1), .val (.int k2), .val (.int md), .val v1, .val v2, .val (.ref b8), .unset, .unset, .unset] [(.ref b10), (.ref b10)])) _
      refine XS.iload X10.here hx rfl (hb hby at_145) rfl ?_
      show Steps p.tables e below (T10.setTop (mkF m 147 #[.val (.int x0), .val (.int x1), .val (.int x2), .val (.int x3), .val (.int x4), .val (.int x5), .val (.int ob), .val (.int lb), .val (.int sp), .val (.int ch), .val (.ref bs), .val (.ref b2), .val (.ref b4), .val (.int k1), .val (.int k2), .val (.int md), .val v1, .val v2, .val (.ref b8), .unset, .unset, .unset] [(.int sp), (.ref b10), (.ref b10)])) _
      refine XS.ifYes X10.here hx rfl (pc0 := 147) (pc' := 155) rfl (hb hby at_147) rfl ((if0 _ _).trans (teq h).1) (by decide) (by decide) ?_
      show Steps p.tables e below (T10.setTop (mkF m 155 #[.val (.int x0), .val (.int x1), .val (.int x2), .val (.int x3), .val (.int x4), .val (.int x5), .val (.int ob), .val (.int lb), .val (.int sp), .val (.int ch), .val (.ref bs), .val (.ref b2), .val (.ref b4), .val (.int k1), .val (.int k2), .val (.int md), .val v1, .val v2, .val (.ref b8), .unset, .unset, .unset] [(.ref b10), (.ref b10)])) _
      refine XS.aload X10.here hx rfl (hb hby at_155) rfl rfl ?_
      exact kt
  obtain ⟨_, _, ⟨T11, L11, k11, n11⟩, -, Y11, S11, gr11, ⟨Lc11, hQ11, l11, y11, z11⟩, st11⟩ := X10.specialBackS hx (y := (⟨"com/example/burdock/burdock/query/ParameterReference", "<init>", "(Lcom/example/burdock/burdock/query/Parameter;IILcom/example/burdock/burdock/model/EnumStorage;)V"⟩ : MethodName)) rfl ho9 (mvT hZ9 (hw _ (List.mem_of_getElem? (i := 54) rfl))) (mvT hZ9 (hw _ (List.mem_of_getElem? (i := 55) rfl))) (mvT hZ9 (hw _ (List.mem_of_getElem? (i := 56) rfl))) (by decide) (backOfS (W := 1) (rm9 l Z a0 hw [] b10 pq x2 x3 v2 _ _ _ _ _ h10 n0 (Nat.le_trans zz9 E10.1) A10 F0n10 F1n10 F2n10 F3n10 F4n10 (Epq.ext E10) gb10 (by rcases QS2 with ⟨-, q⟩ | ⟨-, -, q⟩ | ⟨-, -, q⟩ <;> first | exact Or.inl q | exact Or.inr ⟨wS, q, ES_9.ext E10⟩ | exact Or.inr ⟨wO, q, EO_9.ext E10⟩)) hZ9 (hw _ (List.mem_of_getElem? (i := 56) rfl)) (hw _ (List.mem_of_getElem? (i := 53) rfl)) (by decide) (by decide)) (g := (mkF m 161 #[.val (.int x0), .val (.int x1), .val (.int x2), .val (.int x3), .val (.int x4), .val (.int x5), .val (.int ob), .val (.int lb), .val (.int sp), .val (.int ch), .val (.ref bs), .val (.ref b2), .val (.ref b4), .val (.int k1), .val (.int k2), .val (.int md), .val v1, .val v2, .val (.ref b8), .unset, .unset, .unset] [v2, (.int x3), (.int x2), (.ref pq), (.ref b10), (.ref b10)])) rfl (by rw [hml]; rfl) (Steps.refl _) (a := b10) (argsL := [(.ref pq), (.int x2), (.int x3), v2]) (rest := [(.ref b10)]) (lenOf pd_arameterEIILcom_example_burdock_burdock_model_EnumStorageERV rfl) rfl (by show 2 * 0 + _ ≤ _; exact Nat.le_of_eq rfl) (hb hby at_161) (fun _ _ => ⟨rfl, e10, (by decide : 13 + 3 ≤ _), (by decide : 109 + 42 ≤ _)⟩)
  dsimp only [Pt.U, Pt.locs, Pt.cells, Pt.slots] at Y11 S11 gr11 l11 y11 z11 st11 hQ11
  subst l11 y11 z11
  obtain ⟨rfl, N11q, K11, Fp11, Fe11⟩ := hQ11
  have N11 := Fr.app N9 N11q
  obtain ⟨X11, hS11, hZ11, ho11⟩ := rebS (own := "com/example/burdock/burdock/query/ParameterReferenceSameAsPinLaw") (vm0 := T9.vm) hS9 (n1 := T10.heap.size) (by rw [e10]; exact kl10) Y11 S11 gr11 hZ9 ho9
  have C11 : Keep T9.heap T11.heap [] := ((Keep.refl T9.heap []).ext E10).trans K11 (fun x hx => by cases List.mem_singleton.mp hx; exact Or.inr (Nat.le_of_eq g10.symm))
  have X11e := own_ext C11
  have Es_11 := Es_9.ext X11e
  have SS_11 := SS_9.ext X11e
  have SO_11 := SO_9.ext X11e
  have ES_11 := ES_9.ext X11e
  have EO_11 := EO_9.ext X11e
  have P2_11 := P2_9.ext X11e
  have P4_11 := P4_9.ext X11e
  have R8_11 := R8_9.ext X11e
  have Fp8_11 := Fp9.ext X11e
  have Fe8_11 := Fe9.ext X11e
  have zz11 : n0 ≤ T11.heap.size := Nat.le_trans zz9 C11.1
  have R10_11 := A10.keep K11
  have stP : ∀ target, Steps p.tables e below (T11.setTop (mkF m 168 #[.val (.int x0), .val (.int x1), .val (.int x2), .val (.int x3), .val (.int x4), .val (.int x5), .val (.int ob), .val (.int lb), .val (.int sp), .val (.int ch), .val (.ref bs), .val (.ref b2), .val (.ref b4), .val (.int k1), .val (.int k2), .val (.int md), .val v1, .val v2, .val (.ref b8), .val (.ref b10), .unset, .unset] [(.int md)])) target → Steps p.tables e below (s₁.setTop (mkF m 0 #[.val (.int x0), .val (.int x1), .val (.int x2), .val (.int x3), .val (.int x4), .val (.int x5), .unset, .unset, .unset, .unset, .unset, .unset, .unset, .unset, .unset, .unset, .unset, .unset, .unset, .unset, .unset, .unset] [])) target := by
    intro target kt
    show Steps p.tables e below (s₁.setTop (mkF m 0 #[.val (.int x0), .val (.int x1), .val (.int x2), .val (.int x3), .val (.int x4), .val (.int x5), .unset, .unset, .unset, .unset, .unset, .unset, .unset, .unset, .unset, .unset, .unset, .unset, .unset, .unset, .unset, .unset] [])) _
    refine md14 _ ?_
    show Steps p.tables e below (s₁.setTop (mkF m 14 #[.val (.int x0), .val (.int x1), .val (.int x2), .val (.int x3), .val (.int x4), .val (.int x5), .val (.int ob), .unset, .unset, .unset, .unset, .unset, .unset, .unset, .unset, .unset, .unset, .unset, .unset, .unset, .unset, .unset] [])) _
    refine md28 _ ?_
    show Steps p.tables e below (s₁.setTop (mkF m 28 #[.val (.int x0), .val (.int x1), .val (.int x2), .val (.int x3), .val (.int x4), .val (.int x5), .val (.int ob), .val (.int lb), .unset, .unset, .unset, .unset, .unset, .unset, .unset, .unset, .unset, .unset, .unset, .unset, .unset, .unset] [])) _
    refine md42 _ ?_
    show Steps p.tables e below (s₁.setTop (mkF m 42 #[.val (.int x0), .val (.int x1), .val (.int x2), .val (.int x3), .val (.int x4), .val (.int x5), .val (.int ob), .val (.int lb), .val (.int sp), .unset, .unset, .unset, .unset, .unset, .unset, .unset, .unset, .unset, .unset, .unset, .unset, .unset] [])) _
    refine XS.iload X0.here hx rfl (hb hby at_42) rfl ?_
    show Steps p.tables e below (s₁.setTop (mkF m 44 #[.val (.int x0), .val (.int x1), .val (.int x2), .val (.int x3), .val (.int x4), .val (.int x5), .val (.int ob), .val (.int lb), .val (.int sp), .unset, .unset, .unset, .unset, .unset, .unset, .unset, .unset, .unset, .unset, .unset, .unset, .unset] [(.int x5)])) _
    refine XS.iconst X0.here hx rfl (hb hby at_44) ?_
    show Steps p.tables e below (s₁.setTop (mkF m 45 #[.val (.int x0), .val (.int x1), .val (.int x2), .val (.int x3), .val (.int x4), .val (.int x5), .val (.int ob), .val (.int lb), .val (.int sp), .unset, .unset, .unset, .unset, .unset, .unset, .unset, .unset, .unset, .unset, .unset, .unset, .unset] [(.int (3 : Int32)), (.int x5)])) _
    refine XS.iushr X0.here hx rfl (hb hby at_45) rfl ?_
    show Steps p.tables e below (s₁.setTop (mkF m 46 #[.val (.int x0), .val (.int x1), .val (.int x2), .val (.int x3), .val (.int x4), .val (.int x5), .val (.int ob), .val (.int lb), .val (.int sp), .unset, .unset, .unset, .unset, .unset, .unset, .unset, .unset, .unset, .unset, .unset, .unset, .unset] [(.int ((x5.toUInt32 >>> ((3 : Int32) &&& 31).toUInt32).toInt32))])) _
    refine XS.sipush X0.here hx rfl (hb hby at_46) ?_
    show Steps p.tables e below (s₁.setTop (mkF m 49 #[.val (.int x0), .val (.int x1), .val (.int x2), .val (.int x3), .val (.int x4), .val (.int x5), .val (.int ob), .val (.int lb), .val (.int sp), .unset, .unset, .unset, .unset, .unset, .unset, .unset, .unset, .unset, .unset, .unset, .unset, .unset] [(.int (255 : Int32)), (.int ((x5.toUInt32 >>> ((3 : Int32) &&& 31).toUInt32).toInt32))])) _
    refine XS.iand X0.here hx rfl (hb hby at_49) rfl ?_
    show Steps p.tables e below (s₁.setTop (mkF m 50 #[.val (.int x0), .val (.int x1), .val (.int x2), .val (.int x3), .val (.int x4), .val (.int x5), .val (.int ob), .val (.int lb), .val (.int sp), .unset, .unset, .unset, .unset, .unset, .unset, .unset, .unset, .unset, .unset, .unset, .unset, .unset] [(.int (((x5.toUInt32 >>> ((3 : Int32) &&& 31).toUInt32).toInt32) &&& (255 : Int32)))])) _
    refine XS.i2c X0.here hx rfl (hb hby at_50) rfl ?_
    show Steps p.tables e below (s₁.setTop (mkF m 51 #[.val (.int x0), .val (.int x1), .val (.int x2), .val (.int x3), .val (.int x4), .val (.int x5), .val (.int ob), .val (.int lb), .val (.int sp), .unset, .unset, .unset, .unset, .unset, .unset, .unset, .unset, .unset, .unset, .unset, .unset, .unset] [(.int ((((x5.toUInt32 >>> ((3 : Int32) &&& 31).toUInt32).toInt32) &&& (255 : Int32)).toUInt32.toUInt16.toUInt32.toInt32))])) _
    rw [hch]
    show Steps p.tables e below (s₁.setTop (mkF m 51 #[.val (.int x0), .val (.int x1), .val (.int x2), .val (.int x3), .val (.int x4), .val (.int x5), .val (.int ob), .val (.int lb), .val (.int sp), .unset, .unset, .unset, .unset, .unset, .unset, .unset, .unset, .unset, .unset, .unset, .unset, .unset] [(.int ch)])) _
    refine XS.istore X0.here hx rfl (hb hby at_51) rfl (l' := #[.val (.int x0), .val (.int x1), .val (.int x2), .val (.int x3), .val (.int x4), .val (.int x5), .val (.int ob), .val (.int lb), .val (.int sp), .val (.int ch), .unset, .unset, .unset, .unset, .unset, .unset, .unset, .unset, .unset, .unset, .unset, .unset]) rfl ?_
    show Steps p.tables e below (s₁.setTop (mkF m 53 #[.val (.int x0), .val (.int x1), .val (.int x2), .val (.int x3), .val (.int x4), .val (.int x5), .val (.int ob), .val (.int lb), .val (.int sp), .val (.int ch), .unset, .unset, .unset, .unset, .unset, .unset, .unset, .unset, .unset, .unset, .unset, .unset] [])) _
    refine XS.iload X0.here hx rfl (hb hby at_53) rfl ?_
    show Steps p.tables e below (s₁.setTop (mkF m 55 #[.val (.int x0), .val (.int x1), .val (.int x2), .val (.int x3), .val (.int x4), .val (.int x5), .val (.int ob), .val (.int lb), .val (.int sp), .val (.int ch), .unset, .unset, .unset, .unset, .unset, .unset, .unset, .unset, .unset, .unset, .unset, .unset] [(.int ch)])) _
    refine st1 _ ?_
    show Steps p.tables e below (T1.setTop (mkF m 58 #[.val (.int x0), .val (.int x1), .val (.int x2), .val (.int x3), .val (.int x4), .val (.int x5), .val (.int ob), .val (.int lb), .val (.int sp), .val (.int ch), .unset, .unset, .unset, .unset, .unset, .unset, .unset, .unset, .unset, .unset, .unset, .unset] [(.ref bs)])) _
    refine XS.astore X1.here hx rfl (hb hby at_58) rfl rfl (l' := #[.val (.int x0), .val (.int x1), .val (.int x2), .val (.int x3), .val (.int x4), .val (.int x5), .val (.int ob), .val (.int lb), .val (.int sp), .val (.int ch), .val (.ref bs), .unset, .unset, .unset, .unset, .unset, .unset, .unset, .unset, .unset, .unset, .unset]) rfl ?_
    show Steps p.tables e below (T1.setTop (mkF m 60 #[.val (.int x0), .val (.int x1), .val (.int x2), .val (.int x3), .val (.int x4), .val (.int x5), .val (.int ob), .val (.int lb), .val (.int sp), .val (.int ch), .val (.ref bs), .unset, .unset, .unset, .unset, .unset, .unset, .unset, .unset, .unset, .unset, .unset] [])) _
    refine st2 _ ?_
    show Steps p.tables e below (T2.setTop (mkF m 63 #[.val (.int x0), .val (.int x1), .val (.int x2), .val (.int x3), .val (.int x4), .val (.int x5), .val (.int ob), .val (.int lb), .val (.int sp), .val (.int ch), .val (.ref bs), .unset, .unset, .unset, .unset, .unset, .unset, .unset, .unset, .unset, .unset, .unset] [(.ref b2)])) _
    refine XS.dup X2.here hx rfl (hb hby at_63) rfl rfl ?_
    show Steps p.tables e below (T2.setTop (mkF m 64 #[.val (.int x0), .val (.int x1), .val (.int x2), .val (.int x3), .val (.int x4), .val (.int x5), .val (.int ob), .val (.int lb), .val (.int sp), .val (.int ch), .val (.ref bs), .unset, .unset, .unset, .unset, .unset, .unset, .unset, .unset, .unset, .unset, .unset] [(.ref b2), (.ref b2)])) _
    refine XS.aload X2.here hx rfl (hb hby at_64) rfl rfl ?_
    show Steps p.tables e below (T2.setTop (mkF m 66 #[.val (.int x0), .val (.int x1), .val (.int x2), .val (.int x3), .val (.int x4), .val (.int x5), .val (.int ob), .val (.int lb), .val (.int sp), .val (.int ch), .val (.ref bs), .unset, .unset, .unset, .unset, .unset, .unset, .unset, .unset, .unset, .unset, .unset] [(.ref bs), (.ref b2), (.ref b2)])) _
    refine XS.iload X2.here hx rfl (hb hby at_66) rfl ?_
    show Steps p.tables e below (T2.setTop (mkF m 68 #[.val (.int x0), .val (.int x1), .val (.int x2), .val (.int x3), .val (.int x4), .val (.int x5), .val (.int ob), .val (.int lb), .val (.int sp), .val (.int ch), .val (.ref bs), .unset, .unset, .unset, .unset, .unset, .unset, .unset, .unset, .unset, .unset, .unset] [(.int ob), (.ref bs), (.ref b2), (.ref b2)])) _
    refine XS.iload X2.here hx rfl (hb hby at_68) rfl ?_
    show Steps p.tables e below (T2.setTop (mkF m 70 #[.val (.int x0), .val (.int x1), .val (.int x2), .val (.int x3), .val (.int x4), .val (.int x5), .val (.int ob), .val (.int lb), .val (.int sp), .val (.int ch), .val (.ref bs), .unset, .unset, .unset, .unset, .unset, .unset, .unset, .unset, .unset, .unset, .unset] [(.int lb), (.int ob), (.ref bs), (.ref b2), (.ref b2)])) _
    refine st3.trans ?_
    show Steps p.tables e below (T3.setTop (mkF m 73 #[.val (.int x0), .val (.int x1), .val (.int x2), .val (.int x3), .val (.int x4), .val (.int x5), .val (.int ob), .val (.int lb), .val (.int sp), .val (.int ch), .val (.ref bs), .unset, .unset, .unset, .unset, .unset, .unset, .unset, .unset, .unset, .unset, .unset] [(.ref b2)])) _
    refine XS.astore X3.here hx rfl (hb hby at_73) rfl rfl (l' := #[.val (.int x0), .val (.int x1), .val (.int x2), .val (.int x3), .val (.int x4), .val (.int x5), .val (.int ob), .val (.int lb), .val (.int sp), .val (.int ch), .val (.ref bs), .val (.ref b2), .unset, .unset, .unset, .unset, .unset, .unset, .unset, .unset, .unset, .unset]) rfl ?_
    show Steps p.tables e below (T3.setTop (mkF m 75 #[.val (.int x0), .val (.int x1), .val (.int x2), .val (.int x3), .val (.int x4), .val (.int x5), .val (.int ob), .val (.int lb), .val (.int sp), .val (.int ch), .val (.ref bs), .val (.ref b2), .unset, .unset, .unset, .unset, .unset, .unset, .unset, .unset, .unset, .unset] [])) _
    refine st4 _ ?_
    show Steps p.tables e below (T4.setTop (mkF m 78 #[.val (.int x0), .val (.int x1), .val (.int x2), .val (.int x3), .val (.int x4), .val (.int x5), .val (.int ob), .val (.int lb), .val (.int sp), .val (.int ch), .val (.ref bs), .val (.ref b2), .unset, .unset, .unset, .unset, .unset, .unset, .unset, .unset, .unset, .unset] [(.ref b4)])) _
    refine XS.dup X4.here hx rfl (hb hby at_78) rfl rfl ?_
    show Steps p.tables e below (T4.setTop (mkF m 79 #[.val (.int x0), .val (.int x1), .val (.int x2), .val (.int x3), .val (.int x4), .val (.int x5), .val (.int ob), .val (.int lb), .val (.int sp), .val (.int ch), .val (.ref bs), .val (.ref b2), .unset, .unset, .unset, .unset, .unset, .unset, .unset, .unset, .unset, .unset] [(.ref b4), (.ref b4)])) _
    refine XS.aload X4.here hx rfl (hb hby at_79) rfl rfl ?_
    show Steps p.tables e below (T4.setTop (mkF m 81 #[.val (.int x0), .val (.int x1), .val (.int x2), .val (.int x3), .val (.int x4), .val (.int x5), .val (.int ob), .val (.int lb), .val (.int sp), .val (.int ch), .val (.ref bs), .val (.ref b2), .unset, .unset, .unset, .unset, .unset, .unset, .unset, .unset, .unset, .unset] [(.ref bs), (.ref b4), (.ref b4)])) _
    refine XS.iload X4.here hx rfl (hb hby at_81) rfl ?_
    show Steps p.tables e below (T4.setTop (mkF m 83 #[.val (.int x0), .val (.int x1), .val (.int x2), .val (.int x3), .val (.int x4), .val (.int x5), .val (.int ob), .val (.int lb), .val (.int sp), .val (.int ch), .val (.ref bs), .val (.ref b2), .unset, .unset, .unset, .unset, .unset, .unset, .unset, .unset, .unset, .unset] [(.int ob), (.ref bs), (.ref b4), (.ref b4)])) _
    refine XS.iload X4.here hx rfl (hb hby at_83) rfl ?_
    show Steps p.tables e below (T4.setTop (mkF m 85 #[.val (.int x0), .val (.int x1), .val (.int x2), .val (.int x3), .val (.int x4), .val (.int x5), .val (.int ob), .val (.int lb), .val (.int sp), .val (.int ch), .val (.ref bs), .val (.ref b2), .unset, .unset, .unset, .unset, .unset, .unset, .unset, .unset, .unset, .unset] [(.int lb), (.int ob), (.ref bs), (.ref b4), (.ref b4)])) _
    refine st5.trans ?_
    show Steps p.tables e below (T5.setTop (mkF m 88 #[.val (.int x0), .val (.int x1), .val (.int x2), .val (.int x3), .val (.int x4), .val (.int x5), .val (.int ob), .val (.int lb), .val (.int sp), .val (.int ch), .val (.ref bs), .val (.ref b2), .unset, .unset, .unset, .unset, .unset, .unset, .unset, .unset, .unset, .unset] [(.ref b4)])) _
    refine XS.astore X5.here hx rfl (hb hby at_88) rfl rfl (l' := #[.val (.int x0), .val (.int x1), .val (.int x2), .val (.int x3), .val (.int x4), .val (.int x5), .val (.int ob), .val (.int lb), .val (.int sp), .val (.int ch), .val (.ref bs), .val (.ref b2), .val (.ref b4), .unset, .unset, .unset, .unset, .unset, .unset, .unset, .unset, .unset]) rfl ?_
    show Steps p.tables e below (T5.setTop (mkF m 90 #[.val (.int x0), .val (.int x1), .val (.int x2), .val (.int x3), .val (.int x4), .val (.int x5), .val (.int ob), .val (.int lb), .val (.int sp), .val (.int ch), .val (.ref bs), .val (.ref b2), .val (.ref b4), .unset, .unset, .unset, .unset, .unset, .unset, .unset, .unset, .unset] [])) _
    refine XS.iload X5.here hx rfl (hb hby at_90) rfl ?_
    show Steps p.tables e below (T5.setTop (mkF m 92 #[.val (.int x0), .val (.int x1), .val (.int x2), .val (.int x3), .val (.int x4), .val (.int x5), .val (.int ob), .val (.int lb), .val (.int sp), .val (.int ch), .val (.ref bs), .val (.ref b2), .val (.ref b4), .unset, .unset, .unset, .unset, .unset, .unset, .unset, .unset, .unset] [(.int x4)])) _
    refine XS.iconst X5.here hx rfl (hb hby at_92) ?_
    show Steps p.tables e below (T5.setTop (mkF m 93 #[.val (.int x0), .val (.int x1), .val (.int x2), .val (.int x3), .val (.int x4), .val (.int x5), .val (.int ob), .val (.int lb), .val (.int sp), .val (.int ch), .val (.ref bs), .val (.ref b2), .val (.ref b4), .unset, .unset, .unset, .unset, .unset, .unset, .unset, .unset, .unset] [(.int (3 : Int32)), (.int x4)])) _
    refine XS.iand X5.here hx rfl (hb hby at_93) rfl ?_
    show Steps p.tables e below (T5.setTop (mkF m 94 #[.val (.int x0), .val (.int x1), .val (.int x2), .val (.int x3), .val (.int x4), .val (.int x5), .val (.int ob), .val (.int lb), .val (.int sp), .val (.int ch), .val (.ref bs), .val (.ref b2), .val (.ref b4), .unset, .unset, .unset, .unset, .unset, .unset, .unset, .unset, .unset] [(.int (x4 &&& (3 : Int32)))])) _
    rw [hk1]
    show Steps p.tables e below (T5.setTop (mkF m 94 #[.val (.int x0), .val (.int x1), .val (.int x2), .val (.int x3), .val (.int x4), .val (.int x5), .val (.int ob), .val (.int lb), .val (.int sp), .val (.int ch), .val (.ref bs), .val (.ref b2), .val (.ref b4), .unset, .unset, .unset, .unset, .unset, .unset, .unset, .unset, .unset] [(.int k1)])) _
    refine XS.istore X5.here hx rfl (hb hby at_94) rfl (l' := #[.val (.int x0), .val (.int x1), .val (.int x2), .val (.int x3), .val (.int x4), .val (.int x5), .val (.int ob), .val (.int lb), .val (.int sp), .val (.int ch), .val (.ref bs), .val (.ref b2), .val (.ref b4), .val (.int k1), .unset, .unset, .unset, .unset, .unset, .unset, .unset, .unset]) rfl ?_
    show Steps p.tables e below (T5.setTop (mkF m 96 #[.val (.int x0), .val (.int x1), .val (.int x2), .val (.int x3), .val (.int x4), .val (.int x5), .val (.int ob), .val (.int lb), .val (.int sp), .val (.int ch), .val (.ref bs), .val (.ref b2), .val (.ref b4), .val (.int k1), .unset, .unset, .unset, .unset, .unset, .unset, .unset, .unset] [])) _
    refine XS.iload X5.here hx rfl (hb hby at_96) rfl ?_
    show Steps p.tables e below (T5.setTop (mkF m 98 #[.val (.int x0), .val (.int x1), .val (.int x2), .val (.int x3), .val (.int x4), .val (.int x5), .val (.int ob), .val (.int lb), .val (.int sp), .val (.int ch), .val (.ref bs), .val (.ref b2), .val (.ref b4), .val (.int k1), .unset, .unset, .unset, .unset, .unset, .unset, .unset, .unset] [(.int x4)])) _
    refine XS.iconst X5.here hx rfl (hb hby at_98) ?_
    show Steps p.tables e below (T5.setTop (mkF m 99 #[.val (.int x0), .val (.int x1), .val (.int x2), .val (.int x3), .val (.int x4), .val (.int x5), .val (.int ob), .val (.int lb), .val (.int sp), .val (.int ch), .val (.ref bs), .val (.ref b2), .val (.ref b4), .val (.int k1), .unset, .unset, .unset, .unset, .unset, .unset, .unset, .unset] [(.int (2 : Int32)), (.int x4)])) _
    refine XS.iushr X5.here hx rfl (hb hby at_99) rfl ?_
    show Steps p.tables e below (T5.setTop (mkF m 100 #[.val (.int x0), .val (.int x1), .val (.int x2), .val (.int x3), .val (.int x4), .val (.int x5), .val (.int ob), .val (.int lb), .val (.int sp), .val (.int ch), .val (.ref bs), .val (.ref b2), .val (.ref b4), .val (.int k1), .unset, .unset, .unset, .unset, .unset, .unset, .unset, .unset] [(.int ((x4.toUInt32 >>> ((2 : Int32) &&& 31).toUInt32).toInt32))])) _
    refine XS.iconst X5.here hx rfl (hb hby at_100) ?_
    show Steps p.tables e below (T5.setTop (mkF m 101 #[.val (.int x0), .val (.int x1), .val (.int x2), .val (.int x3), .val (.int x4), .val (.int x5), .val (.int ob), .val (.int lb), .val (.int sp), .val (.int ch), .val (.ref bs), .val (.ref b2), .val (.ref b4), .val (.int k1), .unset, .unset, .unset, .unset, .unset, .unset, .unset, .unset] [(.int (3 : Int32)), (.int ((x4.toUInt32 >>> ((2 : Int32) &&& 31).toUInt32).toInt32))])) _
    refine XS.iand X5.here hx rfl (hb hby at_101) rfl ?_
    show Steps p.tables e below (T5.setTop (mkF m 102 #[.val (.int x0), .val (.int x1), .val (.int x2), .val (.int x3), .val (.int x4), .val (.int x5), .val (.int ob), .val (.int lb), .val (.int sp), .val (.int ch), .val (.ref bs), .val (.ref b2), .val (.ref b4), .val (.int k1), .unset, .unset, .unset, .unset, .unset, .unset, .unset, .unset] [(.int (((x4.toUInt32 >>> ((2 : Int32) &&& 31).toUInt32).toInt32) &&& (3 : Int32)))])) _
    rw [hk2]
    show Steps p.tables e below (T5.setTop (mkF m 102 #[.val (.int x0), .val (.int x1), .val (.int x2), .val (.int x3), .val (.int x4), .val (.int x5), .val (.int ob), .val (.int lb), .val (.int sp), .val (.int ch), .val (.ref bs), .val (.ref b2), .val (.ref b4), .val (.int k1), .unset, .unset, .unset, .unset, .unset, .unset, .unset, .unset] [(.int k2)])) _
    refine XS.istore X5.here hx rfl (hb hby at_102) rfl (l' := #[.val (.int x0), .val (.int x1), .val (.int x2), .val (.int x3), .val (.int x4), .val (.int x5), .val (.int ob), .val (.int lb), .val (.int sp), .val (.int ch), .val (.ref bs), .val (.ref b2), .val (.ref b4), .val (.int k1), .val (.int k2), .unset, .unset, .unset, .unset, .unset, .unset, .unset]) rfl ?_
    show Steps p.tables e below (T5.setTop (mkF m 104 #[.val (.int x0), .val (.int x1), .val (.int x2), .val (.int x3), .val (.int x4), .val (.int x5), .val (.int ob), .val (.int lb), .val (.int sp), .val (.int ch), .val (.ref bs), .val (.ref b2), .val (.ref b4), .val (.int k1), .val (.int k2), .unset, .unset, .unset, .unset, .unset, .unset, .unset] [])) _
    refine XS.iload X5.here hx rfl (hb hby at_104) rfl ?_
    show Steps p.tables e below (T5.setTop (mkF m 106 #[.val (.int x0), .val (.int x1), .val (.int x2), .val (.int x3), .val (.int x4), .val (.int x5), .val (.int ob), .val (.int lb), .val (.int sp), .val (.int ch), .val (.ref bs), .val (.ref b2), .val (.ref b4), .val (.int k1), .val (.int k2), .unset, .unset, .unset, .unset, .unset, .unset, .unset] [(.int x4)])) _
    refine XS.iconst X5.here hx rfl (hb hby at_106) ?_
    show Steps p.tables e below (T5.setTop (mkF m 107 #[.val (.int x0), .val (.int x1), .val (.int x2), .val (.int x3), .val (.int x4), .val (.int x5), .val (.int ob), .val (.int lb), .val (.int sp), .val (.int ch), .val (.ref bs), .val (.ref b2), .val (.ref b4), .val (.int k1), .val (.int k2), .unset, .unset, .unset, .unset, .unset, .unset, .unset] [(.int (4 : Int32)), (.int x4)])) _
    refine XS.iushr X5.here hx rfl (hb hby at_107) rfl ?_
    show Steps p.tables e below (T5.setTop (mkF m 108 #[.val (.int x0), .val (.int x1), .val (.int x2), .val (.int x3), .val (.int x4), .val (.int x5), .val (.int ob), .val (.int lb), .val (.int sp), .val (.int ch), .val (.ref bs), .val (.ref b2), .val (.ref b4), .val (.int k1), .val (.int k2), .unset, .unset, .unset, .unset, .unset, .unset, .unset] [(.int ((x4.toUInt32 >>> ((4 : Int32) &&& 31).toUInt32).toInt32))])) _
    refine XS.iconst X5.here hx rfl (hb hby at_108) ?_
    show Steps p.tables e below (T5.setTop (mkF m 109 #[.val (.int x0), .val (.int x1), .val (.int x2), .val (.int x3), .val (.int x4), .val (.int x5), .val (.int ob), .val (.int lb), .val (.int sp), .val (.int ch), .val (.ref bs), .val (.ref b2), .val (.ref b4), .val (.int k1), .val (.int k2), .unset, .unset, .unset, .unset, .unset, .unset, .unset] [(.int (3 : Int32)), (.int ((x4.toUInt32 >>> ((4 : Int32) &&& 31).toUInt32).toInt32))])) _
    refine XS.iand X5.here hx rfl (hb hby at_109) rfl ?_
    show Steps p.tables e below (T5.setTop (mkF m 110 #[.val (.int x0), .val (.int x1), .val (.int x2), .val (.int x3), .val (.int x4), .val (.int x5), .val (.int ob), .val (.int lb), .val (.int sp), .val (.int ch), .val (.ref bs), .val (.ref b2), .val (.ref b4), .val (.int k1), .val (.int k2), .unset, .unset, .unset, .unset, .unset, .unset, .unset] [(.int (((x4.toUInt32 >>> ((4 : Int32) &&& 31).toUInt32).toInt32) &&& (3 : Int32)))])) _
    rw [hmd]
    show Steps p.tables e below (T5.setTop (mkF m 110 #[.val (.int x0), .val (.int x1), .val (.int x2), .val (.int x3), .val (.int x4), .val (.int x5), .val (.int ob), .val (.int lb), .val (.int sp), .val (.int ch), .val (.ref bs), .val (.ref b2), .val (.ref b4), .val (.int k1), .val (.int k2), .unset, .unset, .unset, .unset, .unset, .unset, .unset] [(.int md)])) _
    refine XS.istore X5.here hx rfl (hb hby at_110) rfl (l' := #[.val (.int x0), .val (.int x1), .val (.int x2), .val (.int x3), .val (.int x4), .val (.int x5), .val (.int ob), .val (.int lb), .val (.int sp), .val (.int ch), .val (.ref bs), .val (.ref b2), .val (.ref b4), .val (.int k1), .val (.int k2), .val (.int md), .unset, .unset, .unset, .unset, .unset, .unset]) rfl ?_
    show Steps p.tables e below (T5.setTop (mkF m 112 #[.val (.int x0), .val (.int x1), .val (.int x2), .val (.int x3), .val (.int x4), .val (.int x5), .val (.int ob), .val (.int lb), .val (.int sp), .val (.int ch), .val (.ref bs), .val (.ref b2), .val (.ref b4), .val (.int k1), .val (.int k2), .val (.int md), .unset, .unset, .unset, .unset, .unset, .unset] [])) _
    refine XS.iload X5.here hx rfl (hb hby at_112) rfl ?_
    show Steps p.tables e below (T5.setTop (mkF m 114 #[.val (.int x0), .val (.int x1), .val (.int x2), .val (.int x3), .val (.int x4), .val (.int x5), .val (.int ob), .val (.int lb), .val (.int sp), .val (.int ch), .val (.ref bs), .val (.ref b2), .val (.ref b4), .val (.int k1), .val (.int k2), .val (.int md), .unset, .unset, .unset, .unset, .unset, .unset] [(.int k1)])) _
    refine st6 _ ?_
    show Steps p.tables e below (T6.setTop (mkF m 117 #[.val (.int x0), .val (.int x1), .val (.int x2), .val (.int x3), .val (.int x4), .val (.int x5), .val (.int ob), .val (.int lb), .val (.int sp), .val (.int ch), .val (.ref bs), .val (.ref b2), .val (.ref b4), .val (.int k1), .val (.int k2), .val (.int md), .unset, .unset, .unset, .unset, .unset, .unset] [v1])) _
    refine XS.astore X6.here hx rfl (hb hby at_117) rfl r1 (l' := #[.val (.int x0), .val (.int x1), .val (.int x2), .val (.int x3), .val (.int x4), .val (.int x5), .val (.int ob), .val (.int lb), .val (.int sp), .val (.int ch), .val (.ref bs), .val (.ref b2), .val (.ref b4), .val (.int k1), .val (.int k2), .val (.int md), .val v1, .unset, .unset, .unset, .unset, .unset]) (XS.store1 (o := .unset) rfl (Or.inl rfl) (own_cat r1)) ?_
    show Steps p.tables e below (T6.setTop (mkF m 119 #[.val (.int x0), .val (.int x1), .val (.int x2), .val (.int x3), .val (.int x4), .val (.int x5), .val (.int ob), .val (.int lb), .val (.int sp), .val (.int ch), .val (.ref bs), .val (.ref b2), .val (.ref b4), .val (.int k1), .val (.int k2), .val (.int md), .val v1, .unset, .unset, .unset, .unset, .unset] [])) _
    refine XS.iload X6.here hx rfl (hb hby at_119) rfl ?_
    show Steps p.tables e below (T6.setTop (mkF m 121 #[.val (.int x0), .val (.int x1), .val (.int x2), .val (.int x3), .val (.int x4), .val (.int x5), .val (.int ob), .val (.int lb), .val (.int sp), .val (.int ch), .val (.ref bs), .val (.ref b2), .val (.ref b4), .val (.int k1), .val (.int k2), .val (.int md), .val v1, .unset, .unset, .unset, .unset, .unset] [(.int k2)])) _
    refine st7 _ ?_
    show Steps p.tables e below (T7.setTop (mkF m 124 #[.val (.int x0), .val (.int x1), .val (.int x2), .val (.int x3), .val (.int x4), .val (.int x5), .val (.int ob), .val (.int lb), .val (.int sp), .val (.int ch), .val (.ref bs), .val (.ref b2), .val (.ref b4), .val (.int k1), .val (.int k2), .val (.int md), .val v1, .unset, .unset, .unset, .unset, .unset] [v2])) _
    refine XS.astore X7.here hx rfl (hb hby at_124) rfl r2 (l' := #[.val (.int x0), .val (.int x1), .val (.int x2), .val (.int x3), .val (.int x4), .val (.int x5), .val (.int ob), .val (.int lb), .val (.int sp), .val (.int ch), .val (.ref bs), .val (.ref b2), .val (.ref b4), .val (.int k1), .val (.int k2), .val (.int md), .val v1, .val v2, .unset, .unset, .unset, .unset]) (XS.store1 (o := .unset) rfl (Or.inl rfl) (own_cat r2)) ?_
    show Steps p.tables e below (T7.setTop (mkF m 126 #[.val (.int x0), .val (.int x1), .val (.int x2), .val (.int x3), .val (.int x4), .val (.int x5), .val (.int ob), .val (.int lb), .val (.int sp), .val (.int ch), .val (.ref bs), .val (.ref b2), .val (.ref b4), .val (.int k1), .val (.int k2), .val (.int md), .val v1, .val v2, .unset, .unset, .unset, .unset] [])) _
    refine st8 _ ?_
    show Steps p.tables e below (T8.setTop (mkF m 129 #[.val (.int x0), .val (.int x1), .val (.int x2), .val (.int x3), .val (.int x4), .val (.int x5), .val (.int ob), .val (.int lb), .val (.int sp), .val (.int ch), .val (.ref bs), .val (.ref b2), .val (.ref b4), .val (.int k1), .val (.int k2), .val (.int md), .val v1, .val v2, .unset, .unset, .unset, .unset] [(.ref b8)])) _
    refine XS.dup X8.here hx rfl (hb hby at_129) rfl rfl ?_
    show Steps p.tables e below (T8.setTop (mkF m 130 #[.val (.int x0), .val (.int x1), .val (.int x2), .val (.int x3), .val (.int x4), .val (.int x5), .val (.int ob), .val (.int lb), .val (.int sp), .val (.int ch), .val (.ref bs), .val (.ref b2), .val (.ref b4), .val (.int k1), .val (.int k2), .val (.int md), .val v1, .val v2, .unset, .unset, .unset, .unset] [(.ref b8), (.ref b8)])) _
    refine XS.aload X8.here hx rfl (hb hby at_130) rfl rfl ?_
    show Steps p.tables e below (T8.setTop (mkF m 132 #[.val (.int x0), .val (.int x1), .val (.int x2), .val (.int x3), .val (.int x4), .val (.int x5), .val (.int ob), .val (.int lb), .val (.int sp), .val (.int ch), .val (.ref bs), .val (.ref b2), .val (.ref b4), .val (.int k1), .val (.int k2), .val (.int md), .val v1, .val v2, .unset, .unset, .unset, .unset] [(.ref b2), (.ref b8), (.ref b8)])) _
    refine XS.iloadN X8.here hx rfl (hb hby at_132) rfl ?_
    show Steps p.tables e below (T8.setTop (mkF m 133 #[.val (.int x0), .val (.int x1), .val (.int x2), .val (.int x3), .val (.int x4), .val (.int x5), .val (.int ob), .val (.int lb), .val (.int sp), .val (.int ch), .val (.ref bs), .val (.ref b2), .val (.ref b4), .val (.int k1), .val (.int k2), .val (.int md), .val v1, .val v2, .unset, .unset, .unset, .unset] [(.int x0), (.ref b2), (.ref b8), (.ref b8)])) _
    refine XS.iloadN X8.here hx rfl (hb hby at_133) rfl ?_
    show Steps p.tables e below (T8.setTop (mkF m 134 #[.val (.int x0), .val (.int x1), .val (.int x2), .val (.int x3), .val (.int x4), .val (.int x5), .val (.int ob), .val (.int lb), .val (.int sp), .val (.int ch), .val (.ref bs), .val (.ref b2), .val (.ref b4), .val (.int k1), .val (.int k2), .val (.int md), .val v1, .val v2, .unset, .unset, .unset, .unset] [(.int x1), (.int x0), (.ref b2), (.ref b8), (.ref b8)])) _
    refine XS.aload X8.here hx rfl (hb hby at_134) rfl r1 ?_
    show Steps p.tables e below (T8.setTop (mkF m 136 #[.val (.int x0), .val (.int x1), .val (.int x2), .val (.int x3), .val (.int x4), .val (.int x5), .val (.int ob), .val (.int lb), .val (.int sp), .val (.int ch), .val (.ref bs), .val (.ref b2), .val (.ref b4), .val (.int k1), .val (.int k2), .val (.int md), .val v1, .val v2, .unset, .unset, .unset, .unset] [v1, (.int x1), (.int x0), (.ref b2), (.ref b8), (.ref b8)])) _
    refine st9.trans ?_
    show Steps p.tables e below (T9.setTop (mkF m 139 #[.val (.int x0), .val (.int x1), .val (.int x2), .val (.int x3), .val (.int x4), .val (.int x5), .val (.int ob), .val (.int lb), .val (.int sp), .val (.int ch), .val (.ref bs), .val (.ref b2), .val (.ref b4), .val (.int k1), .val (.int k2), .val (.int md), .val v1, .val v2, .unset, .unset, .unset, .unset] [(.ref b8)])) _
    refine XS.astore X9.here hx rfl (hb hby at_139) rfl rfl (l' := #[.val (.int x0), .val (.int x1), .val (.int x2), .val (.int x3), .val (.int x4), .val (.int x5), .val (.int ob), .val (.int lb), .val (.int sp), .val (.int ch), .val (.ref bs), .val (.ref b2), .val (.ref b4), .val (.int k1), .val (.int k2), .val (.int md), .val v1, .val v2, .val (.ref b8), .unset, .unset, .unset]) rfl ?_
    show Steps p.tables e below (T9.setTop (mkF m 141 #[.val (.int x0), .val (.int x1), .val (.int x2), .val (.int x3), .val (.int x4), .val (.int x5), .val (.int ob), .val (.int lb), .val (.int sp), .val (.int ch), .val (.ref bs), .val (.ref b2), .val (.ref b4), .val (.int k1), .val (.int k2), .val (.int md), .val v1, .val v2, .val (.ref b8), .unset, .unset, .unset] [])) _
    refine st10 _ ?_
    show Steps p.tables e below (T10.setTop (mkF m 144 #[.val (.int x0), .val (.int x1), .val (.int x2), .val (.int x3), .val (.int x4), .val (.int x5), .val (.int ob), .val (.int lb), .val (.int sp), .val (.int ch), .val (.ref bs), .val (.ref b2), .val (.ref b4), .val (.int k1), .val (.int k2), .val (.int md), .val v1, .val v2, .val (.ref b8), .unset, .unset, .unset] [(.ref b10)])) _
    refine XS.dup X10.here hx rfl (hb hby at_144) rfl rfl ?_
    show Steps p.tables e below (T10.setTop (mkF m 145 #[.val (.int x0), .val (.int x1), .val (.int x2), .val (.int x3), .val (.int x4), .val (.int x5), .val (.int ob), .val (.int lb), .val (.int sp), .val (.int ch), .val (.ref bs), .val (.ref b2), .val (.ref b4), .val (.int k1), .val (.int k2), .val (.int md), .val v1, .val v2, .val (.ref b8), .unset, .unset, .unset] [(.ref b10), (.ref b10)])) _
    refine mdq _ ?_
    show Steps p.tables e below (T10.setTop (mkF m 157 #[.val (.int x0), .val (.int x1), .val (.int x2), .val (.int x3), .val (.int x4), .val (.int x5), .val (.int ob), .val (.int lb), .val (.int sp), .val (.int ch), .val (.ref bs), .val (.ref b2), .val (.ref b4), .val (.int k1), .val (.int k2), .val (.int md), .val v1, .val v2, .val (.ref b8), .unset, .unset, .unset] [(.ref pq), (.ref b10), (.ref b10)])) _
    refine XS.iloadN X10.here hx rfl (hb hby at_157) rfl ?_
    show Steps p.tables e below (T10.setTop (mkF m 158 #[.val (.int x0), .val (.int x1), .val (.int x2), .val (.int x3), .val (.int x4), .val (.int x5), .val (.int ob), .val (.int lb), .val (.int sp), .val (.int ch), .val (.ref bs), .val (.ref b2), .val (.ref b4), .val (.int k1), .val (.int k2), .val (.int md), .val v1, .val v2, .val (.ref b8), .unset, .unset, .unset] [(.int x2), (.ref pq), (.ref b10), (.ref b10)])) _
    refine XS.iloadN X10.here hx rfl (hb hby at_158) rfl ?_
    show Steps p.tables e below (T10.setTop (mkF m 159 #[.val (.int x0), .val (.int x1), .val (.int x2), .val (.int x3), .val (.int x4), .val (.int x5), .val (.int ob), .val (.int lb), .val (.int sp), .val (.int ch), .val (.ref bs), .val (.ref b2), .val (.ref b4), .val (.int k1), .val (.int k2), .val (.int md), .val v1, .val v2, .val (.ref b8), .unset, .unset, .unset] [(.int x3), (.int x2), (.ref pq), (.ref b10), (.ref b10)])) _
    refine XS.aload X10.here hx rfl (hb hby at_159) rfl r2 ?_
    show Steps p.tables e below (T10.setTop (mkF m 161 #[.val (.int x0), .val (.int x1), .val (.int x2), .val (.int x3), .val (.int x4), .val (.int x5), .val (.int ob), .val (.int lb), .val (.int sp), .val (.int ch), .val (.ref bs), .val (.ref b2), .val (.ref b4), .val (.int k1), .val (.int k2), .val (.int md), .val v1, .val v2, .val (.ref b8), .unset, .unset, .unset] [v2, (.int x3), (.int x2), (.ref pq), (.ref b10), (.ref b10)])) _
    refine st11.trans ?_
    show Steps p.tables e below (T11.setTop (mkF m 164 #[.val (.int x0), .val (.int x1), .val (.int x2), .val (.int x3), .val (.int x4), .val (.int x5), .val (.int ob), .val (.int lb), .val (.int sp), .val (.int ch), .val (.ref bs), .val (.ref b2), .val (.ref b4), .val (.int k1), .val (.int k2), .val (.int md), .val v1, .val v2, .val (.ref b8), .unset, .unset, .unset] [(.ref b10)])) _
    refine XS.astore X11.here hx rfl (hb hby at_164) rfl rfl (l' := #[.val (.int x0), .val (.int x1), .val (.int x2), .val (.int x3), .val (.int x4), .val (.int x5), .val (.int ob), .val (.int lb), .val (.int sp), .val (.int ch), .val (.ref bs), .val (.ref b2), .val (.ref b4), .val (.int k1), .val (.int k2), .val (.int md), .val v1, .val v2, .val (.ref b8), .val (.ref b10), .unset, .unset]) rfl ?_
    show Steps p.tables e below (T11.setTop (mkF m 166 #[.val (.int x0), .val (.int x1), .val (.int x2), .val (.int x3), .val (.int x4), .val (.int x5), .val (.int ob), .val (.int lb), .val (.int sp), .val (.int ch), .val (.ref bs), .val (.ref b2), .val (.ref b4), .val (.int k1), .val (.int k2), .val (.int md), .val v1, .val v2, .val (.ref b8), .val (.ref b10), .unset, .unset] [])) _
    refine XS.iload X11.here hx rfl (hb hby at_166) rfl ?_
    exact kt
  rcases fb3 with hm | hm | hm | hm
  · rcases HP with ⟨h, hpq⟩ | ⟨h, hpq⟩
    · obtain ⟨n1, Q1⟩ : ∃ r, own_Norm k1 r := if q : k1 = 3 then ⟨0, Or.inl ⟨q, rfl⟩⟩ else ⟨k1, Or.inr ⟨q, rfl⟩⟩
      obtain ⟨n2, Q2⟩ : ∃ r, own_Norm k2 r := if q : k2 = 3 then ⟨0, Or.inl ⟨q, rfl⟩⟩ else ⟨k2, Or.inr ⟨q, rfl⟩⟩
      have SN := own_sn ne fb1 fb2 QS1 QS2 Q1 Q2
      obtain ⟨_, _, ⟨T12, L12, k12, n12⟩, -, X12, ⟨Lc12, hQ12, l12, y12, z12⟩, st12⟩ := Jvm.LawKit.callS X11 hx (y := (⟨"com/example/burdock/burdock/query/ParameterReferenceSameAsPinLaw", "norm", "(I)I"⟩ : MethodName)) ho11 (mvT hZ11 (hw _ (List.mem_of_getElem? (i := 95) rfl))) (mvT hZ11 (hw _ (List.mem_of_getElem? (i := 96) rfl))) (mvT hZ11 (hw _ (List.mem_of_getElem? (i := 49) rfl))) (mvT hZ11 (hw _ (List.mem_of_getElem? (i := 97) rfl))) (by decide) (backOf (W := 0) (rm12 l Z a0 hw [] k1 n1 T11.heap n0 zz11 Q1) hZ11 (hw _ (List.mem_of_getElem? (i := 97) rfl)) (hw _ (List.mem_of_getElem? (i := 49) rfl)) (by decide) (by decide)) (g := (mkF m 182 #[.val (.int x0), .val (.int x1), .val (.int x2), .val (.int x3), .val (.int x4), .val (.int x5), .val (.int ob), .val (.int lb), .val (.int sp), .val (.int ch), .val (.ref bs), .val (.ref b2), .val (.ref b4), .val (.int k1), .val (.int k2), .val (.int md), .val v1, .val v2, .val (.ref b8), .val (.ref b10), .val (.ref b10), .unset] [(.int k1)])) rfl (by rw [hml]; rfl) (argsL := [(.int k1)]) (rest := []) (lenOf pd__IRI rfl) rfl (by show 2 * 0 + _ ≤ _; exact Nat.le_of_eq rfl) (hb hby at_182) (fun _ _ => ⟨rfl, rfl, (by decide : 16 + 0 ≤ _), (by decide : 151 + 0 ≤ _)⟩)
      dsimp only [Pt.U, Pt.locs, Pt.cells, Pt.slots] at X12 l12 y12 z12 st12 hQ12
      subst l12 y12 z12
      obtain ⟨rfl, N12q, eh12⟩ := hQ12
      have N12 := Fr.app N11 N12q
      obtain ⟨_, _, ⟨T13, L13, k13, n13⟩, -, X13, ⟨Lc13, hQ13, l13, y13, z13⟩, st13⟩ := Jvm.LawKit.callS X12 hx (y := (⟨"com/example/burdock/burdock/query/ParameterReferenceSameAsPinLaw", "norm", "(I)I"⟩ : MethodName)) ho11 (mvT hZ11 (hw _ (List.mem_of_getElem? (i := 95) rfl))) (mvT hZ11 (hw _ (List.mem_of_getElem? (i := 96) rfl))) (mvT hZ11 (hw _ (List.mem_of_getElem? (i := 49) rfl))) (mvT hZ11 (hw _ (List.mem_of_getElem? (i := 97) rfl))) (by decide) (backOf (W := 1) (rm12 l Z a0 hw [] k2 n2 T11.heap n0 zz11 Q2) hZ11 (hw _ (List.mem_of_getElem? (i := 97) rfl)) (hw _ (List.mem_of_getElem? (i := 49) rfl)) (by decide) (by decide)) (g := (mkF m 187 #[.val (.int x0), .val (.int x1), .val (.int x2), .val (.int x3), .val (.int x4), .val (.int x5), .val (.int ob), .val (.int lb), .val (.int sp), .val (.int ch), .val (.ref bs), .val (.ref b2), .val (.ref b4), .val (.int k1), .val (.int k2), .val (.int md), .val v1, .val v2, .val (.ref b8), .val (.ref b10), .val (.ref b10), .unset] [(.int k2), (.int n1)])) rfl (by rw [hml]; rfl) (argsL := [(.int k2)]) (rest := [(.int n1)]) (lenOf pd__IRI rfl) rfl (by show 2 * 0 + _ ≤ _; exact Nat.le_of_eq rfl) (hb hby at_187) (fun _ _ => ⟨rfl, eh12, (by decide : 16 + 0 ≤ _), (by decide : 151 + 0 ≤ _)⟩)
      dsimp only [Pt.U, Pt.locs, Pt.cells, Pt.slots] at X13 l13 y13 z13 st13 hQ13
      subst l13 y13 z13
      obtain ⟨rfl, N13q, eh13⟩ := hQ13
      have N13 := Fr.app N12 N13q
      have Fq := Fp11
      rw [hpq] at Fq
      by_cases hn : n1 = n2
      · obtain ⟨cq14, kq14, q14a, q14b, q14c⟩ := isOf hZ11 eh13 R8_11
        obtain ⟨_, _, ⟨T14, L14, k14, n14⟩, -, X14, ⟨Lc14, hQ14, l14, y14, z14⟩, st14⟩ := X13.virtualBack hx (y := (⟨"com/example/burdock/burdock/query/ParameterReference", "sameAs", "(Ljava/lang/Object;)Z"⟩ : MethodName)) (z := (⟨"com/example/burdock/burdock/query/ParameterReference", "sameAs", "(Ljava/lang/Object;)Z"⟩ : MethodName)) ho11 (mvT hZ11 (hw _ (List.mem_of_getElem? (i := 80) rfl))) (mvT hZ11 (hw _ (List.mem_of_getElem? (i := 81) rfl))) (notFace_of_selects (args := #[]) (mvT hZ11 (hw _ (List.mem_of_getElem? (i := 83) rfl)))) (mvT hZ11 (hw _ (List.mem_of_getElem? (i := 83) rfl))) (mvT hZ11 (hw _ (List.mem_of_getElem? (i := 82) rfl))) (by decide) (backOf (W := 0) (rm11c l Z a0 hw [] b8 b10 b2 v1 v2 T11.heap n0 zz11 R10_11 Fp8_11 Fq Fe8_11 Fe11 r1 r2 (SN.mp hn)) hZ11 (hw _ (List.mem_of_getElem? (i := 84) rfl)) (hw _ (List.mem_of_getElem? (i := 53) rfl)) (by decide) (by decide)) q14a q14c (g := (mkF m 245 #[.val (.int x0), .val (.int x1), .val (.int x2), .val (.int x3), .val (.int x4), .val (.int x5), .val (.int ob), .val (.int lb), .val (.int sp), .val (.int ch), .val (.ref bs), .val (.ref b2), .val (.ref b4), .val (.int k1), .val (.int k2), .val (.int md), .val v1, .val v2, .val (.ref b8), .val (.ref b10), .val (.ref b10), .val (.int (1 : Int32))] [(.ref b10), (.ref b8)])) rfl (by rw [hml]; rfl) (Steps.refl _) (argsL := [(.ref b10)]) (rest := []) (lenOf pd__Ljava_lang_ObjectERZ rfl) rfl (by show 2 * 0 + _ ≤ _; exact Nat.le_of_eq rfl) (hb hby at_245) (fun _ _ => ⟨rfl, eh13, (by decide : 16 + 0 ≤ _), (by decide : 151 + 0 ≤ _)⟩)
        dsimp only [Pt.U, Pt.locs, Pt.cells, Pt.slots] at X14 l14 y14 z14 st14 hQ14
        subst l14 y14 z14
        obtain ⟨rfl, N14q, eh14⟩ := hQ14
        have N14 := Fr.app N13 N14q
        obtain ⟨fs, hr, hrun, hended, hEnd⟩ := X14.leaveW hS11 (by rw [eh14]; exact (Nat.le_refl _)) (v := some (.int (1 : Int32))) (fun h => by rw [Bd.returns] at h; cases h)
        have eF : (T14.setFrames fs).heap = T11.heap := eh14
        refine ⟨_, _, pre0 _ ?_, hrun, hended, _, _, rfl, ?_, hEnd.1, hEnd.2.1, hEnd.2.2.1, hEnd.2.2.2.mono (by decide) (by decide)⟩
        · refine stP _ ?_
          show Steps p.tables e below (T11.setTop (mkF m 168 #[.val (.int x0), .val (.int x1), .val (.int x2), .val (.int x3), .val (.int x4), .val (.int x5), .val (.int ob), .val (.int lb), .val (.int sp), .val (.int ch), .val (.ref bs), .val (.ref b2), .val (.ref b4), .val (.int k1), .val (.int k2), .val (.int md), .val v1, .val v2, .val (.ref b8), .val (.ref b10), .unset, .unset] [(.int md)])) _
          refine XS.ifNo X11.here hx rfl (hb hby at_168) rfl ((if0 _ _).trans (teq hm).2) ?_
          show Steps p.tables e below (T11.setTop (mkF m 171 #[.val (.int x0), .val (.int x1), .val (.int x2), .val (.int x3), .val (.int x4), .val (.int x5), .val (.int ob), .val (.int lb), .val (.int sp), .val (.int ch), .val (.ref bs), .val (.ref b2), .val (.ref b4), .val (.int k1), .val (.int k2), .val (.int md), .val v1, .val v2, .val (.ref b8), .val (.ref b10), .unset, .unset] [])) _
          refine XS.aload X11.here hx rfl (hb hby at_171) rfl rfl ?_
          show Steps p.tables e below (T11.setTop (mkF m 173 #[.val (.int x0), .val (.int x1), .val (.int x2), .val (.int x3), .val (.int x4), .val (.int x5), .val (.int ob), .val (.int lb), .val (.int sp), .val (.int ch), .val (.ref bs), .val (.ref b2), .val (.ref b4), .val (.int k1), .val (.int k2), .val (.int md), .val v1, .val v2, .val (.ref b8), .val (.ref b10), .unset, .unset] [(.ref b10)])) _
          refine XS.astore X11.here hx rfl (hb hby at_173) rfl rfl (l' := #[.val (.int x0), .val (.int x1), .val (.int x2), .val (.int x3), .val (.int x4), .val (.int x5), .val (.int ob), .val (.int lb), .val (.int sp), .val (.int ch), .val (.ref bs), .val (.ref b2), .val (.ref b4), .val (.int k1), .val (.int k2), .val (.int md), .val v1, .val v2, .val (.ref b8), .val (.ref b10), .val (.ref b10), .unset]) rfl ?_
          show Steps p.tables e below (T11.setTop (mkF m 175 #[.val (.int x0), .val (.int x1), .val (.int x2), .val (.int x3), .val (.int x4), .val (.int x5), .val (.int ob), .val (.int lb), .val (.int sp), .val (.int ch), .val (.ref bs), .val (.ref b2), .val (.ref b4), .val (.int k1), .val (.int k2), .val (.int md), .val v1, .val v2, .val (.ref b8), .val (.ref b10), .val (.ref b10), .unset] [])) _
          refine XS.iload X11.here hx rfl (hb hby at_175) rfl ?_
          show Steps p.tables e below (T11.setTop (mkF m 177 #[.val (.int x0), .val (.int x1), .val (.int x2), .val (.int x3), .val (.int x4), .val (.int x5), .val (.int ob), .val (.int lb), .val (.int sp), .val (.int ch), .val (.ref bs), .val (.ref b2), .val (.ref b4), .val (.int k1), .val (.int k2), .val (.int md), .val v1, .val v2, .val (.ref b8), .val (.ref b10), .val (.ref b10), .unset] [(.int sp)])) _
          refine XS.ifNo X11.here hx rfl (hb hby at_177) rfl ((if0 _ _).trans (feq h).1) ?_
          show Steps p.tables e below (T11.setTop (mkF m 180 #[.val (.int x0), .val (.int x1), .val (.int x2), .val (.int x3), .val (.int x4), .val (.int x5), .val (.int ob), .val (.int lb), .val (.int sp), .val (.int ch), .val (.ref bs), .val (.ref b2), .val (.ref b4), .val (.int k1), .val (.int k2), .val (.int md), .val v1, .val v2, .val (.ref b8), .val (.ref b10), .val (.ref b10), .unset] [])) _
          refine XS.iload X11.here hx rfl (hb hby at_180) rfl ?_
          show Steps p.tables e below (T11.setTop (mkF m 182 #[.val (.int x0), .val (.int x1), .val (.int x2), .val (.int x3), .val (.int x4), .val (.int x5), .val (.int ob), .val (.int lb), .val (.int sp), .val (.int ch), .val (.ref bs), .val (.ref b2), .val (.ref b4), .val (.int k1), .val (.int k2), .val (.int md), .val v1, .val v2, .val (.ref b8), .val (.ref b10), .val (.ref b10), .unset] [(.int k1)])) _
          refine st12 _ ?_
          show Steps p.tables e below (T12.setTop (mkF m 185 #[.val (.int x0), .val (.int x1), .val (.int x2), .val (.int x3), .val (.int x4), .val (.int x5), .val (.int ob), .val (.int lb), .val (.int sp), .val (.int ch), .val (.ref bs), .val (.ref b2), .val (.ref b4), .val (.int k1), .val (.int k2), .val (.int md), .val v1, .val v2, .val (.ref b8), .val (.ref b10), .val (.ref b10), .unset] [(.int n1)])) _
          refine XS.iload X12.here hx rfl (hb hby at_185) rfl ?_
          show Steps p.tables e below (T12.setTop (mkF m 187 #[.val (.int x0), .val (.int x1), .val (.int x2), .val (.int x3), .val (.int x4), .val (.int x5), .val (.int ob), .val (.int lb), .val (.int sp), .val (.int ch), .val (.ref bs), .val (.ref b2), .val (.ref b4), .val (.int k1), .val (.int k2), .val (.int md), .val v1, .val v2, .val (.ref b8), .val (.ref b10), .val (.ref b10), .unset] [(.int k2), (.int n1)])) _
          refine st13 _ ?_
          show Steps p.tables e below (T13.setTop (mkF m 190 #[.val (.int x0), .val (.int x1), .val (.int x2), .val (.int x3), .val (.int x4), .val (.int x5), .val (.int ob), .val (.int lb), .val (.int sp), .val (.int ch), .val (.ref bs), .val (.ref b2), .val (.ref b4), .val (.int k1), .val (.int k2), .val (.int md), .val v1, .val v2, .val (.ref b8), .val (.ref b10), .val (.ref b10), .unset] [(.int n2), (.int n1)])) _
          refine XS.icmpNo X13.here hx rfl (hb hby at_190) rfl (teq hn).2 ?_
          show Steps p.tables e below (T13.setTop (mkF m 193 #[.val (.int x0), .val (.int x1), .val (.int x2), .val (.int x3), .val (.int x4), .val (.int x5), .val (.int ob), .val (.int lb), .val (.int sp), .val (.int ch), .val (.ref bs), .val (.ref b2), .val (.ref b4), .val (.int k1), .val (.int k2), .val (.int md), .val v1, .val v2, .val (.ref b8), .val (.ref b10), .val (.ref b10), .unset] [])) _
          refine XS.iconst X13.here hx rfl (hb hby at_193) ?_
          show Steps p.tables e below (T13.setTop (mkF m 194 #[.val (.int x0), .val (.int x1), .val (.int x2), .val (.int x3), .val (.int x4), .val (.int x5), .val (.int ob), .val (.int lb), .val (.int sp), .val (.int ch), .val (.ref bs), .val (.ref b2), .val (.ref b4), .val (.int k1), .val (.int k2), .val (.int md), .val v1, .val v2, .val (.ref b8), .val (.ref b10), .val (.ref b10), .unset] [(.int (1 : Int32))])) _
          refine XS.goto X13.here hx rfl (pc0 := 194) (pc' := 198) rfl (hb hby at_194) (by decide) (by decide) ?_
          show Steps p.tables e below (T13.setTop (mkF m 198 #[.val (.int x0), .val (.int x1), .val (.int x2), .val (.int x3), .val (.int x4), .val (.int x5), .val (.int ob), .val (.int lb), .val (.int sp), .val (.int ch), .val (.ref bs), .val (.ref b2), .val (.ref b4), .val (.int k1), .val (.int k2), .val (.int md), .val v1, .val v2, .val (.ref b8), .val (.ref b10), .val (.ref b10), .unset] [(.int (1 : Int32))])) _
          refine XS.istore X13.here hx rfl (hb hby at_198) rfl (l' := #[.val (.int x0), .val (.int x1), .val (.int x2), .val (.int x3), .val (.int x4), .val (.int x5), .val (.int ob), .val (.int lb), .val (.int sp), .val (.int ch), .val (.ref bs), .val (.ref b2), .val (.ref b4), .val (.int k1), .val (.int k2), .val (.int md), .val v1, .val v2, .val (.ref b8), .val (.ref b10), .val (.ref b10), .val (.int (1 : Int32))]) rfl ?_
          show Steps p.tables e below (T13.setTop (mkF m 200 #[.val (.int x0), .val (.int x1), .val (.int x2), .val (.int x3), .val (.int x4), .val (.int x5), .val (.int ob), .val (.int lb), .val (.int sp), .val (.int ch), .val (.ref bs), .val (.ref b2), .val (.ref b4), .val (.int k1), .val (.int k2), .val (.int md), .val v1, .val v2, .val (.ref b8), .val (.ref b10), .val (.ref b10), .val (.int (1 : Int32))] [])) _
          refine XS.goto X13.here hx rfl (pc0 := 200) (pc' := 241) rfl (hb hby at_200) (by decide) (by decide) ?_
          show Steps p.tables e below (T13.setTop (mkF m 241 #[.val (.int x0), .val (.int x1), .val (.int x2), .val (.int x3), .val (.int x4), .val (.int x5), .val (.int ob), .val (.int lb), .val (.int sp), .val (.int ch), .val (.ref bs), .val (.ref b2), .val (.ref b4), .val (.int k1), .val (.int k2), .val (.int md), .val v1, .val v2, .val (.ref b8), .val (.ref b10), .val (.ref b10), .val (.int (1 : Int32))] [])) _
          refine XS.aload X13.here hx rfl (hb hby at_241) rfl rfl ?_
          show Steps p.tables e below (T13.setTop (mkF m 243 #[.val (.int x0), .val (.int x1), .val (.int x2), .val (.int x3), .val (.int x4), .val (.int x5), .val (.int ob), .val (.int lb), .val (.int sp), .val (.int ch), .val (.ref bs), .val (.ref b2), .val (.ref b4), .val (.int k1), .val (.int k2), .val (.int md), .val v1, .val v2, .val (.ref b8), .val (.ref b10), .val (.ref b10), .val (.int (1 : Int32))] [(.ref b8)])) _
          refine XS.aload X13.here hx rfl (hb hby at_243) rfl rfl ?_
          show Steps p.tables e below (T13.setTop (mkF m 245 #[.val (.int x0), .val (.int x1), .val (.int x2), .val (.int x3), .val (.int x4), .val (.int x5), .val (.int ob), .val (.int lb), .val (.int sp), .val (.int ch), .val (.ref bs), .val (.ref b2), .val (.ref b4), .val (.int k1), .val (.int k2), .val (.int md), .val v1, .val v2, .val (.ref b8), .val (.ref b10), .val (.ref b10), .val (.int (1 : Int32))] [(.ref b10), (.ref b8)])) _
          refine st14.trans ?_
          show Steps p.tables e below (T14.setTop (mkF m 248 #[.val (.int x0), .val (.int x1), .val (.int x2), .val (.int x3), .val (.int x4), .val (.int x5), .val (.int ob), .val (.int lb), .val (.int sp), .val (.int ch), .val (.ref bs), .val (.ref b2), .val (.ref b4), .val (.int k1), .val (.int k2), .val (.int md), .val v1, .val v2, .val (.ref b8), .val (.ref b10), .val (.ref b10), .val (.int (1 : Int32))] [(.int (1 : Int32))])) _
          refine XS.iload X14.here hx rfl (hb hby at_248) rfl ?_
          show Steps p.tables e below (T14.setTop (mkF m 250 #[.val (.int x0), .val (.int x1), .val (.int x2), .val (.int x3), .val (.int x4), .val (.int x5), .val (.int ob), .val (.int lb), .val (.int sp), .val (.int ch), .val (.ref bs), .val (.ref b2), .val (.ref b4), .val (.int k1), .val (.int k2), .val (.int md), .val v1, .val v2, .val (.ref b8), .val (.ref b10), .val (.ref b10), .val (.int (1 : Int32))] [(.int (1 : Int32)), (.int (1 : Int32))])) _
          refine XS.icmpNo X14.here hx rfl (hb hby at_250) rfl (teq (rfl : (1 : Int32) = 1)).2 ?_
          show Steps p.tables e below (T14.setTop (mkF m 253 #[.val (.int x0), .val (.int x1), .val (.int x2), .val (.int x3), .val (.int x4), .val (.int x5), .val (.int ob), .val (.int lb), .val (.int sp), .val (.int ch), .val (.ref bs), .val (.ref b2), .val (.ref b4), .val (.int k1), .val (.int k2), .val (.int md), .val v1, .val v2, .val (.ref b8), .val (.ref b10), .val (.ref b10), .val (.int (1 : Int32))] [])) _
          refine XS.iconst X14.here hx rfl (hb hby at_253) ?_
          show Steps p.tables e below (T14.setTop (mkF m 254 #[.val (.int x0), .val (.int x1), .val (.int x2), .val (.int x3), .val (.int x4), .val (.int x5), .val (.int ob), .val (.int lb), .val (.int sp), .val (.int ch), .val (.ref bs), .val (.ref b2), .val (.ref b4), .val (.int k1), .val (.int k2), .val (.int md), .val v1, .val v2, .val (.ref b8), .val (.ref b10), .val (.ref b10), .val (.int (1 : Int32))] [(.int (1 : Int32))])) _
          refine XS.goto X14.here hx rfl (pc0 := 254) (pc' := 258) rfl (hb hby at_254) (by decide) (by decide) ?_
          show Steps p.tables e below (T14.setTop (mkF m 258 #[.val (.int x0), .val (.int x1), .val (.int x2), .val (.int x3), .val (.int x4), .val (.int x5), .val (.int ob), .val (.int lb), .val (.int sp), .val (.int ch), .val (.ref bs), .val (.ref b2), .val (.ref b4), .val (.int k1), .val (.int k2), .val (.int md), .val v1, .val v2, .val (.ref b8), .val (.ref b10), .val (.ref b10), .val (.int (1 : Int32))] [(.int (1 : Int32))])) _
          exact retN X14 hx (t := .boolean) Bd.returns (by simp) (hb hby at_258) hr
        · exact ⟨rfl, N14⟩
      · obtain ⟨cq15, kq15, q15a, q15b, q15c⟩ := isOf hZ11 eh13 R8_11
        obtain ⟨_, _, ⟨T15, L15, k15, n15⟩, -, X15, ⟨Lc15, hQ15, l15, y15, z15⟩, st15⟩ := X13.virtualBack hx (y := (⟨"com/example/burdock/burdock/query/ParameterReference", "sameAs", "(Ljava/lang/Object;)Z"⟩ : MethodName)) (z := (⟨"com/example/burdock/burdock/query/ParameterReference", "sameAs", "(Ljava/lang/Object;)Z"⟩ : MethodName)) ho11 (mvT hZ11 (hw _ (List.mem_of_getElem? (i := 80) rfl))) (mvT hZ11 (hw _ (List.mem_of_getElem? (i := 81) rfl))) (notFace_of_selects (args := #[]) (mvT hZ11 (hw _ (List.mem_of_getElem? (i := 83) rfl)))) (mvT hZ11 (hw _ (List.mem_of_getElem? (i := 83) rfl))) (mvT hZ11 (hw _ (List.mem_of_getElem? (i := 82) rfl))) (by decide) (backOf (W := 0) (rm11b l Z a0 hw [] b8 b10 b2 v1 v2 T11.heap n0 zz11 R10_11 Fp8_11 Fq Fe8_11 Fe11 r1 r2 (fun q => hn (SN.mpr q))) hZ11 (hw _ (List.mem_of_getElem? (i := 84) rfl)) (hw _ (List.mem_of_getElem? (i := 53) rfl)) (by decide) (by decide)) q15a q15c (g := (mkF m 245 #[.val (.int x0), .val (.int x1), .val (.int x2), .val (.int x3), .val (.int x4), .val (.int x5), .val (.int ob), .val (.int lb), .val (.int sp), .val (.int ch), .val (.ref bs), .val (.ref b2), .val (.ref b4), .val (.int k1), .val (.int k2), .val (.int md), .val v1, .val v2, .val (.ref b8), .val (.ref b10), .val (.ref b10), .val (.int (0 : Int32))] [(.ref b10), (.ref b8)])) rfl (by rw [hml]; rfl) (Steps.refl _) (argsL := [(.ref b10)]) (rest := []) (lenOf pd__Ljava_lang_ObjectERZ rfl) rfl (by show 2 * 0 + _ ≤ _; exact Nat.le_of_eq rfl) (hb hby at_245) (fun _ _ => ⟨rfl, eh13, (by decide : 16 + 0 ≤ _), (by decide : 151 + 0 ≤ _)⟩)
        dsimp only [Pt.U, Pt.locs, Pt.cells, Pt.slots] at X15 l15 y15 z15 st15 hQ15
        subst l15 y15 z15
        obtain ⟨rfl, N15q, eh15⟩ := hQ15
        have N15 := Fr.app N13 N15q
        obtain ⟨fs, hr, hrun, hended, hEnd⟩ := X15.leaveW hS11 (by rw [eh15]; exact (Nat.le_refl _)) (v := some (.int (1 : Int32))) (fun h => by rw [Bd.returns] at h; cases h)
        have eF : (T15.setFrames fs).heap = T11.heap := eh15
        refine ⟨_, _, pre0 _ ?_, hrun, hended, _, _, rfl, ?_, hEnd.1, hEnd.2.1, hEnd.2.2.1, hEnd.2.2.2.mono (by decide) (by decide)⟩
        · refine stP _ ?_
          show Steps p.tables e below (T11.setTop (mkF m 168 #[.val (.int x0), .val (.int x1), .val (.int x2), .val (.int x3), .val (.int x4), .val (.int x5), .val (.int ob), .val (.int lb), .val (.int sp), .val (.int ch), .val (.ref bs), .val (.ref b2), .val (.ref b4), .val (.int k1), .val (.int k2), .val (.int md), .val v1, .val v2, .val (.ref b8), .val (.ref b10), .unset, .unset] [(.int md)])) _
          refine XS.ifNo X11.here hx rfl (hb hby at_168) rfl ((if0 _ _).trans (teq hm).2) ?_
          show Steps p.tables e below (T11.setTop (mkF m 171 #[.val (.int x0), .val (.int x1), .val (.int x2), .val (.int x3), .val (.int x4), .val (.int x5), .val (.int ob), .val (.int lb), .val (.int sp), .val (.int ch), .val (.ref bs), .val (.ref b2), .val (.ref b4), .val (.int k1), .val (.int k2), .val (.int md), .val v1, .val v2, .val (.ref b8), .val (.ref b10), .unset, .unset] [])) _
          refine XS.aload X11.here hx rfl (hb hby at_171) rfl rfl ?_
          show Steps p.tables e below (T11.setTop (mkF m 173 #[.val (.int x0), .val (.int x1), .val (.int x2), .val (.int x3), .val (.int x4), .val (.int x5), .val (.int ob), .val (.int lb), .val (.int sp), .val (.int ch), .val (.ref bs), .val (.ref b2), .val (.ref b4), .val (.int k1), .val (.int k2), .val (.int md), .val v1, .val v2, .val (.ref b8), .val (.ref b10), .unset, .unset] [(.ref b10)])) _
          refine XS.astore X11.here hx rfl (hb hby at_173) rfl rfl (l' := #[.val (.int x0), .val (.int x1), .val (.int x2), .val (.int x3), .val (.int x4), .val (.int x5), .val (.int ob), .val (.int lb), .val (.int sp), .val (.int ch), .val (.ref bs), .val (.ref b2), .val (.ref b4), .val (.int k1), .val (.int k2), .val (.int md), .val v1, .val v2, .val (.ref b8), .val (.ref b10), .val (.ref b10), .unset]) rfl ?_
          show Steps p.tables e below (T11.setTop (mkF m 175 #[.val (.int x0), .val (.int x1), .val (.int x2), .val (.int x3), .val (.int x4), .val (.int x5), .val (.int ob), .val (.int lb), .val (.int sp), .val (.int ch), .val (.ref bs), .val (.ref b2), .val (.ref b4), .val (.int k1), .val (.int k2), .val (.int md), .val v1, .val v2, .val (.ref b8), .val (.ref b10), .val (.ref b10), .unset] [])) _
          refine XS.iload X11.here hx rfl (hb hby at_175) rfl ?_
          show Steps p.tables e below (T11.setTop (mkF m 177 #[.val (.int x0), .val (.int x1), .val (.int x2), .val (.int x3), .val (.int x4), .val (.int x5), .val (.int ob), .val (.int lb), .val (.int sp), .val (.int ch), .val (.ref bs), .val (.ref b2), .val (.ref b4), .val (.int k1), .val (.int k2), .val (.int md), .val v1, .val v2, .val (.ref b8), .val (.ref b10), .val (.ref b10), .unset] [(.int sp)])) _
          refine XS.ifNo X11.here hx rfl (hb hby at_177) rfl ((if0 _ _).trans (feq h).1) ?_
          show Steps p.tables e below (T11.setTop (mkF m 180 #[.val (.int x0), .val (.int x1), .val (.int x2), .val (.int x3), .val (.int x4), .val (.int x5), .val (.int ob), .val (.int lb), .val (.int sp), .val (.int ch), .val (.ref bs), .val (.ref b2), .val (.ref b4), .val (.int k1), .val (.int k2), .val (.int md), .val v1, .val v2, .val (.ref b8), .val (.ref b10), .val (.ref b10), .unset] [])) _
          refine XS.iload X11.here hx rfl (hb hby at_180) rfl ?_
          show Steps p.tables e below (T11.setTop (mkF m 182 #[.val (.int x0), .val (.int x1), .val (.int x2), .val (.int x3), .val (.int x4), .val (.int x5), .val (.int ob), .val (.int lb), .val (.int sp), .val (.int ch), .val (.ref bs), .val (.ref b2), .val (.ref b4), .val (.int k1), .val (.int k2), .val (.int md), .val v1, .val v2, .val (.ref b8), .val (.ref b10), .val (.ref b10), .unset] [(.int k1)])) _
          refine st12 _ ?_
          show Steps p.tables e below (T12.setTop (mkF m 185 #[.val (.int x0), .val (.int x1), .val (.int x2), .val (.int x3), .val (.int x4), .val (.int x5), .val (.int ob), .val (.int lb), .val (.int sp), .val (.int ch), .val (.ref bs), .val (.ref b2), .val (.ref b4), .val (.int k1), .val (.int k2), .val (.int md), .val v1, .val v2, .val (.ref b8), .val (.ref b10), .val (.ref b10), .unset] [(.int n1)])) _
          refine XS.iload X12.here hx rfl (hb hby at_185) rfl ?_
          show Steps p.tables e below (T12.setTop (mkF m 187 #[.val (.int x0), .val (.int x1), .val (.int x2), .val (.int x3), .val (.int x4), .val (.int x5), .val (.int ob), .val (.int lb), .val (.int sp), .val (.int ch), .val (.ref bs), .val (.ref b2), .val (.ref b4), .val (.int k1), .val (.int k2), .val (.int md), .val v1, .val v2, .val (.ref b8), .val (.ref b10), .val (.ref b10), .unset] [(.int k2), (.int n1)])) _
          refine st13 _ ?_
          show Steps p.tables e below (T13.setTop (mkF m 190 #[.val (.int x0), .val (.int x1), .val (.int x2), .val (.int x3), .val (.int x4), .val (.int x5), .val (.int ob), .val (.int lb), .val (.int sp), .val (.int ch), .val (.ref bs), .val (.ref b2), .val (.ref b4), .val (.int k1), .val (.int k2), .val (.int md), .val v1, .val v2, .val (.ref b8), .val (.ref b10), .val (.ref b10), .unset] [(.int n2), (.int n1)])) _
          refine XS.icmpYes X13.here hx rfl (pc0 := 190) (pc' := 197) rfl (hb hby at_190) rfl (feq hn).2 (by decide) (by decide) ?_
          show Steps p.tables e below (T13.setTop (mkF m 197 #[.val (.int x0), .val (.int x1), .val (.int x2), .val (.int x3), .val (.int x4), .val (.int x5), .val (.int ob), .val (.int lb), .val (.int sp), .val (.int ch), .val (.ref bs), .val (.ref b2), .val (.ref b4), .val (.int k1), .val (.int k2), .val (.int md), .val v1, .val v2, .val (.ref b8), .val (.ref b10), .val (.ref b10), .unset] [])) _
          refine XS.iconst X13.here hx rfl (hb hby at_197) ?_
          show Steps p.tables e below (T13.setTop (mkF m 198 #[.val (.int x0), .val (.int x1), .val (.int x2), .val (.int x3), .val (.int x4), .val (.int x5), .val (.int ob), .val (.int lb), .val (.int sp), .val (.int ch), .val (.ref bs), .val (.ref b2), .val (.ref b4), .val (.int k1), .val (.int k2), .val (.int md), .val v1, .val v2, .val (.ref b8), .val (.ref b10), .val (.ref b10), .unset] [(.int (0 : Int32))])) _
          refine XS.istore X13.here hx rfl (hb hby at_198) rfl (l' := #[.val (.int x0), .val (.int x1), .val (.int x2), .val (.int x3), .val (.int x4), .val (.int x5), .val (.int ob), .val (.int lb), .val (.int sp), .val (.int ch), .val (.ref bs), .val (.ref b2), .val (.ref b4), .val (.int k1), .val (.int k2), .val (.int md), .val v1, .val v2, .val (.ref b8), .val (.ref b10), .val (.ref b10), .val (.int (0 : Int32))]) rfl ?_
          show Steps p.tables e below (T13.setTop (mkF m 200 #[.val (.int x0), .val (.int x1), .val (.int x2), .val (.int x3), .val (.int x4), .val (.int x5), .val (.int ob), .val (.int lb), .val (.int sp), .val (.int ch), .val (.ref bs), .val (.ref b2), .val (.ref b4), .val (.int k1), .val (.int k2), .val (.int md), .val v1, .val v2, .val (.ref b8), .val (.ref b10), .val (.ref b10), .val (.int (0 : Int32))] [])) _
          refine XS.goto X13.here hx rfl (pc0 := 200) (pc' := 241) rfl (hb hby at_200) (by decide) (by decide) ?_
          show Steps p.tables e below (T13.setTop (mkF m 241 #[.val (.int x0), .val (.int x1), .val (.int x2), .val (.int x3), .val (.int x4), .val (.int x5), .val (.int ob), .val (.int lb), .val (.int sp), .val (.int ch), .val (.ref bs), .val (.ref b2), .val (.ref b4), .val (.int k1), .val (.int k2), .val (.int md), .val v1, .val v2, .val (.ref b8), .val (.ref b10), .val (.ref b10), .val (.int (0 : Int32))] [])) _
          refine XS.aload X13.here hx rfl (hb hby at_241) rfl rfl ?_
          show Steps p.tables e below (T13.setTop (mkF m 243 #[.val (.int x0), .val (.int x1), .val (.int x2), .val (.int x3), .val (.int x4), .val (.int x5), .val (.int ob), .val (.int lb), .val (.int sp), .val (.int ch), .val (.ref bs), .val (.ref b2), .val (.ref b4), .val (.int k1), .val (.int k2), .val (.int md), .val v1, .val v2, .val (.ref b8), .val (.ref b10), .val (.ref b10), .val (.int (0 : Int32))] [(.ref b8)])) _
          refine XS.aload X13.here hx rfl (hb hby at_243) rfl rfl ?_
          show Steps p.tables e below (T13.setTop (mkF m 245 #[.val (.int x0), .val (.int x1), .val (.int x2), .val (.int x3), .val (.int x4), .val (.int x5), .val (.int ob), .val (.int lb), .val (.int sp), .val (.int ch), .val (.ref bs), .val (.ref b2), .val (.ref b4), .val (.int k1), .val (.int k2), .val (.int md), .val v1, .val v2, .val (.ref b8), .val (.ref b10), .val (.ref b10), .val (.int (0 : Int32))] [(.ref b10), (.ref b8)])) _
          refine st15.trans ?_
          show Steps p.tables e below (T15.setTop (mkF m 248 #[.val (.int x0), .val (.int x1), .val (.int x2), .val (.int x3), .val (.int x4), .val (.int x5), .val (.int ob), .val (.int lb), .val (.int sp), .val (.int ch), .val (.ref bs), .val (.ref b2), .val (.ref b4), .val (.int k1), .val (.int k2), .val (.int md), .val v1, .val v2, .val (.ref b8), .val (.ref b10), .val (.ref b10), .val (.int (0 : Int32))] [(.int (0 : Int32))])) _
          refine XS.iload X15.here hx rfl (hb hby at_248) rfl ?_
          show Steps p.tables e below (T15.setTop (mkF m 250 #[.val (.int x0), .val (.int x1), .val (.int x2), .val (.int x3), .val (.int x4), .val (.int x5), .val (.int ob), .val (.int lb), .val (.int sp), .val (.int ch), .val (.ref bs), .val (.ref b2), .val (.ref b4), .val (.int k1), .val (.int k2), .val (.int md), .val v1, .val v2, .val (.ref b8), .val (.ref b10), .val (.ref b10), .val (.int (0 : Int32))] [(.int (0 : Int32)), (.int (0 : Int32))])) _
          refine XS.icmpNo X15.here hx rfl (hb hby at_250) rfl (teq (rfl : (0 : Int32) = 0)).2 ?_
          show Steps p.tables e below (T15.setTop (mkF m 253 #[.val (.int x0), .val (.int x1), .val (.int x2), .val (.int x3), .val (.int x4), .val (.int x5), .val (.int ob), .val (.int lb), .val (.int sp), .val (.int ch), .val (.ref bs), .val (.ref b2), .val (.ref b4), .val (.int k1), .val (.int k2), .val (.int md), .val v1, .val v2, .val (.ref b8), .val (.ref b10), .val (.ref b10), .val (.int (0 : Int32))] [])) _
          refine XS.iconst X15.here hx rfl (hb hby at_253) ?_
          show Steps p.tables e below (T15.setTop (mkF m 254 #[.val (.int x0), .val (.int x1), .val (.int x2), .val (.int x3), .val (.int x4), .val (.int x5), .val (.int ob), .val (.int lb), .val (.int sp), .val (.int ch), .val (.ref bs), .val (.ref b2), .val (.ref b4), .val (.int k1), .val (.int k2), .val (.int md), .val v1, .val v2, .val (.ref b8), .val (.ref b10), .val (.ref b10), .val (.int (0 : Int32))] [(.int (1 : Int32))])) _
          refine XS.goto X15.here hx rfl (pc0 := 254) (pc' := 258) rfl (hb hby at_254) (by decide) (by decide) ?_
          show Steps p.tables e below (T15.setTop (mkF m 258 #[.val (.int x0), .val (.int x1), .val (.int x2), .val (.int x3), .val (.int x4), .val (.int x5), .val (.int ob), .val (.int lb), .val (.int sp), .val (.int ch), .val (.ref bs), .val (.ref b2), .val (.ref b4), .val (.int k1), .val (.int k2), .val (.int md), .val v1, .val v2, .val (.ref b8), .val (.ref b10), .val (.ref b10), .val (.int (0 : Int32))] [(.int (1 : Int32))])) _
          exact retN X15 hx (t := .boolean) Bd.returns (by simp) (hb hby at_258) hr
        · exact ⟨rfl, N15⟩
    · obtain ⟨cq16, kq16, q16a, q16b, q16c⟩ := isOf hZ11 rfl R8_11
      obtain ⟨_, _, ⟨T16, L16, k16, n16⟩, -, X16, ⟨Lc16, hQ16, l16, y16, z16⟩, st16⟩ := X11.virtualBack hx (y := (⟨"com/example/burdock/burdock/query/ParameterReference", "sameAs", "(Ljava/lang/Object;)Z"⟩ : MethodName)) (z := (⟨"com/example/burdock/burdock/query/ParameterReference", "sameAs", "(Ljava/lang/Object;)Z"⟩ : MethodName)) ho11 (mvT hZ11 (hw _ (List.mem_of_getElem? (i := 80) rfl))) (mvT hZ11 (hw _ (List.mem_of_getElem? (i := 81) rfl))) (notFace_of_selects (args := #[]) (mvT hZ11 (hw _ (List.mem_of_getElem? (i := 83) rfl)))) (mvT hZ11 (hw _ (List.mem_of_getElem? (i := 83) rfl))) (mvT hZ11 (hw _ (List.mem_of_getElem? (i := 82) rfl))) (by decide) (backOf (W := 0) (rm11a l Z a0 hw [] b8 b10 b2 pq T11.heap n0 zz11 R10_11 Fp8_11 Fp11 (fun q => np (q.symm.trans hpq))) hZ11 (hw _ (List.mem_of_getElem? (i := 84) rfl)) (hw _ (List.mem_of_getElem? (i := 53) rfl)) (by decide) (by decide)) q16a q16c (g := (mkF m 245 #[.val (.int x0), .val (.int x1), .val (.int x2), .val (.int x3), .val (.int x4), .val (.int x5), .val (.int ob), .val (.int lb), .val (.int sp), .val (.int ch), .val (.ref bs), .val (.ref b2), .val (.ref b4), .val (.int k1), .val (.int k2), .val (.int md), .val v1, .val v2, .val (.ref b8), .val (.ref b10), .val (.ref b10), .val (.int (0 : Int32))] [(.ref b10), (.ref b8)])) rfl (by rw [hml]; rfl) (Steps.refl _) (argsL := [(.ref b10)]) (rest := []) (lenOf pd__Ljava_lang_ObjectERZ rfl) rfl (by show 2 * 0 + _ ≤ _; exact Nat.le_of_eq rfl) (hb hby at_245) (fun _ _ => ⟨rfl, rfl, (by decide : 16 + 0 ≤ _), (by decide : 151 + 0 ≤ _)⟩)
      dsimp only [Pt.U, Pt.locs, Pt.cells, Pt.slots] at X16 l16 y16 z16 st16 hQ16
      subst l16 y16 z16
      obtain ⟨rfl, N16q, eh16⟩ := hQ16
      have N16 := Fr.app N11 N16q
      obtain ⟨fs, hr, hrun, hended, hEnd⟩ := X16.leaveW hS11 (by rw [eh16]; exact (Nat.le_refl _)) (v := some (.int (1 : Int32))) (fun h => by rw [Bd.returns] at h; cases h)
      have eF : (T16.setFrames fs).heap = T11.heap := eh16
      refine ⟨_, _, pre0 _ ?_, hrun, hended, _, _, rfl, ?_, hEnd.1, hEnd.2.1, hEnd.2.2.1, hEnd.2.2.2.mono (by decide) (by decide)⟩
      · refine stP _ ?_
        show Steps p.tables e below (T11.setTop (mkF m 168 #[.val (.int x0), .val (.int x1), .val (.int x2), .val (.int x3), .val (.int x4), .val (.int x5), .val (.int ob), .val (.int lb), .val (.int sp), .val (.int ch), .val (.ref bs), .val (.ref b2), .val (.ref b4), .val (.int k1), .val (.int k2), .val (.int md), .val v1, .val v2, .val (.ref b8), .val (.ref b10), .unset, .unset] [(.int md)])) _
        refine XS.ifNo X11.here hx rfl (hb hby at_168) rfl ((if0 _ _).trans (teq hm).2) ?_
        show Steps p.tables e below (T11.setTop (mkF m 171 #[.val (.int x0), .val (.int x1), .val (.int x2), .val (.int x3), .val (.int x4), .val (.int x5), .val (.int ob), .val (.int lb), .val (.int sp), .val (.int ch), .val (.ref bs), .val (.ref b2), .val (.ref b4), .val (.int k1), .val (.int k2), .val (.int md), .val v1, .val v2, .val (.ref b8), .val (.ref b10), .unset, .unset] [])) _
        refine XS.aload X11.here hx rfl (hb hby at_171) rfl rfl ?_
        show Steps p.tables e below (T11.setTop (mkF m 173 #[.val (.int x0), .val (.int x1), .val (.int x2), .val (.int x3), .val (.int x4), .val (.int x5), .val (.int ob), .val (.int lb), .val (.int sp), .val (.int ch), .val (.ref bs), .val (.ref b2), .val (.ref b4), .val (.int k1), .val (.int k2), .val (.int md), .val v1, .val v2, .val (.ref b8), .val (.ref b10), .unset, .unset] [(.ref b10)])) _
        refine XS.astore X11.here hx rfl (hb hby at_173) rfl rfl (l' := #[.val (.int x0), .val (.int x1), .val (.int x2), .val (.int x3), .val (.int x4), .val (.int x5), .val (.int ob), .val (.int lb), .val (.int sp), .val (.int ch), .val (.ref bs), .val (.ref b2), .val (.ref b4), .val (.int k1), .val (.int k2), .val (.int md), .val v1, .val v2, .val (.ref b8), .val (.ref b10), .val (.ref b10), .unset]) rfl ?_
        show Steps p.tables e below (T11.setTop (mkF m 175 #[.val (.int x0), .val (.int x1), .val (.int x2), .val (.int x3), .val (.int x4), .val (.int x5), .val (.int ob), .val (.int lb), .val (.int sp), .val (.int ch), .val (.ref bs), .val (.ref b2), .val (.ref b4), .val (.int k1), .val (.int k2), .val (.int md), .val v1, .val v2, .val (.ref b8), .val (.ref b10), .val (.ref b10), .unset] [])) _
        refine XS.iload X11.here hx rfl (hb hby at_175) rfl ?_
        show Steps p.tables e below (T11.setTop (mkF m 177 #[.val (.int x0), .val (.int x1), .val (.int x2), .val (.int x3), .val (.int x4), .val (.int x5), .val (.int ob), .val (.int lb), .val (.int sp), .val (.int ch), .val (.ref bs), .val (.ref b2), .val (.ref b4), .val (.int k1), .val (.int k2), .val (.int md), .val v1, .val v2, .val (.ref b8), .val (.ref b10), .val (.ref b10), .unset] [(.int sp)])) _
        refine XS.ifYes X11.here hx rfl (pc0 := 177) (pc' := 197) rfl (hb hby at_177) rfl ((if0 _ _).trans (teq h).1) (by decide) (by decide) ?_
        show Steps p.tables e below (T11.setTop (mkF m 197 #[.val (.int x0), .val (.int x1), .val (.int x2), .val (.int x3), .val (.int x4), .val (.int x5), .val (.int ob), .val (.int lb), .val (.int sp), .val (.int ch), .val (.ref bs), .val (.ref b2), .val (.ref b4), .val (.int k1), .val (.int k2), .val (.int md), .val v1, .val v2, .val (.ref b8), .val (.ref b10), .val (.ref b10), .unset] [])) _
        refine XS.iconst X11.here hx rfl (hb hby at_197) ?_
        show Steps p.tables e below (T11.setTop (mkF m 198 #[.val (.int x0), .val (.int x1), .val (.int x2), .val (.int x3), .val (.int x4), .val (.int x5), .val (.int ob), .val (.int lb), .val (.int sp), .val (.int ch), .val (.ref bs), .val (.ref b2), .val (.ref b4), .val (.int k1), .val (.int k2), .val (.int md), .val v1, .val v2, .val (.ref b8), .val (.ref b10), .val (.ref b10), .unset] [(.int (0 : Int32))])) _
        refine XS.istore X11.here hx rfl (hb hby at_198) rfl (l' := #[.val (.int x0), .val (.int x1), .val (.int x2), .val (.int x3), .val (.int x4), .val (.int x5), .val (.int ob), .val (.int lb), .val (.int sp), .val (.int ch), .val (.ref bs), .val (.ref b2), .val (.ref b4), .val (.int k1), .val (.int k2), .val (.int md), .val v1, .val v2, .val (.ref b8), .val (.ref b10), .val (.ref b10), .val (.int (0 : Int32))]) rfl ?_
        show Steps p.tables e below (T11.setTop (mkF m 200 #[.val (.int x0), .val (.int x1), .val (.int x2), .val (.int x3), .val (.int x4), .val (.int x5), .val (.int ob), .val (.int lb), .val (.int sp), .val (.int ch), .val (.ref bs), .val (.ref b2), .val (.ref b4), .val (.int k1), .val (.int k2), .val (.int md), .val v1, .val v2, .val (.ref b8), .val (.ref b10), .val (.ref b10), .val (.int (0 : Int32))] [])) _
        refine XS.goto X11.here hx rfl (pc0 := 200) (pc' := 241) rfl (hb hby at_200) (by decide) (by decide) ?_
        show Steps p.tables e below (T11.setTop (mkF m 241 #[.val (.int x0), .val (.int x1), .val (.int x2), .val (.int x3), .val (.int x4), .val (.int x5), .val (.int ob), .val (.int lb), .val (.int sp), .val (.int ch), .val (.ref bs), .val (.ref b2), .val (.ref b4), .val (.int k1), .val (.int k2), .val (.int md), .val v1, .val v2, .val (.ref b8), .val (.ref b10), .val (.ref b10), .val (.int (0 : Int32))] [])) _
        refine XS.aload X11.here hx rfl (hb hby at_241) rfl rfl ?_
        show Steps p.tables e below (T11.setTop (mkF m 243 #[.val (.int x0), .val (.int x1), .val (.int x2), .val (.int x3), .val (.int x4), .val (.int x5), .val (.int ob), .val (.int lb), .val (.int sp), .val (.int ch), .val (.ref bs), .val (.ref b2), .val (.ref b4), .val (.int k1), .val (.int k2), .val (.int md), .val v1, .val v2, .val (.ref b8), .val (.ref b10), .val (.ref b10), .val (.int (0 : Int32))] [(.ref b8)])) _
        refine XS.aload X11.here hx rfl (hb hby at_243) rfl rfl ?_
        show Steps p.tables e below (T11.setTop (mkF m 245 #[.val (.int x0), .val (.int x1), .val (.int x2), .val (.int x3), .val (.int x4), .val (.int x5), .val (.int ob), .val (.int lb), .val (.int sp), .val (.int ch), .val (.ref bs), .val (.ref b2), .val (.ref b4), .val (.int k1), .val (.int k2), .val (.int md), .val v1, .val v2, .val (.ref b8), .val (.ref b10), .val (.ref b10), .val (.int (0 : Int32))] [(.ref b10), (.ref b8)])) _
        refine st16.trans ?_
        show Steps p.tables e below (T16.setTop (mkF m 248 #[.val (.int x0), .val (.int x1), .val (.int x2), .val (.int x3), .val (.int x4), .val (.int x5), .val (.int ob), .val (.int lb), .val (.int sp), .val (.int ch), .val (.ref bs), .val (.ref b2), .val (.ref b4), .val (.int k1), .val (.int k2), .val (.int md), .val v1, .val v2, .val (.ref b8), .val (.ref b10), .val (.ref b10), .val (.int (0 : Int32))] [(.int (0 : Int32))])) _
        refine XS.iload X16.here hx rfl (hb hby at_248) rfl ?_
        show Steps p.tables e below (T16.setTop (mkF m 250 #[.val (.int x0), .val (.int x1), .val (.int x2), .val (.int x3), .val (.int x4), .val (.int x5), .val (.int ob), .val (.int lb), .val (.int sp), .val (.int ch), .val (.ref bs), .val (.ref b2), .val (.ref b4), .val (.int k1), .val (.int k2), .val (.int md), .val v1, .val v2, .val (.ref b8), .val (.ref b10), .val (.ref b10), .val (.int (0 : Int32))] [(.int (0 : Int32)), (.int (0 : Int32))])) _
        refine XS.icmpNo X16.here hx rfl (hb hby at_250) rfl (teq (rfl : (0 : Int32) = 0)).2 ?_
        show Steps p.tables e below (T16.setTop (mkF m 253 #[.val (.int x0), .val (.int x1), .val (.int x2), .val (.int x3), .val (.int x4), .val (.int x5), .val (.int ob), .val (.int lb), .val (.int sp), .val (.int ch), .val (.ref bs), .val (.ref b2), .val (.ref b4), .val (.int k1), .val (.int k2), .val (.int md), .val v1, .val v2, .val (.ref b8), .val (.ref b10), .val (.ref b10), .val (.int (0 : Int32))] [])) _
        refine XS.iconst X16.here hx rfl (hb hby at_253) ?_
        show Steps p.tables e below (T16.setTop (mkF m 254 #[.val (.int x0), .val (.int x1), .val (.int x2), .val (.int x3), .val (.int x4), .val (.int x5), .val (.int ob), .val (.int lb), .val (.int sp), .val (.int ch), .val (.ref bs), .val (.ref b2), .val (.ref b4), .val (.int k1), .val (.int k2), .val (.int md), .val v1, .val v2, .val (.ref b8), .val (.ref b10), .val (.ref b10), .val (.int (0 : Int32))] [(.int (1 : Int32))])) _
        refine XS.goto X16.here hx rfl (pc0 := 254) (pc' := 258) rfl (hb hby at_254) (by decide) (by decide) ?_
        show Steps p.tables e below (T16.setTop (mkF m 258 #[.val (.int x0), .val (.int x1), .val (.int x2), .val (.int x3), .val (.int x4), .val (.int x5), .val (.int ob), .val (.int lb), .val (.int sp), .val (.int ch), .val (.ref bs), .val (.ref b2), .val (.ref b4), .val (.int k1), .val (.int k2), .val (.int md), .val v1, .val v2, .val (.ref b8), .val (.ref b10), .val (.ref b10), .val (.int (0 : Int32))] [(.int (1 : Int32))])) _
        exact retN X16 hx (t := .boolean) Bd.returns (by simp) (hb hby at_258) hr
      · exact ⟨rfl, N16⟩
  · obtain ⟨cq17, kq17, q17a, q17b, q17c⟩ := isOf hZ11 rfl R8_11
    obtain ⟨_, _, ⟨T17, L17, k17, n17⟩, -, X17, ⟨Lc17, hQ17, l17, y17, z17⟩, st17⟩ := X11.virtualBack hx (y := (⟨"com/example/burdock/burdock/query/ParameterReference", "sameAs", "(Ljava/lang/Object;)Z"⟩ : MethodName)) (z := (⟨"com/example/burdock/burdock/query/ParameterReference", "sameAs", "(Ljava/lang/Object;)Z"⟩ : MethodName)) ho11 (mvT hZ11 (hw _ (List.mem_of_getElem? (i := 80) rfl))) (mvT hZ11 (hw _ (List.mem_of_getElem? (i := 81) rfl))) (notFace_of_selects (args := #[]) (mvT hZ11 (hw _ (List.mem_of_getElem? (i := 83) rfl)))) (mvT hZ11 (hw _ (List.mem_of_getElem? (i := 83) rfl))) (mvT hZ11 (hw _ (List.mem_of_getElem? (i := 82) rfl))) (by decide) (backOf (W := 0) (rm11d l Z a0 hw [] b8 T11.heap n0 zz11) hZ11 (hw _ (List.mem_of_getElem? (i := 84) rfl)) (hw _ (List.mem_of_getElem? (i := 53) rfl)) (by decide) (by decide)) q17a q17c (g := (mkF m 245 #[.val (.int x0), .val (.int x1), .val (.int x2), .val (.int x3), .val (.int x4), .val (.int x5), .val (.int ob), .val (.int lb), .val (.int sp), .val (.int ch), .val (.ref bs), .val (.ref b2), .val (.ref b4), .val (.int k1), .val (.int k2), .val (.int md), .val v1, .val v2, .val (.ref b8), .val (.ref b10), .val .null, .val (.int (0 : Int32))] [.null, (.ref b8)])) rfl (by rw [hml]; rfl) (Steps.refl _) (argsL := [.null]) (rest := []) (lenOf pd__Ljava_lang_ObjectERZ rfl) rfl (by show 2 * 0 + _ ≤ _; exact Nat.le_of_eq rfl) (hb hby at_245) (fun _ _ => ⟨rfl, rfl, (by decide : 16 + 0 ≤ _), (by decide : 151 + 0 ≤ _)⟩)
    dsimp only [Pt.U, Pt.locs, Pt.cells, Pt.slots] at X17 l17 y17 z17 st17 hQ17
    subst l17 y17 z17
    obtain ⟨rfl, N17q, eh17⟩ := hQ17
    have N17 := Fr.app N11 N17q
    obtain ⟨fs, hr, hrun, hended, hEnd⟩ := X17.leaveW hS11 (by rw [eh17]; exact (Nat.le_refl _)) (v := some (.int (1 : Int32))) (fun h => by rw [Bd.returns] at h; cases h)
    have eF : (T17.setFrames fs).heap = T11.heap := eh17
    refine ⟨_, _, pre0 _ ?_, hrun, hended, _, _, rfl, ?_, hEnd.1, hEnd.2.1, hEnd.2.2.1, hEnd.2.2.2.mono (by decide) (by decide)⟩
    · refine stP _ ?_
      show Steps p.tables e below (T11.setTop (mkF m 168 #[.val (.int x0), .val (.int x1), .val (.int x2), .val (.int x3), .val (.int x4), .val (.int x5), .val (.int ob), .val (.int lb), .val (.int sp), .val (.int ch), .val (.ref bs), .val (.ref b2), .val (.ref b4), .val (.int k1), .val (.int k2), .val (.int md), .val v1, .val v2, .val (.ref b8), .val (.ref b10), .unset, .unset] [(.int md)])) _
      refine XS.ifYes X11.here hx rfl (pc0 := 168) (pc' := 203) rfl (hb hby at_168) rfl ((if0 _ _).trans (feq (by rw [hm]; decide : ¬ (md = (0 : Int32)))).2) (by decide) (by decide) ?_
      show Steps p.tables e below (T11.setTop (mkF m 203 #[.val (.int x0), .val (.int x1), .val (.int x2), .val (.int x3), .val (.int x4), .val (.int x5), .val (.int ob), .val (.int lb), .val (.int sp), .val (.int ch), .val (.ref bs), .val (.ref b2), .val (.ref b4), .val (.int k1), .val (.int k2), .val (.int md), .val v1, .val v2, .val (.ref b8), .val (.ref b10), .unset, .unset] [])) _
      refine XS.iload X11.here hx rfl (hb hby at_203) rfl ?_
      show Steps p.tables e below (T11.setTop (mkF m 205 #[.val (.int x0), .val (.int x1), .val (.int x2), .val (.int x3), .val (.int x4), .val (.int x5), .val (.int ob), .val (.int lb), .val (.int sp), .val (.int ch), .val (.ref bs), .val (.ref b2), .val (.ref b4), .val (.int k1), .val (.int k2), .val (.int md), .val v1, .val v2, .val (.ref b8), .val (.ref b10), .unset, .unset] [(.int md)])) _
      refine XS.iconst X11.here hx rfl (hb hby at_205) ?_
      show Steps p.tables e below (T11.setTop (mkF m 206 #[.val (.int x0), .val (.int x1), .val (.int x2), .val (.int x3), .val (.int x4), .val (.int x5), .val (.int ob), .val (.int lb), .val (.int sp), .val (.int ch), .val (.ref bs), .val (.ref b2), .val (.ref b4), .val (.int k1), .val (.int k2), .val (.int md), .val v1, .val v2, .val (.ref b8), .val (.ref b10), .unset, .unset] [(.int (1 : Int32)), (.int md)])) _
      refine XS.icmpNo X11.here hx rfl (hb hby at_206) rfl (teq hm).2 ?_
      show Steps p.tables e below (T11.setTop (mkF m 209 #[.val (.int x0), .val (.int x1), .val (.int x2), .val (.int x3), .val (.int x4), .val (.int x5), .val (.int ob), .val (.int lb), .val (.int sp), .val (.int ch), .val (.ref bs), .val (.ref b2), .val (.ref b4), .val (.int k1), .val (.int k2), .val (.int md), .val v1, .val v2, .val (.ref b8), .val (.ref b10), .unset, .unset] [])) _
      refine XS.aconstNull X11.here hx rfl (hb hby at_209) ?_
      show Steps p.tables e below (T11.setTop (mkF m 210 #[.val (.int x0), .val (.int x1), .val (.int x2), .val (.int x3), .val (.int x4), .val (.int x5), .val (.int ob), .val (.int lb), .val (.int sp), .val (.int ch), .val (.ref bs), .val (.ref b2), .val (.ref b4), .val (.int k1), .val (.int k2), .val (.int md), .val v1, .val v2, .val (.ref b8), .val (.ref b10), .unset, .unset] [.null])) _
      refine XS.astore X11.here hx rfl (hb hby at_210) rfl rfl (l' := #[.val (.int x0), .val (.int x1), .val (.int x2), .val (.int x3), .val (.int x4), .val (.int x5), .val (.int ob), .val (.int lb), .val (.int sp), .val (.int ch), .val (.ref bs), .val (.ref b2), .val (.ref b4), .val (.int k1), .val (.int k2), .val (.int md), .val v1, .val v2, .val (.ref b8), .val (.ref b10), .val .null, .unset]) rfl ?_
      show Steps p.tables e below (T11.setTop (mkF m 212 #[.val (.int x0), .val (.int x1), .val (.int x2), .val (.int x3), .val (.int x4), .val (.int x5), .val (.int ob), .val (.int lb), .val (.int sp), .val (.int ch), .val (.ref bs), .val (.ref b2), .val (.ref b4), .val (.int k1), .val (.int k2), .val (.int md), .val v1, .val v2, .val (.ref b8), .val (.ref b10), .val .null, .unset] [])) _
      refine XS.iconst X11.here hx rfl (hb hby at_212) ?_
      show Steps p.tables e below (T11.setTop (mkF m 213 #[.val (.int x0), .val (.int x1), .val (.int x2), .val (.int x3), .val (.int x4), .val (.int x5), .val (.int ob), .val (.int lb), .val (.int sp), .val (.int ch), .val (.ref bs), .val (.ref b2), .val (.ref b4), .val (.int k1), .val (.int k2), .val (.int md), .val v1, .val v2, .val (.ref b8), .val (.ref b10), .val .null, .unset] [(.int (0 : Int32))])) _
      refine XS.istore X11.here hx rfl (hb hby at_213) rfl (l' := #[.val (.int x0), .val (.int x1), .val (.int x2), .val (.int x3), .val (.int x4), .val (.int x5), .val (.int ob), .val (.int lb), .val (.int sp), .val (.int ch), .val (.ref bs), .val (.ref b2), .val (.ref b4), .val (.int k1), .val (.int k2), .val (.int md), .val v1, .val v2, .val (.ref b8), .val (.ref b10), .val .null, .val (.int (0 : Int32))]) rfl ?_
      show Steps p.tables e below (T11.setTop (mkF m 215 #[.val (.int x0), .val (.int x1), .val (.int x2), .val (.int x3), .val (.int x4), .val (.int x5), .val (.int ob), .val (.int lb), .val (.int sp), .val (.int ch), .val (.ref bs), .val (.ref b2), .val (.ref b4), .val (.int k1), .val (.int k2), .val (.int md), .val v1, .val v2, .val (.ref b8), .val (.ref b10), .val .null, .val (.int (0 : Int32))] [])) _
      refine XS.goto X11.here hx rfl (pc0 := 215) (pc' := 241) rfl (hb hby at_215) (by decide) (by decide) ?_
      show Steps p.tables e below (T11.setTop (mkF m 241 #[.val (.int x0), .val (.int x1), .val (.int x2), .val (.int x3), .val (.int x4), .val (.int x5), .val (.int ob), .val (.int lb), .val (.int sp), .val (.int ch), .val (.ref bs), .val (.ref b2), .val (.ref b4), .val (.int k1), .val (.int k2), .val (.int md), .val v1, .val v2, .val (.ref b8), .val (.ref b10), .val .null, .val (.int (0 : Int32))] [])) _
      refine XS.aload X11.here hx rfl (hb hby at_241) rfl rfl ?_
      show Steps p.tables e below (T11.setTop (mkF m 243 #[.val (.int x0), .val (.int x1), .val (.int x2), .val (.int x3), .val (.int x4), .val (.int x5), .val (.int ob), .val (.int lb), .val (.int sp), .val (.int ch), .val (.ref bs), .val (.ref b2), .val (.ref b4), .val (.int k1), .val (.int k2), .val (.int md), .val v1, .val v2, .val (.ref b8), .val (.ref b10), .val .null, .val (.int (0 : Int32))] [(.ref b8)])) _
      refine XS.aload X11.here hx rfl (hb hby at_243) rfl rfl ?_
      show Steps p.tables e below (T11.setTop (mkF m 245 #[.val (.int x0), .val (.int x1), .val (.int x2), .val (.int x3), .val (.int x4), .val (.int x5), .val (.int ob), .val (.int lb), .val (.int sp), .val (.int ch), .val (.ref bs), .val (.ref b2), .val (.ref b4), .val (.int k1), .val (.int k2), .val (.int md), .val v1, .val v2, .val (.ref b8), .val (.ref b10), .val .null, .val (.int (0 : Int32))] [.null, (.ref b8)])) _
      refine st17.trans ?_
      show Steps p.tables e below (T17.setTop (mkF m 248 #[.val (.int x0), .val (.int x1), .val (.int x2), .val (.int x3), .val (.int x4), .val (.int x5), .val (.int ob), .val (.int lb), .val (.int sp), .val (.int ch), .val (.ref bs), .val (.ref b2), .val (.ref b4), .val (.int k1), .val (.int k2), .val (.int md), .val v1, .val v2, .val (.ref b8), .val (.ref b10), .val .null, .val (.int (0 : Int32))] [(.int (0 : Int32))])) _
      refine XS.iload X17.here hx rfl (hb hby at_248) rfl ?_
      show Steps p.tables e below (T17.setTop (mkF m 250 #[.val (.int x0), .val (.int x1), .val (.int x2), .val (.int x3), .val (.int x4), .val (.int x5), .val (.int ob), .val (.int lb), .val (.int sp), .val (.int ch), .val (.ref bs), .val (.ref b2), .val (.ref b4), .val (.int k1), .val (.int k2), .val (.int md), .val v1, .val v2, .val (.ref b8), .val (.ref b10), .val .null, .val (.int (0 : Int32))] [(.int (0 : Int32)), (.int (0 : Int32))])) _
      refine XS.icmpNo X17.here hx rfl (hb hby at_250) rfl (teq (rfl : (0 : Int32) = 0)).2 ?_
      show Steps p.tables e below (T17.setTop (mkF m 253 #[.val (.int x0), .val (.int x1), .val (.int x2), .val (.int x3), .val (.int x4), .val (.int x5), .val (.int ob), .val (.int lb), .val (.int sp), .val (.int ch), .val (.ref bs), .val (.ref b2), .val (.ref b4), .val (.int k1), .val (.int k2), .val (.int md), .val v1, .val v2, .val (.ref b8), .val (.ref b10), .val .null, .val (.int (0 : Int32))] [])) _
      refine XS.iconst X17.here hx rfl (hb hby at_253) ?_
      show Steps p.tables e below (T17.setTop (mkF m 254 #[.val (.int x0), .val (.int x1), .val (.int x2), .val (.int x3), .val (.int x4), .val (.int x5), .val (.int ob), .val (.int lb), .val (.int sp), .val (.int ch), .val (.ref bs), .val (.ref b2), .val (.ref b4), .val (.int k1), .val (.int k2), .val (.int md), .val v1, .val v2, .val (.ref b8), .val (.ref b10), .val .null, .val (.int (0 : Int32))] [(.int (1 : Int32))])) _
      refine XS.goto X17.here hx rfl (pc0 := 254) (pc' := 258) rfl (hb hby at_254) (by decide) (by decide) ?_
      show Steps p.tables e below (T17.setTop (mkF m 258 #[.val (.int x0), .val (.int x1), .val (.int x2), .val (.int x3), .val (.int x4), .val (.int x5), .val (.int ob), .val (.int lb), .val (.int sp), .val (.int ch), .val (.ref bs), .val (.ref b2), .val (.ref b4), .val (.int k1), .val (.int k2), .val (.int md), .val v1, .val v2, .val (.ref b8), .val (.ref b10), .val .null, .val (.int (0 : Int32))] [(.int (1 : Int32))])) _
      exact retN X17 hx (t := .boolean) Bd.returns (by simp) (hb hby at_258) hr
    · exact ⟨rfl, N17⟩
  · obtain ⟨cq18, kq18, q18a, q18b, q18c⟩ := isOf hZ11 rfl R8_11
    obtain ⟨_, _, ⟨T18, L18, k18, n18⟩, -, X18, ⟨Lc18, hQ18, l18, y18, z18⟩, st18⟩ := X11.virtualBack hx (y := (⟨"com/example/burdock/burdock/query/ParameterReference", "sameAs", "(Ljava/lang/Object;)Z"⟩ : MethodName)) (z := (⟨"com/example/burdock/burdock/query/ParameterReference", "sameAs", "(Ljava/lang/Object;)Z"⟩ : MethodName)) ho11 (mvT hZ11 (hw _ (List.mem_of_getElem? (i := 80) rfl))) (mvT hZ11 (hw _ (List.mem_of_getElem? (i := 81) rfl))) (notFace_of_selects (args := #[]) (mvT hZ11 (hw _ (List.mem_of_getElem? (i := 83) rfl)))) (mvT hZ11 (hw _ (List.mem_of_getElem? (i := 83) rfl))) (mvT hZ11 (hw _ (List.mem_of_getElem? (i := 82) rfl))) (by decide) (backOf (W := 0) (rm11e l Z a0 hw [] b8 b2 T11.heap n0 zz11 P2_11 NA) hZ11 (hw _ (List.mem_of_getElem? (i := 84) rfl)) (hw _ (List.mem_of_getElem? (i := 53) rfl)) (by decide) (by decide)) q18a q18c (g := (mkF m 245 #[.val (.int x0), .val (.int x1), .val (.int x2), .val (.int x3), .val (.int x4), .val (.int x5), .val (.int ob), .val (.int lb), .val (.int sp), .val (.int ch), .val (.ref bs), .val (.ref b2), .val (.ref b4), .val (.int k1), .val (.int k2), .val (.int md), .val v1, .val v2, .val (.ref b8), .val (.ref b10), .val (.ref b2), .val (.int (0 : Int32))] [(.ref b2), (.ref b8)])) rfl (by rw [hml]; rfl) (Steps.refl _) (argsL := [(.ref b2)]) (rest := []) (lenOf pd__Ljava_lang_ObjectERZ rfl) rfl (by show 2 * 0 + _ ≤ _; exact Nat.le_of_eq rfl) (hb hby at_245) (fun _ _ => ⟨rfl, rfl, (by decide : 16 + 0 ≤ _), (by decide : 151 + 0 ≤ _)⟩)
    dsimp only [Pt.U, Pt.locs, Pt.cells, Pt.slots] at X18 l18 y18 z18 st18 hQ18
    subst l18 y18 z18
    obtain ⟨rfl, N18q, eh18⟩ := hQ18
    have N18 := Fr.app N11 N18q
    obtain ⟨fs, hr, hrun, hended, hEnd⟩ := X18.leaveW hS11 (by rw [eh18]; exact (Nat.le_refl _)) (v := some (.int (1 : Int32))) (fun h => by rw [Bd.returns] at h; cases h)
    have eF : (T18.setFrames fs).heap = T11.heap := eh18
    refine ⟨_, _, pre0 _ ?_, hrun, hended, _, _, rfl, ?_, hEnd.1, hEnd.2.1, hEnd.2.2.1, hEnd.2.2.2.mono (by decide) (by decide)⟩
    · refine stP _ ?_
      show Steps p.tables e below (T11.setTop (mkF m 168 #[.val (.int x0), .val (.int x1), .val (.int x2), .val (.int x3), .val (.int x4), .val (.int x5), .val (.int ob), .val (.int lb), .val (.int sp), .val (.int ch), .val (.ref bs), .val (.ref b2), .val (.ref b4), .val (.int k1), .val (.int k2), .val (.int md), .val v1, .val v2, .val (.ref b8), .val (.ref b10), .unset, .unset] [(.int md)])) _
      refine XS.ifYes X11.here hx rfl (pc0 := 168) (pc' := 203) rfl (hb hby at_168) rfl ((if0 _ _).trans (feq (by rw [hm]; decide : ¬ (md = (0 : Int32)))).2) (by decide) (by decide) ?_
      show Steps p.tables e below (T11.setTop (mkF m 203 #[.val (.int x0), .val (.int x1), .val (.int x2), .val (.int x3), .val (.int x4), .val (.int x5), .val (.int ob), .val (.int lb), .val (.int sp), .val (.int ch), .val (.ref bs), .val (.ref b2), .val (.ref b4), .val (.int k1), .val (.int k2), .val (.int md), .val v1, .val v2, .val (.ref b8), .val (.ref b10), .unset, .unset] [])) _
      refine XS.iload X11.here hx rfl (hb hby at_203) rfl ?_
      show Steps p.tables e below (T11.setTop (mkF m 205 #[.val (.int x0), .val (.int x1), .val (.int x2), .val (.int x3), .val (.int x4), .val (.int x5), .val (.int ob), .val (.int lb), .val (.int sp), .val (.int ch), .val (.ref bs), .val (.ref b2), .val (.ref b4), .val (.int k1), .val (.int k2), .val (.int md), .val v1, .val v2, .val (.ref b8), .val (.ref b10), .unset, .unset] [(.int md)])) _
      refine XS.iconst X11.here hx rfl (hb hby at_205) ?_
      show Steps p.tables e below (T11.setTop (mkF m 206 #[.val (.int x0), .val (.int x1), .val (.int x2), .val (.int x3), .val (.int x4), .val (.int x5), .val (.int ob), .val (.int lb), .val (.int sp), .val (.int ch), .val (.ref bs), .val (.ref b2), .val (.ref b4), .val (.int k1), .val (.int k2), .val (.int md), .val v1, .val v2, .val (.ref b8), .val (.ref b10), .unset, .unset] [(.int (1 : Int32)), (.int md)])) _
      refine XS.icmpYes X11.here hx rfl (pc0 := 206) (pc' := 218) rfl (hb hby at_206) rfl (feq (by rw [hm]; decide : ¬ (md = (1 : Int32)))).2 (by decide) (by decide) ?_
      show Steps p.tables e below (T11.setTop (mkF m 218 #[.val (.int x0), .val (.int x1), .val (.int x2), .val (.int x3), .val (.int x4), .val (.int x5), .val (.int ob), .val (.int lb), .val (.int sp), .val (.int ch), .val (.ref bs), .val (.ref b2), .val (.ref b4), .val (.int k1), .val (.int k2), .val (.int md), .val v1, .val v2, .val (.ref b8), .val (.ref b10), .unset, .unset] [])) _
      refine XS.iload X11.here hx rfl (hb hby at_218) rfl ?_
      show Steps p.tables e below (T11.setTop (mkF m 220 #[.val (.int x0), .val (.int x1), .val (.int x2), .val (.int x3), .val (.int x4), .val (.int x5), .val (.int ob), .val (.int lb), .val (.int sp), .val (.int ch), .val (.ref bs), .val (.ref b2), .val (.ref b4), .val (.int k1), .val (.int k2), .val (.int md), .val v1, .val v2, .val (.ref b8), .val (.ref b10), .unset, .unset] [(.int md)])) _
      refine XS.iconst X11.here hx rfl (hb hby at_220) ?_
      show Steps p.tables e below (T11.setTop (mkF m 221 #[.val (.int x0), .val (.int x1), .val (.int x2), .val (.int x3), .val (.int x4), .val (.int x5), .val (.int ob), .val (.int lb), .val (.int sp), .val (.int ch), .val (.ref bs), .val (.ref b2), .val (.ref b4), .val (.int k1), .val (.int k2), .val (.int md), .val v1, .val v2, .val (.ref b8), .val (.ref b10), .unset, .unset] [(.int (2 : Int32)), (.int md)])) _
      refine XS.icmpNo X11.here hx rfl (hb hby at_221) rfl (teq hm).2 ?_
      show Steps p.tables e below (T11.setTop (mkF m 224 #[.val (.int x0), .val (.int x1), .val (.int x2), .val (.int x3), .val (.int x4), .val (.int x5), .val (.int ob), .val (.int lb), .val (.int sp), .val (.int ch), .val (.ref bs), .val (.ref b2), .val (.ref b4), .val (.int k1), .val (.int k2), .val (.int md), .val v1, .val v2, .val (.ref b8), .val (.ref b10), .unset, .unset] [])) _
      refine XS.aload X11.here hx rfl (hb hby at_224) rfl rfl ?_
      show Steps p.tables e below (T11.setTop (mkF m 226 #[.val (.int x0), .val (.int x1), .val (.int x2), .val (.int x3), .val (.int x4), .val (.int x5), .val (.int ob), .val (.int lb), .val (.int sp), .val (.int ch), .val (.ref bs), .val (.ref b2), .val (.ref b4), .val (.int k1), .val (.int k2), .val (.int md), .val v1, .val v2, .val (.ref b8), .val (.ref b10), .unset, .unset] [(.ref b2)])) _
      refine XS.astore X11.here hx rfl (hb hby at_226) rfl rfl (l' := #[.val (.int x0), .val (.int x1), .val (.int x2), .val (.int x3), .val (.int x4), .val (.int x5), .val (.int ob), .val (.int lb), .val (.int sp), .val (.int ch), .val (.ref bs), .val (.ref b2), .val (.ref b4), .val (.int k1), .val (.int k2), .val (.int md), .val v1, .val v2, .val (.ref b8), .val (.ref b10), .val (.ref b2), .unset]) rfl ?_
      show Steps p.tables e below (T11.setTop (mkF m 228 #[.val (.int x0), .val (.int x1), .val (.int x2), .val (.int x3), .val (.int x4), .val (.int x5), .val (.int ob), .val (.int lb), .val (.int sp), .val (.int ch), .val (.ref bs), .val (.ref b2), .val (.ref b4), .val (.int k1), .val (.int k2), .val (.int md), .val v1, .val v2, .val (.ref b8), .val (.ref b10), .val (.ref b2), .unset] [])) _
      refine XS.iconst X11.here hx rfl (hb hby at_228) ?_
      show Steps p.tables e below (T11.setTop (mkF m 229 #[.val (.int x0), .val (.int x1), .val (.int x2), .val (.int x3), .val (.int x4), .val (.int x5), .val (.int ob), .val (.int lb), .val (.int sp), .val (.int ch), .val (.ref bs), .val (.ref b2), .val (.ref b4), .val (.int k1), .val (.int k2), .val (.int md), .val v1, .val v2, .val (.ref b8), .val (.ref b10), .val (.ref b2), .unset] [(.int (0 : Int32))])) _
      refine XS.istore X11.here hx rfl (hb hby at_229) rfl (l' := #[.val (.int x0), .val (.int x1), .val (.int x2), .val (.int x3), .val (.int x4), .val (.int x5), .val (.int ob), .val (.int lb), .val (.int sp), .val (.int ch), .val (.ref bs), .val (.ref b2), .val (.ref b4), .val (.int k1), .val (.int k2), .val (.int md), .val v1, .val v2, .val (.ref b8), .val (.ref b10), .val (.ref b2), .val (.int (0 : Int32))]) rfl ?_
      show Steps p.tables e below (T11.setTop (mkF m 231 #[.val (.int x0), .val (.int x1), .val (.int x2), .val (.int x3), .val (.int x4), .val (.int x5), .val (.int ob), .val (.int lb), .val (.int sp), .val (.int ch), .val (.ref bs), .val (.ref b2), .val (.ref b4), .val (.int k1), .val (.int k2), .val (.int md), .val v1, .val v2, .val (.ref b8), .val (.ref b10), .val (.ref b2), .val (.int (0 : Int32))] [])) _
      refine XS.goto X11.here hx rfl (pc0 := 231) (pc' := 241) rfl (hb hby at_231) (by decide) (by decide) ?_
      show Steps p.tables e below (T11.setTop (mkF m 241 #[.val (.int x0), .val (.int x1), .val (.int x2), .val (.int x3), .val (.int x4), .val (.int x5), .val (.int ob), .val (.int lb), .val (.int sp), .val (.int ch), .val (.ref bs), .val (.ref b2), .val (.ref b4), .val (.int k1), .val (.int k2), .val (.int md), .val v1, .val v2, .val (.ref b8), .val (.ref b10), .val (.ref b2), .val (.int (0 : Int32))] [])) _
      refine XS.aload X11.here hx rfl (hb hby at_241) rfl rfl ?_
      show Steps p.tables e below (T11.setTop (mkF m 243 #[.val (.int x0), .val (.int x1), .val (.int x2), .val (.int x3), .val (.int x4), .val (.int x5), .val (.int ob), .val (.int lb), .val (.int sp), .val (.int ch), .val (.ref bs), .val (.ref b2), .val (.ref b4), .val (.int k1), .val (.int k2), .val (.int md), .val v1, .val v2, .val (.ref b8), .val (.ref b10), .val (.ref b2), .val (.int (0 : Int32))] [(.ref b8)])) _
      refine XS.aload X11.here hx rfl (hb hby at_243) rfl rfl ?_
      show Steps p.tables e below (T11.setTop (mkF m 245 #[.val (.int x0), .val (.int x1), .val (.int x2), .val (.int x3), .val (.int x4), .val (.int x5), .val (.int ob), .val (.int lb), .val (.int sp), .val (.int ch), .val (.ref bs), .val (.ref b2), .val (.ref b4), .val (.int k1), .val (.int k2), .val (.int md), .val v1, .val v2, .val (.ref b8), .val (.ref b10), .val (.ref b2), .val (.int (0 : Int32))] [(.ref b2), (.ref b8)])) _
      refine st18.trans ?_
      show Steps p.tables e below (T18.setTop (mkF m 248 #[.val (.int x0), .val (.int x1), .val (.int x2), .val (.int x3), .val (.int x4), .val (.int x5), .val (.int ob), .val (.int lb), .val (.int sp), .val (.int ch), .val (.ref bs), .val (.ref b2), .val (.ref b4), .val (.int k1), .val (.int k2), .val (.int md), .val v1, .val v2, .val (.ref b8), .val (.ref b10), .val (.ref b2), .val (.int (0 : Int32))] [(.int (0 : Int32))])) _
      refine XS.iload X18.here hx rfl (hb hby at_248) rfl ?_
      show Steps p.tables e below (T18.setTop (mkF m 250 #[.val (.int x0), .val (.int x1), .val (.int x2), .val (.int x3), .val (.int x4), .val (.int x5), .val (.int ob), .val (.int lb), .val (.int sp), .val (.int ch), .val (.ref bs), .val (.ref b2), .val (.ref b4), .val (.int k1), .val (.int k2), .val (.int md), .val v1, .val v2, .val (.ref b8), .val (.ref b10), .val (.ref b2), .val (.int (0 : Int32))] [(.int (0 : Int32)), (.int (0 : Int32))])) _
      refine XS.icmpNo X18.here hx rfl (hb hby at_250) rfl (teq (rfl : (0 : Int32) = 0)).2 ?_
      show Steps p.tables e below (T18.setTop (mkF m 253 #[.val (.int x0), .val (.int x1), .val (.int x2), .val (.int x3), .val (.int x4), .val (.int x5), .val (.int ob), .val (.int lb), .val (.int sp), .val (.int ch), .val (.ref bs), .val (.ref b2), .val (.ref b4), .val (.int k1), .val (.int k2), .val (.int md), .val v1, .val v2, .val (.ref b8), .val (.ref b10), .val (.ref b2), .val (.int (0 : Int32))] [])) _
      refine XS.iconst X18.here hx rfl (hb hby at_253) ?_
      show Steps p.tables e below (T18.setTop (mkF m 254 #[.val (.int x0), .val (.int x1), .val (.int x2), .val (.int x3), .val (.int x4), .val (.int x5), .val (.int ob), .val (.int lb), .val (.int sp), .val (.int ch), .val (.ref bs), .val (.ref b2), .val (.ref b4), .val (.int k1), .val (.int k2), .val (.int md), .val v1, .val v2, .val (.ref b8), .val (.ref b10), .val (.ref b2), .val (.int (0 : Int32))] [(.int (1 : Int32))])) _
      refine XS.goto X18.here hx rfl (pc0 := 254) (pc' := 258) rfl (hb hby at_254) (by decide) (by decide) ?_
      show Steps p.tables e below (T18.setTop (mkF m 258 #[.val (.int x0), .val (.int x1), .val (.int x2), .val (.int x3), .val (.int x4), .val (.int x5), .val (.int ob), .val (.int lb), .val (.int sp), .val (.int ch), .val (.ref bs), .val (.ref b2), .val (.ref b4), .val (.int k1), .val (.int k2), .val (.int md), .val v1, .val v2, .val (.ref b8), .val (.ref b10), .val (.ref b2), .val (.int (0 : Int32))] [(.int (1 : Int32))])) _
      exact retN X18 hx (t := .boolean) Bd.returns (by simp) (hb hby at_258) hr
    · exact ⟨rfl, N18⟩
  · obtain ⟨cq19, kq19, q19a, q19b, q19c⟩ := isOf hZ11 rfl R8_11
    obtain ⟨_, _, ⟨T19, L19, k19, n19⟩, -, X19, ⟨Lc19, hQ19, l19, y19, z19⟩, st19⟩ := X11.virtualBack hx (y := (⟨"com/example/burdock/burdock/query/ParameterReference", "sameAs", "(Ljava/lang/Object;)Z"⟩ : MethodName)) (z := (⟨"com/example/burdock/burdock/query/ParameterReference", "sameAs", "(Ljava/lang/Object;)Z"⟩ : MethodName)) ho11 (mvT hZ11 (hw _ (List.mem_of_getElem? (i := 80) rfl))) (mvT hZ11 (hw _ (List.mem_of_getElem? (i := 81) rfl))) (notFace_of_selects (args := #[]) (mvT hZ11 (hw _ (List.mem_of_getElem? (i := 83) rfl)))) (mvT hZ11 (hw _ (List.mem_of_getElem? (i := 83) rfl))) (mvT hZ11 (hw _ (List.mem_of_getElem? (i := 82) rfl))) (by decide) (backOf (W := 0) (rm11c l Z a0 hw [] b8 b8 b2 v1 v1 T11.heap n0 zz11 R8_11 Fp8_11 Fp8_11 Fe8_11 Fe8_11 r1 r1 rfl) hZ11 (hw _ (List.mem_of_getElem? (i := 84) rfl)) (hw _ (List.mem_of_getElem? (i := 53) rfl)) (by decide) (by decide)) q19a q19c (g := (mkF m 245 #[.val (.int x0), .val (.int x1), .val (.int x2), .val (.int x3), .val (.int x4), .val (.int x5), .val (.int ob), .val (.int lb), .val (.int sp), .val (.int ch), .val (.ref bs), .val (.ref b2), .val (.ref b4), .val (.int k1), .val (.int k2), .val (.int md), .val v1, .val v2, .val (.ref b8), .val (.ref b10), .val (.ref b8), .val (.int (1 : Int32))] [(.ref b8), (.ref b8)])) rfl (by rw [hml]; rfl) (Steps.refl _) (argsL := [(.ref b8)]) (rest := []) (lenOf pd__Ljava_lang_ObjectERZ rfl) rfl (by show 2 * 0 + _ ≤ _; exact Nat.le_of_eq rfl) (hb hby at_245) (fun _ _ => ⟨rfl, rfl, (by decide : 16 + 0 ≤ _), (by decide : 151 + 0 ≤ _)⟩)
    dsimp only [Pt.U, Pt.locs, Pt.cells, Pt.slots] at X19 l19 y19 z19 st19 hQ19
    subst l19 y19 z19
    obtain ⟨rfl, N19q, eh19⟩ := hQ19
    have N19 := Fr.app N11 N19q
    obtain ⟨fs, hr, hrun, hended, hEnd⟩ := X19.leaveW hS11 (by rw [eh19]; exact (Nat.le_refl _)) (v := some (.int (1 : Int32))) (fun h => by rw [Bd.returns] at h; cases h)
    have eF : (T19.setFrames fs).heap = T11.heap := eh19
    refine ⟨_, _, pre0 _ ?_, hrun, hended, _, _, rfl, ?_, hEnd.1, hEnd.2.1, hEnd.2.2.1, hEnd.2.2.2.mono (by decide) (by decide)⟩
    · refine stP _ ?_
      show Steps p.tables e below (T11.setTop (mkF m 168 #[.val (.int x0), .val (.int x1), .val (.int x2), .val (.int x3), .val (.int x4), .val (.int x5), .val (.int ob), .val (.int lb), .val (.int sp), .val (.int ch), .val (.ref bs), .val (.ref b2), .val (.ref b4), .val (.int k1), .val (.int k2), .val (.int md), .val v1, .val v2, .val (.ref b8), .val (.ref b10), .unset, .unset] [(.int md)])) _
      refine XS.ifYes X11.here hx rfl (pc0 := 168) (pc' := 203) rfl (hb hby at_168) rfl ((if0 _ _).trans (feq (by rw [hm]; decide : ¬ (md = (0 : Int32)))).2) (by decide) (by decide) ?_
      show Steps p.tables e below (T11.setTop (mkF m 203 #[.val (.int x0), .val (.int x1), .val (.int x2), .val (.int x3), .val (.int x4), .val (.int x5), .val (.int ob), .val (.int lb), .val (.int sp), .val (.int ch), .val (.ref bs), .val (.ref b2), .val (.ref b4), .val (.int k1), .val (.int k2), .val (.int md), .val v1, .val v2, .val (.ref b8), .val (.ref b10), .unset, .unset] [])) _
      refine XS.iload X11.here hx rfl (hb hby at_203) rfl ?_
      show Steps p.tables e below (T11.setTop (mkF m 205 #[.val (.int x0), .val (.int x1), .val (.int x2), .val (.int x3), .val (.int x4), .val (.int x5), .val (.int ob), .val (.int lb), .val (.int sp), .val (.int ch), .val (.ref bs), .val (.ref b2), .val (.ref b4), .val (.int k1), .val (.int k2), .val (.int md), .val v1, .val v2, .val (.ref b8), .val (.ref b10), .unset, .unset] [(.int md)])) _
      refine XS.iconst X11.here hx rfl (hb hby at_205) ?_
      show Steps p.tables e below (T11.setTop (mkF m 206 #[.val (.int x0), .val (.int x1), .val (.int x2), .val (.int x3), .val (.int x4), .val (.int x5), .val (.int ob), .val (.int lb), .val (.int sp), .val (.int ch), .val (.ref bs), .val (.ref b2), .val (.ref b4), .val (.int k1), .val (.int k2), .val (.int md), .val v1, .val v2, .val (.ref b8), .val (.ref b10), .unset, .unset] [(.int (1 : Int32)), (.int md)])) _
      refine XS.icmpYes X11.here hx rfl (pc0 := 206) (pc' := 218) rfl (hb hby at_206) rfl (feq (by rw [hm]; decide : ¬ (md = (1 : Int32)))).2 (by decide) (by decide) ?_
      show Steps p.tables e below (T11.setTop (mkF m 218 #[.val (.int x0), .val (.int x1), .val (.int x2), .val (.int x3), .val (.int x4), .val (.int x5), .val (.int ob), .val (.int lb), .val (.int sp), .val (.int ch), .val (.ref bs), .val (.ref b2), .val (.ref b4), .val (.int k1), .val (.int k2), .val (.int md), .val v1, .val v2, .val (.ref b8), .val (.ref b10), .unset, .unset] [])) _
      refine XS.iload X11.here hx rfl (hb hby at_218) rfl ?_
      show Steps p.tables e below (T11.setTop (mkF m 220 #[.val (.int x0), .val (.int x1), .val (.int x2), .val (.int x3), .val (.int x4), .val (.int x5), .val (.int ob), .val (.int lb), .val (.int sp), .val (.int ch), .val (.ref bs), .val (.ref b2), .val (.ref b4), .val (.int k1), .val (.int k2), .val (.int md), .val v1, .val v2, .val (.ref b8), .val (.ref b10), .unset, .unset] [(.int md)])) _
      refine XS.iconst X11.here hx rfl (hb hby at_220) ?_
      show Steps p.tables e below (T11.setTop (mkF m 221 #[.val (.int x0), .val (.int x1), .val (.int x2), .val (.int x3), .val (.int x4), .val (.int x5), .val (.int ob), .val (.int lb), .val (.int sp), .val (.int ch), .val (.ref bs), .val (.ref b2), .val (.ref b4), .val (.int k1), .val (.int k2), .val (.int md), .val v1, .val v2, .val (.ref b8), .val (.ref b10), .unset, .unset] [(.int (2 : Int32)), (.int md)])) _
      refine XS.icmpYes X11.here hx rfl (pc0 := 221) (pc' := 234) rfl (hb hby at_221) rfl (feq (by rw [hm]; decide : ¬ (md = (2 : Int32)))).2 (by decide) (by decide) ?_
      show Steps p.tables e below (T11.setTop (mkF m 234 #[.val (.int x0), .val (.int x1), .val (.int x2), .val (.int x3), .val (.int x4), .val (.int x5), .val (.int ob), .val (.int lb), .val (.int sp), .val (.int ch), .val (.ref bs), .val (.ref b2), .val (.ref b4), .val (.int k1), .val (.int k2), .val (.int md), .val v1, .val v2, .val (.ref b8), .val (.ref b10), .unset, .unset] [])) _
      refine XS.aload X11.here hx rfl (hb hby at_234) rfl rfl ?_
      show Steps p.tables e below (T11.setTop (mkF m 236 #[.val (.int x0), .val (.int x1), .val (.int x2), .val (.int x3), .val (.int x4), .val (.int x5), .val (.int ob), .val (.int lb), .val (.int sp), .val (.int ch), .val (.ref bs), .val (.ref b2), .val (.ref b4), .val (.int k1), .val (.int k2), .val (.int md), .val v1, .val v2, .val (.ref b8), .val (.ref b10), .unset, .unset] [(.ref b8)])) _
      refine XS.astore X11.here hx rfl (hb hby at_236) rfl rfl (l' := #[.val (.int x0), .val (.int x1), .val (.int x2), .val (.int x3), .val (.int x4), .val (.int x5), .val (.int ob), .val (.int lb), .val (.int sp), .val (.int ch), .val (.ref bs), .val (.ref b2), .val (.ref b4), .val (.int k1), .val (.int k2), .val (.int md), .val v1, .val v2, .val (.ref b8), .val (.ref b10), .val (.ref b8), .unset]) rfl ?_
      show Steps p.tables e below (T11.setTop (mkF m 238 #[.val (.int x0), .val (.int x1), .val (.int x2), .val (.int x3), .val (.int x4), .val (.int x5), .val (.int ob), .val (.int lb), .val (.int sp), .val (.int ch), .val (.ref bs), .val (.ref b2), .val (.ref b4), .val (.int k1), .val (.int k2), .val (.int md), .val v1, .val v2, .val (.ref b8), .val (.ref b10), .val (.ref b8), .unset] [])) _
      refine XS.iconst X11.here hx rfl (hb hby at_238) ?_
      show Steps p.tables e below (T11.setTop (mkF m 239 #[.val (.int x0), .val (.int x1), .val (.int x2), .val (.int x3), .val (.int x4), .val (.int x5), .val (.int ob), .val (.int lb), .val (.int sp), .val (.int ch), .val (.ref bs), .val (.ref b2), .val (.ref b4), .val (.int k1), .val (.int k2), .val (.int md), .val v1, .val v2, .val (.ref b8), .val (.ref b10), .val (.ref b8), .unset] [(.int (1 : Int32))])) _
      refine XS.istore X11.here hx rfl (hb hby at_239) rfl (l' := #[.val (.int x0), .val (.int x1), .val (.int x2), .val (.int x3), .val (.int x4), .val (.int x5), .val (.int ob), .val (.int lb), .val (.int sp), .val (.int ch), .val (.ref bs), .val (.ref b2), .val (.ref b4), .val (.int k1), .val (.int k2), .val (.int md), .val v1, .val v2, .val (.ref b8), .val (.ref b10), .val (.ref b8), .val (.int (1 : Int32))]) rfl ?_
      show Steps p.tables e below (T11.setTop (mkF m 241 #[.val (.int x0), .val (.int x1), .val (.int x2), .val (.int x3), .val (.int x4), .val (.int x5), .val (.int ob), .val (.int lb), .val (.int sp), .val (.int ch), .val (.ref bs), .val (.ref b2), .val (.ref b4), .val (.int k1), .val (.int k2), .val (.int md), .val v1, .val v2, .val (.ref b8), .val (.ref b10), .val (.ref b8), .val (.int (1 : Int32))] [])) _
      refine XS.aload X11.here hx rfl (hb hby at_241) rfl rfl ?_
      show Steps p.tables e below (T11.setTop (mkF m 243 #[.val (.int x0), .val (.int x1), .val (.int x2), .val (.int x3), .val (.int x4), .val (.int x5), .val (.int ob), .val (.int lb), .val (.int sp), .val (.int ch), .val (.ref bs), .val (.ref b2), .val (.ref b4), .val (.int k1), .val (.int k2), .val (.int md), .val v1, .val v2, .val (.ref b8), .val (.ref b10), .val (.ref b8), .val (.int (1 : Int32))] [(.ref b8)])) _
      refine XS.aload X11.here hx rfl (hb hby at_243) rfl rfl ?_
      show Steps p.tables e below (T11.setTop (mkF m 245 #[.val (.int x0), .val (.int x1), .val (.int x2), .val (.int x3), .val (.int x4), .val (.int x5), .val (.int ob), .val (.int lb), .val (.int sp), .val (.int ch), .val (.ref bs), .val (.ref b2), .val (.ref b4), .val (.int k1), .val (.int k2), .val (.int md), .val v1, .val v2, .val (.ref b8), .val (.ref b10), .val (.ref b8), .val (.int (1 : Int32))] [(.ref b8), (.ref b8)])) _
      refine st19.trans ?_
      show Steps p.tables e below (T19.setTop (mkF m 248 #[.val (.int x0), .val (.int x1), .val (.int x2), .val (.int x3), .val (.int x4), .val (.int x5), .val (.int ob), .val (.int lb), .val (.int sp), .val (.int ch), .val (.ref bs), .val (.ref b2), .val (.ref b4), .val (.int k1), .val (.int k2), .val (.int md), .val v1, .val v2, .val (.ref b8), .val (.ref b10), .val (.ref b8), .val (.int (1 : Int32))] [(.int (1 : Int32))])) _
      refine XS.iload X19.here hx rfl (hb hby at_248) rfl ?_
      show Steps p.tables e below (T19.setTop (mkF m 250 #[.val (.int x0), .val (.int x1), .val (.int x2), .val (.int x3), .val (.int x4), .val (.int x5), .val (.int ob), .val (.int lb), .val (.int sp), .val (.int ch), .val (.ref bs), .val (.ref b2), .val (.ref b4), .val (.int k1), .val (.int k2), .val (.int md), .val v1, .val v2, .val (.ref b8), .val (.ref b10), .val (.ref b8), .val (.int (1 : Int32))] [(.int (1 : Int32)), (.int (1 : Int32))])) _
      refine XS.icmpNo X19.here hx rfl (hb hby at_250) rfl (teq (rfl : (1 : Int32) = 1)).2 ?_
      show Steps p.tables e below (T19.setTop (mkF m 253 #[.val (.int x0), .val (.int x1), .val (.int x2), .val (.int x3), .val (.int x4), .val (.int x5), .val (.int ob), .val (.int lb), .val (.int sp), .val (.int ch), .val (.ref bs), .val (.ref b2), .val (.ref b4), .val (.int k1), .val (.int k2), .val (.int md), .val v1, .val v2, .val (.ref b8), .val (.ref b10), .val (.ref b8), .val (.int (1 : Int32))] [])) _
      refine XS.iconst X19.here hx rfl (hb hby at_253) ?_
      show Steps p.tables e below (T19.setTop (mkF m 254 #[.val (.int x0), .val (.int x1), .val (.int x2), .val (.int x3), .val (.int x4), .val (.int x5), .val (.int ob), .val (.int lb), .val (.int sp), .val (.int ch), .val (.ref bs), .val (.ref b2), .val (.ref b4), .val (.int k1), .val (.int k2), .val (.int md), .val v1, .val v2, .val (.ref b8), .val (.ref b10), .val (.ref b8), .val (.int (1 : Int32))] [(.int (1 : Int32))])) _
      refine XS.goto X19.here hx rfl (pc0 := 254) (pc' := 258) rfl (hb hby at_254) (by decide) (by decide) ?_
      show Steps p.tables e below (T19.setTop (mkF m 258 #[.val (.int x0), .val (.int x1), .val (.int x2), .val (.int x3), .val (.int x4), .val (.int x5), .val (.int ob), .val (.int lb), .val (.int sp), .val (.int ch), .val (.ref bs), .val (.ref b2), .val (.ref b4), .val (.int k1), .val (.int k2), .val (.int md), .val v1, .val v2, .val (.ref b8), .val (.ref b10), .val (.ref b8), .val (.int (1 : Int32))] [(.int (1 : Int32))])) _
      exact retN X19 hx (t := .boolean) Bd.returns (by simp) (hb hby at_258) hr
    · exact ⟨rfl, N19⟩
theorem own_root {Z : State} {a0 : Array Value} {O K : String} {n : Nat} (w : (Jvm.Cond.noSuperclass O).before a0 Z = true) (wk : (Jvm.Cond.instantiable K n).before a0 Z = true) (hn : O ≠ K) : NS Z O K := by
  obtain ⟨c, k, h1, h2, h3, -⟩ := Cond.noSuperclass_spec w
  obtain ⟨t, -, g1, -⟩ := Cond.instantiable_spec wk
  have ne := ids_ne h1 g1 hn
  exact ⟨c, t, h1, g1, fun fuel => by cases fuel <;> simp [Vm.isSubclassAux, ne, h2, h3]⟩
theorem own_no {Z : State} {a0 : Array Value} {C S K : String} {n : Nat} (w : (Jvm.Cond.superclass C S).before a0 Z = true) (wk : (Jvm.Cond.instantiable K n).before a0 Z = true) (ns : NS Z C K) (hn : C ≠ K) : ∃ c t, Z.vm.findClass C = some c ∧ Z.vm.findClass K = some t ∧ Z.vm.assignable c t = false := by
  obtain ⟨c, t, h0, g0, n3⟩ := ns
  obtain ⟨-, k, -, -, h2, -, -, h5, -⟩ := Cond.superclass_spec h0 w
  obtain ⟨t', kt, g1, g2, g3, g4, -⟩ := Cond.instantiable_spec wk
  cases g0.symm.trans g1
  have ne := ids_ne h0 g0 hn
  have g5 : kt.isInterface = false := by simp only [Bool.or_eq_false_iff] at g4; exact g4.1
  exact ⟨c, t, h0, g0, by show Z.vm.assignableAux (255 + 1) c t = false; simp [Vm.assignableAux, ne, h2, g2, h5, g3, g5, Vm.isSubclass, n3]⟩
theorem own_fld {args : Array Value} {s : State} {t : Term} {w : Addr} {C n d : String} {z : Int32} (ev : t.eval args s none [] s = some (.ref w)) (h : (Jvm.Cond.eq (.field t C n d) (.int z)).value args s none s [] = some true) : s.fieldOf? w C n d = some (.int z) := by
  have e := fld_at (C := C) (n := n) (dd := d) ev
  have ez : (Term.int z).eval args s none [] s = some (.int z) := Term.int_eval z
  cases hq : s.fieldOf? w C n d with
  | none => rw [hq] at e; simp [Cond.value, e] at h
  | some v => rw [hq] at e; cases v <;> simp_all [Cond.value]
theorem own_four {k : Int32} (h : 0 ≤ k.toInt) (h' : k.toInt ≤ 3) : k = 0 ∨ k = 1 ∨ k = 2 ∨ k = 3 := by
  have h3 : k.toInt = 0 ∨ k.toInt = 1 ∨ k.toInt = 2 ∨ k.toInt = 3 := by omega
  rcases h3 with h | h | h | h
  · exact Or.inl (Int32.toInt_inj.mp (h.trans (by decide : (0 : Int) = (0 : Int32).toInt)))
  · exact Or.inr (Or.inl (Int32.toInt_inj.mp (h.trans (by decide : (1 : Int) = (1 : Int32).toInt))))
  · exact Or.inr (Or.inr (Or.inl (Int32.toInt_inj.mp (h.trans (by decide : (2 : Int) = (2 : Int32).toInt)))))
  · exact Or.inr (Or.inr (Or.inr (Int32.toInt_inj.mp (h.trans (by decide : (3 : Int) = (3 : Int32).toInt)))))
theorem own_and3 (y : Int32) : y &&& (3 : Int32) = 0 ∨ y &&& (3 : Int32) = 1 ∨ y &&& (3 : Int32) = 2 ∨ y &&& (3 : Int32) = 3 := by
  have h := c_and y (3 : Int32) (by decide)
  rw [show (3 : Int32).toInt = 3 from by decide] at h
  exact own_four h.1 h.2
theorem own_ch (y : Int32) : ¬ (255 : Int32) < (y &&& (255 : Int32)).toUInt32.toUInt16.toUInt32.toInt32 := by
  have h := c_and y (255 : Int32) (by decide)
  have q := c_i2c (y &&& (255 : Int32))
  rw [show (255 : Int32).toInt = 255 from by decide] at h
  rw [Int32.lt_iff_toInt_lt, show (255 : Int32).toInt = 255 from by decide]
  omega
theorem own_sto (wS wO : Addr) (k : Int32) : ∃ v, own_Sto wS wO k v := by
  by_cases h : k = 1
  · exact ⟨_, Or.inl ⟨h, rfl⟩⟩
  · by_cases h' : k = 2
    · exact ⟨_, Or.inr (Or.inl ⟨h, h', rfl⟩)⟩
    · exact ⟨_, Or.inr (Or.inr ⟨h, h', rfl⟩)⟩
set_option maxRecDepth 65536 in
set_option maxHeartbeats 40000000 in
theorem comes_1 {Post : Tables → Env → Array Value → State → Outcome → State → Prop} (hpost : ∀ tb e args s v u, (limb_1_1.after args s (.returned v) u = true ∧ limb_1_2.after args s (.returned v) u = true ∧ True) → ReturnedEndW s (.returned v) u (Jvm.fieldLocs frame_1_writes args s ++ Jvm.arrayLocs frame_1_arrays args s ++ Jvm.staticLocs frame_1_statics s) 32 2240 → Post tb e args s (.returned v) u) :
    ArmFor flags0 classFile x code maxLocals ret World_1 tables_1 room_1 Calls_1 rest_1 Pre_1 Post := by
  intro l hfl _ _ p e ha hc hk s m args below hf hA hF happ hP
  obtain ⟨hcalls, hrest, hpre⟩ := hP
  obtain ⟨-, -, -, hnamed, -, -, -, hat⟩ := (Spec.applies_iff hf).mp happ
  obtain ⟨hg, hn⟩ := and_e (Cond.before_iff.mp (show (Jvm.Cond.and given_1 narrow_1).before args s = true from hpre))
  obtain ⟨g1, hg⟩ := and_e hg
  obtain ⟨j0, hg⟩ := and_e hg
  obtain ⟨j1, hg⟩ := and_e hg
  obtain ⟨j2, hg⟩ := and_e hg
  obtain ⟨j3, hg⟩ := and_e hg
  obtain ⟨j4, j5⟩ := and_e hg
  obtain ⟨w0, w1, w2, w3, w4, w5, rfl⟩ : ∃ w0 w1 w2 w3 w4 w5 : Value, args = #[w0, w1, w2, w3, w4, w5] := by
    have hs : args.size = 6 := by simpa [Cond.value, given_1] using g1
    obtain ⟨L⟩ := args
    match L, hs with
    | [w0, w1, w2, w3, w4, w5], _ => exact ⟨w0, w1, w2, w3, w4, w5, rfl⟩
  have hw := fun d (hd : d ∈ tables_1) => atoms_spec (ws := Jvm.Cond.code x code maxLocals ret :: tables_1) hat d (List.mem_cons_of_mem _ hd)
  obtain ⟨hsets, hown0⟩ := atoms_of _ (rest_1_c_eq ▸ (show rest_1_c.before _ s = true from hrest))
  obtain ⟨i0, ei0⟩ := is_v j0
  obtain rfl : w0 = (.int i0) := Option.some.inj ei0
  obtain ⟨i1, ei1⟩ := is_v j1
  obtain rfl : w1 = (.int i1) := Option.some.inj ei1
  obtain ⟨i2, ei2⟩ := is_v j2
  obtain rfl : w2 = (.int i2) := Option.some.inj ei2
  obtain ⟨i3, ei3⟩ := is_v j3
  obtain rfl : w3 = (.int i3) := Option.some.inj ei3
  obtain ⟨i4, ei4⟩ := is_v j4
  obtain rfl : w4 = (.int i4) := Option.some.inj ei4
  obtain ⟨i5, ei5⟩ := is_v j5
  obtain rfl : w5 = (.int i5) := Option.some.inj ei5
  obtain ⟨c0, hn⟩ := and_e hn
  obtain ⟨w_ORDINAL, v_ORDINAL⟩ := exa_v c0
  have E_ORDINAL := Exa.start v_ORDINAL c0
  have S_ORDINAL := Sta.start v_ORDINAL (Or.inr ⟨(hw _ (List.mem_of_getElem? (i := 88) rfl)), (hw _ (List.mem_of_getElem? (i := 89) rfl))⟩)
  obtain ⟨c1, hn⟩ := and_e hn
  obtain ⟨w_STRING, v_STRING⟩ := exa_v c1
  have E_STRING := Exa.start v_STRING c1
  have S_STRING := Sta.start v_STRING (Or.inr ⟨(hw _ (List.mem_of_getElem? (i := 88) rfl)), (hw _ (List.mem_of_getElem? (i := 92) rfl))⟩)
  obtain ⟨c2, hn⟩ := and_e hn
  have O_ORDINAL := own_fld v_ORDINAL c2
  have O_STRING := own_fld v_STRING hn
  have n5 := not_v (Cond.before_iff.mp (hsets _ (List.mem_of_getElem? (i := 2) rfl)))
  obtain ⟨zc, ec⟩ := is_v (Cond.before_iff.mp (hsets _ (List.mem_of_getElem? (i := 1) rfl)))
  have SC := Sta.start ec (Or.inl (hsets _ (List.mem_of_getElem? (i := 0) rfl)))
  have hz : ¬ (zc = (0 : Int32)) := gotF (Cond.eq_ints ec (Term.int_eval (0))) n5
  have ne : w_STRING ≠ w_ORDINAL := fun q => by rw [q, O_ORDINAL] at O_STRING; exact absurd O_STRING (by decide)
  have NA := own_no (hw _ (List.mem_of_getElem? (i := 93) rfl)) (hw _ (List.mem_of_getElem? (i := 52) rfl)) (NS.step (hw _ (List.mem_of_getElem? (i := 93) rfl)) (own_root (hw _ (List.mem_of_getElem? (i := 94) rfl)) (hw _ (List.mem_of_getElem? (i := 52) rfl)) (by decide)) (by decide)) (by decide)
  obtain ⟨ob, H1⟩ : ∃ b : Int32, ((¬ (i5 &&& (1 : Int32)) = 0 ∧ b = 1) ∨ ((i5 &&& (1 : Int32)) = 0 ∧ b = 0)) := if q : (i5 &&& (1 : Int32)) = 0 then ⟨0, Or.inr ⟨q, rfl⟩⟩ else ⟨1, Or.inl ⟨q, rfl⟩⟩
  obtain ⟨lb, H2⟩ : ∃ b : Int32, ((¬ (i5 &&& (2 : Int32)) = 0 ∧ b = 1) ∨ ((i5 &&& (2 : Int32)) = 0 ∧ b = 0)) := if q : (i5 &&& (2 : Int32)) = 0 then ⟨0, Or.inr ⟨q, rfl⟩⟩ else ⟨1, Or.inl ⟨q, rfl⟩⟩
  obtain ⟨sp, H3⟩ : ∃ b : Int32, ((¬ (i5 &&& (4 : Int32)) = 0 ∧ b = 1) ∨ ((i5 &&& (4 : Int32)) = 0 ∧ b = 0)) := if q : (i5 &&& (4 : Int32)) = 0 then ⟨0, Or.inr ⟨q, rfl⟩⟩ else ⟨1, Or.inl ⟨q, rfl⟩⟩
  obtain ⟨v1, QS1⟩ := own_sto w_STRING w_ORDINAL (i4 &&& (3 : Int32))
  obtain ⟨v2, QS2⟩ := own_sto w_STRING w_ORDINAL (((i4.toUInt32 >>> ((2 : Int32) &&& 31).toUInt32).toInt32) &&& (3 : Int32))
  obtain ⟨n, o, h1, h2, h3, _, L, rfl, ⟨rfl, N⟩, hq⟩ := rm0 l s _ hw tables_1 i0 i1 i2 i3 i4 i5 ob lb sp _ _ _ _ zc w_STRING w_ORDINAL v1 v2 s.heap s.heap.size (Nat.le_refl _) H1 H2 H3 rfl (own_ch _) rfl rfl rfl (own_and3 _) (own_and3 _) (own_and3 _) SC hz S_STRING S_ORDINAL E_STRING E_ORDINAL ne QS1 QS2 NA p e ha hc hk s m _ below hf ((Spec.applies_iff_loose hf).mp happ).1 ⟨rfl, State.Warmed39.refl s, rfl⟩ trivial
  refine ⟨n, _, h1, h2, h3, hpost _ _ _ _ _ _ ⟨Cond.after_iff.mpr rfl, Cond.after_iff.mpr (eq_i res_at (Term.int_eval (1)) rfl), trivial⟩ ⟨hq.1, hq.2.1, hq.2.2.1, (hq.2.2.2.sift fun y hy => Or.inr (N y hy)).mono (by decide) (by decide)⟩⟩
theorem main_1_1 : Claimed_1_1 := comes_1 fun _ _ _ _ _ _ h hF => ⟨h.1, hF⟩
theorem main_1_2 : Claimed_1_2 := comes_1 fun _ _ _ _ _ _ h hF => ⟨h.2.1, hF⟩
end Jvm.Pilot.@@N@@
namespace Jvm.Pilot.@@N@@
open Jvm Jvm.ClassFile Sem Op Lib Jvm.Free Jvm.Stand Jvm.Pilot.@@N@@.Jvm.D
/-! MADE BY PROGRAM (witnessworld.py) out of the Statement's table words and the real class files: 24 classes; the members and pool entries that the words name. The judged class is class 1, her method 3. -/
namespace start1
open Jvm.ClassFile
def u (s : String) : CpInfo := .utf8 (stringToUtf16 s)
/-- a pool by its gaps: so many unusable entries, then the entry; so many at the end -/
def gap : Nat → List CpInfo → List CpInfo
  | 0, r => r
  | n + 1, r => .unusable :: gap n r
def poolList (es : List (Nat × CpInfo)) (last : Nat) : List CpInfo := es.foldr (fun e r => gap e.1 (e.2 :: r)) (gap last [])
def pool (es : List (Nat × CpInfo)) (last : Nat) : Array CpInfo := ⟨poolList es last⟩
def fileOf (pool : Array CpInfo) (this : Nat) (attrs : Array Attribute := #[]) (ms : Array MethodInfo := #[]) (fl : Nat := 33) (sup : Nat := 0) (ifs : Array Nat := #[]) (fds : Array FieldInfo := #[]) : ClassFile where
  minorVersion := 0
  majorVersion := 65
  constantPool := pool
  accessFlags := fl
  thisClass := this
  superClass := sup
  interfaces := ifs
  fields := fds
  methods := ms
  attributes := attrs
def plain (name : String) (sup : Option ClassId) : Class where
  name := name
  kind := .ordinary
  loader := none
  accessFlags := 33
  super := sup
  interfaces := #[]
  cf := none
  fields := #[]
  methods := #[]
  instanceTypes := #[]
  staticTypes := #[]
  resolved := #[]
  callSites := []
  init := .initialized
  statics := none
  mirror := none

def pool0 : Array CpInfo := pool [(5, u "<init>"), (0, u "()V"), (1, .class_ 10), (1, u "java/lang/Object")] 113

def k0c0 : Code := { maxStack := 0, maxLocals := 1, code := object_method_1_code, exceptionTable := #[], attributes := #[] }
def k0m0 : Method := { name := "<init>", desc := "()V", sig := { parameters := [], returnType := none }, accessFlags := 1, code := some k0c0 }
/-- java/lang/Object -/
def k0 : Class := { plain "java/lang/Object" none with
  accessFlags := 33
  interfaces := #[]
  cf := some (fileOf pool0 8 #[] #[{ accessFlags := 1, nameIndex := 5, descriptorIndex := 6, attributes := #[] }] 33 0 #[] #[])
  fields := #[]
  methods := #[k0m0]
  instanceTypes := #[]
  staticTypes := #[]
  resolved := Array.replicate 124 none
  statics := none }

def pool1 : Array CpInfo := pool [(2, .class_ 4), (1, u "java/lang/Object"), (0, u "<init>"), (0, u "()V"), (0, .fieldref 8 9), (0, .class_ 10), (0, .nameAndType 11 12), (0, u "com/example/burdock/burdock/model/EnumStorage"), (0, u "STRING"), (0, u "Lcom/example/burdock/burdock/model/EnumStorage;"), (0, .fieldref 8 14), (0, .nameAndType 15 12), (0, u "ORDINAL"), (0, .methodref 17 18), (0, .class_ 19), (0, .nameAndType 20 21), (0, u "java/lang/String"), (0, u "valueOf"), (0, u "(C)Ljava/lang/String;"), (0, .class_ 23), (0, u "com/example/burdock/burdock/query/Parameter"), (0, .methodref 22 25), (0, .nameAndType 5 26), (0, u "(Ljava/lang/String;ZZ)V"), (0, .methodref 28 29), (0, .class_ 30), (0, .nameAndType 31 32), (0, u "com/example/burdock/burdock/query/ParameterReferenceSameAsPinLaw"), (0, u "storage"), (0, u "(I)Lcom/example/burdock/burdock/model/EnumStorage;"), (0, .class_ 34), (0, u "com/example/burdock/burdock/query/ParameterReference"), (0, .methodref 33 36), (0, .nameAndType 5 37), (0, u "(Lcom/example/burdock/burdock/query/Parameter;IILcom/example/burdock/burdock/model/EnumStorage;)V"), (0, .methodref 28 39), (0, .nameAndType 40 41), (0, u "norm"), (0, u "(I)I"), (0, .methodref 33 43), (0, .nameAndType 44 45), (0, u "sameAs"), (0, u "(Ljava/lang/Object;)Z"), (3, u "law"), (0, u "(IIIIII)Z")] 2

def k1m0 : Method := { name := "<init>", desc := "()V", sig := { parameters := [], returnType := none }, accessFlags := 1, code := none }
def k1c1 : Code := { maxStack := 2, maxLocals := 1, code := method_2_code, exceptionTable := #[], attributes := #[] }
def k1m1 : Method := { name := "storage", desc := "(I)Lcom/example/burdock/burdock/model/EnumStorage;", sig := { parameters := [.int], returnType := some (.object "com/example/burdock/burdock/model/EnumStorage") }, accessFlags := 10, code := some k1c1 }
def k1c2 : Code := { maxStack := 2, maxLocals := 1, code := method_3_code, exceptionTable := #[], attributes := #[] }
def k1m2 : Method := { name := "norm", desc := "(I)I", sig := { parameters := [.int], returnType := some .int }, accessFlags := 10, code := some k1c2 }
def k1c3 : Code := { maxStack := 6, maxLocals := 22, code := code, exceptionTable := #[], attributes := #[] }
def k1m3 : Method := { name := "law", desc := "(IIIIII)Z", sig := { parameters := [.int, .int, .int, .int, .int, .int], returnType := some .boolean }, accessFlags := 9, code := some k1c3 }
/-- com/example/burdock/burdock/query/ParameterReferenceSameAsPinLaw -/
def k1 : Class := { plain "com/example/burdock/burdock/query/ParameterReferenceSameAsPinLaw" (some 0) with
  accessFlags := 49
  interfaces := #[]
  cf := some (fileOf pool1 28 #[] #[{ accessFlags := 1, nameIndex := 5, descriptorIndex := 6, attributes := #[] }, { accessFlags := 10, nameIndex := 31, descriptorIndex := 32, attributes := #[] }, { accessFlags := 10, nameIndex := 40, descriptorIndex := 41, attributes := #[] }, { accessFlags := 9, nameIndex := 49, descriptorIndex := 50, attributes := #[] }] 49 2 #[] #[])
  fields := #[]
  methods := #[k1m0, k1m1, k1m2, k1m3]
  instanceTypes := #[]
  staticTypes := #[]
  resolved := Array.replicate 53 none
  statics := none }

def pool2 : Array CpInfo := pool [(1, .class_ 2), (0, u "java/io/Serializable"), (0, .class_ 4), (0, u "java/lang/Object")] 2

/-- java/io/Serializable -/
def k2 : Class := { plain "java/io/Serializable" (some 0) with
  accessFlags := 1537
  interfaces := #[]
  cf := some (fileOf pool2 1 #[] #[] 1537 3 #[] #[])
  fields := #[]
  methods := #[]
  instanceTypes := #[]
  staticTypes := #[]
  resolved := Array.replicate 7 none
  statics := none }

def pool3 : Array CpInfo := pool [(1, .class_ 2), (0, u "java/lang/Comparable"), (0, .class_ 4), (0, u "java/lang/Object")] 7

/-- java/lang/Comparable -/
def k3 : Class := { plain "java/lang/Comparable" (some 0) with
  accessFlags := 1537
  interfaces := #[]
  cf := some (fileOf pool3 1 #[] #[] 1537 3 #[] #[])
  fields := #[]
  methods := #[]
  instanceTypes := #[]
  staticTypes := #[]
  resolved := Array.replicate 12 none
  statics := none }

def pool4 : Array CpInfo := pool [(2, .class_ 4), (1, u "java/lang/CharSequence"), (42, .class_ 48), (0, u "java/lang/CharSequence$1CodePointIterator"), (10, .class_ 60), (0, u "java/lang/CharSequence$1CharIterator"), (5, .class_ 67), (0, u "java/lang/Object")] 63

/-- java/lang/CharSequence -/
def k4 : Class := { plain "java/lang/CharSequence" (some 0) with
  accessFlags := 1537
  interfaces := #[]
  cf := some (fileOf pool4 2 #[.nestMembers #[47, 59]] #[] 1537 66 #[] #[])
  fields := #[]
  methods := #[]
  instanceTypes := #[]
  staticTypes := #[]
  resolved := Array.replicate 131 none
  statics := none }

def pool5 : Array CpInfo := pool [(1, .class_ 2), (0, u "java/lang/constant/Constable"), (0, .class_ 4), (0, u "java/lang/Object")] 6

/-- java/lang/constant/Constable -/
def k5 : Class := { plain "java/lang/constant/Constable" (some 0) with
  accessFlags := 1537
  interfaces := #[]
  cf := some (fileOf pool5 1 #[] #[] 1537 3 #[] #[])
  fields := #[]
  methods := #[]
  instanceTypes := #[]
  staticTypes := #[]
  resolved := Array.replicate 11 none
  statics := none }

def pool6 : Array CpInfo := pool [(1, .class_ 2), (0, u "java/lang/constant/ConstantDesc"), (0, .class_ 4), (0, u "java/lang/Object")] 32

/-- java/lang/constant/ConstantDesc -/
def k6 : Class := { plain "java/lang/constant/ConstantDesc" (some 0) with
  accessFlags := 1537
  interfaces := #[]
  cf := some (fileOf pool6 1 #[] #[] 1537 3 #[] #[])
  fields := #[]
  methods := #[]
  instanceTypes := #[]
  staticTypes := #[]
  resolved := Array.replicate 37 none
  statics := none }

def pool7 : Array CpInfo := pool [(1, .methodref 2 3), (0, .class_ 4), (0, .nameAndType 5 6), (0, u "java/lang/Object"), (0, u "<init>"), (0, u "()V"), (2, .fieldref 10 11), (0, .class_ 12), (0, .nameAndType 13 14), (0, u "java/lang/String"), (0, u "value"), (0, u "[B"), (0, .fieldref 10 16), (0, .nameAndType 17 18), (0, u "coder"), (0, u "B"), (2, u "hash"), (0, u "I"), (2, u "hashIsZero"), (0, u "Z"), (11, .fieldref 10 39), (0, .nameAndType 40 26), (0, u "COMPACT_STRINGS"), (12, u "toBytes"), (53, .class_ 109), (1, u "java/lang/StringLatin1"), (99, .methodref 10 210), (0, .nameAndType 5 211), (0, u "([BB)V"), (157, u "(C)Z"), (205, .class_ 576), (0, u "java/lang/CharSequence"), (22, u "CASE_INSENSITIVE_ORDER"), (0, u "Ljava/util/Comparator;"), (181, u "valueOf"), (0, u "(C)Ljava/lang/String;"), (231, .methodref 107 1016), (0, .nameAndType 1017 369), (0, u "canEncode"), (0, .methodref 107 1019), (0, .nameAndType 53 1020), (0, u "(C)[B"), (80, u "serialPersistentFields"), (0, u "[Ljava/io/ObjectStreamField;"), (0, .class_ 1104), (0, u "java/lang/String$CaseInsensitiveComparator"), (1, .class_ 1107), (0, u "java/io/Serializable"), (0, .class_ 1109), (0, u "java/lang/Comparable"), (0, .class_ 1111), (0, u "java/lang/constant/Constable"), (0, .class_ 1113), (0, u "java/lang/constant/ConstantDesc"), (2, u "serialVersionUID"), (0, u "J"), (3, u "REPL"), (0, u "C"), (2, u "LATIN1"), (1, u "UTF16")] 323

def k7m0 : Method := { name := "<init>", desc := "()V", sig := { parameters := [], returnType := none }, accessFlags := 1, code := none }
def k7c1 : Code := { maxStack := 4, maxLocals := 1, code := jdk_42_method_139_code, exceptionTable := #[], attributes := #[] }
def k7m1 : Method := { name := "valueOf", desc := "(C)Ljava/lang/String;", sig := { parameters := [.char], returnType := some (.object "java/lang/String") }, accessFlags := 9, code := some k7c1 }
def k7c2 : Code := { maxStack := 2, maxLocals := 3, code := jdk_42_method_151_code, exceptionTable := #[], attributes := #[] }
def k7m2 : Method := { name := "<init>", desc := "([BB)V", sig := { parameters := [(.array .byte), .byte], returnType := none }, accessFlags := 0, code := some k7c2 }
/-- java/lang/String -/
def k7 : Class := { plain "java/lang/String" (some 0) with
  accessFlags := 49
  interfaces := #[2, 3, 4, 5, 6]
  cf := some (fileOf pool7 10 #[.nestMembers #[1103]] #[{ accessFlags := 1, nameIndex := 5, descriptorIndex := 6, attributes := #[] }, { accessFlags := 9, nameIndex := 782, descriptorIndex := 783, attributes := #[] }, { accessFlags := 0, nameIndex := 5, descriptorIndex := 211, attributes := #[] }] 49 2 #[1106, 1108, 575, 1110, 1112] #[{ accessFlags := 18, nameIndex := 13, descriptorIndex := 14, attributes := #[] }, { accessFlags := 18, nameIndex := 17, descriptorIndex := 18, attributes := #[] }, { accessFlags := 2, nameIndex := 21, descriptorIndex := 22, attributes := #[] }, { accessFlags := 2, nameIndex := 25, descriptorIndex := 26, attributes := #[] }, { accessFlags := 26, nameIndex := 1116, descriptorIndex := 1117, attributes := #[] }, { accessFlags := 24, nameIndex := 40, descriptorIndex := 26, attributes := #[] }, { accessFlags := 26, nameIndex := 1101, descriptorIndex := 1102, attributes := #[] }, { accessFlags := 26, nameIndex := 1121, descriptorIndex := 1122, attributes := #[] }, { accessFlags := 25, nameIndex := 599, descriptorIndex := 600, attributes := #[] }, { accessFlags := 24, nameIndex := 1125, descriptorIndex := 18, attributes := #[] }, { accessFlags := 24, nameIndex := 1127, descriptorIndex := 18, attributes := #[] }])
  fields := #[{ name := "value", type := (.array .byte), accessFlags := 18, slot := 0, constantValue := 0 }, { name := "coder", type := .byte, accessFlags := 18, slot := 1, constantValue := 0 }, { name := "hash", type := .int, accessFlags := 2, slot := 2, constantValue := 0 }, { name := "hashIsZero", type := .boolean, accessFlags := 2, slot := 3, constantValue := 0 }, { name := "serialVersionUID", type := .long, accessFlags := 26, slot := 0, constantValue := 0 }, { name := "COMPACT_STRINGS", type := .boolean, accessFlags := 24, slot := 1, constantValue := 0 }, { name := "serialPersistentFields", type := (.array (.object "java/io/ObjectStreamField")), accessFlags := 26, slot := 2, constantValue := 0 }, { name := "REPL", type := .char, accessFlags := 26, slot := 3, constantValue := 0 }, { name := "CASE_INSENSITIVE_ORDER", type := (.object "java/util/Comparator"), accessFlags := 25, slot := 4, constantValue := 0 }, { name := "LATIN1", type := .byte, accessFlags := 24, slot := 5, constantValue := 0 }, { name := "UTF16", type := .byte, accessFlags := 24, slot := 6, constantValue := 0 }]
  methods := #[k7m0, k7m1, k7m2]
  instanceTypes := #[(.array .byte), .byte, .int, .boolean]
  staticTypes := #[.long, .boolean, (.array (.object "java/io/ObjectStreamField")), .char, (.object "java/util/Comparator"), .byte, .byte]
  resolved := Array.replicate 1451 none
  statics := some 0 }

def pool8 : Array CpInfo := pool [(4, .class_ 6), (1, u "java/lang/Object"), (0, u "<init>"), (0, u "()V"), (5, .class_ 16), (1, u "java/lang/StringLatin1"), (73, u "canEncode"), (14, u "(C)Z"), (15, u "$assertionsDisabled"), (0, u "Z"), (98, .class_ 223), (1, u "java/lang/StringLatin1$LinesSpliterator"), (156, u "toBytes"), (1, u "(C)[B"), (7, .class_ 391), (0, u "java/lang/StringLatin1$CharsSpliterator")] 3

def k8m0 : Method := { name := "<init>", desc := "()V", sig := { parameters := [], returnType := none }, accessFlags := 0, code := none }
def k8c1 : Code := { maxStack := 2, maxLocals := 1, code := jdk_43_method_3_code, exceptionTable := #[], attributes := #[] }
def k8m1 : Method := { name := "canEncode", desc := "(C)Z", sig := { parameters := [.char], returnType := some .boolean }, accessFlags := 9, code := some k8c1 }
def k8c2 : Code := { maxStack := 4, maxLocals := 1, code := jdk_43_method_46_code, exceptionTable := #[], attributes := #[] }
def k8m2 : Method := { name := "toBytes", desc := "(C)[B", sig := { parameters := [.char], returnType := some (.array .byte) }, accessFlags := 9, code := some k8c2 }
/-- java/lang/StringLatin1 -/
def k8 : Class := { plain "java/lang/StringLatin1" (some 0) with
  accessFlags := 48
  interfaces := #[]
  cf := some (fileOf pool8 14 #[.nestMembers #[390, 221]] #[{ accessFlags := 0, nameIndex := 7, descriptorIndex := 8, attributes := #[] }, { accessFlags := 9, nameIndex := 90, descriptorIndex := 105, attributes := #[] }, { accessFlags := 9, nameIndex := 380, descriptorIndex := 382, attributes := #[] }] 48 4 #[] #[{ accessFlags := 4120, nameIndex := 121, descriptorIndex := 122, attributes := #[] }])
  fields := #[{ name := "$assertionsDisabled", type := .boolean, accessFlags := 4120, slot := 0, constantValue := 0 }]
  methods := #[k8m0, k8m1, k8m2]
  instanceTypes := #[]
  staticTypes := #[.boolean]
  resolved := Array.replicate 395 none
  statics := none }

def pool9 : Array CpInfo := pool [(1, .methodref 2 3), (0, .class_ 4), (0, .nameAndType 5 6), (0, u "java/lang/Object"), (0, u "<init>"), (0, u "()V"), (0, .string 8), (0, u "name"), (0, .methodref 10 11), (0, .class_ 12), (0, .nameAndType 13 14), (0, u "java/util/Objects"), (0, u "requireNonNull"), (0, u "(Ljava/lang/Object;Ljava/lang/String;)Ljava/lang/Object;"), (0, .class_ 16), (0, u "java/lang/String"), (0, .fieldref 18 19), (0, .class_ 20), (0, .nameAndType 8 21), (0, u "com/example/burdock/burdock/query/Parameter"), (0, u "Ljava/lang/String;"), (0, .fieldref 18 23), (0, .nameAndType 24 25), (0, u "ordinal"), (0, u "Z"), (0, .fieldref 18 27), (0, .nameAndType 28 25), (0, u "list"), (2, u "type"), (0, u "Lcom/example/burdock/burdock/model/Type;"), (11, u "(Ljava/lang/String;ZZ)V")] 30

def k9c0 : Code := { maxStack := 3, maxLocals := 4, code := prog_108_method_1_code, exceptionTable := #[], attributes := #[] }
def k9m0 : Method := { name := "<init>", desc := "(Ljava/lang/String;ZZ)V", sig := { parameters := [(.object "java/lang/String"), .boolean, .boolean], returnType := none }, accessFlags := 0, code := some k9c0 }
/-- com/example/burdock/burdock/query/Parameter -/
def k9 : Class := { plain "com/example/burdock/burdock/query/Parameter" (some 0) with
  accessFlags := 33
  interfaces := #[]
  cf := some (fileOf pool9 18 #[] #[{ accessFlags := 0, nameIndex := 5, descriptorIndex := 44, attributes := #[] }] 33 2 #[] #[{ accessFlags := 18, nameIndex := 8, descriptorIndex := 21, attributes := #[] }, { accessFlags := 18, nameIndex := 24, descriptorIndex := 25, attributes := #[] }, { accessFlags := 18, nameIndex := 28, descriptorIndex := 25, attributes := #[] }, { accessFlags := 2, nameIndex := 31, descriptorIndex := 32, attributes := #[] }])
  fields := #[{ name := "name", type := (.object "java/lang/String"), accessFlags := 18, slot := 0, constantValue := 0 }, { name := "ordinal", type := .boolean, accessFlags := 18, slot := 1, constantValue := 0 }, { name := "list", type := .boolean, accessFlags := 18, slot := 2, constantValue := 0 }, { name := "type", type := (.object "com/example/burdock/burdock/model/Type"), accessFlags := 2, slot := 3, constantValue := 0 }]
  methods := #[k9m0]
  instanceTypes := #[(.object "java/lang/String"), .boolean, .boolean, (.object "com/example/burdock/burdock/model/Type")]
  staticTypes := #[]
  resolved := Array.replicate 75 none
  statics := none }

def pool10 : Array CpInfo := pool [(2, .class_ 4), (1, u "java/lang/Object"), (0, u "<init>"), (0, u "()V"), (35, .class_ 44), (1, u "java/util/Objects"), (0, u "requireNonNull"), (48, u "(Ljava/lang/Object;Ljava/lang/String;)Ljava/lang/Object;")] 89

def k10m0 : Method := { name := "<init>", desc := "()V", sig := { parameters := [], returnType := none }, accessFlags := 2, code := none }
def k10c1 : Code := { maxStack := 3, maxLocals := 2, code := jdk_31_method_11_code, exceptionTable := #[], attributes := #[] }
def k10m1 : Method := { name := "requireNonNull", desc := "(Ljava/lang/Object;Ljava/lang/String;)Ljava/lang/Object;", sig := { parameters := [(.object "java/lang/Object"), (.object "java/lang/String")], returnType := some (.object "java/lang/Object") }, accessFlags := 9, code := some k10c1 }
/-- java/util/Objects -/
def k10 : Class := { plain "java/util/Objects" (some 0) with
  accessFlags := 49
  interfaces := #[]
  cf := some (fileOf pool10 42 #[] #[{ accessFlags := 2, nameIndex := 5, descriptorIndex := 6, attributes := #[] }, { accessFlags := 9, nameIndex := 45, descriptorIndex := 94, attributes := #[] }] 49 2 #[] #[])
  fields := #[]
  methods := #[k10m0, k10m1]
  instanceTypes := #[]
  staticTypes := #[]
  resolved := Array.replicate 184 none
  statics := none }

def pool11 : Array CpInfo := pool [(1, .methodref 2 3), (0, .class_ 4), (0, .nameAndType 5 6), (0, u "java/lang/Object"), (0, u "<init>"), (0, u "()V"), (0, .fieldref 8 9), (0, .class_ 10), (0, .nameAndType 11 12), (0, u "com/example/burdock/burdock/query/StructuralExpression"), (0, u "parts"), (0, u "[Ljava/lang/Object;"), (93, u "hash"), (0, u "I"), (2, u "hashIsZero"), (0, u "Z"), (9, u "([Ljava/lang/Object;)V")] 11

def k11c0 : Code := { maxStack := 2, maxLocals := 2, code := prog_131_method_1_code, exceptionTable := #[], attributes := #[] }
def k11m0 : Method := { name := "<init>", desc := "([Ljava/lang/Object;)V", sig := { parameters := [(.array (.object "java/lang/Object"))], returnType := none }, accessFlags := 128, code := some k11c0 }
/-- com/example/burdock/burdock/query/StructuralExpression -/
def k11 : Class := { plain "com/example/burdock/burdock/query/StructuralExpression" (some 0) with
  accessFlags := 1056
  interfaces := #[]
  cf := some (fileOf pool11 8 #[] #[{ accessFlags := 128, nameIndex := 5, descriptorIndex := 121, attributes := #[] }] 1056 2 #[] #[{ accessFlags := 18, nameIndex := 11, descriptorIndex := 12, attributes := #[] }, { accessFlags := 2, nameIndex := 106, descriptorIndex := 107, attributes := #[] }, { accessFlags := 2, nameIndex := 110, descriptorIndex := 111, attributes := #[] }])
  fields := #[{ name := "parts", type := (.array (.object "java/lang/Object")), accessFlags := 18, slot := 0, constantValue := 0 }, { name := "hash", type := .int, accessFlags := 2, slot := 1, constantValue := 0 }, { name := "hashIsZero", type := .boolean, accessFlags := 2, slot := 2, constantValue := 0 }]
  methods := #[k11m0]
  instanceTypes := #[(.array (.object "java/lang/Object")), .int, .boolean]
  staticTypes := #[]
  resolved := Array.replicate 133 none
  statics := none }

def pool12 : Array CpInfo := pool [(1, .class_ 2), (0, u "com/example/burdock/burdock/query/Expression"), (0, .class_ 4), (0, u "java/lang/Object")] 63

/-- com/example/burdock/burdock/query/Expression -/
def k12 : Class := { plain "com/example/burdock/burdock/query/Expression" (some 0) with
  accessFlags := 1537
  interfaces := #[]
  cf := some (fileOf pool12 1 #[] #[] 1537 3 #[] #[])
  fields := #[]
  methods := #[]
  instanceTypes := #[]
  staticTypes := #[]
  resolved := Array.replicate 68 none
  statics := none }

def pool13 : Array CpInfo := pool [(1, .class_ 2), (0, u "java/lang/Object"), (0, .methodref 4 5), (0, .class_ 6), (0, .nameAndType 7 8), (0, u "com/example/burdock/burdock/query/StructuralExpression"), (0, u "<init>"), (0, u "([Ljava/lang/Object;)V"), (0, .string 10), (0, u "parameter"), (0, .methodref 12 13), (0, .class_ 14), (0, .nameAndType 15 16), (0, u "java/util/Objects"), (0, u "requireNonNull"), (0, u "(Ljava/lang/Object;Ljava/lang/String;)Ljava/lang/Object;"), (0, .class_ 18), (0, u "com/example/burdock/burdock/query/Parameter"), (0, .fieldref 20 21), (0, .class_ 22), (0, .nameAndType 10 23), (0, u "com/example/burdock/burdock/query/ParameterReference"), (0, u "Lcom/example/burdock/burdock/query/Parameter;"), (0, .fieldref 20 25), (0, .nameAndType 26 27), (0, u "line"), (0, u "I"), (0, .fieldref 20 29), (0, .nameAndType 30 27), (0, u "column"), (0, .fieldref 20 32), (0, .nameAndType 33 34), (0, u "enumStorage"), (0, u "Lcom/example/burdock/burdock/model/EnumStorage;"), (10, .class_ 46), (0, u "com/example/burdock/burdock/query/Expression"), (0, u "(Lcom/example/burdock/burdock/query/Parameter;IILcom/example/burdock/burdock/model/EnumStorage;)V"), (12, u "sameAs"), (0, u "(Ljava/lang/Object;)Z")] 3

def k13c0 : Code := { maxStack := 5, maxLocals := 5, code := prog_109_method_1_code, exceptionTable := #[], attributes := #[] }
def k13m0 : Method := { name := "<init>", desc := "(Lcom/example/burdock/burdock/query/Parameter;IILcom/example/burdock/burdock/model/EnumStorage;)V", sig := { parameters := [(.object "com/example/burdock/burdock/query/Parameter"), .int, .int, (.object "com/example/burdock/burdock/model/EnumStorage")], returnType := none }, accessFlags := 1, code := some k13c0 }
def k13c1 : Code := { maxStack := 2, maxLocals := 3, code := prog_109_method_8_code, exceptionTable := #[], attributes := #[] }
def k13m1 : Method := { name := "sameAs", desc := "(Ljava/lang/Object;)Z", sig := { parameters := [(.object "java/lang/Object")], returnType := some .boolean }, accessFlags := 0, code := some k13c1 }
/-- com/example/burdock/burdock/query/ParameterReference -/
def k13 : Class := { plain "com/example/burdock/burdock/query/ParameterReference" (some 11) with
  accessFlags := 49
  interfaces := #[12]
  cf := some (fileOf pool13 20 #[] #[{ accessFlags := 1, nameIndex := 7, descriptorIndex := 47, attributes := #[] }, { accessFlags := 0, nameIndex := 60, descriptorIndex := 61, attributes := #[] }] 49 4 #[45] #[{ accessFlags := 18, nameIndex := 10, descriptorIndex := 23, attributes := #[] }, { accessFlags := 18, nameIndex := 26, descriptorIndex := 27, attributes := #[] }, { accessFlags := 18, nameIndex := 30, descriptorIndex := 27, attributes := #[] }, { accessFlags := 18, nameIndex := 33, descriptorIndex := 34, attributes := #[] }])
  fields := #[{ name := "parameter", type := (.object "com/example/burdock/burdock/query/Parameter"), accessFlags := 18, slot := 3, constantValue := 0 }, { name := "line", type := .int, accessFlags := 18, slot := 4, constantValue := 0 }, { name := "column", type := .int, accessFlags := 18, slot := 5, constantValue := 0 }, { name := "enumStorage", type := (.object "com/example/burdock/burdock/model/EnumStorage"), accessFlags := 18, slot := 6, constantValue := 0 }]
  methods := #[k13m0, k13m1]
  instanceTypes := #[(.array (.object "java/lang/Object")), .int, .boolean, (.object "com/example/burdock/burdock/query/Parameter"), .int, .int, (.object "com/example/burdock/burdock/model/EnumStorage")]
  staticTypes := #[]
  resolved := Array.replicate 65 none
  statics := none }

def pool14 : Array CpInfo := pool [(2, .class_ 4), (1, u "java/lang/Enum"), (0, u "name"), (0, u "Ljava/lang/String;"), (2, u "ordinal"), (0, u "I"), (1, .class_ 14), (1, u "java/lang/Object"), (4, u "hash"), (86, .class_ 108), (1, u "java/lang/Enum$EnumDesc"), (2, .class_ 112), (0, u "java/lang/constant/Constable"), (0, .class_ 114), (0, u "java/lang/Comparable"), (0, .class_ 116), (0, u "java/io/Serializable")] 87

/-- java/lang/Enum -/
def k14 : Class := { plain "java/lang/Enum" (some 0) with
  accessFlags := 1057
  interfaces := #[5, 3, 2]
  cf := some (fileOf pool14 2 #[.nestMembers #[106]] #[] 1057 12 #[111, 113, 115] #[{ accessFlags := 18, nameIndex := 5, descriptorIndex := 6, attributes := #[] }, { accessFlags := 18, nameIndex := 9, descriptorIndex := 10, attributes := #[] }, { accessFlags := 2, nameIndex := 19, descriptorIndex := 10, attributes := #[] }])
  fields := #[{ name := "name", type := (.object "java/lang/String"), accessFlags := 18, slot := 0, constantValue := 0 }, { name := "ordinal", type := .int, accessFlags := 18, slot := 1, constantValue := 0 }, { name := "hash", type := .int, accessFlags := 2, slot := 2, constantValue := 0 }]
  methods := #[]
  instanceTypes := #[(.object "java/lang/String"), .int, .int]
  staticTypes := #[]
  resolved := Array.replicate 204 none
  statics := none }

def pool15 : Array CpInfo := pool [(1, .class_ 2), (0, u "com/example/burdock/burdock/model/EnumStorage"), (2, u "STRING"), (0, u "Lcom/example/burdock/burdock/model/EnumStorage;"), (2, u "ORDINAL"), (2, u "$VALUES"), (0, u "[Lcom/example/burdock/burdock/model/EnumStorage;"), (6, .class_ 22), (1, u "java/lang/Enum")] 24

/-- com/example/burdock/burdock/model/EnumStorage -/
def k15 : Class := { plain "com/example/burdock/burdock/model/EnumStorage" (some 14) with
  accessFlags := 16433
  interfaces := #[]
  cf := some (fileOf pool15 1 #[] #[] 16433 20 #[] #[{ accessFlags := 16409, nameIndex := 5, descriptorIndex := 6, attributes := #[] }, { accessFlags := 16409, nameIndex := 9, descriptorIndex := 6, attributes := #[] }, { accessFlags := 4122, nameIndex := 12, descriptorIndex := 13, attributes := #[] }])
  fields := #[{ name := "STRING", type := (.object "com/example/burdock/burdock/model/EnumStorage"), accessFlags := 16409, slot := 0, constantValue := 0 }, { name := "ORDINAL", type := (.object "com/example/burdock/burdock/model/EnumStorage"), accessFlags := 16409, slot := 1, constantValue := 0 }, { name := "$VALUES", type := (.array (.object "com/example/burdock/burdock/model/EnumStorage")), accessFlags := 4122, slot := 2, constantValue := 0 }]
  methods := #[]
  instanceTypes := #[(.object "java/lang/String"), .int, .int]
  staticTypes := #[(.object "com/example/burdock/burdock/model/EnumStorage"), (.object "com/example/burdock/burdock/model/EnumStorage"), (.array (.object "com/example/burdock/burdock/model/EnumStorage"))]
  resolved := Array.replicate 47 none
  statics := some 1 }

def pool16 : Array CpInfo := pool [(2, .class_ 4), (1, u "java/lang/Object"), (0, u "<init>"), (0, u "()V"), (17, .class_ 26), (1, u "jdk/internal/util/Preconditions"), (28, .class_ 56), (0, u "jdk/internal/util/Preconditions$4"), (57, .class_ 115), (0, u "jdk/internal/util/Preconditions$1"), (7, u "SIOOBE_FORMATTER"), (0, u "Ljava/util/function/BiFunction;"), (0, .class_ 126), (0, u "jdk/internal/util/Preconditions$2"), (3, u "AIOOBE_FORMATTER"), (0, .class_ 132), (0, u "jdk/internal/util/Preconditions$3"), (3, u "IOOBE_FORMATTER")] 57

def k16m0 : Method := { name := "<init>", desc := "()V", sig := { parameters := [], returnType := none }, accessFlags := 1, code := none }
/-- jdk/internal/util/Preconditions -/
def k16 : Class := { plain "jdk/internal/util/Preconditions" (some 0) with
  accessFlags := 33
  interfaces := #[]
  cf := some (fileOf pool16 24 #[.nestMembers #[55, 131, 125, 114]] #[{ accessFlags := 1, nameIndex := 5, descriptorIndex := 6, attributes := #[] }] 33 2 #[] #[{ accessFlags := 25, nameIndex := 123, descriptorIndex := 124, attributes := #[] }, { accessFlags := 25, nameIndex := 130, descriptorIndex := 124, attributes := #[] }, { accessFlags := 25, nameIndex := 136, descriptorIndex := 124, attributes := #[] }])
  fields := #[{ name := "SIOOBE_FORMATTER", type := (.object "java/util/function/BiFunction"), accessFlags := 25, slot := 0, constantValue := 0 }, { name := "AIOOBE_FORMATTER", type := (.object "java/util/function/BiFunction"), accessFlags := 25, slot := 1, constantValue := 0 }, { name := "IOOBE_FORMATTER", type := (.object "java/util/function/BiFunction"), accessFlags := 25, slot := 2, constantValue := 0 }]
  methods := #[k16m0]
  instanceTypes := #[]
  staticTypes := #[(.object "java/util/function/BiFunction"), (.object "java/util/function/BiFunction"), (.object "java/util/function/BiFunction")]
  resolved := Array.replicate 194 none
  statics := some 2 }

def pool17 : Array CpInfo := pool [(9, u "<init>"), (6, .class_ 18), (1, u "java/lang/Object"), (0, u "()V"), (1, .class_ 23), (1, u "jdk/internal/util/ArraysSupport"), (0, u "LOG2_ARRAY_LONG_INDEX_SCALE"), (0, u "I"), (2, u "U"), (0, u "Ljdk/internal/misc/Unsafe;"), (8, u "BIG_ENDIAN"), (0, u "Z"), (8, u "LOG2_BYTE_BIT_SIZE"), (4, u "LOG2_ARRAY_INT_INDEX_SCALE"), (54, u "JLA"), (0, u "Ljdk/internal/access/JavaLangAccess;"), (11, u "LOG2_ARRAY_BOOLEAN_INDEX_SCALE"), (9, u "LOG2_ARRAY_BYTE_INDEX_SCALE"), (5, u "LOG2_ARRAY_CHAR_INDEX_SCALE"), (5, u "LOG2_ARRAY_SHORT_INDEX_SCALE"), (18, u "LOG2_ARRAY_FLOAT_INDEX_SCALE"), (24, u "LOG2_ARRAY_DOUBLE_INDEX_SCALE"), (89, u "T_BOOLEAN"), (2, u "T_CHAR"), (1, u "T_FLOAT"), (1, u "T_DOUBLE"), (1, u "T_BYTE"), (1, u "T_SHORT"), (1, u "T_INT"), (1, u "T_LONG"), (1, u "SOFT_MAX_ARRAY_LENGTH")] 83

def k17m0 : Method := { name := "<init>", desc := "()V", sig := { parameters := [], returnType := none }, accessFlags := 2, code := none }
/-- jdk/internal/util/ArraysSupport -/
def k17 : Class := { plain "jdk/internal/util/ArraysSupport" (some 0) with
  accessFlags := 33
  interfaces := #[]
  cf := some (fileOf pool17 21 #[] #[{ accessFlags := 2, nameIndex := 9, descriptorIndex := 19, attributes := #[] }] 33 16 #[] #[{ accessFlags := 24, nameIndex := 28, descriptorIndex := 29, attributes := #[] }, { accessFlags := 26, nameIndex := 38, descriptorIndex := 39, attributes := #[] }, { accessFlags := 25, nameIndex := 121, descriptorIndex := 25, attributes := #[] }, { accessFlags := 25, nameIndex := 131, descriptorIndex := 25, attributes := #[] }, { accessFlags := 25, nameIndex := 137, descriptorIndex := 25, attributes := #[] }, { accessFlags := 25, nameIndex := 143, descriptorIndex := 25, attributes := #[] }, { accessFlags := 25, nameIndex := 53, descriptorIndex := 25, attributes := #[] }, { accessFlags := 25, nameIndex := 24, descriptorIndex := 25, attributes := #[] }, { accessFlags := 25, nameIndex := 162, descriptorIndex := 25, attributes := #[] }, { accessFlags := 25, nameIndex := 187, descriptorIndex := 25, attributes := #[] }, { accessFlags := 26, nameIndex := 48, descriptorIndex := 25, attributes := #[] }, { accessFlags := 25, nameIndex := 277, descriptorIndex := 25, attributes := #[] }, { accessFlags := 25, nameIndex := 280, descriptorIndex := 25, attributes := #[] }, { accessFlags := 25, nameIndex := 282, descriptorIndex := 25, attributes := #[] }, { accessFlags := 25, nameIndex := 284, descriptorIndex := 25, attributes := #[] }, { accessFlags := 25, nameIndex := 286, descriptorIndex := 25, attributes := #[] }, { accessFlags := 25, nameIndex := 288, descriptorIndex := 25, attributes := #[] }, { accessFlags := 25, nameIndex := 290, descriptorIndex := 25, attributes := #[] }, { accessFlags := 25, nameIndex := 292, descriptorIndex := 25, attributes := #[] }, { accessFlags := 26, nameIndex := 108, descriptorIndex := 109, attributes := #[] }, { accessFlags := 25, nameIndex := 294, descriptorIndex := 25, attributes := #[] }])
  fields := #[{ name := "U", type := (.object "jdk/internal/misc/Unsafe"), accessFlags := 24, slot := 0, constantValue := 0 }, { name := "BIG_ENDIAN", type := .boolean, accessFlags := 26, slot := 1, constantValue := 0 }, { name := "LOG2_ARRAY_BOOLEAN_INDEX_SCALE", type := .int, accessFlags := 25, slot := 2, constantValue := 0 }, { name := "LOG2_ARRAY_BYTE_INDEX_SCALE", type := .int, accessFlags := 25, slot := 3, constantValue := 0 }, { name := "LOG2_ARRAY_CHAR_INDEX_SCALE", type := .int, accessFlags := 25, slot := 4, constantValue := 0 }, { name := "LOG2_ARRAY_SHORT_INDEX_SCALE", type := .int, accessFlags := 25, slot := 5, constantValue := 0 }, { name := "LOG2_ARRAY_INT_INDEX_SCALE", type := .int, accessFlags := 25, slot := 6, constantValue := 0 }, { name := "LOG2_ARRAY_LONG_INDEX_SCALE", type := .int, accessFlags := 25, slot := 7, constantValue := 0 }, { name := "LOG2_ARRAY_FLOAT_INDEX_SCALE", type := .int, accessFlags := 25, slot := 8, constantValue := 0 }, { name := "LOG2_ARRAY_DOUBLE_INDEX_SCALE", type := .int, accessFlags := 25, slot := 9, constantValue := 0 }, { name := "LOG2_BYTE_BIT_SIZE", type := .int, accessFlags := 26, slot := 10, constantValue := 0 }, { name := "T_BOOLEAN", type := .int, accessFlags := 25, slot := 11, constantValue := 0 }, { name := "T_CHAR", type := .int, accessFlags := 25, slot := 12, constantValue := 0 }, { name := "T_FLOAT", type := .int, accessFlags := 25, slot := 13, constantValue := 0 }, { name := "T_DOUBLE", type := .int, accessFlags := 25, slot := 14, constantValue := 0 }, { name := "T_BYTE", type := .int, accessFlags := 25, slot := 15, constantValue := 0 }, { name := "T_SHORT", type := .int, accessFlags := 25, slot := 16, constantValue := 0 }, { name := "T_INT", type := .int, accessFlags := 25, slot := 17, constantValue := 0 }, { name := "T_LONG", type := .int, accessFlags := 25, slot := 18, constantValue := 0 }, { name := "JLA", type := (.object "jdk/internal/access/JavaLangAccess"), accessFlags := 26, slot := 19, constantValue := 0 }, { name := "SOFT_MAX_ARRAY_LENGTH", type := .int, accessFlags := 25, slot := 20, constantValue := 0 }]
  methods := #[k17m0]
  instanceTypes := #[]
  staticTypes := #[(.object "jdk/internal/misc/Unsafe"), .boolean, .int, .int, .int, .int, .int, .int, .int, .int, .int, .int, .int, .int, .int, .int, .int, .int, .int, (.object "jdk/internal/access/JavaLangAccess"), .int]
  resolved := Array.replicate 378 none
  statics := none }

def pool18 : Array CpInfo := pool [(1, u "java/lang/Cloneable"), (0, .class_ 1), (0, u "java/lang/Object"), (0, .class_ 3)] 3

/-- java/lang/Cloneable -/
def k18 : Class := { plain "java/lang/Cloneable" (some 0) with
  accessFlags := 1537
  interfaces := #[]
  cf := some (fileOf pool18 2 #[] #[] 1537 4 #[] #[])
  fields := #[]
  methods := #[]
  instanceTypes := #[]
  staticTypes := #[]
  resolved := Array.replicate 8 none
  statics := none }

/-- the primitive byte -/
def k19 : Class := { plain "byte" none with kind := .primitive 'B', accessFlags := 0x411 }
/-- [B -/
def k20 : Class := { plain "[B" (some 0) with kind := .array 19 .byte, interfaces := #[18, 2], accessFlags := 1041 }

/-- the primitive int -/
def k21 : Class := { plain "int" none with kind := .primitive 'I', accessFlags := 0x411 }
/-- [I -/
def k22 : Class := { plain "[I" (some 0) with kind := .array 21 .int, interfaces := #[18, 2], accessFlags := 1041 }

/-- [Ljava/lang/Object; -/
def k23 : Class := { plain "[Ljava/lang/Object;" (some 0) with kind := .array 0 (.object "java/lang/Object"), interfaces := #[18, 2], accessFlags := 1041 }

def heap : Heap := #[{ cls := 7, slots := #[.long 0, .int 1, .null, .int 0, .null, .int 0, .int 0], vm := .statics 7 },
  { cls := 15, slots := #[.ref 3, .ref 4, .null], vm := .statics 15 },
  { cls := 16, slots := #[.null, .null, .null], vm := .statics 16 },
  { cls := 15, slots := #[.null, .int 0, .int 0], vm := .none },
  { cls := 15, slots := #[.null, .int 1, .int 0], vm := .none }]
def classes : Array Class := #[k0, k1, k2, k3, k4, k5, k6, k7, k8, k9, k10, k11, k12, k13, k14, k15, k16, k17, k18, k19, k20, k21, k22, k23]
def interned : List (Array UInt16 × Addr) := []
def slotsUsed : Nat := 19
def theMethod : MethodId := ⟨1, 3⟩
def args0 : Array Value := #[.int 1, .int 2, .int 3, .int 4, .int 5, .int 6]
def aboutOver (below : List Frame) : State where
  vm := { classes := classes, interned := interned.toArray }
  heap := heap
  slotsUsed := slotsUsed
  threads := #[{ frames := .invoking theMethod args0 :: below }]
def below0 : List Frame := [.native { method := ⟨0, 0⟩, args := #[] }]
def about1 : State := aboutOver below0
def p0 : Program := .bare "" "" ""
def e0 : Env := launch0.env 0 0 0
theorem w_frames : about1.frames = Frame.invoking theMethod args0 :: below0 := rfl
set_option maxRecDepth 65536 in
theorem w_args : argsFit about1.vm theMethod args0 = true := by decide +kernel
set_option maxRecDepth 65536 in
theorem w_heap : heapFits about1 = true := by decide +kernel
set_option maxRecDepth 65536 in
theorem w_runnable : about1.curStatus? = some .runnable := by decide +kernel
set_option maxRecDepth 65536 in
theorem w_alone : about1.alone = true := by decide +kernel
set_option maxRecDepth 65536 in
theorem w_named : about1.methodNamed? x = some theMethod := by decide +kernel
set_option maxRecDepth 65536 in
theorem w_hears : about1.hears theMethod below0 = true := by decide +kernel
set_option maxRecDepth 65536 in
theorem w_ripe : about1.ripe theMethod args0 below0 = true := by decide +kernel
theorem w_running : about1.status = .running := rfl
set_option maxRecDepth 65536 in
theorem w_room : about1.hasRoom e0.platform room_1 = true :=
  launch0.hasRoom_least _ room_1 (by decide +kernel) (by decide +kernel) (by decide +kernel) (by decide +kernel) (by decide +kernel) (by decide +kernel)
theorem allAtoms_all (ts : List Jvm.Cond) (a : Array Jvm.Value) (st : Jvm.State) : (allAtoms ts).before a st = ts.all (fun c => c.before a st) := by
  induction ts with
  | nil => rfl
  | cons c t ih =>
    show (Jvm.Cond.and c (allAtoms t)).before a st = _
    rw [Jvm.Cond.before_and, ih, List.all_cons]
def words1 : List Jvm.Cond := Jvm.Cond.code x code maxLocals ret :: tables_1
/-- a 'code' word, met by the world's own term for the bytes: nothing is compared byte by byte -/
theorem code_word {y : MethodName} {bytes : ByteArray} {mx : Nat} {rt : Option FieldType} {a : Array Value} {s : State} {m : MethodId} {meth : Method} {c : Code} (h1 : s.methodNamed? y = some m) (h2 : s.vm.method? m = some meth) (h3 : meth.code = some c) (h4 : c.code = bytes)
    (h5 : (c.maxLocals == mx && c.exceptionTable.isEmpty && decide (c.maxStack ≤ mostOperands) && decide (meth.sig.returnType = rt) && !meth.locks && decide (parseMethodDescriptor y.desc = some meth.sig)) = true) : (Jvm.Cond.code y bytes mx rt).before a s = true := by
  simp only [Bool.and_eq_true, beq_iff_eq, Bool.not_eq_true', decide_eq_true_eq] at h5
  obtain ⟨⟨⟨⟨⟨g1, g2⟩, g3⟩, g4⟩, g5⟩, g6⟩ := h5
  simp [Cond.before, Cond.holds, Cond.value, h1, h2, h3, h4, g1, g2, g3, g4, g5, g6]
def isCode : Jvm.Cond → Bool
  | .code _ _ _ _ => true
  | _ => false
theorem all_split {L : List Jvm.Cond} {P : Jvm.Cond → Bool} (h1 : L.all (fun c => isCode c || P c) = true) (h2 : ∀ c ∈ L.filter isCode, P c = true) : L.all P = true := by
  refine List.all_eq_true.mpr fun c hc => ?_
  have h := List.all_eq_true.mp h1 c hc
  rcases Bool.eq_false_or_eq_true (isCode c) with hi | hi
  · exact h2 c (List.mem_filter.mpr ⟨hc, hi⟩)
  · simpa [hi] using h
set_option maxRecDepth 65536 in
theorem w_c0 : (Jvm.Cond.code x code maxLocals ret).before args0 about1 = true := code_word (m := ⟨1, 3⟩) (meth := k1m3) (c := k1c3) (by decide +kernel) rfl rfl rfl (by decide +kernel)
set_option maxRecDepth 65536 in
theorem w_c1 : (Jvm.Cond.code ({ cls := "java/lang/String", name := "valueOf", desc := "(C)Ljava/lang/String;" } : Jvm.MethodName) jdk_42_method_139_code (1 : Nat) (Option.some (Jvm.ClassFile.FieldType.object "java/lang/String"))).before args0 about1 = true := code_word (m := ⟨7, 1⟩) (meth := k7m1) (c := k7c1) (by decide +kernel) rfl rfl rfl (by decide +kernel)
set_option maxRecDepth 65536 in
theorem w_c2 : (Jvm.Cond.code ({ cls := "java/lang/StringLatin1", name := "canEncode", desc := "(C)Z" } : Jvm.MethodName) jdk_43_method_3_code (1 : Nat) (Option.some Jvm.ClassFile.FieldType.boolean)).before args0 about1 = true := code_word (m := ⟨8, 1⟩) (meth := k8m1) (c := k8c1) (by decide +kernel) rfl rfl rfl (by decide +kernel)
set_option maxRecDepth 65536 in
theorem w_c3 : (Jvm.Cond.code ({ cls := "java/lang/StringLatin1", name := "toBytes", desc := "(C)[B" } : Jvm.MethodName) jdk_43_method_46_code (1 : Nat) (Option.some (Jvm.ClassFile.FieldType.array Jvm.ClassFile.FieldType.byte))).before args0 about1 = true := code_word (m := ⟨8, 2⟩) (meth := k8m2) (c := k8c2) (by decide +kernel) rfl rfl rfl (by decide +kernel)
set_option maxRecDepth 65536 in
theorem w_c4 : (Jvm.Cond.code ({ cls := "java/lang/String", name := "<init>", desc := "([BB)V" } : Jvm.MethodName) jdk_42_method_151_code (3 : Nat) (Option.none : Option Jvm.ClassFile.FieldType)).before args0 about1 = true := code_word (m := ⟨7, 2⟩) (meth := k7m2) (c := k7c2) (by decide +kernel) rfl rfl rfl (by decide +kernel)
set_option maxRecDepth 65536 in
theorem w_c5 : (Jvm.Cond.code ({ cls := "java/lang/Object", name := "<init>", desc := "()V" } : Jvm.MethodName) object_method_1_code (1 : Nat) (Option.none : Option Jvm.ClassFile.FieldType)).before args0 about1 = true := code_word (m := ⟨0, 0⟩) (meth := k0m0) (c := k0c0) (by decide +kernel) rfl rfl rfl (by decide +kernel)
set_option maxRecDepth 65536 in
theorem w_c6 : (Jvm.Cond.code ({ cls := "com/example/burdock/burdock/query/Parameter", name := "<init>", desc := "(Ljava/lang/String;ZZ)V" } : Jvm.MethodName) prog_108_method_1_code (4 : Nat) (Option.none : Option Jvm.ClassFile.FieldType)).before args0 about1 = true := code_word (m := ⟨9, 0⟩) (meth := k9m0) (c := k9c0) (by decide +kernel) rfl rfl rfl (by decide +kernel)
set_option maxRecDepth 65536 in
theorem w_c7 : (Jvm.Cond.code ({ cls := "java/util/Objects", name := "requireNonNull", desc := "(Ljava/lang/Object;Ljava/lang/String;)Ljava/lang/Object;" } : Jvm.MethodName) jdk_31_method_11_code (2 : Nat) (Option.some (Jvm.ClassFile.FieldType.object "java/lang/Object"))).before args0 about1 = true := code_word (m := ⟨10, 1⟩) (meth := k10m1) (c := k10c1) (by decide +kernel) rfl rfl rfl (by decide +kernel)
set_option maxRecDepth 65536 in
theorem w_c8 : (Jvm.Cond.code ({ cls := "com/example/burdock/burdock/query/ParameterReferenceSameAsPinLaw", name := "storage", desc := "(I)Lcom/example/burdock/burdock/model/EnumStorage;" } : Jvm.MethodName) method_2_code (1 : Nat) (Option.some (Jvm.ClassFile.FieldType.object "com/example/burdock/burdock/model/EnumStorage"))).before args0 about1 = true := code_word (m := ⟨1, 1⟩) (meth := k1m1) (c := k1c1) (by decide +kernel) rfl rfl rfl (by decide +kernel)
set_option maxRecDepth 65536 in
theorem w_c9 : (Jvm.Cond.code ({ cls := "com/example/burdock/burdock/query/ParameterReference", name := "<init>", desc := "(Lcom/example/burdock/burdock/query/Parameter;IILcom/example/burdock/burdock/model/EnumStorage;)V" } : Jvm.MethodName) prog_109_method_1_code (5 : Nat) (Option.none : Option Jvm.ClassFile.FieldType)).before args0 about1 = true := code_word (m := ⟨13, 0⟩) (meth := k13m0) (c := k13c0) (by decide +kernel) rfl rfl rfl (by decide +kernel)
set_option maxRecDepth 65536 in
theorem w_c10 : (Jvm.Cond.code ({ cls := "com/example/burdock/burdock/query/StructuralExpression", name := "<init>", desc := "([Ljava/lang/Object;)V" } : Jvm.MethodName) prog_131_method_1_code (2 : Nat) (Option.none : Option Jvm.ClassFile.FieldType)).before args0 about1 = true := code_word (m := ⟨11, 0⟩) (meth := k11m0) (c := k11c0) (by decide +kernel) rfl rfl rfl (by decide +kernel)
set_option maxRecDepth 65536 in
theorem w_c11 : (Jvm.Cond.code ({ cls := "com/example/burdock/burdock/query/ParameterReference", name := "sameAs", desc := "(Ljava/lang/Object;)Z" } : Jvm.MethodName) prog_109_method_8_code (3 : Nat) (Option.some Jvm.ClassFile.FieldType.boolean)).before args0 about1 = true := code_word (m := ⟨13, 1⟩) (meth := k13m1) (c := k13c1) (by decide +kernel) rfl rfl rfl (by decide +kernel)
set_option maxRecDepth 65536 in
theorem w_c12 : (Jvm.Cond.code ({ cls := "com/example/burdock/burdock/query/ParameterReferenceSameAsPinLaw", name := "norm", desc := "(I)I" } : Jvm.MethodName) method_3_code (1 : Nat) (Option.some Jvm.ClassFile.FieldType.int)).before args0 about1 = true := code_word (m := ⟨1, 2⟩) (meth := k1m2) (c := k1c2) (by decide +kernel) rfl rfl rfl (by decide +kernel)
def codes1 : List Jvm.Cond := [Jvm.Cond.code x code maxLocals ret, Jvm.Cond.code ({ cls := "java/lang/String", name := "valueOf", desc := "(C)Ljava/lang/String;" } : Jvm.MethodName) jdk_42_method_139_code (1 : Nat) (Option.some (Jvm.ClassFile.FieldType.object "java/lang/String")), Jvm.Cond.code ({ cls := "java/lang/StringLatin1", name := "canEncode", desc := "(C)Z" } : Jvm.MethodName) jdk_43_method_3_code (1 : Nat) (Option.some Jvm.ClassFile.FieldType.boolean), Jvm.Cond.code ({ cls := "java/lang/StringLatin1", name := "toBytes", desc := "(C)[B" } : Jvm.MethodName) jdk_43_method_46_code (1 : Nat) (Option.some (Jvm.ClassFile.FieldType.array Jvm.ClassFile.FieldType.byte)), Jvm.Cond.code ({ cls := "java/lang/String", name := "<init>", desc := "([BB)V" } : Jvm.MethodName) jdk_42_method_151_code (3 : Nat) (Option.none : Option Jvm.ClassFile.FieldType), Jvm.Cond.code ({ cls := "java/lang/Object", name := "<init>", desc := "()V" } : Jvm.MethodName) object_method_1_code (1 : Nat) (Option.none : Option Jvm.ClassFile.FieldType), Jvm.Cond.code ({ cls := "com/example/burdock/burdock/query/Parameter", name := "<init>", desc := "(Ljava/lang/String;ZZ)V" } : Jvm.MethodName) prog_108_method_1_code (4 : Nat) (Option.none : Option Jvm.ClassFile.FieldType), Jvm.Cond.code ({ cls := "java/util/Objects", name := "requireNonNull", desc := "(Ljava/lang/Object;Ljava/lang/String;)Ljava/lang/Object;" } : Jvm.MethodName) jdk_31_method_11_code (2 : Nat) (Option.some (Jvm.ClassFile.FieldType.object "java/lang/Object")), Jvm.Cond.code ({ cls := "com/example/burdock/burdock/query/ParameterReferenceSameAsPinLaw", name := "storage", desc := "(I)Lcom/example/burdock/burdock/model/EnumStorage;" } : Jvm.MethodName) method_2_code (1 : Nat) (Option.some (Jvm.ClassFile.FieldType.object "com/example/burdock/burdock/model/EnumStorage")), Jvm.Cond.code ({ cls := "com/example/burdock/burdock/query/ParameterReference", name := "<init>", desc := "(Lcom/example/burdock/burdock/query/Parameter;IILcom/example/burdock/burdock/model/EnumStorage;)V" } : Jvm.MethodName) prog_109_method_1_code (5 : Nat) (Option.none : Option Jvm.ClassFile.FieldType), Jvm.Cond.code ({ cls := "com/example/burdock/burdock/query/StructuralExpression", name := "<init>", desc := "([Ljava/lang/Object;)V" } : Jvm.MethodName) prog_131_method_1_code (2 : Nat) (Option.none : Option Jvm.ClassFile.FieldType), Jvm.Cond.code ({ cls := "com/example/burdock/burdock/query/ParameterReference", name := "sameAs", desc := "(Ljava/lang/Object;)Z" } : Jvm.MethodName) prog_109_method_8_code (3 : Nat) (Option.some Jvm.ClassFile.FieldType.boolean), Jvm.Cond.code ({ cls := "com/example/burdock/burdock/query/ParameterReferenceSameAsPinLaw", name := "norm", desc := "(I)I" } : Jvm.MethodName) method_3_code (1 : Nat) (Option.some Jvm.ClassFile.FieldType.int)]
set_option maxRecDepth 65536 in
theorem codes_eq : words1.filter isCode = codes1 := rfl
theorem w_codes : ∀ c ∈ words1.filter isCode, c.before args0 about1 = true := by
  rw [codes_eq]
  intro c hc
  simp only [codes1, List.mem_cons, List.not_mem_nil, or_false] at hc
  rcases hc with rfl | rfl | rfl | rfl | rfl | rfl | rfl | rfl | rfl | rfl | rfl | rfl | rfl
  · exact w_c0
  · exact w_c1
  · exact w_c2
  · exact w_c3
  · exact w_c4
  · exact w_c5
  · exact w_c6
  · exact w_c7
  · exact w_c8
  · exact w_c9
  · exact w_c10
  · exact w_c11
  · exact w_c12
set_option maxRecDepth 65536 in
theorem w_t1 : (words1.take 24).all (fun c => isCode c || c.before args0 about1) = true := by decide +kernel
set_option maxRecDepth 65536 in
theorem w_t2 : ((words1.drop 24).take 24).all (fun c => isCode c || c.before args0 about1) = true := by decide +kernel
set_option maxRecDepth 65536 in
theorem w_t3 : (((words1.drop 24).drop 24).take 24).all (fun c => isCode c || c.before args0 about1) = true := by decide +kernel
set_option maxRecDepth 65536 in
theorem w_t4 : ((((words1.drop 24).drop 24).drop 24).take 24).all (fun c => isCode c || c.before args0 about1) = true := by decide +kernel
set_option maxRecDepth 65536 in
theorem w_t5 : ((((words1.drop 24).drop 24).drop 24).drop 24).all (fun c => isCode c || c.before args0 about1) = true := by decide +kernel
theorem w_tables : (allAtoms (Jvm.Cond.code x code maxLocals ret :: tables_1)).before args0 about1 = true := by
  rw [allAtoms_all]
  show words1.all (fun c => c.before args0 about1) = true
  refine all_split ?_ w_codes
  rw [← List.take_append_drop 24 words1, List.all_append, w_t1, ← List.take_append_drop 24 (words1.drop 24), List.all_append, w_t2, ← List.take_append_drop 24 ((words1.drop 24).drop 24), List.all_append, w_t3, ← List.take_append_drop 24 (((words1.drop 24).drop 24).drop 24), List.all_append, w_t4, w_t5]
  rfl
set_option maxRecDepth 65536 in
theorem w_rest : rest_1_c.before args0 about1 = true := by decide +kernel
set_option maxRecDepth 65536 in
theorem w_case : (Jvm.Cond.and given_1 narrow_1).before args0 about1 = true := by decide +kernel
theorem w_applies : (headSpec (Jvm.Cond.code x code maxLocals ret :: tables_1) room_1).applies x e0.platform about1 = true :=
  (Spec.applies_iff w_frames).mpr ⟨w_running, w_runnable, w_alone, w_named, w_hears, w_ripe, w_room, w_tables⟩
theorem atStart : AtStart classFile x code maxLocals ret World_1 tables_1 room_1 Calls_1 rest_1 Pre_1 launch0 p0 e0 about1 theMethod args0 below0 :=
  ⟨lists_1, trivial, launch0.admits_env _ _ _, launch0.least_env, fairChoices_fair.cas, fairChoices_fair.clock, w_frames, w_args, w_heap, w_applies, trivial, w_rest, w_case⟩
end start1
theorem witness_1 : WitnessClaimed_1 := ⟨start1.p0, start1.e0, start1.about1, start1.theMethod, start1.args0, start1.below0, start1.atStart⟩
end Jvm.Pilot.@@N@@
