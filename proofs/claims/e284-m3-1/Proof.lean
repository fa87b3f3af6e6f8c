import JvmDerived
import JvmDerived.Pilot.@@N@@Statement
import JvmDerived.Pilot.@@N@@Code
set_option linter.unusedVariables false
set_option linter.unusedSimpArgs false
namespace Jvm.RoadKit
open Sem ClassFile Op Lib Jvm.Stand Jvm.Free Jvm.LawKit
section Own
variable {p : Program} {l : Launch} {e : Env} {R : Room} {s : State} {m : MethodId} {args : Array Value} {below : List Frame} {meth : Method} {c : Code} {T : State} {locs : List Loc} {cells slots : Nat}
theorem own_retI (X : Stand p l e R s m args below meth c T locs cells slots) (hx : p.tables.exec = Jvm.exec) {pc : Nat} {Ls : Array Slot} {z : Int32} {rest : List Value} (hret : meth.sig.returnType = some .int) (hd : decode c.code pc = .ok (.ireturn, 1)) {fs : List Frame}
    (hl : ∀ (f : JFrame) (acts : List Action), f.method = m → f.locked = none → f.entered = [] → (doReturn e (T.setTop f) acts (some (.int z))).1 = T.setFrames fs) : Steps p.tables e below (T.setTop (mkF m pc Ls (.int z :: rest))) (T.setFrames fs) :=
  retOut X hx hret rfl (Or.inl ⟨rfl, Or.inl rfl, z, rfl⟩) hd hl
theorem own_retA (X : Stand p l e R s m args below meth c T locs cells slots) (hx : p.tables.exec = Jvm.exec) {pc : Nat} {Ls : Array Slot} {w : Value} {t : FieldType} {rest : List Value} (hret : meth.sig.returnType = some t) (hn : narrow t w = w) (ht : t.isReference = true) (hw : w.isRef = true) (hd : decode c.code pc = .ok (.areturn, 1)) {fs : List Frame}
    (hl : ∀ (f : JFrame) (acts : List Action), f.method = m → f.locked = none → f.entered = [] → (doReturn e (T.setTop f) acts (some w)).1 = T.setFrames fs) : Steps p.tables e below (T.setTop (mkF m pc Ls (w :: rest))) (T.setFrames fs) :=
  retOut X hx hret hn (Or.inr (Or.inr (Or.inr (Or.inr ⟨rfl, ht, hw⟩)))) hd hl
theorem own_cat {v : Value} (h : v.isRef = true) : v.category = 1 := by rcases ref_cases h with rfl | ⟨a, rfl⟩ <;> rfl
end Own
end Jvm.RoadKit
namespace Jvm.Pilot.@@N@@
open Jvm Jvm.ClassFile Sem Op Lib Jvm.Free Jvm.Stand Jvm.LawKit Jvm.RoadKit Bundle Jvm.Pilot.@@N@@.Jvm.D
theorem ef_II (m : MethodId) (a b : Int32) : entryFrame m #[.int a, .int b] 2 = mkF m 0 #[.val (.int a), .val (.int b)] [] := by first | (simp [entryFrame, mkF, argsToLocals, Value.category]; done) | rfl
theorem ef_RI (m : MethodId) (a : Addr) (b : Int32) : entryFrame m #[.ref a, .int b] 2 = mkF m 0 #[.val (.ref a), .val (.int b)] [] := by first | (simp [entryFrame, mkF, argsToLocals, Value.category]; done) | rfl
theorem ef_R (m : MethodId) (a : Addr) : entryFrame m #[.ref a] 1 = mkF m 0 #[.val (.ref a)] [] := by first | (simp [entryFrame, mkF, argsToLocals, Value.category]; done) | rfl
theorem ef_I (m : MethodId) (a : Int32) : entryFrame m #[.int a] 1 = mkF m 0 #[.val (.int a)] [] := by first | (simp [entryFrame, mkF, argsToLocals, Value.category]; done) | rfl
theorem ef_RR (m : MethodId) (a b : Addr) : entryFrame m #[.ref a, .ref b] 2 = mkF m 0 #[.val (.ref a), .val (.ref b)] [] := by first | (simp [entryFrame, mkF, argsToLocals, Value.category]; done) | rfl
theorem ef_RN (m : MethodId) (a : Addr) : entryFrame m #[.ref a, .null] 2 = mkF m 0 #[.val (.ref a), .val .null] [] := by first | (simp [entryFrame, mkF, argsToLocals, Value.category]; done) | rfl
theorem ef_L (m : MethodId) (a b c : Int32) : entryFrame m #[.int a, .int b, .int c] maxLocals = mkF m 0 #[.val (.int a), .val (.int b), .val (.int c), .unset, .unset, .unset, .unset, .unset, .unset] [] := by first | (simp [entryFrame, mkF, argsToLocals, Value.category, maxLocals]; done) | rfl
def own_Max (x y r : Int32) : Prop := (x < y ∧ r = y) ∨ (¬ x < y ∧ r = x)
theorem d1_0 : decode jdk_29_method_65_code 0 = .ok (.iload_n 0, 1) := by decide +kernel
theorem d1_1 : decode jdk_29_method_65_code 1 = .ok (.iload_n 1, 1) := by decide +kernel
theorem d1_2 : decode jdk_29_method_65_code 2 = .ok (.if_icmp .lt 7, 3) := by decide +kernel
theorem d1_9 : decode jdk_29_method_65_code 9 = .ok (.iload_n 1, 1) := by decide +kernel
theorem d1_10 : decode jdk_29_method_65_code 10 = .ok (.ireturn, 1) := by decide +kernel
def Q_rm1a (Z : State) (x y : Int32) (h0 : Heap) (n0 : Nat) (v : Option Value) (hp : Heap) (L : List Loc) : Prop := v = some (.int y) ∧ Fr n0 L ∧ hp = h0
set_option maxRecDepth 65536 in
set_option maxHeartbeats 40000000 in
theorem rm1a (l : Launch) (Z : State) (a0 : Array Value) (hw : ∀ d ∈ tables_1, d.before a0 Z = true) (ws : List Jvm.Cond) (x y : Int32) (h0 : Heap) (n0 : Nat) (Z0 : n0 ≤ h0.size) (h : x < y) :
    MetFree l (⟨"java/lang/Math", "max", "(II)I"⟩ : MethodName) (head1 (Jvm.Cond.code (⟨"java/lang/Math", "max", "(II)I"⟩ : MethodName) jdk_29_method_65_code 2 (some .int) :: ws) ({ frames := 0, cells := 0, slots := 0, locals := 0 } : Room)) (fun aa U => aa = #[(.int x), (.int y)] ∧ Z.Warmed39 U.vm ∧ U.heap = h0) (fun _ _ _ _ _ => True) (fun _ U o U' => ∃ v L, o = .returned v ∧ (Q_rm1a Z x y h0 n0 v U'.heap L) ∧ FrameEnd U o U' L ({ frames := 0, cells := 0, slots := 0, locals := 0 } : Room).cells ({ frames := 0, cells := 0, slots := 0, locals := 0 } : Room).slots) := by
  refine MetFree.of_bodySF (Jvm.Free.JP.mathPlain rfl (by decide +kernel)) hisR ?_
  intro p e s m args below meth c s₁ Bd hml0 hP hK
  obtain ⟨rfl, hZ, hh⟩ := hP
  have hx := Bd.exec
  have hby := Bd.bytes
  have hml : c.maxLocals = 2 := hml0
  have hown : s.vm.findClass "java/lang/Math" = some m.cls := findClass_of_methodNamed Bd.named
  have hnm := (name_of_methodNamed Bd.named Bd.method).1
  have X0 : Stand p l e ({ frames := 0, cells := 0, slots := 0, locals := 0 } : Room) s m #[(.int x), (.int y)] below meth c s₁ [] 0 0 := Stand.of_body Bd
  have e0 : s₁.heap = h0 := by rw [← hh, Bd.state]; rfl
  have N0 := Fr.nil n0
  have pre0 : ∀ t, Steps p.tables e below (s₁.setTop (mkF m 0 #[.val (.int x), .val (.int y)] [])) t → Steps p.tables e below (s₁.setTop (entryFrame m #[(.int x), (.int y)] 2)) t := fun t kk => castTop (ef_II m x y) kk
  obtain ⟨fs, hr, hrun, hended, hW, hsame⟩ := X0.leave (v := some (.int y)) (fun h => by rw [Bd.returns] at h; cases h)
  have eF : (s₁.setFrames fs).heap = h0 := e0
  refine ⟨_, _, pre0 _ ?_, hrun, hended, _, _, rfl, ?_, ⟨_, rfl⟩, hW, hsame.mono (by decide) (by decide)⟩
  · show Steps p.tables e below (s₁.setTop (mkF m 0 #[.val (.int x), .val (.int y)] [])) _
    refine XS.iloadN X0.here hx rfl (hb hby d1_0) rfl ?_
    show Steps p.tables e below (s₁.setTop (mkF m 1 #[.val (.int x), .val (.int y)] [(.int x)])) _
    refine XS.iloadN X0.here hx rfl (hb hby d1_1) rfl ?_
    show Steps p.tables e below (s₁.setTop (mkF m 2 #[.val (.int x), .val (.int y)] [(.int y), (.int x)])) _
    refine XS.icmpYes X0.here hx rfl (pc0 := 2) (pc' := 9) rfl (hb hby d1_2) rfl (tlt h).1 (by decide) (by decide) ?_
    show Steps p.tables e below (s₁.setTop (mkF m 9 #[.val (.int x), .val (.int y)] [])) _
    refine XS.iloadN X0.here hx rfl (hb hby d1_9) rfl ?_
    show Steps p.tables e below (s₁.setTop (mkF m 10 #[.val (.int x), .val (.int y)] [(.int y)])) _
    exact own_retI X0 hx Bd.returns (hb hby d1_10) hr
  · exact ⟨rfl, N0, e0⟩
theorem d1_5 : decode jdk_29_method_65_code 5 = .ok (.iload_n 0, 1) := by decide +kernel
theorem d1_6 : decode jdk_29_method_65_code 6 = .ok (.goto 4, 3) := by decide +kernel
def Q_rm1b (Z : State) (x y : Int32) (h0 : Heap) (n0 : Nat) (v : Option Value) (hp : Heap) (L : List Loc) : Prop := v = some (.int x) ∧ Fr n0 L ∧ hp = h0
set_option maxRecDepth 65536 in
set_option maxHeartbeats 40000000 in
theorem rm1b (l : Launch) (Z : State) (a0 : Array Value) (hw : ∀ d ∈ tables_1, d.before a0 Z = true) (ws : List Jvm.Cond) (x y : Int32) (h0 : Heap) (n0 : Nat) (Z0 : n0 ≤ h0.size) (h : ¬ x < y) :
    MetFree l (⟨"java/lang/Math", "max", "(II)I"⟩ : MethodName) (head1 (Jvm.Cond.code (⟨"java/lang/Math", "max", "(II)I"⟩ : MethodName) jdk_29_method_65_code 2 (some .int) :: ws) ({ frames := 0, cells := 0, slots := 0, locals := 0 } : Room)) (fun aa U => aa = #[(.int x), (.int y)] ∧ Z.Warmed39 U.vm ∧ U.heap = h0) (fun _ _ _ _ _ => True) (fun _ U o U' => ∃ v L, o = .returned v ∧ (Q_rm1b Z x y h0 n0 v U'.heap L) ∧ FrameEnd U o U' L ({ frames := 0, cells := 0, slots := 0, locals := 0 } : Room).cells ({ frames := 0, cells := 0, slots := 0, locals := 0 } : Room).slots) := by
  refine MetFree.of_bodySF (Jvm.Free.JP.mathPlain rfl (by decide +kernel)) hisR ?_
  intro p e s m args below meth c s₁ Bd hml0 hP hK
  obtain ⟨rfl, hZ, hh⟩ := hP
  have hx := Bd.exec
  have hby := Bd.bytes
  have hml : c.maxLocals = 2 := hml0
  have hown : s.vm.findClass "java/lang/Math" = some m.cls := findClass_of_methodNamed Bd.named
  have hnm := (name_of_methodNamed Bd.named Bd.method).1
  have X0 : Stand p l e ({ frames := 0, cells := 0, slots := 0, locals := 0 } : Room) s m #[(.int x), (.int y)] below meth c s₁ [] 0 0 := Stand.of_body Bd
  have e0 : s₁.heap = h0 := by rw [← hh, Bd.state]; rfl
  have N0 := Fr.nil n0
  have pre0 : ∀ t, Steps p.tables e below (s₁.setTop (mkF m 0 #[.val (.int x), .val (.int y)] [])) t → Steps p.tables e below (s₁.setTop (entryFrame m #[(.int x), (.int y)] 2)) t := fun t kk => castTop (ef_II m x y) kk
  obtain ⟨fs, hr, hrun, hended, hW, hsame⟩ := X0.leave (v := some (.int x)) (fun h => by rw [Bd.returns] at h; cases h)
  have eF : (s₁.setFrames fs).heap = h0 := e0
  refine ⟨_, _, pre0 _ ?_, hrun, hended, _, _, rfl, ?_, ⟨_, rfl⟩, hW, hsame.mono (by decide) (by decide)⟩
  · show Steps p.tables e below (s₁.setTop (mkF m 0 #[.val (.int x), .val (.int y)] [])) _
    refine XS.iloadN X0.here hx rfl (hb hby d1_0) rfl ?_
    show Steps p.tables e below (s₁.setTop (mkF m 1 #[.val (.int x), .val (.int y)] [(.int x)])) _
    refine XS.iloadN X0.here hx rfl (hb hby d1_1) rfl ?_
    show Steps p.tables e below (s₁.setTop (mkF m 2 #[.val (.int x), .val (.int y)] [(.int y), (.int x)])) _
    refine XS.icmpNo X0.here hx rfl (hb hby d1_2) rfl (flt h).1 ?_
    show Steps p.tables e below (s₁.setTop (mkF m 5 #[.val (.int x), .val (.int y)] [])) _
    refine XS.iloadN X0.here hx rfl (hb hby d1_5) rfl ?_
    show Steps p.tables e below (s₁.setTop (mkF m 6 #[.val (.int x), .val (.int y)] [(.int x)])) _
    refine XS.goto X0.here hx rfl (pc0 := 6) (pc' := 10) rfl (hb hby d1_6) (by decide) (by decide) ?_
    show Steps p.tables e below (s₁.setTop (mkF m 10 #[.val (.int x), .val (.int y)] [(.int x)])) _
    exact own_retI X0 hx Bd.returns (hb hby d1_10) hr
  · exact ⟨rfl, N0, e0⟩
def Q_rm1 (Z : State) (x y r : Int32) (h0 : Heap) (n0 : Nat) (v : Option Value) (hp : Heap) (L : List Loc) : Prop := v = some (.int r) ∧ Fr n0 L ∧ hp = h0
theorem rm1 (l : Launch) (Z : State) (a0 : Array Value) (hw : ∀ d ∈ tables_1, d.before a0 Z = true) (ws : List Jvm.Cond) (x y r : Int32) (h0 : Heap) (n0 : Nat) (Z0 : n0 ≤ h0.size) (M : own_Max x y r) :
    MetFree l (⟨"java/lang/Math", "max", "(II)I"⟩ : MethodName) (head1 (Jvm.Cond.code (⟨"java/lang/Math", "max", "(II)I"⟩ : MethodName) jdk_29_method_65_code 2 (some .int) :: ws) ({ frames := 0, cells := 0, slots := 0, locals := 0 } : Room)) (fun aa U => aa = #[.int x, .int y] ∧ Z.Warmed39 U.vm ∧ U.heap = h0) (fun _ _ _ _ _ => True) (fun _ U o U' => ∃ v L, o = .returned v ∧ (Q_rm1 Z x y r h0 n0 v U'.heap L) ∧ FrameEnd U o U' L ({ frames := 0, cells := 0, slots := 0, locals := 0 } : Room).cells ({ frames := 0, cells := 0, slots := 0, locals := 0 } : Room).slots) := by
  rcases M with ⟨h, rfl⟩ | ⟨h, rfl⟩
  · exact rm1a l Z a0 hw ws x r h0 n0 Z0 h
  · exact rm1b l Z a0 hw ws r y h0 n0 Z0 h
theorem pn_com_example_pico_z_picoz_types_Type : plainName "com/example/pico_z/picoz/types/Type" = true := by first | (simp [plainName, overriddenIn]; done) | decide +kernel
theorem d3_0 : decode prog_133_method_1_code 0 = .ok (.aload_n 0, 1) := by decide +kernel
theorem d3_1 : decode prog_133_method_1_code 1 = .ok (.invokespecial 1, 3) := by decide +kernel
theorem d3_4 : decode prog_133_method_1_code 4 = .ok (.aload_n 0, 1) := by decide +kernel
theorem d3_5 : decode prog_133_method_1_code 5 = .ok (.iload_n 1, 1) := by decide +kernel
theorem d3_6 : decode prog_133_method_1_code 6 = .ok (.putfield 7, 3) := by decide +kernel
theorem d3_9 : decode prog_133_method_1_code 9 = .ok (.return_, 1) := by decide +kernel
def Q_rm3 (Z : State) (a : Addr) (k : Int32) (u : Value) (h0 : Heap) (n0 : Nat) (v : Option Value) (hp : Heap) (L : List Loc) : Prop := v = none ∧ Fr n0 L ∧ (∃ sl, Wr h0 hp a sl (.int k) ∧ sl = Jvm.RoadKit.slotOf Z "com/example/pico_z/picoz/types/Type" "kinds" "I")
set_option maxRecDepth 65536 in
set_option maxHeartbeats 40000000 in
theorem rm3 (l : Launch) (Z : State) (a0 : Array Value) (hw : ∀ d ∈ tables_1, d.before a0 Z = true) (ws : List Jvm.Cond) (a : Addr) (k : Int32) (u : Value) (h0 : Heap) (n0 : Nat) (Z0 : n0 ≤ h0.size) (E : Exa Z h0 a "com/example/pico_z/picoz/types/GenericParameterType") (F : Fld Z h0 a "com/example/pico_z/picoz/types/Type" "kinds" "I" u) (ge : n0 ≤ a) :
    MetFree l (⟨"com/example/pico_z/picoz/types/Type", "<init>", "(I)V"⟩ : MethodName) (head1 (Jvm.Cond.code (⟨"com/example/pico_z/picoz/types/Type", "<init>", "(I)V"⟩ : MethodName) prog_133_method_1_code 2 none :: ws) ({ frames := 1, cells := 0, slots := 0, locals := 12 } : Room)) (fun aa U => aa = #[(.ref a), (.int k)] ∧ Z.Warmed39 U.vm ∧ U.heap = h0) (fun _ _ _ _ _ => True) (fun _ U o U' => ∃ v L, o = .returned v ∧ (Q_rm3 Z a k u h0 n0 v U'.heap L) ∧ FrameEnd U o U' L ({ frames := 1, cells := 0, slots := 0, locals := 12 } : Room).cells ({ frames := 1, cells := 0, slots := 0, locals := 12 } : Room).slots) := by
  refine MetFree.of_bodySF (plainFor_of_name pn_com_example_pico_z_picoz_types_Type) hisR ?_
  intro p e s m args below meth c s₁ Bd hml0 hP hK
  obtain ⟨rfl, hZ, hh⟩ := hP
  have hx := Bd.exec
  have hby := Bd.bytes
  have hml : c.maxLocals = 2 := hml0
  have hown : s.vm.findClass "com/example/pico_z/picoz/types/Type" = some m.cls := findClass_of_methodNamed Bd.named
  have hnm := (name_of_methodNamed Bd.named Bd.method).1
  have X0 : Stand p l e ({ frames := 1, cells := 0, slots := 0, locals := 12 } : Room) s m #[(.ref a), (.int k)] below meth c s₁ [] 0 0 := Stand.of_body Bd
  have e0 : s₁.heap = h0 := by rw [← hh, Bd.state]; rfl
  have N0 := Fr.nil n0
  have pre0 : ∀ t, Steps p.tables e below (s₁.setTop (mkF m 0 #[.val (.ref a), .val (.int k)] [])) t → Steps p.tables e below (s₁.setTop (entryFrame m #[(.ref a), (.int k)] 2)) t := fun t kk => castTop (ef_RI m a k) kk
  obtain ⟨T1, X1, e1, st1⟩ := initO X0 hx hZ hown (hw _ (List.mem_of_getElem? (i := 16) rfl)) (hw _ (List.mem_of_getElem? (i := 17) rfl)) (hw _ (List.mem_of_getElem? (i := 18) rfl)) e0 (g := (mkF m 1 #[.val (.ref a), .val (.int k)] [(.ref a)])) rfl (by rw [hml]; rfl) rfl (hb hby d3_1) (by decide) (W := 0) (by show 2 * 0 + _ ≤ _; exact Nat.le_of_eq rfl) (by decide)
  obtain ⟨T2, h2, X2, e2, W2, st2⟩ := putF X1 hx hZ hown (host := "") (Or.inl (hw _ (List.mem_of_getElem? (i := 19) rfl))) Via.refl e1 F E (Or.inr ⟨(hw _ (List.mem_of_getElem? (i := 20) rfl)), rfl, hnm⟩) (hw _ (List.mem_of_getElem? (i := 6) rfl)) (ty := .int) (by decide) rfl rfl (g := (mkF m 6 #[.val (.ref a), .val (.int k)] [(.int k), (.ref a)])) rfl rfl (hb hby d3_6)
  have N2 := Fr.snoc X2 N0 ge
  obtain ⟨fs, hr, hrun, hended, hW, hsame⟩ := X2.leave (v := none) (fun _ => rfl)
  have eF : (T2.setFrames fs).heap = h2 := e2
  refine ⟨_, _, pre0 _ ?_, hrun, hended, _, _, rfl, ?_, ⟨_, rfl⟩, hW, hsame.mono (by decide) (by decide)⟩
  · show Steps p.tables e below (s₁.setTop (mkF m 0 #[.val (.ref a), .val (.int k)] [])) _
    refine XS.aloadN X0.here hx rfl (hb hby d3_0) rfl rfl ?_
    show Steps p.tables e below (s₁.setTop (mkF m 1 #[.val (.ref a), .val (.int k)] [(.ref a)])) _
    refine st1 _ ?_
    show Steps p.tables e below (T1.setTop (mkF m 4 #[.val (.ref a), .val (.int k)] [])) _
    refine XS.aloadN X1.here hx rfl (hb hby d3_4) rfl rfl ?_
    show Steps p.tables e below (T1.setTop (mkF m 5 #[.val (.ref a), .val (.int k)] [(.ref a)])) _
    refine XS.iloadN X1.here hx rfl (hb hby d3_5) rfl ?_
    show Steps p.tables e below (T1.setTop (mkF m 6 #[.val (.ref a), .val (.int k)] [(.int k), (.ref a)])) _
    refine st2 _ ?_
    show Steps p.tables e below (T2.setTop (mkF m 9 #[.val (.ref a), .val (.int k)] [])) _
    exact X2.returnOut hx Bd.returns (hb hby d3_9) hr
  · exact ⟨rfl, N2, _, by rw [eF]; exact W2, rfl⟩
theorem pn_om_example_pico_z_picoz_types_GenericParameterType : plainName "com/example/pico_z/picoz/types/GenericParameterType" = true := by first | (simp [plainName, overriddenIn]; done) | decide +kernel
theorem d2_0 : decode prog_126_method_1_code 0 = .ok (.aload_n 0, 1) := by decide +kernel
theorem d2_1 : decode prog_126_method_1_code 1 = .ok (.iconst 1, 1) := by decide +kernel
theorem pd__IRV : parseMethodDescriptor "(I)V" = some ⟨[.int], none⟩ := by decide +kernel
theorem d2_2 : decode prog_126_method_1_code 2 = .ok (.invokespecial 3, 3) := by decide +kernel
theorem d2_5 : decode prog_126_method_1_code 5 = .ok (.iload_n 1, 1) := by decide +kernel
theorem d2_6 : decode prog_126_method_1_code 6 = .ok (.iconst 1, 1) := by decide +kernel
theorem d2_7 : decode prog_126_method_1_code 7 = .ok (.if_icmp .ge 17, 3) := by decide +kernel
theorem d2_24 : decode prog_126_method_1_code 24 = .ok (.aload_n 0, 1) := by decide +kernel
theorem d2_25 : decode prog_126_method_1_code 25 = .ok (.iload_n 1, 1) := by decide +kernel
theorem d2_26 : decode prog_126_method_1_code 26 = .ok (.putfield 16, 3) := by decide +kernel
theorem d2_29 : decode prog_126_method_1_code 29 = .ok (.return_, 1) := by decide +kernel
def Q_rm2 (Z : State) (a : Addr) (k : Int32) (u u' : Value) (h0 : Heap) (n0 : Nat) (v : Option Value) (hp : Heap) (L : List Loc) : Prop := v = none ∧ Fr n0 L ∧ Keep h0 hp [a] ∧ Fld Z hp a "com/example/pico_z/picoz/types/GenericParameterType" "index" "I" (.int k)
set_option maxRecDepth 65536 in
set_option maxHeartbeats 40000000 in
theorem rm2 (l : Launch) (Z : State) (a0 : Array Value) (hw : ∀ d ∈ tables_1, d.before a0 Z = true) (ws : List Jvm.Cond) (a : Addr) (k : Int32) (u u' : Value) (h0 : Heap) (n0 : Nat) (Z0 : n0 ≤ h0.size) (E : Exa Z h0 a "com/example/pico_z/picoz/types/GenericParameterType") (F : Fld Z h0 a "com/example/pico_z/picoz/types/Type" "kinds" "I" u) (F' : Fld Z h0 a "com/example/pico_z/picoz/types/GenericParameterType" "index" "I" u') (ge : n0 ≤ a) (hk : ¬ k < (1 : Int32)) :
    MetFree l (⟨"com/example/pico_z/picoz/types/GenericParameterType", "<init>", "(I)V"⟩ : MethodName) (head1 (Jvm.Cond.code (⟨"com/example/pico_z/picoz/types/GenericParameterType", "<init>", "(I)V"⟩ : MethodName) prog_126_method_1_code 2 none :: ws) ({ frames := 2, cells := 0, slots := 0, locals := 25 } : Room)) (fun aa U => aa = #[(.ref a), (.int k)] ∧ Z.Warmed39 U.vm ∧ U.heap = h0) (fun _ _ _ _ _ => True) (fun _ U o U' => ∃ v L, o = .returned v ∧ (Q_rm2 Z a k u u' h0 n0 v U'.heap L) ∧ FrameEnd U o U' L ({ frames := 2, cells := 0, slots := 0, locals := 25 } : Room).cells ({ frames := 2, cells := 0, slots := 0, locals := 25 } : Room).slots) := by
  refine MetFree.of_bodySF (plainFor_of_name pn_om_example_pico_z_picoz_types_GenericParameterType) hisR ?_
  intro p e s m args below meth c s₁ Bd hml0 hP hK
  obtain ⟨rfl, hZ, hh⟩ := hP
  have hx := Bd.exec
  have hby := Bd.bytes
  have hml : c.maxLocals = 2 := hml0
  have hown : s.vm.findClass "com/example/pico_z/picoz/types/GenericParameterType" = some m.cls := findClass_of_methodNamed Bd.named
  have hnm := (name_of_methodNamed Bd.named Bd.method).1
  have X0 : Stand p l e ({ frames := 2, cells := 0, slots := 0, locals := 25 } : Room) s m #[(.ref a), (.int k)] below meth c s₁ [] 0 0 := Stand.of_body Bd
  have e0 : s₁.heap = h0 := by rw [← hh, Bd.state]; rfl
  have N0 := Fr.nil n0
  have pre0 : ∀ t, Steps p.tables e below (s₁.setTop (mkF m 0 #[.val (.ref a), .val (.int k)] [])) t → Steps p.tables e below (s₁.setTop (entryFrame m #[(.ref a), (.int k)] 2)) t := fun t kk => castTop (ef_RI m a k) kk
  obtain ⟨_, _, ⟨T1, L1, k1, n1⟩, -, X1, ⟨Lc1, hQ1, l1, y1, z1⟩, st1⟩ := X0.specialBack hx (y := (⟨"com/example/pico_z/picoz/types/Type", "<init>", "(I)V"⟩ : MethodName)) rfl hown (mvT hZ (hw _ (List.mem_of_getElem? (i := 11) rfl))) (mvT hZ (hw _ (List.mem_of_getElem? (i := 12) rfl))) (mvT hZ (hw _ (List.mem_of_getElem? (i := 15) rfl))) (by decide) (backOf (W := 0) (rm3 l Z a0 hw [] a 1 u h0 n0 Z0 E F ge) hZ (hw _ (List.mem_of_getElem? (i := 15) rfl)) (hw _ (List.mem_of_getElem? (i := 14) rfl)) (by decide) (by decide)) (g := (mkF m 2 #[.val (.ref a), .val (.int k)] [(.int (1 : Int32)), (.ref a)])) rfl (by rw [hml]; rfl) (Steps.refl _) (a := a) (argsL := [(.int (1 : Int32))]) (rest := []) (lenOf pd__IRV rfl) rfl (by show 2 * 0 + _ ≤ _; exact Nat.le_of_eq rfl) (hb hby d2_2) (fun _ _ => ⟨rfl, e0, (by decide : 0 + 0 ≤ _), (by decide : 0 + 0 ≤ _)⟩)
  dsimp only [Pt.U, Pt.locs, Pt.cells, Pt.slots] at X1 l1 y1 z1 st1 hQ1
  subst l1 y1 z1
  obtain ⟨rfl, N1q, sl, W1, hsl⟩ := hQ1
  have N1 := Fr.app N0 N1q
  subst hsl
  have F2 := (F'.other W1 (Or.inr (slot_ne (Or.inr (hw _ (List.mem_of_getElem? (i := 22) rfl))) (Or.inr (hw _ (List.mem_of_getElem? (i := 20) rfl))) (by decide) (t := .int) (t' := .int) (by decide) (by decide))))
  obtain ⟨T2, h2, X2, e2, W2, st2⟩ := putF X1 hx hZ hown (host := "") (Or.inl (hw _ (List.mem_of_getElem? (i := 21) rfl))) Via.refl rfl F2 (E.wr W1) (Or.inr ⟨(hw _ (List.mem_of_getElem? (i := 22) rfl)), rfl, hnm⟩) (hw _ (List.mem_of_getElem? (i := 6) rfl)) (ty := .int) (by decide) rfl rfl (g := (mkF m 26 #[.val (.ref a), .val (.int k)] [(.int k), (.ref a)])) rfl rfl (hb hby d2_26)
  have N2 := Fr.snoc X2 N1 ge
  obtain ⟨fs, hr, hrun, hended, hW, hsame⟩ := X2.leave (v := none) (fun _ => rfl)
  have eF : (T2.setFrames fs).heap = h2 := e2
  refine ⟨_, _, pre0 _ ?_, hrun, hended, _, _, rfl, ?_, ⟨_, rfl⟩, hW, hsame.mono (by decide) (by decide)⟩
  · show Steps p.tables e below (s₁.setTop (mkF m 0 #[.val (.ref a), .val (.int k)] [])) _
    refine XS.aloadN X0.here hx rfl (hb hby d2_0) rfl rfl ?_
    show Steps p.tables e below (s₁.setTop (mkF m 1 #[.val (.ref a), .val (.int k)] [(.ref a)])) _
    refine XS.iconst X0.here hx rfl (hb hby d2_1) ?_
    show Steps p.tables e below (s₁.setTop (mkF m 2 #[.val (.ref a), .val (.int k)] [(.int (1 : Int32)), (.ref a)])) _
    refine st1.trans ?_
    show Steps p.tables e below (T1.setTop (mkF m 5 #[.val (.ref a), .val (.int k)] [])) _
    refine XS.iloadN X1.here hx rfl (hb hby d2_5) rfl ?_
    show Steps p.tables e below (T1.setTop (mkF m 6 #[.val (.ref a), .val (.int k)] [(.int k)])) _
    refine XS.iconst X1.here hx rfl (hb hby d2_6) ?_
    show Steps p.tables e below (T1.setTop (mkF m 7 #[.val (.ref a), .val (.int k)] [(.int (1 : Int32)), (.int k)])) _
    refine XS.icmpYes X1.here hx rfl (pc0 := 7) (pc' := 24) rfl (hb hby d2_7) rfl (flt hk).2.1 (by decide) (by decide) ?_
    show Steps p.tables e below (T1.setTop (mkF m 24 #[.val (.ref a), .val (.int k)] [])) _
    refine XS.aloadN X1.here hx rfl (hb hby d2_24) rfl rfl ?_
    show Steps p.tables e below (T1.setTop (mkF m 25 #[.val (.ref a), .val (.int k)] [(.ref a)])) _
    refine XS.iloadN X1.here hx rfl (hb hby d2_25) rfl ?_
    show Steps p.tables e below (T1.setTop (mkF m 26 #[.val (.ref a), .val (.int k)] [(.int k), (.ref a)])) _
    refine st2 _ ?_
    show Steps p.tables e below (T2.setTop (mkF m 29 #[.val (.ref a), .val (.int k)] [])) _
    exact X2.returnOut hx Bd.returns (hb hby d2_29) hr
  · exact ⟨rfl, N2, by rw [eF]; exact ((Keep.refl h0 [a]).wr W1 (Or.inl (List.mem_of_getElem? (i := 0) rfl))).wr W2 (Or.inl (List.mem_of_getElem? (i := 0) rfl)), by rw [eF]; exact F2.same W2⟩
theorem d5_0 : decode prog_126_method_9_code 0 = .ok (.aload_n 1, 1) := by decide +kernel
theorem d5_1 : decode prog_126_method_9_code 1 = .ok (.instanceof 17, 3) := by decide +kernel
theorem d5_4 : decode prog_126_method_9_code 4 = .ok (.ifCond .eq 21, 3) := by decide +kernel
theorem d5_7 : decode prog_126_method_9_code 7 = .ok (.aload_n 0, 1) := by decide +kernel
theorem d5_8 : decode prog_126_method_9_code 8 = .ok (.getfield 16, 3) := by decide +kernel
theorem d5_11 : decode prog_126_method_9_code 11 = .ok (.aload_n 1, 1) := by decide +kernel
theorem d5_12 : decode prog_126_method_9_code 12 = .ok (.checkcast 17, 3) := by decide +kernel
theorem d5_15 : decode prog_126_method_9_code 15 = .ok (.getfield 16, 3) := by decide +kernel
theorem d5_18 : decode prog_126_method_9_code 18 = .ok (.if_icmp .ne 7, 3) := by decide +kernel
theorem d5_21 : decode prog_126_method_9_code 21 = .ok (.iconst 1, 1) := by decide +kernel
theorem d5_22 : decode prog_126_method_9_code 22 = .ok (.goto 4, 3) := by decide +kernel
theorem d5_26 : decode prog_126_method_9_code 26 = .ok (.ireturn, 1) := by decide +kernel
def Q_rm5a (Z : State) (a b : Addr) (i j : Int32) (h0 : Heap) (n0 : Nat) (v : Option Value) (hp : Heap) (L : List Loc) : Prop := v = some (.int 1) ∧ Fr n0 L ∧ hp = h0
set_option maxRecDepth 65536 in
set_option maxHeartbeats 40000000 in
theorem rm5a (l : Launch) (Z : State) (a0 : Array Value) (hw : ∀ d ∈ tables_1, d.before a0 Z = true) (ws : List Jvm.Cond) (a b : Addr) (i j : Int32) (h0 : Heap) (n0 : Nat) (Z0 : n0 ≤ h0.size) (E : Exa Z h0 b "com/example/pico_z/picoz/types/GenericParameterType") (Fa : Fld Z h0 a "com/example/pico_z/picoz/types/GenericParameterType" "index" "I" (.int i)) (Fb : Fld Z h0 b "com/example/pico_z/picoz/types/GenericParameterType" "index" "I" (.int j)) (h : i = j) :
    MetFree l (⟨"com/example/pico_z/picoz/types/GenericParameterType", "equals", "(Ljava/lang/Object;)Z"⟩ : MethodName) (head1 (Jvm.Cond.code (⟨"com/example/pico_z/picoz/types/GenericParameterType", "equals", "(Ljava/lang/Object;)Z"⟩ : MethodName) prog_126_method_9_code 2 (some .boolean) :: ws) ({ frames := 0, cells := 0, slots := 0, locals := 0 } : Room)) (fun aa U => aa = #[(.ref a), (.ref b)] ∧ Z.Warmed39 U.vm ∧ U.heap = h0) (fun _ _ _ _ _ => True) (fun _ U o U' => ∃ v L, o = .returned v ∧ (Q_rm5a Z a b i j h0 n0 v U'.heap L) ∧ FrameEnd U o U' L ({ frames := 0, cells := 0, slots := 0, locals := 0 } : Room).cells ({ frames := 0, cells := 0, slots := 0, locals := 0 } : Room).slots) := by
  refine MetFree.of_bodySF (plainFor_of_name pn_om_example_pico_z_picoz_types_GenericParameterType) hisR ?_
  intro p e s m args below meth c s₁ Bd hml0 hP hK
  obtain ⟨rfl, hZ, hh⟩ := hP
  have hx := Bd.exec
  have hby := Bd.bytes
  have hml : c.maxLocals = 2 := hml0
  have hown : s.vm.findClass "com/example/pico_z/picoz/types/GenericParameterType" = some m.cls := findClass_of_methodNamed Bd.named
  have hnm := (name_of_methodNamed Bd.named Bd.method).1
  have X0 : Stand p l e ({ frames := 0, cells := 0, slots := 0, locals := 0 } : Room) s m #[(.ref a), (.ref b)] below meth c s₁ [] 0 0 := Stand.of_body Bd
  have e0 : s₁.heap = h0 := by rw [← hh, Bd.state]; rfl
  have N0 := Fr.nil n0
  have pre0 : ∀ t, Steps p.tables e below (s₁.setTop (mkF m 0 #[.val (.ref a), .val (.ref b)] [])) t → Steps p.tables e below (s₁.setTop (entryFrame m #[(.ref a), (.ref b)] 2)) t := fun t kk => castTop (ef_RR m a b) kk
  obtain ⟨T1, X1, e1, st1⟩ := instY X0 hx hZ hown (hw _ (List.mem_of_getElem? (i := 28) rfl)) e0 (Ins.self E) (g := (mkF m 1 #[.val (.ref a), .val (.ref b)] [(.ref b)])) rfl rfl (hb hby d5_1)
  obtain ⟨T2, X2, e2, st2⟩ := getF X1 hx hZ hown (host := "") (Or.inl (hw _ (List.mem_of_getElem? (i := 21) rfl))) Via.refl e1 Fa (g := (mkF m 8 #[.val (.ref a), .val (.ref b)] [(.ref a)])) rfl rfl (hb hby d5_8)
  obtain ⟨T3, X3, e3, st3⟩ := castY X2 hx hZ hown (hw _ (List.mem_of_getElem? (i := 28) rfl)) e2 (Ins.self E) (g := (mkF m 12 #[.val (.ref a), .val (.ref b)] [(.ref b), (.int i)])) rfl rfl (hb hby d5_12)
  obtain ⟨T4, X4, e4, st4⟩ := getF X3 hx hZ hown (host := "") (Or.inl (hw _ (List.mem_of_getElem? (i := 21) rfl))) Via.refl e3 Fb (g := (mkF m 15 #[.val (.ref a), .val (.ref b)] [(.ref b), (.int i)])) rfl rfl (hb hby d5_15)
  obtain ⟨fs, hr, hrun, hended, hW, hsame⟩ := X4.leave (v := some (.int (1 : Int32))) (fun h => by rw [Bd.returns] at h; cases h)
  have eF : (T4.setFrames fs).heap = h0 := e4
  refine ⟨_, _, pre0 _ ?_, hrun, hended, _, _, rfl, ?_, ⟨_, rfl⟩, hW, hsame.mono (by decide) (by decide)⟩
  · show Steps p.tables e below (s₁.setTop (mkF m 0 #[.val (.ref a), .val (.ref b)] [])) _
    refine XS.aloadN X0.here hx rfl (hb hby d5_0) rfl rfl ?_
    show Steps p.tables e below (s₁.setTop (mkF m 1 #[.val (.ref a), .val (.ref b)] [(.ref b)])) _
    refine st1 _ ?_
    show Steps p.tables e below (T1.setTop (mkF m 4 #[.val (.ref a), .val (.ref b)] [(.int (1 : Int32))])) _
    refine XS.ifNo X1.here hx rfl (hb hby d5_4) rfl ((if0 _ _).trans (feq (by decide : ¬ ((1 : Int32) = (0 : Int32)))).1) ?_
    show Steps p.tables e below (T1.setTop (mkF m 7 #[.val (.ref a), .val (.ref b)] [])) _
    refine XS.aloadN X1.here hx rfl (hb hby d5_7) rfl rfl ?_
    show Steps p.tables e below (T1.setTop (mkF m 8 #[.val (.ref a), .val (.ref b)] [(.ref a)])) _
    refine st2 _ ?_
    show Steps p.tables e below (T2.setTop (mkF m 11 #[.val (.ref a), .val (.ref b)] [(.int i)])) _
    refine XS.aloadN X2.here hx rfl (hb hby d5_11) rfl rfl ?_
    show Steps p.tables e below (T2.setTop (mkF m 12 #[.val (.ref a), .val (.ref b)] [(.ref b), (.int i)])) _
    refine st3 _ ?_
    show Steps p.tables e below (T3.setTop (mkF m 15 #[.val (.ref a), .val (.ref b)] [(.ref b), (.int i)])) _
    refine st4 _ ?_
    show Steps p.tables e below (T4.setTop (mkF m 18 #[.val (.ref a), .val (.ref b)] [(.int j), (.int i)])) _
    refine XS.icmpNo X4.here hx rfl (hb hby d5_18) rfl (teq h).2 ?_
    show Steps p.tables e below (T4.setTop (mkF m 21 #[.val (.ref a), .val (.ref b)] [])) _
    refine XS.iconst X4.here hx rfl (hb hby d5_21) ?_
    show Steps p.tables e below (T4.setTop (mkF m 22 #[.val (.ref a), .val (.ref b)] [(.int (1 : Int32))])) _
    refine XS.goto X4.here hx rfl (pc0 := 22) (pc' := 26) rfl (hb hby d5_22) (by decide) (by decide) ?_
    show Steps p.tables e below (T4.setTop (mkF m 26 #[.val (.ref a), .val (.ref b)] [(.int (1 : Int32))])) _
    exact retN X4 hx (t := .boolean) Bd.returns (by simp) (hb hby d5_26) hr
  · exact ⟨rfl, N0, e4⟩
theorem d5_25 : decode prog_126_method_9_code 25 = .ok (.iconst 0, 1) := by decide +kernel
def Q_rm5b (Z : State) (a b : Addr) (i j : Int32) (h0 : Heap) (n0 : Nat) (v : Option Value) (hp : Heap) (L : List Loc) : Prop := v = some (.int 0) ∧ Fr n0 L ∧ hp = h0
set_option maxRecDepth 65536 in
set_option maxHeartbeats 40000000 in
theorem rm5b (l : Launch) (Z : State) (a0 : Array Value) (hw : ∀ d ∈ tables_1, d.before a0 Z = true) (ws : List Jvm.Cond) (a b : Addr) (i j : Int32) (h0 : Heap) (n0 : Nat) (Z0 : n0 ≤ h0.size) (E : Exa Z h0 b "com/example/pico_z/picoz/types/GenericParameterType") (Fa : Fld Z h0 a "com/example/pico_z/picoz/types/GenericParameterType" "index" "I" (.int i)) (Fb : Fld Z h0 b "com/example/pico_z/picoz/types/GenericParameterType" "index" "I" (.int j)) (h : ¬ i = j) :
    MetFree l (⟨"com/example/pico_z/picoz/types/GenericParameterType", "equals", "(Ljava/lang/Object;)Z"⟩ : MethodName) (head1 (Jvm.Cond.code (⟨"com/example/pico_z/picoz/types/GenericParameterType", "equals", "(Ljava/lang/Object;)Z"⟩ : MethodName) prog_126_method_9_code 2 (some .boolean) :: ws) ({ frames := 0, cells := 0, slots := 0, locals := 0 } : Room)) (fun aa U => aa = #[(.ref a), (.ref b)] ∧ Z.Warmed39 U.vm ∧ U.heap = h0) (fun _ _ _ _ _ => True) (fun _ U o U' => ∃ v L, o = .returned v ∧ (Q_rm5b Z a b i j h0 n0 v U'.heap L) ∧ FrameEnd U o U' L ({ frames := 0, cells := 0, slots := 0, locals := 0 } : Room).cells ({ frames := 0, cells := 0, slots := 0, locals := 0 } : Room).slots) := by
  refine MetFree.of_bodySF (plainFor_of_name pn_om_example_pico_z_picoz_types_GenericParameterType) hisR ?_
  intro p e s m args below meth c s₁ Bd hml0 hP hK
  obtain ⟨rfl, hZ, hh⟩ := hP
  have hx := Bd.exec
  have hby := Bd.bytes
  have hml : c.maxLocals = 2 := hml0
  have hown : s.vm.findClass "com/example/pico_z/picoz/types/GenericParameterType" = some m.cls := findClass_of_methodNamed Bd.named
  have hnm := (name_of_methodNamed Bd.named Bd.method).1
  have X0 : Stand p l e ({ frames := 0, cells := 0, slots := 0, locals := 0 } : Room) s m #[(.ref a), (.ref b)] below meth c s₁ [] 0 0 := Stand.of_body Bd
  have e0 : s₁.heap = h0 := by rw [← hh, Bd.state]; rfl
  have N0 := Fr.nil n0
  have pre0 : ∀ t, Steps p.tables e below (s₁.setTop (mkF m 0 #[.val (.ref a), .val (.ref b)] [])) t → Steps p.tables e below (s₁.setTop (entryFrame m #[(.ref a), (.ref b)] 2)) t := fun t kk => castTop (ef_RR m a b) kk
  obtain ⟨T1, X1, e1, st1⟩ := instY X0 hx hZ hown (hw _ (List.mem_of_getElem? (i := 28) rfl)) e0 (Ins.self E) (g := (mkF m 1 #[.val (.ref a), .val (.ref b)] [(.ref b)])) rfl rfl (hb hby d5_1)
  obtain ⟨T2, X2, e2, st2⟩ := getF X1 hx hZ hown (host := "") (Or.inl (hw _ (List.mem_of_getElem? (i := 21) rfl))) Via.refl e1 Fa (g := (mkF m 8 #[.val (.ref a), .val (.ref b)] [(.ref a)])) rfl rfl (hb hby d5_8)
  obtain ⟨T3, X3, e3, st3⟩ := castY X2 hx hZ hown (hw _ (List.mem_of_getElem? (i := 28) rfl)) e2 (Ins.self E) (g := (mkF m 12 #[.val (.ref a), .val (.ref b)] [(.ref b), (.int i)])) rfl rfl (hb hby d5_12)
  obtain ⟨T4, X4, e4, st4⟩ := getF X3 hx hZ hown (host := "") (Or.inl (hw _ (List.mem_of_getElem? (i := 21) rfl))) Via.refl e3 Fb (g := (mkF m 15 #[.val (.ref a), .val (.ref b)] [(.ref b), (.int i)])) rfl rfl (hb hby d5_15)
  obtain ⟨fs, hr, hrun, hended, hW, hsame⟩ := X4.leave (v := some (.int (0 : Int32))) (fun h => by rw [Bd.returns] at h; cases h)
  have eF : (T4.setFrames fs).heap = h0 := e4
  refine ⟨_, _, pre0 _ ?_, hrun, hended, _, _, rfl, ?_, ⟨_, rfl⟩, hW, hsame.mono (by decide) (by decide)⟩
  · show Steps p.tables e below (s₁.setTop (mkF m 0 #[.val (.ref a), .val (.ref b)] [])) _
    refine XS.aloadN X0.here hx rfl (hb hby d5_0) rfl rfl ?_
    show Steps p.tables e below (s₁.setTop (mkF m 1 #[.val (.ref a), .val (.ref b)] [(.ref b)])) _
    refine st1 _ ?_
    show Steps p.tables e below (T1.setTop (mkF m 4 #[.val (.ref a), .val (.ref b)] [(.int (1 : Int32))])) _
    refine XS.ifNo X1.here hx rfl (hb hby d5_4) rfl ((if0 _ _).trans (feq (by decide : ¬ ((1 : Int32) = (0 : Int32)))).1) ?_
    show Steps p.tables e below (T1.setTop (mkF m 7 #[.val (.ref a), .val (.ref b)] [])) _
    refine XS.aloadN X1.here hx rfl (hb hby d5_7) rfl rfl ?_
    show Steps p.tables e below (T1.setTop (mkF m 8 #[.val (.ref a), .val (.ref b)] [(.ref a)])) _
    refine st2 _ ?_
    show Steps p.tables e below (T2.setTop (mkF m 11 #[.val (.ref a), .val (.ref b)] [(.int i)])) _
    refine XS.aloadN X2.here hx rfl (hb hby d5_11) rfl rfl ?_
    show Steps p.tables e below (T2.setTop (mkF m 12 #[.val (.ref a), .val (.ref b)] [(.ref b), (.int i)])) _
    refine st3 _ ?_
    show Steps p.tables e below (T3.setTop (mkF m 15 #[.val (.ref a), .val (.ref b)] [(.ref b), (.int i)])) _
    refine st4 _ ?_
    show Steps p.tables e below (T4.setTop (mkF m 18 #[.val (.ref a), .val (.ref b)] [(.int j), (.int i)])) _
    refine XS.icmpYes X4.here hx rfl (pc0 := 18) (pc' := 25) rfl (hb hby d5_18) rfl (feq h).2 (by decide) (by decide) ?_
    show Steps p.tables e below (T4.setTop (mkF m 25 #[.val (.ref a), .val (.ref b)] [])) _
    refine XS.iconst X4.here hx rfl (hb hby d5_25) ?_
    show Steps p.tables e below (T4.setTop (mkF m 26 #[.val (.ref a), .val (.ref b)] [(.int (0 : Int32))])) _
    exact retN X4 hx (t := .boolean) Bd.returns (by simp) (hb hby d5_26) hr
  · exact ⟨rfl, N0, e4⟩
def Q_rm5c (Z : State) (a : Addr) (h0 : Heap) (n0 : Nat) (v : Option Value) (hp : Heap) (L : List Loc) : Prop := v = some (.int 0) ∧ Fr n0 L ∧ hp = h0
set_option maxRecDepth 65536 in
set_option maxHeartbeats 40000000 in
theorem rm5c (l : Launch) (Z : State) (a0 : Array Value) (hw : ∀ d ∈ tables_1, d.before a0 Z = true) (ws : List Jvm.Cond) (a : Addr) (h0 : Heap) (n0 : Nat) (Z0 : n0 ≤ h0.size)  :
    MetFree l (⟨"com/example/pico_z/picoz/types/GenericParameterType", "equals", "(Ljava/lang/Object;)Z"⟩ : MethodName) (head1 (Jvm.Cond.code (⟨"com/example/pico_z/picoz/types/GenericParameterType", "equals", "(Ljava/lang/Object;)Z"⟩ : MethodName) prog_126_method_9_code 2 (some .boolean) :: ws) ({ frames := 0, cells := 0, slots := 0, locals := 0 } : Room)) (fun aa U => aa = #[(.ref a), .null] ∧ Z.Warmed39 U.vm ∧ U.heap = h0) (fun _ _ _ _ _ => True) (fun _ U o U' => ∃ v L, o = .returned v ∧ (Q_rm5c Z a h0 n0 v U'.heap L) ∧ FrameEnd U o U' L ({ frames := 0, cells := 0, slots := 0, locals := 0 } : Room).cells ({ frames := 0, cells := 0, slots := 0, locals := 0 } : Room).slots) := by
  refine MetFree.of_bodySF (plainFor_of_name pn_om_example_pico_z_picoz_types_GenericParameterType) hisR ?_
  intro p e s m args below meth c s₁ Bd hml0 hP hK
  obtain ⟨rfl, hZ, hh⟩ := hP
  have hx := Bd.exec
  have hby := Bd.bytes
  have hml : c.maxLocals = 2 := hml0
  have hown : s.vm.findClass "com/example/pico_z/picoz/types/GenericParameterType" = some m.cls := findClass_of_methodNamed Bd.named
  have hnm := (name_of_methodNamed Bd.named Bd.method).1
  have X0 : Stand p l e ({ frames := 0, cells := 0, slots := 0, locals := 0 } : Room) s m #[(.ref a), .null] below meth c s₁ [] 0 0 := Stand.of_body Bd
  have e0 : s₁.heap = h0 := by rw [← hh, Bd.state]; rfl
  have N0 := Fr.nil n0
  have pre0 : ∀ t, Steps p.tables e below (s₁.setTop (mkF m 0 #[.val (.ref a), .val .null] [])) t → Steps p.tables e below (s₁.setTop (entryFrame m #[(.ref a), .null] 2)) t := fun t kk => castTop (ef_RN m a) kk
  obtain ⟨fs, hr, hrun, hended, hW, hsame⟩ := X0.leave (v := some (.int (0 : Int32))) (fun h => by rw [Bd.returns] at h; cases h)
  have eF : (s₁.setFrames fs).heap = h0 := e0
  refine ⟨_, _, pre0 _ ?_, hrun, hended, _, _, rfl, ?_, ⟨_, rfl⟩, hW, hsame.mono (by decide) (by decide)⟩
  · show Steps p.tables e below (s₁.setTop (mkF m 0 #[.val (.ref a), .val .null] [])) _
    refine XS.aloadN X0.here hx rfl (hb hby d5_0) rfl rfl ?_
    show Steps p.tables e below (s₁.setTop (mkF m 1 #[.val (.ref a), .val .null] [.null])) _
    refine X0.instanceofNull hx (g := (mkF m 1 #[.val (.ref a), .val .null] [.null])) rfl rfl (hb hby d5_1) _ ?_
    show Steps p.tables e below (s₁.setTop (mkF m 4 #[.val (.ref a), .val .null] [(.int (0 : Int32))])) _
    refine XS.ifYes X0.here hx rfl (pc0 := 4) (pc' := 25) rfl (hb hby d5_4) rfl ((if0 _ _).trans (teq (rfl : (0 : Int32) = 0)).1) (by decide) (by decide) ?_
    show Steps p.tables e below (s₁.setTop (mkF m 25 #[.val (.ref a), .val .null] [])) _
    refine XS.iconst X0.here hx rfl (hb hby d5_25) ?_
    show Steps p.tables e below (s₁.setTop (mkF m 26 #[.val (.ref a), .val .null] [(.int (0 : Int32))])) _
    exact retN X0 hx (t := .boolean) Bd.returns (by simp) (hb hby d5_26) hr
  · exact ⟨rfl, N0, e0⟩
def Q_rm5d (Z : State) (a b : Addr) (C : String) (h0 : Heap) (n0 : Nat) (v : Option Value) (hp : Heap) (L : List Loc) : Prop := v = some (.int 0) ∧ Fr n0 L ∧ hp = h0
set_option maxRecDepth 65536 in
set_option maxHeartbeats 40000000 in
theorem rm5d (l : Launch) (Z : State) (a0 : Array Value) (hw : ∀ d ∈ tables_1, d.before a0 Z = true) (ws : List Jvm.Cond) (a b : Addr) (C : String) (h0 : Heap) (n0 : Nat) (Z0 : n0 ≤ h0.size) (E : Exa Z h0 b C) (NA : ∃ c t, Z.vm.findClass C = some c ∧ Z.vm.findClass "com/example/pico_z/picoz/types/GenericParameterType" = some t ∧ Z.vm.assignable c t = false) :
    MetFree l (⟨"com/example/pico_z/picoz/types/GenericParameterType", "equals", "(Ljava/lang/Object;)Z"⟩ : MethodName) (head1 (Jvm.Cond.code (⟨"com/example/pico_z/picoz/types/GenericParameterType", "equals", "(Ljava/lang/Object;)Z"⟩ : MethodName) prog_126_method_9_code 2 (some .boolean) :: ws) ({ frames := 0, cells := 0, slots := 0, locals := 0 } : Room)) (fun aa U => aa = #[(.ref a), (.ref b)] ∧ Z.Warmed39 U.vm ∧ U.heap = h0) (fun _ _ _ _ _ => True) (fun _ U o U' => ∃ v L, o = .returned v ∧ (Q_rm5d Z a b C h0 n0 v U'.heap L) ∧ FrameEnd U o U' L ({ frames := 0, cells := 0, slots := 0, locals := 0 } : Room).cells ({ frames := 0, cells := 0, slots := 0, locals := 0 } : Room).slots) := by
  refine MetFree.of_bodySF (plainFor_of_name pn_om_example_pico_z_picoz_types_GenericParameterType) hisR ?_
  intro p e s m args below meth c s₁ Bd hml0 hP hK
  obtain ⟨rfl, hZ, hh⟩ := hP
  have hx := Bd.exec
  have hby := Bd.bytes
  have hml : c.maxLocals = 2 := hml0
  have hown : s.vm.findClass "com/example/pico_z/picoz/types/GenericParameterType" = some m.cls := findClass_of_methodNamed Bd.named
  have hnm := (name_of_methodNamed Bd.named Bd.method).1
  have X0 : Stand p l e ({ frames := 0, cells := 0, slots := 0, locals := 0 } : Room) s m #[(.ref a), (.ref b)] below meth c s₁ [] 0 0 := Stand.of_body Bd
  have e0 : s₁.heap = h0 := by rw [← hh, Bd.state]; rfl
  have N0 := Fr.nil n0
  have pre0 : ∀ t, Steps p.tables e below (s₁.setTop (mkF m 0 #[.val (.ref a), .val (.ref b)] [])) t → Steps p.tables e below (s₁.setTop (entryFrame m #[(.ref a), (.ref b)] 2)) t := fun t kk => castTop (ef_RR m a b) kk
  obtain ⟨T1, X1, e1, st1⟩ := instNo X0 hx hZ hown (hw _ (List.mem_of_getElem? (i := 28) rfl)) e0 E NA (g := (mkF m 1 #[.val (.ref a), .val (.ref b)] [(.ref b)])) rfl rfl (hb hby d5_1)
  obtain ⟨fs, hr, hrun, hended, hW, hsame⟩ := X1.leave (v := some (.int (0 : Int32))) (fun h => by rw [Bd.returns] at h; cases h)
  have eF : (T1.setFrames fs).heap = h0 := e1
  refine ⟨_, _, pre0 _ ?_, hrun, hended, _, _, rfl, ?_, ⟨_, rfl⟩, hW, hsame.mono (by decide) (by decide)⟩
  · show Steps p.tables e below (s₁.setTop (mkF m 0 #[.val (.ref a), .val (.ref b)] [])) _
    refine XS.aloadN X0.here hx rfl (hb hby d5_0) rfl rfl ?_
    show Steps p.tables e below (s₁.setTop (mkF m 1 #[.val (.ref a), .val (.ref b)] [(.ref b)])) _
    refine st1 _ ?_
    show Steps p.tables e below (T1.setTop (mkF m 4 #[.val (.ref a), .val (.ref b)] [(.int (0 : Int32))])) _
    refine XS.ifYes X1.here hx rfl (pc0 := 4) (pc' := 25) rfl (hb hby d5_4) rfl ((if0 _ _).trans (teq (rfl : (0 : Int32) = 0)).1) (by decide) (by decide) ?_
    show Steps p.tables e below (T1.setTop (mkF m 25 #[.val (.ref a), .val (.ref b)] [])) _
    refine XS.iconst X1.here hx rfl (hb hby d5_25) ?_
    show Steps p.tables e below (T1.setTop (mkF m 26 #[.val (.ref a), .val (.ref b)] [(.int (0 : Int32))])) _
    exact retN X1 hx (t := .boolean) Bd.returns (by simp) (hb hby d5_26) hr
  · exact ⟨rfl, N0, e1⟩
theorem pn_java_lang_Number : plainName "java/lang/Number" = true := by first | (simp [plainName, overriddenIn]; done) | decide +kernel
theorem d8_0 : decode jdk_18_method_1_code 0 = .ok (.aload_n 0, 1) := by decide +kernel
theorem d8_1 : decode jdk_18_method_1_code 1 = .ok (.invokespecial 1, 3) := by decide +kernel
theorem d8_4 : decode jdk_18_method_1_code 4 = .ok (.return_, 1) := by decide +kernel
def Q_rm8 (Z : State) (a : Addr) (h0 : Heap) (n0 : Nat) (v : Option Value) (hp : Heap) (L : List Loc) : Prop := v = none ∧ Fr n0 L ∧ hp = h0
set_option maxRecDepth 65536 in
set_option maxHeartbeats 40000000 in
theorem rm8 (l : Launch) (Z : State) (a0 : Array Value) (hw : ∀ d ∈ tables_1, d.before a0 Z = true) (ws : List Jvm.Cond) (a : Addr) (h0 : Heap) (n0 : Nat) (Z0 : n0 ≤ h0.size)  :
    MetFree l (⟨"java/lang/Number", "<init>", "()V"⟩ : MethodName) (head1 (Jvm.Cond.code (⟨"java/lang/Number", "<init>", "()V"⟩ : MethodName) jdk_18_method_1_code 1 none :: ws) ({ frames := 1, cells := 0, slots := 0, locals := 12 } : Room)) (fun aa U => aa = #[(.ref a)] ∧ Z.Warmed39 U.vm ∧ U.heap = h0) (fun _ _ _ _ _ => True) (fun _ U o U' => ∃ v L, o = .returned v ∧ (Q_rm8 Z a h0 n0 v U'.heap L) ∧ FrameEnd U o U' L ({ frames := 1, cells := 0, slots := 0, locals := 12 } : Room).cells ({ frames := 1, cells := 0, slots := 0, locals := 12 } : Room).slots) := by
  refine MetFree.of_bodySF (plainFor_of_name pn_java_lang_Number) hisR ?_
  intro p e s m args below meth c s₁ Bd hml0 hP hK
  obtain ⟨rfl, hZ, hh⟩ := hP
  have hx := Bd.exec
  have hby := Bd.bytes
  have hml : c.maxLocals = 1 := hml0
  have hown : s.vm.findClass "java/lang/Number" = some m.cls := findClass_of_methodNamed Bd.named
  have hnm := (name_of_methodNamed Bd.named Bd.method).1
  have X0 : Stand p l e ({ frames := 1, cells := 0, slots := 0, locals := 12 } : Room) s m #[(.ref a)] below meth c s₁ [] 0 0 := Stand.of_body Bd
  have e0 : s₁.heap = h0 := by rw [← hh, Bd.state]; rfl
  have N0 := Fr.nil n0
  have pre0 : ∀ t, Steps p.tables e below (s₁.setTop (mkF m 0 #[.val (.ref a)] [])) t → Steps p.tables e below (s₁.setTop (entryFrame m #[(.ref a)] 1)) t := fun t kk => castTop (ef_R m a) kk
  obtain ⟨T1, X1, e1, st1⟩ := initO X0 hx hZ hown (hw _ (List.mem_of_getElem? (i := 52) rfl)) (hw _ (List.mem_of_getElem? (i := 17) rfl)) (hw _ (List.mem_of_getElem? (i := 18) rfl)) e0 (g := (mkF m 1 #[.val (.ref a)] [(.ref a)])) rfl (by rw [hml]; rfl) rfl (hb hby d8_1) (by decide) (W := 0) (by show 2 * 0 + _ ≤ _; exact Nat.le_of_eq rfl) (by decide)
  obtain ⟨fs, hr, hrun, hended, hW, hsame⟩ := X1.leave (v := none) (fun _ => rfl)
  have eF : (T1.setFrames fs).heap = h0 := e1
  refine ⟨_, _, pre0 _ ?_, hrun, hended, _, _, rfl, ?_, ⟨_, rfl⟩, hW, hsame.mono (by decide) (by decide)⟩
  · show Steps p.tables e below (s₁.setTop (mkF m 0 #[.val (.ref a)] [])) _
    refine XS.aloadN X0.here hx rfl (hb hby d8_0) rfl rfl ?_
    show Steps p.tables e below (s₁.setTop (mkF m 1 #[.val (.ref a)] [(.ref a)])) _
    refine st1 _ ?_
    show Steps p.tables e below (T1.setTop (mkF m 4 #[.val (.ref a)] [])) _
    exact X1.returnOut hx Bd.returns (hb hby d8_4) hr
  · exact ⟨rfl, N0, e1⟩
theorem pn_java_lang_Integer : plainName "java/lang/Integer" = true := by first | (simp [plainName, overriddenIn]; done) | decide +kernel
theorem d7_0 : decode jdk_33_method_23_code 0 = .ok (.aload_n 0, 1) := by decide +kernel
theorem pd__RV : parseMethodDescriptor "()V" = some ⟨[], none⟩ := by decide +kernel
theorem d7_1 : decode jdk_33_method_23_code 1 = .ok (.invokespecial 202, 3) := by decide +kernel
theorem d7_4 : decode jdk_33_method_23_code 4 = .ok (.aload_n 0, 1) := by decide +kernel
theorem d7_5 : decode jdk_33_method_23_code 5 = .ok (.iload_n 1, 1) := by decide +kernel
theorem d7_6 : decode jdk_33_method_23_code 6 = .ok (.putfield 205, 3) := by decide +kernel
theorem d7_9 : decode jdk_33_method_23_code 9 = .ok (.return_, 1) := by decide +kernel
def Q_rm7 (Z : State) (a : Addr) (k : Int32) (u : Value) (h0 : Heap) (n0 : Nat) (v : Option Value) (hp : Heap) (L : List Loc) : Prop := v = none ∧ Fr n0 L ∧ Keep h0 hp [a]
set_option maxRecDepth 65536 in
set_option maxHeartbeats 40000000 in
theorem rm7 (l : Launch) (Z : State) (a0 : Array Value) (hw : ∀ d ∈ tables_1, d.before a0 Z = true) (ws : List Jvm.Cond) (a : Addr) (k : Int32) (u : Value) (h0 : Heap) (n0 : Nat) (Z0 : n0 ≤ h0.size) (E : Exa Z h0 a "java/lang/Integer") (F : Fld Z h0 a "java/lang/Integer" "value" "I" u) (ge : n0 ≤ a) :
    MetFree l (⟨"java/lang/Integer", "<init>", "(I)V"⟩ : MethodName) (head1 (Jvm.Cond.code (⟨"java/lang/Integer", "<init>", "(I)V"⟩ : MethodName) jdk_33_method_23_code 2 none :: ws) ({ frames := 2, cells := 0, slots := 0, locals := 24 } : Room)) (fun aa U => aa = #[(.ref a), (.int k)] ∧ Z.Warmed39 U.vm ∧ U.heap = h0) (fun _ _ _ _ _ => True) (fun _ U o U' => ∃ v L, o = .returned v ∧ (Q_rm7 Z a k u h0 n0 v U'.heap L) ∧ FrameEnd U o U' L ({ frames := 2, cells := 0, slots := 0, locals := 24 } : Room).cells ({ frames := 2, cells := 0, slots := 0, locals := 24 } : Room).slots) := by
  refine MetFree.of_bodySF (plainFor_of_name pn_java_lang_Integer) hisR ?_
  intro p e s m args below meth c s₁ Bd hml0 hP hK
  obtain ⟨rfl, hZ, hh⟩ := hP
  have hx := Bd.exec
  have hby := Bd.bytes
  have hml : c.maxLocals = 2 := hml0
  have hown : s.vm.findClass "java/lang/Integer" = some m.cls := findClass_of_methodNamed Bd.named
  have hnm := (name_of_methodNamed Bd.named Bd.method).1
  have X0 : Stand p l e ({ frames := 2, cells := 0, slots := 0, locals := 24 } : Room) s m #[(.ref a), (.int k)] below meth c s₁ [] 0 0 := Stand.of_body Bd
  have e0 : s₁.heap = h0 := by rw [← hh, Bd.state]; rfl
  have N0 := Fr.nil n0
  have pre0 : ∀ t, Steps p.tables e below (s₁.setTop (mkF m 0 #[.val (.ref a), .val (.int k)] [])) t → Steps p.tables e below (s₁.setTop (entryFrame m #[(.ref a), (.int k)] 2)) t := fun t kk => castTop (ef_RI m a k) kk
  obtain ⟨_, _, ⟨T1, L1, k1, n1⟩, -, X1, ⟨Lc1, hQ1, l1, y1, z1⟩, st1⟩ := X0.specialBack hx (y := (⟨"java/lang/Number", "<init>", "()V"⟩ : MethodName)) rfl hown (mvT hZ (hw _ (List.mem_of_getElem? (i := 46) rfl))) (mvT hZ (hw _ (List.mem_of_getElem? (i := 47) rfl))) (mvT hZ (hw _ (List.mem_of_getElem? (i := 51) rfl))) (by decide) (backOf (W := 0) (rm8 l Z a0 hw [] a h0 n0 Z0) hZ (hw _ (List.mem_of_getElem? (i := 51) rfl)) (hw _ (List.mem_of_getElem? (i := 50) rfl)) (by decide) (by decide)) (g := (mkF m 1 #[.val (.ref a), .val (.int k)] [(.ref a)])) rfl (by rw [hml]; rfl) (Steps.refl _) (a := a) (argsL := []) (rest := []) (lenOf pd__RV rfl) rfl (by show 2 * 0 + _ ≤ _; exact Nat.le_of_eq rfl) (hb hby d7_1) (fun _ _ => ⟨rfl, e0, (by decide : 0 + 0 ≤ _), (by decide : 0 + 0 ≤ _)⟩)
  dsimp only [Pt.U, Pt.locs, Pt.cells, Pt.slots] at X1 l1 y1 z1 st1 hQ1
  subst l1 y1 z1
  obtain ⟨rfl, N1q, eh1⟩ := hQ1
  have N1 := Fr.app N0 N1q
  obtain ⟨T2, h2, X2, e2, W2, st2⟩ := putF X1 hx hZ hown (host := "") (Or.inl (hw _ (List.mem_of_getElem? (i := 53) rfl))) Via.refl eh1 F E (Or.inr ⟨(hw _ (List.mem_of_getElem? (i := 54) rfl)), rfl, hnm⟩) (hw _ (List.mem_of_getElem? (i := 41) rfl)) (ty := .int) (by decide) rfl rfl (g := (mkF m 6 #[.val (.ref a), .val (.int k)] [(.int k), (.ref a)])) rfl rfl (hb hby d7_6)
  have N2 := Fr.snoc X2 N1 ge
  obtain ⟨fs, hr, hrun, hended, hW, hsame⟩ := X2.leave (v := none) (fun _ => rfl)
  have eF : (T2.setFrames fs).heap = h2 := e2
  refine ⟨_, _, pre0 _ ?_, hrun, hended, _, _, rfl, ?_, ⟨_, rfl⟩, hW, hsame.mono (by decide) (by decide)⟩
  · show Steps p.tables e below (s₁.setTop (mkF m 0 #[.val (.ref a), .val (.int k)] [])) _
    refine XS.aloadN X0.here hx rfl (hb hby d7_0) rfl rfl ?_
    show Steps p.tables e below (s₁.setTop (mkF m 1 #[.val (.ref a), .val (.int k)] [(.ref a)])) _
    refine st1.trans ?_
    show Steps p.tables e below (T1.setTop (mkF m 4 #[.val (.ref a), .val (.int k)] [])) _
    refine XS.aloadN X1.here hx rfl (hb hby d7_4) rfl rfl ?_
    show Steps p.tables e below (T1.setTop (mkF m 5 #[.val (.ref a), .val (.int k)] [(.ref a)])) _
    refine XS.iloadN X1.here hx rfl (hb hby d7_5) rfl ?_
    show Steps p.tables e below (T1.setTop (mkF m 6 #[.val (.ref a), .val (.int k)] [(.int k), (.ref a)])) _
    refine st2 _ ?_
    show Steps p.tables e below (T2.setTop (mkF m 9 #[.val (.ref a), .val (.int k)] [])) _
    exact X2.returnOut hx Bd.returns (hb hby d7_9) hr
  · exact ⟨rfl, N2, by rw [eF]; exact (Keep.refl h0 [a]).wr W2 (Or.inl (List.mem_of_getElem? (i := 0) rfl))⟩
theorem d6_0 : decode jdk_33_method_22_code 0 = .ok (.iload_n 0, 1) := by decide +kernel
theorem d6_1 : decode jdk_33_method_22_code 1 = .ok (.bipush (-128), 2) := by decide +kernel
theorem d6_3 : decode jdk_33_method_22_code 3 = .ok (.if_icmp .lt 20, 3) := by decide +kernel
theorem d6_6 : decode jdk_33_method_22_code 6 = .ok (.iload_n 0, 1) := by decide +kernel
theorem d6_7 : decode jdk_33_method_22_code 7 = .ok (.getstatic 191, 3) := by decide +kernel
theorem d6_10 : decode jdk_33_method_22_code 10 = .ok (.if_icmp .gt 13, 3) := by decide +kernel
theorem d6_23 : decode jdk_33_method_22_code 23 = .ok (.new 1, 3) := by decide +kernel
theorem d6_26 : decode jdk_33_method_22_code 26 = .ok (.dup, 1) := by decide +kernel
theorem d6_27 : decode jdk_33_method_22_code 27 = .ok (.iload_n 0, 1) := by decide +kernel
theorem d6_28 : decode jdk_33_method_22_code 28 = .ok (.invokespecial 199, 3) := by decide +kernel
theorem d6_31 : decode jdk_33_method_22_code 31 = .ok (.areturn, 1) := by decide +kernel
def Q_rm6a (Z : State) (k : Int32) (h0 : Heap) (n0 : Nat) (v : Option Value) (hp : Heap) (L : List Loc) : Prop := ∃ b : Addr, v = some (.ref b) ∧ Fr n0 L ∧ Keep h0 hp [] ∧ Exa Z hp b "java/lang/Integer"
set_option maxRecDepth 65536 in
set_option maxHeartbeats 40000000 in
theorem rm6a (l : Launch) (Z : State) (a0 : Array Value) (hw : ∀ d ∈ tables_1, d.before a0 Z = true) (ws : List Jvm.Cond) (k : Int32) (h0 : Heap) (n0 : Nat) (Z0 : n0 ≤ h0.size) (SHi : Sta Z h0 "java/lang/Integer$IntegerCache" "high" "I" (.int (127 : Int32))) (hk : ¬ k < (-128 : Int32)) (hk' : (127 : Int32) < k) :
    MetFree l (⟨"java/lang/Integer", "valueOf", "(I)Ljava/lang/Integer;"⟩ : MethodName) (head1 (Jvm.Cond.code (⟨"java/lang/Integer", "valueOf", "(I)Ljava/lang/Integer;"⟩ : MethodName) jdk_33_method_22_code 1 (some (.object "java/lang/Integer")) :: ws) ({ frames := 3, cells := 1, slots := 1, locals := 38 } : Room)) (fun aa U => aa = #[(.int k)] ∧ Z.Warmed39 U.vm ∧ U.heap = h0) (fun _ _ _ _ _ => True) (fun _ U o U' => ∃ v L, o = .returned v ∧ (Q_rm6a Z k h0 n0 v U'.heap L) ∧ FrameEnd U o U' L ({ frames := 3, cells := 1, slots := 1, locals := 38 } : Room).cells ({ frames := 3, cells := 1, slots := 1, locals := 38 } : Room).slots) := by
  refine MetFree.of_bodySF (plainFor_of_name pn_java_lang_Integer) hisR ?_
  intro p e s m args below meth c s₁ Bd hml0 hP hK
  obtain ⟨rfl, hZ, hh⟩ := hP
  have hx := Bd.exec
  have hby := Bd.bytes
  have hml : c.maxLocals = 1 := hml0
  have hown : s.vm.findClass "java/lang/Integer" = some m.cls := findClass_of_methodNamed Bd.named
  have hnm := (name_of_methodNamed Bd.named Bd.method).1
  have X0 : Stand p l e ({ frames := 3, cells := 1, slots := 1, locals := 38 } : Room) s m #[(.int k)] below meth c s₁ [] 0 0 := Stand.of_body Bd
  have e0 : s₁.heap = h0 := by rw [← hh, Bd.state]; rfl
  have N0 := Fr.nil n0
  have pre0 : ∀ t, Steps p.tables e below (s₁.setTop (mkF m 0 #[.val (.int k)] [])) t → Steps p.tables e below (s₁.setTop (entryFrame m #[(.int k)] 1)) t := fun t kk => castTop (ef_I m k) kk
  obtain ⟨T1, X1, e1, st1⟩ := getS2 X0 hx hZ hown (host := "") (Or.inl (hw _ (List.mem_of_getElem? (i := 34) rfl))) Via.refl e0 SHi (g := (mkF m 7 #[.val (.int k)] [(.int k)])) rfl (hb hby d6_7)
  obtain ⟨T2, h2, X2, e2, E2, A2, D2, -, st2⟩ := newO X1 hx hZ hown (hw _ (List.mem_of_getElem? (i := 40) rfl)) (hw _ (List.mem_of_getElem? (i := 41) rfl)) (hw _ (List.mem_of_getElem? (i := 32) rfl)) e1 (g := (mkF m 23 #[.val (.int k)] [])) rfl (hb hby d6_23) (by decide) (by decide)
  obtain ⟨b2, g2⟩ : ∃ z, z = h0.size := ⟨_, rfl⟩
  rw [← g2] at A2 D2 st2
  have Fv := D2 (Or.inr (hw _ (List.mem_of_getElem? (i := 54) rfl))) (ty := .int) (by decide)
  have gb : n0 ≤ b2 := Nat.le_trans Z0 (Nat.le_of_eq g2.symm)
  obtain ⟨_, _, ⟨T3, L3, k3, n3⟩, -, X3, ⟨Lc3, hQ3, l3, y3, z3⟩, st3⟩ := X2.specialBack hx (y := (⟨"java/lang/Integer", "<init>", "(I)V"⟩ : MethodName)) rfl hown (mvT hZ (hw _ (List.mem_of_getElem? (i := 42) rfl))) (mvT hZ (hw _ (List.mem_of_getElem? (i := 43) rfl))) (mvT hZ (hw _ (List.mem_of_getElem? (i := 45) rfl))) (by decide) (backOf (W := 1) (rm7 l Z a0 hw [] b2 k _ h2 n0 (Nat.le_trans Z0 E2.1) A2 Fv gb) hZ (hw _ (List.mem_of_getElem? (i := 45) rfl)) (hw _ (List.mem_of_getElem? (i := 32) rfl)) (by decide) (by decide)) (g := (mkF m 28 #[.val (.int k)] [(.int k), (.ref b2), (.ref b2)])) rfl (by rw [hml]; rfl) (Steps.refl _) (a := b2) (argsL := [(.int k)]) (rest := [(.ref b2)]) (lenOf pd__IRV rfl) rfl (by show 2 * 0 + _ ≤ _; exact Nat.le_of_eq rfl) (hb hby d6_28) (fun _ _ => ⟨rfl, e2, (by decide : 1 + 0 ≤ _), (by decide : 1 + 0 ≤ _)⟩)
  dsimp only [Pt.U, Pt.locs, Pt.cells, Pt.slots] at X3 l3 y3 z3 st3 hQ3
  subst l3 y3 z3
  obtain ⟨rfl, N3q, K3⟩ := hQ3
  have N3 := Fr.app N0 N3q
  obtain ⟨fs, hr, hrun, hended, hW, hsame⟩ := X3.leave (v := some (.ref b2)) (fun h => by rw [Bd.returns] at h; cases h)
  have eF : (T3.setFrames fs).heap = T3.heap := rfl
  refine ⟨_, _, pre0 _ ?_, hrun, hended, _, _, rfl, ?_, ⟨_, rfl⟩, hW, hsame.mono (by decide) (by decide)⟩
  · show Steps p.tables e below (s₁.setTop (mkF m 0 #[.val (.int k)] [])) _
    refine XS.iloadN X0.here hx rfl (hb hby d6_0) rfl ?_
    show Steps p.tables e below (s₁.setTop (mkF m 1 #[.val (.int k)] [(.int k)])) _
    refine XS.bipush X0.here hx rfl (hb hby d6_1) ?_
    show Steps p.tables e below (s₁.setTop (mkF m 3 #[.val (.int k)] [(.int (-128 : Int32)), (.int k)])) _
    refine XS.icmpNo X0.here hx rfl (hb hby d6_3) rfl (flt hk).1 ?_
    show Steps p.tables e below (s₁.setTop (mkF m 6 #[.val (.int k)] [])) _
    refine XS.iloadN X0.here hx rfl (hb hby d6_6) rfl ?_
    show Steps p.tables e below (s₁.setTop (mkF m 7 #[.val (.int k)] [(.int k)])) _
    refine st1 _ ?_
    show Steps p.tables e below (T1.setTop (mkF m 10 #[.val (.int k)] [(.int (127 : Int32)), (.int k)])) _
    refine XS.icmpYes X1.here hx rfl (pc0 := 10) (pc' := 23) rfl (hb hby d6_10) rfl (tlt hk').2.2.1 (by decide) (by decide) ?_
    show Steps p.tables e below (T1.setTop (mkF m 23 #[.val (.int k)] [])) _
    refine st2 _ ?_
    show Steps p.tables e below (T2.setTop (mkF m 26 #[.val (.int k)] [(.ref b2)])) _
    refine XS.dup X2.here hx rfl (hb hby d6_26) rfl rfl ?_
    show Steps p.tables e below (T2.setTop (mkF m 27 #[.val (.int k)] [(.ref b2), (.ref b2)])) _
    refine XS.iloadN X2.here hx rfl (hb hby d6_27) rfl ?_
    show Steps p.tables e below (T2.setTop (mkF m 28 #[.val (.int k)] [(.int k), (.ref b2), (.ref b2)])) _
    refine st3.trans ?_
    show Steps p.tables e below (T3.setTop (mkF m 31 #[.val (.int k)] [(.ref b2)])) _
    exact own_retA X3 hx Bd.returns rfl rfl rfl (hb hby d6_31) hr
  · exact ⟨b2, rfl, N3, ((Keep.refl h0 []).ext E2).trans K3 (fun x hx => by cases List.mem_singleton.mp hx; exact Or.inr (Nat.le_of_eq g2.symm)), A2.keep K3⟩
theorem d6_13 : decode jdk_33_method_22_code 13 = .ok (.getstatic 195, 3) := by decide +kernel
theorem d6_16 : decode jdk_33_method_22_code 16 = .ok (.iload_n 0, 1) := by decide +kernel
theorem d6_17 : decode jdk_33_method_22_code 17 = .ok (.sipush 128, 3) := by decide +kernel
theorem d6_20 : decode jdk_33_method_22_code 20 = .ok (.iadd, 1) := by decide +kernel
theorem d6_21 : decode jdk_33_method_22_code 21 = .ok (.aaload, 1) := by decide +kernel
theorem d6_22 : decode jdk_33_method_22_code 22 = .ok (.areturn, 1) := by decide +kernel
def Q_rm6b (Z : State) (k : Int32) (wc : Addr) (cl : Cell) (b : Addr) (h0 : Heap) (n0 : Nat) (v : Option Value) (hp : Heap) (L : List Loc) : Prop := ∃ b : Addr, v = some (.ref b) ∧ Fr n0 L ∧ Keep h0 hp [] ∧ Exa Z hp b "java/lang/Integer"
set_option maxRecDepth 65536 in
set_option maxHeartbeats 40000000 in
theorem rm6b (l : Launch) (Z : State) (a0 : Array Value) (hw : ∀ d ∈ tables_1, d.before a0 Z = true) (ws : List Jvm.Cond) (k : Int32) (wc : Addr) (cl : Cell) (b : Addr) (h0 : Heap) (n0 : Nat) (Z0 : n0 ≤ h0.size) (SHi : Sta Z h0 "java/lang/Integer$IntegerCache" "high" "I" (.int (127 : Int32))) (SCa : Sta Z h0 "java/lang/Integer$IntegerCache" "cache" "[Ljava/lang/Integer;" (.ref wc)) (hk : ¬ k < (-128 : Int32)) (hk' : ¬ (127 : Int32) < k) (Ar : Arr Z h0 wc cl (.object "java/lang/Integer")) (hin : ¬ ((k + (128 : Int32)) < 0 ∨ cl.slots.size ≤ (k + (128 : Int32)).toNatClampNeg)) (hat : cl.slots[(k + (128 : Int32)).toNatClampNeg]? = some (.ref b)) (Eb : Exa Z h0 b "java/lang/Integer") :
    MetFree l (⟨"java/lang/Integer", "valueOf", "(I)Ljava/lang/Integer;"⟩ : MethodName) (head1 (Jvm.Cond.code (⟨"java/lang/Integer", "valueOf", "(I)Ljava/lang/Integer;"⟩ : MethodName) jdk_33_method_22_code 1 (some (.object "java/lang/Integer")) :: ws) ({ frames := 3, cells := 1, slots := 1, locals := 38 } : Room)) (fun aa U => aa = #[(.int k)] ∧ Z.Warmed39 U.vm ∧ U.heap = h0) (fun _ _ _ _ _ => True) (fun _ U o U' => ∃ v L, o = .returned v ∧ (Q_rm6b Z k wc cl b h0 n0 v U'.heap L) ∧ FrameEnd U o U' L ({ frames := 3, cells := 1, slots := 1, locals := 38 } : Room).cells ({ frames := 3, cells := 1, slots := 1, locals := 38 } : Room).slots) := by
  refine MetFree.of_bodySF (plainFor_of_name pn_java_lang_Integer) hisR ?_
  intro p e s m args below meth c s₁ Bd hml0 hP hK
  obtain ⟨rfl, hZ, hh⟩ := hP
  have hx := Bd.exec
  have hby := Bd.bytes
  have hml : c.maxLocals = 1 := hml0
  have hown : s.vm.findClass "java/lang/Integer" = some m.cls := findClass_of_methodNamed Bd.named
  have hnm := (name_of_methodNamed Bd.named Bd.method).1
  have X0 : Stand p l e ({ frames := 3, cells := 1, slots := 1, locals := 38 } : Room) s m #[(.int k)] below meth c s₁ [] 0 0 := Stand.of_body Bd
  have e0 : s₁.heap = h0 := by rw [← hh, Bd.state]; rfl
  have N0 := Fr.nil n0
  have pre0 : ∀ t, Steps p.tables e below (s₁.setTop (mkF m 0 #[.val (.int k)] [])) t → Steps p.tables e below (s₁.setTop (entryFrame m #[(.int k)] 1)) t := fun t kk => castTop (ef_I m k) kk
  obtain ⟨T1, X1, e1, st1⟩ := getS2 X0 hx hZ hown (host := "") (Or.inl (hw _ (List.mem_of_getElem? (i := 34) rfl))) Via.refl e0 SHi (g := (mkF m 7 #[.val (.int k)] [(.int k)])) rfl (hb hby d6_7)
  obtain ⟨T2, X2, e2, st2⟩ := getS2 X1 hx hZ hown (host := "") (Or.inl (hw _ (List.mem_of_getElem? (i := 36) rfl))) Via.refl e1 SCa (g := (mkF m 13 #[.val (.int k)] [])) rfl (hb hby d6_13)
  obtain ⟨fs, hr, hrun, hended, hW, hsame⟩ := X2.leave (v := some (.ref b)) (fun h => by rw [Bd.returns] at h; cases h)
  have eF : (T2.setFrames fs).heap = h0 := e2
  refine ⟨_, _, pre0 _ ?_, hrun, hended, _, _, rfl, ?_, ⟨_, rfl⟩, hW, hsame.mono (by decide) (by decide)⟩
  · show Steps p.tables e below (s₁.setTop (mkF m 0 #[.val (.int k)] [])) _
    refine XS.iloadN X0.here hx rfl (hb hby d6_0) rfl ?_
    show Steps p.tables e below (s₁.setTop (mkF m 1 #[.val (.int k)] [(.int k)])) _
    refine XS.bipush X0.here hx rfl (hb hby d6_1) ?_
    show Steps p.tables e below (s₁.setTop (mkF m 3 #[.val (.int k)] [(.int (-128 : Int32)), (.int k)])) _
    refine XS.icmpNo X0.here hx rfl (hb hby d6_3) rfl (flt hk).1 ?_
    show Steps p.tables e below (s₁.setTop (mkF m 6 #[.val (.int k)] [])) _
    refine XS.iloadN X0.here hx rfl (hb hby d6_6) rfl ?_
    show Steps p.tables e below (s₁.setTop (mkF m 7 #[.val (.int k)] [(.int k)])) _
    refine st1 _ ?_
    show Steps p.tables e below (T1.setTop (mkF m 10 #[.val (.int k)] [(.int (127 : Int32)), (.int k)])) _
    refine XS.icmpNo X1.here hx rfl (hb hby d6_10) rfl (flt hk').2.2.1 ?_
    show Steps p.tables e below (T1.setTop (mkF m 13 #[.val (.int k)] [])) _
    refine st2 _ ?_
    show Steps p.tables e below (T2.setTop (mkF m 16 #[.val (.int k)] [(.ref wc)])) _
    refine XS.iloadN X2.here hx rfl (hb hby d6_16) rfl ?_
    show Steps p.tables e below (T2.setTop (mkF m 17 #[.val (.int k)] [(.int k), (.ref wc)])) _
    refine XS.sipush X2.here hx rfl (hb hby d6_17) ?_
    show Steps p.tables e below (T2.setTop (mkF m 20 #[.val (.int k)] [(.int (128 : Int32)), (.int k), (.ref wc)])) _
    refine XS.iadd X2.here hx rfl (hb hby d6_20) rfl ?_
    show Steps p.tables e below (T2.setTop (mkF m 21 #[.val (.int k)] [(.int (k + (128 : Int32))), (.ref wc)])) _
    refine X2.aaload hx (j := (k + (128 : Int32))) (v := (.ref b)) (by rw [e2]; exact Ar.1) (State.isArrayOf_alike hZ.alike Ar.2.1) rfl Ar.2.2 hin hat (g := (mkF m 21 #[.val (.int k)] [(.int (k + (128 : Int32))), (.ref wc)])) rfl rfl (hb hby d6_21) _ ?_
    show Steps p.tables e below (T2.setTop (mkF m 22 #[.val (.int k)] [(.ref b)])) _
    exact own_retA X2 hx Bd.returns rfl rfl rfl (hb hby d6_22) hr
  · exact ⟨b, rfl, N0, by rw [eF]; exact Keep.refl h0 [], by rw [eF]; exact Eb⟩
theorem own_ext {h h' : Heap} (K : Keep h h' []) : Ext h h' := ⟨K.1, fun a c q => K.2.1 a c q (by simp)⟩
def Q_rm6 (Z : State) (k : Int32) (wc : Addr) (cl : Cell) (val : Int32 → Value) (h0 : Heap) (n0 : Nat) (v : Option Value) (hp : Heap) (L : List Loc) : Prop := ∃ b : Addr, v = some (.ref b) ∧ Fr n0 L ∧ Keep h0 hp [] ∧ Exa Z hp b "java/lang/Integer"
theorem rm6 (l : Launch) (Z : State) (a0 : Array Value) (hw : ∀ d ∈ tables_1, d.before a0 Z = true) (ws : List Jvm.Cond) (k : Int32) (wc : Addr) (cl : Cell) (val : Int32 → Value) (h0 : Heap) (n0 : Nat) (Z0 : n0 ≤ h0.size) (SHi : Sta Z h0 "java/lang/Integer$IntegerCache" "high" "I" (.int (127 : Int32))) (SCa : Sta Z h0 "java/lang/Integer$IntegerCache" "cache" "[Ljava/lang/Integer;" (.ref wc)) (BX : Bxs Z wc cl "java/lang/Integer" "I" 256 val) (EX : Ext Z.heap h0) (hk : ¬ k < (1 : Int32)) :
    MetFree l (⟨"java/lang/Integer", "valueOf", "(I)Ljava/lang/Integer;"⟩ : MethodName) (head1 (Jvm.Cond.code (⟨"java/lang/Integer", "valueOf", "(I)Ljava/lang/Integer;"⟩ : MethodName) jdk_33_method_22_code 1 (some (.object "java/lang/Integer")) :: ws) ({ frames := 3, cells := 1, slots := 1, locals := 38 } : Room)) (fun aa U => aa = #[.int k] ∧ Z.Warmed39 U.vm ∧ U.heap = h0) (fun _ _ _ _ _ => True) (fun _ U o U' => ∃ v L, o = .returned v ∧ (Q_rm6 Z k wc cl val h0 n0 v U'.heap L) ∧ FrameEnd U o U' L ({ frames := 3, cells := 1, slots := 1, locals := 38 } : Room).cells ({ frames := 3, cells := 1, slots := 1, locals := 38 } : Room).slots) := by
  have k1 : 1 ≤ k.toInt := by rw [Int32.lt_iff_toInt_lt] at hk; have : (1 : Int32).toInt = 1 := by decide
                              omega
  have hk0 : ¬ k < (-128 : Int32) := by rw [Int32.lt_iff_toInt_lt]; have : (-128 : Int32).toInt = -128 := by decide
                                        omega
  by_cases hk' : (127 : Int32) < k
  · exact rm6a l Z a0 hw ws k h0 n0 Z0 SHi hk0 hk'
  · have k2 : k.toInt ≤ 127 := by rw [Int32.lt_iff_toInt_lt] at hk'; have : (127 : Int32).toInt = 127 := by decide
                                  omega
    have ka : (k + (128 : Int32)).toInt = k.toInt + 128 := by
      have q := c_iadd k (128 : Int32)
      rw [show (128 : Int32).toInt = 128 from by decide] at q
      have q1 := Int32.le_toInt (k + (128 : Int32)); have q2 := Int32.toInt_lt (k + (128 : Int32))
      omega
    obtain ⟨A1, A2, A3⟩ := BX.ext EX
    have hin : ¬ ((k + (128 : Int32)) < 0 ∨ cl.slots.size ≤ (k + (128 : Int32)).toNatClampNeg) := by
      rw [A2, Int32.lt_iff_toInt_lt, ka, show (0 : Int32).toInt = 0 from by decide]
      simp only [Int32.toNatClampNeg, ka, show (256 : Int32).toInt = 256 from by decide]
      omega
    obtain ⟨b, hat, Eb, -⟩ := BX.2.2.2 _ hin
    exact rm6b l Z a0 hw ws k wc cl b h0 n0 Z0 SHi SCa hk0 hk' A1 hin hat (Eb.ext EX)
def own_Eq (i j r : Int32) : Prop := (i = j ∧ r = 1) ∨ (¬ i = j ∧ r = 0)
def Q_rm5 (Z : State) (a b : Addr) (i j r : Int32) (h0 : Heap) (n0 : Nat) (v : Option Value) (hp : Heap) (L : List Loc) : Prop := v = some (.int r) ∧ Fr n0 L ∧ hp = h0
theorem rm5 (l : Launch) (Z : State) (a0 : Array Value) (hw : ∀ d ∈ tables_1, d.before a0 Z = true) (ws : List Jvm.Cond) (a b : Addr) (i j r : Int32) (h0 : Heap) (n0 : Nat) (Z0 : n0 ≤ h0.size) (E : Exa Z h0 b "com/example/pico_z/picoz/types/GenericParameterType") (Fa : Fld Z h0 a "com/example/pico_z/picoz/types/GenericParameterType" "index" "I" (.int i)) (Fb : Fld Z h0 b "com/example/pico_z/picoz/types/GenericParameterType" "index" "I" (.int j)) (Q : own_Eq i j r) :
    MetFree l (⟨"com/example/pico_z/picoz/types/GenericParameterType", "equals", "(Ljava/lang/Object;)Z"⟩ : MethodName) (head1 (Jvm.Cond.code (⟨"com/example/pico_z/picoz/types/GenericParameterType", "equals", "(Ljava/lang/Object;)Z"⟩ : MethodName) prog_126_method_9_code 2 (some .boolean) :: ws) ({ frames := 0, cells := 0, slots := 0, locals := 0 } : Room)) (fun aa U => aa = #[.ref a, .ref b] ∧ Z.Warmed39 U.vm ∧ U.heap = h0) (fun _ _ _ _ _ => True) (fun _ U o U' => ∃ v L, o = .returned v ∧ (Q_rm5 Z a b i j r h0 n0 v U'.heap L) ∧ FrameEnd U o U' L ({ frames := 0, cells := 0, slots := 0, locals := 0 } : Room).cells ({ frames := 0, cells := 0, slots := 0, locals := 0 } : Room).slots) := by
  rcases Q with ⟨h, rfl⟩ | ⟨h, rfl⟩
  · exact rm5a l Z a0 hw ws a b i j h0 n0 Z0 E Fa Fb h
  · exact rm5b l Z a0 hw ws a b i j h0 n0 Z0 E Fa Fb h
theorem pn_ico_z_picoz_types_GenericParameterTypeEqualsPinLaw : plainName "com/example/pico_z/picoz/types/GenericParameterTypeEqualsPinLaw" = true := by first | (simp [plainName, overriddenIn]; done) | decide +kernel
theorem pd__IIRI : parseMethodDescriptor "(II)I" = some ⟨[.int, .int], some .int⟩ := by decide +kernel
theorem pd__Ljava_lang_ObjectERZ : parseMethodDescriptor "(Ljava/lang/Object;)Z" = some ⟨[(.object "java/lang/Object")], some .boolean⟩ := by decide +kernel
theorem pd__IRLjava_lang_IntegerE : parseMethodDescriptor "(I)Ljava/lang/Integer;" = some ⟨[.int], some (.object "java/lang/Integer")⟩ := by decide +kernel
def Q_rm0 (Z : State) (a1 b2 c3 i j : Int32) (we wc : Addr) (cl : Cell) (val : Int32 → Value) (h0 : Heap) (n0 : Nat) (v : Option Value) (hp : Heap) (L : List Loc) : Prop := v = some (.int 1) ∧ Fr n0 L
set_option maxRecDepth 65536 in
set_option maxHeartbeats 40000000 in
theorem rm0 (l : Launch) (Z : State) (a0 : Array Value) (hw : ∀ d ∈ tables_1, d.before a0 Z = true) (ws : List Jvm.Cond) (a1 b2 c3 i j : Int32) (we wc : Addr) (cl : Cell) (val : Int32 → Value) (h0 : Heap) (n0 : Nat) (Z0 : n0 ≤ h0.size) (hi : own_Max 1 (a1 &&& (2147483647 : Int32)) i) (hj : (¬ (c3 >>> ((2 : Int32) &&& 31) &&& (1 : Int32)) = 0 ∧ j = i) ∨ ((c3 >>> ((2 : Int32) &&& 31) &&& (1 : Int32)) = 0 ∧ own_Max 1 (b2 &&& (2147483647 : Int32)) j)) (hi1 : ¬ i < (1 : Int32)) (hj1 : ¬ j < (1 : Int32)) (hkd : (c3 &&& (3 : Int32)) = 0 ∨ (c3 &&& (3 : Int32)) = 1 ∨ (c3 &&& (3 : Int32)) = 2 ∨ (c3 &&& (3 : Int32)) = 3)
    (SE : Sta Z h0 "com/example/pico_z/picoz/types/ErrorType" "INSTANCE" "Lcom/example/pico_z/picoz/types/ErrorType;" (.ref we)) (EE : Exa Z h0 we "com/example/pico_z/picoz/types/ErrorType") (NE : ∃ c t, Z.vm.findClass "com/example/pico_z/picoz/types/ErrorType" = some c ∧ Z.vm.findClass "com/example/pico_z/picoz/types/GenericParameterType" = some t ∧ Z.vm.assignable c t = false) (NI : ∃ c t, Z.vm.findClass "java/lang/Integer" = some c ∧ Z.vm.findClass "com/example/pico_z/picoz/types/GenericParameterType" = some t ∧ Z.vm.assignable c t = false) (SHi : Sta Z h0 "java/lang/Integer$IntegerCache" "high" "I" (.int (127 : Int32))) (SCa : Sta Z h0 "java/lang/Integer$IntegerCache" "cache" "[Ljava/lang/Integer;" (.ref wc)) (BX : Bxs Z wc cl "java/lang/Integer" "I" 256 val) (EX0 : Ext Z.heap h0) :
    MetFree l x (head1 (Jvm.Cond.code x code maxLocals ret :: ws) room_1) (fun aa U => aa = #[(.int a1), (.int b2), (.int c3)] ∧ Z.Warmed39 U.vm ∧ U.heap = h0) (fun _ _ _ _ _ => True) (fun _ U o U' => ∃ v L, o = .returned v ∧ (Q_rm0 Z a1 b2 c3 i j we wc cl val h0 n0 v U'.heap L) ∧ FrameEnd U o U' L room_1.cells room_1.slots) := by
  refine MetFree.of_bodySF (plainFor_of_name pn_ico_z_picoz_types_GenericParameterTypeEqualsPinLaw) hisR ?_
  intro p e s m args below meth c s₁ Bd hml0 hP hK
  obtain ⟨rfl, hZ, hh⟩ := hP
  have hx := Bd.exec
  have hby := Bd.bytes
  have hml : c.maxLocals = 9 := hml0
  have hown : s.vm.findClass "com/example/pico_z/picoz/types/GenericParameterTypeEqualsPinLaw" = some m.cls := findClass_of_methodNamed Bd.named
  have hnm := (name_of_methodNamed Bd.named Bd.method).1
  have X0 : Stand p l e room_1 s m #[(.int a1), (.int b2), (.int c3)] below meth c s₁ [] 0 0 := Stand.of_body Bd
  have e0 : s₁.heap = h0 := by rw [← hh, Bd.state]; rfl
  have N0 := Fr.nil n0
  have pre0 : ∀ t, Steps p.tables e below (s₁.setTop (mkF m 0 #[.val (.int a1), .val (.int b2), .val (.int c3), .unset, .unset, .unset, .unset, .unset, .unset] [])) t → Steps p.tables e below (s₁.setTop (entryFrame m #[(.int a1), (.int b2), (.int c3)] maxLocals)) t := fun t kk => castTop (ef_L m a1 b2 c3) kk
  obtain ⟨_, _, ⟨T1, L1, k1, n1⟩, -, X1, ⟨Lc1, hQ1, l1, y1, z1⟩, st1⟩ := Jvm.LawKit.callS X0 hx (y := (⟨"java/lang/Math", "max", "(II)I"⟩ : MethodName)) hown (mvT hZ (hw _ (List.mem_of_getElem? (i := 1) rfl))) (mvT hZ (hw _ (List.mem_of_getElem? (i := 2) rfl))) (mvT hZ (hw _ (List.mem_of_getElem? (i := 3) rfl))) (mvT hZ (hw _ (List.mem_of_getElem? (i := 4) rfl))) (by decide) (backOf (W := 0) (rm1 l Z a0 hw [] 1 (a1 &&& (2147483647 : Int32)) i h0 n0 Z0 hi) hZ (hw _ (List.mem_of_getElem? (i := 4) rfl)) (hw _ (List.mem_of_getElem? (i := 3) rfl)) (by decide) (by decide)) (g := (mkF m 5 #[.val (.int a1), .val (.int b2), .val (.int c3), .unset, .unset, .unset, .unset, .unset, .unset] [(.int (a1 &&& (2147483647 : Int32))), (.int (1 : Int32))])) rfl (by rw [hml]; rfl) (argsL := [(.int (1 : Int32)), (.int (a1 &&& (2147483647 : Int32)))]) (rest := []) (lenOf pd__IIRI rfl) rfl (by show 2 * 0 + _ ≤ _; exact Nat.le_of_eq rfl) (hb hby at_5) (fun _ _ => ⟨rfl, e0, (by decide : 0 + 0 ≤ _), (by decide : 0 + 0 ≤ _)⟩)
  dsimp only [Pt.U, Pt.locs, Pt.cells, Pt.slots] at X1 l1 y1 z1 st1 hQ1
  subst l1 y1 z1
  obtain ⟨rfl, N1q, eh1⟩ := hQ1
  have N1 := Fr.app N0 N1q
  obtain ⟨TB, LB, XB, eB, NB, stB⟩ : ∃ (TB : State) (LB : List Loc), Stand p l e room_1 s m #[(.int a1), (.int b2), (.int c3)] below meth c TB LB 0 0 ∧ TB.heap = h0 ∧ Fr n0 LB ∧ ∀ target, Steps p.tables e below (TB.setTop (mkF m 31 #[.val (.int a1), .val (.int b2), .val (.int c3), .val (.int i), .val (.int j), .unset, .unset, .unset, .unset] [])) target → Steps p.tables e below (T1.setTop (mkF m 9 #[.val (.int a1), .val (.int b2), .val (.int c3), .val (.int i), .unset, .unset, .unset, .unset, .unset] [])) target := by
    rcases hj with ⟨h, hji⟩ | ⟨h, M⟩
    · refine ⟨_, _, X1, eh1, N1, fun target kt => ?_⟩
      rw [hji] at kt
      show Steps p.tables e below (T1.setTop (mkF m 9 #[.val (.int a1), .val (.int b2), .val (.int c3), .val (.int i), .unset, .unset, .unset, .unset, .unset] [])) _
      refine XS.iloadN X1.here hx rfl (hb hby at_9) rfl ?_
      show Steps p.tables e below (T1.setTop (mkF m 10 #[.val (.int a1), .val (.int b2), .val (.int c3), .val (.int i), .unset, .unset, .unset, .unset, .unset] [(.int c3)])) _
      refine XS.iconst X1.here hx rfl (hb hby at_10) ?_
      show Steps p.tables e below (T1.setTop (mkF m 11 #[.val (.int a1), .val (.int b2), .val (.int c3), .val (.int i), .unset, .unset, .unset, .unset, .unset] [(.int (2 : Int32)), (.int c3)])) _
      refine XS.ishr X1.here hx rfl (hb hby at_11) rfl ?_
      show Steps p.tables e below (T1.setTop (mkF m 12 #[.val (.int a1), .val (.int b2), .val (.int c3), .val (.int i), .unset, .unset, .unset, .unset, .unset] [(.int (c3 >>> ((2 : Int32) &&& 31)))])) _
      refine XS.iconst X1.here hx rfl (hb hby at_12) ?_
      show Steps p.tables e below (T1.setTop (mkF m 13 #[.val (.int a1), .val (.int b2), .val (.int c3), .val (.int i), .unset, .unset, .unset, .unset, .unset] [(.int (1 : Int32)), (.int (c3 >>> ((2 : Int32) &&& 31)))])) _
      refine XS.iand X1.here hx rfl (hb hby at_13) rfl ?_
      show Steps p.tables e below (T1.setTop (mkF m 14 #[.val (.int a1), .val (.int b2), .val (.int c3), .val (.int i), .unset, .unset, .unset, .unset, .unset] [(.int ((c3 >>> ((2 : Int32) &&& 31)) &&& (1 : Int32)))])) _
      refine XS.ifNo X1.here hx rfl (hb hby at_14) rfl ((if0 _ _).trans (feq h).1) ?_
      show Steps p.tables e below (T1.setTop (mkF m 17 #[.val (.int a1), .val (.int b2), .val (.int c3), .val (.int i), .unset, .unset, .unset, .unset, .unset] [])) _
      refine XS.iloadN X1.here hx rfl (hb hby at_17) rfl ?_
      show Steps p.tables e below (T1.setTop (mkF m 18 #[.val (.int a1), .val (.int b2), .val (.int c3), .val (.int i), .unset, .unset, .unset, .unset, .unset] [(.int i)])) _
      refine XS.goto X1.here hx rfl (pc0 := 18) (pc' := 29) rfl (hb hby at_18) (by decide) (by decide) ?_
      show Steps p.tables e below (T1.setTop (mkF m 29 #[.val (.int a1), .val (.int b2), .val (.int c3), .val (.int i), .unset, .unset, .unset, .unset, .unset] [(.int i)])) _
      refine XS.istore X1.here hx rfl (hb hby at_29) rfl (l' := #[.val (.int a1), .val (.int b2), .val (.int c3), .val (.int i), .val (.int i), .unset, .unset, .unset, .unset]) rfl ?_
      exact kt
    · obtain ⟨_, _, ⟨T2, L2, k2, n2⟩, -, X2, ⟨Lc2, hQ2, l2, y2, z2⟩, st2⟩ := Jvm.LawKit.callS X1 hx (y := (⟨"java/lang/Math", "max", "(II)I"⟩ : MethodName)) hown (mvT hZ (hw _ (List.mem_of_getElem? (i := 1) rfl))) (mvT hZ (hw _ (List.mem_of_getElem? (i := 2) rfl))) (mvT hZ (hw _ (List.mem_of_getElem? (i := 3) rfl))) (mvT hZ (hw _ (List.mem_of_getElem? (i := 4) rfl))) (by decide) (backOf (W := 0) (rm1 l Z a0 hw [] 1 (b2 &&& (2147483647 : Int32)) j h0 n0 Z0 M) hZ (hw _ (List.mem_of_getElem? (i := 4) rfl)) (hw _ (List.mem_of_getElem? (i := 3) rfl)) (by decide) (by decide)) (g := (mkF m 26 #[.val (.int a1), .val (.int b2), .val (.int c3), .val (.int i), .unset, .unset, .unset, .unset, .unset] [(.int (b2 &&& (2147483647 : Int32))), (.int (1 : Int32))])) rfl (by rw [hml]; rfl) (argsL := [(.int (1 : Int32)), (.int (b2 &&& (2147483647 : Int32)))]) (rest := []) (lenOf pd__IIRI rfl) rfl (by show 2 * 0 + _ ≤ _; exact Nat.le_of_eq rfl) (hb hby at_26) (fun _ _ => ⟨rfl, eh1, (by decide : 0 + 0 ≤ _), (by decide : 0 + 0 ≤ _)⟩)
      dsimp only [Pt.U, Pt.locs, Pt.cells, Pt.slots] at X2 l2 y2 z2 st2 hQ2
      subst l2 y2 z2
      obtain ⟨rfl, N2q, eh2⟩ := hQ2
      have N2 := Fr.app N1 N2q
      refine ⟨_, _, X2, eh2, N2, fun target kt => ?_⟩
      show Steps p.tables e below (T1.setTop (mkF m 9 #[.val (.int a1), .val (.int b2), .val (.int c3), .val (.int i), .unset, .unset, .unset, .unset, .unset] [])) _
      refine XS.iloadN X1.here hx rfl (hb hby at_9) rfl ?_
      show Steps p.tables e below (T1.setTop (mkF m 10 #[.val (.int a1), .val (.int b2), .val (.int c3), .val (.int i), .unset, .unset, .unset, .unset, .unset] [(.int c3)])) _
      refine XS.iconst X1.here hx rfl (hb hby at_10) ?_
      show Steps p.tables e below (T1.setTop (mkF m 11 #[.val (.int a1), .val (.int b2), .val (.int c3), .val (.int i), .unset, .unset, .unset, .unset, .unset] [(.int (2 : Int32)), (.int c3)])) _
      refine XS.ishr X1.here hx rfl (hb hby at_11) rfl ?_
      show Steps p.tables e below (T1.setTop (mkF m 12 #[.val (.int a1), .val (.int b2), .val (.int c3), .val (.int i), .unset, .unset, .unset, .unset, .unset] [(.int (c3 >>> ((2 : Int32) &&& 31)))])) _
      refine XS.iconst X1.here hx rfl (hb hby at_12) ?_
      show Steps p.tables e below (T1.setTop (mkF m 13 #[.val (.int a1), .val (.int b2), .val (.int c3), .val (.int i), .unset, .unset, .unset, .unset, .unset] [(.int (1 : Int32)), (.int (c3 >>> ((2 : Int32) &&& 31)))])) _
      refine XS.iand X1.here hx rfl (hb hby at_13) rfl ?_
      show Steps p.tables e below (T1.setTop (mkF m 14 #[.val (.int a1), .val (.int b2), .val (.int c3), .val (.int i), .unset, .unset, .unset, .unset, .unset] [(.int ((c3 >>> ((2 : Int32) &&& 31)) &&& (1 : Int32)))])) _
      refine XS.ifYes X1.here hx rfl (pc0 := 14) (pc' := 21) rfl (hb hby at_14) rfl ((if0 _ _).trans (teq h).1) (by decide) (by decide) ?_
      show Steps p.tables e below (T1.setTop (mkF m 21 #[.val (.int a1), .val (.int b2), .val (.int c3), .val (.int i), .unset, .unset, .unset, .unset, .unset] [])) _
      refine XS.iconst X1.here hx rfl (hb hby at_21) ?_
      show Steps p.tables e below (T1.setTop (mkF m 22 #[.val (.int a1), .val (.int b2), .val (.int c3), .val (.int i), .unset, .unset, .unset, .unset, .unset] [(.int (1 : Int32))])) _
      refine XS.iloadN X1.here hx rfl (hb hby at_22) rfl ?_
      show Steps p.tables e below (T1.setTop (mkF m 23 #[.val (.int a1), .val (.int b2), .val (.int c3), .val (.int i), .unset, .unset, .unset, .unset, .unset] [(.int b2), (.int (1 : Int32))])) _
      refine X1.ldcInt hx hown (mvT hZ (hw _ (List.mem_of_getElem? (i := 0) rfl))) (g := (mkF m 23 #[.val (.int a1), .val (.int b2), .val (.int c3), .val (.int i), .unset, .unset, .unset, .unset, .unset] [(.int b2), (.int (1 : Int32))])) rfl (hb hby at_23) _ ?_
      show Steps p.tables e below (T1.setTop (mkF m 25 #[.val (.int a1), .val (.int b2), .val (.int c3), .val (.int i), .unset, .unset, .unset, .unset, .unset] [(.int (2147483647 : Int32)), (.int b2), (.int (1 : Int32))])) _
      refine XS.iand X1.here hx rfl (hb hby at_25) rfl ?_
      show Steps p.tables e below (T1.setTop (mkF m 26 #[.val (.int a1), .val (.int b2), .val (.int c3), .val (.int i), .unset, .unset, .unset, .unset, .unset] [(.int (b2 &&& (2147483647 : Int32))), (.int (1 : Int32))])) _
      refine st2 _ ?_
      show Steps p.tables e below (T2.setTop (mkF m 29 #[.val (.int a1), .val (.int b2), .val (.int c3), .val (.int i), .unset, .unset, .unset, .unset, .unset] [(.int j)])) _
      refine XS.istore X2.here hx rfl (hb hby at_29) rfl (l' := #[.val (.int a1), .val (.int b2), .val (.int c3), .val (.int i), .val (.int j), .unset, .unset, .unset, .unset]) rfl ?_
      exact kt
  obtain ⟨T3, h3, X3, e3, E3, A3, D3, -, st3⟩ := newO XB hx hZ hown (hw _ (List.mem_of_getElem? (i := 5) rfl)) (hw _ (List.mem_of_getElem? (i := 6) rfl)) (hw _ (List.mem_of_getElem? (i := 7) rfl)) eB (g := (mkF m 36 #[.val (.int a1), .val (.int b2), .val (.int c3), .val (.int i), .val (.int j), .val (.int (c3 &&& (3 : Int32))), .unset, .unset, .unset] [])) rfl (hb hby at_36) (by decide) (by decide)
  obtain ⟨b3, g3⟩ : ∃ z, z = h0.size := ⟨_, rfl⟩
  rw [← g3] at A3 D3 st3
  have Fkx := D3 (Or.inr (hw _ (List.mem_of_getElem? (i := 20) rfl))) (ty := .int) (by decide)
  have Fix := D3 (Or.inr (hw _ (List.mem_of_getElem? (i := 22) rfl))) (ty := .int) (by decide)
  have gbx : n0 ≤ b3 := Nat.le_trans Z0 (Nat.le_of_eq g3.symm)
  obtain ⟨_, _, ⟨T4, L4, k4, n4⟩, -, X4, ⟨Lc4, hQ4, l4, y4, z4⟩, st4⟩ := X3.specialBack hx (y := (⟨"com/example/pico_z/picoz/types/GenericParameterType", "<init>", "(I)V"⟩ : MethodName)) rfl hown (mvT hZ (hw _ (List.mem_of_getElem? (i := 8) rfl))) (mvT hZ (hw _ (List.mem_of_getElem? (i := 9) rfl))) (mvT hZ (hw _ (List.mem_of_getElem? (i := 10) rfl))) (by decide) (backOf (W := 1) (rm2 l Z a0 hw [] b3 i _ _ h3 n0 (Nat.le_trans Z0 E3.1) A3 Fkx Fix gbx hi1) hZ (hw _ (List.mem_of_getElem? (i := 10) rfl)) (hw _ (List.mem_of_getElem? (i := 7) rfl)) (by decide) (by decide)) (g := (mkF m 41 #[.val (.int a1), .val (.int b2), .val (.int c3), .val (.int i), .val (.int j), .val (.int (c3 &&& (3 : Int32))), .unset, .unset, .unset] [(.int i), (.ref b3), (.ref b3)])) rfl (by rw [hml]; rfl) (Steps.refl _) (a := b3) (argsL := [(.int i)]) (rest := [(.ref b3)]) (lenOf pd__IRV rfl) rfl (by show 2 * 0 + _ ≤ _; exact Nat.le_of_eq rfl) (hb hby at_41) (fun _ _ => ⟨rfl, e3, (by decide : 1 + 0 ≤ _), (by decide : 3 + 0 ≤ _)⟩)
  dsimp only [Pt.U, Pt.locs, Pt.cells, Pt.slots] at X4 l4 y4 z4 st4 hQ4
  subst l4 y4 z4
  obtain ⟨rfl, N4q, K4, F4⟩ := hQ4
  have N4 := Fr.app NB N4q
  have Kx : Keep h0 T4.heap [] := ((Keep.refl h0 []).ext E3).trans K4 (fun y hy => by cases List.mem_singleton.mp hy; exact Or.inr (Nat.le_of_eq g3.symm))
  have Ex := A3.keep K4
  have Fx := F4
  have Zx : n0 ≤ T4.heap.size := Nat.le_trans Z0 Kx.1
  have EX := own_ext Kx
  obtain ⟨hc, ehc⟩ : ∃ z, z = T4.heap := ⟨_, rfl⟩
  rw [← ehc] at Ex Fx Zx EX
  obtain ⟨cq5, kq5, q5a, q5b, q5c⟩ := isOf hZ ehc.symm Ex
  obtain ⟨_, _, ⟨T5, L5, k5, n5⟩, -, X5, ⟨Lc5, hQ5, l5, y5, z5⟩, st5⟩ := X4.virtualBack hx (y := (⟨"com/example/pico_z/picoz/types/GenericParameterType", "equals", "(Ljava/lang/Object;)Z"⟩ : MethodName)) (z := (⟨"com/example/pico_z/picoz/types/GenericParameterType", "equals", "(Ljava/lang/Object;)Z"⟩ : MethodName)) hown (mvT hZ (hw _ (List.mem_of_getElem? (i := 23) rfl))) (mvT hZ (hw _ (List.mem_of_getElem? (i := 24) rfl))) (notFace_of_selects (args := #[]) (mvT hZ (hw _ (List.mem_of_getElem? (i := 26) rfl)))) (mvT hZ (hw _ (List.mem_of_getElem? (i := 26) rfl))) (mvT hZ (hw _ (List.mem_of_getElem? (i := 25) rfl))) (by decide) (backOf (W := 0) (rm5 l Z a0 hw [] b3 b3 i i 1 hc n0 Zx Ex Fx Fx (Or.inl ⟨rfl, rfl⟩)) hZ (hw _ (List.mem_of_getElem? (i := 27) rfl)) (hw _ (List.mem_of_getElem? (i := 7) rfl)) (by decide) (by decide)) q5a q5c (g := (mkF m 50 #[.val (.int a1), .val (.int b2), .val (.int c3), .val (.int i), .val (.int j), .val (.int (c3 &&& (3 : Int32))), .val (.ref b3), .unset, .unset] [(.ref b3), (.ref b3)])) rfl (by rw [hml]; rfl) (Steps.refl _) (argsL := [(.ref b3)]) (rest := []) (lenOf pd__Ljava_lang_ObjectERZ rfl) rfl (by show 2 * 0 + _ ≤ _; exact Nat.le_of_eq rfl) (hb hby at_50) (fun _ _ => ⟨rfl, ehc.symm, (by decide : 1 + 0 ≤ _), (by decide : 3 + 0 ≤ _)⟩)
  dsimp only [Pt.U, Pt.locs, Pt.cells, Pt.slots] at X5 l5 y5 z5 st5 hQ5
  subst l5 y5 z5
  obtain ⟨rfl, N5q, eh5⟩ := hQ5
  have N5 := Fr.app N4 N5q
  have stP : ∀ target, Steps p.tables e below (T5.setTop (mkF m 60 #[.val (.int a1), .val (.int b2), .val (.int c3), .val (.int i), .val (.int j), .val (.int (c3 &&& (3 : Int32))), .val (.ref b3), .unset, .unset] [(.int (c3 &&& (3 : Int32)))])) target → Steps p.tables e below (s₁.setTop (mkF m 0 #[.val (.int a1), .val (.int b2), .val (.int c3), .unset, .unset, .unset, .unset, .unset, .unset] [])) target := by
    intro target kt
    show Steps p.tables e below (s₁.setTop (mkF m 0 #[.val (.int a1), .val (.int b2), .val (.int c3), .unset, .unset, .unset, .unset, .unset, .unset] [])) _
    refine XS.iconst X0.here hx rfl (hb hby at_0) ?_
    show Steps p.tables e below (s₁.setTop (mkF m 1 #[.val (.int a1), .val (.int b2), .val (.int c3), .unset, .unset, .unset, .unset, .unset, .unset] [(.int (1 : Int32))])) _
    refine XS.iloadN X0.here hx rfl (hb hby at_1) rfl ?_
    show Steps p.tables e below (s₁.setTop (mkF m 2 #[.val (.int a1), .val (.int b2), .val (.int c3), .unset, .unset, .unset, .unset, .unset, .unset] [(.int a1), (.int (1 : Int32))])) _
    refine X0.ldcInt hx hown (mvT hZ (hw _ (List.mem_of_getElem? (i := 0) rfl))) (g := (mkF m 2 #[.val (.int a1), .val (.int b2), .val (.int c3), .unset, .unset, .unset, .unset, .unset, .unset] [(.int a1), (.int (1 : Int32))])) rfl (hb hby at_2) _ ?_
    show Steps p.tables e below (s₁.setTop (mkF m 4 #[.val (.int a1), .val (.int b2), .val (.int c3), .unset, .unset, .unset, .unset, .unset, .unset] [(.int (2147483647 : Int32)), (.int a1), (.int (1 : Int32))])) _
    refine XS.iand X0.here hx rfl (hb hby at_4) rfl ?_
    show Steps p.tables e below (s₁.setTop (mkF m 5 #[.val (.int a1), .val (.int b2), .val (.int c3), .unset, .unset, .unset, .unset, .unset, .unset] [(.int (a1 &&& (2147483647 : Int32))), (.int (1 : Int32))])) _
    refine st1 _ ?_
    show Steps p.tables e below (T1.setTop (mkF m 8 #[.val (.int a1), .val (.int b2), .val (.int c3), .unset, .unset, .unset, .unset, .unset, .unset] [(.int i)])) _
    refine XS.istoreN X1.here hx rfl (hb hby at_8) rfl (l' := #[.val (.int a1), .val (.int b2), .val (.int c3), .val (.int i), .unset, .unset, .unset, .unset, .unset]) rfl ?_
    refine stB _ ?_
    show Steps p.tables e below (TB.setTop (mkF m 31 #[.val (.int a1), .val (.int b2), .val (.int c3), .val (.int i), .val (.int j), .unset, .unset, .unset, .unset] [])) _
    refine XS.iloadN XB.here hx rfl (hb hby at_31) rfl ?_
    show Steps p.tables e below (TB.setTop (mkF m 32 #[.val (.int a1), .val (.int b2), .val (.int c3), .val (.int i), .val (.int j), .unset, .unset, .unset, .unset] [(.int c3)])) _
    refine XS.iconst XB.here hx rfl (hb hby at_32) ?_
    show Steps p.tables e below (TB.setTop (mkF m 33 #[.val (.int a1), .val (.int b2), .val (.int c3), .val (.int i), .val (.int j), .unset, .unset, .unset, .unset] [(.int (3 : Int32)), (.int c3)])) _
    refine XS.iand XB.here hx rfl (hb hby at_33) rfl ?_
    show Steps p.tables e below (TB.setTop (mkF m 34 #[.val (.int a1), .val (.int b2), .val (.int c3), .val (.int i), .val (.int j), .unset, .unset, .unset, .unset] [(.int (c3 &&& (3 : Int32)))])) _
    refine XS.istore XB.here hx rfl (hb hby at_34) rfl (l' := #[.val (.int a1), .val (.int b2), .val (.int c3), .val (.int i), .val (.int j), .val (.int (c3 &&& (3 : Int32))), .unset, .unset, .unset]) rfl ?_
    show Steps p.tables e below (TB.setTop (mkF m 36 #[.val (.int a1), .val (.int b2), .val (.int c3), .val (.int i), .val (.int j), .val (.int (c3 &&& (3 : Int32))), .unset, .unset, .unset] [])) _
    refine st3 _ ?_
    show Steps p.tables e below (T3.setTop (mkF m 39 #[.val (.int a1), .val (.int b2), .val (.int c3), .val (.int i), .val (.int j), .val (.int (c3 &&& (3 : Int32))), .unset, .unset, .unset] [(.ref b3)])) _
    refine XS.dup X3.here hx rfl (hb hby at_39) rfl rfl ?_
    show Steps p.tables e below (T3.setTop (mkF m 40 #[.val (.int a1), .val (.int b2), .val (.int c3), .val (.int i), .val (.int j), .val (.int (c3 &&& (3 : Int32))), .unset, .unset, .unset] [(.ref b3), (.ref b3)])) _
    refine XS.iloadN X3.here hx rfl (hb hby at_40) rfl ?_
    show Steps p.tables e below (T3.setTop (mkF m 41 #[.val (.int a1), .val (.int b2), .val (.int c3), .val (.int i), .val (.int j), .val (.int (c3 &&& (3 : Int32))), .unset, .unset, .unset] [(.int i), (.ref b3), (.ref b3)])) _
    refine st4.trans ?_
    show Steps p.tables e below (T4.setTop (mkF m 44 #[.val (.int a1), .val (.int b2), .val (.int c3), .val (.int i), .val (.int j), .val (.int (c3 &&& (3 : Int32))), .unset, .unset, .unset] [(.ref b3)])) _
    refine XS.astore X4.here hx rfl (hb hby at_44) rfl rfl (l' := #[.val (.int a1), .val (.int b2), .val (.int c3), .val (.int i), .val (.int j), .val (.int (c3 &&& (3 : Int32))), .val (.ref b3), .unset, .unset]) rfl ?_
    show Steps p.tables e below (T4.setTop (mkF m 46 #[.val (.int a1), .val (.int b2), .val (.int c3), .val (.int i), .val (.int j), .val (.int (c3 &&& (3 : Int32))), .val (.ref b3), .unset, .unset] [])) _
    refine XS.aload X4.here hx rfl (hb hby at_46) rfl rfl ?_
    show Steps p.tables e below (T4.setTop (mkF m 48 #[.val (.int a1), .val (.int b2), .val (.int c3), .val (.int i), .val (.int j), .val (.int (c3 &&& (3 : Int32))), .val (.ref b3), .unset, .unset] [(.ref b3)])) _
    refine XS.aload X4.here hx rfl (hb hby at_48) rfl rfl ?_
    show Steps p.tables e below (T4.setTop (mkF m 50 #[.val (.int a1), .val (.int b2), .val (.int c3), .val (.int i), .val (.int j), .val (.int (c3 &&& (3 : Int32))), .val (.ref b3), .unset, .unset] [(.ref b3), (.ref b3)])) _
    refine st5.trans ?_
    show Steps p.tables e below (T5.setTop (mkF m 53 #[.val (.int a1), .val (.int b2), .val (.int c3), .val (.int i), .val (.int j), .val (.int (c3 &&& (3 : Int32))), .val (.ref b3), .unset, .unset] [(.int (1 : Int32))])) _
    refine XS.ifYes X5.here hx rfl (pc0 := 53) (pc' := 58) rfl (hb hby at_53) rfl ((if0 _ _).trans (feq (by decide : ¬ ((1 : Int32) = (0 : Int32)))).2) (by decide) (by decide) ?_
    show Steps p.tables e below (T5.setTop (mkF m 58 #[.val (.int a1), .val (.int b2), .val (.int c3), .val (.int i), .val (.int j), .val (.int (c3 &&& (3 : Int32))), .val (.ref b3), .unset, .unset] [])) _
    refine XS.iload X5.here hx rfl (hb hby at_58) rfl ?_
    exact kt
  rcases hkd with hkd | hkd | hkd | hkd
  · obtain ⟨T6, h6, X6, e6, E6, A6, D6, -, st6⟩ := newO X5 hx hZ hown (hw _ (List.mem_of_getElem? (i := 5) rfl)) (hw _ (List.mem_of_getElem? (i := 6) rfl)) (hw _ (List.mem_of_getElem? (i := 7) rfl)) eh5 (g := (mkF m 63 #[.val (.int a1), .val (.int b2), .val (.int c3), .val (.int i), .val (.int j), .val (.int (c3 &&& (3 : Int32))), .val (.ref b3), .unset, .unset] [])) rfl (hb hby at_63) (by decide) (by decide)
    obtain ⟨b6, g6⟩ : ∃ z, z = hc.size := ⟨_, rfl⟩
    rw [← g6] at A6 D6 st6
    have Fky := D6 (Or.inr (hw _ (List.mem_of_getElem? (i := 20) rfl))) (ty := .int) (by decide)
    have Fiy := D6 (Or.inr (hw _ (List.mem_of_getElem? (i := 22) rfl))) (ty := .int) (by decide)
    have gby : n0 ≤ b6 := Nat.le_trans Zx (Nat.le_of_eq g6.symm)
    obtain ⟨_, _, ⟨T7, L7, k7, n7⟩, -, X7, ⟨Lc7, hQ7, l7, y7, z7⟩, st7⟩ := X6.specialBack hx (y := (⟨"com/example/pico_z/picoz/types/GenericParameterType", "<init>", "(I)V"⟩ : MethodName)) rfl hown (mvT hZ (hw _ (List.mem_of_getElem? (i := 8) rfl))) (mvT hZ (hw _ (List.mem_of_getElem? (i := 9) rfl))) (mvT hZ (hw _ (List.mem_of_getElem? (i := 10) rfl))) (by decide) (backOf (W := 1) (rm2 l Z a0 hw [] b6 j _ _ h6 n0 (Nat.le_trans Zx E6.1) A6 Fky Fiy gby hj1) hZ (hw _ (List.mem_of_getElem? (i := 10) rfl)) (hw _ (List.mem_of_getElem? (i := 7) rfl)) (by decide) (by decide)) (g := (mkF m 69 #[.val (.int a1), .val (.int b2), .val (.int c3), .val (.int i), .val (.int j), .val (.int (c3 &&& (3 : Int32))), .val (.ref b3), .unset, .unset] [(.int j), (.ref b6), (.ref b6)])) rfl (by rw [hml]; rfl) (Steps.refl _) (a := b6) (argsL := [(.int j)]) (rest := [(.ref b6)]) (lenOf pd__IRV rfl) rfl (by show 2 * 0 + _ ≤ _; exact Nat.le_of_eq rfl) (hb hby at_69) (fun _ _ => ⟨rfl, e6, (by decide : 2 + 0 ≤ _), (by decide : 6 + 0 ≤ _)⟩)
    dsimp only [Pt.U, Pt.locs, Pt.cells, Pt.slots] at X7 l7 y7 z7 st7 hQ7
    subst l7 y7 z7
    obtain ⟨rfl, N7q, K7, F7⟩ := hQ7
    have N7 := Fr.app N5 N7q
    have Ky : Keep hc T7.heap [] := ((Keep.refl hc []).ext E6).trans K7 (fun y hy => by cases List.mem_singleton.mp hy; exact Or.inr (Nat.le_of_eq g6.symm))
    have Ey := A6.keep K7
    have Fy := F7
    have Ex2 := Ex.ext (own_ext Ky)
    have Fx2 := Fx.ext (own_ext Ky)
    have Zy : n0 ≤ T7.heap.size := Nat.le_trans Zx Ky.1
    obtain ⟨r, QE, QE'⟩ : ∃ r, own_Eq i j r ∧ own_Eq j i r := by
      by_cases q : i = j
      · exact ⟨1, Or.inl ⟨q, rfl⟩, Or.inl ⟨q.symm, rfl⟩⟩
      · exact ⟨0, Or.inr ⟨q, rfl⟩, Or.inr ⟨fun z => q z.symm, rfl⟩⟩
    obtain ⟨hd, ehd⟩ : ∃ z, z = T7.heap := ⟨_, rfl⟩
    rw [← ehd] at Ey Fy Ex2 Fx2 Zy
    have mid : ∀ target, Steps p.tables e below (T7.setTop (mkF m 87 #[.val (.int a1), .val (.int b2), .val (.int c3), .val (.int i), .val (.int j), .val (.int (c3 &&& (3 : Int32))), .val (.ref b3), .val (.ref b6), .val (.int r)] [])) target → Steps p.tables e below (T7.setTop (mkF m 77 #[.val (.int a1), .val (.int b2), .val (.int c3), .val (.int i), .val (.int j), .val (.int (c3 &&& (3 : Int32))), .val (.ref b3), .val (.ref b6), .unset] [(.int j), (.int i)])) target := by
      intro target kt
      rcases QE with ⟨h, hr⟩ | ⟨h, hr⟩
      · rw [hr] at kt
        show Steps p.tables e below (T7.setTop (mkF m 77 #[.val (.int a1), .val (.int b2), .val (.int c3), .val (.int i), .val (.int j), .val (.int (c3 &&& (3 : Int32))), .val (.ref b3), .val (.ref b6), .unset] [(.int j), (.int i)])) _
        refine XS.icmpNo X7.here hx rfl (hb hby at_77) rfl (teq h).2 ?_
        show Steps p.tables e below (T7.setTop (mkF m 80 #[.val (.int a1), .val (.int b2), .val (.int c3), .val (.int i), .val (.int j), .val (.int (c3 &&& (3 : Int32))), .val (.ref b3), .val (.ref b6), .unset] [])) _
        refine XS.iconst X7.here hx rfl (hb hby at_80) ?_
        show Steps p.tables e below (T7.setTop (mkF m 81 #[.val (.int a1), .val (.int b2), .val (.int c3), .val (.int i), .val (.int j), .val (.int (c3 &&& (3 : Int32))), .val (.ref b3), .val (.ref b6), .unset] [(.int (1 : Int32))])) _
        refine XS.goto X7.here hx rfl (pc0 := 81) (pc' := 85) rfl (hb hby at_81) (by decide) (by decide) ?_
        show Steps p.tables e below (T7.setTop (mkF m 85 #[.val (.int a1), .val (.int b2), .val (.int c3), .val (.int i), .val (.int j), .val (.int (c3 &&& (3 : Int32))), .val (.ref b3), .val (.ref b6), .unset] [(.int (1 : Int32))])) _
        refine XS.istore X7.here hx rfl (hb hby at_85) rfl (l' := #[.val (.int a1), .val (.int b2), .val (.int c3), .val (.int i), .val (.int j), .val (.int (c3 &&& (3 : Int32))), .val (.ref b3), .val (.ref b6), .val (.int (1 : Int32))]) rfl ?_
        exact kt
      · rw [hr] at kt
        show Steps p.tables e below (T7.setTop (mkF m 77 #[.val (.int a1), .val (.int b2), .val (.int c3), .val (.int i), .val (.int j), .val (.int (c3 &&& (3 : Int32))), .val (.ref b3), .val (.ref b6), .unset] [(.int j), (.int i)])) _
        refine XS.icmpYes X7.here hx rfl (pc0 := 77) (pc' := 84) rfl (hb hby at_77) rfl (feq h).2 (by decide) (by decide) ?_
        show Steps p.tables e below (T7.setTop (mkF m 84 #[.val (.int a1), .val (.int b2), .val (.int c3), .val (.int i), .val (.int j), .val (.int (c3 &&& (3 : Int32))), .val (.ref b3), .val (.ref b6), .unset] [])) _
        refine XS.iconst X7.here hx rfl (hb hby at_84) ?_
        show Steps p.tables e below (T7.setTop (mkF m 85 #[.val (.int a1), .val (.int b2), .val (.int c3), .val (.int i), .val (.int j), .val (.int (c3 &&& (3 : Int32))), .val (.ref b3), .val (.ref b6), .unset] [(.int (0 : Int32))])) _
        refine XS.istore X7.here hx rfl (hb hby at_85) rfl (l' := #[.val (.int a1), .val (.int b2), .val (.int c3), .val (.int i), .val (.int j), .val (.int (c3 &&& (3 : Int32))), .val (.ref b3), .val (.ref b6), .val (.int (0 : Int32))]) rfl ?_
        exact kt
    obtain ⟨cq8, kq8, q8a, q8b, q8c⟩ := isOf hZ ehd.symm Ex2
    obtain ⟨_, _, ⟨T8, L8, k8, n8⟩, -, X8, ⟨Lc8, hQ8, l8, y8, z8⟩, st8⟩ := X7.virtualBack hx (y := (⟨"com/example/pico_z/picoz/types/GenericParameterType", "equals", "(Ljava/lang/Object;)Z"⟩ : MethodName)) (z := (⟨"com/example/pico_z/picoz/types/GenericParameterType", "equals", "(Ljava/lang/Object;)Z"⟩ : MethodName)) hown (mvT hZ (hw _ (List.mem_of_getElem? (i := 23) rfl))) (mvT hZ (hw _ (List.mem_of_getElem? (i := 24) rfl))) (notFace_of_selects (args := #[]) (mvT hZ (hw _ (List.mem_of_getElem? (i := 26) rfl)))) (mvT hZ (hw _ (List.mem_of_getElem? (i := 26) rfl))) (mvT hZ (hw _ (List.mem_of_getElem? (i := 25) rfl))) (by decide) (backOf (W := 0) (rm5 l Z a0 hw [] b3 b6 i j r hd n0 Zy Ey Fx2 Fy QE) hZ (hw _ (List.mem_of_getElem? (i := 27) rfl)) (hw _ (List.mem_of_getElem? (i := 7) rfl)) (by decide) (by decide)) q8a q8c (g := (mkF m 91 #[.val (.int a1), .val (.int b2), .val (.int c3), .val (.int i), .val (.int j), .val (.int (c3 &&& (3 : Int32))), .val (.ref b3), .val (.ref b6), .val (.int r)] [(.ref b6), (.ref b3)])) rfl (by rw [hml]; rfl) (Steps.refl _) (argsL := [(.ref b6)]) (rest := []) (lenOf pd__Ljava_lang_ObjectERZ rfl) rfl (by show 2 * 0 + _ ≤ _; exact Nat.le_of_eq rfl) (hb hby at_91) (fun _ _ => ⟨rfl, ehd.symm, (by decide : 2 + 0 ≤ _), (by decide : 6 + 0 ≤ _)⟩)
    dsimp only [Pt.U, Pt.locs, Pt.cells, Pt.slots] at X8 l8 y8 z8 st8 hQ8
    subst l8 y8 z8
    obtain ⟨rfl, N8q, eh8⟩ := hQ8
    have N8 := Fr.app N7 N8q
    obtain ⟨cq9, kq9, q9a, q9b, q9c⟩ := isOf hZ eh8 Ey
    obtain ⟨_, _, ⟨T9, L9, k9, n9⟩, -, X9, ⟨Lc9, hQ9, l9, y9, z9⟩, st9⟩ := X8.virtualBack hx (y := (⟨"com/example/pico_z/picoz/types/GenericParameterType", "equals", "(Ljava/lang/Object;)Z"⟩ : MethodName)) (z := (⟨"com/example/pico_z/picoz/types/GenericParameterType", "equals", "(Ljava/lang/Object;)Z"⟩ : MethodName)) hown (mvT hZ (hw _ (List.mem_of_getElem? (i := 23) rfl))) (mvT hZ (hw _ (List.mem_of_getElem? (i := 24) rfl))) (notFace_of_selects (args := #[]) (mvT hZ (hw _ (List.mem_of_getElem? (i := 26) rfl)))) (mvT hZ (hw _ (List.mem_of_getElem? (i := 26) rfl))) (mvT hZ (hw _ (List.mem_of_getElem? (i := 25) rfl))) (by decide) (backOf (W := 0) (rm5 l Z a0 hw [] b6 b3 j i r hd n0 Zy Ex2 Fy Fx2 QE') hZ (hw _ (List.mem_of_getElem? (i := 27) rfl)) (hw _ (List.mem_of_getElem? (i := 7) rfl)) (by decide) (by decide)) q9a q9c (g := (mkF m 103 #[.val (.int a1), .val (.int b2), .val (.int c3), .val (.int i), .val (.int j), .val (.int (c3 &&& (3 : Int32))), .val (.ref b3), .val (.ref b6), .val (.int r)] [(.ref b3), (.ref b6)])) rfl (by rw [hml]; rfl) (Steps.refl _) (argsL := [(.ref b3)]) (rest := []) (lenOf pd__Ljava_lang_ObjectERZ rfl) rfl (by show 2 * 0 + _ ≤ _; exact Nat.le_of_eq rfl) (hb hby at_103) (fun _ _ => ⟨rfl, eh8, (by decide : 2 + 0 ≤ _), (by decide : 6 + 0 ≤ _)⟩)
    dsimp only [Pt.U, Pt.locs, Pt.cells, Pt.slots] at X9 l9 y9 z9 st9 hQ9
    subst l9 y9 z9
    obtain ⟨rfl, N9q, eh9⟩ := hQ9
    have N9 := Fr.app N8 N9q
    obtain ⟨fs, hr, hrun, hended, hW, hsame⟩ := X9.leave (v := some (.int (1 : Int32))) (fun h => by rw [Bd.returns] at h; cases h)
    have eF : (T9.setFrames fs).heap = hd := eh9
    refine ⟨_, _, pre0 _ ?_, hrun, hended, _, _, rfl, ?_, ⟨_, rfl⟩, hW, hsame.mono (by decide) (by decide)⟩
    · refine stP _ ?_
      show Steps p.tables e below (T5.setTop (mkF m 60 #[.val (.int a1), .val (.int b2), .val (.int c3), .val (.int i), .val (.int j), .val (.int (c3 &&& (3 : Int32))), .val (.ref b3), .unset, .unset] [(.int (c3 &&& (3 : Int32)))])) _
      refine XS.ifNo X5.here hx rfl (hb hby at_60) rfl ((if0 _ _).trans (teq hkd).2) ?_
      show Steps p.tables e below (T5.setTop (mkF m 63 #[.val (.int a1), .val (.int b2), .val (.int c3), .val (.int i), .val (.int j), .val (.int (c3 &&& (3 : Int32))), .val (.ref b3), .unset, .unset] [])) _
      refine st6 _ ?_
      show Steps p.tables e below (T6.setTop (mkF m 66 #[.val (.int a1), .val (.int b2), .val (.int c3), .val (.int i), .val (.int j), .val (.int (c3 &&& (3 : Int32))), .val (.ref b3), .unset, .unset] [(.ref b6)])) _
      refine XS.dup X6.here hx rfl (hb hby at_66) rfl rfl ?_
      show Steps p.tables e below (T6.setTop (mkF m 67 #[.val (.int a1), .val (.int b2), .val (.int c3), .val (.int i), .val (.int j), .val (.int (c3 &&& (3 : Int32))), .val (.ref b3), .unset, .unset] [(.ref b6), (.ref b6)])) _
      refine XS.iload X6.here hx rfl (hb hby at_67) rfl ?_
      show Steps p.tables e below (T6.setTop (mkF m 69 #[.val (.int a1), .val (.int b2), .val (.int c3), .val (.int i), .val (.int j), .val (.int (c3 &&& (3 : Int32))), .val (.ref b3), .unset, .unset] [(.int j), (.ref b6), (.ref b6)])) _
      refine st7.trans ?_
      show Steps p.tables e below (T7.setTop (mkF m 72 #[.val (.int a1), .val (.int b2), .val (.int c3), .val (.int i), .val (.int j), .val (.int (c3 &&& (3 : Int32))), .val (.ref b3), .unset, .unset] [(.ref b6)])) _
      refine XS.astore X7.here hx rfl (hb hby at_72) rfl rfl (l' := #[.val (.int a1), .val (.int b2), .val (.int c3), .val (.int i), .val (.int j), .val (.int (c3 &&& (3 : Int32))), .val (.ref b3), .val (.ref b6), .unset]) rfl ?_
      show Steps p.tables e below (T7.setTop (mkF m 74 #[.val (.int a1), .val (.int b2), .val (.int c3), .val (.int i), .val (.int j), .val (.int (c3 &&& (3 : Int32))), .val (.ref b3), .val (.ref b6), .unset] [])) _
      refine XS.iloadN X7.here hx rfl (hb hby at_74) rfl ?_
      show Steps p.tables e below (T7.setTop (mkF m 75 #[.val (.int a1), .val (.int b2), .val (.int c3), .val (.int i), .val (.int j), .val (.int (c3 &&& (3 : Int32))), .val (.ref b3), .val (.ref b6), .unset] [(.int i)])) _
      refine XS.iload X7.here hx rfl (hb hby at_75) rfl ?_
      show Steps p.tables e below (T7.setTop (mkF m 77 #[.val (.int a1), .val (.int b2), .val (.int c3), .val (.int i), .val (.int j), .val (.int (c3 &&& (3 : Int32))), .val (.ref b3), .val (.ref b6), .unset] [(.int j), (.int i)])) _
      refine mid _ ?_
      show Steps p.tables e below (T7.setTop (mkF m 87 #[.val (.int a1), .val (.int b2), .val (.int c3), .val (.int i), .val (.int j), .val (.int (c3 &&& (3 : Int32))), .val (.ref b3), .val (.ref b6), .val (.int r)] [])) _
      refine XS.aload X7.here hx rfl (hb hby at_87) rfl rfl ?_
      show Steps p.tables e below (T7.setTop (mkF m 89 #[.val (.int a1), .val (.int b2), .val (.int c3), .val (.int i), .val (.int j), .val (.int (c3 &&& (3 : Int32))), .val (.ref b3), .val (.ref b6), .val (.int r)] [(.ref b3)])) _
      refine XS.aload X7.here hx rfl (hb hby at_89) rfl rfl ?_
      show Steps p.tables e below (T7.setTop (mkF m 91 #[.val (.int a1), .val (.int b2), .val (.int c3), .val (.int i), .val (.int j), .val (.int (c3 &&& (3 : Int32))), .val (.ref b3), .val (.ref b6), .val (.int r)] [(.ref b6), (.ref b3)])) _
      refine st8.trans ?_
      show Steps p.tables e below (T8.setTop (mkF m 94 #[.val (.int a1), .val (.int b2), .val (.int c3), .val (.int i), .val (.int j), .val (.int (c3 &&& (3 : Int32))), .val (.ref b3), .val (.ref b6), .val (.int r)] [(.int r)])) _
      refine XS.iload X8.here hx rfl (hb hby at_94) rfl ?_
      show Steps p.tables e below (T8.setTop (mkF m 96 #[.val (.int a1), .val (.int b2), .val (.int c3), .val (.int i), .val (.int j), .val (.int (c3 &&& (3 : Int32))), .val (.ref b3), .val (.ref b6), .val (.int r)] [(.int r), (.int r)])) _
      refine XS.icmpNo X8.here hx rfl (hb hby at_96) rfl (teq (rfl : r = r)).2 ?_
      show Steps p.tables e below (T8.setTop (mkF m 99 #[.val (.int a1), .val (.int b2), .val (.int c3), .val (.int i), .val (.int j), .val (.int (c3 &&& (3 : Int32))), .val (.ref b3), .val (.ref b6), .val (.int r)] [])) _
      refine XS.aload X8.here hx rfl (hb hby at_99) rfl rfl ?_
      show Steps p.tables e below (T8.setTop (mkF m 101 #[.val (.int a1), .val (.int b2), .val (.int c3), .val (.int i), .val (.int j), .val (.int (c3 &&& (3 : Int32))), .val (.ref b3), .val (.ref b6), .val (.int r)] [(.ref b6)])) _
      refine XS.aload X8.here hx rfl (hb hby at_101) rfl rfl ?_
      show Steps p.tables e below (T8.setTop (mkF m 103 #[.val (.int a1), .val (.int b2), .val (.int c3), .val (.int i), .val (.int j), .val (.int (c3 &&& (3 : Int32))), .val (.ref b3), .val (.ref b6), .val (.int r)] [(.ref b3), (.ref b6)])) _
      refine st9.trans ?_
      show Steps p.tables e below (T9.setTop (mkF m 106 #[.val (.int a1), .val (.int b2), .val (.int c3), .val (.int i), .val (.int j), .val (.int (c3 &&& (3 : Int32))), .val (.ref b3), .val (.ref b6), .val (.int r)] [(.int r)])) _
      refine XS.iload X9.here hx rfl (hb hby at_106) rfl ?_
      show Steps p.tables e below (T9.setTop (mkF m 108 #[.val (.int a1), .val (.int b2), .val (.int c3), .val (.int i), .val (.int j), .val (.int (c3 &&& (3 : Int32))), .val (.ref b3), .val (.ref b6), .val (.int r)] [(.int r), (.int r)])) _
      refine XS.icmpNo X9.here hx rfl (hb hby at_108) rfl (teq (rfl : r = r)).2 ?_
      show Steps p.tables e below (T9.setTop (mkF m 111 #[.val (.int a1), .val (.int b2), .val (.int c3), .val (.int i), .val (.int j), .val (.int (c3 &&& (3 : Int32))), .val (.ref b3), .val (.ref b6), .val (.int r)] [])) _
      refine XS.iconst X9.here hx rfl (hb hby at_111) ?_
      show Steps p.tables e below (T9.setTop (mkF m 112 #[.val (.int a1), .val (.int b2), .val (.int c3), .val (.int i), .val (.int j), .val (.int (c3 &&& (3 : Int32))), .val (.ref b3), .val (.ref b6), .val (.int r)] [(.int (1 : Int32))])) _
      refine XS.goto X9.here hx rfl (pc0 := 112) (pc' := 116) rfl (hb hby at_112) (by decide) (by decide) ?_
      show Steps p.tables e below (T9.setTop (mkF m 116 #[.val (.int a1), .val (.int b2), .val (.int c3), .val (.int i), .val (.int j), .val (.int (c3 &&& (3 : Int32))), .val (.ref b3), .val (.ref b6), .val (.int r)] [(.int (1 : Int32))])) _
      exact retN X9 hx (t := .boolean) Bd.returns (by simp) (hb hby at_116) hr
    · exact ⟨rfl, N9⟩
  · have SEx := SE.ext EX
    obtain ⟨T10, X10, e10, st10⟩ := getS2 X5 hx hZ hown (host := "") (Or.inl (hw _ (List.mem_of_getElem? (i := 55) rfl))) Via.refl eh5 SEx (g := (mkF m 123 #[.val (.int a1), .val (.int b2), .val (.int c3), .val (.int i), .val (.int j), .val (.int (c3 &&& (3 : Int32))), .val (.ref b3), .unset, .unset] [])) rfl (hb hby at_123)
    have EEx := EE.ext EX
    obtain ⟨cq11, kq11, q11a, q11b, q11c⟩ := isOf hZ e10 Ex
    obtain ⟨_, _, ⟨T11, L11, k11, n11⟩, -, X11, ⟨Lc11, hQ11, l11, y11, z11⟩, st11⟩ := X10.virtualBack hx (y := (⟨"com/example/pico_z/picoz/types/GenericParameterType", "equals", "(Ljava/lang/Object;)Z"⟩ : MethodName)) (z := (⟨"com/example/pico_z/picoz/types/GenericParameterType", "equals", "(Ljava/lang/Object;)Z"⟩ : MethodName)) hown (mvT hZ (hw _ (List.mem_of_getElem? (i := 23) rfl))) (mvT hZ (hw _ (List.mem_of_getElem? (i := 24) rfl))) (notFace_of_selects (args := #[]) (mvT hZ (hw _ (List.mem_of_getElem? (i := 26) rfl)))) (mvT hZ (hw _ (List.mem_of_getElem? (i := 26) rfl))) (mvT hZ (hw _ (List.mem_of_getElem? (i := 25) rfl))) (by decide) (backOf (W := 0) (rm5d l Z a0 hw [] b3 we "com/example/pico_z/picoz/types/ErrorType" hc n0 Zx EEx NE) hZ (hw _ (List.mem_of_getElem? (i := 27) rfl)) (hw _ (List.mem_of_getElem? (i := 7) rfl)) (by decide) (by decide)) q11a q11c (g := (mkF m 153 #[.val (.int a1), .val (.int b2), .val (.int c3), .val (.int i), .val (.int j), .val (.int (c3 &&& (3 : Int32))), .val (.ref b3), .val (.ref we), .unset] [(.ref we), (.ref b3)])) rfl (by rw [hml]; rfl) (Steps.refl _) (argsL := [(.ref we)]) (rest := []) (lenOf pd__Ljava_lang_ObjectERZ rfl) rfl (by show 2 * 0 + _ ≤ _; exact Nat.le_of_eq rfl) (hb hby at_153) (fun _ _ => ⟨rfl, e10, (by decide : 1 + 0 ≤ _), (by decide : 3 + 0 ≤ _)⟩)
    dsimp only [Pt.U, Pt.locs, Pt.cells, Pt.slots] at X11 l11 y11 z11 st11 hQ11
    subst l11 y11 z11
    obtain ⟨rfl, N11q, eh11⟩ := hQ11
    have N11 := Fr.app N5 N11q
    obtain ⟨fs, hr, hrun, hended, hW, hsame⟩ := X11.leave (v := some (.int (1 : Int32))) (fun h => by rw [Bd.returns] at h; cases h)
    have eF : (T11.setFrames fs).heap = hc := eh11
    refine ⟨_, _, pre0 _ ?_, hrun, hended, _, _, rfl, ?_, ⟨_, rfl⟩, hW, hsame.mono (by decide) (by decide)⟩
    · refine stP _ ?_
      show Steps p.tables e below (T5.setTop (mkF m 60 #[.val (.int a1), .val (.int b2), .val (.int c3), .val (.int i), .val (.int j), .val (.int (c3 &&& (3 : Int32))), .val (.ref b3), .unset, .unset] [(.int (c3 &&& (3 : Int32)))])) _
      refine XS.ifYes X5.here hx rfl (pc0 := 60) (pc' := 117) rfl (hb hby at_60) rfl ((if0 _ _).trans (feq (by rw [hkd]; decide : ¬ ((c3 &&& (3 : Int32)) = (0 : Int32)))).2) (by decide) (by decide) ?_
      show Steps p.tables e below (T5.setTop (mkF m 117 #[.val (.int a1), .val (.int b2), .val (.int c3), .val (.int i), .val (.int j), .val (.int (c3 &&& (3 : Int32))), .val (.ref b3), .unset, .unset] [])) _
      refine XS.iload X5.here hx rfl (hb hby at_117) rfl ?_
      show Steps p.tables e below (T5.setTop (mkF m 119 #[.val (.int a1), .val (.int b2), .val (.int c3), .val (.int i), .val (.int j), .val (.int (c3 &&& (3 : Int32))), .val (.ref b3), .unset, .unset] [(.int (c3 &&& (3 : Int32)))])) _
      refine XS.iconst X5.here hx rfl (hb hby at_119) ?_
      show Steps p.tables e below (T5.setTop (mkF m 120 #[.val (.int a1), .val (.int b2), .val (.int c3), .val (.int i), .val (.int j), .val (.int (c3 &&& (3 : Int32))), .val (.ref b3), .unset, .unset] [(.int (1 : Int32)), (.int (c3 &&& (3 : Int32)))])) _
      refine XS.icmpNo X5.here hx rfl (hb hby at_120) rfl (teq hkd).2 ?_
      show Steps p.tables e below (T5.setTop (mkF m 123 #[.val (.int a1), .val (.int b2), .val (.int c3), .val (.int i), .val (.int j), .val (.int (c3 &&& (3 : Int32))), .val (.ref b3), .unset, .unset] [])) _
      refine st10 _ ?_
      show Steps p.tables e below (T10.setTop (mkF m 126 #[.val (.int a1), .val (.int b2), .val (.int c3), .val (.int i), .val (.int j), .val (.int (c3 &&& (3 : Int32))), .val (.ref b3), .unset, .unset] [(.ref we)])) _
      refine XS.astore X10.here hx rfl (hb hby at_126) rfl rfl (l' := #[.val (.int a1), .val (.int b2), .val (.int c3), .val (.int i), .val (.int j), .val (.int (c3 &&& (3 : Int32))), .val (.ref b3), .val (.ref we), .unset]) rfl ?_
      show Steps p.tables e below (T10.setTop (mkF m 128 #[.val (.int a1), .val (.int b2), .val (.int c3), .val (.int i), .val (.int j), .val (.int (c3 &&& (3 : Int32))), .val (.ref b3), .val (.ref we), .unset] [])) _
      refine XS.goto X10.here hx rfl (pc0 := 128) (pc' := 149) rfl (hb hby at_128) (by decide) (by decide) ?_
      show Steps p.tables e below (T10.setTop (mkF m 149 #[.val (.int a1), .val (.int b2), .val (.int c3), .val (.int i), .val (.int j), .val (.int (c3 &&& (3 : Int32))), .val (.ref b3), .val (.ref we), .unset] [])) _
      refine XS.aload X10.here hx rfl (hb hby at_149) rfl rfl ?_
      show Steps p.tables e below (T10.setTop (mkF m 151 #[.val (.int a1), .val (.int b2), .val (.int c3), .val (.int i), .val (.int j), .val (.int (c3 &&& (3 : Int32))), .val (.ref b3), .val (.ref we), .unset] [(.ref b3)])) _
      refine XS.aload X10.here hx rfl (hb hby at_151) rfl rfl ?_
      show Steps p.tables e below (T10.setTop (mkF m 153 #[.val (.int a1), .val (.int b2), .val (.int c3), .val (.int i), .val (.int j), .val (.int (c3 &&& (3 : Int32))), .val (.ref b3), .val (.ref we), .unset] [(.ref we), (.ref b3)])) _
      refine st11.trans ?_
      show Steps p.tables e below (T11.setTop (mkF m 156 #[.val (.int a1), .val (.int b2), .val (.int c3), .val (.int i), .val (.int j), .val (.int (c3 &&& (3 : Int32))), .val (.ref b3), .val (.ref we), .unset] [(.int (0 : Int32))])) _
      refine XS.ifNo X11.here hx rfl (hb hby at_156) rfl ((if0 _ _).trans (teq (rfl : (0 : Int32) = 0)).2) ?_
      show Steps p.tables e below (T11.setTop (mkF m 159 #[.val (.int a1), .val (.int b2), .val (.int c3), .val (.int i), .val (.int j), .val (.int (c3 &&& (3 : Int32))), .val (.ref b3), .val (.ref we), .unset] [])) _
      refine XS.iconst X11.here hx rfl (hb hby at_159) ?_
      show Steps p.tables e below (T11.setTop (mkF m 160 #[.val (.int a1), .val (.int b2), .val (.int c3), .val (.int i), .val (.int j), .val (.int (c3 &&& (3 : Int32))), .val (.ref b3), .val (.ref we), .unset] [(.int (1 : Int32))])) _
      refine XS.goto X11.here hx rfl (pc0 := 160) (pc' := 164) rfl (hb hby at_160) (by decide) (by decide) ?_
      show Steps p.tables e below (T11.setTop (mkF m 164 #[.val (.int a1), .val (.int b2), .val (.int c3), .val (.int i), .val (.int j), .val (.int (c3 &&& (3 : Int32))), .val (.ref b3), .val (.ref we), .unset] [(.int (1 : Int32))])) _
      exact retN X11 hx (t := .boolean) Bd.returns (by simp) (hb hby at_164) hr
    · exact ⟨rfl, N11⟩
  · obtain ⟨cq12, kq12, q12a, q12b, q12c⟩ := isOf hZ eh5 Ex
    obtain ⟨_, _, ⟨T12, L12, k12, n12⟩, -, X12, ⟨Lc12, hQ12, l12, y12, z12⟩, st12⟩ := X5.virtualBack hx (y := (⟨"com/example/pico_z/picoz/types/GenericParameterType", "equals", "(Ljava/lang/Object;)Z"⟩ : MethodName)) (z := (⟨"com/example/pico_z/picoz/types/GenericParameterType", "equals", "(Ljava/lang/Object;)Z"⟩ : MethodName)) hown (mvT hZ (hw _ (List.mem_of_getElem? (i := 23) rfl))) (mvT hZ (hw _ (List.mem_of_getElem? (i := 24) rfl))) (notFace_of_selects (args := #[]) (mvT hZ (hw _ (List.mem_of_getElem? (i := 26) rfl)))) (mvT hZ (hw _ (List.mem_of_getElem? (i := 26) rfl))) (mvT hZ (hw _ (List.mem_of_getElem? (i := 25) rfl))) (by decide) (backOf (W := 0) (rm5c l Z a0 hw [] b3 hc n0 Zx) hZ (hw _ (List.mem_of_getElem? (i := 27) rfl)) (hw _ (List.mem_of_getElem? (i := 7) rfl)) (by decide) (by decide)) q12a q12c (g := (mkF m 153 #[.val (.int a1), .val (.int b2), .val (.int c3), .val (.int i), .val (.int j), .val (.int (c3 &&& (3 : Int32))), .val (.ref b3), .val .null, .unset] [.null, (.ref b3)])) rfl (by rw [hml]; rfl) (Steps.refl _) (argsL := [.null]) (rest := []) (lenOf pd__Ljava_lang_ObjectERZ rfl) rfl (by show 2 * 0 + _ ≤ _; exact Nat.le_of_eq rfl) (hb hby at_153) (fun _ _ => ⟨rfl, eh5, (by decide : 1 + 0 ≤ _), (by decide : 3 + 0 ≤ _)⟩)
    dsimp only [Pt.U, Pt.locs, Pt.cells, Pt.slots] at X12 l12 y12 z12 st12 hQ12
    subst l12 y12 z12
    obtain ⟨rfl, N12q, eh12⟩ := hQ12
    have N12 := Fr.app N5 N12q
    obtain ⟨fs, hr, hrun, hended, hW, hsame⟩ := X12.leave (v := some (.int (1 : Int32))) (fun h => by rw [Bd.returns] at h; cases h)
    have eF : (T12.setFrames fs).heap = hc := eh12
    refine ⟨_, _, pre0 _ ?_, hrun, hended, _, _, rfl, ?_, ⟨_, rfl⟩, hW, hsame.mono (by decide) (by decide)⟩
    · refine stP _ ?_
      show Steps p.tables e below (T5.setTop (mkF m 60 #[.val (.int a1), .val (.int b2), .val (.int c3), .val (.int i), .val (.int j), .val (.int (c3 &&& (3 : Int32))), .val (.ref b3), .unset, .unset] [(.int (c3 &&& (3 : Int32)))])) _
      refine XS.ifYes X5.here hx rfl (pc0 := 60) (pc' := 117) rfl (hb hby at_60) rfl ((if0 _ _).trans (feq (by rw [hkd]; decide : ¬ ((c3 &&& (3 : Int32)) = (0 : Int32)))).2) (by decide) (by decide) ?_
      show Steps p.tables e below (T5.setTop (mkF m 117 #[.val (.int a1), .val (.int b2), .val (.int c3), .val (.int i), .val (.int j), .val (.int (c3 &&& (3 : Int32))), .val (.ref b3), .unset, .unset] [])) _
      refine XS.iload X5.here hx rfl (hb hby at_117) rfl ?_
      show Steps p.tables e below (T5.setTop (mkF m 119 #[.val (.int a1), .val (.int b2), .val (.int c3), .val (.int i), .val (.int j), .val (.int (c3 &&& (3 : Int32))), .val (.ref b3), .unset, .unset] [(.int (c3 &&& (3 : Int32)))])) _
      refine XS.iconst X5.here hx rfl (hb hby at_119) ?_
      show Steps p.tables e below (T5.setTop (mkF m 120 #[.val (.int a1), .val (.int b2), .val (.int c3), .val (.int i), .val (.int j), .val (.int (c3 &&& (3 : Int32))), .val (.ref b3), .unset, .unset] [(.int (1 : Int32)), (.int (c3 &&& (3 : Int32)))])) _
      refine XS.icmpYes X5.here hx rfl (pc0 := 120) (pc' := 131) rfl (hb hby at_120) rfl (feq (by rw [hkd]; decide : ¬ ((c3 &&& (3 : Int32)) = (1 : Int32)))).2 (by decide) (by decide) ?_
      show Steps p.tables e below (T5.setTop (mkF m 131 #[.val (.int a1), .val (.int b2), .val (.int c3), .val (.int i), .val (.int j), .val (.int (c3 &&& (3 : Int32))), .val (.ref b3), .unset, .unset] [])) _
      refine XS.iload X5.here hx rfl (hb hby at_131) rfl ?_
      show Steps p.tables e below (T5.setTop (mkF m 133 #[.val (.int a1), .val (.int b2), .val (.int c3), .val (.int i), .val (.int j), .val (.int (c3 &&& (3 : Int32))), .val (.ref b3), .unset, .unset] [(.int (c3 &&& (3 : Int32)))])) _
      refine XS.iconst X5.here hx rfl (hb hby at_133) ?_
      show Steps p.tables e below (T5.setTop (mkF m 134 #[.val (.int a1), .val (.int b2), .val (.int c3), .val (.int i), .val (.int j), .val (.int (c3 &&& (3 : Int32))), .val (.ref b3), .unset, .unset] [(.int (2 : Int32)), (.int (c3 &&& (3 : Int32)))])) _
      refine XS.icmpNo X5.here hx rfl (hb hby at_134) rfl (teq hkd).2 ?_
      show Steps p.tables e below (T5.setTop (mkF m 137 #[.val (.int a1), .val (.int b2), .val (.int c3), .val (.int i), .val (.int j), .val (.int (c3 &&& (3 : Int32))), .val (.ref b3), .unset, .unset] [])) _
      refine XS.aconstNull X5.here hx rfl (hb hby at_137) ?_
      show Steps p.tables e below (T5.setTop (mkF m 138 #[.val (.int a1), .val (.int b2), .val (.int c3), .val (.int i), .val (.int j), .val (.int (c3 &&& (3 : Int32))), .val (.ref b3), .unset, .unset] [.null])) _
      refine XS.astore X5.here hx rfl (hb hby at_138) rfl rfl (l' := #[.val (.int a1), .val (.int b2), .val (.int c3), .val (.int i), .val (.int j), .val (.int (c3 &&& (3 : Int32))), .val (.ref b3), .val .null, .unset]) rfl ?_
      show Steps p.tables e below (T5.setTop (mkF m 140 #[.val (.int a1), .val (.int b2), .val (.int c3), .val (.int i), .val (.int j), .val (.int (c3 &&& (3 : Int32))), .val (.ref b3), .val .null, .unset] [])) _
      refine XS.goto X5.here hx rfl (pc0 := 140) (pc' := 149) rfl (hb hby at_140) (by decide) (by decide) ?_
      show Steps p.tables e below (T5.setTop (mkF m 149 #[.val (.int a1), .val (.int b2), .val (.int c3), .val (.int i), .val (.int j), .val (.int (c3 &&& (3 : Int32))), .val (.ref b3), .val .null, .unset] [])) _
      refine XS.aload X5.here hx rfl (hb hby at_149) rfl rfl ?_
      show Steps p.tables e below (T5.setTop (mkF m 151 #[.val (.int a1), .val (.int b2), .val (.int c3), .val (.int i), .val (.int j), .val (.int (c3 &&& (3 : Int32))), .val (.ref b3), .val .null, .unset] [(.ref b3)])) _
      refine XS.aload X5.here hx rfl (hb hby at_151) rfl rfl ?_
      show Steps p.tables e below (T5.setTop (mkF m 153 #[.val (.int a1), .val (.int b2), .val (.int c3), .val (.int i), .val (.int j), .val (.int (c3 &&& (3 : Int32))), .val (.ref b3), .val .null, .unset] [.null, (.ref b3)])) _
      refine st12.trans ?_
      show Steps p.tables e below (T12.setTop (mkF m 156 #[.val (.int a1), .val (.int b2), .val (.int c3), .val (.int i), .val (.int j), .val (.int (c3 &&& (3 : Int32))), .val (.ref b3), .val .null, .unset] [(.int (0 : Int32))])) _
      refine XS.ifNo X12.here hx rfl (hb hby at_156) rfl ((if0 _ _).trans (teq (rfl : (0 : Int32) = 0)).2) ?_
      show Steps p.tables e below (T12.setTop (mkF m 159 #[.val (.int a1), .val (.int b2), .val (.int c3), .val (.int i), .val (.int j), .val (.int (c3 &&& (3 : Int32))), .val (.ref b3), .val .null, .unset] [])) _
      refine XS.iconst X12.here hx rfl (hb hby at_159) ?_
      show Steps p.tables e below (T12.setTop (mkF m 160 #[.val (.int a1), .val (.int b2), .val (.int c3), .val (.int i), .val (.int j), .val (.int (c3 &&& (3 : Int32))), .val (.ref b3), .val .null, .unset] [(.int (1 : Int32))])) _
      refine XS.goto X12.here hx rfl (pc0 := 160) (pc' := 164) rfl (hb hby at_160) (by decide) (by decide) ?_
      show Steps p.tables e below (T12.setTop (mkF m 164 #[.val (.int a1), .val (.int b2), .val (.int c3), .val (.int i), .val (.int j), .val (.int (c3 &&& (3 : Int32))), .val (.ref b3), .val .null, .unset] [(.int (1 : Int32))])) _
      exact retN X12 hx (t := .boolean) Bd.returns (by simp) (hb hby at_164) hr
    · exact ⟨rfl, N12⟩
  · obtain ⟨_, _, ⟨T13, L13, k13, n13⟩, -, X13, ⟨Lc13, hQ13, l13, y13, z13⟩, st13⟩ := Jvm.LawKit.callS X5 hx (y := (⟨"java/lang/Integer", "valueOf", "(I)Ljava/lang/Integer;"⟩ : MethodName)) hown (mvT hZ (hw _ (List.mem_of_getElem? (i := 30) rfl))) (mvT hZ (hw _ (List.mem_of_getElem? (i := 31) rfl))) (mvT hZ (hw _ (List.mem_of_getElem? (i := 32) rfl))) (mvT hZ (hw _ (List.mem_of_getElem? (i := 33) rfl))) (by decide) (backOf (W := 0) (rm6 l Z a0 hw [] i wc cl val hc n0 Zx (SHi.ext EX) (SCa.ext EX) BX (⟨Nat.le_trans EX0.1 EX.1, fun a c q => EX.2 a c (EX0.2 a c q)⟩) hi1) hZ (hw _ (List.mem_of_getElem? (i := 33) rfl)) (hw _ (List.mem_of_getElem? (i := 32) rfl)) (by decide) (by decide)) (g := (mkF m 144 #[.val (.int a1), .val (.int b2), .val (.int c3), .val (.int i), .val (.int j), .val (.int (c3 &&& (3 : Int32))), .val (.ref b3), .unset, .unset] [(.int i)])) rfl (by rw [hml]; rfl) (argsL := [(.int i)]) (rest := []) (lenOf pd__IRLjava_lang_IntegerE rfl) rfl (by show 2 * 0 + _ ≤ _; exact Nat.le_of_eq rfl) (hb hby at_144) (fun _ _ => ⟨rfl, eh5, (by decide : 1 + 1 ≤ _), (by decide : 3 + 1 ≤ _)⟩)
    dsimp only [Pt.U, Pt.locs, Pt.cells, Pt.slots] at X13 l13 y13 z13 st13 hQ13
    subst l13 y13 z13
    obtain ⟨bi, rfl, N13q, K13, Ei⟩ := hQ13
    have N13 := Fr.app N5 N13q
    have Ex3 := Ex.ext (own_ext K13)
    obtain ⟨cq14, kq14, q14a, q14b, q14c⟩ := isOf hZ rfl Ex3
    obtain ⟨_, _, ⟨T14, L14, k14, n14⟩, -, X14, ⟨Lc14, hQ14, l14, y14, z14⟩, st14⟩ := X13.virtualBack hx (y := (⟨"com/example/pico_z/picoz/types/GenericParameterType", "equals", "(Ljava/lang/Object;)Z"⟩ : MethodName)) (z := (⟨"com/example/pico_z/picoz/types/GenericParameterType", "equals", "(Ljava/lang/Object;)Z"⟩ : MethodName)) hown (mvT hZ (hw _ (List.mem_of_getElem? (i := 23) rfl))) (mvT hZ (hw _ (List.mem_of_getElem? (i := 24) rfl))) (notFace_of_selects (args := #[]) (mvT hZ (hw _ (List.mem_of_getElem? (i := 26) rfl)))) (mvT hZ (hw _ (List.mem_of_getElem? (i := 26) rfl))) (mvT hZ (hw _ (List.mem_of_getElem? (i := 25) rfl))) (by decide) (backOf (W := 0) (rm5d l Z a0 hw [] b3 bi "java/lang/Integer" T13.heap n0 (Nat.le_trans Zx K13.1) Ei NI) hZ (hw _ (List.mem_of_getElem? (i := 27) rfl)) (hw _ (List.mem_of_getElem? (i := 7) rfl)) (by decide) (by decide)) q14a q14c (g := (mkF m 153 #[.val (.int a1), .val (.int b2), .val (.int c3), .val (.int i), .val (.int j), .val (.int (c3 &&& (3 : Int32))), .val (.ref b3), .val (.ref bi), .unset] [(.ref bi), (.ref b3)])) rfl (by rw [hml]; rfl) (Steps.refl _) (argsL := [(.ref bi)]) (rest := []) (lenOf pd__Ljava_lang_ObjectERZ rfl) rfl (by show 2 * 0 + _ ≤ _; exact Nat.le_of_eq rfl) (hb hby at_153) (fun _ _ => ⟨rfl, rfl, (by decide : 2 + 0 ≤ _), (by decide : 4 + 0 ≤ _)⟩)
    dsimp only [Pt.U, Pt.locs, Pt.cells, Pt.slots] at X14 l14 y14 z14 st14 hQ14
    subst l14 y14 z14
    obtain ⟨rfl, N14q, eh14⟩ := hQ14
    have N14 := Fr.app N13 N14q
    obtain ⟨fs, hr, hrun, hended, hW, hsame⟩ := X14.leave (v := some (.int (1 : Int32))) (fun h => by rw [Bd.returns] at h; cases h)
    have eF : (T14.setFrames fs).heap = T14.heap := rfl
    refine ⟨_, _, pre0 _ ?_, hrun, hended, _, _, rfl, ?_, ⟨_, rfl⟩, hW, hsame.mono (by decide) (by decide)⟩
    · refine stP _ ?_
      show Steps p.tables e below (T5.setTop (mkF m 60 #[.val (.int a1), .val (.int b2), .val (.int c3), .val (.int i), .val (.int j), .val (.int (c3 &&& (3 : Int32))), .val (.ref b3), .unset, .unset] [(.int (c3 &&& (3 : Int32)))])) _
      refine XS.ifYes X5.here hx rfl (pc0 := 60) (pc' := 117) rfl (hb hby at_60) rfl ((if0 _ _).trans (feq (by rw [hkd]; decide : ¬ ((c3 &&& (3 : Int32)) = (0 : Int32)))).2) (by decide) (by decide) ?_
      show Steps p.tables e below (T5.setTop (mkF m 117 #[.val (.int a1), .val (.int b2), .val (.int c3), .val (.int i), .val (.int j), .val (.int (c3 &&& (3 : Int32))), .val (.ref b3), .unset, .unset] [])) _
      refine XS.iload X5.here hx rfl (hb hby at_117) rfl ?_
      show Steps p.tables e below (T5.setTop (mkF m 119 #[.val (.int a1), .val (.int b2), .val (.int c3), .val (.int i), .val (.int j), .val (.int (c3 &&& (3 : Int32))), .val (.ref b3), .unset, .unset] [(.int (c3 &&& (3 : Int32)))])) _
      refine XS.iconst X5.here hx rfl (hb hby at_119) ?_
      show Steps p.tables e below (T5.setTop (mkF m 120 #[.val (.int a1), .val (.int b2), .val (.int c3), .val (.int i), .val (.int j), .val (.int (c3 &&& (3 : Int32))), .val (.ref b3), .unset, .unset] [(.int (1 : Int32)), (.int (c3 &&& (3 : Int32)))])) _
      refine XS.icmpYes X5.here hx rfl (pc0 := 120) (pc' := 131) rfl (hb hby at_120) rfl (feq (by rw [hkd]; decide : ¬ ((c3 &&& (3 : Int32)) = (1 : Int32)))).2 (by decide) (by decide) ?_
      show Steps p.tables e below (T5.setTop (mkF m 131 #[.val (.int a1), .val (.int b2), .val (.int c3), .val (.int i), .val (.int j), .val (.int (c3 &&& (3 : Int32))), .val (.ref b3), .unset, .unset] [])) _
      refine XS.iload X5.here hx rfl (hb hby at_131) rfl ?_
      show Steps p.tables e below (T5.setTop (mkF m 133 #[.val (.int a1), .val (.int b2), .val (.int c3), .val (.int i), .val (.int j), .val (.int (c3 &&& (3 : Int32))), .val (.ref b3), .unset, .unset] [(.int (c3 &&& (3 : Int32)))])) _
      refine XS.iconst X5.here hx rfl (hb hby at_133) ?_
      show Steps p.tables e below (T5.setTop (mkF m 134 #[.val (.int a1), .val (.int b2), .val (.int c3), .val (.int i), .val (.int j), .val (.int (c3 &&& (3 : Int32))), .val (.ref b3), .unset, .unset] [(.int (2 : Int32)), (.int (c3 &&& (3 : Int32)))])) _
      refine XS.icmpYes X5.here hx rfl (pc0 := 134) (pc' := 143) rfl (hb hby at_134) rfl (feq (by rw [hkd]; decide : ¬ ((c3 &&& (3 : Int32)) = (2 : Int32)))).2 (by decide) (by decide) ?_
      show Steps p.tables e below (T5.setTop (mkF m 143 #[.val (.int a1), .val (.int b2), .val (.int c3), .val (.int i), .val (.int j), .val (.int (c3 &&& (3 : Int32))), .val (.ref b3), .unset, .unset] [])) _
      refine XS.iloadN X5.here hx rfl (hb hby at_143) rfl ?_
      show Steps p.tables e below (T5.setTop (mkF m 144 #[.val (.int a1), .val (.int b2), .val (.int c3), .val (.int i), .val (.int j), .val (.int (c3 &&& (3 : Int32))), .val (.ref b3), .unset, .unset] [(.int i)])) _
      refine st13 _ ?_
      show Steps p.tables e below (T13.setTop (mkF m 147 #[.val (.int a1), .val (.int b2), .val (.int c3), .val (.int i), .val (.int j), .val (.int (c3 &&& (3 : Int32))), .val (.ref b3), .unset, .unset] [(.ref bi)])) _
      refine XS.astore X13.here hx rfl (hb hby at_147) rfl rfl (l' := #[.val (.int a1), .val (.int b2), .val (.int c3), .val (.int i), .val (.int j), .val (.int (c3 &&& (3 : Int32))), .val (.ref b3), .val (.ref bi), .unset]) rfl ?_
      show Steps p.tables e below (T13.setTop (mkF m 149 #[.val (.int a1), .val (.int b2), .val (.int c3), .val (.int i), .val (.int j), .val (.int (c3 &&& (3 : Int32))), .val (.ref b3), .val (.ref bi), .unset] [])) _
      refine XS.aload X13.here hx rfl (hb hby at_149) rfl rfl ?_
      show Steps p.tables e below (T13.setTop (mkF m 151 #[.val (.int a1), .val (.int b2), .val (.int c3), .val (.int i), .val (.int j), .val (.int (c3 &&& (3 : Int32))), .val (.ref b3), .val (.ref bi), .unset] [(.ref b3)])) _
      refine XS.aload X13.here hx rfl (hb hby at_151) rfl rfl ?_
      show Steps p.tables e below (T13.setTop (mkF m 153 #[.val (.int a1), .val (.int b2), .val (.int c3), .val (.int i), .val (.int j), .val (.int (c3 &&& (3 : Int32))), .val (.ref b3), .val (.ref bi), .unset] [(.ref bi), (.ref b3)])) _
      refine st14.trans ?_
      show Steps p.tables e below (T14.setTop (mkF m 156 #[.val (.int a1), .val (.int b2), .val (.int c3), .val (.int i), .val (.int j), .val (.int (c3 &&& (3 : Int32))), .val (.ref b3), .val (.ref bi), .unset] [(.int (0 : Int32))])) _
      refine XS.ifNo X14.here hx rfl (hb hby at_156) rfl ((if0 _ _).trans (teq (rfl : (0 : Int32) = 0)).2) ?_
      show Steps p.tables e below (T14.setTop (mkF m 159 #[.val (.int a1), .val (.int b2), .val (.int c3), .val (.int i), .val (.int j), .val (.int (c3 &&& (3 : Int32))), .val (.ref b3), .val (.ref bi), .unset] [])) _
      refine XS.iconst X14.here hx rfl (hb hby at_159) ?_
      show Steps p.tables e below (T14.setTop (mkF m 160 #[.val (.int a1), .val (.int b2), .val (.int c3), .val (.int i), .val (.int j), .val (.int (c3 &&& (3 : Int32))), .val (.ref b3), .val (.ref bi), .unset] [(.int (1 : Int32))])) _
      refine XS.goto X14.here hx rfl (pc0 := 160) (pc' := 164) rfl (hb hby at_160) (by decide) (by decide) ?_
      show Steps p.tables e below (T14.setTop (mkF m 164 #[.val (.int a1), .val (.int b2), .val (.int c3), .val (.int i), .val (.int j), .val (.int (c3 &&& (3 : Int32))), .val (.ref b3), .val (.ref bi), .unset] [(.int (1 : Int32))])) _
      exact retN X14 hx (t := .boolean) Bd.returns (by simp) (hb hby at_164) hr
    · exact ⟨rfl, N14⟩
theorem own_f128 {args : Array Value} {s : State} {j : Int32} (nn : ¬ j < 0) : (Term.sub (Term.index 0) (Term.int 128)).eval args s none [j.toNatClampNeg] s = some (.int (j - 128)) := by
  have q : (Term.index 0).eval args s none [j.toNatClampNeg] s = some (.int j) := idx_at nn
  simp only [Term.eval] at q ⊢
  simp_all
theorem own_root {Z : State} {a0 : Array Value} {O K : String} {n : Nat} (w : (Jvm.Cond.noSuperclass O).before a0 Z = true) (wk : (Jvm.Cond.instantiable K n).before a0 Z = true) (hn : O ≠ K) : NS Z O K := by
  obtain ⟨c, k, h1, h2, h3, -⟩ := Cond.noSuperclass_spec w
  obtain ⟨t, -, g1, -⟩ := Cond.instantiable_spec wk
  have ne := ids_ne h1 g1 hn
  exact ⟨c, t, h1, g1, fun fuel => by cases fuel <;> simp [Vm.isSubclassAux, ne, h2, h3]⟩
theorem own_no {Z : State} {a0 : Array Value} {C S K : String} {n : Nat} (w : (Jvm.Cond.superclass C S).before a0 Z = true) (wk : (Jvm.Cond.instantiable K n).before a0 Z = true) (ns : NS Z C K) (hn : C ≠ K) : ∃ c t, Z.vm.findClass C = some c ∧ Z.vm.findClass K = some t ∧ Z.vm.assignable c t = false := by
  obtain ⟨c, t, h0, g0, n3⟩ := ns
  obtain ⟨-, k, -, -, h2, -, -, h5, -⟩ := Cond.superclass_spec h0 w
  obtain ⟨t', kt, g1, g2, g3, g4, -⟩ := Cond.instantiable_spec wk
  cases g0.symm.trans g1
  have ne := ids_ne h0 g0 hn
  have g5 : kt.isInterface = false := by simp only [Bool.or_eq_false_iff] at g4; exact g4.1
  exact ⟨c, t, h0, g0, by show Z.vm.assignableAux (255 + 1) c t = false; simp [Vm.assignableAux, ne, h2, g2, h5, g3, g5, Vm.isSubclass, n3]⟩
theorem own_max (y : Int32) : ∃ r, own_Max 1 y r ∧ ¬ r < (1 : Int32) := by
  by_cases h : (1 : Int32) < y
  · refine ⟨y, Or.inl ⟨h, rfl⟩, ?_⟩
    rw [Int32.lt_iff_toInt_lt] at h ⊢
    omega
  · exact ⟨1, Or.inr ⟨h, rfl⟩, by decide⟩
theorem own_kind (c : Int32) : c &&& (3 : Int32) = 0 ∨ c &&& (3 : Int32) = 1 ∨ c &&& (3 : Int32) = 2 ∨ c &&& (3 : Int32) = 3 := by
  have h := c_mask c (3 : Int32) 2 (by decide) (by decide)
  rw [show ((2 ^ 2 : Nat) : Int) = 4 from rfl] at h
  have h3 : (c &&& (3 : Int32)).toInt = 0 ∨ (c &&& (3 : Int32)).toInt = 1 ∨ (c &&& (3 : Int32)).toInt = 2 ∨ (c &&& (3 : Int32)).toInt = 3 := by omega
  rcases h3 with h | h | h | h
  · exact Or.inl (Int32.toInt_inj.mp (h.trans (by decide : (0 : Int) = (0 : Int32).toInt)))
  · exact Or.inr (Or.inl (Int32.toInt_inj.mp (h.trans (by decide : (1 : Int) = (1 : Int32).toInt))))
  · exact Or.inr (Or.inr (Or.inl (Int32.toInt_inj.mp (h.trans (by decide : (2 : Int) = (2 : Int32).toInt)))))
  · exact Or.inr (Or.inr (Or.inr (Int32.toInt_inj.mp (h.trans (by decide : (3 : Int) = (3 : Int32).toInt)))))
theorem own_len {args : Array Value} {s : State} {t : Term} {a : Addr} {cl : Cell} {ty : FieldType} {z : Int32} (ev : t.eval args s none [] s = some (.ref a)) (A : Arr s s.heap a cl ty) (h : (Term.length t).eval args s none [] s = some (.int z)) : cl.slots.size < 2 ^ 31 ∧ cl.slots.size.toInt32 = z := by
  have q := A.fin (Vm.Alike.refl _)
  by_cases hb : cl.slots.size < 2 ^ 31
  · rw [len_f ev q hb] at h
    exact ⟨hb, Value.int.inj (Option.some.inj h)⟩
  · exfalso
    simp [Term.eval, ev, q, hb] at h
set_option maxRecDepth 65536 in
set_option maxHeartbeats 40000000 in
theorem comes_1 {Post : Tables → Env → Array Value → State → Outcome → State → Prop} (hpost : ∀ tb e args s v u, (limb_1_1.after args s (.returned v) u = true ∧ limb_1_2.after args s (.returned v) u = true ∧ True) → FrameEnd s (.returned v) u (Jvm.fieldLocs frame_1_writes args s ++ Jvm.arrayLocs frame_1_arrays args s ++ Jvm.staticLocs frame_1_statics s) 16 128 → Post tb e args s (.returned v) u) :
    ArmFor flags0 classFile x code maxLocals ret World_1 tables_1 room_1 Calls_1 rest_1 Pre_1 Post := by
  intro l hfl _ _ p e ha hc hk s m args below hf hA hF happ hP
  obtain ⟨hcalls, hrest, hpre⟩ := hP
  obtain ⟨-, -, -, hnamed, -, -, -, hat⟩ := (Spec.applies_iff hf).mp happ
  obtain ⟨hg, hn⟩ := and_e (Cond.before_iff.mp (show (Jvm.Cond.and given_1 narrow_1).before args s = true from hpre))
  obtain ⟨g1, g2⟩ := and_e hg
  obtain ⟨g3, g4⟩ := and_e g2
  obtain ⟨g5, g6⟩ := and_e g4
  obtain ⟨w0, w1, w2, rfl⟩ : ∃ w0 w1 w2 : Value, args = #[w0, w1, w2] := by
    have hs : args.size = 3 := by simpa [Cond.value, given_1] using g1
    obtain ⟨L⟩ := args
    match L, hs with
    | [w0, w1, w2], _ => exact ⟨w0, w1, w2, rfl⟩
  have hw := fun d (hd : d ∈ tables_1) => atoms_spec (ws := Jvm.Cond.code x code maxLocals ret :: tables_1) hat d (List.mem_cons_of_mem _ hd)
  obtain ⟨hsets, hown0⟩ := atoms_of _ (rest_1_c_eq ▸ (show rest_1_c.before _ s = true from hrest))
  obtain ⟨i0, ei0⟩ := is_v g3
  obtain rfl : w0 = (.int i0) := Option.some.inj ei0
  obtain ⟨i1, ei1⟩ := is_v g5
  obtain rfl : w1 = (.int i1) := Option.some.inj ei1
  obtain ⟨i2, ei2⟩ := is_v g6
  obtain rfl : w2 = (.int i2) := Option.some.inj ei2
  obtain ⟨we, ve⟩ := exa_v hn
  have EE := Exa.start ve hn
  have SE := Sta.start ve (Or.inr ⟨(hw _ (List.mem_of_getElem? (i := 56) rfl)), (hw _ (List.mem_of_getElem? (i := 57) rfl))⟩)
  have vh := eqv_i (Term.int_eval (127 : Int32)) (Cond.before_iff.mp (hsets _ (List.mem_of_getElem? (i := 3) rfl)))
  have SHi := Sta.start vh (Or.inl (hsets _ (List.mem_of_getElem? (i := 1) rfl)))
  obtain ⟨wc, vc⟩ := arr_v (Cond.before_iff.mp (hsets _ (List.mem_of_getElem? (i := 4) rfl)))
  obtain ⟨cl, Ar⟩ := Arr.start vc (Cond.before_iff.mp (hsets _ (List.mem_of_getElem? (i := 4) rfl)))
  have SCa := Sta.start vc (Or.inr ⟨(hw _ (List.mem_of_getElem? (i := 35) rfl)), (hsets _ (List.mem_of_getElem? (i := 2) rfl))⟩)
  have vl := eqv_i (Term.int_eval (256 : Int32)) (Cond.before_iff.mp (hsets _ (List.mem_of_getElem? (i := 6) rfl)))
  obtain ⟨lb, le⟩ := own_len vc Ar vl
  have BX : Bxs s wc cl "java/lang/Integer" "I" 256 (fun j => .int (j - 128)) := Bxs.start (fun _ => vc) Ar lb le (by decide) (Cond.before_iff.mp (hsets _ (List.mem_of_getElem? (i := 7) rfl))) (fun X j nn h => eqv_i (own_f128 nn) h)
  have NE := own_no (hw _ (List.mem_of_getElem? (i := 58) rfl)) (hw _ (List.mem_of_getElem? (i := 6) rfl)) (NS.step (hw _ (List.mem_of_getElem? (i := 58) rfl)) (NS.step (hw _ (List.mem_of_getElem? (i := 59) rfl)) (own_root (hw _ (List.mem_of_getElem? (i := 39) rfl)) (hw _ (List.mem_of_getElem? (i := 6) rfl)) (by decide)) (by decide)) (by decide)) (by decide)
  have NI := own_no (hw _ (List.mem_of_getElem? (i := 37) rfl)) (hw _ (List.mem_of_getElem? (i := 6) rfl)) (NS.step (hw _ (List.mem_of_getElem? (i := 37) rfl)) (NS.step (hw _ (List.mem_of_getElem? (i := 38) rfl)) (own_root (hw _ (List.mem_of_getElem? (i := 39) rfl)) (hw _ (List.mem_of_getElem? (i := 6) rfl)) (by decide)) (by decide)) (by decide)) (by decide)
  obtain ⟨i, hi, hi1⟩ := own_max (i0 &&& (2147483647 : Int32))
  obtain ⟨j, hj, hj1⟩ : ∃ j, ((¬ (i2 >>> ((2 : Int32) &&& 31) &&& (1 : Int32)) = 0 ∧ j = i) ∨ ((i2 >>> ((2 : Int32) &&& 31) &&& (1 : Int32)) = 0 ∧ own_Max 1 (i1 &&& (2147483647 : Int32)) j)) ∧ ¬ j < (1 : Int32) := by
    by_cases q : (i2 >>> ((2 : Int32) &&& 31) &&& (1 : Int32)) = 0
    · obtain ⟨j, h1, h2⟩ := own_max (i1 &&& (2147483647 : Int32))
      exact ⟨j, Or.inr ⟨q, h1⟩, h2⟩
    · exact ⟨i, Or.inl ⟨q, rfl⟩, hi1⟩
  obtain ⟨n, o, h1, h2, h3, _, L, rfl, ⟨rfl, N⟩, hq⟩ := rm0 l s _ hw tables_1 i0 i1 i2 i j we wc cl _ s.heap s.heap.size (Nat.le_refl _) hi hj hi1 hj1 (own_kind i2) SE EE NE NI SHi SCa BX ⟨Nat.le_refl _, fun _ _ q => q⟩ p e ha hc hk s m _ below hf ((Spec.applies_iff_loose hf).mp happ).1 ⟨rfl, State.Warmed39.refl s, rfl⟩ trivial
  refine ⟨n, _, h1, h2, h3, hpost _ _ _ _ _ _ ⟨Cond.after_iff.mpr rfl, Cond.after_iff.mpr (eq_i res_at (Term.int_eval (1)) rfl), trivial⟩ ⟨hq.1, hq.2.1, (hq.2.2.sift fun y hy => Or.inr (N y hy)).mono (by decide) (by decide)⟩⟩
theorem main_1_1 : Claimed_1_1 := comes_1 fun _ _ _ _ _ _ h hF => ⟨h.1, hF⟩
theorem main_1_2 : Claimed_1_2 := comes_1 fun _ _ _ _ _ _ h hF => ⟨h.2.1, hF⟩
end Jvm.Pilot.@@N@@
namespace Jvm.Pilot.@@N@@
open Jvm Jvm.ClassFile Sem Op Lib Jvm.Free Jvm.Stand Jvm.Pilot.@@N@@.Jvm.D
/-! MADE BY PROGRAM (witnessworld.py) out of the Statement's table words and the real class files: 19 classes; the members and pool entries that the words name. The judged class is class 1, her method 1. -/
namespace start1
open Jvm.ClassFile
def u (s : String) : CpInfo := .utf8 (stringToUtf16 s)
/-- a pool by its gaps: so many unusable entries, then the entry; so many at the end -/
def gap : Nat → List CpInfo → List CpInfo
  | 0, r => r
  | n + 1, r => .unusable :: gap n r
def poolList (es : List (Nat × CpInfo)) (last : Nat) : List CpInfo := es.foldr (fun e r => gap e.1 (e.2 :: r)) (gap last [])
def pool (es : List (Nat × CpInfo)) (last : Nat) : Array CpInfo := ⟨poolList es last⟩
def fileOf (pool : Array CpInfo) (this : Nat) (attrs : Array Attribute := #[]) (ms : Array MethodInfo := #[]) (fl : Nat := 33) (sup : Nat := 0) (ifs : Array Nat := #[]) (fds : Array FieldInfo := #[]) : ClassFile where
  minorVersion := 0
  majorVersion := 65
  constantPool := pool
  accessFlags := fl
  thisClass := this
  superClass := sup
  interfaces := ifs
  fields := fds
  methods := ms
  attributes := attrs
def plain (name : String) (sup : Option ClassId) : Class where
  name := name
  kind := .ordinary
  loader := none
  accessFlags := 33
  super := sup
  interfaces := #[]
  cf := none
  fields := #[]
  methods := #[]
  instanceTypes := #[]
  staticTypes := #[]
  resolved := #[]
  callSites := []
  init := .initialized
  statics := none
  mirror := none

def pool0 : Array CpInfo := pool [(5, u "<init>"), (0, u "()V"), (1, .class_ 10), (1, u "java/lang/Object")] 113

def k0c0 : Code := { maxStack := 0, maxLocals := 1, code := object_method_1_code, exceptionTable := #[], attributes := #[] }
def k0m0 : Method := { name := "<init>", desc := "()V", sig := { parameters := [], returnType := none }, accessFlags := 1, code := some k0c0 }
/-- java/lang/Object -/
def k0 : Class := { plain "java/lang/Object" none with
  accessFlags := 33
  interfaces := #[]
  cf := some (fileOf pool0 8 #[] #[{ accessFlags := 1, nameIndex := 5, descriptorIndex := 6, attributes := #[] }] 33 0 #[] #[])
  fields := #[]
  methods := #[k0m0]
  instanceTypes := #[]
  staticTypes := #[]
  resolved := Array.replicate 124 none
  statics := none }

def pool1 : Array CpInfo := pool [(2, .class_ 4), (1, u "java/lang/Object"), (0, u "<init>"), (0, u "()V"), (0, .integer 2147483647), (0, .methodref 9 10), (0, .class_ 11), (0, .nameAndType 12 13), (0, u "java/lang/Math"), (0, u "max"), (0, u "(II)I"), (0, .class_ 15), (0, u "com/example/pico_z/picoz/types/GenericParameterType"), (0, .methodref 14 17), (0, .nameAndType 5 18), (0, u "(I)V"), (0, .methodref 14 20), (0, .nameAndType 21 22), (0, u "equals"), (0, u "(Ljava/lang/Object;)Z"), (0, .fieldref 24 25), (0, .class_ 26), (0, .nameAndType 27 28), (0, u "com/example/pico_z/picoz/types/ErrorType"), (0, u "INSTANCE"), (0, u "Lcom/example/pico_z/picoz/types/ErrorType;"), (0, .methodref 30 31), (0, .class_ 32), (0, .nameAndType 33 34), (0, u "java/lang/Integer"), (0, u "valueOf"), (0, u "(I)Ljava/lang/Integer;"), (0, .class_ 36), (0, u "com/example/pico_z/picoz/types/GenericParameterTypeEqualsPinLaw"), (2, u "law"), (0, u "(III)Z")] 3

def k1m0 : Method := { name := "<init>", desc := "()V", sig := { parameters := [], returnType := none }, accessFlags := 1, code := none }
def k1c1 : Code := { maxStack := 3, maxLocals := 9, code := code, exceptionTable := #[], attributes := #[] }
def k1m1 : Method := { name := "law", desc := "(III)Z", sig := { parameters := [.int, .int, .int], returnType := some .boolean }, accessFlags := 9, code := some k1c1 }
/-- com/example/pico_z/picoz/types/GenericParameterTypeEqualsPinLaw -/
def k1 : Class := { plain "com/example/pico_z/picoz/types/GenericParameterTypeEqualsPinLaw" (some 0) with
  accessFlags := 49
  interfaces := #[]
  cf := some (fileOf pool1 35 #[] #[{ accessFlags := 1, nameIndex := 5, descriptorIndex := 6, attributes := #[] }, { accessFlags := 9, nameIndex := 39, descriptorIndex := 40, attributes := #[] }] 49 2 #[] #[])
  fields := #[]
  methods := #[k1m0, k1m1]
  instanceTypes := #[]
  staticTypes := #[]
  resolved := Array.replicate 44 none
  statics := none }

def pool2 : Array CpInfo := pool [(1, .class_ 2), (0, u "java/lang/Math"), (1, .class_ 6), (1, u "java/lang/Object"), (0, u "<init>"), (0, u "()V"), (89, .class_ 100), (1, u "java/lang/Math$RandomNumberGeneratorHolder"), (71, u "negativeZeroFloatBits"), (0, u "J"), (2, u "negativeZeroDoubleBits"), (21, u "max"), (46, u "$assertionsDisabled"), (0, u "Z"), (88, u "(II)I"), (2, u "twoToTheDoubleScaleDown"), (0, u "D"), (4, u "twoToTheDoubleScaleUp"), (9, u "E"), (3, u "PI"), (2, u "TAU"), (2, u "DEGREES_TO_RADIANS"), (0, u "RADIANS_TO_DEGREES")] 94

def k2m0 : Method := { name := "<init>", desc := "()V", sig := { parameters := [], returnType := none }, accessFlags := 2, code := none }
def k2c1 : Code := { maxStack := 2, maxLocals := 2, code := jdk_29_method_65_code, exceptionTable := #[], attributes := #[] }
def k2m1 : Method := { name := "max", desc := "(II)I", sig := { parameters := [.int, .int], returnType := some .int }, accessFlags := 9, code := some k2c1 }
/-- java/lang/Math -/
def k2 : Class := { plain "java/lang/Math" (some 0) with
  accessFlags := 49
  interfaces := #[]
  cf := some (fileOf pool2 1 #[.nestMembers #[98]] #[{ accessFlags := 2, nameIndex := 7, descriptorIndex := 8, attributes := #[] }, { accessFlags := 9, nameIndex := 198, descriptorIndex := 335, attributes := #[] }] 49 4 #[] #[{ accessFlags := 25, nameIndex := 354, descriptorIndex := 339, attributes := #[] }, { accessFlags := 25, nameIndex := 358, descriptorIndex := 339, attributes := #[] }, { accessFlags := 25, nameIndex := 361, descriptorIndex := 339, attributes := #[] }, { accessFlags := 26, nameIndex := 364, descriptorIndex := 339, attributes := #[] }, { accessFlags := 26, nameIndex := 365, descriptorIndex := 339, attributes := #[] }, { accessFlags := 26, nameIndex := 172, descriptorIndex := 173, attributes := #[] }, { accessFlags := 26, nameIndex := 176, descriptorIndex := 173, attributes := #[] }, { accessFlags := 8, nameIndex := 344, descriptorIndex := 339, attributes := #[] }, { accessFlags := 8, nameIndex := 338, descriptorIndex := 339, attributes := #[] }, { accessFlags := 4120, nameIndex := 245, descriptorIndex := 246, attributes := #[] }])
  fields := #[{ name := "E", type := .double, accessFlags := 25, slot := 0, constantValue := 0 }, { name := "PI", type := .double, accessFlags := 25, slot := 1, constantValue := 0 }, { name := "TAU", type := .double, accessFlags := 25, slot := 2, constantValue := 0 }, { name := "DEGREES_TO_RADIANS", type := .double, accessFlags := 26, slot := 3, constantValue := 0 }, { name := "RADIANS_TO_DEGREES", type := .double, accessFlags := 26, slot := 4, constantValue := 0 }, { name := "negativeZeroFloatBits", type := .long, accessFlags := 26, slot := 5, constantValue := 0 }, { name := "negativeZeroDoubleBits", type := .long, accessFlags := 26, slot := 6, constantValue := 0 }, { name := "twoToTheDoubleScaleUp", type := .double, accessFlags := 8, slot := 7, constantValue := 0 }, { name := "twoToTheDoubleScaleDown", type := .double, accessFlags := 8, slot := 8, constantValue := 0 }, { name := "$assertionsDisabled", type := .boolean, accessFlags := 4120, slot := 9, constantValue := 0 }]
  methods := #[k2m0, k2m1]
  instanceTypes := #[]
  staticTypes := #[.double, .double, .double, .double, .double, .long, .long, .double, .double, .boolean]
  resolved := Array.replicate 460 none
  statics := none }

def pool3 : Array CpInfo := pool [(1, .methodref 2 3), (0, .class_ 4), (0, .nameAndType 5 6), (0, u "java/lang/Object"), (0, u "<init>"), (0, u "()V"), (0, .fieldref 8 9), (0, .class_ 10), (0, .nameAndType 11 12), (0, u "com/example/pico_z/picoz/types/Type"), (0, u "kinds"), (0, u "I"), (10, .class_ 25), (1, u "com/example/pico_z/picoz/types/Type$Binding"), (57, u "official"), (0, u "Lcom/example/pico_z/picoz/types/Type;"), (14, u "(I)V"), (6, u "PARAMETER"), (2, u "UNKNOWN"), (1, u "ABBREVIATION")] 46

def k3c0 : Code := { maxStack := 2, maxLocals := 2, code := prog_133_method_1_code, exceptionTable := #[], attributes := #[] }
def k3m0 : Method := { name := "<init>", desc := "(I)V", sig := { parameters := [.int], returnType := none }, accessFlags := 0, code := some k3c0 }
/-- com/example/pico_z/picoz/types/Type -/
def k3 : Class := { plain "com/example/pico_z/picoz/types/Type" (some 0) with
  accessFlags := 1057
  interfaces := #[]
  cf := some (fileOf pool3 8 #[.nestMembers #[23]] #[{ accessFlags := 0, nameIndex := 5, descriptorIndex := 99, attributes := #[] }] 1057 2 #[] #[{ accessFlags := 24, nameIndex := 106, descriptorIndex := 12, attributes := #[] }, { accessFlags := 24, nameIndex := 109, descriptorIndex := 12, attributes := #[] }, { accessFlags := 24, nameIndex := 111, descriptorIndex := 12, attributes := #[] }, { accessFlags := 18, nameIndex := 11, descriptorIndex := 12, attributes := #[] }, { accessFlags := 2, nameIndex := 83, descriptorIndex := 84, attributes := #[] }])
  fields := #[{ name := "PARAMETER", type := .int, accessFlags := 24, slot := 0, constantValue := 0 }, { name := "UNKNOWN", type := .int, accessFlags := 24, slot := 1, constantValue := 0 }, { name := "ABBREVIATION", type := .int, accessFlags := 24, slot := 2, constantValue := 0 }, { name := "kinds", type := .int, accessFlags := 18, slot := 0, constantValue := 0 }, { name := "official", type := (.object "com/example/pico_z/picoz/types/Type"), accessFlags := 2, slot := 1, constantValue := 0 }]
  methods := #[k3m0]
  instanceTypes := #[.int, (.object "com/example/pico_z/picoz/types/Type")]
  staticTypes := #[.int, .int, .int]
  resolved := Array.replicate 158 none
  statics := none }

def pool4 : Array CpInfo := pool [(1, .class_ 2), (0, u "com/example/pico_z/picoz/types/Type"), (0, .methodref 1 4), (0, .nameAndType 5 6), (0, u "<init>"), (0, u "(I)V"), (9, .fieldref 17 18), (0, .class_ 19), (0, .nameAndType 20 21), (0, u "com/example/pico_z/picoz/types/GenericParameterType"), (0, u "index"), (0, u "I"), (32, u "equals"), (0, u "(Ljava/lang/Object;)Z")] 39

def k4c0 : Code := { maxStack := 3, maxLocals := 2, code := prog_126_method_1_code, exceptionTable := #[], attributes := #[] }
def k4m0 : Method := { name := "<init>", desc := "(I)V", sig := { parameters := [.int], returnType := none }, accessFlags := 1, code := some k4c0 }
def k4c1 : Code := { maxStack := 2, maxLocals := 2, code := prog_126_method_9_code, exceptionTable := #[], attributes := #[] }
def k4m1 : Method := { name := "equals", desc := "(Ljava/lang/Object;)Z", sig := { parameters := [(.object "java/lang/Object")], returnType := some .boolean }, accessFlags := 1, code := some k4c1 }
/-- com/example/pico_z/picoz/types/GenericParameterType -/
def k4 : Class := { plain "com/example/pico_z/picoz/types/GenericParameterType" (some 3) with
  accessFlags := 49
  interfaces := #[]
  cf := some (fileOf pool4 17 #[] #[{ accessFlags := 1, nameIndex := 5, descriptorIndex := 6, attributes := #[] }, { accessFlags := 1, nameIndex := 54, descriptorIndex := 55, attributes := #[] }] 49 1 #[] #[{ accessFlags := 18, nameIndex := 20, descriptorIndex := 21, attributes := #[] }])
  fields := #[{ name := "index", type := .int, accessFlags := 18, slot := 2, constantValue := 0 }]
  methods := #[k4m0, k4m1]
  instanceTypes := #[.int, (.object "com/example/pico_z/picoz/types/Type"), .int]
  staticTypes := #[]
  resolved := Array.replicate 95 none
  statics := none }

def pool5 : Array CpInfo := pool [(1, .class_ 2), (0, u "java/io/Serializable"), (0, .class_ 4), (0, u "java/lang/Object")] 2

/-- java/io/Serializable -/
def k5 : Class := { plain "java/io/Serializable" (some 0) with
  accessFlags := 1537
  interfaces := #[]
  cf := some (fileOf pool5 1 #[] #[] 1537 3 #[] #[])
  fields := #[]
  methods := #[]
  instanceTypes := #[]
  staticTypes := #[]
  resolved := Array.replicate 7 none
  statics := none }

def pool6 : Array CpInfo := pool [(1, .methodref 2 3), (0, .class_ 4), (0, .nameAndType 5 6), (0, u "java/lang/Object"), (0, u "<init>"), (0, u "()V"), (1, .class_ 10), (1, u "java/lang/Number"), (2, .class_ 14), (0, u "java/io/Serializable"), (0, u "serialVersionUID"), (0, u "J")] 20

def k6c0 : Code := { maxStack := 1, maxLocals := 1, code := jdk_18_method_1_code, exceptionTable := #[], attributes := #[] }
def k6m0 : Method := { name := "<init>", desc := "()V", sig := { parameters := [], returnType := none }, accessFlags := 1, code := some k6c0 }
/-- java/lang/Number -/
def k6 : Class := { plain "java/lang/Number" (some 0) with
  accessFlags := 1057
  interfaces := #[5]
  cf := some (fileOf pool6 8 #[] #[{ accessFlags := 1, nameIndex := 5, descriptorIndex := 6, attributes := #[] }] 1057 2 #[13] #[{ accessFlags := 26, nameIndex := 15, descriptorIndex := 16, attributes := #[] }])
  fields := #[{ name := "serialVersionUID", type := .long, accessFlags := 26, slot := 0, constantValue := 0 }]
  methods := #[k6m0]
  instanceTypes := #[]
  staticTypes := #[.long]
  resolved := Array.replicate 37 none
  statics := none }

def pool7 : Array CpInfo := pool [(1, .class_ 2), (0, u "java/lang/Comparable"), (0, .class_ 4), (0, u "java/lang/Object")] 7

/-- java/lang/Comparable -/
def k7 : Class := { plain "java/lang/Comparable" (some 0) with
  accessFlags := 1537
  interfaces := #[]
  cf := some (fileOf pool7 1 #[] #[] 1537 3 #[] #[])
  fields := #[]
  methods := #[]
  instanceTypes := #[]
  staticTypes := #[]
  resolved := Array.replicate 12 none
  statics := none }

def pool8 : Array CpInfo := pool [(1, .class_ 2), (0, u "java/lang/constant/Constable"), (0, .class_ 4), (0, u "java/lang/Object")] 6

/-- java/lang/constant/Constable -/
def k8 : Class := { plain "java/lang/constant/Constable" (some 0) with
  accessFlags := 1537
  interfaces := #[]
  cf := some (fileOf pool8 1 #[] #[] 1537 3 #[] #[])
  fields := #[]
  methods := #[]
  instanceTypes := #[]
  staticTypes := #[]
  resolved := Array.replicate 11 none
  statics := none }

def pool9 : Array CpInfo := pool [(1, .class_ 2), (0, u "java/lang/constant/ConstantDesc"), (0, .class_ 4), (0, u "java/lang/Object")] 32

/-- java/lang/constant/ConstantDesc -/
def k9 : Class := { plain "java/lang/constant/ConstantDesc" (some 0) with
  accessFlags := 1537
  interfaces := #[]
  cf := some (fileOf pool9 1 #[] #[] 1537 3 #[] #[])
  fields := #[]
  methods := #[]
  instanceTypes := #[]
  staticTypes := #[]
  resolved := Array.replicate 37 none
  statics := none }

def pool10 : Array CpInfo := pool [(1, .class_ 2), (0, u "java/lang/Integer"), (16, u "digits"), (0, u "[C"), (46, u "<init>"), (17, u "DigitOnes"), (0, u "[B"), (2, u "DigitTens"), (10, .nameAndType 67 101), (0, u "()V"), (85, u "valueOf"), (0, u "(I)Ljava/lang/Integer;"), (0, .class_ 190), (0, u "java/lang/Integer$IntegerCache"), (0, .fieldref 189 192), (0, .nameAndType 193 194), (0, u "high"), (0, u "I"), (0, .fieldref 189 196), (0, .nameAndType 197 198), (0, u "cache"), (0, u "[Ljava/lang/Integer;"), (0, .methodref 1 200), (0, .nameAndType 67 201), (0, u "(I)V"), (0, .methodref 203 100), (0, .class_ 204), (0, u "java/lang/Number"), (0, .fieldref 1 206), (0, .nameAndType 207 194), (0, u "value"), (94, u "TYPE"), (0, u "Ljava/lang/Class;"), (0, .class_ 305), (0, u "java/lang/Comparable"), (0, .class_ 307), (0, u "java/lang/constant/Constable"), (0, .class_ 309), (0, u "java/lang/constant/ConstantDesc"), (0, u "MIN_VALUE"), (1, u "MAX_VALUE"), (3, u "SIZE"), (1, u "BYTES"), (1, u "serialVersionUID"), (0, u "J")] 131

def k10c0 : Code := { maxStack := 3, maxLocals := 1, code := jdk_33_method_22_code, exceptionTable := #[], attributes := #[] }
def k10m0 : Method := { name := "valueOf", desc := "(I)Ljava/lang/Integer;", sig := { parameters := [.int], returnType := some (.object "java/lang/Integer") }, accessFlags := 9, code := some k10c0 }
def k10c1 : Code := { maxStack := 2, maxLocals := 2, code := jdk_33_method_23_code, exceptionTable := #[], attributes := #[] }
def k10m1 : Method := { name := "<init>", desc := "(I)V", sig := { parameters := [.int], returnType := none }, accessFlags := 1, code := some k10c1 }
/-- java/lang/Integer -/
def k10 : Class := { plain "java/lang/Integer" (some 6) with
  accessFlags := 49
  interfaces := #[7, 8, 9]
  cf := some (fileOf pool10 1 #[.nestMembers #[189]] #[{ accessFlags := 9, nameIndex := 187, descriptorIndex := 188, attributes := #[] }, { accessFlags := 1, nameIndex := 67, descriptorIndex := 201, attributes := #[] }] 49 203 #[304, 306, 308] #[{ accessFlags := 25, nameIndex := 310, descriptorIndex := 194, attributes := #[] }, { accessFlags := 25, nameIndex := 312, descriptorIndex := 194, attributes := #[] }, { accessFlags := 25, nameIndex := 302, descriptorIndex := 303, attributes := #[] }, { accessFlags := 24, nameIndex := 19, descriptorIndex := 20, attributes := #[] }, { accessFlags := 24, nameIndex := 89, descriptorIndex := 86, attributes := #[] }, { accessFlags := 24, nameIndex := 85, descriptorIndex := 86, attributes := #[] }, { accessFlags := 18, nameIndex := 207, descriptorIndex := 194, attributes := #[] }, { accessFlags := 25, nameIndex := 316, descriptorIndex := 194, attributes := #[] }, { accessFlags := 25, nameIndex := 318, descriptorIndex := 194, attributes := #[] }, { accessFlags := 26, nameIndex := 320, descriptorIndex := 321, attributes := #[] }])
  fields := #[{ name := "MIN_VALUE", type := .int, accessFlags := 25, slot := 0, constantValue := 0 }, { name := "MAX_VALUE", type := .int, accessFlags := 25, slot := 1, constantValue := 0 }, { name := "TYPE", type := (.object "java/lang/Class"), accessFlags := 25, slot := 2, constantValue := 0 }, { name := "digits", type := (.array .char), accessFlags := 24, slot := 3, constantValue := 0 }, { name := "DigitTens", type := (.array .byte), accessFlags := 24, slot := 4, constantValue := 0 }, { name := "DigitOnes", type := (.array .byte), accessFlags := 24, slot := 5, constantValue := 0 }, { name := "value", type := .int, accessFlags := 18, slot := 0, constantValue := 0 }, { name := "SIZE", type := .int, accessFlags := 25, slot := 6, constantValue := 0 }, { name := "BYTES", type := .int, accessFlags := 25, slot := 7, constantValue := 0 }, { name := "serialVersionUID", type := .long, accessFlags := 26, slot := 8, constantValue := 0 }]
  methods := #[k10m0, k10m1]
  instanceTypes := #[.int]
  staticTypes := #[.int, .int, (.object "java/lang/Class"), (.array .char), (.array .byte), (.array .byte), .int, .int, .long]
  resolved := Array.replicate 453 none
  statics := none }

def pool11 : Array CpInfo := pool [(2, .class_ 4), (1, u "java/lang/Object"), (0, u "<init>"), (0, u "()V"), (0, .class_ 8), (0, u "java/lang/Integer"), (7, .class_ 18), (1, u "java/lang/Integer$IntegerCache"), (0, u "$assertionsDisabled"), (0, u "Z"), (26, u "high"), (0, u "I"), (8, u "archivedCache"), (0, u "[Ljava/lang/Integer;"), (12, u "cache"), (0, u "low")] 27

def k11m0 : Method := { name := "<init>", desc := "()V", sig := { parameters := [], returnType := none }, accessFlags := 2, code := none }
/-- java/lang/Integer$IntegerCache -/
def k11 : Class := { plain "java/lang/Integer$IntegerCache" (some 0) with
  accessFlags := 48
  interfaces := #[]
  cf := some (fileOf pool11 16 #[.nestHost 7] #[{ accessFlags := 2, nameIndex := 5, descriptorIndex := 6, attributes := #[] }] 48 2 #[] #[{ accessFlags := 24, nameIndex := 72, descriptorIndex := 48, attributes := #[] }, { accessFlags := 24, nameIndex := 47, descriptorIndex := 48, attributes := #[] }, { accessFlags := 24, nameIndex := 71, descriptorIndex := 58, attributes := #[] }, { accessFlags := 8, nameIndex := 57, descriptorIndex := 58, attributes := #[] }, { accessFlags := 4120, nameIndex := 19, descriptorIndex := 20, attributes := #[] }])
  fields := #[{ name := "low", type := .int, accessFlags := 24, slot := 0, constantValue := 0 }, { name := "high", type := .int, accessFlags := 24, slot := 1, constantValue := 0 }, { name := "cache", type := (.array (.object "java/lang/Integer")), accessFlags := 24, slot := 2, constantValue := 0 }, { name := "archivedCache", type := (.array (.object "java/lang/Integer")), accessFlags := 8, slot := 3, constantValue := 0 }, { name := "$assertionsDisabled", type := .boolean, accessFlags := 4120, slot := 4, constantValue := 0 }]
  methods := #[k11m0]
  instanceTypes := #[]
  staticTypes := #[.int, .int, (.array (.object "java/lang/Integer")), (.array (.object "java/lang/Integer")), .boolean]
  resolved := Array.replicate 100 none
  statics := some 0 }

def pool12 : Array CpInfo := pool [(2, .class_ 4), (1, u "com/example/pico_z/picoz/types/Type"), (0, u "<init>"), (21, .class_ 28), (0, u "com/example/pico_z/picoz/types/ErrorType"), (2, u "()V"), (2, u "INSTANCE"), (0, u "Lcom/example/pico_z/picoz/types/ErrorType;")] 25

def k12m0 : Method := { name := "<init>", desc := "()V", sig := { parameters := [], returnType := none }, accessFlags := 2, code := none }
/-- com/example/pico_z/picoz/types/ErrorType -/
def k12 : Class := { plain "com/example/pico_z/picoz/types/ErrorType" (some 3) with
  accessFlags := 49
  interfaces := #[]
  cf := some (fileOf pool12 27 #[] #[{ accessFlags := 2, nameIndex := 5, descriptorIndex := 31, attributes := #[] }] 49 2 #[] #[{ accessFlags := 25, nameIndex := 34, descriptorIndex := 35, attributes := #[] }])
  fields := #[{ name := "INSTANCE", type := (.object "com/example/pico_z/picoz/types/ErrorType"), accessFlags := 25, slot := 0, constantValue := 0 }]
  methods := #[k12m0]
  instanceTypes := #[.int, (.object "com/example/pico_z/picoz/types/Type")]
  staticTypes := #[(.object "com/example/pico_z/picoz/types/ErrorType")]
  resolved := Array.replicate 61 none
  statics := some 1 }

def pool13 : Array CpInfo := pool [(1, u "java/lang/Cloneable"), (0, .class_ 1), (0, u "java/lang/Object"), (0, .class_ 3)] 3

/-- java/lang/Cloneable -/
def k13 : Class := { plain "java/lang/Cloneable" (some 0) with
  accessFlags := 1537
  interfaces := #[]
  cf := some (fileOf pool13 2 #[] #[] 1537 4 #[] #[])
  fields := #[]
  methods := #[]
  instanceTypes := #[]
  staticTypes := #[]
  resolved := Array.replicate 8 none
  statics := none }

/-- the primitive byte -/
def k14 : Class := { plain "byte" none with kind := .primitive 'B', accessFlags := 0x411 }
/-- [B -/
def k15 : Class := { plain "[B" (some 0) with kind := .array 14 .byte, interfaces := #[13, 5], accessFlags := 1041 }

/-- the primitive int -/
def k16 : Class := { plain "int" none with kind := .primitive 'I', accessFlags := 0x411 }
/-- [I -/
def k17 : Class := { plain "[I" (some 0) with kind := .array 16 .int, interfaces := #[13, 5], accessFlags := 1041 }

/-- [Ljava/lang/Integer; -/
def k18 : Class := { plain "[Ljava/lang/Integer;" (some 0) with kind := .array 10 (.object "java/lang/Integer"), interfaces := #[13, 5], accessFlags := 1041 }

def heap : Heap := #[{ cls := 11, slots := #[.int 0, .int 127, .ref 2, .null, .int 0], vm := .statics 11 },
  { cls := 12, slots := #[.ref 259], vm := .statics 12 },
  { cls := 18, slots := #[.ref 3, .ref 4, .ref 5, .ref 6, .ref 7, .ref 8, .ref 9, .ref 10, .ref 11, .ref 12, .ref 13, .ref 14, .ref 15, .ref 16, .ref 17, .ref 18, .ref 19, .ref 20, .ref 21, .ref 22, .ref 23, .ref 24, .ref 25, .ref 26, .ref 27, .ref 28, .ref 29, .ref 30, .ref 31, .ref 32, .ref 33, .ref 34, .ref 35, .ref 36, .ref 37, .ref 38, .ref 39, .ref 40, .ref 41, .ref 42, .ref 43, .ref 44, .ref 45, .ref 46, .ref 47, .ref 48, .ref 49, .ref 50, .ref 51, .ref 52, .ref 53, .ref 54, .ref 55, .ref 56, .ref 57, .ref 58, .ref 59, .ref 60, .ref 61, .ref 62, .ref 63, .ref 64, .ref 65, .ref 66, .ref 67, .ref 68, .ref 69, .ref 70, .ref 71, .ref 72, .ref 73, .ref 74, .ref 75, .ref 76, .ref 77, .ref 78, .ref 79, .ref 80, .ref 81, .ref 82, .ref 83, .ref 84, .ref 85, .ref 86, .ref 87, .ref 88, .ref 89, .ref 90, .ref 91, .ref 92, .ref 93, .ref 94, .ref 95, .ref 96, .ref 97, .ref 98, .ref 99, .ref 100, .ref 101, .ref 102, .ref 103, .ref 104, .ref 105, .ref 106, .ref 107, .ref 108, .ref 109, .ref 110, .ref 111, .ref 112, .ref 113, .ref 114, .ref 115, .ref 116, .ref 117, .ref 118, .ref 119, .ref 120, .ref 121, .ref 122, .ref 123, .ref 124, .ref 125, .ref 126, .ref 127, .ref 128, .ref 129, .ref 130, .ref 131, .ref 132, .ref 133, .ref 134, .ref 135, .ref 136, .ref 137, .ref 138, .ref 139, .ref 140, .ref 141, .ref 142, .ref 143, .ref 144, .ref 145, .ref 146, .ref 147, .ref 148, .ref 149, .ref 150, .ref 151, .ref 152, .ref 153, .ref 154, .ref 155, .ref 156, .ref 157, .ref 158, .ref 159, .ref 160, .ref 161, .ref 162, .ref 163, .ref 164, .ref 165, .ref 166, .ref 167, .ref 168, .ref 169, .ref 170, .ref 171, .ref 172, .ref 173, .ref 174, .ref 175, .ref 176, .ref 177, .ref 178, .ref 179, .ref 180, .ref 181, .ref 182, .ref 183, .ref 184, .ref 185, .ref 186, .ref 187, .ref 188, .ref 189, .ref 190, .ref 191, .ref 192, .ref 193, .ref 194, .ref 195, .ref 196, .ref 197, .ref 198, .ref 199, .ref 200, .ref 201, .ref 202, .ref 203, .ref 204, .ref 205, .ref 206, .ref 207, .ref 208, .ref 209, .ref 210, .ref 211, .ref 212, .ref 213, .ref 214, .ref 215, .ref 216, .ref 217, .ref 218, .ref 219, .ref 220, .ref 221, .ref 222, .ref 223, .ref 224, .ref 225, .ref 226, .ref 227, .ref 228, .ref 229, .ref 230, .ref 231, .ref 232, .ref 233, .ref 234, .ref 235, .ref 236, .ref 237, .ref 238, .ref 239, .ref 240, .ref 241, .ref 242, .ref 243, .ref 244, .ref 245, .ref 246, .ref 247, .ref 248, .ref 249, .ref 250, .ref 251, .ref 252, .ref 253, .ref 254, .ref 255, .ref 256, .ref 257, .ref 258], vm := .none },
  { cls := 10, slots := #[.int (-128)], vm := .none },
  { cls := 10, slots := #[.int (-127)], vm := .none },
  { cls := 10, slots := #[.int (-126)], vm := .none },
  { cls := 10, slots := #[.int (-125)], vm := .none },
  { cls := 10, slots := #[.int (-124)], vm := .none },
  { cls := 10, slots := #[.int (-123)], vm := .none },
  { cls := 10, slots := #[.int (-122)], vm := .none },
  { cls := 10, slots := #[.int (-121)], vm := .none },
  { cls := 10, slots := #[.int (-120)], vm := .none },
  { cls := 10, slots := #[.int (-119)], vm := .none },
  { cls := 10, slots := #[.int (-118)], vm := .none },
  { cls := 10, slots := #[.int (-117)], vm := .none },
  { cls := 10, slots := #[.int (-116)], vm := .none },
  { cls := 10, slots := #[.int (-115)], vm := .none },
  { cls := 10, slots := #[.int (-114)], vm := .none },
  { cls := 10, slots := #[.int (-113)], vm := .none },
  { cls := 10, slots := #[.int (-112)], vm := .none },
  { cls := 10, slots := #[.int (-111)], vm := .none },
  { cls := 10, slots := #[.int (-110)], vm := .none },
  { cls := 10, slots := #[.int (-109)], vm := .none },
  { cls := 10, slots := #[.int (-108)], vm := .none },
  { cls := 10, slots := #[.int (-107)], vm := .none },
  { cls := 10, slots := #[.int (-106)], vm := .none },
  { cls := 10, slots := #[.int (-105)], vm := .none },
  { cls := 10, slots := #[.int (-104)], vm := .none },
  { cls := 10, slots := #[.int (-103)], vm := .none },
  { cls := 10, slots := #[.int (-102)], vm := .none },
  { cls := 10, slots := #[.int (-101)], vm := .none },
  { cls := 10, slots := #[.int (-100)], vm := .none },
  { cls := 10, slots := #[.int (-99)], vm := .none },
  { cls := 10, slots := #[.int (-98)], vm := .none },
  { cls := 10, slots := #[.int (-97)], vm := .none },
  { cls := 10, slots := #[.int (-96)], vm := .none },
  { cls := 10, slots := #[.int (-95)], vm := .none },
  { cls := 10, slots := #[.int (-94)], vm := .none },
  { cls := 10, slots := #[.int (-93)], vm := .none },
  { cls := 10, slots := #[.int (-92)], vm := .none },
  { cls := 10, slots := #[.int (-91)], vm := .none },
  { cls := 10, slots := #[.int (-90)], vm := .none },
  { cls := 10, slots := #[.int (-89)], vm := .none },
  { cls := 10, slots := #[.int (-88)], vm := .none },
  { cls := 10, slots := #[.int (-87)], vm := .none },
  { cls := 10, slots := #[.int (-86)], vm := .none },
  { cls := 10, slots := #[.int (-85)], vm := .none },
  { cls := 10, slots := #[.int (-84)], vm := .none },
  { cls := 10, slots := #[.int (-83)], vm := .none },
  { cls := 10, slots := #[.int (-82)], vm := .none },
  { cls := 10, slots := #[.int (-81)], vm := .none },
  { cls := 10, slots := #[.int (-80)], vm := .none },
  { cls := 10, slots := #[.int (-79)], vm := .none },
  { cls := 10, slots := #[.int (-78)], vm := .none },
  { cls := 10, slots := #[.int (-77)], vm := .none },
  { cls := 10, slots := #[.int (-76)], vm := .none },
  { cls := 10, slots := #[.int (-75)], vm := .none },
  { cls := 10, slots := #[.int (-74)], vm := .none },
  { cls := 10, slots := #[.int (-73)], vm := .none },
  { cls := 10, slots := #[.int (-72)], vm := .none },
  { cls := 10, slots := #[.int (-71)], vm := .none },
  { cls := 10, slots := #[.int (-70)], vm := .none },
  { cls := 10, slots := #[.int (-69)], vm := .none },
  { cls := 10, slots := #[.int (-68)], vm := .none },
  { cls := 10, slots := #[.int (-67)], vm := .none },
  { cls := 10, slots := #[.int (-66)], vm := .none },
  { cls := 10, slots := #[.int (-65)], vm := .none },
  { cls := 10, slots := #[.int (-64)], vm := .none },
  { cls := 10, slots := #[.int (-63)], vm := .none },
  { cls := 10, slots := #[.int (-62)], vm := .none },
  { cls := 10, slots := #[.int (-61)], vm := .none },
  { cls := 10, slots := #[.int (-60)], vm := .none },
  { cls := 10, slots := #[.int (-59)], vm := .none },
  { cls := 10, slots := #[.int (-58)], vm := .none },
  { cls := 10, slots := #[.int (-57)], vm := .none },
  { cls := 10, slots := #[.int (-56)], vm := .none },
  { cls := 10, slots := #[.int (-55)], vm := .none },
  { cls := 10, slots := #[.int (-54)], vm := .none },
  { cls := 10, slots := #[.int (-53)], vm := .none },
  { cls := 10, slots := #[.int (-52)], vm := .none },
  { cls := 10, slots := #[.int (-51)], vm := .none },
  { cls := 10, slots := #[.int (-50)], vm := .none },
  { cls := 10, slots := #[.int (-49)], vm := .none },
  { cls := 10, slots := #[.int (-48)], vm := .none },
  { cls := 10, slots := #[.int (-47)], vm := .none },
  { cls := 10, slots := #[.int (-46)], vm := .none },
  { cls := 10, slots := #[.int (-45)], vm := .none },
  { cls := 10, slots := #[.int (-44)], vm := .none },
  { cls := 10, slots := #[.int (-43)], vm := .none },
  { cls := 10, slots := #[.int (-42)], vm := .none },
  { cls := 10, slots := #[.int (-41)], vm := .none },
  { cls := 10, slots := #[.int (-40)], vm := .none },
  { cls := 10, slots := #[.int (-39)], vm := .none },
  { cls := 10, slots := #[.int (-38)], vm := .none },
  { cls := 10, slots := #[.int (-37)], vm := .none },
  { cls := 10, slots := #[.int (-36)], vm := .none },
  { cls := 10, slots := #[.int (-35)], vm := .none },
  { cls := 10, slots := #[.int (-34)], vm := .none },
  { cls := 10, slots := #[.int (-33)], vm := .none },
  { cls := 10, slots := #[.int (-32)], vm := .none },
  { cls := 10, slots := #[.int (-31)], vm := .none },
  { cls := 10, slots := #[.int (-30)], vm := .none },
  { cls := 10, slots := #[.int (-29)], vm := .none },
  { cls := 10, slots := #[.int (-28)], vm := .none },
  { cls := 10, slots := #[.int (-27)], vm := .none },
  { cls := 10, slots := #[.int (-26)], vm := .none },
  { cls := 10, slots := #[.int (-25)], vm := .none },
  { cls := 10, slots := #[.int (-24)], vm := .none },
  { cls := 10, slots := #[.int (-23)], vm := .none },
  { cls := 10, slots := #[.int (-22)], vm := .none },
  { cls := 10, slots := #[.int (-21)], vm := .none },
  { cls := 10, slots := #[.int (-20)], vm := .none },
  { cls := 10, slots := #[.int (-19)], vm := .none },
  { cls := 10, slots := #[.int (-18)], vm := .none },
  { cls := 10, slots := #[.int (-17)], vm := .none },
  { cls := 10, slots := #[.int (-16)], vm := .none },
  { cls := 10, slots := #[.int (-15)], vm := .none },
  { cls := 10, slots := #[.int (-14)], vm := .none },
  { cls := 10, slots := #[.int (-13)], vm := .none },
  { cls := 10, slots := #[.int (-12)], vm := .none },
  { cls := 10, slots := #[.int (-11)], vm := .none },
  { cls := 10, slots := #[.int (-10)], vm := .none },
  { cls := 10, slots := #[.int (-9)], vm := .none },
  { cls := 10, slots := #[.int (-8)], vm := .none },
  { cls := 10, slots := #[.int (-7)], vm := .none },
  { cls := 10, slots := #[.int (-6)], vm := .none },
  { cls := 10, slots := #[.int (-5)], vm := .none },
  { cls := 10, slots := #[.int (-4)], vm := .none },
  { cls := 10, slots := #[.int (-3)], vm := .none },
  { cls := 10, slots := #[.int (-2)], vm := .none },
  { cls := 10, slots := #[.int (-1)], vm := .none },
  { cls := 10, slots := #[.int 0], vm := .none },
  { cls := 10, slots := #[.int 1], vm := .none },
  { cls := 10, slots := #[.int 2], vm := .none },
  { cls := 10, slots := #[.int 3], vm := .none },
  { cls := 10, slots := #[.int 4], vm := .none },
  { cls := 10, slots := #[.int 5], vm := .none },
  { cls := 10, slots := #[.int 6], vm := .none },
  { cls := 10, slots := #[.int 7], vm := .none },
  { cls := 10, slots := #[.int 8], vm := .none },
  { cls := 10, slots := #[.int 9], vm := .none },
  { cls := 10, slots := #[.int 10], vm := .none },
  { cls := 10, slots := #[.int 11], vm := .none },
  { cls := 10, slots := #[.int 12], vm := .none },
  { cls := 10, slots := #[.int 13], vm := .none },
  { cls := 10, slots := #[.int 14], vm := .none },
  { cls := 10, slots := #[.int 15], vm := .none },
  { cls := 10, slots := #[.int 16], vm := .none },
  { cls := 10, slots := #[.int 17], vm := .none },
  { cls := 10, slots := #[.int 18], vm := .none },
  { cls := 10, slots := #[.int 19], vm := .none },
  { cls := 10, slots := #[.int 20], vm := .none },
  { cls := 10, slots := #[.int 21], vm := .none },
  { cls := 10, slots := #[.int 22], vm := .none },
  { cls := 10, slots := #[.int 23], vm := .none },
  { cls := 10, slots := #[.int 24], vm := .none },
  { cls := 10, slots := #[.int 25], vm := .none },
  { cls := 10, slots := #[.int 26], vm := .none },
  { cls := 10, slots := #[.int 27], vm := .none },
  { cls := 10, slots := #[.int 28], vm := .none },
  { cls := 10, slots := #[.int 29], vm := .none },
  { cls := 10, slots := #[.int 30], vm := .none },
  { cls := 10, slots := #[.int 31], vm := .none },
  { cls := 10, slots := #[.int 32], vm := .none },
  { cls := 10, slots := #[.int 33], vm := .none },
  { cls := 10, slots := #[.int 34], vm := .none },
  { cls := 10, slots := #[.int 35], vm := .none },
  { cls := 10, slots := #[.int 36], vm := .none },
  { cls := 10, slots := #[.int 37], vm := .none },
  { cls := 10, slots := #[.int 38], vm := .none },
  { cls := 10, slots := #[.int 39], vm := .none },
  { cls := 10, slots := #[.int 40], vm := .none },
  { cls := 10, slots := #[.int 41], vm := .none },
  { cls := 10, slots := #[.int 42], vm := .none },
  { cls := 10, slots := #[.int 43], vm := .none },
  { cls := 10, slots := #[.int 44], vm := .none },
  { cls := 10, slots := #[.int 45], vm := .none },
  { cls := 10, slots := #[.int 46], vm := .none },
  { cls := 10, slots := #[.int 47], vm := .none },
  { cls := 10, slots := #[.int 48], vm := .none },
  { cls := 10, slots := #[.int 49], vm := .none },
  { cls := 10, slots := #[.int 50], vm := .none },
  { cls := 10, slots := #[.int 51], vm := .none },
  { cls := 10, slots := #[.int 52], vm := .none },
  { cls := 10, slots := #[.int 53], vm := .none },
  { cls := 10, slots := #[.int 54], vm := .none },
  { cls := 10, slots := #[.int 55], vm := .none },
  { cls := 10, slots := #[.int 56], vm := .none },
  { cls := 10, slots := #[.int 57], vm := .none },
  { cls := 10, slots := #[.int 58], vm := .none },
  { cls := 10, slots := #[.int 59], vm := .none },
  { cls := 10, slots := #[.int 60], vm := .none },
  { cls := 10, slots := #[.int 61], vm := .none },
  { cls := 10, slots := #[.int 62], vm := .none },
  { cls := 10, slots := #[.int 63], vm := .none },
  { cls := 10, slots := #[.int 64], vm := .none },
  { cls := 10, slots := #[.int 65], vm := .none },
  { cls := 10, slots := #[.int 66], vm := .none },
  { cls := 10, slots := #[.int 67], vm := .none },
  { cls := 10, slots := #[.int 68], vm := .none },
  { cls := 10, slots := #[.int 69], vm := .none },
  { cls := 10, slots := #[.int 70], vm := .none },
  { cls := 10, slots := #[.int 71], vm := .none },
  { cls := 10, slots := #[.int 72], vm := .none },
  { cls := 10, slots := #[.int 73], vm := .none },
  { cls := 10, slots := #[.int 74], vm := .none },
  { cls := 10, slots := #[.int 75], vm := .none },
  { cls := 10, slots := #[.int 76], vm := .none },
  { cls := 10, slots := #[.int 77], vm := .none },
  { cls := 10, slots := #[.int 78], vm := .none },
  { cls := 10, slots := #[.int 79], vm := .none },
  { cls := 10, slots := #[.int 80], vm := .none },
  { cls := 10, slots := #[.int 81], vm := .none },
  { cls := 10, slots := #[.int 82], vm := .none },
  { cls := 10, slots := #[.int 83], vm := .none },
  { cls := 10, slots := #[.int 84], vm := .none },
  { cls := 10, slots := #[.int 85], vm := .none },
  { cls := 10, slots := #[.int 86], vm := .none },
  { cls := 10, slots := #[.int 87], vm := .none },
  { cls := 10, slots := #[.int 88], vm := .none },
  { cls := 10, slots := #[.int 89], vm := .none },
  { cls := 10, slots := #[.int 90], vm := .none },
  { cls := 10, slots := #[.int 91], vm := .none },
  { cls := 10, slots := #[.int 92], vm := .none },
  { cls := 10, slots := #[.int 93], vm := .none },
  { cls := 10, slots := #[.int 94], vm := .none },
  { cls := 10, slots := #[.int 95], vm := .none },
  { cls := 10, slots := #[.int 96], vm := .none },
  { cls := 10, slots := #[.int 97], vm := .none },
  { cls := 10, slots := #[.int 98], vm := .none },
  { cls := 10, slots := #[.int 99], vm := .none },
  { cls := 10, slots := #[.int 100], vm := .none },
  { cls := 10, slots := #[.int 101], vm := .none },
  { cls := 10, slots := #[.int 102], vm := .none },
  { cls := 10, slots := #[.int 103], vm := .none },
  { cls := 10, slots := #[.int 104], vm := .none },
  { cls := 10, slots := #[.int 105], vm := .none },
  { cls := 10, slots := #[.int 106], vm := .none },
  { cls := 10, slots := #[.int 107], vm := .none },
  { cls := 10, slots := #[.int 108], vm := .none },
  { cls := 10, slots := #[.int 109], vm := .none },
  { cls := 10, slots := #[.int 110], vm := .none },
  { cls := 10, slots := #[.int 111], vm := .none },
  { cls := 10, slots := #[.int 112], vm := .none },
  { cls := 10, slots := #[.int 113], vm := .none },
  { cls := 10, slots := #[.int 114], vm := .none },
  { cls := 10, slots := #[.int 115], vm := .none },
  { cls := 10, slots := #[.int 116], vm := .none },
  { cls := 10, slots := #[.int 117], vm := .none },
  { cls := 10, slots := #[.int 118], vm := .none },
  { cls := 10, slots := #[.int 119], vm := .none },
  { cls := 10, slots := #[.int 120], vm := .none },
  { cls := 10, slots := #[.int 121], vm := .none },
  { cls := 10, slots := #[.int 122], vm := .none },
  { cls := 10, slots := #[.int 123], vm := .none },
  { cls := 10, slots := #[.int 124], vm := .none },
  { cls := 10, slots := #[.int 125], vm := .none },
  { cls := 10, slots := #[.int 126], vm := .none },
  { cls := 10, slots := #[.int 127], vm := .none },
  { cls := 12, slots := #[.int 0, .null], vm := .none }]
def classes : Array Class := #[k0, k1, k2, k3, k4, k5, k6, k7, k8, k9, k10, k11, k12, k13, k14, k15, k16, k17, k18]
def interned : List (Array UInt16 × Addr) := []
def slotsUsed : Nat := 520
def theMethod : MethodId := ⟨1, 1⟩
def args0 : Array Value := #[.int 5, .int 6, .int 3]
def aboutOver (below : List Frame) : State where
  vm := { classes := classes, interned := interned.toArray }
  heap := heap
  slotsUsed := slotsUsed
  threads := #[{ frames := .invoking theMethod args0 :: below }]
def below0 : List Frame := [.native { method := ⟨0, 0⟩, args := #[] }]
def about1 : State := aboutOver below0
def p0 : Program := .bare "" "" ""
def e0 : Env := launch0.env 0 0 0
theorem w_frames : about1.frames = Frame.invoking theMethod args0 :: below0 := rfl
set_option maxRecDepth 65536 in
theorem w_args : argsFit about1.vm theMethod args0 = true := by decide +kernel
set_option maxRecDepth 65536 in
theorem w_heap : heapFits about1 = true := by decide +kernel
set_option maxRecDepth 65536 in
theorem w_runnable : about1.curStatus? = some .runnable := by decide +kernel
set_option maxRecDepth 65536 in
theorem w_alone : about1.alone = true := by decide +kernel
set_option maxRecDepth 65536 in
theorem w_named : about1.methodNamed? x = some theMethod := by decide +kernel
set_option maxRecDepth 65536 in
theorem w_hears : about1.hears theMethod below0 = true := by decide +kernel
set_option maxRecDepth 65536 in
theorem w_ripe : about1.ripe theMethod args0 below0 = true := by decide +kernel
theorem w_running : about1.status = .running := rfl
set_option maxRecDepth 65536 in
theorem w_room : about1.hasRoom e0.platform room_1 = true :=
  launch0.hasRoom_least _ room_1 (by decide +kernel) (by decide +kernel) (by decide +kernel) (by decide +kernel) (by decide +kernel) (by decide +kernel)
theorem allAtoms_all (ts : List Jvm.Cond) (a : Array Jvm.Value) (st : Jvm.State) : (allAtoms ts).before a st = ts.all (fun c => c.before a st) := by
  induction ts with
  | nil => rfl
  | cons c t ih =>
    show (Jvm.Cond.and c (allAtoms t)).before a st = _
    rw [Jvm.Cond.before_and, ih, List.all_cons]
def words1 : List Jvm.Cond := Jvm.Cond.code x code maxLocals ret :: tables_1
/-- a 'code' word, met by the world's own term for the bytes: nothing is compared byte by byte -/
theorem code_word {y : MethodName} {bytes : ByteArray} {mx : Nat} {rt : Option FieldType} {a : Array Value} {s : State} {m : MethodId} {meth : Method} {c : Code} (h1 : s.methodNamed? y = some m) (h2 : s.vm.method? m = some meth) (h3 : meth.code = some c) (h4 : c.code = bytes)
    (h5 : (c.maxLocals == mx && c.exceptionTable.isEmpty && decide (c.maxStack ≤ mostOperands) && decide (meth.sig.returnType = rt) && !meth.locks && decide (parseMethodDescriptor y.desc = some meth.sig)) = true) : (Jvm.Cond.code y bytes mx rt).before a s = true := by
  simp only [Bool.and_eq_true, beq_iff_eq, Bool.not_eq_true', decide_eq_true_eq] at h5
  obtain ⟨⟨⟨⟨⟨g1, g2⟩, g3⟩, g4⟩, g5⟩, g6⟩ := h5
  simp [Cond.before, Cond.holds, Cond.value, h1, h2, h3, h4, g1, g2, g3, g4, g5, g6]
def isCode : Jvm.Cond → Bool
  | .code _ _ _ _ => true
  | _ => false
theorem all_split {L : List Jvm.Cond} {P : Jvm.Cond → Bool} (h1 : L.all (fun c => isCode c || P c) = true) (h2 : ∀ c ∈ L.filter isCode, P c = true) : L.all P = true := by
  refine List.all_eq_true.mpr fun c hc => ?_
  have h := List.all_eq_true.mp h1 c hc
  rcases Bool.eq_false_or_eq_true (isCode c) with hi | hi
  · exact h2 c (List.mem_filter.mpr ⟨hc, hi⟩)
  · simpa [hi] using h
set_option maxRecDepth 65536 in
theorem w_c0 : (Jvm.Cond.code x code maxLocals ret).before args0 about1 = true := code_word (m := ⟨1, 1⟩) (meth := k1m1) (c := k1c1) (by decide +kernel) rfl rfl rfl (by decide +kernel)
set_option maxRecDepth 65536 in
theorem w_c1 : (Jvm.Cond.code ({ cls := "java/lang/Math", name := "max", desc := "(II)I" } : Jvm.MethodName) jdk_29_method_65_code (2 : Nat) (Option.some Jvm.ClassFile.FieldType.int)).before args0 about1 = true := code_word (m := ⟨2, 1⟩) (meth := k2m1) (c := k2c1) (by decide +kernel) rfl rfl rfl (by decide +kernel)
set_option maxRecDepth 65536 in
theorem w_c2 : (Jvm.Cond.code ({ cls := "com/example/pico_z/picoz/types/GenericParameterType", name := "<init>", desc := "(I)V" } : Jvm.MethodName) prog_126_method_1_code (2 : Nat) (Option.none : Option Jvm.ClassFile.FieldType)).before args0 about1 = true := code_word (m := ⟨4, 0⟩) (meth := k4m0) (c := k4c0) (by decide +kernel) rfl rfl rfl (by decide +kernel)
set_option maxRecDepth 65536 in
theorem w_c3 : (Jvm.Cond.code ({ cls := "com/example/pico_z/picoz/types/Type", name := "<init>", desc := "(I)V" } : Jvm.MethodName) prog_133_method_1_code (2 : Nat) (Option.none : Option Jvm.ClassFile.FieldType)).before args0 about1 = true := code_word (m := ⟨3, 0⟩) (meth := k3m0) (c := k3c0) (by decide +kernel) rfl rfl rfl (by decide +kernel)
set_option maxRecDepth 65536 in
theorem w_c4 : (Jvm.Cond.code ({ cls := "java/lang/Object", name := "<init>", desc := "()V" } : Jvm.MethodName) object_method_1_code (1 : Nat) (Option.none : Option Jvm.ClassFile.FieldType)).before args0 about1 = true := code_word (m := ⟨0, 0⟩) (meth := k0m0) (c := k0c0) (by decide +kernel) rfl rfl rfl (by decide +kernel)
set_option maxRecDepth 65536 in
theorem w_c5 : (Jvm.Cond.code ({ cls := "com/example/pico_z/picoz/types/GenericParameterType", name := "equals", desc := "(Ljava/lang/Object;)Z" } : Jvm.MethodName) prog_126_method_9_code (2 : Nat) (Option.some Jvm.ClassFile.FieldType.boolean)).before args0 about1 = true := code_word (m := ⟨4, 1⟩) (meth := k4m1) (c := k4c1) (by decide +kernel) rfl rfl rfl (by decide +kernel)
set_option maxRecDepth 65536 in
theorem w_c6 : (Jvm.Cond.code ({ cls := "java/lang/Integer", name := "valueOf", desc := "(I)Ljava/lang/Integer;" } : Jvm.MethodName) jdk_33_method_22_code (1 : Nat) (Option.some (Jvm.ClassFile.FieldType.object "java/lang/Integer"))).before args0 about1 = true := code_word (m := ⟨10, 0⟩) (meth := k10m0) (c := k10c0) (by decide +kernel) rfl rfl rfl (by decide +kernel)
set_option maxRecDepth 65536 in
theorem w_c7 : (Jvm.Cond.code ({ cls := "java/lang/Integer", name := "<init>", desc := "(I)V" } : Jvm.MethodName) jdk_33_method_23_code (2 : Nat) (Option.none : Option Jvm.ClassFile.FieldType)).before args0 about1 = true := code_word (m := ⟨10, 1⟩) (meth := k10m1) (c := k10c1) (by decide +kernel) rfl rfl rfl (by decide +kernel)
set_option maxRecDepth 65536 in
theorem w_c8 : (Jvm.Cond.code ({ cls := "java/lang/Number", name := "<init>", desc := "()V" } : Jvm.MethodName) jdk_18_method_1_code (1 : Nat) (Option.none : Option Jvm.ClassFile.FieldType)).before args0 about1 = true := code_word (m := ⟨6, 0⟩) (meth := k6m0) (c := k6c0) (by decide +kernel) rfl rfl rfl (by decide +kernel)
def codes1 : List Jvm.Cond := [Jvm.Cond.code x code maxLocals ret, Jvm.Cond.code ({ cls := "java/lang/Math", name := "max", desc := "(II)I" } : Jvm.MethodName) jdk_29_method_65_code (2 : Nat) (Option.some Jvm.ClassFile.FieldType.int), Jvm.Cond.code ({ cls := "com/example/pico_z/picoz/types/GenericParameterType", name := "<init>", desc := "(I)V" } : Jvm.MethodName) prog_126_method_1_code (2 : Nat) (Option.none : Option Jvm.ClassFile.FieldType), Jvm.Cond.code ({ cls := "com/example/pico_z/picoz/types/Type", name := "<init>", desc := "(I)V" } : Jvm.MethodName) prog_133_method_1_code (2 : Nat) (Option.none : Option Jvm.ClassFile.FieldType), Jvm.Cond.code ({ cls := "java/lang/Object", name := "<init>", desc := "()V" } : Jvm.MethodName) object_method_1_code (1 : Nat) (Option.none : Option Jvm.ClassFile.FieldType), Jvm.Cond.code ({ cls := "com/example/pico_z/picoz/types/GenericParameterType", name := "equals", desc := "(Ljava/lang/Object;)Z" } : Jvm.MethodName) prog_126_method_9_code (2 : Nat) (Option.some Jvm.ClassFile.FieldType.boolean), Jvm.Cond.code ({ cls := "java/lang/Integer", name := "valueOf", desc := "(I)Ljava/lang/Integer;" } : Jvm.MethodName) jdk_33_method_22_code (1 : Nat) (Option.some (Jvm.ClassFile.FieldType.object "java/lang/Integer")), Jvm.Cond.code ({ cls := "java/lang/Integer", name := "<init>", desc := "(I)V" } : Jvm.MethodName) jdk_33_method_23_code (2 : Nat) (Option.none : Option Jvm.ClassFile.FieldType), Jvm.Cond.code ({ cls := "java/lang/Number", name := "<init>", desc := "()V" } : Jvm.MethodName) jdk_18_method_1_code (1 : Nat) (Option.none : Option Jvm.ClassFile.FieldType)]
set_option maxRecDepth 65536 in
theorem codes_eq : words1.filter isCode = codes1 := rfl
theorem w_codes : ∀ c ∈ words1.filter isCode, c.before args0 about1 = true := by
  rw [codes_eq]
  intro c hc
  simp only [codes1, List.mem_cons, List.not_mem_nil, or_false] at hc
  rcases hc with rfl | rfl | rfl | rfl | rfl | rfl | rfl | rfl | rfl
  · exact w_c0
  · exact w_c1
  · exact w_c2
  · exact w_c3
  · exact w_c4
  · exact w_c5
  · exact w_c6
  · exact w_c7
  · exact w_c8
set_option maxRecDepth 65536 in
theorem w_t1 : (words1.take 24).all (fun c => isCode c || c.before args0 about1) = true := by decide +kernel
set_option maxRecDepth 65536 in
theorem w_t2 : ((words1.drop 24).take 24).all (fun c => isCode c || c.before args0 about1) = true := by decide +kernel
set_option maxRecDepth 65536 in
theorem w_t3 : ((words1.drop 24).drop 24).all (fun c => isCode c || c.before args0 about1) = true := by decide +kernel
theorem w_tables : (allAtoms (Jvm.Cond.code x code maxLocals ret :: tables_1)).before args0 about1 = true := by
  rw [allAtoms_all]
  show words1.all (fun c => c.before args0 about1) = true
  refine all_split ?_ w_codes
  rw [← List.take_append_drop 24 words1, List.all_append, w_t1, ← List.take_append_drop 24 (words1.drop 24), List.all_append, w_t2, w_t3]
  rfl
set_option maxRecDepth 65536 in
theorem w_rest : rest_1_c.before args0 about1 = true := by decide +kernel
set_option maxRecDepth 65536 in
theorem w_case : (Jvm.Cond.and given_1 narrow_1).before args0 about1 = true := by decide +kernel
theorem w_applies : (headSpec (Jvm.Cond.code x code maxLocals ret :: tables_1) room_1).applies x e0.platform about1 = true :=
  (Spec.applies_iff w_frames).mpr ⟨w_running, w_runnable, w_alone, w_named, w_hears, w_ripe, w_room, w_tables⟩
theorem atStart : AtStart classFile x code maxLocals ret World_1 tables_1 room_1 Calls_1 rest_1 Pre_1 launch0 p0 e0 about1 theMethod args0 below0 :=
  ⟨lists_1, trivial, launch0.admits_env _ _ _, launch0.least_env, fairChoices_fair.cas, fairChoices_fair.clock, w_frames, w_args, w_heap, w_applies, trivial, w_rest, w_case⟩
end start1
theorem witness_1 : WitnessClaimed_1 := ⟨start1.p0, start1.e0, start1.about1, start1.theMethod, start1.args0, start1.below0, start1.atStart⟩
end Jvm.Pilot.@@N@@
