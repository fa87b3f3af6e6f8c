import JvmDerived
import JvmDerived.Pilot.@@N@@Statement
import JvmDerived.Pilot.@@N@@Code
set_option linter.unusedVariables false
set_option linter.unusedSimpArgs false
namespace Jvm.Pilot.@@N@@
open Jvm Jvm.ClassFile Sem Op Lib Jvm.Free Jvm.Stand Jvm.LawKit Jvm.RoadKit Bundle Jvm.Pilot.@@N@@.Jvm.D
theorem d1_0 : decode method_2_code 0 = .ok (.iload_n 0, 1) := by decide +kernel
theorem d1_1 : decode method_2_code 1 = .ok (.ifCond .ne 7, 3) := by decide +kernel
theorem d1_4 : decode method_2_code 4 = .ok (.getstatic 7, 3) := by decide +kernel
theorem d1_7 : decode method_2_code 7 = .ok (.areturn, 1) := by decide +kernel
theorem d1_8 : decode method_2_code 8 = .ok (.iload_n 0, 1) := by decide +kernel
theorem d1_9 : decode method_2_code 9 = .ok (.iconst 1, 1) := by decide +kernel
theorem d1_10 : decode method_2_code 10 = .ok (.if_icmp .ne 7, 3) := by decide +kernel
theorem d1_13 : decode method_2_code 13 = .ok (.getstatic 13, 3) := by decide +kernel
theorem d1_16 : decode method_2_code 16 = .ok (.areturn, 1) := by decide +kernel
theorem d1_17 : decode method_2_code 17 = .ok (.iload_n 0, 1) := by decide +kernel
theorem d1_18 : decode method_2_code 18 = .ok (.iconst 2, 1) := by decide +kernel
theorem d1_19 : decode method_2_code 19 = .ok (.if_icmp .ne 7, 3) := by decide +kernel
theorem d1_22 : decode method_2_code 22 = .ok (.getstatic 16, 3) := by decide +kernel
theorem d1_25 : decode method_2_code 25 = .ok (.areturn, 1) := by decide +kernel
theorem d1_26 : decode method_2_code 26 = .ok (.iload_n 0, 1) := by decide +kernel
theorem d1_27 : decode method_2_code 27 = .ok (.iconst 3, 1) := by decide +kernel
theorem d1_28 : decode method_2_code 28 = .ok (.if_icmp .ne 7, 3) := by decide +kernel
theorem d1_31 : decode method_2_code 31 = .ok (.getstatic 19, 3) := by decide +kernel
theorem d1_34 : decode method_2_code 34 = .ok (.areturn, 1) := by decide +kernel
theorem d1_35 : decode method_2_code 35 = .ok (.iload_n 0, 1) := by decide +kernel
theorem d1_36 : decode method_2_code 36 = .ok (.iconst 4, 1) := by decide +kernel
theorem d1_37 : decode method_2_code 37 = .ok (.if_icmp .ne 7, 3) := by decide +kernel
theorem d1_40 : decode method_2_code 40 = .ok (.getstatic 22, 3) := by decide +kernel
theorem d1_43 : decode method_2_code 43 = .ok (.areturn, 1) := by decide +kernel
theorem d1_44 : decode method_2_code 44 = .ok (.iload_n 0, 1) := by decide +kernel
theorem d1_45 : decode method_2_code 45 = .ok (.iconst 5, 1) := by decide +kernel
theorem d1_46 : decode method_2_code 46 = .ok (.if_icmp .ne 7, 3) := by decide +kernel
theorem d1_49 : decode method_2_code 49 = .ok (.getstatic 25, 3) := by decide +kernel
theorem d1_52 : decode method_2_code 52 = .ok (.areturn, 1) := by decide +kernel
theorem d1_53 : decode method_2_code 53 = .ok (.getstatic 28, 3) := by decide +kernel
theorem d1_56 : decode method_2_code 56 = .ok (.areturn, 1) := by decide +kernel
theorem own_sk0 {tb : Tables} [Ours tb] {e : Env} {below : List Frame} {T target : State} {m : MethodId} {c : Code} (h : At T m c below) (hx : tb.exec = Jvm.exec) (hby : c.code = method_2_code) {k : Int32} (hk : ¬ k = (0 : Int32)) (r : Steps tb e below (T.setTop (mkF m 8 #[.val (.int k)] [])) target) : Steps tb e below (T.setTop (mkF m 0 #[.val (.int k)] [])) target := by
  refine XS.iloadN h hx rfl (hb hby d1_0) rfl ?_
  show Steps tb e below (T.setTop (mkF m 1 #[.val (.int k)] [.int k])) _
  exact XS.ifYes h hx rfl (pc0 := 1) (pc' := 8) rfl (hb hby d1_1) rfl ((if0 _ _).trans (feq hk).2) (by decide) (by decide) r
theorem own_tk0 {tb : Tables} [Ours tb] {e : Env} {below : List Frame} {T target : State} {m : MethodId} {c : Code} (h : At T m c below) (hx : tb.exec = Jvm.exec) (hby : c.code = method_2_code) {k : Int32} (hk : k = (0 : Int32)) (r : Steps tb e below (T.setTop (mkF m 4 #[.val (.int k)] [])) target) : Steps tb e below (T.setTop (mkF m 0 #[.val (.int k)] [])) target := by
  refine XS.iloadN h hx rfl (hb hby d1_0) rfl ?_
  show Steps tb e below (T.setTop (mkF m 1 #[.val (.int k)] [.int k])) _
  exact XS.ifNo h hx rfl (hb hby d1_1) rfl ((if0 _ _).trans (teq hk).2) r
theorem own_sk1 {tb : Tables} [Ours tb] {e : Env} {below : List Frame} {T target : State} {m : MethodId} {c : Code} (h : At T m c below) (hx : tb.exec = Jvm.exec) (hby : c.code = method_2_code) {k : Int32} (hk : ¬ k = (1 : Int32)) (r : Steps tb e below (T.setTop (mkF m 17 #[.val (.int k)] [])) target) : Steps tb e below (T.setTop (mkF m 8 #[.val (.int k)] [])) target := by
  refine XS.iloadN h hx rfl (hb hby d1_8) rfl ?_
  show Steps tb e below (T.setTop (mkF m 9 #[.val (.int k)] [.int k])) _
  refine XS.iconst h hx rfl (hb hby d1_9) ?_
  show Steps tb e below (T.setTop (mkF m 10 #[.val (.int k)] [.int (1 : Int32), .int k])) _
  exact XS.icmpYes h hx rfl (pc0 := 10) (pc' := 17) rfl (hb hby d1_10) rfl (feq hk).2 (by decide) (by decide) r
theorem own_tk1 {tb : Tables} [Ours tb] {e : Env} {below : List Frame} {T target : State} {m : MethodId} {c : Code} (h : At T m c below) (hx : tb.exec = Jvm.exec) (hby : c.code = method_2_code) {k : Int32} (hk : k = (1 : Int32)) (r : Steps tb e below (T.setTop (mkF m 13 #[.val (.int k)] [])) target) : Steps tb e below (T.setTop (mkF m 8 #[.val (.int k)] [])) target := by
  refine XS.iloadN h hx rfl (hb hby d1_8) rfl ?_
  show Steps tb e below (T.setTop (mkF m 9 #[.val (.int k)] [.int k])) _
  refine XS.iconst h hx rfl (hb hby d1_9) ?_
  show Steps tb e below (T.setTop (mkF m 10 #[.val (.int k)] [.int (1 : Int32), .int k])) _
  exact XS.icmpNo h hx rfl (hb hby d1_10) rfl (teq hk).2 r
theorem own_sk2 {tb : Tables} [Ours tb] {e : Env} {below : List Frame} {T target : State} {m : MethodId} {c : Code} (h : At T m c below) (hx : tb.exec = Jvm.exec) (hby : c.code = method_2_code) {k : Int32} (hk : ¬ k = (2 : Int32)) (r : Steps tb e below (T.setTop (mkF m 26 #[.val (.int k)] [])) target) : Steps tb e below (T.setTop (mkF m 17 #[.val (.int k)] [])) target := by
  refine XS.iloadN h hx rfl (hb hby d1_17) rfl ?_
  show Steps tb e below (T.setTop (mkF m 18 #[.val (.int k)] [.int k])) _
  refine XS.iconst h hx rfl (hb hby d1_18) ?_
  show Steps tb e below (T.setTop (mkF m 19 #[.val (.int k)] [.int (2 : Int32), .int k])) _
  exact XS.icmpYes h hx rfl (pc0 := 19) (pc' := 26) rfl (hb hby d1_19) rfl (feq hk).2 (by decide) (by decide) r
theorem own_tk2 {tb : Tables} [Ours tb] {e : Env} {below : List Frame} {T target : State} {m : MethodId} {c : Code} (h : At T m c below) (hx : tb.exec = Jvm.exec) (hby : c.code = method_2_code) {k : Int32} (hk : k = (2 : Int32)) (r : Steps tb e below (T.setTop (mkF m 22 #[.val (.int k)] [])) target) : Steps tb e below (T.setTop (mkF m 17 #[.val (.int k)] [])) target := by
  refine XS.iloadN h hx rfl (hb hby d1_17) rfl ?_
  show Steps tb e below (T.setTop (mkF m 18 #[.val (.int k)] [.int k])) _
  refine XS.iconst h hx rfl (hb hby d1_18) ?_
  show Steps tb e below (T.setTop (mkF m 19 #[.val (.int k)] [.int (2 : Int32), .int k])) _
  exact XS.icmpNo h hx rfl (hb hby d1_19) rfl (teq hk).2 r
theorem own_sk3 {tb : Tables} [Ours tb] {e : Env} {below : List Frame} {T target : State} {m : MethodId} {c : Code} (h : At T m c below) (hx : tb.exec = Jvm.exec) (hby : c.code = method_2_code) {k : Int32} (hk : ¬ k = (3 : Int32)) (r : Steps tb e below (T.setTop (mkF m 35 #[.val (.int k)] [])) target) : Steps tb e below (T.setTop (mkF m 26 #[.val (.int k)] [])) target := by
  refine XS.iloadN h hx rfl (hb hby d1_26) rfl ?_
  show Steps tb e below (T.setTop (mkF m 27 #[.val (.int k)] [.int k])) _
  refine XS.iconst h hx rfl (hb hby d1_27) ?_
  show Steps tb e below (T.setTop (mkF m 28 #[.val (.int k)] [.int (3 : Int32), .int k])) _
  exact XS.icmpYes h hx rfl (pc0 := 28) (pc' := 35) rfl (hb hby d1_28) rfl (feq hk).2 (by decide) (by decide) r
theorem own_tk3 {tb : Tables} [Ours tb] {e : Env} {below : List Frame} {T target : State} {m : MethodId} {c : Code} (h : At T m c below) (hx : tb.exec = Jvm.exec) (hby : c.code = method_2_code) {k : Int32} (hk : k = (3 : Int32)) (r : Steps tb e below (T.setTop (mkF m 31 #[.val (.int k)] [])) target) : Steps tb e below (T.setTop (mkF m 26 #[.val (.int k)] [])) target := by
  refine XS.iloadN h hx rfl (hb hby d1_26) rfl ?_
  show Steps tb e below (T.setTop (mkF m 27 #[.val (.int k)] [.int k])) _
  refine XS.iconst h hx rfl (hb hby d1_27) ?_
  show Steps tb e below (T.setTop (mkF m 28 #[.val (.int k)] [.int (3 : Int32), .int k])) _
  exact XS.icmpNo h hx rfl (hb hby d1_28) rfl (teq hk).2 r
theorem own_sk4 {tb : Tables} [Ours tb] {e : Env} {below : List Frame} {T target : State} {m : MethodId} {c : Code} (h : At T m c below) (hx : tb.exec = Jvm.exec) (hby : c.code = method_2_code) {k : Int32} (hk : ¬ k = (4 : Int32)) (r : Steps tb e below (T.setTop (mkF m 44 #[.val (.int k)] [])) target) : Steps tb e below (T.setTop (mkF m 35 #[.val (.int k)] [])) target := by
  refine XS.iloadN h hx rfl (hb hby d1_35) rfl ?_
  show Steps tb e below (T.setTop (mkF m 36 #[.val (.int k)] [.int k])) _
  refine XS.iconst h hx rfl (hb hby d1_36) ?_
  show Steps tb e below (T.setTop (mkF m 37 #[.val (.int k)] [.int (4 : Int32), .int k])) _
  exact XS.icmpYes h hx rfl (pc0 := 37) (pc' := 44) rfl (hb hby d1_37) rfl (feq hk).2 (by decide) (by decide) r
theorem own_tk4 {tb : Tables} [Ours tb] {e : Env} {below : List Frame} {T target : State} {m : MethodId} {c : Code} (h : At T m c below) (hx : tb.exec = Jvm.exec) (hby : c.code = method_2_code) {k : Int32} (hk : k = (4 : Int32)) (r : Steps tb e below (T.setTop (mkF m 40 #[.val (.int k)] [])) target) : Steps tb e below (T.setTop (mkF m 35 #[.val (.int k)] [])) target := by
  refine XS.iloadN h hx rfl (hb hby d1_35) rfl ?_
  show Steps tb e below (T.setTop (mkF m 36 #[.val (.int k)] [.int k])) _
  refine XS.iconst h hx rfl (hb hby d1_36) ?_
  show Steps tb e below (T.setTop (mkF m 37 #[.val (.int k)] [.int (4 : Int32), .int k])) _
  exact XS.icmpNo h hx rfl (hb hby d1_37) rfl (teq hk).2 r
theorem own_sk5 {tb : Tables} [Ours tb] {e : Env} {below : List Frame} {T target : State} {m : MethodId} {c : Code} (h : At T m c below) (hx : tb.exec = Jvm.exec) (hby : c.code = method_2_code) {k : Int32} (hk : ¬ k = (5 : Int32)) (r : Steps tb e below (T.setTop (mkF m 53 #[.val (.int k)] [])) target) : Steps tb e below (T.setTop (mkF m 44 #[.val (.int k)] [])) target := by
  refine XS.iloadN h hx rfl (hb hby d1_44) rfl ?_
  show Steps tb e below (T.setTop (mkF m 45 #[.val (.int k)] [.int k])) _
  refine XS.iconst h hx rfl (hb hby d1_45) ?_
  show Steps tb e below (T.setTop (mkF m 46 #[.val (.int k)] [.int (5 : Int32), .int k])) _
  exact XS.icmpYes h hx rfl (pc0 := 46) (pc' := 53) rfl (hb hby d1_46) rfl (feq hk).2 (by decide) (by decide) r
theorem own_tk5 {tb : Tables} [Ours tb] {e : Env} {below : List Frame} {T target : State} {m : MethodId} {c : Code} (h : At T m c below) (hx : tb.exec = Jvm.exec) (hby : c.code = method_2_code) {k : Int32} (hk : k = (5 : Int32)) (r : Steps tb e below (T.setTop (mkF m 49 #[.val (.int k)] [])) target) : Steps tb e below (T.setTop (mkF m 44 #[.val (.int k)] [])) target := by
  refine XS.iloadN h hx rfl (hb hby d1_44) rfl ?_
  show Steps tb e below (T.setTop (mkF m 45 #[.val (.int k)] [.int k])) _
  refine XS.iconst h hx rfl (hb hby d1_45) ?_
  show Steps tb e below (T.setTop (mkF m 46 #[.val (.int k)] [.int (5 : Int32), .int k])) _
  exact XS.icmpNo h hx rfl (hb hby d1_46) rfl (teq hk).2 r
theorem pn_L : plainName "com/example/banyan/banyan/property/FilterOperatorGivesTruthValuePinLaw" = true := by first | (simp [plainName, overriddenIn]; done) | decide +kernel
theorem ef_P (m : MethodId) (x0 : Int32) : entryFrame m #[(.int x0)] 1 = mkF m 0 #[.val (.int x0)] [] := by first | (simp [entryFrame, mkF, argsToLocals, Value.category]; done) | rfl
def Q_own_pk (Z : State) (k : Int32) (w : Addr) (h0 : Heap) (n0 : Nat) (v : Option Value) (hp : Heap) (L : List Loc) : Prop := v = some (.ref w) ∧ Fr n0 L ∧ hp = h0
set_option maxRecDepth 65536 in
set_option maxHeartbeats 40000000 in
theorem own_pk (l : Launch) (Z : State) (a0 : Array Value) (hw : ∀ d ∈ tables_1, d.before a0 Z = true) (ws : List Jvm.Cond) (k : Int32) (w : Addr) (h0 : Heap) (n0 : Nat) (Z0 : n0 ≤ h0.size) (pcG idx : Nat) (nm : String) (S : Sta Z h0 "com/example/banyan/banyan/property/FilterOperator" nm "Lcom/example/banyan/banyan/property/FilterOperator;" (.ref w)) (lk : (Jvm.Cond.fieldLink "com/example/banyan/banyan/property/FilterOperatorGivesTruthValuePinLaw" idx "com/example/banyan/banyan/property/FilterOperator" nm "Lcom/example/banyan/banyan/property/FilterOperator;").before a0 Z = true) (dG : decode method_2_code pcG = .ok (.getstatic idx, 3)) (dR : decode method_2_code (pcG + 3) = .ok (.areturn, 1)) (reach : ∀ {tb : Tables} [Ours tb] {e : Env} {below : List Frame} {T target : State} {m : MethodId} {c : Code}, At T m c below → tb.exec = Jvm.exec → c.code = method_2_code → Steps tb e below (T.setTop (mkF m pcG #[.val (.int k)] [])) target → Steps tb e below (T.setTop (mkF m 0 #[.val (.int k)] [])) target) :
    MetFree l (⟨"com/example/banyan/banyan/property/FilterOperatorGivesTruthValuePinLaw", "pick", "(I)Lcom/example/banyan/banyan/property/FilterOperator;"⟩ : MethodName) (head1 (Jvm.Cond.code (⟨"com/example/banyan/banyan/property/FilterOperatorGivesTruthValuePinLaw", "pick", "(I)Lcom/example/banyan/banyan/property/FilterOperator;"⟩ : MethodName) method_2_code 1 (some (.object "com/example/banyan/banyan/property/FilterOperator")) :: ws) ({ frames := 0, cells := 0, slots := 0, locals := 0 } : Room)) (fun aa U => aa = #[.int k] ∧ Z.Warmed39 U.vm ∧ U.heap = h0) (fun _ _ _ _ _ => True) (fun _ U o U' => ∃ v L, o = .returned v ∧ (Q_own_pk Z k w h0 n0 v U'.heap L) ∧ FrameEnd U o U' L ({ frames := 0, cells := 0, slots := 0, locals := 0 } : Room).cells ({ frames := 0, cells := 0, slots := 0, locals := 0 } : Room).slots) := by
  refine MetFree.of_bodySF (plainFor_of_name pn_L) hisR ?_
  intro p e s m args below meth c s₁ Bd hml0 hP hK
  obtain ⟨rfl, hZ, hh⟩ := hP
  have hx := Bd.exec
  have hby := Bd.bytes
  have hml : c.maxLocals = 1 := hml0
  have hown : s.vm.findClass "com/example/banyan/banyan/property/FilterOperatorGivesTruthValuePinLaw" = some m.cls := findClass_of_methodNamed Bd.named
  have hnm := (name_of_methodNamed Bd.named Bd.method).1
  have X0 : Stand p l e ({ frames := 0, cells := 0, slots := 0, locals := 0 } : Room) s m #[.int k] below meth c s₁ [] 0 0 := Stand.of_body Bd
  have e0 : s₁.heap = h0 := by rw [← hh, Bd.state]; rfl
  have N0 := Fr.nil n0
  have pre0 : ∀ t, Steps p.tables e below (s₁.setTop (mkF m 0 #[.val (.int k)] [])) t → Steps p.tables e below (s₁.setTop (entryFrame m #[.int k] 1)) t := fun t kk => castTop (ef_P m k) kk
  obtain ⟨T3, X3, e3, st3⟩ := getS2 X0 hx hZ hown (host := "") (Or.inl lk) Via.refl e0 S (g := (mkF m pcG #[.val (.int k)] [])) rfl (hb hby dG)
  obtain ⟨fs, hr, hrun, hended, hW, hsame⟩ := X3.leave (v := some (.ref w)) (fun h => by rw [Bd.returns] at h; cases h)
  refine ⟨_, _, pre0 _ ?_, hrun, hended, _, _, rfl, ?_, ⟨_, rfl⟩, hW, hsame.mono (by decide) (by decide)⟩
  · refine reach X0.here hx hby ?_
    refine st3 _ ?_
    show Steps p.tables e below (T3.setTop (mkF m (pcG + 3) #[.val (.int k)] [(.ref w)])) _
    jvm_step X3.here [X3.here.top, hx, (hb hby dR), X3.method', Bd.returns, Value.isRef, FieldType.isReference]
    first | (intro acts; rw [hr _ acts rfl rfl rfl]) | rw [hr _ _ rfl rfl rfl]
    exact Steps.refl _
  · exact ⟨rfl, N0, e3⟩
def own_Pick (Z : State) (h : Heap) (k : Int32) (w : Addr) : Prop := (k = (0 : Int32) ∧ Sta Z h "com/example/banyan/banyan/property/FilterOperator" "MIN" "Lcom/example/banyan/banyan/property/FilterOperator;" (.ref w)) ∨ (k = (1 : Int32) ∧ Sta Z h "com/example/banyan/banyan/property/FilterOperator" "MAX" "Lcom/example/banyan/banyan/property/FilterOperator;" (.ref w)) ∨ (k = (2 : Int32) ∧ Sta Z h "com/example/banyan/banyan/property/FilterOperator" "AVG" "Lcom/example/banyan/banyan/property/FilterOperator;" (.ref w)) ∨ (k = (3 : Int32) ∧ Sta Z h "com/example/banyan/banyan/property/FilterOperator" "SUM" "Lcom/example/banyan/banyan/property/FilterOperator;" (.ref w)) ∨ (k = (4 : Int32) ∧ Sta Z h "com/example/banyan/banyan/property/FilterOperator" "COUNT" "Lcom/example/banyan/banyan/property/FilterOperator;" (.ref w)) ∨ (k = (5 : Int32) ∧ Sta Z h "com/example/banyan/banyan/property/FilterOperator" "FORALL" "Lcom/example/banyan/banyan/property/FilterOperator;" (.ref w)) ∨ (k = (6 : Int32) ∧ Sta Z h "com/example/banyan/banyan/property/FilterOperator" "EXISTS" "Lcom/example/banyan/banyan/property/FilterOperator;" (.ref w))
def Q_rm1 (Z : State) (k : Int32) (w : Addr) (h0 : Heap) (n0 : Nat) (v : Option Value) (hp : Heap) (L : List Loc) : Prop := v = some (.ref w) ∧ Fr n0 L ∧ hp = h0
set_option maxRecDepth 65536 in
set_option maxHeartbeats 40000000 in
theorem rm1 (l : Launch) (Z : State) (a0 : Array Value) (hw : ∀ d ∈ tables_1, d.before a0 Z = true) (ws : List Jvm.Cond) (k : Int32) (w : Addr) (h0 : Heap) (n0 : Nat) (Z0 : n0 ≤ h0.size) (PK : own_Pick Z h0 k w) :
    MetFree l (⟨"com/example/banyan/banyan/property/FilterOperatorGivesTruthValuePinLaw", "pick", "(I)Lcom/example/banyan/banyan/property/FilterOperator;"⟩ : MethodName) (head1 (Jvm.Cond.code (⟨"com/example/banyan/banyan/property/FilterOperatorGivesTruthValuePinLaw", "pick", "(I)Lcom/example/banyan/banyan/property/FilterOperator;"⟩ : MethodName) method_2_code 1 (some (.object "com/example/banyan/banyan/property/FilterOperator")) :: ws) ({ frames := 0, cells := 0, slots := 0, locals := 0 } : Room)) (fun aa U => aa = #[.int k] ∧ Z.Warmed39 U.vm ∧ U.heap = h0) (fun _ _ _ _ _ => True) (fun _ U o U' => ∃ v L, o = .returned v ∧ (Q_rm1 Z k w h0 n0 v U'.heap L) ∧ FrameEnd U o U' L ({ frames := 0, cells := 0, slots := 0, locals := 0 } : Room).cells ({ frames := 0, cells := 0, slots := 0, locals := 0 } : Room).slots) := by
  rcases PK with ⟨rfl, S⟩ | ⟨rfl, S⟩ | ⟨rfl, S⟩ | ⟨rfl, S⟩ | ⟨rfl, S⟩ | ⟨rfl, S⟩ | ⟨rfl, S⟩
  · exact own_pk l Z a0 hw ws 0 w h0 n0 Z0 4 7 "MIN" S (hw _ (List.mem_of_getElem? (i := 5) rfl)) d1_4 d1_7 (fun h hx hby r => (own_tk0 h hx hby rfl r))
  · exact own_pk l Z a0 hw ws 1 w h0 n0 Z0 13 13 "MAX" S (hw _ (List.mem_of_getElem? (i := 32) rfl)) d1_13 d1_16 (fun h hx hby r => (own_sk0 h hx hby (by decide) (own_tk1 h hx hby rfl r)))
  · exact own_pk l Z a0 hw ws 2 w h0 n0 Z0 22 16 "AVG" S (hw _ (List.mem_of_getElem? (i := 30) rfl)) d1_22 d1_25 (fun h hx hby r => (own_sk0 h hx hby (by decide) (own_sk1 h hx hby (by decide) (own_tk2 h hx hby rfl r))))
  · exact own_pk l Z a0 hw ws 3 w h0 n0 Z0 31 19 "SUM" S (hw _ (List.mem_of_getElem? (i := 17) rfl)) d1_31 d1_34 (fun h hx hby r => (own_sk0 h hx hby (by decide) (own_sk1 h hx hby (by decide) (own_sk2 h hx hby (by decide) (own_tk3 h hx hby rfl r)))))
  · exact own_pk l Z a0 hw ws 4 w h0 n0 Z0 40 22 "COUNT" S (hw _ (List.mem_of_getElem? (i := 28) rfl)) d1_40 d1_43 (fun h hx hby r => (own_sk0 h hx hby (by decide) (own_sk1 h hx hby (by decide) (own_sk2 h hx hby (by decide) (own_sk3 h hx hby (by decide) (own_tk4 h hx hby rfl r))))))
  · exact own_pk l Z a0 hw ws 5 w h0 n0 Z0 49 25 "FORALL" S (hw _ (List.mem_of_getElem? (i := 19) rfl)) d1_49 d1_52 (fun h hx hby r => (own_sk0 h hx hby (by decide) (own_sk1 h hx hby (by decide) (own_sk2 h hx hby (by decide) (own_sk3 h hx hby (by decide) (own_sk4 h hx hby (by decide) (own_tk5 h hx hby rfl r)))))))
  · exact own_pk l Z a0 hw ws 6 w h0 n0 Z0 53 28 "EXISTS" S (hw _ (List.mem_of_getElem? (i := 27) rfl)) d1_53 d1_56 (fun h hx hby r => (own_sk0 h hx hby (by decide) (own_sk1 h hx hby (by decide) (own_sk2 h hx hby (by decide) (own_sk3 h hx hby (by decide) (own_sk4 h hx hby (by decide) (own_sk5 h hx hby (by decide) r)))))))
theorem d2_0 : decode prog_105_method_6_code 0 = .ok (.aload_n 0, 1) := by decide +kernel
theorem d2_1 : decode prog_105_method_6_code 1 = .ok (.getstatic 19, 3) := by decide +kernel
theorem d2_4 : decode prog_105_method_6_code 4 = .ok (.if_acmp .eq 10, 3) := by decide +kernel
theorem d2_14 : decode prog_105_method_6_code 14 = .ok (.iconst 1, 1) := by decide +kernel
theorem d2_15 : decode prog_105_method_6_code 15 = .ok (.goto 4, 3) := by decide +kernel
theorem d2_19 : decode prog_105_method_6_code 19 = .ok (.ireturn, 1) := by decide +kernel
theorem pn_2 : plainName "com/example/banyan/banyan/property/FilterOperator" = true := by first | (simp [plainName, overriddenIn]; done) | decide +kernel
theorem ef_2 (m : MethodId) (x0 : Addr) : entryFrame m #[(.ref x0)] 1 = mkF m 0 #[.val (.ref x0)] [] := by first | (simp [entryFrame, mkF, argsToLocals, Value.category]; done) | rfl
def Q2a (Z : State) (a1 : Addr) (w2 : Addr) (h0 : Heap) (n0 : Nat) (v : Option Value) (h : Heap) (L : List Loc) : Prop := v = some (.int (1 : Int32)) ∧ Fr n0 L ∧ h = h0
set_option maxRecDepth 65536 in
set_option maxHeartbeats 40000000 in
theorem rm2a (l : Launch) (Z : State) (a0 : Array Value) (hw : ∀ d ∈ tables_1, d.before a0 Z = true) (ws : List Jvm.Cond) (a1 : Addr) (w2 : Addr) (h0 : Heap) (n0 : Nat) (Z0 : n0 ≤ h0.size) (S_FORALL : Sta Z h0 "com/example/banyan/banyan/property/FilterOperator" "FORALL" "Lcom/example/banyan/banyan/property/FilterOperator;" (.ref w2)) (ha4 : a1 = w2) :
    MetFree l (⟨"com/example/banyan/banyan/property/FilterOperator", "givesTruthValue", "()Z"⟩ : MethodName) (head1 (Jvm.Cond.code (⟨"com/example/banyan/banyan/property/FilterOperator", "givesTruthValue", "()Z"⟩ : MethodName) prog_105_method_6_code 1 (some .boolean) :: ws) ({ frames := 0, cells := 0, slots := 0, locals := 0 } : Room)) (fun a U => a = #[(.ref a1)] ∧ Z.Warmed39 U.vm ∧ U.heap = h0) (fun _ _ _ _ _ => True) (fun _ U o U' => ∃ v L, o = .returned v ∧ Q2a Z a1 w2 h0 n0 v U'.heap L ∧ FrameEnd U o U' L ({ frames := 0, cells := 0, slots := 0, locals := 0 } : Room).cells ({ frames := 0, cells := 0, slots := 0, locals := 0 } : Room).slots) := by
  refine MetFree.of_bodySF (plainFor_of_name pn_2) hisR ?_
  intro p e s m args below meth c s₁ Bd hml0 hP hK
  obtain ⟨rfl, hZ, hh⟩ := hP
  have hx := Bd.exec
  have hby := Bd.bytes
  have hml : c.maxLocals = 1 := hml0
  have hown : s.vm.findClass "com/example/banyan/banyan/property/FilterOperator" = some m.cls := findClass_of_methodNamed Bd.named
  have hnm := (name_of_methodNamed Bd.named Bd.method).1
  have X0 : Stand p l e ({ frames := 0, cells := 0, slots := 0, locals := 0 } : Room) s m #[(.ref a1)] below meth c s₁ [] 0 0 := Stand.of_body Bd
  have e0 : s₁.heap = h0 := by rw [← hh, Bd.state]; rfl
  have N0 := Fr.nil n0
  have pre0 : ∀ t, Steps p.tables e below (s₁.setTop (mkF m 0 #[.val (.ref a1)] [])) t → Steps p.tables e below (s₁.setTop (entryFrame m #[(.ref a1)] 1)) t := fun t k => castTop (ef_2 m a1) k
  obtain ⟨T3, X3, e3, st3⟩ := getS2 X0 hx hZ hown (host := "") (Or.inl (hw _ (List.mem_of_getElem? (i := 13) rfl))) Via.refl e0 S_FORALL (g := (mkF m 1 #[.val (.ref a1)] [(.ref a1)])) rfl (hb hby d2_1)
  obtain ⟨fs, hr, hrun, hended, hW, hsame⟩ := X3.leave (v := some (.int (1 : Int32))) (fun h => by rw [Bd.returns] at h; cases h)
  refine ⟨_, _, pre0 _ ?_, hrun, hended, _, _, rfl, ?_, ⟨_, rfl⟩, hW, hsame.mono (by decide) (by decide)⟩
  · show Steps p.tables e below (s₁.setTop (mkF m 0 #[.val (.ref a1)] [])) _
    refine XS.aloadN X0.here hx rfl (hb hby d2_0) rfl rfl ?_
    show Steps p.tables e below (s₁.setTop (mkF m 1 #[.val (.ref a1)] [(.ref a1)])) _
    refine st3 _ ?_
    show Steps p.tables e below (T3.setTop (mkF m 4 #[.val (.ref a1)] [(.ref w2), (.ref a1)])) _
    refine Jvm.RoadKit.acmp (g := (mkF m 4 #[.val (.ref a1)] [(.ref w2), (.ref a1)])) X3 hx rfl rfl rfl (pc0 := 4) (pc' := 14) (same := true) rfl (hb hby d2_4) rfl (decide_eq_true (congrArg Value.ref ha4)) (by decide) (by decide) ?_
    show Steps p.tables e below (T3.setTop (mkF m 14 #[.val (.ref a1)] [])) _
    refine XS.iconst X3.here hx rfl (hb hby d2_14) ?_
    show Steps p.tables e below (T3.setTop (mkF m 15 #[.val (.ref a1)] [(.int (1 : Int32))])) _
    refine XS.goto X3.here hx rfl (pc0 := 15) (pc' := 19) rfl (hb hby d2_15) (by decide) (by decide) ?_
    show Steps p.tables e below (T3.setTop (mkF m 19 #[.val (.ref a1)] [(.int (1 : Int32))])) _
    exact retN X3 hx (t := .boolean) Bd.returns (by simp) (hb hby d2_19) hr
  · show Q2a Z a1 w2 h0 n0 _ T3.heap _
    rw [e3]
    exact ⟨rfl, N0, rfl⟩
theorem d2_7 : decode prog_105_method_6_code 7 = .ok (.aload_n 0, 1) := by decide +kernel
theorem d2_8 : decode prog_105_method_6_code 8 = .ok (.getstatic 22, 3) := by decide +kernel
theorem d2_11 : decode prog_105_method_6_code 11 = .ok (.if_acmp .ne 7, 3) := by decide +kernel
def Q2b (Z : State) (a1 : Addr) (w2 : Addr) (w4 : Addr) (h0 : Heap) (n0 : Nat) (v : Option Value) (h : Heap) (L : List Loc) : Prop := v = some (.int (1 : Int32)) ∧ Fr n0 L ∧ h = h0
set_option maxRecDepth 65536 in
set_option maxHeartbeats 40000000 in
theorem rm2b (l : Launch) (Z : State) (a0 : Array Value) (hw : ∀ d ∈ tables_1, d.before a0 Z = true) (ws : List Jvm.Cond) (a1 : Addr) (w2 : Addr) (w4 : Addr) (h0 : Heap) (n0 : Nat) (Z0 : n0 ≤ h0.size) (S_FORALL : Sta Z h0 "com/example/banyan/banyan/property/FilterOperator" "FORALL" "Lcom/example/banyan/banyan/property/FilterOperator;" (.ref w2)) (S_EXISTS : Sta Z h0 "com/example/banyan/banyan/property/FilterOperator" "EXISTS" "Lcom/example/banyan/banyan/property/FilterOperator;" (.ref w4)) (ha4 : ¬ (a1 = w2)) (ha11 : a1 = w4) :
    MetFree l (⟨"com/example/banyan/banyan/property/FilterOperator", "givesTruthValue", "()Z"⟩ : MethodName) (head1 (Jvm.Cond.code (⟨"com/example/banyan/banyan/property/FilterOperator", "givesTruthValue", "()Z"⟩ : MethodName) prog_105_method_6_code 1 (some .boolean) :: ws) ({ frames := 0, cells := 0, slots := 0, locals := 0 } : Room)) (fun a U => a = #[(.ref a1)] ∧ Z.Warmed39 U.vm ∧ U.heap = h0) (fun _ _ _ _ _ => True) (fun _ U o U' => ∃ v L, o = .returned v ∧ Q2b Z a1 w2 w4 h0 n0 v U'.heap L ∧ FrameEnd U o U' L ({ frames := 0, cells := 0, slots := 0, locals := 0 } : Room).cells ({ frames := 0, cells := 0, slots := 0, locals := 0 } : Room).slots) := by
  refine MetFree.of_bodySF (plainFor_of_name pn_2) hisR ?_
  intro p e s m args below meth c s₁ Bd hml0 hP hK
  obtain ⟨rfl, hZ, hh⟩ := hP
  have hx := Bd.exec
  have hby := Bd.bytes
  have hml : c.maxLocals = 1 := hml0
  have hown : s.vm.findClass "com/example/banyan/banyan/property/FilterOperator" = some m.cls := findClass_of_methodNamed Bd.named
  have hnm := (name_of_methodNamed Bd.named Bd.method).1
  have X0 : Stand p l e ({ frames := 0, cells := 0, slots := 0, locals := 0 } : Room) s m #[(.ref a1)] below meth c s₁ [] 0 0 := Stand.of_body Bd
  have e0 : s₁.heap = h0 := by rw [← hh, Bd.state]; rfl
  have N0 := Fr.nil n0
  have pre0 : ∀ t, Steps p.tables e below (s₁.setTop (mkF m 0 #[.val (.ref a1)] [])) t → Steps p.tables e below (s₁.setTop (entryFrame m #[(.ref a1)] 1)) t := fun t k => castTop (ef_2 m a1) k
  obtain ⟨T3, X3, e3, st3⟩ := getS2 X0 hx hZ hown (host := "") (Or.inl (hw _ (List.mem_of_getElem? (i := 13) rfl))) Via.refl e0 S_FORALL (g := (mkF m 1 #[.val (.ref a1)] [(.ref a1)])) rfl (hb hby d2_1)
  obtain ⟨T5, X5, e5, st5⟩ := getS2 X3 hx hZ hown (host := "") (Or.inl (hw _ (List.mem_of_getElem? (i := 15) rfl))) Via.refl e3 S_EXISTS (g := (mkF m 8 #[.val (.ref a1)] [(.ref a1)])) rfl (hb hby d2_8)
  obtain ⟨fs, hr, hrun, hended, hW, hsame⟩ := X5.leave (v := some (.int (1 : Int32))) (fun h => by rw [Bd.returns] at h; cases h)
  refine ⟨_, _, pre0 _ ?_, hrun, hended, _, _, rfl, ?_, ⟨_, rfl⟩, hW, hsame.mono (by decide) (by decide)⟩
  · show Steps p.tables e below (s₁.setTop (mkF m 0 #[.val (.ref a1)] [])) _
    refine XS.aloadN X0.here hx rfl (hb hby d2_0) rfl rfl ?_
    show Steps p.tables e below (s₁.setTop (mkF m 1 #[.val (.ref a1)] [(.ref a1)])) _
    refine st3 _ ?_
    show Steps p.tables e below (T3.setTop (mkF m 4 #[.val (.ref a1)] [(.ref w2), (.ref a1)])) _
    refine Jvm.RoadKit.acmp (g := (mkF m 4 #[.val (.ref a1)] [(.ref w2), (.ref a1)])) X3 hx rfl rfl rfl (pc0 := 4) (pc' := 7) (same := false) rfl (hb hby d2_4) rfl (decide_eq_false fun q => ha4 (Value.ref.inj q)) (by decide) (by decide) ?_
    show Steps p.tables e below (T3.setTop (mkF m 7 #[.val (.ref a1)] [])) _
    refine XS.aloadN X3.here hx rfl (hb hby d2_7) rfl rfl ?_
    show Steps p.tables e below (T3.setTop (mkF m 8 #[.val (.ref a1)] [(.ref a1)])) _
    refine st5 _ ?_
    show Steps p.tables e below (T5.setTop (mkF m 11 #[.val (.ref a1)] [(.ref w4), (.ref a1)])) _
    refine Jvm.RoadKit.acmp (g := (mkF m 11 #[.val (.ref a1)] [(.ref w4), (.ref a1)])) X5 hx rfl rfl rfl (pc0 := 11) (pc' := 14) (same := true) rfl (hb hby d2_11) rfl (decide_eq_true (congrArg Value.ref ha11)) (by decide) (by decide) ?_
    show Steps p.tables e below (T5.setTop (mkF m 14 #[.val (.ref a1)] [])) _
    refine XS.iconst X5.here hx rfl (hb hby d2_14) ?_
    show Steps p.tables e below (T5.setTop (mkF m 15 #[.val (.ref a1)] [(.int (1 : Int32))])) _
    refine XS.goto X5.here hx rfl (pc0 := 15) (pc' := 19) rfl (hb hby d2_15) (by decide) (by decide) ?_
    show Steps p.tables e below (T5.setTop (mkF m 19 #[.val (.ref a1)] [(.int (1 : Int32))])) _
    exact retN X5 hx (t := .boolean) Bd.returns (by simp) (hb hby d2_19) hr
  · show Q2b Z a1 w2 w4 h0 n0 _ T5.heap _
    rw [e5]
    exact ⟨rfl, N0, rfl⟩
theorem d2_18 : decode prog_105_method_6_code 18 = .ok (.iconst 0, 1) := by decide +kernel
def Q2c (Z : State) (a1 : Addr) (w2 : Addr) (w4 : Addr) (h0 : Heap) (n0 : Nat) (v : Option Value) (h : Heap) (L : List Loc) : Prop := v = some (.int (0 : Int32)) ∧ Fr n0 L ∧ h = h0
set_option maxRecDepth 65536 in
set_option maxHeartbeats 40000000 in
theorem rm2c (l : Launch) (Z : State) (a0 : Array Value) (hw : ∀ d ∈ tables_1, d.before a0 Z = true) (ws : List Jvm.Cond) (a1 : Addr) (w2 : Addr) (w4 : Addr) (h0 : Heap) (n0 : Nat) (Z0 : n0 ≤ h0.size) (S_FORALL : Sta Z h0 "com/example/banyan/banyan/property/FilterOperator" "FORALL" "Lcom/example/banyan/banyan/property/FilterOperator;" (.ref w2)) (S_EXISTS : Sta Z h0 "com/example/banyan/banyan/property/FilterOperator" "EXISTS" "Lcom/example/banyan/banyan/property/FilterOperator;" (.ref w4)) (ha4 : ¬ (a1 = w2)) (ha11 : ¬ (a1 = w4)) :
    MetFree l (⟨"com/example/banyan/banyan/property/FilterOperator", "givesTruthValue", "()Z"⟩ : MethodName) (head1 (Jvm.Cond.code (⟨"com/example/banyan/banyan/property/FilterOperator", "givesTruthValue", "()Z"⟩ : MethodName) prog_105_method_6_code 1 (some .boolean) :: ws) ({ frames := 0, cells := 0, slots := 0, locals := 0 } : Room)) (fun a U => a = #[(.ref a1)] ∧ Z.Warmed39 U.vm ∧ U.heap = h0) (fun _ _ _ _ _ => True) (fun _ U o U' => ∃ v L, o = .returned v ∧ Q2c Z a1 w2 w4 h0 n0 v U'.heap L ∧ FrameEnd U o U' L ({ frames := 0, cells := 0, slots := 0, locals := 0 } : Room).cells ({ frames := 0, cells := 0, slots := 0, locals := 0 } : Room).slots) := by
  refine MetFree.of_bodySF (plainFor_of_name pn_2) hisR ?_
  intro p e s m args below meth c s₁ Bd hml0 hP hK
  obtain ⟨rfl, hZ, hh⟩ := hP
  have hx := Bd.exec
  have hby := Bd.bytes
  have hml : c.maxLocals = 1 := hml0
  have hown : s.vm.findClass "com/example/banyan/banyan/property/FilterOperator" = some m.cls := findClass_of_methodNamed Bd.named
  have hnm := (name_of_methodNamed Bd.named Bd.method).1
  have X0 : Stand p l e ({ frames := 0, cells := 0, slots := 0, locals := 0 } : Room) s m #[(.ref a1)] below meth c s₁ [] 0 0 := Stand.of_body Bd
  have e0 : s₁.heap = h0 := by rw [← hh, Bd.state]; rfl
  have N0 := Fr.nil n0
  have pre0 : ∀ t, Steps p.tables e below (s₁.setTop (mkF m 0 #[.val (.ref a1)] [])) t → Steps p.tables e below (s₁.setTop (entryFrame m #[(.ref a1)] 1)) t := fun t k => castTop (ef_2 m a1) k
  obtain ⟨T3, X3, e3, st3⟩ := getS2 X0 hx hZ hown (host := "") (Or.inl (hw _ (List.mem_of_getElem? (i := 13) rfl))) Via.refl e0 S_FORALL (g := (mkF m 1 #[.val (.ref a1)] [(.ref a1)])) rfl (hb hby d2_1)
  obtain ⟨T5, X5, e5, st5⟩ := getS2 X3 hx hZ hown (host := "") (Or.inl (hw _ (List.mem_of_getElem? (i := 15) rfl))) Via.refl e3 S_EXISTS (g := (mkF m 8 #[.val (.ref a1)] [(.ref a1)])) rfl (hb hby d2_8)
  obtain ⟨fs, hr, hrun, hended, hW, hsame⟩ := X5.leave (v := some (.int (0 : Int32))) (fun h => by rw [Bd.returns] at h; cases h)
  refine ⟨_, _, pre0 _ ?_, hrun, hended, _, _, rfl, ?_, ⟨_, rfl⟩, hW, hsame.mono (by decide) (by decide)⟩
  · show Steps p.tables e below (s₁.setTop (mkF m 0 #[.val (.ref a1)] [])) _
    refine XS.aloadN X0.here hx rfl (hb hby d2_0) rfl rfl ?_
    show Steps p.tables e below (s₁.setTop (mkF m 1 #[.val (.ref a1)] [(.ref a1)])) _
    refine st3 _ ?_
    show Steps p.tables e below (T3.setTop (mkF m 4 #[.val (.ref a1)] [(.ref w2), (.ref a1)])) _
    refine Jvm.RoadKit.acmp (g := (mkF m 4 #[.val (.ref a1)] [(.ref w2), (.ref a1)])) X3 hx rfl rfl rfl (pc0 := 4) (pc' := 7) (same := false) rfl (hb hby d2_4) rfl (decide_eq_false fun q => ha4 (Value.ref.inj q)) (by decide) (by decide) ?_
    show Steps p.tables e below (T3.setTop (mkF m 7 #[.val (.ref a1)] [])) _
    refine XS.aloadN X3.here hx rfl (hb hby d2_7) rfl rfl ?_
    show Steps p.tables e below (T3.setTop (mkF m 8 #[.val (.ref a1)] [(.ref a1)])) _
    refine st5 _ ?_
    show Steps p.tables e below (T5.setTop (mkF m 11 #[.val (.ref a1)] [(.ref w4), (.ref a1)])) _
    refine Jvm.RoadKit.acmp (g := (mkF m 11 #[.val (.ref a1)] [(.ref w4), (.ref a1)])) X5 hx rfl rfl rfl (pc0 := 11) (pc' := 18) (same := false) rfl (hb hby d2_11) rfl (decide_eq_false fun q => ha11 (Value.ref.inj q)) (by decide) (by decide) ?_
    show Steps p.tables e below (T5.setTop (mkF m 18 #[.val (.ref a1)] [])) _
    refine XS.iconst X5.here hx rfl (hb hby d2_18) ?_
    show Steps p.tables e below (T5.setTop (mkF m 19 #[.val (.ref a1)] [(.int (0 : Int32))])) _
    exact retN X5 hx (t := .boolean) Bd.returns (by simp) (hb hby d2_19) hr
  · show Q2c Z a1 w2 w4 h0 n0 _ T5.heap _
    rw [e5]
    exact ⟨rfl, N0, rfl⟩
theorem d3_0 : decode prog_105_method_5_code 0 = .ok (.aload_n 0, 1) := by decide +kernel
theorem d3_1 : decode prog_105_method_5_code 1 = .ok (.getfield 48, 3) := by decide +kernel
theorem d3_4 : decode prog_105_method_5_code 4 = .ok (.ireturn, 1) := by decide +kernel
theorem pn_3 : plainName "com/example/banyan/banyan/property/FilterOperator" = true := by first | (simp [plainName, overriddenIn]; done) | decide +kernel
theorem ef_3 (m : MethodId) (x0 : Addr) : entryFrame m #[(.ref x0)] 1 = mkF m 0 #[.val (.ref x0)] [] := by first | (simp [entryFrame, mkF, argsToLocals, Value.category]; done) | rfl
def Q3 (Z : State) (a1 : Addr) (h0 : Heap) (n0 : Nat) (v : Option Value) (h : Heap) (L : List Loc) : Prop := v = some (.int (1 : Int32)) ∧ Fr n0 L ∧ h = h0
set_option maxRecDepth 65536 in
set_option maxHeartbeats 40000000 in
theorem rm3 (l : Launch) (Z : State) (a0 : Array Value) (hw : ∀ d ∈ tables_1, d.before a0 Z = true) (ws : List Jvm.Cond) (a1 : Addr) (h0 : Heap) (n0 : Nat) (Z0 : n0 ≤ h0.size) (F_readsTruthValues_a1 : Fld Z h0 a1 "com/example/banyan/banyan/property/FilterOperator" "readsTruthValues" "Z" (.int (1 : Int32))) :
    MetFree l (⟨"com/example/banyan/banyan/property/FilterOperator", "readsTruthValues", "()Z"⟩ : MethodName) (head1 (Jvm.Cond.code (⟨"com/example/banyan/banyan/property/FilterOperator", "readsTruthValues", "()Z"⟩ : MethodName) prog_105_method_5_code 1 (some .boolean) :: ws) ({ frames := 0, cells := 0, slots := 0, locals := 0 } : Room)) (fun a U => a = #[(.ref a1)] ∧ Z.Warmed39 U.vm ∧ U.heap = h0) (fun _ _ _ _ _ => True) (fun _ U o U' => ∃ v L, o = .returned v ∧ Q3 Z a1 h0 n0 v U'.heap L ∧ FrameEnd U o U' L ({ frames := 0, cells := 0, slots := 0, locals := 0 } : Room).cells ({ frames := 0, cells := 0, slots := 0, locals := 0 } : Room).slots) := by
  refine MetFree.of_bodySF (plainFor_of_name pn_3) hisR ?_
  intro p e s m args below meth c s₁ Bd hml0 hP hK
  obtain ⟨rfl, hZ, hh⟩ := hP
  have hx := Bd.exec
  have hby := Bd.bytes
  have hml : c.maxLocals = 1 := hml0
  have hown : s.vm.findClass "com/example/banyan/banyan/property/FilterOperator" = some m.cls := findClass_of_methodNamed Bd.named
  have hnm := (name_of_methodNamed Bd.named Bd.method).1
  have X0 : Stand p l e ({ frames := 0, cells := 0, slots := 0, locals := 0 } : Room) s m #[(.ref a1)] below meth c s₁ [] 0 0 := Stand.of_body Bd
  have e0 : s₁.heap = h0 := by rw [← hh, Bd.state]; rfl
  have N0 := Fr.nil n0
  have pre0 : ∀ t, Steps p.tables e below (s₁.setTop (mkF m 0 #[.val (.ref a1)] [])) t → Steps p.tables e below (s₁.setTop (entryFrame m #[(.ref a1)] 1)) t := fun t k => castTop (ef_3 m a1) k
  obtain ⟨T3, X3, e3, st3⟩ := getF X0 hx hZ hown (host := "") (Or.inl (hw _ (List.mem_of_getElem? (i := 25) rfl))) Via.refl e0 F_readsTruthValues_a1 (g := (mkF m 1 #[.val (.ref a1)] [(.ref a1)])) rfl rfl (hb hby d3_1)
  obtain ⟨fs, hr, hrun, hended, hW, hsame⟩ := X3.leave (v := some (.int (1 : Int32))) (fun h => by rw [Bd.returns] at h; cases h)
  refine ⟨_, _, pre0 _ ?_, hrun, hended, _, _, rfl, ?_, ⟨_, rfl⟩, hW, hsame.mono (by decide) (by decide)⟩
  · show Steps p.tables e below (s₁.setTop (mkF m 0 #[.val (.ref a1)] [])) _
    refine XS.aloadN X0.here hx rfl (hb hby d3_0) rfl rfl ?_
    show Steps p.tables e below (s₁.setTop (mkF m 1 #[.val (.ref a1)] [(.ref a1)])) _
    refine st3 _ ?_
    show Steps p.tables e below (T3.setTop (mkF m 4 #[.val (.ref a1)] [(.int (1 : Int32))])) _
    exact retN X3 hx (t := .boolean) Bd.returns (by simp) (hb hby d3_4) hr
  · show Q3 Z a1 h0 n0 _ T3.heap _
    rw [e3]
    exact ⟨rfl, N0, rfl⟩
def own_Log (a wA wO : Addr) (b : Int32) : Prop := (a = wA ∧ b = 1) ∨ (¬ a = wA ∧ a = wO ∧ b = 1) ∨ (¬ a = wA ∧ ¬ a = wO ∧ b = 0)
def Q_rm2 (Z : State) (a wA wO : Addr) (b : Int32) (h0 : Heap) (n0 : Nat) (v : Option Value) (hp : Heap) (L : List Loc) : Prop := v = some (.int b) ∧ Fr n0 L ∧ hp = h0
set_option maxRecDepth 65536 in
set_option maxHeartbeats 40000000 in
theorem rm2 (l : Launch) (Z : State) (a0 : Array Value) (hw : ∀ d ∈ tables_1, d.before a0 Z = true) (ws : List Jvm.Cond) (a wA wO : Addr) (b : Int32) (h0 : Heap) (n0 : Nat) (Z0 : n0 ≤ h0.size) (SA : Sta Z h0 "com/example/banyan/banyan/property/FilterOperator" "FORALL" "Lcom/example/banyan/banyan/property/FilterOperator;" (.ref wA)) (SO : Sta Z h0 "com/example/banyan/banyan/property/FilterOperator" "EXISTS" "Lcom/example/banyan/banyan/property/FilterOperator;" (.ref wO)) (LG : own_Log a wA wO b) :
    MetFree l (⟨"com/example/banyan/banyan/property/FilterOperator", "givesTruthValue", "()Z"⟩ : MethodName) (head1 (Jvm.Cond.code (⟨"com/example/banyan/banyan/property/FilterOperator", "givesTruthValue", "()Z"⟩ : MethodName) prog_105_method_6_code 1 (some .boolean) :: ws) ({ frames := 0, cells := 0, slots := 0, locals := 0 } : Room)) (fun aa U => aa = #[.ref a] ∧ Z.Warmed39 U.vm ∧ U.heap = h0) (fun _ _ _ _ _ => True) (fun _ U o U' => ∃ v L, o = .returned v ∧ (Q_rm2 Z a wA wO b h0 n0 v U'.heap L) ∧ FrameEnd U o U' L ({ frames := 0, cells := 0, slots := 0, locals := 0 } : Room).cells ({ frames := 0, cells := 0, slots := 0, locals := 0 } : Room).slots) := by
  rcases LG with ⟨h1, rfl⟩ | ⟨h1, h2, rfl⟩ | ⟨h1, h2, rfl⟩
  · exact rm2a l Z a0 hw ws a wA h0 n0 Z0 SA h1
  · exact rm2b l Z a0 hw ws a wA wO h0 n0 Z0 SA SO h1 h2
  · exact rm2c l Z a0 hw ws a wA wO h0 n0 Z0 SA SO h1 h2
theorem pn_0 : plainName "com/example/banyan/banyan/property/FilterOperatorGivesTruthValuePinLaw" = true := by first | (simp [plainName, overriddenIn]; done) | decide +kernel
theorem pd_0_0 : parseMethodDescriptor "(I)Lcom/example/banyan/banyan/property/FilterOperator;" = some ⟨[.int], some (.object "com/example/banyan/banyan/property/FilterOperator")⟩ := by decide +kernel
theorem pd_0_1 : parseMethodDescriptor "()Z" = some ⟨[], some .boolean⟩ := by decide +kernel
theorem ef_0 (m : MethodId) (x0 : Int32) : entryFrame m #[(.int x0)] maxLocals = mkF m 0 #[.val (.int x0), .unset, .unset, .unset, .unset] [] := by first | (simp [entryFrame, mkF, argsToLocals, Value.category, maxLocals]; done) | rfl
def Q0a (Z : State) (p1 : Int32) (h0 : Heap) (n0 : Nat) (v : Option Value) (h : Heap) (L : List Loc) : Prop := v = some (.int (1 : Int32)) ∧ Fr n0 L
set_option maxRecDepth 65536 in
set_option maxHeartbeats 40000000 in
theorem rm0a (l : Launch) (Z : State) (a0 : Array Value) (hw : ∀ d ∈ tables_1, d.before a0 Z = true) (ws : List Jvm.Cond) (p1 k : Int32) (w wA wO : Addr) (b : Int32) (h0 : Heap) (n0 : Nat) (Z0 : n0 ≤ h0.size) (hk : ((p1 &&& (2147483647 : Int32)) % (7 : Int32)) = k) (hb1 : ((k = 5 ∧ b = 1) ∨ (¬ k = 5 ∧ k = 6 ∧ b = 1) ∨ (¬ k = 5 ∧ ¬ k = 6 ∧ b = 0))) (PK : own_Pick Z h0 k w) (E_w : Exa Z h0 w "com/example/banyan/banyan/property/FilterOperator") (SA : Sta Z h0 "com/example/banyan/banyan/property/FilterOperator" "FORALL" "Lcom/example/banyan/banyan/property/FilterOperator;" (.ref wA)) (SO : Sta Z h0 "com/example/banyan/banyan/property/FilterOperator" "EXISTS" "Lcom/example/banyan/banyan/property/FilterOperator;" (.ref wO)) (LG : own_Log w wA wO b) (hb0 : b = 0) :
    MetFree l x (head1 (Jvm.Cond.code x code maxLocals ret :: ws) room_1) (fun a U => a = #[(.int p1)] ∧ Z.Warmed39 U.vm ∧ U.heap = h0) (fun _ _ _ _ _ => True) (fun _ U o U' => ∃ v L, o = .returned v ∧ Q0a Z p1 h0 n0 v U'.heap L ∧ FrameEnd U o U' L room_1.cells room_1.slots) := by
  refine MetFree.of_bodySF (plainFor_of_name pn_0) hisR ?_
  intro p e s m args below meth c s₁ Bd hml0 hP hK
  obtain ⟨rfl, hZ, hh⟩ := hP
  have hx := Bd.exec
  have hby := Bd.bytes
  have hml : c.maxLocals = 5 := hml0
  have hown : s.vm.findClass "com/example/banyan/banyan/property/FilterOperatorGivesTruthValuePinLaw" = some m.cls := findClass_of_methodNamed Bd.named
  have hnm := (name_of_methodNamed Bd.named Bd.method).1
  have X0 : Stand p l e room_1 s m #[(.int p1)] below meth c s₁ [] 0 0 := Stand.of_body Bd
  have e0 : s₁.heap = h0 := by rw [← hh, Bd.state]; rfl
  have N0 := Fr.nil n0
  have pre0 : ∀ t, Steps p.tables e below (s₁.setTop (mkF m 0 #[.val (.int p1), .unset, .unset, .unset, .unset] [])) t → Steps p.tables e below (s₁.setTop (entryFrame m #[(.int p1)] maxLocals)) t := fun t k => castTop (ef_0 m p1) k
  obtain ⟨_, _, ⟨T2, L2, k2, n2⟩, -, X2, ⟨Lc2, hQ2, l2, y2, z2⟩, st2⟩ := Jvm.LawKit.callS X0 hx (y := (⟨"com/example/banyan/banyan/property/FilterOperatorGivesTruthValuePinLaw", "pick", "(I)Lcom/example/banyan/banyan/property/FilterOperator;"⟩ : MethodName)) hown (mvT hZ (hw _ (List.mem_of_getElem? (i := 1) rfl))) (mvT hZ (hw _ (List.mem_of_getElem? (i := 2) rfl))) (mvT hZ (hw _ (List.mem_of_getElem? (i := 3) rfl))) (mvT hZ (hw _ (List.mem_of_getElem? (i := 4) rfl))) (by decide) (backOf (W := 0) (rm1 l Z a0 hw [] k w h0 n0 Z0 PK) hZ (hw _ (List.mem_of_getElem? (i := 4) rfl)) (hw _ (List.mem_of_getElem? (i := 3) rfl)) (by decide) (by decide)) (g := (mkF m 9 #[.val (.int p1), .val (.int k), .unset, .unset, .unset] [(.int k)])) rfl (by rw [hml]; rfl) (argsL := [(.int k)]) (rest := []) (lenOf pd_0_0 rfl) rfl (by show 2 * 0 + _ ≤ _; exact Nat.le_of_eq rfl) (hb hby at_9) (fun _ _ => ⟨rfl, e0, (by decide : 0 + 0 ≤ _), (by decide : 0 + 0 ≤ _)⟩)
  dsimp only [Pt.U, Pt.locs, Pt.cells, Pt.slots] at X2 l2 y2 z2 st2 hQ2
  subst l2 y2 z2
  obtain ⟨rfl, N2q, eh2⟩ := hQ2
  have N2 := Fr.app N0 N2q
  obtain ⟨cq3, kq3, q3a, q3b, q3c⟩ := isOf hZ eh2 E_w
  obtain ⟨_, _, ⟨T3, L3, k3, n3⟩, -, X3, ⟨Lc3, hQ3, l3, y3, z3⟩, st3⟩ := X2.virtualBack hx (y := (⟨"com/example/banyan/banyan/property/FilterOperator", "givesTruthValue", "()Z"⟩ : MethodName)) (z := (⟨"com/example/banyan/banyan/property/FilterOperator", "givesTruthValue", "()Z"⟩ : MethodName)) hown (mvT hZ (hw _ (List.mem_of_getElem? (i := 8) rfl))) (mvT hZ (hw _ (List.mem_of_getElem? (i := 9) rfl))) (notFace_of_selects (args := #[]) (mvT hZ (hw _ (List.mem_of_getElem? (i := 11) rfl)))) (mvT hZ (hw _ (List.mem_of_getElem? (i := 11) rfl))) (mvT hZ (hw _ (List.mem_of_getElem? (i := 10) rfl))) (by decide) (backOf (W := 0) (rm2 l Z a0 hw [] w wA wO b h0 n0 Z0 SA SO LG) hZ (hw _ (List.mem_of_getElem? (i := 12) rfl)) (hw _ (List.mem_of_getElem? (i := 6) rfl)) (by decide) (by decide)) q3a q3c (g := (mkF m 31 #[.val (.int p1), .val (.int k), .val (.ref w), .val (.int b), .unset] [(.ref w)])) rfl (by rw [hml]; rfl) (Steps.refl _) (argsL := []) (rest := []) (lenOf pd_0_1 rfl) rfl (by show 2 * 0 + _ ≤ _; exact Nat.le_of_eq rfl) (hb hby at_31) (fun _ _ => ⟨rfl, eh2, (by decide : 0 + 0 ≤ _), (by decide : 0 + 0 ≤ _)⟩)
  dsimp only [Pt.U, Pt.locs, Pt.cells, Pt.slots] at X3 l3 y3 z3 st3 hQ3
  subst l3 y3 z3
  obtain ⟨rfl, N3q, eh3⟩ := hQ3
  have N3 := Fr.app N2 N3q
  have mid : ∀ target, Steps p.tables e below (T2.setTop (mkF m 30 #[.val (.int p1), .val (.int k), .val (.ref w), .val (.int b), .unset] [])) target → Steps p.tables e below (T2.setTop (mkF m 13 #[.val (.int p1), .val (.int k), .val (.ref w), .unset, .unset] [])) target := by
    intro target r
    have hA := X2.here
    refine XS.iloadN hA hx rfl (hb hby at_13) rfl ?_
    show Steps p.tables e below (T2.setTop (mkF m 14 #[.val (.int p1), .val (.int k), .val (.ref w), .unset, .unset] [.int k])) _
    refine XS.iconst hA hx rfl (hb hby at_14) ?_
    show Steps p.tables e below (T2.setTop (mkF m 15 #[.val (.int p1), .val (.int k), .val (.ref w), .unset, .unset] [.int (5 : Int32), .int k])) _
    rcases hb1 with ⟨h, rfl⟩ | ⟨h, h', rfl⟩ | ⟨h, h', rfl⟩
    · refine XS.icmpYes hA hx rfl (pc0 := 15) (pc' := 24) rfl (hb hby at_15) rfl (teq h).1 (by decide) (by decide) ?_
      refine XS.iconst hA hx rfl (hb hby at_24) ?_
      show Steps p.tables e below (T2.setTop (mkF m 25 #[.val (.int p1), .val (.int k), .val (.ref w), .unset, .unset] [.int (1 : Int32)])) _
      refine XS.goto hA hx rfl (pc0 := 25) (pc' := 29) rfl (hb hby at_25) (by decide) (by decide) ?_
      exact XS.istoreN hA hx rfl (hb hby at_29) rfl (l' := #[.val (.int p1), .val (.int k), .val (.ref w), .val (.int (1 : Int32)), .unset]) rfl r
    · refine XS.icmpNo hA hx rfl (hb hby at_15) rfl (feq h).1 ?_
      refine XS.iloadN hA hx rfl (hb hby at_18) rfl ?_
      show Steps p.tables e below (T2.setTop (mkF m 19 #[.val (.int p1), .val (.int k), .val (.ref w), .unset, .unset] [.int k])) _
      refine XS.bipush hA hx rfl (hb hby at_19) ?_
      show Steps p.tables e below (T2.setTop (mkF m 21 #[.val (.int p1), .val (.int k), .val (.ref w), .unset, .unset] [.int (6 : Int32), .int k])) _
      refine XS.icmpNo hA hx rfl (hb hby at_21) rfl (teq h').2 ?_
      refine XS.iconst hA hx rfl (hb hby at_24) ?_
      show Steps p.tables e below (T2.setTop (mkF m 25 #[.val (.int p1), .val (.int k), .val (.ref w), .unset, .unset] [.int (1 : Int32)])) _
      refine XS.goto hA hx rfl (pc0 := 25) (pc' := 29) rfl (hb hby at_25) (by decide) (by decide) ?_
      exact XS.istoreN hA hx rfl (hb hby at_29) rfl (l' := #[.val (.int p1), .val (.int k), .val (.ref w), .val (.int (1 : Int32)), .unset]) rfl r
    · refine XS.icmpNo hA hx rfl (hb hby at_15) rfl (feq h).1 ?_
      refine XS.iloadN hA hx rfl (hb hby at_18) rfl ?_
      show Steps p.tables e below (T2.setTop (mkF m 19 #[.val (.int p1), .val (.int k), .val (.ref w), .unset, .unset] [.int k])) _
      refine XS.bipush hA hx rfl (hb hby at_19) ?_
      show Steps p.tables e below (T2.setTop (mkF m 21 #[.val (.int p1), .val (.int k), .val (.ref w), .unset, .unset] [.int (6 : Int32), .int k])) _
      refine XS.icmpYes hA hx rfl (pc0 := 21) (pc' := 28) rfl (hb hby at_21) rfl (feq h').2 (by decide) (by decide) ?_
      refine XS.iconst hA hx rfl (hb hby at_28) ?_
      exact XS.istoreN hA hx rfl (hb hby at_29) rfl (l' := #[.val (.int p1), .val (.int k), .val (.ref w), .val (.int (0 : Int32)), .unset]) rfl r
  obtain ⟨fs, hr, hrun, hended, hW, hsame⟩ := X3.leave (v := some (.int (1 : Int32))) (fun h => by rw [Bd.returns] at h; cases h)
  refine ⟨_, _, pre0 _ ?_, hrun, hended, _, _, rfl, ?_, ⟨_, rfl⟩, hW, hsame.mono (by decide) (by decide)⟩
  · show Steps p.tables e below (s₁.setTop (mkF m 0 #[.val (.int p1), .unset, .unset, .unset, .unset] [])) _
    refine XS.iloadN X0.here hx rfl (hb hby at_0) rfl ?_
    show Steps p.tables e below (s₁.setTop (mkF m 1 #[.val (.int p1), .unset, .unset, .unset, .unset] [(.int p1)])) _
    refine X0.ldcInt hx hown (mvT hZ (hw _ (List.mem_of_getElem? (i := 0) rfl))) (g := (mkF m 1 #[.val (.int p1), .unset, .unset, .unset, .unset] [(.int p1)])) rfl (hb hby at_1) _ ?_
    show Steps p.tables e below (s₁.setTop (mkF m 3 #[.val (.int p1), .unset, .unset, .unset, .unset] [(.int (2147483647 : Int32)), (.int p1)])) _
    refine XS.iand X0.here hx rfl (hb hby at_3) rfl ?_
    show Steps p.tables e below (s₁.setTop (mkF m 4 #[.val (.int p1), .unset, .unset, .unset, .unset] [(.int (p1 &&& (2147483647 : Int32)))])) _
    refine XS.bipush X0.here hx rfl (hb hby at_4) ?_
    show Steps p.tables e below (s₁.setTop (mkF m 6 #[.val (.int p1), .unset, .unset, .unset, .unset] [(.int (7 : Int32)), (.int (p1 &&& (2147483647 : Int32)))])) _
    refine iremM X0 hx rfl (hb hby at_6) rfl (by decide) ?_
    rw [hk]
    show Steps p.tables e below (s₁.setTop (mkF m 7 #[.val (.int p1), .unset, .unset, .unset, .unset] [(.int k)])) _
    refine XS.istoreN X0.here hx rfl (hb hby at_7) rfl (l' := #[.val (.int p1), .val (.int k), .unset, .unset, .unset]) rfl ?_
    show Steps p.tables e below (s₁.setTop (mkF m 8 #[.val (.int p1), .val (.int k), .unset, .unset, .unset] [])) _
    refine XS.iloadN X0.here hx rfl (hb hby at_8) rfl ?_
    show Steps p.tables e below (s₁.setTop (mkF m 9 #[.val (.int p1), .val (.int k), .unset, .unset, .unset] [(.int k)])) _
    refine st2 _ ?_
    show Steps p.tables e below (T2.setTop (mkF m 12 #[.val (.int p1), .val (.int k), .unset, .unset, .unset] [(.ref w)])) _
    refine XS.astoreN X2.here hx rfl (hb hby at_12) rfl rfl (l' := #[.val (.int p1), .val (.int k), .val (.ref w), .unset, .unset]) rfl ?_
    show Steps p.tables e below (T2.setTop (mkF m 13 #[.val (.int p1), .val (.int k), .val (.ref w), .unset, .unset] [])) _
    refine mid _ ?_
    show Steps p.tables e below (T2.setTop (mkF m 30 #[.val (.int p1), .val (.int k), .val (.ref w), .val (.int b), .unset] [])) _
    refine XS.aloadN X2.here hx rfl (hb hby at_30) rfl rfl ?_
    show Steps p.tables e below (T2.setTop (mkF m 31 #[.val (.int p1), .val (.int k), .val (.ref w), .val (.int b), .unset] [(.ref w)])) _
    refine st3.trans ?_
    show Steps p.tables e below (T3.setTop (mkF m 34 #[.val (.int p1), .val (.int k), .val (.ref w), .val (.int b), .unset] [(.int b)])) _
    refine XS.istore X3.here hx rfl (hb hby at_34) rfl (l' := #[.val (.int p1), .val (.int k), .val (.ref w), .val (.int b), .val (.int b)]) rfl ?_
    show Steps p.tables e below (T3.setTop (mkF m 36 #[.val (.int p1), .val (.int k), .val (.ref w), .val (.int b), .val (.int b)] [])) _
    refine XS.iload X3.here hx rfl (hb hby at_36) rfl ?_
    show Steps p.tables e below (T3.setTop (mkF m 38 #[.val (.int p1), .val (.int k), .val (.ref w), .val (.int b), .val (.int b)] [(.int b)])) _
    refine XS.iloadN X3.here hx rfl (hb hby at_38) rfl ?_
    show Steps p.tables e below (T3.setTop (mkF m 39 #[.val (.int p1), .val (.int k), .val (.ref w), .val (.int b), .val (.int b)] [(.int b), (.int b)])) _
    refine XS.icmpYes X3.here hx rfl (pc0 := 39) (pc' := 44) rfl (hb hby at_39) rfl (teq (rfl : b = b)).1 (by decide) (by decide) ?_
    show Steps p.tables e below (T3.setTop (mkF m 44 #[.val (.int p1), .val (.int k), .val (.ref w), .val (.int b), .val (.int b)] [])) _
    refine XS.iload X3.here hx rfl (hb hby at_44) rfl ?_
    show Steps p.tables e below (T3.setTop (mkF m 46 #[.val (.int p1), .val (.int k), .val (.ref w), .val (.int b), .val (.int b)] [(.int b)])) _
    refine XS.ifYes X3.here hx rfl (pc0 := 46) (pc' := 58) rfl (hb hby at_46) rfl ((if0 _ _).trans (teq hb0).1) (by decide) (by decide) ?_
    show Steps p.tables e below (T3.setTop (mkF m 58 #[.val (.int p1), .val (.int k), .val (.ref w), .val (.int b), .val (.int b)] [])) _
    refine XS.iconst X3.here hx rfl (hb hby at_58) ?_
    show Steps p.tables e below (T3.setTop (mkF m 59 #[.val (.int p1), .val (.int k), .val (.ref w), .val (.int b), .val (.int b)] [(.int (1 : Int32))])) _
    exact retN X3 hx (t := .boolean) Bd.returns (by simp) (hb hby at_59) hr
  · show Q0a Z p1 h0 n0 _ T3.heap _
    exact ⟨rfl, N3⟩

def Q0b (Z : State) (p1 : Int32) (h0 : Heap) (n0 : Nat) (v : Option Value) (h : Heap) (L : List Loc) : Prop := v = some (.int (1 : Int32)) ∧ Fr n0 L
set_option maxRecDepth 65536 in
set_option maxHeartbeats 40000000 in
theorem rm0b (l : Launch) (Z : State) (a0 : Array Value) (hw : ∀ d ∈ tables_1, d.before a0 Z = true) (ws : List Jvm.Cond) (p1 k : Int32) (w wA wO : Addr) (b : Int32) (h0 : Heap) (n0 : Nat) (Z0 : n0 ≤ h0.size) (hk : ((p1 &&& (2147483647 : Int32)) % (7 : Int32)) = k) (hb1 : ((k = 5 ∧ b = 1) ∨ (¬ k = 5 ∧ k = 6 ∧ b = 1) ∨ (¬ k = 5 ∧ ¬ k = 6 ∧ b = 0))) (PK : own_Pick Z h0 k w) (E_w : Exa Z h0 w "com/example/banyan/banyan/property/FilterOperator") (SA : Sta Z h0 "com/example/banyan/banyan/property/FilterOperator" "FORALL" "Lcom/example/banyan/banyan/property/FilterOperator;" (.ref wA)) (SO : Sta Z h0 "com/example/banyan/banyan/property/FilterOperator" "EXISTS" "Lcom/example/banyan/banyan/property/FilterOperator;" (.ref wO)) (LG : own_Log w wA wO b) (hb0 : ¬ b = 0) (FR : Fld Z h0 w "com/example/banyan/banyan/property/FilterOperator" "readsTruthValues" "Z" (.int (1 : Int32))) :
    MetFree l x (head1 (Jvm.Cond.code x code maxLocals ret :: ws) room_1) (fun a U => a = #[(.int p1)] ∧ Z.Warmed39 U.vm ∧ U.heap = h0) (fun _ _ _ _ _ => True) (fun _ U o U' => ∃ v L, o = .returned v ∧ Q0b Z p1 h0 n0 v U'.heap L ∧ FrameEnd U o U' L room_1.cells room_1.slots) := by
  refine MetFree.of_bodySF (plainFor_of_name pn_0) hisR ?_
  intro p e s m args below meth c s₁ Bd hml0 hP hK
  obtain ⟨rfl, hZ, hh⟩ := hP
  have hx := Bd.exec
  have hby := Bd.bytes
  have hml : c.maxLocals = 5 := hml0
  have hown : s.vm.findClass "com/example/banyan/banyan/property/FilterOperatorGivesTruthValuePinLaw" = some m.cls := findClass_of_methodNamed Bd.named
  have hnm := (name_of_methodNamed Bd.named Bd.method).1
  have X0 : Stand p l e room_1 s m #[(.int p1)] below meth c s₁ [] 0 0 := Stand.of_body Bd
  have e0 : s₁.heap = h0 := by rw [← hh, Bd.state]; rfl
  have N0 := Fr.nil n0
  have pre0 : ∀ t, Steps p.tables e below (s₁.setTop (mkF m 0 #[.val (.int p1), .unset, .unset, .unset, .unset] [])) t → Steps p.tables e below (s₁.setTop (entryFrame m #[(.int p1)] maxLocals)) t := fun t k => castTop (ef_0 m p1) k
  obtain ⟨_, _, ⟨T2, L2, k2, n2⟩, -, X2, ⟨Lc2, hQ2, l2, y2, z2⟩, st2⟩ := Jvm.LawKit.callS X0 hx (y := (⟨"com/example/banyan/banyan/property/FilterOperatorGivesTruthValuePinLaw", "pick", "(I)Lcom/example/banyan/banyan/property/FilterOperator;"⟩ : MethodName)) hown (mvT hZ (hw _ (List.mem_of_getElem? (i := 1) rfl))) (mvT hZ (hw _ (List.mem_of_getElem? (i := 2) rfl))) (mvT hZ (hw _ (List.mem_of_getElem? (i := 3) rfl))) (mvT hZ (hw _ (List.mem_of_getElem? (i := 4) rfl))) (by decide) (backOf (W := 0) (rm1 l Z a0 hw [] k w h0 n0 Z0 PK) hZ (hw _ (List.mem_of_getElem? (i := 4) rfl)) (hw _ (List.mem_of_getElem? (i := 3) rfl)) (by decide) (by decide)) (g := (mkF m 9 #[.val (.int p1), .val (.int k), .unset, .unset, .unset] [(.int k)])) rfl (by rw [hml]; rfl) (argsL := [(.int k)]) (rest := []) (lenOf pd_0_0 rfl) rfl (by show 2 * 0 + _ ≤ _; exact Nat.le_of_eq rfl) (hb hby at_9) (fun _ _ => ⟨rfl, e0, (by decide : 0 + 0 ≤ _), (by decide : 0 + 0 ≤ _)⟩)
  dsimp only [Pt.U, Pt.locs, Pt.cells, Pt.slots] at X2 l2 y2 z2 st2 hQ2
  subst l2 y2 z2
  obtain ⟨rfl, N2q, eh2⟩ := hQ2
  have N2 := Fr.app N0 N2q
  obtain ⟨cq3, kq3, q3a, q3b, q3c⟩ := isOf hZ eh2 E_w
  obtain ⟨_, _, ⟨T3, L3, k3, n3⟩, -, X3, ⟨Lc3, hQ3, l3, y3, z3⟩, st3⟩ := X2.virtualBack hx (y := (⟨"com/example/banyan/banyan/property/FilterOperator", "givesTruthValue", "()Z"⟩ : MethodName)) (z := (⟨"com/example/banyan/banyan/property/FilterOperator", "givesTruthValue", "()Z"⟩ : MethodName)) hown (mvT hZ (hw _ (List.mem_of_getElem? (i := 8) rfl))) (mvT hZ (hw _ (List.mem_of_getElem? (i := 9) rfl))) (notFace_of_selects (args := #[]) (mvT hZ (hw _ (List.mem_of_getElem? (i := 11) rfl)))) (mvT hZ (hw _ (List.mem_of_getElem? (i := 11) rfl))) (mvT hZ (hw _ (List.mem_of_getElem? (i := 10) rfl))) (by decide) (backOf (W := 0) (rm2 l Z a0 hw [] w wA wO b h0 n0 Z0 SA SO LG) hZ (hw _ (List.mem_of_getElem? (i := 12) rfl)) (hw _ (List.mem_of_getElem? (i := 6) rfl)) (by decide) (by decide)) q3a q3c (g := (mkF m 31 #[.val (.int p1), .val (.int k), .val (.ref w), .val (.int b), .unset] [(.ref w)])) rfl (by rw [hml]; rfl) (Steps.refl _) (argsL := []) (rest := []) (lenOf pd_0_1 rfl) rfl (by show 2 * 0 + _ ≤ _; exact Nat.le_of_eq rfl) (hb hby at_31) (fun _ _ => ⟨rfl, eh2, (by decide : 0 + 0 ≤ _), (by decide : 0 + 0 ≤ _)⟩)
  dsimp only [Pt.U, Pt.locs, Pt.cells, Pt.slots] at X3 l3 y3 z3 st3 hQ3
  subst l3 y3 z3
  obtain ⟨rfl, N3q, eh3⟩ := hQ3
  have N3 := Fr.app N2 N3q
  obtain ⟨cq4, kq4, q4a, q4b, q4c⟩ := isOf hZ eh3 E_w
  obtain ⟨_, _, ⟨T4, L4, k4, n4⟩, -, X4, ⟨Lc4, hQ4, l4, y4, z4⟩, st4⟩ := X3.virtualBack hx (y := (⟨"com/example/banyan/banyan/property/FilterOperator", "readsTruthValues", "()Z"⟩ : MethodName)) (z := (⟨"com/example/banyan/banyan/property/FilterOperator", "readsTruthValues", "()Z"⟩ : MethodName)) hown (mvT hZ (hw _ (List.mem_of_getElem? (i := 20) rfl))) (mvT hZ (hw _ (List.mem_of_getElem? (i := 21) rfl))) (notFace_of_selects (args := #[]) (mvT hZ (hw _ (List.mem_of_getElem? (i := 23) rfl)))) (mvT hZ (hw _ (List.mem_of_getElem? (i := 23) rfl))) (mvT hZ (hw _ (List.mem_of_getElem? (i := 22) rfl))) (by decide) (backOf (W := 0) (rm3 l Z a0 hw [] w h0 n0 Z0 FR) hZ (hw _ (List.mem_of_getElem? (i := 24) rfl)) (hw _ (List.mem_of_getElem? (i := 6) rfl)) (by decide) (by decide)) q4a q4c (g := (mkF m 50 #[.val (.int p1), .val (.int k), .val (.ref w), .val (.int b), .val (.int b)] [(.ref w)])) rfl (by rw [hml]; rfl) (Steps.refl _) (argsL := []) (rest := []) (lenOf pd_0_1 rfl) rfl (by show 2 * 0 + _ ≤ _; exact Nat.le_of_eq rfl) (hb hby at_50) (fun _ _ => ⟨rfl, eh3, (by decide : 0 + 0 ≤ _), (by decide : 0 + 0 ≤ _)⟩)
  dsimp only [Pt.U, Pt.locs, Pt.cells, Pt.slots] at X4 l4 y4 z4 st4 hQ4
  subst l4 y4 z4
  obtain ⟨rfl, N4q, eh4⟩ := hQ4
  have N4 := Fr.app N3 N4q
  have mid : ∀ target, Steps p.tables e below (T2.setTop (mkF m 30 #[.val (.int p1), .val (.int k), .val (.ref w), .val (.int b), .unset] [])) target → Steps p.tables e below (T2.setTop (mkF m 13 #[.val (.int p1), .val (.int k), .val (.ref w), .unset, .unset] [])) target := by
    intro target r
    have hA := X2.here
    refine XS.iloadN hA hx rfl (hb hby at_13) rfl ?_
    show Steps p.tables e below (T2.setTop (mkF m 14 #[.val (.int p1), .val (.int k), .val (.ref w), .unset, .unset] [.int k])) _
    refine XS.iconst hA hx rfl (hb hby at_14) ?_
    show Steps p.tables e below (T2.setTop (mkF m 15 #[.val (.int p1), .val (.int k), .val (.ref w), .unset, .unset] [.int (5 : Int32), .int k])) _
    rcases hb1 with ⟨h, rfl⟩ | ⟨h, h', rfl⟩ | ⟨h, h', rfl⟩
    · refine XS.icmpYes hA hx rfl (pc0 := 15) (pc' := 24) rfl (hb hby at_15) rfl (teq h).1 (by decide) (by decide) ?_
      refine XS.iconst hA hx rfl (hb hby at_24) ?_
      show Steps p.tables e below (T2.setTop (mkF m 25 #[.val (.int p1), .val (.int k), .val (.ref w), .unset, .unset] [.int (1 : Int32)])) _
      refine XS.goto hA hx rfl (pc0 := 25) (pc' := 29) rfl (hb hby at_25) (by decide) (by decide) ?_
      exact XS.istoreN hA hx rfl (hb hby at_29) rfl (l' := #[.val (.int p1), .val (.int k), .val (.ref w), .val (.int (1 : Int32)), .unset]) rfl r
    · refine XS.icmpNo hA hx rfl (hb hby at_15) rfl (feq h).1 ?_
      refine XS.iloadN hA hx rfl (hb hby at_18) rfl ?_
      show Steps p.tables e below (T2.setTop (mkF m 19 #[.val (.int p1), .val (.int k), .val (.ref w), .unset, .unset] [.int k])) _
      refine XS.bipush hA hx rfl (hb hby at_19) ?_
      show Steps p.tables e below (T2.setTop (mkF m 21 #[.val (.int p1), .val (.int k), .val (.ref w), .unset, .unset] [.int (6 : Int32), .int k])) _
      refine XS.icmpNo hA hx rfl (hb hby at_21) rfl (teq h').2 ?_
      refine XS.iconst hA hx rfl (hb hby at_24) ?_
      show Steps p.tables e below (T2.setTop (mkF m 25 #[.val (.int p1), .val (.int k), .val (.ref w), .unset, .unset] [.int (1 : Int32)])) _
      refine XS.goto hA hx rfl (pc0 := 25) (pc' := 29) rfl (hb hby at_25) (by decide) (by decide) ?_
      exact XS.istoreN hA hx rfl (hb hby at_29) rfl (l' := #[.val (.int p1), .val (.int k), .val (.ref w), .val (.int (1 : Int32)), .unset]) rfl r
    · refine XS.icmpNo hA hx rfl (hb hby at_15) rfl (feq h).1 ?_
      refine XS.iloadN hA hx rfl (hb hby at_18) rfl ?_
      show Steps p.tables e below (T2.setTop (mkF m 19 #[.val (.int p1), .val (.int k), .val (.ref w), .unset, .unset] [.int k])) _
      refine XS.bipush hA hx rfl (hb hby at_19) ?_
      show Steps p.tables e below (T2.setTop (mkF m 21 #[.val (.int p1), .val (.int k), .val (.ref w), .unset, .unset] [.int (6 : Int32), .int k])) _
      refine XS.icmpYes hA hx rfl (pc0 := 21) (pc' := 28) rfl (hb hby at_21) rfl (feq h').2 (by decide) (by decide) ?_
      refine XS.iconst hA hx rfl (hb hby at_28) ?_
      exact XS.istoreN hA hx rfl (hb hby at_29) rfl (l' := #[.val (.int p1), .val (.int k), .val (.ref w), .val (.int (0 : Int32)), .unset]) rfl r
  obtain ⟨fs, hr, hrun, hended, hW, hsame⟩ := X4.leave (v := some (.int (1 : Int32))) (fun h => by rw [Bd.returns] at h; cases h)
  refine ⟨_, _, pre0 _ ?_, hrun, hended, _, _, rfl, ?_, ⟨_, rfl⟩, hW, hsame.mono (by decide) (by decide)⟩
  · show Steps p.tables e below (s₁.setTop (mkF m 0 #[.val (.int p1), .unset, .unset, .unset, .unset] [])) _
    refine XS.iloadN X0.here hx rfl (hb hby at_0) rfl ?_
    show Steps p.tables e below (s₁.setTop (mkF m 1 #[.val (.int p1), .unset, .unset, .unset, .unset] [(.int p1)])) _
    refine X0.ldcInt hx hown (mvT hZ (hw _ (List.mem_of_getElem? (i := 0) rfl))) (g := (mkF m 1 #[.val (.int p1), .unset, .unset, .unset, .unset] [(.int p1)])) rfl (hb hby at_1) _ ?_
    show Steps p.tables e below (s₁.setTop (mkF m 3 #[.val (.int p1), .unset, .unset, .unset, .unset] [(.int (2147483647 : Int32)), (.int p1)])) _
    refine XS.iand X0.here hx rfl (hb hby at_3) rfl ?_
    show Steps p.tables e below (s₁.setTop (mkF m 4 #[.val (.int p1), .unset, .unset, .unset, .unset] [(.int (p1 &&& (2147483647 : Int32)))])) _
    refine XS.bipush X0.here hx rfl (hb hby at_4) ?_
    show Steps p.tables e below (s₁.setTop (mkF m 6 #[.val (.int p1), .unset, .unset, .unset, .unset] [(.int (7 : Int32)), (.int (p1 &&& (2147483647 : Int32)))])) _
    refine iremM X0 hx rfl (hb hby at_6) rfl (by decide) ?_
    rw [hk]
    show Steps p.tables e below (s₁.setTop (mkF m 7 #[.val (.int p1), .unset, .unset, .unset, .unset] [(.int k)])) _
    refine XS.istoreN X0.here hx rfl (hb hby at_7) rfl (l' := #[.val (.int p1), .val (.int k), .unset, .unset, .unset]) rfl ?_
    show Steps p.tables e below (s₁.setTop (mkF m 8 #[.val (.int p1), .val (.int k), .unset, .unset, .unset] [])) _
    refine XS.iloadN X0.here hx rfl (hb hby at_8) rfl ?_
    show Steps p.tables e below (s₁.setTop (mkF m 9 #[.val (.int p1), .val (.int k), .unset, .unset, .unset] [(.int k)])) _
    refine st2 _ ?_
    show Steps p.tables e below (T2.setTop (mkF m 12 #[.val (.int p1), .val (.int k), .unset, .unset, .unset] [(.ref w)])) _
    refine XS.astoreN X2.here hx rfl (hb hby at_12) rfl rfl (l' := #[.val (.int p1), .val (.int k), .val (.ref w), .unset, .unset]) rfl ?_
    show Steps p.tables e below (T2.setTop (mkF m 13 #[.val (.int p1), .val (.int k), .val (.ref w), .unset, .unset] [])) _
    refine mid _ ?_
    show Steps p.tables e below (T2.setTop (mkF m 30 #[.val (.int p1), .val (.int k), .val (.ref w), .val (.int b), .unset] [])) _
    refine XS.aloadN X2.here hx rfl (hb hby at_30) rfl rfl ?_
    show Steps p.tables e below (T2.setTop (mkF m 31 #[.val (.int p1), .val (.int k), .val (.ref w), .val (.int b), .unset] [(.ref w)])) _
    refine st3.trans ?_
    show Steps p.tables e below (T3.setTop (mkF m 34 #[.val (.int p1), .val (.int k), .val (.ref w), .val (.int b), .unset] [(.int b)])) _
    refine XS.istore X3.here hx rfl (hb hby at_34) rfl (l' := #[.val (.int p1), .val (.int k), .val (.ref w), .val (.int b), .val (.int b)]) rfl ?_
    show Steps p.tables e below (T3.setTop (mkF m 36 #[.val (.int p1), .val (.int k), .val (.ref w), .val (.int b), .val (.int b)] [])) _
    refine XS.iload X3.here hx rfl (hb hby at_36) rfl ?_
    show Steps p.tables e below (T3.setTop (mkF m 38 #[.val (.int p1), .val (.int k), .val (.ref w), .val (.int b), .val (.int b)] [(.int b)])) _
    refine XS.iloadN X3.here hx rfl (hb hby at_38) rfl ?_
    show Steps p.tables e below (T3.setTop (mkF m 39 #[.val (.int p1), .val (.int k), .val (.ref w), .val (.int b), .val (.int b)] [(.int b), (.int b)])) _
    refine XS.icmpYes X3.here hx rfl (pc0 := 39) (pc' := 44) rfl (hb hby at_39) rfl (teq (rfl : b = b)).1 (by decide) (by decide) ?_
    show Steps p.tables e below (T3.setTop (mkF m 44 #[.val (.int p1), .val (.int k), .val (.ref w), .val (.int b), .val (.int b)] [])) _
    refine XS.iload X3.here hx rfl (hb hby at_44) rfl ?_
    show Steps p.tables e below (T3.setTop (mkF m 46 #[.val (.int p1), .val (.int k), .val (.ref w), .val (.int b), .val (.int b)] [(.int b)])) _
    refine XS.ifNo X3.here hx rfl (hb hby at_46) rfl ((if0 _ _).trans (feq hb0).1) ?_
    show Steps p.tables e below (T3.setTop (mkF m 49 #[.val (.int p1), .val (.int k), .val (.ref w), .val (.int b), .val (.int b)] [])) _
    refine XS.aloadN X3.here hx rfl (hb hby at_49) rfl rfl ?_
    show Steps p.tables e below (T3.setTop (mkF m 50 #[.val (.int p1), .val (.int k), .val (.ref w), .val (.int b), .val (.int b)] [(.ref w)])) _
    refine st4.trans ?_
    show Steps p.tables e below (T4.setTop (mkF m 53 #[.val (.int p1), .val (.int k), .val (.ref w), .val (.int b), .val (.int b)] [(.int (1 : Int32))])) _
    refine XS.ifYes X4.here hx rfl (pc0 := 53) (pc' := 58) rfl (hb hby at_53) rfl ((if0 _ _).trans (feq (by decide : ¬ ((1 : Int32) = (0 : Int32)))).2) (by decide) (by decide) ?_
    show Steps p.tables e below (T4.setTop (mkF m 58 #[.val (.int p1), .val (.int k), .val (.ref w), .val (.int b), .val (.int b)] [])) _
    refine XS.iconst X4.here hx rfl (hb hby at_58) ?_
    show Steps p.tables e below (T4.setTop (mkF m 59 #[.val (.int p1), .val (.int k), .val (.ref w), .val (.int b), .val (.int b)] [(.int (1 : Int32))])) _
    exact retN X4 hx (t := .boolean) Bd.returns (by simp) (hb hby at_59) hr
  · show Q0b Z p1 h0 n0 _ T4.heap _
    exact ⟨rfl, N4⟩

theorem own_k (x k : Int32) (hk : (x &&& (2147483647 : Int32)) % (7 : Int32) = k) : k = (0 : Int32) ∨ k = (1 : Int32) ∨ k = (2 : Int32) ∨ k = (3 : Int32) ∨ k = (4 : Int32) ∨ k = (5 : Int32) ∨ k = (6 : Int32) := by
  have h1 := (c_and x (2147483647 : Int32) (by decide)).1
  have h2 := (c_iremV (x &&& (2147483647 : Int32)) (7 : Int32)).1 h1 (by decide)
  rw [hk, show ((7 : Int32)).toInt = 7 from by decide] at h2
  have h3 : k.toInt = 0 ∨ k.toInt = 1 ∨ k.toInt = 2 ∨ k.toInt = 3 ∨ k.toInt = 4 ∨ k.toInt = 5 ∨ k.toInt = 6 := by omega
  rcases h3 with h | h | h | h | h | h | h
  · exact Or.inl (Int32.toInt_inj.mp (h.trans (by decide : (0 : Int) = (0 : Int32).toInt)))
  · exact Or.inr (Or.inl (Int32.toInt_inj.mp (h.trans (by decide : (1 : Int) = (1 : Int32).toInt))))
  · exact Or.inr (Or.inr (Or.inl (Int32.toInt_inj.mp (h.trans (by decide : (2 : Int) = (2 : Int32).toInt)))))
  · exact Or.inr (Or.inr (Or.inr (Or.inl (Int32.toInt_inj.mp (h.trans (by decide : (3 : Int) = (3 : Int32).toInt))))))
  · exact Or.inr (Or.inr (Or.inr (Or.inr (Or.inl (Int32.toInt_inj.mp (h.trans (by decide : (4 : Int) = (4 : Int32).toInt)))))))
  · exact Or.inr (Or.inr (Or.inr (Or.inr (Or.inr (Or.inl (Int32.toInt_inj.mp (h.trans (by decide : (5 : Int) = (5 : Int32).toInt))))))))
  · exact Or.inr (Or.inr (Or.inr (Or.inr (Or.inr (Or.inr ((Int32.toInt_inj.mp (h.trans (by decide : (6 : Int) = (6 : Int32).toInt)))))))))
theorem own_fld {args : Array Value} {s : State} {t : Term} {w : Addr} {C n d : String} {z : Int32} (ev : t.eval args s none [] s = some (.ref w)) (h : (Jvm.Cond.eq (.field t C n d) (.int z)).value args s none s [] = some true) : s.fieldOf? w C n d = some (.int z) := by
  have e := fld_at (C := C) (n := n) (dd := d) ev
  have ez : (Term.int z).eval args s none [] s = some (.int z) := Term.int_eval z
  cases hq : s.fieldOf? w C n d with
  | none => rw [hq] at e; simp [Cond.value, e] at h
  | some v => rw [hq] at e; cases v <;> simp_all [Cond.value]
set_option maxRecDepth 65536 in
set_option maxHeartbeats 40000000 in
theorem comes_1 {Post : Tables → Env → Array Value → State → Outcome → State → Prop} (hpost : ∀ tb e args s v u, (limb_1_1.after args s (.returned v) u = true ∧ limb_1_2.after args s (.returned v) u = true ∧ True) → FrameEnd s (.returned v) u (Jvm.fieldLocs frame_1_writes args s ++ Jvm.arrayLocs frame_1_arrays args s ++ Jvm.staticLocs frame_1_statics s) 0 0 → Post tb e args s (.returned v) u) :
    ArmFor flags0 classFile x code maxLocals ret World_1 tables_1 room_1 Calls_1 rest_1 Pre_1 Post := by
  intro l hfl _ _ p e ha hc hk0 s m args below hf hA hF happ hP
  obtain ⟨hcalls, hrest, hpre⟩ := hP
  obtain ⟨-, -, -, hnamed, -, -, -, hat⟩ := (Spec.applies_iff hf).mp happ
  obtain ⟨hg, hn⟩ := and_e (Cond.before_iff.mp (show (Jvm.Cond.and given_1 narrow_1).before args s = true from hpre))
  obtain ⟨g4, g5⟩ := and_e hg
  obtain ⟨w0, rfl⟩ : ∃ w0 : Value, args = #[w0] := by
    have hs : args.size = 1 := by simpa [Cond.value, given_1] using g4
    obtain ⟨L⟩ := args
    match L, hs with
    | [w0], _ => exact ⟨w0, rfl⟩
  have hw := fun d (hd : d ∈ tables_1) => atoms_spec (ws := Jvm.Cond.code x code maxLocals ret :: tables_1) hat d (List.mem_cons_of_mem _ hd)
  have hfit : Fit s := fun {y c} hc i hi => by
    obtain ⟨ha, rfl⟩ := Array.getElem?_eq_some_iff.mp hc
    have q := List.all_eq_true.mp ((Array.all_eq_true_iff_forall_mem.mp hF) _ (Array.getElem_mem ha)) i (List.mem_range.mpr hi)
    simpa [Array.getElem?_eq_getElem hi] using q
  obtain ⟨i0, ei0⟩ := is_v g5
  obtain rfl : w0 = (.int i0) := Option.some.inj ei0
  obtain ⟨c0, hn⟩ := and_e hn
  obtain ⟨w_MIN, v_MIN⟩ := exa_v c0
  have E_MIN := Exa.start v_MIN c0
  have S_MIN := Sta.start v_MIN (Or.inr ⟨(hw _ (List.mem_of_getElem? (i := 6) rfl)), (hw _ (List.mem_of_getElem? (i := 7) rfl))⟩)
  obtain ⟨c1, hn⟩ := and_e hn
  obtain ⟨w_FORALL, v_FORALL⟩ := exa_v c1
  have E_FORALL := Exa.start v_FORALL c1
  have S_FORALL := Sta.start v_FORALL (Or.inr ⟨(hw _ (List.mem_of_getElem? (i := 6) rfl)), (hw _ (List.mem_of_getElem? (i := 14) rfl))⟩)
  obtain ⟨c2, hn⟩ := and_e hn
  have O_MIN := own_fld v_MIN c2
  obtain ⟨c3, hn⟩ := and_e hn
  have O_FORALL := own_fld v_FORALL c3
  obtain ⟨c4, hn⟩ := and_e hn
  obtain ⟨w_EXISTS, v_EXISTS⟩ := exa_v c4
  have E_EXISTS := Exa.start v_EXISTS c4
  have S_EXISTS := Sta.start v_EXISTS (Or.inr ⟨(hw _ (List.mem_of_getElem? (i := 6) rfl)), (hw _ (List.mem_of_getElem? (i := 16) rfl))⟩)
  obtain ⟨c5, hn⟩ := and_e hn
  have O_EXISTS := own_fld v_EXISTS c5
  obtain ⟨c6, hn⟩ := and_e hn
  obtain ⟨w_SUM, v_SUM⟩ := exa_v c6
  have E_SUM := Exa.start v_SUM c6
  have S_SUM := Sta.start v_SUM (Or.inr ⟨(hw _ (List.mem_of_getElem? (i := 6) rfl)), (hw _ (List.mem_of_getElem? (i := 18) rfl))⟩)
  obtain ⟨c7, hn⟩ := and_e hn
  have O_SUM := own_fld v_SUM c7
  obtain ⟨c8, hn⟩ := and_e hn
  have R_FORALL := own_fld v_FORALL c8
  obtain ⟨c9, hn⟩ := and_e hn
  have R_EXISTS := own_fld v_EXISTS c9
  obtain ⟨c10, hn⟩ := and_e hn
  obtain ⟨w_COUNT, v_COUNT⟩ := exa_v c10
  have E_COUNT := Exa.start v_COUNT c10
  have S_COUNT := Sta.start v_COUNT (Or.inr ⟨(hw _ (List.mem_of_getElem? (i := 6) rfl)), (hw _ (List.mem_of_getElem? (i := 29) rfl))⟩)
  obtain ⟨c11, hn⟩ := and_e hn
  have O_COUNT := own_fld v_COUNT c11
  obtain ⟨c12, hn⟩ := and_e hn
  obtain ⟨w_AVG, v_AVG⟩ := exa_v c12
  have E_AVG := Exa.start v_AVG c12
  have S_AVG := Sta.start v_AVG (Or.inr ⟨(hw _ (List.mem_of_getElem? (i := 6) rfl)), (hw _ (List.mem_of_getElem? (i := 31) rfl))⟩)
  obtain ⟨c13, hn⟩ := and_e hn
  have O_AVG := own_fld v_AVG c13
  obtain ⟨c14, hn⟩ := and_e hn
  obtain ⟨w_MAX, v_MAX⟩ := exa_v c14
  have E_MAX := Exa.start v_MAX c14
  have S_MAX := Sta.start v_MAX (Or.inr ⟨(hw _ (List.mem_of_getElem? (i := 6) rfl)), (hw _ (List.mem_of_getElem? (i := 33) rfl))⟩)
  obtain ⟨c15, hn⟩ := and_e hn
  have O_MAX := own_fld v_MAX c15
  obtain ⟨c16, hn⟩ := and_e hn
  have R_MIN := own_fld v_MIN c16
  obtain ⟨c17, hn⟩ := and_e hn
  have R_SUM := own_fld v_SUM c17
  obtain ⟨c18, hn⟩ := and_e hn
  have R_COUNT := own_fld v_COUNT c18
  obtain ⟨c19, hn⟩ := and_e hn
  have R_AVG := own_fld v_AVG c19
  have R_MAX := own_fld v_MAX hn
  obtain ⟨k, hk⟩ : ∃ k, ((i0 &&& (2147483647 : Int32)) % (7 : Int32)) = k := ⟨_, rfl⟩
  obtain ⟨w, b, hb1, PK, E_w, LG, RD⟩ : ∃ (w : Addr) (b : Int32), ((k = 5 ∧ b = 1) ∨ (¬ k = 5 ∧ k = 6 ∧ b = 1) ∨ (¬ k = 5 ∧ ¬ k = 6 ∧ b = 0)) ∧ own_Pick s s.heap k w ∧ Exa s s.heap w "com/example/banyan/banyan/property/FilterOperator" ∧ own_Log w w_FORALL w_EXISTS b ∧ (b = 0 ∨ (¬ b = 0 ∧ Fld s s.heap w "com/example/banyan/banyan/property/FilterOperator" "readsTruthValues" "Z" (.int (1 : Int32)))) := by
    rcases own_k i0 k hk with rfl | rfl | rfl | rfl | rfl | rfl | rfl
    · exact ⟨w_MIN, 0, Or.inr (Or.inr ⟨by decide, by decide, rfl⟩), Or.inl ⟨rfl, S_MIN⟩, E_MIN, Or.inr (Or.inr ⟨(fun q => by rw [q, O_FORALL] at O_MIN; exact absurd O_MIN (by decide)), (fun q => by rw [q, O_EXISTS] at O_MIN; exact absurd O_MIN (by decide)), rfl⟩), Or.inl rfl⟩
    · exact ⟨w_MAX, 0, Or.inr (Or.inr ⟨by decide, by decide, rfl⟩), Or.inr (Or.inl ⟨rfl, S_MAX⟩), E_MAX, Or.inr (Or.inr ⟨(fun q => by rw [q, O_FORALL] at O_MAX; exact absurd O_MAX (by decide)), (fun q => by rw [q, O_EXISTS] at O_MAX; exact absurd O_MAX (by decide)), rfl⟩), Or.inl rfl⟩
    · exact ⟨w_AVG, 0, Or.inr (Or.inr ⟨by decide, by decide, rfl⟩), Or.inr (Or.inr (Or.inl ⟨rfl, S_AVG⟩)), E_AVG, Or.inr (Or.inr ⟨(fun q => by rw [q, O_FORALL] at O_AVG; exact absurd O_AVG (by decide)), (fun q => by rw [q, O_EXISTS] at O_AVG; exact absurd O_AVG (by decide)), rfl⟩), Or.inl rfl⟩
    · exact ⟨w_SUM, 0, Or.inr (Or.inr ⟨by decide, by decide, rfl⟩), Or.inr (Or.inr (Or.inr (Or.inl ⟨rfl, S_SUM⟩))), E_SUM, Or.inr (Or.inr ⟨(fun q => by rw [q, O_FORALL] at O_SUM; exact absurd O_SUM (by decide)), (fun q => by rw [q, O_EXISTS] at O_SUM; exact absurd O_SUM (by decide)), rfl⟩), Or.inl rfl⟩
    · exact ⟨w_COUNT, 0, Or.inr (Or.inr ⟨by decide, by decide, rfl⟩), Or.inr (Or.inr (Or.inr (Or.inr (Or.inl ⟨rfl, S_COUNT⟩)))), E_COUNT, Or.inr (Or.inr ⟨(fun q => by rw [q, O_FORALL] at O_COUNT; exact absurd O_COUNT (by decide)), (fun q => by rw [q, O_EXISTS] at O_COUNT; exact absurd O_COUNT (by decide)), rfl⟩), Or.inl rfl⟩
    · exact ⟨w_FORALL, 1, Or.inl ⟨rfl, rfl⟩, Or.inr (Or.inr (Or.inr (Or.inr (Or.inr (Or.inl ⟨rfl, S_FORALL⟩))))), E_FORALL, Or.inl ⟨rfl, rfl⟩, Or.inr ⟨by decide, Fld.start R_FORALL⟩⟩
    · exact ⟨w_EXISTS, 1, Or.inr (Or.inl ⟨by decide, rfl, rfl⟩), Or.inr (Or.inr (Or.inr (Or.inr (Or.inr (Or.inr (⟨rfl, S_EXISTS⟩)))))), E_EXISTS, Or.inr (Or.inl ⟨(fun q => by rw [q, O_FORALL] at O_EXISTS; exact absurd O_EXISTS (by decide)), rfl, rfl⟩), Or.inr ⟨by decide, Fld.start R_EXISTS⟩⟩
  rcases RD with hb0 | ⟨hb0, FR⟩
  · obtain ⟨n, o, h1, h2, h3, _, L, rfl, ⟨rfl, N⟩, hq⟩ := rm0a l s _ hw tables_1 i0 k w w_FORALL w_EXISTS b s.heap s.heap.size (Nat.le_refl _) hk hb1 PK E_w S_FORALL S_EXISTS LG hb0 p e ha hc hk0 s m _ below hf ((Spec.applies_iff_loose hf).mp happ).1 ⟨rfl, State.Warmed39.refl s, rfl⟩ trivial
    refine ⟨n, _, h1, h2, h3, hpost _ _ _ _ _ _ ⟨Cond.after_iff.mpr rfl, Cond.after_iff.mpr (eq_i res_at (Term.int_eval (1)) rfl), trivial⟩ ⟨hq.1, hq.2.1, (hq.2.2.sift fun y hy => Or.inr (N y hy)).mono (by decide) (by decide)⟩⟩
  · obtain ⟨n, o, h1, h2, h3, _, L, rfl, ⟨rfl, N⟩, hq⟩ := rm0b l s _ hw tables_1 i0 k w w_FORALL w_EXISTS b s.heap s.heap.size (Nat.le_refl _) hk hb1 PK E_w S_FORALL S_EXISTS LG hb0 FR p e ha hc hk0 s m _ below hf ((Spec.applies_iff_loose hf).mp happ).1 ⟨rfl, State.Warmed39.refl s, rfl⟩ trivial
    refine ⟨n, _, h1, h2, h3, hpost _ _ _ _ _ _ ⟨Cond.after_iff.mpr rfl, Cond.after_iff.mpr (eq_i res_at (Term.int_eval (1)) rfl), trivial⟩ ⟨hq.1, hq.2.1, (hq.2.2.sift fun y hy => Or.inr (N y hy)).mono (by decide) (by decide)⟩⟩
theorem main_1_1 : Claimed_1_1 := comes_1 fun _ _ _ _ _ _ h hF => ⟨h.1, hF⟩
theorem main_1_2 : Claimed_1_2 := comes_1 fun _ _ _ _ _ _ h hF => ⟨h.2.1, hF⟩
end Jvm.Pilot.@@N@@
namespace Jvm.Pilot.@@N@@
open Jvm Jvm.ClassFile Sem Op Lib Jvm.Free Jvm.Stand Jvm.Pilot.@@N@@.Jvm.D
/-! MADE BY PROGRAM (witnessworld.py) out of the Statement's table words and the real class files: 12 classes; the members and pool entries that the words name. The judged class is class 1, her method 2. -/
namespace start1
open Jvm.ClassFile
def u (s : String) : CpInfo := .utf8 (stringToUtf16 s)
/-- a pool by its gaps: so many unusable entries, then the entry; so many at the end -/
def gap : Nat → List CpInfo → List CpInfo
  | 0, r => r
  | n + 1, r => .unusable :: gap n r
def poolList (es : List (Nat × CpInfo)) (last : Nat) : List CpInfo := es.foldr (fun e r => gap e.1 (e.2 :: r)) (gap last [])
def pool (es : List (Nat × CpInfo)) (last : Nat) : Array CpInfo := ⟨poolList es last⟩
def fileOf (pool : Array CpInfo) (this : Nat) (attrs : Array Attribute := #[]) (ms : Array MethodInfo := #[]) (fl : Nat := 33) (sup : Nat := 0) (ifs : Array Nat := #[]) (fds : Array FieldInfo := #[]) : ClassFile where
  minorVersion := 0
  majorVersion := 65
  constantPool := pool
  accessFlags := fl
  thisClass := this
  superClass := sup
  interfaces := ifs
  fields := fds
  methods := ms
  attributes := attrs
def plain (name : String) (sup : Option ClassId) : Class where
  name := name
  kind := .ordinary
  loader := none
  accessFlags := 33
  super := sup
  interfaces := #[]
  cf := none
  fields := #[]
  methods := #[]
  instanceTypes := #[]
  staticTypes := #[]
  resolved := #[]
  callSites := []
  init := .initialized
  statics := none
  mirror := none

def pool0 : Array CpInfo := pool [(5, u "<init>"), (0, u "()V"), (1, .class_ 10), (1, u "java/lang/Object")] 113

def k0m0 : Method := { name := "<init>", desc := "()V", sig := { parameters := [], returnType := none }, accessFlags := 1, code := none }
/-- java/lang/Object -/
def k0 : Class := { plain "java/lang/Object" none with
  accessFlags := 33
  interfaces := #[]
  cf := some (fileOf pool0 8 #[] #[{ accessFlags := 1, nameIndex := 5, descriptorIndex := 6, attributes := #[] }] 33 0 #[] #[])
  fields := #[]
  methods := #[k0m0]
  instanceTypes := #[]
  staticTypes := #[]
  resolved := Array.replicate 124 none
  statics := none }

def pool1 : Array CpInfo := pool [(2, .class_ 4), (1, u "java/lang/Object"), (0, u "<init>"), (0, u "()V"), (0, .fieldref 8 9), (0, .class_ 10), (0, .nameAndType 11 12), (0, u "com/example/banyan/banyan/property/FilterOperator"), (0, u "MIN"), (0, u "Lcom/example/banyan/banyan/property/FilterOperator;"), (0, .fieldref 8 14), (0, .nameAndType 15 12), (0, u "MAX"), (0, .fieldref 8 17), (0, .nameAndType 18 12), (0, u "AVG"), (0, .fieldref 8 20), (0, .nameAndType 21 12), (0, u "SUM"), (0, .fieldref 8 23), (0, .nameAndType 24 12), (0, u "COUNT"), (0, .fieldref 8 26), (0, .nameAndType 27 12), (0, u "FORALL"), (0, .fieldref 8 29), (0, .nameAndType 30 12), (0, u "EXISTS"), (0, .integer 2147483647), (0, .methodref 33 34), (0, .class_ 35), (0, .nameAndType 36 37), (0, u "com/example/banyan/banyan/property/FilterOperatorGivesTruthValuePinLaw"), (0, u "pick"), (0, u "(I)Lcom/example/banyan/banyan/property/FilterOperator;"), (0, .methodref 8 39), (0, .nameAndType 40 41), (0, u "givesTruthValue"), (0, u "()Z"), (0, .methodref 8 43), (0, .nameAndType 44 41), (0, u "readsTruthValues"), (3, u "law"), (0, u "(I)Z")] 2

def k1m0 : Method := { name := "<init>", desc := "()V", sig := { parameters := [], returnType := none }, accessFlags := 1, code := none }
def k1c1 : Code := { maxStack := 2, maxLocals := 1, code := method_2_code, exceptionTable := #[], attributes := #[] }
def k1m1 : Method := { name := "pick", desc := "(I)Lcom/example/banyan/banyan/property/FilterOperator;", sig := { parameters := [.int], returnType := some (.object "com/example/banyan/banyan/property/FilterOperator") }, accessFlags := 10, code := some k1c1 }
def k1c2 : Code := { maxStack := 2, maxLocals := 5, code := code, exceptionTable := #[], attributes := #[] }
def k1m2 : Method := { name := "law", desc := "(I)Z", sig := { parameters := [.int], returnType := some .boolean }, accessFlags := 9, code := some k1c2 }
/-- com/example/banyan/banyan/property/FilterOperatorGivesTruthValuePinLaw -/
def k1 : Class := { plain "com/example/banyan/banyan/property/FilterOperatorGivesTruthValuePinLaw" (some 0) with
  accessFlags := 49
  interfaces := #[]
  cf := some (fileOf pool1 33 #[] #[{ accessFlags := 1, nameIndex := 5, descriptorIndex := 6, attributes := #[] }, { accessFlags := 10, nameIndex := 36, descriptorIndex := 37, attributes := #[] }, { accessFlags := 9, nameIndex := 48, descriptorIndex := 49, attributes := #[] }] 49 2 #[] #[])
  fields := #[]
  methods := #[k1m0, k1m1, k1m2]
  instanceTypes := #[]
  staticTypes := #[]
  resolved := Array.replicate 52 none
  statics := none }

def pool2 : Array CpInfo := pool [(1, .class_ 2), (0, u "java/lang/constant/Constable"), (0, .class_ 4), (0, u "java/lang/Object")] 6

/-- java/lang/constant/Constable -/
def k2 : Class := { plain "java/lang/constant/Constable" (some 0) with
  accessFlags := 1537
  interfaces := #[]
  cf := some (fileOf pool2 1 #[] #[] 1537 3 #[] #[])
  fields := #[]
  methods := #[]
  instanceTypes := #[]
  staticTypes := #[]
  resolved := Array.replicate 11 none
  statics := none }

def pool3 : Array CpInfo := pool [(1, .class_ 2), (0, u "java/lang/Comparable"), (0, .class_ 4), (0, u "java/lang/Object")] 7

/-- java/lang/Comparable -/
def k3 : Class := { plain "java/lang/Comparable" (some 0) with
  accessFlags := 1537
  interfaces := #[]
  cf := some (fileOf pool3 1 #[] #[] 1537 3 #[] #[])
  fields := #[]
  methods := #[]
  instanceTypes := #[]
  staticTypes := #[]
  resolved := Array.replicate 12 none
  statics := none }

def pool4 : Array CpInfo := pool [(1, .class_ 2), (0, u "java/io/Serializable"), (0, .class_ 4), (0, u "java/lang/Object")] 2

/-- java/io/Serializable -/
def k4 : Class := { plain "java/io/Serializable" (some 0) with
  accessFlags := 1537
  interfaces := #[]
  cf := some (fileOf pool4 1 #[] #[] 1537 3 #[] #[])
  fields := #[]
  methods := #[]
  instanceTypes := #[]
  staticTypes := #[]
  resolved := Array.replicate 7 none
  statics := none }

def pool5 : Array CpInfo := pool [(2, .class_ 4), (1, u "java/lang/Enum"), (0, u "name"), (0, u "Ljava/lang/String;"), (2, u "ordinal"), (0, u "I"), (1, .class_ 14), (1, u "java/lang/Object"), (4, u "hash"), (86, .class_ 108), (1, u "java/lang/Enum$EnumDesc"), (2, .class_ 112), (0, u "java/lang/constant/Constable"), (0, .class_ 114), (0, u "java/lang/Comparable"), (0, .class_ 116), (0, u "java/io/Serializable")] 87

/-- java/lang/Enum -/
def k5 : Class := { plain "java/lang/Enum" (some 0) with
  accessFlags := 1057
  interfaces := #[2, 3, 4]
  cf := some (fileOf pool5 2 #[.nestMembers #[106]] #[] 1057 12 #[111, 113, 115] #[{ accessFlags := 18, nameIndex := 5, descriptorIndex := 6, attributes := #[] }, { accessFlags := 18, nameIndex := 9, descriptorIndex := 10, attributes := #[] }, { accessFlags := 2, nameIndex := 19, descriptorIndex := 10, attributes := #[] }])
  fields := #[{ name := "name", type := (.object "java/lang/String"), accessFlags := 18, slot := 0, constantValue := 0 }, { name := "ordinal", type := .int, accessFlags := 18, slot := 1, constantValue := 0 }, { name := "hash", type := .int, accessFlags := 2, slot := 2, constantValue := 0 }]
  methods := #[]
  instanceTypes := #[(.object "java/lang/String"), .int, .int]
  staticTypes := #[]
  resolved := Array.replicate 204 none
  statics := none }

def pool6 : Array CpInfo := pool [(1, .class_ 2), (0, u "com/example/banyan/banyan/property/FilterOperator"), (2, u "MIN"), (0, u "Lcom/example/banyan/banyan/property/FilterOperator;"), (2, u "MAX"), (2, u "AVG"), (2, u "SUM"), (2, u "COUNT"), (0, .fieldref 1 20), (0, .nameAndType 21 6), (0, u "FORALL"), (0, .fieldref 1 23), (0, .nameAndType 24 6), (0, u "EXISTS"), (2, u "$VALUES"), (0, u "[Lcom/example/banyan/banyan/property/FilterOperator;"), (6, .class_ 37), (1, u "java/lang/Enum"), (8, u "symbol"), (0, u "Ljava/lang/String;"), (0, .fieldref 1 49), (0, .nameAndType 50 51), (0, u "readsTruthValues"), (0, u "Z"), (36, u "()Z"), (0, u "givesTruthValue")] 6

def k6c0 : Code := { maxStack := 1, maxLocals := 1, code := prog_105_method_5_code, exceptionTable := #[], attributes := #[] }
def k6m0 : Method := { name := "readsTruthValues", desc := "()Z", sig := { parameters := [], returnType := some .boolean }, accessFlags := 1, code := some k6c0 }
def k6c1 : Code := { maxStack := 2, maxLocals := 1, code := prog_105_method_6_code, exceptionTable := #[], attributes := #[] }
def k6m1 : Method := { name := "givesTruthValue", desc := "()Z", sig := { parameters := [], returnType := some .boolean }, accessFlags := 1, code := some k6c1 }
/-- com/example/banyan/banyan/property/FilterOperator -/
def k6 : Class := { plain "com/example/banyan/banyan/property/FilterOperator" (some 5) with
  accessFlags := 16433
  interfaces := #[]
  cf := some (fileOf pool6 1 #[] #[{ accessFlags := 1, nameIndex := 50, descriptorIndex := 88, attributes := #[] }, { accessFlags := 1, nameIndex := 89, descriptorIndex := 88, attributes := #[] }] 16433 35 #[] #[{ accessFlags := 16409, nameIndex := 5, descriptorIndex := 6, attributes := #[] }, { accessFlags := 16409, nameIndex := 9, descriptorIndex := 6, attributes := #[] }, { accessFlags := 16409, nameIndex := 12, descriptorIndex := 6, attributes := #[] }, { accessFlags := 16409, nameIndex := 15, descriptorIndex := 6, attributes := #[] }, { accessFlags := 16409, nameIndex := 18, descriptorIndex := 6, attributes := #[] }, { accessFlags := 16409, nameIndex := 21, descriptorIndex := 6, attributes := #[] }, { accessFlags := 16409, nameIndex := 24, descriptorIndex := 6, attributes := #[] }, { accessFlags := 18, nameIndex := 46, descriptorIndex := 47, attributes := #[] }, { accessFlags := 18, nameIndex := 50, descriptorIndex := 51, attributes := #[] }, { accessFlags := 4122, nameIndex := 27, descriptorIndex := 28, attributes := #[] }])
  fields := #[{ name := "MIN", type := (.object "com/example/banyan/banyan/property/FilterOperator"), accessFlags := 16409, slot := 0, constantValue := 0 }, { name := "MAX", type := (.object "com/example/banyan/banyan/property/FilterOperator"), accessFlags := 16409, slot := 1, constantValue := 0 }, { name := "AVG", type := (.object "com/example/banyan/banyan/property/FilterOperator"), accessFlags := 16409, slot := 2, constantValue := 0 }, { name := "SUM", type := (.object "com/example/banyan/banyan/property/FilterOperator"), accessFlags := 16409, slot := 3, constantValue := 0 }, { name := "COUNT", type := (.object "com/example/banyan/banyan/property/FilterOperator"), accessFlags := 16409, slot := 4, constantValue := 0 }, { name := "FORALL", type := (.object "com/example/banyan/banyan/property/FilterOperator"), accessFlags := 16409, slot := 5, constantValue := 0 }, { name := "EXISTS", type := (.object "com/example/banyan/banyan/property/FilterOperator"), accessFlags := 16409, slot := 6, constantValue := 0 }, { name := "symbol", type := (.object "java/lang/String"), accessFlags := 18, slot := 3, constantValue := 0 }, { name := "readsTruthValues", type := .boolean, accessFlags := 18, slot := 4, constantValue := 0 }, { name := "$VALUES", type := (.array (.object "com/example/banyan/banyan/property/FilterOperator")), accessFlags := 4122, slot := 7, constantValue := 0 }]
  methods := #[k6m0, k6m1]
  instanceTypes := #[(.object "java/lang/String"), .int, .int, (.object "java/lang/String"), .boolean]
  staticTypes := #[(.object "com/example/banyan/banyan/property/FilterOperator"), (.object "com/example/banyan/banyan/property/FilterOperator"), (.object "com/example/banyan/banyan/property/FilterOperator"), (.object "com/example/banyan/banyan/property/FilterOperator"), (.object "com/example/banyan/banyan/property/FilterOperator"), (.object "com/example/banyan/banyan/property/FilterOperator"), (.object "com/example/banyan/banyan/property/FilterOperator"), (.array (.object "com/example/banyan/banyan/property/FilterOperator"))]
  resolved := Array.replicate 96 none
  statics := some 0 }

def pool7 : Array CpInfo := pool [(1, u "java/lang/Cloneable"), (0, .class_ 1), (0, u "java/lang/Object"), (0, .class_ 3)] 3

/-- java/lang/Cloneable -/
def k7 : Class := { plain "java/lang/Cloneable" (some 0) with
  accessFlags := 1537
  interfaces := #[]
  cf := some (fileOf pool7 2 #[] #[] 1537 4 #[] #[])
  fields := #[]
  methods := #[]
  instanceTypes := #[]
  staticTypes := #[]
  resolved := Array.replicate 8 none
  statics := none }

/-- the primitive byte -/
def k8 : Class := { plain "byte" none with kind := .primitive 'B', accessFlags := 0x411 }
/-- [B -/
def k9 : Class := { plain "[B" (some 0) with kind := .array 8 .byte, interfaces := #[7, 4], accessFlags := 1041 }

/-- the primitive int -/
def k10 : Class := { plain "int" none with kind := .primitive 'I', accessFlags := 0x411 }
/-- [I -/
def k11 : Class := { plain "[I" (some 0) with kind := .array 10 .int, interfaces := #[7, 4], accessFlags := 1041 }

def heap : Heap := #[{ cls := 6, slots := #[.ref 1, .ref 2, .ref 3, .ref 4, .ref 5, .ref 6, .ref 7, .null], vm := .statics 6 },
  { cls := 6, slots := #[.null, .int 0, .int 0, .null, .int 0], vm := .none },
  { cls := 6, slots := #[.null, .int 1, .int 0, .null, .int 0], vm := .none },
  { cls := 6, slots := #[.null, .int 2, .int 0, .null, .int 0], vm := .none },
  { cls := 6, slots := #[.null, .int 3, .int 0, .null, .int 0], vm := .none },
  { cls := 6, slots := #[.null, .int 4, .int 0, .null, .int 1], vm := .none },
  { cls := 6, slots := #[.null, .int 5, .int 0, .null, .int 1], vm := .none },
  { cls := 6, slots := #[.null, .int 6, .int 0, .null, .int 1], vm := .none }]
def classes : Array Class := #[k0, k1, k2, k3, k4, k5, k6, k7, k8, k9, k10, k11]
def interned : List (Array UInt16 × Addr) := []
def slotsUsed : Nat := 43
def theMethod : MethodId := ⟨1, 2⟩
def args0 : Array Value := #[.int 5]
def aboutOver (below : List Frame) : State where
  vm := { classes := classes, interned := interned.toArray }
  heap := heap
  slotsUsed := slotsUsed
  threads := #[{ frames := .invoking theMethod args0 :: below }]
def below0 : List Frame := [.native { method := ⟨0, 0⟩, args := #[] }]
def about1 : State := aboutOver below0
def p0 : Program := .bare "" "" ""
def e0 : Env := launch0.env 0 0 0
theorem w_frames : about1.frames = Frame.invoking theMethod args0 :: below0 := rfl
set_option maxRecDepth 65536 in
theorem w_args : argsFit about1.vm theMethod args0 = true := by decide +kernel
set_option maxRecDepth 65536 in
theorem w_heap : heapFits about1 = true := by decide +kernel
set_option maxRecDepth 65536 in
theorem w_runnable : about1.curStatus? = some .runnable := by decide +kernel
set_option maxRecDepth 65536 in
theorem w_alone : about1.alone = true := by decide +kernel
set_option maxRecDepth 65536 in
theorem w_named : about1.methodNamed? x = some theMethod := by decide +kernel
set_option maxRecDepth 65536 in
theorem w_hears : about1.hears theMethod below0 = true := by decide +kernel
set_option maxRecDepth 65536 in
theorem w_ripe : about1.ripe theMethod args0 below0 = true := by decide +kernel
theorem w_running : about1.status = .running := rfl
set_option maxRecDepth 65536 in
theorem w_room : about1.hasRoom e0.platform room_1 = true :=
  launch0.hasRoom_least _ room_1 (by decide +kernel) (by decide +kernel) (by decide +kernel) (by decide +kernel) (by decide +kernel) (by decide +kernel)
theorem allAtoms_all (ts : List Jvm.Cond) (a : Array Jvm.Value) (st : Jvm.State) : (allAtoms ts).before a st = ts.all (fun c => c.before a st) := by
  induction ts with
  | nil => rfl
  | cons c t ih =>
    show (Jvm.Cond.and c (allAtoms t)).before a st = _
    rw [Jvm.Cond.before_and, ih, List.all_cons]
def words1 : List Jvm.Cond := Jvm.Cond.code x code maxLocals ret :: tables_1
/-- a 'code' word, met by the world's own term for the bytes: nothing is compared byte by byte -/
theorem code_word {y : MethodName} {bytes : ByteArray} {mx : Nat} {rt : Option FieldType} {a : Array Value} {s : State} {m : MethodId} {meth : Method} {c : Code} (h1 : s.methodNamed? y = some m) (h2 : s.vm.method? m = some meth) (h3 : meth.code = some c) (h4 : c.code = bytes)
    (h5 : (c.maxLocals == mx && c.exceptionTable.isEmpty && decide (c.maxStack ≤ mostOperands) && decide (meth.sig.returnType = rt) && !meth.locks && decide (parseMethodDescriptor y.desc = some meth.sig)) = true) : (Jvm.Cond.code y bytes mx rt).before a s = true := by
  simp only [Bool.and_eq_true, beq_iff_eq, Bool.not_eq_true', decide_eq_true_eq] at h5
  obtain ⟨⟨⟨⟨⟨g1, g2⟩, g3⟩, g4⟩, g5⟩, g6⟩ := h5
  simp [Cond.before, Cond.holds, Cond.value, h1, h2, h3, h4, g1, g2, g3, g4, g5, g6]
def isCode : Jvm.Cond → Bool
  | .code _ _ _ _ => true
  | _ => false
theorem all_split {L : List Jvm.Cond} {P : Jvm.Cond → Bool} (h1 : L.all (fun c => isCode c || P c) = true) (h2 : ∀ c ∈ L.filter isCode, P c = true) : L.all P = true := by
  refine List.all_eq_true.mpr fun c hc => ?_
  have h := List.all_eq_true.mp h1 c hc
  rcases Bool.eq_false_or_eq_true (isCode c) with hi | hi
  · exact h2 c (List.mem_filter.mpr ⟨hc, hi⟩)
  · simpa [hi] using h
set_option maxRecDepth 65536 in
theorem w_c0 : (Jvm.Cond.code x code maxLocals ret).before args0 about1 = true := code_word (m := ⟨1, 2⟩) (meth := k1m2) (c := k1c2) (by decide +kernel) rfl rfl rfl (by decide +kernel)
set_option maxRecDepth 65536 in
theorem w_c1 : (Jvm.Cond.code ({ cls := "com/example/banyan/banyan/property/FilterOperatorGivesTruthValuePinLaw", name := "pick", desc := "(I)Lcom/example/banyan/banyan/property/FilterOperator;" } : Jvm.MethodName) method_2_code (1 : Nat) (Option.some (Jvm.ClassFile.FieldType.object "com/example/banyan/banyan/property/FilterOperator"))).before args0 about1 = true := code_word (m := ⟨1, 1⟩) (meth := k1m1) (c := k1c1) (by decide +kernel) rfl rfl rfl (by decide +kernel)
set_option maxRecDepth 65536 in
theorem w_c2 : (Jvm.Cond.code ({ cls := "com/example/banyan/banyan/property/FilterOperator", name := "givesTruthValue", desc := "()Z" } : Jvm.MethodName) prog_105_method_6_code (1 : Nat) (Option.some Jvm.ClassFile.FieldType.boolean)).before args0 about1 = true := code_word (m := ⟨6, 1⟩) (meth := k6m1) (c := k6c1) (by decide +kernel) rfl rfl rfl (by decide +kernel)
set_option maxRecDepth 65536 in
theorem w_c3 : (Jvm.Cond.code ({ cls := "com/example/banyan/banyan/property/FilterOperator", name := "readsTruthValues", desc := "()Z" } : Jvm.MethodName) prog_105_method_5_code (1 : Nat) (Option.some Jvm.ClassFile.FieldType.boolean)).before args0 about1 = true := code_word (m := ⟨6, 0⟩) (meth := k6m0) (c := k6c0) (by decide +kernel) rfl rfl rfl (by decide +kernel)
def codes1 : List Jvm.Cond := [Jvm.Cond.code x code maxLocals ret, Jvm.Cond.code ({ cls := "com/example/banyan/banyan/property/FilterOperatorGivesTruthValuePinLaw", name := "pick", desc := "(I)Lcom/example/banyan/banyan/property/FilterOperator;" } : Jvm.MethodName) method_2_code (1 : Nat) (Option.some (Jvm.ClassFile.FieldType.object "com/example/banyan/banyan/property/FilterOperator")), Jvm.Cond.code ({ cls := "com/example/banyan/banyan/property/FilterOperator", name := "givesTruthValue", desc := "()Z" } : Jvm.MethodName) prog_105_method_6_code (1 : Nat) (Option.some Jvm.ClassFile.FieldType.boolean), Jvm.Cond.code ({ cls := "com/example/banyan/banyan/property/FilterOperator", name := "readsTruthValues", desc := "()Z" } : Jvm.MethodName) prog_105_method_5_code (1 : Nat) (Option.some Jvm.ClassFile.FieldType.boolean)]
set_option maxRecDepth 65536 in
theorem codes_eq : words1.filter isCode = codes1 := rfl
theorem w_codes : ∀ c ∈ words1.filter isCode, c.before args0 about1 = true := by
  rw [codes_eq]
  intro c hc
  simp only [codes1, List.mem_cons, List.not_mem_nil, or_false] at hc
  rcases hc with rfl | rfl | rfl | rfl
  · exact w_c0
  · exact w_c1
  · exact w_c2
  · exact w_c3
set_option maxRecDepth 65536 in
theorem w_t1 : (words1.take 24).all (fun c => isCode c || c.before args0 about1) = true := by decide +kernel
set_option maxRecDepth 65536 in
theorem w_t2 : (words1.drop 24).all (fun c => isCode c || c.before args0 about1) = true := by decide +kernel
theorem w_tables : (allAtoms (Jvm.Cond.code x code maxLocals ret :: tables_1)).before args0 about1 = true := by
  rw [allAtoms_all]
  show words1.all (fun c => c.before args0 about1) = true
  refine all_split ?_ w_codes
  rw [← List.take_append_drop 24 words1, List.all_append, w_t1, w_t2]
  rfl
set_option maxRecDepth 65536 in
theorem w_case : (Jvm.Cond.and given_1 narrow_1).before args0 about1 = true := by decide +kernel
theorem w_applies : (headSpec (Jvm.Cond.code x code maxLocals ret :: tables_1) room_1).applies x e0.platform about1 = true :=
  (Spec.applies_iff w_frames).mpr ⟨w_running, w_runnable, w_alone, w_named, w_hears, w_ripe, w_room, w_tables⟩
theorem atStart : AtStart classFile x code maxLocals ret World_1 tables_1 room_1 Calls_1 rest_1 Pre_1 launch0 p0 e0 about1 theMethod args0 below0 :=
  ⟨lists_1, trivial, launch0.admits_env _ _ _, launch0.least_env, fairChoices_fair.cas, fairChoices_fair.clock, w_frames, w_args, w_heap, w_applies, trivial, trivial, w_case⟩
end start1
theorem witness_1 : WitnessClaimed_1 := ⟨start1.p0, start1.e0, start1.about1, start1.theMethod, start1.args0, start1.below0, start1.atStart⟩
end Jvm.Pilot.@@N@@
