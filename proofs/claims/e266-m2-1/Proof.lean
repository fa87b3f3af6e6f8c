import JvmDerived
import JvmDerived.Pilot.@@N@@Statement
import JvmDerived.Pilot.@@N@@Code
set_option linter.unusedVariables false
set_option linter.unusedSimpArgs false
namespace Jvm.Pilot.@@N@@
open Jvm Jvm.ClassFile Sem Op Lib Jvm.Free Jvm.Stand Jvm.LawKit Jvm.RoadKit Bundle Jvm.Pilot.@@N@@.Jvm.D
theorem d1_0 : decode method_2_code 0 = .ok (.iload_n 0, 1) := by decide +kernel
theorem d1_1 : decode method_2_code 1 = .ok (.ifCond .ne 7, 3) := by decide +kernel
theorem d1_4 : decode method_2_code 4 = .ok (.getstatic 7, 3) := by decide +kernel
theorem d1_7 : decode method_2_code 7 = .ok (.areturn, 1) := by decide +kernel
theorem d1_8 : decode method_2_code 8 = .ok (.iload_n 0, 1) := by decide +kernel
theorem d1_9 : decode method_2_code 9 = .ok (.iconst 1, 1) := by decide +kernel
theorem d1_10 : decode method_2_code 10 = .ok (.if_icmp .ne 7, 3) := by decide +kernel
theorem d1_13 : decode method_2_code 13 = .ok (.getstatic 13, 3) := by decide +kernel
theorem d1_16 : decode method_2_code 16 = .ok (.areturn, 1) := by decide +kernel
theorem d1_17 : decode method_2_code 17 = .ok (.iload_n 0, 1) := by decide +kernel
theorem d1_18 : decode method_2_code 18 = .ok (.iconst 2, 1) := by decide +kernel
theorem d1_19 : decode method_2_code 19 = .ok (.if_icmp .ne 7, 3) := by decide +kernel
theorem d1_22 : decode method_2_code 22 = .ok (.getstatic 16, 3) := by decide +kernel
theorem d1_25 : decode method_2_code 25 = .ok (.areturn, 1) := by decide +kernel
theorem d1_26 : decode method_2_code 26 = .ok (.iload_n 0, 1) := by decide +kernel
theorem d1_27 : decode method_2_code 27 = .ok (.iconst 3, 1) := by decide +kernel
theorem d1_28 : decode method_2_code 28 = .ok (.if_icmp .ne 7, 3) := by decide +kernel
theorem d1_31 : decode method_2_code 31 = .ok (.getstatic 19, 3) := by decide +kernel
theorem d1_34 : decode method_2_code 34 = .ok (.areturn, 1) := by decide +kernel
theorem d1_35 : decode method_2_code 35 = .ok (.iload_n 0, 1) := by decide +kernel
theorem d1_36 : decode method_2_code 36 = .ok (.iconst 4, 1) := by decide +kernel
theorem d1_37 : decode method_2_code 37 = .ok (.if_icmp .ne 7, 3) := by decide +kernel
theorem d1_40 : decode method_2_code 40 = .ok (.getstatic 22, 3) := by decide +kernel
theorem d1_43 : decode method_2_code 43 = .ok (.areturn, 1) := by decide +kernel
theorem d1_44 : decode method_2_code 44 = .ok (.iload_n 0, 1) := by decide +kernel
theorem d1_45 : decode method_2_code 45 = .ok (.iconst 5, 1) := by decide +kernel
theorem d1_46 : decode method_2_code 46 = .ok (.if_icmp .ne 7, 3) := by decide +kernel
theorem d1_49 : decode method_2_code 49 = .ok (.getstatic 25, 3) := by decide +kernel
theorem d1_52 : decode method_2_code 52 = .ok (.areturn, 1) := by decide +kernel
theorem d1_53 : decode method_2_code 53 = .ok (.iload_n 0, 1) := by decide +kernel
theorem d1_54 : decode method_2_code 54 = .ok (.bipush 6, 2) := by decide +kernel
theorem d1_56 : decode method_2_code 56 = .ok (.if_icmp .ne 7, 3) := by decide +kernel
theorem d1_59 : decode method_2_code 59 = .ok (.getstatic 28, 3) := by decide +kernel
theorem d1_62 : decode method_2_code 62 = .ok (.areturn, 1) := by decide +kernel
theorem d1_63 : decode method_2_code 63 = .ok (.iload_n 0, 1) := by decide +kernel
theorem d1_64 : decode method_2_code 64 = .ok (.bipush 7, 2) := by decide +kernel
theorem d1_66 : decode method_2_code 66 = .ok (.if_icmp .ne 7, 3) := by decide +kernel
theorem d1_69 : decode method_2_code 69 = .ok (.getstatic 31, 3) := by decide +kernel
theorem d1_72 : decode method_2_code 72 = .ok (.areturn, 1) := by decide +kernel
theorem d1_73 : decode method_2_code 73 = .ok (.iload_n 0, 1) := by decide +kernel
theorem d1_74 : decode method_2_code 74 = .ok (.bipush 8, 2) := by decide +kernel
theorem d1_76 : decode method_2_code 76 = .ok (.if_icmp .ne 7, 3) := by decide +kernel
theorem d1_79 : decode method_2_code 79 = .ok (.getstatic 34, 3) := by decide +kernel
theorem d1_82 : decode method_2_code 82 = .ok (.areturn, 1) := by decide +kernel
theorem d1_83 : decode method_2_code 83 = .ok (.iload_n 0, 1) := by decide +kernel
theorem d1_84 : decode method_2_code 84 = .ok (.bipush 9, 2) := by decide +kernel
theorem d1_86 : decode method_2_code 86 = .ok (.if_icmp .ne 7, 3) := by decide +kernel
theorem d1_89 : decode method_2_code 89 = .ok (.getstatic 37, 3) := by decide +kernel
theorem d1_92 : decode method_2_code 92 = .ok (.areturn, 1) := by decide +kernel
theorem d1_93 : decode method_2_code 93 = .ok (.iload_n 0, 1) := by decide +kernel
theorem d1_94 : decode method_2_code 94 = .ok (.bipush 10, 2) := by decide +kernel
theorem d1_96 : decode method_2_code 96 = .ok (.if_icmp .ne 7, 3) := by decide +kernel
theorem d1_99 : decode method_2_code 99 = .ok (.getstatic 40, 3) := by decide +kernel
theorem d1_102 : decode method_2_code 102 = .ok (.areturn, 1) := by decide +kernel
theorem d1_103 : decode method_2_code 103 = .ok (.iload_n 0, 1) := by decide +kernel
theorem d1_104 : decode method_2_code 104 = .ok (.bipush 11, 2) := by decide +kernel
theorem d1_106 : decode method_2_code 106 = .ok (.if_icmp .ne 7, 3) := by decide +kernel
theorem d1_109 : decode method_2_code 109 = .ok (.getstatic 43, 3) := by decide +kernel
theorem d1_112 : decode method_2_code 112 = .ok (.areturn, 1) := by decide +kernel
theorem d1_113 : decode method_2_code 113 = .ok (.iload_n 0, 1) := by decide +kernel
theorem d1_114 : decode method_2_code 114 = .ok (.bipush 12, 2) := by decide +kernel
theorem d1_116 : decode method_2_code 116 = .ok (.if_icmp .ne 7, 3) := by decide +kernel
theorem d1_119 : decode method_2_code 119 = .ok (.getstatic 46, 3) := by decide +kernel
theorem d1_122 : decode method_2_code 122 = .ok (.areturn, 1) := by decide +kernel
theorem d1_123 : decode method_2_code 123 = .ok (.iload_n 0, 1) := by decide +kernel
theorem d1_124 : decode method_2_code 124 = .ok (.bipush 13, 2) := by decide +kernel
theorem d1_126 : decode method_2_code 126 = .ok (.if_icmp .ne 7, 3) := by decide +kernel
theorem d1_129 : decode method_2_code 129 = .ok (.getstatic 49, 3) := by decide +kernel
theorem d1_132 : decode method_2_code 132 = .ok (.areturn, 1) := by decide +kernel
theorem d1_133 : decode method_2_code 133 = .ok (.iload_n 0, 1) := by decide +kernel
theorem d1_134 : decode method_2_code 134 = .ok (.bipush 14, 2) := by decide +kernel
theorem d1_136 : decode method_2_code 136 = .ok (.if_icmp .ne 7, 3) := by decide +kernel
theorem d1_139 : decode method_2_code 139 = .ok (.getstatic 52, 3) := by decide +kernel
theorem d1_142 : decode method_2_code 142 = .ok (.areturn, 1) := by decide +kernel
theorem d1_143 : decode method_2_code 143 = .ok (.iload_n 0, 1) := by decide +kernel
theorem d1_144 : decode method_2_code 144 = .ok (.bipush 15, 2) := by decide +kernel
theorem d1_146 : decode method_2_code 146 = .ok (.if_icmp .ne 7, 3) := by decide +kernel
theorem d1_149 : decode method_2_code 149 = .ok (.getstatic 55, 3) := by decide +kernel
theorem d1_152 : decode method_2_code 152 = .ok (.areturn, 1) := by decide +kernel
theorem d1_153 : decode method_2_code 153 = .ok (.iload_n 0, 1) := by decide +kernel
theorem d1_154 : decode method_2_code 154 = .ok (.bipush 16, 2) := by decide +kernel
theorem d1_156 : decode method_2_code 156 = .ok (.if_icmp .ne 7, 3) := by decide +kernel
theorem d1_159 : decode method_2_code 159 = .ok (.getstatic 58, 3) := by decide +kernel
theorem d1_162 : decode method_2_code 162 = .ok (.areturn, 1) := by decide +kernel
theorem d1_163 : decode method_2_code 163 = .ok (.getstatic 61, 3) := by decide +kernel
theorem d1_166 : decode method_2_code 166 = .ok (.areturn, 1) := by decide +kernel
theorem own_sk0 {tb : Tables} [Ours tb] {e : Env} {below : List Frame} {T target : State} {m : MethodId} {c : Code} (h : At T m c below) (hx : tb.exec = Jvm.exec) (hby : c.code = method_2_code) {k : Int32} (hk : ¬ k = (0 : Int32)) (r : Steps tb e below (T.setTop (mkF m 8 #[.val (.int k)] [])) target) : Steps tb e below (T.setTop (mkF m 0 #[.val (.int k)] [])) target := by
  refine XS.iloadN h hx rfl (hb hby d1_0) rfl ?_
  show Steps tb e below (T.setTop (mkF m 1 #[.val (.int k)] [.int k])) _
  exact XS.ifYes h hx rfl (pc0 := 1) (pc' := 8) rfl (hb hby d1_1) rfl ((if0 _ _).trans (feq hk).2) (by decide) (by decide) r
theorem own_tk0 {tb : Tables} [Ours tb] {e : Env} {below : List Frame} {T target : State} {m : MethodId} {c : Code} (h : At T m c below) (hx : tb.exec = Jvm.exec) (hby : c.code = method_2_code) {k : Int32} (hk : k = (0 : Int32)) (r : Steps tb e below (T.setTop (mkF m 4 #[.val (.int k)] [])) target) : Steps tb e below (T.setTop (mkF m 0 #[.val (.int k)] [])) target := by
  refine XS.iloadN h hx rfl (hb hby d1_0) rfl ?_
  show Steps tb e below (T.setTop (mkF m 1 #[.val (.int k)] [.int k])) _
  exact XS.ifNo h hx rfl (hb hby d1_1) rfl ((if0 _ _).trans (teq hk).2) r
theorem own_sk1 {tb : Tables} [Ours tb] {e : Env} {below : List Frame} {T target : State} {m : MethodId} {c : Code} (h : At T m c below) (hx : tb.exec = Jvm.exec) (hby : c.code = method_2_code) {k : Int32} (hk : ¬ k = (1 : Int32)) (r : Steps tb e below (T.setTop (mkF m 17 #[.val (.int k)] [])) target) : Steps tb e below (T.setTop (mkF m 8 #[.val (.int k)] [])) target := by
  refine XS.iloadN h hx rfl (hb hby d1_8) rfl ?_
  show Steps tb e below (T.setTop (mkF m 9 #[.val (.int k)] [.int k])) _
  refine XS.iconst h hx rfl (hb hby d1_9) ?_
  show Steps tb e below (T.setTop (mkF m 10 #[.val (.int k)] [.int (1 : Int32), .int k])) _
  exact XS.icmpYes h hx rfl (pc0 := 10) (pc' := 17) rfl (hb hby d1_10) rfl (feq hk).2 (by decide) (by decide) r
theorem own_tk1 {tb : Tables} [Ours tb] {e : Env} {below : List Frame} {T target : State} {m : MethodId} {c : Code} (h : At T m c below) (hx : tb.exec = Jvm.exec) (hby : c.code = method_2_code) {k : Int32} (hk : k = (1 : Int32)) (r : Steps tb e below (T.setTop (mkF m 13 #[.val (.int k)] [])) target) : Steps tb e below (T.setTop (mkF m 8 #[.val (.int k)] [])) target := by
  refine XS.iloadN h hx rfl (hb hby d1_8) rfl ?_
  show Steps tb e below (T.setTop (mkF m 9 #[.val (.int k)] [.int k])) _
  refine XS.iconst h hx rfl (hb hby d1_9) ?_
  show Steps tb e below (T.setTop (mkF m 10 #[.val (.int k)] [.int (1 : Int32), .int k])) _
  exact XS.icmpNo h hx rfl (hb hby d1_10) rfl (teq hk).2 r
theorem own_sk2 {tb : Tables} [Ours tb] {e : Env} {below : List Frame} {T target : State} {m : MethodId} {c : Code} (h : At T m c below) (hx : tb.exec = Jvm.exec) (hby : c.code = method_2_code) {k : Int32} (hk : ¬ k = (2 : Int32)) (r : Steps tb e below (T.setTop (mkF m 26 #[.val (.int k)] [])) target) : Steps tb e below (T.setTop (mkF m 17 #[.val (.int k)] [])) target := by
  refine XS.iloadN h hx rfl (hb hby d1_17) rfl ?_
  show Steps tb e below (T.setTop (mkF m 18 #[.val (.int k)] [.int k])) _
  refine XS.iconst h hx rfl (hb hby d1_18) ?_
  show Steps tb e below (T.setTop (mkF m 19 #[.val (.int k)] [.int (2 : Int32), .int k])) _
  exact XS.icmpYes h hx rfl (pc0 := 19) (pc' := 26) rfl (hb hby d1_19) rfl (feq hk).2 (by decide) (by decide) r
theorem own_tk2 {tb : Tables} [Ours tb] {e : Env} {below : List Frame} {T target : State} {m : MethodId} {c : Code} (h : At T m c below) (hx : tb.exec = Jvm.exec) (hby : c.code = method_2_code) {k : Int32} (hk : k = (2 : Int32)) (r : Steps tb e below (T.setTop (mkF m 22 #[.val (.int k)] [])) target) : Steps tb e below (T.setTop (mkF m 17 #[.val (.int k)] [])) target := by
  refine XS.iloadN h hx rfl (hb hby d1_17) rfl ?_
  show Steps tb e below (T.setTop (mkF m 18 #[.val (.int k)] [.int k])) _
  refine XS.iconst h hx rfl (hb hby d1_18) ?_
  show Steps tb e below (T.setTop (mkF m 19 #[.val (.int k)] [.int (2 : Int32), .int k])) _
  exact XS.icmpNo h hx rfl (hb hby d1_19) rfl (teq hk).2 r
theorem own_sk3 {tb : Tables} [Ours tb] {e : Env} {below : List Frame} {T target : State} {m : MethodId} {c : Code} (h : At T m c below) (hx : tb.exec = Jvm.exec) (hby : c.code = method_2_code) {k : Int32} (hk : ¬ k = (3 : Int32)) (r : Steps tb e below (T.setTop (mkF m 35 #[.val (.int k)] [])) target) : Steps tb e below (T.setTop (mkF m 26 #[.val (.int k)] [])) target := by
  refine XS.iloadN h hx rfl (hb hby d1_26) rfl ?_
  show Steps tb e below (T.setTop (mkF m 27 #[.val (.int k)] [.int k])) _
  refine XS.iconst h hx rfl (hb hby d1_27) ?_
  show Steps tb e below (T.setTop (mkF m 28 #[.val (.int k)] [.int (3 : Int32), .int k])) _
  exact XS.icmpYes h hx rfl (pc0 := 28) (pc' := 35) rfl (hb hby d1_28) rfl (feq hk).2 (by decide) (by decide) r
theorem own_tk3 {tb : Tables} [Ours tb] {e : Env} {below : List Frame} {T target : State} {m : MethodId} {c : Code} (h : At T m c below) (hx : tb.exec = Jvm.exec) (hby : c.code = method_2_code) {k : Int32} (hk : k = (3 : Int32)) (r : Steps tb e below (T.setTop (mkF m 31 #[.val (.int k)] [])) target) : Steps tb e below (T.setTop (mkF m 26 #[.val (.int k)] [])) target := by
  refine XS.iloadN h hx rfl (hb hby d1_26) rfl ?_
  show Steps tb e below (T.setTop (mkF m 27 #[.val (.int k)] [.int k])) _
  refine XS.iconst h hx rfl (hb hby d1_27) ?_
  show Steps tb e below (T.setTop (mkF m 28 #[.val (.int k)] [.int (3 : Int32), .int k])) _
  exact XS.icmpNo h hx rfl (hb hby d1_28) rfl (teq hk).2 r
theorem own_sk4 {tb : Tables} [Ours tb] {e : Env} {below : List Frame} {T target : State} {m : MethodId} {c : Code} (h : At T m c below) (hx : tb.exec = Jvm.exec) (hby : c.code = method_2_code) {k : Int32} (hk : ¬ k = (4 : Int32)) (r : Steps tb e below (T.setTop (mkF m 44 #[.val (.int k)] [])) target) : Steps tb e below (T.setTop (mkF m 35 #[.val (.int k)] [])) target := by
  refine XS.iloadN h hx rfl (hb hby d1_35) rfl ?_
  show Steps tb e below (T.setTop (mkF m 36 #[.val (.int k)] [.int k])) _
  refine XS.iconst h hx rfl (hb hby d1_36) ?_
  show Steps tb e below (T.setTop (mkF m 37 #[.val (.int k)] [.int (4 : Int32), .int k])) _
  exact XS.icmpYes h hx rfl (pc0 := 37) (pc' := 44) rfl (hb hby d1_37) rfl (feq hk).2 (by decide) (by decide) r
theorem own_tk4 {tb : Tables} [Ours tb] {e : Env} {below : List Frame} {T target : State} {m : MethodId} {c : Code} (h : At T m c below) (hx : tb.exec = Jvm.exec) (hby : c.code = method_2_code) {k : Int32} (hk : k = (4 : Int32)) (r : Steps tb e below (T.setTop (mkF m 40 #[.val (.int k)] [])) target) : Steps tb e below (T.setTop (mkF m 35 #[.val (.int k)] [])) target := by
  refine XS.iloadN h hx rfl (hb hby d1_35) rfl ?_
  show Steps tb e below (T.setTop (mkF m 36 #[.val (.int k)] [.int k])) _
  refine XS.iconst h hx rfl (hb hby d1_36) ?_
  show Steps tb e below (T.setTop (mkF m 37 #[.val (.int k)] [.int (4 : Int32), .int k])) _
  exact XS.icmpNo h hx rfl (hb hby d1_37) rfl (teq hk).2 r
theorem own_sk5 {tb : Tables} [Ours tb] {e : Env} {below : List Frame} {T target : State} {m : MethodId} {c : Code} (h : At T m c below) (hx : tb.exec = Jvm.exec) (hby : c.code = method_2_code) {k : Int32} (hk : ¬ k = (5 : Int32)) (r : Steps tb e below (T.setTop (mkF m 53 #[.val (.int k)] [])) target) : Steps tb e below (T.setTop (mkF m 44 #[.val (.int k)] [])) target := by
  refine XS.iloadN h hx rfl (hb hby d1_44) rfl ?_
  show Steps tb e below (T.setTop (mkF m 45 #[.val (.int k)] [.int k])) _
  refine XS.iconst h hx rfl (hb hby d1_45) ?_
  show Steps tb e below (T.setTop (mkF m 46 #[.val (.int k)] [.int (5 : Int32), .int k])) _
  exact XS.icmpYes h hx rfl (pc0 := 46) (pc' := 53) rfl (hb hby d1_46) rfl (feq hk).2 (by decide) (by decide) r
theorem own_tk5 {tb : Tables} [Ours tb] {e : Env} {below : List Frame} {T target : State} {m : MethodId} {c : Code} (h : At T m c below) (hx : tb.exec = Jvm.exec) (hby : c.code = method_2_code) {k : Int32} (hk : k = (5 : Int32)) (r : Steps tb e below (T.setTop (mkF m 49 #[.val (.int k)] [])) target) : Steps tb e below (T.setTop (mkF m 44 #[.val (.int k)] [])) target := by
  refine XS.iloadN h hx rfl (hb hby d1_44) rfl ?_
  show Steps tb e below (T.setTop (mkF m 45 #[.val (.int k)] [.int k])) _
  refine XS.iconst h hx rfl (hb hby d1_45) ?_
  show Steps tb e below (T.setTop (mkF m 46 #[.val (.int k)] [.int (5 : Int32), .int k])) _
  exact XS.icmpNo h hx rfl (hb hby d1_46) rfl (teq hk).2 r
theorem own_sk6 {tb : Tables} [Ours tb] {e : Env} {below : List Frame} {T target : State} {m : MethodId} {c : Code} (h : At T m c below) (hx : tb.exec = Jvm.exec) (hby : c.code = method_2_code) {k : Int32} (hk : ¬ k = (6 : Int32)) (r : Steps tb e below (T.setTop (mkF m 63 #[.val (.int k)] [])) target) : Steps tb e below (T.setTop (mkF m 53 #[.val (.int k)] [])) target := by
  refine XS.iloadN h hx rfl (hb hby d1_53) rfl ?_
  show Steps tb e below (T.setTop (mkF m 54 #[.val (.int k)] [.int k])) _
  refine XS.bipush h hx rfl (hb hby d1_54) ?_
  show Steps tb e below (T.setTop (mkF m 56 #[.val (.int k)] [.int (6 : Int32), .int k])) _
  exact XS.icmpYes h hx rfl (pc0 := 56) (pc' := 63) rfl (hb hby d1_56) rfl (feq hk).2 (by decide) (by decide) r
theorem own_tk6 {tb : Tables} [Ours tb] {e : Env} {below : List Frame} {T target : State} {m : MethodId} {c : Code} (h : At T m c below) (hx : tb.exec = Jvm.exec) (hby : c.code = method_2_code) {k : Int32} (hk : k = (6 : Int32)) (r : Steps tb e below (T.setTop (mkF m 59 #[.val (.int k)] [])) target) : Steps tb e below (T.setTop (mkF m 53 #[.val (.int k)] [])) target := by
  refine XS.iloadN h hx rfl (hb hby d1_53) rfl ?_
  show Steps tb e below (T.setTop (mkF m 54 #[.val (.int k)] [.int k])) _
  refine XS.bipush h hx rfl (hb hby d1_54) ?_
  show Steps tb e below (T.setTop (mkF m 56 #[.val (.int k)] [.int (6 : Int32), .int k])) _
  exact XS.icmpNo h hx rfl (hb hby d1_56) rfl (teq hk).2 r
theorem own_sk7 {tb : Tables} [Ours tb] {e : Env} {below : List Frame} {T target : State} {m : MethodId} {c : Code} (h : At T m c below) (hx : tb.exec = Jvm.exec) (hby : c.code = method_2_code) {k : Int32} (hk : ¬ k = (7 : Int32)) (r : Steps tb e below (T.setTop (mkF m 73 #[.val (.int k)] [])) target) : Steps tb e below (T.setTop (mkF m 63 #[.val (.int k)] [])) target := by
  refine XS.iloadN h hx rfl (hb hby d1_63) rfl ?_
  show Steps tb e below (T.setTop (mkF m 64 #[.val (.int k)] [.int k])) _
  refine XS.bipush h hx rfl (hb hby d1_64) ?_
  show Steps tb e below (T.setTop (mkF m 66 #[.val (.int k)] [.int (7 : Int32), .int k])) _
  exact XS.icmpYes h hx rfl (pc0 := 66) (pc' := 73) rfl (hb hby d1_66) rfl (feq hk).2 (by decide) (by decide) r
theorem own_tk7 {tb : Tables} [Ours tb] {e : Env} {below : List Frame} {T target : State} {m : MethodId} {c : Code} (h : At T m c below) (hx : tb.exec = Jvm.exec) (hby : c.code = method_2_code) {k : Int32} (hk : k = (7 : Int32)) (r : Steps tb e below (T.setTop (mkF m 69 #[.val (.int k)] [])) target) : Steps tb e below (T.setTop (mkF m 63 #[.val (.int k)] [])) target := by
  refine XS.iloadN h hx rfl (hb hby d1_63) rfl ?_
  show Steps tb e below (T.setTop (mkF m 64 #[.val (.int k)] [.int k])) _
  refine XS.bipush h hx rfl (hb hby d1_64) ?_
  show Steps tb e below (T.setTop (mkF m 66 #[.val (.int k)] [.int (7 : Int32), .int k])) _
  exact XS.icmpNo h hx rfl (hb hby d1_66) rfl (teq hk).2 r
theorem own_sk8 {tb : Tables} [Ours tb] {e : Env} {below : List Frame} {T target : State} {m : MethodId} {c : Code} (h : At T m c below) (hx : tb.exec = Jvm.exec) (hby : c.code = method_2_code) {k : Int32} (hk : ¬ k = (8 : Int32)) (r : Steps tb e below (T.setTop (mkF m 83 #[.val (.int k)] [])) target) : Steps tb e below (T.setTop (mkF m 73 #[.val (.int k)] [])) target := by
  refine XS.iloadN h hx rfl (hb hby d1_73) rfl ?_
  show Steps tb e below (T.setTop (mkF m 74 #[.val (.int k)] [.int k])) _
  refine XS.bipush h hx rfl (hb hby d1_74) ?_
  show Steps tb e below (T.setTop (mkF m 76 #[.val (.int k)] [.int (8 : Int32), .int k])) _
  exact XS.icmpYes h hx rfl (pc0 := 76) (pc' := 83) rfl (hb hby d1_76) rfl (feq hk).2 (by decide) (by decide) r
theorem own_tk8 {tb : Tables} [Ours tb] {e : Env} {below : List Frame} {T target : State} {m : MethodId} {c : Code} (h : At T m c below) (hx : tb.exec = Jvm.exec) (hby : c.code = method_2_code) {k : Int32} (hk : k = (8 : Int32)) (r : Steps tb e below (T.setTop (mkF m 79 #[.val (.int k)] [])) target) : Steps tb e below (T.setTop (mkF m 73 #[.val (.int k)] [])) target := by
  refine XS.iloadN h hx rfl (hb hby d1_73) rfl ?_
  show Steps tb e below (T.setTop (mkF m 74 #[.val (.int k)] [.int k])) _
  refine XS.bipush h hx rfl (hb hby d1_74) ?_
  show Steps tb e below (T.setTop (mkF m 76 #[.val (.int k)] [.int (8 : Int32), .int k])) _
  exact XS.icmpNo h hx rfl (hb hby d1_76) rfl (teq hk).2 r
theorem own_sk9 {tb : Tables} [Ours tb] {e : Env} {below : List Frame} {T target : State} {m : MethodId} {c : Code} (h : At T m c below) (hx : tb.exec = Jvm.exec) (hby : c.code = method_2_code) {k : Int32} (hk : ¬ k = (9 : Int32)) (r : Steps tb e below (T.setTop (mkF m 93 #[.val (.int k)] [])) target) : Steps tb e below (T.setTop (mkF m 83 #[.val (.int k)] [])) target := by
  refine XS.iloadN h hx rfl (hb hby d1_83) rfl ?_
  show Steps tb e below (T.setTop (mkF m 84 #[.val (.int k)] [.int k])) _
  refine XS.bipush h hx rfl (hb hby d1_84) ?_
  show Steps tb e below (T.setTop (mkF m 86 #[.val (.int k)] [.int (9 : Int32), .int k])) _
  exact XS.icmpYes h hx rfl (pc0 := 86) (pc' := 93) rfl (hb hby d1_86) rfl (feq hk).2 (by decide) (by decide) r
theorem own_tk9 {tb : Tables} [Ours tb] {e : Env} {below : List Frame} {T target : State} {m : MethodId} {c : Code} (h : At T m c below) (hx : tb.exec = Jvm.exec) (hby : c.code = method_2_code) {k : Int32} (hk : k = (9 : Int32)) (r : Steps tb e below (T.setTop (mkF m 89 #[.val (.int k)] [])) target) : Steps tb e below (T.setTop (mkF m 83 #[.val (.int k)] [])) target := by
  refine XS.iloadN h hx rfl (hb hby d1_83) rfl ?_
  show Steps tb e below (T.setTop (mkF m 84 #[.val (.int k)] [.int k])) _
  refine XS.bipush h hx rfl (hb hby d1_84) ?_
  show Steps tb e below (T.setTop (mkF m 86 #[.val (.int k)] [.int (9 : Int32), .int k])) _
  exact XS.icmpNo h hx rfl (hb hby d1_86) rfl (teq hk).2 r
theorem own_sk10 {tb : Tables} [Ours tb] {e : Env} {below : List Frame} {T target : State} {m : MethodId} {c : Code} (h : At T m c below) (hx : tb.exec = Jvm.exec) (hby : c.code = method_2_code) {k : Int32} (hk : ¬ k = (10 : Int32)) (r : Steps tb e below (T.setTop (mkF m 103 #[.val (.int k)] [])) target) : Steps tb e below (T.setTop (mkF m 93 #[.val (.int k)] [])) target := by
  refine XS.iloadN h hx rfl (hb hby d1_93) rfl ?_
  show Steps tb e below (T.setTop (mkF m 94 #[.val (.int k)] [.int k])) _
  refine XS.bipush h hx rfl (hb hby d1_94) ?_
  show Steps tb e below (T.setTop (mkF m 96 #[.val (.int k)] [.int (10 : Int32), .int k])) _
  exact XS.icmpYes h hx rfl (pc0 := 96) (pc' := 103) rfl (hb hby d1_96) rfl (feq hk).2 (by decide) (by decide) r
theorem own_tk10 {tb : Tables} [Ours tb] {e : Env} {below : List Frame} {T target : State} {m : MethodId} {c : Code} (h : At T m c below) (hx : tb.exec = Jvm.exec) (hby : c.code = method_2_code) {k : Int32} (hk : k = (10 : Int32)) (r : Steps tb e below (T.setTop (mkF m 99 #[.val (.int k)] [])) target) : Steps tb e below (T.setTop (mkF m 93 #[.val (.int k)] [])) target := by
  refine XS.iloadN h hx rfl (hb hby d1_93) rfl ?_
  show Steps tb e below (T.setTop (mkF m 94 #[.val (.int k)] [.int k])) _
  refine XS.bipush h hx rfl (hb hby d1_94) ?_
  show Steps tb e below (T.setTop (mkF m 96 #[.val (.int k)] [.int (10 : Int32), .int k])) _
  exact XS.icmpNo h hx rfl (hb hby d1_96) rfl (teq hk).2 r
theorem own_sk11 {tb : Tables} [Ours tb] {e : Env} {below : List Frame} {T target : State} {m : MethodId} {c : Code} (h : At T m c below) (hx : tb.exec = Jvm.exec) (hby : c.code = method_2_code) {k : Int32} (hk : ¬ k = (11 : Int32)) (r : Steps tb e below (T.setTop (mkF m 113 #[.val (.int k)] [])) target) : Steps tb e below (T.setTop (mkF m 103 #[.val (.int k)] [])) target := by
  refine XS.iloadN h hx rfl (hb hby d1_103) rfl ?_
  show Steps tb e below (T.setTop (mkF m 104 #[.val (.int k)] [.int k])) _
  refine XS.bipush h hx rfl (hb hby d1_104) ?_
  show Steps tb e below (T.setTop (mkF m 106 #[.val (.int k)] [.int (11 : Int32), .int k])) _
  exact XS.icmpYes h hx rfl (pc0 := 106) (pc' := 113) rfl (hb hby d1_106) rfl (feq hk).2 (by decide) (by decide) r
theorem own_tk11 {tb : Tables} [Ours tb] {e : Env} {below : List Frame} {T target : State} {m : MethodId} {c : Code} (h : At T m c below) (hx : tb.exec = Jvm.exec) (hby : c.code = method_2_code) {k : Int32} (hk : k = (11 : Int32)) (r : Steps tb e below (T.setTop (mkF m 109 #[.val (.int k)] [])) target) : Steps tb e below (T.setTop (mkF m 103 #[.val (.int k)] [])) target := by
  refine XS.iloadN h hx rfl (hb hby d1_103) rfl ?_
  show Steps tb e below (T.setTop (mkF m 104 #[.val (.int k)] [.int k])) _
  refine XS.bipush h hx rfl (hb hby d1_104) ?_
  show Steps tb e below (T.setTop (mkF m 106 #[.val (.int k)] [.int (11 : Int32), .int k])) _
  exact XS.icmpNo h hx rfl (hb hby d1_106) rfl (teq hk).2 r
theorem own_sk12 {tb : Tables} [Ours tb] {e : Env} {below : List Frame} {T target : State} {m : MethodId} {c : Code} (h : At T m c below) (hx : tb.exec = Jvm.exec) (hby : c.code = method_2_code) {k : Int32} (hk : ¬ k = (12 : Int32)) (r : Steps tb e below (T.setTop (mkF m 123 #[.val (.int k)] [])) target) : Steps tb e below (T.setTop (mkF m 113 #[.val (.int k)] [])) target := by
  refine XS.iloadN h hx rfl (hb hby d1_113) rfl ?_
  show Steps tb e below (T.setTop (mkF m 114 #[.val (.int k)] [.int k])) _
  refine XS.bipush h hx rfl (hb hby d1_114) ?_
  show Steps tb e below (T.setTop (mkF m 116 #[.val (.int k)] [.int (12 : Int32), .int k])) _
  exact XS.icmpYes h hx rfl (pc0 := 116) (pc' := 123) rfl (hb hby d1_116) rfl (feq hk).2 (by decide) (by decide) r
theorem own_tk12 {tb : Tables} [Ours tb] {e : Env} {below : List Frame} {T target : State} {m : MethodId} {c : Code} (h : At T m c below) (hx : tb.exec = Jvm.exec) (hby : c.code = method_2_code) {k : Int32} (hk : k = (12 : Int32)) (r : Steps tb e below (T.setTop (mkF m 119 #[.val (.int k)] [])) target) : Steps tb e below (T.setTop (mkF m 113 #[.val (.int k)] [])) target := by
  refine XS.iloadN h hx rfl (hb hby d1_113) rfl ?_
  show Steps tb e below (T.setTop (mkF m 114 #[.val (.int k)] [.int k])) _
  refine XS.bipush h hx rfl (hb hby d1_114) ?_
  show Steps tb e below (T.setTop (mkF m 116 #[.val (.int k)] [.int (12 : Int32), .int k])) _
  exact XS.icmpNo h hx rfl (hb hby d1_116) rfl (teq hk).2 r
theorem own_sk13 {tb : Tables} [Ours tb] {e : Env} {below : List Frame} {T target : State} {m : MethodId} {c : Code} (h : At T m c below) (hx : tb.exec = Jvm.exec) (hby : c.code = method_2_code) {k : Int32} (hk : ¬ k = (13 : Int32)) (r : Steps tb e below (T.setTop (mkF m 133 #[.val (.int k)] [])) target) : Steps tb e below (T.setTop (mkF m 123 #[.val (.int k)] [])) target := by
  refine XS.iloadN h hx rfl (hb hby d1_123) rfl ?_
  show Steps tb e below (T.setTop (mkF m 124 #[.val (.int k)] [.int k])) _
  refine XS.bipush h hx rfl (hb hby d1_124) ?_
  show Steps tb e below (T.setTop (mkF m 126 #[.val (.int k)] [.int (13 : Int32), .int k])) _
  exact XS.icmpYes h hx rfl (pc0 := 126) (pc' := 133) rfl (hb hby d1_126) rfl (feq hk).2 (by decide) (by decide) r
theorem own_tk13 {tb : Tables} [Ours tb] {e : Env} {below : List Frame} {T target : State} {m : MethodId} {c : Code} (h : At T m c below) (hx : tb.exec = Jvm.exec) (hby : c.code = method_2_code) {k : Int32} (hk : k = (13 : Int32)) (r : Steps tb e below (T.setTop (mkF m 129 #[.val (.int k)] [])) target) : Steps tb e below (T.setTop (mkF m 123 #[.val (.int k)] [])) target := by
  refine XS.iloadN h hx rfl (hb hby d1_123) rfl ?_
  show Steps tb e below (T.setTop (mkF m 124 #[.val (.int k)] [.int k])) _
  refine XS.bipush h hx rfl (hb hby d1_124) ?_
  show Steps tb e below (T.setTop (mkF m 126 #[.val (.int k)] [.int (13 : Int32), .int k])) _
  exact XS.icmpNo h hx rfl (hb hby d1_126) rfl (teq hk).2 r
theorem own_sk14 {tb : Tables} [Ours tb] {e : Env} {below : List Frame} {T target : State} {m : MethodId} {c : Code} (h : At T m c below) (hx : tb.exec = Jvm.exec) (hby : c.code = method_2_code) {k : Int32} (hk : ¬ k = (14 : Int32)) (r : Steps tb e below (T.setTop (mkF m 143 #[.val (.int k)] [])) target) : Steps tb e below (T.setTop (mkF m 133 #[.val (.int k)] [])) target := by
  refine XS.iloadN h hx rfl (hb hby d1_133) rfl ?_
  show Steps tb e below (T.setTop (mkF m 134 #[.val (.int k)] [.int k])) _
  refine XS.bipush h hx rfl (hb hby d1_134) ?_
  show Steps tb e below (T.setTop (mkF m 136 #[.val (.int k)] [.int (14 : Int32), .int k])) _
  exact XS.icmpYes h hx rfl (pc0 := 136) (pc' := 143) rfl (hb hby d1_136) rfl (feq hk).2 (by decide) (by decide) r
theorem own_tk14 {tb : Tables} [Ours tb] {e : Env} {below : List Frame} {T target : State} {m : MethodId} {c : Code} (h : At T m c below) (hx : tb.exec = Jvm.exec) (hby : c.code = method_2_code) {k : Int32} (hk : k = (14 : Int32)) (r : Steps tb e below (T.setTop (mkF m 139 #[.val (.int k)] [])) target) : Steps tb e below (T.setTop (mkF m 133 #[.val (.int k)] [])) target := by
  refine XS.iloadN h hx rfl (hb hby d1_133) rfl ?_
  show Steps tb e below (T.setTop (mkF m 134 #[.val (.int k)] [.int k])) _
  refine XS.bipush h hx rfl (hb hby d1_134) ?_
  show Steps tb e below (T.setTop (mkF m 136 #[.val (.int k)] [.int (14 : Int32), .int k])) _
  exact XS.icmpNo h hx rfl (hb hby d1_136) rfl (teq hk).2 r
theorem own_sk15 {tb : Tables} [Ours tb] {e : Env} {below : List Frame} {T target : State} {m : MethodId} {c : Code} (h : At T m c below) (hx : tb.exec = Jvm.exec) (hby : c.code = method_2_code) {k : Int32} (hk : ¬ k = (15 : Int32)) (r : Steps tb e below (T.setTop (mkF m 153 #[.val (.int k)] [])) target) : Steps tb e below (T.setTop (mkF m 143 #[.val (.int k)] [])) target := by
  refine XS.iloadN h hx rfl (hb hby d1_143) rfl ?_
  show Steps tb e below (T.setTop (mkF m 144 #[.val (.int k)] [.int k])) _
  refine XS.bipush h hx rfl (hb hby d1_144) ?_
  show Steps tb e below (T.setTop (mkF m 146 #[.val (.int k)] [.int (15 : Int32), .int k])) _
  exact XS.icmpYes h hx rfl (pc0 := 146) (pc' := 153) rfl (hb hby d1_146) rfl (feq hk).2 (by decide) (by decide) r
theorem own_tk15 {tb : Tables} [Ours tb] {e : Env} {below : List Frame} {T target : State} {m : MethodId} {c : Code} (h : At T m c below) (hx : tb.exec = Jvm.exec) (hby : c.code = method_2_code) {k : Int32} (hk : k = (15 : Int32)) (r : Steps tb e below (T.setTop (mkF m 149 #[.val (.int k)] [])) target) : Steps tb e below (T.setTop (mkF m 143 #[.val (.int k)] [])) target := by
  refine XS.iloadN h hx rfl (hb hby d1_143) rfl ?_
  show Steps tb e below (T.setTop (mkF m 144 #[.val (.int k)] [.int k])) _
  refine XS.bipush h hx rfl (hb hby d1_144) ?_
  show Steps tb e below (T.setTop (mkF m 146 #[.val (.int k)] [.int (15 : Int32), .int k])) _
  exact XS.icmpNo h hx rfl (hb hby d1_146) rfl (teq hk).2 r
theorem own_sk16 {tb : Tables} [Ours tb] {e : Env} {below : List Frame} {T target : State} {m : MethodId} {c : Code} (h : At T m c below) (hx : tb.exec = Jvm.exec) (hby : c.code = method_2_code) {k : Int32} (hk : ¬ k = (16 : Int32)) (r : Steps tb e below (T.setTop (mkF m 163 #[.val (.int k)] [])) target) : Steps tb e below (T.setTop (mkF m 153 #[.val (.int k)] [])) target := by
  refine XS.iloadN h hx rfl (hb hby d1_153) rfl ?_
  show Steps tb e below (T.setTop (mkF m 154 #[.val (.int k)] [.int k])) _
  refine XS.bipush h hx rfl (hb hby d1_154) ?_
  show Steps tb e below (T.setTop (mkF m 156 #[.val (.int k)] [.int (16 : Int32), .int k])) _
  exact XS.icmpYes h hx rfl (pc0 := 156) (pc' := 163) rfl (hb hby d1_156) rfl (feq hk).2 (by decide) (by decide) r
theorem own_tk16 {tb : Tables} [Ours tb] {e : Env} {below : List Frame} {T target : State} {m : MethodId} {c : Code} (h : At T m c below) (hx : tb.exec = Jvm.exec) (hby : c.code = method_2_code) {k : Int32} (hk : k = (16 : Int32)) (r : Steps tb e below (T.setTop (mkF m 159 #[.val (.int k)] [])) target) : Steps tb e below (T.setTop (mkF m 153 #[.val (.int k)] [])) target := by
  refine XS.iloadN h hx rfl (hb hby d1_153) rfl ?_
  show Steps tb e below (T.setTop (mkF m 154 #[.val (.int k)] [.int k])) _
  refine XS.bipush h hx rfl (hb hby d1_154) ?_
  show Steps tb e below (T.setTop (mkF m 156 #[.val (.int k)] [.int (16 : Int32), .int k])) _
  exact XS.icmpNo h hx rfl (hb hby d1_156) rfl (teq hk).2 r
theorem pn_L : plainName "com/example/ithuriel/ithuriel/model/OperatorIsLogicalPinLaw" = true := by first | (simp [plainName, overriddenIn]; done) | decide +kernel
theorem ef_P (m : MethodId) (x0 : Int32) : entryFrame m #[(.int x0)] 1 = mkF m 0 #[.val (.int x0)] [] := by first | (simp [entryFrame, mkF, argsToLocals, Value.category]; done) | rfl
def Q_own_pk (Z : State) (k : Int32) (w : Addr) (h0 : Heap) (n0 : Nat) (v : Option Value) (hp : Heap) (L : List Loc) : Prop := v = some (.ref w) ∧ Fr n0 L ∧ hp = h0
set_option maxRecDepth 65536 in
set_option maxHeartbeats 40000000 in
theorem own_pk (l : Launch) (Z : State) (a0 : Array Value) (hw : ∀ d ∈ tables_1, d.before a0 Z = true) (ws : List Jvm.Cond) (k : Int32) (w : Addr) (h0 : Heap) (n0 : Nat) (Z0 : n0 ≤ h0.size) (pcG idx : Nat) (nm : String) (S : Sta Z h0 "com/example/ithuriel/ithuriel/model/BinaryExpression$Operator" nm "Lcom/example/ithuriel/ithuriel/model/BinaryExpression$Operator;" (.ref w)) (lk : (Jvm.Cond.fieldLink "com/example/ithuriel/ithuriel/model/OperatorIsLogicalPinLaw" idx "com/example/ithuriel/ithuriel/model/BinaryExpression$Operator" nm "Lcom/example/ithuriel/ithuriel/model/BinaryExpression$Operator;").before a0 Z = true) (dG : decode method_2_code pcG = .ok (.getstatic idx, 3)) (dR : decode method_2_code (pcG + 3) = .ok (.areturn, 1)) (reach : ∀ {tb : Tables} [Ours tb] {e : Env} {below : List Frame} {T target : State} {m : MethodId} {c : Code}, At T m c below → tb.exec = Jvm.exec → c.code = method_2_code → Steps tb e below (T.setTop (mkF m pcG #[.val (.int k)] [])) target → Steps tb e below (T.setTop (mkF m 0 #[.val (.int k)] [])) target) :
    MetFree l (⟨"com/example/ithuriel/ithuriel/model/OperatorIsLogicalPinLaw", "op", "(I)Lcom/example/ithuriel/ithuriel/model/BinaryExpression$Operator;"⟩ : MethodName) (head1 (Jvm.Cond.code (⟨"com/example/ithuriel/ithuriel/model/OperatorIsLogicalPinLaw", "op", "(I)Lcom/example/ithuriel/ithuriel/model/BinaryExpression$Operator;"⟩ : MethodName) method_2_code 1 (some (.object "com/example/ithuriel/ithuriel/model/BinaryExpression$Operator")) :: ws) ({ frames := 0, cells := 0, slots := 0, locals := 0 } : Room)) (fun aa U => aa = #[.int k] ∧ Z.Warmed39 U.vm ∧ U.heap = h0) (fun _ _ _ _ _ => True) (fun _ U o U' => ∃ v L, o = .returned v ∧ (Q_own_pk Z k w h0 n0 v U'.heap L) ∧ FrameEnd U o U' L ({ frames := 0, cells := 0, slots := 0, locals := 0 } : Room).cells ({ frames := 0, cells := 0, slots := 0, locals := 0 } : Room).slots) := by
  refine MetFree.of_bodySF (plainFor_of_name pn_L) hisR ?_
  intro p e s m args below meth c s₁ Bd hml0 hP hK
  obtain ⟨rfl, hZ, hh⟩ := hP
  have hx := Bd.exec
  have hby := Bd.bytes
  have hml : c.maxLocals = 1 := hml0
  have hown : s.vm.findClass "com/example/ithuriel/ithuriel/model/OperatorIsLogicalPinLaw" = some m.cls := findClass_of_methodNamed Bd.named
  have hnm := (name_of_methodNamed Bd.named Bd.method).1
  have X0 : Stand p l e ({ frames := 0, cells := 0, slots := 0, locals := 0 } : Room) s m #[.int k] below meth c s₁ [] 0 0 := Stand.of_body Bd
  have e0 : s₁.heap = h0 := by rw [← hh, Bd.state]; rfl
  have N0 := Fr.nil n0
  have pre0 : ∀ t, Steps p.tables e below (s₁.setTop (mkF m 0 #[.val (.int k)] [])) t → Steps p.tables e below (s₁.setTop (entryFrame m #[.int k] 1)) t := fun t kk => castTop (ef_P m k) kk
  obtain ⟨T3, X3, e3, st3⟩ := getS2 X0 hx hZ hown (host := "") (Or.inl lk) Via.refl e0 S (g := (mkF m pcG #[.val (.int k)] [])) rfl (hb hby dG)
  obtain ⟨fs, hr, hrun, hended, hW, hsame⟩ := X3.leave (v := some (.ref w)) (fun h => by rw [Bd.returns] at h; cases h)
  refine ⟨_, _, pre0 _ ?_, hrun, hended, _, _, rfl, ?_, ⟨_, rfl⟩, hW, hsame.mono (by decide) (by decide)⟩
  · refine reach X0.here hx hby ?_
    refine st3 _ ?_
    show Steps p.tables e below (T3.setTop (mkF m (pcG + 3) #[.val (.int k)] [(.ref w)])) _
    jvm_step X3.here [X3.here.top, hx, (hb hby dR), X3.method', Bd.returns, Value.isRef, FieldType.isReference]
    first | (intro acts; rw [hr _ acts rfl rfl rfl]) | rw [hr _ _ rfl rfl rfl]
    exact Steps.refl _
  · exact ⟨rfl, N0, e3⟩
def own_Pick (Z : State) (h : Heap) (k : Int32) (w : Addr) : Prop := (k = (0 : Int32) ∧ Sta Z h "com/example/ithuriel/ithuriel/model/BinaryExpression$Operator" "MULTIPLY" "Lcom/example/ithuriel/ithuriel/model/BinaryExpression$Operator;" (.ref w)) ∨ (k = (1 : Int32) ∧ Sta Z h "com/example/ithuriel/ithuriel/model/BinaryExpression$Operator" "DIVIDE" "Lcom/example/ithuriel/ithuriel/model/BinaryExpression$Operator;" (.ref w)) ∨ (k = (2 : Int32) ∧ Sta Z h "com/example/ithuriel/ithuriel/model/BinaryExpression$Operator" "REMAINDER" "Lcom/example/ithuriel/ithuriel/model/BinaryExpression$Operator;" (.ref w)) ∨ (k = (3 : Int32) ∧ Sta Z h "com/example/ithuriel/ithuriel/model/BinaryExpression$Operator" "ADD" "Lcom/example/ithuriel/ithuriel/model/BinaryExpression$Operator;" (.ref w)) ∨ (k = (4 : Int32) ∧ Sta Z h "com/example/ithuriel/ithuriel/model/BinaryExpression$Operator" "SUBTRACT" "Lcom/example/ithuriel/ithuriel/model/BinaryExpression$Operator;" (.ref w)) ∨ (k = (5 : Int32) ∧ Sta Z h "com/example/ithuriel/ithuriel/model/BinaryExpression$Operator" "SHIFT_LEFT" "Lcom/example/ithuriel/ithuriel/model/BinaryExpression$Operator;" (.ref w)) ∨ (k = (6 : Int32) ∧ Sta Z h "com/example/ithuriel/ithuriel/model/BinaryExpression$Operator" "SHIFT_RIGHT" "Lcom/example/ithuriel/ithuriel/model/BinaryExpression$Operator;" (.ref w)) ∨ (k = (7 : Int32) ∧ Sta Z h "com/example/ithuriel/ithuriel/model/BinaryExpression$Operator" "LESS" "Lcom/example/ithuriel/ithuriel/model/BinaryExpression$Operator;" (.ref w)) ∨ (k = (8 : Int32) ∧ Sta Z h "com/example/ithuriel/ithuriel/model/BinaryExpression$Operator" "GREATER" "Lcom/example/ithuriel/ithuriel/model/BinaryExpression$Operator;" (.ref w)) ∨ (k = (9 : Int32) ∧ Sta Z h "com/example/ithuriel/ithuriel/model/BinaryExpression$Operator" "LESS_EQUAL" "Lcom/example/ithuriel/ithuriel/model/BinaryExpression$Operator;" (.ref w)) ∨ (k = (10 : Int32) ∧ Sta Z h "com/example/ithuriel/ithuriel/model/BinaryExpression$Operator" "GREATER_EQUAL" "Lcom/example/ithuriel/ithuriel/model/BinaryExpression$Operator;" (.ref w)) ∨ (k = (11 : Int32) ∧ Sta Z h "com/example/ithuriel/ithuriel/model/BinaryExpression$Operator" "EQUAL" "Lcom/example/ithuriel/ithuriel/model/BinaryExpression$Operator;" (.ref w)) ∨ (k = (12 : Int32) ∧ Sta Z h "com/example/ithuriel/ithuriel/model/BinaryExpression$Operator" "NOT_EQUAL" "Lcom/example/ithuriel/ithuriel/model/BinaryExpression$Operator;" (.ref w)) ∨ (k = (13 : Int32) ∧ Sta Z h "com/example/ithuriel/ithuriel/model/BinaryExpression$Operator" "BIT_AND" "Lcom/example/ithuriel/ithuriel/model/BinaryExpression$Operator;" (.ref w)) ∨ (k = (14 : Int32) ∧ Sta Z h "com/example/ithuriel/ithuriel/model/BinaryExpression$Operator" "BIT_XOR" "Lcom/example/ithuriel/ithuriel/model/BinaryExpression$Operator;" (.ref w)) ∨ (k = (15 : Int32) ∧ Sta Z h "com/example/ithuriel/ithuriel/model/BinaryExpression$Operator" "BIT_OR" "Lcom/example/ithuriel/ithuriel/model/BinaryExpression$Operator;" (.ref w)) ∨ (k = (16 : Int32) ∧ Sta Z h "com/example/ithuriel/ithuriel/model/BinaryExpression$Operator" "LOGICAL_AND" "Lcom/example/ithuriel/ithuriel/model/BinaryExpression$Operator;" (.ref w)) ∨ (k = (17 : Int32) ∧ Sta Z h "com/example/ithuriel/ithuriel/model/BinaryExpression$Operator" "LOGICAL_OR" "Lcom/example/ithuriel/ithuriel/model/BinaryExpression$Operator;" (.ref w))
def Q_rm1 (Z : State) (k : Int32) (w : Addr) (h0 : Heap) (n0 : Nat) (v : Option Value) (hp : Heap) (L : List Loc) : Prop := v = some (.ref w) ∧ Fr n0 L ∧ hp = h0
set_option maxRecDepth 65536 in
set_option maxHeartbeats 40000000 in
theorem rm1 (l : Launch) (Z : State) (a0 : Array Value) (hw : ∀ d ∈ tables_1, d.before a0 Z = true) (ws : List Jvm.Cond) (k : Int32) (w : Addr) (h0 : Heap) (n0 : Nat) (Z0 : n0 ≤ h0.size) (PK : own_Pick Z h0 k w) :
    MetFree l (⟨"com/example/ithuriel/ithuriel/model/OperatorIsLogicalPinLaw", "op", "(I)Lcom/example/ithuriel/ithuriel/model/BinaryExpression$Operator;"⟩ : MethodName) (head1 (Jvm.Cond.code (⟨"com/example/ithuriel/ithuriel/model/OperatorIsLogicalPinLaw", "op", "(I)Lcom/example/ithuriel/ithuriel/model/BinaryExpression$Operator;"⟩ : MethodName) method_2_code 1 (some (.object "com/example/ithuriel/ithuriel/model/BinaryExpression$Operator")) :: ws) ({ frames := 0, cells := 0, slots := 0, locals := 0 } : Room)) (fun aa U => aa = #[.int k] ∧ Z.Warmed39 U.vm ∧ U.heap = h0) (fun _ _ _ _ _ => True) (fun _ U o U' => ∃ v L, o = .returned v ∧ (Q_rm1 Z k w h0 n0 v U'.heap L) ∧ FrameEnd U o U' L ({ frames := 0, cells := 0, slots := 0, locals := 0 } : Room).cells ({ frames := 0, cells := 0, slots := 0, locals := 0 } : Room).slots) := by
  rcases PK with ⟨rfl, S⟩ | ⟨rfl, S⟩ | ⟨rfl, S⟩ | ⟨rfl, S⟩ | ⟨rfl, S⟩ | ⟨rfl, S⟩ | ⟨rfl, S⟩ | ⟨rfl, S⟩ | ⟨rfl, S⟩ | ⟨rfl, S⟩ | ⟨rfl, S⟩ | ⟨rfl, S⟩ | ⟨rfl, S⟩ | ⟨rfl, S⟩ | ⟨rfl, S⟩ | ⟨rfl, S⟩ | ⟨rfl, S⟩ | ⟨rfl, S⟩
  · exact own_pk l Z a0 hw ws 0 w h0 n0 Z0 4 7 "MULTIPLY" S (hw _ (List.mem_of_getElem? (i := 5) rfl)) d1_4 d1_7 (fun h hx hby r => (own_tk0 h hx hby rfl r))
  · exact own_pk l Z a0 hw ws 1 w h0 n0 Z0 13 13 "DIVIDE" S (hw _ (List.mem_of_getElem? (i := 21) rfl)) d1_13 d1_16 (fun h hx hby r => (own_sk0 h hx hby (by decide) (own_tk1 h hx hby rfl r)))
  · exact own_pk l Z a0 hw ws 2 w h0 n0 Z0 22 16 "REMAINDER" S (hw _ (List.mem_of_getElem? (i := 19) rfl)) d1_22 d1_25 (fun h hx hby r => (own_sk0 h hx hby (by decide) (own_sk1 h hx hby (by decide) (own_tk2 h hx hby rfl r))))
  · exact own_pk l Z a0 hw ws 3 w h0 n0 Z0 31 19 "ADD" S (hw _ (List.mem_of_getElem? (i := 17) rfl)) d1_31 d1_34 (fun h hx hby r => (own_sk0 h hx hby (by decide) (own_sk1 h hx hby (by decide) (own_sk2 h hx hby (by decide) (own_tk3 h hx hby rfl r)))))
  · exact own_pk l Z a0 hw ws 4 w h0 n0 Z0 40 22 "SUBTRACT" S (hw _ (List.mem_of_getElem? (i := 27) rfl)) d1_40 d1_43 (fun h hx hby r => (own_sk0 h hx hby (by decide) (own_sk1 h hx hby (by decide) (own_sk2 h hx hby (by decide) (own_sk3 h hx hby (by decide) (own_tk4 h hx hby rfl r))))))
  · exact own_pk l Z a0 hw ws 5 w h0 n0 Z0 49 25 "SHIFT_LEFT" S (hw _ (List.mem_of_getElem? (i := 45) rfl)) d1_49 d1_52 (fun h hx hby r => (own_sk0 h hx hby (by decide) (own_sk1 h hx hby (by decide) (own_sk2 h hx hby (by decide) (own_sk3 h hx hby (by decide) (own_sk4 h hx hby (by decide) (own_tk5 h hx hby rfl r)))))))
  · exact own_pk l Z a0 hw ws 6 w h0 n0 Z0 59 28 "SHIFT_RIGHT" S (hw _ (List.mem_of_getElem? (i := 40) rfl)) d1_59 d1_62 (fun h hx hby r => (own_sk0 h hx hby (by decide) (own_sk1 h hx hby (by decide) (own_sk2 h hx hby (by decide) (own_sk3 h hx hby (by decide) (own_sk4 h hx hby (by decide) (own_sk5 h hx hby (by decide) (own_tk6 h hx hby rfl r))))))))
  · exact own_pk l Z a0 hw ws 7 w h0 n0 Z0 69 31 "LESS" S (hw _ (List.mem_of_getElem? (i := 23) rfl)) d1_69 d1_72 (fun h hx hby r => (own_sk0 h hx hby (by decide) (own_sk1 h hx hby (by decide) (own_sk2 h hx hby (by decide) (own_sk3 h hx hby (by decide) (own_sk4 h hx hby (by decide) (own_sk5 h hx hby (by decide) (own_sk6 h hx hby (by decide) (own_tk7 h hx hby rfl r)))))))))
  · exact own_pk l Z a0 hw ws 8 w h0 n0 Z0 79 34 "GREATER" S (hw _ (List.mem_of_getElem? (i := 29) rfl)) d1_79 d1_82 (fun h hx hby r => (own_sk0 h hx hby (by decide) (own_sk1 h hx hby (by decide) (own_sk2 h hx hby (by decide) (own_sk3 h hx hby (by decide) (own_sk4 h hx hby (by decide) (own_sk5 h hx hby (by decide) (own_sk6 h hx hby (by decide) (own_sk7 h hx hby (by decide) (own_tk8 h hx hby rfl r))))))))))
  · exact own_pk l Z a0 hw ws 9 w h0 n0 Z0 89 37 "LESS_EQUAL" S (hw _ (List.mem_of_getElem? (i := 47) rfl)) d1_89 d1_92 (fun h hx hby r => (own_sk0 h hx hby (by decide) (own_sk1 h hx hby (by decide) (own_sk2 h hx hby (by decide) (own_sk3 h hx hby (by decide) (own_sk4 h hx hby (by decide) (own_sk5 h hx hby (by decide) (own_sk6 h hx hby (by decide) (own_sk7 h hx hby (by decide) (own_sk8 h hx hby (by decide) (own_tk9 h hx hby rfl r)))))))))))
  · exact own_pk l Z a0 hw ws 10 w h0 n0 Z0 99 40 "GREATER_EQUAL" S (hw _ (List.mem_of_getElem? (i := 36) rfl)) d1_99 d1_102 (fun h hx hby r => (own_sk0 h hx hby (by decide) (own_sk1 h hx hby (by decide) (own_sk2 h hx hby (by decide) (own_sk3 h hx hby (by decide) (own_sk4 h hx hby (by decide) (own_sk5 h hx hby (by decide) (own_sk6 h hx hby (by decide) (own_sk7 h hx hby (by decide) (own_sk8 h hx hby (by decide) (own_sk9 h hx hby (by decide) (own_tk10 h hx hby rfl r))))))))))))
  · exact own_pk l Z a0 hw ws 11 w h0 n0 Z0 109 43 "EQUAL" S (hw _ (List.mem_of_getElem? (i := 25) rfl)) d1_109 d1_112 (fun h hx hby r => (own_sk0 h hx hby (by decide) (own_sk1 h hx hby (by decide) (own_sk2 h hx hby (by decide) (own_sk3 h hx hby (by decide) (own_sk4 h hx hby (by decide) (own_sk5 h hx hby (by decide) (own_sk6 h hx hby (by decide) (own_sk7 h hx hby (by decide) (own_sk8 h hx hby (by decide) (own_sk9 h hx hby (by decide) (own_sk10 h hx hby (by decide) (own_tk11 h hx hby rfl r)))))))))))))
  · exact own_pk l Z a0 hw ws 12 w h0 n0 Z0 119 46 "NOT_EQUAL" S (hw _ (List.mem_of_getElem? (i := 31) rfl)) d1_119 d1_122 (fun h hx hby r => (own_sk0 h hx hby (by decide) (own_sk1 h hx hby (by decide) (own_sk2 h hx hby (by decide) (own_sk3 h hx hby (by decide) (own_sk4 h hx hby (by decide) (own_sk5 h hx hby (by decide) (own_sk6 h hx hby (by decide) (own_sk7 h hx hby (by decide) (own_sk8 h hx hby (by decide) (own_sk9 h hx hby (by decide) (own_sk10 h hx hby (by decide) (own_sk11 h hx hby (by decide) (own_tk12 h hx hby rfl r))))))))))))))
  · exact own_pk l Z a0 hw ws 13 w h0 n0 Z0 129 49 "BIT_AND" S (hw _ (List.mem_of_getElem? (i := 38) rfl)) d1_129 d1_132 (fun h hx hby r => (own_sk0 h hx hby (by decide) (own_sk1 h hx hby (by decide) (own_sk2 h hx hby (by decide) (own_sk3 h hx hby (by decide) (own_sk4 h hx hby (by decide) (own_sk5 h hx hby (by decide) (own_sk6 h hx hby (by decide) (own_sk7 h hx hby (by decide) (own_sk8 h hx hby (by decide) (own_sk9 h hx hby (by decide) (own_sk10 h hx hby (by decide) (own_sk11 h hx hby (by decide) (own_sk12 h hx hby (by decide) (own_tk13 h hx hby rfl r)))))))))))))))
  · exact own_pk l Z a0 hw ws 14 w h0 n0 Z0 139 52 "BIT_XOR" S (hw _ (List.mem_of_getElem? (i := 43) rfl)) d1_139 d1_142 (fun h hx hby r => (own_sk0 h hx hby (by decide) (own_sk1 h hx hby (by decide) (own_sk2 h hx hby (by decide) (own_sk3 h hx hby (by decide) (own_sk4 h hx hby (by decide) (own_sk5 h hx hby (by decide) (own_sk6 h hx hby (by decide) (own_sk7 h hx hby (by decide) (own_sk8 h hx hby (by decide) (own_sk9 h hx hby (by decide) (own_sk10 h hx hby (by decide) (own_sk11 h hx hby (by decide) (own_sk12 h hx hby (by decide) (own_sk13 h hx hby (by decide) (own_tk14 h hx hby rfl r))))))))))))))))
  · exact own_pk l Z a0 hw ws 15 w h0 n0 Z0 149 55 "BIT_OR" S (hw _ (List.mem_of_getElem? (i := 34) rfl)) d1_149 d1_152 (fun h hx hby r => (own_sk0 h hx hby (by decide) (own_sk1 h hx hby (by decide) (own_sk2 h hx hby (by decide) (own_sk3 h hx hby (by decide) (own_sk4 h hx hby (by decide) (own_sk5 h hx hby (by decide) (own_sk6 h hx hby (by decide) (own_sk7 h hx hby (by decide) (own_sk8 h hx hby (by decide) (own_sk9 h hx hby (by decide) (own_sk10 h hx hby (by decide) (own_sk11 h hx hby (by decide) (own_sk12 h hx hby (by decide) (own_sk13 h hx hby (by decide) (own_sk14 h hx hby (by decide) (own_tk15 h hx hby rfl r)))))))))))))))))
  · exact own_pk l Z a0 hw ws 16 w h0 n0 Z0 159 58 "LOGICAL_AND" S (hw _ (List.mem_of_getElem? (i := 33) rfl)) d1_159 d1_162 (fun h hx hby r => (own_sk0 h hx hby (by decide) (own_sk1 h hx hby (by decide) (own_sk2 h hx hby (by decide) (own_sk3 h hx hby (by decide) (own_sk4 h hx hby (by decide) (own_sk5 h hx hby (by decide) (own_sk6 h hx hby (by decide) (own_sk7 h hx hby (by decide) (own_sk8 h hx hby (by decide) (own_sk9 h hx hby (by decide) (own_sk10 h hx hby (by decide) (own_sk11 h hx hby (by decide) (own_sk12 h hx hby (by decide) (own_sk13 h hx hby (by decide) (own_sk14 h hx hby (by decide) (own_sk15 h hx hby (by decide) (own_tk16 h hx hby rfl r))))))))))))))))))
  · exact own_pk l Z a0 hw ws 17 w h0 n0 Z0 163 61 "LOGICAL_OR" S (hw _ (List.mem_of_getElem? (i := 42) rfl)) d1_163 d1_166 (fun h hx hby r => (own_sk0 h hx hby (by decide) (own_sk1 h hx hby (by decide) (own_sk2 h hx hby (by decide) (own_sk3 h hx hby (by decide) (own_sk4 h hx hby (by decide) (own_sk5 h hx hby (by decide) (own_sk6 h hx hby (by decide) (own_sk7 h hx hby (by decide) (own_sk8 h hx hby (by decide) (own_sk9 h hx hby (by decide) (own_sk10 h hx hby (by decide) (own_sk11 h hx hby (by decide) (own_sk12 h hx hby (by decide) (own_sk13 h hx hby (by decide) (own_sk14 h hx hby (by decide) (own_sk15 h hx hby (by decide) (own_sk16 h hx hby (by decide) r))))))))))))))))))
theorem d2_0 : decode prog_75_method_6_code 0 = .ok (.aload_n 0, 1) := by decide +kernel
theorem d2_1 : decode prog_75_method_6_code 1 = .ok (.getstatic 52, 3) := by decide +kernel
theorem d2_4 : decode prog_75_method_6_code 4 = .ok (.if_acmp .eq 10, 3) := by decide +kernel
theorem d2_14 : decode prog_75_method_6_code 14 = .ok (.iconst 1, 1) := by decide +kernel
theorem d2_15 : decode prog_75_method_6_code 15 = .ok (.goto 4, 3) := by decide +kernel
theorem d2_19 : decode prog_75_method_6_code 19 = .ok (.ireturn, 1) := by decide +kernel
theorem pn_2 : plainName "com/example/ithuriel/ithuriel/model/BinaryExpression$Operator" = true := by first | (simp [plainName, overriddenIn]; done) | decide +kernel
theorem ef_2 (m : MethodId) (x0 : Addr) : entryFrame m #[(.ref x0)] 1 = mkF m 0 #[.val (.ref x0)] [] := by first | (simp [entryFrame, mkF, argsToLocals, Value.category]; done) | rfl
def Q2a (Z : State) (a1 : Addr) (w2 : Addr) (h0 : Heap) (n0 : Nat) (v : Option Value) (h : Heap) (L : List Loc) : Prop := v = some (.int (1 : Int32)) ∧ Fr n0 L ∧ h = h0
set_option maxRecDepth 65536 in
set_option maxHeartbeats 40000000 in
theorem rm2a (l : Launch) (Z : State) (a0 : Array Value) (hw : ∀ d ∈ tables_1, d.before a0 Z = true) (ws : List Jvm.Cond) (a1 : Addr) (w2 : Addr) (h0 : Heap) (n0 : Nat) (Z0 : n0 ≤ h0.size) (S_LOGICAL_AND : Sta Z h0 "com/example/ithuriel/ithuriel/model/BinaryExpression$Operator" "LOGICAL_AND" "Lcom/example/ithuriel/ithuriel/model/BinaryExpression$Operator;" (.ref w2)) (ha4 : a1 = w2) :
    MetFree l (⟨"com/example/ithuriel/ithuriel/model/BinaryExpression$Operator", "isLogical", "()Z"⟩ : MethodName) (head1 (Jvm.Cond.code (⟨"com/example/ithuriel/ithuriel/model/BinaryExpression$Operator", "isLogical", "()Z"⟩ : MethodName) prog_75_method_6_code 1 (some .boolean) :: ws) ({ frames := 0, cells := 0, slots := 0, locals := 0 } : Room)) (fun a U => a = #[(.ref a1)] ∧ Z.Warmed39 U.vm ∧ U.heap = h0) (fun _ _ _ _ _ => True) (fun _ U o U' => ∃ v L, o = .returned v ∧ Q2a Z a1 w2 h0 n0 v U'.heap L ∧ FrameEnd U o U' L ({ frames := 0, cells := 0, slots := 0, locals := 0 } : Room).cells ({ frames := 0, cells := 0, slots := 0, locals := 0 } : Room).slots) := by
  refine MetFree.of_bodySF (plainFor_of_name pn_2) hisR ?_
  intro p e s m args below meth c s₁ Bd hml0 hP hK
  obtain ⟨rfl, hZ, hh⟩ := hP
  have hx := Bd.exec
  have hby := Bd.bytes
  have hml : c.maxLocals = 1 := hml0
  have hown : s.vm.findClass "com/example/ithuriel/ithuriel/model/BinaryExpression$Operator" = some m.cls := findClass_of_methodNamed Bd.named
  have hnm := (name_of_methodNamed Bd.named Bd.method).1
  have X0 : Stand p l e ({ frames := 0, cells := 0, slots := 0, locals := 0 } : Room) s m #[(.ref a1)] below meth c s₁ [] 0 0 := Stand.of_body Bd
  have e0 : s₁.heap = h0 := by rw [← hh, Bd.state]; rfl
  have N0 := Fr.nil n0
  have pre0 : ∀ t, Steps p.tables e below (s₁.setTop (mkF m 0 #[.val (.ref a1)] [])) t → Steps p.tables e below (s₁.setTop (entryFrame m #[(.ref a1)] 1)) t := fun t k => castTop (ef_2 m a1) k
  obtain ⟨T3, X3, e3, st3⟩ := getS2 X0 hx hZ hown (host := "") (Or.inl (hw _ (List.mem_of_getElem? (i := 13) rfl))) Via.refl e0 S_LOGICAL_AND (g := (mkF m 1 #[.val (.ref a1)] [(.ref a1)])) rfl (hb hby d2_1)
  obtain ⟨fs, hr, hrun, hended, hW, hsame⟩ := X3.leave (v := some (.int (1 : Int32))) (fun h => by rw [Bd.returns] at h; cases h)
  refine ⟨_, _, pre0 _ ?_, hrun, hended, _, _, rfl, ?_, ⟨_, rfl⟩, hW, hsame.mono (by decide) (by decide)⟩
  · show Steps p.tables e below (s₁.setTop (mkF m 0 #[.val (.ref a1)] [])) _
    refine XS.aloadN X0.here hx rfl (hb hby d2_0) rfl rfl ?_
    show Steps p.tables e below (s₁.setTop (mkF m 1 #[.val (.ref a1)] [(.ref a1)])) _
    refine st3 _ ?_
    show Steps p.tables e below (T3.setTop (mkF m 4 #[.val (.ref a1)] [(.ref w2), (.ref a1)])) _
    refine Jvm.RoadKit.acmp (g := (mkF m 4 #[.val (.ref a1)] [(.ref w2), (.ref a1)])) X3 hx rfl rfl rfl (pc0 := 4) (pc' := 14) (same := true) rfl (hb hby d2_4) rfl (decide_eq_true (congrArg Value.ref ha4)) (by decide) (by decide) ?_
    show Steps p.tables e below (T3.setTop (mkF m 14 #[.val (.ref a1)] [])) _
    refine XS.iconst X3.here hx rfl (hb hby d2_14) ?_
    show Steps p.tables e below (T3.setTop (mkF m 15 #[.val (.ref a1)] [(.int (1 : Int32))])) _
    refine XS.goto X3.here hx rfl (pc0 := 15) (pc' := 19) rfl (hb hby d2_15) (by decide) (by decide) ?_
    show Steps p.tables e below (T3.setTop (mkF m 19 #[.val (.ref a1)] [(.int (1 : Int32))])) _
    exact retN X3 hx (t := .boolean) Bd.returns (by simp) (hb hby d2_19) hr
  · show Q2a Z a1 w2 h0 n0 _ T3.heap _
    rw [e3]
    exact ⟨rfl, N0, rfl⟩
theorem d2_7 : decode prog_75_method_6_code 7 = .ok (.aload_n 0, 1) := by decide +kernel
theorem d2_8 : decode prog_75_method_6_code 8 = .ok (.getstatic 55, 3) := by decide +kernel
theorem d2_11 : decode prog_75_method_6_code 11 = .ok (.if_acmp .ne 7, 3) := by decide +kernel
def Q2b (Z : State) (a1 : Addr) (w2 : Addr) (w4 : Addr) (h0 : Heap) (n0 : Nat) (v : Option Value) (h : Heap) (L : List Loc) : Prop := v = some (.int (1 : Int32)) ∧ Fr n0 L ∧ h = h0
set_option maxRecDepth 65536 in
set_option maxHeartbeats 40000000 in
theorem rm2b (l : Launch) (Z : State) (a0 : Array Value) (hw : ∀ d ∈ tables_1, d.before a0 Z = true) (ws : List Jvm.Cond) (a1 : Addr) (w2 : Addr) (w4 : Addr) (h0 : Heap) (n0 : Nat) (Z0 : n0 ≤ h0.size) (S_LOGICAL_AND : Sta Z h0 "com/example/ithuriel/ithuriel/model/BinaryExpression$Operator" "LOGICAL_AND" "Lcom/example/ithuriel/ithuriel/model/BinaryExpression$Operator;" (.ref w2)) (S_LOGICAL_OR : Sta Z h0 "com/example/ithuriel/ithuriel/model/BinaryExpression$Operator" "LOGICAL_OR" "Lcom/example/ithuriel/ithuriel/model/BinaryExpression$Operator;" (.ref w4)) (ha4 : ¬ (a1 = w2)) (ha11 : a1 = w4) :
    MetFree l (⟨"com/example/ithuriel/ithuriel/model/BinaryExpression$Operator", "isLogical", "()Z"⟩ : MethodName) (head1 (Jvm.Cond.code (⟨"com/example/ithuriel/ithuriel/model/BinaryExpression$Operator", "isLogical", "()Z"⟩ : MethodName) prog_75_method_6_code 1 (some .boolean) :: ws) ({ frames := 0, cells := 0, slots := 0, locals := 0 } : Room)) (fun a U => a = #[(.ref a1)] ∧ Z.Warmed39 U.vm ∧ U.heap = h0) (fun _ _ _ _ _ => True) (fun _ U o U' => ∃ v L, o = .returned v ∧ Q2b Z a1 w2 w4 h0 n0 v U'.heap L ∧ FrameEnd U o U' L ({ frames := 0, cells := 0, slots := 0, locals := 0 } : Room).cells ({ frames := 0, cells := 0, slots := 0, locals := 0 } : Room).slots) := by
  refine MetFree.of_bodySF (plainFor_of_name pn_2) hisR ?_
  intro p e s m args below meth c s₁ Bd hml0 hP hK
  obtain ⟨rfl, hZ, hh⟩ := hP
  have hx := Bd.exec
  have hby := Bd.bytes
  have hml : c.maxLocals = 1 := hml0
  have hown : s.vm.findClass "com/example/ithuriel/ithuriel/model/BinaryExpression$Operator" = some m.cls := findClass_of_methodNamed Bd.named
  have hnm := (name_of_methodNamed Bd.named Bd.method).1
  have X0 : Stand p l e ({ frames := 0, cells := 0, slots := 0, locals := 0 } : Room) s m #[(.ref a1)] below meth c s₁ [] 0 0 := Stand.of_body Bd
  have e0 : s₁.heap = h0 := by rw [← hh, Bd.state]; rfl
  have N0 := Fr.nil n0
  have pre0 : ∀ t, Steps p.tables e below (s₁.setTop (mkF m 0 #[.val (.ref a1)] [])) t → Steps p.tables e below (s₁.setTop (entryFrame m #[(.ref a1)] 1)) t := fun t k => castTop (ef_2 m a1) k
  obtain ⟨T3, X3, e3, st3⟩ := getS2 X0 hx hZ hown (host := "") (Or.inl (hw _ (List.mem_of_getElem? (i := 13) rfl))) Via.refl e0 S_LOGICAL_AND (g := (mkF m 1 #[.val (.ref a1)] [(.ref a1)])) rfl (hb hby d2_1)
  obtain ⟨T5, X5, e5, st5⟩ := getS2 X3 hx hZ hown (host := "") (Or.inl (hw _ (List.mem_of_getElem? (i := 15) rfl))) Via.refl e3 S_LOGICAL_OR (g := (mkF m 8 #[.val (.ref a1)] [(.ref a1)])) rfl (hb hby d2_8)
  obtain ⟨fs, hr, hrun, hended, hW, hsame⟩ := X5.leave (v := some (.int (1 : Int32))) (fun h => by rw [Bd.returns] at h; cases h)
  refine ⟨_, _, pre0 _ ?_, hrun, hended, _, _, rfl, ?_, ⟨_, rfl⟩, hW, hsame.mono (by decide) (by decide)⟩
  · show Steps p.tables e below (s₁.setTop (mkF m 0 #[.val (.ref a1)] [])) _
    refine XS.aloadN X0.here hx rfl (hb hby d2_0) rfl rfl ?_
    show Steps p.tables e below (s₁.setTop (mkF m 1 #[.val (.ref a1)] [(.ref a1)])) _
    refine st3 _ ?_
    show Steps p.tables e below (T3.setTop (mkF m 4 #[.val (.ref a1)] [(.ref w2), (.ref a1)])) _
    refine Jvm.RoadKit.acmp (g := (mkF m 4 #[.val (.ref a1)] [(.ref w2), (.ref a1)])) X3 hx rfl rfl rfl (pc0 := 4) (pc' := 7) (same := false) rfl (hb hby d2_4) rfl (decide_eq_false fun q => ha4 (Value.ref.inj q)) (by decide) (by decide) ?_
    show Steps p.tables e below (T3.setTop (mkF m 7 #[.val (.ref a1)] [])) _
    refine XS.aloadN X3.here hx rfl (hb hby d2_7) rfl rfl ?_
    show Steps p.tables e below (T3.setTop (mkF m 8 #[.val (.ref a1)] [(.ref a1)])) _
    refine st5 _ ?_
    show Steps p.tables e below (T5.setTop (mkF m 11 #[.val (.ref a1)] [(.ref w4), (.ref a1)])) _
    refine Jvm.RoadKit.acmp (g := (mkF m 11 #[.val (.ref a1)] [(.ref w4), (.ref a1)])) X5 hx rfl rfl rfl (pc0 := 11) (pc' := 14) (same := true) rfl (hb hby d2_11) rfl (decide_eq_true (congrArg Value.ref ha11)) (by decide) (by decide) ?_
    show Steps p.tables e below (T5.setTop (mkF m 14 #[.val (.ref a1)] [])) _
    refine XS.iconst X5.here hx rfl (hb hby d2_14) ?_
    show Steps p.tables e below (T5.setTop (mkF m 15 #[.val (.ref a1)] [(.int (1 : Int32))])) _
    refine XS.goto X5.here hx rfl (pc0 := 15) (pc' := 19) rfl (hb hby d2_15) (by decide) (by decide) ?_
    show Steps p.tables e below (T5.setTop (mkF m 19 #[.val (.ref a1)] [(.int (1 : Int32))])) _
    exact retN X5 hx (t := .boolean) Bd.returns (by simp) (hb hby d2_19) hr
  · show Q2b Z a1 w2 w4 h0 n0 _ T5.heap _
    rw [e5]
    exact ⟨rfl, N0, rfl⟩
theorem d2_18 : decode prog_75_method_6_code 18 = .ok (.iconst 0, 1) := by decide +kernel
def Q2c (Z : State) (a1 : Addr) (w2 : Addr) (w4 : Addr) (h0 : Heap) (n0 : Nat) (v : Option Value) (h : Heap) (L : List Loc) : Prop := v = some (.int (0 : Int32)) ∧ Fr n0 L ∧ h = h0
set_option maxRecDepth 65536 in
set_option maxHeartbeats 40000000 in
theorem rm2c (l : Launch) (Z : State) (a0 : Array Value) (hw : ∀ d ∈ tables_1, d.before a0 Z = true) (ws : List Jvm.Cond) (a1 : Addr) (w2 : Addr) (w4 : Addr) (h0 : Heap) (n0 : Nat) (Z0 : n0 ≤ h0.size) (S_LOGICAL_AND : Sta Z h0 "com/example/ithuriel/ithuriel/model/BinaryExpression$Operator" "LOGICAL_AND" "Lcom/example/ithuriel/ithuriel/model/BinaryExpression$Operator;" (.ref w2)) (S_LOGICAL_OR : Sta Z h0 "com/example/ithuriel/ithuriel/model/BinaryExpression$Operator" "LOGICAL_OR" "Lcom/example/ithuriel/ithuriel/model/BinaryExpression$Operator;" (.ref w4)) (ha4 : ¬ (a1 = w2)) (ha11 : ¬ (a1 = w4)) :
    MetFree l (⟨"com/example/ithuriel/ithuriel/model/BinaryExpression$Operator", "isLogical", "()Z"⟩ : MethodName) (head1 (Jvm.Cond.code (⟨"com/example/ithuriel/ithuriel/model/BinaryExpression$Operator", "isLogical", "()Z"⟩ : MethodName) prog_75_method_6_code 1 (some .boolean) :: ws) ({ frames := 0, cells := 0, slots := 0, locals := 0 } : Room)) (fun a U => a = #[(.ref a1)] ∧ Z.Warmed39 U.vm ∧ U.heap = h0) (fun _ _ _ _ _ => True) (fun _ U o U' => ∃ v L, o = .returned v ∧ Q2c Z a1 w2 w4 h0 n0 v U'.heap L ∧ FrameEnd U o U' L ({ frames := 0, cells := 0, slots := 0, locals := 0 } : Room).cells ({ frames := 0, cells := 0, slots := 0, locals := 0 } : Room).slots) := by
  refine MetFree.of_bodySF (plainFor_of_name pn_2) hisR ?_
  intro p e s m args below meth c s₁ Bd hml0 hP hK
  obtain ⟨rfl, hZ, hh⟩ := hP
  have hx := Bd.exec
  have hby := Bd.bytes
  have hml : c.maxLocals = 1 := hml0
  have hown : s.vm.findClass "com/example/ithuriel/ithuriel/model/BinaryExpression$Operator" = some m.cls := findClass_of_methodNamed Bd.named
  have hnm := (name_of_methodNamed Bd.named Bd.method).1
  have X0 : Stand p l e ({ frames := 0, cells := 0, slots := 0, locals := 0 } : Room) s m #[(.ref a1)] below meth c s₁ [] 0 0 := Stand.of_body Bd
  have e0 : s₁.heap = h0 := by rw [← hh, Bd.state]; rfl
  have N0 := Fr.nil n0
  have pre0 : ∀ t, Steps p.tables e below (s₁.setTop (mkF m 0 #[.val (.ref a1)] [])) t → Steps p.tables e below (s₁.setTop (entryFrame m #[(.ref a1)] 1)) t := fun t k => castTop (ef_2 m a1) k
  obtain ⟨T3, X3, e3, st3⟩ := getS2 X0 hx hZ hown (host := "") (Or.inl (hw _ (List.mem_of_getElem? (i := 13) rfl))) Via.refl e0 S_LOGICAL_AND (g := (mkF m 1 #[.val (.ref a1)] [(.ref a1)])) rfl (hb hby d2_1)
  obtain ⟨T5, X5, e5, st5⟩ := getS2 X3 hx hZ hown (host := "") (Or.inl (hw _ (List.mem_of_getElem? (i := 15) rfl))) Via.refl e3 S_LOGICAL_OR (g := (mkF m 8 #[.val (.ref a1)] [(.ref a1)])) rfl (hb hby d2_8)
  obtain ⟨fs, hr, hrun, hended, hW, hsame⟩ := X5.leave (v := some (.int (0 : Int32))) (fun h => by rw [Bd.returns] at h; cases h)
  refine ⟨_, _, pre0 _ ?_, hrun, hended, _, _, rfl, ?_, ⟨_, rfl⟩, hW, hsame.mono (by decide) (by decide)⟩
  · show Steps p.tables e below (s₁.setTop (mkF m 0 #[.val (.ref a1)] [])) _
    refine XS.aloadN X0.here hx rfl (hb hby d2_0) rfl rfl ?_
    show Steps p.tables e below (s₁.setTop (mkF m 1 #[.val (.ref a1)] [(.ref a1)])) _
    refine st3 _ ?_
    show Steps p.tables e below (T3.setTop (mkF m 4 #[.val (.ref a1)] [(.ref w2), (.ref a1)])) _
    refine Jvm.RoadKit.acmp (g := (mkF m 4 #[.val (.ref a1)] [(.ref w2), (.ref a1)])) X3 hx rfl rfl rfl (pc0 := 4) (pc' := 7) (same := false) rfl (hb hby d2_4) rfl (decide_eq_false fun q => ha4 (Value.ref.inj q)) (by decide) (by decide) ?_
    show Steps p.tables e below (T3.setTop (mkF m 7 #[.val (.ref a1)] [])) _
    refine XS.aloadN X3.here hx rfl (hb hby d2_7) rfl rfl ?_
    show Steps p.tables e below (T3.setTop (mkF m 8 #[.val (.ref a1)] [(.ref a1)])) _
    refine st5 _ ?_
    show Steps p.tables e below (T5.setTop (mkF m 11 #[.val (.ref a1)] [(.ref w4), (.ref a1)])) _
    refine Jvm.RoadKit.acmp (g := (mkF m 11 #[.val (.ref a1)] [(.ref w4), (.ref a1)])) X5 hx rfl rfl rfl (pc0 := 11) (pc' := 18) (same := false) rfl (hb hby d2_11) rfl (decide_eq_false fun q => ha11 (Value.ref.inj q)) (by decide) (by decide) ?_
    show Steps p.tables e below (T5.setTop (mkF m 18 #[.val (.ref a1)] [])) _
    refine XS.iconst X5.here hx rfl (hb hby d2_18) ?_
    show Steps p.tables e below (T5.setTop (mkF m 19 #[.val (.ref a1)] [(.int (0 : Int32))])) _
    exact retN X5 hx (t := .boolean) Bd.returns (by simp) (hb hby d2_19) hr
  · show Q2c Z a1 w2 w4 h0 n0 _ T5.heap _
    rw [e5]
    exact ⟨rfl, N0, rfl⟩
def own_Log (a wA wO : Addr) (b : Int32) : Prop := (a = wA ∧ b = 1) ∨ (¬ a = wA ∧ a = wO ∧ b = 1) ∨ (¬ a = wA ∧ ¬ a = wO ∧ b = 0)
def Q_rm2 (Z : State) (a wA wO : Addr) (b : Int32) (h0 : Heap) (n0 : Nat) (v : Option Value) (hp : Heap) (L : List Loc) : Prop := v = some (.int b) ∧ Fr n0 L ∧ hp = h0
set_option maxRecDepth 65536 in
set_option maxHeartbeats 40000000 in
theorem rm2 (l : Launch) (Z : State) (a0 : Array Value) (hw : ∀ d ∈ tables_1, d.before a0 Z = true) (ws : List Jvm.Cond) (a wA wO : Addr) (b : Int32) (h0 : Heap) (n0 : Nat) (Z0 : n0 ≤ h0.size) (SA : Sta Z h0 "com/example/ithuriel/ithuriel/model/BinaryExpression$Operator" "LOGICAL_AND" "Lcom/example/ithuriel/ithuriel/model/BinaryExpression$Operator;" (.ref wA)) (SO : Sta Z h0 "com/example/ithuriel/ithuriel/model/BinaryExpression$Operator" "LOGICAL_OR" "Lcom/example/ithuriel/ithuriel/model/BinaryExpression$Operator;" (.ref wO)) (LG : own_Log a wA wO b) :
    MetFree l (⟨"com/example/ithuriel/ithuriel/model/BinaryExpression$Operator", "isLogical", "()Z"⟩ : MethodName) (head1 (Jvm.Cond.code (⟨"com/example/ithuriel/ithuriel/model/BinaryExpression$Operator", "isLogical", "()Z"⟩ : MethodName) prog_75_method_6_code 1 (some .boolean) :: ws) ({ frames := 0, cells := 0, slots := 0, locals := 0 } : Room)) (fun aa U => aa = #[.ref a] ∧ Z.Warmed39 U.vm ∧ U.heap = h0) (fun _ _ _ _ _ => True) (fun _ U o U' => ∃ v L, o = .returned v ∧ (Q_rm2 Z a wA wO b h0 n0 v U'.heap L) ∧ FrameEnd U o U' L ({ frames := 0, cells := 0, slots := 0, locals := 0 } : Room).cells ({ frames := 0, cells := 0, slots := 0, locals := 0 } : Room).slots) := by
  rcases LG with ⟨h1, rfl⟩ | ⟨h1, h2, rfl⟩ | ⟨h1, h2, rfl⟩
  · exact rm2a l Z a0 hw ws a wA h0 n0 Z0 SA h1
  · exact rm2b l Z a0 hw ws a wA wO h0 n0 Z0 SA SO h1 h2
  · exact rm2c l Z a0 hw ws a wA wO h0 n0 Z0 SA SO h1 h2
theorem pn_0 : plainName "com/example/ithuriel/ithuriel/model/OperatorIsLogicalPinLaw" = true := by first | (simp [plainName, overriddenIn]; done) | decide +kernel
theorem pd_0_0 : parseMethodDescriptor "(I)Lcom/example/ithuriel/ithuriel/model/BinaryExpression$Operator;" = some ⟨[.int], some (.object "com/example/ithuriel/ithuriel/model/BinaryExpression$Operator")⟩ := by decide +kernel
theorem pd_0_1 : parseMethodDescriptor "()Z" = some ⟨[], some .boolean⟩ := by decide +kernel
theorem ef_0 (m : MethodId) (x0 : Int32) : entryFrame m #[(.int x0)] maxLocals = mkF m 0 #[.val (.int x0), .unset, .unset, .unset] [] := by first | (simp [entryFrame, mkF, argsToLocals, Value.category, maxLocals]; done) | rfl
def Q0 (Z : State) (p1 : Int32) (h0 : Heap) (n0 : Nat) (v : Option Value) (h : Heap) (L : List Loc) : Prop := v = some (.int (1 : Int32)) ∧ Fr n0 L
set_option maxRecDepth 65536 in
set_option maxHeartbeats 40000000 in
theorem rm0 (l : Launch) (Z : State) (a0 : Array Value) (hw : ∀ d ∈ tables_1, d.before a0 Z = true) (ws : List Jvm.Cond) (p1 k : Int32) (w wA wO : Addr) (b : Int32) (h0 : Heap) (n0 : Nat) (Z0 : n0 ≤ h0.size) (hk : ((p1 &&& (2147483647 : Int32)) % (18 : Int32)) = k) (hb1 : (k = 16 ∧ b = 1) ∨ (¬ k = 16 ∧ k = 17 ∧ b = 1) ∨ (¬ k = 16 ∧ ¬ k = 17 ∧ b = 0)) (PK : own_Pick Z h0 k w) (E_w : Exa Z h0 w "com/example/ithuriel/ithuriel/model/BinaryExpression$Operator") (SA : Sta Z h0 "com/example/ithuriel/ithuriel/model/BinaryExpression$Operator" "LOGICAL_AND" "Lcom/example/ithuriel/ithuriel/model/BinaryExpression$Operator;" (.ref wA)) (SO : Sta Z h0 "com/example/ithuriel/ithuriel/model/BinaryExpression$Operator" "LOGICAL_OR" "Lcom/example/ithuriel/ithuriel/model/BinaryExpression$Operator;" (.ref wO)) (LG : own_Log w wA wO b) :
    MetFree l x (head1 (Jvm.Cond.code x code maxLocals ret :: ws) room_1) (fun a U => a = #[(.int p1)] ∧ Z.Warmed39 U.vm ∧ U.heap = h0) (fun _ _ _ _ _ => True) (fun _ U o U' => ∃ v L, o = .returned v ∧ Q0 Z p1 h0 n0 v U'.heap L ∧ FrameEnd U o U' L room_1.cells room_1.slots) := by
  refine MetFree.of_bodySF (plainFor_of_name pn_0) hisR ?_
  intro p e s m args below meth c s₁ Bd hml0 hP hK
  obtain ⟨rfl, hZ, hh⟩ := hP
  have hx := Bd.exec
  have hby := Bd.bytes
  have hml : c.maxLocals = 4 := hml0
  have hown : s.vm.findClass "com/example/ithuriel/ithuriel/model/OperatorIsLogicalPinLaw" = some m.cls := findClass_of_methodNamed Bd.named
  have hnm := (name_of_methodNamed Bd.named Bd.method).1
  have X0 : Stand p l e room_1 s m #[(.int p1)] below meth c s₁ [] 0 0 := Stand.of_body Bd
  have e0 : s₁.heap = h0 := by rw [← hh, Bd.state]; rfl
  have N0 := Fr.nil n0
  have pre0 : ∀ t, Steps p.tables e below (s₁.setTop (mkF m 0 #[.val (.int p1), .unset, .unset, .unset] [])) t → Steps p.tables e below (s₁.setTop (entryFrame m #[(.int p1)] maxLocals)) t := fun t k => castTop (ef_0 m p1) k
  obtain ⟨_, _, ⟨T2, L2, k2, n2⟩, -, X2, ⟨Lc2, hQ2, l2, y2, z2⟩, st2⟩ := Jvm.LawKit.callS X0 hx (y := (⟨"com/example/ithuriel/ithuriel/model/OperatorIsLogicalPinLaw", "op", "(I)Lcom/example/ithuriel/ithuriel/model/BinaryExpression$Operator;"⟩ : MethodName)) hown (mvT hZ (hw _ (List.mem_of_getElem? (i := 1) rfl))) (mvT hZ (hw _ (List.mem_of_getElem? (i := 2) rfl))) (mvT hZ (hw _ (List.mem_of_getElem? (i := 3) rfl))) (mvT hZ (hw _ (List.mem_of_getElem? (i := 4) rfl))) (by decide) (backOf (W := 0) (rm1 l Z a0 hw [] k w h0 n0 Z0 PK) hZ (hw _ (List.mem_of_getElem? (i := 4) rfl)) (hw _ (List.mem_of_getElem? (i := 3) rfl)) (by decide) (by decide)) (g := (mkF m 9 #[.val (.int p1), .val (.int k), .unset, .unset] [(.int k)])) rfl (by rw [hml]; rfl) (argsL := [(.int k)]) (rest := []) (lenOf pd_0_0 rfl) rfl (by show 2 * 0 + _ ≤ _; exact Nat.le_of_eq rfl) (hb hby at_9) (fun _ _ => ⟨rfl, e0, (by decide : 0 + 0 ≤ _), (by decide : 0 + 0 ≤ _)⟩)
  dsimp only [Pt.U, Pt.locs, Pt.cells, Pt.slots] at X2 l2 y2 z2 st2 hQ2
  subst l2 y2 z2
  obtain ⟨rfl, N2q, eh2⟩ := hQ2
  have N2 := Fr.app N0 N2q
  obtain ⟨cq3, kq3, q3a, q3b, q3c⟩ := isOf hZ eh2 E_w
  obtain ⟨_, _, ⟨T3, L3, k3, n3⟩, -, X3, ⟨Lc3, hQ3, l3, y3, z3⟩, st3⟩ := X2.virtualBack hx (y := (⟨"com/example/ithuriel/ithuriel/model/BinaryExpression$Operator", "isLogical", "()Z"⟩ : MethodName)) (z := (⟨"com/example/ithuriel/ithuriel/model/BinaryExpression$Operator", "isLogical", "()Z"⟩ : MethodName)) hown (mvT hZ (hw _ (List.mem_of_getElem? (i := 8) rfl))) (mvT hZ (hw _ (List.mem_of_getElem? (i := 9) rfl))) (notFace_of_selects (args := #[]) (mvT hZ (hw _ (List.mem_of_getElem? (i := 11) rfl)))) (mvT hZ (hw _ (List.mem_of_getElem? (i := 11) rfl))) (mvT hZ (hw _ (List.mem_of_getElem? (i := 10) rfl))) (by decide) (backOf (W := 0) (rm2 l Z a0 hw [] w wA wO b h0 n0 Z0 SA SO LG) hZ (hw _ (List.mem_of_getElem? (i := 12) rfl)) (hw _ (List.mem_of_getElem? (i := 6) rfl)) (by decide) (by decide)) q3a q3c (g := (mkF m 32 #[.val (.int p1), .val (.int k), .val (.ref w), .val (.int b)] [(.ref w)])) rfl (by rw [hml]; rfl) (Steps.refl _) (argsL := []) (rest := []) (lenOf pd_0_1 rfl) rfl (by show 2 * 0 + _ ≤ _; exact Nat.le_of_eq rfl) (hb hby at_32) (fun _ _ => ⟨rfl, eh2, (by decide : 0 + 0 ≤ _), (by decide : 0 + 0 ≤ _)⟩)
  dsimp only [Pt.U, Pt.locs, Pt.cells, Pt.slots] at X3 l3 y3 z3 st3 hQ3
  subst l3 y3 z3
  obtain ⟨rfl, N3q, eh3⟩ := hQ3
  have N3 := Fr.app N2 N3q
  have mid : ∀ target, Steps p.tables e below (T2.setTop (mkF m 31 #[.val (.int p1), .val (.int k), .val (.ref w), .val (.int b)] [])) target → Steps p.tables e below (T2.setTop (mkF m 13 #[.val (.int p1), .val (.int k), .val (.ref w), .unset] [])) target := by
    intro target r
    have hA := X2.here
    refine XS.iloadN hA hx rfl (hb hby at_13) rfl ?_
    show Steps p.tables e below (T2.setTop (mkF m 14 #[.val (.int p1), .val (.int k), .val (.ref w), .unset] [.int k])) _
    refine XS.bipush hA hx rfl (hb hby at_14) ?_
    show Steps p.tables e below (T2.setTop (mkF m 16 #[.val (.int p1), .val (.int k), .val (.ref w), .unset] [.int (16 : Int32), .int k])) _
    rcases hb1 with ⟨h, rfl⟩ | ⟨h, h', rfl⟩ | ⟨h, h', rfl⟩
    · refine XS.icmpYes hA hx rfl (pc0 := 16) (pc' := 25) rfl (hb hby at_16) rfl (teq h).1 (by decide) (by decide) ?_
      refine XS.iconst hA hx rfl (hb hby at_25) ?_
      show Steps p.tables e below (T2.setTop (mkF m 26 #[.val (.int p1), .val (.int k), .val (.ref w), .unset] [.int (1 : Int32)])) _
      refine XS.goto hA hx rfl (pc0 := 26) (pc' := 30) rfl (hb hby at_26) (by decide) (by decide) ?_
      exact XS.istoreN hA hx rfl (hb hby at_30) rfl (l' := #[.val (.int p1), .val (.int k), .val (.ref w), .val (.int (1 : Int32))]) rfl r
    · refine XS.icmpNo hA hx rfl (hb hby at_16) rfl (feq h).1 ?_
      refine XS.iloadN hA hx rfl (hb hby at_19) rfl ?_
      show Steps p.tables e below (T2.setTop (mkF m 20 #[.val (.int p1), .val (.int k), .val (.ref w), .unset] [.int k])) _
      refine XS.bipush hA hx rfl (hb hby at_20) ?_
      show Steps p.tables e below (T2.setTop (mkF m 22 #[.val (.int p1), .val (.int k), .val (.ref w), .unset] [.int (17 : Int32), .int k])) _
      refine XS.icmpNo hA hx rfl (hb hby at_22) rfl (teq h').2 ?_
      refine XS.iconst hA hx rfl (hb hby at_25) ?_
      show Steps p.tables e below (T2.setTop (mkF m 26 #[.val (.int p1), .val (.int k), .val (.ref w), .unset] [.int (1 : Int32)])) _
      refine XS.goto hA hx rfl (pc0 := 26) (pc' := 30) rfl (hb hby at_26) (by decide) (by decide) ?_
      exact XS.istoreN hA hx rfl (hb hby at_30) rfl (l' := #[.val (.int p1), .val (.int k), .val (.ref w), .val (.int (1 : Int32))]) rfl r
    · refine XS.icmpNo hA hx rfl (hb hby at_16) rfl (feq h).1 ?_
      refine XS.iloadN hA hx rfl (hb hby at_19) rfl ?_
      show Steps p.tables e below (T2.setTop (mkF m 20 #[.val (.int p1), .val (.int k), .val (.ref w), .unset] [.int k])) _
      refine XS.bipush hA hx rfl (hb hby at_20) ?_
      show Steps p.tables e below (T2.setTop (mkF m 22 #[.val (.int p1), .val (.int k), .val (.ref w), .unset] [.int (17 : Int32), .int k])) _
      refine XS.icmpYes hA hx rfl (pc0 := 22) (pc' := 29) rfl (hb hby at_22) rfl (feq h').2 (by decide) (by decide) ?_
      refine XS.iconst hA hx rfl (hb hby at_29) ?_
      exact XS.istoreN hA hx rfl (hb hby at_30) rfl (l' := #[.val (.int p1), .val (.int k), .val (.ref w), .val (.int (0 : Int32))]) rfl r
  obtain ⟨fs, hr, hrun, hended, hW, hsame⟩ := X3.leave (v := some (.int (1 : Int32))) (fun h => by rw [Bd.returns] at h; cases h)
  refine ⟨_, _, pre0 _ ?_, hrun, hended, _, _, rfl, ?_, ⟨_, rfl⟩, hW, hsame.mono (by decide) (by decide)⟩
  · show Steps p.tables e below (s₁.setTop (mkF m 0 #[.val (.int p1), .unset, .unset, .unset] [])) _
    refine XS.iloadN X0.here hx rfl (hb hby at_0) rfl ?_
    show Steps p.tables e below (s₁.setTop (mkF m 1 #[.val (.int p1), .unset, .unset, .unset] [(.int p1)])) _
    refine X0.ldcInt hx hown (mvT hZ (hw _ (List.mem_of_getElem? (i := 0) rfl))) (g := (mkF m 1 #[.val (.int p1), .unset, .unset, .unset] [(.int p1)])) rfl (hb hby at_1) _ ?_
    show Steps p.tables e below (s₁.setTop (mkF m 3 #[.val (.int p1), .unset, .unset, .unset] [(.int (2147483647 : Int32)), (.int p1)])) _
    refine XS.iand X0.here hx rfl (hb hby at_3) rfl ?_
    show Steps p.tables e below (s₁.setTop (mkF m 4 #[.val (.int p1), .unset, .unset, .unset] [(.int (p1 &&& (2147483647 : Int32)))])) _
    refine XS.bipush X0.here hx rfl (hb hby at_4) ?_
    show Steps p.tables e below (s₁.setTop (mkF m 6 #[.val (.int p1), .unset, .unset, .unset] [(.int (18 : Int32)), (.int (p1 &&& (2147483647 : Int32)))])) _
    refine iremM X0 hx rfl (hb hby at_6) rfl (by decide) ?_
    rw [hk]
    show Steps p.tables e below (s₁.setTop (mkF m 7 #[.val (.int p1), .unset, .unset, .unset] [(.int k)])) _
    refine XS.istoreN X0.here hx rfl (hb hby at_7) rfl (l' := #[.val (.int p1), .val (.int k), .unset, .unset]) rfl ?_
    show Steps p.tables e below (s₁.setTop (mkF m 8 #[.val (.int p1), .val (.int k), .unset, .unset] [])) _
    refine XS.iloadN X0.here hx rfl (hb hby at_8) rfl ?_
    show Steps p.tables e below (s₁.setTop (mkF m 9 #[.val (.int p1), .val (.int k), .unset, .unset] [(.int k)])) _
    refine st2 _ ?_
    show Steps p.tables e below (T2.setTop (mkF m 12 #[.val (.int p1), .val (.int k), .unset, .unset] [(.ref w)])) _
    refine XS.astoreN X2.here hx rfl (hb hby at_12) rfl rfl (l' := #[.val (.int p1), .val (.int k), .val (.ref w), .unset]) rfl ?_
    show Steps p.tables e below (T2.setTop (mkF m 13 #[.val (.int p1), .val (.int k), .val (.ref w), .unset] [])) _
    refine mid _ ?_
    show Steps p.tables e below (T2.setTop (mkF m 31 #[.val (.int p1), .val (.int k), .val (.ref w), .val (.int b)] [])) _
    refine XS.aloadN X2.here hx rfl (hb hby at_31) rfl rfl ?_
    show Steps p.tables e below (T2.setTop (mkF m 32 #[.val (.int p1), .val (.int k), .val (.ref w), .val (.int b)] [(.ref w)])) _
    refine st3.trans ?_
    show Steps p.tables e below (T3.setTop (mkF m 35 #[.val (.int p1), .val (.int k), .val (.ref w), .val (.int b)] [(.int b)])) _
    refine XS.iloadN X3.here hx rfl (hb hby at_35) rfl ?_
    show Steps p.tables e below (T3.setTop (mkF m 36 #[.val (.int p1), .val (.int k), .val (.ref w), .val (.int b)] [(.int b), (.int b)])) _
    refine XS.icmpNo X3.here hx rfl (hb hby at_36) rfl (teq (rfl : b = b)).2 ?_
    show Steps p.tables e below (T3.setTop (mkF m 39 #[.val (.int p1), .val (.int k), .val (.ref w), .val (.int b)] [])) _
    refine XS.iconst X3.here hx rfl (hb hby at_39) ?_
    show Steps p.tables e below (T3.setTop (mkF m 40 #[.val (.int p1), .val (.int k), .val (.ref w), .val (.int b)] [(.int (1 : Int32))])) _
    refine XS.goto X3.here hx rfl (pc0 := 40) (pc' := 44) rfl (hb hby at_40) (by decide) (by decide) ?_
    show Steps p.tables e below (T3.setTop (mkF m 44 #[.val (.int p1), .val (.int k), .val (.ref w), .val (.int b)] [(.int (1 : Int32))])) _
    exact retN X3 hx (t := .boolean) Bd.returns (by simp) (hb hby at_44) hr
  · show Q0 Z p1 h0 n0 _ T3.heap _
    exact ⟨rfl, N3⟩

theorem own_k (x k : Int32) (hk : (x &&& (2147483647 : Int32)) % (18 : Int32) = k) : k = (0 : Int32) ∨ k = (1 : Int32) ∨ k = (2 : Int32) ∨ k = (3 : Int32) ∨ k = (4 : Int32) ∨ k = (5 : Int32) ∨ k = (6 : Int32) ∨ k = (7 : Int32) ∨ k = (8 : Int32) ∨ k = (9 : Int32) ∨ k = (10 : Int32) ∨ k = (11 : Int32) ∨ k = (12 : Int32) ∨ k = (13 : Int32) ∨ k = (14 : Int32) ∨ k = (15 : Int32) ∨ k = (16 : Int32) ∨ k = (17 : Int32) := by
  have h1 := (c_and x (2147483647 : Int32) (by decide)).1
  have h2 := (c_iremV (x &&& (2147483647 : Int32)) (18 : Int32)).1 h1 (by decide)
  rw [hk, show ((18 : Int32)).toInt = 18 from by decide] at h2
  have h3 : k.toInt = 0 ∨ k.toInt = 1 ∨ k.toInt = 2 ∨ k.toInt = 3 ∨ k.toInt = 4 ∨ k.toInt = 5 ∨ k.toInt = 6 ∨ k.toInt = 7 ∨ k.toInt = 8 ∨ k.toInt = 9 ∨ k.toInt = 10 ∨ k.toInt = 11 ∨ k.toInt = 12 ∨ k.toInt = 13 ∨ k.toInt = 14 ∨ k.toInt = 15 ∨ k.toInt = 16 ∨ k.toInt = 17 := by omega
  rcases h3 with h | h | h | h | h | h | h | h | h | h | h | h | h | h | h | h | h | h
  · exact Or.inl (Int32.toInt_inj.mp (h.trans (by decide : (0 : Int) = (0 : Int32).toInt)))
  · exact Or.inr (Or.inl (Int32.toInt_inj.mp (h.trans (by decide : (1 : Int) = (1 : Int32).toInt))))
  · exact Or.inr (Or.inr (Or.inl (Int32.toInt_inj.mp (h.trans (by decide : (2 : Int) = (2 : Int32).toInt)))))
  · exact Or.inr (Or.inr (Or.inr (Or.inl (Int32.toInt_inj.mp (h.trans (by decide : (3 : Int) = (3 : Int32).toInt))))))
  · exact Or.inr (Or.inr (Or.inr (Or.inr (Or.inl (Int32.toInt_inj.mp (h.trans (by decide : (4 : Int) = (4 : Int32).toInt)))))))
  · exact Or.inr (Or.inr (Or.inr (Or.inr (Or.inr (Or.inl (Int32.toInt_inj.mp (h.trans (by decide : (5 : Int) = (5 : Int32).toInt))))))))
  · exact Or.inr (Or.inr (Or.inr (Or.inr (Or.inr (Or.inr (Or.inl (Int32.toInt_inj.mp (h.trans (by decide : (6 : Int) = (6 : Int32).toInt)))))))))
  · exact Or.inr (Or.inr (Or.inr (Or.inr (Or.inr (Or.inr (Or.inr (Or.inl (Int32.toInt_inj.mp (h.trans (by decide : (7 : Int) = (7 : Int32).toInt))))))))))
  · exact Or.inr (Or.inr (Or.inr (Or.inr (Or.inr (Or.inr (Or.inr (Or.inr (Or.inl (Int32.toInt_inj.mp (h.trans (by decide : (8 : Int) = (8 : Int32).toInt)))))))))))
  · exact Or.inr (Or.inr (Or.inr (Or.inr (Or.inr (Or.inr (Or.inr (Or.inr (Or.inr (Or.inl (Int32.toInt_inj.mp (h.trans (by decide : (9 : Int) = (9 : Int32).toInt))))))))))))
  · exact Or.inr (Or.inr (Or.inr (Or.inr (Or.inr (Or.inr (Or.inr (Or.inr (Or.inr (Or.inr (Or.inl (Int32.toInt_inj.mp (h.trans (by decide : (10 : Int) = (10 : Int32).toInt)))))))))))))
  · exact Or.inr (Or.inr (Or.inr (Or.inr (Or.inr (Or.inr (Or.inr (Or.inr (Or.inr (Or.inr (Or.inr (Or.inl (Int32.toInt_inj.mp (h.trans (by decide : (11 : Int) = (11 : Int32).toInt))))))))))))))
  · exact Or.inr (Or.inr (Or.inr (Or.inr (Or.inr (Or.inr (Or.inr (Or.inr (Or.inr (Or.inr (Or.inr (Or.inr (Or.inl (Int32.toInt_inj.mp (h.trans (by decide : (12 : Int) = (12 : Int32).toInt)))))))))))))))
  · exact Or.inr (Or.inr (Or.inr (Or.inr (Or.inr (Or.inr (Or.inr (Or.inr (Or.inr (Or.inr (Or.inr (Or.inr (Or.inr (Or.inl (Int32.toInt_inj.mp (h.trans (by decide : (13 : Int) = (13 : Int32).toInt))))))))))))))))
  · exact Or.inr (Or.inr (Or.inr (Or.inr (Or.inr (Or.inr (Or.inr (Or.inr (Or.inr (Or.inr (Or.inr (Or.inr (Or.inr (Or.inr (Or.inl (Int32.toInt_inj.mp (h.trans (by decide : (14 : Int) = (14 : Int32).toInt)))))))))))))))))
  · exact Or.inr (Or.inr (Or.inr (Or.inr (Or.inr (Or.inr (Or.inr (Or.inr (Or.inr (Or.inr (Or.inr (Or.inr (Or.inr (Or.inr (Or.inr (Or.inl (Int32.toInt_inj.mp (h.trans (by decide : (15 : Int) = (15 : Int32).toInt))))))))))))))))))
  · exact Or.inr (Or.inr (Or.inr (Or.inr (Or.inr (Or.inr (Or.inr (Or.inr (Or.inr (Or.inr (Or.inr (Or.inr (Or.inr (Or.inr (Or.inr (Or.inr (Or.inl (Int32.toInt_inj.mp (h.trans (by decide : (16 : Int) = (16 : Int32).toInt)))))))))))))))))))
  · exact Or.inr (Or.inr (Or.inr (Or.inr (Or.inr (Or.inr (Or.inr (Or.inr (Or.inr (Or.inr (Or.inr (Or.inr (Or.inr (Or.inr (Or.inr (Or.inr (Or.inr ((Int32.toInt_inj.mp (h.trans (by decide : (17 : Int) = (17 : Int32).toInt))))))))))))))))))))
theorem own_fld {args : Array Value} {s : State} {t : Term} {w : Addr} {C n d : String} {z : Int32} (ev : t.eval args s none [] s = some (.ref w)) (h : (Jvm.Cond.eq (.field t C n d) (.int z)).value args s none s [] = some true) : s.fieldOf? w C n d = some (.int z) := by
  have e := fld_at (C := C) (n := n) (dd := d) ev
  have ez : (Term.int z).eval args s none [] s = some (.int z) := Term.int_eval z
  cases hq : s.fieldOf? w C n d with
  | none => rw [hq] at e; simp [Cond.value, e] at h
  | some v => rw [hq] at e; cases v <;> simp_all [Cond.value]
set_option maxRecDepth 65536 in
set_option maxHeartbeats 40000000 in
theorem comes_1 {Post : Tables → Env → Array Value → State → Outcome → State → Prop} (hpost : ∀ tb e args s v u, (limb_1_1.after args s (.returned v) u = true ∧ limb_1_2.after args s (.returned v) u = true ∧ True) → FrameEnd s (.returned v) u (Jvm.fieldLocs frame_1_writes args s ++ Jvm.arrayLocs frame_1_arrays args s ++ Jvm.staticLocs frame_1_statics s) 0 0 → Post tb e args s (.returned v) u) :
    ArmFor flags0 classFile x code maxLocals ret World_1 tables_1 room_1 Calls_1 rest_1 Pre_1 Post := by
  intro l hfl _ _ p e ha hc hk0 s m args below hf hA hF happ hP
  obtain ⟨hcalls, hrest, hpre⟩ := hP
  obtain ⟨-, -, -, hnamed, -, -, -, hat⟩ := (Spec.applies_iff hf).mp happ
  obtain ⟨hg, hn⟩ := and_e (Cond.before_iff.mp (show (Jvm.Cond.and given_1 narrow_1).before args s = true from hpre))
  obtain ⟨g4, g5⟩ := and_e hg
  obtain ⟨w0, rfl⟩ : ∃ w0 : Value, args = #[w0] := by
    have hs : args.size = 1 := by simpa [Cond.value, given_1] using g4
    obtain ⟨L⟩ := args
    match L, hs with
    | [w0], _ => exact ⟨w0, rfl⟩
  have hw := fun d (hd : d ∈ tables_1) => atoms_spec (ws := Jvm.Cond.code x code maxLocals ret :: tables_1) hat d (List.mem_cons_of_mem _ hd)
  have hfit : Fit s := fun {y c} hc i hi => by
    obtain ⟨ha, rfl⟩ := Array.getElem?_eq_some_iff.mp hc
    have q := List.all_eq_true.mp ((Array.all_eq_true_iff_forall_mem.mp hF) _ (Array.getElem_mem ha)) i (List.mem_range.mpr hi)
    simpa [Array.getElem?_eq_getElem hi] using q
  obtain ⟨i0, ei0⟩ := is_v g5
  obtain rfl : w0 = (.int i0) := Option.some.inj ei0
  obtain ⟨c0, hn⟩ := and_e hn
  obtain ⟨w_MULTIPLY, v_MULTIPLY⟩ := exa_v c0
  have E_MULTIPLY := Exa.start v_MULTIPLY c0
  have S_MULTIPLY := Sta.start v_MULTIPLY (Or.inr ⟨(hw _ (List.mem_of_getElem? (i := 6) rfl)), (hw _ (List.mem_of_getElem? (i := 7) rfl))⟩)
  obtain ⟨c1, hn⟩ := and_e hn
  obtain ⟨w_LOGICAL_AND, v_LOGICAL_AND⟩ := exa_v c1
  have E_LOGICAL_AND := Exa.start v_LOGICAL_AND c1
  have S_LOGICAL_AND := Sta.start v_LOGICAL_AND (Or.inr ⟨(hw _ (List.mem_of_getElem? (i := 6) rfl)), (hw _ (List.mem_of_getElem? (i := 14) rfl))⟩)
  obtain ⟨c2, hn⟩ := and_e hn
  have O_MULTIPLY := own_fld v_MULTIPLY c2
  obtain ⟨c3, hn⟩ := and_e hn
  have O_LOGICAL_AND := own_fld v_LOGICAL_AND c3
  obtain ⟨c4, hn⟩ := and_e hn
  obtain ⟨w_LOGICAL_OR, v_LOGICAL_OR⟩ := exa_v c4
  have E_LOGICAL_OR := Exa.start v_LOGICAL_OR c4
  have S_LOGICAL_OR := Sta.start v_LOGICAL_OR (Or.inr ⟨(hw _ (List.mem_of_getElem? (i := 6) rfl)), (hw _ (List.mem_of_getElem? (i := 16) rfl))⟩)
  obtain ⟨c5, hn⟩ := and_e hn
  have O_LOGICAL_OR := own_fld v_LOGICAL_OR c5
  obtain ⟨c6, hn⟩ := and_e hn
  obtain ⟨w_ADD, v_ADD⟩ := exa_v c6
  have E_ADD := Exa.start v_ADD c6
  have S_ADD := Sta.start v_ADD (Or.inr ⟨(hw _ (List.mem_of_getElem? (i := 6) rfl)), (hw _ (List.mem_of_getElem? (i := 18) rfl))⟩)
  obtain ⟨c7, hn⟩ := and_e hn
  have O_ADD := own_fld v_ADD c7
  obtain ⟨c8, hn⟩ := and_e hn
  obtain ⟨w_REMAINDER, v_REMAINDER⟩ := exa_v c8
  have E_REMAINDER := Exa.start v_REMAINDER c8
  have S_REMAINDER := Sta.start v_REMAINDER (Or.inr ⟨(hw _ (List.mem_of_getElem? (i := 6) rfl)), (hw _ (List.mem_of_getElem? (i := 20) rfl))⟩)
  obtain ⟨c9, hn⟩ := and_e hn
  have O_REMAINDER := own_fld v_REMAINDER c9
  obtain ⟨c10, hn⟩ := and_e hn
  obtain ⟨w_DIVIDE, v_DIVIDE⟩ := exa_v c10
  have E_DIVIDE := Exa.start v_DIVIDE c10
  have S_DIVIDE := Sta.start v_DIVIDE (Or.inr ⟨(hw _ (List.mem_of_getElem? (i := 6) rfl)), (hw _ (List.mem_of_getElem? (i := 22) rfl))⟩)
  obtain ⟨c11, hn⟩ := and_e hn
  have O_DIVIDE := own_fld v_DIVIDE c11
  obtain ⟨c12, hn⟩ := and_e hn
  obtain ⟨w_LESS, v_LESS⟩ := exa_v c12
  have E_LESS := Exa.start v_LESS c12
  have S_LESS := Sta.start v_LESS (Or.inr ⟨(hw _ (List.mem_of_getElem? (i := 6) rfl)), (hw _ (List.mem_of_getElem? (i := 24) rfl))⟩)
  obtain ⟨c13, hn⟩ := and_e hn
  have O_LESS := own_fld v_LESS c13
  obtain ⟨c14, hn⟩ := and_e hn
  obtain ⟨w_EQUAL, v_EQUAL⟩ := exa_v c14
  have E_EQUAL := Exa.start v_EQUAL c14
  have S_EQUAL := Sta.start v_EQUAL (Or.inr ⟨(hw _ (List.mem_of_getElem? (i := 6) rfl)), (hw _ (List.mem_of_getElem? (i := 26) rfl))⟩)
  obtain ⟨c15, hn⟩ := and_e hn
  have O_EQUAL := own_fld v_EQUAL c15
  obtain ⟨c16, hn⟩ := and_e hn
  obtain ⟨w_SUBTRACT, v_SUBTRACT⟩ := exa_v c16
  have E_SUBTRACT := Exa.start v_SUBTRACT c16
  have S_SUBTRACT := Sta.start v_SUBTRACT (Or.inr ⟨(hw _ (List.mem_of_getElem? (i := 6) rfl)), (hw _ (List.mem_of_getElem? (i := 28) rfl))⟩)
  obtain ⟨c17, hn⟩ := and_e hn
  have O_SUBTRACT := own_fld v_SUBTRACT c17
  obtain ⟨c18, hn⟩ := and_e hn
  obtain ⟨w_GREATER, v_GREATER⟩ := exa_v c18
  have E_GREATER := Exa.start v_GREATER c18
  have S_GREATER := Sta.start v_GREATER (Or.inr ⟨(hw _ (List.mem_of_getElem? (i := 6) rfl)), (hw _ (List.mem_of_getElem? (i := 30) rfl))⟩)
  obtain ⟨c19, hn⟩ := and_e hn
  have O_GREATER := own_fld v_GREATER c19
  obtain ⟨c20, hn⟩ := and_e hn
  obtain ⟨w_NOT_EQUAL, v_NOT_EQUAL⟩ := exa_v c20
  have E_NOT_EQUAL := Exa.start v_NOT_EQUAL c20
  have S_NOT_EQUAL := Sta.start v_NOT_EQUAL (Or.inr ⟨(hw _ (List.mem_of_getElem? (i := 6) rfl)), (hw _ (List.mem_of_getElem? (i := 32) rfl))⟩)
  obtain ⟨c21, hn⟩ := and_e hn
  have O_NOT_EQUAL := own_fld v_NOT_EQUAL c21
  obtain ⟨c22, hn⟩ := and_e hn
  obtain ⟨w_BIT_OR, v_BIT_OR⟩ := exa_v c22
  have E_BIT_OR := Exa.start v_BIT_OR c22
  have S_BIT_OR := Sta.start v_BIT_OR (Or.inr ⟨(hw _ (List.mem_of_getElem? (i := 6) rfl)), (hw _ (List.mem_of_getElem? (i := 35) rfl))⟩)
  obtain ⟨c23, hn⟩ := and_e hn
  have O_BIT_OR := own_fld v_BIT_OR c23
  obtain ⟨c24, hn⟩ := and_e hn
  obtain ⟨w_GREATER_EQUAL, v_GREATER_EQUAL⟩ := exa_v c24
  have E_GREATER_EQUAL := Exa.start v_GREATER_EQUAL c24
  have S_GREATER_EQUAL := Sta.start v_GREATER_EQUAL (Or.inr ⟨(hw _ (List.mem_of_getElem? (i := 6) rfl)), (hw _ (List.mem_of_getElem? (i := 37) rfl))⟩)
  obtain ⟨c25, hn⟩ := and_e hn
  have O_GREATER_EQUAL := own_fld v_GREATER_EQUAL c25
  obtain ⟨c26, hn⟩ := and_e hn
  obtain ⟨w_BIT_AND, v_BIT_AND⟩ := exa_v c26
  have E_BIT_AND := Exa.start v_BIT_AND c26
  have S_BIT_AND := Sta.start v_BIT_AND (Or.inr ⟨(hw _ (List.mem_of_getElem? (i := 6) rfl)), (hw _ (List.mem_of_getElem? (i := 39) rfl))⟩)
  obtain ⟨c27, hn⟩ := and_e hn
  have O_BIT_AND := own_fld v_BIT_AND c27
  obtain ⟨c28, hn⟩ := and_e hn
  obtain ⟨w_SHIFT_RIGHT, v_SHIFT_RIGHT⟩ := exa_v c28
  have E_SHIFT_RIGHT := Exa.start v_SHIFT_RIGHT c28
  have S_SHIFT_RIGHT := Sta.start v_SHIFT_RIGHT (Or.inr ⟨(hw _ (List.mem_of_getElem? (i := 6) rfl)), (hw _ (List.mem_of_getElem? (i := 41) rfl))⟩)
  obtain ⟨c29, hn⟩ := and_e hn
  have O_SHIFT_RIGHT := own_fld v_SHIFT_RIGHT c29
  obtain ⟨c30, hn⟩ := and_e hn
  obtain ⟨w_BIT_XOR, v_BIT_XOR⟩ := exa_v c30
  have E_BIT_XOR := Exa.start v_BIT_XOR c30
  have S_BIT_XOR := Sta.start v_BIT_XOR (Or.inr ⟨(hw _ (List.mem_of_getElem? (i := 6) rfl)), (hw _ (List.mem_of_getElem? (i := 44) rfl))⟩)
  obtain ⟨c31, hn⟩ := and_e hn
  have O_BIT_XOR := own_fld v_BIT_XOR c31
  obtain ⟨c32, hn⟩ := and_e hn
  obtain ⟨w_SHIFT_LEFT, v_SHIFT_LEFT⟩ := exa_v c32
  have E_SHIFT_LEFT := Exa.start v_SHIFT_LEFT c32
  have S_SHIFT_LEFT := Sta.start v_SHIFT_LEFT (Or.inr ⟨(hw _ (List.mem_of_getElem? (i := 6) rfl)), (hw _ (List.mem_of_getElem? (i := 46) rfl))⟩)
  obtain ⟨c33, hn⟩ := and_e hn
  have O_SHIFT_LEFT := own_fld v_SHIFT_LEFT c33
  obtain ⟨c34, hn⟩ := and_e hn
  obtain ⟨w_LESS_EQUAL, v_LESS_EQUAL⟩ := exa_v c34
  have E_LESS_EQUAL := Exa.start v_LESS_EQUAL c34
  have S_LESS_EQUAL := Sta.start v_LESS_EQUAL (Or.inr ⟨(hw _ (List.mem_of_getElem? (i := 6) rfl)), (hw _ (List.mem_of_getElem? (i := 48) rfl))⟩)
  have O_LESS_EQUAL := own_fld v_LESS_EQUAL hn
  obtain ⟨k, hk⟩ : ∃ k, ((i0 &&& (2147483647 : Int32)) % (18 : Int32)) = k := ⟨_, rfl⟩
  obtain ⟨w, b, hb1, PK, E_w, LG⟩ : ∃ (w : Addr) (b : Int32), ((k = 16 ∧ b = 1) ∨ (¬ k = 16 ∧ k = 17 ∧ b = 1) ∨ (¬ k = 16 ∧ ¬ k = 17 ∧ b = 0)) ∧ own_Pick s s.heap k w ∧ Exa s s.heap w "com/example/ithuriel/ithuriel/model/BinaryExpression$Operator" ∧ own_Log w w_LOGICAL_AND w_LOGICAL_OR b := by
    rcases own_k i0 k hk with rfl | rfl | rfl | rfl | rfl | rfl | rfl | rfl | rfl | rfl | rfl | rfl | rfl | rfl | rfl | rfl | rfl | rfl
    · exact ⟨w_MULTIPLY, 0, Or.inr (Or.inr ⟨by decide, by decide, rfl⟩), Or.inl ⟨rfl, S_MULTIPLY⟩, E_MULTIPLY, Or.inr (Or.inr ⟨(fun q => by rw [q, O_LOGICAL_AND] at O_MULTIPLY; exact absurd O_MULTIPLY (by decide)), (fun q => by rw [q, O_LOGICAL_OR] at O_MULTIPLY; exact absurd O_MULTIPLY (by decide)), rfl⟩)⟩
    · exact ⟨w_DIVIDE, 0, Or.inr (Or.inr ⟨by decide, by decide, rfl⟩), Or.inr (Or.inl ⟨rfl, S_DIVIDE⟩), E_DIVIDE, Or.inr (Or.inr ⟨(fun q => by rw [q, O_LOGICAL_AND] at O_DIVIDE; exact absurd O_DIVIDE (by decide)), (fun q => by rw [q, O_LOGICAL_OR] at O_DIVIDE; exact absurd O_DIVIDE (by decide)), rfl⟩)⟩
    · exact ⟨w_REMAINDER, 0, Or.inr (Or.inr ⟨by decide, by decide, rfl⟩), Or.inr (Or.inr (Or.inl ⟨rfl, S_REMAINDER⟩)), E_REMAINDER, Or.inr (Or.inr ⟨(fun q => by rw [q, O_LOGICAL_AND] at O_REMAINDER; exact absurd O_REMAINDER (by decide)), (fun q => by rw [q, O_LOGICAL_OR] at O_REMAINDER; exact absurd O_REMAINDER (by decide)), rfl⟩)⟩
    · exact ⟨w_ADD, 0, Or.inr (Or.inr ⟨by decide, by decide, rfl⟩), Or.inr (Or.inr (Or.inr (Or.inl ⟨rfl, S_ADD⟩))), E_ADD, Or.inr (Or.inr ⟨(fun q => by rw [q, O_LOGICAL_AND] at O_ADD; exact absurd O_ADD (by decide)), (fun q => by rw [q, O_LOGICAL_OR] at O_ADD; exact absurd O_ADD (by decide)), rfl⟩)⟩
    · exact ⟨w_SUBTRACT, 0, Or.inr (Or.inr ⟨by decide, by decide, rfl⟩), Or.inr (Or.inr (Or.inr (Or.inr (Or.inl ⟨rfl, S_SUBTRACT⟩)))), E_SUBTRACT, Or.inr (Or.inr ⟨(fun q => by rw [q, O_LOGICAL_AND] at O_SUBTRACT; exact absurd O_SUBTRACT (by decide)), (fun q => by rw [q, O_LOGICAL_OR] at O_SUBTRACT; exact absurd O_SUBTRACT (by decide)), rfl⟩)⟩
    · exact ⟨w_SHIFT_LEFT, 0, Or.inr (Or.inr ⟨by decide, by decide, rfl⟩), Or.inr (Or.inr (Or.inr (Or.inr (Or.inr (Or.inl ⟨rfl, S_SHIFT_LEFT⟩))))), E_SHIFT_LEFT, Or.inr (Or.inr ⟨(fun q => by rw [q, O_LOGICAL_AND] at O_SHIFT_LEFT; exact absurd O_SHIFT_LEFT (by decide)), (fun q => by rw [q, O_LOGICAL_OR] at O_SHIFT_LEFT; exact absurd O_SHIFT_LEFT (by decide)), rfl⟩)⟩
    · exact ⟨w_SHIFT_RIGHT, 0, Or.inr (Or.inr ⟨by decide, by decide, rfl⟩), Or.inr (Or.inr (Or.inr (Or.inr (Or.inr (Or.inr (Or.inl ⟨rfl, S_SHIFT_RIGHT⟩)))))), E_SHIFT_RIGHT, Or.inr (Or.inr ⟨(fun q => by rw [q, O_LOGICAL_AND] at O_SHIFT_RIGHT; exact absurd O_SHIFT_RIGHT (by decide)), (fun q => by rw [q, O_LOGICAL_OR] at O_SHIFT_RIGHT; exact absurd O_SHIFT_RIGHT (by decide)), rfl⟩)⟩
    · exact ⟨w_LESS, 0, Or.inr (Or.inr ⟨by decide, by decide, rfl⟩), Or.inr (Or.inr (Or.inr (Or.inr (Or.inr (Or.inr (Or.inr (Or.inl ⟨rfl, S_LESS⟩))))))), E_LESS, Or.inr (Or.inr ⟨(fun q => by rw [q, O_LOGICAL_AND] at O_LESS; exact absurd O_LESS (by decide)), (fun q => by rw [q, O_LOGICAL_OR] at O_LESS; exact absurd O_LESS (by decide)), rfl⟩)⟩
    · exact ⟨w_GREATER, 0, Or.inr (Or.inr ⟨by decide, by decide, rfl⟩), Or.inr (Or.inr (Or.inr (Or.inr (Or.inr (Or.inr (Or.inr (Or.inr (Or.inl ⟨rfl, S_GREATER⟩)))))))), E_GREATER, Or.inr (Or.inr ⟨(fun q => by rw [q, O_LOGICAL_AND] at O_GREATER; exact absurd O_GREATER (by decide)), (fun q => by rw [q, O_LOGICAL_OR] at O_GREATER; exact absurd O_GREATER (by decide)), rfl⟩)⟩
    · exact ⟨w_LESS_EQUAL, 0, Or.inr (Or.inr ⟨by decide, by decide, rfl⟩), Or.inr (Or.inr (Or.inr (Or.inr (Or.inr (Or.inr (Or.inr (Or.inr (Or.inr (Or.inl ⟨rfl, S_LESS_EQUAL⟩))))))))), E_LESS_EQUAL, Or.inr (Or.inr ⟨(fun q => by rw [q, O_LOGICAL_AND] at O_LESS_EQUAL; exact absurd O_LESS_EQUAL (by decide)), (fun q => by rw [q, O_LOGICAL_OR] at O_LESS_EQUAL; exact absurd O_LESS_EQUAL (by decide)), rfl⟩)⟩
    · exact ⟨w_GREATER_EQUAL, 0, Or.inr (Or.inr ⟨by decide, by decide, rfl⟩), Or.inr (Or.inr (Or.inr (Or.inr (Or.inr (Or.inr (Or.inr (Or.inr (Or.inr (Or.inr (Or.inl ⟨rfl, S_GREATER_EQUAL⟩)))))))))), E_GREATER_EQUAL, Or.inr (Or.inr ⟨(fun q => by rw [q, O_LOGICAL_AND] at O_GREATER_EQUAL; exact absurd O_GREATER_EQUAL (by decide)), (fun q => by rw [q, O_LOGICAL_OR] at O_GREATER_EQUAL; exact absurd O_GREATER_EQUAL (by decide)), rfl⟩)⟩
    · exact ⟨w_EQUAL, 0, Or.inr (Or.inr ⟨by decide, by decide, rfl⟩), Or.inr (Or.inr (Or.inr (Or.inr (Or.inr (Or.inr (Or.inr (Or.inr (Or.inr (Or.inr (Or.inr (Or.inl ⟨rfl, S_EQUAL⟩))))))))))), E_EQUAL, Or.inr (Or.inr ⟨(fun q => by rw [q, O_LOGICAL_AND] at O_EQUAL; exact absurd O_EQUAL (by decide)), (fun q => by rw [q, O_LOGICAL_OR] at O_EQUAL; exact absurd O_EQUAL (by decide)), rfl⟩)⟩
    · exact ⟨w_NOT_EQUAL, 0, Or.inr (Or.inr ⟨by decide, by decide, rfl⟩), Or.inr (Or.inr (Or.inr (Or.inr (Or.inr (Or.inr (Or.inr (Or.inr (Or.inr (Or.inr (Or.inr (Or.inr (Or.inl ⟨rfl, S_NOT_EQUAL⟩)))))))))))), E_NOT_EQUAL, Or.inr (Or.inr ⟨(fun q => by rw [q, O_LOGICAL_AND] at O_NOT_EQUAL; exact absurd O_NOT_EQUAL (by decide)), (fun q => by rw [q, O_LOGICAL_OR] at O_NOT_EQUAL; exact absurd O_NOT_EQUAL (by decide)), rfl⟩)⟩
    · exact ⟨w_BIT_AND, 0, Or.inr (Or.inr ⟨by decide, by decide, rfl⟩), Or.inr (Or.inr (Or.inr (Or.inr (Or.inr (Or.inr (Or.inr (Or.inr (Or.inr (Or.inr (Or.inr (Or.inr (Or.inr (Or.inl ⟨rfl, S_BIT_AND⟩))))))))))))), E_BIT_AND, Or.inr (Or.inr ⟨(fun q => by rw [q, O_LOGICAL_AND] at O_BIT_AND; exact absurd O_BIT_AND (by decide)), (fun q => by rw [q, O_LOGICAL_OR] at O_BIT_AND; exact absurd O_BIT_AND (by decide)), rfl⟩)⟩
    · exact ⟨w_BIT_XOR, 0, Or.inr (Or.inr ⟨by decide, by decide, rfl⟩), Or.inr (Or.inr (Or.inr (Or.inr (Or.inr (Or.inr (Or.inr (Or.inr (Or.inr (Or.inr (Or.inr (Or.inr (Or.inr (Or.inr (Or.inl ⟨rfl, S_BIT_XOR⟩)))))))))))))), E_BIT_XOR, Or.inr (Or.inr ⟨(fun q => by rw [q, O_LOGICAL_AND] at O_BIT_XOR; exact absurd O_BIT_XOR (by decide)), (fun q => by rw [q, O_LOGICAL_OR] at O_BIT_XOR; exact absurd O_BIT_XOR (by decide)), rfl⟩)⟩
    · exact ⟨w_BIT_OR, 0, Or.inr (Or.inr ⟨by decide, by decide, rfl⟩), Or.inr (Or.inr (Or.inr (Or.inr (Or.inr (Or.inr (Or.inr (Or.inr (Or.inr (Or.inr (Or.inr (Or.inr (Or.inr (Or.inr (Or.inr (Or.inl ⟨rfl, S_BIT_OR⟩))))))))))))))), E_BIT_OR, Or.inr (Or.inr ⟨(fun q => by rw [q, O_LOGICAL_AND] at O_BIT_OR; exact absurd O_BIT_OR (by decide)), (fun q => by rw [q, O_LOGICAL_OR] at O_BIT_OR; exact absurd O_BIT_OR (by decide)), rfl⟩)⟩
    · exact ⟨w_LOGICAL_AND, 1, Or.inl ⟨rfl, rfl⟩, Or.inr (Or.inr (Or.inr (Or.inr (Or.inr (Or.inr (Or.inr (Or.inr (Or.inr (Or.inr (Or.inr (Or.inr (Or.inr (Or.inr (Or.inr (Or.inr (Or.inl ⟨rfl, S_LOGICAL_AND⟩)))))))))))))))), E_LOGICAL_AND, Or.inl ⟨rfl, rfl⟩⟩
    · exact ⟨w_LOGICAL_OR, 1, Or.inr (Or.inl ⟨by decide, rfl, rfl⟩), Or.inr (Or.inr (Or.inr (Or.inr (Or.inr (Or.inr (Or.inr (Or.inr (Or.inr (Or.inr (Or.inr (Or.inr (Or.inr (Or.inr (Or.inr (Or.inr (Or.inr (⟨rfl, S_LOGICAL_OR⟩))))))))))))))))), E_LOGICAL_OR, Or.inr (Or.inl ⟨(fun q => by rw [q, O_LOGICAL_AND] at O_LOGICAL_OR; exact absurd O_LOGICAL_OR (by decide)), rfl, rfl⟩)⟩
  obtain ⟨n, o, h1, h2, h3, _, L, rfl, ⟨rfl, N⟩, hq⟩ := rm0 l s _ hw tables_1 i0 k w w_LOGICAL_AND w_LOGICAL_OR b s.heap s.heap.size (Nat.le_refl _) hk hb1 PK E_w S_LOGICAL_AND S_LOGICAL_OR LG p e ha hc hk0 s m _ below hf ((Spec.applies_iff_loose hf).mp happ).1 ⟨rfl, State.Warmed39.refl s, rfl⟩ trivial
  refine ⟨n, _, h1, h2, h3, hpost _ _ _ _ _ _ ⟨Cond.after_iff.mpr rfl, Cond.after_iff.mpr (eq_i res_at (Term.int_eval (1)) rfl), trivial⟩ ⟨hq.1, hq.2.1, (hq.2.2.sift fun y hy => Or.inr (N y hy)).mono (by decide) (by decide)⟩⟩
theorem main_1_1 : Claimed_1_1 := comes_1 fun _ _ _ _ _ _ h hF => ⟨h.1, hF⟩
theorem main_1_2 : Claimed_1_2 := comes_1 fun _ _ _ _ _ _ h hF => ⟨h.2.1, hF⟩
end Jvm.Pilot.@@N@@
namespace Jvm.Pilot.@@N@@
open Jvm Jvm.ClassFile Sem Op Lib Jvm.Free Jvm.Stand Jvm.Pilot.@@N@@.Jvm.D
/-! MADE BY PROGRAM (witnessworld.py) out of the Statement's table words and the real class files: 12 classes; the members and pool entries that the words name. The judged class is class 1, her method 2. -/
namespace start1
open Jvm.ClassFile
def u (s : String) : CpInfo := .utf8 (stringToUtf16 s)
/-- a pool by its gaps: so many unusable entries, then the entry; so many at the end -/
def gap : Nat → List CpInfo → List CpInfo
  | 0, r => r
  | n + 1, r => .unusable :: gap n r
def poolList (es : List (Nat × CpInfo)) (last : Nat) : List CpInfo := es.foldr (fun e r => gap e.1 (e.2 :: r)) (gap last [])
def pool (es : List (Nat × CpInfo)) (last : Nat) : Array CpInfo := ⟨poolList es last⟩
def fileOf (pool : Array CpInfo) (this : Nat) (attrs : Array Attribute := #[]) (ms : Array MethodInfo := #[]) (fl : Nat := 33) (sup : Nat := 0) (ifs : Array Nat := #[]) (fds : Array FieldInfo := #[]) : ClassFile where
  minorVersion := 0
  majorVersion := 65
  constantPool := pool
  accessFlags := fl
  thisClass := this
  superClass := sup
  interfaces := ifs
  fields := fds
  methods := ms
  attributes := attrs
def plain (name : String) (sup : Option ClassId) : Class where
  name := name
  kind := .ordinary
  loader := none
  accessFlags := 33
  super := sup
  interfaces := #[]
  cf := none
  fields := #[]
  methods := #[]
  instanceTypes := #[]
  staticTypes := #[]
  resolved := #[]
  callSites := []
  init := .initialized
  statics := none
  mirror := none

def pool0 : Array CpInfo := pool [(5, u "<init>"), (0, u "()V"), (1, .class_ 10), (1, u "java/lang/Object")] 113

def k0m0 : Method := { name := "<init>", desc := "()V", sig := { parameters := [], returnType := none }, accessFlags := 1, code := none }
/-- java/lang/Object -/
def k0 : Class := { plain "java/lang/Object" none with
  accessFlags := 33
  interfaces := #[]
  cf := some (fileOf pool0 8 #[] #[{ accessFlags := 1, nameIndex := 5, descriptorIndex := 6, attributes := #[] }] 33 0 #[] #[])
  fields := #[]
  methods := #[k0m0]
  instanceTypes := #[]
  staticTypes := #[]
  resolved := Array.replicate 124 none
  statics := none }

def pool1 : Array CpInfo := pool [(2, .class_ 4), (1, u "java/lang/Object"), (0, u "<init>"), (0, u "()V"), (0, .fieldref 8 9), (0, .class_ 10), (0, .nameAndType 11 12), (0, u "com/example/ithuriel/ithuriel/model/BinaryExpression$Operator"), (0, u "MULTIPLY"), (0, u "Lcom/example/ithuriel/ithuriel/model/BinaryExpression$Operator;"), (0, .fieldref 8 14), (0, .nameAndType 15 12), (0, u "DIVIDE"), (0, .fieldref 8 17), (0, .nameAndType 18 12), (0, u "REMAINDER"), (0, .fieldref 8 20), (0, .nameAndType 21 12), (0, u "ADD"), (0, .fieldref 8 23), (0, .nameAndType 24 12), (0, u "SUBTRACT"), (0, .fieldref 8 26), (0, .nameAndType 27 12), (0, u "SHIFT_LEFT"), (0, .fieldref 8 29), (0, .nameAndType 30 12), (0, u "SHIFT_RIGHT"), (0, .fieldref 8 32), (0, .nameAndType 33 12), (0, u "LESS"), (0, .fieldref 8 35), (0, .nameAndType 36 12), (0, u "GREATER"), (0, .fieldref 8 38), (0, .nameAndType 39 12), (0, u "LESS_EQUAL"), (0, .fieldref 8 41), (0, .nameAndType 42 12), (0, u "GREATER_EQUAL"), (0, .fieldref 8 44), (0, .nameAndType 45 12), (0, u "EQUAL"), (0, .fieldref 8 47), (0, .nameAndType 48 12), (0, u "NOT_EQUAL"), (0, .fieldref 8 50), (0, .nameAndType 51 12), (0, u "BIT_AND"), (0, .fieldref 8 53), (0, .nameAndType 54 12), (0, u "BIT_XOR"), (0, .fieldref 8 56), (0, .nameAndType 57 12), (0, u "BIT_OR"), (0, .fieldref 8 59), (0, .nameAndType 60 12), (0, u "LOGICAL_AND"), (0, .fieldref 8 62), (0, .nameAndType 63 12), (0, u "LOGICAL_OR"), (0, .integer 2147483647), (0, .methodref 66 67), (0, .class_ 68), (0, .nameAndType 69 70), (0, u "com/example/ithuriel/ithuriel/model/OperatorIsLogicalPinLaw"), (0, u "op"), (0, u "(I)Lcom/example/ithuriel/ithuriel/model/BinaryExpression$Operator;"), (0, .methodref 8 72), (0, .nameAndType 73 74), (0, u "isLogical"), (0, u "()Z"), (3, u "law"), (0, u "(I)Z")] 6

def k1m0 : Method := { name := "<init>", desc := "()V", sig := { parameters := [], returnType := none }, accessFlags := 2, code := none }
def k1c1 : Code := { maxStack := 2, maxLocals := 1, code := method_2_code, exceptionTable := #[], attributes := #[] }
def k1m1 : Method := { name := "op", desc := "(I)Lcom/example/ithuriel/ithuriel/model/BinaryExpression$Operator;", sig := { parameters := [.int], returnType := some (.object "com/example/ithuriel/ithuriel/model/BinaryExpression$Operator") }, accessFlags := 10, code := some k1c1 }
def k1c2 : Code := { maxStack := 2, maxLocals := 4, code := code, exceptionTable := #[], attributes := #[] }
def k1m2 : Method := { name := "law", desc := "(I)Z", sig := { parameters := [.int], returnType := some .boolean }, accessFlags := 9, code := some k1c2 }
/-- com/example/ithuriel/ithuriel/model/OperatorIsLogicalPinLaw -/
def k1 : Class := { plain "com/example/ithuriel/ithuriel/model/OperatorIsLogicalPinLaw" (some 0) with
  accessFlags := 49
  interfaces := #[]
  cf := some (fileOf pool1 66 #[] #[{ accessFlags := 2, nameIndex := 5, descriptorIndex := 6, attributes := #[] }, { accessFlags := 10, nameIndex := 69, descriptorIndex := 70, attributes := #[] }, { accessFlags := 9, nameIndex := 78, descriptorIndex := 79, attributes := #[] }] 49 2 #[] #[])
  fields := #[]
  methods := #[k1m0, k1m1, k1m2]
  instanceTypes := #[]
  staticTypes := #[]
  resolved := Array.replicate 86 none
  statics := none }

def pool2 : Array CpInfo := pool [(1, .class_ 2), (0, u "java/lang/constant/Constable"), (0, .class_ 4), (0, u "java/lang/Object")] 6

/-- java/lang/constant/Constable -/
def k2 : Class := { plain "java/lang/constant/Constable" (some 0) with
  accessFlags := 1537
  interfaces := #[]
  cf := some (fileOf pool2 1 #[] #[] 1537 3 #[] #[])
  fields := #[]
  methods := #[]
  instanceTypes := #[]
  staticTypes := #[]
  resolved := Array.replicate 11 none
  statics := none }

def pool3 : Array CpInfo := pool [(1, .class_ 2), (0, u "java/lang/Comparable"), (0, .class_ 4), (0, u "java/lang/Object")] 7

/-- java/lang/Comparable -/
def k3 : Class := { plain "java/lang/Comparable" (some 0) with
  accessFlags := 1537
  interfaces := #[]
  cf := some (fileOf pool3 1 #[] #[] 1537 3 #[] #[])
  fields := #[]
  methods := #[]
  instanceTypes := #[]
  staticTypes := #[]
  resolved := Array.replicate 12 none
  statics := none }

def pool4 : Array CpInfo := pool [(1, .class_ 2), (0, u "java/io/Serializable"), (0, .class_ 4), (0, u "java/lang/Object")] 2

/-- java/io/Serializable -/
def k4 : Class := { plain "java/io/Serializable" (some 0) with
  accessFlags := 1537
  interfaces := #[]
  cf := some (fileOf pool4 1 #[] #[] 1537 3 #[] #[])
  fields := #[]
  methods := #[]
  instanceTypes := #[]
  staticTypes := #[]
  resolved := Array.replicate 7 none
  statics := none }

def pool5 : Array CpInfo := pool [(2, .class_ 4), (1, u "java/lang/Enum"), (0, u "name"), (0, u "Ljava/lang/String;"), (2, u "ordinal"), (0, u "I"), (1, .class_ 14), (1, u "java/lang/Object"), (4, u "hash"), (86, .class_ 108), (1, u "java/lang/Enum$EnumDesc"), (2, .class_ 112), (0, u "java/lang/constant/Constable"), (0, .class_ 114), (0, u "java/lang/Comparable"), (0, .class_ 116), (0, u "java/io/Serializable")] 87

/-- java/lang/Enum -/
def k5 : Class := { plain "java/lang/Enum" (some 0) with
  accessFlags := 1057
  interfaces := #[2, 3, 4]
  cf := some (fileOf pool5 2 #[.nestMembers #[106]] #[] 1057 12 #[111, 113, 115] #[{ accessFlags := 18, nameIndex := 5, descriptorIndex := 6, attributes := #[] }, { accessFlags := 18, nameIndex := 9, descriptorIndex := 10, attributes := #[] }, { accessFlags := 2, nameIndex := 19, descriptorIndex := 10, attributes := #[] }])
  fields := #[{ name := "name", type := (.object "java/lang/String"), accessFlags := 18, slot := 0, constantValue := 0 }, { name := "ordinal", type := .int, accessFlags := 18, slot := 1, constantValue := 0 }, { name := "hash", type := .int, accessFlags := 2, slot := 2, constantValue := 0 }]
  methods := #[]
  instanceTypes := #[(.object "java/lang/String"), .int, .int]
  staticTypes := #[]
  resolved := Array.replicate 204 none
  statics := none }

def pool6 : Array CpInfo := pool [(1, .class_ 2), (0, u "com/example/ithuriel/ithuriel/model/BinaryExpression$Operator"), (2, u "MULTIPLY"), (0, u "Lcom/example/ithuriel/ithuriel/model/BinaryExpression$Operator;"), (2, u "DIVIDE"), (2, u "REMAINDER"), (2, u "ADD"), (2, u "SUBTRACT"), (2, u "SHIFT_LEFT"), (2, u "SHIFT_RIGHT"), (2, u "LESS"), (2, u "GREATER"), (2, u "LESS_EQUAL"), (2, u "GREATER_EQUAL"), (2, u "EQUAL"), (2, u "NOT_EQUAL"), (2, u "BIT_AND"), (2, u "BIT_XOR"), (2, u "BIT_OR"), (0, .fieldref 1 53), (0, .nameAndType 54 6), (0, u "LOGICAL_AND"), (0, .fieldref 1 56), (0, .nameAndType 57 6), (0, u "LOGICAL_OR"), (2, u "$VALUES"), (0, u "[Lcom/example/ithuriel/ithuriel/model/BinaryExpression$Operator;"), (6, .class_ 70), (1, u "java/lang/Enum"), (8, u "symbol"), (0, u "Ljava/lang/String;"), (90, u "()Z"), (3, u "isLogical"), (9, .class_ 186), (0, u "com/example/ithuriel/ithuriel/model/BinaryExpression")] 16

def k6c0 : Code := { maxStack := 2, maxLocals := 1, code := prog_75_method_6_code, exceptionTable := #[], attributes := #[] }
def k6m0 : Method := { name := "isLogical", desc := "()Z", sig := { parameters := [], returnType := some .boolean }, accessFlags := 1, code := some k6c0 }
/-- com/example/ithuriel/ithuriel/model/BinaryExpression$Operator -/
def k6 : Class := { plain "com/example/ithuriel/ithuriel/model/BinaryExpression$Operator" (some 5) with
  accessFlags := 16433
  interfaces := #[]
  cf := some (fileOf pool6 1 #[.nestHost 185] #[{ accessFlags := 1, nameIndex := 175, descriptorIndex := 171, attributes := #[] }] 16433 68 #[] #[{ accessFlags := 16409, nameIndex := 5, descriptorIndex := 6, attributes := #[] }, { accessFlags := 16409, nameIndex := 9, descriptorIndex := 6, attributes := #[] }, { accessFlags := 16409, nameIndex := 12, descriptorIndex := 6, attributes := #[] }, { accessFlags := 16409, nameIndex := 15, descriptorIndex := 6, attributes := #[] }, { accessFlags := 16409, nameIndex := 18, descriptorIndex := 6, attributes := #[] }, { accessFlags := 16409, nameIndex := 21, descriptorIndex := 6, attributes := #[] }, { accessFlags := 16409, nameIndex := 24, descriptorIndex := 6, attributes := #[] }, { accessFlags := 16409, nameIndex := 27, descriptorIndex := 6, attributes := #[] }, { accessFlags := 16409, nameIndex := 30, descriptorIndex := 6, attributes := #[] }, { accessFlags := 16409, nameIndex := 33, descriptorIndex := 6, attributes := #[] }, { accessFlags := 16409, nameIndex := 36, descriptorIndex := 6, attributes := #[] }, { accessFlags := 16409, nameIndex := 39, descriptorIndex := 6, attributes := #[] }, { accessFlags := 16409, nameIndex := 42, descriptorIndex := 6, attributes := #[] }, { accessFlags := 16409, nameIndex := 45, descriptorIndex := 6, attributes := #[] }, { accessFlags := 16409, nameIndex := 48, descriptorIndex := 6, attributes := #[] }, { accessFlags := 16409, nameIndex := 51, descriptorIndex := 6, attributes := #[] }, { accessFlags := 16409, nameIndex := 54, descriptorIndex := 6, attributes := #[] }, { accessFlags := 16409, nameIndex := 57, descriptorIndex := 6, attributes := #[] }, { accessFlags := 18, nameIndex := 79, descriptorIndex := 80, attributes := #[] }, { accessFlags := 4122, nameIndex := 60, descriptorIndex := 61, attributes := #[] }])
  fields := #[{ name := "MULTIPLY", type := (.object "com/example/ithuriel/ithuriel/model/BinaryExpression$Operator"), accessFlags := 16409, slot := 0, constantValue := 0 }, { name := "DIVIDE", type := (.object "com/example/ithuriel/ithuriel/model/BinaryExpression$Operator"), accessFlags := 16409, slot := 1, constantValue := 0 }, { name := "REMAINDER", type := (.object "com/example/ithuriel/ithuriel/model/BinaryExpression$Operator"), accessFlags := 16409, slot := 2, constantValue := 0 }, { name := "ADD", type := (.object "com/example/ithuriel/ithuriel/model/BinaryExpression$Operator"), accessFlags := 16409, slot := 3, constantValue := 0 }, { name := "SUBTRACT", type := (.object "com/example/ithuriel/ithuriel/model/BinaryExpression$Operator"), accessFlags := 16409, slot := 4, constantValue := 0 }, { name := "SHIFT_LEFT", type := (.object "com/example/ithuriel/ithuriel/model/BinaryExpression$Operator"), accessFlags := 16409, slot := 5, constantValue := 0 }, { name := "SHIFT_RIGHT", type := (.object "com/example/ithuriel/ithuriel/model/BinaryExpression$Operator"), accessFlags := 16409, slot := 6, constantValue := 0 }, { name := "LESS", type := (.object "com/example/ithuriel/ithuriel/model/BinaryExpression$Operator"), accessFlags := 16409, slot := 7, constantValue := 0 }, { name := "GREATER", type := (.object "com/example/ithuriel/ithuriel/model/BinaryExpression$Operator"), accessFlags := 16409, slot := 8, constantValue := 0 }, { name := "LESS_EQUAL", type := (.object "com/example/ithuriel/ithuriel/model/BinaryExpression$Operator"), accessFlags := 16409, slot := 9, constantValue := 0 }, { name := "GREATER_EQUAL", type := (.object "com/example/ithuriel/ithuriel/model/BinaryExpression$Operator"), accessFlags := 16409, slot := 10, constantValue := 0 }, { name := "EQUAL", type := (.object "com/example/ithuriel/ithuriel/model/BinaryExpression$Operator"), accessFlags := 16409, slot := 11, constantValue := 0 }, { name := "NOT_EQUAL", type := (.object "com/example/ithuriel/ithuriel/model/BinaryExpression$Operator"), accessFlags := 16409, slot := 12, constantValue := 0 }, { name := "BIT_AND", type := (.object "com/example/ithuriel/ithuriel/model/BinaryExpression$Operator"), accessFlags := 16409, slot := 13, constantValue := 0 }, { name := "BIT_XOR", type := (.object "com/example/ithuriel/ithuriel/model/BinaryExpression$Operator"), accessFlags := 16409, slot := 14, constantValue := 0 }, { name := "BIT_OR", type := (.object "com/example/ithuriel/ithuriel/model/BinaryExpression$Operator"), accessFlags := 16409, slot := 15, constantValue := 0 }, { name := "LOGICAL_AND", type := (.object "com/example/ithuriel/ithuriel/model/BinaryExpression$Operator"), accessFlags := 16409, slot := 16, constantValue := 0 }, { name := "LOGICAL_OR", type := (.object "com/example/ithuriel/ithuriel/model/BinaryExpression$Operator"), accessFlags := 16409, slot := 17, constantValue := 0 }, { name := "symbol", type := (.object "java/lang/String"), accessFlags := 18, slot := 3, constantValue := 0 }, { name := "$VALUES", type := (.array (.object "com/example/ithuriel/ithuriel/model/BinaryExpression$Operator")), accessFlags := 4122, slot := 18, constantValue := 0 }]
  methods := #[k6m0]
  instanceTypes := #[(.object "java/lang/String"), .int, .int, (.object "java/lang/String")]
  staticTypes := #[(.object "com/example/ithuriel/ithuriel/model/BinaryExpression$Operator"), (.object "com/example/ithuriel/ithuriel/model/BinaryExpression$Operator"), (.object "com/example/ithuriel/ithuriel/model/BinaryExpression$Operator"), (.object "com/example/ithuriel/ithuriel/model/BinaryExpression$Operator"), (.object "com/example/ithuriel/ithuriel/model/BinaryExpression$Operator"), (.object "com/example/ithuriel/ithuriel/model/BinaryExpression$Operator"), (.object "com/example/ithuriel/ithuriel/model/BinaryExpression$Operator"), (.object "com/example/ithuriel/ithuriel/model/BinaryExpression$Operator"), (.object "com/example/ithuriel/ithuriel/model/BinaryExpression$Operator"), (.object "com/example/ithuriel/ithuriel/model/BinaryExpression$Operator"), (.object "com/example/ithuriel/ithuriel/model/BinaryExpression$Operator"), (.object "com/example/ithuriel/ithuriel/model/BinaryExpression$Operator"), (.object "com/example/ithuriel/ithuriel/model/BinaryExpression$Operator"), (.object "com/example/ithuriel/ithuriel/model/BinaryExpression$Operator"), (.object "com/example/ithuriel/ithuriel/model/BinaryExpression$Operator"), (.object "com/example/ithuriel/ithuriel/model/BinaryExpression$Operator"), (.object "com/example/ithuriel/ithuriel/model/BinaryExpression$Operator"), (.object "com/example/ithuriel/ithuriel/model/BinaryExpression$Operator"), (.array (.object "com/example/ithuriel/ithuriel/model/BinaryExpression$Operator"))]
  resolved := Array.replicate 203 none
  statics := some 0 }

def pool7 : Array CpInfo := pool [(1, u "java/lang/Cloneable"), (0, .class_ 1), (0, u "java/lang/Object"), (0, .class_ 3)] 3

/-- java/lang/Cloneable -/
def k7 : Class := { plain "java/lang/Cloneable" (some 0) with
  accessFlags := 1537
  interfaces := #[]
  cf := some (fileOf pool7 2 #[] #[] 1537 4 #[] #[])
  fields := #[]
  methods := #[]
  instanceTypes := #[]
  staticTypes := #[]
  resolved := Array.replicate 8 none
  statics := none }

/-- the primitive byte -/
def k8 : Class := { plain "byte" none with kind := .primitive 'B', accessFlags := 0x411 }
/-- [B -/
def k9 : Class := { plain "[B" (some 0) with kind := .array 8 .byte, interfaces := #[7, 4], accessFlags := 1041 }

/-- the primitive int -/
def k10 : Class := { plain "int" none with kind := .primitive 'I', accessFlags := 0x411 }
/-- [I -/
def k11 : Class := { plain "[I" (some 0) with kind := .array 10 .int, interfaces := #[7, 4], accessFlags := 1041 }

def heap : Heap := #[{ cls := 6, slots := #[.ref 1, .ref 2, .ref 3, .ref 4, .ref 5, .ref 6, .ref 7, .ref 8, .ref 9, .ref 10, .ref 11, .ref 12, .ref 13, .ref 14, .ref 15, .ref 16, .ref 17, .ref 18, .null], vm := .statics 6 },
  { cls := 6, slots := #[.null, .int 0, .int 0, .null], vm := .none },
  { cls := 6, slots := #[.null, .int 1, .int 0, .null], vm := .none },
  { cls := 6, slots := #[.null, .int 2, .int 0, .null], vm := .none },
  { cls := 6, slots := #[.null, .int 3, .int 0, .null], vm := .none },
  { cls := 6, slots := #[.null, .int 4, .int 0, .null], vm := .none },
  { cls := 6, slots := #[.null, .int 5, .int 0, .null], vm := .none },
  { cls := 6, slots := #[.null, .int 6, .int 0, .null], vm := .none },
  { cls := 6, slots := #[.null, .int 7, .int 0, .null], vm := .none },
  { cls := 6, slots := #[.null, .int 8, .int 0, .null], vm := .none },
  { cls := 6, slots := #[.null, .int 9, .int 0, .null], vm := .none },
  { cls := 6, slots := #[.null, .int 10, .int 0, .null], vm := .none },
  { cls := 6, slots := #[.null, .int 11, .int 0, .null], vm := .none },
  { cls := 6, slots := #[.null, .int 12, .int 0, .null], vm := .none },
  { cls := 6, slots := #[.null, .int 13, .int 0, .null], vm := .none },
  { cls := 6, slots := #[.null, .int 14, .int 0, .null], vm := .none },
  { cls := 6, slots := #[.null, .int 15, .int 0, .null], vm := .none },
  { cls := 6, slots := #[.null, .int 16, .int 0, .null], vm := .none },
  { cls := 6, slots := #[.null, .int 17, .int 0, .null], vm := .none }]
def classes : Array Class := #[k0, k1, k2, k3, k4, k5, k6, k7, k8, k9, k10, k11]
def interned : List (Array UInt16 × Addr) := []
def slotsUsed : Nat := 91
def theMethod : MethodId := ⟨1, 2⟩
def args0 : Array Value := #[.int 5]
def aboutOver (below : List Frame) : State where
  vm := { classes := classes, interned := interned.toArray }
  heap := heap
  slotsUsed := slotsUsed
  threads := #[{ frames := .invoking theMethod args0 :: below }]
def below0 : List Frame := [.native { method := ⟨0, 0⟩, args := #[] }]
def about1 : State := aboutOver below0
def p0 : Program := .bare "" "" ""
def e0 : Env := launch0.env 0 0 0
theorem w_frames : about1.frames = Frame.invoking theMethod args0 :: below0 := rfl
set_option maxRecDepth 65536 in
theorem w_args : argsFit about1.vm theMethod args0 = true := by decide +kernel
set_option maxRecDepth 65536 in
theorem w_heap : heapFits about1 = true := by decide +kernel
set_option maxRecDepth 65536 in
theorem w_runnable : about1.curStatus? = some .runnable := by decide +kernel
set_option maxRecDepth 65536 in
theorem w_alone : about1.alone = true := by decide +kernel
set_option maxRecDepth 65536 in
theorem w_named : about1.methodNamed? x = some theMethod := by decide +kernel
set_option maxRecDepth 65536 in
theorem w_hears : about1.hears theMethod below0 = true := by decide +kernel
set_option maxRecDepth 65536 in
theorem w_ripe : about1.ripe theMethod args0 below0 = true := by decide +kernel
theorem w_running : about1.status = .running := rfl
set_option maxRecDepth 65536 in
theorem w_room : about1.hasRoom e0.platform room_1 = true :=
  launch0.hasRoom_least _ room_1 (by decide +kernel) (by decide +kernel) (by decide +kernel) (by decide +kernel) (by decide +kernel) (by decide +kernel)
theorem allAtoms_all (ts : List Jvm.Cond) (a : Array Jvm.Value) (st : Jvm.State) : (allAtoms ts).before a st = ts.all (fun c => c.before a st) := by
  induction ts with
  | nil => rfl
  | cons c t ih =>
    show (Jvm.Cond.and c (allAtoms t)).before a st = _
    rw [Jvm.Cond.before_and, ih, List.all_cons]
def words1 : List Jvm.Cond := Jvm.Cond.code x code maxLocals ret :: tables_1
/-- a 'code' word, met by the world's own term for the bytes: nothing is compared byte by byte -/
theorem code_word {y : MethodName} {bytes : ByteArray} {mx : Nat} {rt : Option FieldType} {a : Array Value} {s : State} {m : MethodId} {meth : Method} {c : Code} (h1 : s.methodNamed? y = some m) (h2 : s.vm.method? m = some meth) (h3 : meth.code = some c) (h4 : c.code = bytes)
    (h5 : (c.maxLocals == mx && c.exceptionTable.isEmpty && decide (c.maxStack ≤ mostOperands) && decide (meth.sig.returnType = rt) && !meth.locks && decide (parseMethodDescriptor y.desc = some meth.sig)) = true) : (Jvm.Cond.code y bytes mx rt).before a s = true := by
  simp only [Bool.and_eq_true, beq_iff_eq, Bool.not_eq_true', decide_eq_true_eq] at h5
  obtain ⟨⟨⟨⟨⟨g1, g2⟩, g3⟩, g4⟩, g5⟩, g6⟩ := h5
  simp [Cond.before, Cond.holds, Cond.value, h1, h2, h3, h4, g1, g2, g3, g4, g5, g6]
def isCode : Jvm.Cond → Bool
  | .code _ _ _ _ => true
  | _ => false
theorem all_split {L : List Jvm.Cond} {P : Jvm.Cond → Bool} (h1 : L.all (fun c => isCode c || P c) = true) (h2 : ∀ c ∈ L.filter isCode, P c = true) : L.all P = true := by
  refine List.all_eq_true.mpr fun c hc => ?_
  have h := List.all_eq_true.mp h1 c hc
  rcases Bool.eq_false_or_eq_true (isCode c) with hi | hi
  · exact h2 c (List.mem_filter.mpr ⟨hc, hi⟩)
  · simpa [hi] using h
set_option maxRecDepth 65536 in
theorem w_c0 : (Jvm.Cond.code x code maxLocals ret).before args0 about1 = true := code_word (m := ⟨1, 2⟩) (meth := k1m2) (c := k1c2) (by decide +kernel) rfl rfl rfl (by decide +kernel)
set_option maxRecDepth 65536 in
theorem w_c1 : (Jvm.Cond.code ({ cls := "com/example/ithuriel/ithuriel/model/OperatorIsLogicalPinLaw", name := "op", desc := "(I)Lcom/example/ithuriel/ithuriel/model/BinaryExpression$Operator;" } : Jvm.MethodName) method_2_code (1 : Nat) (Option.some (Jvm.ClassFile.FieldType.object "com/example/ithuriel/ithuriel/model/BinaryExpression$Operator"))).before args0 about1 = true := code_word (m := ⟨1, 1⟩) (meth := k1m1) (c := k1c1) (by decide +kernel) rfl rfl rfl (by decide +kernel)
set_option maxRecDepth 65536 in
theorem w_c2 : (Jvm.Cond.code ({ cls := "com/example/ithuriel/ithuriel/model/BinaryExpression$Operator", name := "isLogical", desc := "()Z" } : Jvm.MethodName) prog_75_method_6_code (1 : Nat) (Option.some Jvm.ClassFile.FieldType.boolean)).before args0 about1 = true := code_word (m := ⟨6, 0⟩) (meth := k6m0) (c := k6c0) (by decide +kernel) rfl rfl rfl (by decide +kernel)
def codes1 : List Jvm.Cond := [Jvm.Cond.code x code maxLocals ret, Jvm.Cond.code ({ cls := "com/example/ithuriel/ithuriel/model/OperatorIsLogicalPinLaw", name := "op", desc := "(I)Lcom/example/ithuriel/ithuriel/model/BinaryExpression$Operator;" } : Jvm.MethodName) method_2_code (1 : Nat) (Option.some (Jvm.ClassFile.FieldType.object "com/example/ithuriel/ithuriel/model/BinaryExpression$Operator")), Jvm.Cond.code ({ cls := "com/example/ithuriel/ithuriel/model/BinaryExpression$Operator", name := "isLogical", desc := "()Z" } : Jvm.MethodName) prog_75_method_6_code (1 : Nat) (Option.some Jvm.ClassFile.FieldType.boolean)]
set_option maxRecDepth 65536 in
theorem codes_eq : words1.filter isCode = codes1 := rfl
theorem w_codes : ∀ c ∈ words1.filter isCode, c.before args0 about1 = true := by
  rw [codes_eq]
  intro c hc
  simp only [codes1, List.mem_cons, List.not_mem_nil, or_false] at hc
  rcases hc with rfl | rfl | rfl
  · exact w_c0
  · exact w_c1
  · exact w_c2
set_option maxRecDepth 65536 in
theorem w_t1 : (words1.take 24).all (fun c => isCode c || c.before args0 about1) = true := by decide +kernel
set_option maxRecDepth 65536 in
theorem w_t2 : ((words1.drop 24).take 24).all (fun c => isCode c || c.before args0 about1) = true := by decide +kernel
set_option maxRecDepth 65536 in
theorem w_t3 : ((words1.drop 24).drop 24).all (fun c => isCode c || c.before args0 about1) = true := by decide +kernel
theorem w_tables : (allAtoms (Jvm.Cond.code x code maxLocals ret :: tables_1)).before args0 about1 = true := by
  rw [allAtoms_all]
  show words1.all (fun c => c.before args0 about1) = true
  refine all_split ?_ w_codes
  rw [← List.take_append_drop 24 words1, List.all_append, w_t1, ← List.take_append_drop 24 (words1.drop 24), List.all_append, w_t2, w_t3]
  rfl
set_option maxRecDepth 65536 in
theorem w_case : (Jvm.Cond.and given_1 narrow_1).before args0 about1 = true := by decide +kernel
theorem w_applies : (headSpec (Jvm.Cond.code x code maxLocals ret :: tables_1) room_1).applies x e0.platform about1 = true :=
  (Spec.applies_iff w_frames).mpr ⟨w_running, w_runnable, w_alone, w_named, w_hears, w_ripe, w_room, w_tables⟩
theorem atStart : AtStart classFile x code maxLocals ret World_1 tables_1 room_1 Calls_1 rest_1 Pre_1 launch0 p0 e0 about1 theMethod args0 below0 :=
  ⟨lists_1, trivial, launch0.admits_env _ _ _, launch0.least_env, fairChoices_fair.cas, fairChoices_fair.clock, w_frames, w_args, w_heap, w_applies, trivial, trivial, w_case⟩
end start1
theorem witness_1 : WitnessClaimed_1 := ⟨start1.p0, start1.e0, start1.about1, start1.theMethod, start1.args0, start1.below0, start1.atStart⟩
end Jvm.Pilot.@@N@@
