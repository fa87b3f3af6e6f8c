import JvmDerived
import JvmDerived.Pilot.@@N@@Statement
import JvmDerived.Pilot.@@N@@Code
set_option linter.unusedVariables false
set_option linter.unusedSimpArgs false
namespace Jvm.Pilot.@@N@@
open Jvm Jvm.ClassFile Sem Op Lib Jvm.Free Jvm.Stand Jvm.LawKit Jvm.RoadKit Bundle Jvm.Pilot.@@N@@.Jvm.D
theorem d1_0 : decode method_2_code 0 = .ok (.iload_n 0, 1) := by decide +kernel
theorem d1_1 : decode method_2_code 1 = .ok (.ifCond .ne 7, 3) := by decide +kernel
theorem d1_4 : decode method_2_code 4 = .ok (.getstatic 7, 3) := by decide +kernel
theorem d1_7 : decode method_2_code 7 = .ok (.areturn, 1) := by decide +kernel
theorem d1_8 : decode method_2_code 8 = .ok (.iload_n 0, 1) := by decide +kernel
theorem d1_9 : decode method_2_code 9 = .ok (.iconst 1, 1) := by decide +kernel
theorem d1_10 : decode method_2_code 10 = .ok (.if_icmp .ne 7, 3) := by decide +kernel
theorem d1_13 : decode method_2_code 13 = .ok (.getstatic 13, 3) := by decide +kernel
theorem d1_16 : decode method_2_code 16 = .ok (.areturn, 1) := by decide +kernel
theorem d1_17 : decode method_2_code 17 = .ok (.iload_n 0, 1) := by decide +kernel
theorem d1_18 : decode method_2_code 18 = .ok (.iconst 2, 1) := by decide +kernel
theorem d1_19 : decode method_2_code 19 = .ok (.if_icmp .ne 7, 3) := by decide +kernel
theorem d1_22 : decode method_2_code 22 = .ok (.getstatic 16, 3) := by decide +kernel
theorem d1_25 : decode method_2_code 25 = .ok (.areturn, 1) := by decide +kernel
theorem d1_26 : decode method_2_code 26 = .ok (.iload_n 0, 1) := by decide +kernel
theorem d1_27 : decode method_2_code 27 = .ok (.iconst 3, 1) := by decide +kernel
theorem d1_28 : decode method_2_code 28 = .ok (.if_icmp .ne 7, 3) := by decide +kernel
theorem d1_31 : decode method_2_code 31 = .ok (.getstatic 19, 3) := by decide +kernel
theorem d1_34 : decode method_2_code 34 = .ok (.areturn, 1) := by decide +kernel
theorem d1_35 : decode method_2_code 35 = .ok (.iload_n 0, 1) := by decide +kernel
theorem d1_36 : decode method_2_code 36 = .ok (.iconst 4, 1) := by decide +kernel
theorem d1_37 : decode method_2_code 37 = .ok (.if_icmp .ne 7, 3) := by decide +kernel
theorem d1_40 : decode method_2_code 40 = .ok (.getstatic 22, 3) := by decide +kernel
theorem d1_43 : decode method_2_code 43 = .ok (.areturn, 1) := by decide +kernel
theorem d1_44 : decode method_2_code 44 = .ok (.iload_n 0, 1) := by decide +kernel
theorem d1_45 : decode method_2_code 45 = .ok (.iconst 5, 1) := by decide +kernel
theorem d1_46 : decode method_2_code 46 = .ok (.if_icmp .ne 7, 3) := by decide +kernel
theorem d1_49 : decode method_2_code 49 = .ok (.getstatic 25, 3) := by decide +kernel
theorem d1_52 : decode method_2_code 52 = .ok (.areturn, 1) := by decide +kernel
theorem d1_53 : decode method_2_code 53 = .ok (.iload_n 0, 1) := by decide +kernel
theorem d1_54 : decode method_2_code 54 = .ok (.bipush 6, 2) := by decide +kernel
theorem d1_56 : decode method_2_code 56 = .ok (.if_icmp .ne 7, 3) := by decide +kernel
theorem d1_59 : decode method_2_code 59 = .ok (.getstatic 28, 3) := by decide +kernel
theorem d1_62 : decode method_2_code 62 = .ok (.areturn, 1) := by decide +kernel
theorem d1_63 : decode method_2_code 63 = .ok (.iload_n 0, 1) := by decide +kernel
theorem d1_64 : decode method_2_code 64 = .ok (.bipush 7, 2) := by decide +kernel
theorem d1_66 : decode method_2_code 66 = .ok (.if_icmp .ne 7, 3) := by decide +kernel
theorem d1_69 : decode method_2_code 69 = .ok (.getstatic 31, 3) := by decide +kernel
theorem d1_72 : decode method_2_code 72 = .ok (.areturn, 1) := by decide +kernel
theorem d1_73 : decode method_2_code 73 = .ok (.iload_n 0, 1) := by decide +kernel
theorem d1_74 : decode method_2_code 74 = .ok (.bipush 8, 2) := by decide +kernel
theorem d1_76 : decode method_2_code 76 = .ok (.if_icmp .ne 7, 3) := by decide +kernel
theorem d1_79 : decode method_2_code 79 = .ok (.getstatic 34, 3) := by decide +kernel
theorem d1_82 : decode method_2_code 82 = .ok (.areturn, 1) := by decide +kernel
theorem d1_83 : decode method_2_code 83 = .ok (.iload_n 0, 1) := by decide +kernel
theorem d1_84 : decode method_2_code 84 = .ok (.bipush 9, 2) := by decide +kernel
theorem d1_86 : decode method_2_code 86 = .ok (.if_icmp .ne 7, 3) := by decide +kernel
theorem d1_89 : decode method_2_code 89 = .ok (.getstatic 37, 3) := by decide +kernel
theorem d1_92 : decode method_2_code 92 = .ok (.areturn, 1) := by decide +kernel
theorem d1_93 : decode method_2_code 93 = .ok (.iload_n 0, 1) := by decide +kernel
theorem d1_94 : decode method_2_code 94 = .ok (.bipush 10, 2) := by decide +kernel
theorem d1_96 : decode method_2_code 96 = .ok (.if_icmp .ne 7, 3) := by decide +kernel
theorem d1_99 : decode method_2_code 99 = .ok (.getstatic 40, 3) := by decide +kernel
theorem d1_102 : decode method_2_code 102 = .ok (.areturn, 1) := by decide +kernel
theorem d1_103 : decode method_2_code 103 = .ok (.iload_n 0, 1) := by decide +kernel
theorem d1_104 : decode method_2_code 104 = .ok (.bipush 11, 2) := by decide +kernel
theorem d1_106 : decode method_2_code 106 = .ok (.if_icmp .ne 7, 3) := by decide +kernel
theorem d1_109 : decode method_2_code 109 = .ok (.getstatic 43, 3) := by decide +kernel
theorem d1_112 : decode method_2_code 112 = .ok (.areturn, 1) := by decide +kernel
theorem d1_113 : decode method_2_code 113 = .ok (.iload_n 0, 1) := by decide +kernel
theorem d1_114 : decode method_2_code 114 = .ok (.bipush 12, 2) := by decide +kernel
theorem d1_116 : decode method_2_code 116 = .ok (.if_icmp .ne 7, 3) := by decide +kernel
theorem d1_119 : decode method_2_code 119 = .ok (.getstatic 46, 3) := by decide +kernel
theorem d1_122 : decode method_2_code 122 = .ok (.areturn, 1) := by decide +kernel
theorem d1_123 : decode method_2_code 123 = .ok (.iload_n 0, 1) := by decide +kernel
theorem d1_124 : decode method_2_code 124 = .ok (.bipush 13, 2) := by decide +kernel
theorem d1_126 : decode method_2_code 126 = .ok (.if_icmp .ne 7, 3) := by decide +kernel
theorem d1_129 : decode method_2_code 129 = .ok (.getstatic 49, 3) := by decide +kernel
theorem d1_132 : decode method_2_code 132 = .ok (.areturn, 1) := by decide +kernel
theorem d1_133 : decode method_2_code 133 = .ok (.getstatic 52, 3) := by decide +kernel
theorem d1_136 : decode method_2_code 136 = .ok (.areturn, 1) := by decide +kernel
theorem own_sk0 {tb : Tables} [Ours tb] {e : Env} {below : List Frame} {T target : State} {m : MethodId} {c : Code} (h : At T m c below) (hx : tb.exec = Jvm.exec) (hby : c.code = method_2_code) {k : Int32} (hk : ¬ k = (0 : Int32)) (r : Steps tb e below (T.setTop (mkF m 8 #[.val (.int k)] [])) target) : Steps tb e below (T.setTop (mkF m 0 #[.val (.int k)] [])) target := by
  refine XS.iloadN h hx rfl (hb hby d1_0) rfl ?_
  show Steps tb e below (T.setTop (mkF m 1 #[.val (.int k)] [.int k])) _
  exact XS.ifYes h hx rfl (pc0 := 1) (pc' := 8) rfl (hb hby d1_1) rfl ((if0 _ _).trans (feq hk).2) (by decide) (by decide) r
theorem own_tk0 {tb : Tables} [Ours tb] {e : Env} {below : List Frame} {T target : State} {m : MethodId} {c : Code} (h : At T m c below) (hx : tb.exec = Jvm.exec) (hby : c.code = method_2_code) {k : Int32} (hk : k = (0 : Int32)) (r : Steps tb e below (T.setTop (mkF m 4 #[.val (.int k)] [])) target) : Steps tb e below (T.setTop (mkF m 0 #[.val (.int k)] [])) target := by
  refine XS.iloadN h hx rfl (hb hby d1_0) rfl ?_
  show Steps tb e below (T.setTop (mkF m 1 #[.val (.int k)] [.int k])) _
  exact XS.ifNo h hx rfl (hb hby d1_1) rfl ((if0 _ _).trans (teq hk).2) r
theorem own_sk1 {tb : Tables} [Ours tb] {e : Env} {below : List Frame} {T target : State} {m : MethodId} {c : Code} (h : At T m c below) (hx : tb.exec = Jvm.exec) (hby : c.code = method_2_code) {k : Int32} (hk : ¬ k = (1 : Int32)) (r : Steps tb e below (T.setTop (mkF m 17 #[.val (.int k)] [])) target) : Steps tb e below (T.setTop (mkF m 8 #[.val (.int k)] [])) target := by
  refine XS.iloadN h hx rfl (hb hby d1_8) rfl ?_
  show Steps tb e below (T.setTop (mkF m 9 #[.val (.int k)] [.int k])) _
  refine XS.iconst h hx rfl (hb hby d1_9) ?_
  show Steps tb e below (T.setTop (mkF m 10 #[.val (.int k)] [.int (1 : Int32), .int k])) _
  exact XS.icmpYes h hx rfl (pc0 := 10) (pc' := 17) rfl (hb hby d1_10) rfl (feq hk).2 (by decide) (by decide) r
theorem own_tk1 {tb : Tables} [Ours tb] {e : Env} {below : List Frame} {T target : State} {m : MethodId} {c : Code} (h : At T m c below) (hx : tb.exec = Jvm.exec) (hby : c.code = method_2_code) {k : Int32} (hk : k = (1 : Int32)) (r : Steps tb e below (T.setTop (mkF m 13 #[.val (.int k)] [])) target) : Steps tb e below (T.setTop (mkF m 8 #[.val (.int k)] [])) target := by
  refine XS.iloadN h hx rfl (hb hby d1_8) rfl ?_
  show Steps tb e below (T.setTop (mkF m 9 #[.val (.int k)] [.int k])) _
  refine XS.iconst h hx rfl (hb hby d1_9) ?_
  show Steps tb e below (T.setTop (mkF m 10 #[.val (.int k)] [.int (1 : Int32), .int k])) _
  exact XS.icmpNo h hx rfl (hb hby d1_10) rfl (teq hk).2 r
theorem own_sk2 {tb : Tables} [Ours tb] {e : Env} {below : List Frame} {T target : State} {m : MethodId} {c : Code} (h : At T m c below) (hx : tb.exec = Jvm.exec) (hby : c.code = method_2_code) {k : Int32} (hk : ¬ k = (2 : Int32)) (r : Steps tb e below (T.setTop (mkF m 26 #[.val (.int k)] [])) target) : Steps tb e below (T.setTop (mkF m 17 #[.val (.int k)] [])) target := by
  refine XS.iloadN h hx rfl (hb hby d1_17) rfl ?_
  show Steps tb e below (T.setTop (mkF m 18 #[.val (.int k)] [.int k])) _
  refine XS.iconst h hx rfl (hb hby d1_18) ?_
  show Steps tb e below (T.setTop (mkF m 19 #[.val (.int k)] [.int (2 : Int32), .int k])) _
  exact XS.icmpYes h hx rfl (pc0 := 19) (pc' := 26) rfl (hb hby d1_19) rfl (feq hk).2 (by decide) (by decide) r
theorem own_tk2 {tb : Tables} [Ours tb] {e : Env} {below : List Frame} {T target : State} {m : MethodId} {c : Code} (h : At T m c below) (hx : tb.exec = Jvm.exec) (hby : c.code = method_2_code) {k : Int32} (hk : k = (2 : Int32)) (r : Steps tb e below (T.setTop (mkF m 22 #[.val (.int k)] [])) target) : Steps tb e below (T.setTop (mkF m 17 #[.val (.int k)] [])) target := by
  refine XS.iloadN h hx rfl (hb hby d1_17) rfl ?_
  show Steps tb e below (T.setTop (mkF m 18 #[.val (.int k)] [.int k])) _
  refine XS.iconst h hx rfl (hb hby d1_18) ?_
  show Steps tb e below (T.setTop (mkF m 19 #[.val (.int k)] [.int (2 : Int32), .int k])) _
  exact XS.icmpNo h hx rfl (hb hby d1_19) rfl (teq hk).2 r
theorem own_sk3 {tb : Tables} [Ours tb] {e : Env} {below : List Frame} {T target : State} {m : MethodId} {c : Code} (h : At T m c below) (hx : tb.exec = Jvm.exec) (hby : c.code = method_2_code) {k : Int32} (hk : ¬ k = (3 : Int32)) (r : Steps tb e below (T.setTop (mkF m 35 #[.val (.int k)] [])) target) : Steps tb e below (T.setTop (mkF m 26 #[.val (.int k)] [])) target := by
  refine XS.iloadN h hx rfl (hb hby d1_26) rfl ?_
  show Steps tb e below (T.setTop (mkF m 27 #[.val (.int k)] [.int k])) _
  refine XS.iconst h hx rfl (hb hby d1_27) ?_
  show Steps tb e below (T.setTop (mkF m 28 #[.val (.int k)] [.int (3 : Int32), .int k])) _
  exact XS.icmpYes h hx rfl (pc0 := 28) (pc' := 35) rfl (hb hby d1_28) rfl (feq hk).2 (by decide) (by decide) r
theorem own_tk3 {tb : Tables} [Ours tb] {e : Env} {below : List Frame} {T target : State} {m : MethodId} {c : Code} (h : At T m c below) (hx : tb.exec = Jvm.exec) (hby : c.code = method_2_code) {k : Int32} (hk : k = (3 : Int32)) (r : Steps tb e below (T.setTop (mkF m 31 #[.val (.int k)] [])) target) : Steps tb e below (T.setTop (mkF m 26 #[.val (.int k)] [])) target := by
  refine XS.iloadN h hx rfl (hb hby d1_26) rfl ?_
  show Steps tb e below (T.setTop (mkF m 27 #[.val (.int k)] [.int k])) _
  refine XS.iconst h hx rfl (hb hby d1_27) ?_
  show Steps tb e below (T.setTop (mkF m 28 #[.val (.int k)] [.int (3 : Int32), .int k])) _
  exact XS.icmpNo h hx rfl (hb hby d1_28) rfl (teq hk).2 r
theorem own_sk4 {tb : Tables} [Ours tb] {e : Env} {below : List Frame} {T target : State} {m : MethodId} {c : Code} (h : At T m c below) (hx : tb.exec = Jvm.exec) (hby : c.code = method_2_code) {k : Int32} (hk : ¬ k = (4 : Int32)) (r : Steps tb e below (T.setTop (mkF m 44 #[.val (.int k)] [])) target) : Steps tb e below (T.setTop (mkF m 35 #[.val (.int k)] [])) target := by
  refine XS.iloadN h hx rfl (hb hby d1_35) rfl ?_
  show Steps tb e below (T.setTop (mkF m 36 #[.val (.int k)] [.int k])) _
  refine XS.iconst h hx rfl (hb hby d1_36) ?_
  show Steps tb e below (T.setTop (mkF m 37 #[.val (.int k)] [.int (4 : Int32), .int k])) _
  exact XS.icmpYes h hx rfl (pc0 := 37) (pc' := 44) rfl (hb hby d1_37) rfl (feq hk).2 (by decide) (by decide) r
theorem own_tk4 {tb : Tables} [Ours tb] {e : Env} {below : List Frame} {T target : State} {m : MethodId} {c : Code} (h : At T m c below) (hx : tb.exec = Jvm.exec) (hby : c.code = method_2_code) {k : Int32} (hk : k = (4 : Int32)) (r : Steps tb e below (T.setTop (mkF m 40 #[.val (.int k)] [])) target) : Steps tb e below (T.setTop (mkF m 35 #[.val (.int k)] [])) target := by
  refine XS.iloadN h hx rfl (hb hby d1_35) rfl ?_
  show Steps tb e below (T.setTop (mkF m 36 #[.val (.int k)] [.int k])) _
  refine XS.iconst h hx rfl (hb hby d1_36) ?_
  show Steps tb e below (T.setTop (mkF m 37 #[.val (.int k)] [.int (4 : Int32), .int k])) _
  exact XS.icmpNo h hx rfl (hb hby d1_37) rfl (teq hk).2 r
theorem own_sk5 {tb : Tables} [Ours tb] {e : Env} {below : List Frame} {T target : State} {m : MethodId} {c : Code} (h : At T m c below) (hx : tb.exec = Jvm.exec) (hby : c.code = method_2_code) {k : Int32} (hk : ¬ k = (5 : Int32)) (r : Steps tb e below (T.setTop (mkF m 53 #[.val (.int k)] [])) target) : Steps tb e below (T.setTop (mkF m 44 #[.val (.int k)] [])) target := by
  refine XS.iloadN h hx rfl (hb hby d1_44) rfl ?_
  show Steps tb e below (T.setTop (mkF m 45 #[.val (.int k)] [.int k])) _
  refine XS.iconst h hx rfl (hb hby d1_45) ?_
  show Steps tb e below (T.setTop (mkF m 46 #[.val (.int k)] [.int (5 : Int32), .int k])) _
  exact XS.icmpYes h hx rfl (pc0 := 46) (pc' := 53) rfl (hb hby d1_46) rfl (feq hk).2 (by decide) (by decide) r
theorem own_tk5 {tb : Tables} [Ours tb] {e : Env} {below : List Frame} {T target : State} {m : MethodId} {c : Code} (h : At T m c below) (hx : tb.exec = Jvm.exec) (hby : c.code = method_2_code) {k : Int32} (hk : k = (5 : Int32)) (r : Steps tb e below (T.setTop (mkF m 49 #[.val (.int k)] [])) target) : Steps tb e below (T.setTop (mkF m 44 #[.val (.int k)] [])) target := by
  refine XS.iloadN h hx rfl (hb hby d1_44) rfl ?_
  show Steps tb e below (T.setTop (mkF m 45 #[.val (.int k)] [.int k])) _
  refine XS.iconst h hx rfl (hb hby d1_45) ?_
  show Steps tb e below (T.setTop (mkF m 46 #[.val (.int k)] [.int (5 : Int32), .int k])) _
  exact XS.icmpNo h hx rfl (hb hby d1_46) rfl (teq hk).2 r
theorem own_sk6 {tb : Tables} [Ours tb] {e : Env} {below : List Frame} {T target : State} {m : MethodId} {c : Code} (h : At T m c below) (hx : tb.exec = Jvm.exec) (hby : c.code = method_2_code) {k : Int32} (hk : ¬ k = (6 : Int32)) (r : Steps tb e below (T.setTop (mkF m 63 #[.val (.int k)] [])) target) : Steps tb e below (T.setTop (mkF m 53 #[.val (.int k)] [])) target := by
  refine XS.iloadN h hx rfl (hb hby d1_53) rfl ?_
  show Steps tb e below (T.setTop (mkF m 54 #[.val (.int k)] [.int k])) _
  refine XS.bipush h hx rfl (hb hby d1_54) ?_
  show Steps tb e below (T.setTop (mkF m 56 #[.val (.int k)] [.int (6 : Int32), .int k])) _
  exact XS.icmpYes h hx rfl (pc0 := 56) (pc' := 63) rfl (hb hby d1_56) rfl (feq hk).2 (by decide) (by decide) r
theorem own_tk6 {tb : Tables} [Ours tb] {e : Env} {below : List Frame} {T target : State} {m : MethodId} {c : Code} (h : At T m c below) (hx : tb.exec = Jvm.exec) (hby : c.code = method_2_code) {k : Int32} (hk : k = (6 : Int32)) (r : Steps tb e below (T.setTop (mkF m 59 #[.val (.int k)] [])) target) : Steps tb e below (T.setTop (mkF m 53 #[.val (.int k)] [])) target := by
  refine XS.iloadN h hx rfl (hb hby d1_53) rfl ?_
  show Steps tb e below (T.setTop (mkF m 54 #[.val (.int k)] [.int k])) _
  refine XS.bipush h hx rfl (hb hby d1_54) ?_
  show Steps tb e below (T.setTop (mkF m 56 #[.val (.int k)] [.int (6 : Int32), .int k])) _
  exact XS.icmpNo h hx rfl (hb hby d1_56) rfl (teq hk).2 r
theorem own_sk7 {tb : Tables} [Ours tb] {e : Env} {below : List Frame} {T target : State} {m : MethodId} {c : Code} (h : At T m c below) (hx : tb.exec = Jvm.exec) (hby : c.code = method_2_code) {k : Int32} (hk : ¬ k = (7 : Int32)) (r : Steps tb e below (T.setTop (mkF m 73 #[.val (.int k)] [])) target) : Steps tb e below (T.setTop (mkF m 63 #[.val (.int k)] [])) target := by
  refine XS.iloadN h hx rfl (hb hby d1_63) rfl ?_
  show Steps tb e below (T.setTop (mkF m 64 #[.val (.int k)] [.int k])) _
  refine XS.bipush h hx rfl (hb hby d1_64) ?_
  show Steps tb e below (T.setTop (mkF m 66 #[.val (.int k)] [.int (7 : Int32), .int k])) _
  exact XS.icmpYes h hx rfl (pc0 := 66) (pc' := 73) rfl (hb hby d1_66) rfl (feq hk).2 (by decide) (by decide) r
theorem own_tk7 {tb : Tables} [Ours tb] {e : Env} {below : List Frame} {T target : State} {m : MethodId} {c : Code} (h : At T m c below) (hx : tb.exec = Jvm.exec) (hby : c.code = method_2_code) {k : Int32} (hk : k = (7 : Int32)) (r : Steps tb e below (T.setTop (mkF m 69 #[.val (.int k)] [])) target) : Steps tb e below (T.setTop (mkF m 63 #[.val (.int k)] [])) target := by
  refine XS.iloadN h hx rfl (hb hby d1_63) rfl ?_
  show Steps tb e below (T.setTop (mkF m 64 #[.val (.int k)] [.int k])) _
  refine XS.bipush h hx rfl (hb hby d1_64) ?_
  show Steps tb e below (T.setTop (mkF m 66 #[.val (.int k)] [.int (7 : Int32), .int k])) _
  exact XS.icmpNo h hx rfl (hb hby d1_66) rfl (teq hk).2 r
theorem own_sk8 {tb : Tables} [Ours tb] {e : Env} {below : List Frame} {T target : State} {m : MethodId} {c : Code} (h : At T m c below) (hx : tb.exec = Jvm.exec) (hby : c.code = method_2_code) {k : Int32} (hk : ¬ k = (8 : Int32)) (r : Steps tb e below (T.setTop (mkF m 83 #[.val (.int k)] [])) target) : Steps tb e below (T.setTop (mkF m 73 #[.val (.int k)] [])) target := by
  refine XS.iloadN h hx rfl (hb hby d1_73) rfl ?_
  show Steps tb e below (T.setTop (mkF m 74 #[.val (.int k)] [.int k])) _
  refine XS.bipush h hx rfl (hb hby d1_74) ?_
  show Steps tb e below (T.setTop (mkF m 76 #[.val (.int k)] [.int (8 : Int32), .int k])) _
  exact XS.icmpYes h hx rfl (pc0 := 76) (pc' := 83) rfl (hb hby d1_76) rfl (feq hk).2 (by decide) (by decide) r
theorem own_tk8 {tb : Tables} [Ours tb] {e : Env} {below : List Frame} {T target : State} {m : MethodId} {c : Code} (h : At T m c below) (hx : tb.exec = Jvm.exec) (hby : c.code = method_2_code) {k : Int32} (hk : k = (8 : Int32)) (r : Steps tb e below (T.setTop (mkF m 79 #[.val (.int k)] [])) target) : Steps tb e below (T.setTop (mkF m 73 #[.val (.int k)] [])) target := by
  refine XS.iloadN h hx rfl (hb hby d1_73) rfl ?_
  show Steps tb e below (T.setTop (mkF m 74 #[.val (.int k)] [.int k])) _
  refine XS.bipush h hx rfl (hb hby d1_74) ?_
  show Steps tb e below (T.setTop (mkF m 76 #[.val (.int k)] [.int (8 : Int32), .int k])) _
  exact XS.icmpNo h hx rfl (hb hby d1_76) rfl (teq hk).2 r
theorem own_sk9 {tb : Tables} [Ours tb] {e : Env} {below : List Frame} {T target : State} {m : MethodId} {c : Code} (h : At T m c below) (hx : tb.exec = Jvm.exec) (hby : c.code = method_2_code) {k : Int32} (hk : ¬ k = (9 : Int32)) (r : Steps tb e below (T.setTop (mkF m 93 #[.val (.int k)] [])) target) : Steps tb e below (T.setTop (mkF m 83 #[.val (.int k)] [])) target := by
  refine XS.iloadN h hx rfl (hb hby d1_83) rfl ?_
  show Steps tb e below (T.setTop (mkF m 84 #[.val (.int k)] [.int k])) _
  refine XS.bipush h hx rfl (hb hby d1_84) ?_
  show Steps tb e below (T.setTop (mkF m 86 #[.val (.int k)] [.int (9 : Int32), .int k])) _
  exact XS.icmpYes h hx rfl (pc0 := 86) (pc' := 93) rfl (hb hby d1_86) rfl (feq hk).2 (by decide) (by decide) r
theorem own_tk9 {tb : Tables} [Ours tb] {e : Env} {below : List Frame} {T target : State} {m : MethodId} {c : Code} (h : At T m c below) (hx : tb.exec = Jvm.exec) (hby : c.code = method_2_code) {k : Int32} (hk : k = (9 : Int32)) (r : Steps tb e below (T.setTop (mkF m 89 #[.val (.int k)] [])) target) : Steps tb e below (T.setTop (mkF m 83 #[.val (.int k)] [])) target := by
  refine XS.iloadN h hx rfl (hb hby d1_83) rfl ?_
  show Steps tb e below (T.setTop (mkF m 84 #[.val (.int k)] [.int k])) _
  refine XS.bipush h hx rfl (hb hby d1_84) ?_
  show Steps tb e below (T.setTop (mkF m 86 #[.val (.int k)] [.int (9 : Int32), .int k])) _
  exact XS.icmpNo h hx rfl (hb hby d1_86) rfl (teq hk).2 r
theorem own_sk10 {tb : Tables} [Ours tb] {e : Env} {below : List Frame} {T target : State} {m : MethodId} {c : Code} (h : At T m c below) (hx : tb.exec = Jvm.exec) (hby : c.code = method_2_code) {k : Int32} (hk : ¬ k = (10 : Int32)) (r : Steps tb e below (T.setTop (mkF m 103 #[.val (.int k)] [])) target) : Steps tb e below (T.setTop (mkF m 93 #[.val (.int k)] [])) target := by
  refine XS.iloadN h hx rfl (hb hby d1_93) rfl ?_
  show Steps tb e below (T.setTop (mkF m 94 #[.val (.int k)] [.int k])) _
  refine XS.bipush h hx rfl (hb hby d1_94) ?_
  show Steps tb e below (T.setTop (mkF m 96 #[.val (.int k)] [.int (10 : Int32), .int k])) _
  exact XS.icmpYes h hx rfl (pc0 := 96) (pc' := 103) rfl (hb hby d1_96) rfl (feq hk).2 (by decide) (by decide) r
theorem own_tk10 {tb : Tables} [Ours tb] {e : Env} {below : List Frame} {T target : State} {m : MethodId} {c : Code} (h : At T m c below) (hx : tb.exec = Jvm.exec) (hby : c.code = method_2_code) {k : Int32} (hk : k = (10 : Int32)) (r : Steps tb e below (T.setTop (mkF m 99 #[.val (.int k)] [])) target) : Steps tb e below (T.setTop (mkF m 93 #[.val (.int k)] [])) target := by
  refine XS.iloadN h hx rfl (hb hby d1_93) rfl ?_
  show Steps tb e below (T.setTop (mkF m 94 #[.val (.int k)] [.int k])) _
  refine XS.bipush h hx rfl (hb hby d1_94) ?_
  show Steps tb e below (T.setTop (mkF m 96 #[.val (.int k)] [.int (10 : Int32), .int k])) _
  exact XS.icmpNo h hx rfl (hb hby d1_96) rfl (teq hk).2 r
theorem own_sk11 {tb : Tables} [Ours tb] {e : Env} {below : List Frame} {T target : State} {m : MethodId} {c : Code} (h : At T m c below) (hx : tb.exec = Jvm.exec) (hby : c.code = method_2_code) {k : Int32} (hk : ¬ k = (11 : Int32)) (r : Steps tb e below (T.setTop (mkF m 113 #[.val (.int k)] [])) target) : Steps tb e below (T.setTop (mkF m 103 #[.val (.int k)] [])) target := by
  refine XS.iloadN h hx rfl (hb hby d1_103) rfl ?_
  show Steps tb e below (T.setTop (mkF m 104 #[.val (.int k)] [.int k])) _
  refine XS.bipush h hx rfl (hb hby d1_104) ?_
  show Steps tb e below (T.setTop (mkF m 106 #[.val (.int k)] [.int (11 : Int32), .int k])) _
  exact XS.icmpYes h hx rfl (pc0 := 106) (pc' := 113) rfl (hb hby d1_106) rfl (feq hk).2 (by decide) (by decide) r
theorem own_tk11 {tb : Tables} [Ours tb] {e : Env} {below : List Frame} {T target : State} {m : MethodId} {c : Code} (h : At T m c below) (hx : tb.exec = Jvm.exec) (hby : c.code = method_2_code) {k : Int32} (hk : k = (11 : Int32)) (r : Steps tb e below (T.setTop (mkF m 109 #[.val (.int k)] [])) target) : Steps tb e below (T.setTop (mkF m 103 #[.val (.int k)] [])) target := by
  refine XS.iloadN h hx rfl (hb hby d1_103) rfl ?_
  show Steps tb e below (T.setTop (mkF m 104 #[.val (.int k)] [.int k])) _
  refine XS.bipush h hx rfl (hb hby d1_104) ?_
  show Steps tb e below (T.setTop (mkF m 106 #[.val (.int k)] [.int (11 : Int32), .int k])) _
  exact XS.icmpNo h hx rfl (hb hby d1_106) rfl (teq hk).2 r
theorem own_sk12 {tb : Tables} [Ours tb] {e : Env} {below : List Frame} {T target : State} {m : MethodId} {c : Code} (h : At T m c below) (hx : tb.exec = Jvm.exec) (hby : c.code = method_2_code) {k : Int32} (hk : ¬ k = (12 : Int32)) (r : Steps tb e below (T.setTop (mkF m 123 #[.val (.int k)] [])) target) : Steps tb e below (T.setTop (mkF m 113 #[.val (.int k)] [])) target := by
  refine XS.iloadN h hx rfl (hb hby d1_113) rfl ?_
  show Steps tb e below (T.setTop (mkF m 114 #[.val (.int k)] [.int k])) _
  refine XS.bipush h hx rfl (hb hby d1_114) ?_
  show Steps tb e below (T.setTop (mkF m 116 #[.val (.int k)] [.int (12 : Int32), .int k])) _
  exact XS.icmpYes h hx rfl (pc0 := 116) (pc' := 123) rfl (hb hby d1_116) rfl (feq hk).2 (by decide) (by decide) r
theorem own_tk12 {tb : Tables} [Ours tb] {e : Env} {below : List Frame} {T target : State} {m : MethodId} {c : Code} (h : At T m c below) (hx : tb.exec = Jvm.exec) (hby : c.code = method_2_code) {k : Int32} (hk : k = (12 : Int32)) (r : Steps tb e below (T.setTop (mkF m 119 #[.val (.int k)] [])) target) : Steps tb e below (T.setTop (mkF m 113 #[.val (.int k)] [])) target := by
  refine XS.iloadN h hx rfl (hb hby d1_113) rfl ?_
  show Steps tb e below (T.setTop (mkF m 114 #[.val (.int k)] [.int k])) _
  refine XS.bipush h hx rfl (hb hby d1_114) ?_
  show Steps tb e below (T.setTop (mkF m 116 #[.val (.int k)] [.int (12 : Int32), .int k])) _
  exact XS.icmpNo h hx rfl (hb hby d1_116) rfl (teq hk).2 r
theorem own_sk13 {tb : Tables} [Ours tb] {e : Env} {below : List Frame} {T target : State} {m : MethodId} {c : Code} (h : At T m c below) (hx : tb.exec = Jvm.exec) (hby : c.code = method_2_code) {k : Int32} (hk : ¬ k = (13 : Int32)) (r : Steps tb e below (T.setTop (mkF m 133 #[.val (.int k)] [])) target) : Steps tb e below (T.setTop (mkF m 123 #[.val (.int k)] [])) target := by
  refine XS.iloadN h hx rfl (hb hby d1_123) rfl ?_
  show Steps tb e below (T.setTop (mkF m 124 #[.val (.int k)] [.int k])) _
  refine XS.bipush h hx rfl (hb hby d1_124) ?_
  show Steps tb e below (T.setTop (mkF m 126 #[.val (.int k)] [.int (13 : Int32), .int k])) _
  exact XS.icmpYes h hx rfl (pc0 := 126) (pc' := 133) rfl (hb hby d1_126) rfl (feq hk).2 (by decide) (by decide) r
theorem own_tk13 {tb : Tables} [Ours tb] {e : Env} {below : List Frame} {T target : State} {m : MethodId} {c : Code} (h : At T m c below) (hx : tb.exec = Jvm.exec) (hby : c.code = method_2_code) {k : Int32} (hk : k = (13 : Int32)) (r : Steps tb e below (T.setTop (mkF m 129 #[.val (.int k)] [])) target) : Steps tb e below (T.setTop (mkF m 123 #[.val (.int k)] [])) target := by
  refine XS.iloadN h hx rfl (hb hby d1_123) rfl ?_
  show Steps tb e below (T.setTop (mkF m 124 #[.val (.int k)] [.int k])) _
  refine XS.bipush h hx rfl (hb hby d1_124) ?_
  show Steps tb e below (T.setTop (mkF m 126 #[.val (.int k)] [.int (13 : Int32), .int k])) _
  exact XS.icmpNo h hx rfl (hb hby d1_126) rfl (teq hk).2 r
theorem pn_L : plainName "com/example/dim2/dim2/catalog/DataTypeIsWholeNumberPinLaw" = true := by first | (simp [plainName, overriddenIn]; done) | decide +kernel
theorem ef_P (m : MethodId) (x0 : Int32) : entryFrame m #[(.int x0)] 1 = mkF m 0 #[.val (.int x0)] [] := by first | (simp [entryFrame, mkF, argsToLocals, Value.category]; done) | rfl
def Q_own_pk (Z : State) (k : Int32) (w : Addr) (h0 : Heap) (n0 : Nat) (v : Option Value) (hp : Heap) (L : List Loc) : Prop := v = some (.ref w) ∧ Fr n0 L ∧ hp = h0
set_option maxRecDepth 65536 in
set_option maxHeartbeats 40000000 in
theorem own_pk (l : Launch) (Z : State) (a0 : Array Value) (hw : ∀ d ∈ tables_1, d.before a0 Z = true) (ws : List Jvm.Cond) (k : Int32) (w : Addr) (h0 : Heap) (n0 : Nat) (Z0 : n0 ≤ h0.size) (pcG idx : Nat) (nm : String) (S : Sta Z h0 "com/example/dim2/dim2/catalog/DataType" nm "Lcom/example/dim2/dim2/catalog/DataType;" (.ref w)) (lk : (Jvm.Cond.fieldLink "com/example/dim2/dim2/catalog/DataTypeIsWholeNumberPinLaw" idx "com/example/dim2/dim2/catalog/DataType" nm "Lcom/example/dim2/dim2/catalog/DataType;").before a0 Z = true) (dG : decode method_2_code pcG = .ok (.getstatic idx, 3)) (dR : decode method_2_code (pcG + 3) = .ok (.areturn, 1)) (reach : ∀ {tb : Tables} [Ours tb] {e : Env} {below : List Frame} {T target : State} {m : MethodId} {c : Code}, At T m c below → tb.exec = Jvm.exec → c.code = method_2_code → Steps tb e below (T.setTop (mkF m pcG #[.val (.int k)] [])) target → Steps tb e below (T.setTop (mkF m 0 #[.val (.int k)] [])) target) :
    MetFree l (⟨"com/example/dim2/dim2/catalog/DataTypeIsWholeNumberPinLaw", "pick", "(I)Lcom/example/dim2/dim2/catalog/DataType;"⟩ : MethodName) (head1 (Jvm.Cond.code (⟨"com/example/dim2/dim2/catalog/DataTypeIsWholeNumberPinLaw", "pick", "(I)Lcom/example/dim2/dim2/catalog/DataType;"⟩ : MethodName) method_2_code 1 (some (.object "com/example/dim2/dim2/catalog/DataType")) :: ws) ({ frames := 0, cells := 0, slots := 0, locals := 0 } : Room)) (fun aa U => aa = #[.int k] ∧ Z.Warmed39 U.vm ∧ U.heap = h0) (fun _ _ _ _ _ => True) (fun _ U o U' => ∃ v L, o = .returned v ∧ (Q_own_pk Z k w h0 n0 v U'.heap L) ∧ FrameEnd U o U' L ({ frames := 0, cells := 0, slots := 0, locals := 0 } : Room).cells ({ frames := 0, cells := 0, slots := 0, locals := 0 } : Room).slots) := by
  refine MetFree.of_bodySF (plainFor_of_name pn_L) hisR ?_
  intro p e s m args below meth c s₁ Bd hml0 hP hK
  obtain ⟨rfl, hZ, hh⟩ := hP
  have hx := Bd.exec
  have hby := Bd.bytes
  have hml : c.maxLocals = 1 := hml0
  have hown : s.vm.findClass "com/example/dim2/dim2/catalog/DataTypeIsWholeNumberPinLaw" = some m.cls := findClass_of_methodNamed Bd.named
  have hnm := (name_of_methodNamed Bd.named Bd.method).1
  have X0 : Stand p l e ({ frames := 0, cells := 0, slots := 0, locals := 0 } : Room) s m #[.int k] below meth c s₁ [] 0 0 := Stand.of_body Bd
  have e0 : s₁.heap = h0 := by rw [← hh, Bd.state]; rfl
  have N0 := Fr.nil n0
  have pre0 : ∀ t, Steps p.tables e below (s₁.setTop (mkF m 0 #[.val (.int k)] [])) t → Steps p.tables e below (s₁.setTop (entryFrame m #[.int k] 1)) t := fun t kk => castTop (ef_P m k) kk
  obtain ⟨T3, X3, e3, st3⟩ := getS2 X0 hx hZ hown (host := "") (Or.inl lk) Via.refl e0 S (g := (mkF m pcG #[.val (.int k)] [])) rfl (hb hby dG)
  obtain ⟨fs, hr, hrun, hended, hW, hsame⟩ := X3.leave (v := some (.ref w)) (fun h => by rw [Bd.returns] at h; cases h)
  refine ⟨_, _, pre0 _ ?_, hrun, hended, _, _, rfl, ?_, ⟨_, rfl⟩, hW, hsame.mono (by decide) (by decide)⟩
  · refine reach X0.here hx hby ?_
    refine st3 _ ?_
    show Steps p.tables e below (T3.setTop (mkF m (pcG + 3) #[.val (.int k)] [(.ref w)])) _
    jvm_step X3.here [X3.here.top, hx, (hb hby dR), X3.method', Bd.returns, Value.isRef, FieldType.isReference]
    first | (intro acts; rw [hr _ acts rfl rfl rfl]) | rw [hr _ _ rfl rfl rfl]
    exact Steps.refl _
  · exact ⟨rfl, N0, e3⟩
def own_Pick (Z : State) (h : Heap) (k : Int32) (w : Addr) : Prop := (k = (0 : Int32) ∧ Sta Z h "com/example/dim2/dim2/catalog/DataType" "SMALLINT" "Lcom/example/dim2/dim2/catalog/DataType;" (.ref w)) ∨ (k = (1 : Int32) ∧ Sta Z h "com/example/dim2/dim2/catalog/DataType" "INTEGER" "Lcom/example/dim2/dim2/catalog/DataType;" (.ref w)) ∨ (k = (2 : Int32) ∧ Sta Z h "com/example/dim2/dim2/catalog/DataType" "BIGINT" "Lcom/example/dim2/dim2/catalog/DataType;" (.ref w)) ∨ (k = (3 : Int32) ∧ Sta Z h "com/example/dim2/dim2/catalog/DataType" "NUMERIC" "Lcom/example/dim2/dim2/catalog/DataType;" (.ref w)) ∨ (k = (4 : Int32) ∧ Sta Z h "com/example/dim2/dim2/catalog/DataType" "REAL" "Lcom/example/dim2/dim2/catalog/DataType;" (.ref w)) ∨ (k = (5 : Int32) ∧ Sta Z h "com/example/dim2/dim2/catalog/DataType" "DOUBLE_PRECISION" "Lcom/example/dim2/dim2/catalog/DataType;" (.ref w)) ∨ (k = (6 : Int32) ∧ Sta Z h "com/example/dim2/dim2/catalog/DataType" "TEXT" "Lcom/example/dim2/dim2/catalog/DataType;" (.ref w)) ∨ (k = (7 : Int32) ∧ Sta Z h "com/example/dim2/dim2/catalog/DataType" "CHARACTER_VARYING" "Lcom/example/dim2/dim2/catalog/DataType;" (.ref w)) ∨ (k = (8 : Int32) ∧ Sta Z h "com/example/dim2/dim2/catalog/DataType" "CHARACTER" "Lcom/example/dim2/dim2/catalog/DataType;" (.ref w)) ∨ (k = (9 : Int32) ∧ Sta Z h "com/example/dim2/dim2/catalog/DataType" "BOOLEAN" "Lcom/example/dim2/dim2/catalog/DataType;" (.ref w)) ∨ (k = (10 : Int32) ∧ Sta Z h "com/example/dim2/dim2/catalog/DataType" "DATE" "Lcom/example/dim2/dim2/catalog/DataType;" (.ref w)) ∨ (k = (11 : Int32) ∧ Sta Z h "com/example/dim2/dim2/catalog/DataType" "TIME" "Lcom/example/dim2/dim2/catalog/DataType;" (.ref w)) ∨ (k = (12 : Int32) ∧ Sta Z h "com/example/dim2/dim2/catalog/DataType" "TIMESTAMP" "Lcom/example/dim2/dim2/catalog/DataType;" (.ref w)) ∨ (k = (13 : Int32) ∧ Sta Z h "com/example/dim2/dim2/catalog/DataType" "TIMESTAMPTZ" "Lcom/example/dim2/dim2/catalog/DataType;" (.ref w)) ∨ (k = (14 : Int32) ∧ Sta Z h "com/example/dim2/dim2/catalog/DataType" "UNKNOWN" "Lcom/example/dim2/dim2/catalog/DataType;" (.ref w))
def Q_rm1 (Z : State) (k : Int32) (w : Addr) (h0 : Heap) (n0 : Nat) (v : Option Value) (hp : Heap) (L : List Loc) : Prop := v = some (.ref w) ∧ Fr n0 L ∧ hp = h0
set_option maxRecDepth 65536 in
set_option maxHeartbeats 40000000 in
theorem rm1 (l : Launch) (Z : State) (a0 : Array Value) (hw : ∀ d ∈ tables_1, d.before a0 Z = true) (ws : List Jvm.Cond) (k : Int32) (w : Addr) (h0 : Heap) (n0 : Nat) (Z0 : n0 ≤ h0.size) (PK : own_Pick Z h0 k w) :
    MetFree l (⟨"com/example/dim2/dim2/catalog/DataTypeIsWholeNumberPinLaw", "pick", "(I)Lcom/example/dim2/dim2/catalog/DataType;"⟩ : MethodName) (head1 (Jvm.Cond.code (⟨"com/example/dim2/dim2/catalog/DataTypeIsWholeNumberPinLaw", "pick", "(I)Lcom/example/dim2/dim2/catalog/DataType;"⟩ : MethodName) method_2_code 1 (some (.object "com/example/dim2/dim2/catalog/DataType")) :: ws) ({ frames := 0, cells := 0, slots := 0, locals := 0 } : Room)) (fun aa U => aa = #[.int k] ∧ Z.Warmed39 U.vm ∧ U.heap = h0) (fun _ _ _ _ _ => True) (fun _ U o U' => ∃ v L, o = .returned v ∧ (Q_rm1 Z k w h0 n0 v U'.heap L) ∧ FrameEnd U o U' L ({ frames := 0, cells := 0, slots := 0, locals := 0 } : Room).cells ({ frames := 0, cells := 0, slots := 0, locals := 0 } : Room).slots) := by
  rcases PK with ⟨rfl, S⟩ | ⟨rfl, S⟩ | ⟨rfl, S⟩ | ⟨rfl, S⟩ | ⟨rfl, S⟩ | ⟨rfl, S⟩ | ⟨rfl, S⟩ | ⟨rfl, S⟩ | ⟨rfl, S⟩ | ⟨rfl, S⟩ | ⟨rfl, S⟩ | ⟨rfl, S⟩ | ⟨rfl, S⟩ | ⟨rfl, S⟩ | ⟨rfl, S⟩
  · exact own_pk l Z a0 hw ws 0 w h0 n0 Z0 4 7 "SMALLINT" S (hw _ (List.mem_of_getElem? (i := 5) rfl)) d1_4 d1_7 (fun h hx hby r => (own_tk0 h hx hby rfl r))
  · exact own_pk l Z a0 hw ws 1 w h0 n0 Z0 13 13 "INTEGER" S (hw _ (List.mem_of_getElem? (i := 59) rfl)) d1_13 d1_16 (fun h hx hby r => (own_sk0 h hx hby (by decide) (own_tk1 h hx hby rfl r)))
  · exact own_pk l Z a0 hw ws 2 w h0 n0 Z0 22 16 "BIGINT" S (hw _ (List.mem_of_getElem? (i := 46) rfl)) d1_22 d1_25 (fun h hx hby r => (own_sk0 h hx hby (by decide) (own_sk1 h hx hby (by decide) (own_tk2 h hx hby rfl r))))
  · exact own_pk l Z a0 hw ws 3 w h0 n0 Z0 31 19 "NUMERIC" S (hw _ (List.mem_of_getElem? (i := 24) rfl)) d1_31 d1_34 (fun h hx hby r => (own_sk0 h hx hby (by decide) (own_sk1 h hx hby (by decide) (own_sk2 h hx hby (by decide) (own_tk3 h hx hby rfl r)))))
  · exact own_pk l Z a0 hw ws 4 w h0 n0 Z0 40 22 "REAL" S (hw _ (List.mem_of_getElem? (i := 66) rfl)) d1_40 d1_43 (fun h hx hby r => (own_sk0 h hx hby (by decide) (own_sk1 h hx hby (by decide) (own_sk2 h hx hby (by decide) (own_sk3 h hx hby (by decide) (own_tk4 h hx hby rfl r))))))
  · exact own_pk l Z a0 hw ws 5 w h0 n0 Z0 49 25 "DOUBLE_PRECISION" S (hw _ (List.mem_of_getElem? (i := 31) rfl)) d1_49 d1_52 (fun h hx hby r => (own_sk0 h hx hby (by decide) (own_sk1 h hx hby (by decide) (own_sk2 h hx hby (by decide) (own_sk3 h hx hby (by decide) (own_sk4 h hx hby (by decide) (own_tk5 h hx hby rfl r)))))))
  · exact own_pk l Z a0 hw ws 6 w h0 n0 Z0 59 28 "TEXT" S (hw _ (List.mem_of_getElem? (i := 37) rfl)) d1_59 d1_62 (fun h hx hby r => (own_sk0 h hx hby (by decide) (own_sk1 h hx hby (by decide) (own_sk2 h hx hby (by decide) (own_sk3 h hx hby (by decide) (own_sk4 h hx hby (by decide) (own_sk5 h hx hby (by decide) (own_tk6 h hx hby rfl r))))))))
  · exact own_pk l Z a0 hw ws 7 w h0 n0 Z0 69 31 "CHARACTER_VARYING" S (hw _ (List.mem_of_getElem? (i := 43) rfl)) d1_69 d1_72 (fun h hx hby r => (own_sk0 h hx hby (by decide) (own_sk1 h hx hby (by decide) (own_sk2 h hx hby (by decide) (own_sk3 h hx hby (by decide) (own_sk4 h hx hby (by decide) (own_sk5 h hx hby (by decide) (own_sk6 h hx hby (by decide) (own_tk7 h hx hby rfl r)))))))))
  · exact own_pk l Z a0 hw ws 8 w h0 n0 Z0 79 34 "CHARACTER" S (hw _ (List.mem_of_getElem? (i := 56) rfl)) d1_79 d1_82 (fun h hx hby r => (own_sk0 h hx hby (by decide) (own_sk1 h hx hby (by decide) (own_sk2 h hx hby (by decide) (own_sk3 h hx hby (by decide) (own_sk4 h hx hby (by decide) (own_sk5 h hx hby (by decide) (own_sk6 h hx hby (by decide) (own_sk7 h hx hby (by decide) (own_tk8 h hx hby rfl r))))))))))
  · exact own_pk l Z a0 hw ws 9 w h0 n0 Z0 89 37 "BOOLEAN" S (hw _ (List.mem_of_getElem? (i := 69) rfl)) d1_89 d1_92 (fun h hx hby r => (own_sk0 h hx hby (by decide) (own_sk1 h hx hby (by decide) (own_sk2 h hx hby (by decide) (own_sk3 h hx hby (by decide) (own_sk4 h hx hby (by decide) (own_sk5 h hx hby (by decide) (own_sk6 h hx hby (by decide) (own_sk7 h hx hby (by decide) (own_sk8 h hx hby (by decide) (own_tk9 h hx hby rfl r)))))))))))
  · exact own_pk l Z a0 hw ws 10 w h0 n0 Z0 99 40 "DATE" S (hw _ (List.mem_of_getElem? (i := 53) rfl)) d1_99 d1_102 (fun h hx hby r => (own_sk0 h hx hby (by decide) (own_sk1 h hx hby (by decide) (own_sk2 h hx hby (by decide) (own_sk3 h hx hby (by decide) (own_sk4 h hx hby (by decide) (own_sk5 h hx hby (by decide) (own_sk6 h hx hby (by decide) (own_sk7 h hx hby (by decide) (own_sk8 h hx hby (by decide) (own_sk9 h hx hby (by decide) (own_tk10 h hx hby rfl r))))))))))))
  · exact own_pk l Z a0 hw ws 11 w h0 n0 Z0 109 43 "TIME" S (hw _ (List.mem_of_getElem? (i := 50) rfl)) d1_109 d1_112 (fun h hx hby r => (own_sk0 h hx hby (by decide) (own_sk1 h hx hby (by decide) (own_sk2 h hx hby (by decide) (own_sk3 h hx hby (by decide) (own_sk4 h hx hby (by decide) (own_sk5 h hx hby (by decide) (own_sk6 h hx hby (by decide) (own_sk7 h hx hby (by decide) (own_sk8 h hx hby (by decide) (own_sk9 h hx hby (by decide) (own_sk10 h hx hby (by decide) (own_tk11 h hx hby rfl r)))))))))))))
  · exact own_pk l Z a0 hw ws 12 w h0 n0 Z0 119 46 "TIMESTAMP" S (hw _ (List.mem_of_getElem? (i := 63) rfl)) d1_119 d1_122 (fun h hx hby r => (own_sk0 h hx hby (by decide) (own_sk1 h hx hby (by decide) (own_sk2 h hx hby (by decide) (own_sk3 h hx hby (by decide) (own_sk4 h hx hby (by decide) (own_sk5 h hx hby (by decide) (own_sk6 h hx hby (by decide) (own_sk7 h hx hby (by decide) (own_sk8 h hx hby (by decide) (own_sk9 h hx hby (by decide) (own_sk10 h hx hby (by decide) (own_sk11 h hx hby (by decide) (own_tk12 h hx hby rfl r))))))))))))))
  · exact own_pk l Z a0 hw ws 13 w h0 n0 Z0 129 49 "TIMESTAMPTZ" S (hw _ (List.mem_of_getElem? (i := 34) rfl)) d1_129 d1_132 (fun h hx hby r => (own_sk0 h hx hby (by decide) (own_sk1 h hx hby (by decide) (own_sk2 h hx hby (by decide) (own_sk3 h hx hby (by decide) (own_sk4 h hx hby (by decide) (own_sk5 h hx hby (by decide) (own_sk6 h hx hby (by decide) (own_sk7 h hx hby (by decide) (own_sk8 h hx hby (by decide) (own_sk9 h hx hby (by decide) (own_sk10 h hx hby (by decide) (own_sk11 h hx hby (by decide) (own_sk12 h hx hby (by decide) (own_tk13 h hx hby rfl r)))))))))))))))
  · exact own_pk l Z a0 hw ws 14 w h0 n0 Z0 133 52 "UNKNOWN" S (hw _ (List.mem_of_getElem? (i := 40) rfl)) d1_133 d1_136 (fun h hx hby r => (own_sk0 h hx hby (by decide) (own_sk1 h hx hby (by decide) (own_sk2 h hx hby (by decide) (own_sk3 h hx hby (by decide) (own_sk4 h hx hby (by decide) (own_sk5 h hx hby (by decide) (own_sk6 h hx hby (by decide) (own_sk7 h hx hby (by decide) (own_sk8 h hx hby (by decide) (own_sk9 h hx hby (by decide) (own_sk10 h hx hby (by decide) (own_sk11 h hx hby (by decide) (own_sk12 h hx hby (by decide) (own_sk13 h hx hby (by decide) r)))))))))))))))
theorem d2_0 : decode prog_13_method_8_code 0 = .ok (.aload_n 0, 1) := by decide +kernel
theorem d2_1 : decode prog_13_method_8_code 1 = .ok (.getstatic 3, 3) := by decide +kernel
theorem d2_4 : decode prog_13_method_8_code 4 = .ok (.if_acmp .eq 17, 3) := by decide +kernel
theorem d2_21 : decode prog_13_method_8_code 21 = .ok (.iconst 1, 1) := by decide +kernel
theorem d2_22 : decode prog_13_method_8_code 22 = .ok (.goto 4, 3) := by decide +kernel
theorem d2_26 : decode prog_13_method_8_code 26 = .ok (.ireturn, 1) := by decide +kernel
theorem pn_2 : plainName "com/example/dim2/dim2/catalog/DataType" = true := by first | (simp [plainName, overriddenIn]; done) | decide +kernel
theorem ef_2 (m : MethodId) (x0 : Addr) : entryFrame m #[(.ref x0)] 1 = mkF m 0 #[.val (.ref x0)] [] := by first | (simp [entryFrame, mkF, argsToLocals, Value.category]; done) | rfl
def Q2a (Z : State) (a1 : Addr) (w2 : Addr) (h0 : Heap) (n0 : Nat) (v : Option Value) (h : Heap) (L : List Loc) : Prop := v = some (.int (1 : Int32)) ∧ Fr n0 L ∧ h = h0
set_option maxRecDepth 65536 in
set_option maxHeartbeats 40000000 in
theorem rm2a (l : Launch) (Z : State) (a0 : Array Value) (hw : ∀ d ∈ tables_1, d.before a0 Z = true) (ws : List Jvm.Cond) (a1 : Addr) (w2 : Addr) (h0 : Heap) (n0 : Nat) (Z0 : n0 ≤ h0.size) (S_SMALLINT : Sta Z h0 "com/example/dim2/dim2/catalog/DataType" "SMALLINT" "Lcom/example/dim2/dim2/catalog/DataType;" (.ref w2)) (ha4 : a1 = w2) :
    MetFree l (⟨"com/example/dim2/dim2/catalog/DataType", "isWholeNumber", "()Z"⟩ : MethodName) (head1 (Jvm.Cond.code (⟨"com/example/dim2/dim2/catalog/DataType", "isWholeNumber", "()Z"⟩ : MethodName) prog_13_method_8_code 1 (some .boolean) :: ws) ({ frames := 0, cells := 0, slots := 0, locals := 0 } : Room)) (fun a U => a = #[(.ref a1)] ∧ Z.Warmed39 U.vm ∧ U.heap = h0) (fun _ _ _ _ _ => True) (fun _ U o U' => ∃ v L, o = .returned v ∧ Q2a Z a1 w2 h0 n0 v U'.heap L ∧ FrameEnd U o U' L ({ frames := 0, cells := 0, slots := 0, locals := 0 } : Room).cells ({ frames := 0, cells := 0, slots := 0, locals := 0 } : Room).slots) := by
  refine MetFree.of_bodySF (plainFor_of_name pn_2) hisR ?_
  intro p e s m args below meth c s₁ Bd hml0 hP hK
  obtain ⟨rfl, hZ, hh⟩ := hP
  have hx := Bd.exec
  have hby := Bd.bytes
  have hml : c.maxLocals = 1 := hml0
  have hown : s.vm.findClass "com/example/dim2/dim2/catalog/DataType" = some m.cls := findClass_of_methodNamed Bd.named
  have hnm := (name_of_methodNamed Bd.named Bd.method).1
  have X0 : Stand p l e ({ frames := 0, cells := 0, slots := 0, locals := 0 } : Room) s m #[(.ref a1)] below meth c s₁ [] 0 0 := Stand.of_body Bd
  have e0 : s₁.heap = h0 := by rw [← hh, Bd.state]; rfl
  have N0 := Fr.nil n0
  have pre0 : ∀ t, Steps p.tables e below (s₁.setTop (mkF m 0 #[.val (.ref a1)] [])) t → Steps p.tables e below (s₁.setTop (entryFrame m #[(.ref a1)] 1)) t := fun t k => castTop (ef_2 m a1) k
  obtain ⟨T3, X3, e3, st3⟩ := getS2 X0 hx hZ hown (host := "") (Or.inl (hw _ (List.mem_of_getElem? (i := 13) rfl))) Via.refl e0 S_SMALLINT (g := (mkF m 1 #[.val (.ref a1)] [(.ref a1)])) rfl (hb hby d2_1)
  obtain ⟨fs, hr, hrun, hended, hW, hsame⟩ := X3.leave (v := some (.int (1 : Int32))) (fun h => by rw [Bd.returns] at h; cases h)
  refine ⟨_, _, pre0 _ ?_, hrun, hended, _, _, rfl, ?_, ⟨_, rfl⟩, hW, hsame.mono (by decide) (by decide)⟩
  · show Steps p.tables e below (s₁.setTop (mkF m 0 #[.val (.ref a1)] [])) _
    refine XS.aloadN X0.here hx rfl (hb hby d2_0) rfl rfl ?_
    show Steps p.tables e below (s₁.setTop (mkF m 1 #[.val (.ref a1)] [(.ref a1)])) _
    refine st3 _ ?_
    show Steps p.tables e below (T3.setTop (mkF m 4 #[.val (.ref a1)] [(.ref w2), (.ref a1)])) _
    refine Jvm.RoadKit.acmp (g := (mkF m 4 #[.val (.ref a1)] [(.ref w2), (.ref a1)])) X3 hx rfl rfl rfl (pc0 := 4) (pc' := 21) (same := true) rfl (hb hby d2_4) rfl (decide_eq_true (congrArg Value.ref ha4)) (by decide) (by decide) ?_
    show Steps p.tables e below (T3.setTop (mkF m 21 #[.val (.ref a1)] [])) _
    refine XS.iconst X3.here hx rfl (hb hby d2_21) ?_
    show Steps p.tables e below (T3.setTop (mkF m 22 #[.val (.ref a1)] [(.int (1 : Int32))])) _
    refine XS.goto X3.here hx rfl (pc0 := 22) (pc' := 26) rfl (hb hby d2_22) (by decide) (by decide) ?_
    show Steps p.tables e below (T3.setTop (mkF m 26 #[.val (.ref a1)] [(.int (1 : Int32))])) _
    exact retN X3 hx (t := .boolean) Bd.returns (by simp) (hb hby d2_26) hr
  · show Q2a Z a1 w2 h0 n0 _ T3.heap _
    rw [e3]
    exact ⟨rfl, N0, rfl⟩
theorem d2_7 : decode prog_13_method_8_code 7 = .ok (.aload_n 0, 1) := by decide +kernel
theorem d2_8 : decode prog_13_method_8_code 8 = .ok (.getstatic 7, 3) := by decide +kernel
theorem d2_11 : decode prog_13_method_8_code 11 = .ok (.if_acmp .eq 10, 3) := by decide +kernel
def Q2b (Z : State) (a1 : Addr) (w2 : Addr) (w4 : Addr) (h0 : Heap) (n0 : Nat) (v : Option Value) (h : Heap) (L : List Loc) : Prop := v = some (.int (1 : Int32)) ∧ Fr n0 L ∧ h = h0
set_option maxRecDepth 65536 in
set_option maxHeartbeats 40000000 in
theorem rm2b (l : Launch) (Z : State) (a0 : Array Value) (hw : ∀ d ∈ tables_1, d.before a0 Z = true) (ws : List Jvm.Cond) (a1 : Addr) (w2 : Addr) (w4 : Addr) (h0 : Heap) (n0 : Nat) (Z0 : n0 ≤ h0.size) (S_SMALLINT : Sta Z h0 "com/example/dim2/dim2/catalog/DataType" "SMALLINT" "Lcom/example/dim2/dim2/catalog/DataType;" (.ref w2)) (S_INTEGER : Sta Z h0 "com/example/dim2/dim2/catalog/DataType" "INTEGER" "Lcom/example/dim2/dim2/catalog/DataType;" (.ref w4)) (ha4 : ¬ (a1 = w2)) (ha11 : a1 = w4) :
    MetFree l (⟨"com/example/dim2/dim2/catalog/DataType", "isWholeNumber", "()Z"⟩ : MethodName) (head1 (Jvm.Cond.code (⟨"com/example/dim2/dim2/catalog/DataType", "isWholeNumber", "()Z"⟩ : MethodName) prog_13_method_8_code 1 (some .boolean) :: ws) ({ frames := 0, cells := 0, slots := 0, locals := 0 } : Room)) (fun a U => a = #[(.ref a1)] ∧ Z.Warmed39 U.vm ∧ U.heap = h0) (fun _ _ _ _ _ => True) (fun _ U o U' => ∃ v L, o = .returned v ∧ Q2b Z a1 w2 w4 h0 n0 v U'.heap L ∧ FrameEnd U o U' L ({ frames := 0, cells := 0, slots := 0, locals := 0 } : Room).cells ({ frames := 0, cells := 0, slots := 0, locals := 0 } : Room).slots) := by
  refine MetFree.of_bodySF (plainFor_of_name pn_2) hisR ?_
  intro p e s m args below meth c s₁ Bd hml0 hP hK
  obtain ⟨rfl, hZ, hh⟩ := hP
  have hx := Bd.exec
  have hby := Bd.bytes
  have hml : c.maxLocals = 1 := hml0
  have hown : s.vm.findClass "com/example/dim2/dim2/catalog/DataType" = some m.cls := findClass_of_methodNamed Bd.named
  have hnm := (name_of_methodNamed Bd.named Bd.method).1
  have X0 : Stand p l e ({ frames := 0, cells := 0, slots := 0, locals := 0 } : Room) s m #[(.ref a1)] below meth c s₁ [] 0 0 := Stand.of_body Bd
  have e0 : s₁.heap = h0 := by rw [← hh, Bd.state]; rfl
  have N0 := Fr.nil n0
  have pre0 : ∀ t, Steps p.tables e below (s₁.setTop (mkF m 0 #[.val (.ref a1)] [])) t → Steps p.tables e below (s₁.setTop (entryFrame m #[(.ref a1)] 1)) t := fun t k => castTop (ef_2 m a1) k
  obtain ⟨T3, X3, e3, st3⟩ := getS2 X0 hx hZ hown (host := "") (Or.inl (hw _ (List.mem_of_getElem? (i := 13) rfl))) Via.refl e0 S_SMALLINT (g := (mkF m 1 #[.val (.ref a1)] [(.ref a1)])) rfl (hb hby d2_1)
  obtain ⟨T5, X5, e5, st5⟩ := getS2 X3 hx hZ hown (host := "") (Or.inl (hw _ (List.mem_of_getElem? (i := 27) rfl))) Via.refl e3 S_INTEGER (g := (mkF m 8 #[.val (.ref a1)] [(.ref a1)])) rfl (hb hby d2_8)
  obtain ⟨fs, hr, hrun, hended, hW, hsame⟩ := X5.leave (v := some (.int (1 : Int32))) (fun h => by rw [Bd.returns] at h; cases h)
  refine ⟨_, _, pre0 _ ?_, hrun, hended, _, _, rfl, ?_, ⟨_, rfl⟩, hW, hsame.mono (by decide) (by decide)⟩
  · show Steps p.tables e below (s₁.setTop (mkF m 0 #[.val (.ref a1)] [])) _
    refine XS.aloadN X0.here hx rfl (hb hby d2_0) rfl rfl ?_
    show Steps p.tables e below (s₁.setTop (mkF m 1 #[.val (.ref a1)] [(.ref a1)])) _
    refine st3 _ ?_
    show Steps p.tables e below (T3.setTop (mkF m 4 #[.val (.ref a1)] [(.ref w2), (.ref a1)])) _
    refine Jvm.RoadKit.acmp (g := (mkF m 4 #[.val (.ref a1)] [(.ref w2), (.ref a1)])) X3 hx rfl rfl rfl (pc0 := 4) (pc' := 7) (same := false) rfl (hb hby d2_4) rfl (decide_eq_false fun q => ha4 (Value.ref.inj q)) (by decide) (by decide) ?_
    show Steps p.tables e below (T3.setTop (mkF m 7 #[.val (.ref a1)] [])) _
    refine XS.aloadN X3.here hx rfl (hb hby d2_7) rfl rfl ?_
    show Steps p.tables e below (T3.setTop (mkF m 8 #[.val (.ref a1)] [(.ref a1)])) _
    refine st5 _ ?_
    show Steps p.tables e below (T5.setTop (mkF m 11 #[.val (.ref a1)] [(.ref w4), (.ref a1)])) _
    refine Jvm.RoadKit.acmp (g := (mkF m 11 #[.val (.ref a1)] [(.ref w4), (.ref a1)])) X5 hx rfl rfl rfl (pc0 := 11) (pc' := 21) (same := true) rfl (hb hby d2_11) rfl (decide_eq_true (congrArg Value.ref ha11)) (by decide) (by decide) ?_
    show Steps p.tables e below (T5.setTop (mkF m 21 #[.val (.ref a1)] [])) _
    refine XS.iconst X5.here hx rfl (hb hby d2_21) ?_
    show Steps p.tables e below (T5.setTop (mkF m 22 #[.val (.ref a1)] [(.int (1 : Int32))])) _
    refine XS.goto X5.here hx rfl (pc0 := 22) (pc' := 26) rfl (hb hby d2_22) (by decide) (by decide) ?_
    show Steps p.tables e below (T5.setTop (mkF m 26 #[.val (.ref a1)] [(.int (1 : Int32))])) _
    exact retN X5 hx (t := .boolean) Bd.returns (by simp) (hb hby d2_26) hr
  · show Q2b Z a1 w2 w4 h0 n0 _ T5.heap _
    rw [e5]
    exact ⟨rfl, N0, rfl⟩
theorem d2_14 : decode prog_13_method_8_code 14 = .ok (.aload_n 0, 1) := by decide +kernel
theorem d2_15 : decode prog_13_method_8_code 15 = .ok (.getstatic 10, 3) := by decide +kernel
theorem d2_18 : decode prog_13_method_8_code 18 = .ok (.if_acmp .ne 7, 3) := by decide +kernel
def Q2c (Z : State) (a1 : Addr) (w2 : Addr) (w4 : Addr) (w6 : Addr) (h0 : Heap) (n0 : Nat) (v : Option Value) (h : Heap) (L : List Loc) : Prop := v = some (.int (1 : Int32)) ∧ Fr n0 L ∧ h = h0
set_option maxRecDepth 65536 in
set_option maxHeartbeats 40000000 in
theorem rm2c (l : Launch) (Z : State) (a0 : Array Value) (hw : ∀ d ∈ tables_1, d.before a0 Z = true) (ws : List Jvm.Cond) (a1 : Addr) (w2 : Addr) (w4 : Addr) (w6 : Addr) (h0 : Heap) (n0 : Nat) (Z0 : n0 ≤ h0.size) (S_SMALLINT : Sta Z h0 "com/example/dim2/dim2/catalog/DataType" "SMALLINT" "Lcom/example/dim2/dim2/catalog/DataType;" (.ref w2)) (S_INTEGER : Sta Z h0 "com/example/dim2/dim2/catalog/DataType" "INTEGER" "Lcom/example/dim2/dim2/catalog/DataType;" (.ref w4)) (S_BIGINT : Sta Z h0 "com/example/dim2/dim2/catalog/DataType" "BIGINT" "Lcom/example/dim2/dim2/catalog/DataType;" (.ref w6)) (ha4 : ¬ (a1 = w2)) (ha11 : ¬ (a1 = w4)) (ha18 : a1 = w6) :
    MetFree l (⟨"com/example/dim2/dim2/catalog/DataType", "isWholeNumber", "()Z"⟩ : MethodName) (head1 (Jvm.Cond.code (⟨"com/example/dim2/dim2/catalog/DataType", "isWholeNumber", "()Z"⟩ : MethodName) prog_13_method_8_code 1 (some .boolean) :: ws) ({ frames := 0, cells := 0, slots := 0, locals := 0 } : Room)) (fun a U => a = #[(.ref a1)] ∧ Z.Warmed39 U.vm ∧ U.heap = h0) (fun _ _ _ _ _ => True) (fun _ U o U' => ∃ v L, o = .returned v ∧ Q2c Z a1 w2 w4 w6 h0 n0 v U'.heap L ∧ FrameEnd U o U' L ({ frames := 0, cells := 0, slots := 0, locals := 0 } : Room).cells ({ frames := 0, cells := 0, slots := 0, locals := 0 } : Room).slots) := by
  refine MetFree.of_bodySF (plainFor_of_name pn_2) hisR ?_
  intro p e s m args below meth c s₁ Bd hml0 hP hK
  obtain ⟨rfl, hZ, hh⟩ := hP
  have hx := Bd.exec
  have hby := Bd.bytes
  have hml : c.maxLocals = 1 := hml0
  have hown : s.vm.findClass "com/example/dim2/dim2/catalog/DataType" = some m.cls := findClass_of_methodNamed Bd.named
  have hnm := (name_of_methodNamed Bd.named Bd.method).1
  have X0 : Stand p l e ({ frames := 0, cells := 0, slots := 0, locals := 0 } : Room) s m #[(.ref a1)] below meth c s₁ [] 0 0 := Stand.of_body Bd
  have e0 : s₁.heap = h0 := by rw [← hh, Bd.state]; rfl
  have N0 := Fr.nil n0
  have pre0 : ∀ t, Steps p.tables e below (s₁.setTop (mkF m 0 #[.val (.ref a1)] [])) t → Steps p.tables e below (s₁.setTop (entryFrame m #[(.ref a1)] 1)) t := fun t k => castTop (ef_2 m a1) k
  obtain ⟨T3, X3, e3, st3⟩ := getS2 X0 hx hZ hown (host := "") (Or.inl (hw _ (List.mem_of_getElem? (i := 13) rfl))) Via.refl e0 S_SMALLINT (g := (mkF m 1 #[.val (.ref a1)] [(.ref a1)])) rfl (hb hby d2_1)
  obtain ⟨T5, X5, e5, st5⟩ := getS2 X3 hx hZ hown (host := "") (Or.inl (hw _ (List.mem_of_getElem? (i := 27) rfl))) Via.refl e3 S_INTEGER (g := (mkF m 8 #[.val (.ref a1)] [(.ref a1)])) rfl (hb hby d2_8)
  obtain ⟨T7, X7, e7, st7⟩ := getS2 X5 hx hZ hown (host := "") (Or.inl (hw _ (List.mem_of_getElem? (i := 29) rfl))) Via.refl e5 S_BIGINT (g := (mkF m 15 #[.val (.ref a1)] [(.ref a1)])) rfl (hb hby d2_15)
  obtain ⟨fs, hr, hrun, hended, hW, hsame⟩ := X7.leave (v := some (.int (1 : Int32))) (fun h => by rw [Bd.returns] at h; cases h)
  refine ⟨_, _, pre0 _ ?_, hrun, hended, _, _, rfl, ?_, ⟨_, rfl⟩, hW, hsame.mono (by decide) (by decide)⟩
  · show Steps p.tables e below (s₁.setTop (mkF m 0 #[.val (.ref a1)] [])) _
    refine XS.aloadN X0.here hx rfl (hb hby d2_0) rfl rfl ?_
    show Steps p.tables e below (s₁.setTop (mkF m 1 #[.val (.ref a1)] [(.ref a1)])) _
    refine st3 _ ?_
    show Steps p.tables e below (T3.setTop (mkF m 4 #[.val (.ref a1)] [(.ref w2), (.ref a1)])) _
    refine Jvm.RoadKit.acmp (g := (mkF m 4 #[.val (.ref a1)] [(.ref w2), (.ref a1)])) X3 hx rfl rfl rfl (pc0 := 4) (pc' := 7) (same := false) rfl (hb hby d2_4) rfl (decide_eq_false fun q => ha4 (Value.ref.inj q)) (by decide) (by decide) ?_
    show Steps p.tables e below (T3.setTop (mkF m 7 #[.val (.ref a1)] [])) _
    refine XS.aloadN X3.here hx rfl (hb hby d2_7) rfl rfl ?_
    show Steps p.tables e below (T3.setTop (mkF m 8 #[.val (.ref a1)] [(.ref a1)])) _
    refine st5 _ ?_
    show Steps p.tables e below (T5.setTop (mkF m 11 #[.val (.ref a1)] [(.ref w4), (.ref a1)])) _
    refine Jvm.RoadKit.acmp (g := (mkF m 11 #[.val (.ref a1)] [(.ref w4), (.ref a1)])) X5 hx rfl rfl rfl (pc0 := 11) (pc' := 14) (same := false) rfl (hb hby d2_11) rfl (decide_eq_false fun q => ha11 (Value.ref.inj q)) (by decide) (by decide) ?_
    show Steps p.tables e below (T5.setTop (mkF m 14 #[.val (.ref a1)] [])) _
    refine XS.aloadN X5.here hx rfl (hb hby d2_14) rfl rfl ?_
    show Steps p.tables e below (T5.setTop (mkF m 15 #[.val (.ref a1)] [(.ref a1)])) _
    refine st7 _ ?_
    show Steps p.tables e below (T7.setTop (mkF m 18 #[.val (.ref a1)] [(.ref w6), (.ref a1)])) _
    refine Jvm.RoadKit.acmp (g := (mkF m 18 #[.val (.ref a1)] [(.ref w6), (.ref a1)])) X7 hx rfl rfl rfl (pc0 := 18) (pc' := 21) (same := true) rfl (hb hby d2_18) rfl (decide_eq_true (congrArg Value.ref ha18)) (by decide) (by decide) ?_
    show Steps p.tables e below (T7.setTop (mkF m 21 #[.val (.ref a1)] [])) _
    refine XS.iconst X7.here hx rfl (hb hby d2_21) ?_
    show Steps p.tables e below (T7.setTop (mkF m 22 #[.val (.ref a1)] [(.int (1 : Int32))])) _
    refine XS.goto X7.here hx rfl (pc0 := 22) (pc' := 26) rfl (hb hby d2_22) (by decide) (by decide) ?_
    show Steps p.tables e below (T7.setTop (mkF m 26 #[.val (.ref a1)] [(.int (1 : Int32))])) _
    exact retN X7 hx (t := .boolean) Bd.returns (by simp) (hb hby d2_26) hr
  · show Q2c Z a1 w2 w4 w6 h0 n0 _ T7.heap _
    rw [e7]
    exact ⟨rfl, N0, rfl⟩
theorem d2_25 : decode prog_13_method_8_code 25 = .ok (.iconst 0, 1) := by decide +kernel
def Q2d (Z : State) (a1 : Addr) (w2 : Addr) (w4 : Addr) (w6 : Addr) (h0 : Heap) (n0 : Nat) (v : Option Value) (h : Heap) (L : List Loc) : Prop := v = some (.int (0 : Int32)) ∧ Fr n0 L ∧ h = h0
set_option maxRecDepth 65536 in
set_option maxHeartbeats 40000000 in
theorem rm2d (l : Launch) (Z : State) (a0 : Array Value) (hw : ∀ d ∈ tables_1, d.before a0 Z = true) (ws : List Jvm.Cond) (a1 : Addr) (w2 : Addr) (w4 : Addr) (w6 : Addr) (h0 : Heap) (n0 : Nat) (Z0 : n0 ≤ h0.size) (S_SMALLINT : Sta Z h0 "com/example/dim2/dim2/catalog/DataType" "SMALLINT" "Lcom/example/dim2/dim2/catalog/DataType;" (.ref w2)) (S_INTEGER : Sta Z h0 "com/example/dim2/dim2/catalog/DataType" "INTEGER" "Lcom/example/dim2/dim2/catalog/DataType;" (.ref w4)) (S_BIGINT : Sta Z h0 "com/example/dim2/dim2/catalog/DataType" "BIGINT" "Lcom/example/dim2/dim2/catalog/DataType;" (.ref w6)) (ha4 : ¬ (a1 = w2)) (ha11 : ¬ (a1 = w4)) (ha18 : ¬ (a1 = w6)) :
    MetFree l (⟨"com/example/dim2/dim2/catalog/DataType", "isWholeNumber", "()Z"⟩ : MethodName) (head1 (Jvm.Cond.code (⟨"com/example/dim2/dim2/catalog/DataType", "isWholeNumber", "()Z"⟩ : MethodName) prog_13_method_8_code 1 (some .boolean) :: ws) ({ frames := 0, cells := 0, slots := 0, locals := 0 } : Room)) (fun a U => a = #[(.ref a1)] ∧ Z.Warmed39 U.vm ∧ U.heap = h0) (fun _ _ _ _ _ => True) (fun _ U o U' => ∃ v L, o = .returned v ∧ Q2d Z a1 w2 w4 w6 h0 n0 v U'.heap L ∧ FrameEnd U o U' L ({ frames := 0, cells := 0, slots := 0, locals := 0 } : Room).cells ({ frames := 0, cells := 0, slots := 0, locals := 0 } : Room).slots) := by
  refine MetFree.of_bodySF (plainFor_of_name pn_2) hisR ?_
  intro p e s m args below meth c s₁ Bd hml0 hP hK
  obtain ⟨rfl, hZ, hh⟩ := hP
  have hx := Bd.exec
  have hby := Bd.bytes
  have hml : c.maxLocals = 1 := hml0
  have hown : s.vm.findClass "com/example/dim2/dim2/catalog/DataType" = some m.cls := findClass_of_methodNamed Bd.named
  have hnm := (name_of_methodNamed Bd.named Bd.method).1
  have X0 : Stand p l e ({ frames := 0, cells := 0, slots := 0, locals := 0 } : Room) s m #[(.ref a1)] below meth c s₁ [] 0 0 := Stand.of_body Bd
  have e0 : s₁.heap = h0 := by rw [← hh, Bd.state]; rfl
  have N0 := Fr.nil n0
  have pre0 : ∀ t, Steps p.tables e below (s₁.setTop (mkF m 0 #[.val (.ref a1)] [])) t → Steps p.tables e below (s₁.setTop (entryFrame m #[(.ref a1)] 1)) t := fun t k => castTop (ef_2 m a1) k
  obtain ⟨T3, X3, e3, st3⟩ := getS2 X0 hx hZ hown (host := "") (Or.inl (hw _ (List.mem_of_getElem? (i := 13) rfl))) Via.refl e0 S_SMALLINT (g := (mkF m 1 #[.val (.ref a1)] [(.ref a1)])) rfl (hb hby d2_1)
  obtain ⟨T5, X5, e5, st5⟩ := getS2 X3 hx hZ hown (host := "") (Or.inl (hw _ (List.mem_of_getElem? (i := 27) rfl))) Via.refl e3 S_INTEGER (g := (mkF m 8 #[.val (.ref a1)] [(.ref a1)])) rfl (hb hby d2_8)
  obtain ⟨T7, X7, e7, st7⟩ := getS2 X5 hx hZ hown (host := "") (Or.inl (hw _ (List.mem_of_getElem? (i := 29) rfl))) Via.refl e5 S_BIGINT (g := (mkF m 15 #[.val (.ref a1)] [(.ref a1)])) rfl (hb hby d2_15)
  obtain ⟨fs, hr, hrun, hended, hW, hsame⟩ := X7.leave (v := some (.int (0 : Int32))) (fun h => by rw [Bd.returns] at h; cases h)
  refine ⟨_, _, pre0 _ ?_, hrun, hended, _, _, rfl, ?_, ⟨_, rfl⟩, hW, hsame.mono (by decide) (by decide)⟩
  · show Steps p.tables e below (s₁.setTop (mkF m 0 #[.val (.ref a1)] [])) _
    refine XS.aloadN X0.here hx rfl (hb hby d2_0) rfl rfl ?_
    show Steps p.tables e below (s₁.setTop (mkF m 1 #[.val (.ref a1)] [(.ref a1)])) _
    refine st3 _ ?_
    show Steps p.tables e below (T3.setTop (mkF m 4 #[.val (.ref a1)] [(.ref w2), (.ref a1)])) _
    refine Jvm.RoadKit.acmp (g := (mkF m 4 #[.val (.ref a1)] [(.ref w2), (.ref a1)])) X3 hx rfl rfl rfl (pc0 := 4) (pc' := 7) (same := false) rfl (hb hby d2_4) rfl (decide_eq_false fun q => ha4 (Value.ref.inj q)) (by decide) (by decide) ?_
    show Steps p.tables e below (T3.setTop (mkF m 7 #[.val (.ref a1)] [])) _
    refine XS.aloadN X3.here hx rfl (hb hby d2_7) rfl rfl ?_
    show Steps p.tables e below (T3.setTop (mkF m 8 #[.val (.ref a1)] [(.ref a1)])) _
    refine st5 _ ?_
    show Steps p.tables e below (T5.setTop (mkF m 11 #[.val (.ref a1)] [(.ref w4), (.ref a1)])) _
    refine Jvm.RoadKit.acmp (g := (mkF m 11 #[.val (.ref a1)] [(.ref w4), (.ref a1)])) X5 hx rfl rfl rfl (pc0 := 11) (pc' := 14) (same := false) rfl (hb hby d2_11) rfl (decide_eq_false fun q => ha11 (Value.ref.inj q)) (by decide) (by decide) ?_
    show Steps p.tables e below (T5.setTop (mkF m 14 #[.val (.ref a1)] [])) _
    refine XS.aloadN X5.here hx rfl (hb hby d2_14) rfl rfl ?_
    show Steps p.tables e below (T5.setTop (mkF m 15 #[.val (.ref a1)] [(.ref a1)])) _
    refine st7 _ ?_
    show Steps p.tables e below (T7.setTop (mkF m 18 #[.val (.ref a1)] [(.ref w6), (.ref a1)])) _
    refine Jvm.RoadKit.acmp (g := (mkF m 18 #[.val (.ref a1)] [(.ref w6), (.ref a1)])) X7 hx rfl rfl rfl (pc0 := 18) (pc' := 25) (same := false) rfl (hb hby d2_18) rfl (decide_eq_false fun q => ha18 (Value.ref.inj q)) (by decide) (by decide) ?_
    show Steps p.tables e below (T7.setTop (mkF m 25 #[.val (.ref a1)] [])) _
    refine XS.iconst X7.here hx rfl (hb hby d2_25) ?_
    show Steps p.tables e below (T7.setTop (mkF m 26 #[.val (.ref a1)] [(.int (0 : Int32))])) _
    exact retN X7 hx (t := .boolean) Bd.returns (by simp) (hb hby d2_26) hr
  · show Q2d Z a1 w2 w4 w6 h0 n0 _ T7.heap _
    rw [e7]
    exact ⟨rfl, N0, rfl⟩
theorem d3_0 : decode prog_13_method_7_code 0 = .ok (.aload_n 0, 1) := by decide +kernel
theorem d3_1 : decode prog_13_method_7_code 1 = .ok (.getfield 75, 3) := by decide +kernel
theorem d3_4 : decode prog_13_method_7_code 4 = .ok (.getstatic 128, 3) := by decide +kernel
theorem d3_7 : decode prog_13_method_7_code 7 = .ok (.if_acmp .ne 7, 3) := by decide +kernel
theorem d3_10 : decode prog_13_method_7_code 10 = .ok (.iconst 1, 1) := by decide +kernel
theorem d3_11 : decode prog_13_method_7_code 11 = .ok (.goto 4, 3) := by decide +kernel
theorem d3_15 : decode prog_13_method_7_code 15 = .ok (.ireturn, 1) := by decide +kernel
theorem pn_3 : plainName "com/example/dim2/dim2/catalog/DataType" = true := by first | (simp [plainName, overriddenIn]; done) | decide +kernel
theorem ef_3 (m : MethodId) (x0 : Addr) : entryFrame m #[(.ref x0)] 1 = mkF m 0 #[.val (.ref x0)] [] := by first | (simp [entryFrame, mkF, argsToLocals, Value.category]; done) | rfl
def Q3 (Z : State) (a1 : Addr) (w2 : Addr) (w4 : Addr) (h0 : Heap) (n0 : Nat) (v : Option Value) (h : Heap) (L : List Loc) : Prop := v = some (.int (1 : Int32)) ∧ Fr n0 L ∧ h = h0
set_option maxRecDepth 65536 in
set_option maxHeartbeats 40000000 in
theorem rm3 (l : Launch) (Z : State) (a0 : Array Value) (hw : ∀ d ∈ tables_1, d.before a0 Z = true) (ws : List Jvm.Cond) (a1 : Addr) (w2 : Addr) (w4 : Addr) (h0 : Heap) (n0 : Nat) (Z0 : n0 ≤ h0.size) (F_category_a1 : Fld Z h0 a1 "com/example/dim2/dim2/catalog/DataType" "category" "Lcom/example/dim2/dim2/catalog/DataType$Category;" (.ref w2)) (S_NUMBER : Sta Z h0 "com/example/dim2/dim2/catalog/DataType$Category" "NUMBER" "Lcom/example/dim2/dim2/catalog/DataType$Category;" (.ref w4)) (ha7 : w2 = w4) :
    MetFree l (⟨"com/example/dim2/dim2/catalog/DataType", "isNumber", "()Z"⟩ : MethodName) (head1 (Jvm.Cond.code (⟨"com/example/dim2/dim2/catalog/DataType", "isNumber", "()Z"⟩ : MethodName) prog_13_method_7_code 1 (some .boolean) :: ws) ({ frames := 0, cells := 0, slots := 0, locals := 0 } : Room)) (fun a U => a = #[(.ref a1)] ∧ Z.Warmed39 U.vm ∧ U.heap = h0) (fun _ _ _ _ _ => True) (fun _ U o U' => ∃ v L, o = .returned v ∧ Q3 Z a1 w2 w4 h0 n0 v U'.heap L ∧ FrameEnd U o U' L ({ frames := 0, cells := 0, slots := 0, locals := 0 } : Room).cells ({ frames := 0, cells := 0, slots := 0, locals := 0 } : Room).slots) := by
  refine MetFree.of_bodySF (plainFor_of_name pn_3) hisR ?_
  intro p e s m args below meth c s₁ Bd hml0 hP hK
  obtain ⟨rfl, hZ, hh⟩ := hP
  have hx := Bd.exec
  have hby := Bd.bytes
  have hml : c.maxLocals = 1 := hml0
  have hown : s.vm.findClass "com/example/dim2/dim2/catalog/DataType" = some m.cls := findClass_of_methodNamed Bd.named
  have hnm := (name_of_methodNamed Bd.named Bd.method).1
  have X0 : Stand p l e ({ frames := 0, cells := 0, slots := 0, locals := 0 } : Room) s m #[(.ref a1)] below meth c s₁ [] 0 0 := Stand.of_body Bd
  have e0 : s₁.heap = h0 := by rw [← hh, Bd.state]; rfl
  have N0 := Fr.nil n0
  have pre0 : ∀ t, Steps p.tables e below (s₁.setTop (mkF m 0 #[.val (.ref a1)] [])) t → Steps p.tables e below (s₁.setTop (entryFrame m #[(.ref a1)] 1)) t := fun t k => castTop (ef_3 m a1) k
  obtain ⟨T3, X3, e3, st3⟩ := getF X0 hx hZ hown (host := "") (Or.inl (hw _ (List.mem_of_getElem? (i := 19) rfl))) Via.refl e0 F_category_a1 (g := (mkF m 1 #[.val (.ref a1)] [(.ref a1)])) rfl rfl (hb hby d3_1)
  obtain ⟨T5, X5, e5, st5⟩ := getS2 X3 hx hZ hown (host := "") (Or.inl (hw _ (List.mem_of_getElem? (i := 23) rfl))) Via.refl e3 S_NUMBER (g := (mkF m 4 #[.val (.ref a1)] [(.ref w2)])) rfl (hb hby d3_4)
  obtain ⟨fs, hr, hrun, hended, hW, hsame⟩ := X5.leave (v := some (.int (1 : Int32))) (fun h => by rw [Bd.returns] at h; cases h)
  refine ⟨_, _, pre0 _ ?_, hrun, hended, _, _, rfl, ?_, ⟨_, rfl⟩, hW, hsame.mono (by decide) (by decide)⟩
  · show Steps p.tables e below (s₁.setTop (mkF m 0 #[.val (.ref a1)] [])) _
    refine XS.aloadN X0.here hx rfl (hb hby d3_0) rfl rfl ?_
    show Steps p.tables e below (s₁.setTop (mkF m 1 #[.val (.ref a1)] [(.ref a1)])) _
    refine st3 _ ?_
    show Steps p.tables e below (T3.setTop (mkF m 4 #[.val (.ref a1)] [(.ref w2)])) _
    refine st5 _ ?_
    show Steps p.tables e below (T5.setTop (mkF m 7 #[.val (.ref a1)] [(.ref w4), (.ref w2)])) _
    refine Jvm.RoadKit.acmp (g := (mkF m 7 #[.val (.ref a1)] [(.ref w4), (.ref w2)])) X5 hx rfl rfl rfl (pc0 := 7) (pc' := 10) (same := true) rfl (hb hby d3_7) rfl (decide_eq_true (congrArg Value.ref ha7)) (by decide) (by decide) ?_
    show Steps p.tables e below (T5.setTop (mkF m 10 #[.val (.ref a1)] [])) _
    refine XS.iconst X5.here hx rfl (hb hby d3_10) ?_
    show Steps p.tables e below (T5.setTop (mkF m 11 #[.val (.ref a1)] [(.int (1 : Int32))])) _
    refine XS.goto X5.here hx rfl (pc0 := 11) (pc' := 15) rfl (hb hby d3_11) (by decide) (by decide) ?_
    show Steps p.tables e below (T5.setTop (mkF m 15 #[.val (.ref a1)] [(.int (1 : Int32))])) _
    exact retN X5 hx (t := .boolean) Bd.returns (by simp) (hb hby d3_15) hr
  · show Q3 Z a1 w2 w4 h0 n0 _ T5.heap _
    rw [e5]
    exact ⟨rfl, N0, rfl⟩
def own_Log (a w1 w2 w3 : Addr) (b : Int32) : Prop := (a = w1 ∧ b = 1) ∨ (¬ a = w1 ∧ a = w2 ∧ b = 1) ∨ (¬ a = w1 ∧ ¬ a = w2 ∧ a = w3 ∧ b = 1) ∨ (¬ a = w1 ∧ ¬ a = w2 ∧ ¬ a = w3 ∧ b = 0)
def Q_rm2 (Z : State) (a w1 w2 w3 : Addr) (b : Int32) (h0 : Heap) (n0 : Nat) (v : Option Value) (hp : Heap) (L : List Loc) : Prop := v = some (.int b) ∧ Fr n0 L ∧ hp = h0
set_option maxRecDepth 65536 in
set_option maxHeartbeats 40000000 in
theorem rm2 (l : Launch) (Z : State) (a0 : Array Value) (hw : ∀ d ∈ tables_1, d.before a0 Z = true) (ws : List Jvm.Cond) (a w1 w2 w3 : Addr) (b : Int32) (h0 : Heap) (n0 : Nat) (Z0 : n0 ≤ h0.size) (S1 : Sta Z h0 "com/example/dim2/dim2/catalog/DataType" "SMALLINT" "Lcom/example/dim2/dim2/catalog/DataType;" (.ref w1)) (S2 : Sta Z h0 "com/example/dim2/dim2/catalog/DataType" "INTEGER" "Lcom/example/dim2/dim2/catalog/DataType;" (.ref w2)) (S3 : Sta Z h0 "com/example/dim2/dim2/catalog/DataType" "BIGINT" "Lcom/example/dim2/dim2/catalog/DataType;" (.ref w3)) (LG : own_Log a w1 w2 w3 b) :
    MetFree l (⟨"com/example/dim2/dim2/catalog/DataType", "isWholeNumber", "()Z"⟩ : MethodName) (head1 (Jvm.Cond.code (⟨"com/example/dim2/dim2/catalog/DataType", "isWholeNumber", "()Z"⟩ : MethodName) prog_13_method_8_code 1 (some .boolean) :: ws) ({ frames := 0, cells := 0, slots := 0, locals := 0 } : Room)) (fun aa U => aa = #[.ref a] ∧ Z.Warmed39 U.vm ∧ U.heap = h0) (fun _ _ _ _ _ => True) (fun _ U o U' => ∃ v L, o = .returned v ∧ (Q_rm2 Z a w1 w2 w3 b h0 n0 v U'.heap L) ∧ FrameEnd U o U' L ({ frames := 0, cells := 0, slots := 0, locals := 0 } : Room).cells ({ frames := 0, cells := 0, slots := 0, locals := 0 } : Room).slots) := by
  rcases LG with ⟨h1, rfl⟩ | ⟨h1, h2, rfl⟩ | ⟨h1, h2, h3, rfl⟩ | ⟨h1, h2, h3, rfl⟩
  · exact rm2a l Z a0 hw ws a w1 h0 n0 Z0 S1 h1
  · exact rm2b l Z a0 hw ws a w1 w2 h0 n0 Z0 S1 S2 h1 h2
  · exact rm2c l Z a0 hw ws a w1 w2 w3 h0 n0 Z0 S1 S2 S3 h1 h2 h3
  · exact rm2d l Z a0 hw ws a w1 w2 w3 h0 n0 Z0 S1 S2 S3 h1 h2 h3
theorem pn_0 : plainName "com/example/dim2/dim2/catalog/DataTypeIsWholeNumberPinLaw" = true := by first | (simp [plainName, overriddenIn]; done) | decide +kernel
theorem pd_0_0 : parseMethodDescriptor "(I)Lcom/example/dim2/dim2/catalog/DataType;" = some ⟨[.int], some (.object "com/example/dim2/dim2/catalog/DataType")⟩ := by decide +kernel
theorem pd_0_1 : parseMethodDescriptor "()Z" = some ⟨[], some .boolean⟩ := by decide +kernel
theorem ef_0 (m : MethodId) (x0 : Int32) : entryFrame m #[(.int x0)] maxLocals = mkF m 0 #[.val (.int x0), .unset, .unset, .unset, .unset] [] := by first | (simp [entryFrame, mkF, argsToLocals, Value.category, maxLocals]; done) | rfl
def Q0a (Z : State) (p1 : Int32) (h0 : Heap) (n0 : Nat) (v : Option Value) (h : Heap) (L : List Loc) : Prop := v = some (.int (1 : Int32)) ∧ Fr n0 L
set_option maxRecDepth 65536 in
set_option maxHeartbeats 40000000 in
theorem rm0a (l : Launch) (Z : State) (a0 : Array Value) (hw : ∀ d ∈ tables_1, d.before a0 Z = true) (ws : List Jvm.Cond) (p1 k : Int32) (w w1 w2 w3 : Addr) (b : Int32) (h0 : Heap) (n0 : Nat) (Z0 : n0 ≤ h0.size) (hk : ((p1 &&& (2147483647 : Int32)) % (15 : Int32)) = k) (hb1 : ((k < (3 : Int32) ∧ b = 1) ∨ (¬ k < (3 : Int32) ∧ b = 0))) (PK : own_Pick Z h0 k w) (CK : String) (E_w : Exa Z h0 w CK) (sel : (Jvm.Cond.selects CK (⟨"com/example/dim2/dim2/catalog/DataType", "isWholeNumber", "()Z"⟩ : MethodName) (⟨"com/example/dim2/dim2/catalog/DataType", "isWholeNumber", "()Z"⟩ : MethodName)).before a0 Z = true) (S1 : Sta Z h0 "com/example/dim2/dim2/catalog/DataType" "SMALLINT" "Lcom/example/dim2/dim2/catalog/DataType;" (.ref w1)) (S2 : Sta Z h0 "com/example/dim2/dim2/catalog/DataType" "INTEGER" "Lcom/example/dim2/dim2/catalog/DataType;" (.ref w2)) (S3 : Sta Z h0 "com/example/dim2/dim2/catalog/DataType" "BIGINT" "Lcom/example/dim2/dim2/catalog/DataType;" (.ref w3)) (LG : own_Log w w1 w2 w3 b) (hb0 : b = 0) :
    MetFree l x (head1 (Jvm.Cond.code x code maxLocals ret :: ws) room_1) (fun a U => a = #[(.int p1)] ∧ Z.Warmed39 U.vm ∧ U.heap = h0) (fun _ _ _ _ _ => True) (fun _ U o U' => ∃ v L, o = .returned v ∧ Q0a Z p1 h0 n0 v U'.heap L ∧ FrameEnd U o U' L room_1.cells room_1.slots) := by
  refine MetFree.of_bodySF (plainFor_of_name pn_0) hisR ?_
  intro p e s m args below meth c s₁ Bd hml0 hP hK
  obtain ⟨rfl, hZ, hh⟩ := hP
  have hx := Bd.exec
  have hby := Bd.bytes
  have hml : c.maxLocals = 5 := hml0
  have hown : s.vm.findClass "com/example/dim2/dim2/catalog/DataTypeIsWholeNumberPinLaw" = some m.cls := findClass_of_methodNamed Bd.named
  have hnm := (name_of_methodNamed Bd.named Bd.method).1
  have X0 : Stand p l e room_1 s m #[(.int p1)] below meth c s₁ [] 0 0 := Stand.of_body Bd
  have e0 : s₁.heap = h0 := by rw [← hh, Bd.state]; rfl
  have N0 := Fr.nil n0
  have pre0 : ∀ t, Steps p.tables e below (s₁.setTop (mkF m 0 #[.val (.int p1), .unset, .unset, .unset, .unset] [])) t → Steps p.tables e below (s₁.setTop (entryFrame m #[(.int p1)] maxLocals)) t := fun t k => castTop (ef_0 m p1) k
  obtain ⟨_, _, ⟨T2, L2, k2, n2⟩, -, X2, ⟨Lc2, hQ2, l2, y2, z2⟩, st2⟩ := Jvm.LawKit.callS X0 hx (y := (⟨"com/example/dim2/dim2/catalog/DataTypeIsWholeNumberPinLaw", "pick", "(I)Lcom/example/dim2/dim2/catalog/DataType;"⟩ : MethodName)) hown (mvT hZ (hw _ (List.mem_of_getElem? (i := 1) rfl))) (mvT hZ (hw _ (List.mem_of_getElem? (i := 2) rfl))) (mvT hZ (hw _ (List.mem_of_getElem? (i := 3) rfl))) (mvT hZ (hw _ (List.mem_of_getElem? (i := 4) rfl))) (by decide) (backOf (W := 0) (rm1 l Z a0 hw [] k w h0 n0 Z0 PK) hZ (hw _ (List.mem_of_getElem? (i := 4) rfl)) (hw _ (List.mem_of_getElem? (i := 3) rfl)) (by decide) (by decide)) (g := (mkF m 9 #[.val (.int p1), .val (.int k), .unset, .unset, .unset] [(.int k)])) rfl (by rw [hml]; rfl) (argsL := [(.int k)]) (rest := []) (lenOf pd_0_0 rfl) rfl (by show 2 * 0 + _ ≤ _; exact Nat.le_of_eq rfl) (hb hby at_9) (fun _ _ => ⟨rfl, e0, (by decide : 0 + 0 ≤ _), (by decide : 0 + 0 ≤ _)⟩)
  dsimp only [Pt.U, Pt.locs, Pt.cells, Pt.slots] at X2 l2 y2 z2 st2 hQ2
  subst l2 y2 z2
  obtain ⟨rfl, N2q, eh2⟩ := hQ2
  have N2 := Fr.app N0 N2q
  obtain ⟨cq3, kq3, q3a, q3b, q3c⟩ := isOf hZ eh2 E_w
  obtain ⟨_, _, ⟨T3, L3, k3, n3⟩, -, X3, ⟨Lc3, hQ3, l3, y3, z3⟩, st3⟩ := X2.virtualBack hx (y := (⟨"com/example/dim2/dim2/catalog/DataType", "isWholeNumber", "()Z"⟩ : MethodName)) (z := (⟨"com/example/dim2/dim2/catalog/DataType", "isWholeNumber", "()Z"⟩ : MethodName)) hown (mvT hZ (hw _ (List.mem_of_getElem? (i := 8) rfl))) (mvT hZ (hw _ (List.mem_of_getElem? (i := 9) rfl))) (notFace_of_selects (args := #[]) (mvT hZ sel)) (mvT hZ sel) (mvT hZ (hw _ (List.mem_of_getElem? (i := 10) rfl))) (by decide) (backOf (W := 0) (rm2 l Z a0 hw [] w w1 w2 w3 b h0 n0 Z0 S1 S2 S3 LG) hZ (hw _ (List.mem_of_getElem? (i := 12) rfl)) (hw _ (List.mem_of_getElem? (i := 6) rfl)) (by decide) (by decide)) q3a q3c (g := (mkF m 25 #[.val (.int p1), .val (.int k), .val (.ref w), .val (.int b), .unset] [(.ref w)])) rfl (by rw [hml]; rfl) (Steps.refl _) (argsL := []) (rest := []) (lenOf pd_0_1 rfl) rfl (by show 2 * 0 + _ ≤ _; exact Nat.le_of_eq rfl) (hb hby at_25) (fun _ _ => ⟨rfl, eh2, (by decide : 0 + 0 ≤ _), (by decide : 0 + 0 ≤ _)⟩)
  dsimp only [Pt.U, Pt.locs, Pt.cells, Pt.slots] at X3 l3 y3 z3 st3 hQ3
  subst l3 y3 z3
  obtain ⟨rfl, N3q, eh3⟩ := hQ3
  have N3 := Fr.app N2 N3q
  have mid : ∀ target, Steps p.tables e below (T2.setTop (mkF m 24 #[.val (.int p1), .val (.int k), .val (.ref w), .val (.int b), .unset] [])) target → Steps p.tables e below (T2.setTop (mkF m 13 #[.val (.int p1), .val (.int k), .val (.ref w), .unset, .unset] [])) target := by
    intro target r
    have hA := X2.here
    refine XS.iloadN hA hx rfl (hb hby at_13) rfl ?_
    show Steps p.tables e below (T2.setTop (mkF m 14 #[.val (.int p1), .val (.int k), .val (.ref w), .unset, .unset] [.int k])) _
    refine XS.iconst hA hx rfl (hb hby at_14) ?_
    show Steps p.tables e below (T2.setTop (mkF m 15 #[.val (.int p1), .val (.int k), .val (.ref w), .unset, .unset] [.int (3 : Int32), .int k])) _
    rcases hb1 with ⟨h, rfl⟩ | ⟨h, rfl⟩
    · refine XS.icmpNo hA hx rfl (hb hby at_15) rfl (tlt h).2.1 ?_
      refine XS.iconst hA hx rfl (hb hby at_18) ?_
      show Steps p.tables e below (T2.setTop (mkF m 19 #[.val (.int p1), .val (.int k), .val (.ref w), .unset, .unset] [.int (1 : Int32)])) _
      refine XS.goto hA hx rfl (pc0 := 19) (pc' := 23) rfl (hb hby at_19) (by decide) (by decide) ?_
      exact XS.istoreN hA hx rfl (hb hby at_23) rfl (l' := #[.val (.int p1), .val (.int k), .val (.ref w), .val (.int (1 : Int32)), .unset]) rfl r
    · refine XS.icmpYes hA hx rfl (pc0 := 15) (pc' := 22) rfl (hb hby at_15) rfl (flt h).2.1 (by decide) (by decide) ?_
      refine XS.iconst hA hx rfl (hb hby at_22) ?_
      exact XS.istoreN hA hx rfl (hb hby at_23) rfl (l' := #[.val (.int p1), .val (.int k), .val (.ref w), .val (.int (0 : Int32)), .unset]) rfl r
  obtain ⟨fs, hr, hrun, hended, hW, hsame⟩ := X3.leave (v := some (.int (1 : Int32))) (fun h => by rw [Bd.returns] at h; cases h)
  refine ⟨_, _, pre0 _ ?_, hrun, hended, _, _, rfl, ?_, ⟨_, rfl⟩, hW, hsame.mono (by decide) (by decide)⟩
  · show Steps p.tables e below (s₁.setTop (mkF m 0 #[.val (.int p1), .unset, .unset, .unset, .unset] [])) _
    refine XS.iloadN X0.here hx rfl (hb hby at_0) rfl ?_
    show Steps p.tables e below (s₁.setTop (mkF m 1 #[.val (.int p1), .unset, .unset, .unset, .unset] [(.int p1)])) _
    refine X0.ldcInt hx hown (mvT hZ (hw _ (List.mem_of_getElem? (i := 0) rfl))) (g := (mkF m 1 #[.val (.int p1), .unset, .unset, .unset, .unset] [(.int p1)])) rfl (hb hby at_1) _ ?_
    show Steps p.tables e below (s₁.setTop (mkF m 3 #[.val (.int p1), .unset, .unset, .unset, .unset] [(.int (2147483647 : Int32)), (.int p1)])) _
    refine XS.iand X0.here hx rfl (hb hby at_3) rfl ?_
    show Steps p.tables e below (s₁.setTop (mkF m 4 #[.val (.int p1), .unset, .unset, .unset, .unset] [(.int (p1 &&& (2147483647 : Int32)))])) _
    refine XS.bipush X0.here hx rfl (hb hby at_4) ?_
    show Steps p.tables e below (s₁.setTop (mkF m 6 #[.val (.int p1), .unset, .unset, .unset, .unset] [(.int (15 : Int32)), (.int (p1 &&& (2147483647 : Int32)))])) _
    refine iremM X0 hx rfl (hb hby at_6) rfl (by decide) ?_
    rw [hk]
    show Steps p.tables e below (s₁.setTop (mkF m 7 #[.val (.int p1), .unset, .unset, .unset, .unset] [(.int k)])) _
    refine XS.istoreN X0.here hx rfl (hb hby at_7) rfl (l' := #[.val (.int p1), .val (.int k), .unset, .unset, .unset]) rfl ?_
    show Steps p.tables e below (s₁.setTop (mkF m 8 #[.val (.int p1), .val (.int k), .unset, .unset, .unset] [])) _
    refine XS.iloadN X0.here hx rfl (hb hby at_8) rfl ?_
    show Steps p.tables e below (s₁.setTop (mkF m 9 #[.val (.int p1), .val (.int k), .unset, .unset, .unset] [(.int k)])) _
    refine st2 _ ?_
    show Steps p.tables e below (T2.setTop (mkF m 12 #[.val (.int p1), .val (.int k), .unset, .unset, .unset] [(.ref w)])) _
    refine XS.astoreN X2.here hx rfl (hb hby at_12) rfl rfl (l' := #[.val (.int p1), .val (.int k), .val (.ref w), .unset, .unset]) rfl ?_
    show Steps p.tables e below (T2.setTop (mkF m 13 #[.val (.int p1), .val (.int k), .val (.ref w), .unset, .unset] [])) _
    refine mid _ ?_
    show Steps p.tables e below (T2.setTop (mkF m 24 #[.val (.int p1), .val (.int k), .val (.ref w), .val (.int b), .unset] [])) _
    refine XS.aloadN X2.here hx rfl (hb hby at_24) rfl rfl ?_
    show Steps p.tables e below (T2.setTop (mkF m 25 #[.val (.int p1), .val (.int k), .val (.ref w), .val (.int b), .unset] [(.ref w)])) _
    refine st3.trans ?_
    show Steps p.tables e below (T3.setTop (mkF m 28 #[.val (.int p1), .val (.int k), .val (.ref w), .val (.int b), .unset] [(.int b)])) _
    refine XS.istore X3.here hx rfl (hb hby at_28) rfl (l' := #[.val (.int p1), .val (.int k), .val (.ref w), .val (.int b), .val (.int b)]) rfl ?_
    show Steps p.tables e below (T3.setTop (mkF m 30 #[.val (.int p1), .val (.int k), .val (.ref w), .val (.int b), .val (.int b)] [])) _
    refine XS.iload X3.here hx rfl (hb hby at_30) rfl ?_
    show Steps p.tables e below (T3.setTop (mkF m 32 #[.val (.int p1), .val (.int k), .val (.ref w), .val (.int b), .val (.int b)] [(.int b)])) _
    refine XS.iloadN X3.here hx rfl (hb hby at_32) rfl ?_
    show Steps p.tables e below (T3.setTop (mkF m 33 #[.val (.int p1), .val (.int k), .val (.ref w), .val (.int b), .val (.int b)] [(.int b), (.int b)])) _
    refine XS.icmpNo X3.here hx rfl (hb hby at_33) rfl (teq (rfl : b = b)).2 ?_
    show Steps p.tables e below (T3.setTop (mkF m 36 #[.val (.int p1), .val (.int k), .val (.ref w), .val (.int b), .val (.int b)] [])) _
    refine XS.iload X3.here hx rfl (hb hby at_36) rfl ?_
    show Steps p.tables e below (T3.setTop (mkF m 38 #[.val (.int p1), .val (.int k), .val (.ref w), .val (.int b), .val (.int b)] [(.int b)])) _
    refine XS.ifYes X3.here hx rfl (pc0 := 38) (pc' := 48) rfl (hb hby at_38) rfl ((if0 _ _).trans (teq hb0).1) (by decide) (by decide) ?_
    show Steps p.tables e below (T3.setTop (mkF m 48 #[.val (.int p1), .val (.int k), .val (.ref w), .val (.int b), .val (.int b)] [])) _
    refine XS.iconst X3.here hx rfl (hb hby at_48) ?_
    show Steps p.tables e below (T3.setTop (mkF m 49 #[.val (.int p1), .val (.int k), .val (.ref w), .val (.int b), .val (.int b)] [(.int (1 : Int32))])) _
    refine XS.goto X3.here hx rfl (pc0 := 49) (pc' := 53) rfl (hb hby at_49) (by decide) (by decide) ?_
    show Steps p.tables e below (T3.setTop (mkF m 53 #[.val (.int p1), .val (.int k), .val (.ref w), .val (.int b), .val (.int b)] [(.int (1 : Int32))])) _
    exact retN X3 hx (t := .boolean) Bd.returns (by simp) (hb hby at_53) hr
  · show Q0a Z p1 h0 n0 _ T3.heap _
    exact ⟨rfl, N3⟩

def Q0b (Z : State) (p1 : Int32) (h0 : Heap) (n0 : Nat) (v : Option Value) (h : Heap) (L : List Loc) : Prop := v = some (.int (1 : Int32)) ∧ Fr n0 L
set_option maxRecDepth 65536 in
set_option maxHeartbeats 40000000 in
theorem rm0b (l : Launch) (Z : State) (a0 : Array Value) (hw : ∀ d ∈ tables_1, d.before a0 Z = true) (ws : List Jvm.Cond) (p1 k : Int32) (w w1 w2 w3 : Addr) (b : Int32) (h0 : Heap) (n0 : Nat) (Z0 : n0 ≤ h0.size) (hk : ((p1 &&& (2147483647 : Int32)) % (15 : Int32)) = k) (hb1 : ((k < (3 : Int32) ∧ b = 1) ∨ (¬ k < (3 : Int32) ∧ b = 0))) (PK : own_Pick Z h0 k w) (CK : String) (E_w : Exa Z h0 w CK) (sel : (Jvm.Cond.selects CK (⟨"com/example/dim2/dim2/catalog/DataType", "isWholeNumber", "()Z"⟩ : MethodName) (⟨"com/example/dim2/dim2/catalog/DataType", "isWholeNumber", "()Z"⟩ : MethodName)).before a0 Z = true) (S1 : Sta Z h0 "com/example/dim2/dim2/catalog/DataType" "SMALLINT" "Lcom/example/dim2/dim2/catalog/DataType;" (.ref w1)) (S2 : Sta Z h0 "com/example/dim2/dim2/catalog/DataType" "INTEGER" "Lcom/example/dim2/dim2/catalog/DataType;" (.ref w2)) (S3 : Sta Z h0 "com/example/dim2/dim2/catalog/DataType" "BIGINT" "Lcom/example/dim2/dim2/catalog/DataType;" (.ref w3)) (LG : own_Log w w1 w2 w3 b) (hb0 : ¬ b = 0) (selN : (Jvm.Cond.selects CK (⟨"com/example/dim2/dim2/catalog/DataType", "isNumber", "()Z"⟩ : MethodName) (⟨"com/example/dim2/dim2/catalog/DataType", "isNumber", "()Z"⟩ : MethodName)).before a0 Z = true) (g : Addr) (FC : Fld Z h0 w "com/example/dim2/dim2/catalog/DataType" "category" "Lcom/example/dim2/dim2/catalog/DataType$Category;" (.ref g)) (SC : Sta Z h0 "com/example/dim2/dim2/catalog/DataType$Category" "NUMBER" "Lcom/example/dim2/dim2/catalog/DataType$Category;" (.ref g)) :
    MetFree l x (head1 (Jvm.Cond.code x code maxLocals ret :: ws) room_1) (fun a U => a = #[(.int p1)] ∧ Z.Warmed39 U.vm ∧ U.heap = h0) (fun _ _ _ _ _ => True) (fun _ U o U' => ∃ v L, o = .returned v ∧ Q0b Z p1 h0 n0 v U'.heap L ∧ FrameEnd U o U' L room_1.cells room_1.slots) := by
  refine MetFree.of_bodySF (plainFor_of_name pn_0) hisR ?_
  intro p e s m args below meth c s₁ Bd hml0 hP hK
  obtain ⟨rfl, hZ, hh⟩ := hP
  have hx := Bd.exec
  have hby := Bd.bytes
  have hml : c.maxLocals = 5 := hml0
  have hown : s.vm.findClass "com/example/dim2/dim2/catalog/DataTypeIsWholeNumberPinLaw" = some m.cls := findClass_of_methodNamed Bd.named
  have hnm := (name_of_methodNamed Bd.named Bd.method).1
  have X0 : Stand p l e room_1 s m #[(.int p1)] below meth c s₁ [] 0 0 := Stand.of_body Bd
  have e0 : s₁.heap = h0 := by rw [← hh, Bd.state]; rfl
  have N0 := Fr.nil n0
  have pre0 : ∀ t, Steps p.tables e below (s₁.setTop (mkF m 0 #[.val (.int p1), .unset, .unset, .unset, .unset] [])) t → Steps p.tables e below (s₁.setTop (entryFrame m #[(.int p1)] maxLocals)) t := fun t k => castTop (ef_0 m p1) k
  obtain ⟨_, _, ⟨T2, L2, k2, n2⟩, -, X2, ⟨Lc2, hQ2, l2, y2, z2⟩, st2⟩ := Jvm.LawKit.callS X0 hx (y := (⟨"com/example/dim2/dim2/catalog/DataTypeIsWholeNumberPinLaw", "pick", "(I)Lcom/example/dim2/dim2/catalog/DataType;"⟩ : MethodName)) hown (mvT hZ (hw _ (List.mem_of_getElem? (i := 1) rfl))) (mvT hZ (hw _ (List.mem_of_getElem? (i := 2) rfl))) (mvT hZ (hw _ (List.mem_of_getElem? (i := 3) rfl))) (mvT hZ (hw _ (List.mem_of_getElem? (i := 4) rfl))) (by decide) (backOf (W := 0) (rm1 l Z a0 hw [] k w h0 n0 Z0 PK) hZ (hw _ (List.mem_of_getElem? (i := 4) rfl)) (hw _ (List.mem_of_getElem? (i := 3) rfl)) (by decide) (by decide)) (g := (mkF m 9 #[.val (.int p1), .val (.int k), .unset, .unset, .unset] [(.int k)])) rfl (by rw [hml]; rfl) (argsL := [(.int k)]) (rest := []) (lenOf pd_0_0 rfl) rfl (by show 2 * 0 + _ ≤ _; exact Nat.le_of_eq rfl) (hb hby at_9) (fun _ _ => ⟨rfl, e0, (by decide : 0 + 0 ≤ _), (by decide : 0 + 0 ≤ _)⟩)
  dsimp only [Pt.U, Pt.locs, Pt.cells, Pt.slots] at X2 l2 y2 z2 st2 hQ2
  subst l2 y2 z2
  obtain ⟨rfl, N2q, eh2⟩ := hQ2
  have N2 := Fr.app N0 N2q
  obtain ⟨cq3, kq3, q3a, q3b, q3c⟩ := isOf hZ eh2 E_w
  obtain ⟨_, _, ⟨T3, L3, k3, n3⟩, -, X3, ⟨Lc3, hQ3, l3, y3, z3⟩, st3⟩ := X2.virtualBack hx (y := (⟨"com/example/dim2/dim2/catalog/DataType", "isWholeNumber", "()Z"⟩ : MethodName)) (z := (⟨"com/example/dim2/dim2/catalog/DataType", "isWholeNumber", "()Z"⟩ : MethodName)) hown (mvT hZ (hw _ (List.mem_of_getElem? (i := 8) rfl))) (mvT hZ (hw _ (List.mem_of_getElem? (i := 9) rfl))) (notFace_of_selects (args := #[]) (mvT hZ sel)) (mvT hZ sel) (mvT hZ (hw _ (List.mem_of_getElem? (i := 10) rfl))) (by decide) (backOf (W := 0) (rm2 l Z a0 hw [] w w1 w2 w3 b h0 n0 Z0 S1 S2 S3 LG) hZ (hw _ (List.mem_of_getElem? (i := 12) rfl)) (hw _ (List.mem_of_getElem? (i := 6) rfl)) (by decide) (by decide)) q3a q3c (g := (mkF m 25 #[.val (.int p1), .val (.int k), .val (.ref w), .val (.int b), .unset] [(.ref w)])) rfl (by rw [hml]; rfl) (Steps.refl _) (argsL := []) (rest := []) (lenOf pd_0_1 rfl) rfl (by show 2 * 0 + _ ≤ _; exact Nat.le_of_eq rfl) (hb hby at_25) (fun _ _ => ⟨rfl, eh2, (by decide : 0 + 0 ≤ _), (by decide : 0 + 0 ≤ _)⟩)
  dsimp only [Pt.U, Pt.locs, Pt.cells, Pt.slots] at X3 l3 y3 z3 st3 hQ3
  subst l3 y3 z3
  obtain ⟨rfl, N3q, eh3⟩ := hQ3
  have N3 := Fr.app N2 N3q
  obtain ⟨cq4, kq4, q4a, q4b, q4c⟩ := isOf hZ eh3 E_w
  obtain ⟨_, _, ⟨T4, L4, k4, n4⟩, -, X4, ⟨Lc4, hQ4, l4, y4, z4⟩, st4⟩ := X3.virtualBack hx (y := (⟨"com/example/dim2/dim2/catalog/DataType", "isNumber", "()Z"⟩ : MethodName)) (z := (⟨"com/example/dim2/dim2/catalog/DataType", "isNumber", "()Z"⟩ : MethodName)) hown (mvT hZ (hw _ (List.mem_of_getElem? (i := 14) rfl))) (mvT hZ (hw _ (List.mem_of_getElem? (i := 15) rfl))) (notFace_of_selects (args := #[]) (mvT hZ selN)) (mvT hZ selN) (mvT hZ (hw _ (List.mem_of_getElem? (i := 16) rfl))) (by decide) (backOf (W := 0) (rm3 l Z a0 hw [] w g g h0 n0 Z0 FC SC rfl) hZ (hw _ (List.mem_of_getElem? (i := 18) rfl)) (hw _ (List.mem_of_getElem? (i := 6) rfl)) (by decide) (by decide)) q4a q4c (g := (mkF m 42 #[.val (.int p1), .val (.int k), .val (.ref w), .val (.int b), .val (.int b)] [(.ref w)])) rfl (by rw [hml]; rfl) (Steps.refl _) (argsL := []) (rest := []) (lenOf pd_0_1 rfl) rfl (by show 2 * 0 + _ ≤ _; exact Nat.le_of_eq rfl) (hb hby at_42) (fun _ _ => ⟨rfl, eh3, (by decide : 0 + 0 ≤ _), (by decide : 0 + 0 ≤ _)⟩)
  dsimp only [Pt.U, Pt.locs, Pt.cells, Pt.slots] at X4 l4 y4 z4 st4 hQ4
  subst l4 y4 z4
  obtain ⟨rfl, N4q, eh4⟩ := hQ4
  have N4 := Fr.app N3 N4q
  have mid : ∀ target, Steps p.tables e below (T2.setTop (mkF m 24 #[.val (.int p1), .val (.int k), .val (.ref w), .val (.int b), .unset] [])) target → Steps p.tables e below (T2.setTop (mkF m 13 #[.val (.int p1), .val (.int k), .val (.ref w), .unset, .unset] [])) target := by
    intro target r
    have hA := X2.here
    refine XS.iloadN hA hx rfl (hb hby at_13) rfl ?_
    show Steps p.tables e below (T2.setTop (mkF m 14 #[.val (.int p1), .val (.int k), .val (.ref w), .unset, .unset] [.int k])) _
    refine XS.iconst hA hx rfl (hb hby at_14) ?_
    show Steps p.tables e below (T2.setTop (mkF m 15 #[.val (.int p1), .val (.int k), .val (.ref w), .unset, .unset] [.int (3 : Int32), .int k])) _
    rcases hb1 with ⟨h, rfl⟩ | ⟨h, rfl⟩
    · refine XS.icmpNo hA hx rfl (hb hby at_15) rfl (tlt h).2.1 ?_
      refine XS.iconst hA hx rfl (hb hby at_18) ?_
      show Steps p.tables e below (T2.setTop (mkF m 19 #[.val (.int p1), .val (.int k), .val (.ref w), .unset, .unset] [.int (1 : Int32)])) _
      refine XS.goto hA hx rfl (pc0 := 19) (pc' := 23) rfl (hb hby at_19) (by decide) (by decide) ?_
      exact XS.istoreN hA hx rfl (hb hby at_23) rfl (l' := #[.val (.int p1), .val (.int k), .val (.ref w), .val (.int (1 : Int32)), .unset]) rfl r
    · refine XS.icmpYes hA hx rfl (pc0 := 15) (pc' := 22) rfl (hb hby at_15) rfl (flt h).2.1 (by decide) (by decide) ?_
      refine XS.iconst hA hx rfl (hb hby at_22) ?_
      exact XS.istoreN hA hx rfl (hb hby at_23) rfl (l' := #[.val (.int p1), .val (.int k), .val (.ref w), .val (.int (0 : Int32)), .unset]) rfl r
  obtain ⟨fs, hr, hrun, hended, hW, hsame⟩ := X4.leave (v := some (.int (1 : Int32))) (fun h => by rw [Bd.returns] at h; cases h)
  refine ⟨_, _, pre0 _ ?_, hrun, hended, _, _, rfl, ?_, ⟨_, rfl⟩, hW, hsame.mono (by decide) (by decide)⟩
  · show Steps p.tables e below (s₁.setTop (mkF m 0 #[.val (.int p1), .unset, .unset, .unset, .unset] [])) _
    refine XS.iloadN X0.here hx rfl (hb hby at_0) rfl ?_
    show Steps p.tables e below (s₁.setTop (mkF m 1 #[.val (.int p1), .unset, .unset, .unset, .unset] [(.int p1)])) _
    refine X0.ldcInt hx hown (mvT hZ (hw _ (List.mem_of_getElem? (i := 0) rfl))) (g := (mkF m 1 #[.val (.int p1), .unset, .unset, .unset, .unset] [(.int p1)])) rfl (hb hby at_1) _ ?_
    show Steps p.tables e below (s₁.setTop (mkF m 3 #[.val (.int p1), .unset, .unset, .unset, .unset] [(.int (2147483647 : Int32)), (.int p1)])) _
    refine XS.iand X0.here hx rfl (hb hby at_3) rfl ?_
    show Steps p.tables e below (s₁.setTop (mkF m 4 #[.val (.int p1), .unset, .unset, .unset, .unset] [(.int (p1 &&& (2147483647 : Int32)))])) _
    refine XS.bipush X0.here hx rfl (hb hby at_4) ?_
    show Steps p.tables e below (s₁.setTop (mkF m 6 #[.val (.int p1), .unset, .unset, .unset, .unset] [(.int (15 : Int32)), (.int (p1 &&& (2147483647 : Int32)))])) _
    refine iremM X0 hx rfl (hb hby at_6) rfl (by decide) ?_
    rw [hk]
    show Steps p.tables e below (s₁.setTop (mkF m 7 #[.val (.int p1), .unset, .unset, .unset, .unset] [(.int k)])) _
    refine XS.istoreN X0.here hx rfl (hb hby at_7) rfl (l' := #[.val (.int p1), .val (.int k), .unset, .unset, .unset]) rfl ?_
    show Steps p.tables e below (s₁.setTop (mkF m 8 #[.val (.int p1), .val (.int k), .unset, .unset, .unset] [])) _
    refine XS.iloadN X0.here hx rfl (hb hby at_8) rfl ?_
    show Steps p.tables e below (s₁.setTop (mkF m 9 #[.val (.int p1), .val (.int k), .unset, .unset, .unset] [(.int k)])) _
    refine st2 _ ?_
    show Steps p.tables e below (T2.setTop (mkF m 12 #[.val (.int p1), .val (.int k), .unset, .unset, .unset] [(.ref w)])) _
    refine XS.astoreN X2.here hx rfl (hb hby at_12) rfl rfl (l' := #[.val (.int p1), .val (.int k), .val (.ref w), .unset, .unset]) rfl ?_
    show Steps p.tables e below (T2.setTop (mkF m 13 #[.val (.int p1), .val (.int k), .val (.ref w), .unset, .unset] [])) _
    refine mid _ ?_
    show Steps p.tables e below (T2.setTop (mkF m 24 #[.val (.int p1), .val (.int k), .val (.ref w), .val (.int b), .unset] [])) _
    refine XS.aloadN X2.here hx rfl (hb hby at_24) rfl rfl ?_
    show Steps p.tables e below (T2.setTop (mkF m 25 #[.val (.int p1), .val (.int k), .val (.ref w), .val (.int b), .unset] [(.ref w)])) _
    refine st3.trans ?_
    show Steps p.tables e below (T3.setTop (mkF m 28 #[.val (.int p1), .val (.int k), .val (.ref w), .val (.int b), .unset] [(.int b)])) _
    refine XS.istore X3.here hx rfl (hb hby at_28) rfl (l' := #[.val (.int p1), .val (.int k), .val (.ref w), .val (.int b), .val (.int b)]) rfl ?_
    show Steps p.tables e below (T3.setTop (mkF m 30 #[.val (.int p1), .val (.int k), .val (.ref w), .val (.int b), .val (.int b)] [])) _
    refine XS.iload X3.here hx rfl (hb hby at_30) rfl ?_
    show Steps p.tables e below (T3.setTop (mkF m 32 #[.val (.int p1), .val (.int k), .val (.ref w), .val (.int b), .val (.int b)] [(.int b)])) _
    refine XS.iloadN X3.here hx rfl (hb hby at_32) rfl ?_
    show Steps p.tables e below (T3.setTop (mkF m 33 #[.val (.int p1), .val (.int k), .val (.ref w), .val (.int b), .val (.int b)] [(.int b), (.int b)])) _
    refine XS.icmpNo X3.here hx rfl (hb hby at_33) rfl (teq (rfl : b = b)).2 ?_
    show Steps p.tables e below (T3.setTop (mkF m 36 #[.val (.int p1), .val (.int k), .val (.ref w), .val (.int b), .val (.int b)] [])) _
    refine XS.iload X3.here hx rfl (hb hby at_36) rfl ?_
    show Steps p.tables e below (T3.setTop (mkF m 38 #[.val (.int p1), .val (.int k), .val (.ref w), .val (.int b), .val (.int b)] [(.int b)])) _
    refine XS.ifNo X3.here hx rfl (hb hby at_38) rfl ((if0 _ _).trans (feq hb0).1) ?_
    show Steps p.tables e below (T3.setTop (mkF m 41 #[.val (.int p1), .val (.int k), .val (.ref w), .val (.int b), .val (.int b)] [])) _
    refine XS.aloadN X3.here hx rfl (hb hby at_41) rfl rfl ?_
    show Steps p.tables e below (T3.setTop (mkF m 42 #[.val (.int p1), .val (.int k), .val (.ref w), .val (.int b), .val (.int b)] [(.ref w)])) _
    refine st4.trans ?_
    show Steps p.tables e below (T4.setTop (mkF m 45 #[.val (.int p1), .val (.int k), .val (.ref w), .val (.int b), .val (.int b)] [(.int (1 : Int32))])) _
    refine XS.ifNo X4.here hx rfl (hb hby at_45) rfl ((if0 _ _).trans (feq (by decide : ¬ ((1 : Int32) = (0 : Int32)))).1) ?_
    show Steps p.tables e below (T4.setTop (mkF m 48 #[.val (.int p1), .val (.int k), .val (.ref w), .val (.int b), .val (.int b)] [])) _
    refine XS.iconst X4.here hx rfl (hb hby at_48) ?_
    show Steps p.tables e below (T4.setTop (mkF m 49 #[.val (.int p1), .val (.int k), .val (.ref w), .val (.int b), .val (.int b)] [(.int (1 : Int32))])) _
    refine XS.goto X4.here hx rfl (pc0 := 49) (pc' := 53) rfl (hb hby at_49) (by decide) (by decide) ?_
    show Steps p.tables e below (T4.setTop (mkF m 53 #[.val (.int p1), .val (.int k), .val (.ref w), .val (.int b), .val (.int b)] [(.int (1 : Int32))])) _
    exact retN X4 hx (t := .boolean) Bd.returns (by simp) (hb hby at_53) hr
  · show Q0b Z p1 h0 n0 _ T4.heap _
    exact ⟨rfl, N4⟩

theorem own_k (x k : Int32) (hk : (x &&& (2147483647 : Int32)) % (15 : Int32) = k) : k = (0 : Int32) ∨ k = (1 : Int32) ∨ k = (2 : Int32) ∨ k = (3 : Int32) ∨ k = (4 : Int32) ∨ k = (5 : Int32) ∨ k = (6 : Int32) ∨ k = (7 : Int32) ∨ k = (8 : Int32) ∨ k = (9 : Int32) ∨ k = (10 : Int32) ∨ k = (11 : Int32) ∨ k = (12 : Int32) ∨ k = (13 : Int32) ∨ k = (14 : Int32) := by
  have h1 := (c_and x (2147483647 : Int32) (by decide)).1
  have h2 := (c_iremV (x &&& (2147483647 : Int32)) (15 : Int32)).1 h1 (by decide)
  rw [hk, show ((15 : Int32)).toInt = 15 from by decide] at h2
  have h3 : k.toInt = 0 ∨ k.toInt = 1 ∨ k.toInt = 2 ∨ k.toInt = 3 ∨ k.toInt = 4 ∨ k.toInt = 5 ∨ k.toInt = 6 ∨ k.toInt = 7 ∨ k.toInt = 8 ∨ k.toInt = 9 ∨ k.toInt = 10 ∨ k.toInt = 11 ∨ k.toInt = 12 ∨ k.toInt = 13 ∨ k.toInt = 14 := by omega
  rcases h3 with h | h | h | h | h | h | h | h | h | h | h | h | h | h | h
  · exact Or.inl (Int32.toInt_inj.mp (h.trans (by decide : (0 : Int) = (0 : Int32).toInt)))
  · exact Or.inr (Or.inl (Int32.toInt_inj.mp (h.trans (by decide : (1 : Int) = (1 : Int32).toInt))))
  · exact Or.inr (Or.inr (Or.inl (Int32.toInt_inj.mp (h.trans (by decide : (2 : Int) = (2 : Int32).toInt)))))
  · exact Or.inr (Or.inr (Or.inr (Or.inl (Int32.toInt_inj.mp (h.trans (by decide : (3 : Int) = (3 : Int32).toInt))))))
  · exact Or.inr (Or.inr (Or.inr (Or.inr (Or.inl (Int32.toInt_inj.mp (h.trans (by decide : (4 : Int) = (4 : Int32).toInt)))))))
  · exact Or.inr (Or.inr (Or.inr (Or.inr (Or.inr (Or.inl (Int32.toInt_inj.mp (h.trans (by decide : (5 : Int) = (5 : Int32).toInt))))))))
  · exact Or.inr (Or.inr (Or.inr (Or.inr (Or.inr (Or.inr (Or.inl (Int32.toInt_inj.mp (h.trans (by decide : (6 : Int) = (6 : Int32).toInt)))))))))
  · exact Or.inr (Or.inr (Or.inr (Or.inr (Or.inr (Or.inr (Or.inr (Or.inl (Int32.toInt_inj.mp (h.trans (by decide : (7 : Int) = (7 : Int32).toInt))))))))))
  · exact Or.inr (Or.inr (Or.inr (Or.inr (Or.inr (Or.inr (Or.inr (Or.inr (Or.inl (Int32.toInt_inj.mp (h.trans (by decide : (8 : Int) = (8 : Int32).toInt)))))))))))
  · exact Or.inr (Or.inr (Or.inr (Or.inr (Or.inr (Or.inr (Or.inr (Or.inr (Or.inr (Or.inl (Int32.toInt_inj.mp (h.trans (by decide : (9 : Int) = (9 : Int32).toInt))))))))))))
  · exact Or.inr (Or.inr (Or.inr (Or.inr (Or.inr (Or.inr (Or.inr (Or.inr (Or.inr (Or.inr (Or.inl (Int32.toInt_inj.mp (h.trans (by decide : (10 : Int) = (10 : Int32).toInt)))))))))))))
  · exact Or.inr (Or.inr (Or.inr (Or.inr (Or.inr (Or.inr (Or.inr (Or.inr (Or.inr (Or.inr (Or.inr (Or.inl (Int32.toInt_inj.mp (h.trans (by decide : (11 : Int) = (11 : Int32).toInt))))))))))))))
  · exact Or.inr (Or.inr (Or.inr (Or.inr (Or.inr (Or.inr (Or.inr (Or.inr (Or.inr (Or.inr (Or.inr (Or.inr (Or.inl (Int32.toInt_inj.mp (h.trans (by decide : (12 : Int) = (12 : Int32).toInt)))))))))))))))
  · exact Or.inr (Or.inr (Or.inr (Or.inr (Or.inr (Or.inr (Or.inr (Or.inr (Or.inr (Or.inr (Or.inr (Or.inr (Or.inr (Or.inl (Int32.toInt_inj.mp (h.trans (by decide : (13 : Int) = (13 : Int32).toInt))))))))))))))))
  · exact Or.inr (Or.inr (Or.inr (Or.inr (Or.inr (Or.inr (Or.inr (Or.inr (Or.inr (Or.inr (Or.inr (Or.inr (Or.inr (Or.inr ((Int32.toInt_inj.mp (h.trans (by decide : (14 : Int) = (14 : Int32).toInt)))))))))))))))))
theorem own_ref {args : Array Value} {s : State} {t u : Term} {w x : Addr} {C n d : String} (ev : t.eval args s none [] s = some (.ref w)) (eu : u.eval args s none [] s = some (.ref x)) (h : (Jvm.Cond.eq (.field t C n d) u).value args s none s [] = some true) : s.fieldOf? w C n d = some (.ref x) := by
  have e := fld_at (C := C) (n := n) (dd := d) ev
  cases hq : s.fieldOf? w C n d with
  | none => rw [hq] at e; simp [Cond.value, e] at h
  | some v => rw [hq] at e; cases v <;> simp_all [Cond.value]
set_option maxRecDepth 65536 in
set_option maxHeartbeats 40000000 in
theorem comes_1 {Post : Tables → Env → Array Value → State → Outcome → State → Prop} (hpost : ∀ tb e args s v u, (limb_1_1.after args s (.returned v) u = true ∧ limb_1_2.after args s (.returned v) u = true ∧ True) → FrameEnd s (.returned v) u (Jvm.fieldLocs frame_1_writes args s ++ Jvm.arrayLocs frame_1_arrays args s ++ Jvm.staticLocs frame_1_statics s) 0 0 → Post tb e args s (.returned v) u) :
    ArmFor flags0 classFile x code maxLocals ret World_1 tables_1 room_1 Calls_1 rest_1 Pre_1 Post := by
  intro l hfl _ _ p e ha hc hk0 s m args below hf hA hF happ hP
  obtain ⟨hcalls, hrest, hpre⟩ := hP
  obtain ⟨-, -, -, hnamed, -, -, -, hat⟩ := (Spec.applies_iff hf).mp happ
  obtain ⟨hg, hn⟩ := and_e (Cond.before_iff.mp (show (Jvm.Cond.and given_1 narrow_1).before args s = true from hpre))
  obtain ⟨g4, g5⟩ := and_e hg
  obtain ⟨w0, rfl⟩ : ∃ w0 : Value, args = #[w0] := by
    have hs : args.size = 1 := by simpa [Cond.value, given_1] using g4
    obtain ⟨L⟩ := args
    match L, hs with
    | [w0], _ => exact ⟨w0, rfl⟩
  have hw := fun d (hd : d ∈ tables_1) => atoms_spec (ws := Jvm.Cond.code x code maxLocals ret :: tables_1) hat d (List.mem_cons_of_mem _ hd)
  have hfit : Fit s := fun {y c} hc i hi => by
    obtain ⟨ha, rfl⟩ := Array.getElem?_eq_some_iff.mp hc
    have q := List.all_eq_true.mp ((Array.all_eq_true_iff_forall_mem.mp hF) _ (Array.getElem_mem ha)) i (List.mem_range.mpr hi)
    simpa [Array.getElem?_eq_getElem hi] using q
  obtain ⟨i0, ei0⟩ := is_v g5
  obtain rfl : w0 = (.int i0) := Option.some.inj ei0
  obtain ⟨c0, hn⟩ := and_e hn
  obtain ⟨w_SMALLINT, v_SMALLINT⟩ := exa_v c0
  have E_SMALLINT := Exa.start v_SMALLINT c0
  have S_SMALLINT := Sta.start v_SMALLINT (Or.inr ⟨(hw _ (List.mem_of_getElem? (i := 6) rfl)), (hw _ (List.mem_of_getElem? (i := 7) rfl))⟩)
  obtain ⟨c1, hn⟩ := and_e hn
  obtain ⟨w_GNUMBER, v_GNUMBER⟩ := exa_v c1
  have E_GNUMBER := Exa.start v_GNUMBER c1
  have S_GNUMBER := Sta.start v_GNUMBER (Or.inr ⟨(hw _ (List.mem_of_getElem? (i := 21) rfl)), (hw _ (List.mem_of_getElem? (i := 22) rfl))⟩)
  obtain ⟨c2, hn⟩ := and_e hn
  have O_SMALLINT := own_ref v_SMALLINT v_GNUMBER c2
  obtain ⟨c3, hn⟩ := and_e hn
  obtain ⟨w_NUMERIC, v_NUMERIC⟩ := exa_v c3
  have E_NUMERIC := Exa.start v_NUMERIC c3
  have S_NUMERIC := Sta.start v_NUMERIC (Or.inr ⟨(hw _ (List.mem_of_getElem? (i := 6) rfl)), (hw _ (List.mem_of_getElem? (i := 25) rfl))⟩)
  obtain ⟨c4, hn⟩ := and_e hn
  obtain ⟨w_INTEGER, v_INTEGER⟩ := exa_v c4
  have E_INTEGER := Exa.start v_INTEGER c4
  have S_INTEGER := Sta.start v_INTEGER (Or.inr ⟨(hw _ (List.mem_of_getElem? (i := 6) rfl)), (hw _ (List.mem_of_getElem? (i := 28) rfl))⟩)
  obtain ⟨c5, hn⟩ := and_e hn
  obtain ⟨w_BIGINT, v_BIGINT⟩ := exa_v c5
  have E_BIGINT := Exa.start v_BIGINT c5
  have S_BIGINT := Sta.start v_BIGINT (Or.inr ⟨(hw _ (List.mem_of_getElem? (i := 6) rfl)), (hw _ (List.mem_of_getElem? (i := 30) rfl))⟩)
  obtain ⟨c6, hn⟩ := and_e hn
  obtain ⟨w_DOUBLE_PRECISION, v_DOUBLE_PRECISION⟩ := exa_v c6
  have E_DOUBLE_PRECISION := Exa.start v_DOUBLE_PRECISION c6
  have S_DOUBLE_PRECISION := Sta.start v_DOUBLE_PRECISION (Or.inr ⟨(hw _ (List.mem_of_getElem? (i := 6) rfl)), (hw _ (List.mem_of_getElem? (i := 32) rfl))⟩)
  obtain ⟨c7, hn⟩ := and_e hn
  obtain ⟨w_TIMESTAMPTZ, v_TIMESTAMPTZ⟩ := exa_v c7
  have E_TIMESTAMPTZ := Exa.start v_TIMESTAMPTZ c7
  have S_TIMESTAMPTZ := Sta.start v_TIMESTAMPTZ (Or.inr ⟨(hw _ (List.mem_of_getElem? (i := 6) rfl)), (hw _ (List.mem_of_getElem? (i := 35) rfl))⟩)
  obtain ⟨c8, hn⟩ := and_e hn
  obtain ⟨w_TEXT, v_TEXT⟩ := exa_v c8
  have E_TEXT := Exa.start v_TEXT c8
  have S_TEXT := Sta.start v_TEXT (Or.inr ⟨(hw _ (List.mem_of_getElem? (i := 6) rfl)), (hw _ (List.mem_of_getElem? (i := 38) rfl))⟩)
  obtain ⟨c9, hn⟩ := and_e hn
  obtain ⟨w_UNKNOWN, v_UNKNOWN⟩ := exa_v c9
  have E_UNKNOWN := Exa.start v_UNKNOWN c9
  have S_UNKNOWN := Sta.start v_UNKNOWN (Or.inr ⟨(hw _ (List.mem_of_getElem? (i := 6) rfl)), (hw _ (List.mem_of_getElem? (i := 41) rfl))⟩)
  obtain ⟨c10, hn⟩ := and_e hn
  obtain ⟨w_CHARACTER_VARYING, v_CHARACTER_VARYING⟩ := exa_v c10
  have E_CHARACTER_VARYING := Exa.start v_CHARACTER_VARYING c10
  have S_CHARACTER_VARYING := Sta.start v_CHARACTER_VARYING (Or.inr ⟨(hw _ (List.mem_of_getElem? (i := 6) rfl)), (hw _ (List.mem_of_getElem? (i := 44) rfl))⟩)
  obtain ⟨c11, hn⟩ := and_e hn
  have O_BIGINT := own_ref v_BIGINT v_GNUMBER c11
  obtain ⟨c12, hn⟩ := and_e hn
  obtain ⟨w_TIME, v_TIME⟩ := exa_v c12
  have E_TIME := Exa.start v_TIME c12
  have S_TIME := Sta.start v_TIME (Or.inr ⟨(hw _ (List.mem_of_getElem? (i := 6) rfl)), (hw _ (List.mem_of_getElem? (i := 51) rfl))⟩)
  obtain ⟨c13, hn⟩ := and_e hn
  obtain ⟨w_DATE, v_DATE⟩ := exa_v c13
  have E_DATE := Exa.start v_DATE c13
  have S_DATE := Sta.start v_DATE (Or.inr ⟨(hw _ (List.mem_of_getElem? (i := 6) rfl)), (hw _ (List.mem_of_getElem? (i := 54) rfl))⟩)
  obtain ⟨c14, hn⟩ := and_e hn
  obtain ⟨w_CHARACTER, v_CHARACTER⟩ := exa_v c14
  have E_CHARACTER := Exa.start v_CHARACTER c14
  have S_CHARACTER := Sta.start v_CHARACTER (Or.inr ⟨(hw _ (List.mem_of_getElem? (i := 6) rfl)), (hw _ (List.mem_of_getElem? (i := 57) rfl))⟩)
  obtain ⟨c15, hn⟩ := and_e hn
  have O_INTEGER := own_ref v_INTEGER v_GNUMBER c15
  obtain ⟨c16, hn⟩ := and_e hn
  obtain ⟨w_TIMESTAMP, v_TIMESTAMP⟩ := exa_v c16
  have E_TIMESTAMP := Exa.start v_TIMESTAMP c16
  have S_TIMESTAMP := Sta.start v_TIMESTAMP (Or.inr ⟨(hw _ (List.mem_of_getElem? (i := 6) rfl)), (hw _ (List.mem_of_getElem? (i := 64) rfl))⟩)
  obtain ⟨c17, hn⟩ := and_e hn
  obtain ⟨w_REAL, v_REAL⟩ := exa_v c17
  have E_REAL := Exa.start v_REAL c17
  have S_REAL := Sta.start v_REAL (Or.inr ⟨(hw _ (List.mem_of_getElem? (i := 6) rfl)), (hw _ (List.mem_of_getElem? (i := 67) rfl))⟩)
  obtain ⟨c18, hn⟩ := and_e hn
  obtain ⟨w_BOOLEAN, v_BOOLEAN⟩ := exa_v c18
  have E_BOOLEAN := Exa.start v_BOOLEAN c18
  have S_BOOLEAN := Sta.start v_BOOLEAN (Or.inr ⟨(hw _ (List.mem_of_getElem? (i := 6) rfl)), (hw _ (List.mem_of_getElem? (i := 70) rfl))⟩)
  obtain ⟨c19, hn⟩ := and_e hn
  have O_NUMERIC := own_ref v_NUMERIC v_GNUMBER c19
  obtain ⟨c20, hn⟩ := and_e hn
  have O_DOUBLE_PRECISION := own_ref v_DOUBLE_PRECISION v_GNUMBER c20
  obtain ⟨c21, hn⟩ := and_e hn
  obtain ⟨w_GDATE_TIME, v_GDATE_TIME⟩ := exa_v c21
  have E_GDATE_TIME := Exa.start v_GDATE_TIME c21
  have S_GDATE_TIME := Sta.start v_GDATE_TIME (Or.inr ⟨(hw _ (List.mem_of_getElem? (i := 21) rfl)), (hw _ (List.mem_of_getElem? (i := 72) rfl))⟩)
  obtain ⟨c22, hn⟩ := and_e hn
  have O_TIMESTAMPTZ := own_ref v_TIMESTAMPTZ v_GDATE_TIME c22
  obtain ⟨c23, hn⟩ := and_e hn
  obtain ⟨w_GSTRING, v_GSTRING⟩ := exa_v c23
  have E_GSTRING := Exa.start v_GSTRING c23
  have S_GSTRING := Sta.start v_GSTRING (Or.inr ⟨(hw _ (List.mem_of_getElem? (i := 21) rfl)), (hw _ (List.mem_of_getElem? (i := 73) rfl))⟩)
  obtain ⟨c24, hn⟩ := and_e hn
  have O_TEXT := own_ref v_TEXT v_GSTRING c24
  obtain ⟨c25, hn⟩ := and_e hn
  obtain ⟨w_GUNKNOWN, v_GUNKNOWN⟩ := exa_v c25
  have E_GUNKNOWN := Exa.start v_GUNKNOWN c25
  have S_GUNKNOWN := Sta.start v_GUNKNOWN (Or.inr ⟨(hw _ (List.mem_of_getElem? (i := 21) rfl)), (hw _ (List.mem_of_getElem? (i := 74) rfl))⟩)
  obtain ⟨c26, hn⟩ := and_e hn
  have O_UNKNOWN := own_ref v_UNKNOWN v_GUNKNOWN c26
  obtain ⟨c27, hn⟩ := and_e hn
  have O_CHARACTER_VARYING := own_ref v_CHARACTER_VARYING v_GSTRING c27
  obtain ⟨c28, hn⟩ := and_e hn
  have O_TIME := own_ref v_TIME v_GDATE_TIME c28
  obtain ⟨c29, hn⟩ := and_e hn
  have O_DATE := own_ref v_DATE v_GDATE_TIME c29
  obtain ⟨c30, hn⟩ := and_e hn
  have O_CHARACTER := own_ref v_CHARACTER v_GSTRING c30
  obtain ⟨c31, hn⟩ := and_e hn
  have O_TIMESTAMP := own_ref v_TIMESTAMP v_GDATE_TIME c31
  obtain ⟨c32, hn⟩ := and_e hn
  have O_REAL := own_ref v_REAL v_GNUMBER c32
  obtain ⟨c33, hn⟩ := and_e hn
  obtain ⟨w_GBOOLEAN, v_GBOOLEAN⟩ := exa_v c33
  have E_GBOOLEAN := Exa.start v_GBOOLEAN c33
  have S_GBOOLEAN := Sta.start v_GBOOLEAN (Or.inr ⟨(hw _ (List.mem_of_getElem? (i := 21) rfl)), (hw _ (List.mem_of_getElem? (i := 75) rfl))⟩)
  have O_BOOLEAN := own_ref v_BOOLEAN v_GBOOLEAN hn
  obtain ⟨k, hk⟩ : ∃ k, ((i0 &&& (2147483647 : Int32)) % (15 : Int32)) = k := ⟨_, rfl⟩
  obtain ⟨w, b, CK, hb1, PK, E_w, sel, LG, RD⟩ : ∃ (w : Addr) (b : Int32) (CK : String), ((k < (3 : Int32) ∧ b = 1) ∨ (¬ k < (3 : Int32) ∧ b = 0)) ∧ own_Pick s s.heap k w ∧ Exa s s.heap w CK ∧ (Jvm.Cond.selects CK (⟨"com/example/dim2/dim2/catalog/DataType", "isWholeNumber", "()Z"⟩ : MethodName) (⟨"com/example/dim2/dim2/catalog/DataType", "isWholeNumber", "()Z"⟩ : MethodName)).before #[.int i0] s = true ∧ own_Log w w_SMALLINT w_INTEGER w_BIGINT b ∧ (b = 0 ∨ (¬ b = 0 ∧ (Jvm.Cond.selects CK (⟨"com/example/dim2/dim2/catalog/DataType", "isNumber", "()Z"⟩ : MethodName) (⟨"com/example/dim2/dim2/catalog/DataType", "isNumber", "()Z"⟩ : MethodName)).before #[.int i0] s = true ∧ Fld s s.heap w "com/example/dim2/dim2/catalog/DataType" "category" "Lcom/example/dim2/dim2/catalog/DataType$Category;" (.ref w_GNUMBER))) := by
    rcases own_k i0 k hk with rfl | rfl | rfl | rfl | rfl | rfl | rfl | rfl | rfl | rfl | rfl | rfl | rfl | rfl | rfl
    · exact ⟨w_SMALLINT, 1, "com/example/dim2/dim2/catalog/DataType$1", Or.inl ⟨by decide, rfl⟩, Or.inl ⟨rfl, S_SMALLINT⟩, E_SMALLINT, (hw _ (List.mem_of_getElem? (i := 11) rfl)), Or.inl ⟨rfl, rfl⟩, Or.inr ⟨by decide, (hw _ (List.mem_of_getElem? (i := 17) rfl)), Fld.start O_SMALLINT⟩⟩
    · exact ⟨w_INTEGER, 1, "com/example/dim2/dim2/catalog/DataType$2", Or.inl ⟨by decide, rfl⟩, Or.inr (Or.inl ⟨rfl, S_INTEGER⟩), E_INTEGER, (hw _ (List.mem_of_getElem? (i := 60) rfl)), Or.inr (Or.inl ⟨(ne_exa E_INTEGER E_SMALLINT (by decide)), rfl, rfl⟩), Or.inr ⟨by decide, (hw _ (List.mem_of_getElem? (i := 61) rfl)), Fld.start O_INTEGER⟩⟩
    · exact ⟨w_BIGINT, 1, "com/example/dim2/dim2/catalog/DataType$3", Or.inl ⟨by decide, rfl⟩, Or.inr (Or.inr (Or.inl ⟨rfl, S_BIGINT⟩)), E_BIGINT, (hw _ (List.mem_of_getElem? (i := 47) rfl)), Or.inr (Or.inr (Or.inl ⟨(ne_exa E_BIGINT E_SMALLINT (by decide)), (ne_exa E_BIGINT E_INTEGER (by decide)), rfl, rfl⟩)), Or.inr ⟨by decide, (hw _ (List.mem_of_getElem? (i := 48) rfl)), Fld.start O_BIGINT⟩⟩
    · exact ⟨w_NUMERIC, 0, "com/example/dim2/dim2/catalog/DataType$4", Or.inr ⟨by decide, rfl⟩, Or.inr (Or.inr (Or.inr (Or.inl ⟨rfl, S_NUMERIC⟩))), E_NUMERIC, (hw _ (List.mem_of_getElem? (i := 26) rfl)), Or.inr (Or.inr (Or.inr ⟨(ne_exa E_NUMERIC E_SMALLINT (by decide)), (ne_exa E_NUMERIC E_INTEGER (by decide)), (ne_exa E_NUMERIC E_BIGINT (by decide)), rfl⟩)), Or.inl rfl⟩
    · exact ⟨w_REAL, 0, "com/example/dim2/dim2/catalog/DataType$5", Or.inr ⟨by decide, rfl⟩, Or.inr (Or.inr (Or.inr (Or.inr (Or.inl ⟨rfl, S_REAL⟩)))), E_REAL, (hw _ (List.mem_of_getElem? (i := 68) rfl)), Or.inr (Or.inr (Or.inr ⟨(ne_exa E_REAL E_SMALLINT (by decide)), (ne_exa E_REAL E_INTEGER (by decide)), (ne_exa E_REAL E_BIGINT (by decide)), rfl⟩)), Or.inl rfl⟩
    · exact ⟨w_DOUBLE_PRECISION, 0, "com/example/dim2/dim2/catalog/DataType$6", Or.inr ⟨by decide, rfl⟩, Or.inr (Or.inr (Or.inr (Or.inr (Or.inr (Or.inl ⟨rfl, S_DOUBLE_PRECISION⟩))))), E_DOUBLE_PRECISION, (hw _ (List.mem_of_getElem? (i := 33) rfl)), Or.inr (Or.inr (Or.inr ⟨(ne_exa E_DOUBLE_PRECISION E_SMALLINT (by decide)), (ne_exa E_DOUBLE_PRECISION E_INTEGER (by decide)), (ne_exa E_DOUBLE_PRECISION E_BIGINT (by decide)), rfl⟩)), Or.inl rfl⟩
    · exact ⟨w_TEXT, 0, "com/example/dim2/dim2/catalog/DataType$7", Or.inr ⟨by decide, rfl⟩, Or.inr (Or.inr (Or.inr (Or.inr (Or.inr (Or.inr (Or.inl ⟨rfl, S_TEXT⟩)))))), E_TEXT, (hw _ (List.mem_of_getElem? (i := 39) rfl)), Or.inr (Or.inr (Or.inr ⟨(ne_exa E_TEXT E_SMALLINT (by decide)), (ne_exa E_TEXT E_INTEGER (by decide)), (ne_exa E_TEXT E_BIGINT (by decide)), rfl⟩)), Or.inl rfl⟩
    · exact ⟨w_CHARACTER_VARYING, 0, "com/example/dim2/dim2/catalog/DataType$8", Or.inr ⟨by decide, rfl⟩, Or.inr (Or.inr (Or.inr (Or.inr (Or.inr (Or.inr (Or.inr (Or.inl ⟨rfl, S_CHARACTER_VARYING⟩))))))), E_CHARACTER_VARYING, (hw _ (List.mem_of_getElem? (i := 45) rfl)), Or.inr (Or.inr (Or.inr ⟨(ne_exa E_CHARACTER_VARYING E_SMALLINT (by decide)), (ne_exa E_CHARACTER_VARYING E_INTEGER (by decide)), (ne_exa E_CHARACTER_VARYING E_BIGINT (by decide)), rfl⟩)), Or.inl rfl⟩
    · exact ⟨w_CHARACTER, 0, "com/example/dim2/dim2/catalog/DataType$9", Or.inr ⟨by decide, rfl⟩, Or.inr (Or.inr (Or.inr (Or.inr (Or.inr (Or.inr (Or.inr (Or.inr (Or.inl ⟨rfl, S_CHARACTER⟩)))))))), E_CHARACTER, (hw _ (List.mem_of_getElem? (i := 58) rfl)), Or.inr (Or.inr (Or.inr ⟨(ne_exa E_CHARACTER E_SMALLINT (by decide)), (ne_exa E_CHARACTER E_INTEGER (by decide)), (ne_exa E_CHARACTER E_BIGINT (by decide)), rfl⟩)), Or.inl rfl⟩
    · exact ⟨w_BOOLEAN, 0, "com/example/dim2/dim2/catalog/DataType$10", Or.inr ⟨by decide, rfl⟩, Or.inr (Or.inr (Or.inr (Or.inr (Or.inr (Or.inr (Or.inr (Or.inr (Or.inr (Or.inl ⟨rfl, S_BOOLEAN⟩))))))))), E_BOOLEAN, (hw _ (List.mem_of_getElem? (i := 71) rfl)), Or.inr (Or.inr (Or.inr ⟨(ne_exa E_BOOLEAN E_SMALLINT (by decide)), (ne_exa E_BOOLEAN E_INTEGER (by decide)), (ne_exa E_BOOLEAN E_BIGINT (by decide)), rfl⟩)), Or.inl rfl⟩
    · exact ⟨w_DATE, 0, "com/example/dim2/dim2/catalog/DataType$11", Or.inr ⟨by decide, rfl⟩, Or.inr (Or.inr (Or.inr (Or.inr (Or.inr (Or.inr (Or.inr (Or.inr (Or.inr (Or.inr (Or.inl ⟨rfl, S_DATE⟩)))))))))), E_DATE, (hw _ (List.mem_of_getElem? (i := 55) rfl)), Or.inr (Or.inr (Or.inr ⟨(ne_exa E_DATE E_SMALLINT (by decide)), (ne_exa E_DATE E_INTEGER (by decide)), (ne_exa E_DATE E_BIGINT (by decide)), rfl⟩)), Or.inl rfl⟩
    · exact ⟨w_TIME, 0, "com/example/dim2/dim2/catalog/DataType$12", Or.inr ⟨by decide, rfl⟩, Or.inr (Or.inr (Or.inr (Or.inr (Or.inr (Or.inr (Or.inr (Or.inr (Or.inr (Or.inr (Or.inr (Or.inl ⟨rfl, S_TIME⟩))))))))))), E_TIME, (hw _ (List.mem_of_getElem? (i := 52) rfl)), Or.inr (Or.inr (Or.inr ⟨(ne_exa E_TIME E_SMALLINT (by decide)), (ne_exa E_TIME E_INTEGER (by decide)), (ne_exa E_TIME E_BIGINT (by decide)), rfl⟩)), Or.inl rfl⟩
    · exact ⟨w_TIMESTAMP, 0, "com/example/dim2/dim2/catalog/DataType$13", Or.inr ⟨by decide, rfl⟩, Or.inr (Or.inr (Or.inr (Or.inr (Or.inr (Or.inr (Or.inr (Or.inr (Or.inr (Or.inr (Or.inr (Or.inr (Or.inl ⟨rfl, S_TIMESTAMP⟩)))))))))))), E_TIMESTAMP, (hw _ (List.mem_of_getElem? (i := 65) rfl)), Or.inr (Or.inr (Or.inr ⟨(ne_exa E_TIMESTAMP E_SMALLINT (by decide)), (ne_exa E_TIMESTAMP E_INTEGER (by decide)), (ne_exa E_TIMESTAMP E_BIGINT (by decide)), rfl⟩)), Or.inl rfl⟩
    · exact ⟨w_TIMESTAMPTZ, 0, "com/example/dim2/dim2/catalog/DataType$14", Or.inr ⟨by decide, rfl⟩, Or.inr (Or.inr (Or.inr (Or.inr (Or.inr (Or.inr (Or.inr (Or.inr (Or.inr (Or.inr (Or.inr (Or.inr (Or.inr (Or.inl ⟨rfl, S_TIMESTAMPTZ⟩))))))))))))), E_TIMESTAMPTZ, (hw _ (List.mem_of_getElem? (i := 36) rfl)), Or.inr (Or.inr (Or.inr ⟨(ne_exa E_TIMESTAMPTZ E_SMALLINT (by decide)), (ne_exa E_TIMESTAMPTZ E_INTEGER (by decide)), (ne_exa E_TIMESTAMPTZ E_BIGINT (by decide)), rfl⟩)), Or.inl rfl⟩
    · exact ⟨w_UNKNOWN, 0, "com/example/dim2/dim2/catalog/DataType$15", Or.inr ⟨by decide, rfl⟩, Or.inr (Or.inr (Or.inr (Or.inr (Or.inr (Or.inr (Or.inr (Or.inr (Or.inr (Or.inr (Or.inr (Or.inr (Or.inr (Or.inr (⟨rfl, S_UNKNOWN⟩)))))))))))))), E_UNKNOWN, (hw _ (List.mem_of_getElem? (i := 42) rfl)), Or.inr (Or.inr (Or.inr ⟨(ne_exa E_UNKNOWN E_SMALLINT (by decide)), (ne_exa E_UNKNOWN E_INTEGER (by decide)), (ne_exa E_UNKNOWN E_BIGINT (by decide)), rfl⟩)), Or.inl rfl⟩
  rcases RD with hb0 | ⟨hb0, selN, FR⟩
  · obtain ⟨n, o, h1, h2, h3, _, L, rfl, ⟨rfl, N⟩, hq⟩ := rm0a l s _ hw tables_1 i0 k w w_SMALLINT w_INTEGER w_BIGINT b s.heap s.heap.size (Nat.le_refl _) hk hb1 PK CK E_w sel S_SMALLINT S_INTEGER S_BIGINT LG hb0 p e ha hc hk0 s m _ below hf ((Spec.applies_iff_loose hf).mp happ).1 ⟨rfl, State.Warmed39.refl s, rfl⟩ trivial
    refine ⟨n, _, h1, h2, h3, hpost _ _ _ _ _ _ ⟨Cond.after_iff.mpr rfl, Cond.after_iff.mpr (eq_i res_at (Term.int_eval (1)) rfl), trivial⟩ ⟨hq.1, hq.2.1, (hq.2.2.sift fun y hy => Or.inr (N y hy)).mono (by decide) (by decide)⟩⟩
  · obtain ⟨n, o, h1, h2, h3, _, L, rfl, ⟨rfl, N⟩, hq⟩ := rm0b l s _ hw tables_1 i0 k w w_SMALLINT w_INTEGER w_BIGINT b s.heap s.heap.size (Nat.le_refl _) hk hb1 PK CK E_w sel S_SMALLINT S_INTEGER S_BIGINT LG hb0 selN w_GNUMBER FR S_GNUMBER p e ha hc hk0 s m _ below hf ((Spec.applies_iff_loose hf).mp happ).1 ⟨rfl, State.Warmed39.refl s, rfl⟩ trivial
    refine ⟨n, _, h1, h2, h3, hpost _ _ _ _ _ _ ⟨Cond.after_iff.mpr rfl, Cond.after_iff.mpr (eq_i res_at (Term.int_eval (1)) rfl), trivial⟩ ⟨hq.1, hq.2.1, (hq.2.2.sift fun y hy => Or.inr (N y hy)).mono (by decide) (by decide)⟩⟩
theorem main_1_1 : Claimed_1_1 := comes_1 fun _ _ _ _ _ _ h hF => ⟨h.1, hF⟩
theorem main_1_2 : Claimed_1_2 := comes_1 fun _ _ _ _ _ _ h hF => ⟨h.2.1, hF⟩
end Jvm.Pilot.@@N@@
namespace Jvm.Pilot.@@N@@
open Jvm Jvm.ClassFile Sem Op Lib Jvm.Free Jvm.Stand Jvm.Pilot.@@N@@.Jvm.D
/-! MADE BY PROGRAM (witnessworld.py) out of the Statement's table words and the real class files: 28 classes; the members and pool entries that the words name. The judged class is class 1, her method 2. -/
namespace start1
open Jvm.ClassFile
def u (s : String) : CpInfo := .utf8 (stringToUtf16 s)
/-- a pool by its gaps: so many unusable entries, then the entry; so many at the end -/
def gap : Nat → List CpInfo → List CpInfo
  | 0, r => r
  | n + 1, r => .unusable :: gap n r
def poolList (es : List (Nat × CpInfo)) (last : Nat) : List CpInfo := es.foldr (fun e r => gap e.1 (e.2 :: r)) (gap last [])
def pool (es : List (Nat × CpInfo)) (last : Nat) : Array CpInfo := ⟨poolList es last⟩
def fileOf (pool : Array CpInfo) (this : Nat) (attrs : Array Attribute := #[]) (ms : Array MethodInfo := #[]) (fl : Nat := 33) (sup : Nat := 0) (ifs : Array Nat := #[]) (fds : Array FieldInfo := #[]) : ClassFile where
  minorVersion := 0
  majorVersion := 65
  constantPool := pool
  accessFlags := fl
  thisClass := this
  superClass := sup
  interfaces := ifs
  fields := fds
  methods := ms
  attributes := attrs
def plain (name : String) (sup : Option ClassId) : Class where
  name := name
  kind := .ordinary
  loader := none
  accessFlags := 33
  super := sup
  interfaces := #[]
  cf := none
  fields := #[]
  methods := #[]
  instanceTypes := #[]
  staticTypes := #[]
  resolved := #[]
  callSites := []
  init := .initialized
  statics := none
  mirror := none

def pool0 : Array CpInfo := pool [(5, u "<init>"), (0, u "()V"), (1, .class_ 10), (1, u "java/lang/Object")] 113

def k0m0 : Method := { name := "<init>", desc := "()V", sig := { parameters := [], returnType := none }, accessFlags := 1, code := none }
/-- java/lang/Object -/
def k0 : Class := { plain "java/lang/Object" none with
  accessFlags := 33
  interfaces := #[]
  cf := some (fileOf pool0 8 #[] #[{ accessFlags := 1, nameIndex := 5, descriptorIndex := 6, attributes := #[] }] 33 0 #[] #[])
  fields := #[]
  methods := #[k0m0]
  instanceTypes := #[]
  staticTypes := #[]
  resolved := Array.replicate 124 none
  statics := none }

def pool1 : Array CpInfo := pool [(2, .class_ 4), (1, u "java/lang/Object"), (0, u "<init>"), (0, u "()V"), (0, .fieldref 8 9), (0, .class_ 10), (0, .nameAndType 11 12), (0, u "com/example/dim2/dim2/catalog/DataType"), (0, u "SMALLINT"), (0, u "Lcom/example/dim2/dim2/catalog/DataType;"), (0, .fieldref 8 14), (0, .nameAndType 15 12), (0, u "INTEGER"), (0, .fieldref 8 17), (0, .nameAndType 18 12), (0, u "BIGINT"), (0, .fieldref 8 20), (0, .nameAndType 21 12), (0, u "NUMERIC"), (0, .fieldref 8 23), (0, .nameAndType 24 12), (0, u "REAL"), (0, .fieldref 8 26), (0, .nameAndType 27 12), (0, u "DOUBLE_PRECISION"), (0, .fieldref 8 29), (0, .nameAndType 30 12), (0, u "TEXT"), (0, .fieldref 8 32), (0, .nameAndType 33 12), (0, u "CHARACTER_VARYING"), (0, .fieldref 8 35), (0, .nameAndType 36 12), (0, u "CHARACTER"), (0, .fieldref 8 38), (0, .nameAndType 39 12), (0, u "BOOLEAN"), (0, .fieldref 8 41), (0, .nameAndType 42 12), (0, u "DATE"), (0, .fieldref 8 44), (0, .nameAndType 45 12), (0, u "TIME"), (0, .fieldref 8 47), (0, .nameAndType 48 12), (0, u "TIMESTAMP"), (0, .fieldref 8 50), (0, .nameAndType 51 12), (0, u "TIMESTAMPTZ"), (0, .fieldref 8 53), (0, .nameAndType 54 12), (0, u "UNKNOWN"), (0, .integer 2147483647), (0, .methodref 57 58), (0, .class_ 59), (0, .nameAndType 60 61), (0, u "com/example/dim2/dim2/catalog/DataTypeIsWholeNumberPinLaw"), (0, u "pick"), (0, u "(I)Lcom/example/dim2/dim2/catalog/DataType;"), (0, .methodref 8 63), (0, .nameAndType 64 65), (0, u "isWholeNumber"), (0, u "()Z"), (0, .methodref 8 67), (0, .nameAndType 68 65), (0, u "isNumber"), (3, u "law"), (0, u "(I)Z")] 2

def k1m0 : Method := { name := "<init>", desc := "()V", sig := { parameters := [], returnType := none }, accessFlags := 2, code := none }
def k1c1 : Code := { maxStack := 2, maxLocals := 1, code := method_2_code, exceptionTable := #[], attributes := #[] }
def k1m1 : Method := { name := "pick", desc := "(I)Lcom/example/dim2/dim2/catalog/DataType;", sig := { parameters := [.int], returnType := some (.object "com/example/dim2/dim2/catalog/DataType") }, accessFlags := 10, code := some k1c1 }
def k1c2 : Code := { maxStack := 2, maxLocals := 5, code := code, exceptionTable := #[], attributes := #[] }
def k1m2 : Method := { name := "law", desc := "(I)Z", sig := { parameters := [.int], returnType := some .boolean }, accessFlags := 9, code := some k1c2 }
/-- com/example/dim2/dim2/catalog/DataTypeIsWholeNumberPinLaw -/
def k1 : Class := { plain "com/example/dim2/dim2/catalog/DataTypeIsWholeNumberPinLaw" (some 0) with
  accessFlags := 49
  interfaces := #[]
  cf := some (fileOf pool1 57 #[] #[{ accessFlags := 2, nameIndex := 5, descriptorIndex := 6, attributes := #[] }, { accessFlags := 10, nameIndex := 60, descriptorIndex := 61, attributes := #[] }, { accessFlags := 9, nameIndex := 72, descriptorIndex := 73, attributes := #[] }] 49 2 #[] #[])
  fields := #[]
  methods := #[k1m0, k1m1, k1m2]
  instanceTypes := #[]
  staticTypes := #[]
  resolved := Array.replicate 76 none
  statics := none }

def pool2 : Array CpInfo := pool [(1, .class_ 2), (0, u "java/lang/constant/Constable"), (0, .class_ 4), (0, u "java/lang/Object")] 6

/-- java/lang/constant/Constable -/
def k2 : Class := { plain "java/lang/constant/Constable" (some 0) with
  accessFlags := 1537
  interfaces := #[]
  cf := some (fileOf pool2 1 #[] #[] 1537 3 #[] #[])
  fields := #[]
  methods := #[]
  instanceTypes := #[]
  staticTypes := #[]
  resolved := Array.replicate 11 none
  statics := none }

def pool3 : Array CpInfo := pool [(1, .class_ 2), (0, u "java/lang/Comparable"), (0, .class_ 4), (0, u "java/lang/Object")] 7

/-- java/lang/Comparable -/
def k3 : Class := { plain "java/lang/Comparable" (some 0) with
  accessFlags := 1537
  interfaces := #[]
  cf := some (fileOf pool3 1 #[] #[] 1537 3 #[] #[])
  fields := #[]
  methods := #[]
  instanceTypes := #[]
  staticTypes := #[]
  resolved := Array.replicate 12 none
  statics := none }

def pool4 : Array CpInfo := pool [(1, .class_ 2), (0, u "java/io/Serializable"), (0, .class_ 4), (0, u "java/lang/Object")] 2

/-- java/io/Serializable -/
def k4 : Class := { plain "java/io/Serializable" (some 0) with
  accessFlags := 1537
  interfaces := #[]
  cf := some (fileOf pool4 1 #[] #[] 1537 3 #[] #[])
  fields := #[]
  methods := #[]
  instanceTypes := #[]
  staticTypes := #[]
  resolved := Array.replicate 7 none
  statics := none }

def pool5 : Array CpInfo := pool [(2, .class_ 4), (1, u "java/lang/Enum"), (0, u "name"), (0, u "Ljava/lang/String;"), (2, u "ordinal"), (0, u "I"), (1, .class_ 14), (1, u "java/lang/Object"), (4, u "hash"), (86, .class_ 108), (1, u "java/lang/Enum$EnumDesc"), (2, .class_ 112), (0, u "java/lang/constant/Constable"), (0, .class_ 114), (0, u "java/lang/Comparable"), (0, .class_ 116), (0, u "java/io/Serializable")] 87

/-- java/lang/Enum -/
def k5 : Class := { plain "java/lang/Enum" (some 0) with
  accessFlags := 1057
  interfaces := #[2, 3, 4]
  cf := some (fileOf pool5 2 #[.nestMembers #[106]] #[] 1057 12 #[111, 113, 115] #[{ accessFlags := 18, nameIndex := 5, descriptorIndex := 6, attributes := #[] }, { accessFlags := 18, nameIndex := 9, descriptorIndex := 10, attributes := #[] }, { accessFlags := 2, nameIndex := 19, descriptorIndex := 10, attributes := #[] }])
  fields := #[{ name := "name", type := (.object "java/lang/String"), accessFlags := 18, slot := 0, constantValue := 0 }, { name := "ordinal", type := .int, accessFlags := 18, slot := 1, constantValue := 0 }, { name := "hash", type := .int, accessFlags := 2, slot := 2, constantValue := 0 }]
  methods := #[]
  instanceTypes := #[(.object "java/lang/String"), .int, .int]
  staticTypes := #[]
  resolved := Array.replicate 204 none
  statics := none }

def pool6 : Array CpInfo := pool [(1, .class_ 2), (0, u "com/example/dim2/dim2/catalog/DataType"), (0, .fieldref 1 4), (0, .nameAndType 5 6), (0, u "SMALLINT"), (0, u "Lcom/example/dim2/dim2/catalog/DataType;"), (0, .fieldref 1 8), (0, .nameAndType 9 6), (0, u "INTEGER"), (0, .fieldref 1 11), (0, .nameAndType 12 6), (0, u "BIGINT"), (2, u "NUMERIC"), (2, u "REAL"), (2, u "DOUBLE_PRECISION"), (2, u "TEXT"), (2, u "CHARACTER_VARYING"), (2, u "CHARACTER"), (2, u "BOOLEAN"), (2, u "DATE"), (2, u "TIME"), (2, u "TIMESTAMP"), (2, u "TIMESTAMPTZ"), (2, u "UNKNOWN"), (2, u "$VALUES"), (0, u "[Lcom/example/dim2/dim2/catalog/DataType;"), (6, .class_ 61), (1, u "java/lang/Enum"), (8, u "name"), (0, u "Ljava/lang/String;"), (2, u "catalogName"), (0, .fieldref 1 76), (0, .nameAndType 77 78), (0, u "category"), (0, u "Lcom/example/dim2/dim2/catalog/DataType$Category;"), (2, u "CATALOG_NAMES"), (0, u "Ljava/util/Map;"), (11, u "()Z"), (33, .fieldref 129 130), (0, .class_ 131), (0, .nameAndType 132 78), (0, u "com/example/dim2/dim2/catalog/DataType$Category"), (0, u "NUMBER"), (190, u "WHOLE_NUMBER_SYNTAX"), (0, u "Ljava/util/regex/Pattern;"), (36, u "SURROUNDING_SPACE"), (21, .class_ 384), (0, u "com/example/dim2/dim2/catalog/DataType$1"), (8, .class_ 394), (0, u "com/example/dim2/dim2/catalog/DataType$2"), (6, .class_ 402), (0, u "com/example/dim2/dim2/catalog/DataType$3"), (6, .class_ 410), (0, u "com/example/dim2/dim2/catalog/DataType$4"), (4, .class_ 416), (0, u "com/example/dim2/dim2/catalog/DataType$5"), (6, .class_ 424), (0, u "com/example/dim2/dim2/catalog/DataType$6"), (6, .class_ 432), (0, u "com/example/dim2/dim2/catalog/DataType$7"), (4, .class_ 438), (0, u "com/example/dim2/dim2/catalog/DataType$8"), (6, .class_ 446), (0, u "com/example/dim2/dim2/catalog/DataType$9"), (6, .class_ 454), (0, u "com/example/dim2/dim2/catalog/DataType$10"), (8, .class_ 464), (0, u "com/example/dim2/dim2/catalog/DataType$11"), (4, .class_ 470), (0, u "com/example/dim2/dim2/catalog/DataType$12"), (6, .class_ 478), (0, u "com/example/dim2/dim2/catalog/DataType$13"), (6, .class_ 486), (0, u "com/example/dim2/dim2/catalog/DataType$14"), (6, .class_ 494), (0, u "com/example/dim2/dim2/catalog/DataType$15"), (32, u "NUMERIC_SYNTAX"), (4, u "INFINITY_WORD"), (2, u "NUMERIC_MAX_INTEGER_DIGITS"), (0, u "I"), (1, u "NUMERIC_MAX_SCALE"), (1, u "NUMERIC_MAX_DECLARED_PRECISION"), (1, u "NUMERIC_DECLARED_SCALE_LIMIT"), (0, u "MAX_LENGTH"), (2, u "SPACE"), (10, u "isNumber"), (0, u "isWholeNumber")] 73

def k6c0 : Code := { maxStack := 2, maxLocals := 1, code := prog_13_method_7_code, exceptionTable := #[], attributes := #[] }
def k6m0 : Method := { name := "isNumber", desc := "()Z", sig := { parameters := [], returnType := some .boolean }, accessFlags := 1, code := some k6c0 }
def k6c1 : Code := { maxStack := 2, maxLocals := 1, code := prog_13_method_8_code, exceptionTable := #[], attributes := #[] }
def k6m1 : Method := { name := "isWholeNumber", desc := "()Z", sig := { parameters := [], returnType := some .boolean }, accessFlags := 1, code := some k6c1 }
/-- com/example/dim2/dim2/catalog/DataType -/
def k6 : Class := { plain "com/example/dim2/dim2/catalog/DataType" (some 5) with
  accessFlags := 17441
  interfaces := #[]
  cf := some (fileOf pool6 1 #[.nestMembers #[129, 493, 485, 477, 469, 463, 453, 445, 437, 431, 423, 415, 409, 401, 393, 383]] #[{ accessFlags := 1, nameIndex := 557, descriptorIndex := 94, attributes := #[] }, { accessFlags := 1, nameIndex := 558, descriptorIndex := 94, attributes := #[] }] 17441 59 #[] #[{ accessFlags := 16409, nameIndex := 5, descriptorIndex := 6, attributes := #[] }, { accessFlags := 16409, nameIndex := 9, descriptorIndex := 6, attributes := #[] }, { accessFlags := 16409, nameIndex := 12, descriptorIndex := 6, attributes := #[] }, { accessFlags := 16409, nameIndex := 15, descriptorIndex := 6, attributes := #[] }, { accessFlags := 16409, nameIndex := 18, descriptorIndex := 6, attributes := #[] }, { accessFlags := 16409, nameIndex := 21, descriptorIndex := 6, attributes := #[] }, { accessFlags := 16409, nameIndex := 24, descriptorIndex := 6, attributes := #[] }, { accessFlags := 16409, nameIndex := 27, descriptorIndex := 6, attributes := #[] }, { accessFlags := 16409, nameIndex := 30, descriptorIndex := 6, attributes := #[] }, { accessFlags := 16409, nameIndex := 33, descriptorIndex := 6, attributes := #[] }, { accessFlags := 16409, nameIndex := 36, descriptorIndex := 6, attributes := #[] }, { accessFlags := 16409, nameIndex := 39, descriptorIndex := 6, attributes := #[] }, { accessFlags := 16409, nameIndex := 42, descriptorIndex := 6, attributes := #[] }, { accessFlags := 16409, nameIndex := 45, descriptorIndex := 6, attributes := #[] }, { accessFlags := 16409, nameIndex := 48, descriptorIndex := 6, attributes := #[] }, { accessFlags := 25, nameIndex := 535, descriptorIndex := 536, attributes := #[] }, { accessFlags := 25, nameIndex := 538, descriptorIndex := 536, attributes := #[] }, { accessFlags := 25, nameIndex := 540, descriptorIndex := 536, attributes := #[] }, { accessFlags := 25, nameIndex := 542, descriptorIndex := 536, attributes := #[] }, { accessFlags := 25, nameIndex := 543, descriptorIndex := 536, attributes := #[] }, { accessFlags := 26, nameIndex := 81, descriptorIndex := 82, attributes := #[] }, { accessFlags := 26, nameIndex := 546, descriptorIndex := 71, attributes := #[] }, { accessFlags := 26, nameIndex := 323, descriptorIndex := 324, attributes := #[] }, { accessFlags := 26, nameIndex := 527, descriptorIndex := 324, attributes := #[] }, { accessFlags := 24, nameIndex := 532, descriptorIndex := 324, attributes := #[] }, { accessFlags := 26, nameIndex := 361, descriptorIndex := 324, attributes := #[] }, { accessFlags := 18, nameIndex := 70, descriptorIndex := 71, attributes := #[] }, { accessFlags := 18, nameIndex := 74, descriptorIndex := 71, attributes := #[] }, { accessFlags := 18, nameIndex := 77, descriptorIndex := 78, attributes := #[] }, { accessFlags := 4122, nameIndex := 51, descriptorIndex := 52, attributes := #[] }])
  fields := #[{ name := "SMALLINT", type := (.object "com/example/dim2/dim2/catalog/DataType"), accessFlags := 16409, slot := 0, constantValue := 0 }, { name := "INTEGER", type := (.object "com/example/dim2/dim2/catalog/DataType"), accessFlags := 16409, slot := 1, constantValue := 0 }, { name := "BIGINT", type := (.object "com/example/dim2/dim2/catalog/DataType"), accessFlags := 16409, slot := 2, constantValue := 0 }, { name := "NUMERIC", type := (.object "com/example/dim2/dim2/catalog/DataType"), accessFlags := 16409, slot := 3, constantValue := 0 }, { name := "REAL", type := (.object "com/example/dim2/dim2/catalog/DataType"), accessFlags := 16409, slot := 4, constantValue := 0 }, { name := "DOUBLE_PRECISION", type := (.object "com/example/dim2/dim2/catalog/DataType"), accessFlags := 16409, slot := 5, constantValue := 0 }, { name := "TEXT", type := (.object "com/example/dim2/dim2/catalog/DataType"), accessFlags := 16409, slot := 6, constantValue := 0 }, { name := "CHARACTER_VARYING", type := (.object "com/example/dim2/dim2/catalog/DataType"), accessFlags := 16409, slot := 7, constantValue := 0 }, { name := "CHARACTER", type := (.object "com/example/dim2/dim2/catalog/DataType"), accessFlags := 16409, slot := 8, constantValue := 0 }, { name := "BOOLEAN", type := (.object "com/example/dim2/dim2/catalog/DataType"), accessFlags := 16409, slot := 9, constantValue := 0 }, { name := "DATE", type := (.object "com/example/dim2/dim2/catalog/DataType"), accessFlags := 16409, slot := 10, constantValue := 0 }, { name := "TIME", type := (.object "com/example/dim2/dim2/catalog/DataType"), accessFlags := 16409, slot := 11, constantValue := 0 }, { name := "TIMESTAMP", type := (.object "com/example/dim2/dim2/catalog/DataType"), accessFlags := 16409, slot := 12, constantValue := 0 }, { name := "TIMESTAMPTZ", type := (.object "com/example/dim2/dim2/catalog/DataType"), accessFlags := 16409, slot := 13, constantValue := 0 }, { name := "UNKNOWN", type := (.object "com/example/dim2/dim2/catalog/DataType"), accessFlags := 16409, slot := 14, constantValue := 0 }, { name := "NUMERIC_MAX_INTEGER_DIGITS", type := .int, accessFlags := 25, slot := 15, constantValue := 0 }, { name := "NUMERIC_MAX_SCALE", type := .int, accessFlags := 25, slot := 16, constantValue := 0 }, { name := "NUMERIC_MAX_DECLARED_PRECISION", type := .int, accessFlags := 25, slot := 17, constantValue := 0 }, { name := "NUMERIC_DECLARED_SCALE_LIMIT", type := .int, accessFlags := 25, slot := 18, constantValue := 0 }, { name := "MAX_LENGTH", type := .int, accessFlags := 25, slot := 19, constantValue := 0 }, { name := "CATALOG_NAMES", type := (.object "java/util/Map"), accessFlags := 26, slot := 20, constantValue := 0 }, { name := "SPACE", type := (.object "java/lang/String"), accessFlags := 26, slot := 21, constantValue := 0 }, { name := "WHOLE_NUMBER_SYNTAX", type := (.object "java/util/regex/Pattern"), accessFlags := 26, slot := 22, constantValue := 0 }, { name := "NUMERIC_SYNTAX", type := (.object "java/util/regex/Pattern"), accessFlags := 26, slot := 23, constantValue := 0 }, { name := "INFINITY_WORD", type := (.object "java/util/regex/Pattern"), accessFlags := 24, slot := 24, constantValue := 0 }, { name := "SURROUNDING_SPACE", type := (.object "java/util/regex/Pattern"), accessFlags := 26, slot := 25, constantValue := 0 }, { name := "name", type := (.object "java/lang/String"), accessFlags := 18, slot := 3, constantValue := 0 }, { name := "catalogName", type := (.object "java/lang/String"), accessFlags := 18, slot := 4, constantValue := 0 }, { name := "category", type := (.object "com/example/dim2/dim2/catalog/DataType$Category"), accessFlags := 18, slot := 5, constantValue := 0 }, { name := "$VALUES", type := (.array (.object "com/example/dim2/dim2/catalog/DataType")), accessFlags := 4122, slot := 26, constantValue := 0 }]
  methods := #[k6m0, k6m1]
  instanceTypes := #[(.object "java/lang/String"), .int, .int, (.object "java/lang/String"), (.object "java/lang/String"), (.object "com/example/dim2/dim2/catalog/DataType$Category")]
  staticTypes := #[(.object "com/example/dim2/dim2/catalog/DataType"), (.object "com/example/dim2/dim2/catalog/DataType"), (.object "com/example/dim2/dim2/catalog/DataType"), (.object "com/example/dim2/dim2/catalog/DataType"), (.object "com/example/dim2/dim2/catalog/DataType"), (.object "com/example/dim2/dim2/catalog/DataType"), (.object "com/example/dim2/dim2/catalog/DataType"), (.object "com/example/dim2/dim2/catalog/DataType"), (.object "com/example/dim2/dim2/catalog/DataType"), (.object "com/example/dim2/dim2/catalog/DataType"), (.object "com/example/dim2/dim2/catalog/DataType"), (.object "com/example/dim2/dim2/catalog/DataType"), (.object "com/example/dim2/dim2/catalog/DataType"), (.object "com/example/dim2/dim2/catalog/DataType"), (.object "com/example/dim2/dim2/catalog/DataType"), .int, .int, .int, .int, .int, (.object "java/util/Map"), (.object "java/lang/String"), (.object "java/util/regex/Pattern"), (.object "java/util/regex/Pattern"), (.object "java/util/regex/Pattern"), (.object "java/util/regex/Pattern"), (.array (.object "com/example/dim2/dim2/catalog/DataType"))]
  resolved := Array.replicate 632 none
  statics := some 0 }

def pool7 : Array CpInfo := pool [(2, .class_ 4), (1, u "com/example/dim2/dim2/catalog/DataType"), (9, .class_ 16), (1, u "com/example/dim2/dim2/catalog/DataType$1")] 19

/-- com/example/dim2/dim2/catalog/DataType$1 -/
def k7 : Class := { plain "com/example/dim2/dim2/catalog/DataType$1" (some 6) with
  accessFlags := 16432
  interfaces := #[]
  cf := some (fileOf pool7 14 #[.nestHost 2] #[] 16432 2 #[] #[])
  fields := #[]
  methods := #[]
  instanceTypes := #[(.object "java/lang/String"), .int, .int, (.object "java/lang/String"), (.object "java/lang/String"), (.object "com/example/dim2/dim2/catalog/DataType$Category")]
  staticTypes := #[]
  resolved := Array.replicate 36 none
  statics := none }

def pool8 : Array CpInfo := pool [(1, .class_ 2), (0, u "com/example/dim2/dim2/catalog/DataType$Category"), (2, u "NUMBER"), (0, u "Lcom/example/dim2/dim2/catalog/DataType$Category;"), (2, u "STRING"), (2, u "BOOLEAN"), (2, u "DATE_TIME"), (2, u "UNKNOWN"), (2, u "$VALUES"), (0, u "[Lcom/example/dim2/dim2/catalog/DataType$Category;"), (6, .class_ 31), (1, u "java/lang/Enum"), (28, .class_ 61), (0, u "com/example/dim2/dim2/catalog/DataType")] 2

/-- com/example/dim2/dim2/catalog/DataType$Category -/
def k8 : Class := { plain "com/example/dim2/dim2/catalog/DataType$Category" (some 5) with
  accessFlags := 16432
  interfaces := #[]
  cf := some (fileOf pool8 1 #[.nestHost 60] #[] 16432 29 #[] #[{ accessFlags := 16409, nameIndex := 5, descriptorIndex := 6, attributes := #[] }, { accessFlags := 16409, nameIndex := 9, descriptorIndex := 6, attributes := #[] }, { accessFlags := 16409, nameIndex := 12, descriptorIndex := 6, attributes := #[] }, { accessFlags := 16409, nameIndex := 15, descriptorIndex := 6, attributes := #[] }, { accessFlags := 16409, nameIndex := 18, descriptorIndex := 6, attributes := #[] }, { accessFlags := 4122, nameIndex := 21, descriptorIndex := 22, attributes := #[] }])
  fields := #[{ name := "NUMBER", type := (.object "com/example/dim2/dim2/catalog/DataType$Category"), accessFlags := 16409, slot := 0, constantValue := 0 }, { name := "STRING", type := (.object "com/example/dim2/dim2/catalog/DataType$Category"), accessFlags := 16409, slot := 1, constantValue := 0 }, { name := "BOOLEAN", type := (.object "com/example/dim2/dim2/catalog/DataType$Category"), accessFlags := 16409, slot := 2, constantValue := 0 }, { name := "DATE_TIME", type := (.object "com/example/dim2/dim2/catalog/DataType$Category"), accessFlags := 16409, slot := 3, constantValue := 0 }, { name := "UNKNOWN", type := (.object "com/example/dim2/dim2/catalog/DataType$Category"), accessFlags := 16409, slot := 4, constantValue := 0 }, { name := "$VALUES", type := (.array (.object "com/example/dim2/dim2/catalog/DataType$Category")), accessFlags := 4122, slot := 5, constantValue := 0 }]
  methods := #[]
  instanceTypes := #[(.object "java/lang/String"), .int, .int]
  staticTypes := #[(.object "com/example/dim2/dim2/catalog/DataType$Category"), (.object "com/example/dim2/dim2/catalog/DataType$Category"), (.object "com/example/dim2/dim2/catalog/DataType$Category"), (.object "com/example/dim2/dim2/catalog/DataType$Category"), (.object "com/example/dim2/dim2/catalog/DataType$Category"), (.array (.object "com/example/dim2/dim2/catalog/DataType$Category"))]
  resolved := Array.replicate 64 none
  statics := some 1 }

def pool9 : Array CpInfo := pool [(2, .class_ 4), (1, u "com/example/dim2/dim2/catalog/DataType"), (19, .class_ 26), (1, u "com/example/dim2/dim2/catalog/DataType$4")] 233

/-- com/example/dim2/dim2/catalog/DataType$4 -/
def k9 : Class := { plain "com/example/dim2/dim2/catalog/DataType$4" (some 6) with
  accessFlags := 16432
  interfaces := #[]
  cf := some (fileOf pool9 24 #[.nestHost 2] #[] 16432 2 #[] #[])
  fields := #[]
  methods := #[]
  instanceTypes := #[(.object "java/lang/String"), .int, .int, (.object "java/lang/String"), (.object "java/lang/String"), (.object "com/example/dim2/dim2/catalog/DataType$Category")]
  staticTypes := #[]
  resolved := Array.replicate 260 none
  statics := none }

def pool10 : Array CpInfo := pool [(2, .class_ 4), (1, u "com/example/dim2/dim2/catalog/DataType"), (26, .class_ 32), (0, u "com/example/dim2/dim2/catalog/DataType$6")] 14

/-- com/example/dim2/dim2/catalog/DataType$6 -/
def k10 : Class := { plain "com/example/dim2/dim2/catalog/DataType$6" (some 6) with
  accessFlags := 16432
  interfaces := #[]
  cf := some (fileOf pool10 31 #[.nestHost 2] #[] 16432 2 #[] #[])
  fields := #[]
  methods := #[]
  instanceTypes := #[(.object "java/lang/String"), .int, .int, (.object "java/lang/String"), (.object "java/lang/String"), (.object "com/example/dim2/dim2/catalog/DataType$Category")]
  staticTypes := #[]
  resolved := Array.replicate 47 none
  statics := none }

def pool11 : Array CpInfo := pool [(2, .class_ 4), (1, u "com/example/dim2/dim2/catalog/DataType"), (9, .class_ 16), (1, u "com/example/dim2/dim2/catalog/DataType$14")] 69

/-- com/example/dim2/dim2/catalog/DataType$14 -/
def k11 : Class := { plain "com/example/dim2/dim2/catalog/DataType$14" (some 6) with
  accessFlags := 16432
  interfaces := #[]
  cf := some (fileOf pool11 14 #[.nestHost 2] #[] 16432 2 #[] #[])
  fields := #[]
  methods := #[]
  instanceTypes := #[(.object "java/lang/String"), .int, .int, (.object "java/lang/String"), (.object "java/lang/String"), (.object "com/example/dim2/dim2/catalog/DataType$Category")]
  staticTypes := #[]
  resolved := Array.replicate 86 none
  statics := none }

def pool12 : Array CpInfo := pool [(2, .class_ 4), (1, u "com/example/dim2/dim2/catalog/DataType"), (8, .class_ 14), (0, u "com/example/dim2/dim2/catalog/DataType$7")] 15

/-- com/example/dim2/dim2/catalog/DataType$7 -/
def k12 : Class := { plain "com/example/dim2/dim2/catalog/DataType$7" (some 6) with
  accessFlags := 16432
  interfaces := #[]
  cf := some (fileOf pool12 13 #[.nestHost 2] #[] 16432 2 #[] #[])
  fields := #[]
  methods := #[]
  instanceTypes := #[(.object "java/lang/String"), .int, .int, (.object "java/lang/String"), (.object "java/lang/String"), (.object "com/example/dim2/dim2/catalog/DataType$Category")]
  staticTypes := #[]
  resolved := Array.replicate 30 none
  statics := none }

def pool13 : Array CpInfo := pool [(2, .class_ 4), (1, u "com/example/dim2/dim2/catalog/DataType"), (8, .class_ 14), (0, u "com/example/dim2/dim2/catalog/DataType$15")] 15

/-- com/example/dim2/dim2/catalog/DataType$15 -/
def k13 : Class := { plain "com/example/dim2/dim2/catalog/DataType$15" (some 6) with
  accessFlags := 16432
  interfaces := #[]
  cf := some (fileOf pool13 13 #[.nestHost 2] #[] 16432 2 #[] #[])
  fields := #[]
  methods := #[]
  instanceTypes := #[(.object "java/lang/String"), .int, .int, (.object "java/lang/String"), (.object "java/lang/String"), (.object "com/example/dim2/dim2/catalog/DataType$Category")]
  staticTypes := #[]
  resolved := Array.replicate 30 none
  statics := none }

def pool14 : Array CpInfo := pool [(2, .class_ 4), (1, u "com/example/dim2/dim2/catalog/DataType"), (36, .class_ 42), (0, u "com/example/dim2/dim2/catalog/DataType$8")] 25

/-- com/example/dim2/dim2/catalog/DataType$8 -/
def k14 : Class := { plain "com/example/dim2/dim2/catalog/DataType$8" (some 6) with
  accessFlags := 16432
  interfaces := #[]
  cf := some (fileOf pool14 41 #[.nestHost 2] #[] 16432 2 #[] #[])
  fields := #[]
  methods := #[]
  instanceTypes := #[(.object "java/lang/String"), .int, .int, (.object "java/lang/String"), (.object "java/lang/String"), (.object "com/example/dim2/dim2/catalog/DataType$Category")]
  staticTypes := #[]
  resolved := Array.replicate 68 none
  statics := none }

def pool15 : Array CpInfo := pool [(2, .class_ 4), (1, u "com/example/dim2/dim2/catalog/DataType"), (9, .class_ 16), (1, u "com/example/dim2/dim2/catalog/DataType$3")] 19

/-- com/example/dim2/dim2/catalog/DataType$3 -/
def k15 : Class := { plain "com/example/dim2/dim2/catalog/DataType$3" (some 6) with
  accessFlags := 16432
  interfaces := #[]
  cf := some (fileOf pool15 14 #[.nestHost 2] #[] 16432 2 #[] #[])
  fields := #[]
  methods := #[]
  instanceTypes := #[(.object "java/lang/String"), .int, .int, (.object "java/lang/String"), (.object "java/lang/String"), (.object "com/example/dim2/dim2/catalog/DataType$Category")]
  staticTypes := #[]
  resolved := Array.replicate 36 none
  statics := none }

def pool16 : Array CpInfo := pool [(2, .class_ 4), (1, u "com/example/dim2/dim2/catalog/DataType"), (42, .class_ 48), (0, u "com/example/dim2/dim2/catalog/DataType$12")] 25

/-- com/example/dim2/dim2/catalog/DataType$12 -/
def k16 : Class := { plain "com/example/dim2/dim2/catalog/DataType$12" (some 6) with
  accessFlags := 16432
  interfaces := #[]
  cf := some (fileOf pool16 47 #[.nestHost 2] #[] 16432 2 #[] #[])
  fields := #[]
  methods := #[]
  instanceTypes := #[(.object "java/lang/String"), .int, .int, (.object "java/lang/String"), (.object "java/lang/String"), (.object "com/example/dim2/dim2/catalog/DataType$Category")]
  staticTypes := #[]
  resolved := Array.replicate 74 none
  statics := none }

def pool17 : Array CpInfo := pool [(2, .class_ 4), (1, u "com/example/dim2/dim2/catalog/DataType"), (14, .class_ 20), (0, u "com/example/dim2/dim2/catalog/DataType$11")] 15

/-- com/example/dim2/dim2/catalog/DataType$11 -/
def k17 : Class := { plain "com/example/dim2/dim2/catalog/DataType$11" (some 6) with
  accessFlags := 16432
  interfaces := #[]
  cf := some (fileOf pool17 19 #[.nestHost 2] #[] 16432 2 #[] #[])
  fields := #[]
  methods := #[]
  instanceTypes := #[(.object "java/lang/String"), .int, .int, (.object "java/lang/String"), (.object "java/lang/String"), (.object "com/example/dim2/dim2/catalog/DataType$Category")]
  staticTypes := #[]
  resolved := Array.replicate 36 none
  statics := none }

def pool18 : Array CpInfo := pool [(2, .class_ 4), (1, u "com/example/dim2/dim2/catalog/DataType"), (5, .class_ 12), (1, u "com/example/dim2/dim2/catalog/DataType$9")] 89

/-- com/example/dim2/dim2/catalog/DataType$9 -/
def k18 : Class := { plain "com/example/dim2/dim2/catalog/DataType$9" (some 6) with
  accessFlags := 16432
  interfaces := #[]
  cf := some (fileOf pool18 10 #[.nestHost 2] #[] 16432 2 #[] #[])
  fields := #[]
  methods := #[]
  instanceTypes := #[(.object "java/lang/String"), .int, .int, (.object "java/lang/String"), (.object "java/lang/String"), (.object "com/example/dim2/dim2/catalog/DataType$Category")]
  staticTypes := #[]
  resolved := Array.replicate 102 none
  statics := none }

def pool19 : Array CpInfo := pool [(2, .class_ 4), (1, u "com/example/dim2/dim2/catalog/DataType"), (9, .class_ 16), (1, u "com/example/dim2/dim2/catalog/DataType$2")] 19

/-- com/example/dim2/dim2/catalog/DataType$2 -/
def k19 : Class := { plain "com/example/dim2/dim2/catalog/DataType$2" (some 6) with
  accessFlags := 16432
  interfaces := #[]
  cf := some (fileOf pool19 14 #[.nestHost 2] #[] 16432 2 #[] #[])
  fields := #[]
  methods := #[]
  instanceTypes := #[(.object "java/lang/String"), .int, .int, (.object "java/lang/String"), (.object "java/lang/String"), (.object "com/example/dim2/dim2/catalog/DataType$Category")]
  staticTypes := #[]
  resolved := Array.replicate 36 none
  statics := none }

def pool20 : Array CpInfo := pool [(2, .class_ 4), (1, u "com/example/dim2/dim2/catalog/DataType"), (42, .class_ 48), (0, u "com/example/dim2/dim2/catalog/DataType$13")] 25

/-- com/example/dim2/dim2/catalog/DataType$13 -/
def k20 : Class := { plain "com/example/dim2/dim2/catalog/DataType$13" (some 6) with
  accessFlags := 16432
  interfaces := #[]
  cf := some (fileOf pool20 47 #[.nestHost 2] #[] 16432 2 #[] #[])
  fields := #[]
  methods := #[]
  instanceTypes := #[(.object "java/lang/String"), .int, .int, (.object "java/lang/String"), (.object "java/lang/String"), (.object "com/example/dim2/dim2/catalog/DataType$Category")]
  staticTypes := #[]
  resolved := Array.replicate 74 none
  statics := none }

def pool21 : Array CpInfo := pool [(2, .class_ 4), (1, u "com/example/dim2/dim2/catalog/DataType"), (26, .class_ 32), (0, u "com/example/dim2/dim2/catalog/DataType$5")] 14

/-- com/example/dim2/dim2/catalog/DataType$5 -/
def k21 : Class := { plain "com/example/dim2/dim2/catalog/DataType$5" (some 6) with
  accessFlags := 16432
  interfaces := #[]
  cf := some (fileOf pool21 31 #[.nestHost 2] #[] 16432 2 #[] #[])
  fields := #[]
  methods := #[]
  instanceTypes := #[(.object "java/lang/String"), .int, .int, (.object "java/lang/String"), (.object "java/lang/String"), (.object "com/example/dim2/dim2/catalog/DataType$Category")]
  staticTypes := #[]
  resolved := Array.replicate 47 none
  statics := none }

def pool22 : Array CpInfo := pool [(2, .class_ 4), (1, u "com/example/dim2/dim2/catalog/DataType"), (3, .class_ 10), (1, u "com/example/dim2/dim2/catalog/DataType$10")] 83

/-- com/example/dim2/dim2/catalog/DataType$10 -/
def k22 : Class := { plain "com/example/dim2/dim2/catalog/DataType$10" (some 6) with
  accessFlags := 16432
  interfaces := #[]
  cf := some (fileOf pool22 8 #[.nestHost 2] #[] 16432 2 #[] #[])
  fields := #[]
  methods := #[]
  instanceTypes := #[(.object "java/lang/String"), .int, .int, (.object "java/lang/String"), (.object "java/lang/String"), (.object "com/example/dim2/dim2/catalog/DataType$Category")]
  staticTypes := #[]
  resolved := Array.replicate 94 none
  statics := none }

def pool23 : Array CpInfo := pool [(1, u "java/lang/Cloneable"), (0, .class_ 1), (0, u "java/lang/Object"), (0, .class_ 3)] 3

/-- java/lang/Cloneable -/
def k23 : Class := { plain "java/lang/Cloneable" (some 0) with
  accessFlags := 1537
  interfaces := #[]
  cf := some (fileOf pool23 2 #[] #[] 1537 4 #[] #[])
  fields := #[]
  methods := #[]
  instanceTypes := #[]
  staticTypes := #[]
  resolved := Array.replicate 8 none
  statics := none }

/-- the primitive byte -/
def k24 : Class := { plain "byte" none with kind := .primitive 'B', accessFlags := 0x411 }
/-- [B -/
def k25 : Class := { plain "[B" (some 0) with kind := .array 24 .byte, interfaces := #[23, 4], accessFlags := 1041 }

/-- the primitive int -/
def k26 : Class := { plain "int" none with kind := .primitive 'I', accessFlags := 0x411 }
/-- [I -/
def k27 : Class := { plain "[I" (some 0) with kind := .array 26 .int, interfaces := #[23, 4], accessFlags := 1041 }

def heap : Heap := #[{ cls := 6, slots := #[.ref 7, .ref 8, .ref 9, .ref 10, .ref 11, .ref 12, .ref 13, .ref 14, .ref 15, .ref 16, .ref 17, .ref 18, .ref 19, .ref 20, .ref 21, .int 0, .int 0, .int 0, .int 0, .int 0, .null, .null, .null, .null, .null, .null, .null], vm := .statics 6 },
  { cls := 8, slots := #[.ref 2, .ref 4, .ref 6, .ref 3, .ref 5, .null], vm := .statics 8 },
  { cls := 8, slots := #[.null, .int 0, .int 0], vm := .none },
  { cls := 8, slots := #[.null, .int 1, .int 0], vm := .none },
  { cls := 8, slots := #[.null, .int 2, .int 0], vm := .none },
  { cls := 8, slots := #[.null, .int 3, .int 0], vm := .none },
  { cls := 8, slots := #[.null, .int 4, .int 0], vm := .none },
  { cls := 7, slots := #[.null, .int 0, .int 0, .null, .null, .ref 2], vm := .none },
  { cls := 19, slots := #[.null, .int 1, .int 0, .null, .null, .ref 2], vm := .none },
  { cls := 15, slots := #[.null, .int 2, .int 0, .null, .null, .ref 2], vm := .none },
  { cls := 9, slots := #[.null, .int 3, .int 0, .null, .null, .ref 2], vm := .none },
  { cls := 21, slots := #[.null, .int 4, .int 0, .null, .null, .ref 2], vm := .none },
  { cls := 10, slots := #[.null, .int 5, .int 0, .null, .null, .ref 2], vm := .none },
  { cls := 12, slots := #[.null, .int 6, .int 0, .null, .null, .ref 4], vm := .none },
  { cls := 14, slots := #[.null, .int 7, .int 0, .null, .null, .ref 4], vm := .none },
  { cls := 18, slots := #[.null, .int 8, .int 0, .null, .null, .ref 4], vm := .none },
  { cls := 22, slots := #[.null, .int 9, .int 0, .null, .null, .ref 6], vm := .none },
  { cls := 17, slots := #[.null, .int 10, .int 0, .null, .null, .ref 3], vm := .none },
  { cls := 16, slots := #[.null, .int 11, .int 0, .null, .null, .ref 3], vm := .none },
  { cls := 20, slots := #[.null, .int 12, .int 0, .null, .null, .ref 3], vm := .none },
  { cls := 11, slots := #[.null, .int 13, .int 0, .null, .null, .ref 3], vm := .none },
  { cls := 13, slots := #[.null, .int 14, .int 0, .null, .null, .ref 5], vm := .none }]
def classes : Array Class := #[k0, k1, k2, k3, k4, k5, k6, k7, k8, k9, k10, k11, k12, k13, k14, k15, k16, k17, k18, k19, k20, k21, k22, k23, k24, k25, k26, k27]
def interned : List (Array UInt16 × Addr) := []
def slotsUsed : Nat := 138
def theMethod : MethodId := ⟨1, 2⟩
def args0 : Array Value := #[.int 5]
def aboutOver (below : List Frame) : State where
  vm := { classes := classes, interned := interned.toArray }
  heap := heap
  slotsUsed := slotsUsed
  threads := #[{ frames := .invoking theMethod args0 :: below }]
def below0 : List Frame := [.native { method := ⟨0, 0⟩, args := #[] }]
def about1 : State := aboutOver below0
def p0 : Program := .bare "" "" ""
def e0 : Env := launch0.env 0 0 0
theorem w_frames : about1.frames = Frame.invoking theMethod args0 :: below0 := rfl
set_option maxRecDepth 65536 in
theorem w_args : argsFit about1.vm theMethod args0 = true := by decide +kernel
set_option maxRecDepth 65536 in
theorem w_heap : heapFits about1 = true := by decide +kernel
set_option maxRecDepth 65536 in
theorem w_runnable : about1.curStatus? = some .runnable := by decide +kernel
set_option maxRecDepth 65536 in
theorem w_alone : about1.alone = true := by decide +kernel
set_option maxRecDepth 65536 in
theorem w_named : about1.methodNamed? x = some theMethod := by decide +kernel
set_option maxRecDepth 65536 in
theorem w_hears : about1.hears theMethod below0 = true := by decide +kernel
set_option maxRecDepth 65536 in
theorem w_ripe : about1.ripe theMethod args0 below0 = true := by decide +kernel
theorem w_running : about1.status = .running := rfl
set_option maxRecDepth 65536 in
theorem w_room : about1.hasRoom e0.platform room_1 = true :=
  launch0.hasRoom_least _ room_1 (by decide +kernel) (by decide +kernel) (by decide +kernel) (by decide +kernel) (by decide +kernel) (by decide +kernel)
theorem allAtoms_all (ts : List Jvm.Cond) (a : Array Jvm.Value) (st : Jvm.State) : (allAtoms ts).before a st = ts.all (fun c => c.before a st) := by
  induction ts with
  | nil => rfl
  | cons c t ih =>
    show (Jvm.Cond.and c (allAtoms t)).before a st = _
    rw [Jvm.Cond.before_and, ih, List.all_cons]
def words1 : List Jvm.Cond := Jvm.Cond.code x code maxLocals ret :: tables_1
/-- a 'code' word, met by the world's own term for the bytes: nothing is compared byte by byte -/
theorem code_word {y : MethodName} {bytes : ByteArray} {mx : Nat} {rt : Option FieldType} {a : Array Value} {s : State} {m : MethodId} {meth : Method} {c : Code} (h1 : s.methodNamed? y = some m) (h2 : s.vm.method? m = some meth) (h3 : meth.code = some c) (h4 : c.code = bytes)
    (h5 : (c.maxLocals == mx && c.exceptionTable.isEmpty && decide (c.maxStack ≤ mostOperands) && decide (meth.sig.returnType = rt) && !meth.locks && decide (parseMethodDescriptor y.desc = some meth.sig)) = true) : (Jvm.Cond.code y bytes mx rt).before a s = true := by
  simp only [Bool.and_eq_true, beq_iff_eq, Bool.not_eq_true', decide_eq_true_eq] at h5
  obtain ⟨⟨⟨⟨⟨g1, g2⟩, g3⟩, g4⟩, g5⟩, g6⟩ := h5
  simp [Cond.before, Cond.holds, Cond.value, h1, h2, h3, h4, g1, g2, g3, g4, g5, g6]
def isCode : Jvm.Cond → Bool
  | .code _ _ _ _ => true
  | _ => false
theorem all_split {L : List Jvm.Cond} {P : Jvm.Cond → Bool} (h1 : L.all (fun c => isCode c || P c) = true) (h2 : ∀ c ∈ L.filter isCode, P c = true) : L.all P = true := by
  refine List.all_eq_true.mpr fun c hc => ?_
  have h := List.all_eq_true.mp h1 c hc
  rcases Bool.eq_false_or_eq_true (isCode c) with hi | hi
  · exact h2 c (List.mem_filter.mpr ⟨hc, hi⟩)
  · simpa [hi] using h
set_option maxRecDepth 65536 in
theorem w_c0 : (Jvm.Cond.code x code maxLocals ret).before args0 about1 = true := code_word (m := ⟨1, 2⟩) (meth := k1m2) (c := k1c2) (by decide +kernel) rfl rfl rfl (by decide +kernel)
set_option maxRecDepth 65536 in
theorem w_c1 : (Jvm.Cond.code ({ cls := "com/example/dim2/dim2/catalog/DataTypeIsWholeNumberPinLaw", name := "pick", desc := "(I)Lcom/example/dim2/dim2/catalog/DataType;" } : Jvm.MethodName) method_2_code (1 : Nat) (Option.some (Jvm.ClassFile.FieldType.object "com/example/dim2/dim2/catalog/DataType"))).before args0 about1 = true := code_word (m := ⟨1, 1⟩) (meth := k1m1) (c := k1c1) (by decide +kernel) rfl rfl rfl (by decide +kernel)
set_option maxRecDepth 65536 in
theorem w_c2 : (Jvm.Cond.code ({ cls := "com/example/dim2/dim2/catalog/DataType", name := "isWholeNumber", desc := "()Z" } : Jvm.MethodName) prog_13_method_8_code (1 : Nat) (Option.some Jvm.ClassFile.FieldType.boolean)).before args0 about1 = true := code_word (m := ⟨6, 1⟩) (meth := k6m1) (c := k6c1) (by decide +kernel) rfl rfl rfl (by decide +kernel)
set_option maxRecDepth 65536 in
theorem w_c3 : (Jvm.Cond.code ({ cls := "com/example/dim2/dim2/catalog/DataType", name := "isNumber", desc := "()Z" } : Jvm.MethodName) prog_13_method_7_code (1 : Nat) (Option.some Jvm.ClassFile.FieldType.boolean)).before args0 about1 = true := code_word (m := ⟨6, 0⟩) (meth := k6m0) (c := k6c0) (by decide +kernel) rfl rfl rfl (by decide +kernel)
def codes1 : List Jvm.Cond := [Jvm.Cond.code x code maxLocals ret, Jvm.Cond.code ({ cls := "com/example/dim2/dim2/catalog/DataTypeIsWholeNumberPinLaw", name := "pick", desc := "(I)Lcom/example/dim2/dim2/catalog/DataType;" } : Jvm.MethodName) method_2_code (1 : Nat) (Option.some (Jvm.ClassFile.FieldType.object "com/example/dim2/dim2/catalog/DataType")), Jvm.Cond.code ({ cls := "com/example/dim2/dim2/catalog/DataType", name := "isWholeNumber", desc := "()Z" } : Jvm.MethodName) prog_13_method_8_code (1 : Nat) (Option.some Jvm.ClassFile.FieldType.boolean), Jvm.Cond.code ({ cls := "com/example/dim2/dim2/catalog/DataType", name := "isNumber", desc := "()Z" } : Jvm.MethodName) prog_13_method_7_code (1 : Nat) (Option.some Jvm.ClassFile.FieldType.boolean)]
set_option maxRecDepth 65536 in
theorem codes_eq : words1.filter isCode = codes1 := rfl
theorem w_codes : ∀ c ∈ words1.filter isCode, c.before args0 about1 = true := by
  rw [codes_eq]
  intro c hc
  simp only [codes1, List.mem_cons, List.not_mem_nil, or_false] at hc
  rcases hc with rfl | rfl | rfl | rfl
  · exact w_c0
  · exact w_c1
  · exact w_c2
  · exact w_c3
set_option maxRecDepth 65536 in
theorem w_t1 : (words1.take 24).all (fun c => isCode c || c.before args0 about1) = true := by decide +kernel
set_option maxRecDepth 65536 in
theorem w_t2 : ((words1.drop 24).take 24).all (fun c => isCode c || c.before args0 about1) = true := by decide +kernel
set_option maxRecDepth 65536 in
theorem w_t3 : (((words1.drop 24).drop 24).take 24).all (fun c => isCode c || c.before args0 about1) = true := by decide +kernel
set_option maxRecDepth 65536 in
theorem w_t4 : (((words1.drop 24).drop 24).drop 24).all (fun c => isCode c || c.before args0 about1) = true := by decide +kernel
theorem w_tables : (allAtoms (Jvm.Cond.code x code maxLocals ret :: tables_1)).before args0 about1 = true := by
  rw [allAtoms_all]
  show words1.all (fun c => c.before args0 about1) = true
  refine all_split ?_ w_codes
  rw [← List.take_append_drop 24 words1, List.all_append, w_t1, ← List.take_append_drop 24 (words1.drop 24), List.all_append, w_t2, ← List.take_append_drop 24 ((words1.drop 24).drop 24), List.all_append, w_t3, w_t4]
  rfl
set_option maxRecDepth 65536 in
theorem w_case : (Jvm.Cond.and given_1 narrow_1).before args0 about1 = true := by decide +kernel
theorem w_applies : (headSpec (Jvm.Cond.code x code maxLocals ret :: tables_1) room_1).applies x e0.platform about1 = true :=
  (Spec.applies_iff w_frames).mpr ⟨w_running, w_runnable, w_alone, w_named, w_hears, w_ripe, w_room, w_tables⟩
theorem atStart : AtStart classFile x code maxLocals ret World_1 tables_1 room_1 Calls_1 rest_1 Pre_1 launch0 p0 e0 about1 theMethod args0 below0 :=
  ⟨lists_1, trivial, launch0.admits_env _ _ _, launch0.least_env, fairChoices_fair.cas, fairChoices_fair.clock, w_frames, w_args, w_heap, w_applies, trivial, trivial, w_case⟩
end start1
theorem witness_1 : WitnessClaimed_1 := ⟨start1.p0, start1.e0, start1.about1, start1.theMethod, start1.args0, start1.below0, start1.atStart⟩
end Jvm.Pilot.@@N@@
