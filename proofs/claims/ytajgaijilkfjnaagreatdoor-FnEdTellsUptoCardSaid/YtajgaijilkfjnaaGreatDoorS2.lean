/-
 The reckoner at this program: types, functions and calls known beforehand.
-/
import Derived.Test.YtajgaijilkfjnaaGreatDoorChecked
import Derived.KernelRfl
import Derived.Shelf.Bits.Mul64
import Derived.Test.YtajgaijilkfjnaaGreatDoorProg
import Derived.WalkKit
import Derived.Defers
import Derived.Tactics
import Derived.Tactics2
import Derived.Test.YtajgaijilkfjnaaGreatDoorE5
import Derived.Test.YtajgaijilkfjnaaGreatDoorX2
import Derived.Test.YtajgaijilkfjnaaGreatDoorX3
set_option linter.unusedVariables false
set_option linter.unusedSimpArgs false
namespace Go.Eng
open Go Go.RowKit Go.Proofs
set_option maxRecDepth 100000
noncomputable def tyT : Tr TypeInfo := (.nd (.nd (.nd (.nd (.nd (.nd (.nd (.nd (.nd .lf (some Tryz.t255) .lf) (some Tryz.t127) .lf) (some Tryz.t63) (.nd .lf (some Tryz.t191) .lf)) (some Tryz.t31) (.nd (.nd (.nd .lf (some Tryz.t287) .lf) (some Tryz.t159) .lf) (some Tryz.t95) (.nd .lf (some Tryz.t223) .lf))) (some Tryz.t15) (.nd (.nd (.nd (.nd .lf (some Tryz.t271) .lf) (some Tryz.t143) .lf) (some Tryz.t79) (.nd .lf (some Tryz.t207) .lf)) (some Tryz.t47) (.nd (.nd .lf (some Tryz.t175) .lf) (some Tryz.t111) (.nd .lf (some Tryz.t239) .lf)))) (some Tryz.t7) (.nd (.nd (.nd (.nd (.nd .lf (some Tryz.t263) .lf) (some Tryz.t135) .lf) (some Tryz.t71) (.nd .lf (some Tryz.t199) .lf)) (some Tryz.t39) (.nd (.nd (.nd .lf (some Tryz.t295) .lf) (some Tryz.t167) .lf) (some Tryz.t103) (.nd .lf (some Tryz.t231) .lf))) (some Tryz.t23) (.nd (.nd (.nd (.nd .lf (some Tryz.t279) .lf) (some Tryz.t151) .lf) (some Tryz.t87) (.nd .lf (some Tryz.t215) .lf)) (some Tryz.t55) (.nd (.nd .lf (some Tryz.t183) .lf) (some Tryz.t119) (.nd .lf (some Tryz.t247) .lf))))) (some Tryz.t3) (.nd (.nd (.nd (.nd (.nd (.nd .lf (some Tryz.t259) .lf) (some Tryz.t131) .lf) (some Tryz.t67) (.nd .lf (some Tryz.t195) .lf)) (some Tryz.t35) (.nd (.nd (.nd .lf (some Tryz.t291) .lf) (some Tryz.t163) .lf) (some Tryz.t99) (.nd .lf (some Tryz.t227) .lf))) (some Tryz.t19) (.nd (.nd (.nd (.nd .lf (some Tryz.t275) .lf) (some Tryz.t147) .lf) (some Tryz.t83) (.nd .lf (some Tryz.t211) .lf)) (some Tryz.t51) (.nd (.nd .lf (some Tryz.t179) .lf) (some Tryz.t115) (.nd .lf (some Tryz.t243) .lf)))) (some Tryz.t11) (.nd (.nd (.nd (.nd (.nd .lf (some Tryz.t267) .lf) (some Tryz.t139) .lf) (some Tryz.t75) (.nd .lf (some Tryz.t203) .lf)) (some Tryz.t43) (.nd (.nd (.nd .lf (some Tryz.t299) .lf) (some Tryz.t171) .lf) (some Tryz.t107) (.nd .lf (some Tryz.t235) .lf))) (some Tryz.t27) (.nd (.nd (.nd (.nd .lf (some Tryz.t283) .lf) (some Tryz.t155) .lf) (some Tryz.t91) (.nd .lf (some Tryz.t219) .lf)) (some Tryz.t59) (.nd (.nd .lf (some Tryz.t187) .lf) (some Tryz.t123) (.nd .lf (some Tryz.t251) .lf)))))) (some Tryz.t1) (.nd (.nd (.nd (.nd (.nd (.nd (.nd .lf (some Tryz.t257) .lf) (some Tryz.t129) .lf) (some Tryz.t65) (.nd .lf (some Tryz.t193) .lf)) (some Tryz.t33) (.nd (.nd (.nd .lf (some Tryz.t289) .lf) (some Tryz.t161) .lf) (some Tryz.t97) (.nd .lf (some Tryz.t225) .lf))) (some Tryz.t17) (.nd (.nd (.nd (.nd .lf (some Tryz.t273) .lf) (some Tryz.t145) .lf) (some Tryz.t81) (.nd .lf (some Tryz.t209) .lf)) (some Tryz.t49) (.nd (.nd .lf (some Tryz.t177) .lf) (some Tryz.t113) (.nd .lf (some Tryz.t241) .lf)))) (some Tryz.t9) (.nd (.nd (.nd (.nd (.nd .lf (some Tryz.t265) .lf) (some Tryz.t137) .lf) (some Tryz.t73) (.nd .lf (some Tryz.t201) .lf)) (some Tryz.t41) (.nd (.nd (.nd .lf (some Tryz.t297) .lf) (some Tryz.t169) .lf) (some Tryz.t105) (.nd .lf (some Tryz.t233) .lf))) (some Tryz.t25) (.nd (.nd (.nd (.nd .lf (some Tryz.t281) .lf) (some Tryz.t153) .lf) (some Tryz.t89) (.nd .lf (some Tryz.t217) .lf)) (some Tryz.t57) (.nd (.nd .lf (some Tryz.t185) .lf) (some Tryz.t121) (.nd .lf (some Tryz.t249) .lf))))) (some Tryz.t5) (.nd (.nd (.nd (.nd (.nd (.nd .lf (some Tryz.t261) .lf) (some Tryz.t133) .lf) (some Tryz.t69) (.nd .lf (some Tryz.t197) .lf)) (some Tryz.t37) (.nd (.nd (.nd .lf (some Tryz.t293) .lf) (some Tryz.t165) .lf) (some Tryz.t101) (.nd .lf (some Tryz.t229) .lf))) (some Tryz.t21) (.nd (.nd (.nd (.nd .lf (some Tryz.t277) .lf) (some Tryz.t149) .lf) (some Tryz.t85) (.nd .lf (some Tryz.t213) .lf)) (some Tryz.t53) (.nd (.nd .lf (some Tryz.t181) .lf) (some Tryz.t117) (.nd .lf (some Tryz.t245) .lf)))) (some Tryz.t13) (.nd (.nd (.nd (.nd (.nd .lf (some Tryz.t269) .lf) (some Tryz.t141) .lf) (some Tryz.t77) (.nd .lf (some Tryz.t205) .lf)) (some Tryz.t45) (.nd (.nd .lf (some Tryz.t173) .lf) (some Tryz.t109) (.nd .lf (some Tryz.t237) .lf))) (some Tryz.t29) (.nd (.nd (.nd (.nd .lf (some Tryz.t285) .lf) (some Tryz.t157) .lf) (some Tryz.t93) (.nd .lf (some Tryz.t221) .lf)) (some Tryz.t61) (.nd (.nd .lf (some Tryz.t189) .lf) (some Tryz.t125) (.nd .lf (some Tryz.t253) .lf))))))) (some Tryz.t0) (.nd (.nd (.nd (.nd (.nd (.nd (.nd (.nd .lf (some Tryz.t256) .lf) (some Tryz.t128) .lf) (some Tryz.t64) (.nd .lf (some Tryz.t192) .lf)) (some Tryz.t32) (.nd (.nd (.nd .lf (some Tryz.t288) .lf) (some Tryz.t160) .lf) (some Tryz.t96) (.nd .lf (some Tryz.t224) .lf))) (some Tryz.t16) (.nd (.nd (.nd (.nd .lf (some Tryz.t272) .lf) (some Tryz.t144) .lf) (some Tryz.t80) (.nd .lf (some Tryz.t208) .lf)) (some Tryz.t48) (.nd (.nd .lf (some Tryz.t176) .lf) (some Tryz.t112) (.nd .lf (some Tryz.t240) .lf)))) (some Tryz.t8) (.nd (.nd (.nd (.nd (.nd .lf (some Tryz.t264) .lf) (some Tryz.t136) .lf) (some Tryz.t72) (.nd .lf (some Tryz.t200) .lf)) (some Tryz.t40) (.nd (.nd (.nd .lf (some Tryz.t296) .lf) (some Tryz.t168) .lf) (some Tryz.t104) (.nd .lf (some Tryz.t232) .lf))) (some Tryz.t24) (.nd (.nd (.nd (.nd .lf (some Tryz.t280) .lf) (some Tryz.t152) .lf) (some Tryz.t88) (.nd .lf (some Tryz.t216) .lf)) (some Tryz.t56) (.nd (.nd .lf (some Tryz.t184) .lf) (some Tryz.t120) (.nd .lf (some Tryz.t248) .lf))))) (some Tryz.t4) (.nd (.nd (.nd (.nd (.nd (.nd .lf (some Tryz.t260) .lf) (some Tryz.t132) .lf) (some Tryz.t68) (.nd .lf (some Tryz.t196) .lf)) (some Tryz.t36) (.nd (.nd (.nd .lf (some Tryz.t292) .lf) (some Tryz.t164) .lf) (some Tryz.t100) (.nd .lf (some Tryz.t228) .lf))) (some Tryz.t20) (.nd (.nd (.nd (.nd .lf (some Tryz.t276) .lf) (some Tryz.t148) .lf) (some Tryz.t84) (.nd .lf (some Tryz.t212) .lf)) (some Tryz.t52) (.nd (.nd .lf (some Tryz.t180) .lf) (some Tryz.t116) (.nd .lf (some Tryz.t244) .lf)))) (some Tryz.t12) (.nd (.nd (.nd (.nd (.nd .lf (some Tryz.t268) .lf) (some Tryz.t140) .lf) (some Tryz.t76) (.nd .lf (some Tryz.t204) .lf)) (some Tryz.t44) (.nd (.nd .lf (some Tryz.t172) .lf) (some Tryz.t108) (.nd .lf (some Tryz.t236) .lf))) (some Tryz.t28) (.nd (.nd (.nd (.nd .lf (some Tryz.t284) .lf) (some Tryz.t156) .lf) (some Tryz.t92) (.nd .lf (some Tryz.t220) .lf)) (some Tryz.t60) (.nd (.nd .lf (some Tryz.t188) .lf) (some Tryz.t124) (.nd .lf (some Tryz.t252) .lf)))))) (some Tryz.t2) (.nd (.nd (.nd (.nd (.nd (.nd (.nd .lf (some Tryz.t258) .lf) (some Tryz.t130) .lf) (some Tryz.t66) (.nd .lf (some Tryz.t194) .lf)) (some Tryz.t34) (.nd (.nd (.nd .lf (some Tryz.t290) .lf) (some Tryz.t162) .lf) (some Tryz.t98) (.nd .lf (some Tryz.t226) .lf))) (some Tryz.t18) (.nd (.nd (.nd (.nd .lf (some Tryz.t274) .lf) (some Tryz.t146) .lf) (some Tryz.t82) (.nd .lf (some Tryz.t210) .lf)) (some Tryz.t50) (.nd (.nd .lf (some Tryz.t178) .lf) (some Tryz.t114) (.nd .lf (some Tryz.t242) .lf)))) (some Tryz.t10) (.nd (.nd (.nd (.nd (.nd .lf (some Tryz.t266) .lf) (some Tryz.t138) .lf) (some Tryz.t74) (.nd .lf (some Tryz.t202) .lf)) (some Tryz.t42) (.nd (.nd (.nd .lf (some Tryz.t298) .lf) (some Tryz.t170) .lf) (some Tryz.t106) (.nd .lf (some Tryz.t234) .lf))) (some Tryz.t26) (.nd (.nd (.nd (.nd .lf (some Tryz.t282) .lf) (some Tryz.t154) .lf) (some Tryz.t90) (.nd .lf (some Tryz.t218) .lf)) (some Tryz.t58) (.nd (.nd .lf (some Tryz.t186) .lf) (some Tryz.t122) (.nd .lf (some Tryz.t250) .lf))))) (some Tryz.t6) (.nd (.nd (.nd (.nd (.nd (.nd .lf (some Tryz.t262) .lf) (some Tryz.t134) .lf) (some Tryz.t70) (.nd .lf (some Tryz.t198) .lf)) (some Tryz.t38) (.nd (.nd (.nd .lf (some Tryz.t294) .lf) (some Tryz.t166) .lf) (some Tryz.t102) (.nd .lf (some Tryz.t230) .lf))) (some Tryz.t22) (.nd (.nd (.nd (.nd .lf (some Tryz.t278) .lf) (some Tryz.t150) .lf) (some Tryz.t86) (.nd .lf (some Tryz.t214) .lf)) (some Tryz.t54) (.nd (.nd .lf (some Tryz.t182) .lf) (some Tryz.t118) (.nd .lf (some Tryz.t246) .lf)))) (some Tryz.t14) (.nd (.nd (.nd (.nd (.nd .lf (some Tryz.t270) .lf) (some Tryz.t142) .lf) (some Tryz.t78) (.nd .lf (some Tryz.t206) .lf)) (some Tryz.t46) (.nd (.nd .lf (some Tryz.t174) .lf) (some Tryz.t110) (.nd .lf (some Tryz.t238) .lf))) (some Tryz.t30) (.nd (.nd (.nd (.nd .lf (some Tryz.t286) .lf) (some Tryz.t158) .lf) (some Tryz.t94) (.nd .lf (some Tryz.t222) .lf)) (some Tryz.t62) (.nd (.nd .lf (some Tryz.t190) .lf) (some Tryz.t126) (.nd .lf (some Tryz.t254) .lf))))))))
theorem tyT_eq : tyT = mkTr 12 Tryz.prog.types.toList := by kernel_rfl
theorem tyOK {t : TypeId} {i : TypeInfo} (h : tyT.get t = some i) : Tryz.prog.info? t = some i := by
 have h1 := tab_ok tyT_eq h
 have h2 : Tryz.prog.types[t]? = some i := by simpa using h1
 have h3 : t < Tryz.prog.types.size := (Array.getElem?_eq_some_iff.1 h2).1
 show (if t < Tryz.prog.types.size then Tryz.prog.types[t]? else _) = _
 rw [if_pos h3]; exact h2
noncomputable def fnT : Tr Func := (.nd (.nd (.nd (.nd (.nd (.nd (.nd (.nd (.nd .lf (some Tryz.f255) .lf) (some Tryz.f127) .lf) (some Tryz.f63) (.nd .lf (some Tryz.f191) .lf)) (some Tryz.f31) (.nd (.nd (.nd .lf (some Tryz.f287) .lf) (some Tryz.f159) .lf) (some Tryz.f95) (.nd .lf (some Tryz.f223) .lf))) (some Tryz.f15) (.nd (.nd (.nd (.nd .lf (some Tryz.f271) .lf) (some Tryz.f143) .lf) (some Tryz.f79) (.nd .lf (some Tryz.f207) .lf)) (some Tryz.f47) (.nd (.nd (.nd .lf (some Tryz.f303) .lf) (some Tryz.f175) .lf) (some Tryz.f111) (.nd .lf (some Tryz.f239) .lf)))) (some Tryz.f7) (.nd (.nd (.nd (.nd (.nd .lf (some Tryz.f263) .lf) (some Tryz.f135) .lf) (some Tryz.f71) (.nd .lf (some Tryz.f199) .lf)) (some Tryz.f39) (.nd (.nd (.nd .lf (some Tryz.f295) .lf) (some Tryz.f167) .lf) (some Tryz.f103) (.nd .lf (some Tryz.f231) .lf))) (some Tryz.f23) (.nd (.nd (.nd (.nd .lf (some Tryz.f279) .lf) (some Tryz.f151) .lf) (some Tryz.f87) (.nd .lf (some Tryz.f215) .lf)) (some Tryz.f55) (.nd (.nd (.nd .lf (some Tryz.f311) .lf) (some Tryz.f183) .lf) (some Tryz.f119) (.nd .lf (some Tryz.f247) .lf))))) (some Tryz.f3) (.nd (.nd (.nd (.nd (.nd (.nd .lf (some Tryz.f259) .lf) (some Tryz.f131) .lf) (some Tryz.f67) (.nd .lf (some Tryz.f195) .lf)) (some Tryz.f35) (.nd (.nd (.nd .lf (some Tryz.f291) .lf) (some Tryz.f163) .lf) (some Tryz.f99) (.nd .lf (some Tryz.f227) .lf))) (some Tryz.f19) (.nd (.nd (.nd (.nd .lf (some Tryz.f275) .lf) (some Tryz.f147) .lf) (some Tryz.f83) (.nd .lf (some Tryz.f211) .lf)) (some Tryz.f51) (.nd (.nd (.nd .lf (some Tryz.f307) .lf) (some Tryz.f179) .lf) (some Tryz.f115) (.nd .lf (some Tryz.f243) .lf)))) (some Tryz.f11) (.nd (.nd (.nd (.nd (.nd .lf (some Tryz.f267) .lf) (some Tryz.f139) .lf) (some Tryz.f75) (.nd .lf (some Tryz.f203) .lf)) (some Tryz.f43) (.nd (.nd (.nd .lf (some Tryz.f299) .lf) (some Tryz.f171) .lf) (some Tryz.f107) (.nd .lf (some Tryz.f235) .lf))) (some Tryz.f27) (.nd (.nd (.nd (.nd .lf (some Tryz.f283) .lf) (some Tryz.f155) .lf) (some Tryz.f91) (.nd .lf (some Tryz.f219) .lf)) (some Tryz.f59) (.nd (.nd .lf (some Tryz.f187) .lf) (some Tryz.f123) (.nd .lf (some Tryz.f251) .lf)))))) (some Tryz.f1) (.nd (.nd (.nd (.nd (.nd (.nd (.nd .lf (some Tryz.f257) .lf) (some Tryz.f129) .lf) (some Tryz.f65) (.nd .lf (some Tryz.f193) .lf)) (some Tryz.f33) (.nd (.nd (.nd .lf (some Tryz.f289) .lf) (some Tryz.f161) .lf) (some Tryz.f97) (.nd .lf (some Tryz.f225) .lf))) (some Tryz.f17) (.nd (.nd (.nd (.nd .lf (some Tryz.f273) .lf) (some Tryz.f145) .lf) (some Tryz.f81) (.nd .lf (some Tryz.f209) .lf)) (some Tryz.f49) (.nd (.nd (.nd .lf (some Tryz.f305) .lf) (some Tryz.f177) .lf) (some Tryz.f113) (.nd .lf (some Tryz.f241) .lf)))) (some Tryz.f9) (.nd (.nd (.nd (.nd (.nd .lf (some Tryz.f265) .lf) (some Tryz.f137) .lf) (some Tryz.f73) (.nd .lf (some Tryz.f201) .lf)) (some Tryz.f41) (.nd (.nd (.nd .lf (some Tryz.f297) .lf) (some Tryz.f169) .lf) (some Tryz.f105) (.nd .lf (some Tryz.f233) .lf))) (some Tryz.f25) (.nd (.nd (.nd (.nd .lf (some Tryz.f281) .lf) (some Tryz.f153) .lf) (some Tryz.f89) (.nd .lf (some Tryz.f217) .lf)) (some Tryz.f57) (.nd (.nd .lf (some Tryz.f185) .lf) (some Tryz.f121) (.nd .lf (some Tryz.f249) .lf))))) (some Tryz.f5) (.nd (.nd (.nd (.nd (.nd (.nd .lf (some Tryz.f261) .lf) (some Tryz.f133) .lf) (some Tryz.f69) (.nd .lf (some Tryz.f197) .lf)) (some Tryz.f37) (.nd (.nd (.nd .lf (some Tryz.f293) .lf) (some Tryz.f165) .lf) (some Tryz.f101) (.nd .lf (some Tryz.f229) .lf))) (some Tryz.f21) (.nd (.nd (.nd (.nd .lf (some Tryz.f277) .lf) (some Tryz.f149) .lf) (some Tryz.f85) (.nd .lf (some Tryz.f213) .lf)) (some Tryz.f53) (.nd (.nd (.nd .lf (some Tryz.f309) .lf) (some Tryz.f181) .lf) (some Tryz.f117) (.nd .lf (some Tryz.f245) .lf)))) (some Tryz.f13) (.nd (.nd (.nd (.nd (.nd .lf (some Tryz.f269) .lf) (some Tryz.f141) .lf) (some Tryz.f77) (.nd .lf (some Tryz.f205) .lf)) (some Tryz.f45) (.nd (.nd (.nd .lf (some Tryz.f301) .lf) (some Tryz.f173) .lf) (some Tryz.f109) (.nd .lf (some Tryz.f237) .lf))) (some Tryz.f29) (.nd (.nd (.nd (.nd .lf (some Tryz.f285) .lf) (some Tryz.f157) .lf) (some Tryz.f93) (.nd .lf (some Tryz.f221) .lf)) (some Tryz.f61) (.nd (.nd .lf (some Tryz.f189) .lf) (some Tryz.f125) (.nd .lf (some Tryz.f253) .lf))))))) (some Tryz.f0) (.nd (.nd (.nd (.nd (.nd (.nd (.nd (.nd .lf (some Tryz.f256) .lf) (some Tryz.f128) .lf) (some Tryz.f64) (.nd .lf (some Tryz.f192) .lf)) (some Tryz.f32) (.nd (.nd (.nd .lf (some Tryz.f288) .lf) (some Tryz.f160) .lf) (some Tryz.f96) (.nd .lf (some Tryz.f224) .lf))) (some Tryz.f16) (.nd (.nd (.nd (.nd .lf (some Tryz.f272) .lf) (some Tryz.f144) .lf) (some Tryz.f80) (.nd .lf (some Tryz.f208) .lf)) (some Tryz.f48) (.nd (.nd (.nd .lf (some Tryz.f304) .lf) (some Tryz.f176) .lf) (some Tryz.f112) (.nd .lf (some Tryz.f240) .lf)))) (some Tryz.f8) (.nd (.nd (.nd (.nd (.nd .lf (some Tryz.f264) .lf) (some Tryz.f136) .lf) (some Tryz.f72) (.nd .lf (some Tryz.f200) .lf)) (some Tryz.f40) (.nd (.nd (.nd .lf (some Tryz.f296) .lf) (some Tryz.f168) .lf) (some Tryz.f104) (.nd .lf (some Tryz.f232) .lf))) (some Tryz.f24) (.nd (.nd (.nd (.nd .lf (some Tryz.f280) .lf) (some Tryz.f152) .lf) (some Tryz.f88) (.nd .lf (some Tryz.f216) .lf)) (some Tryz.f56) (.nd (.nd .lf (some Tryz.f184) .lf) (some Tryz.f120) (.nd .lf (some Tryz.f248) .lf))))) (some Tryz.f4) (.nd (.nd (.nd (.nd (.nd (.nd .lf (some Tryz.f260) .lf) (some Tryz.f132) .lf) (some Tryz.f68) (.nd .lf (some Tryz.f196) .lf)) (some Tryz.f36) (.nd (.nd (.nd .lf (some Tryz.f292) .lf) (some Tryz.f164) .lf) (some Tryz.f100) (.nd .lf (some Tryz.f228) .lf))) (some Tryz.f20) (.nd (.nd (.nd (.nd .lf (some Tryz.f276) .lf) (some Tryz.f148) .lf) (some Tryz.f84) (.nd .lf (some Tryz.f212) .lf)) (some Tryz.f52) (.nd (.nd (.nd .lf (some Tryz.f308) .lf) (some Tryz.f180) .lf) (some Tryz.f116) (.nd .lf (some Tryz.f244) .lf)))) (some Tryz.f12) (.nd (.nd (.nd (.nd (.nd .lf (some Tryz.f268) .lf) (some Tryz.f140) .lf) (some Tryz.f76) (.nd .lf (some Tryz.f204) .lf)) (some Tryz.f44) (.nd (.nd (.nd .lf (some Tryz.f300) .lf) (some Tryz.f172) .lf) (some Tryz.f108) (.nd .lf (some Tryz.f236) .lf))) (some Tryz.f28) (.nd (.nd (.nd (.nd .lf (some Tryz.f284) .lf) (some Tryz.f156) .lf) (some Tryz.f92) (.nd .lf (some Tryz.f220) .lf)) (some Tryz.f60) (.nd (.nd .lf (some Tryz.f188) .lf) (some Tryz.f124) (.nd .lf (some Tryz.f252) .lf)))))) (some Tryz.f2) (.nd (.nd (.nd (.nd (.nd (.nd (.nd .lf (some Tryz.f258) .lf) (some Tryz.f130) .lf) (some Tryz.f66) (.nd .lf (some Tryz.f194) .lf)) (some Tryz.f34) (.nd (.nd (.nd .lf (some Tryz.f290) .lf) (some Tryz.f162) .lf) (some Tryz.f98) (.nd .lf (some Tryz.f226) .lf))) (some Tryz.f18) (.nd (.nd (.nd (.nd .lf (some Tryz.f274) .lf) (some Tryz.f146) .lf) (some Tryz.f82) (.nd .lf (some Tryz.f210) .lf)) (some Tryz.f50) (.nd (.nd (.nd .lf (some Tryz.f306) .lf) (some Tryz.f178) .lf) (some Tryz.f114) (.nd .lf (some Tryz.f242) .lf)))) (some Tryz.f10) (.nd (.nd (.nd (.nd (.nd .lf (some Tryz.f266) .lf) (some Tryz.f138) .lf) (some Tryz.f74) (.nd .lf (some Tryz.f202) .lf)) (some Tryz.f42) (.nd (.nd (.nd .lf (some Tryz.f298) .lf) (some Tryz.f170) .lf) (some Tryz.f106) (.nd .lf (some Tryz.f234) .lf))) (some Tryz.f26) (.nd (.nd (.nd (.nd .lf (some Tryz.f282) .lf) (some Tryz.f154) .lf) (some Tryz.f90) (.nd .lf (some Tryz.f218) .lf)) (some Tryz.f58) (.nd (.nd .lf (some Tryz.f186) .lf) (some Tryz.f122) (.nd .lf (some Tryz.f250) .lf))))) (some Tryz.f6) (.nd (.nd (.nd (.nd (.nd (.nd .lf (some Tryz.f262) .lf) (some Tryz.f134) .lf) (some Tryz.f70) (.nd .lf (some Tryz.f198) .lf)) (some Tryz.f38) (.nd (.nd (.nd .lf (some Tryz.f294) .lf) (some Tryz.f166) .lf) (some Tryz.f102) (.nd .lf (some Tryz.f230) .lf))) (some Tryz.f22) (.nd (.nd (.nd (.nd .lf (some Tryz.f278) .lf) (some Tryz.f150) .lf) (some Tryz.f86) (.nd .lf (some Tryz.f214) .lf)) (some Tryz.f54) (.nd (.nd (.nd .lf (some Tryz.f310) .lf) (some Tryz.f182) .lf) (some Tryz.f118) (.nd .lf (some Tryz.f246) .lf)))) (some Tryz.f14) (.nd (.nd (.nd (.nd (.nd .lf (some Tryz.f270) .lf) (some Tryz.f142) .lf) (some Tryz.f78) (.nd .lf (some Tryz.f206) .lf)) (some Tryz.f46) (.nd (.nd (.nd .lf (some Tryz.f302) .lf) (some Tryz.f174) .lf) (some Tryz.f110) (.nd .lf (some Tryz.f238) .lf))) (some Tryz.f30) (.nd (.nd (.nd (.nd .lf (some Tryz.f286) .lf) (some Tryz.f158) .lf) (some Tryz.f94) (.nd .lf (some Tryz.f222) .lf)) (some Tryz.f62) (.nd (.nd .lf (some Tryz.f190) .lf) (some Tryz.f126) (.nd .lf (some Tryz.f254) .lf))))))))
theorem fnT_eq : fnT = mkTr 12 Tryz.prog.funcs.toList := by kernel_rfl
theorem fnNames : (Tryz.prog.funcs.toList.all fun fn => !(fn.name == "runtime.NumGoroutine")) = true := by kernel_rfl
theorem fnOK {f : FuncId} {fn : Func} (h : fnT.get f = some fn) : Tryz.prog.funcs[f]? = some fn /\ (fn.name == "runtime.NumGoroutine") = false := by
 have h1 := tab_ok fnT_eq h
 have h2 : Tryz.prog.funcs[f]? = some fn := by simpa using h1
 refine ⟨h2, ?_⟩
 have h3 := List.all_eq_true.1 fnNames fn (by simpa using Array.mem_of_getElem? h2)
 simpa using h3
end Go.Eng
namespace Go.Proofs
open Go.Shelf
def Tryz.lays264_ren : Go.Shelf.Ren := ⟨fun | 264 => 86 | n => n, fun | 53 => 65 | 46 => 109 | n => n, fun | n => n⟩
theorem Tryz.lays264 : Go.Proofs.Lays.n264 Tryz.prog Tryz.lays264_ren := {
 mixed := by kernel_rfl
 f264 := Tryz.func86.trans (congrArg some (by kernel_rfl))
 t46 := Tryz.underlying109
 a46 := Tryz.isAgg109
 z46 := Tryz.sizeOf109
 v46 := Tryz.zeroValue109
 t53 := Tryz.underlying65
 a53 := Tryz.isAgg65
 z53 := Tryz.sizeOf65
 v53 := Tryz.zeroValue65 }
open Go.RowKit Go.Lib in
theorem Tryz.bits_Mul64 (x y : Nat) (hx : x < 18446744073709551616) (hy : y < 18446744073709551616) (w : World) :
  Calls Tryz.prog 86 #[.int .u64 x, .int .u64 y] w fun e w' => e = .returned (.tuple #[.int .u64 ((x * y / 18446744073709551616 : Nat) : Int), .int .u64 ((x * y % 18446744073709551616 : Nat) : Int)]) /\ w' = w := Any.bits_Mul64 Tryz.lays264 x y hx hy w
def Tryz.lays212_ren : Go.Shelf.Ren := ⟨fun | 212 => 200 | 263 => 236 | 264 => 86 | n => n, fun | 46 => 109 | 51 => 85 | 146 => 267 | 53 => 65 | 148 => 121 | n => n, fun | n => n⟩
theorem Tryz.lays212 : Go.Proofs.Lays.n212 Tryz.prog Tryz.lays212_ren := {
 mixed := by kernel_rfl
 f212 := Tryz.func200.trans (congrArg some (by kernel_rfl))
 f263 := Tryz.func236.trans (congrArg some (by kernel_rfl))
 f264 := Tryz.func86.trans (congrArg some (by kernel_rfl))
 t46 := Tryz.underlying109
 a46 := Tryz.isAgg109
 z46 := Tryz.sizeOf109
 v46 := Tryz.zeroValue109
 t51 := Tryz.underlying85
 a51 := Tryz.isAgg85
 z51 := Tryz.sizeOf85
 v51 := Tryz.zeroValue85
 t53 := Tryz.underlying65
 a53 := Tryz.isAgg65
 z53 := Tryz.sizeOf65
 v53 := Tryz.zeroValue65
 t146 := Tryz.underlying267
 a146 := Tryz.isAgg267
 z146 := Tryz.sizeOf267
 v146 := Tryz.zeroValue267
 t148 := Tryz.underlying121
 a148 := Tryz.isAgg121
 z148 := Tryz.sizeOf121
 v148 := Tryz.zeroValue121 }
open Go.RowKit Go.Lib in
theorem Tryz.bits_Mul (x y : Nat) (hx : x < 18446744073709551616) (hy : y < 18446744073709551616) (w : World) :
  Calls Tryz.prog 200 #[.int .u64 x, .int .u64 y] w fun e w' => e = .returned (.tuple #[.int .u64 ((x * y / 18446744073709551616 : Nat) : Int), .int .u64 ((x * y % 18446744073709551616 : Nat) : Int)]) /\ w' = w := Any.bits_Mul Tryz.lays212 x y hx hy w
end Go.Proofs
namespace Go.Eng
open Go Go.RowKit Go.Proofs
noncomputable section
set_option maxRecDepth 100000
def isU64 (x : Nat) : Bool := Nat.blt x 18446744073709551616
def pvB : FuncId -> List Value -> Option Value := fun f l =>
 match l with
 | [.int .u64 (.ofNat x), .int .u64 (.ofNat y), .int .u64 (.ofNat c)] =>
   bif Nat.beq f 87 && Nat.ble c 1 then some (.tuple #[.int .u64 (.ofNat ((x + y + c) % 18446744073709551616)), .int .u64 (.ofNat ((x + y + c) / 18446744073709551616))])
   else bif Nat.beq f 89 && Nat.ble c 1 then some (.tuple #[.int .u64 (.ofNat ((x + 18446744073709551616 - y - c) % 18446744073709551616)), .int .u64 (.ofNat (bif Nat.blt x (y + c) then 1 else 0))]) else none
 | [.int .u64 (.ofNat x), .int .u64 (.ofNat y)] =>
   bif (Nat.beq f 86 || Nat.beq f 200) && isU64 x && isU64 y then some (.tuple #[.int .u64 (.ofNat (x * y / 18446744073709551616)), .int .u64 (.ofNat (x * y % 18446744073709551616))]) else none
 | _ => none
theorem find86 : Extern.find Tryz.f87 = Extern.MathBitsCarry.rows.lookup "math/bits.Add64" := by kernel_rfl
theorem find88 : Extern.find Tryz.f89 = Extern.MathBitsCarry.rows.lookup "math/bits.Sub64" := by kernel_rfl
theorem add64_run (x y c : Nat) (hc : c <= 1) (w : World) : (callFunc 87 #[.int .u64 (.ofNat x), .int .u64 (.ofNat y), .int .u64 (.ofNat c)]).run Tryz.prog w =
  .ok (.value (.tuple #[.int .u64 (.ofNat ((x + y + c) % 18446744073709551616)), .int .u64 (.ofNat ((x + y + c) / 18446744073709551616))])) w := by
 refine run_ext (fn := Tryz.f87) (fnOK (by kernel_rfl)).1 (fnOK (f := 87) (by kernel_rfl)).2 (by kernel_rfl) (by kernel_rfl) (find86.trans rfl) ?_
 rcases (by omega : c = 0 \/ c = 1) with rfl | rfl <;> rfl
theorem sub64_run (x y c : Nat) (hc : c <= 1) (w : World) : (callFunc 89 #[.int .u64 (.ofNat x), .int .u64 (.ofNat y), .int .u64 (.ofNat c)]).run Tryz.prog w =
  .ok (.value (.tuple #[.int .u64 (.ofNat ((x + 18446744073709551616 - y - c) % 18446744073709551616)), .int .u64 (.ofNat (bif Nat.blt x (y + c) then 1 else 0))])) w := by
 refine run_ext (fn := Tryz.f89) (fnOK (by kernel_rfl)).1 (fnOK (f := 89) (by kernel_rfl)).2 (by kernel_rfl) (by kernel_rfl) (find88.trans rfl) ?_
 have hb : (bif Nat.blt x (y + c) then 1 else 0) = if x < y + c then 1 else 0 := by
  by_cases hx : x < y + c
  ·rw [if_pos hx, Nat.blt_eq.mpr hx]; rfl
  ·rw [if_neg hx]
   cases hbb : Nat.blt x (y + c) with
   | true => exact absurd (Nat.blt_eq.mp hbb) hx
   | false => rfl
 rw [hb]
 rcases (by omega : c = 0 \/ c = 1) with rfl | rfl <;> rfl
theorem pvB_ok : PvOK Tryz.prog pvB := by
 intro f l v h w
 unfold pvB at h
 split at h
 ·rename_i x y c
  cases h1 : (Nat.beq f 87 && Nat.ble c 1) with
  | true =>
    rw [h1] at h
    simp only [cond_true, Option.some.injEq] at h; subst h
    simp only [Bool.and_eq_true] at h1
    rw [Nat.eq_of_beq_eq_true h1.1]
    exact .inl ⟨_, w, add64_run x y c (Nat.le_of_ble_eq_true h1.2) w, rfl, rfl⟩
  | false =>
    rw [h1] at h
    simp only [cond_false] at h
    cases h2 : (Nat.beq f 89 && Nat.ble c 1) with
    | true =>
      rw [h2] at h
      simp only [cond_true, Option.some.injEq] at h; subst h
      simp only [Bool.and_eq_true] at h2
      rw [Nat.eq_of_beq_eq_true h2.1]
      exact .inl ⟨_, w, sub64_run x y c (Nat.le_of_ble_eq_true h2.2) w, rfl, rfl⟩
    | false => rw [h2] at h; cases h
 ·rename_i x y
  cases h1 : ((Nat.beq f 86 || Nat.beq f 200) && isU64 x && isU64 y) with
  | false => rw [h1] at h; cases h
  | true =>
    rw [h1] at h
    simp only [cond_true, Option.some.injEq] at h; subst h
    simp only [Bool.and_eq_true, Bool.or_eq_true] at h1
    have hx : x < 18446744073709551616 := Nat.blt_eq.mp h1.1.2
    have hy : y < 18446744073709551616 := Nat.blt_eq.mp h1.2
    rcases h1.1.1 with e | e
    ·rw [Nat.eq_of_beq_eq_true e]
     exact callOK_of_calls (fn := Tryz.f86) (fnOK (by kernel_rfl)).1 (fnOK (f := 86) (by kernel_rfl)).2 (by kernel_rfl) ((Tryz.bits_Mul64 x y hx hy w).mono fun e w' ⟨h1, h2⟩ => ⟨_, h1, rfl, h2⟩)
    ·rw [Nat.eq_of_beq_eq_true e]
     exact callOK_of_calls (fn := Tryz.f200) (fnOK (by kernel_rfl)).1 (fnOK (f := 200) (by kernel_rfl)).2 (by kernel_rfl) ((Tryz.bits_Mul x y hx hy w).mono fun e w' ⟨h1, h2⟩ => ⟨_, h1, rfl, h2⟩)
 ·cases h
end
end Go.Eng
namespace Go.Eng
open Go Go.RowKit Go.Proofs
noncomputable section
set_option maxRecDepth 100000
theorem free_d (b o : Nat) (w : World) (hc : w.cell? ⟨b, o, none⟩ = some (.pointer none)) (u : FrameMode) :
  CallsD Tryz.prog 124 #[.pointer (some ⟨b, o, none⟩)] u w fun e u' w' => u' = u /\ (∃ v, e = .returned v) /\ w' = w := by
 go_enter_d Tryz.func124, Tryz.ntmps124
 go_wp2
 go_end0
 exact ⟨⟨_, rfl⟩, rfl⟩
noncomputable def isNilP : Option (List C) -> Bool
 | some [.val (.pointer none)] => true
 | _ => false
noncomputable def dqF (f : FuncId) (vs : List V) (M : List Reg) : Option (List (Nat × Nat × List C)) :=
 bif Nat.beq f 124 then (match vs with
  | [.one (.ptr r o)] => bif isNilP (readC M r o 1) then some [(r, o, [.val (.pointer none)])] else none
  | _ => none) else none
noncomputable def base0 : Cx := { P := Tryz.prog, ext := fun _ => boolKind, cs := [], gl := [(0, 0), (1, 1), (4, 2), (2, 3)], dec := fun _ _ => none, inl := fun _ _ _ => none, xop := fun _ _ _ => none, dq := dqF, alt := fun _ _ _ => none, ti := tyT.get, un := undOf tyT.get, tiOK := tyOK, unOK := undOf_ok tyOK }
noncomputable def base : Cx := { base0 with alt := altF base0 }
noncomputable def H0 : HK := orH (pureH pvB) (pureH (pvExt Tryz.prog [224, 225, 191]))
theorem kindsGood (k : Nat) : (base.K k).Good := by
 have hb : boolKind.Good := ⟨fun _ => rfl, fun n v hv => by simp [boolKind] at hv; subst hv; rfl⟩
 have hi : ∀ ik, (intKind ik).Good := fun ik => ⟨fun _ => rfl, fun n v hv => by simp [intKind] at hv; subst hv; rfl⟩
 show (kinds (fun _ => boolKind) k).Good
 unfold kinds
 split <;> first | exact hi _ | exact hb
theorem dq_good (f : FuncId) (vs : List V) (M : List Reg) (l : List (Nat × Nat × List C)) (h : dqF f vs M = some l) : (∀ x ∈ l, ∃ reg, M[x.1]? = some reg /\ x.2.1 + x.2.2.length <= reg.cells.length /\ ∀ j c, x.2.2[j]? = some c -> reg.cells[x.2.1 + j]? = some c) /\
  ∀ (ρ : Nat -> Int) (φ : Nat -> Pl) (w : World), (∀ x ∈ l, cellsAt w (pl φ x.1 x.2.1) (denL base ρ φ x.2.2)) -> QuietD Tryz.prog f (vs.map (V.den base.K ρ φ)).toArray w := by
 unfold dqF at h
 cases hf : Nat.beq f 124 with
 | false => rw [hf] at h; cases h
 | true =>
   rw [hf] at h
   simp only [cond_true] at h
   have := Nat.eq_of_beq_eq_true hf
   subst this
   split at h
   ·rename_i r o
    cases hn : isNilP (readC M r o 1) with
    | false => rw [hn] at h; cases h
    | true =>
      rw [hn] at h
      simp only [cond_true, Option.some.injEq] at h; subst h
      unfold isNilP at hn
      split at hn
      ·rename_i hr
       refine ⟨fun x hx => ?_, fun ρ φ w hc => ?_⟩
       ·simp only [List.mem_singleton] at hx; subst hx
        exact (readC_get' hr).2
       ·have h0 := hc (r, o, [.val (.pointer none)]) (by simp) 0 (.pointer none) rfl
        have h1 : w.cell? ⟨(φ r).b, (φ r).o + o, none⟩ = some (.pointer none) := h0
        refine ⟨?_, fun u => (free_d _ _ w h1 u).mono fun e u' w' h => ⟨h.2.1, h.1, h.2.2⟩⟩
        have hb : (fnT.get 124) = some Tryz.f124 := by kernel_rfl
        obtain ⟨k1, k2⟩ := fnOK hb
        have hbody : Tryz.f124.body.isNone = false := by kernel_rfl
        have hn' : ¬ Tryz.f124.name = "runtime.NumGoroutine" := by simpa using k2
        have hb2 : ¬ Tryz.f124.body = none := fun e => by rw [e] at hbody; cases hbody
        simp [callFunc, program, bind, Sem.bind, Sem.run, k1, hn', hb2, pure]
      ·cases hn
   ·cases h
theorem base_good : base.Good0 := by
 refine ⟨kindsGood, fun c hc => (by cases hc), fun k l n h => (by cases h), dq_good, fun evo M o rs h => ?_⟩
 obtain ⟨h1, h2⟩ := altF_ok (cx := base0) kindsGood evo M o rs h
 exact ⟨h1, fun ρ => AltOK_congr (cx := base0) (cx' := base) rfl rfl rfl (h2 ρ)⟩
theorem follows : base.P.follows .mixedOrders = true := by kernel_rfl
theorem H0_sound : H0.Sound base := orH_sound (pureH_sound pvB_ok) (pureH_sound (pvExt_ok Tryz.prog _))
noncomputable def cxD (H : HK) (d : Nat) : Cx := lvl base xopF H fnT.get 5 200 d
theorem cxD_good {H : HK} (hH : H.Sound base) (d : Nat) : (cxD H d).Good := lvl_good (xopF_sound _) hH base_good follows (fun f fn h => fnOK h) 5 200 d
end
end Go.Eng
