import PyProof.Rows.All
import Wide.All
import OpenK.AllK
import Wide.FinOn
import PySem.Challenge.RW_tp0016_01
open PySem PySem.W PyProof.Rows PySem.Calls
set_option Elab.async false
set_option maxRecDepth 100000
set_option maxHeartbeats 4000000
set_option rowWalk.seconds 0
set_option linter.unusedVariables false
set_option compiler.extract_closed false
namespace Mine
theorem hd.tw4095733712317544336 : True := trivial
theorem hd.tw5849605709448837671 : True := trivial
theorem law_walk.tw10093926885891380142 : True := trivial
theorem law_walk.tw10157507484109336835 : True := trivial
theorem law_walk.tw10349880028629904836 : True := trivial
theorem law_walk.tw10575778595181894031 : True := trivial
theorem law_walk.tw10618763033596195338 : True := trivial
theorem law_walk.tw10639959928510409895 : True := trivial
theorem law_walk.tw10658639562909679755 : True := trivial
theorem law_walk.tw10690968490827705138 : True := trivial
theorem law_walk.tw10873826724240334245 : True := trivial
theorem law_walk.tw1091560810613593962 : True := trivial
theorem law_walk.tw11889892436880215759 : True := trivial
theorem law_walk.tw11923195694410398313 : True := trivial
theorem law_walk.tw11948163389541680817 : True := trivial
theorem law_walk.tw11982992778822352237 : True := trivial
theorem law_walk.tw12009826905505109769 : True := trivial
theorem law_walk.tw12066832245886349031 : True := trivial
theorem law_walk.tw12216838664848171149 : True := trivial
theorem law_walk.tw12627331199131324555 : True := trivial
theorem law_walk.tw12736812855728395017 : True := trivial
theorem law_walk.tw12960922864970901034 : True := trivial
theorem law_walk.tw13012963976651126157 : True := trivial
theorem law_walk.tw13044207499326380188 : True := trivial
theorem law_walk.tw13088496971643157351 : True := trivial
theorem law_walk.tw13131166574269975942 : True := trivial
theorem law_walk.tw13239012831020974903 : True := trivial
theorem law_walk.tw1324468810271576928 : True := trivial
theorem law_walk.tw13422099721287017408 : True := trivial
theorem law_walk.tw13486275484559421317 : True := trivial
theorem law_walk.tw13573928544673780044 : True := trivial
theorem law_walk.tw13641380642171206868 : True := trivial
theorem law_walk.tw13648519344018371485 : True := trivial
theorem law_walk.tw13714257558657638190 : True := trivial
theorem law_walk.tw13726853253858281453 : True := trivial
theorem law_walk.tw13870901821450722198 : True := trivial
theorem law_walk.tw13887795260824410890 : True := trivial
theorem law_walk.tw1407156338458783363 : True := trivial
theorem law_walk.tw14109506641052798933 : True := trivial
theorem law_walk.tw1420760975202630414 : True := trivial
theorem law_walk.tw14240879651608825115 : True := trivial
theorem law_walk.tw14245692378676067059 : True := trivial
theorem law_walk.tw14284208715777796981 : True := trivial
theorem law_walk.tw14327785045594728570 : True := trivial
theorem law_walk.tw14553445138279101417 : True := trivial
theorem law_walk.tw14771489958863429370 : True := trivial
theorem law_walk.tw14924230639997583100 : True := trivial
theorem law_walk.tw14971813819131637940 : True := trivial
theorem law_walk.tw15015302839871542008 : True := trivial
theorem law_walk.tw1506947507783032290 : True := trivial
theorem law_walk.tw15150796270177616047 : True := trivial
theorem law_walk.tw15166187191399147401 : True := trivial
theorem law_walk.tw15417956146314419576 : True := trivial
theorem law_walk.tw15481486496463984755 : True := trivial
theorem law_walk.tw15637905503817521475 : True := trivial
theorem law_walk.tw15647844531929859867 : True := trivial
theorem law_walk.tw15670682840938126767 : True := trivial
theorem law_walk.tw15702739590981716756 : True := trivial
theorem law_walk.tw15887692210645656175 : True := trivial
theorem law_walk.tw16177133813778340837 : True := trivial
theorem law_walk.tw16188769599606678643 : True := trivial
theorem law_walk.tw16288356565122131320 : True := trivial
theorem law_walk.tw16314443678151020817 : True := trivial
theorem law_walk.tw16352332493698178272 : True := trivial
theorem law_walk.tw16501006115422287496 : True := trivial
theorem law_walk.tw16588903437976998387 : True := trivial
theorem law_walk.tw16621082731844528563 : True := trivial
theorem law_walk.tw16736113708867630118 : True := trivial
theorem law_walk.tw1680266527557545993 : True := trivial
theorem law_walk.tw16910148942730480082 : True := trivial
theorem law_walk.tw17118425190982333173 : True := trivial
theorem law_walk.tw17138217388074998094 : True := trivial
theorem law_walk.tw17151475802405297598 : True := trivial
theorem law_walk.tw17191069843504769711 : True := trivial
theorem law_walk.tw17238711329945602061 : True := trivial
theorem law_walk.tw17260160985915537885 : True := trivial
theorem law_walk.tw1735403808043928960 : True := trivial
theorem law_walk.tw17449492887640561248 : True := trivial
theorem law_walk.tw17503048201020566150 : True := trivial
theorem law_walk.tw17540475224168508509 : True := trivial
theorem law_walk.tw17577931810382400309 : True := trivial
theorem law_walk.tw17823697356111105316 : True := trivial
theorem law_walk.tw17994628964845550410 : True := trivial
theorem law_walk.tw1807287435005278155 : True := trivial
theorem law_walk.tw18083511110935134784 : True := trivial
theorem law_walk.tw18105684149968559586 : True := trivial
theorem law_walk.tw18224671212723825918 : True := trivial
theorem law_walk.tw18274630477781228279 : True := trivial
theorem law_walk.tw18335874846033304908 : True := trivial
theorem law_walk.tw1913036947019820295 : True := trivial
theorem law_walk.tw1960160720123716315 : True := trivial
theorem law_walk.tw1962610487425886148 : True := trivial
theorem law_walk.tw2083322487632459242 : True := trivial
theorem law_walk.tw2191982584930282844 : True := trivial
theorem law_walk.tw2306348491205089524 : True := trivial
theorem law_walk.tw235898947248173329 : True := trivial
theorem law_walk.tw2672495830845699883 : True := trivial
theorem law_walk.tw2794590637635899929 : True := trivial
theorem law_walk.tw2883566381717434194 : True := trivial
theorem law_walk.tw2891813122276395325 : True := trivial
theorem law_walk.tw296180040996304996 : True := trivial
theorem law_walk.tw3004964013433161768 : True := trivial
theorem law_walk.tw3072583708981276997 : True := trivial
theorem law_walk.tw309411868979763249 : True := trivial
theorem law_walk.tw3229189241546203836 : True := trivial
theorem law_walk.tw3248996168741035358 : True := trivial
theorem law_walk.tw3328707826287525414 : True := trivial
theorem law_walk.tw3337702183780828634 : True := trivial
theorem law_walk.tw3397640014722814597 : True := trivial
theorem law_walk.tw3503918262955619448 : True := trivial
theorem law_walk.tw3708943436980083059 : True := trivial
theorem law_walk.tw3859728766915173161 : True := trivial
theorem law_walk.tw3901379447191726684 : True := trivial
theorem law_walk.tw4008942527924284153 : True := trivial
theorem law_walk.tw4301747711573494155 : True := trivial
theorem law_walk.tw4562229481737148886 : True := trivial
theorem law_walk.tw4650864048630087687 : True := trivial
theorem law_walk.tw4715142628854536148 : True := trivial
theorem law_walk.tw4785864527425131527 : True := trivial
theorem law_walk.tw4929543586258360427 : True := trivial
theorem law_walk.tw5004049897617639706 : True := trivial
theorem law_walk.tw5111013765409397190 : True := trivial
theorem law_walk.tw5123171411619025921 : True := trivial
theorem law_walk.tw5132826270825761451 : True := trivial
theorem law_walk.tw5202491880151908442 : True := trivial
theorem law_walk.tw5285187710974808773 : True := trivial
theorem law_walk.tw5501580622627630012 : True := trivial
theorem law_walk.tw5678853151643781460 : True := trivial
theorem law_walk.tw5734418796060860671 : True := trivial
theorem law_walk.tw583991755219690200 : True := trivial
theorem law_walk.tw6049634886937883345 : True := trivial
theorem law_walk.tw6221563783624007708 : True := trivial
theorem law_walk.tw6263107938169285747 : True := trivial
theorem law_walk.tw6315668286158482565 : True := trivial
theorem law_walk.tw6407279749112937241 : True := trivial
theorem law_walk.tw6442823786168487660 : True := trivial
theorem law_walk.tw6451171169170823791 : True := trivial
theorem law_walk.tw6814169468445859271 : True := trivial
theorem law_walk.tw6858619185670046997 : True := trivial
theorem law_walk.tw6893076860397145995 : True := trivial
theorem law_walk.tw7100947392080961120 : True := trivial
theorem law_walk.tw7102155933189859701 : True := trivial
theorem law_walk.tw7107204000909996950 : True := trivial
theorem law_walk.tw7783959777113460643 : True := trivial
theorem law_walk.tw8010708191331470744 : True := trivial
theorem law_walk.tw8031706477840214613 : True := trivial
theorem law_walk.tw804102523834244518 : True := trivial
theorem law_walk.tw8209524980812014044 : True := trivial
theorem law_walk.tw8458602498471058603 : True := trivial
theorem law_walk.tw8664003847685610222 : True := trivial
theorem law_walk.tw8721805717884813417 : True := trivial
theorem law_walk.tw8911797091718074820 : True := trivial
theorem law_walk.tw9033031517808640844 : True := trivial
theorem law_walk.tw9095732442746558090 : True := trivial
theorem law_walk.tw9175309087135656087 : True := trivial
theorem law_walk.tw9446009449886439872 : True := trivial
theorem law_walk.tw9452348037586664839 : True := trivial
theorem law_walk.tw9512795527785568220 : True := trivial
theorem law_walk.tw9614167044172017575 : True := trivial
theorem law_walk.tw9669262220790407631 : True := trivial
theorem law_walk.tw9774065109101459460 : True := trivial
theorem law_walk.tw977902512717651210 : True := trivial
def flag : Nat := 0
theorem flag_of (_ : PySem.Challenge.rw_tp0016_01.Holds) : flag = 0 := rfl
set_option maxHeartbeats 8000000 in
set_option Elab.async true in
theorem hd : flag = flag := by
  simp (disch := (w_on; o_law; k_head)) only [flag_of]
theorem fill0 (P : Params) : hd.heap_1_41 P = hd.heap_1_41 P ∧ PySem.Challenge.rw_tp0016_01 = PySem.Challenge.rw_tp0016_01 := by
  k_fill
  exact ⟨rfl, rfl⟩
theorem tools : True := by
  k_with "my z1" => (first | assumption | exact allLt_ne (by assumption))
  k_with "my z2" => ((try simp only [depth_under_make, depth_under_kw, depth_in1, depth_deeper, units_in1, units_deeper, Around.mark_units] at *); omega)
  k_with "my z3" => (refine wpAny_call ?_; refine' code_def ?z3k1 ?z3k2 ?z3k3 ?z3k4 ?z3k5 ?z3kA ?z3kF ?z3kK ?z3k6 ?z3k7 ?z3k8 ?z3k9 ?z3kB ?_ ?z3c2 ?z3c3 ?z3c4 ?z3c5; (case z3kA => first | assumption | exact rfl | exact Around.frames_deeper (by assumption)); (case z3kF => first | assumption | exact rfl); (case z3kK => first | assumption | exact rfl); (case z3k1 => k_asm); (case z3k2 => k_asm); (case z3k3 => k_asm); (case z3k4 => k_asm); (case z3k5 => k_asm); (case z3k6 => k_is); (case z3k7 => k_is); (case z3k8 => walk_at "my room"); (case z3k9 => exact BindsTo.of_eq rfl); (case z3c5 => decide); (case z3kB => exact locs rfl); (case z3c2 => exact rfl); (case z3c3 => exact rfl); (case z3c4 => exact rfl); k_whole)
  k_with "my z4" => (refine wpAny_call ?_; refine' code_defC ?z4k1 ?z4k2 ?z4k3 ?z4k4 ?z4k5 ?z4kA ?z4kF ?z4kK ?z4k6 ?z4k7 ?z4k8 ?z4k9 ?z4kB ?z4kD ?_ ?z4c2 ?z4c3 ?z4c4; (case z4kA => first | assumption | exact rfl | exact Around.frames_deeper (by assumption)); (case z4kF => first | assumption | exact rfl); (case z4kK => first | assumption | exact rfl); (case z4k1 => k_asm); (case z4k2 => k_asm); (case z4k3 => k_asm); (case z4k4 => k_asm); (case z4k5 => k_asm); (case z4k6 => k_is); (case z4k7 => k_is); (case z4k8 => walk_at "my room"); (case z4k9 => exact BindsTo.of_eq rfl); (case z4kB => exact rfl); (case z4kD => decide +kernel); (case z4c2 => exact rfl); (case z4c3 => exact rfl); (case z4c4 => exact rfl); k_whole)
  k_with "my z5" => (refine' Sit.mk ⟨_, _, _, ?z5b, ?z5a⟩ ?z5f ?z5n ?z5x ⟨_, _, _, _, _, ?z5t⟩ ?z5hf ?z5hk ?z5hh ?z5hd ?z5hu; (case z5b => k_asm); (case z5a => first | assumption | exact rfl | exact Around.frames_deeper (by assumption)); (case z5f => k_asm); (case z5n => k_asm); (case z5x => k_asm); (case z5t => k_asm); (case z5hf => first | assumption | exact rfl); (case z5hk => first | assumption | exact rfl); (case z5hh => first | assumption | exact rfl); (case z5hd => walk_at "my room"); (case z5hu => walk_at "my room"))
  k_with "my z6" => (k_dflt (refine ListComp_at (by k_asm) (by with_unfolding_all rfl) (by decide) (by rfl) (by decide) ?_))
  k_with "my z7" => (k_dflt (refine Assign_ListComp_at (by k_asm) (by rfl) (by with_unfolding_all rfl) (by with_unfolding_all rfl) (by decide) (by rfl) (by decide) (by rfl) (by rfl) ?_))
  k_with "my z8" => ((try k_unfold); refine' EltEnd.intro1 ?z8F ?z8N ?z8sub ?z8off ?_; (case z8F => k_asm); (case z8N => k_asm); (case z8sub => exact fun p hp => hp); (case z8off => assumption))
  k_with "my z9" => (intro zp zhp; first | exact zhp | exact .tail _ (zhp) | exact .tail _ (.tail _ (zhp)) | exact .tail _ (.tail _ (.tail _ (zhp))) | exact .tail _ (.tail _ (.tail _ (.tail _ (zhp)))) | exact .tail _ (.tail _ (.tail _ (.tail _ (.tail _ (zhp))))) | exact .tail _ (.tail _ (.tail _ (.tail _ (.tail _ (.tail _ (zhp)))))) | exact .tail _ (.tail _ (.tail _ (.tail _ (.tail _ (.tail _ (.tail _ (zhp))))))) | exact .tail _ (.tail _ (.tail _ (.tail _ (.tail _ (.tail _ (.tail _ (.tail _ (zhp)))))))) | exact .tail _ (.tail _ (.tail _ (.tail _ (.tail _ (.tail _ (.tail _ (.tail _ (.tail _ (zhp))))))))) | exact .tail _ (.tail _ (.tail _ (.tail _ (.tail _ (.tail _ (.tail _ (.tail _ (.tail _ (.tail _ (zhp)))))))))) | exact .tail _ (.tail _ (.tail _ (.tail _ (.tail _ (.tail _ (.tail _ (.tail _ (.tail _ (.tail _ (.tail _ (zhp))))))))))))
  k_with "my z10" => (first | exact rfl | assumption | (refine (if_pos rfl).trans ?_; exact rfl) | (refine (if_neg (by decide)).trans ?_; walk_at "my look"))
  k_with "my z11" => (k_here; (with_reducible show wpAny _ _ (eval (PySem.Expr.Name _ _) (envOf _ _ _ _ _)) _ _ _); k_dflt (refine' ld ?z11k1 ?z11k2 ?_; (case z11k1 => k_asm); (case z11k2 => walk_at "my look"); k_whole))
  k_with "my z12" => (k_here; (with_reducible show wpAny _ _ (eval (PySem.Expr.Name _ _) (envOfC _ _ _ _ _)) _ _ _); k_dflt (refine' nameX_L ?z12k1 ?z12k2 ?_ ?z12k3 ?z12k4; (case z12k3 => exact rfl); (case z12k4 => exact rfl); (case z12k1 => k_asm); (case z12k2 => walk_at "my look"); k_whole))
  k_with "my z13" => (k_here; k_dflt (refine wpAny_For ?_))
  k_with "my z14" => (k_here; k_dflt (refine' src2_enum ?z14hh ?z14F ?z14N (.inl ?z14hl) ?z14hc ?z14hd ?_; (case z14hh => exact rfl); (case z14F => k_asm); (case z14N => k_asm); (case z14hl => k_mem); (case z14hc => exact rfl); (case z14hd => exact ⟨_, rfl⟩)))
  k_with "my z15" => (k_here; k_dflt (refine' src2_zip ?z15hh ?z15F ?z15N (.inl ?z15hl) ?z15hc ?z15hd (.inl ?z15hl2) ?z15hc2 ?z15hd2 ?_; (case z15hh => exact rfl); (case z15F => k_asm); (case z15N => k_asm); (case z15hl => k_mem); (case z15hc => exact rfl); (case z15hd => exact ⟨_, rfl⟩); (case z15hl2 => k_mem); (case z15hc2 => exact rfl); (case z15hd2 => exact ⟨_, rfl⟩)))
  k_with "my z16" => (refine' isl ?z16N ?z16m ?z16c ?z16d; (case z16N => k_asm); (case z16m => k_mem); (case z16c => exact rfl); (case z16d => exact ⟨_, rfl⟩))
  k_with "my z17" => (k_here; k_dflt (refine' eq_intsK ?z17k1 ?z17k2 ?z17k3 ?z17k4 ?z17k5 ?_; (case z17k1 => walk_at "my isl"); (case z17k2 => assumption); (case z17k3 => walk_at "my isl"); (case z17k4 => assumption); (case z17k5 => walk_at "my room"); k_whole))
  k_with "my z18" => (k_here; k_dflt (refine' ne_intsK ?z18k1 ?z18k2 ?z18k3 ?z18k4 ?z18k5 ?_; (case z18k1 => walk_at "my isl"); (case z18k2 => assumption); (case z18k3 => walk_at "my isl"); (case z18k4 => assumption); (case z18k5 => walk_at "my room"); k_whole))
  k_with "my z19" => (k_here; k_dflt (refine wpAny_For ?_))
  k_with "my z20" => (k_here; k_dflt (refine wpAny_For ?_))
  k_with "my z21" => (k_here; k_dflt (refine wpAny_For ?_))
  k_with "my z22" => (k_here; k_dflt (refine wpAny_For ?_))
  k_with "my z23" => (k_here; k_dflt (refine wpAny_For ?_))
  k_with "my z24" => (k_here; k_dflt (refine wpAny_For ?_))
  k_with "my z25" => (k_here; k_dflt (refine wpAny_For ?_))
  k_with "my z26" => (k_here; k_dflt (refine wpAny_For ?_))
  k_with "my z27" => (k_here; k_dflt (refine wpAny_For ?_))
  k_with "my z28" => ((try k_unfold); (try dsimp only); refine' LoopEnd.next ?z28F ?z28N _ ?z28sub ?z28off ?_; (case z28F => k_asm); (case z28N => k_asm); (case z28off => assumption); (case z28sub => first | exact fun p hp => hp | walk_at "my sub"))
  k_with "my z29" => (k_here; (with_reducible show wpAny _ _ (subscriptTail _ (PySem.Expr.Slice _ _ _ _) (Value.ref _) (Value.ref _)) _ _ _); k_dflt (refine' slice_mine ?z29F ?z29N ?z29l ?z29pl ?z29pu ?z29pk ?z29h0 ?_ ?z29s ?z29t ?z29z; (case z29F => k_asm); (case z29N => k_asm); (case z29l => first | assumption | walk_at "my isl"); (case z29pl => first | exact IsPart.none | exact IsPart.int _ _); (case z29pu => first | exact IsPart.none | exact IsPart.int _ _); (case z29pk => first | exact IsPart.none | exact IsPart.int _ _); (case z29h0 => decide); (case z29s => with_unfolding_all rfl); (case z29t => first | kmk_pure | (intro _; with_unfolding_all rfl)); (case z29z => first | assumption | (simp only [List.size_toArray] at *; omega))))
  k_with "my z30" => (first | assumption | walk_at "my isl")
  k_with "my z31" => ((simp only [depth_under_make, depth_under_kw, depth_in1, depth_deeper, units_in1, units_deeper, Around.mark_units] at *); omega)
  k_with "my z32" => (refine' code_def ?z32k1 ?z32k2 ?z32k3 ?z32k4 ?z32k5 ?z32kA ?z32kF ?z32kK ?z32k6 ?z32k7 ?z32k8 ?z32k9 ?z32kB ?_ ?z32c2 ?z32c3 ?z32c4 ?z32c5; (case z32kA => first | assumption | exact rfl | exact Around.frames_deeper (by assumption)); (case z32kF => first | assumption | exact rfl); (case z32kK => first | assumption | exact rfl); (case z32k1 => k_asm); (case z32k2 => k_asm); (case z32k3 => k_asm); (case z32k4 => k_asm); (case z32k5 => k_asm); (case z32k6 => k_is); (case z32k7 => k_is); (case z32k8 => walk_at "my room"); (case z32k9 => exact BindsTo.of_eq rfl); (case z32c5 => decide); (case z32kB => exact locs rfl); (case z32c2 => exact rfl); (case z32c3 => exact rfl); (case z32c4 => exact rfl); k_whole)
  k_with "my z33" => (refine' call_cls ?z33k1 ?z33k2 ?z33k3 ?z33k4 ?z33k5 ?z33k6 ?_; (case z33k1 => k_asm); (case z33k2 => k_asm); (case z33k3 => k_asm); (case z33k4 => k_is); (case z33k5 => k_is); (case z33k6 => k_is); k_whole)
  k_with "my z34" => (refine wpAny_call ?_; refine' code_defC ?z34k1 ?z34k2 ?z34k3 ?z34k4 ?z34k5 ?z34kA ?z34kF ?z34kK ?z34k6 ?z34k7 ?z34k8 ?z34k9 ?z34kB ?z34kD ?_ ?z34c2 ?z34c3 ?z34c4; (case z34kA => first | assumption | exact rfl | exact Around.frames_deeper (by assumption)); (case z34kF => first | assumption | exact rfl); (case z34kK => first | assumption | exact rfl); (case z34k1 => k_asm); (case z34k2 => k_asm); (case z34k3 => k_asm); (case z34k4 => k_asm); (case z34k5 => k_asm); (case z34k6 => k_is); (case z34k7 => k_is); (case z34k8 => walk_at "my room"); (case z34k9 => exact BindsTo.of_eq rfl); (case z34kB => exact rfl); (case z34kD => decide +kernel); (case z34c2 => exact rfl); (case z34c3 => exact rfl); (case z34c4 => exact rfl); k_whole)
  k_with "my z35" => (k_dflt (refine NestComp_at (by k_asm) (by with_unfolding_all rfl) (by decide) (by rfl) (by decide) ?_))
  k_with "my z36" => (k_dflt (refine Assign_NestComp_at (by k_asm) (by rfl) (by with_unfolding_all rfl) (by with_unfolding_all rfl) (by decide) (by rfl) (by decide) (by rfl) (by rfl) ?_))
  k_with "my z37" => (k_here; refine' strcoll_spec (k := 0) ?z37S ?_; (case z37S => walk_at "my sit"))
  k_with "my z38" => (k_here; refine' lt_spec (k := 0) ?z38S ?_; (case z38S => walk_at "my sit"))
  k_with "my z39" => (k_here; refine' le_spec (k := 0) ?z39S ?_; (case z39S => walk_at "my sit"))
  k_with "my z40" => (k_here; (with_reducible show wpAny _ _ (subscriptTail _ _ (Value.ref 99) (Value.str _ _)) _ _ _); refine' tok_item ?z40hx ?z40F ?z40X ?_ ?z40hs; (case z40hx => assumption); (case z40F => k_asm); (case z40X => k_asm); (case z40hs => with_unfolding_all rfl))
  k_with "my z41" => (k_here; walk_at "my comp")
  k_with "my z42" => (k_here; k_dflt (refine' lt_intsK ?z42k1 ?z42k2 ?z42k3 ?z42k4 ?z42k5 ?_; (case z42k1 => walk_at "my isl"); (case z42k2 => assumption); (case z42k3 => walk_at "my isl"); (case z42k4 => assumption); (case z42k5 => walk_at "my room"); k_whole))
  k_with "my z43" => (k_here; k_dflt (refine' sorted_mine ?z43F ?z43N ?z43hl ?z43hI ?z43h6 ?_; (case z43F => k_asm); (case z43N => k_asm); (case z43hl => walk_at "my isl"); (case z43hI => assumption); (case z43h6 => omega)))
  k_with "my z44" => (refine' add_spec (k := 0) ?z44S ?_; (case z44S => walk_at "my sit"))
  k_with "my z45" => (refine' sub_spec (k := 0) ?z45S ?_; (case z45S => walk_at "my sit"))
  k_with "my z46" => (refine' mul_spec (k := 0) (by assumption) (by omega) ?z46S ?_; (case z46S => walk_at "my sit"))
  k_with "my z47" => (k_here; k_dflt (refine' list_str_mine ?z47hh ?z47F ?z47N ?z47z ?_; (case z47hh => exact rfl); (case z47F => k_asm); (case z47N => k_asm); (case z47z => assumption)))
  k_with "my z48" => (exact CodeHd.keeps (by assumption) (Fr.keep (by assumption)))
  k_with "my z49" => (k_here; k_dflt (refine' truthy_mine ?z49N ?z49m ?z49c ?z49d ?z49z ?_; (case z49N => k_asm); (case z49m => k_mem); (case z49c => exact rfl); (case z49d => exact ⟨_, rfl⟩); (case z49z => first | assumption | exact Nat.zero_le _)))
  k_with "my z50" => (k_here; k_dflt (refine' pop_mine ?z50F ?z50N ?z50e ?z50U ?z50z ?_; (case z50F => k_asm); (case z50N => k_asm); (case z50e => exact rfl); (case z50U => k_upd); (case z50z => assumption)))
  k_with "my z51" => (refine wpAny_call ?_; refine' code_nest ?z51k1 ?z51k2 ?z51k3 ?z51k4 ?z51k5 ?z51kA ?z51kF ?z51kK ?z51k6 ?z51k7 ?z51k8 ?z51k9 ?z51kB ?_ ?z51c2 ?z51c3 ?z51c4 ?z51c5; (case z51kA => first | assumption | exact rfl | exact Around.frames_deeper (by assumption)); (case z51kF => first | assumption | exact rfl); (case z51kK => first | assumption | exact rfl); (case z51k1 => k_asm); (case z51k2 => k_asm); (case z51k3 => k_asm); (case z51k4 => k_asm); (case z51k5 => k_asm); (case z51k6 => k_mem); (case z51k7 => exact codeRec_news (by k_asm) (by k_mem) (by assumption) (by assumption)); (case z51k8 => walk_at "my room"); (case z51k9 => exact BindsTo.of_eq rfl); (case z51c5 => decide); (case z51kB => exact locs rfl); (case z51c2 => exact rfl); (case z51c3 => exact rfl); (case z51c4 => exact rfl); k_whole)
  k_with "my z52" => (k_here; k_dflt (refine' callWith_F ?z52k1 ?_; (case z52k1 => exact fnAt_mine (by k_asm) (by k_mem) (by assumption)); k_whole))
  k_with "my z53" => ((with_reducible show FnAt _ _ ∧ _); k_dflt (refine ⟨fnAt_mine (by k_asm) (by k_mem) (by assumption), ?_⟩); try dsimp only [List.nil_append, List.cons_append])
  k_with "my z54" => (k_here; k_dflt (refine' truthy_mine ?z54N ?z54m ?z54c ?z54d ?z54z ?_; (case z54N => k_asm); (case z54m => k_mem); (case z54c => exact rfl); (case z54d => exact ⟨_, rfl⟩); (case z54z => first | assumption | exact Nat.zero_le _)))
  k_with "my z55" => (k_here; k_dflt (refine' iter2_mine ?z55F ?z55N ?z55q ?_; (case z55F => k_asm); (case z55N => k_asm); (case z55q => k_mem)))
  k_with "my z56" => (k_here; k_dflt (refine' pyIter_callit ?z56N ?z56q ?_; (case z56N => k_asm); (case z56q => k_mem)); (try dsimp only))
  k_with "my z57" => (k_here; k_dflt (refine' ldn ?z57k1 ?z57k2 ?_; (case z57k1 => k_asm); (case z57k2 => walk_at "my look")))
  k_with "my z58" => (k_here; k_dflt (refine' iadd_str ?_ ?z58z; (case z58z => first | exact small_add (by assumption) | exact small_nil)))
  k_with "my z59" => (k_here; k_dflt (refine' truthy_mine ?z59N ?z59m ?z59c ?z59d ?z59z ?_; (case z59N => k_asm); (case z59m => k_mem); (case z59c => exact rfl); (case z59d => exact ⟨_, rfl⟩); (case z59z => first | assumption | exact Nat.zero_le _)))
  k_with "my z60" => (k_here; k_dflt (refine' pop0_mine ?z60F ?z60N ?z60U ?z60z ?_; (case z60F => k_asm); (case z60N => k_asm); (case z60U => k_upd); (case z60z => assumption)))
  k_with "my z61" => (k_here; k_dflt (refine' append_mine ?z61F ?z61N ?z61U ?z61z ?_; (case z61F => k_asm); (case z61N => k_asm); (case z61U => k_upd); (case z61z => first | assumption | (simp only [List.length_append, List.length_cons, List.length_nil] at *; omega))))
  k_with "my z62" => (k_here; refine' add_spec (k := 0) ?z62S ?_; (case z62S => walk_at "my sit"))
  k_with "my z63" => (k_here; refine' not_above_spec (k := 0) ?z63hj ?z63hx ?z63hy ?z63S ?_; (case z63hj => assumption); (case z63hx => assumption); (case z63hy => assumption); (case z63S => walk_at "my sit"))
  k_with "my z64" => (k_here; refine Hold.out ?_)
  k_with "my z65" => (k_here; refine Hold.out ?_)
  k_with "my z66" => (k_here; refine Hold.out ?_)
  k_with "my z67" => (k_here; k_dflt (refine' len_ints ?z67N ?z67m ?z67c ?z67d ?z67i ?z67n ?z67z ?_; (case z67N => k_asm); (case z67m => k_mem); (case z67c => exact rfl); (case z67d => exact ⟨_, rfl⟩); (case z67i => assumption); (case z67n => assumption); (case z67z => omega)))
  k_with "my z68" => (k_here; (with_reducible show wpAny _ _ (subscriptTail _ (PySem.Expr.Slice _ _ none _) (Value.ref _) (Value.ref _)) _ _ _); k_dflt (refine' kmk_slice_ints ?z68F ?z68N ?z68l ?z68p ?z68q ?z68i ?z68m rfl ?_ ?z68s ?z68t ?z68z; (case z68F => k_asm); (case z68N => k_asm); (case z68l => exact News.isList (by k_asm) (by k_mem)); (case z68p => kmk_part); (case z68q => kmk_part); (case z68i => assumption); (case z68m => first | exact kmk_from (by assumption) (by omega) | exact kmk_upto (by assumption) (by omega)); (case z68s => with_unfolding_all rfl); (case z68t => kmk_pure); (case z68z => exact kmk_sz (by assumption) (by omega))))
  k_with "my z69" => (k_here; (with_reducible show wpAny _ _ (binaryOp _ (Value.ref _) (Value.ref _)) _ _ _); k_dflt (refine' kmk_add_ints ?z69F ?z69N ?z69a ?z69b ?z69i ?z69j ?_ ?z69z; (case z69F => k_asm); (case z69N => k_asm); (case z69a => exact News.isList (by k_asm) (by k_mem)); (case z69b => exact News.isList (by k_asm) (by k_mem)); (case z69i => first | assumption | exact .cons _ _ .nil); (case z69j => first | assumption | exact .cons _ _ .nil); (case z69z => (simp only [List.length_append, List.length_take, List.length_drop, List.length_cons, List.length_nil]; omega))))
  k_with "my z70" => (k_here; k_dflt (refine' count_true ?z70N ?z70m ?z70c ?_; (case z70N => k_asm); (case z70m => k_mem); (case z70c => exact rfl)))
  k_with "my z71" => (k_here; refine Hold.out ?_)
  k_with "my z72" => (k_here; refine Hold.out ?_)
  k_with "my z73" => (k_here; walk_at "my comp")
  k_with "my z74" => (k_here; refine' le_spec (k := 0) ?z74S ?_; (case z74S => walk_at "my sit"))
  k_with "my z75" => (k_here; k_dflt (refine' get_ints ?z75N ?z75m ?z75i ?z75z ?z75y ?_; (case z75N => k_asm); (case z75m => k_mem); (case z75i => assumption); (case z75z => omega); (case z75y => omega)))
  k_with "my z76" => (k_here; k_dflt (refine' set_ints ?z76F ?z76N ?z76U ?z76i ?z76z ?z76y ?_; (case z76F => k_asm); (case z76N => k_asm); (case z76U => k_upd); (case z76i => assumption); (case z76z => omega); (case z76y => omega)))
  k_with "my z77" => (k_here; refine' beside_spec (k := 0) ?z77hx ?z77hy ?z77lx ?z77ly ?z77S ?_; (case z77hx => assumption); (case z77hy => assumption); (case z77lx => assumption); (case z77ly => assumption); (case z77S => walk_at "my sit"))
  k_with "my z78" => (k_here; refine' operators_spec (k := 0) ?z78S ?_; (case z78S => walk_at "my sit"))
  k_with "my z79" => (k_here; k_dflt (refine' index_strs ?z79N ?z79m ?z79i ?z79k ?z79z ?_; (case z79N => k_asm); (case z79m => k_mem); (case z79i => assumption); (case z79k => assumption); (case z79z => decide)))
  k_with "my z80" => (k_here; walk_at "my comp")
  k_with "my z81" => (k_here; k_dflt (refine' len_vals ?z81N ?z81m ?z81z ?_; (case z81N => k_asm); (case z81m => k_mem); (case z81z => assumption)))
  k_with "my z82" => (k_here; k_dflt (refine' ldn ?z82k1 ?z82k2 ?_; (case z82k1 => k_asm); (case z82k2 => walk_at "my look")))
  k_with "my z83" => (k_here; walk_at "my comp")
  k_with "my z84" => (k_here; k_dflt (refine wpAny_For ?_))
  k_with "my z85" => (k_here; k_dflt (refine' join_mine ?z85N ?z85m ?z85i ?z85y ?_; (case z85N => k_asm); (case z85m => k_mem); (case z85i => assumption); (case z85y => assumption)))
  k_with "my z86" => (k_here; k_dflt (refine' add_str ?_ ?z86z; (case z86z => (simp only [slen_append, *]; omega))))
  k_with "my z87" => (k_here; k_dflt (refine' iadd_str ?_ ?z87z; (case z87z => (simp only [slen_append]; omega))))
  k_with "my z88" => (k_here; refine Hold.out ?_)
  k_with "my z89" => (k_here; refine Hold.out ?_)
  k_with "my z90" => (first | exact List.Mem.head _ | (refine List.Mem.tail _ ?_; walk_at "my at"))
  k_with "my z91" => (k_here; walk_at "my comp")
  k_with "my z92" => ((with_reducible refine wpAny_Assign_Name ?_ ?_); rotate_left; (with_unfolding_all rfl); walk_at "my comp")
  k_with "my z93" => (k_here; k_dflt (refine' slice_nat ?z93F ?z93N ?z93m ?z93c ?z93d ?z93p ?z93q ?z93e ?_ ?z93s ?z93t ?z93z; (case z93F => k_asm); (case z93N => k_asm); (case z93m => k_mem); (case z93c => exact rfl); (case z93d => exact ⟨_, rfl⟩); (case z93p => first | exact IsPart.none | exact IsPart.int _ _); (case z93q => first | exact IsPart.none | exact IsPart.int _ _); (case z93e => assumption); (case z93s => with_unfolding_all rfl); (case z93t => kmk_pure); (case z93z => omega)))
  k_with "my z94" => (k_here; refine Hold.out ?_)
  k_with "my z95" => (k_here; walk_at "my nest")
  k_with "my z96" => (k_here; refine Hold.out ?_)
  k_with "my z97" => (first | exact List.mem_cons_self | (refine List.mem_cons_of_mem _ ?_; walk_at "my at"))
  k_with "my z98" => (k_here; refine Hold.out ?_)
  k_with "my z99" => (k_here; refine Hold.out ?_)
  k_with "my z100" => (k_here; refine Hold.out ?_)
  k_with "my z101" => (k_here; refine Hold.out ?_)
  k_with "my z102" => (k_here; k_dflt (refine' slice_nat ?z102F ?z102N ?z102m ?z102c ?z102d ?z102p ?z102q ?z102e ?_ ?z102s ?z102t ?z102z; (case z102F => k_asm); (case z102N => k_asm); (case z102m => k_mem); (case z102c => exact rfl); (case z102d => exact ⟨_, rfl⟩); (case z102p => first | exact IsPart.none | exact IsPart.int _ _); (case z102q => first | exact IsPart.none | exact IsPart.int _ _); (case z102e => assumption); (case z102s => with_unfolding_all rfl); (case z102t => kmk_pure); (case z102z => omega)))
  k_with "my z103" => (k_here; refine Hold.out ?_)
  k_with "my z104" => (k_here; refine Hold.out ?_)
  k_with "my z105" => (k_here; refine Hold.out ?_)
  k_with "my z106" => (k_here; refine Hold.out ?_)
  k_with "my z107" => (k_here; (with_reducible show wpAny _ _ (execs (Stmt.For _ _ _ _ _ :: _) _) _ _ _); refine Hold.out ?_)
  k_with "my z108" => (k_here; k_dflt (refine' ne_strs_same ?z108N ?z108a ?z108b ?z108ca ?z108da ?z108cb ?z108db ?z108i ?z108j ?z108x ?z108u ?_; (case z108N => k_asm); (case z108a => k_mem); (case z108b => k_mem); (case z108ca => exact rfl); (case z108da => exact ⟨_, rfl⟩); (case z108cb => exact rfl); (case z108db => exact ⟨_, rfl⟩); (case z108i => assumption); (case z108j => assumption); (case z108x => assumption); (case z108u => walk_at "my room"); k_whole))
  k_with "my z109" => (k_here; k_dflt (refine' operators_spec2 (k := 0) ?z109S ?_; (case z109S => walk_at "my sit")))
  k_with "my z110" => (k_here; k_dflt (refine' written_spec (k := 0) ?z110l ?z110hs ?z110hw ?z110h8 ?z110l2 ?z110hi ?z110h82 ?z110hd ?z110S ?_; (case z110S => walk_at "my sit"); (case z110l => k_mem); (case z110hs => assumption); (case z110hw => assumption); (case z110h8 => assumption); (case z110l2 => k_mem); (case z110hi => assumption); (case z110h82 => assumption); (case z110hd => assumption)))
  k_with "my z111" => (k_here; (with_reducible show wpAny _ _ (call (Value.ref 108) _) _ _ _); refine Hold.out ?_)
  k_with "my z112" => (k_here; k_dflt (refine' len_any ?z112N ?z112m ?z112z ?_; (case z112N => k_asm); (case z112m => k_mem); (case z112z => assumption)))
  k_with "my z113" => (k_here; (with_reducible refine mod_int' ?z113kbe ?_); (case z113kbe => first | assumption | decide))
  k_with "my z114" => (k_here; k_dflt (refine' pop_at ?z114F ?z114N ?z114i ?z114U ?z114z ?_; (case z114F => k_asm); (case z114N => k_asm); (case z114i => assumption); (case z114U => k_upd); (case z114z => assumption)))
  k_with "my z115" => (k_here; k_dflt (refine' append_mine ?z115F ?z115N ?z115U ?z115z ?_; (case z115F => k_asm); (case z115N => k_asm); (case z115U => k_upd); (case z115z => assumption)))
  k_with "my z116" => (k_here; walk_at "my comp")
  k_with "my z117" => (k_here; (with_reducible show wpAny _ _ (subscriptTail _ _ (Value.ref _) (Value.int _ _)) _ _ _); k_dflt (refine' item_op ?z117N ?z117m ?z117h ?_ ?z117s; (case z117N => k_asm); (case z117m => k_mem); (case z117h => assumption); (case z117s => with_unfolding_all rfl)))
  k_with "my z118" => (k_here; k_dflt (refine' add_strs ?z118F ?z118N ?z118a ?z118b ?z118i ?z118j ?z118z ?_; (case z118F => k_asm); (case z118N => k_asm); (case z118a => k_mem); (case z118b => k_mem); (case z118i => assumption); (case z118j => assumption); (case z118z => omega)))
  k_with "my z119" => (k_here; k_dflt (refine' sum_slice ?z119F ?z119N ?z119h ?z119m ?z119i ?_; (case z119h => exact rfl); (case z119F => k_asm); (case z119N => k_asm); (case z119m => k_mem); (case z119i => assumption)))
  k_with "my z120" => (k_here; refine Hold.out ?_)
  k_with "my z121" => (k_here; (with_reducible show wpAny _ _ (execs (Stmt.Assign [PySem.Expr.Name (Str.ofString "read") _] _ _ :: _) _) _ _ _); refine Hold.out ?_)
  k_with "my z122" => (k_here; refine Hold.out ?_)
  k_with "my z123" => (k_here; refine Hold.out ?_)
  k_with "my z124" => ((with_reducible refine wpAny_Assign_Name ?_ ?_); rotate_left; (with_unfolding_all rfl); walk_at "my comp")
  k_with "my roomd" => ((rename _ < recursionLimit => zhr); first | exact Nat.lt_of_le_of_lt (Nat.le_add_right _ 0) zhr | exact Nat.lt_of_le_of_lt (Nat.le_add_right _ 1) zhr | exact Nat.lt_of_le_of_lt (Nat.le_add_right _ 2) zhr | exact Nat.lt_of_le_of_lt (Nat.le_add_right _ 3) zhr | exact Nat.lt_of_le_of_lt (Nat.le_add_right _ 4) zhr | exact Nat.lt_of_le_of_lt (Nat.le_add_right _ 5) zhr | exact Nat.lt_of_le_of_lt (Nat.le_add_right _ 6) zhr | exact Nat.lt_of_le_of_lt (Nat.le_add_right _ 7) zhr | exact Nat.lt_of_le_of_lt (Nat.le_add_right _ 8) zhr | exact Nat.lt_of_le_of_lt (Nat.le_add_right _ 9) zhr | exact Nat.lt_of_le_of_lt (Nat.le_add_right _ 10) zhr | exact Nat.lt_of_le_of_lt (Nat.le_add_right _ 11) zhr | exact Nat.lt_of_le_of_lt (Nat.le_add_right _ 12) zhr | exact Nat.lt_of_le_of_lt (Nat.le_add_right _ 13) zhr | exact Nat.lt_of_le_of_lt (Nat.le_add_right _ 14) zhr | exact Nat.lt_of_le_of_lt (Nat.le_add_right _ 15) zhr | exact Nat.lt_of_le_of_lt (Nat.le_add_right _ 16) zhr | exact Nat.lt_of_le_of_lt (Nat.le_add_right _ 17) zhr | exact Nat.lt_of_le_of_lt (Nat.le_add_right _ 18) zhr | exact Nat.lt_of_le_of_lt (Nat.le_add_right _ 19) zhr | exact Nat.lt_of_le_of_lt (Nat.le_add_right _ 20) zhr | exact Nat.lt_of_le_of_lt (Nat.le_add_right _ 21) zhr | exact Nat.lt_of_le_of_lt (Nat.le_add_right _ 22) zhr | exact Nat.lt_of_le_of_lt (Nat.le_add_right _ 23) zhr | exact Nat.lt_of_le_of_lt (Nat.le_add_right _ 24) zhr | exact Nat.lt_of_le_of_lt (Nat.le_add_right _ 25) zhr | exact Nat.lt_of_le_of_lt (Nat.le_add_right _ 26) zhr | exact Nat.lt_of_le_of_lt (Nat.le_add_right _ 27) zhr | exact Nat.lt_of_le_of_lt (Nat.le_add_right _ 28) zhr | exact Nat.lt_of_le_of_lt (Nat.le_add_right _ 29) zhr | exact Nat.lt_of_le_of_lt (Nat.le_add_right _ 30) zhr | exact Nat.lt_of_le_of_lt (Nat.le_add_right _ 31) zhr | exact Nat.lt_of_le_of_lt (Nat.le_add_right _ 32) zhr | exact Nat.lt_of_le_of_lt (Nat.le_add_right _ 33) zhr | exact Nat.lt_of_le_of_lt (Nat.le_add_right _ 34) zhr | exact Nat.lt_of_le_of_lt (Nat.le_add_right _ 35) zhr | exact Nat.lt_of_le_of_lt (Nat.le_add_right _ 36) zhr | exact Nat.lt_of_le_of_lt (Nat.le_add_right _ 37) zhr | exact Nat.lt_of_le_of_lt (Nat.le_add_right _ 38) zhr | exact Nat.lt_of_le_of_lt (Nat.le_add_right _ 39) zhr)
  k_with "my roomu" => ((rename _ < cLine => zhr); first | exact Nat.lt_of_le_of_lt (Nat.le_add_right _ 0) zhr | exact Nat.lt_of_le_of_lt (Nat.le_add_right _ 1) zhr | exact Nat.lt_of_le_of_lt (Nat.le_add_right _ 2) zhr | exact Nat.lt_of_le_of_lt (Nat.le_add_right _ 3) zhr | exact Nat.lt_of_le_of_lt (Nat.le_add_right _ 4) zhr | exact Nat.lt_of_le_of_lt (Nat.le_add_right _ 5) zhr | exact Nat.lt_of_le_of_lt (Nat.le_add_right _ 6) zhr | exact Nat.lt_of_le_of_lt (Nat.le_add_right _ 7) zhr | exact Nat.lt_of_le_of_lt (Nat.le_add_right _ 8) zhr | exact Nat.lt_of_le_of_lt (Nat.le_add_right _ 9) zhr | exact Nat.lt_of_le_of_lt (Nat.le_add_right _ 10) zhr | exact Nat.lt_of_le_of_lt (Nat.le_add_right _ 11) zhr | exact Nat.lt_of_le_of_lt (Nat.le_add_right _ 12) zhr | exact Nat.lt_of_le_of_lt (Nat.le_add_right _ 13) zhr | exact Nat.lt_of_le_of_lt (Nat.le_add_right _ 14) zhr | exact Nat.lt_of_le_of_lt (Nat.le_add_right _ 15) zhr | exact Nat.lt_of_le_of_lt (Nat.le_add_right _ 16) zhr | exact Nat.lt_of_le_of_lt (Nat.le_add_right _ 17) zhr | exact Nat.lt_of_le_of_lt (Nat.le_add_right _ 18) zhr | exact Nat.lt_of_le_of_lt (Nat.le_add_right _ 19) zhr | exact Nat.lt_of_le_of_lt (Nat.le_add_right _ 20) zhr | exact Nat.lt_of_le_of_lt (Nat.le_add_right _ 21) zhr | exact Nat.lt_of_le_of_lt (Nat.le_add_right _ 22) zhr | exact Nat.lt_of_le_of_lt (Nat.le_add_right _ 23) zhr | exact Nat.lt_of_le_of_lt (Nat.le_add_right _ 24) zhr | exact Nat.lt_of_le_of_lt (Nat.le_add_right _ 25) zhr | exact Nat.lt_of_le_of_lt (Nat.le_add_right _ 26) zhr | exact Nat.lt_of_le_of_lt (Nat.le_add_right _ 27) zhr | exact Nat.lt_of_le_of_lt (Nat.le_add_right _ 28) zhr | exact Nat.lt_of_le_of_lt (Nat.le_add_right _ 29) zhr | exact Nat.lt_of_le_of_lt (Nat.le_add_right _ 30) zhr | exact Nat.lt_of_le_of_lt (Nat.le_add_right _ 31) zhr | exact Nat.lt_of_le_of_lt (Nat.le_add_right _ 32) zhr | exact Nat.lt_of_le_of_lt (Nat.le_add_right _ 33) zhr | exact Nat.lt_of_le_of_lt (Nat.le_add_right _ 34) zhr | exact Nat.lt_of_le_of_lt (Nat.le_add_right _ 35) zhr | exact Nat.lt_of_le_of_lt (Nat.le_add_right _ 36) zhr | exact Nat.lt_of_le_of_lt (Nat.le_add_right _ 37) zhr | exact Nat.lt_of_le_of_lt (Nat.le_add_right _ 38) zhr | exact Nat.lt_of_le_of_lt (Nat.le_add_right _ 39) zhr | exact Nat.lt_of_le_of_lt (Nat.le_add_right _ 40) zhr | exact Nat.lt_of_le_of_lt (Nat.le_add_right _ 41) zhr | exact Nat.lt_of_le_of_lt (Nat.le_add_right _ 42) zhr | exact Nat.lt_of_le_of_lt (Nat.le_add_right _ 43) zhr | exact Nat.lt_of_le_of_lt (Nat.le_add_right _ 44) zhr | exact Nat.lt_of_le_of_lt (Nat.le_add_right _ 45) zhr | exact Nat.lt_of_le_of_lt (Nat.le_add_right _ 46) zhr | exact Nat.lt_of_le_of_lt (Nat.le_add_right _ 47) zhr | exact Nat.lt_of_le_of_lt (Nat.le_add_right _ 48) zhr | exact Nat.lt_of_le_of_lt (Nat.le_add_right _ 49) zhr | exact Nat.lt_of_le_of_lt (Nat.le_add_right _ 50) zhr | exact Nat.lt_of_le_of_lt (Nat.le_add_right _ 51) zhr | exact Nat.lt_of_le_of_lt (Nat.le_add_right _ 52) zhr | exact Nat.lt_of_le_of_lt (Nat.le_add_right _ 53) zhr | exact Nat.lt_of_le_of_lt (Nat.le_add_right _ 54) zhr | exact Nat.lt_of_le_of_lt (Nat.le_add_right _ 55) zhr | exact Nat.lt_of_le_of_lt (Nat.le_add_right _ 56) zhr | exact Nat.lt_of_le_of_lt (Nat.le_add_right _ 57) zhr | exact Nat.lt_of_le_of_lt (Nat.le_add_right _ 58) zhr | exact Nat.lt_of_le_of_lt (Nat.le_add_right _ 59) zhr | exact Nat.lt_of_le_of_lt (Nat.le_add_right _ 60) zhr | exact Nat.lt_of_le_of_lt (Nat.le_add_right _ 61) zhr | exact Nat.lt_of_le_of_lt (Nat.le_add_right _ 62) zhr | exact Nat.lt_of_le_of_lt (Nat.le_add_right _ 63) zhr | exact Nat.lt_of_le_of_lt (Nat.le_add_right _ 64) zhr | exact Nat.lt_of_le_of_lt (Nat.le_add_right _ 65) zhr | exact Nat.lt_of_le_of_lt (Nat.le_add_right _ 66) zhr | exact Nat.lt_of_le_of_lt (Nat.le_add_right _ 67) zhr | exact Nat.lt_of_le_of_lt (Nat.le_add_right _ 68) zhr | exact Nat.lt_of_le_of_lt (Nat.le_add_right _ 69) zhr | exact Nat.lt_of_le_of_lt (Nat.le_add_right _ 70) zhr | exact Nat.lt_of_le_of_lt (Nat.le_add_right _ 71) zhr | exact Nat.lt_of_le_of_lt (Nat.le_add_right _ 72) zhr | exact Nat.lt_of_le_of_lt (Nat.le_add_right _ 73) zhr | exact Nat.lt_of_le_of_lt (Nat.le_add_right _ 74) zhr | exact Nat.lt_of_le_of_lt (Nat.le_add_right _ 75) zhr | exact Nat.lt_of_le_of_lt (Nat.le_add_right _ 76) zhr | exact Nat.lt_of_le_of_lt (Nat.le_add_right _ 77) zhr | exact Nat.lt_of_le_of_lt (Nat.le_add_right _ 78) zhr | exact Nat.lt_of_le_of_lt (Nat.le_add_right _ 79) zhr | exact Nat.lt_of_le_of_lt (Nat.le_add_right _ 80) zhr | exact Nat.lt_of_le_of_lt (Nat.le_add_right _ 81) zhr | exact Nat.lt_of_le_of_lt (Nat.le_add_right _ 82) zhr | exact Nat.lt_of_le_of_lt (Nat.le_add_right _ 83) zhr | exact Nat.lt_of_le_of_lt (Nat.le_add_right _ 84) zhr | exact Nat.lt_of_le_of_lt (Nat.le_add_right _ 85) zhr | exact Nat.lt_of_le_of_lt (Nat.le_add_right _ 86) zhr | exact Nat.lt_of_le_of_lt (Nat.le_add_right _ 87) zhr | exact Nat.lt_of_le_of_lt (Nat.le_add_right _ 88) zhr | exact Nat.lt_of_le_of_lt (Nat.le_add_right _ 89) zhr | exact Nat.lt_of_le_of_lt (Nat.le_add_right _ 90) zhr | exact Nat.lt_of_le_of_lt (Nat.le_add_right _ 91) zhr | exact Nat.lt_of_le_of_lt (Nat.le_add_right _ 92) zhr | exact Nat.lt_of_le_of_lt (Nat.le_add_right _ 93) zhr | exact Nat.lt_of_le_of_lt (Nat.le_add_right _ 94) zhr | exact Nat.lt_of_le_of_lt (Nat.le_add_right _ 95) zhr | exact Nat.lt_of_le_of_lt (Nat.le_add_right _ 96) zhr | exact Nat.lt_of_le_of_lt (Nat.le_add_right _ 97) zhr | exact Nat.lt_of_le_of_lt (Nat.le_add_right _ 98) zhr | exact Nat.lt_of_le_of_lt (Nat.le_add_right _ 99) zhr | exact Nat.lt_of_le_of_lt (Nat.le_add_right _ 100) zhr | exact Nat.lt_of_le_of_lt (Nat.le_add_right _ 101) zhr | exact Nat.lt_of_le_of_lt (Nat.le_add_right _ 102) zhr | exact Nat.lt_of_le_of_lt (Nat.le_add_right _ 103) zhr | exact Nat.lt_of_le_of_lt (Nat.le_add_right _ 104) zhr | exact Nat.lt_of_le_of_lt (Nat.le_add_right _ 105) zhr | exact Nat.lt_of_le_of_lt (Nat.le_add_right _ 106) zhr | exact Nat.lt_of_le_of_lt (Nat.le_add_right _ 107) zhr | exact Nat.lt_of_le_of_lt (Nat.le_add_right _ 108) zhr | exact Nat.lt_of_le_of_lt (Nat.le_add_right _ 109) zhr | exact Nat.lt_of_le_of_lt (Nat.le_add_right _ 110) zhr | exact Nat.lt_of_le_of_lt (Nat.le_add_right _ 111) zhr | exact Nat.lt_of_le_of_lt (Nat.le_add_right _ 112) zhr | exact Nat.lt_of_le_of_lt (Nat.le_add_right _ 113) zhr | exact Nat.lt_of_le_of_lt (Nat.le_add_right _ 114) zhr | exact Nat.lt_of_le_of_lt (Nat.le_add_right _ 115) zhr | exact Nat.lt_of_le_of_lt (Nat.le_add_right _ 116) zhr | exact Nat.lt_of_le_of_lt (Nat.le_add_right _ 117) zhr | exact Nat.lt_of_le_of_lt (Nat.le_add_right _ 118) zhr | exact Nat.lt_of_le_of_lt (Nat.le_add_right _ 119) zhr | exact Nat.lt_of_le_of_lt (Nat.le_add_right _ 120) zhr | exact Nat.lt_of_le_of_lt (Nat.le_add_right _ 121) zhr | exact Nat.lt_of_le_of_lt (Nat.le_add_right _ 122) zhr | exact Nat.lt_of_le_of_lt (Nat.le_add_right _ 123) zhr | exact Nat.lt_of_le_of_lt (Nat.le_add_right _ 124) zhr | exact Nat.lt_of_le_of_lt (Nat.le_add_right _ 125) zhr | exact Nat.lt_of_le_of_lt (Nat.le_add_right _ 126) zhr | exact Nat.lt_of_le_of_lt (Nat.le_add_right _ 127) zhr | exact Nat.lt_of_le_of_lt (Nat.le_add_right _ 128) zhr | exact Nat.lt_of_le_of_lt (Nat.le_add_right _ 129) zhr | exact Nat.lt_of_le_of_lt (Nat.le_add_right _ 130) zhr | exact Nat.lt_of_le_of_lt (Nat.le_add_right _ 131) zhr | exact Nat.lt_of_le_of_lt (Nat.le_add_right _ 132) zhr | exact Nat.lt_of_le_of_lt (Nat.le_add_right _ 133) zhr | exact Nat.lt_of_le_of_lt (Nat.le_add_right _ 134) zhr | exact Nat.lt_of_le_of_lt (Nat.le_add_right _ 135) zhr | exact Nat.lt_of_le_of_lt (Nat.le_add_right _ 136) zhr | exact Nat.lt_of_le_of_lt (Nat.le_add_right _ 137) zhr | exact Nat.lt_of_le_of_lt (Nat.le_add_right _ 138) zhr | exact Nat.lt_of_le_of_lt (Nat.le_add_right _ 139) zhr)
  k_with "my room1" => ((try simp only [depth_under_make, depth_under_kw, depth_in1, depth_deeper, units_in1, units_deeper, Around.mark_units]); with_reducible (first | ((show _ < recursionLimit); k_extra "my roomd") | ((show _ < cLine); k_extra "my roomu")))
  k_with "my roomS" => (first | k_extra "my room1" | ((try simp only [depth_under_make, depth_under_kw, depth_in1, depth_deeper, units_in1, units_deeper, Around.mark_units] at *); omega))
  k_with "my rankj" => (first | (exact (0 : Nat); exact Eq.refl (some _); exact Eq.refl false) | (exact (1 : Nat); exact Eq.refl (some _); exact Eq.refl false) | (exact (2 : Nat); exact Eq.refl (some _); exact Eq.refl false) | (exact (3 : Nat); exact Eq.refl (some _); exact Eq.refl false) | (exact (4 : Nat); exact Eq.refl (some _); exact Eq.refl false) | (exact (5 : Nat); exact Eq.refl (some _); exact Eq.refl false) | (exact (6 : Nat); exact Eq.refl (some _); exact Eq.refl false) | (exact (7 : Nat); exact Eq.refl (some _); exact Eq.refl false) | (exact (8 : Nat); exact Eq.refl (some _); exact Eq.refl false) | (exact (9 : Nat); exact Eq.refl (some _); exact Eq.refl false) | (exact (10 : Nat); exact Eq.refl (some _); exact Eq.refl false) | (exact (11 : Nat); exact Eq.refl (some _); exact Eq.refl false) | (exact (12 : Nat); exact Eq.refl (some _); exact Eq.refl false) | (exact (13 : Nat); exact Eq.refl (some _); exact Eq.refl false) | (exact (14 : Nat); exact Eq.refl (some _); exact Eq.refl false) | (exact (15 : Nat); exact Eq.refl (some _); exact Eq.refl false) | (exact (16 : Nat); exact Eq.refl (some _); exact Eq.refl false) | (exact (17 : Nat); exact Eq.refl (some _); exact Eq.refl false) | (exact (18 : Nat); exact Eq.refl (some _); exact Eq.refl false) | (exact (19 : Nat); exact Eq.refl (some _); exact Eq.refl false) | (exact (20 : Nat); exact Eq.refl (some _); exact Eq.refl false) | (exact (21 : Nat); exact Eq.refl (some _); exact Eq.refl false) | (exact (22 : Nat); exact Eq.refl (some _); exact Eq.refl false) | (exact (23 : Nat); exact Eq.refl (some _); exact Eq.refl false) | (exact (24 : Nat); exact Eq.refl (some _); exact Eq.refl false) | (exact (25 : Nat); exact Eq.refl (some _); exact Eq.refl false))
  k_with "my rank" => ((with_reducible rename Ranked _ => zhS); first | (refine zhS 0 ?_ _ _ (Eq.refl (some _)) ?_ ?_; k_extra "my rankj") | (refine zhS 1 ?_ _ _ (Eq.refl (some _)) ?_ ?_; k_extra "my rankj") | (refine zhS 2 ?_ _ _ (Eq.refl (some _)) ?_ ?_; k_extra "my rankj") | (refine zhS 3 ?_ _ _ (Eq.refl (some _)) ?_ ?_; k_extra "my rankj") | (refine zhS 4 ?_ _ _ (Eq.refl (some _)) ?_ ?_; k_extra "my rankj") | (refine zhS 5 ?_ _ _ (Eq.refl (some _)) ?_ ?_; k_extra "my rankj") | (refine zhS 6 ?_ _ _ (Eq.refl (some _)) ?_ ?_; k_extra "my rankj") | (refine zhS 7 ?_ _ _ (Eq.refl (some _)) ?_ ?_; k_extra "my rankj") | (refine zhS 8 ?_ _ _ (Eq.refl (some _)) ?_ ?_; k_extra "my rankj") | (refine zhS 9 ?_ _ _ (Eq.refl (some _)) ?_ ?_; k_extra "my rankj") | (refine zhS 10 ?_ _ _ (Eq.refl (some _)) ?_ ?_; k_extra "my rankj") | (refine zhS 11 ?_ _ _ (Eq.refl (some _)) ?_ ?_; k_extra "my rankj") | (refine zhS 12 ?_ _ _ (Eq.refl (some _)) ?_ ?_; k_extra "my rankj") | (refine zhS 13 ?_ _ _ (Eq.refl (some _)) ?_ ?_; k_extra "my rankj") | (refine zhS 14 ?_ _ _ (Eq.refl (some _)) ?_ ?_; k_extra "my rankj") | (refine zhS 15 ?_ _ _ (Eq.refl (some _)) ?_ ?_; k_extra "my rankj") | (refine zhS 16 ?_ _ _ (Eq.refl (some _)) ?_ ?_; k_extra "my rankj") | (refine zhS 17 ?_ _ _ (Eq.refl (some _)) ?_ ?_; k_extra "my rankj") | (refine zhS 18 ?_ _ _ (Eq.refl (some _)) ?_ ?_; k_extra "my rankj") | (refine zhS 19 ?_ _ _ (Eq.refl (some _)) ?_ ?_; k_extra "my rankj") | (refine zhS 20 ?_ _ _ (Eq.refl (some _)) ?_ ?_; k_extra "my rankj") | (refine zhS 21 ?_ _ _ (Eq.refl (some _)) ?_ ?_; k_extra "my rankj") | (refine zhS 22 ?_ _ _ (Eq.refl (some _)) ?_ ?_; k_extra "my rankj") | (refine zhS 23 ?_ _ _ (Eq.refl (some _)) ?_ ?_; k_extra "my rankj") | (refine zhS 24 ?_ _ _ (Eq.refl (some _)) ?_ ?_; k_extra "my rankj") | (refine zhS 25 ?_ _ _ (Eq.refl (some _)) ?_ ?_; k_extra "my rankj"))
  k_with "my ne" => (k_dflt (first | k_extra "my rank" | exact Nat.ne_of_lt (by with_reducible assumption) | exact Nat.ne_of_gt (by with_reducible assumption) | k_extra "my ne1"))
  k_with "my ne1" => ((with_reducible rename _ ∧ _ => zhc); first | exact Nat.ne_of_lt zhc.1 | exact Nat.ne_of_gt zhc.1 | exact Nat.ne_of_lt zhc.2.1 | exact Nat.ne_of_gt zhc.2.1 | exact Nat.ne_of_lt zhc.2.2.1 | exact Nat.ne_of_gt zhc.2.2.1 | exact Nat.ne_of_lt zhc.2.2.2.1 | exact Nat.ne_of_gt zhc.2.2.2.1 | exact Nat.ne_of_lt zhc.2.2.2.2.1 | exact Nat.ne_of_gt zhc.2.2.2.2.1 | exact Nat.ne_of_lt zhc.2.2.2.2.2.1 | exact Nat.ne_of_gt zhc.2.2.2.2.2.1 | exact Nat.ne_of_lt zhc.2.2.2.2.2.2.1 | exact Nat.ne_of_gt zhc.2.2.2.2.2.2.1 | exact Nat.ne_of_lt zhc.2.2.2.2.2.2.2.1 | exact Nat.ne_of_gt zhc.2.2.2.2.2.2.2.1 | exact Nat.ne_of_lt zhc.2.2.2.2.2.2.2.2.1 | exact Nat.ne_of_gt zhc.2.2.2.2.2.2.2.2.1 | exact Nat.ne_of_lt zhc.2.2.2.2.2.2.2.2.2.1 | exact Nat.ne_of_gt zhc.2.2.2.2.2.2.2.2.2.1 | exact Nat.ne_of_lt zhc.2.2.2.2.2.2.2.2.2.2.1 | exact Nat.ne_of_gt zhc.2.2.2.2.2.2.2.2.2.2.1 | exact Nat.ne_of_lt zhc.2.2.2.2.2.2.2.2.2.2.2.1 | exact Nat.ne_of_gt zhc.2.2.2.2.2.2.2.2.2.2.2.1 | exact Nat.ne_of_lt zhc.2.2.2.2.2.2.2.2.2.2.2.2.1 | exact Nat.ne_of_gt zhc.2.2.2.2.2.2.2.2.2.2.2.2.1 | exact Nat.ne_of_lt zhc.2.2.2.2.2.2.2.2.2.2.2.2.2.1 | exact Nat.ne_of_gt zhc.2.2.2.2.2.2.2.2.2.2.2.2.2.1 | exact Nat.ne_of_lt zhc.2.2.2.2.2.2.2.2.2.2.2.2.2.2.1 | exact Nat.ne_of_gt zhc.2.2.2.2.2.2.2.2.2.2.2.2.2.2.1 | exact Nat.ne_of_lt zhc.2.2.2.2.2.2.2.2.2.2.2.2.2.2.2.1 | exact Nat.ne_of_gt zhc.2.2.2.2.2.2.2.2.2.2.2.2.2.2.2.1 | exact Nat.ne_of_lt zhc.2.2.2.2.2.2.2.2.2.2.2.2.2.2.2.2.1 | exact Nat.ne_of_gt zhc.2.2.2.2.2.2.2.2.2.2.2.2.2.2.2.2.1 | exact Nat.ne_of_lt zhc.2.2.2.2.2.2.2.2.2.2.2.2.2.2.2.2.2.1 | exact Nat.ne_of_gt zhc.2.2.2.2.2.2.2.2.2.2.2.2.2.2.2.2.2.1 | exact Nat.ne_of_lt zhc.2.2.2.2.2.2.2.2.2.2.2.2.2.2.2.2.2.2.1 | exact Nat.ne_of_gt zhc.2.2.2.2.2.2.2.2.2.2.2.2.2.2.2.2.2.2.1 | exact Nat.ne_of_lt zhc.2.2.2.2.2.2.2.2.2.2.2.2.2.2.2.2.2.2.2.1 | exact Nat.ne_of_gt zhc.2.2.2.2.2.2.2.2.2.2.2.2.2.2.2.2.2.2.2.1 | exact Nat.ne_of_lt zhc.2.2.2.2.2.2.2.2.2.2.2.2.2.2.2.2.2.2.2.2.1 | exact Nat.ne_of_gt zhc.2.2.2.2.2.2.2.2.2.2.2.2.2.2.2.2.2.2.2.2.1 | exact Nat.ne_of_lt zhc.2.2.2.2.2.2.2.2.2.2.2.2.2.2.2.2.2.2.2.2.2.1 | exact Nat.ne_of_gt zhc.2.2.2.2.2.2.2.2.2.2.2.2.2.2.2.2.2.2.2.2.2.1 | exact Nat.ne_of_lt zhc.2.2.2.2.2.2.2.2.2.2.2.2.2.2.2.2.2.2.2.2.2.2.1 | exact Nat.ne_of_gt zhc.2.2.2.2.2.2.2.2.2.2.2.2.2.2.2.2.2.2.2.2.2.2.1 | exact Nat.ne_of_lt zhc.2.2.2.2.2.2.2.2.2.2.2.2.2.2.2.2.2.2.2.2.2.2.2.1 | exact Nat.ne_of_gt zhc.2.2.2.2.2.2.2.2.2.2.2.2.2.2.2.2.2.2.2.2.2.2.2.1 | exact Nat.ne_of_lt zhc.2.2.2.2.2.2.2.2.2.2.2.2.2.2.2.2.2.2.2.2.2.2.2.2.1 | exact Nat.ne_of_gt zhc.2.2.2.2.2.2.2.2.2.2.2.2.2.2.2.2.2.2.2.2.2.2.2.2.1 | exact Nat.ne_of_lt zhc.2.2.2.2.2.2.2.2.2.2.2.2.2.2.2.2.2.2.2.2.2.2.2.2.2.1 | exact Nat.ne_of_gt zhc.2.2.2.2.2.2.2.2.2.2.2.2.2.2.2.2.2.2.2.2.2.2.2.2.2.1 | exact Nat.ne_of_lt zhc.2 | exact Nat.ne_of_gt zhc.2 | exact Nat.ne_of_lt zhc.2.2 | exact Nat.ne_of_gt zhc.2.2 | exact Nat.ne_of_lt zhc.2.2.2 | exact Nat.ne_of_gt zhc.2.2.2 | exact Nat.ne_of_lt zhc.2.2.2.2 | exact Nat.ne_of_gt zhc.2.2.2.2 | exact Nat.ne_of_lt zhc.2.2.2.2.2 | exact Nat.ne_of_gt zhc.2.2.2.2.2 | exact Nat.ne_of_lt zhc.2.2.2.2.2.2 | exact Nat.ne_of_gt zhc.2.2.2.2.2.2 | exact Nat.ne_of_lt zhc.2.2.2.2.2.2.2 | exact Nat.ne_of_gt zhc.2.2.2.2.2.2.2 | exact Nat.ne_of_lt zhc.2.2.2.2.2.2.2.2 | exact Nat.ne_of_gt zhc.2.2.2.2.2.2.2.2 | exact Nat.ne_of_lt zhc.2.2.2.2.2.2.2.2.2 | exact Nat.ne_of_gt zhc.2.2.2.2.2.2.2.2.2 | exact Nat.ne_of_lt zhc.2.2.2.2.2.2.2.2.2.2 | exact Nat.ne_of_gt zhc.2.2.2.2.2.2.2.2.2.2 | exact Nat.ne_of_lt zhc.2.2.2.2.2.2.2.2.2.2.2 | exact Nat.ne_of_gt zhc.2.2.2.2.2.2.2.2.2.2.2 | exact Nat.ne_of_lt zhc.2.2.2.2.2.2.2.2.2.2.2.2 | exact Nat.ne_of_gt zhc.2.2.2.2.2.2.2.2.2.2.2.2 | exact Nat.ne_of_lt zhc.2.2.2.2.2.2.2.2.2.2.2.2.2 | exact Nat.ne_of_gt zhc.2.2.2.2.2.2.2.2.2.2.2.2.2 | exact Nat.ne_of_lt zhc.2.2.2.2.2.2.2.2.2.2.2.2.2.2 | exact Nat.ne_of_gt zhc.2.2.2.2.2.2.2.2.2.2.2.2.2.2 | exact Nat.ne_of_lt zhc.2.2.2.2.2.2.2.2.2.2.2.2.2.2.2 | exact Nat.ne_of_gt zhc.2.2.2.2.2.2.2.2.2.2.2.2.2.2.2 | exact Nat.ne_of_lt zhc.2.2.2.2.2.2.2.2.2.2.2.2.2.2.2.2 | exact Nat.ne_of_gt zhc.2.2.2.2.2.2.2.2.2.2.2.2.2.2.2.2 | exact Nat.ne_of_lt zhc.2.2.2.2.2.2.2.2.2.2.2.2.2.2.2.2.2 | exact Nat.ne_of_gt zhc.2.2.2.2.2.2.2.2.2.2.2.2.2.2.2.2.2 | exact Nat.ne_of_lt zhc.2.2.2.2.2.2.2.2.2.2.2.2.2.2.2.2.2.2 | exact Nat.ne_of_gt zhc.2.2.2.2.2.2.2.2.2.2.2.2.2.2.2.2.2.2 | exact Nat.ne_of_lt zhc.2.2.2.2.2.2.2.2.2.2.2.2.2.2.2.2.2.2.2 | exact Nat.ne_of_gt zhc.2.2.2.2.2.2.2.2.2.2.2.2.2.2.2.2.2.2.2 | exact Nat.ne_of_lt zhc.2.2.2.2.2.2.2.2.2.2.2.2.2.2.2.2.2.2.2.2 | exact Nat.ne_of_gt zhc.2.2.2.2.2.2.2.2.2.2.2.2.2.2.2.2.2.2.2.2 | exact Nat.ne_of_lt zhc.2.2.2.2.2.2.2.2.2.2.2.2.2.2.2.2.2.2.2.2.2 | exact Nat.ne_of_gt zhc.2.2.2.2.2.2.2.2.2.2.2.2.2.2.2.2.2.2.2.2.2 | exact Nat.ne_of_lt zhc.2.2.2.2.2.2.2.2.2.2.2.2.2.2.2.2.2.2.2.2.2.2 | exact Nat.ne_of_gt zhc.2.2.2.2.2.2.2.2.2.2.2.2.2.2.2.2.2.2.2.2.2.2 | exact Nat.ne_of_lt zhc.2.2.2.2.2.2.2.2.2.2.2.2.2.2.2.2.2.2.2.2.2.2.2 | exact Nat.ne_of_gt zhc.2.2.2.2.2.2.2.2.2.2.2.2.2.2.2.2.2.2.2.2.2.2.2 | exact Nat.ne_of_lt zhc.2.2.2.2.2.2.2.2.2.2.2.2.2.2.2.2.2.2.2.2.2.2.2.2 | exact Nat.ne_of_gt zhc.2.2.2.2.2.2.2.2.2.2.2.2.2.2.2.2.2.2.2.2.2.2.2.2 | exact Nat.ne_of_lt zhc.2.2.2.2.2.2.2.2.2.2.2.2.2.2.2.2.2.2.2.2.2.2.2.2.2 | exact Nat.ne_of_gt zhc.2.2.2.2.2.2.2.2.2.2.2.2.2.2.2.2.2.2.2.2.2.2.2.2.2 | (clear zhc; k_extra "my ne1"))
  trivial
section SP00
/-- where a call stands: the caller's frame, what it made, what lies below -/
structure Sit (w : World) (A : Around) (env : Env) (L : Addr) (h₀ h : Heap) (m : Str → Option Value) (news : List (Addr × Obj)) (k : Nat) : Prop where
  B : ∃ A₀ base outer, Below A₀ base outer h₀ ∧ A.frames = some (env :: outer)
  F : Fr h₀ L h m
  N : News h₀ L h news
  X : (hd.heap_1_41 w.params).In h₀
  T : ∃ p loose mean mg mb, Top p loose mean mg mb h₀
  hf : env.frame = some L
  hke : env.scope.kind = .function
  hh : A.handled = none
  hd : A.depth + k < recursionLimit
  hu : A.units + 4 * k + 100 < cLine

/-- what a call hands on: the frame and the ledger at the new heap -/
abbrev Ret (h₀ : Heap) (L : Addr) (m : Str → Option Value) (news : List (Addr × Obj)) (s : Shared) (Q : Value → Shared → Prop) (v : Tok → Value) : Prop :=
  ∀ t h' tk', Fr h₀ L h' m → News h₀ L h' news → Q (v t) { s with heap := h', toks := tk' }
/-- the same with one new object -/
abbrev RetNew (h₀ : Heap) (L : Addr) (m : Str → Option Value) (news : List (Addr × Obj)) (s : Shared) (Q : Value → Shared → Prop) (o : Obj) : Prop :=
  ∀ D h' tk', Fr h₀ L h' m → News h₀ L h' ((D, o) :: news) → (∀ p ∈ news, p.1 < D) → Q (.ref D) { s with heap := h', toks := tk' }

theorem Sit.elim {w : World} {A : Around} {env : Env} {L : Addr} {h₀ h : Heap} {m : Str → Option Value} {news : List (Addr × Obj)} {k : Nat} {C : Prop} (S : Sit w A env L h₀ h m news k)
    (f : ∀ (A₀ : Around) (base : Heap) (outer : List Env) (d u : Nat) (g : Option (List Code)), A = { handled := none, depth := d, frames := some (env :: outer), guards := g, units := u } → Below A₀ base outer h₀ → Fr h₀ L h m → News h₀ L h news → (hd.heap_1_41 w.params).In h₀ →
      ∀ (p : Program) (loose : List Str) (mean : ExcName → Option Value) (mg mb : Str → Option Value), Top p loose mean mg mb h₀ → env.frame = some L → env.scope.kind = .function → d + k < recursionLimit → u + 4 * k + 100 < cLine → C) : C := by
  obtain ⟨⟨A₀, base, outer, B, hA⟩, F, N, X, ⟨p, loose, mean, mg, mb, T⟩, hf, hke, hh, hdd, hu⟩ := S
  obtain ⟨ah, ad, af, ag, au⟩ := A
  dsimp only at hA hh hdd hu
  subst hh; subst hA
  exact f A₀ base outer ad au ag rfl B F N X p loose mean mg mb T hf hke hdd hu

theorem ret_int {h₀ h' : Heap} {L : Addr} {m : Str → Option Value} {news news' : List (Addr × Obj)} {s : Shared} {Q : Value → Shared → Prop} {v v' : Int} {t : Tok} {tk' : Nat} (hret : Ret h₀ L m news s Q (.int v)) (e : v' = v) (F : Fr h₀ L h' m) (N : News h₀ L h' news')
    (hs : ∀ p ∈ news, p ∈ news') : Q (.int v' t) { s with heap := h', toks := tk' } := by
  subst e
  exact hret t h' tk' F fun p hp => N p (hs p hp)
theorem ret_bool {h₀ h' : Heap} {L : Addr} {m : Str → Option Value} {news news' : List (Addr × Obj)} {s : Shared} {Q : Value → Shared → Prop} {v v' : Bool} {tk' : Nat} (hret : Ret h₀ L m news s Q (fun _ => .bool v)) (e : v' = v) (F : Fr h₀ L h' m) (N : News h₀ L h' news')
    (hs : ∀ p ∈ news, p ∈ news') : Q (.bool v') { s with heap := h', toks := tk' } := by
  subst e
  exact hret 0 h' tk' F fun p hp => N p (hs p hp)

theorem allLt_lt {d : Addr} {l : List (Addr × Obj)} (h : AllLt d l) : ∀ p ∈ l, p.1 < d := by
  induction l with
  | nil => intro p hp; cases hp
  | cons q l ih =>
    intro p hp
    have h1 : @LT.lt Nat _ q.1 d := h.1
    have h2 := ih h.2
    cases hp with
    | head => exact h1
    | tail _ hp => exact h2 p hp
theorem allLt_ne {d : Addr} {l : List (Addr × Obj)} (h : AllLt d l) : ∀ p ∈ l, p.1 ≠ d := fun p hp => Nat.ne_of_lt (allLt_lt h p hp)
theorem lt_succ_all {d : Addr} {l : List (Addr × Obj)} (h : ∀ p ∈ l, p.1 < d) (i : Nat) : ∀ p ∈ l, p.1 < d + i := fun p hp => Nat.lt_of_lt_of_le (h p hp) (Nat.le_add_right _ _)
/-- rising numbers, and that any two places of theirs differ -/
inductive Rise : List Nat → Prop
  | one (a : Nat) : Rise [a]
  | cons {a b : Nat} {l : List Nat} : a < b → Rise (b :: l) → Rise (a :: b :: l)
def Ranked (l : List Nat) : Prop := ∀ i j x y : Nat, l[i]? = some x → l[j]? = some y → Nat.beq i j = false → x ≠ y
theorem Rise.above : ∀ {l : List Nat} {a : Nat}, Rise (a :: l) → ∀ j y : Nat, l[j]? = some y → a < y
  | [], _, _, j, y, h => by simp at h
  | b :: l, a, .cons h r, j, y, hy => by
    cases j with
    | zero => simp at hy; exact hy ▸ h
    | succ j => exact Nat.lt_trans h (r.above j y (by simpa using hy))
theorem Rise.tail {a b : Nat} {l : List Nat} : Rise (a :: b :: l) → Rise (b :: l)
  | .cons _ r => r
theorem Rise.ranked : ∀ {l : List Nat}, Rise l → Ranked l
  | [], _, i, _, _, _, hi, _, _ => by simp at hi
  | [a], _, i, j, x, y, hi, hj, h => by
    cases i with
    | zero => cases j with
      | zero => cases h
      | succ j => simp at hj
    | succ i => simp at hi
  | a :: b :: l, r, i, j, x, y, hi, hj, h => by
    cases i with
    | zero => cases j with
      | zero => cases h
      | succ j => simp at hi; exact hi ▸ Nat.ne_of_lt (r.above j y (by simpa using hj))
    | succ i => cases j with
      | zero => simp at hj; exact hj ▸ Nat.ne_of_gt (r.above i x (by simpa using hi))
      | succ j => exact r.tail.ranked i j x y (by simpa using hi) (by simpa using hj) h

end SP00
section W1
local macro_rules | `(tactic| k_all) => `(tactic| k_extra "my z1")
local macro_rules | `(tactic| k_mem) => `(tactic| assumption)
local macro_rules | `(tactic| walk_at "my open") => `(tactic| (with_reducible rename Sit _ _ _ _ _ _ _ _ _ => S; refine Sit.elim S ?_; clear S; intro A₀ base outer ad au ag hA B F N X p loose mean mg mb T hf hke hdd hu; subst hA))
local macro_rules | `(tactic| walk_at "my room") => `(tactic| k_extra "my z2")
local macro_rules | `(tactic| walk_at "my enter") => `(tactic| (k_extra "my z3"; intro g' L' h' FG' F' N' B' X' T'; (try dsimp only)))
local macro_rules | `(tactic| walk_at "my enterC") => `(tactic| (k_extra "my z4"; intro g' L' h' tk' cells' FG' F' N' Y' B' X' T' l1; have l2 := lt_succ_all l1 1; have l3 := lt_succ_all l1 2; k_lt l1; k_lt l2; k_lt l3; k_cells Y'; (try simp only [List.cons_append, List.nil_append] at N'); (try dsimp only)))
local macro_rules | `(tactic| walk_at "my sit") => `(tactic| k_extra "my z5")
local macro_rules | `(tactic| walk_at "my comp") => `(tactic| k_extra "my z6")
local macro_rules | `(tactic| walk_at "my acomp") => `(tactic| k_extra "my z7")
local macro_rules | `(tactic| walk_at "my elt") => `(tactic| k_extra "my z8")
local macro_rules | `(tactic| walk_at "my sub") => `(tactic| k_extra "my z9")
local macro_rules | `(tactic| walk_at "my look") => `(tactic| k_extra "my z10")
local macro_rules | `(tactic| walk_at "eval Name") => `(tactic| k_extra "my z11")
local macro_rules | `(tactic| walk_at "eval Name") => `(tactic| k_extra "my z12")
local macro_rules | `(tactic| walk_at "exec For") => `(tactic| k_extra "my z13")
local macro_rules | `(tactic| walk_at "call type:enumerate") => `(tactic| (k_extra "my z14"; intro e' s' H'; (try dsimp only)))
local macro_rules | `(tactic| walk_at "call type:zip") => `(tactic| (k_extra "my z15"; intro e' s' H'; (try dsimp only)))
local macro_rules | `(tactic| walk_at "my isl") => `(tactic| k_extra "my z16")
local macro_rules | `(tactic| walk_at "compareOp Eq ref ref") => `(tactic| k_extra "my z17")
local macro_rules | `(tactic| walk_at "compareOp NotEq ref ref") => `(tactic| k_extra "my z18")
local macro_rules | `(tactic| k_ne) => `(tactic| k_extra "my ne")
theorem rstP01 : True ∧ True := by
  w_top off
  first
    | (walk1; done)
    | exact ⟨trivial, trivial⟩
section SP01
section
variable {w : World} {A : Around} {env : Env} {L : Addr} {h₀ : Heap} {m : Str → Option Value} {news : List (Addr × Obj)} {k : Nat} {s : Shared} {Q E : Value → Shared → Prop}

theorem strcoll_spec {x y : Str} {tx ty : Tok} (S : Sit w A env L h₀ s.heap m news (k + 1))
    (h : Ret h₀ L m news s Q (.int (b2i (decide (y.cps.toList < x.cps.toList)) - b2i (decide (x.cps.toList < y.cps.toList))))) :
    wpAny (model PySem.Challenge.pw_tp0016_01 w) A (call (.ref 21) [.str x tx, .str y ty]) Q E s := by
  walk_at "my open"
  walk_at "my enter"
  k_steps
  exact h _ _ _ (by assumption) (by assumption)
theorem lt_spec {x y : Int} {tx ty : Tok} (S : Sit w A env L h₀ s.heap m news (k + 1)) (h : Ret h₀ L m news s Q (fun _ => .bool (decide (x < y)))) :
    wpAny (model PySem.Challenge.pw_tp0016_01 w) A (call (.ref 70) [.int x tx, .int y ty]) Q E s := by
  walk_at "my open"
  walk_at "my enter"
  k_steps
  exact h 0 _ _ (by assumption) (by assumption)
theorem le_spec {x y : Int} {tx ty : Tok} (S : Sit w A env L h₀ s.heap m news (k + 1)) (h : Ret h₀ L m news s Q (fun _ => .bool (decide (x ≤ y)))) :
    wpAny (model PySem.Challenge.pw_tp0016_01 w) A (call (.ref 77) [.int x tx, .int y ty]) Q E s := by
  walk_at "my open"
  walk_at "my enter"
  k_steps
  exact h 0 _ _ (by assumption) (by assumption)
theorem add_spec {x y : Int} {tx ty : Tok} (S : Sit w A env L h₀ s.heap m news (k + 1)) (h : Ret h₀ L m news s Q (.int (x + y))) :
    wpAny (model PySem.Challenge.pw_tp0016_01 w) A (call (.ref 84) [.int x tx, .int y ty]) Q E s := by
  walk_at "my open"
  walk_at "my enter"
  k_steps
  exact h _ _ _ (by assumption) (by assumption)
theorem mul_spec {x y : Int} {tx ty : Tok} (hx : x.natAbs < 2 ^ 60) (hy : y.natAbs < 2 ^ 60) (S : Sit w A env L h₀ s.heap m news (k + 1)) (h : Ret h₀ L m news s Q (.int (x * y))) :
    wpAny (model PySem.Challenge.pw_tp0016_01 w) A (call (.ref 91) [.int x tx, .int y ty]) Q E s := by
  walk_at "my open"
  walk_at "my enter"
  k_steps
  exact h _ _ _ (by assumption) (by assumption)
theorem sub_spec {x y : Int} {tx ty : Tok} (S : Sit w A env L h₀ s.heap m news (k + 1)) (h : Ret h₀ L m news s Q (.int (x - y))) :
    wpAny (model PySem.Challenge.pw_tp0016_01 w) A (call (.ref 98) [.int x tx, .int y ty]) Q E s := by
  walk_at "my open"
  walk_at "my enter"
  k_steps
  exact h _ _ _ (by assumption) (by assumption)
end

end SP01
theorem rstP02 : True ∧ True := by
  w_top off
  first
    | (walk1; done)
    | exact ⟨trivial, trivial⟩
section SP02
section
variable {w : World} {A : Around} {env : Env} {L : Addr} {h₀ : Heap} {m : Str → Option Value} {news : List (Addr × Obj)} {k : Nat} {s : Shared} {Q E : Value → Shared → Prop}
def opsS : List String := ["(", ")", "[", "]", ":", ",", ";", "+", "-", "*", "/", "|", "&", "<", ">", "=", ".", "%", "{", "}", "==", "!=", "<=", ">=", "~", "^", "<<", ">>", "**", "+=", "-=", "*=", "/=", "%=", "&=", "|=", "^=", "<<=", ">>=", "**=", "//", "//=", "@", "@=", "->", "...", ":=", "!"]
def ops : List Str := opsS.map Str.ofString
theorem ops_words : Txt.words (Str.ofString "( ) [ ] : , ; + - * / | & < > = . % { } == != <= >= ~ ^ << >> ** += -= *= /= %= &= |= ^=" ++ Str.ofString " <<= >>= **= // //= @ @= -> ... := !") = ops := by
  decide +kernel
theorem operators_spec (S : Sit w A env L h₀ s.heap m news (k + 1))
    (h : ∀ l : List (Str × Tok), l.map (·.1) = ops → RetNew h₀ L m news s Q (W.listOf (strValues l).toArray 0)) :
    wpAny (model PySem.Challenge.pw_tp0016_01 w) A (call (.ref 115) []) Q E s := by
  walk_at "my open"
  walk_at "my enter"
  k_steps
  exact h _ ((by assumption : List.map _ _ = Txt.words _).trans ops_words) _ _ _ (by assumption) (by assumption) (by assumption)
end

end SP02
theorem rstP03 : True ∧ True := by
  w_top off
  first
    | (walk1; done)
    | exact ⟨trivial, trivial⟩
section SP03
section
variable {w : World} {A : Around} {env : Env} {L : Addr} {h₀ : Heap} {m : Str → Option Value} {news : List (Addr × Obj)} {k : Nat} {s : Shared} {Q E : Value → Shared → Prop}
local macro_rules | `(tactic| walk_at "call ref") => `(tactic| (k_extra "my z37"; intro t' h' tk' F' N'; (try dsimp only); (try k_sweep)))
local macro_rules | `(tactic| walk_at "call ref") => `(tactic| (k_extra "my z38"; intro t' h' tk' F' N'; (try dsimp only); (try k_sweep)))
local macro_rules | `(tactic| walk_at "call ref") => `(tactic| (k_extra "my z39"; intro t' h' tk' F' N'; (try dsimp only); (try k_sweep)))
/-- an operator's number -/
def opNo (x : Str) : Int := 7 + (ops.idxOf x : Nat)
theorem tok_table (P : Params) : (ops.all fun x => match nsIn (hd.heap_1_41 P) 99 x with | some (some (.int i _)) => i == opNo x | _ => false) = true := by
  kernel_rfl
theorem tok_at {P : Params} {x : Str} (hx : x ∈ ops) : ∃ t, nsIn (hd.heap_1_41 P) 99 x = some (some (.int (opNo x) t)) := by
  have h := List.all_eq_true.mp (tok_table P) x hx
  split at h
  · rename_i i t e
    exact ⟨t, by rw [e, eq_of_beq h]⟩
  · cases h
theorem tok_item {value slice : PySem.Expr} {x : Str} {t : Tok} {g : Heap} (hx : x ∈ ops) (F : Fr g L s.heap m) (X : (hd.heap_1_41 w.params).In g) (h : ∀ t' tk', Q (.int (opNo x) t') { s with toks := tk' })
    (hs : subscripted slice false (.ref 99) (.str x t) = operate [.ref 99, .str x t] (getItem (.ref 99) (.str x t)) := by with_unfolding_all rfl) :
    wpAny (model PySem.Challenge.pw_tp0016_01 w) A (subscriptTail value slice (.ref 99) (.str x t)) Q E s := by
  obtain ⟨t', e⟩ := tok_at (P := w.params) hx
  refine' topItem_K F X ?l ?k e (h t' _) hs
  case l => k_is
  case k => k_keys
local macro_rules | `(tactic| walk_at "subscriptTail") => `(tactic| (k_extra "my z40"; intro t' tk'; (try dsimp only)))
theorem not_above1_spec {x y : Str} {tj tx ty : Tok} (S : Sit w A env L h₀ s.heap m news (k + 2))
    (h : Ret h₀ L m news s Q (fun _ => .bool (decide (b2i (decide (y.cps.toList < x.cps.toList)) - b2i (decide (x.cps.toList < y.cps.toList)) < 1)))) :
    wpAny (model PySem.Challenge.pw_tp0016_01 w) A (call (.ref 127) [.int 1 tj, .str x tx, .str y ty]) Q E s := by
  walk_at "my open"
  walk_at "my enter"
  k_steps
  exact h 0 _ _ (by assumption) (by assumption)
theorem not_above0_spec {x y : Str} {tj tx ty : Tok} (hx : x ∈ ops) (hy : y ∈ ops) (S : Sit w A env L h₀ s.heap m news (k + 2))
    (h : Ret h₀ L m news s Q (fun _ => .bool (decide (opNo x ≤ opNo y)))) :
    wpAny (model PySem.Challenge.pw_tp0016_01 w) A (call (.ref 127) [.int 0 tj, .str x tx, .str y ty]) Q E s := by
  walk_at "my open"
  walk_at "my enter"
  k_steps
  exact h 0 _ _ (by assumption) (by assumption)
/-- the judges -/
def notAbove (j : Int) (x y : Str) : Bool := if j = 0 then decide (opNo x ≤ opNo y) else decide (b2i (decide (y.cps.toList < x.cps.toList)) - b2i (decide (x.cps.toList < y.cps.toList)) < 1)
theorem not_above_spec {x y : Str} {j : Int} {tj tx ty : Tok} (hj : j = 0 ∨ j = 1) (hx : x ∈ ops) (hy : y ∈ ops) (S : Sit w A env L h₀ s.heap m news (k + 2))
    (h : Ret h₀ L m news s Q (fun _ => .bool (notAbove j x y))) :
    wpAny (model PySem.Challenge.pw_tp0016_01 w) A (call (.ref 127) [.int j tj, .str x tx, .str y ty]) Q E s := by
  rcases hj with rfl | rfl
  · exact not_above0_spec hx hy S h
  · exact not_above1_spec S h
end

end SP03
section SP04
section pulls
abbrev MM (w : World) : Model := model PySem.Challenge.pw_tp0016_01 w
variable {w : World} {A : Around}
/-- the next item, bound to the target (true), or the end (false) -/
def pull (w : World) (A : Around) (target : PySem.Expr) (it : Value) (env : Env) (Q : Bool → Shared → Prop) (E : Value → Shared → Prop) (s : Shared) : Prop :=
  wpAny (MM w) A (pyNext it) (fun r s₁ => match r with
    | none => Q false s₁
    | some v => wpAny (MM w) A (letOwnedTupleGo target it v) (fun _ s₂ => wpAny (MM w) A (assign target env v) (fun _ s₃ => Q true s₃) E s₂) E s₁) E s

theorem for_turn {R : Result → Shared → Prop} {target : PySem.Expr} {it : Value} {body : List Stmt} {env : Env} (I : Nat → Shared → Prop)
    (turn : ∀ n s, I n s → ∀ E, pull w A target it env (fun b s₁ => if b = true then wpAny (MM w) A (execs body env) (fun f s₃ => match f with
            | .next | .cont => ∃ m, m < n ∧ I m s₃
            | .brk => R (.ok .next) s₃
            | .ret v => R (.ok (.ret v)) s₃) E s₁ else R (.ok .next) s₁) E s)
    (n : Nat) {s : Shared} (h : I n s) : codeAny (MM w) A (.forLoop target it body [] env) R s := by
  refine codeAny_forLoop_any I (fun n s hI => ?_) n h
  refine wpAny_mono (turn n s hI _) (fun r s₁ h₁ => ?_) (fun _ _ x => x)
  cases r with
  | none => exact wpAny_execs_nil (by simpa using h₁)
  | some v =>
    have h₂ := h₁
    simp only [if_true] at h₂
    exact h₂

theorem comp_turn {R : Result → Shared → Prop} {elt target iter : PySem.Expr} {ifs : List PySem.Expr} {scope : Scope} {pos : Pos} {it acc : Value} {env : Env} (I : Nat → Shared → Prop)
    (turn : ∀ n s, I n s → ∀ E, pull w A target it env (fun b s₁ => if b = true then
          wpAny (MM w) A (forIn ifs true fun c r => if r = true then do let ok ← isTrue c env (eval c env); pure (ForInStep.yield ok) else pure (ForInStep.yield r)) (fun ok s₃ =>
            if ok = true then wpAny (MM w) A (eval elt env) (fun x s₄ => wpAny (MM w) A (call (.builtin "list.append") [acc, x]) (fun _ s₅ => ∃ m, m < n ∧ I m s₅) E s₄) E s₃
            else ∃ m, m < n ∧ I m s₃) E s₁ else R (.ok .next) s₁) E s)
    (n : Nat) {s : Shared} (h : I n s) :
    codeAny (MM w) A (.compLoop (.ListComp elt [⟨target, iter, ifs, 0⟩] scope pos) 0 it acc env) R s := by
  refine codeAny_loop rfl I (fun n s hI => ?_) n h
  show wpAny _ A ((compTurn (.ListComp elt [⟨target, iter, ifs, 0⟩] scope pos) 0 it acc env).onRaise (fun x => do noteFrame x env; theTreesLotGoes x)) _ _ s
  refine wpAny_noted ?_
  rw [compTurn_list]
  refine wpAny_bind (wpAny_standAt (wpAny_bind (wpAny_mono (turn n s hI _) (fun r s₁ h₁ => ?_) fun _ _ h' => h')))
  cases r with
  | none => exact wpAny_pure (by simpa using h₁)
  | some v =>
    refine wpAny_bind (wpAny_mono h₁ (fun _ s₁' h₁' => ?_) fun _ _ h' => h')
    refine wpAny_bind (wpAny_mono h₁' (fun _ s₂ h₂ => ?_) fun _ _ h' => h')
    simp only [if_true] at h₂
    refine wpAny_bind (wpAny_mono h₂ (fun ok s₃ h₃ => ?_) fun _ _ h' => h')
    cases ok with
    | false => exact wpAny_pure ⟨rfl, h₃⟩
    | true =>
      exact wpAny_bind (wpAny_bind (wpAny_mono h₃ (fun x s₄ h₄ => wpAny_bind (wpAny_mono h₄ (fun _ s₅ h₅ => wpAny_pure (wpAny_pure ⟨rfl, h₅⟩)) fun _ _ h' => h')) fun _ _ h' => h'))

/-- an iterator with its targets: wr its own objects, src what it reads -/
structure Pulls (w : World) (A : Around) (target : PySem.Expr) (it : Value) (env : Env) (wr : List Addr) (src : List (Addr × Obj)) (n : Nat)
    (Bd : Nat → (Str → Option Value) → (Str → Option Value) → Prop) (St : Nat → Heap → Prop) : Prop where
  item : ∀ i (s : Shared) m (Q : Bool → Shared → Prop) (E : Value → Shared → Prop), i < n → St i s.heap → s.heap.Ns env.locals m →
    (∀ h' tk m', Bd i m m' → h'.Ns env.locals m' → St (i + 1) h' → (∀ b o, b ∉ wr → b ≠ env.locals → s.heap.get? b = some o → h'.get? b = some o) → Q true { s with heap := h', toks := tk }) →
    pull w A target it env Q E s
  done : ∀ (s : Shared) (Q : Bool → Shared → Prop) (E : Value → Shared → Prop), St n s.heap →
    (∀ h' tk, (∀ b o, b ∉ wr → s.heap.get? b = some o → h'.get? b = some o) → Q false { s with heap := h', toks := tk }) → pull w A target it env Q E s
  self : ∀ i (s : Shared) (Q : Value → Shared → Prop) (E : Value → Shared → Prop), St i s.heap → Q it s → wpAny (MM w) A (pyIter it) Q E s
  keep : ∀ i h h', St i h → (∀ b ∈ wr, ∀ o, h.get? b = some o → h'.get? b = some o) → (∀ p ∈ src, h'.get? p.1 = some p.2) → St i h'
  occ : ∀ i h, St i h → ∀ b ∈ wr, ∃ o, h.get? b = some o

abbrev plain (env : Env) : Prop := (env.scope.kind == .class || (env.scope.kind == .module && env.locals != env.globals)) = false

theorem Pulls.one {env : Env} {I : Addr} {fp wr : List Addr} {src : List (Addr × Obj)} {n : Nat} {P : Nat → Value → Prop} {St : Nat → Heap → Prop} {x : Str} {px : Pos}
    (W : Walks PySem.Challenge.pw_tp0016_01 w A I fp wr n P St) (hx : env.kindOf x = some .local) (hp : plain env) (hC : env.locals ∉ fp)
    (keep : ∀ i h h', St i h → (∀ b ∈ wr, ∀ o, h.get? b = some o → h'.get? b = some o) → (∀ p ∈ src, h'.get? p.1 = some p.2) → St i h')
    (occ : ∀ i h, St i h → ∀ b ∈ wr, ∃ o, h.get? b = some o) :
    Pulls w A (.Name x px) (.ref I) env wr src n (fun i m m' => ∃ v, P i v ∧ m' = fun y => if y = x then some v else m y) St where
  item := fun i s m Q E hi st hn hQ => by
    refine W.item i s _ _ hi st fun v h₁ tk₁ hP st₁ hk₁ => ?_
    dsimp only
    show wpAny _ _ (pure ()) _ _ _
    refine wpAny_pure (wpAny_assign_Name (wpAny_storeName_local hx (hn.at' fun o e => hk₁ _ o (fun hm => hC (W.sub _ hm)) e) (fun h₂ hn₂ hs₂ => ?_) hp))
    exact hQ h₂ (tk₁ + 1) _ ⟨v, hP, rfl⟩ hn₂ (W.frame _ _ _ st₁ fun b hb o e => hs₂.extBut b o (fun q => hC (q ▸ hb)) e) fun b o hb hbC e => hs₂.extBut b o hbC (hk₁ b o hb e)
  done := fun s Q E st hQ => W.done s _ _ st fun h' tk hk => hQ h' tk hk
  self := fun i s Q E st hQ => W.self i s Q E st hQ
  keep := keep
  occ := occ

theorem Pulls.list {env : Env} {I l : Addr} {lo : Obj} {items : Array Value} {x : Str} {px : Pos} (hh : A.handled = none) (hne : l ≠ I) (hc : lo.cls = .type "list") (hd : ∃ n, lo.data = .seq items n)
    (hx : env.kindOf x = some .local) (hp : plain env) (hCI : env.locals ≠ I) (hCl : env.locals ≠ l) :
    Pulls w A (.Name x px) (.ref I) env [I] [(l, lo)] items.size (fun i m m' => ∃ v, items[i]? = some v ∧ m' = fun y => if y = x then some v else m y) (fun i h => h.IsListIter I l i ∧ h.IsList l items) :=
  Pulls.one (Walks.list hh I l hne items) hx hp (by simp [hCI, hCl])
    (fun i h h' st hw hs => ⟨st.1.at fun o e => hw I (by simp) o e, ⟨lo, hs (l, lo) (by simp), hc, hd⟩⟩)
    (fun i h st b hb => by rw [List.mem_singleton.mp hb]; obtain ⟨o, e, _⟩ := st.1; exact ⟨o, e⟩)

theorem Pulls.range {env : Env} {I : Addr} {a : Int} {n : Nat} {x : Str} {px : Pos} (hh : A.handled = none) (hx : env.kindOf x = some .local) (hp : plain env) (hCI : env.locals ≠ I) :
    Pulls w A (.Name x px) (.ref I) env [I] [] n (fun i m m' => ∃ v, (∃ t, v = .int (a + (i : Int)) t) ∧ m' = fun y => if y = x then some v else m y) (fun i h => IsRangeIter h I (a + (i : Nat) * 1) ((n : Int) - (i : Nat)) 1) :=
  Pulls.one (LCg.range_walks hh a n) hx hp (by simp [hCI])
    (fun i h h' st hw hs => hw I (by simp) _ st) (fun i h st b hb => by rw [List.mem_singleton.mp hb]; exact ⟨_, st⟩)

theorem Pulls.ascii {env : Env} {I : Addr} {tx : Str} {t : Tok} {x : Str} {px : Pos} (hh : A.handled = none) (hx : env.kindOf x = some .local) (hp : plain env) (hCI : env.locals ≠ I) :
    Pulls w A (.Name x px) (.ref I) env [I] [] tx.cps.size (fun i m m' => ∃ v, SignAt tx i v ∧ m' = fun y => if y = x then some v else m y) (fun i h => h.IsStrIter I "str_ascii_iterator" tx t i) :=
  Pulls.one (Walks.strAscii hh I tx t) hx hp (by simp [hCI])
    (fun i h h' st hw hs => by obtain ⟨o, e, r⟩ := st; exact ⟨o, hw I (by simp) o e, r⟩) (fun i h st b hb => by rw [List.mem_singleton.mp hb]; obtain ⟨o, e, _⟩ := st; exact ⟨o, e⟩)

theorem Pulls.two {env : Env} {I : Addr} {fp wr wr' : List Addr} {src : List (Addr × Obj)} {n : Nat} {Pt : Nat → Array Value → Prop} {St : Nat → Heap → Prop} {Mid : Nat → Addr → Heap → Prop} {x y : Str} {px py : Pos} {k : Nat} {pos : Pos}
    (hh : A.handled = none) (W : WalksT PySem.Challenge.pw_tp0016_01 w A I fp wr n Pt St Mid) (hP2 : ∀ i vals, Pt i vals → ∃ a b, vals = #[a, b]) (hx : env.kindOf x = some .local) (hy : env.kindOf y = some .local) (hp : plain env) (hC : env.locals ∉ fp)
    (hlt : ∀ i h, St i h → ∀ b ∈ fp, b < h.objs.size) (hw : ∀ b ∈ wr, b ∈ wr')
    (keep : ∀ i h h', St i h → (∀ b ∈ wr', ∀ o, h.get? b = some o → h'.get? b = some o) → (∀ p ∈ src, h'.get? p.1 = some p.2) → St i h')
    (occ : ∀ i h, St i h → ∀ b ∈ wr', ∃ o, h.get? b = some o) :
    Pulls w A (.Tuple [.Name x px, .Name y py] k pos) (.ref I) env wr' src n (fun i m m' => ∃ a b, Pt i #[a, b] ∧ m' = fun z => if z = y then some b else if z = x then some a else m z) St where
  item := fun i s m Q E hi st hn hQ => by
    refine W.item i s _ _ hi st fun T vals h₁ tk₁ hP hT₀ hT mid hk₁ => ?_
    dsimp only
    obtain ⟨a, b, rfl⟩ := hP2 _ _ hP
    refine W.go _ _ _ _ _ _ _ _ mid fun h₂ st₂ hk₂ => ?_
    have hT₂ : h₂.IsTuple T #[a, b] := by
      obtain ⟨o, e, r⟩ := hT
      exact ⟨o, hk₂ T o (W.apart _ _ _ mid) e, r⟩
    have hCw : env.locals ∉ wr := fun hm => hC (W.sub _ hm)
    have hn₂ : h₂.Ns env.locals m := (hn.at' fun o e => hk₁ _ o hCw e).at' fun o e => hk₂ _ o hCw e
    refine wpAny_assign_Tuple hh hT₂ rfl rfl fun h₃ hk₃ => ?_
    have hn₃ : h₃.Ns env.locals m := hn₂.at' fun o e => hk₃ _ o (Nat.ne_of_lt hn₂.lt) e
    have st₃ : St (i + 1) h₃ := W.frame _ _ _ st₂ fun b hb o e => hk₃ b o (Nat.ne_of_lt (hlt _ _ st₂ b hb)) e
    show wpAny _ _ (holding [b] (assign (.Name x px) env a) >>= fun _ => (holding [] (assign (.Name y py) env b) >>= fun _ => pure ())) _ _ _
    refine wpAny_bind (wpAny_holding (wpAny_assign_Name (wpAny_storeName_local hx hn₃ (fun h₄ hn₄ hs₄ => ?_) hp)))
    refine wpAny_bind (wpAny_holding (wpAny_assign_Name (wpAny_storeName_local hy hn₄ (fun h₅ hn₅ hs₅ => wpAny_pure ?_) hp)))
    have st₅ : St (i + 1) h₅ := W.frame _ _ _ (W.frame _ _ _ st₃ fun b hb o e => hs₄.extBut b o (fun q => hC (q ▸ hb)) e) fun b hb o e => hs₅.extBut b o (fun q => hC (q ▸ hb)) e
    refine hQ h₅ (tk₁ + 1 + 1) _ ⟨a, b, hP, rfl⟩ hn₅ st₅ fun c o hc hcC e => ?_
    replace hc : c ∉ wr := fun q => hc (hw _ q)
    have e₂ := hk₂ c o hc (hk₁ c o hc e)
    exact hs₅.extBut c o hcC (hs₄.extBut c o hcC (hk₃ c o (Nat.ne_of_lt (Heap.lt_size e₂)) e₂))
  done := fun s Q E st hQ => W.done s _ _ st fun h' tk hk => hQ h' tk fun b o hb => hk b o fun q => hb (hw _ q)
  self := fun i s Q E st hQ => W.self i s Q E st hQ
  keep := keep
  occ := occ
end pulls

end SP04
section SP05
section loops
variable {w : World} {A : Around} {env : Env} {L : Addr} {h₀ : Heap} {m : Str → Option Value} {news : List (Addr × Obj)} {s : Shared}
theorem isl {h : Heap} {l : Addr} {lo : Obj} {items : Array Value} (N : News h₀ L h news) (hm : (l, lo) ∈ news) (hc : lo.cls = .type "list") (hd : ∃ k, lo.data = .seq items k) : h.IsList l items := ⟨lo, (N _ hm).1, hc, hd⟩
theorem its_of {h : Heap} : ∀ {wr : List Addr}, (∀ b ∈ wr, ∃ o, h.get? b = some o) → ∃ its : List (Addr × Obj), its.map (·.1) = wr ∧ ∀ p ∈ its, h.get? p.1 = some p.2
  | [], _ => ⟨[], rfl, fun _ hp => nomatch hp⟩
  | b :: r, hb => by
    obtain ⟨o, e⟩ := hb b (.head _)
    obtain ⟨its, e1, e2⟩ := its_of (wr := r) fun c hc => hb c (.tail _ hc)
    refine ⟨(b, o) :: its, by simp [e1], fun p hp => ?_⟩
    rcases List.mem_cons.mp hp with rfl | hp
    · exact e
    · exact e2 p hp
theorem its_one {its : List (Addr × Obj)} {I : Addr} (h : its.map (·.1) = [I]) : ∃ o, its = [(I, o)] := by
  cases its with
  | nil => cases h
  | cons p r =>
    obtain ⟨a, o⟩ := p
    cases r with
    | nil =>
      injection h with h1 h2
      exact ⟨o, by rw [show a = I from h1]⟩
    | cons q r => injection h with h1 h2; cases h2
theorem its_keep {its : List (Addr × Obj)} {wr : List Addr} {h h' : Heap} (e : its.map (·.1) = wr) (h1 : ∀ p ∈ its, h.get? p.1 = some p.2) (h2 : ∀ p ∈ its, h'.get? p.1 = some p.2) :
    ∀ b ∈ wr, ∀ o, h.get? b = some o → h'.get? b = some o := fun b hb o eo => by
  rw [← e] at hb
  obtain ⟨p, hp, rfl⟩ := List.mem_map.mp hb
  rw [h1 p hp] at eo
  exact (h2 p hp).trans eo

/-- the end of a loop's turn -/
def LoopEnd (h₀ : Heap) (L : Addr) (its : List (Addr × Obj)) (wr : List Addr) (J' : (Str → Option Value) → List (Addr × Obj) → Prop) (s₁ : Shared) (Q : Flow → Shared → Prop) (f : Flow) (s₂ : Shared) : Prop :=
  match f with
  | .ret v => Q (.ret v) s₂
  | .brk => Q .next s₂
  | _ => ∃ h' tk m' news', s₂ = { s₁ with heap := h', toks := tk } ∧ Fr h₀ L h' m' ∧ News h₀ L h' (its ++ news') ∧ (∀ p ∈ news', ∀ b ∈ wr, p.1 ≠ b) ∧ J' m' news'

theorem for_all {target : PySem.Expr} {it : Value} {body : List Stmt} {wr : List Addr} {src : List (Addr × Obj)} {n : Nat} {Bd : Nat → (Str → Option Value) → (Str → Option Value) → Prop} {St : Nat → Heap → Prop}
    {R : Result → Shared → Prop} {Q : Flow → Shared → Prop}
    (P : Pulls w A target it env wr src n Bd St) (hL : env.locals = L) (J : Nat → (Str → Option Value) → List (Addr × Obj) → Prop)
    (F : Fr h₀ L s.heap m) (N : News h₀ L s.heap news) (hst : St 0 s.heap) (hj : J 0 m news)
    (hwr : ∀ b ∈ wr, b ≠ L ∧ h₀.get? b = none ∧ ∀ p ∈ news, p.1 ≠ b)
    (hsrc : ∀ p ∈ src, h₀.get? p.1 = some p.2 ∨ ∀ i m' news', J i m' news' → p ∈ news')
    (turn : ∀ i m₁ m₂ news₁ its h tk E', i < n → J i m₁ news₁ → Bd i m₁ m₂ → its.map (·.1) = wr → (∀ p ∈ news₁, ∀ b ∈ wr, p.1 ≠ b) → Fr h₀ L h m₂ → News h₀ L h (its ++ news₁) →
      wpAny (MM w) A (execs body env) (LoopEnd h₀ L its wr (J (i + 1)) { s with heap := h, toks := tk } Q) E' { s with heap := h, toks := tk })
    (done : ∀ m₁ news₁ h tk, J n m₁ news₁ → Fr h₀ L h m₁ → News h₀ L h news₁ → Q .next { s with heap := h, toks := tk })
    (hR : ∀ f s', Q f s' → R (.ok f) s') :
    codeAny (MM w) A (.forLoop target it body [] env) R s := by
  subst hL
  refine for_turn (fun k s' => ∃ h' tk i m' news', s' = { s with heap := h', toks := tk } ∧ i ≤ n ∧ k = n + 1 - i ∧ St i h' ∧ Fr h₀ env.locals h' m' ∧ News h₀ env.locals h' news' ∧ (∀ p ∈ news', ∀ b ∈ wr, p.1 ≠ b) ∧ J i m' news')
    ?_ (n + 1) ⟨s.heap, s.toks, 0, m, news, rfl, Nat.zero_le _, rfl, hst, F, N, fun p hp b hb => (hwr b hb).2.2 p hp, hj⟩
  rintro k s' ⟨h', tk, i, m', news', rfl, hi, rfl, st, F', N', off, hJ⟩ E
  by_cases hlt : i < n
  · refine P.item i _ m' _ _ hlt st F'.ns fun h₂ tk₂ m₂ hB hn₂ st₂ hk₂ => ?_
    rw [if_pos rfl]
    obtain ⟨its, e1, e2⟩ := its_of (P.occ _ _ st₂)
    have F₂ : Fr h₀ env.locals h₂ m₂ := ⟨hn₂, fun b o e => hk₂ b o (fun hb => by rw [(hwr b hb).2.1] at e; cases e) (Nat.ne_of_lt (Nat.lt_of_lt_of_le (Heap.lt_size e) F.above)) (F'.keep b o e), F.above⟩
    have N₂ : News h₀ env.locals h₂ (its ++ news') := fun p hp => by
      rcases List.mem_append.mp hp with hp | hp
      · have hb : p.1 ∈ wr := e1 ▸ List.mem_map_of_mem hp
        exact ⟨e2 p hp, (hwr _ hb).1, (hwr _ hb).2.1⟩
      · exact ⟨hk₂ _ _ (fun hb => off p hp _ hb rfl) (N' p hp).2.1 (N' p hp).1, (N' p hp).2⟩
    refine wpAny_mono (turn i m' m₂ news' its h₂ tk₂ E hlt hJ hB e1 off F₂ N₂) (fun f s₂ p => ?_) fun _ _ x => x
    have fin : LoopEnd h₀ env.locals its wr (J (i + 1)) { s with heap := h₂, toks := tk₂ } Q .next s₂ → ∃ m, m < n + 1 - i ∧ ∃ h' tk i m' news', s₂ = { s with heap := h', toks := tk } ∧ i ≤ n ∧ m = n + 1 - i ∧ St i h' ∧ Fr h₀ env.locals h' m' ∧ News h₀ env.locals h' news' ∧ (∀ p ∈ news', ∀ b ∈ wr, p.1 ≠ b) ∧ J i m' news' := by
      rintro ⟨h₃, tk₃, m₃, news₃, rfl, F₃, N₃, off₃, hJ₃⟩
      refine ⟨n + 1 - (i + 1), by omega, h₃, tk₃, i + 1, m₃, news₃, rfl, hlt, rfl, ?_, F₃, fun p hp => N₃ p (List.mem_append_right _ hp), off₃, hJ₃⟩
      refine P.keep _ _ _ st₂ (its_keep e1 e2 fun p hp => (N₃ p (List.mem_append_left _ hp)).1) fun p hp => ?_
      rcases hsrc p hp with h1 | h1
      · exact F₃.keep _ _ h1
      · exact (N₃ p (List.mem_append_right _ (h1 _ _ _ hJ₃))).1
    cases f with
    | next => exact fin p
    | cont => exact fin p
    | brk => exact hR _ _ p
    | ret v => exact hR _ _ p
  · obtain rfl : i = n := Nat.le_antisymm hi (Nat.not_lt.mp hlt)
    refine P.done _ _ _ st fun h₂ tk₂ hk₂ => ?_
    rw [if_neg (by decide)]
    refine hR _ _ (done m' news' h₂ tk₂ hJ ⟨F'.ns.at' fun o e => hk₂ _ o (fun hb => (hwr _ hb).1 rfl) e, fun b o e => hk₂ b o (fun hb => by rw [(hwr b hb).2.1] at e; cases e) (F'.keep b o e), F.above⟩ fun p hp => ⟨hk₂ _ _ (fun hb => off p hp _ hb rfl) (N' p hp).1, (N' p hp).2⟩)

/-- the end of a comprehension's turn -/
def CompEndU (h₀ : Heap) (L : Addr) (m : Str → Option Value) (its : List (Addr × Obj)) (wr : List Addr) (C D : Addr) (J' : (Str → Option Value) → List Value → List (Addr × Obj) → Prop) (s₁ s₂ : Shared) : Prop :=
  ∃ h' tk oC' mC' ys' news', s₂ = { s₁ with heap := h', toks := tk } ∧ LCg.NsObj oC' mC' ∧ Fr h₀ L h' m ∧ News h₀ L h' (its ++ (C, oC') :: (D, LCg.lst ys') :: news') ∧ (∀ p ∈ news', p.1 ≠ C ∧ p.1 ≠ D ∧ ∀ b ∈ wr, p.1 ≠ b) ∧ J' mC' ys' news'

/-- a comprehension's loop, whatever its turn runs -/
theorem comp_core {target : PySem.Expr} {it : Value} {cenv : Env} {code : Code} {wr : List Addr} {src : List (Addr × Obj)} {n : Nat} {Bd : Nat → (Str → Option Value) → (Str → Option Value) → Prop} {St : Nat → Heap → Prop}
    {R : Result → Shared → Prop} {Body : (Shared → Prop) → (Value → Shared → Prop) → Shared → Prop} {C D : Addr} {mC : Str → Option Value} {ys : List Value}
    (mono : ∀ {K K' : Shared → Prop} {E s}, Body K E s → (∀ s, K s → K' s) → Body K' E s)
    (rule : ∀ (I : Nat → Shared → Prop), (∀ n s, I n s → ∀ E, pull w A target it cenv (fun b s₁ => if b = true then Body (fun s₅ => ∃ m, m < n ∧ I m s₅) E s₁ else R (.ok .next) s₁) E s) → ∀ n s, I n s → codeAny (MM w) A code R s)
    (P : Pulls w A target it cenv wr src n Bd St) (hC : cenv.locals = C) (J : Nat → (Str → Option Value) → List Value → List (Addr × Obj) → Prop)
    (F : Fr h₀ L s.heap m) (hns : s.heap.Ns C mC) (N : News h₀ L s.heap ((D, LCg.lst ys) :: news)) (hst : St 0 s.heap) (hj : J 0 mC ys news)
    (hwr : ∀ b ∈ wr, b ≠ L ∧ b ≠ C ∧ b ≠ D ∧ h₀.get? b = none ∧ ∀ p ∈ news, p.1 ≠ b) (hCL : C ≠ L) (hCD : C ≠ D) (hC₀ : h₀.get? C = none) (offC : ∀ p ∈ news, p.1 ≠ C ∧ p.1 ≠ D)
    (hsrc : ∀ p ∈ src, h₀.get? p.1 = some p.2 ∨ ∀ i m' ys' news', J i m' ys' news' → p ∈ news')
    (turn : ∀ i mC₁ mC₂ oC ys₁ news₁ its h tk E', i < n → J i mC₁ ys₁ news₁ → Bd i mC₁ mC₂ → LCg.NsObj oC mC₂ → its.map (·.1) = wr → (∀ p ∈ news₁, p.1 ≠ C ∧ p.1 ≠ D ∧ ∀ b ∈ wr, p.1 ≠ b) → Fr h₀ L h m →
      News h₀ L h (its ++ (C, oC) :: (D, LCg.lst ys₁) :: news₁) →
      Body (CompEndU h₀ L m its wr C D (J (i + 1)) { s with heap := h, toks := tk }) E' { s with heap := h, toks := tk })
    (done : ∀ mC₁ ys₁ news₁ h tk, J n mC₁ ys₁ news₁ → Fr h₀ L h m → h.Ns C mC₁ → News h₀ L h ((D, LCg.lst ys₁) :: news₁) → (∀ p ∈ news₁, p.1 ≠ C ∧ p.1 ≠ D) → R (.ok .next) { s with heap := h, toks := tk }) :
    codeAny (MM w) A code R s := by
  subst hC
  refine rule (fun k s' => ∃ h' tk i mC' ys' news', s' = { s with heap := h', toks := tk } ∧ i ≤ n ∧ k = n + 1 - i ∧ St i h' ∧ Fr h₀ L h' m ∧ h'.Ns cenv.locals mC' ∧ News h₀ L h' ((D, LCg.lst ys') :: news') ∧
      (∀ p ∈ news', p.1 ≠ cenv.locals ∧ p.1 ≠ D ∧ ∀ b ∈ wr, p.1 ≠ b) ∧ J i mC' ys' news') ?_ (n + 1) _
    ⟨s.heap, s.toks, 0, mC, ys, news, rfl, Nat.zero_le _, rfl, hst, F, hns, N, fun p hp => ⟨(offC p hp).1, (offC p hp).2, fun b hb => (hwr b hb).2.2.2.2 p hp⟩, hj⟩
  rintro k s' ⟨h', tk, i, mC', ys', news', rfl, hi, rfl, st, F', hn', N', off, hJ⟩ E
  by_cases hlt : i < n
  · refine P.item i _ mC' _ _ hlt st hn' fun h₂ tk₂ m₂ hB hn₂ st₂ hk₂ => ?_
    rw [if_pos rfl]
    obtain ⟨its, e1, e2⟩ := its_of (P.occ _ _ st₂)
    obtain ⟨oC, heC, hoC⟩ := LCg.ns_obj hn₂
    have F₂ : Fr h₀ L h₂ m := ⟨F'.ns.at' fun o e => hk₂ _ o (fun hb => (hwr _ hb).1 rfl) (Ne.symm hCL) e, fun b o e => hk₂ b o (fun hb => by rw [(hwr b hb).2.2.2.1] at e; cases e) (fun q => by rw [q, hC₀] at e; cases e) (F'.keep b o e), F.above⟩
    have N₂ : News h₀ L h₂ (its ++ (cenv.locals, oC) :: (D, LCg.lst ys') :: news') := fun p hp => by
      rcases List.mem_append.mp hp with hp | hp
      · have hb : p.1 ∈ wr := e1 ▸ List.mem_map_of_mem hp
        exact ⟨e2 p hp, (hwr _ hb).1, (hwr _ hb).2.2.2.1⟩
      · rcases List.mem_cons.mp hp with rfl | hp
        · exact ⟨heC, hCL, hC₀⟩
        · refine ⟨hk₂ _ _ (fun hb => ?_) ?_ (N' p hp).1, (N' p hp).2⟩
          · rcases List.mem_cons.mp hp with rfl | hp'
            · exact (hwr _ hb).2.2.1 rfl
            · exact (off p hp').2.2 _ hb rfl
          · rcases List.mem_cons.mp hp with rfl | hp'
            · exact Ne.symm hCD
            · exact (off p hp').1
    refine mono (turn i mC' m₂ oC ys' news' its h₂ tk₂ E hlt hJ hB hoC e1 off F₂ N₂) fun s₂ p => ?_
    obtain ⟨h₃, tk₃, oC₃, m₃, ys₃, news₃, rfl, hoC₃, F₃, N₃, off₃, hJ₃⟩ := p
    have N₃' : News h₀ L h₃ ((D, LCg.lst ys₃) :: news₃) := fun p hp => N₃ p (List.mem_append_right _ (.tail _ hp))
    refine ⟨n + 1 - (i + 1), by omega, h₃, tk₃, i + 1, m₃, ys₃, news₃, rfl, hlt, rfl, ?_, F₃, hoC₃.ns (N₃ _ (List.mem_append_right _ (.head _))).1, N₃', off₃, hJ₃⟩
    refine P.keep _ _ _ st₂ (its_keep e1 e2 fun p hp => (N₃ p (List.mem_append_left _ hp)).1) fun p hp => ?_
    rcases hsrc p hp with h1 | h1
    · exact F₃.keep _ _ h1
    · exact (N₃' p (.tail _ (h1 _ _ _ _ hJ₃))).1
  · obtain rfl : i = n := Nat.le_antisymm hi (Nat.not_lt.mp hlt)
    refine P.done _ _ _ st fun h₂ tk₂ hk₂ => ?_
    rw [if_neg (by decide)]
    refine done mC' ys' news' h₂ tk₂ hJ ⟨F'.ns.at' fun o e => hk₂ _ o (fun hb => (hwr _ hb).1 rfl) e, fun b o e => hk₂ b o (fun hb => by rw [(hwr b hb).2.2.2.1] at e; cases e) (F'.keep b o e), F.above⟩ (hn'.at' fun o e => hk₂ _ o (fun hb => (hwr _ hb).2.1 rfl) e)
      (fun p hp => ⟨hk₂ _ _ (fun hb => ?_) (N' p hp).1, (N' p hp).2⟩) fun p hp => ⟨(off p hp).1, (off p hp).2.1⟩
    rcases List.mem_cons.mp hp with rfl | hp'
    · exact (hwr _ hb).2.2.1 rfl
    · exact (off p hp').2.2 _ hb rfl

abbrev testsOf (ifs : List PySem.Expr) (cenv : Env) : Sem Bool := forIn ifs true fun c r => if r = true then do let ok ← isTrue c cenv (eval c cenv); pure (ForInStep.yield ok) else pure (ForInStep.yield r)
/-- what a last clause's turn runs -/
def Body1 (w : World) (A : Around) (ifs : List PySem.Expr) (elt : PySem.Expr) (D : Addr) (cenv : Env) (K : Shared → Prop) (E : Value → Shared → Prop) (s : Shared) : Prop :=
  wpAny (MM w) A (testsOf ifs cenv) (fun ok s₃ => if ok = true then wpAny (MM w) A (eval elt cenv) (fun x s₄ => wpAny (MM w) A (call (.builtin "list.append") [.ref D, x]) (fun _ s₅ => K s₅) E s₄) E s₃ else K s₃) E s
theorem Body1.mono {ifs : List PySem.Expr} {elt : PySem.Expr} {D : Addr} {cenv : Env} {K K' : Shared → Prop} {E : Value → Shared → Prop} {s : Shared} (h : Body1 w A ifs elt D cenv K E s) (hk : ∀ s, K s → K' s) : Body1 w A ifs elt D cenv K' E s := by
  refine wpAny_mono h (fun ok s₃ h₃ => ?_) fun _ _ x => x
  cases ok with
  | false => exact hk _ h₃
  | true => exact wpAny_mono h₃ (fun x s₄ h₄ => wpAny_mono h₄ (fun _ s₅ h₅ => hk _ h₅) fun _ _ x => x) fun _ _ x => x

/-- the end of an element: its value is to be appended -/
def EltEnd (h₀ : Heap) (L : Addr) (m : Str → Option Value) (its : List (Addr × Obj)) (wr : List Addr) (C D : Addr) (oC : Obj) (ys : List Value) (J' : List Value → List (Addr × Obj) → Prop) (s₁ : Shared) (y : Value) (s₂ : Shared) : Prop :=
  ∃ h' tk news', s₂ = { s₁ with heap := h', toks := tk } ∧ Fr h₀ L h' m ∧ News h₀ L h' (its ++ (C, oC) :: (D, LCg.lst ys) :: news') ∧ (∀ p ∈ news', p.1 ≠ C ∧ p.1 ≠ D ∧ ∀ b ∈ wr, p.1 ≠ b) ∧ J' (ys ++ [y]) news'
theorem elt_append {its : List (Addr × Obj)} {wr : List Addr} {C D : Addr} {oC : Obj} {mC : Str → Option Value} {ys : List Value} {J' : (Str → Option Value) → List Value → List (Addr × Obj) → Prop} {s₁ s₂ : Shared} {y : Value} {E : Value → Shared → Prop}
    (he : its.map (·.1) = wr) (hwD : ∀ b ∈ wr, b ≠ D) (hCD : C ≠ D) (hys : ys.length < sizeLine) (hoC : LCg.NsObj oC mC) (h : EltEnd h₀ L m its wr C D oC ys (J' mC) s₁ y s₂) :
    wpAny (MM w) A (call (.builtin "list.append") [.ref D, y]) (fun _ s₅ => CompEndU h₀ L m its wr C D J' s₁ s₅) E s₂ := by
  obtain ⟨h', tk, news', rfl, F, N, off, hJ⟩ := h
  have zD := N (D, LCg.lst ys) (List.mem_append_right _ (.tail _ (.head _)))
  refine append_at (hsz := by show ys.toArray.size ≤ sizeLine; rw [List.size_toArray]; exact Nat.le_of_lt hys) zD.1 fun h₅ hs₅ hD₅ => ?_
  refine ⟨h₅, tk, oC, mC, ys ++ [y], news', rfl, hoC, F.change hs₅ zD.2.1 zD.2.2, fun p hp => ?_, off, hJ⟩
  rcases List.mem_append.mp hp with hp | hp
  · exact ⟨hs₅.extBut _ _ (hwD _ (he ▸ List.mem_map_of_mem hp)) (N p (List.mem_append_left _ hp)).1, (N p (List.mem_append_left _ hp)).2⟩
  · have z := N p
    rcases List.mem_cons.mp hp with rfl | hp
    · exact ⟨hs₅.extBut _ _ hCD (N _ (List.mem_append_right _ (.head _))).1, (N _ (List.mem_append_right _ (.head _))).2⟩
    · rcases List.mem_cons.mp hp with rfl | hp
      · exact ⟨hD₅.trans (congrArg some (LCg.lst_snoc ys y)), zD.2⟩
      · have z := N p (List.mem_append_right _ (.tail _ (.tail _ hp)))
        exact ⟨hs₅.extBut _ _ (off p hp).2.1 z.1, z.2⟩
end loops

end SP05
section SP06
section comps
variable {w : World} {A : Around} {env : Env} {L : Addr} {h₀ : Heap} {m : Str → Option Value} {s : Shared}
abbrev BodyT := (Shared → Prop) → (Value → Shared → Prop) → Shared → Prop
abbrev FinE (h₀ : Heap) (L : Addr) (m : Str → Option Value) (Q : Value → Shared → Prop) (D : Addr) (led : List (Addr × Obj)) (s₂ : Shared) : Prop :=
  ∀ h tk, Fr h₀ L h m → News h₀ L h led → Q (.ref D) { s₂ with heap := h, toks := tk }
abbrev FinA (h₀ : Heap) (L : Addr) (m : Str → Option Value) (y : Str) (Q : Flow → Shared → Prop) (D : Addr) (led : List (Addr × Obj)) (s₂ : Shared) : Prop :=
  ∀ h tk, Fr h₀ L h (fun z => if z = y then some (.ref D) else m z) → News h₀ L h led → Q .next { s₂ with heap := h, toks := tk }

/-- all that a comprehension asks behind its iterator -/
def CompAt (w : World) (A : Around) (h₀ : Heap) (L : Addr) (m : Str → Option Value) (env : Env) (cl : List (Str × Addr)) (scope : Scope) (target : PySem.Expr) (Body : Addr → Addr → BodyT)
    (Fin : Addr → List (Addr × Obj) → Shared → Prop) (it : Value) (s₂ : Shared) : Prop :=
  ∃ (wr : List Addr) (src : List (Addr × Obj)) (n : Nat) (Bd : Nat → (Str → Option Value) → (Str → Option Value) → Prop) (St : Nat → Heap → Prop)
    (J : Nat → (Str → Option Value) → List Value → List (Addr × Obj) → Prop) (news : List (Addr × Obj)),
    (∀ C, C ∉ wr → (∀ p ∈ src, p.1 ≠ C) → Pulls w A target it (compEnvC scope cl C env) wr src n Bd St) ∧
    St 0 s₂.heap ∧ Fr h₀ L s₂.heap m ∧ News h₀ L s₂.heap news ∧ J 0 (fun _ => none) [] news ∧
    (∀ b ∈ wr, b ≠ L ∧ b < s₂.heap.objs.size ∧ h₀.get? b = none ∧ ∀ p ∈ news, p.1 ≠ b) ∧
    (∀ p ∈ src, h₀.get? p.1 = some p.2 ∨ ∀ i m' ys' news', J i m' ys' news' → p ∈ news') ∧
    (∀ i C D mC₁ mC₂ oC ys news₁ its h tk E', i < n → J i mC₁ ys news₁ → Bd i mC₁ mC₂ → LCg.NsObj oC mC₂ → its.map (·.1) = wr → (C ≠ D ∧ ∀ b ∈ wr, b ≠ C ∧ b ≠ D) → (∀ p ∈ news, p.1 < D ∧ p.1 < C) →
      (∀ p ∈ news₁, p.1 ≠ C ∧ p.1 ≠ D ∧ ∀ b ∈ wr, p.1 ≠ b) → Fr h₀ L h m → News h₀ L h (its ++ (C, oC) :: (D, LCg.lst ys) :: news₁) →
      Body C D (CompEndU h₀ L m its wr C D (J (i + 1)) { s₂ with heap := h, toks := tk }) E' { s₂ with heap := h, toks := tk }) ∧
    (∀ D ys news₁ mC₁, J n mC₁ ys news₁ → (∀ p ∈ news₁, p.1 ≠ D) → (∀ p ∈ news, p.1 < D) → Fin D ((D, LCg.lst ys) :: news₁) s₂)

theorem comp_block {e : PySem.Expr} {scope : Scope} {cl : List (Str × Addr)} {target : PySem.Expr} {Body : Addr → Addr → BodyT} {Fin : Addr → List (Addr × Obj) → Shared → Prop} {it : Value} {RR : Value → Addr → Result → Shared → Prop} {E : Value → Shared → Prop}
    (mono : ∀ {C D} {K K' : Shared → Prop} {E s}, Body C D K E s → (∀ s, K s → K' s) → Body C D K' E s)
    (start : ∀ {it acc cenv R} {s : Shared}, codeAny (MM w) A (.compLoop e 0 it acc cenv) R s → wpAny (MM w) A (pyIter it) (fun it' s' => codeAny (MM w) A (.compLoop e 0 it' acc cenv) R s') (notedBy (MM w) A cenv fun x s' => R (.error x) s') s → codeAny (MM w) A (.compStart e 0 it acc cenv) R s)
    (rule : ∀ (C D : Addr) (R : Result → Shared → Prop) (I : Nat → Shared → Prop), (∀ n s, I n s → ∀ E, pull w A target it (compEnvC scope cl C env) (fun b s₁ => if b = true then Body C D (fun s₅ => ∃ m, m < n ∧ I m s₅) E s₁ else R (.ok .next) s₁) E s) →
      ∀ n s, I n s → codeAny (MM w) A (.compLoop e 0 it (.ref D) (compEnvC scope cl C env)) R s)
    (hcell : ∀ y ∈ scope.names, y.2 ≠ .cell) (hkind : scope.kind = .function)
    (H : CompAt w A h₀ L m env cl scope target Body Fin it s)
    (hRR : ∀ D C h tk m' led, Fr h₀ L h m → News h₀ L h led → h.Ns C m' → C ≠ L → h₀.get? C = none → (∀ p ∈ led, p.1 ≠ C) → Fin D led s → RR (.ref D) C (.ok .next) { s with heap := h, toks := tk }) :
    wpAny (MM w) A (newList []) (fun acc s₃ => wpAny (MM w) A (newFunctionEnv scope env.globals cl [] env.qual none .none (some env)) (fun cenv s₄ =>
      codeAny (MM w) A (.compStart e 0 it acc { cenv with scope := relabel scope env }) (RR acc cenv.locals) s₄) E s₃) E s := by
  obtain ⟨wr, src, n, Bd, St, J, news, P, hst, F, N, hj, hwr, hsrc, turn, fin⟩ := H
  refine wpAny_newObj_type (wpAny_newFunctionEnv hcell (by intro y hy; simp at hy) (fun h₁ hns₁ hsb₁ => ?_) hkind)
  dsimp only at hns₁ hsb₁ ⊢
  generalize hH2 : s.heap.push { cls := .type "list", dict := none, data := .seq ([] : List Value).toArray } = H2 at hns₁ hsb₁ ⊢
  have hC : H2.objs.size = s.heap.objs.size + 1 := by rw [← hH2, Heap.size_push]
  have hDC : s.heap.objs.size ≠ H2.objs.size := by rw [hC]; exact Nat.ne_of_lt (Nat.lt_succ_self _)
  have below : ∀ b, b < s.heap.objs.size → b ≠ H2.objs.size ∧ b ≠ s.heap.objs.size := fun b hb => ⟨by rw [hC]; exact Nat.ne_of_lt (Nat.lt_succ_of_lt hb), Nat.ne_of_lt hb⟩
  have old : ∀ b o, s.heap.get? b = some o → h₁.get? b = some o := fun b o e => hsb₁.extBut b o (below b (Heap.lt_size e)).1 (Heap.get?_push_of_some _ (hH2 ▸ Heap.get?_push_of_some _ e))
  have hacc : h₁.get? s.heap.objs.size = some (LCg.lst []) := hsb₁.extBut _ _ hDC (Heap.get?_push_of_some _ (hH2 ▸ Heap.get?_push_size _ rfl))
  have fresh : ∀ a, s.heap.objs.size ≤ a → s.heap.get? a = none := fun a ha => by
    cases e : s.heap.get? a with
    | none => rfl
    | some o' => exact absurd (Heap.lt_size e) (Nat.not_lt.mpr ha)
  have fresh₀ : ∀ a, s.heap.objs.size ≤ a → h₀.get? a = none := fun a ha => by
    cases e : h₀.get? a with
    | none => rfl
    | some o' => have := F.keep a o' e; rw [fresh a ha] at this; cases this
  have hD₀ : h₀.get? s.heap.objs.size = none := fresh₀ _ (Nat.le_refl _)
  have hC₀ : h₀.get? H2.objs.size = none := fresh₀ _ (by rw [hC]; exact Nat.le_succ _)
  have hLlt : L < s.heap.objs.size := F.ns.lt
  have hDL : s.heap.objs.size ≠ L := Ne.symm (below L hLlt).2
  have hCL : H2.objs.size ≠ L := Ne.symm (below L hLlt).1
  have ltD : ∀ p ∈ news, p.1 < s.heap.objs.size := fun p hp => Heap.lt_size (N p hp).1
  have hCw : H2.objs.size ∉ wr := fun hb => (below _ (hwr _ hb).2.1).1 rfl
  have srcAt : ∀ p ∈ src, s.heap.get? p.1 = some p.2 := fun p hp => by
    rcases hsrc p hp with h1 | h1
    · exact F.keep _ _ h1
    · exact (N p (h1 _ _ _ _ hj)).1
  have P' := P H2.objs.size hCw fun p hp => (below _ (Heap.lt_size (srcAt p hp))).1
  have hst₁ : St 0 h₁ := P'.keep _ _ _ hst (fun b hb o e => old b o e) fun p hp => old _ _ (srcAt p hp)
  have N₁ : News h₀ L h₁ ((s.heap.objs.size, LCg.lst []) :: news) := fun p hp => by
    rcases List.mem_cons.mp hp with rfl | hp
    · exact ⟨hacc, hDL, hD₀⟩
    · exact ⟨old _ _ (N p hp).1, (N p hp).2⟩
  have F₁ : Fr h₀ L h₁ m := F.keeps old
  have loop : ∀ s₃ : Shared, s₃ = { s with heap := h₁, toks := s.toks + ([] : List (Str × Value)).length } →
      codeAny (MM w) A (.compLoop e 0 it (.ref s.heap.objs.size) (compEnvC scope cl H2.objs.size env)) (RR (.ref s.heap.objs.size) H2.objs.size) s₃ := by
    rintro s₃ rfl
    refine comp_core (Body := Body H2.objs.size s.heap.objs.size) (fun h k => mono h k) (rule H2.objs.size s.heap.objs.size _) P' rfl J F₁ hns₁ N₁ hst₁ hj
      (fun b hb => ⟨(hwr b hb).1, (below b (hwr b hb).2.1).1, (below b (hwr b hb).2.1).2, (hwr b hb).2.2.1, (hwr b hb).2.2.2⟩) hCL (Ne.symm hDC) hC₀ (fun p hp => ⟨(below _ (ltD p hp)).1, (below _ (ltD p hp)).2⟩) hsrc ?_ ?_
    · intro i mC₁ mC₂ oC ys₁ news₁ its h tk E' hi hJ hB hoC he off F₂ N₂
      exact turn i H2.objs.size s.heap.objs.size mC₁ mC₂ oC ys₁ news₁ its h tk E' hi hJ hB hoC he ⟨Ne.symm hDC, fun b hb => below b (hwr b hb).2.1⟩ (fun p hp => ⟨ltD p hp, by rw [hC]; exact Nat.lt_succ_of_lt (ltD p hp)⟩) off F₂ N₂
    · intro mC₁ ys₁ news₁ h tk hJ F₂ hn₂ N₂ off
      refine hRR _ _ h tk _ ((s.heap.objs.size, LCg.lst ys₁) :: news₁) F₂ N₂ hn₂ hCL hC₀ (fun p hp => ?_) (fin _ _ _ _ hJ (fun p hp => (off p hp).2) ltD)
      rcases List.mem_cons.mp hp with rfl | hp
      · exact hDC
      · exact (off p hp).1
  exact start (loop _ rfl) (P'.self 0 _ _ _ hst₁ (loop _ rfl))

theorem rule1 {elt target iter : PySem.Expr} {ifs : List PySem.Expr} {scope : Scope} {pos : Pos} {it : Value} {D : Addr} {cenv : Env} {R : Result → Shared → Prop} (I : Nat → Shared → Prop)
    (turn : ∀ n s, I n s → ∀ E, pull w A target it cenv (fun b s₁ => if b = true then Body1 w A ifs elt D cenv (fun s₅ => ∃ m, m < n ∧ I m s₅) E s₁ else R (.ok .next) s₁) E s) (n : Nat) (s : Shared) (h : I n s) :
    codeAny (MM w) A (.compLoop (.ListComp elt [⟨target, iter, ifs, 0⟩] scope pos) 0 it (.ref D) cenv) R s := by
  refine comp_turn I (fun n s hI E => ?_) n h
  exact turn n s hI E

abbrev B1 (w : World) (A : Around) (ifs : List PySem.Expr) (elt : PySem.Expr) (cl : List (Str × Addr)) (scope : Scope) (env : Env) : Addr → Addr → BodyT := fun C D => Body1 w A ifs elt D (compEnvC scope cl C env)

/-- [elt for target in iter if ..], its value -/
theorem ListComp_at {elt target iter : PySem.Expr} {ifs : List PySem.Expr} {scope : Scope} {cl : List (Str × Addr)} {pos : Pos} {Q E : Value → Shared → Prop} (_F : Fr h₀ L s.heap m)
    (hclos : closureFor scope env = pure cl) (hcell : ∀ y ∈ scope.names, y.2 ≠ .cell) (hkind : scope.kind = .function)
    (hnames : ∀ y ∈ scope.names, y.2 = .local → scope.names.lookup y.1 = some .local)
    (h : wpAny (MM w) A (eval iter env) (fun xv s₁ => wpAny (MM w) A (pyIter xv) (fun it s₂ => CompAt w A h₀ L m env cl scope target (B1 w A ifs elt cl scope env) (FinE h₀ L m Q) it s₂) E s₁) E s)
    (hs : ∀ x, foldedSetIterable iter env x = pure x := by intro _; rfl) :
    wpAny (MM w) A (eval (.ListComp elt [⟨target, iter, ifs, 0⟩] scope pos) env) Q E s := by
  rw [eval_ListComp]
  refine wpAny_comprehension_free (use := none) rfl hs hclos hkind hnames (wpAny_mono h (fun xv s₁ h₁ => wpAny_mono h₁ (fun it s₂ h₂ => ?_) fun _ _ e => e) fun _ _ e => e)
  refine comp_block (Body := B1 w A ifs elt cl scope env) (fun h k => Body1.mono h k) (fun h0 h => codeAny_compStart_list h0 h) (fun C D R I t n s hI => rule1 I t n s hI) hcell hkind h₂ ?_
  intro D C h' tk m' led F N hn hCL hC₀ offC fin
  exact ⟨m', hn, fun h'' hs'' => fin h'' tk (F.change hs'' hCL hC₀) fun p hp => ⟨hs''.extBut _ _ (offC p hp) (N p hp).1, (N p hp).2⟩⟩

/-- y = [elt for target in iter if ..] -/
theorem Assign_ListComp_at {elt target iter : PySem.Expr} {ifs : List PySem.Expr} {y : Str} {py : Pos} {scope : Scope} {cl : List (Str × Addr)} {pos spos : Pos} {Q : Flow → Shared → Prop} {E : Value → Shared → Prop} (_F : Fr h₀ L s.heap m) (hLe : env.locals = L)
    (hsw : swapsWith (.ListComp elt [⟨target, iter, ifs, 0⟩] scope pos) (some (.Name y py)) spos.line env = pure true)
    (hclos : closureFor scope env = pure cl) (hcell : ∀ z ∈ scope.names, z.2 ≠ .cell) (hkind : scope.kind = .function)
    (hnames : ∀ z ∈ scope.names, z.2 = .local → scope.names.lookup z.1 = some .local)
    (hy : env.kindOf y = some .local) (hp : plain env)
    (h : wpAny (MM w) A (eval iter env) (fun xv s₁ => wpAny (MM w) A (pyIter xv) (fun it s₂ => CompAt w A h₀ L m env cl scope target (B1 w A ifs elt cl scope env) (FinA h₀ L m y Q) it s₂) E s₁) E s)
    (hs : ∀ x, foldedSetIterable iter env x = pure x := by intro _; rfl) :
    wpAny (MM w) A (exec (.Assign [.Name y py] (.ListComp elt [⟨target, iter, ifs, 0⟩] scope pos) spos) env) Q E s := by
  subst hLe
  rw [exec_Assign_Name_used _ _ _ _ hsw]
  refine wpAny_bind (wpAny_standAt (wpAny_bind ?_))
  show wpAny _ A (do let _ ← comprehension (.ListComp elt [⟨target, iter, ifs, 0⟩] scope pos) scope env _ (newList []) false (eval iter env) (some (assign (.Name y py) env))) _ _ s
  refine wpAny_bind (wpAny_mono (wpAny_comprehension_free (use := some (assign (.Name y py) env)) (Q := fun _ s' => Q .next s') rfl hs hclos hkind hnames
    (wpAny_mono h (fun xv s₁ h₁ => wpAny_mono h₁ (fun it s₂ h₂ => ?_) fun _ _ e => e) fun _ _ e => e)) (fun _ s' hq => wpAny_pure (wpAny_pure hq)) fun _ _ e => e)
  refine comp_block (Body := B1 w A ifs elt cl scope env) (fun h k => Body1.mono h k) (fun h0 h => codeAny_compStart_list h0 h) (fun C D R I t n s hI => rule1 I t n s hI) hcell hkind h₂ ?_
  intro D C h' tk m' led F N hn hCL hC₀ offC fin
  show wpAny _ A (assign (.Name y py) env (.ref D)) _ _ _
  refine wpAny_assign_Name (wpAny_storeName_local hy F.ns (fun h₂ hn₂ hs₂ => ?_) hp)
  have hL₀ : h₀.get? env.locals = none := Heap.get?_none_of_le F.above
  have F₂ : Fr h₀ env.locals h₂ (fun z => if z = y then some (.ref D) else m z) := ⟨hn₂, fun b o e => hs₂.extBut b o (fun q => by rw [q, hL₀] at e; cases e) (F.keep b o e), F.above⟩
  refine ⟨m', hn.sameBut hs₂ hCL, fun h'' hs'' => fin h'' _ (F₂.change hs'' hCL hC₀) fun p hp => ?_⟩
  exact ⟨hs''.extBut _ _ (offC p hp) (hs₂.extBut _ _ (N p hp).2.1 (N p hp).1), (N p hp).2⟩

/-- a clause's turn by its element alone (no test) -/
theorem elt_turn {elt : PySem.Expr} {cl : List (Str × Addr)} {scope : Scope} {its : List (Addr × Obj)} {wr : List Addr} {C D : Addr} {oC : Obj} {mC : Str → Option Value} {ys : List Value} {J' : (Str → Option Value) → List Value → List (Addr × Obj) → Prop}
    {s₁ : Shared} {E : Value → Shared → Prop} (he : its.map (·.1) = wr) (hwD : C ≠ D ∧ ∀ b ∈ wr, b ≠ C ∧ b ≠ D) (hys : ys.length < sizeLine) (hoC : LCg.NsObj oC mC)
    (h : wpAny (MM w) A (eval elt (compEnvC scope cl C env)) (EltEnd h₀ L m its wr C D oC ys (J' mC) s₁) E s₁) : B1 w A [] elt cl scope env C D (CompEndU h₀ L m its wr C D J' s₁) E s₁ := by
  refine wpAny_tests_nil ?_
  rw [if_pos rfl]
  exact wpAny_mono h (fun y s₂ q => elt_append he (fun b hb => (hwD.2 b hb).2) hwD.1 hys hoC q) fun _ _ x => x

theorem Pulls.mono_src {target : PySem.Expr} {it : Value} {wr : List Addr} {src : List (Addr × Obj)} {n : Nat} {Bd Bd' : Nat → (Str → Option Value) → (Str → Option Value) → Prop} {St : Nat → Heap → Prop}
    (P : Pulls w A target it env wr src n Bd St) (h : ∀ i m m', Bd i m m' → Bd' i m m') : Pulls w A target it env wr src n Bd' St where
  item := fun i s m Q E hi st hn hQ => P.item i s m Q E hi st hn fun h' tk m' hb => hQ h' tk m' (h _ _ _ hb)
  done := P.done
  self := P.self
  keep := P.keep
  occ := P.occ
end comps

end SP06
section SP07
section srcs
variable {w : World} {A : Around} {env : Env} {L : Addr} {h₀ : Heap} {m : Str → Option Value} {news : List (Addr × Obj)} {s : Shared}
/-- an iterator of one name's, as it was made -/
def Src1 (w : World) (A : Around) (h₀ : Heap) (L : Addr) (m : Str → Option Value) (news : List (Addr × Obj)) (x : Str) (n : Nat) (P : Nat → Value → Prop) (src : List (Addr × Obj)) (s : Shared) (it : Value) (s₂ : Shared) : Prop :=
  ∃ (I : Addr) (St : Nat → Heap → Prop) (h : Heap) (tk : Nat), it = .ref I ∧ s₂ = { s with heap := h, toks := tk } ∧ Fr h₀ L h m ∧ News h₀ L h news ∧ St 0 h ∧ I ≠ L ∧ I < h.objs.size ∧ h₀.get? I = none ∧ (∀ p ∈ news, p.1 < I) ∧
    ∀ (env' : Env) (px : Pos), env'.kindOf x = some .local → plain env' → env'.locals ≠ I → (∀ p ∈ src, p.1 ≠ env'.locals) →
      Pulls w A (.Name x px) (.ref I) env' [I] src n (fun i m m' => ∃ v, P i v ∧ m' = fun y => if y = x then some v else m y) St

theorem src1_list {x : Str} {l : Addr} {lo : Obj} {items : Array Value} {E : Value → Shared → Prop} (hh : A.handled = none) (F : Fr h₀ L s.heap m) (N : News h₀ L s.heap news) (hl : (l, lo) ∈ news ∨ h₀.get? l = some lo) (hc : lo.cls = .type "list") (hd : ∃ k, lo.data = .seq items k) :
    wpAny (MM w) A (pyIter (.ref l)) (Src1 w A h₀ L m news x items.size (fun i v => items[i]? = some v) [(l, lo)] s) E s := by
  have e : s.heap.get? l = some lo := hl.elim (fun h => (N _ h).1) fun h => F.keep _ _ h
  have IL : s.heap.IsList l items := ⟨lo, e, hc, hd⟩
  have hlt : l < s.heap.objs.size := Heap.lt_size e
  refine wpAny_pyIter_list IL ?_
  have up : ∀ b o, s.heap.get? b = some o → (s.heap.push { cls := .type "list_iterator", data := .fields #[.ref l, .int 0 0] }).get? b = some o := fun b o e => Heap.get?_push_of_some _ e
  refine ⟨s.heap.objs.size, fun i h => h.IsListIter s.heap.objs.size l i ∧ h.IsList l items, _, s.toks, rfl, rfl, F.keeps up, N.grown up, ⟨⟨_, Heap.get?_push_size _ rfl, rfl, rfl⟩, IL.push _⟩, Ne.symm (Nat.ne_of_lt F.ns.lt), by rw [Heap.size_push]; exact Nat.lt_succ_self _, next_is_new F, fun p hp => Heap.lt_size (N p hp).1, ?_⟩
  intro env' px hx hp hI hs
  exact Pulls.list hh (Nat.ne_of_lt hlt) hc hd hx hp hI (Ne.symm (hs _ (.head _)))

theorem src1_range {x : Str} {r : Addr} {a b : Int} {t u v : Tok} {n : Nat} {E : Value → Shared → Prop} (hh : A.handled = none) (F : Fr h₀ L s.heap m) (N : News h₀ L s.heap news) (hr : IsRange s.heap r a b 1 t u v)
    (hsm : Builtin.Range.small a b 1 = true) (hn : Builtin.Range.rangeSize a b 1 = ((n : Nat) : Int)) :
    wpAny (MM w) A (pyIter (.ref r)) (Src1 w A h₀ L m news x n (fun i v => ∃ t, v = .int (a + (i : Int)) t) [] s) E s := by
  refine wpAny_pyIter_range hr hsm ?_
  have up : ∀ (o : Obj) b o', s.heap.get? b = some o' → (s.heap.push o).get? b = some o' := fun o b o' e => Heap.get?_push_of_some _ e
  refine ⟨s.heap.objs.size, fun i h => IsRangeIter h s.heap.objs.size (a + (i : Nat) * 1) ((n : Int) - (i : Nat)) 1, _, _, rfl, rfl, F.keeps (up _), N.grown (up _), ?_, Ne.symm (Nat.ne_of_lt F.ns.lt), by rw [Heap.size_push]; exact Nat.lt_succ_self _, next_is_new F, fun p hp => Heap.lt_size (N p hp).1, ?_⟩
  · show IsRangeIter _ _ _ _ _
    rw [hn]; simpa using Heap.get?_push_size _ rfl
  · intro env' px hx hp hI hs
    exact Pulls.range hh hx hp hI

theorem src1_str {x : Str} {tx : Str} {t : Tok} {E : Value → Shared → Prop} (hh : A.handled = none) (ha : tx.cps.all (· < 128) = true) (F : Fr h₀ L s.heap m) (N : News h₀ L s.heap news) :
    wpAny (MM w) A (pyIter (.str tx t)) (Src1 w A h₀ L m news x tx.cps.size (SignAt tx) [] s) E s := by
  refine wpAny_pyIter_ascii ha ?_
  have up : ∀ (o : Obj) b o', s.heap.get? b = some o' → (s.heap.push o).get? b = some o' := fun o b o' e => Heap.get?_push_of_some _ e
  refine ⟨s.heap.objs.size, fun i h => h.IsStrIter s.heap.objs.size "str_ascii_iterator" tx t i, _, _, rfl, rfl, F.keeps (up _), N.grown (up _), ⟨_, Heap.get?_push_size _ rfl, rfl, rfl⟩, Ne.symm (Nat.ne_of_lt F.ns.lt), by rw [Heap.size_push]; exact Nat.lt_succ_self _, next_is_new F, fun p hp => Heap.lt_size (N p hp).1, ?_⟩
  intro env' px hx hp hI hs
  exact Pulls.ascii hh hx hp hI

/-- [elt for x in ..]: by the element's contract -/
theorem comp_one {x : Str} {px : Pos} {n : Nat} {P : Nat → Value → Prop} {src : List (Addr × Obj)} {it : Value} {s₂ : Shared} {elt : PySem.Expr} {cl : List (Str × Addr)} {scope : Scope} {Fin : Addr → List (Addr × Obj) → Shared → Prop}
    (H : Src1 w A h₀ L m news x n P src s it s₂) (hx : scope.names.lookup x = some .local) (hkind : scope.kind = .function) (hn : n ≤ sizeLine) (J : Nat → List Value → List (Addr × Obj) → Prop) (hj : J 0 [] news)
    (hJ : ∀ i ys nw, J i ys nw → ys.length ≤ i) (hsrc : ∀ p ∈ src, h₀.get? p.1 = some p.2 ∨ ∀ i ys nw, J i ys nw → p ∈ nw)
    (turn : ∀ i v I oI C oC D mC ys nw h tk E', i < n → P i v → J i ys nw → LCg.NsObj oC mC → mC x = some v → (@Ne Nat I C ∧ @Ne Nat I D ∧ @Ne Nat C D) → (∀ p ∈ news, p.1 < D ∧ p.1 < C ∧ p.1 < I) →
      (∀ p ∈ nw, p.1 ≠ C ∧ p.1 ≠ D ∧ p.1 ≠ I) → Fr h₀ L h m → News h₀ L h ((I, oI) :: (C, oC) :: (D, LCg.lst ys) :: nw) →
      wpAny (MM w) A (eval elt (compEnvC scope cl C env)) (EltEnd h₀ L m [(I, oI)] [I] C D oC ys (J (i + 1)) { s with heap := h, toks := tk }) E' { s with heap := h, toks := tk })
    (fin : ∀ D ys nw h₂ tk₂, J n ys nw → (∀ p ∈ nw, p.1 ≠ D) → (∀ p ∈ news, p.1 < D) → Fin D ((D, LCg.lst ys) :: nw) { s with heap := h₂, toks := tk₂ }) :
    CompAt w A h₀ L m env cl scope (.Name x px) (B1 w A [] elt cl scope env) Fin it s₂ := by
  obtain ⟨I, St, h₂, tk₂, rfl, rfl, F, N, st, hIL, hIlt, hI₀, hIn, P'⟩ := H
  refine ⟨[I], src, n, _, St, fun i _ ys nw => J i ys nw, news, fun C hC hs => P' (compEnvC scope cl C env) px (lookup_relabel_local hx) (by simp [plain, compEnvC, relabel, hkind]) (fun q => hC (by rw [← q]; exact .head _)) hs, st, F, N, hj,
    fun b hb => ?_, fun p hp => (hsrc p hp).imp id fun h i _ ys nw => h i ys nw, ?_, fun D ys nw mC hJ' => fin D ys nw h₂ tk₂ hJ'⟩
  · rw [List.mem_singleton.mp hb]
    exact ⟨hIL, hIlt, hI₀, fun p hp => Nat.ne_of_lt (hIn p hp)⟩
  · intro i C D mC₁ mC₂ oC ys nw its h tk E' hi hJi hB hoC he hCD hlt off F' N'
    obtain ⟨oI, rfl⟩ := its_one he
    obtain ⟨v, hP, rfl⟩ := hB
    have hI := hCD.2 I (.head _)
    refine elt_turn he hCD (Nat.lt_of_le_of_lt (hJ _ _ _ hJi) (Nat.lt_of_lt_of_le hi hn)) hoC ?_
    exact turn i v I oI C oC D _ ys nw h tk E' hi hP hJi hoC (by simp) ⟨hI.1, hI.2, hCD.1⟩ (fun p hp => ⟨(hlt p hp).1, (hlt p hp).2, hIn p hp⟩) (fun p hp => ⟨(off p hp).1, (off p hp).2.1, (off p hp).2.2 I (.head _)⟩) F' N'

theorem EltEnd.intro {its : List (Addr × Obj)} {wr : List Addr} {C D : Addr} {oC : Obj} {ys : List Value} {J' : List Value → List (Addr × Obj) → Prop} {s₁ : Shared} {y : Value} {h' : Heap} {tk : Nat} {all : List (Addr × Obj)} (F : Fr h₀ L h' m) (N : News h₀ L h' all) (nw : List (Addr × Obj))
    (sub : ∀ p ∈ its ++ (C, oC) :: (D, LCg.lst ys) :: nw, p ∈ all) (off : ∀ p ∈ nw, p.1 ≠ C ∧ p.1 ≠ D ∧ ∀ b ∈ wr, p.1 ≠ b) (hJ : J' (ys ++ [y]) nw) :
    EltEnd h₀ L m its wr C D oC ys J' s₁ y { s₁ with heap := h', toks := tk } := ⟨h', tk, nw, rfl, F, fun p hp => N p (sub p hp), off, hJ⟩

theorem EltEnd.intro1 {I : Addr} {oI : Obj} {C D : Addr} {oC : Obj} {ys : List Value} {J' : List Value → List (Addr × Obj) → Prop} {s₁ : Shared} {y : Value} {h' : Heap} {tk : Nat} {all nw : List (Addr × Obj)} (F : Fr h₀ L h' m) (N : News h₀ L h' all)
    (sub : ∀ p ∈ (I, oI) :: (C, oC) :: (D, LCg.lst ys) :: nw, p ∈ all) (off : ∀ p ∈ nw, p.1 ≠ C ∧ p.1 ≠ D ∧ ∀ b ∈ [I], p.1 ≠ b) (hJ : J' (ys ++ [y]) nw) :
    EltEnd h₀ L m [(I, oI)] [I] C D oC ys J' s₁ y { s₁ with heap := h', toks := tk } := EltEnd.intro F N nw sub off hJ

/-- for x in ..: by the turn's contract -/
theorem for_one {x : Str} {px : Pos} {n : Nat} {P : Nat → Value → Prop} {src : List (Addr × Obj)} {it : Value} {s₂ : Shared} {body : List Stmt} {Q : Flow → Shared → Prop} {R : Result → Shared → Prop}
    (H : Src1 w A h₀ L m news x n P src s it s₂) (hL : env.locals = L) (hx : env.kindOf x = some .local) (hp : plain env) (J : Nat → (Str → Option Value) → List (Addr × Obj) → Prop) (hj : J 0 m news)
    (hsrc : ∀ p ∈ src, h₀.get? p.1 = some p.2 ∨ ∀ i m' nw, J i m' nw → p ∈ nw)
    (turn : ∀ i v I oI m₁ nw h tk E', i < n → P i v → J i m₁ nw → (∀ p ∈ news, p.1 < I) → (∀ p ∈ nw, p.1 ≠ I) → Fr h₀ L h (fun y => if y = x then some v else m₁ y) → News h₀ L h ((I, oI) :: nw) →
      wpAny (MM w) A (execs body env) (LoopEnd h₀ L [(I, oI)] [I] (J (i + 1)) { s with heap := h, toks := tk } Q) E' { s with heap := h, toks := tk })
    (done : ∀ m₁ nw h tk, J n m₁ nw → Fr h₀ L h m₁ → News h₀ L h nw → Q .next { s with heap := h, toks := tk })
    (hR : ∀ f s', Q f s' → R (.ok f) s') :
    codeAny (MM w) A (.forLoop (.Name x px) it body [] env) R s₂ := by
  obtain ⟨I, St, h₂, tk₂, rfl, rfl, F, N, st, hIL, hIlt, hI₀, hIn, P'⟩ := H
  have hs : ∀ p ∈ src, p.1 ≠ env.locals := fun p hp q => by
    rcases hsrc p hp with h1 | h1
    · rw [q, hL] at h1
      exact absurd (Heap.lt_size h1) (Nat.not_lt.mpr F.above)
    · exact (N p (h1 _ _ _ hj)).2.1 (q.trans hL)
  refine for_all (P' env px hx hp (by rw [hL]; exact Ne.symm hIL) hs) hL J F N st hj (fun b hb => ?_) hsrc ?_ done hR
  · rw [List.mem_singleton.mp hb]
    exact ⟨hIL, hI₀, fun p hp => Nat.ne_of_lt (hIn p hp)⟩
  · intro i m₁ m₂ nw its h tk E' hi hJi hB he off F' N'
    obtain ⟨oI, rfl⟩ := its_one he
    obtain ⟨v, hP, rfl⟩ := hB
    exact turn i v I oI m₁ nw h tk E' hi hP hJi hIn (fun p hp => off p hp I (.head _)) F' N'
theorem LoopEnd.next {its : List (Addr × Obj)} {wr : List Addr} {J' : (Str → Option Value) → List (Addr × Obj) → Prop} {s₁ : Shared} {Q : Flow → Shared → Prop} {h' : Heap} {tk : Nat} {m' : Str → Option Value} {all : List (Addr × Obj)} (F : Fr h₀ L h' m') (N : News h₀ L h' all) (nw : List (Addr × Obj))
    (sub : ∀ p ∈ its ++ nw, p ∈ all) (off : ∀ p ∈ nw, ∀ b ∈ wr, p.1 ≠ b) (hJ : J' m' nw) : LoopEnd h₀ L its wr J' s₁ Q .next { s₁ with heap := h', toks := tk } := ⟨h', tk, m', nw, rfl, F, fun p hp => N p (sub p hp), off, hJ⟩
end srcs

end SP07
section SP08
section pairs
variable {w : World} {A : Around} {env : Env} {L : Addr} {h₀ : Heap} {m : Str → Option Value} {news : List (Addr × Obj)} {s : Shared}
/-- an iterator of pairs, as it was made -/
def Src2 (w : World) (A : Around) (h₀ : Heap) (L : Addr) (m : Str → Option Value) (news : List (Addr × Obj)) (n : Nat) (P : Nat → Value → Value → Prop) (src : List (Addr × Obj)) (s : Shared) (it : Value) (s₂ : Shared) : Prop :=
  ∃ (wr : List Addr) (St : Nat → Heap → Prop) (h : Heap), s₂ = { s with heap := h } ∧ Fr h₀ L h m ∧ News h₀ L h news ∧ St 0 h ∧ (∀ b ∈ wr, b ≠ L ∧ b < h.objs.size ∧ h₀.get? b = none ∧ ∀ p ∈ news, p.1 < b) ∧
    (∀ (Q : Value → Shared → Prop) (E : Value → Shared → Prop), Q it s₂ → wpAny (MM w) A (pyIter it) Q E s₂) ∧
    ∀ (x y : Str) (env' : Env) (px py : Pos) (k : Nat) (pos : Pos), env'.kindOf x = some .local → env'.kindOf y = some .local → plain env' → env'.locals ∉ wr → (∀ p ∈ src, p.1 ≠ env'.locals) →
      Pulls w A (.Tuple [.Name x px, .Name y py] k pos) it env' wr src n (fun i m m' => ∃ a b, P i a b ∧ m' = fun z => if z = y then some b else if z = x then some a else m z) St

theorem Src2.iter {n : Nat} {P : Nat → Value → Value → Prop} {src : List (Addr × Obj)} {it : Value} {s₂ : Shared} {E : Value → Shared → Prop} (H : Src2 w A h₀ L m news n P src s it s₂) :
    wpAny (MM w) A (pyIter it) (Src2 w A h₀ L m news n P src s) E s₂ := by
  obtain ⟨wr, St, h, e, r⟩ := id H
  exact r.2.2.2.2.1 _ _ H

theorem src2_enum {l : Addr} {lo : Obj} {items : Array Value} {Q E : Value → Shared → Prop} (hh : A.handled = none) (F : Fr h₀ L s.heap m) (N : News h₀ L s.heap news) (hl : (l, lo) ∈ news ∨ h₀.get? l = some lo) (hc : lo.cls = .type "list") (hd : ∃ k, lo.data = .seq items k)
    (h : ∀ e s₂, Src2 w A h₀ L m news items.size (fun i a b => ∃ t, a = .int i t ∧ items[i]? = some b) [(l, lo)] s (.ref e) s₂ → Q (.ref e) s₂) :
    wpAny (MM w) A (call (.type "enumerate") [.ref l]) Q E s := by
  have e : s.heap.get? l = some lo := hl.elim (fun h => (N _ h).1) fun h => F.keep _ _ h
  have IL : s.heap.IsList l items := ⟨lo, e, hc, hd⟩
  have hlt : l < s.heap.objs.size := Heap.lt_size e
  refine call_enumerate_list IL fun h' he hit hsz hk => h _ _ ?_
  have hin : ∀ b, s.heap.objs.size ≤ b → h₀.get? b = none := fun b hb => by
    cases q : h₀.get? b with
    | none => rfl
    | some o => exact absurd (Heap.lt_size (F.keep _ _ q)) (Nat.not_lt.mpr hb)
  refine ⟨[s.heap.objs.size + 1, s.heap.objs.size], fun i h => (∃ old, IsEnum h (s.heap.objs.size + 1) s.heap.objs.size i old) ∧ h.IsListIter s.heap.objs.size l i ∧ h.IsList l items, h', rfl, F.keeps hk, N.grown hk, ⟨⟨_, he⟩, hit, lo, hk _ _ e, hc, hd⟩, fun b hb => ?_, fun Q E hq => wpAny_pyIter_enum he hq, ?_⟩
  · have hb' : s.heap.objs.size ≤ b ∧ b < s.heap.objs.size + 2 := by
      rcases List.mem_cons.mp hb with rfl | hb
      · exact ⟨Nat.le_succ _, Nat.lt_succ_self _⟩
      · rw [List.mem_singleton.mp hb]; exact ⟨Nat.le_refl _, Nat.lt_succ_of_lt (Nat.lt_succ_self _)⟩
    exact ⟨Ne.symm (Nat.ne_of_lt (Nat.lt_of_lt_of_le F.ns.lt hb'.1)), by rw [hsz]; exact hb'.2, hin _ hb'.1, fun p hp => Nat.lt_of_lt_of_le (Heap.lt_size (N p hp).1) hb'.1⟩
  · intro x y env' px py k pos hx hy hp hC hs
    have hCl : env'.locals ≠ l := Ne.symm (hs _ (.head _))
    refine (Pulls.two (wr' := [s.heap.objs.size + 1, s.heap.objs.size]) hh (WalksT.enumerate (A := A) hh (s.heap.objs.size + 1) s.heap.objs.size l (Ne.symm (Nat.ne_of_lt (Nat.lt_succ_self _))) (Nat.ne_of_lt (Nat.lt_succ_of_lt hlt)) (Nat.ne_of_lt hlt) items) (fun i vals ⟨t, b, h1, h2⟩ => ⟨_, _, h2⟩) hx hy hp ?_ ?_ (fun b hb => hb) ?_ ?_).mono_src ?_
    · intro hm
      rcases List.mem_cons.mp hm with q | hm
      · exact hC (q ▸ .head _)
      · rcases List.mem_cons.mp hm with q | hm
        · exact hC (q ▸ .tail _ (.head _))
        · exact hCl (List.mem_singleton.mp hm)
    · rintro i h ⟨⟨old, h1⟩, ⟨o2, h2, _⟩, ⟨o3, h3, _⟩⟩ b hb
      rcases List.mem_cons.mp hb with rfl | hb
      · exact Heap.lt_size h1
      · rcases List.mem_cons.mp hb with rfl | hb
        · exact Heap.lt_size h2
        · rw [List.mem_singleton.mp hb]; exact Heap.lt_size h3
    · rintro i h h' ⟨⟨old, h1⟩, h2, h3⟩ hw hs
      exact ⟨⟨old, hw _ (.head _) _ h1⟩, h2.at fun o e => hw _ (.tail _ (.head _)) o e, lo, hs (l, lo) (.head _), hc, hd⟩
    · rintro i h ⟨⟨old, h1⟩, ⟨o2, h2, _⟩, _⟩ b hb
      rcases List.mem_cons.mp hb with rfl | hb
      · exact ⟨_, h1⟩
      · rw [List.mem_singleton.mp hb]; exact ⟨_, h2⟩
    · rintro i m m' ⟨a, b, ⟨t, x, h1, h2⟩, h3⟩
      have h2 := congrArg Array.toList h2
      simp only [List.cons.injEq, and_true] at h2
      exact ⟨a, b, ⟨t, h2.1, h2.2 ▸ h1⟩, h3⟩

theorem src2_zip {l1 l2 : Addr} {lo1 lo2 : Obj} {xs ys : Array Value} {Q E : Value → Shared → Prop} (hh : A.handled = none) (F : Fr h₀ L s.heap m) (N : News h₀ L s.heap news) (hl1 : (l1, lo1) ∈ news ∨ h₀.get? l1 = some lo1) (hc1 : lo1.cls = .type "list") (hd1 : ∃ k, lo1.data = .seq xs k)
    (hl2 : (l2, lo2) ∈ news ∨ h₀.get? l2 = some lo2) (hc2 : lo2.cls = .type "list") (hd2 : ∃ k, lo2.data = .seq ys k)
    (h : ∀ e s₂, Src2 w A h₀ L m news (min xs.size ys.size) (fun i a b => xs[i]? = some a ∧ ys[i]? = some b) [(l1, lo1), (l2, lo2)] s (.ref e) s₂ → Q (.ref e) s₂) :
    wpAny (MM w) A (call (.type "zip") [.ref l1, .ref l2]) Q E s := by
  have e1 : s.heap.get? l1 = some lo1 := hl1.elim (fun h => (N _ h).1) fun h => F.keep _ _ h
  have e2 : s.heap.get? l2 = some lo2 := hl2.elim (fun h => (N _ h).1) fun h => F.keep _ _ h
  have lt1 : l1 < s.heap.objs.size := Heap.lt_size e1
  have lt2 : l2 < s.heap.objs.size := Heap.lt_size e2
  refine call_zip_2 ⟨lo1, e1, hc1, hd1⟩ ⟨lo2, e2, hc2, hd2⟩ fun h' hz hTI hTO hi1 hi2 hsz hk => h _ _ ?_
  generalize hS : s.heap.objs.size = S at *
  have hin : ∀ b, S ≤ b → h₀.get? b = none := fun b hb => by
    cases q : h₀.get? b with
    | none => rfl
    | some o => exact absurd (Heap.lt_size (F.keep _ _ q)) (Nat.not_lt.mpr (hS ▸ hb))
  have hLS : L < S := hS ▸ F.ns.lt
  have D : ZipApart (S + 4) (S + 2) (S + 3) S (S + 1) l1 l2 := by
    constructor <;> (refine neN ?_; have h1 : @LT.lt Nat _ l1 S := lt1; have h2 : @LT.lt Nat _ l2 S := lt2; omega)
  have mem : ∀ {b}, b ∈ [S + 4, S + 2, S + 3, S, S + 1] → S ≤ b ∧ b < S + 5 := fun {b} hb => by
    simp only [List.mem_cons, List.not_mem_nil, or_false] at hb
    have : @Eq Nat b (S + 4) ∨ @Eq Nat b (S + 2) ∨ @Eq Nat b (S + 3) ∨ @Eq Nat b S ∨ @Eq Nat b (S + 1) := hb
    show @LE.le Nat _ S b ∧ @LT.lt Nat _ b (S + 5)
    omega
  refine ⟨[S + 4, S + 2, S + 3, S, S + 1], fun i h => IsZip h (S + 4) (S + 2) (S + 3) .none ∧ IsPair h (S + 2) (.ref S) (.ref (S + 1)) ∧ (∃ a b, IsPair h (S + 3) a b) ∧ h.IsListIter S l1 i ∧ h.IsListIter (S + 1) l2 i ∧ h.IsList l1 xs ∧ h.IsList l2 ys, h', rfl, F.keeps hk, N.grown hk,
    ⟨hz, hTI, ⟨_, _, hTO⟩, hi1, hi2, ⟨lo1, hk _ _ e1, hc1, hd1⟩, ⟨lo2, hk _ _ e2, hc2, hd2⟩⟩, fun b hb => ?_, fun Q E hq => wpAny_pyIter_zip hz hq, ?_⟩
  · have hb' := mem hb
    exact ⟨Ne.symm (Nat.ne_of_lt (Nat.lt_of_lt_of_le hLS hb'.1)), by rw [hsz]; exact hb'.2, hin _ hb'.1, fun p hp => Nat.lt_of_lt_of_le (hS ▸ Heap.lt_size (N p hp).1) hb'.1⟩
  · intro x y env' px py k pos hx hy hp hC hs
    refine (Pulls.two (wr' := [S + 4, S + 2, S + 3, S, S + 1]) hh (WalksT.zip2 (A := A) hh (S + 4) (S + 2) (S + 3) S (S + 1) l1 l2 D xs ys) (fun i vals ⟨a, b, h1, h2, h3⟩ => ⟨_, _, h3⟩) hx hy hp ?_ ?_ ?_ ?_ ?_).mono_src ?_
    · intro hm
      simp only [List.mem_cons, List.not_mem_nil, or_false] at hm hC
      rcases hm with q | q | q | q | q | q | q
      · exact hC (.inl q)
      · exact hC (.inr (.inl q))
      · exact hC (.inr (.inr (.inl q)))
      · exact hC (.inr (.inr (.inr (.inl q))))
      · exact hC (.inr (.inr (.inr (.inr q))))
      · exact hs (l1, lo1) (.head _) q.symm
      · exact hs (l2, lo2) (.tail _ (.head _)) q.symm
    · rintro i h ⟨h1, h2, ⟨a, b', h3⟩, ⟨o4, h4, _⟩, ⟨o5, h5, _⟩, ⟨o6, h6, _⟩, ⟨o7, h7, _⟩⟩ b hb
      simp only [List.mem_cons, List.not_mem_nil, or_false] at hb
      rcases hb with rfl | rfl | rfl | rfl | rfl | rfl | rfl
      · exact Heap.lt_size h1
      · exact Heap.lt_size h2
      · exact Heap.lt_size h3
      · exact Heap.lt_size h4
      · exact Heap.lt_size h5
      · exact Heap.lt_size h6
      · exact Heap.lt_size h7
    · intro b hb
      simp only [List.mem_cons, List.not_mem_nil, or_false] at hb ⊢
      rcases hb with h | h | h | h
      · exact .inl h
      · exact .inr (.inr (.inl h))
      · exact .inr (.inr (.inr (.inl h)))
      · exact .inr (.inr (.inr (.inr h)))
    · rintro i h h' ⟨h1, h2, ⟨a, b', h3⟩, h4, h5, h6, h7⟩ hw hs
      exact ⟨hw _ (by simp) _ h1, hw _ (by simp) _ h2, ⟨a, b', hw _ (by simp) _ h3⟩, h4.at fun o e => hw _ (by simp) o e, h5.at fun o e => hw _ (by simp) o e, ⟨lo1, hs (l1, lo1) (by simp), hc1, hd1⟩, ⟨lo2, hs (l2, lo2) (by simp), hc2, hd2⟩⟩
    · rintro i h ⟨h1, h2, ⟨a, b', h3⟩, ⟨o4, h4, _⟩, ⟨o5, h5, _⟩, _⟩ b hb
      simp only [List.mem_cons, List.not_mem_nil, or_false] at hb
      rcases hb with rfl | rfl | rfl | rfl | rfl
      · exact ⟨_, h1⟩
      · exact ⟨_, h2⟩
      · exact ⟨_, h3⟩
      · exact ⟨_, h4⟩
      · exact ⟨_, h5⟩
    · rintro i m m' ⟨a, b, ⟨c, d, h1, h2, h3⟩, h4⟩
      have h3 := congrArg Array.toList h3
      simp only [List.cons.injEq, and_true] at h3
      exact ⟨a, b, ⟨h3.1 ▸ h1, h3.2 ▸ h2⟩, h4⟩

/-- for x, y in ..: by the turn's contract -/
theorem for_two {x y : Str} {px py : Pos} {k : Nat} {pos : Pos} {n : Nat} {P : Nat → Value → Value → Prop} {src : List (Addr × Obj)} {it : Value} {s₂ : Shared} {body : List Stmt} {Q : Flow → Shared → Prop} {R : Result → Shared → Prop}
    (H : Src2 w A h₀ L m news n P src s it s₂) (hL : env.locals = L) (hx : env.kindOf x = some .local) (hy : env.kindOf y = some .local) (hp : plain env) (J : Nat → (Str → Option Value) → List (Addr × Obj) → Prop) (hj : J 0 m news)
    (hsrc : ∀ p ∈ src, h₀.get? p.1 = some p.2 ∨ ∀ i m' nw, J i m' nw → p ∈ nw)
    (turn : ∀ i a b m₁ nw wr its h tk E', i < n → P i a b → J i m₁ nw → its.map (·.1) = wr → (∀ b ∈ wr, ∀ p ∈ news, p.1 < b) → (∀ p ∈ nw, ∀ b ∈ wr, p.1 ≠ b) → Fr h₀ L h (fun z => if z = y then some b else if z = x then some a else m₁ z) → News h₀ L h (its ++ nw) →
      wpAny (MM w) A (execs body env) (LoopEnd h₀ L its wr (J (i + 1)) { s with heap := h, toks := tk } Q) E' { s with heap := h, toks := tk })
    (done : ∀ m₁ nw h tk, J n m₁ nw → Fr h₀ L h m₁ → News h₀ L h nw → Q .next { s with heap := h, toks := tk })
    (hR : ∀ f s', Q f s' → R (.ok f) s') :
    codeAny (MM w) A (.forLoop (.Tuple [.Name x px, .Name y py] k pos) it body [] env) R s₂ := by
  obtain ⟨wr, St, h₂, rfl, F, N, st, hwr, hit, P'⟩ := H
  have hs : ∀ p ∈ src, p.1 ≠ env.locals := fun p hp q => by
    rcases hsrc p hp with h1 | h1
    · rw [q, hL] at h1
      exact absurd (Heap.lt_size h1) (Nat.not_lt.mpr F.above)
    · exact (N p (h1 _ _ _ hj)).2.1 (q.trans hL)
  refine for_all (P' x y env px py k pos hx hy hp (fun hm => (hwr _ hm).1 hL) hs) hL J F N st hj (fun b hb => ⟨(hwr b hb).1, (hwr b hb).2.2.1, fun p hp => Nat.ne_of_lt ((hwr b hb).2.2.2 p hp)⟩) hsrc ?_ (fun m₁ nw h tk => done m₁ nw h tk) hR
  intro i m₁ m₂ nw its h tk E' hi hJi hB he off F' N'
  obtain ⟨a, b, hP, rfl⟩ := hB
  exact turn i a b m₁ nw wr its h tk E' hi hP hJi he (fun b hb => (hwr b hb).2.2.2) off F' N'

/-- [elt for x, y in ..]: by the element's contract -/
theorem comp_two {x y : Str} {px py : Pos} {k : Nat} {pos : Pos} {n : Nat} {P : Nat → Value → Value → Prop} {src : List (Addr × Obj)} {it : Value} {s₂ : Shared} {elt : PySem.Expr} {cl : List (Str × Addr)} {scope : Scope} {Fin : Addr → List (Addr × Obj) → Shared → Prop}
    (H : Src2 w A h₀ L m news n P src s it s₂) (hx : scope.names.lookup x = some .local) (hy : scope.names.lookup y = some .local) (hxy : x ≠ y) (hkind : scope.kind = .function) (hn : n ≤ sizeLine) (J : Nat → List Value → List (Addr × Obj) → Prop) (hj : J 0 [] news)
    (hJ : ∀ i ys nw, J i ys nw → ys.length ≤ i) (hsrc : ∀ p ∈ src, h₀.get? p.1 = some p.2 ∨ ∀ i ys nw, J i ys nw → p ∈ nw)
    (turn : ∀ i a b wr its C oC D mC ys nw h tk E', i < n → P i a b → J i ys nw → LCg.NsObj oC mC → mC x = some a → mC y = some b → its.map (·.1) = wr → (C ≠ D ∧ ∀ b ∈ wr, b ≠ C ∧ b ≠ D) → (∀ p ∈ news, p.1 < D ∧ p.1 < C ∧ ∀ b ∈ wr, p.1 < b) →
      (∀ p ∈ nw, p.1 ≠ C ∧ p.1 ≠ D ∧ ∀ b ∈ wr, p.1 ≠ b) → Fr h₀ L h m → News h₀ L h (its ++ (C, oC) :: (D, LCg.lst ys) :: nw) →
      wpAny (MM w) A (eval elt (compEnvC scope cl C env)) (EltEnd h₀ L m its wr C D oC ys (J (i + 1)) { s with heap := h, toks := tk }) E' { s with heap := h, toks := tk })
    (fin : ∀ D ys nw h₂ tk₂, J n ys nw → (∀ p ∈ nw, p.1 ≠ D) → (∀ p ∈ news, p.1 < D) → Fin D ((D, LCg.lst ys) :: nw) { s with heap := h₂, toks := tk₂ }) :
    CompAt w A h₀ L m env cl scope (.Tuple [.Name x px, .Name y py] k pos) (B1 w A [] elt cl scope env) Fin it s₂ := by
  obtain ⟨wr, St, h₂, rfl, F, N, st, hwr, hit, P'⟩ := H
  refine ⟨wr, src, n, _, St, fun i _ ys nw => J i ys nw, news, fun C hC hs => P' x y (compEnvC scope cl C env) px py k pos (lookup_relabel_local hx) (lookup_relabel_local hy) (by simp [plain, compEnvC, relabel, hkind]) hC hs, st, F, N, hj,
    fun b hb => ⟨(hwr b hb).1, (hwr b hb).2.1, (hwr b hb).2.2.1, fun p hp => Nat.ne_of_lt ((hwr b hb).2.2.2 p hp)⟩, fun p hp => (hsrc p hp).imp id fun h i _ ys nw => h i ys nw, ?_, fun D ys nw mC hJ' => fin D ys nw h₂ _ hJ'⟩
  intro i C D mC₁ mC₂ oC ys nw its h tk E' hi hJi hB hoC he hCD hlt off F' N'
  obtain ⟨a, b, hP, rfl⟩ := hB
  refine elt_turn he hCD (Nat.lt_of_le_of_lt (hJ _ _ _ hJi) (Nat.lt_of_lt_of_le hi hn)) hoC ?_
  exact turn i a b wr its C oC D _ ys nw h tk E' hi hP hJi hoC (by simp [hxy]) (by simp) he hCD (fun p hp => ⟨(hlt p hp).1, (hlt p hp).2, fun b hb => (hwr b hb).2.2.2 p hp⟩) off F' N'
end pairs

end SP08
section SP09
section combo
variable {w : World} {A : Around} {env : Env} {L : Addr} {h₀ : Heap} {m : Str → Option Value} {news : List (Addr × Obj)} {s : Shared}
/-- an element's turn over one name -/
abbrev Turn1 (w : World) (A : Around) (env : Env) (h₀ : Heap) (L : Addr) (m : Str → Option Value) (news : List (Addr × Obj)) (s : Shared) (cl : List (Str × Addr)) (scope : Scope) (x : Str) (elt : PySem.Expr) (n : Nat) (P : Nat → Value → Prop) (J : Nat → List Value → List (Addr × Obj) → Prop) : Prop :=
  ∀ i v I oI C oC D mC ys nw h tk E', i < n → P i v → J i ys nw → LCg.NsObj oC mC → mC x = some v → (@Ne Nat I C ∧ @Ne Nat I D ∧ @Ne Nat C D) → (∀ p ∈ news, p.1 < D ∧ p.1 < C ∧ p.1 < I) →
      (∀ p ∈ nw, p.1 ≠ C ∧ p.1 ≠ D ∧ p.1 ≠ I) → Fr h₀ L h m → News h₀ L h ((I, oI) :: (C, oC) :: (D, LCg.lst ys) :: nw) →
      wpAny (MM w) A (eval elt (compEnvC scope cl C env)) (EltEnd h₀ L m [(I, oI)] [I] C D oC ys (J (i + 1)) { s with heap := h, toks := tk }) E' { s with heap := h, toks := tk }
abbrev Done1 (news : List (Addr × Obj)) (s : Shared) (n : Nat) (J : Nat → List Value → List (Addr × Obj) → Prop) (Fin : Addr → List (Addr × Obj) → Shared → Prop) : Prop :=
  ∀ D ys nw h₂ tk₂, J n ys nw → (∀ p ∈ nw, p.1 ≠ D) → (∀ p ∈ news, p.1 < D) → Fin D ((D, LCg.lst ys) :: nw) { s with heap := h₂, toks := tk₂ }

theorem comp_list {x : Str} {px : Pos} {l : Addr} {lo : Obj} {items : Array Value} {elt : PySem.Expr} {cl : List (Str × Addr)} {scope : Scope} {Fin : Addr → List (Addr × Obj) → Shared → Prop} {E : Value → Shared → Prop}
    (F : Fr h₀ L s.heap m) (N : News h₀ L s.heap news) (hh : A.handled = none) (hl : (l, lo) ∈ news ∨ h₀.get? l = some lo) (hc : lo.cls = .type "list") (hd : ∃ k, lo.data = .seq items k) (hx : scope.names.lookup x = some .local) (hkind : scope.kind = .function) (hn : items.size ≤ sizeLine)
    (J : Nat → List Value → List (Addr × Obj) → Prop) (hj : J 0 [] news) (hJ : ∀ i ys nw, J i ys nw → ys.length ≤ i) (hsrc : h₀.get? l = some lo ∨ ∀ i ys nw, J i ys nw → (l, lo) ∈ nw)
    (turn : Turn1 w A env h₀ L m news s cl scope x elt items.size (fun i v => items[i]? = some v) J) (fin : Done1 news s items.size J Fin) :
    wpAny (MM w) A (pyIter (.ref l)) (fun it s₂ => CompAt w A h₀ L m env cl scope (.Name x px) (B1 w A [] elt cl scope env) Fin it s₂) E s :=
  wpAny_mono (src1_list (x := x) hh F N hl hc hd) (fun it s₂ H => comp_one H hx hkind hn J hj hJ (fun p hp => by rw [List.mem_singleton.mp hp]; exact hsrc) turn fin) fun _ _ e => e
theorem comp_range {x : Str} {px : Pos} {r : Addr} {a b : Int} {t u v : Tok} {n : Nat} {elt : PySem.Expr} {cl : List (Str × Addr)} {scope : Scope} {Fin : Addr → List (Addr × Obj) → Shared → Prop} {E : Value → Shared → Prop}
    (F : Fr h₀ L s.heap m) (N : News h₀ L s.heap news) (hh : A.handled = none) (hr : IsRange s.heap r a b 1 t u v) (hsm : Builtin.Range.small a b 1 = true) (hrs : Builtin.Range.rangeSize a b 1 = ((n : Nat) : Int)) (hx : scope.names.lookup x = some .local) (hkind : scope.kind = .function) (hn : n ≤ sizeLine)
    (J : Nat → List Value → List (Addr × Obj) → Prop) (hj : J 0 [] news) (hJ : ∀ i ys nw, J i ys nw → ys.length ≤ i)
    (turn : Turn1 w A env h₀ L m news s cl scope x elt n (fun i v => ∃ t, v = .int (a + (i : Int)) t) J) (fin : Done1 news s n J Fin) :
    wpAny (MM w) A (pyIter (.ref r)) (fun it s₂ => CompAt w A h₀ L m env cl scope (.Name x px) (B1 w A [] elt cl scope env) Fin it s₂) E s :=
  wpAny_mono (src1_range (x := x) hh F N hr hsm hrs) (fun it s₂ H => comp_one H hx hkind hn J hj hJ (fun p hp => nomatch hp) turn fin) fun _ _ e => e
theorem comp_str {x : Str} {px : Pos} {tx : Str} {t : Tok} {elt : PySem.Expr} {cl : List (Str × Addr)} {scope : Scope} {Fin : Addr → List (Addr × Obj) → Shared → Prop} {E : Value → Shared → Prop}
    (F : Fr h₀ L s.heap m) (N : News h₀ L s.heap news) (hh : A.handled = none) (ha : tx.cps.all (· < 128) = true) (hx : scope.names.lookup x = some .local) (hkind : scope.kind = .function) (hn : tx.cps.size ≤ sizeLine)
    (J : Nat → List Value → List (Addr × Obj) → Prop) (hj : J 0 [] news) (hJ : ∀ i ys nw, J i ys nw → ys.length ≤ i)
    (turn : Turn1 w A env h₀ L m news s cl scope x elt tx.cps.size (SignAt tx) J) (fin : Done1 news s tx.cps.size J Fin) :
    wpAny (MM w) A (pyIter (.str tx t)) (fun it s₂ => CompAt w A h₀ L m env cl scope (.Name x px) (B1 w A [] elt cl scope env) Fin it s₂) E s :=
  wpAny_mono (src1_str (x := x) hh ha F N) (fun it s₂ H => comp_one H hx hkind hn J hj hJ (fun p hp => nomatch hp) turn fin) fun _ _ e => e

/-- a turn over one name -/
abbrev TurnF (w : World) (A : Around) (env : Env) (h₀ : Heap) (L : Addr) (news : List (Addr × Obj)) (s : Shared) (x : Str) (body : List Stmt) (n : Nat) (P : Nat → Value → Prop) (J : Nat → (Str → Option Value) → List (Addr × Obj) → Prop) (Q : Flow → Shared → Prop) : Prop :=
  ∀ i v I oI m₁ nw h tk E', i < n → P i v → J i m₁ nw → (∀ p ∈ news, p.1 < I) → (∀ p ∈ nw, p.1 ≠ I) → Fr h₀ L h (fun y => if y = x then some v else m₁ y) → News h₀ L h ((I, oI) :: nw) →
      wpAny (MM w) A (execs body env) (LoopEnd h₀ L [(I, oI)] [I] (J (i + 1)) { s with heap := h, toks := tk } Q) E' { s with heap := h, toks := tk }
abbrev DoneF (h₀ : Heap) (L : Addr) (s : Shared) (n : Nat) (J : Nat → (Str → Option Value) → List (Addr × Obj) → Prop) (Q : Flow → Shared → Prop) : Prop :=
  ∀ m₁ nw h tk, J n m₁ nw → Fr h₀ L h m₁ → News h₀ L h nw → Q .next { s with heap := h, toks := tk }
theorem for_list {x : Str} {px : Pos} {l : Addr} {lo : Obj} {items : Array Value} {body : List Stmt} {Q : Flow → Shared → Prop} {E X : Value → Shared → Prop}
    (F : Fr h₀ L s.heap m) (N : News h₀ L s.heap news) (hh : A.handled = none) (hl : (l, lo) ∈ news ∨ h₀.get? l = some lo) (hc : lo.cls = .type "list") (hd : ∃ k, lo.data = .seq items k) (hL : env.locals = L) (hx : env.kindOf x = some .local) (hp : plain env)
    (J : Nat → (Str → Option Value) → List (Addr × Obj) → Prop) (hj : J 0 m news) (hsrc : h₀.get? l = some lo ∨ ∀ i m' nw, J i m' nw → (l, lo) ∈ nw)
    (turn : TurnF w A env h₀ L news s x body items.size (fun i v => items[i]? = some v) J Q) (done : DoneF h₀ L s items.size J Q) :
    wpAny (MM w) A (pyIter (.ref l)) (fun it s₂ => codeAny (MM w) A (.forLoop (.Name x px) it body [] env) (fun r s' => match r with | .ok f => Q f s' | .error e => X e s') s₂) E s :=
  wpAny_mono (src1_list (x := x) hh F N hl hc hd) (fun it s₂ H => for_one H hL hx hp J hj (fun p hp => by rw [List.mem_singleton.mp hp]; exact hsrc) turn done fun _ _ h => h) fun _ _ e => e
theorem for_range {x : Str} {px : Pos} {r : Addr} {a b : Int} {t u v : Tok} {n : Nat} {body : List Stmt} {Q : Flow → Shared → Prop} {E X : Value → Shared → Prop}
    (F : Fr h₀ L s.heap m) (N : News h₀ L s.heap news) (hh : A.handled = none) (hr : IsRange s.heap r a b 1 t u v) (hsm : Builtin.Range.small a b 1 = true) (hrs : Builtin.Range.rangeSize a b 1 = ((n : Nat) : Int)) (hL : env.locals = L) (hx : env.kindOf x = some .local) (hp : plain env)
    (J : Nat → (Str → Option Value) → List (Addr × Obj) → Prop) (hj : J 0 m news)
    (turn : TurnF w A env h₀ L news s x body n (fun i v => ∃ t, v = .int (a + (i : Int)) t) J Q) (done : DoneF h₀ L s n J Q) :
    wpAny (MM w) A (pyIter (.ref r)) (fun it s₂ => codeAny (MM w) A (.forLoop (.Name x px) it body [] env) (fun r s' => match r with | .ok f => Q f s' | .error e => X e s') s₂) E s :=
  wpAny_mono (src1_range (x := x) hh F N hr hsm hrs) (fun it s₂ H => for_one H hL hx hp J hj (fun p hp => nomatch hp) turn done fun _ _ h => h) fun _ _ e => e
theorem slice_mine {value slice : PySem.Expr} {l : Addr} {items : Array Value} {vl vu vk : Value} {lo hi st : Option Int} {ops : List Value} {Q E : Value → Shared → Prop}
    (F : Fr h₀ L s.heap m) (N : News h₀ L s.heap news) (hl : s.heap.IsList l items) (pl : IsPart vl lo) (pu : IsPart vu hi) (pk : IsPart vk st) (h0 : st ≠ some 0)
    (h : ∀ D h', Fr h₀ L h' m → News h₀ L h' ((D, W.listOf (slicePick items lo hi st) 0) :: news) → (∀ p ∈ news, p.1 < D) → Q (.ref D) { s with heap := h' })
    (hs : subscripted slice false (.ref l) (.ref s.heap.objs.size) = operate ops (getItem (.ref l) (.ref s.heap.objs.size)))
    (ht : ∀ r, letTemporaryGo value (.ref l) r = pure ())
    (hsz : items.size ≤ sizeLine) :
    wpAny (MM w) A (subscriptTail value slice (.ref l) (.ref s.heap.objs.size)) Q E { s with heap := s.heap.push { cls := .type "slice", data := .fields #[vl, vu, vk] } } :=
  slice_list3 F N hl pl pu pk h0 (fun h' F' N' => h _ h' F' N' fun p hp => Nat.lt_succ_of_lt (Heap.lt_size (N p hp).1)) hs ht hsz
end combo

end SP09
section SP10
section ltlist
open PySem.SeqAt AutoSeq1 MeetsSeq MeetsSeq2 MeetsSeq3 SeqRoads2
def ltInts : List Int → List Int → Bool
  | [], [] => false
  | [], _ :: _ => true
  | _ :: _, [] => false
  | a :: r, b :: q => if a = b then ltInts r q else decide (a < b)
theorem ints_at {vs : List Value} {ns : List Int} (h : IntsAre vs ns) (i : Nat) (hi : i < vs.length) : ∃ t, vs[i]? = some (.int (ns[i]'(by rw [h.length] at hi; exact hi)) t) :=
  h.get i _ (by simp)
theorem lt_loop (l b : Addr) (vs us : List Value) (ns ms : List Int) (h1 : IntsAre vs ns) (h2 : IntsAre us ms) (n n2 : Nat) (dd dd2 : Option Addr) (sl sl2 : Array (Option Value)) (k : Nat) :
    ∀ i : Nat, vs.length - i = k → i ≤ vs.length → Meets (Builtin.«list.__eq__.loop» ⟨[.ref l, .ref b, rawInt i, rawInt 0], []⟩)
      (fun A R s => s.heap.get? l = some { cls := .type "list", dict := dd, data := .seq vs.toArray n, slots := sl } ∧ s.heap.get? b = some { cls := .type "list", dict := dd2, data := .seq us.toArray n2, slots := sl2 } ∧
        i ≤ us.length ∧ R (.ok (.ret (.bool (ltInts (ns.drop i) (ms.drop i))))) s) := by
  have e1 := h1.length
  have e2 := h2.length
  induction k with
  | zero =>
    intro i hk hi prog w A R s h
    obtain ⟨hp, g, d, tk, os⟩ := s; obtain ⟨hl, hb, hi2, h⟩ := h
    wp_walk using wpAny_loadPart' hl, wpAny_loadPart' hb
    have hi1 : vs.toArray[((i : Nat) : Int).toNat]? = none := by simp; omega
    have hd : ns.drop i = [] := by simp; omega
    rw [hd] at h
    rw [hi1]
    wp_walk using wpAny_loadPart' hl, wpAny_loadPart' hb
    show R (.ok (.ret (.bool (decide (vs.toArray.size < us.toArray.size))))) _
    have hv : i = vs.length := by omega
    subst hv
    cases hq : ms.drop vs.length with
    | nil =>
      rw [hq] at h
      have : ¬ vs.length < us.length := by
        have := congrArg List.length hq
        simp at this; omega
      simpa [this, ltInts] using h
    | cons a r =>
      rw [hq] at h
      have : vs.length < us.length := by
        have := congrArg List.length hq
        simp at this; omega
      simpa [this, ltInts] using h
  | succ k ih =>
    intro i hk hi prog w A R s h
    obtain ⟨hp, g, d, tk, os⟩ := s; obtain ⟨hl, hb, hi2, h⟩ := h
    wp_walk using wpAny_loadPart' hl, wpAny_loadPart' hb
    have hlt : i < vs.length := by omega
    obtain ⟨t1, g1⟩ := ints_at h1 i hlt
    have hi1 : vs.toArray[((i : Nat) : Int).toNat]? = some (.int (ns[i]'(by omega)) t1) := by simpa using g1
    rw [hi1]
    have hn : ns.drop i = ns[i]'(by omega) :: ns.drop (i + 1) := List.drop_eq_getElem_cons (by omega)
    have hc : ((i : Int) + 1) = ((i + 1 : Nat) : Int) := by push_cast; rfl
    by_cases hlt2 : i < us.length
    · obtain ⟨t2, g2⟩ := ints_at h2 i hlt2
      have hi2' : us.toArray[((i : Nat) : Int).toNat]? = some (.int (ms[i]'(by omega)) t2) := by simpa using g2
      have hm : ms.drop i = ms[i]'(by omega) :: ms.drop (i + 1) := List.drop_eq_getElem_cons (by omega)
      rw [hn, hm] at h
      rw [hi2']
      generalize ns[i]'(by omega) = x at *
      generalize ms[i]'(by omega) = y at *
      refine wpAny_bind (EqAt.int_int x t1 y t2 prog w _ _ ?_)
      by_cases hxy : x = y
      · subst hxy
        simp only [ltInts, if_true] at h
        rw [show (x == x) = true from beq_self_eq_true x]
        wp_walk
        rw [hc]
        exact ⟨plainId_quiet plain_eq_loop _, codeAny_builtin entry_eq_loop (by
          rw [Around.under_plainId plain_eq_loop _]
          exact ih (i + 1) (by omega) hlt prog w A R _ ⟨hl, hb, hlt2, h⟩)⟩
      · simp only [ltInts, if_neg hxy] at h
        rw [show (x == y) = false from beq_eq_false_iff_ne.mpr hxy]
        wp_walk using wpAny_loadPart' hl, wpAny_loadPart' hb
        rw [hi1, hi2']
        dsimp only
        refine wpAny_bind (PyProof.Rows.lt_int ?_)
        exact wpAny_pure h
    · have hi2' : us.toArray[((i : Nat) : Int).toNat]? = none := by simp; omega
      have hm : ms.drop i = [] := by simp; omega
      rw [hn, hm] at h
      rw [hi2']
      wp_walk using wpAny_loadPart' hl, wpAny_loadPart' hb
      show R (.ok (.ret (.bool (decide (vs.toArray.size < us.toArray.size))))) _
      have : ¬ vs.length < us.length := by omega
      simpa [this, ltInts] using h
theorem list_lt_meets (l b : Addr) (vs us : List Value) (ns ms : List Int) (h1 : IntsAre vs ns) (h2 : IntsAre us ms) (n n2 : Nat) (dd dd2 : Option Addr) (sl sl2 : Array (Option Value)) :
    Meets (Builtin.«list.__lt__» ⟨[.ref l, .ref b], []⟩)
      (fun A R s => s.heap.get? l = some { cls := .type "list", dict := dd, data := .seq vs.toArray n, slots := sl } ∧ s.heap.get? b = some { cls := .type "list", dict := dd2, data := .seq us.toArray n2, slots := sl2 } ∧
        R (.ok (.ret (.bool (ltInts ns ms)))) s) := by
  intro prog w A R s h
  obtain ⟨hp, g, d, tk, os⟩ := s; obtain ⟨hl, hb, h⟩ := h
  have f3 := AutoSeq1.sub_list_list
  wp_walk using wpAny_loadPart' hl, wpAny_loadPart' hb
  exact ⟨plainId_quiet plain_eq_loop _, codeAny_builtin entry_eq_loop (by
    rw [Around.under_plainId plain_eq_loop _]
    exact lt_loop l b vs us ns ms h1 h2 n n2 dd dd2 sl sl2 _ 0 rfl (Nat.zero_le _) prog w A R _ ⟨hl, hb, Nat.zero_le _, by simpa using h⟩)⟩
theorem lt_intsK {prog : Program} {w : World} {A : Around} {E : Value → Shared → Prop} {s : Shared} {a b : Addr} {vs us : List Value} {ns ms : List Int} {Q : Value → Shared → Prop} (hl : s.heap.IsList a vs.toArray) (hi : IntsAre vs ns) (hl' : s.heap.IsList b us.toArray) (hi' : IntsAre us ms) (hu : A.units + 64 < cLine)
    (h : Q (.bool (ltInts ns ms)) s) : wpAny (model prog w) A (compareOp .Lt (.ref a) (.ref b)) Q E s := by
  obtain ⟨⟨cls, dd, data, sl⟩, ho, hc, n, hd⟩ := id hl
  obtain ⟨⟨cls2, dd2, data2, sl2⟩, ho2, hc2, n2, hd2⟩ := id hl'
  simp only at hc hd hc2 hd2
  subst hc hd hc2 hd2
  refine cmp_ofLt ?_
  exact richCompare_meets_room (op := .Lt) ⟨_, ho, rfl⟩ ⟨_, ho2, rfl⟩ F.slot_list_lt F.entry_list_lt (F.args_list_lt_2 _ _) (list_lt_meets a b vs us ns ms hi hi' n n2 dd dd2 sl sl2)
    ⟨ho, ho2, show Value.bool (ltInts ns ms) ≠ Value.notImplemented ∧ Q (.bool (ltInts ns ms)) s from ⟨(fun x => nomatch x), h⟩⟩ (by omega)
end ltlist

end SP10
theorem rstP11 : True ∧ True := by
  w_top off
  first
    | (walk1; done)
    | exact ⟨trivial, trivial⟩
section SP11
section beside
variable {w : World} {A : Around} {env : Env} {L : Addr} {h₀ : Heap} {m : Str → Option Value} {news : List (Addr × Obj)} {k : Nat} {s : Shared} {Q E : Value → Shared → Prop}
def cpInts (x : Str) : List Int := x.cps.toList.map Int.ofNat
theorem intsAre_snoc {vs : List Value} {ns : List Int} {i : Int} {t : Tok} (h : IntsAre vs ns) : IntsAre (vs ++ [.int i t]) (ns ++ [i]) := h.append (.cons i t .nil)
theorem cpInts_succ {x : Str} {i c : Nat} (h : x.cps[i]? = some c) : (cpInts x).take (i + 1) = (cpInts x).take i ++ [(c : Int)] := by
  have h' : x.cps.toList[i]? = some c := by rw [Array.getElem?_toList]; exact h
  unfold cpInts
  rw [List.take_add_one, List.getElem?_map, h']
  rfl
theorem off_one {nw : List (Addr × Obj)} {C D I : Addr} (h : ∀ p ∈ nw, p.1 ≠ C ∧ p.1 ≠ D ∧ p.1 ≠ I) : ∀ p ∈ nw, p.1 ≠ C ∧ p.1 ≠ D ∧ ∀ b ∈ [I], p.1 ≠ b :=
  fun p hp => ⟨(h p hp).1, (h p hp).2.1, fun b hb => by rw [List.mem_singleton.mp hb]; exact (h p hp).2.2⟩
local macro_rules | `(tactic| walk_at "eval ListComp") => `(tactic| k_extra "my z41")
local macro_rules | `(tactic| walk_at "compareOp Lt ref ref") => `(tactic| k_extra "my z42")
/-- how two words lie to each other, by their code points -/
def beside (x y : Str) : Int := if cpInts x = cpInts y then 0 else if ltInts (cpInts x) (cpInts y) = true then -1 else 1
theorem beside_spec {x y : Str} {tx ty : Tok} (hx : x.cps.all (· < 128) = true) (hy : y.cps.all (· < 128) = true) (lx : x.cps.size ≤ 100) (ly : y.cps.size ≤ 100) (S : Sit w A env L h₀ s.heap m news (k + 2))
    (hret : Ret h₀ L m news s Q (.int (beside x y))) :
    wpAny (model PySem.Challenge.pw_tp0016_01 w) A (call (.ref 156) [.str x tx, .str y ty]) Q E s := by
  walk_at "my open"
  walk_at "my enter"
  have big : 100 ≤ sizeLine := by decide
  k_steps
  refine' comp_str ?F ?N ?hh hx ?hx ?hk ?hn (fun i ys nw => nw = news ∧ IntsAre ys ((cpInts x).take i) ∧ ys.length ≤ i) ⟨rfl, .nil, Nat.le_refl _⟩ (fun i ys nw h => h.2.2) ?turn ?fin
  case F => k_asm
  case N => k_asm
  case hh => rfl
  case hx => rfl
  case hk => rfl
  case hn => exact Nat.le_trans lx big
  case turn =>
    rintro i v I oI C oC D mC ys nw h tk E' hi ⟨c, u, hc, rfl⟩ ⟨rfl, hI, hl⟩ hoC hv hne hlt hoff F N
    have hoff := off_one hoff
    k_steps
    walk_at "my elt"
    exact ⟨rfl, by rw [cpInts_succ hc]; exact intsAre_snoc hI, by rw [List.length_append]; exact Nat.succ_le_succ hl⟩
  case fin =>
    rintro D ys nw h₂ tk₂ ⟨rfl, hI, hl⟩ hoff hlt h tk F N
    dsimp only
    k_steps
    refine' comp_str ?F ?N ?hh hy ?hx ?hk ?hn (fun i ys' nw' => nw' = (D, LCg.lst ys) :: nw ∧ IntsAre ys' ((cpInts y).take i) ∧ ys'.length ≤ i) ⟨rfl, .nil, Nat.le_refl _⟩ (fun i ys nw h => h.2.2) ?turn ?fin
    case F => k_asm
    case N => k_asm
    case hh => rfl
    case hx => rfl
    case hk => rfl
    case hn => exact Nat.le_trans ly big
    case turn =>
      rintro i v I oI C oC D mC ys nw h tk E' hi ⟨c, u, hc, rfl⟩ ⟨rfl, hI, hl⟩ hoC hv hne hlt hoff F N
      have hoff := off_one hoff
      k_steps
      walk_at "my elt"
      exact ⟨rfl, by rw [cpInts_succ hc]; exact intsAre_snoc hI, by rw [List.length_append]; exact Nat.succ_le_succ hl⟩
    case fin =>
      rintro D' ys' nw' h₂' tk₂' ⟨rfl, hI', hl'⟩ hoff' hlt' h' tk' F' N'
      dsimp only
      have e1 : x.cps.size = (cpInts x).length := by simp [cpInts]
      have e2 : y.cps.size = (cpInts y).length := by simp [cpInts]
      rw [e1, List.take_length] at hI
      rw [e2, List.take_length] at hI'
      k_steps
      all_goals exact ret_int hret (by unfold beside; simp_all) (by assumption) (by assumption) (by walk_at "my sub")
end beside

end SP11
section W2
local macro_rules | `(tactic| walk_at "exec For Tuple Call cons nil") => `(tactic| k_extra "my z19")
local macro_rules | `(tactic| walk_at "exec For Tuple Call") => `(tactic| k_extra "my z20")
local macro_rules | `(tactic| walk_at "exec For Name Call cons nil") => `(tactic| k_extra "my z21")
local macro_rules | `(tactic| walk_at "exec For Name Call") => `(tactic| k_extra "my z22")
local macro_rules | `(tactic| walk_at "exec For Name Name") => `(tactic| k_extra "my z23")
local macro_rules | `(tactic| walk_at "exec For Name Subscript") => `(tactic| k_extra "my z24")
local macro_rules | `(tactic| walk_at "exec For Name Tuple") => `(tactic| k_extra "my z25")
local macro_rules | `(tactic| walk_at "exec For Name") => `(tactic| k_extra "my z26")
local macro_rules | `(tactic| walk_at "exec For Tuple") => `(tactic| k_extra "my z27")
local macro_rules | `(tactic| walk_at "my next") => `(tactic| k_extra "my z28")
local macro_rules | `(tactic| walk_at "my slice") => `(tactic| (k_extra "my z29"; intro D' h' F' N' l1'; (try k_lt l1'); (try dsimp only)))
local macro_rules | `(tactic| walk_at "subscriptTail Name Slice ref ref") => `(tactic| walk_at "my slice")
local macro_rules | `(tactic| walk_at "subscriptTail Call Slice ref ref") => `(tactic| walk_at "my slice")
local macro_rules | `(tactic| walk_at "my isl0") => `(tactic| k_extra "my z30")
local macro_rules | `(tactic| walk_at "my room2") => `(tactic| k_extra "my z31")
local macro_rules | `(tactic| walk_at "my enter0") => `(tactic| (k_extra "my z32"; intro g' L' h' FG' F' N' B' X' T'; (try dsimp only)))
local macro_rules | `(tactic| walk_at "my cls") => `(tactic| (k_here; k_dflt (k_extra "my z33"; intro x' d' h' F' N' l1 l2; (try k_lt l1); (try k_lt2 l2); (try k_sweep); walk_at "my enter0")))
theorem rstP12 : True ∧ True := by
  w_top off
  first
    | (walk1; done)
    | exact ⟨trivial, trivial⟩
section SP12
section product
variable {w : World} {A : Around} {env : Env} {L : Addr} {h₀ : Heap} {m : Str → Option Value} {news : List (Addr × Obj)} {k : Nat} {s : Shared} {Q E : Value → Shared → Prop}
theorem sorted_mine {l : Addr} {vs : List Value} {ns : List Int} (F : Fr h₀ L s.heap m) (N : News h₀ L s.heap news) (hl : s.heap.IsList l vs.toArray) (hI : IntsAre vs ns) (h64 : ns.length < 64)
    (h : ∀ (D : Addr) (h' : Heap) (vs' : List Value) (ns' : List Int) (e : Nat), Fr h₀ L h' m → News h₀ L h' ((D, seqObj "list" vs'.toArray e) :: news) → (∀ p ∈ news, p.1 < D) →
      IntsAre vs' ns' → ns'.Perm ns → ns'.Pairwise (· ≤ ·) → Q (.ref D) { s with heap := h' }) :
    wpAny (MM w) A (call (.builtin "sorted") [.ref l]) Q E s :=
  sorted_N F N hl hI (by rw [hI.length]; exact h64) fun h' vs' ns' e F' N' a b c => h _ h' vs' ns' e F' N' (fun p hp => Nat.lt_succ_of_lt (Heap.lt_size (N p hp).1)) a b c
local macro_rules | `(tactic| walk_at "call builtin:sorted") => `(tactic| (k_extra "my z43"; intro D' h' vs' ns' e' F' N' l1' i' p' o'; (try dsimp only)))
/-- the product over the sorted heights' first i -/
def prodUp (x : Int) (hs : List Int) : Nat → Int
  | 0 => 24
  | i + 1 => prodUp x hs i * (x + hs.getD i 0 - i)
theorem product_spec {l : Addr} {vs : List Value} {hs : List Int} {n : Nat} {x : Int} {tx : Tok} (hl : (l, ({ cls := .type "list", data := .seq vs.toArray n } : Obj)) ∈ news) (hi : IntsAre vs hs) (h4 : hs.length = 4) (hh : ∀ h ∈ hs, 0 ≤ h ∧ h ≤ 4) (hx : 0 ≤ x ∧ x ≤ 4)
    (S : Sit w A env L h₀ s.heap m news (k + 2))
    (hret : ∀ hs' : List Int, hs'.Perm hs → hs'.Pairwise (· ≤ ·) → Ret h₀ L m news s Q (.int (prodUp x hs' 4))) :
    wpAny (model PySem.Challenge.pw_tp0016_01 w) A (call (.ref 168) [.ref l, .int x tx]) Q E s := by
  walk_at "my open"
  walk_at "my enter"
  k_steps
  rename_i D' h' vs' hs' e' F' N' l1 hi' hp ho e₁ s₁ H
  have h4' : hs'.length = 4 := hp.length_eq.trans h4
  have hsz : vs'.toArray.size = 4 := by rw [List.size_toArray, hi'.length, h4']
  refine wpAny_mono (Src2.iter H) (fun it s₂ H2 => ?_) fun _ _ e => e
  have hb : ∀ i, i ≤ 4 → (prodUp x hs' i).natAbs ≤ 24 * 8 ^ i := by
    intro i hi4
    induction i with
    | zero => exact Nat.le_refl _
    | succ i ih =>
      have ih := ih (by omega)
      have hm : hs'.getD i 0 ∈ hs' := by
        rw [List.getD_eq_getElem?_getD, List.getElem?_eq_getElem (by omega)]; exact List.getElem_mem _
      have h1 := hh _ (hp.mem_iff.mp hm)
      have h2 : (x + hs'.getD i 0 - i).natAbs ≤ 8 := by omega
      rw [prodUp, Int.natAbs_mul, Nat.pow_succ, ← Nat.mul_assoc]
      exact Nat.mul_le_mul ih h2
  refine' for_two H2 rfl rfl rfl rfl (fun i m' nw => nw = (D', seqObj "list" vs'.toArray e') :: news ∧ m' "x" = some (.int x tx) ∧ ∃ t, m' "whole" = some (.int (prodUp x hs' i) t)) ⟨rfl, rfl, _, rfl⟩ ?hsrc ?turn ?done (fun _ _ h => h)
  case hsrc => intro p hp; rw [List.mem_singleton.mp hp]; exact .inr fun i m' nw h => by rw [h.1]; exact .head _
  case turn =>
    rintro i a b m₁ nw wr its h tk E' hi ⟨t, rfl, hvb⟩ ⟨rfl, hmx, t', hmw⟩ he hlt off F N
    rw [hsz] at hi
    obtain ⟨tb, hb2⟩ := ints_at hi' i (by have := hi'.length; omega)
    have hgd : hs'.getD i 0 = hs'[i]'(by omega) := by rw [List.getD_eq_getElem?_getD, List.getElem?_eq_getElem (by omega)]; rfl
    have hbv : b = .int (hs'.getD i 0) tb := by
      have : vs'[i]? = some b := by simpa using hvb
      rw [hb2] at this
      rw [hgd]; exact (Option.some.inj this).symm
    subst hbv
    have hw := hb i (by omega)
    have hw2 : (prodUp x hs' i).natAbs < 2 ^ 60 := Nat.lt_of_le_of_lt hw (by have : 8 ^ i ≤ 8 ^ 4 := Nat.pow_le_pow_right (by omega) (by omega); omega)
    have hm : hs'.getD i 0 ∈ hs' := by
      rw [hgd]; exact List.getElem_mem _
    have h1 := hh _ (hp.mem_iff.mp hm)
    have hf : (x + hs'.getD i 0 - i).natAbs < 2 ^ 60 := by omega
    have hnext : prodUp x hs' (i + 1) = prodUp x hs' i * (x + hs'.getD i 0 - i) := rfl
    generalize hs'.getD i 0 = hgt at *
    generalize prodUp x hs' i = whole at *
    k_steps
    walk_at "my next"
    exact ⟨rfl, by walk_at "my look", _, by rw [hnext]; walk_at "my look"⟩
  case done =>
    rintro m₁ nw h tk ⟨rfl, hmx, t', hmw⟩ F N
    rw [hsz] at hmw
    k_steps
    exact ret_int (hret _ hp ho) rfl (by assumption) (by assumption) (by walk_at "my sub")
end product

end SP12
theorem rstP13 : True ∧ True := by
  w_top off
  first
    | (walk1; done)
    | exact ⟨trivial, trivial⟩
section SP13
section taken
variable {w : World} {A : Around} {env : Env} {L : Addr} {h₀ : Heap} {m : Str → Option Value} {news : List (Addr × Obj)} {k : Nat} {s : Shared} {Q E : Value → Shared → Prop}
local macro_rules | `(tactic| walk_at "call ref") => `(tactic| (k_here; k_dflt (k_extra "my z44"; intro t' h' tk' F' N'; (try dsimp only))))
local macro_rules | `(tactic| walk_at "call ref") => `(tactic| (k_here; k_dflt (k_extra "my z45"; intro t' h' tk' F' N'; (try dsimp only))))
local macro_rules | `(tactic| walk_at "call ref") => `(tactic| (k_here; k_dflt (k_extra "my z46"; intro t' h' tk' F' N'; (try dsimp only))))
/-- p times y, y - 1, .., j of them -/
def fall (p y : Int) : Nat → Int
  | 0 => p
  | j + 1 => fall p y j * (y - j)
def takenUp (ts : List Int) (x : Int) : Nat → Int
  | 0 => 0
  | i + 1 => takenUp ts x i + fall (ts.getD i 0) (x + i) 4
theorem taken_spec {l : Addr} {vs : List Value} {ts : List Int} {n : Nat} {x : Int} {tx : Tok} (hl : (l, ({ cls := .type "list", data := .seq vs.toArray n } : Obj)) ∈ news) (hi : IntsAre vs ts) (h5 : ts.length = 5) (hh : ∀ h ∈ ts, 0 ≤ h ∧ h ≤ 24) (hx : 0 ≤ x ∧ x ≤ 4)
    (S : Sit w A env L h₀ s.heap m news (k + 2))
    (hret : Ret h₀ L m news s Q (.int (takenUp ts x 5))) :
    wpAny (model PySem.Challenge.pw_tp0016_01 w) A (call (.ref 151) [.ref l, .int x tx]) Q E s := by
  walk_at "my open"
  walk_at "my enter"
  k_steps
  rename_i e₁ s₁ H
  have hsz : vs.toArray.size = 5 := by rw [List.size_toArray, hi.length, h5]
  refine wpAny_mono (Src2.iter H) (fun it s₂ H2 => ?_) fun _ _ e => e
  have hb : ∀ p y : Int, 0 ≤ p ∧ p ≤ 24 → 0 ≤ y ∧ y ≤ 8 → ∀ j, j ≤ 4 → (fall p y j).natAbs ≤ 24 * 8 ^ j := by
    intro p y hp hy j hj
    induction j with
    | zero => unfold fall; omega
    | succ j ih =>
      have ih := ih (by omega)
      rw [fall, Int.natAbs_mul, Nat.pow_succ, ← Nat.mul_assoc]
      exact Nat.mul_le_mul ih (by omega)
  refine' for_two H2 rfl rfl rfl rfl (fun i m' nw => nw = news ∧ m' "x" = some (.int x tx) ∧ ∃ t, m' "whole" = some (.int (takenUp ts x i) t)) ⟨rfl, rfl, _, rfl⟩ ?hsrc ?turn ?done (fun _ _ h => h)
  case hsrc => intro p hp; rw [List.mem_singleton.mp hp]; exact .inr fun i m' nw h => by rw [h.1]; exact hl
  case turn =>
    rintro i a b m₁ nw wr its h tk E' hi' ⟨t, rfl, hvb⟩ ⟨rfl, hmx, t', hmw⟩ he hlt off F N
    rw [hsz] at hi'
    obtain ⟨tb, hb2⟩ := ints_at hi i (by have := hi.length; omega)
    have hgd : ts.getD i 0 = ts[i]'(by omega) := by rw [List.getD_eq_getElem?_getD, List.getElem?_eq_getElem (by omega)]; rfl
    have hbv : b = .int (ts.getD i 0) tb := by
      have : vs[i]? = some b := by simpa using hvb
      rw [hb2] at this
      rw [hgd]; exact (Option.some.inj this).symm
    subst hbv
    have hm : ts.getD i 0 ∈ ts := by
      rw [hgd]; exact List.getElem_mem _
    have h1 := hh _ hm
    have hbi := hb (ts.getD i 0) (x + i) h1 (by omega)
    have hnext : takenUp ts x (i + 1) = takenUp ts x i + fall (ts.getD i 0) (x + i) 4 := rfl
    generalize ts.getD i 0 = p₀ at *
    generalize takenUp ts x i = whole at *
    k_steps
    refine' for_range (n := 4) ?F2 ?N2 rfl (by assumption) (by decide) (by decide) rfl rfl rfl (fun j m' nw' => nw' = its ++ nw ∧ m' "x" = some (.int x tx) ∧ m' "fits" = some (.int i t) ∧ m' "whole" = some (.int whole t') ∧ ∃ t, m' "part" = some (.int (fall p₀ (x + i) j) t)) ?hj2 ?turn2 ?done2
    case F2 => k_asm
    case N2 => k_asm
    case hj2 => exact ⟨rfl, by walk_at "my look", by walk_at "my look", by walk_at "my look", _, by walk_at "my look"⟩
    case turn2 =>
      rintro j v I oI m₂ nw₂ h₂ tk₂ E₂ hj ⟨t₂, rfl⟩ ⟨rfl, hx2, hf2, hw2, t₃, hp2⟩ hlt2 off2 F₂ N₂
      have off2' : ∀ p ∈ its ++ nw, ∀ b ∈ [I], p.1 ≠ b := fun p hp b hb => by rw [List.mem_singleton.mp hb]; exact off2 p hp
      simp only [Int.zero_add] at F₂
      have hbj := hbi j (by omega)
      have hbj2 : (fall p₀ (x + i) j).natAbs < 2 ^ 60 := Nat.lt_of_le_of_lt hbj (by have : 8 ^ j ≤ 8 ^ 4 := Nat.pow_le_pow_right (by omega) (by omega); omega)
      have hnext2 : fall p₀ (x + i) (j + 1) = fall p₀ (x + i) j * (x + i - j) := rfl
      generalize fall p₀ (x + i) j = part at *
      k_steps
      walk_at "my next"
      exact ⟨rfl, by walk_at "my look", by walk_at "my look", by walk_at "my look", _, by rw [hnext2]; walk_at "my look"⟩
    case done2 =>
      rintro m₂ nw₂ h₂ tk₂ ⟨rfl, hx2, hf2, hw2, t₃, hp2⟩ F₂ N₂
      dsimp only
      k_steps
      walk_at "my next"
      exact ⟨rfl, by walk_at "my look", _, by rw [hnext]; walk_at "my look"⟩
  case done =>
    rintro m₁ nw h tk ⟨rfl, hmx, t', hmw⟩ F N
    rw [hsz] at hmw
    k_steps
    exact ret_int hret rfl (by assumption) (by assumption) (by walk_at "my sub")
end taken

end SP13
theorem rstP14 : True ∧ True := by
  w_top off
  first
    | (walk1; done)
    | exact ⟨trivial, trivial⟩
section SP14
section lexer
variable {w : World} {A : Around} {env : Env} {L : Addr} {h₀ : Heap} {m : Str → Option Value} {news : List (Addr × Obj)} {k : Nat} {s : Shared} {Q E : Value → Shared → Prop}
theorem list_str_mine {x : Str} {t : Tok} (hh : A.handled = none) (F : Fr h₀ L s.heap m) (N : News h₀ L s.heap news) (hsz : x.cps.size ≤ sizeLine)
    (h : ∀ D h' tk (ys : List Value) (c : Nat), Fr h₀ L h' m → News h₀ L h' ((D, W.listOf ys.toArray c) :: news) → (∀ p ∈ news, p.1 < D) → StrsAre ys (signs x) → ys.toArray.size ≤ sizeLine → Q (.ref D) { s with heap := h', toks := tk }) :
    wpAny (MM w) A (call (.type "list") [.str x t]) Q E s := by
  refine call_list_str hh x t (hn := hsz) fun h' tk acc' c' hk hS' hacc => ?_
  have N' : News h₀ L h' ((s.heap.objs.size, W.listOf acc'.toList.toArray c') :: news) := fun p hp => by
    rcases List.mem_cons.mp hp with rfl | hp
    · refine ⟨by simpa using hS', Ne.symm (Nat.ne_of_lt F.ns.lt), ?_⟩
      cases e : h₀.get? s.heap.objs.size with
      | none => rfl
      | some o => exact absurd (Heap.lt_size (F.keep _ _ e)) (Nat.lt_irrefl _)
    · exact ⟨hk _ _ (N p hp).1, (N p hp).2⟩
  refine h _ h' tk acc'.toList c' (F.keeps hk) N' (fun p hp => Heap.lt_size (N p hp).1) (StrsAre.of_carried (carriedAll_of_get _ _ (by simp [hacc.1, signs]) fun j v hv => ?_)) (by rw [List.size_toArray, Array.length_toList, hacc.1]; exact hsz)
  obtain ⟨c, u, hc, rfl⟩ := hacc.2 j v (by simpa using hv)
  exact ⟨.str ⟨#[c]⟩, by simp [signs, hc], .str _ _⟩
local macro_rules | `(tactic| walk_at "call type:list") => `(tactic| (k_extra "my z47"; intro D' h' tk' ys' c' F' N' l1' s' z'; (try k_lt l1'); (try dsimp only)))
local macro_rules | `(tactic| walk_at "call ref") => `(tactic| walk_at "my cls")
local macro_rules | `(tactic| kn_code) => `(tactic| k_extra "my z48")
theorem truthy_mine {l : Addr} {lo : Obj} {vs : List Value} {q : Bool → Shared → Prop} (N : News h₀ L s.heap news) (hm : (l, lo) ∈ news) (hc : lo.cls = .type "list") (hd : ∃ n, lo.data = .seq vs.toArray n) (hz : vs.length ≤ sizeLine)
    (h : ∀ tk, q (!vs.isEmpty) { s with toks := tk }) : wpAny (MM w) A (truthy (.ref l)) q E s := by
  refine wpAny_truthy_list (isl N hm hc hd) ?_ ?_
  · have : (sizeLine : Nat) < 2 ^ 62 := by decide
    rw [List.size_toArray]; omega
  · rw [show vs.toArray.isEmpty = vs.isEmpty by simp]; exact h _
theorem kl_last_snoc (p : List Value) (y : Value) : kl_last (p ++ [y]) = some (p, y) := by
  induction p with
  | nil => rfl
  | cons a r ih => simp only [List.cons_append, kl_last, ih]
theorem pop_mine {D : Addr} {vs p : List Value} {y : Value} {n : Nat} {news' : List (Addr × Obj)} (F : Fr h₀ L s.heap m) (N : News h₀ L s.heap news) (e : vs = p ++ [y]) (U : Upd D (W.listOf vs.toArray n) (W.listOf p.toArray (n + 1)) news news')
    (hz : vs.length ≤ sizeLine) (h : ∀ h', Fr h₀ L h' m → News h₀ L h' news' → Q y { s with heap := h' }) : wpAny (MM w) A (call (.builtin "list.pop") [.ref D]) Q E s := by
  subst e
  exact kl_pop F N (by rw [List.toList_toArray]; exact kl_last_snoc p y) U (by rw [List.toList_toArray]; exact hz) h
local macro_rules | `(tactic| walk_at "truthy ref") => `(tactic| (k_extra "my z49"; intro tk'; (try simp only [List.isEmpty_append, List.isEmpty_cons, List.isEmpty_nil, Bool.and_false, Bool.not_false, Bool.not_true, Bool.and_true]); (try dsimp only)))
local macro_rules | `(tactic| walk_at "call builtin:list.pop") => `(tactic| (k_extra "my z50"; intro h' F' N'; (try dsimp only)))

/-- what the nested def answers: the last sign, taken off, or the empty text -/
def PieceSpec (w : World) (f : Addr) (fo : Obj) (c' : Addr) (oc' : Obj) (cell : Addr) : Prop :=
  ∀ {A : Around} {env : Env} {L : Addr} {h₀ : Heap} {m : Str → Option Value} {k : Nat} {s : Shared} {Q E : Value → Shared → Prop} (D : Addr) (p : List Value) (n : Nat) (oc : Obj) (tk : Tok) (rest : List (Addr × Obj)),
    oc.data = .cell (some (.ref D)) → (cell ≠ D ∧ f ≠ D ∧ c' ≠ D ∧ ∀ p ∈ rest, p.1 ≠ D) →
    (Sit w A env L h₀ s.heap m ((D, W.listOf ([] : List Value).toArray n) :: (cell, oc) :: (f, fo) :: (c', oc') :: rest) (k + 2) →
      Ret h₀ L m ((D, W.listOf ([] : List Value).toArray n) :: (cell, oc) :: (f, fo) :: (c', oc') :: rest) s Q (.str (Str.ofString "")) → wpAny (MM w) A (call (.ref f) [.int 1 tk]) Q E s) ∧
    ∀ (y : Value), (p ++ [y]).length ≤ sizeLine → Sit w A env L h₀ s.heap m ((D, W.listOf (p ++ [y]).toArray n) :: (cell, oc) :: (f, fo) :: (c', oc') :: rest) (k + 2) →
      (∀ h' tk', Fr h₀ L h' m → News h₀ L h' ((D, W.listOf p.toArray (n + 1)) :: (cell, oc) :: (f, fo) :: (c', oc') :: rest) → Q y { s with heap := h', toks := tk' }) → wpAny (MM w) A (call (.ref f) [.int 1 tk]) Q E s

def FnObj (fo : Obj) : Prop := ∃ fd, fo = ({ cls := .type "function", data := .func fd } : Obj)
theorem fnAt_mine {h : Heap} {q : Addr} {fo : Obj} (N : News h₀ L h news) (hm : (q, fo) ∈ news) (hf : FnObj fo) : FnAt q h := by
  obtain ⟨fd, rfl⟩ := hf
  exact FnAt.of N hm
abbrev wsS : Str := Str.ofString "\n\t\x0d "
abbrev lexDict (g1 g2 g3 g4 : Int) (t1 t2 t3 t4 tw : Tok) (line : Int) (tl : Tok) (x1 p2 : Addr) : Obj :=
  dictOf [⟨g1, .str (Str.ofString "lineno") t1, .int line tl⟩, ⟨g2, .str (Str.ofString "instream") t2, .ref x1⟩, ⟨g3, .str (Str.ofString "whitespace") t3, .str wsS tw⟩, ⟨g4, .str (Str.ofString "pushback") t4, .ref p2⟩] 4
abbrev strDict (g1 g2 g3 g4 g5 : Int) (t1 t2 t3 t4 t5 tl tw : Tok) (p1 f : Addr) : Obj :=
  dictOf [⟨g1, .str (Str.ofString "lineno") t1, .int 1 tl⟩, ⟨g2, .str (Str.ofString "instream") t2, .none⟩, ⟨g3, .str (Str.ofString "whitespace") t3, .str wsS tw⟩, ⟨g4, .str (Str.ofString "pushback") t4, .ref p1⟩, ⟨g5, .str (Str.ofString "read") t5, .ref f⟩] 5

local macro_rules | `(tactic| walk_at "my piece") => `(tactic| (k_extra "my z51"; intro g' L' h' FG' F' N' B' X' T'; (try dsimp only)))
theorem lexer_spec {text : Str} {tx : Tok} (hlen : text.cps.size ≤ sizeLine) (hC : CodeHd h₀ 107 103) (hoff : ∀ p ∈ news, p.1 ≠ 103) (S : Sit w A env L h₀ s.heap m ((103, tabObj #[]) :: news) (k + 3))
    (hret : ∀ (cell D D₀ d1 x1 p1 c' f d2 x2 p2 : Addr) (fo oc' oc o₀ : Obj) (g1 g2 g3 g4 g5 k1 k2 k3 k4 : Int) (t1 t2 t3 t4 t5 t6 t7 u1 u2 u3 u4 u5 u6 : Tok) (ys : List Value) (ps : Array Value) (h' : Heap) (tk' : Nat), Fr h₀ L h' m →
      News h₀ L h' ((p2, W.listOf ([] : List Value).toArray 0) :: (x2, instObj 59 d2) :: (d2, lexDict k1 k2 k3 k4 u1 u2 u3 u4 u5 1 u6 x1 p2) :: (f, fo) :: (c', oc') :: (p1, W.listOf ([] : List Value).toArray 0) :: (x1, instObj 59 d1) :: (d1, strDict g1 g2 g3 g4 g5 t1 t2 t3 t4 t5 t6 t7 p1 f) ::
        (D, W.listOf ys.reverse.toArray 0) :: (D₀, o₀) :: (cell, oc) :: (103, tabObj ps) :: news) → StrsAre ys (signs text) → oc.data = .cell (some (.ref D)) →
      (@LT.lt Nat _ cell D ∧ @LT.lt Nat _ D d1 ∧ @LT.lt Nat _ d1 x1 ∧ @LT.lt Nat _ x1 c' ∧ @LT.lt Nat _ c' f ∧ @LT.lt Nat _ f d2 ∧ @LT.lt Nat _ d2 x2 ∧ @LT.lt Nat _ x2 p2) → (∀ p ∈ news, p.1 < D ∧ p.1 < d2 ∧ p.1 < p2 ∧ p.1 < cell) → FnObj fo → PieceSpec w f fo c' oc' cell → Q (.ref x2) { s with heap := h', toks := tk' }) :
    wpAny (model PySem.Challenge.pw_tp0016_01 w) A (call (.ref 108) [.str text tx]) Q E s := by
  walk_at "my open"
  walk_at "my enterC"
  k_steps
  with_reducible rename News h₀ L _ _ => kN
  rw [krv_pick] at kN
  repeat (with_reducible rename _ ∧ _ => hc; obtain ⟨hc1, hc2⟩ := hc)
  refine hret _ _ _ _ _ _ _ _ _ _ _ _ _ _ _ _ _ _ _ _ _ _ _ _ _ _ _ _ _ _ _ _ _ _ _ _ _ _ _ _ _ (by assumption) kN (by assumption) (by assumption) ?lt ?off ⟨_, rfl⟩ ?piece
  case lt => omega
  case off => exact fun p hp => ⟨allLt_lt (by assumption) p hp, allLt_lt (by assumption) p hp, allLt_lt (by assumption) p hp, allLt_lt (by assumption) p hp⟩
  case piece =>
    intro A env L h₀ m k s Q E D p n oc tk rest hoc hne
    obtain ⟨hn1, hn2, hn3, hn4⟩ := hne
    refine ⟨fun S hr => ?_, fun y hz S hr => ?_⟩
    · walk_at "my open"
      walk_at "my piece"
      k_steps
      exact hr _ _ _ (by assumption) (by assumption)
    · walk_at "my open"
      walk_at "my piece"
      have he : (p ++ [y]).isEmpty = false := by cases p <;> rfl
      k_steps
      all_goals first
        | exact hr _ _ (by assumption) (by assumption)
        | (exfalso; simp_all; done)
end lexer

end SP14
theorem rstP15 : True ∧ True := by
  w_top off
  first
    | (walk1; done)
    | exact ⟨trivial, trivial⟩
section SP15
section readchar
set_option genInjectivity false in
set_option genSizeOf false in
/-- a lexer's objects: the stream and its def, the lexer, their dicts -/
structure LexA where
  (cell D d1 x1 p1 c' f d2 x2 p2 : Addr)
  (fo oc' oc : Obj)
  (g1 g2 g3 g4 g5 k1 k2 k3 k4 : Int)
  (t1 t2 t3 t4 t5 t6 t7 u1 u2 u3 u4 u5 : Tok)
abbrev LexA.led (a : LexA) (vs : List Value) (n : Nat) (line : Int) (tl : Tok) (rest : List (Addr × Obj)) : List (Addr × Obj) :=
  (a.D, W.listOf vs.toArray n) :: (a.cell, a.oc) :: (a.f, a.fo) :: (a.c', a.oc') :: (a.d2, lexDict a.k1 a.k2 a.k3 a.k4 a.u1 a.u2 a.u3 a.u4 a.u5 line tl a.x1 a.p2) :: (a.x2, instObj 59 a.d2) :: (a.x1, instObj 59 a.d1) ::
    (a.d1, strDict a.g1 a.g2 a.g3 a.g4 a.g5 a.t1 a.t2 a.t3 a.t4 a.t5 a.t6 a.t7 a.p1 a.f) :: rest
set_option genInjectivity false in
set_option genSizeOf false in
structure LexOk (w : World) (a : LexA) : Prop where
  oc : a.oc.data = .cell (some (.ref a.D))
  fn : FnObj a.fo
  piece : PieceSpec w a.f a.fo a.c' a.oc' a.cell
  lt : @LT.lt Nat _ a.cell a.D ∧ @LT.lt Nat _ a.D a.d1 ∧ @LT.lt Nat _ a.d1 a.x1 ∧ @LT.lt Nat _ a.x1 a.c' ∧ @LT.lt Nat _ a.c' a.f ∧ @LT.lt Nat _ a.f a.d2 ∧ @LT.lt Nat _ a.d2 a.x2 ∧ @LT.lt Nat _ a.x2 a.p2
variable {w : World} {A : Around} {env : Env} {L : Addr} {h₀ : Heap} {m : Str → Option Value} {rest : List (Addr × Obj)} {k : Nat} {s : Shared} {Q E : Value → Shared → Prop} {a : LexA}
theorem LexOk.ranked (O : LexOk w a) : Ranked [a.cell, a.D, a.d1, a.x1, a.c', a.f, a.d2, a.x2, a.p2] :=
  Rise.ranked (.cons O.lt.1 (.cons O.lt.2.1 (.cons O.lt.2.2.1 (.cons O.lt.2.2.2.1 (.cons O.lt.2.2.2.2.1 (.cons O.lt.2.2.2.2.2.1 (.cons O.lt.2.2.2.2.2.2.1 (.cons O.lt.2.2.2.2.2.2.2 (.one _)))))))))
theorem LexOk.ne (O : LexOk w a) : a.cell ≠ a.D ∧ a.f ≠ a.D ∧ a.c' ≠ a.D := by
  obtain ⟨h1, h2, h3, h4, h5, h6, h7, h8⟩ := O.lt
  refine ⟨neN ?_, neN ?_, neN ?_⟩ <;> omega
theorem LexOk.restNe (O : LexOk w a) (hr : ∀ p ∈ rest, p.1 ≠ a.D) {o1 o2 o3 o4 : Obj} : ∀ p ∈ (a.d2, o1) :: (a.x2, o2) :: (a.x1, o3) :: (a.d1, o4) :: rest, p.1 ≠ a.D := by
  obtain ⟨h1, h2, h3, h4, h5, h6, h7, h8⟩ := O.lt
  refine List.forall_mem_cons.mpr ⟨neN ?_, List.forall_mem_cons.mpr ⟨neN ?_, List.forall_mem_cons.mpr ⟨neN ?_, List.forall_mem_cons.mpr ⟨neN ?_, hr⟩⟩⟩⟩ <;> (dsimp only; omega)
theorem LexOk.piece0 {n : Nat} {line : Int} {tl tk : Tok} (O : LexOk w a) (hr : ∀ p ∈ rest, p.1 ≠ a.D) (S : Sit w A env L h₀ s.heap m (a.led [] n line tl rest) (k + 2))
    (h : Ret h₀ L m (a.led [] n line tl rest) s Q (.str (Str.ofString ""))) : wpAny (MM w) A (call (.ref a.f) [.int 1 tk]) Q E s := by
  exact (@LexOk.piece w a O A env L h₀ m k s Q E a.D [] n a.oc tk _ O.oc ⟨O.ne.1, O.ne.2.1, O.ne.2.2, O.restNe hr⟩).1 S h
theorem LexOk.piece1 {n : Nat} {line : Int} {tl tk : Tok} {p : List Value} {y : Value} (O : LexOk w a) (hr : ∀ p ∈ rest, p.1 ≠ a.D) (hz : (p ++ [y]).length ≤ sizeLine) (S : Sit w A env L h₀ s.heap m (a.led (p ++ [y]) n line tl rest) (k + 2))
    (h : ∀ h' tk', Fr h₀ L h' m → News h₀ L h' (a.led p (n + 1) line tl rest) → Q y { s with heap := h', toks := tk' }) : wpAny (MM w) A (call (.ref a.f) [.int 1 tk]) Q E s := by
  exact (@LexOk.piece w a O A env L h₀ m k s Q E a.D p n a.oc tk _ O.oc ⟨O.ne.1, O.ne.2.1, O.ne.2.2, O.restNe hr⟩).2 y hz S h
local macro_rules | `(tactic| walk_at "callWith ref") => `(tactic| k_extra "my z52")
local macro_rules | `(tactic| walk_at "And") => `(tactic| k_extra "my z53")
theorem nl_true {c : Nat} (h : ((⟨#[c]⟩ : Str) == Str.ofString "\n") = true) : c = 10 := by
  have h2 := congrArg (fun x : Str => x.cps[0]?) (eq_of_beq h)
  have h3 : (Str.ofString "\n").cps[0]? = some 10 := by decide +kernel
  simp only [h3] at h2
  simpa using h2
theorem nl_false {c : Nat} (h : ((⟨#[c]⟩ : Str) == Str.ofString "\n") = false) : ¬ c = 10 := by
  rintro rfl
  have : ((⟨#[10]⟩ : Str) == Str.ofString "\n") = true := by decide +kernel
  rw [this] at h
  cases h
theorem read_nil {n : Nat} {line : Int} {tl : Tok} (O : LexOk w a) (hC : CodeHd h₀ 107 103) (hr : ∀ p ∈ rest, p.1 ≠ a.D) (S : Sit w A env L h₀ s.heap m (a.led [] n line tl rest) (k + 3))
    {R : Result → Shared → Prop} (hret : Ret h₀ L m (a.led [] n line tl rest) s (fun v s' => R (.ok (.ret v)) s') (.str (Str.ofString ""))) :
    codeAny (MM w) A (.call (.ref 42) ⟨[.ref a.x2], []⟩) R s := by
  dsimp only [LexA.led] at S
  have hfn := O.fn
  walk_at "my open"
  walk_at "my enter0"
  k_steps
  refine' O.piece0 (k := k) hr ?S ?_
  case S => walk_at "my sit"
  intro t h' tk' F' N'
  dsimp only
  k_steps
  exact hret _ _ _ (by assumption) (by assumption)
theorem read_cons {n : Nat} {line : Int} {tl : Tok} {p : List Value} {c : Nat} {tc : Tok} (O : LexOk w a) (hC : CodeHd h₀ 107 103) (hr : ∀ p ∈ rest, p.1 ≠ a.D) (hr2 : ∀ p ∈ rest, p.1 ≠ a.d2) (hz : (p ++ [Value.str ⟨#[c]⟩ tc]).length ≤ sizeLine)
    (S : Sit w A env L h₀ s.heap m (a.led (p ++ [.str ⟨#[c]⟩ tc]) n line tl rest) (k + 3))
    {R : Result → Shared → Prop} (hret : ∀ tl' h' tk', Fr h₀ L h' m → News h₀ L h' (a.led p (n + 1) (if c = 10 then line + 1 else line) tl' rest) → R (.ok (.ret (.str ⟨#[c]⟩ tc))) { s with heap := h', toks := tk' }) :
    codeAny (MM w) A (.call (.ref 42) ⟨[.ref a.x2], []⟩) R s := by
  dsimp only [LexA.led] at S
  have hfn := O.fn
  have hlt := O.lt
  have hrk := O.ranked
  walk_at "my open"
  walk_at "my enter0"
  k_steps
  refine' O.piece1 (k := k) hr hz ?S ?_
  case S => walk_at "my sit"
  intro h' tk' F' N'
  dsimp only [LexA.led] at N'
  dsimp only
  k_steps
  all_goals first
    | exact hret _ _ _ (by assumption) (by rw [if_pos (nl_true (by assumption))]; assumption)
    | exact hret _ _ _ (by assumption) (by rw [if_neg (nl_false (by assumption))]; assumption)
end readchar

end SP15
section SP16
section calliter
open Builtin Builtin.SmallTypes
theorem owner_calliter : Manifest.owners.lookup (String.ofList ['r', 'o', 't', 'a', 'r', 'e', 't', 'i', '_', 'e', 'l', 'b', 'a', 'l', 'l', 'a', 'c'].reverse) = some Manifest.sig_callable_iterator := by kernel_rfl
theorem slot_calliter_next : Slot "callable_iterator" "__next__" "callable_iterator.__next__" :=
  .of (owner := "callable_iterator") (n := "__next__") (by rw [typeLookup_type, builtinLookup_eq_fast]; kernel_rfl) (by decide +kernel) (by decide +kernel) (by decide +kernel)
    (by first | exact .inl (by decide +kernel) | exact .inr (by decide +kernel)) (by rw [isSubtype_type]; kernel_rfl)
theorem slot_calliter_iter : Slot "callable_iterator" "__iter__" "callable_iterator.__iter__" :=
  .of (owner := "callable_iterator") (n := "__iter__") (by rw [typeLookup_type, builtinLookup_eq_fast]; kernel_rfl) (by decide +kernel) (by decide +kernel) (by decide +kernel)
    (by first | exact .inl (by decide +kernel) | exact .inr (by decide +kernel)) (by rw [isSubtype_type]; kernel_rfl)
theorem entry_calliter_next : entryFor table "callable_iterator.__next__" = some Builtin.«callable_iterator.__next__» := entryFor_of_tree (by kernel_rfl)
theorem args_calliter_next (a : Value) : argsOk "callable_iterator.__next__" ⟨[a], []⟩ := by
  unfold argsOk; rw [signature?_of (id := "callable_iterator.__next__") (n := ['_', '_', 't', 'x', 'e', 'n', '_', '_']) (o := ['r', 'o', 't', 'a', 'r', 'e', 't', 'i', '_', 'e', 'l', 'b', 'a', 'l', 'l', 'a', 'c']) (by kernel_rfl) owner_calliter]; kernel_rfl
abbrev callIt (q : Addr) (t : Tok) : Obj := { cls := .type "callable_iterator", data := .fields #[.ref q, .str (Str.ofString "") t, .bool false] }
section
variable {w : World} {A : Around} {s : Shared} {E : Value → Shared → Prop}
theorem wpAny_callBorrowed {f : Value} {pos : List Value} {Q : Value → Shared → Prop}
    (hc : codeAny (MM w) A (.call f ⟨pos, []⟩) (fun r s' => match r with | .ok (.ret v) => Q v s' | .ok _ => False | .error e => E e s') s) : wpAny (MM w) A (callBorrowed f pos) Q E s := by
  intro Γ p hΓ
  show Sem.wp _ Γ (.call (.call f ⟨pos, []⟩) none false [borrowed] _) _ _ p s
  rw [Sem.wp_call]
  refine wpCode_mono (fun r s' hr => ?_) (hc _ p rfl (hΓ.enter (.call f ⟨pos, []⟩) none p (by intro x; cases x)))
  match r, hr with
  | .ok (.ret v), hr => exact hr
  | .error e, hr => exact hr
theorem borrows_meth {q fa : Addr} {self : Value} {o : Obj} {fd : FuncData} {Q : Bool → Shared → Prop} (hq : s.heap.get? q = some (methodObj (.ref fa) self)) (hf : s.heap.get? fa = some o) (hd : o.data = .func fd) (h : Q true s) :
    wpAny (MM w) A (borrowsExactly (.ref q)) Q E s := by
  unfold borrowsExactly
  refine wpAny_bind (wpAny_load hq ?_)
  dsimp only
  show wpAny _ _ (load fa >>= _) _ _ _
  refine wpAny_bind (wpAny_load hf ?_)
  rw [hd]
  exact wpAny_pure h
theorem pyNext_call {I q fa : Addr} {t : Tok} {self : Value} {o : Obj} {fd : FuncData} {Q : Option Value → Shared → Prop} (hI : s.heap.get? I = some (callIt q t)) (hq : s.heap.get? q = some (methodObj (.ref fa) self)) (hf : s.heap.get? fa = some o) (hd : o.data = .func fd) (hh : A.handled = none)
    (h : codeAny (MM w) A.in1 (.call (.ref fa) ⟨[self], []⟩) (fun r s' => match r with
      | .ok (.ret v) => ∃ x tx, v = .str x tx ∧ s'.heap.get? I = some (callIt q t) ∧ s'.heap.get? q = some (methodObj (.ref fa) self) ∧ s'.heap.get? fa = some o ∧
          ((x = Str.ofString "" ∧ ∀ h', Heap.ExtBut I s'.heap h' → Q none { s' with heap := h' }) ∨ (x ≠ Str.ofString "" ∧ Q (some (.str x tx)) s'))
      | _ => False) s) :
    wpAny (MM w) A (pyNext (.ref I)) Q E s := by
  have hT : s.TypeIs (.ref I) "callable_iterator" := ⟨_, hI, rfl⟩
  unfold pyNext
  refine wpAny_bind (wpAny_attempt (wpAny_callSpecial?_slot (name := Str.ofString "__next__") hT slot_calliter_next
    (wpAny_call_entry slot_calliter_next hT entry_calliter_next ?_ (args_calliter_next _))))
  show wpAny _ _ (field (.ref I) 2 >>= _) _ _ s
  refine wpAny_bind (wpAny_field hI rfl (x := .bool false) rfl ?_)
  refine wpAny_ite_split (fun hab => absurd hab (by decide)) (fun _ => ?_)
  refine wpAny_bind (wpAny_field hI rfl (x := .ref q) rfl ?_)
  refine wpAny_bind (wpAny_attempt ?_)
  unfold callOutOfASlot
  refine wpAny_bind (borrows_meth hq hf hd ?_)
  rw [if_pos rfl]
  refine wpAny_callBorrowed (method_call hq (codeAny_mono h fun r s' hr => ?_))
  match r, hr with
  | .ok (.ret v), hr =>
    obtain ⟨x, tx, rfl, hI', hq', hf', hx⟩ := hr
    dsimp only
    refine wpAny_bind (wpAny_field hI' rfl (x := .bool false) rfl ?_)
    refine wpAny_ite_split (fun hab => absurd hab (by decide)) (fun _ => ?_)
    refine wpAny_bind (wpAny_field hI' rfl (x := .str (Str.ofString "") t) rfl ?_)
    refine wpAny_bind (wpAny_holding (eqBool_str ?_))
    rcases hx with ⟨rfl, hQ⟩ | ⟨hne, hQ⟩
    · rw [show (Str.ofString "" == Str.ofString "") = true from beq_self_eq_true _]
      refine wpAny_ite_split (fun hab => absurd hab (by decide)) (fun _ => ?_)
      refine wpAny_bind (wpAny_rule ?_)
      show wpAny _ _ ((field (.ref I) 0 >>= fun old => slotLetsGo "callable_iterator.__next__" old _ >>= fun _ => setField (.ref I) 0 .none >>= fun _ => setField (.ref I) 1 .none >>= fun _ => setField (.ref I) 2 (.bool true)) >>= fun _ => _) _ _ _
      refine wpAny_bind (wpAny_bind (wpAny_field hI' rfl (x := .ref q) rfl (wpAny_bind ?_)))
      unfold slotLetsGo
      refine wpAny_bind (borrows_meth hq' hf' hd ?_)
      rw [if_pos rfl]
      refine wpAny_pure (wpAny_bind (wpAny_setField_rec hI' (by simp) fun h1 hI1 hs1 => wpAny_bind (wpAny_setField_rec hI1 (by simp) fun h2 hI2 hs2 => wpAny_setField_rec hI2 (by simp) fun h3 hI3 hs3 => ?_)))
      show wpAny _ _ (newExc (.type "StopIteration") [] >>= _) _ _ _
      refine wpAny_bind ?_
      simp only [newExc, newTuple]
      refine wpAny_bind (wpAny_newObj_type ?_ (by size_fits))
      refine wpAny_bind (m := firstArgMember _ _) (wpAny_of_eq (a := Value.none) (by first | rfl | (simp only [firstArgMember]; rfl)) ?_)
      refine wpAny_newObj_type ?_ (by size_fits)
      simp only [raiseNew]
      refine wpAny_bind (wpAny_handled ?_)
      rw [show A.in1.handled = none from hh]
      refine wpAny_bind (wpAny_pure (wpAny_throw ?_))
      refine wpAny_bind (wpAny_isInstance (T := "StopIteration") (b := true) ⟨_, Heap.get?_push_size _ rfl, rfl⟩ isSubtype_stop ?_)
      exact wpAny_pure (hQ _ fun b o hb e => Heap.get?_push_of_some _ (Heap.get?_push_of_some _ (hs3.extBut b o hb (hs2.extBut b o hb (hs1.extBut b o hb e)))))
    · rw [show (Str.ofString "" == x) = false from beq_eq_false_iff_ne.mpr (Ne.symm hne)]
      refine wpAny_ite_split (fun _ => ?_) (fun hab => absurd rfl hab)
      exact wpAny_pure ⟨_, rfl, wpAny_pure hQ⟩
end
end calliter

end SP16
section SP17
section iter2
variable {w : World} {A : Around} {env : Env} {L : Addr} {h₀ : Heap} {m : Str → Option Value} {news : List (Addr × Obj)} {s : Shared} {E : Value → Shared → Prop}
theorem args_iter2 (a b : Value) : argsOk "iter" ⟨[a, b], []⟩ := by unfold argsOk; kernel_rfl
theorem slot_method_call : Slot "method" "__call__" "method.__call__" :=
  .of (owner := "method") (n := "__call__") (by rw [typeLookup_type, builtinLookup_eq_fast]; kernel_rfl) (by decide +kernel) (by decide +kernel) (by decide +kernel)
    (by first | exact .inl (by decide +kernel) | exact .inr (by decide +kernel)) (by rw [isSubtype_type]; kernel_rfl)
theorem iter2_mine {q : Addr} {f self : Value} {t : Tok} {Q : Value → Shared → Prop} (F : Fr h₀ L s.heap m) (N : News h₀ L s.heap news) (hq : (q, methodObj f self) ∈ news)
    (h : ∀ I h', Fr h₀ L h' m → News h₀ L h' ((I, callIt q t) :: news) → (∀ p ∈ news, p.1 < I) → Q (.ref I) { s with heap := h' }) :
    wpAny (MM w) A (call (.builtin "iter") [.ref q, .str (Str.ofString "") t]) Q E s := by
  have hT : s.TypeIs (.ref q) "method" := ⟨_, (N _ hq).1, rfl⟩
  refine call_function_entry (by decide +kernel) (by decide +kernel) kdk_entry_iter (args_iter2 _ _) ?_
  unfold Builtin.«iter»
  refine wpAny_bind (m := someArgs "iter" 1 2 _) (wpAny_of_eq (a := [Value.ref q, .str (Str.ofString "") t]) (by first | rfl | kernel_rfl!) ?_)
  show wpAny _ _ (specialOf (.ref q) "__call__" >>= _) _ _ _
  refine wpAny_bind (wpAny_specialOf hT slot_method_call.lookup ?_)
  refine wpAny_ite_split (fun hab => absurd hab (by decide)) (fun _ => ?_)
  refine wpAny_bind (wpAny_rule ?_)
  refine wpAny_bind (wpAny_newObj_type ?_)
  exact wpAny_pure ⟨_, rfl, h _ _ (F.push _) (News.push F N _ rfl) (fun q hq => Heap.lt_size (N q hq).1)⟩
theorem for_unroll {R : Result → Shared → Prop} {target : PySem.Expr} {it : Value} {body : List Stmt} {env : Env} {s : Shared}
    (turn : ∀ E, pull w A target it env (fun b s₁ => if b = true then wpAny (MM w) A (execs body env) (fun f s₃ => match f with
            | .next | .cont => codeAny (MM w) A (.forLoop target it body [] env) R s₃
            | .brk => R (.ok .next) s₃
            | .ret v => R (.ok (.ret v)) s₃) E s₁ else R (.ok .next) s₁) E s) : codeAny (MM w) A (.forLoop target it body [] env) R s := by
  refine codeAny_of_tree ?_
  show wpAny _ A ((forTurn target it body [] env).onRaise (fun x => do noteFrame x env; theTreesLotGoes x)) _ _ s
  refine wpAny_noted ?_
  simp only [forTurn]
  refine wpAny_bind (wpAny_standAt (wpAny_bind (wpAny_onRaise (wpAny_mono (turn (notedBy (MM w) A env fun e s' => R (.error e) s')) (fun r s₁ h₁ => ?_) fun _ _ h' => wpAny_standAt h'))))
  cases r with
  | none => exact wpAny_pure ⟨rfl, codeAny_block (wpAny_execs_nil (by simpa using h₁))⟩
  | some v =>
    refine wpAny_bind (wpAny_mono h₁ (fun _ s₁' h₁' => ?_) fun _ _ h' => h')
    refine wpAny_bind (wpAny_mono h₁' (fun _ s₂ h₂ => ?_) fun _ _ h' => h')
    simp only [if_true] at h₂
    refine wpAny_bind (wpAny_mono h₂ (fun f s₃ h₃ => ?_) fun _ _ h' => h')
    cases f with
    | next => exact wpAny_pure ⟨rfl, h₃⟩
    | cont => exact wpAny_pure ⟨rfl, h₃⟩
    | brk => exact wpAny_pure h₃
    | ret v => exact wpAny_pure h₃
end iter2

end SP17
section SP18
section pullchar
variable {w : World} {A : Around} {env : Env} {L : Addr} {h₀ : Heap} {m : Str → Option Value} {rest : List (Addr × Obj)} {k : Nat} {s : Shared} {Q : Bool → Shared → Prop} {E : Value → Shared → Prop} {a : LexA}
theorem fn_of {K : Frag} {f : Addr} {oc : Value} {od : Option Addr} {fd : FuncData} {sl : Array (Option Value)} (h : K.lookup f = some ⟨oc, od, .func fd, sl⟩) : ∃ o fd, K.lookup f = some o ∧ o.data = .func fd := ⟨_, _, h, rfl⟩
theorem fn42 (P : Params) : ∃ o fd, (hd.heap_1_41 P).lookup 42 = some o ∧ o.data = .func fd := by
  refine' fn_of ?h
  case h => k_is
theorem Sit.in1 {news : List (Addr × Obj)} (S : Sit w A env L h₀ s.heap m news (k + 1)) : Sit w A.in1 env L h₀ s.heap m news k where
  B := S.B
  F := S.F
  N := S.N
  X := S.X
  T := S.T
  hf := S.hf
  hke := S.hke
  hh := S.hh
  hd := by have := S.hd; show A.depth + k < _; omega
  hu := by have := S.hu; show A.units + 1 + 4 * k + 100 < _; omega
theorem pull_cons {I q : Addr} {t : Tok} {x : Str} {px : Pos} {n : Nat} {line : Int} {tl : Tok} {p : List Value} {c : Nat} {tc : Tok} (hL : env.locals = L) (hx : env.kindOf x = some .local) (hp : plain env) (O : LexOk w a) (hC : CodeHd h₀ 107 103)
    (hI : (I, callIt q t) ∈ rest) (hq : (q, methodObj (.ref 42) (.ref a.x2)) ∈ rest) (hr : ∀ p ∈ rest, p.1 ≠ a.D) (hr2 : ∀ p ∈ rest, p.1 ≠ a.d2) (hz : (p ++ [Value.str ⟨#[c]⟩ tc]).length ≤ sizeLine)
    (S : Sit w A env L h₀ s.heap m (a.led (p ++ [.str ⟨#[c]⟩ tc]) n line tl rest) (k + 4))
    (h : ∀ tl' h' tk', Fr h₀ L h' (fun y => if y = x then some (.str ⟨#[c]⟩ tc) else m y) → News h₀ L h' (a.led p (n + 1) (if c = 10 then line + 1 else line) tl' rest) → Q true { s with heap := h', toks := tk' }) :
    pull w A (.Name x px) (.ref I) env Q E s := by
  obtain ⟨o, fd, h42, hd⟩ := fn42 w.params
  have inR : ∀ {vs n line tl} {p : Addr × Obj}, p ∈ rest → p ∈ a.led vs n line tl rest := fun hp => by
    iterate 8 (refine List.Mem.tail _ ?_)
    exact hp
  have k42 : ∀ {hh : Heap} {m'}, Fr h₀ L hh m' → hh.get? 42 = some o := fun F => F.keep _ _ (S.X _ _ h42)
  refine pyNext_call (S.N _ (inR hI)).1 (S.N _ (inR hq)).1 (k42 S.F) hd S.hh ?_
  refine read_cons (k := k) O hC hr hr2 hz S.in1 fun tl' h' tk' F N => ?_
  refine ⟨⟨#[c]⟩, tc, rfl, (N _ (inR hI)).1, (N _ (inR hq)).1, k42 F, .inr ⟨fun q => ?_, ?_⟩⟩
  · have := congrArg (fun x : Str => x.cps.size) q
    rw [show (Str.ofString "").cps.size = 0 by decide +kernel] at this
    simp at this
  · dsimp only
    show wpAny _ _ (pure ()) _ _ _
    refine wpAny_pure (wpAny_assign_Name (wpAny_storeName_local hx (hL ▸ F.ns) (fun h₂ hn₂ hs₂ => ?_) hp))
    rw [hL] at hn₂ hs₂
    exact h tl' h₂ _ (F.set hn₂ hs₂) (N.set hs₂)
theorem pull_nil {I q : Addr} {t : Tok} {x : Str} {px : Pos} {n : Nat} {line : Int} {tl : Tok} (O : LexOk w a) (hC : CodeHd h₀ 107 103)
    (hq : (q, methodObj (.ref 42) (.ref a.x2)) ∈ rest) (hr : ∀ p ∈ (I, callIt q t) :: rest, p.1 ≠ a.D) (hne : ∀ p ∈ a.led [] n line tl rest, p.1 ≠ I)
    (S : Sit w A env L h₀ s.heap m (a.led [] n line tl ((I, callIt q t) :: rest)) (k + 4))
    (h : ∀ h' tk', Fr h₀ L h' m → News h₀ L h' (a.led [] n line tl rest) → Q false { s with heap := h', toks := tk' }) :
    pull w A (.Name x px) (.ref I) env Q E s := by
  obtain ⟨o, fd, h42, hd⟩ := fn42 w.params
  have inR : ∀ {vs n line tl} {p : Addr × Obj}, p ∈ (I, callIt q t) :: rest → p ∈ a.led vs n line tl ((I, callIt q t) :: rest) := fun hp => by
    iterate 8 (refine List.Mem.tail _ ?_)
    exact hp
  have k42 : ∀ {hh : Heap} {m'}, Fr h₀ L hh m' → hh.get? 42 = some o := fun F => F.keep _ _ (S.X _ _ h42)
  have zI := S.N _ (inR (.head _))
  refine pyNext_call zI.1 (S.N _ (inR (.tail _ hq))).1 (k42 S.F) hd S.hh ?_
  refine read_nil (k := k) O hC hr S.in1 fun t' h' tk' F N => ?_
  refine ⟨Str.ofString "", _, rfl, (N _ (inR (.head _))).1, (N _ (inR (.tail _ hq))).1, k42 F, .inl ⟨rfl, fun h₂ hx₂ => ?_⟩⟩
  refine h h₂ tk' ⟨F.ns.at' fun o e => hx₂ _ o (fun q => zI.2.1 q.symm) e, fun b o e => hx₂ b o (fun q => by rw [q, zI.2.2] at e; cases e) (F.keep b o e), F.above⟩ fun p hp => ?_
  have hp' : p ∈ a.led [] n line tl ((I, callIt q t) :: rest) := by
    revert hp
    simp only [LexA.led, List.mem_cons]
    intro hp
    rcases hp with h | h | h | h | h | h | h | h | h
    · exact .inl h
    · exact .inr (.inl h)
    · exact .inr (.inr (.inl h))
    · exact .inr (.inr (.inr (.inl h)))
    · exact .inr (.inr (.inr (.inr (.inl h))))
    · exact .inr (.inr (.inr (.inr (.inr (.inl h)))))
    · exact .inr (.inr (.inr (.inr (.inr (.inr (.inl h))))))
    · exact .inr (.inr (.inr (.inr (.inr (.inr (.inr (.inl h)))))))
    · exact .inr (.inr (.inr (.inr (.inr (.inr (.inr (.inr (.inr h))))))))
  exact ⟨hx₂ _ _ (hne p hp) (N p hp').1, (N p hp').2⟩
end pullchar

end SP18
section SP19
section readloop
/-- one reading loop: it stops at a sign, takes what a backslash leads, takes the others -/
inductive ReadR (stop : Nat → Bool) : Str → List Nat → Str → List Nat → Prop
  | stop {acc : Str} {c : Nat} {r : List Nat} : stop c = true → ReadR stop acc (c :: r) acc r
  | esc {acc tok : Str} {c : Nat} {r r' : List Nat} : stop 92 = false → ReadR stop (acc ++ (⟨#[c]⟩ : Str)) r tok r' → ReadR stop acc (92 :: c :: r) tok r'
  | plain {acc tok : Str} {c : Nat} {r r' : List Nat} : stop c = false → c ≠ 92 → ReadR stop (acc ++ (⟨#[c]⟩ : Str)) r tok r' → ReadR stop acc (c :: r) tok r'
def chr (c : Nat) : Str := ⟨#[c]⟩
def nl (cs : List Nat) : Int := (cs.count 10 : Nat)
theorem nl_cons (c : Nat) (r : List Nat) (line : Int) : (if c = 10 then line + 1 else line) = line + nl (c :: r) - nl r := by
  unfold nl
  by_cases h : c = 10
  · subst h; simp; omega
  · rw [if_neg h, List.count_cons_of_ne h]; omega
variable {w : World} {A : Around} {env : Env} {L : Addr} {h₀ : Heap} {m : Str → Option Value} {rest : List (Addr × Obj)} {k : Nat} {s : Shared} {a : LexA}
abbrev Loc (x2 I : Addr) (m' : Str → Option Value) (acc : Str) (t : Tok) : Prop := m' (Str.ofString "self") = some (.ref x2) ∧ m' (Str.ofString "fiter") = some (.ref I) ∧ m' (Str.ofString "token") = some (.str acc t)
theorem read_loop {I q : Addr} {t₀ : Tok} {px : Pos} {stop : Nat → Bool} {body : List Stmt} {RR : Result → Shared → Prop} (hL : env.locals = L) (hx : env.kindOf (Str.ofString "ch") = some .local) (hp : plain env) (O : LexOk w a) (hC : CodeHd h₀ 107 103)
    (hI : (I, callIt q t₀) ∈ rest) (hq : (q, methodObj (.ref 42) (.ref a.x2)) ∈ rest) (hr : ∀ p ∈ rest, p.1 ≠ a.D) (hr2 : ∀ p ∈ rest, p.1 ≠ a.d2)
    (sit : ∀ {h : Heap} {m' : Str → Option Value} {news : List (Addr × Obj)}, Fr h₀ L h m' → News h₀ L h news → Sit w A env L h₀ h m' news (k + 4))
    (hstop : ∀ (s : Shared) m' acc t c tc vs n line tl (K : Flow → Shared → Prop) E', stop c = true → Loc a.x2 I m' acc t → m' (Str.ofString "ch") = some (.str (chr c) tc) → Fr h₀ L s.heap m' → News h₀ L s.heap (a.led vs n line tl rest) →
      (∀ h' tk', Fr h₀ L h' m' → News h₀ L h' (a.led vs n line tl rest) → K (.ret (.str acc t)) { s with heap := h', toks := tk' }) → wpAny (MM w) A (execs body env) K E' s)
    (hplain : ∀ (s : Shared) m' acc t c tc vs n line tl (K : Flow → Shared → Prop) E', stop c = false → c ≠ 92 → acc.length ≤ 1000 → Loc a.x2 I m' acc t → m' (Str.ofString "ch") = some (.str (chr c) tc) → Fr h₀ L s.heap m' → News h₀ L s.heap (a.led vs n line tl rest) →
      (∀ m'' t' h' tk', Loc a.x2 I m'' (acc ++ chr c) t' → Fr h₀ L h' m'' → News h₀ L h' (a.led vs n line tl rest) → K .next { s with heap := h', toks := tk' }) → wpAny (MM w) A (execs body env) K E' s)
    (hesc : ∀ (s : Shared) m' acc t c tc tc' p n line tl (K : Flow → Shared → Prop) E', stop 92 = false → acc.length ≤ 1000 → Loc a.x2 I m' acc t → m' (Str.ofString "ch") = some (.str (chr 92) tc) → (p ++ [Value.str (chr c) tc']).length ≤ sizeLine → Fr h₀ L s.heap m' → News h₀ L s.heap (a.led (p ++ [.str (chr c) tc']) n line tl rest) →
      (∀ m'' t' tl' h' tk', Loc a.x2 I m'' (acc ++ chr c) t' → Fr h₀ L h' m'' → News h₀ L h' (a.led p (n + 1) (if c = 10 then line + 1 else line) tl' rest) → K .next { s with heap := h', toks := tk' }) → wpAny (MM w) A (execs body env) K E' s)
    {acc tok : Str} {cs r' : List Nat} (hB : ReadR stop acc cs tok r') :
    ∀ (s : Shared) (m' : Str → Option Value) (t : Tok) (vals : List Value) (n : Nat) (line : Int) (tl : Tok), StrsAre vals (cs.map chr) → acc.length + cs.length ≤ 1000 → Loc a.x2 I m' acc t → Fr h₀ L s.heap m' → News h₀ L s.heap (a.led vals.reverse n line tl rest) →
      (∀ h' tk' t' vals' n' tl' m'', StrsAre vals' (r'.map chr) → Fr h₀ L h' m'' → News h₀ L h' (a.led vals'.reverse n' (line + nl cs - nl r') tl' rest) → RR (.ok (.ret (.str tok t'))) { s with heap := h', toks := tk' }) →
      codeAny (MM w) A (.forLoop (.Name (Str.ofString "ch") px) (.ref I) body [] env) RR s := by
  have big : 1001 ≤ sizeLine := by decide
  induction hB with
  | @stop acc c r hs =>
    intro s m' t vals n line tl hv hlen hl F N hR
    cases hv with
    | cons y tc hv' =>
      rename_i vals'
      rw [List.reverse_cons] at N
      have hz : (vals'.reverse ++ [Value.str (chr c) tc]).length ≤ sizeLine := by have := hv'.length; simp at this ⊢; simp at hlen; omega
      refine for_unroll fun E => pull_cons (k := k) hL hx hp O hC hI hq hr hr2 hz (sit F N) fun tl' h' tk' F' N' => ?_
      rw [if_pos rfl]
      refine hstop _ _ acc t c tc _ _ _ _ _ E hs ⟨(if_neg (by decide)).trans hl.1, (if_neg (by decide)).trans hl.2.1, (if_neg (by decide)).trans hl.2.2⟩ (if_pos rfl) F' N' fun h₂ tk₂ F₂ N₂ => ?_
      rw [nl_cons c r] at N₂
      exact hR h₂ tk₂ t _ _ _ _ hv' F₂ N₂
  | @esc acc tok c r r' hs hB ih =>
    intro s m' t vals n line tl hv hlen hl F N hR
    cases hv with
    | cons y tc hv' =>
      rename_i vals'
      cases hv' with
      | cons y' tc' hv'' =>
        rename_i vals''
        rw [List.reverse_cons, List.reverse_cons] at N
        have hz : ((vals''.reverse ++ [Value.str (chr c) tc']) ++ [Value.str (chr 92) tc]).length ≤ sizeLine := by have := hv''.length; simp at this ⊢; simp at hlen; omega
        have hz2 : (vals''.reverse ++ [Value.str (chr c) tc']).length ≤ sizeLine := by have := hv''.length; simp at this ⊢; simp at hlen; omega
        refine for_unroll fun E => pull_cons (k := k) hL hx hp O hC hI hq hr hr2 hz (sit F N) fun tl' h' tk' F' N' => ?_
        rw [if_pos rfl]
        refine hesc _ _ acc t c tc tc' _ _ _ _ _ E hs (by simp at hlen; omega) ⟨(if_neg (by decide)).trans hl.1, (if_neg (by decide)).trans hl.2.1, (if_neg (by decide)).trans hl.2.2⟩ (if_pos rfl) hz2 F' N' fun m₂ t₂ tl₂ h₂ tk₂ hl₂ F₂ N₂ => ?_
        refine ih _ m₂ t₂ vals'' _ _ _ hv'' (by show (acc.cps ++ #[c]).size + _ ≤ _; simp at hlen ⊢; show acc.cps.size + 1 + _ ≤ _; have : acc.length = acc.cps.size := rfl; omega) hl₂ F₂ N₂ fun h₃ tk₃ t₃ vals₃ n₃ tl₃ m₃ hv₃ F₃ N₃ => ?_
        have e : (if c = 10 then (if (92 : Nat) = 10 then line + 1 else line) + 1 else (if (92 : Nat) = 10 then line + 1 else line)) + nl r - nl r' = line + nl (92 :: c :: r) - nl r' := by
          rw [if_neg (show ¬ (92 : Nat) = 10 by decide), nl_cons c r]
          have : nl (92 :: c :: r) = nl (c :: r) := by unfold nl; rw [List.count_cons_of_ne (by decide)]
          rw [this]; omega
        rw [e] at N₃
        exact hR h₃ tk₃ t₃ vals₃ n₃ tl₃ m₃ hv₃ F₃ N₃
  | @plain acc tok c r r' hs hc hB ih =>
    intro s m' t vals n line tl hv hlen hl F N hR
    cases hv with
    | cons y tc hv' =>
      rename_i vals'
      rw [List.reverse_cons] at N
      have hz : (vals'.reverse ++ [Value.str (chr c) tc]).length ≤ sizeLine := by have := hv'.length; simp at this ⊢; simp at hlen; omega
      refine for_unroll fun E => pull_cons (k := k) hL hx hp O hC hI hq hr hr2 hz (sit F N) fun tl' h' tk' F' N' => ?_
      rw [if_pos rfl]
      refine hplain _ _ acc t c tc _ _ _ _ _ E hs hc (by simp at hlen; omega) ⟨(if_neg (by decide)).trans hl.1, (if_neg (by decide)).trans hl.2.1, (if_neg (by decide)).trans hl.2.2⟩ (if_pos rfl) F' N' fun m₂ t₂ h₂ tk₂ hl₂ F₂ N₂ => ?_
      refine ih _ m₂ t₂ vals' _ _ _ hv' (by show (acc.cps ++ #[c]).size + _ ≤ _; simp at hlen ⊢; show acc.cps.size + 1 + _ ≤ _; have : acc.length = acc.cps.size := rfl; omega) hl₂ F₂ N₂ fun h₃ tk₃ t₃ vals₃ n₃ tl₃ m₃ hv₃ F₃ N₃ => ?_
      rw [show (if c = 10 then line + 1 else line) + nl r - nl r' = line + nl (c :: r) - nl r' by rw [nl_cons c r]; omega] at N₃
      exact hR h₃ tk₃ t₃ vals₃ n₃ tl₃ m₃ hv₃ F₃ N₃
end readloop

end SP19
theorem rstP20 : True ∧ True := by
  w_top off
  first
    | (walk1; done)
    | exact ⟨trivial, trivial⟩
section SP20
section gettoken
variable {w : World} {A : Around} {env : Env} {L : Addr} {h₀ : Heap} {m : Str → Option Value} {rest : List (Addr × Obj)} {k : Nat} {s : Shared} {Q E : Value → Shared → Prop} {a : LexA}
theorem args_calliter_iter (x : Value) : argsOk "callable_iterator.__iter__" ⟨[x], []⟩ := by
  unfold argsOk; rw [signature?_of (id := "callable_iterator.__iter__") (n := ['_', '_', 'r', 'e', 't', 'i', '_', '_']) (o := ['r', 'o', 't', 'a', 'r', 'e', 't', 'i', '_', 'e', 'l', 'b', 'a', 'l', 'l', 'a', 'c']) (by kernel_rfl) owner_calliter]; kernel_rfl
theorem entry_calliter_iter : entryFor table "callable_iterator.__iter__" = some Builtin.«dict_keyiterator.__iter__» :=
  entryFor_alias (id' := "dict_keyiterator.__iter__") (by kernel_rfl) rfl (by decide +kernel) (by kernel_rfl)
theorem pyIter_callit {I q : Addr} {t : Tok} {Q : Value → Shared → Prop} {news : List (Addr × Obj)} (N : News h₀ L s.heap news) (hI : (I, callIt q t) ∈ news) (h : Q (.ref I) s) : wpAny (MM w) A (pyIter (.ref I)) Q E s := by
  have hT : s.TypeIs (.ref I) "callable_iterator" := ⟨_, (N _ hI).1, rfl⟩
  refine wpAny_pyIter_slot hT slot_calliter_iter (wpAny_call_entry slot_calliter_iter hT entry_calliter_iter ?_ (args_calliter_iter _))
  show wpAny _ _ (ret (.ref I)) _ _ s
  exact wpAny_pure ⟨_, rfl, "callable_iterator", _, hT, slot_calliter_next.lookup, h⟩
theorem led_two {vs : List Value} {n : Nat} {line : Int} {tl : Tok} {x y : Addr × Obj} {h : Heap} (N : News h₀ L h (x :: y :: a.led vs n line tl rest)) : News h₀ L h (a.led vs n line tl (x :: y :: rest)) := by
  intro p hp
  refine N p ?_
  have hp' : p ∈ a.led vs n line tl [] ++ (x :: y :: rest) := hp
  show p ∈ x :: y :: (a.led vs n line tl [] ++ rest)
  rcases List.mem_append.mp hp' with h | h
  · exact .tail _ (.tail _ (List.mem_append.mpr (.inl h)))
  · rcases List.mem_cons.mp h with rfl | h
    · exact .head _
    · rcases List.mem_cons.mp h with rfl | h
      · exact .tail _ (.head _)
      · exact .tail _ (.tail _ (List.mem_append.mpr (.inr h)))
theorem led_one_mem {vs : List Value} {n : Nat} {line : Int} {tl : Tok} {x p : Addr × Obj} (hp : p ∈ a.led vs n line tl (x :: rest)) : p ∈ x :: a.led vs n line tl rest := by
  have hp' : p ∈ a.led vs n line tl [] ++ (x :: rest) := hp
  show p ∈ x :: (a.led vs n line tl [] ++ rest)
  rcases List.mem_append.mp hp' with h | h
  · exact .tail _ (List.mem_append.mpr (.inl h))
  · rcases List.mem_cons.mp h with rfl | h
    · exact .head _
    · exact .tail _ (List.mem_append.mpr (.inr h))
theorem led_mono {vs : List Value} {n : Nat} {line line' : Int} {tl : Tok} {h : Heap} {r₂ : List (Addr × Obj)} (N : News h₀ L h (a.led vs n line tl r₂)) (e : line' = line) (hs : ∀ p ∈ rest, p ∈ r₂) : News h₀ L h (a.led vs n line' tl rest) := by
  subst e
  intro p hp
  refine N p ?_
  have hp' : p ∈ a.led vs n line' tl [] ++ rest := hp
  show p ∈ a.led vs n line' tl [] ++ r₂
  rcases List.mem_append.mp hp' with h | h
  · exact List.mem_append.mpr (.inl h)
  · exact List.mem_append.mpr (.inr (hs p h))
/-- is a sign one of the lexer's blanks -/
def inWs (c : Nat) : Bool := !(Builtin.Str.occurrences wsS (chr c) 0 wsS.length 1).isEmpty
local macro_rules | `(tactic| walk_at "truthy ref") => `(tactic| (k_extra "my z54"; intro tk'; (try simp only [List.isEmpty_append, List.isEmpty_cons, List.isEmpty_nil, Bool.and_false, Bool.not_false, Bool.not_true, Bool.and_true]); (try dsimp only)))
local macro_rules | `(tactic| walk_at "call builtin:iter") => `(tactic| (k_extra "my z55"; intro I' h' F' N' l1'; (try k_lt l1'); (try dsimp only)))
local macro_rules | `(tactic| walk_at "pyIter ref") => `(tactic| k_extra "my z56")
local macro_rules | `(tactic| walk_at "loadName") => `(tactic| k_extra "my z57")
theorem chr_eq (c d : Nat) (x : Str) (h : x.cps = #[d]) : (chr c == x) = (c == d) := by
  rw [Bool.eq_iff_iff, beq_iff_eq, beq_iff_eq]
  constructor
  · intro e
    have := congrArg Str.cps e
    rw [h] at this
    simpa [chr] using this
  · rintro rfl
    cases x
    exact congrArg Str.mk h.symm
theorem chr34 (c : Nat) : (chr c == Str.ofString "\"") = (c == 34) := chr_eq c 34 _ (by decide +kernel)
theorem chr92 (c : Nat) : (chr c == Str.ofString "\\") = (c == 92) := chr_eq c 92 _ (by decide +kernel)
theorem no34 {c : Nat} (e : (chr c == Str.ofString "\"") = true) (h : (c == 34) = false) : False := by rw [chr34, h] at e; cases e
theorem no92 {c : Nat} (e : (chr c == Str.ofString "\\") = true) (h : c ≠ 92) : False := by rw [chr92] at e; exact h (eq_of_beq e)
theorem small_add {x : Str} {c : Nat} (h : x.length ≤ 1000) : x.length + (chr c).length ≤ sizeLine := by
  have h1 : (1001 : Nat) ≤ sizeLine := by decide
  have h2 : (chr c).length = 1 := rfl
  omega
theorem small_nil {c : Nat} : (Str.ofString "").length + (chr c).length ≤ sizeLine := small_add (by decide)
theorem nl_push (c : Nat) (cs r : List Nat) (line : Int) : line + nl (c :: cs) - nl r = (if c = 10 then line + 1 else line) + nl cs - nl r := by
  rw [nl_cons c cs]; omega
theorem nl_push2 (c : Nat) (cs r : List Nat) (line : Int) : line + nl (92 :: c :: cs) - nl r = (if c = 10 then (if (92 : Nat) = 10 then line + 1 else line) + 1 else (if (92 : Nat) = 10 then line + 1 else line)) + nl cs - nl r := by
  rw [if_neg (show ¬ (92 : Nat) = 10 by decide), nl_cons c cs]
  have : nl (92 :: c :: cs) = nl (c :: cs) := by unfold nl; rw [List.count_cons_of_ne (by decide)]
  rw [this]; omega
theorem wsT {c : Nat} (h : inWs c = true) (e : (Builtin.Str.occurrences wsS (chr c) 0 wsS.length 1).isEmpty = true) : False := by unfold inWs at h; rw [e] at h; cases h
theorem wsF {c : Nat} (h : inWs c = false) (e : (Builtin.Str.occurrences wsS (chr c) 0 wsS.length 1).isEmpty = false) : False := by unfold inWs at h; rw [e] at h; cases h
theorem snocLe2 {vs : List Value} {cs : List Nat} {y z : Value} (hv : StrsAre vs (cs.map chr)) (h : cs.length ≤ 500) : ((vs.reverse ++ [y]) ++ [z]).length ≤ sizeLine := by
  have h1 : (1001 : Nat) ≤ sizeLine := by decide
  have := hv.len_eq
  simp at this ⊢; omega
theorem len_nil_chr (c : Nat) : (Str.ofString "" ++ chr c).length = 1 := by
  show ((Str.ofString "").cps ++ (chr c).cps).size = 1
  have : (Str.ofString "").cps.size = 0 := by decide
  rw [Array.size_append, this]; rfl
theorem snocLe {vs : List Value} {cs : List Nat} {y : Value} (hv : StrsAre vs (cs.map chr)) (h : cs.length ≤ 500) : (vs.reverse ++ [y]).length ≤ sizeLine := by
  have h1 : (1001 : Nat) ≤ sizeLine := by decide
  have := hv.len_eq
  simp at this ⊢; omega
local macro_rules | `(tactic| walk_at "inplaceOp Add str str") => `(tactic| (k_extra "my z58"; intro t' tk'; (try dsimp only)))
/-- one token: what leads it, what it is, what is left -/
inductive TokR : List Nat → Str → List Nat → Prop
  | nil : TokR [] (Str.ofString "") []
  | quot {cs r : List Nat} {tok : Str} : ReadR (fun c => c == 34) (Str.ofString "") cs tok r → TokR (34 :: cs) tok r
  | esc {c : Nat} {cs r : List Nat} {tok : Str} : ReadR inWs (Str.ofString "" ++ chr c) cs tok r → TokR (92 :: c :: cs) tok r
  | plain {c : Nat} {cs r : List Nat} {tok : Str} : ¬ c = 34 → ¬ c = 92 → inWs c = false → ReadR inWs (Str.ofString "" ++ chr c) cs tok r → TokR (c :: cs) tok r
theorem get_tok {n n2 : Nat} {line : Int} {tl : Tok} {vals : List Value} {cs r : List Nat} {tok : Str} (hB : TokR cs tok r) (O : LexOk w a) (hC : CodeHd h₀ 107 103) (hr : ∀ p ∈ rest, p.1 ≠ a.D) (hr2 : ∀ p ∈ rest, p.1 ≠ a.d2) (hv : StrsAre vals (cs.map chr)) (hz : cs.length ≤ 500)
    (S : Sit w A env L h₀ s.heap m (a.led vals.reverse n line tl ((a.p2, W.listOf ([] : List Value).toArray n2) :: rest)) (k + 5)) {R : Result → Shared → Prop}
    (hret : ∀ t h' tk' vals' n' tl', Fr h₀ L h' m → StrsAre vals' (r.map chr) → News h₀ L h' (a.led vals'.reverse n' (line + nl cs - nl r) tl' ((a.p2, W.listOf ([] : List Value).toArray n2) :: rest)) → R (.ok (.ret (.str tok t))) { s with heap := h', toks := tk' }) :
    codeAny (MM w) A (.call (.ref 49) ⟨[.ref a.x2], []⟩) R s := by
  dsimp only [LexA.led] at S
  have hfn := O.fn
  have hlt := O.lt
  have hrk := O.ranked
  walk_at "my open"
  walk_at "my enter0"
  k_steps
  with_reducible rename Fr h₀ L _ m => FG
  with_reducible rename Fr _ _ _ _ => F1
  with_reducible rename News _ _ _ _ => N1
  have C' := hC.keeps FG.keep
  have N2 := led_two (a := a) N1
  clear N1
  have hofR : ∀ {x y z : Addr × Obj}, (x.1 ≠ a.D ∧ y.1 ≠ a.D ∧ z.1 ≠ a.D) → ∀ p ∈ x :: y :: z :: rest, p.1 ≠ a.D := fun ⟨e1, e2, e3⟩ p hp => by
    rcases List.mem_cons.mp hp with rfl | hp
    · exact e1
    rcases List.mem_cons.mp hp with rfl | hp
    · exact e2
    rcases List.mem_cons.mp hp with rfl | hp
    · exact e3
    exact hr p hp
  have hofR2 : ∀ {x y z : Addr × Obj}, (x.1 ≠ a.d2 ∧ y.1 ≠ a.d2 ∧ z.1 ≠ a.d2) → ∀ p ∈ x :: y :: z :: rest, p.1 ≠ a.d2 := fun ⟨e1, e2, e3⟩ p hp => by
    rcases List.mem_cons.mp hp with rfl | hp
    · exact e1
    rcases List.mem_cons.mp hp with rfl | hp
    · exact e2
    rcases List.mem_cons.mp hp with rfl | hp
    · exact e3
    exact hr2 p hp
  cases hB with
  | nil =>
    have := StrsAre.len_eq hv
    cases hv
    refine for_unroll fun E' => ?_
    refine' pull_nil (k := k) O C' (.head _) (hofR ?o1) ?o2 ?S ?_
    case S => walk_at "my sit"
    case o1 => refine ⟨?_, ?_, ?_⟩ <;> k_ne
    case o2 => exact fun p hp => allLt_ne (by assumption) p (led_one_mem hp)
    intro h₂ tk₂ F₂ N₂
    rw [if_neg (by decide)]
    k_steps
    exact hret _ _ _ [] _ _ (by assumption) .nil (led_mono (by assumption) (by simp only [Int.add_sub_cancel]) fun p hp => .tail _ hp)
  | quot hR =>
    cases hv with
    | cons y tc hv' =>
    rw [List.reverse_cons] at N2
    refine for_unroll fun E' => ?_
    refine' pull_cons (k := k) rfl rfl rfl O C' (.head _) (.tail _ (.head _)) (hofR ?o1) (hofR2 ?o2) ?z ?S ?_
    case S => walk_at "my sit"
    case o1 => refine ⟨?_, ?_, ?_⟩ <;> k_ne
    case o2 => refine ⟨?_, ?_, ?_⟩ <;> k_ne
    case z => exact snocLe hv' (by simp only [List.length_cons] at hz; omega)
    intro tl₂ h₂ tk₂ F₂ N₂
    rw [if_pos rfl]
    dsimp only [LexA.led] at N₂
    k_steps
    next =>
      refine' read_loop (k := k) (stop := fun c => c == 34) (I := _) rfl rfl rfl O C' (.head _) (.tail _ (.head _)) (hofR ?o1) (hofR2 ?o2) ?sit ?hstop ?hplain ?hesc hR _ _ _ _ _ _ _ hv' ?len ?loc ?F ?N ?R
      case F => k_asm
      case N => first | assumption | exact N₂
      case hstop =>
        intro s m' acc t c tc vs n line tl K E' hc hl hch F N hK
        obtain ⟨hls, hlf, hlt⟩ := hl
        obtain rfl : c = 34 := by simpa using hc
        k_steps
        dsimp only
        exact hK _ _ (by assumption) (by assumption)
      case hplain =>
        intro s m' acc t c tc vs n line tl K E' hc hc2 hac hl hch F N hK
        obtain ⟨hls, hlf, hlt⟩ := hl
        k_steps
        all_goals first
          | exact (no34 (by assumption) (by assumption)).elim
          | exact (no92 (by assumption) (by assumption)).elim
          | (refine' hK _ _ _ _ ?l ?F ?N; (case F => assumption); (case N => assumption); (case l => exact ⟨by walk_at "my look", by walk_at "my look", by walk_at "my look"⟩))
      case hesc =>
        intro s m' acc t c tc tc' p n line tl K E' hc hac hl hch hz F N hK
        obtain ⟨hls, hlf, hlt⟩ := hl
        k_steps
        all_goals first
          | (exfalso; with_reducible rename List.isEmpty _ = false => e; exact absurd e (by decide +kernel))
          | skip
        dsimp only [List.nil_append, List.append_nil, List.cons_append]
        refine wpAny_call ?_
        refine' read_cons (k := k) (p := p) (c := c) (tc := tc') O C' (hofR ?o3) (hofR2 ?o4) hz ?S2 ?_
        case S2 => walk_at "my sit"
        case o3 => refine ⟨?_, ?_, ?_⟩ <;> k_ne
        case o4 => refine ⟨?_, ?_, ?_⟩ <;> k_ne
        intro tl₃ h₃ tk₃ F₃ N₃
        k_steps
        (refine' hK _ _ _ _ _ ?l ?F ?N; (case F => assumption); (case N => assumption); (case l => exact ⟨by walk_at "my look", by walk_at "my look", by walk_at "my look"⟩))
      case o1 => refine ⟨?_, ?_, ?_⟩ <;> k_ne
      case o2 => refine ⟨?_, ?_, ?_⟩ <;> k_ne
      case len => have : (Str.ofString "").length = 0 := by decide
                  simp only [List.length_cons] at hz; omega
      case loc => exact ⟨by walk_at "my look", by walk_at "my look", by walk_at "my look"⟩
      case sit => intro h m' news F N; walk_at "my sit"
      case R =>
        intro h₃ tk₃ t₃ vals₃ n₃ tl₃ m₃ hv₃ F₃ N₃
        k_steps
        exact hret _ _ _ _ _ _ (by assumption) hv₃ (led_mono (by assumption) (nl_push 34 _ _ _) fun p hp => .tail _ (.tail _ hp))
    all_goals (with_reducible rename List.isEmpty _ = false => e; exact absurd e (by decide +kernel))
  | esc hR =>
    cases hv with
    | cons y tc hv₁ =>
    cases hv₁ with
    | cons y' tc' hv' =>
    rename_i vs₂
    rw [List.reverse_cons, List.reverse_cons] at N2
    refine for_unroll fun E' => ?_
    refine' pull_cons (k := k) rfl rfl rfl O C' (.head _) (.tail _ (.head _)) (hofR ?o1) (hofR2 ?o2) ?z ?S ?_
    case S => walk_at "my sit"
    case o1 => refine ⟨?_, ?_, ?_⟩ <;> k_ne
    case o2 => refine ⟨?_, ?_, ?_⟩ <;> k_ne
    case z => exact snocLe2 hv' (by simp only [List.length_cons] at hz; omega)
    intro tl₂ h₂ tk₂ F₂ N₂
    rw [if_pos rfl]
    dsimp only [LexA.led] at N₂
    k_steps
    next =>
      dsimp only [List.nil_append, List.append_nil, List.cons_append]
      refine wpAny_call ?_
      refine' read_cons (k := k) (tc := tc') O C' (hofR ?o3) (hofR2 ?o4) ?z2 ?S2 ?_
      case S2 => walk_at "my sit"
      case z2 => exact snocLe hv' (by simp only [List.length_cons] at hz; omega)
      case o3 => refine ⟨?_, ?_, ?_⟩ <;> k_ne
      case o4 => refine ⟨?_, ?_, ?_⟩ <;> k_ne
      intro tl₃ h₃ tk₃ F₃ N₃
      k_steps
      refine' read_loop (k := k) (stop := inWs) (I := _) rfl rfl rfl O C' (.head _) (.tail _ (.head _)) (hofR ?o1) (hofR2 ?o2) ?sit ?hstop ?hplain ?hesc hR _ _ _ _ _ _ _ hv' ?len ?loc ?F ?N ?R
      case F => k_asm
      case N => first | assumption | exact N₂
      case hstop =>
        intro s m' acc t c tc vs n line tl K E' hc hl hch F N hK
        obtain ⟨hls, hlf, hlt⟩ := hl
        k_steps
        all_goals first
          | exact (wsT (by assumption) (by assumption)).elim
          | exact hK _ _ (by assumption) (by assumption)
      case hplain =>
        intro s m' acc t c tc vs n line tl K E' hc hc2 hac hl hch F N hK
        obtain ⟨hls, hlf, hlt⟩ := hl
        k_steps
        all_goals first
          | exact (wsF (by assumption) (by assumption)).elim
          | exact (no92 (by assumption) (by assumption)).elim
          | (refine' hK _ _ _ _ ?l ?F ?N; (case F => assumption); (case N => assumption); (case l => exact ⟨by walk_at "my look", by walk_at "my look", by walk_at "my look"⟩))
      case hesc =>
        intro s m' acc t c tc tc' p n line tl K E' hc hac hl hch hz F N hK
        obtain ⟨hls, hlf, hlt⟩ := hl
        k_steps
        all_goals first
          | (exfalso; with_reducible rename List.isEmpty _ = false => e; exact absurd e (by decide +kernel))
          | skip
        dsimp only [List.nil_append, List.append_nil, List.cons_append]
        refine wpAny_call ?_
        refine' read_cons (k := k) (p := p) (c := c) (tc := tc') O C' (hofR ?o3) (hofR2 ?o4) hz ?S2 ?_
        case S2 => walk_at "my sit"
        case o3 => refine ⟨?_, ?_, ?_⟩ <;> k_ne
        case o4 => refine ⟨?_, ?_, ?_⟩ <;> k_ne
        intro tl₃ h₃ tk₃ F₃ N₃
        k_steps
        (refine' hK _ _ _ _ _ ?l ?F ?N; (case F => assumption); (case N => assumption); (case l => exact ⟨by walk_at "my look", by walk_at "my look", by walk_at "my look"⟩))
      case o1 => refine ⟨?_, ?_, ?_⟩ <;> k_ne
      case o2 => refine ⟨?_, ?_, ?_⟩ <;> k_ne
      case len => rw [len_nil_chr]; simp only [List.length_cons] at hz; omega
      case loc => exact ⟨by walk_at "my look", by walk_at "my look", by walk_at "my look"⟩
      case sit => intro h m' news F N; walk_at "my sit"
      case R =>
        intro h₃ tk₃ t₃ vals₃ n₃ tl₃ m₃ hv₃ F₃ N₃
        k_steps
        exact hret _ _ _ _ _ _ (by assumption) hv₃ (led_mono (by assumption) (nl_push2 _ _ _ _) fun p hp => .tail _ (.tail _ hp))
    all_goals (with_reducible rename List.isEmpty _ = false => e; exact absurd e (by decide +kernel))
  | plain h34 h92 hws hR =>
    cases hv with
    | cons y tc hv' =>
    rw [List.reverse_cons] at N2
    refine for_unroll fun E' => ?_
    refine' pull_cons (k := k) rfl rfl rfl O C' (.head _) (.tail _ (.head _)) (hofR ?o1) (hofR2 ?o2) ?z ?S ?_
    case S => walk_at "my sit"
    case o1 => refine ⟨?_, ?_, ?_⟩ <;> k_ne
    case o2 => refine ⟨?_, ?_, ?_⟩ <;> k_ne
    case z => exact snocLe hv' (by simp only [List.length_cons] at hz; omega)
    intro tl₂ h₂ tk₂ F₂ N₂
    rw [if_pos rfl]
    dsimp only [LexA.led] at N₂
    k_steps
    all_goals first
      | exact (wsF (by assumption) (by assumption)).elim
      | exact (no34 (by assumption) (by simpa using h34)).elim
      | exact (no92 (by assumption) (by assumption)).elim
      | skip
    next =>
      refine' read_loop (k := k) (stop := inWs) (I := _) rfl rfl rfl O C' (.head _) (.tail _ (.head _)) (hofR ?o1) (hofR2 ?o2) ?sit ?hstop ?hplain ?hesc hR _ _ _ _ _ _ _ hv' ?len ?loc ?F ?N ?R
      case F => k_asm
      case N => first | assumption | exact N₂
      case hstop =>
        intro s m' acc t c tc vs n line tl K E' hc hl hch F N hK
        obtain ⟨hls, hlf, hlt⟩ := hl
        k_steps
        all_goals first
          | exact (wsT (by assumption) (by assumption)).elim
          | exact hK _ _ (by assumption) (by assumption)
      case hplain =>
        intro s m' acc t c tc vs n line tl K E' hc hc2 hac hl hch F N hK
        obtain ⟨hls, hlf, hlt⟩ := hl
        k_steps
        all_goals first
          | exact (wsF (by assumption) (by assumption)).elim
          | exact (no92 (by assumption) (by assumption)).elim
          | (refine' hK _ _ _ _ ?l ?F ?N; (case F => assumption); (case N => assumption); (case l => exact ⟨by walk_at "my look", by walk_at "my look", by walk_at "my look"⟩))
      case hesc =>
        intro s m' acc t c tc tc' p n line tl K E' hc hac hl hch hz F N hK
        obtain ⟨hls, hlf, hlt⟩ := hl
        k_steps
        all_goals first
          | (exfalso; with_reducible rename List.isEmpty _ = false => e; exact absurd e (by decide +kernel))
          | skip
        dsimp only [List.nil_append, List.append_nil, List.cons_append]
        refine wpAny_call ?_
        refine' read_cons (k := k) (p := p) (c := c) (tc := tc') O C' (hofR ?o3) (hofR2 ?o4) hz ?S2 ?_
        case S2 => walk_at "my sit"
        case o3 => refine ⟨?_, ?_, ?_⟩ <;> k_ne
        case o4 => refine ⟨?_, ?_, ?_⟩ <;> k_ne
        intro tl₃ h₃ tk₃ F₃ N₃
        k_steps
        (refine' hK _ _ _ _ _ ?l ?F ?N; (case F => assumption); (case N => assumption); (case l => exact ⟨by walk_at "my look", by walk_at "my look", by walk_at "my look"⟩))
      case o1 => refine ⟨?_, ?_, ?_⟩ <;> k_ne
      case o2 => refine ⟨?_, ?_, ?_⟩ <;> k_ne
      case len => rw [len_nil_chr]; simp only [List.length_cons] at hz; omega
      case loc => exact ⟨by walk_at "my look", by walk_at "my look", by walk_at "my look"⟩
      case sit => intro h m' news F N; walk_at "my sit"
      case R =>
        intro h₃ tk₃ t₃ vals₃ n₃ tl₃ m₃ hv₃ F₃ N₃
        k_steps
        exact hret _ _ _ _ _ _ (by assumption) hv₃ (led_mono (by assumption) (nl_push _ _ _ _) fun p hp => .tail _ (.tail _ hp))
end gettoken

end SP20
theorem rstP21 : True ∧ True := by
  w_top off
  first
    | (walk1; done)
    | exact ⟨trivial, trivial⟩
section SP21
section push
variable {w : World} {A : Around} {env : Env} {L : Addr} {h₀ : Heap} {m : Str → Option Value} {rest : List (Addr × Obj)} {k : Nat} {s : Shared} {Q E : Value → Shared → Prop} {a : LexA}
local macro_rules | `(tactic| walk_at "truthy ref") => `(tactic| (k_extra "my z59"; intro tk'; (try simp only [List.isEmpty_append, List.isEmpty_cons, List.isEmpty_nil, Bool.and_false, Bool.not_false, Bool.not_true, Bool.and_true]); (try dsimp only)))
theorem pop0_mine {D : Addr} {vs : List Value} {y : Value} {n : Nat} {u : Tok} {news news' : List (Addr × Obj)} {Q : Value → Shared → Prop} {E : Value → Shared → Prop} (F : Fr h₀ L s.heap m) (N : News h₀ L s.heap news) (U : Upd D (W.listOf (y :: vs).toArray n) (W.listOf vs.toArray (n + 1)) news news')
    (hz : (y :: vs).length ≤ sizeLine) (h : ∀ h', Fr h₀ L h' m → News h₀ L h' news' → Q y { s with heap := h' }) : wpAny (MM w) A (call (.builtin "list.pop") [.ref D, .int 0 u]) Q E s := by
  refine kl_popAt (k := 0) (p := []) (q := vs) F N (by decide) ?_ ?_ U (by rw [List.toList_toArray]; exact hz) h
  · rw [List.size_toArray]; exact seqIndex_of (by decide) (by simp only [List.length_cons]; omega)
  · rw [List.toList_toArray]; rfl
theorem append_mine {D : Addr} {vs : List Value} {y : Value} {n : Nat} {news news' : List (Addr × Obj)} {Q : Value → Shared → Prop} {E : Value → Shared → Prop} (F : Fr h₀ L s.heap m) (N : News h₀ L s.heap news) (U : Upd D (W.listOf vs.toArray n) (W.listOf (vs ++ [y]).toArray (n + 1)) news news')
    (hz : vs.length ≤ sizeLine) (h : ∀ h', Fr h₀ L h' m → News h₀ L h' news' → Q .none { s with heap := h' }) : wpAny (MM w) A (call (.builtin "list.append") [.ref D, y]) Q E s := by
  have e : (vs ++ [y]).toArray = vs.toArray.push y := by simp
  rw [e] at U
  exact append_K F N U h (by rw [List.size_toArray]; exact hz)
local macro_rules | `(tactic| walk_at "call builtin:list.pop") => `(tactic| (k_extra "my z60"; intro h' F' N'; (try dsimp only)))
local macro_rules | `(tactic| walk_at "call builtin:list.append") => `(tactic| (k_extra "my z61"; intro h' F' N'; (try dsimp only)))
theorem get_push {vals pb : List Value} {y : Value} {n n2 : Nat} {line : Int} {tl : Tok} (O : LexOk w a) (hr3 : ∀ p ∈ rest, p.1 ≠ a.p2) (hz : (y :: pb).length ≤ sizeLine)
    (S : Sit w A env L h₀ s.heap m (a.led vals n line tl ((a.p2, W.listOf (y :: pb).toArray n2) :: rest)) (k + 5)) {R : Result → Shared → Prop}
    (hret : ∀ h' tk', Fr h₀ L h' m → News h₀ L h' (a.led vals n line tl ((a.p2, W.listOf pb.toArray (n2 + 1)) :: rest)) → R (.ok (.ret y)) { s with heap := h', toks := tk' }) :
    codeAny (MM w) A (.call (.ref 49) ⟨[.ref a.x2], []⟩) R s := by
  dsimp only [LexA.led] at S
  have hlt := O.lt
  have hrk := O.ranked
  walk_at "my open"
  walk_at "my enter0"
  k_steps
  · exfalso; with_reducible rename List.isEmpty _ = true => e; exact absurd e (by simp)
  · exact hret _ _ (by assumption) (by assumption)
theorem push_spec {vals pb : List Value} {y : Value} {n n2 : Nat} {line : Int} {tl : Tok} (O : LexOk w a) (hr3 : ∀ p ∈ rest, p.1 ≠ a.p2) (hz : (pb ++ [y]).length ≤ sizeLine)
    (S : Sit w A env L h₀ s.heap m (a.led vals n line tl ((a.p2, W.listOf pb.toArray n2) :: rest)) (k + 5)) {R : Result → Shared → Prop}
    (hret : ∀ h' tk', Fr h₀ L h' m → News h₀ L h' (a.led vals n line tl ((a.p2, W.listOf (pb ++ [y]).toArray (n2 + 1)) :: rest)) → R (.ok (.ret .none)) { s with heap := h', toks := tk' }) :
    codeAny (MM w) A (.call (.ref 56) ⟨[.ref a.x2, y], []⟩) R s := by
  dsimp only [LexA.led] at S
  have hlt := O.lt
  have hrk := O.ranked
  walk_at "my open"
  walk_at "my enter0"
  k_steps
  exact hret _ _ (by assumption) (by assumption)
end push

end SP21
theorem rstP22 : True ∧ True := by
  w_top off
  first
    | (walk1; done)
    | exact ⟨trivial, trivial⟩
section SP22
section counted
variable {w : World} {A : Around} {env : Env} {L : Addr} {h₀ : Heap} {m : Str → Option Value} {rest : List (Addr × Obj)} {k : Nat} {s : Shared} {Q E : Value → Shared → Prop} {a : LexA}
local macro_rules | `(tactic| walk_at "call ref") => `(tactic| (k_extra "my z62"; intro t' h' tk' F' N'; (try dsimp only); (try k_sweep)))
local macro_rules | `(tactic| walk_at "call ref") => `(tactic| (k_extra "my z63"; intro t' h' tk' F' N'; (try dsimp only); (try k_sweep)))
def cnt (j : Int) (ws : List Str) (y : Str) : Nat := (ws.filter fun x => notAbove j x y).length
theorem led_in {vs : List Value} {n : Nat} {line : Int} {tl : Tok} {x y : Addr × Obj} {h : Heap} (N : News h₀ L h (x :: a.led vs n line tl (y :: rest))) : News h₀ L h (a.led vs n line tl (y :: x :: rest)) := by
  intro p hp
  refine N p ?_
  have hp' : p ∈ a.led vs n line tl [] ++ (y :: x :: rest) := hp
  show p ∈ x :: (a.led vs n line tl [] ++ (y :: rest))
  simp only [List.mem_append, List.mem_cons] at hp' ⊢
  rcases hp' with h | h | h | h
  · exact .inr (.inl h)
  · exact .inr (.inr (.inl h))
  · exact .inl h
  · exact .inr (.inr (.inr h))
theorem led_out {vs : List Value} {n : Nat} {line : Int} {tl : Tok} {x y p : Addr × Obj} (hp : p ∈ x :: a.led vs n line tl (y :: rest)) : p ∈ a.led vs n line tl (y :: x :: rest) := by
  have hp' : p ∈ x :: (a.led vs n line tl [] ++ (y :: rest)) := hp
  show p ∈ a.led vs n line tl [] ++ (y :: x :: rest)
  simp only [List.mem_append, List.mem_cons] at hp' ⊢
  rcases hp' with h | h | h | h
  · exact .inr (.inr (.inl h))
  · exact .inl h
  · exact .inr (.inl h)
  · exact .inr (.inr (.inr h))
theorem rot_strs {pb : List Value} {ws : List Str} (hp : StrsAre pb ws) {i : Nat} (hi : i < ws.length) : ∃ x t, ws[i]? = some x ∧ pb.drop i ++ pb.take i = .str x t :: (pb.drop (i + 1) ++ pb.take i) ∧ pb.drop (i + 1) ++ pb.take (i + 1) = (pb.drop (i + 1) ++ pb.take i) ++ [.str x t] := by
  have hl := hp.len_eq
  obtain ⟨t, e⟩ := hp.get i _ (List.getElem?_eq_getElem hi)
  obtain ⟨h1, h2⟩ := List.getElem?_eq_some_iff.mp e
  refine ⟨ws[i], t, List.getElem?_eq_getElem hi, ?_, ?_⟩
  · rw [List.drop_eq_getElem_cons h1, h2]; rfl
  · rw [List.take_add_one, e, List.append_assoc]; rfl
theorem cnt_succ {j : Int} {ws : List Str} {x y : Str} {i : Nat} (hx : ws[i]? = some x) : cnt j (ws.take (i + 1)) y = cnt j (ws.take i) y + (if notAbove j x y = true then 1 else 0) := by
  unfold cnt
  rw [List.take_add_one, hx, List.filter_append, List.length_append]
  congr 1
  by_cases h : notAbove j x y = true
  · rw [if_pos h]; simp [h]
  · rw [if_neg h]; simp [h]
theorem led_off {vs : List Value} {n : Nat} {line : Int} {tl : Tok} {b I : Addr} {o : Obj} (h : ∀ p ∈ a.led vs n line tl ((b, o) :: rest), p.1 < I) (o' : Obj) : ∀ p ∈ a.led vs n line tl ((b, o') :: rest), ∀ c ∈ [I], p.1 ≠ c := by
  intro p hp c hc
  rw [List.mem_singleton.mp hc]
  have hp' : p ∈ a.led vs n line tl [] ++ ((b, o') :: rest) := hp
  have h' : ∀ p ∈ a.led vs n line tl [] ++ ((b, o) :: rest), p.1 < I := h
  rcases List.mem_append.mp hp' with q | q
  · exact Nat.ne_of_lt (h' p (List.mem_append.mpr (.inl q)))
  · rcases List.mem_cons.mp q with q | q
    · rw [q]; exact Nat.ne_of_lt (h' (b, o) (List.mem_append.mpr (.inr (.head _))))
    · exact Nat.ne_of_lt (h' p (List.mem_append.mpr (.inr (.tail _ q))))
theorem counted_spec {vals pb : List Value} {ws : List Str} {y : Str} {j : Int} {tj ty : Tok} {n n2 : Nat} {line : Int} {tl : Tok} (O : LexOk w a) (hr3 : ∀ p ∈ rest, p.1 ≠ a.p2) (hj : j = 0 ∨ j = 1) (hy : y ∈ ops) (hw : ∀ x ∈ ws, x ∈ ops) (hp : StrsAre pb ws) (h4 : ws.length = 4)
    (S : Sit w A env L h₀ s.heap m (a.led vals n line tl ((a.p2, W.listOf pb.toArray n2) :: rest)) (k + 6))
    (hret : ∀ t h' tk' n', Fr h₀ L h' m → News h₀ L h' (a.led vals n line tl ((a.p2, W.listOf pb.toArray n') :: rest)) → Q (.int (cnt j ws y) t) { s with heap := h', toks := tk' }) :
    wpAny (MM w) A (call (.ref 134) [.int j tj, .ref a.x2, .str y ty]) Q E s := by
  dsimp only [LexA.led] at S
  have hlt := O.lt
  walk_at "my open"
  walk_at "my enter"
  k_steps
  refine' for_range (n := 4) ?F2 ?N2 rfl (by assumption) (by decide) (by decide) rfl rfl rfl (fun i m' nw => ∃ n' t, nw = a.led vals n line tl ((a.p2, W.listOf (pb.drop i ++ pb.take i).toArray n') :: rest) ∧ m' "judge" = some (.int j tj) ∧ m' "line" = some (.ref a.x2) ∧ m' "word" = some (.str y ty) ∧ m' "total" = some (.int (cnt j (ws.take i) y) t)) ?hj2 ?turn2 ?done2
  case F2 => k_asm
  case N2 => k_asm
  case hj2 => exact ⟨_, _, by rw [List.drop_zero, List.take_zero, List.append_nil], by walk_at "my look", by walk_at "my look", by walk_at "my look", by walk_at "my look"⟩
  case turn2 =>
    rintro i v I oI m₂ nw₂ h₂ tk₂ E₂ hi ⟨t₂, rfl⟩ ⟨n', t₁, rfl, hmj, hml, hmw, hmt⟩ hlt2 off2 F₂ N₂
    simp only [Int.zero_add] at F₂
    have hlen := hp.len_eq
    obtain ⟨x, tx, hx, e1, e2⟩ := rot_strs hp (i := i) (by omega)
    have hxo : x ∈ ops := hw _ (List.mem_of_getElem? hx)
    have hp2I : a.p2 ≠ I := Nat.ne_of_lt (hlt2 (a.p2, W.listOf pb.toArray n2) (by simp))
    have hr3' : ∀ p ∈ (I, oI) :: rest, p.1 ≠ a.p2 := fun p hp => by
      rcases List.mem_cons.mp hp with rfl | hp
      · exact Ne.symm hp2I
      · exact hr3 p hp
    have hsz : (4 : Nat) ≤ sizeLine := by decide
    have hl1 : (Value.str x tx :: (pb.drop (i + 1) ++ pb.take i)).length ≤ sizeLine := by
      rw [← e1, List.length_append, List.length_drop, List.length_take]; omega
    have hl2 : ((pb.drop (i + 1) ++ pb.take i) ++ [Value.str x tx]).length ≤ sizeLine := by
      simp only [List.length_append, List.length_cons, List.length_nil] at hl1 ⊢; omega
    have hc := cnt_succ (j := j) (y := y) hx
    rw [e1] at N₂
    have N₃ := led_in N₂
    clear N₂
    generalize hpbr : pb.drop (i + 1) ++ pb.take i = pbr at *
    k_steps
    dsimp only [List.nil_append, List.append_nil, List.cons_append]
    refine wpAny_call ?_
    refine' get_push (k := k) O hr3' hl1 ?S3 ?_
    case S3 => walk_at "my sit"
    intro h₃ tk₃ F₃ N₃
    dsimp only
    k_steps
    all_goals
      refine wpAny_call ?_
      refine' push_spec (k := k) O hr3' hl2 ?S4 ?_
      case S4 => walk_at "my sit"
      intro h₄ tk₄ F₄ N₄
      dsimp only
      k_steps
      refine' LoopEnd.next ?F5 N₄ (a.led vals n line tl ((a.p2, W.listOf (pbr ++ [Value.str x tx]).toArray (n' + 1 + 1)) :: rest)) (fun p hp => led_out hp) (led_off hlt2 _) ?J
      case F5 => k_asm
      case J =>
        refine' ⟨_, _, by rw [e2], by walk_at "my look", by walk_at "my look", by walk_at "my look", ?l5⟩
        case l5 =>
        have hs : ((cnt j (ws.take i) y + 1 : Nat) : Int) = (cnt j (ws.take i) y : Nat) + 1 := by omega
        first
          | (rw [hc, if_pos (by assumption), hs]; walk_at "my look")
          | (rw [hc, if_neg (by simp only [*]; decide), Nat.add_zero]; walk_at "my look")
  case done2 =>
    rintro m₂ nw₂ h₂ tk₂ ⟨n', t₁, rfl, hmj, hml, hmw, hmt⟩ F₂ N₂
    dsimp only
    k_steps
    with_reducible rename News h₀ L _ _ => kN
    rw [List.drop_eq_nil_of_le (by rw [hp.len_eq, h4]; exact Nat.le_refl _), List.take_of_length_le (by rw [hp.len_eq, h4]; exact Nat.le_refl _), List.nil_append] at kN
    rw [List.take_of_length_le (by rw [h4]; exact Nat.le_refl _)]
    exact hret _ _ _ _ (by assumption) kN
end counted

end SP22
section SP23
section nest
variable {w : World} {A : Around} {env : Env} {L : Addr} {h₀ : Heap} {m : Str → Option Value} {s : Shared}
theorem compTurn_nest (elt target iter target2 iter2 : PySem.Expr) (ifs ifs2 : List PySem.Expr) (scope : Scope) (pos : Pos) (it acc : Value) (env : Env) :
    compTurn (.ListComp elt [⟨target, iter, ifs, 0⟩, ⟨target2, iter2, ifs2, 0⟩] scope pos) 0 it acc env = (do
      standAt iter.pos
      match ← pyNext it with
      | none => pure (.done .next)
      | some v =>
        letOwnedTupleGo target it v
        assign target env v
        let mut ok := true
        for c in ifs do
          if ok then ok ← isTrue c env (eval c env)
        if ok then
          let x ← eval iter2 env
          standAt iter2.pos
          let x ← foldedSetIterable iter2 env x
          let _ ← runOwn (.compStart (.ListComp elt [⟨target, iter, ifs, 0⟩, ⟨target2, iter2, ifs2, 0⟩] scope pos) 1 (← holding [x] (pyIter x)) acc env) env
        again (.compLoop (.ListComp elt [⟨target, iter, ifs, 0⟩, ⟨target2, iter2, ifs2, 0⟩] scope pos) 0 it acc env)) := by rfl
theorem compTurn_inner (elt target iter target2 iter2 : PySem.Expr) (ifs ifs2 : List PySem.Expr) (scope : Scope) (pos : Pos) (it acc : Value) (env : Env) :
    compTurn (.ListComp elt [⟨target, iter, ifs, 0⟩, ⟨target2, iter2, ifs2, 0⟩] scope pos) 1 it acc env = (do
      standAt iter2.pos
      match ← pyNext it with
      | none => pure (.done .next)
      | some v =>
        letOwnedTupleGo target2 it v
        assign target2 env v
        let mut ok := true
        for c in ifs2 do
          if ok then ok ← isTrue c env (eval c env)
        if ok then
          (do let _ ← call (.builtin "list.append") [acc, ← eval elt env])
        again (.compLoop (.ListComp elt [⟨target, iter, ifs, 0⟩, ⟨target2, iter2, ifs2, 0⟩] scope pos) 1 it acc env)) := by rfl

theorem nest_turn {R : Result → Shared → Prop} {elt target iter target2 iter2 : PySem.Expr} {ifs ifs2 : List PySem.Expr} {scope : Scope} {pos : Pos} {it acc : Value} {env : Env} (hfs : ∀ x, foldedSetIterable iter2 env x = pure x) (I : Nat → Shared → Prop)
    (turn : ∀ n s, I n s → ∀ E, pull w A target it env (fun b s₁ => if b = true then
          wpAny (MM w) A (testsOf ifs env) (fun ok s₃ =>
            if ok = true then wpAny (MM w) A (eval iter2 env) (fun x s₄ => wpAny (MM w) A (pyIter x) (fun it2 s₅ =>
              codeAny (MM w) A (.compStart (.ListComp elt [⟨target, iter, ifs, 0⟩, ⟨target2, iter2, ifs2, 0⟩] scope pos) 1 it2 acc env) (fun r s₆ => match r with | .ok _ => ∃ m, m < n ∧ I m s₆ | .error _ => False) s₅) E s₄) E s₃
            else ∃ m, m < n ∧ I m s₃) E s₁ else R (.ok .next) s₁) E s)
    (n : Nat) {s : Shared} (h : I n s) :
    codeAny (MM w) A (.compLoop (.ListComp elt [⟨target, iter, ifs, 0⟩, ⟨target2, iter2, ifs2, 0⟩] scope pos) 0 it acc env) R s := by
  refine codeAny_loop rfl I (fun n s hI => ?_) n h
  show wpAny _ A ((compTurn (.ListComp elt [⟨target, iter, ifs, 0⟩, ⟨target2, iter2, ifs2, 0⟩] scope pos) 0 it acc env).onRaise (fun x => do noteFrame x env; theTreesLotGoes x)) _ _ s
  refine wpAny_noted ?_
  rw [compTurn_nest]
  refine wpAny_bind (wpAny_standAt (wpAny_bind (wpAny_mono (turn n s hI _) (fun r s₁ h₁ => ?_) fun _ _ h' => h')))
  cases r with
  | none => exact wpAny_pure (by simpa using h₁)
  | some v =>
    refine wpAny_bind (wpAny_mono h₁ (fun _ s₁' h₁' => ?_) fun _ _ h' => h')
    refine wpAny_bind (wpAny_mono h₁' (fun _ s₂ h₂ => ?_) fun _ _ h' => h')
    simp only [if_true] at h₂
    refine wpAny_bind (wpAny_mono h₂ (fun ok s₃ h₃ => ?_) fun _ _ h' => h')
    cases ok with
    | false => exact wpAny_pure ⟨rfl, h₃⟩
    | true =>
      refine wpAny_bind (wpAny_mono h₃ (fun x s₄ h₄ => wpAny_bind (wpAny_standAt (wpAny_bind (wpAny_of_eq (hfs x) (wpAny_bind (wpAny_holding (wpAny_mono h₄ (fun it2 s₅ h₅ => ?_) fun _ _ h' => h'))))))) fun _ _ h' => h')
      refine wpAny_bind (wpAny_runOwn ?_)
      rw [Around.mark_none]
      refine codeAny_mono h₅ fun r s₆ h₆ => ?_
      cases r with
      | ok f => exact wpAny_pure ⟨rfl, h₆⟩
      | error e => exact h₆.elim

theorem inner_turn {R : Result → Shared → Prop} {elt target iter target2 iter2 : PySem.Expr} {ifs ifs2 : List PySem.Expr} {scope : Scope} {pos : Pos} {it : Value} {D : Addr} {env : Env} (I : Nat → Shared → Prop)
    (turn : ∀ n s, I n s → ∀ E, pull w A target2 it env (fun b s₁ => if b = true then Body1 w A ifs2 elt D env (fun s₅ => ∃ m, m < n ∧ I m s₅) E s₁ else R (.ok .next) s₁) E s)
    (n : Nat) (s : Shared) (h : I n s) :
    codeAny (MM w) A (.compLoop (.ListComp elt [⟨target, iter, ifs, 0⟩, ⟨target2, iter2, ifs2, 0⟩] scope pos) 1 it (.ref D) env) R s := by
  refine codeAny_loop rfl I (fun n s hI => ?_) n h
  show wpAny _ A ((compTurn (.ListComp elt [⟨target, iter, ifs, 0⟩, ⟨target2, iter2, ifs2, 0⟩] scope pos) 1 it (.ref D) env).onRaise (fun x => do noteFrame x env; theTreesLotGoes x)) _ _ s
  refine wpAny_noted ?_
  rw [compTurn_inner]
  refine wpAny_bind (wpAny_standAt (wpAny_bind (wpAny_mono (turn n s hI _) (fun r s₁ h₁ => ?_) fun _ _ h' => h')))
  cases r with
  | none => exact wpAny_pure (by simpa using h₁)
  | some v =>
    refine wpAny_bind (wpAny_mono h₁ (fun _ s₁' h₁' => ?_) fun _ _ h' => h')
    refine wpAny_bind (wpAny_mono h₁' (fun _ s₂ h₂ => ?_) fun _ _ h' => h')
    simp only [if_true] at h₂
    refine wpAny_bind (wpAny_mono h₂ (fun ok s₃ h₃ => ?_) fun _ _ h' => h')
    cases ok with
    | false => exact wpAny_pure ⟨rfl, h₃⟩
    | true =>
      exact wpAny_bind (wpAny_bind (wpAny_mono h₃ (fun x s₄ h₄ => wpAny_bind (wpAny_mono h₄ (fun _ s₅ h₅ => wpAny_pure (wpAny_pure ⟨rfl, h₅⟩)) fun _ _ h' => h')) fun _ _ h' => h'))

theorem codeAny_compStart_inner {elt target iter target2 iter2 : PySem.Expr} {ifs ifs2 : List PySem.Expr} {scope : Scope} {pos : Pos} {it acc : Value} {env : Env} {R : Result → Shared → Prop}
    (h0 : codeAny (MM w) A (.compLoop (.ListComp elt [⟨target, iter, ifs, 0⟩, ⟨target2, iter2, ifs2, 0⟩] scope pos) 1 it acc env) R s)
    (h : ∀ E, wpAny (MM w) A (pyIter it) (fun it' s' => codeAny (MM w) A (.compLoop (.ListComp elt [⟨target, iter, ifs, 0⟩, ⟨target2, iter2, ifs2, 0⟩] scope pos) 1 it' acc env) R s') E s) :
    codeAny (MM w) A (.compStart (.ListComp elt [⟨target, iter, ifs, 0⟩, ⟨target2, iter2, ifs2, 0⟩] scope pos) 1 it acc env) R s := by
  refine codeAny_of_tree ?_
  show wpAny _ _ ((compStart (.ListComp elt [⟨target, iter, ifs, 0⟩, ⟨target2, iter2, ifs2, 0⟩] scope pos) 1 it acc env).onRaise (fun x => do noteFrame x env; standAt theWindowsPlace)) _ _ s
  refine wpAny_notedAt ?_
  unfold compStart
  show wpAny _ _ (ask >>= _) _ _ s
  refine wpAny_bind (wpAny_askSetting (wpAny_ite ?_))
  split
  · first
      | exact wpAny_bind (wpAny_pure (wpAny_pure (And.intro rfl h0)))
      | exact wpAny_pure (And.intro rfl h0)
  · first
      | exact wpAny_bind (wpAny_rule (wpAny_bind (wpAny_standAt (wpAny_bind (wpAny_mono (h _) (fun it' s' h' => wpAny_pure (And.intro rfl h')) fun _ _ x => x)))))
      | (refine wpAny_bind (wpAny_rule ?_); show wpAny _ _ (standAt iter2.pos >>= _) _ _ s; exact wpAny_bind (wpAny_standAt (wpAny_bind (wpAny_mono (h _) (fun it' s' h' => wpAny_pure (And.intro rfl h')) fun _ _ x => x))))
/-- what an outer clause's turn runs -/
abbrev B2 (w : World) (A : Around) (target iter target2 iter2 : PySem.Expr) (ifs ifs2 : List PySem.Expr) (elt : PySem.Expr) (pos : Pos) (cl : List (Str × Addr)) (scope : Scope) (env : Env) : Addr → Addr → BodyT := fun C D K E s =>
  wpAny (MM w) A (testsOf ifs (compEnvC scope cl C env)) (fun ok s₃ =>
    if ok = true then wpAny (MM w) A (eval iter2 (compEnvC scope cl C env)) (fun x s₄ => wpAny (MM w) A (pyIter x) (fun it2 s₅ =>
      codeAny (MM w) A (.compStart (.ListComp elt [⟨target, iter, ifs, 0⟩, ⟨target2, iter2, ifs2, 0⟩] scope pos) 1 it2 (.ref D) (compEnvC scope cl C env)) (fun r s₆ => match r with | .ok _ => K s₆ | .error _ => False) s₅) E s₄) E s₃
    else K s₃) E s
theorem B2.mono {target iter target2 iter2 : PySem.Expr} {ifs ifs2 : List PySem.Expr} {elt : PySem.Expr} {pos : Pos} {cl : List (Str × Addr)} {scope : Scope} {env : Env} {C D : Addr} {K K' : Shared → Prop} {E : Value → Shared → Prop} {s : Shared}
    (h : B2 w A target iter target2 iter2 ifs ifs2 elt pos cl scope env C D K E s) (hk : ∀ s, K s → K' s) : B2 w A target iter target2 iter2 ifs ifs2 elt pos cl scope env C D K' E s := by
  refine wpAny_mono h (fun ok s₃ h₃ => ?_) fun _ _ x => x
  cases ok with
  | false => exact hk _ h₃
  | true =>
    refine wpAny_mono h₃ (fun x s₄ h₄ => wpAny_mono h₄ (fun it2 s₅ h₅ => codeAny_mono h₅ fun r s₆ h₆ => ?_) fun _ _ x => x) fun _ _ x => x
    cases r with
    | ok f => exact hk _ h₆
    | error e => exact h₆
/-- [elt for target in iter if .. for target2 in iter2 if ..], its value -/
theorem NestComp_at {elt target iter target2 iter2 : PySem.Expr} {ifs ifs2 : List PySem.Expr} {scope : Scope} {cl : List (Str × Addr)} {pos : Pos} {Q E : Value → Shared → Prop} (_F : Fr h₀ L s.heap m)
    (hclos : closureFor scope env = pure cl) (hcell : ∀ y ∈ scope.names, y.2 ≠ .cell) (hkind : scope.kind = .function)
    (hnames : ∀ y ∈ scope.names, y.2 = .local → scope.names.lookup y.1 = some .local)
    (h : wpAny (MM w) A (eval iter env) (fun xv s₁ => wpAny (MM w) A (pyIter xv) (fun it s₂ => CompAt w A h₀ L m env cl scope target (B2 w A target iter target2 iter2 ifs ifs2 elt pos cl scope env) (FinE h₀ L m Q) it s₂) E s₁) E s)
    (hs : ∀ x, foldedSetIterable iter env x = pure x := by intro _; rfl) (hs2 : ∀ env x, foldedSetIterable iter2 env x = pure x := by intro _ _; rfl) :
    wpAny (MM w) A (eval (.ListComp elt [⟨target, iter, ifs, 0⟩, ⟨target2, iter2, ifs2, 0⟩] scope pos) env) Q E s := by
  rw [eval_ListComp]
  refine wpAny_comprehension_free (use := none) rfl hs hclos hkind hnames (wpAny_mono h (fun xv s₁ h₁ => wpAny_mono h₁ (fun it s₂ h₂ => ?_) fun _ _ e => e) fun _ _ e => e)
  refine comp_block (Body := B2 w A target iter target2 iter2 ifs ifs2 elt pos cl scope env) (fun h k => B2.mono h k) (fun h0 h => codeAny_compStart_list h0 h) (fun C D R I t n s hI => nest_turn (hs2 _) I t n hI) hcell hkind h₂ ?_
  intro D C h' tk m' led F N hn hCL hC₀ offC fin
  exact ⟨m', hn, fun h'' hs'' => fin h'' tk (F.change hs'' hCL hC₀) fun p hp => ⟨hs''.extBut _ _ (offC p hp) (N p hp).1, (N p hp).2⟩⟩
/-- y = [elt for target in iter if .. for target2 in iter2 if ..] -/
theorem Assign_NestComp_at {elt target iter target2 iter2 : PySem.Expr} {ifs ifs2 : List PySem.Expr} {y : Str} {py : Pos} {scope : Scope} {cl : List (Str × Addr)} {pos spos : Pos} {Q : Flow → Shared → Prop} {E : Value → Shared → Prop} (_F : Fr h₀ L s.heap m) (hLe : env.locals = L)
    (hsw : swapsWith (.ListComp elt [⟨target, iter, ifs, 0⟩, ⟨target2, iter2, ifs2, 0⟩] scope pos) (some (.Name y py)) spos.line env = pure true)
    (hclos : closureFor scope env = pure cl) (hcell : ∀ z ∈ scope.names, z.2 ≠ .cell) (hkind : scope.kind = .function)
    (hnames : ∀ z ∈ scope.names, z.2 = .local → scope.names.lookup z.1 = some .local)
    (hy : env.kindOf y = some .local) (hp : plain env)
    (h : wpAny (MM w) A (eval iter env) (fun xv s₁ => wpAny (MM w) A (pyIter xv) (fun it s₂ => CompAt w A h₀ L m env cl scope target (B2 w A target iter target2 iter2 ifs ifs2 elt pos cl scope env) (FinA h₀ L m y Q) it s₂) E s₁) E s)
    (hs : ∀ x, foldedSetIterable iter env x = pure x := by intro _; rfl) (hs2 : ∀ env x, foldedSetIterable iter2 env x = pure x := by intro _ _; rfl) :
    wpAny (MM w) A (exec (.Assign [.Name y py] (.ListComp elt [⟨target, iter, ifs, 0⟩, ⟨target2, iter2, ifs2, 0⟩] scope pos) spos) env) Q E s := by
  subst hLe
  rw [exec_Assign_Name_used _ _ _ _ hsw]
  refine wpAny_bind (wpAny_standAt (wpAny_bind ?_))
  show wpAny _ A (do let _ ← comprehension (.ListComp elt [⟨target, iter, ifs, 0⟩, ⟨target2, iter2, ifs2, 0⟩] scope pos) scope env _ (newList []) false (eval iter env) (some (assign (.Name y py) env))) _ _ s
  refine wpAny_bind (wpAny_mono (wpAny_comprehension_free (use := some (assign (.Name y py) env)) (Q := fun _ s' => Q .next s') rfl hs hclos hkind hnames
    (wpAny_mono h (fun xv s₁ h₁ => wpAny_mono h₁ (fun it s₂ h₂ => ?_) fun _ _ e => e) fun _ _ e => e)) (fun _ s' hq => wpAny_pure (wpAny_pure hq)) fun _ _ e => e)
  refine comp_block (Body := B2 w A target iter target2 iter2 ifs ifs2 elt pos cl scope env) (fun h k => B2.mono h k) (fun h0 h => codeAny_compStart_list h0 h) (fun C D R I t n s hI => nest_turn (hs2 _) I t n hI) hcell hkind h₂ ?_
  intro D C h' tk m' led F N hn hCL hC₀ offC fin
  show wpAny _ A (assign (.Name y py) env (.ref D)) _ _ _
  refine wpAny_assign_Name (wpAny_storeName_local hy F.ns (fun h₂ hn₂ hs₂ => ?_) hp)
  have hL₀ : h₀.get? env.locals = none := Heap.get?_none_of_le F.above
  have F₂ : Fr h₀ env.locals h₂ (fun z => if z = y then some (.ref D) else m z) := ⟨hn₂, fun b o e => hs₂.extBut b o (fun q => by rw [q, hL₀] at e; cases e) (F.keep b o e), F.above⟩
  refine ⟨m', hn.sameBut hs₂ hCL, fun h'' hs'' => fin h'' _ (F₂.change hs'' hCL hC₀) fun p hp => ?_⟩
  exact ⟨hs''.extBut _ _ (offC p hp) (hs₂.extBut _ _ (N p hp).2.1 (N p hp).1), (N p hp).2⟩

/-- the end of an inner element -/
def EltEnd2 (h₀ : Heap) (L : Addr) (m : Str → Option Value) (I2 : Addr) (oI2 : Obj) (I : Addr) (oI : Obj) (C : Addr) (oC : Obj) (D : Addr) (ys : List Value) (J' : List Value → List (Addr × Obj) → Prop) (s : Shared) (z : Value) (s' : Shared) : Prop :=
  ∃ h' tk' nw', s' = { s with heap := h', toks := tk' } ∧ Fr h₀ L h' m ∧ News h₀ L h' ((I2, oI2) :: (I, oI) :: (C, oC) :: (D, LCg.lst ys) :: nw') ∧ (∀ p ∈ nw', p.1 ≠ C ∧ p.1 ≠ D ∧ p.1 ≠ I ∧ p.1 ≠ I2) ∧ J' (ys ++ [z]) nw'
theorem EltEnd2.intro {I2 : Addr} {oI2 : Obj} {I : Addr} {oI : Obj} {C : Addr} {oC : Obj} {D : Addr} {ys : List Value} {J' : List Value → List (Addr × Obj) → Prop} {s : Shared} {z : Value} {h' : Heap} {tk' : Nat} {all : List (Addr × Obj)} (F : Fr h₀ L h' m) (N : News h₀ L h' all) (nw' : List (Addr × Obj))
    (sub : ∀ p ∈ (I2, oI2) :: (I, oI) :: (C, oC) :: (D, LCg.lst ys) :: nw', p ∈ all) (off : ∀ p ∈ nw', p.1 ≠ C ∧ p.1 ≠ D ∧ p.1 ≠ I ∧ p.1 ≠ I2) (hJ : J' (ys ++ [z]) nw') : EltEnd2 h₀ L m I2 oI2 I oI C oC D ys J' s z { s with heap := h', toks := tk' } :=
  ⟨h', tk', nw', rfl, F, fun p hp => N p (sub p hp), off, hJ⟩
/-- all that the inner clause asks behind its iterator -/
def InnerAt (w : World) (A : Around) (h₀ : Heap) (L : Addr) (m : Str → Option Value) (x y : Str) (v : Value) (elt : PySem.Expr) (cl : List (Str × Addr)) (scope : Scope) (env : Env) (I : Addr) (oI : Obj) (C D : Addr) (Jout : List Value → List (Addr × Obj) → Prop) (s : Shared) (it2 : Value) (s₂ : Shared) : Prop :=
  ∃ (n : Nat) (P : Nat → Value → Prop) (src : List (Addr × Obj)) (oC : Obj) (mC : Str → Option Value) (ys : List Value) (nw : List (Addr × Obj)) (Jin : Nat → List Value → List (Addr × Obj) → Prop),
    Src1 w A h₀ L m ((I, oI) :: (C, oC) :: (D, LCg.lst ys) :: nw) y n P src s it2 s₂ ∧ LCg.NsObj oC mC ∧ mC x = some v ∧ Jin 0 ys nw ∧ (∀ p ∈ nw, p.1 ≠ C ∧ p.1 ≠ D ∧ p.1 ≠ I) ∧
    (∀ p ∈ src, h₀.get? p.1 = some p.2 ∨ ∀ i ys nw, Jin i ys nw → p ∈ nw) ∧ (∀ i ys nw, i < n → Jin i ys nw → ys.length < sizeLine) ∧
    (∀ j u I2 oI2 oC mC ys nw h tk E', j < n → P j u → Jin j ys nw → LCg.NsObj oC mC → mC x = some v → mC y = some u → (@Ne Nat I2 C ∧ @Ne Nat I2 D ∧ @Ne Nat I2 I) → (∀ p ∈ nw, p.1 ≠ C ∧ p.1 ≠ D ∧ p.1 ≠ I ∧ p.1 ≠ I2) →
      Fr h₀ L h m → News h₀ L h ((I2, oI2) :: (I, oI) :: (C, oC) :: (D, LCg.lst ys) :: nw) →
      wpAny (MM w) A (eval elt (compEnvC scope cl C env)) (EltEnd2 h₀ L m I2 oI2 I oI C oC D ys (Jin (j + 1)) s) E' { s with heap := h, toks := tk }) ∧
    (∀ ys nw, Jin n ys nw → Jout ys nw)

theorem inner_run {x y : Str} {px py : Pos} {v : Value} {elt iter iter2 : PySem.Expr} {pos : Pos} {cl : List (Str × Addr)} {scope : Scope} {I : Addr} {oI : Obj} {C D : Addr} {J' : (Str → Option Value) → List Value → List (Addr × Obj) → Prop} {it2 : Value} {s₂ : Shared}
    (hy : scope.names.lookup y = some .local) (hxy : x ≠ y) (hkind : scope.kind = .function) (hCL : C ≠ L) (hC₀ : h₀.get? C = none) (hI : I ≠ C ∧ I ≠ D ∧ C ≠ D)
    (H : InnerAt w A h₀ L m x y v elt cl scope env I oI C D (fun ys nw => ∀ mC, J' mC ys nw) s it2 s₂) :
    codeAny (MM w) A (.compStart (.ListComp elt [⟨.Name x px, iter, [], 0⟩, ⟨.Name y py, iter2, [], 0⟩] scope pos) 1 it2 (.ref D) (compEnvC scope cl C env))
      (fun r s₆ => match r with | .ok _ => CompEndU h₀ L m [(I, oI)] [I] C D J' s s₆ | .error _ => False) s₂ := by
  obtain ⟨n, P, src, oC, mC, ys, nw, Jin, ⟨I2, St, h₂, tk₂, rfl, rfl, F, N, st, hIL, hIlt, hI₀, hIn, P'⟩, hoC, hxv, hJ0, off, hsrc, hlen, turn, fin⟩ := H
  have hIC : I2 ≠ C := Ne.symm (Nat.ne_of_lt (hIn _ (.tail _ (.head _))))
  have hID : I2 ≠ D := Ne.symm (Nat.ne_of_lt (hIn _ (.tail _ (.tail _ (.head _)))))
  have hII : I2 ≠ I := Ne.symm (Nat.ne_of_lt (hIn _ (.head _)))
  have hCsrc : ∀ p ∈ src, p.1 ≠ (compEnvC scope cl C env).locals := fun p hp => by
    rcases hsrc p hp with h1 | h1
    · exact fun q => by rw [show p.1 = C from q, hC₀] at h1; cases h1
    · exact (off p (h1 _ _ _ hJ0)).1
  have PP := P' (compEnvC scope cl C env) py (lookup_relabel_local hy) (by simp [plain, compEnvC, relabel, hkind]) (Ne.symm hIC) hCsrc
  have loop : codeAny (MM w) A (.compLoop (.ListComp elt [⟨.Name x px, iter, [], 0⟩, ⟨.Name y py, iter2, [], 0⟩] scope pos) 1 (.ref I2) (.ref D) (compEnvC scope cl C env))
      (fun r s₆ => match r with | .ok _ => CompEndU h₀ L m [(I, oI)] [I] C D J' s s₆ | .error _ => False) { s with heap := h₂, toks := tk₂ } := by
    refine comp_core (Body := B1 w A [] elt cl scope env C D) (fun h k => Body1.mono h k) (fun I' t n s hI' => inner_turn I' t n s hI') PP rfl
      (fun i mC ys nw => mC x = some v ∧ ∃ nw', nw = (I, oI) :: nw' ∧ (∀ p ∈ nw', p.1 ≠ C ∧ p.1 ≠ D ∧ p.1 ≠ I) ∧ Jin i ys nw') (news := (I, oI) :: nw) (ys := ys) (mC := mC) F (hoC.ns (N _ (.tail _ (.head _))).1) ?_ st ⟨hxv, nw, rfl, off, hJ0⟩ ?_ hCL hI.2.2 hC₀ ?_ ?_ ?_ ?_
    · intro p hp
      rcases List.mem_cons.mp hp with rfl | hp
      · exact N _ (.tail _ (.tail _ (.head _)))
      · rcases List.mem_cons.mp hp with rfl | hp
        · exact N _ (.head _)
        · exact N _ (.tail _ (.tail _ (.tail _ hp)))
    · intro b hb
      rw [List.mem_singleton.mp hb]
      refine ⟨hIL, hIC, hID, hI₀, fun p hp => ?_⟩
      rcases List.mem_cons.mp hp with rfl | hp
      · exact Ne.symm hII
      · exact Nat.ne_of_lt (hIn _ (.tail _ (.tail _ (.tail _ hp))))
    · intro p hp
      rcases List.mem_cons.mp hp with rfl | hp
      · exact ⟨hI.1, hI.2.1⟩
      · exact ⟨(off p hp).1, (off p hp).2.1⟩
    · intro p hp
      exact (hsrc p hp).imp id fun h i m' ys' nw' ⟨_, nw'', e, _, hj⟩ => by rw [e]; exact .tail _ (h _ _ _ hj)
    · rintro i mC₁ mC₂ oC₁ ys₁ nw₁ its h tk E' hi ⟨hx₁, nw', rfl, off₁, hj⟩ ⟨u, hP, rfl⟩ hoC₁ he off' F' N'
      obtain ⟨oI2, rfl⟩ := its_one he
      refine elt_turn he ⟨hI.2.2, fun b hb => by rw [List.mem_singleton.mp hb]; exact ⟨hIC, hID⟩⟩ (hlen _ _ _ hi hj) hoC₁ ?_
      have offb : ∀ p ∈ nw', p.1 ≠ C ∧ p.1 ≠ D ∧ p.1 ≠ I ∧ p.1 ≠ I2 := fun p hp => ⟨(off₁ p hp).1, (off₁ p hp).2.1, (off₁ p hp).2.2, (off' p (.tail _ hp)).2.2 _ (.head _)⟩
      refine wpAny_mono (turn i u I2 oI2 oC₁ _ ys₁ nw' h tk E' hi hP hj hoC₁ (by simp [hxy]; exact hx₁) (by simp) ⟨hIC, hID, hII⟩ offb F' ?_) (fun z s' h' => ?_) fun _ _ x => x
      · intro p hp
        rcases List.mem_cons.mp hp with rfl | hp
        · exact N' _ (.head _)
        rcases List.mem_cons.mp hp with rfl | hp
        · exact N' _ (.tail _ (.tail _ (.tail _ (.head _))))
        rcases List.mem_cons.mp hp with rfl | hp
        · exact N' _ (.tail _ (.head _))
        rcases List.mem_cons.mp hp with rfl | hp
        · exact N' _ (.tail _ (.tail _ (.head _)))
        · exact N' _ (.tail _ (.tail _ (.tail _ (.tail _ hp))))
      · obtain ⟨h₃, tk₃, nw₃, rfl, F₃, N₃, off₃, hJ₃⟩ := h'
        refine ⟨h₃, tk₃, (I, oI) :: nw₃, rfl, F₃, ?_, ?_, by simp [hxy]; exact hx₁, nw₃, rfl, fun p hp => ⟨(off₃ p hp).1, (off₃ p hp).2.1, (off₃ p hp).2.2.1⟩, hJ₃⟩
        · intro p hp
          rcases List.mem_cons.mp hp with rfl | hp
          · exact N₃ _ (.head _)
          rcases List.mem_cons.mp hp with rfl | hp
          · exact N₃ _ (.tail _ (.tail _ (.head _)))
          rcases List.mem_cons.mp hp with rfl | hp
          · exact N₃ _ (.tail _ (.tail _ (.tail _ (.head _))))
          rcases List.mem_cons.mp hp with rfl | hp
          · exact N₃ _ (.tail _ (.head _))
          · exact N₃ _ (.tail _ (.tail _ (.tail _ (.tail _ hp))))
        · intro p hp
          rcases List.mem_cons.mp hp with rfl | hp
          · exact ⟨hI.1, hI.2.1, fun b hb => by rw [List.mem_singleton.mp hb]; exact Ne.symm hII⟩
          · exact ⟨(off₃ p hp).1, (off₃ p hp).2.1, fun b hb => by rw [List.mem_singleton.mp hb]; exact (off₃ p hp).2.2.2⟩
    · rintro mC₁ ys₁ nw₁ h tk ⟨hx₁, nw', rfl, off₁, hj⟩ F₁ hn₁ N₁ off₂
      obtain ⟨oC', heC, hoC'⟩ := LCg.ns_obj hn₁
      refine ⟨h, tk, oC', mC₁, ys₁, nw', rfl, hoC', F₁, ?_, fun p hp => ⟨(off₁ p hp).1, (off₁ p hp).2.1, fun b hb => by rw [List.mem_singleton.mp hb]; exact (off₁ p hp).2.2⟩, fin _ _ hj _⟩
      intro p hp
      rcases List.mem_cons.mp hp with rfl | hp
      · exact N₁ _ (.tail _ (.head _))
      rcases List.mem_cons.mp hp with rfl | hp
      · exact ⟨heC, hCL, hC₀⟩
      rcases List.mem_cons.mp hp with rfl | hp
      · exact N₁ _ (.head _)
      · exact N₁ _ (.tail _ (.tail _ hp))
  exact codeAny_compStart_inner loop fun E => PP.self 0 _ _ _ st loop

/-- [elt for x in .. for y in ..]: by the inner clause's contract -/
theorem comp_nest {news : List (Addr × Obj)} {x y : Str} {px py : Pos} {n : Nat} {P : Nat → Value → Prop} {src : List (Addr × Obj)} {it : Value} {s₂ : Shared} {elt iter iter2 : PySem.Expr} {pos : Pos} {cl : List (Str × Addr)} {scope : Scope} {Fin : Addr → List (Addr × Obj) → Shared → Prop}
    (H : Src1 w A h₀ L m news x n P src s it s₂) (hx : scope.names.lookup x = some .local) (hy : scope.names.lookup y = some .local) (hxy : x ≠ y) (hkind : scope.kind = .function) (J : Nat → List Value → List (Addr × Obj) → Prop) (hj : J 0 [] news)
    (hsrc : ∀ p ∈ src, h₀.get? p.1 = some p.2 ∨ ∀ i ys nw, J i ys nw → p ∈ nw)
    (turn : ∀ i v I oI C oC D mC ys nw h tk E', i < n → P i v → J i ys nw → LCg.NsObj oC mC → mC x = some v → (@Ne Nat I C ∧ @Ne Nat I D ∧ @Ne Nat C D) → (∀ p ∈ news, p.1 < D ∧ p.1 < C ∧ p.1 < I) →
      (∀ p ∈ nw, p.1 ≠ C ∧ p.1 ≠ D ∧ p.1 ≠ I) → Fr h₀ L h m → News h₀ L h ((I, oI) :: (C, oC) :: (D, LCg.lst ys) :: nw) →
      wpAny (MM w) A (eval iter2 (compEnvC scope cl C env)) (fun xv s₃ => wpAny (MM w) A (pyIter xv) (fun it2 s₄ => InnerAt w A h₀ L m x y v elt cl scope env I oI C D (J (i + 1)) { s with heap := h, toks := tk } it2 s₄) E' s₃) E' { s with heap := h, toks := tk })
    (fin : ∀ D ys nw h₂ tk₂, J n ys nw → (∀ p ∈ nw, p.1 ≠ D) → (∀ p ∈ news, p.1 < D) → Fin D ((D, LCg.lst ys) :: nw) { s with heap := h₂, toks := tk₂ }) :
    CompAt w A h₀ L m env cl scope (.Name x px) (B2 w A (.Name x px) iter (.Name y py) iter2 [] [] elt pos cl scope env) Fin it s₂ := by
  obtain ⟨I, St, h₂, tk₂, rfl, rfl, F, N, st, hIL, hIlt, hI₀, hIn, P'⟩ := H
  refine ⟨[I], src, n, _, St, fun i _ ys nw => J i ys nw, news, fun C hC hs => P' (compEnvC scope cl C env) px (lookup_relabel_local hx) (by simp [plain, compEnvC, relabel, hkind]) (fun q => hC (by rw [← q]; exact .head _)) hs, st, F, N, hj,
    fun b hb => ?_, fun p hp => (hsrc p hp).imp id fun h i _ ys nw => h i ys nw, ?_, fun D ys nw mC hJ' => fin D ys nw h₂ tk₂ hJ'⟩
  · rw [List.mem_singleton.mp hb]
    exact ⟨hIL, hIlt, hI₀, fun p hp => Nat.ne_of_lt (hIn p hp)⟩
  · intro i C D mC₁ mC₂ oC ys nw its h tk E' hi hJi hB hoC he hCD hlt off F' N'
    obtain ⟨oI, rfl⟩ := its_one he
    obtain ⟨v, hP, rfl⟩ := hB
    have hI := hCD.2 I (.head _)
    refine wpAny_tests_nil ?_
    rw [if_pos rfl]
    refine wpAny_mono (turn i v I oI C oC D _ ys nw h tk E' hi hP hJi hoC (by simp) ⟨hI.1, hI.2, hCD.1⟩ (fun p hp => ⟨(hlt p hp).1, (hlt p hp).2, hIn p hp⟩) (fun p hp => ⟨(off p hp).1, (off p hp).2.1, (off p hp).2.2 I (.head _)⟩) F' N') (fun xv s₃ h₃ => wpAny_mono h₃ (fun it2 s₄ h₄ => ?_) fun _ _ x => x) fun _ _ x => x
    exact inner_run (J' := fun _ => J (i + 1)) hy hxy hkind (N' (C, oC) (.tail _ (.head _))).2.1 (N' (C, oC) (.tail _ (.head _))).2.2 ⟨hI.1, hI.2, hCD.1⟩ (by
      obtain ⟨n, P, src, oC, mC, ys, nw, Jin, h1, h2, h3, h4, h5, h6, h7, h8, h9⟩ := h₄
      exact ⟨n, P, src, oC, mC, ys, nw, Jin, h1, h2, h3, h4, h5, h6, h7, h8, fun ys nw h _ => h9 ys nw h⟩)
end nest

end SP23
section SP24
section forcell
variable {w : World} {A : Around} {env : Env} {L : Addr} {h₀ : Heap} {m : Str → Option Value} {news : List (Addr × Obj)} {s : Shared}
/-- the end of a turn whose target is a cell -/
def CellEnd (h₀ : Heap) (L : Addr) (I c : Addr) (oI : Obj) (J' : (Str → Option Value) → List (Addr × Obj) → Prop) (s₁ : Shared) (Q : Flow → Shared → Prop) (f : Flow) (s₂ : Shared) : Prop :=
  match f with
  | .ret v => Q (.ret v) s₂
  | .brk => Q .next s₂
  | _ => ∃ h' tk m' oc v nw, s₂ = { s₁ with heap := h', toks := tk } ∧ Fr h₀ L h' m' ∧ News h₀ L h' ((I, oI) :: (c, oc) :: nw) ∧ oc.data = .cell v ∧ (∀ p ∈ nw, p.1 ≠ I ∧ p.1 ≠ c) ∧ J' m' nw
theorem CellEnd.next {I c : Addr} {oI oc : Obj} {v : Option Value} {J' : (Str → Option Value) → List (Addr × Obj) → Prop} {s₁ : Shared} {Q : Flow → Shared → Prop} {h' : Heap} {tk : Nat} {m' : Str → Option Value} {all : List (Addr × Obj)} (F : Fr h₀ L h' m') (N : News h₀ L h' all) (nw : List (Addr × Obj))
    (sub : ∀ p ∈ (I, oI) :: (c, oc) :: nw, p ∈ all) (hd : oc.data = .cell v) (off : ∀ p ∈ nw, p.1 ≠ I ∧ p.1 ≠ c) (hJ : J' m' nw) : CellEnd h₀ L I c oI J' s₁ Q .next { s₁ with heap := h', toks := tk } :=
  ⟨h', tk, m', oc, v, nw, rfl, F, fun p hp => N p (sub p hp), hd, off, hJ⟩
theorem for_cell {x : Str} {px : Pos} {I c : Addr} {oI oc : Obj} {v₀ : Option Value} {body : List Stmt} {fp : List Addr} {src : List (Addr × Obj)} {n : Nat} {P : Nat → Value → Prop} {St : Nat → Heap → Prop} {R : Result → Shared → Prop} {Q : Flow → Shared → Prop}
    (W : Walks PySem.Challenge.pw_tp0016_01 w A I fp [I] n P St) (hL : env.locals = L) (hk : env.scope.kind = .function) (hx : env.kindOf x = some .cell) (hc : env.cells.lookup x = some c) (J : Nat → (Str → Option Value) → List (Addr × Obj) → Prop)
    (keep : ∀ i h h', St i h → (∀ o, h.get? I = some o → h'.get? I = some o) → (∀ p ∈ src, h'.get? p.1 = some p.2) → St i h') (occ : ∀ i h, St i h → ∃ o, h.get? I = some o)
    (F : Fr h₀ L s.heap m) (N : News h₀ L s.heap ((I, oI) :: (c, oc) :: news)) (hd : oc.data = .cell v₀) (hst : St 0 s.heap) (hj : J 0 m news) (hIc : I ≠ c) (off : ∀ p ∈ news, p.1 ≠ I ∧ p.1 ≠ c)
    (hsrc : ∀ p ∈ src, h₀.get? p.1 = some p.2 ∨ ∀ i m' nw, J i m' nw → p ∈ nw)
    (turn : ∀ i v oI oc m₁ nw h tk E', i < n → P i v → J i m₁ nw → oc.data = .cell (some v) → (∀ p ∈ nw, p.1 ≠ I ∧ p.1 ≠ c) → Fr h₀ L h m₁ → News h₀ L h ((I, oI) :: (c, oc) :: nw) →
      wpAny (MM w) A (execs body env) (CellEnd h₀ L I c oI (J (i + 1)) { s with heap := h, toks := tk } Q) E' { s with heap := h, toks := tk })
    (done : ∀ m₁ nw oc v h tk, J n m₁ nw → oc.data = .cell v → Fr h₀ L h m₁ → News h₀ L h ((c, oc) :: nw) → Q .next { s with heap := h, toks := tk })
    (hR : ∀ f s', Q f s' → R (.ok f) s') :
    codeAny (MM w) A (.forLoop (.Name x px) (.ref I) body [] env) R s := by
  subst hL
  have hI₀ : h₀.get? I = none := (N (I, oI) (.head _)).2.2
  have hIL : I ≠ env.locals := (N (I, oI) (.head _)).2.1
  have hc₀ : h₀.get? c = none := (N (c, oc) (.tail _ (.head _))).2.2
  have hcL : c ≠ env.locals := (N (c, oc) (.tail _ (.head _))).2.1
  refine for_turn (fun k s' => ∃ h' tk i m' nw oI oc v, s' = { s with heap := h', toks := tk } ∧ i ≤ n ∧ k = n + 1 - i ∧ St i h' ∧ Fr h₀ env.locals h' m' ∧ News h₀ env.locals h' ((I, oI) :: (c, oc) :: nw) ∧ oc.data = .cell v ∧ (∀ p ∈ nw, p.1 ≠ I ∧ p.1 ≠ c) ∧ J i m' nw)
    ?_ (n + 1) ⟨s.heap, s.toks, 0, m, news, oI, oc, v₀, rfl, Nat.zero_le _, rfl, hst, F, N, hd, off, hj⟩
  rintro k s' ⟨h', tk, i, m', nw, oI₁, oc₁, v₁, rfl, hi, rfl, st, F', N', hd₁, off₁, hJ⟩ E
  by_cases hlt : i < n
  · refine W.item i _ _ _ hlt st fun v h₁ tk₁ hP st₁ hk₁ => ?_
    dsimp only
    show wpAny _ _ (pure ()) _ _ _
    refine wpAny_pure (wpAny_assign_Name ?_)
    have hk₁' : ∀ b o, b ≠ I → h'.get? b = some o → h₁.get? b = some o := fun b o hb e => hk₁ b o (fun q => hb (List.mem_singleton.mp q)) e
    have e₁ := hk₁' c _ (Ne.symm hIc) (N' (c, oc₁) (.tail _ (.head _))).1
    refine wpAny_storeName_cell hk hx hc ⟨oc₁, e₁, hd₁⟩ fun h₂ hv hs => ?_
    obtain ⟨oc₂, e₂, hd₂⟩ := hv
    rw [if_pos rfl]
    obtain ⟨oI₂, eI₂⟩ := occ _ _ st₁
    have keep₂ : ∀ b o, b ≠ I → b ≠ c → h'.get? b = some o → h₂.get? b = some o := fun b o hb hbc e => hs.extBut b o hbc (hk₁' b o hb e)
    have F₂ : Fr h₀ env.locals h₂ m' := ⟨F'.ns.at' fun o e => keep₂ _ o (Ne.symm hIL) (Ne.symm hcL) e, fun b o e => keep₂ b o (fun q => by rw [q, hI₀] at e; cases e) (fun q => by rw [q, hc₀] at e; cases e) (F'.keep b o e), F.above⟩
    have eI₃ : h₂.get? I = some oI₂ := hs.extBut I _ hIc eI₂
    have N₂ : News h₀ env.locals h₂ ((I, oI₂) :: (c, oc₂) :: nw) := fun p hp => by
      rcases List.mem_cons.mp hp with rfl | hp
      · exact ⟨eI₃, hIL, hI₀⟩
      rcases List.mem_cons.mp hp with rfl | hp
      · exact ⟨e₂, hcL, hc₀⟩
      · exact ⟨keep₂ _ _ (off₁ p hp).1 (off₁ p hp).2 (N' p (.tail _ (.tail _ hp))).1, (N' p (.tail _ (.tail _ hp))).2⟩
    have st₂ : St (i + 1) h₂ := keep _ _ _ st₁ (fun o e => hs.extBut I o hIc e) fun p hp => by
      rcases hsrc p hp with h1 | h1
      · exact F₂.keep _ _ h1
      · exact (N₂ p (.tail _ (.tail _ (h1 _ _ _ hJ)))).1
    refine wpAny_mono (turn i v oI₂ oc₂ m' nw h₂ tk₁ E hlt hP hJ hd₂ off₁ F₂ N₂) (fun f s₂ p => ?_) fun _ _ x => x
    have fin : CellEnd h₀ env.locals I c oI₂ (J (i + 1)) { s with heap := h₂, toks := tk₁ } Q .next s₂ → ∃ m, m < n + 1 - i ∧ ∃ h' tk i m' nw oI oc v, s₂ = { s with heap := h', toks := tk } ∧ i ≤ n ∧ m = n + 1 - i ∧ St i h' ∧ Fr h₀ env.locals h' m' ∧ News h₀ env.locals h' ((I, oI) :: (c, oc) :: nw) ∧ oc.data = .cell v ∧ (∀ p ∈ nw, p.1 ≠ I ∧ p.1 ≠ c) ∧ J i m' nw := by
      rintro ⟨h₃, tk₃, m₃, oc₃, v₃, nw₃, rfl, F₃, N₃, hd₃, off₃, hJ₃⟩
      refine ⟨n + 1 - (i + 1), by omega, h₃, tk₃, i + 1, m₃, nw₃, oI₂, oc₃, v₃, rfl, hlt, rfl, ?_, F₃, N₃, hd₃, off₃, hJ₃⟩
      refine keep _ _ _ st₂ (fun o e => ?_) fun p hp => ?_
      · rw [eI₃] at e; cases e
        exact (N₃ _ (.head _)).1
      · rcases hsrc p hp with h1 | h1
        · exact F₃.keep _ _ h1
        · exact (N₃ p (.tail _ (.tail _ (h1 _ _ _ hJ₃)))).1
    cases f with
    | next => exact fin p
    | cont => exact fin p
    | brk => exact hR _ _ p
    | ret v => exact hR _ _ p
  · obtain rfl : i = n := Nat.le_antisymm hi (Nat.not_lt.mp hlt)
    refine W.done _ _ _ st fun h₂ tk₂ hk₂ => ?_
    show (if false = true then _ else _)
    rw [if_neg (by decide)]
    have hk₂' : ∀ b o, b ≠ I → h'.get? b = some o → h₂.get? b = some o := fun b o hb e => hk₂ b o (fun q => hb (List.mem_singleton.mp q)) e
    refine hR _ _ (done m' nw oc₁ v₁ h₂ tk₂ hJ hd₁ ⟨F'.ns.at' fun o e => hk₂' _ o (Ne.symm hIL) e, fun b o e => hk₂' b o (fun q => by rw [q, hI₀] at e; cases e) (F'.keep b o e), F.above⟩ fun p hp => ?_)
    rcases List.mem_cons.mp hp with rfl | hp
    · exact ⟨hk₂' _ _ (Ne.symm hIc) (N' _ (.tail _ (.head _))).1, (N' _ (.tail _ (.head _))).2⟩
    · exact ⟨hk₂' _ _ (off₁ p hp).1 (N' p (.tail _ (.tail _ hp))).1, (N' p (.tail _ (.tail _ hp))).2⟩
/-- for x in a list, x a cell -/
theorem for_list_cell {x : Str} {px : Pos} {c l : Addr} {lo oc : Obj} {v₀ : Option Value} {items : Array Value} {body : List Stmt} {Q : Flow → Shared → Prop} {E X : Value → Shared → Prop}
    (F : Fr h₀ L s.heap m) (N : News h₀ L s.heap ((c, oc) :: news)) (hh : A.handled = none) (hd : oc.data = .cell v₀) (hl : (l, lo) ∈ news ∨ h₀.get? l = some lo) (hlc : lo.cls = .type "list") (hld : ∃ k, lo.data = .seq items k)
    (hL : env.locals = L) (hk : env.scope.kind = .function) (hx : env.kindOf x = some .cell) (hc : env.cells.lookup x = some c) (off : ∀ p ∈ news, p.1 ≠ c) (J : Nat → (Str → Option Value) → List (Addr × Obj) → Prop) (hj : J 0 m news) (hsrc : h₀.get? l = some lo ∨ ∀ i m' nw, J i m' nw → (l, lo) ∈ nw)
    (turn : ∀ i v I oI oc m₁ nw h tk E', i < items.size → items[i]? = some v → J i m₁ nw → oc.data = .cell (some v) → (∀ p ∈ news, p.1 < I) → @LT.lt Nat _ c I → (∀ p ∈ nw, p.1 ≠ I ∧ p.1 ≠ c) → Fr h₀ L h m₁ → News h₀ L h ((I, oI) :: (c, oc) :: nw) →
      wpAny (MM w) A (execs body env) (CellEnd h₀ L I c oI (J (i + 1)) { s with heap := h, toks := tk } Q) E' { s with heap := h, toks := tk })
    (done : ∀ m₁ nw oc v h tk, J items.size m₁ nw → oc.data = .cell v → Fr h₀ L h m₁ → News h₀ L h ((c, oc) :: nw) → Q .next { s with heap := h, toks := tk }) :
    wpAny (MM w) A (pyIter (.ref l)) (fun it s₂ => codeAny (MM w) A (.forLoop (.Name x px) it body [] env) (fun r s' => match r with | .ok f => Q f s' | .error e => X e s') s₂) E s := by
  have e : s.heap.get? l = some lo := hl.elim (fun h => (N _ (.tail _ h)).1) fun h => F.keep _ _ h
  have IL : s.heap.IsList l items := ⟨lo, e, hlc, hld⟩
  have hlt : l < s.heap.objs.size := Heap.lt_size e
  refine wpAny_pyIter_list IL ?_
  have up : ∀ b o, s.heap.get? b = some o → (s.heap.push { cls := .type "list_iterator", data := .fields #[.ref l, .int 0 0] }).get? b = some o := fun b o e => Heap.get?_push_of_some _ e
  have hIn : ∀ p ∈ (c, oc) :: news, p.1 < s.heap.objs.size := fun p hp => Heap.lt_size (N p hp).1
  have hIc : s.heap.objs.size ≠ c := Ne.symm (Nat.ne_of_lt (hIn _ (.head _)))
  have hne : l ≠ s.heap.objs.size := Nat.ne_of_lt hlt
  refine for_cell (x := x) (px := px) (c := c) (oI := { cls := .type "list_iterator", data := .fields #[.ref l, .int 0 0] }) (oc := oc) (s := { s with heap := _ }) (Walks.list hh s.heap.objs.size l hne items) (src := [(l, lo)]) hL hk hx hc J
    (fun i h h' st hw hs => ⟨st.1.at fun o e => hw o e, ⟨lo, hs (l, lo) (by simp), hlc, hld⟩⟩) (fun i h st => by obtain ⟨o, e, _⟩ := st.1; exact ⟨o, e⟩)
    (F.keeps up) ?_ hd ⟨⟨_, Heap.get?_push_size _ rfl, rfl, rfl⟩, IL.push _⟩ hj hIc (fun p hp => ⟨Nat.ne_of_lt (hIn p (.tail _ hp)), off p hp⟩) (fun p hp => by rw [List.mem_singleton.mp hp]; exact hsrc)
    (fun i v oI oc m₁ nw h tk E' hi hP hJ hd off F N => turn i v s.heap.objs.size oI oc m₁ nw h tk E' hi hP hJ hd (fun p hp => hIn p (.tail _ hp)) (hIn _ (.head _)) off F N) done fun _ _ h => h
  intro p hp
  rcases List.mem_cons.mp hp with rfl | hp
  · exact ⟨Heap.get?_push_size _ rfl, Ne.symm (Nat.ne_of_lt F.ns.lt), next_is_new F⟩
  · exact N.grown up p hp
end forcell

end SP24
section W3
local macro_rules | `(tactic| walk_at "my enterC2") => `(tactic| (k_extra "my z34"; intro g' L' h' tk' cells' FG' F' N' Y' B' X' T' l1; have l2 := lt_succ_all l1 1; have l3 := lt_succ_all l1 2; (try k_lt l1); (try k_lt l2); (try k_lt l3); k_cells Y'; (try simp only [List.cons_append, List.nil_append] at N'); (try dsimp only)))
local macro_rules | `(tactic| walk_at "my nest") => `(tactic| k_extra "my z35")
local macro_rules | `(tactic| walk_at "my anest") => `(tactic| k_extra "my z36")
theorem rstP25 : True ∧ True := by
  w_top off
  first
    | (walk1; done)
    | exact ⟨trivial, trivial⟩
section SP25
section orders
variable {w : World} {A : Around} {env : Env} {L : Addr} {h₀ : Heap} {m : Str → Option Value} {news : List (Addr × Obj)} {k : Nat} {s : Shared} {Q E : Value → Shared → Prop}
/-- lists of ints in the ledger -/
inductive ListsIn (led : List (Addr × Obj)) : List Value → List (List Int) → Prop
  | nil : ListsIn led [] []
  | cons {a : Addr} {vs vals : List Value} {n : Nat} {o : List Int} {os : List (List Int)} : (a, W.listOf vs.toArray n) ∈ led → IntsAre vs o → ListsIn led vals os → ListsIn led (.ref a :: vals) (o :: os)
theorem ListsIn.mono {led led' : List (Addr × Obj)} {vals : List Value} {os : List (List Int)} (h : ListsIn led vals os) (hs : ∀ p ∈ led, p ∈ led') : ListsIn led' vals os := by
  induction h with
  | nil => exact .nil
  | cons a b _ ih => exact .cons (hs _ a) b ih
theorem ListsIn.snoc {led : List (Addr × Obj)} {vals : List Value} {os : List (List Int)} {a : Addr} {vs : List Value} {n : Nat} {o : List Int} (h : ListsIn led vals os) (ha : (a, W.listOf vs.toArray n) ∈ led) (hi : IntsAre vs o) : ListsIn led (vals ++ [.ref a]) (os ++ [o]) := by
  induction h with
  | nil => exact .cons ha hi .nil
  | cons a b _ ih => exact .cons a b ih
theorem ListsIn.len {led : List (Addr × Obj)} {vals : List Value} {os : List (List Int)} (h : ListsIn led vals os) : vals.length = os.length := by
  induction h with
  | nil => rfl
  | cons _ _ _ ih => simp [ih]
theorem ListsIn.get {led : List (Addr × Obj)} {vals : List Value} {os : List (List Int)} (h : ListsIn led vals os) : ∀ {i : Nat} {v : Value}, vals[i]? = some v → ∃ a vs n o, v = .ref a ∧ (a, W.listOf vs.toArray n) ∈ led ∧ os[i]? = some o ∧ IntsAre vs o := by
  induction h with
  | nil => intro i v e; simp at e
  | cons ha hi _ ih =>
    intro i v e
    cases i with
    | zero => simp at e; subst e; exact ⟨_, _, _, _, rfl, ha, rfl, hi⟩
    | succ i => simp at e; simpa using ih e
/-- what is not of news is younger than all of it -/
def Young (news all : List (Addr × Obj)) : Prop := (∀ p ∈ news, p ∈ all) ∧ ∀ p ∈ all, p ∈ news ∨ ∀ q ∈ news, q.1 < p.1
theorem Young.refl : Young news news := ⟨fun _ h => h, fun _ h => .inl h⟩
theorem Young.cons {all : List (Addr × Obj)} {a : Addr} {o : Obj} (h : Young news all) (ha : ∀ q ∈ news, q.1 < a) : Young news ((a, o) :: all) :=
  ⟨fun p hp => .tail _ (h.1 p hp), fun p hp => by
    rcases List.mem_cons.mp hp with rfl | hp
    · exact .inr ha
    · exact h.2 p hp⟩
theorem Young.append {nw led : List (Addr × Obj)} (h : Young news nw) (hl : ∀ p ∈ led, ∀ q ∈ nw, q.1 < p.1) : Young news (led ++ nw) :=
  ⟨fun p hp => List.mem_append_right _ (h.1 p hp), fun p hp => by
    rcases List.mem_append.mp hp with hp | hp
    · exact .inr fun q hq => hl p hp q (h.1 q hq)
    · exact h.2 p hp⟩
def ins (r : Int) (o : List Int) : List (List Int) := (List.range (o.length + 1)).map fun p => o.take p ++ [r] ++ o.drop p
def grow (r : Int) (os : List (List Int)) : List (List Int) := os.flatMap (ins r)
def ordersOf (ranks : List Int) : List (List Int) := ranks.foldl (fun os r => grow r os) [[]]
theorem ordersOf_succ {ranks : List Int} {i : Nat} {r : Int} (h : ranks[i]? = some r) : ordersOf (ranks.take (i + 1)) = grow r (ordersOf (ranks.take i)) := by
  rw [List.take_add_one, h]
  simp [ordersOf, List.foldl_append]
theorem flat_take {α β : Type} (f : α → List β) {l : List α} {i : Nat} {a : α} (h : l[i]? = some a) : (l.take (i + 1)).flatMap f = (l.take i).flatMap f ++ f a := by
  rw [List.take_add_one, h]; simp
theorem ins_take {r : Int} {o : List Int} {j : Nat} (h : j < o.length + 1) : (ins r o).take (j + 1) = (ins r o).take j ++ [o.take j ++ [r] ++ o.drop j] := by
  rw [List.take_add_one]
  congr 1
  simp [ins, List.getElem?_map, List.getElem?_range h]
theorem ins_len (r : Int) (o : List Int) : (ins r o).length = o.length + 1 := by simp [ins]
theorem flat_len {r : Int} {os : List (List Int)} {n : Nat} (h : ∀ o ∈ os, o.length = n) : (os.flatMap (ins r)).length = os.length * (n + 1) := by
  induction os with
  | nil => simp
  | cons o os ih =>
    rw [List.flatMap_cons, List.length_append, ih fun o ho => h o (.tail _ ho), ins_len, h o (.head _), List.length_cons, Nat.succ_mul, Nat.add_comm]
def fac : Nat → Nat
  | 0 => 1
  | i + 1 => fac i * (i + 1)
theorem orders_len {ranks : List Int} : ∀ {i : Nat}, i ≤ ranks.length → (∀ o ∈ ordersOf (ranks.take i), o.length = i) ∧ (ordersOf (ranks.take i)).length = fac i
  | 0, _ => by
    constructor
    · intro o ho
      have : ordersOf (ranks.take 0) = [[]] := rfl
      rw [this, List.mem_singleton] at ho
      rw [ho]; rfl
    · rfl
  | i + 1, h => by
    obtain ⟨h1, h2⟩ := orders_len (ranks := ranks) (i := i) (by omega)
    rw [ordersOf_succ (List.getElem?_eq_getElem (show i < ranks.length by omega))]
    unfold grow
    refine ⟨fun o ho => ?_, by rw [flat_len h1, h2]; rfl⟩
    obtain ⟨q, hq, ho⟩ := List.mem_flatMap.mp ho
    unfold ins at ho
    obtain ⟨p, hp, rfl⟩ := List.mem_map.mp ho
    have := h1 q hq
    have := List.mem_range.mp hp
    simp; omega
theorem orders_bnd {ranks : List Int} (h4 : ranks.length = 4) {i : Nat} (hi : i ≤ 4) : (ordersOf (ranks.take i)).length ≤ 24 ∧ ∀ o ∈ ordersOf (ranks.take i), o.length = i := by
  obtain ⟨h1, h2⟩ := orders_len (ranks := ranks) (i := i) (by omega)
  refine ⟨?_, h1⟩
  rw [h2]
  match i, hi with
  | 0, _ => decide
  | 1, _ => decide
  | 2, _ => decide
  | 3, _ => decide
  | 4, _ => decide
def Hold (p : Prop) : Prop := p
theorem Hold.out {p : Prop} (h : Hold p) : p := h
theorem Hold.mk {p : Prop} (h : p) : Hold p := h
/-- [elt for x in a list for y in ..] -/
theorem comp_nest_list {x y : Str} {px py : Pos} {l : Addr} {lo : Obj} {items : Array Value} {elt iter iter2 : PySem.Expr} {pos : Pos} {cl : List (Str × Addr)} {scope : Scope} {Fin : Addr → List (Addr × Obj) → Shared → Prop}
    (F : Fr h₀ L s.heap m) (N : News h₀ L s.heap news) (hh : A.handled = none) (hl : (l, lo) ∈ news ∨ h₀.get? l = some lo) (hc : lo.cls = .type "list") (hd : ∃ k, lo.data = .seq items k) (hx : scope.names.lookup x = some .local) (hy : scope.names.lookup y = some .local) (hxy : x ≠ y) (hkind : scope.kind = .function)
    (J : Nat → List Value → List (Addr × Obj) → Prop) (hj : J 0 [] news) (hsrc : h₀.get? l = some lo ∨ ∀ i ys nw, J i ys nw → (l, lo) ∈ nw)
    (turn : ∀ i v I oI C oC D mC ys nw h tk E', i < items.size → items[i]? = some v → J i ys nw → LCg.NsObj oC mC → mC x = some v → (@Ne Nat I C ∧ @Ne Nat I D ∧ @Ne Nat C D) → (∀ p ∈ news, p.1 < D ∧ p.1 < C ∧ p.1 < I) →
      (∀ p ∈ nw, p.1 ≠ C ∧ p.1 ≠ D ∧ p.1 ≠ I) → Fr h₀ L h m → News h₀ L h ((I, oI) :: (C, oC) :: (D, LCg.lst ys) :: nw) →
      wpAny (MM w) A (eval iter2 (compEnvC scope cl C env)) (fun xv s₃ => wpAny (MM w) A (pyIter xv) (fun it2 s₄ => InnerAt w A h₀ L m x y v elt cl scope env I oI C D (J (i + 1)) { s with heap := h, toks := tk } it2 s₄) E' s₃) E' { s with heap := h, toks := tk })
    (fin : ∀ D ys nw h₂ tk₂, J items.size ys nw → (∀ p ∈ nw, p.1 ≠ D) → (∀ p ∈ news, p.1 < D) → Fin D ((D, LCg.lst ys) :: nw) { s with heap := h₂, toks := tk₂ }) :
    wpAny (MM w) A (pyIter (.ref l)) (fun it s₂ => CompAt w A h₀ L m env cl scope (.Name x px) (B2 w A (.Name x px) iter (.Name y py) iter2 [] [] elt pos cl scope env) Fin it s₂) E s :=
  wpAny_mono (src1_list (x := x) hh F N hl hc hd) (fun it s₂ H => comp_nest H hx hy hxy hkind J hj (fun p hp => by rw [List.mem_singleton.mp hp]; exact hsrc) turn fin) fun _ _ e => e
local macro_rules | `(tactic| walk_at "exec Assign cons ListComp") => `(tactic| k_extra "my z64")
local macro_rules | `(tactic| walk_at "exec For Name Name cons nil") => `(tactic| k_extra "my z65")
local macro_rules | `(tactic| walk_at "exec For Name Name") => `(tactic| k_extra "my z66")
theorem EltEnd2.one {I2 : Addr} {oI2 : Obj} {I : Addr} {oI : Obj} {C : Addr} {oC : Obj} {D : Addr} {ys : List Value} {J' : List Value → List (Addr × Obj) → Prop} {h' : Heap} {tk' : Nat} {all nw : List (Addr × Obj)} {D' : Addr} {o' : Obj} (F : Fr h₀ L h' m) (N : News h₀ L h' all)
    (hD : (D', o') ∈ all) (sub : ∀ p ∈ (I2, oI2) :: (I, oI) :: (C, oC) :: (D, LCg.lst ys) :: nw, p ∈ all) (lt : (@LT.lt Nat _ I2 D' ∧ @LT.lt Nat _ I D' ∧ @LT.lt Nat _ C D' ∧ @LT.lt Nat _ D D')) (off : ∀ p ∈ nw, p.1 ≠ C ∧ p.1 ≠ D ∧ p.1 ≠ I ∧ p.1 ≠ I2)
    (hJ : J' (ys ++ [.ref D']) ((D', o') :: nw)) : EltEnd2 h₀ L m I2 oI2 I oI C oC D ys J' s (.ref D') { s with heap := h', toks := tk' } := by
  refine EltEnd2.intro F N ((D', o') :: nw) (fun p hp => ?_) (fun p hp => ?_) hJ
  · rcases List.mem_cons.mp hp with rfl | hp
    · exact sub _ (.head _)
    rcases List.mem_cons.mp hp with rfl | hp
    · exact sub _ (.tail _ (.head _))
    rcases List.mem_cons.mp hp with rfl | hp
    · exact sub _ (.tail _ (.tail _ (.head _)))
    rcases List.mem_cons.mp hp with rfl | hp
    · exact sub _ (.tail _ (.tail _ (.tail _ (.head _))))
    rcases List.mem_cons.mp hp with rfl | hp
    · exact hD
    · exact sub _ (.tail _ (.tail _ (.tail _ (.tail _ hp))))
  · rcases List.mem_cons.mp hp with rfl | hp
    · exact ⟨Ne.symm (Nat.ne_of_lt lt.2.2.1), Ne.symm (Nat.ne_of_lt lt.2.2.2), Ne.symm (Nat.ne_of_lt lt.2.1), Ne.symm (Nat.ne_of_lt lt.1)⟩
    · exact off p hp
theorem young_cons {led base : List (Addr × Obj)} {D : Addr} {o : Obj} (h : ∀ p ∈ led, ∀ q ∈ base, q.1 < p.1) (hD : AllLt D (led ++ base)) : ∀ p ∈ (D, o) :: led, ∀ q ∈ base, q.1 < p.1 := fun p hp q hq => by
  rcases List.mem_cons.mp hp with rfl | hp
  · exact allLt_lt hD q (List.mem_append_right _ hq)
  · exact h p hp q hq
theorem news_rot {h : Heap} {x y z : Addr × Obj} {r : List (Addr × Obj)} (N : News h₀ L h (x :: y :: z :: r)) : News h₀ L h (z :: x :: y :: r) := fun p hp => by
  rcases List.mem_cons.mp hp with rfl | hp
  · exact N _ (.tail _ (.tail _ (.head _)))
  rcases List.mem_cons.mp hp with rfl | hp
  · exact N _ (.head _)
  rcases List.mem_cons.mp hp with rfl | hp
  · exact N _ (.tail _ (.head _))
  · exact N _ (.tail _ (.tail _ (.tail _ hp)))
theorem len_ints {l : Addr} {lo : Obj} {vs : List Value} {ns : List Int} {i : Nat} (N : News h₀ L s.heap news) (hm : (l, lo) ∈ news) (hc : lo.cls = .type "list") (hd : ∃ n, lo.data = .seq vs.toArray n) (hi : IntsAre vs ns) (hn : ns.length = i) (hz : i < 1000)
    (h : ∀ t tk, Q (.int (i : Nat) t) { s with toks := tk }) : wpAny (MM w) A (call (.builtin "len") [.ref l]) Q E s := by
  have e : vs.toArray.size = i := by rw [List.size_toArray, hi.length, hn]
  refine Calls.call_len_list (isl N hm hc hd) (by rw [e]; omega) ?_
  rw [e]
  exact h _ _
theorem rng_ok : ∀ i : Nat, i < 4 → Builtin.Range.small 0 ((i : Int) + 1) 1 = true ∧ Builtin.Range.rangeSize 0 ((i : Int) + 1) 1 = ((i + 1 : Nat) : Int) := by decide
local macro_rules | `(tactic| walk_at "call builtin:len") => `(tactic| (k_extra "my z67"; intro t' tk'; (try dsimp only)))
local macro_rules | `(tactic| walk_at "subscriptTail Name Slice ref ref") => `(tactic| (k_extra "my z68"; intro D' ws' h' F' N' l1 hI' hC' hL'; clear hC' hL'; (try simp only [Int.zero_add, Int.toNat_natCast] at hI'); (try k_lt l1); (try k_sweep)))
local macro_rules | `(tactic| walk_at "binaryOp Add ref ref") => `(tactic| (k_extra "my z69"; intro D' ws' h' F' N' l1 hI'; (try k_lt l1); (try k_sweep)))
theorem orders_spec {l : Addr} {vs : List Value} {ranks : List Int} {n : Nat} (hl : (l, ({ cls := .type "list", data := .seq vs.toArray n } : Obj)) ∈ news) (hi : IntsAre vs ranks) (h4 : ranks.length = 4)
    (S : Sit w A env L h₀ s.heap m news (k + 1))
    (hret : ∀ D led vals n h' tk', Fr h₀ L h' m → News h₀ L h' (led ++ news) → (D, W.listOf (List.toArray vals) n) ∈ led → ListsIn led vals (ordersOf ranks) → (∀ p ∈ led, ∀ q ∈ news, q.1 < p.1) → Q (.ref D) { s with heap := h', toks := tk' }) :
    wpAny (model PySem.Challenge.pw_tp0016_01 w) A (call (.ref 139) [.ref l]) Q E s := by
  walk_at "my open"

  walk_at "my enterC2"
  k_steps
  refine Hold.mk ?_
  refine wpAny_For ?_
  walk1
  rename_i g' L' h' tk' FG' B' X' T' l1 q2 q3 oc hoc a1 ha1 lta a2 ha2 ltb h2 F2 N2
  have hsz : (100 : Nat) ≤ sizeLine := by decide
  refine' for_list_cell F2 (news_rot N2) rfl hoc (.inl (.tail _ (.tail _ hl))) rfl ⟨_, rfl⟩ rfl rfl rfl rfl ?off0 (fun i m' nw => ∃ D vals n led, nw = led ++ news ∧ m' "orders" = some (.ref D) ∧ (D, W.listOf (List.toArray vals) n) ∈ led ∧ ListsIn led vals (ordersOf (ranks.take i)) ∧ ∀ p ∈ led, ∀ q ∈ news, q.1 < p.1) ?j0 (.inr ?src0) ?turn0 ?done0
  case off0 =>
    intro p hp
    rcases List.mem_cons.mp hp with rfl | hp
    · exact Ne.symm (Nat.ne_of_lt ltb.2.1)
    rcases List.mem_cons.mp hp with rfl | hp
    · exact Ne.symm (Nat.ne_of_lt lta.1)
    · exact Nat.ne_of_lt (q2 p hp)
  case j0 => exact ⟨_, _, _, [(a2, _), (a1, _)], rfl, by walk_at "my look", .head _, .cons (.tail _ (.head _)) .nil .nil, young_cons (young_cons (led := []) (fun p hp => nomatch hp) lta.2) ⟨ltb.1, ltb.2.2⟩⟩
  case src0 => exact fun i m' nw ⟨_, _, _, _, e, _⟩ => by rw [e]; exact List.mem_append_right _ hl
  case turn0 =>
    rintro i v I oI oc m₁ nw h tk E' hi2 hv ⟨D, vals, n₁, led, hnw, hmo, hD, hlists, hy⟩ hoc hlt hcI off F₁ N₁
    have hD := (hnw ▸ List.mem_append_left news hD : (D, W.listOf (List.toArray vals) n₁) ∈ nw)
    rw [List.size_toArray, hi.length, h4] at hi2
    obtain ⟨tv, hv2⟩ := ints_at hi i (by rw [hi.length, h4]; exact hi2)
    generalize hr : ranks[i]'(by rw [h4]; exact hi2) = r at hv2
    have hri : ranks[i]? = some r := by rw [← hr]; exact List.getElem?_eq_getElem _
    obtain rfl : v = .int r tv := by
      have : vs[i]? = some v := by simpa using hv
      rw [hv2] at this; exact (Option.some.inj this).symm
    have hnext := ordersOf_succ hri
    obtain ⟨hb1, hb2⟩ := orders_bnd (ranks := ranks) h4 (Nat.le_of_lt hi2)
    generalize ordersOf (ranks.take i) = os at *
    k_steps
    refine Hold.mk ?_
    walk_at "my anest"
    walk1
    have hvl := hlists.len
    refine' comp_nest_list (x := "order") (y := "place") (news := (I, oI) :: (L' + 1, oc) :: nw) ?F3 ?N3 rfl (.inl (.tail _ (.tail _ hD))) rfl ⟨_, rfl⟩ rfl rfl (by decide) rfl (fun i ys nw' => ∃ led, nw' = led ++ (I, oI) :: (L' + 1, oc) :: nw ∧ ListsIn led ys ((os.take i).flatMap (ins r)) ∧ ∀ p ∈ led, ∀ q ∈ (I, oI) :: (L' + 1, oc) :: nw, q.1 < p.1) ⟨[], rfl, .nil, fun p hp => nomatch hp⟩ (.inr fun i ys nw' ⟨led, e, _⟩ => by rw [e]; exact List.mem_append_right _ (.tail _ (.tail _ hD))) ?turn1 ?fin1
    case F3 => k_asm
    case N3 => k_asm
    case turn1 =>
      rintro q v I₁ oI₁ C₁ oC₁ D₁ mC₁ ys₁ nw₁ h₃ tk₃ E₃ hq hvq ⟨led₁, rfl, hl₁, hy₁⟩ hoC₁ hmC₁ hne₁ hlt₁ off₁ F₃ N₃
      obtain ⟨b, ws, nb, o, rfl, hb, ho, hio⟩ := hlists.get (by simpa using hvq)
      have hb := (hnw ▸ List.mem_append_left news hb : (b, W.listOf (List.toArray ws) nb) ∈ nw)
      have hb₁ : (b, W.listOf ws.toArray nb) ∈ led₁ ++ (I, oI) :: (L' + 1, oc) :: nw := List.mem_append_right _ (.tail _ (.tail _ hb))
      have hcell₁ : (L' + 1, oc) ∈ led₁ ++ (I, oI) :: (L' + 1, oc) :: nw := List.mem_append_right _ (.tail _ (.head _))
      have hlo : o.length = i := hb2 o (List.mem_of_getElem? ho)
      k_steps
      refine wpAny_mono (src1_range (x := "place") rfl (by k_asm) (by k_asm) (by assumption) (rng_ok i hi2).1 (rng_ok i hi2).2) (fun it2 s₄ H2 => ⟨i + 1, _, [], oC₁, _, ys₁, led₁ ++ (I, oI) :: (L' + 1, oc) :: nw, (fun j ys nw' => ∃ led, nw' = led ++ (I, oI) :: (L' + 1, oc) :: nw ∧ ListsIn led ys ((os.take q).flatMap (ins r) ++ (ins r o).take j) ∧ ∀ p ∈ led, ∀ q ∈ (I, oI) :: (L' + 1, oc) :: nw, q.1 < p.1), H2, hoC₁, hmC₁, ?_⟩) fun _ _ e => e
      refine' ⟨⟨led₁, rfl, by simpa using hl₁, hy₁⟩, off₁, (fun p hp => nomatch hp), ?len2, ?turn2, ?fin2⟩
      case len2 =>
        rintro j ys₂ nw₂ hj ⟨led₂, rfl, hl₂, hy₂⟩
        have h1 := flat_len (r := r) (os := os.take q) (n := i) fun o ho => hb2 o (List.mem_of_mem_take ho)
        have h2 := hl₂.len
        rw [List.length_append, h1, List.length_take, List.length_take, ins_len] at h2
        have h3 : min q os.length * (i + 1) ≤ 24 * 4 := Nat.mul_le_mul (by omega) (by omega)
        omega
      case turn2 =>
        rintro j u I₂ oI₂ oC₂ mC₂ ys₂ nw₂ h₄ tk₄ E₄ hj ⟨tu, rfl⟩ ⟨led₂, rfl, hl₂, hy₂⟩ hoC₂ hmx hmy hne₂ off₂ F₄ N₄
        have hb₂ : (b, W.listOf ws.toArray nb) ∈ led₂ ++ (I, oI) :: (L' + 1, oc) :: nw := List.mem_append_right _ (.tail _ (.tail _ hb))
        have hcell₂ : (L' + 1, oc) ∈ led₂ ++ (I, oI) :: (L' + 1, oc) :: nw := List.mem_append_right _ (.tail _ (.head _))
        k_steps
        repeat (with_reducible rename _ ∧ _ => hc; obtain ⟨hc1, hc2⟩ := hc)
        refine' EltEnd2.one ?F5 ?N5 ?hD5 ?sub5 ?lt5 off₂ ⟨(_, _) :: led₂, rfl, ?li5, young_cons hy₂ ?al5⟩
        case F5 => k_asm
        case N5 => k_asm
        case hD5 => exact .head _
        case sub5 => walk_at "my sub"
        case lt5 => exact ⟨by assumption, by assumption, by assumption, by assumption⟩
        case al5 => assumption
        case li5 =>
          rw [ins_take (by rw [hlo]; omega), ← List.append_assoc]
          exact (hl₂.mono fun p hp => .tail _ hp).snoc (.head _) (by assumption)
      case fin2 => 
        rintro ys₂ nw₂ ⟨led₂, rfl, hl₂, hy₂⟩
        rw [List.take_of_length_le (l := ins r o) (by rw [ins_len, hlo]; exact Nat.le_refl _), ← flat_take (ins r) ho] at hl₂
        exact ⟨led₂, rfl, hl₂, hy₂⟩
    case fin1 =>
      rintro D₁ ys₁ nw₁ h₃ tk₃ ⟨led₁, rfl, hl₁, hy₁⟩ off₁ hlt₁ h₄ tk₄ F₄ N₄
      dsimp only
      k_steps
      rw [List.take_of_length_le (by rw [List.size_toArray, hvl]; exact Nat.le_refl _)] at hl₁
      refine' CellEnd.next ?F6 ?N6 ((D₁, LCg.lst ys₁) :: (led₁ ++ nw)) ?sub6 hoc ?off6 ⟨D₁, ys₁, _, (D₁, LCg.lst ys₁) :: (led₁ ++ led), by rw [hnw, List.cons_append, List.append_assoc], ?lk6, .head _, ?li6, ?yo6⟩
      case F6 => k_asm
      case N6 => k_asm
      case lk6 => walk_at "my look"
      case sub6 =>
        intro p hp
        simp only [List.mem_cons, List.mem_append] at hp ⊢
        rcases hp with h | h | h | h | h
        · exact .inr (.inr (.inl h))
        · exact .inr (.inr (.inr (.inl h)))
        · exact .inl h
        · exact .inr (.inl h)
        · exact .inr (.inr (.inr (.inr h)))
      case off6 =>
        intro p hp
        simp only [List.mem_cons, List.mem_append] at hp
        rcases hp with rfl | h | h
        · exact ⟨Ne.symm (Nat.ne_of_lt (hlt₁ (I, oI) (.head _))), Ne.symm (Nat.ne_of_lt (hlt₁ (L' + 1, oc) (.tail _ (.head _))))⟩
        · exact ⟨Ne.symm (Nat.ne_of_lt (hy₁ p h (I, oI) (.head _))), Ne.symm (Nat.ne_of_lt (hy₁ p h (L' + 1, oc) (.tail _ (.head _))))⟩
        · exact off p h
      case li6 =>
        rw [hnext]
        exact hl₁.mono fun p hp => .tail _ (List.mem_append_left _ hp)
      case yo6 =>
        intro p hp q hq
        have hq' : q ∈ nw := hnw ▸ List.mem_append_right led hq
        rcases List.mem_cons.mp hp with rfl | hp
        · exact hlt₁ q (.tail _ (.tail _ hq'))
        rcases List.mem_append.mp hp with hp | hp
        · exact hy₁ p hp q (.tail _ (.tail _ hq'))
        · exact hy p hp q hq
  case done0 =>
    rintro m₁ nw oc v h tk ⟨D, vals, n₁, led, rfl, hmo, hD, hlists, hy⟩ hoc F₁ N₁
    dsimp only
    k_steps
    rw [List.take_of_length_le (by rw [List.size_toArray, hi.length]; exact Nat.le_refl _)] at hlists
    with_reducible rename News h₀ L _ (_ :: (led ++ news)) => kN
    exact hret _ led _ _ _ _ (by assumption) (fun p hp => kN p (.tail _ hp)) hD hlists hy
end orders

end SP25
theorem rstP26 : True ∧ True := by
  w_top off
  first
    | (walk1; done)
    | exact ⟨trivial, trivial⟩
section SP26
section table
variable {w : World} {A : Around} {env : Env} {L : Addr} {h₀ : Heap} {m : Str → Option Value} {news : List (Addr × Obj)} {k : Nat} {s : Shared} {Q E : Value → Shared → Prop}
/-- how many ranks of an order are not above their bounds -/
def fits (o bs : List Int) : Nat := ((o.zip bs).filter fun p => decide (p.1 ≤ p.2)).length
def tabOf (os : List (List Int)) (bs : List Int) : List Int := (List.range 5).map fun c => ((os.filter fun o => fits o bs == c).length : Nat)
theorem news_mid {h : Heap} {x : Addr × Obj} {led r : List (Addr × Obj)} (N : News h₀ L h (led ++ x :: r)) : News h₀ L h (x :: (led ++ r)) := fun p hp => by
  rcases List.mem_cons.mp hp with rfl | hp
  · exact N _ (List.mem_append_right _ (.head _))
  rcases List.mem_append.mp hp with hp | hp
  · exact N _ (List.mem_append_left _ hp)
  · exact N _ (List.mem_append_right _ (.tail _ hp))
def bools (o bs : List Int) : List Bool := (o.zip bs).map fun p => decide (p.1 ≤ p.2)
theorem fits_bools (o bs : List Int) : (bools o bs).count true = fits o bs := by
  unfold bools fits
  rw [List.count, List.countP_map, ← List.countP_eq_length_filter]
  congr 1
  funext p
  simp
theorem count_true {l : Addr} {lo : Obj} {bl : List Bool} (N : News h₀ L s.heap news) (hm : (l, lo) ∈ news) (hc : lo = LCg.lst (bl.map Value.bool)) (h : ∀ t tk, Q (.int (bl.count true : Nat) t) { s with toks := tk }) :
    wpAny (MM w) A (call (.builtin "list.count") [.ref l, .bool true]) Q E s := by
  subst hc
  refine call_meets PySem.F.slot_list_count ⟨_, (N _ hm).1, rfl⟩ PySem.F.entry_list_count (PySem.F.args_list_count_2 _ _) (PySem.SeqAt.list_countAt l (bl.map Value.bool).toArray _ _ _ (.bool true) (isBoolOf true)) ⟨(N _ hm).1, fun y hy => ?_, ?_⟩
  · obtain ⟨b, hb, rfl⟩ := List.mem_map.mp (by simpa using hy : y ∈ bl.map Value.bool)
    exact PySem.SeqAt.EqAt.bool_bool b true
  · have : (bl.map Value.bool).toArray.toList.countP (isBoolOf true) = bl.count true := by
      rw [List.toList_toArray, List.countP_map]; rfl
    rw [this]
    exact h _ _
local macro_rules | `(tactic| walk_at "call builtin:list.count") => `(tactic| (k_extra "my z70"; intro t' tk'; (try dsimp only)))
local macro_rules | `(tactic| walk_at "exec For Name Call cons nil") => `(tactic| k_extra "my z71")
local macro_rules | `(tactic| walk_at "exec For Name Call") => `(tactic| k_extra "my z72")
local macro_rules | `(tactic| walk_at "eval ListComp") => `(tactic| k_extra "my z73")
local macro_rules | `(tactic| walk_at "call ref") => `(tactic| (k_extra "my z74"; intro t' h' tk' F' N'; (try dsimp only); (try k_sweep)))
theorem intsAre_set {x : Int} {u : Tok} : ∀ {vs : List Value} {ns : List Int}, IntsAre vs ns → ∀ k : Nat, IntsAre (vs.set k (.int x u)) (ns.set k x)
  | _, _, .nil, _ => .nil
  | _, _, .cons _ _ h, 0 => .cons x u h
  | _, _, .cons i t h, k + 1 => .cons i t (intsAre_set h k)
theorem set_ints {D : Addr} {vs : List Value} {ns : List Int} {n c : Nat} {t u : Tok} {x : Int} {news' : List (Addr × Obj)} {Q : Unit → Shared → Prop} (F : Fr h₀ L s.heap m) (N : News h₀ L s.heap news) (U : Upd D (W.listOf vs.toArray n) (W.listOf (vs.set c (.int x u)).toArray n) news news') (hi : IntsAre vs ns) (h1 : c < ns.length) (hs : ns.length ≤ 64)
    (h : ∀ h', Fr h₀ L h' m → News h₀ L h' news' → IntsAre (vs.set c (.int x u)) (ns.set c x) → Q () { s with heap := h' }) :
    wpAny (MM w) A (setItem (.ref D) (.int (c : Nat) t) (.int x u)) Q E s := by
  obtain ⟨pre, post, rfl, rfl, a, b'⟩ := U.split
  have z := N (D, W.listOf vs.toArray n) (List.mem_append.mpr (.inr (.head _)))
  have hl : vs.length = ns.length := hi.length
  have hs' : vs.toArray.size = ns.length := by rw [List.size_toArray]; exact hl
  refine ki_setAt z.1 (by omega) (by omega) (by omega) (h _ (F.change (Heap.SameBut.update ..) z.2.1 z.2.2) (ki_turn _ N a b' ?_ ?_) (intsAre_set hi _))
  · show vs.toArray.setIfInBounds (c : Int).toNat (.int x u) = (vs.set c (.int x u)).toArray
    apply Array.toList_inj.mp
    simp
  · simp
theorem get_ints {l : Addr} {vs : List Value} {ns : List Int} {n c : Nat} {u : Tok} {Q : Value → Shared → Prop} (N : News h₀ L s.heap news) (hm : (l, W.listOf vs.toArray n) ∈ news) (hi : IntsAre vs ns) (h1 : c < ns.length) (hs : ns.length ≤ 64) (h : ∀ t, Q (.int (ns.getD c 0) t) s) :
    wpAny (MM w) A (getItem (.ref l) (.int (c : Nat) u)) Q E s := getItem_intsK (isl N hm rfl ⟨_, rfl⟩) hi (by omega) (by omega) (by omega) h
theorem tabOf_len (os : List (List Int)) (bs : List Int) : (tabOf os bs).length = 5 := by simp [tabOf]
theorem tab_succ {os : List (List Int)} {bs o : List Int} {i : Nat} (ho : os[i]? = some o) : tabOf (os.take (i + 1)) bs = (tabOf (os.take i) bs).set (fits o bs) ((tabOf (os.take i) bs).getD (fits o bs) 0 + 1) := by
  rw [List.take_add_one, ho]
  refine List.ext_getElem (by simp [tabOf]) fun j h1 h2 => ?_
  rw [tabOf_len] at h1
  rw [List.getElem_set]
  by_cases e : fits o bs = j
  · subst e
    rw [if_pos rfl]
    simp [tabOf, List.filter_append, h1]
  · rw [if_neg e]
    simp [tabOf, List.filter_append, e]
theorem fits_le {o bs : List Int} (h : o.length = 4) : fits o bs ≤ 4 := by
  unfold fits
  refine Nat.le_trans (List.length_filter_le _ _) ?_
  rw [List.length_zip]; omega
theorem bools_succ {o bs : List Int} {j : Nat} (h1 : j < o.length) (h2 : j < bs.length) : ((bools o bs).take (j + 1)).map Value.bool = ((bools o bs).take j).map Value.bool ++ [.bool (decide (o[j] ≤ bs[j]))] := by
  have hl : j < (bools o bs).length := by simp [bools]; omega
  rw [List.take_add_one, List.map_append, List.getElem?_eq_getElem hl]
  simp [bools]
local macro_rules | `(tactic| walk_at "getItem ref int") => `(tactic| (k_extra "my z75"; intro t'; (try dsimp only)))
local macro_rules | `(tactic| walk_at "setItem ref int") => `(tactic| (k_extra "my z76"; intro h' F' N' i'; (try dsimp only)))
theorem table_spec {l l2 : Addr} {vs us : List Value} {ranks bs : List Int} {n n2 : Nat} (hl : (l, ({ cls := .type "list", data := .seq vs.toArray n } : Obj)) ∈ news) (hi : IntsAre vs ranks) (h4 : ranks.length = 4)
    (hl2 : (l2, ({ cls := .type "list", data := .seq us.toArray n2 } : Obj)) ∈ news) (hi2 : IntsAre us bs) (h42 : bs.length = 4)
    (S : Sit w A env L h₀ s.heap m news (k + 3))
    (hret : ∀ vals n, IntsAre vals (tabOf (ordersOf ranks) bs) → RetNew h₀ L m news s Q (W.listOf (List.toArray vals) n)) :
    wpAny (model PySem.Challenge.pw_tp0016_01 w) A (call (.ref 144) [.ref l, .ref l2]) Q E s := by
  walk_at "my open"
  walk_at "my enter"
  k_steps
  refine Hold.mk ?_
  refine wpAny_For ?_
  iterate 7 walk1
  rename_i T hT lT h₂ F₂ N₂
  refine' orders_spec (k := 0) (.tail _ hl) hi h4 ?S3 ?_
  case S3 => walk_at "my sit"
  intro D led vals nD h₃ tk₃ F₃ N₃ hD hlists hy
  dsimp only
  have hvl := hlists.len
  refine' for_list F₃ (news_mid N₃) rfl (.inl (.tail _ (List.mem_append_left _ hD))) rfl ⟨_, rfl⟩ rfl rfl rfl (fun i m' nw => ∃ tv n, nw = (T, W.listOf (List.toArray tv) n) :: (led ++ news) ∧ m' "table" = some (.ref T) ∧ m' "bounds" = some (.ref l2) ∧ IntsAre tv (tabOf ((ordersOf ranks).take i) bs)) ?j0 (.inr fun i m' nw ⟨_, _, e, _⟩ => by rw [e]; exact .tail _ (List.mem_append_left _ hD)) ?turn0 ?done0
  case j0 =>
    refine' ⟨_, _, rfl, by walk_at "my look", by walk_at "my look", ?_⟩
    exact IntsAre.cons _ _ (IntsAre.cons _ _ (IntsAre.cons _ _ (IntsAre.cons _ _ (IntsAre.cons _ _ IntsAre.nil))))
  case turn0 =>
    rintro i v I oI m₁ nw h tk E' hi3 hv ⟨tv, nt, rfl, hmt, hmb, hit⟩ hlt off F₁ N₁
    obtain ⟨b, ws, nb, o, rfl, hb, ho, hio⟩ := hlists.get (by simpa using hv)
    have hb' : (b, W.listOf (List.toArray ws) nb) ∈ led ++ news := List.mem_append_left _ hb
    have hl2' : (l2, W.listOf us.toArray n2) ∈ led ++ news := List.mem_append_right _ hl2
    have hTI : T ≠ I := Nat.ne_of_lt (hlt (T, _) (.head _))
    have hsz : (100 : Nat) ≤ sizeLine := by decide
    have hlo : o.length = 4 := by
      have := (orders_len (ranks := ranks) (i := 4) (by omega)).1
      rw [List.take_of_length_le (by omega)] at this
      exact this o (List.mem_of_getElem? ho)
    have hw4 : ws.length = 4 := hio.length.trans hlo
    have hu4 : us.length = 4 := hi2.length.trans h42
    k_steps
    rename_i H
    refine wpAny_mono (Src2.iter H) (fun it s₂ H2 => ?_) fun _ _ e => e
    refine' comp_two H2 rfl rfl (by decide) rfl ?hn5 (fun i ys nw' => nw' = (I, oI) :: (T, W.listOf (List.toArray tv) nt) :: (led ++ news) ∧ ys = ((bools o bs).take i).map Value.bool) ⟨rfl, rfl⟩ ?hJ5 ?hsrc5 ?turn5 ?fin5
    case hn5 => rw [List.size_toArray, List.size_toArray, hw4, hu4]; omega
    case hJ5 =>
      rintro i ys nw ⟨_, rfl⟩
      rw [List.length_map, List.length_take]; omega
    case hsrc5 =>
      intro p hp
      simp only [List.mem_cons, List.not_mem_nil, or_false] at hp
      rcases hp with rfl | rfl
      · exact .inr fun i ys nw ⟨e, _⟩ => by rw [e]; exact .tail _ (.tail _ hb')
      · exact .inr fun i ys nw ⟨e, _⟩ => by rw [e]; exact .tail _ (.tail _ hl2')
    case turn5 =>
      rintro j x y wr its C oC D₁ mC ys nw₁ h₄ tk₄ E₄ hj ⟨hx, hy⟩ ⟨rfl, rfl⟩ hoC hmx hmy he hCD hlt₁ off₁ F₄ N₄
      rw [List.size_toArray, List.size_toArray, hw4, hu4] at hj
      obtain ⟨t1, e1⟩ := ints_at hio j (by omega)
      obtain ⟨t2, e2⟩ := ints_at hi2 j (by omega)
      have hx' : ws[j]? = some x := by simpa using hx
      have hy' : us[j]? = some y := by simpa using hy
      rw [e1] at hx'; rw [e2] at hy'
      obtain rfl := Option.some.inj hx'
      obtain rfl := Option.some.inj hy'
      k_steps
      refine' EltEnd.intro ?F6 ?N6 ((I, oI) :: (T, W.listOf (List.toArray tv) nt) :: (led ++ news)) (fun p hp => hp) off₁ ⟨rfl, (bools_succ _ _).symm⟩
      case F6 => k_asm
      case N6 => k_asm
    case fin5 =>
      rintro D₁ ys nw₁ h₄ tk₄ ⟨rfl, rfl⟩ off₁ hlt₁ h₅ tk₅ F₅ N₅
      dsimp only
      have hl5 := tabOf_len ((ordersOf ranks).take i) bs
      have hf5 := fits_le (bs := bs) hlo
      have hfb := fits_bools o bs
      have hTD : @LT.lt Nat _ T D₁ := hlt₁ (T, _) (.tail _ (.head _))
      have hTI2 : @LT.lt Nat _ T I := hlt (T, _) (.head _)
      have hoffT : ∀ p ∈ led ++ news, p.1 ≠ T := fun p hp => by
        rcases List.mem_append.mp hp with hp | hp
        · exact Ne.symm (Nat.ne_of_lt (hy p hp (T, _) (.head _)))
        · exact Nat.ne_of_lt (lT p hp)
      rw [List.take_of_length_le (by simp [bools, hlo, h42, hw4, hu4])] at N₅
      k_steps
      with_reducible rename IntsAre (List.set _ _ _) _ => i₇
      rw [hfb, ← tab_succ ho] at i₇
      refine' LoopEnd.next ?F7 ?N7 ((T, W.listOf _ nt) :: (led ++ news)) ?sub7 ?off7 ⟨_, nt, rfl, ?lt7, ?lb7, i₇⟩
      case F7 => k_asm
      case N7 => k_asm
      case sub7 => rw [hfb]; walk_at "my sub"
      case off7 =>
        intro p hp b hb
        rw [List.mem_singleton.mp hb]
        rcases List.mem_cons.mp hp with rfl | hp
        · exact hTI
        · exact off p (.tail _ hp)
      case lt7 => walk_at "my look"
      case lb7 => walk_at "my look"
  case done0 =>
    rintro m₁ nw h tk ⟨tv, nt, rfl, hmt, hmb, hit⟩ F₁ N₁
    k_steps
    rw [List.size_toArray, hvl, List.take_length] at hit
    exact hret _ _ hit _ _ _ (by assumption) (fun p hp => (by assumption : News h₀ L _ ((T, _) :: (led ++ news))) p (by
      rcases List.mem_cons.mp hp with rfl | hp
      · exact .head _
      · exact .tail _ (List.mem_append_right _ hp))) lT
end table

end SP26
theorem rstP27 : True ∧ True := by
  w_top off
  first
    | (walk1; done)
    | exact ⟨trivial, trivial⟩
section SP27
section height
variable {w : World} {A : Around} {env : Env} {L : Addr} {h₀ : Heap} {m : Str → Option Value} {news : List (Addr × Obj)} {k : Nat} {s : Shared} {Q E : Value → Shared → Prop}
/-- behind a comprehension's test -/
def TestEnd (w : World) (A : Around) (env : Env) (h₀ : Heap) (L : Addr) (m : Str → Option Value) (its : List (Addr × Obj)) (wr : List Addr) (C D : Addr) (oC : Obj) (ys : List Value) (J' : (Str → Option Value) → List Value → List (Addr × Obj) → Prop) (mC : Str → Option Value) (elt : PySem.Expr) (cl : List (Str × Addr)) (scope : Scope) (s₁ : Shared) (E : Value → Shared → Prop) (ok : Bool) (s₃ : Shared) : Prop :=
  if ok = true then wpAny (MM w) A (eval elt (compEnvC scope cl C env)) (EltEnd h₀ L m its wr C D oC ys (J' mC) s₁) E s₃ else CompEndU h₀ L m its wr C D J' s₁ s₃
theorem elt_turn_if {c elt : PySem.Expr} {cl : List (Str × Addr)} {scope : Scope} {its : List (Addr × Obj)} {wr : List Addr} {C D : Addr} {oC : Obj} {mC : Str → Option Value} {ys : List Value} {J' : (Str → Option Value) → List Value → List (Addr × Obj) → Prop}
    {s₁ : Shared} {E : Value → Shared → Prop} (he : its.map (·.1) = wr) (hwD : C ≠ D ∧ ∀ b ∈ wr, b ≠ C ∧ b ≠ D) (hys : ys.length < sizeLine) (hoC : LCg.NsObj oC mC)
    (h : wpAny (MM w) A (isTrue c (compEnvC scope cl C env) (eval c (compEnvC scope cl C env))) (TestEnd w A env h₀ L m its wr C D oC ys J' mC elt cl scope s₁ E) E s₁) : B1 w A [c] elt cl scope env C D (CompEndU h₀ L m its wr C D J' s₁) E s₁ := by
  refine wpAny_tests_one (wpAny_mono h (fun ok s₃ h₃ => ?_) fun _ _ x => x)
  unfold TestEnd at h₃
  cases ok with
  | false => exact h₃
  | true => exact wpAny_mono h₃ (fun y s₂ q => elt_append he (fun b hb => (hwD.2 b hb).2) hwD.1 hys hoC q) fun _ _ x => x
theorem comp_list_if {x : Str} {px : Pos} {l : Addr} {lo : Obj} {items : Array Value} {c elt : PySem.Expr} {cl : List (Str × Addr)} {scope : Scope} {Fin : Addr → List (Addr × Obj) → Shared → Prop} {E : Value → Shared → Prop}
    (F : Fr h₀ L s.heap m) (N : News h₀ L s.heap news) (hh : A.handled = none) (hl : (l, lo) ∈ news ∨ h₀.get? l = some lo) (hc : lo.cls = .type "list") (hd : ∃ k, lo.data = .seq items k) (hx : scope.names.lookup x = some .local) (hkind : scope.kind = .function) (hn : items.size ≤ sizeLine)
    (J : Nat → List Value → List (Addr × Obj) → Prop) (hj : J 0 [] news) (hJ : ∀ i ys nw, J i ys nw → ys.length ≤ i) (hsrc : h₀.get? l = some lo ∨ ∀ i ys nw, J i ys nw → (l, lo) ∈ nw)
    (turn : ∀ i v I oI C oC D mC ys nw h tk E', i < items.size → items[i]? = some v → J i ys nw → LCg.NsObj oC mC → mC x = some v → (@Ne Nat I C ∧ @Ne Nat I D ∧ @Ne Nat C D) → (∀ p ∈ news, p.1 < D ∧ p.1 < C ∧ p.1 < I) →
      (∀ p ∈ nw, p.1 ≠ C ∧ p.1 ≠ D ∧ p.1 ≠ I) → Fr h₀ L h m → News h₀ L h ((I, oI) :: (C, oC) :: (D, LCg.lst ys) :: nw) →
      wpAny (MM w) A (isTrue c (compEnvC scope cl C env) (eval c (compEnvC scope cl C env))) (TestEnd w A env h₀ L m [(I, oI)] [I] C D oC ys (fun _ => J (i + 1)) mC elt cl scope { s with heap := h, toks := tk } E') E' { s with heap := h, toks := tk })
    (fin : Done1 news s items.size J Fin) :
    wpAny (MM w) A (pyIter (.ref l)) (fun it s₂ => CompAt w A h₀ L m env cl scope (.Name x px) (B1 w A [c] elt cl scope env) Fin it s₂) E s := by
  refine wpAny_mono (src1_list (x := x) hh F N hl hc hd) (fun it s₂ H => ?_) fun _ _ e => e
  obtain ⟨I, St, h₂, tk₂, rfl, rfl, F, N, st, hIL, hIlt, hI₀, hIn, P'⟩ := H
  refine ⟨[I], [(l, lo)], items.size, _, St, fun i _ ys nw => J i ys nw, news, fun C hC hs => P' (compEnvC scope cl C env) px (lookup_relabel_local hx) (by simp [plain, compEnvC, relabel, hkind]) (fun q => hC (by rw [← q]; exact .head _)) hs, st, F, N, hj,
    fun b hb => ?_, fun p hp => by rw [List.mem_singleton.mp hp]; exact hsrc.imp id fun h i _ ys nw => h i ys nw, ?_, fun D ys nw mC hJ' => fin D ys nw h₂ tk₂ hJ'⟩
  · rw [List.mem_singleton.mp hb]
    exact ⟨hIL, hIlt, hI₀, fun p hp => Nat.ne_of_lt (hIn p hp)⟩
  · intro i C D mC₁ mC₂ oC ys nw its h tk E' hi hJi hB hoC he hCD hlt off F' N'
    obtain ⟨oI, rfl⟩ := its_one he
    obtain ⟨v, hP, rfl⟩ := hB
    have hI := hCD.2 I (.head _)
    refine elt_turn_if he hCD (Nat.lt_of_le_of_lt (hJ _ _ _ hJi) (Nat.lt_of_lt_of_le hi hn)) hoC ?_
    exact turn i v I oI C oC D _ ys nw h tk E' hi hP hJi hoC (by simp) ⟨hI.1, hI.2, hCD.1⟩ (fun p hp => ⟨(hlt p hp).1, (hlt p hp).2, hIn p hp⟩) (fun p hp => ⟨(off p hp).1, (off p hp).2.1, (off p hp).2.2 I (.head _)⟩) F' N'
theorem CompEndU.skip {its : List (Addr × Obj)} {wr : List Addr} {C D : Addr} {oC : Obj} {mC : Str → Option Value} {ys : List Value} {J' : (Str → Option Value) → List Value → List (Addr × Obj) → Prop} {s₁ : Shared} {h' : Heap} {tk : Nat} {all : List (Addr × Obj)} (F : Fr h₀ L h' m) (N : News h₀ L h' all) (hoC : LCg.NsObj oC mC) (nw : List (Addr × Obj))
    (sub : ∀ p ∈ its ++ (C, oC) :: (D, LCg.lst ys) :: nw, p ∈ all) (off : ∀ p ∈ nw, p.1 ≠ C ∧ p.1 ≠ D ∧ ∀ b ∈ wr, p.1 ≠ b) (hJ : J' mC ys nw) : CompEndU h₀ L m its wr C D J' s₁ { s₁ with heap := h', toks := tk } :=
  ⟨h', tk, oC, mC, ys, nw, rfl, hoC, F, fun p hp => N p (sub p hp), off, hJ⟩

/-- [x for x in a list if c]: the ledger stays, the list grows by a filter -/
theorem comp_filter {x : Str} {px px2 : Pos} {l : Addr} {lo : Obj} {vs : List Value} {ws : List Str} {p : Str → Bool} {c : PySem.Expr} {cl : List (Str × Addr)} {scope : Scope} {Fin : Addr → List (Addr × Obj) → Shared → Prop} {E : Value → Shared → Prop}
    (F : Fr h₀ L s.heap m) (N : News h₀ L s.heap news) (hh : A.handled = none) (hl : (l, lo) ∈ news) (hc : lo.cls = .type "list") (hd : ∃ k, lo.data = .seq vs.toArray k) (hs : StrsAre vs ws) (hz : ws.length ≤ 100) (hx : scope.names.lookup x = some .local) (hkind : scope.kind = .function)
    (turn : ∀ i y ty I oI C oC D mC ys h tk E', ws[i]? = some y → LCg.NsObj oC mC → mC x = some (.str y ty) → (@Ne Nat I C ∧ @Ne Nat I D ∧ @Ne Nat C D) → (∀ p ∈ news, p.1 < D ∧ p.1 < C ∧ p.1 < I) → ys.length = ((ws.take i).filter p).length →
      (∀ p ∈ news, p.1 ≠ C ∧ p.1 ≠ D ∧ ∀ b ∈ [I], p.1 ≠ b) → Fr h₀ L h m → News h₀ L h ((I, oI) :: (C, oC) :: (D, LCg.lst ys) :: news) →
      wpAny (MM w) A (isTrue c (compEnvC scope cl C env) (eval c (compEnvC scope cl C env))) (TestEnd w A env h₀ L m [(I, oI)] [I] C D oC ys (fun _ ys nw => nw = news ∧ ys.length = ((ws.take (i + 1)).filter p).length) mC (.Name x px2) cl scope { s with heap := h, toks := tk } E') E' { s with heap := h, toks := tk })
    (fin : ∀ D ys h₂ tk₂, ys.length = (ws.filter p).length → (∀ p ∈ news, p.1 < D) → Fin D ((D, LCg.lst ys) :: news) { s with heap := h₂, toks := tk₂ }) :
    wpAny (MM w) A (pyIter (.ref l)) (fun it s₂ => CompAt w A h₀ L m env cl scope (.Name x px) (B1 w A [c] (.Name x px2) cl scope env) Fin it s₂) E s := by
  have hln := hs.len_eq
  have hsz : (100 : Nat) ≤ sizeLine := by decide
  refine comp_list_if F N hh (.inl hl) hc hd hx hkind (by rw [List.size_toArray, hln]; omega) (fun i ys nw => nw = news ∧ ys.length = ((ws.take i).filter p).length) ⟨rfl, rfl⟩ ?_ (.inr fun i ys nw h => by rw [h.1]; exact hl) ?_ ?_
  · rintro i ys nw ⟨_, e⟩
    rw [e]
    exact Nat.le_trans (List.length_filter_le _ _) (by rw [List.length_take]; omega)
  · rintro i v I oI C oC D mC ys nw h tk E' hi hv ⟨rfl, e⟩ hoC hmx hne hlt off F N
    rw [List.size_toArray, hln] at hi
    obtain ⟨t, hg⟩ := hs.get i _ (List.getElem?_eq_getElem hi)
    have hv' : vs[i]? = some v := by simpa using hv
    rw [hg] at hv'
    obtain rfl := Option.some.inj hv'
    exact turn i _ t I oI C oC D mC ys h tk E' (List.getElem?_eq_getElem hi) hoC hmx hne hlt e (off_one off) F N
  · rintro D ys nw h₂ tk₂ ⟨rfl, e⟩ off hlt
    rw [List.size_toArray, hln, List.take_length] at e
    exact fin D ys h₂ tk₂ e hlt
theorem filter_succ {p : Str → Bool} {ws : List Str} {i : Nat} {y : Str} (h : ws[i]? = some y) : ((ws.take (i + 1)).filter p).length = ((ws.take i).filter p).length + (if p y = true then 1 else 0) := by
  rw [List.take_add_one, h, List.filter_append, List.length_append]
  congr 1
  by_cases hp : p y = true
  · simp [hp]
  · simp [hp]
theorem strsAre_values : ∀ l : List (Str × Tok), StrsAre (strValues l) (l.map (·.1))
  | [] => .nil
  | (x, t) :: r => .cons x t (strsAre_values r)
theorem index_strs {l : Addr} {vs : List Value} {ys : List Str} {x : Str} {t : Tok} {n : Nat} (N : News h₀ L s.heap news) (hm : (l, W.listOf vs.toArray n) ∈ news) (hi : StrsAre vs ys) (hk : x ∈ ys) (hz : ys.length ≤ 1000) (h : ∀ t tk, Q (.int (ys.idxOf x : Nat) t) { s with toks := tk }) :
    wpAny (MM w) A (call (.builtin "list.index") [.ref l, .str x t]) Q E s := by
  have hlen := hi.len_eq
  have hj : ys.idxOf x < ys.length := List.idxOf_lt_length_iff.mpr hk
  have at' : ∀ (j : Nat) (h1 : j < vs.length) (h2 : j < ys.length), isStrOf x vs[j] = (ys[j] == x) := fun j h1 h2 => by
    obtain ⟨u, e⟩ := hi.get j _ (List.getElem?_eq_getElem h2)
    rw [List.getElem?_eq_getElem h1] at e
    rw [Option.some.inj e]; rfl
  refine call_meets PySem.F.slot_list_index ⟨_, (N _ hm).1, rfl⟩ PySem.F.entry_list_index (PySem.F.args_list_index_2 _ _)
    (PySem.SeqAt.list_indexAt l vs.toArray _ _ _ (.str x t) (isStrOf x) (ys.idxOf x) (by simpa [hlen] using hj) (by omega) ?_ ?_) ⟨(N _ hm).1, fun y hy => (eq_isStrOf x t hi y (by simpa using hy)).at _ _, h _ _⟩
  · show isStrOf x vs[ys.idxOf x] = true
    rw [at' _ (by omega) hj]
    simp
  · intro j hjs hlt
    show isStrOf x vs[j] = false
    rw [at' j (by simpa using hjs) (by omega)]
    have := List.not_of_lt_findIdx (p := (· == x)) (xs := ys) hlt
    simpa using this
theorem ops_plain : ∀ x ∈ ops, x.cps.all (· < 128) = true ∧ x.cps.size ≤ 100 := by
  have : (ops.all fun x => x.cps.all (· < 128) && decide (x.cps.size ≤ 100)) = true := by decide +kernel
  intro x hx
  have := List.all_eq_true.mp this x hx
  simpa using this
/-- the judges as the law tells them by itself -/
def hgt (j : Int) (x y : Str) : Bool := if j = 1 then decide (beside x y < 1) else decide (((ops.idxOf x : Nat) : Int) ≤ ((ops.idxOf y : Nat) : Int))
local macro_rules | `(tactic| walk_at "call ref") => `(tactic| (k_extra "my z77"; intro t' h' tk' F' N'; (try dsimp only); (try k_sweep)))
local macro_rules | `(tactic| walk_at "call ref") => `(tactic| (k_extra "my z78"; intro l' hl' D' h' tk' F' N' l1; (try k_lt l1); (try dsimp only); (try k_sweep)))
local macro_rules | `(tactic| walk_at "call builtin:list.index") => `(tactic| (k_extra "my z79"; intro t' tk'; (try dsimp only)))
local macro_rules | `(tactic| walk_at "eval ListComp") => `(tactic| k_extra "my z80")
theorem len_vals {l : Addr} {vs : List Value} (N : News h₀ L s.heap news) (hm : (l, LCg.lst vs) ∈ news) (hz : vs.length ≤ 1000) (h : ∀ t tk, Q (.int (vs.length : Nat) t) { s with toks := tk }) : wpAny (MM w) A (call (.builtin "len") [.ref l]) Q E s := by
  have e : vs.toArray.size = vs.length := List.size_toArray
  refine Calls.call_len_list (isl N hm rfl ⟨_, rfl⟩) (by rw [e]; omega) ?_
  rw [e]
  exact h _ _
local macro_rules | `(tactic| walk_at "call builtin:len") => `(tactic| (k_extra "my z81"; intro t' tk'; (try dsimp only)))
theorem height_spec {l : Addr} {vs : List Value} {ws : List Str} {n : Nat} {j : Int} {y : Str} {tj ty : Tok} (hl : (l, ({ cls := .type "list", data := .seq vs.toArray n } : Obj)) ∈ news) (hs : StrsAre vs ws) (hw : ∀ x ∈ ws, x ∈ ops) (h4 : ws.length ≤ 100) (hj : j = 0 ∨ j = 1) (hy : y ∈ ops)
    (S : Sit w A env L h₀ s.heap m news (k + 3))
    (hret : Ret h₀ L m news s Q (.int ((ws.filter fun x => hgt j x y).length : Nat))) :
    wpAny (model PySem.Challenge.pw_tp0016_01 w) A (call (.ref 161) [.int j tj, .ref l, .str y ty]) Q E s := by
  obtain ⟨hya, hyl⟩ := ops_plain y hy
  walk_at "my open"
  walk_at "my enterC2"
  rcases hj with rfl | rfl
  · k_steps
    with_reducible rename List.map _ _ = ops => hl'
    have hso := hl' ▸ strsAre_values _
    refine' comp_filter (lo := { cls := .type "list", data := .seq vs.toArray n }) ?F1 ?N1 rfl ?hl1 rfl ⟨_, rfl⟩ hs h4 rfl rfl (p := fun x => hgt 0 x y) ?turn1 ?fin1
    case F1 => k_asm
    case N1 => k_asm
    case hl1 => k_mem
    case turn1 =>
      rintro i z tz I oI C oC D mC ys h tk E' hz hoC hmx hne hlt hlen off F N
      have hzo := hw _ (List.mem_of_getElem? hz)
      k_steps
      unfold TestEnd
      have hfs := filter_succ (p := fun x => hgt 0 x y) hz
      split
      next hp =>
        rw [if_pos (by simpa only [hgt, show ¬ (0 : Int) = 1 by decide, if_false] using hp)] at hfs
        k_steps
        refine' EltEnd.intro1 ?F ?N (by walk_at "my sub") off ⟨rfl, by rw [List.length_append, hlen, hfs]; rfl⟩
        case F => k_asm
        case N => k_asm
      next hp =>
        rw [if_neg (by simpa only [hgt, show ¬ (0 : Int) = 1 by decide, if_false] using hp)] at hfs
        refine' CompEndU.skip ?F ?N hoC _ (by walk_at "my sub") off ⟨rfl, by rw [hlen]; exact hfs.symm⟩
        case F => k_asm
        case N => k_asm
    case fin1 =>
      rintro D ys h₂ tk₂ hlen hlt h tk F N
      dsimp only
      have hz : ys.length ≤ 1000 := by rw [hlen]; exact Nat.le_trans (List.length_filter_le _ _) (by omega)
      k_steps
      exact ret_int hret (by rw [hlen]) (by assumption) (by assumption) (by walk_at "my sub")
  · k_steps
    refine' comp_filter (lo := { cls := .type "list", data := .seq vs.toArray n }) ?F2 ?N2 rfl ?hl2 rfl ⟨_, rfl⟩ hs h4 rfl rfl (p := fun x => hgt 1 x y) ?turn2 ?fin2
    case F2 => k_asm
    case N2 => k_asm
    case hl2 => k_mem
    case turn2 =>
      rintro i z tz I oI C oC D mC ys h tk E' hz hoC hmx hne hlt hlen off F N
      have hzo := hw _ (List.mem_of_getElem? hz)
      obtain ⟨hza, hzl⟩ := ops_plain z hzo
      k_steps
      unfold TestEnd
      have hfs := filter_succ (p := fun x => hgt 1 x y) hz
      split
      next hp =>
        rw [if_pos (by simpa only [hgt, if_true] using hp)] at hfs
        k_steps
        refine' EltEnd.intro1 ?F ?N (by walk_at "my sub") off ⟨rfl, by rw [List.length_append, hlen, hfs]; rfl⟩
        case F => k_asm
        case N => k_asm
      next hp =>
        rw [if_neg (by simpa only [hgt, if_true] using hp)] at hfs
        refine' CompEndU.skip ?F ?N hoC _ (by walk_at "my sub") off ⟨rfl, by rw [hlen]; exact hfs.symm⟩
        case F => k_asm
        case N => k_asm
    case fin2 =>
      rintro D ys h₂ tk₂ hlen hlt h tk F N
      dsimp only
      have hz : ys.length ≤ 1000 := by rw [hlen]; exact Nat.le_trans (List.length_filter_le _ _) (by omega)
      k_steps
      exact ret_int hret (by rw [hlen]) (by assumption) (by assumption) (by walk_at "my sub")
end height

end SP27
theorem rstP28 : True ∧ True := by
  w_top off
  first
    | (walk1; done)
    | exact ⟨trivial, trivial⟩
section SP28
section written
variable {w : World} {A : Around} {env : Env} {L : Addr} {h₀ : Heap} {m : Str → Option Value} {news : List (Addr × Obj)} {k : Nat} {s : Shared} {Q E : Value → Shared → Prop}
/-- how a word is written -/
def pieceC (y : List Nat) (d : Int) : List Nat := if Int.fmod (Int.fdiv d 48) 3 = 0 then y ++ [32] else if Int.fmod (Int.fdiv d 48) 3 = 1 then 34 :: y ++ [34] else y.flatMap (fun c => [92, c]) ++ [10]
def wcps (ws : List Str) (ds : List Int) : List Nat := (ws.zip ds).flatMap fun p => pieceC p.1.cps.toList p.2
theorem cps_append (x y : Str) : (x ++ y).cps.toList = x.cps.toList ++ y.cps.toList := by
  show (x.cps ++ y.cps).toList = _
  simp
theorem slen_append (x y : Str) : (x ++ y).length = x.length + y.length := by
  show (x.cps ++ y.cps).size = _
  rw [Array.size_append]; rfl
theorem glue_cps (ps : List Str) : ∀ acc : Array Nat, (ps.foldl (fun acc p => acc ++ (Str.ofString "").cps ++ p.cps) acc).toList = acc.toList ++ ps.flatMap (·.cps.toList) := by
  induction ps with
  | nil => intro acc; simp
  | cons p r ih =>
    intro acc
    rw [List.foldl_cons, ih, Array.toList_append, Array.toList_append, show (Str.ofString "").cps.toList = [] by decide +kernel, List.flatMap_cons]
    simp
theorem join_cps (ys : List Str) : (Txt.join (Str.ofString "") ys).cps.toList = ys.flatMap (·.cps.toList) := by
  show ((ys.drop 1).foldl (fun acc p => acc ++ (Str.ofString "").cps ++ p.cps) (ys.headD Str.empty).cps).toList = _
  rw [glue_cps]
  cases ys with
  | nil => rfl
  | cons x r => simp
theorem piece0 {y : Str} {d : Int} (h : Int.fmod (Int.fdiv d 48) 3 = 0) : (y ++ Str.ofString " ").cps.toList = pieceC y.cps.toList d := by
  unfold pieceC
  rw [if_pos h, cps_append, show (Str.ofString " ").cps.toList = [32] by decide +kernel]
theorem piece1 {y : Str} {d : Int} (h : Int.fmod (Int.fdiv d 48) 3 ≠ 0) (h1 : Int.fmod (Int.fdiv d 48) 3 = 1) : (Str.ofString "\"" ++ y ++ Str.ofString "\"").cps.toList = pieceC y.cps.toList d := by
  unfold pieceC
  rw [if_neg h, if_pos h1, cps_append, cps_append, show (Str.ofString "\"").cps.toList = [34] by decide +kernel]; rfl
theorem piece2 {y z : Str} {d : Int} (h : Int.fmod (Int.fdiv d 48) 3 ≠ 0) (h1 : Int.fmod (Int.fdiv d 48) 3 ≠ 1) (hz : z.cps.toList = y.cps.toList.flatMap (fun c => [92, c])) : (z ++ Str.ofString "\n").cps.toList = pieceC y.cps.toList d := by
  unfold pieceC
  rw [if_neg h, if_neg h1, cps_append, hz, show (Str.ofString "\n").cps.toList = [10] by decide +kernel]
theorem piece_len (y : List Nat) (d : Int) : (pieceC y d).length ≤ 2 * y.length + 2 := by
  unfold pieceC
  split
  · simp; omega
  · split
    · simp; omega
    · rw [List.length_append, show (y.flatMap fun c => [92, c]).length = 2 * y.length from ?_]
      · simp
      · induction y with
        | nil => rfl
        | cons a r ih => rw [List.flatMap_cons, List.length_append, ih, List.length_cons]; simp; omega
local macro_rules | `(tactic| walk_at "loadName") => `(tactic| k_extra "my z82")
local macro_rules | `(tactic| walk_at "eval ListComp") => `(tactic| k_extra "my z83")
local macro_rules | `(tactic| walk_at "exec For Tuple Call cons nil") => `(tactic| k_extra "my z84")
def esc (c : Nat) : Str := Str.ofString "\\" ++ ⟨#[c]⟩
theorem esc_cps (c : Nat) : (esc c).cps.toList = [92, c] := by
  unfold esc
  rw [cps_append, show (Str.ofString "\\").cps.toList = [92] by decide +kernel]; rfl
theorem escs_len (y : Str) : ((y.cps.toList.map esc).map (·.length)).sum = 2 * y.cps.size := by
  rw [← Array.length_toList]
  induction y.cps.toList with
  | nil => rfl
  | cons a r ih =>
    rw [List.map_cons, List.map_cons, List.sum_cons, ih]
    have : (esc a).length = 2 := by
      have := congrArg List.length (esc_cps a)
      simpa [Str.length] using this
    rw [this, List.length_cons]; omega
theorem join_mine {D : Addr} {ys : List Value} {y : Str} {t : Tok} (N : News h₀ L s.heap news) (hm : (D, LCg.lst ys) ∈ news) (hi : StrsAre ys (y.cps.toList.map esc)) (hy : y.cps.size ≤ 100) (h : ∀ (z : Str) t' tk, z.cps.toList = y.cps.toList.flatMap (fun c => [92, c]) → z.length ≤ 200 → Q (.str z t') { s with toks := tk }) :
    wpAny (MM w) A (call (.builtin "str.join") [.str (Str.ofString "") t, .ref D]) Q E s := by
  have hcp : (Txt.join (Str.ofString "") (y.cps.toList.map esc)).cps.toList = y.cps.toList.flatMap (fun c => [92, c]) := by
    rw [join_cps, List.flatMap_map]
    have : (fun c => (esc c).cps.toList) = fun c => [92, c] := funext esc_cps
    rw [this]
  have hl : (y.cps.toList.map esc).length = y.cps.size := by rw [List.length_map, Array.length_toList]
  refine join_listW (isl N hm rfl ⟨_, rfl⟩) (by rw [List.toList_toArray]; exact hi) (by decide) (by rw [escs_len, hl]; omega) fun t' k => h _ t' k hcp ?_
  have e := congrArg List.length hcp
  have e2 : (y.cps.toList.flatMap fun c => [92, c]).length = 2 * y.cps.size := by
    rw [← Array.length_toList]
    induction y.cps.toList with
    | nil => rfl
    | cons a r ih => rw [List.flatMap_cons, List.length_append, ih, List.length_cons]; simp; omega
  rw [e2, Array.length_toList] at e
  show (Txt.join (Str.ofString "") (y.cps.toList.map esc)).cps.size ≤ 200
  omega
local macro_rules | `(tactic| walk_at "call builtin:str.join") => `(tactic| (k_extra "my z85"; intro z' t' tk' hz' hzl'; (try dsimp only)))
local macro_rules | `(tactic| walk_at "binaryOp Add str str") => `(tactic| (k_extra "my z86"; intro t' tk'; (try dsimp only)))
local macro_rules | `(tactic| walk_at "inplaceOp Add str str") => `(tactic| (k_extra "my z87"; intro t' tk'; (try dsimp only)))
theorem strs_append : ∀ {vs us : List Value} {xs ys : List Str}, StrsAre vs xs → StrsAre us ys → StrsAre (vs ++ us) (xs ++ ys)
  | _, _, _, _, .nil, h => h
  | _, _, _, _, .cons x t r, h => .cons x t (strs_append r h)
theorem flat_bound {α : Type} {f : α → List Nat} {N : Nat} : ∀ {l : List α}, (∀ p ∈ l, (f p).length ≤ N) → (l.flatMap f).length ≤ l.length * N
  | [], _ => by simp
  | a :: r, h => by
    have := flat_bound (l := r) fun p hp => h p (.tail _ hp)
    have := h a (.head _)
    rw [List.flatMap_cons, List.length_append, List.length_cons, Nat.succ_mul]; omega
theorem written_spec {l l2 : Addr} {vs us : List Value} {ws : List Str} {ds : List Int} {n n2 : Nat} (hl : (l, ({ cls := .type "list", data := .seq vs.toArray n } : Obj)) ∈ news) (hs : StrsAre vs ws) (hw : ∀ x ∈ ws, x ∈ ops) (h8 : ws.length = 8)
    (hl2 : (l2, ({ cls := .type "list", data := .seq us.toArray n2 } : Obj)) ∈ news) (hi : IntsAre us ds) (h82 : ds.length = 8) (hd : ∀ d ∈ ds, 0 ≤ d ∧ d < 10 ^ 8)
    (S : Sit w A env L h₀ s.heap m news (k + 2))
    (hret : ∀ x : Str, x.cps.toList = wcps ws ds → Ret h₀ L m news s Q (.str x)) :
    wpAny (model PySem.Challenge.pw_tp0016_01 w) A (call (.ref 120) [.ref l, .ref l2]) Q E s := by
  walk_at "my open"
  walk_at "my enter"
  k_steps
  rename_i e₁ s₁ H
  have hv8 : vs.length = 8 := hs.len_eq.trans h8
  have hu8 : us.length = 8 := hi.length.trans h82
  refine wpAny_mono (Src2.iter H) (fun it s₂ H2 => ?_) fun _ _ e => e
  refine' for_two H2 rfl rfl rfl rfl (fun i m' nw => nw = news ∧ ∃ x t, m' "text" = some (.str x t) ∧ x.cps.toList = ((ws.zip ds).take i).flatMap (fun p => pieceC p.1.cps.toList p.2)) ⟨rfl, _, _, rfl, (by rw [List.take_zero]; exact (by decide +kernel : (Str.ofString "").cps.toList = []))⟩ ?hsrc ?turn ?done (fun _ _ h => h)
  case hsrc =>
    intro p hp
    simp only [List.mem_cons, List.not_mem_nil, or_false] at hp
    rcases hp with rfl | rfl
    · exact .inr fun i m' nw h => by rw [h.1]; exact hl
    · exact .inr fun i m' nw h => by rw [h.1]; exact hl2
  case turn =>
    rintro i a b m₁ nw wr its h tk E' hi' ⟨ha, hb⟩ ⟨rfl, x, t, hmt, hx⟩ he hlt off F N
    rw [List.size_toArray, List.size_toArray, hv8, hu8] at hi'
    obtain ⟨ta, ha2⟩ := hs.get i _ (List.getElem?_eq_getElem (show i < ws.length by omega))
    obtain ⟨tb, hb2⟩ := ints_at hi i (by omega)
    have ha3 : vs[i]? = some a := by simpa using ha
    have hb3 : us[i]? = some b := by simpa using hb
    rw [ha2] at ha3; rw [hb2] at hb3
    obtain rfl := Option.some.inj ha3
    obtain rfl := Option.some.inj hb3
    have hyo := hw _ (List.getElem_mem (l := ws) (n := i) (by omega))
    obtain ⟨hya, hyl⟩ := ops_plain _ hyo
    have hdb := hd _ (List.getElem_mem (l := ds) (n := i) (by omega))
    have hnext : ((ws.zip ds).take (i + 1)).flatMap (fun p => pieceC p.1.cps.toList p.2) = ((ws.zip ds).take i).flatMap (fun p => pieceC p.1.cps.toList p.2) ++ pieceC ws[i].cps.toList ds[i] := by
      have hz : i < (ws.zip ds).length := by rw [List.length_zip]; omega
      rw [List.take_add_one, List.getElem?_eq_getElem hz, List.flatMap_append]
      simp
    have hxl : x.length ≤ 2000 := by
      have e := congrArg List.length hx
      have h0 : ∀ p ∈ (ws.zip ds).take i, ((fun p : Str × Int => pieceC p.1.cps.toList p.2) p).length ≤ 202 := by
        rintro ⟨a, b⟩ hp
        have hp := List.mem_of_mem_take hp
        have h2 : a.cps.size ≤ 100 := (ops_plain a (hw a (List.of_mem_zip hp).1)).2
        have h3 := piece_len a.cps.toList b
        rw [Array.length_toList (xs := a.cps)] at h3
        show (pieceC a.cps.toList b).length ≤ 202
        omega
      have h1 := flat_bound h0
      rw [← e, Array.length_toList (xs := x.cps), List.length_take] at h1
      show x.cps.size ≤ 2000
      have : min i (ws.zip ds).length ≤ 8 := by omega
      have := Nat.mul_le_mul_right 202 this
      omega
    generalize ws[i] = y at *
    generalize ds[i] = d at *
    have hyl' : y.length ≤ 100 := hyl
    have e1 : (Str.ofString " ").length = 1 := by decide +kernel
    have e2 : (Str.ofString "\"").length = 1 := by decide +kernel
    have e3 : (Str.ofString "\n").length = 1 := by decide +kernel
    have hsz : (3000 : Nat) ≤ sizeLine := by decide
    k_steps
    next hk =>
      refine' LoopEnd.next ?F7 ?N7 nw ?s7 off ⟨rfl, _, _, ?m7, ?c7⟩
      case F7 => k_asm
      case N7 => k_asm
      case s7 => walk_at "my sub"
      case m7 => walk_at "my look"
      case c7 => rw [hnext, cps_append, hx, piece0 (by assumption)]
    next hk1 hk2 =>
      refine' LoopEnd.next ?F7 ?N7 nw ?s7 off ⟨rfl, _, _, ?m7, ?c7⟩
      case F7 => k_asm
      case N7 => k_asm
      case s7 => walk_at "my sub"
      case m7 => walk_at "my look"
      case c7 => rw [hnext, cps_append, hx, piece1 (by assumption) (by assumption)]
    next hk1 hk2 =>
      refine' comp_str ?F6 ?N6 rfl hya rfl rfl (by omega) (fun i ys nw' => nw' = its ++ nw ∧ StrsAre ys ((y.cps.toList.map esc).take i) ∧ ys.length ≤ i) ⟨rfl, .nil, Nat.le_refl _⟩ (fun i ys nw h => h.2.2) ?turn6 ?fin6
      case F6 => k_asm
      case N6 => k_asm
      case turn6 =>
        rintro j v I oI C oC D mC ys nw₁ h₂ tk₂ E₂ hj ⟨c, u, hc, rfl⟩ ⟨rfl, hI, hl₁⟩ hoC hv hne hlt₁ hoff F₂ N₂
        have hoff := off_one hoff
        have hc1 : (⟨#[c]⟩ : Str).length = 1 := rfl
        have e4 : (Str.ofString "\\").length = 1 := by decide +kernel
        k_steps
        walk_at "my elt"
        refine ⟨rfl, ?_, by rw [List.length_append]; exact Nat.succ_le_succ hl₁⟩
        rw [List.take_add_one, List.getElem?_map, Array.getElem?_toList, hc]
        exact strs_append hI (.cons _ _ .nil)
      case fin6 =>
        rintro D ys nw₁ h₂ tk₂ ⟨rfl, hI, hl₁⟩ hoff hlt₁ h₃ tk₃ F₃ N₃
        dsimp only
        rw [List.take_of_length_le (by rw [List.length_map, Array.length_toList]; exact Nat.le_refl _)] at hI
        k_steps
        refine' LoopEnd.next ?F7 ?N7 nw ?s7 off ⟨rfl, _, _, ?m7, ?c7⟩
        case F7 => k_asm
        case N7 => k_asm
        case s7 => walk_at "my sub"
        case m7 => walk_at "my look"
        case c7 => rw [hnext, cps_append, hx, piece2 (by assumption) (by assumption) (by assumption)]
  case done =>
    rintro m₁ nw h tk ⟨rfl, x, t, hmt, hx⟩ F N
    dsimp only
    k_steps
    rw [List.take_of_length_le (by rw [List.length_zip, List.size_toArray, List.size_toArray]; omega)] at hx
    exact hret x hx _ _ _ (by assumption) (by assumption)
end written

end SP28
theorem rstP29 : True ∧ True := by
  w_top off
  first
    | (walk1; done)
    | exact ⟨trivial, trivial⟩
section SP29
section lawtools
variable {w : World} {A : Around} {env : Env} {L : Addr} {h₀ : Heap} {m : Str → Option Value} {news : List (Addr × Obj)} {s : Shared}
/-- a comprehension over a list that leaves the ledger as it is -/
theorem comp_list_fix {x : Str} {px : Pos} {l : Addr} {lo : Obj} {vs : List Value} {elt : PySem.Expr} {cl : List (Str × Addr)} {scope : Scope} {Fin : Addr → List (Addr × Obj) → Shared → Prop} {E : Value → Shared → Prop}
    (F : Fr h₀ L s.heap m) (N : News h₀ L s.heap news) (hh : A.handled = none) (hl : (l, lo) ∈ news) (hc : lo.cls = .type "list") (hd : ∃ k, lo.data = .seq vs.toArray k) (hx : scope.names.lookup x = some .local) (hkind : scope.kind = .function) (hn : vs.length ≤ sizeLine)
    (K : Nat → List Value → Prop) (hK : K 0 []) (hKl : ∀ i ys, K i ys → ys.length ≤ i)
    (turn : ∀ i v I oI C oC D mC ys h tk E', i < vs.length → vs[i]? = some v → K i ys → LCg.NsObj oC mC → mC x = some v → (@Ne Nat I C ∧ @Ne Nat I D ∧ @Ne Nat C D) → (∀ p ∈ news, p.1 < D ∧ p.1 < C ∧ p.1 < I) →
      (∀ p ∈ news, p.1 ≠ C ∧ p.1 ≠ D ∧ ∀ b ∈ [I], p.1 ≠ b) → Fr h₀ L h m → News h₀ L h ((I, oI) :: (C, oC) :: (D, LCg.lst ys) :: news) →
      wpAny (MM w) A (eval elt (compEnvC scope cl C env)) (EltEnd h₀ L m [(I, oI)] [I] C D oC ys (fun ys nw => nw = news ∧ K (i + 1) ys) { s with heap := h, toks := tk }) E' { s with heap := h, toks := tk })
    (fin : ∀ D ys h₂ tk₂, K vs.length ys → (∀ p ∈ news, p.1 < D) → Fin D ((D, LCg.lst ys) :: news) { s with heap := h₂, toks := tk₂ }) :
    wpAny (MM w) A (pyIter (.ref l)) (fun it s₂ => CompAt w A h₀ L m env cl scope (.Name x px) (B1 w A [] elt cl scope env) Fin it s₂) E s := by
  refine comp_list F N hh (.inl hl) hc hd hx hkind (by rw [List.size_toArray]; exact hn) (fun i ys nw => nw = news ∧ K i ys) ⟨rfl, hK⟩ (fun i ys nw h => hKl i ys h.2) (.inr fun i ys nw h => by rw [h.1]; exact hl) ?_ ?_
  · rintro i v I oI C oC D mC ys nw h tk E' hi hv ⟨rfl, hk⟩ hoC hmx hne hlt off F N
    exact turn i v I oI C oC D mC ys h tk E' (by simpa using hi) (by simpa using hv) hk hoC hmx hne hlt (off_one off) F N
  · rintro D ys nw h₂ tk₂ ⟨rfl, hk⟩ off hlt
    rw [List.size_toArray] at hk
    exact fin D ys h₂ tk₂ hk hlt
/-- a comprehension over pairs that leaves the ledger as it is -/
theorem comp_two_fix {x y : Str} {px py : Pos} {k : Nat} {pos : Pos} {n : Nat} {P : Nat → Value → Value → Prop} {src : List (Addr × Obj)} {it : Value} {s₂ : Shared} {elt : PySem.Expr} {cl : List (Str × Addr)} {scope : Scope} {Fin : Addr → List (Addr × Obj) → Shared → Prop}
    (H : Src2 w A h₀ L m news n P src s it s₂) (hx : scope.names.lookup x = some .local) (hy : scope.names.lookup y = some .local) (hxy : x ≠ y) (hkind : scope.kind = .function) (hn : n ≤ sizeLine) (hsrc : ∀ p ∈ src, p ∈ news) (K : Nat → List Value → Prop) (hK : K 0 []) (hKl : ∀ i ys, K i ys → ys.length ≤ i)
    (turn : ∀ i a b wr its C oC D mC ys h tk E', i < n → P i a b → K i ys → LCg.NsObj oC mC → mC x = some a → mC y = some b → its.map (·.1) = wr → (C ≠ D ∧ ∀ b ∈ wr, b ≠ C ∧ b ≠ D) → (∀ p ∈ news, p.1 < D ∧ p.1 < C ∧ ∀ b ∈ wr, p.1 < b) →
      (∀ p ∈ news, p.1 ≠ C ∧ p.1 ≠ D ∧ ∀ b ∈ wr, p.1 ≠ b) → Fr h₀ L h m → News h₀ L h (its ++ (C, oC) :: (D, LCg.lst ys) :: news) →
      wpAny (MM w) A (eval elt (compEnvC scope cl C env)) (EltEnd h₀ L m its wr C D oC ys (fun ys nw => nw = news ∧ K (i + 1) ys) { s with heap := h, toks := tk }) E' { s with heap := h, toks := tk })
    (fin : ∀ D ys h₂ tk₂, K n ys → (∀ p ∈ news, p.1 < D) → Fin D ((D, LCg.lst ys) :: news) { s with heap := h₂, toks := tk₂ }) :
    CompAt w A h₀ L m env cl scope (.Tuple [.Name x px, .Name y py] k pos) (B1 w A [] elt cl scope env) Fin it s₂ := by
  refine comp_two H hx hy hxy hkind hn (fun i ys nw => nw = news ∧ K i ys) ⟨rfl, hK⟩ (fun i ys nw h => hKl i ys h.2) (fun p hp => .inr fun i ys nw h => by rw [h.1]; exact hsrc p hp) ?_ ?_
  · rintro i a b wr its C oC D mC ys nw h tk E' hi hP ⟨rfl, hk⟩ hoC hmx hmy he hCD hlt off F N
    exact turn i a b wr its C oC D mC ys h tk E' hi hP hk hoC hmx hmy he hCD hlt off F N
  · rintro D ys nw h₂ tk₂ ⟨rfl, hk⟩ off hlt
    exact fin D ys h₂ tk₂ hk hlt
theorem pick_mem {ns : List Int} {lo hi st : Option Int} {x : Int} (h : x ∈ pickNums ns lo hi st) : x ∈ ns := by
  unfold pickNums at h
  obtain ⟨j, _, e⟩ := List.mem_filterMap.mp h
  exact List.mem_of_getElem? e
theorem sum_bound {B : Int} : ∀ {l : List Int}, (∀ x ∈ l, 0 ≤ x ∧ x < B) → 0 ≤ l.sum ∧ l.sum ≤ l.length * B
  | [], _ => by simp
  | a :: r, h => by
    have h1 := sum_bound (l := r) fun x hx => h x (.tail _ hx)
    have h2 := h a (.head _)
    have h3 : ((r.length + 1 : Nat) : Int) * B = r.length * B + B := by rw [Int.natCast_add, Int.add_mul]; simp
    rw [List.sum_cons, List.length_cons, h3]; omega
theorem sum_slice {D : Addr} {vs : List Value} {ns : List Int} {lo hi st : Option Int} {n : Nat} {Q E : Value → Shared → Prop} (F : Fr h₀ L s.heap m) (N : News h₀ L s.heap news) (hh : A.handled = none) (hm : (D, W.listOf (slicePick vs.toArray lo hi st) n) ∈ news) (hi' : IntsAre vs ns)
    (h : ∀ h' tk t', Fr h₀ L h' m → News h₀ L h' news → Q (.int (pickNums ns lo hi st).sum t') { s with heap := h', toks := tk }) : wpAny (MM w) A (call (.builtin "sum") [.ref D]) Q E s := by
  refine LSm.sum_ints F N hh (vs := (slicePick vs.toArray lo hi st).toList) ?_ (hi'.pick lo hi st) h
  rw [Array.toArray_toList]
  exact isl N hm rfl ⟨_, rfl⟩
theorem map_take_succ {α β : Type} (f : α → β) {l : List α} {i : Nat} (h : i < l.length) : (l.map f).take (i + 1) = (l.map f).take i ++ [f l[i]] := by
  rw [List.take_add_one, List.getElem?_map, List.getElem?_eq_getElem h]; rfl
theorem kl_cut_at (p : List Value) (y : Value) (q : List Value) : kl_cut (p ++ y :: q) p.length = some (p, y, q) := by
  induction p with
  | nil => rfl
  | cons a r ih => simp only [List.cons_append, List.length_cons, kl_cut, ih]
theorem pop_at {D : Addr} {p q : List Value} {y : Value} {n : Nat} {i : Int} {u : Tok} {news' : List (Addr × Obj)} {Q E : Value → Shared → Prop} (F : Fr h₀ L s.heap m) (N : News h₀ L s.heap news) (hi : i = (p.length : Nat)) (U : Upd D (W.listOf (p ++ y :: q).toArray n) (W.listOf (p ++ q).toArray (n + 1)) news news')
    (hz : (p ++ y :: q).length ≤ 1000) (h : ∀ h', Fr h₀ L h' m → News h₀ L h' news' → Q y { s with heap := h' }) : wpAny (MM w) A (call (.builtin "list.pop") [.ref D, .int i u]) Q E s := by
  subst hi
  have hs : (1000 : Nat) ≤ sizeLine := by decide
  have hp : p.length < (p ++ y :: q).length := by rw [List.length_append, List.length_cons]; omega
  refine kl_popAt (k := p.length) (p := p) (q := q) (y := y) F N (fitsIndex_of (by omega) (by omega)) ?_ ?_ U (by rw [List.toList_toArray]; omega) h
  · rw [List.size_toArray]; exact seqIndex_of (by omega) (by omega)
  · rw [List.toList_toArray]; exact kl_cut_at p y q
theorem split_at : ∀ {rv : List Value} {rs : List Str}, StrsAre rv rs → ∀ {k : Nat}, k < rs.length → ∃ p y t q pr qr, rv = p ++ Value.str y t :: q ∧ rs = pr ++ y :: qr ∧ p.length = k ∧ StrsAre p pr ∧ StrsAre q qr
  | _, _, .nil, _, h => absurd h (by simp)
  | _, _, .cons x t r, 0, _ => ⟨[], x, t, _, [], _, rfl, rfl, rfl, .nil, r⟩
  | _, _, .cons x t r, k + 1, h => by
    obtain ⟨p, y, t', q, pr, qr, e1, e2, e3, e4, e5⟩ := split_at r (k := k) (by simpa using h)
    exact ⟨_ :: p, y, t', q, x :: pr, qr, by rw [e1]; rfl, by rw [e2]; rfl, by rw [List.length_cons, e3], .cons x t e4, e5⟩
theorem len_any {l : Addr} {vs : List Value} {n : Nat} {Q E : Value → Shared → Prop} (N : News h₀ L s.heap news) (hm : (l, W.listOf vs.toArray n) ∈ news) (hz : vs.length ≤ 1000) (h : ∀ t tk, Q (.int (vs.length : Nat) t) { s with toks := tk }) : wpAny (MM w) A (call (.builtin "len") [.ref l]) Q E s := by
  have e : vs.toArray.size = vs.length := List.size_toArray
  refine Calls.call_len_list (isl N hm rfl ⟨_, rfl⟩) (by rw [e]; omega) ?_
  rw [e]
  exact h _ _
theorem news_43 {h : Heap} {a b c d : Addr × Obj} {r : List (Addr × Obj)} (N : News h₀ L h (a :: b :: c :: d :: r)) : News h₀ L h (c :: d :: a :: b :: r) := fun p hp => by
  simp only [List.mem_cons] at hp
  rcases hp with rfl | rfl | rfl | rfl | hp
  · exact N _ (.tail _ (.tail _ (.head _)))
  · exact N _ (.tail _ (.tail _ (.tail _ (.head _))))
  · exact N _ (.head _)
  · exact N _ (.tail _ (.head _))
  · exact N _ (.tail _ (.tail _ (.tail _ (.tail _ hp))))
abbrev StockJ (T R Dd : Addr) (rest0 : List (Addr × Obj)) (i : Nat) (m' : Str → Option Value) (nw : List (Addr × Obj)) : Prop :=
  ∃ sv rv ss rs nt nr, nw = (T, W.listOf (List.toArray sv) nt) :: (R, W.listOf (List.toArray rv) nr) :: rest0 ∧ StrsAre sv ss ∧ StrsAre rv rs ∧ ss.length = i ∧ List.Perm (ss ++ rs) ops ∧ m' "row" = some (.ref R) ∧ m' "draws" = some (.ref Dd)
theorem stock_src {T R Dd : Addr} {p : Addr × Obj} {r : List (Addr × Obj)} {i : Nat} {m' : Str → Option Value} {nw : List (Addr × Obj)} (h : StockJ T R Dd (p :: r) i m' nw) : p ∈ nw := by
  obtain ⟨_, _, _, _, _, _, e, _⟩ := h
  rw [e]; exact .tail _ (.tail _ (.head _))
theorem item_op {value slice : PySem.Expr} {l : Addr} {vs : List Value} {n : Nat} {d : Int} {u : Tok} {Q E : Value → Shared → Prop} (N : News h₀ L s.heap news) (hm : (l, W.listOf vs.toArray n) ∈ news) (hs : StrsAre vs ops) (h : ∀ y t, y ∈ ops → Q (.str y t) s)
    (hsub : subscripted slice false (.ref l) (.int (Int.fmod d 48) u) = operate [.ref l, .int (Int.fmod d 48) u] (getItem (.ref l) (.int (Int.fmod d 48) u))) :
    wpAny (MM w) A (subscriptTail value slice (.ref l) (.int (Int.fmod d 48) u)) Q E s := by
  have h0 := Int.fmod_nonneg_of_pos d (show (0 : Int) < 48 by decide)
  have h1 := Int.fmod_lt_of_pos d (show (0 : Int) < 48 by decide)
  have hl : (Int.fmod d 48).toNat < ops.length := by rw [show ops.length = 48 by decide]; omega
  obtain ⟨t, e⟩ := hs.get _ _ (List.getElem?_eq_getElem hl)
  exact tail_any (isl N hm rfl ⟨_, rfl⟩).typeIs slot_list_getitem.lookup (wpAny_getItem_list (isl N hm rfl ⟨_, rfl⟩) h0 (by omega) (by simpa using e) (h _ t (List.getElem_mem hl))) hsub
theorem add_strs {a b : Addr} {vs us : List Value} {xs ys : List Str} {n k : Nat} {Q E : Value → Shared → Prop} (F : Fr h₀ L s.heap m) (N : News h₀ L s.heap news) (ha : (a, W.listOf vs.toArray n) ∈ news) (hb : (b, W.listOf us.toArray k) ∈ news) (hi : StrsAre vs xs) (hj : StrsAre us ys) (hz : xs.length + ys.length ≤ 100)
    (h : ∀ D zs h', Fr h₀ L h' m → News h₀ L h' ((D, W.listOf (List.toArray zs) 0) :: news) → (∀ p ∈ news, p.1 < D) → StrsAre zs (xs ++ ys) → Q (.ref D) { s with heap := h' }) : wpAny (MM w) A (binaryOp .Add (.ref a) (.ref b)) Q E s := by
  have hs : (100 : Nat) ≤ sizeLine := by decide
  refine add_lists F N (isl N ha rfl ⟨_, rfl⟩) (isl N hb rfl ⟨_, rfl⟩) (fun h' F' N' => ?_) (by rw [hi.len_eq, hj.len_eq]; omega)
  exact h _ _ h' F' N' (fun p hp => Heap.lt_size (N p hp).1) (strs_append hi hj)
theorem operators_spec2 {Q E : Value → Shared → Prop} {k : Nat} (S : Sit w A env L h₀ s.heap m news (k + 1)) (h : ∀ vs : List Value, StrsAre vs ops → RetNew h₀ L m news s Q (W.listOf vs.toArray 0)) : wpAny (MM w) A (call (.ref 115) []) Q E s :=
  operators_spec S fun l hl => h _ (hl ▸ strsAre_values l)
theorem ops_len : ops.length = 48 := by decide
end lawtools

end SP29
section SP30
section plain
/-! what a written word reads back as -/
theorem read_bare (r : List Nat) : ∀ (y : List Nat) (acc : Str), (∀ c ∈ y, inWs c = false ∧ c ≠ 92) → ∃ tok, ReadR inWs acc (y ++ 32 :: r) tok r ∧ tok.cps.toList = acc.cps.toList ++ y
  | [], acc, _ => ⟨acc, .stop (by decide +kernel), by simp⟩
  | c :: y, acc, h => by
    obtain ⟨tok, h1, h2⟩ := read_bare r y (acc ++ (⟨#[c]⟩ : Str)) fun d hd => h d (.tail _ hd)
    refine ⟨tok, .plain (h c (.head _)).1 (h c (.head _)).2 h1, ?_⟩
    rw [h2, cps_append]; simp
theorem read_quot (r : List Nat) : ∀ (y : List Nat) (acc : Str), (∀ c ∈ y, c ≠ 34 ∧ c ≠ 92) → ∃ tok, ReadR (fun c => c == 34) acc (y ++ 34 :: r) tok r ∧ tok.cps.toList = acc.cps.toList ++ y
  | [], acc, _ => ⟨acc, .stop (by decide), by simp⟩
  | c :: y, acc, h => by
    obtain ⟨tok, h1, h2⟩ := read_quot r y (acc ++ (⟨#[c]⟩ : Str)) fun d hd => h d (.tail _ hd)
    refine ⟨tok, .plain (beq_eq_false_iff_ne.mpr (h c (.head _)).1) (h c (.head _)).2 h1, ?_⟩
    rw [h2, cps_append]; simp
theorem read_escs (r : List Nat) : ∀ (y : List Nat) (acc : Str), ∃ tok, ReadR inWs acc (y.flatMap (fun c => [92, c]) ++ 10 :: r) tok r ∧ tok.cps.toList = acc.cps.toList ++ y
  | [], acc => ⟨acc, .stop (by decide +kernel), by simp⟩
  | c :: y, acc => by
    obtain ⟨tok, h1, h2⟩ := read_escs r y (acc ++ (⟨#[c]⟩ : Str))
    refine ⟨tok, .esc (by decide +kernel) h1, ?_⟩
    rw [h2, cps_append]; simp
theorem str_ext {x y : Str} (h : x.cps.toList = y.cps.toList) : x = y := by
  cases x; cases y
  exact congrArg Str.mk (Array.toList_inj.mp h)
theorem ops_signs : ∀ x ∈ ops, x.cps.toList ≠ [] ∧ ∀ c ∈ x.cps.toList, inWs c = false ∧ c ≠ 92 ∧ c ≠ 34 ∧ c ≠ 10 := by
  have : (ops.all fun x => !x.cps.toList.isEmpty && x.cps.toList.all fun c => !inWs c && c != 92 && c != 34 && c != 10) = true := by decide +kernel
  intro x hx
  have := List.all_eq_true.mp this x hx
  simp only [Bool.and_eq_true, Bool.not_eq_true', List.all_eq_true, bne_iff_ne, ne_eq] at this
  refine ⟨fun e => by rw [e] at this; simp at this, fun c hc => ?_⟩
  have := this.2 c hc
  exact ⟨this.1.1.1, this.1.1.2, this.1.2, this.2⟩
theorem tok_piece {y : Str} (hy : y ∈ ops) (d : Int) (r : List Nat) : TokR (pieceC y.cps.toList d ++ r) y r := by
  obtain ⟨hne, hc⟩ := ops_signs y hy
  have e0 : (Str.ofString "").cps.toList = [] := by decide +kernel
  unfold pieceC
  split
  · cases hq : y.cps.toList with
    | nil => exact absurd hq hne
    | cons c q =>
      rw [hq] at hc
      obtain ⟨tok, h1, h2⟩ := read_bare r q (Str.ofString "" ++ chr c) fun d hd => ⟨(hc d (.tail _ hd)).1, (hc d (.tail _ hd)).2.1⟩
      have : tok = y := str_ext (by rw [h2, cps_append, e0, hq]; rfl)
      subst this
      have h := hc c (.head _)
      refine TokR.plain h.2.2.1 h.2.1 h.1 ?_
      rw [show (q.append [32]).append r = q ++ 32 :: r from List.append_assoc q [32] r]
      exact h1
  · split
    · obtain ⟨tok, h1, h2⟩ := read_quot r y.cps.toList (Str.ofString "") fun c hd => ⟨(hc c hd).2.2.1, (hc c hd).2.1⟩
      have : tok = y := str_ext (by rw [h2, e0]; rfl)
      subst this
      refine TokR.quot ?_
      rw [show (tok.cps.toList.append [34]).append r = tok.cps.toList ++ 34 :: r from List.append_assoc _ [34] r]
      exact h1
    · cases hq : y.cps.toList with
      | nil => exact absurd hq hne
      | cons c q =>
        obtain ⟨tok, h1, h2⟩ := read_escs r q (Str.ofString "" ++ chr c)
        have : tok = y := str_ext (by rw [h2, cps_append, e0, hq]; rfl)
        subst this
        rw [List.flatMap_cons, List.append_assoc, List.append_assoc]
        exact TokR.esc h1
theorem wcps_drop {ws : List Str} {ds : List Int} {i : Nat} (h1 : i < ws.length) (h2 : i < ds.length) : wcps (ws.drop i) (ds.drop i) = pieceC ws[i].cps.toList ds[i] ++ wcps (ws.drop (i + 1)) (ds.drop (i + 1)) := by
  rw [List.drop_eq_getElem_cons h1, List.drop_eq_getElem_cons h2]
  rfl
end plain

end SP30
section SP31
section countnl
open PySem.StrLaws Builtin.Str
theorem occ_loop (x : Str) (c : Nat) : ∀ (k lo : Nat) (st : Array Nat × Nat), st.2 ≤ lo → st.1.size ≤ lo → lo + k = x.length + 1 →
    (forIn (List.range' lo k) st (occBody x ⟨#[c]⟩ x.length (x.length + 1))).run.fst.size = st.1.size + (x.cps.toList.drop lo).count c
  | 0, lo, st, _, _, h3 => by
    have : x.cps.toList.drop lo = [] := List.drop_eq_nil_of_le (by simp [Str.length] at h3 ⊢; omega)
    rw [this]; simp
  | k + 1, lo, st, h1, h2, h3 => by
    rw [List.range'_succ, List.forIn_cons]
    unfold occBody
    by_cases hc : x.cps.toList[lo]? = some c
    · have hs := (subAt_one x c lo).mpr hc
      rw [if_pos ⟨⟨⟨by omega, h1⟩, hs.1⟩, hs.2⟩]
      have ih := occ_loop x c k (lo + 1) (st.1.push lo, lo + (⟨#[c]⟩ : Str).length) (Nat.le_refl _) (by simp; omega) (by omega)
      obtain ⟨h4, h5⟩ := List.getElem?_eq_some_iff.mp hc
      rw [List.drop_eq_getElem_cons h4, h5, List.count_cons_self]
      refine Eq.trans ih ?_
      simp; omega
    · have hn : ¬ (((st.fst.size < x.length + 1 ∧ st.snd ≤ lo) ∧ lo + (⟨#[c]⟩ : Str).length ≤ x.length) ∧ subAt x ⟨#[c]⟩ lo = true) := fun h => hc ((subAt_one x c lo).mp ⟨h.1.2, h.2⟩)
      rw [if_neg hn]
      have ih := occ_loop x c k (lo + 1) st (by omega) (by omega) (by omega)
      refine Eq.trans ih ?_
      congr 1
      by_cases hl : lo < x.cps.toList.length
      · rw [List.drop_eq_getElem_cons hl, List.count_cons_of_ne]
        intro e
        exact hc (by rw [List.getElem?_eq_getElem hl, e])
      · rw [List.drop_eq_nil_of_le (by omega), List.drop_eq_nil_of_le (by omega)]
theorem count_one (x : Str) (c : Nat) : Txt.count x ⟨#[c]⟩ = ((x.cps.toList.count c : Nat) : Int) := by
  unfold Txt.count
  rw [occ_eq, Array.length_toList]
  have := occ_loop x c (x.length + 1 - 0) 0 (#[], 0) (Nat.le_refl _) (Nat.le_refl _) (by omega)
  rw [this]; simp
theorem count_nl (x : Str) : Txt.count x (Str.ofString "\n") = nl x.cps.toList := by
  have : Str.ofString "\n" = ⟨#[10]⟩ := by decide +kernel
  rw [this, count_one]; rfl
end countnl

end SP31
section SP32
section eqstrs
open PySem.Spec PySem.SeqAt PyProof.V
variable {w : World} {A : Around} {env : Env} {L : Addr} {h₀ : Heap} {m : Str → Option Value} {news : List (Addr × Obj)} {s : Shared}
theorem reads_str_all {h : Heap} {vs : List Value} {xs : List Str} (hs : StrsAre vs xs) : ReadsAll h vs (xs.map PyData.str) [] := by
  induction hs with
  | nil => exact .nil
  | cons x t _ ih => simpa using ReadsAll.cons (Reads.str (h := h) x t) ih
theorem ops_ok : ∀ x ∈ ops, PyData.strOk x = true := by
  have : (ops.all PyData.strOk) = true := by decide +kernel
  exact fun x hx => List.all_eq_true.mp this x hx
theorem lay_str_all (xs : List Str) (h : ∀ x ∈ xs, x ∈ ops) : PyData.canLayAll0 (xs.map PyData.str) = true := by
  induction xs with
  | nil => simp [PyData.canLayAll0]
  | cons x r ih => simp [PyData.canLayAll0, PyData.canLay0, ih fun y hy => h y (.tail _ hy), ops_ok x (h x (.head _))]
theorem deep_str_all (xs : List Str) : PyData.depthAll (xs.map PyData.str) ≤ 1 := by
  induction xs with
  | nil => simp [PyData.depthAll]
  | cons x r ih => simp only [List.map_cons, PyData.depthAll, PyData.depth]; omega
theorem mix_str_all (xs : List Str) : noMixAll (xs.map PyData.str) (xs.map PyData.str) = true := by
  induction xs with
  | nil => simp [noMixAll]
  | cons x r ih => simp [noMixAll, noMix, ih]
theorem same_str_all (xs : List Str) : PySem.Spec.sameAll (xs.map PyData.str) (xs.map PyData.str) = true := by
  induction xs with
  | nil => simp [PySem.Spec.sameAll]
  | cons x r ih => simp [PySem.Spec.sameAll, PySem.Spec.same, ih]
theorem ne_strs_same {a b : Addr} {oa ob : Obj} {vs us : List Value} {xs : List Str} {Q E : Value → Shared → Prop} (N : News h₀ L s.heap news) (ha : (a, oa) ∈ news) (hb : (b, ob) ∈ news) (hca : oa.cls = .type "list") (hda : ∃ k, oa.data = .seq vs.toArray k) (hcb : ob.cls = .type "list") (hdb : ∃ k, ob.data = .seq us.toArray k)
    (hi : StrsAre vs xs) (hi' : StrsAre us xs) (hx : ∀ x ∈ xs, x ∈ ops) (hu : A.units + 64 < cLine) (h : Q (.bool false) s) : wpAny (MM w) A (compareOp .NotEq (.ref a) (.ref b)) Q E s := by
  have rd : ∀ {a : Addr} {o : Obj} {vs : List Value}, (a, o) ∈ news → o.cls = .type "list" → (∃ k, o.data = .seq vs.toArray k) → StrsAre vs xs → Reads s.heap (.ref a) (.list (xs.map PyData.str)) [a] := fun hm hc ⟨k, hd⟩ hs =>
    Reads.list (N _ hm).1 hc hd (by simpa using reads_str_all hs)
  have sh : shaped (.list (xs.map PyData.str)) = true := by
    have h1 := deep_str_all xs
    have h2 : PyData.depth (.list (xs.map PyData.str)) ≤ 64 := by simp only [PyData.depth]; omega
    show (PyData.canLay0 (.list (xs.map PyData.str)) && decide (PyData.depth (.list (xs.map PyData.str)) ≤ 64)) = true
    rw [Bool.and_eq_true]
    exact ⟨by simp only [PyData.canLay0]; exact lay_str_all xs hx, decide_eq_true h2⟩
  exact ne_dataH_same (rd ha hca hda hi) (rd hb hcb hdb hi') sh sh hu (by simp only [noMix]; exact mix_str_all xs) (by simp only [PySem.Spec.same]; rw [same_str_all]; exact h)
end eqstrs

end SP32
section SP33
section stage
def lawBody : List Stmt := match PySem.Challenge.pw_tp0016_01.main.body.getLast? with
  | some (.FunctionDef _ _ body _ _ _ _ _ _ _) => body
  | _ => []
def lawScope : Scope := match PySem.Challenge.pw_tp0016_01.main.body.getLast? with
  | some (.FunctionDef _ _ _ _ _ _ scope _ _ _) => scope
  | _ => { kind := .function, names := [], isGenerator := false, isCoroutine := false }
abbrev lawCells (L : Addr) (oTab oH oJ oX oW oS : Obj) : List (Addr × Obj) := [(L + 1 + 1 + 1 + 1 + 1 + 1 + 1, oTab), (L + 1 + 1 + 1 + 1 + 1 + 1, oH), (L + 1 + 1 + 1 + 1 + 1, oJ), (L + 1 + 1 + 1 + 1, oX), (L + 1 + 1 + 1, oW), (L + 1 + 1, oS)]
abbrev restB (ps : Array Value) (WA T : Addr) (zs sv : List Value) (nt : Nat) (cells : List (Addr × Obj)) : List (Addr × Obj) := (103, tabObj ps) :: (WA, W.listOf zs.toArray 0) :: (T, W.listOf sv.toArray nt) :: cells
variable {w : World} {A : Around} {L fa : Addr} {cd : Value} {h₀ : Heap} {m : Str → Option Value} {s : Shared} {Q : Flow → Shared → Prop} {E : Value → Shared → Prop} {a : LexA} {ps : Array Value} {WA T : Addr} {zs sv : List Value} {nt : Nat} {oTab oH oJ oX oW oS : Obj} {v1 v2 v3 : Option Value} {ss os : List Str} {ds : List Int} {x : Str} {tx tl : Tok} {vals : List Value}
theorem ops_small : ∀ x ∈ ops, x.cps.toList.length ≤ 3 := by
  have : (ops.all fun x => decide (x.cps.toList.length ≤ 3)) = true := by decide +kernel
  exact fun x hx => by simpa using List.all_eq_true.mp this x hx
theorem wcps_len : ∀ (ws : List Str) (ds : List Int), (∀ y ∈ ws, y ∈ ops) → (wcps ws ds).length ≤ ws.length * 8
  | [], _, _ => by simp [wcps]
  | _ :: _, [], _ => by simp [wcps]
  | y :: r, d :: q, h => by
    have h1 := wcps_len r q fun z hz => h z (.tail _ hz)
    have h2 := piece_len y.cps.toList d
    have h3 := ops_small y (h y (.head _))
    show (pieceC y.cps.toList d ++ wcps r q).length ≤ _
    rw [List.length_append, List.length_cons, Nat.succ_mul]; omega
theorem led3_in {rest : List (Addr × Obj)} {L : Addr} {vs : List Value} {n : Nat} {line : Int} {tl : Tok} {x1 x2 x3 y : Addr × Obj} {h : Heap} (N : News h₀ L h (x1 :: x2 :: x3 :: a.led vs n line tl (y :: rest))) : News h₀ L h (a.led vs n line tl (y :: x1 :: x2 :: x3 :: rest)) := by
  intro p hp
  refine N p ?_
  have hp' : p ∈ a.led vs n line tl [] ++ (y :: x1 :: x2 :: x3 :: rest) := hp
  show p ∈ x1 :: x2 :: x3 :: (a.led vs n line tl [] ++ (y :: rest))
  rcases List.mem_append.mp hp' with h | h
  · exact .tail _ (.tail _ (.tail _ (List.mem_append_left _ h)))
  · simp only [List.mem_cons, List.mem_append] at h ⊢
    rcases h with h | h | h | h | h
    · exact .inr (.inr (.inr (.inr (.inl h))))
    · exact .inl h
    · exact .inr (.inl h)
    · exact .inr (.inr (.inl h))
    · exact .inr (.inr (.inr (.inr (.inr h))))
theorem led3_out {rest : List (Addr × Obj)} {vs : List Value} {n : Nat} {line : Int} {tl : Tok} {x1 x2 x3 y p : Addr × Obj} (hp : p ∈ x1 :: x2 :: x3 :: a.led vs n line tl (y :: rest)) : p ∈ a.led vs n line tl (y :: x1 :: x2 :: x3 :: rest) := by
  have hp' : p ∈ x1 :: x2 :: x3 :: (a.led vs n line tl [] ++ (y :: rest)) := hp
  show p ∈ a.led vs n line tl [] ++ (y :: x1 :: x2 :: x3 :: rest)
  rcases List.mem_cons.mp hp' with rfl | h
  · exact List.mem_append_right _ (.tail _ (.head _))
  rcases List.mem_cons.mp h with rfl | h
  · exact List.mem_append_right _ (.tail _ (.tail _ (.head _)))
  rcases List.mem_cons.mp h with rfl | h
  · exact List.mem_append_right _ (.tail _ (.tail _ (.tail _ (.head _))))
  rcases List.mem_append.mp h with h | h
  · exact List.mem_append_left _ h
  rcases List.mem_cons.mp h with rfl | h
  · exact List.mem_append_right _ (.head _)
  · exact List.mem_append_right _ (.tail _ (.tail _ (.tail _ (.tail _ h))))
theorem led_addr {rest : List (Addr × Obj)} {vs vs' : List Value} {n n' : Nat} {line line' : Int} {tl tl' : Tok} {b : Addr} {o o' : Obj} {P : Addr → Prop} (h : ∀ p ∈ a.led vs n line tl ((b, o) :: rest), P p.1) : ∀ p ∈ a.led vs' n' line' tl' ((b, o') :: rest), P p.1 := by
  intro p hp
  have hp' : p ∈ [(a.D, W.listOf vs'.toArray n'), (a.cell, a.oc), (a.f, a.fo), (a.c', a.oc'), (a.d2, lexDict a.k1 a.k2 a.k3 a.k4 a.u1 a.u2 a.u3 a.u4 a.u5 line' tl' a.x1 a.p2)] ++ ([(a.x2, instObj 59 a.d2), (a.x1, instObj 59 a.d1), (a.d1, strDict a.g1 a.g2 a.g3 a.g4 a.g5 a.t1 a.t2 a.t3 a.t4 a.t5 a.t6 a.t7 a.p1 a.f)] ++ ((b, o') :: rest)) := hp
  simp only [List.mem_append, List.mem_cons, List.not_mem_nil, or_false] at hp'
  rcases hp' with (rfl | rfl | rfl | rfl | rfl) | (rfl | rfl | rfl) | rfl | hp'
  · exact h (a.D, W.listOf vs.toArray n) (.head _)
  · exact h (a.cell, a.oc) (.tail _ (.head _))
  · exact h (a.f, a.fo) (.tail _ (.tail _ (.head _)))
  · exact h (a.c', a.oc') (.tail _ (.tail _ (.tail _ (.head _))))
  · exact h (a.d2, lexDict a.k1 a.k2 a.k3 a.k4 a.u1 a.u2 a.u3 a.u4 a.u5 line tl a.x1 a.p2) (.tail _ (.tail _ (.tail _ (.tail _ (.head _)))))
  · exact h (a.x2, _) (.tail _ (.tail _ (.tail _ (.tail _ (.tail _ (.head _))))))
  · exact h (a.x1, _) (.tail _ (.tail _ (.tail _ (.tail _ (.tail _ (.tail _ (.head _)))))))
  · exact h (a.d1, _) (.tail _ (.tail _ (.tail _ (.tail _ (.tail _ (.tail _ (.tail _ (.head _))))))))
  · exact h (b, o) (.tail _ (.tail _ (.tail _ (.tail _ (.tail _ (.tail _ (.tail _ (.tail _ (.head _)))))))))
  · exact h p (.tail _ (.tail _ (.tail _ (.tail _ (.tail _ (.tail _ (.tail _ (.tail _ (.tail _ hp')))))))))
theorem restB_lt (lt0 : @LT.lt Nat _ 103 L ∧ @LT.lt Nat _ (L + 7) T ∧ @LT.lt Nat _ T WA ∧ @LT.lt Nat _ WA a.D ∧ @LT.lt Nat _ WA a.cell) : ∀ p ∈ restB ps WA T zs sv nt (lawCells L oTab oH oJ oX oW oS), @LT.lt Nat _ p.1 a.D ∧ @LT.lt Nat _ p.1 a.cell := by
  intro p hp
  simp only [List.mem_cons, List.not_mem_nil, or_false] at hp
  rcases hp with rfl | rfl | rfl | rfl | rfl | rfl | rfl | rfl | rfl <;> (dsimp only; omega)
theorem ranked_base {n : Nat} (h : 103 < n) : Ranked [103, n, n + 1, n + 1 + 1, n + 1 + 1 + 1, n + 1 + 1 + 1 + 1, n + 1 + 1 + 1 + 1 + 1, n + 1 + 1 + 1 + 1 + 1 + 1, n + 1 + 1 + 1 + 1 + 1 + 1 + 1] :=
  Rise.ranked (.cons h (.cons (Nat.lt_succ_self _) (.cons (Nat.lt_succ_self _) (.cons (Nat.lt_succ_self _) (.cons (Nat.lt_succ_self _) (.cons (Nat.lt_succ_self _) (.cons (Nat.lt_succ_self _) (.cons (Nat.lt_succ_self _) (.one _)))))))))
theorem LexOk.ranked1 {n : Nat} (O : LexOk w a) (h0 : 103 < n) (h : n + 7 < a.cell) :
    Ranked [103, n, n + 1, n + 1 + 1, n + 1 + 1 + 1, n + 1 + 1 + 1 + 1, n + 1 + 1 + 1 + 1 + 1, n + 1 + 1 + 1 + 1 + 1 + 1, n + 1 + 1 + 1 + 1 + 1 + 1 + 1, a.cell, a.D, a.d1, a.x1, a.c', a.f, a.d2, a.x2, a.p2] :=
  Rise.ranked (.cons h0 (.cons (Nat.lt_succ_self _) (.cons (Nat.lt_succ_self _) (.cons (Nat.lt_succ_self _) (.cons (Nat.lt_succ_self _) (.cons (Nat.lt_succ_self _) (.cons (Nat.lt_succ_self _) (.cons (Nat.lt_succ_self _) (.cons h
    (.cons O.lt.1 (.cons O.lt.2.1 (.cons O.lt.2.2.1 (.cons O.lt.2.2.2.1 (.cons O.lt.2.2.2.2.1 (.cons O.lt.2.2.2.2.2.1 (.cons O.lt.2.2.2.2.2.2.1 (.cons O.lt.2.2.2.2.2.2.2 (.one _))))))))))))))))))
theorem LexOk.ranked0 {l : List Nat} (O : LexOk w a) (lt0 : @LT.lt Nat _ 103 L ∧ @LT.lt Nat _ (L + 7) T ∧ @LT.lt Nat _ T WA ∧ @LT.lt Nat _ WA a.D ∧ @LT.lt Nat _ WA a.cell) (h : Rise (a.p2 :: l)) :
    Ranked (103 :: L :: (L + 1) :: (L + 1 + 1) :: (L + 1 + 1 + 1) :: (L + 1 + 1 + 1 + 1) :: (L + 1 + 1 + 1 + 1 + 1) :: (L + 1 + 1 + 1 + 1 + 1 + 1) :: (L + 1 + 1 + 1 + 1 + 1 + 1 + 1) :: T :: WA :: a.cell :: a.D :: a.d1 :: a.x1 :: a.c' :: a.f :: a.d2 :: a.x2 :: a.p2 :: l) :=
  Rise.ranked (.cons lt0.1 (.cons (Nat.lt_succ_self _) (.cons (Nat.lt_succ_self _) (.cons (Nat.lt_succ_self _) (.cons (Nat.lt_succ_self _) (.cons (Nat.lt_succ_self _) (.cons (Nat.lt_succ_self _) (.cons (Nat.lt_succ_self _) (.cons lt0.2.1 (.cons lt0.2.2.1 (.cons lt0.2.2.2.2
    (.cons O.lt.1 (.cons O.lt.2.1 (.cons O.lt.2.2.1 (.cons O.lt.2.2.2.1 (.cons O.lt.2.2.2.2.1 (.cons O.lt.2.2.2.2.2.1 (.cons O.lt.2.2.2.2.2.2.1 (.cons O.lt.2.2.2.2.2.2.2 h)))))))))))))))))))
end stage

end SP33
section SP34
section gjw
/-! Goldman, Joichi and White, for four: the table tells the product -/
def base4 : List (List Int) := ordersOf [1, 2, 3, 4]
theorem tab_perm {os os' : List (List Int)} (h : os.Perm os') (bs : List Int) : tabOf os bs = tabOf os' bs := by
  unfold tabOf
  congr 1
  funext c
  rw [(h.filter fun o => fits o bs == c).length_eq]
theorem orders_all : (base4.all fun r => (ordersOf r).isPerm base4) = true := by decide +kernel
theorem orders_perm {r : List Int} (h : r ∈ base4) : (ordersOf r).Perm base4 := List.isPerm_iff.mp (List.all_eq_true.mp orders_all r h)
theorem filt4 {α : Type} (p : α → Bool) (a b c d : α) : ([a, b, c, d].filter p).length = (p a).toNat + (p b).toNat + (p c).toNat + (p d).toNat := by
  simp only [List.filter]
  cases p a <;> cases p b <;> cases p c <;> cases p d <;> rfl
theorem four {α : Type} {l : List α} (h : l.length = 4) : ∃ a b c d, l = [a, b, c, d] := by
  match l, h with
  | [a, b, c, d], _ => exact ⟨a, b, c, d, rfl⟩
theorem fits4 (p q r s a b c d : Int) : fits [p, q, r, s] [a, b, c, d] = (decide (p ≤ a)).toNat + (decide (q ≤ b)).toNat + (decide (r ≤ c)).toNat + (decide (s ≤ d)).toNat := filt4 _ _ _ _ _
def sw0 : List Int → List Int
  | [a, b, c, d] => [b, a, c, d]
  | l => l
def sw1 : List Int → List Int
  | [a, b, c, d] => [a, c, b, d]
  | l => l
def sw2 : List Int → List Int
  | [a, b, c, d] => [a, b, d, c]
  | l => l
theorem sw_all : ((base4.map sw0).isPerm base4 && (base4.map sw1).isPerm base4 && (base4.map sw2).isPerm base4 && base4.all fun o => o.length == 4) = true := by decide +kernel
theorem tab_map {f : List Int → List Int} {bs bs' : List Int} (hf : (base4.map f).Perm base4) (h : ∀ o ∈ base4, fits o bs = fits (f o) bs') : tabOf base4 bs = tabOf base4 bs' := by
  rw [← tab_perm hf bs']
  unfold tabOf
  congr 1
  funext c
  rw [List.filter_map, List.length_map]
  congr 2
  refine List.filter_congr fun o ho => ?_
  show (fits o bs == c) = (fits (f o) bs' == c)
  rw [h o ho]
theorem sw_facts : (base4.map sw0).Perm base4 ∧ (base4.map sw1).Perm base4 ∧ (base4.map sw2).Perm base4 ∧ ∀ o ∈ base4, o.length = 4 := by
  have h := sw_all
  simp only [Bool.and_eq_true, List.all_eq_true, beq_iff_eq] at h
  exact ⟨List.isPerm_iff.mp h.1.1.1, List.isPerm_iff.mp h.1.1.2, List.isPerm_iff.mp h.1.2, h.2⟩
theorem tab_sw0 (a b c d : Int) : tabOf base4 [b, a, c, d] = tabOf base4 [a, b, c, d] := tab_map sw_facts.1 fun o ho => by
  obtain ⟨p, q, r, s, rfl⟩ := four (sw_facts.2.2.2 o ho)
  show fits [p, q, r, s] _ = fits [q, p, r, s] _
  rw [fits4, fits4]; omega
theorem tab_sw1 (a b c d : Int) : tabOf base4 [a, c, b, d] = tabOf base4 [a, b, c, d] := tab_map sw_facts.2.1 fun o ho => by
  obtain ⟨p, q, r, s, rfl⟩ := four (sw_facts.2.2.2 o ho)
  show fits [p, q, r, s] _ = fits [p, r, q, s] _
  rw [fits4, fits4]; omega
theorem tab_sw2 (a b c d : Int) : tabOf base4 [a, b, d, c] = tabOf base4 [a, b, c, d] := tab_map sw_facts.2.2.1 fun o ho => by
  obtain ⟨p, q, r, s, rfl⟩ := four (sw_facts.2.2.2 o ho)
  show fits [p, q, r, s] _ = fits [p, q, s, r] _
  rw [fits4, fits4]; omega
/-- four in rising order, as their table is -/
theorem sort4 (a b c d : Int) : ∃ l : List Int, l.Perm [a, b, c, d] ∧ l.Pairwise (· ≤ ·) ∧ tabOf base4 l = tabOf base4 [a, b, c, d] := by
  have step : ∀ (f : Int → Int → Int → Int → List Int), (∀ a b c d, (f a b c d).Perm [a, b, c, d]) → (∀ a b c d, tabOf base4 (f a b c d) = tabOf base4 [a, b, c, d]) → True := fun _ _ _ => trivial
  have c0 : ∀ a b c d : Int, ∃ x y, x ≤ y ∧ [x, y, c, d].Perm [a, b, c, d] ∧ tabOf base4 [x, y, c, d] = tabOf base4 [a, b, c, d] ∧ (∀ z, z ≤ a → z ≤ b → z ≤ x) ∧ (∀ z, a ≤ z → b ≤ z → y ≤ z) ∧ (x = a ∧ y = b ∨ x = b ∧ y = a) := fun a b c d => by
    by_cases h : a ≤ b
    · exact ⟨a, b, h, .refl _, rfl, fun _ h _ => h, fun _ _ h => h, .inl ⟨rfl, rfl⟩⟩
    · exact ⟨b, a, by omega, .swap _ _ _, tab_sw0 a b c d, fun _ _ h => h, fun _ h _ => h, .inr ⟨rfl, rfl⟩⟩
  have c1 : ∀ a b c d : Int, ∃ x y, x ≤ y ∧ [a, x, y, d].Perm [a, b, c, d] ∧ tabOf base4 [a, x, y, d] = tabOf base4 [a, b, c, d] ∧ (x = b ∧ y = c ∨ x = c ∧ y = b) := fun a b c d => by
    by_cases h : b ≤ c
    · exact ⟨b, c, h, .refl _, rfl, .inl ⟨rfl, rfl⟩⟩
    · exact ⟨c, b, by omega, .cons _ (.swap _ _ _), tab_sw1 a b c d, .inr ⟨rfl, rfl⟩⟩
  have c2 : ∀ a b c d : Int, ∃ x y, x ≤ y ∧ [a, b, x, y].Perm [a, b, c, d] ∧ tabOf base4 [a, b, x, y] = tabOf base4 [a, b, c, d] ∧ (x = c ∧ y = d ∨ x = d ∧ y = c) := fun a b c d => by
    by_cases h : c ≤ d
    · exact ⟨c, d, h, .refl _, rfl, .inl ⟨rfl, rfl⟩⟩
    · exact ⟨d, c, by omega, .cons _ (.cons _ (.swap _ _ _)), tab_sw2 a b c d, .inr ⟨rfl, rfl⟩⟩
  obtain ⟨a1, b1, l1, p1, t1, _, _, e1⟩ := c0 a b c d
  obtain ⟨b2, g2, l2, p2, t2, e2⟩ := c1 a1 b1 c d
  obtain ⟨g3, d3, l3, p3, t3, e3⟩ := c2 a1 b2 g2 d
  obtain ⟨a4, b4, l4, p4, t4, _, _, e4⟩ := c0 a1 b2 g3 d3
  obtain ⟨b5, g5, l5, p5, t5, e5⟩ := c1 a4 b4 g3 d3
  obtain ⟨a6, b6, l6, p6, t6, _, _, e6⟩ := c0 a4 b5 g5 d3
  refine ⟨[a6, b6, g5, d3], p6.trans (p5.trans (p4.trans (p3.trans (p2.trans p1)))), ?_, t6.trans (t5.trans (t4.trans (t3.trans (t2.trans t1))))⟩
  simp only [List.pairwise_cons, List.mem_cons, List.not_mem_nil, or_false, forall_eq_or_imp, forall_eq, List.Pairwise.nil, and_true, false_implies, implies_true]
  have q1 : b6 ≤ g5 := by clear p1 p2 p3 p4 p5 p6 t1 t2 t3 t4 t5 t6; omega
  have q2 : g5 ≤ d3 := by clear p1 p2 p3 p4 p5 p6 t1 t2 t3 t4 t5 t6; omega
  exact ⟨⟨l6, Int.le_trans l6 q1, Int.le_trans l6 (Int.le_trans q1 q2)⟩, ⟨q1, Int.le_trans q1 q2⟩, q2⟩
def check1 (bs : List Int) : Bool :=
  let t := tabOf base4 bs
  [0, 1, 2, 3, 4].all fun x => takenUp t x 5 == prodUp x bs 4
def five : List Int := [0, 1, 2, 3, 4]
theorem check_all : (five.all fun a => five.all fun b => !decide (a ≤ b) || five.all fun c => !decide (b ≤ c) || five.all fun d => !decide (c ≤ d) || check1 [a, b, c, d]) = true := by decide +kernel
end gjw

end SP34
section SP35
section told0
theorem lt_ints : ∀ a b : List Nat, ltInts (a.map Int.ofNat) (b.map Int.ofNat) = decide (a < b)
  | [], [] => by simp [ltInts]
  | [], _ :: _ => by simp [ltInts]
  | _ :: _, [] => by simp [ltInts]
  | a :: r, b :: q => by
    have ih := lt_ints r q
    simp only [List.map_cons, ltInts]
    by_cases e : a = b
    · subst e
      rw [if_pos rfl, ih]
      simp [List.cons_lt_cons_iff]
    · rw [if_neg (by intro h; exact e (Int.ofNat.inj h))]
      simp [List.cons_lt_cons_iff, e]
theorem told_all (x y : Str) : b2i (decide (y.cps.toList < x.cps.toList)) - b2i (decide (x.cps.toList < y.cps.toList)) = beside x y := by
  unfold beside cpInts
  rw [lt_ints]
  have inj : (x.cps.toList.map Int.ofNat = y.cps.toList.map Int.ofNat) ↔ x.cps.toList = y.cps.toList := List.map_inj_right fun _ _ h => Int.ofNat.inj h
  by_cases e : x.cps.toList = y.cps.toList
  · rw [if_pos (inj.mpr e), e]; omega
  · rw [if_neg fun h => e (inj.mp h)]
    by_cases h : x.cps.toList < y.cps.toList
    · have h2 : ¬ y.cps.toList < x.cps.toList := List.lt_asymm h
      simp [h, h2, b2i]
    · have h2 : y.cps.toList < x.cps.toList := by
        refine Classical.byContradiction fun h2 => e ?_
        exact List.le_antisymm (List.not_lt.mp h2) (List.not_lt.mp h)
      simp [h, h2, b2i]
theorem told_eq : ∀ x ∈ ops, ∀ y ∈ ops, b2i (decide (y.cps.toList < x.cps.toList)) - b2i (decide (x.cps.toList < y.cps.toList)) = beside x y := fun x _ y _ => told_all x y
end told0
section tools3
variable {w : World} {A : Around} {env : Env} {L : Addr} {h₀ : Heap} {m : Str → Option Value} {news : List (Addr × Obj)} {s : Shared}
/-- for x in a tuple, x a cell -/
theorem for_tuple_cell {x : Str} {px : Pos} {c l : Addr} {lo oc : Obj} {v₀ : Option Value} {items : Array Value} {body : List Stmt} {Q : Flow → Shared → Prop} {E X : Value → Shared → Prop}
    (F : Fr h₀ L s.heap m) (N : News h₀ L s.heap ((c, oc) :: news)) (hh : A.handled = none) (hd : oc.data = .cell v₀) (hl : (l, lo) ∈ news) (hlc : lo.cls = .type "tuple") (hld : ∃ k, lo.data = .seq items k)
    (hL : env.locals = L) (hk : env.scope.kind = .function) (hx : env.kindOf x = some .cell) (hc : env.cells.lookup x = some c) (off : ∀ p ∈ news, p.1 ≠ c) (J : Nat → (Str → Option Value) → List (Addr × Obj) → Prop) (hj : J 0 m news) (hsrc : ∀ i m' nw, J i m' nw → (l, lo) ∈ nw)
    (turn : ∀ i v I oI oc m₁ nw h tk E', i < items.size → items[i]? = some v → J i m₁ nw → oc.data = .cell (some v) → (∀ p ∈ news, p.1 < I) → @LT.lt Nat _ c I → (∀ p ∈ nw, p.1 ≠ I ∧ p.1 ≠ c) → Fr h₀ L h m₁ → News h₀ L h ((I, oI) :: (c, oc) :: nw) →
      wpAny (MM w) A (execs body env) (CellEnd h₀ L I c oI (J (i + 1)) { s with heap := h, toks := tk } Q) E' { s with heap := h, toks := tk })
    (done : ∀ m₁ nw oc v h tk, J items.size m₁ nw → oc.data = .cell v → Fr h₀ L h m₁ → News h₀ L h ((c, oc) :: nw) → Q .next { s with heap := h, toks := tk }) :
    wpAny (MM w) A (pyIter (.ref l)) (fun it s₂ => codeAny (MM w) A (.forLoop (.Name x px) it body [] env) (fun r s' => match r with | .ok f => Q f s' | .error e => X e s') s₂) E s := by
  have e : s.heap.get? l = some lo := (N _ (.tail _ hl)).1
  have IL : s.heap.IsTuple l items := ⟨lo, e, hlc, hld⟩
  have hlt : l < s.heap.objs.size := Heap.lt_size e
  refine wpAny_pyIter_tuple IL ?_
  have up : ∀ b o, s.heap.get? b = some o → (s.heap.push { cls := .type "tuple_iterator", data := .fields #[.ref l, .int 0 0] }).get? b = some o := fun b o e => Heap.get?_push_of_some _ e
  have hIn : ∀ p ∈ (c, oc) :: news, p.1 < s.heap.objs.size := fun p hp => Heap.lt_size (N p hp).1
  have hIc : s.heap.objs.size ≠ c := Ne.symm (Nat.ne_of_lt (hIn _ (.head _)))
  have hne : l ≠ s.heap.objs.size := Nat.ne_of_lt hlt
  refine for_cell (x := x) (px := px) (c := c) (oI := { cls := .type "tuple_iterator", data := .fields #[.ref l, .int 0 0] }) (oc := oc) (s := { s with heap := _ }) (Walks.tuple hh s.heap.objs.size l hne items) (src := [(l, lo)]) hL hk hx hc J
    (fun i h h' st hw hs => ⟨st.1.at fun o e => hw o e, ⟨lo, hs (l, lo) (by simp), hlc, hld⟩⟩) (fun i h st => by obtain ⟨o, e, _⟩ := st.1; exact ⟨o, e⟩)
    (F.keeps up) ?_ hd ⟨⟨_, Heap.get?_push_size _ rfl, rfl, rfl⟩, IL.push _⟩ hj hIc (fun p hp => ⟨Nat.ne_of_lt (hIn p (.tail _ hp)), off p hp⟩) (fun p hp => by rw [List.mem_singleton.mp hp]; exact .inr hsrc)
    (fun i v oI oc m₁ nw h tk E' hi hP hJ hd off F N => turn i v s.heap.objs.size oI oc m₁ nw h tk E' hi hP hJ hd (fun p hp => hIn p (.tail _ hp)) (hIn _ (.head _)) off F N) done fun _ _ h => h
  intro p hp
  rcases List.mem_cons.mp hp with rfl | hp
  · exact ⟨Heap.get?_push_size _ rfl, Ne.symm (Nat.ne_of_lt F.ns.lt), next_is_new F⟩
  · exact N.grown up p hp
/-- a slice of a list, by its places -/
theorem slice_nat {value slice : PySem.Expr} {l : Addr} {lo : Obj} {vs : List Value} {vl vu : Value} {a b : Option Int} {i j : Nat} {Q E : Value → Shared → Prop}
    (F : Fr h₀ L s.heap m) (N : News h₀ L s.heap news) (hm : (l, lo) ∈ news) (hc : lo.cls = .type "list") (hd : ∃ k, lo.data = .seq vs.toArray k) (pl : IsPart vl a) (pu : IsPart vu b) (e : sliceBounds a b none vs.length = ((i : Int), (j : Int), 1))
    (h : ∀ D h', Fr h₀ L h' m → News h₀ L h' ((D, W.listOf ((vs.drop i).take (j - i)).toArray 0) :: news) → (∀ p ∈ news, p.1 < D) → Q (.ref D) { s with heap := h' })
    (hs : subscripted slice false (.ref l) (.ref s.heap.objs.size) = operate [.ref s.heap.objs.size, .ref l] (getItem (.ref l) (.ref s.heap.objs.size))) (ht : ∀ r, letTemporaryGo value (.ref l) r = pure ()) (hz : vs.length ≤ sizeLine) :
    wpAny (MM w) A (subscriptTail value slice (.ref l) (.ref s.heap.objs.size)) Q E { s with heap := s.heap.push { cls := .type "slice", data := .fields #[vl, vu, .none] } } := by
  refine kmk_slice F N (isl N hm hc hd) pl pu (fun D h' F' N' l1 => h D h' F' ?_ l1) hs ht (by rw [List.size_toArray]; exact hz)
  have := kmk_pick_nat (lo := a) (hi := b) vs.toArray (a := i) (b := j) (by rw [List.size_toArray]; exact e)
  rw [this] at N'
  exact N'
end tools3

end SP35
section SP35b
section ranks
theorem hgt_eq {j : Int} (hj : j = 0 ∨ j = 1) (x y : Str) : hgt j x y = notAbove j x y := by
  rcases hj with rfl | rfl
  · simp only [hgt, notAbove, show ¬ (0 : Int) = 1 by decide, if_false, if_true]
    exact decide_eq_decide.mpr (by unfold opNo; omega)
  · simp only [hgt, notAbove, show ¬ (1 : Int) = 0 by decide, if_false, if_true, told_all]
theorem na_zero (x y : Str) : notAbove 0 x y = decide (opNo x ≤ opNo y) := by simp [notAbove]
theorem na_one (x y : Str) : notAbove 1 x y = decide (x.cps.toList ≤ y.cps.toList) := by
  unfold notAbove
  rw [if_neg (by decide), decide_eq_decide]
  by_cases h : y.cps.toList < x.cps.toList
  · have h2 : ¬ x.cps.toList < y.cps.toList := List.lt_asymm h
    have h3 : ¬ x.cps.toList ≤ y.cps.toList := List.not_le.mpr h
    simp [h, h2, h3, b2i]
  · have h3 : x.cps.toList ≤ y.cps.toList := List.not_lt.mp h
    by_cases h2 : x.cps.toList < y.cps.toList <;> simp [h, h2, h3, b2i]
theorem na_refl {j : Int} (hj : j = 0 ∨ j = 1) (x : Str) : notAbove j x x = true := by
  rcases hj with rfl | rfl
  · rw [na_zero]; simp
  · rw [na_one]; simp [List.le_refl]
theorem na_trans {j : Int} (hj : j = 0 ∨ j = 1) {x y z : Str} (h1 : notAbove j x y = true) (h2 : notAbove j y z = true) : notAbove j x z = true := by
  rcases hj with rfl | rfl
  · rw [na_zero, decide_eq_true_eq] at *; omega
  · rw [na_one, decide_eq_true_eq] at *; exact List.le_trans h1 h2
theorem opNo_inj {x y : Str} (hx : x ∈ ops) (hy : y ∈ ops) (h : opNo x = opNo y) : x = y := by
  have h1 : ops.idxOf x < ops.length := List.idxOf_lt_length_iff.mpr hx
  have h2 : ops.idxOf y < ops.length := List.idxOf_lt_length_iff.mpr hy
  have e : ops.idxOf x = ops.idxOf y := by unfold opNo at h; omega
  have e1 := List.getElem_idxOf h1
  have e2 := List.getElem_idxOf h2
  rw [← e1, ← e2]
  congr 1
theorem na_anti {j : Int} (hj : j = 0 ∨ j = 1) {x y : Str} (hx : x ∈ ops) (hy : y ∈ ops) (hne : x ≠ y) : notAbove j y x = !notAbove j x y := by
  rcases hj with rfl | rfl
  · rw [na_zero, na_zero]
    have : opNo x ≠ opNo y := fun h => hne (opNo_inj hx hy h)
    by_cases h : opNo x ≤ opNo y
    · have : ¬ opNo y ≤ opNo x := by omega
      simp [h, this]
    · have : opNo y ≤ opNo x := by omega
      simp [h, this]
  · rw [na_one, na_one]
    by_cases h : x.cps.toList ≤ y.cps.toList
    · have : ¬ y.cps.toList ≤ x.cps.toList := fun h2 => hne (str_ext (List.le_antisymm h h2))
      simp [h, this]
    · have : y.cps.toList ≤ x.cps.toList := (List.le_total _ _).resolve_left h
      simp [h, this]
def tri (ab bc ac : Bool) : Bool := !(ab && bc && !ac) && !(!ab && !bc && ac)
theorem na_tri {j : Int} (hj : j = 0 ∨ j = 1) {a b c : Str} (ha : a ∈ ops) (hb : b ∈ ops) (hc : c ∈ ops) (hab : a ≠ b) (hbc : b ≠ c) (hac : a ≠ c) : tri (notAbove j a b) (notAbove j b c) (notAbove j a c) = true := by
  have e1 := na_anti hj ha hb hab
  have e2 := na_anti hj hb hc hbc
  have e3 := na_anti hj ha hc hac
  have t1 := fun h1 h2 => na_trans hj (x := a) (y := b) (z := c) h1 h2
  have t2 := fun h1 h2 => na_trans hj (x := c) (y := b) (z := a) h1 h2
  rw [e1, e2, e3] at t2
  revert t1 t2
  generalize notAbove j a b = p
  generalize notAbove j b c = q
  generalize notAbove j a c = r
  revert p q r
  decide
theorem ranks_bool : ∀ ab ac ad bc bd cd : Bool, tri ab bc ac = true → tri ab bd ad = true → tri ac cd ad = true → tri bc cd bd = true →
    base4.contains [((true.toNat + (!ab).toNat + (!ac).toNat + (!ad).toNat : Nat) : Int), ((ab.toNat + true.toNat + (!bc).toNat + (!bd).toNat : Nat) : Int), ((ac.toNat + bc.toNat + true.toNat + (!cd).toNat : Nat) : Int), ((ad.toNat + bd.toNat + cd.toNat + true.toNat : Nat) : Int)] = true := by decide +kernel
theorem ranks_in {j : Int} (hj : j = 0 ∨ j = 1) {ss : List Str} (hss : ∀ y ∈ ss, y ∈ ops) (hnd : ss.Nodup) (hsl : ss.length = 4) : (ss.map fun y => ((cnt j ss y : Nat) : Int)) ∈ base4 := by
  obtain ⟨a, b, c, d, rfl⟩ := four hsl
  have ha := hss a (by simp)
  have hb := hss b (by simp)
  have hc := hss c (by simp)
  have hd := hss d (by simp)
  simp only [List.nodup_cons, List.mem_cons, List.not_mem_nil, or_false, not_or, List.nodup_nil, not_false_eq_true, and_true] at hnd
  obtain ⟨⟨nab, nac, nad⟩, ⟨nbc, nbd⟩, ncd⟩ := hnd
  have h := ranks_bool (notAbove j a b) (notAbove j a c) (notAbove j a d) (notAbove j b c) (notAbove j b d) (notAbove j c d) (na_tri hj ha hb hc nab nbc nac) (na_tri hj ha hb hd nab nbd nad) (na_tri hj ha hc hd nac ncd nad) (na_tri hj hb hc hd nbc ncd nbd)
  rw [List.contains_iff_mem] at h
  rw [← na_anti hj ha hb nab, ← na_anti hj ha hc nac, ← na_anti hj ha hd nad, ← na_anti hj hb hc nbc, ← na_anti hj hb hd nbd, ← na_anti hj hc hd ncd] at h
  have e : ∀ y, cnt j [a, b, c, d] y = (notAbove j a y).toNat + (notAbove j b y).toNat + (notAbove j c y).toNat + (notAbove j d y).toNat := fun y => filt4 _ a b c d
  simp only [List.map_cons, List.map_nil, e, na_refl hj]
  exact h
theorem plain_eq {ss os : List Str} {j : Int} (hj : j = 0 ∨ j = 1) (hoA : ∀ y ∈ ss ++ os, y ∈ ops) (hnd : ss.Nodup) (hsl : ss.length = 4) (hol : os.length = 4) {hs' : List Int} {x : Nat} (hp : hs'.Perm (os.map fun y => (((ss.filter fun z => hgt (1 - j) z y).length : Nat) : Int))) (ho : hs'.Pairwise (· ≤ ·)) (hx : x < 5) :
    prodUp x hs' 4 = takenUp (tabOf (ordersOf (ss.map fun y => ((cnt j ss y : Nat) : Int))) (os.map fun y => ((cnt (1 - j) ss y : Nat) : Int))) x 5 := by
  have hj2 : 1 - j = 0 ∨ 1 - j = 1 := by omega
  have hss : ∀ y ∈ ss, y ∈ ops := fun y hy => hoA y (List.mem_append_left _ hy)
  have e1 : (os.map fun y => (((ss.filter fun z => hgt (1 - j) z y).length : Nat) : Int)) = os.map fun y => ((cnt (1 - j) ss y : Nat) : Int) := by
    congr 1
    funext y
    unfold cnt
    congr 3
    funext z
    exact hgt_eq hj2 z y
  rw [e1] at hp
  rw [tab_perm (orders_perm (ranks_in hj hss hnd hsl))]
  have hb : ∀ b ∈ (os.map fun y => ((cnt (1 - j) ss y : Nat) : Int)), b ∈ five := by
    intro b hb
    obtain ⟨y, _, rfl⟩ := List.mem_map.mp hb
    have h1 : cnt (1 - j) ss y ≤ 4 := by
      have := List.length_filter_le (fun z => notAbove (1 - j) z y) ss
      unfold cnt; omega
    match cnt (1 - j) ss y, h1 with
    | 0, _ => decide
    | 1, _ => decide
    | 2, _ => decide
    | 3, _ => decide
    | 4, _ => decide
  generalize hbs : (os.map fun y => ((cnt (1 - j) ss y : Nat) : Int)) = bs at *
  have hbl : bs.length = 4 := by rw [← hbs, List.length_map]; exact hol
  obtain ⟨a, b, c, d, rfl⟩ := four hbl
  obtain ⟨l, hl1, hl2, hl3⟩ := sort4 a b c d
  obtain rfl : hs' = l := List.Perm.eq_of_pairwise (le := (· ≤ ·)) (fun a b _ _ h1 h2 => Int.le_antisymm h1 h2) ho hl2 (hp.trans hl1.symm)
  rw [← hl3]
  have hb' : ∀ z ∈ hs', z ∈ five := fun z hz => hb z (hp.mem_iff.mp hz)
  obtain ⟨a', b', c', d', rfl⟩ := four (hp.length_eq.trans hbl)
  simp only [List.pairwise_cons, List.mem_cons, List.not_mem_nil, or_false, forall_eq_or_imp, forall_eq] at ho
  have h1 := List.all_eq_true.mp check_all a' (hb' a' (by simp))
  have h2 := ((Bool.or_eq_true _ _).mp (List.all_eq_true.mp h1 b' (hb' b' (by simp)))).resolve_left (by simp [ho.1.1])
  have h3 := ((Bool.or_eq_true _ _).mp (List.all_eq_true.mp h2 c' (hb' c' (by simp)))).resolve_left (by simp [ho.2.1.1])
  have hc := ((Bool.or_eq_true _ _).mp (List.all_eq_true.mp h3 d' (hb' d' (by simp)))).resolve_left (by simp [ho.2.2.1])
  unfold check1 at hc
  have hx' : ((x : Nat) : Int) ∈ ([0, 1, 2, 3, 4] : List Int) := by
    match x, hx with
    | 0, _ => decide
    | 1, _ => decide
    | 2, _ => decide
    | 3, _ => decide
    | 4, _ => decide
  have := List.all_eq_true.mp hc _ hx'
  exact (eq_of_beq this).symm
end ranks

end SP35b
theorem rstP36 : True ∧ True := by
  w_top off
  first
    | (walk1; done)
    | exact ⟨trivial, trivial⟩
section SP36
section judge
local macro_rules | `(tactic| walk_at "my room") => `(tactic| k_extra "my roomS")
variable {w : World} {A : Around} {L fa : Addr} {cd : Value} {h₀ : Heap} {m : Str → Option Value} {s : Shared} {Q : Flow → Shared → Prop} {E : Value → Shared → Prop} {a : LexA} {ps : Array Value} {WA T RD : Addr} {zs sv ys : List Value} {nt n n2 : Nat} {line : Int} {oTab oH oJ oX oW oS : Obj} {v1 v2 v3 : Option Value} {ss os : List Str} {tl : Tok}
theorem strs_sub {vs : List Value} {xs : List Str} (h : StrsAre vs xs) (i k : Nat) : StrsAre ((vs.drop i).take k) ((xs.drop i).take k) := by
  induction h generalizing i k with
  | nil => simp; exact .nil
  | cons x t r ih =>
    cases i with
    | zero =>
      cases k with
      | zero => exact .nil
      | succ k => exact .cons x t (by simpa using ih 0 k)
    | succ i => exact ih i k
theorem led2_in {rest : List (Addr × Obj)} {vs : List Value} {x1 x2 y : Addr × Obj} {h : Heap} (N : News h₀ L h (x1 :: x2 :: a.led vs n line tl (y :: rest))) : News h₀ L h (a.led vs n line tl (y :: x1 :: x2 :: rest)) := by
  intro p hp
  refine N p ?_
  have hp' : p ∈ a.led vs n line tl [] ++ (y :: x1 :: x2 :: rest) := hp
  show p ∈ x1 :: x2 :: (a.led vs n line tl [] ++ (y :: rest))
  rcases List.mem_append.mp hp' with h | h
  · exact .tail _ (.tail _ (List.mem_append_left _ h))
  · rcases List.mem_cons.mp h with rfl | h
    · exact .tail _ (.tail _ (List.mem_append_right _ (.head _)))
    rcases List.mem_cons.mp h with rfl | h
    · exact .head _
    rcases List.mem_cons.mp h with rfl | h
    · exact .tail _ (.head _)
    · exact .tail _ (.tail _ (List.mem_append_right _ (.tail _ h)))
/-- an element that turns the line round once -/
def CountEnd (a : LexA) (n : Nat) (line : Int) (tl : Tok) (pb : List Value) (h₀ : Heap) (L : Addr) (m : Str → Option Value) (r3 : List (Addr × Obj)) (r : Int) (s : Shared) (v : Value) (s' : Shared) : Prop :=
  ∃ t n2 h' tk', v = .int r t ∧ s' = { s with heap := h', toks := tk' } ∧ Fr h₀ L h' m ∧ News h₀ L h' (a.led [] n line tl ((a.p2, W.listOf pb.toArray n2) :: r3))
theorem comp_line {env : Env} {x : Str} {px : Pos} {l : Addr} {cl pb : List Value} {cws : List Str} {f : Str → Int} {X : List (Addr × Obj)} {elt : PySem.Expr} {clo : List (Str × Addr)} {scope : Scope} {Fin : Addr → List (Addr × Obj) → Shared → Prop} {E : Value → Shared → Prop}
    (F : Fr h₀ L s.heap m) (N : News h₀ L s.heap (a.led [] n line tl ((a.p2, W.listOf pb.toArray n2) :: X))) (hh : A.handled = none) (hl : (l, W.listOf cl.toArray 0) ∈ X) (hs : StrsAre cl cws) (h4 : cws.length = 4) (hx : scope.names.lookup x = some .local) (hkind : scope.kind = .function)
    (turn : ∀ (i : Nat) (y : Str) ty I oI C oC D mC ys n2 h tk E', cws[i]? = some y → LCg.NsObj oC mC → mC x = some (.str y ty) → (∀ p ∈ (I, oI) :: (C, oC) :: (D, LCg.lst ys) :: X, p.1 ≠ a.p2 ∨ p ∈ X) → Fr h₀ L h m → News h₀ L h ((I, oI) :: (C, oC) :: (D, LCg.lst ys) :: a.led [] n line tl ((a.p2, W.listOf pb.toArray n2) :: X)) →
      wpAny (MM w) A (eval elt (compEnvC scope clo C env)) (CountEnd a n line tl pb h₀ L m ((I, oI) :: (C, oC) :: (D, LCg.lst ys) :: X) (f y) { s with heap := h, toks := tk }) E' { s with heap := h, toks := tk })
    (fin : ∀ D ys n2 h₂ tk₂, IntsAre ys (cws.map f) → (∀ p ∈ X, p.1 < D) → Fin D ((D, LCg.lst ys) :: a.led [] n line tl ((a.p2, W.listOf pb.toArray n2) :: X)) { s with heap := h₂, toks := tk₂ }) :
    wpAny (MM w) A (pyIter (.ref l)) (fun it s₂ => CompAt w A h₀ L m env clo scope (.Name x px) (B1 w A [] elt clo scope env) Fin it s₂) E s := by
  have hsz : (3000 : Nat) ≤ sizeLine := by decide
  have hcl := hs.len_eq
  have hin : ∀ (n2 : Nat) (p : Addr × Obj), p ∈ X → p ∈ a.led [] n line tl ((a.p2, W.listOf pb.toArray n2) :: X) := fun n2 p hp => List.mem_append_right (a.led [] n line tl []) (.tail _ hp)
  refine comp_list F N hh (.inl (hin _ _ hl)) rfl ⟨_, rfl⟩ hx hkind (by rw [List.size_toArray]; omega) (fun i ys nw => ∃ n2, nw = a.led [] n line tl ((a.p2, W.listOf pb.toArray n2) :: X) ∧ IntsAre ys ((cws.map f).take i) ∧ ys.length ≤ i) ⟨n2, rfl, .nil, Nat.le_refl _⟩ (fun i ys nw ⟨_, _, _, h⟩ => h) (.inr fun i ys nw ⟨n2, e, _⟩ => by rw [e]; exact hin _ _ hl) ?_ ?_
  · rintro i v I oI C oC D mC ys nw h tk E' hi hv ⟨n3, rfl, hys, hyl⟩ hoC hmx hne hlt off F N
    rw [List.size_toArray, hcl] at hi
    obtain ⟨ty, ey⟩ := hs.get i _ (List.getElem?_eq_getElem hi)
    have hv' := hv
    rw [List.getElem?_toArray, ey] at hv'
    obtain rfl := Option.some.inj hv'
    have hp2 := off (a.p2, _) (List.mem_append_right (a.led [] n line tl []) (.head _))
    refine wpAny_mono (turn i _ ty I oI C oC D mC ys n3 h tk E' (List.getElem?_eq_getElem hi) hoC hmx (fun p hp => ?_) F N) (fun v s' h' => ?_) fun _ _ x => x
    · rcases List.mem_cons.mp hp with rfl | hp
      · exact .inl (Ne.symm hp2.2.2)
      rcases List.mem_cons.mp hp with rfl | hp
      · exact .inl (Ne.symm hp2.1)
      rcases List.mem_cons.mp hp with rfl | hp
      · exact .inl (Ne.symm hp2.2.1)
      · exact .inr hp
    · obtain ⟨t, n4, h₄, tk₄, rfl, rfl, F₄, N₄⟩ := h'
      refine EltEnd.intro F₄ N₄ _ (fun p hp => led3_out hp) (led_addr (P := fun x => x ≠ C ∧ x ≠ D ∧ ∀ b ∈ [I], x ≠ b) (off_one off)) ⟨n4, rfl, ?_, ?_⟩
      · rw [map_take_succ _ hi]; exact intsAre_snoc hys
      · rw [List.length_append]; exact Nat.succ_le_succ hyl
  · rintro D ys nw h₂ tk₂ ⟨n3, rfl, hys, hyl⟩ off hlt
    rw [List.size_toArray, hcl, ← List.length_map (f := f), List.take_length] at hys
    exact fin D ys n3 h₂ tk₂ hys fun p hp => hlt p (hin _ p hp)
def IntEnd (h₀ : Heap) (L : Addr) (m : Str → Option Value) (led : List (Addr × Obj)) (r : Int) (s : Shared) (v : Value) (s' : Shared) : Prop := ∃ t h' tk', v = .int r t ∧ s' = { s with heap := h', toks := tk' } ∧ Fr h₀ L h' m ∧ News h₀ L h' led
/-- a comprehension over a range that leaves the ledger as it is -/
theorem comp_range_fix {env : Env} {news : List (Addr × Obj)} {x : Str} {px : Pos} {r : Addr} {b : Int} {t u v : Tok} {k : Nat} {f : Nat → Int} {elt : PySem.Expr} {clo : List (Str × Addr)} {scope : Scope} {Fin : Addr → List (Addr × Obj) → Shared → Prop} {E : Value → Shared → Prop}
    (F : Fr h₀ L s.heap m) (N : News h₀ L s.heap news) (hh : A.handled = none) (hr : IsRange s.heap r 0 b 1 t u v) (hsm : Builtin.Range.small 0 b 1 = true) (hrs : Builtin.Range.rangeSize 0 b 1 = ((k : Nat) : Int)) (hx : scope.names.lookup x = some .local) (hkind : scope.kind = .function) (hn : k ≤ sizeLine)
    (turn : ∀ (i : Nat) ty I oI C oC D mC ys h tk E', i < k → LCg.NsObj oC mC → mC x = some (.int (i : Nat) ty) → (∀ p ∈ news, p.1 < D ∧ p.1 < C ∧ p.1 < I) → Fr h₀ L h m → News h₀ L h ((I, oI) :: (C, oC) :: (D, LCg.lst ys) :: news) →
      wpAny (MM w) A (eval elt (compEnvC scope clo C env)) (IntEnd h₀ L m ((I, oI) :: (C, oC) :: (D, LCg.lst ys) :: news) (f i) { s with heap := h, toks := tk }) E' { s with heap := h, toks := tk })
    (fin : ∀ D ys h₂ tk₂, IntsAre ys ((List.range k).map f) → (∀ p ∈ news, p.1 < D) → Fin D ((D, LCg.lst ys) :: news) { s with heap := h₂, toks := tk₂ }) :
    wpAny (MM w) A (pyIter (.ref r)) (fun it s₂ => CompAt w A h₀ L m env clo scope (.Name x px) (B1 w A [] elt clo scope env) Fin it s₂) E s := by
  have hl : ((List.range k).map f).length = k := by simp
  refine comp_range F N hh hr hsm hrs hx hkind hn (fun i ys nw => nw = news ∧ IntsAre ys (((List.range k).map f).take i) ∧ ys.length ≤ i) ⟨rfl, .nil, Nat.le_refl _⟩ (fun i ys nw h => h.2.2) ?_ ?_
  · rintro i v I oI C oC D mC ys nw h tk E' hi ⟨ty, rfl⟩ ⟨rfl, hys, hyl⟩ hoC hmx hne hlt off F N
    rw [Int.zero_add] at hmx
    refine wpAny_mono (turn i ty I oI C oC D mC ys h tk E' hi hoC hmx hlt F N) (fun v s' h' => ?_) fun _ _ x => x
    obtain ⟨t', h₄, tk₄, rfl, rfl, F₄, N₄⟩ := h'
    refine EltEnd.intro1 F₄ N₄ (fun p hp => hp) (off_one off) ⟨rfl, ?_, ?_⟩
    · rw [map_take_succ f (l := List.range k) (by simpa using hi)]
      simpa using intsAre_snoc hys
    · rw [List.length_append]; exact Nat.succ_le_succ hyl
  · rintro D ys nw h₂ tk₂ ⟨rfl, hys, hyl⟩ off hlt
    rw [List.take_of_length_le (by rw [hl]; exact Nat.le_refl _)] at hys
    exact fin D ys h₂ tk₂ hys hlt
theorem tab_bnd {rs bs : List Int} (h4 : rs.length = 4) : ∀ h ∈ tabOf (ordersOf rs) bs, 0 ≤ h ∧ h ≤ 24 := by
  intro h hh
  unfold tabOf at hh
  obtain ⟨c, _, rfl⟩ := List.mem_map.mp hh
  have h1 := (orders_bnd (ranks := rs) h4 (i := 4) (Nat.le_refl _)).1
  rw [List.take_of_length_le (by omega)] at h1
  have h2 := List.length_filter_le (fun o => fits o bs == c) (ordersOf rs)
  omega
def judgeBody : List Stmt := match lawBody.drop 10 with
  | (Stmt.For _ _ b _ _) :: _ => b
  | _ => []
abbrev judgeLed (a : LexA) (n : Nat) (line : Int) (tl : Tok) (n2 : Nat) (TU : Addr) (oTU : Obj) (SL : Addr) (sl : List Value) (RD : Addr) (ys : List Value) (ps : Array Value) (WA T : Addr) (zs sv : List Value) (nt : Nat) (L : Addr) (oTab oH oX oW oS : Obj) : List (Addr × Obj) :=
  a.led [] n line tl ((a.p2, W.listOf sl.toArray n2) :: (TU, oTU) :: (SL, W.listOf sl.toArray 0) :: (RD, LCg.lst ys) :: restB ps WA T zs sv nt [(L + 1 + 1 + 1 + 1 + 1 + 1 + 1, oTab), (L + 1 + 1 + 1 + 1 + 1 + 1, oH), (L + 1 + 1 + 1 + 1, oX), (L + 1 + 1 + 1, oW), (L + 1 + 1, oS)])
local macro_rules | `(tactic| walk_at "exec Assign cons ListComp") => `(tactic| k_extra "my z88")
local macro_rules | `(tactic| walk_at "call ref") => `(tactic| k_extra "my z89")
local macro_rules | `(tactic| walk_at "my at") => `(tactic| k_extra "my z90")
local macro_rules | `(tactic| walk_at "eval ListComp") => `(tactic| k_extra "my z91")
local macro_rules | `(tactic| walk_at "my ccomp") => `(tactic| k_extra "my z92")
local macro_rules | `(tactic| walk_at "subscriptTail Name Slice ref ref") => `(tactic| (k_extra "my z93"; intro D' h' F' N' l1'; (try k_lt l1'); (try dsimp only)))
theorem judge_turn {body : List Stmt} {scope : Scope} (hb : body = judgeBody) (hsc : scope = lawScope) (O : LexOk w a) (hys : StrsAre ys (ss ++ os)) (hsv : StrsAre sv ss) (hzs : StrsAre zs (ss ++ os)) (hsl : ss.length = 4) (hol : os.length = 4) (hoA : ∀ y ∈ ss ++ os, y ∈ ops) (hnd : ss.Nodup)
    {j : Int} {tj : Tok} (hj : j = 0 ∨ j = 1) (d1 : oTab.data = .cell v1) (d2 : oH.data = .cell v2) (d3 : oJ.data = .cell (some (.int j tj))) (d4 : oX.data = .cell (some (.ref a.x2))) (d5 : oW.data = .cell (some (.ref WA))) (d6 : oS.data = .cell (some (.ref T))) (hm : m "read" = some (.ref RD))
    (lt0 : @LT.lt Nat _ 103 L ∧ @LT.lt Nat _ (L + 7) T ∧ @LT.lt Nat _ T WA ∧ @LT.lt Nat _ WA a.D ∧ @LT.lt Nat _ WA a.cell) {I TU SL : Addr} {oI oTU : Obj} {sl : List Value} (hss : StrsAre sl ss) (ltR : @LT.lt Nat _ a.p2 RD ∧ @LT.lt Nat _ RD SL ∧ @LT.lt Nat _ SL TU ∧ @LT.lt Nat _ TU I)
    (S : Sit w A (envOfC "law" scope L fa cd) L h₀ s.heap m ((I, oI) :: (L + 1 + 1 + 1 + 1 + 1, oJ) :: judgeLed a n line tl n2 TU oTU SL sl RD ys ps WA T zs sv nt L oTab oH oX oW oS) 15)
    (hret : ∀ n2 oTab' oH' v1' v2' h' tk' m', Fr h₀ L h' m' → News h₀ L h' ((I, oI) :: (L + 1 + 1 + 1 + 1 + 1, oJ) :: judgeLed a n line tl n2 TU oTU SL sl RD ys ps WA T zs sv nt L oTab' oH' oX oW oS) → oTab'.data = .cell v1' → oH'.data = .cell v2' → m' "read" = some (.ref RD) → Q .next { s with heap := h', toks := tk' }) :
    wpAny (MM w) A (execs body (envOfC "law" scope L fa cd)) Q E s := by
  conv at hb => rhs; whnf
  conv at hsc => rhs; whnf
  subst hb
  subst hsc
  dsimp only [judgeLed, LexA.led] at S
  have hlt := O.lt
  have hrk := O.ranked0 lt0 (.cons ltR.1 (.cons ltR.2.1 (.cons ltR.2.2.1 (.cons ltR.2.2.2 (.one _)))))
  have hsz : (3000 : Nat) ≤ sizeLine := by decide
  have hwl : (ss ++ os).length = 8 := by rw [List.length_append, hsl, hol]
  have hyl : ys.length = 8 := hys.len_eq.trans hwl
  have hzl : zs.length = 8 := hzs.len_eq.trans hwl
  have hb1 : sliceBounds none (some 4) none ys.length = (((0 : Nat) : Int), ((4 : Nat) : Int), 1) := by rw [hyl]; decide
  have hb2 : sliceBounds (some 4) none none ys.length = (((4 : Nat) : Int), ((8 : Nat) : Int), 1) := by rw [hyl]; decide
  have hb3 : sliceBounds (some 4) none none zs.length = (((4 : Nat) : Int), ((8 : Nat) : Int), 1) := by rw [hzl]; decide
  have e1 : ((ss ++ os).drop 0).take (4 - 0) = ss := by rw [List.drop_zero, List.take_append_of_le_length (by omega), List.take_of_length_le (by omega)]
  have e2 : ((ss ++ os).drop 4).take (8 - 4) = os := by rw [List.drop_append_of_le_length (by omega), List.drop_eq_nil_of_le (by omega), List.nil_append, List.take_of_length_le (by omega)]
  have hy1 := e1 ▸ strs_sub hys 0 (4 - 0)
  have hy2 := e2 ▸ strs_sub hys 4 (8 - 4)
  have hz2 := e2 ▸ strs_sub hzs 4 (8 - 4)
  have hrB := restB_lt (ps := ps) (zs := zs) (sv := sv) (nt := nt) (oTab := oTab) (oH := oH) (oJ := oJ) (oX := oX) (oW := oW) (oS := oS) lt0
  walk_at "my open"
  repeat walk1
  refine Hold.mk ?_
  walk_at "my acomp"
  repeat walk1
  with_reducible rename News _ _ _ (_ :: _ :: _ :: _ :: _ :: _ :: _ :: _ :: _ :: _ :: _ :: _ :: _ :: _ :: _ :: _ :: _ :: _ :: _ :: _) => N1
  with_reducible rename Fr _ _ _ _ => F1
  refine' comp_line F1 (led3_in (a := a) N1) rfl (.head _) hy1 hsl rfl rfl (f := fun y => (cnt j ss y : Nat)) ?turn1 ?fin1
  case turn1 =>
    rintro i y ty I₁ oI₁ C oC D mC ys₁ n3 h tk E' hy hoC hmx hoff F N
    have hyo : y ∈ ops := hoA y (List.mem_append_left _ (List.mem_of_getElem? hy))
    have N2 := led3_in N
    dsimp only [LexA.led] at N
    repeat walk1
    refine Hold.mk ?_
    refine' counted_spec (k := 0) O ?hr3 hj hyo (fun z hz => hoA z (List.mem_append_left _ hz)) hss hsl ?S1 ?_
    case S1 => walk_at "my sit"
    case hr3 =>
      intro p hp
      rcases hoff p hp with h | h
      · exact h
      · repeat (rcases List.mem_cons.mp h with rfl | h; (exact (by k_ne)))
        cases h
    intro t₄ h₄ tk₄ n4 F₄ N₄
    exact ⟨_, _, _, _, rfl, rfl, F₄, N₄⟩
  case fin1 =>
    rintro D ys₁ n3 h₂ tk₂ hys₁ hlt₁ h₃ tk₃ F₃ N₃
    dsimp only
    have N2 := N₃
    dsimp only [LexA.led] at N₃
    repeat walk1
    refine Hold.mk ?_
    walk_at "my acomp"
    repeat walk1
    have hj2 : 1 - j = 0 ∨ 1 - j = 1 := by omega
    k_lt hlt₁
    with_reducible rename News _ _ _ (_ :: _ :: _ :: _ :: _ :: _ :: _ :: _ :: _ :: _ :: _ :: _ :: _ :: _ :: _ :: _ :: _ :: _ :: _ :: _ :: _ :: _) => N4
    with_reducible rename Fr _ _ _ _ => F4
    refine' comp_line F4 (led2_in (a := a) N4) rfl (.head _) hy2 hol rfl rfl (f := fun y => (cnt (1 - j) ss y : Nat)) ?turn2 ?fin2
    case turn2 =>
      rintro i y ty I₁ oI₁ C oC D₁ mC ys₂ n3 h tk E' hy hoC hmx hoff F N
      have hyo : y ∈ ops := hoA y (List.mem_append_right _ (List.mem_of_getElem? hy))
      have N2 := led3_in N
      dsimp only [LexA.led] at N
      repeat walk1
      refine Hold.mk ?_
      refine' counted_spec (k := 0) O ?hr4 hj2 hyo (fun z hz => hoA z (List.mem_append_left _ hz)) hss hsl ?S2 ?_
      case S2 => walk_at "my sit"
      case hr4 =>
        intro p hp
        rcases hoff p hp with h | h
        · exact h
        · repeat (rcases List.mem_cons.mp h with rfl | h; (exact (by k_ne)))
          cases h
      intro t₄ h₄ tk₄ n4 F₄ N₄
      exact ⟨_, _, _, _, rfl, rfl, F₄, N₄⟩
    case fin2 =>
      rintro D₂ ys₂ n4 h₂ tk₂ hys₂ hlt₂ h₃ tk₃ F₃ N₃
      dsimp only
      have N2 := N₃
      dsimp only [LexA.led] at N₃
      repeat walk1
      refine Hold.mk ?_
      walk_at "my ccomp"
      repeat walk1
      k_lt hlt₂
      have hl3 : (List.take (8 - 4) (List.drop 4 zs)).length = os.length := hz2.len_eq
      with_reducible rename News _ _ _ (_ :: _ :: _ :: _ :: _ :: _ :: _ :: _ :: _ :: _ :: _ :: _ :: _ :: _ :: _ :: _ :: _ :: _ :: _ :: _ :: _ :: _ :: _ :: _) => N5
      with_reducible rename Fr _ _ _ _ => F5
      refine' comp_list_fix F5 N5 rfl (.head _) rfl ⟨_, rfl⟩ rfl rfl (by omega) (fun i ys => IntsAre ys ((os.map fun y => (((ss.filter fun z => hgt (1 - j) z y).length : Nat) : Int)).take i) ∧ ys.length ≤ i) ⟨.nil, Nat.le_refl _⟩ (fun i ys h => h.2) ?turn3 ?fin3
      case turn3 =>
        rintro i v I₁ oI₁ C oC D₁ mC ys₃ h tk E' hi hv ⟨hI3, hle3⟩ hoC hmx hne hlt3 off F N
        rw [hl3] at hi
        obtain ⟨ty, ey⟩ := hz2.get i _ (List.getElem?_eq_getElem hi)
        rw [ey] at hv
        obtain rfl := Option.some.inj hv
        have hyo : os[i] ∈ ops := hoA _ (List.mem_append_right _ (List.getElem_mem hi))
        have hmt := map_take_succ (fun y => (((ss.filter fun z => hgt (1 - j) z y).length : Nat) : Int)) hi
        generalize os[i] = y at *
        repeat walk1
        refine Hold.mk ?_
        refine' height_spec (k := 0) (vs := sv) (n := nt) (l := T) ?hl4 hsv (fun z hz => hoA z (List.mem_append_left _ hz)) (by omega) hj2 hyo ?S3 ?_
        case S3 => walk_at "my sit"
        case hl4 => k_mem
        intro t₄ h₄ tk₄ F₄ N₄
        dsimp only
        refine' EltEnd.intro1 ?F ?N (by walk_at "my sub") off ⟨rfl, by rw [hmt]; exact intsAre_snoc hI3, by rw [List.length_append]; exact Nat.succ_le_succ hle3⟩
        case F => k_asm
        case N => exact N₄
      case fin3 =>
        rintro D₃ ys₃ h₂ tk₂ ⟨hI3, hle3⟩ hlt₃ h₃ tk₃ F₃ N₃
        rw [hl3, ← List.length_map (f := fun y => (((ss.filter fun z => hgt (1 - j) z y).length : Nat) : Int)), List.take_length] at hI3
        dsimp only
        k_lt hlt₃
        repeat walk1
        refine Hold.mk ?_
        refine' table_spec (k := 0) (ranks := ss.map fun y => ((cnt j ss y : Nat) : Int)) (bs := os.map fun y => ((cnt (1 - j) ss y : Nat) : Int)) ?hl5 hys₁ (by rw [List.length_map]; exact hsl) ?hl6 hys₂ (by rw [List.length_map]; exact hol) ?S5 ?_
        case S5 => walk_at "my sit"
        case hl5 => k_mem
        case hl6 => k_mem
        intro tv nt' hit D₄ h₄ tk₄ F₄ N₄ hlt₄
        dsimp only
        k_lt hlt₄
        repeat walk1
        with_reducible rename News _ _ _ ((_, W.listOf (List.toArray tv) _) :: _) => N6
        with_reducible rename Fr _ _ _ _ => F6
        refine' comp_range_fix (k := 5) (f := fun x => takenUp (tabOf (ordersOf (ss.map fun y => ((cnt j ss y : Nat) : Int))) (os.map fun y => ((cnt (1 - j) ss y : Nat) : Int))) x 5) F6 N6 rfl (by assumption) (by decide) (by decide) rfl rfl (by omega) ?turn6 ?fin6
        case turn6 =>
          rintro i ty I₁ oI₁ C oC D₅ mC ys₅ h tk E' hi hoC hmx hlt₅ F N
          repeat walk1
          refine Hold.mk ?_
          refine' taken_spec (k := 0) ?hl7 hit (tabOf_len _ _) (tab_bnd (by rw [List.length_map]; exact hsl)) (by omega) ?S7 ?_
          case S7 => walk_at "my sit"
          case hl7 => k_mem
          intro t₄ h₅ tk₅ F₅ N₅
          exact ⟨_, _, _, rfl, rfl, F₅, N₅⟩
        case fin6 =>
          rintro D₅ ys₅ h₅ tk₅ hys₅ hlt₅ h₆ tk₆ F₇ N₇
          dsimp only
          k_lt hlt₅
          repeat walk1
          with_reducible rename News _ _ _ ((_, LCg.lst ys₅) :: _) => N8
          with_reducible rename Fr _ _ _ _ => F8
          refine' comp_range_fix (k := 5) (f := fun x => takenUp (tabOf (ordersOf (ss.map fun y => ((cnt j ss y : Nat) : Int))) (os.map fun y => ((cnt (1 - j) ss y : Nat) : Int))) x 5) F8 N8 rfl (by assumption) (by decide) (by decide) rfl rfl (by omega) ?turn8 ?fin8
          case turn8 =>
            rintro i ty I₁ oI₁ C oC D₆ mC ys₆ h tk E' hi hoC hmx hlt₆ F N
            repeat walk1
            refine Hold.mk ?_
            refine' product_spec (k := 0) ?hl9 hI3 (by rw [List.length_map]; exact hol) ?hh9 (by omega) ?S9 ?_
            case S9 => walk_at "my sit"
            case hl9 => k_dflt k_mem
            case hh9 =>
              intro h hh
              obtain ⟨y, _, rfl⟩ := List.mem_map.mp hh
              have := List.length_filter_le (fun z => hgt (1 - j) z y) ss
              omega
            intro hs' hp hso t₄ h₅ tk₅ F₅ N₅
            exact ⟨_, _, _, congrArg (fun z => Value.int z _) (plain_eq hj hoA hnd hsl hol hp hso hi), rfl, F₅, N₅⟩
          case fin8 =>
            rintro D₆ ys₆ h₇ tk₇ hys₆ hlt₆ h₈ tk₈ F₉ N₉
            dsimp only
            k_lt hlt₆
            repeat walk1
            · with_reducible rename News _ _ _ ((_, LCg.lst ys₆) :: _) => N10
              refine' hret _ _ _ _ _ _ _ _ ?F11 (fun p hp => N10 p ?sub11) ?t11 ?h11 ?m11
              case F11 => k_asm
              case sub11 =>
                dsimp only [judgeLed, LexA.led] at hp
                repeat (rcases List.mem_cons.mp hp with rfl | hp; (walk_at "my at"))
                cases hp
              case t11 => assumption
              case h11 => assumption
              case m11 => walk_at "my look"
            · exfalso
              with_reducible rename (_ : List Int) ≠ _ => hne
              exact absurd rfl hne
end judge

end SP36
theorem rstP37 : True ∧ True := by
  w_top off
  first
    | (walk1; done)
    | exact ⟨trivial, trivial⟩
section SP37
section told
local macro_rules | `(tactic| walk_at "my room") => `(tactic| k_extra "my roomS")
variable {w : World} {A : Around} {L fa : Addr} {cd : Value} {h₀ : Heap} {m : Str → Option Value} {s : Shared} {Q : Flow → Shared → Prop} {E : Value → Shared → Prop} {ps : Array Value} {WA T : Addr} {zs sv : List Value} {nt : Nat} {oW oS : Obj} {ss ws : List Str} {news : List (Addr × Obj)}
def IntEnd2 (h₀ : Heap) (L : Addr) (m : Str → Option Value) (led : List (Addr × Obj)) (r : Int) (s : Shared) (v : Value) (s' : Shared) : Prop := ∃ t h' tk', v = .int r t ∧ s' = { s with heap := h', toks := tk' } ∧ Fr h₀ L h' m ∧ News h₀ L h' led
theorem comp_grid {env : Env} {x y : Str} {px py : Pos} {l1 l2 : Addr} {n1 k2 : Nat} {us vs : List Value} {xs ys : List Str} {f : Str → Str → Int} {elt iter iter2 : PySem.Expr} {pos : Pos} {clo : List (Str × Addr)} {scope : Scope} {Fin : Addr → List (Addr × Obj) → Shared → Prop} {E : Value → Shared → Prop}
    (F : Fr h₀ L s.heap m) (N : News h₀ L s.heap news) (hh : A.handled = none) (hl1 : (l1, W.listOf us.toArray n1) ∈ news) (hs1 : StrsAre us xs) (hl2 : (l2, W.listOf vs.toArray k2) ∈ news) (hs2 : StrsAre vs ys) (h1 : xs.length ≤ 10) (h2 : ys.length ≤ 10) (hx : scope.names.lookup x = some .local) (hy : scope.names.lookup y = some .local) (hxy : x ≠ y) (hkind : scope.kind = .function)
    (hit : ∀ C I oI oC D zs h tk E' (Q' : Value → Shared → Prop), Fr h₀ L h m → News h₀ L h ((I, oI) :: (C, oC) :: (D, LCg.lst zs) :: news) → (∀ tk', Q' (.ref l2) { s with heap := h, toks := tk' }) → wpAny (MM w) A (eval iter2 (compEnvC scope clo C env)) Q' E' { s with heap := h, toks := tk })
    (turn : ∀ (i j : Nat) (a b : Str) ta tb I oI I2 oI2 C oC D mC zs h tk E', xs[i]? = some a → ys[j]? = some b → LCg.NsObj oC mC → mC x = some (.str a ta) → mC y = some (.str b tb) → Fr h₀ L h m → News h₀ L h ((I2, oI2) :: (I, oI) :: (C, oC) :: (D, LCg.lst zs) :: news) →
      wpAny (MM w) A (eval elt (compEnvC scope clo C env)) (IntEnd2 h₀ L m ((I2, oI2) :: (I, oI) :: (C, oC) :: (D, LCg.lst zs) :: news) (f a b) { s with heap := h, toks := tk }) E' { s with heap := h, toks := tk })
    (fin : ∀ D zs h₂ tk₂, IntsAre zs (xs.flatMap fun a => ys.map (f a)) → (∀ p ∈ news, p.1 < D) → Fin D ((D, LCg.lst zs) :: news) { s with heap := h₂, toks := tk₂ }) :
    wpAny (MM w) A (pyIter (.ref l1)) (fun it s₂ => CompAt w A h₀ L m env clo scope (.Name x px) (B2 w A (.Name x px) iter (.Name y py) iter2 [] [] elt pos clo scope env) Fin it s₂) E s := by
  have hsz : (3000 : Nat) ≤ sizeLine := by decide
  have hu := hs1.len_eq
  have hv := hs2.len_eq
  refine comp_nest_list (x := x) (y := y) F N hh (.inl hl1) rfl ⟨_, rfl⟩ hx hy hxy hkind (fun i zs nw => nw = news ∧ IntsAre zs ((xs.take i).flatMap fun a => ys.map (f a))) ⟨rfl, .nil⟩ (.inr fun i zs nw h => by rw [h.1]; exact hl1) ?_ ?_
  · rintro i v I oI C oC D mC zs nw h tk E' hi hvi ⟨rfl, hz⟩ hoC hmx hne hlt off F N
    rw [List.size_toArray, hu] at hi
    obtain ⟨ta, ea⟩ := hs1.get i _ (List.getElem?_eq_getElem hi)
    rw [List.getElem?_toArray, ea] at hvi
    obtain rfl := Option.some.inj hvi
    refine hit C I oI oC D zs h tk E' _ F N fun tk' => ?_
    have hlz : ((xs.take i).flatMap fun a => ys.map (f a)).length = i * ys.length := by
      have : ∀ l : List Str, (l.flatMap fun a => ys.map (f a)).length = l.length * ys.length := by
        intro l
        induction l with
        | nil => simp
        | cons a r ih => rw [List.flatMap_cons, List.length_append, ih, List.length_map, List.length_cons, Nat.succ_mul, Nat.add_comm]
      rw [this, List.length_take]
      congr 1; omega
    refine wpAny_mono (src1_list (x := y) hh F N (.inl (.tail _ (.tail _ (.tail _ hl2)))) rfl ⟨_, rfl⟩) (fun it2 s₄ H2 => ⟨vs.toArray.size, _, _, oC, mC, zs, nw, (fun j zs nw' => nw' = nw ∧ IntsAre zs (((xs.take i).flatMap fun a => ys.map (f a)) ++ (ys.map (f xs[i])).take j)), H2, hoC, hmx, ⟨rfl, by simpa using hz⟩, off, ?_, ?_, ?_, ?_⟩) fun _ _ e => e
    · intro p hp
      rw [List.mem_singleton.mp hp]
      exact .inr fun j zs nw' h => by rw [h.1]; exact hl2
    · rintro j zs' nw' hj ⟨_, hz'⟩
      have h1 := hz'.length
      rw [List.length_append, hlz, List.length_take, List.length_map] at h1
      rw [h1]
      have : i * ys.length ≤ 10 * 10 := Nat.mul_le_mul (by omega) h2
      omega
    · rintro j u I2 oI2 oC' mC' zs' nw' h' tk'' E'' hj hu2 ⟨rfl, hz'⟩ hoC' hmx' hmy' hne' off' F' N'
      rw [List.size_toArray, hv] at hj
      obtain ⟨tb, eb⟩ := hs2.get j _ (List.getElem?_eq_getElem hj)
      rw [List.getElem?_toArray, eb] at hu2
      obtain rfl := Option.some.inj hu2
      refine wpAny_mono (turn i j _ _ ta tb I oI I2 oI2 C oC' D mC' zs' h' tk'' E'' (List.getElem?_eq_getElem hi) (List.getElem?_eq_getElem hj) hoC' hmx' hmy' F' N') (fun v s' hv' => ?_) fun _ _ x => x
      obtain ⟨t5, h5, tk5, rfl, rfl, F5, N5⟩ := hv'
      refine EltEnd2.intro F5 N5 _ (fun p hp => hp) off' ⟨rfl, ?_⟩
      rw [map_take_succ _ hj, ← List.append_assoc]
      exact intsAre_snoc hz'
    · rintro zs' nw' ⟨rfl, hz'⟩
      refine ⟨rfl, ?_⟩
      rw [List.size_toArray, hv, ← List.length_map (f := f xs[i]), List.take_length] at hz'
      rw [flat_take _ (List.getElem?_eq_getElem hi)]
      exact hz'
  · rintro D zs nw h₂ tk₂ ⟨rfl, hz⟩ off hlt
    rw [List.size_toArray, hu, List.take_length] at hz
    exact fin D zs h₂ tk₂ hz hlt
local macro_rules | `(tactic| walk_at "exec Assign cons ListComp") => `(tactic| k_extra "my z94")
local macro_rules | `(tactic| walk_at "eval ListComp") => `(tactic| k_extra "my z95")
local macro_rules | `(tactic| walk_at "call ref") => `(tactic| k_extra "my z96")
theorem law_told {body : List Stmt} {scope : Scope} (hb : body = lawBody.drop 11) (hsc : scope = lawScope) (hsv : StrsAre sv ss) (hzs : StrsAre zs ws) (hsl : ss.length = 4) (hwl : ws.length = 8) (hoS : ∀ y ∈ ss, y ∈ ops) (hoA : ∀ y ∈ ws, y ∈ ops)
    (d5 : oW.data = .cell (some (.ref WA))) (d6 : oS.data = .cell (some (.ref T))) (hT : (T, W.listOf sv.toArray nt) ∈ news) (hW : (WA, W.listOf zs.toArray 0) ∈ news) (hcW : (L + 1 + 1 + 1, oW) ∈ news) (hcS : (L + 1 + 1, oS) ∈ news) (h103 : (103, tabObj ps) ∈ news)
    (S : Sit w A (envOfC "law" scope L fa cd) L h₀ s.heap m news 15)
    (hQ : ∀ h' tk' m', Fr h₀ L h' m' → News h₀ L h' [(103, tabObj ps)] → Q (.ret (.bool true)) { s with heap := h', toks := tk' }) :
    wpAny (MM w) A (execs body (envOfC "law" scope L fa cd)) Q E s := by
  conv at hb => rhs; whnf
  conv at hsc => rhs; whnf
  subst hb
  subst hsc
  walk_at "my open"
  have hsz : (3000 : Nat) ≤ sizeLine := by decide
  repeat walk1
  refine Hold.mk ?_
  walk_at "my anest"
  repeat walk1
  with_reducible rename Fr _ _ _ _ => F1
  refine' comp_grid (f := beside) F1 (by assumption) rfl hT hsv hW hzs (by omega) (by omega) rfl rfl (by decide) rfl ?hit1 ?turn1 ?fin1
  case hit1 =>
    intro C I oI oC D zs h tk E' Q' F N hQ'
    repeat walk1
    exact hQ' _
  case turn1 =>
    rintro i j x y tx ty I oI I2 oI2 C oC D mC zs h tk E' hx hy hoC hmx hmy F N
    repeat walk1
    refine Hold.mk ?_
    refine' strcoll_spec (k := 0) ?S1 ?_
    case S1 => walk_at "my sit"
    intro t₄ h₄ tk₄ F₄ N₄
    exact ⟨_, _, _, congrArg (fun z => Value.int z _) (told_eq x (hoS x (List.mem_of_getElem? hx)) y (hoA y (List.mem_of_getElem? hy))), rfl, F₄, N₄⟩
  case fin1 =>
    rintro D zs₁ h₂ tk₂ hz₁ hlt₁ h₃ tk₃ F₃ N₃
    dsimp only
    repeat walk1
    with_reducible rename Fr _ _ _ _ => F5
    refine' comp_grid (f := beside) F5 N₃ rfl (.tail _ hT) hsv (.tail _ hW) hzs (by omega) (by omega) rfl rfl (by decide) rfl ?hit2 ?turn2 ?fin2
    case hit2 =>
      intro C I oI oC D zs h tk E' Q' F N hQ'
      repeat walk1
      exact hQ' _
    case turn2 =>
      rintro i j x y tx ty I oI I2 oI2 C oC D mC zs h tk E' hx hy hoC hmx hmy F N
      have hxo := ops_plain x (hoS x (List.mem_of_getElem? hx))
      have hyo := ops_plain y (hoA y (List.mem_of_getElem? hy))
      repeat walk1
      refine Hold.mk ?_
      refine' beside_spec (k := 0) hxo.1 hyo.1 hxo.2 hyo.2 ?S2 ?_
      case S2 => walk_at "my sit"
      intro t₄ h₄ tk₄ F₄ N₄
      exact ⟨_, _, _, rfl, rfl, F₄, N₄⟩
    case fin2 =>
      rintro D₂ zs₂ h₄ tk₄ hz₂ hlt₂ h₅ tk₅ F₆ N₆
      dsimp only
      repeat walk1
      rw [show ∀ l : List Int, decide (l = l) = true from fun l => decide_eq_true rfl]
      exact hQ _ _ _ (by assumption) fun p hp => by rw [List.mem_singleton.mp hp]; exact N₆ _ (.tail _ (.tail _ h103))
end told

end SP37
theorem rstP38 : True ∧ True := by
  w_top off
  first
    | (walk1; done)
    | exact ⟨trivial, trivial⟩
section SP38
section stage3
local macro_rules | `(tactic| walk_at "my room") => `(tactic| k_extra "my roomS")
variable {w : World} {A : Around} {L fa : Addr} {cd : Value} {h₀ : Heap} {m : Str → Option Value} {s : Shared} {Q : Flow → Shared → Prop} {E : Value → Shared → Prop} {a : LexA} {ps : Array Value} {WA T RD : Addr} {zs sv ys : List Value} {nt n n2 : Nat} {line : Int} {oTab oH oJ oX oW oS : Obj} {v1 v2 v3 : Option Value} {ss os : List Str} {tl : Tok}
abbrev PushJ (a : LexA) (n : Nat) (line : Int) (tl : Tok) (SL : Addr) (sl : List Value) (rest : List (Addr × Obj)) (RD : Addr) (i : Nat) (m' : Str → Option Value) (nw : List (Addr × Obj)) : Prop :=
  ∃ n2, nw = a.led [] n line tl ((a.p2, W.listOf (List.toArray (sl.take i)) n2) :: (SL, W.listOf sl.toArray 0) :: rest) ∧ m' "read" = some (.ref RD)
theorem push_src {SL : Addr} {sl : List Value} {rest : List (Addr × Obj)} {i : Nat} {m' : Str → Option Value} {nw : List (Addr × Obj)} (h : PushJ a n line tl SL sl rest RD i m' nw) : (SL, W.listOf sl.toArray 0) ∈ nw := by
  obtain ⟨n2, rfl, _⟩ := h
  exact .tail _ (.tail _ (.tail _ (.tail _ (.tail _ (.tail _ (.tail _ (.tail _ (.tail _ (.head _)))))))))
abbrev JudgeJ (a : LexA) (n : Nat) (line : Int) (tl : Tok) (TU : Addr) (oTU : Obj) (SL : Addr) (sl : List Value) (RD : Addr) (ys : List Value) (ps : Array Value) (WA T : Addr) (zs sv : List Value) (nt : Nat) (L : Addr) (oX oW oS : Obj) (i : Nat) (m' : Str → Option Value) (nw : List (Addr × Obj)) : Prop :=
  ∃ n2 oTab oH v1 v2, nw = a.led [] n line tl ((a.p2, W.listOf sl.toArray n2) :: (TU, oTU) :: (SL, W.listOf sl.toArray 0) :: (RD, LCg.lst ys) :: restB ps WA T zs sv nt [(L + 1 + 1 + 1 + 1 + 1 + 1 + 1, oTab), (L + 1 + 1 + 1 + 1 + 1 + 1, oH), (L + 1 + 1 + 1 + 1, oX), (L + 1 + 1 + 1, oW), (L + 1 + 1, oS)]) ∧ oTab.data = .cell v1 ∧ oH.data = .cell v2 ∧ m' "read" = some (.ref RD)
theorem judge_src {TU : Addr} {oTU : Obj} {SL : Addr} {sl : List Value} {i : Nat} {m' : Str → Option Value} {nw : List (Addr × Obj)} (h : JudgeJ a n line tl TU oTU SL sl RD ys ps WA T zs sv nt L oX oW oS i m' nw) : (TU, oTU) ∈ nw := by
  obtain ⟨n2, oTab, oH, v1, v2, rfl, _⟩ := h
  exact .tail _ (.tail _ (.tail _ (.tail _ (.tail _ (.tail _ (.tail _ (.tail _ (.tail _ (.head _)))))))))
local macro_rules | `(tactic| walk_at "my at") => `(tactic| k_extra "my z97")
local macro_rules | `(tactic| walk_at "exec Assign cons ListComp") => `(tactic| k_extra "my z98")
local macro_rules | `(tactic| walk_at "exec For Name Subscript") => `(tactic| k_extra "my z99")
local macro_rules | `(tactic| walk_at "exec For Name Tuple") => `(tactic| k_extra "my z100")
local macro_rules | `(tactic| walk_at "call ref") => `(tactic| k_extra "my z101")
local macro_rules | `(tactic| walk_at "subscriptTail Name Slice ref ref") => `(tactic| (k_extra "my z102"; intro D' h' F' N' l1'; (try k_lt l1'); (try dsimp only)))
theorem judge_in {sl : List Value} {SL TU : Addr} {oTU : Obj} {h : Heap} (N : News h₀ L h ((TU, oTU) :: a.led [] n line tl ((a.p2, W.listOf sl.toArray n2) :: (SL, W.listOf sl.toArray 0) :: (RD, LCg.lst ys) :: restB ps WA T zs sv nt (lawCells L oTab oH oJ oX oW oS)))) :
    News h₀ L h ((L + 1 + 1 + 1 + 1 + 1, oJ) :: a.led [] n line tl ((a.p2, W.listOf sl.toArray n2) :: (TU, oTU) :: (SL, W.listOf sl.toArray 0) :: (RD, LCg.lst ys) :: restB ps WA T zs sv nt [(L + 1 + 1 + 1 + 1 + 1 + 1 + 1, oTab), (L + 1 + 1 + 1 + 1 + 1 + 1, oH), (L + 1 + 1 + 1 + 1, oX), (L + 1 + 1 + 1, oW), (L + 1 + 1, oS)])) := by
  intro p hp
  refine N p ?_
  have hp' : p ∈ (L + 1 + 1 + 1 + 1 + 1, oJ) :: (a.led [] n line tl [] ++ ((a.p2, W.listOf sl.toArray n2) :: (TU, oTU) :: (SL, W.listOf sl.toArray 0) :: (RD, LCg.lst ys) :: restB ps WA T zs sv nt [(L + 1 + 1 + 1 + 1 + 1 + 1 + 1, oTab), (L + 1 + 1 + 1 + 1 + 1 + 1, oH), (L + 1 + 1 + 1 + 1, oX), (L + 1 + 1 + 1, oW), (L + 1 + 1, oS)])) := hp
  show p ∈ (TU, oTU) :: (a.led [] n line tl [] ++ ((a.p2, W.listOf sl.toArray n2) :: (SL, W.listOf sl.toArray 0) :: (RD, LCg.lst ys) :: restB ps WA T zs sv nt (lawCells L oTab oH oJ oX oW oS)))
  have key : ∀ q, q ∈ (a.p2, W.listOf sl.toArray n2) :: (SL, W.listOf sl.toArray 0) :: (RD, LCg.lst ys) :: restB ps WA T zs sv nt (lawCells L oTab oH oJ oX oW oS) → q ∈ (TU, oTU) :: (a.led [] n line tl [] ++ ((a.p2, W.listOf sl.toArray n2) :: (SL, W.listOf sl.toArray 0) :: (RD, LCg.lst ys) :: restB ps WA T zs sv nt (lawCells L oTab oH oJ oX oW oS))) := fun q hq => .tail _ (List.mem_append_right _ hq)
  rcases List.mem_cons.mp hp' with rfl | hp'
  · exact key _ (by walk_at "my at")
  rcases List.mem_append.mp hp' with hp' | hp'
  · exact .tail _ (List.mem_append_left _ hp')
  simp only [List.mem_cons, List.not_mem_nil, or_false] at hp'
  rcases hp' with rfl | rfl | rfl | rfl | rfl | rfl | rfl | rfl | rfl | rfl | rfl | rfl
  · exact key _ (by walk_at "my at")
  · exact .head _
  all_goals exact key _ (by walk_at "my at")
theorem law_stage3 {body : List Stmt} {scope : Scope} (hb : body = lawBody.drop 9) (hsc : scope = lawScope) (O : LexOk w a) (hys : StrsAre ys (ss ++ os)) (hsv : StrsAre sv ss) (hzs : StrsAre zs (ss ++ os)) (hsl : ss.length = 4) (hol : os.length = 4) (hoA : ∀ y ∈ ss ++ os, y ∈ ops) (hnd : ss.Nodup)
    (d1 : oTab.data = .cell v1) (d2 : oH.data = .cell v2) (d3 : oJ.data = .cell v3) (d4 : oX.data = .cell (some (.ref a.x2))) (d5 : oW.data = .cell (some (.ref WA))) (d6 : oS.data = .cell (some (.ref T))) (hm : m "read" = some (.ref RD))
    (lt0 : @LT.lt Nat _ 103 L ∧ @LT.lt Nat _ (L + 7) T ∧ @LT.lt Nat _ T WA ∧ @LT.lt Nat _ WA a.D ∧ @LT.lt Nat _ WA a.cell) (ltR : @LT.lt Nat _ a.p2 RD)
    (S : Sit w A (envOfC "law" scope L fa cd) L h₀ s.heap m (a.led [] n line tl ((a.p2, W.listOf ([] : List Value).toArray n2) :: (RD, LCg.lst ys) :: restB ps WA T zs sv nt (lawCells L oTab oH oJ oX oW oS))) 20)
    (hQ : ∀ h' tk' m', Fr h₀ L h' m' → News h₀ L h' [(103, tabObj ps)] → Q (.ret (.bool true)) { s with heap := h', toks := tk' }) :
    wpAny (MM w) A (execs body (envOfC "law" scope L fa cd)) Q E s := by
  conv at hb => rhs; whnf
  conv at hsc => rhs; whnf
  subst hb
  subst hsc
  dsimp only [LexA.led] at S
  have hlt := O.lt
  have hrk := O.ranked0 lt0 (.cons ltR (.one _))
  have hsz : (3000 : Nat) ≤ sizeLine := by decide
  have hwl : (ss ++ os).length = 8 := by rw [List.length_append, hsl, hol]
  have hyl : ys.length = 8 := hys.len_eq.trans hwl
  have hzl : zs.length = 8 := hzs.len_eq.trans hwl
  have hb1 : sliceBounds none (some 4) none ys.length = (((0 : Nat) : Int), ((4 : Nat) : Int), 1) := by rw [hyl]; decide
  have hb2 : sliceBounds (some 4) none none ys.length = (((4 : Nat) : Int), ((8 : Nat) : Int), 1) := by rw [hyl]; decide
  have hb3 : sliceBounds (some 4) none none zs.length = (((4 : Nat) : Int), ((8 : Nat) : Int), 1) := by rw [hzl]; decide
  have e1 : ((ss ++ os).drop 0).take (4 - 0) = ss := by rw [List.drop_zero, List.take_append_of_le_length (by omega), List.take_of_length_le (by omega)]
  have e2 : ((ss ++ os).drop 4).take (8 - 4) = os := by rw [List.drop_append_of_le_length (by omega), List.drop_eq_nil_of_le (by omega), List.nil_append, List.take_of_length_le (by omega)]
  have hy1 := e1 ▸ strs_sub hys 0 (4 - 0)
  have hy2 := e2 ▸ strs_sub hys 4 (8 - 4)
  have hz2 := e2 ▸ strs_sub hzs 4 (8 - 4)
  have hrB := restB_lt (ps := ps) (zs := zs) (sv := sv) (nt := nt) (oTab := oTab) (oH := oH) (oJ := oJ) (oX := oX) (oW := oW) (oS := oS) lt0
  walk_at "my open"
  repeat walk1
  refine Hold.mk ?_
  refine wpAny_For ?_
  repeat walk1
  with_reducible rename News _ _ _ (_ :: _ :: _ :: _ :: _ :: _ :: _ :: _ :: _ :: _ :: _ :: _ :: _ :: _ :: _ :: _ :: _ :: _ :: _) => N1
  with_reducible rename Fr _ _ _ _ => F1
  generalize List.take (4 - 0) (List.drop 0 ys) = sl at *
  have hsl4 : sl.length = 4 := hy1.len_eq.trans hsl
  refine' for_list F1 (led_in (a := a) N1) rfl (.inl (.tail _ (.tail _ (.tail _ (.tail _ (.tail _ (.tail _ (.tail _ (.tail _ (.tail _ (.head _))))))))))) rfl ⟨_, rfl⟩ rfl rfl rfl (PushJ a n line tl _ _ _ RD) ⟨n2, rfl, hm⟩ (.inr fun i m' nw h => push_src h) ?turn1 ?done1
  case turn1 =>
    rintro i v I oI m₁ nw h tk E' hi hv ⟨n3, rfl, hmr⟩ hlt1 off F N
    rw [List.size_toArray, hsl4] at hi
    obtain ⟨ty, ey⟩ := hy1.get i _ (List.getElem?_eq_getElem (show i < ss.length by omega))
    have hv' := hv
    rw [List.getElem?_toArray, ey] at hv'
    obtain rfl := Option.some.inj hv'
    have e3 : sl.take (i + 1) = sl.take i ++ [.str (ss[i]'(by omega)) ty] := by rw [List.take_add_one, ey]; rfl
    have hlz : (sl.take i ++ [Value.str (ss[i]'(by omega)) ty]).length ≤ sizeLine := by rw [← e3, List.length_take]; omega
    generalize ss[i]'(by omega) = y at *
    have hpI := hlt1 (a.p2, _) (.tail _ (.tail _ (.tail _ (.tail _ (.tail _ (.tail _ (.tail _ (.tail _ (.head _)))))))))
    have N2 := led_in N
    dsimp only [LexA.led] at N
    repeat walk1
    refine Hold.mk ?_
    try dsimp only [List.nil_append, List.append_nil, List.cons_append]
    refine wpAny_call ?_
    refine' push_spec (k := 0) O ?hr3 hlz ?S1 ?_
    case S1 => walk_at "my sit"
    case hr3 =>
      intro p hp
      rcases List.mem_cons.mp hp with rfl | hp
      · exact Ne.symm (Nat.ne_of_lt hpI)
      rcases List.mem_cons.mp hp with rfl | hp
      · exact (by k_ne)
      rcases List.mem_cons.mp hp with rfl | hp
      · exact (by k_ne)
      · exact neN (by have := (hrB p hp).1; omega)
    intro h₄ tk₄ F₄ N₄
    dsimp only
    repeat walk1
    refine' LoopEnd.next F₄ N₄ _ (fun p hp => led_out hp) ?off5 ⟨_, by rw [e3], ?lk5⟩
    case off5 => exact led_addr (P := fun x => ∀ b ∈ [I], x ≠ b) fun p hp b hb => by rw [List.mem_singleton.mp hb]; exact off p hp
    case lk5 => walk_at "my look"
  case done1 =>
    rintro m₁ nw h tk ⟨n3, rfl, hmr⟩ F N
    rw [List.size_toArray, hsl4, List.take_of_length_le (by omega)] at N
    dsimp only
    have N2 := N
    dsimp only [LexA.led] at N
    repeat walk1
    refine Hold.mk ?_
    refine wpAny_For ?_
    repeat walk1
    with_reducible rename News _ _ _ (_ :: _ :: _ :: _ :: _ :: _ :: _ :: _ :: _ :: _ :: _ :: _ :: _ :: _ :: _ :: _ :: _ :: _ :: _ :: _) => N3
    with_reducible rename Fr _ _ _ _ => F3
    refine' for_tuple_cell F3 (judge_in (a := a) N3) rfl d3 (.tail _ (.tail _ (.tail _ (.tail _ (.tail _ (.tail _ (.tail _ (.tail _ (.tail _ (.head _)))))))))) rfl ⟨_, rfl⟩ rfl rfl rfl rfl ?off6 (JudgeJ a n line tl _ _ _ sl RD ys ps WA T zs sv nt L oX oW oS) ⟨n3, oTab, oH, v1, v2, rfl, d1, d2, hmr⟩ (fun i m' nw h => judge_src h) ?turn6 ?done6
    case off6 =>
      intro p hp
      dsimp only [LexA.led] at hp
      repeat (rcases List.mem_cons.mp hp with rfl | hp; (exact (by k_ne)))
      cases hp
    case turn6 =>
      rintro i v I oI oc m₁ nw h tk E' hi hv ⟨n4, oTab', oH', v1', v2', rfl, d1', d2', hmr⟩ hd hlt6 hcI off F N
      have hTI : @LT.lt Nat _ _ _ := hlt6 (_, _) (.tail _ (.tail _ (.tail _ (.tail _ (.tail _ (.tail _ (.tail _ (.tail _ (.tail _ (.head _))))))))))
      obtain ⟨j, tj, rfl, hj⟩ : ∃ j t, v = .int j t ∧ (j = 0 ∨ j = 1) := by
        match i, hi, hv with
        | 0, _, hv => cases hv; exact ⟨0, _, rfl, .inl rfl⟩
        | 1, _, hv => cases hv; exact ⟨1, _, rfl, .inr rfl⟩
      refine' judge_turn rfl rfl O hys hsv hzs hsl hol hoA hnd hj d1' d2' hd d4 d5 d6 hmr lt0 hy1 ?ltR7 ?S7 ?hret7
      case S7 => walk_at "my sit"
      case ltR7 => exact ⟨ltR, by omega, by omega, by (try dsimp only at hTI); omega⟩
      case hret7 =>
        intro n5 oTab'' oH'' v1'' v2'' h' tk' m' F' N' dT dH hm'
        refine' CellEnd.next F' N' _ (fun p hp => hp) hd ?off8 ⟨n5, oTab'', oH'', v1'', v2'', rfl, dT, dH, hm'⟩
        case off8 =>
          intro p hp
          (try dsimp only at hTI)
          (try dsimp only [judgeLed, LexA.led] at hp)
          rcases List.mem_cons.mp hp with rfl | hp
          · exact ⟨(by k_ne), (by k_ne)⟩
          repeat (rcases List.mem_cons.mp hp with rfl | hp; (exact ⟨(by k_ne), (by k_ne)⟩))
          cases hp
    case done6 =>
      rintro m₁ nw oc v h tk ⟨n4, oTab', oH', v1', v2', rfl, d1', d2', hmr⟩ hd F N
      dsimp only
      refine' law_told rfl rfl hsv hzs hsl hwl (fun y hy => hoA y (List.mem_append_left _ hy)) hoA d5 d6 ?a1 ?a2 ?a3 ?a4 ?a5 ?S9 (fun h' tk' m' F' N' => hQ h' tk' m' F' N')
      case S9 => walk_at "my sit"
      case a1 => ((try dsimp only [LexA.led]); walk_at "my at")
      case a2 => ((try dsimp only [LexA.led]); walk_at "my at")
      case a3 => ((try dsimp only [LexA.led]); walk_at "my at")
      case a4 => ((try dsimp only [LexA.led]); walk_at "my at")
      case a5 => ((try dsimp only [LexA.led]); walk_at "my at")
end stage3

end SP38
theorem rstP39 : True ∧ True := by
  w_top off
  first
    | (walk1; done)
    | exact ⟨trivial, trivial⟩
section SP39
section stage2
local macro_rules | `(tactic| walk_at "my room") => `(tactic| k_extra "my roomS")
variable {w : World} {A : Around} {L fa : Addr} {cd : Value} {h₀ : Heap} {m : Str → Option Value} {s : Shared} {Q : Flow → Shared → Prop} {E : Value → Shared → Prop} {a : LexA} {ps : Array Value} {WA T : Addr} {zs sv : List Value} {nt : Nat} {oTab oH oJ oX oW oS : Obj} {v1 v2 v3 : Option Value} {ss os : List Str} {ds : List Int} {x : Str} {tx tl : Tok} {vals : List Value}
local macro_rules | `(tactic| walk_at "exec Assign cons ListComp") => `(tactic| k_extra "my z103")
local macro_rules | `(tactic| walk_at "exec For Name Subscript") => `(tactic| k_extra "my z104")
local macro_rules | `(tactic| walk_at "exec For Name Tuple") => `(tactic| k_extra "my z105")
local macro_rules | `(tactic| walk_at "call ref") => `(tactic| k_extra "my z106")
local macro_rules | `(tactic| walk_at "execs cons") => `(tactic| k_extra "my z107")
local macro_rules | `(tactic| walk_at "compareOp NotEq ref ref") => `(tactic| k_extra "my z108")
theorem law_stage2 {body : List Stmt} {scope : Scope} (hb : body = lawBody.drop 7) (hsc : scope = lawScope) (O : LexOk w a) (hC : CodeHd h₀ 107 103) (hsv : StrsAre sv ss) (hzs : StrsAre zs (ss ++ os)) (hsl : ss.length = 4) (hol : os.length = 4) (hoA : ∀ y ∈ ss ++ os, y ∈ ops) (hnd : ss.Nodup) (hx : x.cps.toList = wcps (ss ++ os) ds) (hdl : ds.length = 8)
    (hvals : StrsAre vals (x.cps.toList.map chr)) (d1 : oTab.data = .cell v1) (d2 : oH.data = .cell v2) (d3 : oJ.data = .cell v3) (d4 : oX.data = .cell (some (.ref a.x2))) (d5 : oW.data = .cell (some (.ref WA))) (d6 : oS.data = .cell (some (.ref T))) (hm : m "text" = some (.str x tx))
    (lt0 : @LT.lt Nat _ 103 L ∧ @LT.lt Nat _ (L + 7) T ∧ @LT.lt Nat _ T WA ∧ @LT.lt Nat _ WA a.D ∧ @LT.lt Nat _ WA a.cell)
    (S : Sit w A (envOfC "law" scope L fa cd) L h₀ s.heap m (a.led vals.reverse 0 1 tl ((a.p2, W.listOf ([] : List Value).toArray 0) :: restB ps WA T zs sv nt (lawCells L oTab oH oJ oX oW oS))) 20)
    (hQ : ∀ h' tk' m', Fr h₀ L h' m' → News h₀ L h' [(103, tabObj ps)] → Q (.ret (.bool true)) { s with heap := h', toks := tk' }) :
    wpAny (MM w) A (execs body (envOfC "law" scope L fa cd)) Q E s := by
  conv at hb => rhs; whnf
  conv at hsc => rhs; whnf
  subst hb
  subst hsc
  dsimp only [LexA.led] at S
  have hlt := O.lt
  have hrk := O.ranked
  walk_at "my open"
  repeat walk1
  refine Hold.mk ?_
  walk_at "my acomp"
  repeat walk1
  have hsz : (3000 : Nat) ≤ sizeLine := by decide
  have hwl : (ss ++ os).length = 8 := by rw [List.length_append, hsl, hol]
  have hzl : zs.length = 8 := hzs.len_eq.trans hwl
  have hrB := restB_lt (ps := ps) (zs := zs) (sv := sv) (nt := nt) (oTab := oTab) (oH := oH) (oJ := oJ) (oX := oX) (oW := oW) (oS := oS) lt0
  obtain ⟨q1, q2, q3, q4, q5, q6, q7, q8⟩ := hlt
  refine' comp_list (lo := W.listOf zs.toArray 0) ?F1 ?N1 rfl (.inl ?hl1) rfl ⟨_, rfl⟩ rfl rfl (by rw [List.size_toArray]; omega) (fun i ys nw => ∃ vals' n' line' tl', nw = a.led (List.reverse vals') n' line' tl' ((a.p2, W.listOf ([] : List Value).toArray 0) :: restB ps WA T zs sv nt (lawCells L oTab oH oJ oX oW oS)) ∧ StrsAre vals' ((wcps ((ss ++ os).drop i) (ds.drop i)).map chr) ∧ line' = 1 + nl x.cps.toList - nl (wcps ((ss ++ os).drop i) (ds.drop i)) ∧ StrsAre ys ((ss ++ os).take i) ∧ ys.length ≤ i) ⟨vals, 0, 1, tl, rfl, by rw [List.drop_zero, List.drop_zero, ← hx]; exact hvals, by rw [List.drop_zero, List.drop_zero, ← hx]; omega, .nil, Nat.le_refl _⟩ (fun i ys nw ⟨_, _, _, _, _, _, _, _, h⟩ => h) (.inr ?src1) ?turn1 ?fin1
  case F1 => k_asm
  case N1 => k_asm
  case hl1 => k_mem
  case src1 =>
    rintro i ys nw ⟨vals', n', line', tl', rfl, _⟩
    exact .tail _ (.tail _ (.tail _ (.tail _ (.tail _ (.tail _ (.tail _ (.tail _ (.tail _ (.tail _ (.head _))))))))))
  case turn1 =>
    rintro i v I oI C oC D mC ys nw h tk E' hi hv ⟨vals', n', line', tl', rfl, hvs, hline, hys, hyl⟩ hoC hmx hne hlt off F N
    rw [List.size_toArray, hzl] at hi
    have hi8 : i < (ss ++ os).length := by rw [hwl]; exact hi
    have hid : i < ds.length := by rw [hdl]; exact hi
    have hcs := wcps_drop hi8 hid
    have hT := tok_piece (hoA _ (List.getElem_mem hi8)) (ds[i]) (wcps ((ss ++ os).drop (i + 1)) (ds.drop (i + 1)))
    rw [← hcs] at hT
    have hCD := off (a.D, _) (.head _)
    have hCd2 := off (a.d2, _) (.tail _ (.tail _ (.tail _ (.tail _ (.head _)))))
    have N2 := led3_in N
    have hr : ∀ p ∈ (I, oI) :: (C, oC) :: (D, LCg.lst ys) :: restB ps WA T zs sv nt (lawCells L oTab oH oJ oX oW oS), p.1 ≠ a.D := by
      intro p hp
      rcases List.mem_cons.mp hp with rfl | hp
      · exact Ne.symm hCD.2.2
      rcases List.mem_cons.mp hp with rfl | hp
      · exact Ne.symm hCD.1
      rcases List.mem_cons.mp hp with rfl | hp
      · exact Ne.symm hCD.2.1
      · exact neN (by have := (hrB p hp).1; omega)
    have hr2 : ∀ p ∈ (I, oI) :: (C, oC) :: (D, LCg.lst ys) :: restB ps WA T zs sv nt (lawCells L oTab oH oJ oX oW oS), p.1 ≠ a.d2 := by
      intro p hp
      rcases List.mem_cons.mp hp with rfl | hp
      · exact Ne.symm hCd2.2.2
      rcases List.mem_cons.mp hp with rfl | hp
      · exact Ne.symm hCd2.1
      rcases List.mem_cons.mp hp with rfl | hp
      · exact Ne.symm hCd2.2.1
      · exact neN (by have := (hrB p hp).1; omega)
    dsimp only [LexA.led] at N
    repeat walk1
    refine Hold.mk ?_
    dsimp only [List.nil_append, List.append_nil, List.cons_append]
    refine wpAny_call ?_
    refine' get_tok (k := 0) hT O hC hr hr2 hvs ?z ?S ?_
    case S => walk_at "my sit"
    case z =>
      have h1 := wcps_len ((ss ++ os).drop i) (ds.drop i) fun y hy => hoA y (List.mem_of_mem_drop hy)
      rw [List.length_drop, hwl] at h1
      omega
    intro t₄ h₄ tk₄ vals₄ n₄ tl₄ F₄ hv₄ N₄
    dsimp only
    refine' EltEnd.intro F₄ N₄ _ (fun p hp => led3_out hp) ?off5 ⟨vals₄, n₄, _, tl₄, rfl, hv₄, ?ln5, ?st5, ?le5⟩
    case off5 => exact led_addr (P := fun x => x ≠ C ∧ x ≠ D ∧ ∀ b ∈ [I], x ≠ b) (off_one off)
    case ln5 => rw [hline]; omega
    case st5 =>
      rw [List.take_add_one, List.getElem?_eq_getElem hi8]
      exact strs_append hys (.cons _ _ .nil)
    case le5 => rw [List.length_append]; exact Nat.succ_le_succ hyl
  case fin1 =>
    rintro D ys nw h₂ tk₂ ⟨vals', n', line', tl', rfl, hvs, hline, hys, hyl⟩ off hlt h₃ tk₃ F₃ N₃
    dsimp only
    rw [List.size_toArray, hzl] at hvs hline hys hyl
    have e8 : (ss ++ os).drop 8 = [] := List.drop_eq_nil_of_le (by omega)
    rw [e8] at hvs hline
    cases hvs
    have e9 : (ss ++ os).take 8 = ss ++ os := List.take_of_length_le (by omega)
    rw [e9] at hys
    have hline : line' = 1 + nl x.cps.toList := by rw [hline]; show _ - nl [] = _; simp [nl]
    subst hline
    have N5 := led_in N₃
    clear N₃
    have N4 := N5
    dsimp only [LexA.led, List.reverse_nil] at N4
    have hDD := off (a.D, _) (.head _)
    have hDd2 := off (a.d2, _) (.tail _ (.tail _ (.tail _ (.tail _ (.head _)))))
    have hr : ∀ p ∈ (D, LCg.lst ys) :: restB ps WA T zs sv nt (lawCells L oTab oH oJ oX oW oS), p.1 ≠ a.D := by
      intro p hp
      rcases List.mem_cons.mp hp with rfl | hp
      · exact Ne.symm hDD
      · exact neN (by have := (hrB p hp).1; omega)
    have hr2 : ∀ p ∈ (D, LCg.lst ys) :: restB ps WA T zs sv nt (lawCells L oTab oH oJ oX oW oS), p.1 ≠ a.d2 := by
      intro p hp
      rcases List.mem_cons.mp hp with rfl | hp
      · exact Ne.symm hDd2
      · exact neN (by have := (hrB p hp).1; omega)
    repeat walk1
    refine Hold.mk ?_
    dsimp only [List.nil_append, List.append_nil, List.cons_append]
    refine wpAny_call ?_
    refine' get_tok (k := 0) (vals := []) .nil O hC hr hr2 .nil (by decide) ?S2 ?_
    case S2 => walk_at "my sit"
    intro t₄ h₄ tk₄ vals₄ n₄ tl₄ F₄ hv₄ N₆
    cases hv₄
    have N7 := N₆
    dsimp only [LexA.led, List.reverse_nil] at N7
    dsimp only
    repeat walk1
    next =>
      exfalso
      with_reducible rename (_ : Int) ≠ _ => hne
      exact hne (by rw [count_nl]; simp [nl])
    repeat walk1
    refine Hold.mk ?_
    have hRD : @LT.lt Nat _ _ _ := hlt (a.p2, _) (.tail _ (.tail _ (.tail _ (.tail _ (.tail _ (.tail _ (.tail _ (.tail _ (.head _)))))))))
    refine' law_stage3 rfl rfl O hys hsv hzs hsl hol hoA hnd d1 d2 d3 d4 d5 d6 ?lk lt0 hRD ?S5 (fun h' tk' m' F' N' => hQ h' tk' m' F' N')
    case S5 => walk_at "my sit"
    case lk => walk_at "my look"
end stage2

end SP39
theorem rstP40 : True ∧ True := by
  w_top off
  first
    | (walk1; done)
    | exact ⟨trivial, trivial⟩
section SP40
section stage1
local macro_rules | `(tactic| walk_at "my room") => `(tactic| k_extra "my roomS")
theorem news_pick {h₀ h : Heap} {L : Addr} {l : List (Addr × Obj)} (is : List Nat) (N : News h₀ L h l) : News h₀ L h (is.filterMap (l[·]?)) := fun p hp => by
  obtain ⟨i, _, e⟩ := List.mem_filterMap.mp hp
  exact N p (List.mem_of_getElem? e)
local macro_rules | `(tactic| walk_at "call ref") => `(tactic| (k_extra "my z109"; intro vs' hs' D' h' tk' F' N' l1; (try k_lt l1); (try dsimp only); (try k_sweep)))
local macro_rules | `(tactic| walk_at "call ref") => `(tactic| (k_extra "my z110"; intro x' hx' t' h' tk' F' N'; (try dsimp only); (try k_sweep)))
local macro_rules | `(tactic| walk_at "call ref") => `(tactic| k_extra "my z111")
local macro_rules | `(tactic| walk_at "call builtin:len") => `(tactic| (k_extra "my z112"; intro t' tk'; (try dsimp only)))
local macro_rules | `(tactic| walk_at "binaryOp Mod int int") => `(tactic| k_extra "my z113")
local macro_rules | `(tactic| walk_at "call builtin:list.pop") => `(tactic| (k_extra "my z114"; intro h' F' N'; (try dsimp only)))
local macro_rules | `(tactic| walk_at "call builtin:list.append") => `(tactic| (k_extra "my z115"; intro h' F' N'; (try dsimp only)))
local macro_rules | `(tactic| walk_at "eval ListComp") => `(tactic| k_extra "my z116")
local macro_rules | `(tactic| walk_at "subscriptTail") => `(tactic| (k_extra "my z117"; intro y' t' hy'; (try dsimp only)))
local macro_rules | `(tactic| walk_at "binaryOp Add ref ref") => `(tactic| (k_extra "my z118"; intro D' zs' h' F' N' l1 hs'; (try k_lt l1); (try dsimp only); (try k_sweep)))
local macro_rules | `(tactic| walk_at "call builtin:sum") => `(tactic| (k_extra "my z119"; intro h' tk' t' F' N'; (try dsimp only)))
local macro_rules | `(tactic| walk_at "exec Assign cons ListComp") => `(tactic| k_extra "my z120")
local macro_rules | `(tactic| walk_at "execs cons") => `(tactic| k_extra "my z121")
local macro_rules | `(tactic| walk_at "exec For Name Subscript") => `(tactic| k_extra "my z122")
local macro_rules | `(tactic| walk_at "exec For Name Tuple") => `(tactic| k_extra "my z123")
local macro_rules | `(tactic| walk_at "my ccomp") => `(tactic| k_extra "my z124")
variable {w : World} {A : Around} {L fa : Addr} {cd : Value} {h₀ : Heap} {m : Str → Option Value} {s : Shared} {Q : Flow → Shared → Prop} {E : Value → Shared → Prop}
set_option maxHeartbeats 8000000 in
theorem law_stage1 {body : List Stmt} {scope : Scope} (hb : body = lawBody) (hsc : scope = lawScope) {l : Addr} {ws : List Value} {ns0 : List Int} {o1 o2 o3 o4 o5 o6 o7 : Obj} {v1 v2 v3 v4 v5 v6 v7 : Option Value}
    (codeHd : CodeHd h₀ 107 103) (lifted : h₀.IsList l ws.toArray) (hI0 : IntsAre ws ns0) (h63 : ns0.length ≤ 63) (d1 : o1.data = .cell v1) (d2 : o2.data = .cell v2) (d3 : o3.data = .cell v3) (d4 : o4.data = .cell v4) (d5 : o5.data = .cell v5) (d6 : o6.data = .cell v6) (d7 : o7.data = .cell v7)
    (hm : m "script" = some (.ref l)) (hl0 : @LT.lt Nat _ 103 L)
    (S : Sit w A (envOfC "law" scope L fa cd) L h₀ s.heap m [(L + 1 + 1 + 1 + 1 + 1 + 1 + 1, o7), (L + 1 + 1 + 1 + 1 + 1 + 1, o6), (L + 1 + 1 + 1 + 1 + 1, o5), (L + 1 + 1 + 1 + 1, o4), (L + 1 + 1 + 1, o3), (L + 1 + 1, o2), (L + 1, o1), (103, tabObj #[])] 40)
    (hQ : ∀ ps h' tk' m', Fr h₀ L h' m' → News h₀ L h' [(103, tabObj ps)] → Q (.ret (.bool true)) { s with heap := h', toks := tk' }) :
    wpAny (MM w) A (execs body (envOfC "law" scope L fa cd)) Q E s := by
  conv at hb => rhs; whnf
  conv at hsc => rhs; whnf
  subst hb
  subst hsc
  have hrk := ranked_base hl0
  walk_at "my open"
  k_steps
  refine Hold.mk ?_
  walk_at "my ccomp"
  repeat walk1
  rename_i D1 ws1 h1 F1 N1 hI1 hC1 hL1 lt1
  have hsz : (3000 : Nat) ≤ sizeLine := by decide
  have hw24 : ws1.length ≤ 24 := by rw [hI1.length, List.length_take]; omega
  generalize hns : List.take 24 _ = ns at hI1
  refine' comp_list_fix F1 N1 rfl (.head _) rfl ⟨_, rfl⟩ rfl rfl (by omega) (fun i ys => IntsAre ys ((ns.map fun x => Int.fmod x 1000000).take i) ∧ ys.length ≤ i) ⟨.nil, Nat.le_refl _⟩ (fun i ys h => h.2) ?turn1 ?fin1
  case turn1 =>
    rintro i v I oI C oC D mC ys h tk E' hi hv ⟨hI, hl⟩ hoC hmx hne hlt off F N
    rw [hI1.length] at hi
    obtain ⟨tv, e⟩ := ints_at hI1 i (by rw [hI1.length]; exact hi)
    rw [e] at hv
    obtain rfl := Option.some.inj hv
    repeat walk1
    walk_at "my elt"
    exact ⟨rfl, by rw [map_take_succ _ hi]; exact intsAre_snoc hI, by rw [List.length_append]; exact Nat.succ_le_succ hl⟩
  case fin1 =>
    rintro D ys h₂ tk₂ ⟨hI, hl⟩ hlt h₃ tk₃ F₃ N₃
    dsimp only
    rw [hI1.length, ← List.length_map (f := fun x => Int.fmod x 1000000), List.take_length] at hI
    k_lt hlt
    k_steps
    refine Hold.mk ?_
    walk_at "my acomp"
    have hcs : ∀ c ∈ ns.map (fun x => Int.fmod x 1000000), 0 ≤ c ∧ c < 1000000 := fun c hc => by
      obtain ⟨x, _, rfl⟩ := List.mem_map.mp hc
      exact ⟨Int.fmod_nonneg_of_pos x (by decide), Int.fmod_lt_of_pos x (by decide)⟩
    have hcl : (ns.map fun x => Int.fmod x 1000000).length ≤ 24 := by rw [List.length_map, ← hI1.length]; exact hw24
    generalize ns.map (fun x => Int.fmod x 1000000) = cs at hI hcs hcl
    repeat walk1
    rename_i H
    refine wpAny_mono (Src2.iter H) (fun it s₂ H2 => ?_) fun _ _ e => e
    refine' comp_two_fix H2 rfl rfl (by decide) rfl (by show 8 ≤ sizeLine; omega) (fun p hp => by rw [List.mem_singleton.mp hp]; exact .head _) (fun i ys => ∃ ds, IntsAre ys ds ∧ ds.length = i ∧ ∀ d ∈ ds, 0 ≤ d ∧ d < 10 ^ 8) ⟨[], .nil, rfl, fun d hd => nomatch hd⟩ (fun i ys ⟨ds, a, b, _⟩ => by rw [a.length, b]; exact Nat.le_refl _) ?turn2 ?fin2
    case turn2 =>
      rintro i a b wr its C oC D mC ys h tk E' hi ⟨ti, rfl, hb⟩ ⟨ds, hid, hdl, hdb⟩ hoC hmx hmy he hCD hlt off F N
      have hb' : ∃ f t, b = .int f t ∧ 0 ≤ f ∧ f < 1000 := by
        have hi' : i < 8 := hi
        match i, hi', hb with
        | 0, _, hb => cases hb; exact ⟨_, _, rfl, by decide, by decide⟩
        | 1, _, hb => cases hb; exact ⟨_, _, rfl, by decide, by decide⟩
        | 2, _, hb => cases hb; exact ⟨_, _, rfl, by decide, by decide⟩
        | 3, _, hb => cases hb; exact ⟨_, _, rfl, by decide, by decide⟩
        | 4, _, hb => cases hb; exact ⟨_, _, rfl, by decide, by decide⟩
        | 5, _, hb => cases hb; exact ⟨_, _, rfl, by decide, by decide⟩
        | 6, _, hb => cases hb; exact ⟨_, _, rfl, by decide, by decide⟩
        | 7, _, hb => cases hb; exact ⟨_, _, rfl, by decide, by decide⟩
      obtain ⟨f, tf, rfl, hf0, hf1⟩ := hb'
      repeat walk1
      have hb2 := sum_bound (l := pickNums cs (some (i : Int)) none (some 8)) fun x hx => hcs x (pick_mem hx)
      have hb3 := length_pickNums_le hI (some (i : Int)) none (some 8)
      refine' EltEnd.intro ?q45F ?q45N _ ?q45sub off ⟨rfl, _, intsAre_snoc hid, by rw [List.length_append, hdl]; rfl, fun d hd => ?_⟩
      case q45F => k_asm
      case q45N => with_reducible rename News _ _ _ (_ :: _) => NN; exact NN
      case q45sub => walk_at "my sub"
      rcases List.mem_append.mp hd with hd | hd
      · exact hdb d hd
      · rw [List.mem_singleton.mp hd]; omega
    case fin2 =>
      rintro D ys h₂ tk₂ ⟨ds, hid, hdl, hdb⟩ hlt h₃ tk₃ F₃ N₃
      dsimp only
      have hdl8 : ds.length = 8 := hdl
      k_lt hlt
      k_steps
      refine Hold.mk ?_
      refine wpAny_For ?_
      repeat walk1
      with_reducible rename StrsAre _ ops => hso
      with_reducible rename Fr _ _ _ _ => F4
      with_reducible rename News _ _ _ (_ :: _ :: _ :: _ :: _) => N4
      with_reducible rename IntsAre _ (List.take 4 ds) => hi4
      refine' for_list F4 (news_43 N4) rfl (.inl (.tail _ (.tail _ (.head _)))) rfl ⟨_, rfl⟩ rfl rfl rfl (StockJ _ _ _ _) ⟨[], _, [], _, _, _, rfl, .nil, hso, rfl, List.Perm.refl _, by walk_at "my look", by walk_at "my look"⟩ (.inr fun i m' nw h => stock_src h) ?turn4 ?done4
      case turn4 =>
        rintro i v I oI m₁ nw h tk E' hi hv ⟨sv, rv, ss, rs, nt, nr, rfl, hsv, hrv, hsl, hperm, hmr, hmd⟩ hlt off F N
        have hl4 : (List.take 4 ds).length = 4 := by rw [List.length_take]; omega
        rw [List.size_toArray, hi4.length, hl4] at hi
        obtain ⟨td, ed⟩ := ints_at hi4 i (by rw [hi4.length, hl4]; exact hi)
        have hv' := hv
        rw [List.getElem?_toArray, ed] at hv'
        obtain rfl := Option.some.inj hv'
        generalize (List.take 4 ds)[i]'(by rw [hl4]; exact hi) = d at *
        have hrl : rs.length = 48 - i := by
          have := hperm.length_eq
          rw [List.length_append, ops_len] at this; omega
        have hk0 : (0 : Int) < (rs.length : Nat) := by omega
        have hkl := Int.fmod_lt_of_pos d hk0
        have hk1 := Int.fmod_nonneg_of_pos d hk0
        obtain ⟨p, y, ty, q, pr, qr, rfl, rfl, hpl, hsp, hsq⟩ := split_at hrv (k := (Int.fmod d (rs.length : Nat)).toNat) (by omega)
        have hrvl := hrv.len_eq
        have hki : Int.fmod d ((p ++ Value.str y ty :: q).length : Nat) = (p.length : Nat) := by rw [hrvl, hpl]; omega
        have hkn : (((p ++ Value.str y ty :: q).length : Nat) : Int) ≠ 0 := by rw [hrvl]; omega
        have hkz : (p ++ Value.str y ty :: q).length ≤ 1000 := by rw [hrvl]; omega
        have hsz4 : sv.length ≤ sizeLine := by rw [hsv.len_eq]; omega
        clear H H2
        k_lt hlt
        repeat walk1
        refine' LoopEnd.next ?F5 ?N5 _ ?sub5 ?off5 ⟨sv ++ [.str y ty], p ++ q, ss ++ [y], pr ++ qr, nt + 1, nr + 1, rfl, strs_append hsv (.cons y ty .nil), strs_append hsp hsq, by rw [List.length_append, hsl]; rfl, ?pm5, ?lr5, ?ld5⟩
        case F5 => k_asm
        case N5 => k_asm
        case sub5 => walk_at "my sub"
        case off5 =>
          intro p hp b hb
          rw [List.mem_singleton.mp hb]
          rcases List.mem_cons.mp hp with rfl | hp
          · exact (off (_, W.listOf sv.toArray nt) (.head _) :)
          rcases List.mem_cons.mp hp with rfl | hp
          · exact (off (_, W.listOf _ nr) (.tail _ (.head _)) :)
          · exact off p (.tail _ (.tail _ hp))
        case pm5 =>
          refine List.Perm.trans ?_ hperm
          rw [List.append_assoc]
          exact List.Perm.append_left ss (List.perm_middle (l₁ := pr) (l₂ := qr) (a := y)).symm
        case lr5 => walk_at "my look"
        case ld5 => walk_at "my look"
      case done4 =>
        rintro m₁ nw h tk ⟨sv, rv, ss, rs, nt, nr, rfl, hsv, hrv, hsl, hperm, hmr, hmd⟩ F N
        rw [List.size_toArray, hi4.length, List.length_take] at hsl
        clear H H2
        have hsl4 : ss.length = 4 := by omega
        dsimp only
        repeat walk1
        have hoA : ∀ y ∈ ss, y ∈ ops := fun y hy => hperm.mem_iff.mp (List.mem_append_left _ hy)
        have hnd : ss.Nodup := (List.nodup_append.mp (hperm.nodup_iff.mpr (by decide +kernel))).1
        with_reducible rename IntsAre _ (List.drop 4 ds) => hi5
        with_reducible rename Fr _ _ _ _ => F5
        with_reducible rename News _ _ _ (_ :: _ :: _ :: _ :: _ :: _) => N5
        have hl5 : (List.drop 4 ds).length = 4 := by rw [List.length_drop]; omega
        refine' comp_list_fix F5 N5 rfl (.head _) rfl ⟨_, rfl⟩ rfl rfl (by rw [hi5.length, hl5]; omega) (fun i ys => ∃ os, StrsAre ys os ∧ os.length = i ∧ ∀ y ∈ os, y ∈ ops) ⟨[], .nil, rfl, fun y hy => nomatch hy⟩ (fun i ys ⟨os, a, b, _⟩ => by rw [a.len_eq, b]; exact Nat.le_refl _) ?turn5 ?fin5
        case turn5 =>
          rintro i v I oI C oC D5 mC ys5 h5 tk5 E5 hi hv ⟨os, hos, hol, hob⟩ hoC hmx hne hlt off F N
          obtain ⟨td, ed⟩ := ints_at hi5 i hi
          rw [ed] at hv
          obtain rfl := Option.some.inj hv
          generalize (List.drop 4 ds)[i]'(by rw [hi5.length] at hi; exact hi) = d at *
          repeat walk1
          with_reducible rename _ ∈ ops => hyo
          refine' EltEnd.intro ?q45F ?q45N _ ?q45sub off ⟨rfl, _, strs_append hos (.cons _ _ .nil), by rw [List.length_append, hol]; rfl, fun z hz => ?_⟩
          case q45F => k_asm
          case q45N => with_reducible rename News _ _ _ (_ :: _) => NN; exact NN
          case q45sub => walk_at "my sub"
          rcases List.mem_append.mp hz with hz | hz
          · exact hob z hz
          · rw [List.mem_singleton.mp hz]; exact hyo
        case fin5 =>
          rintro D5 ys5 h5 tk5 ⟨os, hos, hol, hob⟩ hlt h6 tk6 F N
          rw [hi5.length, hl5] at hol
          dsimp only
          k_lt hlt
          have hw8 : (ss ++ os).length = 8 := by rw [List.length_append, hsl4, hol]
          have hwA : ∀ y ∈ ss ++ os, y ∈ ops := fun y hy => (List.mem_append.mp hy).elim (hoA y) (hob y)
          have hdl8' : ds.length = 8 := hdl8
          repeat walk1
          with_reducible rename StrsAre _ (ss ++ os) => hzs
          with_reducible rename Array.toList _ = wcps (ss ++ os) ds => hxw
          with_reducible rename News _ _ _ (_ :: _ :: _ :: _ :: _ :: _ :: _ :: _ :: _ :: _ :: _ :: _ :: _ :: _ :: _ :: _ :: _ :: _ :: _ :: _) => N7
          refine Hold.mk ?_
          have N8 := news_pick [18, 0, 3, 11, 12, 13, 14, 15, 16] N7
          simp only [List.filterMap_cons, List.filterMap_nil, List.getElem?_cons_succ, List.getElem?_cons_zero] at N8
          clear N7
          refine' lexer_spec (k := 0) ?hlen codeHd ?hoff7 ?S7 ?_
          case S7 => walk_at "my sit"
          case hlen =>
            have h1 := wcps_len (ss ++ os) ds hwA
            rw [← hxw, hw8, Array.length_toList] at h1
            omega
          case hoff7 =>
            intro p hp
            repeat (rcases List.mem_cons.mp hp with rfl | hp; (exact (by k_ne)))
            cases hp
          intro cell D6 D₀ d1 x1 p1 c' f d2 x2 p2 fo oc' oc o₀ g1 g2 g3 g4 g5 k1 k2 k3 k4 t1 t2 t3 t4 t5 t6 t7 u1 u2 u3 u4 u5 u6 ys6 ps h8 tk8 F8 N9 hys6 hoc hlt8 hoff8 hfn hpiece
          have O : LexOk _ ⟨cell, D6, d1, x1, p1, c', f, d2, x2, p2, fo, oc', oc, g1, g2, g3, g4, g5, k1, k2, k3, k4, t1, t2, t3, t4, t5, t6, t7, u1, u2, u3, u4, u5⟩ := ⟨hoc, hfn, hpiece, hlt8⟩
          have N10 := news_pick [8, 10, 3, 4, 2, 1, 6, 7, 0, 11, 12, 13, 14, 15, 16, 17, 18, 19] N9
          simp only [List.filterMap_cons, List.filterMap_nil, List.getElem?_cons_succ, List.getElem?_cons_zero] at N10
          clear N9 N8
          have hW8 := hoff8 _ (.head _)
          have hW1 : @LT.lt Nat _ _ _ := hW8.1
          have hW2 : @LT.lt Nat _ _ _ := hW8.2.2.2
          have hrkA := O.ranked1 hl0 (by dsimp only; dsimp only at hW2; omega)
          dsimp only at hrkA
          obtain ⟨y1, y2, y3, y4, y5, y6, y7, y8⟩ := hlt8
          dsimp only
          repeat walk1
          refine Hold.mk ?_
          refine' law_stage2 rfl rfl O codeHd hsv hzs hsl4 hol hwA hnd hxw hdl8 hys6 ?d1 ?d2 ?d3 ?d4 ?d5 ?d6 ?hm ?lt0 ?S8 ?hQ
          case S8 => walk_at "my sit"
          case d1 => assumption
          case d2 => assumption
          case d3 => assumption
          case d4 => assumption
          case d5 => assumption
          case d6 => assumption
          case hm => walk_at "my look"
          case lt0 => (dsimp only; omega)
          case hQ =>
            intro h' tk' m' F' N'
            exact hQ _ h' tk' m' F' N'
end stage1

end SP40
theorem rstP45 : True ∧ True := by
  w_top off
  first
    | (walk1; done)
    | exact ⟨trivial, trivial⟩
section SP45
section law
set_option maxHeartbeats 8000000 in
set_option Elab.async true in
theorem law_walk : PySem.Challenge.rw_tp0016_01.Holds := by
  w_on
  o_law
  k_head
  (case hw => w_witness2)
  k_go0
  (with_reducible rename Frag.In _ _ => hdX0)
  have hdX1 : (hd.heap_1_41 _).In _ := hdX0
  (all_goals try k_fold)
  show wpAny (MM _) _ _ _ _ _
  have hdd0 : callerA.depth + 60 < recursionLimit := by decide
  have hu0 : callerA.units + 300 < cLine := by decide
  (with_reducible rename (_ : Nat) < Array.size _ => hl0)
  refine' law_stage1 rfl rfl codeHd lifted ?hI ?h63 ?d1 ?d2 ?d3 ?d4 ?d5 ?d6 ?d7 ?hm hl0 ?S8 ?hQ
  case S8 => walk_at "my sit"
  case hI => assumption
  case h63 => omega
  case d1 => assumption
  case d2 => assumption
  case d3 => assumption
  case d4 => assumption
  case d5 => assumption
  case d6 => assumption
  case d7 => assumption
  case hm => walk_at "my look"
  case hQ =>
    intro ps h' tk' m' F' N'
    k_steps
end law
end SP45
end W3
end W2
end W1
end Mine
set_option maxRecDepth 100000 in
set_option maxHeartbeats 8000000 in
theorem PySem.Challenge.cw_tp0016_01_holds : PySem.Challenge.rw_tp0016_01.Holds :=
  Mine.law_walk
