import Derived.Test.YtfgihnhoocnmdaaGreatDoorK10
import Derived.Maps.RangeWalk
import Derived.OwnWalkIn
import Derived.Sort.MapsRangeIn
import Derived.RangeFuncFrom
import Derived.RangeFuncLeaves
import Derived.TacticsInMore
import Derived.RegionIn
import Derived.LoopNIn
import Derived.LoopIn
import Derived.Maps.RangeRun
import Derived.Maps.AppendAt
import Derived.Shelf.AbstractIn
import Derived.Shelf.SlSortCmp.NoneTotal
namespace Go.Proofs.YtfgihnhoocnmdaaGreatDoor
set_option linter.all false
set_option maxHeartbeats 9000000
section
theorem Ed:(((((((type_of% @opsW_cons∧type_of% @opsW_nil)∧(type_of% @opsK_ap∧(type_of% @opW_none∧type_of% @opW_some)))∧((type_of% @kW_mv∧type_of% @kW_nil)∧(type_of% @kW_tk∧(type_of% @kW_newv∧type_of% @kW_box))))∧(((type_of% @kW_ld∧type_of% @kW_sto)∧(type_of% @kW_fld∧(type_of% @kW_idx∧type_of% @kW_sidx)))∧((type_of% @kW_bin∧(type_of% @kW_beq∧type_of% @kW_un))∧(type_of% @kW_len∧(type_of% @kW_app∧type_of% @kW_bs)))))∧((((type_of% @kW_bld∧type_of% @kW_fldv)∧(type_of% @kW_call∧(type_of% @kW_ext∧type_of% @kW_nilc)))∧((type_of% @kW_pick∧type_of% @kW_slc)∧(type_of% @kW_conv∧(type_of% @kW_s2s∧type_of% @kW_b2s))))∧(((type_of% @wpx_skip∧type_of% @wpx_reg)∧(type_of% @wpx_seq∧(type_of% @wpx_cond∧type_of% @wpx_block)))∧((type_of% @wpx_loopW∧(type_of% @wpx_exit∧type_of% @wpx_ret))∧(type_of% @nQ_ap∧(type_of% @wQ_ap∧type_of% @th_n))))))∧(((((type_of% @th_r∧type_of% @th_e)∧(type_of% @bl_n∧(type_of% @bl_r∧type_of% @bl_e)))∧((type_of% @rq_n∧type_of% @rq_r)∧(type_of% @rq_e∧(type_of% @r3_n∧type_of% @r3_r))))∧(((type_of% @r3_e∧type_of% @r_one)∧(type_of% @r_two∧(type_of% @r_nil∧type_of% @rl_cons)))∧((type_of% @l_one∧(type_of% @l_all∧type_of% @putK.eq_1))∧(type_of% @mvK.eq_1∧(type_of% @tkK.eq_1∧type_of% @newK.eq_1)))))∧((((type_of% @boxK.eq_1∧type_of% @ldK2.eq_1)∧(type_of% @ldK.eq_1∧(type_of% @stoK.eq_1∧type_of% @sto2K.eq_1)))∧((type_of% @sto1K.eq_1∧type_of% @un1K.eq_1)∧(type_of% @bi2K.eq_1∧(type_of% @bi1K.eq_1∧type_of% @app2K.eq_1))))∧(((type_of% @app1K.eq_1∧type_of% @bsK.eq_1)∧(type_of% @aggK.eq_1∧(type_of% @bldK.eq_1∧type_of% @callK.eq_1)))∧((type_of% @pk3K.eq_1∧(type_of% @pk2K.eq_1∧type_of% @pk1K.eq_1))∧(type_of% @sl3K.eq_1∧(type_of% @sl2K.eq_1∧type_of% @sl1K.eq_1)))))))∧((((((type_of% @strK.eq_1∧type_of% @b2K.eq_1)∧(type_of% @bwK.eq_1∧(type_of% @pk_t∧type_of% @pk_f)))∧((type_of% @bw_some∧type_of% @c_t)∧(type_of% @c_f∧(type_of% @g_tt∧type_of% @g_tf))))∧(((type_of% @g_ft∧type_of% @g_ff)∧(type_of% @g_undef∧(type_of% @kW_callo∧type_of% @kW_calln)))∧((type_of% @callnK.eq_1∧(type_of% @kW_callv∧type_of% @kW_hbs))∧(type_of% @hbsK.eq_1∧(type_of% @hbsN.eq_1∧type_of% @kW_ldt)))))∧((((type_of% @kW_stt∧type_of% @calloK.eq_1)∧(type_of% @ldt3.eq_1∧(type_of% @ldt2.eq_1∧type_of% @stt3.eq_1)))∧((type_of% @stt1.eq_1∧type_of% @r2_n)∧(type_of% @r2_r∧(type_of% @r2_e∧type_of% @kW_aeq))))∧(((type_of% @RK_aeqf∧type_of% @RK_aeqt)∧(type_of% @kW_apps∧(type_of% @apps2K.eq_1∧type_of% @apps1K.eq_1)))∧((type_of% @kW_aidx∧(type_of% @kW_mk∧type_of% @mkK.eq_1))∧(type_of% @kW_vidx∧(type_of% @kW_mn∧type_of% @otF_nil))))))∧(((((type_of% @otF_op∧type_of% @otF_two)∧(type_of% @otFK_ap∧(type_of% @otW_nil∧type_of% @otW_op)))∧((type_of% @otW_two∧type_of% @otWK_ap)∧(type_of% @twoK.eq_1∧(type_of% @wpx_treeW∧type_of% @kW_mx))))∧(((type_of% @kW_mkm∧type_of% @mkmK.eq_1)∧(type_of% @mq5.eq_1∧(type_of% @mq1.eq_1∧type_of% @kW_mq)))∧((type_of% @mu5.eq_1∧(type_of% @mu2.eq_1∧type_of% @mu1.eq_1))∧(type_of% @kW_mu∧(type_of% @rngK.eq_1∧type_of% @kW_rng)))))∧((((type_of% @kW_nxt∧type_of% @kW_ent)∧(type_of% @kW_peq∧(type_of% @kW_app0∧type_of% @kW_cro)))∧((type_of% @croK.eq_1∧(type_of% @kW_ldr∧type_of% @kW_ldh))∧(type_of% @ldhK2.eq_1∧(type_of% @ldhK.eq_1∧type_of% @kW_b2o))))∧(((type_of% @kW_b2d∧type_of% @kW_asl)∧(type_of% @kW_s2b∧(type_of% @kW_hslc∧type_of% @hs1K.eq_1)))∧((type_of% @hs2K.eq_1∧(type_of% @hs3K.eq_1∧type_of% @kW_hnl))∧(type_of% @kW_hap0∧(type_of% @kW_hap∧type_of% @hap1K.eq_1)))))))):=
 ⟨⟨⟨⟨⟨⟨⟨@opsW_cons, @opsW_nil⟩,⟨@opsK_ap,⟨@opW_none, @opW_some⟩⟩⟩,⟨⟨@kW_mv, @kW_nil⟩,⟨@kW_tk,⟨@kW_newv, @kW_box⟩⟩⟩⟩,⟨⟨⟨@kW_ld, @kW_sto⟩,⟨@kW_fld,⟨@kW_idx, @kW_sidx⟩⟩⟩,⟨⟨@kW_bin,⟨@kW_beq, @kW_un⟩⟩,⟨@kW_len,⟨@kW_app, @kW_bs⟩⟩⟩⟩⟩,⟨⟨⟨⟨@kW_bld, @kW_fldv⟩,⟨@kW_call,⟨@kW_ext, @kW_nilc⟩⟩⟩,⟨⟨@kW_pick, @kW_slc⟩,⟨@kW_conv,⟨@kW_s2s, @kW_b2s⟩⟩⟩⟩,⟨⟨⟨@wpx_skip, @wpx_reg⟩,⟨@wpx_seq,⟨@wpx_cond, @wpx_block⟩⟩⟩,⟨⟨@wpx_loopW,⟨@wpx_exit, @wpx_ret⟩⟩,⟨@nQ_ap,⟨@wQ_ap, @th_n⟩⟩⟩⟩⟩⟩,⟨⟨⟨⟨⟨@th_r, @th_e⟩,⟨@bl_n,⟨@bl_r, @bl_e⟩⟩⟩,⟨⟨@rq_n, @rq_r⟩,⟨@rq_e,⟨@r3_n, @r3_r⟩⟩⟩⟩,⟨⟨⟨@r3_e, @r_one⟩,⟨@r_two,⟨@r_nil, @rl_cons⟩⟩⟩,⟨⟨@l_one,⟨@l_all, @putK.eq_1⟩⟩,⟨@mvK.eq_1,⟨@tkK.eq_1, @newK.eq_1⟩⟩⟩⟩⟩,⟨⟨⟨⟨@boxK.eq_1, @ldK2.eq_1⟩,⟨@ldK.eq_1,⟨@stoK.eq_1, @sto2K.eq_1⟩⟩⟩,⟨⟨@sto1K.eq_1, @un1K.eq_1⟩,⟨@bi2K.eq_1,⟨@bi1K.eq_1, @app2K.eq_1⟩⟩⟩⟩,⟨⟨⟨@app1K.eq_1, @bsK.eq_1⟩,⟨@aggK.eq_1,⟨@bldK.eq_1, @callK.eq_1⟩⟩⟩,⟨⟨@pk3K.eq_1,⟨@pk2K.eq_1, @pk1K.eq_1⟩⟩,⟨@sl3K.eq_1,⟨@sl2K.eq_1, @sl1K.eq_1⟩⟩⟩⟩⟩⟩⟩,⟨⟨⟨⟨⟨⟨@strK.eq_1, @b2K.eq_1⟩,⟨@bwK.eq_1,⟨@pk_t, @pk_f⟩⟩⟩,⟨⟨@bw_some, @c_t⟩,⟨@c_f,⟨@g_tt, @g_tf⟩⟩⟩⟩,⟨⟨⟨@g_ft, @g_ff⟩,⟨@g_undef,⟨@kW_callo, @kW_calln⟩⟩⟩,⟨⟨@callnK.eq_1,⟨@kW_callv, @kW_hbs⟩⟩,⟨@hbsK.eq_1,⟨@hbsN.eq_1, @kW_ldt⟩⟩⟩⟩⟩,⟨⟨⟨⟨@kW_stt, @calloK.eq_1⟩,⟨@ldt3.eq_1,⟨@ldt2.eq_1, @stt3.eq_1⟩⟩⟩,⟨⟨@stt1.eq_1, @r2_n⟩,⟨@r2_r,⟨@r2_e, @kW_aeq⟩⟩⟩⟩,⟨⟨⟨@RK_aeqf, @RK_aeqt⟩,⟨@kW_apps,⟨@apps2K.eq_1, @apps1K.eq_1⟩⟩⟩,⟨⟨@kW_aidx,⟨@kW_mk, @mkK.eq_1⟩⟩,⟨@kW_vidx,⟨@kW_mn, @otF_nil⟩⟩⟩⟩⟩⟩,⟨⟨⟨⟨⟨@otF_op, @otF_two⟩,⟨@otFK_ap,⟨@otW_nil, @otW_op⟩⟩⟩,⟨⟨@otW_two, @otWK_ap⟩,⟨@twoK.eq_1,⟨@wpx_treeW, @kW_mx⟩⟩⟩⟩,⟨⟨⟨@kW_mkm, @mkmK.eq_1⟩,⟨@mq5.eq_1,⟨@mq1.eq_1, @kW_mq⟩⟩⟩,⟨⟨@mu5.eq_1,⟨@mu2.eq_1, @mu1.eq_1⟩⟩,⟨@kW_mu,⟨@rngK.eq_1, @kW_rng⟩⟩⟩⟩⟩,⟨⟨⟨⟨@kW_nxt, @kW_ent⟩,⟨@kW_peq,⟨@kW_app0, @kW_cro⟩⟩⟩,⟨⟨@croK.eq_1,⟨@kW_ldr, @kW_ldh⟩⟩,⟨@ldhK2.eq_1,⟨@ldhK.eq_1, @kW_b2o⟩⟩⟩⟩,⟨⟨⟨@kW_b2d, @kW_asl⟩,⟨@kW_s2b,⟨@kW_hslc, @hs1K.eq_1⟩⟩⟩,⟨⟨@hs2K.eq_1,⟨@hs3K.eq_1, @kW_hnl⟩⟩,⟨@kW_hap0,⟨@kW_hap, @hap1K.eq_1⟩⟩⟩⟩⟩⟩⟩⟩
theorem Eu:((((((((type_of% @rl_nil∧type_of% @ar_tmp)∧(type_of% @ar_cellf∧type_of% @K1_some))∧((type_of% @KL_some∧type_of% @KP_some)∧(type_of% @RK_eq∧(type_of% @RK_and∧type_of% @RK_andx))))∧(((type_of% @RL_eq∧type_of% @RL_andx)∧(type_of% @KS_lit∧type_of% @BytesW_map))∧((type_of% @st0_eq∧type_of% @put_lk)∧(type_of% @put_none∧(type_of% @upd_lk∧type_of% @upd_del)))))∧((((type_of% @ev_t∧type_of% @ev_c)∧(type_of% @lk_cons∧type_of% @lk_nil))∧((type_of% @pt_cons∧type_of% @pt_nil)∧(type_of% @del_cons∧(type_of% @del_nil∧type_of% @num_cons))))∧(((type_of% @num_nil∧type_of% @al_int)∧(type_of% @al_bool∧(type_of% @al_str∧type_of% @al_agg)))∧((type_of% @al_sl∧type_of% @al_ro)∧(type_of% @al_ptr∧(type_of% @al_nilp∧type_of% @al_fn))))))∧(((((type_of% @al_clo∧type_of% @so_clo)∧(type_of% @ce_clo∧type_of% @al_tup))∧((type_of% @al_undef∧type_of% @ce_int)∧(type_of% @ce_bool∧(type_of% @ce_str∧type_of% @ce_agg))))∧(((type_of% @ce_sl∧type_of% @ce_ro)∧(type_of% @ce_ptr∧type_of% @ce_nilp))∧((type_of% @tk_own∧type_of% @tk_none)∧(type_of% @tk_int∧(type_of% @b_addf∧type_of% @b_subf)))))∧((((type_of% @b_mulf∧type_of% @b_quof)∧(type_of% @b_remf∧type_of% @b_eqlf))∧((type_of% @b_neqf∧type_of% @b_lssf)∧(type_of% @b_leqf∧(type_of% @b_gtrf∧type_of% @b_geqf))))∧(((type_of% @b_catf∧type_of% @b_seqlf)∧(type_of% @b_sneqf∧(type_of% @b_slssf∧type_of% @b_sgtrf)))∧((type_of% @b_sgeqf∧type_of% @be_ff)∧(type_of% @be_tf∧(type_of% @u_notf∧type_of% @u_xorf)))))))∧((((((type_of% @u_negf∧type_of% @v_ro)∧(type_of% @v_ptr∧type_of% @l_onef))∧((type_of% @l_allf∧type_of% @f_rof)∧(type_of% @f_ptrf∧(type_of% @n_strf∧type_of% @n_slf))))∧(((type_of% @i_slf∧type_of% @i_strf)∧(type_of% @a_appf∧type_of% @fv_aggf))∧((type_of% @x_tup0f∧type_of% @x_tupsf)∧(type_of% @nc_rof∧(type_of% @nc_ptrf∧type_of% @so_ptr)))))∧((((type_of% @bt_sl∧type_of% @sc_strf)∧(type_of% @sc_slf∧type_of% @lo_str))∧((type_of% @lo_sl∧type_of% @bw_none)∧(type_of% @iw_int∧(type_of% @cv_intf∧type_of% @ss_strf))))∧(((type_of% @evs_nil∧type_of% @evs_cons)∧(type_of% @evp_nil∧(type_of% @evp_cons∧type_of% @fl_nilf)))∧((type_of% @fl_consf∧type_of% @sp_0n)∧(type_of% @sp_0∧(type_of% @sp_s∧type_of% @sz_nil))))))∧(((((type_of% @sz_cons∧type_of% @Option.some.injEq.{0})∧(type_of% @exists_eq_left.{1}∧type_of% @exists_eq_left'.{1}))∧((type_of% @List.map_cons.{0,0}∧type_of% @List.map_nil.{0,0})∧(type_of% @List.length_cons.{0}∧(type_of% @List.length_nil.{0}∧type_of% @List.drop_succ_cons.{0}))))∧(((type_of% @List.drop_zero.{0}∧type_of% @List.take_succ_cons.{0})∧(type_of% @List.take_zero.{0}∧(type_of% @Option.map_some.{0,0}∧type_of% @Option.bind_some.{0,0})))∧((type_of% @true_and∧type_of% @and_true)∧(type_of% @Bool.not_true∧(type_of% @Bool.not_false∧type_of% @ne_eq.{1})))))∧((((type_of% @not_true_eq_false∧type_of% @not_false_eq_true)∧(type_of% @Option.getD_some.{0}∧type_of% @Option.getD_none.{0}))∧((type_of% @AV.bool.injEq∧type_of% @AV.int.injEq)∧(type_of% @AV.str.injEq∧(type_of% @AV.ptr.injEq∧type_of% @AV.sl.injEq))))∧(((type_of% @AV.ro.injEq∧type_of% @AV.agg.injEq)∧(type_of% @AV.tup.injEq∧(type_of% @Nat.zero_add∧type_of% @Nat.add_zero)))∧((type_of% @Bool.not_not∧type_of% @eq_self.{1})∧(type_of% @Nat.zero_lt_succ∧(type_of% @decide_true∧type_of% @decide_false))))))))∧(((((((type_of% @Int.toNat_natCast∧type_of% @Int.natCast_nonneg)∧(type_of% @callv_fn∧type_of% @ldt_ptr))∧((type_of% @ldt_ro∧type_of% @stt_ptr)∧(type_of% @ovr_lk∧(type_of% @ov_nil∧type_of% @ov_cons))))∧(((type_of% @ldE_own∧type_of% @ldE_none)∧(type_of% @stE_own∧type_of% @stE_none))∧((type_of% @ce_sln∧type_of% @List.getElem?_cons_zero.{0})∧(type_of% @List.getElem?_cons_succ.{0}∧(type_of% @ldE_nils∧type_of% @al_nils)))))∧((((type_of% @so_nils∧type_of% @so_int)∧(type_of% @so_bool∧type_of% @so_str))∧((type_of% @so_sl∧type_of% @so_ro)∧(type_of% @so_pt∧(type_of% @so_nilp∧type_of% @so_fn))))∧(((type_of% @b_orf∧type_of% @b_andf)∧(type_of% @b_xorf∧(type_of% @b_andNotf∧type_of% @b_shlf)))∧((type_of% @b_shrf∧type_of% @KB_some)∧(type_of% @oand_some∧(type_of% @eqC_nil∧type_of% @eqC_i))))))∧(((((type_of% @eqC_b∧type_of% @eqC_s)∧(type_of% @Bool.and_true∧type_of% @a_appsf))∧((type_of% @ai_ptr∧type_of% @ai_ro)∧(type_of% @mk_int∧(type_of% @n_oslf∧type_of% @i_oslf))))∧(((type_of% @al_osl∧type_of% @ce_osl)∧(type_of% @so_osl∧(type_of% @tk_osl∧type_of% @al_nili)))∧((type_of% @ce_nili∧type_of% @so_nili)∧(type_of% @AV.osl.injEq∧(type_of% @al_nilT∧type_of% @ce_nilT)))))∧((((type_of% @so_nilT∧type_of% @vi_agg)∧(type_of% @mn_int∧type_of% @mx_int))∧((type_of% @KF_some∧type_of% @mqV_st)∧(type_of% @mqV_sf∧(type_of% @mqV_nt∧type_of% @mqV_nf))))∧(((type_of% @mq_mp∧type_of% @mq_mapv)∧(type_of% @muK_some∧(type_of% @mu_mapv∧type_of% @mu0_mp)))∧((type_of% @mu1_mp∧type_of% @mu2_mp)∧(type_of% @mu3_mp∧(type_of% @mu0_s∧type_of% @mu0_n)))))))∧((((((type_of% @mu1_s∧type_of% @mu1_n)∧(type_of% @mu3_s∧type_of% @mu3_n))∧((type_of% @rng_mp∧type_of% @rng_mapv)∧(type_of% @nxt_mp∧(type_of% @nxt_mit∧type_of% @nxt_itp))))∧(((type_of% @ent_mp∧type_of% @ent_mit)∧(type_of% @ent_itp∧type_of% @al_mapv))∧((type_of% @ce_mapv∧type_of% @so_mapv)∧(type_of% @al_nilm∧(type_of% @ce_nilm∧type_of% @so_nilm)))))∧((((type_of% @al_rom∧type_of% @ce_rom)∧(type_of% @so_rom∧type_of% @mq_rom))∧((type_of% @mq_nilm∧type_of% @mq6_n)∧(type_of% @al_itp∧(type_of% @ce_itp∧type_of% @AV.mapv.injEq))))∧(((type_of% @pe_ptr∧type_of% @pe_ro)∧(type_of% @pe_nilp∧(type_of% @a0_sl∧type_of% @lr_ro)))∧((type_of% @ldh_cons∧type_of% @hal_nils)∧(type_of% @hal_hsl∧(type_of% @hal_hnil∧type_of% @hal_sl))))))∧(((((type_of% @b2d_osl∧type_of% @b2o_sl)∧(type_of% @b2o_osl∧type_of% @b2oL_mk))∧((type_of% @as_ptr∧type_of% @sb_str)∧(type_of% @al_hsl∧(type_of% @ce_hsl∧type_of% @so_hsl))))∧(((type_of% @tk_hsl∧type_of% @ldE_hsl)∧(type_of% @stE_hsl∧(type_of% @al_hss∧type_of% @al_hnil)))∧((type_of% @ce_hnil∧type_of% @so_hnil)∧(type_of% @tk_hnil∧(type_of% @ldE_hnil∧type_of% @stE_hnil)))))∧((((type_of% @n_hsl∧type_of% @n_hss)∧(type_of% @n_hnil∧type_of% @i_hsl))∧((type_of% @i_hss∧type_of% @hl_hsl)∧(type_of% @hl_hss∧(type_of% @hl_sl∧type_of% @hl_hnil))))∧(((type_of% @hs_hsl0∧type_of% @hs_hsl1)∧(type_of% @hs_hss∧(type_of% @hs_sl∧type_of% @hs_hnil)))∧((type_of% @op_none∧type_of% @op_some)∧(type_of% @AV.hsl.injEq∧(type_of% @AV.hss.injEq∧type_of% @AV.hnil.injEq))))))))):=
 ⟨⟨⟨⟨⟨⟨⟨⟨@rl_nil, @ar_tmp⟩,⟨@ar_cellf, @K1_some⟩⟩,⟨⟨@KL_some, @KP_some⟩,⟨@RK_eq,⟨@RK_and, @RK_andx⟩⟩⟩⟩,⟨⟨⟨@RL_eq, @RL_andx⟩,⟨@KS_lit, @BytesW_map⟩⟩,⟨⟨@st0_eq, @put_lk⟩,⟨@put_none,⟨@upd_lk, @upd_del⟩⟩⟩⟩⟩,⟨⟨⟨⟨@ev_t, @ev_c⟩,⟨@lk_cons, @lk_nil⟩⟩,⟨⟨@pt_cons, @pt_nil⟩,⟨@del_cons,⟨@del_nil, @num_cons⟩⟩⟩⟩,⟨⟨⟨@num_nil, @al_int⟩,⟨@al_bool,⟨@al_str, @al_agg⟩⟩⟩,⟨⟨@al_sl, @al_ro⟩,⟨@al_ptr,⟨@al_nilp, @al_fn⟩⟩⟩⟩⟩⟩,⟨⟨⟨⟨⟨@al_clo, @so_clo⟩,⟨@ce_clo, @al_tup⟩⟩,⟨⟨@al_undef, @ce_int⟩,⟨@ce_bool,⟨@ce_str, @ce_agg⟩⟩⟩⟩,⟨⟨⟨@ce_sl, @ce_ro⟩,⟨@ce_ptr, @ce_nilp⟩⟩,⟨⟨@tk_own, @tk_none⟩,⟨@tk_int,⟨@b_addf, @b_subf⟩⟩⟩⟩⟩,⟨⟨⟨⟨@b_mulf, @b_quof⟩,⟨@b_remf, @b_eqlf⟩⟩,⟨⟨@b_neqf, @b_lssf⟩,⟨@b_leqf,⟨@b_gtrf, @b_geqf⟩⟩⟩⟩,⟨⟨⟨@b_catf, @b_seqlf⟩,⟨@b_sneqf,⟨@b_slssf, @b_sgtrf⟩⟩⟩,⟨⟨@b_sgeqf, @be_ff⟩,⟨@be_tf,⟨@u_notf, @u_xorf⟩⟩⟩⟩⟩⟩⟩,⟨⟨⟨⟨⟨⟨@u_negf, @v_ro⟩,⟨@v_ptr, @l_onef⟩⟩,⟨⟨@l_allf, @f_rof⟩,⟨@f_ptrf,⟨@n_strf, @n_slf⟩⟩⟩⟩,⟨⟨⟨@i_slf, @i_strf⟩,⟨@a_appf, @fv_aggf⟩⟩,⟨⟨@x_tup0f, @x_tupsf⟩,⟨@nc_rof,⟨@nc_ptrf, @so_ptr⟩⟩⟩⟩⟩,⟨⟨⟨⟨@bt_sl, @sc_strf⟩,⟨@sc_slf, @lo_str⟩⟩,⟨⟨@lo_sl, @bw_none⟩,⟨@iw_int,⟨@cv_intf, @ss_strf⟩⟩⟩⟩,⟨⟨⟨@evs_nil, @evs_cons⟩,⟨@evp_nil,⟨@evp_cons, @fl_nilf⟩⟩⟩,⟨⟨@fl_consf, @sp_0n⟩,⟨@sp_0,⟨@sp_s, @sz_nil⟩⟩⟩⟩⟩⟩,⟨⟨⟨⟨⟨@sz_cons, @Option.some.injEq.{0}⟩,⟨@exists_eq_left.{1}, @exists_eq_left'.{1}⟩⟩,⟨⟨@List.map_cons.{0,0}, @List.map_nil.{0,0}⟩,⟨@List.length_cons.{0},⟨@List.length_nil.{0}, @List.drop_succ_cons.{0}⟩⟩⟩⟩,⟨⟨⟨@List.drop_zero.{0}, @List.take_succ_cons.{0}⟩,⟨@List.take_zero.{0},⟨@Option.map_some.{0,0}, @Option.bind_some.{0,0}⟩⟩⟩,⟨⟨@true_and, @and_true⟩,⟨@Bool.not_true,⟨@Bool.not_false, @ne_eq.{1}⟩⟩⟩⟩⟩,⟨⟨⟨⟨@not_true_eq_false, @not_false_eq_true⟩,⟨@Option.getD_some.{0}, @Option.getD_none.{0}⟩⟩,⟨⟨@AV.bool.injEq, @AV.int.injEq⟩,⟨@AV.str.injEq,⟨@AV.ptr.injEq, @AV.sl.injEq⟩⟩⟩⟩,⟨⟨⟨@AV.ro.injEq, @AV.agg.injEq⟩,⟨@AV.tup.injEq,⟨@Nat.zero_add, @Nat.add_zero⟩⟩⟩,⟨⟨@Bool.not_not, @eq_self.{1}⟩,⟨@Nat.zero_lt_succ,⟨@decide_true, @decide_false⟩⟩⟩⟩⟩⟩⟩⟩,⟨⟨⟨⟨⟨⟨⟨@Int.toNat_natCast, @Int.natCast_nonneg⟩,⟨@callv_fn, @ldt_ptr⟩⟩,⟨⟨@ldt_ro, @stt_ptr⟩,⟨@ovr_lk,⟨@ov_nil, @ov_cons⟩⟩⟩⟩,⟨⟨⟨@ldE_own, @ldE_none⟩,⟨@stE_own, @stE_none⟩⟩,⟨⟨@ce_sln, @List.getElem?_cons_zero.{0}⟩,⟨@List.getElem?_cons_succ.{0},⟨@ldE_nils, @al_nils⟩⟩⟩⟩⟩,⟨⟨⟨⟨@so_nils, @so_int⟩,⟨@so_bool, @so_str⟩⟩,⟨⟨@so_sl, @so_ro⟩,⟨@so_pt,⟨@so_nilp, @so_fn⟩⟩⟩⟩,⟨⟨⟨@b_orf, @b_andf⟩,⟨@b_xorf,⟨@b_andNotf, @b_shlf⟩⟩⟩,⟨⟨@b_shrf, @KB_some⟩,⟨@oand_some,⟨@eqC_nil, @eqC_i⟩⟩⟩⟩⟩⟩,⟨⟨⟨⟨⟨@eqC_b, @eqC_s⟩,⟨@Bool.and_true, @a_appsf⟩⟩,⟨⟨@ai_ptr, @ai_ro⟩,⟨@mk_int,⟨@n_oslf, @i_oslf⟩⟩⟩⟩,⟨⟨⟨@al_osl, @ce_osl⟩,⟨@so_osl,⟨@tk_osl, @al_nili⟩⟩⟩,⟨⟨@ce_nili, @so_nili⟩,⟨@AV.osl.injEq,⟨@al_nilT, @ce_nilT⟩⟩⟩⟩⟩,⟨⟨⟨⟨@so_nilT, @vi_agg⟩,⟨@mn_int, @mx_int⟩⟩,⟨⟨@KF_some, @mqV_st⟩,⟨@mqV_sf,⟨@mqV_nt, @mqV_nf⟩⟩⟩⟩,⟨⟨⟨@mq_mp, @mq_mapv⟩,⟨@muK_some,⟨@mu_mapv, @mu0_mp⟩⟩⟩,⟨⟨@mu1_mp, @mu2_mp⟩,⟨@mu3_mp,⟨@mu0_s, @mu0_n⟩⟩⟩⟩⟩⟩⟩,⟨⟨⟨⟨⟨⟨@mu1_s, @mu1_n⟩,⟨@mu3_s, @mu3_n⟩⟩,⟨⟨@rng_mp, @rng_mapv⟩,⟨@nxt_mp,⟨@nxt_mit, @nxt_itp⟩⟩⟩⟩,⟨⟨⟨@ent_mp, @ent_mit⟩,⟨@ent_itp, @al_mapv⟩⟩,⟨⟨@ce_mapv, @so_mapv⟩,⟨@al_nilm,⟨@ce_nilm, @so_nilm⟩⟩⟩⟩⟩,⟨⟨⟨⟨@al_rom, @ce_rom⟩,⟨@so_rom, @mq_rom⟩⟩,⟨⟨@mq_nilm, @mq6_n⟩,⟨@al_itp,⟨@ce_itp, @AV.mapv.injEq⟩⟩⟩⟩,⟨⟨⟨@pe_ptr, @pe_ro⟩,⟨@pe_nilp,⟨@a0_sl, @lr_ro⟩⟩⟩,⟨⟨@ldh_cons, @hal_nils⟩,⟨@hal_hsl,⟨@hal_hnil, @hal_sl⟩⟩⟩⟩⟩⟩,⟨⟨⟨⟨⟨@b2d_osl, @b2o_sl⟩,⟨@b2o_osl, @b2oL_mk⟩⟩,⟨⟨@as_ptr, @sb_str⟩,⟨@al_hsl,⟨@ce_hsl, @so_hsl⟩⟩⟩⟩,⟨⟨⟨@tk_hsl, @ldE_hsl⟩,⟨@stE_hsl,⟨@al_hss, @al_hnil⟩⟩⟩,⟨⟨@ce_hnil, @so_hnil⟩,⟨@tk_hnil,⟨@ldE_hnil, @stE_hnil⟩⟩⟩⟩⟩,⟨⟨⟨⟨@n_hsl, @n_hss⟩,⟨@n_hnil, @i_hsl⟩⟩,⟨⟨@i_hss, @hl_hsl⟩,⟨@hl_hss,⟨@hl_sl, @hl_hnil⟩⟩⟩⟩,⟨⟨⟨@hs_hsl0, @hs_hsl1⟩,⟨@hs_hss,⟨@hs_sl, @hs_hnil⟩⟩⟩,⟨⟨@op_none, @op_some⟩,⟨@AV.hsl.injEq,⟨@AV.hss.injEq, @AV.hnil.injEq⟩⟩⟩⟩⟩⟩⟩⟩⟩
end
section
open Go.RowKit
def LeS{α:Type}(sn:List Nat):List (Nat × α)→(Nat→Option α)→Prop
 | [],_=>True
 | (k,v)::r,f=>(k∈sn∨f k=some v)∧LeS (k::sn) r f
theorem LeS_ok{α:Type}{f:Nat→Option α}:∀ {l:List (Nat × α)} {sn:List Nat},LeS sn l f→∀ i v,i ∉ sn→lk l i=some v→f i=some v
 | [],_,_,i,v,_,h=>by simp[lk]at h
 | (k,w)::r,sn,⟨h1,h2⟩,i,v,hn,h=>by
  rw[lk]at h
  split at h
  ·rename_i e
   subst e
   cases h
   exact h1.resolve_left hn
  ·rename_i e
   exact LeS_ok h2 i v (by rw[List.mem_cons,not_or];exact ⟨e,hn⟩) h
theorem leK_dd{a:List (Nat × AV)}{b:List (Nat × List AV)}{s:St}(h:LeS [] a s.t∧LeL b s.o):leK ⟨lk a,lk b⟩ s:=⟨fun i v e=>LeS_ok h.1 i v (by simp) e,LeL_ok h.2⟩
theorem lk_sub2{b c:Nat}{cs ds:List AV}{o:Nat→Option (List AV)}(h:o b=some cs)(g:o c=some ds):∀ b' cs',lk [(b,cs),(c,ds)] b'=some cs'→o b'=some cs':=by
 intro b' cs' h'
 rw[lk_cons,lk_cons]at h'
 by_cases hb:b'=b
 ·subst hb;rw[if_pos rfl]at h';rw[h,h']
 ·rw[if_neg hb]at h'
  by_cases hc:b'=c
  ·subst hc;rw[if_pos rfl]at h';rw[g,h']
  ·rw[if_neg hc]at h';cases h'
theorem lk_sub3{b c d:Nat}{x y z:List AV}{o:Nat→Option (List AV)}(h:o b=some x)(g:o c=some y)(k:o d=some z):∀ b' cs',lk [(b,x),(c,y),(d,z)] b'=some cs'→o b'=some cs':=by
 intro b' cs' h'
 rw[lk_cons]at h'
 by_cases hb:b'=b
 ·subst hb;rw[if_pos rfl]at h';rw[h,h']
 ·rw[if_neg hb]at h';exact lk_sub2 g k b' cs' h'
def OM(A:Prop):Prop:=A
theorem OM_a{A:Prop}(h:A:=by first|omega|(simp only[a0d,Bool.not_eq_true',Bool.not_eq_false',decide_eq_true_eq,decide_eq_false_iff_not]at *;omega)):OM A:=h
theorem wA{A B:Prop}(left:OM A)(right:B):A∧B:=⟨left,right⟩
theorem wT{b:Bool}{K:Bool→Prop}(hk:K true)(h:a0d (b=true):=by assumption):Sp b K:=Sp_t h hk
theorem wF{b:Bool}{K:Bool→Prop}(hk:K false)(h:a0d (b=false):=by assumption):Sp b K:=Sp_f h hk
theorem wL{x y:Int}{K:Bool→Prop}(h1:x<y→a0d (decide (x<y)=true)→K true)(h2:y≤x→a0d (decide (x<y)=false)→K false):Sp (decide (x<y)) K:=Sp_split (fun h=>h1 (Fact_lt h) h) (fun h=>h2 (Fact_nlt h) h)
theorem wE{x y:Int}{K:Bool→Prop}(h1:x≤y→a0d (decide (x≤y)=true)→K true)(h2:y<x→a0d (decide (x≤y)=false)→K false):Sp (decide (x≤y)) K:=Sp_split (fun h=>h1 (Fact_le h) h) (fun h=>h2 (Fact_nle h) h)
theorem wK{a:List (Nat × AV)}{b:List (Nat × List AV)}{s:St}(h:LeL a s.t∧LeL b s.o:=by first|(simp[-List.getD_eq_getElem?_getD,LeL,lk, *];done)|fail):leK ⟨lk a,lk b⟩ s:=leK_lit h
theorem wD{a:List (Nat × AV)}{b:List (Nat × List AV)}{s:St}(h:LeS [] a s.t∧LeL b s.o:=by first|(simp[-List.getD_eq_getElem?_getD,LeS,LeL,lk, *];done)|fail):leK ⟨lk a,lk b⟩ s:=leK_dd h
section
variable {P:Program} {d:Option Nat} {s:St} {K:St→Prop}
theorem c1{f:Nat}{vs:List AV}{r:AV}{b:Nat}{x:List AV}{o2:List (Nat × List AV)}(h:CT P f vs (lk [(b,x)]) (fun r' o'=>r'=r∧o'=lk o2))(hK:KS (St.put ⟨s.t,ovr o2 s.o⟩ d r) K)(g:s.o b=some x:=by first|((repeat (first|exact lk_hd _ _ _|(refine lk_tl ?_ ?_;(focus (first|assumption|(simp only[*,not_false_eq_true];done))))));done)|fail):a2b P f vs d s K:=CallO_det h (lk_sub1 g) hK
theorem c2{f:Nat}{vs:List AV}{r:AV}{b c:Nat}{x y:List AV}{o2:List (Nat × List AV)}(h:CT P f vs (lk [(b,x),(c,y)]) (fun r' o'=>r'=r∧o'=lk o2))(hK:KS (St.put ⟨s.t,ovr o2 s.o⟩ d r) K)(g:s.o b=some x:=by first|((repeat (first|exact lk_hd _ _ _|(refine lk_tl ?_ ?_;(focus (first|assumption|(simp only[*,not_false_eq_true];done))))));done)|fail)(g':s.o c=some y:=by first|((repeat (first|exact lk_hd _ _ _|(refine lk_tl ?_ ?_;(focus (first|assumption|(simp only[*,not_false_eq_true];done))))));done)|fail):a2b P f vs d s K:=CallO_det h (lk_sub2 g g') hK
theorem c3{f:Nat}{vs:List AV}{r:AV}{b c e:Nat}{x y z:List AV}{o2:List (Nat × List AV)}(h:CT P f vs (lk [(b,x),(c,y),(e,z)]) (fun r' o'=>r'=r∧o'=lk o2))(hK:KS (St.put ⟨s.t,ovr o2 s.o⟩ d r) K)(g:s.o b=some x:=by first|((repeat (first|exact lk_hd _ _ _|(refine lk_tl ?_ ?_;(focus (first|assumption|(simp only[*,not_false_eq_true];done))))));done)|fail)(g':s.o c=some y:=by first|((repeat (first|exact lk_hd _ _ _|(refine lk_tl ?_ ?_;(focus (first|assumption|(simp only[*,not_false_eq_true];done))))));done)|fail)(g'':s.o e=some z:=by first|((repeat (first|exact lk_hd _ _ _|(refine lk_tl ?_ ?_;(focus (first|assumption|(simp only[*,not_false_eq_true];done))))));done)|fail):a2b P f vs d s K:=CallO_det h (lk_sub3 g g' g'') hK
theorem r2{f:Nat}{vs:List AV}{r:AV}{K:AV→Prop}{b c:Nat}{x y:List AV}(h:CT P f vs (lk [(b,x),(c,y)]) (fun r' o'=>r'=r∧o'=lk [(b,x),(c,y)]))(hK:K r)(g:s.o b=some x:=by first|((repeat (first|exact lk_hd _ _ _|(refine lk_tl ?_ ?_;(focus (first|assumption|(simp only[*,not_false_eq_true];done))))));done)|fail)(g':s.o c=some y:=by first|((repeat (first|exact lk_hd _ _ _|(refine lk_tl ?_ ?_;(focus (first|assumption|(simp only[*,not_false_eq_true];done))))));done)|fail):b5v P f vs s K:=Cro_det h (lk_sub2 g g') hK
theorem r3{f:Nat}{vs:List AV}{r:AV}{K:AV→Prop}{b c e:Nat}{x y z:List AV}(h:CT P f vs (lk [(b,x),(c,y),(e,z)]) (fun r' o'=>r'=r∧o'=lk [(b,x),(c,y),(e,z)]))(hK:K r)(g:s.o b=some x:=by first|((repeat (first|exact lk_hd _ _ _|(refine lk_tl ?_ ?_;(focus (first|assumption|(simp only[*,not_false_eq_true];done))))));done)|fail)(g':s.o c=some y:=by first|((repeat (first|exact lk_hd _ _ _|(refine lk_tl ?_ ?_;(focus (first|assumption|(simp only[*,not_false_eq_true];done))))));done)|fail)(g'':s.o e=some z:=by first|((repeat (first|exact lk_hd _ _ _|(refine lk_tl ?_ ?_;(focus (first|assumption|(simp only[*,not_false_eq_true];done))))));done)|fail):b5v P f vs s K:=Cro_det h (lk_sub3 g g' g'') hK
end
end
section
open Go.RowKit
mutual
def b2y:AV→Option Value
 | .int k n=>some (.int k n)
 | .bool b=>some (.bool b)
 | .str l=>some (.string ⟨l.toArray⟩)
 | .tup cs=>(a8A cs).map fun vs=>.tuple vs.toArray
 | _=>none
def a8A:List AV→Option (List Value)
 | []=>some []
 | c::cs=>match b2y c,a8A cs with
  | some v,some vs=>some (v::vs)
  | _,_=>none
end
theorem conc_unique{W:World}{U:Nat→Nat→Prop}{a:AV}{v u:Value}(h:VR W U u a)(hc:b2y a=some v)(hp:∀ cs,a ≠ .tup cs):u=v:=by
 cases h<;>simp[b2y]at hc<;>first|exact hc|exact absurd rfl (hp _)
theorem a6i:∀ {cs:List AV} {vs:List Value},a8A cs=some vs→vs.length=cs.length∧∀ (i:Nat) (v:Value) (c:AV),vs[i]?=some v→cs[i]?=some c→b2y c=some v
 | [],vs,h=>by
  simp only[a8A,Option.some.injEq]at h
  subst h;simp
 | c::cs,vs,h=>by
  rw[a8A]at h
  split at h
  ·rename_i v ws h1 h2
   cases h
   have ih:=a6i h2
   refine ⟨by simp[ih.1],fun i u d hu hd=>?_⟩
   cases i with
   | zero=>simp at hu hd;subst hu;subst hd;exact h1
   | succ i=>exact ih.2 i u d (by simpa using hu) (by simpa using hd)
  ·cases h
theorem a7n(W:World)(U:Nat→Nat→Prop):∀ (n:Nat) (a:AV) (v:Value),SizeOf.sizeOf a≤n→b2y a=some v→VR W U v a
 | 0,a,v,hn,h=>by cases a<;>simp at hn
 | n+1,a,v,hn,h=>by
  cases a<;>simp only[b2y,Option.some.injEq,reduceCtorEq]at h
  ·subst h;exact .int _ _
  ·subst h;exact .bool _
  ·subst h;exact .str _
  ·rename_i cs
   cases hc:a8A cs with
   | none=>rw[hc]at h;cases h
   | some vs=>
    rw[hc]at h
    cases h
    have hg:=a6i hc
    refine .tup vs cs hg.1 fun i v c hv hc=>a7n W U n c v ?_ (hg.2 i v c hv hc)
    have:=List.sizeOf_lt_of_mem (List.mem_of_getElem? hc)
    simp at hn
    omega
theorem CP_libG{P:Program}{f:Nat}{av:List AV}{vs:List Value}{r:AV}{v:Value}(ha:a8A av=some vs)(hp:∀ a∈av, ∀ cs,a ≠ .tup cs)(hr:b2y r=some v)
  (h:∀ W U,Glob W U→Calls P f vs.toArray W fun e W'=>e=.returned v∧Below W.heap.size W W'):CP P f av r:=by
 intro W U us hG hl hu
 have hg:=a6i ha
 have he:us=vs:=by
  apply List.ext_getElem?
  intro i
  by_cases hi:i<us.length
  ·have h1:i<vs.length:=by omega
   have h2:i<av.length:=by omega
   rw[List.getElem?_eq_getElem hi,List.getElem?_eq_getElem h1]
   refine congrArg some (conc_unique (hu i _ av[i] (List.getElem?_eq_getElem hi) (List.getElem?_eq_getElem h2)) (hg.2 i _ _ (List.getElem?_eq_getElem h1) (List.getElem?_eq_getElem h2)) (hp _ (List.getElem_mem h2)))
  ·rw[List.getElem?_eq_none (by omega),List.getElem?_eq_none (by omega)]
 subst he
 refine (h W U hG).mono ?_
 rintro e W' ⟨rfl,hb⟩
 refine ⟨v,fun k o=>if k<W.heap.size then U k o else False,rfl,a7n _ _ _ r v (Nat.le_refl _) hr, ?_,hb,fun k hk o=>by simp[hk]⟩
 cases r<;>first|trivial|simp[b2y]at hr
theorem CP_lib{P:Program}{f:Nat}{av:List AV}{vs:List Value}{r:AV}{v:Value}(ha:a8A av=some vs)(hp:∀ a∈av, ∀ cs,a ≠ .tup cs)(hr:b2y r=some v)
  (h:∀ W,Calls P f vs.toArray W fun e W'=>e=.returned v∧Below W.heap.size W W'):CP P f av r:=CP_libG ha hp hr fun W _ _=>h W
end
section
open Go.RowKit
theorem dom2{α:Type}{b d:Nat}{c c' e e':α}:∀ b' cs,lk [(b,c),(d,e)] b'=some cs→∃ cs',lk [(b,c'),(d,e')] b'=some cs':=by
 intro b' cs h
 rw[lk_cons,lk_cons]at h ⊢
 by_cases hb:b'=b
 ·rw[if_pos hb];exact ⟨_,rfl⟩
 ·rw[if_neg hb]at h ⊢
  by_cases hd:b'=d
  ·rw[if_pos hd];exact ⟨_,rfl⟩
  ·rw[if_neg hd]at h;cases h
def c1v(o:Nat→Option (List AV))(K:Nat→Nat→Prop):Prop:=∀ b c,o b=none→o c=none→¬ b=c→¬ c=b→K b c
theorem NewB2_intro{o:Nat→Option (List AV)}{K:Nat→Nat→Prop}(h:∀ b c,o b=none→o c=none→¬ b=c→¬ c=b→K b c):c1v o K:=h
section
variable {P:Program} {d:Option Nat} {s:St} {K:St→Prop}
abbrev c2k(o2:List (Nat × List AV))(ds:List AV):AV→(Nat→Option (List AV))→Prop:=fun r' o'=>∃ c m,(¬ c=m∧lk o2 c=none∧lk o2 m=none)∧r'=.ptr c 0∧o'=lk ((c,[.mapv m])::(m,ds)::o2)
theorem CallO_new2{f:Nat}{vs:List AV}{o1 o2:List (Nat × List AV)}{ds:List AV}(h:CT P f vs (lk o1) (c2k o2 ds))(hsub:∀ b cs,lk o1 b=some cs→s.o b=some cs)(hd:∀ b,lk o2 b=none→lk o1 b=none)
  (hK:c1v s.o (fun c m=>KS (St.put ⟨s.t,ovr ((c,[.mapv m])::(m,ds)::o2) s.o⟩ d (.ptr c 0)) K)):a2b P f vs d s K:=by
 refine ⟨lk o1,_,hsub,h, ?_⟩
 rintro r' o' ⟨c,m,⟨h1,h2,h3⟩,rfl,rfl⟩ hf
 exact hK c m (hf c _ (lk_hd _ _ _) (hd c h2)) (hf m _ (lk_tl (fun e=>h1 e.symm) (lk_hd _ _ _)) (hd m h3)) h1 (fun e=>h1 e.symm)
theorem ro_new2{s:St}{rs:List AR}{o1 o2:List (Nat × List AV)}{ds:List AV}(c m:Nat)(h:a1a s rs (.ptr c 0)∧LeL ((c,[.mapv m])::(m,ds)::o2) s.o)(h1:¬ c=m)(h2:lk o2 c=none)(h3:lk o2 m=none)(hd:∀ b cs,lk o1 b=some cs→∃ cs',lk o2 b=some cs'):b0U s rs (lk o1) (c2k o2 ds):=by
 refine ⟨_,h.1,lk ((c,[.mapv m])::(m,ds)::o2),LeL_ok h.2,fun b cs hb=>?_,c,m,⟨h1,h2,h3⟩,rfl,rfl⟩
 obtain ⟨cs',hc⟩:=hd b cs hb
 refine ⟨cs', ?_⟩
 rw[lk_cons,lk_cons,if_neg (fun e=>by subst e;rw[hc]at h2;cases h2),if_neg (fun e=>by subst e;rw[hc]at h3;cases h3)]
 exact hc
end
end
section
open Go.RowKit
section
variable {P:Program} {W0:World} {U0:Nat→Nat→Prop} {M:Nat→Prop} {W:World} {U:Nat→Nat→Prop}
theorem Inv.res1{o:Nat→Option (List AV)}(h:Inv 0 W0 U0 M { tmps := #[],defers:=[] } W U ⟨fun _=>none,o⟩){v:Value}{r:AV}(hv:VR W U v r)(ho:Sole W0 M { tmps := #[undef],defers:=[] } W U ⟨fun _=>none,o⟩ 0 v r):
  Inv 1 W0 U0 M { tmps := #[v],defers:=[] } W U ⟨upd (fun _=>none) 0 (some r),o⟩:=by
 have h1:Inv 1 W0 U0 M { tmps := #[undef],defers:=[] } W U ⟨fun _=>none,o⟩:=by
  have hc:∀ {ℓ:Loc} {x:AV},St.at ⟨fun _=>none,o⟩ ℓ=some x→cat { tmps := #[undef],defers:=[] } W ℓ=cat { tmps := #[],defers:=[] } W ℓ:=by
   intro ℓ x hx
   cases ℓ with
   | t i=>simp[St.at]at hx
   | o b j=>rfl
  refine ⟨rfl,rfl,h.fr,fun i x hx=>(by simp at hx),h.ob,fun ℓ x hx=>?_,fun ℓ ℓ' e sz els e' sz' els' hne h2 h3=>?_,fun ℓ e sz els h2=>?_⟩
  ·rw[hc hx];exact h.ow ℓ x hx
  ·rw[hc h2,hc h3];exact h.ap ℓ ℓ' _ _ _ _ _ _ hne h2 h3
  ·rw[hc h2];exact h.no ℓ e sz els h2
 exact h1.put (d:=0) (by omega) hv ho
theorem Inv.res2{o:Nat→Option (List AV)}(h:Inv 0 W0 U0 M { tmps := #[],defers:=[] } W U ⟨fun _=>none,o⟩){W':World}{U':Nat→Nat→Prop}(he:Ext W U W' U'){v:Value}{r:AV}(hv:VR W' U' v r)
  (ho:∀ e sz els,r=.sl (some e) sz els→OwnRow W' U' (W.heap.size ≤ ·) v e sz els.length):
  Inv 1 W0 U0 M { tmps := #[v],defers:=[] } W' U' ⟨upd (fun _=>none) 0 (some r),o⟩:=by
 refine (h.ext he).res1 hv fun e sz els hr=>?_
 have hw:=ho e sz els hr
 refine ⟨hw.toB fun g hg=>.inl (Nat.le_trans h.fr.size (OwnRow.inB hw hg)),fun g hg=>⟨?_,fun ℓ _ ⟨e',sz',els',hl⟩ hg'=>?_⟩⟩
 ·cases hs:o g with
  | none=>exact hs
  | some cs=>
   have h1:=h.ob_lt g cs hs
   have h2:W.heap.size≤g:=OwnRow.inB hw hg
   omega
 ·have h2:W.heap.size≤g:=OwnRow.inB hw hg
  cases ℓ with
  | t i=>simp[St.at]at hl
  | o b j=>
   have hl':St.at ⟨fun _=>none,o⟩ (.o b j)=some (.sl (some e') sz' els'):=hl
   have h5:=h.ow (.o b j) _ hl'
   simp only[Own1]at h5
   have hcat:cat { tmps := #[undef],defers:=[] } W' (.o b j)=cat { tmps := #[],defers:=[] } W (.o b j):=cat_ext (a:={ tmps := #[],defers:=[] }) he.b h.ob_lt hl'
   rw[hcat]at hg'
   have:=h5.lt hg'
   omega
theorem CT_reads{f:Nat}{av:List AV}{o1:List (Nat × List AV)}{r:AV}
  (h:∀ (W:World) (U:Nat→Nat→Prop) (vs:List Value),Glob W U→vs.length=av.length→(∀ (i:Nat) (v:Value) (c:AV),vs[i]?=some v→av[i]?=some c→VR W U v c)→(∀ b cs,lk o1 b=some cs→ObR W U b cs)→
   Calls P f vs.toArray W fun e W'=>∃ v U',e=.returned v∧VR W' U' v r∧(∀ e sz els,r=.sl (some e) sz els→OwnRow W' U' (W.heap.size ≤ ·) v e sz els.length)∧Ext W U W' U'):
  CT P f av (lk o1) (fun r' o'=>r'=r∧o'=lk o1):=by
 intro W U vs hl hv hI
 refine (h W U vs hI.fr.g0 hl hv (fun b cs hb=>(hI.ob b cs hb).1)).mono ?_
 rintro e W' ⟨v,U',rfl,hvr,hown,hE⟩
 exact ⟨v,U',r,lk o1,rfl,⟨rfl,rfl⟩,fun b cs hb=>⟨cs,hb⟩,hI.res2 hE hvr hown⟩
theorem CT_lays{f:Nat}{av:List AV}{cs:List AV}{R:Nat→AV}
  (h:∀ (W:World) (U:Nat→Nat→Prop) (vs:List Value),vs.length=av.length→(∀ (i:Nat) (v:Value) (c:AV),vs[i]?=some v→av[i]?=some c→VR W U v c)→
   Calls P f vs.toArray W fun e W'=>∃ (v:Value) (us:Array Value) (ty:TypeId),e=.returned v∧W'=W.alloc (.cells us ty)∧us.size=cs.length∧(∀ u,a1p cs=some u→ty=u)∧
    (∀ (j:Nat) (u:Value),us[j]?=some u→u.oneCell'=true∧∀ x,cs[j]?=some x→VR W U u x∧∀ e sz els,x=.sl (some e) sz els→u=.slice none 0 0∧els=[])∧
    (∀ W2 U2,a0D W2 W.heap.size→VR W2 U2 v (R W.heap.size))∧∀ e sz els,R W.heap.size ≠ .sl (some e) sz els):
  CT P f av (lk []) (fun r' o'=>∃ b,r'=R b∧o'=lk [(b,cs)]):=by
 intro W U vs hl hv hI
 refine (h W U vs hl hv).mono ?_
 rintro e W' ⟨v,us,ty,rfl,rfl,g1,g2,g3,g4,g5⟩
 have hn:=hI.newo (vs:=us) (cs:=cs) (ty:=ty) g1 g2 g3
 have ho:upd (lk ([]:List (Nat × List AV))) W.heap.size (some cs)=lk [(W.heap.size,cs)]:=by rw[upd_lk];simp[pt]
 rw[show ({ (⟨fun _=>none,lk []⟩:St) with o:=upd (lk []) W.heap.size (some cs) }:St)=⟨fun _=>none,lk [(W.heap.size,cs)]⟩ by rw[← ho]]at hn
 exact ⟨v,_,R W.heap.size,_,rfl,⟨W.heap.size,rfl,rfl⟩,fun b' cs hb'=>(by simp[lk]at hb'),hn.res1 (g4 _ _ ⟨_,_,_,heap_alloc_new W _⟩) fun e sz els hr=>absurd hr (g5 e sz els)⟩
end
section
variable {P:Program} {d:Option Nat} {s:St} {K:St→Prop}
theorem CallO_newR{f:Nat}{vs:List AV}{cs:List AV}{R:Nat→AV}(h:CT P f vs (lk []) (fun r' o'=>∃ b,r'=R b∧o'=lk [(b,cs)]))(hK:b0z s.o (fun b=>KS (St.put ⟨s.t,ovr [(b,cs)] s.o⟩ d (R b)) K)):a2b P f vs d s K:=by
 refine ⟨lk [],_,fun b cs hb=>(by simp[lk]at hb),h, ?_⟩
 rintro r' o' ⟨b,rfl,rfl⟩ hf
 exact hK b (hf b cs (by simp[lk]) rfl)
end
end
section
open Go.RowKit Go.ChangeMaps
def b4d(es:Array MapEntry)(seen:Array Nat)(e:MapEntry):Prop:=e∈(leftOf es seen).toList
def b5H(es:Array MapEntry)(seen:Array Nat):Prop:=(leftOf es seen).size=0
structure StepTo (w:World) (r:Nat) (o:Obj) (w2:World):Prop where
 at_:w2.heap[r]?=some o
 grown:w.grownBy w2 (some r)
 size:w2.heap.size=w.heap.size
theorem stepTo_mk{w w1:World}{r:Nat}{o o':Obj}(hr:w.heap[r]?=some o)(h:w1=w∨w1=w.drew):StepTo w r o' (setBlock w1 r o'):=by
 have hlt:r<w.heap.size:=(Array.getElem?_eq_some_iff.1 hr).1
 have hh:w1.heap=w.heap:=by rcases h with rfl|rfl<;>rfl
 refine ⟨?_,⟨?_, ?_, ?_, ?_,fun k hk hne=>?_⟩, ?_⟩
 ·simp[setBlock,hh,hlt]
 ·rcases h with rfl|rfl<;>rfl
 ·rcases h with rfl|rfl<;>rfl
 ·rcases h with rfl|rfl<;>rfl
 ·simp[setBlock,hh]
 ·have:r≠k:=fun e=>hne (by rw[e])
  simp[setBlock,hh,Array.getElem?_setIfInBounds,this]
 ·simp[setBlock,hh]
section
variable {F:Fence} {n:Nat} {P:Program} (w:World) {ops:Array Oper} {rest:List Oper} {o:Oper} {a:Act} {Q:Exit→Act→World→Prop}
theorem b4h(hg:o.guard=none)(m:Operand)(t:TypeId)(hop:o.op=Op.range t m)(k e:TypeId)(ht:P.underlying t=some (.map k e))(b:Nat)(es:Array MapEntry)(clk:Nat)(hm:a.eval m=.map (some b))(hb:w.heap[b]?=some (.map es clk))
  (hK:wpListIn F n P ops Q rest (a.put o.dst (.pointer (some ⟨w.heap.size,0,none⟩))) (w.alloc (.mapIter (some b) clk #[] clk))):wpListIn F n P ops Q (o::rest) a w:=by
 refine wpListIn_plain hg fun K' hK'=>?_
 unfold Oper.wpIn
 refine ⟨by simp[Oper.about,hop], ?_⟩
 rw[Oper.semAt_plain F _ _ (by rw[hop];intro c hc';cases hc')]
 simp only[execOp,hop,hm]
 simp[Instr.range,run_underlying ht,MapKept.run_getObj_map hb,run_newObj,Result.andThen]
 exact hK' _ _ hK
theorem b5V(hg:o.guard=none)(it:Operand)(hop:o.op=Op.next it false)(r b clk:Nat)(es:Array MapEntry)(seen:Array Nat)(hit:a.eval it=.pointer (some ⟨r,0,none⟩))(hr:w.heap[r]?=some (.mapIter (some b) clk seen clk))(hb:w.heap[b]?=some (.map es clk))(hold:∀ x∈es.toList,x.born<clk)
  (hDone:b5H es seen→wpListIn F n P ops Q rest (a.put o.dst (.tuple #[.bool false])) w)
  (hMore:∀ (e:MapEntry) (w2:World),b4d es seen e→StepTo w r (.mapIter (some b) clk (seen.push e.born) clk) w2→wpListIn F n P ops Q rest (a.put o.dst (.tuple #[.bool true,e.key,e.val])) w2):
  wpListIn F n P ops Q (o::rest) a w:=by
 refine wpListIn_plain hg fun K' hK'=>?_
 unfold Oper.wpIn
 refine ⟨by simp[Oper.about,hop], ?_⟩
 rw[Oper.semAt_plain F _ _ (by rw[hop];intro c hc';cases hc')]
 rcases run_next_at (P:=P) w o.type r b clk clk seen es clk hr hb hold (Nat.le_refl _) with ⟨h0,hrun⟩ | ⟨e,he,w1,hw1,hrun⟩
 ·simp[execOp,hop,hit,hrun,Result.andThen]
  exact hK' _ _ (hDone h0)
 ·simp[execOp,hop,hit,hrun,Result.andThen]
  exact hK' _ _ (hMore e _ he (stepTo_mk hr hw1))
theorem b4g(hg:o.guard=none)(it:Operand)(hop:o.op=Op.entry it)(r b clk:Nat)(es:Array MapEntry)(seen:Array Nat)(e:MapEntry)(hit:a.eval it=.pointer (some ⟨r,0,none⟩))(hr:w.heap[r]?=some (.mapIter (some b) clk (seen.push e.born) clk))(hb:w.heap[b]?=some (.map es clk))(he:e∈es.toList)(hn:(es.toList.map (·.born)).Nodup)
  (hK:wpListIn F n P ops Q rest (a.put o.dst (.tuple #[e.key,e.val])) w):wpListIn F n P ops Q (o::rest) a w:=by
 refine wpListIn_plain hg fun K' hK'=>?_
 unfold Oper.wpIn
 refine ⟨by simp[Oper.about,hop], ?_⟩
 rw[Oper.semAt_plain F _ _ (by rw[hop];intro c hc';cases hc')]
 simp[execOp,hop,hit,run_entry_at (P:=P) w r b clk seen es clk e hr hb he hn,Result.andThen]
 exact hK' _ _ hK
theorem a9S(hg:o.guard=none)(hod:o.dst=none)(x v:Operand)(t:TypeId)(hop:o.op=Op.store t x v)(k:Nat)(hsz:(P.info? t).map (·.size)=some k)(b:Nat)(z c:Array Value)(ty:TypeId)(hx:a.eval x=.pointer (some ⟨b,0,none⟩))(hb:w.heap[b]?=some (.cells z ty (0,0)))(hz:z.size=k)
  (hv:(a.eval v).cells=c) (hc:c.size=k) (h1:∀ u∈c.toList,u.oneCell'=true) (hK:wpListIn F n P ops Q rest a (w.setRow b c)):wpListIn F n P ops Q (o::rest) a w:=by
 have hst:=run_storeCells_at P b 0 ty c.toList 0 z w hb (by rw[Array.length_toList];omega) h1
 have hrow:(z.toList.take (0+0)++c.toList++z.toList.drop (0+0+c.toList.length)).toArray=c:=by
  rw[List.drop_eq_nil_of_le (by simp;omega)];simp
 rw[hrow]at hst
 refine wpListIn_plain hg fun K' hK'=>?_
 unfold Oper.wpIn
 refine ⟨by simp[Oper.about,hop], ?_⟩
 rw[Oper.semAt_plain F _ _ (by rw[hop];intro c hc';cases hc')]
 cases hi:P.info? t with
 | none=>simp[hi]at hsz
 | some i=>
  have hin:i.size=k:=by simpa[hi]using hsz
  have hcs:¬ c.size≠i.size:=by omega
  have hrun:(execOp a.eval o).run P w=.ok .skip (w.setRow b c):=by
   simp only[execOp,hop,Instr.storeAt,hx,Instr.sureAddr,Sem.run_bind,Sem.run_pure,Result.andThen_ok,storeVar,sizeOf,typeInfo,run_program,hi,Sem.run_ite,hcs,if_false,hv,hst]
  rw[hrun]
  refine hK' (a.put o.dst undef) _ ?_
  rw[hod]
  exact hK
theorem b1P(hg:o.guard=none)(x:Operand)(t:TypeId)(hop:o.op=Op.load t x)(b:Nat)(c:Array Value)(ty:TypeId)(ha:∀ w,(isAgg t).run P w=.ok true w)(hs:∀ w,(Go.sizeOf t).run P w=.ok c.size w)(hx:a.eval x=.pointer (some ⟨b,0,none⟩))(hb:w.heap[b]?=some (.cells c ty (0,0)))
  (hK:wpListIn F n P ops Q rest (a.put o.dst (.agg c)) w):wpListIn F n P ops Q (o::rest) a w:=by
 have hl:=run_loadCells_list (P:=P) (w:=w) ⟨b,0,none⟩ c.toList (fun j v hj=>by
  rw[a0B,cell_of_row w b _ c ty (0,0) hb]
  rw[Nat.zero_add, ← Array.getElem?_toList];exact hj)
 refine wpListIn_plain hg fun K' hK'=>?_
 unfold Oper.wpIn
 refine ⟨by simp[Oper.about,hop], ?_⟩
 rw[Oper.semAt_plain F _ _ (by rw[hop];intro c hc';cases hc')]
 have hrun:(execOp a.eval o).run P w=.ok (.value (.agg c)) w:=by
  simp only[Array.length_toList]at hl
  simp[execOp,hop,hx,Instr.loadAt,Instr.sureAddr,loadVar,ha,hs,hl]
 rw[hrun]
 exact hK' _ _ hK
theorem b8r(hg:o.guard=none)(x:Operand)(t e:TypeId)(hop:o.op=Op.buildSlice t 1 #[(0,x)])(i:TypeInfo)(hu:P.underlying t=some (.slice e))(hi:P.info? e=some i)(z:Value)(hz:i.zero=some z)(k:Nat)(hk:i.size=k)(hz2:z.cells.size=k)(hpos:0<k)(hsm:k≤16777216)
  (c:Array Value) (hx:(a.eval x).cells=c) (hc:c.size=k) (hK:wpListIn F n P ops Q rest (a.put o.dst (.slice (some ⟨w.heap.size,0,none⟩) 1 1)) (w.alloc (.cells c e))):wpListIn F n P ops Q (o::rest) a w:=by
 subst hk
 have hf:=Go.Great.fill_whole hpos [a.eval x] ((Array.range (1 * i.size)).map (z.cells[· % z.cells.size]!)) (fun v hv=>by simp only[List.mem_singleton]at hv;subst hv;rw[hx,hc]) (by simp)
 have hrun:=run_buildSlice (P:=P) w t e 1 #[(0,a.eval x)] _ i z hu hi hz (by omega) (by omega) hf
 refine wpListIn_plain hg fun K' hK'=>?_
 unfold Oper.wpIn
 refine ⟨by simp[Oper.about,hop], ?_⟩
 rw[Oper.semAt_plain F _ _ (by rw[hop];intro c hc';cases hc')]
 have hr:(execOp a.eval o).run P w=.ok (.value (.slice (some ⟨w.heap.size,0,none⟩) 1 1)) (w.alloc (.cells c e)):=by
  have hl:([a.eval x].flatMap fun v=>v.cells.toList).toArray=c:=by simp[hx]
  rw[hl]at hrun
  simp only[execOp,hop,Sem.run_bind]
  rw[show (#[(0,x)].map fun (p:Nat × Operand)=>(p.1,a.eval p.2)) = #[(0,a.eval x)] by simp]
  rw[hrun];rfl
 rw[hr]
 exact hK' _ _ hK
end
theorem b1c(w:World)(z c:Array Value)(ty:TypeId):(w.alloc (.cells z ty)).setRow w.heap.size c=w.alloc (.cells c ty):=by
 simp only[World.setRow,World.alloc]
 congr 1
 apply Array.ext_getElem?
 intro i
 rw[Array.getElem?_modify]
 by_cases h:w.heap.size=i
 ·subst h;simp
 ·rw[if_neg h]
  by_cases h2:i<w.heap.size
  ·simp[Array.getElem?_push,h,Ne.symm h]
  ·simp[Array.getElem?_push,h,Ne.symm h]
end
section
open Go.RowKit Go.ChangeMaps
theorem alloc_at{w:World}{k:Nat}(h:w.heap.size=k)(o:Obj):(w.alloc o).heap[k]?=some o:=by subst h;exact World.alloc_heap_new w o
theorem alloc_setRow2{w:World}{k:Nat}(h:w.heap.size=k)(z c:Array Value)(ty:TypeId):(w.alloc (.cells z ty)).setRow k c=w.alloc (.cells c ty):=by subst h;exact b1c w z c ty
structure Came (es:Array MapEntry) (seen:Array Nat) (is:List Nat):Prop where
 nd:is.Nodup
 lt:∀ i∈is,i<es.size
 sn:seen.toList=is.map fun i=>(es[i]?.map (·.born)).getD 0
theorem Came.nil(es:Array MapEntry):Came es #[] []:=⟨by simp,by simp,rfl⟩
theorem born_at{es:Array MapEntry}(hn:(es.toList.map (·.born)).Nodup){i j:Nat}(hi:i<es.size)(hj:j<es.size)(h:(es[i]?.map (·.born)).getD 0=(es[j]?.map (·.born)).getD 0):i=j:=by
 have hi':i<(es.toList.map (·.born)).length:=by simpa using hi
 have hj':j<(es.toList.map (·.born)).length:=by simpa using hj
 have hp:=List.pairwise_iff_getElem.1 hn
 rcases Nat.lt_trichotomy i j with hlt|rfl|hlt
 ·exact absurd (by simpa[hi,hj]using h) (hp i j hi' hj' hlt)
 ·rfl
 ·exact absurd (by simpa[hi,hj]using h.symm) (hp j i hj' hi' hlt)
theorem Came.step{es:Array MapEntry}(hn:(es.toList.map (·.born)).Nodup){seen:Array Nat}{is:List Nat}(h:Came es seen is){e:MapEntry}(he:b4d es seen e):∃ i,es[i]?=some e∧Came es (seen.push e.born) (is++[i]):=by
 simp only[b4d,leftOf,Array.mem_toList_iff,Array.mem_filter,Bool.not_eq_true']at he
 obtain ⟨he1,he2⟩:=he
 obtain ⟨i,hi,rfl⟩:=Array.getElem_of_mem he1
 have hni:i ∉ is:=fun hm=>by
  have:es[i].born∈seen.toList:=by
   rw[h.sn]
   exact List.mem_map.2 ⟨i,hm,by simp[hi]⟩
  simp_all
 refine ⟨i,by simp[hi],List.nodup_append.2 ⟨h.nd,by simp,fun a ha b hb=>by simp at hb;subst hb;intro e;subst e;exact hni ha⟩,fun j hj=>?_, ?_⟩
 ·rcases List.mem_append.1 hj with hj|hj
  ·exact h.lt j hj
  ·simp at hj;omega
 ·rw[Array.toList_push,h.sn];simp[hi]
theorem b0N:∀ (n:Nat) (is:List Nat),is.Nodup→(∀ i∈is,i<n)→(∀ i,i<n→i∈is)→is.Perm (List.range n):=by
 intro n is h1 h2 h3
 rw[List.perm_iff_count]
 intro a
 rw[h1.count,List.nodup_range.count]
 by_cases ha:a<n
 ·simp[h3 a ha,ha]
 ·have:a ∉ is:=fun h=>ha (h2 a h)
  simp[this,ha]
theorem Came.all{es:Array MapEntry}(hn:(es.toList.map (·.born)).Nodup){seen:Array Nat}{is:List Nat}(h:Came es seen is)(h0:b5H es seen):is.Perm (List.range es.size):=by
 refine b0N _ _ h.nd h.lt fun i hi=>?_
 have he:∀ x∈es,seen.contains x.born=true:=by
  intro x hx
  by_cases hc:seen.contains x.born=true
  ·exact hc
  ·have:x∈leftOf es seen:=by simp only[leftOf,Array.mem_filter];exact ⟨hx,by simpa using hc⟩
   rw[Array.eq_empty_of_size_eq_zero (show (leftOf es seen).size=0 from h0)]at this
   simp at this
 have h1:=he es[i] (Array.getElem_mem hi)
 have h2:es[i].born∈seen.toList:=by simpa using h1
 rw[h.sn,List.mem_map]at h2
 obtain ⟨j,hj,e⟩:=h2
 have:=born_at hn (h.lt j hj) hi (by rw[e];simp[hi])
 rw[← this];exact hj
theorem range_getD_map{α:Type}[Inhabited α](l:List α):(List.range l.length).map (fun i=>l.getD i default)=l:=by
 apply List.ext_getElem
 ·simp
 ·intro i h1 h2
  simp at h1
  simp[List.getD,h1]
def b5z(w:World)(r:Nat):Nat:=match w.heap[r]? with
 | some (.mapIter _ _ seen _)=>seen.size
 | _=>0
theorem Came.size{es:Array MapEntry}{seen:Array Nat}{is:List Nat}(h:Came es seen is):seen.size=is.length:=by
 have:=congrArg List.length h.sn
 simpa using this
theorem b0a:∀ (n:Nat) (s:List Nat),s.Nodup→(∀ x∈s,x<n)→s.length≤n
 | 0,s,_,hs=>by
  cases s with
  | nil=>simp
  | cons x s=>exact absurd (hs x (by simp)) (by omega)
 | n+1,s,hn,hs=>by
  have h1:=b0a n (s.erase n) (hn.erase n) fun x hx=>by
   have:=(hn.mem_erase_iff).1 hx
   have:=hs x this.2
   omega
  rw[List.length_erase]at h1
  split at h1<;>omega
end
section
open Go.RowKit
theorem heap_setCell_one{W:World}{B:Nat}{v:Value}{t:TypeId}(v':Value)(h:W.heap[B]?=some (.cells #[v] t (0,0))):(W.setCell ⟨B,0,none⟩ v').heap[B]?=some (.cells #[v'] t (0,0)):=by
 obtain ⟨hlt,hk⟩:=Array.getElem?_eq_some_iff.1 h
 show (W.heap.modify B _)[B]?=_
 rw[Array.getElem?_eq_getElem (by rw[Array.size_modify];exact hlt),Array.getElem_modify_self,hk]
 rfl
theorem a9V(W:World)(b:Nat)(v:Value):W.grownBy (W.setCell ⟨b,0,none⟩ v) (some b):=
 ⟨rfl,rfl,rfl,by show W.heap.size≤(W.heap.modify _ _).size;rw[Array.size_modify];exact Nat.le_refl _,fun k _ hk=>Below.heap_setCell W _ v k (fun e=>hk (by rw[e]))⟩
section
variable {F:Fence} {n:Nat} {P:Program}
theorem walk_seq{α:Type}{g:Operand}{pt:Tmp}{assign body:Code}{Q:Exit→Act→World→Prop}{a:Act}{w:World}(hro:F.round=none)(h1:1≤n){gf:Nat}{lb:Array Value}(hg:a.eval g=.func (.func gf) #[] lb)(hFg:F.fn gf)
  (eg:∀ args w,(callFunc gf args).run P w=.ok (.enter gf args) w) {enc:α→Value} {S:List α→Prop} {N:Nat} (hseq:SeqStops F (n - 1) P gf lb enc S (fun _=>True) N w)
  (I:List α→World→Prop) (hI:OwnFrom w.heap.size I) (h0:I [] w) (ob:α→Obj) (hob:∀ x,(ob x).isCells=true) (a₁:α→Nat→Act)
  (hassign:∀ (l:Nat) (x:α) (W:World) (K:Act→World→Prop),K (a₁ x W.heap.size) (W.alloc (ob x))→
   assign.wpIn (F.inRound l) (n - 1 - 1) P (Exit.then K (fun _ _ _=>False)) { tmps:=a.tmps.setIfInBounds pt (enc x),defers:=[] } W)
  (hbody:∀ (l:Nat) (pre:List α) (x:α) (W:World) (p:Nat),I pre W→pre.length<N→W.heap[p]?=some (ob x)→w.heap.size≤p→
   body.wpIn (F.inRound l) (n - 1 - 1) P (fun e _ W'=>e=.normal∧KeepsOthers W W'∧I (pre++[x]) W') (a₁ x p) W)
  (hdone:∀ (D:Nat) (xs:List α) (W:World),w.heap.size≤D→S xs→I xs W→W.heap[D]?=some (.deferred (some []))→Q .normal { a with defers:={ target:=.collected D,args := #[] }::a.defers } W):
  (Code.rangeFunc g #[pt] assign body).wpIn F n P Q a w:=by
 refine wpIn_rangeFunc ?_
 intro fn hfn
 rw[hro]
 obtain ⟨rc,hrc⟩:∃ rc:LoopState→Loop,rc=fun st=>{ state:=st,pending:=none,fn,tmps:=a.tmps,params := #[pt],assign,body,defers:=w.heap.size }:=⟨_,rfl⟩
 obtain ⟨W1,hW1⟩:∃ W1,(w.alloc (.deferred (some []))).alloc (.loop (rc .ready))=W1:=⟨_,rfl⟩
 have hs1:W1.heap.size=w.heap.size+2:=by rw[← hW1];simp
 have hL:W1.heap[w.heap.size+1]?=some (.loop (rc .ready)):=by rw[← hW1];exact alloc_at (by simp) _
 have hK:W1.heap[w.heap.size]?=some (.deferred (some [])):=by rw[← hW1];exact (Below.heap_alloc _ _ _ (by simp)).trans (World.alloc_heap_new w _)
 have hI1:I [] W1:=by rw[← hW1];exact hI.alloc _ (hI.alloc _ h0)
 have hb1:Below w.heap.size w W1:=by rw[← hW1];exact ((Below.refl _ w).alloc (Nat.le_refl _) _).alloc (by simp) _
 refine ⟨w.heap.size+1,[{ target:=.collected w.heap.size,args := #[] }],W1, { target:=.fn (.func gf) lb,args := #[.func (.yield (w.heap.size+1)) #[] #[]] },W1,gf, #[.func (.yield (w.heap.size+1)) #[] #[]]++lb,W1, ?_, ?_, ?_, ?_,fun _=>h1, ?_⟩
 ·rw[← hW1,hrc];exact run_enterLoop_outer _ _ _ _ _
 ·simp only[resolve,hg];simp[go_sem]
 ·intro f' hf';simp[Target.leads]at hf';subst hf';exact hFg
 ·simp[invoke,go_sem,eg]
 have hnc:∀ {A:World} {row:Option Nat},(∀ r,row=some r→W1.heap.size≤r∧∃ o:Obj,A.heap[r]?=some o∧o.isWalk=true)→∀ r,row=some r→w.heap.size≤r∧∃ o:Obj,A.heap[r]?=some o∧o.isCells=false:=
  fun hr r e=>by obtain ⟨hB,o,ho,hw⟩:=hr r e;exact ⟨by omega,o,ho,Obj.not_cells_of_walk hw⟩
 refine (hseq (w.heap.size+1) (fun pre W=>I pre W∧W.heap[w.heap.size+1]?=some (.loop (rc .ready))∧W.heap[w.heap.size]?=some (.deferred (some []))) (fun _ _=>False) W1 hb1
  (fun s A B row hs hg' hr=>⟨hI s A B row hs.1 hg' (hnc hr),(grownBy_keeps hg' (fun r e=>(hr r e).2) hs.2.1 rfl).trans hs.2.1,(grownBy_keeps hg' (fun r e=>(hr r e).2) hs.2.2 rfl).trans hs.2.2⟩)
  (fun _ _ _ _ h _ _=>h) ?_ ⟨hI1,hL,hK⟩).mono ?_
 ·rintro pre x W ⟨hi,hl,hk⟩ hlen
  have hlt:w.heap.size+1<W.heap.size:=(Array.getElem?_eq_some_iff.1 hl).1
  have hy:=run_yield (P:=P) (args := #[enc x]) hl (by rw[hrc];rfl)
  have hl2:(W.alloc (ob x)).heap[w.heap.size+1]?=some (.loop (rc .ready)):=(Below.heap_alloc _ _ _ hlt).trans hl
  have hk2:(W.alloc (ob x)).heap[w.heap.size]?=some (.deferred (some [])):=(Below.heap_alloc _ _ _ (by omega)).trans hk
  have hp2:(W.alloc (ob x)).heap[W.heap.size]?=some (ob x):=World.alloc_heap_new W _
  have hy:(Instr.yield (w.heap.size+1) #[enc x]).run P W=.ok (.round (w.heap.size+1) fn (a.tmps.setIfInBounds pt (enc x)) assign body) W:=by rw[hrc]at hy;simpa using hy
  refine ⟨fn,_,assign,body,hy,roundIn_of_wpIn hfn ?_⟩
  have hbr:=run_beginRound (P:=P) hl2 (by rw[hrc])
  obtain ⟨W3,hW3⟩:∃ W3,(W.alloc (ob x)).putObj (w.heap.size+1) (.loop { rc .ready with state:=.busy })=W3:=⟨_,rfl⟩
  rw[hW3]at hbr
  have hl3:W3.heap[w.heap.size+1]?=some (.loop { rc .ready with state:=.busy }):=by rw[← hW3];exact World.putObj_heap_same (by simp;omega)
  have hk3:W3.heap[w.heap.size]?=some (.deferred (some [])):=by rw[← hW3];exact (World.putObj_heap_other (by omega)).trans hk2
  have hp3:W3.heap[W.heap.size]?=some (ob x):=by rw[← hW3];exact (World.putObj_heap_other (by omega)).trans hp2
  have hi3:I pre W3:=by rw[← hW3];exact hI.putObj _ (hI.alloc _ hi) (by omega) hl2 rfl
  have hw3:KeepsWalks W W3:=by rw[← hW3];exact (KeepsWalks.alloc _ _).trans (KeepsWalks.putObj _ hl2 rfl)
  refine hassign (w.heap.size+1) x W _ ?_
  refine ⟨W3,hbr, ?_⟩
  refine wpIn_mono (hbody (w.heap.size+1) pre x W3 W.heap.size hi3 hlen hp3 (by omega)) ?_
  rintro e a3 W4 ⟨rfl,ho4,hi4⟩
  have hl4:=ho4.same _ _ hl3 rfl
  have hk4:=ho4.same _ _ hk3 rfl
  have her:=run_endRound (P:=P) none hl4
  refine ⟨_,_,her,.inl ⟨rfl,⟨hI.putObj _ hi4 (by omega) hl4 rfl, ?_,(World.putObj_heap_other (by omega)).trans hk4⟩,(hw3.trans ho4.walks).trans (KeepsWalks.putObj _ hl4 rfl)⟩⟩
  rw[World.putObj_heap_same (Array.getElem?_eq_some_iff.1 hl4).1,hrc];rfl
 ·rintro e W2 ⟨⟨v,rfl⟩,(⟨xs,hS,hi,hl,hk⟩ | ⟨_,_,hf⟩)⟩
  ·have hel:=run_endLoop (P:=P) hl (by rw[hrc];simp)
   rw[hrc]at hel
   exact ⟨none,_,hel,hdone _ xs _ (Nat.le_refl _) hS (hI.putObj _ hi (by omega) hl rfl) ((World.putObj_heap_other (by omega)).trans hk)⟩
  ·exact hf.elim
end
end
section
open Go.RowKit Go.Sort
section
variable {α:Type} [Inhabited α] {cl:α→List Value} {k:Nat}
theorem a7N(hcl:∀ x,(cl x).length=k):∀ (xs:List α) (i j:Nat),i<xs.length→j<k→(xs.flatMap cl)[i * k+j]?=(cl (xs[i]?.getD default))[j]?
 | [],i,j,h,_=>by simp at h
 | x::xs,0,j,_,hj=>by
  rw[List.flatMap_cons,List.getElem?_append_left (by rw[hcl];omega)];simp
 | x::xs,i+1,j,h,hj=>by
  rw[List.flatMap_cons,List.getElem?_append_right (by rw[hcl,Nat.add_mul];omega),hcl]
  have:(i+1) * k+j - k=i * k+j:=by rw[Nat.add_mul];omega
  rw[this,a7N hcl xs i j (by simpa using h) hj];simp
theorem a5o(hcl:∀ x,(cl x).length=k):∀ xs:List α,(xs.flatMap cl).length=xs.length * k
 | []=>by simp
 | x::xs=>by rw[List.flatMap_cons,List.length_append,hcl,a5o hcl xs,List.length_cons,Nat.add_mul];omega
theorem b2S(hcl:∀ x,(cl x).length=k)(hk:0<k)(xs:List α):flatK cl k xs.toArray=(xs.flatMap cl).toArray:=by
 apply Array.ext
 ·simp[a5o hcl]
 ·intro t h1 h2
  rw[size_flatK]at h1
  have ht:t<xs.length * k:=by simpa using h1
  have hi:t / k<xs.length:=(Nat.div_lt_iff_lt_mul hk).2 ht
  have hj:t % k<k:=Nat.mod_lt _ hk
  have e:t / k * k+t % k=t:=by rw[Nat.mul_comm];exact Nat.div_add_mod t k
  have hf:=a7N hcl xs (t / k) (t % k) hi hj
  rw[e]at hf
  have h3:t<(xs.flatMap cl).length:=by rw[a5o hcl];exact ht
  rw[List.getElem?_eq_getElem h3,List.getElem?_eq_getElem (by rw[hcl];exact hj)]at hf
  simp only[List.getElem_toArray]
  rw[Option.some.inj hf]
  simp only[flatK,Array.getElem_map,Array.getElem_range]
  have hj2:t % k<(cl (xs[t / k]?.getD default)).length:=by rw[hcl];exact hj
  have e3:(xs.toArray[t / k]! : α)=xs[t / k]?.getD default:=by simp[hi]
  rw[e3,List.getElem!_eq_getElem?_getD,List.getElem?_eq_getElem hj2];rfl
theorem holdsK_of_block{w:World}{g:Nat}{cur:Array Value}{e:TypeId}{xs:List α}(hcl:∀ x,(cl x).length=k)(hk:0<k)(hb:w.heap[g]?=some (.cells cur e (0,0)))(ht:cur.toList.take (xs.length * k)=xs.flatMap cl):HoldsK cl k w g 0 xs.toArray:=by
 unfold HoldsK
 rw[b2S hcl hk]
 intro j hj
 have hj':j<(xs.flatMap cl).length:=by simpa using hj
 have hj2:j<xs.length * k:=by rw[← a5o hcl];exact hj'
 refine ⟨?_,by simp[World.frozen?,hb]⟩
 have h1:(cur.toList.take (xs.length * k))[j]?=(xs.flatMap cl)[j]?:=by rw[ht]
 rw[List.getElem?_take_of_lt hj2]at h1
 simp only[World.cell?,hb,Nat.zero_add,Option.isSome_none,Bool.false_eq_true,if_false]
 rw[← Array.getElem?_toList,h1,List.getElem?_eq_getElem hj']
 simp[List.getElem?_eq_getElem hj']
theorem grown_sortK{w:World}{g n:Nat}{os:Array Obj}(d:Array α):w.grownBy (sortWorldK cl k w g 0 n d os) (some g):=by
 refine ⟨rfl,rfl,rfl,by simp[sortWorldK,putRowK,putRow,mapBlock,grow,Sort.ahead],fun j hj hne=>?_⟩
 have hgj:g≠j:=fun e=>hne (by rw[e])
 unfold sortWorldK
 rw[heap_grow_old _ _ (by simpa[putRowK,putRow,mapBlock,Sort.ahead]using hj)]
 simp[putRowK,putRow,mapBlock,Sort.ahead,Array.getElem?_modify,hgj]
theorem ownsRow_sortK{w:World}{base g cap n:Nat}{e:TypeId}{os:Array Obj}{cur:Array Value}{xs ds:List α}(hcl:∀ x,(cl x).length=k)(hk:0<k)(hl:ds.length=xs.length)(hbase:base≤g)(hb:w.heap[g]?=some (.cells cur e (0,0)))
  (h1:xs.length≤cap) (h2:cap≤maxLen) (h3:cur.size=cap * k):(sortWorldK cl k w g 0 n ds.toArray os).ownsRow base e k (.slice (some ⟨g,0,none⟩) xs.length cap) xs.length (ds.flatMap cl):=by
 have hg:g<w.heap.size:=(Array.getElem?_eq_some_iff.1 hb).1
 have hfl:(ds.flatMap cl).length=xs.length * k:=by rw[a5o hcl,hl]
 have hle:xs.length * k≤cap * k:=Nat.mul_le_mul_right k h1
 have hh:(sortWorldK cl k w g 0 n ds.toArray os).heap[g]?=some (.cells (putCells id 0 (ds.flatMap cl).toArray cur) e (0,0)):=by
  unfold sortWorldK
  rw[heap_grow_old _ _ (by simpa[putRowK,putRow,mapBlock,Sort.ahead]using hg)]
  simp[putRowK,putRow,mapBlock,Sort.ahead,Array.getElem?_modify,hb,onCells,b2S hcl hk]
 refine ⟨hfl,.inr ⟨g,cap,_,rfl,hbase,hh,h1,h2,by simp[putCells,h3], ?_⟩⟩
 apply List.ext_getElem?
 intro j
 by_cases hj:j<xs.length * k
 ·rw[List.getElem?_take_of_lt hj,Array.getElem?_toList]
  have hjc:j<cur.size:=by omega
  have hjd:j<(ds.flatMap cl).length:=by omega
  simp only[putCells,Array.getElem?_mapIdx,Array.getElem?_eq_getElem hjc,Option.map_some,Nat.zero_le,true_and,Nat.zero_add,List.size_toArray,hjd,if_true,Nat.sub_zero,id]
  rw[List.getElem?_eq_getElem hjd]
  simp[List.getElem?_eq_getElem hjd]
 ·rw[List.getElem?_take_eq_none (by omega),List.getElem?_eq_none (by omega)]
end
theorem row_VR{W W':World}{U:Nat→Nat→Prop}{e k n:Nat}{v:Value}{xs:List Value}{els:List (List AV)}(hk:0<k)(hb:RowKit.Below W.heap.size W W')(hrow:W'.ownsRow W.heap.size e k v n xs)(hn:els.length=n)(hsz:∀ l∈els,l.length=k)(hone:∀ u∈xs,u.oneCell'=true)
  (hv:∀ (i j:Nat) (l:List AV) (c:AV) (u:Value),els[i]?=some l→l[j]?=some c→xs[i * k+j]?=some u→∀ W U,VR W U u c):
  ∃ U',VR W' U' v (.sl (some e) k els)∧OwnRow W' U' (W.heap.size ≤ ·) v e k els.length∧Ext W U W' U':=by
 subst hn
 obtain ⟨hlen,hnil | ⟨g,cap,cur,rfl,hbase,hgb,h1,h2,h3,h4⟩⟩:=hrow
 ·obtain ⟨rfl,h0⟩:=hnil
  have:els=[]:=List.eq_nil_of_length_eq_zero h0
  subst this
  exact ⟨fun b o=>if b<W.heap.size then U b o else False,VR.nil _ _,.inl ⟨rfl,rfl⟩,hb,fun j hj o=>by simp[hj]⟩
 ·have hcell:∀ t,t<els.length * k→∃ u,xs[t]?=some u∧W'.cell? ⟨g,t,none⟩=some u:=by
   intro t ht
   have ht':t<xs.length:=by omega
   refine ⟨xs[t],List.getElem?_eq_getElem ht', ?_⟩
   have q:(cur.toList.take (els.length * k))[t]?=xs[t]?:=by rw[h4]
   rw[List.getElem?_take_of_lt ht,Array.getElem?_toList,List.getElem?_eq_getElem ht']at q
   simp only[World.cell?,hgb,Option.isSome_none,Bool.false_eq_true,if_false]
   exact q
  refine ⟨fun b o=>if b<W.heap.size then U b o else (b=g∧els.length * k≤o), ?_,.inr ⟨g,cap,cur,rfl,hbase,.of hgb,h1,h2,h3,fun o ho=>?_,fun o ho=>?_⟩,hb,fun j hj o=>by simp[hj]⟩
  ·refine .sl (some ⟨g,0,none⟩) cap (some e) els g 0 k (fun i j=>(xs[i * k+j]?).getD undef) h1 h2 (fun _=>rfl) hsz (fun i j hi hj=>?_) (fun i l j c hl hc=>?_)
   ·have ht:i * k+j<els.length * k:=by
     have:=Nat.mul_le_mul_right k (show i+1≤els.length from hi)
     rw[Nat.add_mul,Nat.one_mul]at this;omega
    obtain ⟨u,q1,q2⟩:=hcell _ ht
    rw[q1,Nat.zero_add]
    refine ⟨q2,hone u (List.mem_of_getElem? q1), ?_⟩
    simp only[show ¬ g<W.heap.size by omega,if_false]
    omega
   ·have hi:i<els.length:=(List.getElem?_eq_some_iff.1 hl).1
    have hj:j<k:=by rw[← hsz l (List.mem_of_getElem? hl)];exact (List.getElem?_eq_some_iff.1 hc).1
    have ht:i * k+j<els.length * k:=by
     have:=Nat.mul_le_mul_right k (show i+1≤els.length from hi)
     rw[Nat.add_mul,Nat.one_mul]at this;omega
    obtain ⟨u,q1,_⟩:=hcell _ ht
    rw[q1]
    exact hv i j l c u hl hc q1 _ _
  ·simp only[show ¬ g<W.heap.size by omega,if_false];omega
  ·simp only[show ¬ g<W.heap.size by omega,if_false];exact ⟨trivial,ho⟩
end
end Go.Proofs.YtfgihnhoocnmdaaGreatDoor
