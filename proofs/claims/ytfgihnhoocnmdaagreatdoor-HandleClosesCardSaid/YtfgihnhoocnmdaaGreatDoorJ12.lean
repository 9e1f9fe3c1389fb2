import Derived.Test.YtfgihnhoocnmdaaGreatDoorJ11
import Derived.Maps.RangeWalk
import Derived.OwnWalkIn
namespace Go.Proofs.YtfgihnhoocnmdaaGreatDoor
set_option linter.all false
set_option maxHeartbeats 64000000
set_option maxRecDepth 100000
section
theorem Ed:(((((((type_of% @opsW_cons∧type_of% @opsW_nil)∧(type_of% @opsK_ap∧(type_of% @opW_none∧type_of% @opW_some)))∧((type_of% @kW_mv∧type_of% @kW_nil)∧(type_of% @kW_tk∧(type_of% @kW_newv∧type_of% @kW_box))))∧(((type_of% @kW_ld∧type_of% @kW_sto)∧(type_of% @kW_fld∧(type_of% @kW_idx∧type_of% @kW_sidx)))∧((type_of% @kW_bin∧(type_of% @kW_beq∧type_of% @kW_un))∧(type_of% @kW_len∧(type_of% @kW_app∧type_of% @kW_bs)))))∧((((type_of% @kW_bld∧type_of% @kW_fldv)∧(type_of% @kW_call∧(type_of% @kW_ext∧type_of% @kW_nilc)))∧((type_of% @kW_pick∧type_of% @kW_slc)∧(type_of% @kW_conv∧(type_of% @kW_s2s∧type_of% @kW_b2s))))∧(((type_of% @wpx_skip∧type_of% @wpx_reg)∧(type_of% @wpx_seq∧(type_of% @wpx_cond∧type_of% @wpx_block)))∧((type_of% @wpx_loopW∧(type_of% @wpx_exit∧type_of% @wpx_ret))∧(type_of% @nQ_ap∧(type_of% @wQ_ap∧type_of% @th_n))))))∧(((((type_of% @th_r∧type_of% @th_e)∧(type_of% @bl_n∧(type_of% @bl_r∧type_of% @bl_e)))∧((type_of% @rq_n∧type_of% @rq_r)∧(type_of% @rq_e∧(type_of% @r3_n∧type_of% @r3_r))))∧(((type_of% @r3_e∧type_of% @r_one)∧(type_of% @r_two∧(type_of% @r_nil∧type_of% @rl_cons)))∧((type_of% @l_one∧(type_of% @l_all∧type_of% @putK.eq_1))∧(type_of% @mvK.eq_1∧(type_of% @tkK.eq_1∧type_of% @newK.eq_1)))))∧((((type_of% @boxK.eq_1∧type_of% @ldK2.eq_1)∧(type_of% @ldK.eq_1∧(type_of% @stoK.eq_1∧type_of% @sto2K.eq_1)))∧((type_of% @sto1K.eq_1∧type_of% @un1K.eq_1)∧(type_of% @bi2K.eq_1∧(type_of% @bi1K.eq_1∧type_of% @app2K.eq_1))))∧(((type_of% @app1K.eq_1∧type_of% @bsK.eq_1)∧(type_of% @aggK.eq_1∧(type_of% @bldK.eq_1∧type_of% @callK.eq_1)))∧((type_of% @pk3K.eq_1∧(type_of% @pk2K.eq_1∧type_of% @pk1K.eq_1))∧(type_of% @sl3K.eq_1∧(type_of% @sl2K.eq_1∧type_of% @sl1K.eq_1)))))))∧((((((type_of% @strK.eq_1∧type_of% @b2K.eq_1)∧(type_of% @bwK.eq_1∧(type_of% @pk_t∧type_of% @pk_f)))∧((type_of% @bw_some∧type_of% @c_t)∧(type_of% @c_f∧(type_of% @g_tt∧type_of% @g_tf))))∧(((type_of% @g_ft∧type_of% @g_ff)∧(type_of% @g_undef∧(type_of% @kW_callo∧type_of% @kW_calln)))∧((type_of% @callnK.eq_1∧(type_of% @kW_callv∧type_of% @kW_hbs))∧(type_of% @hbsK.eq_1∧(type_of% @hbsN.eq_1∧type_of% @kW_ldt)))))∧((((type_of% @kW_stt∧type_of% @calloK.eq_1)∧(type_of% @ldt3.eq_1∧(type_of% @ldt2.eq_1∧type_of% @stt3.eq_1)))∧((type_of% @stt1.eq_1∧type_of% @r2_n)∧(type_of% @r2_r∧(type_of% @r2_e∧type_of% @kW_aeq))))∧(((type_of% @RK_aeqf∧type_of% @RK_aeqt)∧(type_of% @kW_apps∧(type_of% @apps2K.eq_1∧type_of% @apps1K.eq_1)))∧((type_of% @kW_aidx∧(type_of% @kW_mk∧type_of% @mkK.eq_1))∧(type_of% @kW_vidx∧(type_of% @kW_mn∧type_of% @otF_nil))))))∧(((((type_of% @otF_op∧type_of% @otF_two)∧(type_of% @otFK_ap∧(type_of% @otW_nil∧type_of% @otW_op)))∧((type_of% @otW_two∧type_of% @otWK_ap)∧(type_of% @twoK.eq_1∧(type_of% @wpx_treeW∧type_of% @kW_mx))))∧(((type_of% @kW_mkm∧type_of% @mkmK.eq_1)∧(type_of% @mq5.eq_1∧(type_of% @mq1.eq_1∧type_of% @kW_mq)))∧((type_of% @mu5.eq_1∧(type_of% @mu2.eq_1∧type_of% @mu1.eq_1))∧(type_of% @kW_mu∧(type_of% @rngK.eq_1∧type_of% @kW_rng)))))∧((((type_of% @kW_nxt∧type_of% @kW_ent)∧(type_of% @kW_peq∧(type_of% @kW_app0∧type_of% @kW_cro)))∧((type_of% @croK.eq_1∧(type_of% @kW_ldr∧type_of% @kW_ldh))∧(type_of% @ldhK2.eq_1∧(type_of% @ldhK.eq_1∧type_of% @kW_b2o))))∧(((type_of% @kW_b2d∧type_of% @kW_asl)∧(type_of% @kW_s2b∧(type_of% @kW_hslc∧type_of% @hs1K.eq_1)))∧((type_of% @hs2K.eq_1∧(type_of% @hs3K.eq_1∧type_of% @kW_hnl))∧(type_of% @kW_hap0∧(type_of% @kW_hap∧type_of% @hap1K.eq_1)))))))):=
 ⟨⟨⟨⟨⟨⟨⟨@opsW_cons, @opsW_nil⟩,⟨@opsK_ap,⟨@opW_none, @opW_some⟩⟩⟩,⟨⟨@kW_mv, @kW_nil⟩,⟨@kW_tk,⟨@kW_newv, @kW_box⟩⟩⟩⟩,⟨⟨⟨@kW_ld, @kW_sto⟩,⟨@kW_fld,⟨@kW_idx, @kW_sidx⟩⟩⟩,⟨⟨@kW_bin,⟨@kW_beq, @kW_un⟩⟩,⟨@kW_len,⟨@kW_app, @kW_bs⟩⟩⟩⟩⟩,⟨⟨⟨⟨@kW_bld, @kW_fldv⟩,⟨@kW_call,⟨@kW_ext, @kW_nilc⟩⟩⟩,⟨⟨@kW_pick, @kW_slc⟩,⟨@kW_conv,⟨@kW_s2s, @kW_b2s⟩⟩⟩⟩,⟨⟨⟨@wpx_skip, @wpx_reg⟩,⟨@wpx_seq,⟨@wpx_cond, @wpx_block⟩⟩⟩,⟨⟨@wpx_loopW,⟨@wpx_exit, @wpx_ret⟩⟩,⟨@nQ_ap,⟨@wQ_ap, @th_n⟩⟩⟩⟩⟩⟩,⟨⟨⟨⟨⟨@th_r, @th_e⟩,⟨@bl_n,⟨@bl_r, @bl_e⟩⟩⟩,⟨⟨@rq_n, @rq_r⟩,⟨@rq_e,⟨@r3_n, @r3_r⟩⟩⟩⟩,⟨⟨⟨@r3_e, @r_one⟩,⟨@r_two,⟨@r_nil, @rl_cons⟩⟩⟩,⟨⟨@l_one,⟨@l_all, @putK.eq_1⟩⟩,⟨@mvK.eq_1,⟨@tkK.eq_1, @newK.eq_1⟩⟩⟩⟩⟩,⟨⟨⟨⟨@boxK.eq_1, @ldK2.eq_1⟩,⟨@ldK.eq_1,⟨@stoK.eq_1, @sto2K.eq_1⟩⟩⟩,⟨⟨@sto1K.eq_1, @un1K.eq_1⟩,⟨@bi2K.eq_1,⟨@bi1K.eq_1, @app2K.eq_1⟩⟩⟩⟩,⟨⟨⟨@app1K.eq_1, @bsK.eq_1⟩,⟨@aggK.eq_1,⟨@bldK.eq_1, @callK.eq_1⟩⟩⟩,⟨⟨@pk3K.eq_1,⟨@pk2K.eq_1, @pk1K.eq_1⟩⟩,⟨@sl3K.eq_1,⟨@sl2K.eq_1, @sl1K.eq_1⟩⟩⟩⟩⟩⟩⟩,⟨⟨⟨⟨⟨⟨@strK.eq_1, @b2K.eq_1⟩,⟨@bwK.eq_1,⟨@pk_t, @pk_f⟩⟩⟩,⟨⟨@bw_some, @c_t⟩,⟨@c_f,⟨@g_tt, @g_tf⟩⟩⟩⟩,⟨⟨⟨@g_ft, @g_ff⟩,⟨@g_undef,⟨@kW_callo, @kW_calln⟩⟩⟩,⟨⟨@callnK.eq_1,⟨@kW_callv, @kW_hbs⟩⟩,⟨@hbsK.eq_1,⟨@hbsN.eq_1, @kW_ldt⟩⟩⟩⟩⟩,⟨⟨⟨⟨@kW_stt, @calloK.eq_1⟩,⟨@ldt3.eq_1,⟨@ldt2.eq_1, @stt3.eq_1⟩⟩⟩,⟨⟨@stt1.eq_1, @r2_n⟩,⟨@r2_r,⟨@r2_e, @kW_aeq⟩⟩⟩⟩,⟨⟨⟨@RK_aeqf, @RK_aeqt⟩,⟨@kW_apps,⟨@apps2K.eq_1, @apps1K.eq_1⟩⟩⟩,⟨⟨@kW_aidx,⟨@kW_mk, @mkK.eq_1⟩⟩,⟨@kW_vidx,⟨@kW_mn, @otF_nil⟩⟩⟩⟩⟩⟩,⟨⟨⟨⟨⟨@otF_op, @otF_two⟩,⟨@otFK_ap,⟨@otW_nil, @otW_op⟩⟩⟩,⟨⟨@otW_two, @otWK_ap⟩,⟨@twoK.eq_1,⟨@wpx_treeW, @kW_mx⟩⟩⟩⟩,⟨⟨⟨@kW_mkm, @mkmK.eq_1⟩,⟨@mq5.eq_1,⟨@mq1.eq_1, @kW_mq⟩⟩⟩,⟨⟨@mu5.eq_1,⟨@mu2.eq_1, @mu1.eq_1⟩⟩,⟨@kW_mu,⟨@rngK.eq_1, @kW_rng⟩⟩⟩⟩⟩,⟨⟨⟨⟨@kW_nxt, @kW_ent⟩,⟨@kW_peq,⟨@kW_app0, @kW_cro⟩⟩⟩,⟨⟨@croK.eq_1,⟨@kW_ldr, @kW_ldh⟩⟩,⟨@ldhK2.eq_1,⟨@ldhK.eq_1, @kW_b2o⟩⟩⟩⟩,⟨⟨⟨@kW_b2d, @kW_asl⟩,⟨@kW_s2b,⟨@kW_hslc, @hs1K.eq_1⟩⟩⟩,⟨⟨@hs2K.eq_1,⟨@hs3K.eq_1, @kW_hnl⟩⟩,⟨@kW_hap0,⟨@kW_hap, @hap1K.eq_1⟩⟩⟩⟩⟩⟩⟩⟩
theorem Eu:((((((((type_of% @rl_nil∧type_of% @ar_tmp)∧(type_of% @ar_cellf∧type_of% @K1_some))∧((type_of% @KL_some∧type_of% @KP_some)∧(type_of% @RK_eq∧(type_of% @RK_and∧type_of% @RK_andx))))∧(((type_of% @RL_eq∧type_of% @RL_andx)∧(type_of% @KS_lit∧type_of% @BytesW_map))∧((type_of% @st0_eq∧type_of% @put_lk)∧(type_of% @put_none∧(type_of% @upd_lk∧type_of% @upd_del)))))∧((((type_of% @ev_t∧type_of% @ev_c)∧(type_of% @lk_cons∧type_of% @lk_nil))∧((type_of% @pt_cons∧type_of% @pt_nil)∧(type_of% @del_cons∧(type_of% @del_nil∧type_of% @num_cons))))∧(((type_of% @num_nil∧type_of% @al_int)∧(type_of% @al_bool∧(type_of% @al_str∧type_of% @al_agg)))∧((type_of% @al_sl∧type_of% @al_ro)∧(type_of% @al_ptr∧(type_of% @al_nilp∧type_of% @al_fn))))))∧(((((type_of% @al_clo∧type_of% @so_clo)∧(type_of% @ce_clo∧type_of% @al_tup))∧((type_of% @al_undef∧type_of% @ce_int)∧(type_of% @ce_bool∧(type_of% @ce_str∧type_of% @ce_agg))))∧(((type_of% @ce_sl∧type_of% @ce_ro)∧(type_of% @ce_ptr∧type_of% @ce_nilp))∧((type_of% @tk_own∧type_of% @tk_none)∧(type_of% @tk_int∧(type_of% @b_addf∧type_of% @b_subf)))))∧((((type_of% @b_mulf∧type_of% @b_quof)∧(type_of% @b_remf∧type_of% @b_eqlf))∧((type_of% @b_neqf∧type_of% @b_lssf)∧(type_of% @b_leqf∧(type_of% @b_gtrf∧type_of% @b_geqf))))∧(((type_of% @b_catf∧type_of% @b_seqlf)∧(type_of% @b_sneqf∧(type_of% @b_slssf∧type_of% @b_sgtrf)))∧((type_of% @b_sgeqf∧type_of% @be_ff)∧(type_of% @be_tf∧(type_of% @u_notf∧type_of% @u_xorf)))))))∧((((((type_of% @u_negf∧type_of% @v_ro)∧(type_of% @v_ptr∧type_of% @l_onef))∧((type_of% @l_allf∧type_of% @f_rof)∧(type_of% @f_ptrf∧(type_of% @n_strf∧type_of% @n_slf))))∧(((type_of% @i_slf∧type_of% @i_strf)∧(type_of% @a_appf∧type_of% @fv_aggf))∧((type_of% @x_tup0f∧type_of% @x_tupsf)∧(type_of% @nc_rof∧(type_of% @nc_ptrf∧type_of% @so_ptr)))))∧((((type_of% @bt_sl∧type_of% @sc_strf)∧(type_of% @sc_slf∧type_of% @lo_str))∧((type_of% @lo_sl∧type_of% @bw_none)∧(type_of% @iw_int∧(type_of% @cv_intf∧type_of% @ss_strf))))∧(((type_of% @evs_nil∧type_of% @evs_cons)∧(type_of% @evp_nil∧(type_of% @evp_cons∧type_of% @fl_nilf)))∧((type_of% @fl_consf∧type_of% @sp_0n)∧(type_of% @sp_0∧(type_of% @sp_s∧type_of% @sz_nil))))))∧(((((type_of% @sz_cons∧type_of% @Option.some.injEq.{0})∧(type_of% @exists_eq_left.{1}∧type_of% @exists_eq_left'.{1}))∧((type_of% @List.map_cons.{0,0}∧type_of% @List.map_nil.{0,0})∧(type_of% @List.length_cons.{0}∧(type_of% @List.length_nil.{0}∧type_of% @List.drop_succ_cons.{0}))))∧(((type_of% @List.drop_zero.{0}∧type_of% @List.take_succ_cons.{0})∧(type_of% @List.take_zero.{0}∧(type_of% @Option.map_some.{0,0}∧type_of% @Option.bind_some.{0,0})))∧((type_of% @true_and∧type_of% @and_true)∧(type_of% @Bool.not_true∧(type_of% @Bool.not_false∧type_of% @ne_eq.{1})))))∧((((type_of% @not_true_eq_false∧type_of% @not_false_eq_true)∧(type_of% @Option.getD_some.{0}∧type_of% @Option.getD_none.{0}))∧((type_of% @AV.bool.injEq∧type_of% @AV.int.injEq)∧(type_of% @AV.str.injEq∧(type_of% @AV.ptr.injEq∧type_of% @AV.sl.injEq))))∧(((type_of% @AV.ro.injEq∧type_of% @AV.agg.injEq)∧(type_of% @AV.tup.injEq∧(type_of% @Nat.zero_add∧type_of% @Nat.add_zero)))∧((type_of% @Bool.not_not∧type_of% @eq_self.{1})∧(type_of% @Nat.zero_lt_succ∧(type_of% @decide_true∧type_of% @decide_false))))))))∧(((((((type_of% @Int.toNat_natCast∧type_of% @Int.natCast_nonneg)∧(type_of% @callv_fn∧type_of% @ldt_ptr))∧((type_of% @ldt_ro∧type_of% @stt_ptr)∧(type_of% @ovr_lk∧(type_of% @ov_nil∧type_of% @ov_cons))))∧(((type_of% @ldE_own∧type_of% @ldE_none)∧(type_of% @stE_own∧type_of% @stE_none))∧((type_of% @ce_sln∧type_of% @List.getElem?_cons_zero.{0})∧(type_of% @List.getElem?_cons_succ.{0}∧(type_of% @ldE_nils∧type_of% @al_nils)))))∧((((type_of% @so_nils∧type_of% @so_int)∧(type_of% @so_bool∧type_of% @so_str))∧((type_of% @so_sl∧type_of% @so_ro)∧(type_of% @so_pt∧(type_of% @so_nilp∧type_of% @so_fn))))∧(((type_of% @b_orf∧type_of% @b_andf)∧(type_of% @b_xorf∧(type_of% @b_andNotf∧type_of% @b_shlf)))∧((type_of% @b_shrf∧type_of% @KB_some)∧(type_of% @oand_some∧(type_of% @eqC_nil∧type_of% @eqC_i))))))∧(((((type_of% @eqC_b∧type_of% @eqC_s)∧(type_of% @Bool.and_true∧type_of% @a_appsf))∧((type_of% @ai_ptr∧type_of% @ai_ro)∧(type_of% @mk_int∧(type_of% @n_oslf∧type_of% @i_oslf))))∧(((type_of% @al_osl∧type_of% @ce_osl)∧(type_of% @so_osl∧(type_of% @tk_osl∧type_of% @al_nili)))∧((type_of% @ce_nili∧type_of% @so_nili)∧(type_of% @AV.osl.injEq∧(type_of% @al_nilT∧type_of% @ce_nilT)))))∧((((type_of% @so_nilT∧type_of% @vi_agg)∧(type_of% @mn_int∧type_of% @mx_int))∧((type_of% @KF_some∧type_of% @mqV_st)∧(type_of% @mqV_sf∧(type_of% @mqV_nt∧type_of% @mqV_nf))))∧(((type_of% @mq_mp∧type_of% @mq_mapv)∧(type_of% @muK_some∧(type_of% @mu_mapv∧type_of% @mu0_mp)))∧((type_of% @mu1_mp∧type_of% @mu2_mp)∧(type_of% @mu3_mp∧(type_of% @mu0_s∧type_of% @mu0_n)))))))∧((((((type_of% @mu1_s∧type_of% @mu1_n)∧(type_of% @mu3_s∧type_of% @mu3_n))∧((type_of% @rng_mp∧type_of% @rng_mapv)∧(type_of% @nxt_mp∧(type_of% @nxt_mit∧type_of% @nxt_itp))))∧(((type_of% @ent_mp∧type_of% @ent_mit)∧(type_of% @ent_itp∧type_of% @al_mapv))∧((type_of% @ce_mapv∧type_of% @so_mapv)∧(type_of% @al_nilm∧(type_of% @ce_nilm∧type_of% @so_nilm)))))∧((((type_of% @al_rom∧type_of% @ce_rom)∧(type_of% @so_rom∧type_of% @mq_rom))∧((type_of% @mq_nilm∧type_of% @mq6_n)∧(type_of% @al_itp∧(type_of% @ce_itp∧type_of% @AV.mapv.injEq))))∧(((type_of% @pe_ptr∧type_of% @pe_ro)∧(type_of% @pe_nilp∧(type_of% @a0_sl∧type_of% @lr_ro)))∧((type_of% @ldh_cons∧type_of% @hal_nils)∧(type_of% @hal_hsl∧(type_of% @hal_hnil∧type_of% @hal_sl))))))∧(((((type_of% @b2d_osl∧type_of% @b2o_sl)∧(type_of% @b2o_osl∧type_of% @b2oL_mk))∧((type_of% @as_ptr∧type_of% @sb_str)∧(type_of% @al_hsl∧(type_of% @ce_hsl∧type_of% @so_hsl))))∧(((type_of% @tk_hsl∧type_of% @ldE_hsl)∧(type_of% @stE_hsl∧(type_of% @al_hss∧type_of% @al_hnil)))∧((type_of% @ce_hnil∧type_of% @so_hnil)∧(type_of% @tk_hnil∧(type_of% @ldE_hnil∧type_of% @stE_hnil)))))∧((((type_of% @n_hsl∧type_of% @n_hss)∧(type_of% @n_hnil∧type_of% @i_hsl))∧((type_of% @i_hss∧type_of% @hl_hsl)∧(type_of% @hl_hss∧(type_of% @hl_sl∧type_of% @hl_hnil))))∧(((type_of% @hs_hsl0∧type_of% @hs_hsl1)∧(type_of% @hs_hss∧(type_of% @hs_sl∧type_of% @hs_hnil)))∧((type_of% @op_none∧type_of% @op_some)∧(type_of% @AV.hsl.injEq∧(type_of% @AV.hss.injEq∧type_of% @AV.hnil.injEq))))))))):=
 ⟨⟨⟨⟨⟨⟨⟨⟨@rl_nil, @ar_tmp⟩,⟨@ar_cellf, @K1_some⟩⟩,⟨⟨@KL_some, @KP_some⟩,⟨@RK_eq,⟨@RK_and, @RK_andx⟩⟩⟩⟩,⟨⟨⟨@RL_eq, @RL_andx⟩,⟨@KS_lit, @BytesW_map⟩⟩,⟨⟨@st0_eq, @put_lk⟩,⟨@put_none,⟨@upd_lk, @upd_del⟩⟩⟩⟩⟩,⟨⟨⟨⟨@ev_t, @ev_c⟩,⟨@lk_cons, @lk_nil⟩⟩,⟨⟨@pt_cons, @pt_nil⟩,⟨@del_cons,⟨@del_nil, @num_cons⟩⟩⟩⟩,⟨⟨⟨@num_nil, @al_int⟩,⟨@al_bool,⟨@al_str, @al_agg⟩⟩⟩,⟨⟨@al_sl, @al_ro⟩,⟨@al_ptr,⟨@al_nilp, @al_fn⟩⟩⟩⟩⟩⟩,⟨⟨⟨⟨⟨@al_clo, @so_clo⟩,⟨@ce_clo, @al_tup⟩⟩,⟨⟨@al_undef, @ce_int⟩,⟨@ce_bool,⟨@ce_str, @ce_agg⟩⟩⟩⟩,⟨⟨⟨@ce_sl, @ce_ro⟩,⟨@ce_ptr, @ce_nilp⟩⟩,⟨⟨@tk_own, @tk_none⟩,⟨@tk_int,⟨@b_addf, @b_subf⟩⟩⟩⟩⟩,⟨⟨⟨⟨@b_mulf, @b_quof⟩,⟨@b_remf, @b_eqlf⟩⟩,⟨⟨@b_neqf, @b_lssf⟩,⟨@b_leqf,⟨@b_gtrf, @b_geqf⟩⟩⟩⟩,⟨⟨⟨@b_catf, @b_seqlf⟩,⟨@b_sneqf,⟨@b_slssf, @b_sgtrf⟩⟩⟩,⟨⟨@b_sgeqf, @be_ff⟩,⟨@be_tf,⟨@u_notf, @u_xorf⟩⟩⟩⟩⟩⟩⟩,⟨⟨⟨⟨⟨⟨@u_negf, @v_ro⟩,⟨@v_ptr, @l_onef⟩⟩,⟨⟨@l_allf, @f_rof⟩,⟨@f_ptrf,⟨@n_strf, @n_slf⟩⟩⟩⟩,⟨⟨⟨@i_slf, @i_strf⟩,⟨@a_appf, @fv_aggf⟩⟩,⟨⟨@x_tup0f, @x_tupsf⟩,⟨@nc_rof,⟨@nc_ptrf, @so_ptr⟩⟩⟩⟩⟩,⟨⟨⟨⟨@bt_sl, @sc_strf⟩,⟨@sc_slf, @lo_str⟩⟩,⟨⟨@lo_sl, @bw_none⟩,⟨@iw_int,⟨@cv_intf, @ss_strf⟩⟩⟩⟩,⟨⟨⟨@evs_nil, @evs_cons⟩,⟨@evp_nil,⟨@evp_cons, @fl_nilf⟩⟩⟩,⟨⟨@fl_consf, @sp_0n⟩,⟨@sp_0,⟨@sp_s, @sz_nil⟩⟩⟩⟩⟩⟩,⟨⟨⟨⟨⟨@sz_cons, @Option.some.injEq.{0}⟩,⟨@exists_eq_left.{1}, @exists_eq_left'.{1}⟩⟩,⟨⟨@List.map_cons.{0,0}, @List.map_nil.{0,0}⟩,⟨@List.length_cons.{0},⟨@List.length_nil.{0}, @List.drop_succ_cons.{0}⟩⟩⟩⟩,⟨⟨⟨@List.drop_zero.{0}, @List.take_succ_cons.{0}⟩,⟨@List.take_zero.{0},⟨@Option.map_some.{0,0}, @Option.bind_some.{0,0}⟩⟩⟩,⟨⟨@true_and, @and_true⟩,⟨@Bool.not_true,⟨@Bool.not_false, @ne_eq.{1}⟩⟩⟩⟩⟩,⟨⟨⟨⟨@not_true_eq_false, @not_false_eq_true⟩,⟨@Option.getD_some.{0}, @Option.getD_none.{0}⟩⟩,⟨⟨@AV.bool.injEq, @AV.int.injEq⟩,⟨@AV.str.injEq,⟨@AV.ptr.injEq, @AV.sl.injEq⟩⟩⟩⟩,⟨⟨⟨@AV.ro.injEq, @AV.agg.injEq⟩,⟨@AV.tup.injEq,⟨@Nat.zero_add, @Nat.add_zero⟩⟩⟩,⟨⟨@Bool.not_not, @eq_self.{1}⟩,⟨@Nat.zero_lt_succ,⟨@decide_true, @decide_false⟩⟩⟩⟩⟩⟩⟩⟩,⟨⟨⟨⟨⟨⟨⟨@Int.toNat_natCast, @Int.natCast_nonneg⟩,⟨@callv_fn, @ldt_ptr⟩⟩,⟨⟨@ldt_ro, @stt_ptr⟩,⟨@ovr_lk,⟨@ov_nil, @ov_cons⟩⟩⟩⟩,⟨⟨⟨@ldE_own, @ldE_none⟩,⟨@stE_own, @stE_none⟩⟩,⟨⟨@ce_sln, @List.getElem?_cons_zero.{0}⟩,⟨@List.getElem?_cons_succ.{0},⟨@ldE_nils, @al_nils⟩⟩⟩⟩⟩,⟨⟨⟨⟨@so_nils, @so_int⟩,⟨@so_bool, @so_str⟩⟩,⟨⟨@so_sl, @so_ro⟩,⟨@so_pt,⟨@so_nilp, @so_fn⟩⟩⟩⟩,⟨⟨⟨@b_orf, @b_andf⟩,⟨@b_xorf,⟨@b_andNotf, @b_shlf⟩⟩⟩,⟨⟨@b_shrf, @KB_some⟩,⟨@oand_some,⟨@eqC_nil, @eqC_i⟩⟩⟩⟩⟩⟩,⟨⟨⟨⟨⟨@eqC_b, @eqC_s⟩,⟨@Bool.and_true, @a_appsf⟩⟩,⟨⟨@ai_ptr, @ai_ro⟩,⟨@mk_int,⟨@n_oslf, @i_oslf⟩⟩⟩⟩,⟨⟨⟨@al_osl, @ce_osl⟩,⟨@so_osl,⟨@tk_osl, @al_nili⟩⟩⟩,⟨⟨@ce_nili, @so_nili⟩,⟨@AV.osl.injEq,⟨@al_nilT, @ce_nilT⟩⟩⟩⟩⟩,⟨⟨⟨⟨@so_nilT, @vi_agg⟩,⟨@mn_int, @mx_int⟩⟩,⟨⟨@KF_some, @mqV_st⟩,⟨@mqV_sf,⟨@mqV_nt, @mqV_nf⟩⟩⟩⟩,⟨⟨⟨@mq_mp, @mq_mapv⟩,⟨@muK_some,⟨@mu_mapv, @mu0_mp⟩⟩⟩,⟨⟨@mu1_mp, @mu2_mp⟩,⟨@mu3_mp,⟨@mu0_s, @mu0_n⟩⟩⟩⟩⟩⟩⟩,⟨⟨⟨⟨⟨⟨@mu1_s, @mu1_n⟩,⟨@mu3_s, @mu3_n⟩⟩,⟨⟨@rng_mp, @rng_mapv⟩,⟨@nxt_mp,⟨@nxt_mit, @nxt_itp⟩⟩⟩⟩,⟨⟨⟨@ent_mp, @ent_mit⟩,⟨@ent_itp, @al_mapv⟩⟩,⟨⟨@ce_mapv, @so_mapv⟩,⟨@al_nilm,⟨@ce_nilm, @so_nilm⟩⟩⟩⟩⟩,⟨⟨⟨⟨@al_rom, @ce_rom⟩,⟨@so_rom, @mq_rom⟩⟩,⟨⟨@mq_nilm, @mq6_n⟩,⟨@al_itp,⟨@ce_itp, @AV.mapv.injEq⟩⟩⟩⟩,⟨⟨⟨@pe_ptr, @pe_ro⟩,⟨@pe_nilp,⟨@a0_sl, @lr_ro⟩⟩⟩,⟨⟨@ldh_cons, @hal_nils⟩,⟨@hal_hsl,⟨@hal_hnil, @hal_sl⟩⟩⟩⟩⟩⟩,⟨⟨⟨⟨⟨@b2d_osl, @b2o_sl⟩,⟨@b2o_osl, @b2oL_mk⟩⟩,⟨⟨@as_ptr, @sb_str⟩,⟨@al_hsl,⟨@ce_hsl, @so_hsl⟩⟩⟩⟩,⟨⟨⟨@tk_hsl, @ldE_hsl⟩,⟨@stE_hsl,⟨@al_hss, @al_hnil⟩⟩⟩,⟨⟨@ce_hnil, @so_hnil⟩,⟨@tk_hnil,⟨@ldE_hnil, @stE_hnil⟩⟩⟩⟩⟩,⟨⟨⟨⟨@n_hsl, @n_hss⟩,⟨@n_hnil, @i_hsl⟩⟩,⟨⟨@i_hss, @hl_hsl⟩,⟨@hl_hss,⟨@hl_sl, @hl_hnil⟩⟩⟩⟩,⟨⟨⟨@hs_hsl0, @hs_hsl1⟩,⟨@hs_hss,⟨@hs_sl, @hs_hnil⟩⟩⟩,⟨⟨@op_none, @op_some⟩,⟨@AV.hsl.injEq,⟨@AV.hss.injEq, @AV.hnil.injEq⟩⟩⟩⟩⟩⟩⟩⟩⟩
end
section
open Go.RowKit
def MX{α:Type}(sn:List Nat):List (Nat × α)→(Nat→Option α)→Prop
 | [],_=>True
 | (k,v)::r,f=>(k∈sn∨f k=some v)∧MX (k::sn) r f
theorem Un{α:Type}{f:Nat→Option α}:∀ {l:List (Nat × α)} {sn:List Nat},MX sn l f→∀ i v,i ∉ sn→lk l i=some v→f i=some v
 | [],_,_,i,v,_,h=>by simp[lk]at h
 | (k,w)::r,sn,⟨h1,h2⟩,i,v,hn,h=>by
  rw[lk]at h
  split at h
  ·rename_i e
   subst e
   cases h
   exact h1.resolve_left hn
  ·rename_i e
   exact Un h2 i v (by rw[AZ,not_or];exact ⟨e,hn⟩) h
theorem a4Q{a:List (Nat × AV)}{b:List (Nat × List AV)}{s:St}(h:MX [] a s.t∧Am b s.o):LR ⟨lk a,lk b⟩ s:=⟨fun i v e=>Un h.1 i v (by simp) e,Gu h.2⟩
theorem Kv{b c:Nat}{cs ds:List AV}{o:Nat→Option (List AV)}(h:o b=some cs)(g:o c=some ds):∀ b' cs',lk [(b,cs),(c,ds)] b'=some cs'→o b'=some cs':=by
 intro b' cs' h'
 rw[lk_cons,lk_cons]at h'
 by_cases hb:b'=b
 ·subst hb;rw[Af rfl]at h';rw[h,h']
 ·rw[Ad hb]at h'
  by_cases hc:b'=c
  ·subst hc;rw[Af rfl]at h';rw[g,h']
  ·rw[Ad hc]at h';cases h'
theorem Pr{b c d:Nat}{x y z:List AV}{o:Nat→Option (List AV)}(h:o b=some x)(g:o c=some y)(k:o d=some z):∀ b' cs',lk [(b,x),(c,y),(d,z)] b'=some cs'→o b'=some cs':=by
 intro b' cs' h'
 rw[lk_cons]at h'
 by_cases hb:b'=b
 ·subst hb;rw[Af rfl]at h';rw[h,h']
 ·rw[Ad hb]at h';exact Kv g k b' cs' h'
def OM(A:Prop):Prop:=A
theorem a1U{A:Prop}(h:A:=by first|omega|(simp only[Ac,G3,Bool.not_eq_false',Bs,Hf]at *;omega)):OM A:=h
theorem wA{A B:Prop}(left:OM A)(right:B):A∧B:=⟨left,right⟩
theorem wT{b:Bool}{K:Bool→Prop}(hk:K true)(h:Ac (b=true):=by assumption):Sp b K:=Uu h hk
theorem wF{b:Bool}{K:Bool→Prop}(hk:K false)(h:Ac (b=false):=by assumption):Sp b K:=Ut h hk
theorem wL{x y:Int}{K:Bool→Prop}(h1:x<y→Ac (decide (x<y)=true)→K true)(h2:y≤x→Ac (decide (x<y)=false)→K false):Sp (decide (x<y)) K:=QS (fun h=>h1 (a1R h) h) (fun h=>h2 (a1T h) h)
theorem wE{x y:Int}{K:Bool→Prop}(h1:x≤y→Ac (decide (x≤y)=true)→K true)(h2:y<x→Ac (decide (x≤y)=false)→K false):Sp (decide (x≤y)) K:=QS (fun h=>h1 (a1Q h) h) (fun h=>h2 (a1S h) h)
theorem wK{a:List (Nat × AV)}{b:List (Nat × List AV)}{s:St}(h:Am a s.t∧Am b s.o:=by first|(simp[-List.getD_eq_getElem?_getD,Am,lk, *];done)|fail):LR ⟨lk a,lk b⟩ s:=a4R h
theorem wD{a:List (Nat × AV)}{b:List (Nat × List AV)}{s:St}(h:MX [] a s.t∧Am b s.o:=by first|(simp[-List.getD_eq_getElem?_getD,MX,Am,lk, *];done)|fail):LR ⟨lk a,lk b⟩ s:=a4Q h
section
variable {P:Program} {d:Option Nat} {s:St} {K:St→Prop}
theorem c1{f:Nat}{vs:List AV}{r:AV}{b:Nat}{x:List AV}{o2:List (Nat × List AV)}(h:CT P f vs (lk [(b,x)]) (fun r' o'=>r'=r∧o'=lk o2))(hK:KS (St.put ⟨s.t,BG o2 s.o⟩ d r) K)(g:s.o b=some x:=by first|((repeat (first|exact CH _ _ _|(refine CN ?_ ?_;(focus (first|assumption|(simp only[*,Ct];done))))));done)|fail):Dg P f vs d s K:=KY h (Pq g) hK
theorem c2{f:Nat}{vs:List AV}{r:AV}{b c:Nat}{x y:List AV}{o2:List (Nat × List AV)}(h:CT P f vs (lk [(b,x),(c,y)]) (fun r' o'=>r'=r∧o'=lk o2))(hK:KS (St.put ⟨s.t,BG o2 s.o⟩ d r) K)(g:s.o b=some x:=by first|((repeat (first|exact CH _ _ _|(refine CN ?_ ?_;(focus (first|assumption|(simp only[*,Ct];done))))));done)|fail)(g':s.o c=some y:=by first|((repeat (first|exact CH _ _ _|(refine CN ?_ ?_;(focus (first|assumption|(simp only[*,Ct];done))))));done)|fail):Dg P f vs d s K:=KY h (Kv g g') hK
theorem c3{f:Nat}{vs:List AV}{r:AV}{b c e:Nat}{x y z:List AV}{o2:List (Nat × List AV)}(h:CT P f vs (lk [(b,x),(c,y),(e,z)]) (fun r' o'=>r'=r∧o'=lk o2))(hK:KS (St.put ⟨s.t,BG o2 s.o⟩ d r) K)(g:s.o b=some x:=by first|((repeat (first|exact CH _ _ _|(refine CN ?_ ?_;(focus (first|assumption|(simp only[*,Ct];done))))));done)|fail)(g':s.o c=some y:=by first|((repeat (first|exact CH _ _ _|(refine CN ?_ ?_;(focus (first|assumption|(simp only[*,Ct];done))))));done)|fail)(g'':s.o e=some z:=by first|((repeat (first|exact CH _ _ _|(refine CN ?_ ?_;(focus (first|assumption|(simp only[*,Ct];done))))));done)|fail):Dg P f vs d s K:=KY h (Pr g g' g'') hK
theorem r2{f:Nat}{vs:List AV}{r:AV}{K:AV→Prop}{b c:Nat}{x y:List AV}(h:CT P f vs (lk [(b,x),(c,y)]) (fun r' o'=>r'=r∧o'=lk [(b,x),(c,y)]))(hK:K r)(g:s.o b=some x:=by first|((repeat (first|exact CH _ _ _|(refine CN ?_ ?_;(focus (first|assumption|(simp only[*,Ct];done))))));done)|fail)(g':s.o c=some y:=by first|((repeat (first|exact CH _ _ _|(refine CN ?_ ?_;(focus (first|assumption|(simp only[*,Ct];done))))));done)|fail):KZ P f vs s K:=QP h (Kv g g') hK
theorem r3{f:Nat}{vs:List AV}{r:AV}{K:AV→Prop}{b c e:Nat}{x y z:List AV}(h:CT P f vs (lk [(b,x),(c,y),(e,z)]) (fun r' o'=>r'=r∧o'=lk [(b,x),(c,y),(e,z)]))(hK:K r)(g:s.o b=some x:=by first|((repeat (first|exact CH _ _ _|(refine CN ?_ ?_;(focus (first|assumption|(simp only[*,Ct];done))))));done)|fail)(g':s.o c=some y:=by first|((repeat (first|exact CH _ _ _|(refine CN ?_ ?_;(focus (first|assumption|(simp only[*,Ct];done))))));done)|fail)(g'':s.o e=some z:=by first|((repeat (first|exact CH _ _ _|(refine CN ?_ ?_;(focus (first|assumption|(simp only[*,Ct];done))))));done)|fail):KZ P f vs s K:=QP h (Pr g g' g'') hK
end
end
section
open Go.RowKit
structure RowT {α:Type} (f:α→List AV) (sz:Nat):Prop where
 len:∀ x,(f x).length=sz
 no:∀ x, ∀ c∈f x,(∀ t k l,c ≠ .sl (some t) k l)∧∀ t,c ≠ .nilT t
section
variable {α:Type} {f:α→List AV} {sz:Nat} (R:RowT f sz)
include R
theorem RowT.all(l:List α):∀ e∈l.map f,e.length=sz:=fun e he=>by
 obtain ⟨x,_,rfl⟩:=Dp.1 he;exact R.len x
theorem RowT.noOwn(l:List α):noOwn (l.map f):=fun e he=>by
 obtain ⟨x,_,rfl⟩:=Dp.1 he;exact R.no x
theorem RowT.len_hc(cap:Nat)(l:List α):(hc sz cap (l.map f)).length=(max cap l.length) * sz:=by rw[IJ (R.all l),Ax]
theorem RowT.drop_take(cap:Nat)(l:List α)(i:Nat)(d:α)(hi:i<l.length):((hc sz cap (l.map f)).drop (i * sz)).take sz=f (l.getD i d):=by
 apply F5
 intro j
 have he:(l.map f)[i]?=some (f (l.getD i d)):=by simp[List.getD,hi]
 by_cases hj:j<sz
 ·rw[CW hj,CC,Ge (R.all l) he hj]
 ·rw[List.getElem?_take_eq_none (by omega),FH (by rw[R.len];omega)]
theorem RowT.ld(cap:Nat)(l:List α)(i:Nat)(d:α)(hi:i<l.length)(K:AV→Prop):RK (A5 (some sz) ((hc sz cap (l.map f)).drop (i * sz))) K=K (.agg (f (l.getD i d))):=by
 have hb:sz≤((hc sz cap (l.map f)).drop (i * sz)).length:=by
  rw[Cc,R.len_hc]
  have:=Dq sz (show i+1≤max cap l.length by omega)
  rw[Bp,F7]at this;omega
 have e:A5 (some sz) ((hc sz cap (l.map f)).drop (i * sz))=fun r=>sz≤((hc sz cap (l.map f)).drop (i * sz)).length∧r=.agg (((hc sz cap (l.map f)).drop (i * sz)).take sz):=by
  funext r;generalize (hc sz cap (l.map f)).drop (i * sz)=X;cases X<;>rfl
 rw[e,RK_and,R.drop_take cap l i d hi]
 exact propext ⟨fun h=>h.2,fun h=>⟨hb,h⟩⟩
theorem RowT.sto(cap:Nat)(l:List α)(i:Nat)(y:α)(hi:i<l.length):splice (hc sz cap (l.map f)) (i * sz) (f y)=hc sz cap ((l.set i y).map f):=by
 have hb:i * sz+(f y).length≤(hc sz cap (l.map f)).length:=by
  rw[R.len_hc,R.len]
  have:=Dq sz (show i+1≤max cap l.length by omega)
  rw[Bp,F7]at this;omega
 apply F5
 intro p
 rw[ER _ _ _ hb]
 rcases Gv sz with h0|hsz
 ·have hfy:(f y).length=0:=by rw[R.len];exact h0
  rw[Ad (by omega)]
  have h1:(hc sz cap (l.map f))=[]:=Dn (by rw[R.len_hc];subst h0;simp)
  have h2:(hc sz cap ((l.set i y).map f))=[]:=Dn (by rw[R.len_hc];subst h0;simp)
  rw[h1,h2]
 have hdm:p / sz * sz+p % sz=p:=by rw[EF];exact F6 p sz
 have hml:=EE p hsz
 by_cases hpl:p / sz<l.length
 ·have hpl':p / sz<(l.set i y).length:=by simpa using hpl
  have he:((l.set i y).map f)[p / sz]?=some (f ((l.set i y).getD (p / sz) y)):=by rw[B7,Aw hpl',List.getD,Aw hpl'];rfl
  have he2:(l.map f)[p / sz]?=some (f (l.getD (p / sz) y)):=by simp[List.getD,hpl]
  have r1:=Ge (cap:=cap) (R.all (l.set i y)) he hml
  have r2:=Ge (cap:=cap) (R.all l) he2 hml
  rw[hdm]at r1 r2
  rw[r1,r2]
  by_cases hpi:p / sz=i
  ·rw[Af (by rw[R.len, ← hpi];omega)]
   have:p - i * sz=p % sz:=by rw[← hpi];omega
   rw[this,hpi]
   simp[List.getD,hi]
  ·rw[Ad]
   ·have:(l.set i y).getD (p / sz) y=l.getD (p / sz) y:=by simp[List.getD,List.getElem?_set,Ne.symm hpi]
    rw[this]
   ·rw[R.len]
    rintro ⟨a1,a2⟩
    apply hpi
    have b1:i≤p / sz:=(Nat.le_div_iff_mul_le hsz).2 a1
    have b2:p / sz<i+1:=(G7 hsz).2 (by rw[Bp,F7];exact a2)
    omega
 ·have hge:l.length * sz≤p:=(Nat.le_div_iff_mul_le hsz).1 (Nat.not_lt.1 hpl)
  rw[Ad]
  ·unfold hc
   have l1:(l.map f).flatten.length=l.length * sz:=by rw[LD (R.all l),Ax]
   have l2:((l.set i y).map f).flatten.length=l.length * sz:=by rw[LD (R.all _),Ax,List.length_set]
   rw[Cj (by omega),Cj (by omega),l1,l2]
   simp
  ·rw[R.len]
   have:=Dq sz (show i+1≤l.length from hi)
   rw[Bp,F7]at this
   omega
theorem RowT.src_pre{o:Nat→Option (List AV)}{g e n cap:Nat}{l:List α}(hg:o g=some (hc sz cap (l.map f)))(hm:n≤l.length):Ms o sz (.hsl g e sz n cap) ((l.take n).map f):=
 ⟨rfl,l.map f,hg,R.all l,by simpa using hm,by simp⟩
variable {P:Program} {d:Option Nat} {s:St} {K:St→Prop} {e bytes:Nat} {q:AV}
theorem RowT.hap_nil{m:List α}(hs:Ms s.o sz q (m.map f))(hb:m.length * bytes≤140737488355328∧m.length≤maxLen)(h0:m.length=0→KS (St.put s d (.hnil e sz)) K)
  (h1:0<m.length→EG s.o (fun g=>∀ cap,m.length≤cap→KS (St.put ⟨s.t,upd s.o g (some (hc sz cap (m.map f)))⟩ d (.hsl g e sz m.length cap)) K)):MW e sz bytes d s K (.hnil e sz) q:=
 ⟨rfl,m.map f,hs,R.noOwn m,by simpa using hb,fun h=>h0 (by simpa using h),fun h g hg cap hc=>by
  have:=h1 (by simpa using h) g hg cap (by simpa using hc)
  simpa using this⟩
theorem RowT.hap_row{g n cap:Nat}{l m:List α}(hg:s.o g=some (hc sz cap (l.map f)))(hs:Ms s.o sz q (m.map f))(hn:n≤l.length∧l.length≤cap)(hb:(n+m.length) * bytes≤140737488355328∧n+m.length≤maxLen)
  (h1:EG (upd s.o g none) (fun g'=>∀ cap',n+m.length≤cap'→KS (St.put ⟨s.t,upd (upd s.o g none) g' (some (hc sz cap' ((l.take n++m).map f)))⟩ d (.hsl g' e sz (n+m.length) cap')) K)):MW e sz bytes d s K (.hsl g e sz n cap) q:=
 ⟨⟨rfl,rfl⟩,m.map f,l.map f,hs,R.noOwn m,hg,R.all l,R.noOwn l,by simpa using hn,by simpa using hb,fun g' hg' cap' hc=>by
  have:=h1 g' hg' cap' (by simpa using hc)
  simpa using this⟩
end
end
section
open Go.RowKit
mutual
def IB:AV→Option Value
 | .int k n=>some (.int k n)
 | .bool b=>some (.bool b)
 | .str l=>some (.string ⟨l.toArray⟩)
 | .tup cs=>(Jp cs).map fun vs=>.tuple vs.toArray
 | _=>none
def Jp:List AV→Option (List Value)
 | []=>some []
 | c::cs=>match IB c,Jp cs with
  | some v,some vs=>some (v::vs)
  | _,_=>none
end
theorem a2S{W:World}{U:Nat→Nat→Prop}{a:AV}{v u:Value}(h:VR W U u a)(hc:IB a=some v)(hp:∀ cs,a ≠ .tup cs):u=v:=by
 cases h<;>simp[IB]at hc<;>first|exact hc|exact absurd rfl (hp _)
theorem RI:∀ {cs:List AV} {vs:List Value},Jp cs=some vs→vs.length=cs.length∧∀ (i:Nat) (v:Value) (c:AV),vs[i]?=some v→cs[i]?=some c→IB c=some v
 | [],vs,h=>by
  simp only[Jp,Az]at h
  subst h;simp
 | c::cs,vs,h=>by
  rw[Jp]at h
  split at h
  ·rename_i v ws h1 h2
   cases h
   have ih:=RI h2
   refine ⟨by simp[ih.1],fun i u d hu hd=>?_⟩
   cases i with
   | zero=>simp at hu hd;subst hu;subst hd;exact h1
   | succ i=>exact ih.2 i u d (by simpa using hu) (by simpa using hd)
  ·cases h
theorem WN(W:World)(U:Nat→Nat→Prop):∀ (n:Nat) (a:AV) (v:Value),SizeOf.sizeOf a≤n→IB a=some v→VR W U v a
 | 0,a,v,hn,h=>by cases a<;>simp at hn
 | n+1,a,v,hn,h=>by
  cases a<;>simp only[IB,Az,reduceCtorEq]at h
  ·subst h;exact .int _ _
  ·subst h;exact .bool _
  ·subst h;exact .str _
  ·rename_i cs
   cases hc:Jp cs with
   | none=>rw[hc]at h;cases h
   | some vs=>
    rw[hc]at h
    cases h
    have hg:=RI hc
    refine .tup vs cs hg.1 fun i v c hv hc=>WN W U n c v ?_ (hg.2 i v c hv hc)
    have:=List.sizeOf_lt_of_mem (Dd hc)
    simp at hn
    omega
theorem Ue{P:Program}{f:Nat}{av:List AV}{vs:List Value}{r:AV}{v:Value}(ha:Jp av=some vs)(hp:∀ a∈av, ∀ cs,a ≠ .tup cs)(hr:IB r=some v)
  (h:∀ W U,Glob W U→Calls P f vs.toArray W fun e W'=>e=.returned v∧Below W.heap.size W W'):CP P f av r:=by
 intro W U us hG hl hu
 have hg:=RI ha
 have he:us=vs:=by
  apply F5
  intro i
  by_cases hi:i<us.length
  ·have h1:i<vs.length:=by omega
   have h2:i<av.length:=by omega
   rw[Aw hi,Aw h1]
   refine congrArg some (a2S (hu i _ av[i] (Aw hi) (Aw h2)) (hg.2 i _ _ (Aw h1) (Aw h2)) (hp _ (Di h2)))
  ·rw[FH (by omega),FH (by omega)]
 subst he
 refine (h W U hG).mono ?_
 rintro e W' ⟨rfl,hb⟩
 refine ⟨v,fun k o=>if k<W.heap.size then U k o else False,rfl,WN _ _ _ r v (A8 _) hr, ?_,hb,fun k hk o=>by simp[hk]⟩
 cases r<;>first|trivial|simp[IB]at hr
theorem MQ{P:Program}{f:Nat}{av:List AV}{vs:List Value}{r:AV}{v:Value}(ha:Jp av=some vs)(hp:∀ a∈av, ∀ cs,a ≠ .tup cs)(hr:IB r=some v)
  (h:∀ W,Calls P f vs.toArray W fun e W'=>e=.returned v∧Below W.heap.size W W'):CP P f av r:=Ue ha hp hr fun W _ _=>h W
end
section
open Go.RowKit
theorem Hh{α:Type}{b d:Nat}{c c' e e':α}:∀ b' cs,lk [(b,c),(d,e)] b'=some cs→∃ cs',lk [(b,c'),(d,e')] b'=some cs':=by
 intro b' cs h
 rw[lk_cons,lk_cons]at h ⊢
 by_cases hb:b'=b
 ·rw[Af hb];exact ⟨_,rfl⟩
 ·rw[Ad hb]at h ⊢
  by_cases hd:b'=d
  ·rw[Af hd];exact ⟨_,rfl⟩
  ·rw[Ad hd]at h;cases h
def Up(o:Nat→Option (List AV))(K:Nat→Nat→Prop):Prop:=∀ b c,o b=none→o c=none→¬ b=c→¬ c=b→K b c
theorem Uq{o:Nat→Option (List AV)}{K:Nat→Nat→Prop}(h:∀ b c,o b=none→o c=none→¬ b=c→¬ c=b→K b c):Up o K:=h
section
variable {P:Program} {d:Option Nat} {s:St} {K:St→Prop}
abbrev S1(o2:List (Nat × List AV))(ds:List AV):AV→(Nat→Option (List AV))→Prop:=fun r' o'=>∃ c m,(¬ c=m∧lk o2 c=none∧lk o2 m=none)∧r'=.ptr c 0∧o'=lk ((c,[.mapv m])::(m,ds)::o2)
theorem Ui{f:Nat}{vs:List AV}{o1 o2:List (Nat × List AV)}{ds:List AV}(h:CT P f vs (lk o1) (S1 o2 ds))(hsub:∀ b cs,lk o1 b=some cs→s.o b=some cs)(hd:∀ b,lk o2 b=none→lk o1 b=none)
  (hK:Up s.o (fun c m=>KS (St.put ⟨s.t,BG ((c,[.mapv m])::(m,ds)::o2) s.o⟩ d (.ptr c 0)) K)):Dg P f vs d s K:=by
 refine ⟨lk o1,_,hsub,h, ?_⟩
 rintro r' o' ⟨c,m,⟨h1,h2,h3⟩,rfl,rfl⟩ hf
 exact hK c m (hf c _ (CH _ _ _) (hd c h2)) (hf m _ (CN (fun e=>h1 e.symm) (CH _ _ _)) (hd m h3)) h1 (fun e=>h1 e.symm)
theorem b0K{s:St}{rs:List AR}{o1 o2:List (Nat × List AV)}{ds:List AV}(c m:Nat)(h:BR s rs (.ptr c 0)∧Am ((c,[.mapv m])::(m,ds)::o2) s.o)(h1:¬ c=m)(h2:lk o2 c=none)(h3:lk o2 m=none)(hd:∀ b cs,lk o1 b=some cs→∃ cs',lk o2 b=some cs'):Ga s rs (lk o1) (S1 o2 ds):=by
 refine ⟨_,h.1,lk ((c,[.mapv m])::(m,ds)::o2),Gu h.2,fun b cs hb=>?_,c,m,⟨h1,h2,h3⟩,rfl,rfl⟩
 obtain ⟨cs',hc⟩:=hd b cs hb
 refine ⟨cs', ?_⟩
 rw[lk_cons,lk_cons,Ad (fun e=>by subst e;rw[hc]at h2;cases h2),Ad (fun e=>by subst e;rw[hc]at h3;cases h3)]
 exact hc
end
end
section
open Go.RowKit
section
variable {P:Program} {W0:World} {U0:Nat→Nat→Prop} {M:Nat→Prop} {W:World} {U:Nat→Nat→Prop}
theorem Inv.res1{o:Nat→Option (List AV)}(h:Inv 0 W0 U0 M { tmps := #[],defers:=[] } W U ⟨fun _=>none,o⟩){v:Value}{r:AV}(hv:VR W U v r)(ho:Sole W0 M { tmps := #[undef],defers:=[] } W U ⟨fun _=>none,o⟩ 0 v r):
  Inv 1 W0 U0 M { tmps := #[v],defers:=[] } W U ⟨upd (fun _=>none) 0 (some r),o⟩:=by
 have h1:Inv 1 W0 U0 M { tmps := #[undef],defers:=[] } W U ⟨fun _=>none,o⟩:=by
  have hc:∀ {ℓ:Loc} {x:AV},St.at ⟨fun _=>none,o⟩ ℓ=some x→AQ { tmps := #[undef],defers:=[] } W ℓ=AQ { tmps := #[],defers:=[] } W ℓ:=by
   intro ℓ x hx
   cases ℓ with
   | t i=>simp[St.at]at hx
   | o b j=>rfl
  refine ⟨rfl,rfl,h.fr,fun i x hx=>(by simp at hx),h.ob,fun ℓ x hx=>?_,fun ℓ ℓ' e sz els e' sz' els' hne h2 h3=>?_,fun ℓ e sz els h2=>?_⟩
  ·rw[hc hx];exact h.ow ℓ x hx
  ·rw[hc h2,hc h3];exact h.ap ℓ ℓ' _ _ _ _ _ _ hne h2 h3
  ·rw[hc h2];exact h.no ℓ e sz els h2
 exact h1.put (d:=0) (by omega) hv ho
end
section
variable {P:Program} {d:Option Nat} {s:St} {K:St→Prop}
end
end
section
open Go.RowKit Go.Lib
abbrev PrP:=List UInt8 × List UInt8
abbrev D9(p:PrP):List AV:=[.str p.1,.str p.2]
theorem prRow:RowT D9 2 where
 len:=fun _=>rfl
 no:=fun x c h=>by
  simp only[AZ,B8,Cb]at h
  rcases h with rfl|rfl<;>exact ⟨fun _ _ _ e=>(by cases e),fun _ e=>(by cases e)⟩
def Aq(cap:Nat)(L:List PrP):List AV:=hc 2 cap (L.map D9)
def Dt(L:List PrP)(i:Nat)(x:PrP):List PrP:=L.take i++[x]++L.drop i
theorem Pf(L:List PrP)(i:Nat)(x:PrP)(h:i≤L.length):(Dt L i x).length=L.length+1:=by simp[Dt];omega
def JM{α:Type}(C:List α)(o:Nat)(v:List α):List α:=C.take o++v++C.drop (o+v.length)
theorem b2k{α:Type}{C v D:List α}{a:Nat}(hv:v.length=2)(hl:a+2+D.length≤C.length):JM (JM C (a+2) D) a v=C.take a++v++D++C.drop (a+2+D.length):=by
 have h1:(C.take (a+2)).length=a+2:=by rw[BL];omega
 unfold JM
 rw[DC (C.take (a+2)),List.take_append_of_le_length (by omega),List.take_take,show min a (a+2)=a by omega,hv,List.drop_append_of_le_length (by omega),List.drop_of_length_le (by omega:(C.take (a+2)).length≤a+2)]
 simp
theorem b2l{α:Type}{C v D:List α}{a:Nat}(hv:v.length=2)(hl:a+2+D.length≤C.length):JM (JM C a v) (a+2) D=C.take a++v++D++C.drop (a+2+D.length):=by
 have h1:(C.take a++v).length=a+2:=by rw[Ao,BL];omega
 unfold JM
 rw[hv,List.take_append_of_le_length (by omega),B0 (by omega),List.drop_append,List.drop_of_length_le (by omega:(C.take a++v).length≤a+2+D.length),h1,List.drop_drop,Bj,show a+2+(a+2+D.length - (a+2))=a+2+D.length by omega]
theorem Uz(w:World)(a b:Array Value)(t:TypeId):(w.alloc (.cells a t)).setRow w.heap.size b=w.alloc (.cells b t):=by
 unfold World.setRow World.alloc
 congr 1
 apply Array.ext_getElem?
 intro i
 rw[Array.getElem?_modify,Array.getElem?_push,Array.getElem?_push]
 split
 ·rename_i e;subst e;simp
 ·rename_i e;rw[Ad (fun h=>e h.symm),Ad (fun h=>e h.symm)]
theorem SB{α:Type}(l:List (Nat × α))(k:Nat)(a:α):upd (lk l) k (some a)=lk ((k,a)::l):=by
 funext j;simp[upd,lk]
theorem a4D{cs vs:List Value}{L:List PrP}{x:PrP}{i:Nat}{R:Value→AV→Prop}(hi:i≤L.length)(hcl:cs.length=L.length * 2)(hvl:vs.length=2)
  (hc:∀ k j c,k<L.length→(D9 (L.getD k default))[j]?=some c→R (cs.getD (k * 2+j) undef) c) (hv:∀ j c,(D9 x)[j]?=some c→R (vs.getD j undef) c):
  ∀ (k:Nat) (e:List AV) (j:Nat) (c:AV),((Dt L i x).map D9)[k]?=some e→e[j]?=some c→R ((cs.take (i * 2)++vs++cs.drop (i * 2)).getD (k * 2+j) undef) c:=by
 intro k e j c he hc'
 have hk:k<L.length+1:=by
  have:=(AM.1 he).1
  rwa [Ax,Pf L i x hi]at this
 obtain ⟨y,hy,rfl⟩:∃ y,(Dt L i x)[k]?=some y∧D9 y=e:=by rw[B7]at he;exact BM.1 he
 have hj:j<2:=(AM.1 hc').1
 have htl:(cs.take (i * 2)).length=i * 2:=by rw[BL];omega
 unfold Dt at hy
 have htL:(L.take i).length=i:=by rw[BL];omega
 rcases Nat.lt_trichotomy k i with h|h|h
 ·rw[DC,CB (by omega),CW h]at hy
  have hkL:k<L.length:=by omega
  have e1:L.getD k default=y:=by simp[List.getD,hy]
  have:=hc k j c hkL (by rw[e1];exact hc')
  rw[DC,List.getD,CB (by omega),CW (by omega)]
  exact this
 ·subst h
  rw[DC,Cj (by omega),htL,Nat.sub_self]at hy
  obtain rfl:x=y:=by simpa using hy
  have:=hv j c hc'
  rw[DC,List.getD,Cj (by omega),CB (by omega),htl,show k * 2+j - k * 2=j by omega]
  exact this
 ·rw[DC,Cj (by omega),htL,Cj (by simp;omega),List.length_singleton,CC,show i+(k - i - 1)=k - 1 by omega]at hy
  have e1:L.getD (k - 1) default=y:=by simp[List.getD,hy]
  have:=hc (k - 1) j c (by omega) (by rw[e1];exact hc')
  rw[DC,List.getD,Cj (by omega),Cj (by omega),htl,hvl,CC,show i * 2+(k * 2+j - i * 2 - 2)=(k - 1) * 2+j by omega]
  exact this
abbrev LH(g gv cap capv i:Nat)(L:List PrP)(x:PrP):Option Nat × Nat→List (Nat × List AV)
 | (none,c)=>[(g,Aq c (Dt L i x)),(gv,Aq capv [x])]
 | (some b,c)=>[(b,Aq c (Dt L i x)),(g,Aq cap L),(gv,Aq capv [x])]
def Ol(g gv n:Nat)(y:Option Nat × Nat):Prop:=n+1≤y.2∧∀ b,y.1=some b→(¬ b=g∧¬ g=b)∧¬ b=gv∧¬ gv=b
theorem b2G(g gv cap capv i:Nat)(L:List PrP)(x:PrP)(hgv:¬ gv=g∧¬ g=gv)(hi:i≤L.length)(hb:L.length≤1000000):
  CT Tryz.prog 80 [.hsl g 115 2 L.length cap,.int .i64 (i:Int),.hsl gv 115 2 1 capv] (lk [(g,Aq cap L),(gv,Aq capv [x])])
   (fun r o=>∃ y,Ol g gv L.length y∧r=.hsl (y.1.getD g) 115 2 (L.length+1) y.2∧o=lk (LH g gv cap capv i L x y)):=by
 intro W U vs hlen hv hI
 obtain ⟨v0,v1,v2,rfl⟩:∃ v0 v1 v2,vs=[v0,v1,v2]:=by
  match vs,hlen with
  | [v0,v1,v2],_=>exact ⟨v0,v1,v2,rfl⟩
 have h0:=hv 0 v0 _ rfl rfl
 have h1:=hv 1 v1 _ rfl rfl
 have h2:=hv 2 v2 _ rfl rfl
 cases h0 with
 | hsl _ _ _ _ _ n1 n2 hm=>
 cases h2 with
 | hsl _ _ _ _ _ m1 m2 hm2=>
 cases h1
 obtain ⟨_,_,c3⟩:=hm
 obtain ⟨_,_,d3⟩:=hm2
 obtain ⟨cur,ty,g1,g2,g3,g4,g5⟩:=hI.obc (b:=g) (cs:=Aq cap L) (by simp[lk]) ⟨_,_,_,c3⟩
 obtain ⟨cuv,tv,e1,e2,e3,e4,e5⟩:=hI.obc (b:=gv) (cs:=Aq capv [x]) (by simp[lk,hgv]) ⟨_,_,_,d3⟩
 have hty:ty.1=115:=by
  have h:=c3.symm.trans g1
  simp only[Az,Obj.cells.injEq]at h
  exact h.2.1.symm
 have htv:tv.1=115:=by
  have h:=d3.symm.trans e1
  simp only[Az,Obj.cells.injEq]at h
  exact h.2.1.symm
 rw[hty]at g1
 rw[htv]at e1
 have s1:cur.size=cap * 2:=by rw[g2,Aq,prRow.len_hc];congr 1;omega
 have s2:cuv.size=capv * 2:=by rw[e2,Aq,prRow.len_hc];congr 1;simp;omega
 obtain ⟨cs,Ae⟩:∃ cs:List Value,cs=cur.toList.take (L.length * 2):=⟨_,rfl⟩
 obtain ⟨ws,hws⟩:∃ ws:List Value,ws=cuv.toList.take 2:=⟨_,rfl⟩
 have hlc:cur.toList.length=cur.size:=EU
 have hlw:cuv.toList.length=cuv.size:=EU
 have hcl:cs.length=L.length * 2:=by rw[Ae,BL];omega
 have hwl:ws.length=2:=by rw[hws,BL];omega
 have hce:∀ j v,cs[j]?=some v→cur[j]?=some v∧j<L.length * 2:=fun j v h=>by
  have hj:=(AM.1 h).1
  rw[Ae,CW (by omega)]at h
  exact ⟨by simpa using h,by omega⟩
 have hwe:∀ j v,ws[j]?=some v→cuv[j]?=some v∧j<2:=fun j v h=>by
  have hj:=(AM.1 h).1
  rw[hws,CW (by omega)]at h
  exact ⟨by simpa using h,by omega⟩
 have hcell:∀ j v,cs[j]?=some v→W.cell? ⟨g,j,none⟩=some v:=fun j v h=>by rw[cell_of_row W g j cur _ (0,0) g1];exact (hce j v h).1
 have hwell:∀ j v,ws[j]?=some v→W.cell? ⟨gv,j,none⟩=some v:=fun j v h=>by rw[cell_of_row W gv j cuv _ (0,0) e1];exact (hwe j v h).1
 have one:∀ (j:Nat) (v:Value),cur[j]?=some v→v.oneCell'=true:=fun j v h=>by
  have hj:=(BH.1 h).1
  have:=(g3 j _ (Aw (l:=Aq cap L) (by omega))).2
  rwa [Cu,h,Cp]at this
 have h1c:∀ v∈cs,v.oneCell'=true:=fun v h=>by
  obtain ⟨j,hj,rfl⟩:=Do h
  exact one j _ (hce j _ (Aw hj)).1
 have h1w:∀ v∈ws,v.oneCell'=true:=fun v h=>by
  obtain ⟨j,hj,rfl⟩:=Do h
  have h5:=(hwe j _ (Aw hj))
  have:=(e3 j _ (Aw (l:=Aq capv [x]) (by omega))).2
  rwa [Cu,h5.1,Cp]at this
 -- what the cells behind the insertion read aS_
 have hget:=a4D (R:=VR W U) (cs:=cs) (vs:=ws) (L:=L) (x:=x) (i:=i) hi hcl hwl
  (fun k j c hk hc=>by
   have hj:j<2:=(AM.1 hc).1
   have h5:=Ge (sz:=2) (cap:=cap) (prRow.all L) (i:=k) (j:=j) (e:=D9 (L.getD k default)) (by simp[List.getD,hk]) hj
   have h6:=(g3 (k * 2+j) c (by rw[Aq,h5];exact hc)).1
   have e:cs.getD (k * 2+j) undef=cur.getD (k * 2+j) undef:=by
    rw[Ae,List.getD,CW (by omega),Cu];simp
   rw[e];exact h6)
  (fun j c hc=>by
   have hj:j<2:=(AM.1 hc).1
   have h5:=Ge (sz:=2) (cap:=capv) (prRow.all [x]) (i:=0) (j:=j) (e:=D9 x) (by simp) hj
   have h6:=(e3 (0 * 2+j) c (by rw[Aq,h5];exact hc)).1
   rw[Nat.zero_mul,AH]at h6
   have e:ws.getD j undef=cuv.getD j undef:=by
    rw[hws,List.getD,CW hj,Cu];simp
   rw[e];exact h6)
 obtain ⟨NW,hNW⟩:∃ NW,NW=cs.take (i * 2)++ws++cs.drop (i * 2):=⟨_,rfl⟩
 rw[← hNW]at hget
 have hNl:NW.length=(L.length+1) * 2:=by rw[hNW];simp only[Ao,BL,Cc,hcl,hwl];omega
 have hN1:∀ v∈NW,v.oneCell'=true:=fun v h=>by
  rw[hNW]at h
  rcases Bv.1 h with h|h
  ·rcases Bv.1 h with h|h
   ·exact h1c v (EZ h)
   ·exact h1w v h
  ·exact h1c v (EY h)
 have hil:=Pf L i x hi
 have hread:∀ (A:Array Value) (c':Nat),(∀ j,j<(L.length+1) * 2→A[j]?=NW[j]?)→∀ j c,(Aq c' (Dt L i x))[j]?=some c→VR W U (A.getD j undef) c:=fun A c' hA j c hc=>by
  rcases II (sz:=2) (by omega) (prRow.all (Dt L i x)) hc with ⟨e,q1,q2⟩ | ⟨rfl,_⟩
  ·have hk:j / 2<L.length+1:=by
    have:=(AM.1 q1).1
    rwa [Ax,hil]at this
   have h5:=hget _ _ _ _ q1 q2
   rw[show j / 2 * 2+j % 2=j by omega]at h5
   rw[Cu,hA j (by omega)]
   exact h5
  ·exact .any _
 have dom:∀ y, ∀ b cs',lk [(g,Aq cap L),(gv,Aq capv [x])] b=some cs'→∃ cs'',lk (LH g gv cap capv i L x y) b=some cs'':=fun y b cs' h=>by
  obtain ⟨y1,y2⟩:=y
  cases y1 with
  | none=>
   simp only[lk_cons]at h ⊢
   by_cases q1:b=g
   ·rw[Af q1];exact ⟨_,rfl⟩
   ·rw[Ad q1]at h ⊢;exact ⟨_,h⟩
  | some b'=>
   simp only[lk_cons]at h ⊢
   by_cases q1:b=b'
   ·rw[Af q1];exact ⟨_,rfl⟩
   ·rw[Ad q1];exact ⟨_,h⟩
 have hno:∀ (c' j t k:Nat) (l:List (List AV)),(Aq c' (Dt L i x))[j]?≠some (.sl (some t) k l):=fun c' j t k l h=>(Fh (by omega) (prRow.all _) (prRow.noOwn _) h).1 t k l rfl
 have hhd:∀ (c' u:Nat),CG (Aq c' (Dt L i x))≠some u:=fun c' u=>Jw (fun c hc=>(Fh (by omega) (prRow.all _) (prRow.noOwn _) hc).2) u
 -- in place
 have inpl:∀ (Wd:World) (A:Array Value),Ext W U Wd U→Wd.heap=W.heap→L.length+1≤cap→A.size=cur.size→(∀ j,j<(L.length+1) * 2→A[j]?=NW[j]?)→(∀ j,(L.length+1) * 2≤j→A[j]?=cur[j]?)→
   ∃ v U' r o',Ending.returned (.slice (some ⟨g,0,none⟩) (L.length+1) cap)=.returned v∧(∃ y,Ol g gv L.length y∧r=.hsl (y.1.getD g) 115 2 (L.length+1) y.2∧o'=lk (LH g gv cap capv i L x y))∧
    (∀ b cs,lk [(g,Aq cap L),(gv,Aq capv [x])] b=some cs→∃ cs',o' b=some cs')∧Inv 1 W U (CO W (lk [(g,Aq cap L),(gv,Aq capv [x])])) { tmps := #[v],defers:=[] } (Wd.setRow g A) U' ⟨upd (fun _=>none) 0 (some r),o'⟩:=fun Wd A hE hh hroom hAs hA hA2=>by
  have hg1:Wd.heap[g]?=some (.cells cur 115 (0,0)):=by rw[hh];exact g1
  have hone:∀ j,j<A.size→(A.getD j undef).oneCell'=true:=fun j hj=>by
   rw[Cu]
   by_cases q:j<(L.length+1) * 2
   ·rw[hA j q,Aw (by omega)];exact hN1 _ (Di _)
   ·rw[hA2 j (by omega),Dz (by omega)];exact one j _ (Dz (by omega))
  have hlc':(Aq cap (Dt L i x)).length=cap * 2:=by rw[Aq,prRow.len_hc,hil];congr 1;omega
  have h6:=(hI.ext hE).seto (b:=g) (cs:=Aq cap L) (cs':=Aq cap (Dt L i x)) (vs':=A) (by simp[lk]) hg1 (by rw[hlc', ← s1,g2]) hAs
   (fun j c hc=>⟨(hread A cap hA j c hc).keep hE.keeps,hone j (by have:=(AM.1 hc).1;omega)⟩) (fun u hu=>absurd hu (hhd cap u)) (fun j t k l hj=>absurd hj (hno cap j t k l))
  have ho:upd (lk [(g,Aq cap L),(gv,Aq capv [x])]) g (some (Aq cap (Dt L i x)))=lk (LH g gv cap capv i L x (none,cap)):=by
   funext b;simp only[upd,lk];split<;>rfl
  simp only[ho]at h6
  refine ⟨_,U,_,_,rfl,⟨(none,cap),⟨hroom,fun b hb=>by cases hb⟩,rfl,rfl⟩,dom (none,cap),h6.res1 (.hsl _ _ _ _ _ hroom n2 ⟨_,_,setRow_heap Wd g cur A _ (0,0) hg1⟩) (Sole.plain fun _ _ _ e=>by cases e)⟩
 -- a new row
 have fresh:∀ (Wd:World) (A:Array Value) (c':Nat),Ext W U Wd U→Wd.heap.size=W.heap.size→L.length+1≤c'→c'≤maxLen→A.size=c' * 2→(∀ j,j<(L.length+1) * 2→A[j]?=NW[j]?)→(∀ v∈A,v.oneCell'=true)→
   ∃ v U' r o',Ending.returned (.slice (some ⟨W.heap.size,0,none⟩) (L.length+1) c')=.returned v∧(∃ y,Ol g gv L.length y∧r=.hsl (y.1.getD g) 115 2 (L.length+1) y.2∧o'=lk (LH g gv cap capv i L x y))∧
    (∀ b cs,lk [(g,Aq cap L),(gv,Aq capv [x])] b=some cs→∃ cs',o' b=some cs')∧Inv 1 W U (CO W (lk [(g,Aq cap L),(gv,Aq capv [x])])) { tmps := #[v],defers:=[] } (Wd.alloc (.cells A 115)) U' ⟨upd (fun _=>none) 0 (some r),o'⟩:=fun Wd A c' hE hh hroom hmx hAs hA h1A=>by
  have hlc':(Aq c' (Dt L i x)).length=c' * 2:=by rw[Aq,prRow.len_hc,hil];congr 1;omega
  have h6:=(hI.ext hE).newo (vs:=A) (cs:=Aq c' (Dt L i x)) (ty:=115) (by rw[hlc',hAs]) (fun u hu=>absurd hu (hhd c' u)) (fun j u hu=>⟨h1A u (Array.mem_of_getElem? hu),fun z hz=>⟨by
   have:=(hread A c' hA j z hz).keep hE.keeps
   rwa [Cu,hu,Cp]at this,fun e k l hz'=>absurd (hz'▸hz) (hno c' j e k l)⟩⟩)
  rw[hh,SB]at h6
  have hlg:g<W.heap.size:=(BH.1 g1).1
  have hlgv:gv<W.heap.size:=(BH.1 e1).1
  refine ⟨_,_,_,_,rfl,⟨(some W.heap.size,c'),⟨hroom,fun b hb=>by cases hb;exact ⟨⟨by omega,by omega⟩,by omega,by omega⟩⟩,rfl,rfl⟩,dom (some W.heap.size,c'),h6.res1 (.hsl _ _ _ _ _ hroom hmx ⟨_,_,by have:=heap_alloc_new Wd (.cells A 115);rwa [hh]at this⟩) (Sole.plain fun _ _ _ e=>by cases e)⟩
 -- the row of cells
 have hrest:∀ (C:List Value) (c':Nat),(∀ j,j<(L.length+1) * 2→(NW++C).toArray[j]?=NW[j]?):=fun C c' j hj=>by rw[EW,CB (by omega)]
 by_cases hin:i=L.length
 ·have hNWe:NW=cs++ws:=by
   rw[hNW,hin,B0 (by omega),List.drop_of_length_le (by omega),Jb]
  have e0:(Value.int .i64 (i:Int))=.int .i64 (L.length:Int):=by rw[hin]
  rw[e0]
  by_cases hroom:L.length+1≤cap
  ·refine (a4C g L.length cap gv capv ws W hroom hwl (fun j hj=>?_) (fun j hj=>by simp[World.frozen?,g1]) hwell h1w).mono ?_
   ·rw[cell_of_row W g _ cur _ (0,0) g1,Dz (by omega)];rfl
   ·rintro e W' ⟨rfl,rfl⟩
    rw[H9 g 115 (0,0) ws (L.length * 2) cur W g1 (by omega),hwl]
    have hA:(cur.toList.take (L.length * 2)++ws++cur.toList.drop (L.length * 2+2)).toArray=(NW++cur.toList.drop (L.length * 2+2)).toArray:=by rw[hNWe,Ae]
    rw[hA]
    refine inpl W _ (Ext.refl W U) rfl hroom ?_ (hrest _ cap) (fun j hj=>?_)
    ·rw[Ck,Ao,Cc];omega
    ·rw[EW,Cj (by omega),CC,hNl,show L.length * 2+2+(j - (L.length+1) * 2)=j by omega];simp
  ·refine (XV (some ⟨g,0,none⟩) L.length cap gv capv cs ws W n1 (by omega) (by omega) hcl hwl (fun h=>by cases h) (fun a ha j v hj=>by cases ha;rw[Addr.add_lit,AH];exact hcell j v hj) hwell h1w).mono ?_
   rintro e W' ⟨rfl,rfl⟩
   have hge:=grownCap_ge W (L.length+1) cap 115
   have hcm:=grownCap_le_maxLen W (L.length+1) cap 115 (by unfold maxLen;omega)
   refine fresh W.drew _ _ (Ext.refl W U).drew rfl hge hcm ?_ (fun j hj=>?_) (fun v hv'=>?_)
   ·rw[G2,size_zeroCells,Ck,Ao,hcl,hwl]
    show L.length * 2+2+(_ - _) * 2=_;omega
   ·rw[HK (by rw[Ck, ← hNWe];omega),EW,hNWe]
   ·rcases Array.mem_append.1 hv' with h|h
    ·exact hN1 v (by rw[hNWe];simpa using h)
    ·have:=Nz h
     have h9:v=.string ⟨#[]⟩:=by simpa[zPr,Value.cells]using this
     rw[h9];rfl
 have hil':i<L.length:=by omega
 have hdl:(cs.drop (i * 2)).length=(L.length - i) * 2:=by rw[Cc,hcl];omega
 have htk:cur.toList.take (i * 2)=cs.take (i * 2):=by rw[Ae,List.take_take];congr 1;omega
 have hd1:∀ v∈cs.drop (i * 2),v.oneCell'=true:=fun v h=>h1c v (EY h)
 by_cases hroom:L.length+1≤cap
 ·refine (a4F g L.length cap i gv capv cs ws W hil' hroom (by unfold maxLen at n2;omega) (fun e=>hgv.1 e) hcl hwl hcell (fun j hj=>?_) (fun j hj=>by simp[World.frozen?,g1]) hwell h1c h1w _ _ cuv.size cur.size (by simp only[World.shape?,e1];rfl) (by simp only[World.shape?,g1];rfl) (by omega) (by simp[World.frozen?,e1]) (by simp[World.frozen?,e1])).mono ?_
  ·rw[cell_of_row W g _ cur _ (0,0) g1,Dz (by omega)];rfl
  ·rintro e W' ⟨rfl,rfl⟩
   have hg1:W.drew.heap[g]?=some (.cells cur 115 (0,0)):=g1
   rw[H9 g 115 (0,0) _ _ cur W.drew hg1 (by omega)]
   rw[H9 g 115 (0,0) ws _ _ _ (setRow_heap W.drew g cur _ _ (0,0) hg1) (by rw[Ck];simp only[Ao,BL,Cc];omega),setRow_setRow]
   have hA:=b2k (C:=cur.toList) (v:=ws) (D:=cs.drop (i * 2)) (a:=i * 2) hwl (by omega)
   unfold JM at hA
   rw[htk, ← hNW]at hA
   rw[show (i+1) * 2=i * 2+2 by omega,hA]
   refine inpl W.drew _ (Ext.refl W U).drew rfl hroom ?_ (hrest _ cap) (fun j hj=>?_)
   ·rw[Ck,Ao,Cc];omega
   ·rw[EW,Cj (by omega),CC,hNl,show i * 2+2+(cs.drop (i * 2)).length+(j - (L.length+1) * 2)=j by omega];simp
 ·refine (a4E g L.length cap i gv capv cs ws W hil' n1 (by omega) (by omega) hcl hwl hcell hwell h1c h1w).mono ?_
  rintro e W' ⟨rfl,rfl⟩
  have hge:=grownCap_ge W (L.length+1) cap 115
  have hcm:=grownCap_le_maxLen W (L.length+1) cap 115 (by unfold maxLen;omega)
  generalize grownCap W (L.length+1) cap 115=G at *
  obtain ⟨R,hR⟩:∃ R:Array Value,R=(cs.take (i * 2)).toArray++Builtin.zeroCells zPr.cells (L.length+1 - i)++Builtin.zeroCells zPr.cells (G - (L.length+1)):=⟨_,rfl⟩
  rw[← hR]
  have hRs:R.size=G * 2:=by
   rw[hR,G2,G2,size_zeroCells,size_zeroCells,Ck,BL,hcl]
   show min (i * 2) (L.length * 2)+(_ - _) * 2+(_ - _) * 2=_;omega
  have hRl:R.toList.length=R.size:=EU
  have hRt:R.toList.take (i * 2)=cs.take (i * 2):=by
   rw[hR,Array.toList_append,Array.toList_append,DC,List.take_append_of_le_length (by simp;omega),B0 (by simp;omega)]
  have hR1:∀ v∈R.toList,v.oneCell'=true:=fun v h=>by
   rw[hR,Array.toList_append,Array.toList_append]at h
   have hz:∀ n,v∈(Builtin.zeroCells zPr.cells n).toList→v.oneCell'=true:=fun n h=>by
    have:=Nz (Array.mem_toList_iff.1 h)
    have h9:v=.string ⟨#[]⟩:=by simpa[zPr,Value.cells]using this
    rw[h9];rfl
   rcases Bv.1 h with h|h
   ·rcases Bv.1 h with h|h
    ·exact h1c v (EZ h)
    ·exact hz _ h
   ·exact hz _ h
  have hx1:((W.alloc (.cells R 115)).drew).heap[W.heap.size]?=some (.cells R 115 (0,0)):=heap_alloc_new W _
  rw[H9 W.heap.size 115 (0,0) ws (i * 2) R _ hx1 (by omega)]
  have hx2:=setRow_heap _ W.heap.size R (R.toList.take (i * 2)++ws++R.toList.drop (i * 2+ws.length)).toArray _ (0,0) hx1
  rw[H9 W.heap.size 115 (0,0) (cs.drop (i * 2)) ((i+1) * 2) _ ((W.alloc (.cells R 115)).drew.setRow W.heap.size (R.toList.take (i * 2)++ws++R.toList.drop (i * 2+ws.length)).toArray).drew hx2 (by rw[Ck];simp only[Ao,BL,Cc];omega)]
  have hB:=b2l (C:=R.toList) (v:=ws) (D:=cs.drop (i * 2)) (a:=i * 2) hwl (by omega)
  unfold JM at hB
  rw[hRt, ← hNW]at hB
  rw[show (i+1) * 2=i * 2+2 by omega,hRt,hB]
  have hw:∀ (A B:Array Value),(((W.alloc (.cells R 115)).drew.setRow W.heap.size A).drew).setRow W.heap.size B=W.drew.drew.alloc (.cells B 115):=fun A B=>by
   have q1:(W.alloc (.cells R 115)).drew.setRow W.heap.size A=W.drew.alloc (.cells A 115):=Uz W.drew R A _
   rw[q1]
   exact Uz W.drew.drew A B _
  rw[hw]
  refine fresh W.drew.drew _ _ (Ext.refl W U).drew.drew rfl hge hcm ?_ (hrest _ cap) (fun v hv'=>?_)
  ·rw[Ck,Ao,Cc];omega
  ·rcases Bv.1 (by simpa using hv') with h|h
   ·exact hN1 v h
   ·exact hR1 v (EY h)
end
section
open Go.RowKit Go.Lib
theorem b2H(gv capv:Nat)(x:PrP):
  CT Tryz.prog 80 [.hnil 115 2,.int .i64 0,.hsl gv 115 2 1 capv] (lk [(gv,Aq capv [x])])
   (fun r o=>∃ b c,(1≤c∧¬ b=gv∧¬ gv=b)∧r=.hsl b 115 2 1 c∧o=lk [(b,Aq c [x]),(gv,Aq capv [x])]):=by
 intro W U vs hlen hv hI
 obtain ⟨v0,v1,v2,rfl⟩:∃ v0 v1 v2,vs=[v0,v1,v2]:=by
  match vs,hlen with
  | [v0,v1,v2],_=>exact ⟨v0,v1,v2,rfl⟩
 have h0:=hv 0 v0 _ rfl rfl
 have h1:=hv 1 v1 _ rfl rfl
 have h2:=hv 2 v2 _ rfl rfl
 cases h0
 cases h2 with
 | hsl _ _ _ _ _ m1 m2 hm2=>
 cases h1
 obtain ⟨_,_,d3⟩:=hm2
 obtain ⟨cuv,tv,e1,e2,e3,e4,e5⟩:=hI.obc (b:=gv) (cs:=Aq capv [x]) (by simp[lk]) ⟨_,_,_,d3⟩
 have htv:tv.1=115:=by
  have h:=d3.symm.trans e1
  simp only[Az,Obj.cells.injEq]at h
  exact h.2.1.symm
 rw[htv]at e1
 have s2:cuv.size=capv * 2:=by rw[e2,Aq,prRow.len_hc];congr 1;simp;omega
 obtain ⟨ws,hws⟩:∃ ws:List Value,ws=cuv.toList.take 2:=⟨_,rfl⟩
 have hlw:cuv.toList.length=cuv.size:=EU
 have hwl:ws.length=2:=by rw[hws,BL];omega
 have hwe:∀ j v,ws[j]?=some v→cuv[j]?=some v∧j<2:=fun j v h=>by
  have hj:=(AM.1 h).1
  rw[hws,CW (by omega)]at h
  exact ⟨by simpa using h,by omega⟩
 have hwell:∀ j v,ws[j]?=some v→W.cell? ⟨gv,j,none⟩=some v:=fun j v h=>by rw[cell_of_row W gv j cuv _ (0,0) e1];exact (hwe j v h).1
 have h1w:∀ v∈ws,v.oneCell'=true:=fun v h=>by
  obtain ⟨j,hj,rfl⟩:=Do h
  have h5:=(hwe j _ (Aw hj))
  have:=(e3 j _ (Aw (l:=Aq capv [x]) (by omega))).2
  rwa [Cu,h5.1,Cp]at this
 have hrd:∀ j c,j<2→(D9 x)[j]?=some c→VR W U (ws.getD j undef) c:=fun j c hj hc=>by
  have h5:=Ge (sz:=2) (cap:=capv) (prRow.all [x]) (i:=0) (j:=j) (e:=D9 x) (by simp) hj
  have h6:=(e3 (0 * 2+j) c (by rw[Aq,h5];exact hc)).1
  rw[Nat.zero_mul,AH]at h6
  have e:ws.getD j undef=cuv.getD j undef:=by
   rw[hws,List.getD,CW hj,Cu];simp
  rw[e];exact h6
 refine (XV none 0 0 gv capv [] ws W (by omega) (by omega) (by omega) rfl hwl (fun _=>rfl) (fun a ha=>by cases ha) hwell h1w).mono ?_
 rintro e W' ⟨rfl,rfl⟩
 have hge:=grownCap_ge W (0+1) 0 115
 have hcm:=grownCap_le_maxLen W (0+1) 0 115 (by unfold maxLen;omega)
 rw[Bj]
 generalize grownCap W (0+1) 0 115=G at *
 obtain ⟨A,hAd⟩:∃ A:Array Value,A=ws.toArray++Builtin.zeroCells zPr.cells (G - (0+1)):=⟨_,rfl⟩
 rw[← hAd]
 have hAs:A.size=G * 2:=by
  rw[hAd,G2,size_zeroCells,Ck,hwl]
  show 2+(_ - _) * 2=_;omega
 have hA:∀ j,j<2→A[j]?=ws[j]?:=fun j hj=>by
  rw[hAd,HK (by rw[Ck];omega),EW]
 have h1A:∀ v∈A,v.oneCell'=true:=fun v hv'=>by
  rw[hAd]at hv'
  rcases Array.mem_append.1 hv' with h|h
  ·exact h1w v (by simpa using h)
  ·have:=Nz h
   have h9:v=.string ⟨#[]⟩:=by simpa[zPr,Value.cells]using this
   rw[h9];rfl
 have hread:∀ j c,(Aq G [x])[j]?=some c→VR W U (A.getD j undef) c:=fun j c hc=>by
  rcases II (sz:=2) (by omega) (prRow.all [x]) hc with ⟨e,q1,q2⟩ | ⟨rfl,_⟩
  ·have hk:j / 2<1:=by simpa using (AM.1 q1).1
   have hk0:j / 2=0:=by omega
   rw[hk0]at q1
   obtain rfl:D9 x=e:=by simpa using q1
   have hj:j<2:=by omega
   rw[show j % 2=j by omega]at q2
   have h5:=hrd j c hj q2
   rw[Cu,hA j hj]
   exact h5
  ·exact .any _
 have hno:∀ (j t k:Nat) (l:List (List AV)),(Aq G [x])[j]?≠some (.sl (some t) k l):=fun j t k l h=>(Fh (by omega) (prRow.all _) (prRow.noOwn _) h).1 t k l rfl
 have hhd:∀ (u:Nat),CG (Aq G [x])≠some u:=fun u=>Jw (fun c hc=>(Fh (by omega) (prRow.all _) (prRow.noOwn _) hc).2) u
 have hE:Ext W U W.drew U:=(Ext.refl W U).drew
 have hlc':(Aq G [x]).length=G * 2:=by rw[Aq,prRow.len_hc];congr 1;simp;omega
 have h6:=(hI.ext hE).newo (vs:=A) (cs:=Aq G [x]) (ty:=115) (by rw[hlc',hAs]) (fun u hu=>absurd hu (hhd u)) (fun j u hu=>⟨h1A u (Array.mem_of_getElem? hu),fun z hz=>⟨by
  have:=(hread j z hz).keep hE.keeps
  rwa [Cu,hu,Cp]at this,fun e k l hz'=>absurd (hz'▸hz) (hno j e k l)⟩⟩)
 rw[show W.drew.heap.size=W.heap.size from rfl,SB]at h6
 have hlgv:gv<W.heap.size:=(BH.1 e1).1
 refine ⟨_,_,_,_,rfl,⟨W.heap.size,G,⟨by omega,by omega,by omega⟩,rfl,rfl⟩,fun b cs' h=>?_,h6.res1 (.hsl _ _ _ _ _ (by omega) hcm ⟨_,_,by have:=heap_alloc_new W.drew (.cells A 115);exact this⟩) (Sole.plain fun _ _ _ e=>by cases e)⟩
 simp only[lk_cons]at h ⊢
 by_cases q1:b=W.heap.size
 ·rw[Af q1];exact ⟨_,rfl⟩
 ·rw[Ad q1];exact ⟨_,h⟩
section
variable {d:Option Nat} {s:St} {K:St→Prop}
theorem a2K{g gv cap capv i:Nat}{L:List PrP}{x:PrP}{vs:List AV}{f:Nat}
  (h:(¬ gv=g∧¬ g=gv)→CT Tryz.prog f vs (lk [(g,Aq cap L),(gv,Aq capv [x])]) (fun r o=>∃ y,Ol g gv L.length y∧r=.hsl (y.1.getD g) 115 2 (L.length+1) y.2∧o=lk (LH g gv cap capv i L x y)))
  (h1:∀ c,L.length+1≤c→KS (St.put ⟨s.t,BG [(g,Aq c (Dt L i x)),(gv,Aq capv [x])] s.o⟩ d (.hsl g 115 2 (L.length+1) c)) K)
  (h2:∀ b c,s.o b=none→(¬ b=g∧¬ g=b)→(¬ b=gv∧¬ gv=b)→L.length+1≤c→KS (St.put ⟨s.t,BG [(b,Aq c (Dt L i x)),(g,Aq cap L),(gv,Aq capv [x])] s.o⟩ d (.hsl b 115 2 (L.length+1) c)) K)
  (q1:s.o g=some (Aq cap L):=by first|((repeat (first|exact CH _ _ _|(refine CN ?_ ?_;(focus (first|assumption|(simp only[*,Ct];done))))));done)|fail) (q2:s.o gv=some (Aq capv [x]):=by first|((repeat (first|exact CH _ _ _|(refine CN ?_ ?_;(focus (first|assumption|(simp only[*,Ct];done))))));done)|fail) (q3:¬ gv=g∧¬ g=gv:=by simp only[*,Ct,and_self]):Dg Tryz.prog f vs d s K:=by
 refine ⟨_,_,Kv q1 q2,h q3, ?_⟩
 rintro r o2 ⟨⟨y1,c⟩,⟨hc,hy⟩,rfl,rfl⟩ hf
 cases y1 with
 | none=>exact h1 c hc
 | some b=>
  obtain ⟨⟨a1,a2⟩,a3,a4⟩:=hy b rfl
  refine h2 b c (hf b (Aq c (Dt L i x)) (by simp[lk]) (by simp[lk,a1,a3])) ⟨a1,a2⟩ ⟨a3,a4⟩ hc
theorem a2L{gv capv:Nat}{x:PrP}{vs:List AV}{f:Nat}
  (h:CT Tryz.prog f vs (lk [(gv,Aq capv [x])]) (fun r o=>∃ b c,(1≤c∧¬ b=gv∧¬ gv=b)∧r=.hsl b 115 2 1 c∧o=lk [(b,Aq c [x]),(gv,Aq capv [x])]))
  (h2:∀ b c,s.o b=none→(¬ b=gv∧¬ gv=b)→1≤c→KS (St.put ⟨s.t,BG [(b,Aq c [x]),(gv,Aq capv [x])] s.o⟩ d (.hsl b 115 2 1 c)) K)
  (q2:s.o gv=some (Aq capv [x]):=by first|((repeat (first|exact CH _ _ _|(refine CN ?_ ?_;(focus (first|assumption|(simp only[*,Ct];done))))));done)|fail):Dg Tryz.prog f vs d s K:=by
 refine ⟨_,_,Pq q2,h, ?_⟩
 rintro r o2 ⟨b,c,⟨hc,a3,a4⟩,rfl,rfl⟩ hf
 exact h2 b c (hf b (Aq c [x]) (by simp[lk]) (by simp[lk,a3])) ⟨a3,a4⟩ hc
end
end
end Go.Proofs.YtfgihnhoocnmdaaGreatDoor
