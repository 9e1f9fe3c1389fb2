import Derived.Test.YthdcogkdacnheaaGreatDoorK10
import Derived.Maps.RangeWalk
import Derived.OwnWalkIn
import Derived.Sort.MapsRangeIn
import Derived.RangeFuncFrom
import Derived.RangeFuncLeaves
import Derived.TacticsInMore
import Derived.RegionIn
import Derived.LoopNIn
import Derived.LoopIn
import Derived.Maps.RangeRun
import Derived.Maps.AppendAt
import Derived.Shelf.AbstractIn
import Derived.Shelf.SlSortCmp.NoneTotal
import Derived.RunT
import Derived.Calls
import Derived.Sort.Grow
import Derived.Deep.Draws
namespace Go.Proofs.YthdcogkdacnheaaGreatDoor
set_option linter.all false
set_option maxHeartbeats 9000000
section
theorem Ed:(((((((type_of% @opsW_cons∧type_of% @opsW_nil)∧(type_of% @opsK_ap∧(type_of% @opW_none∧type_of% @opW_some)))∧((type_of% @kW_mv∧type_of% @kW_nil)∧(type_of% @kW_tk∧(type_of% @kW_newv∧type_of% @kW_box))))∧(((type_of% @kW_ld∧type_of% @kW_sto)∧(type_of% @kW_fld∧(type_of% @kW_idx∧type_of% @kW_sidx)))∧((type_of% @kW_bin∧type_of% @kW_beq)∧(type_of% @kW_un∧(type_of% @kW_len∧type_of% @kW_app)))))∧((((type_of% @kW_bs∧type_of% @kW_bld)∧(type_of% @kW_fldv∧(type_of% @kW_call∧type_of% @kW_ext)))∧((type_of% @kW_nilc∧type_of% @kW_pick)∧(type_of% @kW_slc∧(type_of% @kW_conv∧type_of% @kW_s2s))))∧(((type_of% @kW_b2s∧type_of% @wpx_skip)∧(type_of% @wpx_reg∧(type_of% @wpx_seq∧type_of% @wpx_cond)))∧((type_of% @wpx_block∧(type_of% @wpx_loopW∧type_of% @wpx_exit))∧(type_of% @wpx_ret∧(type_of% @nQ_ap∧type_of% @wQ_ap))))))∧(((((type_of% @th_n∧type_of% @th_r)∧(type_of% @th_e∧(type_of% @bl_n∧type_of% @bl_r)))∧((type_of% @bl_e∧type_of% @rq_n)∧(type_of% @rq_r∧(type_of% @rq_e∧type_of% @r3_n))))∧(((type_of% @r3_r∧type_of% @r3_e)∧(type_of% @r_one∧(type_of% @r_two∧type_of% @r_nil)))∧((type_of% @rl_cons∧(type_of% @l_one∧type_of% @l_all))∧(type_of% @putK.eq_1∧(type_of% @mvK.eq_1∧type_of% @tkK.eq_1)))))∧((((type_of% @newK.eq_1∧type_of% @boxK.eq_1)∧(type_of% @ldK2.eq_1∧(type_of% @ldK.eq_1∧type_of% @stoK.eq_1)))∧((type_of% @sto2K.eq_1∧type_of% @sto1K.eq_1)∧(type_of% @un1K.eq_1∧(type_of% @bi2K.eq_1∧type_of% @bi1K.eq_1))))∧(((type_of% @app2K.eq_1∧type_of% @app1K.eq_1)∧(type_of% @bsK.eq_1∧(type_of% @aggK.eq_1∧type_of% @bldK.eq_1)))∧((type_of% @callK.eq_1∧(type_of% @pk3K.eq_1∧type_of% @pk2K.eq_1))∧(type_of% @pk1K.eq_1∧(type_of% @sl3K.eq_1∧type_of% @sl2K.eq_1)))))))∧((((((type_of% @sl1K.eq_1∧type_of% @strK.eq_1)∧(type_of% @b2K.eq_1∧(type_of% @bwK.eq_1∧type_of% @pk_t)))∧((type_of% @pk_f∧type_of% @bw_some)∧(type_of% @c_t∧(type_of% @c_f∧type_of% @g_tt))))∧(((type_of% @g_tf∧type_of% @g_ft)∧(type_of% @g_ff∧(type_of% @g_undef∧type_of% @kW_callo)))∧((type_of% @kW_callv∧type_of% @kW_hbs)∧(type_of% @hbsK.eq_1∧(type_of% @hbsN.eq_1∧type_of% @kW_ldt)))))∧((((type_of% @kW_stt∧type_of% @calloK.eq_1)∧(type_of% @ldt3.eq_1∧(type_of% @ldt2.eq_1∧type_of% @stt3.eq_1)))∧((type_of% @stt1.eq_1∧type_of% @r2_n)∧(type_of% @r2_r∧(type_of% @r2_e∧type_of% @kW_aeq))))∧(((type_of% @RK_aeqf∧type_of% @RK_aeqt)∧(type_of% @kW_apps∧(type_of% @apps2K.eq_1∧type_of% @apps1K.eq_1)))∧((type_of% @kW_aidx∧(type_of% @kW_mk∧type_of% @mkK.eq_1))∧(type_of% @kW_vidx∧(type_of% @kW_mn∧type_of% @otF_nil))))))∧(((((type_of% @otF_op∧type_of% @otF_two)∧(type_of% @otFK_ap∧(type_of% @otW_nil∧type_of% @otW_op)))∧((type_of% @otW_two∧type_of% @otWK_ap)∧(type_of% @twoK.eq_1∧(type_of% @wpx_treeW∧type_of% @kW_mx))))∧(((type_of% @kW_mkm∧type_of% @mkmK.eq_1)∧(type_of% @mq5.eq_1∧(type_of% @mq1.eq_1∧type_of% @kW_mq)))∧((type_of% @mu5.eq_1∧(type_of% @mu2.eq_1∧type_of% @mu1.eq_1))∧(type_of% @kW_mu∧(type_of% @rngK.eq_1∧type_of% @kW_rng)))))∧((((type_of% @kW_nxt∧type_of% @kW_ent)∧(type_of% @kW_peq∧(type_of% @kW_app0∧type_of% @kW_cro)))∧((type_of% @croK.eq_1∧type_of% @kW_ldr)∧(type_of% @kW_ldh∧(type_of% @ldhK2.eq_1∧type_of% @ldhK.eq_1))))∧(((type_of% @kW_b2o∧type_of% @kW_asl)∧(type_of% @kW_s2b∧(type_of% @kW_hslc∧type_of% @hs1K.eq_1)))∧((type_of% @hs2K.eq_1∧(type_of% @hs3K.eq_1∧type_of% @kW_hnl))∧(type_of% @kW_hap0∧(type_of% @kW_hap∧type_of% @hap1K.eq_1)))))))):=
 ⟨⟨⟨⟨⟨⟨⟨@opsW_cons, @opsW_nil⟩,⟨@opsK_ap,⟨@opW_none, @opW_some⟩⟩⟩,⟨⟨@kW_mv, @kW_nil⟩,⟨@kW_tk,⟨@kW_newv, @kW_box⟩⟩⟩⟩,⟨⟨⟨@kW_ld, @kW_sto⟩,⟨@kW_fld,⟨@kW_idx, @kW_sidx⟩⟩⟩,⟨⟨@kW_bin, @kW_beq⟩,⟨@kW_un,⟨@kW_len, @kW_app⟩⟩⟩⟩⟩,⟨⟨⟨⟨@kW_bs, @kW_bld⟩,⟨@kW_fldv,⟨@kW_call, @kW_ext⟩⟩⟩,⟨⟨@kW_nilc, @kW_pick⟩,⟨@kW_slc,⟨@kW_conv, @kW_s2s⟩⟩⟩⟩,⟨⟨⟨@kW_b2s, @wpx_skip⟩,⟨@wpx_reg,⟨@wpx_seq, @wpx_cond⟩⟩⟩,⟨⟨@wpx_block,⟨@wpx_loopW, @wpx_exit⟩⟩,⟨@wpx_ret,⟨@nQ_ap, @wQ_ap⟩⟩⟩⟩⟩⟩,⟨⟨⟨⟨⟨@th_n, @th_r⟩,⟨@th_e,⟨@bl_n, @bl_r⟩⟩⟩,⟨⟨@bl_e, @rq_n⟩,⟨@rq_r,⟨@rq_e, @r3_n⟩⟩⟩⟩,⟨⟨⟨@r3_r, @r3_e⟩,⟨@r_one,⟨@r_two, @r_nil⟩⟩⟩,⟨⟨@rl_cons,⟨@l_one, @l_all⟩⟩,⟨@putK.eq_1,⟨@mvK.eq_1, @tkK.eq_1⟩⟩⟩⟩⟩,⟨⟨⟨⟨@newK.eq_1, @boxK.eq_1⟩,⟨@ldK2.eq_1,⟨@ldK.eq_1, @stoK.eq_1⟩⟩⟩,⟨⟨@sto2K.eq_1, @sto1K.eq_1⟩,⟨@un1K.eq_1,⟨@bi2K.eq_1, @bi1K.eq_1⟩⟩⟩⟩,⟨⟨⟨@app2K.eq_1, @app1K.eq_1⟩,⟨@bsK.eq_1,⟨@aggK.eq_1, @bldK.eq_1⟩⟩⟩,⟨⟨@callK.eq_1,⟨@pk3K.eq_1, @pk2K.eq_1⟩⟩,⟨@pk1K.eq_1,⟨@sl3K.eq_1, @sl2K.eq_1⟩⟩⟩⟩⟩⟩⟩,⟨⟨⟨⟨⟨⟨@sl1K.eq_1, @strK.eq_1⟩,⟨@b2K.eq_1,⟨@bwK.eq_1, @pk_t⟩⟩⟩,⟨⟨@pk_f, @bw_some⟩,⟨@c_t,⟨@c_f, @g_tt⟩⟩⟩⟩,⟨⟨⟨@g_tf, @g_ft⟩,⟨@g_ff,⟨@g_undef, @kW_callo⟩⟩⟩,⟨⟨@kW_callv, @kW_hbs⟩,⟨@hbsK.eq_1,⟨@hbsN.eq_1, @kW_ldt⟩⟩⟩⟩⟩,⟨⟨⟨⟨@kW_stt, @calloK.eq_1⟩,⟨@ldt3.eq_1,⟨@ldt2.eq_1, @stt3.eq_1⟩⟩⟩,⟨⟨@stt1.eq_1, @r2_n⟩,⟨@r2_r,⟨@r2_e, @kW_aeq⟩⟩⟩⟩,⟨⟨⟨@RK_aeqf, @RK_aeqt⟩,⟨@kW_apps,⟨@apps2K.eq_1, @apps1K.eq_1⟩⟩⟩,⟨⟨@kW_aidx,⟨@kW_mk, @mkK.eq_1⟩⟩,⟨@kW_vidx,⟨@kW_mn, @otF_nil⟩⟩⟩⟩⟩⟩,⟨⟨⟨⟨⟨@otF_op, @otF_two⟩,⟨@otFK_ap,⟨@otW_nil, @otW_op⟩⟩⟩,⟨⟨@otW_two, @otWK_ap⟩,⟨@twoK.eq_1,⟨@wpx_treeW, @kW_mx⟩⟩⟩⟩,⟨⟨⟨@kW_mkm, @mkmK.eq_1⟩,⟨@mq5.eq_1,⟨@mq1.eq_1, @kW_mq⟩⟩⟩,⟨⟨@mu5.eq_1,⟨@mu2.eq_1, @mu1.eq_1⟩⟩,⟨@kW_mu,⟨@rngK.eq_1, @kW_rng⟩⟩⟩⟩⟩,⟨⟨⟨⟨@kW_nxt, @kW_ent⟩,⟨@kW_peq,⟨@kW_app0, @kW_cro⟩⟩⟩,⟨⟨@croK.eq_1, @kW_ldr⟩,⟨@kW_ldh,⟨@ldhK2.eq_1, @ldhK.eq_1⟩⟩⟩⟩,⟨⟨⟨@kW_b2o, @kW_asl⟩,⟨@kW_s2b,⟨@kW_hslc, @hs1K.eq_1⟩⟩⟩,⟨⟨@hs2K.eq_1,⟨@hs3K.eq_1, @kW_hnl⟩⟩,⟨@kW_hap0,⟨@kW_hap, @hap1K.eq_1⟩⟩⟩⟩⟩⟩⟩⟩
theorem Eu:((((((((type_of% @rl_nil∧type_of% @ar_tmp)∧(type_of% @ar_cellf∧type_of% @K1_some))∧((type_of% @KL_some∧type_of% @KP_some)∧(type_of% @RK_eq∧(type_of% @RK_and∧type_of% @RK_andx))))∧(((type_of% @RL_eq∧type_of% @RL_andx)∧(type_of% @KS_lit∧type_of% @BytesW_map))∧((type_of% @st0_eq∧type_of% @put_lk)∧(type_of% @put_none∧(type_of% @upd_lk∧type_of% @upd_del)))))∧((((type_of% @ev_t∧type_of% @ev_c)∧(type_of% @lk_cons∧type_of% @lk_nil))∧((type_of% @pt_cons∧type_of% @pt_nil)∧(type_of% @del_cons∧(type_of% @del_nil∧type_of% @num_cons))))∧(((type_of% @num_nil∧type_of% @al_int)∧(type_of% @al_bool∧type_of% @al_str))∧((type_of% @al_agg∧type_of% @al_sl)∧(type_of% @al_ro∧(type_of% @al_ptr∧type_of% @al_nilp))))))∧(((((type_of% @al_fn∧type_of% @al_clo)∧(type_of% @so_clo∧type_of% @ce_clo))∧((type_of% @al_tup∧type_of% @al_undef)∧(type_of% @ce_int∧(type_of% @ce_bool∧type_of% @ce_str))))∧(((type_of% @ce_agg∧type_of% @ce_sl)∧(type_of% @ce_ro∧type_of% @ce_ptr))∧((type_of% @ce_nilp∧type_of% @tk_own)∧(type_of% @tk_none∧(type_of% @tk_int∧type_of% @b_addf)))))∧((((type_of% @b_subf∧type_of% @b_mulf)∧(type_of% @b_quof∧type_of% @b_remf))∧((type_of% @b_eqlf∧type_of% @b_neqf)∧(type_of% @b_lssf∧(type_of% @b_leqf∧type_of% @b_gtrf))))∧(((type_of% @b_geqf∧type_of% @b_catf)∧(type_of% @b_seqlf∧type_of% @b_sneqf))∧((type_of% @b_slssf∧type_of% @be_ff)∧(type_of% @be_tf∧(type_of% @u_notf∧type_of% @u_xorf)))))))∧((((((type_of% @u_negf∧type_of% @v_ro)∧(type_of% @v_ptr∧type_of% @l_onef))∧((type_of% @l_allf∧type_of% @f_rof)∧(type_of% @f_ptrf∧(type_of% @n_strf∧type_of% @n_slf))))∧(((type_of% @i_slf∧type_of% @i_strf)∧(type_of% @a_appf∧type_of% @fv_aggf))∧((type_of% @x_tup0f∧type_of% @x_tupsf)∧(type_of% @nc_rof∧(type_of% @nc_ptrf∧type_of% @so_ptr)))))∧((((type_of% @bt_sl∧type_of% @sc_strf)∧(type_of% @sc_slf∧type_of% @lo_str))∧((type_of% @lo_sl∧type_of% @bw_none)∧(type_of% @iw_int∧(type_of% @cv_intf∧type_of% @ss_strf))))∧(((type_of% @evs_nil∧type_of% @evs_cons)∧(type_of% @evp_nil∧type_of% @evp_cons))∧((type_of% @fl_nilf∧type_of% @fl_consf)∧(type_of% @sp_0n∧(type_of% @sp_0∧type_of% @sp_s))))))∧(((((type_of% @sz_nil∧type_of% @sz_cons)∧(type_of% @Option.some.injEq.{0}∧type_of% @exists_eq_left.{1}))∧((type_of% @exists_eq_left'.{1}∧type_of% @List.map_cons.{0,0})∧(type_of% @List.map_nil.{0,0}∧(type_of% @List.length_cons.{0}∧type_of% @List.length_nil.{0}))))∧(((type_of% @List.drop_succ_cons.{0}∧type_of% @List.drop_zero.{0})∧(type_of% @List.take_succ_cons.{0}∧type_of% @List.take_zero.{0}))∧((type_of% @Option.map_some.{0,0}∧type_of% @Option.bind_some.{0,0})∧(type_of% @true_and∧(type_of% @and_true∧type_of% @Bool.not_true)))))∧((((type_of% @Bool.not_false∧type_of% @ne_eq.{1})∧(type_of% @not_true_eq_false∧type_of% @not_false_eq_true))∧((type_of% @Option.getD_some.{0}∧type_of% @Option.getD_none.{0})∧(type_of% @AV.bool.injEq∧(type_of% @AV.int.injEq∧type_of% @AV.str.injEq))))∧(((type_of% @AV.ptr.injEq∧type_of% @AV.sl.injEq)∧(type_of% @AV.ro.injEq∧(type_of% @AV.agg.injEq∧type_of% @AV.tup.injEq)))∧((type_of% @Nat.zero_add∧type_of% @Nat.add_zero)∧(type_of% @Bool.not_not∧(type_of% @eq_self.{1}∧type_of% @Nat.zero_lt_succ))))))))∧(((((((type_of% @decide_true∧type_of% @decide_false)∧(type_of% @Int.toNat_natCast∧type_of% @Int.natCast_nonneg))∧((type_of% @callv_fn∧type_of% @ldt_ptr)∧(type_of% @ldt_ro∧(type_of% @stt_ptr∧type_of% @ovr_lk))))∧(((type_of% @ov_nil∧type_of% @ov_cons)∧(type_of% @ldE_own∧type_of% @ldE_none))∧((type_of% @stE_own∧type_of% @stE_none)∧(type_of% @ce_sln∧(type_of% @List.getElem?_cons_zero.{0}∧type_of% @List.getElem?_cons_succ.{0})))))∧((((type_of% @ldE_nils∧type_of% @al_nils)∧(type_of% @so_nils∧type_of% @so_int))∧((type_of% @so_bool∧type_of% @so_str)∧(type_of% @so_sl∧(type_of% @so_ro∧type_of% @so_pt))))∧(((type_of% @so_nilp∧type_of% @so_fn)∧(type_of% @b_orf∧type_of% @b_andf))∧((type_of% @b_xorf∧type_of% @b_andNotf)∧(type_of% @b_shlf∧(type_of% @b_shrf∧type_of% @KB_some))))))∧(((((type_of% @oand_some∧type_of% @eqC_nil)∧(type_of% @eqC_i∧type_of% @eqC_b))∧((type_of% @eqC_s∧type_of% @Bool.and_true)∧(type_of% @a_appsf∧(type_of% @ai_ptr∧type_of% @ai_ro))))∧(((type_of% @mk_int∧type_of% @n_oslf)∧(type_of% @i_oslf∧type_of% @al_osl))∧((type_of% @ce_osl∧type_of% @so_osl)∧(type_of% @tk_osl∧(type_of% @al_nili∧type_of% @ce_nili)))))∧((((type_of% @so_nili∧type_of% @AV.osl.injEq)∧(type_of% @al_nilT∧type_of% @ce_nilT))∧((type_of% @so_nilT∧type_of% @vi_agg)∧(type_of% @mn_int∧(type_of% @mx_int∧type_of% @KF_some))))∧(((type_of% @mqV_st∧type_of% @mqV_sf)∧(type_of% @mqV_nt∧type_of% @mqV_nf))∧((type_of% @mq_mp∧type_of% @mq_mapv)∧(type_of% @muK_some∧(type_of% @mu_mapv∧type_of% @mu0_mp)))))))∧((((((type_of% @mu1_mp∧type_of% @mu2_mp)∧(type_of% @mu3_mp∧type_of% @mu0_s))∧((type_of% @mu0_n∧type_of% @mu1_s)∧(type_of% @mu1_n∧(type_of% @mu3_s∧type_of% @mu3_n))))∧(((type_of% @rng_mp∧type_of% @rng_mapv)∧(type_of% @nxt_mp∧type_of% @nxt_mit))∧((type_of% @nxt_itp∧type_of% @ent_mp)∧(type_of% @ent_mit∧(type_of% @ent_itp∧type_of% @al_mapv)))))∧((((type_of% @ce_mapv∧type_of% @so_mapv)∧(type_of% @al_nilm∧type_of% @ce_nilm))∧((type_of% @so_nilm∧type_of% @al_itp)∧(type_of% @ce_itp∧(type_of% @AV.mapv.injEq∧type_of% @pe_ptr))))∧(((type_of% @pe_ro∧type_of% @pe_nilp)∧(type_of% @a0_sl∧type_of% @lr_ro))∧((type_of% @ldh_cons∧type_of% @hal_nils)∧(type_of% @hal_hsl∧(type_of% @hal_hnil∧type_of% @hal_sl))))))∧(((((type_of% @b2o_sl∧type_of% @b2o_osl)∧(type_of% @b2oL_mk∧type_of% @as_ptr))∧((type_of% @sb_str∧type_of% @al_hsl)∧(type_of% @ce_hsl∧(type_of% @so_hsl∧type_of% @tk_hsl))))∧(((type_of% @ldE_hsl∧type_of% @stE_hsl)∧(type_of% @al_hss∧type_of% @al_hnil))∧((type_of% @ce_hnil∧type_of% @so_hnil)∧(type_of% @tk_hnil∧(type_of% @ldE_hnil∧type_of% @stE_hnil)))))∧((((type_of% @n_hsl∧type_of% @n_hss)∧(type_of% @n_hnil∧type_of% @i_hsl))∧((type_of% @i_hss∧type_of% @hl_hsl)∧(type_of% @hl_hss∧(type_of% @hl_sl∧type_of% @hl_hnil))))∧(((type_of% @hs_hsl0∧type_of% @hs_hsl1)∧(type_of% @hs_hss∧(type_of% @hs_sl∧type_of% @hs_hnil)))∧((type_of% @op_none∧type_of% @op_some)∧(type_of% @AV.hsl.injEq∧(type_of% @AV.hss.injEq∧type_of% @AV.hnil.injEq))))))))):=
 ⟨⟨⟨⟨⟨⟨⟨⟨@rl_nil, @ar_tmp⟩,⟨@ar_cellf, @K1_some⟩⟩,⟨⟨@KL_some, @KP_some⟩,⟨@RK_eq,⟨@RK_and, @RK_andx⟩⟩⟩⟩,⟨⟨⟨@RL_eq, @RL_andx⟩,⟨@KS_lit, @BytesW_map⟩⟩,⟨⟨@st0_eq, @put_lk⟩,⟨@put_none,⟨@upd_lk, @upd_del⟩⟩⟩⟩⟩,⟨⟨⟨⟨@ev_t, @ev_c⟩,⟨@lk_cons, @lk_nil⟩⟩,⟨⟨@pt_cons, @pt_nil⟩,⟨@del_cons,⟨@del_nil, @num_cons⟩⟩⟩⟩,⟨⟨⟨@num_nil, @al_int⟩,⟨@al_bool, @al_str⟩⟩,⟨⟨@al_agg, @al_sl⟩,⟨@al_ro,⟨@al_ptr, @al_nilp⟩⟩⟩⟩⟩⟩,⟨⟨⟨⟨⟨@al_fn, @al_clo⟩,⟨@so_clo, @ce_clo⟩⟩,⟨⟨@al_tup, @al_undef⟩,⟨@ce_int,⟨@ce_bool, @ce_str⟩⟩⟩⟩,⟨⟨⟨@ce_agg, @ce_sl⟩,⟨@ce_ro, @ce_ptr⟩⟩,⟨⟨@ce_nilp, @tk_own⟩,⟨@tk_none,⟨@tk_int, @b_addf⟩⟩⟩⟩⟩,⟨⟨⟨⟨@b_subf, @b_mulf⟩,⟨@b_quof, @b_remf⟩⟩,⟨⟨@b_eqlf, @b_neqf⟩,⟨@b_lssf,⟨@b_leqf, @b_gtrf⟩⟩⟩⟩,⟨⟨⟨@b_geqf, @b_catf⟩,⟨@b_seqlf, @b_sneqf⟩⟩,⟨⟨@b_slssf, @be_ff⟩,⟨@be_tf,⟨@u_notf, @u_xorf⟩⟩⟩⟩⟩⟩⟩,⟨⟨⟨⟨⟨⟨@u_negf, @v_ro⟩,⟨@v_ptr, @l_onef⟩⟩,⟨⟨@l_allf, @f_rof⟩,⟨@f_ptrf,⟨@n_strf, @n_slf⟩⟩⟩⟩,⟨⟨⟨@i_slf, @i_strf⟩,⟨@a_appf, @fv_aggf⟩⟩,⟨⟨@x_tup0f, @x_tupsf⟩,⟨@nc_rof,⟨@nc_ptrf, @so_ptr⟩⟩⟩⟩⟩,⟨⟨⟨⟨@bt_sl, @sc_strf⟩,⟨@sc_slf, @lo_str⟩⟩,⟨⟨@lo_sl, @bw_none⟩,⟨@iw_int,⟨@cv_intf, @ss_strf⟩⟩⟩⟩,⟨⟨⟨@evs_nil, @evs_cons⟩,⟨@evp_nil, @evp_cons⟩⟩,⟨⟨@fl_nilf, @fl_consf⟩,⟨@sp_0n,⟨@sp_0, @sp_s⟩⟩⟩⟩⟩⟩,⟨⟨⟨⟨⟨@sz_nil, @sz_cons⟩,⟨@Option.some.injEq.{0}, @exists_eq_left.{1}⟩⟩,⟨⟨@exists_eq_left'.{1}, @List.map_cons.{0,0}⟩,⟨@List.map_nil.{0,0},⟨@List.length_cons.{0}, @List.length_nil.{0}⟩⟩⟩⟩,⟨⟨⟨@List.drop_succ_cons.{0}, @List.drop_zero.{0}⟩,⟨@List.take_succ_cons.{0}, @List.take_zero.{0}⟩⟩,⟨⟨@Option.map_some.{0,0}, @Option.bind_some.{0,0}⟩,⟨@true_and,⟨@and_true, @Bool.not_true⟩⟩⟩⟩⟩,⟨⟨⟨⟨@Bool.not_false, @ne_eq.{1}⟩,⟨@not_true_eq_false, @not_false_eq_true⟩⟩,⟨⟨@Option.getD_some.{0}, @Option.getD_none.{0}⟩,⟨@AV.bool.injEq,⟨@AV.int.injEq, @AV.str.injEq⟩⟩⟩⟩,⟨⟨⟨@AV.ptr.injEq, @AV.sl.injEq⟩,⟨@AV.ro.injEq,⟨@AV.agg.injEq, @AV.tup.injEq⟩⟩⟩,⟨⟨@Nat.zero_add, @Nat.add_zero⟩,⟨@Bool.not_not,⟨@eq_self.{1}, @Nat.zero_lt_succ⟩⟩⟩⟩⟩⟩⟩⟩,⟨⟨⟨⟨⟨⟨⟨@decide_true, @decide_false⟩,⟨@Int.toNat_natCast, @Int.natCast_nonneg⟩⟩,⟨⟨@callv_fn, @ldt_ptr⟩,⟨@ldt_ro,⟨@stt_ptr, @ovr_lk⟩⟩⟩⟩,⟨⟨⟨@ov_nil, @ov_cons⟩,⟨@ldE_own, @ldE_none⟩⟩,⟨⟨@stE_own, @stE_none⟩,⟨@ce_sln,⟨@List.getElem?_cons_zero.{0}, @List.getElem?_cons_succ.{0}⟩⟩⟩⟩⟩,⟨⟨⟨⟨@ldE_nils, @al_nils⟩,⟨@so_nils, @so_int⟩⟩,⟨⟨@so_bool, @so_str⟩,⟨@so_sl,⟨@so_ro, @so_pt⟩⟩⟩⟩,⟨⟨⟨@so_nilp, @so_fn⟩,⟨@b_orf, @b_andf⟩⟩,⟨⟨@b_xorf, @b_andNotf⟩,⟨@b_shlf,⟨@b_shrf, @KB_some⟩⟩⟩⟩⟩⟩,⟨⟨⟨⟨⟨@oand_some, @eqC_nil⟩,⟨@eqC_i, @eqC_b⟩⟩,⟨⟨@eqC_s, @Bool.and_true⟩,⟨@a_appsf,⟨@ai_ptr, @ai_ro⟩⟩⟩⟩,⟨⟨⟨@mk_int, @n_oslf⟩,⟨@i_oslf, @al_osl⟩⟩,⟨⟨@ce_osl, @so_osl⟩,⟨@tk_osl,⟨@al_nili, @ce_nili⟩⟩⟩⟩⟩,⟨⟨⟨⟨@so_nili, @AV.osl.injEq⟩,⟨@al_nilT, @ce_nilT⟩⟩,⟨⟨@so_nilT, @vi_agg⟩,⟨@mn_int,⟨@mx_int, @KF_some⟩⟩⟩⟩,⟨⟨⟨@mqV_st, @mqV_sf⟩,⟨@mqV_nt, @mqV_nf⟩⟩,⟨⟨@mq_mp, @mq_mapv⟩,⟨@muK_some,⟨@mu_mapv, @mu0_mp⟩⟩⟩⟩⟩⟩⟩,⟨⟨⟨⟨⟨⟨@mu1_mp, @mu2_mp⟩,⟨@mu3_mp, @mu0_s⟩⟩,⟨⟨@mu0_n, @mu1_s⟩,⟨@mu1_n,⟨@mu3_s, @mu3_n⟩⟩⟩⟩,⟨⟨⟨@rng_mp, @rng_mapv⟩,⟨@nxt_mp, @nxt_mit⟩⟩,⟨⟨@nxt_itp, @ent_mp⟩,⟨@ent_mit,⟨@ent_itp, @al_mapv⟩⟩⟩⟩⟩,⟨⟨⟨⟨@ce_mapv, @so_mapv⟩,⟨@al_nilm, @ce_nilm⟩⟩,⟨⟨@so_nilm, @al_itp⟩,⟨@ce_itp,⟨@AV.mapv.injEq, @pe_ptr⟩⟩⟩⟩,⟨⟨⟨@pe_ro, @pe_nilp⟩,⟨@a0_sl, @lr_ro⟩⟩,⟨⟨@ldh_cons, @hal_nils⟩,⟨@hal_hsl,⟨@hal_hnil, @hal_sl⟩⟩⟩⟩⟩⟩,⟨⟨⟨⟨⟨@b2o_sl, @b2o_osl⟩,⟨@b2oL_mk, @as_ptr⟩⟩,⟨⟨@sb_str, @al_hsl⟩,⟨@ce_hsl,⟨@so_hsl, @tk_hsl⟩⟩⟩⟩,⟨⟨⟨@ldE_hsl, @stE_hsl⟩,⟨@al_hss, @al_hnil⟩⟩,⟨⟨@ce_hnil, @so_hnil⟩,⟨@tk_hnil,⟨@ldE_hnil, @stE_hnil⟩⟩⟩⟩⟩,⟨⟨⟨⟨@n_hsl, @n_hss⟩,⟨@n_hnil, @i_hsl⟩⟩,⟨⟨@i_hss, @hl_hsl⟩,⟨@hl_hss,⟨@hl_sl, @hl_hnil⟩⟩⟩⟩,⟨⟨⟨@hs_hsl0, @hs_hsl1⟩,⟨@hs_hss,⟨@hs_sl, @hs_hnil⟩⟩⟩,⟨⟨@op_none, @op_some⟩,⟨@AV.hsl.injEq,⟨@AV.hss.injEq, @AV.hnil.injEq⟩⟩⟩⟩⟩⟩⟩⟩⟩
end
section
open Go.RowKit
def LeS{α:Type}(sn:List Nat):List (Nat × α)→(Nat→Option α)→Prop
 | [],_=>True
 | (k,v)::r,f=>(k∈sn∨f k=some v)∧LeS (k::sn) r f
theorem LeS_ok{α:Type}{f:Nat→Option α}:∀ {l:List (Nat × α)} {sn:List Nat},LeS sn l f→∀ i v,i ∉ sn→lk l i=some v→f i=some v
 | [],_,_,i,v,_,h=>by simp[lk]at h
 | (k,w)::r,sn,⟨h1,h2⟩,i,v,hn,h=>by
  rw[lk]at h
  split at h
  ·rename_i e
   subst e
   cases h
   exact h1.resolve_left hn
  ·rename_i e
   exact LeS_ok h2 i v (by rw[List.mem_cons,not_or];exact ⟨e,hn⟩) h
theorem leK_dd{a:List (Nat × AV)}{b:List (Nat × List AV)}{s:St}(h:LeS [] a s.t∧LeL b s.o):leK ⟨lk a,lk b⟩ s:=⟨fun i v e=>LeS_ok h.1 i v (by simp) e,LeL_ok h.2⟩
theorem lk_sub2{b c:Nat}{cs ds:List AV}{o:Nat→Option (List AV)}(h:o b=some cs)(g:o c=some ds):∀ b' cs',lk [(b,cs),(c,ds)] b'=some cs'→o b'=some cs':=by
 intro b' cs' h'
 rw[lk_cons,lk_cons]at h'
 by_cases hb:b'=b
 ·subst hb;rw[if_pos rfl]at h';rw[h,h']
 ·rw[if_neg hb]at h'
  by_cases hc:b'=c
  ·subst hc;rw[if_pos rfl]at h';rw[g,h']
  ·rw[if_neg hc]at h';cases h'
theorem lk_sub3{b c d:Nat}{x y z:List AV}{o:Nat→Option (List AV)}(h:o b=some x)(g:o c=some y)(k:o d=some z):∀ b' cs',lk [(b,x),(c,y),(d,z)] b'=some cs'→o b'=some cs':=by
 intro b' cs' h'
 rw[lk_cons]at h'
 by_cases hb:b'=b
 ·subst hb;rw[if_pos rfl]at h';rw[h,h']
 ·rw[if_neg hb]at h';exact lk_sub2 g k b' cs' h'
def OM(A:Prop):Prop:=A
theorem OM_a{A:Prop}(h:A:=by first|omega|(simp only[a0f,Bool.not_eq_true',Bool.not_eq_false',decide_eq_true_eq,decide_eq_false_iff_not]at *;omega)):OM A:=h
theorem wA{A B:Prop}(left:OM A)(right:B):A∧B:=⟨left,right⟩
theorem wT{b:Bool}{K:Bool→Prop}(hk:K true)(h:a0f (b=true):=by assumption):Sp b K:=Sp_t h hk
theorem wF{b:Bool}{K:Bool→Prop}(hk:K false)(h:a0f (b=false):=by assumption):Sp b K:=Sp_f h hk
theorem wL{x y:Int}{K:Bool→Prop}(h1:x<y→a0f (decide (x<y)=true)→K true)(h2:y≤x→a0f (decide (x<y)=false)→K false):Sp (decide (x<y)) K:=Sp_split (fun h=>h1 (Fact_lt h) h) (fun h=>h2 (Fact_nlt h) h)
theorem wE{x y:Int}{K:Bool→Prop}(h1:x≤y→a0f (decide (x≤y)=true)→K true)(h2:y<x→a0f (decide (x≤y)=false)→K false):Sp (decide (x≤y)) K:=Sp_split (fun h=>h1 (Fact_le h) h) (fun h=>h2 (Fact_nle h) h)
theorem wK{a:List (Nat × AV)}{b:List (Nat × List AV)}{s:St}(h:LeL a s.t∧LeL b s.o:=by first|(simp[-List.getD_eq_getElem?_getD,LeL,lk, *];done)|fail):leK ⟨lk a,lk b⟩ s:=leK_lit h
theorem wD{a:List (Nat × AV)}{b:List (Nat × List AV)}{s:St}(h:LeS [] a s.t∧LeL b s.o:=by first|(simp[-List.getD_eq_getElem?_getD,LeS,LeL,lk, *];done)|fail):leK ⟨lk a,lk b⟩ s:=leK_dd h
section
variable {P:Program} {d:Option Nat} {s:St} {K:St→Prop}
theorem c1{f:Nat}{vs:List AV}{r:AV}{b:Nat}{x:List AV}{o2:List (Nat × List AV)}(h:CT P f vs (lk [(b,x)]) (fun r' o'=>r'=r∧o'=lk o2))(hK:KS (St.put ⟨s.t,ovr o2 s.o⟩ d r) K)(g:s.o b=some x:=by first|((repeat (first|exact lk_hd _ _ _|(refine lk_tl ?_ ?_;(focus (first|assumption|(simp only[*,not_false_eq_true];done))))));done)|fail):a3w P f vs d s K:=CallO_det h (lk_sub1 g) hK
theorem c2{f:Nat}{vs:List AV}{r:AV}{b c:Nat}{x y:List AV}{o2:List (Nat × List AV)}(h:CT P f vs (lk [(b,x),(c,y)]) (fun r' o'=>r'=r∧o'=lk o2))(hK:KS (St.put ⟨s.t,ovr o2 s.o⟩ d r) K)(g:s.o b=some x:=by first|((repeat (first|exact lk_hd _ _ _|(refine lk_tl ?_ ?_;(focus (first|assumption|(simp only[*,not_false_eq_true];done))))));done)|fail)(g':s.o c=some y:=by first|((repeat (first|exact lk_hd _ _ _|(refine lk_tl ?_ ?_;(focus (first|assumption|(simp only[*,not_false_eq_true];done))))));done)|fail):a3w P f vs d s K:=CallO_det h (lk_sub2 g g') hK
theorem c3{f:Nat}{vs:List AV}{r:AV}{b c e:Nat}{x y z:List AV}{o2:List (Nat × List AV)}(h:CT P f vs (lk [(b,x),(c,y),(e,z)]) (fun r' o'=>r'=r∧o'=lk o2))(hK:KS (St.put ⟨s.t,ovr o2 s.o⟩ d r) K)(g:s.o b=some x:=by first|((repeat (first|exact lk_hd _ _ _|(refine lk_tl ?_ ?_;(focus (first|assumption|(simp only[*,not_false_eq_true];done))))));done)|fail)(g':s.o c=some y:=by first|((repeat (first|exact lk_hd _ _ _|(refine lk_tl ?_ ?_;(focus (first|assumption|(simp only[*,not_false_eq_true];done))))));done)|fail)(g'':s.o e=some z:=by first|((repeat (first|exact lk_hd _ _ _|(refine lk_tl ?_ ?_;(focus (first|assumption|(simp only[*,not_false_eq_true];done))))));done)|fail):a3w P f vs d s K:=CallO_det h (lk_sub3 g g' g'') hK
theorem r2{f:Nat}{vs:List AV}{r:AV}{K:AV→Prop}{b c:Nat}{x y:List AV}(h:CT P f vs (lk [(b,x),(c,y)]) (fun r' o'=>r'=r∧o'=lk [(b,x),(c,y)]))(hK:K r)(g:s.o b=some x:=by first|((repeat (first|exact lk_hd _ _ _|(refine lk_tl ?_ ?_;(focus (first|assumption|(simp only[*,not_false_eq_true];done))))));done)|fail)(g':s.o c=some y:=by first|((repeat (first|exact lk_hd _ _ _|(refine lk_tl ?_ ?_;(focus (first|assumption|(simp only[*,not_false_eq_true];done))))));done)|fail):b3H P f vs s K:=Cro_det h (lk_sub2 g g') hK
theorem r3{f:Nat}{vs:List AV}{r:AV}{K:AV→Prop}{b c e:Nat}{x y z:List AV}(h:CT P f vs (lk [(b,x),(c,y),(e,z)]) (fun r' o'=>r'=r∧o'=lk [(b,x),(c,y),(e,z)]))(hK:K r)(g:s.o b=some x:=by first|((repeat (first|exact lk_hd _ _ _|(refine lk_tl ?_ ?_;(focus (first|assumption|(simp only[*,not_false_eq_true];done))))));done)|fail)(g':s.o c=some y:=by first|((repeat (first|exact lk_hd _ _ _|(refine lk_tl ?_ ?_;(focus (first|assumption|(simp only[*,not_false_eq_true];done))))));done)|fail)(g'':s.o e=some z:=by first|((repeat (first|exact lk_hd _ _ _|(refine lk_tl ?_ ?_;(focus (first|assumption|(simp only[*,not_false_eq_true];done))))));done)|fail):b3H P f vs s K:=Cro_det h (lk_sub3 g g' g'') hK
end
end
section
open Go.RowKit
mutual
def b1m:AV→Option Value
 | .int k n=>some (.int k n)
 | .bool b=>some (.bool b)
 | .str l=>some (.string ⟨l.toArray⟩)
 | .tup cs=>(a7W cs).map fun vs=>.tuple vs.toArray
 | _=>none
def a7W:List AV→Option (List Value)
 | []=>some []
 | c::cs=>match b1m c,a7W cs with
  | some v,some vs=>some (v::vs)
  | _,_=>none
end
theorem conc_unique{W:World}{U:Nat→Nat→Prop}{a:AV}{v u:Value}(h:VR W U u a)(hc:b1m a=some v)(hp:∀ cs,a ≠ .tup cs):u=v:=by
 cases h<;>simp[b1m]at hc<;>first|exact hc|exact absurd rfl (hp _)
theorem a5F:∀ {cs:List AV} {vs:List Value},a7W cs=some vs→vs.length=cs.length∧∀ (i:Nat) (v:Value) (c:AV),vs[i]?=some v→cs[i]?=some c→b1m c=some v
 | [],vs,h=>by
  simp only[a7W,Option.some.injEq]at h
  subst h;simp
 | c::cs,vs,h=>by
  rw[a7W]at h
  split at h
  ·rename_i v ws h1 h2
   cases h
   have ih:=a5F h2
   refine ⟨by simp[ih.1],fun i u d hu hd=>?_⟩
   cases i with
   | zero=>simp at hu hd;subst hu;subst hd;exact h1
   | succ i=>exact ih.2 i u d (by simpa using hu) (by simpa using hd)
  ·cases h
theorem a6M(W:World)(U:Nat→Nat→Prop):∀ (n:Nat) (a:AV) (v:Value),SizeOf.sizeOf a≤n→b1m a=some v→VR W U v a
 | 0,a,v,hn,h=>by cases a<;>simp at hn
 | n+1,a,v,hn,h=>by
  cases a<;>simp only[b1m,Option.some.injEq,reduceCtorEq]at h
  ·subst h;exact .int _ _
  ·subst h;exact .bool _
  ·subst h;exact .str _
  ·rename_i cs
   cases hc:a7W cs with
   | none=>rw[hc]at h;cases h
   | some vs=>
    rw[hc]at h
    cases h
    have hg:=a5F hc
    refine .tup vs cs hg.1 fun i v c hv hc=>a6M W U n c v ?_ (hg.2 i v c hv hc)
    have:=List.sizeOf_lt_of_mem (List.mem_of_getElem? hc)
    simp at hn
    omega
theorem CP_libG{P:Program}{f:Nat}{av:List AV}{vs:List Value}{r:AV}{v:Value}(ha:a7W av=some vs)(hp:∀ a∈av, ∀ cs,a ≠ .tup cs)(hr:b1m r=some v)
  (h:∀ W U,Glob W U→Calls P f vs.toArray W fun e W'=>e=.returned v∧Below W.heap.size W W'):CP P f av r:=by
 intro W U us hG hl hu
 have hg:=a5F ha
 have he:us=vs:=by
  apply List.ext_getElem?
  intro i
  by_cases hi:i<us.length
  ·have h1:i<vs.length:=by omega
   have h2:i<av.length:=by omega
   rw[List.getElem?_eq_getElem hi,List.getElem?_eq_getElem h1]
   refine congrArg some (conc_unique (hu i _ av[i] (List.getElem?_eq_getElem hi) (List.getElem?_eq_getElem h2)) (hg.2 i _ _ (List.getElem?_eq_getElem h1) (List.getElem?_eq_getElem h2)) (hp _ (List.getElem_mem h2)))
  ·rw[List.getElem?_eq_none (by omega),List.getElem?_eq_none (by omega)]
 subst he
 refine (h W U hG).mono ?_
 rintro e W' ⟨rfl,hb⟩
 refine ⟨v,fun k o=>if k<W.heap.size then U k o else False,rfl,a6M _ _ _ r v (Nat.le_refl _) hr, ?_,hb,fun k hk o=>by simp[hk]⟩
 cases r<;>first|trivial|simp[b1m]at hr
theorem CP_lib{P:Program}{f:Nat}{av:List AV}{vs:List Value}{r:AV}{v:Value}(ha:a7W av=some vs)(hp:∀ a∈av, ∀ cs,a ≠ .tup cs)(hr:b1m r=some v)
  (h:∀ W,Calls P f vs.toArray W fun e W'=>e=.returned v∧Below W.heap.size W W'):CP P f av r:=CP_libG ha hp hr fun W _ _=>h W
end
section
open Go.RowKit
section
variable {P:Program} {d:Option Nat} {s:St} {K:St→Prop}
end
end
section
open Go.RowKit
section
variable {P:Program} {W0:World} {U0:Nat→Nat→Prop} {M:Nat→Prop} {W:World} {U:Nat→Nat→Prop}
theorem Inv.res1{o:Nat→Option (List AV)}(h:Inv 0 W0 U0 M { tmps := #[],defers:=[] } W U ⟨fun _=>none,o⟩){v:Value}{r:AV}(hv:VR W U v r)(ho:Sole W0 M { tmps := #[undef],defers:=[] } W U ⟨fun _=>none,o⟩ 0 v r):
  Inv 1 W0 U0 M { tmps := #[v],defers:=[] } W U ⟨upd (fun _=>none) 0 (some r),o⟩:=by
 have h1:Inv 1 W0 U0 M { tmps := #[undef],defers:=[] } W U ⟨fun _=>none,o⟩:=by
  have hc:∀ {ℓ:Loc} {x:AV},St.at ⟨fun _=>none,o⟩ ℓ=some x→cat { tmps := #[undef],defers:=[] } W ℓ=cat { tmps := #[],defers:=[] } W ℓ:=by
   intro ℓ x hx
   cases ℓ with
   | t i=>simp[St.at]at hx
   | o b j=>rfl
  refine ⟨rfl,rfl,h.fr,fun i x hx=>(by simp at hx),h.ob,fun ℓ x hx=>?_,fun ℓ ℓ' e sz els e' sz' els' hne h2 h3=>?_,fun ℓ e sz els h2=>?_⟩
  ·rw[hc hx];exact h.ow ℓ x hx
  ·rw[hc h2,hc h3];exact h.ap ℓ ℓ' _ _ _ _ _ _ hne h2 h3
  ·rw[hc h2];exact h.no ℓ e sz els h2
 exact h1.put (d:=0) (by omega) hv ho
theorem Inv.res2{o:Nat→Option (List AV)}(h:Inv 0 W0 U0 M { tmps := #[],defers:=[] } W U ⟨fun _=>none,o⟩){W':World}{U':Nat→Nat→Prop}(he:Ext W U W' U'){v:Value}{r:AV}(hv:VR W' U' v r)
  (ho:∀ e sz els,r=.sl (some e) sz els→OwnRow W' U' (W.heap.size ≤ ·) v e sz els.length):
  Inv 1 W0 U0 M { tmps := #[v],defers:=[] } W' U' ⟨upd (fun _=>none) 0 (some r),o⟩:=by
 refine (h.ext he).res1 hv fun e sz els hr=>?_
 have hw:=ho e sz els hr
 refine ⟨hw.toB fun g hg=>.inl (Nat.le_trans h.fr.size (OwnRow.inB hw hg)),fun g hg=>⟨?_,fun ℓ _ ⟨e',sz',els',hl⟩ hg'=>?_⟩⟩
 ·cases hs:o g with
  | none=>exact hs
  | some cs=>
   have h1:=h.ob_lt g cs hs
   have h2:W.heap.size≤g:=OwnRow.inB hw hg
   omega
 ·have h2:W.heap.size≤g:=OwnRow.inB hw hg
  cases ℓ with
  | t i=>simp[St.at]at hl
  | o b j=>
   have hl':St.at ⟨fun _=>none,o⟩ (.o b j)=some (.sl (some e') sz' els'):=hl
   have h5:=h.ow (.o b j) _ hl'
   simp only[Own1]at h5
   have hcat:cat { tmps := #[undef],defers:=[] } W' (.o b j)=cat { tmps := #[],defers:=[] } W (.o b j):=cat_ext (a:={ tmps := #[],defers:=[] }) he.b h.ob_lt hl'
   rw[hcat]at hg'
   have:=h5.lt hg'
   omega
end
section
variable {P:Program} {d:Option Nat} {s:St} {K:St→Prop}
end
end
section
open Go.RowKit Go.ChangeMaps
def b3V(es:Array MapEntry)(seen:Array Nat)(e:MapEntry):Prop:=e∈(leftOf es seen).toList
def b5y(es:Array MapEntry)(seen:Array Nat):Prop:=(leftOf es seen).size=0
section
variable {F:Fence} {n:Nat} {P:Program} (w:World) {ops:Array Oper} {rest:List Oper} {o:Oper} {a:Act} {Q:Exit→Act→World→Prop}
end
end
section
open Go.RowKit Go.ChangeMaps
structure Came (es:Array MapEntry) (seen:Array Nat) (is:List Nat):Prop where
 nd:is.Nodup
 lt:∀ i∈is,i<es.size
 sn:seen.toList=is.map fun i=>(es[i]?.map (·.born)).getD 0
theorem Came.nil(es:Array MapEntry):Came es #[] []:=⟨by simp,by simp,rfl⟩
theorem born_at{es:Array MapEntry}(hn:(es.toList.map (·.born)).Nodup){i j:Nat}(hi:i<es.size)(hj:j<es.size)(h:(es[i]?.map (·.born)).getD 0=(es[j]?.map (·.born)).getD 0):i=j:=by
 have hi':i<(es.toList.map (·.born)).length:=by simpa using hi
 have hj':j<(es.toList.map (·.born)).length:=by simpa using hj
 have hp:=List.pairwise_iff_getElem.1 hn
 rcases Nat.lt_trichotomy i j with hlt|rfl|hlt
 ·exact absurd (by simpa[hi,hj]using h) (hp i j hi' hj' hlt)
 ·rfl
 ·exact absurd (by simpa[hi,hj]using h.symm) (hp j i hj' hi' hlt)
theorem Came.step{es:Array MapEntry}(hn:(es.toList.map (·.born)).Nodup){seen:Array Nat}{is:List Nat}(h:Came es seen is){e:MapEntry}(he:b3V es seen e):∃ i,es[i]?=some e∧Came es (seen.push e.born) (is++[i]):=by
 simp only[b3V,leftOf,Array.mem_toList_iff,Array.mem_filter,Bool.not_eq_true']at he
 obtain ⟨he1,he2⟩:=he
 obtain ⟨i,hi,rfl⟩:=Array.getElem_of_mem he1
 have hni:i ∉ is:=fun hm=>by
  have:es[i].born∈seen.toList:=by
   rw[h.sn]
   exact List.mem_map.2 ⟨i,hm,by simp[hi]⟩
  simp_all
 refine ⟨i,by simp[hi],List.nodup_append.2 ⟨h.nd,by simp,fun a ha b hb=>by simp at hb;subst hb;intro e;subst e;exact hni ha⟩,fun j hj=>?_, ?_⟩
 ·rcases List.mem_append.1 hj with hj|hj
  ·exact h.lt j hj
  ·simp at hj;omega
 ·rw[Array.toList_push,h.sn];simp[hi]
theorem b0a:∀ (n:Nat) (is:List Nat),is.Nodup→(∀ i∈is,i<n)→(∀ i,i<n→i∈is)→is.Perm (List.range n):=by
 intro n is h1 h2 h3
 rw[List.perm_iff_count]
 intro a
 rw[h1.count,List.nodup_range.count]
 by_cases ha:a<n
 ·simp[h3 a ha,ha]
 ·have:a ∉ is:=fun h=>ha (h2 a h)
  simp[this,ha]
theorem Came.all{es:Array MapEntry}(hn:(es.toList.map (·.born)).Nodup){seen:Array Nat}{is:List Nat}(h:Came es seen is)(h0:b5y es seen):is.Perm (List.range es.size):=by
 refine b0a _ _ h.nd h.lt fun i hi=>?_
 have he:∀ x∈es,seen.contains x.born=true:=by
  intro x hx
  by_cases hc:seen.contains x.born=true
  ·exact hc
  ·have:x∈leftOf es seen:=by simp only[leftOf,Array.mem_filter];exact ⟨hx,by simpa using hc⟩
   rw[Array.eq_empty_of_size_eq_zero (show (leftOf es seen).size=0 from h0)]at this
   simp at this
 have h1:=he es[i] (Array.getElem_mem hi)
 have h2:es[i].born∈seen.toList:=by simpa using h1
 rw[h.sn,List.mem_map]at h2
 obtain ⟨j,hj,e⟩:=h2
 have:=born_at hn (h.lt j hj) hi (by rw[e];simp[hi])
 rw[← this];exact hj
theorem Came.size{es:Array MapEntry}{seen:Array Nat}{is:List Nat}(h:Came es seen is):seen.size=is.length:=by
 have:=congrArg List.length h.sn
 simpa using this
end
section
open Go.RowKit
section
variable {F:Fence} {n:Nat} {P:Program}
end
end
section
open Go.RowKit Go.Sort
section
variable {α:Type} [Inhabited α] {cl:α→List Value} {k:Nat}
theorem a4p(hcl:∀ x,(cl x).length=k):∀ (xs:List α) (i j:Nat),i<xs.length→j<k→(xs.flatMap cl)[i * k+j]?=(cl (xs[i]?.getD default))[j]?
 | [],i,j,h,_=>by simp at h
 | x::xs,0,j,_,hj=>by
  rw[List.flatMap_cons,List.getElem?_append_left (by rw[hcl];omega)];simp
 | x::xs,i+1,j,h,hj=>by
  rw[List.flatMap_cons,List.getElem?_append_right (by rw[hcl,Nat.add_mul];omega),hcl]
  have:(i+1) * k+j - k=i * k+j:=by rw[Nat.add_mul];omega
  rw[this,a4p hcl xs i j (by simpa using h) hj];simp
theorem a3r(hcl:∀ x,(cl x).length=k):∀ xs:List α,(xs.flatMap cl).length=xs.length * k
 | []=>by simp
 | x::xs=>by rw[List.flatMap_cons,List.length_append,hcl,a3r hcl xs,List.length_cons,Nat.add_mul];omega
theorem a9p(hcl:∀ x,(cl x).length=k)(hk:0<k)(xs:List α):flatK cl k xs.toArray=(xs.flatMap cl).toArray:=by
 apply Array.ext
 ·simp[a3r hcl]
 ·intro t h1 h2
  rw[size_flatK]at h1
  have ht:t<xs.length * k:=by simpa using h1
  have hi:t / k<xs.length:=(Nat.div_lt_iff_lt_mul hk).2 ht
  have hj:t % k<k:=Nat.mod_lt _ hk
  have e:t / k * k+t % k=t:=by rw[Nat.mul_comm];exact Nat.div_add_mod t k
  have hf:=a4p hcl xs (t / k) (t % k) hi hj
  rw[e]at hf
  have h3:t<(xs.flatMap cl).length:=by rw[a3r hcl];exact ht
  rw[List.getElem?_eq_getElem h3,List.getElem?_eq_getElem (by rw[hcl];exact hj)]at hf
  simp only[List.getElem_toArray]
  rw[Option.some.inj hf]
  simp only[flatK,Array.getElem_map,Array.getElem_range]
  have hj2:t % k<(cl (xs[t / k]?.getD default)).length:=by rw[hcl];exact hj
  have e3:(xs.toArray[t / k]! : α)=xs[t / k]?.getD default:=by simp[hi]
  rw[e3,List.getElem!_eq_getElem?_getD,List.getElem?_eq_getElem hj2];rfl
theorem holdsK_of_block{w:World}{g:Nat}{cur:Array Value}{e:TypeId}{xs:List α}(hcl:∀ x,(cl x).length=k)(hk:0<k)(hb:w.heap[g]?=some (.cells cur e (0,0)))(ht:cur.toList.take (xs.length * k)=xs.flatMap cl):HoldsK cl k w g 0 xs.toArray:=by
 unfold HoldsK
 rw[a9p hcl hk]
 intro j hj
 have hj':j<(xs.flatMap cl).length:=by simpa using hj
 have hj2:j<xs.length * k:=by rw[← a3r hcl];exact hj'
 refine ⟨?_,by simp[World.frozen?,hb]⟩
 have h1:(cur.toList.take (xs.length * k))[j]?=(xs.flatMap cl)[j]?:=by rw[ht]
 rw[List.getElem?_take_of_lt hj2]at h1
 simp only[World.cell?,hb,Nat.zero_add,Option.isSome_none,Bool.false_eq_true,if_false]
 rw[← Array.getElem?_toList,h1,List.getElem?_eq_getElem hj']
 simp[List.getElem?_eq_getElem hj']
end
theorem row_VR{W W':World}{U:Nat→Nat→Prop}{e k n:Nat}{v:Value}{xs:List Value}{els:List (List AV)}(hk:0<k)(hb:RowKit.Below W.heap.size W W')(hrow:W'.ownsRow W.heap.size e k v n xs)(hn:els.length=n)(hsz:∀ l∈els,l.length=k)(hone:∀ u∈xs,u.oneCell'=true)
  (hv:∀ (i j:Nat) (l:List AV) (c:AV) (u:Value),els[i]?=some l→l[j]?=some c→xs[i * k+j]?=some u→∀ W U,VR W U u c):
  ∃ U',VR W' U' v (.sl (some e) k els)∧OwnRow W' U' (W.heap.size ≤ ·) v e k els.length∧Ext W U W' U':=by
 subst hn
 obtain ⟨hlen,hnil | ⟨g,cap,cur,rfl,hbase,hgb,h1,h2,h3,h4⟩⟩:=hrow
 ·obtain ⟨rfl,h0⟩:=hnil
  have:els=[]:=List.eq_nil_of_length_eq_zero h0
  subst this
  exact ⟨fun b o=>if b<W.heap.size then U b o else False,VR.nil _ _,.inl ⟨rfl,rfl⟩,hb,fun j hj o=>by simp[hj]⟩
 ·have hcell:∀ t,t<els.length * k→∃ u,xs[t]?=some u∧W'.cell? ⟨g,t,none⟩=some u:=by
   intro t ht
   have ht':t<xs.length:=by omega
   refine ⟨xs[t],List.getElem?_eq_getElem ht', ?_⟩
   have q:(cur.toList.take (els.length * k))[t]?=xs[t]?:=by rw[h4]
   rw[List.getElem?_take_of_lt ht,Array.getElem?_toList,List.getElem?_eq_getElem ht']at q
   simp only[World.cell?,hgb,Option.isSome_none,Bool.false_eq_true,if_false]
   exact q
  refine ⟨fun b o=>if b<W.heap.size then U b o else (b=g∧els.length * k≤o), ?_,.inr ⟨g,cap,cur,rfl,hbase,.of hgb,h1,h2,h3,fun o ho=>?_,fun o ho=>?_⟩,hb,fun j hj o=>by simp[hj]⟩
  ·refine .sl (some ⟨g,0,none⟩) cap (some e) els g 0 k (fun i j=>(xs[i * k+j]?).getD undef) h1 h2 (fun _=>rfl) hsz (fun i j hi hj=>?_) (fun i l j c hl hc=>?_)
   ·have ht:i * k+j<els.length * k:=by
     have:=Nat.mul_le_mul_right k (show i+1≤els.length from hi)
     rw[Nat.add_mul,Nat.one_mul]at this;omega
    obtain ⟨u,q1,q2⟩:=hcell _ ht
    rw[q1,Nat.zero_add]
    refine ⟨q2,hone u (List.mem_of_getElem? q1), ?_⟩
    simp only[show ¬ g<W.heap.size by omega,if_false]
    omega
   ·have hi:i<els.length:=(List.getElem?_eq_some_iff.1 hl).1
    have hj:j<k:=by rw[← hsz l (List.mem_of_getElem? hl)];exact (List.getElem?_eq_some_iff.1 hc).1
    have ht:i * k+j<els.length * k:=by
     have:=Nat.mul_le_mul_right k (show i+1≤els.length from hi)
     rw[Nat.add_mul,Nat.one_mul]at this;omega
    obtain ⟨u,q1,_⟩:=hcell _ ht
    rw[q1]
    exact hv i j l c u hl hc q1 _ _
  ·simp only[show ¬ g<W.heap.size by omega,if_false];omega
  ·simp only[show ¬ g<W.heap.size by omega,if_false];exact ⟨trivial,ho⟩
end
section
open Go

theorem ask_dr{α:Type}:∀ (q:Ask α) (w:World),w.drawn≤(w.ask q).2.drawn
 | .done a,w=>Nat.le_refl _
 | .ask what range k,w=>by
  unfold World.ask
  simp only
  split
  ·exact ask_dr _ _
  ·exact Nat.le_trans (Nat.le_succ _) (ask_dr _ { w with drawn:=w.drawn+1 })
theorem b5c(w:World)(c:Sys):w.drawn≤(w.sys c).2.drawn:=by
 have h:=ask_dr (Kernel.perform c w.os) w
 unfold World.sys
 split
 ·exact Nat.le_refl _
 ·rename_i e;rw[e]at h;exact h
theorem b0u(w:World)(a:Addr)(n:Nat):(w.freeze a n).drawn=w.drawn:=by unfold World.freeze;split<;>rfl
theorem b3F(p:Program)(w w':World)(at_:Addr)(u:TypeId)(k:Addr)(v:Value)(b:Bool)(l:List Addr)(h:w.viewStore p at_ u k v b=.ok (w',l)):w'.drawn=w.drawn:=by
 unfold World.viewStore at h
 simp only[bind,Except.bind,pure,Except.pure]at h
 repeat' first
  | (simp at h;done)
  | (simp only[Except.ok.injEq,Prod.mk.injEq]at h;obtain ⟨rfl,_⟩:=h;rfl)
  | split at h
theorem b4q(p:Program)(w w':World)(a:Addr)(v:Value)(b:Bool)(l:List Addr)(h:w.farStore p a v b=.ok (w',l)):w'.drawn=w.drawn:=by
 unfold World.farStore at h
 repeat' first
  | (simp at h;done)
  | (rename_i e;simp only[Except.ok.injEq]at h;subst h;exact b3F _ _ _ _ _ _ _ _ _ e)
  | split at h
def RD{α:Type}(d:Nat):Result α→Prop
 | .ok _ w=>d≤w.drawn
 | .halt _ w=>d≤w.drawn
theorem RD.le{α:Type}{d e:Nat}(h:e≤d){r:Result α}(hr:RD d r):RD e r:=by cases r<;>exact Nat.le_trans h hr
theorem run_dr{α:Type}(p:Program)(s:Sem α):∀ w:World,RD w.drawn (s.run p w):=by
  induction s with
  | pure a=>intro w;exact Nat.le_refl _
  | load m a k ih=>
    intro w;unfold Sem.run
    split
    · exact ih _ _
    · split
      · exact ih _ _
      · exact Nat.le_refl _
  | store m a v k ih=>
    intro w
    cases v
    all_goals simp only[Sem.run]
    all_goals first
      | exact Nat.le_refl _
      | (split
         · split
           · exact Nat.le_refl _
           · exact ih _
         · split
           · rename_i e;exact (ih _).le (Nat.le_of_eq (b4q _ _ _ _ _ _ _ e).symm)
           · exact Nat.le_refl _)
  | new o k ih=>intro w;exact ih _ _
  | shape r k ih=>intro w;exact ih _ _
  | freeze a n k ih=>intro w;exact (ih (w.freeze a n)).le (Nat.le_of_eq (b0u w a n).symm)
  | frozen a k ih=>intro w;exact ih _ _
  | getObj r k ih=>
    intro w;unfold Sem.run
    split
    · exact Nat.le_refl _
    · exact ih _ _
    · exact Nat.le_refl _
  | setObj r o k ih=>
    intro w;unfold Sem.run
    split
    · exact Nat.le_refl _
    · exact ih { w with heap:=w.heap.setIfInBounds r o }
    · exact Nat.le_refl _
  | choose q k ih=>
    intro w;unfold Sem.run
    split
    · exact ih _ _
    · exact (ih _ { w with drawn:=w.drawn+1 }).le (Nat.le_succ _)
  | sys c k ih=>intro w;exact (ih _ (w.sys c).2).le (b5c w c)
  | program k ih=>intro w;exact ih _ _
  | mark m k ih=>intro w;exact ih _
  | halt h=>intro w;exact Nat.le_refl _
theorem runT_dr{α:Type}(p:Program)(s:Sem α)(w:World)(es:Array Event):RD w.drawn (s.runT p w es).1:=by rw[Sem.runT_fst];exact run_dr p s w

def GD(d:Nat):GStep→Prop
 | .go _ w _=>d≤w.drawn
 | .comm _ _ _ _ w _=>d≤w.drawn
 | .spawn _ _ w _=>d≤w.drawn
 | .count _ w _=>d≤w.drawn
 | .timer _ _ w _=>d≤w.drawn
 | .alone _ _ w _=>d≤w.drawn
 | .newcoro _ _ _ w _=>d≤w.drawn
 | .coroswitch _ _ _ w _=>d≤w.drawn
 | .collect _ w _=>d≤w.drawn
 | .watch _ w _=>d≤w.drawn
 | .ended _ _ _=>True
theorem GD.le{d e:Nat}(h:e≤d){g:GStep}(hg:GD d g):GD e g:=by cases g<;>first|trivial|exact Nat.le_trans h hg
theorem GD.after{d:Nat}{es:Array Event}{g:GStep}(h:GD d g):GD d (g.after es):=by cases g<;>exact h
theorem endWith_dr{d:Nat}(w:World)(fd:Nat)(t:ByteArray)(o:Outcome):GD d (endWith w fd t o):=by
 unfold endWith
 simp only
 repeat' first|trivial|split
theorem a3V(fr:Frame)(m:String)(w:World):GD w.drawn (endThrow fr m w):=Nat.le_refl _
theorem a3M(p:Program)(fr:Frame)(v:Value)(w:World):GD w.drawn (endPrinting p fr v w):=by
 unfold endPrinting
 simp only
 repeat' first|trivial|exact a3V _ _ _|split
theorem a5I(p:Program)(fr:Frame)(cs:List Frame)(dy:Option Dying)(m:String)(w:World):GD w.drawn (endFatal p fr cs dy m w):=by
  unfold endFatal
  simp only
  split
  all_goals first
    | trivial
    | (rename_i e
       have h:=congrArg (RD w.drawn) e
       rw[eq_iff_iff]at h
       exact h.1 (run_dr _ _ _))
theorem b0d(p:Program)(fr:Frame)(dy:Dying)(f:Fatal)(w:World):GD w.drawn (writeOn p fr dy f w):=by
  unfold writeOn
  simp only
  split
  · trivial
  · split
    all_goals first
      | trivial
      | (rename_i e
         have h:=congrArg (fun x=>RD w.drawn x.1) e
         simp only[eq_iff_iff]at h
         exact h.1 (runT_dr _ _ _ _))
theorem b4h(p:Program)(fr:Frame)(dy:Dying)(w:World):GD w.drawn (die p fr dy w):=by
  unfold die
  simp only
  repeat' first
    | trivial
    | exact b0d _ _ _ _ _
    | exact Nat.le_refl _
    | exact endWith_dr _ _ _ _
    | (rename_i e
       have h:=congrArg (RD w.drawn) e
       rw[eq_iff_iff]at h
       exact h.1 (run_dr _ _ _))
    | (rename_i e
       have h:=congrArg (RD w.drawn) e
       rw[eq_iff_iff]at h
       exact (a3M _ _ _ _).le (h.1 (runT_dr _ _ _ _)))
    | (rename_i e
       have h:=congrArg (RD w.drawn) e
       rw[eq_iff_iff]at h
       exact h.1 (runT_dr _ _ _ _))
    | refine GD.after ?_
    | split
theorem a2D(p:Program)(m:Bool)(fr:Frame)(cs:List Frame)(dy:Option Dying)(v:Value)(w:World):GD w.drawn (doReturn p m fr cs dy v w):=by
 unfold doReturn
 simp only
 repeat' first
  | trivial
  | exact Nat.le_refl _
  | split
theorem GD.ite{d:Nat}{c:Bool}{A B:GStep}(h1:GD d A)(h2:GD d B):GD d (if c=true then A else B):=by
 split
 ·exact h1
 ·exact h2
theorem b1q(p:Program)(fr:Frame)(cs:List Frame)(dy:Option Dying)(g:Nat)(w:World):GD w.drawn (early p fr cs dy g w):=by
  unfold early
  simp only
  repeat' first
    | trivial
    | exact Nat.le_refl _
    | (rename_i e
       have h:=congrArg (RD w.drawn) e
       rw[eq_iff_iff]at h
       exact h.1 (run_dr _ _ _))
    | (rename_i e _ _ _ _
       have h:=congrArg (RD w.drawn) e
       rw[eq_iff_iff]at h
       exact h.1 (run_dr _ _ _))
    | split
theorem a5E(p:Program)(fr:Frame)(cs:List Frame)(dy:Option Dying)(x:Deferred)(w:World):GD w.drawn (callDeferred p fr cs dy x w):=by
 unfold callDeferred
 simp only
 refine GD.ite trivial ?_
 refine GD.after ?_
 have h:=runT_dr p (invoke x.target x.args) w #[]
 revert h
 generalize ((invoke x.target x.args).runT p w #[]).1=r
 intro h
 cases r with
 | ok a w'=>
  have h':w.drawn≤w'.drawn:=h
  cases a
  all_goals try simp only[]
  all_goals first
   | exact h'
   | trivial
   | (rename_i c e;cases e<;>first|exact h'|trivial)
   | (rename_i e c;cases e<;>first|exact h'|trivial)
   | (repeat' first|exact h'|trivial|split)
 | halt a w'=>
  have h':w.drawn≤w'.drawn:=h
  cases a
  all_goals try simp only[]
  all_goals first
   | exact h'
   | trivial
   | exact (a5I _ _ _ _ _ _).le h'
theorem b1c(p:Program)(m:Bool)(fr:Frame)(cs:List Frame)(dy:Option Dying)(w:World):GD w.drawn (unwind p m fr cs dy w):=by
  unfold unwind
  simp only
  repeat' first
    | trivial
    | exact Nat.le_refl _
    | exact a5E _ _ _ _ _ _
    | exact a2D _ _ _ _ _ _ _
    | exact a3M _ _ _ _
    | (rename_i e
       have h:=congrArg (RD w.drawn) e
       rw[eq_iff_iff]at h
       exact h.1 (run_dr _ _ _))
    | (rename_i e
       have h:=congrArg (RD w.drawn) e
       rw[eq_iff_iff]at h
       exact h.1 (runT_dr _ _ _ _))
    | (rename_i e
       have h:=congrArg (RD w.drawn) e
       rw[eq_iff_iff]at h
       exact (a2D _ _ _ _ _ _ _).le (h.1 (runT_dr _ _ _ _)))
    | refine GD.after ?_
    | split
theorem a7b(p:Program)(ls:Bool)(fr:Frame)(cs:List Frame)(dy:Option Dying)(s:Sem Next)(w:World):GD w.drawn (stepG.apply p ls fr cs dy s w):=by
 unfold stepG.apply
 simp only
 refine GD.after ?_
 have h:RD w.drawn (if ls=true then s.runT p w #[] else (s.run p w, #[])).1:=by
  split
  ·exact runT_dr _ _ _ _
  ·exact run_dr _ _ _
 revert h
 generalize (if ls=true then s.runT p w #[] else (s.run p w, #[])).1=r
 intro h
 cases r with
 | ok a w'=>
  have h':w.drawn≤w'.drawn:=h
  cases a
  all_goals try simp only[]
  all_goals first
   | exact h'
   | trivial
   | (repeat' first|exact h'|trivial|exact (a3V _ _ _).le h'|split)
 | halt a w'=>
  have h':w.drawn≤w'.drawn:=h
  cases a
  all_goals try simp only[]
  all_goals first
   | exact h'
   | trivial
   | exact (a5I _ _ _ _ _ _).le h'
   | exact (a3V _ _ _).le h'
   | (rename_i u;cases u<;>first|exact (b1q _ _ _ _ _ _).le h'|trivial)
theorem b2X(p:Program)(ls:Bool)(fr:Frame)(cs:List Frame)(dy:Option Dying)(w:World):GD w.drawn (stepG.oper p ls fr cs dy w):=by
 unfold stepG.oper
 split
 ·trivial
 ·split<;>exact a7b _ _ _ _ _ _ _
theorem b1w(p:Program)(m:Bool)(fr:Frame)(cs:List Frame)(dy:Option Dying)(w:World)(l:Nat)(jump:Option Code):
  GD w.drawn (GStep.after (seen p fr.fn ((Instr.endRound l jump).runT p w #[]).2) (match ((Instr.endRound l jump).runT p w #[]).1 with
   | .ok v w=>doReturn p m fr cs dy v w
   | .halt _ w=>.ended (.stuck "range over a function: no such loop" (fr.pos p)) w)):=by
 refine GD.after ?_
 split
 ·rename_i e
  have h:=congrArg (RD w.drawn) e
  rw[eq_iff_iff]at h
  exact (a2D _ _ _ _ _ _ _).le (h.1 (runT_dr _ _ _ _))
 ·trivial
theorem elim_dr{α:Type}{d:Nat}(o:Option α)(A:GStep)(f:α→GStep)(h1:GD d A)(h2:∀ a,GD d (f a)):GD d (o.elim A f):=by
 cases o
 ·exact h1
 ·exact h2 _
set_option maxHeartbeats 2000000 in
theorem b2O(p:Program)(m:Bool)(ls:Bool)(fr:Frame)(cs:List Frame)(dy:Option Dying)(w:World):GD w.drawn (stepG.exec p m ls fr cs dy w):=by
  unfold stepG.exec
  simp only
  split
  all_goals try simp only[]
  all_goals repeat' first
    | exact True.intro
    | (show _≤_;with_reducible exact Nat.le_refl _)
    | with_reducible exact a7b _ _ _ _ _ _ _
    | with_reducible exact b2X _ _ _ _ _ _
    | with_reducible exact b1w _ _ _ _ _ _ _ _
    | (rename_i e
       have h:=congrArg (RD w.drawn) e
       rw[eq_iff_iff]at h
       exact h.1 (run_dr _ _ _))
    | (rename_i e
       have h:=congrArg (RD w.drawn) e
       rw[eq_iff_iff]at h
       exact h.1 (runT_dr _ _ _ _))
    | (rename_i e
       have h:=congrArg (RD w.drawn) e
       rw[eq_iff_iff]at h
       exact (a7b _ _ _ _ _ _ _).le (h.1 (runT_dr _ _ _ _)))
    | (rename_i e
       have h:=congrArg (RD w.drawn) e
       rw[eq_iff_iff]at h
       exact (a2D _ _ _ _ _ _ _).le (h.1 (runT_dr _ _ _ _)))
    | with_reducible refine GD.after ?_
    | (with_reducible refine elim_dr _ _ _ ?_ (fun _=>?_))
    | (show GD _ (if _ then _ else _);split)
    | split
theorem b1N(p:Program)(m:Bool)(g:Goroutine)(w:World)(ls:Bool):GD w.drawn (stepG p m g w ls):=by
 unfold stepG
 simp only
 split
 ·exact b4h _ _ _ _
 ·exact b2O _ _ _ _ _ _ _
 ·exact b1c _ _ _ _ _ _
def SD(d:Nat):Stepped→Prop
 | .next m=>d≤m.world.drawn
 | .ended _ _=>True
theorem SD.le{d e:Nat}(h:e≤d){g:Stepped}(hg:SD d g):SD e g:=by cases g<;>first|trivial|exact Nat.le_trans h hg
theorem a6p(p:Program)(rest:Rest)(gs:Array Goroutine)(i:Nat)(g:Goroutine)(cases:Array CommCase)(blocking:Bool)
  (shape:CommShape) (w:World):SD w.drawn (communicate p rest gs i g cases blocking shape w).1:=by
 unfold communicate
 simp only[]
 split
 ·trivial
 split
 ·split
  ·split
   ·rename_i w' e
    unfold waitingAt at e
    have:w'.drawn=w.drawn:=by
     split at e
     ·split at e
      ·simp only[Option.some.injEq]at e;subst e;rfl
      ·cases e
     ·simp only[Option.some.injEq]at e;subst e;rfl
    exact Nat.le_of_eq this.symm
   ·trivial
  ·exact Nat.le_refl _
 ·split
  ·trivial
  ·rename_i e
   have h:=congrArg (RD w.drawn) e
   rw[eq_iff_iff]at h
   have h':=h.1 (run_dr _ _ _)
   clear h e
   simp only[RD]at h'
   split
   ·split
    ·rename_i e
     have h2:=congrArg (RD w.drawn) e
     rw[eq_iff_iff]at h2
     exact h2.1 ((run_dr _ _ _).le h')
    ·trivial
   ·exact h'
   ·exact h'
   ·split
    ·exact h'
    ·split
     ·rename_i e
      have h2:=congrArg (RD w.drawn) e
      rw[eq_iff_iff]at h2
      exact h2.1 ((run_dr _ _ _).le h')
     ·trivial
   ·exact h'
   ·exact h'
   ·trivial
theorem b0z(p:Program)(gs:Array Goroutine)(rest:Rest)(w:World):SD w.drawn (look p gs rest w):=by
  unfold look
  simp only[]
  repeat' first
    | exact True.intro
    | (rename_i e
       have h:=congrArg (RD w.drawn) e
       rw[eq_iff_iff]at h
       exact h.1 (run_dr _ _ _))
    | split
theorem b1J(p:Program)(m:Machine)(k:Nat):SD m.world.drawn (serve p m k):=by
 unfold serve
 simp only[]
 repeat' first
  | exact True.intro
  | exact Nat.le_refl _
  | split
theorem b0c(m m':Machine)(op:TimerOp)(v:Value)(h:timerOp m op=.ok (v,m')):m'.world.drawn=m.world.drawn:=by
 unfold timerOp at h
 have hr:∀ (m:Machine) (k:Nat) (t:Timer) (a b:Nat),(retime m k t a b).2.world.drawn=m.world.drawn:=fun m k t a b=>by
  unfold retime
  simp only[]
  split
  ·unfold drain;split<;>rfl
  ·rfl
 have hn:∀ (m0 m m':Machine) (var:Addr) (f:Nat→Timer→Value × Machine) (v:Value),(∀ k t,(f k t).2.world.drawn=m.world.drawn)→timerOp.named m0 var f=.ok (v,m')→m'.world.drawn=m.world.drawn:=fun m0 m m' var f v hf h=>by
  unfold timerOp.named at h
  split at h
  ·simp only[Except.ok.injEq]at h
   have:=hf _ _ |>.symm.trans (congrArg (fun x=>x.2.world.drawn) h)
   exact this.symm
  ·cases h
 split at h
 ·split at h
  ·simp only[Except.ok.injEq,Prod.mk.injEq]at h;obtain ⟨_,rfl⟩:=h;rfl
  ·split at h
   ·split at h
    ·cases h
    ·simp only[Except.ok.injEq,Prod.mk.injEq]at h;obtain ⟨_,rfl⟩:=h;rfl
   ·cases h
 ·exact hn _ _ _ _ _ _ (fun k t=>hr _ _ _ _ _) h
 ·split at h
  ·rename_i m1 e
   have h1:m1.world.drawn=m.world.drawn:=by
    unfold timerOp.opened at e
    split at e
    ·split at e
     ·simp only[Option.some.injEq]at e;subst e;rfl
     ·cases e
    ·simp only[Option.some.injEq]at e;subst e;rfl
   exact (hn _ _ _ _ _ _ (fun k t=>hr _ _ _ _ _) h).trans h1
  ·cases h
 ·simp only[Except.ok.injEq,Prod.mk.injEq]at h;obtain ⟨_,rfl⟩:=h;rfl
theorem b3s(p:Program)(m:Machine)(i:Nat)(b:Bool):SD m.world.drawn (runT p m i b).1:=by
  simp only[runT]
  generalize m.gs.swapAt! _ _=gg
  have h:=b1N p (i==0) gg.1 m.world b
  revert h
  generalize stepG p _ gg.1 m.world b=s
  intro h
  cases s<;>simp only[]<;>simp only[GD]at h
  all_goals first
    | exact True.intro
    | exact h
    | exact (a6p _ _ _ _ _ _ _ _ _).le h
    | exact (b0z _ _ _ _).le h
    | (split
       · rename_i e;exact Nat.le_trans h (Nat.le_of_eq (b0c _ _ _ _ e).symm)
       · exact h
       · exact True.intro
       · exact True.intro)
    | (repeat' first
        | exact True.intro
        | exact h
        | split)
def MD(d:Nat):Move→Prop
 | .goroutine m _=>d≤m.world.drawn
 | .machine s _=>SD d s
theorem MD.le{d e:Nat}(h:e≤d){g:Move}(hg:MD d g):MD e g:=by
 cases g
 ·exact Nat.le_trans h hg
 ·exact SD.le h hg
theorem a5p(p:Program)(m:Machine):MD m.world.drawn (askOn p m):=by
 have pickd:∀ (rs:List Nat) (n:Machine),MD n.world.drawn (match (choose (.sched rs.length)).run p n.world with
   | .halt _ w=>.machine (.ended (.stuck "sched" "") w)
   | .ok k world=>
    if rs.length≤1 then .goroutine { n with world } (rs.getD k 0) else
    match (choose (.extern "sched.slice" 65536)).run p world with
    | .halt _ w=>.machine (.ended (.stuck "sched.slice" "") w)
    | .ok k' world=>.goroutine { n with world,rest:={ n.rest with slice:=if k'=0 then none else some (rs.getD k 0,k') } } (rs.getD k 0)):=fun rs n=>by
  have h:=run_dr p (choose (.sched rs.length)) n.world
  revert h
  generalize (choose (.sched rs.length)).run p n.world=r
  intro h
  cases r with
  | halt x w=>exact True.intro
  | ok k w=>
   simp only[]
   split
   ·exact h
   ·have h2:=run_dr p (choose (.extern "sched.slice" 65536)) w
    revert h2
    generalize (choose (.extern "sched.slice" 65536)).run p w=r
    intro h2
    cases r with
    | halt x w=>exact True.intro
    | ok k w=>exact Nat.le_trans h h2
 unfold askOn
 simp only[]
 generalize (if (due m.rest.timers m.world.os.mono).isEmpty then pure 0
   else choose (.extern "timer.serve" ((due m.rest.timers m.world.os.mono).length+(if (runnable m.gs m.world.os.mono).isEmpty&&(ahead m false).isNone then 0 else 1))):Sem Nat)=s0
 have h:=run_dr p s0 m.world
 revert h
 generalize s0.run p m.world=r
 intro h
 cases r with
 | halt x w=>exact True.intro
 | ok k w=>
  simp only[]
  have h':m.world.drawn≤w.drawn:=h
  split
  ·exact (b1J _ _ _).le h'
  ·split
   ·split
    ·exact h'
    ·split
     ·exact h'
     ·split<;>exact True.intro
   ·split
    ·exact (pickd _ { m with world:=w }).le h'
    ·rename_i t _
     generalize (choose (.extern "clock.wait" (t - m.world.os.mono+1)):Sem Nat)=s1
     have h2:=run_dr p s1 w
     revert h2
     generalize s1.run p w=r
     intro h2
     cases r with
     | halt x w=>exact True.intro
     | ok k w1=>
      have h3:m.world.drawn≤w1.drawn:=Nat.le_trans h' h2
      rcases k with _|_|k
      ·exact (pickd _ { m with world:=w1 }).le h3
      ·exact h3
      ·exact (pickd _ (({ m with world:=w1 }:Machine).advanceTo (t - (k+1)))).le h3
theorem b1Y(p:Program)(m:Machine):MD m.world.drawn (Go.ask p m):=by
 unfold Go.ask
 split
 ·have h:=run_dr p (choose (.extern "collector.look" 2)) m.world
  revert h
  generalize (choose (.extern "collector.look" 2)).run p m.world=r
  intro h
  cases r with
  | halt x w=>exact True.intro
  | ok k w=>
   have h':m.world.drawn≤w.drawn:=h
   rcases k with _|_|k
   ·exact (a5p p { m with world:=w }).le h'
   ·show MD _ (match look p m.gs m.rest w with | .next m=>askOn p m|e=>.machine e)
    have h2:=b0z p m.gs m.rest w
    revert h2
    generalize look p m.gs m.rest w=r
    intro h2
    cases r with
    | next m2=>exact (a5p p m2).le (Nat.le_trans h' h2)
    | ended o w=>exact True.intro
   ·exact (a5p p { m with world:=w }).le h'
 ·exact a5p p m
theorem b2W(p:Program)(m:Machine):MD m.world.drawn (move p m):=by
 unfold move
 split
 ·split
  ·exact Nat.le_refl _
  ·exact True.intro
 ·split
  ·split
   ·exact Nat.le_refl _
   ·exact b1Y p _
  ·exact b1Y p m
theorem b3x(p:Program)(m:Machine):SD m.world.drawn (step p m):=by
 unfold step stepT
 have h:=b2W p m
 revert h
 generalize move p m=r
 intro h
 cases r with
 | goroutine m' i=>exact (b3s p m' i true).le h
 | machine s ops=>exact h
theorem steps_dr{p:Program}{m m':Machine}(h:Steps p m m'):m.world.drawn≤m'.world.drawn:=by
 obtain ⟨n,h⟩:=h
 induction n generalizing m with
 | zero=>
  simp only[runN,Stepped.next.injEq]at h
  subst h;exact Nat.le_refl _
 | succ n ih=>
  rw[runN]at h
  have h1:=b3x p m
  revert h h1
  generalize step p m=r
  intro h h1
  cases r with
  | next m1=>exact Nat.le_trans h1 (ih h)
  | ended o w=>cases h
theorem Calls_drawn{P:Program}{f:FuncId}{args:Array Value}{w:World}{R:Ending→World→Prop}(h:Calls P f args w R):
  Calls P f args w fun e w'=>R e w'∧∀ v,e=.returned v→w.drawn≤w'.drawn:=by
 intro cs
 obtain ⟨e,w',fr,h1,h2,h3,h4⟩:=h cs
 refine ⟨e,w',fr,⟨h1, ?_⟩,h2,h3,h4⟩
 rintro v rfl
 exact steps_dr (m:=lone (Frame.enter P f args .normal) cs w) (m':=lone fr cs w') h2
end
section
open Go.RowKit
theorem grow_of_below{W W':World}(h:Below W.heap.size W W')(h6:W.drawn≤W'.drawn):∃ q os',W'=Sort.grow (W.drewN q) os':=by
 obtain ⟨h1,h2,h3,h4,h5⟩:=h
 obtain ⟨heap,tape,drawn,os,out⟩:=W
 obtain ⟨heap',tape',drawn',os',out'⟩:=W'
 simp only at h1 h2 h3 h4 h5 h6
 subst h1 h2 h3
 refine ⟨drawn' - drawn,heap'.extract heap.size heap'.size, ?_⟩
 simp only[Sort.grow,World.drewN,World.mk.injEq,and_true,true_and]
 refine ⟨?_,by omega⟩
 apply Array.ext_getElem?
 intro i
 by_cases hi:i<heap.size
 ·rw[h5 i hi,Array.getElem?_append_left hi]
 ·rw[Array.getElem?_append_right (by omega),Array.getElem?_extract]
  split
  ·congr 1;omega
  ·rw[Array.getElem?_eq_none (by omega)]
theorem CP_grow{P:Program}{f:Nat}{xs:List AV}{r:AV}{v:Value}(h:CP P f xs r){W:World}{U:Nat→Nat→Prop}(hG:Glob W U){vs:List Value}(hl:vs.length=xs.length)
  (hv:∀ (i:Nat) (u:Value) (c:AV),vs[i]?=some u→xs[i]?=some c→VR W U u c) (hr:∀ W' U' u,VR W' U' u r→u=v):
  Calls P f vs.toArray W fun e w'=>e=.returned v∧∃ q os',w'=Sort.grow (W.drewN q) os':=by
 refine (Calls_drawn (h W U vs hG hl hv)).mono ?_
 rintro e W' ⟨⟨u,U',rfl,hvr,_,hE⟩,hd⟩
 exact ⟨by rw[hr _ _ _ hvr],grow_of_below hE.b (hd _ rfl)⟩
end
section
open Go.RowKit
section
variable {P:Program} {d:Option Nat} {s:St} {K:St→Prop}
end
end
end Go.Proofs.YthdcogkdacnheaaGreatDoor
