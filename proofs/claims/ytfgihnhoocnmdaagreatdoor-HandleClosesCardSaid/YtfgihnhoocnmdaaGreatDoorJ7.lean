import Derived.Test.YtfgihnhoocnmdaaGreatDoorJ6
namespace Go.Proofs.YtfgihnhoocnmdaaGreatDoor
set_option linter.all false
set_option maxHeartbeats 64000000
set_option maxRecDepth 100000
open Go.RowKit
section
variable {P:Program} {N:Nat} {W0:World} {U0:Nat→Nat→Prop} {M:Nat→Prop} {a:Act} {W:World} {U:Nat→Nat→Prop} {s:St} {o:Oper} {r:AV} {R:Nat}

theorem MM(h:Inv N W0 U0 M a W U s)(hV:VOK P a o W U r){d:Option Nat}(hod:o.dst=d)(hd:∀ j,d=some j→j<N){next:Act→World→Prop}{Q:Exit→Act→World→Prop}
  (hn:∀ a' W' U',Inv N W0 U0 M a' W' U' (s.put d r)→next a' W'):o.wp P a W next Q:=by
 obtain ⟨v,W',U',hrun,hE,hv,ho⟩:=hV
 unfold Oper.wp
 rw[hrun,Oper.upon_value,hod]
 exact hn _ _ _ ((h.ext hE).putO hd hv fun j _=>Sole.fresh h hE ho)

theorem UQ(h:Inv N W0 U0 M a W U s){ops:List Oper}{take:Bool}{x:Operand}{k:AK}(ho:o.op=.move x∨o.op=.assign x)(hk:Oz P ops o take x=some k)(hd:∀ j,o.dst=some j→j<N){K:St→Prop}(hK:kW P o.dst k s K)
  {next:Act→World→Prop} {Q:Exit→Act→World→Prop} (hn:∀ a' W' U' s',Inv N W0 U0 M a' W' U' s'→K s'→next a' W'):o.wp P a W next Q:=by
 unfold Oz at hk
 split at hk
 ·split at hk
  ·cases hk
   obtain ⟨r,hr,hK⟩:=hK
   exact MM h (b1m ho rfl hr) rfl hd fun a' W' U' hi=>hn _ _ _ _ hi hK
  ·cases hk
   obtain ⟨r,hr,hK⟩:=hK
   exact MM h (b1D ho rfl hr) rfl hd fun a' W' U' hi=>hn _ _ _ _ hi hK
 ·split at hk
  ·split at hk
   ·cases hk
   ·rename_i hne
    cases hk
    obtain ⟨r,hr,hK⟩:=hK
    exact b1P h ho rfl hd hne hr fun a' W' U' hi=>hn _ _ _ _ hi hK
  ·cases hk
   obtain ⟨r,hr,hK⟩:=hK
   exact MM h (a0h h ho (x:=.tmp _) rfl hr) rfl hd fun a' W' U' hi=>hn _ _ _ _ hi hK
 ·obtain ⟨X,hx,rfl⟩:=BM.1 hk
  obtain ⟨r,hr,hK⟩:=hK
  exact MM h (a0h h ho hx hr) rfl hd fun a' W' U' hi=>hn _ _ _ _ hi hK

theorem a2G{t:TypeId}{x:Operand}{i:Nat}(hx:HQ P t x=some (.t i)):x=.tmp i:=by
 unfold HQ at hx
 split at hx
 ·split at hx
  ·simp at hx
  ·cases hx
 ·cases x<;>simp[Au]at hx
  rw[hx]
theorem UR{x:Option Operand}(h:E3 x=some none):x=none:=by
 cases x with
 | none=>rfl
 | some x=>
  simp only[E3,BM]at h
  obtain ⟨_,_,h⟩:=h
  cases h
theorem X2(h:Inv N W0 U0 M a W U s){ops:List Oper}{k:AK}(hk:M7 P R ops o=some k)(hd:∀ j,o.dst=some j→j<N){K:St→Prop}(hK:kW P o.dst k s K)
  {next:Act→World→Prop} {Q:Exit→Act→World→Prop} (hn:∀ a' W' U' s',Inv N W0 U0 M a' W' U' s'→K s'→next a' W'):o.wp P a W next Q:=by
 have val:∀ {r:AV},VOK P a o W U r→K (s.put o.dst r)→o.wp P a W next Q:=fun hV hK=>MM h hV rfl hd fun a' W' U' hi=>hn _ _ _ _ hi hK
 unfold M7 at hk
 split at hk
 case h_1 x ho=>exact UQ h (.inl ho) hk hd hK hn
 case h_2 x ho=>exact UQ h (.inr ho) hk hd hK hn
 case h_3 t ho=>
  cases hz:zeroOf P t with
  | none=>simp[hz]at hk
  | some z=>
   simp only[hz]at hk
   split at hk
   ·rename_i hh
    cases hk
    exact b1C h ho hd rfl hz hh hK hn
   ·cases hk
 case h_4 t x ho=>
  cases hx:Au x with
  | none=>simp[hx]at hk
  | some X=>
   simp only[hx,BE,Az]at hk
   subst hk
   exact b1c h ho hd rfl hx hK hn
 case h_5 t x ho=>
  split at hk
  ·rename_i n X h1 h2
   cases ht:takes P R ops o t n with
   | false=>
    simp only[ht,D3,BV,Az]at hk
    split at hk
    ·rename_i hh
     subst hk
     obtain rfl:n=none:=by simp only[AP]at hh;exact Option.isNone_iff_eq_none.1 hh.1
     obtain ⟨r,hr,hK⟩:=hK
     exact val (b1p h ho h1 h2 hr) hK
    split at hk
    ·subst hk
     obtain ⟨r,⟨cs,hp,hl⟩,hK⟩:=hK
     exact val (NV h ho h1 h2 (r:=r) ⟨_,cs,hp,rfl,hl⟩) hK
    ·subst hk
     obtain ⟨r,hr,hK⟩:=hK
     exact val (NV h ho h1 h2 hr) hK
   | true=>
    simp only[ht,Bo,Az]at hk
    subst hk
    have hnn:n=none:=by
     simp only[takes,AP]at ht
     exact Option.isNone_iff_eq_none.1 ht.2
    subst hnn
    obtain ⟨p,hp,hK⟩:=hK
    cases p<;>try exact hK.elim
    ·rename_i cs
     cases cs with
     | nil=>exact hK.elim
     | cons c rest=>exact val (NV h ho h1 h2 (r:=c.alias) ⟨_,_,hp,rfl,rfl⟩) hK
    ·rename_i b off
     obtain ⟨cs,hb,c,hc,hK⟩:=hK
     by_cases hown:∃ e sz els,c=.sl (some e) sz els
     ·obtain ⟨e,sz,els,rfl⟩:=hown
      exact b1q h ho rfl hd h1 h2 hp hb hc fun a' W' U' hi=>hn _ _ _ _ hi hK
     ·by_cases hnil:∃ e sz,c=.nils e sz
      ·obtain ⟨e,sz,rfl⟩:=hnil
       obtain ⟨vs,ty,q1,q2,q3,q4,q5⟩:=h.obs hb hc (by simp) (by simp)
       have hlt:off<cs.length:=(AM.1 hc).1
       have hv:=(q3 off _ hc).1
       have hv0:vs.getD off undef=.slice none 0 0:=by generalize vs.getD off undef=val at hv;cases hv;rfl
       have hcell:W.cell? ⟨b,off,none⟩=some (.slice none 0 0):=by
        rw[cell_of_row W b off vs ty (0,0) q1, ← hv0]
        have:off<vs.size:=by omega
        simp[this]
       have hpx:=AW h h2 hp
       have hadr:a.eval x=.pointer (some ⟨b,off,none⟩):=by
        generalize a.eval x=val at hpx
        cases hpx
        rfl
       exact MM h ⟨.slice none 0 0,W,U,by simp[execOp,ho,hadr,TF h1 hcell],Ext.refl _ _,VR.nil (some e) sz,.inl ⟨rfl,rfl⟩⟩ rfl hd fun a' W' U' hi=>hn _ _ _ _ hi hK
      have he:Hp s o.dst b off cs c=s.put o.dst c.alias:=by
       cases c<;>try rfl
       rename_i own sz els
       cases own with
       | none=>rfl
       | some e=>exact absurd ⟨e,sz,els,rfl⟩ hown
       exact absurd ⟨_,_,rfl⟩ hnil
      rw[he]at hK
      have hlt:off<cs.length:=(AM.1 hc).1
      refine val (NV h ho h1 h2 (r:=c.alias) ⟨_,cs.drop off,hp,by simp only[view,hb,BE], ?_⟩) hK
      rw[Jc hlt,(AM.1 hc).2]
      rfl
  ·cases hk
 case h_6 t x v ho=>
  split at hk
  ·rename_i n X V h1 h2 h3 h4
   split at hk
   ·rename_i hc
    have plain:K (B6 o.dst (.sto n X V) .undef s)→AU P s (.sto n X V) .undef→o.wp P a W next Q:=fun hK hr=>by
     rw[h4]at hK
     exact b1N h ho h4 hc.1 rfl hc.2 h2 h3 hr fun a' W' U' hi=>hn _ _ _ _ hi hK
    cases V with
    | c w=>
     simp only[Az]at hk
     subst hk
     obtain ⟨r,hr,hK⟩:=hK
     obtain rfl:r=.undef:=by obtain ⟨_,_,_,_,_,_,_,_,_,e⟩:=hr;exact e
     exact plain hK hr
    | t i=>
     simp only[Az]at hk
     subst hk
     cases hg:gives P R t n with
     | false=>
      simp only[hg,D3,BV]at hK
      obtain ⟨r,hr,hK⟩:=hK
      obtain rfl:r=.undef:=by obtain ⟨_,_,_,_,_,_,_,_,_,e⟩:=hr;exact e
      exact plain hK hr
     | true=>
      simp only[hg,Bo]at hK
      have hnn:n=none:=by
       simp only[gives,AP]at hg
       exact Option.isNone_iff_eq_none.1 hg.2
      subst hnn
      obtain ⟨p,hp,w,hi,hK⟩:=hK
      cases p<;>try exact hK.elim
      rename_i b off
      obtain ⟨cs,hb,⟨hlt,hl1⟩,hK⟩:=hK
      by_cases hown:∃ e sz els,w=.sl (some e) sz els
      ·obtain ⟨e,sz,els,rfl⟩:=hown
       obtain rfl:=a2G h3
       exact b1O h ho h4 hc.1 h2 hp hb hlt hi fun a' W' U' hv=>hn _ _ _ _ hv hK
      ·have he:GQ s i b off cs w=B6 o.dst (.sto none X (.t i)) .undef s:=by
        have e2:B6 o.dst (.sto none X (.t i)) .undef s={ s with o:=upd s.o b (some (splice cs off w.cells)) }:=by
         simp only[B6,hp,show (Opd.t i).ev s=some w from hi,hb,BE]
        rw[e2]
        cases w<;>try rfl
        rename_i own sz els
        cases own with
        | none=>rfl
        | some e=>exact absurd ⟨e,sz,els,rfl⟩ hown
       rw[he]at hK
       exact plain hK ⟨b,off,w,cs,hp,hi,hb,by rw[hl1];rfl,by omega,rfl⟩
   ·cases hk
  ·cases hk
 case h_7 t x f ho=>
  split at hk
  ·rename_i fs X h1 h2
   split at hk
   ·rename_i fd hf
    split at hk
    ·rename_i n hz
     cases hk
     obtain ⟨r,hr,hK⟩:=hK
     exact val (b1j h ho h1 hf hz h2 hr) hK
    ·cases hk
   ·cases hk
  ·cases hk
 case h_8 t x f ho=>
  split at hk
  ·rename_i fs X h1 h2
   split at hk
   ·rename_i fd hf
    cases hn':Fq P fd.type with
    | none=>simp[hn']at hk
    | some n=>
     simp only[hn',BE,Az]at hk
     subst hk
     obtain ⟨r,hr,hK⟩:=hK
     exact val (b1k h ho h1 hf hn' h2 hr) hK
   ·cases hk
  ·cases hk
 case h_9 t x i ho=>
  split at hk
  ·rename_i e sz X I h1 h2 h3
   cases hk
   obtain ⟨r,hr,hK⟩:=hK
   exact val (b1o h ho h1 h2 h3 hr) hK
  ·rename_i X I h1 h2 h3
   split at hk
   ·rename_i n e hu
    split at hk
    ·rename_i hi
     cases hk
     obtain ⟨r,hr,hK⟩:=hK
     exact val (b0T h ho hu hi h2 h3 hr) hK
    ·cases hk
   ·cases hk
  ·cases hk
 case h_10 t x i ho=>
  split at hk
  ·rename_i X I h1 h2 h3
   cases hk
   obtain ⟨r,hr,hK⟩:=hK
   exact val (b1L h ho h1 h2 h3 hr) hK
  ·rename_i n e X I h1 h2 h3
   obtain ⟨q,h4,rfl⟩:=BM.1 hk
   obtain ⟨r,hr,hK⟩:=hK
   exact val (b1R h ho h1 h4 h2 h3 hr) hK
  ·cases hk
 case h_11 op t x y ty ho=>
  split at hk
  ·split at hk
   ·rename_i X Y h1 h2
    cases hk
    obtain ⟨r,hr,hK⟩:=hK
    exact val (b0Z h ho h1 h2 hr) hK
   ·cases hk
  ·rename_i hpl
   split at hk
   ·rename_i X Y h1 h2 h3
    cases hk
    obtain ⟨r,hr,hK⟩:=hK
    refine val (b0Y h ho ?_ h1 h2 h3 hr) hK
    cases op<;>simp[NO]at hpl<;>simp
   ·rename_i fs X Y h1 h2 h3
    split at hk
    ·rename_i hg
     obtain ⟨ks,hks,rfl⟩:=BM.1 hk
     obtain ⟨r,hr,hK⟩:=hK
     refine val (a0c h ho ?_ h1 rfl hg hks h2 h3 hr) hK
     cases op<;>simp[NO]at hpl<;>simp
    ·cases hk
   ·rename_i m e X Y h1 h2 h3
    split at hk
    ·rename_i hg
     obtain ⟨ks,hks,rfl⟩:=BM.1 hk
     obtain ⟨r,hr,hK⟩:=hK
     refine val (a0c h ho ?_ h1 rfl hg hks h2 h3 hr) hK
     cases op<;>simp[NO]at hpl<;>simp
    ·cases hk
   ·rename_i e X h1 h2 h3
    cases hk
    obtain ⟨r,hr,hK⟩:=hK
    refine val (b1G h ho ?_ h1 h2 h3 hr) hK
    cases op<;>simp[NO]at hpl<;>simp
   ·cases hk
 case h_12 op t x ho=>
  cases hx:Au x with
  | none=>simp[hx]at hk
  | some X=>
   simp only[hx,BE,Az]at hk
   subst hk
   obtain ⟨r,hr,hK⟩:=hK
   exact val (b1Q h ho hx hr) hK
 case h_13 src dst x ho=>
  split at hk
  ·rename_i k1 k2 X h1 h2 h3
   cases hk
   obtain ⟨r,hr,hK⟩:=hK
   exact val (b1g h ho h1 h2 h3 hr) hK
  ·rename_i e X h1 h2 h3
   split at hk
   ·rename_i h4
    cases hk
    split at hK
    ·obtain ⟨p,hp,hK⟩:=hK
     cases p<;>try exact hK.elim
     ·obtain ⟨rfl,l,rfl,hK⟩:=hK
      exact val (a0e h ho h1 h2 h4 h3 ⟨_,l,hp,rfl⟩) hK
     ·obtain ⟨cs,l,hb,⟨hc,hl⟩,hK⟩:=hK
      exact val (a0d h ho h1 h2 h4 h3 hp hb hc hl) hK
    ·split at hK
     ·obtain ⟨r,⟨b,off,n,cs,l,hp,hb,⟨hc,hl⟩,rfl⟩,hK⟩:=hK
      exact val (a0d h ho h1 h2 h4 h3 hp hb hc hl) hK
     ·obtain ⟨r,hr,hK⟩:=hK
      exact val (a0e h ho h1 h2 h4 h3 hr) hK
   ·cases hk
  ·rename_i e X h1 h2 h3
   split at hk
   ·rename_i h4
    cases hk
    obtain ⟨r,hr,hK⟩:=hK
    exact val (b1J h ho h1 h2 h4 h3 hr) hK
   ·cases hk
  ·rename_i X h1 h2 h3
   cases hk
   obtain ⟨r,hr,hK⟩:=hK
   exact val (b1K h ho h1 h2 h3 hr) hK
  ·cases hk
 case h_14 t x lo hi ho=>
  split at hk
  ·rename_i X LO HI h1 h2 h3 h4
   cases hk
   obtain ⟨r,hr,hK⟩:=hK
   exact val (b1M h ho h1 h2 h3 h4 hr) hK
  ·rename_i e X LO HI h1 h2 h3 h4
   cases hi':P.info? e with
   | none=>simp[hi']at hk
   | some i=>
    simp only[hi',BE,Az]at hk
    split at hk
    ·subst hk
     obtain ⟨r,hr,hK⟩:=hK
     exact val (b1n h ho h1 hi' h2 h3 h4 hr) hK
    ·subst hk
     obtain ⟨r,hr,hK⟩:=hK
     exact val (a0j h ho h1 hi' h2 h3 h4 hr) hK
  ·rename_i n e X h1 h2 h3 h4
   split at hk
   ·rename_i hn
    cases hk
    obtain ⟨r,hr,hK⟩:=hK
    exact val (b0X h (by rw[ho,UR h3,UR h4]) h1 hn.2 hn.1 h2 hr) hK
   ·cases hk
  ·cases hk
 case h_15 x j ho=>
  cases hx:Au x with
  | none=>simp[hx]at hk
  | some X=>
   simp only[hx,BE,Az]at hk
   subst hk
   obtain ⟨r,hr,hK⟩:=hK
   exact val (b1i h ho hx hr) hK
 case h_16 x ho=>
  cases hx:Au x with
  | none=>simp[hx]at hk
  | some X=>
   simp only[hx,BE,Az]at hk
   subst hk
   obtain ⟨r,hr,hK⟩:=hK
   exact val (b1E h ho hx hr) hK
 case h_17 c x y ho=>
  split at hk
  ·rename_i C X Y h1 h2 h3
   cases hk
   obtain ⟨r,hr,hK⟩:=hK
   exact val (b1H h ho h1 h2 h3 hr) hK
  ·cases hk
 case h_18 t parts ho=>
  split at hk
  ·rename_i fs z h1 h2
   split at hk
   ·rename_i h3
    cases hp:Kf P fs parts.toList with
    | none=>simp[hp]at hk
    | some ps=>
     simp only[hp,BE,Az]at hk
     subst hk
     obtain ⟨r,hr,hK⟩:=hK
     exact val (b1a h ho h1 h2 h3 hp hr) hK
   ·cases hk
  ·rename_i n e z h1 h2
   split at hk
   ·rename_i inf hinf
    cases hp:Ke P e inf.size parts.toList with
    | none=>simp[hp]at hk
    | some ps=>
     simp only[hp,BE,Az]at hk
     subst hk
     obtain ⟨r,hr,hK⟩:=hK
     exact val (b1b h ho h1 h2 hinf hp hr) hK
   ·cases hk
  ·cases hk
 case h_19 t n parts ho=>
  split at hk
  ·rename_i e sz ps h1 h2
   split at hk
   ·rename_i h3
    cases hk
    split at hK
    ·exact b1l h ho rfl hd h1 h2 h3.1 h3.2.1 h3.2.2.1 h3.2.2.2 hK hn
    ·obtain ⟨r,hr,hK⟩:=hK
     exact val (b1d h ho h1 h2 h3.1 h3.2.1 h3.2.2.1 h3.2.2.2 hr) hK
   ·cases hk
  ·cases hk
 case h_20 f args argTypes ho=>
  split at hk
  ·rename_i hf
   cases hfn:P.funcs[f]? with
   | none=>simp[hfn]at hf
   | some fn=>
    simp only[hfn,BE,Cp,AP,G3]at hf
    cases hp:FM P argTypes.toList args.toList with
    | none=>simp[hp]at hk
    | some ps=>
     by_cases hR4:(R==4 && !argTypes.toList.any (objT P))=true
     ·simp only[hp,BE,Az,Af hR4]at hk
      subst hk
      obtain ⟨ws,h1,h2⟩:=hK
      exact TH h ho rfl hd hfn hf.1 hf.2 hp (K:=K) ⟨ws,h1,h2.toO⟩ hn
     by_cases hR:0<R
     ·simp only[hp,BE,Az,Ad hR4,Af hR]at hk
      subst hk
      exact TH h ho rfl hd hfn hf.1 hf.2 hp hK hn
     ·simp only[hp,BE,Az,Ad hR4,Ad hR]at hk
      split at hk
      ·subst hk
       obtain ⟨r,⟨vs,h1,o1,h2,h3⟩,hK⟩:=hK
       refine TH h ho rfl hd hfn hf.1 hf.2 hp (K:=K) ⟨vs,h1,o1,_,h2,h3, ?_⟩ hn
       intro r' o' he _
       obtain ⟨e1,e2⟩:=he
       rw[e1,e2]
       have e:(fun b=>(o1 b).or (s.o b))=s.o:=by
        funext b
        cases hb:o1 b with
        | none=>rfl
        | some cs=>exact (h2 b cs hb).symm
       rw[e]
       exact hK
      ·subst hk
       obtain ⟨r,hr,hK⟩:=hK
       exact b1e h ho rfl hd hfn hf.1 hf.2 hp hr fun a' W' U' hi=>hn _ _ _ _ hi hK
  ·cases hk
 case h_21 x t ho=>
  split at hk
  ·rename_i X h1 h2
   cases hk
   obtain ⟨r,hr,hK⟩:=hK
   exact val (b1s h ho h1 h2 hr) hK
  ·rename_i e X h1 h2
   cases hk
   obtain ⟨r,hr,hK⟩:=hK
   exact val (b1r h ho h1 h2 hr) hK
  ·cases hk
 case h_22 i x t t' ho=>
  split at hk
  ·rename_i e sz X h1 h2
   split at hk
   ·rename_i h3
    obtain ⟨rfl,h4,h5⟩:=h3
    obtain ⟨inf,g1,g2,g3⟩:=LJ h1
    simp only[g2,BE,Az]at hk
    split at hk
    ·rename_i h6
     simp only[AP]at h6
     subst hk
     exact a0g h ho rfl hd g1 g2 g3 h4 h5 h6.2 h2 (.inr ⟨_,rfl,rfl⟩) hK hn
    ·subst hk
     obtain ⟨r,hr,hK⟩:=hK
     exact b0U h ho rfl hd g1 g2 g3 h4 h5 h2 hr fun a' W' U' hi=>hn _ _ _ _ hi hK
   ·split at hk
    ·rename_i h3
     obtain ⟨h4,rfl,h5⟩:=h3
     obtain ⟨inf,g1,g2,g3⟩:=LJ h1
     simp only[g2,BE,Az]at hk
     subst hk
     obtain ⟨r,hr,hK⟩:=hK
     exact b0W h ho rfl hd g1 g2 (a4G h4) g3 h5 h2 hr fun a' W' U' hi=>hn _ _ _ _ hi hK
    ·cases hk
  ·cases hk
 case h_23 x y ts ho=>
  split at hk
  ·rename_i X Y h1 h2
   cases hk
   obtain ⟨r,hr,hK⟩:=hK
   exact val (b1v h ho h1 h2 hr) hK
  ·cases hk
 case h_24 t x y ho=>
  split at hk
  ·rename_i e sz X h1 h2
   split at hk
   ·rename_i z i h3 h4
    split at hk
    ·rename_i h5
     obtain ⟨h6,h7,h8⟩:=h5
     obtain rfl:=b1S h6
     split at hk
     ·rename_i h9
      cases hk
      exact b1t h ho hd rfl h1 h2 h3 h4 h7 h8 h9 hK hn
     ·cases hk
    ·cases hk
   ·cases hk
  ·cases hk
 case h_25 x y ts ho=>
  split at hk
  ·rename_i X Y h1 h2
   cases hk
   obtain ⟨r,hr,hK⟩:=hK
   exact val (b1B h ho h1 h2 hr) hK
  ·cases hk
 case h_26 t ho=>
  cases hk
  exact b1u h ho hd rfl hK hn
 case h_27 t m x ok ho=>
  split at hk
  ·rename_i k e X Y ht h1 h2
   split at hk
   ·rename_i ks ag z h3 h4
    cases hk
    obtain ⟨r,hr,hK⟩:=hK
    exact val (b1w h ho ht h1 h2 h3 h4 hr) hK
   ·cases hk
  ·cases hk
 case h_28 t m x v ho=>
  split at hk
  ·rename_i k e X Y V ht h1 h2 h3
   split at hk
   ·rename_i ks ag h4 h5
    cases hk
    obtain ⟨r,⟨b,cs,hr⟩,hK⟩:=hK
    simp only[B6,hr,h5,St.put]at hK
    exact b1x h ho h5 ht h1 h2 h3 h4 hr fun a' W' U' hi=>hn _ _ _ _ hi hK
   ·cases hk
  ·cases hk
 case h_29 t m x ho=>
  split at hk
  ·rename_i k e X Y ht h1 h2
   split at hk
   ·rename_i ks ag z h4 h5
    cases hk
    obtain ⟨r,⟨b,cs,hr⟩,hK⟩:=hK
    simp only[B6,hr]at hK
    exact b1y h ho rfl hd ht h1 h2 h4 h5 hr fun a' W' U' hi=>hn _ _ _ _ hi hK
   ·cases hk
  ·cases hk
 case h_30 t m x v ho=>
  split at hk
  ·rename_i X Y V h1 h2 h3 h5
   cases hk
   obtain ⟨r,⟨b,cs,hr⟩,hK⟩:=hK
   simp only[B6,hr,h5,St.put]at hK
   exact b1z h ho h5 h1 h2 h3 hr fun a' W' U' hi=>hn _ _ _ _ hi hK
  ·cases hk
 case h_31 m x t k' ho=>
  split at hk
  ·rename_i k e X Y ht h1 h2
   split at hk
   ·rename_i ks ag h4 h5
    cases hk
    obtain ⟨r,⟨b,cs,hr⟩,hK⟩:=hK
    simp only[B6,hr,h5,St.put]at hK
    exact b1A h ho h5 ht h1 h2 h4 hr fun a' W' U' hi=>hn _ _ _ _ hi hK
   ·cases hk
  ·cases hk
 case h_32 t x ho=>
  split at hk
  ·rename_i k e X ht h1
   cases hk
   obtain ⟨p,hp,hK⟩:=hK
   exact b1I h ho ht hd rfl h1 hp hK hn
  ·cases hk
 case h_33 x ho=>
  cases hx:Au x with
  | none=>simp[hx]at hk
  | some X=>
   simp only[hx,BE,Az]at hk
   subst hk
   obtain ⟨p,hp,hK⟩:=hK
   exact b1F h ho hd rfl hx hp hK hn
 case h_34 x ho=>
  cases hx:Au x with
  | none=>simp[hx]at hk
  | some X=>
   simp only[hx,BE,Az]at hk
   subst hk
   obtain ⟨r,hr,hK⟩:=hK
   exact val (b1h h ho hx hr) hK
 case h_35 x t t' ho=>
  split at hk
  ·rename_i e sz X h1 h2
   split at hk
   ·rename_i h3
    obtain ⟨rfl,h4,h5⟩:=h3
    obtain ⟨inf,g1,g2,g3⟩:=LJ h1
    simp only[g2,BE,Az]at hk
    split at hk
    ·rename_i h6
     simp only[AP]at h6
     subst hk
     exact a0g h ho rfl hd g1 g2 g3 h4 h5 h6.2 h2 (.inl ⟨rfl,rfl⟩) hK hn
    ·subst hk
     obtain ⟨r,hr,hK⟩:=hK
     exact val (b0V h ho g1 g2 g3 h4 h5 h2 hr) hK
   ·cases hk
  ·cases hk
 case h_36 k args argTypes ho=>
  split at hk
  ·cases hp:FM P argTypes.toList args.toList with
   | none=>simp[hp]at hk
   | some ps=>
    simp only[hp,BE,Az]at hk
    subst hk
    exact b1f h ho rfl hd hp hK hn
  ·cases hk
 case h_37=>cases hk

def OA(P:Program)(R:Nat)(ops:List Oper)(o:Oper):Option AOp:=
 match o.guard with
 | none=>(M7 P R ops o).map fun k=>⟨none,o.dst,k⟩
 | some (j,want)=>match (ops[j]?).bind (·.dst),M7 P R ops o with
  | some t,some k=>some ⟨some (t,want),o.dst,k⟩
  | _,_=>none

theorem Tb(h:Inv N W0 U0 M a W U s){ops:List Oper}{A:AOp}(hc:OA P R ops o=some A)(hd:∀ j,o.dst=some j→j<N){K:St→Prop}(hK:De P A s K)
  {next:Act→World→Prop} {Q:Exit→Act→World→Prop} (hn:∀ a' W' U' s',Inv N W0 U0 M a' W' U' s'→K s'→next a' W'):
  if Region.wanted o (yielded ops.toArray a.tmps) then o.wp P a W next Q∨(o.asks P a W∧LetsOut Q) else next (a.put o.dst Go.undef) W:=by
 unfold OA at hc
 split at hc
 ·rename_i hg
  cases hk:M7 P R ops o with
  | none=>simp[hk]at hc
  | some k=>
   simp only[hk,BE,Az]at hc
   subst hc
   rw[Af (by simp[Region.wanted,hg])]
   exact .inl (X2 h hk hd hK hn)
 ·rename_i j want hg
  split at hc
  ·rename_i t k h1 h2
   simp only[Az]at hc
   subst hc
   have hskip:K (s.put o.dst .undef)→next (a.put o.dst Go.undef) W:=fun hK=>hn _ _ U _ (h.putO hd .undef fun _ _=>Sole.plain (by simp)) hK
   have hy:yielded ops.toArray a.tmps j=match a.tmps[t]? with|some (.bool b)=>some b|_=>none:=by
    simp only[yielded,EW,h1,CY]
    rfl
   simp only[De]at hK
   split at hK
   ·rename_i b hb
    have hv:=h.tv t _ hb
    have hbv:a.tmps.getD t Go.undef=.bool b:=by generalize a.tmps.getD t Go.undef=val at hv;cases hv;rfl
    have hbt:a.tmps[t]?=some (.bool b):=by
     rw[Cu]at hbv
     cases hx:a.tmps[t]? with
     | none=>rw[hx]at hbv;simp[Go.undef]at hbv
     | some y=>rw[hx]at hbv;simpa using hbv
    rw[hbt]at hy
    have hw:Region.wanted o (yielded ops.toArray a.tmps)=(b==want):=by simp[Region.wanted,hg,hy]
    rw[hw]
    by_cases hbw:b=want
    ·subst hbw
     rw[Af (by simp)]
     exact .inl (X2 h h2 hd (hK.1 rfl) hn)
    ·rw[Ad (by simpa using hbw)]
     exact hskip (hK.2 (by cases b<;>cases want<;>simp_all))
   ·rename_i hb
    have hv:=h.tv t _ hb
    have hbv:a.tmps.getD t Go.undef=Go.undef:=by generalize a.tmps.getD t Go.undef=val at hv;cases hv;rfl
    have hnb:∀ b,a.tmps[t]?≠some (.bool b):=by
     intro b hb
     rw[Cu,hb]at hbv
     simp[Go.undef]at hbv
    have hyn:yielded ops.toArray a.tmps j=none:=by
     rw[hy]
     split
     ·rename_i b hb;exact absurd hb (hnb b)
     ·rfl
    have hw:Region.wanted o (yielded ops.toArray a.tmps)=false:=by simp[Region.wanted,hg,hyn]
    rw[hw]
    exact hskip hK
   ·exact hK.elim
  ·cases hc
end
theorem le_refl(s:St):Le s s:=⟨fun _ _ h=>h,fun _ _ h=>h⟩
theorem X6{a b c:St}(h:Le a b)(g:Le b c):Le a c:=⟨fun i v e=>g.1 i v (h.1 i v e),fun i v e=>g.2 i v (h.2 i v e)⟩
section
variable {P:Program} {s s':St} (h:Le s s')
include h
theorem Be{x:Opd}{v:AV}(e:x.ev s=some v):x.ev s'=some v:=by
 cases x with
 | t i=>exact h.1 i v e
 | c w=>exact e
theorem O2:∀ {l:List Opd} {vs:List AV},evs s l=some vs→evs s' l=some vs
 | [],_,e=>e
 | x::r,vs,e=>by
  unfold evs at e ⊢
  split at e
  ·rename_i v ws h1 h2
   rw[Be h h1,O2 h2];exact e
  ·cases e
theorem Xh:∀ {l:List (Nat × Nat × Opd)} {vs:List (Nat × Nat × AV)},D5 s l=some vs→D5 s' l=some vs
 | [],_,e=>e
 | (a,b,x)::r,vs,e=>by
  unfold D5 at e ⊢
  split at e
  ·rename_i v ws h1 h2
   rw[Be h h1,Xh h2];exact e
  ·cases e
theorem a1x{p:AV}{cs:List AV}(e:view s.o p=some cs):view s'.o p=some cs:=by
 cases p<;>first|exact e|skip
 rename_i b off
 simp only[view,BM]at e ⊢
 obtain ⟨l,h1,h2⟩:=e
 exact ⟨l,h.2 b l h1,h2⟩
theorem Lb{d:Nat}{x:Option Opd}{r:Nat}(e:FL s d x r):FL s' d x r:=by
 cases x with
 | none=>exact e
 | some x=>obtain ⟨k,n,h1,h2⟩:=e;exact ⟨k,n,Be h h1,h2⟩
theorem a5q{q:Nat}{z:AV}{ks:List Kd}{ag:Bool}{m k v:Opd}{x:Nat × AV × List AV}(e:EB s q z ks ag m k v=some x):EB s' q z ks ag m k v=some x:=by
 obtain ⟨b,r,cs⟩:=x
 obtain ⟨kv,vv,kl,vl,bs,clk,e1,e2,e3,e4,e5⟩:=LV e
 simp only[EB,Be h e1,Be h e2,Be h e3,h.2 _ _ e4,CY,e5,BE]
theorem a8r{k:AK}{r:AV}(e:AU P s k r):AU P s' k r:=by
 cases k with
 | mv x=>obtain ⟨v,h1,h2⟩:=e;exact ⟨v,Be h h1,h2⟩
 | nil _ _=>exact e
 | tk i=>exact h.1 i r e
 | newv _=>exact e
 | box _=>exact e
 | callo _ _=>exact e
 | calln _ _=>exact e
 | callv _ _=>exact e
 | hbs _ _ _=>exact e
 | cro f as'=>obtain ⟨vs,h1,o1,h2,h3⟩:=e;exact ⟨vs,O2 h h1,o1,fun b cs hb=>h.2 b cs (h2 b cs hb),h3⟩
 | ldt x=>
  obtain ⟨p,h1,h2⟩:=e
  refine ⟨p,Be h h1, ?_⟩
  cases p<;>try exact h2.elim
  ·rename_i cs
   cases cs with
   | nil=>exact h2.elim
   | cons c rest=>exact h2
  ·obtain ⟨cs,h3,h4⟩:=h2
   exact ⟨cs,h.2 _ _ h3,h4⟩
 | stt x i=>obtain ⟨b,off,v,cs,h1,h2,h3,h4⟩:=e;exact ⟨b,off,v,cs,Be h h1,h.1 _ _ h2,h.2 _ _ h3,h4⟩
 | mk _ _ _=>exact e
 | vidx n size q x i=>obtain ⟨a,b,h1,h2,h3⟩:=e;exact ⟨a,b,Be h h1,Be h h2,h3⟩
 | mn x y=>obtain ⟨a,b,h1,h2,h3⟩:=e;exact ⟨a,b,Be h h1,Be h h2,h3⟩
 | mx x y=>obtain ⟨a,b,h1,h2,h3⟩:=e;exact ⟨a,b,Be h h1,Be h h2,h3⟩
 | mkm=>exact e
 | peq neg x=>obtain ⟨a,b,h1,h2⟩:=e;exact ⟨a,b,Be h h1,h2⟩
 | app0 e' size bytes x=>obtain ⟨own,news,h1,h2⟩:=e;exact ⟨own,news,Be h h1,h2⟩
 | rng _=>exact e
 | b2o _=>exact e
 | b2d x=>obtain ⟨b,off,n,cs,l,h1,h2,h3⟩:=e;exact ⟨b,off,n,cs,l,Be h h1,h.2 b cs h2,h3⟩
 | asl n x=>obtain ⟨b,off,h1,h2⟩:=e;exact ⟨b,off,Be h h1,h2⟩
 | s2b e' x=>obtain ⟨l,h1,h2⟩:=e;exact ⟨l,Be h h1,h2⟩
 | nxt _=>exact e
 | mq z ok ks ag m k=>
  obtain ⟨a,b,h1,h2,h3⟩:=e
  refine ⟨a,b,Be h h1,Be h h2, ?_⟩
  cases a<;>try exact h3.elim
  ·obtain ⟨kl,vl,bs,clk,f,g1,g2⟩:=h3
   exact ⟨kl,vl,bs,clk,f,h.2 _ _ g1,g2⟩
  ·exact h3
  ·exact h3
 | mu q z ks ag m k v=>obtain ⟨b,cs,h1⟩:=e;exact ⟨b,cs,a5q h h1⟩
 | ent x=>
  obtain ⟨a,h1,h2⟩:=e
  refine ⟨a,Be h h1, ?_⟩
  cases a<;>try exact h2.elim
  obtain ⟨m,since,seen,last,kl,vl,bs,clk,i,n,g1,g2,g3⟩:=h2
  exact ⟨m,since,seen,last,kl,vl,bs,clk,i,n,h.2 _ _ g1,h.2 _ _ g2,g3⟩
 | ld n x=>obtain ⟨p,cs,h1,h2,h3⟩:=e;exact ⟨p,cs,Be h h1,a1x h h2,h3⟩
 | sto n x v=>obtain ⟨b,off,a,cs,h1,h2,h3,h4⟩:=e;exact ⟨b,off,a,cs,Be h h1,Be h h2,h.2 _ _ h3,h4⟩
 | fld off x=>obtain ⟨p,h1,h2⟩:=e;exact ⟨p,Be h h1,h2⟩
 | ldh x=>obtain ⟨p,cs,h1,h2,h3⟩:=e;exact ⟨p,cs,Be h h1,a1x h h2,h3⟩
 | ldr n x=>obtain ⟨cs,h1,h2⟩:=e;exact ⟨cs,Be h h1,h2⟩
 | idx size x i=>obtain ⟨p,q,h1,h2,h3⟩:=e;exact ⟨p,q,Be h h1,Be h h2,h3⟩
 | bin op x y=>obtain ⟨a,b,h1,h2,h3⟩:=e;exact ⟨a,b,Be h h1,Be h h2,h3⟩
 | aidx n size x i=>obtain ⟨p,k,m,h1,h2,h3⟩:=e;exact ⟨p,k,m,Be h h1,Be h h2,h3⟩
 | un op x=>obtain ⟨a,h1,h2⟩:=e;exact ⟨a,Be h h1,h2⟩
 | len b x=>obtain ⟨a,h1,h2⟩:=e;exact ⟨a,Be h h1,h2⟩
 | app e' size bytes i x=>obtain ⟨els,own,news,h1,h2,h3⟩:=e;exact ⟨els,own,news,h.1 _ _ h1,Be h h2,h3⟩
 | apps e' bytes i x=>obtain ⟨els,l,h1,h2,h3⟩:=e;exact ⟨els,l,h.1 _ _ h1,Be h h2,h3⟩
 | bs e' size ps=>obtain ⟨vs,h1,h2⟩:=e;exact ⟨vs,O2 h h1,h2⟩
 | bld z ps=>obtain ⟨vs,cs,h1,h2⟩:=e;exact ⟨vs,cs,Xh h h1,h2⟩
 | fldv off n x=>obtain ⟨cs,h1,h2⟩:=e;exact ⟨cs,Be h h1,h2⟩
 | call f as'=>obtain ⟨vs,h1,h2⟩:=e;exact ⟨vs,O2 h h1,h2⟩
 | ext j x=>obtain ⟨cs,c,h1,h2⟩:=e;exact ⟨cs,c,Be h h1,h2⟩
 | nilc x=>
  rcases e with ⟨cs,h1,h2⟩ | ⟨b,off,h1,h2⟩
  ·exact .inl ⟨cs,Be h h1,h2⟩
  ·exact .inr ⟨b,off,Be h h1,h2⟩
 | pick c a b=>obtain ⟨cv,av,bv,h1,h2,h3,h4⟩:=e;exact ⟨cv,av,bv,Be h h1,Be h h2,Be h h3,h4⟩
 | slc size x lo hi=>
  cases size with
  | none=>obtain ⟨l,a,b,h1,h2,h3,h4⟩:=e;exact ⟨l,a,b,Be h h1,Lb h h2,Lb h h3,h4⟩
  | some size=>obtain ⟨own,l,a,b,h1,h2,h3,h4⟩:=e;exact ⟨own,l,a,b,Be h h1,Lb h h2,Lb h h3,h4⟩
 | conv k x=>obtain ⟨k',n,h1,h2⟩:=e;exact ⟨k',n,Be h h1,h2⟩
 | b2s x=>obtain ⟨own,l,h1,h2⟩:=e;exact ⟨own,l,Be h h1,h2⟩
 | sidx x i=>obtain ⟨l,k,n,h1,h2,h3⟩:=e;exact ⟨l,k,n,Be h h1,Be h h2,h3⟩
 | beq neg x y=>obtain ⟨a,b,h1,h2,h3⟩:=e;exact ⟨a,b,Be h h1,Be h h2,h3⟩
 | aeq neg ks x y=>obtain ⟨a,b,c,h1,h2,h3⟩:=e;exact ⟨a,b,c,Be h h1,Be h h2,h3⟩
 | s2s x=>obtain ⟨l,h1,h2⟩:=e;exact ⟨l,Be h h1,h2⟩
 | hap _ _ _ _ _=>exact e
 | hnl _ _=>exact e
 | hslc size x lo hi=>obtain ⟨p,a,b,h1,h2,h3,h4⟩:=e;exact ⟨p,a,b,Be h h1,Lb h h2,Lb h h3,h4⟩
end
theorem Um{o:Nat→Option (List AV)}{e size bytes:Nat}{q p:AV}{K K':AV→(Nat→Option (List AV))→Prop}(hK:∀ r a,K r a→K' r a)(g:MV e size bytes o q K p):MV e size bytes o q K' p:=by
 cases p<;>try exact g
 ·obtain ⟨h1,news,els,h2,h3,h4,h5,h6,h7,h8,h9⟩:=g
  exact ⟨h1,news,els,h2,h3,h4,h5,h6,h7,h8,fun b hb cap' hc=>hK _ _ (h9 b hb cap' hc)⟩
 ·obtain ⟨h1,news,h2,h3,h4,h5,h6⟩:=g
  exact ⟨h1,news,h2,h3,h4,fun hn=>hK _ _ (h5 hn),fun hn b hb cap hc=>hK _ _ (h6 hn b hb cap hc)⟩
end Go.Proofs.YtfgihnhoocnmdaaGreatDoor
