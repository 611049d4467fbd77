import Derived.Test.YtfckcdbpiepchaaGreatDoorNs34
namespace Go.Proofs.YtfckcdbpiepchaaGreatDoor
open Go.RowKit
set_option maxRecDepth 100000
set_option maxHeartbeats 8000000
set_option linter.all false
theorem yvy {w w0:World}{p:Nat}{s:RS}{x:Option (RS×Bool)}{u1 u2 u4 u5 u6 u7 u8 u9 u10 u11 u12 u13 u14 u15 u16 u17 u18 u19 u20 u21 u22 u23 u24 u25 u26 u27 u28 u29 u30 u31 u32 u33 u34 u35 u36 u37 u38 u39 u40 u41 u42 u43 u44 u45 u46 u47 u48 u49 u50 u51 u52 u53 u54 u55 u56 u57 u58 u59 u60 u61 u62 u63 u64 u65 u66 u67 u68 u69 u70 u71 u72 u73 u74 u75 u76 u77 u78 u79 u80 u81 u82 u83 u84 u85 u86 u87 u88 u89 u90 u91 u92 u93 u94 u95 u96 u97 u98 u99 u100 u101 u102 u103 u104 u105 u106 u107 u108 u109 u110 u111 u112 u113 u114 u115 u116 u117 u118 u119 u120 u121 u122 u123 u124 u125 u126 u127 u128 u129 u130 u131 u132 u133 u134 u135 u136 u137 u138 u139 u140 u141 u142 u143 u144 u145 u146 u147 u148 u149 u150 u151 u152 u153 u154 u155 u156 u157 u158 u159 u160 u161 u162 u163 u164 u165 u166 u167 u168 u169 u170 u171 u172 u173 u174 u175 u176 u177 u178 u179 u180 u181 u182 u183 u184 u185 u186 u187 u188 u189 u190 u191 u192 u193 u194 u195 u196 u197 u198 u199 u200 u201 u202 u203 u204 u205 u206 u207 u208 u209 u210 u211 u212 u213 u214 u215 u216 u217 u218 u219 u220 u221 u222 u223 u224 u225 u226 u227 u228 u229 u230 u231 u232 u233 u234 u235 u236 u237 u238 u239 u240 u241 u242 u243 u244 u245 u246 u247 u248 u249 u250 u251 u252 u253 u254 u255 u256 u257 u258 u259 u260 u261 u262 u263 u264 u265 u266:Value}(i:RAt w p s)(y:s.Wg)(C:Env p w)(t:Upd p w0 w)
  (g:(ye (gt 4 s) fun s=>some (some (s,false)))=some x)
  (K:Act->World->Prop) (hK:∀ a w,(yl6 (ctail? Tryz.f148.body)).wp Tryz.prog (Exit.noGoto (bodyPost Tryz.prog Tryz.f148 (fun e w'=>jj .const p w0 x e w'))) a w->K a w) :
  (yl8 (ctail? Tryz.f148.body)).wp Tryz.prog (Exit.then K (Exit.noGoto (bodyPost Tryz.prog Tryz.f148 (fun e w'=>jj .const p w0 x e w')))) { tmps:=#[.pointer (some ⟨p,0,none⟩),u1,u2,.int .i64 4,u4,u5,u6,u7,u8,u9,u10,u11,u12,u13,u14,u15,u16,u17,u18,u19,u20,u21,u22,u23,u24,u25,u26,u27,u28,u29,u30,u31,u32,u33,u34,u35,u36,u37,u38,u39,u40,u41,u42,u43,u44,u45,u46,u47,u48,u49,u50,u51,u52,u53,u54,u55,u56,u57,u58,u59,u60,u61,u62,u63,u64,u65,u66,u67,u68,u69,u70,u71,u72,u73,u74,u75,u76,u77,u78,u79,u80,u81,u82,u83,u84,u85,u86,u87,u88,u89,u90,u91,u92,u93,u94,u95,u96,u97,u98,u99,u100,u101,u102,u103,u104,u105,u106,u107,u108,u109,u110,u111,u112,u113,u114,u115,u116,u117,u118,u119,u120,u121,u122,u123,u124,u125,u126,u127,u128,u129,u130,u131,u132,u133,u134,u135,u136,u137,u138,u139,u140,u141,u142,u143,u144,u145,u146,u147,u148,u149,u150,u151,u152,u153,u154,u155,u156,u157,u158,u159,u160,u161,u162,u163,u164,u165,u166,u167,u168,u169,u170,u171,u172,u173,u174,u175,u176,u177,u178,u179,u180,u181,u182,u183,u184,u185,u186,u187,u188,u189,u190,u191,u192,u193,u194,u195,u196,u197,u198,u199,u200,u201,u202,u203,u204,u205,u206,u207,u208,u209,u210,u211,u212,u213,u214,u215,u216,u217,u218,u219,u220,u221,u222,u223,u224,u225,u226,u227,u228,u229,u230,u231,u232,u233,u234,u235,u236,u237,u238,u239,u240,u241,u242,u243,u244,u245,u246,u247,u248,u249,u250,u251,u252,u253,u254,u255,u256,u257,u258,u259,u260,u261,u262,u263,u264,u265,u266],defers:=[] } w:=by
 refine yez (o:=ctail? Tryz.f148.body) rfl hK ?_;clear hK K;intro K hK;have a0:(s.str.length:Int)<=4294967296:=by have:=y.o0;have:=y.o1;have:=y.o2;omega
 have ai:=i.str;have HX:=lh g;clear g
 go_wp2_with fail
 go_step3
 go_wp2_with fail
 clear ai
 go_loopg [5,6] (s.str.length+1) (fun gk dv vv wr=>∃ (k v:Nat) (l:List UInt8),dv=.int .i64 (k:Int)/\vv=.int .u64 (v:Int)/\Hid (l.length+1=gk/\k+l.length=s.str.length)/\RAt wr p (s.go l)/\(s.go l).Wg/\Env p wr/\Upd p w0 wr/\Hid (j5 l k v=j5 s.str 0 0)/\v < 18446744073709551616)
 case atStart=>exact⟨0,0,s.str,rfl,rfl,⟨rfl,by omega⟩,by rw[RS.go_self];exact i,by rw[RS.go_self];exact y,C,t,rfl,by omega⟩
 case round=>
  have E:=HX;clear i y C t HX;obtain⟨k,v,l,rfl,rfl,hH,i,y,C,t,X,hv⟩:=hrel;obtain⟨ab,P⟩:=hH.out
  cases l with
  | nil=>
   have hs:wr.cell? ⟨p,1,none⟩=some (.string ⟨#[]⟩):=i.str;have J:j5 s.str 0 0=some (k,v,[]):=X.out.symm;have ac:(k:Int)<=4294967296:=by simp at P;omega
   have g:=E.out;unfold gt at g;rw[show j5 s.str 0 0=some (k,v,[]) from J] at g;simp only at g;clear J E
   by_cases R:k=0
   ·subst R
    rw[if_pos rfl,bindM_fail] at g;obtain rfl:=Option.some.inj g
    go_wp2_with(go_at_call 70;refine(yu i).mono ?_;rintro e U ⟨m,o,B,rfl,z,A⟩)
    exact⟨rfl,m,o,B,rfl,z,t.trans A⟩
   rw[if_neg R] at g;have ad:((k:Int) == 0)=false:=by simp;omega
   clear R;simp only[Nat.reduceEqDiff,if_false,if_true] at g;unfold yjh at g
   by_cases M:6 < k
   ·rw[if_pos M,bindM_fail] at g
    obtain rfl:=Option.some.inj g;have S:(6:Int) < (k:Int):=by omega
    go_wp2_with(go_at_call 70;refine(yu i).mono ?_;rintro e U ⟨m,o,B,rfl,z,A⟩)
    exact⟨rfl,m,o,B,rfl,z,t.trans A⟩
   rw[if_neg M,yp] at g;have S:¬ (6:Int) < (k:Int):=by omega
   go_wp2_with fail
   refine zt 39 i y g fun I b j c n=>?_;replace C:=C.upd i c;replace t:=t.trans c;replace i:=b;replace y:=j;replace g:=n;clear b j c n
   by_cases G:32<=v/\v<=126/\v≠92/\v≠39
   ·rw[if_pos G,yp] at g
    obtain⟨v1,v2,v3,v4⟩:=G;have q9:((v:Int) == 9)=false:=by simp;omega
    have ak:((v:Int) == 13)=false:=by simp;omega
    have aj:((v:Int) == 10)=false:=by simp;omega
    have am:((v:Int) == 92)=false:=by simp;omega
    have al:((v:Int) == 39)=false:=by simp;omega
    have Q:((UInt8.ofNat v).toNat:Int)=v:=by simp[UInt8.toNat_ofNat'];omega
    have Z:(32:Int)<=(v:Int):=by omega
    have T:(v:Int)<=126:=by omega
    go_wp2_with fail
    rw[<-Q];refine zt (UInt8.ofNat v) i y g fun I b j c n=>?_;replace C:=C.upd i c;replace t:=t.trans c;replace i:=b;replace y:=j;replace g:=n;clear b j c n
    go_wp2_with fail
    refine zt 39 i y g fun I b j c n=>?_;replace C:=C.upd i c;replace t:=t.trans c;replace i:=b;replace y:=j;replace g:=n;clear b j c n;obtain rfl:=Option.some.inj g;go_wp2
    try rw[Exit.noGoto_normal]
    go_end0;exact⟨⟨rfl,i,t⟩,y⟩
   rw[if_neg G] at g
   cases g
  | cons d l=>
   have hs:wr.cell? ⟨p,1,none⟩=some (.string ⟨(d::l).toArray⟩):=i.str;have N:Hid ((s.go (d::l)).str=d::l):=rfl;have H:(s.go l).Wg:=(RS.go_go s (d::l) l)▸y.go (r:=l) (by show l.length<=(d::l).length;simp);have ax:(d.toNat:Int)<=255:=by have:=d.toNat_lt;omega
   have ac:(k:Int)<=4294967296:=by simp at P;omega
   have ay:k+1+l.length=s.str.length/\l.length+1+1=gk:=by simp only[List.length_cons] at ab P;omega
   have f:=X.out;rw[yd7] at f
   by_cases c95:d=95
   ·subst c95
    rw[if_pos rfl] at f;have J:j5 s.str 0 0=some (k,v,l):=f.symm;clear f
    go_wp2_with fail
    refine(yh i y.wf N).mono ?_;rintro e I ⟨rfl,b,c⟩;rw[RS.go_go] at b;have j:=H;have n:True:=trivial;have g:True:=trivial;replace C:=C.upd i c;replace t:=t.trans c;replace i:=b;replace y:=j;replace g:=n;clear b j c n;clear g;have g:=E.out;unfold gt at g;rw[show j5 s.str 0 0=some (k,v,l) from J] at g;simp only at g;clear J E
    by_cases R:k=0
    ·subst R
     rw[if_pos rfl,bindM_fail] at g;obtain rfl:=Option.some.inj g
     go_wp2_with(go_at_call 70;refine(yu i).mono ?_;rintro e U ⟨m,o,B,rfl,z,A⟩)
     exact⟨rfl,m,o,B,rfl,z,t.trans A⟩
    rw[if_neg R] at g;have ad:((k:Int) == 0)=false:=by simp;omega
    clear R;simp only[Nat.reduceEqDiff,if_false,if_true] at g;unfold yjh at g
    by_cases M:6 < k
    ·rw[if_pos M,bindM_fail] at g
     obtain rfl:=Option.some.inj g;have S:(6:Int) < (k:Int):=by omega
     go_wp2_with(go_at_call 70;refine(yu i).mono ?_;rintro e U ⟨m,o,B,rfl,z,A⟩)
     exact⟨rfl,m,o,B,rfl,z,t.trans A⟩
    rw[if_neg M,yp] at g;have S:¬ (6:Int) < (k:Int):=by omega
    go_wp2_with fail
    refine zt 39 i y g fun I b j c n=>?_;replace C:=C.upd i c;replace t:=t.trans c;replace i:=b;replace y:=j;replace g:=n;clear b j c n
    by_cases G:32<=v/\v<=126/\v≠92/\v≠39
    ·rw[if_pos G,yp] at g
     obtain⟨v1,v2,v3,v4⟩:=G;have q9:((v:Int) == 9)=false:=by simp;omega
     have ak:((v:Int) == 13)=false:=by simp;omega
     have aj:((v:Int) == 10)=false:=by simp;omega
     have am:((v:Int) == 92)=false:=by simp;omega
     have al:((v:Int) == 39)=false:=by simp;omega
     have Q:((UInt8.ofNat v).toNat:Int)=v:=by simp[UInt8.toNat_ofNat'];omega
     have Z:(32:Int)<=(v:Int):=by omega
     have T:(v:Int)<=126:=by omega
     go_wp2_with fail
     rw[<-Q];refine zt (UInt8.ofNat v) i y g fun I b j c n=>?_;replace C:=C.upd i c;replace t:=t.trans c;replace i:=b;replace y:=j;replace g:=n;clear b j c n
     go_wp2_with fail
     refine zt 39 i y g fun I b j c n=>?_;replace C:=C.upd i c;replace t:=t.trans c;replace i:=b;replace y:=j;replace g:=n;clear b j c n;obtain rfl:=Option.some.inj g;go_wp2
     try rw[Exit.noGoto_normal]
     go_end0;exact⟨⟨rfl,i,t⟩,y⟩
    rw[if_neg G] at g
    cases g
   rw[if_neg c95] at f;have aq:((d.toNat:Int) == 95)=false:=by simp;intro h;exact c95 (UInt8.toNat_inj.1 (by show d.toNat=95;omega))
   clear c95
   by_cases hd:gu d.toNat < 0
   ·rw[if_pos hd] at f
    have g:=E.out;unfold gt at g;rw[<-f] at g;obtain rfl:=Option.some.inj g;have ag:¬ (48<=(d.toNat:Int)/\(d.toNat:Int)<=57)/\¬ (97<=(d.toNat:Int)/\(d.toNat:Int)<=102):=by
     unfold gu at hd
     split at hd
     ·omega
     ·split at hd
      ·omega
      ·exact⟨by assumption,by assumption⟩
    have ae:decide (48<=(d.toNat:Int))=false\/decide (48<=(d.toNat:Int))=true/\decide ((d.toNat:Int)<=57)=false:=by simp only[decide_eq_false_iff_not,decide_eq_true_eq];omega
    have af:decide (97<=(d.toNat:Int))=false\/decide (97<=(d.toNat:Int))=true/\decide ((d.toNat:Int)<=102)=false:=by simp only[decide_eq_false_iff_not,decide_eq_true_eq];omega
    clear hd ag f g E X
    rcases ae with a1|⟨a1,a2⟩<;>rcases af with b1|⟨b1,b2⟩
    all_goals
     go_wp2_with(go_at_call 70;refine(yu i).mono ?_;rintro e U ⟨m,o,B,rfl,z,A⟩)
     exact⟨rfl,m,o,B,rfl,z,t.trans A⟩
   rw[if_neg hd] at f;have ah:(48<=(d.toNat:Int)/\(d.toNat:Int)<=57)\/(97<=(d.toNat:Int)/\(d.toNat:Int)<=102):=by
    unfold gu at hd
    split at hd
    ·exact .inl (by assumption)
    ·split at hd
     ·exact .inr (by assumption)
     ·omega
   have aa:(v:Int) < 18446744073709551616:=by omega
   clear hd
   rcases ah with⟨r1,r2⟩|⟨r1,r2⟩
   ·have V:gu d.toNat=(d.toNat:Int)-48:=by unfold gu;rw[if_pos ⟨r1,r2⟩]
    rw[V] at f;clear V
    by_cases F:v=0
    ·subst F
     by_cases L:(d.toNat:Int)-48=0
     ·have ar:(d.toNat:Int)=48:=by omega
      obtain rfl:d=48:=UInt8.toNat_inj.1 (by show d.toNat=48;omega)
      cases l with
      | nil=>
       rw[if_pos ⟨rfl,L,by simp⟩] at f;have g:=E.out;unfold gt at g;rw[<-f] at g;obtain rfl:=Option.some.inj g;clear g E X f
       go_wp2_with fail
       refine(yh i y.wf N).mono ?_;rintro e I ⟨rfl,b,c⟩;rw[RS.go_go] at b;have D:=C.upd i c;have u:=t.trans c;have q:=b.str;rw[show(s.go []).str=[] from rfl] at q;replace i:=b;replace t:=u;clear b c u
       go_wp2_with(go_at_call 70;refine(yu i).mono ?_;rintro e U ⟨m,o,B,rfl,z,A⟩)
       exact⟨rfl,m,o,B,rfl,z,t.trans A⟩
      | cons d2 l=>
       by_cases c2:d2=95
       ·subst c2
        rw[if_neg (by simp)] at f;replace f:j5 (95::l) (k+1) ((0*16+((((48:UInt8).toNat:Int)-48)).toNat) % 18446744073709551616)=j5 s.str 0 0:=f
        go_wp2_with fail
        refine(yh i y.wf N).mono ?_;rintro e I ⟨rfl,b,c⟩;rw[RS.go_go] at b;have D:=C.upd i c;have u:=t.trans c;have q:=b.str;rw[show(s.go (95::l)).str=95::l from rfl] at q;go_wp2
        go_roundg ((95::l).length+1)
        case measure=>omega
        case rel=>exact⟨k+1,_,95::l,by go_num,rfl,⟨rfl,by omega⟩,b,H,D,u,f,by decide⟩
       ·rw[if_pos ⟨rfl,L,by simpa using c2⟩] at f
        have g:=E.out;unfold gt at g;rw[<-f] at g;obtain rfl:=Option.some.inj g;have av:((d2.toNat:Int) != 95)=true:=by simp;intro h;exact c2 (UInt8.toNat_inj.1 (by show d2.toNat=95;omega))
        clear g E X f c2
        go_wp2_with fail
        refine(yh i y.wf N).mono ?_;rintro e I ⟨rfl,b,c⟩;rw[RS.go_go] at b;have D:=C.upd i c;have u:=t.trans c;have q:=b.str;rw[show(s.go (d2::l)).str=d2::l from rfl] at q;replace i:=b;replace t:=u;clear b c u
        go_wp2_with(go_at_call 70;refine(yu i).mono ?_;rintro e U ⟨m,o,B,rfl,z,A⟩)
        exact⟨rfl,m,o,B,rfl,z,t.trans A⟩
     ·rw[if_neg (by rintro ⟨-,h,-⟩;exact L h)] at f
      have W:(((d.toNat:Int)-48) == 0)=false:=by simp;omega
      have O:=lh f;clear f
      go_wp2_with fail
      refine(yh i y.wf N).mono ?_;rintro e I ⟨rfl,b,c⟩;rw[RS.go_go] at b;have D:=C.upd i c;have u:=t.trans c;have q:=b.str;rw[show(s.go l).str=l from rfl] at q;go_wp2
      go_roundg (l.length+1)
      case measure=>omega
      case rel=>exact⟨k+1,(0*16+((d.toNat:Int)-48).toNat) % 18446744073709551616,l,by go_num,by first|(rw[kh _ _ (by omega)])|go_num,⟨rfl,by omega⟩,b,H,D,u,O.out,Nat.mod_lt _ (by omega)⟩
    ·rw[if_neg (by rintro ⟨h,-⟩;exact F h)] at f
     have Y:((v:Int) == 0)=false:=by simp;omega
     clear aa hv F;have O:=lh f;clear f
     go_wp2_with fail
     refine(yh i y.wf N).mono ?_;rintro e I ⟨rfl,b,c⟩;rw[RS.go_go] at b;have D:=C.upd i c;have u:=t.trans c;have q:=b.str;rw[show(s.go l).str=l from rfl] at q;go_wp2
     go_roundg (l.length+1)
     case measure=>omega
     case rel=>exact⟨k+1,(v*16+((d.toNat:Int)-48).toNat) % 18446744073709551616,l,by go_num,by first|(rw[kh _ _ (by omega)])|go_num,⟨rfl,by omega⟩,b,H,D,u,O.out,Nat.mod_lt _ (by omega)⟩
   ·have V:gu d.toNat=(d.toNat:Int)-97+10:=by unfold gu;rw[if_neg (by omega),if_pos ⟨r1,r2⟩]
    rw[V] at f;clear V
    by_cases F:v=0
    ·subst F
     by_cases L:(d.toNat:Int)-97+10=0
     ·omega
     ·rw[if_neg (by rintro ⟨-,h,-⟩;exact L h)] at f
      have W:(((d.toNat:Int)-97+10) == 0)=false:=by simp;omega
      have O:=lh f;clear f
      go_wp2_with fail
      refine(yh i y.wf N).mono ?_;rintro e I ⟨rfl,b,c⟩;rw[RS.go_go] at b;have D:=C.upd i c;have u:=t.trans c;have q:=b.str;rw[show(s.go l).str=l from rfl] at q;go_wp2
      go_roundg (l.length+1)
      case measure=>omega
      case rel=>exact⟨k+1,(0*16+((d.toNat:Int)-97+10).toNat) % 18446744073709551616,l,by go_num,by first|(rw[kh _ _ (by omega)])|go_num,⟨rfl,by omega⟩,b,H,D,u,O.out,Nat.mod_lt _ (by omega)⟩
    ·rw[if_neg (by rintro ⟨h,-⟩;exact F h)] at f
     have Y:((v:Int) == 0)=false:=by simp;omega
     clear aa hv F;have O:=lh f;clear f
     go_wp2_with fail
     refine(yh i y.wf N).mono ?_;rintro e I ⟨rfl,b,c⟩;rw[RS.go_go] at b;have D:=C.upd i c;have u:=t.trans c;have q:=b.str;rw[show(s.go l).str=l from rfl] at q;go_wp2
     go_roundg (l.length+1)
     case measure=>omega
     case rel=>exact⟨k+1,(v*16+((d.toNat:Int)-97+10).toNat) % 18446744073709551616,l,by go_num,by first|(rw[kh _ _ (by omega)])|go_num,⟨rfl,by omega⟩,b,H,D,u,O.out,Nat.mod_lt _ (by omega)⟩
theorem ytk {w:World}{p:Nat}{st:RS}{r:List UInt8}{x:Option (RS×Bool)}(f:RAt w p st)(i:st.Wg)(j:Env p w)(m:st.str=97::r)
  (g:(ye (if r.head? = some 110 then wS [45] (st.go r.tail) else some (some (st.go r))) fun s=>ye (gt 1 s) fun s=>some (some (s,false)))=some x) :
  Calls Tryz.prog 148 #[.pointer (some ⟨p,0,none⟩)] w fun e w'=>jj .const p w x e w':=by
 have k:=Upd.refl p w;have q:=f.str;rw[m] at q;have o:=lh m;clear m
 go_enter Tryz.func148,Tryz.ntmps148
 go_step3
 go_wp2_with fail
 refine(yh f i.wf o).mono ?_;rintro e t ⟨rfl,b,a⟩;have c:(st.go r).Wg:=i.go (by rw[o.out];simp);have d:=g;clear q o;replace j:=j.upd f a;replace k:=k.trans a;replace f:=b;replace i:=c;replace g:=d;clear b c a d
 cases r with
 | nil=>
  rw[if_neg (by simp),bindM_ok] at g;have m:_=some (Value.string ⟨#[]⟩):=f.str
  go_upto_region 33 with fail
  exact k7 f i j k g _ (by assumption)
 | cons c2 l=>
  have m:_=some (Value.string ⟨(c2::l).toArray⟩):=f.str
  by_cases n:c2=110
  ·subst n
   rw[List.head?_cons,if_pos rfl,List.tail_cons] at g
   go_wp2_with fail
   refine(yh f i.wf (show Hid ((st.go (110::l)).str=110::l) from rfl)).mono ?_;rintro e t ⟨rfl,b,a⟩;rw[RS.go_go] at b;have c:(st.go l).Wg:=(RS.go_go st (110::l) l)▸i.go (r:=l) (by show l.length<=(110::l).length;simp);have d:=g;replace j:=j.upd f a;replace k:=k.trans a;replace f:=b;replace i:=c;replace g:=d;clear b c a d
   go_wp2_with fail
   refine zt 45 f i g fun t b c a d=>?_;replace j:=j.upd f a;replace k:=k.trans a;replace f:=b;replace i:=c;replace g:=d;clear b c a d
   go_upto_region 33 with fail
   exact k7 f i j k g _ (by assumption)
  ·rw[if_neg (by simpa using n),bindM_ok] at g
   have u:((c2.toNat:Int) == 110)=false:=by simp;intro h;exact n (UInt8.toNat_inj.1 (by simp;omega))
   clear n
   go_upto_region 33 with fail
   exact k7 f i j k g _ (by assumption)
theorem yp7 {w:World}{p:Nat}{st:RS}{r:List UInt8}{x:Option (RS×Bool)}(f:RAt w p st)(i:st.Wg)(j:Env p w)(m:st.str=115::r)
  (g:(ye (if r.head? = some 110 then wS [45] (st.go r.tail) else some (some (st.go r))) fun s=>ye (gt 1 s) fun s=>some (some (s,false)))=some x) :
  Calls Tryz.prog 148 #[.pointer (some ⟨p,0,none⟩)] w fun e w'=>jj .const p w x e w':=by
 have k:=Upd.refl p w;have q:=f.str;rw[m] at q;have o:=lh m;clear m
 go_enter Tryz.func148,Tryz.ntmps148
 go_step3
 go_wp2_with fail
 refine(yh f i.wf o).mono ?_;rintro e t ⟨rfl,b,a⟩;have c:(st.go r).Wg:=i.go (by rw[o.out];simp);have d:=g;clear q o;replace j:=j.upd f a;replace k:=k.trans a;replace f:=b;replace i:=c;replace g:=d;clear b c a d
 cases r with
 | nil=>
  rw[if_neg (by simp),bindM_ok] at g;have m:_=some (Value.string ⟨#[]⟩):=f.str
  go_upto_region 33 with fail
  exact k7 f i j k g _ (by assumption)
 | cons c2 l=>
  have m:_=some (Value.string ⟨(c2::l).toArray⟩):=f.str
  by_cases n:c2=110
  ·subst n
   rw[List.head?_cons,if_pos rfl,List.tail_cons] at g
   go_wp2_with fail
   refine(yh f i.wf (show Hid ((st.go (110::l)).str=110::l) from rfl)).mono ?_;rintro e t ⟨rfl,b,a⟩;rw[RS.go_go] at b;have c:(st.go l).Wg:=(RS.go_go st (110::l) l)▸i.go (r:=l) (by show l.length<=(110::l).length;simp);have d:=g;replace j:=j.upd f a;replace k:=k.trans a;replace f:=b;replace i:=c;replace g:=d;clear b c a d
   go_wp2_with fail
   refine zt 45 f i g fun t b c a d=>?_;replace j:=j.upd f a;replace k:=k.trans a;replace f:=b;replace i:=c;replace g:=d;clear b c a d
   go_upto_region 33 with fail
   exact k7 f i j k g _ (by assumption)
  ·rw[if_neg (by simpa using n),bindM_ok] at g
   have u:((c2.toNat:Int) == 110)=false:=by simp;intro h;exact n (UInt8.toNat_inj.1 (by simp;omega))
   clear n
   go_upto_region 33 with fail
   exact k7 f i j k g _ (by assumption)
theorem yqb {w:World}{p:Nat}{st:RS}{r:List UInt8}{x:Option (RS×Bool)}(f:RAt w p st)(i:st.Wg)(j:Env p w)(m:st.str=108::r)
  (g:(ye (if r.head? = some 110 then wS [45] (st.go r.tail) else some (some (st.go r))) fun s=>ye (gt 1 s) fun s=>some (some (s,false)))=some x) :
  Calls Tryz.prog 148 #[.pointer (some ⟨p,0,none⟩)] w fun e w'=>jj .const p w x e w':=by
 have k:=Upd.refl p w;have q:=f.str;rw[m] at q;have o:=lh m;clear m
 go_enter Tryz.func148,Tryz.ntmps148
 go_step3
 go_wp2_with fail
 refine(yh f i.wf o).mono ?_;rintro e t ⟨rfl,b,a⟩;have c:(st.go r).Wg:=i.go (by rw[o.out];simp);have d:=g;clear q o;replace j:=j.upd f a;replace k:=k.trans a;replace f:=b;replace i:=c;replace g:=d;clear b c a d
 cases r with
 | nil=>
  rw[if_neg (by simp),bindM_ok] at g;have m:_=some (Value.string ⟨#[]⟩):=f.str
  go_upto_region 33 with fail
  exact k7 f i j k g _ (by assumption)
 | cons c2 l=>
  have m:_=some (Value.string ⟨(c2::l).toArray⟩):=f.str
  by_cases n:c2=110
  ·subst n
   rw[List.head?_cons,if_pos rfl,List.tail_cons] at g
   go_wp2_with fail
   refine(yh f i.wf (show Hid ((st.go (110::l)).str=110::l) from rfl)).mono ?_;rintro e t ⟨rfl,b,a⟩;rw[RS.go_go] at b;have c:(st.go l).Wg:=(RS.go_go st (110::l) l)▸i.go (r:=l) (by show l.length<=(110::l).length;simp);have d:=g;replace j:=j.upd f a;replace k:=k.trans a;replace f:=b;replace i:=c;replace g:=d;clear b c a d
   go_wp2_with fail
   refine zt 45 f i g fun t b c a d=>?_;replace j:=j.upd f a;replace k:=k.trans a;replace f:=b;replace i:=c;replace g:=d;clear b c a d
   go_upto_region 33 with fail
   exact k7 f i j k g _ (by assumption)
  ·rw[if_neg (by simpa using n),bindM_ok] at g
   have u:((c2.toNat:Int) == 110)=false:=by simp;intro h;exact n (UInt8.toNat_inj.1 (by simp;omega))
   clear n
   go_upto_region 33 with fail
   exact k7 f i j k g _ (by assumption)
theorem yp5 {w:World}{p:Nat}{st:RS}{r:List UInt8}{x:Option (RS×Bool)}(f:RAt w p st)(i:st.Wg)(j:Env p w)(m:st.str=120::r)
  (g:(ye (if r.head? = some 110 then wS [45] (st.go r.tail) else some (some (st.go r))) fun s=>ye (gt 1 s) fun s=>some (some (s,false)))=some x) :
  Calls Tryz.prog 148 #[.pointer (some ⟨p,0,none⟩)] w fun e w'=>jj .const p w x e w':=by
 have k:=Upd.refl p w;have q:=f.str;rw[m] at q;have o:=lh m;clear m
 go_enter Tryz.func148,Tryz.ntmps148
 go_step3
 go_wp2_with fail
 refine(yh f i.wf o).mono ?_;rintro e t ⟨rfl,b,a⟩;have c:(st.go r).Wg:=i.go (by rw[o.out];simp);have d:=g;clear q o;replace j:=j.upd f a;replace k:=k.trans a;replace f:=b;replace i:=c;replace g:=d;clear b c a d
 cases r with
 | nil=>
  rw[if_neg (by simp),bindM_ok] at g;have m:_=some (Value.string ⟨#[]⟩):=f.str
  go_upto_region 33 with fail
  exact k7 f i j k g _ (by assumption)
 | cons c2 l=>
  have m:_=some (Value.string ⟨(c2::l).toArray⟩):=f.str
  by_cases n:c2=110
  ·subst n
   rw[List.head?_cons,if_pos rfl,List.tail_cons] at g
   go_wp2_with fail
   refine(yh f i.wf (show Hid ((st.go (110::l)).str=110::l) from rfl)).mono ?_;rintro e t ⟨rfl,b,a⟩;rw[RS.go_go] at b;have c:(st.go l).Wg:=(RS.go_go st (110::l) l)▸i.go (r:=l) (by show l.length<=(110::l).length;simp);have d:=g;replace j:=j.upd f a;replace k:=k.trans a;replace f:=b;replace i:=c;replace g:=d;clear b c a d
   go_wp2_with fail
   refine zt 45 f i g fun t b c a d=>?_;replace j:=j.upd f a;replace k:=k.trans a;replace f:=b;replace i:=c;replace g:=d;clear b c a d
   go_upto_region 33 with fail
   exact k7 f i j k g _ (by assumption)
  ·rw[if_neg (by simpa using n),bindM_ok] at g
   have u:((c2.toNat:Int) == 110)=false:=by simp;intro h;exact n (UInt8.toNat_inj.1 (by simp;omega))
   clear n
   go_upto_region 33 with fail
   exact k7 f i j k g _ (by assumption)
theorem yp9 {w:World}{p:Nat}{st:RS}{r:List UInt8}{x:Option (RS×Bool)}(f:RAt w p st)(i:st.Wg)(j:Env p w)(m:st.str=110::r)
  (g:(ye (if r.head? = some 110 then wS [45] (st.go r.tail) else some (some (st.go r))) fun s=>ye (gt 1 s) fun s=>some (some (s,false)))=some x) :
  Calls Tryz.prog 148 #[.pointer (some ⟨p,0,none⟩)] w fun e w'=>jj .const p w x e w':=by
 have k:=Upd.refl p w;have q:=f.str;rw[m] at q;have o:=lh m;clear m
 go_enter Tryz.func148,Tryz.ntmps148
 go_step3
 go_wp2_with fail
 refine(yh f i.wf o).mono ?_;rintro e t ⟨rfl,b,a⟩;have c:(st.go r).Wg:=i.go (by rw[o.out];simp);have d:=g;clear q o;replace j:=j.upd f a;replace k:=k.trans a;replace f:=b;replace i:=c;replace g:=d;clear b c a d
 cases r with
 | nil=>
  rw[if_neg (by simp),bindM_ok] at g;have m:_=some (Value.string ⟨#[]⟩):=f.str
  go_upto_region 33 with fail
  exact k7 f i j k g _ (by assumption)
 | cons c2 l=>
  have m:_=some (Value.string ⟨(c2::l).toArray⟩):=f.str
  by_cases n:c2=110
  ·subst n
   rw[List.head?_cons,if_pos rfl,List.tail_cons] at g
   go_wp2_with fail
   refine(yh f i.wf (show Hid ((st.go (110::l)).str=110::l) from rfl)).mono ?_;rintro e t ⟨rfl,b,a⟩;rw[RS.go_go] at b;have c:(st.go l).Wg:=(RS.go_go st (110::l) l)▸i.go (r:=l) (by show l.length<=(110::l).length;simp);have d:=g;replace j:=j.upd f a;replace k:=k.trans a;replace f:=b;replace i:=c;replace g:=d;clear b c a d
   go_wp2_with fail
   refine zt 45 f i g fun t b c a d=>?_;replace j:=j.upd f a;replace k:=k.trans a;replace f:=b;replace i:=c;replace g:=d;clear b c a d
   go_upto_region 33 with fail
   exact k7 f i j k g _ (by assumption)
  ·rw[if_neg (by simpa using n),bindM_ok] at g
   have u:((c2.toNat:Int) == 110)=false:=by simp;intro h;exact n (UInt8.toNat_inj.1 (by simp;omega))
   clear n
   go_upto_region 33 with fail
   exact k7 f i j k g _ (by assumption)
theorem yqd {w:World}{p:Nat}{st:RS}{r:List UInt8}{x:Option (RS×Bool)}(f:RAt w p st)(i:st.Wg)(j:Env p w)(m:st.str=105::r)
  (g:(ye (if r.head? = some 110 then wS [45] (st.go r.tail) else some (some (st.go r))) fun s=>ye (gt 1 s) fun s=>some (some (s,false)))=some x) :
  Calls Tryz.prog 148 #[.pointer (some ⟨p,0,none⟩)] w fun e w'=>jj .const p w x e w':=by
 have k:=Upd.refl p w;have q:=f.str;rw[m] at q;have o:=lh m;clear m
 go_enter Tryz.func148,Tryz.ntmps148
 go_step3
 go_wp2_with fail
 refine(yh f i.wf o).mono ?_;rintro e t ⟨rfl,b,a⟩;have c:(st.go r).Wg:=i.go (by rw[o.out];simp);have d:=g;clear q o;replace j:=j.upd f a;replace k:=k.trans a;replace f:=b;replace i:=c;replace g:=d;clear b c a d
 cases r with
 | nil=>
  rw[if_neg (by simp),bindM_ok] at g;have m:_=some (Value.string ⟨#[]⟩):=f.str
  go_upto_region 33 with fail
  exact k7 f i j k g _ (by assumption)
 | cons c2 l=>
  have m:_=some (Value.string ⟨(c2::l).toArray⟩):=f.str
  by_cases n:c2=110
  ·subst n
   rw[List.head?_cons,if_pos rfl,List.tail_cons] at g
   go_wp2_with fail
   refine(yh f i.wf (show Hid ((st.go (110::l)).str=110::l) from rfl)).mono ?_;rintro e t ⟨rfl,b,a⟩;rw[RS.go_go] at b;have c:(st.go l).Wg:=(RS.go_go st (110::l) l)▸i.go (r:=l) (by show l.length<=(110::l).length;simp);have d:=g;replace j:=j.upd f a;replace k:=k.trans a;replace f:=b;replace i:=c;replace g:=d;clear b c a d
   go_wp2_with fail
   refine zt 45 f i g fun t b c a d=>?_;replace j:=j.upd f a;replace k:=k.trans a;replace f:=b;replace i:=c;replace g:=d;clear b c a d
   go_upto_region 33 with fail
   exact k7 f i j k g _ (by assumption)
  ·rw[if_neg (by simpa using n),bindM_ok] at g
   have u:((c2.toNat:Int) == 110)=false:=by simp;intro h;exact n (UInt8.toNat_inj.1 (by simp;omega))
   clear n
   go_upto_region 33 with fail
   exact k7 f i j k g _ (by assumption)
theorem yqe {w:World}{p:Nat}{st:RS}{r:List UInt8}{x:Option (RS×Bool)}(b:RAt w p st)(g:st.Wg)(j:Env p w)(l:st.str=104::r)
  (h:(ye (some (some (st.go r))) fun s=>ye (gt 2 s) fun s=>some (some (s,false)))=some x) :
  Calls Tryz.prog 148 #[.pointer (some ⟨p,0,none⟩)] w fun e w'=>jj .const p w x e w':=by
 have k:=Upd.refl p w;have m:=b.str;rw[l] at m;have i:=lh l;clear l
 go_enter Tryz.func148,Tryz.ntmps148
 go_step3
 go_wp2_with fail
 refine(yh b g.wf i).mono ?_;rintro e n ⟨rfl,c,a⟩;have d:(st.go r).Wg:=g.go (by rw[i.out];simp);have f:=h;clear m i;replace j:=j.upd b a;replace k:=k.trans a;replace b:=c;replace g:=d;replace h:=f;clear c d a f;rw[bindM_ok] at h
 go_upto_region 33 with fail
 exact yd8 b g j k h _ (by assumption)
theorem yp6 {w:World}{p:Nat}{st:RS}{r:List UInt8}{x:Option (RS×Bool)}(b:RAt w p st)(g:st.Wg)(j:Env p w)(l:st.str=116::r)
  (h:(ye (some (some (st.go r))) fun s=>ye (gt 2 s) fun s=>some (some (s,false)))=some x) :
  Calls Tryz.prog 148 #[.pointer (some ⟨p,0,none⟩)] w fun e w'=>jj .const p w x e w':=by
 have k:=Upd.refl p w;have m:=b.str;rw[l] at m;have i:=lh l;clear l
 go_enter Tryz.func148,Tryz.ntmps148
 go_step3
 go_wp2_with fail
 refine(yh b g.wf i).mono ?_;rintro e n ⟨rfl,c,a⟩;have d:(st.go r).Wg:=g.go (by rw[i.out];simp);have f:=h;clear m i;replace j:=j.upd b a;replace k:=k.trans a;replace b:=c;replace g:=d;replace h:=f;clear c d a f;rw[bindM_ok] at h
 go_upto_region 33 with fail
 exact yd8 b g j k h _ (by assumption)
theorem yqa {w:World}{p:Nat}{st:RS}{r:List UInt8}{x:Option (RS×Bool)}(b:RAt w p st)(g:st.Wg)(j:Env p w)(l:st.str=109::r)
  (h:(ye (some (some (st.go r))) fun s=>ye (gt 2 s) fun s=>some (some (s,false)))=some x) :
  Calls Tryz.prog 148 #[.pointer (some ⟨p,0,none⟩)] w fun e w'=>jj .const p w x e w':=by
 have k:=Upd.refl p w;have m:=b.str;rw[l] at m;have i:=lh l;clear l
 go_enter Tryz.func148,Tryz.ntmps148
 go_step3
 go_wp2_with fail
 refine(yh b g.wf i).mono ?_;rintro e n ⟨rfl,c,a⟩;have d:(st.go r).Wg:=g.go (by rw[i.out];simp);have f:=h;clear m i;replace j:=j.upd b a;replace k:=k.trans a;replace b:=c;replace g:=d;replace h:=f;clear c d a f;rw[bindM_ok] at h
 go_upto_region 33 with fail
 exact yd8 b g j k h _ (by assumption)
theorem yp4 {w:World}{p:Nat}{st:RS}{r:List UInt8}{x:Option (RS×Bool)}(b:RAt w p st)(g:st.Wg)(j:Env p w)(l:st.str=121::r)
  (h:(ye (some (some (st.go r))) fun s=>ye (gt 2 s) fun s=>some (some (s,false)))=some x) :
  Calls Tryz.prog 148 #[.pointer (some ⟨p,0,none⟩)] w fun e w'=>jj .const p w x e w':=by
 have k:=Upd.refl p w;have m:=b.str;rw[l] at m;have i:=lh l;clear l
 go_enter Tryz.func148,Tryz.ntmps148
 go_step3
 go_wp2_with fail
 refine(yh b g.wf i).mono ?_;rintro e n ⟨rfl,c,a⟩;have d:(st.go r).Wg:=g.go (by rw[i.out];simp);have f:=h;clear m i;replace j:=j.upd b a;replace k:=k.trans a;replace b:=c;replace g:=d;replace h:=f;clear c d a f;rw[bindM_ok] at h
 go_upto_region 33 with fail
 exact yd8 b g j k h _ (by assumption)
theorem yp8 {w:World}{p:Nat}{st:RS}{r:List UInt8}{x:Option (RS×Bool)}(b:RAt w p st)(g:st.Wg)(j:Env p w)(l:st.str=111::r)
  (h:(ye (some (some (st.go r))) fun s=>ye (gt 2 s) fun s=>some (some (s,false)))=some x) :
  Calls Tryz.prog 148 #[.pointer (some ⟨p,0,none⟩)] w fun e w'=>jj .const p w x e w':=by
 have k:=Upd.refl p w;have m:=b.str;rw[l] at m;have i:=lh l;clear l
 go_enter Tryz.func148,Tryz.ntmps148
 go_step3
 go_wp2_with fail
 refine(yh b g.wf i).mono ?_;rintro e n ⟨rfl,c,a⟩;have d:(st.go r).Wg:=g.go (by rw[i.out];simp);have f:=h;clear m i;replace j:=j.upd b a;replace k:=k.trans a;replace b:=c;replace g:=d;replace h:=f;clear c d a f;rw[bindM_ok] at h
 go_upto_region 33 with fail
 exact yd8 b g j k h _ (by assumption)
theorem yqc {w:World}{p:Nat}{st:RS}{r:List UInt8}{x:Option (RS×Bool)}(b:RAt w p st)(g:st.Wg)(j:Env p w)(l:st.str=106::r)
  (h:(ye (some (some (st.go r))) fun s=>ye (gt 2 s) fun s=>some (some (s,false)))=some x) :
  Calls Tryz.prog 148 #[.pointer (some ⟨p,0,none⟩)] w fun e w'=>jj .const p w x e w':=by
 have k:=Upd.refl p w;have m:=b.str;rw[l] at m;have i:=lh l;clear l
 go_enter Tryz.func148,Tryz.ntmps148
 go_step3
 go_wp2_with fail
 refine(yh b g.wf i).mono ?_;rintro e n ⟨rfl,c,a⟩;have d:(st.go r).Wg:=g.go (by rw[i.out];simp);have f:=h;clear m i;replace j:=j.upd b a;replace k:=k.trans a;replace b:=c;replace g:=d;replace h:=f;clear c d a f;rw[bindM_ok] at h
 go_upto_region 33 with fail
 exact yd8 b g j k h _ (by assumption)
theorem ytj {w:World}{p:Nat}{st:RS}{r:List UInt8}{x:Option (RS×Bool)}(b:RAt w p st)(g:st.Wg)(j:Env p w)(l:st.str=98::r)
  (h:(ye (some (some (st.go r))) fun s=>ye (gt 3 s) fun s=>some (some (s,false)))=some x) :
  Calls Tryz.prog 148 #[.pointer (some ⟨p,0,none⟩)] w fun e w'=>jj .const p w x e w':=by
 have k:=Upd.refl p w;have m:=b.str;rw[l] at m;have i:=lh l;clear l
 go_enter Tryz.func148,Tryz.ntmps148
 go_step3
 go_wp2_with fail
 refine(yh b g.wf i).mono ?_;rintro e n ⟨rfl,c,a⟩;have d:(st.go r).Wg:=g.go (by rw[i.out];simp);have f:=h;clear m i;replace j:=j.upd b a;replace k:=k.trans a;replace b:=c;replace g:=d;replace h:=f;clear c d a f;rw[bindM_ok] at h
 go_upto_region 33 with fail
 exact yvz b g j k h _ (by assumption)
theorem yti {w:World}{p:Nat}{st:RS}{r:List UInt8}{x:Option (RS×Bool)}(b:RAt w p st)(g:st.Wg)(j:Env p w)(l:st.str=99::r)
  (h:(ye (some (some (st.go r))) fun s=>ye (gt 4 s) fun s=>some (some (s,false)))=some x) :
  Calls Tryz.prog 148 #[.pointer (some ⟨p,0,none⟩)] w fun e w'=>jj .const p w x e w':=by
 have k:=Upd.refl p w;have m:=b.str;rw[l] at m;have i:=lh l;clear l
 go_enter Tryz.func148,Tryz.ntmps148
 go_step3
 go_wp2_with fail
 refine(yh b g.wf i).mono ?_;rintro e n ⟨rfl,c,a⟩;have d:(st.go r).Wg:=g.go (by rw[i.out];simp);have f:=h;clear m i;replace j:=j.upd b a;replace k:=k.trans a;replace b:=c;replace g:=d;replace h:=f;clear c d a f;rw[bindM_ok] at h
 go_upto_region 33 with fail
 exact yvy b g j k h _ (by assumption)
theorem yv3 {w:World}{p:Nat}{st:RS}{c:UInt8}{r:List UInt8}(O:RAt w p st)(P:st.str=c::r)(t:c≠66)(k:c≠112)(u:c≠97)(l:c≠115)(f:c≠108)(q:c≠120)(i:c≠110)(b:c≠105)(a:c≠104)(n:c≠116)(g:c≠109)(s:c≠121)(j:c≠111)(d:c≠106)(v:c≠98)(x:c≠99) :
  Calls Tryz.prog 148 #[.pointer (some ⟨p,0,none⟩)] w fun e w'=>va p w e w':=by
 have A:=O.str;rw[P] at A;clear P;have Q:((c.toNat:Int) == 66)=false:=by simp;intro h;exact t (UInt8.toNat_inj.1 (by simp;omega))
 clear t;have J:((c.toNat:Int) == 112)=false:=by simp;intro h;exact k (UInt8.toNat_inj.1 (by simp;omega))
 clear k;have R:((c.toNat:Int) == 97)=false:=by simp;intro h;exact u (UInt8.toNat_inj.1 (by simp;omega))
 clear u;have K:((c.toNat:Int) == 115)=false:=by simp;intro h;exact l (UInt8.toNat_inj.1 (by simp;omega))
 clear l;have F:((c.toNat:Int) == 108)=false:=by simp;intro h;exact f (UInt8.toNat_inj.1 (by simp;omega))
 clear f;have M:((c.toNat:Int) == 120)=false:=by simp;intro h;exact q (UInt8.toNat_inj.1 (by simp;omega))
 clear q;have H:((c.toNat:Int) == 110)=false:=by simp;intro h;exact i (UInt8.toNat_inj.1 (by simp;omega))
 clear i;have D:((c.toNat:Int) == 105)=false:=by simp;intro h;exact b (UInt8.toNat_inj.1 (by simp;omega))
 clear b;have C:((c.toNat:Int) == 104)=false:=by simp;intro h;exact a (UInt8.toNat_inj.1 (by simp;omega))
 clear a;have L:((c.toNat:Int) == 116)=false:=by simp;intro h;exact n (UInt8.toNat_inj.1 (by simp;omega))
 clear n;have G:((c.toNat:Int) == 109)=false:=by simp;intro h;exact g (UInt8.toNat_inj.1 (by simp;omega))
 clear g;have N:((c.toNat:Int) == 121)=false:=by simp;intro h;exact s (UInt8.toNat_inj.1 (by simp;omega))
 clear s;have I:((c.toNat:Int) == 111)=false:=by simp;intro h;exact j (UInt8.toNat_inj.1 (by simp;omega))
 clear j;have E:((c.toNat:Int) == 106)=false:=by simp;intro h;exact d (UInt8.toNat_inj.1 (by simp;omega))
 clear d;have S:((c.toNat:Int) == 98)=false:=by simp;intro h;exact v (UInt8.toNat_inj.1 (by simp;omega))
 clear v;have T:((c.toNat:Int) == 99)=false:=by simp;intro h;exact x (UInt8.toNat_inj.1 (by simp;omega))
 clear x
 go_enter Tryz.func148,Tryz.ntmps148
 go_step3
 go_wp2_with(go_at_call 70;refine(yu O).mono ?_;rintro e U ⟨m,o,B,rfl,y,z⟩)
 exact⟨rfl,m,o,B,rfl,y,z⟩
theorem yp3 {rec:Rec}(H:yy rec)(hO:z7 rec){w:World}{p:Nat}{st:RS}{x:Option (RS×Bool)}(d:RAt w p st)(g:st.Wg)(f:Env p w)(a:ybv rec st=some x) :
  Calls Tryz.prog 148 #[.pointer (some ⟨p,0,none⟩)] w fun e w'=>jj .const p w x e w':=by
 unfold ybv at a
 cases b:st.str with
 | nil=>rw[b] at a;obtain rfl:=Option.some.inj a;exact yv5 d b
 | cons c r=>
  rw[b] at a;simp only at a
  by_cases hB:c=66
  ·subst hB;rw[if_pos rfl] at a;exact yv4 H hO d g f b a
  rw[if_neg hB] at a
  by_cases j:c=112
  ·subst j;rw[if_pos rfl] at a;exact yv1 d g f b a
  rw[if_neg j] at a
  by_cases i:xt c=0
  ·rw[if_pos i] at a
   obtain rfl:=Option.some.inj a;have h:=yy1 i;exact yv3 d b hB j (h 97 (by decide)) (h 115 (by decide)) (h 108 (by decide)) (h 120 (by decide)) (h 110 (by decide)) (h 105 (by decide)) (h 104 (by decide)) (h 116 (by decide)) (h 109 (by decide)) (h 121 (by decide)) (h 111 (by decide)) (h 106 (by decide)) (h 98 (by decide)) (h 99 (by decide))
  rw[if_neg i] at a;obtain⟨n,k,rfl⟩:=yy0 i;simp only[List.mem_cons,List.not_mem_nil,or_false] at k;rw[asU,yp] at a
  rcases k with rfl|rfl|rfl|rfl|rfl|rfl|rfl|rfl|rfl|rfl|rfl|rfl|rfl|rfl
  ·rw[show xt (UInt8.ofNat 97)=1 from rfl] at a
   simp only[true_and] at a;exact ytk d g f b a
  ·rw[show xt (UInt8.ofNat 115)=1 from rfl] at a
   simp only[true_and] at a;exact yp7 d g f b a
  ·rw[show xt (UInt8.ofNat 108)=1 from rfl] at a
   simp only[true_and] at a;exact yqb d g f b a
  ·rw[show xt (UInt8.ofNat 120)=1 from rfl] at a
   simp only[true_and] at a;exact yp5 d g f b a
  ·rw[show xt (UInt8.ofNat 110)=1 from rfl] at a
   simp only[true_and] at a;exact yp9 d g f b a
  ·rw[show xt (UInt8.ofNat 105)=1 from rfl] at a
   simp only[true_and] at a;exact yqd d g f b a
  ·rw[show xt (UInt8.ofNat 104)=2 from rfl] at a
   rw[if_neg (by omega),bindM_ok] at a;exact yqe d g f b a
  ·rw[show xt (UInt8.ofNat 116)=2 from rfl] at a
   rw[if_neg (by omega),bindM_ok] at a;exact yp6 d g f b a
  ·rw[show xt (UInt8.ofNat 109)=2 from rfl] at a
   rw[if_neg (by omega),bindM_ok] at a;exact yqa d g f b a
  ·rw[show xt (UInt8.ofNat 121)=2 from rfl] at a
   rw[if_neg (by omega),bindM_ok] at a;exact yp4 d g f b a
  ·rw[show xt (UInt8.ofNat 111)=2 from rfl] at a
   rw[if_neg (by omega),bindM_ok] at a;exact yp8 d g f b a
  ·rw[show xt (UInt8.ofNat 106)=2 from rfl] at a
   rw[if_neg (by omega),bindM_ok] at a;exact yqc d g f b a
  ·rw[show xt (UInt8.ofNat 98)=3 from rfl] at a
   rw[if_neg (by omega),bindM_ok] at a;exact ytj d g f b a
  ·rw[show xt (UInt8.ofNat 99)=4 from rfl] at a
   rw[if_neg (by omega),bindM_ok] at a;exact yti d g f b a
def Pr {α:Type}(P:α->Prop)(x:Option (Option α)):Prop:=∀ a,x=some (some a)->P a
theorem gi {α:Type}{P:α->Prop} : Pr P none:=fun _ h=>by cases h
theorem qd {α:Type}{P:α->Prop} : Pr P (some none):=fun _ h=>by cases h
theorem jx {α:Type}{P:α->Prop}{a:α}(h:P a):Pr P (some (some a)):=fun b hb=>by cases hb;exact h
theorem yq {α β:Type}{P:α->Prop}{Q:β->Prop}{x:Option (Option α)}{f:α->Option (Option β)}(h:Pr P x)(k:∀ a,P a->Pr Q (f a)):Pr Q (ye x f):=by
 rcases x with _|_|a
 ·exact gi
 ·exact qd
 ·exact k a (h a rfl)
theorem yap {α:Type}{P:α->Prop}{c:Prop} [Decidable c] {a b:Option (Option α)} (h:Pr P a) (k:Pr P b):Pr P (if c then a else b):=by
 split
 ·exact h
 ·exact k
def Oo (o:List UInt8)(s:RS):Prop:=s.orig=o
def Oz {β:Type}(o:List UInt8)(z:RS×β):Prop:=z.1.orig=o
theorem jm {o:List UInt8}{t:List UInt8}{st:RS}(h:Oo o st):Pr (Oo o) (wS t st):=by
 unfold wS
 split
 ·exact jx (show(st.wr t).orig=o from(yjs st t).trans h)
 ·exact gi
theorem yro {o:List UInt8}{t:List UInt8}{l:Int}{st:RS}(h:Oo o st):Pr (Oo o) (yk6 t l st):=by
 unfold yk6
 split
 ·exact jx h
 ·split
  ·exact jx h
  ·exact gi
theorem yje {o:List UInt8}{c:UInt8}{st:RS}(h:Oo o st):Pr (Oo o) (yb0 c st):=by
 unfold yb0
 split
 ·exact qd
 ·split
  ·exact jx h
  ·exact qd
theorem yj7 {o:List UInt8}{b:Int}{st:RS}(h:Oo o st):Pr (Oo o) (yb3 b st):=by
 unfold yb3
 split
 ·exact gi
 ·refine yq (jm h) fun s a=>?_
  repeat' first|split|exact jm a|exact qd|exact gi
theorem yhv {o:List UInt8} : ∀ (k:Nat) (f:Bool) (st:RS),Oo o st->Pr (Oo o) (yaj k f st)
 | 0,_,_,h=>jx h
 | k+1,f,st,h=>by
  unfold yaj;refine yq (P:=Oo o) ?_ fun s a=>yq (yj7 (show Oo o { s with life:=s.life+1 } from a)) fun s a=>yhv k false s a
  split
  ·exact jx h
  ·exact jm h
theorem yme {o:List UInt8}{st:RS}(h:Oo o st):Pr (Oo o) (yay st):=by
 unfold yay
 split
 ·exact jx h
 ·split
  ·split
   ·exact qd
   ·split
    ·exact gi
    ·split
     ·exact qd
     ·rename_i b _ _ _
      exact yq (jm (show Oo o (st.go b) from h)) fun s a=>yq (yhv _ _ _ a) fun s a=>jm a
  ·exact jx h
theorem yv8 {o:List UInt8}{st:RS}(h:Oo o st):Pr (Oo o) (yev st):=by
 unfold yev
 split
 ·exact qd
 ·split
  ·exact qd
  ·exact jm h
theorem ycs {o:List UInt8}{x:Option (Option RS)}(h:Pr (Oo o) x):Pr (Oz o) (asU x):=yq h fun s a=>jx a
section
variable {rec:Rec} (hO:z7 rec) {o:List UInt8}
include hO
theorem xh {k:Kd}{st:RS}(h:Oo o st):Pr (Oz o) (rec k st):=fun z a=>(hO k st z a).trans h
theorem yot {k:Kd}{st:RS}(h:Oo o st):Pr (Oo o) (ye (rec k st) fun z=>some (some z.1)):=yq (xh hO h) fun z a=>jx a
theorem yko {k:Kd}{st:RS}(h:Oo o st):Pr (Oz o) (yal rec k st):=by
 unfold yal;refine yq (yje h) fun s a=>?_
 split
 ·exact qd
 ·unfold ykp
  split
  ·exact jx a
  ·split
   ·exact jx a
   ·split
    ·exact qd
    ·exact yq (xh hO (show Oo o _ from a)) fun z b=>jx b
theorem yv2 {st:RS}(h:Oo o st):Pr (Oz o) (ybv rec st):=by
 unfold ybv
 split
 ·exact qd
 ·rename_i c r _
  split
  ·exact yko hO h
  ·split
   ·exact ycs (jm h)
   ·split
    ·exact qd
    ·refine ycs (yq (P:=Oo o) ?_ fun s d=>?_)
     ·split
      ·exact jm h
      ·exact jx h
     ·unfold gt
      split
      ·exact qd
      ·rename_i k v rest _
       have a:Oo o (s.go rest):=d;generalize s.go rest=f at *;unfold yji yjh yll
       repeat' first
        | split
        | exact qd
        | exact gi
        | exact jm a
        | exact yro a
        | (refine yq (jm a) fun g e=>yq (P:=Oo o) ?_ fun i b=>jm b)
        | exact jm (by assumption)
theorem ysq {st:RS}(h:Oo o st):Pr (Oo o) (yee rec st):=by
 unfold yee
 split
 ·exact qd
 ·exact yq (xh hO (show Oo o _ from h)) fun z a=>jx a
theorem ysv {st:RS}(h:Oo o st):Pr (Oo o) (yb7 rec st):=by
 unfold yb7
 split
 ·exact qd
 ·split
  ·split
   ·exact qd
   ·exact yj7 h
  ·split
   ·exact yot hO h
   ·exact yot hO h
omit hO in
theorem yg6 {item:RS->Option (Option RS)}(hi:∀ s,Oo o s->Pr (Oo o) (item s)){sep:List UInt8} : ∀ (m k:Nat) (st:RS),Oo o st->Pr (Oz o) (xy item sep m k st)
 | 0,_,_,_=>gi
 | m+1,k,st,h=>by
  unfold xy
  split
  ·exact jx h
  ·refine yq (P:=Oo o) ?_ fun s a=>yq (hi s a) fun s a=>yg6 hi m (k+1) s a
   split
   ·exact jx h
   ·exact jm h
theorem yos {st:RS}(h:Oo o st):Pr (Oo o) (ycd rec st):=by
 unfold ycd
 split
 ·exact yq (yg6 (fun s a=>ysv hO a) _ _ _ (show Oo o _ from h)) fun z b=>jx b
 ·exact yq (yg6 (fun s a=>ysv hO a) _ _ _ h) fun z b=>jx b
theorem yn9 {st:RS}(h:Oo o st):Pr (Oz o) (ycu rec st):=yg6 (fun s a=>yot hO a) _ _ _ h
omit hO in
theorem abi_o {st:RS}(h:Oo o st):Pr (Oo o) (yml st):=by
 unfold yml
 split
 ·split
  ·exact jm h
  ·refine yq (jm h) fun s a=>?_
   split
   ·exact gi
   ·exact qd
   ·split
    ·exact qd
    ·exact yq (jm a) fun s a=>jm a
 ·exact jx h
theorem fn_o {st:RS}(h:Oo o st):Pr (Oo o) (fnM rec st):=by
 unfold fnM;refine yq (yme h) fun s a=>yq (P:=Oo o) ?_ fun s a=>yq (abi_o a) fun s a=>yq (jm a) fun s a=>yq (yn9 hO a) fun z b=>yq (yje b) fun s a=>yq (jm a) fun s a=>?_
 ·split
  ·exact jm a
  ·exact jx a
 ·split
  ·exact jx a
  ·exact yq (jm a) fun s a=>yot hO a
theorem yo1:∀ (m:Nat)(b:Bool)(st:RS),Oo o st->Pr (Oz o) (xu rec m b st)
 | 0,_,_,_=>gi
 | m+1,b,st,h=>by
  unfold xu
  split
  ·refine yq (P:=Oo o) ?_ fun s a=>?_
   ·split
    ·exact jm h
    ·exact jm h
   ·split
    ·exact gi
    ·exact qd
    ·exact yq (jm a) fun s a=>yq (jm a) fun s a=>yq (xh hO a) fun z c=>yo1 m true z.1 c
  ·exact jx h
theorem ynk {st:RS}(h:Oo o st):Pr (Oo o) (xd rec st):=by
 unfold xd;refine yq (xh hO h) fun y b=>yq (yo1 hO _ _ _ b) fun z a=>?_
 split
 ·exact jm a
 ·exact jx a
theorem dyn_o {st:RS}(h:Oo o st):Pr (Oo o) (ylz rec st):=by
 unfold ylz;exact yq (jm h) fun s a=>yq (yme a) fun s a=>yq (yg6 (fun s a=>ynk hO a) _ _ _ a) fun z b=>yje b
theorem yxs {st:RS}(h:Oo o st):Pr (Oz o) (yg1 rec st):=by
 unfold yg1
 split
 ·exact qd
 ·split
  ·exact yq (xh hO (show Oo o _ from h)) fun z b=>yq (jm b) fun s a=>yq (yos hO a) fun s a=>yq (yje a) fun s a=>jx a
  ·split
   ·exact yko hO h
   ·exact yq (xh hO h) fun z b=>jx b
omit hO in
theorem yx6 {b:UInt8}{d:Int}{t:List UInt8}{st:RS}(h:Oo o st):Pr (Oo o) (yck b d t st):=by
 unfold yck
 split
 ·exact yq (jm h) fun s a=>jm a
 ·refine yq (jm h) fun s a=>yq (P:=Oo o) ?_ fun s a=>yq (P:=Oo o) ?_ fun s a=>?_
  ·repeat' first|split|exact jm a|exact gi
  ·split
   ·exact jx a
   ·exact yq (jm a) fun s a=>jm a
  ·split
   ·exact gi
   ·exact yro a
theorem yxx {b:Bool}{st:RS}(h:Oo o st):Pr (Oz o) (xi rec b st):=by
 unfold xi
 split
 ·exact qd
 ·rename_i c r _
  split
  ·split
   ·exact gi
   ·exact qd
   ·exact ycs (jm h)
  ·split
   ·exact yq (ysq hO (show Oo o _ from h)) fun s a=>yq (jm a) fun s a=>yq (xh hO a) fun z d=>ycs (jm d)
   ·split
    ·exact yq (ysq hO (show Oo o _ from h)) fun s a=>yq (jm a) fun s a=>yq (xh hO a) fun z d=>yq (jm d) fun s a=>yq (xh hO a) fun z d=>ycs (jm d)
    ·split
     ·exact yq (jm h) fun s a=>yq (xh hO a) fun z d=>yq (jm d) fun s a=>yq (xh hO a) fun z d=>ycs (jm d)
     ·split
      ·split
       ·exact qd
       ·split
        ·exact qd
        ·refine yq (xh hO (show Oo o _ from h)) fun z d=>?_
         split
         ·exact gi
         ·exact qd
         ·exact ycs (yx6 d)
      ·split
       ·refine yq (xh hO (show Oo o _ from h)) fun z d=>yq (P:=Oo o) ?_ fun s a=>yq (jm a) fun s a=>yq (yos hO a) fun s a=>yq (jm a) fun s a=>ycs (yje a)
        split
        ·exact jm d
        ·exact jx d
       ·split
        ·exact yko hO h
        ·exact qd
theorem ywi {b:Bool}{st:RS}(h:Oo o st):Pr (Oz o) (yih rec b st):=by
 unfold yih;refine yq (jm h) fun s a=>yq (P:=Oo o) ?_ fun s a=>yq (P:=Oo o) ?_ fun s a=>xh hO a
 ·split
  ·split
   ·exact qd
   ·split
    ·exact gi
    ·split
     ·exact jx a
     ·exact yq (yj7 a) fun s a=>jm a
  ·exact jx a
 ·split
  ·exact jm a
  ·exact jx a
omit hO in
theorem ys9 {st:RS}(h:Oo o st):Pr (Oo o) (yc4 st):=by
 unfold yc4
 split
 ·split
  ·exact qd
  ·split
   ·exact gi
   ·split
    ·exact jx h
    ·refine yq (P:=Oo o) ?_ fun s a=>yq (jm a) fun s a=>yj7 a
     split
     ·exact jx h
     ·exact jm h
 ·exact qd
theorem yw5 {st:RS}(h:Oo o st):Pr (Oz o) (gw rec st):=by
 unfold gw
 split
 ·exact qd
 ·rename_i c r _
  refine yap (ycs (yv8 h)) (yap (xh hO h) (yap ?_ (yap ?_ (yap ?_ (yap (ywi hO h) (yap (ywi hO h) (yap ?_ (yap ?_ (yap ?_ (yap ?_ (yap (yko hO h) qd)))))))))))
  ·exact yq (jm h) fun s a=>yq (xh hO a) fun z b=>yq (jm b) fun s a=>yq (xh hO a) fun z b=>ycs (jm b)
  ·exact yq (jm h) fun s a=>yq (xh hO a) fun z b=>ycs (jm b)
  ·exact yq (jm h) fun s a=>yq (yn9 hO a) fun z b=>yq (P:=Oo o) (yap (jm b) (jx b)) fun s a=>yq (jm a) fun s a=>ycs (yje a)
  ·exact yq (jm h) fun s a=>xh hO a
  ·exact yq (jm h) fun s a=>xh hO a
  ·exact yq (fn_o hO (show Oo o _ from h)) fun s a=>jx a
  ·exact yq (dyn_o hO (show Oo o _ from h)) fun s a=>ycs (ys9 (show Oo o _ from a))
theorem yxl:z7 (yis rec):=by
 intro k st z h
 cases k with
 | path b=>exact yxx hO (o:=st.orig) rfl z h
 | type=>exact yw5 hO (o:=st.orig) rfl z h
 | const=>exact yv2 hO (o:=st.orig) rfl z h
 | psg=>exact yxs hO (o:=st.orig) rfl z h
end
theorem yrk:∀ n,z7 (jg n)
 | 0=>fun _ _ _ h=>by cases h
 | n+1=>yxl (yrk n)
theorem yjx {rec:Rec}(H:yy rec)(hO:z7 rec):yy (yis rec):=by
 intro k st x e d w p c a
 cases k with
 | path b=>exact yr5 H hO c d a e
 | type=>exact yqz H hO c d a e
 | const=>exact yp3 H hO c d a e
 | psg=>exact yuu H hO c d a e
theorem ye2:∀ n,yy (jg n)
 | 0=>fun _ _ _ h=>by cases h
 | n+1=>yjx (ye2 n) (yrk n)
end Go.Proofs.YtfckcdbpiepchaaGreatDoor
