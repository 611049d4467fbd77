import Derived.Test.YtfckcdbpiepchaaGreatDoorNs33
namespace Go.Proofs.YtfckcdbpiepchaaGreatDoor
open Go.RowKit
set_option maxRecDepth 100000
set_option maxHeartbeats 8000000
set_option linter.all false
theorem k7 {w w0:World}{p:Nat}{s:RS}{x:Option (RS×Bool)}{u1 u2 u4 u5 u6 u7 u8 u9 u10 u11 u12 u13 u14 u15 u16 u17 u18 u19 u20 u21 u22 u23 u24 u25 u26 u27 u28 u29 u30 u31 u32 u33 u34 u35 u36 u37 u38 u39 u40 u41 u42 u43 u44 u45 u46 u47 u48 u49 u50 u51 u52 u53 u54 u55 u56 u57 u58 u59 u60 u61 u62 u63 u64 u65 u66 u67 u68 u69 u70 u71 u72 u73 u74 u75 u76 u77 u78 u79 u80 u81 u82 u83 u84 u85 u86 u87 u88 u89 u90 u91 u92 u93 u94 u95 u96 u97 u98 u99 u100 u101 u102 u103 u104 u105 u106 u107 u108 u109 u110 u111 u112 u113 u114 u115 u116 u117 u118 u119 u120 u121 u122 u123 u124 u125 u126 u127 u128 u129 u130 u131 u132 u133 u134 u135 u136 u137 u138 u139 u140 u141 u142 u143 u144 u145 u146 u147 u148 u149 u150 u151 u152 u153 u154 u155 u156 u157 u158 u159 u160 u161 u162 u163 u164 u165 u166 u167 u168 u169 u170 u171 u172 u173 u174 u175 u176 u177 u178 u179 u180 u181 u182 u183 u184 u185 u186 u187 u188 u189 u190 u191 u192 u193 u194 u195 u196 u197 u198 u199 u200 u201 u202 u203 u204 u205 u206 u207 u208 u209 u210 u211 u212 u213 u214 u215 u216 u217 u218 u219 u220 u221 u222 u223 u224 u225 u226 u227 u228 u229 u230 u231 u232 u233 u234 u235 u236 u237 u238 u239 u240 u241 u242 u243 u244 u245 u246 u247 u248 u249 u250 u251 u252 u253 u254 u255 u256 u257 u258 u259 u260 u261 u262 u263 u264 u265 u266:Value}(j:RAt w p s)(z:s.Wg)(I:Env p w)(u:Upd p w0 w)
  (f:(ye (gt 1 s) fun s=>some (some (s,false)))=some x)
  (K:Act->World->Prop) (hK:∀ a w,(yl6 (ctail? Tryz.f148.body)).wp Tryz.prog (Exit.noGoto (bodyPost Tryz.prog Tryz.f148 (fun e w'=>jj .const p w0 x e w'))) a w->K a w) :
  (yl8 (ctail? Tryz.f148.body)).wp Tryz.prog (Exit.then K (Exit.noGoto (bodyPost Tryz.prog Tryz.f148 (fun e w'=>jj .const p w0 x e w')))) { tmps:=#[.pointer (some ⟨p,0,none⟩),u1,u2,.int .i64 1,u4,u5,u6,u7,u8,u9,u10,u11,u12,u13,u14,u15,u16,u17,u18,u19,u20,u21,u22,u23,u24,u25,u26,u27,u28,u29,u30,u31,u32,u33,u34,u35,u36,u37,u38,u39,u40,u41,u42,u43,u44,u45,u46,u47,u48,u49,u50,u51,u52,u53,u54,u55,u56,u57,u58,u59,u60,u61,u62,u63,u64,u65,u66,u67,u68,u69,u70,u71,u72,u73,u74,u75,u76,u77,u78,u79,u80,u81,u82,u83,u84,u85,u86,u87,u88,u89,u90,u91,u92,u93,u94,u95,u96,u97,u98,u99,u100,u101,u102,u103,u104,u105,u106,u107,u108,u109,u110,u111,u112,u113,u114,u115,u116,u117,u118,u119,u120,u121,u122,u123,u124,u125,u126,u127,u128,u129,u130,u131,u132,u133,u134,u135,u136,u137,u138,u139,u140,u141,u142,u143,u144,u145,u146,u147,u148,u149,u150,u151,u152,u153,u154,u155,u156,u157,u158,u159,u160,u161,u162,u163,u164,u165,u166,u167,u168,u169,u170,u171,u172,u173,u174,u175,u176,u177,u178,u179,u180,u181,u182,u183,u184,u185,u186,u187,u188,u189,u190,u191,u192,u193,u194,u195,u196,u197,u198,u199,u200,u201,u202,u203,u204,u205,u206,u207,u208,u209,u210,u211,u212,u213,u214,u215,u216,u217,u218,u219,u220,u221,u222,u223,u224,u225,u226,u227,u228,u229,u230,u231,u232,u233,u234,u235,u236,u237,u238,u239,u240,u241,u242,u243,u244,u245,u246,u247,u248,u249,u250,u251,u252,u253,u254,u255,u256,u257,u258,u259,u260,u261,u262,u263,u264,u265,u266],defers:=[] } w:=by
 refine yez (o:=ctail? Tryz.f148.body) rfl hK ?_;clear hK K;intro K hK;have a6:(s.str.length:Int)<=4294967296:=by have:=z.o0;have:=z.o1;have:=z.o2;omega
 have ar:=j.str;have HX:=lh f;clear f
 go_wp2_with fail
 go_step3
 go_wp2_with fail
 clear ar
 go_loopg [5,6] (s.str.length+1) (fun gk dv vv wr=>∃ (k v:Nat) (l:List UInt8),dv=.int .i64 (k:Int)/\vv=.int .u64 (v:Int)/\Hid (l.length+1=gk/\k+l.length=s.str.length)/\RAt wr p (s.go l)/\(s.go l).Wg/\Env p wr/\Upd p w0 wr/\Hid (j5 l k v=j5 s.str 0 0)/\v < 18446744073709551616)
 case atStart=>exact⟨0,0,s.str,rfl,rfl,⟨rfl,by omega⟩,by rw[RS.go_self];exact j,by rw[RS.go_self];exact z,I,u,rfl,by omega⟩
 case round=>
  have y:=HX;clear j z I u HX;obtain⟨k,v,l,rfl,rfl,hH,j,z,I,u,Y,hv⟩:=hrel;obtain⟨S,L⟩:=hH.out
  cases l with
  | nil=>
   have hs:wr.cell? ⟨p,1,none⟩=some (.string ⟨#[]⟩):=j.str;have M:j5 s.str 0 0=some (k,v,[]):=Y.out.symm;have ak:(k:Int)<=4294967296:=by simp at L;omega
   have f:=y.out;unfold gt at f;rw[show j5 s.str 0 0=some (k,v,[]) from M] at f;simp only at f;clear M y
   by_cases X:k=0
   ·subst X
    rw[if_pos rfl,bindM_fail] at f;obtain rfl:=Option.some.inj f
    go_wp2_with(go_at_call 70;refine(yu j).mono ?_;rintro e w9 ⟨m,o,D,rfl,A,B⟩)
    exact⟨rfl,m,o,D,rfl,A,u.trans B⟩
   rw[if_neg X] at f;have al:((k:Int) == 0)=false:=by simp;omega
   clear X;simp only[Nat.reduceEqDiff,if_false,if_true] at f;unfold yll at f
   by_cases F:16 < k
   ·rw[if_pos F] at f;cases f
   rw[if_neg F] at f;have aj:¬ (16:Int) < (k:Int):=by omega
   have P:=j.skip
   rcases vz f with⟨G,C⟩|⟨G,hl,C⟩
   ·replace f:=C
    rw[G] at P;obtain rfl:=Option.some.inj f;go_wp2
    try rw[Exit.noGoto_normal]
    go_end0;exact⟨⟨rfl,j,u⟩,z⟩
   ·replace f:=C
    rw[G] at P;have W:=fun w h=>yb8 v hv w h;clear C F hH Y S L;go_wp2
    go_region_with (first
     | (go_at_call 172;refine(W _ (I.tab _ (Below.drew (Below.refl _ _)))).mono ?_;rintro e wF ⟨rfl,N⟩;have T:=j.drew.below N;have U:=Upd.of_below j.drew.lt N)
     | (go_at_call 102;refine(vf (s:=Lib.decDigits v) T (Nat.le_trans hl (by omega))).mono ?_;rintro e wG ⟨⟨n,rfl⟩,E,V⟩;have kl:=E.last;have f7:=E.free 7))
    all_goals go_wp2
    all_goals (try rw[Exit.noGoto_normal])
    all_goals go_end0
    all_goals (obtain rfl:=Option.some.inj f;exact⟨⟨rfl,E.set_last 48,(((u.trans ((Upd.refl p _).drew)).trans U).trans V).set 7 _ (by omega)⟩,z.same rfl rfl rfl rfl⟩)
  | cons d l=>
   have hs:wr.cell? ⟨p,1,none⟩=some (.string ⟨(d::l).toArray⟩):=j.str;have Q:Hid ((s.go (d::l)).str=d::l):=rfl;have J:(s.go l).Wg:=(RS.go_go s (d::l) l)▸z.go (r:=l) (by show l.length<=(d::l).length;simp);have a3:(d.toNat:Int)<=255:=by have:=d.toNat_lt;omega
   have ak:(k:Int)<=4294967296:=by simp at L;omega
   have a4:k+1+l.length=s.str.length/\l.length+1+1=gk:=by simp only[List.length_cons] at S L;omega
   have c:=Y.out;rw[yd7] at c
   by_cases c95:d=95
   ·subst c95
    rw[if_pos rfl] at c;have M:j5 s.str 0 0=some (k,v,l):=c.symm;clear c
    go_wp2_with fail
    refine(yh j z.wf Q).mono ?_;rintro e Z ⟨rfl,b,g⟩;rw[RS.go_go] at b;have ac:=J;have af:True:=trivial;have f:True:=trivial;replace I:=I.upd j g;replace u:=u.trans g;replace j:=b;replace z:=ac;replace f:=af;clear b ac g af;clear f;have f:=y.out;unfold gt at f;rw[show j5 s.str 0 0=some (k,v,l) from M] at f;simp only at f;clear M y
    by_cases X:k=0
    ·subst X
     rw[if_pos rfl,bindM_fail] at f;obtain rfl:=Option.some.inj f
     go_wp2_with(go_at_call 70;refine(yu j).mono ?_;rintro e w9 ⟨m,o,D,rfl,A,B⟩)
     exact⟨rfl,m,o,D,rfl,A,u.trans B⟩
    rw[if_neg X] at f;have al:((k:Int) == 0)=false:=by simp;omega
    clear X;simp only[Nat.reduceEqDiff,if_false,if_true] at f;unfold yll at f
    by_cases F:16 < k
    ·rw[if_pos F] at f;cases f
    rw[if_neg F] at f;have aj:¬ (16:Int) < (k:Int):=by omega
    have P:=j.skip
    rcases vz f with⟨G,C⟩|⟨G,hl,C⟩
    ·replace f:=C
     rw[G] at P;obtain rfl:=Option.some.inj f;go_wp2
     try rw[Exit.noGoto_normal]
     go_end0;exact⟨⟨rfl,j,u⟩,z⟩
    ·replace f:=C
     rw[G] at P;have W:=fun w h=>yb8 v hv w h;clear C F hH Y S L;go_wp2
     go_region_with (first
      | (go_at_call 172;refine(W _ (I.tab _ (Below.drew (Below.refl _ _)))).mono ?_;rintro e wF ⟨rfl,N⟩;have T:=j.drew.below N;have U:=Upd.of_below j.drew.lt N)
      | (go_at_call 102;refine(vf (s:=Lib.decDigits v) T (Nat.le_trans hl (by omega))).mono ?_;rintro e wG ⟨⟨n,rfl⟩,E,V⟩;have kl:=E.last;have f7:=E.free 7))
     all_goals go_wp2
     all_goals (try rw[Exit.noGoto_normal])
     all_goals go_end0
     all_goals (obtain rfl:=Option.some.inj f;exact⟨⟨rfl,E.set_last 48,(((u.trans ((Upd.refl p _).drew)).trans U).trans V).set 7 _ (by omega)⟩,z.same rfl rfl rfl rfl⟩)
   rw[if_neg c95] at c;have ax:((d.toNat:Int) == 95)=false:=by simp;intro h;exact c95 (UInt8.toNat_inj.1 (by show d.toNat=95;omega))
   clear c95
   by_cases hd:gu d.toNat < 0
   ·rw[if_pos hd] at c
    have f:=y.out;unfold gt at f;rw[<-c] at f;obtain rfl:=Option.some.inj f;have ap:¬ (48<=(d.toNat:Int)/\(d.toNat:Int)<=57)/\¬ (97<=(d.toNat:Int)/\(d.toNat:Int)<=102):=by
     unfold gu at hd
     split at hd
     ·omega
     ·split at hd
      ·omega
      ·exact⟨by assumption,by assumption⟩
    have an:decide (48<=(d.toNat:Int))=false\/decide (48<=(d.toNat:Int))=true/\decide ((d.toNat:Int)<=57)=false:=by simp only[decide_eq_false_iff_not,decide_eq_true_eq];omega
    have ao:decide (97<=(d.toNat:Int))=false\/decide (97<=(d.toNat:Int))=true/\decide ((d.toNat:Int)<=102)=false:=by simp only[decide_eq_false_iff_not,decide_eq_true_eq];omega
    clear hd ap c f y Y
    rcases an with a1|⟨a1,a2⟩<;>rcases ao with b1|⟨b1,b2⟩
    all_goals
     go_wp2_with(go_at_call 70;refine(yu j).mono ?_;rintro e w9 ⟨m,o,D,rfl,A,B⟩)
     exact⟨rfl,m,o,D,rfl,A,u.trans B⟩
   rw[if_neg hd] at c;have aq:(48<=(d.toNat:Int)/\(d.toNat:Int)<=57)\/(97<=(d.toNat:Int)/\(d.toNat:Int)<=102):=by
    unfold gu at hd
    split at hd
    ·exact .inl (by assumption)
    ·split at hd
     ·exact .inr (by assumption)
     ·omega
   have ae:(v:Int) < 18446744073709551616:=by omega
   clear hd
   rcases aq with⟨r1,r2⟩|⟨r1,r2⟩
   ·have hD:gu d.toNat=(d.toNat:Int)-48:=by unfold gu;rw[if_pos ⟨r1,r2⟩]
    rw[hD] at c;clear hD
    by_cases H:v=0
    ·subst H
     by_cases O:(d.toNat:Int)-48=0
     ·have ay:(d.toNat:Int)=48:=by omega
      obtain rfl:d=48:=UInt8.toNat_inj.1 (by show d.toNat=48;omega)
      cases l with
      | nil=>
       rw[if_pos ⟨rfl,O,by simp⟩] at c;have f:=y.out;unfold gt at f;rw[<-c] at f;obtain rfl:=Option.some.inj f;clear f y Y c
       go_wp2_with fail
       refine(yh j z.wf Q).mono ?_;rintro e Z ⟨rfl,b,g⟩;rw[RS.go_go] at b;have t:=I.upd j g;have q:=u.trans g;have i:=b.str;rw[show(s.go []).str=[] from rfl] at i;replace j:=b;replace u:=q;clear b g q
       go_wp2_with(go_at_call 70;refine(yu j).mono ?_;rintro e w9 ⟨m,o,D,rfl,A,B⟩)
       exact⟨rfl,m,o,D,rfl,A,u.trans B⟩
      | cons d2 l=>
       by_cases c2:d2=95
       ·subst c2
        rw[if_neg (by simp)] at c;replace c:j5 (95::l) (k+1) ((0*16+((((48:UInt8).toNat:Int)-48)).toNat) % 18446744073709551616)=j5 s.str 0 0:=c
        go_wp2_with fail
        refine(yh j z.wf Q).mono ?_;rintro e Z ⟨rfl,b,g⟩;rw[RS.go_go] at b;have t:=I.upd j g;have q:=u.trans g;have i:=b.str;rw[show(s.go (95::l)).str=95::l from rfl] at i;go_wp2
        go_roundg ((95::l).length+1)
        case measure=>omega
        case rel=>exact⟨k+1,_,95::l,by go_num,rfl,⟨rfl,by omega⟩,b,J,t,q,c,by decide⟩
       ·rw[if_pos ⟨rfl,O,by simpa using c2⟩] at c
        have f:=y.out;unfold gt at f;rw[<-c] at f;obtain rfl:=Option.some.inj f;have az:((d2.toNat:Int) != 95)=true:=by simp;intro h;exact c2 (UInt8.toNat_inj.1 (by show d2.toNat=95;omega))
        clear f y Y c c2
        go_wp2_with fail
        refine(yh j z.wf Q).mono ?_;rintro e Z ⟨rfl,b,g⟩;rw[RS.go_go] at b;have t:=I.upd j g;have q:=u.trans g;have i:=b.str;rw[show(s.go (d2::l)).str=d2::l from rfl] at i;replace j:=b;replace u:=q;clear b g q
        go_wp2_with(go_at_call 70;refine(yu j).mono ?_;rintro e w9 ⟨m,o,D,rfl,A,B⟩)
        exact⟨rfl,m,o,D,rfl,A,u.trans B⟩
     ·rw[if_neg (by rintro ⟨-,h,-⟩;exact O h)] at c
      have ab:(((d.toNat:Int)-48) == 0)=false:=by simp;omega
      have R:=lh c;clear c
      go_wp2_with fail
      refine(yh j z.wf Q).mono ?_;rintro e Z ⟨rfl,b,g⟩;rw[RS.go_go] at b;have t:=I.upd j g;have q:=u.trans g;have i:=b.str;rw[show(s.go l).str=l from rfl] at i;go_wp2
      go_roundg (l.length+1)
      case measure=>omega
      case rel=>exact⟨k+1,(0*16+((d.toNat:Int)-48).toNat) % 18446744073709551616,l,by go_num,by first|(rw[kh _ _ (by omega)])|go_num,⟨rfl,by omega⟩,b,J,t,q,R.out,Nat.mod_lt _ (by omega)⟩
    ·rw[if_neg (by rintro ⟨h,-⟩;exact H h)] at c
     have ad:((v:Int) == 0)=false:=by simp;omega
     clear ae hv H;have R:=lh c;clear c
     go_wp2_with fail
     refine(yh j z.wf Q).mono ?_;rintro e Z ⟨rfl,b,g⟩;rw[RS.go_go] at b;have t:=I.upd j g;have q:=u.trans g;have i:=b.str;rw[show(s.go l).str=l from rfl] at i;go_wp2
     go_roundg (l.length+1)
     case measure=>omega
     case rel=>exact⟨k+1,(v*16+((d.toNat:Int)-48).toNat) % 18446744073709551616,l,by go_num,by first|(rw[kh _ _ (by omega)])|go_num,⟨rfl,by omega⟩,b,J,t,q,R.out,Nat.mod_lt _ (by omega)⟩
   ·have hD:gu d.toNat=(d.toNat:Int)-97+10:=by unfold gu;rw[if_neg (by omega),if_pos ⟨r1,r2⟩]
    rw[hD] at c;clear hD
    by_cases H:v=0
    ·subst H
     by_cases O:(d.toNat:Int)-97+10=0
     ·omega
     ·rw[if_neg (by rintro ⟨-,h,-⟩;exact O h)] at c
      have ab:(((d.toNat:Int)-97+10) == 0)=false:=by simp;omega
      have R:=lh c;clear c
      go_wp2_with fail
      refine(yh j z.wf Q).mono ?_;rintro e Z ⟨rfl,b,g⟩;rw[RS.go_go] at b;have t:=I.upd j g;have q:=u.trans g;have i:=b.str;rw[show(s.go l).str=l from rfl] at i;go_wp2
      go_roundg (l.length+1)
      case measure=>omega
      case rel=>exact⟨k+1,(0*16+((d.toNat:Int)-97+10).toNat) % 18446744073709551616,l,by go_num,by first|(rw[kh _ _ (by omega)])|go_num,⟨rfl,by omega⟩,b,J,t,q,R.out,Nat.mod_lt _ (by omega)⟩
    ·rw[if_neg (by rintro ⟨h,-⟩;exact H h)] at c
     have ad:((v:Int) == 0)=false:=by simp;omega
     clear ae hv H;have R:=lh c;clear c
     go_wp2_with fail
     refine(yh j z.wf Q).mono ?_;rintro e Z ⟨rfl,b,g⟩;rw[RS.go_go] at b;have t:=I.upd j g;have q:=u.trans g;have i:=b.str;rw[show(s.go l).str=l from rfl] at i;go_wp2
     go_roundg (l.length+1)
     case measure=>omega
     case rel=>exact⟨k+1,(v*16+((d.toNat:Int)-97+10).toNat) % 18446744073709551616,l,by go_num,by first|(rw[kh _ _ (by omega)])|go_num,⟨rfl,by omega⟩,b,J,t,q,R.out,Nat.mod_lt _ (by omega)⟩
theorem yd8 {w w0:World}{p:Nat}{s:RS}{x:Option (RS×Bool)}{u1 u2 u4 u5 u6 u7 u8 u9 u10 u11 u12 u13 u14 u15 u16 u17 u18 u19 u20 u21 u22 u23 u24 u25 u26 u27 u28 u29 u30 u31 u32 u33 u34 u35 u36 u37 u38 u39 u40 u41 u42 u43 u44 u45 u46 u47 u48 u49 u50 u51 u52 u53 u54 u55 u56 u57 u58 u59 u60 u61 u62 u63 u64 u65 u66 u67 u68 u69 u70 u71 u72 u73 u74 u75 u76 u77 u78 u79 u80 u81 u82 u83 u84 u85 u86 u87 u88 u89 u90 u91 u92 u93 u94 u95 u96 u97 u98 u99 u100 u101 u102 u103 u104 u105 u106 u107 u108 u109 u110 u111 u112 u113 u114 u115 u116 u117 u118 u119 u120 u121 u122 u123 u124 u125 u126 u127 u128 u129 u130 u131 u132 u133 u134 u135 u136 u137 u138 u139 u140 u141 u142 u143 u144 u145 u146 u147 u148 u149 u150 u151 u152 u153 u154 u155 u156 u157 u158 u159 u160 u161 u162 u163 u164 u165 u166 u167 u168 u169 u170 u171 u172 u173 u174 u175 u176 u177 u178 u179 u180 u181 u182 u183 u184 u185 u186 u187 u188 u189 u190 u191 u192 u193 u194 u195 u196 u197 u198 u199 u200 u201 u202 u203 u204 u205 u206 u207 u208 u209 u210 u211 u212 u213 u214 u215 u216 u217 u218 u219 u220 u221 u222 u223 u224 u225 u226 u227 u228 u229 u230 u231 u232 u233 u234 u235 u236 u237 u238 u239 u240 u241 u242 u243 u244 u245 u246 u247 u248 u249 u250 u251 u252 u253 u254 u255 u256 u257 u258 u259 u260 u261 u262 u263 u264 u265 u266:Value}(j:RAt w p s)(z:s.Wg)(I:Env p w)(u:Upd p w0 w)
  (f:(ye (gt 2 s) fun s=>some (some (s,false)))=some x)
  (K:Act->World->Prop) (hK:∀ a w,(yl6 (ctail? Tryz.f148.body)).wp Tryz.prog (Exit.noGoto (bodyPost Tryz.prog Tryz.f148 (fun e w'=>jj .const p w0 x e w'))) a w->K a w) :
  (yl8 (ctail? Tryz.f148.body)).wp Tryz.prog (Exit.then K (Exit.noGoto (bodyPost Tryz.prog Tryz.f148 (fun e w'=>jj .const p w0 x e w')))) { tmps:=#[.pointer (some ⟨p,0,none⟩),u1,u2,.int .i64 2,u4,u5,u6,u7,u8,u9,u10,u11,u12,u13,u14,u15,u16,u17,u18,u19,u20,u21,u22,u23,u24,u25,u26,u27,u28,u29,u30,u31,u32,u33,u34,u35,u36,u37,u38,u39,u40,u41,u42,u43,u44,u45,u46,u47,u48,u49,u50,u51,u52,u53,u54,u55,u56,u57,u58,u59,u60,u61,u62,u63,u64,u65,u66,u67,u68,u69,u70,u71,u72,u73,u74,u75,u76,u77,u78,u79,u80,u81,u82,u83,u84,u85,u86,u87,u88,u89,u90,u91,u92,u93,u94,u95,u96,u97,u98,u99,u100,u101,u102,u103,u104,u105,u106,u107,u108,u109,u110,u111,u112,u113,u114,u115,u116,u117,u118,u119,u120,u121,u122,u123,u124,u125,u126,u127,u128,u129,u130,u131,u132,u133,u134,u135,u136,u137,u138,u139,u140,u141,u142,u143,u144,u145,u146,u147,u148,u149,u150,u151,u152,u153,u154,u155,u156,u157,u158,u159,u160,u161,u162,u163,u164,u165,u166,u167,u168,u169,u170,u171,u172,u173,u174,u175,u176,u177,u178,u179,u180,u181,u182,u183,u184,u185,u186,u187,u188,u189,u190,u191,u192,u193,u194,u195,u196,u197,u198,u199,u200,u201,u202,u203,u204,u205,u206,u207,u208,u209,u210,u211,u212,u213,u214,u215,u216,u217,u218,u219,u220,u221,u222,u223,u224,u225,u226,u227,u228,u229,u230,u231,u232,u233,u234,u235,u236,u237,u238,u239,u240,u241,u242,u243,u244,u245,u246,u247,u248,u249,u250,u251,u252,u253,u254,u255,u256,u257,u258,u259,u260,u261,u262,u263,u264,u265,u266],defers:=[] } w:=by
 refine yez (o:=ctail? Tryz.f148.body) rfl hK ?_;clear hK K;intro K hK;have a6:(s.str.length:Int)<=4294967296:=by have:=z.o0;have:=z.o1;have:=z.o2;omega
 have ar:=j.str;have HX:=lh f;clear f
 go_wp2_with fail
 go_step3
 go_wp2_with fail
 clear ar
 go_loopg [5,6] (s.str.length+1) (fun gk dv vv wr=>∃ (k v:Nat) (l:List UInt8),dv=.int .i64 (k:Int)/\vv=.int .u64 (v:Int)/\Hid (l.length+1=gk/\k+l.length=s.str.length)/\RAt wr p (s.go l)/\(s.go l).Wg/\Env p wr/\Upd p w0 wr/\Hid (j5 l k v=j5 s.str 0 0)/\v < 18446744073709551616)
 case atStart=>exact⟨0,0,s.str,rfl,rfl,⟨rfl,by omega⟩,by rw[RS.go_self];exact j,by rw[RS.go_self];exact z,I,u,rfl,by omega⟩
 case round=>
  have y:=HX;clear j z I u HX;obtain⟨k,v,l,rfl,rfl,hH,j,z,I,u,Y,hv⟩:=hrel;obtain⟨S,L⟩:=hH.out
  cases l with
  | nil=>
   have hs:wr.cell? ⟨p,1,none⟩=some (.string ⟨#[]⟩):=j.str;have M:j5 s.str 0 0=some (k,v,[]):=Y.out.symm;have ak:(k:Int)<=4294967296:=by simp at L;omega
   have f:=y.out;unfold gt at f;rw[show j5 s.str 0 0=some (k,v,[]) from M] at f;simp only at f;clear M y
   by_cases X:k=0
   ·subst X
    rw[if_pos rfl,bindM_fail] at f;obtain rfl:=Option.some.inj f
    go_wp2_with(go_at_call 70;refine(yu j).mono ?_;rintro e w9 ⟨m,o,D,rfl,A,B⟩)
    exact⟨rfl,m,o,D,rfl,A,u.trans B⟩
   rw[if_neg X] at f;have al:((k:Int) == 0)=false:=by simp;omega
   clear X;simp only[Nat.reduceEqDiff,if_false,if_true] at f;unfold yll at f
   by_cases F:16 < k
   ·rw[if_pos F] at f;cases f
   rw[if_neg F] at f;have aj:¬ (16:Int) < (k:Int):=by omega
   have P:=j.skip
   rcases vz f with⟨G,C⟩|⟨G,hl,C⟩
   ·replace f:=C
    rw[G] at P;obtain rfl:=Option.some.inj f;go_wp2
    try rw[Exit.noGoto_normal]
    go_end0;exact⟨⟨rfl,j,u⟩,z⟩
   ·replace f:=C
    rw[G] at P;have W:=fun w h=>yb8 v hv w h;clear C F hH Y S L;go_wp2
    go_region_with (first
     | (go_at_call 172;refine(W _ (I.tab _ (Below.drew (Below.refl _ _)))).mono ?_;rintro e wF ⟨rfl,N⟩;have T:=j.drew.below N;have U:=Upd.of_below j.drew.lt N)
     | (go_at_call 102;refine(vf (s:=Lib.decDigits v) T (Nat.le_trans hl (by omega))).mono ?_;rintro e wG ⟨⟨n,rfl⟩,E,V⟩;have kl:=E.last;have f7:=E.free 7))
    all_goals go_wp2
    all_goals (try rw[Exit.noGoto_normal])
    all_goals go_end0
    all_goals (obtain rfl:=Option.some.inj f;exact⟨⟨rfl,E.set_last 48,(((u.trans ((Upd.refl p _).drew)).trans U).trans V).set 7 _ (by omega)⟩,z.same rfl rfl rfl rfl⟩)
  | cons d l=>
   have hs:wr.cell? ⟨p,1,none⟩=some (.string ⟨(d::l).toArray⟩):=j.str;have Q:Hid ((s.go (d::l)).str=d::l):=rfl;have J:(s.go l).Wg:=(RS.go_go s (d::l) l)▸z.go (r:=l) (by show l.length<=(d::l).length;simp);have a3:(d.toNat:Int)<=255:=by have:=d.toNat_lt;omega
   have ak:(k:Int)<=4294967296:=by simp at L;omega
   have a4:k+1+l.length=s.str.length/\l.length+1+1=gk:=by simp only[List.length_cons] at S L;omega
   have c:=Y.out;rw[yd7] at c
   by_cases c95:d=95
   ·subst c95
    rw[if_pos rfl] at c;have M:j5 s.str 0 0=some (k,v,l):=c.symm;clear c
    go_wp2_with fail
    refine(yh j z.wf Q).mono ?_;rintro e Z ⟨rfl,b,g⟩;rw[RS.go_go] at b;have ac:=J;have af:True:=trivial;have f:True:=trivial;replace I:=I.upd j g;replace u:=u.trans g;replace j:=b;replace z:=ac;replace f:=af;clear b ac g af;clear f;have f:=y.out;unfold gt at f;rw[show j5 s.str 0 0=some (k,v,l) from M] at f;simp only at f;clear M y
    by_cases X:k=0
    ·subst X
     rw[if_pos rfl,bindM_fail] at f;obtain rfl:=Option.some.inj f
     go_wp2_with(go_at_call 70;refine(yu j).mono ?_;rintro e w9 ⟨m,o,D,rfl,A,B⟩)
     exact⟨rfl,m,o,D,rfl,A,u.trans B⟩
    rw[if_neg X] at f;have al:((k:Int) == 0)=false:=by simp;omega
    clear X;simp only[Nat.reduceEqDiff,if_false,if_true] at f;unfold yll at f
    by_cases F:16 < k
    ·rw[if_pos F] at f;cases f
    rw[if_neg F] at f;have aj:¬ (16:Int) < (k:Int):=by omega
    have P:=j.skip
    rcases vz f with⟨G,C⟩|⟨G,hl,C⟩
    ·replace f:=C
     rw[G] at P;obtain rfl:=Option.some.inj f;go_wp2
     try rw[Exit.noGoto_normal]
     go_end0;exact⟨⟨rfl,j,u⟩,z⟩
    ·replace f:=C
     rw[G] at P;have W:=fun w h=>yb8 v hv w h;clear C F hH Y S L;go_wp2
     go_region_with (first
      | (go_at_call 172;refine(W _ (I.tab _ (Below.drew (Below.refl _ _)))).mono ?_;rintro e wF ⟨rfl,N⟩;have T:=j.drew.below N;have U:=Upd.of_below j.drew.lt N)
      | (go_at_call 102;refine(vf (s:=Lib.decDigits v) T (Nat.le_trans hl (by omega))).mono ?_;rintro e wG ⟨⟨n,rfl⟩,E,V⟩;have kl:=E.last;have f7:=E.free 7))
     all_goals go_wp2
     all_goals (try rw[Exit.noGoto_normal])
     all_goals go_end0
     all_goals (obtain rfl:=Option.some.inj f;exact⟨⟨rfl,E.set_last 48,(((u.trans ((Upd.refl p _).drew)).trans U).trans V).set 7 _ (by omega)⟩,z.same rfl rfl rfl rfl⟩)
   rw[if_neg c95] at c;have ax:((d.toNat:Int) == 95)=false:=by simp;intro h;exact c95 (UInt8.toNat_inj.1 (by show d.toNat=95;omega))
   clear c95
   by_cases hd:gu d.toNat < 0
   ·rw[if_pos hd] at c
    have f:=y.out;unfold gt at f;rw[<-c] at f;obtain rfl:=Option.some.inj f;have ap:¬ (48<=(d.toNat:Int)/\(d.toNat:Int)<=57)/\¬ (97<=(d.toNat:Int)/\(d.toNat:Int)<=102):=by
     unfold gu at hd
     split at hd
     ·omega
     ·split at hd
      ·omega
      ·exact⟨by assumption,by assumption⟩
    have an:decide (48<=(d.toNat:Int))=false\/decide (48<=(d.toNat:Int))=true/\decide ((d.toNat:Int)<=57)=false:=by simp only[decide_eq_false_iff_not,decide_eq_true_eq];omega
    have ao:decide (97<=(d.toNat:Int))=false\/decide (97<=(d.toNat:Int))=true/\decide ((d.toNat:Int)<=102)=false:=by simp only[decide_eq_false_iff_not,decide_eq_true_eq];omega
    clear hd ap c f y Y
    rcases an with a1|⟨a1,a2⟩<;>rcases ao with b1|⟨b1,b2⟩
    all_goals
     go_wp2_with(go_at_call 70;refine(yu j).mono ?_;rintro e w9 ⟨m,o,D,rfl,A,B⟩)
     exact⟨rfl,m,o,D,rfl,A,u.trans B⟩
   rw[if_neg hd] at c;have aq:(48<=(d.toNat:Int)/\(d.toNat:Int)<=57)\/(97<=(d.toNat:Int)/\(d.toNat:Int)<=102):=by
    unfold gu at hd
    split at hd
    ·exact .inl (by assumption)
    ·split at hd
     ·exact .inr (by assumption)
     ·omega
   have ae:(v:Int) < 18446744073709551616:=by omega
   clear hd
   rcases aq with⟨r1,r2⟩|⟨r1,r2⟩
   ·have hD:gu d.toNat=(d.toNat:Int)-48:=by unfold gu;rw[if_pos ⟨r1,r2⟩]
    rw[hD] at c;clear hD
    by_cases H:v=0
    ·subst H
     by_cases O:(d.toNat:Int)-48=0
     ·have ay:(d.toNat:Int)=48:=by omega
      obtain rfl:d=48:=UInt8.toNat_inj.1 (by show d.toNat=48;omega)
      cases l with
      | nil=>
       rw[if_pos ⟨rfl,O,by simp⟩] at c;have f:=y.out;unfold gt at f;rw[<-c] at f;obtain rfl:=Option.some.inj f;clear f y Y c
       go_wp2_with fail
       refine(yh j z.wf Q).mono ?_;rintro e Z ⟨rfl,b,g⟩;rw[RS.go_go] at b;have t:=I.upd j g;have q:=u.trans g;have i:=b.str;rw[show(s.go []).str=[] from rfl] at i;replace j:=b;replace u:=q;clear b g q
       go_wp2_with(go_at_call 70;refine(yu j).mono ?_;rintro e w9 ⟨m,o,D,rfl,A,B⟩)
       exact⟨rfl,m,o,D,rfl,A,u.trans B⟩
      | cons d2 l=>
       by_cases c2:d2=95
       ·subst c2
        rw[if_neg (by simp)] at c;replace c:j5 (95::l) (k+1) ((0*16+((((48:UInt8).toNat:Int)-48)).toNat) % 18446744073709551616)=j5 s.str 0 0:=c
        go_wp2_with fail
        refine(yh j z.wf Q).mono ?_;rintro e Z ⟨rfl,b,g⟩;rw[RS.go_go] at b;have t:=I.upd j g;have q:=u.trans g;have i:=b.str;rw[show(s.go (95::l)).str=95::l from rfl] at i;go_wp2
        go_roundg ((95::l).length+1)
        case measure=>omega
        case rel=>exact⟨k+1,_,95::l,by go_num,rfl,⟨rfl,by omega⟩,b,J,t,q,c,by decide⟩
       ·rw[if_pos ⟨rfl,O,by simpa using c2⟩] at c
        have f:=y.out;unfold gt at f;rw[<-c] at f;obtain rfl:=Option.some.inj f;have az:((d2.toNat:Int) != 95)=true:=by simp;intro h;exact c2 (UInt8.toNat_inj.1 (by show d2.toNat=95;omega))
        clear f y Y c c2
        go_wp2_with fail
        refine(yh j z.wf Q).mono ?_;rintro e Z ⟨rfl,b,g⟩;rw[RS.go_go] at b;have t:=I.upd j g;have q:=u.trans g;have i:=b.str;rw[show(s.go (d2::l)).str=d2::l from rfl] at i;replace j:=b;replace u:=q;clear b g q
        go_wp2_with(go_at_call 70;refine(yu j).mono ?_;rintro e w9 ⟨m,o,D,rfl,A,B⟩)
        exact⟨rfl,m,o,D,rfl,A,u.trans B⟩
     ·rw[if_neg (by rintro ⟨-,h,-⟩;exact O h)] at c
      have ab:(((d.toNat:Int)-48) == 0)=false:=by simp;omega
      have R:=lh c;clear c
      go_wp2_with fail
      refine(yh j z.wf Q).mono ?_;rintro e Z ⟨rfl,b,g⟩;rw[RS.go_go] at b;have t:=I.upd j g;have q:=u.trans g;have i:=b.str;rw[show(s.go l).str=l from rfl] at i;go_wp2
      go_roundg (l.length+1)
      case measure=>omega
      case rel=>exact⟨k+1,(0*16+((d.toNat:Int)-48).toNat) % 18446744073709551616,l,by go_num,by first|(rw[kh _ _ (by omega)])|go_num,⟨rfl,by omega⟩,b,J,t,q,R.out,Nat.mod_lt _ (by omega)⟩
    ·rw[if_neg (by rintro ⟨h,-⟩;exact H h)] at c
     have ad:((v:Int) == 0)=false:=by simp;omega
     clear ae hv H;have R:=lh c;clear c
     go_wp2_with fail
     refine(yh j z.wf Q).mono ?_;rintro e Z ⟨rfl,b,g⟩;rw[RS.go_go] at b;have t:=I.upd j g;have q:=u.trans g;have i:=b.str;rw[show(s.go l).str=l from rfl] at i;go_wp2
     go_roundg (l.length+1)
     case measure=>omega
     case rel=>exact⟨k+1,(v*16+((d.toNat:Int)-48).toNat) % 18446744073709551616,l,by go_num,by first|(rw[kh _ _ (by omega)])|go_num,⟨rfl,by omega⟩,b,J,t,q,R.out,Nat.mod_lt _ (by omega)⟩
   ·have hD:gu d.toNat=(d.toNat:Int)-97+10:=by unfold gu;rw[if_neg (by omega),if_pos ⟨r1,r2⟩]
    rw[hD] at c;clear hD
    by_cases H:v=0
    ·subst H
     by_cases O:(d.toNat:Int)-97+10=0
     ·omega
     ·rw[if_neg (by rintro ⟨-,h,-⟩;exact O h)] at c
      have ab:(((d.toNat:Int)-97+10) == 0)=false:=by simp;omega
      have R:=lh c;clear c
      go_wp2_with fail
      refine(yh j z.wf Q).mono ?_;rintro e Z ⟨rfl,b,g⟩;rw[RS.go_go] at b;have t:=I.upd j g;have q:=u.trans g;have i:=b.str;rw[show(s.go l).str=l from rfl] at i;go_wp2
      go_roundg (l.length+1)
      case measure=>omega
      case rel=>exact⟨k+1,(0*16+((d.toNat:Int)-97+10).toNat) % 18446744073709551616,l,by go_num,by first|(rw[kh _ _ (by omega)])|go_num,⟨rfl,by omega⟩,b,J,t,q,R.out,Nat.mod_lt _ (by omega)⟩
    ·rw[if_neg (by rintro ⟨h,-⟩;exact H h)] at c
     have ad:((v:Int) == 0)=false:=by simp;omega
     clear ae hv H;have R:=lh c;clear c
     go_wp2_with fail
     refine(yh j z.wf Q).mono ?_;rintro e Z ⟨rfl,b,g⟩;rw[RS.go_go] at b;have t:=I.upd j g;have q:=u.trans g;have i:=b.str;rw[show(s.go l).str=l from rfl] at i;go_wp2
     go_roundg (l.length+1)
     case measure=>omega
     case rel=>exact⟨k+1,(v*16+((d.toNat:Int)-97+10).toNat) % 18446744073709551616,l,by go_num,by first|(rw[kh _ _ (by omega)])|go_num,⟨rfl,by omega⟩,b,J,t,q,R.out,Nat.mod_lt _ (by omega)⟩
theorem yvz {w w0:World}{p:Nat}{s:RS}{x:Option (RS×Bool)}{u1 u2 u4 u5 u6 u7 u8 u9 u10 u11 u12 u13 u14 u15 u16 u17 u18 u19 u20 u21 u22 u23 u24 u25 u26 u27 u28 u29 u30 u31 u32 u33 u34 u35 u36 u37 u38 u39 u40 u41 u42 u43 u44 u45 u46 u47 u48 u49 u50 u51 u52 u53 u54 u55 u56 u57 u58 u59 u60 u61 u62 u63 u64 u65 u66 u67 u68 u69 u70 u71 u72 u73 u74 u75 u76 u77 u78 u79 u80 u81 u82 u83 u84 u85 u86 u87 u88 u89 u90 u91 u92 u93 u94 u95 u96 u97 u98 u99 u100 u101 u102 u103 u104 u105 u106 u107 u108 u109 u110 u111 u112 u113 u114 u115 u116 u117 u118 u119 u120 u121 u122 u123 u124 u125 u126 u127 u128 u129 u130 u131 u132 u133 u134 u135 u136 u137 u138 u139 u140 u141 u142 u143 u144 u145 u146 u147 u148 u149 u150 u151 u152 u153 u154 u155 u156 u157 u158 u159 u160 u161 u162 u163 u164 u165 u166 u167 u168 u169 u170 u171 u172 u173 u174 u175 u176 u177 u178 u179 u180 u181 u182 u183 u184 u185 u186 u187 u188 u189 u190 u191 u192 u193 u194 u195 u196 u197 u198 u199 u200 u201 u202 u203 u204 u205 u206 u207 u208 u209 u210 u211 u212 u213 u214 u215 u216 u217 u218 u219 u220 u221 u222 u223 u224 u225 u226 u227 u228 u229 u230 u231 u232 u233 u234 u235 u236 u237 u238 u239 u240 u241 u242 u243 u244 u245 u246 u247 u248 u249 u250 u251 u252 u253 u254 u255 u256 u257 u258 u259 u260 u261 u262 u263 u264 u265 u266:Value}(i:RAt w p s)(B:s.Wg)(F:Env p w)(q:Upd p w0 w)
  (g:(ye (gt 3 s) fun s=>some (some (s,false)))=some x)
  (K:Act->World->Prop) (hK:∀ a w,(yl6 (ctail? Tryz.f148.body)).wp Tryz.prog (Exit.noGoto (bodyPost Tryz.prog Tryz.f148 (fun e w'=>jj .const p w0 x e w'))) a w->K a w) :
  (yl8 (ctail? Tryz.f148.body)).wp Tryz.prog (Exit.then K (Exit.noGoto (bodyPost Tryz.prog Tryz.f148 (fun e w'=>jj .const p w0 x e w')))) { tmps:=#[.pointer (some ⟨p,0,none⟩),u1,u2,.int .i64 3,u4,u5,u6,u7,u8,u9,u10,u11,u12,u13,u14,u15,u16,u17,u18,u19,u20,u21,u22,u23,u24,u25,u26,u27,u28,u29,u30,u31,u32,u33,u34,u35,u36,u37,u38,u39,u40,u41,u42,u43,u44,u45,u46,u47,u48,u49,u50,u51,u52,u53,u54,u55,u56,u57,u58,u59,u60,u61,u62,u63,u64,u65,u66,u67,u68,u69,u70,u71,u72,u73,u74,u75,u76,u77,u78,u79,u80,u81,u82,u83,u84,u85,u86,u87,u88,u89,u90,u91,u92,u93,u94,u95,u96,u97,u98,u99,u100,u101,u102,u103,u104,u105,u106,u107,u108,u109,u110,u111,u112,u113,u114,u115,u116,u117,u118,u119,u120,u121,u122,u123,u124,u125,u126,u127,u128,u129,u130,u131,u132,u133,u134,u135,u136,u137,u138,u139,u140,u141,u142,u143,u144,u145,u146,u147,u148,u149,u150,u151,u152,u153,u154,u155,u156,u157,u158,u159,u160,u161,u162,u163,u164,u165,u166,u167,u168,u169,u170,u171,u172,u173,u174,u175,u176,u177,u178,u179,u180,u181,u182,u183,u184,u185,u186,u187,u188,u189,u190,u191,u192,u193,u194,u195,u196,u197,u198,u199,u200,u201,u202,u203,u204,u205,u206,u207,u208,u209,u210,u211,u212,u213,u214,u215,u216,u217,u218,u219,u220,u221,u222,u223,u224,u225,u226,u227,u228,u229,u230,u231,u232,u233,u234,u235,u236,u237,u238,u239,u240,u241,u242,u243,u244,u245,u246,u247,u248,u249,u250,u251,u252,u253,u254,u255,u256,u257,u258,u259,u260,u261,u262,u263,u264,u265,u266],defers:=[] } w:=by
 refine yez (o:=ctail? Tryz.f148.body) rfl hK ?_;clear hK K;intro K hK;have av:(s.str.length:Int)<=4294967296:=by have:=B.o0;have:=B.o1;have:=B.o2;omega
 have ah:=i.str;have HX:=lh g;clear g
 go_wp2_with fail
 go_step3
 go_wp2_with fail
 clear ah
 go_loopg [5,6] (s.str.length+1) (fun gk dv vv wr=>∃ (k v:Nat) (l:List UInt8),dv=.int .i64 (k:Int)/\vv=.int .u64 (v:Int)/\Hid (l.length+1=gk/\k+l.length=s.str.length)/\RAt wr p (s.go l)/\(s.go l).Wg/\Env p wr/\Upd p w0 wr/\Hid (j5 l k v=j5 s.str 0 0)/\v < 18446744073709551616)
 case atStart=>exact⟨0,0,s.str,rfl,rfl,⟨rfl,by omega⟩,by rw[RS.go_self];exact i,by rw[RS.go_self];exact B,F,q,rfl,by omega⟩
 case round=>
  have E:=HX;clear i B F q HX;obtain⟨k,v,l,rfl,rfl,hH,i,B,F,q,V,hv⟩:=hrel;obtain⟨aa,Q⟩:=hH.out
  cases l with
  | nil=>
   have hs:wr.cell? ⟨p,1,none⟩=some (.string ⟨#[]⟩):=i.str;have H:j5 s.str 0 0=some (k,v,[]):=V.out.symm;have ab:(k:Int)<=4294967296:=by simp at Q;omega
   have g:=E.out;unfold gt at g;rw[show j5 s.str 0 0=some (k,v,[]) from H] at g;simp only at g;clear H E
   by_cases R:k=0
   ·subst R
    rw[if_pos rfl,bindM_fail] at g;obtain rfl:=Option.some.inj g
    go_wp2_with(go_at_call 70;refine(yu i).mono ?_;rintro e O ⟨m,o,u,rfl,n,t⟩)
    exact⟨rfl,m,o,u,rfl,n,q.trans t⟩
   rw[if_neg R] at g;have ac:((k:Int) == 0)=false:=by simp;omega
   clear R;simp only[if_true,Nat.reduceEqDiff,if_false,if_true] at g;unfold yji at g
   by_cases J:1 < k
   ·rw[if_pos J,bindM_fail] at g
    obtain rfl:=Option.some.inj g;have S:(1:Int) < (k:Int):=by omega
    go_wp2_with(go_at_call 70;refine(yu i).mono ?_;rintro e O ⟨m,o,u,rfl,n,t⟩)
    exact⟨rfl,m,o,u,rfl,n,q.trans t⟩
   rw[if_neg J] at g;have S:¬ (1:Int) < (k:Int):=by omega
   by_cases C:v=0
   ·subst C
    rw[if_pos rfl] at g
    go_wp2_with fail
    refine zv [102,97,108,115,101] i B g fun M b z c A=>?_;replace F:=F.upd i c;replace q:=q.trans c;replace i:=b;replace B:=z;replace g:=A;clear b z c A;obtain rfl:=Option.some.inj g;go_wp2
    try rw[Exit.noGoto_normal]
    go_end0;exact⟨⟨rfl,i,q⟩,B⟩
   rw[if_neg C] at g;have W:((v:Int) == 0)=false:=by simp;omega
   by_cases L:v=1
   ·subst L
    rw[if_pos rfl] at g
    go_wp2_with fail
    refine zv [116,114,117,101] i B g fun M b z c A=>?_;replace F:=F.upd i c;replace q:=q.trans c;replace i:=b;replace B:=z;replace g:=A;clear b z c A;obtain rfl:=Option.some.inj g;go_wp2
    try rw[Exit.noGoto_normal]
    go_end0;exact⟨⟨rfl,i,q⟩,B⟩
   rw[if_neg L,bindM_fail] at g;obtain rfl:=Option.some.inj g;have Y:((v:Int) == 1)=false:=by simp;omega
   go_wp2_with(go_at_call 70;refine(yu i).mono ?_;rintro e O ⟨m,o,u,rfl,n,t⟩)
   exact⟨rfl,m,o,u,rfl,n,q.trans t⟩
  | cons d l=>
   have hs:wr.cell? ⟨p,1,none⟩=some (.string ⟨(d::l).toArray⟩):=i.str;have N:Hid ((s.go (d::l)).str=d::l):=rfl;have G:(s.go l).Wg:=(RS.go_go s (d::l) l)▸B.go (r:=l) (by show l.length<=(d::l).length;simp);have aq:(d.toNat:Int)<=255:=by have:=d.toNat_lt;omega
   have ab:(k:Int)<=4294967296:=by simp at Q;omega
   have ar:k+1+l.length=s.str.length/\l.length+1+1=gk:=by simp only[List.length_cons] at aa Q;omega
   have f:=V.out;rw[yd7] at f
   by_cases c95:d=95
   ·subst c95
    rw[if_pos rfl] at f;have H:j5 s.str 0 0=some (k,v,l):=f.symm;clear f
    go_wp2_with fail
    refine(yh i B.wf N).mono ?_;rintro e M ⟨rfl,b,c⟩;rw[RS.go_go] at b;have z:=G;have A:True:=trivial;have g:True:=trivial;replace F:=F.upd i c;replace q:=q.trans c;replace i:=b;replace B:=z;replace g:=A;clear b z c A;clear g;have g:=E.out;unfold gt at g;rw[show j5 s.str 0 0=some (k,v,l) from H] at g;simp only at g;clear H E
    by_cases R:k=0
    ·subst R
     rw[if_pos rfl,bindM_fail] at g;obtain rfl:=Option.some.inj g
     go_wp2_with(go_at_call 70;refine(yu i).mono ?_;rintro e O ⟨m,o,u,rfl,n,t⟩)
     exact⟨rfl,m,o,u,rfl,n,q.trans t⟩
    rw[if_neg R] at g;have ac:((k:Int) == 0)=false:=by simp;omega
    clear R;simp only[if_true,Nat.reduceEqDiff,if_false,if_true] at g;unfold yji at g
    by_cases J:1 < k
    ·rw[if_pos J,bindM_fail] at g
     obtain rfl:=Option.some.inj g;have S:(1:Int) < (k:Int):=by omega
     go_wp2_with(go_at_call 70;refine(yu i).mono ?_;rintro e O ⟨m,o,u,rfl,n,t⟩)
     exact⟨rfl,m,o,u,rfl,n,q.trans t⟩
    rw[if_neg J] at g;have S:¬ (1:Int) < (k:Int):=by omega
    by_cases C:v=0
    ·subst C
     rw[if_pos rfl] at g
     go_wp2_with fail
     refine zv [102,97,108,115,101] i B g fun M b z c A=>?_;replace F:=F.upd i c;replace q:=q.trans c;replace i:=b;replace B:=z;replace g:=A;clear b z c A;obtain rfl:=Option.some.inj g;go_wp2
     try rw[Exit.noGoto_normal]
     go_end0;exact⟨⟨rfl,i,q⟩,B⟩
    rw[if_neg C] at g;have W:((v:Int) == 0)=false:=by simp;omega
    by_cases L:v=1
    ·subst L
     rw[if_pos rfl] at g
     go_wp2_with fail
     refine zv [116,114,117,101] i B g fun M b z c A=>?_;replace F:=F.upd i c;replace q:=q.trans c;replace i:=b;replace B:=z;replace g:=A;clear b z c A;obtain rfl:=Option.some.inj g;go_wp2
     try rw[Exit.noGoto_normal]
     go_end0;exact⟨⟨rfl,i,q⟩,B⟩
    rw[if_neg L,bindM_fail] at g;obtain rfl:=Option.some.inj g;have Y:((v:Int) == 1)=false:=by simp;omega
    go_wp2_with(go_at_call 70;refine(yu i).mono ?_;rintro e O ⟨m,o,u,rfl,n,t⟩)
    exact⟨rfl,m,o,u,rfl,n,q.trans t⟩
   rw[if_neg c95] at f;have al:((d.toNat:Int) == 95)=false:=by simp;intro h;exact c95 (UInt8.toNat_inj.1 (by show d.toNat=95;omega))
   clear c95
   by_cases hd:gu d.toNat < 0
   ·rw[if_pos hd] at f
    have g:=E.out;unfold gt at g;rw[<-f] at g;obtain rfl:=Option.some.inj g;have af:¬ (48<=(d.toNat:Int)/\(d.toNat:Int)<=57)/\¬ (97<=(d.toNat:Int)/\(d.toNat:Int)<=102):=by
     unfold gu at hd
     split at hd
     ·omega
     ·split at hd
      ·omega
      ·exact⟨by assumption,by assumption⟩
    have ad:decide (48<=(d.toNat:Int))=false\/decide (48<=(d.toNat:Int))=true/\decide ((d.toNat:Int)<=57)=false:=by simp only[decide_eq_false_iff_not,decide_eq_true_eq];omega
    have ae:decide (97<=(d.toNat:Int))=false\/decide (97<=(d.toNat:Int))=true/\decide ((d.toNat:Int)<=102)=false:=by simp only[decide_eq_false_iff_not,decide_eq_true_eq];omega
    clear hd af f g E V
    rcases ad with a1|⟨a1,a2⟩<;>rcases ae with b1|⟨b1,b2⟩
    all_goals
     go_wp2_with(go_at_call 70;refine(yu i).mono ?_;rintro e O ⟨m,o,u,rfl,n,t⟩)
     exact⟨rfl,m,o,u,rfl,n,q.trans t⟩
   rw[if_neg hd] at f;have ag:(48<=(d.toNat:Int)/\(d.toNat:Int)<=57)\/(97<=(d.toNat:Int)/\(d.toNat:Int)<=102):=by
    unfold gu at hd
    split at hd
    ·exact .inl (by assumption)
    ·split at hd
     ·exact .inr (by assumption)
     ·omega
   have Z:(v:Int) < 18446744073709551616:=by omega
   clear hd
   rcases ag with⟨r1,r2⟩|⟨r1,r2⟩
   ·have T:gu d.toNat=(d.toNat:Int)-48:=by unfold gu;rw[if_pos ⟨r1,r2⟩]
    rw[T] at f;clear T
    by_cases C:v=0
    ·subst C
     by_cases I:(d.toNat:Int)-48=0
     ·have am:(d.toNat:Int)=48:=by omega
      obtain rfl:d=48:=UInt8.toNat_inj.1 (by show d.toNat=48;omega)
      cases l with
      | nil=>
       rw[if_pos ⟨rfl,I,by simp⟩] at f;have g:=E.out;unfold gt at g;rw[<-f] at g;obtain rfl:=Option.some.inj g;clear g E V f
       go_wp2_with fail
       refine(yh i B.wf N).mono ?_;rintro e M ⟨rfl,b,c⟩;rw[RS.go_go] at b;have D:=F.upd i c;have y:=q.trans c;have j:=b.str;rw[show(s.go []).str=[] from rfl] at j;replace i:=b;replace q:=y;clear b c y
       go_wp2_with(go_at_call 70;refine(yu i).mono ?_;rintro e O ⟨m,o,u,rfl,n,t⟩)
       exact⟨rfl,m,o,u,rfl,n,q.trans t⟩
      | cons d2 l=>
       by_cases c2:d2=95
       ·subst c2
        rw[if_neg (by simp)] at f;replace f:j5 (95::l) (k+1) ((0*16+((((48:UInt8).toNat:Int)-48)).toNat) % 18446744073709551616)=j5 s.str 0 0:=f
        go_wp2_with fail
        refine(yh i B.wf N).mono ?_;rintro e M ⟨rfl,b,c⟩;rw[RS.go_go] at b;have D:=F.upd i c;have y:=q.trans c;have j:=b.str;rw[show(s.go (95::l)).str=95::l from rfl] at j;go_wp2
        go_roundg ((95::l).length+1)
        case measure=>omega
        case rel=>exact⟨k+1,_,95::l,by go_num,rfl,⟨rfl,by omega⟩,b,G,D,y,f,by decide⟩
       ·rw[if_pos ⟨rfl,I,by simpa using c2⟩] at f
        have g:=E.out;unfold gt at g;rw[<-f] at g;obtain rfl:=Option.some.inj g;have ao:((d2.toNat:Int) != 95)=true:=by simp;intro h;exact c2 (UInt8.toNat_inj.1 (by show d2.toNat=95;omega))
        clear g E V f c2
        go_wp2_with fail
        refine(yh i B.wf N).mono ?_;rintro e M ⟨rfl,b,c⟩;rw[RS.go_go] at b;have D:=F.upd i c;have y:=q.trans c;have j:=b.str;rw[show(s.go (d2::l)).str=d2::l from rfl] at j;replace i:=b;replace q:=y;clear b c y
        go_wp2_with(go_at_call 70;refine(yu i).mono ?_;rintro e O ⟨m,o,u,rfl,n,t⟩)
        exact⟨rfl,m,o,u,rfl,n,q.trans t⟩
     ·rw[if_neg (by rintro ⟨-,h,-⟩;exact I h)] at f
      have U:(((d.toNat:Int)-48) == 0)=false:=by simp;omega
      have P:=lh f;clear f
      go_wp2_with fail
      refine(yh i B.wf N).mono ?_;rintro e M ⟨rfl,b,c⟩;rw[RS.go_go] at b;have D:=F.upd i c;have y:=q.trans c;have j:=b.str;rw[show(s.go l).str=l from rfl] at j;go_wp2
      go_roundg (l.length+1)
      case measure=>omega
      case rel=>exact⟨k+1,(0*16+((d.toNat:Int)-48).toNat) % 18446744073709551616,l,by go_num,by first|(rw[kh _ _ (by omega)])|go_num,⟨rfl,by omega⟩,b,G,D,y,P.out,Nat.mod_lt _ (by omega)⟩
    ·rw[if_neg (by rintro ⟨h,-⟩;exact C h)] at f
     have X:((v:Int) == 0)=false:=by simp;omega
     clear Z hv C;have P:=lh f;clear f
     go_wp2_with fail
     refine(yh i B.wf N).mono ?_;rintro e M ⟨rfl,b,c⟩;rw[RS.go_go] at b;have D:=F.upd i c;have y:=q.trans c;have j:=b.str;rw[show(s.go l).str=l from rfl] at j;go_wp2
     go_roundg (l.length+1)
     case measure=>omega
     case rel=>exact⟨k+1,(v*16+((d.toNat:Int)-48).toNat) % 18446744073709551616,l,by go_num,by first|(rw[kh _ _ (by omega)])|go_num,⟨rfl,by omega⟩,b,G,D,y,P.out,Nat.mod_lt _ (by omega)⟩
   ·have T:gu d.toNat=(d.toNat:Int)-97+10:=by unfold gu;rw[if_neg (by omega),if_pos ⟨r1,r2⟩]
    rw[T] at f;clear T
    by_cases C:v=0
    ·subst C
     by_cases I:(d.toNat:Int)-97+10=0
     ·omega
     ·rw[if_neg (by rintro ⟨-,h,-⟩;exact I h)] at f
      have U:(((d.toNat:Int)-97+10) == 0)=false:=by simp;omega
      have P:=lh f;clear f
      go_wp2_with fail
      refine(yh i B.wf N).mono ?_;rintro e M ⟨rfl,b,c⟩;rw[RS.go_go] at b;have D:=F.upd i c;have y:=q.trans c;have j:=b.str;rw[show(s.go l).str=l from rfl] at j;go_wp2
      go_roundg (l.length+1)
      case measure=>omega
      case rel=>exact⟨k+1,(0*16+((d.toNat:Int)-97+10).toNat) % 18446744073709551616,l,by go_num,by first|(rw[kh _ _ (by omega)])|go_num,⟨rfl,by omega⟩,b,G,D,y,P.out,Nat.mod_lt _ (by omega)⟩
    ·rw[if_neg (by rintro ⟨h,-⟩;exact C h)] at f
     have X:((v:Int) == 0)=false:=by simp;omega
     clear Z hv C;have P:=lh f;clear f
     go_wp2_with fail
     refine(yh i B.wf N).mono ?_;rintro e M ⟨rfl,b,c⟩;rw[RS.go_go] at b;have D:=F.upd i c;have y:=q.trans c;have j:=b.str;rw[show(s.go l).str=l from rfl] at j;go_wp2
     go_roundg (l.length+1)
     case measure=>omega
     case rel=>exact⟨k+1,(v*16+((d.toNat:Int)-97+10).toNat) % 18446744073709551616,l,by go_num,by first|(rw[kh _ _ (by omega)])|go_num,⟨rfl,by omega⟩,b,G,D,y,P.out,Nat.mod_lt _ (by omega)⟩
end Go.Proofs.YtfckcdbpiepchaaGreatDoor
