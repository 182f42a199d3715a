import PyProof.Rows.All
import Wide.All
import OpenK.AllK
import Wide.FinOn
import KE.KDictIter
import KE.KNest
import Lean
import PySem.Challenge.RW_io0008_01
set_option maxHeartbeats 4000000
set_option Elab.async false
set_option maxRecDepth 100000
set_option autoImplicit false
set_option genSizeOf false
set_option tactic.hygienic false
set_option linter.all false
open PySem.Str renaming ofString → cs,length_append → z1,cps_append → Gy,empty → GZ
open Int renaming ofNat → ct,negSucc → kV,natCast_nonneg → z2,ofNat_le → Gi,fmod_eq_emod_of_nonneg → He,ofNat_lt → Hw,eq_ofNat_of_zero_le → Ix,toNat_natCast → IK,le_trans → IN,ofNat_inj → JJ
open PySem renaming Addr → cv,Value → da,Shared → dd,wpAny_bind → dV,Params → ed,wpAny → eo,wpAny_mono → ex,wpAny_pure → eM,Stmt → k0,Pos → nR,wpAny_execs_cons → pp,sizeLine → p9,execs → un,isTrue → A0,Program → A8,wpAny_holding → A9,wpAny_execs_nil → Gc,Heap → Gm,eval → Gu,World → Gv,FuncData → Gx,mainGlobals → GH,Around → GI,model → GO,builtinLookup_eq_fast → GU,seqIndex? → G5,starEach → G8,wpAny_standAt → Hc,Flow → Hj,Sem → Hk,builtinsNs → Hl,Obj → Hn,wpAny_isTrue_Compare1 → HE,sizeLine_eq → HF,typeLookup_type → HI,wpAny_call → HJ,bindArgs → HK,wpAny_truthy_bool → HM,Operator → HV,backTo → H9,CmpOp → Ia,valueAt → Ib,swappedStores → Ic,codeAny_whileLoop → Ii,Model → Ij,entryFor_of_tree → Ir,compareOp → IC,getMethod_builtin → IG,wpAny_Return_some → IJ,exec → IP,codeAny_call_function → IR,DictEntry → IY,wpAny_load → I1,assign → I5,behindInMarks → I7,methodCallPos → I8,Builtin → I9,keywordEach → Ja,letOwnedTupleGo → Jg,wpAny_Constant_int → Jo,isSubtype_type → Jp,wpAny_loadPart → Jq,strKind_is → Jr,methodCallForm → Js,callEnv → Ju,wpAny_of_eq → JD,wpAny_While → JF,strKind → JH,checkBuiltinCall → JL,wpAny_call_entry → JM,getMethod → JQ,codeAny → JU,wpAny_loadName_local → JW,argsOk → JX,truthy → JY,codeAny_builtin → JZ,wpAny_operating → J1,wpAny_newFunctionEnv → J2,length_partsBetween → J8,NameKind → J9,keeperOf → Ka,callWith → Kb,backToKw → Kc,arm_eval_BinOp → Kd,wpAny_newTuple → Ke,wpAny_If → Kf,Setting → Ki,wpAny_alloc → Kj,isSubtype → Kk
open Option.some renaming inj → ds
open Nat renaming lt_of_lt_of_le → fa,le_refl → fx,le_trans → h9,le_succ_of_le → oa,le_add_right → og,not_lt_zero → o1,lt_succ_self → ph,sub_add_cancel → pm,le_of_ble_eq_true → ro,zero_le → so,eq_of_beq_eq_true → ui,casesOn → Ge,not_lt → Go,le_add_left → Gz,succ_le_succ → GB,sub_self → GC,le_succ → GL,ble_eq_true_of_le → GQ,min_eq_left → GW,min_le_left → GY,blt → G6,le_of_eq → Ha,le_of_succ_le → Hg,add_le_add_left → Hh,succ_ne_zero → Hp,lt_irrefl → HA,min_le_right → HC,ne_of_lt → HG,zero_add → HY,ne_of_gt → Iq,min_eq_right → Iu,ble → Iy,lt_of_le_of_lt → IA,le_of_lt → IM,add_lt_add_left → Jb,pos_of_ne_zero → Ji,add_comm → Jm,add_sub_cancel_left → Jy,lt_add_of_pos_right → Jz,le_of_succ_le_succ → JG,succ_pos → J3,sub_le → J5
open PySem.Txt renaming join → f1,slice → i0,rfind → Gs,startswith → GV,replace → Hy,split → ID,item → I2,rstripChars → Jc,endswith → Jj
open List renaming getElem?_append_right → gv,getElem?_eq_some_iff → hX,mem_cons_self → il,length_append → is,mem_cons_of_mem → iv,length_cons → ix,getElem?_append_left → i1,getElem?_eq_getElem → kn,casesOn → kv,mem_of_getElem? → lf,mem_singleton → mx,append_assoc → oq,length_map → pg,length_take → p7,mem_cons → q4,mem_append → sz,getElem?_take → FD,foldl_cons → Gd,all_eq_true → Gf,take_append_drop → Gg,nodup_append → Gn,length_singleton → Gr,replicate_succ → GD,map_cons → GJ,nodup_cons → GK,take_of_length_le → GN,getElem?_cons_succ → G7,dropLast_subset → G9,mem_iff_getElem? → Ho,cons_ne_nil → Hq,mem_map → Hr,replicate → Ht,length_eq_zero_iff → Hu,map_append → Hv,not_mem_nil → HB,append_nil → HL,take_add_one → HO,foldl_append → HQ,eq_nil_of_length_eq_zero → HR,cons_append → HU,take_length → HW,range' → HX,mem_of_mem_take → Ik,getElem?_drop → IB,map → IE,take_append_of_le_length → IF,getElem?_map → II,mem_append_right → IS,getElem?_eq_none → IT,singleton_append → IV,eq_nil_or_concat → IW,concat_eq_append → IX,length_drop → I0,length_dropLast → I3,perm_middle → I4,all_cons → I6,getLast?_eq_getElem? → Jd,drop_eq_getElem_cons → Je,getElem?_eq_none_iff → Jf,drop_zero → Jt,getLast?_cons_cons → Jx,reverse_cons → JC,any_cons → JI,lookup_cons → JK,take → JS,length_nil → J4,dropLast_concat → J6,nil_append → J7,drop_drop → Kg
open PySem.Heap renaming get?_push_of_some → g0,size_push → sm,lt_size → wl,get?_push_size → Gl,get?_update_self → HD,SameBut → HH
open Array renaming length_toList → iy,toList_append → wh,getElem?_toList → GE,getElem?_eq_getElem → Hm,any_toList → It
open Bool renaming and_eq_true → lq,and_eq_true_iff → vl,false_ne_true → Gp,or_eq_false_iff → Il,eq_false_iff → JA,not_eq_true' → JB
open Option renaming map_eq_some_iff → mr,map → Gh,isSome_iff_exists → Gj,bind_eq_some_iff → Gk,casesOn → IL
open PySem.Expr renaming casesOn → p8
open False renaming elim → sq
open PyProof.Rows renaming StrsAre → Gq,subscriptTail → GP,tail_any → JO
open PySem.W renaming Frag → Gw,Looks → Hz,findIn → Ih,emptyDict → Im,codeRec_of → Jv,instObj → Jw,plainGet_of → JE,plainGet → JN,hasDictIn → JR,looks_findIn → J0
open List.cons renaming inj → Hb
open PySem.PyData renaming keyHash → Hf
open PySem.Keeper renaming boundFrame → HN,machine → Ip,frame → IQ
open PySem.Value.ref renaming inj → HT
open Nat.succ renaming inj → HZ
open PySem.Sre renaming Seen → Ie,M → Jh
open PySem.W.Looks renaming of_peek → Ig
open Inhabited renaming default → Io
open PySem.Heap.SameBut renaming update → Iv
open PySem.Expr.Attribute renaming elim → Iw
open PySem.Obj renaming mapFields → Iz
open PySem.W.KPc renaming short_good → IU
open PySem.Builtin.Str renaming strSliceIndices → IZ
open ToString renaming toString → Jk
open Prod renaming snd → Jl,fst → JP
open PySem.StrLaws renaming join_split → Jn,glued_eq_join → JV
open LawfulBEq renaming eq_of_beq → JT
open PySem.Sre.M renaming admitted → Kh
open PySem.Value renaming ref → Kl
section
namespace Mine
theorem KP:True:=⟨⟩
universe u
@[elab_as_elim] theorem rwI {d:Sort u} {a b:d} {c:d→Prop} (h:a=b) (k:c b):c a:=h▸k
@[elab_as_elim] theorem rwJ {d:Sort u} {a b:d} {c:d→Prop} (h:a=b) (k:c a):c b:=h▸k
theorem ai{p0 a:Prop}{G:Prop}(h:p0∧a)(k:p0→a→G):G:=by obtain⟨b,h1⟩:=h;exact k b h1
theorem ax{p0 a b:Prop}{G:Prop}(h:p0∧a∧b)(k:p0→a→b→G):G:=by obtain⟨c,h1,h2⟩:=h;exact k c h1 h2
theorem gl{p0 a b c:Prop}{G:Prop}(h:p0∧a∧b∧c)(k:p0→a→b→c→G):G:=by obtain⟨d,h1,h2,h3⟩:=h;exact k d h1 h2 h3
theorem fK{p0 a c d b:Prop}{G:Prop}(h:p0∧a∧c∧d∧b)(k:p0→a→c→d→b→G):G:=by obtain⟨e,h1,h2,h3,f⟩:=h;exact k e h1 h2 h3 f
theorem nz{p0 a d e c b:Prop}{G:Prop}(h:p0∧a∧d∧e∧c∧b)(k:p0→a→d→e→c→b→G):G:=by obtain⟨f,h1,h2,h3,g,i⟩:=h;exact k f h1 h2 h3 g i
theorem FZ{p0 a d e c b f:Prop}{G:Prop}(h:p0∧a∧d∧e∧c∧b∧f)(k:p0→a→d→e→c→b→f→G):G:=by obtain⟨g,h1,h2,h3,j,l,i⟩:=h;exact k g h1 h2 h3 j l i
theorem FY{p0 c a f g d b e i:Prop}{G:Prop}(h:p0∧c∧a∧f∧g∧d∧b∧e∧i)(k:p0→c→a→f→g→d→b→e→i→G):G:=by obtain⟨j,h1,h2,h3,m,p,n,o,l⟩:=h;exact k j h1 h2 h3 m p n o l
theorem xR{p0 e c j l f d i m g a:Prop}{G:Prop}(h:p0∧e∧c∧j∧l∧f∧d∧i∧m∧g∧a)(k:p0→e→c→j→l→f→d→i→m→g→a→G):G:=by obtain⟨n,h1,h2,h3,p,s,q,r,o,t,b⟩:=h;exact k n h1 h2 h3 p s q r o t b
theorem au{b:Type}{p0:b→Prop}{G:Prop}(h:∃a,p0 a)(k:∀a,p0 a→G):G:=by obtain⟨a,c⟩:=h;exact k a c
theorem ab{c:Type}{p0 b:c→Prop}{G:Prop}(h:∃a,p0 a∧b a)(k:∀a,p0 a→b a→G):G:=by obtain⟨a,d,h1⟩:=h;exact k a d h1
theorem eh{d:Type}{p0 b c:d→Prop}{G:Prop}(h:∃a,p0 a∧b a∧c a)(k:∀a,p0 a→b a→c a→G):G:=by obtain⟨a,e,h1,h2⟩:=h;exact k a e h1 h2
theorem ny{e:Type}{p0 b c d:e→Prop}{G:Prop}(h:∃a,p0 a∧b a∧c a∧d a)(k:∀a,p0 a→b a→c a→d a→G):G:=by obtain⟨a,f,h1,h2,h3⟩:=h;exact k a f h1 h2 h3
theorem xg{f:Type}{p0 b d e c:f→Prop}{G:Prop}(h:∃a,p0 a∧b a∧d a∧e a∧c a)(k:∀a,p0 a→b a→d a→e a→c a→G):G:=by obtain⟨a,g,h1,h2,h3,i⟩:=h;exact k a g h1 h2 h3 i
theorem nw{c e:Type}{p0:c→e→Prop}{G:Prop}(h:∃b,∃a,p0 b a)(k:∀b a,p0 b a→G):G:=by obtain⟨b,a,d⟩:=h;exact k b a d
theorem aS{d f:Type}{p0 c:d→f→Prop}{G:Prop}(h:∃b,∃a,p0 b a∧c b a)(k:∀b a,p0 b a→c b a→G):G:=by obtain⟨b,a,e,h1⟩:=h;exact k b a e h1
theorem bg{e g:Type}{p0 c d:e→g→Prop}{G:Prop}(h:∃b,∃a,p0 b a∧c b a∧d b a)(k:∀b a,p0 b a→c b a→d b a→G):G:=by obtain⟨b,a,f,h1,h2⟩:=h;exact k b a f h1 h2
theorem sI{f i:Type}{p0 c d e:f→i→Prop}{G:Prop}(h:∃b,∃a,p0 b a∧c b a∧d b a∧e b a)(k:∀b a,p0 b a→c b a→d b a→e b a→G):G:=by obtain⟨b,a,g,h1,h2,h3⟩:=h;exact k b a g h1 h2 h3
theorem Gb{g l:Type}{p0 c e f d:g→l→Prop}{G:Prop}(h:∃b,∃a,p0 b a∧c b a∧e b a∧f b a∧d b a)(k:∀b a,p0 b a→c b a→e b a→f b a→d b a→G):G:=by obtain⟨b,a,i,h1,h2,h3,j⟩:=h;exact k b a i h1 h2 h3 j
theorem FX{m l:Type}{p0 d c f g e:m→l→Prop}{G:Prop}(h:∃a,∃b,p0 a b∧d a b∧c a b∧f a b∧g a b∧e a b)(k:∀a b,p0 a b→d a b→c a b→f a b→g a b→e a b→G):G:=by obtain⟨a,b,i,h1,h2,h3,j,n⟩:=h;exact k a b i h1 h2 h3 j n
theorem B8{d g f:Type}{p0:d→g→f→Prop}{G:Prop}(h:∃c,∃a,∃b,p0 c a b)(k:∀c a b,p0 c a b→G):G:=by obtain⟨c,a,b,e⟩:=h;exact k c a b e
theorem dW{e i g:Type}{p0 d:e→i→g→Prop}{G:Prop}(h:∃c,∃a,∃b,p0 c a b∧d c a b)(k:∀c a b,p0 c a b→d c a b→G):G:=by obtain⟨c,a,b,f,h1⟩:=h;exact k c a b f h1
theorem jz{f j i:Type}{p0 d e:f→j→i→Prop}{G:Prop}(h:∃c,∃a,∃b,p0 c a b∧d c a b∧e c a b)(k:∀c a b,p0 c a b→d c a b→e c a b→G):G:=by obtain⟨c,a,b,g,h1,h2⟩:=h;exact k c a b g h1 h2
theorem B7{g l j:Type}{p0 d e f:g→l→j→Prop}{G:Prop}(h:∃c,∃a,∃b,p0 c a b∧d c a b∧e c a b∧f c a b)(k:∀c a b,p0 c a b→d c a b→e c a b→f c a b→G):G:=by obtain⟨c,a,b,i,h1,h2,h3⟩:=h;exact k c a b i h1 h2 h3
theorem FW{o n m:Type}{p0 e d g i f:o→n→m→Prop}{G:Prop}(h:∃a,∃b,∃c,p0 a b c∧e a b c∧d a b c∧g a b c∧i a b c∧f a b c)(k:∀a b c,p0 a b c→e a b c→d a b c→g a b c→i a b c→f a b c→G):G:=by obtain⟨a,b,c,j,h1,h2,h3,l,p⟩:=h;exact k a b c j h1 h2 h3 l p
theorem FV{e i g j:Type}{p0:e→i→g→j→Prop}{G:Prop}(h:∃d,∃b,∃c,∃a,p0 d b c a)(k:∀d b c a,p0 d b c a→G):G:=by obtain⟨d,b,c,a,f⟩:=h;exact k d b c a f
theorem xf{f j i l:Type}{p0 e:f→j→i→l→Prop}{G:Prop}(h:∃d,∃b,∃c,∃a,p0 d b c a∧e d b c a)(k:∀d b c a,p0 d b c a→e d b c a→G):G:=by obtain⟨d,b,c,a,g,h1⟩:=h;exact k d b c a g h1
theorem jy{g l j m:Type}{p0 e f:g→l→j→m→Prop}{G:Prop}(h:∃d,∃b,∃c,∃a,p0 d b c a∧e d b c a∧f d b c a)(k:∀d b c a,p0 d b c a→e d b c a→f d b c a→G):G:=by obtain⟨d,b,c,a,i,h1,h2⟩:=h;exact k d b c a i h1 h2
theorem nv{m l j n:Type}{p0 f e g:m→l→j→n→Prop}{G:Prop}(h:∃a,∃b,∃d,∃c,p0 a b d c∧f a b d c∧e a b d c∧g a b d c)(k:∀a b d c,p0 a b d c→f a b d c→e a b d c→g a b d c→G):G:=by obtain⟨a,b,d,c,i,h1,h2,h3⟩:=h;exact k a b d c i h1 h2 h3
theorem dJ{o n m p:Type}{p0 f e g i:o→n→m→p→Prop}{G:Prop}(h:∃a,∃b,∃d,∃c,p0 a b d c∧f a b d c∧e a b d c∧g a b d c∧i a b d c)(k:∀a b d c,p0 a b d c→f a b d c→e a b d c→g a b d c→i a b d c→G):G:=by obtain⟨a,b,d,c,j,h1,h2,h3,l⟩:=h;exact k a b d c j h1 h2 h3 l
theorem sH{p o n r:Type}{p0 f e i j g:p→o→n→r→Prop}{G:Prop}(h:∃a,∃b,∃d,∃c,p0 a b d c∧f a b d c∧e a b d c∧i a b d c∧j a b d c∧g a b d c)(k:∀a b d c,p0 a b d c→f a b d c→e a b d c→i a b d c→j a b d c→g a b d c→G):G:=by obtain⟨a,b,d,c,l,h1,h2,h3,m,q⟩:=h;exact k a b d c l h1 h2 h3 m q
theorem xe{n m l o i:Type}{p0 g f:n→m→l→o→i→Prop}{G:Prop}(h:∃a,∃b,∃e,∃c,∃d,p0 a b e c d∧g a b e c d∧f a b e c d)(k:∀a b e c d,p0 a b e c d→g a b e c d→f a b e c d→G):G:=by obtain⟨a,b,e,c,d,j,h1,h2⟩:=h;exact k a b e c d j h1 h2
theorem FU{o n m p j:Type}{p0 g f i:o→n→m→p→j→Prop}{G:Prop}(h:∃a,∃b,∃e,∃c,∃d,p0 a b e c d∧g a b e c d∧f a b e c d∧i a b e c d)(k:∀a b e c d,p0 a b e c d→g a b e c d→f a b e c d→i a b e c d→G):G:=by obtain⟨a,b,e,c,d,l,h1,h2,h3⟩:=h;exact k a b e c d l h1 h2 h3
theorem FT{p o n q i m j:Type}{p0:p→o→n→q→i→m→j→Prop}{G:Prop}(h:∃a,∃b,∃g,∃c,∃e,∃d,∃f,p0 a b g c e d f)(k:∀a b g c e d f,p0 a b g c e d f→G):G:=by obtain⟨a,b,g,c,e,d,f,l⟩:=h;exact k a b g c e d f l
theorem an{p0 a:Prop}(b:p0)(h1:a):p0∧a:=⟨b,h1⟩
theorem cB{p0 a b:Prop}(c:p0)(h1:a)(h2:b):p0∧a∧b:=⟨c,h1,h2⟩
theorem iB{p0 a b c:Prop}(d:p0)(h1:a)(h2:b)(h3:c):p0∧a∧b∧c:=⟨d,h1,h2,h3⟩
theorem lJ{p0 a c d b:Prop}(e:p0)(h1:a)(h2:c)(h3:d)(f:b):p0∧a∧c∧d∧b:=⟨e,h1,h2,h3,f⟩
theorem xd{p0 a d e c b:Prop}(f:p0)(h1:a)(h2:d)(h3:e)(g:c)(h:b):p0∧a∧d∧e∧c∧b:=⟨f,h1,h2,h3,g,h⟩
theorem fJ{b:Type}{p0:b→Prop}(a:b)(c:p0 a):∃a,p0 a:=⟨a,c⟩
theorem ah{c:Type}{p0 b:c→Prop}(a:c)(d:p0 a)(h1:b a):∃a,p0 a∧b a:=⟨a,d,h1⟩
theorem iA{c:Type}{p0 b d:c→Prop}(a:c)(e:p0 a)(h1:b a)(h2:d a):∃a,p0 a∧b a∧d a:=⟨a,e,h1,h2⟩
theorem iz{c:Type}{p0 b d e:c→Prop}(a:c)(f:p0 a)(h1:b a)(h2:d a)(h3:e a):∃a,p0 a∧b a∧d a∧e a:=⟨a,f,h1,h2,h3⟩
theorem FS{c:Type}{p0 b e f d:c→Prop}(a:c)(g:p0 a)(h1:b a)(h2:e a)(h3:f a)(h:d a):∃a,p0 a∧b a∧e a∧f a∧d a:=⟨a,g,h1,h2,h3,h⟩
theorem sG{c d:Type}{p0:c→d→Prop}(b:c)(a:d)(e:p0 b a):∃b,∃a,p0 b a:=⟨b,a,e⟩
theorem eS{d e:Type}{p0 c:d→e→Prop}(b:d)(a:e)(f:p0 b a)(h1:c b a):∃b,∃a,p0 b a∧c b a:=⟨b,a,f,h1⟩
theorem ff{d f:Type}{p0 c e:d→f→Prop}(b:d)(a:f)(g:p0 b a)(h1:c b a)(h2:e b a):∃b,∃a,p0 b a∧c b a∧e b a:=⟨b,a,g,h1,h2⟩
theorem nt{d g:Type}{p0 c e f:d→g→Prop}(b:d)(a:g)(h:p0 b a)(h1:c b a)(h2:e b a)(h3:f b a):∃b,∃a,p0 b a∧c b a∧e b a∧f b a:=⟨b,a,h,h1,h2,h3⟩
theorem FR{e i:Type}{p0 c g h f d:e→i→Prop}(b:e)(a:i)(j:p0 b a)(h1:c b a)(h2:g b a)(h3:h b a)(k:f b a)(l:d b a):∃b,∃a,p0 b a∧c b a∧g b a∧h b a∧f b a∧d b a:=⟨b,a,j,h1,h2,h3,k,l⟩
theorem B6{d f e:Type}{p0:d→f→e→Prop}(c:d)(a:f)(b:e)(g:p0 c a b):∃c,∃a,∃b,p0 c a b:=⟨c,a,b,g⟩
theorem sF{e g f:Type}{p0 d:e→g→f→Prop}(c:e)(a:g)(b:f)(h:p0 c a b)(h1:d c a b):∃c,∃a,∃b,p0 c a b∧d c a b:=⟨c,a,b,h,h1⟩
theorem FQ{e h f:Type}{p0 d g:e→h→f→Prop}(c:e)(a:h)(b:f)(i:p0 c a b)(h1:d c a b)(h2:g c a b):∃c,∃a,∃b,p0 c a b∧d c a b∧g c a b:=⟨c,a,b,i,h1,h2⟩
theorem lI{e i f:Type}{p0 d g h:e→i→f→Prop}(c:e)(a:i)(b:f)(j:p0 c a b)(h1:d c a b)(h2:g c a b)(h3:h c a b):∃c,∃a,∃b,p0 c a b∧d c a b∧g c a b∧h c a b:=⟨c,a,b,j,h1,h2,h3⟩
theorem B5{e j f:Type}{p0 d h i g:e→j→f→Prop}(c:e)(a:j)(b:f)(k:p0 c a b)(h1:d c a b)(h2:h c a b)(h3:i c a b)(l:g c a b):∃c,∃a,∃b,p0 c a b∧d c a b∧h c a b∧i c a b∧g c a b:=⟨c,a,b,k,h1,h2,h3,l⟩
theorem FP{e g f h:Type}{p0:e→g→f→h→Prop}(d:e)(b:g)(c:f)(a:h)(i:p0 d b c a):∃d,∃b,∃c,∃a,p0 d b c a:=⟨d,b,c,a,i⟩
theorem fc{f i g j:Type}{p0 e h:f→i→g→j→Prop}(d:f)(b:i)(c:g)(a:j)(k:p0 d b c a)(h1:e d b c a)(h2:h d b c a):∃d,∃b,∃c,∃a,p0 d b c a∧e d b c a∧h d b c a:=⟨d,b,c,a,k,h1,h2⟩
theorem FN{f j g k:Type}{p0 e h i:f→j→g→k→Prop}(d:f)(b:j)(c:g)(a:k)(l:p0 d b c a)(h1:e d b c a)(h2:h d b c a)(h3:i d b c a):∃d,∃b,∃c,∃a,p0 d b c a∧e d b c a∧h d b c a∧i d b c a:=⟨d,b,c,a,l,h1,h2,h3⟩
theorem FM{f k g l:Type}{p0 e i j h:f→k→g→l→Prop}(d:f)(b:k)(c:g)(a:l)(m:p0 d b c a)(h1:e d b c a)(h2:i d b c a)(h3:j d b c a)(n:h d b c a):∃d,∃b,∃c,∃a,p0 d b c a∧e d b c a∧i d b c a∧j d b c a∧h d b c a:=⟨d,b,c,a,m,h1,h2,h3,n⟩
theorem iw{k j h m:Type}{p0 f e i l g:k→j→h→m→Prop}(a:k)(b:j)(d:h)(c:m)(n:p0 a b d c)(h1:f a b d c)(h2:e a b d c)(h3:i a b d c)(o:l a b d c)(p:g a b d c):∃a,∃b,∃d,∃c,p0 a b d c∧f a b d c∧e a b d c∧i a b d c∧l a b d c∧g a b d c:=⟨a,b,d,c,n,h1,h2,h3,o,p⟩
theorem B1{m l j o:Type}{p0 g e k n h f i:m→l→j→o→Prop}(a:m)(b:l)(d:j)(c:o)(p:p0 a b d c)(h1:g a b d c)(h2:e a b d c)(h3:k a b d c)(q:n a b d c)(t:h a b d c)(r:f a b d c)(s:i a b d c):∃a,∃b,∃d,∃c,p0 a b d c∧g a b d c∧e a b d c∧k a b d c∧n a b d c∧h a b d c∧f a b d c∧i a b d c:=⟨a,b,d,c,p,h1,h2,h3,q,t,r,s⟩
theorem eR{g k i l h:Type}{p0 f j:g→k→i→l→h→Prop}(e:g)(c:k)(d:i)(a:l)(b:h)(m:p0 e c d a b)(h1:f e c d a b)(h2:j e c d a b):∃e,∃c,∃d,∃a,∃b,p0 e c d a b∧f e c d a b∧j e c d a b:=⟨e,c,d,a,b,m,h1,h2⟩
theorem FL{g l i m h:Type}{p0 f j k:g→l→i→m→h→Prop}(e:g)(c:l)(d:i)(a:m)(b:h)(n:p0 e c d a b)(h1:f e c d a b)(h2:j e c d a b)(h3:k e c d a b):∃e,∃c,∃d,∃a,∃b,p0 e c d a b∧f e c d a b∧j e c d a b∧k e c d a b:=⟨e,c,d,a,b,n,h1,h2,h3⟩
theorem FK{i m l n j h k:Type}{p0:i→m→l→n→j→h→k→Prop}(g:i)(d:m)(e:l)(a:n)(b:j)(f:h)(c:k)(o:p0 g d e a b f c):∃g,∃d,∃e,∃a,∃b,∃f,∃c,p0 g d e a b f c:=⟨g,d,e,a,b,f,c,o⟩
end Mine
end
local macro_rules | `(tactic| rwa [$h:term]) => `(tactic| refine Mine.rwI $h ?_)
local macro_rules | `(tactic| rwa [← $h:term]) => `(tactic| refine Mine.rwJ $h ?_)
local macro_rules | `(tactic| rwa [$r:rwRule, $rs:rwRule,*]) => `(tactic| (rwa [$r:rwRule]; rwa [$rs:rwRule,*]))
local macro_rules | `(tactic| show $t) => `(tactic| refine (?_ : $t))
section
open PySem PySem.W PyProof.Rows
namespace PySem.W.Fast
def tw13145125596335152023:=Nat
def tw12674565591061545060:=Nat
def tw16494616584097029746:=Nat
def tw17303753813447770047:=Nat
def tw15560500314895047343:=Nat
def tw13925586954763233925:=Nat
def tw3093977132361051618:=Nat
def tw18328561965235511954:=Nat
def tw2708708594114744775:=Nat
def tw12064662690394058248:=Nat
def tw5720267713326709755:=Nat
def tw8328094057196393916:=Nat
def tw16644606511662114574:=Nat
def tw4011157648589011858:=Nat
def tw17057272898397164401:=Nat
def tw894076849921957361:=Nat
def tw14273802060069496912:=Nat
def tw607167704815816724:=Nat
def tw3889259530307233657:=Nat
def tw13262538273218963204:=Nat
def tw3424931102881643321:=Nat
def tw284796363302790085:=Nat
def tw5994239182223829532:=Nat
def tw3229698128091672885:=Nat
def tw6434138532213402376:=Nat
def tw10650810973499830745:=Nat
def tw17325535178939296128:=Nat
def tw1343220272319300887:=Nat
def tw12049575158971614909:=Nat
def tw8424611434330503625:=Nat
def tw14190725551584542720:=Nat
def tw11838138170533393997:=Nat
def tw14615009949319019899:=Nat
def tw12828332729040242785:=Nat
def tw15900120412870309639:=Nat
def tw11055029398406535253:=Nat
def tw1795987706997168147:=Nat
def tw16326889199254633757:=Nat
def tw9467589175468403638:=Nat
def tw18163462532019968843:=Nat
def tw5189142188285759775:=Nat
def tw921073385446354868:=Nat
def tw16138931208732196661:=Nat
def tw7250012664060256230:=Nat
def tw15605440718772780007:=Nat
def tw9455686188066324210:=Nat
def tw10938465397075749097:=Nat
def tw1379578315556383370:=Nat
def tw11939915149646268982:=Nat
def tw2571919107429820419:=Nat
def tw7393211689510517793:=Nat
def tw16127339712140622707:=Nat
def tw5512085447785999860:=Nat
def tw16697116713213952808:=Nat
def tw716658179208862652:=Nat
def tw3398876845080916796:=Nat
def tw16846860572762119324:=Nat
def tw1218959903707654005:=Nat
def tw6937325167468391026:=Nat
def tw16406328271908756883:=Nat
def tw3459824189758198600:=Nat
def tw3345107109950449737:=Nat
def tw7582166717755450365:=Nat
def tw13195905796856590283:=Nat
def tw11994158751524154303:=Nat
def tw13759679279233594173:=Nat
def tw9575731206691268911:=Nat
def tw8620020772036689432:=Nat
def tw17532440430192770315:=Nat
def tw1495452243305574823:=Nat
def tw13725850141900786883:=Nat
def tw10030586065758793078:=Nat
def tw7957090006295546105:=Nat
def tw14834023430324568649:=Nat
def tw7365555872484859036:=Nat
def tw14285374257681291273:=Nat
def tw9076128300344869771:=Nat
def tw6888100737891179579:=Nat
def tw10996506086634736982:=Nat
def tw13142473509193869113:=Nat
def tw6380047634161181297:=Nat
def tw1410096668721982599:=Nat
def tw14714103240675001986:=Nat
def tw4824431525194463578:=Nat
def tw6059929106960060952:=Nat
def tw5853609219237828028:=Nat
def tw6448080314894763839:=Nat
def tw9787396351842916947:=Nat
def tw4434333111790514575:=Nat
def tw8123005709971320403:=Nat
def tw6213697211615256494:=Nat
def tw12456492676567594705:=Nat
def tw6722154040420286063:=Nat
def tw5936146933674214641:=Nat
def tw6832808476680081064:=Nat
def tw5976474108018559520:=Nat
def tw2708163388286742659:=Nat
def tw9416142780835265456:=Nat
def tw4888971946704870899:=Nat
def tw7313295853046975944:=Nat
def tw1536587703002861866:=Nat
def tw8654737378357257675:=Nat
def tw8432684481940611981:=Nat
def tw1355338860687761863:=Nat
def tw392140993173905013:=Nat
def tw12234953301772265638:=Nat
def tw1068659041996821342:=Nat
def tw5396446701170858492:=Nat
def tw11036193050239951465:=Nat
def tw16413264400604254196:=Nat
def tw16339471991904476338:=Nat
def tw10758392820592806131:=Nat
def tw17475289236778735526:=Nat
def tw7950560144509940271:=Nat
def tw13342524657329470049:=Nat
def tw17863021456227041891:=Nat
def tw16350708796919097252:=Nat
def tw7094674258960923220:=Nat
def tw9165568632223901487:=Nat
def tw5228443966233409354:=Nat
def tw13902233598862641821:=Nat
def tw14588557730865908194:=Nat
def tw4319011637217762917:=Nat
def tw12599741558188205749:=Nat
def tw16148938690769344688:=Nat
def tw4430655021044022179:=Nat
def tw4109823476700235019:=Nat
def tw4691851695120001716:=Nat
def tw17280976486791472633:=Nat
def tw10490677847182090097:=Nat
def tw1102190903223815498:=Nat
def tw8229689697521897066:=Nat
def tw17476080006546285661:=Nat
def tw2948108419219029167:=Nat
def tw4275521005467322725:=Nat
def tw13678640442995254988:=Nat
def tw2118141222776746865:=Nat
def tw2736616831223182526:=Nat
def tw6624491594363574236:=Nat
def tw3267979357774110234:=Nat
def tw18260038339965228139:=Nat
def tw10647819351689358120:=Nat
def tw13607416678640721797:=Nat
def tw1544652992362985085:=Nat
def tw17768419659990539469:=Nat
def tw10566222408779648918:=Nat
def tw2883484788219351825:=Nat
def tw2305325121136568689:=Nat
def tw17919728810627054236:=Nat
def tw4797165386629745026:=Nat
def tw7824674403005707151:=Nat
def tw1537898542681612871:=Nat
def tw10730351240561388922:=Nat
def tw8787811728527493140:=Nat
def tw3069475018656635626:=Nat
def tw3148276903521382524:=Nat
def tw9759809726879904816:=Nat
def tw1711367819467211730:=Nat
def tw14870196432650325839:=Nat
def tw9736788993784561348:=Nat
def tw8283515000281207119:=Nat
def tw18340240734955500558:=Nat
def tw9236379625843700516:=Nat
def tw10887116778572429059:=Nat
def tw17730428716208468724:=Nat
def tw11793402487394874009:=Nat
def tw5152784196030571298:=Nat
def tw14386061602966655976:=Nat
def tw15293694290771056936:=Nat
def tw17528258088376854630:=Nat
def tw6035434395606221488:=Nat
def tw15894407043143930727:=Nat
def tw8473563963867554017:=Nat
def tw4549333791460862111:=Nat
def tw3131671291697673992:=Nat
def tw11433066937589102482:=Nat
def tw17719373434677690450:=Nat
def tw7231524377534056507:=Nat
def tw3778451253796500701:=Nat
def tw13951202360752479828:=Nat
def tw10006666124156027396:=Nat
def tw4407734736301137906:=Nat
def tw11519604305632133818:=Nat
def tw503676674663206642:=Nat
def tw2314638664359121040:=Nat
def tw14909702598903578594:=Nat
def tw2370425770031549630:=Nat
def tw17172517015917474193:=Nat
def tw4319416812082413722:=Nat
def tw2651664433501786496:=Nat
def tw16737559591592110954:=Nat
def tw15323854079317868165:=Nat
def tw17335170898614401699:=Nat
def tw15190520802936310887:=Nat
def tw15902184279288820625:=Nat
def tw3736136724727406031:=Nat
def tw10500077913531017323:=Nat
def tw13316322371389871543:=Nat
def tw6952355047532471503:=Nat
def tw2077871619930789226:=Nat
def tw2302674139485633275:=Nat
def tw8537084889766193716:=Nat
def tw1423138165483278961:=Nat
def tw17370054149142409183:=Nat
def tw12254641474115354048:=Nat
def tw11495947367809530248:=Nat
def tw10619036274816975696:=Nat
def tw1184552218554016812:=Nat
def tw1291980286583624508:=Nat
def tw10014077866858391930:=Nat
def tw7082770336023389322:=Nat
def tw3952652319720093869:=Nat
def tw8119918657739134586:=Nat
def tw10424941004445345732:=Nat
def tw17431367730909923944:=Nat
def tw17341736924252097559:=Nat
def tw11137651959834898467:=Nat
def tw2177526886768309524:=Nat
def tw4090926877573551719:=Nat
def tw3395616883899927064:=Nat
def tw6182678533730793537:=Nat
def tw475358408421254977:=Nat
def tw6990963922061375149:=Nat
def tw219737044198020058:=Nat
def tw6929956602132211858:=Nat
def tw17842620306162639686:=Nat
def tw16049961110935095269:=Nat
def tw13658505271682890234:=Nat
def tw16861218917600885097:=Nat
def tw1414301608579184545:=Nat
def tw12475847535787081790:=Nat
def tw8944806292087596576:=Nat
def tw5925582254088234700:=Nat
def tw3325841961599345399:=Nat
def tw1267870562809915468:=Nat
def tw2088498060469179804:=Nat
def tw17001327861769816259:=Nat
def tw5820445615435017067:=Nat
def tw7785048605280242668:=Nat
def tw7504490480230193789:=Nat
def tw16916688483869632129:=Nat
def tw3766158894648301139:=Nat
def tw5721027456603625697:=Nat
def tw1971209045111089449:=Nat
def tw11270796479367742343:=Nat
def tw11313170107247368264:=Nat
def tw2504098582860672743:=Nat
def tw7842807204330285214:=Nat
def tw14305139224198610471:=Nat
def tw13036272033356848781:=Nat
def tw14971970265804392439:=Nat
def tw9518749785886187100:=Nat
def tw325292655437039998:=Nat
def tw6426273055680023932:=Nat
def tw5815302876190815700:=Nat
def tw5653986282849419384:=Nat
def tw18428756778242999024:=Nat
def tw7191607858210974391:=Nat
def tw17434858337260393937:=Nat
def tw7392212959928792091:=Nat
def tw17899373020297197333:=Nat
def tw9999058972086379095:=Nat
def tw16180483070735683940:=Nat
def tw13902060940116135572:=Nat
def tw6179359751918216688:=Nat
def tw7499937903120025604:=Nat
def tw1481926694345511941:=Nat
def tw12866136484021002089:=Nat
def tw11317593695737139937:=Nat
def tw16712280214892120555:=Nat
def tw15271515629493726085:=Nat
def tw6357409834272390260:=Nat
def tw2401699919119007470:=Nat
def tw3880421473898291048:=Nat
def tw18101931140130867144:=Nat
def tw2611137233208623240:=Nat
def tw272414042388314806:=Nat
def tw4716499452693333712:=Nat
def tw16289391198768371057:=Nat
def tw2354135333415324597:=Nat
def tw12945968074294007009:=Nat
def tw9529234661008812162:=Nat
def tw8708707556590381134:=Nat
def tw16817318245366136608:=Nat
def tw18163708392712065173:=Nat
def tw13987355940573415152:=Nat
def tw5247225353297040015:=Nat
def tw9948023125614773506:=Nat
def tw5303519439607764402:=Nat
def tw3365010085382643294:=Nat
def tw12286716685032941320:=Nat
def tw6551367506479906963:=Nat
def tw16349804527192203551:=Nat
def tw17344496456200356348:=Nat
def tw5529568453561195837:=Nat
def tw10092856319447448734:=Nat
def tw3355348695024010778:=Nat
def tw16366562015402752707:=Nat
def tw15808557625122938864:=Nat
def tw482417222145425773:=Nat
def tw13054876178653020893:=Nat
def tw7386744729831018872:=Nat
def tw16180582048198870337:=Nat
def tw5289962621202845349:=Nat
def tw445272203358286359:=Nat
def tw447715330943862342:=Nat
def tw16241802466949684156:=Nat
def tw3488208955921114670:=Nat
def tw13951257522405164796:=Nat
def tw15041003319150489328:=Nat
def tw10885399304501877467:=Nat
def tw12809422525583811893:=Nat
def tw1333364371103165705:=Nat
def tw17183712847048597117:=Nat
def tw13144743711251232190:=Nat
def tw2614552105083212210:=Nat
def tw8110752265080105075:=Nat
def tw5758256569797452207:=Nat
def tw6980910045739468074:=Nat
def tw13169248704851481478:=Nat
def tw1257650718994608863:=Nat
def tw3577408171920636059:=Nat
def tw937105155873367277:=Nat
def tw3427515755752030745:=Nat
def tw494703546511474797:=Nat
def tw13833065179229638619:=Nat
def tw487364732245791922:=Nat
def tw18386054884457128365:=Nat
def tw396607853666888187:=Nat
def tw1993567047419047990:=Nat
def tw15598799602833418400:=Nat
def tw3302314484089059179:=Nat
def tw7458669417513538434:=Nat
def tw12329403913580668285:=Nat
def tw13329733208086693882:=Nat
def tw13690843758732723530:=Nat
def tw2408619945344806742:=Nat
def tw10767066097796618615:=Nat
def tw9413167413068371254:=Nat
def tw9131251417149488404:=Nat
def tw1962928258387122110:=Nat
def tw470574548607681690:=Nat
def tw1419416864934026935:=Nat
def tw11740888236361828772:=Nat
def tw4978915544186085027:=Nat
def tw16039550372008468697:=Nat
def tw16309933130070103497:=Nat
def tw8719427161674164953:=Nat
def tw13853819408611901635:=Nat
def tw15542503528162795033:=Nat
def tw10138199336372458610:=Nat
def tw8603108125212654177:=Nat
def tw3209381107111851631:=Nat
def tw12734952128020822468:=Nat
def tw6267220430429643429:=Nat
def tw2958062672499776758:=Nat
def tw18099695126128789690:=Nat
def tw15376083050721069600:=Nat
def tw17532718790514356516:=Nat
def tw7783732958741208154:=Nat
def tw2627984346626558326:=Nat
def tw13809362725867891129:=Nat
def tw17069979004554194336:=Nat
def tw3764465048917985505:=Nat
def tw11462045893675790159:=Nat
def tw8162909057868654942:=Nat
def tw9411460985935078520:=Nat
def tw2506853364499732696:=Nat
def tw9235277983596991582:=Nat
def tw17727738676932873817:=Nat
def tw5032809538720368765:=Nat
def tw5357591511691535388:=Nat
def tw7543195961347049332:=Nat
def tw7987952416473584550:=Nat
def tw5345256250457102556:=Nat
def tw13314330512976039754:=Nat
def tw2078703811421203504:=Nat
def tw15079194523842364033:=Nat
def tw10227693086864044499:=Nat
def tw9281714027785469542:=Nat
def tw16172117957621229858:=Nat
def tw5854066237105225762:=Nat
def tw8881496252177385917:=Nat
def tw18200712748503757919:=Nat
def tw830924265138556478:=Nat
def tw12143486254990352099:=Nat
def tw6909570525239066004:=Nat
def tw10487160056961263569:=Nat
def tw2081053591005667728:=Nat
def tw5144633987255907666:=Nat
def tw11957962974430299695:=Nat
def tw17101871299007795629:=Nat
def tw13335737130258781183:=Nat
def tw489095991917526796:=Nat
def tw17000458434675057986:=Nat
def tw17517737089405305841:=Nat
def tw2711585505577850959:=Nat
def tw5881240552750758400:=Nat
def tw15781324953245214433:=Nat
def tw14323765505736481980:=Nat
def tw12973657651903071711:=Nat
def tw15980859228951719591:=Nat
def tw6697550738653902072:=Nat
def tw12170303376835216750:=Nat
def tw15028816761298942483:=Nat
def tw5736407798762289528:=Nat
def tw6614585292965373069:=Nat
def tw13615603153576403970:=Nat
def tw11625766737575182897:=Nat
def tw610167625130883901:=Nat
def tw441327347791068078:=Nat
def tw6813294653679155843:=Nat
def tw13808649964324968744:=Nat
def tw9800571698397750058:=Nat
def tw11707433790658880453:=Nat
def tw13640514254501968386:=Nat
def tw14079958499647549597:=Nat
def tw11891824955294080559:=Nat
def tw8579058602437062094:=Nat
def tw3362959441861295915:=Nat
def tw2037417660504910701:=Nat
def tw14896874001708588922:=Nat
def tw11254254501726123291:=Nat
def tw17295947923314359676:=Nat
def tw13102660428377437172:=Nat
def tw799472198861031185:=Nat
def tw7332914688054063159:=Nat
def tw3972328310683599613:=Nat
def tw17554001833073541016:=Nat
def tw1188131947540300063:=Nat
def tw13650077344797733491:=Nat
def tw17943406268862710625:=Nat
def tw667198328695590252:=Nat
def tw6019396324639902685:=Nat
def tw11277413387252134812:=Nat
def tw10299114407867686024:=Nat
def tw12095823642532355627:=Nat
def tw11211347477262721435:=Nat
def tw6144853644547557980:=Nat
def tw2354101950205528012:=Nat
def tw8125055898148337911:=Nat
def tw14981143343336467331:=Nat
def tw8656719876789144132:=Nat
def tw10919533547850550483:=Nat
def tw14108194823987119177:=Nat
def tw14311459727803291754:=Nat
def tw725871291056497461:=Nat
def tw136631920214876835:=Nat
def tw912392155897948271:=Nat
def tw13252181687094117063:=Nat
def tw14460367522058181017:=Nat
def tw13746126617404028095:=Nat
def tw196644378293983589:=Nat
def tw14837249469386935497:=Nat
def tw15112985482279097393:=Nat
def tw14746774941630613163:=Nat
def tw7299303143086499733:=Nat
def tw14265314264860633672:=Nat
def tw9041768174481992944:=Nat
def tw3865406201487662470:=Nat
def tw13160144027095335755:=Nat
def tw17695988578738506429:=Nat
def tw7581352650102555174:=Nat
def tw14858287094103624389:=Nat
def tw13981391230805400906:=Nat
def tw8017206721242287953:=Nat
def tw12513138341781932208:=Nat
def tw14574368915667082918:=Nat
def tw18366058095514959488:=Nat
def tw2250404784220189610:=Nat
def tw15195428891847259777:=Nat
def tw608726401823008365:=Nat
def tw4936483359421988267:=Nat
def tw6913438882417360052:=Nat
def tw13002492023102617099:=Nat
def tw14433975572909055671:=Nat
def tw13471316229770301743:=Nat
def tw1749818173716722547:=Nat
def tw7496433998918960881:=Nat
def tw2283851925072248500:=Nat
def tw12436211924289087317:=Nat
def tw6224646082405213132:=Nat
def tw9626942728845285128:=Nat
def tw17000756265888016:=Nat
def tw13254397897704925713:=Nat
def tw7619357645376055252:=Nat
def tw5807050765050996992:=Nat
def tw13451486832001684981:=Nat
def tw12726346659333912481:=Nat
def tw3740020263889925745:=Nat
def tw6733733256287894996:=Nat
def tw10057510723706494237:=Nat
def tw2599325451414397859:=Nat
def tw2116119154477666557:=Nat
def tw6363645014702824404:=Nat
def tw1189118826323900759:=Nat
def tw13427988762788590312:=Nat
def tw1156252341971683116:=Nat
def tw4613930686462287906:=Nat
def tw5425108064043664162:=Nat
def tw3436264866546951355:=Nat
def tw4075660801711882420:=Nat
def tw14544052848187043789:=Nat
def tw13491086964462194671:=Nat
def tw5565278806992967083:=Nat
def tw6068539629986546154:=Nat
def tw931183843429516998:=Nat
def tw10276908904998144438:=Nat
def tw6127375697748050860:=Nat
def tw15020028541594565831:=Nat
def tw12177649209318274912:=Nat
def tw17060125343902188718:=Nat
def tw6967401301877209104:=Nat
def tw17803129079492736432:=Nat
def tw10563430792217145262:=Nat
def tw17520869792638436183:=Nat
def tw11796506867022685745:=Nat
def tw9504726810853072989:=Nat
def tw12071057409057901078:=Nat
def tw3735880847841164279:=Nat
def tw7641510929779896126:=Nat
def tw17082801352038058188:=Nat
def tw8686407601681055034:=Nat
def tw13912434898499826684:=Nat
def tw9305466669911107070:=Nat
def tw16369446117885005094:=Nat
def tw17274371674624000324:=Nat
def tw1503297043503765363:=Nat
def tw43969757491396457:=Nat
def tw15917270771655136656:=Nat
def tw8868882367808763553:=Nat
def tw535072334866317008:=Nat
def tw5386766301290243201:=Nat
def tw11445135464325071761:=Nat
def tw5268983451555188008:=Nat
def tw13121200027793486533:=Nat
def tw11985326045990495214:=Nat
def tw14427280190107063356:=Nat
def tw16048576614497160029:=Nat
def tw14952990662201256454:=Nat
def tw17991947082810275242:=Nat
def tw16176465441171805009:=Nat
def tw17382798495522986874:=Nat
def tw3152983702415266003:=Nat
def tw13776390136698705113:=Nat
def tw15983881195869794717:=Nat
def tw8552093678088426289:=Nat
def tw2422670821966735624:=Nat
def tw7286323032743288035:=Nat
def tw282004115355043989:=Nat
def tw11629953924900746896:=Nat
def tw2862820112641550484:=Nat
def tw1886563365779066154:=Nat
def tw932993149863042379:=Nat
def tw15172853278717766862:=Nat
def tw16531745337717519161:=Nat
def tw7232422423428716515:=Nat
def tw16243683426749602078:=Nat
def tw1829445100760108279:=Nat
def tw1210750091971509897:=Nat
def tw7652866986338317172:=Nat
def tw10216692956209284516:=Nat
def tw4111355340424721971:=Nat
def tw12050852935592152754:=Nat
def tw12450158673883907302:=Nat
def tw14766643958189025262:=Nat
def tw3768068617246420682:=Nat
def tw10749366882036047329:=Nat
def tw17024950926791866790:=Nat
def tw4264315005692455143:=Nat
def tw6698160770425034372:=Nat
def tw4858009861420398278:=Nat
def tw16648231224745350325:=Nat
def tw10028428298569065181:=Nat
def tw17730448691065144110:=Nat
def tw12227490674122928909:=Nat
def tw12268644228514654432:=Nat
def tw17920841898052960711:=Nat
def tw2334299552400917057:=Nat
def tw4071324889030633612:=Nat
def tw2387720566874501970:=Nat
def tw13580328829973926956:=Nat
def tw6944952908185719654:=Nat
def tw10015664371746657536:=Nat
def tw6213141578215901147:=Nat
def tw17955133630450735404:=Nat
def tw3142773779024712118:=Nat
def tw4042386549635913901:=Nat
def tw12635297910168745909:=Nat
def tw1954329431781641577:=Nat
def tw4110589180456253056:=Nat
def tw16752143609539240740:=Nat
def tw9979284746773624096:=Nat
def tw178441218286455893:=Nat
def tw8595292554425487202:=Nat
def tw18350330562280901221:=Nat
def tw4504083675297759592:=Nat
def tw9087420756778563785:=Nat
def tw973662469405803806:=Nat
def tw2322887356643228942:=Nat
def tw16869277618539721502:=Nat
def tw10709196673778178906:=Nat
def tw17244072584429378644:=Nat
def tw15953636156762407896:=Nat
def tw12994954067883948608:=Nat
def tw682011567655089306:=Nat
def tw18247082017555167765:=Nat
def tw10782641618400255816:=Nat
def tw14126943448341045398:=Nat
def tw1374548495586556601:=Nat
def tw2637321087531721449:=Nat
def tw16741492637210864865:=Nat
def tw2447921434856996015:=Nat
def tw12885971956603332375:=Nat
def tw5450187663091677483:=Nat
def tw11178287808271592064:=Nat
def tw15480198773659482676:=Nat
def tw9893030918988833448:=Nat
def tw12168629308613836373:=Nat
def tw4800724452203346748:=Nat
def tw13317431791736044220:=Nat
def tw13900631225919944168:=Nat
def tw14934708107589980039:=Nat
def tw17537794083376710389:=Nat
def tw15576483152104568565:=Nat
def tw11108263761283441063:=Nat
def tw3264259588550801142:=Nat
def tw12731603968600162155:=Nat
def tw6234664779796018075:=Nat
def tw2460228577881660442:=Nat
def tw7853834085085047284:=Nat
def tw3820604794100220378:=Nat
def tw11892598404827812706:=Nat
def tw15103234261437856402:=Nat
def tw9862997608875712007:=Nat
def tw3149940706203789266:=Nat
def tw5882768191206486792:=Nat
def tw18360803836614840259:=Nat
def tw9407582987413476825:=Nat
def tw6654550962395885724:=Nat
def tw18416463498863911781:=Nat
def tw2902314222560053993:=Nat
def tw14185684948912167051:=Nat
def tw8860024209350480642:=Nat
def tw8389248881573145916:=Nat
def tw17853915177807527196:=Nat
def tw8164371507598914237:=Nat
def tw13804622635509601256:=Nat
def tw14043711374191979534:=Nat
def tw3460871413274159568:=Nat
def tw13424232207471783386:=Nat
def tw11518781747449614426:=Nat
def tw2905824091091238844:=Nat
def tw17018449646109014956:=Nat
def tw12022618010286034681:=Nat
def tw2011108890870493169:=Nat
def tw15034313371233782410:=Nat
def tw10220936982206179058:=Nat
def tw662354867322794072:=Nat
def tw10352308551163946355:=Nat
def tw11863081143760314161:=Nat
def tw1735497430108182060:=Nat
def tw2721586585765338809:=Nat
def tw1228064911786449325:=Nat
def tw8727135674562949291:=Nat
def tw17164873540382356111:=Nat
def tw11935356649212052271:=Nat
def tw18287117734903463105:=Nat
def tw5200128776193632040:=Nat
def tw5854881644878751223:=Nat
def tw6789855027759293466:=Nat
def tw12182807814244774211:=Nat
def tw5732905514179830355:=Nat
def tw9577309144901391297:=Nat
def tw10964334890339321822:=Nat
def tw15736541856241217950:=Nat
def tw3560238982266916124:=Nat
def tw6142071019320080357:=Nat
def tw10455430044892516648:=Nat
def tw6679490504615227074:=Nat
def tw18056578402003937789:=Nat
def tw8058433561772132124:=Nat
def tw8488268690174267210:=Nat
def tw15224661121926592747:=Nat
def tw10042830170769951172:=Nat
def tw7503421922109321716:=Nat
def tw11817470609975844035:=Nat
def tw5902227825499142635:=Nat
def tw13949143374315933397:=Nat
def tw6580340599500149305:=Nat
def tw387338674003428930:=Nat
def tw8376441433122354887:=Nat
def tw13294325848734340343:=Nat
def tw8253183596043897158:=Nat
def tw14530364306720264245:=Nat
def tw3825061337978711158:=Nat
def tw9787463984185863102:=Nat
def tw3054071069301022655:=Nat
def tw5076957145309523181:=Nat
def tw14097648870716263351:=Nat
def tw14942985259670156941:=Nat
def tw12214085216866374628:=Nat
def tw4879560196417449868:=Nat
def tw17913803186225011329:=Nat
def tw11171608375663816178:=Nat
def tw9917628215930124269:=Nat
def tw7295312623806419368:=Nat
def tw1574873078441994576:=Nat
def tw195516440579289731:=Nat
def tw951843321253372498:=Nat
def tw5832503352825792928:=Nat
def tw10078919187461690516:=Nat
def tw11525573260007124812:=Nat
def tw11310463157757771331:=Nat
def tw10573317284883567450:=Nat
def tw17828083071136270317:=Nat
def tw1620339239838986703:=Nat
def tw563124612126607214:=Nat
def tw3139228997032326918:=Nat
def tw7081425507203772304:=Nat
def tw13581749221687468397:=Nat
def tw10508251915553800215:=Nat
def tw9910355351051955638:=Nat
def tw10033396928017900241:=Nat
def tw1772237422875290029:=Nat
def tw189603312586018693:=Nat
def tw18052830216330045932:=Nat
def tw5068434257544371817:=Nat
def tw11452132507678324671:=Nat
def tw7258234576362860186:=Nat
def tw6662432510661729299:=Nat
def tw12635813782599140982:=Nat
def tw14553827428707814869:=Nat
def tw14389334442490810641:=Nat
def tw4748654258956052638:=Nat
def tw5697894365363955025:=Nat
def tw4183877074749451670:=Nat
def tw11767421526060770920:=Nat
def tw16296994325663420285:=Nat
def tw12700139031502230420:=Nat
def tw11882390891050353253:=Nat
def tw15423634916342008072:=Nat
def tw2193789692954389824:=Nat
def tw12128325577817847261:=Nat
def tw6891000109920058784:=Nat
def tw13903129631018457399:=Nat
def tw4039474712603431140:=Nat
def tw16018607276475445134:=Nat
def tw757081541053455785:=Nat
def tw8008819013055116171:=Nat
def tw2081907255765424308:=Nat
def tw12477758415327278626:=Nat
def tw5706481520468235054:=Nat
def tw13526986893379352335:=Nat
def tw2110851967338885185:=Nat
def tw3315324234476444515:=Nat
def tw17552769576498331613:=Nat
def tw2134368852220247820:=Nat
def tw11964429278604863157:=Nat
def tw1615719349143574890:=Nat
def tw18253757678009453241:=Nat
def tw618205885557783147:=Nat
def tw7155543432591195943:=Nat
def tw10040787053062605231:=Nat
def tw8509908385975216990:=Nat
def tw4681523508651956083:=Nat
def tw10353204498128435838:=Nat
def tw7146146830050965766:=Nat
def tw12527393111034389544:=Nat
def tw4966674849315620570:=Nat
def tw17300597898927385350:=Nat
def tw252367510798351285:=Nat
def tw5415697137353194442:=Nat
def tw9626621113073979434:=Nat
def tw7892128664451923741:=Nat
def tw9315938663221665524:=Nat
def tw13156168479132978002:=Nat
def tw6636956529411117187:=Nat
def tw10719484529398299949:=Nat
def tw4966893808263662355:=Nat
def tw5409283761738284092:=Nat
def tw6801968546669101340:=Nat
def tw8795123598061512290:=Nat
def tw7276740287692124622:=Nat
def tw8430678208038309684:=Nat
def tw17207840028585114417:=Nat
def tw764782834095389478:=Nat
def tw17888162413812561239:=Nat
def tw4724670654266164199:=Nat
def tw9977392586421186931:=Nat
def tw9734738408750631477:=Nat
def tw3094477031063562474:=Nat
def tw3976722010076183465:=Nat
def tw7461879971939330490:=Nat
def tw14973007898608030118:=Nat
def tw11130039905162102590:=Nat
def tw16643379632663270332:=Nat
def tw17230556039016184743:=Nat
def tw6380782515089751550:=Nat
def tw5474118786676095383:=Nat
def tw14031254098957005024:=Nat
def tw10819683100428557426:=Nat
def tw11363912090873407280:=Nat
def tw11166942722945506595:=Nat
def tw2951486255847992690:=Nat
def tw13789449189825218787:=Nat
def tw6517296806544964722:=Nat
def tw18188234029961486008:=Nat
def tw16258813485015810305:=Nat
def tw17728961539438068574:=Nat
def tw15560853006256673968:=Nat
def tw9136488742655976645:=Nat
def tw8796240567053077481:=Nat
def tw16328912562034613984:=Nat
def tw17804436615005485693:=Nat
def tw15450981722951097364:=Nat
def tw14364280277409689854:=Nat
def tw9248541637817142097:=Nat
def tw13871001218405608335:=Nat
def tw1092655722715705105:=Nat
def tw13141144453892091621:=Nat
def tw3396222153343108627:=Nat
def tw15168306246750427876:=Nat
def tw9720828393056574044:=Nat
def tw14979626087600564940:=Nat
def tw13159241964716117882:=Nat
def tw1269743608478119537:=Nat
def tw4091194055036891139:=Nat
def tw3856783459128436802:=Nat
def tw16432479971616331241:=Nat
def tw774047393022817027:=Nat
def tw4745058802850807175:=Nat
def tw8610040677353227653:=Nat
def tw2895304030280410150:=Nat
def tw15773981995205291829:=Nat
def tw6291368078380397288:=Nat
def tw14285029430470858289:=Nat
def tw1100353791813204450:=Nat
def tw4352594626159697269:=Nat
def tw10475303700862453374:=Nat
def tw930746551332336609:=Nat
def tw8989982439271903415:=Nat
def tw7323676302269181137:=Nat
def tw12296728618847696761:=Nat
def tw1305609685974793870:=Nat
def tw15025364365136419289:=Nat
def tw7057405563618977329:=Nat
def tw1638017585896720355:=Nat
def tw5423003317807263696:=Nat
def tw4600395469775339435:=Nat
def tw6148621092414575339:=Nat
def tw1204117194425446250:=Nat
def tw15278061642289888581:=Nat
def tw17954471519018878134:=Nat
def tw16904869804480856166:=Nat
def tw15199281503961881116:=Nat
def tw8451552260295177759:=Nat
def tw7397068168572129948:=Nat
def tw12488000419048109807:=Nat
def tw11855487677703710099:=Nat
def tw6714822604882049554:=Nat
def tw1402947280878808549:=Nat
def tw11161088081135249708:=Nat
def tw10460931487171540145:=Nat
def tw5310036984924271277:=Nat
def tw11825729669827539873:=Nat
def tw16495559152270511615:=Nat
def tw11566699232636054958:=Nat
def tw16947794391021106201:=Nat
def tw14159497744377131790:=Nat
def tw1869930749605803152:=Nat
def tw17774800907425398282:=Nat
def tw11729385059970357855:=Nat
def tw6711915476519705758:=Nat
def tw16594806595340683204:=Nat
def tw16729788964589934307:=Nat
def tw2039238271031011813:=Nat
def tw3636048126100218174:=Nat
def tw4989861115921178866:=Nat
def tw17026713947507217902:=Nat
def tw9219426015542480343:=Nat
def tw17975652961387846372:=Nat
def tw1460277438893781036:=Nat
def tw10823345740709935493:=Nat
def tw8251002228616720499:=Nat
def tw4507309187265873474:=Nat
def tw4558998842232669794:=Nat
def tw17626262904599113365:=Nat
def tw1136578752053086225:=Nat
def tw3256587380925597060:=Nat
def tw9305782018832362445:=Nat
def tw16223305294053301992:=Nat
def tw7275051467321613617:=Nat
def tw10010511219673018494:=Nat
def tw12989987162080215863:=Nat
def tw13559156169165276386:=Nat
def tw10029231156530900338:=Nat
def tw14420389602138693270:=Nat
def tw17169101284591775605:=Nat
def tw9537544019596298400:=Nat
def tw8075568018651887793:=Nat
def tw11861152243698038893:=Nat
def tw1059901042614829057:=Nat
def tw13358618909089187005:=Nat
def tw17672482021469178181:=Nat
def tw12577023982554244617:=Nat
def tw12821735335276811757:=Nat
def tw14763704009068828915:=Nat
def tw9673203406766833760:=Nat
def tw13236226663087606529:=Nat
def tw7035115661146626270:=Nat
def tw13549102714576105579:=Nat
def tw4733837786962973091:=Nat
def tw17041471163203698717:=Nat
def tw12659028871203227004:=Nat
def tw9743207683681685546:=Nat
def tw9756838556594848396:=Nat
def tw9249553802937061307:=Nat
def tw15247426752500302083:=Nat
def tw505943868828395459:=Nat
def tw5862295025349918931:=Nat
def tw5111356299099525756:=Nat
def tw12679591844961189642:=Nat
def tw16751196440357475278:=Nat
def tw14843722373977536959:=Nat
def tw8802822988693486460:=Nat
def tw16495097172686442475:=Nat
def tw5349121933718820234:=Nat
def tw8753696776887207221:=Nat
def tw4299136966843209011:=Nat
def tw11788150170368784547:=Nat
def tw9082586571710850966:=Nat
def tw9501820088010722379:=Nat
def tw18283703058932287227:=Nat
def tw16942194440817826258:=Nat
def tw9267298106668617725:=Nat
def tw8959964123841196786:=Nat
def tw3306904295867340462:=Nat
def tw8777329075199875621:=Nat
def tw16979880578912567463:=Nat
def tw4187477659947935285:=Nat
def tw15202239659555905331:=Nat
def tw11682084944484805031:=Nat
def tw1706496860858754268:=Nat
def tw4527066259768149269:=Nat
def tw14023627001141898710:=Nat
def tw10846213317406478298:=Nat
def tw10010936943081839664:=Nat
def tw3484491407595465754:=Nat
def tw12371321757623732685:=Nat
def tw5952267759425050802:=Nat
def tw14073706353221006472:=Nat
def tw498941489931974913:=Nat
def tw2447775223705975068:=Nat
def tw7449101846280096545:=Nat
def tw15742981410569661332:=Nat
def tw8800560270773162519:=Nat
def tw771018646841630093:=Nat
def tw1857294707202544078:=Nat
def tw4636218855388986860:=Nat
def tw2001226814458364393:=Nat
def tw15250204685079549951:=Nat
def tw3633577522364906407:=Nat
def tw1735007293439650466:=Nat
def tw5410153933605578482:=Nat
def tw5698774287046732500:=Nat
def tw12301736329548577491:=Nat
def tw9515652053505349548:=Nat
def tw11636919720809706868:=Nat
def tw1107438419126420414:=Nat
def tw8385612375773290118:=Nat
def tw11786184479649081736:=Nat
def tw15542691292777871779:=Nat
def tw9151444980202551346:=Nat
def tw12472836147817038354:=Nat
def tw14489655085307688843:=Nat
def tw6122645084068987007:=Nat
def tw6900397732965128853:=Nat
def tw7733015712792483723:=Nat
def tw16770459766345991936:=Nat
def tw721709456127091705:=Nat
def tw14529259203199301258:=Nat
def tw17964007177503468958:=Nat
def tw17020626225693228618:=Nat
def tw15806122291839087668:=Nat
def tw9190918148164325157:=Nat
def tw18410474027866654770:=Nat
def tw313226197891681235:=Nat
def tw183835017167291270:=Nat
def tw17596809139577655471:=Nat
def tw6076076219008924368:=Nat
def tw16417370028952169744:=Nat
def tw9564595351457756722:=Nat
def tw11420187438672877268:=Nat
def tw15263041282635125899:=Nat
def tw14884601019740666482:=Nat
def tw1771862750571323454:=Nat
def tw5607064600570693084:=Nat
def tw9236875199018929784:=Nat
def tw17394056326795013819:=Nat
def tw6504275150365058295:=Nat
def tw16874561944515371726:=Nat
def tw1617757218408452269:=Nat
def tw9139287138770789469:=Nat
def tw12660628722211587041:=Nat
def tw8540232549379673566:=Nat
def tw17848772402925894760:=Nat
def tw7074542288925894100:=Nat
def tw5149714755402479525:=Nat
def tw882838713213173450:=Nat
def tw17765544955259793912:=Nat
def tw3196378941336150401:=Nat
def tw17473205046034650188:=Nat
def tw15562837088269578035:=Nat
def tw2674190319118857908:=Nat
def tw5518745428033880147:=Nat
def tw7198390536060210744:=Nat
def tw14223099787259518943:=Nat
def tw8180830640274347804:=Nat
def tw14174611291570781762:=Nat
def tw7692015426583400375:=Nat
def tw6012508502120743258:=Nat
def tw2735471455948067141:=Nat
def tw11543547407058413889:=Nat
def tw6606113021469975653:=Nat
def tw790365300219607850:=Nat
def tw3195343069725486020:=Nat
def tw13642483538084851733:=Nat
def tw17045043414572947948:=Nat
def tw12807690338718825411:=Nat
def tw3698559305507148144:=Nat
def tw10948738476641704880:=Nat
def tw10470071008263537045:=Nat
def tw2719445374943340272:=Nat
def tw11334522289143818824:=Nat
def tw9908251947323293946:=Nat
def tw9047900276149940361:=Nat
def tw4904739604578439355:=Nat
def tw1468114885665857710:=Nat
def tw7618406622816332465:=Nat
def tw7344376507651311505:=Nat
def tw14333388528381170442:=Nat
def tw14186486079044719983:=Nat
def tw11333186260410459676:=Nat
def tw9062771732600952553:=Nat
def tw3105397867545767578:=Nat
def tw293829605474521371:=Nat
def tw17846983689614337186:=Nat
def tw12813236842856870187:=Nat
def tw686183698351167624:=Nat
def tw288087438632003012:=Nat
def tw16451151925259046446:=Nat
def tw5131478536388391638:=Nat
def tw7721631327575515661:=Nat
def tw10181792811725400092:=Nat
def tw16658944759067139292:=Nat
def tw12392613427281201732:=Nat
def tw16873187988247708562:=Nat
def tw1995926237046646575:=Nat
def tw17138261911001417010:=Nat
def tw7729641633298002090:=Nat
def tw1140075410435564573:=Nat
def tw12981051755390344553:=Nat
def tw6648157844845288826:=Nat
def tw7976981314885711489:=Nat
def tw12233582284571471492:=Nat
def tw18011898689540126615:=Nat
def tw5946566240119215348:=Nat
def tw16414604833108395602:=Nat
def tw5082074563857973206:=Nat
def tw15059462757989803610:=Nat
def tw9575948337506731703:=Nat
def tw18310272354389090212:=Nat
def tw18273839248471157720:=Nat
def tw5889167727604068794:=Nat
def tw17231944260260642093:=Nat
def tw8098380416015320538:=Nat
def tw9130231340562597213:=Nat
def tw6993175162768986339:=Nat
def tw12835720964997663042:=Nat
def tw9265879793445154701:=Nat
def tw7650934615059315214:=Nat
def tw8946543629884556368:=Nat
def tw1258717718454355964:=Nat
def tw7401281599722004195:=Nat
def tw8047484207015712433:=Nat
def tw12393455550290869266:=Nat
def tw4768464013462379552:=Nat
def tw7538125934224741611:=Nat
def tw1708024556718086227:=Nat
def tw4658958612460137192:=Nat
def tw15468230090516036684:=Nat
def tw7165179329215463379:=Nat
def tw10093032338203421213:=Nat
def tw11236458984494512445:=Nat
def tw15823609455315575823:=Nat
def tw17018628822417861297:=Nat
def tw12177639751122801600:=Nat
def tw2569364866550412066:=Nat
def tw7431591544816029494:=Nat
def tw16655555454665732581:=Nat
def tw10670733350059645105:=Nat
def tw16792545251062261874:=Nat
def tw4580202747914273547:=Nat
def tw5631866682500559305:=Nat
def tw12913785700363492387:=Nat
def tw4575980220486274672:=Nat
def tw5857867401354281197:=Nat
def tw3327986453032591115:=Nat
def tw18126140380344562322:=Nat
def tw5299483063635442899:=Nat
def tw16292439048969090190:=Nat
def tw17846936440860909165:=Nat
def tw8999186272805695465:=Nat
def tw2478078296215019888:=Nat
def tw15475462885187679331:=Nat
def tw11277716924127702174:=Nat
def tw17000155066101142889:=Nat
def tw558745408833754511:=Nat
def tw15062378111984178829:=Nat
def tw12720370510084853936:=Nat
def tw7140130562030077042:=Nat
def tw2315820567201803617:=Nat
def tw4292500188555128830:=Nat
def tw5550314157272711993:=Nat
def tw16942504070071679284:=Nat
def tw8206430501311747189:=Nat
def tw15207642765257501584:=Nat
def tw15919542637913265678:=Nat
def tw6245536207120538393:=Nat
def tw2922074901204462755:=Nat
def tw17318589155259679147:=Nat
def tw16427306112580772713:=Nat
def tw11306939235166856333:=Nat
def tw8229062606249627158:=Nat
def tw12114495157272644582:=Nat
def tw11328821685186248670:=Nat
def tw1667231139898017245:=Nat
def tw16460519517873343938:=Nat
def tw15067931366933112725:=Nat
def tw6587116730350146372:=Nat
def tw11543483234476862875:=Nat
def tw7585139358526817783:=Nat
def tw1189734492583310:=Nat
def tw8987815912523675519:=Nat
def tw11641389924110848164:=Nat
def tw1377046205977697930:=Nat
def tw16334364215817374929:=Nat
def tw14443633870133607999:=Nat
def tw6834602518627153040:=Nat
def tw16835247145936305501:=Nat
def tw17827458813498177553:=Nat
def tw9931943479562821362:=Nat
def tw17279654841073493023:=Nat
def tw3540427207667962197:=Nat
def tw878741703135273975:=Nat
def tw10317580896714288900:=Nat
def tw3797612339304411714:=Nat
def tw17238727255148662236:=Nat
def tw3386650904741475044:=Nat
def tw6090905460779295987:=Nat
def tw39160002569200845:=Nat
def tw16548257151911338427:=Nat
def tw3353693220867276294:=Nat
def tw16189536214700107852:=Nat
def tw14214133299417103183:=Nat
def tw6004533443673955352:=Nat
def tw2664551874359636763:=Nat
def tw11707371222683016368:=Nat
def tw13816233472422033322:=Nat
def tw15157221202141545114:=Nat
def tw15194748194917737719:=Nat
def tw6589095468515690095:=Nat
def tw4841608483596896988:=Nat
def tw8815187840785991937:=Nat
def tw6123655918767846522:=Nat
def tw383695940523520267:=Nat
def tw2660918139993853925:=Nat
def tw8224813933742928703:=Nat
def tw7574553109774388169:=Nat
def tw12825359941727978080:=Nat
def tw2370070277545300124:=Nat
def tw1763209079605825380:=Nat
def tw9285146279643344392:=Nat
def tw1930203975799679532:=Nat
def tw16998109343291152856:=Nat
def tw1649557021532216605:=Nat
def tw1157545019965518967:=Nat
def tw4205239288364317433:=Nat
def tw460243522976405022:=Nat
def tw16413963553889246368:=Nat
def tw2670528217467546775:=Nat
def tw15315713394281565010:=Nat
def tw1055568401681811165:=Nat
def tw8588708647495961459:=Nat
def tw3039592710220408265:=Nat
def tw8649964590619651473:=Nat
def tw17993156020533580102:=Nat
def tw17503288770812694035:=Nat
def tw2088544591296533915:=Nat
def tw17497748084772794779:=Nat
def tw4319705520415482375:=Nat
def tw12647630874787467225:=Nat
def tw12237943961548833269:=Nat
def tw15720711673333222530:=Nat
def tw12767683915131110723:=Nat
def tw12898947447245864913:=Nat
def tw9292931687148149277:=Nat
def tw9676229304581654039:=Nat
def tw10942035263794033107:=Nat
def tw11853533878840232495:=Nat
def tw11588390666370768167:=Nat
def tw3619232141914619222:=Nat
def tw18123110421147349612:=Nat
def tw4706425542698204933:=Nat
def tw18286265847491885052:=Nat
def tw15300170045991075079:=Nat
def tw6683783046931543321:=Nat
def tw10379131730601215995:=Nat
def tw2968979199505139716:=Nat
def tw8704618095886561957:=Nat
def tw1711657323119017317:=Nat
def tw950723637873067451:=Nat
def tw8400853705098224536:=Nat
def tw15766043655864335149:=Nat
def tw1370275717833778536:=Nat
def tw2718901123391026995:=Nat
def tw14907048974825807369:=Nat
def tw11882691865914478047:=Nat
def tw7802139600951554647:=Nat
def tw14168537005229113720:=Nat
def tw15007238320947547705:=Nat
def tw7112787868492120936:=Nat
def tw16987768009889223052:=Nat
def tw18345786424863182364:=Nat
def tw1085346719588807367:=Nat
def tw14580368152464143365:=Nat
def tw12025208970609079342:=Nat
def tw7098571738820278039:=Nat
def tw6631618524946063270:=Nat
def tw7899937107645576625:=Nat
def tw10273473676514133216:=Nat
def tw389472881494512206:=Nat
def tw14112274594779413971:=Nat
def tw5823794197072137003:=Nat
def tw347637069881736656:=Nat
def tw4302124980754421698:=Nat
def tw5646442142991981755:=Nat
def tw11013792430000457035:=Nat
def tw10314498396905981064:=Nat
def tw10323183001455561277:=Nat
def tw14326252917377295143:=Nat
def tw17100903815162463580:=Nat
def tw7782445914667556100:=Nat
def tw7581816359482902497:=Nat
def tw4933834842325187142:=Nat
def tw13251646731365433171:=Nat
def tw2165606593764840688:=Nat
def tw1689689392572151775:=Nat
def tw148260917463534702:=Nat
def tw10706342367453228570:=Nat
def tw329819065673440000:=Nat
def tw9594665118957945026:=Nat
def tw4980102563643897964:=Nat
def tw1631149150583789468:=Nat
def tw14096952598973939363:=Nat
def tw5998781340512891400:=Nat
def tw16645262185327669138:=Nat
def tw10071868454641916008:=Nat
def tw14380340866092297550:=Nat
def tw13783648951372772217:=Nat
def tw7299951869573292228:=Nat
def tw2351620601788327285:=Nat
def tw17233024954070867409:=Nat
def tw13505292571300825877:=Nat
def tw4405960384096086239:=Nat
def tw17020146562604978829:=Nat
def tw7074795694173733578:=Nat
def tw9396933662098498411:=Nat
def tw9868982950595657695:=Nat
def tw5248340912204065574:=Nat
def tw12850107946570832962:=Nat
def tw12606261883493885652:=Nat
def tw9300948228871686676:=Nat
def tw6607189417530752870:=Nat
def tw15663404670287596823:=Nat
def tw7745614565497352828:=Nat
def tw9674257727999782656:=Nat
def tw139799656371268569:=Nat
def tw3783086151370532256:=Nat
def tw12540713548012372134:=Nat
def tw117213463901210413:=Nat
def tw16723424844129597499:=Nat
def tw12832791649633735192:=Nat
def tw12985358249318526461:=Nat
def tw7483462131439158144:=Nat
def tw10589684114461592954:=Nat
def tw10058976618658966374:=Nat
def tw5135500740108067664:=Nat
def tw8450942572126056277:=Nat
def tw1690735587144091376:=Nat
def tw10045867985992453528:=Nat
def tw4287028408620065468:=Nat
def tw7561037823649445926:=Nat
end PySem.W.Fast
namespace Mine
set_option maxRecDepth 100000 in
set_option maxHeartbeats 8000000 in
open_top hd for PySem.Challenge.rw_io0008_01
end Mine
end
open PySem PySem.W PySem.Calls PyProof.Rows
noncomputable section
section
set_option genInjectivity false
namespace Mine
abbrev KA:=List Str
abbrev KB:=List cv
abbrev KC:=Str→Option da
abbrev KD:=da→dd→Prop
abbrev KF:=List Nat
abbrev KG:=List Prop
abbrev KH:=List da
abbrev KJ:=List Int
inductive LT
 |v(i:Nat)|c(n:Nat)|a(x y:LT)|m(k:Nat)(x:LT)|w(x:LT)(k:Nat)
abbrev V0:=LT.v 0
abbrev V1:=LT.v 1
abbrev Z0:=LT.c 1
abbrev V2:=LT.v 2
abbrev V3:=LT.v 3
abbrev Z1:=LT.c 1000
abbrev Z2:=LT.c 1000000
abbrev Z3:=LT.c 0
abbrev Z4:=LT.c 2
abbrev Z5:=LT.c 7
abbrev Z6:=LT.c 11
abbrev Z7:=LT.c 160
abbrev V4:=LT.v 4
abbrev Z8:=LT.c 60
abbrev Z9:=LT.c 18
abbrev Z10:=LT.c 100
abbrev Z11:=LT.c 9900
abbrev Z12:=LT.c 3
abbrev Z13:=LT.c 400
abbrev Z14:=LT.c 8
abbrev Z15:=LT.c 20
abbrev Z16:=LT.c 100000
abbrev Z17:=LT.c 25
abbrev Z18:=LT.c 6
abbrev Z19:=LT.c 6000
abbrev V5:=LT.v 5
abbrev Z20:=LT.c 5000
abbrev Z21:=LT.c 4
abbrev Z22:=LT.c 127
abbrev lat:List Nat→Nat→Nat
 |[],_=>0
 |x::_,0=>x
 |_::r,n+1=>lat r n
abbrev lev(b:KF):LT→Nat
 | .v i=>lat b i
 | .c n=>n
 | .a x y=>lev b x+lev b y
 | .m k x=>k*lev b x
 | .w x k=>lev b x*k
noncomputable def lad:List Nat→List Nat→List Nat
 |[],y=>y
 |x::r,[]=>x::r
 |x::r,y::q=>(x+y)::lad r q
noncomputable def lsc(k:Nat):List Nat→List Nat
 |[]=>[]
 |x::r=>(k*x)::lsc k r
noncomputable def lun:Nat→List Nat
 |0=>[1]
 |n+1=>0::lun n
def lco:LT→List Nat
 | .v i=>0::lun i
 | .c n=>[n]
 | .a x y=>lad (lco x) (lco y)
 | .m k x=>lsc k (lco x)
 | .w x k=>lsc k (lco x)
noncomputable def ldt:List Nat→List Nat→Nat
 |[],_=>0
 |_::_,[]=>0
 |x::r,y::q=>x*y+ldt r q
theorem iO(x:KF):∀y a:List Nat,ldt (lad x y) a=ldt x a+ldt y a:=by
 induction x with
 |nil=>exact λy a=>(HY _).symm
 |cons x r c=>
  refine λy a=>y.casesOn ?_ λy q=> ?_
  ·exact a.casesOn rfl λb b=>rfl
  refine a.casesOn rfl λz a=> ?_;show(x+y)*z+ldt (lad r q) a=(x*z+ldt r a)+(y*z+ldt q a);rwa [c _ _,Nat.add_mul _ _ _,Nat.add_add_add_comm _ _ _ _];rfl
theorem iN(k:Nat)(x:KF):∀a:List Nat,ldt (lsc k x) a=k*ldt x a:=by
 induction x with
 |nil=>exact λa=>rfl
 |cons x r b=>
  refine λa=>a.casesOn rfl λz a=> ?_;show k*x*z+ldt (lsc k r) a=k*(x*z+ldt r a);rwa [b _,Nat.mul_add _ _ _,Nat.mul_assoc _ _ _];rfl
theorem AV(i:Nat):∀a:List Nat,ldt (lun i) a=lat a i:=by
 induction i with
 |zero=>exact λa=>a.casesOn rfl λz c=>Nat.one_mul z
 |succ i b=>exact λa=>a.casesOn rfl λz a=>(congrArg (· +ldt (lun i) a) (Nat.zero_mul z)).trans ((HY _).trans (b a))
theorem mq(b:KF)(t:LT):lev b t=ldt (lco t) (1::b):=by
 induction t with
 |v i=>exact((Nat.zero_mul 1).symm▸(HY _).trans (AV i b):0*1+ldt (lun i) b=_).symm
 |c n=>exact(Nat.mul_one n).symm
 |a x y e f=>exact(congr (congrArg _ e) f).trans (iO _ _ _).symm
 |m k x d=>exact(congrArg _ d).trans (iN _ _ _).symm
 |w x k d=>exact(Nat.mul_comm _ _).trans ((congrArg _ d).trans (iN _ _ _).symm)
noncomputable def lle:List Nat→List Nat→Bool
 |[],_=>true
 |x::r,[]=>Nat.beq x 0&&lle r []
 |x::r,y::q=>Iy x y&&lle r q
theorem AX(x:KF):∀y a:List Nat,lle x y=true→ldt x a≤ldt y a:=by
 induction x with
 |nil=>exact λb b b=>so _
 |cons x r c=>
  refine λy a=>y.casesOn ?_ λy q=> ?_
  ·refine a.casesOn (λb=>fx _) λz a h=> ?_
   have h:(Nat.beq x 0&&lle r [])=true:=h;rw [lq]at h;rwa [ui h.1];show 0*z+ldt r a≤0;rwa [Nat.zero_mul _,HY _];exact c [] a h.2
  ·refine a.casesOn (λb=>fx _) λz a h=> ?_
   have h:(Iy x y&&lle r q)=true:=h;rw [lq]at h;exact Nat.add_le_add (Nat.mul_le_mul_right z (ro h.1)) (c q a h.2)
inductive LH
 |h(k l m:Nat)(a b:LT)
abbrev Q0:=LH.h 0 1 0
abbrev Q1:=LH.h 1 1 0
abbrev Q2:=LH.h 2 1 0
abbrev Q3:=LH.h 0 5 0
abbrev LH.dn(c:KF):LH→Prop
 | .h 0 _ _ a b=>lev c a≤lev c b
 | .h 3 _ _ a b=>¬lev c a≤lev c b
 | .h _ _ _ a b=>lev c a=lev c b
noncomputable def LH.sd(b:Bool):LH→LT×LT
 | .h 0 _ _ x y=>(x,y)
 | .h 1 _ _ x y=>(x,y)
 | .h 2 _ _ x y=>(y,x)
 | .h 3 _ _ x y=>(.a y Z0,x)
 | .h 4 _ _ x y=>bif b then(x,y)else(y,x)
 | .h _ _ _ x y=>bif b then(y,x)else(x,y)
theorem LH.ok{a:KF}(b:Bool):∀x:LH,x.dn a→lev a (x.sd b).1≤lev a (x.sd b).2
 | .h 0 _ _ _ _,q=>q
 | .h 1 _ _ _ _,q=>Ha q
 | .h 2 _ _ _ _,q=>Ha q.symm
 | .h 3 _ _ _ _,q=>Nat.lt_of_not_le q
 | .h 4 _ _ _ _,q=>match b with|true=>Ha q|false=>Ha q.symm
 | .h (_+5) _ _ _ _,q=>match b with|true=>Ha q.symm|false=>Ha q
noncomputable def LH.n(b:Bool):LH→Nat
 | .h _ l m _ _=>bif b then l else m
def lj(b f:Bool):List LH→List Nat
 |[]=>[]
 |x::r=>lad (lsc (x.n b) (lco (bif f then(x.sd b).1 else(x.sd b).2))) (lj b f r)
abbrev pD(a:KF)(G:Prop):List LH→Prop
 |[]=>G
 |x::r=>x.dn a→pD a G r
noncomputable def rR(a:KF):List LH→Prop
 |[]=>True
 |x::r=>x.dn a∧rR a r
theorem m8{d:KF}{G:Prop}:∀c:List LH,(rR d c→G)→pD d G c:=by
 intro b
 induction b with
 |nil=>
  intro k;exact k trivial
 |cons _ r a=>
  intro k;exact λh=>a λq=>k ⟨h,q⟩
theorem yW{e:KF}(b:Bool):∀c:List LH,rR e c→ldt (lj b true c) (1::e)≤ldt (lj b false c) (1::e):=by
 intro d
 induction d with
 |nil=>
  intro _;exact fx _
 |cons x r a=>
  intro h;show ldt (lad (lsc (x.n b) (lco (x.sd b).1)) (lj b true r)) _≤ldt (lad (lsc (x.n b) (lco (x.sd b).2)) (lj b false r)) _;rwa [iO _ _ _,iO _ _ _,iN _ _ _,iN _ _ _,←mq _ _,←mq _ _];exact Nat.add_le_add (Nat.mul_le_mul_left _ (x.ok b h.1)) (a h.2)
def pE(b:Bool)(c:List LH)(a:Nat)(t u:LT):Bool:=lle (lad (lsc (a+1) (lco t)) (lj b false c)) (lad (lad (lsc (a+1) (lco u)) (lj b true c)) [a])
theorem kD{d:KF}{b:Bool}{f:List LH}{c:Nat}{t u:LT}(e:pE b f c t u=true)(h:rR d f):lev d t≤lev d u:=by
 have q:=AX _ _ (1::d) e;rw [iO,iO,iO,iN,iN,←mq,←mq,show ldt [c] (1::d)=c from Nat.mul_one c,Nat.add_right_comm]at q;have g:=Nat.le_of_add_le_add_right (h9 (Hh (yW b f h) _) q);exact Nat.le_of_lt_succ (Nat.lt_of_mul_lt_mul_left (a:=c+1) (IA g (Jb (ph c) _)))
theorem Lle(b:KF)(a:List LH)(c:Nat)(t u:LT)(e:pE true a c t u=true):pD b (lev b t≤lev b u) a:=m8 a λh=>kD e h
theorem Leq(b:KF)(a:List LH)(c:Nat)(t u:LT)(e:(pE true a c t u&&pE false a c u t)=true):pD b (lev b t=lev b u) a:=
 have e:=vl.mp e
 m8 a λh=>Nat.le_antisymm (kD e.1 h) (kD e.2 h)
theorem Lno(b:KF)(a:List LH)(e:pE true a 0 Z0 Z3=true):pD b False a:=m8 a λh=>absurd (kD e h:1≤0) (Nat.not_succ_le_zero 0)
end Mine
end
namespace Mine
theorem noS{a:Type}{x:a}{G:Prop}(h:none=some x):G:=nomatch h
theorem sNo{a:Type}{x:a}{G:Prop}(h:some x=none):G:=nomatch h
theorem tfB{G:Prop}(h:true=false):G:=nomatch h
theorem ftB{G:Prop}(h:false=true):G:=nomatch h
theorem EW{a:Type}{x:a}{l:List a}{G:Prop}(h:[]=x::l):G:=nomatch h
theorem Fh{a:Type}{x:a}{l:List a}{G:Prop}(h:x::l=[]):G:=nomatch h
theorem ltN{P:Nat→Prop}:∀x,x < 0→P x:=λx h=>absurd h (o1 x)
theorem ltS{P:Nat→Prop}{n:Nat}(h:∀x,x < n→P x)(k:P n):∀x,x < n+1→P x:=λx a=>(Nat.lt_succ_iff_lt_or_eq.mp a).elim (h x) λe=>e▸k
noncomputable def df{a:Type}[h:Nonempty a]:a:=Classical.choice h
theorem ir{b:Bool}{P:Prop}(k:bif b then True else P)(h:b=false):P:=by subst h;exact k
theorem orL{y a N:Nat}{Q:Prop}(h:y=a∨Q)(k:a < N)(q:Q→y < N):y < N:=h.elim (λe=>e▸k) q
end Mine
section
open PySem PySem.W
namespace Mine
theorem neP:Nonempty ed:=⟨{strHash:=Io,shareClass:=Io,mergeTok:=Io,idOf:=Io,idOfShared:=Io,followText:=Io,idOfImm:=Io}⟩
theorem neW:Nonempty Gv:=neP.elim λp=>⟨⟨λa a=>0,p⟩⟩
theorem neM:Nonempty Ij:=neW.elim λw=>⟨⟨λa=>Io,Io,w⟩⟩
set_option genInjectivity false in
structure Q(α β:Type)where
 a:α
 b:β
theorem neX{c d:Type}(a:Nonempty c)(b:Nonempty d):Nonempty (Q c d):=a.elim λx=>b.elim λy=>⟨⟨x,y⟩⟩
noncomputable def ep{a:Type}(n:Nonempty a)(P:a→Prop):a:=@Classical.epsilon a n λx=>¬P x
theorem pd{G:Prop}(h:Unit→G):G:=h ()
theorem eI1{a:Type}(n:Nonempty a){P:a→Prop}(h:P (ep n P))(x:a):P x:=Classical.byContradiction λq=>@Classical.epsilon_spec a (λx=>¬P x) ⟨x,q⟩ h
section
variable{b a d e g h j k m n c f i l o s r q p A z y x w v u t G F E D C B:Type}
def u2(P:b→a→Prop)(H:Q b a):Prop:=P H.a H.b
theorem eI2(J:Nonempty (Q b a)){P:b→a→Prop}(I:(λH:Q b a=>P H.a H.b) (ep J (u2 P))):∀L K,P L K:=λL K=>eI1 J (P:=u2 P) I ⟨L,K⟩
def u3(P:b→a→d→Prop)(H:Q b (Q a d)):Prop:=P H.a H.b.a H.b.b
theorem eI3(J:Nonempty (Q b (Q a d))){P:b→a→d→Prop}(I:(λH:Q b (Q a d)=>P H.a H.b.a H.b.b) (ep J (u3 P))):∀N K L,P N K L:=λN K L=>eI1 J (P:=u3 P) I ⟨N,K,L⟩
def u4(P:b→a→d→e→Prop)(H:Q b (Q a (Q d e))):Prop:=P H.a H.b.a H.b.b.a H.b.b.b
theorem eI4(J:Nonempty (Q b (Q a (Q d e)))){P:b→a→d→e→Prop}(I:(λH:Q b (Q a (Q d e))=>P H.a H.b.a H.b.b.a H.b.b.b) (ep J (u4 P))):∀O L N K,P O L N K:=λO L N K=>eI1 J (P:=u4 P) I ⟨O,L,N,K⟩
def u5(P:b→a→d→e→g→Prop)(H:Q b (Q a (Q d (Q e g)))):Prop:=P H.a H.b.a H.b.b.a H.b.b.b.a H.b.b.b.b
theorem eI5(J:Nonempty (Q b (Q a (Q d (Q e g))))){P:b→a→d→e→g→Prop}(I:(λH:Q b (Q a (Q d (Q e g)))=>P H.a H.b.a H.b.b.a H.b.b.b.a H.b.b.b.b) (ep J (u5 P))):∀R N O K L,P R N O K L:=λR N O K L=>eI1 J (P:=u5 P) I ⟨R,N,O,K,L⟩
def u6(P:b→a→d→e→g→h→Prop)(H:Q b (Q a (Q d (Q e (Q g h))))):Prop:=P H.a H.b.a H.b.b.a H.b.b.b.a H.b.b.b.b.a H.b.b.b.b.b
theorem eI6(J:Nonempty (Q b (Q a (Q d (Q e (Q g h)))))){P:b→a→d→e→g→h→Prop}(I:(λH:Q b (Q a (Q d (Q e (Q g h))))=>P H.a H.b.a H.b.b.a H.b.b.b.a H.b.b.b.b.a H.b.b.b.b.b) (ep J (u6 P))):∀T N O K L R,P T N O K L R:=λT N O K L R=>eI1 J (P:=u6 P) I ⟨T,N,O,K,L,R⟩
def u7(P:b→a→d→e→g→h→j→Prop)(H:Q b (Q a (Q d (Q e (Q g (Q h j)))))):Prop:=P H.a H.b.a H.b.b.a H.b.b.b.a H.b.b.b.b.a H.b.b.b.b.b.a H.b.b.b.b.b.b
theorem eI7(J:Nonempty (Q b (Q a (Q d (Q e (Q g (Q h j))))))){P:b→a→d→e→g→h→j→Prop}(I:(λH:Q b (Q a (Q d (Q e (Q g (Q h j)))))=>P H.a H.b.a H.b.b.a H.b.b.b.a H.b.b.b.b.a H.b.b.b.b.b.a H.b.b.b.b.b.b) (ep J (u7 P))):∀U O R K L T N,P U O R K L T N:=λU O R K L T N=>eI1 J (P:=u7 P) I ⟨U,O,R,K,L,T,N⟩
def u8(P:b→a→d→e→g→h→j→k→Prop)(H:Q b (Q a (Q d (Q e (Q g (Q h (Q j k))))))):Prop:=P H.a H.b.a H.b.b.a H.b.b.b.a H.b.b.b.b.a H.b.b.b.b.b.a H.b.b.b.b.b.b.a H.b.b.b.b.b.b.b
theorem eI8(J:Nonempty (Q b (Q a (Q d (Q e (Q g (Q h (Q j k)))))))){P:b→a→d→e→g→h→j→k→Prop}(I:(λH:Q b (Q a (Q d (Q e (Q g (Q h (Q j k))))))=>P H.a H.b.a H.b.b.a H.b.b.b.a H.b.b.b.b.a H.b.b.b.b.b.a H.b.b.b.b.b.b.a H.b.b.b.b.b.b.b) (ep J (u8 P))):∀U O R K L T N W,P U O R K L T N W:=λU O R K L T N W=>eI1 J (P:=u8 P) I ⟨U,O,R,K,L,T,N,W⟩
def u9(P:b→a→d→e→g→h→j→k→m→Prop)(H:Q b (Q a (Q d (Q e (Q g (Q h (Q j (Q k m)))))))):Prop:=P H.a H.b.a H.b.b.a H.b.b.b.a H.b.b.b.b.a H.b.b.b.b.b.a H.b.b.b.b.b.b.a H.b.b.b.b.b.b.b.a H.b.b.b.b.b.b.b.b
theorem eI9(J:Nonempty (Q b (Q a (Q d (Q e (Q g (Q h (Q j (Q k m))))))))){P:b→a→d→e→g→h→j→k→m→Prop}(I:(λH:Q b (Q a (Q d (Q e (Q g (Q h (Q j (Q k m)))))))=>P H.a H.b.a H.b.b.a H.b.b.b.a H.b.b.b.b.a H.b.b.b.b.b.a H.b.b.b.b.b.b.a H.b.b.b.b.b.b.b.a H.b.b.b.b.b.b.b.b) (ep J (u9 P))):∀W R T K L U N Y O,P W R T K L U N Y O:=λW R T K L U N Y O=>eI1 J (P:=u9 P) I ⟨W,R,T,K,L,U,N,Y,O⟩
def u10(P:b→a→d→e→g→h→j→k→m→n→Prop)(H:Q b (Q a (Q d (Q e (Q g (Q h (Q j (Q k (Q m n))))))))):Prop:=P H.a H.b.a H.b.b.a H.b.b.b.a H.b.b.b.b.a H.b.b.b.b.b.a H.b.b.b.b.b.b.a H.b.b.b.b.b.b.b.a H.b.b.b.b.b.b.b.b.a H.b.b.b.b.b.b.b.b.b
theorem eI10(J:Nonempty (Q b (Q a (Q d (Q e (Q g (Q h (Q j (Q k (Q m n)))))))))){P:b→a→d→e→g→h→j→k→m→n→Prop}(I:(λH:Q b (Q a (Q d (Q e (Q g (Q h (Q j (Q k (Q m n))))))))=>P H.a H.b.a H.b.b.a H.b.b.b.a H.b.b.b.b.a H.b.b.b.b.b.a H.b.b.b.b.b.b.a H.b.b.b.b.b.b.b.a H.b.b.b.b.b.b.b.b.a H.b.b.b.b.b.b.b.b.b) (ep J (u10 P))):∀Y T U K L W O Z R N,P Y T U K L W O Z R N:=λY T U K L W O Z R N=>eI1 J (P:=u10 P) I ⟨Y,T,U,K,L,W,O,Z,R,N⟩
def u11(P:b→a→d→e→g→h→j→k→m→n→c→Prop)(H:Q b (Q a (Q d (Q e (Q g (Q h (Q j (Q k (Q m (Q n c)))))))))):Prop:=P H.a H.b.a H.b.b.a H.b.b.b.a H.b.b.b.b.a H.b.b.b.b.b.a H.b.b.b.b.b.b.a H.b.b.b.b.b.b.b.a H.b.b.b.b.b.b.b.b.a H.b.b.b.b.b.b.b.b.b.a H.b.b.b.b.b.b.b.b.b.b
theorem eI11(J:Nonempty (Q b (Q a (Q d (Q e (Q g (Q h (Q j (Q k (Q m (Q n c))))))))))){P:b→a→d→e→g→h→j→k→m→n→c→Prop}(I:(λH:Q b (Q a (Q d (Q e (Q g (Q h (Q j (Q k (Q m (Q n c)))))))))=>P H.a H.b.a H.b.b.a H.b.b.b.a H.b.b.b.b.a H.b.b.b.b.b.a H.b.b.b.b.b.b.a H.b.b.b.b.b.b.b.a H.b.b.b.b.b.b.b.b.a H.b.b.b.b.b.b.b.b.b.a H.b.b.b.b.b.b.b.b.b.b) (ep J (u11 P))):∀Z U W L N Y R x7 T O K,P Z U W L N Y R x7 T O K:=λZ U W L N Y R x7 T O K=>eI1 J (P:=u11 P) I ⟨Z,U,W,L,N,Y,R,x7,T,O,K⟩
def u12(P:b→a→d→e→g→h→j→k→m→n→c→f→Prop)(H:Q b (Q a (Q d (Q e (Q g (Q h (Q j (Q k (Q m (Q n (Q c f))))))))))):Prop:=P H.a H.b.a H.b.b.a H.b.b.b.a H.b.b.b.b.a H.b.b.b.b.b.a H.b.b.b.b.b.b.a H.b.b.b.b.b.b.b.a H.b.b.b.b.b.b.b.b.a H.b.b.b.b.b.b.b.b.b.a H.b.b.b.b.b.b.b.b.b.b.a H.b.b.b.b.b.b.b.b.b.b.b
theorem eI12(J:Nonempty (Q b (Q a (Q d (Q e (Q g (Q h (Q j (Q k (Q m (Q n (Q c f)))))))))))){P:b→a→d→e→g→h→j→k→m→n→c→f→Prop}(I:(λH:Q b (Q a (Q d (Q e (Q g (Q h (Q j (Q k (Q m (Q n (Q c f))))))))))=>P H.a H.b.a H.b.b.a H.b.b.b.a H.b.b.b.b.a H.b.b.b.b.b.a H.b.b.b.b.b.b.a H.b.b.b.b.b.b.b.a H.b.b.b.b.b.b.b.b.a H.b.b.b.b.b.b.b.b.b.a H.b.b.b.b.b.b.b.b.b.b.a H.b.b.b.b.b.b.b.b.b.b.b) (ep J (u12 P))):∀x0 W Y N O Z T x7 U R L K,P x0 W Y N O Z T x7 U R L K:=λx0 W Y N O Z T x7 U R L K=>eI1 J (P:=u12 P) I ⟨x0,W,Y,N,O,Z,T,x7,U,R,L,K⟩
def u13(P:b→a→d→e→g→h→j→k→m→n→c→f→i→Prop)(H:Q b (Q a (Q d (Q e (Q g (Q h (Q j (Q k (Q m (Q n (Q c (Q f i)))))))))))):Prop:=P H.a H.b.a H.b.b.a H.b.b.b.a H.b.b.b.b.a H.b.b.b.b.b.a H.b.b.b.b.b.b.a H.b.b.b.b.b.b.b.a H.b.b.b.b.b.b.b.b.a H.b.b.b.b.b.b.b.b.b.a H.b.b.b.b.b.b.b.b.b.b.a H.b.b.b.b.b.b.b.b.b.b.b.a H.b.b.b.b.b.b.b.b.b.b.b.b
theorem eI13(I:Nonempty (Q b (Q a (Q d (Q e (Q g (Q h (Q j (Q k (Q m (Q n (Q c (Q f i))))))))))))){P:b→a→d→e→g→h→j→k→m→n→c→f→i→Prop}(J:(λH:Q b (Q a (Q d (Q e (Q g (Q h (Q j (Q k (Q m (Q n (Q c (Q f i)))))))))))=>P H.a H.b.a H.b.b.a H.b.b.b.a H.b.b.b.b.a H.b.b.b.b.b.a H.b.b.b.b.b.b.a H.b.b.b.b.b.b.b.a H.b.b.b.b.b.b.b.b.a H.b.b.b.b.b.b.b.b.b.a H.b.b.b.b.b.b.b.b.b.b.a H.b.b.b.b.b.b.b.b.b.b.b.a H.b.b.b.b.b.b.b.b.b.b.b.b) (ep I (u13 P))):∀x0 Y Z O R x5 U x7 W T L K N,P x0 Y Z O R x5 U x7 W T L K N:=λx0 Y Z O R x5 U x7 W T L K N=>eI1 I (P:=u13 P) J ⟨x0,Y,Z,O,R,x5,U,x7,W,T,L,K,N⟩
def u14(P:b→a→d→e→g→h→j→k→m→n→c→f→i→l→Prop)(H:Q b (Q a (Q d (Q e (Q g (Q h (Q j (Q k (Q m (Q n (Q c (Q f (Q i l))))))))))))):Prop:=P H.a H.b.a H.b.b.a H.b.b.b.a H.b.b.b.b.a H.b.b.b.b.b.a H.b.b.b.b.b.b.a H.b.b.b.b.b.b.b.a H.b.b.b.b.b.b.b.b.a H.b.b.b.b.b.b.b.b.b.a H.b.b.b.b.b.b.b.b.b.b.a H.b.b.b.b.b.b.b.b.b.b.b.a H.b.b.b.b.b.b.b.b.b.b.b.b.a H.b.b.b.b.b.b.b.b.b.b.b.b.b
theorem eI14(I:Nonempty (Q b (Q a (Q d (Q e (Q g (Q h (Q j (Q k (Q m (Q n (Q c (Q f (Q i l)))))))))))))){P:b→a→d→e→g→h→j→k→m→n→c→f→i→l→Prop}(J:(λH:Q b (Q a (Q d (Q e (Q g (Q h (Q j (Q k (Q m (Q n (Q c (Q f (Q i l))))))))))))=>P H.a H.b.a H.b.b.a H.b.b.b.a H.b.b.b.b.a H.b.b.b.b.b.a H.b.b.b.b.b.b.a H.b.b.b.b.b.b.b.a H.b.b.b.b.b.b.b.b.a H.b.b.b.b.b.b.b.b.b.a H.b.b.b.b.b.b.b.b.b.b.a H.b.b.b.b.b.b.b.b.b.b.b.a H.b.b.b.b.b.b.b.b.b.b.b.b.a H.b.b.b.b.b.b.b.b.b.b.b.b.b) (ep I (u14 P))):∀x0 Z x2 R T x5 W x7 Y U N L O K,P x0 Z x2 R T x5 W x7 Y U N L O K:=λx0 Z x2 R T x5 W x7 Y U N L O K=>eI1 I (P:=u14 P) J ⟨x0,Z,x2,R,T,x5,W,x7,Y,U,N,L,O,K⟩
def u15(P:b→a→d→e→g→h→j→k→m→n→c→f→i→l→o→Prop)(H:Q b (Q a (Q d (Q e (Q g (Q h (Q j (Q k (Q m (Q n (Q c (Q f (Q i (Q l o)))))))))))))):Prop:=P H.a H.b.a H.b.b.a H.b.b.b.a H.b.b.b.b.a H.b.b.b.b.b.a H.b.b.b.b.b.b.a H.b.b.b.b.b.b.b.a H.b.b.b.b.b.b.b.b.a H.b.b.b.b.b.b.b.b.b.a H.b.b.b.b.b.b.b.b.b.b.a H.b.b.b.b.b.b.b.b.b.b.b.a H.b.b.b.b.b.b.b.b.b.b.b.b.a H.b.b.b.b.b.b.b.b.b.b.b.b.b.a H.b.b.b.b.b.b.b.b.b.b.b.b.b.b
theorem eI15(I:Nonempty (Q b (Q a (Q d (Q e (Q g (Q h (Q j (Q k (Q m (Q n (Q c (Q f (Q i (Q l o))))))))))))))){P:b→a→d→e→g→h→j→k→m→n→c→f→i→l→o→Prop}(J:(λH:Q b (Q a (Q d (Q e (Q g (Q h (Q j (Q k (Q m (Q n (Q c (Q f (Q i (Q l o)))))))))))))=>P H.a H.b.a H.b.b.a H.b.b.b.a H.b.b.b.b.a H.b.b.b.b.b.a H.b.b.b.b.b.b.a H.b.b.b.b.b.b.b.a H.b.b.b.b.b.b.b.b.a H.b.b.b.b.b.b.b.b.b.a H.b.b.b.b.b.b.b.b.b.b.a H.b.b.b.b.b.b.b.b.b.b.b.a H.b.b.b.b.b.b.b.b.b.b.b.b.a H.b.b.b.b.b.b.b.b.b.b.b.b.b.a H.b.b.b.b.b.b.b.b.b.b.b.b.b.b) (ep I (u15 P))):∀U W x2 Y x4 Z x6 x7 T x9 L O R K N,P U W x2 Y x4 Z x6 x7 T x9 L O R K N:=λU W x2 Y x4 Z x6 x7 T x9 L O R K N=>eI1 I (P:=u15 P) J ⟨U,W,x2,Y,x4,Z,x6,x7,T,x9,L,O,R,K,N⟩
def u19(P:b→a→d→e→g→h→j→k→m→n→c→f→i→l→o→s→r→q→p→Prop)(H:Q b (Q a (Q d (Q e (Q g (Q h (Q j (Q k (Q m (Q n (Q c (Q f (Q i (Q l (Q o (Q s (Q r (Q q p)))))))))))))))))):Prop:=P H.a H.b.a H.b.b.a H.b.b.b.a H.b.b.b.b.a H.b.b.b.b.b.a H.b.b.b.b.b.b.a H.b.b.b.b.b.b.b.a H.b.b.b.b.b.b.b.b.a H.b.b.b.b.b.b.b.b.b.a H.b.b.b.b.b.b.b.b.b.b.a H.b.b.b.b.b.b.b.b.b.b.b.a H.b.b.b.b.b.b.b.b.b.b.b.b.a H.b.b.b.b.b.b.b.b.b.b.b.b.b.a H.b.b.b.b.b.b.b.b.b.b.b.b.b.b.a H.b.b.b.b.b.b.b.b.b.b.b.b.b.b.b.a H.b.b.b.b.b.b.b.b.b.b.b.b.b.b.b.b.a H.b.b.b.b.b.b.b.b.b.b.b.b.b.b.b.b.b.a H.b.b.b.b.b.b.b.b.b.b.b.b.b.b.b.b.b.b
theorem eI19(I:Nonempty (Q b (Q a (Q d (Q e (Q g (Q h (Q j (Q k (Q m (Q n (Q c (Q f (Q i (Q l (Q o (Q s (Q r (Q q p))))))))))))))))))){P:b→a→d→e→g→h→j→k→m→n→c→f→i→l→o→s→r→q→p→Prop}(J:(λH:Q b (Q a (Q d (Q e (Q g (Q h (Q j (Q k (Q m (Q n (Q c (Q f (Q i (Q l (Q o (Q s (Q r (Q q p)))))))))))))))))=>P H.a H.b.a H.b.b.a H.b.b.b.a H.b.b.b.b.a H.b.b.b.b.b.a H.b.b.b.b.b.b.a H.b.b.b.b.b.b.b.a H.b.b.b.b.b.b.b.b.a H.b.b.b.b.b.b.b.b.b.a H.b.b.b.b.b.b.b.b.b.b.a H.b.b.b.b.b.b.b.b.b.b.b.a H.b.b.b.b.b.b.b.b.b.b.b.b.a H.b.b.b.b.b.b.b.b.b.b.b.b.b.a H.b.b.b.b.b.b.b.b.b.b.b.b.b.b.a H.b.b.b.b.b.b.b.b.b.b.b.b.b.b.b.a H.b.b.b.b.b.b.b.b.b.b.b.b.b.b.b.b.a H.b.b.b.b.b.b.b.b.b.b.b.b.b.b.b.b.b.a H.b.b.b.b.b.b.b.b.b.b.b.b.b.b.b.b.b.b) (ep I (u19 P))):∀x0 x1 x2 x3 x4 x5 x6 x7 Z x9 N U W K T R Y O L,P x0 x1 x2 x3 x4 x5 x6 x7 Z x9 N U W K T R Y O L:=λx0 x1 x2 x3 x4 x5 x6 x7 Z x9 N U W K T R Y O L=>eI1 I (P:=u19 P) J ⟨x0,x1,x2,x3,x4,x5,x6,x7,Z,x9,N,U,W,K,T,R,Y,O,L⟩
def u27(P:b→a→d→e→g→h→j→k→m→n→c→f→i→l→o→s→r→q→p→A→z→y→x→w→v→u→t→Prop)(H:Q b (Q a (Q d (Q e (Q g (Q h (Q j (Q k (Q m (Q n (Q c (Q f (Q i (Q l (Q o (Q s (Q r (Q q (Q p (Q A (Q z (Q y (Q x (Q w (Q v (Q u t)))))))))))))))))))))))))):Prop:=P H.a H.b.a H.b.b.a H.b.b.b.a H.b.b.b.b.a H.b.b.b.b.b.a H.b.b.b.b.b.b.a H.b.b.b.b.b.b.b.a H.b.b.b.b.b.b.b.b.a H.b.b.b.b.b.b.b.b.b.a H.b.b.b.b.b.b.b.b.b.b.a H.b.b.b.b.b.b.b.b.b.b.b.a H.b.b.b.b.b.b.b.b.b.b.b.b.a H.b.b.b.b.b.b.b.b.b.b.b.b.b.a H.b.b.b.b.b.b.b.b.b.b.b.b.b.b.a H.b.b.b.b.b.b.b.b.b.b.b.b.b.b.b.a H.b.b.b.b.b.b.b.b.b.b.b.b.b.b.b.b.a H.b.b.b.b.b.b.b.b.b.b.b.b.b.b.b.b.b.a H.b.b.b.b.b.b.b.b.b.b.b.b.b.b.b.b.b.b.a H.b.b.b.b.b.b.b.b.b.b.b.b.b.b.b.b.b.b.b.a H.b.b.b.b.b.b.b.b.b.b.b.b.b.b.b.b.b.b.b.b.a H.b.b.b.b.b.b.b.b.b.b.b.b.b.b.b.b.b.b.b.b.b.a H.b.b.b.b.b.b.b.b.b.b.b.b.b.b.b.b.b.b.b.b.b.b.a H.b.b.b.b.b.b.b.b.b.b.b.b.b.b.b.b.b.b.b.b.b.b.b.a H.b.b.b.b.b.b.b.b.b.b.b.b.b.b.b.b.b.b.b.b.b.b.b.b.a H.b.b.b.b.b.b.b.b.b.b.b.b.b.b.b.b.b.b.b.b.b.b.b.b.b.a H.b.b.b.b.b.b.b.b.b.b.b.b.b.b.b.b.b.b.b.b.b.b.b.b.b.b
theorem eI27(I:Nonempty (Q b (Q a (Q d (Q e (Q g (Q h (Q j (Q k (Q m (Q n (Q c (Q f (Q i (Q l (Q o (Q s (Q r (Q q (Q p (Q A (Q z (Q y (Q x (Q w (Q v (Q u t))))))))))))))))))))))))))){P:b→a→d→e→g→h→j→k→m→n→c→f→i→l→o→s→r→q→p→A→z→y→x→w→v→u→t→Prop}(J:(λH:Q b (Q a (Q d (Q e (Q g (Q h (Q j (Q k (Q m (Q n (Q c (Q f (Q i (Q l (Q o (Q s (Q r (Q q (Q p (Q A (Q z (Q y (Q x (Q w (Q v (Q u t)))))))))))))))))))))))))=>P H.a H.b.a H.b.b.a H.b.b.b.a H.b.b.b.b.a H.b.b.b.b.b.a H.b.b.b.b.b.b.a H.b.b.b.b.b.b.b.a H.b.b.b.b.b.b.b.b.a H.b.b.b.b.b.b.b.b.b.a H.b.b.b.b.b.b.b.b.b.b.a H.b.b.b.b.b.b.b.b.b.b.b.a H.b.b.b.b.b.b.b.b.b.b.b.b.a H.b.b.b.b.b.b.b.b.b.b.b.b.b.a H.b.b.b.b.b.b.b.b.b.b.b.b.b.b.a H.b.b.b.b.b.b.b.b.b.b.b.b.b.b.b.a H.b.b.b.b.b.b.b.b.b.b.b.b.b.b.b.b.a H.b.b.b.b.b.b.b.b.b.b.b.b.b.b.b.b.b.a H.b.b.b.b.b.b.b.b.b.b.b.b.b.b.b.b.b.b.a H.b.b.b.b.b.b.b.b.b.b.b.b.b.b.b.b.b.b.b.a H.b.b.b.b.b.b.b.b.b.b.b.b.b.b.b.b.b.b.b.b.a H.b.b.b.b.b.b.b.b.b.b.b.b.b.b.b.b.b.b.b.b.b.a H.b.b.b.b.b.b.b.b.b.b.b.b.b.b.b.b.b.b.b.b.b.b.a H.b.b.b.b.b.b.b.b.b.b.b.b.b.b.b.b.b.b.b.b.b.b.b.a H.b.b.b.b.b.b.b.b.b.b.b.b.b.b.b.b.b.b.b.b.b.b.b.b.a H.b.b.b.b.b.b.b.b.b.b.b.b.b.b.b.b.b.b.b.b.b.b.b.b.b.a H.b.b.b.b.b.b.b.b.b.b.b.b.b.b.b.b.b.b.b.b.b.b.b.b.b.b) (ep I (u27 P))):∀x0 x1 x2 x3 x4 x5 x6 x7 x8 x9 T a0 a4 L Y W a6 U N a9 a5 a7 Z O K ad R,P x0 x1 x2 x3 x4 x5 x6 x7 x8 x9 T a0 a4 L Y W a6 U N a9 a5 a7 Z O K ad R:=λx0 x1 x2 x3 x4 x5 x6 x7 x8 x9 T a0 a4 L Y W a6 U N a9 a5 a7 Z O K ad R=>eI1 I (P:=u27 P) J ⟨x0,x1,x2,x3,x4,x5,x6,x7,x8,x9,T,a0,a4,L,Y,W,a6,U,N,a9,a5,a7,Z,O,K,ad,R⟩
def u33(P:b→a→d→e→g→h→j→k→m→n→c→f→i→l→o→s→r→q→p→A→z→y→x→w→v→u→t→G→F→E→D→C→B→Prop)(H:Q b (Q a (Q d (Q e (Q g (Q h (Q j (Q k (Q m (Q n (Q c (Q f (Q i (Q l (Q o (Q s (Q r (Q q (Q p (Q A (Q z (Q y (Q x (Q w (Q v (Q u (Q t (Q G (Q F (Q E (Q D (Q C B)))))))))))))))))))))))))))))))):Prop:=P H.a H.b.a H.b.b.a H.b.b.b.a H.b.b.b.b.a H.b.b.b.b.b.a H.b.b.b.b.b.b.a H.b.b.b.b.b.b.b.a H.b.b.b.b.b.b.b.b.a H.b.b.b.b.b.b.b.b.b.a H.b.b.b.b.b.b.b.b.b.b.a H.b.b.b.b.b.b.b.b.b.b.b.a H.b.b.b.b.b.b.b.b.b.b.b.b.a H.b.b.b.b.b.b.b.b.b.b.b.b.b.a H.b.b.b.b.b.b.b.b.b.b.b.b.b.b.a H.b.b.b.b.b.b.b.b.b.b.b.b.b.b.b.a H.b.b.b.b.b.b.b.b.b.b.b.b.b.b.b.b.a H.b.b.b.b.b.b.b.b.b.b.b.b.b.b.b.b.b.a H.b.b.b.b.b.b.b.b.b.b.b.b.b.b.b.b.b.b.a H.b.b.b.b.b.b.b.b.b.b.b.b.b.b.b.b.b.b.b.a H.b.b.b.b.b.b.b.b.b.b.b.b.b.b.b.b.b.b.b.b.a H.b.b.b.b.b.b.b.b.b.b.b.b.b.b.b.b.b.b.b.b.b.a H.b.b.b.b.b.b.b.b.b.b.b.b.b.b.b.b.b.b.b.b.b.b.a H.b.b.b.b.b.b.b.b.b.b.b.b.b.b.b.b.b.b.b.b.b.b.b.a H.b.b.b.b.b.b.b.b.b.b.b.b.b.b.b.b.b.b.b.b.b.b.b.b.a H.b.b.b.b.b.b.b.b.b.b.b.b.b.b.b.b.b.b.b.b.b.b.b.b.b.a H.b.b.b.b.b.b.b.b.b.b.b.b.b.b.b.b.b.b.b.b.b.b.b.b.b.b.a H.b.b.b.b.b.b.b.b.b.b.b.b.b.b.b.b.b.b.b.b.b.b.b.b.b.b.b.a H.b.b.b.b.b.b.b.b.b.b.b.b.b.b.b.b.b.b.b.b.b.b.b.b.b.b.b.b.a H.b.b.b.b.b.b.b.b.b.b.b.b.b.b.b.b.b.b.b.b.b.b.b.b.b.b.b.b.b.a H.b.b.b.b.b.b.b.b.b.b.b.b.b.b.b.b.b.b.b.b.b.b.b.b.b.b.b.b.b.b.a H.b.b.b.b.b.b.b.b.b.b.b.b.b.b.b.b.b.b.b.b.b.b.b.b.b.b.b.b.b.b.b.a H.b.b.b.b.b.b.b.b.b.b.b.b.b.b.b.b.b.b.b.b.b.b.b.b.b.b.b.b.b.b.b.b
theorem eI33(I:Nonempty (Q b (Q a (Q d (Q e (Q g (Q h (Q j (Q k (Q m (Q n (Q c (Q f (Q i (Q l (Q o (Q s (Q r (Q q (Q p (Q A (Q z (Q y (Q x (Q w (Q v (Q u (Q t (Q G (Q F (Q E (Q D (Q C B))))))))))))))))))))))))))))))))){P:b→a→d→e→g→h→j→k→m→n→c→f→i→l→o→s→r→q→p→A→z→y→x→w→v→u→t→G→F→E→D→C→B→Prop}(J:(λH:Q b (Q a (Q d (Q e (Q g (Q h (Q j (Q k (Q m (Q n (Q c (Q f (Q i (Q l (Q o (Q s (Q r (Q q (Q p (Q A (Q z (Q y (Q x (Q w (Q v (Q u (Q t (Q G (Q F (Q E (Q D (Q C B)))))))))))))))))))))))))))))))=>P H.a H.b.a H.b.b.a H.b.b.b.a H.b.b.b.b.a H.b.b.b.b.b.a H.b.b.b.b.b.b.a H.b.b.b.b.b.b.b.a H.b.b.b.b.b.b.b.b.a H.b.b.b.b.b.b.b.b.b.a H.b.b.b.b.b.b.b.b.b.b.a H.b.b.b.b.b.b.b.b.b.b.b.a H.b.b.b.b.b.b.b.b.b.b.b.b.a H.b.b.b.b.b.b.b.b.b.b.b.b.b.a H.b.b.b.b.b.b.b.b.b.b.b.b.b.b.a H.b.b.b.b.b.b.b.b.b.b.b.b.b.b.b.a H.b.b.b.b.b.b.b.b.b.b.b.b.b.b.b.b.a H.b.b.b.b.b.b.b.b.b.b.b.b.b.b.b.b.b.a H.b.b.b.b.b.b.b.b.b.b.b.b.b.b.b.b.b.b.a H.b.b.b.b.b.b.b.b.b.b.b.b.b.b.b.b.b.b.b.a H.b.b.b.b.b.b.b.b.b.b.b.b.b.b.b.b.b.b.b.b.a H.b.b.b.b.b.b.b.b.b.b.b.b.b.b.b.b.b.b.b.b.b.a H.b.b.b.b.b.b.b.b.b.b.b.b.b.b.b.b.b.b.b.b.b.b.a H.b.b.b.b.b.b.b.b.b.b.b.b.b.b.b.b.b.b.b.b.b.b.b.a H.b.b.b.b.b.b.b.b.b.b.b.b.b.b.b.b.b.b.b.b.b.b.b.b.a H.b.b.b.b.b.b.b.b.b.b.b.b.b.b.b.b.b.b.b.b.b.b.b.b.b.a H.b.b.b.b.b.b.b.b.b.b.b.b.b.b.b.b.b.b.b.b.b.b.b.b.b.b.a H.b.b.b.b.b.b.b.b.b.b.b.b.b.b.b.b.b.b.b.b.b.b.b.b.b.b.b.a H.b.b.b.b.b.b.b.b.b.b.b.b.b.b.b.b.b.b.b.b.b.b.b.b.b.b.b.b.a H.b.b.b.b.b.b.b.b.b.b.b.b.b.b.b.b.b.b.b.b.b.b.b.b.b.b.b.b.b.a H.b.b.b.b.b.b.b.b.b.b.b.b.b.b.b.b.b.b.b.b.b.b.b.b.b.b.b.b.b.b.a H.b.b.b.b.b.b.b.b.b.b.b.b.b.b.b.b.b.b.b.b.b.b.b.b.b.b.b.b.b.b.b.a H.b.b.b.b.b.b.b.b.b.b.b.b.b.b.b.b.b.b.b.b.b.b.b.b.b.b.b.b.b.b.b.b) (ep I (u33 P))):∀x0 x1 x2 x3 x4 x5 x6 x7 x8 x9 T a4 a5 L Y W a7 U N ad a6 a9 a0 O K al R as ap ag Z ar b0,P x0 x1 x2 x3 x4 x5 x6 x7 x8 x9 T a4 a5 L Y W a7 U N ad a6 a9 a0 O K al R as ap ag Z ar b0:=λx0 x1 x2 x3 x4 x5 x6 x7 x8 x9 T a4 a5 L Y W a7 U N ad a6 a9 a0 O K al R as ap ag Z ar b0=>eI1 I (P:=u33 P) J ⟨x0,x1,x2,x3,x4,x5,x6,x7,x8,x9,T,a4,a5,L,Y,W,a7,U,N,ad,a6,a9,a0,O,K,al,R,as,ap,ag,Z,ar,b0⟩
end
end Mine
end
local macro_rules | `(tactic| walk_at "ne") => `(tactic| first | infer_instance | exact Mine.neM | exact Mine.neW | exact Mine.neP | exact ⟨{}⟩ | (refine Mine.neX ?_ ?_; (walk_at "ne"); (walk_at "ne")))
set_option hygiene false in
local macro_rules | `(tactic| walk_at "ep") => `(tactic| (generalize Mine.ep _ _ = zp; (repeat (generalize Mine.Q.a zp = zx; revert zx; generalize Mine.Q.b zp = zp)); revert zp))
local macro_rules | `(tactic| refine' $e) => `(tactic| (refine no_implicit_lambda% ($e (by walk_at "ne") ?_); walk_at "ep"))
section
set_option backward.match.sparseCases false
namespace Mine
inductive Ty where
 |str|int|bool|bytes|list|type_|tuple|dict|object|deque
deriving Nonempty
noncomputable def Ty.nm:Ty→String
 | .str=>"str"| .int=>"int"| .bool=>"bool"| .bytes=>"bytes"| .list=>"list"| .type_=>"type"| .tuple=>"tuple"| .dict=>"dict"| .object=>"object"| .deque=>"collections.deque"
inductive Bl where
 |len|isinstance|issubclass|divmod
deriving Nonempty
noncomputable def Bl.nm:Bl→String
 | .len=>"len"| .isinstance=>"isinstance"| .issubclass=>"issubclass"| .divmod=>"divmod"
set_option genInjectivity false in
inductive V where
 |none
 |bool(b:Bool)
 |int(i:Int)
 |str(s:Str)
 |type(n:Ty)
 |blt(id:Bl)
 |adr(a:cv)
 |ref(i:Nat)
 |ftup(xs:List V)
 |flist(xs:List V)
 |fstrs(xs:KA)
deriving Nonempty
abbrev KN:=List V
abbrev KL:=List (Str×V)
def bq{g e:Type}(R:g→e→Prop)(h:List g):List e→Prop:=h.rec (motive:=λc=>List e→Prop) (λd=>d.casesOn (motive:=λc=>Prop) True λc c=>False) λa c f d=>d.casesOn (motive:=λc=>Prop) False λb d=>R a b∧f d
section
variable{b a:Type}{R:b→a→Prop}
theorem bq.ind{P:List b→List a→Prop}(f:P [] [])(h1:∀d as c bs,R d c→P as bs→P (d::as) (c::bs)):∀{as:List b} {bs:List a},bq R as bs→P as bs:=by
 intro as
 induction as with
 |nil=>exact λ{bs}=>bs.casesOn (λe=>f) λe e h=>h.elim
 |cons d as g=>
  intro bs h
  induction bs using kv with
  |nil=>exact h.elim
  |cons c bs=>exact h1 d as c bs h.1 (g h.2)
theorem bq.get{e:List b}{f:List a}(H:bq R e f):∀(i:Nat) (c:b) (o:a),e[i]? =some c→f[i]? =some o→R c o:=
 bq.ind (R:=R) (as:=e) (bs:=f) (P:=λe f=>∀(i:Nat) (c:b) (o:a),e[i]? =some c→f[i]? =some o→R c o) (λd d d h=>noS h) (λd d d d g j i=>i.casesOn (λd d h1 h2=>ds h1▸ds h2▸g) j) H
theorem bq.len{c:List b}{d:List a}(H:bq R c d):c.length=d.length:=bq.ind (R:=R) (as:=c) (bs:=d) (P:=λc d=>c.length=d.length) rfl (λe e e e e h=>congrArg (· +1) h) H
theorem bq.app{e d:List b}{f c:List a}(H:bq R e f)(h:bq R d c):bq R (e++d) (f++c):=bq.ind (R:=R) (as:=e) (bs:=f) (P:=λe f=>bq R (e++d) (f++c)) h (λg g g g h i=>And.intro h i) H
theorem bq.of:∀{f:List b} {e:List a},f.length=e.length→(∀(i:Nat) (d:b) (o:a),f[i]? =some d→e[i]? =some o→R d o)→bq R f e:=by
 intro f
 induction f with
 |nil=>exact λ{e}=>e.casesOn (λg g=>trivial) λg g h=>absurd h.symm (Hp _)
 |cons d f l=>
  intro e j h
  induction e using kv with
  |nil=>exact absurd j (Hp _)
  |cons c e=>exact⟨h 0 d c rfl rfl,l (HZ j) λi=>h (i+1)⟩
end
theorem aiC{b:Type}{P:Nat→b→Prop}{n:Nat}{a:b}{l:List b}(c:P n a)(h:∀i o,l[i]? =some o→P (i+(n+1)) o):∀i o,(a::l)[i]? =some o→P (i+n) o:=
 λi o=>i.casesOn (λe=>by rwa [HY _,←ds e];exact c) λi e=>by rwa [Nat.succ_add _ _];exact h i o e
theorem alC{b:Type}{P:b→Prop}{a:b}{l:List b}(c:P a)(h:∀(i:Nat) o,l[i]? =some o→P o):∀(i:Nat) o,(a::l)[i]? =some o→P o:=
 λi o=>i.casesOn (λe=>ds e▸c) λi e=>h i o e
abbrev aA:=cv→Hn→Prop
def fg(l:List (Option cv))(b:KB):Prop:=∀(i:Nat) (a:cv),l[i]? =some (some a)→b[i]? =some a
def Pre(c b:KB):Prop:=∀(i:Nat) (a:cv),c[i]? =some a→b[i]? =some a
mutual
def Val(F:aA)(d:KB):V→da→Prop
 | .none,v=>v= .none
 | .bool b,v=>v= .bool b
 | .int i,v=>∃t,v= .int i t
 | .str s,v=>∃t,v= .str s t
 | .type n,v=>v= .type n.nm
 | .blt n,v=>v= .builtin n.nm
 | .adr a,v=>v= .ref a
 | .ref i,v=>∃a,d[i]? =some a∧v= .ref a
 | .ftup xs,v=>∃a o c n,v= .ref a∧F a o∧o.cls= .type "tuple"∧o.data= .seq c n∧Vals F d xs c.toList
 | .flist xs,v=>∃a o c n,v= .ref a∧F a o∧o.cls= .type "list"∧o.data= .seq c n∧Vals F d xs c.toList
 | .fstrs xs,v=>∃a o c n,v= .ref a∧F a o∧o.cls= .type "list"∧o.data= .seq c n∧Gq c.toList xs
def Vals(F:aA)(b:KB):List V→List da→Prop
 |[],vs=>vs=[]
 |x::xs,vs=>∃v a,vs=v::a∧Val F b x v∧Vals F b xs a
end
def Le(F c:aA):Prop:=∀(a:cv) (o:Hn),(∃b n,o.data= .seq b n)→F a o→c a o
set_option genInjectivity false in
inductive AO where
 |frame(fs:KL)
 |inst(C:cv)(d:Nat)
 |ns(fs:KL)
 |dict(fs:KL)
 |list(xs:KN)
 |strs(xs:KA)
 |deque(xs:KN)
 |cell(v:Option V)
 |iter(tup:Bool)(v:V)(i:Nat)
 |obj(o:Hn)
 |gone
deriving Nonempty
abbrev KM:=List AO
noncomputable def AO.live:AO→Bool
 | .gone=>false
 |_=>true
def Own(c:KB)(b:KM)(a:cv):Prop:=∃(i:Nat) (o:AO),c[i]? =some a∧b[i]? =some o∧o.live=true
set_option genInjectivity false in
structure Bd where
 B:aA
 H:cv→Prop
 os:OsState
 ρ₀:List (Option cv)
deriving Nonempty
def aa(d:Bd)(c:KB)(b:KM)(h:Gm):aA:=λa o=>¬d.H a∧¬Own c b a∧h.get? a=some o
def g6(F:aA)(a:KB):Option V→Option da→Prop
 |none,_=>True
 |some x,v=>∃y,v=some y∧Val F a x y
def en(P:ed)(F:aA)(a:KB):List (Str×V)→List IY→Prop
 |[],es=>es=[]
 |(k,x)::fs,es=>∃t v r,es=⟨Hf P k, .str k t,v⟩::r∧Val F a x v∧en P F a fs r
def KVs(F:aA)(a:KB):List (Str×V)→List (Str×da)→Prop
 |[],kvs=>kvs=[]
 |(k,x)::fs,kvs=>∃v r,kvs=(k,v)::r∧Val F a x v∧KVs F a fs r
noncomputable def sr:List Nat→List Nat→Bool
 |[],[]=>true
 |a::x,b::y=>Nat.beq a b&&sr x y
 |_,_=>false
theorem w8{x y:KF}:sr x y=true↔x=y:=by
 induction x generalizing y with
 |nil=>
  induction y using kv with
  |nil=>exact⟨λd=>rfl,λd=>rfl⟩
  |cons b r=>exact⟨ftB,λe=>nomatch e⟩
 |cons a x c=>
  induction y using kv with
  |nil=>exact⟨ftB,λe=>nomatch e⟩
  |cons b y=>
   refine(vl (x:=Nat.beq a b) (y:=sr x y)).trans ⟨λh=> ?_,λe=> ?_⟩
   ·rwa [ui h.1,c.mp h.2];rfl
   ·exact⟨(Hb e).1▸Nat.beq_refl a,c.mpr (Hb e).2⟩
def af(a b:Str):Bool:=sr a.cps.toList b.cps.toList
theorem aB{a b:Str}:af a b=true↔a=b:=by
 unfold af;rw [w8]
 constructor
 ·intro h;induction a;induction b;simp only [Str.mk.injEq];exact Array.toList_inj.mp h
 ·rintro rfl;rfl
theorem ee{x y:Str}(h:¬x=y):af x y=false:=JA.mpr λq=>h (aB.mp q)
def lk(n:Str):List (Str×V)→Option V
 |[]=>none
 |(k,v)::r=>bif af n k then some v else lk n r
def qd(b:Bool)(h:Gm)(a l:cv)(i:Nat):Prop:=match b with|true=>IsTupIter h a l i|false=>h.IsListIter a l i
def AOk(p:A8)(w:Gv)(F:aA)(c:KB)(h:Gm)(a:cv):AO→Prop
 | .frame fs=>∃m,h.Ns a m∧∀x,g6 F c (lk x fs) (m x)
 | .inst C d=>∃g j,h.get? a=some ⟨.ref C,some g, .plain,j⟩∧c[d]? =some g
 | .ns fs=>∃f n,h.get? a=some ⟨.type "dict",none, .dict f n, #[]⟩∧en w.params F c fs f.toList
 | .dict fs=>∃e,h.DictOf (JH p w) a e∧KVs F c fs e
 | .list xs=>∃b n,h.get? a=some {cls:= .type "list",data:= .seq b n}∧Vals F c xs b.toList
 | .strs xs=>∃b n,h.get? a=some {cls:= .type "list",data:= .seq b n}∧Gq b.toList xs
 | .deque xs=>∃st k b,h.get? a=some {cls:= .type "collections.deque",data:= .fields (.none:: .int st k::b).toArray}∧Vals F c xs b
 | .cell none=>h.get? a=some {cls:= .type "cell",data:= .cell none}
 | .cell (some x)=>∃v,h.get? a=some {cls:= .type "cell",data:= .cell (some v)}∧Val F c x v
 | .iter tup v i=>∃l,Val F c v (.ref l)∧qd tup h a l i
 | .obj o=>h.get? a=some o
 | .gone=>True
mutual
noncomputable def V.re(σ:Nat→Option V):V→Option V
 | .ref i=>σ i
 | .ftup xs=>(V.reL σ xs).map .ftup
 | .flist xs=>(V.reL σ xs).map .flist
 | .none=>some .none
 | .bool b=>some (.bool b)
 | .int i=>some (.int i)
 | .str x=>some (.str x)
 | .type n=>some (.type n)
 | .blt n=>some (.blt n)
 | .adr a=>some (.adr a)
 | .fstrs xs=>some (.fstrs xs)
noncomputable def V.reL(a:Nat→Option V):List V→Option (List V)
 |[]=>some []
 |x::r=>(V.re a x).bind λy=>(V.reL a r).map (y::·)
end
def reF(a:Nat→Option V):List (Str×V)→Option (List (Str×V))
 |[]=>some []
 |(k,x)::r=>(V.re a x).bind λy=>(reF a r).map ((k,y)::·)
noncomputable def oJ:Option V→Option Nat
 |some (.ref j)=>some j
 |_=>none
def AO.re(σ:Nat→Option V):AO→Option AO
 | .frame fs=>(reF σ fs).map .frame
 | .inst C d=>(oJ (σ d)).map (.inst C)
 | .ns fs=>(reF σ fs).map .ns
 | .dict fs=>(reF σ fs).map .dict
 | .list xs=>(V.reL σ xs).map .list
 | .strs xs=>some (.strs xs)
 | .deque xs=>(V.reL σ xs).map .deque
 | .cell none=>some (.cell none)
 | .cell (some x)=>(V.re σ x).map λy=> .cell (some y)
 | .iter tup v i=>(V.re σ v).map λy=> .iter tup y i
 | .obj o=>some (.obj o)
 | .gone=>some .gone
mutual
noncomputable def V.closed(n:Nat):V→Bool
 | .ref i=>G6 i n
 | .ftup xs=>V.closedL n xs
 | .flist xs=>V.closedL n xs
 |_=>true
noncomputable def V.closedL(n:Nat):List V→Bool
 |[]=>true
 |x::r=>V.closed n x&&V.closedL n r
end
def aC(n:Nat):List (Str×V)→Bool
 |[]=>true
 |(_,x)::r=>V.closed n x&&aC n r
def AO.closed(n:Nat):AO→Bool
 | .frame fs=>aC n fs
 | .inst _ d=>G6 d n
 | .ns fs=>aC n fs
 | .dict fs=>aC n fs
 | .list xs=>V.closedL n xs
 | .deque xs=>V.closedL n xs
 | .cell (some x)=>V.closed n x
 | .iter _ v _=>V.closed n v
 |_=>true
def aK(n:Nat):List AO→Bool
 |[]=>true
 |x::r=>AO.closed n x&&aK n r
def eF(n:Nat)(c b:KB):Prop:=∀(i:Nat) (a:cv),i < n→c[i]? =some a→b[i]? =some a
section
variable{F b:aA}{c a:KB}{σ:Nat→Option V}
theorem atm{y z:V}{v:da}(e:some z=some y)(h:Val b a z v):Val b a y v:=ds e▸h
theorem mD{g:Type}{x:Option V}{l:Option (List g)}{f:V→g}{h:List g}{G:Prop}(e:(x.bind λy=>l.map (f y::·))=some h)(k:∀y d,x=some y→l=some d→f y::d=h→G):G:=
 ab (Gk.mp e) λy i m=>ab (mr.mp m) λd n j=>k y d i n j
theorem Val.re(u:Le F b)(w:∀i x d,σ i=some x→c[i]? =some d→Val b a x (.ref d))(x:V):∀(v:da) (y:V),V.re σ x=some y→Val F c x v→Val b a y v:=by
 refine V.rec (motive_1:=λx=>∀(v:da) (y:V),V.re σ x=some y→Val F c x v→Val b a y v) (motive_2:=λl=>∀(t:KH) (m:KN),V.reL σ l=some m→Vals F c l t→Vals b a m t)
  (λj j e h=>atm e h) (λj j j e h=>atm e h) (λj j j e h=>atm e h) (λj j j e h=>atm e h) (λj j j e h=>atm e h) (λj j j e h=>atm e h) (λj j j e h=>atm e h) ?_ ?_ ?_ ?_ ?_ ?_ x
 ·intro i v y e k
  exact ab k λd h1 h2=>h2▸w i y d e h1
 ·intro l A v y e k
  refine ab (mr.mp (show(V.reL σ l).map V.ftup=some y from e)) λm q z=> ?_;subst z;exact dJ k λd o g n h1 h2 h3 p s=>⟨d,o,g,n,h1,u _ _ ⟨_,_,p⟩ h2,h3,p,A _ m q s⟩
 ·intro l A v y e k
  refine ab (mr.mp (show(V.reL σ l).map V.flist=some y from e)) λm q z=> ?_;subst z;exact dJ k λd o g n h1 h2 h3 p s=>⟨d,o,g,n,h1,u _ _ ⟨_,_,p⟩ h2,h3,p,A _ m q s⟩
 ·intro l v y e k
  obtain rfl:=ds e;exact dJ k λd o g n h1 h2 h3 p s=>⟨d,o,g,n,h1,u _ _ ⟨_,_,p⟩ h2,h3,p,s⟩
 ·exact λt m e h=>ds e▸h
 ·intro x l C E t m e k
  refine mD (f:=id) (show((V.re σ x).bind λy=>(V.reL σ l).map (y::·))=some m from e) λy G q D B=> ?_;subst B;exact bg k λv r h1 h2 h3=>⟨v,r,h1,C v y q h2,E r G D h3⟩
theorem Vals.re(o:Le F b)(l:∀i x d,σ i=some x→c[i]? =some d→Val b a x (.ref d))(g:KN):∀(k:KH) (j:KN),V.reL σ g=some j→Vals F c g k→Vals b a j k:=by
 induction g with
 |nil=>exact λk j e h=>ds e▸h
 |cons x g q=>
  intro k j e m;refine mD (f:=id) (show((V.re σ x).bind λy=>(V.reL σ g).map (y::·))=some j from e) λy t s p n=> ?_;subst n;exact bg m λv r h1 h2 h3=>⟨v,r,h1,Val.re o l x v y s h2,q r t p h3⟩
theorem vO(o:Le F b)(j:∀i x d,σ i=some x→c[i]? =some d→Val b a x (.ref d))(n:Str){v:Option da}{h:KL}:∀{g:KL},reF σ h=some g→g6 F c (lk n h) v→g6 b a (lk n g) v:=by
 induction h with
 |nil=>exact λ{g} e _=>ds e▸trivial
 |cons p r s=>
  intro g e;refine mD (f:=λy=>(p.1,y)) (show((V.re σ p.2).bind λy=>(reF σ r).map ((p.1,y)::·))=some g from e) λy w u q m=> ?_;subst m;show g6 F c (bif af n p.1 then some p.2 else lk n r) v→g6 b a (bif af n p.1 then some y else lk n w) v;cases af n p.1 with
  |true=>exact λk=>ab k λz t l=>⟨z,t,Val.re o j _ _ _ u l⟩
  |false=>exact s q
theorem en.re{P:ed}(o:Le F b)(k:∀i x d,σ i=some x→c[i]? =some d→Val b a x (.ref d)){j:KL}:∀{g:KL} {l:List IY},reF σ j=some g→en P F c j l→en P b a g l:=by
 induction j with
 |nil=>exact λe h=>ds e▸h
 |cons p r u=>
  intro g l e m;refine mD (f:=λy=>(p.1,y)) (show((V.re σ p.2).bind λy=>(reF σ r).map ((p.1,y)::·))=some g from e) λy z w s n=> ?_;subst n;exact jz m λt v q h1 h2 h3=>⟨t,v,q,h1,Val.re o k _ v y w h2,u s h3⟩
theorem KVs.re(o:Le F b)(k:∀i x d,σ i=some x→c[i]? =some d→Val b a x (.ref d)){j:KL}:∀{g:KL} {l:List (Str×da)},reF σ j=some g→KVs F c j l→KVs b a g l:=by
 induction j with
 |nil=>exact λe h=>ds e▸h
 |cons p r t=>
  intro g l e m;refine mD (f:=λy=>(p.1,y)) (show((V.re σ p.2).bind λy=>(reF σ r).map ((p.1,y)::·))=some g from e) λy w u s n=> ?_;subst n;exact bg m λv q h1 h2 h3=>⟨v,q,h1,Val.re o k _ v y u h2,t s h3⟩
theorem sy{z:Option V}{j:Nat}(h:oJ z=some j):z=some (.ref j):=by
 induction z using IL with
 |none=>exact noS h
 |some v=>induction v using V.casesOn with
  |ref i=>exact congrArg (λi=>some (V.ref i)) (ds h)
  |_=>exact noS h
theorem AOk.re{p:A8}{w:Gv}{h U:Gm}{g:cv}(H:Le F b)(z:∀i x g,σ i=some x→c[i]? =some g→Val b a x (.ref g))(B:∀o,h.get? g=some o→U.get? g=some o)(o:AO):∀(t:AO),o.re σ=some t→AOk p w F c h g o→AOk p w b a U g t:=by
 have E:∀{R:Type} {x:Option R} {f:R→AO} {t:AO} {G:AO→Prop},x.map f=some t→(∀y,x=some y→G (f y))→G t:=λe k=>ab (mr.mp e) λy A e2=>e2▸k y A
 induction o using AO.casesOn with
 |frame J=>
  intro t e u;refine E (show(reF σ J).map AO.frame=some t from e) λK A=> ?_;exact ab u λm h1 h2=>⟨m,dW h1 λN D ep q r=>⟨N,D,ep,B _ q,r⟩,λx=>vO H z x A (h2 x)⟩
 |inst C d=>
  intro t e u;refine E (show(oJ (σ d)).map (AO.inst C)=some t from e) λj A=> ?_;exact aS u λT sl h1 h2=>⟨T,sl,B _ h1,ab (z d _ T (sy A) h2) λs Z W=>HT W▸Z⟩
 |ns J=>
  intro t e u;refine E (show(reF σ J).map AO.ns=some t from e) λK A=> ?_;exact aS u λD n h1 h2=>⟨D,n,B _ h1,en.re H z A h2⟩
 |dict J=>
  intro t e u;refine E (show(reF σ J).map AO.dict=some t from e) λK A=> ?_;exact ab u λO h1 h2=>⟨O,dW h1 λN D ep q r=>⟨N,D,ep,B _ q,r⟩,KVs.re H z A h2⟩
 |list L=>
  intro t e u;refine E (show(V.reL σ L).map AO.list=some t from e) λK A=> ?_;exact aS u λD n h1 h2=>⟨D,n,B _ h1,Vals.re H z _ _ _ A h2⟩
 |«strs» L=>
  intro t e u;obtain rfl:=ds e;exact aS u λD n h1 h2=>⟨D,n,B _ h1,h2⟩
 |deque L=>
  intro t e u;refine E (show(V.reL σ L).map AO.deque=some t from e) λK A=> ?_;exact dW u λst Y P h1 h2=>⟨st,Y,P,B _ h1,Vals.re H z _ _ _ A h2⟩
 |cell x=>
  induction x using IL with
  |none=>exact λt e u=>ds e▸B _ u
  |some x=>
   intro t e u;refine E (show((V.re σ x).map λy=>AO.cell (some y))=some t from e) λy A=> ?_;exact ab u λv h1 h2=>⟨v,B _ h1,Val.re H z _ _ _ A h2⟩
 |iter I v i=>
  intro t e u;refine E (show((V.re σ v).map λy=>AO.iter I y i)=some t from e) λy A=> ?_;refine ab u λl h1 h2=>⟨l,Val.re H z _ _ _ A h1, ?_⟩
  induction I with
  |true=>exact ab h2 λo q r=>⟨o,B _ q,r⟩
  |false=>exact ab h2 λo q r=>⟨o,B _ q,r⟩
 |obj o=>exact λt e u=>ds e▸B _ u
 |gone=>exact λt e zz=>ds e▸trivial
end
theorem kK{a:Type}{x:Option V}{l:Option (List a)}{f:V→a}{y:V}{r:List a}(h1:x=some y)(h2:l=some r):(x.bind λy=>l.map (f y::·))=some (f y::r):=by rwa [h1,h2];rfl
section
variable{b:Nat→Option V}{n:Nat}(a:∀i,i < n→b i=some (.ref i))
include a
theorem V.re_cut(x:V):V.closed n x=true→V.re b x=some x:=
 V.rec (motive_1:=λx=>V.closed n x=true→V.re b x=some x) (motive_2:=λd=>V.closedL n d=true→V.reL b d=some d)
  (λc=>rfl) (λc c=>rfl) (λc c=>rfl) (λc c=>rfl) (λc c=>rfl) (λc c=>rfl) (λc c=>rfl) (λi h=>a i (ro h)) (λc e h=>congrArg (Gh V.ftup) (e h)) (λc e h=>congrArg (Gh V.flist) (e h)) (λc c=>rfl)
  (λc=>rfl) (λc c g j h=>kK (f:=id) (g (vl.mp h).1) (j (vl.mp h).2)) x
theorem V.reL_cut(c:KN):V.closedL n c=true→V.reL b c=some c:=by
 induction c with
 |nil=>exact λe=>rfl
 |cons x c d=>exact λh=>kK (f:=id) (V.re_cut a x (vl.mp h).1) (d (vl.mp h).2)
theorem fV(c:KL):aC n c=true→reF b c=some c:=by
 induction c with
 |nil=>exact λe=>rfl
 |cons p r d=>exact λh=>kK (f:=λy=>(p.1,y)) (V.re_cut a p.2 (vl.mp h).1) (d (vl.mp h).2)
theorem AO.re_cut(o:AO):AO.closed n o=true→o.re b=some o:=by
 induction o using AO.casesOn with
 |frame c=>exact λh=>congrArg (Gh AO.frame) (fV a c h)
 |inst C d=>exact λh=>congrArg (λz=>(oJ z).map (AO.inst C)) (a d (ro h))
 |ns c=>exact λh=>congrArg (Gh AO.ns) (fV a c h)
 |dict c=>exact λh=>congrArg (Gh AO.dict) (fV a c h)
 |list f=>exact λh=>congrArg (Gh AO.list) (V.reL_cut a f h)
 |deque f=>exact λh=>congrArg (Gh AO.deque) (V.reL_cut a f h)
 |cell x=>
  induction x using IL with
  |none=>exact λg=>rfl
  |some x=>exact λh=>congrArg (Gh λy=>AO.cell (some y)) (V.re_cut a x h)
 |iter e v i=>exact λh=>congrArg (Gh λy=>AO.iter e y i) (V.re_cut a v h)
 |_=>exact λg=>rfl
end
noncomputable def sgR(i:Nat):Option V:=some (.ref i)
theorem V.re_all(x:V):V.re sgR x=some x:=
 V.rec (motive_1:=λx=>V.re sgR x=some x) (motive_2:=λc=>V.reL sgR c=some c)
  rfl (λa=>rfl) (λa=>rfl) (λa=>rfl) (λa=>rfl) (λa=>rfl) (λa=>rfl) (λa=>rfl) (λa b=>congrArg (Gh V.ftup) b) (λa b=>congrArg (Gh V.flist) b) (λa=>rfl) rfl (λa a d e=>kK (f:=id) d e) x
theorem V.reL_all(a:KN):V.reL sgR a=some a:=by
 induction a with
 |nil=>rfl
 |cons x a b=>exact kK (f:=id) (V.re_all x) b
theorem iK(a:KL):reF sgR a=some a:=by
 induction a with
 |nil=>rfl
 |cons p r b=>exact kK (f:=λy=>(p.1,y)) (V.re_all p.2) b
theorem AO.re_all(o:AO):o.re sgR=some o:=by
 induction o using AO.casesOn with
 |frame a=>exact congrArg (Gh AO.frame) (iK a)
 |ns a=>exact congrArg (Gh AO.ns) (iK a)
 |dict a=>exact congrArg (Gh AO.dict) (iK a)
 |list c=>exact congrArg (Gh AO.list) (V.reL_all c)
 |deque c=>exact congrArg (Gh AO.deque) (V.reL_all c)
 |cell x=>
  induction x using IL with
  |none=>rfl
  |some x=>exact congrArg (Gh λy=>AO.cell (some y)) (V.re_all x)
 |iter b v i=>exact congrArg (Gh λy=>AO.iter b y i) (V.re_all v)
 |_=>rfl
noncomputable def sgC(n i:Nat):Option V:=bif G6 i n then some (.ref i)else none
theorem l6{n:Nat}(i:Nat)(h:i < n):sgC n i=some (.ref i):=by
 unfold sgC;rwa [show G6 i n=true from GQ h];rfl
section
variable{F d:aA}{c a:KB}(e:Le F d)
theorem jK(b:Pre c a)(i:Nat)(x:V)(g:cv)(f:sgR i=some x)(h:c[i]? =some g):Val d a x (.ref g):=ds f▸⟨g,b i g h,rfl⟩
theorem l4{n:Nat}(b:eF n c a)(i:Nat)(x:V)(f:cv)(g:sgC n i=some x)(h:c[i]? =some f):Val d a x (.ref f):=by
 unfold sgC at g;cases q:G6 i n with
 |true=>rw [q]at g;exact ds g▸⟨f,b i f (ro q) h,rfl⟩
 |false=>rw [q]at g;exact noS g
include e
theorem Val.mono(b:Pre c a)(x:V)(v:da):Val F c x v→Val d a x v:=Val.re e (jK b) x v x (V.re_all x)
theorem Vals.mono(b:Pre c a)(f:KN)(h:KH):Vals F c f h→Vals d a f h:=Vals.re e (jK b) f h f (V.reL_all f)
theorem en.mono{P:ed}(b:Pre c a)(g:KL)(h:List IY):en P F c g h→en P d a g h:=en.re e (jK b) (iK g)
theorem KVs.mono(b:Pre c a)(g:KL)(h:List (Str×da)):KVs F c g h→KVs d a g h:=KVs.re e (jK b) (iK g)
theorem AOk.mono{p:A8}{w:Gv}{h i:Gm}{f:cv}(b:Pre c a)(j:∀o,h.get? f=some o→i.get? f=some o)(o:AO):AOk p w F c h f o→AOk p w d a i f o:=AOk.re e (jK b) j o o (AO.re_all o)
variable{n:Nat}(b:eF n c a)
include b
theorem Val.cut(x:V)(v:da)(f:V.closed n x=true):Val F c x v→Val d a x v:=Val.re e (l4 b) x v x (V.re_cut l6 x f)
theorem Vals.cut(g:KN)(h:KH)(f:V.closedL n g=true):Vals F c g h→Vals d a g h:=Vals.re e (l4 b) g h g (V.reL_cut l6 g f)
theorem KVs.cut(g:KL)(h:List (Str×da))(f:aC n g=true):KVs F c g h→KVs d a g h:=KVs.re e (l4 b) (fV l6 g f)
theorem AOk.cut{p:A8}{w:Gv}{h i:Gm}{g:cv}(j:∀o,h.get? g=some o→i.get? g=some o)(o:AO)(f:AO.closed n o=true):AOk p w F c h g o→AOk p w d a i g o:=AOk.re e (l4 b) j o o (AO.re_cut l6 o f)
end
structure aq(p:A8)(w:Gv)(d:Bd)(ρ:KB)(mu:KM)(s:dd):Prop where
 len:ρ.length=mu.length
 nodup:ρ.Nodup
 objs:∀(i:Nat) (a:cv) (o:AO),ρ[i]? =some a→mu[i]? =some o→AOk p w (aa d ρ mu s.heap) ρ s.heap a o
 base:∀b o,d.B b o→s.heap.get? b=some o
 new:∀a,a∈ρ→(∀o,¬d.B a o)∧a < s.heap.objs.size∧¬d.H a∧(a==sysModules)=false
 big:1 < s.heap.objs.size
 hid:∀a,d.H a→a < s.heap.objs.size
 pre:fg d.ρ₀ ρ
 gens:s.gens=#[]
 os:s.os=d.os
structure Ext(ρ:KB)(mu:KM)(s:dd)(ρ':KB)(mu':KM)(s':dd):Prop where
 pre:Pre ρ ρ'
 keep:∀b o,¬Own ρ mu b→s.heap.get? b=some o→s'.heap.get? b=some o
 own:∀a,Own ρ' mu' a→Own ρ mu a∨s.heap.objs.size≤a
 size:s.heap.objs.size≤s'.heap.objs.size
theorem Ext.refl(c:KB)(b:KM)(s:dd):Ext c b s c b s:=⟨λa a h=>h,λa a a h=>h,λa h=> .inl h,fx _⟩
theorem Ext.froz{d:Bd}{i:KB}{f:KM}{s:dd}{b:KB}{c:KM}{g:dd}(X:Ext i f s b c g):Le (aa d i f s.heap) (aa d b c g.heap):=
 λa o l e=>ax e λj h1 h2=>⟨j,λh=>(X.own a h).elim h1 λk=>absurd (wl h2) (Go.mpr k),X.keep a o h1 h2⟩
theorem Ext.trans{d e c:KB}{j l m:KM}{g f k:dd}(X:Ext d j g e l f)(Y:Ext e l f c m k):Ext d j g c m k:=
 ⟨λi a h=>Y.pre i a (X.pre i a h),λb o h1 h2=>Y.keep b o (λh=>(X.own b h).elim h1 λn=>absurd (wl h2) (Go.mpr n)) (X.keep b o h1 h2),
  λa h=>(Y.own a h).elim (X.own a) λn=> .inr (h9 X.size n),h9 X.size Y.size⟩
theorem Ext.val{d:Bd}{c:KB}{e:KM}{s:dd}{a:KB}{b:KM}{f:dd}(X:Ext c e s a b f){x:V}{v:da}(h:Val (aa d c e s.heap) c x v):Val (aa d a b f.heap) a x v:=
 Val.mono X.froz X.pre x v h
theorem Ext.vals{d:Bd}{c:KB}{e:KM}{s:dd}{a:KB}{b:KM}{f:dd}(X:Ext c e s a b f){x:KN}{v:KH}(h:Vals (aa d c e s.heap) c x v):Vals (aa d a b f.heap) a x v:=
 Vals.mono X.froz X.pre x v h
section
variable{p:A8}{w:Gv}{d:Bd}{b:KB}{c:KM}{s:dd}
theorem getElem?_inj_of_nodup{l:KB}(h:l.Nodup){i j:Nat}{a:cv}(m:l[i]? =some a)(k:l[j]? =some a):i=j:=by
 obtain⟨h1,f⟩:=hX.mp m;obtain⟨h2,g⟩:=hX.mp k;have e:=List.pairwise_iff_getElem.mp h;rcases Nat.lt_trichotomy i j with q|q|q
 ·exact absurd (f.trans g.symm) (e i j h1 h2 q)
 ·exact q
 ·exact absurd (g.trans f.symm) (e j i h2 h1 q)
theorem aq.lt(R:aq p w d b c s){i:Nat}{o:AO}(h:c[i]? =some o):∃a,b[i]? =some a:=by
 obtain⟨h1,_⟩:=hX.mp h;exact⟨b[i]'(by rwa [R.len];exact h1),kn _⟩
theorem aq.upd:∀{i:Nat} {a:cv} {o o':AO} {s':dd} (R:aq p w d b c s) (l:b[i]? =some a) (u:c[i]? =some o) (y:o.live=true) (v:∀f g,f≠a→s.heap.get? f=some g→s'.heap.get? f=some g) (n:s.heap.objs.size≤s'.heap.objs.size) (t:s'.gens=s.gens) (r:s'.os=s.os) (A:Le (aa d b c s.heap) (aa d b (c.set i o') s'.heap)→AOk p w (aa d b (c.set i o') s'.heap) b s'.heap a o'),aq p w d b (c.set i o') s'∧Ext b c s b (c.set i o') s':=by
 revert p w d b c s;refine' eI11;intro s' o' o a i s c b d w p R l u y v n t r A;have m:∀f,Own b (c.set i o') f→Own b c f:=by
  rintro f ⟨j,g,h1,h2,h3⟩
  by_cases e:i=j
  ·subst e;rw [l]at h1;obtain rfl:=ds h1;exact⟨i,o,l,u,y⟩
  ·rw [List.getElem?_set_ne e]at h2;exact⟨j,g,h1,h2,h3⟩
 have C:Own b c a:=⟨i,o,l,u,y⟩;have X:Ext b c s b (c.set i o') s':=⟨λB B h=>h,λf g k t=>v f g (λe=>k (e▸C)) t,λf k=> .inl (m f k),n⟩;refine⟨⟨by rwa [List.length_set];exact R.len,R.nodup,λj f g h1 h2=> ?_,λf g h=> ?_,λf k=>⟨(R.new f k).1,fa (R.new f k).2.1 n,(R.new f k).2.2⟩,fa R.big n,λf k=>fa (R.hid f k) n,R.pre,t.trans R.gens,r.trans R.os⟩,X⟩
 ·by_cases e:i=j
  ·subst e
   rw [l]at h1;obtain rfl:=ds h1;have:i < c.length:=(hX.mp u).1;rw [List.getElem?_set_self this]at h2;obtain rfl:=ds h2;exact A X.froz
  ·rw [List.getElem?_set_ne e]at h2
   have z:f≠a:=λq=>e (getElem?_inj_of_nodup R.nodup l (q▸h1));exact AOk.mono X.froz X.pre (λx D=>v f x z D) g (R.objs j f g h1 h2)
 ·refine v f g (λe=> ?_) (R.base f g h)
  subst e;exact(R.new _ (lf l)).1 _ h
theorem aq.grow(R:aq p w d b c s){s':dd}(l:∀a e,s.heap.get? a=some e→s'.heap.get? a=some e)(g:s.heap.objs.size≤s'.heap.objs.size)(m:s'.gens=s.gens)(i:s'.os=s.os):
 aq p w d b c s'∧Ext b c s b c s':=by
 have X:Ext b c s b c s':=⟨λk k h=>h,λa e k h=>l a e h,λk h=> .inl h,g⟩;exact⟨⟨R.len,R.nodup,λj a e h1 h2=>AOk.mono X.froz X.pre (l a) e (R.objs j a e h1 h2),λa e h=>l a e (R.base a e h),λa f=>⟨(R.new a f).1,fa (R.new a f).2.1 g,(R.new a f).2.2⟩,
  fa R.big g,λa f=>fa (R.hid a f) g,R.pre,m.trans R.gens,i.trans R.os⟩,X⟩
theorem aq.same(R:aq p w d b c s){s':dd}(e:s'.heap=s.heap)(g:s'.gens=s.gens)(a:s'.os=s.os):aq p w d b c s'∧Ext b c s b c s':=
 R.grow (by rwa [e];exact λf f h=>h) (by rwa [e];exact fx _) g a
theorem me{b:KB}{c:KM}(g:b.length=c.length){a f:cv}{o:AO}:Own (b++[f]) (c++[o]) a→Own b c a∨a=f:=by
 rintro⟨j,h,h1,h2,h3⟩
 by_cases e:j < b.length
 ·rw [i1 e]at h1
  rw [i1 (g▸e)]at h2;exact .inl ⟨j,h,h1,h2,h3⟩
 ·rw [gv (Go.mp e)]at h1
  have:j -b.length=0:=by
   have:=(hX.mp h1).1;simp at this;exact this
  rw [this]at h1;simp at h1;exact .inr h1.symm
theorem aq.alloc(R:aq p w d b c s){a:cv}{o:AO}{s':dd}(k:s.heap.objs.size≤a)(l:a < s'.heap.objs.size)(q:∀g r,s.heap.get? g=some r→s'.heap.get? g=some r)
 (v:s'.gens=s.gens)(n:s'.os=s.os)
 (u:Le (aa d b c s.heap) (aa d (b++[a]) (c++[o]) s'.heap)→Pre b (b++[a])→AOk p w (aa d (b++[a]) (c++[o]) s'.heap) (b++[a]) s'.heap a o):
 aq p w d (b++[a]) (c++[o]) s'∧Ext b c s (b++[a]) (c++[o]) s':=by
 have m:s.heap.objs.size≤s'.heap.objs.size:=IM (IA k l);have X:Ext b c s (b++[a]) (c++[o]) s':=by
  refine⟨λi g h=> ?_,λg x A y=>q g x y,λg hb=>(me R.len hb).imp id λ(e:g=a)=>e.symm▸k,m⟩;rwa [i1 (hX.mp h).1];exact h
 refine(an ⟨by simp [R.len], ?_,λj g x h1 h2=> ?_,λg x h=>q g x (R.base g x h),λg hb=> ?_,fa R.big m,λg hb=>fa (R.hid g hb) m,λi g h=>X.pre i g (R.pre i g h),v.trans R.gens,n.trans R.os⟩ X)
 ·rw [Gn]
  refine(cB R.nodup (by simp) (λf z g hb=> ?_))
  rw [mx]at hb;exact HG (hb▸fa (R.new f z).2.1 k)
 ·by_cases e:j < b.length
  ·rw [i1 e]at h1
   rw [i1 (R.len▸e)]at h2;exact AOk.mono X.froz X.pre (q g) x (R.objs j g x h1 h2)
  ·rw [gv (Go.mp e)]at h1
   rw [gv (R.len▸Go.mp e)]at h2;have t:j -b.length=0:=by
    have:=(hX.mp h1).1;simp at this;exact this
   rw [t]at h1;rw [←R.len,t]at h2;simp at h1 h2;subst h1;subst h2;exact u X.froz X.pre
 ·rcases sz.mp hb with hb|hb
  ·exact(cB ((R.new g hb).1) (fa (R.new g hb).2.1 m) ((R.new g hb).2.2))
  ·rw [mx]at hb
   subst hb;exact(iB (λo h=>absurd (wl (R.base _ _ h)) (Go.mpr k)) l (λh=>absurd (R.hid _ h) (Go.mpr k)) (beq_eq_false_iff_ne.mpr (Iq (fa R.big k))))
end
theorem Ek{n:Nat}{x:Str}{v:V}:∀{e:KL},aC n e=true→lk x e=some v→V.closed n v=true:=by
 intro d
 induction d with
 |nil=>
  intro _ h;exact noS h
 |cons b r a=>
  obtain⟨k,y⟩:=b;intro c h;have c:(V.closed n y&&aC n r)=true:=c;rw [lq]at c;unfold lk at h;cases q:af x k with
  |true=>rw [q]at h;obtain rfl:=(ds h).symm;exact c.1
  |false=>rw [q]at h;exact a c.2 h
theorem bW{n:Nat}{i:Nat}{o:AO}:∀{d:KM},aK n d=true→d[i]? =some o→AO.closed n o=true:=by
 intro b
 induction b generalizing i with
 |nil=>
  intro _ h;trivial
 |cons x r a=>
  intro c h;have c:(AO.closed n x&&aK n r)=true:=c;rw [lq]at c
  induction i using Ge with
  |zero=>simp at h;subst h;exact c.1
  |succ i=>rw [G7]at h;exact a c.2 h
def Bd.hide(d:Bd)(n:Nat)(c:KB)(b:KM):Bd:={d with H:=λa=>d.H a∨Own (c.drop n) (b.drop n) a,ρ₀:=d.ρ₀.take n}
theorem aq.forget{p:A8}{w:Gv}{d:Bd}{f:KB}{c:KM}{s:dd}{e:KB}{b:KM}{s1:dd}(R:aq p w d f c s)(j:aq p w d e b s1)(X:Ext f c s e b s1)(x:c.length≤b.length)
 (y:aK c.length (b.take c.length)=true):
 aq p w d f (b.take c.length) s1∧Ext f c s f (b.take c.length) s1∧Le (aa d e b s1.heap) (aa d f (b.take c.length) s1.heap)∧eF c.length e f:=by
 have t:eF c.length e f:=λi a n h=>by
  have k:i < f.length:=by rwa [R.len];exact n
  have:=X.pre i _ (kn k);rw [this]at h;obtain rfl:=ds h;exact kn k
 have get:∀(i:Nat) (o:AO),(b.take c.length)[i]? =some o→b[i]? =some o∧i < c.length:=by
  intro i o h;rw [FD]at h
  split at h
  ·rename_i n;exact(an h n)
  ·exact noS h
 have g:∀a,Own f (b.take c.length) a→Own e b a:=by
  rintro a ⟨i,o,h1,h2,h3⟩
  exact⟨i,o,X.pre i a h1,(get i o h2).1,h3⟩
 have r:Le (aa d e b s1.heap) (aa d f (b.take c.length) s1.heap):=λa o m q=>ax q λu h1 h2=>⟨u,λh=>h1 (g a h),h2⟩;refine(iB ⟨by rwa [p7,R.len];exact Leq [_,_] [.h 5 1 1 V1 V0] 0 V0 V1 rfl (GW (x)),R.nodup,λi a o h1 h2=> ?_,j.base,λa l=>⟨(R.new a l).1,fa (R.new a l).2.1 X.size,(R.new a l).2.2⟩,j.big,j.hid,R.pre,j.gens,j.os⟩ ⟨λm m h=>h,X.keep,λa l=>X.own a (g a l),X.size⟩ r t)
 exact AOk.cut r t (λm h=>h) o (bW y h2) (j.objs i a o (X.pre i a h1) (get i o h2).1)
section
variable{p:A8}{w:Gv}{d:Bd}{a:KB}{b:KM}{s:dd}
theorem li{n:Nat}{c:cv}:Own (a.take n) (b.take n) c→Own a b c:=by
 rintro⟨i,o,h1,h2,h3⟩
 rw [FD]at h1 h2
 split at h1
 ·rename_i e;rw [if_pos e]at h2;exact⟨i,o,h1,h2,h3⟩
 ·exact noS h1
theorem pq{n:Nat}{c:cv}:Own (a.drop n) (b.drop n) c→Own a b c:=by
 rintro⟨i,o,h1,h2,h3⟩
 rw [IB]at h1 h2;exact⟨n+i,o,h1,h2,h3⟩
theorem aq.restrict:∀{n:Nat} (R:aq p w d a b s) (q:aK n (b.take n)=true),aq p w (d.hide n a b) (a.take n) (b.take n) s∧Le (aa d a b s.heap) (aa (d.hide n a b) (a.take n) (b.take n) s.heap):=by
 revert p w d a b s;refine' eI7;intro n s b a d w p R q;have L:Le (aa d a b s.heap) (aa (d.hide n a b) (a.take n) (b.take n) s.heap):=λe o t m=>ax m λr h1 h2=>⟨λh=>h.elim r λh=>h1 (pq h),λh=>h1 (li h),h2⟩;have P:eF n a (a.take n):=λi e f h=>by rwa [FD,if_pos f];exact h
 refine(an ⟨by simp [R.len],R.nodup.sublist (List.take_sublist n a),λi e o h1 h2=> ?_,R.base,λe k=> ?_,R.big,λe k=> ?_,λi e h=> ?_,R.gens,R.os⟩ L)
 ·have c:=bW q h2
  rw [FD]at h1 h2
  split at h1
  ·rename_i f;rw [if_pos f]at h2
   exact AOk.cut L P (λt h=>h) o c (R.objs i e o h1 h2)
  ·exact noS h1
 ·have g:=Ik k
  refine(iB ((R.new e g).1) ((R.new e g).2.1) (λh=>h.elim (R.new e g).2.2.1 ?_) ((R.new e g).2.2.2))
  rintro⟨j,o,h1,_,_⟩
  refine au (Ho.mp k) λi f=> ?_;rw [FD]at f
  split at f
  ·rename_i l
   rw [IB]at h1;have:=getElem?_inj_of_nodup R.nodup f h1;exact Lno [_,_,_] [Q0 (.a V0 Z0) V1,Q2 V0 (.a V1 V2)] rfl l this
  ·exact noS f
 ·rcases k with h|⟨j,o,h1,_,_⟩
  ·exact R.hid e h
  ·exact(R.new e (List.mem_of_mem_drop (lf h1))).2.1
 ·have h:(d.ρ₀.take n)[i]? =some (some e):=h
  rw [FD]at h
  split at h
  ·rename_i f;exact P i e f (R.pre i e h)
  ·exact noS h
theorem aq.restore:∀{n:Nat} {k:KB} {g:KM} {s1:dd} (R:aq p w d a b s) (C:n≤b.length) (u:aq p w (d.hide n a b) k g s1) (X:Ext (a.take n) (b.take n) s k g s1) (F:n≤g.length) (I:aK n (g.take n)=true),aq p w d a (g.take n++b.drop n) s1∧Ext a b s a (g.take n++b.drop n) s1∧Le (aa (d.hide n a b) k g s1.heap) (aa d a (g.take n++b.drop n) s1.heap)∧eF n k a:=by
 revert p w d a b s;refine' eI10;intro s1 g k n s b a d w p R C u X F I;have r:n≤a.length:=by rwa [R.len];exact C
 have P:eF n a k:=λi f l h=>X.pre i f (by rwa [FD,if_pos l];exact h)
 have H:eF n k a:=λi f l h=>by
  have t:i < a.length:=by exact Lle [_,_,_] [Q0 V0 V1,Q0 (.a V2 Z0) V0] 0 (.a V2 Z0) V1 rfl r l
  have:=P i _ l (kn t);rw [this]at h;obtain rfl:=ds h;exact kn t
 have z:(g.take n).length=n:=by rwa [p7];exact(GW (F))
 have get:∀i,(g.take n++b.drop n)[i]? =if i < n then g[i]? else b[i]? :=by
  intro i
  by_cases h:i < n
  ·(rwa [i1 (by exact Lle [_,_,_] [Q2 V0 V1,Q0 (.a V2 Z0) V1] 0 (.a V2 Z0) V0 rfl z h),FD,if_pos h,if_pos h];rfl)
  ·rwa [gv (by exact Lle [_,_,_] [Q1 V0 V1, .h 3 1 0 (.a V2 Z0) V1] 0 V0 V2 rfl z h),if_neg h,z,IB];congr 1;exact Leq [_,_,_] [.h 4 1 1 (.a V2 V0) V1] 0 (.a V0 V2) V1 rfl (pm (Lle [_,_] [.h 3 1 0 (.a V1 Z0) V0] 0 V0 V1 rfl h))
 have m:∀f,Own a (g.take n++b.drop n) f→Own k g f∨Own (a.drop n) (b.drop n) f:=by
  rintro f ⟨i,o,h1,h2,h3⟩
  rw [get]at h2
  split at h2
  ·rename_i l;exact .inl ⟨i,o,P i f l h1,h2,h3⟩
  ·rename_i l
   refine .inr ⟨i -n,o, ?_, ?_,h3⟩<;>rwa [IB,show n+(i -n)=i by exact Leq [_,_,_] [.h 4 1 1 (.a V2 V0) V1] 0 (.a V0 V2) V1 rfl (pm (Lle [_,_] [.h 3 1 0 (.a V1 Z0) V0] 0 V0 V1 rfl l))]<;>assumption
 have D:Ext a b s a (g.take n++b.drop n) s1:=by
  refine⟨λA A h=>h,λe o h1 h2=>X.keep e o (λh=>h1 (li h)) h2,λf q=> ?_,X.size⟩;rcases m f q with h|h
  ·exact(X.own f h).imp li id
  ·exact .inl (pq h)
 have G:Le (aa (d.hide n a b) k g s1.heap) (aa d a (g.take n++b.drop n) s1.heap):=
  λf o A B=>ax B λE h1 h2=>⟨λh=>E (.inl h),λh=>(m f h).elim h1 λh=>E (.inr h),h2⟩
 refine(iB ⟨?_,R.nodup,λi f o h1 h2=> ?_,u.base,λf q=>⟨(R.new f q).1,fa (R.new f q).2.1 X.size,(R.new f q).2.2⟩,fa R.big X.size,λf q=>fa (R.hid f q) X.size,R.pre,u.gens,u.os⟩ D G H)
 ·rwa [is,z,I0,R.len];exact Leq [_,_,_] [.h 5 1 1 (.a V2 V0) V1] 0 V1 (.a V0 V2) rfl (pm (C))
 ·have K:=h2
  rw [get]at h2
  split at h2
  ·rename_i l
   have c:AO.closed n o=true:=bW (i:=i) I (by rwa [FD,if_pos l];exact h2)
   exact AOk.cut G H (λA h=>h) o c (u.objs i f o (P i f l h1) h2)
  ·rename_i l
   refine AOk.mono D.froz D.pre (λx J=>X.keep f x ?_ J) o (R.objs i f o h1 h2)
   rintro⟨j,L,y,_,_⟩
   rw [FD]at y
   split at y
   ·have:=getElem?_inj_of_nodup R.nodup h1 y;exact Lno [_,_,_] [.h 3 1 0 (.a V1 Z0) V0,Q0 (.a V2 Z0) V0,Q1 V1 V2] rfl l ‹j < n› this
   ·exact noS y
end
inductive Res(β:Type)where
 |ok(vc:KG)(b:β)(mu:KM)
 |err(why:String)
deriving Nonempty
theorem ga{c:Type}{w:String}{vc:KG}{b:c}{a:KM}{G:Prop}(h:Res.err w= .ok vc b a):G:=nomatch h
noncomputable def aw:List Prop→Prop
 |[]=>True
 |p::r=>p∧aw r
theorem aj:∀{l r:KG},aw (l++r)↔aw l∧aw r:=by
 intro b
 induction b with
 |nil=>
  intro _;simp [aw]
 |cons p l a=>
  intro r;simp only [HU,aw,a,and_assoc]
noncomputable def Res.bind{d a:Type}(r:Res d)(f:d→List AO→Res a):Res a:=match r with
 | .err w=> .err w
 | .ok vc b mu=>match f b mu with
  | .err w=> .err w
  | .ok vc' c mu'=> .ok (vc++vc') c mu'
def Res.W{a:Type}(r:Res a)(T:a→List AO→Prop):Prop:=match r with
 | .ok vc b mu=>aw vc→T b mu
 | .err _=>True
section
variable{e g:Type}{r:Res e}{f:e→List AO→Res g}{vc:KG}{c:g}{b:e}{d a:KM}{G:Prop}{T i:e→List AO→Prop}{h:g→List AO→Prop}
theorem Res.W.use(j:r.W T)(k:r= .ok vc b d)(l:aw vc):T b d:=(Eq.mp (congrArg (Res.W · T) k) j:_) l
theorem Res.W.of(j:∀vc b d,r= .ok vc b d→aw vc→T b d):r.W T:=match r,j with
 | .ok vc b d,j=>j vc b d rfl
 | .err _,_=>trivial
theorem Res.W.mono(j:r.W T)(k:∀b d,T b d→i b d):r.W i:=match r,j with
 | .ok _ b d,j=>λp=>k b d (j p)
 | .err _,_=>trivial
theorem Res.W.bind(j:r.W λb d=>(f b d).W h):(r.bind f).W h:=by
 induction r with
 |err=>trivial
 |ok v b m=>
  have j:aw v→(f b m).W h:=j;unfold Res.bind;dsimp only;cases q:f b m with
  |err=>trivial
  |ok l k m2=>exact λp=>(j (aj.mp p).1).use q (aj.mp p).2
theorem bB(j:r.bind f= .ok vc c a)(s:aw vc)
 (k:∀p b n o,r= .ok p b n→aw p→f b n= .ok o c a→aw o→G):G:=by
 induction r with
 |err=>contradiction
 |ok v b m=>
  cases q:f b m with
  |err w=>have j:(match f b m with| .err w=> .err w| .ok vc' c a=> .ok (v++vc') c a)=Res.ok vc c a:=j;rw [q]at j;contradiction
  |ok o l m2=>
   have j:(match f b m with| .err w=> .err w| .ok vc' c a=> .ok (v++vc') c a)=Res.ok vc c a:=j
   rw [q]at j;cases j;exact k v b m o rfl (aj.mp s).1 q (aj.mp s).2
theorem Res.bind_ok(j:r.bind f= .ok vc c a):
 ∃o b l n,r= .ok o b l∧f b l= .ok n c a∧vc=o++n:=by
 induction r with
 |err=>contradiction
 |ok v b m=>
  have j:(match f b m with| .err w=> .err w| .ok vc' c a=> .ok (v++vc') c a)=Res.ok vc c a:=j
  cases q:f b m with
  |err w=>rw [q]at j;contradiction
  |ok n k m2=>rw [q]at j;cases j;exact(fc v b m n rfl q rfl)
end
noncomputable def atO{a:Type}(b:KM)(i:Nat)(k:AO→Res a):Res a:=match b[i]? with
 |some o=>k o
 |none=> .err ""
theorem dN{b:Type}{a:KM}{i:Nat}{k:AO→Res b}{T:b→List AO→Prop}(h:∀o,a[i]? =some o→(k o).W T):(atO a i k).W T:=by
 unfold atO;cases q:a[i]? with
 |none=>trivial
 |some o=>exact h o q
noncomputable def onO{a b:Type}(o:Option a)(k:a→Res b):Res b:=match o with
 |some v=>k v
 |none=> .err ""
theorem pt{a d:Type}{o:Option a}{k:a→Res d}{vc:KG}{b:d}{c:KM}{G:Prop}(h:onO o k= .ok vc b c)(g:∀x,o=some x→k x= .ok vc b c→G):G:=by
 induction o using IL with
 |none=>exact ga h
 |some x=>exact g x rfl h
theorem cM{a b:Type}{o:Option a}{k:a→Res b}{T:b→List AO→Prop}(h:∀v,o=some v→(k v).W T):(onO o k).W T:=match o,h with
 |none,_=>trivial
 |some v,h=>h v rfl
noncomputable def onB{a:Type}(b:Bool)(k:Res a):Res a:=match b with
 |true=>k
 |false=> .err ""
theorem eJ{a:Type}{b:Bool}{k:Res a}{T:a→List AO→Prop}(h:b=true→k.W T):(onB b k).W T:=match b,h with
 |false,_=>trivial
 |true,h=>h rfl
noncomputable def noB{a:Type}(b:Bool)(k:Res a):Res a:=match b with
 |false=>k
 |true=> .err ""
theorem eK{a:Type}{b:Bool}{k:Res a}{T:a→List AO→Prop}(h:b=false→k.W T):(noB b k).W T:=match b,h with
 |true,_=>trivial
 |false,h=>h rfl
def jQ{b:Type}(v:V)(a:KM)(k:Nat→cv→Nat→List (Str×V)→Res b):Res b:=match v with
 | .ref i=>atO a i λo=>match o with
  | .inst C d=>atO a d λo=>match o with
   | .ns fs=>k i C d fs
   |_=> .err ""
  |_=> .err ""
 |_=> .err ""
theorem jh{c:Type}{v:V}{b:KM}{k:Nat→cv→Nat→List (Str×V)→Res c}{T:c→List AO→Prop}(h:∀i C d a,v= .ref i→b[i]? =some (.inst C d)→b[d]? =some (.ns a)→(k i C d a).W T):(jQ v b k).W T:=by
 induction v using Mine.V.casesOn with
 |ref i=>
  refine dN λo q=> ?_
  induction o with
  |inst C d=>
   refine dN λo e=> ?_
   induction o with
   |ns a=>exact h i C d a rfl q e
   |_=>trivial
  |_=>trivial
 |_=>trivial
abbrev ay:=List V→List AO→Res V
inductive Fl where
 |next|brk|cont
 |ret(v:V)
deriving Nonempty
set_option genInjectivity false in
structure Cfg where
 fi:Nat
 names:List (Str×J9)
 globs:List (Str×V)
 cells:List (Str×Nat):=[]
 orc:List (Nat×Bool):=[]
 vor:List (Nat×V):=[]
 fns:List (cv×Nat×ay):=[]
 meths:List (cv×Str×cv):=[]
 props:List (cv×Str×Str):=[]
 plain:List (cv×Str):=[]
 wns:List (Str×cv×ay):=[]
 owns:List (Str×cv×cv×Nat×ay):=[]
 sets:List (Str×cv):=[]
deriving Nonempty
def lkK(n:Str):List (Str×J9)→Option J9
 |[]=>none
 |(k,v)::r=>bif af n k then some v else lkK n r
def lkC(n:Str):List (Str×Nat)→Option Nat
 |[]=>none
 |(k,v)::r=>bif af n k then some v else lkC n r
def lkS{a:Type}(n:Str):List (Str×a)→Option a
 |[]=>none
 |(k,v)::r=>bif af n k then some v else lkS n r
noncomputable def lkN{a:Type}(n:Nat):List (Nat×a)→Option a
 |[]=>none
 |(k,v)::r=>bif Nat.beq n k then some v else lkN n r
def lkM{a:Type}(C:cv)(n:Str):List (cv×Str×a)→Option a
 |[]=>none
 |(k,m,v)::r=>bif Nat.beq C k&&af n m then some v else lkM C n r
def jZ(C:cv)(n:Str):List (cv×Str)→Bool
 |[]=>false
 |(k,m)::r=>bif Nat.beq C k&&af n m then true else jZ C n r
noncomputable def rA(p:nR):Nat:=p.line*1000000+p.col*1000+p.endCol
def bS(x:Str)(v:V):List (Str×V)→List (Str×V)
 |[]=>[(x,v)]
 |(k,w)::r=>bif af x k then(k,v)::r else(k,w)::bS x v r
def dec(a:Cfg)(p:nR)(b:Bool)(d:KM):Res Bool:=match lkN (rA p) a.orc with
 |some c=> .ok [b=c] c d
 |none=> .ok [] b d
def fR(a:Cfg)(p:nR)(o:Option V)(b:KM):Res V:=match lkN (rA p) a.vor with
 |some v=> .ok [o=some v] v b
 |none=>onO o λv=> .ok [] v b
def sh(a:Cfg)(x:Str)(b:KM):Res V:=onO (lkC x a.cells) λj=>atO b j λo=>match o with
 | .cell v=>onO v λv=> .ok [] v b
 |_=> .err ""
def rG(a:Cfg)(x:Str)(b:KM):Res V:=onO (lkK x a.names) λk=>match k with
 | .local=>atO b a.fi λo=>match o with
  | .frame fs=>onO (lk x fs) λv=> .ok [] v b
  |_=> .err ""
 | .globalImplicit=>onO (lk x a.globs) λv=> .ok [] v b
 | .cell=>sh a x b
 | .free=>sh a x b
 |_=> .err ""
def jI(a:Cfg)(x:Str)(v:V)(b:KM):Res Unit:=onO (lkK x a.names) λk=>match k with
 | .local=>atO b a.fi λo=>match o with
  | .frame fs=> .ok [] () (b.set a.fi (.frame (bS x v fs)))
  |_=> .err ""
 | .cell=>onO (lkC x a.cells) λj=>atO b j λo=>match o with
  | .cell _=> .ok [] () (b.set j (.cell (some v)))
  |_=> .err ""
 |_=> .err ""
def sT(v:V)(a:KM):Res Bool:=match v with
 | .none=> .ok [] false a
 | .bool b=> .ok [] b a
 | .int i=> .ok [] (i !=0) a
 | .str s=> .ok [s.length≤p9] ((s.length:Int) !=0) a
 | .ref i=>atO a i λo=>match o with
  | .list xs=> .ok [xs.length≤p9] (!xs.isEmpty) a
  | .strs xs=> .ok [xs.length≤p9] (!xs.isEmpty) a
  | .deque xs=> .ok [xs.length≤p9] (!xs.isEmpty) a
  |_=> .err ""
 | .flist xs=> .ok [xs.length≤p9] (!xs.isEmpty) a
 |_=> .err ""
noncomputable def aV(x y:Str):Bool:= !(I9.Str.occurrences x y 0 x.length 1).isEmpty
noncomputable def Ej(b:Ia)(i j:Int)(a:KM):Res Bool:=match b with
 | .Eq=> .ok [] (i==j) a
 | .Lt=> .ok [] (decide (i < j)) a
 | .Gt=> .ok [] (decide (i > j)) a
 | .GtE=> .ok [] (decide (i≥j)) a
 |_=> .err ""
def Ei(b:Ia)(x y:Str)(a:KM):Res Bool:=match b with
 | .Eq=> .ok [] (x==y) a
 | .NotEq=> .ok [] (x !=y) a
 | .In=> .ok [] (aV y x) a
 | .NotIn=> .ok [] (!aV y x) a
 |_=> .err ""
def jw(d c:Option Bool)(e:Ia)(a:KM):Res Bool:=match e with
 | .Eq=>onO c λb=> .ok [] b a
 | .NotEq=>onO c λb=> .ok [] (!b) a
 | .Is=>onO d λb=> .ok [] b a
 | .IsNot=>onO d λb=> .ok [] (!b) a
 |_=> .err ""
noncomputable def uy(v:V)(k:Res Bool):Res Bool:=match v with
 | .none=>k
 |_=> .err ""
def BD(d:Ia)(a b:V)(c:KM):Res Bool:=match a with
 | .int i=>(match b with
  | .int j=>Ej d i j c
  | .none=>jw (some false) none d c
  |_=> .err "")
 | .str x=>(match b with
  | .str y=>Ei d x y c
  | .none=>jw (some false) (some false) d c
  |_=> .err "")
 | .none=>(match b with
  | .none=>jw (some true) (some true) d c
  | .str _=>jw none (some false) d c
  |_=> .err "")
 | .ref _=>uy b (jw (some false) none d c)
 |_=> .err ""
noncomputable def El(b:HV)(i j:Int)(a:KM):Res V:=match b with
 | .Add=> .ok [] (.int (i+j)) a
 | .Sub=> .ok [] (.int (i -j)) a
 | .Mod=> .ok [j≠0] (.int (Int.fmod i j)) a
 |_=> .err ""
def w7(d:HV)(a b:V)(c:KM):Res V:=match a with
 | .int i=>(match b with
  | .int j=>El d i j c
  |_=> .err "")
 | .str x=>(match b with
  | .str y=>(match d with
   | .Add=> .ok [x.length+y.length≤p9] (.str (x++y)) c
   |_=> .err "")
  | .int n=>(match d with
   | .Mult=> .ok [x.length≤16,-2^63≤n,n≤1048576] (.str (Txt.mul x n)) c
   |_=> .err "")
  |_=> .err "")
 |_=> .err ""
end Mine
end
namespace Mine
set_option genInjectivity false in
structure Cx where
 prog:A8
 w:Gv
 A:GI
 env:Env
 d:Bd
theorem neC:Nonempty Cx:=neW.elim λw=>instNonemptyBd.elim λb=>⟨⟨Io,w,{},Io,b⟩⟩
abbrev Cx.M(c:Cx):Ij:=GO c.prog c.w
abbrev NoE:da→dd→Prop:=λa a=>False
structure ac(c:Cx)(cfg:Cfg)(ρ:KB)(mu:KM)(s:dd):Prop where
 rep:aq c.prog c.w c.d ρ mu s
 tk:1≤s.toks
 fr:ρ[cfg.fi]? =some c.env.locals
 cl:∀x j,lkC x cfg.cells=some j→∃a,c.env.cells.lookup x=some a∧ρ[j]? =some a
inductive aF{α:Type}(c:Cx)(cfg:Cfg)(ρ:KB)(mu:KM)(s:dd)(mu':KM)(R:aA→List cv→α→Prop)(x:α)(s':dd):Prop
 |mk (ρ':KB) (H:ac c cfg ρ' mu' s') (X:Ext ρ mu s ρ' mu' s') (r:R (aa c.d ρ' mu' s'.heap) ρ' x)
def Snd{g i:Type}(c:Cx)(d:Cfg)(R:i→aA→List cv→g→Prop)(t:Hk g)(a:List AO→Res i):Prop:=
 ∀h e s,ac c d h e s→(a e).W λb f=>eo c.M c.A t (aF c d h e s f (R b)) NoE s
abbrev gn(c:Cx)(b:Cfg)(t:Hk da)(a:List AO→Res V):Prop:=Snd c b (λv F d x=>Val F d v x) t a
abbrev F3(c:Cx)(b:Cfg)(t:Hk (List da))(a:List AO→Res (List V)):Prop:=Snd c b (λv F d x=>Vals F d v x) t a
abbrev sK(c:Cx)(b:Cfg)(t:Hk Bool)(a:List AO→Res Bool):Prop:=Snd c b (λv d d x=>x=v) t a
def FlR(v:Fl)(F:aA)(a:KB):Hj→Prop
 | .next=>v= .next
 | .brk=>v= .brk
 | .cont=>v= .cont
 | .ret x=>∃y,v= .ret y∧Val F a y x
abbrev lK(c:Cx)(b:Cfg)(t:Hk Hj)(a:List AO→Res Fl):Prop:=Snd c b FlR t a
theorem Snd.use{l m:Type}{c:Cx}{g:Cfg}{R:m→aA→List cv→l→Prop}{t:Hk l}{a:List AO→Res m}(h:Snd c g R t a){n:KB}{j:KM}{s:dd}{vc:KG}{b:m}{f:KM}
 (H:ac c g n j s)(e:a j= .ok vc b f)(p:aw vc){Q:l→dd→Prop}(k:∀x i d,ac c g d f i→Ext n j s d f i→R b (aa c.d d f i.heap) d x→Q x i):
 eo c.M c.A t Q NoE s:=
 ex ((h n j s H).use e p) (λx i ⟨d,q,X,r⟩=>k x i d q X r) λo o e=>e
theorem Res.W.seq{i j h:Type}{c:Cx}{g:Cfg}{l:KB}{k:KM}{s:dd}{R:j→aA→List cv→i→Prop}{t:Hk i}{r:Res j}{f:j→List AO→Res h}{T:h→List AO→Prop}{B:h→List AO→i→dd→Prop}
 (h1:r.W λb m=>eo c.M c.A t (aF c g l k s m (R b)) NoE s)(rule:∀z m,eo c.M c.A t (B z m) NoE s→T z m)
 (h2:∀x m u s1 a,ac c g a m s1→Ext l k s a m s1→R x (aa c.d a m s1.heap) a u→(f x m).W λz v=>B z v u s1):(r.bind f).W T:=
 .of λd d d e n=>bB e n λd x m d w p q o=>rule _ _ (ex (h1.use w p) (λu s1 ⟨a,H,X,r⟩=>(h2 x m u s1 a H X r).use q o) λd d z=>z)
theorem Snd.seq{i j g:Type}{c:Cx}{d:Cfg}{k:KB}{e:KM}{s:dd}{R:j→aA→List cv→i→Prop}{t:Hk i}{a:List AO→Res j}{f:j→List AO→Res g}{T:g→List AO→Prop}{B:g→List AO→i→dd→Prop}
 (h:Snd c d R t a)(H:ac c d k e s)(rule:∀z m,eo c.M c.A t (B z m) NoE s→T z m)
 (h2:∀x m u s1 b,ac c d b m s1→Ext k e s b m s1→R x (aa c.d b m s1.heap) b u→(f x m).W λz l=>B z l u s1):((a e).bind f).W T:=
 Res.W.seq (h k e s H) rule h2
theorem dO{b:Type}{M:Ij}{A:GI}{t:Hk b}{Q:b→dd→Prop}{s:dd}(d:1≤s.toks)(h:eo M A t (λx c=>1≤c.toks→Q x c) NoE s):eo M A t Q NoE s:=
 ex (wpAny_toks_of d h) (λa a z=>z.2 z.1) λa a z=>z.2
section
variable{c:Cx}{cfg:Cfg}{d:KB}{e:KM}{s:dd}
theorem ac.same(H:ac c cfg d e s){s':dd}(i:s'.heap=s.heap)(h:s'.gens=s.gens)(f:s'.os=s.os)(g:1≤s'.toks):ac c cfg d e s'∧Ext d e s d e s':=
 let⟨a,b⟩:=H.rep.same i h f;⟨⟨a,g,H.fr,H.cl⟩,b⟩
theorem pB(n:Str):∀l:List (Str×J9),lkK n l=l.lookup n:=by
 intro f
 induction f with
 |nil=>
  exact rfl
 |cons b r a=>
  obtain⟨k,v⟩:=b;rwa [JK];unfold lkK
  by_cases h:n=k
  ·rwa [aB.mpr h,beq_iff_eq.mpr h];rfl
  ·have h1:af n k=false:=ee h
   rwa [h1,beq_eq_false_iff_ne.mpr h];exact a
theorem yY(x:Str)(v:V):∀(j:KL) (y:Str),lk y (bS x v j)=if y=x then some v else lk y j:=by
 intro g
 induction g with
 |nil=>
  intro y;show(bif af y x then some v else none)=_
  by_cases h:y=x
  ·rwa [aB.mpr h,if_pos h];rfl
  ·have h1:af y x=false:=ee h
   rwa [h1,if_neg h];rfl
 |cons f r b=>
  obtain⟨k,w⟩:=f;intro y;unfold bS
  by_cases a:x=k
  ·rwa [aB.mpr a]
   show(bif af y k then some v else lk y r)=if y=x then some v else(bif af y k then some w else lk y r);subst a
   by_cases h:y=x
   ·rwa [aB.mpr h,if_pos h];rfl
   ·have h1:af y x=false:=ee h
    rwa [h1,if_neg h];rfl
  ·have i:af x k=false:=ee a
   rwa [i];show(bif af y k then some w else lk y (bS x v r))=if y=x then some v else(bif af y k then some w else lk y r);rwa [b y]
   by_cases h:y=x
   ·subst h
    (rwa [i];rw [if_pos rfl];rwa [if_pos rfl]);rfl
   ·(rwa [if_neg h,if_neg h];rfl)
structure Cd(c:Cx)(mg mb:KC):Prop where
 g:∀h:Gm,(∀b o,c.d.B b o→h.get? b=some o)→h.Ns GH mg
 b:∀h:Gm,(∀b o,c.d.B b o→h.get? b=some o)→h.Ns Hl mb
def i3(b f:KC)(a:KL):Prop:=
 ∀x v,lk x a=some v→∃u,(b x=some u∨(b x=none∧f x=some u))∧∀F d,Val F d v u
structure cZ(c:Cx)(cfg:Cfg):Prop where
 kind:c.env.scope.kind= .function
 names:cfg.names=c.env.scope.names
 globals:c.env.globals=GH
 builtins:c.env.builtins=Hl
 globs:∃mg mb,Cd c mg mb∧i3 mg mb cfg.globs
 noclass:c.env.kindOf "__classdict__"=none
 handled:c.A.handled=none
 units:c.A.units < cLine
theorem qU(H:ac c cfg d e s){x:Str}{f:Type}{M:Ij}{A:GI}{t:Hk f}{Q:V→List AO→f→dd→Prop}(k:∀a v u,c.env.cells.lookup x=some a→s.heap.IsCell a (some u)→Val (aa c.d d e s.heap) d v u→eo M A t (Q v e) NoE s):
 (sh cfg x e).W λv m=>eo M A t (Q v m) NoE s:=
 cM λj h=>dN λo i=>by
  induction o with
  |cell v=>
   refine cM λv b n=> ?_;refine ab (H.cl x j h) λa l g=> ?_;subst b;refine ab (H.rep.objs _ _ _ g i) λu h1 h2=> ?_;exact k a v u l ⟨_,h1,rfl⟩ h2
  |_=>trivial
theorem qF(C:cZ c cfg){x:Str}:gn c cfg (loadName c.env x) (rG cfg x):=by
 intro d e s H;refine cM λk b=> ?_;have b:c.env.kindOf x=some k:=by rw [C.names,pB]at b;exact b
 induction k with
 |«local»=>
  refine dN λo w=> ?_
  induction o with
  |frame E=>
   refine cM λv i p=> ?_;refine ab (H.rep.objs _ _ _ H.fr w) λm t z=> ?_;have:=z x;rw [i]at this;(refine ab this ?_;clear this;intro y r j);exact JW C.kind b t r ⟨d,H,Ext.refl ..,j⟩
  |_=>trivial
 |globalImplicit=>
  refine cM λv i p=> ?_;refine aS C.globs λA D B G=> ?_;refine ab (G x _ i) λu g f=> ?_;rwa [loadName_read C.kind b];unfold loadGlobal;rwa [C.globals,C.builtins];refine dV (wpAny_nsGet (B.g _ H.rep.base) ?_);rcases g with g|⟨g,hb⟩
  ·rwa [g];exact eM ⟨d,H,Ext.refl ..,f _ _⟩
  ·rwa [g]
   refine dV (wpAny_nsGet (B.b _ H.rep.base) ?_);rwa [hb];exact eM ⟨d,H,Ext.refl ..,f _ _⟩
 |cell=>exact qU H λa v u n l h=>wpAny_loadName_cell C.kind b n l ⟨d,H,Ext.refl ..,h⟩
 |free=>
  exact qU H λa v u n l h=>wpAny_loadName_free C.kind b n l ⟨d,H,Ext.refl ..,h⟩ (beq_eq_false_iff_ne.mpr λq=>by have:=C.noclass;rw [←q,b]at this;exact sNo this)
 |_=>trivial
theorem g6.mono{F f:aA}{d a:KB}(g:Le F f)(b:Pre d a):∀{o:Option V} {v:Option da},g6 F d o v→g6 f a o v
 |none,_,_=>trivial
 |some _,_,⟨y,h1,h2⟩=>⟨y,h1,Val.mono g b _ _ h2⟩
theorem km(C:cZ c cfg){x:Str}{v:V}{u:da}(z:Val (aa c.d d e s.heap) d v u)(H:ac c cfg d e s):
 (jI cfg x v e).W λf p=>eo c.M c.A (storeName c.env x u) (aF c cfg d e s p λf f f=>True) NoE s:=by
 refine cM λk i=> ?_;have i:c.env.kindOf x=some k:=by rw [C.names,pB]at i;exact i
 induction k with
 |«local»=>
  refine dN λo E=> ?_
  induction o with
  |frame O=>
   intro _;refine ab (H.rep.objs _ _ _ H.fr E) λm J K=> ?_;refine wpAny_storeName_local i J (λG w n=> ?_) (by rwa [C.kind];rfl)
   refine ai (H.rep.upd (o':= .frame (bS x v O)) (s':={s with heap:=G,toks:=s.toks+1}) H.fr E rfl (λb F r g=>(n.2 b r).trans g) (Ha n.1.symm) rfl rfl λL=>⟨_,w,λy=>by
    rwa [yY _ _ _ _]
    by_cases h:y=x
    ·rwa [if_pos h,if_pos h]
     exact⟨u,rfl,Val.mono L (λf f q=>q) _ _ z⟩
    ·rwa [if_neg h,if_neg h]
     exact g6.mono L (λf f q=>q) (K y)⟩) λt X=> ?_
   exact⟨d,⟨t,oa H.tk,H.fr,H.cl⟩,X,KP⟩
  |_=>trivial
 |cell=>
  refine cM λj I=>dN λo B=> ?_
  induction o with
  |cell D=>
   intro _;refine ab (H.cl x j I) λa N A=> ?_;have g:∃o,s.heap.get? a=some {cls:= .type "cell",data:= .cell o}:=by
    have:=H.rep.objs _ _ _ A B
    induction D with
    |none=>exact⟨_,this⟩
    |some _=>(refine ab this ?_;clear this;intro u l f);exact⟨_,l⟩
   (refine au g ?_;clear g;intro o l);unfold storeName;simp only [i,C.kind];refine dV (wpAny_cellOf N (dV (I1 l (wpAny_update l ?_))));have n:=Iv s.heap a (λo:Hn=>{o with data:= .cell (some u)})
   refine ai (H.rep.upd (o':= .cell (some v)) (s':={s with heap:=s.heap.update a λo=>{o with data:= .cell (some u)}}) A B (by induction D<;>rfl) (λb F r g=>(n.2 b r).trans g) (Ha n.1.symm) rfl rfl
    (λL=>⟨u,HD _ l rfl,Val.mono L (λf f q=>q) _ _ z⟩)) λt X=> ?_
   exact⟨d,⟨t,H.tk,H.fr,H.cl⟩,X,KP⟩
  |_=>trivial
 |_=>trivial
end
end Mine
local macro_rules | `(tactic| walk_at "ne") => `(tactic| exact Mine.neC)
section
open PySem.Builtin
namespace Mine
abbrev cA(st:Int)(b:Tok)(a:KH):Hn:={cls:= .type "collections.deque",data:= .fields (.none:: .int st b::a).toArray}
section
variable{M:Ij}{A:GI}{E:KD}{s:dd}{a:cv}{st:Int}{d:Tok}{b:KH}
theorem hE{Q:Array da→dd→Prop}(c:s.heap.get? a=some (cA st d b))(h:Q (.none:: .int st d::b).toArray s):eo M A (fieldsOf (.ref a)) Q E s:=
 dV (I1 c (eM h))
theorem qQ:((.none:: .int st d::b:KH).toArray).extract 2 ((.none:: .int st d::b:KH).toArray).size=b.toArray:=by
 simp
theorem oQ{Q:Array da→dd→Prop}(c:s.heap.get? a=some (cA st d b))(h:Q b.toArray s):eo M A (Deque.items (.ref a)) Q E s:=by
 refine dV (hE c (eM ?_));rwa [qQ];exact h
theorem xU{Q:Nat→dd→Prop}(c:s.heap.get? a=some (cA st d b))(h:Q b.length s):eo M A (Deque.size (.ref a)) Q E s:=by
 refine dV (hE c (eM ?_));trivial
theorem uW{Q:Int→dd→Prop}(c:s.heap.get? a=some (cA st d b))(h:Q st s):eo M A (Deque.state (.ref a)) Q E s:=
 dV (dV (hE c (eM (eM h))))
theorem sQ{Q:Option Nat→dd→Prop}(c:s.heap.get? a=some (cA st d b))(h:Q none s):eo M A (Deque.maxlen (.ref a)) Q E s:=
 dV (dV (hE c (eM (eM h))))
theorem nB{f:Array da→Array da}{Q:Unit→dd→Prop}(j:s.heap.get? a=some (cA st d b))(n:(f b.toArray).toList.length≤p9)
 (h:∀l k m,HH a s.heap l→l.get? a=some (cA k m (f b.toArray).toList)→Q () {s with heap:=l}):eo M A (Deque.change (.ref a) f) Q E s:=by
 refine dV (uW j ?_);refine dV (I1 j ?_);have e:Iz (λi=> #[i.getD 0 .none,rawInt (if true=true then st+1 else st)]++f (i.extract 2 i.size)) (cA st d b)=cA (st+1) 0 (f b.toArray).toList:=by
  unfold Iz;dsimp only;rwa [qQ];simp [rawInt]
 have g:=HD (Iz (λi=> #[i.getD 0 .none,rawInt (if true=true then st+1 else st)]++f (i.extract 2 i.size))) j (by rwa [e];rfl)
 rw [e]at g;refine dV (wpAny_update j (wpAny_lookBehind g (pastItsLine_fields ?_) (h _ _ _ (Iv ..) g)));rwa [List.size_toArray,ix,ix];exact Lle [_] [Q0 V0 (.c 16777216)] 0 (.a (.a V0 Z0) Z0) (.a (.c 16777216) Z12) rfl n
end
namespace DqF
theorem plainAttrs:PlainAttrs "collections.deque":=
 ⟨⟨"collections.deque.__getattribute__",by rw [HI,GU];kernel_rfl,by decide+kernel⟩,by rw [HI,GU];kernel_rfl⟩
theorem slot_popleft:Slot "collections.deque" "popleft" "collections.deque.popleft":=
 .of (owner:="collections.deque") (n:="popleft") (by rw [HI,GU];kernel_rfl) (by decide+kernel) (by decide+kernel) (by decide+kernel)
  (by first|exact .inl (by decide+kernel)|exact .inr (by decide+kernel)) (by rw [Jp];kernel_rfl)
theorem slot_appendleft:Slot "collections.deque" "appendleft" "collections.deque.appendleft":=
 .of (owner:="collections.deque") (n:="appendleft") (by rw [HI,GU];kernel_rfl) (by decide+kernel) (by decide+kernel) (by decide+kernel)
  (by first|exact .inl (by decide+kernel)|exact .inr (by decide+kernel)) (by rw [Jp];kernel_rfl)
theorem slot_len:Slot "collections.deque" "__len__" "collections.deque.__len__":=
 .of (owner:="collections.deque") (n:="__len__") (by rw [HI,GU];kernel_rfl) (by decide+kernel) (by decide+kernel) (by decide+kernel)
  (by first|exact .inl (by decide+kernel)|exact .inr (by decide+kernel)) (by rw [Jp];kernel_rfl)
theorem th:Slot "collections.deque" "__init__" "collections.deque.__init__":=
 .of (owner:="collections.deque") (n:="__init__") (by rw [HI,GU];kernel_rfl) (by decide+kernel) (by decide+kernel) (by decide+kernel)
  (by first|exact .inl (by decide+kernel)|exact .inr (by decide+kernel)) (by rw [Jp];kernel_rfl)
theorem no_bool:typeLookup (.type "collections.deque") "__bool__"=pure none:=by rw [HI,GU];kernel_rfl
theorem type_popleft:typeOf (.builtin "collections.deque.popleft")=pure (.type "method_descriptor"):=by show builtinType _=_;rw [builtinType_eq_fast];kernel_rfl
theorem type_appendleft:typeOf (.builtin "collections.deque.appendleft")=pure (.type "method_descriptor"):=by show builtinType _=_;rw [builtinType_eq_fast];kernel_rfl
theorem entry_popleft:entryFor table "collections.deque.popleft"=some I9.«collections.deque.popleft»:=Ir (by rfl')
theorem entry_appendleft:entryFor table "collections.deque.appendleft"=some I9.«collections.deque.appendleft»:=Ir (by rfl')
theorem entry_len:entryFor table "collections.deque.__len__"=some I9.«collections.deque.__len__»:=Ir (by rfl')
theorem entry_new:entryFor table "collections.deque.__new__"=some I9.«collections.deque.__new__»:=Ir (by rfl')
theorem entry_init:entryFor table "collections.deque.__init__"=some Builtin.«collections.deque.__init__»:=Ir (by rfl')
theorem args_popleft(a:da):JX "collections.deque.popleft" ⟨[a],[]⟩:=by unfold JX;kernel_rfl
theorem args_appendleft(a b:da):JX "collections.deque.appendleft" ⟨[a,b],[]⟩:=by unfold JX;kernel_rfl
theorem args_len(a:da):JX "collections.deque.__len__" ⟨[a],[]⟩:=by unfold JX;kernel_rfl
theorem args_init(a:da):JX "collections.deque.__init__" ⟨[a],[]⟩:=by unfold JX;kernel_rfl
theorem mro:mroOf (.type "collections.deque")=pure [.type "collections.deque", .type "object"]:=by rw [mroOf_type];kernel_rfl
theorem rI:typeLookup (.type "collections.deque") "__new__"=pure (some (.builtin "collections.deque.__new__")):=by rw [HI,GU];kernel_rfl
theorem called:TypeCalled "collections.deque" "collections.deque.__new__" "collections.deque.__init__":=
 ⟨by decide+kernel,by decide+kernel,⟨_,_,mro⟩,madeBy_type mro rI (by decide+kernel),by decide+kernel,by rw [Jp];kernel_rfl,th⟩
theorem typeCall:checkTypeCall "collections.deque" ⟨[],[]⟩=pure ():=by rfl'
theorem newCall:JL "collections.deque.__new__" ⟨[.type "collections.deque"],[]⟩=pure ():=by rfl'
theorem plain_new:plainId "collections.deque.__new__"=true:=by decide+kernel
end DqF
section
variable{c:A8}{w:Gv}{A:GI}{E:KD}{s:dd}{a:cv}{st:Int}{d:Tok}{b:KH}
theorem jv{i:Hk Bool}{Q:da×List da→dd→Prop}(g:s.heap.get? a=some (cA st d b))(h:Q (.builtin "collections.deque.popleft",[.ref a]) s):eo (GO c w) A (JQ (.ref a) "popleft" i) Q E s:=
 IG ⟨_,g,rfl⟩ DqF.plainAttrs DqF.slot_popleft DqF.type_popleft (λf e=>by obtain rfl:=HT e;exact(ah _ g rfl)) h
theorem g9{i:Hk Bool}{Q:da×List da→dd→Prop}(g:s.heap.get? a=some (cA st d b))(h:Q (.builtin "collections.deque.appendleft",[.ref a]) s):eo (GO c w) A (JQ (.ref a) "appendleft" i) Q E s:=
 IG ⟨_,g,rfl⟩ DqF.plainAttrs DqF.slot_appendleft DqF.type_appendleft (λf e=>by obtain rfl:=HT e;exact⟨_,g,rfl⟩) h
theorem sg{x:da}{Q:KD}(i:s.heap.get? a=some (cA st d (x::b)))(l:b.length≤p9)
 (h:∀g e f,HH a s.heap g→g.get? a=some (cA e f b)→Q x {s with heap:=g}):eo (GO c w) A (call (.builtin "collections.deque.popleft") [.ref a]) Q E s:=by
 refine JM DqF.slot_popleft ⟨_,i,rfl⟩ DqF.entry_popleft ?_ (DqF.args_popleft _);refine dV (m:=selfOnly "deque.popleft" _) (eM ?_);refine dV (oQ i ?_);rwa [show(x::b).toArray[0]? =some x by rfl]
 refine dV (nB i (by simpa using l) λg e f k j=>eM (ah x rfl (h g e f k (by simpa using j))))
theorem on{x:da}{Q:KD}(j:s.heap.get? a=some (cA st d b))(l:b.length+1≤p9)
 (h:∀g e f,HH a s.heap g→g.get? a=some (cA e f (x::b))→Q .none {s with heap:=g}):eo (GO c w) A (call (.builtin "collections.deque.appendleft") [.ref a,x]) Q E s:=by
 refine JM DqF.slot_appendleft ⟨_,j,rfl⟩ DqF.entry_appendleft ?_ (DqF.args_appendleft _ _);refine dV (m:=selfAndOne "deque.appendleft" _) (eM ?_);refine dV (m:=Deque.pushLeft _ _) ?_;refine dV (nB j (by simp;exact l) λg e f k i=> ?_)
 have i:g.get? a=some (cA e f (x::b)):=by simpa using i
 refine dV (sQ (s:={s with heap:=g}) i (eM (eM (ah .none rfl (h g e f k i)))))
theorem Bt{Q:KD}(e:s.heap.get? a=some (cA st d b))(h:Q (.int b.length s.toks) {s with toks:=s.toks+1}):eo (GO c w) A (call (.builtin "collections.deque.__len__") [.ref a]) Q E s:=by
 refine JM DqF.slot_len ⟨_,e,rfl⟩ DqF.entry_len ?_ (DqF.args_len _);refine dV (m:=slotArgs "__len__" 0 _) (eM (dV (xU e ?_)));exact dV (wpAny_mkInt (eM (ah _ rfl h)))
theorem uI:∀{Q:Bool→dd→Prop} (l:s.heap.get? a=some (cA st d b)) (f:(b.length:Int) < 2^63) (h:Q (!b.isEmpty) {s with toks:=s.toks+1+1}),eo (GO c w) A (JY (.ref a)) Q E s:=by
 revert c w A E s a st d b;refine' eI10;intro Q b d st a s E A w c l f h;have j:s.TypeIs (.ref a) "collections.deque":=⟨_,l,rfl⟩;refine dV (wpAny_callSpecial?_none (name:=cs "__bool__") j DqF.no_bool ?_);refine dV (wpAny_specialOf (name:=cs "__len__") j DqF.slot_len.lookup ?_);refine dV (ex (show eo (GO c w) A (runValue (.builtin "len" ⟨[.ref a],[]⟩)) (λr n=>r= .int b.length (s.toks+1)∧Q (!b.isEmpty) n) E s from ?_) (λr n g=> ?_) λo o e=>e)
 ·refine wpAny_runValue (JZ entry_len ?_)
  rwa [GI.under_plainId plain_len _];refine dV (m:=oneArg "len" _) (eM ?_);refine dV (m:=callSpecial? (.ref a) "__len__") (wpAny_callSpecial?_slot (name:=cs "__len__") j DqF.slot_len (Bt l ?_));refine dV (A9 (eM ?_));refine dV (wpAny_letGo ?_);show eo _ _ (if((b.length:Nat):Int) < 0 then _ else _) _ _ _;rwa [if_neg (Int.not_lt.mpr (z2 _))];show eo _ _ (if((b.length:Nat):Int)≥2^63 then _ else _) _ _ _;rwa [if_neg (Int.not_le.mpr f)];exact dV (wpAny_mkInt (eM ⟨rfl,h⟩))
 ·(refine ai g ?_;clear g;intro k g;subst k)
  refine eM ?_;have i:((b.length:Int) !=0)= !b.isEmpty:=by
   induction b using kv with
   |nil=>rfl
   |cons a r=>exact bne_iff_ne.mpr (λe=>absurd (ct.inj e) (Hp _))
  rwa [i];exact g
theorem Bs:∀{Q:KD} (h:∀q,(∀i o,s.heap.get? i=some o→q.get? i=some o)→s.heap.objs.size < q.objs.size→q.get? s.heap.objs.size=some (cA 0 0 [])→Q (.ref s.heap.objs.size) {s with heap:=q}),eo (GO c w) A (call (.type "collections.deque") []) Q E s:=by
 revert c w A E s;refine' eI6;intro Q s E A w c h;refine callType_codes (Q₁:=λn k=>n= .ref s.heap.objs.size∧k={s with heap:=s.heap.push (cA 0 0 [])}) DqF.called DqF.typeCall DqF.entry_init ?_ λn k l=> ?_
 ·refine codeAny_of_tree ?_
  show eo _ A.in1.in1 (do JL "collections.deque.__new__" ⟨[.type "collections.deque"],[]⟩;again (.builtin "collections.deque.__new__" ⟨[.type "collections.deque"],[]⟩)) _ _ s;refine dV (JD DqF.newCall (eM (an (plainId_quiet DqF.plain_new _) (JZ DqF.entry_new ?_))));have C:=DqF.called.sub;obtain⟨y,g,f,d,os⟩:=s;have L:Hz (GO c w) y (Kk (.type "collections.deque") (.type "collections.deque")) true:=Hz.of_pure C;refine dV (dV (m:=isType (.type "collections.deque")) (eM ?_));refine dV (L.at ?_);refine eM ?_;have B:typeHasDict (.type "collections.deque")=false:=by decide+kernel
  refine dV ?_;unfold Deque.new;rwa [if_neg (by decide),B]
  refine dV (m:=pure none) (eM ?_);unfold newObj;dsimp only;rwa [if_neg (by rw [HF];decide)]
  exact dV (Kj (eM (eM (an rfl rfl))))
 ·(refine ai l ?_;clear l;intro u r;subst u;subst r)
  have p:(s.heap.push (cA 0 0 [])).get? s.heap.objs.size=some (cA 0 0 []):=Gl _ rfl;refine(cB ⟨_,p,rfl⟩ (DqF.args_init _) ?_);have e:Builtin.«collections.deque.__init__» ⟨[.ref s.heap.objs.size],[]⟩=(setField (.ref s.heap.objs.size) 0 .none>>=λz=>Deque.clear (.ref s.heap.objs.size)>>=λz=>ret .none):=by rfl'
  rwa [e];have x:Iz (·.setIfInBounds 0 da.none) (cA 0 0 [])=cA 0 0 []:=by
   unfold Iz;simp
  have j:=HD (Iz (·.setIfInBounds 0 da.none)) p (by rwa [x];rfl)
  rw [x]at j;refine dV (m:=setField _ _ _) (dV (I1 p ?_));refine wpAny_update p ?_;refine dV (m:=Deque.clear _) ?_;refine dV (oQ (s:={s with heap:=(s.heap.push (cA 0 0 [])).update s.heap.objs.size (Iz (·.setIfInBounds 0 da.none))}) j ?_)
  refine eM (eM (an rfl (h _ (λi o v=> ?_) ?_ j)))
  ·have t:i≠s.heap.objs.size:=HG (wl v)
   exact(Gm.get?_update_other _ _ (Ne.symm t)).trans (g0 _ v)
  ·exact wl j
end
end Mine
end
namespace Mine
section
variable{c:Cx}{d:Cfg}{e:KB}{f:KM}{s:dd}
theorem ac.post{i:Type}(H:ac c d e f s){x:i}{g:dd}{R:aA→List cv→i→Prop}(k:g.heap=s.heap)(l:g.gens=s.gens)(h:g.os=s.os)(j:1≤g.toks)
 (r:R (aa c.d e f g.heap) e x):aF c d e f s f R x g:=
 let⟨a,b⟩:=H.same k l h j;⟨e,a,b,r⟩
theorem Vals.len{F:aA}{e:KB}:∀(i:KN) (a:KH),Vals F e i a→a.length=i.length:=by
 intro g
 induction g with
 |nil=>
  intro a h;rwa [show a=[]from h];rfl
 |cons _ i b=>
  intro _ j;(refine bg j ?_;clear j;intro k r h1 k h3);exact by(rwa [h1,ix,ix,b r h3];rfl)
theorem cg{b:KH}{a:KA}(h:Gq b a):b.length=a.length:=by
 induction h with
 |nil=>rfl
 |cons _ _ _ g=>exact congrArg (· +1) g
theorem f8{g i:Type}{a:List g}{b:List i}(h:a.length=b.length):a.isEmpty=b.isEmpty:=by
 induction a using kv<;>induction b using kv<;>first|rfl|cases h
theorem ij{n:Nat}(h:n≤p9):(n:Int) < 2^63:=Int.lt_of_le_of_lt (Gi.mpr (HF▸h)) (by decide)
theorem AW{n:Nat}{k:Int}(h:n≤p9)(b:-(n:Int)≤k):-2^63≤k:=IN (Int.neg_le_neg (Int.le_of_lt (ij h))) b
theorem mX{m n:Nat}(h:n≤m):(m:Int) -(n:Int)=((m -n:Nat):Int):=(Int.ofNat_sub h).symm
theorem jS{n:Nat}(h:0 < n):(n:Int)≠0:=λa=>Iq h (ct.inj a)
theorem uV{n:Nat}(h:(n:Int)≠0):0 < n:=Ji λa=>h (congrArg ct a)
theorem i6(H:ac c d e f s){a:cv}{o:Hn}{h:Array da}{n:Nat}{k:Nat}{b:Bool}(m:s.heap.get? a=some o)(h1:o.cls= .type "list")(h2:o.data= .seq h n)(p:h.toList.length=k)(l:(!h.toList.isEmpty)=b)(i:k≤p9):
 eo c.M c.A (JY (.ref a)) (aF c d e f s f λj j x=>x=b) NoE s:=by
 have g:h.size=k:=by(rwa [←p,iy];rfl)
 have q:(h.size:Int) < 2^63:=by rwa [g];exact ij i
 refine wpAny_truthy_list ⟨_,m,h1,n,h2⟩ q (H.post rfl rfl rfl (by have:=H.tk;dsimp only;exact Lle [_] [] 0 Z0 (.a (.a V0 Z0) Z0) rfl) ?_)
 rwa [←l]
 induction h;simp
theorem qz:∀{v:V} {u:da} (H:ac c d e f s) (k:Val (aa c.d e f s.heap) e v u),(sT v f).W λb m=>m=f∧eo c.M c.A (JY u) (aF c d e f s f λq q x=>x=b) NoE s:=by
 revert c d e f s;refine' eI7;intro u v s f e d c H k;have r:=H.tk
 induction v using Mine.V.casesOn with
 |none=>cases k;exact λq=>⟨rfl,truthy_none (H.post rfl rfl rfl r rfl)⟩
 |bool C=>cases k;exact λq=>⟨rfl,HM (H.post rfl rfl rfl r rfl)⟩
 |int i=>(refine au k ?_;clear k;intro t h;subst h);exact λq=>⟨rfl,truthy_int (H.post rfl rfl rfl r rfl)⟩
 |str x=>
  (refine au k ?_;clear k;intro t h;subst h);exact λp=>⟨rfl,SBL.truthy (ij p.1) (H.post rfl rfl rfl (Gz 1 _) rfl)⟩
 |ref i=>
  refine dN λo A=> ?_;(refine ab k ?_;clear k;intro a B h;subst h);have j:=H.rep.objs _ _ _ B A
  induction o with
  |list w=>
   (refine aS j ?_;clear j;intro l n j g);exact λp=>⟨rfl,i6 H j rfl rfl (Vals.len _ _ g) (by(rwa [f8 (Vals.len _ _ g)];rfl)) p.1⟩
  |«strs» w=>
   (refine aS j ?_;clear j;intro l n j g);exact λp=>⟨rfl,i6 H j rfl rfl (cg g) (by(rwa [f8 (cg g)];rfl)) p.1⟩
  |deque w=>
   (refine dW j ?_;clear j;intro st r l j g);have z:=Vals.len _ _ g;exact λp=>⟨rfl,uI j (by rwa [z];exact ij p.1) (H.post rfl rfl rfl (Gz 1 _) (by(rwa [f8 z];rfl)))⟩
  |_=>trivial
 |flist w=>
  (refine dJ k ?_;clear k;intro a o l n h y h1 h2 g;subst h;obtain⟨_,_,j⟩:=y);exact λp=>⟨rfl,i6 H j h1 h2 (Vals.len _ _ g) (by(rwa [f8 (Vals.len _ _ g)];rfl)) p.1⟩
 |_=>trivial
def iD(c:Cx)(d:Cfg)(e:KB)(f:KM)(s:dd)(g:Ia)(u v:da)(b:Bool)(m:KM):Prop:=m=f∧eo c.M c.A (IC g u v) (aF c d e f s f λa a r=>r= .bool b) NoE s
theorem ac.cmp(H:ac c d e f s){a:Ia}{u v:da}{b:Bool}(h:(∀Q:da→dd→Prop,Q (.bool b) s→eo c.M c.A (IC a u v) Q NoE s)):iD c d e f s a u v b f:=⟨rfl,h _ (H.post rfl rfl rfl H.tk rfl)⟩
theorem rE(H:ac c d e f s){g:Ia}{u:da}{j i:Option Bool}(h1:∀b,j=some b→∀Q:da→dd→Prop,(Q (.bool b) s→eo c.M c.A (IC .Is u .none) Q NoE s)∧(Q (.bool (!b)) s→eo c.M c.A (IC .IsNot u .none) Q NoE s))
 (h2:∀b,i=some b→∀Q:da→dd→Prop,(Q (.bool b) s→eo c.M c.A (IC .Eq u .none) Q NoE s)∧(Q (.bool (!b)) s→eo c.M c.A (IC .NotEq u .none) Q NoE s)):
 (jw j i g f).W (iD c d e f s g u .none):=by
 induction g with
 |Eq=>exact cM λb a h=>H.cmp λQ q=>(h2 b a Q).1 q
 |NotEq=>exact cM λb a h=>H.cmp λQ q=>(h2 b a Q).2 q
 |Is=>exact cM λb a h=>H.cmp λQ q=>(h1 b a Q).1 q
 |IsNot=>exact cM λb a h=>H.cmp λQ q=>(h1 b a Q).2 q
 |_=>trivial
theorem wC(H:ac c d e f s){g:Ia}{y:V}{u v:da}(h:Val (aa c.d e f s.heap) e y v)(h1:∀Q:da→dd→Prop,(Q (.bool false) s→eo c.M c.A (IC .Is u .none) Q NoE s)∧(Q (.bool true) s→eo c.M c.A (IC .IsNot u .none) Q NoE s)):
 (uy y (jw (some false) none g f)).W (iD c d e f s g u v):=by
 induction y using Mine.V.casesOn with
 |none=>cases h;exact rE H (λb a=>by obtain rfl:=ds a;exact h1) λb a=>by exact noS a
 |_=>trivial
theorem Eh:∀{op:Ia} {x y:V} {u v:da} (H:ac c d e f s) (m:Val (aa c.d e f s.heap) e x u) (l:Val (aa c.d e f s.heap) e y v),(BD op x y f).W (iD c d e f s op u v):=by
 revert c d e f s;refine' eI10;intro v u y x op s f e d c H m l
 induction x using Mine.V.casesOn with
 |int i=>
  (refine au m ?_;clear m;intro t h;subst h)
  induction y using Mine.V.casesOn with
  |int j=>
   (refine au l ?_;clear l;intro n h;subst h)
   induction op with
   |Eq=>exact λk=>H.cmp λk=>eq_int
   |Lt=>exact λk=>H.cmp λk=>lt_int
   |Gt=>exact λk=>H.cmp λk=>gt_int
   |GtE=>exact λk=>H.cmp λk=>ge_int
   |_=>trivial
  |none=>cases l;exact rE H (λb g Q=>by obtain rfl:=ds g;exact⟨is_int_none,isnot_int_none⟩) λb g=>by exact noS g
  |_=>trivial
 |str i=>
  (refine au m ?_;clear m;intro t h;subst h)
  induction y using Mine.V.casesOn with
  |str j=>
   (refine au l ?_;clear l;intro n h;subst h)
   induction op with
   |Eq=>exact λk=>H.cmp λk=>eq_str
   |NotEq=>exact λk=>H.cmp λk=>ne_str
   |In=>exact λk=>H.cmp λk=>in_str
   |NotIn=>exact λk=>H.cmp λk q=>notIn_str (by simpa [aV]using q)
   |_=>trivial
  |none=>cases l;exact rE H (λb g Q=>by obtain rfl:=ds g;exact⟨is_str_none,isnot_str_none⟩) λb g Q=>by obtain rfl:=ds g;exact⟨EqNone.eq_str_none,EqNone.ne_str_none⟩
  |_=>trivial
 |none=>
  cases m
  induction y using Mine.V.casesOn with
  |none=>cases l;exact rE H (λb g Q=>by obtain rfl:=ds g;exact⟨is_none_none,isnot_none_none⟩) λb g Q=>by obtain rfl:=ds g;exact⟨EqNone.eq_none_none,EqNone.ne_none_none⟩
  |str j=>
   (refine au l ?_;clear l;intro n h;subst h)
   induction op with
   |Eq=>exact λk=>H.cmp λk=>EqNone.eq_none_str
   |NotEq=>exact λk=>H.cmp λk=>EqNone.ne_none_str
   |_=>trivial
  |_=>trivial
 |ref i=>(refine ab m ?_;clear m;intro a k h;subst h);exact wC H l λQ=>⟨is_ref_none,isnot_ref_none⟩
 |_=>trivial
theorem sn(H:ac c d e f s){op:HV}{x y:V}{u v:da}(n:Val (aa c.d e f s.heap) e x u)(g:Val (aa c.d e f s.heap) e y v):
 (w7 op x y f).W λb m=>eo c.M c.A (binaryOp op u v) (aF c d e f s m λF e r=>Val F e b r) NoE s:=by
 have q:=H.tk
 induction x using Mine.V.casesOn with
 |int i=>
  (refine au n ?_;clear n;intro t a;subst a)
  induction y using Mine.V.casesOn with
  |int j=>
   (refine au g ?_;clear g;intro l a;subst a)
   induction op with
   |Add=>exact λh=>add_int (H.post rfl rfl rfl (Gz 1 _) ⟨_,rfl⟩)
   |Sub=>exact λh=>sub_int (H.post rfl rfl rfl (Gz 1 _) ⟨_,rfl⟩)
   |Mod=>exact λp=>mod_int' p.1 (H.post rfl rfl rfl (Gz 1 _) ⟨_,rfl⟩)
   |_=>trivial
  |_=>trivial
 |str i=>
  (refine au n ?_;clear n;intro t a;subst a)
  induction y using Mine.V.casesOn with
  |str j=>
   (refine au g ?_;clear g;intro l a;subst a)
   induction op with
   |Add=>exact λp=>dO q (SBL.add (hsz:=p.1) λl k h o=>H.post rfl rfl rfl o ⟨_,rfl⟩)
   |_=>trivial
  |int j=>
   (refine au g ?_;clear g;intro l a;subst a)
   induction op with
   |Mult=>exact λp=>dO q (KXi.mul rfl p.1 p.2.1 p.2.2.1 λl k h h o=>H.post rfl rfl rfl o ⟨_,rfl⟩)
   |_=>trivial
  |_=>trivial
 |_=>trivial
end
end Mine
section
set_option backward.match.sparseCases false
namespace Mine
set_option genInjectivity false in
structure Fns where
 E:Expr→List AO→Res V
 T:Expr→List AO→Res Bool
 X:k0→List AO→Res Fl
 A:Expr→V→List AO→Res Unit
deriving Nonempty
noncomputable def dD(e:Expr):Bool:=Nat.beq e.ctorIdx 22
def dj(f:Fns):List Expr→List AO→Res (List V)
 |[],a=> .ok [] [] a
 |e::r,a=>noB (dD e) ((f.E e a).bind λv a=>(dj f r a).bind λb a=> .ok [] (v::b) a)
noncomputable def Fl.go(fl:Fl)(a:KM)(k:Res Fl):Res Fl:=match fl with
 | .next=>k
 |fl=> .ok [] fl a
def am(f:Fns):List k0→List AO→Res Fl
 |[],a=> .ok [] .next a
 |s::r,a=>(f.X s a).bind λb a=>b.go a (am f r a)
noncomputable def Co:BoolOp→Bool
 | .And=>false
 | .Or=>true
noncomputable def jp{a:Type}(b:Bool)(x y:Res a):Res a:=match b with
 |true=>x
 |false=>y
def sB(f:Fns)(c:BoolOp):List Expr→List AO→Res Bool
 |[],a=> .ok [] (!Co c) a
 |e::r,a=>(f.T e a).bind λb a=>match c with
  | .And=>jp b (sB f .And r a) (.ok [] false a)
  | .Or=>jp b (.ok [] true a) (sB f .Or r a)
def tru(c:Cfg)(p:nR)(v:V)(a:KM):Res Bool:=(sT v a).bind λb a=>dec c p b a
def sk(c:Cfg)(f:Fns)(d:BoolOp):List Expr→List AO→Res V
 |[],_=> .err ""
 |e::r,a=>match r with
  |[]=>f.E e a
  |_::_=>(f.E e a).bind λv a=>(tru c e.pos v a).bind λb a=>match d with
   | .And=> .err ""
   | .Or=>jp b (.ok [] v a) (sk c f .Or r a)
noncomputable def uK(k:Const)(a:KM):Res V:=match k with
 | .none=> .ok [] .none a
 | .bool b=> .ok [] (.bool b) a
 | .int i=> .ok [] (.int i) a
 | .str s=> .ok [] (.str s) a
 |_=> .err ""
section
variable{c:Cx}{cfg:Cfg}
structure bV(c:Cx)(cfg:Cfg)(f:Fns):Prop where
 E:∀e,gn c cfg (Gu e c.env) (f.E e)
 T:∀e,sK c cfg (A0 e c.env (Gu e c.env)) (f.T e)
 X:∀st,lK c cfg (IP st c.env) (f.X st)
 A:∀t v ρ mu s u,ac c cfg ρ mu s→Val (aa c.d ρ mu s.heap) ρ v u→(f.A t v mu).W λzz mu'=>eo c.M c.A (I5 t c.env u) (aF c cfg ρ mu s mu' λzz zz zz=>True) NoE s
theorem aF.trans{g:Type}{j d:KB}{i e a:KM}{s k f:dd}{R:aA→List cv→g→Prop}{x:g}(X:Ext j i s d e k)(h:aF c cfg d e k a R x f):aF c cfg j i s a R x f:=
 let⟨ρ2,H,Y,r⟩:=h;⟨ρ2,H,X.trans Y,r⟩
theorem cU{g:Type}{j b:KB}{i d a:KM}{s k e:dd}{R:aA→List cv→g→Prop}{t:Hk g}(X:Ext j i s b d k)(h:eo c.M c.A t (aF c cfg b d k a R) NoE e):eo c.M c.A t (aF c cfg j i s a R) NoE e:=
 ex h (λf f z=>z.trans X) λf f z=>z
theorem Res.W.post{f k:Type}{j a:KB}{g d:KM}{s i e:dd}{R:k→aA→List cv→f→Prop}{t:Hk f}{r:Res k}(h:r.W λb m=>eo c.M c.A t (aF c cfg a d i m (R b)) NoE e)(X:Ext j g s a d i):
 r.W λb m=>eo c.M c.A t (aF c cfg j g s m (R b)) NoE e:=h.mono λl l=>cU X
theorem dB{e:Expr}{r:List Expr}{a:Env}(h:dD e=false):G8 (e::r) a=(false,Gu e a)::G8 r a:=by
 induction e using p8<;>first|rfl|exact tfB h
theorem lG{f:Fns}(O:bV c cfg f)(d:nR):∀j,F3 c cfg (spliced (H9 d (G8 j c.env))) (dj f j):=by
 intro h
 induction h with
 |nil=>
  intro i m s H;exact λa=>spliced_nil ⟨i,H,Ext.refl ..,rfl⟩
 |cons e r b=>
  intro i m s H;exact eK λx=>by
   rwa [dB x];exact(O.E e).seq H (λa a=>spliced_cons) λv y u s1 p w o n=>(b).seq w (λa a=>id) λz m2 t s2 g q k l a=>
    ⟨g,q,o.trans k,u,t,rfl,k.val n,l⟩
theorem f4{f:Fns}(O:bV c cfg f):∀k,lK c cfg (un k c.env) (am f k):=by
 intro i
 induction i with
 |nil=>
  intro l n s H;exact λb=>Gc ⟨l,H,Ext.refl ..,rfl⟩
 |cons st r h=>
  intro l n s H;exact(O.X st).seq H (λb b=>pp) λx m u s1 a g e d=>by
   induction u with
   |next=>cases d;exact(h a m s1 g).post e
   |brk=>cases d;exact λb=>⟨a,g,e,rfl⟩
   |cont=>cases d;exact λb=>⟨a,g,e,rfl⟩
   |ret w=>(refine ab d ?_;clear d;intro y j o;subst j);exact λb=>⟨a,g,e,y,rfl,o⟩
theorem zR{f:Fns}(O:bV c cfg f)(k:BoolOp)(j:nR)(d:Hk da)(i:List Expr):sK c cfg (A0 (.BoolOp k i j) c.env d) (sB f k i):=by
 induction k
 ·induction i with
  |nil=>exact λa a a H a=>isTrue_and_nil ⟨_,H,Ext.refl ..,rfl⟩
  |cons e r n=>
   refine λp o s H=>(O.T e).seq H (λa a=>isTrue_and) λx m u s1 b h g l=> ?_;subst l
   induction u with
   |false=>exact λa=>⟨b,h,g,rfl⟩
   |true=>exact(n b m s1 h).post g
 ·induction i with
  |nil=>exact λa a a H a=>isTrue_or_nil ⟨_,H,Ext.refl ..,rfl⟩
  |cons e r n=>
   refine λp o s H=>(O.T e).seq H (λa a=>isTrue_or) λx m u s1 b h g l=> ?_;subst l
   induction u with
   |true=>exact λa=>⟨b,h,g,rfl⟩
   |false=>exact(n b m s1 h).post g
theorem xO{p:nR}{b:Bool}{d:KM}:(dec cfg p b d).W λe a=>b=e∧a=d:=by
 unfold dec;cases lkN (rA p) cfg.orc with
 |none=>exact λf=>⟨rfl,rfl⟩
 |some _=>exact λp=>⟨p.1,rfl⟩
theorem Ch{e:KB}{a:KM}{s:dd}(H:ac c cfg e a s){p:nR}{v:V}{u:da}(i:Val (aa c.d e a s.heap) e v u):
 (tru cfg p v a).W λb f=>f=a∧eo c.M c.A (JY u) (aF c cfg e a s a λd d x=>x=b) NoE s:=
 .bind ((qz H i).mono λd d h=>xO.mono λd d g=>⟨g.2.trans h.1,g.1▸h.2⟩)
theorem sU{d:KB}{a:KM}{s:dd}(H:ac c cfg d a s){p:nR}{v:V}{u:da}(f:Val (aa c.d d a s.heap) d v u):(tru cfg p v a).W λb m=>eo c.M c.A (JY u) (aF c cfg d a s m λe e x=>x=b) NoE s:=
 (Ch H f).mono λe e h=>h.1.symm▸h.2
theorem w5{f:Fns}(O:bV c cfg f)(g:BoolOp)(d:nR)(i:List Expr):gn c cfg (Gu (.BoolOp g i d) c.env) (sk cfg f g i):=by
 induction i with
 |nil=>exact λa a a a=>trivial
 |cons e r y=>
  induction r using kv with
  |nil=>exact λo k s H=>(O.E e o k s H).mono λa a=>BoolOp_one
  |cons A r=>
   intro o k s H
   induction g
   ·exact .bind (.of λa v m a a=> .bind (.of λa b m a a=>trivial))
   ·refine(O.E e).seq H (λa a=>BoolOp_or) λx m u s1 t z n l=>(sU z l).seq (λa a=>id) λb m2 w s2 h p j q=> ?_
    subst q
    induction w with
    |true=>exact λa=>⟨h,p,n.trans j,j.val l⟩
    |false=>exact(y _ _ _ p).post (n.trans j)
theorem wU(k:Const):gn c cfg (constValue c.env k) (uK k):=by
 intro d e s H
 induction k with
 |none=>exact λa=>eM ⟨d,H,Ext.refl ..,rfl⟩
 |bool b=>exact λa=>eM ⟨d,H,Ext.refl ..,rfl⟩
 |int i=>exact λa=>wpAny_mkInt (H.post rfl rfl rfl (oa H.tk) ⟨_,rfl⟩)
 |str i=>exact λa=>wpAny_mkText (H.post rfl rfl rfl (oa H.tk) ⟨_,rfl⟩)
 |_=>trivial
end
abbrev Cx.at(c:Cx)(H:cv→Prop)(n:Nat):Bd:={c.d with H:=H,ρ₀:=c.d.ρ₀.take n}
inductive sL(c:Cx)(d:Bd)(ρ:KB)(mu:KM)(s:dd)(n:Nat)(r:V)(mu':KM)(x:da)(s':dd):Prop
 |mk (tk:1≤s'.toks) (ρ':KB) (mu1:KM) (R:aq c.prog c.w d ρ' mu1 s') (X:Ext ρ mu s ρ' mu1 s') (hn:n≤mu1.length) (ht:mu1.take n=mu') (hv:Val (aa d ρ' mu1 s'.heap) ρ' r x)
structure aI(c:Cx)(f:cv)(n:Nat)(spec:ay):Prop where
 keep:∀h:Gm,(∀b o,c.d.B b o→h.get? b=some o)→∃k,(k=IQ∨k=Ip∨k=HN)∧Hz c.M h (Ka (.ref f)) k
 run:∀H ρ mu s xs vs vc r mu',mu.length=n→aq c.prog c.w (c.at H n) ρ mu s→1≤s.toks→Vals (aa (c.at H n) ρ mu s.heap) ρ xs vs→spec xs mu= .ok vc r mu'→aw vc→
  eo c.M c.A (call (.ref f) vs) (sL c (c.at H n) ρ mu s n r mu') NoE s
structure FnW(c:Cx)(f:cv)(spec:ay):Prop where
 keep:∀h:Gm,(∀b o,c.d.B b o→h.get? b=some o)→∃k,(k=IQ∨k=Ip∨k=HN)∧Hz c.M h (Ka (.ref f)) k
 run:∀ρ mu s xs vs vc r mu',aq c.prog c.w c.d ρ mu s→1≤s.toks→Vals (aa c.d ρ mu s.heap) ρ xs vs→spec xs mu= .ok vc r mu'→aw vc→
  eo c.M c.A (call (.ref f) vs) (λx s'=>1≤s'.toks∧∃ρ',aq c.prog c.w c.d ρ' mu' s'∧Ext ρ mu s ρ' mu' s'∧Val (aa c.d ρ' mu' s'.heap) ρ' r x) NoE s
def oI(n:Nat)(b:ay)(a:KN)(c:KM):Res V:=onB (Iy n c.length) (match b a (c.take n)with
 | .err w=> .err w
 | .ok vc r mu'=> .ok ([V.closedL n a=true,aK n (c.take n)=true]++(vc++[V.closed n r=true,aK n mu'=true])) r (mu'++c.drop n))
set_option genInjectivity false in
inductive MK where
 |startswith|endswith|rfind|rstrip|split|join|append|pop|get|popleft|appendleft
 |fn(f:cv)
deriving Nonempty
noncomputable def MK.fnV:MK→da
 | .startswith=> .builtin "str.startswith"
 | .endswith=> .builtin "str.endswith"
 | .rfind=> .builtin "str.rfind"
 | .rstrip=> .builtin "str.rstrip"
 | .split=> .builtin "str.split"
 | .join=> .builtin "str.join"
 | .append=> .builtin "list.append"
 | .pop=> .builtin "list.pop"
 | .get=> .builtin "dict.get"
 | .popleft=> .builtin "collections.deque.popleft"
 | .appendleft=> .builtin "collections.deque.appendleft"
 | .fn f=> .ref f
def Ev(a:Str):Option MK:=
 bif af a "startswith" then some .startswith else bif af a "endswith" then some .endswith else bif af a "rfind" then some .rfind else
 bif af a "rstrip" then some .rstrip else bif af a "split" then some .split else bif af a "join" then some .join else none
def rM(a:Str):Option MK:=bif af a "append" then some .append else bif af a "pop" then some .pop else none
def Bu(a:Str):Option MK:=bif af a "popleft" then some .popleft else bif af a "appendleft" then some .appendleft else none
def Ef(a:Str):Option MK:=bif af a "get" then some .get else none
def OW{a:Type}(o:Option a)(T:a→Prop):Prop:=match o with
 |some x=>T x
 |none=>True
theorem AF{a b:Type}{o:Option a}{k:a→Res b}{P:a→Prop}{T:b→List AO→Prop}(h:OW o P)(g:∀x,P x→(k x).W T):(onO o k).W T:=match o,h with
 |none,_=>trivial
 |some x,h=>g x h
noncomputable def oC{a:Type}(b:KM)(i:Nat)(k:AO→Option a):Option a:=match b[i]? with
 |some o=>k o
 |none=>none
theorem pr{b:Type}{a:KM}{i:Nat}{k:AO→Option b}{T:b→Prop}(h:∀o,a[i]? =some o→OW (k o) T):OW (oC a i k) T:=by
 unfold oC;cases q:a[i]? with
 |none=>trivial
 |some o=>exact h o q
theorem BS{a:Type}{b:Bool}{x:a}{y:Option a}{T:a→Prop}(h:b=true→T x)(g:OW y T):OW (bif b then some x else y) T:=match b,h with
 |true,h=>h rfl
 |false,_=>g
def fX(b:Cfg)(v:V)(a:Str)(c:KM):Option MK:=match v with
 | .str _=>Ev a
 | .ref i=>oC c i λo=>match o with
  | .list _=>rM a
  | .strs _=>rM a
  | .dict _=>Ef a
  | .deque _=>Bu a
  | .inst C d=>oC c d λo=>match o with
   | .ns fs=>(match lk a fs with
    |none=>(match lkM C a b.meths with
     |some f=>some (.fn f)
     |none=>none)
    |some _=>none)
   |_=>none
  |_=>none
 |_=>none
noncomputable def b9{a:Type}(v:V)(k:Str→Res a):Res a:=match v with
 | .str x=>k x
 |_=> .err ""
theorem cj{b:Type}{F:aA}{c:KB}{v:V}{u:da}{k:Str→Res b}{T:b→List AO→Prop}(a:Val F c v u)(h:∀x t,u= .str x t→(k x).W T):(b9 v k).W T:=by
 induction v using Mine.V.casesOn with
 |str x=>(refine au a ?_;clear a;intro t e);exact h x t e
 |_=>trivial
noncomputable def d5{a:Type}(v:V)(k:Int→Res a):Res a:=match v with
 | .int x=>k x
 |_=> .err ""
theorem eI{b:Type}{F:aA}{c:KB}{v:V}{u:da}{k:Int→Res b}{T:b→List AO→Prop}(a:Val F c v u)(h:∀x t,u= .int x t→(k x).W T):(d5 v k).W T:=by
 induction v using Mine.V.casesOn with
 |int x=>(refine au a ?_;clear a;intro t e);exact h x t e
 |_=>trivial
noncomputable def hdL{a:Type}(b:KN)(k:V→List V→Res a):Res a:=match b with
 |x::r=>k x r
 |[]=> .err ""
theorem js{c:Type}{F:aA}{b:KB}{a:KN}{f:KH}{k:V→List V→Res c}{T:c→List AO→Prop}(d:Vals F b a f)(h:∀x r u q,f=u::q→Val F b x u→Vals F b r q→(k x r).W T):(hdL a k).W T:=by
 induction a using kv with
 |nil=>trivial
 |cons x r=>(refine bg d ?_;clear d;intro u q e h1 h2);exact h x r u q e h1 h2
noncomputable def mW{a:Type}(b:KN)(k:Res a):Res a:=match b with
 |[]=>k
 |_::_=> .err ""
theorem mj{c:Type}{F:aA}{e:KB}{a:KN}{b:KH}{k:Res c}{T:c→List AO→Prop}(d:Vals F e a b)(h:b=[]→k.W T):(mW a k).W T:=by
 induction a using kv with
 |nil=>exact h d
 |cons x r=>trivial
def one{a:Type}(b:KN)(k:V→Res a):Res a:=hdL b λx r=>mW r (k x)
theorem eu{a:Type}{F:aA}{d:KB}{b:KN}{c:KH}{k:V→Res a}{T:a→List AO→Prop}(g:Vals F d b c)(h:∀x u,c=[u]→Val F d x u→(k x).W T):(one b k).W T:=
 js g λx f u f e h1 h2=>mj h2 λi=>h x u (i▸e) h1
def two{a:Type}(b:KN)(k:V→V→Res a):Res a:=hdL b λx r=>one r (k x)
theorem oB{c:Type}{F:aA}{a:KB}{b:KN}{d:KH}{k:V→V→Res c}{T:c→List AO→Prop}(g:Vals F a b d)(h:∀x y u w,d=[u,w]→Val F a x u→Val F a y w→(k x y).W T):(two b k).W T:=
 js g λx f u f e h1 h2=>eu h2 λy w i h3=>h x y u w (i▸e) h1 h3
def f7{a:Type}(v:V)(b:KM)(k:Nat→AO→Res a):Res a:=match v with
 | .ref i=>atO b i (k i)
 |_=> .err ""
section
variable{c:Cx}{a:Cfg}{d:KB}{b:KM}{s:dd}
theorem fW{g:Type}(H:ac c a d b s){v:V}{u:da}{k:Nat→AO→Res g}{T:g→List AO→Prop}(j:Val (aa c.d d b s.heap) d v u)
 (h:∀i f o,u= .ref f→d[i]? =some f→b[i]? =some o→AOk c.prog c.w (aa c.d d b s.heap) d s.heap f o→(k i o).W T):(f7 v b k).W T:=by
 induction v using Mine.V.casesOn with
 |ref i=>(refine ab j ?_;clear j;intro f m e);exact dN λo l=>h i f o e m l (H.rep.objs _ _ _ m l)
 |_=>trivial
theorem np:∀{f:cv} {n:Nat} {g:ay} {j:KN} {l:KH} (F:aI c f n g) (H:ac c a d b s) (u:Vals (aa c.d d b s.heap) d j l),(oI n g j b).W λr o=>eo c.M c.A (call (.ref f) l) (aF c a d b s o λF d x=>Val F d r x) NoE s:=by
 revert c a d b s;refine' eI10;intro l j g n f s b d a c F H u;refine eJ λm=> ?_;have m:=ro m;cases h1:g j (b.take n)with
 |err=>trivial
 |ok k E t=>
  intro p;refine ai (H.rep.restrict p.2.1) λK B=> ?_;have q:=aj.mp (show aw (k++_)from p.2.2);refine ex (F.run _ _ _ s j l k E t (by rwa [p7];exact GW m) K H.tk (Vals.cut B (λi e C h=>by rwa [FD,if_pos C];exact h) _ _ p.1 u) h1 q.1) (λx O h=> ?_) λy y z=>z
  obtain⟨I,L,G,J,X,A,rfl,hr⟩:=h;refine gl (H.rep.restore m J X A q.2.2.1) λD N w v=> ?_;exact⟨d,⟨D,I,H.fr,H.cl⟩,N,Val.cut w v _ _ q.2.1 hr⟩
theorem su{f:nR}:∀{j:List Expr},j.all (λe=> !dD e)=true→(H9 f (G8 j c.env)).any (·.1)=false:=by
 intro i
 induction i with
 |nil=>
  intro _;exact rfl
 |cons e r g=>
  intro h;rw [I6,lq]at h;rwa [dB (by simpa using h.1)]
  show(false||(H9 f (G8 r c.env)).any (·.1))=false;rwa [g h.2];rfl
theorem mE{i:nR}{j:Env}:∀{k:List Expr},k.all (λe=> !dD e)=true→(H9 i (G8 k j)).all (λx=> !x.1)=true:=by
 intro g
 induction g with
 |nil=>
  intro _;exact rfl
 |cons e r f=>
  intro h;rw [I6,lq]at h;rwa [dB (by simpa using h.1)]
  exact f h.2
theorem eP{f:Fns}:∀{k:List Expr} {b:KM},(dj f k b).W λg g=>k.all (λe=> !dD e)=true:=by
 intro j
 induction j with
 |nil=>
  intro _;exact λg=>rfl
 |cons e r i=>
  intro b;exact eK λl=> .bind (.of λg g g g g=> .bind ((i).mono λg g h g=>by rwa [I6,l,h];rfl))
def mL(c:Cx)(g:da):Prop:=∀h:Gm,(∀e o,c.d.B e o→h.get? e=some o)→∃k,(k=IQ∨k=Ip∨k=HN)∧Hz c.M h (Ka g) k
theorem jY{id:String}:mL c (.builtin id):=λe e=>(ah _ (.inr (.inl rfl)) .now)
theorem uw{T:String}:mL c (.type T):=λe e=>(ah _ (.inr (.inl rfl)) .now)
theorem qq{f:Fns}(O:bV c a f){i:nR}{w:da}{d:KB}{b:KM}{s:dd}(H:ac c a d b s){m:List Expr}{vc:KG}{t:KN}{g:KM}(e:dj f m b= .ok vc t g)(q:aw vc){Q:Args→dd→Prop}
 (k:∀v l h,ac c a h g l→Ext d b s h g l→Vals (aa c.d h g l.heap) h t v→Q ⟨v,[]⟩ l):eo c.M c.A (evalArgs w true (H9 i (G8 m c.env)) []) Q NoE s:=by
 have u:=(lG O i m).use H e q k
 induction m using kv with
 |nil=>exact PyProof.Rows.evalArgs_none (by(refine ax (Mine.Res.ok.inj e) λp o n=> ?_;subst p;subst o;subst n);exact k [] s d H (Ext.refl ..) rfl)
 |cons x r=>
  have j:=eP.use e q;rw [I6,lq]at j;rw [dB (by simpa using j.1)]at u⊢
  exact evalArgs_plain u
theorem dq{f:Fns}(O:bV c a f){n:nR}{g:da}{first:KH}(v:mL c g)(H:ac c a d b s){u:List Expr}{vc:KG}{r:KN}{l:KM}(e:dj f u b= .ok vc r l)(q:aw vc){Q:KD}
 (k:∀p m j,ac c a j l m→Ext d b s j l m→Vals (aa c.d j l m.heap) j r p→eo c.M c.A (call g (first++p)) Q NoE m):eo c.M c.A (Kb n g first (H9 n (G8 u c.env)) []) Q NoE s:=
 callWith_of (P:=λh=>∀i o,c.d.B i o→h.get? i=some o) (by rwa [su (eP.use e q)];rfl) v (qq O H e q λp m j t X w=>⟨t.rep.base,k p m j t X w⟩)
theorem mB{f:Fns}(O:bV c a f){l:nR}{g:da}{first:KH}{u:List Expr}{q:Type}{t:List V→List AO→Res q}{Q:q→List AO→da→dd→Prop}(x:mL c g)(H:ac c a d b s)
 (k:∀p m n j h,ac c a h m j→Ext d b s h m j→Vals (aa c.d h m j.heap) h p n→(t p m).W λr o=>eo c.M c.A (call g (first++n)) (Q r o) NoE j):
 ((dj f u b).bind t).W λr o=>eo c.M c.A (Kb l g first (H9 l (G8 u c.env)) []) (Q r o) NoE s:=
 .of λi i i e v=>bB e v λi i i i C z B y=>dq O x H C z λn j h w X A=>(k _ _ n j h w X A).use B y
end
noncomputable def pre{a:Type}(vc:KG)(r:Res a):Res a:=match r with
 | .ok vc2 v mu=> .ok (vc++vc2) v mu
 | .err w=> .err w
theorem xA{a:Type}{l:KG}{r:Res a}{T:a→List AO→Prop}(h:aw l→r.W T):(pre l r).W T:=by
 induction r with
 |err=>trivial
 |ok v b m=>exact λp=>h (aj.mp p).1 (aj.mp p).2
theorem lR{a:Cfg}{p:nR}{o:Option V}{b:KM}{T:V→List AO→Prop}(h:∀v,o=some v→T v b):(fR a p o b).W T:=by
 unfold fR;cases lkN (rA p) a.vor with
 |none=>exact cM λv e c=>h v e
 |some v=>exact λp=>h v p.1
noncomputable def mF:List V→Option (List Str)
 |[]=>some []
 |v::r=>match v with
  | .str s=>(mF r).map (s::·)
  |_=>none
def kr{a:Type}(v:V)(b:KM)(k:List Str→Res a):Res a:=match v with
 | .fstrs xs=>k xs
 | .ref i=>atO b i λo=>match o with
  | .strs xs=>k xs
  |_=> .err ""
 |_=> .err ""
def mY(e:Cfg)(p:nR)(k:MK)(v:V)(a:KN)(b:KM):Res V:=match k with
 | .startswith=>b9 v λx=>one a λy=>b9 y λy=> .ok [] (.bool (GV x y)) b
 | .endswith=>b9 v λx=>one a λy=>b9 y λy=> .ok [] (.bool (Jj x y)) b
 | .rfind=>b9 v λx=>one a λy=>b9 y λy=> .ok [] (.int (Gs x y)) b
 | .rstrip=>b9 v λx=>one a λy=>b9 y λy=> .ok [x.length≤p9] (.str (Jc x y)) b
 | .split=>b9 v λx=>one a λy=>b9 y λy=> .ok [(y.length==0)=false,x.length+2≤p9] (.fstrs (ID x y)) b
 | .join=>b9 v λx=>one a λl=>kr l b λc=> .ok [x.length≤64,(c.map (·.length)).sum+c.length*64≤16777216] (.str (f1 x c)) b
 | .append=>f7 v b λi o=>one a λy=>match o with
  | .list a=> .ok [a.length≤p9] .none (b.set i (.list (a++[y])))
  | .strs a=>b9 y λs=> .ok [a.length≤p9] .none (b.set i (.strs (a++[s])))
  |_=> .err ""
 | .pop=>f7 v b λi o=>match a with
  |[]=>(match o with
   | .strs a=> .ok [a≠[],a.length≤p9] (.str (a.getLastD GZ)) (b.set i (.strs a.dropLast))
   | .list a=>pre [a.length≤p9] (fR e p a.getLast? (b.set i (.list a.dropLast)))
   |_=> .err "")
  |z::r=>mW r (d5 z λz=>onB (Nat.beq z.natAbs 0) (match o with
   | .list c=>hdL c λy c=> .ok [c.length+1≤p9] y (b.set i (.list c))
   |_=> .err ""))
 | .get=>f7 v b λg o=>two a λk d=>b9 k λk=>match o with
  | .dict fs=>fR e p (some ((lk k fs).getD d)) b
  |_=> .err ""
 | .popleft=>f7 v b λi o=>mW a (match o with
  | .deque c=>hdL c λy c=> .ok [c.length≤p9] y (b.set i (.deque c))
  |_=> .err "")
 | .appendleft=>f7 v b λi o=>one a λy=>match o with
  | .deque c=> .ok [c.length+1≤p9] .none (b.set i (.deque (y::c)))
  |_=> .err ""
 | .fn f=>onO (lkN f e.fns) λz=>oI z.1 z.2 (v::a) b
section
variable{c:Cx}{e:Cfg}{b:KB}{d:KM}{s:dd}
theorem Vals.append{F:aA}{b:KB}:∀{l m:KN} {a j:KH},Vals F b l a→Vals F b m j→Vals F b (l++m) (a++j):=by
 intro i
 induction i with
 |nil=>
  intro _ a _ h g;rwa [show a=[]from h];exact g
 |cons _ _ f=>
  intro _ _ _ k g;(refine bg k ?_;clear k;intro v r h1 h2 h3);exact by subst h1;exact⟨v,_,rfl,h2,f h3 g⟩
theorem mQ{f i:KH}{g a:KA}(h:Gq f g)(j:Gq i a):Gq (f++i) (g++a):=by
 induction h with
 |nil=>exact j
 |cons y t _ k=>exact .cons y t k
theorem kR:∀l:List (Str×Tok),Gq (strValues l) (l.map (·.1)):=by
 intro f
 induction f with
 |nil=>
  exact .nil
 |cons p r a=>
  exact .cons p.1 p.2 (a)
theorem gq{F:aA}{b:KB}:∀{l:KN} {i:KA} {g:KH},mF l=some i→Vals F b l g→Gq g i:=by
 intro k
 induction k with
 |nil=>
  intro i g h n;obtain rfl:=ds h;rwa [show g=[]from n];exact .nil
 |cons x r j=>
  intro i g h f;(refine bg f ?_;clear f;intro v q h1 h2 h3)
  induction x using Mine.V.casesOn with
  |str s=>
   (refine ab (mr.mp h) λm o a=> ?_;subst a);(refine au h2 ?_;clear h2;intro t a;subst a);subst h1;exact .cons s t (j o h3)
  |_=>exact noS h
theorem jL{r:Type}(H:ac c e b d s){v:V}{u:da}{k:List Str→Res r}{T:r→List AO→Prop}(q:Val (aa c.d b d s.heap) b v u)(h:∀a f l,u= .ref a→s.heap.IsList a f→Gq f.toList l→(k l).W T):(kr v d k).W T:=by
 induction v using Mine.V.casesOn with
 |fstrs l=>
  (refine dJ q ?_;clear q;intro a o g n j p h1 h2 h3;subst j;(refine ax p ?_;clear p;intro t t m));exact h a g l rfl ⟨o,m,h1,n,h2⟩ h3
 |ref i=>
  (refine ab q ?_;clear q;intro a x j;subst j);refine dN λo w=> ?_;have m:=H.rep.objs _ _ _ x w
  induction o with
  |«strs» l=>(refine aS m ?_;clear m;intro g n m h3);exact h a g l rfl ⟨_,m,rfl,n,rfl⟩ h3
  |_=>trivial
 |_=>trivial
theorem fC(H:ac c e b d s){g:Hn}{s':dd}(j:s'.heap=s.heap.push g)(p:g.isFreed=false)(m:s'.gens=s.gens)(k:s'.os=s.os)(n:1≤s'.toks){v:V}{u:da}
 (l:∀F:aA,F s.heap.objs.size g→Le (aa c.d b d s.heap) F→Val F b v u):aF c e b d s d (λF b x=>Val F b v x) u s':=by
 refine ai (H.rep.grow (s':=s') (by rwa [j];exact λf o h=>g0 g h) (by rwa [j,sm _ _];exact Lle [_] [] 0 V0 (.a V0 Z0) rfl) m k) λR X=> ?_
 refine⟨b,⟨R,n,H.fr,H.cl⟩,X,l _ ⟨λh=>absurd (H.rep.hid _ h) (HA _), ?_,by rwa [j];exact Gl _ p⟩ X.froz⟩
 rintro⟨i,o,h1,_,_⟩
 exact absurd (H.rep.new _ (lf h1)).2.1 (HA _)
open Builtin.Str in
theorem rn:∀{f:A8} {w:Gv} {A:GI} {E:KD} {s:dd} {x y:Str} {t u:Tok} {Q:KD} (j:(y.length==0)=false) (h:∀l k,l.map (·.1)=ID x y→Q (.ref s.heap.objs.size) {s with heap:=s.heap.push {cls:= .type "list",data:= .seq (strValues l).toArray},toks:=k}) (g:x.length+2≤p9),eo (GO f w) A (call (.builtin "str.split") [.str x t, .str y u]) Q E s:=by
 refine' eI10;intro Q u t y x s E A w f j h g;have o:(partsBetween x (occurrences x y 0 x.length (x.length+1)) y.length).length≤p9:=by
  have:=StrLaws.occ_length_le x y 0 x.length (x.length+1);rwa [J8 _ _ _];exact Lle [_,_] [Q0 (.a V0 Z4) (.c 16777216),Q0 V1 (.a V0 Z0)] 0 (.a V1 Z0) (.c 16777216) rfl g this
 have m:=F.args_str_split_2 (.str x t) (.str y u)
 by_cases h1:(decide (x.length < y.length)||decide (strKind x < strKind y))=true
 ·exact call_meets F.slot_str_split (typeIs_str _ _ _) F.entry_str_split m (meets_str_split_cannot_occur x y t u h1) (h [(x,t)] s.toks (if_pos h1).symm)
 have n:=h1;rw [Bool.not_eq_true]at h1
 by_cases i:(occurrences x y 0 x.length (x.length+1)).isEmpty=true
 ·exact call_meets F.slot_str_split (typeIs_str _ _ _) F.entry_str_split m (meets_str_split_not_found x y t u h1 j i) (h [(x,t)] s.toks ((if_neg n).trans (if_pos i)).symm)
 have p:=i;rw [Bool.not_eq_true]at i;refine call_meets F.slot_str_split (typeIs_str _ _ _) F.entry_str_split m (meets_str_split_sep x y t u h1 j i (by exact Lle [_] [Q0 (.a V0 Z4) (.c 16777216)] 0 V0 (.c 16777216) rfl g) o) ?_
 have:=h (numbered s.toks (partsBetween x (occurrences x y 0 x.length (x.length+1)) y.length)) (s.toks+(partsBetween x (occurrences x y 0 x.length (x.length+1)) y.length).length) ((numbered_texts _ _).trans ((if_neg n).trans (if_neg p)).symm);rw [←strsFrom_eq]at this;exact this
theorem dI(H:ac c e b d s){i:Nat}{a:cv}{o o':AO}{s':dd}(v:b[i]? =some a)(u:d[i]? =some o)(m:o.live=true)
 (k:HH a s.heap s'.heap)(p:s'.gens=s.gens)(g:s'.os=s.os)(q:1≤s'.toks)
 (l:∀F,Le (aa c.d b d s.heap) F→AOk c.prog c.w F b s'.heap a o'){j:Type}{R:aA→List cv→j→Prop}{x:j}(r:∀F,Le (aa c.d b d s.heap) F→R F b x):aF c e b d s (d.set i o') R x s':=by
 refine ai (H.rep.upd (o':=o') (s':=s') v u m (λf w n h=>(k.2 f n).trans h) (Ha k.1.symm) p g (λL=>l _ L)) λt X=> ?_;exact⟨b,⟨t,q,H.fr,H.cl⟩,X,r _ X.froz⟩
end
end Mine
end
namespace Mine
noncomputable def iM(K:Gw)(C:cv)(n:Str):Bool:=
 JN K C n&&(JR K C&&((Ih K (.ref C) n==some none)&&((Ih K (.ref C) "__setattr__"==some (some (.builtin "object.__setattr__")))&&plainOver K C)))
noncomputable def jV(K:Gw)(C:cv)(n:Str)(f:cv):Bool:=JN K C n&&((Ih K (.ref C) n==some (some (.ref f)))&&isFn K (.ref f))
noncomputable def eZ(K:Gw)(C:cv)(n:Str):Bool:=
 JN K C n&&(JR K C&&(plainOver K C&&((Ih K (.ref C) "__setattr__"==some (some (.builtin "object.__setattr__")))&&(takerIn K C n==some none&&(match Ih K (.ref C) n with
  |some (some a)=>typeIn K a==some (.type "function")&&(takesIn K a==some false&&(specialIn K a "__get__").any (·.isSome))
  |_=>false)))))
structure sJ(K:Gw)(cfg:Cfg):Prop where
 meths:∀C n f,lkM C n cfg.meths=some f→jV K C n f=true
 plain:∀C n,jZ C n cfg.plain=true→iM K C n=true
 owns:∀n C g m spec,lkS n cfg.owns=some (C,g,m,spec)→eZ K C n=true
 sets:∀n C,lkS n cfg.sets=some C→eZ K C n=true
structure aG(c:Cx)(cfg:Cfg):Prop where
 ok:cZ c cfg
 tab:∃K:Gw,(∀a o,K.lookup a=some o→c.d.B a o)∧sJ K cfg
 fns:∀f n spec,lkN f cfg.fns=some (n,spec)→aI c f n spec
 wns:∀x g spec,lkS x cfg.wns=some (g,spec)→FnW c g spec
 owns:∀n C g m spec,lkS n cfg.owns=some (C,g,m,spec)→aI c g m spec
 props:∀C n k,lkM C n cfg.props=some k→∀(ρ:KB) (mu:KM) (s:dd) (i j:Nat) (fs:KL) (v:V) (a:cv),ac c cfg ρ mu s→mu[i]? =some (.inst C j)→mu[j]? =some (.ns fs)→lk k fs=some v→ρ[i]? =some a→
  eo c.M c.A (getAttr (.ref a) n true) (aF c cfg ρ mu s mu λF ρ x=>Val F ρ v x) NoE s
section
variable{c:Cx}{a:Cfg}{b:KB}{d:KM}{s:dd}
theorem nX{k n:Str}{t:Tok}:(da.str k t).isStr n=af n k:=by
 show(k==n)=af n k
 by_cases h:n=k
 ·(rwa [aB.mpr h,beq_iff_eq.mpr h.symm];rfl)
 ·have h1:af n k=false:=ee h
  (rwa [h1,beq_eq_false_iff_ne.mpr λe=>h e.symm];rfl)
theorem se{P:ed}{F:aA}:∀{l:KL} {f:List IY},en P F b l f→f.any (·.refKey)=false:=by
 intro j
 induction j with
 |nil=>
  intro f h;rwa [show f=[]from h];rfl
 |cons i l g=>
  obtain⟨k,x⟩:=i;intro _ e;(refine jz e ?_;clear e;intro t v r h1 m h3);subst h1;rwa [JI,g h3];rfl
theorem hY{P:ed}{F:aA}{n:Str}:∀{o:KL} {i:List IY},en P F b o i→
 match lk n o with
 |some x=>∃v,getL n i=some (some v)∧Val F b x v
 |none=>getL n i=some none:=by
 intro l
 induction l with
 |nil=>
  intro i h;rwa [show i=[]from h];rfl
 |cons m o j=>
  obtain⟨k,x⟩:=m;intro _ g;(refine jz g ?_;clear g;intro t v r h1 h2 h3);subst h1;unfold lk;have f:∀y:List IY,(⟨Hf P k, .str k t,v⟩::y:List IY).find? (·.key.isStr n)=bif af n k then some ⟨Hf P k, .str k t,v⟩else y.find? (·.key.isStr n):=by
   intro y;rwa [List.find?_cons,nX];cases af n k<;>rfl
  cases q:af n k with
  |true=>
   refine⟨v, ?_,h2⟩;unfold getL;rwa [f _,q];rfl
  |false=>
   have p:=j h3;have e:getL n (⟨Hf P k, .str k t,v⟩::r)=getL n r:=by
    unfold getL;(rwa [f _,q];rw [JI]);rfl
   dsimp only [cond];rwa [e];exact p
theorem jt{F:aA}{x:V}{v:da}(h:Val F b x v):handedIn v=true:=by
 induction x using Mine.V.casesOn with
 |none=>cases h;rfl
 |bool=>cases h;rfl
 |int=>(refine au h ?_;clear h;intro f e;subst e);rfl
 |str=>(refine au h ?_;clear h;intro f e;subst e);rfl
 |type=>cases h;rfl
 |blt id=>cases h;induction id<;>decide+kernel
 |adr=>cases h;rfl
 |ref=>(refine ab h ?_;clear h;intro f f e;subst e);rfl
 |ftup=>(refine xf h ?_;clear h;intro f f f f e f;subst e);rfl
 |flist=>(refine xf h ?_;clear h;intro f f f f e f;subst e);rfl
 |fstrs=>(refine xf h ?_;clear h;intro f f f f e f;subst e);rfl
theorem ac.inst:∀{i j:Nat} {C:cv} {l:KL} {e:cv} (H:ac c a b d s) (m:d[i]? =some (.inst C j)) (o:d[j]? =some (.ns l)) (p:b[i]? =some e),∃f k g n,b[j]? =some f∧InstAt s.heap e ⟨.ref C,some f, .plain,k⟩ C (some (dictOf g n))∧s.heap.get? f=some (dictOf g n)∧en c.w.params (aa c.d b d s.heap) b l g:=by
 revert c a b d s;refine' eI10;intro e l C j i s d b a c H m o p;refine aS (H.rep.objs _ _ _ p m) λf k h1 h2=> ?_;(refine aS (H.rep.objs _ _ _ h2 o) λh n h3 q=> ?_;obtain⟨g⟩:=h);exact(FN f k g n h2 ⟨h1,rfl,rfl,h3⟩ h3 q)
theorem jd{K:Gw}{C:cv}{n:Str}(h:iM K C n=true):JN K C n=true∧JR K C=true∧Ih K (.ref C) n=some none∧Ih K (.ref C) "__setattr__"=some (some (.builtin "object.__setattr__"))∧plainOver K C=true:=by
 unfold iM at h;simp only [lq,beq_iff_eq]at h;exact(lJ h.1 h.2.1 h.2.2.1 h.2.2.2.1 h.2.2.2.2)
theorem ul{K:Gw}{C:cv}{n:Str}{f:cv}(h:jV K C n f=true):JN K C n=true∧Ih K (.ref C) n=some (some (.ref f))∧isFn K (.ref f)=true:=by
 unfold jV at h;simp only [lq,beq_iff_eq]at h;exact(cB h.1 h.2.1 h.2.2)
theorem xb:∀{i j:Nat} {C f:cv} {h:KL} {n:Str} {v:V} (G:aG c a) (H:ac c a b d s) (q:d[i]? =some (.inst C j)) (r:d[j]? =some (.ns h)) (t:b[i]? =some f) (k:jZ C n a.plain=true) (p:lk n h=some v),eo c.M c.A (getAttr (.ref f) n true) (aF c a b d s d λF b x=>Val F b v x) NoE s:=by
 revert c a b d s;refine' eI12;intro v n h f C j i s d b a c G H q r t k p;refine ab G.tab λK D T=> ?_;have X:K.In s.heap:=λf o e=>H.rep.base _ _ (D f o e);refine nv (H.inst q r t) λJ L N m h1 I h2 E=> ?_;refine fK (jd (T.plain C n k)) λz y B w w=> ?_;have g:=hY (n:=n) E;rw [p]at g;(refine ab g ?_;clear g;intro u A l);exact get_value X I (JE z).1 (findObj_own y B rfl A) (jt l) (H.post rfl rfl rfl (oa H.tk) l)
theorem uj(G:aG c a)(H:ac c a b d s){i j:Nat}{C k f:cv}{l:KL}{n:Str}{r:Hk Bool}{Q:da×List da→dd→Prop}(u:d[i]? =some (.inst C j))(x:d[j]? =some (.ns l))(z:b[i]? =some k)(q:lkM C n a.meths=some f)(t:lk n l=none)
 (h:Q (.ref f,[.ref k]) s):eo c.M c.A (JQ (.ref k) n r) Q NoE s:=by
 refine ab G.tab λK A T=> ?_;have X:K.In s.heap:=λk o e=>H.rep.base _ _ (A k o e);refine nv (H.inst u x z) λB D y m h1 I h2 E=> ?_;refine ax (ul (T.meths C n f q)) λp v w=> ?_;have g:=hY (n:=n) E;rw [t]at g;exact method_fn X I (JE p).1 (JE p).2 v (beq_iff_eq.mp w) (by show(lookIn n (dictOf y m)).map _=_;rwa [lookIn_dict _ _ _,g];rfl) h
theorem n7{P:ed}{F j:aA}{n:Str}{v:V}{u:da}{t:Tok}(L:Le F j)(p:Val j b v u):∀{o:KL} {f:List IY},en P F b o f→en P j b (bS n v o) (putL n (Hf P n) (.str n t) u f):=by
 intro l
 induction l with
 |nil=>
  intro f h;rwa [show f=[]from h];exact⟨t,u,[],rfl,p,rfl⟩
 |cons m o g=>
  obtain⟨k,x⟩:=m;intro _ e;(refine jz e ?_;clear e;intro y w r h1 h2 h3);subst h1;unfold bS putL;rwa [nX];cases q:af n k with
  |true=>
   exact⟨y,u,r,rfl,p,en.mono L (λi i h=>h) _ _ h3⟩
  |false=>exact⟨y,w,_,rfl,Val.mono L (λi i h=>h) _ _ h2,g h3⟩
theorem wS{P:ed}{F:aA}:∀{j:KL} {e:List IY},en P F b j e→e.length=j.length:=by
 intro i
 induction i with
 |nil=>
  intro e h;rwa [show e=[]from h];rfl
 |cons g j f=>
  obtain⟨k,x⟩:=g;intro _ l;(refine jz l ?_;clear l;intro t v r h1 h2 h3);exact by subst h1;(rwa [ix,ix,f h3];rfl)
theorem vW(n:Str)(v:V):∀g:List (Str×V),(bS n v g).length≤g.length+1:=by
 intro h
 induction h with
 |nil=>
  exact fx _
 |cons f g e=>
  obtain⟨k,x⟩:=f;unfold bS;cases af n k with
  |true=>exact GL _
  |false=>exact GB (e)
theorem n9:∀{K:Gw} {i j:Nat} {C k:cv} {w:KL} {n:Str} {v:V} {u:da} (U:∀k o,K.lookup k=some o→c.d.B k o) (H:ac c a b d s) (B:d[i]? =some (.inst C j)) (A:d[j]? =some (.ns w)) (R:b[i]? =some k) (D:JR K C=true) (T:Ih K (.ref C) "__setattr__"=some (some (.builtin "object.__setattr__"))) (J:plainOver K C=true) (G:takerIn K C n=some none) (O:w.length≤900) (y:Val (aa c.d b d s.heap) b v u),eo c.M c.A (setAttr (.ref k) n u) (aF c a b d s (d.set j (.ns (bS n v w))) λp p p=>True) NoE s:=by
 revert c a b d s;refine' eI14;intro u v n w k C j i K s d b a c U H B A R D T J G O y;have X:K.In s.heap:=λk o e=>H.rep.base _ _ (U k o e);refine nv (H.inst B A R) λx sl q m h1 I h2 E=> ?_;obtain⟨r,g,f,t,os⟩:=s;refine set_plain X I T (osa_open (s:=⟨r,g,f,t+1,os⟩) X I J G λl=> ?_);refine ab (any_some D) λcd hc z=> ?_;have Y:=I.at_;refine dV (eM (dV (dV (Jq Y (dV (Hz.here (s:=⟨r,g,f,t+1,os⟩) (looks_clsIn (h:=r) X hc) ?_))))));rwa [z];refine eM (a:=some x) (dV (eM (dV ?_)));refine dV (dV (wpAny_askSetting (eM (dV (wpAny_mkText (dV (Jq h2 ?_)))))));have cc:(!q.toArray.any (·.key.isStr n)&&q.toArray.any (·.refKey))=false:=by
  (rwa [←It,←It,se E,Bool.and_false _];rfl)
 dsimp only;rwa [aRefKeyMayBeTheName_at _ _,cc];refine wpAny_updatePart h2 ?_;have N:(Hn.putName n (Hf c.w.params n) (.str n (t+1)) u (dictOf q m))=dictOf (putL n (Hf c.w.params n) (.str n (t+1)) u q) (putN n q m):=putName_dict ..;have P:(r.update x (Hn.putName n (Hf c.w.params n) (.str n (t+1)) u)).get? x=some (dictOf (putL n (Hf c.w.params n) (.str n (t+1)) u q) (putN n q m)):=by
  rwa [←N];exact HD _ h2 (by rwa [N];rfl)
 have W:(putL n (Hf c.w.params n) (.str n (t+1)) u q).length≤901:=by
  have e1:=wS (n7 (n:=n) (t:=t+1) (λp p p h=>h) y E);have Z:=vW n v w;exact Lle [_,_,_] [Q0 V0 (.c 900),Q1 V1 V2,Q0 V2 (.a V0 Z0)] 0 V1 (.c 901) rfl O e1 Z
 refine dV (wpAny_lookBehind P (pastItsLine_dict (by rwa [List.size_toArray,HF];exact h9 W (by decide))) ?_)
 have hs:=Iv r x (Hn.putName n (Hf c.w.params n) (.str n (t+1)) u);refine eM (dI (s':=⟨_,g,f,t+2,os⟩) H h1 A rfl hs rfl rfl (oa (oa H.tk)) (λF L=> ?_) λp p=>trivial);exact⟨_,_,P,n7 L (Val.mono L (λp p h=>h) _ _ y) E⟩
theorem xa(G:aG c a)(H:ac c a b d s){i j:Nat}{C e:cv}{f:KL}{n:Str}{v:V}{u:da}(l:d[i]? =some (.inst C j))(r:d[j]? =some (.ns f))(t:b[i]? =some e)(h:jZ C n a.plain=true)
 (q:f.length≤900)(k:Val (aa c.d b d s.heap) b v u):
 eo c.M c.A (setAttr (.ref e) n u) (aF c a b d s (d.set j (.ns (bS n v f))) λg g g=>True) NoE s:=by
 refine ab G.tab λK x T=> ?_;refine fK (jd (T.plain C n h)) λy m p w o=> ?_;exact n9 x H l r t m w o (by unfold takerIn;rwa [p];rfl) q k
end
section
variable{c:Cx}{a:Cfg}{b:KB}{d:KM}{s:dd}
def mK(c:Cx)(u:da)(e:Str)(s:dd)(k:MK):Prop:=∀(f:Hk Bool) (Q:da×List da→dd→Prop),Q (k.fnV,[u]) s→eo c.M c.A (JQ u e f) Q NoE s
theorem ev{c:Cx}{u:da}{e n:Str}{s:dd}{k:MK}{y:Option MK}(h:mK c u n s k)(g:OW y (mK c u e s)):OW (bif af e n then some k else y) (mK c u e s):=BS (λq=>by rwa [aB.mp q];exact h) g
theorem qH{f:cv}{g:Str}{k:Array da}{n:Nat}(i:s.heap.get? f=some {cls:= .type "list",data:= .seq k n}):OW (rM g) (mK c (.ref f) g s):=
 ev (λj j h=>IG ⟨_,i,rfl⟩ PySem.F.plainAttrs_list PySem.F.slot_list_append PySem.F.type_list_append (λf e=>by obtain rfl:=HT e;exact(ah _ i rfl)) h)
  (ev (λj j h=>IG ⟨_,i,rfl⟩ PySem.F.plainAttrs_list PySem.F.slot_list_pop PySem.F.type_list_pop (λf e=>by obtain rfl:=HT e;exact(ah _ i rfl)) h) trivial)
theorem mn:∀{v:V} {u:da} {name:Str} (G:aG c a) (H:ac c a b d s) (m:Val (aa c.d b d s.heap) b v u),OW (fX a v name d) (mK c u name s):=by
 revert c a b d s;refine' eI8;intro name u v s d b a c G H m
 induction v using Mine.V.casesOn with
 |str x=>
  (refine au m ?_;clear m;intro t l;subst l);exact ev (λj j h=>GM.startswith h) (ev (λj j h=>GM.endswith h) (ev (λj j h=>GM.rfind h) (ev (λj j h=>GM.rstrip h) (ev (λj j h=>GM.split h) (ev (λj j h=>GM.join h) trivial)))))
 |ref i=>
  (refine ab m ?_;clear m;intro g z l;subst l);refine pr λo y=> ?_;have k:=H.rep.objs _ _ _ z y
  induction o with
  |list r=>(refine aS k ?_;clear k;intro p n k j);exact qH k
  |«strs» r=>(refine aS k ?_;clear k;intro p n k j);exact qH k
  |dict q=>
   (refine ab k ?_;clear k;intro B w j);exact ev (λj j h=>IG w.typeIs PySem.F.plainAttrs_dict PySem.F.slot_dict_get PySem.F.type_dict_get w.mapOf.noDict h) trivial
  |deque r=>
   (refine dW k ?_;clear k;intro st F p k j);exact ev (λj j h=>jv k h) (ev (λj j h=>g9 k h) trivial)
  |inst C e=>
   refine pr λo D=> ?_
   induction o with
   |ns q=>
    dsimp only;cases A:lk name q with
    |some _=>trivial
    |none=>
     cases E:lkM C name a.meths with
     |none=>trivial
     |some f=>exact λj j h=>uj G H y D z E A h
   |_=>trivial
  |_=>trivial
 |_=>trivial
end
section
variable{c:Cx}{b:Cfg}{a:KB}{d:KM}{s:dd}
theorem KVs.valueAt{F:aA}{k:Str}:∀{o:KL} {f:List (Str×da)},KVs F a o f→
 match lk k o with
 |some x=>∃v,Ib f k=some v∧Val F a x v
 |none=>Ib f k=none:=by
 intro l
 induction l with
 |nil=>
  intro f h;rwa [show f=[]from h];rfl
 |cons m o i=>
  obtain⟨n,x⟩:=m;intro _ g;(refine bg g ?_;clear g;intro v r h1 h2 h3);subst h1;unfold lk;cases q:af k n with
  |true=>
   obtain rfl:=aB.mp q;refine⟨v, ?_,h2⟩;unfold Ib;rwa [List.find?_cons,decide_eq_true rfl];rfl
  |false=>
   have j:¬n=k:=λe=>by rw [aB.mpr e.symm]at q;exact tfB q
   have e:Ib ((n,v)::r) k=Ib r k:=by
    unfold Ib;(rwa [List.find?_cons,decide_eq_false j];rfl)
   dsimp only [cond];rwa [e];exact i h3
theorem lW:∀{f:KH} {e:KA},Gq f e→e≠[]→∃t,f.getLast? =some (.str (e.getLastD GZ) t)∧Gq f.dropLast e.dropLast
 :=by
  intro f e h
  induction h with
  |nil=>exact λh=>absurd rfl h
  |cons y t r g=>
   intro _;cases r with
   |nil=>exact(ah t rfl .nil)
   |cons j i r=>
    refine ab (g (Hq _ _)) λu h1 h2=> ?_;exact(ah u ((Jx).trans h1) (.cons y t h2))
theorem jG{F:aA}:∀{i:KN} {k:KH} {v:V},Vals F a i k→i.getLast? =some v→∃u,k.getLast? =some u∧Val F a v u∧Vals F a i.dropLast k.dropLast
 |[x],_,_,⟨u,r,h1,h2,h3⟩,e=>by
  obtain rfl:=ds e;subst h1;rwa [show r=[]from h3];exact(iA u rfl h2 rfl)
 |x::y::i,_,v,⟨u,r,h1,h2,h3⟩,e=>by
  subst h1;refine eh (jG h3 ((Jx).symm.trans e)) λw h f g=> ?_;(refine aS h3 ?_;clear h3;intro z m j l;subst j);exact⟨w,(Jx).trans h,f,u,_,rfl,h2,g⟩
theorem Vals.one{F:aA}{x:V}{e:KH}(h:Vals F a [x] e):∃u,e=[u]∧Val F a x u:=by
 (refine bg h ?_;clear h;intro u r h1 h2 h3);rw [show r=[]from h3]at h1;exact(ah u h1 h2)
theorem Vals.two:∀{F:aA} {x y:V} {f:KH} (h:Vals F a [x,y] f),∃u v,f=[u,v]∧Val F a x u∧Val F a y v:=by
 revert a;refine' eI5;intro f y x F a h;(refine bg h ?_;clear h;intro u r h1 h2 h3);(refine ab (Vals.one h3) λv e g=> ?_;subst e);exact(ff u v h1 h2 g)
theorem om{its:Array da}(n:Nat)(f:0 < its.size):∃k,Hn.mapSeq (λe=>e.eraseIdxIfInBounds 0) {cls:= .type "list",data:= .seq its n}={cls:= .type "list",data:= .seq (its.eraseIdxIfInBounds 0) k}:=by
 exact⟨_,rfl⟩
theorem uG{s:dd}{e:cv}{j:da}{f:KH}{n:Nat}{t:Tok}{g:A8}{w:Gv}{A:GI}{E:KD}{Q:KD}(l:s.heap.get? e=some {cls:= .type "list",data:= .seq (j::f).toArray n})(o:f.length+1≤p9)
 (h:∀m k,HH e s.heap m→m.get? e=some {cls:= .type "list",data:= .seq f.toArray k}→Q j {s with heap:=m}):eo (GO g w) A (call (.builtin "list.pop") [.ref e, .int 0 t]) Q E s:=by
 refine au (om (its:=(j::f).toArray) n (by simp)) λk i=> ?_
 refine call_meets PySem.F.slot_list_pop ⟨_,l,rfl⟩ PySem.F.entry_list_pop (PySem.F.args_list_pop_2 _ _) (PySem.MeetsSeq.list_pop_at e _ n (ct 0) t 0 j (by decide) (by unfold G5;simp) (by rfl) (by trivial)) ⟨l, ?_⟩
 refine h _ k (Iv ..) ?_;rwa [HD _ l (by rw [i];rfl),i]
 simp
theorem uk:∀{p:nR} {k:MK} {v:V} {u:da} {xs:KN} {us:KH} (G:aG c b) (H:ac c b a d s) (O:Val (aa c.d a d s.heap) a v u) (J:Vals (aa c.d a d s.heap) a xs us),(mY b p k v xs d).W λr a5=>eo c.M c.A (call k.fnV (u::us)) (aF c b a d s a5 λF a x=>Val F a r x) NoE s:=by
 revert c b a d s;refine' eI11;intro us xs u v k p s d a b c G H O J;have N:=H.tk
 induction k with
 |startswith=>exact cj O λx t e=>eu J λy w B E=>cj E λy t' K A=>by subst e B K;exact SC.startswith (H.post rfl rfl rfl N rfl)
 |endswith=>exact cj O λx t e=>eu J λy w B E=>cj E λy t' K A=>by subst e B K;exact SC.endswith (H.post rfl rfl rfl N rfl)
 |rfind=>exact cj O λx t e=>eu J λy w B E=>cj E λy t' K A=>by subst e B K;exact SC.rfind (H.post rfl rfl rfl (oa N) ⟨_,rfl⟩)
 |rstrip=>exact cj O λx t e=>eu J λy w B E=>cj E λy t' K p=>by subst e B K;exact dO N (SCL.rstripChars (hsz:=p.1) λt' k A ht=>H.post rfl rfl rfl ht ⟨_,rfl⟩)
 |split=>
  refine cj O λx t e=>eu J λy w B E=>cj E λy t' K p=> ?_;subst e B K;exact dO N (rn p.1 (λl k hl ht=>fC (s':={s with heap:=s.heap.push {cls:= .type "list",data:= .seq (strValues l).toArray},toks:=k}) H rfl rfl rfl rfl ht λF hF L=>⟨_,_,_,0,rfl,hF,rfl,rfl,hl▸kR l⟩) p.2.1)
 |join=>
  refine cj O λx t e=>eu J λy w B E=>jL H E λj D ys K hl C p=> ?_;subst e B K;exact dO N (join_listC hl C p.1 p.2.1 λt' k ht=>H.post rfl rfl rfl ht ⟨_,rfl⟩)
 |append=>
  refine fW H O λi j o e Y Z m=>eu J λy0 y B E=> ?_;subst e B
  induction o with
  |list I=>
   intro p;(refine aS m ?_;clear m;intro D n m C);refine append_at m (λT U P=>dI (s':={s with heap:=T}) (R:=λF a x=>Val F a V.none x) (o':= .list (I++[y0])) H Y Z rfl U rfl rfl N (λF L=>⟨_,_,P, ?_⟩) λA A=>rfl) (by rwa [←iy,Vals.len _ _ C];exact p.1)
   rwa [Array.toList_push];exact Vals.append (Vals.mono L (λA A h=>h) _ _ C) ⟨y,[],rfl,Val.mono L (λA A h=>h) _ _ E,rfl⟩
  |«strs» I=>
   refine cj E λz t e p=> ?_;subst e;(refine aS m ?_;clear m;intro D n m C);refine append_at m (λT U P=>dI (s':={s with heap:=T}) (R:=λF a x=>Val F a V.none x) (o':= .strs (I++[z])) H Y Z rfl U rfl rfl N (λF L=>⟨_,_,P, ?_⟩) λA A=>rfl) (by rwa [←iy,cg C];exact p.1)
   rwa [Array.toList_push];exact mQ C (.cons z t .nil)
  |_=>trivial
 |pop=>
  refine fW H O λi j o e Y Z m=> ?_;subst e
  induction xs using kv with
  |nil=>
   cases J
   induction o with
   |«strs» I=>
    intro p;(refine aS m ?_;clear m;intro D n m C);refine ab (lW C p.1) λt h1 h2=> ?_;refine Copied.pop_at m (by rwa [←GE,←iy,←Jd];exact h1) (λT U P=>dI (s':={s with heap:=T}) (R:=λF a x=>Val F a (.str (I.getLastD GZ)) x) (o':= .strs I.dropLast) H Y Z rfl U rfl rfl N (λF L=>⟨_,_,P, ?_⟩) λA A=>⟨t,rfl⟩)
     (by rwa [←iy,cg C];exact p.2.1)
    rwa [Array.toList_pop];exact h2
   |list I=>
    refine xA λp=>lR λr q=> ?_;(refine aS m ?_;clear m;intro D n m C);refine eh (jG C q) λy h1 h2 h3=> ?_;refine Copied.pop_at m (by rwa [←GE,←iy,←Jd];exact h1) (λT U P=>dI (s':={s with heap:=T}) (R:=λF a x=>Val F a r x) (o':= .list I.dropLast) H Y Z rfl U rfl rfl N (λF L=>⟨_,_,P, ?_⟩) λF L=>Val.mono L (λA A h=>h) _ _ h2)
     (by rwa [←iy,Vals.len _ _ C];exact p.1)
    rwa [Array.toList_pop];exact Vals.mono L (λA A h=>h) _ _ h3
   |_=>trivial
  |cons z r=>
   (refine bg J ?_;clear J;intro w q a4 hz hr;subst a4);refine mj hr λe=>eI hz λz t B=>eJ λK=> ?_;subst e B;obtain rfl:=Int.natAbs_eq_zero.mp (ui K)
   induction o with
   |list ys=>
    (refine aS m ?_;clear m;intro a4 n m C;obtain⟨D⟩:=a4);refine js C λy ys v0 a0 e h2 h3 p=> ?_;have e:D=v0::a0:=e;subst e;exact uG m (by rwa [Vals.len _ _ h3];exact p.1) λT k U P=>dI (s':={s with heap:=T}) (o':= .list ys) H Y Z rfl U rfl rfl N (R:=λF a x=>Val F a y x) (λF L=>⟨_,k,P,Vals.mono L (λA A h=>h) _ _ h3⟩) λF L=>Val.mono L (λA A h=>h) _ _ h2
   |_=>trivial
 |get=>
  refine fW H O λi j o e Y Z m=>oB J λk' dflt w y B hk E=>cj hk λk' t' K=> ?_;subst e B K
  induction o with
  |dict fs=>
   refine lR λr q=> ?_;(refine ab m ?_;clear m;intro a9 hd hk);refine call_meetsIn PySem.F.slot_dict_get hd.typeIs PySem.F.entry_dict_get (PySem.F.args_dict_get_3 _ _ _) (meets_dict_get_default _ j (Jr _ _ k' t') (H.rep.new j (lf Y)).2.2.2 y) (ah _ hd.mapOf ?_);refine H.post rfl rfl rfl (oa N) ?_;have g:=KVs.valueAt (k:=k') hk;cases hl:lk k' fs with
   |none=>rw [hl]at g q;obtain rfl:=ds q;dsimp only at g;rwa [g];exact E
   |some x=>rw [hl]at g q;obtain rfl:=ds q;(refine ab g ?_;clear g;intro w h1 h2);rwa [h1];exact h2
  |_=>trivial
 |popleft=>
  refine fW H O λi j o e Y Z m=>mj J λB=> ?_;subst e B
  induction o with
  |deque ys=>
   (refine dW m ?_;clear m;intro st N D m C);refine js C λy ys v0 a0 e h2 h3 p=> ?_;subst e;exact sg m (by rwa [Vals.len _ _ h3];exact p.1) λT a6 a7 U P=>dI (s':={s with heap:=T}) (R:=λF a x=>Val F a y x) (o':= .deque ys) H Y Z rfl U rfl rfl H.tk (λF L=>⟨_,_,_,P,Vals.mono L (λA A h=>h) _ _ h3⟩) λF L=>Val.mono L (λA A h=>h) _ _ h2
  |_=>trivial
 |appendleft=>
  refine fW H O λi j o e Y Z m=>eu J λy0 y B E=> ?_;subst e B
  induction o with
  |deque ys=>
   intro p;(refine dW m ?_;clear m;intro st N D m C);exact on m (by rwa [Vals.len _ _ C];exact p.1) λT a6 a7 U P=>dI (s':={s with heap:=T}) (R:=λF a x=>Val F a V.none x) (o':= .deque (y0::ys)) H Y Z rfl U rfl rfl H.tk (λF L=>⟨_,_,_,P,⟨y,D,rfl,Val.mono L (λA A h=>h) _ _ E,Vals.mono L (λA A h=>h) _ _ C⟩⟩) λA A=>rfl
  |_=>trivial
 |fn f=>exact cM λz hf=>np (G.fns f z.1 z.2 hf) H ⟨u,us,rfl,O,J⟩
end
section
variable{a:A8}{w:Gv}{A:GI}
theorem sub_str_str:Kk (.type "str") (.type "str")=pure true:=F.sub_str_str
theorem wB{E:KD}{s:dd}{b:Int}{d:Tok}{Q:Fin→dd→Prop}(f:Q (.done (.ret (.bool true))) s):
 eo (GO a w) A (I9.«issubclass.nested» ⟨[.type "str", .type "str", .int b d],[]⟩) Q E s:=by
 have c:typeOf (.type "str")=pure (.type "type"):=F.isi_meta_str;have e:=sub_str_str
 repeat (any_goals (first|assumption|(rw [c])|(rw [e])|wp_step))
theorem uv:builtinKind "issubclass.nested"=none:=by decide+kernel
theorem ry:plainId "issubclass.nested"=true:=by decide+kernel
theorem qv(d b c:da):JX "issubclass.nested" ⟨[d,b,c],[]⟩:=by unfold JX;kernel_rfl
theorem wA{E:KD}{s:dd}{f:cv}{c e:KH}{n:Nat}{k:Option cv}{l:Array (Option da)}{Q:KD}(o:c= .type "str"::e)(j:s.heap.get? f=some ⟨.type "tuple",k, .seq c.toArray n,l⟩)(q:Q (.bool true) s):
 eo (GO a w) A (call (.builtin "issubclass") [.type "str", .ref f]) Q E s:=by
 refine call_issubclass (S:=λb R s=>s.heap.get? f=some ⟨.type "tuple",k, .seq c.toArray n,l⟩∧R (.ok (.ret (.bool true))) s) (λb b b b s i=>issubclass_outer ?_) ⟨j,q⟩;obtain⟨h,g,d,t,os⟩:=s;(refine ai i ?_;clear i;intro h1 h2);have p:(⟨h,g,d,t,os⟩:dd).TypeIs (.ref f) "tuple":=⟨_,h1,rfl⟩;have r:=F.isi_sub_tuple
 repeat (any_goals (first|assumption|wp_step))
 refine wpAny_arrayLoop ?_;simp only [Option.getD_some,List.toList_toArray];rwa [o,List.forIn_cons _ _ _ _];refine dV (dV (call_function_meets uv ry F.entry_issubclass_nested (qv _ _ _) (S:=λb R s=>R (.ok (.ret (.bool true))) s) (λb b b b s i=>wB i) ?_));show eo _ _ (JY (.bool true)>>=_) _ _ _;refine dV (m:=JY (.bool true)) (eM ?_);exact dV (eM (eM (eM (eM h2))))
end
end Mine
section
set_option backward.match.sparseCases false
namespace Mine
def rr{a:Type}(v:V)(b:KM)(k:Nat→AO→Res a):Res a:=match v with
 | .flist xs=>k xs.length (.list xs)
 | .fstrs xs=>k xs.length (.strs xs)
 | .ref i=>atO b i λo=>match o with
  | .list xs=>k xs.length (.list xs)
  |_=> .err ""
 |_=> .err ""
noncomputable def zi(t:V)(a:KM):Res V:=match t with
 | .type t=>(match t with
  | .bytes=> .ok [] (.bool false) a
  | .str=> .ok [] (.bool true) a
  |_=> .err "")
 |_=> .err ""
noncomputable def t9{a:Type}(v:V)(k:Ty→Res a):Res a:=match v with
 | .type t=>k t
 |_=> .err ""
def m9{a:Type}(v:V)(k:Res a):Res a:=t9 v λt=>match t with
 | .str=>k
 |_=> .err ""
def uP(b:Bl)(c:KN)(d:KM):Res V:=match b with
 | .len=>one c λv=>match v with
  | .str x=> .ok [x.length≤p9] (.int x.length) d
  |v=>rr v d λn e=> .ok [n≤p9] (.int n) d
 | .isinstance=>two c λv t=>b9 v λe=>zi t d
 | .issubclass=>two c λv t=>m9 v (match t with
  | .ftup xs=>hdL xs λx e=>m9 x (.ok [] (.bool true) d)
  |_=> .err "")
 | .divmod=>two c λa b=>d5 a λa=>d5 b λb=> .ok [b≠0,b.natAbs < 1073741824] (.ftup [.int (a.fdiv b), .int (a.fmod b)]) d
def sS(t:Ty)(a:KN)(b:KM):Res V:=match t with
 | .type_=>one a λv=>(match v with
  | .str _=> .ok [] (.type .str) b
  | .int _=> .ok [] (.type .int) b
  |_=> .err "")
 | .int=>one a λv=>d5 v λi=> .ok [] (.int i) b
 | .str=>one a λv=>d5 v λi=> .ok [i.natAbs.log2 < 1920] (.str (Jk i)) b
 | .list=>one a λv=>rr v b λn o=> .ok [n≤p9] (.ref b.length) (b++[o])
 | .deque=>mW a (.ok [] (.ref b.length) (b++[.deque []]))
 |_=> .err ""
def si(e:Cfg)(f:V)(c:KN)(d:KM):Res V:=match f with
 | .blt b=>uP b c d
 | .type t=>sS t c d
 | .adr a=>onO (lkN a e.fns) λz=>oI z.1 z.2 c d
 |_=> .err ""
section
variable{c:Cx}{d:Cfg}{b:KB}{e:KM}{s:dd}
theorem ac.alloc(H:ac c d b e s){a:cv}{o:AO}{s':dd}(i:s.heap.objs.size≤a)(l:a < s'.heap.objs.size)(r:∀f m,s.heap.get? f=some m→s'.heap.get? f=some m)
 (p:s'.gens=s.gens)(k:s'.os=s.os)(q:1≤s'.toks)
 (n:∀F g,Le (aa c.d b e s.heap) F→Pre b g→AOk c.prog c.w F g s'.heap a o):aF c d b e s (e++[o]) (λF b x=>Val F b (.ref e.length) x) (.ref a) s':=by
 refine ai (H.rep.alloc (o:=o) i l r p k λL P=>n _ _ L P) λR X=> ?_;refine⟨b++[a],⟨R,q,X.pre _ _ H.fr,λx j h=>let⟨f,h1,h2⟩:=H.cl x j h;(ah f h1 (X.pre _ _ h2))⟩,X,a, ?_,rfl⟩;rwa [←H.rep.len,gv (fx _),GC _];rfl
theorem tv{A:Type}(H:ac c d b e s){v:V}{u:da}{k:Nat→AO→Res A}{T:A→List AO→Prop}(r:Val (aa c.d b e s.heap) b v u)
 (h:∀n z a o g m,u= .ref a→s.heap.get? a=some o→o.cls= .type "list"→o.data= .seq g m→g.size=n→
  (∀F p w,Le (aa c.d b e s.heap) F→Pre b p→∀f k,w.get? f=some {cls:= .type "list",data:= .seq g k}→AOk c.prog c.w F p w f z)→(k n z).W T):(rr v e k).W T:=by
 induction v using Mine.V.casesOn with
 |flist y=>
  (refine dJ r ?_;clear r;intro a o g m l j h1 h2 h3;subst l;(refine ax j ?_;clear j;intro x x q));exact h _ _ a o g m rfl q h1 h2 (iy.symm.trans (Vals.len _ _ h3)) λF p w L P f k t=>⟨g,k,t,Vals.mono L P _ _ h3⟩
 |fstrs y=>
  (refine dJ r ?_;clear r;intro a o g m l j h1 h2 h3;subst l;(refine ax j ?_;clear j;intro x x q));exact h _ _ a o g m rfl q h1 h2 (iy.symm.trans (cg h3)) λF p w L P f k t=>⟨g,k,t,h3⟩
 |ref i=>
  (refine ab r ?_;clear r;intro a C l;subst l);refine dN λo B=> ?_;have q:=H.rep.objs _ _ _ C B
  induction o with
  |list y=>
   (refine aS q ?_;clear q;intro g m q h3);exact h _ _ a _ g m rfl q rfl rfl (iy.symm.trans (Vals.len _ _ h3)) λF p w L P f k t=>⟨g,k,t,Vals.mono L P _ _ h3⟩
  |_=>trivial
 |_=>trivial
theorem qy{a:Type}{F:aA}{v:V}{u:da}{k:Res a}{T:a→List AO→Prop}(f:Val F b v u)(h:u= .type "str"→k.W T):(m9 v k).W T:=by
 induction v using Mine.V.casesOn with
 |type t=>induction t with
  |str=>exact h f
  |_=>trivial
 |_=>trivial
theorem w6:∀{g:Bl} {C:KN} {N:KH} (H:ac c d b e s) (A:Vals (aa c.d b e s.heap) b C N),(uP g C e).W λr j=>eo c.M c.A (call (.builtin g.nm) N) (aF c d b e s j λF b x=>Val F b r x) NoE s:=by
 revert c d b e s;refine' eI8;intro N C g s e b d c H A;have E:=H.tk
 induction g with
 |len=>
  refine eu A λv u f h=> ?_;subst f;have P:(rr v e λn i=> .ok [n≤p9] (.int n) e).W λr j=>eo c.M c.A (call (.builtin Bl.len.nm) [u]) (aF c d b e s j λF b x=>Val F b r x) NoE s:=
   tv H h λn i a o I m f J h1 h2 Z i p=>by subst f Z;exact call_len_list ⟨o,J,h1,m,h2⟩ (ij p.1) (H.post rfl rfl rfl (Gz 1 _) ⟨_,rfl⟩)
  induction v using Mine.V.casesOn with
  |str x=>(refine au h ?_;clear h;intro t q;subst q);exact λp=>SBL.len (ij p.1) (H.post rfl rfl rfl (Gz 1 _) ⟨_,rfl⟩)
  |_=>exact P
 |isinstance=>
  refine oB A λv t u w f h k=>cj h λx tt l=> ?_;subst f l
  induction t using Mine.V.casesOn with
  |type t=>induction t with
   |bytes=>cases k;exact λi=>IsiPair.str_bytes (H.post rfl rfl rfl (oa E) rfl)
   |str=>cases k;exact λi=>IsiPair.str_str (H.post rfl rfl rfl E rfl)
   |_=>trivial
  |_=>trivial
 |issubclass=>
  refine oB A λv t u w f h k=>qy h λl=> ?_;subst f l
  induction t using Mine.V.casesOn with
  |ftup ys=>
   (refine dJ k ?_;clear k;intro a q D n B z G K h3;obtain⟨oc,od,U,a0⟩:=q;obtain⟨I⟩:=D;subst B;(refine ax z ?_;clear z;intro i i J);subst G;subst K);exact js h3 λy r v0 O f R i=>qy R λl i=>by subst l;exact wA f J (H.post rfl rfl rfl E rfl)
  |_=>trivial
 |divmod=>
  refine oB A λv t u w f h k=>eI h λx tx l=>eI k λy ty Y p=> ?_;subst f l Y;refine divmod_int p.1 (fC (s':={s with toks:=s.toks+1+1,heap:=s.heap.push _}) H rfl rfl rfl rfl (Gz 1 _) λF T L=> ?_) (.inl (PyProof.noPylong_small p.2.1))
  exact⟨_,_,_,0,rfl,T,rfl,rfl,_,_,rfl,⟨_,rfl⟩,_,_,rfl,⟨_,rfl⟩,rfl⟩
theorem vd:∀{g:Ty} {C:KN} {G:KH} (H:ac c d b e s) (l:Vals (aa c.d b e s.heap) b C G),(sS g C e).W λr z=>eo c.M c.A (call (.type g.nm) G) (aF c d b e s z λF b x=>Val F b r x) NoE s:=by
 revert c d b e s;refine' eI8;intro G C g s e b d c H l;have j:=H.tk
 induction g with
 |type_=>
  refine eu l λv u f h=> ?_;subst f
  induction v using Mine.V.casesOn with
  |str x=>(refine au h ?_;clear h;intro t i;subst i);exact λA=>call_type_of (Tx:="str") rfl (by decide+kernel) (H.post rfl rfl rfl j rfl)
  |int x=>(refine au h ?_;clear h;intro t i;subst i);exact λA=>call_type_of (Tx:="int") rfl (by decide+kernel) (H.post rfl rfl rfl j rfl)
  |_=>trivial
 |int=>exact eu l λv u f h=>eI h λx t o A=>by subst f o;exact call_int_int (H.post rfl rfl rfl j ⟨_,rfl⟩)
 |str=>exact eu l λv u f h=>eI h λx t o p=>by subst f o;exact P.str_of_int p.1 (H.post rfl rfl rfl (oa j) ⟨_,rfl⟩)
 |list=>
  refine eu l λv u f h=>tv H h λn O a N I m o B h1 h2 J K p=> ?_;subst f o;exact call_list_seq a (.inl rfl) B h1 h2 (λy k E w=>H.alloc (s':={s with heap:=y}) (fx _) (wl w) E rfl rfl j λF q L P=>K F q y L P _ _ w) (by rwa [J];exact p.1)
 |deque=>
  refine mj l λf A=> ?_;subst f;exact Bs λy E D w=>H.alloc (s':={s with heap:=y}) (fx _) D E rfl rfl j λF q L P=>⟨_,_,[],w,rfl⟩
 |_=>trivial
theorem zF:∀{f:Fns} {p:nR} {g:V} {u:da} {t:List Expr} (G:aG c d) (O:bV c d f) (H:ac c d b e s) (q:Val (aa c.d b e s.heap) b g u),((dj f t e).bind λo m=>si d g o m).W λr m=>eo c.M c.A (Kb p u [] (H9 p (G8 t c.env)) []) (aF c d b e s m λF b x=>Val F b r x) NoE s:=by
 revert c d b e s;refine' eI10;intro t u g p f s e b d c G O H q
 induction g using Mine.V.casesOn with
 |blt i=>cases q;exact mB O jY H λo m y v n k X l=>(w6 k l).post X
 |type i=>cases q;exact mB O uw H λo m y v n k X l=>(vd k l).post X
 |adr a=>
  cases q;exact .of λj j j h A=>bB h A λL o m K J C E B=>(cM (T:=λr m=>eo c.M c.A (Kb p (.ref a) [] (H9 p (G8 t c.env)) []) (aF c d b e s m λF b x=>Val F b r x) NoE s) λz w=>
   .of λj j j I D=>dq O (G.fns a z.1 z.2 w).keep H J C λy v n k X l=>cU X ((np (G.fns a z.1 z.2 w) k l).use I D)).use E B
 |_=>exact .bind (.of λj j j j j=>trivial)
end
noncomputable def bY{a:Type}(b:List a)(i:Int):Option a:=(G5 i b.length).bind (b[·]?)
noncomputable def ci{a:Type}(l:List a)(lo b:Option Int):List a:=(l.drop (kms_lo lo l.length)).take (kms_hi b l.length -kms_lo lo l.length)
noncomputable def pk:V→Option (Option Int)
 | .none=>some none
 | .int i=>some (some i)
 |_=>none
def xI(a:Cfg)(p:nR)(v i:V)(b:KM):Res V:=match i with
 | .int k=>(match v with
  | .str x=> .ok [-(x.length:Int)≤k,k < x.length,x.length≤p9] (.str (I2 x k)) b
  | .flist xs=>pre [xs.length≤p9] (fR a p (bY xs k) b)
  | .fstrs xs=>pre [xs.length≤p9] (fR a p ((bY xs k).map .str) b)
  | .ref j=>atO b j λo=>match o with
   | .list xs=>pre [xs.length≤p9] (fR a p (bY xs k) b)
   | .strs xs=>pre [xs.length≤p9] (fR a p ((bY xs k).map .str) b)
   |_=> .err ""
  |_=> .err "")
 | .str k=>f7 v b λc o=>match o with
  | .dict fs=>fR a p (lk k fs) b
  |_=> .err ""
 |_=> .err ""
def tm(v lo a:V)(b:KM):Res V:=onO (pk lo) λlo=>onO (pk a) λa=>match v with
 | .str x=> .ok [x.length≤p9] (.str (i0 x lo a)) b
 | .flist xs=> .ok [xs.length≤p9] (.flist (ci xs lo a)) b
 | .fstrs xs=> .ok [xs.length≤p9] (.fstrs (ci xs lo a)) b
 | .ref j=>atO b j λo=>match o with
  | .strs xs=> .ok [xs.length≤p9] (.ref b.length) (b++[.strs (ci xs lo a)])
  |_=> .err ""
 |_=> .err ""
section
variable{c:Cx}{b:Cfg}{a:KB}{d:KM}{s:dd}
theorem Vals.get{F:aA}{j:Nat}{x:V}:∀{i:KN} {k:KH},Vals F a i k→i[j]? =some x→∃v,k[j]? =some v∧Val F a x v:=by
 intro g
 induction g generalizing j with
 |nil=>
  intro _ _ h;trivial
 |cons y i f=>
  intro _ e h;(refine bg e ?_;clear e;intro v r h1 h2 h3);subst h1
  induction j using Ge with
  |zero=>simp at h;subst h;exact(ah v rfl h2)
  |succ j=>rw [G7]at h⊢;exact f h3 h
theorem Gq.get'{x:Str}{f:KH}{e:KA}(h:Gq f e):∀{j:Nat},e[j]? =some x→∃t,f[j]? =some (.str x t):=by
 induction h with
 |nil=>exact λh=>noS h
 |cons y t _ g=>exact λ{j}=>j.casesOn (λh=>⟨t,ds h▸rfl⟩) λj h=>g h
theorem hO:∀{k:Int} {n j:Nat} (h:G5 k n=some j),-(n:Int)≤k∧k < n∧j < n∧(0≤k→j=k.toNat)∧(k < 0→j=(k+n).toNat):=by
 refine' eI3;intro j n k h;unfold G5 at h;dsimp only at h
 by_cases f:k < 0
 ·rw [if_pos f]at h
  by_cases e:(decide (0≤k+(n:Int))&&decide (k+(n:Int) < n))=true
  ·rw [if_pos e]at h
   have h:=ds h;simp only [lq,decide_eq_true_eq]at e;exact⟨Int.sub_nonneg.mp ((Int.sub_neg k n).symm▸e.1),Int.lt_of_lt_of_le f (z2 n),h▸(Int.toNat_lt e.1).mpr e.2,λq=>absurd f (Int.not_lt.mpr q),λg=>h.symm⟩
  ·rw [if_neg e]at h;exact noS h
 ·rw [if_neg f]at h
  by_cases e:(decide (0≤k)&&decide (k < (n:Int)))=true
  ·rw [if_pos e]at h
   have h:=ds h;simp only [lq,decide_eq_true_eq]at e;exact⟨IN (Int.neg_nonpos_of_nonneg (z2 n)) e.1,e.2,h▸(Int.toNat_lt e.1).mpr e.2,λg=>h.symm,λq=>absurd q f⟩
  ·rw [if_neg e]at h;exact noS h
theorem uB{f:Type}{e:List f}{k:Int}{x:f}(h:bY e k=some x):∃j,G5 k e.length=some j∧e[j]? =some x:=Gk.mp h
theorem fh(g:Expr)(o i:da):∃h,subscripted g false o i=operate h (getItem o i):=by
 induction g using p8 with
 |Slice f e c p=>induction c<;>exact⟨_,rfl⟩
 |_=>exact⟨_,rfl⟩
theorem ju{e:cv}{o:Hn}{g:Array da}{m:Nat}{k:Int}{t:Tok}{j:Nat}{x:da}{f i:Expr}{Q:KD}(n:s.heap.get? e=some o)(h1:o.cls= .type "list")(h2:o.data= .seq g m)
 (r:g.size≤p9)(y:G5 k g.size=some j)(p:g[j]? =some x)(h:Q x s):eo c.M c.A (GP i f (.ref e) (.int k t)) Q NoE s:=by
 refine fK (hO y) λq z B v w=> ?_;refine au (fh f (.ref e) (.int k t)) λu A=> ?_;refine JO ⟨o,n,h1⟩ slot_list_getitem.lookup ?_ A
 by_cases l:k < 0
 ·exact wpAny_getItem_list_neg ⟨o,n,h1,m,h2⟩ l q (AW r q) (by rwa [←w l];exact p) h
 ·exact wpAny_getItem_list ⟨o,n,h1,m,h2⟩ (Int.not_lt.mp l) (Int.lt_trans z (ij r)) (by rwa [←v (Int.not_lt.mp l)];exact p) h
theorem Ga{e:cv}{o:Hn}{g:Array da}{m:Nat}{k:Int}{t:Tok}{j:Nat}{x:da}{f i:Expr}{Q:KD}(v:s.heap.get? e=some o)(h1:o.cls= .type "tuple")(h2:o.data= .seq g m)
 (l:g.size≤p9)(n:G5 k g.size=some j)(q:g[j]? =some x)(h:Q x s):eo c.M c.A (GP i f (.ref e) (.int k t)) Q NoE s:=by
 refine fK (hO n) λr u z y A=> ?_;refine au (fh f (.ref e) (.int k t)) λp w=> ?_;have T:IsTup s.heap e g:=⟨o,v,h1,m,h2⟩;exact JO T.typeIs slot_tuple_getitem.lookup (PyProof.Rows.getItem_tuple T (AW l r) (Int.lt_trans u (ij l)) n q h) w
theorem nC{F:aA}{e:KA}{f:KH}(h:Gq f e):Vals F a (e.map .str) f:=by
 induction h with
 |nil=>rfl
 |cons y t _ g=>exact⟨.str y t,_,rfl,⟨t,rfl⟩,g⟩
theorem uA{e:KA}{k:Int}:(bY e k).map V.str=bY (e.map .str) k:=by
 unfold bY;rwa [pg _];cases G5 k e.length with
 |none=>rfl
 |some j=>exact II.symm
theorem lz{u:String}(H:ac c b a d s){p:nR}{f:cv}{o:Hn}{h:Array da}{n:Nat}{v:KN}{k:Int}{t:Tok}{i l:Expr}(C:s.heap.get? f=some o)(h1:o.cls= .type u)(h2:o.data= .seq h n)(h3:Vals (aa c.d a d s.heap) a v h.toList)
 (g:∀{j:Nat} {x:da} {Q:KD},s.heap.get? f=some o→o.cls= .type u→o.data= .seq h n→h.size≤p9→G5 k h.size=some j→h[j]? =some x→Q x s→eo c.M c.A (GP l i (.ref f) (.int k t)) Q NoE s):
 (pre [v.length≤p9] (fR b p (bY v k) d)).W λr m=>eo c.M c.A (GP l i (.ref f) (.int k t)) (aF c b a d s m λF a x=>Val F a r x) NoE s:=
 xA λq=>lR λr e=>by
  refine ab (uB e) λj B z=> ?_;refine ab (Vals.get h3 z) λx w A=> ?_;have y:h.size=_:=(iy).symm.trans (Vals.len _ _ h3);exact g C h1 h2 (by rwa [y];exact q.1) (by rwa [y];exact B) (by rwa [←GE];exact w) (H.post rfl rfl rfl H.tk A)
theorem nW{l:String}(H:ac c b a d s){p:nR}{e:cv}{o:Hn}{f:Array da}{n:Nat}{q:KA}{k:Int}{t:Tok}{h i:Expr}(u:s.heap.get? e=some o)(h1:o.cls= .type l)(h2:o.data= .seq f n)(h3:Gq f.toList q)
 (g:∀{j:Nat} {x:da} {Q:KD},s.heap.get? e=some o→o.cls= .type l→o.data= .seq f n→f.size≤p9→G5 k f.size=some j→f[j]? =some x→Q x s→eo c.M c.A (GP i h (.ref e) (.int k t)) Q NoE s):
 (pre [q.length≤p9] (fR b p ((bY q k).map .str) d)).W λr m=>eo c.M c.A (GP i h (.ref e) (.int k t)) (aF c b a d s m λF a x=>Val F a r x) NoE s:=by
 have:=lz (p:=p) H u h1 h2 (nC h3) g;rw [pg,←uA]at this;exact this
theorem uJ(H:ac c b a d s){p:nR}{v:V}{u:da}{k:Str}{f:da→Hk da}(z:Val (aa c.d a d s.heap) a v u)
 (g:∀j l x,u= .ref j→s.heap.DictOf (JH c.prog c.w) j l→Ib l k=some x→∀Q:da→dd→Prop,Q x {s with toks:=s.toks+1}→eo c.M c.A (f u) Q NoE s):
 (f7 v d λn o=>match o with| .dict w=>fR b p (lk k w) d|_=> .err "").W λr m=>eo c.M c.A (f u) (aF c b a d s m λF a x=>Val F a r x) NoE s:=
 fW H z λi j o e n n t=>by
  induction o with
  |dict w=>
   refine lR λr q=> ?_;(refine ab t ?_;clear t;intro l A B);have h:=KVs.valueAt (k:=k) B;rw [q]at h;(refine ab h ?_;clear h;intro x y C);exact g j l x e A y _ (H.post rfl rfl rfl (oa H.tk) C)
  |_=>trivial
theorem zh:∀{p:nR} {v i:V} {u w:da} {l B:Expr} (H:ac c b a d s) (G:Val (aa c.d a d s.heap) a v u) (K:Val (aa c.d a d s.heap) a i w),(xI b p v i d).W λr m=>eo c.M c.A (GP B l u w) (aF c b a d s m λF a x=>Val F a r x) NoE s:=by
 revert c b a d s;refine' eI12;intro B l w u i v p s d a b c H G K
 induction i using Mine.V.casesOn with
 |int k=>
  (refine au K ?_;clear K;intro J z;subst z)
  induction v using Mine.V.casesOn with
  |str x=>
   intro p;(refine au G ?_;clear G;intro t z;subst z);refine bg (SBL.item (prog:=c.prog) (w:=c.w) (A:=c.A) (E:=NoE) (s:=s) (t:=t) (u:=J) (Q:=aF c b a d s d λF a y=>Val F a (.str (I2 x k)) y) p.1 p.2.1 (ij p.2.2.1) λL=>H.post rfl rfl rfl (oa H.tk) ⟨_,rfl⟩) λT id hl hT hg=> ?_;obtain⟨N,P⟩:=fh l (.str _ t) (.int _ J);exact JO hT hl hg P
  |flist O=>(refine dJ G ?_;clear G;intro g o I n z D h1 h2 h3;subst z;(refine ax D ?_;clear D;intro L L C));exact lz H C h1 h2 h3 ju
  |fstrs O=>(refine dJ G ?_;clear G;intro g o I n z D h1 h2 h3;subst z;(refine ax D ?_;clear D;intro L L C));exact nW H C h1 h2 h3 ju
  |ref j=>
   (refine ab G ?_;clear G;intro g Z z;subst z);refine dN λo Y=> ?_;have C:=H.rep.objs _ _ _ Z Y
   induction o with
   |list O=>(refine aS C ?_;clear C;intro I n C h3);exact lz H C rfl rfl h3 ju
   |«strs» O=>(refine aS C ?_;clear C;intro I n C h3);exact nW H C rfl rfl h3 ju
   |_=>trivial
  |_=>trivial
 |str k=>
  (refine au K ?_;clear K;intro J z;subst z);refine uJ (f:=λu=>GP B l u (.str k J)) H G λg U x e R h Q q=> ?_;subst e;refine au (fh l (.ref g) (.str k J)) λN P=> ?_;exact JO R.typeIs slot_dict_getitem.lookup (wpAny_getItem_of (Jr _ _ k J) R.mapOf h q) P
 |_=>trivial
end
end Mine
end
namespace Mine
section
variable{c:Cx}{d:Cfg}{b:KB}{e:KM}{s:dd}
theorem Vals.drop{F:aA}(n:Nat):∀{a:KN} {f:KH},Vals F b a f→Vals F b (a.drop n) (f.drop n):=by
 induction n with
 |zero=>exact λh=>h
 |succ n i=>
  refine λ{a}=>a.casesOn (λh=>(show _=[]from h)▸rfl) λx a g=> ?_;refine bg g λv r h1 h2 h3=> ?_;subst h1;exact i h3
theorem Vals.take{F:aA}(n:Nat):∀{a:KN} {f:KH},Vals F b a f→Vals F b (a.take n) (f.take n):=by
 induction n with
 |zero=>exact λj=>rfl
 |succ n i=>
  refine λ{a}=>a.casesOn (λh=>(show _=[]from h)▸rfl) λx a g=> ?_;refine bg g λv r h1 h2 h3=> ?_;subst h1;exact⟨v,r.take n,rfl,h2,i h3⟩
theorem oU(n:Nat):∀{f:KH} {a:KA},Gq f a→Gq (f.drop n) (a.drop n):=by
 induction n with
 |zero=>exact λh=>h
 |succ n g=>exact λh=>by cases h with|nil=>exact .nil|cons y t r=>exact g r
theorem oT(n:Nat):∀{f:KH} {a:KA},Gq f a→Gq (f.take n) (a.take n):=by
 induction n with
 |zero=>exact λi=> .nil
 |succ n g=>exact λh=>by cases h with|nil=>exact .nil|cons y t r=>exact .cons y t (g r)
theorem qC{F:aA}{x:V}{u:da}{o:Option Int}(h:Val F b x u)(a:pk x=some o):IsPart u o:=by
 induction x using Mine.V.casesOn with
 |none=>obtain rfl:=ds a;cases h;exact .none
 |int i=>obtain rfl:=ds a;(refine au h ?_;clear h;intro t f;subst f);exact .int _ _
 |_=>exact noS a
theorem ac.grow(H:ac c d b e s)(f:Hn):ac c d b e {s with heap:=s.heap.push f}∧Ext b e s b e {s with heap:=s.heap.push f}:=
 let⟨R,X⟩:=H.rep.grow (s':={s with heap:=s.heap.push f}) (λg g h=>g0 f h) (by rw [sm];exact Lle [_] [] 0 V0 (.a V0 Z0) rfl) rfl rfl
 ⟨⟨R,H.tk,H.fr,H.cl⟩,X⟩
theorem ac.more(H:ac c d b e s){h':Gm}{k:Nat}(i:∀a g,s.heap.get? a=some g→h'.get? a=some g)(j:s.heap.objs.size≤h'.objs.size)(h:1≤k){f:Type}{R:aA→List cv→f→Prop}{x:f}
 (r:∀F,R F b x):aF c d b e s e R x {s with heap:=h',toks:=k}:=
 let⟨R',X⟩:=H.rep.grow (s':={s with heap:=h',toks:=k}) i j rfl rfl
 ⟨b,⟨R',h,H.fr,H.cl⟩,X,r _⟩
def Up(f h:Gm):Prop:=(∀a g,f.get? a=some g→h.get? a=some g)∧f.objs.size≤h.objs.size
theorem mt(h:Gm):KeptH (Up h):=λj i a=>⟨λf o g=>g0 i (a.1 f o g),h9 a.2 (by rwa [sm _ _];exact Lle [_] [] 0 V0 (.a V0 Z0) rfl)⟩
theorem lY(H:ac c d b e s){a:cv}{o:Hn}{g:Array da}{m:Nat}{j k:da}{lo l:Option Int}{f i:Expr}{r:V}(C:s.heap.get? a=some o)(h1:o.cls= .type "list")(h2:o.data= .seq g m)
 (B:g.size≤p9)(u:IsPart j lo)(v:IsPart k l)
 (A:∀(F:aA) (a:cv),F a {cls:= .type "list",data:= .seq (kms_pick g.toList lo l).toArray}→Le (aa c.d b e s.heap) F→Val F b r (.ref a)):
 eo c.M c.A (GP i f (.ref a) (.ref s.heap.objs.size)) (aF c d b e s e λF b x=>Val F b r x) NoE {s with heap:=s.heap.push {cls:= .type "slice",data:= .fields #[j,k, .none]}}:=by
 refine ai (H.grow {cls:= .type "slice",data:= .fields #[j,k, .none]}) λw n=> ?_;refine cU n ?_;refine au (fh f (.ref a) (.ref s.heap.objs.size)) λt D=> ?_;have y:=n.size;have p:(s.heap.push {cls:= .type "slice",data:= .fields #[j,k, .none]}).get? a=some o:=g0 _ C;refine JO ⟨o,p,h1⟩ slot_list_getitem.lookup ?_ D;refine wpAny_getItem_list_slice ⟨o,p,h1,m,h2⟩ (Gm.IsSliceOf.new ..) u v .none (by decide) ?_ B
 exact fC (s':={s with heap:=(s.heap.push {cls:= .type "slice",data:= .fields #[j,k, .none]}).push {cls:= .type "list",data:= .seq (slicePick g lo l none)}}) w rfl rfl rfl rfl H.tk
  λF z L=>A F _ (by rwa [←kms_pick_eq _ _ _];exact z) λa o q h=>L a o q (n.froz a o q h)
theorem tj(H:ac c d b e s){a:cv}{o:Hn}{g:Array da}{m:Nat}{j k:da}{lo l:Option Int}{f i:Expr}{q:KA}(B:s.heap.get? a=some o)(h1:o.cls= .type "list")(h2:o.data= .seq g m)
 (y:g.size≤p9)(u:IsPart j lo)(v:IsPart k l)(C:Gq (kms_pick g.toList lo l) q):
 eo c.M c.A (GP i f (.ref a) (.ref s.heap.objs.size)) (aF c d b e s (e++[.strs q]) λF b x=>Val F b (.ref e.length) x) NoE {s with heap:=s.heap.push {cls:= .type "slice",data:= .fields #[j,k, .none]}}:=by
 refine ai (H.grow {cls:= .type "slice",data:= .fields #[j,k, .none]}) λn z=> ?_;refine cU z ?_;refine au (fh f (.ref a) (.ref s.heap.objs.size)) λt w=> ?_;have p:(s.heap.push {cls:= .type "slice",data:= .fields #[j,k, .none]}).get? a=some o:=g0 _ B;refine JO ⟨o,p,h1⟩ slot_list_getitem.lookup ?_ w;refine wpAny_getItem_list_slice ⟨o,p,h1,m,h2⟩ (Gm.IsSliceOf.new ..) u v .none (by decide) ?_ y
 exact n.alloc (s':={s with heap:=(s.heap.push {cls:= .type "slice",data:= .fields #[j,k, .none]}).push {cls:= .type "list",data:= .seq (slicePick g lo l none)}}) (fx _) (by dsimp only;rwa [sm _ {cls:= .type "list",data:= .seq (slicePick g lo l none)}];exact ph _)
  (λr r h=>g0 _ h) rfl rfl n.tk λF A L P=>⟨_,0,Gl _ rfl,by rwa [kms_pick_eq _ _ _];exact C⟩
theorem t7{F f:aA}{g:KN}{i:KH}{lo a:Option Int}(L:Le F f)(h3:Vals F b g i):Vals f b (ci g lo a) (kms_pick i lo a):=by
 unfold ci kms_pick;rwa [Vals.len _ _ h3];exact Vals.take _ (Vals.drop _ (Vals.mono L (λj j h=>h) _ _ h3))
theorem nM{f:KA}{g:KH}{lo a:Option Int}(h3:Gq g f):Gq (kms_pick g lo a) (ci f lo a):=by
 unfold ci kms_pick;rwa [cg h3];exact oT _ (oU _ h3)
theorem ti:∀{x:Str} {t:Tok} {lo j:Option Int} {n o:da} {a f:Expr} (H:ac c d b e s) (r:IsPart n lo) (u:IsPart o j) (m:x.length≤p9),eo c.M c.A (GP f a (.str x t) (.ref s.heap.objs.size)) (aF c d b e s e λF b y=>Val F b (.str (i0 x lo j)) y) NoE {s with heap:=s.heap.push {cls:= .type "slice",data:= .fields #[n,o, .none]}}:=by
 revert c d b e s;refine' eI13;intro f a o n j lo t x s e b d c H r u m;refine dO H.tk ?_;generalize B:(λ(v:da) (A:dd)=>1≤A.toks→aF c d b e s e (λF b y=>Val F b (.str (i0 x lo j)) y) v A)=Q;have g:∀l z k,Up s.heap l→Q (.str (i0 x lo j) z) {s with heap:=l,toks:=k}:=
  λl z k w=>B▸λC=>H.more (h':=l) (k:=k) w.1 w.2 C λq=>⟨_,rfl⟩
 have i:∀{s2:dd},ItemOn (GO c.prog c.w) c.A NoE (.str x t) (.ref s.heap.objs.size) Q s2→eo c.M c.A (GP f a (.str x t) (.ref s.heap.objs.size)) Q NoE s2:=λp=>bg p λT id hl hT hg=>let⟨ops,hs⟩:=fh a (.str x t) (.ref s.heap.objs.size);JO hT hl hg hs;have U:Up s.heap s.heap:=⟨λq q h=>h,fx _⟩;cases r<;>cases u
 ·exact i (SBH.sliceItem_nn (mt _) U g m)
 ·exact i (SBH.sliceItem_ns (mt _) U g m)
 ·exact i (SBH.sliceItem_sn (mt _) U g m)
 ·exact i (SBH.sliceItem_ss (mt _) U g m)
theorem vx:∀{v lo C:V} {u E G:da} {g i:Expr} (H:ac c d b e s) (k:Val (aa c.d b e s.heap) b v u) (q:Val (aa c.d b e s.heap) b lo E) (y:Val (aa c.d b e s.heap) b C G),(tm v lo C e).W λr m=>eo c.M c.A (GP i g u (.ref s.heap.objs.size)) (aF c d b e s m λF b x=>Val F b r x) NoE {s with heap:=s.heap.push {cls:= .type "slice",data:= .fields #[E,G, .none]}}:=by
 revert c d b e s;refine' eI13;intro i g G E u C lo v s e b d c H k q y;refine cM λN O=>cM λK J=> ?_;have z:=qC q O;have A:=qC y J
 induction v using Mine.V.casesOn with
 |str x=>(refine au k ?_;clear k;intro t f;subst f);exact λp=>ti H z A p.1
 |flist I=>
  intro p;(refine dJ k ?_;clear k;intro a o w n f h h1 h2 h3;subst f;(refine ax h ?_;clear h;intro B B l));exact lY H l h1 h2 (by rwa [←iy,Vals.len _ _ h3];exact p.1) z A λF a D L=>⟨a,_,_,0,rfl,D,rfl,rfl,t7 L h3⟩
 |fstrs I=>
  intro p;(refine dJ k ?_;clear k;intro a o w n f h h1 h2 h3;subst f;(refine ax h ?_;clear h;intro B B l));exact lY H l h1 h2 (by rwa [←iy,cg h3];exact p.1) z A λF a D L=>⟨a,_,_,0,rfl,D,rfl,rfl,nM h3⟩
 |ref j=>
  (refine ab k ?_;clear k;intro a R f;subst f);refine dN λo P=> ?_;have l:=H.rep.objs _ _ _ R P
  induction o with
  |«strs» I=>
   intro p;(refine aS l ?_;clear l;intro w n l h3);exact tj H l rfl rfl (by rwa [←iy,cg h3];exact p.1) z A (nM h3)
  |_=>trivial
 |_=>trivial
end
end Mine
section
set_option backward.match.sparseCases false
namespace Mine
def bO(y:Str):List Str→Bool
 |[]=>false
 |z::r=>bif af z y then true else bO y r
def fp:List Str→List Str→Bool
 |[],[]=>true
 |x::xs,y::ys=>bif af x y then fp xs ys else false
 |_,_=>false
def rZ(b:V)(a:KM)(y:Str)(f:Bool→Bool):Res Bool:=match b with
 | .ftup xs=>onO (mF xs) λc=> .ok [] (f (bO y c)) a
 | .ref i=>atO a i λo=>match o with
  | .dict fs=> .ok [] (f (lk y fs).isSome) a
  | .strs c=> .ok [] (f (bO y c)) a
  |_=> .err ""
 |_=> .err ""
def wY(f:Ia)(a b:V)(c:KM):Res Bool:=match f with
 | .In=>b9 a λy=>rZ b c y id
 | .NotIn=>b9 a λy=>rZ b c y not
 | .NotEq=>kr a c λe=>kr b c λd=> .ok [] (!fp e d) c
 |_=> .err ""
def BH(d:Ia)(a b:V)(c:KM):Res Bool:=match b with
 | .ftup _=>wY d a b c
 | .ref _=>wY d a b c
 |_=>BD d a b c
section
variable{c:Cx}{a:Cfg}{b:KB}{d:KM}{s:dd}
theorem kA(y:Str):∀g:List Str,bO y g=g.any (· ==y):=by
 intro f
 induction f with
 |nil=>
  exact rfl
 |cons z r e=>
  unfold bO;rwa [JI]
  by_cases h:z=y
  ·rwa [aB.mpr h,beq_iff_eq.mpr h];rfl
  ·have h1:af z y=false:=ee h
   rwa [h1,beq_eq_false_iff_ne.mpr h];exact e
theorem nF{i g:KA}:fp i g=true↔i=g:=by
 induction i generalizing g with
 |nil=>
  induction g using kv with
  |nil=>exact⟨λk=>rfl,λk=>rfl⟩
  |cons f r=>exact⟨ftB,λe=>nomatch e⟩
 |cons x i j=>
  induction g using kv with
  |nil=>exact⟨ftB,λe=>nomatch e⟩
  |cons y g=>
   show(bif af x y then fp i g else false)=true↔_;cases q:af x y with
   |true=>exact⟨λh=>aB.mp q▸congrArg (x::·) (j.mp h),λe=>j.mpr (Hb e).2⟩
   |false=>exact⟨ftB,λe=>ftB (q.symm.trans (aB.mpr (Hb e).1))⟩
theorem KVs.isSome{F:aA}{k:Str}{f:KL}{e:List (Str×da)}(h:KVs F b f e):(Ib e k).isSome=(lk k f).isSome:=by
 have:=KVs.valueAt (k:=k) h;cases g:lk k f with
 |none=>rw [g]at this;dsimp only at this;rwa [this];rfl
 |some x=>rw [g]at this;(refine ab this ?_;clear this;intro v h1 i);rwa [h1];rfl
theorem Ee{A:GI}{s:dd}{h g:KA}{f e:Array da}(n:Gq f.toList h)(k:Gq e.toList g)(j:Nat)(h1:j < f.size)(h2:j < e.size):
 SeqAt.EqAt A s f[j] e[j] ((h[j]?.getD GZ)==(g[j]?.getD GZ)):=by
 have m:j < h.length:=by rwa [←cg n,iy];exact h1
 have l:j < g.length:=by rwa [←cg k,iy];exact h2
 refine au (Gq.get' n (kn m)) λt i=> ?_;refine au (Gq.get' k (kn l)) λu o=> ?_;rw [GE,Hm h1]at i;rw [GE,Hm h2]at o;rwa [ds i,ds o,kn m,kn l];exact(eqGives_str _ _ _ _).at A s
theorem vn{e f:KA}(h:e.length=f.length):(List.range e.length).all (λj=>(e[j]?.getD GZ)==(f[j]?.getD GZ))=fp e f:=by
 apply Bool.eq_iff_iff.mpr
 rw [nF,Gf]
 constructor
 ·intro g
  apply List.ext_getElem h
  intro i h1 h2;have:=g i (List.mem_range.mpr h1);rw [beq_iff_eq,kn h1,kn h2]at this;exact this
 ·rintro rfl j _;exact beq_self_eq_true _
theorem wj(C:cZ c a){h l:KA}{e t:cv}{g f:Array da}{Q:KD}(o:s.heap.IsList e g)(r:Gq g.toList h)(i:s.heap.IsList t f)(k:Gq f.toList l)(q:Q (.bool (!fp h l)) s):
 eo c.M c.A (IC .NotEq (.ref e) (.ref t)) Q NoE s:=by
 have n:g.size=h.length:=by(rwa [←iy,cg r];rfl)
 have p:f.size=l.length:=by(rwa [←iy,cg k];rfl)
 by_cases m:g.size=f.size
 ·exact SeqAt.RcNeAt.lists o i m C.units (λj h1 h2=>Ee r k j h1 h2) _ _ _ _ (by rwa [n,vn (n.symm.trans (m.trans p))];exact q)
 ·refine SeqAt.RcNeAt.lists_lengths o i (by simpa using m) C.units _ _ _ _ ?_
  have:fp h l=false:=by
   cases q:fp h l with
   |false=>rfl
   |true=>exact absurd (by(rwa [n,p,nF.mp q];rfl)) m
  rw [this]at q;exact q
theorem qM:∀{w:Ia} {f:Bool→Bool} {x:Str} {t:Tok} {y:V} {v:da} (H:ac c a b d s) (l:(w= .In∧f=id)∨(w= .NotIn∧f=not)) (C:Val (aa c.d b d s.heap) b y v),(rZ y d x f).W (iD c a b d s w (.str x t) v):=by
 revert c a b d s;refine' eI11;intro v y t x f w s d b a c H l C;have E:∀{g h j},s.heap.IsTuple g h→Gq h.toList j→iD c a b d s w (.str x t) (.ref g) (f (bO x j)) d:=λ{g h j} A p=>H.cmp λQ q=>by
  have e:=any_isStrOf x p;rcases l with⟨rfl,rfl⟩|⟨rfl,rfl⟩
  ·exact SeqAt.in_tupleAt _ A (λz r=>(eq_isStrOf _ t p z (by simpa using r)).at _ s) (by rwa [←It,e,←kA _ _];exact q)
  ·exact SeqAt.notIn_tupleAt _ A (λz r=>(eq_isStrOf _ t p z (by simpa using r)).at _ s) (by rwa [←It,e,←kA _ _];exact q)
 have F:∀{g h j},s.heap.IsList g h→Gq h.toList j→iD c a b d s w (.str x t) (.ref g) (f (bO x j)) d:=λ{g h j} A p=>H.cmp λQ q=>by
  have e:=any_isStrOf x p;rcases l with⟨rfl,rfl⟩|⟨rfl,rfl⟩
  ·exact SeqAt.in_listAt _ A (λz r=>(eq_isStrOf _ t p z (by simpa using r)).at _ s) (by rwa [←It,e,←kA _ _];exact q)
  ·exact SeqAt.notIn_listAt _ A (λz r=>(eq_isStrOf _ t p z (by simpa using r)).at _ s) (by rwa [←It,e,←kA _ _];exact q)
 induction y using Mine.V.casesOn with
 |ftup O=>(refine dJ C ?_;clear C;intro g o h n u B h1 h2 h3;subst u;(refine ax B ?_;clear B;intro D D m));exact cM λj e D=>E ⟨o,m,h1,n,h2⟩ (gq e h3)
 |ref i=>
  (refine ab C ?_;clear C;intro g I u;subst u);refine dN λo L=> ?_;have m:=H.rep.objs _ _ _ I L
  induction o with
  |dict N=>
   intro _;(refine ab m ?_;clear m;intro J G K);have lo:=(H.rep.new g (lf I)).2.2.2;have e:=KVs.isSome (k:=x) K;rcases l with⟨rfl,rfl⟩|⟨rfl,rfl⟩
   ·exact⟨rfl,wpAny_in_of (Jr _ _ _ t) lo G.mapOf (H.post rfl rfl rfl (oa H.tk) (by rwa [e];rfl))⟩
   ·exact⟨rfl,wpAny_notIn_of (Jr _ _ _ t) lo G.mapOf (H.post rfl rfl rfl (oa H.tk) (by(rwa [e];rfl)))⟩
  |«strs» j=>(refine aS m ?_;clear m;intro h n m h3);exact λD=>F ⟨_,m,rfl,n,rfl⟩ h3
  |_=>trivial
 |_=>trivial
theorem BE(C:cZ c a)(H:ac c a b d s){op:Ia}{x y:V}{u v:da}(i:Val (aa c.d b d s.heap) b x u)(j:Val (aa c.d b d s.heap) b y v):(wY op x y d).W (iD c a b d s op u v):=by
 induction op with
 |In=>exact cj i λx t e=>by subst e;exact qM H (.inl ⟨rfl,rfl⟩) j
 |NotIn=>exact cj i λx t e=>by subst e;exact qM H (.inr ⟨rfl,rfl⟩) j
 |NotEq=>exact jL H i λf o r e l m=>jL H j λz k w n g h p=>H.cmp λQ q=>by subst e n;exact wj C l m g h q
 |_=>trivial
theorem BG(C:cZ c a)(H:ac c a b d s){op:Ia}{x y:V}{u v:da}(e:Val (aa c.d b d s.heap) b x u)(f:Val (aa c.d b d s.heap) b y v):(BH op x y d).W (iD c a b d s op u v):=by
 have h:=BE C H (op:=op) e f;have g:=Eh H (op:=op) e f
 induction y using Mine.V.casesOn<;>first|exact g|exact h
end
end Mine
end
namespace Mine
theorem y7(h:Gm)(o:Hn):h.objs.size≤(h.push o).objs.size:=by rw [sm];exact GL _
theorem jM{M:Ij}{b:Ctx}{p:nR}{t:Hk Fin}{c:List Frame}{s a:dd}{e:End}(h:Runs M b p t c s e a):s.heap.objs.size≤a.heap.objs.size:=by
 induction h<;>first|exact h9 a_ih a_ih_1|exact fx _|exact a_ih|exact h9 (Ha (Gm.size_update _ _ _).symm) a_ih|exact h9 (y7 _ _) a_ih
theorem qY{M:Ij}{j:Ctx}{p:nR}{g:Nat}{r:Resume}{s i:dd}{e:GenResult}(h:Wakes M j p g r s e i):s.heap.objs.size≤i.heap.objs.size:=by
 unfold Wakes at h
 split at h
 ·exact h.elim
 ·split at h
  ·(refine sI h ?_;clear h;intro c a f d d b;subst b);exact(jM f:(s.setGen g .running).heap.objs.size≤a.heap.objs.size)
  ·rwa [h.2];exact fx _
  ·rwa [h.2];exact fx _
 ·(refine sI h ?_;clear h;intro c a f d d b;subst b);exact(jM f:(s.setGen g .running).heap.objs.size≤a.heap.objs.size)
 ·rwa [h.2];exact fx _
 ·rwa [h.2];exact fx _
theorem uX{u:Type}(M:Ij)(y:Ctx)(n:Nat)(t:Hk u):∀(Q:u→nR→dd→Prop) (E:da→nR→dd→Prop) (p:nR) (s:dd),n≤s.heap.objs.size→Hk.wp M y t Q E p s→
 Hk.wp M y t (λa l i=>n≤i.heap.objs.size∧Q a l i) (λe l i=>n≤i.heap.objs.size∧E e l i) p s:=by
 induction t with
 |pure a=>intro Q E p s b h;exact⟨b,h⟩
 |raise e=>intro Q E p s b h;exact⟨b,h⟩
 |unsupported _=>intro Q E p s _ h;exact h
 |finish _=>intro Q E p s _ h;exact h
 |rule _ k d=>intro Q E p s b h;exact d () Q E p s b h
 |«at» l k d=>intro Q E p s b h;exact d () Q E l s b h
 |load a _ k d=>intro Q E p s b h;(refine ab h ?_;clear h;intro o B h);exact⟨o,B,d o Q E p s b h⟩
 |update a _ f k d=>intro Q E p s b h;exact⟨h.1,d () Q E p _ (by dsimp only;rwa [Gm.size_update _ _ _];exact b) h.2⟩
 |loadIfAlive a k d=>intro Q E p s b h;exact d _ Q E p s b h
 |point _ k d=>intro Q E p s b h;exact d () Q E p s b h
 |register _ _=>intro Q E p s _ h;exact h
 |alloc o k d=>intro Q E p s b h;exact d _ Q E p _ (by dsimp only;rwa [sm _ _];exact Lle [_,_] [Q0 V0 V1] 0 V0 (.a V1 Z0) rfl b) h
 |fresh k d=>intro Q E p s b h;exact d _ Q E p _ b h
 |ask k d=>intro Q E p s b h;exact d _ Q E p s b h
 |choose z m k d=>intro Q E p s b h;exact⟨h.1,d _ Q E p _ b h.2⟩
 |os q _ k d=>intro Q E p s b h;exact d _ Q E p _ b h
 |call c D _ _ k d=>intro Q E p s b h;(refine aS h ?_;clear h;intro r i x h);exact⟨r,i,x,d r Q E p i (h9 b (jM x)) h⟩
 |handled A k d=>intro Q E p s b h;exact d _ Q E p s b h
 |genState g k d=>intro Q E p s b h;(refine ab h ?_;clear h;intro st C h);exact⟨st,C,d _ Q E p s b h⟩
 |newGen c k d=>intro Q E p s b h;exact d _ Q E p _ b h
 |resume g r _ k d=>intro Q E p s b h;(refine aS h ?_;clear h;intro j i w h);exact⟨j,i,w,d j Q E p i (h9 b (qY w)) h⟩
 |yield _ _ _ _=>intro Q E p s _ h;exact h
 |stack k d=>intro Q E p s b h;exact d _ Q E p s b h
 |fork _ _=>intro Q E p s _ h;exact h
 |thread k d=>intro Q E p s b h;exact d _ Q E p s b h
 |await _ _ _ _ _=>intro Q E p s _ h;exact h
theorem yq{d:Type}{M:Ij}{A:GI}{t:Hk d}{Q:d→dd→Prop}{E:KD}{s:dd}
 (h:eo M A t (λx a=>s.heap.objs.size≤a.heap.objs.size→Q x a) (λx a=>s.heap.objs.size≤a.heap.objs.size→E x a) s):eo M A t Q E s:=
 ex (Q:=λx a=>s.heap.objs.size≤a.heap.objs.size∧(s.heap.objs.size≤a.heap.objs.size→Q x a)) (E:=λx a=>s.heap.objs.size≤a.heap.objs.size∧(s.heap.objs.size≤a.heap.objs.size→E x a))
  (λe p c=>uX M e _ t _ _ p s (fx _) (h e p c)) (λb b z=>z.2 z.1) λb b z=>z.2 z.1
end Mine
section
set_option backward.match.sparseCases false
namespace Mine
def sw(a:Cfg)(v:V)(n:Str)(b:KM):Res V:=jQ v b λd C d c=>match lkM C n a.props with
 |some k=>onO (lk k c) λx=> .ok [] x b
 |none=>onO (lk n c) λx=>onB (jZ C n a.plain) (.ok [] x b)
def rL{a:Type}(v:V)(b:KM)(k:List V→Res a):Res a:=match v with
 | .flist xs=>k xs
 | .ref i=>atO b i λo=>match o with
  | .list xs=>k xs
  |_=> .err ""
 |_=> .err ""
noncomputable def rf:Ty→Nat
 | .str=>0| .int=>1| .bool=>2| .bytes=>3| .list=>4| .type_=>5| .tuple=>6| .dict=>7| .object=>8| .deque=>9
def wZ(c:Ia)(a b:V)(d:KM):Res Bool:=match a with
 | .type x=>t9 b λy=>match c with
  | .IsNot=> .ok [] (!Nat.beq (rf x) (rf y)) d
  |_=> .err ""
 |a=>BH c a b d
def w0(f:HV)(a b:V)(c:KM):Res V:=match f with
 | .Add=>rL a c λe=>rL b c λd=> .ok [e.length+d.length≤p9] (.flist (e++d)) c
 |_=> .err ""
def BR(op:HV)(a b:V)(c:KM):Res V:=match a with
 | .int i=>(match op with
  | .Pow=>d5 b λj=> .ok [0≤j,j≤1000000,i.natAbs < 2^64] (.int (i^j.toNat)) c
  |op=>w7 op (.int i) b c)
 | .flist xs=>w0 op (.flist xs) b c
 | .ref i=>w0 op (.ref i) b c
 |a=>w7 op a b c
section
variable{c:Cx}{b:Cfg}{a:KB}{d:KM}{s:dd}
theorem z5(x y:Ty):(da.type x.nm==da.type y.nm)=Nat.beq (rf x) (rf y):=by
 induction x<;>induction y<;>decide
theorem uL:∀{e:Ia} {x y:V} {u v:da} (C:cZ c b) (H:ac c b a d s) (f:Val (aa c.d a d s.heap) a x u) (h:Val (aa c.d a d s.heap) a y v),(wZ e x y d).W (iD c b a d s e u v):=by
 revert c b a d s;refine' eI10;intro v u y x e s d a b c C H f h;have g:=BG C H (op:=e) f h
 induction x using Mine.V.casesOn with
 |type x=>
  induction y using Mine.V.casesOn with
  |type y=>
   cases f;cases h
   induction e with
   |IsNot=>exact λi=>H.cmp λQ q=>wpAny_isNot_plain rfl (by rwa [z5 _ _];exact q)
   |_=>trivial
  |_=>trivial
 |_=>exact g
theorem qW(G:aG c b)(H:ac c b a d s){v:V}{u:da}{n:Str}(l:Val (aa c.d a d s.heap) a v u):
 (sw b v n d).W λr m=>eo c.M c.A (getAttr u n true) (aF c b a d s m λF a x=>Val F a r x) NoE s:=
 jh λi C f z e o p=>by
  subst e;(refine ab l ?_;clear l;intro g q j;subst j);cases y:lkM C n b.props with
  |some k=>exact cM λx h w=>G.props _ _ _ y _ _ _ _ _ _ _ _ H o p h q
  |none=>exact cM λx h=>eJ λt w=>xb G H o p q t h
theorem qG{x:Type}(H:ac c b a d s){v:V}{u:da}{k:List V→Res x}{T:x→List AO→Prop}(p:Val (aa c.d a d s.heap) a v u)
 (h:∀e z f n D j,u= .ref e→s.heap.get? e=some ⟨.type "list",z, .seq f n,D⟩→Vals (aa c.d a d s.heap) a j f.toList→(k j).W T):(rL v d k).W T:=by
 induction v using Mine.V.casesOn with
 |flist j=>
  (refine dJ p ?_;clear p;intro e g f n q m r t h3;obtain⟨F,A,C,w⟩:=g;subst q;(refine ax m ?_;clear m;intro y y l);subst r;subst t);exact h e A f n w j rfl l h3
 |ref i=>
  (refine ab p ?_;clear p;intro e E g;subst g);refine dN λo B=> ?_;have l:=H.rep.objs _ _ _ E B
  induction o with
  |list j=>(refine aS l ?_;clear l;intro f n l h3);exact h e none f n #[] j rfl l h3
  |_=>trivial
 |_=>trivial
theorem BL(H:ac c b a d s){op:HV}{x y:V}{u v:da}(D:Val (aa c.d a d s.heap) a x u)(E:Val (aa c.d a d s.heap) a y v):
 (w0 op x y d).W λf m=>eo c.M c.A (binaryOp op u v) (aF c b a d s m λF a r=>Val F a f r) NoE s:=by
 induction op with
 |Add=>
  refine qG H D λg z k n G J e w h3=>qG H E λI t i A q K B j l p=> ?_;subst e B;refine concat_meets ⟨_,w,rfl⟩ ⟨_,j,rfl⟩ noFill_list_add seq_list_add PySem.F.slot_list_add PySem.F.entry_list_add (PySem.F.args_list_add_2 _ _) (list_addW g I k i n A z t G q (by rwa [←iy,←iy,Vals.len _ _ h3,Vals.len _ _ l];exact p.1)) (cB w j ?_)
  refine fC (s':={s with heap:=s.heap.push {cls:= .type "list",data:= .seq (k++i)}}) H rfl rfl rfl rfl H.tk λF C L=>⟨_,_,_,0,rfl,C,rfl,rfl, ?_⟩
  rwa [wh];exact Vals.append (Vals.mono L (λo o h=>h) _ _ h3) (Vals.mono L (λo o h=>h) _ _ l)
 |_=>trivial
theorem BQ:∀{k:HV} {x y:V} {u v:da} (H:ac c b a d s) (l:Val (aa c.d a d s.heap) a x u) (n:Val (aa c.d a d s.heap) a y v),(BR k x y d).W λf m=>eo c.M c.A (binaryOp k u v) (aF c b a d s m λF a r=>Val F a f r) NoE s:=by
 revert c b a d s;refine' eI10;intro v u y x k s d a b c H l n;have g:=sn H (op:=k) l n;have h:=BL H (op:=k) l n
 induction x using Mine.V.casesOn with
 |int i=>
  induction k with
  |Pow=>(refine au l ?_;clear l;intro t o;subst o);exact eI n λj w e p=>by subst e;exact pow_int_small p.1 p.2.1 p.2.2.1 (H.post rfl rfl rfl (oa H.tk) ⟨_,rfl⟩)
  |_=>exact g
 |flist q=>exact h
 |ref i=>exact h
 |_=>exact g
end
noncomputable def cT(e:Expr):Bool:=Nat.beq e.ctorIdx 7
noncomputable def dt(e:Expr):Bool:=Nat.beq e.ctorIdx 16
noncomputable def lA(e:Expr):Bool:=Nat.beq e.ctorIdx 26
noncomputable def gG(e:Expr):Bool:=Nat.beq e.ctorIdx 20
noncomputable def jP(e:Expr):Bool:=[23,20,16,21,2,19].any (Nat.beq e.ctorIdx)
noncomputable def rB(f:Fns)(o:Option Expr)(a:KM):Res V:=match o with
 |none=> .ok [] .none a
 |some e=>f.E e a
def unV(b:Cfg)(c:UnaryOp)(p:nR)(v:V)(a:KM):Res V:=match c with
 | .USub=>d5 v λi=> .ok [] (.int (-i)) a
 |_=> .err ""
def mA(d:Cfg)(f:Fns)(l:Expr)(e:Ia)(r:Expr)(p:nR)(c:KM):Res Bool:=
 noB (cT r) ((f.E l c).bind λa c=>(f.E r c).bind λb c=>(wZ e a b c).bind λx c=>dec d p x c)
def f6(o:Expr)(b p:nR)(a:List Expr):Bool:=dt o||(!Nat.beq b.endLine p.line|| !G6 a.length 29)
def xG(c:Cfg)(f:Fns)(o:Expr)(n:Str)(d:nR)(a:List Expr)(p:nR)(b:KM):Res V:=
 noB (f6 o d p a) ((f.E o b).bind λv b=>onO (fX c v n b) λk=>(dj f a b).bind λe b=>mY c p k v e b)
def mv(a:Cfg)(b:Expr):Option (cv×ay):=if h:b.ctorIdx=23 then Expr.Name.elim (motive_1:=λc=>Option (cv×ay)) b h λx c=>lkS x a.wns else none
def oE(a:Cfg)(b:Expr):Option (Expr×Str×nR×cv×cv×Nat×ay):=if h:b.ctorIdx=20 then Iw (motive_1:=λd=>Option (Expr×Str×nR×cv×cv×Nat×ay)) b h λo n c=>(lkS n a.owns).map λz=>(o,n,c,z)else none
def zS(f:Fns)(g:cv)(c:ay)(e:Expr)(b:List Expr)(a:KM):Res V:=
 (f.E e a).bind λd a=>(dj f b a).bind λh a=>(c h a).bind λr a=> .ok [d= .adr g] r a
def AE(f:Fns)(C d:cv)(m:Nat)(c:ay)(o:Expr)(n:Str)(e:nR)(a:List Expr)(p:nR)(b:KM):Res V:=
 noB (f6 o e p a) ((f.E o b).bind λv b=>jQ v b λh i h j=>(dj f a b).bind λg b=>(oI m c g b).bind λr b=> .ok [i=C,lk n j=some (.adr d)] r b)
noncomputable def mR{a b:Type}(l:List a)(k:a→Res b):Res b:=match l with
 |x::r=>(match r with
  |[]=>k x
  |_::_=> .err "")
 |[]=> .err ""
theorem jJ{a b:Type}{l:List a}{k:a→Res b}{T:b→List AO→Prop}(h:∀x,l=[x]→(k x).W T):(mR l k).W T:=by
 induction l using kv with
 |nil=>trivial
 |cons x r=>induction r using kv with
  |nil=>exact h x rfl
  |cons=>trivial
noncomputable def ii{b a:Type}(l:List b)(k:Res a):Res a:=match l with
 |[]=>k
 |_::_=> .err ""
theorem eU{b a:Type}{l:List b}{k:Res a}{T:a→List AO→Prop}(h:l=[]→k.W T):(ii l k).W T:=by
 induction l using kv with
 |nil=>exact h rfl
 |cons=>trivial
theorem Bi{a:Type}{b:Bool}{x y:Res a}{T:a→List AO→Prop}(h1:b=true→x.W T)(h2:b=false→y.W T):(jp b x y).W T:=by
 induction b with
 |true=>exact h1 rfl
 |false=>exact h2 rfl
def sj(b:Cfg)(f:Fns)(d:Expr)(a:List Expr)(p:nR)(c:KM):Res V:=match oE b d with
 |some (o,n,e,C,hk,m,spec)=>AE f C hk m spec o n e a p c
 |none=>match mv b d with
  |some (g,spec)=>zS f g spec d a c
  |none=>if h:d.ctorIdx=20 then Iw (motive_1:=λj=>Res V) d h λo n e=>xG b f o n e a p c
   else(f.E d c).bind λg c=>(dj f a c).bind λi c=>si b g i c
def to(f:Fns)(v i:Expr)(a:KM):Res V:=match i with
 | .Slice l u st _=>(match st with
  |none=>(f.E v a).bind λx a=>(rB f l a).bind λlo a=>(rB f u a).bind λb a=>tm x lo b a
  |some _=> .err "")
 |_=> .err ""
def xn(g:Cfg)(f:Fns)(e:Expr)(d:KM):Res V:=match e with
 | .Constant k _ _=>uK k d
 | .Name x _=>noB (af x "__debug__") (rG g x d)
 | .BoolOp h es _=>sk g f h es d
 | .BinOp l h r _=>(f.E l d).bind λa d=>(f.E r d).bind λb d=>BR h a b d
 | .UnaryOp h x p=>(f.E x d).bind λv d=>unV g h p v d
 | .IfExp t a b _=>(f.T t d).bind λc d=>jp c (f.E a d) (f.E b d)
 | .Compare l ops rs p=>mR ops λh=>mR rs λr=>(mA g f l h r p d).bind λy d=> .ok [] (.bool y) d
 | .Attribute v n _=>noB (dt v) ((f.E v d).bind λx d=>sw g x n d)
 | .Subscript v i p=>jp (lA i) (to f v i d) ((f.E v d).bind λx d=>(f.E i d).bind λy d=>xI g p x y d)
 | .Call fe args kw p=>ii kw (sj g f fe args p d)
 | .Tuple es _ _=>(dj f es d).bind λj d=>onB (Iy j.length 1000) (.ok [] (.ftup j) d)
 | .List es _=>(dj f es d).bind λj d=>onB (Iy j.length 1000) (.ok [] (.ref d.length) (d++[.list j]))
 | .Dict ks vs _=>ii ks (ii vs (.ok [] (.ref d.length) (d++[.dict []])))
 |_=> .err ""
def xm(c:Cfg)(f:Fns)(e:Expr)(a:KM):Res Bool:=match e with
 | .UnaryOp d x _=>(match d with
  | .Not=>(f.T x a).bind λb a=> .ok [] (!b) a
  |_=> .err "")
 | .BoolOp d es _=>sB f d es a
 | .Compare l ops rs p=>mR ops λd=>mR rs λr=>mA c f l d r p a
 |e=>onB (jP e) ((f.E e a).bind λv a=>tru c e.pos v a)
section
variable{c:Cx}{b:Cfg}{f:Fns}
theorem j9{a:Ia}{r:Expr}(h:cT r=false):I7 a r=false:=by
 exact ir ((λq=>by induction q using p8<;>first|exact(rfl:false=false)|exact trivial:∀q,bif cT q then True else I7 a q=false) r) h
theorem qT(C:cZ c b)(O:bV c b f){l r:Expr}{n:Ia}{p:nR}{o:KB}{j:KM}{s:dd}(H:ac c b o j s):
 (mA b f l n r p j).W λd m=>cT r=false∧eo c.M c.A (Gu l c.env) (λu s1=>eo c.M c.A (Gu r c.env) (λw s2=>eo c.M c.A (IC n u w) (aF c b o j s m λi i z=>z= .bool d) NoE s2) NoE s1) NoE s:=
 eK λF=>(O.E l).seq H (λi i h=>⟨F,h⟩) λa G u s1 B E y v=>(O.E r).seq E (λi i=>id) λd m2 w s2 A D q t=>
  .bind ((uL C D (q.val v) t).mono λx m h=>xO.mono λJ I g=>by
   (refine ai g ?_;clear g;intro e k;subst e;subst k);(refine ai h ?_;clear h;intro e h;subst e);exact cU (y.trans q) h)
theorem wW(C:cZ c b)(O:bV c b f){l r:Expr}{d:Ia}{p:nR}:sK c b (A0 (.Compare l [d] [r] p) c.env (Gu (.Compare l [d] [r] p) c.env)) (mA b f l d r p):=λk j s H=>
 (qT C O H).mono λa a h=>HE (ex h.2 (λa a h1=>ex h1 (λa a h2=>ex h2 (λa a h3=>by
  obtain⟨e,i,g,rfl⟩:=h3;exact HM ⟨e,i,g,rfl⟩) λa a z=>z) λa a z=>z) λa a z=>z) (j9 h.1)
theorem wV(C:cZ c b)(O:bV c b f){l r:Expr}{e:Ia}{p:nR}:gn c b (Gu (.Compare l [e] [r] p) c.env) (λa=>(mA b f l e r p a).bind λy a=> .ok [] (.bool y) a):=λg a s H=>
 .bind ((qT C O H).mono λd d h d=>wpAny_Compare1 h.2 (j9 h.1))
theorem kL{o:Expr}{n:Str}{d:Env}{a:Hk da}(h:dt o=false):attributeBase o n d a=a:=by
 exact ir ((λq=>by induction q using p8<;>first|exact(rfl:a=a)|exact trivial:∀q,bif dt q then True else attributeBase q n d a=a) o) h
theorem rS{d:nR}{a:Env}:Kc d (Ja [] a)=[]:=rfl
theorem oj(G:aG c b){p:nR}{k:MK}{v:V}{d:KN}{h:KM}:(mY b p k v d h).W λa a=>mL c k.fnV:=by
 induction k with
 |fn g=>exact cM λz e=> .of λa a a a a=>(G.fns g z.1 z.2 e).keep
 |_=>exact .of λa a a a a=>jY
section
variable{d:KB}{e:KM}{s:dd}
theorem ne{o:Expr}{l p:nR}{i:List Expr}(h:f6 o l p i=false):dt o=false∧I8 true o c.env l p=pure p∧
 (i.all (λg=> !dD g)=true→Js (i.length+([]:List Keyword).length) (H9 p (G8 i c.env)) (Kc p (Ja [] c.env))=true):=by
 unfold f6 at h;simp only [Il,Bool.not_eq_false']at h;(refine ax h ?_;clear h;intro m j k);refine(cB m ?_ (λn=> ?_))
 ·unfold I8
  simp [ui j]
 ·unfold Js
  rwa [mE n];have:i.length+1≤29:=ro k;simp [rS];exact Lle [_] [Q0 (.a V0 Z0) (.c 29)] 0 (.a V0 Z0) (.c 30) rfl this
theorem jT{o:Expr}{n:Str}{i p:nR}{g:List Expr}(q:f6 o i p g=false)(t:g.all (λa=> !dD a)=true){u fv:da}{first:KH}{j:dd}{Q:KD}
 (k:∀(r:Hk Bool) (Q:da×List da→dd→Prop),Q (fv,first) j→eo c.M c.A (JQ u n r) Q NoE s)(h:eo c.M c.A (Kb p fv first (H9 p (G8 g c.env)) []) Q NoE j):
 eo c.M c.A (methodCall o n i p c.env u (g.length+([]:List Keyword).length) (H9 p (G8 g c.env)) (Kc p (Ja [] c.env))) Q NoE s:=by
 obtain⟨_,l,m⟩:=ne q;unfold methodCall;rwa [m t];exact dV (A9 (k _ _ (dV (JD l h))))
theorem ki{o:Expr}{n:Str}{i p:nR}{a:List Expr}{Q:KD}(j:dt o=false)
 (h:eo c.M c.A (Gu o c.env) (λu s1=>eo c.M c.A (methodCall o n i p c.env u (a.length+([]:List Keyword).length) (H9 p (G8 a c.env)) (Kc p (Ja [] c.env))) Q NoE s1) NoE s):
 eo c.M c.A (Gu (.Call (.Attribute o n i) a [] p) c.env) Q NoE s:=by
 (rw [arm_eval_Call];rwa [kL j]);exact dV (ex h (λg g h=>dV (Hc h)) λg g z=>z)
theorem we(G:aG c b)(O:bV c b f){o:Expr}{n:Str}{i p:nR}{h:List Expr}:gn c b (Gu (.Call (.Attribute o n i) h [] p) c.env) (xG b f o n i h p):=λd e s H=>
 eK λj=>(O.E o).seq H (λg g=>ki (ne (c:=c) j).1) λx E u s1 B v z q=>AF (mn G v q) λk C=>
  .of λg g g a w=>bB a w λg g g g t m r l=>jT j (eP.use t m) C (cU z (dq O ((oj G).use r l) v t m λI F D y X A=>cU X ((uk G y (X.val q) A).use r l)))
end
theorem nk{e:Expr}{d:List Expr}{p:nR}{a:Env}(h:gG e=false):Gu (.Call e d [] p) a=(do Kb p (←Gu e a) [] (H9 p (G8 d a)) (Kc p (Ja [] a))):=by
 induction e using p8<;>first|rfl|exact tfB h
theorem rU{a:Expr}{z:cv×ay}(h:mv b a=some z):gG a=false∧∃x,lkS x b.wns=some z:=by
 revert h
 by_cases g:a.ctorIdx=23
 ·exact Expr.Name.elim (motive_1:=λa=>mv b a=some z→gG a=false∧∃x,lkS x b.wns=some z) a g λx d h=>⟨rfl,x,h⟩
 ·exact λh=>noS ((dif_neg g).symm.trans h)
theorem rV{i o:Expr}{n:Str}{j:nR}{z:cv×cv×Nat×ay}(h:oE b i=some (o,n,j,z)):i= .Attribute o n j∧lkS n b.owns=some z:=by
 revert h;revert b i o n j;revert z;refine' eI6;intro j n o i b z h;revert h
 by_cases g:i.ctorIdx=20
 ·exact Iw (motive_1:=λi=>oE b i=some (o,n,j,z)→i= .Attribute o n j∧lkS n b.owns=some z) i g λa e d h=>ab (mr.mp h) λw h1 h2=>by cases h2;exact⟨rfl,h1⟩
 ·exact λh=>noS ((dif_neg g).symm.trans h)
section
variable{e:KB}{d:KM}{s:dd}
theorem FnW.at{g:cv}{k:ay}(F:FnW c g k)(H:ac c b e d s){q:KN}{t:KH}(w:Vals (aa c.d e d s.heap) e q t):
 (k q d).W λr m=>eo c.M c.A (call (.ref g) t) (aF c b e d s m λF e x=>Val F e r x) NoE s:=
 .of λl l l i u=>ex (F.run _ _ _ _ _ _ _ _ H.rep H.tk w i u) (λx A o=>ai o λv n=>eh n λp R X y=>⟨p,⟨R,v,X.pre _ _ H.fr,λx j h=>let⟨a,h1,h2⟩:=H.cl x j h;(ah a h1 (X.pre _ _ h2))⟩,X,y⟩) λl l z=>z
theorem nh:∀{K:Gw} {C:cv} {h:Str} {i:Hn} {v a:da} (m:JR K C=true) (o:Ih K (.ref C) h=some (some a)) (n:takesIn K a=some false) (l:(specialIn K a "__get__").any (·.isSome)=true) (k:lookIn h i=some (some v)),findObj K C (some i) h=some (.value v):=by
 refine' eI6;intro a v i h C K m o n l k;refine ab (any_some m) λt r p=> ?_;refine ab (any_some l) λg u q=> ?_;(refine au (Gj.mp q) λg j=> ?_;subst j);unfold findObj;have w:PySem.W.ownOf t (some i) h=some (some v):=by unfold PySem.W.ownOf;rwa [if_pos p];exact k
 rwa [r,Option.bind_some _ _,o,Option.bind_some _ _];simp [u,n,w]
theorem kT:∀{K:Gw} {C:cv} {n:Str} (h:eZ K C n=true),JN K C n=true∧JR K C=true∧plainOver K C=true∧Ih K (.ref C) "__setattr__"=some (some (.builtin "object.__setattr__"))∧takerIn K C n=some none∧
 ∃a,Ih K (.ref C) n=some (some a)∧typeIn K a=some (.type "function")∧takesIn K a=some false∧(specialIn K a "__get__").any (·.isSome)=true:=by
 refine' eI3;intro n C K h;unfold eZ at h;simp only [lq,beq_iff_eq]at h;(refine nz h ?_;clear h;intro h1 h2 h3 i j g);refine(xd h1 h2 h3 i j ?_)
 split at g
 ·simp only [lq,beq_iff_eq]at g
  exact(iz _ (‹_›) g.1 g.2.1 g.2.2)
 ·exact ftB g
theorem wd:∀{i j:Nat} {C a r:cv} {x:KL} {n:Str} {g:cv} {m:Nat} {l:ay} {y:Hk Bool} {Q:da×List da→dd→Prop} (G:aG c b) (H:ac c b e d s) (B:d[i]? =some (.inst C j)) (J:d[j]? =some (.ns x)) (N:e[i]? =some a) (L:lkS n b.owns=some (C,g,m,l)) (A:lk n x=some (.adr r)) (h:Q (.ref r,[]) {s with toks:=s.toks+1}),eo c.M c.A (JQ (.ref a) n y) Q NoE s:=by
 revert c b e d s;refine no_implicit_lambda% (@Mine.pd _ (@Mine.pd _ ?_));refine' eI19;intro Q y l m g n x r a C j i s d e b c _ _ G H B J N L A h;refine ab G.tab λK hK T=> ?_;have X:K.In s.heap:=λa o k=>H.rep.base _ _ (hK a o k);refine nv (H.inst B J N) λdx sl Y m h1 I h2 E=> ?_;obtain⟨U,P,-,-,-,fv,F,Z,W,R⟩:=kT (T.owns _ _ _ _ _ L);have g:=hY (n:=n) E;rw [A]at g;(refine ab g ?_;clear g;intro u D O);cases O;have w:=JE U;have p:eo c.M c.A (getAttr (.ref a) n) (λv s=>Q (v,[]) s) NoE s:=get_value X I w.1 (nh P F W R D) rfl h;have q:=PySem.F.canon_object_ga;refine dV (dV (I.type.here ((J0 X w.1).here ?_)));dsimp only;rwa [q,if_neg (by decide)]
 refine dV (dV (I.type.here ((J0 X w.2).here ?_)));refine dV (dV (I.type.here ((J0 X F).here (dV ((looks_typeIn X Z).here ?_)))));rwa [if_neg (by decide+kernel)]
 refine dV (Jq I.at_ ?_);refine dV (dV (Jq h2 ?_));rwa [nsLook_of (show lookIn n (dictOf Y m)=some (some (.ref r))from(lookIn_dict ..).trans D)];exact eM (dV (ex p (λt t z=>eM z) λt t z=>z))
theorem xV:∀{g:cv} {i:ay} {m:Expr} {j:List Expr} {p:nR} (G:aG c b) (O:bV c b f) (q:mv b m=some (g,i)),gn c b (Gu (.Call m j [] p) c.env) (zS f g i m j):=by
 revert c b f;refine' eI8;intro p j m i g f b c G O q;exact λe d s H=>by
  (refine ai (rU q) λR k=> ?_;refine au k ?_;clear k;intro x D);have F:=G.wns x g i D;refine(O.E _).seq H (λl l h=>Call_ h (nk R)) λY U u s1 E P B t=> .of λl l l a v=>bB a v λl W m2 l L A J z=>bB J z λl r m3 l K I y T=> ?_;(refine ax (Mine.Res.ok.inj y) λk o n=> ?_;subst k;subst o;subst n);rw [T.1]at t;cases t;exact cU B (dq O F.keep P L A λus Z N w X C=>cU X ((F.at w C).use K I))
theorem yJ:∀{C z:cv} {m:Nat} {j:ay} {o:Expr} {n:Str} {v p:nR} {k:List Expr} (G:aG c b) (O:bV c b f) (A:lkS n b.owns=some (C,z,m,j)),gn c b (Gu (.Call (.Attribute o n v) k [] p) c.env) (AE f C z m j o n v k p):=by
 revert c b f;refine' eI12;intro k p v n o j m z C f b c G O A;exact λe d s H=>
  eK λD=>(O.E o).seq H (λl l=>ki (ne (c:=c) D).1) λx m1 u s1 Y B T I=>jh λi C' g fs Z L W=> .of λl l l h K=>bB h K λl xs m2 l J E y R=>bB y R λl r m3 l e3 p3 P p4=>by
   (refine ax (Mine.Res.ok.inj P) λq w t=> ?_;subst q;subst w;subst t);subst Z;obtain⟨rfl,y,-⟩:=p4;(refine ab I ?_;clear I;intro a ha q;subst q);have F:=G.owns _ _ _ _ _ A;refine ai (B.same (s':={s1 with toks:=s1.toks+1}) rfl rfl rfl (oa B.tk)) λH2 X2=> ?_
   exact jT D (eP.use J E) (λl l=>wd G B L W ha A y) (cU (T.trans X2) (dq O F.keep H2 J E λus s' a0 N X U=>cU X ((np F N U).use e3 p3)))
theorem w3:∀{k:Expr} {j:List Expr} {p:nR} (G:aG c b) (O:bV c b f),gn c b (Gu (.Call k j [] p) c.env) (sj b f k j p):=by
 revert c b f;refine' eI6;intro p j k f b c G O;exact λe d s H=>by
  unfold sj;rcases E:oE b k with _|⟨o,n,l,C,hk,m,spec⟩
  ·rcases z:mv b k with _|⟨g,spec⟩
   ·have t:gG k=false→((f.E k d).bind λg d=>(dj f j d).bind λy d=>si b g y d).W λi r=>eo c.M c.A (Gu (.Call k j [] p) c.env) (aF c b e d s r λF e x=>Val F e i x) NoE s:=λJ=>
     (O.E _).seq H (λw w h=>Call_ h (nk J)) λL K u s1 D I B A=>(zF G O I A).post B
    by_cases q:k.ctorIdx=20
    ·refine B8 (Iw (motive_1:=λk=>∃o n l,k= .Attribute o n l) k q λo n l=>⟨o,n,l,rfl⟩) λo n l a=> ?_
     subst a;exact we G O e d s H
    ·exact(dif_neg q).symm▸t (JA.mpr λa=>q (ui a))
   ·exact xV G O z e d s H
  ·(refine ai (rV E) λv h2=> ?_;subst v)
   exact yJ G O h2 e d s H
end
end
end Mine
end
namespace Mine
section
variable{c:Cx}{a:Cfg}{f:Fns}
theorem po(O:bV c a f)(o:Option Expr):gn c a (evalPart o c.env) (rB f o):=by
 intro b d s H
 induction o with
 |none=>exact λg=>wpAny_evalPart_none ⟨b,H,Ext.refl ..,rfl⟩
 |some e=>exact O.E e b d s H
theorem Cg{b:KB}{d:KM}{s:dd}(H:ac c a b d s){g:UnaryOp}{p:nR}{v:V}{u:da}(h:Val (aa c.d b d s.heap) b v u):
 (unV a g p v d).W λr m=>eo c.M c.A (unaryOp g u) (aF c a b d s m λF b x=>Val F b r x) NoE s:=by
 induction g with
 |USub=>exact eI h λi t e j=>by subst e;exact neg_int (H.post rfl rfl rfl (oa H.tk) ⟨_,rfl⟩)
 |_=>trivial
theorem BY{b:KN}(h:Iy b.length 1000=true):b.length≤p9:=by
 have:=ro h;have:=HF
 lia
theorem tn:∀{v i:Expr} {p:nR} (O:bV c a f),gn c a (Gu (.Subscript v i p) c.env) (to f v i):=by
 revert c a f;refine' eI6;intro p i v f a c O;exact λD C s H=>by
  induction i using p8 with
  |Slice l u st q=>induction st with
   |none=>exact(O.E _).seq H (λg g=>Subscript_) λe B u s1 w A r o=>(po O _).seq A (λg g=>wpAny_Slice) λb m2 u2 s2 t z k m=>(po O _).seq z (λg g=>id) λd E u3 s3 x n j y=>
    (vx n (j.val (k.val o)) (j.val m) y).mono λg g h=>wpAny_evalPart_none (cU ((r.trans k).trans j) h)
   |some _=>trivial
  |_=>trivial
theorem Cc{l r:Expr}{g:HV}{e:nR}{d:Env}{M:Ij}{A:GI}{E:KD}{s:dd}{Q:KD}(h:eo M A (Gu l d) (λu s1=>eo M A (Gu r d) (λw s2=>eo M A (binaryOp g u w) Q E s2) E s1) E s):eo M A (Gu (.BinOp l g r e) d) Q E s:=by
 rwa [Kd _ _ _ _ _];exact dV (ex h (λb b h=>dV (A9 (ex h (λb b h=>dV (Hc (J1 h))) λb b z=>z))) λb b z=>z)
theorem Eo{x:Str}{d:nR}{b:Env}{M:Ij}{A:GI}{E:KD}{s:dd}{Q:KD}(e:af x "__debug__"=false)(h:eo M A (loadName b x) Q E s):eo M A (Gu (.Name x d) b) Q E s:=by
 rwa [arm_eval_Name _ _ _];refine dV (Hc ?_);rwa [if_neg λq=>by rw [aB.mpr (beq_iff_eq.mp q)]at e;exact tfB e]
 exact h
theorem vt(G:aG c a)(O:bV c a f)(e:Expr):gn c a (Gu e c.env) (xn a f e):=by
 revert G O;revert c a f e;refine' eI4;intro e f a c G O;intro C B s H
 induction e using p8 with
 |Constant k d b=>exact wU k C B s H
 |Name x p=>exact eK λhd=>(qF G.ok C B s H).mono λg g=>Eo hd
 |BoolOp J es p=>exact w5 O _ _ _ C B s H
 |BinOp l J r p=>exact(O.E _).seq H (λg g=>Cc) λd A u s1 z j q m=>(O.E _).seq j (λg g=>id) λb m2 w s2 K U D E=>(BQ U (D.val m) E).post (q.trans D)
 |UnaryOp J x p=>exact(O.E _).seq H (λg g=>UnaryOp_) λd A u s1 z j q m=>(Cg j m).post q
 |IfExp t d b p=>
  refine(O.T _).seq H (λg g=>IfExp_) λy A u s1 z j q m=> ?_;subst m
  induction u with
  |true=>exact(O.E _ _ _ _ j).post q
  |false=>exact(O.E _ _ _ _ j).post q
 |Compare l a0 rs p=>exact jJ λJ T=>jJ λr N=>by subst T N;exact wV G.ok O C B s H
 |Attribute w n p=>
  exact eK λhc=>(O.E _).seq H (λg g h=>Attribute_any_ h (by
   have:Gu (.Attribute w n p) c.env=(do
    let o←attributeBase w n c.env (Gu w c.env)
    standAt p.atName
    let r←holding [o] (getAttr o n true)
    letTemporaryGo w o r
    pure r):=rfl
   (rwa [this,kL hc];rfl))) λd A u s1 z j q m=>(qW G j m).post q
 |Subscript v i p=>exact Bi (λg=>tn O C B s H) λg=>(O.E _).seq H (λg g=>Subscript_) λd A u s1 z j q m=>(O.E _).seq j (λg g=>id) λb m2 u2 s2 K U D E=>(zh U (D.val m) E).post (q.trans D)
 |Call fe Z kw p=>exact eU λe=>by subst e;exact w3 G O C B s H
 |Tuple es k p=>
  exact(lG O _ _).seq H (λg g=>Tuple_) λI A Y s1 z j q m=>eJ λR g=>Ke
   ((fC (s':={s1 with heap:=s1.heap.push {cls:= .type "tuple",data:= .seq Y.toArray}}) j rfl rfl rfl rfl j.tk (v:= .ftup I) λF hF L=>⟨_,_,_,0,rfl,hF,rfl,rfl,Vals.mono L (λg g h=>h) _ _ m⟩).trans q) (by rwa [Vals.len _ _ m];exact BY R)
 |List es p=>
  exact(lG O _ _).seq H (λg g=>List_) λI A Y s1 z j q m=>eJ λR g=>wpAny_newList
   ((j.alloc (o:= .list I) (s':={s1 with heap:=s1.heap.push {cls:= .type "list",data:= .seq Y.toArray}}) (fx _) (by dsimp only;rwa [sm _ _];exact ph _) (λg g h=>g0 _ h) rfl rfl j.tk
    λF W L P=>⟨_,0,Gl _ rfl,Vals.mono L P _ _ m⟩).trans q) (by rwa [Vals.len _ _ m];exact BY R)
 |Dict ks vs p=>
  exact eU λT=>eU λN g=>by
   subst T N;exact wpAny_Dict_empty (H.alloc (o:= .dict []) (s':={s with heap:=s.heap.push _}) (fx _) (by dsimp only;rwa [sm _ _];exact ph _) (λg g h=>g0 _ h) rfl rfl H.tk
    λF W L P=>⟨[],Gm.DictOf.new s.heap,rfl⟩)
 |_=>trivial
theorem nK{e:Expr}(h:jP e=true)(d:Env)(b:Hk da):A0 e d b=(do let v←b;standAt e.pos;holding [v] (JY v)):=by
 exact ir ((λq=>by induction q using p8<;>first|exact(rfl:(do let v←b;standAt (by assumption);holding [v] (JY v):Hk Bool)=_)|exact trivial:∀q,bif !jP q then True else A0 q d b=(do let v←b;standAt q.pos;holding [v] (JY v))) e) (h▸rfl)
theorem vr(G:aG c a)(O:bV c a f)(e:Expr):sK c a (A0 e c.env (Gu e c.env)) (xm a f e):=by
 revert G O;revert c a f e;refine' eI4;intro e f a c G O;intro q d s H;have j:(onB (jP e) ((f.E e d).bind λv d=>tru a e.pos v d)).W λb m=>eo c.M c.A (A0 e c.env (Gu e c.env)) (aF c a q d s m λg g x=>x=b) NoE s:=
  eJ λy=>(O.E _).seq H (λg g h=>isTrue_plain h (nK y _ _)) λx w u s1 i t o n=>(sU t n).post o
 induction e using p8 with
 |UnaryOp k x p=>induction k with
  |Not=>
   refine(O.T _).seq (f:=λb d=>Res.ok [] (!b) d) H (λg g=>isTrue_not) λb w u s1 i t o n=> ?_;subst n;exact λg=>⟨i,t,o,rfl⟩
  |_=>trivial
 |BoolOp k D p=>exact zR O _ _ _ _ q d s H
 |Compare l z C p=>exact jJ λk B=>jJ λr A=>by subst B A;exact wW G.ok O q d s H
 |_=>exact j
end
end Mine
section
set_option backward.match.sparseCases false
namespace Mine
noncomputable def iQ(e:Expr):Bool:=Nat.beq e.ctorIdx 8||(Nat.beq e.ctorIdx 9||Nat.beq e.ctorIdx 10)
noncomputable def bT(e:Expr):Bool:=Nat.beq e.ctorIdx 25||Nat.beq e.ctorIdx 24
def vA(a:Cfg)(v:V)(n:Str)(x:V)(b:KM):Res Unit:=jQ v b λe C d c=>onB (jZ C n a.plain) (onB (Iy c.length 800) (.ok [] () (b.set d (.ns (bS n x c)))))
def vz(v i x:V)(a:KM):Res Unit:=f7 v a λj o=>match o with
 | .dict fs=>b9 i λk=> .ok [fs.length≤p9] () (a.set j (.dict (bS k x fs)))
 | .list xs=>d5 i λk=> .ok [0≤k,k < xs.length,xs.length≤p9] () (a.set j (.list (xs.set k.toNat x)))
 |_=> .err ""
def gI(f:Fns):List Expr→List V→List AO→Res Unit
 |[],b,a=>ii b (.ok [] () a)
 |t::ts,b,a=>noB (dD t) (hdL b λx b=>(f.A t x a).bind λc a=>gI f ts b a)
def oV(b:Cfg):List Str→List V→List AO→Res Unit
 |[],c,a=>ii c (.ok [] () a)
 |t::ts,c,a=>hdL c λx c=>(jI b t x a).bind λd a=>oV b ts c a
def tq(C:cv)(n:Str)(e v:V)(a:KM):Res Unit:=jQ e a λf c d b=> .ok [c=C,b.length≤800] () (a.set d (.ns (bS n v b)))
def xo(b:Cfg)(f:Fns)(t:Expr)(v:V)(a:KM):Res Unit:=match t with
 | .Name x _=>jI b x v a
 | .Attribute o n _=>(f.E o a).bind λc a=>match lkS n b.sets with
  |some C=>tq C n c v a
  |none=>vA b c n v a
 | .Subscript o i _=>(f.E o a).bind λc a=>(f.E i a).bind λd a=>vz c d v a
 | .Tuple ts _ _=>(match v with
  | .ftup xs=>onB (Nat.beq ts.length xs.length) (gI f ts xs a)
  | .ref j=>atO a j λo=>match o with
   | .list xs=>onB (Nat.beq ts.length xs.length) (gI f ts xs a)
   |_=> .err ""
  |_=> .err "")
 |_=> .err ""
def sv(d:HV)(a b:V)(c:KM):Res V:=match a with
 | .int i=>d5 b λj=>(match d with
  | .Add=> .ok [] (.int (i+j)) c
  | .Sub=> .ok [] (.int (i -j)) c
  |_=> .err "")
 | .str x=>b9 b λy=>(match d with
  | .Add=> .ok [x.length+y.length≤p9] (.str (x++y)) c
  |_=> .err "")
 |_=> .err ""
section
variable{c:Cx}{b:Cfg}{f:Fns}{a:KB}{d:KM}{s:dd}
theorem tu(G:aG c b)(H:ac c b a d s){v x:V}{u w:da}{n:Str}(l:Val (aa c.d a d s.heap) a v u)(p:Val (aa c.d a d s.heap) a x w):
 (vA b v n x d).W λj m=>eo c.M c.A (setAttr u n w) (aF c b a d s m λj j j=>True) NoE s:=
 jh λi C g t e o q=>eJ λh1=>eJ λh2 j=>by
  subst e;(refine ab l ?_;clear l;intro h r k;subst k);exact xa G H o q r h1 (h9 (ro h2) (by decide)) p
theorem KVs.stored{F o:aA}{k:Str}{x:V}{w:da}(L:Le F o)(E:Val o a x w):∀{D:KL} {i:List (Str×da)},KVs F a D i→(i.map (·.1)).Nodup→
 KVs o a (bS k x D) (if i.any (λg=>g.1=k)then i.map (λg=>if g.1=k then(g.1,w)else g)else i++[(k,w)]):=by
 intro u
 induction u with
 |nil=>
  intro i h _;rwa [show i=[]from h];exact⟨w,[],rfl,E,rfl⟩
 |cons A D m=>
  obtain⟨n,y⟩:=A;intro _ l B;(refine bg l ?_;clear l;intro v r h1 h2 h3);subst h1;rw [GJ,GK]at B;unfold bS
  by_cases q:k=n
  ·subst q
   rwa [aB.mpr rfl];have t:r.map (λg=>if g.1=k then(g.1,w)else g)=r:=by
    have:∀g∈r,(if g.1=k then(g.1,w)else g)=g:=λg C=>if_neg λe=>B.1 (Hr.mpr (ah g C e));rwa [List.map_congr_left this];simp
   simp only [JI,decide_true,Bool.true_or,if_true,GJ,t];exact⟨w,r,rfl,E,KVs.mono L (λj j h=>h) _ _ h3⟩
  ·have H:af k n=false:=ee q
   rwa [H];have z:=m h3 B.2;have G:¬n=k:=λe=>q e.symm;simp only [JI,decide_eq_false G,Bool.false_or,GJ,if_neg G,HU]
   split at z
   ·rename_i p;rwa [if_pos p];exact⟨v,_,rfl,Val.mono L (λj j h=>h) _ _ h2,z⟩
   ·rename_i p;rwa [if_neg p];exact⟨v,_,rfl,Val.mono L (λj j h=>h) _ _ h2,z⟩
theorem KVs.len{F:aA}:∀{k:KL} {e:List (Str×da)},KVs F a k e→e.length=k.length:=by
 intro j
 induction j with
 |nil=>
  intro e h;rwa [show e=[]from h];rfl
 |cons i k g=>
  obtain⟨n,y⟩:=i;intro _ l;(refine bg l ?_;clear l;intro v r h1 h2 h3);exact by subst h1;(rwa [ix,ix,g h3];rfl)
theorem Vals.set{F i:aA}{x:V}{w:da}(L:Le F i)(l:Val i a x w)(n:Nat):∀{e:KN} {k:KH},Vals F a e k→Vals i a (e.set n x) (k.set n w):=by
 induction n with
 |zero=>
  refine λ{e}=>e.casesOn (λh=>(show _=[]from h)▸rfl) λy e j=> ?_;refine bg j λv r h1 h2 h3=> ?_;subst h1;exact⟨w,r,rfl,l,Vals.mono L (λg g h=>h) _ _ h3⟩
 |succ n m=>
  refine λ{e}=>e.casesOn (λh=>(show _=[]from h)▸rfl) λy e j=> ?_;refine bg j λv r h1 h2 h3=> ?_;subst h1;exact⟨v,_,rfl,Val.mono L (λg g h=>h) _ _ h2,m h3⟩
theorem vo:∀{l:A8} {w:Gv} {A:GI} {E:KD} {s:dd} {g:cv} {h:Array da} {n j:Nat} {k:Int} {t:Tok} {v:da} {Q:Unit→dd→Prop} (p:s.heap.get? g=some {cls:= .type "list",data:= .seq h n}) (C:k=j) (B:j < h.size) (z:k < 2^63) (y:∀u m,HH g s.heap u→u.get? g=some {cls:= .type "list",data:= .seq (h.setIfInBounds j v) m}→Q () {s with heap:=u}),eo (GO l w) A (setItem (.ref g) (.int k t) v) Q E s:=by
 refine' eI13;intro Q v t k j n h g s E A w l p C B z y;have q:s.heap.IsList g h:=⟨_,p,rfl,n,rfl⟩;have D:h[j]? =some h[j]:=Hm B;have i:∃m,(s.heap.update g (Hn.mapSeq (·.setIfInBounds j v))).get? g=some {cls:= .type "list",data:= .seq (h.setIfInBounds j v) m}:=by
  have e:∃m,Hn.mapSeq (·.setIfInBounds j v) {cls:= .type "list",data:= .seq h n}={cls:= .type "list",data:= .seq (h.setIfInBounds j v) m}:=by
   unfold Hn.mapSeq;exact(fJ _ rfl)
  (refine au e ?_;clear e;intro m e);exact(fJ m (by(rwa [HD _ p (by rw [e];rfl),e];rfl)))
 (refine au i ?_;clear i;intro m i);have o:=y _ m (Iv ..) i;have x:=fitsIndex_of (k:=k) (by omega) z
 clear z y;unfold setItem
 with_reducible refine A9 ?_
 refine dV (wpAny_sequenceKey q.typeIs (by decide) ?_)
 refine dV (wpAny_callSpecial?_slot (name:=cs "__setitem__") q.typeIs slot_list_setitem
  (JM slot_list_setitem q.typeIs entry_list_setitem ?_ (args_list_setitem _ _ _)))
 show eo _ _ (I9.List.listSubscript? (.int k t)>>=_) _ _ s;refine dV (wpAny_listSubscript_int x ?_);subst C;show eo _ _ ((seqItemAt g j>>=λr=>pure (r.map (j,·)))>>=_) _ _ s;refine dV (dV (wpAny_seqItemAt p rfl (eM ?_)));rwa [D];show eo _ _ (setSeqItemAt g j v>>=_) _ _ s;refine dV (wpAny_setSeqItemAt p rfl ?_)
 first
  |exact eM (ah .none rfl (eM o))
  |exact dV (eM (eM ⟨.none,rfl,eM o⟩))
theorem tr:∀{v i x:V} {u r w:da} (H:ac c b a d s) (I:Val (aa c.d a d s.heap) a v u) (y:Val (aa c.d a d s.heap) a i r) (C:Val (aa c.d a d s.heap) a x w),(vz v i x d).W λl m=>eo c.M c.A (setItem u r w) (aF c b a d s m λl l l=>True) NoE s:=by
 revert c b a d s;refine' eI11;intro w r u x i v s d a b c H I y C;refine fW H I λj g o e O N q=> ?_;subst e
 induction o with
 |dict P=>
  refine cj y λk t e p=> ?_;subst e;(refine ab q ?_;clear q;intro T B K);refine wpAny_setItem_pairs (Jr _ _ k t) B (λA z G=>dI (s':={s with heap:=A,toks:=s.toks+1}) (o':= .dict (bS k x P)) H O N rfl G rfl rfl (oa H.tk) (λF L=>⟨_,z, ?_⟩) λl l=>trivial) (by rwa [KVs.len K];exact p.1)
  (refine FW B ?_;clear B;intro l l l l l l l l Y);exact KVs.stored L (Val.mono L (λl l h=>h) _ _ C) K Y
 |list J=>
  refine eI y λk t e p=> ?_;subst e;(refine aS q ?_;clear q;intro D n q h3);have U:J.length=D.size:=by(rwa [←iy,Vals.len _ _ h3];rfl)
  (refine au (Ix p.1) λj E=> ?_;subst E);refine vo q rfl (by rwa [←U];exact Hw.mp p.2.1) (Int.lt_trans p.2.1 (ij p.2.2.1)) λA m G R=>dI (s':={s with heap:=A}) (o':= .list (J.set j x)) H O N rfl G rfl rfl H.tk (λF L=>⟨_,m,R, ?_⟩) λl l=>trivial
  rwa [Array.toList_setIfInBounds];exact Vals.set L (Val.mono L (λl l h=>h) _ _ C) j h3
 |_=>trivial
theorem vy(G:aG c b)(H:ac c b a d s){l v:V}{u x:da}{n:Str}{C:cv}(o:Val (aa c.d a d s.heap) a l u)(y:Val (aa c.d a d s.heap) a v x)(E:lkS n b.sets=some C):
 (tq C n l v d).W λk m=>eo c.M c.A (setAttr u n x) (aF c b a d s m λk k k=>True) NoE s:=
 jh λi J g I e q A p=>by
  subst e;(refine ax p ?_;clear p;intro j z k;subst j);(refine ab o ?_;clear o;intro h B j;subst j);refine ab G.tab λK F T=> ?_;obtain⟨-,r,w,D,t,-⟩:=kT (T.sets _ _ E);exact n9 F H q A B r D w t (h9 z (by decide)) y
end
end Mine
end
namespace Mine
section
variable{c:Cx}{d:Cfg}{f:Fns}{b:KB}{e:KM}{s:dd}
theorem ac.moreX(H:ac c d b e s){h':Gm}{k:Nat}(i:∀a g,s.heap.get? a=some g→h'.get? a=some g)(j:s.heap.objs.size≤h'.objs.size)(h:1≤k):
 ac c d b e {s with heap:=h',toks:=k}∧Ext b e s b e {s with heap:=h',toks:=k}:=
 let⟨R',X⟩:=H.rep.grow (s':={s with heap:=h',toks:=k}) i j rfl rfl
 ⟨⟨R',h,H.fr,H.cl⟩,X⟩
theorem kj{g:Type}{M:Ij}{A:GI}{t:Hk g}{Q:g→dd→Prop}{s:dd}(h:eo M A t (λx i=>s.heap.objs.size≤i.heap.objs.size→Q x i) NoE s):eo M A t Q NoE s:=
 yq (ex h (λa a z=>z) λa a z=>sq z)
theorem lU(C:cZ c d)(H:ac c d b e s){l:KN}{u:da}{n:Nat}(r:Val (aa c.d b e s.heap) b (.ftup l) u)(B:n=l.length){Q:List da→dd→Prop}
 (k:∀w j,ac c d b e j→Ext b e s b e j→Vals (aa c.d b e j.heap) b l w→Q w j):eo c.M c.A (unpackItems u n none) Q NoE s:=by
 (refine dJ r ?_;clear r;intro a o i m p h h1 h2 h3;subst p;(refine ax h ?_;clear h;intro x x D));have T:IsTup s.heap a i:=⟨o,D,h1,m,h2⟩;have A:n=i.size:=by(rwa [B,←iy,Vals.len _ _ h3];rfl)
 subst A;refine kj (unpackItems_tuple C.handled T λv z q=> ?_);refine ai (H.moreX (h':=v) (k:=s.toks) (λg o t=>z g o (HG (wl t)) t) q H.tk) λy X=> ?_;exact k _ _ y X (X.vals h3)
theorem fI{t:Expr}{r:List Expr}{a:Env}(h:dD t=false):assignEach (t::r) a=(false,I5 t a)::assignEach r a:=by
 induction t using p8<;>first|rfl|exact tfB h
theorem n8{p l:cv}{g:Array da}(q:l≠p){M:Ij}{A:GI}{E:KD}{t:A8}{w:Gv}(B:M=GO t w):∀(n i:Nat) (s:dd) (Q:List da→dd→Prop),s.heap.IsListIter p l i→s.heap.IsList l g→i+n≤g.size→
 (∀y,y.IsListIter p l (i+n)→HH p s.heap y→Q ((g.toList.drop i).take n) {s with heap:=y})→eo M A (draw (.ref p) n) Q E s
 |0,i,s,Q,hit,_,_,hQ=>by
  show eo _ _ (pure []) Q E s;exact eM (by simpa using hQ s.heap hit (HH.refl ..))
 |n+1,i,s,Q,hit,ht,hle,hQ=>by
  have u:i < g.size:=by exact Lle [_,_,_] [Q0 (.a V0 (.a V1 Z0)) V2] 0 (.a V0 Z0) V2 rfl hle
  show eo _ _ (pyNext (.ref p)>>=_) Q E s;subst B;refine dV (wpAny_pyNext_list_item hit ht (x:=g[i]) (by simp+arith) λz k j=> ?_)
  refine dV (A9 (n8 q rfl n (i+1) _ _ k (ht.extBut j.extBut q) (by exact Lle [_,_,_] [Q0 (.a V0 (.a V1 Z0)) V2] 0 (.a (.a V0 Z0) V1) V2 rfl hle) λr m o=>eM ?_))
  have C:g.toList.drop i=g[i]::g.toList.drop (i+1):=by simp [Je,u]
  have:=hQ r (by rwa [show i+(n+1)=i+1+n by exact Leq [_,_] [] 0 (.a V0 (.a V1 Z0)) (.a (.a V0 Z0) V1) rfl];exact m) (j.trans o)
  rw [C,List.take_succ_cons]at this;exact this
theorem k7:∀{l:cv} {j:Array da} {E:KD} {Q:List da→dd→Prop} {n:A8} {w:Gv} {A:GI} (G:A.handled=none) (t:s.heap.IsList l j) (H:∀F,Gm.ExtBut s.heap.objs.size s.heap F→Q j.toList {s with heap:=F}),eo (GO n w) A (unpackItems (.ref l) j.size none) Q E s:=by
 revert s;refine' eI8;intro A w n Q E j l s G t H;have x:l≠s.heap.objs.size:=by(refine ab t ?_;clear t;intro o I J);exact HG (wl I)
 refine dV ?_
 ·skip
  refine dV (wpAny_specialOf t.typeIs slot_list_iter.lookup ?_);refine eM ?_;refine dV (A9 (wpAny_pyIter_list t ?_));have C:∀i o,s.heap.get? i=some o→(s.heap.push {cls:= .type "list_iterator",data:= .fields #[.ref l, .int 0 0]}).get? i=some o:=λi o h=>g0 _ h;have y:(s.heap.push {cls:= .type "list_iterator",data:= .fields #[.ref l, .int 0 0]}).IsList l j:=let⟨o,h,r⟩:=t;⟨o,C _ _ h,r⟩;refine dV (A9 (n8 x rfl j.size 0 _ _ ⟨_,Gl _ rfl,rfl,rfl⟩ y (by exact Lle [_] [] 0 (.a Z3 V0) V0 rfl) λz m k=> ?_))
  have u:JS j.size (List.drop 0 j.toList)=j.toList:=by
   rwa [Jt];exact GN (by constructor)
  rwa [u];rwa [if_neg (by simp)]
  have q:z.IsList l j:=y.extBut k.extBut x;refine dV (A9 (wpAny_pyNext_list_end G m q (by simp) λB p=> ?_))
  refine eM (H B λi o D g=>p i o D (k.extBut i o D (C _ _ g)))
theorem q0(C:cZ c d)(H:ac c d b e s){i:KN}{j:Nat}{u:da}{n:Nat}(r:Val (aa c.d b e s.heap) b (.ref j) u)(A:e[j]? =some (.list i))(B:n=i.length){Q:List da→dd→Prop}
 (k:∀w h,ac c d b e h→Ext b e s b e h→Vals (aa c.d b e h.heap) b i w→Q w h):eo c.M c.A (unpackItems u n none) Q NoE s:=by
 (refine ab r ?_;clear r;intro a E p;subst p);refine aS (H.rep.objs _ _ _ E A) λl m D h3=> ?_;have z:n=l.size:=by(rwa [B,←iy,Vals.len _ _ h3];rfl)
 subst z;refine kj (k7 C.handled ⟨_,D,rfl,m,rfl⟩ λv y q=> ?_);refine ai (H.moreX (h':=v) (k:=s.toks) (λg o t=>y g o (HG (wl t)) t) q H.tk) λx X=> ?_;exact k _ _ x X (X.vals h3)
theorem kb{f:Fns}{env:Env}:∀{j:List Expr} {i:KN} {e:KM},(gI f j i e).W λg g=>(assignEach j env).findIdx? (·.1)=none∧(assignEach j env).length=i.length
 |[],i,e=>eU λa g=>by subst a;exact⟨rfl,rfl⟩
 |t::j,i,e=>eK λk=>by
  induction i using kv with
  |nil=>trivial
  |cons x i=>exact .bind (.of λg g g g g=>kb.mono λg g h=>by
   rwa [fI k];exact⟨by rwa [List.findIdx?_cons,h.1];rfl,by(rwa [ix,ix,h.2];rfl)⟩)
theorem uU(O:bV c d f):∀(o:List Expr) (i:KN) {b:KB} {e:KM} {s:dd} {j:KH},ac c d b e s→Vals (aa c.d b e s.heap) b i j→
 (gI f o i e).W λg m=>eo c.M c.A (assignInOrder ((assignEach o c.env).map (·.2)) j) (aF c d b e s m λg g g=>True) NoE s:=by
 intro n
 induction n with
 |nil=>
  intro i b e s j H l;exact eU λa g=>by
   subst a;cases l;exact eM ⟨b,H,Ext.refl ..,KP⟩
 |cons t o k=>
  intro i b e s j H l;exact eK λz=>js l λx i u r a q w=>by
   subst a;rwa [fI z];exact(O.A t x b e s u H q).seq (R:=λg g g g=>True) (λg g h=>dV (A9 h)) λg A g s1 v y p g=>(k i y (p.vals w)).post p
theorem vp(C:cZ c d):∀(l:KA) (i:KN) {b:KB} {e:KM} {s:dd} {j:KH},ac c d b e s→Vals (aa c.d b e s.heap) b i j→
 (oV d l i e).W λg m=>eo c.M c.A (assignInOrder (l.map λn=>bindName c.env n) j) (aF c d b e s m λg g g=>True) NoE s:=by
 intro p
 induction p with
 |nil=>
  intro i b e s j H o;exact eU λa g=>by
   subst a;cases o;exact eM ⟨b,H,Ext.refl ..,KP⟩
 |cons n l k=>
  intro i b e s j H o;exact js o λx i u r a t w=>by
   subst a;exact(km C t H).seq (R:=λg g g g=>True) (λg g h=>dV (A9 (wpAny_bindName h))) λg z g s1 v y q g=>(k i y (q.vals w)).post q
theorem kZ(O:bV c d f){n:List Expr}{i:KN}{k:Nat}{p:nR}{u:da}(H:ac c d b e s)
 (v:∀Q:List da→dd→Prop,(∀j g,ac c d b e g→Ext b e s b e g→Vals (aa c.d b e g.heap) b i j→Q j g)→eo c.M c.A (unpackItems u i.length none) Q NoE s):
 (gI f n i e).W λa m=>eo c.M c.A (I5 (.Tuple n k p) c.env u) (aF c d b e s m λa a a=>True) NoE s:=
 .of λa a a h l=>by
  refine ai ((kb (env:=c.env)).use h l) λq t=> ?_;rwa [assign_Tuple _ _ _ _];refine dV (Hc ?_);unfold unpack;rwa [q,t];exact dV (A9 (v _ λj g o X r=>cU X ((uU O _ _ o r).use h l)))
theorem vu(G:aG c d)(O:bV c d f)(t:Expr)(v:V)(b:KB)(e:KM)(s:dd)(u:da)(H:ac c d b e s)(g:Val (aa c.d b e s.heap) b v u):
 (xo d f t v e).W λa m=>eo c.M c.A (I5 t c.env u) (aF c d b e s m λa a a=>True) NoE s:=by
 revert G O H g;revert c d f t v b e s u;refine' eI9;intro u s e b v t f d c G O H g
 induction t using p8 with
 |Name x p=>exact(km G.ok g H).mono λa a=>PyProof.Rows.assign_Name
 |Attribute o n p=>
  refine(O.E _).seq H (λa a=>kas_attr) λx B o s1 w r h l=> ?_;cases J:lkS n d.sets with
  |none=>exact(tu G r l (h.val g)).post (R:=λa a a a=>True) h
  |some C=>exact(vy G r l (h.val g) J).post (R:=λa a a a=>True) h
 |Subscript o i p=>
  exact(O.E _).seq H (λa a=>kas_sub) λx B o s1 w r h l=>(O.E _).seq r (λa a=>id) λy m2 i s2 E I z A=>(tr I (z.val l) A ((h.trans z).val g)).post (R:=λa a a a=>True) (h.trans z)
 |Tuple K k p=>
  induction v using Mine.V.casesOn with
  |ftup D=>exact eJ λa=>kZ O H λQ q=>lU G.ok H g rfl q
  |ref j=>
   refine dN λo F=> ?_
   induction o with
   |list D=>exact eJ λa=>kZ O H λQ q=>q0 G.ok H g F rfl q
   |_=>trivial
  |_=>trivial
 |_=>trivial
theorem pZ(H:ac c d b e s){l:HV}{x y:V}{u v:da}(n:Val (aa c.d b e s.heap) b x u)(w:Val (aa c.d b e s.heap) b y v):
 (sv l x y e).W λg m=>eo c.M c.A (inplaceOp l u v) (aF c d b e s m λF b r=>Val F b g r) NoE s:=by
 induction x using Mine.V.casesOn with
 |int i=>
  (refine au n ?_;clear n;intro t h;subst h);refine eI w λj q a=> ?_;subst a
  induction l with
  |Add=>exact λo=>iadd_int (H.post rfl rfl rfl (oa H.tk) ⟨_,rfl⟩)
  |Sub=>exact λo=>isub_int (H.post rfl rfl rfl (oa H.tk) ⟨_,rfl⟩)
  |_=>trivial
 |str i=>
  (refine au n ?_;clear n;intro t h;subst h);refine cj w λj q a=> ?_;subst a
  induction l with
  |Add=>exact λp=>dO H.tk (SBL.iadd (hsz:=p.1) λq k o z=>H.post rfl rfl rfl z ⟨_,rfl⟩)
  |_=>trivial
 |_=>trivial
end
end Mine
section
set_option backward.match.sparseCases false
namespace Mine
noncomputable def fB:V→Option (Bool×List V)
 | .flist xs=>some (false,xs)
 | .fstrs ss=>some (false,ss.map .str)
 | .ftup xs=>some (true,xs)
 |_=>none
section
variable{c:Cx}{e:Cfg}{f:Fns}{a:KB}{d:KM}{s:dd}
theorem pG:∀{F:aA} {v:V} {u:da} {i:Bool} {j:KN} (k:Val F a v u) (h:fB v=some (i,j)),∃b o g n,u= .ref b∧F b o∧o.cls= .type (if i then "tuple" else "list")∧o.data= .seq g n∧Vals F a j g.toList:=by
 revert a;refine' eI6;intro j i u v F a k h
 induction v using Mine.V.casesOn with
 |flist j=>cases h;exact k
 |fstrs j=>cases h;(refine dJ k ?_;clear k;intro b o g n h1 h2 h3 l m);exact(FM b o g n h1 h2 h3 l (nC m))
 |ftup j=>cases h;exact k
 |_=>exact noS h
theorem ly:∀{v:V} {u:da} {i:Bool} {t:KN} (H:ac c e a d s) (p:Val (aa c.d a d s.heap) a v u) (h:fB v=some (i,t)),eo c.M c.A (pyIter u) (λy q=>y= .ref s.heap.objs.size∧ac c e (a++[s.heap.objs.size]) (d++[.iter i v 0]) q∧Ext a d s (a++[s.heap.objs.size]) (d++[.iter i v 0]) q) NoE s:=by
 revert c e a d s;refine' eI9;intro t i u v s d a e c H p h;(refine dJ (pG p h) λg o m n r l h1 h2 k=> ?_;subst r;(refine ax l ?_;clear l;intro k k w))
 induction i with
 |true=>
  refine iter_tuple (items:=m) ⟨o,w,h1,n,h2⟩ ⟨rfl, ?_⟩;refine ai (H.rep.alloc (a:=s.heap.objs.size) (o:= .iter true v 0) (s':={s with heap:=s.heap.push {cls:= .type "tuple_iterator",data:= .fields #[.ref g, .int 0 0]}}) (fx _) (by dsimp only;rwa [sm _ _];exact ph _) (λk k h=>g0 _ h) rfl rfl
   λL P=>⟨g,Val.mono L P _ _ p,_,Gl _ rfl,rfl,rfl⟩) λR X=> ?_
  exact⟨⟨R,H.tk,X.pre _ _ H.fr,λx j h=>let⟨b,h1,h2⟩:=H.cl x j h;⟨b,h1,X.pre _ _ h2⟩⟩,X⟩
 |false=>
  refine wpAny_pyIter_list (items:=m) ⟨o,w,h1,n,h2⟩ ⟨rfl, ?_⟩;refine ai (H.rep.alloc (a:=s.heap.objs.size) (o:= .iter false v 0) (s':={s with heap:=s.heap.push {cls:= .type "list_iterator",data:= .fields #[.ref g, .int 0 0]}}) (fx _) (by dsimp only;rwa [sm _ _];exact ph _) (λk k h=>g0 _ h) rfl rfl
   λL P=>⟨g,Val.mono L P _ _ p,_,Gl _ rfl,rfl,rfl⟩) λR X=> ?_
  exact⟨⟨R,H.tk,X.pre _ _ H.fr,λx j h=>let⟨b,h1,h2⟩:=H.cl x j h;⟨b,h1,X.pre _ _ h2⟩⟩,X⟩
theorem ac.put(H:ac c e a d s){i:Nat}{g:cv}{o o':AO}{h':Gm}(m:a[i]? =some g)(k:d[i]? =some o)(n:o.live=true)(p:∀b h,b≠g→s.heap.get? b=some h→h'.get? b=some h)(q:s.heap.objs.size≤h'.objs.size)
 (j:∀F,Le (aa c.d a d s.heap) F→AOk c.prog c.w F a h' g o'):ac c e a (d.set i o') {s with heap:=h'}∧Ext a d s a (d.set i o') {s with heap:=h'}:=by
 refine ai (H.rep.upd (o':=o') (s':={s with heap:=h'}) m k n p q rfl rfl (λL=>j _ L)) λl X=> ?_
 exact⟨⟨l,H.tk,H.fr,H.cl⟩,X⟩
theorem nV:∀{m:Nat} {j:cv} {v:V} {k:Bool} {i:Nat} {A:KN} (C:cZ c e) (H:ac c e a d s) (O:d[m]? =some (.iter k v i)) (R:a[m]? =some j) (h:fB v=some (k,A)),eo c.M c.A (pyNext (.ref j)) (λr J=>match r with
 |none=>A[i]? =none∧ac c e a (d.set m .gone) J∧Ext a d s a (d.set m .gone) J
 |some u=>∃x,A[i]? =some x∧Val (aa c.d a (d.set m (.iter k v (i+1))) J.heap) a x u∧ac c e a (d.set m (.iter k v (i+1))) J∧Ext a d s a (d.set m (.iter k v (i+1))) J) NoE s:=by
 revert c e a d s;refine' eI11;intro A i k v j m s d a e c C H O R h;refine ab (H.rep.objs _ _ _ R O) λl Z y=> ?_;(refine dJ (pG Z h) λl' o G n g K h1 h2 h3=> ?_;(refine ax K ?_;clear K;intro D W T));obtain rfl:=HT g;have P:=Vals.len _ _ h3;have a0:l≠j:=λg=>W (g▸⟨m,_,R,O,rfl⟩);have step:∀p x u,HH j s.heap p→A[i]? =some x→G[i]? =some u→qd k p j l (i+1)→
  ∃x,A[i]? =some x∧Val (aa c.d a (d.set m (.iter k v (i+1))) p) a x u∧ac c e a (d.set m (.iter k v (i+1))) {s with heap:=p}∧Ext a d s a (d.set m (.iter k v (i+1))) {s with heap:=p}:=by
  intro p x u B w t q;refine ai (H.put (o':= .iter k v (i+1)) (h':=p) R O rfl (λb ob U h=>(B.2 b U).trans h) (Ha B.1.symm) λF L=>⟨l,Val.mono L (λD D h=>h) _ _ Z,q⟩) λH' X=> ?_;refine ab (Vals.get h3 w) λu' E Y=> ?_;rw [GE,t]at E;obtain rfl:=ds E;exact(iz x w (X.val Y) H' X)
 have z:∀p,Gm.ExtBut j s.heap p→s.heap.objs.size≤p.objs.size→ac c e a (d.set m .gone) {s with heap:=p}∧Ext a d s a (d.set m .gone) {s with heap:=p}:=λp I N=>
  H.put (o':= .gone) (h':=p) R O rfl (λb ob U h=>I b ob U h) N λD D=>trivial
 cases w:A[i]? with
 |some x=>
  refine ab (Vals.get h3 w) λu t D=> ?_;rw [GE]at t
  induction k with
  |true=>exact next_tuple_item y ⟨o,T,h1,n,h2⟩ t λp q B=>w▸step p x u B w t q
  |false=>exact wpAny_pyNext_list_item y ⟨o,T,h1,n,h2⟩ t λp q B=>w▸step p x u B w t q
 |none=>
  have t:G[i]? =none:=by
   rwa [←GE];rw [Jf]at w⊢;exact Lle [_,_,_] [Q1 V0 V1,Q0 V1 V2] 0 V0 V2 rfl P w
  induction k with
  |true=>exact kj (next_tuple_end C.handled y ⟨o,T,h1,n,h2⟩ t λp I N=>(an rfl (z p I N)))
  |false=>exact kj (wpAny_pyNext_list_end C.handled y ⟨o,T,h1,n,h2⟩ t λp I N=>(an rfl (z p I N)))
end
noncomputable def Fl.loop(a:Fl)(b:KM)(k:Res Fl):Res Fl:=match a with
 | .next=>k
 | .cont=> .err ""
 | .brk=> .err ""
 | .ret y=> .ok [] (.ret y) b
def xN(a:Cfg)(p:nR)(v i:V)(b:KM):Res V:=b9 i λk=>f7 v b λc o=>match o with
 | .dict fs=>fR a p (lk k fs) b
 |_=> .err ""
def uR(d:Cfg)(f:Fns)(o i:Expr)(j:nR)(k:HV)(e:Expr)(c:KM):Res Fl:=
 noB (lA i) ((f.E o c).bind λh c=>(f.E i c).bind λg c=>(xN d j h g c).bind λa c=>(f.E e c).bind λb c=>(sv k a b c).bind λr c=>(vz h g r c).bind λl c=> .ok [] .next c)
section
variable{c:Cx}{a:Cfg}{f:Fns}{b:KB}{d:KM}{s:dd}
theorem zE(H:ac c a b d s){p:nR}{v i:V}{u w:da}(j:Val (aa c.d b d s.heap) b v u)(l:Val (aa c.d b d s.heap) b i w):
 (xN a p v i d).W λr m=>eo c.M c.A (getItem u w) (aF c a b d s m λF b x=>Val F b r x) NoE s:=
 cj l λk t e=>by
  subst e;exact uJ (f:=λu=>getItem u (.str k t)) H j λg n x e o h Q q=>by subst e;exact wpAny_getItem_of (Jr _ _ k t) o.mapOf h q
theorem uQ:∀{o i e:Expr} {y p:nR} {x:HV} (O:bV c a f),lK c a (IP (.AugAssign (.Subscript o i y) x e p) c.env) (uR a f o i y x e):=by
 revert c a f;refine' eI9;intro x p y e i o f a c O;exact λb d s H=>
  eK λF=>(O.E _).seq H (λk k h=>wpAny_AugAssign_SubscriptAny h (λm n l=>ir ((λq=>by induction q using p8<;>first|exact(rfl:(do holding [l,m,n] (setItem m n l);release [l,m,n] [];pure .next:Hk Hj)=_)|exact trivial:∀q,bif lA q then True else augStore q m n l=(do holding [l,m,n] (setItem m n l);release [l,m,n] [];pure .next)) i) F)) λm m1 ou s1 N H1 K B=>(O.E _).seq H1 (λk k=>id) λn m2 iu s2 L Z z A=>
   (zE Z (z.val B) A).seq (λk k=>id) λj m3 I s3 P G u U=>(O.E _).seq G (λk k=>id) λg m4 bu s4 D W t E=>(pZ W (t.val U) E).seq (λk k=>id) λr m5 nu s5 a0 Y w C=>
    (tr Y ((((z.trans u).trans t).trans w).val B) (((u.trans t).trans w).val A) C).seq (R:=λk k k k=>True) (λk k=>id) λk m6 k s6 v J T k k=>⟨v,J,((((K.trans z).trans u).trans t).trans w).trans T,rfl⟩
end
end Mine
end
namespace Mine
noncomputable def dP(a:Str→Option J9)(c:List Expr):List Str:=
 let b:=(c.head?.map (·.pos.line)).getD 0
 c.filterMap fun
  | .Name id pos=>if a id==some .local&&pos.line==b then some id else none
  |_=>none
def vm(b c:List Expr)(a:KA):Bool:=
 (b.length==2||b.length==3)&&(c.length==b.length&&(c.all (λe=> !dD e)&&(a.length==b.length&&(a.eraseDups.length==a.length&&(!c.all (foldedForSure 8)&& !c.all (constantsAlone 8))))))
theorem rj:∀{a:Env} {c d:List Expr} {k j:Nat} {p g:nR} (i:a.scope.kind= .function) (h:vm c d (dP a.kindOf c)=true),Ic [.Tuple c k p] (.Tuple d j g) a=pure (some (dP a.kindOf c)):=by
 refine' eI7;intro g p j k d c a i h;unfold vm at h;simp only [lq,JB]at h;(refine FZ h ?_;clear h;intro h1 h2 h3 n v t u);have l:(a.blockKind != .function)=false:=by unfold Env.blockKind;rwa [i];rfl
 have f:(d.any fun| .Starred ..=>true|_=>false)=false:=by
  rw [List.any_eq_false];intro e o;have:=Gf.mp h3 e o
  induction e using p8 with
  |Starred=>exact ftB this
  |_=>exact λh=>ftB h
 have s:(d.length !=c.length)=false:=by simpa using h2
 have m:((dP a.kindOf c).length !=c.length)=false:=by simpa using n
 have r:((dP a.kindOf c).eraseDups.length !=(dP a.kindOf c).length)=false:=by simpa using v
 unfold Ic;dsimp only;rwa [h1,s,l];rwa [if_neg (by decide)]
 refine(if_neg ?_).trans ?_
 ·exact λq=>Gp (f.symm.trans q)
 refine(if_neg ?_).trans ?_
 ·refine λq=>Gp (Eq.trans (b:=(dP a.kindOf c).length !=c.length||(dP a.kindOf c).eraseDups.length !=(dP a.kindOf c).length) (by rwa [m,r];rfl) q)
 rwa [t,u];rfl
def rg(f:Fns)(a:Expr)(c:List k0)(m:Nat)(e:List AO→Res Fl)(d:Bool)(v:V)(i:Nat)(h:KN)(b:KM):Res Fl:=match h[i]? with
 |none=> .ok [] .next (b.set m .gone)
 |some x=>(f.A a x (b.set m (.iter d v (i+1)))).bind λj b=>(am f c b).bind λg b=>g.loop b (e b)
def hU(f:Fns)(a:Expr)(b:List k0)(m:Nat):Nat→List AO→Res Fl
 |0,_=> .err ""
 |n+1,mu=>atO mu m λo=>match o with
  | .iter tup v i=>onO (fB v) λz=>onB (tup==z.1) (rg f a b m (hU f a b m n) tup v i z.2 mu)
  |_=> .err ""
def nr(f:Fns)(t e:Expr)(a:KM):Res Fl:=noB (iQ e||(dD t||(bT t&&bT e))) ((f.E e a).bind λv a=>(f.A t v a).bind λb a=> .ok [] .next a)
def rk(a:Cfg)(f:Fns)(c d:List Expr)(e:Nat)(g:nR)(b:KM):Res Fl:=onB (vm c d (dP (λx=>lkK x a.names) c)) ((f.E (.Tuple d e g) b).bind λv b=>match v with
 | .ftup xs=>onB (Nat.beq xs.length (dP (λx=>lkK x a.names) c).length) ((oV a (dP (λx=>lkK x a.names) c).reverse xs.reverse b).bind λh b=> .ok [] .next b)
 |_=> .err "")
set_option backward.match.sparseCases false in
def FI(b:Cfg)(f:Fns)(t e:Expr)(a:KM):Res Fl:=match t with
 | .Tuple ts k p=>(match e with
  | .Tuple vs k2 p2=>rk b f ts vs k2 p2 a
  |e=>nr f (.Tuple ts k p) e a)
 |t=>nr f t e a
set_option backward.match.sparseCases false in
def BU(d:Cfg)(f:Fns)(t:Expr)(g:HV)(e:Expr)(c:KM):Res Fl:=match t with
 | .Name x _=>(rG d x c).bind λa c=>(f.E e c).bind λb c=>(sv g a b c).bind λr c=>(jI d x r c).bind λj c=> .ok [] .next c
 | .Attribute o n _=>(f.E o c).bind λh c=>(sw d h n c).bind λa c=>(f.E e c).bind λb c=>(sv g a b c).bind λr c=>(vA d h n r c).bind λj c=> .ok [] .next c
 | .Subscript o i tp=>uR d f o i tp g e c
 |_=> .err ""
noncomputable def Ey(a:Fl)(b:KM):Res Fl:=match a with
 | .ret y=> .ok [] (.ret y) b
 |_=> .err ""
set_option backward.match.sparseCases false in
def xl(g:Cfg)(f:Fns)(st:k0)(d:KM):Res Fl:=match st with
 | .Expr e _=>noB (iQ e) ((f.E e d).bind λi d=> .ok [] .next d)
 | .Return o _=>(match o with
  |none=> .err ""
  |some e=>(f.E e d).bind λv d=> .ok [] (.ret v) d)
 | .Assign ts e _=>mR ts λt=>FI g f t e d
 | .AugAssign t op e _=>BU g f t op e d
 | .If t a b _=>(f.T t d).bind λc d=>jp c (am f a d) (am f b d)
 | .Try body hs o fi _=>(match hs with
  |_::_=>ii o (ii fi (am f body d))
  |[]=> .err "")
 | .For target iter body orelse _=>ii orelse (noB (cT iter||bT target) ((f.E iter d).bind λv d=>onO (fB v) λz=>hU f target body d.length 60 (d++[.iter z.1 v 0])))
 | .While test body orelse _=>ii orelse ((f.T test d).bind λb d=>jp b ((am f body d).bind λh d=>Ey h d) (.ok [] .next d))
 | .Break _=> .ok [] .brk d
 | .Continue _=> .ok [] .cont d
 |_=> .err ""
def step(a:Cfg)(f:Fns):Fns:=⟨xn a f,xm a f,xl a f,xo a f⟩
noncomputable def EV:Fns:=⟨λa a=> .err "",λa a=> .err "",λa a=> .err "",λa a a=> .err ""⟩
def fns(a:Cfg):Nat→Fns
 |0=>EV
 |n+1=>step a (fns a n)
section
variable{c:Cx}{a:Cfg}{f:Fns}{d:KB}{b:KM}{s:dd}
theorem jH{e:Expr}{t:Option Expr}{n:Nat}{g:Env}(h:iQ e=false):swapsWith e t n g=pure false:=by
 exact ir ((λq=>by induction q using p8<;>first|exact(rfl:(pure false:Hk Bool)=(pure false:Hk Bool))|exact trivial:∀q,bif iQ q then True else swapsWith q t n g=pure false) e) h
theorem jx:∀{t e:Expr} {l:nR} {M:Ij} {A:GI} {E:KD} {Q:Hj→dd→Prop} {i:Env} (u:iQ e=false) (w:dD t=false) (o:(bT t&&bT e)=false) (h:eo M A (Gu e i) (λv j=>eo M A (I5 t i v) (λm=>Q .next) E j) E s),eo M A (IP (.Assign [t] e l) i) Q E s:=by
 revert s;refine' eI9;intro i Q E A M l e t s u w o h;rwa [exec_Assign _ _ _];refine dV (Hc ?_);rwa [show swapsWithSole [t] e l.line i=pure false from jH u];refine dV (eM ?_);rwa [if_neg (by decide)]
 refine dV (ex h (λv j n=> ?_) λm m x=>x);have y:Ic [t] e i=pure none:=by
  cases q:bT t with
  |false=>exact ir ((λq=>by induction q using p8<;>first|exact(rfl:(pure none:Hk (Option (List Str)))=pure none)|exact trivial:∀q,bif bT q then True else Ic [q] e i=pure none) t) q
  |true=>
   rw [q]at o;cases g:Nat.beq t.ctorIdx 25 with
   |true=>exact Expr.Tuple.elim (motive_1:=λt=>Ic [t] e i=pure none) t (ui g) λr k p=>ir ((λq=>by induction q using p8<;>first|exact(rfl:(pure none:Hk (Option (List Str)))=pure none)|exact trivial:∀q,bif bT q then True else Ic [.Tuple r k p] q i=pure none) e) o
   |false=>
    have q:(Nat.beq t.ctorIdx 25||Nat.beq t.ctorIdx 24)=true:=q;rw [g]at q;exact Expr.List.elim (motive_1:=λt=>Ic [t] e i=pure none) t (ui q) λr p=>ir ((λq=>by induction q using p8<;>first|exact(rfl:(pure none:Hk (Option (List Str)))=pure none)|exact trivial:∀q,bif bT q then True else Ic [.List r p] q i=pure none) e) o
 rwa [y];refine dV (eM ?_);rwa [fI w];exact dV (ex n (λm m x=>eM x) λm m x=>x)
theorem Bf(C:cZ c a):(λx=>lkK x a.names)=c.env.kindOf:=by
 funext x
 rwa [C.names,pB _ _];rfl
theorem Vals.reverse{F:aA}:∀{k:KN} {g:KH},Vals F d k g→Vals F d k.reverse g.reverse:=by
 intro j
 induction j with
 |nil=>
  intro g h;rwa [show g=[]from h];rfl
 |cons x k i=>
  intro _ e;(refine bg e ?_;clear e;intro v r h1 h2 h3);subst h1;rwa [JC,JC];exact Vals.append (i h3) ⟨v,[],rfl,h2,rfl⟩
theorem gH{e:Expr}{g:Env}(h:cT e=false)(x:da):foldedSetIterable e g x=pure x:=by
 exact ir ((λq=>by induction q using p8<;>first|exact(rfl:(pure x:Hk da)=(pure x:Hk da))|exact trivial:∀q,bif cT q then True else foldedSetIterable q g x=pure x) e) h
theorem pC{e:Expr}{g v:da}(h:bT e=false):Jg e g v=pure ():=by
 exact ir ((λq=>by induction q using p8<;>first|exact(rfl:(pure ():Hk Unit)=(pure ():Hk Unit))|exact trivial:∀q,bif bT q then True else Jg q g v=pure ()) e) h
theorem wf:∀{h:Expr} {j:List k0} {m k:Nat},(hU f h j m (k+1) b).W λg p=>∃l v i n vc,b[m]? =some (.iter l v i)∧fB v=some (l,n)∧rg f h j m (hU f h j m k) l v i n b= .ok vc g p∧aw vc:=by
 revert f b;refine' eI6;intro k m j h b f;exact dN λo u=>by
  induction o with
  |iter l v i=>
   exact cM λz t=>eJ λe=> .of λvc g p r q=>by
    obtain rfl:=JT e;exact(FL _ v i z.2 vc u t r q)
  |_=>trivial
theorem wg:∀{j:Expr} {l:List k0} {m:Nat} {g:cv} {R:Hj→dd→Prop} {q:KB} {p:KM} {K:dd} {r:Fl} {o:KM} {n:Nat} {d:KB} {b:KM} {s:dd} {vc:KG} (C:cZ c a) (O:bV c a f) (ht:bT j=false) (hR:∀G t,aF c a q p K o (FlR r) G t→R G t) (h:hU f j l m n b= .ok vc r o) (B:aw vc) (H:ac c a d b s) (X:Ext q p K d b s) (I:d[m]? =some g),JU c.M c.A (.forLoop j (.ref g) l [] c.env) (λZ t=>match Z with| .ok G=>R G t| .error e=>cameBackBy c.M c.A c.env NoE e t) s:=by
 revert c a f;refine no_implicit_lambda% (@Mine.pd _ ?_);refine' eI19;intro vc s b d n o r K p q R g m l j f a c _ C O ht hR h B H X I;refine codeAny_forLoop_any (λk t=>∃d b vc,hU f j l m k b= .ok vc r o∧aw vc∧ac c a d b t∧Ext q p K d b t∧d[m]? =some g) ?_ n (B5 d b vc h B H X I)
 rintro k t ⟨d,b,vc,h,B,H,X,I⟩
 induction k using Ge with
 |zero=>contradiction
 |succ k=>
  have L:=wf.use h B;clear h B vc;(refine FU L ?_;clear L;intro a4 v i xs vc hi a0 h B);refine ex (nV C H hi I a0) (λu s1 h1=> ?_) λD D z=>sq z;unfold rg at h
  induction u with
  |none=>
   (refine ax h1 ?_;clear h1;intro U P N);rw [U]at h;(refine ax (Mine.Res.ok.inj h) λA T W=> ?_;subst A;subst T;subst W);exact Gc (hR _ _ ⟨_,P,X.trans N,rfl⟩)
  |some u=>
   (refine ny h1 ?_;clear h1;intro x U hu P N);rw [U]at h;refine bB h B λv1 D a5 w1 e1 p1 g1 q1=>bB g1 q1 λv2 G J w2 e2 p2 g2 q2=> ?_;dsimp only;rwa [pC ht];refine eM (ex ((O.A _ _ _ _ _ _ P hu).use e1 p1) (λ_ s2 ⟨a6,H2,X2,_⟩=>ex ((f4 O l _ _ _ H2).use e2 p2) (λY s3 hZ=> ?_) λD D z=>sq z) λD D z=>sq z);obtain⟨E,H3,X3,F⟩:=hZ;have X4:=((X.trans N).trans X2).trans X3;have go:hU f j l m k J= .ok w2 r o→∃k',k' < k+1∧∃d b vc,hU f j l m k' b= .ok vc r o∧aw vc∧ac c a d b s3∧Ext q p K d b s3∧d[m]? =some g:=λe=>(ah k (ph _) (B5 E J w2 e q2 H3 X4 (X3.pre _ _ (X2.pre _ _ (N.pre _ _ I)))))
   induction Y with
   |next=>cases F;exact go g2
   |cont=>cases F;contradiction
   |brk=>cases F;contradiction
   |ret w=>(refine ab F ?_;clear F;intro y A hw;subst A);cases g2;exact hR _ _ ⟨E,H3,X4,y,rfl,hw⟩
theorem vk:∀{n o:List Expr} {k r:Nat} {p j q:nR} (G:aG c a) (O:bV c a f),lK c a (IP (.Assign [.Tuple n k p] (.Tuple o r j) q) c.env) (rk a f n o r j):=by
 revert c a f;refine' eI10;intro q j p r k o n f a c G O;exact λd b s H=>by
  unfold rk;rwa [Bf G.ok];refine eJ λi=>(O.E _).seq H (λg g h=>Assign_Tuple_swapped h rfl (rj G.ok.kind i)) λv K u s1 D I C A=> ?_
  induction v using Mine.V.casesOn with
  |ftup L=>
   exact eJ λx=> .of λg g g e w=>lU G.ok I A (ui x).symm λP s2 F J E=>
    ((vp G.ok _ _ F (Vals.reverse E)).seq (f:=λg b=>Res.ok [] Fl.next b) (R:=λg g g g=>True) (B:=λz m g=>aF c a d b s m (FlR z) .next) (λg g=>id) λg N g s3 l y t g g=>⟨l,y,(C.trans J).trans t,rfl⟩).use e w
  |_=>trivial
theorem sx(O:bV c a f){t e:Expr}{p:nR}:lK c a (IP (.Assign [t] e p) c.env) (nr f t e):=λd b s H=>eK λh=>by
 simp only [Il]at h;exact(O.E _).seq H (λg g=>jx h.1 h.2.1 h.2.2) λv q u s1 l n k j=>(O.A _ _ _ _ _ _ n j).seq (R:=λg g g g=>True) (λg g=>id) λg m2 g s2 i m o g g=>⟨i,m,k.trans o,rfl⟩
theorem zN:∀{t e:Expr} {y:HV} {p:nR} (G:aG c a) (O:bV c a f),lK c a (IP (.AugAssign t y e p) c.env) (BU a f t y e):=by
 revert c a f;refine' eI7;intro p y e t f a c G O;exact λd b s H=>by
  induction t using p8 with
  |Name x q=>exact(qF G.ok).seq H (λj j=>wpAny_AugAssign_Name) λh L Z s1 B J u z=>(O.E _).seq J (λj j=>id) λg m2 u2 s2 A I l v=>(pZ I (l.val z) v).seq (λj j=>id) λr Y u3 s3 C w m E=>
   (km G.ok E w).seq (R:=λj j j j=>True) (λj j=>id) λj U j W k F D j j=>⟨k,F,((u.trans l).trans m).trans D,rfl⟩
  |Attribute o n q=>exact(O.E _).seq H (λj j=>wpAny_AugAssign_AttributeAny) λov m0 u0 s0 P N T K=>(qW G N K).seq (λj j=>id) λh L Z s1 B J u z=>(O.E _).seq J (λj j=>id) λg m2 u2 s2 A I l v=>
   (pZ I (l.val z) v).seq (λj j=>id) λr Y u3 s3 C w m E=>(tu G w (m.val (l.val (u.val K))) E).seq (R:=λj j j j=>True) (λj j=>id) λj U j W k F D j j=>⟨k,F,(((T.trans u).trans l).trans m).trans D,rfl⟩
  |Subscript o i tp=>exact uQ O d b s H
  |_=>trivial
theorem zV{c:Cx}{s:dd}{i:Expr}{j:List k0}{m:nR}{Q:Hj→dd→Prop}(h:eo c.M c.A (A0 i c.env (Gu i c.env)) (λg s1=>(g=false∧Q .next s1)∨(g=true∧eo c.M c.A (un j c.env) (λn s2=>∃v,n= .ret v∧Q (.ret v) s2) NoE s1)) NoE s):eo c.M c.A (IP (.While i j [] m) c.env) Q NoE s:=by
 refine JF (Ii (λk o=>o=s) ?_ 0 rfl);intro k o e;subst e;refine ex h (λg s1 h=>h.elim (λh=>ai h λe q=> ?_) λh=>ai h λe q=> ?_) λl l z=>sq z
 ·subst e;exact Gc q
 ·subst e;exact ex q (λn s2 p=>ab p λv e q=>by subst e;exact q) λl l z=>sq z
theorem vq(G:aG c a)(O:bV c a f)(st:k0):lK c a (IP st c.env) (xl a f st):=by
 revert G O;revert c a f st;refine' eI4;intro st f a c G O;intro d b s H
 induction st using PySem.Stmt.casesOn with
 |Expr e p=>
  exact eK λhc=>(O.E _).seq H (λj j h=>wpAny_Expr_any h (by unfold interactive;rwa [G.ok.kind];rfl) (jH hc)) λx F u s1 l n r C j=>⟨l,n,r,rfl⟩
 |Return o p=>induction o with
  |none=>trivial
  |some e=>exact(O.E _).seq (f:=λv b=>Res.ok [] (Fl.ret v) b) H (λj j=>IJ) λx F u s1 l n r C j=>⟨l,n,r,_,rfl,C⟩
 |Assign ts e p=>
  refine jJ λt et=> ?_;subst et;have D:=sx (p:=p) O (t:=t) (e:=e) d b s H
  induction t using p8 with
  |Tuple ts k q=>
   induction e using p8 with
   |Tuple vs k2 p2=>exact vk G O d b s H
   |_=>exact D
  |_=>exact D
 |AugAssign t op e p=>exact zN G O d b s H
 |While U B A p=>
  refine eU λE=> ?_;subst E;refine(O.T _).seq H (λj j=>zV) λx F u s1 l n r C=> ?_;subst C
  induction u with
  |true=>
   refine .bind ((f4 O _ _ _ _ n).mono λJ m w=> ?_)
   induction J with
   |ret y=>exact λj=> .inr ⟨rfl,ex w (λK s2 hZ=>by
    obtain⟨N,R,T,W⟩:=hZ
    induction K with
    |ret x=>exact⟨x,rfl,N,R,r.trans T,W⟩
    |_=>exact nomatch W) λj j z=>z⟩
   |_=>trivial
  |false=>exact λj=> .inl ⟨rfl,l,n,r,rfl⟩
 |If t i g p=>
  refine(O.T _).seq H (λj j=>Kf) λx F u s1 l n r C=> ?_;subst C
  induction u with
  |true=>exact(f4 O _ _ _ _ n).post r
  |false=>exact(f4 O _ _ _ _ n).post r
 |Try B Z o fi p=>induction Z using kv with
  |nil=>trivial
  |cons h Z=>
   refine eU λE=>eU λe2=>(f4 O _ d b s H).mono λj j w=> ?_;subst E e2;refine wpAny_Try_except (ex w (λJ s1 h1=> ?_) λj j z=>sq z)
   induction J with
   |next=>exact Gc h1
   |_=>exact h1
 |For I Y B A p=>
  refine eU λE=>eK λL=> ?_;subst E;rw [Il]at L;refine(O.E _).seq H (λj j h=>wpAny_For h (gH L.1)) λv F u s1 l n r C=>cM λz hz=> .of λj j j g1 q1=>ex (ly n C hz) (λit s2 h2=> ?_) λj j z=>sq z;(refine ax h2 ?_;clear h2;intro P R T;subst P);refine wg G.ok O L.2 (λj j z=>z) g1 q1 R (r.trans T) ?_;rwa [←n.rep.len,gv (fx _),GC _];rfl
 |Break p=>exact λj=>wpAny_Break ⟨d,H,Ext.refl ..,rfl⟩
 |Continue p=>exact λj=>wpAny_Continue ⟨d,H,Ext.refl ..,rfl⟩
 |_=>trivial
theorem bj(G:aG c a):∀n,bV c a (fns a n):=by
 intro h
 induction h with
 |zero=>
  exact⟨λe e e e e=>trivial,λe e e e e=>trivial,λe e e e e=>trivial,λe e e e e e e e=>trivial⟩
 |succ n g=>
  exact⟨vt G (g),vr G (g),vq G (g),vu G (g)⟩
theorem dp(G:aG c a)(n:Nat){h:List k0}{d:KB}{b:KM}{s:dd}{vc:KG}{r:Fl}{g:KM}(H:ac c a d b s)(e:am (fns a n) h b= .ok vc r g)(i:aw vc):
 eo c.M c.A (un h c.env) (aF c a d b s g (FlR r)) NoE s:=(f4 (bj G n) h d b s H).use e i
end
structure ak(c:Cx)(K:Gw)(mg mb:KC):Prop where
 base:Cd c mg mb
 K:∀a o,K.lookup a=some o→c.d.B a o
 nolim:∀h:Gm,(∀b o,c.d.B b o→h.get? b=some o)→h.NoLimit
 handled:c.A.handled=none
def av(k:Nat)(A:GI):Prop:=A.depth+k≤recursionLimit∧A.units+5*k+100≤cLine
def qX(c:Cx)(b:Cfg):Prop:=∀C n k,lkM C n b.props=some k→∀(e:KB) (d:KM) (s:dd) (i j:Nat) (f:KL) (v:V) (a:cv),ac c b e d s→d[i]? =some (.inst C j)→d[j]? =some (.ns f)→lk k f=some v→e[i]? =some a→
 eo c.M c.A (getAttr (.ref a) n true) (aF c b e d s d λF e x=>Val F e v x) NoE s
structure Lev(K:Gw)(mg mb:KC)(cfg:Cfg)(k:Nat):Prop where
 glob:i3 mg mb cfg.globs
 tab:sJ K cfg
 fns:∀g m spec,lkN g cfg.fns=some (m,spec)→∀c,ak c K mg mb→av k c.A→aI c g m spec
 props:∀c,ak c K mg mb→av k c.A→qX c cfg
 wns:∀x g spec,lkS x cfg.wns=some (g,spec)→∀c,ak c K mg mb→av k c.A→FnW c g spec
 own:cfg.owns=[]
structure jD(fd:Gx)(cfg:Cfg):Prop where
 names:cfg.names=fd.scope.names
 glob:fd.globals=GH
 blt:fd.builtins=Hl
 kind:fd.scope.kind= .function
 co:fd.scope.isCoroutine=false
 gen:fd.scope.isGenerator=false
 nocell:∀x∈fd.scope.names,x.2≠ .cell
 nocls:fd.scope.names.lookup ("__classdict__":Str)=none
theorem zt{c:Cx}{K:Gw}{i j:KC}{d:Cfg}{k:Nat}(T:ak c K i j)(L:Lev K i j d k)(e:av k c.A)(h1:c.env.scope.kind= .function)(h2:d.names=c.env.scope.names)(h3:c.env.globals=GH)(l:c.env.builtins=Hl)
 (o:c.env.kindOf "__classdict__"=none):aG c d:=
 ⟨⟨h1,h2,h3,l,(eS i j T.base L.glob),o,T.handled,by have:=e.2;exact Lle [_,_] [Q0 (.a (.a V0 (.m 5 V1)) Z10) Z11] 0 (.a V0 Z0) Z11 rfl this⟩,(ah K T.K L.tab),λf n b h=>L.fns f n b h c T e,λx g b h=>L.wns x g b h c T e,λn C g m b h=>(by rw [L.own]at h;exact noS h),L.props c T e⟩
noncomputable def bK(c:Cx)(H:cv→Prop)(n:Nat)(a:Gx)(L f:cv):Cx:=⟨c.prog,c.w,c.A.deeper (Ju a L f),Ju a L f,c.at H n⟩
theorem ef{c:Cx}{K:Gw}{e g:KC}{b:Cfg}{k:Nat}{H:cv→Prop}{n:Nat}{d:Gx}{L f:cv}(T:ak c K e g)(V:Lev K e g b k)(i:av (k+1) c.A)(F:jD d b):aG (bK c H n d L f) b:=
 zt (c:=bK c H n d L f) ⟨⟨T.base.g,T.base.b⟩,T.K,T.nolim,T.handled⟩ V ⟨by have:=i.1;show c.A.depth+1+k≤_;exact Lle [_,_] [Q0 (.a V0 (.a V1 Z0)) Z1] 0 (.a (.a V0 Z0) V1) Z1 rfl this,by have:=i.2;show c.A.units+3+5*k+100≤_;exact Lle [_,_] [Q0 (.a (.a V0 (.m 5 (.a V1 Z0))) Z10) Z11] 0 (.a (.a (.a V0 Z12) (.m 5 V1)) Z10) Z11 rfl this⟩ F.kind F.names F.glob F.blt F.nocls
inductive ea(c:Cx)(cfg:Cfg)(ρ:KB)(mu:KM)(s:dd)(n:Nat)(r:V)(mu':KM)(fl:Hj)(s':dd):Prop
 |mk (ρ':KB) (mu1:KM) (H:ac c cfg ρ' mu1 s') (X:Ext ρ mu s ρ' mu1 s') (hn:n≤mu1.length) (ht:mu1.take n=mu') (hv:Val (aa c.d ρ' mu1 s'.heap) ρ' r (match fl with| .ret v=>v|_=> .none))
theorem fY{a i:Type}[BEq a][LawfulBEq a](x:a):∀{l:List (a×i)},(l.map (·.1)).Nodup→l.reverse.lookup x=l.lookup x:=by
 intro d
 induction d with
 |nil=>
  intro _;exact rfl
 |cons c r b=>
  obtain⟨k,v⟩:=c;intro h;rw [GJ,GK]at h;rwa [JC,List.lookup_append,b h.2,JK]
  by_cases q:x=k
  ·have f:r.lookup x=none:=List.lookup_eq_none_iff.mpr λp g=>by
    have:p.1≠k:=λe=>h.1 (Hr.mpr (ah p g e));rw [bne_iff_ne];exact λe=>this (e.symm.trans q)
   rwa [f,beq_iff_eq.mpr q];simp [q]
  ·have e:(x==k)=false:=beq_eq_false_iff_ne.mpr q
   rwa [e];simp [JK,e]
theorem jF{F:aA}{d:KB}(x:Str){b:KA}:∀{a:KN} {c:KH},Vals F d a c→c.length=b.length→g6 F d (lk x (b.zip a)) ((b.zip c).lookup x):=by
 induction b with
 |nil=>exact λ{a c} _ _=>trivial
 |cons p b h=>
  intro a
  induction a using kv with
  |nil=>exact λe e=>trivial
  |cons y a=>
   refine λg=>bg g λv r h1 h2 h3=> ?_;subst h1;refine λf=> ?_;rwa [List.zip_cons_cons,List.zip_cons_cons,JK];unfold lk
   by_cases q:x=p
   ·rwa [aB.mpr q,beq_iff_eq.mpr q];exact⟨v,rfl,h2⟩
   ·rwa [ee q,beq_eq_false_iff_ne.mpr q]
    exact h h3 (HZ f)
theorem wN{c:Cx}{K:Gw}{mg mb:KC}{g:Cfg}{k:Nat}(T:ak c K mg mb)(hr:av (k+1) c.A){f:cv}{o:Hn}{d:Gx}{e:List k0}(ho:c.d.B f o)(hd:o.data= .func d)(hb:d.body= .stmts e)
 (u:∀h:Gm,(∀b o,c.d.B b o→h.get? b=some o)→h.CodeRec d.code d.qualname)(F:jD d g){n:Nat}{i:KA}(J:∀x∈i,d.scope.names.lookup x=some .local)(O:i.Nodup)(G:g.fi=n)(W:g.cells=[])
 {H:cv→Prop}{t:KB}{p:KM}{s:dd}{B:KN}{m:KH}(E:p.length=n)(R:aq c.prog c.w (c.at H n) t p s)(ht:1≤s.toks)(N:Vals (aa (c.at H n) t p s.heap) t B m)
 (q:BindsTo s d ⟨m,[]⟩ (i.zip m))(Z:m.length=i.length){r:V}{y:KM}
 (C:∀s1,ac (bK c H n d s.heap.objs.size f) g (t++[s.heap.objs.size]) (p++[.frame (i.zip B)]) s1→
  eo (bK c H n d s.heap.objs.size f).M (bK c H n d s.heap.objs.size f).A (un e (Ju d s.heap.objs.size f)) (ea (bK c H n d s.heap.objs.size f) g (t++[s.heap.objs.size]) (p++[.frame (i.zip B)]) s1 n r y) NoE s1):
 eo c.M c.A (call (.ref f) m) (sL c (c.at H n) t p s n r y) NoE s:=by
 refine HJ (codeAny_call_def (fd:=d) (body:=e) (binds:=i.zip m) (by have:=hr.1;exact Lle [_,_] [Q0 (.a V0 (.a V1 Z0)) Z1] 0 (.a V0 Z0) Z1 rfl this) (R.base _ _ ho) hd (T.nolim _ R.base) (u _ R.base) hb q F.nocell (λx N=>J _ (List.of_mem_zip N).1) (λl D w=> ?_) F.co F.gen F.kind)
 refine dW (id D) λoL es ep hL Y=> ?_;refine ai (R.alloc (a:=s.heap.objs.size) (o:= .frame (i.zip B)) (s':={s with heap:=l,toks:=s.toks+(i.zip m).length}) (fx _) (wl hL) w rfl rfl λL P=>by
  refine⟨_,D,λx=> ?_⟩;rwa [fY x (by rw [List.map_fst_zip (by exact Lle [_,_] [Q2 V0 V1] 0 V1 V0 rfl Z)];exact O)]
  exact jF x (Vals.mono L P _ _ N) Z) λR1 X1=> ?_
 have H1:ac (bK c H n d s.heap.objs.size f) g (t++[s.heap.objs.size]) (p++[.frame (i.zip B)]) {s with heap:=l,toks:=s.toks+(i.zip m).length}:=by
  refine⟨R1,by dsimp only;exact Lle [_,_] [Q0 Z0 V0] 0 Z0 (.a V0 V1) rfl ht, ?_, ?_⟩
  ·rwa [G,←E,←R.len,gv (fx _),GC _];rfl
  ·intro x j h;rw [W]at h;exact noS h
 refine ex (C _ H1) (λfl s' hZ=> ?_) λY Y z=>sq z;obtain⟨U,I,H2,X2,h1,h2,h3⟩:=hZ;exact⟨H2.tk,U,I,H2.rep,X1.trans X2,h1,h2,h3⟩
noncomputable def Ex(a:Fl)(b:KM):Res V:=match a with
 | .ret v=> .ok [] v b
 |_=> .err "flow"
def cL(d:Cfg)(b:Nat)(e:KA)(n:Nat)(a:List k0):ay:=λf g=>onB (Nat.beq f.length e.length) ((am (fns d b) a (g++[.frame (e.zip f)])).bind λh c=>onB (Iy n c.length) (Ex h (c.take n)))
theorem ua{c:Type}{b:Bool}{k:Res c}{vc:KG}{r:c}{a:KM}{G:Prop}(h:onB b k= .ok vc r a)(g:b=true→k= .ok vc r a→G):G:=by
 induction b with
 |true=>exact g rfl h
 |false=>exact ga h
theorem Bp{c:Cx}{K:Gw}{N J:KC}{d:Cfg}{k:Nat}(T:ak c K N J)(V:Lev K N J d k)(O:av (k+1) c.A){f:cv}{o:Hn}{p:Gx}{m:List k0}(ho:K.lookup f=some o)(Z:o.data= .func p)(W:p.body= .stmts m)
 (i:codeIn K p.code p.qualname=true)(P:jD p d){n:Nat}{q:KA}(v:∀x∈q,p.scope.names.lookup x=some .local)(A:q.Nodup)(u:d.fi=n)(B:d.cells=[])
 (j:∀C:List da,C.length=q.length→HK p ⟨C,[]⟩=pure (q.zip C))(g:keepIn K (.ref f)=true)(l:Nat):aI c f n (cL d l q n m):=by
 revert T V O ho Z W i P v A u B j g;revert c K N J d k f o p m n q l;refine' eI13;intro l q n m p o f k d J N K c T V O ho Z W i P v A u B j g;have KI:∀h:Gm,(∀b o,c.d.B b o→h.get? b=some o)→K.In h:=λh D a o e=>D _ _ (T.K a o e);refine⟨λh D=>keeps_K g h (KI h D),λH a6 mu s xs C vc r a5 I R ht hx t hv=> ?_⟩;refine ua t λhl t=> ?_;have E:C.length=q.length:=(Vals.len _ _ hx).trans (ui hl);refine bB t hv λv1 fl U w1 he p1 t q1=>ua t λY t=> ?_
 induction fl with
 |ret y=>
  refine ax (Mine.Res.ok.inj t) λe1 e2 e3=> ?_;subst e2;subst e3;refine wN T O (T.K _ _ ho) Z W (λh D=>Jv (KI h D) i) P v A u B I R ht hx (.of_eq (j C E)) E λs1 H1=> ?_;have G:=ef (H:=H) (n:=n) (L:=s.heap.objs.size) (f:=f) T V O P;refine ex (dp G l H1 he p1) (λa0 s' hZ=> ?_) λzz zz z=>z;obtain⟨a4,H2,X2,F⟩:=hZ
  induction a0 with
  |ret w=>exact ab F λy' hy hw=>⟨a4,U,H2,X2,ro Y,rfl,Mine.Fl.ret.inj hy▸hw⟩
  |_=>exact nomatch F
 |_=>exact ga t
def fQ(c:Cx)(d:Bd)(j:Gx)(a:Args)(h:KA)(i:KN)(b:KB)(f:KM)(s:dd):Prop:=
 ∀(A:GI) (E:KD) (Q:List (Str×da)→dd→Prop),
  (∀g e,aq c.prog c.w d b f e→Ext b f s b f e→1≤e.toks→Vals (aa d b f e.heap) b i g→g.length=h.length→Q (h.zip g) e)→eo c.M A (HK j a) Q E s
theorem zv{c:Cx}{K:Gw}{mg mb:KC}{g:Cfg}{k:Nat}(T:ak c K mg mb)(hr:av (k+1) c.A){f:cv}{d:Gx}{p:List k0}(hb:d.body= .stmts p)(J:jD d g)
 {n:Nat}{m:KA}(U:∀x∈m,d.scope.names.lookup x=some .local)(Y:m.Nodup)(N:g.fi=n)(a4:g.cells=[])
 {H:cv→Prop}{G:KB}{y:KM}{s:dd}{o:Hn}(ho:s.heap.get? f=some o)(hd:o.data= .func d)(u:s.heap.CodeRec d.code d.qualname)
 {q:Args}{D:KN}(I:y.length=n)(t:fQ c (c.at H n) d q m D G y s){r:V}{B:KM}{R:Result→dd→Prop}(hR:∀x i,sL c (c.at H n) G y s n r B x i→R (.ok (.ret x)) i)
 (E:∀L s1,ac (bK c H n d L f) g (G++[L]) (y++[.frame (m.zip D)]) s1→
  eo (bK c H n d L f).M (bK c H n d L f).A (un p (Ju d L f)) (ea (bK c H n d L f) g (G++[L]) (y++[.frame (m.zip D)]) s1 n r B) NoE s1):
 JU c.M c.A (.call (.ref f) q) R s:=by
 refine IR (by have:=hr.1;exact Lle [_,_] [Q0 (.a V0 (.a V1 Z0)) Z1] 0 (.a V0 Z0) Z1 rfl this) ho hd J.co J.gen hb u (t _ _ _ λus i Z X0 ht W hl=> ?_)
 refine J2 J.nocell (λx W=>U _ (List.of_mem_zip W).1) (λl F C=>⟨(T.nolim _ Z.base).fresh _ C,codeAny_func ?_⟩) J.kind;have w:∀b o,i.heap.get? b=some o→l.get? b=some o:=λb o e=>C.extBut b o (HG (wl e)) (g0 _ e);refine dW (id F) λoL es ep hL zz=> ?_;refine ai (Z.alloc (a:=i.heap.objs.size) (o:= .frame (m.zip D)) (s':={i with heap:=l,toks:=i.toks+(m.zip us).length}) (fx _) (wl hL) w rfl rfl λL P=>by
  refine⟨_,F,λx=> ?_⟩;rwa [fY x (by rw [List.map_fst_zip (by exact Lle [_,_] [Q2 V0 V1] 0 V1 V0 rfl hl)];exact Y)]
  exact jF x (Vals.mono L P _ _ W) hl) λR1 X1=> ?_
 have H1:ac (bK c H n d i.heap.objs.size f) g (G++[i.heap.objs.size]) (y++[.frame (m.zip D)]) {i with heap:=l,toks:=i.toks+(m.zip us).length}:=by
  refine⟨R1,by dsimp only;exact Lle [_,_] [Q0 Z0 V0] 0 Z0 (.a V0 V1) rfl ht, ?_, ?_⟩
  ·rwa [N,←I,←Z.len,gv (fx _),GC _];rfl
  ·intro x j h;rw [a4]at h;exact noS h
 refine ex (E _ _ H1) (λfl s2 ⟨a0,O,H2,X2,h1,h2,h3⟩=>hR _ _ ?_) λzz zz z=>sq z;exact⟨H2.tk,a0,O,H2.rep,X0.trans (X1.trans X2),h1,h2,h3⟩
theorem eg{c:Cx}{d:Bd}{g:Gx}{a:KH}{e:KA}{i:KN}{b:KB}{f:KM}{s:dd}(R:aq c.prog c.w d b f s)(l:1≤s.toks)(m:Vals (aa d b f s.heap) b i a)(j:a.length=e.length)
 (h:HK g ⟨a,[]⟩=pure (e.zip a)):fQ c d g ⟨a,[]⟩ e i b f s:=λA E Q k=>by
 rwa [h];exact eM (k a s R (Ext.refl ..) l m j)
theorem ng{c:Cx}{K:Gw}{N O:KC}{g:Cfg}{k:Nat}(T:ak c K N O)(LV:Lev K N O g k)(U:av (k+1) c.A){f:cv}{o:Hn}{j:Gx}{u:List k0}(ho:K.lookup f=some o)(hd:o.data= .func j)(Z:j.body= .stmts u)
 (y:codeIn K j.code j.qualname=true)(W:jD j g){n:Nat}{z:KA}(F:∀x∈z,j.scope.names.lookup x=some .local)(G:z.Nodup)(D:g.fi=n)(I:g.cells=[])(w:keepIn K (.ref f)=true)
 {l:ay}{m:List V→List V}(v:∀H t i s q C vc r d,i.length=n→aq c.prog c.w (c.at H n) t i s→1≤s.toks→Vals (aa (c.at H n) t i s.heap) t q C→l q i= .ok vc r d→aw vc→fQ c (c.at H n) j ⟨C,[]⟩ z (m q) t i s)
 (B:∀H L q i vc r d t s1,i.length=n→l q i= .ok vc r d→aw vc→aG (bK c H n j L f) g→ac (bK c H n j L f) g (t++[L]) (i++[.frame (z.zip (m q))]) s1→
  eo (bK c H n j L f).M (bK c H n j L f).A (un u (Ju j L f)) (ea (bK c H n j L f) g (t++[L]) (i++[.frame (z.zip (m q))]) s1 n r d) NoE s1):aI c f n l:=by
 have P:∀h:Gm,(∀b o,c.d.B b o→h.get? b=some o)→K.In h:=λh E a o e=>E _ _ (T.K a o e);refine⟨λh E=>keeps_K w h (P h E),λH t i s q C vc r d p R ht hx Y J=> ?_⟩;refine HJ (zv T U Z W F G D I (R.base _ _ (T.K _ _ ho)) hd (Jv (P _ R.base) y) p (v H t i s q C vc r d p R ht hx Y J) (λx s' h=>h) λL s1 H1=> ?_);exact B H L q i vc r d t s1 p Y J (ef T LV U W) H1
section
variable{c:Cx}{cfg:Cfg}{f:Fns}{ρ:KB}{b:KM}{s:dd}
theorem ac.cut(H:ac c cfg ρ b s){d:KB}{a:KM}{s1:dd}(e:ac c cfg d a s1)(X:Ext ρ b s d a s1)(j:b.length≤a.length)(g:aK b.length (a.take b.length)=true):
 ac c cfg ρ (a.take b.length) s1∧Ext ρ b s ρ (a.take b.length) s1:=by
 refine gl (H.rep.forget e.rep X j g) λR h i i=> ?_;exact⟨⟨R,e.tk,H.fr,H.cl⟩,h⟩
inductive mM(c:Cx)(cfg:Cfg)(target:Expr)(a:cv)(tup:Bool)(v:V)(xs:KN)(ρ:KB)(m:KM)(s:dd)(i:Nat):Option da→dd→Prop
 |done (s3:dd) (hi:i=xs.length) (H:ac c cfg ρ (m++[.gone]) s3) (X:Ext ρ (m++[.iter tup v i]) s ρ (m++[.gone]) s3):mM c cfg target a tup v xs ρ m s i none s3
 |item (s3:dd) (x:V) (u:da) (hx:xs[i]? =some x) (hu:Val (aa c.d ρ (m++[.iter tup v (i+1)]) s3.heap) ρ x u) (H:ac c cfg ρ (m++[.iter tup v (i+1)]) s3) (X:Ext ρ (m++[.iter tup v i]) s ρ (m++[.iter tup v (i+1)]) s3)
  (hlet:∀Q:Unit→dd→Prop,Q () s3→eo c.M c.A (Jg target (.ref a) u) Q NoE s3):mM c cfg target a tup v xs ρ m s i (some u) s3
theorem wq{d:Expr}{h:Bool}(e:bT d=false∨h=false){a l:cv}{i:Nat}(g:qd h s.heap a l i)(u:da){Q:Unit→dd→Prop}(j:Q () s):eo c.M c.A (Jg d (.ref a) u) Q NoE s:=by
 revert e g j;revert c s d h a l i u Q;refine' eI9;intro Q u i l a h d s c e g j;rcases e with ht|ht
 ·rwa [pC ht];exact eM j
 ·subst ht
  induction d using p8 with
  |Tuple r k p=>
   induction u with
   |ref T=>exact wpAny_letOwnedTupleGo_listiter g j
   |_=>exact eM j
  |List r p=>
   induction u with
   |ref T=>
    (refine eh g ?_;clear g;intro o q n m);refine dV (I1 q ?_);rwa [n,m];have:(["enumerate","zip","dict_itemiterator","dict_reverseitemiterator","odict_iterator","itertools.zip_longest","itertools.pairwise"].contains "list_iterator")=false:=by decide
    rwa [this];exact eM j
   |_=>exact eM j
  |_=>exact eM j
theorem nU:∀{d:Expr} {a:cv} {e:Bool} {v:V} {p:KN} {m:KM} {n i:Nat} (C:cZ c cfg) (k:fB v=some (e,p)) (g:bT d=false∨e=false) (D:m.length=n) (A:i≤p.length) (H:ac c cfg ρ (m++[.iter e v i]) s) (q:ρ[n]? =some a),eo c.M c.A (pyNext (.ref a)) (mM c cfg d a e v p ρ m s i) NoE s:=by
 revert c cfg ρ s;refine' eI12;intro i n m p v e a d s ρ cfg c C k g D A H q;subst D;have h:∀o t:AO,(m++[o]).set m.length t=m++[t]:=λo t=>by
  rwa [List.set_append_right _ _ (fx _),GC _];rfl
 have j:∀o:AO,(m++[o])[m.length]? =some o:=λo=>by
  rwa [gv (fx _),GC _];rfl
 refine ex (nV C H (j _) q k) (λr s3 h3=> ?_) λy y z=>z;rw [h,h]at h3
 induction r with
 |none=>exact .done s3 (Nat.le_antisymm A (Jf.mp h3.1)) h3.2.1 h3.2.2
 |some u=>
  (refine ny h3 ?_;clear h3;intro x I G B E);refine ab (B.rep.objs _ _ _ q (j _)) λl y w=> ?_;exact .item s3 x u I G B E λQ F=>wq g w u F
theorem uT{s1:dd}{d:KB}{e:KM}(g:ac c cfg d e s1)(a:cv):(d++[a])[e.length]? =some a:=by
 rwa [←g.rep.len,gv (fx _),GC _];rfl
theorem lF:∀{n:Nat} {d:Expr} {l:List k0} {a:cv} (I:Nat→dd→Prop) (E:dd→Prop) {P:Nat→dd→Option da→dd→Prop} (A:I 0 s) (next:∀i g,i≤n→I i g→eo c.M c.A (pyNext (.ref a)) (P i g) NoE g) (p:∀i g s3,i≤n→I i g→P i g none s3→E s3) (o:∀i g s3 u,i≤n→I i g→P i g (some u) s3→i < n∧eo c.M c.A (Jg d (.ref a) u) (λk C=>eo c.M c.A (I5 d c.env u) (λk B=>eo c.M c.A (un l c.env) (λf t=>(f= .next∨f= .cont)∧I (i+1) t) NoE B) NoE C) NoE s3),JU c.M c.A (.forLoop d (.ref a) l [] c.env) (λy g=>match y with| .ok fl=>fl= .next∧E g| .error e=>cameBackBy c.M c.A c.env NoE e g) s:=by
 revert c s;refine' eI9;intro P E I a l d n s c A next p o;refine codeAny_forLoop_any (λm g=>∃i,m=n+1 -i∧i≤n∧I i g) ?_ (n+1) (iA 0 rfl (so _) A)
 rintro m g ⟨i,rfl,hi,h⟩
 refine ex (next i g hi h) (λr s3 h3=> ?_) λk k z=>sq z
 induction r with
 |none=>exact Gc (an rfl (p i g s3 hi h h3))
 |some u=>
  refine ai (o i g s3 u hi h h3) λq w=> ?_;refine ex w (λk C F=>ex F (λk B G=>ex G (λf t D=> ?_) λk k z=>sq z) λk k z=>sq z) λk k z=>sq z;have x:∃m,m < n+1 -i∧∃j,m=n+1 -j∧j≤n∧I j t:=(ah (n+1 -(i+1)) (by exact Lle [_,_,_,_] [Q1 (.a V2 (.a V0 Z0)) (.a V1 Z0),Q2 (.a V3 V0) (.a V1 Z0)] 0 (.a V2 Z0) V3 rfl (pm (Lle [_,_] [Q0 (.a V0 Z0) V1] 0 (.a V0 Z0) (.a V1 Z0) rfl q)) (pm (Lle [_,_] [Q0 (.a V0 Z0) V1] 0 V0 (.a V1 Z0) rfl q))) (iA (i+1) rfl q D.2))
  rcases D.1 with rfl|rfl<;>exact x
theorem jW{a:Type}{d:List a}{i:Nat}{x:a}(h:d[i]? =some x):i < d.length:=(hX.mp h).1
end
theorem lC{p:A8}{w:Gv}{d:Bd}{e:KB}{b:KM}{s:dd}(R:aq p w d e b s){ob:Hn}(f:ob.isFreed=false):
 aq p w d e b {s with heap:=s.heap.push ob}∧Ext e b s e b {s with heap:=s.heap.push ob}∧aa d e b (s.heap.push ob) s.heap.objs.size ob:=by
 refine ai (R.grow (s':={s with heap:=s.heap.push ob}) (λg g h=>g0 ob h) (by rw [sm];exact Lle [_] [] 0 V0 (.a V0 Z0) rfl) rfl rfl) λj X=> ?_
 refine⟨j,X,λh=>absurd (R.hid _ h) (HA _), ?_,Gl _ f⟩
 rintro⟨i,o,h1,_,_⟩
 exact absurd (R.new _ (lf h1)).2.1 (HA _)
theorem qu{c:Cx}{d:Bd}{j:Gx}{x y:V}{u v:da}{a b:Str}{g:KB}{i:KM}{s:dd}(R:aq c.prog c.w d g i s)(n:1≤s.toks)(l:Vals (aa d g i s.heap) g [x,y] [u,v])
 (h:HK j ⟨[u,v],[]⟩=(newTuple [v]>>=λt=>pure [(a,u),(b,t)])):fQ c d j ⟨[u,v],[]⟩ [a,b] [x, .ftup [y]] g i s:=λA E Q k=>by
 rwa [h];refine ax (lC R (ob:={cls:= .type "tuple",data:= .seq [v].toArray}) rfl) λo X p=> ?_;refine dV (Ke (eM ?_) (by rwa [HF];show 1≤16777216;decide))
 (refine bg l ?_;clear l;intro z r h1 h2 h3);(refine ai (Hb h1) λf e=> ?_;subst f;subst e);(refine bg h3 ?_;clear h3;intro B w m q C);(refine ai (Hb m) λf e=> ?_;subst f;subst e);exact k [u, .ref s.heap.objs.size] _ o X n ⟨_,_,rfl,X.val h2,_,_,rfl,⟨_,_,_,0,rfl,p,rfl,rfl,_,_,rfl,X.val q,rfl⟩,rfl⟩ rfl
theorem iJ{c:Cx}{d:Cfg}(G:aG c d)(N:Nat){f:List k0}{q:KB}{m:KM}{s:dd}{vc:KG}{g:Fl}{b:KM}{n:Nat}{r:V}{i:KM}(H:ac c d q m s)(e:am (fns d N) f m= .ok vc g b)(A:aw vc)
 (l:g= .ret r∨(g= .next∧r= .none))(t:n≤b.length)(p:b.take n=i):eo c.M c.A (un f c.env) (ea c d q m s n r i) NoE s:=by
 refine ex (dp G N H e A) (λo C ⟨j,u,v,a⟩=> ?_) λx x z=>z
 induction o with
 |ret w=>
  (refine ab a ?_;clear a;intro y k B);rcases l with h|⟨h,_⟩
  ·rw [h]at k;obtain rfl:=Mine.Fl.ret.inj k;exact⟨j,b,u,v,t,p,B⟩
  ·rw [h]at k;exact nomatch k
 |next=>
  have a:g= .next:=a;rcases l with h|⟨_,h⟩
  ·rw [h]at a;exact nomatch a
  ·subst h;exact⟨j,b,u,v,t,p,rfl⟩
 |brk=>
  have a:g= .brk:=a;rcases l with h|⟨h,_⟩<;>(rw [h]at a;exact nomatch a)
 |cont=>
  have a:g= .cont:=a;rcases l with h|⟨h,_⟩<;>(rw [h]at a;exact nomatch a)
theorem dR{c:Cx}{b:Cfg}(G:aG c b)(N:Nat){pre f:List k0}{l:KB}{j:KM}{s:dd}{vc:KG}{g:KM}{Q:Hj→dd→Prop}(H:ac c b l j s)(e:am (fns b N) pre j= .ok vc .next g)(n:aw vc)
 (k:∀d h,ac c b d g h→Ext l j s d g h→eo c.M c.A (un f c.env) Q NoE h):eo c.M c.A (un (pre++f) c.env) Q NoE s:=by
 induction pre generalizing l j s vc with
 |nil=>cases e;exact k l s H (Ext.refl ..)
 |cons st r B=>
  (refine jy (Res.bind_ok e) λE x t I h1 i m=> ?_;subst m);refine ai (aj.mp n) λq A=> ?_;refine pp (((bj G N).X st).use H h1 q λo s1 w D u a=> ?_)
  induction o with
  |next=>
   have a:x= .next:=a;subst a;exact B D i A λd h p C=>k d h p (u.trans C)
  |brk=>have a:x= .brk:=a;subst a;cases i
  |cont=>have a:x= .cont:=a;subst a;cases i
  |ret v=>(refine ab a ?_;clear a;intro y z F);subst z;cases i
theorem yx{c:Cx}{cfg:Cfg}{st:k0}{a:List k0}{ρ:KB}{mu:KM}{s:dd}{mu1:KM}{Q:Hj→dd→Prop}(h:eo c.M c.A (IP st c.env) (aF c cfg ρ mu s mu1 (FlR .next)) NoE s)
 (k:∀b f,ac c cfg b mu1 f→Ext ρ mu s b mu1 f→eo c.M c.A (un a c.env) Q NoE f):eo c.M c.A (un (st::a) c.env) Q NoE s:=by
 refine pp (ex h (λi s1 ⟨e,m,j,d⟩=> ?_) λg g z=>z)
 induction i with
 |next=>exact k e s1 m j
 |brk=>cases d
 |cont=>cases d
 |ret v=>(refine ab d ?_;clear d;intro y l g);exact nomatch l
theorem ea.trans{c:Cx}{i:Cfg}{m f:KB}{k e:KM}{s o:dd}{n:Nat}{r:V}{g:KM}{l:Hj}{j:dd}(X:Ext m k s f e o)(h:ea c i f e o n r g l j):ea c i m k s n r g l j:=
 let⟨ρ3,mu3,H3,X3,a,b,d⟩:=h;⟨ρ3,mu3,H3,X.trans X3,a,b,d⟩
structure aR(K:Gw)(mg mb:KC):Prop where
 val:∀x v,nsIn K GH x=some (some v)→mg x=some v
 no:∀x,nsIn K GH x=some none→mg x=none
 blt:∀x:Str,x≠("__name__":Str)→mb x=bootBuiltins x
def qZ:V→Option da
 | .none=>some .none
 | .type t=>some (.type t.nm)
 | .blt b=>some (.builtin b.nm)
 | .adr a=>some (.ref a)
 |_=>none
theorem vb{x:V}{u:da}(h:qZ x=some u)(F:aA)(a:KB):Val F a x u:=by
 induction x using Mine.V.casesOn<;>cases h<;>rfl
def oG(K:Gw)(p:Str×V):Bool:=match qZ p.2 with
 |none=>false
 |some u=>(nsIn K GH p.1==some (some u))||((nsIn K GH p.1==some none)&&((bootBuiltins p.1==some u)&& !(p.1==("__name__":Str))))
theorem AY{x:Str}{v:V}:∀{l:KL},lk x l=some v→(x,v)∈l:=by
 intro c
 induction c with
 |nil=>
  intro h;exact noS h
 |cons b r a=>
  obtain⟨k,y⟩:=b;intro h;unfold lk at h;cases q:af x k with
  |true=>rw [q]at h;obtain rfl:=(ds h).symm;rwa [aB.mp q];exact .head _
  |false=>rw [q]at h;exact .tail _ (a h)
theorem bh{K:Gw}{c d:KC}(T:aR K c d){l:KL}(h:l.all (oG K)=true):i3 c d l:=by
 intro x v e;have a:=Gf.mp h _ (AY e);unfold oG at a;cases b:qZ (x,v).2 with
 |none=>rw [b]at a;exact ftB a
 |some u=>
  rw [b]at a;refine(ah u ?_ (vb b));simp only [Bool.or_eq_true,lq,beq_iff_eq,JB,beq_eq_false_iff_ne]at a;rcases a with a|⟨h1,h2,h3⟩
  ·exact .inl (T.val _ _ a)
  ·exact .inr (an (T.no _ h1) (by rwa [T.blt _ h3];exact h2))
noncomputable def Fb(o:Hn):Option Gx:=match o.data with
 | .func fd=>some fd
 |_=>none
noncomputable def rm(a:Gx):Option (List k0):=match a.body with
 | .stmts b=>some b
 |_=>none
def fdA(K:Gw)(f:cv):Option Gx:=(K.lookup f).bind Fb
def ae(K:Gw)(f:cv):List k0:=((fdA K f).bind rm).getD []
def ce(K:Gw)(f:cv):List (Str×J9):=(fdA K f).elim [] λa=>a.scope.names
def fdB(K:Gw)(f:cv)(b:KA):Bool:=(fdA K f).any λa=>(rm a).isSome&&((a.globals==GH)&&((a.builtins==Hl)&&((a.scope.kind== .function)&&((a.scope.isCoroutine==false)&&((a.scope.isGenerator==false)&&
 (a.scope.names.all (λx=> !(x.2== .cell))&&((a.scope.names.lookup ("__classdict__":Str)==none)&&(a.closure.isEmpty&&(codeIn K a.code a.qualname&&
 (b.all (λx=>a.scope.names.lookup x==some .local)&&decide b.Nodup))))))))))
structure F8(K:Gw)(f:cv)(ps:KA)(fd:Gx):Prop where
 ob:∃o,K.lookup f=some o∧o.data= .func fd
 isFd:fdA K f=some fd
 body:fd.body= .stmts (ae K f)
 code:codeIn K fd.code fd.qualname=true
 ok:∀cfg:Cfg,cfg.names=ce K f→jD fd cfg
 par:∀x∈ps,fd.scope.names.lookup x=some .local
 nd:ps.Nodup
 keep:keepIn K (.ref f)=true
theorem FJ{a:Type}{o:Option a}{p:a→Bool}{G:Prop}(h:o.any p=true)(k:∀x,o=some x→p x=true→G):G:=by
 induction o using IL with
 |none=>exact ftB h
 |some x=>exact k x rfl h
theorem eO:∀{K:Gw} {f:cv} {j:KA} (h:fdB K f j=true),∃c,F8 K f j c:=by
 refine' eI3;intro j f K h;refine FJ h λc a h=> ?_;refine ab (Gk.mp a) λo m e=> ?_;obtain⟨C,p,l,y⟩:=o;have t:l= .func c:=by
  induction l using Data.casesOn with
  |func u=>exact congrArg Data.func (ds e)
  |_=>exact noS e
 subst t;simp only [lq,beq_iff_eq,Gf,JB,beq_eq_false_iff_ne,decide_eq_true_eq,List.isEmpty_iff]at h;refine ai h λn h=>au (Gj.mp n) λb d=> ?_;(refine xR h ?_;clear h;intro h1 h2 h3 r z w x B A k g);have i:c.body= .stmts b:=by
  unfold rm at d;cases q:c.body<;>rw [q]at d<;>first|exact noS d|(rwa [ds d];rfl)
 refine⟨c,(ah _ m rfl),a,by unfold ae;rwa [a];show _=FuncBody.stmts ((rm c).getD []);rwa [d];exact i,A,λs v=>⟨?_,h1,h2,h3,r,z,w,x⟩,k,g, ?_⟩
 ·rwa [v];unfold ce;rwa [a];rfl
 ·unfold keepIn;dsimp only;(rwa [m];rfl)
theorem ec{K:Gw}{d e:KC}{a:Cfg}{k:Nat}(l:i3 d e a.globs)(h1:a.meths=[])(h2:a.plain=[])(h3:a.props=[])(i:a.owns=[])(q:a.wns=[])(p:a.sets=[])
 (o:∀g m b,lkN g a.fns=some (m,b)→∀c,ak c K d e→av k c.A→aI c g m b):Lev K d e a k:=
 ⟨l,⟨λC n f h=>(by rw [h1]at h;exact noS h),λC n h=>(by rw [h2]at h;exact ftB h),λn C g m b h=>(by rw [i]at h;exact noS h),λn C h=>(by rw [p]at h;exact noS h)⟩,o,λc j j C n k h=>(by rw [h3]at h;exact noS h),λx g b h=>(by rw [q]at h;exact noS h),i⟩
theorem av.le{k m:Nat}{A:GI}(h:av k A)(b:m≤k):av m A:=⟨by have:=h.1;exact Lle [_,_,_] [Q0 V0 V1,Q0 (.a V2 V1) Z1] 0 (.a V2 V0) Z1 rfl b this,by have:=h.2;exact Lle [_,_,_] [Q3 V0 V1,Q0 (.a (.a V2 (.m 5 V1)) Z10) Z11] 0 (.a (.a V2 (.m 5 V0)) Z10) Z11 rfl b this⟩
theorem gX{c:Cx}{K:Gw}{l m:KC}{cfg:Cfg}{k:Nat}(T:ak c K l m)(V:Lev K l m cfg k)(q:av (k+1) c.A){f:cv}{n:Nat}{d:KA}(h:fdB K f d=true)(r:cfg.names=ce K f)(g:cfg.fi=n)(j:cfg.cells=[])
 (b:∀e,fdA K f=some e→∀i:List da,i.length=d.length→HK e ⟨i,[]⟩=pure (d.zip i))(a:Nat):aI c f n (cL cfg a d n (ae K f)):=by
 refine au (eO h) λe F=> ?_;refine ab F.ob λo s p=> ?_;exact Bp T V q s p F.body F.code (F.ok cfg r) F.par F.nd g j (b e F.isFd) F.keep a
theorem aI.sub{c:Cx}{f:cv}{n:Nat}{d a:ay}(h:aI c f n d)(q:∀g e vc r mu',e.length=n→a g e= .ok vc r mu'→aw vc→∃b,d g e= .ok b r mu'∧aw b):aI c f n a:=
 ⟨h.keep,λH o e s g p vc r mu' i R k l m j=>let⟨b,h1,h2⟩:=q g e vc r mu' i m j;h.run H o e s g p b r mu' i R k l h1 h2⟩
theorem f2{a:Type}{l:List a}(h:l.length=0):l=[]:=Hu.mp h
theorem mi{K:Gw}{d f:KC}{k:Nat}{b:List (cv×Nat×ay)}(h:b=[]):∀g m a,lkN g b=some (m,a)→∀c,ak c K d f→av k c.A→aI c g m a:=λg m a e=>by subst h;exact noS e
def bE(K:Gw)(f:cv)(b:KH)(c:List (Str×da)):Prop:=(fdA K f).map (λa=>HK a ⟨b,[]⟩)=some (pure c)
theorem bE.at{K:Gw}{f:cv}{b:KH}{c:List (Str×da)}(h:bE K f b c){a:Gx}(e:fdA K f=some a):HK a ⟨b,[]⟩=pure c:=by
 unfold bE at h;rw [e]at h;exact ds h
theorem k6{c:Gx}{a:Str}(h:∀v,HK c ⟨[v],[]⟩=pure [(a,v)]):∀b:List da,b.length=[a].length→HK c ⟨b,[]⟩=pure ([a].zip b)
 |[v],_=>h v
 |[],e=>by cases e
 |_::_::_,e=>by simp at e
def cb(K:Gw)(b d:KC)(k:Nat)(l:List (cv×Nat×ay)):Prop:=∀g m a,lkN g l=some (m,a)→∀c,ak c K b d→av k c.A→aI c g m a
theorem cb.nil{K:Gw}{b c:KC}{k:Nat}:cb K b c k []:=λa a a h=>by exact noS h
theorem cb.cons{K:Gw}{d f:KC}{k:Nat}{g:cv}{m:Nat}{a:ay}{l:List (cv×Nat×ay)}(h:∀c,ak c K d f→av k c.A→aI c g m a)(r:cb K d f k l):cb K d f k ((g,m,a)::l):=by
 intro i n b e c T j;unfold lkN at e;cases q:Nat.beq i g with
 |true=>rw [q]at e;cases e;rwa [ui q];exact h c T j
 |false=>rw [q]at e;exact r i n b e c T j
theorem aI.each{c:Cx}{f:cv}{n:Nat}{g b:ay}(h:aI c f n g)(u:∀i e vc r a,e.length=n→b i e= .ok vc r a→aw vc→∃k,aI c f n k∧∃d,k i e= .ok d r a∧aw d):aI c f n b:=
 ⟨h.keep,λH q e s i t vc r a j R m o p l=>let⟨_,F,d,h1,h2⟩:=u i e vc r a j p l;F.run H q e s i t d r a j R m o h1 h2⟩
theorem uE{c:Cx}{K:Gw}{u v:KC}{cfg:Cfg}{k:Nat}(T:ak c K u v)(z:Lev K u v cfg k)(B:av (k+1) c.A){f:cv}{n:Nat}{m:KA}(h:fdB K f m=true)(C:cfg.names=ce K f)(q:cfg.fi=n)(t:cfg.cells=[])
 {d:ay}{xsOf:List V→List V}(i:∀p,fdA K f=some p→∀H g b s e w vc r a,b.length=n→aq c.prog c.w (c.at H n) g b s→1≤s.toks→Vals (aa (c.at H n) g b s.heap) g e w→d e b= .ok vc r a→aw vc→fQ c (c.at H n) p ⟨w,[]⟩ m (xsOf e) g b s)
 (l:∀j e b vc r a g s1,b.length=n→d e b= .ok vc r a→aw vc→aG j cfg→ac j cfg g (b++[.frame (m.zip (xsOf e))]) s1→
  eo j.M j.A (un (ae K f) j.env) (ea j cfg g (b++[.frame (m.zip (xsOf e))]) s1 n r a) NoE s1):aI c f n d:=by
 refine au (eO h) λp F=> ?_;refine ab F.ob λo D A=> ?_;exact ng T z B D A F.body F.code (F.ok cfg C) F.par F.nd q t F.keep (i p F.isFd) λH L e b vc r a g s1 y I x G E=>l _ e b vc r a _ s1 y I x G E
def fS(K:Gw)(f:cv)(b:KH)(t:Hk (List (Str×da))):Prop:=(fdA K f).map (λa=>HK a ⟨b,[]⟩)=some t
theorem fS.at{K:Gw}{f:cv}{b:KH}{t:Hk (List (Str×da))}(h:fS K f b t){a:Gx}(e:fdA K f=some a):HK a ⟨b,[]⟩=t:=by
 unfold fS at h;rw [e]at h;exact ds h
end Mine
section
set_option backward.match.sparseCases false
namespace Mine
section
variable{c:Type}{vc:KG}{b:c}{a:KM}{G:Prop}
theorem gf{d:KN}{k:V→List V→Res c}(h:hdL d k= .ok vc b a)(g:∀x r,d=x::r→k x r= .ok vc b a→G):G:=by
 induction d using kv with
 |nil=>exact ga h
 |cons x r=>exact g x r rfl h
theorem yP{d:KN}{k:Res c}(h:mW d k= .ok vc b a)(g:d=[]→k= .ok vc b a→G):G:=by
 induction d using kv with
 |nil=>exact g rfl h
 |cons x r=>exact ga h
theorem ge{d:KN}{k:V→Res c}(h:one d k= .ok vc b a)(g:∀x,d=[x]→k x= .ok vc b a→G):G:=
 gf h λx r e h=>yP h λf h=>g x (f▸e) h
theorem ez{v:V}{k:Str→Res c}(h:b9 v k= .ok vc b a)(g:∀x,v= .str x→k x= .ok vc b a→G):G:=by
 induction v using V.casesOn<;>first|exact g _ rfl h|exact ga h
theorem jg{v:V}{k:Int→Res c}(h:d5 v k= .ok vc b a)(g:∀x,v= .int x→k x= .ok vc b a→G):G:=by
 induction v using V.casesOn<;>first|exact g _ rfl h|exact ga h
noncomputable def v4(v:V)(k:List Str→Res c):Res c:=match v with
 | .fstrs x=>k x
 |_=> .err ""
theorem qD{v:V}{k:List Str→Res c}(h:v4 v k= .ok vc b a)(g:∀x,v= .fstrs x→k x= .ok vc b a→G):G:=by
 induction v using V.casesOn<;>first|exact g _ rfl h|exact ga h
end
section
variable{c:KN}{d b:KM}{vc:KG}{v:V}{a:List V→List Prop→V→List AO→Prop}
theorem jO{P:KG}{r:V}{X:KN}(e:c=X)(h:Res.ok P r d= .ok vc v b)(g:a X P r d):a c vc v b:=by
 (refine ax (Res.ok.inj h) λf j i=> ?_;subst f;subst j;subst i);exact e▸g
def s1(P:Str→List Prop)(r:Str→V):ay:=λc d=>one c λv=>b9 v λx=> .ok (P x) (r x) d
@[elab_as_elim] theorem fq {P:Str→List Prop} {r:Str→V} (h:s1 P r c d= .ok vc v b) (g:∀x,a [.str x] (P x) (r x) d):a c vc v b:=
 ge h λw e h=>ez h λx f h=>jO (f▸e) h (g x)
def s1I(P:Int→List Prop)(r:Int→V):ay:=λc d=>one c λv=>d5 v λx=> .ok (P x) (r x) d
@[elab_as_elim] theorem tF {P:Int→List Prop} {r:Int→V} (h:s1I P r c d= .ok vc v b) (g:∀x,a [.int x] (P x) (r x) d):a c vc v b:=
 ge h λw e h=>jg h λx f h=>jO (f▸e) h (g x)
def s2(P:Str→Str→List Prop)(r:Str→Str→V):ay:=λc d=>hdL c λv q=>one q λw=>b9 v λx=>b9 w λy=> .ok (P x y) (r x y) d
@[elab_as_elim] theorem CD {P:Str→Str→List Prop} {r:Str→Str→V} (h:s2 P r c d= .ok vc v b) (g:∀x y,a [.str x, .str y] (P x y) (r x y) d):a c vc v b:=
 gf h λv q e h=>ge h λw i h=>ez h λx j h=>ez h λy f h=>jO (f▸j▸i▸e) h (g x y)
def s2I(P:Int→Int→List Prop)(r:Int→Int→V):ay:=λc d=>hdL c λv q=>one q λw=>d5 v λx=>d5 w λy=> .ok (P x y) (r x y) d
@[elab_as_elim] theorem tE {P:Int→Int→List Prop} {r:Int→Int→V} (h:s2I P r c d= .ok vc v b) (g:∀x y,a [.int x, .int y] (P x y) (r x y) d):a c vc v b:=
 gf h λv q e h=>ge h λw i h=>jg h λx j h=>jg h λy f h=>jO (f▸j▸i▸e) h (g x y)
def s3(P:Str→List Str→List Str→List Prop)(r:Str→List Str→List Str→V):ay:=λc d=>hdL c λu q=>hdL q λv q=>one q λw=>b9 u λx=>v4 v λy=>v4 w λz=> .ok (P x y z) (r x y z) d
@[elab_as_elim] theorem xw {P:Str→List Str→List Str→List Prop} {r:Str→List Str→List Str→V} (h:s3 P r c d= .ok vc v b) (g:∀x y z,a [.str x, .fstrs y, .fstrs z] (P x y z) (r x y z) d):a c vc v b:=
 gf h λu q e h=>gf h λv q k h=>ge h λw l h=>ez h λx j h=>qD h λy f h=>qD h λz i h=>jO (i▸f▸j▸l▸k▸e) h (g x y z)
end
noncomputable def sAt(X:KN)(M:KM)(H:KG)(r:V)(b:KM):ay:=λc a=> .ok ((c=X)::(a=M)::H) r b
end Mine
end
namespace Mine
noncomputable abbrev KK(P:ed):Gw:=Mine.hd.heap_39 P
noncomputable def G0:List (Str×V):=[("str", .type .str),("bytes", .type .bytes),("type", .type .type_),("int", .type .int),("bool", .type .bool),("list", .type .list),("deque", .type .deque),
 ("len", .blt .len),("isinstance", .blt .isinstance),("issubclass", .blt .issubclass),("divmod", .blt .divmod),
 ("_index", .adr 63),("StringIO", .adr 597),("BytesIO", .adr 350),("shlex", .adr 732),("quote", .adr 744),("_find_unsafe", .adr 737),("fspath", .adr 817),("_get_sep", .adr 831),("join_posixpath", .adr 838),
 ("splitroot", .adr 845),("dirname_posixpath", .adr 852),("normpath", .adr 859),("_law_place", .adr 866),("_law_home", .adr 873),("_law_lines", .adr 880)]
theorem cS(P:ed):G0.all (oG (KK P))=true:=by rfl'
theorem DX(P:ed):fdB (KK P) 817 ["path"]=true:=by rfl'
def uO(P:ed):Cfg:={fi:=0,names:=ce (KK P) 817,globs:=G0}
theorem Fr(P:ed)(v:da):bE (KK P) 817 [v] [("path",v)]:=by unfold bE;kernel_rfl
def fU:ay:=s1 (λx=>[]) λx=>(.str x)
theorem EA(P:ed)(x:Str):cL (uO P) 30 ["path"] 0 (ae (KK P) 817) [.str x] []= .ok [] (.str x) []:=by rfl'
theorem xE{P:ed}{b d:KC}(j:aR (KK P) b d){c:Cx}(T:ak c (KK P) b d)(i:av 1 c.A):aI c 817 0 fU:=
 (gX (cfg:=uO P) (k:=0) T (ec (bh j (cS P)) rfl rfl rfl rfl rfl rfl (mi rfl)) i (DX P) rfl rfl rfl (λn e=>k6 λv=>(Fr P v).at e) 30).sub λm l vc r g h f a=>by
  rw [f2 h]at f⊢;revert a;refine fq f λx a=> ?_
  ·exact(ah ([]) (EA P _) trivial)
theorem DW(P:ed):fdB (KK P) 831 ["path"]=true:=by rfl'
def uN(P:ed):Cfg:={fi:=0,names:=ce (KK P) 831,globs:=G0}
theorem Fq(P:ed)(v:da):bE (KK P) 831 [v] [("path",v)]:=by unfold bE;kernel_rfl
def iI:ay:=s1 (λa=>[]) λa=>(.str "/")
theorem Ez(P:ed)(x:Str):cL (uN P) 30 ["path"] 0 (ae (KK P) 831) [.str x] []= .ok [] (.str "/") []:=by rfl'
theorem C8{P:ed}{b d:KC}(j:aR (KK P) b d){c:Cx}(T:ak c (KK P) b d)(i:av 1 c.A):aI c 831 0 iI:=
 (gX (cfg:=uN P) (k:=0) T (ec (bh j (cS P)) rfl rfl rfl rfl rfl rfl (mi rfl)) i (DW P) rfl rfl rfl (λn e=>k6 λv=>(Fq P v).at e) 30).sub λm l vc r g h f a=>by
  rw [f2 h]at f⊢;revert a;refine fq f λx a=> ?_
  ·exact(ah ([]) (Ez P _) trivial)
theorem DU(P:ed):fdB (KK P) 845 ["p"]=true:=by rfl'
theorem Fo(P:ed)(v:da):bE (KK P) 845 [v] [("p",v)]:=by unfold bE;kernel_rfl
def iT(P:ed)(a:List (Nat×Bool)):Cfg:={fi:=0,names:=ce (KK P) 845,globs:=G0,orc:=a,fns:=[(817,0,fU),(831,0,iI)]}
theorem DS(P:ed):fdB (KK P) 852 ["p"]=true:=by rfl'
theorem Fn(P:ed)(v:da):bE (KK P) 852 [v] [("p",v)]:=by unfold bE;kernel_rfl
def j8(P:ed)(a:List (Nat×Bool)):Cfg:={fi:=0,names:=ce (KK P) 852,globs:=G0,orc:=a,fns:=[(817,0,fU),(831,0,iI)]}
theorem CR(P:ed)(x:Str):cL (iT P [(830007019,true)]) 30 ["p"] 0 (ae (KK P) 845) [.str x] []=Res.ok [true=true,true=true,true=true,true=true,x.length≤16777216,(i0 x none (some (ct 1)) !=cs "/")=true] (V.ftup [V.str "",V.str "",V.str x]) []:=by rfl'
theorem CQ(P:ed)(x:Str):cL (iT P [(830007019,false),(832009022,true)]) 30 ["p"] 0 (ae (KK P) 845) [.str x] []=Res.ok [true=true,true=true,true=true,true=true,x.length≤16777216,(i0 x none (some (ct 1)) !=cs "/")=false,x.length≤16777216,(i0 x (some (ct 1)) (some (ct 2)) !=cs "/")=true,x.length≤16777216] (V.ftup [V.str "",V.str "/",V.str (i0 x (some (ct 1)) none)]) []:=by rfl'
theorem CP(P:ed)(x:Str):cL (iT P [(830007019,false),(832009022,false),(832026039,true)]) 30 ["p"] 0 (ae (KK P) 845) [.str x] []=Res.ok [true=true,true=true,true=true,true=true,x.length≤16777216,(i0 x none (some (ct 1)) !=cs "/")=false,x.length≤16777216,(i0 x (some (ct 1)) (some (ct 2)) !=cs "/")=false,x.length≤16777216,(i0 x (some (ct 2)) (some (ct 3))==cs "/")=true,x.length≤16777216] (V.ftup [V.str "",V.str "/",V.str (i0 x (some (ct 1)) none)]) []:=by rfl'
theorem CO(P:ed)(x:Str):cL (iT P [(830007019,false),(832009022,false),(832026039,false)]) 30 ["p"] 0 (ae (KK P) 845) [.str x] []=Res.ok [true=true,true=true,true=true,true=true,x.length≤16777216,(i0 x none (some (ct 1)) !=cs "/")=false,x.length≤16777216,(i0 x (some (ct 1)) (some (ct 2)) !=cs "/")=false,x.length≤16777216,(i0 x (some (ct 2)) (some (ct 3))==cs "/")=false,x.length≤16777216,x.length≤16777216] (V.ftup [V.str "",V.str (i0 x none (some (ct 2))),V.str (i0 x (some (ct 2)) none)]) []:=by rfl'
theorem CN(P:ed)(x:Str):cL (j8 P [(841007011,true),(841016039,true)]) 30 ["p"] 0 (ae (KK P) 852) [.str x] []=Res.ok [true=true,true=true,true=true,true=true,true=true,true=true,true=true,true=true,x.length≤16777216,(i0 x none (some (Gs x "/"+ct 1))).length≤16777216,(ct (i0 x none (some (Gs x "/"+ct 1))).length !=ct 0)=true,(i0 x none (some (Gs x "/"+ct 1))).length≤16777216,1≤16,kV 9223372036854775807≤ct (i0 x none (some (Gs x "/"+ct 1))).length,ct (i0 x none (some (Gs x "/"+ct 1))).length≤ct 1048576,(i0 x none (some (Gs x "/"+ct 1)) !=Txt.mul "/" (ct (i0 x none (some (Gs x "/"+ct 1))).length))=true,(i0 x none (some (Gs x "/"+ct 1))).length≤16777216] (V.str (Jc (i0 x none (some (Gs x "/"+ct 1))) "/")) []:=by rfl'
theorem CM(P:ed)(x:Str):cL (j8 P [(841007011,false)]) 30 ["p"] 0 (ae (KK P) 852) [.str x] []=Res.ok [true=true,true=true,true=true,true=true,true=true,true=true,true=true,true=true,x.length≤16777216,(i0 x none (some (Gs x "/"+ct 1))).length≤16777216,(ct (i0 x none (some (Gs x "/"+ct 1))).length !=ct 0)=false] (V.str (i0 x none (some (Gs x "/"+ct 1)))) []:=by rfl'
theorem CL(P:ed)(x:Str):cL (j8 P [(841007011,true),(841016039,false)]) 30 ["p"] 0 (ae (KK P) 852) [.str x] []=Res.ok [true=true,true=true,true=true,true=true,true=true,true=true,true=true,true=true,x.length≤16777216,(i0 x none (some (Gs x "/"+ct 1))).length≤16777216,(ct (i0 x none (some (Gs x "/"+ct 1))).length !=ct 0)=true,(i0 x none (some (Gs x "/"+ct 1))).length≤16777216,1≤16,kV 9223372036854775807≤ct (i0 x none (some (Gs x "/"+ct 1))).length,ct (i0 x none (some (Gs x "/"+ct 1))).length≤ct 1048576,(i0 x none (some (Gs x "/"+ct 1)) !=Txt.mul "/" (ct (i0 x none (some (Gs x "/"+ct 1))).length))=false] (V.str (i0 x none (some (Gs x "/"+ct 1)))) []:=by rfl'
noncomputable def srA(x:Str):Bool:=i0 x none (some 1) !=("/":Str)
noncomputable def srB(x:Str):Bool:=i0 x (some 1) (some 2) !=("/":Str)
noncomputable def srC(x:Str):Bool:=i0 x (some 2) (some 3)==("/":Str)
def aZ(x:Str):Str:=if srA x then "" else if srB x||srC x then "/" else i0 x none (some 2)
def bd(x:Str):Str:=if srA x then x else if srB x||srC x then i0 x (some 1) none else i0 x (some 2) none
def ja:ay:=s1 (λx=>[x.length≤1000000]) λx=>(.ftup [.str "", .str (aZ x), .str (bd x)])
theorem wM{P:ed}{c d:KC}(e:aR (KK P) c d){k:Nat}(b:1≤k):cb (KK P) c d k [(817,0,fU),(831,0,iI)]:=
 .cons (λf T a=>xE e T (a.le b)) (.cons (λf T a=>C8 e T (a.le b)) .nil)
theorem C6:∀{P:ed} {h i:KC} {c:Cx} (j:aR (KK P) h i) (T:ak c (KK P) h i) (m:av 2 c.A),aI c 845 0 ja:=by
 refine' eI4;intro c i h P j T m;have F:∀b,aI c 845 0 (cL (iT P b) 30 ["p"] 0 (ae (KK P) 845)):=λb=>
  gX (cfg:=iT P b) (k:=1) T (ec (bh j (cS P)) rfl rfl rfl rfl rfl rfl (wM j (fx _))) m (DU P) rfl rfl rfl (λt e=>k6 λv=>(Fo P v).at e) 30
 refine(F []).each λs q vc r o p l f=> ?_;rw [f2 p]at l⊢;revert f;refine fq l λx f=> ?_
 ·have a:x.length≤16777216:=h9 f.1 (by decide)
  unfold aZ bd;cases d:srA x with
  |true=>exact⟨_,F _,_,CR P x,rfl,rfl,rfl,rfl,a,d,KP⟩
  |false=>
   cases g:srB x with
   |true=>exact⟨_,F _,_,CQ P x,rfl,rfl,rfl,rfl,a,d,a,g,a,KP⟩
   |false=>
    cases n:srC x with
    |true=>exact⟨_,F _,_,CP P x,rfl,rfl,rfl,rfl,a,d,a,g,a,n,a,KP⟩
    |false=>exact⟨_,F _,_,CO P x,rfl,rfl,rfl,rfl,a,d,a,g,a,n,a,a,KP⟩
noncomputable def cC(x:Str):Str:=i0 x none (some (Gs x ("/":Str)+1))
noncomputable def oH(h:Str):Bool:=h !=Txt.mul ("/":Str) (h.length:Int)
def aN(x:Str):Str:=if((cC x).length:Int) !=0&&oH (cC x)then Jc (cC x) ("/":Str)else cC x
def oZ:ay:=s1 (λx=>[x.length≤1000000]) λx=>(.str (aN x))
theorem xD{P:ed}{m n:KC}(s:aR (KK P) m n){c:Cx}(T:ak c (KK P) m n)(w:av 2 c.A):aI c 852 0 oZ:=by
 have F:∀b,aI c 852 0 (cL (j8 P b) 30 ["p"] 0 (ae (KK P) 852)):=λb=>
  gX (cfg:=j8 P b) (k:=1) T (ec (bh s (cS P)) rfl rfl rfl rfl rfl rfl (wM s (fx _))) w (DS P) rfl rfl rfl (λA e=>k6 λv=>(Fn P v).at e) 30
 refine(F []).each λz y vc r t u q g=> ?_;rw [f2 u]at q⊢;revert g;refine fq q λx g=> ?_
 ·have p:x.length≤1000000:=g.1
  have i:x.length≤16777216:=by exact Lle [_] [Q0 V0 Z2] 0 V0 (.c 16777216) rfl p
  have o:(cC x).length≤1000000:=h9 (Txt.slice_le x _ _) p;have a:(cC x).length≤16777216:=by exact Lle [_] [Q0 V0 Z2] 0 V0 (.c 16777216) rfl o
  have f:kV 9223372036854775807≤ct (cC x).length:=IN (show kV 9223372036854775807≤0 by decide) (z2 _)
  have d:ct (cC x).length≤ct 1048576:=Gi.mpr (by exact Lle [_] [Q0 V0 Z2] 0 V0 (.c 1048576) rfl o)
  unfold aN;cases j:(((cC x).length:Int) !=0)with
  |false=>exact⟨_,F _,_,CM P x,rfl,rfl,rfl,rfl,rfl,rfl,rfl,rfl,i,a,j,KP⟩
  |true=>
   cases l:oH (cC x)with
   |true=>exact⟨_,F _,_,CN P x,rfl,rfl,rfl,rfl,rfl,rfl,rfl,rfl,i,a,j,a,by decide,f,d,l,a,KP⟩
   |false=>exact⟨_,F _,_,CL P x,rfl,rfl,rfl,rfl,rfl,rfl,rfl,rfl,i,a,j,a,by decide,f,d,l,KP⟩
theorem DV(P:ed):fdB (KK P) 838 ["a","p"]=true:=by rfl'
theorem Fp(P:ed)(u v:da):fS (KK P) 838 [u,v] (newTuple [v]>>=λt=>pure [("a",u),("p",t)]):=by unfold fS;kernel_rfl
def iU(P:ed)(a:List (Nat×Bool)):Cfg:={fi:=0,names:=ce (KK P) 838,globs:=G0,orc:=a,fns:=[(817,0,fU),(831,0,iI)]}
theorem xz(P:ed)(a b:Str):am (fns (iU P [(811015032,true)]) 40) (ae (KK P) 838) [.frame [("a", .str a),("p", .ftup [.str b])]]=Res.ok [true=true,true=true,true=true,true=true,true=true,true=true,true=true,true=true,true=true,true=true,true=true,true=true,GV b "/"=true] (Fl.ret (V.str b)) [AO.frame [(cs "a",V.str a),(cs "p",V.ftup [V.str b]),(cs "sep",V.str "/"),(cs "path",V.str b),(cs "b",V.str b)],AO.gone]:=by rfl'
theorem CU(P:ed)(a b:Str):am (fns (iU P [(811015032,false),(811040044,false)]) 40) (ae (KK P) 838) [.frame [("a", .str a),("p", .ftup [.str b])]]=Res.ok [true=true,true=true,true=true,true=true,true=true,true=true,true=true,true=true,true=true,true=true,true=true,true=true,GV b "/"=false,a.length≤16777216,(ct a.length !=ct 0)=false] (Fl.ret (V.str b)) [AO.frame [(cs "a",V.str a),(cs "p",V.ftup [V.str b]),(cs "sep",V.str "/"),(cs "path",V.str b),(cs "b",V.str b)],AO.gone]:=by rfl'
theorem CT(P:ed)(a b:Str):am (fns (iU P [(811015032,false),(811040044,true),(813017035,true)]) 40) (ae (KK P) 838) [.frame [("a", .str a),("p", .ftup [.str b])]]=Res.ok [true=true,true=true,true=true,true=true,true=true,true=true,true=true,true=true,true=true,true=true,true=true,true=true,GV b "/"=false,a.length≤16777216,(ct a.length !=ct 0)=true,Jj a "/"=true,a.length+b.length≤16777216] (Fl.ret (V.str (a++b))) [AO.frame [(cs "a",V.str a),(cs "p",V.ftup [V.str b]),(cs "sep",V.str "/"),(cs "path",V.str (a++b)),(cs "b",V.str b)],AO.gone]:=by rfl'
theorem CS(P:ed)(a b:Str):am (fns (iU P [(811015032,false),(811040044,true),(813017035,false)]) 40) (ae (KK P) 838) [.frame [("a", .str a),("p", .ftup [.str b])]]=Res.ok [true=true,true=true,true=true,true=true,true=true,true=true,true=true,true=true,true=true,true=true,true=true,true=true,GV b "/"=false,a.length≤16777216,(ct a.length !=ct 0)=true,Jj a "/"=false,1+b.length≤16777216,a.length+(cs "/"++b).length≤16777216] (Fl.ret (V.str (a++(cs "/"++b)))) [AO.frame [(cs "a",V.str a),(cs "p",V.ftup [V.str b]),(cs "sep",V.str "/"),(cs "path",V.str (a++(cs "/"++b))),(cs "b",V.str b)],AO.gone]:=by rfl'
noncomputable def bp(a b:Str):Str:=if GV b ("/":Str)then b else if(a.length:Int) !=0 then(if Jj a ("/":Str)then a++b else a++(("/":Str)++b))else b
def xu:ay:=s2 (λa b=>[a.length≤1000000,b.length≤1000000]) λa b=>(.str (bp a b))
theorem C7:∀{P:ed} {o p:KC} {c:Cx} (y:aR (KK P) o p) (T:ak c (KK P) o p) (D:av 2 c.A),aI c 838 0 xu:=by
 refine' eI4;intro c p o P y T D;have F:∀g a b vc r,(am (fns (iU P g) 40) (ae (KK P) 838) [.frame [("a", .str a),("p", .ftup [.str b])]]= .ok vc (.ret r) [.frame [("a",V.str a),("p",V.ftup [V.str b]),("sep",V.str "/"),("path",r),("b",V.str b)],AO.gone])→aw vc→
  aI c 838 0 (sAt [.str a, .str b] [] [] r []):=λg a b vc r l e=>by
  refine uE (cfg:=iU P g) (k:=1) T (ec (bh y (cS P)) rfl rfl rfl rfl rfl rfl (wM y (fx _))) D (DV P) rfl rfl rfl (xsOf:=λA=>[.str a, .ftup [.str b]]) ?_ ?_
  ·intro L x H J z s B O vc r i m R I C q e
   cases q;(refine ax e ?_;clear e;intro d f A;subst d;subst f);(refine bg (Vals.two C) λu v d h1 h2=> ?_;subst d);exact qu R I C ((Fp P u v).at x)
  ·intro N B z E K i J s1 m q j G H
   cases q;(refine ax j ?_;clear j;intro d f A;subst d;subst f);exact iJ G 40 H l e (.inl rfl) (so _) rfl
 refine(F [(811015032,true)] "" "/" _ _ (xz P "" "/") ⟨rfl,rfl,rfl,rfl,rfl,rfl,rfl,rfl,rfl,rfl,rfl,rfl,by decide+kernel,KP⟩).each λB z vc r i m l e=> ?_
 rw [f2 m]at l⊢;revert e;refine CD l λa b e=> ?_
 ·have w:a.length≤1000000:=e.1
  have n:b.length≤1000000:=e.2.1;have t:a.length≤16777216:=by exact Lle [_] [Q0 V0 Z2] 0 V0 (.c 16777216) rfl w
  unfold bp;cases h1:GV b ("/":Str)with
  |true=>exact⟨_,F _ a b _ _ (xz P a b) ⟨rfl,rfl,rfl,rfl,rfl,rfl,rfl,rfl,rfl,rfl,rfl,rfl,h1,KP⟩,_,rfl,rfl,rfl,KP⟩
  |false=>
   cases h2:((a.length:Int) !=0)with
   |false=>exact⟨_,F _ a b _ _ (CU P a b) ⟨rfl,rfl,rfl,rfl,rfl,rfl,rfl,rfl,rfl,rfl,rfl,rfl,h1,t,h2,KP⟩,_,rfl,rfl,rfl,KP⟩
   |true=>
    cases h3:Jj a ("/":Str)with
    |true=>exact⟨_,F _ a b _ _ (CT P a b) ⟨rfl,rfl,rfl,rfl,rfl,rfl,rfl,rfl,rfl,rfl,rfl,rfl,h1,t,h2,h3,by exact Lle [_,_] [Q0 V0 Z2,Q0 V1 Z2] 0 (.a V0 V1) (.c 16777216) rfl w n,KP⟩,_,rfl,rfl,rfl,KP⟩
    |false=>exact⟨_,F _ a b _ _ (CS P a b) ⟨rfl,rfl,rfl,rfl,rfl,rfl,rfl,rfl,rfl,rfl,rfl,rfl,h1,t,h2,h3,by exact Lle [_] [Q0 V0 Z2] 0 (.a Z0 V0) (.c 16777216) rfl n,by rwa [z1 _ _];show a.length+(1+b.length)≤16777216;exact Lle [_,_] [Q0 V0 Z2,Q0 V1 Z2] 0 (.a V0 (.a Z0 V1)) (.c 16777216) rfl w n,KP⟩,_,rfl,rfl,rfl,KP⟩
section
variable{F d:aA}{c b:KB}{a:Nat→Option V}
theorem AO.re_live(o f:AO)(e:o.re a=some f)(h:f.live=true):o.live=true:=by
 induction o using AO.casesOn with
 |gone=>exact ds e▸h
 |_=>rfl
end
theorem aq.re{p:A8}{w:Gv}{d:Bd}{b ρ2:KB}{k mu2:KM}{s:dd}{σ:Nat→Option V}(R:aq p w d b k s)(n:ρ2.length=mu2.length)(z:ρ2.Nodup)(q:fg d.ρ₀ ρ2)(l:∀a∈ρ2,a∈b)
 (f:∀(j:Nat) (a:cv) (g:AO),ρ2[j]? =some a→mu2[j]? =some g→∃(i:Nat) (o:AO),b[i]? =some a∧k[i]? =some o∧o.re σ=some g)
 (m:Le (aa d b k s.heap) (aa d ρ2 mu2 s.heap)→∀i x a,σ i=some x→b[i]? =some a→Val (aa d ρ2 mu2 s.heap) ρ2 x (.ref a)):
 aq p w d ρ2 mu2 s∧(∀a,Own ρ2 mu2 a→Own b k a)∧∀x v y,V.re σ x=some y→Val (aa d b k s.heap) b x v→Val (aa d ρ2 mu2 s.heap) ρ2 y v:=by
 have c:∀a,Own ρ2 mu2 a→Own b k a:=by
  rintro a ⟨j,g,h1,h2,h3⟩
  refine bg (f j a g h1 h2) λi o A t u=> ?_;exact⟨i,o,A,t,AO.re_live o g u h3⟩
 have r:Le (aa d b k s.heap) (aa d ρ2 mu2 s.heap):=λa o C B=>ax B λh1 h2 h3=>⟨h1,λh=>h2 (c a h),h3⟩;refine(cB ⟨n,z,λj a g h1 h2=> ?_,R.base,λa D=>R.new a (l a D),R.big,R.hid,q,R.gens,R.os⟩ c (λx v y e h=>Val.re r (m r) x v y e h));refine bg (f j a g h1 h2) λi o A t u=> ?_;exact AOk.re r (m r) (λC h=>h) o g u (R.objs i a o A t)
noncomputable def eH(i:Nat):List Nat→Nat→Option Nat
 |[],_=>none
 |x::r,k=>bif Nat.beq i x then some k else eH i r (k+1)
def xH(o:AO):Option V:=match o with
 | .strs xs=>some (.fstrs xs)
 | .list xs=>bif V.closedL 0 xs then some (.flist xs)else none
 |_=>none
def dM(b:KM)(a:KF)(i:Nat):Option V:=(eH i a 0).elim ((b[i]?).bind xH) λj=>some (.ref j)
def ft(b:KM)(a:KF):List Nat→Option (List AO)
 |[]=>some []
 |i::r=>(b[i]?).bind λo=>(o.re (dM b a)).bind λc=>(ft b a r).map (c::·)
noncomputable def bN(a:KB):List Nat→List cv
 |[]=>[]
 |i::r=>(a[i]?).getD 0::bN a r
def lL(K:Nat→Bool)(c b:KB):Prop:=∀(i:Nat) (a:cv),K i=true→c[i]? =some a→b[i]? =some a
noncomputable def pR(K:Nat→Bool)(a:KF):Nat→Bool
 |0=>true
 |n+1=>(!(K n)||(match a[n]? with|some x=>Nat.beq x n|none=>false))&&pR K a n
theorem wO{K:Nat→Bool}{a:KF}:∀{n:Nat},pR K a n=true→∀i,i < n→K i=true→a[i]? =some i:=by
 intro d
 induction d with
 |succ n c=>
  intro h i b f;have h:((!(K n)||(match a[n]? with|some x=>Nat.beq x n|none=>false))&&pR K a n)=true:=h
  rw [lq]at h
  by_cases e:i=n
  ·subst e
   have h1:=h.1;rw [f]at h1;have h1:(match a[i]? with|some x=>Nat.beq x i|none=>false)=true:=h1
   cases q:a[i]? with
   |none=>rw [q]at h1;exact ftB h1
   |some x=>rw [q]at h1;(rwa [ui h1];rfl)
  ·exact c h.2 i (Nat.lt_of_le_of_ne (Nat.le_of_lt_succ b) e) f
 |zero=>
  intro _ i b _;exact absurd b (o1 _)
noncomputable def mf(i:Nat):List Nat→Bool
 |[]=>true
 |x::r=> !(Nat.beq i x)&&mf i r
def jR:List Nat→Bool
 |[]=>true
 |x::r=>mf x r&&jR r
noncomputable def mG(n:Nat):List Nat→Bool
 |[]=>true
 |x::r=>G6 x n&&mG n r
theorem uf{i:Nat}:∀{l:KF},mf i l=true→¬i∈l:=by
 intro b
 induction b with
 |nil=>
  intro _;exact HB
 |cons x r a=>
  intro h;have h:(!(Nat.beq i x)&&mf i r)=true:=h;rw [lq]at h
  rintro hm
  rcases q4.mp hm with rfl|hm
  ·have:=h.1;rw [Nat.beq_refl]at this;exact ftB this
  ·exact a h.2 hm
theorem nP:∀{l:KF},jR l=true→l.Nodup:=by
 intro b
 induction b with
 |nil=>
  intro _;exact List.nodup_nil
 |cons x r a=>
  intro h;have h:(mf x r&&jR r)=true:=h;rw [lq]at h;exact GK.mpr ⟨uf h.1,a h.2⟩
theorem qa{n:Nat}:∀{l:KF},mG n l=true→∀x∈l,x < n:=by
 intro b
 induction b with
 |nil=>
  intro _ x h;exact absurd h HB
 |cons y r a=>
  intro h x hx;have h:(G6 y n&&mG n r)=true:=h;rw [lq]at h;rcases q4.mp hx with rfl|hx
  ·exact ro h.1
  ·exact a h.2 x hx
theorem mc{i:Nat}:∀{l:KF} {k j:Nat},eH i l k=some j→k≤j∧l[j -k]? =some i:=by
 intro d
 induction d with
 |nil=>
  intro _ _ h;exact noS h
 |cons x r b=>
  intro k j h;unfold eH at h;cases q:Nat.beq i x with
  |true=>rw [q]at h;obtain rfl:=ds h;rwa [ui q,GC _];exact⟨fx _,rfl⟩
  |false=>
   rw [q]at h;refine ai (b h) λh1 h2=> ?_;refine⟨by exact Lle [_,_] [Q0 (.a V0 Z0) V1] 0 V0 V1 rfl h1, ?_⟩
   rwa [show j -k=(j -(k+1))+1 by exact Leq [_,_,_,_] [.h 4 1 1 (.a V2 V0) V1, .h 5 1 1 (.a V3 (.a V0 Z0)) V1] 0 V2 (.a V3 Z0) rfl (pm (Lle [_,_] [Q0 (.a V0 Z0) V1] 0 V0 V1 rfl h1)) (pm (h1)),G7];exact h2
theorem rz{i:Nat}:∀{l:KF} {k:Nat},eH i l k=none→¬i∈l:=by
 intro b
 induction b with
 |nil=>
  intro _ _;exact HB
 |cons x r a=>
  intro k h;unfold eH at h;cases q:Nat.beq i x with
  |true=>rw [q]at h;exact sNo h
  |false=>
   rw [q]at h;intro hm;rcases q4.mp hm with rfl|hm
   ·rw [Nat.beq_refl]at q;exact tfB q
   ·exact a h hm
theorem ey{b:KB}{a:cv}{l:KF}:∀{j:Nat},(∀x∈l,x < b.length)→((bN b l)[j]? =some a↔∃i:Nat,l[j]? =some i∧b[i]? =some a):=by
 induction l with
 |nil=>exact λk=>⟨λh=>noS h,λ⟨_,h,_⟩=>noS h⟩
 |cons x r g=>
  intro j d
  induction j using Ge with
  |zero=>
   have c:=kn (d x il);have e:(bN b (x::r))[0]? =b[x]? :=by rwa [c];exact congrArg (λy:Option cv=>some (y.getD 0)) c
   rwa [e];exact⟨λh=>⟨x,rfl,h⟩,λ⟨i,h1,h2⟩=>ds h1▸h2⟩
  |succ j=>exact g λy f=>d y (iv _ f)
theorem nN{c:KB}:∀{l:KF},(bN c l).length=l.length:=by
 intro b
 induction b with
 |nil=>
  exact rfl
 |cons x r a=>
  show(bN c r).length+1=_;rwa [a];rfl
theorem t3{c:KM}{b:KF}:∀{l:KF} {a:KM},ft c b l=some a→a.length=l.length:=by
 intro f
 induction f with
 |nil=>
  intro _ h;obtain rfl:=ds h;rfl
 |cons x r d=>
  intro a h;refine ab (Gk.mp (show((c[x]?).bind λo=>(o.re (dM c b)).bind λg=>(ft c b r).map (g::·))=some a from h)) λo i h=> ?_;refine ab (Gk.mp h) λg i h=> ?_;(refine ab (mr.mp h) λl j e=> ?_;subst e);(rwa [ix,ix,d j];rfl)
theorem t4{c:KM}{b:KF}:∀{l:KF} {a:KM},ft c b l=some a→∀{j:Nat} {d:AO},a[j]? =some d→∃(i:Nat) (o:AO),l[j]? =some i∧c[i]? =some o∧o.re (dM c b)=some d:=by
 intro f
 induction f with
 |nil=>
  intro _ h j d h2;obtain rfl:=ds h;trivial
 |cons x r e=>
  intro a h j d h2;refine ab (Gk.mp (show((c[x]?).bind λo=>(o.re (dM c b)).bind λd=>(ft c b r).map (d::·))=some a from h)) λo m h=> ?_;refine ab (Gk.mp h) λp k h=> ?_;(refine ab (mr.mp h) λl n g=> ?_;subst g)
  induction j using Ge with
  |zero=>obtain rfl:=(ds h2).symm;exact(ff x o rfl m k)
  |succ j=>rw [G7]at h2;exact e n h2
theorem nodup_of_getElem? {l:KB}(h:∀(i j:Nat) (a:cv),l[i]? =some a→l[j]? =some a→i=j):l.Nodup:=by
 refine List.pairwise_iff_getElem.mpr λi j f d b e=> ?_;have:=h i j _ (kn f) (by(rwa [kn d,e];rfl))
 exact Lno [_,_] [Q0 (.a V0 Z0) V1,Q2 V0 V1] rfl b this
structure bR(K:Nat→Bool)(ρ:KB)(mu:KM)(s:dd)(ρ':KB)(mu':KM)(s':dd):Prop where
 pre:lL K ρ ρ'
 keep:∀b o,¬Own ρ mu b→s.heap.get? b=some o→s'.heap.get? b=some o
 own:∀a,Own ρ' mu' a→Own ρ mu a∨s.heap.objs.size≤a
 size:s.heap.objs.size≤s'.heap.objs.size
theorem Ext.toN{f b:KB}{d c:KM}{s e:dd}(X:Ext f d s b c e)(K:Nat→Bool):bR K f d s b c e:=⟨λi a g h=>X.pre i a h,X.keep,X.own,X.size⟩
theorem bR.trans{K:Nat→Bool}{d e c:KB}{j l m:KM}{g f k:dd}(X:bR K d j g e l f)(Y:bR K e l f c m k):bR K d j g c m k:=
 ⟨λi a p h=>Y.pre i a p (X.pre i a p h),λb o h1 h2=>Y.keep b o (λh=>(X.own b h).elim h1 λn=>absurd (wl h2) (Go.mpr n)) (X.keep b o h1 h2),
  λa h=>(Y.own a h).elim (X.own a) λn=> .inr (h9 X.size n),h9 X.size Y.size⟩
theorem bR.toExt{K:Nat→Bool}{c e d:KB}{j l m:KM}{g f k:dd}(X:Ext c j g e l f)(Y:bR K e l f d m k)(p:∀i,i < c.length→K i=true):Ext c j g d m k:=
 ⟨λi a h=>Y.pre i a (p i (hX.mp h).1) (X.pre i a h),λb o h1 h2=>Y.keep b o (λh=>(X.own b h).elim h1 λn=>absurd (wl h2) (Go.mpr n)) (X.keep b o h1 h2),
  λa h=>(Y.own a h).elim (X.own a) λn=> .inr (h9 X.size n),h9 X.size Y.size⟩
theorem ac.replan{c:Cx}{p:Cfg}{e:KB}{l d:KM}{s:dd}(H:ac c p e l s)(K:Nat→Bool)(b:KF)(h1:pR K b l.length=true)(h2:mG l.length b=true)(h3:jR b=true)
 (L:ft l b b=some d)(z:K p.fi=true)(D:∀x j,lkC x p.cells=some j→K j=true)(W:∀i,i < c.d.ρ₀.length→K i=true):
 ∃r,ac c p r d s∧bR K e l s r d s∧∀x v y,V.re (dM l b) x=some y→Val (aa c.d e l s.heap) e x v→Val (aa c.d r d s.heap) r y v:=by
 revert H h1 h2 h3 L z D W;revert c p e l d s K b;refine' eI8;intro b K s d l e p c H h1 h2 h3 L z D W;have A:∀x∈b,x < e.length:=λx k=>by rwa [H.rep.len];exact qa h2 x k
 have T:=nP h3;have f:∀{j:Nat} {a:cv},(bN e b)[j]? =some a→∃i:Nat,b[j]? =some i∧e[i]? =some a:=λh=>(ey A).mp h;have m:lL K e (bN e b):=λi a P h=>(ey A).mpr (ah i (wO h1 i (by rwa [←H.rep.len];exact(hX.mp h).1) P) h)
 have a1:(bN e b).Nodup:=nodup_of_getElem? λi j a P u=>by
  refine ab (f P) λx C G=> ?_;refine ab (f u) λy E J=> ?_;have:=getElem?_inj_of_nodup H.rep.nodup G J;subst this;obtain⟨l1,e1⟩:=hX.mp C;obtain⟨l2,e2⟩:=hX.mp E;exact(List.getElem_inj T).mp (e1.trans e2.symm)
 have a2:∀a∈bN e b,a∈e:=λa t=>by
  refine au (Ho.mp t) λj u=> ?_;refine ab (f u) λi w q=> ?_;exact lf q
 have a3:∀(j:Nat) (a:cv) (U:AO),(bN e b)[j]? =some a→d[j]? =some U→∃(i:Nat) (o:AO),e[i]? =some a∧l[i]? =some o∧o.re (dM l b)=some U:=λj a U t N=>by
  refine ab (f t) λi C G=> ?_;refine bg (t4 L N) λi' o E J q5=> ?_;rw [C]at E;obtain rfl:=ds E;exact(ff i o G J q5)
 have a4:Le (aa c.d e l s.heap) (aa c.d (bN e b) d s.heap)→∀i x a,dM l b i=some x→e[i]? =some a→Val (aa c.d (bN e b) d s.heap) (bN e b) x (.ref a):=λhF i x a k t=>by
  have k:(eH i b 0).elim ((l[i]?).bind xH) (λj=>some (.ref j))=some x:=k;cases u:eH i b 0 with
  |some j=>
   rw [u]at k;obtain rfl:=ds k;exact⟨a,(ey A).mpr (ah i (mc u).2 t),rfl⟩
  |none=>
   rw [u]at k;have hn:=rz u;have I:¬Own (bN e b) d a:=by
    intro hZ;refine bg hZ λj w C w w=> ?_;refine ab (f C) λi' E J=> ?_;have:=getElem?_inj_of_nodup H.rep.nodup t J;subst this;exact hn (lf E)
   have Y:=(H.rep.new a (lf t)).2.2.1;refine ab (Gk.mp k) λo N k=> ?_
   induction o using AO.casesOn with
   |«strs» F=>
    obtain rfl:=ds k;exact aS (H.rep.objs i a _ t N) λB n g O=>⟨a,_,B,n,rfl,⟨Y,I,g⟩,rfl,rfl,O⟩
   |list F=>
    have k:(bif V.closedL 0 F then some (V.flist F)else none)=some x:=k;cases q:V.closedL 0 F with
    |false=>rw [q]at k;exact noS k
    |true=>
     rw [q]at k;obtain rfl:=ds k;exact aS (H.rep.objs i a _ t N) λB n g O=>⟨a,_,B,n,rfl,⟨Y,I,g⟩,rfl,rfl,Vals.cut hF (λi w h=>absurd h (o1 i)) F _ q O⟩
   |_=>exact noS k
 refine ax (H.rep.re (ρ2:=bN e b) (mu2:=d) (σ:=dM l b) (by(rwa [nN,t3 L];rfl)) a1 (λi a h=>m i a (W i (hX.mp h).1) (H.rep.pre i a h)) a2 a3 a4) λR ow Z=> ?_
 exact(iA _ ⟨R,H.tk,m _ _ z H.fr,λx j h=>let⟨a,C,G⟩:=H.cl x j h;⟨a,C,m _ _ (D x j h) G⟩⟩ ⟨m,λw w w h=>h,λa h=> .inl (ow a h),fx _⟩ Z)
def dK(b a:Cfg):Prop:=a={b with orc:=a.orc,vor:=a.vor}
structure KOk(c:Cx)(cfg:Cfg)(K:Nat→Bool):Prop where
 fi:K cfg.fi=true
 cl:∀x j,lkC x cfg.cells=some j→K j=true
 os:∀i,i < c.d.ρ₀.length→K i=true
section
variable{c:Cx}{cfg e:Cfg}{K:Nat→Bool}{ρ:KB}{mu:KM}{s:dd}
theorem ac.re(H:ac c cfg ρ mu s)(a:dK cfg e):ac c e ρ mu s:=by
 rwa [show e=_ from a];exact⟨H.rep,H.tk,H.fr,H.cl⟩
theorem dK.symm(a:dK cfg e):dK e cfg:=by unfold dK;(rwa [show e=_ from a];rfl)
theorem aF.re{d:Type}{b:KM}{R:aA→List cv→d→Prop}{x:d}{f:dd}(h:aF c cfg ρ mu s b R x f)(a:dK cfg e):aF c e ρ mu s b R x f:=
 let⟨ρ',H,X,r⟩:=h;⟨ρ',H.re a,X,r⟩
theorem aG.re:∀(G:aG c cfg) (b:dK cfg e),aG c e:=by
 revert c cfg e;refine' eI3;intro e cfg c G b;have d:=b.symm;generalize l:e=q at d⊢;rw [show q=_ from l▸b]at d⊢;exact⟨⟨G.ok.kind,G.ok.names,G.ok.globals,G.ok.builtins,G.ok.globs,G.ok.noclass,G.ok.handled,G.ok.units⟩,let⟨K,h1,h2⟩:=G.tab;(ah K h1 ⟨h2.1,h2.2,h2.3,h2.4⟩),G.fns,G.wns,G.owns,
  λC n k m ρ mu s i j o v a H h1 h2 h3 g=>ex (G.props C n k m ρ mu s i j o v a (H.re d) h1 h2 h3 g) (λf f h=>h.re d.symm) λf f z=>z⟩
theorem ea.re{n:Nat}{r:V}{g:KM}{i:Hj}{j:dd}(h:ea c cfg ρ mu s n r g i j)(f:dK cfg e):ea c e ρ mu s n r g i j:=
 let⟨ρ',mu1,H,X,a,b,d⟩:=h;⟨ρ',mu1,H.re f,X,a,b,d⟩
def fN(c:Cx)(cfg:Cfg)(K:Nat→Bool)(ρ:KB)(mu:KM)(s:dd)(b:KM):Hj→dd→Prop:=λf d=>f= .next∧∃a,ac c cfg a b d∧bR K ρ mu s a b d
def jA(c:Cx)(cfg:Cfg)(K:Nat→Bool)(ρ:KB)(mu:KM)(s:dd)(b:KM):Hj→dd→Prop:=λd f=>(d= .next∨d= .cont)∧∃a,ac c cfg a b f∧bR K ρ mu s a b f
def ch(cfg:Cfg)(q:Expr×Expr×List k0×nR)(v:V)(mu:KM):Res Fl:=((fns cfg 40).A q.1 v mu).bind λb a=>am (fns cfg 40) q.2.2.1 a
def whR(cfg:Cfg)(q:Expr×List k0×nR)(mu:KM):Res (Option Fl):=((fns cfg 40).T q.1 mu).bind λx a=>match x with
 |true=>(am (fns cfg 40) q.2.1 a).bind λd b=> .ok [] (some d) b
 |false=> .ok [] none a
theorem ie{f:Expr}{g:List k0}{w:nR}(H:ac c cfg ρ mu s)(n:Nat)(st:Nat→List AO)(A:st 0=mu)
 (o:∀i d l,i < n→ac c cfg d (st i) l→eo c.M c.A (A0 f c.env (Gu f c.env)) (λb s2=>b=true∧eo c.M c.A (un g c.env) (jA c cfg K d (st i) l (st (i+1))) NoE s2) NoE l)
 {t:KM}(r:∀d l,ac c cfg d (st n) l→eo c.M c.A (A0 f c.env (Gu f c.env)) (λb s2=>b=false∧fN c cfg K d (st n) l t .next s2) NoE l):
 eo c.M c.A (IP (.While f g [] w) c.env) (fN c cfg K ρ mu s t) NoE s:=by
 revert H A o r;revert c cfg K ρ mu s f g w n st t;refine' eI12;intro t st n w g f s mu ρ K cfg c H A o r;refine JF (Ii (λk l=>∃i d,k=n -i∧i≤n∧ac c cfg d (st i) l∧bR K ρ mu s d (st i) l) ?_ n (nt 0 ρ rfl (so _) (A▸H) (A▸(Ext.refl ..).toN K)))
 rintro k l ⟨i,d,rfl,hi,Hi,Xi⟩
 by_cases p:i < n
 ·refine ex (o i d l p Hi) (λb s2 u=> ?_) λy y z=>sq z
  (refine ai u ?_;clear u;intro C h2);subst C;refine ex h2 (λI F u=> ?_) λy y z=>sq z;(refine ai u ?_;clear u;intro G q;refine ab q ?_;clear q;intro x E B);have D:∃m,m < n -i∧∃j d,m=n -j∧j≤n∧ac c cfg d (st j) F∧bR K ρ mu s d (st j) F:=(ah (n -(i+1)) (by exact Lle [_,_,_,_] [Q1 (.a V2 (.a V0 Z0)) V1,Q2 (.a V3 V0) V1] 0 (.a V2 Z0) V3 rfl (pm (p)) (pm (Lle [_,_] [Q0 (.a V0 Z0) V1] 0 V0 V1 rfl p))) (nt (i+1) x rfl p E (Xi.trans B)))
  rcases G with rfl|rfl<;>exact D
 ·have:i=n:=by exact Leq [_,_] [Q0 V0 V1, .h 3 0 1 (.a V0 Z0) V1] 0 V0 V1 rfl hi p
  subst this;refine ex (r d l Hi) (λb s2 u=> ?_) λy y z=>sq z;(refine ax u ?_;clear u;intro C y q;refine ab q ?_;clear q;intro x E B);subst C;exact Gc ⟨rfl,x,E,Xi.trans B⟩
structure eb(K:Nat→Bool)(sel:KF)(mu mu':KM):Prop where
 fix:pR K sel mu.length=true
 lt:mG mu.length sel=true
 nd:jR sel=true
 pl:ft mu sel sel=some mu'
theorem ac.plan(H:ac c cfg ρ mu s)(b:KOk c cfg K){sel:KF}{mu':KM}(p:eb K sel mu mu'):
 ∃a,ac c cfg a mu' s∧bR K ρ mu s a mu' s∧∀x v y,V.re (dM mu sel) x=some y→Val (aa c.d ρ mu s.heap) ρ x v→Val (aa c.d a mu' s.heap) a y v:=
 H.replan K sel p.fix p.lt p.nd p.pl b.fi b.cl b.os
theorem i5:∀{q:Expr×List k0×nR} {vc:KG} {i:Fl} {d f:KM} {sel:KF} (G:aG c cfg) (j:dK cfg e) (x:KOk c cfg K) (H:ac c cfg ρ mu s) (a:whR e q mu= .ok vc (some i) d) (t:aw vc) (o:i= .next∨i= .cont) (p:eb K sel d f),eo c.M c.A (A0 q.1 c.env (Gu q.1 c.env)) (λb s2=>b=true∧eo c.M c.A (un q.2.1 c.env) (jA c cfg K ρ mu s f) NoE s2) NoE s:=by
 revert c cfg e K ρ mu s;refine' eI13;intro sel f d i vc q s mu ρ K e cfg c G j x H a t o p;(refine jy (Res.bind_ok a) λv1 b L w1 h1 w g=> ?_;subst g);refine ai (aj.mp t) λI R=> ?_;refine((bj (G.re j) 40).T _).use (H.re j) h1 I λu s1 P Z N J=> ?_;subst J
 induction u with
 |false=>cases w
 |true=>
  (refine jy (Res.bind_ok w) λv2 F Y w2 h2 U g=> ?_;subst g);cases U;refine ai (aj.mp R) λE k=> ?_;refine⟨rfl,ex (dp (G.re j) 40 Z h2 E) (λm s2 C=> ?_) λk k z=>z⟩;obtain⟨O,W,X2,l⟩:=C;refine eh ((W.re j.symm).plan x p) λn D B k=> ?_;refine⟨?_,n,D,((N.trans X2).toN K).trans B⟩
  induction m with
  |next=>exact .inl rfl
  |cont=>exact .inr rfl
  |brk=>have r:i= .brk:=l;rcases o with h|h<;>(rw [h]at r;exact nomatch r)
  |ret v=>(refine ab l ?_;clear l;intro y A k);rcases o with h|h<;>(rw [h]at A;exact nomatch A)
theorem jn:∀{q:Expr×List k0×nR} {vc:KG} {d f:KM} {sel:KF} (G:aG c cfg) (g:dK cfg e) (l:KOk c cfg K) (H:ac c cfg ρ mu s) (a:whR e q mu= .ok vc none d) (j:aw vc) (p:eb K sel d f),eo c.M c.A (A0 q.1 c.env (Gu q.1 c.env)) (λb s2=>b=false∧fN c cfg K ρ mu s f .next s2) NoE s:=by
 revert c cfg e K ρ mu s;refine' eI12;intro sel f d vc q s mu ρ K e cfg c G g l H a j p;(refine jy (Res.bind_ok a) λD b w E h1 k i=> ?_;subst i);refine ai (aj.mp j) λt F=> ?_;refine((bj (G.re g) 40).T _).use (H.re g) h1 t λu s1 y B x v=> ?_;subst v
 induction u with
 |true=>
  refine jy (Res.bind_ok k) λC r A I h2 z n=> ?_;cases z
 |false=>
  cases k;refine eh ((B.re g.symm).plan l p) λh o m n=> ?_;exact⟨rfl,rfl,h,o,(x.toN K).trans m⟩
theorem nD:∀{q:Expr×Expr×List k0×nR} {x:V} {u:da} {vc:KG} {i:Fl} {d g:KM} {sel:KF} (G:aG c cfg) (j:dK cfg e) (B:KOk c cfg K) (H:ac c cfg ρ mu s) (C:Val (aa c.d ρ mu s.heap) ρ x u) (a:ch e q x mu= .ok vc i d) (p:aw vc) (t:i= .next∨i= .cont) (w:eb K sel d g),eo c.M c.A (I5 q.1 c.env u) (λf s2=>eo c.M c.A (un q.2.2.1 c.env) (jA c cfg K ρ mu s g) NoE s2) NoE s:=by
 revert c cfg e K ρ mu s;refine' eI15;intro sel g d i vc u x q s mu ρ K e cfg c G j B H C a p t w;(refine jy (Res.bind_ok a) λY b L Z h1 E n=> ?_;subst n);refine ai (aj.mp p) λJ R=> ?_;refine ex (((bj (G.re j) 40).A q.1 x ρ mu s u (H.re j) C).use h1 J) (λf s2 l=> ?_) λf f z=>z;obtain⟨N,U,W,_⟩:=l;refine ex (dp (G.re j) 40 U E R) (λm s3 l=> ?_) λf f z=>z;obtain⟨O,I,F,o⟩:=l;refine eh ((I.re j.symm).plan B w) λk T P f=> ?_;refine⟨?_,k,T,((W.trans F).toN K).trans P⟩
 induction m with
 |next=>exact .inl rfl
 |cont=>exact .inr rfl
 |brk=>have r:i= .brk:=o;rcases t with h|h<;>(rw [h]at r;exact nomatch r)
 |ret v=>(refine ab o ?_;clear o;intro y D f);rcases t with h|h<;>(rw [h]at D;exact nomatch D)
theorem n6(C:cZ c cfg){b f:Expr}{k:List k0}{B:nR}{v:V}{tup:Bool}{xs:KN}(y:fB v=some (tup,xs))(g:∀x,foldedSetIterable f c.env x=pure x)(p:bT b=false∨tup=false)
 {mu1:KM}(j:∀Q,(∀u s1 t,ac c cfg t mu1 s1→Ext ρ mu s t mu1 s1→Val (aa c.d t mu1 s1.heap) t v u→Q u s1)→eo c.M c.A (Gu f c.env) Q NoE s)
 (O:K mu1.length=true)(st:Nat→List AO)(F:st 0=mu1)(w:∀i,(st i).length=mu1.length)
 (q:∀i x d l u,xs[i]? =some x→ac c cfg d (st i++[.iter tup v (i+1)]) l→Val (aa c.d d (st i++[.iter tup v (i+1)]) l.heap) d x u→
  eo c.M c.A (I5 b c.env u) (λo s2=>eo c.M c.A (un k c.env) (jA c cfg K d (st i++[.iter tup v (i+1)]) l (st (i+1)++[.iter tup v (i+1)])) NoE s2) NoE l):
 eo c.M c.A (IP (.For b f k [] B) c.env) (fN c cfg K ρ mu s (st xs.length++[.gone])) NoE s:=by
 revert C y g p j O F w q;revert c cfg K ρ mu s b f k B v tup xs mu1 st;refine' eI15;intro st mu1 xs tup v B k f b s mu ρ K cfg c C y g p j O F w q;refine wpAny_For (j _ λu s1 t U X1 Y=>ex (ly U Y y) (λit s2 h2=> ?_) λo o z=>sq z) g;(refine ax h2 ?_;clear h2;intro m H2 X2;subst m);subst F;have A:=uT U s1.heap.objs.size;generalize s1.heap.objs.size=I at*;refine codeAny_mono (lF (n:=xs.length) (λi l=>∃d,d[(st 0).length]? =some I∧ac c cfg d (st i++[.iter tup v i]) l∧bR K ρ mu s d (st i++[.iter tup v i]) l) (fN c cfg K ρ mu s (st xs.length++[.gone]) .next) (iA _ A H2 ((X1.trans X2).toN K))
  (P:=λi l r s3=>∃d,d[(st 0).length]? =some I∧bR K ρ mu s d (st i++[.iter tup v i]) l∧mM c cfg b I tup v xs d (st i) l i r s3)
  (λi l G h=> ?_) (λi l s3 G o h3=> ?_) λi l s3 u G o h3=> ?_) λL l h=> ?_
 ·(refine eh h ?_;clear h;intro d A H X)
  exact ex (nU C y p (w i) G H A) (λr s3 h3=>(iA d A X h3)) λo o z=>z
 ·(refine eh h3 ?_;clear h3;intro d A X h3)
  cases h3 with
  |done _ a J E=>subst a;exact⟨rfl,_,J,X.trans (E.toN K)⟩
 ·(refine eh h3 ?_;clear h3;intro d A X h3)
  cases h3 with
  |item _ x _ T hu J E D=>
   refine(an (jW T) (D _ (ex (q i x _ s3 u T J hu) (λo s4 h4=>ex h4 (λZ s5 W=> ?_) λo o z=>z) λo o z=>z)));(refine ai W ?_;clear W;intro hf m;refine ab m ?_;clear m;intro N H5 R);exact(an hf (iA N (R.pre _ _ O A) H5 ((X.trans (E.toN K)).trans R)))
 ·induction L with
  |ok Z=>(refine ai h ?_;clear h;intro m h;subst m);exact h
  |error a=>exact h
inductive ek(c:Cx)(cfg:Cfg)(K:Nat→Bool)(ρ:KB)(mu:KM)(s:dd)(n:Nat)(r:V)(mu':KM)(fl:Hj)(s':dd):Prop
 |mk (ρ':KB) (mu1:KM) (H:ac c cfg ρ' mu1 s') (X:bR K ρ mu s ρ' mu1 s') (hn:n≤mu1.length) (ht:mu1.take n=mu') (hv:Val (aa c.d ρ' mu1 s'.heap) ρ' r (match fl with| .ret v=>v|_=> .none))
theorem ek.trans{g:KB}{f:KM}{l:dd}{n:Nat}{r:V}{i:KM}{k:Hj}{j:dd}(X:bR K ρ mu s g f l)(h:ek c cfg K g f l n r i k j):ek c cfg K ρ mu s n r i k j:=
 let⟨ρ3,mu3,H3,X3,a,b,d⟩:=h;⟨ρ3,mu3,H3,X.trans X3,a,b,d⟩
theorem ek.toP{n:Nat}{r:V}{f:KM}{j:Hj}{g:dd}(h:ek c cfg K ρ mu s n r f j g)(k:∀i,i < ρ.length→K i=true):ea c cfg ρ mu s n r f j g:=
 let⟨ρ3,mu3,H3,X3,a,b,d⟩:=h;⟨ρ3,mu3,H3,bR.toExt (Ext.refl ..) X3 k,a,b,d⟩
theorem gO(G:aG c cfg)(q:dK cfg e)(E:KOk c cfg K){f:List k0}{vc:KG}{i:Fl}{g d:KM}{n:Nat}{k r:V}{j:KM}(H:ac c cfg ρ mu s)(a:am (fns e 40) f mu= .ok vc i g)(A:aw vc)
 (l:i= .ret k∨(i= .next∧k= .none)){sel:KF}(p:eb K sel g d)(I:V.re (dM g sel) k=some r)(J:Iy n d.length=true)(F:d.take n=j):eo c.M c.A (un f c.env) (ek c cfg K ρ mu s n r j) NoE s:=by
 refine ex (dp (G.re q) 40 (H.re q) a A) (λm P B=> ?_) λx x z=>z;obtain⟨L,N,O,b⟩:=B;refine eh ((N.re q.symm).plan E p) λo D v u=> ?_;refine⟨o,d,D,(O.toN K).trans v,ro J,F,u k _ r I ?_⟩
 induction m with
 |ret w=>
  (refine ab b ?_;clear b;intro y t C);rcases l with h|⟨h,_⟩<;>(rw [h]at t;cases t)
  exact C
 |next=>
  have b:i= .next:=b;rcases l with h|⟨_,h⟩
  ·rw [h]at b;exact nomatch b
  ·subst h;rfl
 |brk=>
  have b:i= .brk:=b;rcases l with h|⟨h,_⟩<;>(rw [h]at b;exact nomatch b)
 |cont=>
  have b:i= .cont:=b;rcases l with h|⟨h,_⟩<;>(rw [h]at b;exact nomatch b)
theorem ew(G:aG c cfg)(m:dK cfg e)(v:KOk c cfg K){pre b:List k0}{vc:KG}{g mu2:KM}{n:Nat}{r:V}{f:KM}(H:ac c cfg ρ mu s)(a:am (fns e 40) pre mu= .ok vc .next g)(q:aw vc)
 {sel:KF}(p:eb K sel g mu2)(k:∀d i,ac c cfg d mu2 i→eo c.M c.A (un b c.env) (ek c cfg K d mu2 i n r f) NoE i):eo c.M c.A (un (pre++b) c.env) (ek c cfg K ρ mu s n r f) NoE s:=by
 refine dR (G.re m) 40 (H.re m) a q λd i u w=> ?_;refine eh ((u.re m.symm).plan v p) λl t o j=> ?_;exact ex (k l i t) (λj j h=>h.trans ((w.toN K).trans o)) λj j z=>z
theorem jb{st:k0}{a:List k0}{mu1:KM}{n:Nat}{r:V}{d:KM}(h:eo c.M c.A (IP st c.env) (fN c cfg K ρ mu s mu1) NoE s)
 (k:∀g j,ac c cfg g mu1 j→eo c.M c.A (un a c.env) (ek c cfg K g mu1 j n r d) NoE j):eo c.M c.A (un (st::a) c.env) (ek c cfg K ρ mu s n r d) NoE s:=by
 refine pp (ex h (λq s1 l=> ?_) λb b z=>z);(refine ai l ?_;clear l;intro o f;refine ab f ?_;clear f;intro i p m);subst o;exact ex (k i s1 p) (λb b h=>h.trans m) λb b z=>z
end
end Mine
section
set_option backward.match.sparseCases false
namespace Mine
noncomputable def p0:nR:=⟨0,0,0,0⟩
section
variable{a:Type}
noncomputable def aHd(l:List k0)(d:a)(k:k0→a):a:=l.head?.elim d k
noncomputable def aH(l:List Expr)(d:a)(k:Expr→List Expr→a):a:=l.head?.elim d λe=>k e l.tail
noncomputable def sC(s:k0)(d:a)(k:Expr→nR→a):a:=if h:s.ctorIdx=3 then k0.Return.elim (motive_2:=λb=>a) s h λo p=>o.elim d λe=>k e p else d
noncomputable def B0(s:k0)(d:a)(k:List Expr→Expr→nR→a):a:=if h:s.ctorIdx=5 then k0.Assign.elim (motive_2:=λb=>a) s h k else d
noncomputable def aIf(s:k0)(d:a)(k:Expr→List k0→List k0→nR→a):a:=if h:s.ctorIdx=12 then k0.If.elim (motive_2:=λb=>a) s h k else d
noncomputable def aWh(s:k0)(d:a)(k:Expr→List k0→List k0→nR→a):a:=if h:s.ctorIdx=11 then k0.While.elim (motive_2:=λb=>a) s h k else d
noncomputable def aEx(s:k0)(d:a)(k:Expr→nR→a):a:=if h:s.ctorIdx=24 then k0.Expr.elim (motive_2:=λb=>a) s h k else d
noncomputable def kM(e:Expr)(d:a)(k:Expr→List Expr→nR→a):a:=if h:e.ctorIdx=16 then Expr.Call.elim (motive_1:=λc=>a) e h λf b c p=>k f b p else d
noncomputable def aAt(e:Expr)(d:a)(k:Expr→Str→nR→a):a:=if h:e.ctorIdx=20 then Iw (motive_1:=λb=>a) e h k else d
noncomputable def xc(e:Expr)(d:a)(k:Expr→Expr→nR→a):a:=if h:e.ctorIdx=2 then Expr.BinOp.elim (motive_1:=λb=>a) e h λl b r p=>k l r p else d
noncomputable def sE(e:Expr)(d:a)(k:List Expr→nR→a):a:=if h:e.ctorIdx=0 then Expr.BoolOp.elim (motive_1:=λb=>a) e h λb l p=>k l p else d
noncomputable def sD(e:Expr)(d:a)(k:Expr→List Expr→nR→a):a:=if h:e.ctorIdx=15 then Expr.Compare.elim (motive_1:=λc=>a) e h λb c r p=>k b r p else d
noncomputable def xQ(e:Expr)(d:a)(k:Str→nR→a):a:=if h:e.ctorIdx=23 then Expr.Name.elim (motive_1:=λb=>a) e h k else d
noncomputable def En(e:Expr)(d:a)(k:Expr→List Comprehension→Scope→nR→a):a:=if h:e.ctorIdx=8 then Expr.ListComp.elim (motive_1:=λb=>a) e h k else d
noncomputable def BZ(e:Expr)(d:a)(k:Str→Nat→nR→a):a:=if h:e.ctorIdx=19 then Expr.Constant.elim (motive_1:=λb=>a) e h λc n p=>if h:c.ctorIdx=5 then Const.str.elim (motive:=λb=>a) c h λs=>k s n p else d else d
end
noncomputable def eX(q:Expr×Expr×List k0×nR):k0:= .For q.1 q.2.1 q.2.2.1 [] q.2.2.2
noncomputable def pN(s:k0):Option (Expr×Expr×List k0×nR):=if h:s.ctorIdx=9 then k0.For.elim (motive_2:=λa=>Option (Expr×Expr×List k0×nR)) s h λt i b e p=>(match e with
 |[]=>some (t,i,b,p)
 |_::_=>none)else none
theorem zu{s:k0}{q:Expr×Expr×List k0×nR}(h:pN s=some q):s=eX q:=by
 revert h
 by_cases g:s.ctorIdx=9
 ·exact k0.For.elim (motive_2:=λs=>pN s=some q→s=eX q) s g λt i b e p=>e.casesOn (λh=>congrArg eX (ds h)) λa a h=>noS h
 ·exact λh=>noS ((dif_neg g).symm.trans h)
noncomputable def gJ(q:Expr×List k0×nR):k0:= .While q.1 q.2.1 [] q.2.2
noncomputable def whP(s:k0):Option (Expr×List k0×nR):=if h:s.ctorIdx=11 then k0.While.elim (motive_2:=λa=>Option (Expr×List k0×nR)) s h λt b e p=>(match e with
 |[]=>some (t,b,p)
 |_::_=>none)else none
theorem zW{s:k0}{q:Expr×List k0×nR}(h:whP s=some q):s=gJ q:=by
 revert h
 by_cases g:s.ctorIdx=11
 ·exact k0.While.elim (motive_2:=λs=>whP s=some q→s=gJ q) s g λt b e p=>e.casesOn (λh=>congrArg gJ (ds h)) λa a h=>noS h
 ·exact λh=>noS ((dif_neg g).symm.trans h)
section
variable{a:Type}(f:k0→Option a)(d:a)
noncomputable def atP(l:List k0)(n:Nat):a:=((l.drop n).head?.bind f).getD d
noncomputable def isP(l:List k0)(n:Nat):Bool:=((l.drop n).head?.bind f).isSome
theorem By{g:a→k0}(c:∀s q,f s=some q→s=g q){l:List k0}{n:Nat}(h:isP f l n=true):l=l.take n++(g (atP f d l n)::l.drop (n+1)):=by
 have e:l.drop (n+1)=(l.drop n).drop 1:=by(rwa [Kg];rfl)
 refine(Gg n l).symm.trans (congrArg (l.take n++·) ?_);rwa [e];unfold isP at h;unfold atP;generalize l.drop n=m at h⊢
 induction m using kv with
 |nil=>exact ftB h
 |cons s r=>
  refine au (Gj.mp h) λq b=> ?_;have b:f s=some q:=b;show s::r=g ((f s).getD d)::r;rwa [b];exact congrArg (· ::r) (c s q b)
end
def bU:List k0→Nat→Expr×Expr×List k0×nR:=atP pN (.List [] p0, .List [] p0,[],p0)
def kE:List k0→Nat→Bool:=isP pN
theorem qO{l:List k0}{n:Nat}(h:kE l n=true):l=l.take n++(eX (bU l n)::l.drop (n+1)):=By pN _ (λa a=>zu) h
def dg:List k0→Nat→Expr×List k0×nR:=atP whP (.List [] p0,[],p0)
def iP:List k0→Nat→Bool:=isP whP
theorem lQ{l:List k0}{n:Nat}(h:iP l n=true):l=l.take n++(gJ (dg l n)::l.drop (n+1)):=By whP _ (λa a=>zW) h
theorem kOk{c:Cx}{b:Cfg}{n:Nat}{K:Nat→Bool}(d:b.fi=n)(f:b.cells=[])(e:c.d.ρ₀.length≤n)(g:∀i,i < n+1→K i=true):KOk c b K:=
 ⟨by rwa [d];exact g n (ph _),λx j h=>(by rw [f]at h;exact noS h),λi k=>g i (by exact Lle [_,_,_] [Q0 V0 V1,Q0 (.a V2 Z0) V0] 0 (.a V2 Z0) (.a V1 Z0) rfl e k)⟩
theorem gB{c:Cx}{K:Gw}{u v:KC}{cfg:Cfg}{k:Nat}(T:ak c K u v)(z:Lev K u v cfg k)(B:av (k+1) c.A){f:cv}{n:Nat}{m:KA}(h:fdB K f m=true)(C:cfg.names=ce K f)(q:cfg.fi=n)(t:cfg.cells=[])
 {d:ay}{xsOf:List V→List V}(j:∀p,fdA K f=some p→∀H g b s e w vc r a,b.length=n→aq c.prog c.w (c.at H n) g b s→1≤s.toks→Vals (aa (c.at H n) g b s.heap) g e w→d e b= .ok vc r a→aw vc→fQ c (c.at H n) p ⟨w,[]⟩ m (xsOf e) g b s)
 (l:∀i e b vc r a g s1,b.length=n→d e b= .ok vc r a→aw vc→aG i cfg→i.d.ρ₀.length≤n→ac i cfg g (b++[.frame (m.zip (xsOf e))]) s1→
  eo i.M i.A (un (ae K f) i.env) (ea i cfg g (b++[.frame (m.zip (xsOf e))]) s1 n r a) NoE s1):aI c f n d:=by
 refine au (eO h) λp F=> ?_;refine ab F.ob λo D A=> ?_;exact ng T z B D A F.body F.code (F.ok cfg C) F.par F.nd q t F.keep (j p F.isFd) λH L e b vc r a g s1 y I x G E=>l _ e b vc r a _ s1 y I x G (by show(c.d.ρ₀.take n).length≤n;rwa [p7];exact(GY _ _)) E
end Mine
end
namespace Mine
def cx(P:ed)(a:List (Nat×Bool))(b:List (Nat×V)):Cfg:={fi:=0,names:=ce (KK P) 859,globs:=G0,orc:=a,vor:=b,fns:=[(817,0,fU),(845,0,ja)]}
def cI(P:ed):=bU (ae (KK P) 859) 6
noncomputable def cN(d b c:Str)(a:KA)(l:KL):AO:= .frame (([("path",V.str b),("sep", .str "/"),("dot", .str "."),("dotdot", .str ".."),("_", .str ""),("initial_slashes", .str c),("comps", .fstrs a),("new_comps",V.ref 1)]:KL)++l)
theorem CK(P:ed)(x:Str):am (fns (cx P [(855011015,true)] []) 40) ((ae (KK P) 859).take 6) [.frame [("path", .str x)]]=Res.ok [true=true,true=true,true=true,true=true,x.length≤16777216,(ct x.length !=ct 0)=true,true=true,true=true,x.length≤1000000,true=true,true=true,false=false,((bd x).length).succ.succ≤16777216] Fl.next [AO.frame [(cs "path",V.str (bd x)),(cs "sep",V.str "/"),(cs "dot",V.str "."),(cs "dotdot",V.str ".."),(cs "_",V.str ""),(cs "initial_slashes",V.str (aZ x)),(cs "comps",V.fstrs (ID (bd x) "/")),(cs "new_comps",V.ref 1)],AO.list []]:=by rfl'
theorem DD(P:ed):kE (ae (KK P) 859) 6=true:=by rfl'
theorem Er(P:ed):(cT (cI P).2.1,bT (cI P).1)=(false,false):=by rfl'
theorem Ar(P:ed)(x c d:Str)(a e:KA)(b:Str)(j:Nat):ch (cx P [(861015019,false)] []) (cI P) (.str b) [cN x c d a [], .strs e, .iter false (.fstrs a) j]=Res.ok [b.length≤16777216,(ct b.length !=ct 0)=false] Fl.cont [AO.frame [(cs "path",V.str c),(cs "sep",V.str "/"),(cs "dot",V.str "."),(cs "dotdot",V.str ".."),(cs "_",V.str ""),(cs "initial_slashes",V.str d),(cs "comps",V.fstrs a),(cs "new_comps",V.ref 1),(cs "comp",V.str b)],AO.strs e,AO.iter false (V.fstrs a) j]:=by rfl'
theorem Aq(P:ed)(x c d:Str)(a e:KA)(b f:Str)(j:Nat):ch (cx P [(861015019,false)] []) (cI P) (.str b) [cN x c d a [("comp", .str f)], .strs e, .iter false (.fstrs a) j]=Res.ok [b.length≤16777216,(ct b.length !=ct 0)=false] Fl.cont [AO.frame [(cs "path",V.str c),(cs "sep",V.str "/"),(cs "dot",V.str "."),(cs "dotdot",V.str ".."),(cs "_",V.str ""),(cs "initial_slashes",V.str d),(cs "comps",V.fstrs a),(cs "new_comps",V.ref 1),(cs "comp",V.str b)],AO.strs e,AO.iter false (V.fstrs a) j]:=by rfl'
theorem Ap(P:ed)(x c d:Str)(a e:KA)(b:Str)(j:Nat):ch (cx P [(861015019,true),(861023034,true)] []) (cI P) (.str b) [cN x c d a [], .strs e, .iter false (.fstrs a) j]=Res.ok [b.length≤16777216,(ct b.length !=ct 0)=true,(b==cs ".")=true] Fl.cont [AO.frame [(cs "path",V.str c),(cs "sep",V.str "/"),(cs "dot",V.str "."),(cs "dotdot",V.str ".."),(cs "_",V.str ""),(cs "initial_slashes",V.str d),(cs "comps",V.fstrs a),(cs "new_comps",V.ref 1),(cs "comp",V.str b)],AO.strs e,AO.iter false (V.fstrs a) j]:=by rfl'
theorem Ao(P:ed)(x c d:Str)(a e:KA)(b f:Str)(j:Nat):ch (cx P [(861015019,true),(861023034,true)] []) (cI P) (.str b) [cN x c d a [("comp", .str f)], .strs e, .iter false (.fstrs a) j]=Res.ok [b.length≤16777216,(ct b.length !=ct 0)=true,(b==cs ".")=true] Fl.cont [AO.frame [(cs "path",V.str c),(cs "sep",V.str "/"),(cs "dot",V.str "."),(cs "dotdot",V.str ".."),(cs "_",V.str ""),(cs "initial_slashes",V.str d),(cs "comps",V.fstrs a),(cs "new_comps",V.ref 1),(cs "comp",V.str b)],AO.strs e,AO.iter false (V.fstrs a) j]:=by rfl'
theorem An(P:ed)(x c d:Str)(b e:KA)(a:Str)(j:Nat):ch (cx P [(861015019,true),(861023034,false),(863011025,true)] []) (cI P) (.str a) [cN x c d b [], .strs e, .iter false (.fstrs b) j]=Res.ok [a.length≤16777216,(ct a.length !=ct 0)=true,(a==cs ".")=false,(a !=cs "..")=true,e.length≤16777216] Fl.next [AO.frame [(cs "path",V.str c),(cs "sep",V.str "/"),(cs "dot",V.str "."),(cs "dotdot",V.str ".."),(cs "_",V.str ""),(cs "initial_slashes",V.str d),(cs "comps",V.fstrs b),(cs "new_comps",V.ref 1),(cs "comp",V.str a)],AO.strs (e++[a]),AO.iter false (V.fstrs b) j]:=by rfl'
theorem Am(P:ed)(x c d:Str)(b e:KA)(a f:Str)(j:Nat):ch (cx P [(861015019,true),(861023034,false),(863011025,true)] []) (cI P) (.str a) [cN x c d b [("comp", .str f)], .strs e, .iter false (.fstrs b) j]=Res.ok [a.length≤16777216,(ct a.length !=ct 0)=true,(a==cs ".")=false,(a !=cs "..")=true,e.length≤16777216] Fl.next [AO.frame [(cs "path",V.str c),(cs "sep",V.str "/"),(cs "dot",V.str "."),(cs "dotdot",V.str ".."),(cs "_",V.str ""),(cs "initial_slashes",V.str d),(cs "comps",V.fstrs b),(cs "new_comps",V.ref 1),(cs "comp",V.str a)],AO.strs (e++[a]),AO.iter false (V.fstrs b) j]:=by rfl'
theorem Al(P:ed)(x e c:Str)(b d:KA)(a:Str)(j:Nat):ch (cx P [(861015019,true),(861023034,false),(863011025,false),(863034049,true),(863075084,false),(865013022,false)] []) (cI P) (.str a) [cN x e c b [], .strs d, .iter false (.fstrs b) j]=Res.ok [a.length≤16777216,(ct a.length !=ct 0)=true,(a==cs ".")=false,(a !=cs "..")=false,c.length≤16777216,(ct c.length !=ct 0)=true,d.length≤16777216,(!d.isEmpty)=false,d.length≤16777216,(!d.isEmpty)=false] Fl.next [AO.frame [(cs "path",V.str e),(cs "sep",V.str "/"),(cs "dot",V.str "."),(cs "dotdot",V.str ".."),(cs "_",V.str ""),(cs "initial_slashes",V.str c),(cs "comps",V.fstrs b),(cs "new_comps",V.ref 1),(cs "comp",V.str a)],AO.strs d,AO.iter false (V.fstrs b) j]:=by rfl'
theorem Ak(P:ed)(x e c:Str)(b d:KA)(a f:Str)(j:Nat):ch (cx P [(861015019,true),(861023034,false),(863011025,false),(863034049,true),(863075084,false),(865013022,false)] []) (cI P) (.str a) [cN x e c b [("comp", .str f)], .strs d, .iter false (.fstrs b) j]=Res.ok [a.length≤16777216,(ct a.length !=ct 0)=true,(a==cs ".")=false,(a !=cs "..")=false,c.length≤16777216,(ct c.length !=ct 0)=true,d.length≤16777216,(!d.isEmpty)=false,d.length≤16777216,(!d.isEmpty)=false] Fl.next [AO.frame [(cs "path",V.str e),(cs "sep",V.str "/"),(cs "dot",V.str "."),(cs "dotdot",V.str ".."),(cs "_",V.str ""),(cs "initial_slashes",V.str c),(cs "comps",V.fstrs b),(cs "new_comps",V.ref 1),(cs "comp",V.str a)],AO.strs d,AO.iter false (V.fstrs b) j]:=by rfl'
theorem Aj(P:ed)(x e d:Str)(c b:KA)(a:Str)(j:Nat):ch (cx P [(861015019,true),(861023034,false),(863011025,false),(863034049,true),(863075084,true),(863089112,true)] [(863089102, .str (b.getLastD GZ))]) (cI P) (.str a) [cN x e d c [], .strs b, .iter false (.fstrs c) j]=Res.ok [a.length≤16777216,(ct a.length !=ct 0)=true,(a==cs ".")=false,(a !=cs "..")=false,d.length≤16777216,(ct d.length !=ct 0)=true,b.length≤16777216,(!b.isEmpty)=true,b.length≤16777216,Gh V.str (bY b (kV 0))=some (V.str (b.getLastD "")),(b.getLastD ""==cs "..")=true,b.length≤16777216] Fl.next [AO.frame [(cs "path",V.str e),(cs "sep",V.str "/"),(cs "dot",V.str "."),(cs "dotdot",V.str ".."),(cs "_",V.str ""),(cs "initial_slashes",V.str d),(cs "comps",V.fstrs c),(cs "new_comps",V.ref 1),(cs "comp",V.str a)],AO.strs (b++[a]),AO.iter false (V.fstrs c) j]:=by rfl'
theorem Ai(P:ed)(x e d:Str)(c b:KA)(a f:Str)(j:Nat):ch (cx P [(861015019,true),(861023034,false),(863011025,false),(863034049,true),(863075084,true),(863089112,true)] [(863089102, .str (b.getLastD GZ))]) (cI P) (.str a) [cN x e d c [("comp", .str f)], .strs b, .iter false (.fstrs c) j]=Res.ok [a.length≤16777216,(ct a.length !=ct 0)=true,(a==cs ".")=false,(a !=cs "..")=false,d.length≤16777216,(ct d.length !=ct 0)=true,b.length≤16777216,(!b.isEmpty)=true,b.length≤16777216,Gh V.str (bY b (kV 0))=some (V.str (b.getLastD "")),(b.getLastD ""==cs "..")=true,b.length≤16777216] Fl.next [AO.frame [(cs "path",V.str e),(cs "sep",V.str "/"),(cs "dot",V.str "."),(cs "dotdot",V.str ".."),(cs "_",V.str ""),(cs "initial_slashes",V.str d),(cs "comps",V.fstrs c),(cs "new_comps",V.ref 1),(cs "comp",V.str a)],AO.strs (b++[a]),AO.iter false (V.fstrs c) j]:=by rfl'
theorem Ah(P:ed)(x e d:Str)(c a:KA)(b:Str)(j:Nat):ch (cx P [(861015019,true),(861023034,false),(863011025,false),(863034049,true),(863075084,true),(863089112,false),(865013022,true)] [(863089102, .str (a.getLastD GZ))]) (cI P) (.str b) [cN x e d c [], .strs a, .iter false (.fstrs c) j]=Res.ok [b.length≤16777216,(ct b.length !=ct 0)=true,(b==cs ".")=false,(b !=cs "..")=false,d.length≤16777216,(ct d.length !=ct 0)=true,a.length≤16777216,(!a.isEmpty)=true,a.length≤16777216,Gh V.str (bY a (kV 0))=some (V.str (a.getLastD "")),(a.getLastD ""==cs "..")=false,a.length≤16777216,(!a.isEmpty)=true,a≠[],a.length≤16777216] Fl.next [AO.frame [(cs "path",V.str e),(cs "sep",V.str "/"),(cs "dot",V.str "."),(cs "dotdot",V.str ".."),(cs "_",V.str ""),(cs "initial_slashes",V.str d),(cs "comps",V.fstrs c),(cs "new_comps",V.ref 1),(cs "comp",V.str b)],AO.strs a.dropLast,AO.iter false (V.fstrs c) j]:=by rfl'
theorem Ag(P:ed)(x e d:Str)(c a:KA)(b f:Str)(j:Nat):ch (cx P [(861015019,true),(861023034,false),(863011025,false),(863034049,true),(863075084,true),(863089112,false),(865013022,true)] [(863089102, .str (a.getLastD GZ))]) (cI P) (.str b) [cN x e d c [("comp", .str f)], .strs a, .iter false (.fstrs c) j]=Res.ok [b.length≤16777216,(ct b.length !=ct 0)=true,(b==cs ".")=false,(b !=cs "..")=false,d.length≤16777216,(ct d.length !=ct 0)=true,a.length≤16777216,(!a.isEmpty)=true,a.length≤16777216,Gh V.str (bY a (kV 0))=some (V.str (a.getLastD "")),(a.getLastD ""==cs "..")=false,a.length≤16777216,(!a.isEmpty)=true,a≠[],a.length≤16777216] Fl.next [AO.frame [(cs "path",V.str e),(cs "sep",V.str "/"),(cs "dot",V.str "."),(cs "dotdot",V.str ".."),(cs "_",V.str ""),(cs "initial_slashes",V.str d),(cs "comps",V.fstrs c),(cs "new_comps",V.ref 1),(cs "comp",V.str b)],AO.strs a.dropLast,AO.iter false (V.fstrs c) j]:=by rfl'
theorem CJ(P:ed)(x e a:Str)(d b:KA)(c:Str):am (fns (cx P [(869011015,true)] []) 40) ((ae (KK P) 859).drop 7) [cN x e a d [("comp", .str c)], .strs b, .gone]=Res.ok [1≤64,(IE (λ(x:Str)=>x.length) b).sum+b.length*64≤16777216,a.length+(f1 "/" b).length≤16777216,(a++f1 "/" b).length≤16777216,(ct (a++f1 "/" b).length !=ct 0)=true] (Fl.ret (V.str (a++f1 "/" b))) [AO.frame [(cs "path",V.str (a++f1 "/" b)),(cs "sep",V.str "/"),(cs "dot",V.str "."),(cs "dotdot",V.str ".."),(cs "_",V.str ""),(cs "initial_slashes",V.str a),(cs "comps",V.ref 1),(cs "new_comps",V.ref 1),(cs "comp",V.str c)],AO.strs b,AO.gone]:=by rfl'
section
variable{c:Cx}{b e:Cfg}{d:KB}{a:KM}{s:dd}
theorem ac.toStrs(H:ac c b d a s){i:Nat}(j:a[i]? =some (.list [])):ac c b d (a.set i (.strs [])) s∧Ext d a s d (a.set i (.strs [])) s:=by
 refine au (H.rep.lt j) λf l=> ?_;refine aS (H.rep.objs i f _ l j) λg n o m=> ?_;refine ai (H.rep.upd (o':= .strs []) l j rfl (λk k k h=>h) (fx _) rfl rfl λk=>⟨g,n,o,by rwa [show g.toList=[]from m];exact .nil⟩) λR X=> ?_
 exact⟨⟨R,H.tk,H.fr,H.cl⟩,X⟩
end
theorem DR(P:ed):fdB (KK P) 859 ["path"]=true:=by rfl'
theorem Fm(P:ed)(v:da):bE (KK P) 859 [v] [("path",v)]:=by unfold bE;kernel_rfl
noncomputable def bo(a:KA)(c:Str):List Str:=
 if(c.length:Int) !=0 then(if c==(".":Str)then a else if c !=("..":Str)then a++[c]else
  if !a.isEmpty then(if a.getLastD GZ==("..":Str)then a++[c]else a.dropLast)else a)else a
def ba(x:Str):List Str:=ID (bd x) ("/":Str)
def dh(x:Str):List Str:=(ba x).foldl bo []
def mh(x:Str):Str:=aZ x++f1 ("/":Str) (dh x)
def xt:ay:=s1 (λx=>[x.length≤1000000,((x.length:Int) !=0)=true,((aZ x).length:Int)≠0,(aZ x).length≤1000000,(bd x).length≤1000000,(ba x).length≤1000000,ba x≠[],(∀y∈ba x,y.length≤1000000),
 ((dh x).map (·.length)).sum+(dh x).length*64≤1000000,(f1 ("/":Str) (dh x)).length≤1000000]) λx=>(.str (mh x))
theorem ue:∀(b:KA) (c:Str),(bo b c).length≤b.length+1:=by
 refine' eI2;intro c b;unfold bo
 repeat' split
 all_goals simp [I3]<;>exact Lle [_] [] 0 V0 (.a (.a V0 Z0) Z0) rfl
theorem pO(l:KA):∀b:List Str,(l.foldl bo b).length≤b.length+l.length:=by
 induction l with
 |nil=>intro b;exact fx _
 |cons a r d=>intro b;have:=d (bo b a);have:=ue b a;rwa [Gd,ix];exact Lle [_,_,_,_] [Q0 V0 (.a V1 V2),Q0 V1 (.a V3 Z0)] 0 V0 (.a V3 (.a V2 Z0)) rfl ‹(List.foldl bo (bo b a) r).length≤(bo b a).length+r.length› this
theorem jq(b:KA)(h:(!b.isEmpty)=true):Gh V.str (bY b (kV 0))=some (V.str (b.getLastD GZ)):=by
 have c:0 < b.length:=by induction b using kv with|nil=>exact ftB h|cons a r=>exact J3 _
 have e:bY b (kV 0)=b[b.length -1]? :=by
  have d:G5 (kV 0) b.length=some (b.length -1):=by
   unfold G5;have h1:(kV 0:Int) < 0:=by decide
   have h2:(kV 0:Int)+(b.length:Int)=((b.length -1:Nat):Int):=by
    exact(Int.add_comm _ _).trans (mX c)
   (rw [if_pos h1];rwa [h2]);(rwa [if_pos (by rw [lq,decide_eq_true_iff,decide_eq_true_iff];exact⟨z2 _,Hw.mpr (Nat.sub_one_lt_of_lt c)⟩),IK _];rfl)
  unfold bY;rwa [d];rfl
 rwa [e,←Jd]
 induction b using kv with
 |nil=>exact ftB h
 |cons a r=>rwa [List.getLast?_cons,List.getLastD_cons];simp [List.getLast?_eq_getLast,List.getLastD_eq_getLast?]
theorem yf:∀(P:ed) (x e c:Str) (a d:KA) (b:Str) (j:Nat) {l:KL} (k:l=[]∨∃f,l=[(("comp":Str),V.str f)]) (i:b.length≤16777216) (g:d.length≤16777216) (m:c.length≤16777216) (n:((c.length:Int) !=0)=true),∃r s vc q,ch (cx P r s) (cI P) (.str b) [cN x e c a l, .strs d, .iter false (.fstrs a) j]=
 .ok vc q [cN x e c a [("comp", .str b)], .strs (bo d b), .iter false (.fstrs a) j]∧aw vc∧(q= .next∨q= .cont):=by
 refine' eI9;intro l j b d a c e x P k i g m n;unfold bo;cases h1:((b.length:Int) !=0)with
 |false=>
  rcases k with rfl|⟨f,rfl⟩
  ·exact(fc _ _ _ _ (Ar P x e c a d b j) ⟨i,h1,KP⟩ (.inr rfl))
  ·exact(fc _ _ _ _ (Aq P x e c a d b f j) ⟨i,h1,KP⟩ (.inr rfl))
 |true=>
 cases h2:(b==(".":Str))with
 |true=>
  rcases k with rfl|⟨f,rfl⟩
  ·exact(fc _ _ _ _ (Ap P x e c a d b j) ⟨i,h1,h2,KP⟩ (.inr rfl))
  ·exact(fc _ _ _ _ (Ao P x e c a d b f j) ⟨i,h1,h2,KP⟩ (.inr rfl))
 |false=>
 cases h3:(b !=("..":Str))with
 |true=>
  rcases k with rfl|⟨f,rfl⟩
  ·exact(fc _ _ _ _ (An P x e c a d b j) ⟨i,h1,h2,h3,g,KP⟩ (.inl rfl))
  ·exact(fc _ _ _ _ (Am P x e c a d b f j) ⟨i,h1,h2,h3,g,KP⟩ (.inl rfl))
 |false=>
 cases h:(!d.isEmpty)with
 |false=>
  rcases k with rfl|⟨f,rfl⟩
  ·exact(fc _ _ _ _ (Al P x e c a d b j) ⟨i,h1,h2,h3,m,n,g,h,g,h,KP⟩ (.inl rfl))
  ·exact(fc _ _ _ _ (Ak P x e c a d b f j) ⟨i,h1,h2,h3,m,n,g,h,g,h,KP⟩ (.inl rfl))
 |true=>
 have o:d≠[]:=by rintro rfl;exact ftB h
 cases p:(d.getLastD GZ==("..":Str))with
 |true=>
  rcases k with rfl|⟨f,rfl⟩
  ·exact(fc _ _ _ _ (Aj P x e c a d b j) ⟨i,h1,h2,h3,m,n,g,h,g,jq d h,p,g,KP⟩ (.inl rfl))
  ·exact(fc _ _ _ _ (Ai P x e c a d b f j) ⟨i,h1,h2,h3,m,n,g,h,g,jq d h,p,g,KP⟩ (.inl rfl))
 |false=>
  rcases k with rfl|⟨f,rfl⟩
  ·exact(fc _ _ _ _ (Ah P x e c a d b j) ⟨i,h1,h2,h3,m,n,g,h,g,jq d h,p,g,h,o,g,KP⟩ (.inl rfl))
  ·exact(fc _ _ _ _ (Ag P x e c a d b f j) ⟨i,h1,h2,h3,m,n,g,h,g,jq d h,p,g,h,o,g,KP⟩ (.inl rfl))
theorem Ff(P:ed)(x b c:Str)(a d:KA):(fns (cx P [] []) 40).E (cI P).2.1 [cN x b c a [], .strs d]= .ok [] (.fstrs a) [cN x b c a [], .strs d]:=by rfl'
noncomputable def oD(n:Str):Option Str→List (Str×V)
 |some y=>[(n, .str y)]
 |none=>[]
def hW(n:Str)(a:KA):Nat→List (Str×V)
 |0=>[]
 |i+1=>oD n a[i]?
theorem lw(n:Str)(a:KA)(i:Nat):hW n a i=[]∨∃b,hW n a i=[(n,V.str b)]:=by
 induction i using Ge with
 |zero=>exact .inl rfl
 |succ i=>
  show oD n a[i]? =[]∨∃b,oD n a[i]? =[(n,V.str b)];cases a[i]? with
  |some y=>exact .inr ⟨y,rfl⟩
  |none=>exact .inl rfl
theorem jk{n:Str}{a:KA}{i:Nat}{z:Str}(h:a[i]? =some z):hW n a (i+1)=[(n,V.str z)]:=by
 show oD n a[i]? =_;rwa [h];rfl
theorem rP(n:Str)(b:KA)(h:b≠[]):∃c,hW n b b.length=[(n,V.str c)]:=by
 induction b using kv with
 |nil=>exact absurd rfl h
 |cons a r=>exact⟨_,jk (i:=r.length) (kn (ph _))⟩
def kq(x b c:Str)(a:KA)(i:Nat):List AO:=
 [cN x b c a (hW "comp" a i), .strs ((a.take i).foldl bo [])]
theorem Fa{P:ed}{d e:KC}(f:aR (KK P) d e){k:Nat}(b:2≤k):cb (KK P) d e k [(817,0,fU),(845,0,ja)]:=
 .cons (λg T a=>xE f T (a.le (by exact Lle [_] [Q0 Z4 V0] 0 Z0 V0 rfl b))) (.cons (λg T a=>C6 f T (a.le b)) .nil)
theorem fT(P:ed)(o b:List (Nat×Bool))(v a:List (Nat×V)):dK (cx P o v) (cx P b a):=rfl
theorem yA{a:Str}(h:((a.length:Int))≠0):((a.length:Int) !=0)=true:=by rw [bne_iff_ne];exact h
theorem fN.toP{c:Cx}{b:Cfg}{i:KB}{e:KM}{s:dd}{a:KM}{g:Hj}{j:dd}(h:fN c b (λf=>true) i e s a g j):aF c b i e s a (FlR .next) g j:=
 ai h λk q=>ab q λd H X=>⟨d,H,bR.toExt (Ext.refl ..) X λf f=>rfl,by subst k;rfl⟩
theorem C5:∀{P:ed} {mg W:KC} {c:Cx} (Tp:aR (KK P) mg W) (T:ak c (KK P) mg W) (hr:av 3 c.A),aI c 859 0 xt:=by
 refine' eI4;intro c W mg P Tp T hr;refine gB (cfg:=cx P [] []) (k:=2) T (ec (bh Tp (cS P)) rfl rfl rfl rfl rfl rfl (Fa Tp (fx _))) hr (DR P) rfl rfl rfl (xsOf:=id) ?_ ?_
 ·intro fd U H a6 mu s xs vs vc r F hl R ht D o B
  revert D;refine fq o λd D=> ?_
  ·(refine ab (Vals.one D) λu j h1=> ?_;subst j)
   exact eg R ht D rfl ((Fm P u).at U)
 ·refine' eI8;intro s1 a6 F r vc mu xs c' hl o B G Y H
  rw [f2 hl]at o H⊢;revert B H;refine fq o λx B H=> ?_
  ·(refine xR B ?_;clear B;intro q1 q2 q3 N q5 q6 q7 q8 q9 A d)
   have KO:KOk c' (cx P [] []) (λd=>true):=kOk (n:=0) rfl rfl Y (λd d=>rfl);rwa [qO (DD P)];have G1:=G.re (fT P [] [(855011015,true)] [] []);refine dR G1 40 (H.re (fT P ..)) (CK P x) ⟨rfl,rfl,rfl,rfl,by exact Lle [_] [Q0 V0 Z2] 0 V0 (.c 16777216) rfl q1,q2,rfl,rfl,q1,rfl,rfl,rfl,by exact Lle [_] [Q0 V0 Z2] 0 (.a (.a V0 Z0) Z0) (.c 16777216) rfl q5,KP⟩ λa4 s2 O X1=> ?_
   have O:=O.re (fT P [(855011015,true)] [] [] []);refine ai (O.toStrs (i:=1) rfl) λH2 X2=> ?_;have a0:=X1.trans X2;refine ex (yx (cfg:=cx P [] []) (mu:=[cN x (bd x) (aZ x) (ba x) [], .strs []]) (ρ:=a4) (mu1:=kq x (bd x) (aZ x) (ba x) (ba x).length++[.gone]) ?_ λa7 s3 H3 X3=> ?_) (λd d h=>ea.trans a0 h) λd d z=>z
   ·have t:(cT (cI P).2.1,bT (cI P).1)=(false,false):=Er P
    have hm:((ba x).map V.str).length=(ba x).length:=pg ..;rwa [←hm];refine ex (n6 (K:=λd=>true) G.ok (v:= .fstrs (ba x)) (tup:=false) (xs:=(ba x).map .str) rfl (gH (by have:=congrArg JP t;exact this)) (.inl (by have:=congrArg Jl t;exact this)) (mu1:=[cN x (bd x) (aZ x) (ba x) [], .strs []])
     (λQ k=>((bj G 40).E _).use H2 (Ff P x (bd x) (aZ x) (ba x) []) trivial λu s' C I X' r'=>k u s' C I X' r') rfl (kq x (bd x) (aZ x) (ba x)) ?_ (λd=>rfl) ?_) (λd d h=>h.toP) λd d z=>z
    ·rfl
    ·intro i y C s' u hy I hu
     rw [II]at hy;(refine ab (mr.mp hy) λz m j=> ?_;subst j);have a5:z∈ba x:=lf m;have a9:i < (ba x).length:=(hX.mp m).1;have g:=pO ((ba x).take i) [];have Z:((ba x).take i).length≤(ba x).length:=by rwa [p7];exact(HC _ _)
     have h8:=q8 z a5;refine jy (yf P x (bd x) (aZ x) (ba x) (((ba x).take i).foldl bo []) z (i+1)
      (l:=hW "comp" (ba x) i) (lw ..) (by exact Lle [_] [Q0 V0 Z2] 0 V0 (.c 16777216) rfl h8) (by simp only [J4]at g;exact Lle [_,_,_] [Q0 V0 Z2,Q0 V1 (.a Z3 V2),Q0 V2 V0] 0 V1 (.c 16777216) rfl q6 g Z) (by exact Lle [_] [Q0 V0 Z2] 0 V0 (.c 16777216) rfl N) (yA q3)) λJ L ad fl e p hf=> ?_
     have o:kq x (bd x) (aZ x) (ba x) (i+1)=[cN x (bd x) (aZ x) (ba x) [("comp", .str z)], .strs (bo (((ba x).take i).foldl bo []) z)]:=by
      unfold kq;rwa [jk m,HO,m,Option.toList_some _,HQ];rfl
     rwa [o];exact nD G (fT P [] J [] L) KO (q:=cI P) I hu e p hf (sel:=[0,1,2]) ⟨rfl,rfl,rfl,rfl⟩
   ·have G2:=G.re (fT P [] [(869011015,true)] [] [])
    have b:∃f,kq x (bd x) (aZ x) (ba x) (ba x).length=[cN x (bd x) (aZ x) (ba x) [("comp", .str f)], .strs (dh x)]:=by
     refine au (rP "comp" (ba x) q7) λz m=> ?_;refine(fJ z ?_);unfold kq;rwa [m,HW];rfl
    (refine au b ?_;clear b;intro f b);rw [b]at H3 X3;refine ex (iJ G2 40 (H3.re (fT P ..)) (CJ P x (bd x) (aZ x) (ba x) (dh x) f) ⟨by decide,by exact Lle [_,_] [Q0 (.a V0 (.w V1 64)) Z2] 0 (.a V0 (.w V1 64)) (.c 16777216) rfl q9,by exact Lle [_,_] [Q0 V0 Z2,Q0 V1 Z2] 0 (.a V0 V1) (.c 16777216) rfl N A,by rwa [z1 _ _];exact Lle [_,_] [Q0 V0 Z2,Q0 V1 Z2] 0 (.a V0 V1) (.c 16777216) rfl N A, ?_,KP⟩ (.inl rfl) (so _) rfl) (λd d h=>(ea.trans X3 (h.re (fT P ..)))) λd d z=>z
    show((aZ x++f1 ("/":Str) (dh x)).length:Int) !=0;(rw [bne_iff_ne];rwa [z1 _ _]);exact jS (fa (uV q3) (og _ _))
def dw(P:ed)(a:List (Nat×Bool))(b:List (Nat×V)):Cfg:={fi:=0,names:=ce (KK P) 873,globs:=G0,orc:=a,vor:=b}
theorem DP(P:ed):fdB (KK P) 873 ["m"]=true:=by rfl'
theorem Fj(P:ed)(v:da):bE (KK P) 873 [v] [("m",v)]:=by unfold bE;kernel_rfl
theorem DA(P:ed)(m:Int):iP (ae (KK P) 873) 3=true:=by rfl'
theorem CH(P:ed)(m:Int):am (fns (dw P [(888007014,true)] []) 40) ((ae (KK P) 873).take 3) [.frame [("m", .int m)]]=Res.ok [decide (m≥ct 20)=true] Fl.next [AO.frame [(cs "m",V.int (m -ct 20)),(cs "root",V.str "//"),(cs "names",V.ref 1)],AO.list []]:=by rfl'
theorem CG(P:ed)(m:Int):am (fns (dw P [(888007014,false)] []) 40) ((ae (KK P) 873).take 3) [.frame [("m", .int m)]]=Res.ok [decide (m≥ct 20)=false] Fl.next [AO.frame [(cs "m",V.int m),(cs "root",V.str "/"),(cs "names",V.ref 1)],AO.list []]:=by rfl'
theorem Cj(P:ed)(m:Int)(b:Str)(a:KA)(c:Str):whR (dw P [(891010011,true)] [(893021047, .str c)]) (dg (ae (KK P) 873) 3) [.frame [("m", .int m),("root", .str b),("names", .ref 1)], .strs a]=Res.ok [(m !=ct 0)=true,ct 3≠ct 0,3 < 1073741824,3≤16777216,bY [V.str "a",V.str "b",V.str "it's"] ((m -ct 1).fmod (ct 3))=some (V.str c),a.length≤16777216] (some Fl.next) [AO.frame [(cs "m",V.int ((m -ct 1).fdiv (ct 3))),(cs "root",V.str b),(cs "names",V.ref 1),(cs "figure",V.int ((m -ct 1).fmod (ct 3)))],AO.strs (a++[c]),AO.list [V.str "a",V.str "b",V.str "it's"]]:=by rfl'
theorem Ci(P:ed)(m:Int)(b:Str)(a:KA)(c:Str)(g:Int):whR (dw P [(891010011,true)] [(893021047, .str c)]) (dg (ae (KK P) 873) 3) [.frame [("m", .int m),("root", .str b),("names", .ref 1),("figure", .int g)], .strs a]=Res.ok [(m !=ct 0)=true,ct 3≠ct 0,3 < 1073741824,3≤16777216,bY [V.str "a",V.str "b",V.str "it's"] ((m -ct 1).fmod (ct 3))=some (V.str c),a.length≤16777216] (some Fl.next) [AO.frame [(cs "m",V.int ((m -ct 1).fdiv (ct 3))),(cs "root",V.str b),(cs "names",V.ref 1),(cs "figure",V.int ((m -ct 1).fmod (ct 3)))],AO.strs (a++[c]),AO.list [V.str "a",V.str "b",V.str "it's"]]:=by rfl'
theorem Eu(P:ed)(m:Int)(b:Str)(a:KA)(l:KL):whR (dw P [(891010011,false)] []) (dg (ae (KK P) 873) 3) [.frame (([("m", .int m),("root", .str b),("names",V.ref 1)]:KL)++l), .strs a]=
 .ok [(m !=0)=false] none [.frame (([("m", .int m),("root", .str b),("names",V.ref 1)]:KL)++l), .strs a]:=by rfl'
theorem ER(P:ed)(m:Int)(b:Str)(a:KA)(l:KL):am (fns (dw P [] []) 40) ((ae (KK P) 873).drop 4) [.frame (([("m", .int m),("root", .str b),("names",V.ref 1)]:KL)++l), .strs a]=
 .ok [] (.ret (.ftup [.str b,V.ref 1])) [.frame (([("m", .int m),("root", .str b),("names",V.ref 1)]:KL)++l), .strs a]:=by rfl'
noncomputable def bQ(b:Nat):Nat→Nat→List Nat
 |0,_=>[]
 |k+1,m=>if m=0 then []else((m -1) % b)::bQ b k ((m -1)/b)
noncomputable def mit(b:Nat):Nat→Nat→Nat
 |m,0=>m
 |m,i+1=>mit b ((m -1)/b) i
theorem pz(b:Nat):∀(i m:Nat),mit b m (i+1)=(mit b m i -1)/b:=by
 intro c
 induction c with
 |zero=>
  intro _;exact rfl
 |succ i a=>
  intro m;show mit b ((m -1)/b) (i+1)=(mit b ((m -1)/b) i -1)/b;exact a _
theorem ia(b:Nat):∀(k m:Nat),m≤k→(∀i,i < (bQ b k m).length→mit b m i≠0∧(bQ b k m)[i]? =some ((mit b m i -1) % b))∧mit b m (bQ b k m).length=0:=by
 intro f
 induction f with
 |zero=>
  intro m h;have:m=0:=by exact Leq [_] [Q0 V0 Z3] 0 V0 Z3 rfl h
  subst this;exact⟨λi a=>absurd a (o1 _),rfl⟩
 |succ k e=>
  intro m h;unfold bQ
  by_cases d:m=0
  ·rwa [if_pos d];exact⟨λi a=>absurd a (o1 _),d⟩
  ·rwa [if_neg d]
   have g:(m -1)/b≤k:=h9 (Nat.div_le_self _ _) (by simp [*])
   refine ai (e ((m -1)/b) g) λh1 h2=> ?_;refine⟨λi a=> ?_,h2⟩
   induction i using Ge with
   |zero=>exact⟨d,rfl⟩
   |succ i=>exact h1 i (by simpa using a)
theorem pY(b:Nat):∀(k m:Nat),(bQ b k m).length≤k:=by
 intro c
 induction c with
 |zero=>
  intro _;exact fx _
 |succ k a=>
  intro m;unfold bQ
  by_cases d:m=0
  ·rwa [if_pos d];exact so _
  ·rwa [if_neg d,ix];exact GB (a _)
theorem pS{m b:Nat}(h:m≠0):((m:Int) -1).fdiv (b:Int)=(((m -1)/b:Nat):Int):=by
 (rwa [mX (Ji h),Int.fdiv_eq_ediv_of_nonneg _ (z2 _),Int.natCast_ediv _ _];rfl)
theorem pQ{m b:Nat}(h:m≠0):((m:Int) -1).fmod (b:Int)=(((m -1) % b:Nat):Int):=by
 (rwa [mX (Ji h),He _ (z2 _),Int.natCast_emod _ _];rfl)
noncomputable def eQ:Nat→Str
 |0=>"a"
 |1=>"b"
 |_=>"it's"
theorem wQ{x:Nat}(h:x < 3):bY [V.str "a",V.str "b",V.str "it's"] ((x:Nat):Int)=some (V.str (eQ x)):=
 ltS (ltS (ltS (ltN (P:=λx=>bY [V.str "a",V.str "b",V.str "it's"] ((x:Nat):Int)=some (V.str (eQ x)))) rfl) rfl) rfl x h
noncomputable def mw(m:Nat):Nat:=if 20≤m then m -20 else m
theorem pJ(m:Nat):mw m≤m:=by
 unfold mw
 split
 ·exact J5 _ _
 ·exact fx _
noncomputable def jr(m:Nat):Str:=if 20≤m then "//" else "/"
def gz(m:Nat):List Str:=(bQ 3 (mw m) (mw m)).map eQ
def Cz:ay:=s1I (λm=>[0≤m,m≤1000]) λm=>(.ftup [.str (jr m.toNat), .fstrs (gz m.toNat)])
def fy(b:Nat)(m:Nat):Nat→List (Str×V)
 |0=>[]
 |i+1=>[("figure", .int (((mit b m i -1) % b:Nat):Int))]
def ko(a:Str)(m:Nat)(i:Nat):List AO:=[.frame (([("m", .int ((mit 3 m i:Nat):Int)),("root", .str a),("names",V.ref 1)]:KL)++fy 3 m i), .strs (((bQ 3 m m).take i).map eQ)]
theorem iH(P:ed)(o b:List (Nat×Bool))(v a:List (Nat×V)):dK (dw P o v) (dw P b a):=rfl
theorem ET(b:Str)(m i:Nat)(a:KA):∃c,eb (G6 · 1) [0] [.frame (([("m", .int ((mit 3 m i:Nat):Int)),("root", .str b),("names",V.ref 1)]:KL)++fy 3 m i), .strs a] c:=by
 induction i using Ge<;>exact⟨_,rfl,rfl,rfl,rfl⟩
theorem yd:∀(P:ed) (a:Str) (m i:Nat) (q:m≤1000) (p:i < (bQ 3 m m).length),∃j k vc e,whR (dw P j k) (dg (ae (KK P) 873) 3) (ko a m i)= .ok vc (some .next) e∧aw vc∧
 eb (G6 · 1) [0,1] e (ko a m (i+1)):=by
 refine' eI4;intro i m a P q p;refine ai ((ia 3 m m (fx _)).1 i p) λg s=> ?_;have t:(mit 3 m i -1) % 3 < 3:=Nat.mod_lt _ (by decide)
 have r:(((mit 3 m i:Nat):Int) -ct 1).fmod (ct 3)=(((mit 3 m i -1) % 3:Nat):Int):=pQ g;have u:(((mit 3 m i:Nat):Int) -ct 1).fdiv (ct 3)=((mit 3 m (i+1):Nat):Int):=by rwa [pz _ _ _];exact pS g
 have f:(((mit 3 m i:Nat):Int) !=ct 0)=true:=by rw [bne_iff_ne];intro h;exact g (JJ.mp h)
 have o:((((bQ 3 m m).take i).map eQ)).length≤16777216:=by rwa [pg _,p7];have:=pY 3 m m;exact Lle [_,_,_] [Q0 V0 Z1,Q0 V1 V0,Q0 V2 V1] 0 V2 (.c 16777216) rfl q this (HC _ _)
 have d:((bQ 3 m m).take i).map eQ++[eQ ((mit 3 m i -1) % 3)]=((bQ 3 m m).take (i+1)).map eQ:=by
  rwa [HO,s,Hv];rfl
 have b:bY [V.str "a",V.str "b",V.str "it's"] ((((mit 3 m i:Nat):Int) -ct 1).fmod (ct 3))=some (V.str (eQ ((mit 3 m i -1) % 3))):=by rwa [r];exact wQ t
 have n:∀l:List AO,l=[.frame [("m", .int ((((mit 3 m i:Nat):Int) -ct 1).fdiv (ct 3))),("root", .str a),("names",V.ref 1),("figure", .int ((((mit 3 m i:Nat):Int) -ct 1).fmod (ct 3)))],
  .strs (((bQ 3 m m).take i).map eQ++[eQ ((mit 3 m i -1) % 3)]), .list [V.str "a",V.str "b",V.str "it's"]]→eb (G6 · 1) [0,1] l (ko a m (i+1)):=by
  rintro l rfl
  rwa [d,r,u];exact⟨rfl,rfl,rfl,rfl⟩
 cases i with
 |zero=>exact(fc _ _ _ _ (Cj P _ a _ (eQ ((mit 3 m 0 -1) % 3))) ⟨f,by decide,by decide,by decide,b,o,KP⟩ (n _ rfl))
 |succ i=>exact(fc _ _ _ _ (Ci P _ a _ (eQ ((mit 3 m (i+1) -1) % 3)) _) ⟨f,by decide,by decide,by decide,b,o,KP⟩ (n _ rfl))
theorem xC:∀{P:ed} {E F:KC} {c:Cx} (Y:aR (KK P) E F) (T:ak c (KK P) E F) (U:av 1 c.A),aI c 873 0 Cz:=by
 refine' eI4;intro c F E P Y T U;refine gB (cfg:=dw P [] []) (k:=0) T (ec (bh Y (cS P)) rfl rfl rfl rfl rfl rfl (mi rfl)) U (DP P) rfl rfl rfl (xsOf:=id) ?_ ?_
 ·intro fd L H x N s xs vs vc r A O R ht w y t
  revert w;refine tF y λd w=> ?_
  ·(refine ab (Vals.one w) λu l h1=> ?_;subst l)
   exact eg R ht w rfl ((Fj P u).at L)
 ·refine' eI8;intro s1 x A r vc N xs j O y t G J H
  rw [f2 O]at y H⊢;revert t H;refine tF y λm t H=> ?_
  ·(refine ax t ?_;clear t;intro q1 q2 d)
   have v:KOk j (dw P [] []) (G6 · 1):=kOk (n:=0) rfl rfl J (λi o=>GQ o);(refine au (Ix q1) λk l=> ?_;subst l);have f:∀m0 a b g,mw k=m0→jr k=a→ac j (dw P [] []) b [.frame [("m", .int (m0:Int)),("root", .str a),("names",V.ref 1)], .list []] g→
    eo j.M j.A (un (gJ (dg (ae (KK P) 873) 3)::(ae (KK P) 873).drop 4) j.env) (ek j (dw P [] []) (G6 · 1) b [.frame [("m", .int (m0:Int)),("root", .str a),("names",V.ref 1)], .list []] g 0 (.ftup [.str (jr k), .fstrs (gz k)]) []) NoE g:=by
    intro m0 a b g W e2 q;have B:m0≤1000:=by rwa [←W];exact h9 (pJ k) (Gi.mp q2)
    refine ai (q.toStrs (i:=1) rfl) λH2 X2=> ?_;refine ex (jb (cfg:=dw P [] []) (K:=(G6 · 1)) (ρ:=b) (mu:=ko a m0 0) (mu1:=ko a m0 (bQ 3 m0 m0).length) ?_ λa5 s3 H3=> ?_) (λd d h=>ek.trans (X2.toN _) h) λd d z=>z
    ·refine ie H2 (bQ 3 m0 m0).length (ko a m0) rfl (λi C s4 o I=> ?_) λC s4 I=> ?_
     ·refine jy (yd P a m0 i B o) λa0 a6 vc Z e p D=> ?_
      exact i5 G (iH P ..) v I e p (.inl rfl) D
     ·have h0:=(ia 3 m0 m0 (fx _)).2
      refine jn G (iH P ..) v I (Eu P _ a _ _) ⟨by rwa [h0];rfl,KP⟩ ⟨rfl,rfl,rfl, ?_⟩ (sel:=[0,1])
      cases h:(bQ 3 m0 m0).length<;>rfl
    ·have hn:((bQ 3 m0 m0).take (bQ 3 m0 m0).length).map eQ=gz k:=by rwa [HW];unfold gz;(rwa [W];rfl)
     refine au (ET a m0 (bQ 3 m0 m0).length (((bQ 3 m0 m0).take (bQ 3 m0 m0).length).map eQ)) λa4 D=> ?_;refine gO G (iH P ..) v H3 (ER P _ a _ _) trivial (.inl rfl) D (show _=some _ by rwa [e2,←hn];rfl) (GQ (so _)) rfl
   have hz:∀i,i < x.length→G6 i 1=true:=λi o=>GQ (by rw [H.rep.len]at o;exact o)
   refine ex (Q:=ek j (dw P [] []) (G6 · 1) x _ s1 0 (.ftup [.str (jr k), .fstrs (gz k)]) []) ?_ (λd d h=>h.toP hz) λd d z=>z;rwa [lQ (DA P k)]
   by_cases h:20≤k
   ·refine ew G (iH P ..) v H (CH P k) ⟨decide_eq_true (Gi.mpr h),KP⟩ (sel:=[0,1]) ⟨rfl,rfl,rfl,rfl⟩ λb g q=> ?_
    have e:((k:Int) -ct 20)=((k -20:Nat):Int):=mX h;rw [e]at q⊢;exact f _ _ b g (if_pos h) (if_pos h) q
   ·refine ew G (iH P ..) v H (CG P k) ⟨decide_eq_false (λhh=>h (Gi.mp hh)),KP⟩ (sel:=[0,1]) ⟨rfl,rfl,rfl,rfl⟩ λb g q=> ?_
    exact f _ _ b g (if_neg h) (if_neg h) q
def bv(P:ed)(a:List (Nat×Bool))(b:List (Nat×V)):Cfg:={fi:=0,names:=ce (KK P) 866,globs:=G0,orc:=a,vor:=b}
theorem DQ(P:ed):fdB (KK P) 866 ["root","names","row"]=true:=by rfl'
theorem Fk(P:ed)(v w x:da):bE (KK P) 866 [v,w,x] [("root",v),("names",w),("row",x)]:=by unfold bE;kernel_rfl
theorem DC(P:ed):(iP (ae (KK P) 866) 1,kE (ae (KK P) 866) 5)=(true,true):=by rfl'
theorem Ep(P:ed):(cT (bU (ae (KK P) 866) 5).2.1,bT (bU (ae (KK P) 866) 5).1)=(false,false):=by rfl'
theorem CI(P:ed)(b:Str)(a c:KA):am (fns (bv P [] []) 40) ((ae (KK P) 866).take 1) [.frame [("root", .str b),("names", .fstrs a),("row", .fstrs c)]]=Res.ok [] Fl.next [AO.frame [(cs "root",V.str b),(cs "names",V.fstrs a),(cs "row",V.fstrs c),(cs "ahead",V.int (ct 0))]]:=by rfl'
theorem Cm(P:ed)(c:Str)(b a:KA)(k:Int):whR (bv P [(873010026,true),(873031047,true)] [(873031041, .str "")]) (dg (ae (KK P) 866) 1) [.frame [("root", .str c),("names", .fstrs b),("row", .fstrs a),("ahead", .int k)]]=Res.ok [a.length≤16777216,decide (k < ct a.length)=true,a.length≤16777216,Gh V.str (bY a k)=some (V.str ""),true=true] (some Fl.next) [AO.frame [(cs "root",V.str c),(cs "names",V.fstrs b),(cs "row",V.fstrs a),(cs "ahead",V.int (k+ct 1))]]:=by rfl'
theorem Cl(P:ed)(c:Str)(b a:KA)(k:Int)(x:Str):whR (bv P [(873010026,true),(873031047,false)] [(873031041, .str x)]) (dg (ae (KK P) 866) 1) [.frame [("root", .str c),("names", .fstrs b),("row", .fstrs a),("ahead", .int k)]]=Res.ok [a.length≤16777216,decide (k < ct a.length)=true,a.length≤16777216,Gh V.str (bY a k)=some (V.str x),(x==cs "")=false] none [AO.frame [(cs "root",V.str c),(cs "names",V.fstrs b),(cs "row",V.fstrs a),(cs "ahead",V.int k)]]:=by rfl'
theorem Ck(P:ed)(c:Str)(a b:KA)(k:Int):whR (bv P [(873010026,false)] []) (dg (ae (KK P) 866) 1) [.frame [("root", .str c),("names", .fstrs a),("row", .fstrs b),("ahead", .int k)]]=Res.ok [b.length≤16777216,decide (k < ct b.length)=false] none [AO.frame [(cs "root",V.str c),(cs "names",V.fstrs a),(cs "row",V.fstrs b),(cs "ahead",V.int k)]]:=by rfl'
theorem Dr(P:ed)(b:Str)(a c:KA)(k:Int):am (fns (bv P [(875007012,false),(877007012,false)] []) 40) (((ae (KK P) 866).drop 2).take 3) [.frame [("root", .str b),("names", .fstrs a),("row", .fstrs c),("ahead", .int k)]]=Res.ok [(k !=ct 0)=false,(k !=ct 0)=false,a.length≤16777216] Fl.next [AO.frame [(cs "root",V.str b),(cs "names",V.ref 1),(cs "row",V.fstrs c),(cs "ahead",V.int k)],AO.strs a]:=by rfl'
theorem Dq(P:ed)(c:Str)(a b:KA)(k:Int):am (fns (bv P [(875007012,true),(875017034,true),(877007012,false)] []) 40) (((ae (KK P) 866).drop 2).take 3) [.frame [("root", .str c),("names", .fstrs a),("row", .fstrs b),("ahead", .int k)]]=Res.ok [(k !=ct 0)=true,b.length≤16777216,(k==ct b.length)=true,(k -ct 1 !=ct 0)=false,a.length≤16777216] Fl.next [AO.frame [(cs "root",V.str c),(cs "names",V.ref 1),(cs "row",V.fstrs b),(cs "ahead",V.int (k -ct 1))],AO.strs a]:=by rfl'
theorem Dp(P:ed)(c:Str)(b a:KA)(k:Int):am (fns (bv P [(875007012,true),(875017034,true),(877007012,true),(878031041,true)] []) 40) (((ae (KK P) 866).drop 2).take 3) [.frame [("root", .str c),("names", .fstrs b),("row", .fstrs a),("ahead", .int k)]]=Res.ok [(k !=ct 0)=true,a.length≤16777216,(k==ct a.length)=true,(k -ct 1 !=ct 0)=true,(k -ct 1==ct 2)=true,0≤16777216] Fl.next [AO.frame [(cs "root",V.str "//"),(cs "names",V.ref 2),(cs "row",V.fstrs a),(cs "ahead",V.int (k -ct 1))],AO.list [],AO.list []]:=by rfl'
theorem Do(P:ed)(c:Str)(b a:KA)(k:Int):am (fns (bv P [(875007012,true),(875017034,true),(877007012,true),(878031041,false)] []) 40) (((ae (KK P) 866).drop 2).take 3) [.frame [("root", .str c),("names", .fstrs b),("row", .fstrs a),("ahead", .int k)]]=Res.ok [(k !=ct 0)=true,a.length≤16777216,(k==ct a.length)=true,(k -ct 1 !=ct 0)=true,(k -ct 1==ct 2)=false,0≤16777216] Fl.next [AO.frame [(cs "root",V.str "/"),(cs "names",V.ref 2),(cs "row",V.fstrs a),(cs "ahead",V.int (k -ct 1))],AO.list [],AO.list []]:=by rfl'
theorem Dn(P:ed)(c:Str)(b a:KA)(k:Int):am (fns (bv P [(875007012,true),(875017034,false),(877007012,true),(878031041,true)] []) 40) (((ae (KK P) 866).drop 2).take 3) [.frame [("root", .str c),("names", .fstrs b),("row", .fstrs a),("ahead", .int k)]]=Res.ok [(k !=ct 0)=true,a.length≤16777216,(k==ct a.length)=false,(k !=ct 0)=true,(k==ct 2)=true,0≤16777216] Fl.next [AO.frame [(cs "root",V.str "//"),(cs "names",V.ref 2),(cs "row",V.fstrs a),(cs "ahead",V.int k)],AO.list [],AO.list []]:=by rfl'
theorem Dm(P:ed)(c:Str)(b a:KA)(k:Int):am (fns (bv P [(875007012,true),(875017034,false),(877007012,true),(878031041,false)] []) 40) (((ae (KK P) 866).drop 2).take 3) [.frame [("root", .str c),("names", .fstrs b),("row", .fstrs a),("ahead", .int k)]]=Res.ok [(k !=ct 0)=true,a.length≤16777216,(k==ct a.length)=false,(k !=ct 0)=true,(k==ct 2)=false,0≤16777216] Fl.next [AO.frame [(cs "root",V.str "/"),(cs "names",V.ref 2),(cs "row",V.fstrs a),(cs "ahead",V.int k)],AO.list [],AO.list []]:=by rfl'
theorem AS(P:ed)(d:Str)(a c:KA)(k:Int)(b:Str)(j:Nat):ch (bv P [(881011023,true)] []) (bU (ae (KK P) 866) 5) (.str b) [.frame [("root", .str d),("names",V.ref 1),("row", .fstrs c),("ahead", .int k)], .strs a, .iter false (.fstrs c) j]=Res.ok [(b==cs "..")=true,a.length≤16777216] Fl.next [AO.frame [(cs "root",V.str d),(cs "names",V.ref 3),(cs "row",V.fstrs c),(cs "ahead",V.int k),(cs "name",V.str b)],AO.strs a,AO.iter false (V.fstrs c) j,AO.strs (ci a none (some (kV 0)))]:=by rfl'
theorem AR(P:ed)(d:Str)(a c:KA)(k:Int)(b e:Str)(j:Nat):ch (bv P [(881011023,true)] []) (bU (ae (KK P) 866) 5) (.str b) [.frame [("root", .str d),("names",V.ref 1),("row", .fstrs c),("ahead", .int k),("name", .str e)], .strs a, .iter false (.fstrs c) j]=Res.ok [(b==cs "..")=true,a.length≤16777216] Fl.next [AO.frame [(cs "root",V.str d),(cs "names",V.ref 3),(cs "row",V.fstrs c),(cs "ahead",V.int k),(cs "name",V.str b)],AO.strs a,AO.iter false (V.fstrs c) j,AO.strs (ci a none (some (kV 0)))]:=by rfl'
theorem AQ(P:ed)(d:Str)(b c:KA)(k:Int)(a:Str)(j:Nat):ch (bv P [(881011023,false),(883013034,true)] []) (bU (ae (KK P) 866) 5) (.str a) [.frame [("root", .str d),("names",V.ref 1),("row", .fstrs c),("ahead", .int k)], .strs b, .iter false (.fstrs c) j]=Res.ok [(a==cs "..")=false,(!bO a [cs "",cs "."])=true,b.length≤16777216] Fl.next [AO.frame [(cs "root",V.str d),(cs "names",V.ref 1),(cs "row",V.fstrs c),(cs "ahead",V.int k),(cs "name",V.str a)],AO.strs (b++[a]),AO.iter false (V.fstrs c) j]:=by rfl'
theorem AP(P:ed)(d:Str)(b c:KA)(k:Int)(a e:Str)(j:Nat):ch (bv P [(881011023,false),(883013034,true)] []) (bU (ae (KK P) 866) 5) (.str a) [.frame [("root", .str d),("names",V.ref 1),("row", .fstrs c),("ahead", .int k),("name", .str e)], .strs b, .iter false (.fstrs c) j]=Res.ok [(a==cs "..")=false,(!bO a [cs "",cs "."])=true,b.length≤16777216] Fl.next [AO.frame [(cs "root",V.str d),(cs "names",V.ref 1),(cs "row",V.fstrs c),(cs "ahead",V.int k),(cs "name",V.str a)],AO.strs (b++[a]),AO.iter false (V.fstrs c) j]:=by rfl'
theorem AN(P:ed)(d:Str)(b c:KA)(k:Int)(a:Str)(j:Nat):ch (bv P [(881011023,false),(883013034,false)] []) (bU (ae (KK P) 866) 5) (.str a) [.frame [("root", .str d),("names",V.ref 1),("row", .fstrs c),("ahead", .int k)], .strs b, .iter false (.fstrs c) j]=Res.ok [(a==cs "..")=false,(!bO a [cs "",cs "."])=false] Fl.next [AO.frame [(cs "root",V.str d),(cs "names",V.ref 1),(cs "row",V.fstrs c),(cs "ahead",V.int k),(cs "name",V.str a)],AO.strs b,AO.iter false (V.fstrs c) j]:=by rfl'
theorem AM(P:ed)(d:Str)(b c:KA)(k:Int)(a e:Str)(j:Nat):ch (bv P [(881011023,false),(883013034,false)] []) (bU (ae (KK P) 866) 5) (.str a) [.frame [("root", .str d),("names",V.ref 1),("row", .fstrs c),("ahead", .int k),("name", .str e)], .strs b, .iter false (.fstrs c) j]=Res.ok [(a==cs "..")=false,(!bO a [cs "",cs "."])=false] Fl.next [AO.frame [(cs "root",V.str d),(cs "names",V.ref 1),(cs "row",V.fstrs c),(cs "ahead",V.int k),(cs "name",V.str a)],AO.strs b,AO.iter false (V.fstrs c) j]:=by rfl'
noncomputable def gj(b:Str)(a:V)(c:KA)(k:Int)(l:KL):AO:= .frame (([("root", .str b),("names",a),("row", .fstrs c),("ahead", .int k)]:KL)++l)
theorem Fe(P:ed)(b:Str)(a c:KA)(k:Int):(fns (bv P [] []) 40).E (bU (ae (KK P) 866) 5).2.1 [gj b (.ref 1) c k [], .strs a]= .ok [] (.fstrs c) [gj b (.ref 1) c k [], .strs a]:=by rfl'
theorem AA(P:ed)(b:Str)(a c:KA)(k:Int)(l:KL):am (fns (bv P [] []) 40) ((ae (KK P) 866).drop 6) [gj b (.ref 1) c k l, .strs a, .gone]=
 .ok [] (.ret (.ftup [.str b,V.ref 1])) [gj b (.ref 1) c k l, .strs a, .gone]:=by rfl'
theorem BA(P:ed):ae (KK P) 866=(ae (KK P) 866).take 1++(gJ (dg (ae (KK P) 866) 1)::(((ae (KK P) 866).drop 2).take 3++(eX (bU (ae (KK P) 866) 5)::(ae (KK P) 866).drop 6))):=by
 have h:=DC P;have h1:iP (ae (KK P) 866) 1=true:=congrArg JP h;have h2:kE (ae (KK P) 866) 5=true:=congrArg Jl h;have b:=qO h2;have c:(ae (KK P) 866).drop 2=((ae (KK P) 866).drop 2).take 3++(ae (KK P) 866).drop 5:=by
  conv=>lhs;rw [←Gg 3 ((ae (KK P) 866).drop 2)]
  rw [Kg]
 have a:(ae (KK P) 866).drop 5=eX (bU (ae (KK P) 866) 5)::(ae (KK P) 866).drop 6:=by
  have:=b
  conv at this=>lhs;rw [←Gg 5 (ae (KK P) 866)]
  exact List.append_cancel_left this
 rwa [←a,←c];exact lQ h1
noncomputable def ck:List Str→Nat
 |[]=>0
 |x::r=>if x==("":Str)then ck r+1 else 0
theorem y6:∀a:List Str,ck a≤a.length:=by
 intro c
 induction c with
 |nil=>
  exact fx _
 |cons x r b=>
  unfold ck;have:=b;rwa [ix];split<;>simp [*]
theorem wu:∀(b:KA) (i:Nat),i < ck b→b[i]? =some ("":Str):=by
 intro f
 induction f with
 |nil=>
  intro i h;exact absurd h (o1 _)
 |cons x r d=>
  intro i h;unfold ck at h
  by_cases e:(x==("":Str))=true
  ·rw [if_pos e]at h
   induction i using Ge with
   |zero=>rwa [JT e];rfl
   |succ i=>rwa [G7];exact d i (by exact Lle [_,_] [Q0 (.a (.a V0 Z0) Z0) (.a V1 Z0)] 0 (.a V0 Z0) V1 rfl h)
  ·rw [if_neg e]at h;simp_all+arith
theorem wv:∀a:List Str,ck a=a.length∨∃x,a[ck a]? =some x∧(x==("":Str))=false:=by
 intro c
 induction c with
 |nil=>
  exact .inl rfl
 |cons x r b=>
  unfold ck
  by_cases d:(x==("":Str))=true
  ·rwa [if_pos d]
   rcases b with h|⟨y,h1,h2⟩
   ·exact .inl (by rwa [h];rfl)
   ·exact .inr (ah y (by rwa [G7];exact h1) h2)
  ·rwa [if_neg d];exact .inr (ah x rfl (by simp+arith [*]))
def bZ(a:KA):Nat:=if ck a≠0∧ck a=a.length then ck a -1 else ck a
def aX(b:Str)(a:KA):Str:=if bZ a=0 then b else if bZ a=2 then "//" else "/"
def bt(a b:KA):List Str:=if bZ b=0 then a else []
def bM(a:KA)(c:Str):List Str:=if c==("..":Str)then ci a none (some (kV 0))else if !bO c ["","."]then a++[c]else a
def cn(a b:KA):List Str:=b.foldl bM (bt a b)
def Av:ay:=s3 (λc a b=>[a.length≤100000,b.length≤100000]) λc a b=>(.ftup [.str (aX c b), .fstrs (cn a b)])
theorem tY(b:KA)(c:Str):(bM b c).length≤b.length+1:=by
 unfold bM
 split
 ·unfold ci;exact h9 (List.length_take_le' _ _) (h9 (by rwa [I0];exact J5 _ _) (GL _))
 ·split
  ·rwa [is];exact fx _
  ·exact Lle [_] [] 0 V0 (.a V0 Z0) rfl
theorem nO(l:KA):∀b:List Str,(l.foldl bM b).length≤b.length+l.length:=by
 induction l with
 |nil=>intro b;exact fx _
 |cons a r d=>intro b;have:=d (bM b a);have:=tY b a;rwa [Gd,ix];exact Lle [_,_,_,_] [Q0 V0 (.a V1 V2),Q0 V1 (.a V3 Z0)] 0 V0 (.a V3 (.a V2 Z0)) rfl ‹(List.foldl bM (bM b a) r).length≤(bM b a).length+r.length› this
theorem qN{b:Type}(a:List b)(k:Nat)(h:k < a.length):bY a (k:Int)=a[k]? :=by
 have d:G5 (k:Int) a.length=some k:=by
  unfold G5;have c:¬((k:Int) < 0):=by simp
  rw [if_neg c];(rwa [if_pos (by rw [lq,decide_eq_true_iff,decide_eq_true_iff];simp [*]),IK _];rfl)
 unfold bY;rwa [d];rfl
noncomputable def sO:Nat→Bool:=λi=>Nat.beq i 0||Nat.beq i 2
noncomputable def K0:Nat→Bool:=λi=>Nat.beq i 0
theorem fN.weak{c:Cx}{d:Cfg}{K e:Nat→Bool}{k:KB}{f:KM}{s:dd}{b:KM}{g:Hj}{j:dd}(h:fN c d K k f s b g j)(l:∀i,e i=true→K i=true):fN c d e k f s b g j:=
 let⟨a,ρ',H,X⟩:=h;⟨a,ρ',H,λi a h=>X.pre i a (l i h),X.keep,X.own,X.size⟩
theorem eG(P:ed)(o b:List (Nat×Bool))(v a:List (Nat×V)):dK (bv P o v) (bv P b a):=rfl
theorem ye:∀(P:ed) (b:Str) (e c:KA) (k:Int) (a:Str) (j:Nat) {l:KL} (h:l=[]∨∃d,l=[(("name":Str),V.str d)]) (g:e.length≤16777216),∃i m vc f n,ch (bv P i m) (bU (ae (KK P) 866) 5) (.str a) [gj b (.ref 1) c k l, .strs e, .iter false (.fstrs c) j]= .ok vc .next f∧aw vc∧
 eb sO n f [gj b (.ref 1) c k [("name", .str a)], .strs (bM e a), .iter false (.fstrs c) j]:=by
 refine' eI8;intro l j a k c e b P h g;unfold bM;cases h1:(a==("..":Str))with
 |true=>
  rcases h with rfl|⟨d,rfl⟩
  ·exact(eR _ _ _ _ ([0,3,2]) (AS P b e c k a j) ⟨h1,g,KP⟩ ⟨rfl,rfl,rfl,rfl⟩)
  ·exact(eR _ _ _ _ ([0,3,2]) (AR P b e c k a d j) ⟨h1,g,KP⟩ ⟨rfl,rfl,rfl,rfl⟩)
 |false=>
 cases h2:(!bO a ["","."])with
 |true=>
  rcases h with rfl|⟨d,rfl⟩
  ·exact(eR _ _ _ _ ([0,1,2]) (AQ P b e c k a j) ⟨h1,h2,g,KP⟩ ⟨rfl,rfl,rfl,rfl⟩)
  ·exact(eR _ _ _ _ ([0,1,2]) (AP P b e c k a d j) ⟨h1,h2,g,KP⟩ ⟨rfl,rfl,rfl,rfl⟩)
 |false=>
  rcases h with rfl|⟨d,rfl⟩
  ·exact(eR _ _ _ _ ([0,1,2]) (AN P b e c k a j) ⟨h1,h2,KP⟩ ⟨rfl,rfl,rfl,rfl⟩)
  ·exact(eR _ _ _ _ ([0,1,2]) (AM P b e c k a d j) ⟨h1,h2,KP⟩ ⟨rfl,rfl,rfl,rfl⟩)
theorem AU:∀(P:ed) (c:Str) (b a:KA) (v:b.length≤16777216) (r:a.length≤16777216),∃u k vc o s,am (fns (bv P u []) 40) (((ae (KK P) 866).drop 2).take 3) [gj c (.fstrs b) a (ck a:Nat) []]= .ok vc .next o∧aw vc∧
 (eb K0 s o [gj (aX c a) (.ref 1) a k [], .strs (bt b a)]∨(bt b a=[]∧eb K0 s o [gj (aX c a) (.ref 1) a k [], .list []])):=by
 refine' eI4;intro a b c P v r;have i:∀n:Nat,((n:Int) !=ct 0)=true↔n≠0:=λn=>by rw [bne_iff_ne];exact⟨λh e=>h (by rwa [e];rfl),λh e=>h (JJ.mp e)⟩
 have p:∀n:Nat,((n:Int) !=ct 0)=false↔n=0:=λn=>by(rw [JA];rwa [ne_eq _ _];rw [i]);simp
 have q:∀n m:Nat,((n:Int)==ct m)=true↔n=m:=λn m=>by rw [beq_iff_eq];exact JJ
 have j:∀n m:Nat,((n:Int)==ct m)=false↔n≠m:=λn m=>by(rw [JA];rwa [ne_eq _ _];rw [q])
 have w:bZ a=0→aX c a=c∧bt b a=b:=λh=>(an (by unfold aX;(rwa [if_pos h];rfl)) (by unfold bt;(rwa [if_pos h];rfl)))
 have y:bZ a=2→aX c a="//"∧bt b a=[]:=λh=>(an (by unfold aX;(rwa [if_neg (by simp [*]),if_pos h];rfl)) (by unfold bt;(rwa [if_neg (by simp [*])];rfl)))
 have x:bZ a≠0→bZ a≠2→aX c a="/"∧bt b a=[]:=λh z=>(an (by unfold aX;(rwa [if_neg h,if_neg z];rfl)) (by unfold bt;(rwa [if_neg h];rfl)))
 by_cases h1:ck a≠0∧ck a=a.length
 ·have l:bZ a=ck a -1:=by unfold bZ;(rwa [if_pos h1];rfl)
  (refine ai h1 ?_;clear h1;intro d h1);have t:((ck a:Nat):Int) -ct 1=((ck a -1:Nat):Int):=mX (Ji d)
  by_cases h2:ck a -1=0
  ·refine ai (w (l.trans h2)) λg f=> ?_
   rwa [g,f];exact(eR _ _ _ _ ([0,1]) (Dq P c b a _) ⟨(i _).mpr d,r,(q _ _).mpr h1,by rwa [t];exact(p _).mpr h2,v,KP⟩ (.inl ⟨rfl,rfl,rfl,rfl⟩))
  ·by_cases h3:ck a -1=2
   ·refine ai (y (l.trans h3)) λg f=> ?_
    rwa [g,f];exact(eR _ _ _ _ ([0,2]) (Dp P c b a _) ⟨(i _).mpr d,r,(q _ _).mpr h1,by rwa [t];exact(i _).mpr h2,by rwa [t];exact(q _ _).mpr h3,by decide,KP⟩ (.inr ⟨rfl,⟨rfl,rfl,rfl,rfl⟩⟩))
   ·refine ai (x (by rwa [l];exact h2) (by rwa [l];exact h3)) λg f=> ?_
    rwa [g,f];exact(eR _ _ _ _ ([0,2]) (Do P c b a _) ⟨(i _).mpr d,r,(q _ _).mpr h1,by rwa [t];exact(i _).mpr h2,by rwa [t];exact(j _ _).mpr h3,by decide,KP⟩ (.inr ⟨rfl,⟨rfl,rfl,rfl,rfl⟩⟩))
 ·have l:bZ a=ck a:=by unfold bZ;(rwa [if_neg h1];rfl)
  by_cases d:ck a=0
  ·refine ai (w (l.trans d)) λg f=> ?_
   rwa [g,f];exact(eR _ _ _ _ ([0,1]) (Dr P c b a _) ⟨(p _).mpr d,(p _).mpr d,v,KP⟩ (.inl ⟨rfl,rfl,rfl,rfl⟩))
  ·have h1:ck a≠a.length:=λe=>h1 (an d e)
   by_cases h3:ck a=2
   ·refine ai (y (l.trans h3)) λg f=> ?_
    rwa [g,f];exact(eR _ _ _ _ ([0,2]) (Dn P c b a _) ⟨(i _).mpr d,r,(j _ _).mpr h1,(i _).mpr d,(q _ _).mpr h3,by decide,KP⟩ (.inr ⟨rfl,⟨rfl,rfl,rfl,rfl⟩⟩))
   ·refine ai (x (by rwa [l];exact d) (by rwa [l];exact h3)) λg f=> ?_
    rwa [g,f];exact(eR _ _ _ _ ([0,2]) (Dm P c b a _) ⟨(i _).mpr d,r,(j _ _).mpr h1,(i _).mpr d,(j _ _).mpr h3,by decide,KP⟩ (.inr ⟨rfl,⟨rfl,rfl,rfl,rfl⟩⟩))
def uZ(b:Str)(a c:KA)(i:Nat):List AO:=[gj b (.fstrs a) c (i:Nat) []]
def gu(b:Str)(c a:KA)(k:Int)(i:Nat):List AO:=[gj b (.ref 1) a k (hW "name" a i), .strs ((a.take i).foldl bM c)]
theorem C4:∀{P:ed} {mg mb:KC} {c:Cx} (Tp:aR (KK P) mg mb) (T:ak c (KK P) mg mb) (hr:av 1 c.A),aI c 866 0 Av:=by
 refine' eI4;intro c mb mg P Tp T hr;refine gB (cfg:=bv P [] []) (k:=0) T (ec (bh Tp (cS P)) rfl rfl rfl rfl rfl rfl (mi rfl)) hr (DQ P) rfl rfl rfl (xsOf:=id) ?_ ?_
 ·intro fd a7 H al mu s xs vs vc r a5 W R ht N U hv
  revert N;refine xw U λo o o N=> ?_
  ·(refine bg (id N) λu q B h1 h2=> ?_;subst B)
   (refine bg (Vals.two h2) λv w B h3 h4=> ?_;subst B);exact eg R ht N rfl ((Fk P u v w).at a7)
 ·refine' eI8;intro s1 al a5 r vc mu xs I W U hv G a4 H
  rw [f2 W]at U H⊢;revert hv H;refine xw U λf d b hv H=> ?_
  ·(refine ax hv ?_;clear hv;intro q1 q2 o)
   have J:KOk I (bv P [] []) K0:=kOk (n:=0) rfl rfl a4 (λi C=>by induction i using Ge with|zero=>rfl|succ i=>exact absurd C (Nat.not_lt_of_le (GB (so i))))
   have ap:KOk I (bv P [] []) sO:=kOk (n:=0) rfl rfl a4 (λi C=>by induction i using Ge with|zero=>rfl|succ i=>exact absurd C (Nat.not_lt_of_le (GB (so i))))
   have Y:∀i,i < al.length→K0 i=true:=λi C=>by
    rw [H.rep.len]at C;have C:i < 1:=C;have:i=0:=by exact Leq [_] [Q0 (.a V0 Z0) Z0] 0 V0 Z3 rfl C
    subst this;rfl
   refine ex (Q:=ek I (bv P [] []) K0 al _ s1 0 (.ftup [.str (aX f b), .fstrs (cn d b)]) []) ?_ (λo o h=>h.toP Y) λo o z=>z;rwa [BA P];refine ew G (eG P ..) J H (CI P f d b) trivial (sel:=[0]) (mu2:=uZ f d b 0) ⟨rfl,rfl,rfl,rfl⟩ λb4 s2 H1=> ?_;have g:b.length≤16777216:=by exact Lle [_] [Q0 V0 Z16] 0 V0 (.c 16777216) rfl q2
   refine jb (cfg:=bv P [] []) (mu1:=uZ f d b (ck b)) ?_ λb3 s3 H2=> ?_
   ·refine ie H1 (ck b) (uZ f d b) rfl (λi a9 s4 C H4=> ?_) λa9 s4 H4=> ?_
    ·have A:i < b.length:=fa C (y6 b)
     exact i5 G (eG P ..) J H4 (Cm P f d b (i:Nat)) ⟨g,decide_eq_true (Hw.mpr A),g,by rwa [qN b i A,wu b i C];rfl,rfl,KP⟩ (.inl rfl) (sel:=[0]) ⟨rfl,rfl,rfl,rfl⟩
    ·rcases wv b with he|⟨x,N,hxe⟩
     ·exact jn G (eG P ..) J H4 (Ck P f d b (ck b:Nat)) ⟨g,decide_eq_false (λh=>by have:=Hw.mp h;exact Lno [_,_] [Q2 V0 V1,Q0 (.a V0 Z0) V1] rfl he this),KP⟩ (sel:=[0]) ⟨rfl,rfl,rfl,rfl⟩
     ·have A:ck b < b.length:=(hX.mp N).1
      exact jn G (eG P ..) J H4 (Cl P f d b (ck b:Nat) x) ⟨g,decide_eq_true (Hw.mpr A),g,by rwa [qN b _ A,N];rfl,hxe,KP⟩ (sel:=[0]) ⟨rfl,rfl,rfl,rfl⟩
   ·refine xe (AU P f d b (by exact Lle [_] [Q0 V0 Z16] 0 V0 (.c 16777216) rfl q1) g) λa6 k vc ar t e p O=> ?_
    have F:∀j D,ac I (bv P [] []) j (gu (aX f b) (bt d b) b k 0) D→
     eo I.M I.A (un (eX (bU (ae (KK P) 866) 5)::(ae (KK P) 866).drop 6) I.env) (ek I (bv P [] []) K0 j (gu (aX f b) (bt d b) b k 0) D 0 (.ftup [.str (aX f b), .fstrs (cn d b)]) []) NoE D:=by
     intro j D L;have Z:(cT (bU (ae (KK P) 866) 5).2.1,bT (bU (ae (KK P) 866) 5).1)=(false,false):=Ep P;have hm:(b.map V.str).length=b.length:=pg ..;refine jb (cfg:=bv P [] []) (mu1:=gu (aX f b) (bt d b) b k b.length++[.gone]) ?_ λb0 s5 H5=> ?_
     ·rwa [←hm]
      refine ex (n6 (K:=sO) G.ok (v:= .fstrs b) (tup:=false) (xs:=b.map .str) rfl (gH (by have:=congrArg JP Z;exact this)) (.inl (by have:=congrArg Jl Z;exact this)) (mu1:=gu (aX f b) (bt d b) b k 0)
       (λQ kk=>((bj G 40).E _).use L (Fe P (aX f b) (bt d b) b k) trivial λu D j L X' r'=>kk u D j L X' r') rfl (gu (aX f b) (bt d b) b k) rfl (λo=>rfl) ?_) (λo o h=>h.weak λi h=>by unfold sO;rwa [show Nat.beq i 0=true from h];rfl) λo o z=>z
      intro i y b1 s6 u hy H6 hu;rw [II]at hy;(refine ab (mr.mp hy) λz Y B=> ?_;subst B);have A:i < b.length:=(hX.mp Y).1;have a0:=nO (b.take i) (bt d b);have ag:(b.take i).length≤b.length:=by rwa [p7];exact(HC _ _)
      have ad:(bt d b).length≤d.length:=by unfold bt;split<;>simp
      refine xe (ye P (aX f b) ((b.take i).foldl bM (bt d b)) b k z (i+1) (lw "name" b i) (by exact Lle [_,_,_,_,_] [Q0 V0 Z16,Q0 V1 Z16,Q0 V2 (.a V3 V4),Q0 V4 V1,Q0 V3 V0] 0 V2 (.c 16777216) rfl q1 q2 a0 ag ad)) λa6 as b2 ar t e p O=> ?_
      have U:gu (aX f b) (bt d b) b k (i+1)=[gj (aX f b) (.ref 1) b k [("name", .str z)], .strs (bM ((b.take i).foldl bM (bt d b)) z)]:=by
       unfold gu;rwa [jk Y,HO,Y,Option.toList_some _,HQ];rfl
      rwa [U];exact nD G (eG P ..) ap H6 hu e p (.inl rfl) O
     ·have hN:((b.take b.length).foldl bM (bt d b))=cn d b:=by rwa [HW];rfl
      have W:=lw "name" b b.length;unfold gu at H5⊢;rw [hN]at H5⊢;generalize hW "name" b b.length=l at W H5⊢;rcases W with rfl|⟨last,rfl⟩
      ·exact gO G (eG P ..) J H5 (AA P _ _ b k _) trivial (.inl rfl) (sel:=[0]) ⟨rfl,rfl,rfl,rfl⟩ rfl rfl rfl
      ·exact gO G (eG P ..) J H5 (AA P _ _ b k _) trivial (.inl rfl) (sel:=[0]) ⟨rfl,rfl,rfl,rfl⟩ rfl rfl rfl
    rcases O with O|⟨h0,O⟩
    ·exact ew G (eG P ..) J H2 e p O λj D L=>F j D L
    ·refine ew G (eG P ..) J H2 e p O λj D L=> ?_
     refine ai (L.toStrs (i:=1) rfl) λH3 X3=> ?_;have m:=F j D;unfold gu at m;rw [h0]at m;exact ex (m H3) (λo o h=>ek.trans (X3.toN _) h) λo o z=>z
noncomputable def fG(m a k:Int)(l:KL):AO:= .frame (([("m", .int m),("most", .int a),("size", .int k),("row",V.ref 2),("lines",V.ref 1)]:KL)++l)
def cD(P:ed)(a:List (Nat×Bool))(b:List (Nat×V)):Cfg:={fi:=0,names:=ce (KK P) 880,globs:=G0,orc:=a,vor:=b}
theorem DO(P:ed):fdB (KK P) 880 ["m","most"]=true:=by rfl'
theorem Fi(P:ed)(v w:da):bE (KK P) 880 [v,w] [("m",v),("most",w)]:=by unfold bE;kernel_rfl
theorem Dz(P:ed):iP (ae (KK P) 880) 2=true:=by rfl'
theorem CF(P:ed)(m a:Int):am (fns (cD P [] []) 40) ((ae (KK P) 880).take 2) [.frame [("m", .int m),("most", .int a)]]=Res.ok [ct 0≤ct 12,ct 12≤ct 1000000,16 < 18446744073709551616,ct 281474976710656≠ct 0] Fl.next [AO.frame [(cs "m",V.int (m.fmod (ct 281474976710656))),(cs "most",V.int a),(cs "size",V.int (ct 0)),(cs "row",V.ref 2),(cs "lines",V.ref 1)],AO.list [],AO.list []]:=by rfl'
theorem Af(P:ed)(m b:Int)(k:Int)(a:KN)(c:KA)(d:Str):whR (cD P [(898010011,true),(898016027,true),(901011022,true)] [(902023084, .str d)]) (dg (ae (KK P) 880) 2) [.frame [("m", .int m),("most", .int b),("size", .int k),("row",V.ref 2),("lines",V.ref 1)], .list a, .strs c]=Res.ok [(m !=ct 0)=true,decide (k < b)=true,ct 16≠ct 0,16 < 1073741824,decide ((m -ct 1).fmod (ct 16) < ct 10)=true,10≤16777216,bY [V.str "a",V.str "b",V.str "it's",V.str "..",V.str "",V.str "a",V.str "..",V.str ".",V.str "",V.str "b"] ((m -ct 1).fmod (ct 16))=some (V.str d),c.length≤16777216] (some Fl.next) [AO.frame [(cs "m",V.int ((m -ct 1).fdiv (ct 16))),(cs "most",V.int b),(cs "size",V.int (k+ct 1)),(cs "row",V.ref 2),(cs "lines",V.ref 1),(cs "figure",V.int ((m -ct 1).fmod (ct 16)))],AO.list a,AO.strs (c++[d]),AO.list [V.str "a",V.str "b",V.str "it's",V.str "..",V.str "",V.str "a",V.str "..",V.str ".",V.str "",V.str "b"]]:=by rfl'
theorem Ae(P:ed)(m b:Int)(k:Int)(a:KN)(c:KA)(d:Str)(g:Int):whR (cD P [(898010011,true),(898016027,true),(901011022,true)] [(902023084, .str d)]) (dg (ae (KK P) 880) 2) [.frame [("m", .int m),("most", .int b),("size", .int k),("row",V.ref 2),("lines",V.ref 1),("figure", .int g)], .list a, .strs c]=Res.ok [(m !=ct 0)=true,decide (k < b)=true,ct 16≠ct 0,16 < 1073741824,decide ((m -ct 1).fmod (ct 16) < ct 10)=true,10≤16777216,bY [V.str "a",V.str "b",V.str "it's",V.str "..",V.str "",V.str "a",V.str "..",V.str ".",V.str "",V.str "b"] ((m -ct 1).fmod (ct 16))=some (V.str d),c.length≤16777216] (some Fl.next) [AO.frame [(cs "m",V.int ((m -ct 1).fdiv (ct 16))),(cs "most",V.int b),(cs "size",V.int (k+ct 1)),(cs "row",V.ref 2),(cs "lines",V.ref 1),(cs "figure",V.int ((m -ct 1).fmod (ct 16)))],AO.list a,AO.strs (c++[d]),AO.list [V.str "a",V.str "b",V.str "it's",V.str "..",V.str "",V.str "a",V.str "..",V.str ".",V.str "",V.str "b"]]:=by rfl'
theorem Ac(P:ed)(m b:Int)(k:Int)(a:KN)(c:KA)(d:Str):whR (cD P [(898010011,true),(898016027,true),(901011022,false)] []) (dg (ae (KK P) 880) 2) [.frame [("m", .int m),("most", .int b),("size", .int k),("row",V.ref 2),("lines",V.ref 1)], .list a, .strs c]=Res.ok [(m !=ct 0)=true,decide (k < b)=true,ct 16≠ct 0,16 < 1073741824,decide ((m -ct 1).fmod (ct 16) < ct 10)=false,ct 2≠ct 0,a.length≤16777216] (some Fl.next) [AO.frame [(cs "m",V.int ((m -ct 1).fdiv (ct 16))),(cs "most",V.int b),(cs "size",V.int (k+ct 1)),(cs "row",V.ref 3),(cs "lines",V.ref 1),(cs "figure",V.int ((m -ct 1).fmod (ct 16)))],AO.list (a++[V.ftup [V.bool (decide ((m -ct 1).fmod (ct 16) > ct 11)),V.ref 2,V.int (((m -ct 1).fmod (ct 16)).fmod (ct 2))]]),AO.strs c,AO.list []]:=by rfl'
theorem Ab(P:ed)(m b:Int)(k:Int)(a:KN)(c:KA)(d:Str)(g:Int):whR (cD P [(898010011,true),(898016027,true),(901011022,false)] []) (dg (ae (KK P) 880) 2) [.frame [("m", .int m),("most", .int b),("size", .int k),("row",V.ref 2),("lines",V.ref 1),("figure", .int g)], .list a, .strs c]=Res.ok [(m !=ct 0)=true,decide (k < b)=true,ct 16≠ct 0,16 < 1073741824,decide ((m -ct 1).fmod (ct 16) < ct 10)=false,ct 2≠ct 0,a.length≤16777216] (some Fl.next) [AO.frame [(cs "m",V.int ((m -ct 1).fdiv (ct 16))),(cs "most",V.int b),(cs "size",V.int (k+ct 1)),(cs "row",V.ref 3),(cs "lines",V.ref 1),(cs "figure",V.int ((m -ct 1).fmod (ct 16)))],AO.list (a++[V.ftup [V.bool (decide ((m -ct 1).fmod (ct 16) > ct 11)),V.ref 2,V.int (((m -ct 1).fmod (ct 16)).fmod (ct 2))]]),AO.strs c,AO.list []]:=by rfl'
theorem z0(P:ed)(m b:Int)(k:Int)(a:KN)(c:KA)(d:Str):whR (cD P [(898010011,false)] []) (dg (ae (KK P) 880) 2) [.frame [("m", .int m),("most", .int b),("size", .int k),("row",V.ref 2),("lines",V.ref 1)], .list a, .strs c]=Res.ok [(m !=ct 0)=false] none [AO.frame [(cs "m",V.int m),(cs "most",V.int b),(cs "size",V.int k),(cs "row",V.ref 2),(cs "lines",V.ref 1)],AO.list a,AO.strs c]:=by rfl'
theorem zZ(P:ed)(m b:Int)(k:Int)(a:KN)(c:KA)(d:Str)(g:Int):whR (cD P [(898010011,false)] []) (dg (ae (KK P) 880) 2) [.frame [("m", .int m),("most", .int b),("size", .int k),("row",V.ref 2),("lines",V.ref 1),("figure", .int g)], .list a, .strs c]=Res.ok [(m !=ct 0)=false] none [AO.frame [(cs "m",V.int m),(cs "most",V.int b),(cs "size",V.int k),(cs "row",V.ref 2),(cs "lines",V.ref 1),(cs "figure",V.int g)],AO.list a,AO.strs c]:=by rfl'
theorem zY(P:ed)(m b:Int)(k:Int)(a:KN)(c:KA)(d:Str):whR (cD P [(898010011,true),(898016027,false)] []) (dg (ae (KK P) 880) 2) [.frame [("m", .int m),("most", .int b),("size", .int k),("row",V.ref 2),("lines",V.ref 1)], .list a, .strs c]=Res.ok [(m !=ct 0)=true,decide (k < b)=false] none [AO.frame [(cs "m",V.int m),(cs "most",V.int b),(cs "size",V.int k),(cs "row",V.ref 2),(cs "lines",V.ref 1)],AO.list a,AO.strs c]:=by rfl'
theorem zX(P:ed)(m b:Int)(k:Int)(a:KN)(c:KA)(d:Str)(g:Int):whR (cD P [(898010011,true),(898016027,false)] []) (dg (ae (KK P) 880) 2) [.frame [("m", .int m),("most", .int b),("size", .int k),("row",V.ref 2),("lines",V.ref 1),("figure", .int g)], .list a, .strs c]=Res.ok [(m !=ct 0)=true,decide (k < b)=false] none [AO.frame [(cs "m",V.int m),(cs "most",V.int b),(cs "size",V.int k),(cs "row",V.ref 2),(cs "lines",V.ref 1),(cs "figure",V.int g)],AO.list a,AO.strs c]:=by rfl'
theorem C1(P:ed)(m c:Int)(k:Int)(a:KN)(b:KA)(l:KL):am (fns (cD P [(906007010,true)] []) 40) (((ae (KK P) 880).drop 3).take 1) [fG m c k l, .list a, .strs b]=Res.ok [b.length≤16777216,(!b.isEmpty)=true,a.length≤16777216] Fl.next [fG m c k l,AO.list (a++[V.ftup [V.bool true,V.ref 2,V.int (ct 1)]]),AO.strs b]:=by rfl'
theorem C2(P:ed)(m c:Int)(k:Int)(a:KN)(b:KA)(l:KL):am (fns (cD P [(906007010,false)] []) 40) (((ae (KK P) 880).drop 3).take 1) [fG m c k l, .list a, .strs b]=Res.ok [b.length≤16777216,(!b.isEmpty)=false] Fl.next [fG m c k l,AO.list a,AO.strs b]:=by rfl'
theorem Az(P:ed)(m a k:Int)(x:V)(b:KN)(l:KL):am (fns (cD P [] []) 40) ((ae (KK P) 880).drop 4) [.frame (([("m", .int m),("most", .int a),("size", .int k),("row",x),("lines",V.ref 1)]:KL)++l), .list b]=
 .ok [] (.ret (.ftup [V.ref 1, .int k])) [.frame (([("m", .int m),("most", .int a),("size", .int k),("row",x),("lines",V.ref 1)]:KL)++l), .list b]:=by rfl'
theorem Bz(P:ed):ae (KK P) 880=(ae (KK P) 880).take 2++(gJ (dg (ae (KK P) 880) 2)::(((ae (KK P) 880).drop 3).take 1++(ae (KK P) 880).drop 4)):=by
 have a:(ae (KK P) 880).drop 3=((ae (KK P) 880).drop 3).take 1++(ae (KK P) 880).drop 4:=by
  conv=>lhs;rw [←Gg 1 ((ae (KK P) 880).drop 3)]
  rw [Kg]
 rwa [←a];exact lQ (Dz P)
theorem l9{b:Nat→Option V}:∀{j d a c:KN},V.reL b j=some a→V.reL b d=some c→V.reL b (j++d)=some (a++c):=by
 intro i
 induction i with
 |nil=>
  intro _ _ _ h g;obtain rfl:=ds h;exact g
 |cons x r e=>
  intro d a c h g;refine ab (Gk.mp (show((V.re b x).bind λy=>(V.reL b r).map (y::·))=some a from h)) λy k l=> ?_;(refine ab (mr.mp l) λn m f=> ?_;subst f);show((V.re b x).bind λy=>(V.reL b (r++d)).map (y::·))=_;rwa [k,e m g];rfl
theorem cz{b:KM}{a r:KF}{i:Nat}{o c:AO}{l:KM}(h1:b[i]? =some o)(h2:o.re (dM b a)=some c)(h3:ft b a r=some l):ft b a (i::r)=some (c::l):=by
 show((b[i]?).bind λo=>(o.re (dM b a)).bind λc=>(ft b a r).map (c::·))=_;rwa [h1];show((o.re (dM b a)).bind λc=>(ft b a r).map (c::·))=_;rwa [h2,h3];rfl
theorem kB{a:Nat→Option V}{b c:KN}(h:V.reL a b=some c):AO.re a (.list b)=some (.list c):=by
 show(V.reL a b).map AO.list=_;rwa [h];rfl
noncomputable def aJ(x:Bool×List Str×Nat):V:= .ftup [.bool x.1, .fstrs x.2.1, .int (x.2.2:Nat)]
theorem bi:∀L:List (Bool×List Str×Nat),V.closedL 0 (L.map aJ)=true:=by
 intro b
 induction b with
 |nil=>
  exact rfl
 |cons x r a=>
  show(V.closed 0 (aJ x)&&V.closedL 0 (r.map aJ))=true;rwa [a];rfl
noncomputable def cW:Nat→Str
 |0=>"a"|1=>"b"|2=>"it's"|3=>".."|4=>""|5=>"a"|6=>".."|7=>"."|8=>""|_=>"b"
theorem uF{x:Nat}(h:x < 10):bY [V.str "a",V.str "b",V.str "it's",V.str "..",V.str "",V.str "a",V.str "..",V.str ".",V.str "",V.str "b"] ((x:Nat):Int)=some (V.str (cW x)):=by
 exact ltS (ltS (ltS (ltS (ltS (ltS (ltS (ltS (ltS (ltS (ltN (P:=λx=>bY [V.str "a",V.str "b",V.str "it's",V.str "..",V.str "",V.str "a",V.str "..",V.str ".",V.str "",V.str "b"] ((x:Nat):Int)=some (V.str (cW x)))) rfl) rfl) rfl) rfl) rfl) rfl) rfl) rfl) rfl) rfl x h
abbrev LR:=List (Bool×List Str×Nat)×List Str
def bG(a:LR)(f:Nat):LR:=if f < 10 then(a.1,a.2++[cW f])else(a.1++[(decide (11 < f),a.2,f % 2)],[])
noncomputable def ji(a:LR):List (Bool×List Str×Nat):=if a.2.isEmpty then a.1 else a.1++[(true,a.2,1)]
def aO(m a:Nat):List Nat:=(bQ 16 m m).take a
def bH(m a:Nat):List (Bool×List Str×Nat):=ji ((aO m a).foldl bG ([],[]))
noncomputable def bw(m:Int):Nat:=(m % 281474976710656).toNat
def Aw:ay:=s2I (λm a=>[0≤m,0≤a,a≤1000]) λm a=>(.ftup [.flist ((bH (bw m) a.toNat).map aJ), .int (((aO (bw m) a.toNat).length:Nat):Int)])
theorem um(a:LR)(f:Nat):(bG a f).1.length≤a.1.length+1∧(bG a f).2.length≤a.2.length+1:=by
 unfold bG
 split
 ·exact⟨GL _,by rwa [is];exact fx _⟩
 ·exact⟨by rwa [is];exact fx _,so _⟩
theorem jX(l:KF):∀a:LR,(l.foldl bG a).1.length≤a.1.length+l.length∧(l.foldl bG a).2.length≤a.2.length+l.length:=by
 induction l with
 |nil=>intro a;exact⟨fx _,fx _⟩
 |cons x r b=>
  intro a;have h1:=b (bG a x);have h2:=um a x;rwa [Gd,ix];exact⟨by exact Lle [_,_,_,_] [Q0 V0 (.a V1 V2),Q0 V1 (.a V3 Z0)] 0 V0 (.a V3 (.a V2 Z0)) rfl h1.1 h2.1,by exact Lle [_,_,_,_] [Q0 V1 (.a V2 V0),Q0 V2 (.a V3 Z0)] 0 V1 (.a V3 (.a V0 Z0)) rfl h1.2 h2.2⟩
theorem fj(P:ed)(o b:List (Nat×Bool))(v a:List (Nat×V)):dK (cD P o v) (cD P b a):=rfl
def hG(a:Int)(m:Nat)(i:Nat):List AO:=
 [fG ((mit 16 m i:Nat):Int) a (i:Nat) (fy 16 m i), .list ((((bQ 16 m m).take i).foldl bG ([],[])).1.map aJ), .strs (((bQ 16 m m).take i).foldl bG ([],[])).2]
theorem jA.toStrs{c:Cx}{d:Cfg}{K:Nat→Bool}{g:KB}{e:KM}{s:dd}{b:KM}{f:Hj}{j:dd}(h:jA c d K g e s b f j){i:Nat}(k:b[i]? =some (.list [])):jA c d K g e s (b.set i (.strs [])) f j:=
 let⟨a,ρ',H,X⟩:=h;let⟨H2,X2⟩:=H.toStrs k;⟨a,ρ',H2,X.trans (X2.toN K)⟩
theorem yc:∀(P:ed) (b:Int) (m i:Nat) (E:i < (bQ 16 m m).length) (u:(i:Int) < b) (D:i≤1000),∃B C vc g y,whR (cD P B C) (dg (ae (KK P) 880) 2) (hG b m i)= .ok vc (some .next) g∧aw vc∧
 (eb K0 y g (hG b m (i+1))∨∃o,eb K0 y g o∧o[2]? =some (.list [])∧o.set 2 (.strs [])=hG b m (i+1)):=by
 refine' eI4;intro i m b P E u D;refine ai ((ia 16 m m (fx _)).1 i E) λA I=> ?_;have w:(((mit 16 m i:Nat):Int) -ct 1).fmod (ct 16)=(((mit 16 m i -1) % 16:Nat):Int):=pQ A;have G:(((mit 16 m i:Nat):Int) -ct 1).fdiv (ct 16)=((mit 16 m (i+1):Nat):Int):=by rwa [pz _ _ _];exact pS A
 have e:(((mit 16 m i:Nat):Int) !=ct 0)=true:=by rw [bne_iff_ne];intro h;exact A (JJ.mp h)
 have r:=jX ((bQ 16 m m).take i) ([],[]);have t:((bQ 16 m m).take i).length≤i:=by rwa [p7];exact(GY _ _)
 have q:((((bQ 16 m m).take i).foldl bG ([],[])).1.map aJ).length≤16777216:=by rwa [pg _];have:=r.1;simp only [J4]at this;exact Lle [_,_,_] [Q0 V0 Z1,Q0 V1 V0,Q0 V2 (.a Z3 V1)] 0 V2 (.c 16777216) rfl D t this
 have z:(((bQ 16 m m).take i).foldl bG ([],[])).2.length≤16777216:=by have:=r.2;simp only [J4]at this;exact Lle [_,_,_] [Q0 V0 Z1,Q0 V1 V0,Q0 V2 (.a Z3 V1)] 0 V2 (.c 16777216) rfl D t this
 have k:((bQ 16 m m).take (i+1)).foldl bG ([],[])=bG (((bQ 16 m m).take i).foldl bG ([],[])) ((mit 16 m i -1) % 16):=by
  rwa [HO,I,Option.toList_some _,HQ];rfl
 have x:((i:Nat):Int)+ct 1=((i+1:Nat):Int):=rfl;unfold hG;rwa [k];generalize((bQ 16 m m).take i).foldl bG ([],[])=a at*;generalize H:(mit 16 m i -1) % 16=f at*
 by_cases d:f < 10
 ·have K:bG a f=(a.1,a.2++[cW f]):=by unfold bG;(rwa [if_pos d];rfl)
  rwa [K];have s:decide ((((mit 16 m i:Nat):Int) -ct 1).fmod (ct 16) < ct 10)=true:=by rwa [w];exact decide_eq_true (Hw.mpr d)
  have F:bY [V.str "a",V.str "b",V.str "it's",V.str "..",V.str "",V.str "a",V.str "..",V.str ".",V.str "",V.str "b"] ((((mit 16 m i:Nat):Int) -ct 1).fmod (ct 16))=some (V.str (cW f)):=by rwa [w];exact uF d
  have p:∀l:List AO,l=[fG ((((mit 16 m i:Nat):Int) -ct 1).fdiv (ct 16)) b ((i:Nat)+ct 1) [("figure", .int ((((mit 16 m i:Nat):Int) -ct 1).fmod (ct 16)))], .list (a.1.map aJ), .strs (a.2++[cW f]), .list [V.str "a",V.str "b",V.str "it's",V.str "..",V.str "",V.str "a",V.str "..",V.str ".",V.str "",V.str "b"]]→
   eb K0 [0,1,2] l [fG ((mit 16 m (i+1):Nat):Int) b ((i+1:Nat):Int) (fy 16 m (i+1)), .list (a.1.map aJ), .strs (a.2++[cW f])]:=by
   rintro l rfl
   rwa [w,G,x];have j:fy 16 m (i+1)=[(("figure":Str),V.int ((f:Nat):Int))]:=by show [_]=_;(rwa [H];rfl)
   rwa [j];exact⟨rfl,rfl,rfl,cz rfl rfl (cz rfl (kB (V.reL_cut (n:=0) (λi h=>absurd h (o1 i)) _ (bi _))) (cz rfl rfl rfl))⟩
  induction i using Ge with
  |zero=>exact(eR _ _ _ _ _ (Af P _ b _ _ _ (cW f)) ⟨e,decide_eq_true u,by decide,by decide,s,by decide,F,z,KP⟩ (.inl (p _ rfl)))
  |succ i=>exact(eR _ _ _ _ _ (Ae P _ b _ _ _ (cW f) _) ⟨e,decide_eq_true u,by decide,by decide,s,by decide,F,z,KP⟩ (.inl (p _ rfl)))
 ·have L:bG a f=(a.1++[(decide (11 < f),a.2,f % 2)],[]):=by unfold bG;(rwa [if_neg d];rfl)
  rwa [L];have s:decide ((((mit 16 m i:Nat):Int) -ct 1).fmod (ct 16) < ct 10)=false:=by rwa [w];exact decide_eq_false (λh=>d (Hw.mp h))
  have N:((f:Nat):Int).fmod (ct 2)=((f % 2:Nat):Int):=by show((f:Nat):Int).fmod ((2:Nat):Int)=_;(rwa [He _ (z2 _),Int.natCast_emod _ _];rfl)
  have J:decide (((f:Nat):Int) > ct 11)=decide (11 < f):=decide_eq_decide.mpr Hw;have p:∀l:List AO,l=[.frame [("m", .int ((((mit 16 m i:Nat):Int) -ct 1).fdiv (ct 16))),("most", .int b),("size", .int ((i:Nat)+ct 1)),("row",V.ref 3),("lines",V.ref 1),("figure", .int ((((mit 16 m i:Nat):Int) -ct 1).fmod (ct 16)))],
   .list (a.1.map aJ++[V.ftup [V.bool (decide ((((mit 16 m i:Nat):Int) -ct 1).fmod (ct 16) > ct 11)),V.ref 2,V.int (((((mit 16 m i:Nat):Int) -ct 1).fmod (ct 16)).fmod (ct 2))]]), .strs a.2, .list []]→
   eb K0 [0,1,3] l [fG ((mit 16 m (i+1):Nat):Int) b ((i+1:Nat):Int) (fy 16 m (i+1)), .list ((a.1++[(decide (11 < f),a.2,f % 2)]).map aJ), .list []]:=by
   rintro l rfl
   rwa [w,G,N,J,x];have j:fy 16 m (i+1)=[(("figure":Str),V.int ((f:Nat):Int))]:=by show [_]=_;(rwa [H];rfl)
   rwa [j,Hv];exact⟨rfl,rfl,rfl,cz rfl rfl (cz rfl (kB (l9 (V.reL_cut (n:=0) (λi h=>absurd h (o1 i)) _ (bi _)) rfl)) (cz rfl rfl rfl))⟩
  induction i using Ge with
  |zero=>exact(eR _ _ _ _ _ (Ac P _ b _ _ _ "") ⟨e,decide_eq_true u,by decide,by decide,s,by decide,q,KP⟩ (.inr ⟨_,p _ rfl,rfl,rfl⟩))
  |succ i=>exact(eR _ _ _ _ _ (Ab P _ b _ _ _ "" _) ⟨e,decide_eq_true u,by decide,by decide,s,by decide,q,KP⟩ (.inr ⟨_,p _ rfl,rfl,rfl⟩))
theorem za:∀(P:ed) (a:Int) (m i:Nat) (c:KN) (b:KA) (h:mit 16 m i=0∨(mit 16 m i≠0∧¬(i:Int) < a)),∃f vc,whR (cD P f []) (dg (ae (KK P) 880) 2) [fG ((mit 16 m i:Nat):Int) a (i:Nat) (fy 16 m i), .list c, .strs b]= .ok vc none [fG ((mit 16 m i:Nat):Int) a (i:Nat) (fy 16 m i), .list c, .strs b]∧aw vc:=by
 refine' eI6;intro b c i m a P h;rcases h with h|⟨h,h2⟩
 ·have g:(((mit 16 m i:Nat):Int) !=ct 0)=false:=by rwa [h];rfl
  induction i using Ge with
  |zero=>exact(eS _ _ (z0 P _ a _ c b "") ⟨g,KP⟩)
  |succ i=>exact(eS _ _ (zZ P _ a _ c b "" _) ⟨g,KP⟩)
 ·have d:(((mit 16 m i:Nat):Int) !=ct 0)=true:=by rw [bne_iff_ne];intro e;exact h (JJ.mp e)
  induction i using Ge with
  |zero=>exact(eS _ _ (zY P _ a _ c b "") ⟨d,decide_eq_false h2,KP⟩)
  |succ i=>exact(eS _ _ (zX P _ a _ c b "" _) ⟨d,decide_eq_false h2,KP⟩)
theorem yI(a:Int)(m i:Nat)(L:List (Bool×List Str×Nat))(b:KA):
 eb K0 [0,1,2] [fG ((mit 16 m i:Nat):Int) a (i:Nat) (fy 16 m i), .list (L.map aJ), .strs b] [fG ((mit 16 m i:Nat):Int) a (i:Nat) (fy 16 m i), .list (L.map aJ), .strs b]:=by
 induction i using Ge<;>exact⟨rfl,rfl,rfl,cz rfl rfl (cz rfl (kB (V.reL_cut (n:=0) (λi h=>absurd h (o1 i)) _ (bi _))) (cz rfl rfl rfl))⟩
def pL(a:Int)(m i:Nat)(b:KA)(x:V):AO:= .frame (([("m", .int ((mit 16 m i:Nat):Int)),("most", .int a),("size", .int (i:Nat)),("row", .fstrs b),("lines",x)]:KL)++fy 16 m i)
theorem pe(a:Int)(m i:Nat)(L:List (Bool×List Str×Nat))(b:KA)(c:KN)(d:KN)(e:V.reL (dM [fG ((mit 16 m i:Nat):Int) a (i:Nat) (fy 16 m i), .list (L.map aJ++c), .strs b] [0,1]) c=some d):
 eb K0 [0,1] [fG ((mit 16 m i:Nat):Int) a (i:Nat) (fy 16 m i), .list (L.map aJ++c), .strs b] [pL a m i b (V.ref 1), .list (L.map aJ++d)]:=by
 induction i using Ge<;>exact⟨rfl,rfl,rfl,cz rfl rfl (cz rfl (kB (l9 (V.reL_cut (n:=0) (λi h=>absurd h (o1 i)) _ (bi _)) e)) rfl)⟩
theorem gP{a:Nat→Option V}{k:Str}{x y:V}{r b:KL}(h:V.re a x=some y)(h2:reF a r=some b):reF a ((k,x)::r)=some ((k,y)::b):=by
 show((V.re a x).bind λy=>(reF a r).map ((k,y)::·))=_;rwa [h,h2];rfl
theorem tO{a:Nat→Option V}(x:V)(n:Int)(h:a 1=some x):V.re a (.ftup [V.ref 1, .int n])=some (.ftup [x, .int n]):=by
 show(((a 1).bind λy=>((V.reL a [.int n]).map (y::·))).map V.ftup)=_;rwa [h];rfl
theorem lg(o:AO)(a:KN)(h:V.closedL 0 a=true):dM [o, .list a] [0] 1=some (.flist a):=by
 show(bif V.closedL 0 a then some (V.flist a)else none)=_;rwa [h];rfl
theorem o9:∀(a:Int) (m i:Nat) (b:KA) (c:KN) (h:V.closedL 0 c=true),eb K0 [0] [pL a m i b (V.ref 1), .list c] [pL a m i b (.flist c)]:=by
 refine' eI5;intro c b i m a h;have e:=lg (pL a m i b (V.ref 1)) c h;refine⟨rfl,rfl,rfl,cz rfl ?_ rfl⟩;generalize dM [pL a m i b (V.ref 1), .list c] [0]=σ at e;have d:∀l:List (Str×V),reF σ l=some l→AO.re σ (.frame (("m", .int ((mit 16 m i:Nat):Int))::("most", .int a)::("size", .int (i:Nat))::("row", .fstrs b)::("lines",V.ref 1)::l))=
  some (.frame (("m", .int ((mit 16 m i:Nat):Int))::("most", .int a)::("size", .int (i:Nat))::("row", .fstrs b)::("lines",V.flist c)::l)):=λl f=>by
  show(reF σ _).map AO.frame=_;rwa [gP rfl (gP rfl (gP rfl (gP rfl (gP (x:=V.ref 1) (show V.re σ (V.ref 1)=_ from e) f))))];rfl
 induction i using Ge with
 |zero=>exact d [] rfl
 |succ i=>exact d _ rfl
theorem C3:∀{P:ed} {mg W:KC} {c:Cx} (Tp:aR (KK P) mg W) (T:ak c (KK P) mg W) (hr:av 1 c.A),aI c 880 0 Aw:=by
 refine' eI4;intro c W mg P Tp T hr;refine gB (cfg:=cD P [] []) (k:=0) T (ec (bh Tp (cS P)) rfl rfl rfl rfl rfl rfl (mi rfl)) hr (DO P) rfl rfl rfl (xsOf:=id) ?_ ?_
 ·intro fd O H F mu s xs vs vc r J hl R ht D E A
  revert D;refine tE E λd d D=> ?_
  ·(refine bg (Vals.two D) λv w f h3 h4=> ?_;subst f)
   exact eg R ht D rfl ((Fi P v w).at O)
 ·refine' eI8;intro s1 F J r vc mu xs c' hl E A G Y H
  rw [f2 hl]at E H⊢;revert A H;refine tE E λm0 a6 A H=> ?_
  ·(refine gl A ?_;clear A;intro q1 q2 q3 d)
   have l:KOk c' (cD P [] []) K0:=kOk (n:=0) rfl rfl Y (λi g=>by induction i using Ge with|zero=>rfl|succ i=>exact absurd g (Nat.not_lt_of_le (GB (so i))))
   have hz:∀i,i < F.length→K0 i=true:=λi g=>by
    rw [H.rep.len]at g;have g:i < 1:=g;have:i=0:=by exact Leq [_] [Q0 (.a V0 Z0) Z0] 0 V0 Z3 rfl g
    subst this;rfl
   have hm:m0.fmod (ct 281474976710656)=((bw m0:Nat):Int):=by
    unfold bw;show m0.fmod ((281474976710656:Nat):Int)=_;rwa [He _ (z2 _)];exact(Int.toNat_of_nonneg (Int.emod_nonneg m0 (b:=281474976710656) (by decide))).symm
   generalize hM:bw m0=m at*;(refine au (Ix q2) λk f=> ?_;subst f);have hk:((k:Nat):Int).toNat=k:=IK k;rwa [hk];refine ex (Q:=ek c' (cD P [] []) K0 F _ s1 0 (.ftup [.flist ((bH m k).map aJ), .int (((aO m k).length:Nat):Int)]) []) ?_ (λd d h=>h.toP hz) λd d z=>z;rwa [Bz P];refine ew G (fj P ..) l H (CF P m0 k) ⟨by decide,by decide,by decide,by decide,KP⟩ (sel:=[0,1,2]) ⟨rfl,rfl,rfl,rfl⟩ λa4 s2 H1=> ?_
   rw [hm]at H1⊢;refine ai (H1.toStrs (i:=2) rfl) λH2 X2=> ?_;have hn:(aO m k).length≤(bQ 16 m m).length:=by unfold aO;rwa [p7];exact(HC _ _)
   have u:(aO m k).length≤k:=by unfold aO;rwa [p7];exact(GY _ _)
   refine ex (jb (cfg:=cD P [] []) (K:=K0) (ρ:=a4) (mu:=hG k m 0) (mu1:=hG k m (aO m k).length) ?_ λa7 s3 I=> ?_) (λd d h=>ek.trans (X2.toN _) h) λd d z=>z
   ·refine ie H2 (aO m k).length (hG k m) rfl (λi U s4 g C=> ?_) λU s4 C=> ?_
    ·refine xe (yc P k m i (by exact Lle [_,_,_] [Q0 V0 V1,Q0 (.a V2 Z0) V0] 0 (.a V2 Z0) V1 rfl hn g) (Hw.mpr (fa g u)) (h9 (IM (fa g u)) (Gi.mp q3))) λN a9 vc ad a0 e p B=> ?_
     rcases B with B|⟨mu4,B,h2,h3⟩
     ·exact i5 G (fj P ..) l C e p (.inl rfl) B
     ·rwa [←h3]
      exact ex (i5 G (fj P ..) l C e p (.inl rfl) B) (λb s5 f=>ai f λo h=>(an o (ex h (λd d h=>h.toStrs h2) λd d z=>z))) λd d z=>z
    ·have y:mit 16 m (aO m k).length=0∨(mit 16 m (aO m k).length≠0∧¬(((aO m k).length:Nat):Int) < k):=by
      by_cases h:mit 16 m (aO m k).length=0
      ·exact .inl h
      ·refine .inr (an h (λt=>h ?_))
       have:(aO m k).length=(bQ 16 m m).length:=by unfold aO at t⊢;rw [p7]at t⊢;exact Iu ((Nat.le_total _ _).resolve_right λq=>Int.lt_irrefl _ (GW q▸t))
       rwa [this];exact(ia 16 m m (fx _)).2
     refine aS (za P k m (aO m k).length ((((bQ 16 m m).take (aO m k).length).foldl bG ([],[])).1.map aJ) (((bQ 16 m m).take (aO m k).length).foldl bG ([],[])).2 y) λN vc e p=> ?_;exact jn G (fj P ..) l C e p (yI k m (aO m k).length _ _)
   ·have ht:(bQ 16 m m).take (aO m k).length=aO m k:=by
     unfold aO;rwa [p7];rcases Nat.le_total k (bQ 16 m m).length with h|h
     ·(rwa [GW h];rfl)
     ·(rwa [Iu h,GN h,HW];rfl)
    have j:=jX (aO m k) ([],[]);have x:0+(aO m k).length≤16777216:=(HY _).symm▸h9 u (h9 (Gi.mp q3) (by decide))
    have hL:bH m k=ji ((aO m k).foldl bG ([],[])):=rfl;unfold hG at I⊢;rw [ht]at I⊢;rwa [hL];generalize(aO m k).foldl bG ([],[])=a at*;have h1:(a.1.map aJ).length≤16777216:=by rwa [pg _];exact h9 j.1 x
    have h2:a.2.length≤16777216:=h9 j.2 x;cases o:(!a.2.isEmpty)with
    |true=>
     have Z:ji a=a.1++[(true,a.2,1)]:=by unfold ji;(rwa [if_neg (by intro h;rw [h]at o;exact ftB o)];rfl)
     rwa [Z,Hv];refine ew G (fj P ..) l I (C1 P _ k _ _ _ _) ⟨h2,o,h1,KP⟩ (pe k m (aO m k).length a.1 a.2 _ [aJ (true,a.2,1)] rfl) λa5 s' L=> ?_;have hc:V.closedL 0 (a.1.map aJ++[aJ (true,a.2,1)])=true:=by have:=bi (a.1++[(true,a.2,1)]);rw [Hv]at this;exact this
     exact gO G (fj P ..) l L (Az P _ k _ _ _ _) trivial (.inl rfl) (o9 k m _ a.2 _ hc) (by show(V.re _ (V.ftup [V.ref 1,_]))=_;exact tO _ _ (lg _ _ hc)) rfl rfl
    |false=>
     have Z:ji a=a.1:=by unfold ji;(rwa [if_pos (by simpa using o)];rfl)
     rwa [Z];refine ew G (fj P ..) l I (C2 P _ k _ _ _ _) ⟨h2,o,KP⟩ (by have:=pe k m (aO m k).length a.1 a.2 [] [] rfl;rw [HL]at this;exact this) λa5 s' L=> ?_
     exact gO G (fj P ..) l L (Az P _ k _ _ _ _) trivial (.inl rfl) (o9 k m _ a.2 _ (bi _)) (by show(V.re _ (V.ftup [V.ref 1,_]))=_;exact tO _ _ (lg _ _ (bi _))) rfl rfl
noncomputable def bJ:Array Nat:= #[14,17,4,1,1,21,9,0,604043296,1,0,0,0,0,0,8,4,0,13,14,21,9,0,604043296,1,0,0,0,0,0,8,4,0,1]
def dA(c:Nat):Bool:=(decide (c < 256)&&(bJ.getD (5+2+c/32) 0).testBit (c % 32))||Sre.isWord c
theorem Cw(c:Nat)(seen:Ie):Sre.inSet bJ c bJ.size 5 true seen=(if(decide (c < 256)&&(bJ.getD (5+1+(1+c/32)) 0).testBit (c % 32))=true then .ok (false,(seen.add 21).add 9)else
 ((Sre.category 4 c).bind λy=>if y=true then pure (false,(((seen.add 21).add 9).add 8).add 59)else .ok (true,((((seen.add 21).add 9).add 8).add 59).add 0)):Except String (Bool×Ie)):=by rfl'
theorem BM(c:Nat):Sre.category 4 c= .ok (Sre.isWord c):=by
 show Except.ok (Sre.isWord c !=(4 % 2==1))=_;cases Sre.isWord c<;>rfl
theorem Ew:∀(c:Nat) (seen:Ie),∃b,Sre.inSet bJ c bJ.size 5 true seen= .ok (!dA c,b):=by
 refine' eI2;intro seen c;rwa [Cw _ _,BM _];unfold dA;rwa [show 5+2+c/32=5+1+(1+c/32) by exact Leq [_] [] 0 (.a (.a (.c 5) Z4) V0) (.a (.a (.c 5) Z0) (.a Z0 V0)) rfl]
 cases(decide (c < 256)&&(bJ.getD (5+1+(1+c/32)) 0).testBit (c % 32))with
 |true=>exact⟨_,rfl⟩
 |false=>
  cases h:Sre.isWord c with
  |true=>exact⟨_,rfl⟩
  |false=>exact⟨_,rfl⟩
theorem As(c:Nat)(seen:Ie):Sre.accepts bJ 18 c seen=(if(decide (c < 256)&&(bJ.getD (21+(1+c/32)) 0).testBit (c % 32))=true then .ok (false,(seen.add 21).add 9)else
 ((Sre.category 4 c).bind λy=>if y=true then pure (false,(((seen.add 21).add 9).add 8).add 59)else .ok (true,((((seen.add 21).add 9).add 8).add 59).add 0)):Except String (Bool×Ie)):=by rfl'
theorem rv(j:Nat)(h:j < 8):bJ.getD (21+(1+j)) 0=bJ.getD (5+2+j) 0:=by
 exact ltS (ltS (ltS (ltS (ltS (ltS (ltS (ltS (ltN (P:=λj=>bJ.getD (21+(1+j)) 0=bJ.getD (5+2+j) 0)) rfl) rfl) rfl) rfl) rfl) rfl) rfl) rfl j h
theorem Cy:∀(c:Nat) (seen:Ie) (h:dA c=false),∃a,Sre.accepts bJ 18 c seen= .ok (true,a):=by
 refine' eI2;intro seen c h;rwa [As _ _,BM _];unfold dA at h;rw [Il]at h;(refine ai h ?_;clear h;intro h1 h2);have h3:(decide (c < 256)&&(bJ.getD (21+(1+c/32)) 0).testBit (c % 32))=false:=by
  by_cases b:c < 256
  ·rwa [rv (c/32) ((Nat.div_lt_iff_lt_mul (by decide)).mpr b)];exact h1
  ·rwa [decide_eq_false b];rfl
 rwa [h3,h2];exact⟨_,rfl⟩
theorem adm(m:Jh)(n:m.code=bJ):∀(f s:Nat) (seen:Ie),m.lim+1≤s+f→
 ((∀i,s≤i→i < m.lim→dA (m.text.getD i 0)=true)∧∃d,Kh m f s seen= .ok (none,d))∨
 ∃k,s≤k∧k < m.lim∧dA (m.text.getD k 0)=false∧∃d,Kh m f s seen= .ok (some k,d):=by
 intro j
 induction j with
 |zero=>
  intro s seen h;exact .inl (an (λi h1 h2=>by grind) (fJ seen rfl))
 |succ f g=>
  intro s seen h;unfold Kh
  by_cases l:s≥m.lim
  ·rwa [if_pos l];exact .inl (an (λi h1 h2=>by grind) (fJ seen rfl))
  ·rwa [if_neg l,n]
   refine au (Ew (m.text.getD s 0) seen) λd e=> ?_;rwa [e];cases q:dA (m.text.getD s 0)with
   |false=>exact .inr (iz s (fx _) (by simp_all+arith) q (fJ d rfl))
   |true=>
    rcases g (s+1) d (by exact Lle [_,_,_] [Q0 (.a V0 Z0) (.a V1 (.a V2 Z0))] 0 (.a V0 Z0) (.a (.a V1 Z0) V2) rfl h)with⟨h1,h2⟩|⟨k,h1,h2,h3,h4⟩
    ·exact .inl (an (λi a b=>if e:i=s then e▸q else h1 i (Nat.lt_of_le_of_ne a (Ne.symm e)) b) h2)
    ·exact .inr (iz k (by exact Lle [_,_] [Q0 (.a V0 Z0) V1] 0 V0 V1 rfl h1) h2 h3 h4)
def m0(text:Array Nat):Jh:={code:=bJ,text:=text,lim:=text.size,start:=0,lastStart:=text.size,pc:=18,pos:=0,handed:=0,marks:=Array.replicate (2*0) none,mustAdvance:=false,seen:=({}:Ie).add 14}
theorem vB(a:Array Nat)(h:0 < a.size):Sre.forSearch bJ a 0 0 a.size false=(m0 a).attemptFrom 0 true:=by
 show(if(decide (0 > a.size)||decide (a.size -0 < 1))=true then _ else _)=_;rwa [if_neg (by rw [Bool.or_eq_true,decide_eq_true_iff,decide_eq_true_iff];lia)]
 rfl
theorem Bn(a:Array Nat):(m0 a).attemptFrom 0 true=(match Kh (m0 a) (a.size+1 -0) 0 (m0 a).seen with
 | .ok (some s,seen)=>{m0 a with mustAdvance:=false,seen}.attemptAt s true
 | .ok (none,seen)=>{m0 a with seen}.say false
 | .error why=>(m0 a).stick why):=by rfl'
theorem vH(a:Array Nat)(seen:Ie):(({m0 a with seen}.say false).runFor 4).outcome=some .failed:=by rfl'
def m2(text:Array Nat)(k:Nat)(seen:Ie)(pc pos:Nat):Jh:=
 {code:=bJ,text:=text,lim:=text.size,start:=k,lastStart:=text.size,pc:=pc,pos:=pos,handed:=k,outermost:=true,marks:=Array.replicate (2*0) none,mustAdvance:=false,
  frames:=[{wait:= .nextStart,pc:=18,pos:=k,outermost:=true}],weight:=1,seen}
theorem FG(a:Array Nat)(k:Nat)(seen:Ie):{m0 a with mustAdvance:=false,seen}.attemptAt k true=m2 a k seen 18 k:=by rfl'
theorem Cq(a:Array Nat)(k:Nat)(seen:Ie):(m2 a k seen 18 k).step=(if k≥a.size then{m2 a k seen 18 k with seen:=seen.add 13}.say false else
 match Sre.accepts bJ 18 (a.getD k 0) (seen.add 13)with
 | .error why=>{m2 a k seen 18 k with seen:=seen.add 13}.stick why
 | .ok (false,seen)=>(m2 a k seen 18 k).say false
 | .ok (true,seen)=>m2 a k seen 33 (k+1)):=by rfl'
theorem Cp(a:Array Nat)(k:Nat)(seen:Ie):((m2 a k seen 33 (k+1)).runFor 3).outcome=some .matched:=by rfl'
theorem qm(n:Nat)(m:Jh)(h:m.outcome.isSome=false):Jh.runFor (n+1) m=Jh.runFor n m.step:=by
 show(if m.outcome.isSome=true then m else Jh.runFor n m.step)=_;rwa [h];rfl
theorem vD:∀(b:Array Nat) (h:0 < b.size),((∀i,i < b.size→dA (b.getD i 0)=true)∧((Sre.forSearch bJ b 0 0 b.size false).runFor 4).outcome=some .failed)∨
 ((∃i,i < b.size∧dA (b.getD i 0)=false)∧((Sre.forSearch bJ b 0 0 b.size false).runFor 4).outcome=some .matched):=by
 refine' eI1;intro b h;rwa [vB b h,Bn _];rcases adm (m0 b) rfl (b.size+1 -0) 0 (m0 b).seen (by show b.size+1≤_;exact Lle [_,_] [Q2 (.a V1 Z3) (.a V0 Z0)] 0 (.a V0 Z0) (.a Z3 V1) rfl (pm (Lle [_] [] 0 Z3 (.a V0 Z0) rfl)))with⟨h1,d,e⟩|⟨k,h1,h2,h3,d,e⟩
 ·rwa [e];exact .inl ⟨λi g=>h1 i (so _) g,vH b d⟩
 ·rwa [e]
  refine .inr ⟨⟨k,h2,h3⟩, ?_⟩;show(({m0 b with mustAdvance:=false,seen:=d}.attemptAt k true).runFor 4).outcome=_
  rwa [FG _ _ _,qm 3 _ rfl,Cq _ _ _];have h2:k < b.size:=h2;rwa [if_neg (by simp [*])]
  refine au (Cy (b.getD k 0) (d.add 13) h3) λf j=> ?_;rwa [j];exact Cp b k f
end Mine
section
open PySem.Builtin.Re PySem.Builtin
namespace Mine
section
variable{M:Ij}{A:GI}{E:KD}{s:dd}
theorem zC(t:Nat)(m:Jh)(h:(m.runFor 4).outcome.isSome=true):reDrive (t+1) m=pure (m.runFor 4):=by
 show(if(m.runFor 4).outcome.isSome=true then pure (m.runFor 4)else _)=_;(rwa [if_pos h];rfl)
theorem jN{m:Jh}(h:(m.runFor 4).outcome.isSome=true){Q:Option Jh→dd→Prop}(f:eo M A (match(m.runFor 4).outcome with
 |some .matched=>pure (some (m.runFor 4))
 |some .failed=>pure none
 |some (.stuck why)=>unsupported s!"_sre:{why}"
 |none=>unsupported "internal:sre:no-outcome") Q E s):eo M A (reRunToEnd m) Q E s:=by
 unfold reRunToEnd;rwa [show(2:Nat)^64=18446744073709551615+1 from rfl,zC _ _ h];refine dV (eM ?_);refine dV (wpAny_forIn_list _ (λe e c=>c=s) _ (λx d b c a=> ?_) (λb c a=> ?_) _ _ rfl)
 ·subst a
  split
  ·exact dV (wpAny_rule (eM rfl))
  ·exact eM rfl
 ·subst a;exact f
theorem oi{m:Jh}(h:(m.runFor 4).outcome=some .failed){Q:Option Jh→dd→Prop}(a:Q none s):eo M A (reRunToEnd m) Q E s:=
 jN (by rwa [h];rfl) (by rwa [h];exact eM a)
theorem oe{m:Jh}(h:(m.runFor 4).outcome=some .matched){Q:Option Jh→dd→Prop}(a:Q (some (m.runFor 4)) s):eo M A (reRunToEnd m) Q E s:=
 jN (by rwa [h];rfl) (by rwa [h];exact eM a)
theorem yQ(x:da):reNamed "re.Pattern.search" "search" ["string","pos","endpos"] 1 [x] []=pure [some x,none,none]:=by rfl'
theorem Aa(x:Str)(t:Tok):reTextOf (.str x t)=pure (x.cps,0):=by rfl'
theorem qj{q:cv}{c:Hn}{a:Array da}{n:Nat}(d:s.heap.get? q=some c)(b:c.data= .seq a n){Q:Array Int→dd→Prop}(h:Q (a.map reRawOf) s):eo M A (reRawItems (.ref q)) Q E s:=by
 exact dV (wpAny_seqItems d b (eM h))
theorem qi:∀{p q:cv} {o d:Hn} {b a:Array da} {n:Nat} {x:Str} {t:Tok} {Q:ReTarget→dd→Prop} (f:s.heap.get? p=some o) (i:o.data= .fields b) (l:reRawNat (b.getD 6 .none)=0) (m:b.getD 5 .none= .ref q) (h2:reRawNat (b.getD 2 .none)=0) (g:s.heap.get? q=some d) (c:d.data= .seq a n) (k:(a.map reRawOf).map (·.toNat)=bJ) (j:x.cps.size≤16777216) (h:Q ⟨.ref p, .str x t,bJ,x.cps,0,0,0,x.cps.size⟩ s),eo M A (reTarget "re.Pattern.search" "search" ⟨[.ref p, .str x t],[]⟩) Q E s:=by
 revert M A E s;refine' eI14;intro Q t x n a b d o q p s E A M f i l m h2 g c k j h;unfold reTarget;dsimp only;rwa [yQ _];refine dV (eM ?_);dsimp only;refine dV (eM ?_);refine dV (eM ?_);refine dV (wpAny_fieldsOf f i ?_);rwa [Aa _ _];refine dV (eM ?_);rwa [l];refine dV (eM ?_);rwa [m];refine dV (qj g c ?_);rwa [k,h2];refine eM ?_;have e:min ((2:Int)^63 -1).toNat x.cps.size=x.cps.size:=Iu (h9 j (by decide))
 rwa [e];exact h
theorem qk{d f:da}{j i:Nat}{m:Jh}{Q:KD}(h:∀g a,(∀b o,s.heap.get? b=some o→g.heap.get? b=some o)→s.heap.objs.size≤g.heap.objs.size→g.toks=s.toks→g.gens=s.gens→g.os=s.os→Q (.ref a) g):
 eo M A (reNewMatch d f 0 j i m) Q E s:=by
 unfold reNewMatch;rwa [show List.range 0=[]from rfl,List.flatMap_nil,List.any_nil];simp only [Bool.false_eq_true,if_false];refine dV (Ke ?_ (by rwa [HF];show 2≤16777216;decide))
 refine wpAny_newObj_type (h _ _ (λb o e=>g0 _ (g0 _ e)) (by(rwa [sm _ _];rw [sm]);exact Lle [_] [] 0 V0 (.a (.a V0 Z0) Z0) rfl) rfl rfl rfl) ?_
 size_fits
theorem sP{p q:cv}{o j:Hn}{e c:Array da}{n:Nat}{x:Str}{t:Tok}(k:s.heap.get? p=some o)(w:o.data= .fields e)(D:reRawNat (e.getD 6 .none)=0)(F:e.getD 5 .none= .ref q)
 (h2:reRawNat (e.getD 2 .none)=0)(u:s.heap.get? q=some j)(h:j.data= .seq c n)(B:(c.map reRawOf).map (·.toNat)=bJ)(y:x.cps.size≤16777216)(f:0 < x.cps.size){Q:KD}
 (C:(∀i,i < x.cps.size→dA (x.cps.getD i 0)=true)→Q .none s)
 (H:(∃i,i < x.cps.size∧dA (x.cps.getD i 0)=false)→∀d a,(∀b o,s.heap.get? b=some o→d.heap.get? b=some o)→s.heap.objs.size≤d.heap.objs.size→d.toks=s.toks→d.gens=s.gens→d.os=s.os→Q (.ref a) d):
 eo M A (I9.«re.Pattern.search» ⟨[.ref p, .str x t],[]⟩) (λg d=>∃v,g= .done (.ret v)∧Q v d) E s:=by
 refine dV (qi k w D F h2 u h B y ?_);rcases vD x.cps f with⟨h1,h2⟩|⟨h1,h2⟩
 ·exact dV (oi h2 (eM (ah _ rfl (C h1))))
 ·refine dV (oe h2 ?_)
  exact dV (qk λd a l G r z m=>eM (ah _ rfl (H h1 d a l G r z m)))
end
theorem Cr:∃a,Manifest.signature? "re.Pattern.search"=some a∧builtinKind "re.Pattern.search"=some .method∧Manifest.varargsMethods.contains "re.Pattern.search"=false∧
 ∀v w:da,Bind.checkArgs "re.Pattern.search" {a with full:=s!"{Bind.lastOf "re.Pattern"}.{Bind.lastOf "re.Pattern.search"}"} ⟨[v,w],[]⟩=pure ():=by
 refine(iz _ rfl (by rfl') (by rfl') (λv w=>by rfl'))
section
variable{a:A8}{w:Gv}{A:GI}{E:KD}{s:dd}
theorem pf:plainId "re.Pattern.search"=true:=by decide+kernel
theorem Cn:Kk (.type "re.Pattern") (.type "module")=pure false:=by unfold Kk;rwa [mroOf_type _];kernel_rfl
theorem pW:∀{p:cv} {o:Hn} {e:Array da} {x:da} {Q:Unit→dd→Prop} (c:s.heap.get? p=some o) (d:o.data= .fields e) (b:s.TypeIs (.ref p) "re.Pattern") (h:Q () s),eo (GO a w) A (checkBoundCall "re.Pattern.search" ⟨[.ref p,x],[]⟩) Q E s:=by
 revert a w A E s;refine' eI10;intro Q x e o p s E A w a c d b h;refine ny Cr λf k i j g=> ?_;unfold checkBoundCall;rwa [k];rwa [i];dsimp only;refine dV (m:=isInstance (.ref p) (.type "module")) (wpAny_isInstance b Cn ?_);rwa [j];refine dV (m:=isType (.ref p)) ?_;simp only [isType,loadHead];refine dV (Jq c ?_);rwa [d];refine eM ?_;refine dV (wpAny_typeOf b ?_);exact JD (g (.ref p) x) h
theorem qr{f p:cv}{d e:Hn}{b n:Array da}{x:da}{R:Result→dd→Prop}(j:s.heap.get? f=some d)(g:d.cls= .type "builtin_function_or_method")(k:d.data= .fields b)(l:b[0]? =some (.builtin "re.Pattern.search"))
 (h1:b[1]? =some (.ref p))(i:s.heap.get? p=some e)(c:e.data= .fields n)(m:s.TypeIs (.ref p) "re.Pattern")(h:JU (GO a w) A (.builtin "re.Pattern.search" ⟨[.ref p,x],[]⟩) R s):JU (GO a w) A (.call (.ref f) ⟨[x],[]⟩) R s:=by
 refine codeAny_of_tree ?_;show eo _ _ (callAny (.ref f) ⟨[x],[]⟩) _ _ s;refine dV (I1 j ?_);rwa [k,g];dsimp only;rwa [l,h1];refine dV (pW i c m ?_);refine dV (eM ?_);exact eM ⟨plainId_quiet pf _,h⟩
theorem pT:entryFor table "re.Pattern.search"=some I9.«re.Pattern.search»:=Ir (by rfl')
theorem qs{f p q:cv}{u k G:Hn}{e l d:Array da}{n:Nat}{x:Str}{t:Tok}(P:s.heap.get? f=some u)(C:u.cls= .type "builtin_function_or_method")(D:u.data= .fields e)(H:e[0]? =some (.builtin "re.Pattern.search"))
 (h1:e[1]? =some (.ref p))(m:s.heap.get? p=some k)(F:k.cls= .type "re.Pattern")(j:k.data= .fields l)(R:reRawNat (l.getD 6 .none)=0)(T:l.getD 5 .none= .ref q)(h2:reRawNat (l.getD 2 .none)=0)
 (J:s.heap.get? q=some G)(y:G.data= .seq d n)(N:(d.map reRawOf).map (·.toNat)=bJ)(L:x.cps.size≤16777216)(r:0 < x.cps.size){Q:KD}
 (O:(∀i,i < x.cps.size→dA (x.cps.getD i 0)=true)→Q .none s)
 (U:(∃i,i < x.cps.size∧dA (x.cps.getD i 0)=false)→∀g c,(∀b o,s.heap.get? b=some o→g.heap.get? b=some o)→s.heap.objs.size≤g.heap.objs.size→g.toks=s.toks→g.gens=s.gens→g.os=s.os→Q (.ref c) g):
 eo (GO a w) A (call (.ref f) [.str x t]) Q E s:=by
 refine HJ (qr P C D H h1 m j ⟨k,m,F⟩ (JZ pT ?_));refine ex (sP m j R T h2 J y N L r O U) (λK g h=> ?_) λI I z=>z;(refine ab h ?_;clear h;intro v B h;subst B);exact h
end
end Mine
end
namespace Mine
theorem BT(P:ed)(v:da):bE (KK P) 744 [v] [("s",v)]:=by unfold bE;kernel_rfl
theorem EZ(P:ed):((ae (KK P) 744).length,fdB (KK P) 744 ["s"])=(3,true):=by rfl'
def dL(x:Str):Bool:=x.cps.toList.all dA
def br(x:Str):Str:=if(x.length:Int) !=0 then(if dL x then x else(("'":Str)++Hy x ("'":Str) ("'\"'\"'":Str))++("'":Str))else "''"
theorem Bg(P:ed):((KK P).lookup 737).map (λo=>(o.cls,o.data))=some (.type "builtin_function_or_method", .fields #[.builtin "re.Pattern.search", .ref 49]):=by rfl'
theorem k49(P:ed):((KK P).lookup 49).map (λo=>(o.cls,o.data))=some (.type "re.Pattern", .fields #[.str "[^\\w@%+=:,./-]" 332, .int 256 369, .int 0 0, .none, .none, .ref 48, .int 0 0]):=by rfl'
theorem k48(P:ed):((KK P).lookup 48).map (λo=>match o.data with| .seq items _=>some ((items.map I9.Re.reRawOf).map (·.toNat))|_=>none)=some (some bJ):=by rfl'
theorem qJ{P:ed}{M:Ij}{h:Gm}(X:∀a o,(KK P).lookup a=some o→h.get? a=some o):∃k,(k=IQ∨k=Ip∨k=HN)∧Hz M h (Ka (.ref 737)) k:=by
 refine ab (mr.mp (Bg P)) λo l e=> ?_;have b:o.cls= .type "builtin_function_or_method":=congrArg JP e;have c:o.data= .fields #[.builtin "re.Pattern.search", .ref 49]:=congrArg Jl e;refine(ah .machine (.inr (.inl rfl)) ?_);refine(Hz.ld (part:=none) (X _ _ l)).andThen ?_;rwa [b,c];exact .now
theorem vE{x:Str}(h:dL x=true)(i:Nat)(a:i < x.cps.size):dA (x.cps.getD i 0)=true:=by
 unfold dL at h;have:=Gf.mp h (x.cps[i]'a) (Array.getElem_mem_toList a);rwa [Array.getD_eq_getD_getElem?,Hm a];exact this
theorem v9{x:Str}(h:∀i,i < x.cps.size→dA (x.cps.getD i 0)=true):dL x=true:=by
 refine Gf.mpr λc b=> ?_;obtain⟨i,d,e⟩:=List.getElem_of_mem b;have a:i < x.cps.size:=by rwa [←iy];exact d
 have:=h i a;rw [Array.getD_eq_getD_getElem?,Hm a]at this;rwa [←e,Array.getElem_toList _];exact this
set_option tactic.hygienic true in
theorem kY{P:ed}{d:A8}{w:Gv}{A:GI}{E:KD}{s:dd}(X:∀a o,(KK P).lookup a=some o→s.heap.get? a=some o){x:Str}{t:Tok}(v:x.length≤16777216)(e:0 < x.length){Q:KD}
 (B:dL x=true→Q .none s)
 (G:dL x=false→∀c a,(∀b o,s.heap.get? b=some o→c.heap.get? b=some o)→s.heap.objs.size≤c.heap.objs.size→c.toks=s.toks→c.gens=s.gens→c.os=s.os→Q (.ref a) c):
 eo (GO d w) A (call (.ref 737) [.str x t]) Q E s:=by
 refine ab (mr.mp (Bg P)) λH z m=> ?_;refine ab (mr.mp (k49 P)) λJ y l=> ?_;refine ab (mr.mp (k48 P)) λI F g=> ?_;have C:=congrArg JP m;have u:=congrArg Jl m;have p:=congrArg JP l;have D:=congrArg Jl l
 split at g
 ·rename_i f n k
  refine qs (X _ _ z) C u rfl rfl (X _ _ y) p D rfl rfl rfl (X _ _ F) k (ds g) v e (λh=>B (v9 h)) λj=>ab j λi r h=>G ?_;cases q:dL x with
  |false=>rfl
  |true=>rw [vE q i r]at h;exact tfB h
 ·exact noS g
def nI:ay:=s1 (λx=>[x.length≤1000000,0 < x.length,dL x=true]) λx=> .none
theorem xF{P:ed}{m n:KC}{c:Cx}(T:ak c (KK P) m n):aI c 737 0 nI:=by
 refine⟨λh p=>qJ (λa o e=>p _ _ (T.K a o e)),λH v w s z A vc r k l R q g j b=> ?_⟩;rw [f2 l]at j R⊢;revert b g;refine fq j λx g b=> ?_
 ·(refine ab (Vals.one g) λu i d=> ?_;refine au d ?_;clear d;intro t f;subst f;subst i)
  exact kY (λa o e=>R.base a o (T.K a o e)) (h9 b.1 (by decide)) b.2.1 (λy=>⟨q,v,[],R,Ext.refl ..,so _,rfl,rfl⟩) λh=>by rw [b.2.2.1]at h;exact tfB h
def bX(P:ed)(a:List (Nat×Bool)):Cfg:={fi:=0,names:=ce (KK P) 744,globs:=G0,orc:=a,fns:=[(737,0,nI)]}
theorem xK(P:ed):fdB (KK P) 744 ["s"]=true:=congrArg Jl (EZ P)
theorem CC(P:ed)(x:Str):cL (bX P [(733011012,false)]) 40 ["s"] 0 (ae (KK P) 744) [.str x] []= .ok [x.length≤16777216,(ct x.length !=ct 0)=false] (.str "''") []:=by rfl'
theorem CB(P:ed)(x:Str):cL (bX P [(733011012,true)]) 40 ["s"] 0 (ae (KK P) 744) [.str x] []= .ok [x.length≤16777216,(ct x.length !=ct 0)=true,true=true,true=true,x.length≤1000000,0 < x.length,dL x=true,true=true,true=true] (.str x) []:=by rfl'
def yw:ay:=s1 (λx=>[x.length≤1000000,x.length=0∨dL x=true]) λx=>(.str (br x))
theorem pu{P:ed}{d f:KC}(p:aR (KK P) d f){c:Cx}(T:ak c (KK P) d f)(q:av 1 c.A):aI c 744 0 yw:=by
 have F:∀a,aI c 744 0 (cL (bX P a) 40 ["s"] 0 (ae (KK P) 744)):=λa=>
  gX (cfg:=bX P a) (k:=0) T (ec (bh p (cS P)) rfl rfl rfl rfl rfl rfl (cb.cons (λm T m=>xF T) cb.nil)) q (xK P) rfl rfl rfl (λu e=>k6 λv=>(BT P v).at e) 40
 refine(F []).each λt s vc r n o g b=> ?_;rw [f2 o]at g⊢;revert b;refine fq g λx b=> ?_
 ·have i:x.length≤16777216:=h9 b.1 (by decide)
  unfold br;cases h:((x.length:Int) !=0)with
  |false=>exact⟨_,F _,_,CC P x,i,h,KP⟩
  |true=>
   have l:0 < x.length:=uV (bne_iff_ne.mp h);have j:dL x=true:=b.2.1.resolve_left (by simp_all+arith)
   rwa [j];exact⟨_,F _,_,CB P x,i,h,rfl,rfl,b.1,l,j,rfl,rfl,KP⟩
theorem yh:∀{P:ed} {c:Cx} {d:Cfg} {z:KB} {f:KM} {s:dd} {x:Str} {l r:Expr} {i:List Expr} {p I:nR} {g:Hk da} (G:aG c d) (X:∀a o,(KK P).lookup a=some o→c.d.B a o) (H:ac c d z f s) (B:x.length≤16777216) (j:0 < x.length) (N:dL x=false) (L:gG l=false) (K:(fns d 40).E l f= .ok [] (.adr 737) f) (C:dj (fns d 40) i f= .ok [] [.str x] f) (D:(fns d 40).E r f= .ok [] .none f) (J:I7 .Is r=false),eo c.M c.A (A0 (.Compare (.Call l i [] p) [.Is] [r] I) c.env g) (λb F=>b=false∧∃m,ac c d m f F∧Ext z f s m f F) NoE s:=by
 refine' eI13;intro g I p i r l x s f z d c P G X H B j N L K C D J;have O:=bj G 40;refine HE ?_ J;rwa [nk L];refine dV ((O.E l).use H K trivial λu s1 a0 H1 X1 r1=> ?_);cases r1;refine dq O (λh Z=>qJ λa o e=>Z _ _ (X a o e)) H1 C trivial λus s2 y n X2 hu=> ?_;(refine ab (Vals.one hu) λu A k=> ?_;refine au k ?_;clear k;intro t q;subst q;subst A);refine kY (λa o e=>n.rep.base a o (X a o e)) B j (λh=>by rw [N]at h;exact ftB h) λzz s3 a T g2 g3 g4 U=> ?_
 refine ai (n.rep.grow T g2 g4 U) λR3 R=> ?_;have Y:ac c d y f s3:=⟨R3,by rwa [g3];exact n.tk,n.fr,n.cl⟩
 refine(O.E r).use Y D trivial λw s4 v H4 X4 W=> ?_;cases W;refine eM ?_;exact HM (an rfl (ah v H4 (((X1.trans X2).trans R).trans X4)))
set_option genInjectivity false in
structure mN where
 fe:Expr
 args:List Expr
 r:Expr
 p:nR
 p1:nR
 body:List k0
 orelse:List k0
 p2:nR
deriving Nonempty
noncomputable def mN.stmt(i:mN):k0:= .If (.Compare (.Call i.fe i.args [] i.p) [.Is] [i.r] i.p1) i.body i.orelse i.p2
def pI(l:List k0)(n:Nat):mN:=aHd (l.drop n) df λs=>aIf s df λt d a g=>sD t df λc h e=>kM c df λf b p=>aH h df λr i=>⟨f,b,r,p,e,d,a,g⟩
theorem DG(P:ed):(ae (KK P) 744).drop 1=(pI (ae (KK P) 744) 1).stmt::(ae (KK P) 744).drop 2:=by rfl'
def lB(P:ed):mN:=pI (ae (KK P) 744) 1
theorem DH(P:ed)(x:Str):((fns (bX P []) 40).E (lB P).fe [.frame [("s", .str x)]],dj (fns (bX P []) 40) (lB P).args [.frame [("s", .str x)]],(fns (bX P []) 40).E (lB P).r [.frame [("s", .str x)]])=
 (.ok [] (.adr 737) [.frame [("s", .str x)]], .ok [] [.str x] [.frame [("s", .str x)]], .ok [] .none [.frame [("s", .str x)]]):=by rfl'
theorem r7(P:ed):(gG (lB P).fe,I7 .Is (lB P).r,(lB P).orelse.length)=(false,false,0):=by rfl'
theorem yp:∀{P:ed} {c:Cx} {i:KB} {s:dd} {x:Str} {Q:Hj→dd→Prop} (G:aG c (bX P [])) (X:∀a o,(KK P).lookup a=some o→c.d.B a o) (H:ac c (bX P []) i [.frame [("s", .str x)]] s) (l:x.length≤16777216) (f:0 < x.length) (m:dL x=false) (k:∀d g,ac c (bX P []) d [.frame [("s", .str x)]] g→Ext i [.frame [("s", .str x)]] s d [.frame [("s", .str x)]] g→eo c.M c.A (un ((ae (KK P) 744).drop 2) c.env) Q NoE g),eo c.M c.A (un ((ae (KK P) 744).drop 1) c.env) Q NoE s:=by
 refine' eI6;intro Q x s i c P G X H l f m k;rwa [DG P];have e:=DH P x;have v:=congrArg JP e;have r:=congrArg (λz=>z.2.1) e;have t:=congrArg (λz=>z.2.2) e;have h1:=congrArg JP (r7 P);have h2:=congrArg (λz=>z.2.1) (r7 P);have h3:=congrArg (λz=>z.2.2) (r7 P);refine pp (Kf (ex (yh G X H l f m h1 v r t h2) (λb g j=> ?_) λn n z=>z));(refine ai j ?_;clear j;intro q h;refine ab h ?_;clear h;intro d p u);subst q;show eo c.M c.A (un (lB P).orelse c.env) _ _ _;rwa [Hu.mp h3];exact Gc (k d g p u)
theorem sA{c:Cx}{s:dd}{i:da}{a b d:nR}{g f:Nat}{y z:Str}{Q:Args→dd→Prop}(h:Q ⟨[.str y s.toks, .str z (s.toks+1)],[]⟩ {s with toks:=s.toks+2}):
 eo c.M c.A (evalArgs i true (H9 a (G8 [.Constant (.str y) g b, .Constant (.str z) f d] c.env)) []) Q NoE s:=by
 rwa [dB (e:= .Constant (.str y) g b) rfl];refine evalArgs_plain ?_;refine spliced_cons (show eo c.M c.A (mkText y) _ _ _ from wpAny_mkText ?_);rwa [dB (e:= .Constant (.str z) f d) rfl];refine spliced_cons (show eo c.M c.A (mkText z) _ _ _ from wpAny_mkText ?_);exact spliced_nil h
theorem yB:∀{c:Cx} {b:Cfg} {l:KB} {f:KM} {s:dd} {o:Expr} {r p i h:nR} {n m:Nat} {x y z:Str} (G:aG c b) (H:ac c b l f s) (D:dt o=false) (d:r.endLine=p.line) (I:(fns b 40).E o f= .ok [] (.str x) f) (g:(y==z)=false) (B:x.length+(x.length+1)*z.length≤16777216),eo c.M c.A (Gu (.Call (.Attribute o "replace" r) [.Constant (.str y) n i, .Constant (.str z) m h] [] p) c.env) (aF c b l f s f λF l v=>Val F l (.str (Hy x y z)) v) NoE s:=by
 refine' eI15;intro z y x m n h i p r o s f l b c G H D d I g B;have O:=bj G 40;(rw [arm_eval_Call];rwa [kL D]);refine dV ((O.E o).use H I trivial λu s1 w q L C=>dV (Hc ?_));(refine au C ?_;clear C;intro t A;subst A);have e:Js (([.Constant (.str y) n i, .Constant (.str z) m h]:List Expr).length+([]:List Keyword).length) (H9 p (G8 [.Constant (.str y) n i, .Constant (.str z) m h] c.env)) (Kc p (Ja [] c.env))=true:=rfl;have j:I8 true o c.env r p=pure p:=by
  unfold I8;simp [d]
 rwa [e];refine dV (A9 (GM.replace ?_));refine dV (JD j ?_);show eo c.M c.A (Kb p (.builtin "str.replace") [.str x t] (H9 p (G8 [.Constant (.str y) n i, .Constant (.str z) m h] c.env)) []) _ _ _;refine cU L ?_;refine callWith_builtin rfl (sA ?_);have R:=q.tk;refine dO (show 1≤s1.toks+2 by exact Lle [_] [] 0 Z0 (.a V0 Z4) rfl) (SC.replace (Iq q.tk) (by show s1.toks+1≠0;simp) (by show s1.toks≠s1.toks+1;simp) g B λK k N=> ?_)
 refine ai (q.rep.same (s':={s1 with toks:=k}) rfl rfl rfl) λJ P=> ?_
 exact⟨w,⟨J,N,q.fr,q.cl⟩,P,K,rfl⟩
set_option genInjectivity false in
structure kN where
 a:Expr
 o:Expr
 b:Expr
 ap:nR
 p:nR
 p1:nR
 p2:nR
 q1:nR
 q2:nR
 q3:nR
 k1:Nat
 k2:Nat
deriving Nonempty
noncomputable def kN.stmt(i:kN):k0:= .Return (some (.BinOp (.BinOp i.a .Add (.Call (.Attribute i.o "replace" i.ap) [.Constant (.str "'") i.k1 i.p1, .Constant (.str "'\"'\"'") i.k2 i.p2] [] i.p) i.q1) .Add i.b i.q2)) i.q3
def tM(l:List k0)(n:Nat):kN:=aHd (l.drop n) df λs=>sC s df λe j=>xc e df λe b g=>xc e df λa e q=>kM e df λf c p=>aAt f df λo d h=>aH c df λy k=>aH k df λz d=>BZ y df λd t m=>BZ z df λd r i=>⟨a,o,b,h,p,m,i,q,g,j,t,r⟩
def lx(P:ed):kN:=tM (ae (KK P) 744) 2
theorem Ay(P:ed):(ae (KK P) 744).drop 2=[(lx P).stmt]:=by rfl'
theorem Dy(P:ed)(x:Str):(fns (bX P []) 40).E (lx P).a [.frame [("s", .str x)]]= .ok [] (.str "'") [.frame [("s", .str x)]]:=by rfl'
theorem Du(P:ed)(x:Str):(fns (bX P []) 40).E (lx P).o [.frame [("s", .str x)]]= .ok [] (.str x) [.frame [("s", .str x)]]:=by rfl'
theorem Dx(P:ed)(x:Str):(fns (bX P []) 40).E (lx P).b [.frame [("s", .str x)]]= .ok [] (.str "'") [.frame [("s", .str x)]]:=by rfl'
theorem Dw(P:ed):dt (lx P).o=false:=by rfl'
theorem Dv(P:ed):(lx P).ap.endLine=(lx P).p.line:=by rfl'
theorem qo(x y z:Str):(Hy x y z).length≤x.length+(x.length+1)*z.length:=by
 unfold Hy;have h1:=StrLaws.occ_length_le x y 0 x.length (x.length+1);have b:=congrArg Str.length (StrLaws.glued_between_self x y (x.length+1));rw [size_glued,J8,Nat.add_sub_cancel]at b;have h2:(I9.Str.occurrences x y 0 x.length (x.length+1)).length*z.length≤(x.length+1)*z.length:=Nat.mul_le_mul_right _ h1
 split
 ·exact Lle [_,_] [] 0 V0 (.a V0 V1) rfl
 ·rwa [size_glued _ _,J8 _ _ _,Nat.add_sub_cancel _ _]
  exact Lle [_,_,_,_,_] [Q1 (.a V0 V1) V2,Q0 V3 V4] 0 (.a V0 V3) (.a V2 V4) rfl b h2
theorem tL:∀{P:ed} {c:Cx} {j:KB} {s:dd} {x:Str} (G:aG c (bX P [])) (H:ac c (bX P []) j [.frame [("s", .str x)]] s) (e:x.length≤1000000),eo c.M c.A (un ((ae (KK P) 744).drop 2) c.env) (ea c (bX P []) j [.frame [("s", .str x)]] s 0 (.str ((("'":Str)++Hy x ("'":Str) ("'\"'\"'":Str))++("'":Str))) []) NoE s:=by
 refine' eI5;intro x s j c P G H e;have O:=bj G 40;rwa [Ay P];have f:(("'":Str)).length=1:=by rfl'
 have l:(("'\"'\"'":Str)).length=5:=by rfl'
 have b:(Hy x ("'":Str) ("'\"'\"'":Str)).length≤x.length+(x.length+1)*5:=by
  have:=qo x ("'":Str) ("'\"'\"'":Str);rw [l]at this;exact this
 have i:((("'":Str))==(("'\"'\"'":Str)))=false:=by decide+kernel
 refine pp (IJ ?_);rwa [Kd _ _ _ _ _];refine dV ?_;rwa [Kd _ _ _ _ _];refine dV ((O.E _).use H (Dy P x) trivial λU s1 E N C B=>dV (A9 ?_));refine ex (yB G N (Dw P) (Dv P) (Du P x) i (by rwa [l];exact Lle [_] [.h 0 6 0 V0 Z2] 0 (.a V0 (.w (.a V0 Z0) 5)) (.c 16777216) rfl e)) (λu2 s2 ⟨D,L,n,o⟩=>dV (Hc (J1 ?_))) λd d z=>z
 refine ex ((sn L (n.val B) o).use (vc:=[_]) rfl ⟨by rwa [f,HF];exact h9 (Hh b 1) (by exact Lle [_] [.h 0 6 0 V0 Z2] 0 (.a Z0 (.a V0 (.w (.a V0 Z0) 5))) (.c 16777216) rfl e),KP⟩) (λu3 s3 ⟨F,A,q,I⟩=>dV (A9 ?_)) λd d z=>z
 refine(O.E _).use A (Dx P x) trivial λu4 T r K m y=>dV (Hc (J1 ?_));have g:((("'":Str)++Hy x ("'":Str) ("'\"'\"'":Str))).length≤1+(x.length+(x.length+1)*5):=by
  rwa [z1 _ _,f];exact Lle [_,_] [Q0 V0 (.a V1 (.w (.a V1 Z0) 5))] 0 (.a Z0 V0) (.a Z0 (.a V1 (.w (.a V1 Z0) 5))) rfl b
 refine ex ((sn K (m.val I) y).use (vc:=[_]) rfl ⟨by rwa [f,HF];exact h9 (Nat.add_le_add_right g 1) (by exact Lle [_] [.h 0 6 0 V0 Z2] 0 (.a (.a Z0 (.a V0 (.w (.a V0 Z0) 5))) Z0) (.c 16777216) rfl e),KP⟩) (λu5 R t=> ?_) λd d z=>z
 obtain⟨k,J,u,p⟩:=t;exact⟨k,_,J,(((C.trans n).trans q).trans m).trans u,so _,rfl,p⟩
def Au:ay:=s1 (λx=>[x.length≤1000000]) λx=>(.str (br x))
theorem gA{c:Cx}{K:Gw}{w x:KC}{cfg:Cfg}{k:Nat}(T:ak c K w x)(D:Lev K w x cfg k)(y:av (k+1) c.A){f:cv}{n:Nat}{q:KA}(h:fdB K f q=true)(I:cfg.names=ce K f)(u:cfg.fi=n)(z:cfg.cells=[])
 {e:ay}{xsOf:List V→List V}(l:∀t,fdA K f=some t→∀H j d s i A vc r b,d.length=n→aq c.prog c.w (c.at H n) j d s→1≤s.toks→Vals (aa (c.at H n) j d s.heap) j i A→e i d= .ok vc r b→aw vc→fQ c (c.at H n) t ⟨A,[]⟩ q (xsOf i) j d s)
 (p:∀g i d vc r b j s1,d.length=n→e i d= .ok vc r b→aw vc→aG g cfg→g.d.ρ₀.length≤n→ak g K w x→av k g.A→g.d.B=c.d.B→ac g cfg j (d++[.frame (q.zip (xsOf i))]) s1→
  eo g.M g.A (un (ae K f) g.env) (ea g cfg j (d++[.frame (q.zip (xsOf i))]) s1 n r b) NoE s1):aI c f n e:=by
 refine au (eO h) λt F=> ?_;refine ab F.ob λo J E=> ?_;refine ng T D y J E F.body F.code (F.ok cfg I) F.par F.nd u z F.keep (l t F.isFd) λH L i d vc r b j s1 C O B G N=>p _ i d vc r b _ s1 C O B G (by show(c.d.ρ₀.take n).length≤n;rwa [p7];exact(GY _ _)) ?_ ?_ rfl N
 ·exact⟨⟨T.base.g,T.base.b⟩,T.K,T.nolim,T.handled⟩
 ·exact⟨by have:=y.1;show c.A.depth+1+k≤_;exact Lle [_,_] [Q0 (.a V0 (.a V1 Z0)) Z1] 0 (.a (.a V0 Z0) V1) Z1 rfl this,by have:=y.2;show c.A.units+3+5*k+100≤_;exact Lle [_,_] [Q0 (.a (.a V0 (.m 5 (.a V1 Z0))) Z10) Z11] 0 (.a (.a (.a V0 Z12) (.m 5 V1)) Z10) Z11 rfl this⟩
def yv:ay:=s1 (λx=>[x.length≤1000000,0 < x.length,dL x=false]) λx=>(.str ((("'":Str)++Hy x ("'":Str) ("'\"'\"'":Str))++("'":Str)))
theorem CA(P:ed)(x:Str):am (fns (bX P [(733011012,true)]) 40) ((ae (KK P) 744).take 1) [.frame [("s", .str x)]]=Res.ok [x.length≤16777216,(ct x.length !=ct 0)=true] Fl.next [AO.frame [("s",V.str x)]]:=by rfl'
theorem AG:∀{P:ed} {i j:KC} {c:Cx} (u:aR (KK P) i j) (T:ak c (KK P) i j) (t:av 1 c.A),aI c 744 0 yv:=by
 refine' eI4;intro c j i P u T t;have E:∀f,Lev (KK P) i j (bX P f) 0:=λf=>ec (bh u (cS P)) rfl rfl rfl rfl rfl rfl (cb.cons (λb T b=>xF T) cb.nil);refine gA (cfg:=bX P []) (k:=0) (xsOf:=id) T (E []) t (xK P) rfl rfl rfl (λZ e H L A s C N vc r n q R F g l d=> ?_) λc' C A vc r n L s1 q l d G W K b b m=> ?_
 ·revert g;refine fq l λb g=> ?_
  ·exact eg R F g (Vals.len _ _ g) (k6 (λv=>(BT P v).at e) N (Vals.len _ _ g))
 ·rw [f2 q]at l m⊢
  revert d m;refine fq l λx d m=> ?_
  ·(refine gl d ?_;clear d;intro h1 h2 h3 b)
   have p:dK (bX P []) (bX P [(733011012,true)]):=rfl;have B:=G.re p;rwa [show ae (KK P) 744=(ae (KK P) 744).take 1++(ae (KK P) 744).drop 1 from(Gg ..).symm];have w:(ct x.length !=ct 0)=true:=bne_iff_ne.mpr (by intro h;have:x.length=0:=ct.inj h;exact Lno [_] [Q0 (.a Z3 Z0) V0,Q1 V0 Z3] rfl h2 this)
   refine dR B 40 (m.re p) (CA P x) ⟨h9 h1 (by decide),w,KP⟩ λI s2 O U=> ?_
   refine yp G (λa o e=> ?_) (O.re p.symm) (h9 h1 (by decide)) h2 h3 λJ s3 D y=> ?_
   ·exact K.K a o e
   ·exact ex (tL G D h1) (λY s4 h=>ea.trans (U.trans y) h) λb b z=>z
theorem C9{P:ed}{h i:KC}(d:aR (KK P) h i){c:Cx}(T:ak c (KK P) h i)(b:av 1 c.A):aI c 744 0 Au:=by
 refine(pu d T b).each λo m vc r k n l a=> ?_;revert a;refine fq l λx a=> ?_
 ·cases f:dL x with
  |true=>exact⟨_,pu d T b,_,rfl,a.1, .inr f,KP⟩
  |false=>
   by_cases j:x.length=0
   ·exact⟨_,pu d T b,_,rfl,a.1, .inl j,KP⟩
   ·have g:((x.length:Int) !=0)=true:=bne_iff_ne.mpr (by simp [*])
    have e:br x=(("'":Str)++Hy x ("'":Str) ("'\"'\"'":Str))++("'":Str):=by
     unfold br;rw [if_pos g,f];rfl
    rw [e];exact⟨_,AG d T b,_,rfl,a.1,uV (bne_iff_ne.mp g),f,KP⟩
noncomputable def MS:List (cv×Str×cv):=[(597,"_StringIO__check",381),(597,"_StringIO__translated",374),(597,"read",543),(597,"close",442),
 (732,"get_token",693),(732,"read_token",700),(732,"push_source",679),(732,"pop_source",686),(732,"error_leader",715)]
noncomputable def PS:List (cv×Str):=[(597,"_StringIO__newline"),(597,"_StringIO__buf"),(597,"_StringIO__pos"),
 (732,"instream"),(732,"infile"),(732,"posix"),(732,"eof"),(732,"commenters"),(732,"wordchars"),(732,"whitespace"),(732,"whitespace_split"),(732,"quotes"),(732,"escape"),(732,"escapedquotes"),
 (732,"state"),(732,"pushback"),(732,"lineno"),(732,"debug"),(732,"token"),(732,"filestack"),(732,"source"),(732,"_punctuation_chars")]
theorem mm(P:ed):MS.all (λx=>jV (KK P) x.1 x.2.1 x.2.2)=true:=by rfl'
theorem ku(P:ed):PS.all (λx=>iM (KK P) x.1 x.2)=true:=by rfl'
theorem m7{C:cv}{n:Str}{f:cv}:∀{l:List (cv×Str×cv)},lkM C n l=some f→(C,n,f)∈l:=by
 intro e
 induction e with
 |nil=>
  intro h;exact noS h
 |cons d r c=>
  obtain⟨a,b,v⟩:=d;intro h;unfold lkM at h;rcases q:Nat.beq C a&&af n b with _|_
  ·rw [q]at h;exact .tail _ (c h)
  ·rw [q]at h;obtain rfl:=(ds h).symm
   refine ai (vl.mp q) λi g=> ?_;rwa [ui i,aB.mp g];exact .head _
theorem lE{C:cv}{n:Str}:∀{l:List (cv×Str)},jZ C n l=true→(C,n)∈l:=by
 intro e
 induction e with
 |nil=>
  intro h;exact ftB h
 |cons d r c=>
  obtain⟨a,b⟩:=d;intro h;unfold jZ at h;rcases q:Nat.beq C a&&af n b with _|_
  ·rw [q]at h;exact .tail _ (c h)
  ·refine ai (vl.mp q) λg f=> ?_
   rwa [ui g,aB.mp f];exact .head _
theorem k8{K:Gw}{a:Cfg}(h1:a.meths.all (λx=>jV K x.1 x.2.1 x.2.2)=true)(h2:a.plain.all (λx=>iM K x.1 x.2)=true)(h3:∀n C g m b,lkS n a.owns=some (C,g,m,b)→eZ K C n=true)(d:a.sets=[]):sJ K a:=
 ⟨λc c c h=>Gf.mp h1 _ (m7 h),λc c h=>Gf.mp h2 _ (lE h),h3,λn C h=>(by rw [d]at h;exact noS h)⟩
theorem gD{P:ed}{d e:KC}{a:Cfg}{k:Nat}(j:i3 d e a.globs)(h1:a.meths=MS)(h2:a.plain=PS)(h3:a.props=[])(f:a.owns=[])(p:a.wns=[])(o:a.sets=[])(l:cb (KK P) d e k a.fns):Lev (KK P) d e a k:=
 ⟨j,k8 (by rwa [h1];exact mm P) (by rwa [h2];exact ku P) (λn C g m b h=>by rw [f]at h;exact noS h) o,l,λc i i C n k h=>(by rw [h3]at h;exact noS h),λx g b h=>(by rw [p]at h;exact noS h),f⟩
noncomputable def gN(a:V)(b:Int):AO:= .ns [("_StringIO__newline", .str "\n"),("_StringIO__buf",a),("_StringIO__pos", .int b)]
def sio(b:Str)(p:Nat):AO:=gN (.str b) (ct p)
noncomputable def rd(b:Str)(p:Nat):Str:=match b.cps[p]? with
 |some c=>⟨#[c]⟩
 |none=>GZ
noncomputable def nx(b:Str)(p:Nat):Nat:=if p < b.length then p+1 else p
def eE(P:ed)(n f:Nat)(a:List (Nat×Bool))(b:List (cv×Nat×ay)):Cfg:={fi:=n,names:=ce (KK P) f,globs:=G0,meths:=MS,plain:=PS,orc:=a,fns:=b}
def cK(K:Gw)(f:cv)(c:KH)(a:List (Str×da)):Prop:=∀S,(fdA K f).map (λb=>peek K S (HK b ⟨c,[]⟩))=some (some a)
theorem f5{c:Cx}{K:Gw}{d:Bd}{j:Gx}{f:cv}{l us:KH}{g:KA}{i:KN}{a:KB}{b:KM}{s:dd}(X:K.In s.heap)(R:aq c.prog c.w d a b s)(n:1≤s.toks)(o:Vals (aa d a b s.heap) a i us)(m:us.length=g.length)
 (h:cK K f l (g.zip us))(e:fdA K f=some j):fQ c d j ⟨l,[]⟩ g i a b s:=λA E Q k=>
 kp_binds X (λS=>by have:=h S;rw [e]at this;exact ds this) _ _ _ _ (k us s R (Ext.refl ..) n o m)
theorem eN{c:Cx}{K:Gw}{I J:KC}{cfg cfg':Cfg}{k:Nat}(T:ak c K I J)(Y:Lev K I J cfg k)(A:dK cfg cfg')(hr:av (k+1) c.A){f:cv}{n:Nat}{p:KA}(h:fdB K f p=true)(hn:cfg.names=ce K f)(u:cfg.fi=n)(C:cfg.cells=[])
 {X X':KN}{M E:KM}{H:KG}{r:V}(Z:X'.length=p.length)
 (j:∀F q (x:KH),Vals F q X x→∃B,Vals F q X' B∧cK K f x (p.zip B))
 {vc:KG}{v:Fl}{i:KM}(e:am (fns cfg' 40) (ae K f) (M++[.frame (p.zip X')])= .ok vc v i)(N:aw H→aw vc)(hf:v= .ret r∨(v= .next∧r= .none))(P:Iy n i.length=true)(ht:i.take n=E):aI c f n (sAt X M H r E):=by
 refine gA T Y hr h hn u C (xsOf:=λd=>X') (λfd W H' q L s U x w O t m R y hx D b=> ?_) λc' U L w O t q s1 m D b G d d d d H1=> ?_
 ·cases D
  (refine ax b ?_;clear b;intro l g d;subst l;subst g);refine ab (j _ _ _ hx) λB h1 h2=> ?_;exact f5 (λa o e=>R.base a o (T.K a o e)) R y h1 ((Vals.len _ _ h1).trans Z) h2 W
 ·cases D
  (refine ax b ?_;clear b;intro l g hH;subst l;subst g);exact ex (iJ (G.re A) 40 (H1.re A) e (N hH) hf (ro P) ht) (λd d z=>z.re A.symm) λd d z=>z
theorem nq{K:Gw}{f:cv}{a:Str}{x:V}(h:∀v,cK K f [v] [(a,v)]):∀F c (d:KH),Vals F c [x] d→∃g,Vals F c [x] g∧cK K f d ([a].zip g):=λF c d e=>by
 (refine ab (Vals.one e) λu b i=> ?_;subst b);exact(ah ([u]) e (h u))
theorem iV{K:Gw}{f:cv}{a b:Str}{x y:V}(h:∀v w,cK K f [v,w] [(a,v),(b,w)]):∀F d (e:KH),Vals F d [x,y] e→∃i,Vals F d [x,y] i∧cK K f e ([a,b].zip i):=λF d e g=>by
 (refine bg (Vals.two g) λu w c k j=> ?_;subst c);exact(ah ([u,w]) g (h u w))
theorem Fd(P:ed):fdB (KK P) 63 ["n","what"]=true:=by rfl'
theorem D6(P:ed):fdB (KK P) 381 ["self"]=true:=by rfl'
theorem sb(P:ed):fdB (KK P) 543 ["self","size"]=true:=by rfl'
theorem D5(P:ed):fdB (KK P) 442 ["self"]=true:=by rfl'
theorem b63(P:ed)(v w:da):cK (KK P) 63 [v,w] [("n",v),("what",w)]:=λS=>by rfl'
theorem FB(P:ed)(v:da):cK (KK P) 381 [v] [("self",v)]:=λS=>by rfl'
theorem w9(P:ed)(v w:da):cK (KK P) 543 [v,w] [("self",v),("size",w)]:=λS=>by rfl'
theorem FA(P:ed)(v:da):cK (KK P) 442 [v] [("self",v)]:=λS=>by rfl'
theorem r63(P:ed)(x:Str):am (fns (eE P 0 63 [] []) 40) (ae (KK P) 63) [.frame [("n", .int 1),("what", .str x)]]= .ok [] (.ret (.int 1)) [.frame [("n", .int 1),("what", .str x)]]:=by rfl'
theorem EG(P:ed)(b:Str)(p:Nat):am (fns (eE P 2 381 [] []) 40) (ae (KK P) 381) [.inst 597 1,sio b p, .frame [("self", .ref 0)]]= .ok [] .next [.inst 597 1,sio b p, .frame [("self", .ref 0)]]:=by rfl'
theorem EF(P:ed)(b:Str)(p:Nat):am (fns (eE P 2 442 [] []) 40) (ae (KK P) 442) [.inst 597 1,sio b p, .frame [("self", .ref 0)]]= .ok [] .next [.inst 597 1,gN .none (ct p), .frame [("self", .ref 0)]]:=by rfl'
def tz:ay:=λb a=>hdL b λv q=>one q λw=>d5 v λi=>b9 w λc=> .ok [i=1] (.int 1) a
def tB:ay:=λc a=> .ok [c=[.ref 0],∃b p,a=[.inst 597 1,sio b p]] .none a
noncomputable def bOf(a:KM):Str:=match(a[1]? :Option AO)with
 |some (.ns fs)=>(match((fs[1]?).map Jl:Option V)with
  |some (.str b)=>b
  |_=>"")
 |_=>""
noncomputable def pOf(a:KM):Nat:=match(a[1]? :Option AO)with
 |some (.ns fs)=>(match((fs[2]?).map Jl:Option V)with
  |some (.int i)=>i.toNat
  |_=>0)
 |_=>0
def l7:ay:=λb a=> .ok [b=[.ref 0],a=[.inst 597 1,sio (bOf a) (pOf a)]] .none [.inst 597 1,gN .none (ct (pOf a))]
def xr:ay:=λb a=> .ok [b=[.ref 0, .int 1],a=[.inst 597 1,sio (bOf a) (pOf a)],(bOf a).length≤1000000] (.str (rd (bOf a) (pOf a))) [.inst 597 1,sio (bOf a) (nx (bOf a) (pOf a))]
section
variable{P:ed}{a b:KC}(d:aR (KK P) a b){c:Cx}(T:ak c (KK P) a b)
theorem EU(d:aR (KK P) a b)(T:ak c (KK P) a b)(u:av 1 c.A):aI c 63 0 tz:=by
 have F:∀x,aI c 63 0 (sAt [.int 1, .str x] [] [] (.int 1) []):=λx=>eN (cfg:=eE P 0 63 [] []) (cfg':=eE P 0 63 [] []) (k:=0) T (gD (bh d (cS P)) rfl rfl rfl rfl rfl rfl cb.nil) rfl u (Fd P) rfl rfl rfl rfl (iV (b63 P)) (r63 P x) (λh=>h) (.inl rfl) rfl rfl;refine(F "").each λA y vc r n o f m=> ?_;rw [f2 o]at f⊢;refine gf f λv q e f=>ge f λw s f=>jg f λi t f=>ez f λx p f=> ?_;subst e;subst s;subst t;subst p;(refine ax (Mine.Res.ok.inj f) λg l j=> ?_;subst g;subst l;subst j);(refine ai m ?_;clear m;intro g z;subst g);exact⟨_,F x,_,rfl,rfl,rfl,KP⟩
theorem Df(d:aR (KK P) a b)(T:ak c (KK P) a b)(o:av 1 c.A):aI c 381 2 tB:=by
 have F:∀f p,aI c 381 2 (sAt [.ref 0] [.inst 597 1,sio f p] [] .none [.inst 597 1,sio f p]):=λf p=>eN (cfg:=eE P 2 381 [] []) (cfg':=eE P 2 381 [] []) (k:=0) T (gD (bh d (cS P)) rfl rfl rfl rfl rfl rfl cb.nil) rfl o (D6 P) rfl rfl rfl rfl (nq (FB P)) (EG P f p) (λh=>h) (.inr ⟨rfl,rfl⟩) rfl rfl;refine(F "" 0).each λu q vc r m t n l=> ?_;(refine ax (Mine.Res.ok.inj n) λi g j=> ?_;subst i;subst g;subst j);refine ax l λi g s=>nw g λf p e=> ?_;subst i;subst e;exact⟨_,F f p,_,rfl,rfl,rfl,KP⟩
theorem De(d:aR (KK P) a b)(T:ak c (KK P) a b)(o:av 1 c.A):aI c 442 2 l7:=by
 have F:∀f p,aI c 442 2 (sAt [.ref 0] [.inst 597 1,sio f p] [] .none [.inst 597 1,gN .none (ct p)]):=λf p=>eN (cfg:=eE P 2 442 [] []) (cfg':=eE P 2 442 [] []) (k:=0) T (gD (bh d (cS P)) rfl rfl rfl rfl rfl rfl cb.nil) rfl o (D5 P) rfl rfl rfl rfl (nq (FA P)) (EF P f p) (λh=>h) (.inr ⟨rfl,rfl⟩) rfl rfl;refine(F "" 0).each λu q vc r m t n l=> ?_;(refine ax (Mine.Res.ok.inj n) λg j i=> ?_;subst g;subst j;subst i);(refine ax l ?_;clear l;intro g e s;subst g);exact⟨_,F _ _,_,rfl,rfl,e,KP⟩
end
theorem nG(x:Str){a b:Nat}(c:a≤b)(d:b≤x.length):i0 x (some (ct a)) (some (ct b))=⟨((x.cps.toList.drop a).take (b -a)).toArray⟩:=StrLaws.sliceText_nat x c d
theorem lZ:∀(y:Str),i0 (y++(" ":Str)) none (some (kV 0))=y:=by
 refine' eI1;intro y;have d:(y++(" ":Str)).length=y.length+1:=by rwa [z1 _ _];rfl
 have e:i0 (y++(" ":Str)) none (some (kV 0))=i0 (y++(" ":Str)) (some (ct 0)) (some (ct y.length)):=by
  unfold i0;rwa [StrLaws.sliceIdx_none_lo _ _];have:IZ (some 0) (some (kV 0)) 1 (y++(" ":Str)).length=IZ (some (ct 0)) (some (ct y.length)) 1 (y++(" ":Str)).length:=by
   rwa [d];unfold IZ;have a:(kV 0:Int) < 0:=by decide
   have b:¬((ct y.length:Int) < 0):=by simp
   simp only [a,b,if_true,if_false];rwa [show(kV 0+((y.length+1:Nat):Int))=ct y.length from by simp;simp+arith]
   rfl
  (rwa [this];rfl)
 rwa [e,nG _ (so _) (by rw [d];exact Lle [_] [] 0 V0 (.a V0 Z0) rfl)]
 apply Str.ext'
 show(((y.cps++ #[32]).toList.drop 0).take (y.length -0)).toArray=y.cps;simp [Str.length]
theorem o6{b:Str}{p q:Nat}(e:p < b.length)(f:q=p+1):i0 b (some (ct p)) (some (ct q))=rd b p:=by
 subst f;rwa [nG b (GL _) e];unfold rd;have d:p < b.cps.size:=e;rwa [Hm d,Je (by rw [iy];exact d)]
 rwa [show p.succ -p=1 by exact Leq [_,_] [.h 4 1 1 (.a V0 V1) (.a V1 Z0)] 0 V0 Z0 rfl (pm (Lle [_] [] 0 V0 (.a V0 Z0) rfl))]
 rfl
theorem tQ(b:Str)(p:Nat):(rd b p).length≤1:=by
 unfold rd;split
 ·exact fx 1
 ·exact so 1
theorem tS{b:Str}{p:Nat}(h:b.length≤p):rd b p=("":Str):=by
 unfold rd;rwa [Array.getElem?_eq_none (by exact h)];rfl
def fsR:List (cv×Nat×ay):=[(63,0,tz),(381,2,tB)]
def iq(P:ed)(a:List (Nat×Bool)):Cfg:=eE P 2 543 a fsR
def vcR(b:Str)(p:Nat):List Prop:=[true=true,true=true,ct 1=ct 1,true=true,true=true,true=true,true=true,[V.ref 0]=[V.ref 0],∃c a,[AO.inst 597 1,sio b p]=[AO.inst 597 1,sio c a],true=true,true=true,b.length≤16777216]
theorem oR{b:Str}{p:Nat}(h:b.length≤1000000):aw (vcR b p):=⟨rfl,rfl,rfl,rfl,rfl,rfl,rfl,rfl,(sG b p rfl),rfl,rfl,by exact Lle [_] [Q0 V0 Z2] 0 V0 (.c 16777216) rfl h,KP⟩
noncomputable def kG(l:KL):AO:= .frame (("self", .ref 0)::("size", .int 1)::l)
theorem CX(P:ed)(b:Str)(p:Nat):am (fns (iq P [(356011024,true)]) 40) (ae (KK P) 543) [.inst 597 1,sio b p,kG []]=
 .ok (vcR b p++[decide (ct p≥ct b.length)=true]) (.ret (.str "")) [.inst 597 1,sio b p,kG [("start", .int (ct p)),("stop", .int (ct b.length))]]:=by rfl'
theorem CV(P:ed)(b:Str)(p:Nat):am (fns (iq P [(356011024,false),(358025044,true)]) 40) (ae (KK P) 543) [.inst 597 1,sio b p,kG []]=
 .ok (vcR b p++[decide (ct p≥ct b.length)=false,decide (ct (p+1) < ct b.length)=true,b.length≤16777216,(i0 b (some (ct p)) (some (ct (p+1)))).length+1≤16777216,
  (i0 b (some (ct p)) (some (ct (p+1)))++(" ":Str)).length≤16777216]) (.ret (.str (i0 (i0 b (some (ct p)) (some (ct (p+1)))++(" ":Str)) none (some (kV 0)))))
  [.inst 597 1,sio b (p+1),kG [("start", .int (ct p)),("stop", .int (ct (p+1)))]]:=by rfl'
theorem CW(P:ed)(b:Str)(p:Nat):am (fns (iq P [(356011024,false),(358025044,false)]) 40) (ae (KK P) 543) [.inst 597 1,sio b p,kG []]=
 .ok (vcR b p++[decide (ct p≥ct b.length)=false,decide (ct (p+1) < ct b.length)=false,b.length≤16777216,(i0 b (some (ct p)) (some (ct b.length))).length+1≤16777216,
  (i0 b (some (ct p)) (some (ct b.length))++(" ":Str)).length≤16777216]) (.ret (.str (i0 (i0 b (some (ct p)) (some (ct b.length))++(" ":Str)) none (some (kV 0)))))
  [.inst 597 1,sio b b.length,kG [("start", .int (ct p)),("stop", .int (ct b.length))]]:=by rfl'
theorem rN(y:Str)(h:y.length≤1):y.length+1≤16777216∧(y++(" ":Str)).length≤16777216:=by
 have:(y++(" ":Str)).length=y.length+1:=by rwa [z1 _ _];rfl
 exact⟨Lle [_] [Q0 V0 Z0] 0 (.a V0 Z0) (.c 16777216) rfl h,Lle [_,_] [Q0 V0 Z0,Q1 V1 (.a V0 Z0)] 0 V1 (.c 16777216) rfl h this⟩
theorem Dd:∀{P:ed} {i j:KC} {c:Cx} (m:aR (KK P) i j) (T:ak c (KK P) i j) (l:av 2 c.A),aI c 543 2 xr:=by
 refine' eI4;intro c j i P m T l;have o:∀g,Lev (KK P) i j (iq P g) 1:=λg=>gD (bh m (cS P)) rfl rfl rfl rfl rfl rfl (cb.cons (λf T r=>EU m T r) (cb.cons (λf T r=>Df m T r) cb.nil));have F:∀b p (h:b.length≤1000000),aI c 543 2 (sAt [.ref 0, .int 1] [.inst 597 1,sio b p] [] (.str (rd b p)) [.inst 597 1,sio b (nx b p)]):=by
  intro b p h
  by_cases h1:b.length≤p
  ·rwa [tS h1,show nx b p=p from if_neg (by simp [*])]
   exact eN (cfg:=iq P []) (cfg':=iq P _) (k:=1) T (o _) rfl l (sb P) rfl rfl rfl rfl (iV (w9 P)) (CX P b p) (λf=>aj.mpr ⟨oR h,decide_eq_true (Gi.mpr h1),KP⟩) (.inl rfl) rfl rfl
  ·have x:nx b p=p+1:=if_pos (by exact Lle [_,_] [.h 3 1 0 V0 V1] 0 (.a V1 Z0) V0 rfl h1)
   by_cases h2:p+1 < b.length
   ·have e:=o6 (b:=b) (p:=p) (by exact Lle [_,_] [Q0 (.a (.a V0 Z0) Z0) V1] 0 (.a V0 Z0) V1 rfl h2) rfl
    have r:=CV P b p;rw [e,lZ]at r;refine ai (rN _ (tQ b p)) λu t=> ?_;rwa [x];exact eN (cfg:=iq P []) (cfg':=iq P _) (k:=1) T (o _) rfl l (sb P) rfl rfl rfl rfl (iV (w9 P)) r (λf=>aj.mpr ⟨oR h,decide_eq_false (λz=>h1 (Gi.mp z)),decide_eq_true (Hw.mpr h2),by exact Lle [_] [Q0 V0 Z2] 0 V0 (.c 16777216) rfl h,u,t,KP⟩) (.inl rfl) rfl rfl
   ·have e:=o6 (b:=b) (p:=p) (q:=b.length) (by exact Lle [_,_] [.h 3 1 0 V0 V1] 0 (.a V1 Z0) V0 rfl h1) (by exact Leq [_,_] [.h 3 0 1 V0 V1, .h 3 1 0 (.a (.a V1 Z0) Z0) V0] 0 V0 (.a V1 Z0) rfl h1 h2)
    have r:=CW P b p;rw [e,lZ]at r;refine ai (rN _ (tQ b p)) λu t=> ?_;rwa [x,show p+1=b.length by exact Leq [_,_] [.h 3 1 0 V0 V1, .h 3 0 1 (.a (.a V1 Z0) Z0) V0] 0 (.a V1 Z0) V0 rfl h1 h2]
    exact eN (cfg:=iq P []) (cfg':=iq P _) (k:=1) T (o _) rfl l (sb P) rfl rfl rfl rfl (iV (w9 P)) r (λf=>aj.mpr ⟨oR h,decide_eq_false (λz=>h1 (Gi.mp z)),decide_eq_false (λz=>h2 (Hw.mp z)),by exact Lle [_] [Q0 V0 Z2] 0 V0 (.c 16777216) rfl h,u,t,KP⟩) (.inl rfl) rfl rfl
 refine(F "" 0 (by decide)).each λD B vc r y C A w=> ?_
 (refine ax (Mine.Res.ok.inj A) λd s n=> ?_;subst d;subst s;subst n);(refine gl w ?_;clear w;intro d e h f;subst d);exact⟨_,F _ _ h,_,rfl,rfl,e,KP⟩
theorem D3(P:ed):fdB (KK P) 663 ["self"]=true:=by rfl'
theorem Fy(P:ed)(v:da):cK (KK P) 663 [v] [("self",v)]:=λS=>by rfl'
set_option genInjectivity false in
structure kO where
 n:Str
 p1:nR
 p2:nR
 p3:nR
deriving Nonempty
noncomputable def kO.stmt(i:kO):k0:= .Return (some (.Attribute (.Name "self" i.p1) i.n i.p2)) i.p3
def tN(l:List k0):kO:=aHd l df λs=>sC s df λe c=>aAt e df λo n b=>xQ o df λd a=>⟨n,a,b,c⟩
def vV(P:ed):kO:=tN (ae (KK P) 663)
theorem zM(P:ed):ae (KK P) 663=[(vV P).stmt]∧(vV P).n="_punctuation_chars":=⟨by rfl',by rfl'⟩
def BJ(P:ed)(n:Nat):Cfg:=eE P n 663 [] []
theorem yG(P:ed):(JN (KK P) 732 "punctuation_chars",JR (KK P) 732,Ih (KK P) (.ref 732) "punctuation_chars",specialIn (KK P) (.ref 664) "__get__",takesIn (KK P) (.ref 664),(clsIn (KK P) 732).isSome,(recIn (KK P) 664 "property").map (·.head?))=
 (true,true,some (some (.ref 664)),some (some (.builtin "property.__get__")),some true,true,some (some (.ref 663))):=by rfl'
noncomputable def PR:List (cv×Str×Str):=[(732,"punctuation_chars","_punctuation_chars")]
theorem Ds(P:ed):((732,"_punctuation_chars"):cv×Str)∈PS:=by unfold PS;trivial
theorem kx:∀{P:ed} {mg Y:KC} {c:Cx} {h:Cfg} (Tp:aR (KK P) mg Y) (T:ak c (KK P) mg Y) (hr:av 1 c.A) (hp:h.props=PR),qX c h:=by
 refine' eI5;intro h c Y mg P Tp T hr hp;intro C n k p y O s i j fs v a H hi hj hl ha;rw [hp]at p;unfold PR lkM at p;rcases q:Nat.beq C 732&&af n "punctuation_chars" with _|_
 ·rw [q]at p;exact noS p
 rw [q]at p;obtain rfl:=ds p;refine ai (vl.mp q) λq1 q2=> ?_;have hC:=ui q1;have hn:=aB.mp q2;subst hC;subst hn;have X:(KK P).In s.heap:=λa o e=>H.rep.base _ _ (T.K a o e);refine nv (H.inst hi hj ha) λdx sl es m h1 I h2 E=> ?_;have e:=yG P;have W:JN (KK P) 732 "punctuation_chars"=true:=congrArg (λz=>z.1) e;have e3:Ih (KK P) (.ref 732) "punctuation_chars"=some (some (.ref 664)):=congrArg (λz=>z.2.2.1) e;have e4:specialIn (KK P) (.ref 664) "__get__"=some (some (.builtin "property.__get__")):=congrArg (λz=>z.2.2.2.1) e;have e5:takesIn (KK P) (.ref 664)=some true:=congrArg (λz=>z.2.2.2.2.1) e;have e6:(clsIn (KK P) 732).isSome=true:=congrArg (λz=>z.2.2.2.2.2.1) e;have e7:(recIn (KK P) 664 "property").map (·.head?)=some (some (.ref 663)):=congrArg (λz=>z.2.2.2.2.2.2) e;refine ab (mr.mp e7) λlr a5 J=> ?_;obtain⟨l,w⟩:∃l,lr= .ref 663::l:=by
  induction lr using kv with
  |nil=>exact noS J
  |cons x r=>obtain rfl:=ds J;exact⟨r,rfl⟩
 subst w;have g:=JE W;refine get_bind X I g.1 (findObj_data e6 e3 e4 e5) g.2 (HJ (prop_get (s:={s with toks:=s.toks+1}) X a5 ?_))
 refine ai (H.same (s':={s with toks:=s.toks+1}) rfl rfl rfl (oa H.tk)) λH1 X1=> ?_
 refine au (eO (D3 P)) λfd F=> ?_;refine ab F.ob λo ho R=> ?_;have K:=F.ok (BJ P 0) rfl;have D:=Fy P (.ref a);have Z:∀d:Gm,(∀b o,s.heap.get? b=some o→d.get? b=some o)→s.heap.objs.size≤d.objs.size→∀k,1≤k→∀u,Val (aa c.d y O s.heap) y v u→
  aF c h y O s O (λF y x=>Val F y v x) u {s with heap:=d,toks:=k}:=λd p hz k ht u U=>by
  refine ai (H.rep.grow (s':={s with heap:=d,toks:=k}) p hz rfl rfl) λR2 X2=> ?_
  exact⟨y,⟨R2,ht,H.fr,H.cl⟩,X2,X2.val U⟩
 refine IR (by have:=hr.1;show c.A.depth < _;exact this) (X _ _ ho) R K.co K.gen F.body (Jv X F.code) (kp_binds (s:={s with toks:=s.toks+1}) X (λS=>by have:=D S;rw [F.isFd]at this;exact ds this) _ _ _ _ ?_)
 refine J2 K.nocell (λx hx=>F.par _ (by obtain rfl:=mx.mp hx;exact .head _)) (λd B G=>⟨(T.nolim _ H.rep.base).fresh _ G,codeAny_func ?_⟩) K.kind
 have f:∀b o,s.heap.get? b=some o→d.get? b=some o:=λb o e=>G.extBut b o (HG (wl e)) (g0 _ e);refine dW (id B) λoL a6 ep hL L=> ?_;have t:s.heap.objs.size≤d.objs.size:=IM (wl hL);have X':(KK P).In d:=λa o e=>f _ _ (X a o e);have I':InstAt d a ⟨.ref 732,some dx, .plain,sl⟩ 732 (some (dictOf es m)):=⟨f _ _ I.at_,rfl,rfl,f _ _ h2⟩;have gL:=hY (n:="_punctuation_chars") E;rw [hl]at gL;(refine ab gL ?_;clear gL;intro u U hv);refine fK (jd (Gf.mp (ku P) (732,"_punctuation_chars") (Ds P))) λp1 p2 p3 L L=> ?_;refine ai (zM P) λa4 a0=> ?_;rwa [a4];have run:∀A E2,eo (GO c.prog c.w) A (un [(vV P).stmt] (Ju fd s.heap.objs.size 663)) (λfl N=>fl= .ret u∧N={s with heap:=d,toks:=s.toks+1+1+1}) E2 {s with heap:=d,toks:=s.toks+1+1}:=by
  intro A E2;refine pp (IJ (Attribute_any_ ?_ rfl));rwa [arm_eval_Name _ _ _];refine dV (Hc ?_);rwa [if_neg (by decide+kernel)]
  refine JW K.kind (F.par _ (.head _)) B rfl ?_;rwa [a0];exact get_value X' I' (JE p1).1 (findObj_own p2 p3 rfl U) (jt hv) ⟨rfl,rfl⟩
 refine ex (run _ _) (λfl N hZ=> ?_) λL L z=>sq z;(refine ai hZ ?_;clear hZ;intro W e2);subst W;subst e2;show eo _ _ (handedOut u) _ _ _;rwa [handedOut_of (jt hv)];exact eM (Z d f t _ (by exact Lle [_] [] 0 Z0 (.a (.a (.a V0 Z0) Z0) Z0) rfl) u hv)
section
variable{c:Cx}{a b:Cfg}{d:KB}{e:KM}{s:dd}
theorem sR{σ v:Type}(I:σ→Prop)(m:σ→Nat)(st:σ→List AO)(fin:v→List AO){j:Expr}{l:List k0}{r:nR}
 (p:∀x g i,I x→ac c a g (st x) i→eo c.M c.A (A0 j c.env (Gu j c.env)) (λf s2=>f=true∧eo c.M c.A (un l c.env) (λo s3=>
  (o= .next∧∃y h,I y∧m y < m x∧ac c a h (st y) s3∧Ext g (st x) i h (st y) s3)∨(o= .brk∧∃z h,ac c a h (fin z) s3∧Ext g (st x) i h (fin z) s3)) NoE s2) NoE i)
 (n:σ)(u:I n)(H:ac c a d (st n) s):eo c.M c.A (IP (.While j l [] r) c.env) (λo i=>o= .next∧∃z g,ac c a g (fin z) i∧Ext d (st n) s g (fin z) i) NoE s:=by
 refine JF (Ii (λk i=>∃x g,k=m x∧I x∧ac c a g (st x) i∧Ext d (st n) s g (st x) i) ?_ (m n) (nt n d rfl u H (Ext.refl ..)))
 rintro k i ⟨x,g,rfl,hx,Hx,X⟩
 refine ex (p x g i hx Hx) (λf s2 t=> ?_) λq q z=>sq z;(refine ai t ?_;clear t;intro w h2);subst w;refine ex h2 (λo s3 h3=> ?_) λq q z=>sq z;rcases h3 with⟨rfl,y,h,hy,hm,H3,X3⟩|⟨rfl,z,h,H3,X3⟩
 ·exact(ah (m y) hm (nt y h rfl hy H3 (X.trans X3)))
 ·exact(an rfl (eS z h H3 (X.trans X3)))
theorem ve:∀{q:Expr×List k0×nR} {vc:KG} {o:Fl} {j:KM} {Q:Hj→dd→Prop} (G:aG c a) (m:dK a b) (H:ac c a d e s) (f:whR b q e= .ok vc (some o) j) (r:aw vc) (k:∀i s3 l,(o= .next→i= .next)→(o= .brk→i= .brk)→ac c a l j s3→Ext d e s l j s3→Q i s3),eo c.M c.A (A0 q.1 c.env (Gu q.1 c.env)) (λg s2=>g=true∧eo c.M c.A (un q.2.1 c.env) Q NoE s2) NoE s:=by
 revert c a b d e s;refine' eI11;intro Q j o vc q s e d b a c G m H f r k;refine bB f r λO g B R h1 y t E=>((bj (G.re m) 40).T _).use (H.re m) h1 y λu s1 D K C A=> ?_;subst A
 induction u with
 |false=>cases t
 |true=>
  refine bB t E λN x J U h2 w F P=> ?_;cases F;refine⟨rfl,ex (dp (G.re m) 40 K h2 w) (λi s2 ⟨p,I,L,n⟩=>k i s2 p (λf=> ?_) (λf=> ?_) (I.re m.symm) (C.trans L)) λv v z=>z⟩
  ·subst f;induction i<;>first|rfl|(obtain⟨_,h,_⟩:=n;cases h)|cases n
  ·subst f;induction i<;>first|rfl|(obtain⟨_,h,_⟩:=n;cases h)|cases n
end
noncomputable def WC:Str:="abcdfeghijklmnopqrstuvwxyzABCDEFGHIJKLMNOPQRSTUVWXYZ0123456789_ßàáâãäåæçèéêëìíîïðñòóôõöøùúûüýþÿÀÁÂÃÄÅÆÇÈÉÊËÌÍÎÏÐÑÒÓÔÕÖØÙÚÛÜÝÞ"
def lxN(a:Str)(st:V)(c:Int)(d:Str)(b:cv):AO:= .ns [("instream", .ref 0),("infile", .str a),("posix", .bool true),("eof", .none),("commenters", .str "#"),("wordchars", .str WC),("whitespace", .str " \t\r\n"),("whitespace_split", .bool true),("quotes", .str "'\""),("escape", .str "\\"),("escapedquotes", .str "\""),("state",st),("pushback", .ref 4),("lineno", .int c),("debug", .int 0),("token", .str d),("filestack", .ref 5),("source", .str "use"),("_punctuation_chars", .str ""),("sourcehook", .adr b)]
def fsT:List (cv×Nat×ay):=[(543,2,xr)]
def c9(P:ed)(a:List (Nat×Bool)):Cfg:={fi:=6,names:=ce (KK P) 700,globs:=G0,meths:=MS,plain:=PS,props:=PR,orc:=a,fns:=fsT}
inductive LSt where
 |none|sp|word|q1|q2
deriving Nonempty
noncomputable def LSt.v:LSt→V
 | .none=> .none| .sp=> .str " "| .word=> .str "a"| .q1=> .str "'"| .q2=> .str "\""
def RT(b:Str)(p:Nat)(a:Str)(st:V)(e:Int)(f:Str)(d:cv)(c:KN):List AO:=[.inst 597 1,sio b p, .inst 732 3,lxN a st e f d, .deque [], .deque c]
noncomputable def aY(q:Bool)(l:KL):AO:= .frame (("self", .ref 2)::("quoted", .bool q)::("escapedstate", .str " ")::l)
def vT(b:Str)(p:Nat):List Prop:=[0≤16777216,true=true,true=true,[V.ref 0,V.int 1]=[V.ref 0,V.int 1],[AO.inst 597 1,sio b p]=[AO.inst 597 1,sio b p],b.length≤1000000,true=true,true=true]
theorem dz{b:Str}{p:Nat}(h:b.length≤1000000){l:KG}(a:aw l):aw (vT b p++l):=aj.mpr ⟨⟨by decide,rfl,rfl,rfl,rfl,h,rfl,rfl,KP⟩,a⟩
def ej(P:ed):Expr×List k0×nR:=dg (ae (KK P) 700) 2
section
variable(P:ed)(b:Str)(p:Nat)(c:Str)(e:Int)(d:Str)(f:cv)(a:KN)(q:Bool)(y:Str)
noncomputable def vK(y:Str):List Prop:=[y.length≤16777216,(ct y.length !=ct 0)=true]
theorem tA:whR (c9 P [(580015031,false),(588023031,false)]) (ej P) (RT b p c (.str " ") e "" f a++[aY false []])=
 .ok (vT b p++[(rd b p==("\n":Str))=false,(rd b p).length≤16777216,(ct (rd b p).length !=ct 0)=false]) (some .brk) (RT b (nx b p) c .none e "" f a++[aY false [("nextchar", .str (rd b p))]]):=by rfl'
theorem tK:whR (c9 P [(580015031,false)]) (ej P) (RT b p c .none e "" f a++[aY false []])=
 .ok (vT b p++[(rd b p==("\n":Str))=false]) (some .brk) (RT b (nx b p) c .none e "" f a++[aY false [("nextchar", .str (rd b p))]]):=by rfl'
def vC(y:Str)(l:KG):List Prop:=((y==("\n":Str))=false)::vK y++[aV " \t\r\n" y=false,aV "#" y=false,aV "\\" y=false]++l
theorem tC:whR (c9 P [(580015031,false),(588023031,true),(591021048,false),(598021048,false),(601036059,false),(604021047,true)]) (ej P) (RT b p c (.str " ") e "" f a++[aY false []])=
 .ok (vT b p++vC (rd b p) [aV WC (rd b p)=true]) (some .next) (RT b (nx b p) c (.str "a") e (rd b p) f a++[aY false [("nextchar", .str (rd b p))]]):=by rfl'
theorem tC2:whR (c9 P [(580015031,false),(588023031,true),(591021048,false),(598021048,false),(601036059,false),(604021047,false),(607021055,false),(610021044,false)]) (ej P) (RT b p c (.str " ") e "" f a++[aY false []])=
 .ok (vT b p++vC (rd b p) [aV WC (rd b p)=false,aV "" (rd b p)=false,aV "'\"" (rd b p)=false]) (some .next) (RT b (nx b p) c (.str "a") e (rd b p) f a++[aY false [("nextchar", .str (rd b p))]]):=by rfl'
theorem tD:whR (c9 P [(580015031,false),(588023031,true),(591021048,false),(598021048,false),(601036059,false),(604021047,false),(607021055,false),(610021044,true)]) (ej P) (RT b p c (.str " ") e "" f a++[aY false []])=
 .ok (vT b p++vC (rd b p) [aV WC (rd b p)=false,aV "" (rd b p)=false,aV "'\"" (rd b p)=true]) (some .next) (RT b (nx b p) c (.str (rd b p)) e "" f a++[aY false [("nextchar", .str (rd b p))]]):=by rfl'
def vF(y d:Str)(h g:Bool):List Prop:=((y==("\n":Str))=h)::vK y++[aV " \t\r\n" y=true,d.length≤16777216,(ct d.length !=ct 0)=g]
theorem tFn:whR (c9 P [(580015031,true),(651023031,true),(654021048,true),(658023033,true)]) (ej P) (RT b p c (.str "a") e d f a++[aY q [("nextchar", .str y)]])=
 .ok (vT b p++vF (rd b p) d true true) (some .brk) (RT b (nx b p) c (.str " ") (e+1) d f a++[aY q [("nextchar", .str (rd b p))]]):=by rfl'
theorem tFs:whR (c9 P [(580015031,false),(651023031,true),(654021048,true),(658023033,true)]) (ej P) (RT b p c (.str "a") e d f a++[aY q [("nextchar", .str y)]])=
 .ok (vT b p++vF (rd b p) d false true) (some .brk) (RT b (nx b p) c (.str " ") e d f a++[aY q [("nextchar", .str (rd b p))]]):=by rfl'
theorem tEn:whR (c9 P [(580015031,true),(651023031,true),(654021048,true),(658023033,false)]) (ej P) (RT b p c (.str "a") e d f a++[aY true [("nextchar", .str y)]])=
 .ok (vT b p++vF (rd b p) d true false) (some .brk) (RT b (nx b p) c (.str " ") (e+1) d f a++[aY true [("nextchar", .str (rd b p))]]):=by rfl'
theorem tEs:whR (c9 P [(580015031,false),(651023031,true),(654021048,true),(658023033,false)]) (ej P) (RT b p c (.str "a") e d f a++[aY true [("nextchar", .str y)]])=
 .ok (vT b p++vF (rd b p) d false false) (some .brk) (RT b (nx b p) c (.str " ") e d f a++[aY true [("nextchar", .str (rd b p))]]):=by rfl'
def vG(y:Str)(l:KG):List Prop:=((y==("\n":Str))=false)::vK y++[aV " \t\r\n" y=false,aV "#" y=false]++l
theorem tG:whR (c9 P [(580015031,false),(651023031,true),(654021048,false),(662021048,false),(679036059,true)]) (ej P) (RT b p c (.str "a") e d f a++[aY q [("nextchar", .str y)]])=
 .ok (vT b p++vG (rd b p) [aV "'\"" (rd b p)=true]) (some .next) (RT b (nx b p) c (.str (rd b p)) e d f a++[aY q [("nextchar", .str (rd b p))]]):=by rfl'
theorem tH:whR (c9 P [(580015031,false),(651023031,true),(654021048,false),(662021048,false),(679036059,false),(681036059,false),(684021047,true)]) (ej P) (RT b p c (.str "a") e d f a++[aY q [("nextchar", .str y)]])=
 .ok (vT b p++vG (rd b p) [aV "'\"" (rd b p)=false,aV "\\" (rd b p)=false,aV WC (rd b p)=true,d.length+(rd b p).length≤16777216]) (some .next) (RT b (nx b p) c (.str "a") e (d++rd b p) f a++[aY q [("nextchar", .str (rd b p))]]):=by rfl'
theorem tH2:whR (c9 P [(580015031,false),(651023031,true),(654021048,false),(662021048,false),(679036059,false),(681036059,false),(684021047,false),(684051074,false),(684105143,true)]) (ej P) (RT b p c (.str "a") e d f a++[aY q [("nextchar", .str y)]])=
 .ok (vT b p++vG (rd b p) [aV "'\"" (rd b p)=false,aV "\\" (rd b p)=false,aV WC (rd b p)=false,aV "'\"" (rd b p)=false,(!aV "" (rd b p))=true,d.length+(rd b p).length≤16777216]) (some .next) (RT b (nx b p) c (.str "a") e (d++rd b p) f a++[aY q [("nextchar", .str (rd b p))]]):=by rfl'
def vI(y z:Str)(g:Bool)(l:KG):List Prop:=((y==("\n":Str))=false)::vK y++[(y==z)=g]++l
theorem tI1:whR (c9 P [(580015031,false),(625023031,true),(629019041,true)]) (ej P) (RT b p c (.str "'") e d f a++[aY q [("nextchar", .str y)]])=
 .ok (vT b p++vI (rd b p) "'" true []) (some .next) (RT b (nx b p) c (.str "a") e d f a++[aY true [("nextchar", .str (rd b p))]]):=by rfl'
theorem tI2:whR (c9 P [(580015031,false),(625023031,true),(629019041,true)]) (ej P) (RT b p c (.str "\"") e d f a++[aY q [("nextchar", .str y)]])=
 .ok (vT b p++vI (rd b p) "\"" true []) (some .next) (RT b (nx b p) c (.str "a") e d f a++[aY true [("nextchar", .str (rd b p))]]):=by rfl'
theorem tJ1:whR (c9 P [(580015031,false),(625023031,true),(629019041,false),(636036059,false)]) (ej P) (RT b p c (.str "'") e d f a++[aY q [("nextchar", .str y)]])=
 .ok (vT b p++vI (rd b p) "'" false [aV "\\" (rd b p)=false,d.length+(rd b p).length≤16777216]) (some .next) (RT b (nx b p) c (.str "'") e (d++rd b p) f a++[aY true [("nextchar", .str (rd b p))]]):=by rfl'
theorem tJ2:whR (c9 P [(580015031,false),(625023031,true),(629019041,false),(636036059,false)]) (ej P) (RT b p c (.str "\"") e d f a++[aY q [("nextchar", .str y)]])=
 .ok (vT b p++vI (rd b p) "\"" false [aV "\\" (rd b p)=false,d.length+(rd b p).length≤16777216]) (some .next) (RT b (nx b p) c (.str "\"") e (d++rd b p) f a++[aY true [("nextchar", .str (rd b p))]]):=by rfl'
theorem AC(st:V):am (fns (c9 P []) 40) ((ae (KK P) 700).take 2) (RT b p c st e d f a++[.frame [("self", .ref 2)]])= .ok [] .next (RT b p c st e d f a++[aY false []]):=by rfl'
theorem zA(st:V):am (fns (c9 P []) 40) ((ae (KK P) 700).drop 3) (RT b p c st e d f a++[aY true [("nextchar", .str y)]])= .ok [] (.ret (.str d)) (RT b p c st e "" f a++[aY true [("nextchar", .str y),("result", .str d)]]):=by rfl'
theorem zy(st:V):am (fns (c9 P [(700044056,false)]) 40) ((ae (KK P) 700).drop 3) (RT b p c st e d f a++[aY false [("nextchar", .str y)]])= .ok [(d==("":Str))=false] (.ret (.str d)) (RT b p c st e "" f a++[aY false [("nextchar", .str y),("result", .str d)]]):=by rfl'
theorem zB(st:V):am (fns (c9 P [(700044056,true)]) 40) ((ae (KK P) 700).drop 3) (RT b p c st e d f a++[aY false [("nextchar", .str y)]])= .ok [(d==("":Str))=true] (.ret .none) (RT b p c st e "" f a++[aY false [("nextchar", .str y),("result", .none)]]):=by rfl'
theorem DE:iP (ae (KK P) 700) 2=true:=by rfl'
theorem DZ:fdB (KK P) 700 ["self"]=true:=by rfl'
theorem Ft(v:da):cK (KK P) 700 [v] [("self",v)]:=λS=>by rfl'
end
end Mine
section
set_option backward.match.sparseCases false
namespace Mine
noncomputable def ke:List Nat:=[117,115,101,32,10,97,98,105,116,39,34,46,47]
noncomputable def bc(c:Nat):Str:=⟨#[c]⟩
def xL(c:Nat):Bool:=((bc c==("\n":Str))==(c==10))&&((aV " \t\r\n" (bc c)==(c==10||c==32))&&((aV "#" (bc c)==false)&&((aV "\\" (bc c)==false)&&((aV "'\"" (bc c)==(c==39||c==34))&&
 ((aV "" (bc c)==false)&&(((bc c==("'":Str))==(c==39))&&(((bc c==("\"":Str))==(c==34))&&(!(c==39||c==34)||aV WC (bc c)==false))))))))
theorem zQ:ke.all xL=true:=by rfl'
structure qh(c:Nat):Prop where
 nl:(bc c==("\n":Str))=(c==10)
 ws:aV " \t\r\n" (bc c)=(c==10||c==32)
 cm:aV "#" (bc c)=false
 es:aV "\\" (bc c)=false
 qt:aV "'\"" (bc c)=(c==39||c==34)
 pc:aV "" (bc c)=false
 q1:(bc c==("'":Str))=(c==39)
 q2:(bc c==("\"":Str))=(c==34)
 wc:(c==39||c==34)=true→aV WC (bc c)=false
theorem kH:∀{c:Nat} (h:c∈ke),qh c:=by
 refine' eI1;intro c h;have:=Gf.mp zQ c h;unfold xL at this;simp only [lq,beq_iff_eq,Bool.or_eq_true,JB]at this;(refine FY this ?_;clear this;intro h1 h2 h3 d f a b e g);exact⟨h1,h2,h3,d,f,a,b,e,λz=>g.resolve_left (by rwa [z];decide)⟩
abbrev lO:=Option (List Nat×LSt×List Nat×Bool×Int)
noncomputable def EX(c:Nat)(u:KF)(f:LSt→List Nat→Bool→lO)(a:KF)(q:Bool)(b:Int)(st:LSt):lO:=st.casesOn (motive:=λd=>lO) none
 (if(c==10||c==32)=true then none else if c=39 then f .q1 a q else if c=34 then f .q2 a q else f .word [c] q)
 (if(c==10||c==32)=true then(if a=[]∧q=false then none else some (u, .sp,a,q,if c=10 then b+1 else b))else if c=39 then f .q1 a q else if c=34 then f .q2 a q else f .word (a++[c]) q)
 (if c=39 then f .word a true else if c=10 then none else f .q1 (a++[c]) true)
 (if c=34 then f .word a true else if c=10 then none else f .q2 (a++[c]) true)
def ca(u:KF):LSt→List Nat→Bool→Int→lO:=u.rec (motive:=λd=>LSt→List Nat→Bool→Int→lO) (λst a q b=>st.casesOn (motive:=λd=>lO) (some ([], .none,a,q,b)) (some ([], .none,a,q,b)) none none none) λc u f st a q b=>EX c u (λst a q=>f st a q b) a q b st
noncomputable def S(l:KF):Str:=⟨l.toArray⟩
set_option genInjectivity false in
structure Rst where
 u:List Nat
 st:LSt
 tk:List Nat
 q:Bool
 ln:Int
deriving Nonempty
def Rst.run(x:Rst):lO:=ca x.u x.st x.tk x.q x.ln
noncomputable def ncL:Option Str→List (Str×V)
 |none=>[]
 |some y=>[("nextchar", .str y)]
def muT(b a:Str)(d:cv)(c:KN)(x:Rst)(e:Option Str):List AO:=RT b (b.length -x.u.length) a x.st.v x.ln (S x.tk) d c++[aY x.q (ncL e)]
def eY(a:KF)(q:Bool):V:=if a=[]∧q=false then .none else .str (S a)
structure Inv(b:Str)(z:Rst)(x:Rst)(nc:Option Str):Prop where
 at_:b.cps.toList.drop (b.length -x.u.length)=x.u
 le:x.tk.length+x.u.length≤b.length
 al:∀c∈x.u,c∈ke
 run:x.run=some (z.u,z.st,z.tk,z.q,z.ln)
 fst:(x.st= .sp∨x.st= .none)→nc=none∧x.tk=[]∧x.q=false
 snd:¬(x.st= .sp∨x.st= .none)→∃y,nc=some y
theorem ma{b:Str}{c:Nat}{u:KF}(h:b.cps.toList.drop (b.length -(c::u).length)=c::u)(i:(c::u).length≤b.length):
 rd b (b.length -(c::u).length)=bc c∧nx b (b.length -(c::u).length)=b.length -u.length∧b.cps.toList.drop (b.length -u.length)=u:=by
 have d:u.length+1≤b.length:=i;have g:b.length -(c::u).length < b.length:=by simp only [ix];exact Lle [_,_,_] [Q1 (.a V2 (.a V0 Z0)) V1] 0 (.a V2 Z0) V1 rfl (pm (d))
 have f:b.length -(c::u).length+1=b.length -u.length:=by simp only [ix];exact Leq [_,_,_,_] [.h 4 1 1 (.a V2 (.a V0 Z0)) V1, .h 5 1 1 (.a V3 V0) V1] 0 (.a V2 Z0) V3 rfl (pm (d)) (pm (Lle [_,_] [Q0 (.a V0 Z0) V1] 0 V0 V1 rfl d))
 refine(cB ?_ ?_ ?_)
 ·unfold rd
  have e:b.length -(c::u).length < b.cps.toList.length:=by rwa [iy];exact g
  rw [Je e]at h;rwa [←GE,kn e,(Hb h).1];rfl
 ·unfold nx;(rwa [if_pos g,f];rfl)
 ·rwa [←f,←Kg,h];rfl
theorem mH(a:KF)(c:Nat):S a++bc c=S (a++[c]):=by
 apply Str.ext'
 show a.toArray++ #[c]=(a++[c]).toArray;simp
theorem mI(a:KF):(S a).length=a.length:=by show a.toArray.size=_;rfl
end Mine
end
namespace Mine
theorem gb:S []=("":Str):=by rfl'
theorem xS(c:Nat):S [c]=bc c:=rfl
theorem or(c:Nat):aw (vK (bc c)):=⟨(by show 1≤16777216;decide),rfl,KP⟩
theorem gZ{a b:KG}(h1:aw a)(h2:aw b):aw (a++b):=aj.mpr ⟨h1,h2⟩
theorem oP{c:Nat}(h:(c==10||c==32)=false):(c==10)=false:=(Il.mp h).1
theorem oA{c:Nat}(F:qh c)(h:(c==10||c==32)=false){l:KG}(a:aw l):aw (vC (bc c) l):=
 ⟨F.nl.trans (oP h),gZ (gZ (or c) ⟨F.ws.trans h,F.cm,F.es,KP⟩) a⟩
theorem oy{c:Nat}(F:qh c)(h:(c==10||c==32)=false){l:KG}(a:aw l):aw (vG (bc c) l):=
 ⟨F.nl.trans (oP h),gZ (gZ (or c) ⟨F.ws.trans h,F.cm,KP⟩) a⟩
theorem oz{c:Nat}(F:qh c)(h:(c==10||c==32)=true){b:KF}(g:b.length≤1000000){a d:Bool}(f:(c==10)=a)(e:(ct b.length !=ct 0)=d):aw (vF (bc c) (S b) a d):=
 ⟨F.nl.trans f,gZ (or c) ⟨F.ws.trans h,by rwa [mI _];exact Lle [_] [Q0 V0 Z2] 0 V0 (.c 16777216) rfl g,by rwa [mI _];exact e,KP⟩⟩
theorem ot{c:Nat}(F:qh c)(h:(c==10)=false){z:Str}{a:Bool}(d:(bc c==z)=a){l:KG}(b:aw l):aw (vI (bc c) z a l):=
 ⟨F.nl.trans h,gZ (gZ (or c) ⟨d,KP⟩) b⟩
def iY(P:ed)(b c:Str)(g:cv)(d:KN)(z x:Rst)(i:Option Str):Prop:=
 ∃f vc h a,whR (c9 P f) (ej P) (muT b c g d x i)= .ok vc (some h) a∧aw vc∧
  ((h= .next∧∃y e,a=muT b c g d y e∧Inv b z y e∧y.u.length < x.u.length)∨(h= .brk∧∃j,a=muT b c g d z (some j)))
section
variable(P:ed){b:Str}(e:Str)(f:cv)(d:KN)(g:b.length≤1000000){z:Rst}
theorem oX:∀{st:LSt} {m:KF} {q:Bool} {h:Int} {k:Option Str} (c:st= .sp∨st= .none) (I:Inv b z ⟨[],st,m,q,h⟩ k) (g:b.length≤1000000),iY P b e f d z ⟨[],st,m,q,h⟩ k:=by
 revert P b e f d z;refine' eI11;intro k h q m st z d f e b P c I g;(refine ax (I.fst c) λn l j=> ?_;subst n;subst l;subst j);have i:rd b b.length=("":Str):=tS (fx _);have r:nx b b.length=b.length:=if_neg (HA _);have s:z=⟨[], .none,[],false,h⟩:=by
  have:=I.run;obtain⟨a1,a2,a3,t,u⟩:=z;rcases c with rfl|rfl<;>(cases this;rfl)
 subst s;have o:(("":Str)==("\n":Str))=false:=by decide+kernel
 have p:(("":Str)).length=0:=by decide+kernel
 rcases c with rfl|rfl
 ·have a:=tA P b b.length e h f d
  refine⟨_,_,_,_,(by unfold muT;rwa [gb];exact a), ?_, .inr ⟨rfl,("":Str), ?_⟩⟩
  ·rwa [i];exact dz g ⟨o,by rwa [p];decide,by rwa [p];rfl,KP⟩
  ·rwa [i,r];unfold muT;rwa [gb];rfl
 ·have a:=tK P b b.length e h f d
  refine⟨_,_,_,_,(by unfold muT;rwa [gb];exact a), ?_, .inr ⟨rfl,("":Str), ?_⟩⟩
  ·rwa [i];exact dz g ⟨o,KP⟩
  ·rwa [i,r];unfold muT;rwa [gb];rfl
theorem Inv.next{x y:Rst}{r:Option Str}{c:Nat}{u:KF}(I:Inv b z x r)(s:x.u=c::u)(o:y.u=u)(q:y.tk.length≤x.tk.length+1)(k:x.run=y.run)(n:¬(y.st= .sp∨y.st= .none))(p:Str):Inv b z y (some p):=by
 have j:=I.le;have l:=I.at_;have m:=I.al;rw [s]at j l m;simp only [ix]at j;refine⟨by rwa [o];exact(ma l (by simp only [ix];exact Lle [_,_,_] [Q0 (.a V0 (.a V1 Z0)) V2] 0 (.a V1 Z0) V2 rfl j)).2.2,by rwa [o];exact Lle [_,_,_,_] [Q0 V0 (.a V1 Z0),Q0 (.a V1 (.a V2 Z0)) V3] 0 (.a V0 V2) V3 rfl q j,λi t=>m i (.tail _ (o▸t)),k▸I.run,λh=>absurd h n,λw=>⟨p,rfl⟩⟩
theorem ml(u:KF)(a:Int):RT b (b.length -u.length) e (.str " ") a "" f d++[aY false []]=muT b e f d ⟨u, .sp,[],false,a⟩ none:=by unfold muT;rwa [gb];rfl
theorem yj:∀{c:Nat} {u x:KF} {q:Bool} {j:Int} {t:Option Str} (I:Inv b z ⟨c::u, .sp,x,q,j⟩ t) (g:b.length≤1000000),iY P b e f d z ⟨c::u, .sp,x,q,j⟩ t:=by
 revert P b e f d z;refine' eI12;intro t j q x u c z d f e b P I g;(refine ax (I.fst (.inl rfl)) λA w s=> ?_;subst A;subst w;subst s);have r:=I.le;refine ax (ma I.at_ (by dsimp only at r;exact Lle [_,_] [Q0 (.a Z3 V0) V1] 0 V0 V1 rfl r)) λh1 h2 h3=> ?_
 have F:=kH (I.al c (.head _));have l:(if(c==10||c==32)=true then none else if c=39 then ca u .q1 [] false j else if c=34 then ca u .q2 [] false j else ca u .word [c] false j)=some (z.u,z.st,z.tk,z.q,z.ln):=I.run;rcases o:(c==10||c==32)with _|_
 ·have B:¬((c==10||c==32)=true):=by rwa [o];decide
  have k:Rst.run ⟨c::u, .sp,[],false,j⟩=(if c=39 then ca u .q1 [] false j else if c=34 then ca u .q2 [] false j else ca u .word [c] false j):=if_neg B
  by_cases m:c=39
  ·have p:aV "'\"" (bc c)=true:=F.qt.trans (by rwa [m];decide)
   have i:=tD P b (b.length -(c::u).length) e j f d;rw [h1,ml]at i;refine⟨_,_,_,_,i,dz g (oA F o ⟨F.wc (by rwa [m];decide),F.pc,p,KP⟩), .inl (an rfl (ff ⟨u, .q1,[],false,j⟩ (some (bc c)) ?_ (I.next rfl rfl (so _) (k.trans (if_pos m)) (by rintro(h|h)<;>cases h) _) (ph _)))⟩
   unfold muT;rwa [gb,h2,m];rfl
  ·by_cases n:c=34
   ·have p:aV "'\"" (bc c)=true:=F.qt.trans (by rwa [n];decide)
    have i:=tD P b (b.length -(c::u).length) e j f d;rw [h1,ml]at i;refine⟨_,_,_,_,i,dz g (oA F o ⟨F.wc (by rwa [n];decide),F.pc,p,KP⟩), .inl (an rfl (ff ⟨u, .q2,[],false,j⟩ (some (bc c)) ?_ (I.next rfl rfl (so _) (k.trans ((if_neg m).trans (if_pos n))) (by rintro(h|h)<;>cases h) _) (ph _)))⟩
    unfold muT;rwa [gb,h2,n];rfl
   ·have p:aV "'\"" (bc c)=false:=F.qt.trans (by rwa [beq_eq_false_iff_ne.mpr m,beq_eq_false_iff_ne.mpr n];rfl)
    have D:=I.next (y:=⟨u, .word,[c],false,j⟩) rfl rfl (fx _) (k.trans ((if_neg m).trans (if_neg n))) (by rintro(h|h)<;>contradiction) (bc c)
    rcases C:aV WC (bc c)with _|_
    ·have i:=tC2 P b (b.length -(c::u).length) e j f d
     rw [h1,ml]at i;exact⟨_,_,_,_,i,dz g (oA F o ⟨C,F.pc,p,KP⟩), .inl (an rfl (ff _ (some (bc c)) (by unfold muT;rwa [xS _,h2];rfl) D (ph _)))⟩
    ·have i:=tC P b (b.length -(c::u).length) e j f d
     rw [h1,ml]at i;exact⟨_,_,_,_,i,dz g (oA F o ⟨C,KP⟩), .inl (an rfl (ff _ (some (bc c)) (by unfold muT;rwa [xS _,h2];rfl) D (ph _)))⟩
 ·rw [o,if_pos rfl]at l;exact noS l
theorem s9:∀{c:Nat} {u j:KF} {q:Bool} {k:Int} {x:Option Str} (I:Inv b z ⟨c::u, .word,j,q,k⟩ x) (g:b.length≤1000000),iY P b e f d z ⟨c::u, .word,j,q,k⟩ x:=by
 revert P b e f d z;refine' eI12;intro x k q j u c z d f e b P I g;(refine au (I.snd (by rintro(h|h)<;>contradiction)) λy B=> ?_;subst B)
 have p:=I.le;refine ax (ma I.at_ (by dsimp only at p;exact Lle [_,_,_] [Q0 (.a V0 V1) V2] 0 V1 V2 rfl p)) λh1 h2 h3=> ?_
 have m:j.length≤1000000∧j.length+1≤1000000:=by dsimp only [ix]at p;exact(an (Lle [_,_,_] [Q0 V0 Z2,Q0 (.a V1 (.a V2 Z0)) V0] 0 V1 Z2 rfl g p) (Lle [_,_,_] [Q0 V0 Z2,Q0 (.a V1 (.a V2 Z0)) V0] 0 (.a V1 Z0) Z2 rfl g p))
 have F:=kH (I.al c (.head _));have l:(if(c==10||c==32)=true then(if j=[]∧q=false then none else some (u, .sp,j,q,if c=10 then k+1 else k))else
  if c=39 then ca u .q1 j q k else if c=34 then ca u .q2 j q k else ca u .word (j++[c]) q k)=some (z.u,z.st,z.tk,z.q,z.ln):=I.run
 rcases r:(c==10||c==32)with _|_
 ·have C:¬((c==10||c==32)=true):=by rwa [r];decide
  have o:Rst.run ⟨c::u, .word,j,q,k⟩=(if c=39 then ca u .q1 j q k else if c=34 then ca u .q2 j q k else ca u .word (j++[c]) q k):=if_neg C
  by_cases n:c=39
  ·have s:aV "'\"" (bc c)=true:=F.qt.trans (by rwa [n];decide)
   have i:=tG P b (b.length -(c::u).length) e k (S j) f d q y;rw [h1]at i;exact⟨_,_,_,_,i,dz g (oy F r ⟨s,KP⟩), .inl (an rfl (ff ⟨u, .q1,j,q,k⟩ (some (bc c)) (by unfold muT;rwa [h2,n];rfl) (I.next rfl rfl (by exact GL _) (o.trans (if_pos n)) (by rintro(h|h)<;>cases h) _) (ph _)))⟩
  ·by_cases t:c=34
   ·have s:aV "'\"" (bc c)=true:=F.qt.trans (by rwa [t];decide)
    have i:=tG P b (b.length -(c::u).length) e k (S j) f d q y;rw [h1]at i;exact⟨_,_,_,_,i,dz g (oy F r ⟨s,KP⟩), .inl (an rfl (ff ⟨u, .q2,j,q,k⟩ (some (bc c)) (by unfold muT;rwa [h2,t];rfl) (I.next rfl rfl (by exact GL _) (o.trans ((if_neg n).trans (if_pos t))) (by rintro(h|h)<;>cases h) _) (ph _)))⟩
   ·have s:aV "'\"" (bc c)=false:=F.qt.trans (by rwa [beq_eq_false_iff_ne.mpr n,beq_eq_false_iff_ne.mpr t];rfl)
    have G:=I.next (y:=⟨u, .word,j++[c],q,k⟩) rfl rfl (by simp) (o.trans ((if_neg n).trans (if_neg t))) (by rintro(h|h)<;>contradiction) (bc c)
    have D:(S j).length+(bc c).length≤16777216:=by rwa [mI _];show j.length+1≤_;exact Lle [_] [Q0 (.a V0 Z0) Z2] 0 (.a V0 Z0) (.c 16777216) rfl m.2
    rcases E:aV WC (bc c)with _|_
    ·have i:=tH2 P b (b.length -(c::u).length) e k (S j) f d q y
     rw [h1]at i;exact⟨_,_,_,_,i,dz g (oy F r ⟨s,F.es,E,s,by rwa [F.pc];rfl,D,KP⟩), .inl (an rfl (ff _ (some (bc c)) (by unfold muT;rwa [mH _ _,h2];rfl) G (ph _)))⟩
    ·have i:=tH P b (b.length -(c::u).length) e k (S j) f d q y
     rw [h1]at i;exact⟨_,_,_,_,i,dz g (oy F r ⟨s,F.es,E,D,KP⟩), .inl (an rfl (ff _ (some (bc c)) (by unfold muT;rwa [mH _ _,h2];rfl) G (ph _)))⟩
 ·rw [r,if_pos rfl]at l
  by_cases A:j=[]∧q=false
  ·rw [if_pos A]at l;exact noS l
  rw [if_neg A]at l;have J:z=⟨u, .sp,j,q,if c=10 then k+1 else k⟩:=by
   obtain⟨a1,a2,a3,K,L⟩:=z;cases l;rfl
  subst J;rcases w:(ct j.length !=ct 0)with _|_
  ·have H:j=[]:=by
    have:j.length=0:=by simpa using w
    exact Hu.mp this
   have s:q=true:=by induction q with|true=>rfl|false=>exact absurd (an H rfl) A
   subst s
   by_cases n:c=10
   ·have i:=tEn P b (b.length -(c::u).length) e k (S j) f d y
    rw [h1]at i;exact⟨_,_,_,_,i,dz g (oz F r m.1 (by rwa [n];rfl) w), .inr (an rfl (fJ (bc c) (by unfold muT;rwa [h2,if_pos n];rfl)))⟩
   ·have i:=tEs P b (b.length -(c::u).length) e k (S j) f d y
    rw [h1]at i;exact⟨_,_,_,_,i,dz g (oz F r m.1 (beq_eq_false_iff_ne.mpr n) w), .inr (an rfl (fJ (bc c) (by unfold muT;rwa [h2,if_neg n];rfl)))⟩
  ·by_cases n:c=10
   ·have i:=tFn P b (b.length -(c::u).length) e k (S j) f d q y
    rw [h1]at i;exact⟨_,_,_,_,i,dz g (oz F r m.1 (by rwa [n];rfl) w), .inr (an rfl (fJ (bc c) (by unfold muT;rwa [h2,if_pos n];rfl)))⟩
   ·have i:=tFs P b (b.length -(c::u).length) e k (S j) f d q y
    rw [h1]at i;exact⟨_,_,_,_,i,dz g (oz F r m.1 (beq_eq_false_iff_ne.mpr n) w), .inr (an rfl (fJ (bc c) (by unfold muT;rwa [h2,if_neg n];rfl)))⟩
theorem yl:∀{c:Nat} {u k:KF} {q:Bool} {l:Int} {p:Option Str} (I:Inv b z ⟨c::u, .q1,k,q,l⟩ p) (g:b.length≤1000000),iY P b e f d z ⟨c::u, .q1,k,q,l⟩ p:=by
 revert P b e f d z;refine' eI12;intro p l q k u c z d f e b P I g;(refine au (I.snd (by rintro(h|h)<;>contradiction)) λy r=> ?_;subst r)
 have m:=I.le;refine ax (ma I.at_ (by dsimp only at m;exact Lle [_,_,_] [Q0 (.a V0 V1) V2] 0 V1 V2 rfl m)) λh1 h2 h3=> ?_
 have F:=kH (I.al c (.head _));have j:Rst.run ⟨c::u, .q1,k,q,l⟩=(if c=39 then ca u .word k true l else if c=10 then none else ca u .q1 (k++[c]) true l):=rfl
 by_cases n:c=39
 ·have i:=tI1 P b (b.length -(c::u).length) e l (S k) f d q y
  rw [h1]at i;exact⟨_,_,_,_,i,dz g (ot F (by rwa [n];rfl) (F.q1.trans (by rwa [n];rfl)) trivial), .inl (an rfl (ff ⟨u, .word,k,true,l⟩ (some (bc c)) (by unfold muT;rwa [h2];rfl) (I.next rfl rfl (by exact GL _) (j.trans (if_pos n)) (by rintro(h|h)<;>cases h) _) (ph _)))⟩
 ·by_cases o:c=10
  ·have:=I.run;rw [j,if_neg n,if_pos o]at this;exact noS this
  ·have i:=tJ1 P b (b.length -(c::u).length) e l (S k) f d q y
   rw [h1]at i;exact⟨_,_,_,_,i,dz g (ot F (beq_eq_false_iff_ne.mpr o) (F.q1.trans (beq_eq_false_iff_ne.mpr n)) ⟨F.es,by rwa [mI _];dsimp only [ix]at m;show k.length+1≤_;exact Lle [_,_,_] [Q0 V0 Z2,Q0 (.a V1 (.a V2 Z0)) V0] 0 (.a V1 Z0) (.c 16777216) rfl g m,KP⟩), .inl (an rfl (ff ⟨u, .q1,k++[c],true,l⟩ (some (bc c)) (by unfold muT;rwa [mH _ _,h2];rfl) (I.next rfl rfl (by simp) (j.trans ((if_neg n).trans (if_neg o))) (by rintro(h|h)<;>cases h) _) (ph _)))⟩
theorem yk:∀{c:Nat} {u k:KF} {q:Bool} {l:Int} {p:Option Str} (I:Inv b z ⟨c::u, .q2,k,q,l⟩ p) (g:b.length≤1000000),iY P b e f d z ⟨c::u, .q2,k,q,l⟩ p:=by
 revert P b e f d z;refine' eI12;intro p l q k u c z d f e b P I g;(refine au (I.snd (by rintro(h|h)<;>contradiction)) λy r=> ?_;subst r)
 have m:=I.le;refine ax (ma I.at_ (by dsimp only at m;exact Lle [_,_,_] [Q0 (.a V0 V1) V2] 0 V1 V2 rfl m)) λh1 h2 h3=> ?_
 have F:=kH (I.al c (.head _));have j:Rst.run ⟨c::u, .q2,k,q,l⟩=(if c=34 then ca u .word k true l else if c=10 then none else ca u .q2 (k++[c]) true l):=rfl
 by_cases n:c=34
 ·have i:=tI2 P b (b.length -(c::u).length) e l (S k) f d q y
  rw [h1]at i;exact⟨_,_,_,_,i,dz g (ot F (by rwa [n];rfl) (F.q2.trans (by rwa [n];rfl)) trivial), .inl (an rfl (ff ⟨u, .word,k,true,l⟩ (some (bc c)) (by unfold muT;rwa [h2];rfl) (I.next rfl rfl (by exact GL _) (j.trans (if_pos n)) (by rintro(h|h)<;>cases h) _) (ph _)))⟩
 ·by_cases o:c=10
  ·have:=I.run;rw [j,if_neg n,if_pos o]at this;exact noS this
  ·have i:=tJ2 P b (b.length -(c::u).length) e l (S k) f d q y
   rw [h1]at i;exact⟨_,_,_,_,i,dz g (ot F (beq_eq_false_iff_ne.mpr o) (F.q2.trans (beq_eq_false_iff_ne.mpr n)) ⟨F.es,by rwa [mI _];dsimp only [ix]at m;show k.length+1≤_;exact Lle [_,_,_] [Q0 V0 Z2,Q0 (.a V1 (.a V2 Z0)) V0] 0 (.a V1 Z0) (.c 16777216) rfl g m,KP⟩), .inl (an rfl (ff ⟨u, .q2,k++[c],true,l⟩ (some (bc c)) (by unfold muT;rwa [mH _ _,h2];rfl) (I.next rfl rfl (by simp) (j.trans ((if_neg n).trans (if_neg o))) (by rintro(h|h)<;>cases h) _) (ph _)))⟩
theorem ym{x:Rst}{a:Option Str}(I:Inv b z x a)(g:b.length≤1000000):iY P b e f d z x a:=by
 obtain⟨u,st,i,q,h⟩:=x
 induction u using kv with
 |nil=>
  induction st with
  |none=>exact oX P e f d (.inr rfl) I g
  |sp=>exact oX P e f d (.inl rfl) I g
  |_=>have:=I.run;exact noS this
 |cons c u=>
  induction st with
  |none=>have:=I.run;exact noS this
  |sp=>exact yj P e f d I g
  |word=>exact s9 P e f d I g
  |q1=>exact yl P e f d I g
  |q2=>exact yk P e f d I g
end
theorem kC{P:ed}{e f:KC}{b:Cfg}{k:Nat}(j:aR (KK P) e f)(l:b.globs=G0)(h1:b.meths=MS)(h2:b.plain=PS)(h3:b.props=PR)(i:b.owns=[])(q:b.wns=[])(p:b.sets=[])(o:cb (KK P) e f (k+1) b.fns):Lev (KK P) e f b (k+1):=
 ⟨by rwa [l];exact bh j (cS P),k8 (by rwa [h1];exact mm P) (by rwa [h2];exact ku P) (λn C g m d h=>by rw [i]at h;exact noS h) p,o,λc T r=>kx j T (r.le (by exact Lle [_] [] 0 Z0 (.a V0 Z0) rfl)) h3,λx g d h=>(by rw [q]at h;exact noS h),i⟩
theorem Db{P:ed}{J C:KC}{c:Cx}(N:aR (KK P) J C)(T:ak c (KK P) J C)(hr:av 3 c.A){b:Str}(d:Str)(g:cv)(f:KN)(U:b.length≤1000000){z:Rst}{u:KF}{st:LSt}{v:Int}(I:Inv b z ⟨u,st,[],false,v⟩ none):
 aI c 700 6 (sAt [.ref 2] (RT b (b.length -u.length) d st.v v "" g f) [] (eY z.tk z.q) (RT b (b.length -z.u.length) d z.st.v z.ln "" g f)):=by
 revert N T hr U I;revert P J C c b d g f z u st v;refine' eI12;intro v st u z f g d b c C J P N T hr U I;have LV:Lev (KK P) J C (c9 P []) 2:=kC (k:=1) N rfl rfl rfl rfl rfl rfl rfl (cb.cons (λt T r=>Dd N T r) cb.nil);have L:∀o,dK (c9 P []) (c9 P o):=λt=>rfl;refine gA T LV hr (DZ P) rfl rfl rfl (xsOf:=λt=>[.ref 2]) (λfd e' H' a5 mu s xs vs a0 r' O D R a4 K W n=> ?_) ?_
 ·cases W
  (refine ax n ?_;clear n;intro j l t;subst j;subst l);(refine ab (Vals.one K) λu j hu=> ?_;subst j);exact f5 (λa o e=>R.base a o (T.K a o e)) R a4 K rfl (Ft P _) e'
 ·refine' eI8;intro s1 a5 O r' a0 mu xs c' D W n G _ _ _ _ H1
  cases W;(refine ax n ?_;clear n;intro j l t;subst j;subst l);rwa [lQ (DE P)];refine dR G 40 H1 (AC P b _ d v "" g f st.v) trivial λa9 s2 H2 X2=> ?_;have e0:RT b (b.length -u.length) d st.v v "" g f++[aY false []]=muT b d g f ⟨u,st,[],false,v⟩ none:=by unfold muT;rwa [gb];rfl
  rw [e0]at H2 X2;refine pp ?_;refine ex (sR (σ:=Rst×Option Str) (I:=λx=>Inv b z x.1 x.2) (m:=λx=>x.1.u.length) (st:=λx=>muT b d g f x.1 x.2) (fin:=λy=>muT b d g f z (some y)) (λx ad s' K Hx=> ?_) (⟨u,st,[],false,v⟩,none) I H2) (λfl s3 j=>ai j λY l=>aS l λy w H E=> ?_) λt t z=>z
  ·refine jy (ym P d g f K U) λi vc fl a6 e Z A=> ?_
   refine ve (q:=ej P) G (L i) Hx e Z λa7 s3 w k1 k2 H E=> ?_;rcases A with⟨rfl,y,nc',rfl,hI,hm⟩|⟨rfl,yy,rfl⟩
   ·exact .inl (an (k1 rfl) (nt ((y,nc')) w hI hm H E))
   ·exact .inr (an (k2 rfl) (eS yy w H E))
  ·subst Y
   have e3:muT b d g f z (some y)=RT b (b.length -z.u.length) d z.st.v z.ln (S z.tk) g f++[aY z.q [("nextchar", .str y)]]:=rfl;rw [e3]at H E;have F:∃i vc p,am (fns (c9 P i) 40) ((ae (KK P) 700).drop 3) (RT b (b.length -z.u.length) d z.st.v z.ln (S z.tk) g f++[aY z.q [("nextchar", .str y)]])= .ok vc (.ret (eY z.tk z.q)) p∧aw vc∧Iy 6 p.length=true∧p.take 6=RT b (b.length -z.u.length) d z.st.v z.ln "" g f:=by
    rcases hq:z.q with _|_
    ·by_cases B:z.tk=[]
     ·rwa [show eY z.tk false= .none from if_pos (an B rfl)]
      exact(lI _ _ _ (zB P b _ d _ (S z.tk) g f y _) ⟨by rwa [B,gb];decide+kernel,KP⟩ rfl rfl)
     ·rwa [show eY z.tk false= .str (S z.tk)from if_neg (λh=>B h.1)]
      refine(lI _ _ _ (zy P b _ d _ (S z.tk) g f y _) ⟨?_,KP⟩ rfl rfl);rwa [←gb];refine beq_eq_false_iff_ne.mpr λh=>B ?_;have:=congrArg (λs:Str=>s.cps.toList) h
      simpa [S]using this
    ·rwa [show eY z.tk true= .str (S z.tk)from if_neg (λh=>by cases h.2)]
     exact(lI _ _ _ (zA P b _ d _ (S z.tk) g f y _) trivial rfl rfl)
   (refine B7 F ?_;clear F;intro i vc p e Z hl B);refine ex (iJ (G.re (L i)) 40 (H.re (L i)) e Z (.inl rfl) (ro hl) B) (λfl s4 h=> ?_) λt t z=>z;exact ea.trans (X2.trans E) (h.re (L i).symm)
structure aE(p:A8)(w:Gv)(ρ:KB)(h:Gm)(o:AO)(ρ2:KB)(h2:Gm)(o2:AO)(a:cv):Prop where
 live:o2.live=true→o.live=true
 ok:∀(F F':aA),Le F F'→(∀ob,h.get? a=some ob→h2.get? a=some ob)→AOk p w F ρ h a o→AOk p w F' ρ2 h2 a o2
section
variable{p:A8}{w:Gv}{d:Bd}{ρ ρ2:KB}{mu mu2:KM}{s:dd}{h h2:Gm}{a:cv}
theorem aE.re{o b:AO}{σ:Nat→Option V}(e:o.re σ=some b)(c:∀i x a,σ i=some x→ρ[i]? =some a→x= .adr a∨∃j,x= .ref j∧ρ2[j]? =some a):aE p w ρ h o ρ2 h2 b a:=
 ⟨AO.re_live o b e,λF m l g k=>AOk.re l (λi x a h1 h2=>(c i x a h1 h2).elim (λq=>q▸rfl) λq=>ab q λj q f=>q▸⟨a,f,rfl⟩) g o b e k⟩
theorem aE.cut{o:AO}{n:Nat}(b:AO.closed n o=true)(P:eF n ρ ρ2):aE p w ρ h o ρ2 h2 o a:=⟨id,λF g f e c=>AOk.cut f P e o b c⟩
theorem aE.mono{o:AO}(P:Pre ρ ρ2):aE p w ρ h o ρ2 h2 o a:=⟨id,λF f e c b=>AOk.mono e P c o b⟩
def Bd.but(d:Bd)(ρ:KB)(mu:KM)(b:KB)(c:List (Option cv)):Bd:={d with H:=λa=>d.H a∨(Own ρ mu a∧¬a∈b),ρ₀:=c}
inductive fP(p:A8)(w:Gv)(ρ:KB)(h:Gm)(mu:KM)(ρ2:KB)(h2:Gm)(a:cv)(o2:AO):Prop
 |mk (j:Nat) (o:AO) (e1:ρ[j]? =some a) (e2:mu[j]? =some o) (e3:aE p w ρ h o ρ2 h2 o2 a)
theorem aq.sub(R:aq p w d ρ mu s){ρ':KB}{mu':KM}{r0:List (Option cv)}(f:ρ'.length=mu'.length)(y:ρ'.Nodup)(x:fg r0 ρ')(t:∀(i:Nat) (a:cv) (l:AO),ρ'[i]? =some a→mu'[i]? =some l→fP p w ρ s.heap mu ρ' s.heap a l):
 aq p w (d.but ρ mu ρ' r0) ρ' mu' s∧Le (aa d ρ mu s.heap) (aa (d.but ρ mu ρ' r0) ρ' mu' s.heap)∧∀a,Own ρ' mu' a→Own ρ mu a:=by
 have e:∀a,Own ρ' mu' a→Own ρ mu a:=by
  rintro a ⟨i,l,h1,h2,h3⟩
  obtain⟨j,o,g,n,r⟩:=t i a l h1 h2;exact⟨j,o,g,n,r.live h3⟩
 have L:Le (aa d ρ mu s.heap) (aa (d.but ρ mu ρ' r0) ρ' mu' s.heap):=λa o m k=>ax k λA u z=>⟨λh=>h.elim A λh=>u h.1,λh=>u (e a h),z⟩;have b:∀a,a∈ρ'→a∈ρ:=λa c=>by
  refine au (Ho.mp c) λi v=> ?_;have q:i < mu'.length:=by rwa [←f];exact(hX.mp v).1
  obtain⟨j,_,g,_⟩:=t i a _ v (kn q);exact lf g
 refine(cB ⟨f,y,λi a l h1 h2=> ?_,R.base,λa c=>⟨(R.new a (b a c)).1,(R.new a (b a c)).2.1,λh=>h.elim (R.new a (b a c)).2.2.1 λh=>h.2 c,(R.new a (b a c)).2.2.2⟩,R.big,λa c=>c.elim (R.hid a) λk=>ai k λh m=> ?_,x,R.gens,R.os⟩ L e)
 ·obtain⟨j,o,g,n,r⟩:=t i a l h1 h2
  exact r.ok _ _ L (λm h=>h) (R.objs j a o g n)
 ·(refine bg h ?_;clear h;intro j o g m m)
  exact(R.new a (lf g)).2.1
theorem aq.join:∀{ρ':KB} {mu':KM} {r0:List (Option cv)} {K:Nat→Bool} {e:KB} {c:KM} {s1:dd} (R:aq p w d ρ mu s) (f:∀a,Own ρ' mu' a→Own ρ mu a) (v:aq p w (d.but ρ mu ρ' r0) e c s1) (X:bR K ρ' mu' s e c s1) (n:ρ2.length=mu2.length) (J:ρ2.Nodup) (z:fg d.ρ₀ ρ2) (q:∀(i:Nat) (a:cv) (k:AO),ρ2[i]? =some a→mu2[i]? =some k→fP p w e s1.heap c ρ2 s1.heap a k∨(¬a∈ρ'∧fP p w ρ s.heap mu ρ2 s1.heap a k)),aq p w d ρ2 mu2 s1∧(∀E:Nat→Bool,lL E ρ ρ2→bR E ρ mu s ρ2 mu2 s1)∧Le (aa (d.but ρ mu ρ' r0) e c s1.heap) (aa d ρ2 mu2 s1.heap)∧Le (aa d ρ mu s.heap) (aa d ρ2 mu2 s1.heap):=by
 revert p w d ρ ρ2 mu mu2 s;refine' eI15;intro s1 c e K r0 mu' ρ' s mu2 mu ρ2 ρ d w p R f v X n J z q;have r:∀a,Own ρ2 mu2 a→Own e c a∨(¬a∈ρ'∧Own ρ mu a):=by
  rintro a ⟨i,k,h1,h2,h3⟩
  rcases q i a k h1 h2 with⟨j,o,l,t,u⟩|⟨hn,j,o,l,t,u⟩
  ·exact .inl ⟨j,o,l,t,u.live h3⟩
  ·exact .inr ⟨hn,j,o,l,t,u.live h3⟩
 have y:∀a,Own ρ' mu' a→a∈ρ':=λa m=>bg m λi x h1 x x=>lf h1;have g:∀a,Own ρ2 mu2 a→Own ρ mu a∨s.heap.objs.size≤a:=λa A=>(r a A).elim (λh=>(X.own a h).imp (f a) id) λh=> .inl h.2;have H:Le (aa (d.but ρ mu ρ' r0) e c s1.heap) (aa d ρ2 mu2 s1.heap):=λa o x m=>ax m λD B C=>⟨λh=>D (.inl h),λh=>(r a h).elim B λh=>D (.inr (an h.2 h.1)),C⟩;have G:Le (aa d ρ mu s.heap) (aa d ρ2 mu2 s1.heap):=λa o x m=>ax m λD B C=>⟨D,λh=>(g a h).elim B λh=>absurd (wl C) (Go.mpr h),X.keep a o (λh=>B (f a h)) C⟩;have rN:∀(i:Nat) (a:cv),ρ2[i]? =some a→∃k,mu2[i]? =some k:=λi a h=>(fJ _ (kn (by rwa [←n];exact(hX.mp h).1)))
 refine(iB ⟨n,J,λi a k h1 h2=> ?_,v.base,λa A=> ?_,v.big,λa A=>fa (R.hid a A) X.size,z,v.gens,v.os⟩ (λE O=>⟨O,λb o h1 h2=>X.keep b o (λh=>h1 (f b h)) h2,g,X.size⟩) H G)
 ·rcases q i a k h1 h2 with⟨j,o,l,t,u⟩|⟨hn,j,o,l,t,u⟩
  ·exact u.ok _ _ H (λx h=>h) (v.objs j a o l t)
  ·exact u.ok _ _ G (λL h=>X.keep a L (λN=>hn (y a N)) h) (R.objs j a o l t)
 ·refine au (Ho.mp A) λi I=> ?_
  refine au (rN i a I) λk F=> ?_;rcases q i a k I F with⟨j,o,l,_⟩|⟨hn,j,o,l,_⟩
  ·have:=v.new a (lf l)
   exact(iB this.1 this.2.1 (λh=>this.2.2.1 (.inl h)) this.2.2.2)
  ·have:=R.new a (lf l)
   exact(cB this.1 (fa this.2.1 X.size) this.2.2)
theorem aq.part(R:aq p w d ρ mu s){ρ':KB}{mu':KM}(b:ρ'.length=mu'.length)(q:ρ'.Nodup)(m:fg d.ρ₀ ρ')(l:∀(i:Nat) (a:cv) (e:AO),ρ'[i]? =some a→mu'[i]? =some e→fP p w ρ s.heap mu ρ' s.heap a e):
 aq p w d ρ' mu' s∧Le (aa d ρ mu s.heap) (aa d ρ' mu' s.heap)∧∀K:Nat→Bool,lL K ρ ρ'→bR K ρ mu s ρ' mu' s:=by
 refine ax (R.sub (r0:=d.ρ₀) b q m l) λC B r=> ?_;have L:Le (aa d ρ mu s.heap) (aa d ρ' mu' s.heap):=λa o c k=>ax k λA t y=>⟨A,λh=>t (r a h),y⟩;refine(cB ⟨b,q,λi a e h1 h2=> ?_,R.base,λa x=> ?_,R.big,R.hid,m,R.gens,R.os⟩ L (λK z=>⟨z,λc c c h=>h,λa h=> .inl (r a h),fx _⟩))
 ·obtain⟨j,o,g,u,v⟩:=l i a e h1 h2
  exact v.ok _ _ L (λc h=>h) (R.objs j a o g u)
 ·refine au (Ho.mp x) λi n=> ?_
  have f:i < mu'.length:=by rwa [←b];exact(hX.mp n).1
  obtain⟨j,_,g,_⟩:=l i a _ n (kn f);exact R.new a (lf g)
end
theorem gW{c:Cx}{K:Gw}{Y mb:KC}{cfg:Cfg}{k:Nat}(T:ak c K Y mb)(hr:av (k+1) c.A){f:cv}{d:Gx}{l:List k0}(Z:d.body= .stmts l)(B:jD d cfg)
 {n:Nat}{ps:KA}(D:∀x∈ps,d.scope.names.lookup x=some .local)(F:ps.Nodup)(C:cfg.fi=n)
 {H:cv→Prop}{ρ:KB}{mu:KM}{s:dd}{o:Hn}(ho:s.heap.get? f=some o)(hd:o.data= .func d)(q:s.heap.CodeRec d.code d.qualname)
 {m:Args}{xs:KN}(y:mu.length=n)(p:fQ c (c.at H n) d m ps xs ρ mu s){R:Result→dd→Prop}
 (I:∀x j,lkC x cfg.cells=some j→∃a,d.closure.lookup x=some a∧ρ[j]? =some a)
 (u:∀L s1,ac (bK c H n d L f) cfg (ρ++[L]) (mu++[.frame (ps.zip xs)]) s1→Ext ρ mu s (ρ++[L]) (mu++[.frame (ps.zip xs)]) s1→
  eo (bK c H n d L f).M (bK c H n d L f).A (un l (Ju d L f)) (λO s2=>R (.ok (.ret (match O with| .ret v=>v|_=> .none))) s2) NoE s1):
 JU c.M c.A (.call (.ref f) m) R s:=by
 refine IR (by have:=hr.1;exact Lle [_,_] [Q0 (.a V0 (.a V1 Z0)) Z1] 0 (.a V0 Z0) Z1 rfl this) ho hd B.co B.gen Z q (p _ _ _ λU i G W ht E N=> ?_)
 refine J2 B.nocell (λx E=>D _ (List.of_mem_zip E).1) (λg w t=>(an ((T.nolim _ G.base).fresh _ t) (codeAny_func ?_))) B.kind;have r:∀b o,i.heap.get? b=some o→g.get? b=some o:=λb o e=>t.extBut b o (HG (wl e)) (g0 _ e);refine dW (id w) λoL es ep hL J=> ?_;refine ai (G.alloc (a:=i.heap.objs.size) (o:= .frame (ps.zip xs)) (s':={i with heap:=g,toks:=i.toks+(ps.zip U).length}) (fx _) (wl hL) r rfl rfl λL P=>by
  refine⟨_,w,λx=> ?_⟩;rwa [fY x (by rw [List.map_fst_zip (by exact Lle [_,_] [Q2 V0 V1] 0 V1 V0 rfl N)];exact F)]
  exact jF x (Vals.mono L P _ _ E) N) λR1 X1=> ?_
 have H1:ac (bK c H n d i.heap.objs.size f) cfg (ρ++[i.heap.objs.size]) (mu++[.frame (ps.zip xs)]) {i with heap:=g,toks:=i.toks+(ps.zip U).length}:=by
  refine⟨R1,by dsimp only;exact Lle [_,_] [Q0 Z0 V0] 0 Z0 (.a V0 V1) rfl ht, ?_, ?_⟩
  ·rwa [C,←y,←G.len,gv (fx _),GC _];rfl
  ·intro x j h
   refine ab (I x j h) λa h1 h2=> ?_;exact(ah a h1 (by rwa [i1 (hX.mp h2).1];exact h2))
 exact ex (u _ _ H1 (W.trans X1)) (λO s2 z=>z) λJ J z=>sq z
structure oK(c:Cx)(f:cv)(X:KN)(M:KM)(r:V):Prop where
 keep:∀h:Gm,(∀b o,c.d.B b o→h.get? b=some o)→∃k,(k=IQ∨k=Ip∨k=HN)∧Hz c.M h (Ka (.ref f)) k
 run:∀H s vs,aq c.prog c.w (c.at H 0) [] [] s→1≤s.toks→Vals (aa (c.at H 0) [] [] s.heap) [] X vs→
  eo c.M c.A (call (.ref f) vs) (λx s'=>1≤s'.toks∧∃ρ',aq c.prog c.w (c.at H 0) ρ' M s'∧Ext [] [] s ρ' M s'∧Val (aa (c.at H 0) ρ' M s'.heap) ρ' r x) NoE s
noncomputable def iF(k:Nat)(i:Nat):Option V:=some (.ref (k+i))
def reA(a:Nat→Option V):List AO→Option (List AO)
 |[]=>some []
 |o::r=>(o.re a).bind λx=>(reA a r).map (x::·)
theorem yF{b:Nat→Option V}:∀{M d:KM},reA b M=some d→d.length=M.length∧∀(i:Nat) (a:AO),d[i]? =some a→∃o:AO,M[i]? =some o∧o.re b=some a:=by
 intro e
 induction e with
 |nil=>
  intro _ h;obtain rfl:=ds h;exact(an rfl (λi a h=>by trivial))
 |cons o r c=>
  intro _ h;refine ab (Gk.mp (show(o.re b).bind (λx=>(reA b r).map (x::·))=some _ from h)) λx h1 h2=> ?_;(refine ab (mr.mp h2) λk h3 f=> ?_;subst f);refine ai (c h3) λl g=> ?_;refine(an (by(rwa [ix,ix,l];rfl)) (λi a j=> ?_))
  induction i using Ge with
  |zero=>obtain rfl:=ds j;exact(ah o rfl h1)
  |succ i=>exact g i a j
theorem oK.toW:∀{c:Cx} {f:cv} {X:KN} {M:KM} {r:V} (N:oK c f X M r) (P:V.closedL 0 X=true) (K:M.all (·.live)=true),FnW c f (λO g=>onO (reA (iF g.length) M) λy=>onO (V.re (iF g.length) r) λI=> .ok [O=X] I (g++y)):=by
 refine' eI5;intro r M X f c N P K;refine⟨N.keep,λn g s O vs vc r' p R ht hx t J=> ?_⟩;refine pt t λy G t=>pt t λI C t=> ?_;cases t;(refine ai J ?_;clear J;intro e l;subst e);refine ax (R.sub (ρ':=[]) (mu':=[]) (r0:=[]) rfl .nil (λi a h=>by trivial) λi a o' h=>by trivial) λR0 L0 O0=> ?_
 refine ex (N.run _ s vs R0 ht (Vals.cut L0 (λi a h=>absurd h (o1 _)) _ _ P hx)) (λx s' L=> ?_) λl l z=>z;(refine ai L ?_;clear L;intro D e;refine eh e ?_;clear e;intro d w T E);refine ai (yF G) λlM gM=> ?_;have u:Pre n (n++d):=λi a h=>by rwa [i1 (hX.mp h).1];exact h
 have k:∀i a,d[i]? =some a→(n++d)[g.length+i]? =some a:=λi a h=>by rwa [←R.len,gv (by exact Lle [_,_] [] 0 V0 (.a V0 V1) rfl),Jy _ _];exact h
 have B:∀i x a,iF g.length i=some x→d[i]? =some a→x= .adr a∨∃j,x= .ref j∧(n++d)[j]? =some a:=λi x a h1 h2=>by cases h1;exact .inr (ah _ rfl (k i a h2))
 have q:∀a∈d,s.heap.objs.size≤a:=λa H=>by
  refine au (Ho.mp H) λi m=> ?_;have A:i < M.length:=by rwa [←w.len];exact(hX.mp m).1
  refine(T.own a ⟨i,M[i],m,kn A,Gf.mp K _ (List.getElem_mem _)⟩).elim (λh=> ?_) id;(refine aS h ?_;clear h;intro j l h l);trivial
 have nd:(n++d).Nodup:=by
  rw [Gn];exact(cB R.nodup w.nodup (λa H b Y=>HG (fa (R.new a H).2.1 (q b Y))))
 refine gl (R.join (ρ':=[]) (mu':=[]) (r0:=[]) (ρ2:=n++d) (mu2:=g++y) O0 w (T.toN λl=>true) (by(rwa [is,is,R.len,lM,w.len];rfl)) nd (λi a h=>u _ _ (R.pre _ _ h)) λi a o2 h1 h2=>by
  by_cases m:i < g.length
  ·rw [i1 m]at h2
   rw [i1 (by rwa [R.len];exact m)]at h1
   exact .inr ⟨by simp,i,o2,h1,h2,aE.mono u⟩
  ·rw [gv (Go.mp m)]at h2
   rw [gv (by rwa [R.len];exact Go.mp m),R.len]at h1
   refine ab (gM _ _ h2) λo q1 U=> ?_;exact .inl ⟨_,o,h1,q1,aE.re U B⟩) λZ XX W L2=> ?_
 have F:=XX (λl=>true) λi a l h=>u i a h;refine(an D (iA (n++d) Z ⟨u,F.keep,F.own,F.size⟩ (Val.re W (λi x a h1 h2=> ?_) _ _ _ C E)));cases h1;exact⟨a,k i a h2,rfl⟩
end Mine
section
open PySem.Builtin
namespace Mine
theorem uh:∀{a:A8} {w:Gv} {A:GI} {E:KD} {s:dd} {K:Gw} {b:Str} {v:da} {T:String} {f:Hk Bool} {Q:da×List da→dd→Prop} (X:K.In s.heap) (k:typeOf (.type T)=pure (.type "type")) (l:Manifest.isStub T=false) (e:findCls K (.type T) (.type "type") b=some (.val v)) (i:handedIn v=true) (h:Q (v,[]) {s with toks:=s.toks+1}),eo (GO a w) A (JQ (.type T) b f) Q E s:=by
 refine' eI11;intro Q f T v b K s E A w a X k l e i h;have c:opaqueClassAbove (.type T)=pure none:=by unfold opaqueClassAbove;dsimp only;rwa [l];rfl
 have j:Hz (GO a w) s.heap (typeOf (.type T)) (.type "type"):=Hz.of_pure k;have g:Ih K (.type "type") "__getattribute__"=some (some (.builtin "type.__getattribute__")):=type_tga;refine dV (dV (j.here ((J0 X g).here ?_)));dsimp only;rwa [if_pos canon_tga];refine dV (ex (Q:=λv=>Q (v,[])) (E:=E) ?_ (λd d z=>eM z) λd d z=>z);have m:Hz (GO a w) s.heap (opaqueClassAbove (.type T)) none:=Hz.of_pure c;refine cls_open X m j g (looks_hook X (r:=none) (by rfl)) (by show subIn K _ _=_;rfl) e
  (eM (by show eo _ _ (handedOut v) _ _ _;rwa [handedOut_of i];exact eM h))
section
variable{P:ed}{a:A8}{w:Gv}{A:GI}{R:Result→dd→Prop}{h:Gm}{g:Array GenState}{d:Drawn}{t:Nat}{os:OsState}
theorem yV(S:Ki):peek (KK P) S (Bind.madeHere "object.__new__" (.ref 597))=some ():=by rfl'
theorem z4(S:Ki):peek (KK P) S (isType (.ref 597))=some true:=by rfl'
theorem yr(S:Ki):peek (KK P) S (Kk (.ref 597) (.ref 597))=some true:=by rfl'
theorem uM:((KK P).lookup 597).map (λo=>match o.data with| .cls cd=>some (cd.abstract,cd.hasDel)|_=>none)=some (some (false,false)):=by rfl'
theorem BI(S:Ki):peek (KK P) S (JL "object.__new__" ⟨[.ref 597],[]⟩)=some ():=by rfl'
set_option tactic.hygienic true in
theorem AL:∀(X:(KK P).In h) (j:R (.ok (.ret (.ref (h.objs.size+1)))) ⟨(h.push Im).push (Jw 597 h.objs.size),g,d,t,os⟩),JU (GO a w) A (.call (.builtin "object.__new__") ⟨[.ref 597],[]⟩) R ⟨h,g,d,t,os⟩:=by
 revert P a w A R h g d t os;refine' eI10;intro os t d g h R A w a P X j;refine ab (mr.mp (uM (P:=P))) λo n e=> ?_;obtain⟨u,p,m,s⟩:=o
 split at e
 rotate_left
 ·exact noS e
 rename_i l b
 dsimp only at b;subst b;have r:l.abstract=false:=congrArg (λz=>(z.getD (true,true)).1) e;have q:l.hasDel=false:=congrArg (λz=>(z.getD (true,true)).2) e;have k:=X _ _ n;have F:=PySem.F.objNew;refine codeAny_call_builtin_code (Code.quiet_builtin _ F.quiet) ?_;have i:Hz (GO a w) h (JL "object.__new__" ⟨[.ref 597],[]⟩) ():=Ig X (BI _);refine i.here ?_;refine JZ F.entry ?_;have c:Hz (GO a w) h (Bind.madeHere "object.__new__" (.ref 597)) ():=Ig X (yV _);have f:Hz (GO a w) h (isType (.ref 597)) true:=Ig X (z4 _);refine dV (f.here (dV (c.here ?_)));refine dV (dV (I1 k (eM ?_)));rwa [r];show eo _ _ (((alloc Im>>=λx=>pure (some x))>>=_)) _ _ _;refine dV (dV (Kj (eM (dV ?_))));show eo _ _ (newObjAsIs _ _ _) _ _ _;refine dV (Kj (dV (dV (I1 (g0 _ (g0 _ k)) (eM ?_)))));rwa [q];refine eM (eM ?_);show R _ _;rw [sm];exact j
end
set_option genInjectivity false in
structure N90 where
 a1:Expr
 b1:Expr
 p1:nR
 a2:Expr
 b2:Expr
 p2:nR
 pb:nR
 body:List k0
 pi:nR
 ob:Expr
 ap:nR
 ar:Expr
 cp:nR
 rp:nR
deriving Nonempty
noncomputable def N90.stmts(i:N90):List k0:=[.If (.BoolOp .And [.Compare i.a1 [.IsNot] [i.b1] i.p1, .Compare i.a2 [.IsNot] [i.b2] i.p2] i.pb) i.body [] i.pi, .Return (some (.Call (.Attribute i.ob "__new__" i.ap) [i.ar] [] i.cp)) i.rp]
def Dj(l:List k0):N90:=aHd l df λs=>aHd l.tail df λr=>aIf s df λt b a p=>sE t df λl m=>aH l df λe l=>aH l df λn a=>sD e df λa1 l i=>aH l df λk a=>sD n df λa2 l h=>aH l df λo a=>sC r df λe q=>kM e df λf j cp=>aH j df λc a=>aAt f df λd a g=>⟨a1,k,i,a2,o,h,m,b,p,d,g,c,cp,q⟩
def n90(P:ed):N90:=Dj (ae (KK P) 90)
def fH(P:ed):Cfg:={fi:=0,names:=ce (KK P) 90,globs:=("object", .type .object)::G0}
theorem Bm(P:ed):(fH P).globs.all (oG (KK P))=true:=by rfl'
theorem BP(P:ed):ae (KK P) 90=(n90 P).stmts:=by rfl'
theorem Fc(P:ed):fdB (KK P) 90 ["cls","args","kwargs"]=true:=by rfl'
noncomputable def f90(a b:cv):AO:= .frame [("cls", .adr 597),("args", .adr a),("kwargs", .adr b)]
theorem Ed(P:ed)(a b:cv):(fns (fH P) 40).E (n90 P).a1 [f90 a b]= .ok [] (.adr 597) [f90 a b]:=by rfl'
theorem Ec(P:ed)(a b:cv):(fns (fH P) 40).E (n90 P).b1 [f90 a b]= .ok [] (.adr 350) [f90 a b]:=by rfl'
theorem Eb(P:ed)(a b:cv):(fns (fH P) 40).E (n90 P).a2 [f90 a b]= .ok [] (.adr 597) [f90 a b]:=by rfl'
theorem Ea(P:ed)(a b:cv):(fns (fH P) 40).E (n90 P).b2 [f90 a b]= .ok [] (.adr 597) [f90 a b]:=by rfl'
theorem D9(P:ed)(a b:cv):(fns (fH P) 40).E (n90 P).ob [f90 a b]= .ok [] (.type .object) [f90 a b]:=by rfl'
theorem xM(P:ed)(a b:cv):dj (fns (fH P) 40) [(n90 P).ar] [f90 a b]= .ok [] [.adr 597] [f90 a b]:=by rfl'
theorem Cv(P:ed):I7 .IsNot (n90 P).b1=false:=by rfl'
theorem Cu(P:ed):I7 .IsNot (n90 P).b2=false:=by rfl'
theorem Ct(P:ed):dt (n90 P).ob=false:=by rfl'
theorem Cs(P:ed):(n90 P).ap.endLine=(n90 P).cp.line:=by rfl'
theorem z9(P:ed)(u v:da):fS (KK P) 90 [u,v] (newTuple [v]>>=λt=>alloc {cls:= .type "dict",data:= .dict #[]}>>=λd=>pure [("cls",u),("args",t),("kwargs", .ref d)]):=by unfold fS;kernel_rfl
theorem z8(P:ed):((KK P).lookup 597).isSome=true:=by rfl'
theorem z7(P:ed):((KK P).lookup 350).isSome=true:=by rfl'
theorem z6(P:ed):((KK P).lookup 597).map (λo=>o.cls)=some (.type "type"):=by rfl'
theorem yL(P:ed):findCls (KK P) (.type "object") (.type "type") "__new__"=some (.val (.builtin "object.__new__")):=by rfl'
theorem v6:handedIn (.builtin "object.__new__")=true:=by decide+kernel
theorem pv:typeOf (.type "object")=pure (.type "type")∧Manifest.isStub "object"=false:=⟨by rfl',by decide+kernel⟩
theorem nY:∀{p:A8} {w:Gv} {d:Bd} {k:KB} {g:KM} {s:dd} {C:cv} (R:aq p w d k g s) (j:d.ρ₀=[]),aq p w d [s.heap.objs.size+1,s.heap.objs.size] [.inst C 1, .ns []] {s with heap:=(s.heap.push Im).push (Jw C s.heap.objs.size)}:=by
 refine' eI7;intro C s g k d w p R j;have m:((s.heap.push Im).push (Jw C s.heap.objs.size)).get? (s.heap.objs.size+1)=some (Jw C s.heap.objs.size):=by heap_get
 have l:((s.heap.push Im).push (Jw C s.heap.objs.size)).get? s.heap.objs.size=some Im:=g0 _ (Gl _ rfl);have f:((s.heap.push Im).push (Jw C s.heap.objs.size)).objs.size=s.heap.objs.size+2:=by(rwa [sm _ _,sm _ _];rfl)
 have e:=R.big;refine⟨rfl,by simp,λi a o h1 h2=> ?_,λb o h=>g0 _ (g0 _ (R.base b o h)),λa ha=> ?_,(by show 1 < _;rwa [f];exact fa e (og _ _)),λa ha=>fa (R.hid a ha) (by show _≤_;rwa [f];exact og _ _),λi a h=>by rw [j]at h;trivial,R.gens,R.os⟩
 ·refine bq.get ?_ i a o h1 h2;exact⟨⟨_,_,m,rfl⟩,⟨#[],0,l,rfl⟩,KP⟩
 ·have c:s.heap.objs.size≤a∧a < s.heap.objs.size+2:=by
   rcases q4.mp ha with rfl|ha
   ·exact(an (GL _) (ph _))
   ·rwa [mx.mp ha];exact(an (fx _) (Nat.lt_succ_of_lt (ph _)))
  exact(iB (λo h=>absurd (wl (R.base _ _ h)) (Go.mpr c.1)) (by show a < _;rwa [f];exact c.2) (λh=>absurd (R.hid _ h) (Go.mpr c.1)) (beq_eq_false_iff_ne.mpr (Iq (fa e c.1))))
section
variable{P:ed}{a b:KC}{c:Cx}
theorem BN:∀{H:cv→Prop} {s:dd} {v:da} {R':Result→dd→Prop} (Tp:aR (KK P) a b) (T:ak c (KK P) a b) (hr:av 1 c.A) (R:aq c.prog c.w (c.at H 0) [] [] s) (ht:1≤s.toks) (k:∀x I y,1≤I.toks→aq c.prog c.w (c.at H 0) y [.inst 597 1, .ns []] I→Ext [] [] s y [.inst 597 1, .ns []] I→y[0]? =some x→R' (.ok (.ret (.ref x))) I),JU c.M c.A (.call (.ref 90) ⟨[.ref 597,v],[]⟩) R' s:=by
 revert P a b c;refine' eI8;intro R' v s H c b a P Tp T hr R ht k;refine au (eO (Fc P)) λN F=> ?_;refine ab F.ob λo ho hd=> ?_;have X:(KK P).In s.heap:=λg o e=>R.base _ _ (T.K g o e);have a0:i3 a b (fH P).globs:=bh Tp (Bm P);have LV:Lev (KK P) a b (fH P) 0:=ec a0 rfl rfl rfl rfl rfl rfl cb.nil;refine gW (k:=0) (n:=0) (H:=H) (ρ:=[]) (mu:=[]) (ps:=["cls","args","kwargs"]) (xs:=[.adr 597, .adr s.heap.objs.size, .adr (s.heap.objs.size+1)]) T hr F.body (F.ok (fH P) rfl) F.par F.nd rfl (X _ _ ho) hd (Jv X F.code) rfl (λA E Q kk=> ?_) (λx j h=>by exact noS h) λL s1 H1 X1=> ?_
 ·rwa [(z9 P _ _).at F.isFd]
  refine ax (lC R (ob:={cls:= .type "tuple",data:= .seq [v].toArray}) rfl) λR1 X1 D=> ?_;refine ax (lC R1 (ob:={cls:= .type "dict",data:= .dict #[]}) rfl) λR2 X2 D=> ?_;refine dV (Ke (dV (Kj (eM ?_))) (by rwa [HF];show 1≤16777216;decide))
  have e2:(s.heap.push {cls:= .type "tuple",data:= .seq [v].toArray}).objs.size=s.heap.objs.size+1:=sm ..;have:=kk [.ref 597, .ref s.heap.objs.size, .ref (s.heap.objs.size+1)] {s with heap:=(s.heap.push {cls:= .type "tuple",data:= .seq [v].toArray}).push {cls:= .type "dict",data:= .dict #[]}} R2 (X1.trans X2) ht ⟨_,_,rfl,rfl,_,_,rfl,rfl,_,_,rfl,rfl,rfl⟩ rfl
  rw [←e2]at this;exact this
 ·rwa [BP P]
  have G:=ef (H:=H) (n:=0) (L:=L) (f:=90) T LV hr (F.ok (fH P) rfl);have O:=bj G 40;refine au (Gj.mp (z8 P)) λo5 l5=> ?_;refine au (Gj.mp (z7 P)) λo3 l3=> ?_;have c5:o5.cls= .type "type":=by have:=z6 P;rw [l5]at this;exact ds this
  refine pp (Kf (isTrue_and (HE ?_ (Cv P))));refine(O.E _).use H1 (Ed P _ _) trivial λu2 s2 b0 H2 X2 r2=>(O.E _).use H2 (Ec P _ _) trivial λu3 s3 a9 H3 X3 r3=> ?_;cases r2;cases r3;have J:(KK P).In s3.heap:=λg o e=>H3.rep.base _ _ (T.K g o e);refine wpAny_isNot_ref_other (by decide) (J _ _ l5) (J _ _ l3) (by rwa [c5];decide) (HM ?_)
  refine isTrue_and (HE ?_ (Cu P));refine(O.E _).use H3 (Eb P _ _) trivial λu4 s4 ag H4 X4 r4=>(O.E _).use H4 (Ea P _ _) trivial λu5 s5 al H5 X5 r5=> ?_;cases r4;cases r5;refine wpAny_isNot_ref_self (HM ?_);refine Gc ?_;refine pp (IJ ?_);(rw [arm_eval_Call];rwa [kL (Ct P)]);refine dV ((O.E _).use H5 (D9 P _ _) trivial λu6 U as H6 X6 r6=>dV (Hc ?_));have a4:u6= .type "object":=r6;subst a4;have w:Js (([(n90 P).ar]:List Expr).length+([]:List Keyword).length) (H9 (n90 P).cp (G8 [(n90 P).ar] (Ju N L 90))) (Kc (n90 P).cp (Ja [] (Ju N L 90)))=true:=by
   unfold Js;rwa [mE (eP.use (xM P 0 0) trivial)];rfl
  have B:I8 true (n90 P).ob (Ju N L 90) (n90 P).ap (n90 P).cp=pure (n90 P).cp:=by
   unfold I8;simp [Cs P]
  unfold methodCall;rwa [w];have Y:(KK P).In U.heap:=λg o e=>H6.rep.base _ _ (T.K g o e);refine dV (A9 (uh (K:=KK P) (T:="object") Y pv.1 pv.2 (yL P) v6 ?_));refine dV (JD B ?_);refine ai (H6.same (s':={U with toks:=U.toks+1}) rfl rfl rfl (oa H6.tk)) λH7 X7=> ?_
  refine dq O jY H7 (xM P _ _) trivial λus s8 ad H8 X8 Z=> ?_;refine ab (Vals.one Z) λu a7 Z=> ?_;have W:u= .ref 597:=Z;subst W;subst a7;have XX:=(((((((X1.trans X2).trans X3).trans X4).trans X5).trans X6).trans X7).trans X8);refine HJ ?_;obtain⟨p,g8,d8,t8,z⟩:=s8;have a6:(KK P).In p:=λg o e=>H8.rep.base _ _ (T.K g o e);refine AL a6 ?_;have a5:(bK c H 0 N L 90).d.ρ₀=[]:=List.take_zero (l:=c.d.ρ₀);have R9:=nY (C:=597) H8.rep a5;have hs:s.heap.objs.size≤p.objs.size:=XX.size;have r:∀m q,s.heap.get? m=some q→p.get? m=some q:=λm q h2=>XX.keep m q (λt=>aS t λi o h1 D=>by trivial) h2
  have E9:Ext [] [] s [p.objs.size+1,p.objs.size] [.inst 597 1, .ns []] ⟨(p.push Im).push (Jw 597 p.objs.size),g8,d8,t8,z⟩:=by
   refine⟨λi g h=>by trivial,λm q D h2=>g0 _ (g0 _ (r m q h2)),λg t=>bg t λi o h1 D D=> .inr ?_, ?_⟩
   ·have:g∈[p.objs.size+1,p.objs.size]:=lf h1
    rcases q4.mp this with rfl|this
    ·exact oa hs
    ·rwa [mx.mp this];exact hs
   ·dsimp only;rwa [sm _ _,sm _ _];exact oa (oa hs)
  exact k _ ⟨(p.push Im).push (Jw 597 p.objs.size),g8,d8,t8,z⟩ [p.objs.size+1,p.objs.size] H8.tk R9 E9 rfl
end
theorem D7(P:ed):fdB (KK P) 374 ["self","s"]=true:=by rfl'
theorem D8(P:ed):fdB (KK P) 367 ["self","initial_value","newline"]=true:=by rfl'
theorem FC(P:ed)(v w:da):cK (KK P) 374 [v,w] [("self",v),("s",w)]:=λS=>by rfl'
theorem FE(P:ed)(v w:da):cK (KK P) 367 [v,w] [("self",v),("initial_value",w),("newline", .str "\n" 756)]:=λS=>by rfl'
def sTr(b:Str):ay:=sAt [.ref 0, .str b] [.inst 597 1,sio "" 0] [] (.str b) [.inst 597 1,sio "" 0]
theorem EH(P:ed)(b:Str):am (fns (eE P 2 374 [] []) 40) (ae (KK P) 374) [.inst 597 1,sio "" 0, .frame [("self", .ref 0),("s", .str b)]]= .ok [] (.ret (.str b)) [.inst 597 1,sio "" 0, .frame [("self", .ref 0),("s", .str b),("newline", .str "\n")]]:=by rfl'
theorem EI(P:ed)(b:Str):am (fns (eE P 2 367 [] [(374,2,sTr b)]) 40) (ae (KK P) 367) [.inst 597 1, .ns [], .frame [("self", .ref 0),("initial_value", .str b),("newline", .str "\n")]]=
 .ok [true=true,true=true,[V.ref 0,V.str b]=[V.ref 0,V.str b],[AO.inst 597 1,sio "" 0]=[AO.inst 597 1,sio "" 0],true=true,true=true] .next [.inst 597 1,sio b 0, .frame [("self", .ref 0),("initial_value", .str b),("newline", .str "\n")]]:=by rfl'
section
variable{P:ed}{a b:KC}{c:Cx}
theorem Dg(f:aR (KK P) a b)(T:ak c (KK P) a b)(e:av 1 c.A)(d:Str):aI c 374 2 (sTr d):=
 eN (cfg:=eE P 2 374 [] []) (cfg':=eE P 2 374 [] []) (k:=0) T (gD (bh f (cS P)) rfl rfl rfl rfl rfl rfl cb.nil) rfl e (D7 P) rfl rfl rfl rfl (iV (FC P)) (EH P d) (λh=>h) (.inl rfl) rfl rfl
theorem Dh(f:aR (KK P) a b)(T:ak c (KK P) a b)(l:av 2 c.A)(d:Str):aI c 367 2 (sAt [.ref 0, .str d] [.inst 597 1, .ns []] [] .none [.inst 597 1,sio d 0]):=
 eN (cfg:=eE P 2 367 [] [(374,2,sTr d)]) (cfg':=eE P 2 367 [] [(374,2,sTr d)]) (k:=1) (X':=[.ref 0, .str d, .str "\n"]) T (gD (bh f (cS P)) rfl rfl rfl rfl rfl rfl (cb.cons (λi T r=>Dg f T r d) cb.nil)) rfl l (D8 P) rfl rfl rfl rfl
  (λF n m j=>by
   (refine bg (Vals.two j) λu w e h g=> ?_;subst e);exact(ah ([u,w, .str "\n" 756]) ⟨_,_,rfl,h,_,_,rfl,g,_,_,rfl,⟨_,rfl⟩,rfl⟩ (FE P u w))) (EI P d) (λi=>⟨rfl,rfl,rfl,rfl,rfl,rfl,KP⟩) (.inr (an rfl rfl)) rfl rfl
theorem a1(S:Ki):peek (KK P) S (Bind.madeBy (.ref 597))=some none:=by rfl'
theorem a2(S:Ki):peek (KK P) S (specialOf (.ref 597) "__call__")=some (some (.builtin "type.__call__")):=by rfl'
theorem a3(S:Ki):peek (KK P) S (isInstance (.ref 597) (.type "type"))=some true:=by rfl'
theorem a8(S:Ki):peek (KK P) S (mroOf (.ref 597))=some [Kl 597,Kl 120,Kl 93,da.type "object"]:=by rfl'
theorem n1:findCls (KK P) (.ref 597) (.type "type") "__new__"=some (.get (.builtin "staticmethod.__get__") (.ref 94) .none (.ref 597)):=by rfl'
theorem n2:readsIn (KK P) 597 (.type "type")=true:=by rfl'
theorem n3:recIn (KK P) 94 "staticmethod"=some [.ref 90]:=by rfl'
theorem n4:typeIn (KK P) (.ref 367)=some (.type "function"):=by rfl'
theorem wi(P:ed):Ih (KK P) (.ref 597) "__init__"=some (some (.ref 367)):=by rfl'
set_option tactic.hygienic true in
theorem zI:∀{H:cv→Prop} {s:dd} {i:Str} {k:Tok} (L:aR (KK P) a b) (T:ak c (KK P) a b) (J:av 3 c.A) (R:aq c.prog c.w (c.at H 0) [] [] s) (Z:1≤s.toks),eo c.M c.A (call (.ref 597) [.str i k]) (λx y=>1≤y.toks∧∃l,aq c.prog c.w (c.at H 0) l [.inst 597 1,sio i 0] y∧Ext [] [] s l [.inst 597 1,sio i 0] y∧Val (aa (c.at H 0) l [.inst 597 1,sio i 0] y.heap) l (.ref 0) x) NoE s:=by
 revert P a b c;refine' eI8;intro k i s H c b a P L T J R Z;have X:(KK P).In s.heap:=λj o e=>R.base _ _ (T.K j o e);refine ab (mr.mp (uM (P:=P))) λoc hl e=> ?_;obtain⟨cc,a4,a0,sl⟩:=oc
 split at e
 rotate_left
 ·exact noS e
 rename_i cd q
 dsimp only at q;subst q;have hC:=X _ _ hl;obtain⟨h,g,d,t,os⟩:=s;have n:Hz c.M h (Bind.madeBy (.ref 597)) none:=Ig X (a1 _);have call:Hz c.M h (specialOf (.ref 597) "__call__") (some (.builtin "type.__call__")):=Ig X (a2 _);have I:Hz c.M h (isInstance (.ref 597) (.type "type")) true:=Ig X (a3 _);have hm:Hz c.M h (mroOf (.ref 597)) [Kl 597,Kl 120,Kl 93,da.type "object"]:=Ig X (a8 _);refine HJ (codeAny_of_tree ?_);show eo _ _ (callAny (.ref 597) _) _ _ _;refine nd_load hC ?_;show eo _ _ (callAny.viaDunder (.ref 597) _) _ _ _;refine dV (call.at ?_);dsimp only;rwa [tc_bind _];refine dV (eM (dV (eM ?_)));refine eM (a:=Fin.again (.call (.builtin "type.__call__") ⟨[.ref 597, .str i k],[]⟩)) (And.intro rfl ?_);refine codeAny_call_builtin_at (Code.quiet_builtin _ (by decide+kernel)) entry_typeCall (check_slot tc_kind tc_split I (tc_args _ _ _) ?_)
 refine dV (hm.here ?_);refine dV (n.here ?_);refine dV (cls_bind X n2 n1 (HJ (sm_get (s:=⟨h,g,d,t+1,os⟩) X n3 (handed_on rfl ?_))));refine ai (R.same (s':=⟨h,g,d,t+1,os⟩) rfl rfl rfl) λR0 X0=> ?_;refine dV (A9 (HJ ?_));have T1:ak ({c with A:=c.A.under (.builtin "type.__call__" ⟨[.ref 597, .str i k],[]⟩)}:Cx) (KK P) a b:=⟨⟨T.base.g,T.base.b⟩,T.K,T.nolim,T.handled⟩
 have p:av 2 (c.A.under (.builtin "type.__call__" ⟨[.ref 597, .str i k],[]⟩)):=⟨by have:=J.1;show c.A.depth+1+2≤_;exact Lle [_] [Q0 (.a V0 Z12) Z1] 0 (.a (.a V0 Z0) Z4) Z1 rfl this,by have:=J.2;show c.A.units+1+5*2+100≤_;exact Lle [_] [Q0 (.a (.a V0 (.m 5 Z12)) Z10) Z11] 0 (.a (.a (.a V0 Z0) (.m 5 Z4)) Z10) Z11 rfl this⟩
 refine BN (c:={c with A:=c.A.under (.builtin "type.__call__" ⟨[.ref 597, .str i k],[]⟩)}) L T1 (p.le (by decide)) R0 (oa Z) λx s1 u E B X1 G=> ?_
 have W:(KK P).In s1.heap:=λj o e=>B.base _ _ (T.K j o e);refine aS (B.objs 0 x _ G rfl) λY D U g2=> ?_;refine aS (B.objs 1 Y _ g2 rfl) λes nn g3 g4=> ?_;have t1:Hz c.M s1.heap (typeOf (.ref x)) (.ref 597):=(Hz.ld U).andThen .now;have w:Hz c.M s1.heap (Kk (.ref 597) (.ref 597)) true:=Ig W (yr _);refine dV (dV (t1.at (w.at ?_)));refine dV (A9 (special_fn (C:=597) (f:=367) (od:=some ⟨.type "dict",none, .dict es nn, #[]⟩) (ox:=⟨.ref 597,some Y, .plain,D⟩) W ⟨U,rfl,rfl,g3⟩ (wi P) n4 ?_));have T2:ak ({c with A:=c.A.under (.builtin "type.__call__" ⟨[.ref 597, .str i k],[]⟩),d:={c.d with ρ₀:=[]}}:Cx) (KK P) a b:=⟨⟨T.base.g,T.base.b⟩,T.K,T.nolim,T.handled⟩
 have F:=Dh L T2 p i;refine ex (F.run H u [.inst 597 1, .ns []] s1 [.ref 0, .str i] [.ref x, .str i k] _ _ _ rfl B E ⟨_,_,rfl,⟨x,G,rfl⟩,_,_,rfl,⟨k,rfl⟩,rfl⟩ rfl ⟨rfl,rfl,KP⟩) (λv s2 hZ=> ?_) λO O z=>sq z;obtain⟨K,a5,r,R2,X2,l2,m2,hv⟩:=hZ;cases hv;refine ax (B.forget R2 X2 l2 (by rwa [show r.take [AO.inst 597 1,AO.ns []].length=_ from m2];rfl)) λR3 N O=> ?_
 rw [show r.take [AO.inst 597 1,AO.ns []].length=_ from m2]at R3 N;refine eM ?_;exact⟨K,u,R3,(X0.trans X1).trans N,x,G,rfl⟩
end
end Mine
end
section
set_option backward.match.sparseCases false
namespace Mine
theorem ze(P:ed):keepIn (KK P) (.ref 597)=true:=by rfl'
def ig:ay:=λc a=>one c λv=>b9 v λb=> .ok [] (.ref a.length) (a++[.inst 597 (a.length+1),sio b 0])
section
variable{P:ed}{a b:KC}{c:Cx}
theorem Et:∀(w:aR (KK P) a b) (T:ak c (KK P) a b) (p:av 3 c.A),FnW c 597 ig:=by
 revert P a b c;refine' eI4;intro c b a P w T p;have z:∀h:Gm,(∀f o,c.d.B f o→h.get? f=some o)→(KK P).In h:=λh l d o e=>l _ _ (T.K d o e);have N:∀f,oK c 597 [.str f] [.inst 597 1,sio f 0] (.ref 0):=λf=>⟨λh l=>keeps_K (ze P) h (z h l),λH s q R m n=>by
  (refine ab (Vals.one n) λu j g=> ?_;refine au g ?_;clear g;intro t i;subst i;subst j);exact zI w T p R m⟩
 refine⟨(N "").keep,λB x s D q vc r y R m n k C=> ?_⟩;refine ge k λv e k=>ez k λf A k=> ?_;subst e;subst A;(refine ax (Mine.Res.ok.inj k) λj g i=> ?_;subst j;subst g;subst i);exact((N f).toW rfl rfl).run B x s [.str f] q _ _ _ R m n rfl ⟨rfl,KP⟩
end
theorem D1(P:ed):fdB (KK P) 686 ["self"]=true:=by rfl'
theorem D2(P:ed):fdB (KK P) 679 ["self","newstream","newfile"]=true:=by rfl'
theorem Fv(P:ed)(v:da):cK (KK P) 686 [v] [("self",v)]:=λS=>by rfl'
theorem Fw(P:ed)(v w x:da):cK (KK P) 679 [v,w,x] [("self",v),("newstream",w),("newfile",x)]:=λS=>by rfl'
def fb(P:ed)(n f:Nat)(a:List (Nat×Bool))(c:List (cv×Nat×ay))(b:List (Str×cv×ay)):Cfg:={fi:=n,names:=ce (KK P) f,globs:=G0,meths:=MS,plain:=PS,props:=PR,orc:=a,fns:=c,wns:=b}
end Mine
end
namespace Mine
section
variable{c:Cx}{a:Cfg}{f:Fns}{d:KB}{b:KM}{s:dd}
theorem jU(G:aG c a)(O:bV c a f){o:Expr}{n:Str}{z p:nR}{j:List Expr}{g:cv}(D:dt o=false)(q:Nat.beq z.endLine p.line=true)(w:G6 j.length 29=true)(H:ac c a d b s)
 {t vc2:KG}{v:V}{xs:KN}{m l:KM}(R:f.E o b= .ok t v m)(J:aw t)(P:fX a v n m=some (.fn g))
 (x:∀h:Gm,(∀e o,c.d.B e o→h.get? e=some o)→∃k,(k=IQ∨k=Ip∨k=HN)∧Hz c.M h (Ka (.ref g)) k)
 (C:dj f j m= .ok vc2 xs l)(A:aw vc2){Q:KD}
 (k:∀u y r i,ac c a i l r→Ext d b s i l r→Val (aa c.d i l r.heap) i v u→Vals (aa c.d i l r.heap) i xs y→eo c.M c.A (call (.ref g) (u::y)) Q NoE r):
 eo c.M c.A (Gu (.Call (.Attribute o n z) j [] p) c.env) Q NoE s:=by
 have I:f6 o z p j=false:=by unfold f6;rwa [D,q,w];rfl
 refine ki D ((O.E o).use H R J λu s1 N E K B=>jT (fv:= .ref g) (first:=[u]) I (eP.use C A) ?_ (dq O x E C A λy r i F X L=>k u y r i F (K.trans X) (X.val B) L))
 have:=mn (name:=n) G E B;rw [P]at this;exact this
theorem lP:∀{g:Expr} {i:List k0} {o:nR} {Pm Q:dd→Prop} {QR:KD} (h1:eo c.M c.A (A0 g c.env (Gu g c.env)) (λe s2=>e=true∧eo c.M c.A (un i c.env) (λj s3=>(j= .next∧Pm s3)∨∃v,j= .ret v∧QR v s3) NoE s2) NoE s) (h2:∀s3,Pm s3→eo c.M c.A (A0 g c.env (Gu g c.env)) (λe p=>(e=false∧Q p)∨(e=true∧eo c.M c.A (un i c.env) (λj q=>∃v,j= .ret v∧QR v q) NoE p)) NoE s3),eo c.M c.A (IP (.While g i [] o) c.env) (λj m=>(j= .next∧Q m)∨∃v,j= .ret v∧QR v m) NoE s:=by
 revert c s;refine' eI8;intro QR Q Pm o i g s c h1 h2;refine JF (Ii (λk m=>(k=1∧m=s)∨(k=0∧Pm m)) ?_ 1 (.inl (an rfl rfl)))
 rintro k m (⟨rfl,rfl⟩|⟨rfl,hp⟩)
 ·refine ex h1 (λe s2 n=> ?_) λl l z=>sq z
  (refine ai n ?_;clear n;intro r h);subst r;refine ex h (λj s3 h3=> ?_) λl l z=>sq z;rcases h3 with⟨rfl,h3⟩|⟨v,rfl,h3⟩
  ·exact(ah 0 Nat.zero_lt_one (.inr ⟨rfl,h3⟩))
  ·exact .inr (ah v rfl h3)
 ·refine ex (h2 _ hp) (λe p h=> ?_) λl l z=>sq z
  rcases h with⟨rfl,h⟩|⟨rfl,h⟩
  ·exact Gc (.inl (an rfl h))
  ·refine ex h (λj q n=> ?_) λl l z=>sq z
   (refine ab n ?_;clear n;intro v u t);subst u;exact .inr (ah v rfl t)
end
end Mine
section
set_option backward.match.sparseCases false
namespace Mine
def lxG(b:V)(a:Str)(st:V)(d:Int)(c:cv):AO:= .ns [("instream",b),("infile", .str a),("posix", .bool true),("eof", .none),("commenters", .str "#"),("wordchars", .str WC),("whitespace", .str " \t\r\n"),("whitespace_split", .bool true),("quotes", .str "'\""),("escape", .str "\\"),("escapedquotes", .str "\""),("state",st),("pushback", .ref 4),("lineno", .int d),("debug", .int 0),("token", .str ""),("filestack", .ref 5),("source", .str "use"),("_punctuation_chars", .str ""),("sourcehook", .adr c)]
noncomputable def OC(b:KL)(a:KA):List AO:=[.cell (some (.ref 2)), .cell (some (.ref 9)), .cell (some (.ref 10)), .dict b, .strs a]
def OG(s1:AO)(b:V)(a:Str)(st:V)(e:Int)(d:cv)(c:KN)(f:KL)(g:KA):List AO:=[.inst 597 1,s1, .inst 732 3,lxG b a st e d, .deque [], .deque c]++OC f g
def dU(P:ed)(a:List (Nat×Bool))(c:List (cv×Nat×ay))(b:cv)(d:ay):Cfg:={fi:=11,names:=ce (KK P) 693,globs:=G0,meths:=MS,plain:=PS,props:=PR,orc:=a,fns:=c,owns:=[("sourcehook",732,b,11,d)]}
noncomputable def az(l:KL):AO:= .frame (("self", .ref 2)::l)
def wh0(l:List k0):Expr×List k0×nR:=aHd l (.List [] p0,[],p0) λs=>aIf s (aWh s (.List [] p0,[],p0) λt b a p=>(t,b,p)) λa l a a=>aHd l (.List [] p0,[],p0) λs=>aWh s (.List [] p0,[],p0) λt b a p=>(t,b,p)
def ifT(l:List k0):Expr:=match l with
 | .If t _ _ _::_=>t
 |_=> .List [] p0
noncomputable def ifB(l:List k0):List k0:=match l with
 | .If _ b _ _::_=>b
 |_=>[]
noncomputable def ifO(l:List k0):List k0:=match l with
 | .If _ _ b _::_=>b
 |_=>[]
def vS(n:Nat)(X:KN)(M:KM)(r:V)(a:KM):List Prop:=[V.closedL n X=true,aK n M=true,X=X,M=M,V.closed n r=true,aK n a=true]
def db(P:ed):List k0:=ae (KK P) 693
def W1(P:ed):Expr×List k0×nR:=wh0 ((db P).drop 2)
def W2(P:ed):Expr×List k0×nR:=wh0 ((db P).drop 3)
section
variable(P:ed)(b:Str)(p:Nat)(a:Str)(st:V)(f:Int)(d:cv)(c:KN)(e:KL)(g:KA)(h:KM)(i:ay)
theorem E0(r j:V)(l:Nat)(k:Int):am (fns (dU P [] [(700,6,sAt [.ref 2] (RT b p a st f "" d c) [] r (RT b l a j k "" d c))] d i) 40) ((db P).take 2) (OG (sio b p) (.ref 0) a st f d c e g++az []::h)= .ok (((0:Nat)≤16777216)::vS 6 [.ref 2] (RT b p a st f "" d c) r (RT b l a j k "" d c)) .next (OG (sio b l) (.ref 0) a j k d c e g++az [("raw",r)]::h):=by rfl'
theorem E1(w:Str):am (fns (dU P [(553018036,false)] [] d i) 40) ((db P).drop 2) (OG (sio b p) (.ref 0) a st f d c e g++az [("raw", .str w)]::h)= .ok [(w==("use":Str))=false] (.ret (.str w)) (OG (sio b p) (.ref 0) a st f d c e g++az [("raw", .str w)]::h):=by rfl'
theorem E2:am (fns (dU P [] [] d i) 40) ((db P).drop 2) (OG (sio b p) (.ref 0) a st f d [] e g++az [("raw", .none)]::h)= .ok [0≤16777216] (.ret .none) (OG (sio b p) (.ref 0) a st f d [] e g++az [("raw", .none)]::h):=by rfl'
theorem E3:am (fns (dU P [] [] d i) 40) (((db P).drop 2).take 1) (OG (sio b p) (.ref 0) a st f d c e g++az [("raw", .none)]::h)= .ok [] .next (OG (sio b p) (.ref 0) a st f d c e g++az [("raw", .none)]::h):=by rfl'
theorem E3a:(fns (dU P [] [] d i) 40).T (W2 P).1 (OG (sio b p) (.ref 0) a st f d c e g++az [("raw", .none)]::h)= .ok [] true (OG (sio b p) (.ref 0) a st f d c e g++az [("raw", .none)]::h):=by rfl'
theorem E3b(x:V):(fns (dU P [] [] d i) 40).T (ifT (W2 P).2.1) (OG (sio b p) (.ref 0) a st f d (x::c) e g++az [("raw", .none)]::h)= .ok [(x::c).length≤16777216] false (OG (sio b p) (.ref 0) a st f d (x::c) e g++az [("raw", .none)]::h):=by rfl'
theorem E3c(k:Str)(j:cv)(l:Int):am (fns (dU P [] [(686,6,sAt [.ref 2] (RT b p a st f "" d (.ftup [.str k, .adr j, .int l]::c)) [] .none [.inst 597 1,gN .none (ct p), .inst 732 3,lxG (.adr j) k (.str " ") l d, .deque [], .deque c])] d i) 40) ((ifO (W2 P).2.1).take 1) (OG (sio b p) (.ref 0) a st f d (.ftup [.str k, .adr j, .int l]::c) e g++az [("raw", .none)]::h)= .ok (vS 6 [.ref 2] (RT b p a st f "" d (.ftup [.str k, .adr j, .int l]::c)) .none [.inst 597 1,gN .none (ct p), .inst 732 3,lxG (.adr j) k (.str " ") l d, .deque [], .deque c]) .next (OG (gN .none (ct p)) (.adr j) k (.str " ") l d c e g++az [("raw", .none)]::h):=by rfl'
theorem E3x(w:Str):(fns (dU P [] [] d i) 40).T (W2 P).1 (OG (sio b p) (.ref 0) a st f d c e g++az [("raw", .str w)]::h)= .ok [] false (OG (sio b p) (.ref 0) a st f d c e g++az [("raw", .str w)]::h):=by rfl'
theorem E3n:am (fns (dU P [] [] d i) 40) (W2 P).2.1 (OG (sio b p) (.ref 0) a st f d [] e g++az [("raw", .none)]::h)= .ok [0≤16777216] (.ret .none) (OG (sio b p) (.ref 0) a st f d [] e g++az [("raw", .none)]::h):=by rfl'
theorem E3r(w:Str):am (fns (dU P [] [] d i) 40) ((db P).drop 4) (OG (sio b p) (.ref 0) a st f d c e g++az [("raw", .str w)]::h)= .ok [] (.ret (.str w)) (OG (sio b p) (.ref 0) a st f d c e g++az [("raw", .str w)]::h):=by rfl'
theorem E4t:(fns (dU P [] [] d i) 40).T (ifT ((db P).drop 2)) (OG (sio b p) (.ref 0) a st f d c e g++az [("raw", .str "use")]::h)= .ok [] true (OG (sio b p) (.ref 0) a st f d c e g++az [("raw", .str "use")]::h):=by rfl'
theorem E4w:(fns (dU P [] [] d i) 40).T (W1 P).1 (OG (sio b p) (.ref 0) a st f d c e g++az [("raw", .str "use")]::h)= .ok [] true (OG (sio b p) (.ref 0) a st f d c e g++az [("raw", .str "use")]::h):=by rfl'
theorem E4x(w:Str)(l:KL):(fns (dU P [] [] d i) 40).T (W1 P).1 (OG (sio b p) (.ref 0) a st f d c e g++az (("raw", .str w)::l)::h)= .ok [] (w==("use":Str)) (OG (sio b p) (.ref 0) a st f d c e g++az (("raw", .str w)::l)::h):=by rfl'
theorem E4n(l:KL):(fns (dU P [] [] d i) 40).T (W1 P).1 (OG (sio b p) (.ref 0) a st f d c e g++az (("raw", .none)::l)::h)= .ok [] false (OG (sio b p) (.ref 0) a st f d c e g++az (("raw", .none)::l)::h):=by rfl'
theorem E4a(w:Str)(k j:V)(n:Nat)(l:Int)(m:KA):am (fns (dU P [] [(700,6,sAt [.ref 2] (RT b p a st f "" d c) [] (.str w) (RT b n a k l "" d c))] d (sAt [.str w] (OG (sio b n) (.ref 0) a k l d c e g) [] j (OG (sio b n) (.ref 0) a k l d c e m))) 40) ((W1 P).2.1.take 1) (OG (sio b p) (.ref 0) a st f d c e g++az [("raw", .str "use")]::h)= .ok (vS 6 [.ref 2] (RT b p a st f "" d c) (.str w) (RT b n a k l "" d c)++vS 11 [.str w] (OG (sio b n) (.ref 0) a k l d c e g) j (OG (sio b n) (.ref 0) a k l d c e m)++[(732:cv)=732,some (V.adr d)=some (V.adr d)]) .next (OG (sio b n) (.ref 0) a k l d c e m++az [("raw", .str "use"),("spec",j)]::h):=by rfl'
theorem E4d(k j:Str):am (fns (dU P [] [] d i) 40) ((ifB ((W1 P).2.1.drop 1)).take 1) (OG (sio b p) (.ref 0) a st f d c e g++az [("raw", .str "use"),("spec", .ftup [.str k, .str j])]::h)= .ok [] .next (OG (sio b p) (.ref 0) a st f d c e g++az [("raw", .str "use"),("spec", .ftup [.str k, .str j]),("newfile", .str k),("newstream", .str j)]::h):=by rfl'
theorem E5(w:Str)(l:KL):am (fns (dU P [] [] d i) 40) ((db P).drop 3) (OG (sio b p) (.ref 0) a st f d c e g++az (("raw", .str w)::l)::h)= .ok [] (.ret (.str w)) (OG (sio b p) (.ref 0) a st f d c e g++az (("raw", .str w)::l)::h):=by rfl'
theorem E5n(l:KL):am (fns (dU P [] [] d i) 40) ((db P).drop 3) (OG (sio b p) (.ref 0) a st f d [] e g++az (("raw", .none)::l)::h)= .ok [0≤16777216] (.ret .none) (OG (sio b p) (.ref 0) a st f d [] e g++az (("raw", .none)::l)::h):=by rfl'
end
end Mine
end
namespace Mine
def Ca(p:Nat)(b:Str)(a:cv)(d:Int)(e:cv)(c:KN):List AO:=[.inst 597 1,gN .none (ct p), .inst 732 3,lxG (.adr a) b (.str " ") d e, .deque [], .deque c]
theorem EC(P:ed)(b:Str)(p:Nat)(f:Str)(st:V)(h:Int)(g:cv)(d:KN)(c:Str)(a:cv)(e:Int):am (fns (fb P 6 686 [] [(442,2,l7)] []) 40) (ae (KK P) 686) (RT b p f st h "" g (.ftup [.str c, .adr a, .int e]::d)++[.frame [("self", .ref 2)]])=
 .ok [true=true,true=true,[V.ref 0]=[V.ref 0],[AO.inst 597 1,sio b p]=[AO.inst 597 1,sio b p],true=true,true=true,d.length≤16777216] .next (Ca p c a e g d++[.frame [("self", .ref 2)]]):=by rfl'
theorem ED(P:ed)(b:Str)(p:Nat)(c:Str)(st:V)(g:Int)(f:cv)(a:KN)(d e:Str):am (fns (fb P 6 679 [] [] [("StringIO",597,ig)]) 40) (ae (KK P) 679) (RT b p c st g "" f a++[.frame [("self", .ref 2),("newstream", .str d),("newfile", .str e)]])=
 .ok [V.adr 597=V.adr 597,a.length+1≤16777216] .next ([.inst 597 1,sio b p, .inst 732 3,lxG (.ref 7) e st 1 f, .deque [], .deque (.ftup [.str c, .ref 0, .int g]::a), .frame [("self", .ref 2),("newstream", .ref 7),("newfile", .str e)], .inst 597 8,sio d 0]):=by rfl'
section
variable{P:ed}{b d:KC}{c:Cx}
theorem qI{e:Cfg}{k:Nat}(i:aR (KK P) b d)(s:e.wns=[(("StringIO":Str),597,ig)])(l:e.globs=G0)(h1:e.meths=MS)(h2:e.plain=PS)(h3:e.props=PR)(j:e.owns=[])(o:e.sets=[])(p:cb (KK P) b d (k+3) e.fns):Lev (KK P) b d e (k+3):=
 ⟨by rwa [l];exact bh i (cS P),k8 (by rwa [h1];exact mm P) (by rwa [h2];exact ku P) (λn C g m f h=>by rw [j]at h;cases h) o,p,λc T r=>kx i T (r.le (by exact Lle [_] [] 0 Z0 (.a V0 Z12) rfl)) h3,λx g f h c T r=>by
  rw [s]at h;unfold lkS at h;rcases q:af x "StringIO" with _|_
  ·rw [q]at h;cases h
  ·rw [q]at h;cases h;exact Et i T (r.le (by exact Lle [_] [] 0 Z12 (.a V0 Z12) rfl)),j⟩
theorem Dc(m:aR (KK P) b d)(T:ak c (KK P) b d)(q:av 2 c.A)(e:Str)(p:Nat)(i:Str)(st:V)(l:Int)(j:cv)(g:KN)(f:Str)(a:cv)(h:Int)(n:g.length≤16777216):
 aI c 686 6 (sAt [.ref 2] (RT e p i st l "" j (.ftup [.str f, .adr a, .int h]::g)) [] .none (Ca p f a h j g)):=
 eN (cfg:=fb P 6 686 [] [(442,2,l7)] []) (cfg':=fb P 6 686 [] [(442,2,l7)] []) (k:=1) T (kC (k:=0) m rfl rfl rfl rfl rfl rfl rfl (cb.cons (λo T r=>De m T r) cb.nil)) rfl q (D1 P) rfl rfl rfl rfl (nq (Fv P)) (EC P e p i st l j g f a h) (λo=>⟨rfl,rfl,rfl,rfl,rfl,rfl,n,KP⟩) (.inr ⟨rfl,rfl⟩) rfl rfl
def oN(a:Str)(p:Nat)(e:Str)(st:V)(j:Int)(i:cv)(g:KN)(f h:Str):List AO:=[.inst 597 1,sio a p, .inst 732 3,lxG (.ref 7) h st 1 i, .deque [], .deque (.ftup [.str e, .ref 0, .int j]::g), .frame [("self", .ref 2),("newstream", .ref 7),("newfile", .str h)], .inst 597 8,sio f 0]
theorem zH:∀{g:Str} {p:Nat} {l:Str} {st:V} {r:Int} {t:cv} {i:KN} {m w:Str} {H:cv→Prop} {u:KB} {s:dd} {J:KH} (U:aR (KK P) b d) (T:ak c (KK P) b d) (E:av 4 c.A) (N:i.length+1≤16777216) (R:aq c.prog c.w (c.at H 6) u (RT g p l st r "" t i) s) (K:1≤s.toks) (D:Vals (aa (c.at H 6) u (RT g p l st r "" t i) s.heap) u [.ref 2, .str m, .str w] J),eo c.M c.A (call (.ref 679) J) (λx I=>x= .none∧1≤I.toks∧∃y,aq c.prog c.w (c.at H 6) y (oN g p l st r t i m w) I∧Ext u (RT g p l st r "" t i) s y (oN g p l st r t i m w) I) NoE s:=by
 revert P b d c;refine no_implicit_lambda% (@Mine.pd _ (@Mine.pd _ ?_));refine' eI19;intro J s u H w m i t r st l p g c d b P _ _ U T E N R K D;refine au (eO (D2 P)) λfd F=> ?_;refine ab F.ob λo ho hd=> ?_;have X:(KK P).In s.heap:=λa o e=>R.base _ _ (T.K a o e);have LV:Lev (KK P) b d (fb P 6 679 [] [] [("StringIO",597,ig)]) 3:=qI (k:=0) U rfl rfl rfl rfl rfl rfl rfl cb.nil;(refine bg D ?_;clear D;intro W r1 q h1 h2;subst q);(refine bg h2 ?_;clear h2;intro u2 r2 q h3 h4;subst q);(refine ab (Vals.one h4) λu3 q h5=> ?_;subst q);refine HJ (gW (k:=3) (n:=6) (H:=H) (ρ:=u) (mu:=RT g p l st r "" t i) (ps:=["self","newstream","newfile"]) (xs:=[.ref 2, .str m, .str w]) T E F.body (F.ok (fb P 6 679 [] [] [("StringIO",597,ig)]) rfl) F.par F.nd rfl (X _ _ ho) hd (Jv X F.code) rfl
  (f5 X R K ⟨W,_,rfl,h1,u2,_,rfl,h3,u3,_,rfl,h5,rfl⟩ rfl (Fw P W u2 u3) F.isFd) (λx j h=>by cases h) λL s1 H1 X1=> ?_)
 have G:=ef (H:=H) (n:=6) (L:=L) (f:=679) T LV E (F.ok (fb P 6 679 [] [] [("StringIO",597,ig)]) rfl);refine ex (dp G 40 H1 (ED P g p l st r t i m w) ⟨rfl,N,KP⟩) (λZ s2 Y=> ?_) λB B z=>z;obtain⟨C,O,X2,A⟩:=Y
 induction Z with
 |next=>exact(cB rfl O.tk (ah C O.rep (X1.trans X2)))
 |ret v=>(refine ab A ?_;clear A;intro B h B);cases h
 |brk=>cases A
 |cont=>cases A
end
theorem byG{T:Prop}(h:∀G:Prop,(T→G)→G):T:=h T id
section
variable{p:A8}{w:Gv}{d:Bd}{a:KB}{b:KM}{s:dd}
theorem aq.subPre(R:aq p w d a b s){n:Nat}(l:aK n (b.take n)=true):
 aq p w (d.but a b (a.take n) []) (a.take n) (b.take n) s∧Le (aa d a b s.heap) (aa (d.but a b (a.take n) []) (a.take n) (b.take n) s.heap)∧∀f,Own (a.take n) (b.take n) f→Own a b f:=by
 refine R.sub (by(rwa [p7,p7,R.len];rfl)) (R.nodup.sublist (List.take_sublist n a)) (λi f h=>by trivial) λi f o h1 h2=> ?_
 have c:=bW l h2;rw [FD]at h1 h2
 split at h1
 ·rename_i k
  rw [if_pos k]at h2;exact⟨i,o,h1,h2,aE.cut c λj e g m=>by rwa [FD,if_pos g];exact m⟩
 ·exact noS h1
theorem n5{f g:KB}{h h2:Gm}{as:KB}{os:KM}{k:Nat}(l:∀(i:Nat) (c:cv) (o:AO),as[i]? =some c→os[i]? =some o→f[k+i]? =some c∧b[k+i]? =some o)(n:aK 0 os=true)(i:Nat)(c:cv)(o:AO)
 (h1:as[i]? =some c)(e:os[i]? =some o):fP p w f h b g h2 c o:=
 ⟨k+i,o,(l i c o h1 e).1,(l i c o h1 e).2,aE.cut (bW n e) λj q m q=>absurd m (o1 j)⟩
end
theorem nj{b:Type}{n:Nat}{l:List b}(h:n+1≤l.length){G:Prop}(k:∀a t,l=a::t→n≤t.length→G):G:=match l,h,k with
 |a::t,h,k=>k a t rfl (JG h)
theorem BB{e:Type}{n:Nat}{l:List e}(h:n+6≤l.length){G:Prop}(k:∀d a1 a2 a3 b c t,l=d::a1::a2::a3::b::c::t→n≤t.length→G):G:=
 nj h λd a g h=>nj h λa1 a o h=>nj h λa2 a j h=>nj h λa3 a m h=>nj h λb a f h=>nj h λc t i h=>k d a1 a2 a3 b c t (g.trans (congrArg _ (o.trans (congrArg _ (j.trans (congrArg _ (m.trans (congrArg _ (f.trans (congrArg _ i)))))))))) h
theorem Eg{o:Type}{l:List o}(h:12≤l.length){G:Prop}(k:∀i a1 a2 a3 c f j d a8 g a b t,l=i::a1::a2::a3::c::f::j::d::a8::g::a::b::t→G):G:=
 BB (n:=6) h λi a1 a2 a3 c f m e h=>BB (n:=0) h λj d a8 g a b t p m=>k i a1 a2 a3 c f j d a8 g a b t (p▸e)
noncomputable def pin(b a a8:cv):List (Option cv):=[none,none,none,none,none,none,some b,some a,some a8]
theorem iL{l:List (Option cv)}{c:KB}{b:cv}(h:fg l c):fg (none::l) (b::c):=λi a=>i.casesOn (λe=>noS (ds e)) λi e=>h i a e
theorem o8{l:List (Option cv)}{c:KB}{b:cv}(h:fg l c):fg (some b::l) (b::c):=λi a=>i.casesOn (λe=>ds e) λi e=>h i a e
theorem gQ{b a a8 f g c h j i:cv}{t:KB}:fg (pin b a a8) (f::g::c::h::j::i::b::a::a8::t):=
 iL (iL (iL (iL (iL (iL (o8 (o8 (o8 λd d e=>noS e))))))))
noncomputable def ri(l:List (Option V))(i:Nat):Option V:=(l[i]?).join
def HS(b:KB)(l:List (Option V))(c:KB):Prop:=∀i x a,ri l i=some x→c[i]? =some a→x= .adr a∨∃j,x= .ref j∧b[j]? =some a
section
variable{a c:KB}{l:List (Option V)}{b:cv}
theorem e9(h:HS a l c):HS a (none::l) (b::c):=λi x d=>i.casesOn (λe=>noS e) λi e=>h i x d e
theorem e8{j:Nat}(k:a[j]? =some b)(h:HS a l c):HS a (some (.ref j)::l) (b::c):=λi x d=>i.casesOn (λe f=> .inr ⟨j,(ds e).symm,k.trans f⟩) λi e=>h i x d e
theorem E7(h:HS a l c):HS a (some (.adr b)::l) (b::c):=λi x d=>i.casesOn (λe f=> .inl ((ds e).symm.trans (congrArg V.adr (ds f)))) λi e=>h i x d e
theorem wF:HS a [] c:=λd d d e=>noS e
end
noncomputable def dm(i:Nat):Bool:=Iy 2 i&&G6 i 12
theorem mV{d a1 e f:cv}{l t b:KB}(g:l.length=10):lL dm (d::a1::(l++t)) (e::f::(l++b))
 |0,_,hi,_=>ftB hi
 |1,_,hi,_=>ftB hi
 |i+2,a,hi,h=>by
  have c:i < l.length:=by rwa [g];exact JG (JG (ro (vl.mp hi).2))
  have h:(l++t)[i]? =some a:=h;show(l++b)[i]? =some a;rw [i1 c]at h⊢;exact h
mutual
theorem V.closed_mono{n:Nat}:∀(x:V),V.closed 0 x=true→V.closed n x=true
 | .ref i,h=>absurd (ro h) (Nat.not_succ_le_zero i)
 | .ftup xs,h=>V.closedL_mono xs h
 | .flist xs,h=>V.closedL_mono xs h
 | .none,_=>rfl
 | .bool _,_=>rfl
 | .int _,_=>rfl
 | .str _,_=>rfl
 | .type _,_=>rfl
 | .blt _,_=>rfl
 | .adr _,_=>rfl
 | .fstrs _,_=>rfl
theorem V.closedL_mono{n:Nat}:∀(a:KN),V.closedL 0 a=true→V.closedL n a=true
 |[],_=>rfl
 |x::a,h=>by
  have h:(V.closed 0 x&&V.closedL 0 a)=true:=h;rw [lq]at h;show(V.closed n x&&V.closedL n a)=true;rwa [V.closed_mono x h.1,V.closedL_mono a h.2];rfl
end
theorem bn{n:Nat}:∀(a:KL),aC 0 a=true→aC n a=true:=by
 intro d
 induction d with
 |nil=>
  intro _;exact rfl
 |cons c a b=>
  obtain⟨k,x⟩:=c;intro h;have h:(V.closed 0 x&&aC 0 a)=true:=h;rw [lq]at h;show(V.closed n x&&aC n a)=true;rwa [V.closed_mono x h.1,b h.2];rfl
theorem eB{b:Str}{p:Nat}{inf:Str}{st:LSt}{ln:Int}{hk:cv}{a:KN}(h:V.closedL 0 a=true):aK 6 (RT b p inf st.v ln "" hk a)=true:=by
 have h:=V.closedL_mono (n:=6) a h
 induction st<;>(show(V.closedL 6 a&&true)=true;rwa [h];rfl)
def GF(b:Str)(p:Nat)(a:Str)(st:LSt)(e:Int)(d:cv)(c:KN)(f:KL)(g:KA)(l:KL)(h:KM):List AO:=OG (sio b p) (.ref 0) a st.v e d c f g++az l::h
def fu(a1:cv)(a:Array (Option da))(b:Str)(p:Nat):List AO:=[.obj ⟨.ref 597,some a1, .plain,a⟩,sio b p]
theorem gR{b:Type}{l:List b}{n:Nat}(h:l.length=n+1):∃a r,l=a::r∧r.length=n:=by
 induction l using kv with
 |nil=>exact nomatch h
 |cons a r=>exact(eS a r rfl (HZ h))
theorem ES{d l:KB}(h:Pre d l):l=d++l.drop d.length:=by
 induction d generalizing l with
 |nil=>rfl
 |cons a d f=>
  induction l using kv with
  |nil=>exact noS (h 0 a rfl)
  |cons b l=>
   obtain rfl:=ds (h 0 a rfl);exact congrArg (b::·) (f λi c e=>h (i+1) c e)
theorem at9{l:KB}{d a1 a2 a3 a b:cv}(g:l.length=9)(h:Pre [d,a1,a2,a3,a,b] l):∃f c n1,l=[d,a1,a2,a3,a,b,f,c,n1]:=by
 have e:l=[d,a1,a2,a3,a,b]++l.drop 6:=ES h;have h3:(l.drop 6).length=2+1:=by rwa [I0,g];rfl
 refine aS (gR h3) λf r k h1=>aS (gR h1) λc r i h2=>aS (gR h2) λn1 r j h3=>(B6 f c n1 ?_);rwa [e,k,i,j,HR h3];rfl
section
variable{P:ed}{b e:KC}{c:Cx}{a:Cfg}{s:dd}
theorem tW:∀{J I a8:cv} {r:Str} {p:Nat} {C:Str} {st:LSt} {O:Int} {Y:cv} {B:KN} {tf:KL} {gs:KA} {l:KL} {tl:KM} {W nf:Str} {w a1 a2 a3 E G L v u:cv} {t:KB} {vs:KH} (Tp:aR (KK P) b e) (T:ak c (KK P) b e) (hr:av 4 c.A) (h0:c.d.ρ₀=pin J I a8) (b1:a.fi=11) (bs:a.cells=[]) (hs:B.length+1≤16777216) (ag:V.closedL 0 B=true) (b6:aC 0 tf=true) (hl:aC 0 l=true) (b8:aK 0 tl=true) (H:ac c a (w::a1::a2::a3::E::G::J::I::a8::L::v::u::t) (GF r p C st O Y B tf gs l tl) s) (hx:Vals (aa c.d (w::a1::a2::a3::E::G::J::I::a8::L::v::u::t) (GF r p C st O Y B tf gs l tl) s.heap) (w::a1::a2::a3::E::G::J::I::a8::L::v::u::t) [.ref 2, .str W, .str nf] vs),eo c.M c.A (call (.ref 679) vs) (λx s'=>x= .none∧∃N n1 sl,ac c a (N::n1::a2::a3::E::G::J::I::a8::L::v::u::w::a1::t) (GF W 0 nf st 1 Y (.ftup [.str C, .adr w, .int O]::B) tf gs l (fu a1 sl r p++tl)) s'∧
 bR dm (w::a1::a2::a3::E::G::J::I::a8::L::v::u::t) (GF r p C st O Y B tf gs l tl) s (N::n1::a2::a3::E::G::J::I::a8::L::v::u::w::a1::t) (GF W 0 nf st 1 Y (.ftup [.str C, .adr w, .int O]::B) tf gs l (fu a1 sl r p++tl)) s') NoE s:=by
 revert P b e c a s;refine' eI33;intro vs t u v L G E a3 a2 a1 w nf W tl l gs tf B Y O st C p r a8 I J s a c e b P Tp T hr h0 b1 bs hs ag b6 hl b8 H hx;generalize A:w::a1::a2::a3::E::G::J::I::a8::L::v::u::t=ρ at*;have R:=H.rep;have hc:=eB (b:=r) (p:=p) (inf:=C) (st:=st) (ln:=O) (hk:=Y) ag;refine ax (R.subPre (n:=6) hc) λR6 L6 O6=> ?_;have P6:eF 6 ρ (ρ.take 6):=λi g hi h=>by rwa [FD,if_pos hi];exact h
 have T2:ak ({c with d:={c.d with ρ₀:=[]}}:Cx) (KK P) b e:=⟨⟨T.base.g,T.base.b⟩,T.K,T.nolim,T.handled⟩
 refine aS (R.objs 0 w _ (by rwa [←A];rfl) rfl) λK sl g1 g2=> ?_
 have c4:K=a1:=by rw [←A]at g2;obtain rfl:=ds g2;rfl
 subst c4;refine ex (zH (c:={c with d:={c.d with ρ₀:=[]}}) Tp T2 hr hs R6 H.tk (Vals.cut L6 P6 _ _ rfl hx)) (λx s1 b2=>ax b2 λbu c1 c2=>ab c2 λc8 R1 X1=>(an bu ?_)) λZ Z z=>z
 have e6:ρ.take 6=[w,K,a2,a3,E,G]:=by rwa [←A];rfl
 rw [e6]at R6 L6 O6 R1 X1;(refine B8 (at9 R1.len X1.pre) λf N n1 b2=> ?_;subst b2);have ar:∀g,g=N∨g=n1→s.heap.objs.size≤g:=by
  intro g ha;have ho:Own [w,K,a2,a3,E,G,f,N,n1] (oN r p C st.v O Y B W nf) g:=by
   rcases ha with rfl|rfl
   ·exact⟨7,_,rfl,rfl,rfl⟩
   ·exact⟨8,_,rfl,rfl,rfl⟩
  rcases X1.own g ho with h|h
  ·exfalso
   (refine bg h ?_;clear h;intro i Z h1 Z Z);rcases ha with rfl|rfl
   ·have:=getElem?_inj_of_nodup R1.nodup (X1.pre i _ h1) (j:=7) rfl
    subst this;exact noS h1
   ·have:=getElem?_inj_of_nodup R1.nodup (X1.pre i _ h1) (j:=8) rfl
    subst this;exact noS h1
  ·exact h
 have c0:(N::n1::a2::a3::E::G::J::I::a8::L::v::u::w::K::t).Nodup:=by
  have q:([a2,a3,E,G,J,I,a8,L,v,u]++w::K::t).Perm (w::K::([a2,a3,E,G,J,I,a8,L,v,u]++t)):=I4.trans (List.Perm.cons _ I4);have b3:(w::K::([a2,a3,E,G,J,I,a8,L,v,u]++t)).Nodup:=by rw [←A]at R;exact R.nodup
  have nm:=(q.nodup_iff).mpr b3;have ap:∀g,g∈[a2,a3,E,G,J,I,a8,L,v,u]++w::K::t→g < s.heap.objs.size:=λg ha=>(R.new g (by rwa [←A];exact q.mem_iff.mp ha)).2.1
  have c5:N≠n1:=λm=>by
   have:=getElem?_inj_of_nodup R1.nodup (i:=7) (j:=8) (a:=N) rfl (by rwa [m];rfl)
   cases this
  refine GK.mpr (an (λh=> ?_) (GK.mpr ⟨λh=>HA _ (fa (ap n1 h) (ar n1 (.inr rfl))),nm⟩));rcases q4.mp h with h|h
  ·exact c5 h
  ·exact HA _ (fa (ap N h) (ar N (.inl rfl)))
 have D:∀g,g∈J::I::a8::L::v::u::t→¬g∈[w,K,a2,a3,E,G]:=by
  have b3:([w,K,a2,a3,E,G]++(J::I::a8::L::v::u::t)).Nodup:=by rw [←A]at R;exact R.nodup
  intro g ha hb;exact(Gn.mp b3).2.2 g hb g ha rfl
 have b5:t.length=tl.length:=by
  have:=R.len;rw [←A]at this;simp [GF,OG,OC]at this;exact this
 have c6:s1.heap.get? w=some ⟨.ref 597,some K, .plain,sl⟩∨True:= .inr trivial;refine aS (R1.objs 0 w _ rfl rfl) λc7 b7 g3 g4=> ?_;obtain rfl:=ds g4;refine(B6 N n1 b7 ?_)
 let U:Nat→Option V:=ri [some (.adr w),none,some (.ref 2),some (.ref 3),some (.ref 4),some (.ref 5),none,some (.ref 0),some (.ref 1)]
 have ad:HS (N::n1::a2::a3::E::G::J::I::a8::L::v::u::w::K::t) [some (.adr w),none,some (.ref 2),some (.ref 3),some (.ref 4),some (.ref 5),none,some (.ref 0),some (.ref 1)] [w,K,a2,a3,E,G,f,N,n1]:=E7 (e9 (e8 rfl (e8 rfl (e8 rfl (e8 rfl (e9 (e8 rfl (e8 rfl wF))))))))
 let b4:Nat→Option V:=ri [none,none,some (.ref 2),none,none,none,none,none,none,some (.ref 9),some (.ref 10)]
 have al:HS (N::n1::a2::a3::E::G::J::I::a8::L::v::u::w::K::t) [none,none,some (.ref 2),none,none,none,none,none,none,some (.ref 9),some (.ref 10)] ρ:=by
  rwa [←A];exact e9 (e9 (e8 rfl (e9 (e9 (e9 (e9 (e9 (e9 (e8 rfl (e8 rfl wF))))))))))
 have b0:(AO.deque (.ftup [.str C, .ref 0, .int O]::B)).re U=some (.deque (.ftup [.str C, .adr w, .int O]::B)):=by
  show(V.reL U (.ftup [.str C, .ref 0, .int O]::B)).map AO.deque=_;show((some (V.ftup [.str C, .adr w, .int O])).bind λy=>(V.reL U B).map (y::·)).map AO.deque=_;rwa [V.reL_cut (n:=0) (λi h=>absurd h (o1 i)) B ag];rfl
 have bb:(az l).re b4=some (az l):=by
  show(reF b4 (("self",V.ref 2)::l)).map AO.frame=_;show((some (V.ref 2)).bind λy=>(reF b4 l).map ((("self":Str),y)::·)).map AO.frame=_;rwa [fV (n:=0) (λi h=>absurd h (o1 i)) l hl];rfl
 have bm:(lxG (.ref 7) nf st.v 1 Y).re U=some (lxG (.ref 0) nf st.v 1 Y):=by induction st<;>rfl
 have bl:bq (λg o2=>fP c.prog c.w [w,K,a2,a3,E,G,f,N,n1] s1.heap (oN r p C st.v O Y B W nf) (N::n1::a2::a3::E::G::J::I::a8::L::v::u::w::K::t) s1.heap g o2∨
  (¬g∈[w,K,a2,a3,E,G]∧fP c.prog c.w ρ s.heap (GF r p C st O Y B tf gs l tl) (N::n1::a2::a3::E::G::J::I::a8::L::v::u::w::K::t) s1.heap g o2))
  (N::n1::a2::a3::E::G::J::I::a8::L::v::u::w::K::t) (GF W 0 nf st 1 Y (.ftup [.str C, .adr w, .int O]::B) tf gs l (fu K b7 r p++tl)):=by
  refine⟨.inl ⟨7,_,rfl,rfl,aE.re (σ:=U) rfl ad⟩, .inl ⟨8,_,rfl,rfl,aE.re (σ:=U) rfl ad⟩, .inl ⟨2,_,rfl,rfl,aE.re (σ:=U) rfl ad⟩, .inl ⟨3,_,rfl,rfl,aE.re bm ad⟩, .inl ⟨4,_,rfl,rfl,aE.re (σ:=U) rfl ad⟩, .inl ⟨5,_,rfl,rfl,aE.re b0 ad⟩, ?_⟩;refine⟨.inr ⟨D _ (by constructor),6,_,by rwa [←A];rfl,rfl,aE.re (σ:=b4) rfl al⟩, .inr ⟨D _ (by simp),7,_,by rwa [←A];rfl,rfl,aE.re (σ:=b4) rfl al⟩, .inr ⟨D _ (by simp),8,_,by rwa [←A];rfl,rfl,aE.re (σ:=b4) rfl al⟩,
   .inr ⟨D _ (by simp),9,_,by rwa [←A];rfl,rfl,aE.cut (n:=0) b6 λj Z hj Z=>absurd hj (o1 j)⟩, .inr ⟨D _ (by simp),10,_,by rwa [←A];rfl,rfl,aE.cut (n:=0) rfl λj Z hj Z=>absurd hj (o1 j)⟩,
   .inr ⟨D _ (by simp),11,_,by rwa [←A];rfl,rfl,aE.re bb al⟩, .inl ⟨0,_,rfl,rfl,⟨λZ=>rfl,λF F' hF hh ok=>g3⟩⟩, .inl ⟨1,_,rfl,rfl,aE.cut (n:=0) rfl λj Z hj Z=>absurd hj (o1 j)⟩, ?_⟩
  refine bq.of b5 λi g o h1 h2=> .inr (an (D g (by have:=lf h1;simp [this])) (n5 (k:=12) (as:=t) (os:=tl) (λi g o h1 h2=>⟨by rwa [←A,Jm _ _];exact h1,by rwa [Jm _ _];exact h2⟩) b8 i g o h1 h2))
 refine gl (R.join (ρ':=[w,K,a2,a3,E,G]) O6 R1 (X1.toN λZ=>true) bl.len c0 (by rwa [h0];exact gQ) bl.get) λR3 XX Z Z=> ?_
 have hK:lL dm ρ (N::n1::a2::a3::E::G::J::I::a8::L::v::u::w::K::t):=by rwa [←A];exact mV (l:=[a2,a3,E,G,J,I,a8,L,v,u]) rfl
 refine(an ⟨R3,c1, ?_,λx j h=>by rw [bs]at h;exact noS h⟩ (XX dm hK))
 have:=H.fr;rw [b1,←A]at this;rwa [b1];exact this
end
noncomputable def kh(i:Nat):Bool:=Iy 2 i&&G6 i 11
def GT(b:Str)(p:Nat)(a:Str)(st:LSt)(e:Int)(d:cv)(c:KN)(f:KL)(g:KA)(h:KM):List AO:=OG (sio b p) (.ref 0) a st.v e d c f g++h
theorem na{c:Cx}{a:Cfg}{d:KB}{e:KM}{s:dd}(R:aq c.prog c.w c.d d e s)(f:1≤s.toks)(g:d[a.fi]? =some c.env.locals)(b:a.cells=[]):ac c a d e s:=⟨R,f,g,λx j h=>by rw [b]at h;exact noS h⟩
section
variable{c:Cx}{cfg:Cfg}{s:dd}
theorem yH:∀{B A a8:cv} {p:Nat} {f:Str} {u:Int} {J:cv} {g:KN} {K:KL} {U:KA} {l:KL} {G:KM} {T:Str} {P:Nat} {sl:Array (Option da)} {a0 a1 a2 a3 D E C r m a z:cv} {t:KB} (h0:c.d.ρ₀=pin B A a8) (O:cfg.fi=11) (ar:cfg.cells=[]) (L:V.closedL 0 g=true) (Z:aC 0 K=true) (hl:aC 0 l=true) (ad:aK 0 G=true) (H:ac c cfg (a0::a1::a2::a3::D::E::B::A::a8::C::r::m::a::z::t) (OG (gN .none (ct p)) (.adr a) f (.str " ") u J g K U++az l::(fu z sl T P++G)) s),ac c cfg (a::z::a2::a3::D::E::B::A::a8::C::r::m::t) (GF T P f .sp u J g K U l G) s∧
 bR dm (a0::a1::a2::a3::D::E::B::A::a8::C::r::m::a::z::t) (OG (gN .none (ct p)) (.adr a) f (.str " ") u J g K U++az l::(fu z sl T P++G)) s (a::z::a2::a3::D::E::B::A::a8::C::r::m::t) (GF T P f .sp u J g K U l G) s:=by
 revert c cfg s;refine no_implicit_lambda% (@Mine.pd _ (@Mine.pd _ (@Mine.pd _ ?_)));refine' eI33;intro t z a m r C E D a3 a2 a1 a0 sl P T G l U K g J u f p a8 A B s cfg c _ _ _ h0 O ar L Z hl ad H;have R:=H.rep;generalize e:a0::a1::a2::a3::D::E::B::A::a8::C::r::m::a::z::t=ρ at*;generalize d:a::z::a2::a3::D::E::B::A::a8::C::r::m::t=ρ2;have b1:ρ2.Nodup:=by
  have al:=R.nodup;rw [←e]at al;have q:([a2,a3,D,E,B,A,a8,C,r,m]++a::z::t).Perm (a::z::([a2,a3,D,E,B,A,a8,C,r,m]++t)):=I4.trans (List.Perm.cons _ I4);have n2:([a2,a3,D,E,B,A,a8,C,r,m]++a::z::t).Nodup:=(GK.mp (GK.mp al).2).2;rwa [←d];exact(q.nodup_iff).mp n2
 have W:t.length=G.length:=by
  have:=R.len;rw [←e]at this;simp [OG,OC,fu]at this;exact this
 let I:Nat→Option V:=ri [none,none,some (.ref 2),some (.ref 3),some (.ref 4),some (.ref 5),none,none,none,some (.ref 9),some (.ref 10)]
 have v:HS ρ2 [none,none,some (.ref 2),some (.ref 3),some (.ref 4),some (.ref 5),none,none,none,some (.ref 9),some (.ref 10)] ρ:=by
  rwa [←e,←d];exact e9 (e9 (e8 rfl (e8 rfl (e8 rfl (e8 rfl (e9 (e9 (e9 (e8 rfl (e8 rfl wF))))))))))
 have ag:(az l).re I=some (az l):=by
  show((some (V.ref 2)).bind λy=>(reF I l).map ((("self":Str),y)::·)).map AO.frame=_;rwa [fV (n:=0) (λi h=>absurd h (o1 i)) l hl];rfl
 have N:(AO.deque g).re I=some (.deque g):=by show(V.reL I g).map AO.deque=_;rwa [V.reL_cut (n:=0) (λi h=>absurd h (o1 i)) g L];rfl
 have b3:aE c.prog c.w ρ s.heap (lxG (.adr a) f (.str " ") u J) ρ2 s.heap (lxG (.ref 0) f LSt.sp.v u J) a3:=⟨λzz=>rfl,λF F' hF hh ok=>by
  (refine aS ok ?_;clear ok;intro es n g1 Y;refine jz Y ?_;clear Y;intro t0 v0 r0 e0 b0 hr);refine⟨es,n,hh _ g1,t0,v0,r0,e0, ?_,en.re (σ:=I) hF (λi x b h1 h2=> ?_) rfl hr⟩
  ·cases b0;exact⟨a,by rwa [←d];rfl,rfl⟩
  ·rcases v i x b h1 h2 with rfl|⟨j,rfl,hj⟩
   ·exact rfl
   ·exact⟨b,hj,rfl⟩⟩
 have w:eF 0 ρ ρ2:=λj zz hj zz=>absurd hj (o1 j);have ap:bq (λb o2=>fP c.prog c.w ρ s.heap (OG (gN .none (ct p)) (.adr a) f (.str " ") u J g K U++az l::(fu z sl T P++G)) ρ2 s.heap b o2) ρ2 (GF T P f .sp u J g K U l G):=by
  rwa [←d];refine⟨⟨12,_,by rwa [←e];rfl,rfl,⟨λzz=>rfl,λF F' hF hh ok=>⟨z,sl,hh _ ok,rfl⟩⟩⟩,⟨13,_,by rwa [←e];rfl,rfl,aE.cut (n:=0) rfl (by rwa [d];exact w)⟩,⟨2,_,by rwa [←e];rfl,rfl,aE.re (σ:=I) rfl (by rwa [d];exact v)⟩,⟨3,_,by rwa [←e];rfl,rfl,by rwa [d];exact b3⟩,
   ⟨4,_,by rwa [←e];rfl,rfl,aE.re (σ:=I) rfl (by rwa [d];exact v)⟩,⟨5,_,by rwa [←e];rfl,rfl,aE.re N (by rwa [d];exact v)⟩,⟨6,_,by rwa [←e];rfl,rfl,aE.re (σ:=I) rfl (by rwa [d];exact v)⟩,⟨7,_,by rwa [←e];rfl,rfl,aE.re (σ:=I) rfl (by rwa [d];exact v)⟩,
   ⟨8,_,by rwa [←e];rfl,rfl,aE.re (σ:=I) rfl (by rwa [d];exact v)⟩,⟨9,_,by rwa [←e];rfl,rfl,aE.cut (n:=0) Z (by rwa [d];exact w)⟩,⟨10,_,by rwa [←e];rfl,rfl,aE.cut (n:=0) rfl (by rwa [d];exact w)⟩,⟨11,_,by rwa [←e];rfl,rfl,aE.re ag (by rwa [d];exact v)⟩, ?_⟩
  rwa [d];refine bq.of W λi b o h1 h2=>n5 (k:=14) (as:=t) (os:=G) (λi b o h1 h2=>(an (by rwa [←e,Jm _ _];exact h1) (by rwa [Jm _ _];exact h2))) ad i b o h1 h2
 refine ax (R.part ap.len b1 (by rwa [h0,←d];exact gQ) ap.get) λR3 zz XX=> ?_
 refine(an (na R3 H.tk ?_ ar) (XX dm (by rwa [←e,←d];exact mV (l:=[a2,a3,D,E,B,A,a8,C,r,m]) rfl)))
 have:=H.fr;rw [O,←e]at this;rwa [O,←d];exact this
end
theorem eA{c:Type}{A B:List c}{n:Nat}(b:A.length=n)(i:Nat):(A++B)[n+i]? =B[i]? :=by(rwa [gv (by exact Lle [_,_,_] [Q1 V0 V1] 0 V0 (.a V1 V2) rfl b),b,Jy _ _];rfl)
theorem getL{b:Type}{A B:List b}{i:Nat}{a:b}(h:A[i]? =some a):(A++B)[i]? =some a:=by rwa [i1 (hX.mp h).1];exact h
section
variable{p:A8}{w:Gv}{d:Bd}{s:dd}{A Hd PA:KB}{a oh pa:KM}
theorem pK(R:aq p w d (A++(Hd++PA)) (a++(oh++pa)) s)(g:A.length=11)(q:a.length=11)(x:Hd.length=oh.length)(r:PA.length=pa.length)(B:aK 11 a=true)(t:aK 0 pa=true){r0:List (Option cv)}(u:fg r0 (A++PA)):
 aq p w (d.but (A++(Hd++PA)) (a++(oh++pa)) (A++PA) r0) (A++PA) (a++pa) s∧∀e,Own (A++PA) (a++pa) e→Own (A++(Hd++PA)) (a++(oh++pa)) e:=by
 have z:(A++PA).Nodup:=R.nodup.sublist (List.Sublist.append_left (List.sublist_append_right _ _) _);have f:bq (λe y=>fP p w (A++(Hd++PA)) s.heap (a++(oh++pa)) (A++PA) s.heap e y) (A++PA) (a++pa):=by
  refine bq.app (bq.of (by(rwa [g,q];rfl)) λi e o h1 h2=>⟨i,o,getL h1,getL h2,aE.cut (bW B h2) λj b k m=> ?_⟩) (bq.of r λi e o h1 h2=>⟨11+(Hd.length+i),o,by rwa [eA g _,eA rfl _];exact h1,by rwa [eA q _,x,eA rfl _];exact h2,aE.cut (n:=0) (bW t h2) λj l k l=>absurd k (o1 j)⟩)
  rw [i1 (by exact Lle [_,_] [Q2 V0 Z6,Q0 (.a V1 Z0) Z6] 0 (.a V1 Z0) V0 rfl g k)]at m⊢;exact m
 refine ax (R.sub (r0:=r0) f.len z u f.get) λC l D=> ?_;exact⟨C,D⟩
theorem nZ(R:aq p w d (A++(Hd++PA)) (a++(oh++pa)) s)(N:A.length=11)(g:a.length=11)(J:Hd.length=oh.length)(k:∀o∈oh,o.live=true){W:List (Option cv)}(r:∀f,Own (A++PA) (a++pa) f→Own (A++(Hd++PA)) (a++(oh++pa)) f)
 {K:Nat→Bool}{B PB:KB}{ob pb:KM}{s1:dd}(G:aq p w (d.but (A++(Hd++PA)) (a++(oh++pa)) (A++PA) W) (B++PB) (ob++pb) s1)(X:bR K (A++PA) (a++pa) s (B++PB) (ob++pb) s1)
 (D:B.length=11)(hb:ob.length=11)(y:PB.length=pb.length)(c1:aK 11 ob=true)(T:aK 0 pb=true)(U:fg d.ρ₀ (B++(Hd++PB)))
 (Y:∀(i:Nat) (o:AO),oh[i]? =some o→∀f,aE p w (A++(Hd++PA)) s.heap o (B++(Hd++PB)) s1.heap o f):
 aq p w d (B++(Hd++PB)) (ob++(oh++pb)) s1∧∀L:Nat→Bool,lL L (A++(Hd++PA)) (B++(Hd++PB))→bR L (A++(Hd++PA)) (a++(oh++pa)) s (B++(Hd++PB)) (ob++(oh++pb)) s1:=by
 have l:=R.nodup;have q:∀f∈Hd,¬f∈A++PA:=λf g hm=>by
  rw [Gn]at l;(refine ax l ?_;clear l;intro H n2 n3);rw [Gn]at n2;rcases sz.mp hm with hm|hm
  ·exact n3 f hm f (List.mem_append_left _ g) rfl
  ·exact n2.2.2 f g f hm rfl
 have z:∀f∈Hd,Own (A++(Hd++PA)) (a++(oh++pa)) f:=λf x=>by
  refine au (Ho.mp x) λi I=> ?_;have C:i < oh.length:=by rwa [←J];exact(hX.mp I).1
  exact⟨11+i,oh[i],by rwa [eA N _];exact getL I,by rwa [eA g _];exact getL (kn C),k _ (List.getElem_mem _)⟩
 have t:∀f∈Hd,¬f∈B++PB:=λf g hm=>(G.new f hm).2.2.1 (.inr (an (z f g) (q f g)));have E:(B++(Hd++PB)).Nodup:=by
  have n1:=G.nodup;rw [Gn]at n1 l⊢;(refine ax n1 ?_;clear n1;intro P m2 Z);have n2:=l.2.1;rw [Gn]at n2;refine(cB P (Gn.mpr ⟨n2.1,m2,λf g b hb e=>t f g (IS _ (e▸hb))⟩) (λf g b hb e=> ?_));rcases sz.mp hb with hb|hb
  ·exact t b hb (List.mem_append_left _ (e▸g))
  ·exact Z f g b hb e
 have m:bq (λf O=>fP p w (B++PB) s1.heap (ob++pb) (B++(Hd++PB)) s1.heap f O∨(¬f∈A++PA∧fP p w (A++(Hd++PA)) s.heap (a++(oh++pa)) (B++(Hd++PB)) s1.heap f O)) (B++(Hd++PB)) (ob++(oh++pb)):=by
  refine bq.app (bq.of (by(rwa [D,hb];rfl)) λi f o h1 h2=> .inl ⟨i,o,getL h1,getL h2,aE.cut (bW c1 h2) λj b F u=> ?_⟩) (bq.app (bq.of J λi f o h1 h2=> .inr ⟨q f (lf h1),11+i,o,by rwa [eA N _];exact getL h1,by rwa [eA g _];exact getL h2,Y i o h2 f⟩)
   (bq.of y λi f o h1 h2=> .inl ⟨11+i,o,by rwa [eA D _];exact h1,by rwa [eA hb _];exact h2,aE.cut (n:=0) (bW T h2) λj H F H=>absurd F (o1 j)⟩))
  rw [i1 (by exact Lle [_,_] [Q2 V0 Z6,Q0 (.a V1 Z0) Z6] 0 (.a V1 Z0) V0 rfl D F)]at u⊢;exact u
 exact(R.join r G X m.len E U m.get).imp id λh=>h.1
theorem xx(R:aq p w d (A++Hd) (a++oh) s)(k:A.length=a.length)(x:aK A.length a=true)(m:∀(i:Nat) (o:AO),pa[i]? =some o→∃n,n≤A.length∧AO.closed n o=true)(l:PA.length=pa.length)(u:(A++PA).Nodup)(q:fg d.ρ₀ (A++PA))
 (z:∀(i:Nat) (c:cv) (o:AO),PA[i]? =some c→pa[i]? =some o→∃j:Nat,Hd[j]? =some c∧oh[j]? =some o){K:Nat→Bool}(B:∀i,K i=true→i < A.length):
 aq p w d (A++PA) (a++pa) s∧bR K (A++Hd) (a++oh) s (A++PA) (a++pa) s:=by
 have P:eF A.length (A++Hd) (A++PA):=λj b g f=>by rw [i1 g]at f⊢;exact f
 have e:bq (λc t=>fP p w (A++Hd) s.heap (a++oh) (A++PA) s.heap c t) (A++PA) (a++pa):=
  bq.app (bq.of k λi c o h1 h2=>⟨i,o,getL h1,getL h2,aE.cut (bW x h2) P⟩) (bq.of l λi c o h1 h2=>
   let⟨j,h3,h4⟩:=z i c o h1 h2;let⟨_,hn,hc⟩:=m i o h2;⟨A.length+j,o,by rwa [eA rfl _];exact h3,by rwa [k,eA rfl _];exact h4,aE.cut hc λj b g f=>P j b (fa g hn) f⟩)
 refine ax (R.part e.len u q e.get) λv C y=> ?_;exact⟨v,y K λi b r h=>P i b (B i r) h⟩
end
theorem bR.weak{K d:Nat→Bool}{g b:KB}{e c:KM}{s f:dd}(X:bR K g e s b c f)(h:∀i,d i=true→K i=true):bR d g e s b c f:=⟨λi a j k=>X.pre i a (h i j) k,X.keep,X.own,X.size⟩
theorem xh(i:Nat)(h:kh i=true):dm i=true:=by
 unfold kh at h;unfold dm;rw [lq]at h⊢;have h2:i+1≤11:=ro h.2;exact⟨h.1,GQ (show i+1≤12 by exact Lle [_] [Q0 (.a V0 Z0) Z6] 0 (.a V0 Z0) (.c 12) rfl h2)⟩
theorem eC{b:Str}{p:Nat}{d:Str}{st:LSt}{g:Int}{f:cv}{a:KN}{c:KL}{i:KA}(h:V.closedL 0 a=true)(e:aC 0 c=true):aK 11 (OG (sio b p) (.ref 0) d st.v g f a c i)=true:=by
 have h:=V.closedL_mono (n:=11) a h;have h2:=bn (n:=11) c e
 induction st<;>(show(V.closedL 11 a&&(aC 11 c&&true))=true;rwa [h,h2];rfl)
theorem uC{l:KL}(a:aC 0 l=true):AO.closed 11 (az l)=true:=by
 show(true&&aC 11 l)=true;rwa [bn l a];rfl
section
variable{p:A8}{w:Gv}{d:Bd}{s:dd}
theorem uH{m k a8:cv}(G:d.ρ₀=pin m k a8){b:Str}{D:Nat}{f:Str}{st:LSt}{z:Int}{C:cv}{e:KN}{x:KL}{y:KA}{l:KL}{g:KM}
 (v:V.closedL 0 e=true)(E:aC 0 x=true)(H:aC 0 l=true)(F:aK 0 g=true){u a1 a2 a3 n q r c L:cv}{t:KB}
 (j:t.length=g.length)(R:aq p w d (u::a1::a2::a3::n::q::m::k::a8::r::c::(t++[L])) (OG (sio b D) (.ref 0) f st.v z C e x y++(g++[az l])) s):
 aq p w d (u::a1::a2::a3::n::q::m::k::a8::r::c::L::t) (GF b D f st z C e x y l g) s∧
  bR kh (u::a1::a2::a3::n::q::m::k::a8::r::c::(t++[L])) (OG (sio b D) (.ref 0) f st.v z C e x y++(g++[az l])) s (u::a1::a2::a3::n::q::m::k::a8::r::c::L::t) (GF b D f st z C e x y l g) s:=
 xx (A:=[u,a1,a2,a3,n,q,m,k,a8,r,c]) (PA:=L::t) (pa:=az l::g) (K:=kh) R rfl (eC v E) (λi o h=>by
  induction i using Ge with
  |zero=>obtain rfl:=ds h;exact(ah 11 (fx _) (uC H))
  |succ i=>exact(ah 0 (so _) (bW F h))) (congrArg (· +1) j)
  (((List.Perm.append_left [u,a1,a2,a3,n,q,m,k,a8,r,c] (List.perm_append_comm (l₁:=t) (l₂:=[L]))).nodup_iff).mp R.nodup) (by rwa [G];exact gQ)
  (λi a o h1 h2=>by
   induction i using Ge with
   |zero=>obtain rfl:=ds h1;obtain rfl:=ds h2;exact(ah t.length (eA (A:=t) (B:=[L]) rfl 0) (j▸eA (A:=g) (B:=[az l]) rfl 0))
   |succ i=>exact(ah i (getL h1) (getL h2))) λi I=>ro (vl.mp I).2
theorem ur{k j a8:cv}(E:d.ρ₀=pin k j a8){b:Str}{B:Nat}{f:Str}{st:LSt}{y:Int}{z:cv}{e:KN}{v:KL}{x:KA}{l:KL}{g:KM}
 (u:V.closedL 0 e=true)(C:aC 0 v=true)(D:aK 0 g=true){r a1 a2 a3 m n q c L:cv}{t:KB}
 (R:aq p w d (r::a1::a2::a3::m::n::k::j::a8::q::c::L::t) (GF b B f st y z e v x l g) s):
 aq p w d (r::a1::a2::a3::m::n::k::j::a8::q::c::t) (GT b B f st y z e v x g) s∧
  bR kh (r::a1::a2::a3::m::n::k::j::a8::q::c::L::t) (GF b B f st y z e v x l g) s (r::a1::a2::a3::m::n::k::j::a8::q::c::t) (GT b B f st y z e v x g) s:=
 xx (A:=[r,a1,a2,a3,m,n,k,j,a8,q,c]) (Hd:=L::t) (oh:=az l::g) (PA:=t) (pa:=g) (K:=kh) R rfl (eC u C) (λi o h=>(ah 0 (so _) (bW D h))) (HZ (by have:=R.len;simpa [GF,OG,OC]using this))
  (R.nodup.sublist (List.Sublist.append_left (List.sublist_cons_self L t) [r,a1,a2,a3,m,n,k,j,a8,q,c])) (by rwa [E];exact gQ)
  (λi a o h1 h2=>(ah (i+1) h1 h2)) λi F=>ro (vl.mp F).2
end
set_option genInjectivity false in
structure GS where
 b:Str
 u:List Nat
 inf:Str
 st:LSt
 ln:Int
 stk:List (Str×Int×Str×List Nat)
 gs:List Str
deriving Nonempty
abbrev Ad:=List (cv×cv×Array (Option da))
noncomputable def bf:List (Str×Int×Str×List Nat)→Ad→List V
 |(i,n,_,_)::r,(a,_,_)::ad=> .ftup [.str i, .adr a, .int n]::bf r ad
 |_,_=>[]
def aM:List (Str×Int×Str×List Nat)→Ad→List AO
 |(_,_,b,u)::r,(_,dx,sl)::ad=>fu dx sl b (b.length -u.length)++aM r ad
 |_,_=>[]
noncomputable def aD:Ad→List cv
 |[]=>[]
 |(a,dx,_)::ad=>a::dx::aD ad
def BOk(b:Str)(u:KF):Prop:=u <:+b.cps.toList∧(∀c∈u,c∈ke)∧b.length≤1000000
structure GOk(x:GS):Prop where
 buf:BOk x.b x.u
 st:x.st= .sp∨x.st= .none
 stk:∀e∈x.stk,BOk e.2.2.1 e.2.2.2
 few:x.stk.length≤1000
def rdT(x:GS):Option (V×GS):=match ca x.u x.st [] false x.ln with
 |some (u',st',tk,q,ln')=>some (eY tk q,{x with u:=u',st:=st',ln:=ln'})
 |none=>none
inductive el(HP:Str→Str→List Str→Prop)(hook:Str→Str→List Str→V×List Str):Nat→GS→V→GS→Prop
 |word {x y:GS} {w:Str}:rdT x=some (.str w,y)→(w==("use":Str))=false→el HP hook 0 x (.str w) y
 |fin {x y:GS}:rdT x=some (.none,y)→y.stk=[]→el HP hook 0 x .none y
 |pop {n:Nat} {x y z:GS} {i:Str} {l:Int} {b:Str} {u:KF} {stk:List (Str×Int×Str×List Nat)} {r:V}:rdT x=some (.none,y)→y.stk=(i,l,b,u)::stk→el HP hook n ⟨b,u,i, .sp,l,stk,y.gs⟩ r z→el HP hook (n+1) x r z
 |use0 {n:Nat} {x y y2 z:GS} {w:Str} {gs:KA} {r:V}:rdT x=some (.str "use",y)→rdT y=some (.str w,y2)→HP y2.inf w y2.gs→hook y2.inf w y2.gs=(.none,gs)→el HP hook n {y2 with gs:=gs} r z→el HP hook (n+1) x r z
 |use1 {n:Nat} {x y y2 z:GS} {w pa tx:Str} {gs:KA} {r:V}:rdT x=some (.str "use",y)→rdT y=some (.str w,y2)→HP y2.inf w y2.gs→hook y2.inf w y2.gs=(.ftup [.str pa, .str tx],gs)→BOk tx tx.cps.toList→y2.stk.length+1≤1000→
  el HP hook n ⟨tx,tx.cps.toList,pa,y2.st,1,(y2.inf,y2.ln,y2.b,y2.u)::y2.stk,gs⟩ r z→el HP hook (n+1) x r z
theorem jo{p:Prop}[Decidable p]{c:Type}{a b x:c}{Q:Prop}(h:(if p then a else b)=x)(h1:a=x→Q)(h2:b=x→Q):Q:=
 if e:p then h1 ((if_pos e).symm.trans h)else h2 ((if_neg e).symm.trans h)
theorem wo{i:KF}{a:LSt}{f:KF}{j:Bool}{e:Int}:∀(u:KF) (st:LSt) (b:KF) (q:Bool) (d:Int),ca u st b q d=some (i,a,f,j,e)→i <:+u∧(a= .sp∨a= .none):=by
 intro u
 induction u with
 |nil=>intro st b q d h;induction st<;>first|(cases h;exact⟨List.suffix_refl _, .inr rfl⟩)|exact noS h
 |cons c u k=>
  intro st b q d h;have g:∀st b q,ca u st b q d=some (i,a,f,j,e)→i <:+c::u∧(a= .sp∨a= .none):=λst b q h=>⟨(k st b q d h).1.trans (List.suffix_cons c u),(k st b q d h).2⟩
  induction st using LSt.casesOn with
  |none=>exact noS h
  |sp=>exact jo h (λh=>noS h) λh=>jo h (g _ _ _) λh=>jo h (g _ _ _) (g _ _ _)
  |word=>exact jo h (λh=>jo h (λh=>noS h) λh=>by cases h;exact⟨List.suffix_cons c _, .inl rfl⟩) λh=>jo h (g _ _ _) λh=>jo h (g _ _ _) (g _ _ _)
  |_=>exact jo h (g _ _ _) λh=>jo h (λh=>noS h) (g _ _ _)
set_option tactic.hygienic true in
theorem dC:∀{x y:GS} {r:V} (h:rdT x=some (r,y)) (g:GOk x),GOk y∧y.b=x.b∧y.inf=x.inf∧y.stk=x.stk∧y.gs=x.gs∧∃z:Rst,z.u=y.u∧z.st=y.st∧z.ln=y.ln∧r=eY z.tk z.q∧Inv x.b z ⟨x.u,x.st,[],false,x.ln⟩ none:=by
 refine' eI3;intro r y x h g;unfold rdT at h
 split at h
 ·rename_i o i n q f e
  cases h;refine ai (wo _ _ _ _ _ e) λs1 s2=> ?_;obtain⟨⟨j,l,m⟩,k,a,b⟩:=g;have d:x.u.length≤x.b.length:=by have:=j.length_le;rw [iy]at this;exact this
  refine(xd ⟨⟨s1.trans j,λc p=>l c (s1.subset p),m⟩,s2,a,b⟩ rfl rfl rfl rfl (FS ⟨o,i,n,q,f⟩ rfl rfl rfl rfl ⟨?_,by simpa using d,l,e,λs=>⟨rfl,rfl,rfl⟩,λh=>absurd k h⟩))
  have:=List.suffix_iff_eq_drop.mp j;rw [iy]at this;exact this.symm
 ·exact noS h
theorem cu(l:List (Str×Int×Str×List Nat)):∀ad:Ad,V.closedL 0 (bf l ad)=true:=by
 induction l with
 |nil=>exact λad=>rfl
 |cons e r a=>exact λad=>ad.casesOn rfl λd ad=>a ad
theorem cw(l:List (Str×Int×Str×List Nat)):∀ad:Ad,aK 0 (aM l ad)=true:=by
 induction l with
 |nil=>exact λad=>rfl
 |cons e r a=>exact λad=>ad.casesOn rfl λd ad=>a ad
theorem dZ{l:List (Str×Int×Str×List Nat)}:∀{ad:Ad},ad.length=l.length→(aM l ad).length=(aD ad).length:=by
 induction l with
 |nil=>exact λh=>by rwa [Hu.mp h];rfl
 |cons e r a=>exact λ{ad}=>ad.casesOn (λh=>absurd h.symm (Hp _)) λd ad h=>congrArg (· +2) (a (HZ h))
theorem oW(l:List (Str×Int×Str×List Nat)):∀ad:Ad,(bf l ad).length≤l.length:=by
 induction l with
 |nil=>exact λad=>fx _
 |cons e r a=>exact λad=>ad.casesOn (so _) λd ad=>GB (a ad)
noncomputable def cH:ay:=λa a=> .err "no"
theorem nH(P:ed):eZ (KK P) 732 "sourcehook"=true:=by rfl'
structure jE(P:ed)(f:cv)(c:Cx):Prop where
 kind:c.env.scope.kind= .function
 names:ce (KK P) f=c.env.scope.names
 glob:c.env.globals=GH
 blt:c.env.builtins=Hl
 nocls:c.env.kindOf "__classdict__"=none
section
variable{P:ed}{b d:KC}{c:Cx}
theorem eV:∀{orc:List (Nat×Bool)} {fs:List (cv×Nat×ay)} {hk:cv} {sp:ay} (j:aR (KK P) b d) (T:ak c (KK P) b d) (i:av 1 c.A) (E:jE P 693 c) (k:∀g m e,lkN g fs=some (m,e)→aI c g m e) (l:aI c hk 11 sp),aG c (dU P orc fs hk sp):=by
 revert P b d c;refine' eI8;intro sp hk fs orc c d b P j T i E k l;refine⟨⟨E.kind,E.names,E.glob,E.blt,(eS b d T.base (bh j (cS P))),E.nocls,T.handled,by have:=i.2;exact Lle [_] [Q0 (.a (.a V0 (.m 5 Z0)) Z10) Z11] 0 (.a V0 Z0) Z11 rfl this⟩,⟨KK P,T.K,λf f f h=>Gf.mp (mm P) _ (m7 h),λf f h=>Gf.mp (ku P) _ (lE h),λn C g m e h=> ?_,λn C h=>(by exact noS h)⟩,k,λx g e h=>(by exact noS h),λn C g m e h=> ?_,kx j T i rfl⟩
 ·have h:(bif af n "sourcehook" then some ((732:cv),hk,11,sp)else none)=some (C,g,m,e):=h
  rcases q:af n "sourcehook" with _|_
  ·rw [q]at h;exact noS h
  ·rw [q]at h;cases h;rwa [aB.mp q];exact nH P
 ·have h:(bif af n "sourcehook" then some ((732:cv),hk,11,sp)else none)=some (C,g,m,e):=h
  rcases q:af n "sourcehook" with _|_
  ·rw [q]at h;exact noS h
  ·rw [q]at h;cases h;exact l
theorem pP:∀{i:cv} {m0:Nat} {f:ay} (h:aI c i m0 f),∀g m a,lkN g [(i,m0,f)]=some (m,a)→aI c g m a:=by
 revert c;refine' eI4;intro f m0 i c h;exact λg m a e=>by
  have e:(bif Nat.beq g i then some (m0,f)else none)=some (m,a):=e;rcases q:Nat.beq g i with _|_
  ·rw [q]at e;exact noS e
  ·rw [q]at e;cases e;rwa [ui q];exact h
theorem gV:∀g m a,lkN g ([]:List (cv×Nat×ay))=some (m,a)→aI c g m a:=λg m a e=>by exact noS e
theorem ac.cfg{a cfg':Cfg}{f:KB}{e:KM}{s:dd}(H:ac c a f e s)(h1:cfg'.fi=a.fi)(h2:cfg'.cells=a.cells):ac c cfg' f e s:=⟨H.rep,H.tk,by rwa [h1];exact H.fr,by rwa [h2];exact H.cl⟩
theorem cO{f a:KB}(h:Pre f a)(g:a.length=f.length):a=f:=by
 refine List.ext_getElem? λi=> ?_
 by_cases e:i < f.length
 ·rwa [kn e];exact h i _ (kn e)
 ·(rwa [IT (Go.mp e),IT (by rw [g];exact Go.mp e)];rfl)
theorem ql{n:Nat}(a:KF)(q:Bool):V.closed n (eY a q)=true:=by unfold eY;split<;>rfl
theorem oo{n:Nat}{X:KN}{M a:KM}{r:V}(h1:V.closedL n X=true)(h2:aK n M=true)(h3:V.closed n r=true)(e:aK n a=true):aw (vS n X M r a):=⟨h1,h2,rfl,rfl,h3,e,KP⟩
end
theorem el.out{c:Str→Str→List Str→Prop}{a:Str→Str→List Str→V×List Str}{n:Nat}{x z:GS}{r:V}(h:el c a n x r z):(r= .none∧z.stk=[])∨∃w,r= .str w∧(w==("use":Str))=false:=by
 induction h with
 |word _ h=>exact .inr (ah _ rfl h)
 |fin _ h=>exact .inl (an rfl h)
 |pop _ _ _ b=>exact b
 |use0 _ _ _ _ _ b=>exact b
 |use1 _ _ _ _ _ _ _ b=>exact b
def GX(x:GS)(a:cv)(b:KL)(l:KL)(ad:Ad):List AO:=GF x.b (x.b.length -x.u.length) x.inf x.st x.ln a (bf x.stk ad) b x.gs l (aM x.stk ad)
def ogX(x:GS)(a:cv)(b:KL)(ad:Ad):List AO:=OG (sio x.b (x.b.length -x.u.length)) (.ref 0) x.inf x.st.v x.ln a (bf x.stk ad) b x.gs
def GtX(x:GS)(a:cv)(b:KL)(ad:Ad):List AO:=GT x.b (x.b.length -x.u.length) x.inf x.st x.ln a (bf x.stk ad) b x.gs (aM x.stk ad)
inductive qf(c:Cx)(H:cv→Prop)(a2 a3 a4 a5 a6 a7 a8 a9 a10:cv)(ρ:KB)(mu:KM)(s:dd)(tf:KL)(r:V)(z:GS)(hk:cv)(x:da)(s':dd):Prop
 |mk (b0 b1:cv) (ad:Ad) (tk:1≤s'.toks) (had:ad.length=z.stk.length) (R:aq c.prog c.w {c.d with H:=H,ρ₀:=pin a6 a7 a8} (b0::b1::a2::a3::a4::a5::a6::a7::a8::a9::a10::aD ad) (GtX z hk tf ad) s')
  (X:bR kh ρ mu s (b0::b1::a2::a3::a4::a5::a6::a7::a8::a9::a10::aD ad) (GtX z hk tf ad) s') (hv:∀F ρ,Val F ρ r x)
theorem gx(x:GS)(b:cv){a:KL}(h:aC 0 a=true)(ad:Ad):aK 11 (ogX x b a ad)=true:=eC (cu _ _) h
theorem wK{e:A8}{w:Gv}{d c:KB}{h h2:Gm}{l:KL}(f:aC 0 l=true)(g:∀b,d[2]? =some b→c[2]? =some b)(a:cv):aE e w d h (az l) c h2 (az l) a:=
 aE.re (σ:=λi=>match i with|2=>some (.ref 2)|_=>none) (by
  show((some (V.ref 2)).bind λy=>(reF _ l).map ((("self":Str),y)::·)).map AO.frame=_;rwa [fV (n:=0) (λi h=>absurd h (o1 i)) l f];rfl) λi x b h1 h2=>by
  match i with
  |0|1=>exact noS h1
  |2=>obtain rfl:=ds h1;exact .inr (ah 2 rfl (g b h2))
  |i+3=>exact noS h1
theorem zl{c:Cx}{q:Cfg}{s:dd}{g e a8:cv}(O:c.d.ρ₀=pin g e a8)(D:q.fi=11)(I:q.cells=[]){x z:GS}{r:V}{j:cv}{p l:KL}(u:aC 0 p=true)(U:aC 0 l=true){ad:Ad}(E:ad.length=x.stk.length){w a1 a2 a3 k m n d f:cv}
 (H:ac c q (w::a1::a2::a3::k::m::g::e::a8::n::d::f::aD ad) (GX x j p l ad) s)
 (IH:∀L,aq c.prog c.w {c.d with H:=L,ρ₀:=pin g e a8} (w::a1::a2::a3::k::m::g::e::a8::n::d::aD ad) (GtX x j p ad) s→1≤s.toks→
  eo c.M c.A (call (.ref 693) [.ref a2]) (qf c L a2 a3 k m g e a8 n d (w::a1::a2::a3::k::m::g::e::a8::n::d::aD ad) (GtX x j p ad) s p r z j) NoE s){Q:KD}
 (K:∀v G A y b,b.length=z.stk.length→ac c q (A::y::a2::a3::k::m::g::e::a8::n::d::f::aD b) (GX z j p l b) G→
  bR dm (w::a1::a2::a3::k::m::g::e::a8::n::d::f::aD ad) (GX x j p l ad) s (A::y::a2::a3::k::m::g::e::a8::n::d::f::aD b) (GX z j p l b) G→(∀F Y,Val F Y r v)→Q v G):
 eo c.M c.A (call (.ref 693) [.ref a2]) Q NoE s:=by
 have R:aq c.prog c.w c.d ([w,a1,a2,a3,k,m,g,e,a8,n,d]++([f]++aD ad)) (ogX x j p ad++([az l]++aM x.stk ad)) s:=H.rep;refine ai (pK R rfl rfl rfl (dZ E).symm (gx x j u ad) (cw _ _) (r0:=pin g e a8) gQ) λR1 O1=> ?_;refine ex (IH _ R1 H.tk) (λv s1 h=> ?_) λP P z=>z;obtain⟨A,y,b,C,t,W,X2,T⟩:=h;refine ai (nZ (B:=[A,y,a2,a3,k,m,g,e,a8,n,d]) (PB:=aD b) (ob:=ogX z j p b) (pb:=aM z.stk b) R rfl rfl rfl (λo ho=>by rwa [mx.mp ho];rfl) O1 W X2 rfl rfl (dZ t).symm (gx z j u b) (cw _ _) (by rwa [O];exact gQ)
  λi o J a=>by
   induction i using Ge with
   |zero=>obtain rfl:=ds J;exact wK U (by intro _ h;exact h) a
   |succ i=>exact noS J) λZ N=> ?_
 refine K v s1 A y b t (na Z C ?_ I) (N dm (mV (l:=[a2,a3,k,m,g,e,a8,n,d,f]) rfl)) T;have:=H.fr;rw [D]at this⊢;exact this
def cq(P:ed)(a:cv):Cfg:=dU P [] [] a cH
def iZ(P:ed)(l m:KC)(B:aA)(g n j a8:cv)(i:KL)(k:Str→Str→List Str→Prop)(d:Str→Str→List Str→V×List Str):Prop:=
 ∀c:Cx,ak c (KK P) l m→c.d.B=B→c.d.ρ₀=pin n j a8→av 7 c.A→∀(b:Str) (p:Nat) (a:Str) (st:LSt) (h:Int) (e:KN) (w:Str) (f:KA),k a w f→
  aI c g 11 (sAt [.str w] (OG (sio b p) (.ref 0) a st.v h g e i f) [] (d a w f).1 (OG (sio b p) (.ref 0) a st.v h g e i (d a w f).2))
section
variable{P:ed}{d e:KC}{c:Cx}{a:cv}{b:KL}{s:dd}{f:KB}
theorem ub(m:aR (KK P) d e)(T:ak c (KK P) d e)(l:av 3 c.A){x y:GS}{r:V}(h:rdT x=some (r,y))(g:GOk x)(a:cv)(i:KN):
 aI c 700 6 (sAt [.ref 2] (RT x.b (x.b.length -x.u.length) x.inf x.st.v x.ln "" a i) [] r (RT x.b (x.b.length -y.u.length) x.inf y.st.v y.ln "" a i)):=by
 revert m T l h g;revert P d e c x y r a i;refine' eI9;intro i a r y x c e d P m T l h g;(refine nz (dC h g) λk k k k k j=> ?_;refine xg j ?_;clear j;intro z q o p n I);have:=Db m T l x.inf a i g.buf.2.2 I;rw [q,o,p,←n]at this;exact this
theorem tT{x y:GS}{r:V}(h:rdT x=some (r,y))(g:GOk x)(n:Nat):V.closed n r=true:=by
 revert h g;revert x y r n;refine' eI4;intro n r y x h g;(refine nz (dC h g) λi i i i i j=> ?_;refine xg j ?_;clear j;intro z i i i k i);rwa [k];exact ql _ _
theorem kF:∀{x y:GS} {r:V} {ad:Ad} {j:List k0} {Q:Hj→dd→Prop} (u:aR (KK P) d e) (T:ak c (KK P) d e) (o:av 3 c.A) (E:jE P 693 c) (l:aI c a 11 cH) (h:rdT x=some (r,y)) (g:GOk x) (H:ac c (cq P a) f (GX x a b [] ad) s) (k:∀m,ac c (cq P a) f (GX y a b [("raw",r)] ad) m→Ext f (GX x a b [] ad) s f (GX y a b [("raw",r)] ad) m→eo c.M c.A (un j c.env) Q NoE m),eo c.M c.A (un ((db P).take 2++j) c.env) Q NoE s:=by
 revert P d e c a b s f;refine' eI14;intro Q j ad r y x f s b a c e d P u T o E l h g H k;refine nz (dC h g) λI C B w A D=> ?_;have F:=ub u T o h g a (bf x.stk ad);have G:=eV u T (o.le (by decide)) E (orc:=[]) (fs:=_) (hk:=a) (sp:=cH) (pP F) l
 have i:=E0 P x.b (x.b.length -x.u.length) x.inf x.st.v x.ln a (bf x.stk ad) b x.gs (aM x.stk ad) cH r y.st.v (x.b.length -y.u.length) y.ln;have v:=cu x.stk ad;refine dR G 40 (H.cfg rfl rfl) i ⟨so _,oo rfl (eB v) (tT h g 6) (eB v)⟩ λq m n p=> ?_;have z:OG (sio x.b (x.b.length -y.u.length)) (.ref 0) x.inf y.st.v y.ln a (bf x.stk ad) b x.gs++az [("raw",r)]::aM x.stk ad=GX y a b [("raw",r)] ad:=by
  unfold GX GF;(rwa [C,B,w,A];rfl)
 rw [z]at n p;have t:q=f:=cO p.pre (by rwa [n.rep.len,H.rep.len];unfold GX;rwa [w];simp [GF,OG,OC])
 subst t;exact k m (n.cfg rfl rfl) p
end
set_option genInjectivity false in
structure jB where
 t:Expr
 o:Expr
 n:Str
 ap:nR
 p:nR
 q:nR
deriving Nonempty
noncomputable def jB.stmt(i:jB):k0:= .Assign [i.t] (.Call (.Attribute i.o i.n i.ap) [] [] i.p) i.q
def xy(l:List k0):jB:=aHd l df λs=>B0 s df λc e q=>aH c df λt b=>kM e df λf b p=>aAt f df λo n a=>⟨t,o,n,a,p,q⟩
def vN(P:ed):jB:=xy ((W1 P).2.1.drop 2)
def vM(P:ed):jB:=xy ((ifO (W2 P).2.1).drop 1)
structure sM(P:ed)(i:jB):Prop where
 c1:dt i.o=false
 c2:dD i.t=false
 c3:bT i.t=false
 c4:Nat.beq i.ap.endLine i.p.line=true
 e:∀(b:Str) (p:Nat) (inf:Str) (st:V) (ln:Int) (hk:cv) (stk:KN) (tf:KL) (gs:KA) (l:KL) (tl:KM),
  (fns (cq P hk) 40).E i.o (OG (sio b p) (.ref 0) inf st ln hk stk tf gs++az l::tl)= .ok [] (.ref 2) (OG (sio b p) (.ref 0) inf st ln hk stk tf gs++az l::tl)
 m:∀(b:Str) (p:Nat) (inf:Str) (st:V) (ln:Int) (hk:cv) (stk:KN) (tf:KL) (gs:KA) (l:KL) (tl:KM),
  fX (cq P hk) (.ref 2) i.n (OG (sio b p) (.ref 0) inf st ln hk stk tf gs++az l::tl)=some (.fn 693)
 a:∀(b:Str) (p:Nat) (inf:Str) (st:V) (ln:Int) (hk:cv) (stk:KN) (tf:KL) (gs:KA) (l:KL) (tl:KM) (r:V),
  (fns (cq P hk) 40).A i.t r (OG (sio b p) (.ref 0) inf st ln hk stk tf gs++az l::tl)= .ok [] () (OG (sio b p) (.ref 0) inf st ln hk stk tf gs++az (bS "raw" r l)::tl)
theorem yE(P:ed):(W1 P).2.1.drop 2=[(vN P).stmt]∧sM P (vN P):=
 ⟨by rfl',by rfl',by rfl',by rfl',by rfl',λb p a st e d c f g l h=>by rfl',λb p a st e d c f g l h=>by rfl',λb p a st e d c f g l h r=>by rfl'⟩
theorem yD(P:ed):(ifO (W2 P).2.1).drop 1=[(vM P).stmt]∧sM P (vM P):=
 ⟨by rfl',by rfl',by rfl',by rfl',by rfl',λb p a st e d c f g l h=>by rfl',λb p a st e d c f g l h=>by rfl',λb p a st e d c f g l h r=>by rfl'⟩
theorem qK(P:ed):keepIn (KK P) (.ref 693)=true:=by rfl'
theorem zd(P:ed):keepIn (KK P) (.ref 679)=true:=by rfl'
def mO(P:ed)(k l:KC)(B:aA)(i d b a8:cv)(h:KL)(n:Nat)(x:GS)(r:V)(z:GS):Prop:=
 ∀c:Cx,ak c (KK P) k l→c.d.B=B→av (n+8) c.A→GOk x→∀(H:cv→Prop) (ad:Ad) (j a1 a2 a3 e f g a:cv) (s:dd),ad.length=x.stk.length→
  aq c.prog c.w {c.d with H:=H,ρ₀:=pin d b a8} (j::a1::a2::a3::e::f::d::b::a8::g::a::aD ad) (GtX x i h ad) s→1≤s.toks→
  eo c.M c.A (call (.ref 693) [.ref a2]) (qf c H a2 a3 e f d b a8 g a (j::a1::a2::a3::e::f::d::b::a8::g::a::aD ad) (GtX x i h ad) s h r z i) NoE s
section
variable{P:ed}{d e:KC}{c:Cx}{a:cv}{b:KL}{s:dd}
theorem o4:∀{B:aA} {y t a8:cv} {i:jB} {n:Nat} {x z:GS} {r:V} {l:KL} {ad:Ad} {N a1 a2 a3 C D A m p:cv} (Tp:aR (KK P) d e) (T:ak c (KK P) d e) (hB:c.d.B=B) (E:jE P 693 c) (h0:c.d.ρ₀=pin y t a8) (K:aI c a 11 cH) (I:aC 0 b=true) (q:sM P i) (hr:av (n+8) c.A) (ih:mO P d e B a y t a8 b n x r z) (g:GOk x) (Z:∀n,V.closed n r=true) (hl:aC 0 l=true) (w:ad.length=x.stk.length) (H:ac c (cq P a) (N::a1::a2::a3::C::D::y::t::a8::A::m::p::aD ad) (GX x a b l ad) s),eo c.M c.A (IP i.stmt c.env) (λfl s'=>fl= .next∧∃R U k,k.length=z.stk.length∧ac c (cq P a) (R::U::a2::a3::C::D::y::t::a8::A::m::p::aD k) (GX z a b (bS "raw" r l) k) s'∧
 bR dm (N::a1::a2::a3::C::D::y::t::a8::A::m::p::aD ad) (GX x a b l ad) s (R::U::a2::a3::C::D::y::t::a8::A::m::p::aD k) (GX z a b (bS "raw" r l) k) s') NoE s:=by
 revert P d e c a b s;refine' eI27;intro p m A D C a3 a2 a1 N ad l r z x n i a8 t y B s b a c e d P Tp T hB E h0 K I q hr ih g Z hl w H;have G:aG c (cq P a):=eV Tp T (hr.le (by exact Lle [_] [] 0 Z0 (.a V0 Z14) rfl)) E gV K
 have O:=bj G 40;refine jx rfl q.c2 (by rwa [q.c3];rfl) ?_
 refine jU G O q.c1 q.c4 rfl H (q.e ..) trivial (q.m ..) (λh hh=>keeps_K (qK P) h λf o j=>hh _ _ (T.K f o j)) (vc2:=[]) (xs:=[]) rfl trivial λu us s1 ar H1 X1 L al=> ?_;have Y:=cO X1.pre (by rwa [H1.rep.len,H.rep.len];rfl)
 subst Y;rwa [show us=[]from al];have W:u= .ref a2:=by(refine ab L ?_;clear L;intro f ha L);obtain rfl:=ds ha;exact L
 subst W;refine zl h0 rfl rfl I hl w H1 (λH' R' ag=>ih c T hB hr g H' ad N a1 a2 a3 C D A m s1 w R' ag) λv s2 R U k J H2 X2 hv=> ?_;refine ex ((O.A i.t r _ _ s2 v H2 (hv _ _)).use (q.a ..) trivial) (λzz s3 hZ=> ?_) λzz zz z=>z;obtain⟨ap,H3,X3,_⟩:=hZ;have F:=cO X3.pre (by rwa [H3.rep.len,H2.rep.len];simp [GX,GF,OG,OC])
 subst F;exact(an rfl (FQ R U k J H3 (((X1.toN dm).trans X2).trans (X3.toN dm))))
end
set_option genInjectivity false in
structure mJ where
 o:Expr
 n:Str
 ap:nR
 a1:Expr
 a2:Expr
 p:nR
 q:nR
deriving Nonempty
noncomputable def mJ.stmt(i:mJ):k0:= .Expr (.Call (.Attribute i.o i.n i.ap) [i.a1,i.a2] [] i.p) i.q
def AB(l:List k0):mJ:=aHd l df λs=>aEx s df λe q=>kM e df λf l p=>aAt f df λo n a=>aH l df λa1 l=>aH l df λa2 b=>⟨o,n,a,a1,a2,p,q⟩
def psh(P:ed):mJ:=AB ((ifB ((W1 P).2.1.drop 1)).drop 1)
noncomputable def lSp(b a:Str):List (Str×V):=[("raw", .str "use"),("spec", .ftup [.str b, .str a]),("newfile", .str b),("newstream", .str a)]
theorem tZ(P:ed):(ifB ((W1 P).2.1.drop 1)).drop 1=[(psh P).stmt]∧dt (psh P).o=false∧Nat.beq (psh P).ap.endLine (psh P).p.line=true:=(cB (by rfl') (by rfl') (by rfl'))
section
variable(P:ed)(b:Str)(p:Nat)(d:Str)(st:V)(j:Int)(e:cv)(c:KN)(i:KL)(k:KA)(h:KM)(g f:Str)
theorem CZ:(fns (cq P e) 40).E (psh P).o (OG (sio b p) (.ref 0) d st j e c i k++az (lSp g f)::h)= .ok [] (.ref 2) (OG (sio b p) (.ref 0) d st j e c i k++az (lSp g f)::h):=by rfl'
theorem CY:fX (cq P e) (.ref 2) (psh P).n (OG (sio b p) (.ref 0) d st j e c i k++az (lSp g f)::h)=some (.fn 679):=by rfl'
theorem C0:dj (fns (cq P e) 40) [(psh P).a1,(psh P).a2] (OG (sio b p) (.ref 0) d st j e c i k++az (lSp g f)::h)= .ok [] [.str f, .str g] (OG (sio b p) (.ref 0) d st j e c i k++az (lSp g f)::h):=by rfl'
def spT(P:ed):Expr:=ifT ((W1 P).2.1.drop 1)
theorem xp:jP (spT P)=true∧(fns (cq P e) 40).E (spT P) (OG (sio b p) (.ref 0) d st j e c i k++az [("raw", .str "use"),("spec", .ftup [.str g, .str f])]::h)= .ok [] (.ftup [.str g, .str f]) (OG (sio b p) (.ref 0) d st j e c i k++az [("raw", .str "use"),("spec", .ftup [.str g, .str f])]::h):=⟨by rfl',by rfl'⟩
set_option genInjectivity false in
structure xi where
 t:Expr
 a:List k0
 b:List k0
 p:nR
deriving Nonempty
def gT(l:List k0):xi:=aHd l df λs=>aIf s df λt a b p=>⟨t,a,b,p⟩
noncomputable def xi.stmt(a:xi):k0:= .If a.t a.a a.b a.p
theorem CE:(gT ((W1 P).2.1.drop 1)).stmt= .If (spT P) ((ifB ((W1 P).2.1.drop 1)).take 1++[(psh P).stmt]) (gT ((W1 P).2.1.drop 1)).b (gT ((W1 P).2.1.drop 1)).p:=by rfl'
end
noncomputable def o7(x:GS)(a b:Str):GS:=⟨a,a.cps.toList,b,x.st,1,(x.inf,x.ln,x.b,x.u)::x.stk,x.gs⟩
section
variable{P:ed}{d e:KC}{c:Cx}{a:cv}{b:KL}{s:dd}
theorem tX:∀{w t a8:cv} {x:GS} {tx nf:Str} {ad:Ad} {m a1 a2 a3 C D B j i:cv} (Y:aR (KK P) d e) (T:ak c (KK P) d e) (Z:av 4 c.A) (E:jE P 693 c) (h0:c.d.ρ₀=pin w t a8) (I:aI c a 11 cH) (A:aC 0 b=true) (hs:x.stk.length+1≤1000) (H:ac c (cq P a) (m::a1::a2::a3::C::D::w::t::a8::B::j::i::aD ad) (GX x a b [("raw", .str "use"),("spec", .ftup [.str nf, .str tx])] ad) s),eo c.M c.A (IP (gT ((W1 P).2.1.drop 1)).stmt c.env) (λfl U=>fl= .next∧∃N n1 p,ac c (cq P a) (N::n1::a2::a3::C::D::w::t::a8::B::j::i::aD ((m,a1,p)::ad)) (GX (o7 x tx nf) a b (lSp nf tx) ((m,a1,p)::ad)) U∧
 bR dm (m::a1::a2::a3::C::D::w::t::a8::B::j::i::aD ad) (GX x a b [("raw", .str "use"),("spec", .ftup [.str nf, .str tx])] ad) s (N::n1::a2::a3::C::D::w::t::a8::B::j::i::aD ((m,a1,p)::ad)) (GX (o7 x tx nf) a b (lSp nf tx) ((m,a1,p)::ad)) U) NoE s:=by
 revert P d e c a b s;refine no_implicit_lambda% (@Mine.pd _ (@Mine.pd _ (@Mine.pd _ (@Mine.pd _ ?_))));refine' eI27;intro i j B D C a3 a2 a1 m ad nf tx x a8 t w s b a c e d P _ _ _ _ Y T Z E h0 I A hs H;have G:aG c (cq P a):=eV Y T (Z.le (by exact Lle [] [] 0 Z0 Z21 rfl)) E gV I
 have O:=bj G 40;rwa [CE P];refine Kf ?_;rwa [nK (xp P x.b (x.b.length -x.u.length) x.inf x.st.v x.ln a (bf x.stk ad) b x.gs (aM x.stk ad) nf tx).1 _ _];refine dV ((O.E (spT P)).use H (xp P x.b (x.b.length -x.u.length) x.inf x.st.v x.ln a (bf x.stk ad) b x.gs (aM x.stk ad) nf tx).2 trivial λu s1 ar R X1 K=>dV (Hc (A9 ?_)));(refine dJ K ?_;clear K;intro ta o r n q k q1 q2 q3;subst q;(refine ax k ?_;clear k;intro L L ho));have J:r.size=2:=by rwa [←iy,Vals.len _ _ q3];rfl
 refine truthy_tuple (items:=r) ⟨o,ho,q1,n,q2⟩ (by rwa [J];decide) ?_
 rwa [show(!r.isEmpty)=true from by rw [Array.isEmpty,J];rfl]
 have W:=cO X1.pre (by rwa [R.rep.len,H.rep.len];rfl)
 subst W;have Hs:=R.same (s':={heap:=s1.heap,gens:=s1.gens,drawn:=s1.drawn,toks:=s1.toks+1+1,os:=s1.os}) rfl rfl rfl (Gz _ _);rwa [if_pos rfl];show eo c.M c.A (un ((ifB ((W1 P).2.1.drop 1)).take 1++[(psh P).stmt]) c.env) _ _ _;refine dR G 40 Hs.1 (E4d P x.b (x.b.length -x.u.length) x.inf x.st.v x.ln a (bf x.stk ad) b x.gs (aM x.stk ad) cH nf tx) trivial λap s2 H2 X2=> ?_;have F:=cO X2.pre (by rwa [H2.rep.len,R.rep.len];rfl)
 subst F;refine pp (wpAny_Expr_any ?_ (by unfold interactive;rwa [E.kind];rfl) (jH rfl))
 refine jU G O (tZ P).2.1 (tZ P).2.2 rfl H2 (CZ P x.b (x.b.length -x.u.length) x.inf x.st.v x.ln a (bf x.stk ad) b x.gs (aM x.stk ad) nf tx) trivial (CY P x.b (x.b.length -x.u.length) x.inf x.st.v x.ln a (bf x.stk ad) b x.gs (aM x.stk ad) nf tx) (λh hh=>keeps_K (zd P) h λf o g=>hh _ _ (T.K f o g))
  (C0 P x.b (x.b.length -x.u.length) x.inf x.st.v x.ln a (bf x.stk ad) b x.gs (aM x.stk ad) nf tx) trivial λu us s3 al H3 X3 K ag=> ?_
 have y:=cO X3.pre (by rwa [H3.rep.len,H2.rep.len];rfl)
 subst y;refine ex (tW (l:=lSp nf tx) (tl:=aM x.stk ad) Y T Z h0 rfl rfl (h9 (GB (oW x.stk ad)) (h9 hs (by decide))) (cu _ _) A rfl (cw _ _) H3 (vs:=u::us) ⟨u,us,rfl,K,ag⟩) (λv s4 q=>ai q λL k=>dW k λN n1 p H4 X4=>Gc ?_) λL L z=>z
 have em:GF tx 0 nf x.st 1 a (.ftup [.str x.inf, .adr m, .int x.ln]::bf x.stk ad) b x.gs (lSp nf tx) (fu a1 p x.b (x.b.length -x.u.length)++aM x.stk ad)=GX (o7 x tx nf) a b (lSp nf tx) ((m,a1,p)::ad):=by
  show GF tx 0 nf x.st 1 a _ b x.gs _ _=GF tx (tx.length -tx.cps.toList.length) nf x.st 1 a _ b x.gs _ _;rwa [iy,show tx.length -tx.cps.size=0 from GC _];rfl
 rw [em]at H4 X4;exact(an rfl (sF N n1 p H4 (((((X1.trans Hs.2).trans X2).trans X3).toN dm).trans X4)))
end
theorem D0(P:ed):fdB (KK P) 693 ["self"]=true:=by rfl'
theorem Fu(P:ed)(v:da):cK (KK P) 693 [v] [("self",v)]:=λS=>by rfl'
inductive qg(P:ed)(c:Cx)(hk:cv)(tf:KL)(a2 a3 a4 a5 a6 a7 a8 a9 a10 a11:cv)(ρ:KB)(mu:KM)(s:dd)(r:V)(z:GS)(fl:Hj)(s2:dd):Prop
 |mk (l:KL) (b0 b1:cv) (ad':Ad) (had:ad'.length=z.stk.length) (H:ac c (cq P hk) (b0::b1::a2::a3::a4::a5::a6::a7::a8::a9::a10::a11::aD ad') (GX z hk tf l ad') s2)
  (X:bR dm ρ mu s (b0::b1::a2::a3::a4::a5::a6::a7::a8::a9::a10::a11::aD ad') (GX z hk tf l ad') s2) (u:da) (hu:fl= .ret u) (hv:∀F ρ,Val F ρ r u)
theorem gU:∀{P:ed} {Y O:KC} {B:aA} {p i f a8:cv} {y:KL} {n:Nat} {x z:GS} {r:V} (G:aC 0 y=true) (k:∀(c:Cx) (A a1 a2 a3 t w q b I:cv) (ad:Ad) (s:dd),ak c (KK P) Y O→c.d.B=B→av (n+7) c.A→jE P 693 c→c.d.ρ₀=pin i f a8→ad.length=x.stk.length→
 ac c (cq P p) (A::a1::a2::a3::t::w::i::f::a8::q::b::I::aD ad) (GX x p y [] ad) s→
 eo c.M c.A (un (db P) c.env) (qg P c p y a2 a3 t w i f a8 q b I (A::a1::a2::a3::t::w::i::f::a8::q::b::I::aD ad) (GX x p y [] ad) s r z) NoE s),GOk x→(∀c:Cx,ak c (KK P) Y O→c.d.B=B→av (n+8) c.A→∀(H:cv→Prop) (ad:Ad) (A a1 a2 a3 t w q b:cv) (s:dd),ad.length=x.stk.length→
 aq c.prog c.w {c.d with H:=H,ρ₀:=pin i f a8} (A::a1::a2::a3::t::w::i::f::a8::q::b::aD ad) (GtX x p y ad) s→1≤s.toks→
 eo c.M c.A (call (.ref 693) [.ref a2]) (qf c H a2 a3 t w i f a8 q b (A::a1::a2::a3::t::w::i::f::a8::q::b::aD ad) (GtX x p y ad) s y r z p) NoE s):=by
 refine' eI13;intro r z x n y a8 f i p B O Y P G k;intro g c T hB hr H ad A a1 a2 a3 t w q b s W R ht;refine au (eO (D0 P)) λfd F=> ?_;refine ab F.ob λo ho hd=> ?_;have X:(KK P).In s.heap:=λa o e=>R.base _ _ (T.K a o e)
 let C:List AO:=GtX x p y ad
 let cf:Cfg:={cq P p with fi:=C.length}
 let K:Cx:={c with d:={c.d with ρ₀:=pin i f a8}}
 have T0:ak K (KK P) Y O:=⟨⟨T.base.g,T.base.b⟩,T.K,T.nolim,T.handled⟩;have J:=F.ok cf rfl;have N:(aD ad).length=(aM x.stk ad).length:=(dZ W).symm;have D:(pin i f a8).take C.length=pin i f a8:=GN (by show 9≤(GtX x p y ad).length;simp [GtX,GT,OG,OC])
 have R':aq K.prog K.w (K.at H C.length) (A::a1::a2::a3::t::w::i::f::a8::q::b::aD ad) C s:=by
  show aq c.prog c.w {c.d with H:=H,ρ₀:=JS _ (pin i f a8)} _ _ s
  rwa [D];exact R
 refine HJ (gW (c:=K) (cfg:=cf) (k:=n+7) (n:=C.length) (H:=H) (ρ:=A::a1::a2::a3::t::w::i::f::a8::q::b::aD ad) (mu:=C) (ps:=["self"]) (xs:=[.ref 2]) T0 hr F.body J F.par F.nd rfl (X _ _ ho) hd (Jv X F.code) rfl
  (f5 X R' ht (us:=[.ref a2]) ⟨.ref a2,[],rfl,⟨a2,rfl,rfl⟩,rfl⟩ rfl (Fu P (.ref a2)) F.isFd) (λx j h=>by exact noS h) λL s1 H1 X1=> ?_)
 let E:Cx:=bK K H C.length fd L 693
 have e0:E.d.ρ₀=pin i f a8:=D;have T1:ak E (KK P) Y O:=⟨⟨T.base.g,T.base.b⟩,T.K,T.nolim,T.handled⟩;have r1:av (n+7) E.A:=⟨by have:=hr.1;show c.A.depth+1+(n+7)≤_;exact Lle [_,_] [Q0 (.a V0 (.a V1 Z14)) Z1] 0 (.a (.a V0 Z0) (.a V1 Z5)) Z1 rfl this,by have:=hr.2;show c.A.units+3+5*(n+7)+100≤_;exact Lle [_,_] [Q0 (.a (.a V0 (.m 5 (.a V1 Z14))) Z10) Z11] 0 (.a (.a (.a V0 Z12) (.m 5 (.a V1 Z5))) Z10) Z11 rfl this⟩
 have E1:jE P 693 E:=⟨J.kind,J.names,J.glob,J.blt,J.nocls⟩;have R1:aq E.prog E.w E.d (A::a1::a2::a3::t::w::i::f::a8::q::b::(aD ad++[L])) (OG (sio x.b (x.b.length -x.u.length)) (.ref 0) x.inf x.st.v x.ln p (bf x.stk ad) y x.gs++(aM x.stk ad++[az []])) s1:=by
  have:=H1.rep;rw [show C++[AO.frame ((["self"]:KA).zip [V.ref 2])]=OG (sio x.b (x.b.length -x.u.length)) (.ref 0) x.inf x.st.v x.ln p (bf x.stk ad) y x.gs++(aM x.stk ad++[az []])from oq ..]at this;exact this
 refine ai (uH e0 (cu _ _) G rfl (cw _ _) N R1) λR2 X2=> ?_;have H2:ac E (cq P p) (A::a1::a2::a3::t::w::i::f::a8::q::b::L::aD ad) (GX x p y [] ad) s1:=na R2 H1.tk rfl rfl;have ag:Ext (A::a1::a2::a3::t::w::i::f::a8::q::b::aD ad) C s (A::a1::a2::a3::t::w::i::f::a8::q::b::(aD ad++[L])) (OG (sio x.b (x.b.length -x.u.length)) (.ref 0) x.inf x.st.v x.ln p (bf x.stk ad) y x.gs++(aM x.stk ad++[az []])) s1:=by
  rw [show C++[AO.frame ((["self"]:KA).zip [V.ref 2])]=OG (sio x.b (x.b.length -x.u.length)) (.ref 0) x.inf x.st.v x.ln p (bf x.stk ad) y x.gs++(aM x.stk ad++[az []])from oq ..]at X1;exact X1
 refine ex (k E A a1 a2 a3 t w q b L ad s1 T1 hB r1 E1 e0 W H2) (λfl s2 hZ=> ?_) λzz zz z=>z;obtain⟨l,b0,b1,Z,U,H3,X3,u,hu,hv⟩:=hZ;subst hu;refine ai (ur e0 (cu _ _) G (cw _ _) H3.rep) λR4 X4=> ?_;refine⟨b0,b1,Z,H3.tk,U, ?_, ?_,hv⟩
 ·have:aq c.prog c.w {c.d with H:=H,ρ₀:=JS _ (pin i f a8)} _ _ s2:=R4
  rw [D]at this;exact this
 ·exact(((ag.toN kh).trans X2).trans (X3.weak xh)).trans X4
theorem Ce(P:ed):(db P).drop 2=((db P).drop 2).take 1++ .While (W2 P).1 (W2 P).2.1 [] (W2 P).2.2::(db P).drop 4∧
 (W2 P).2.1=[.If (ifT (W2 P).2.1) (gT (W2 P).2.1).a ((ifO (W2 P).2.1).take 1++[(vM P).stmt]) (gT (W2 P).2.1).p]:=⟨by rfl',by rfl'⟩
theorem Cf(P:ed):(db P).drop 2= .If (ifT ((db P).drop 2)) [.While (W1 P).1 (W1 P).2.1 [] (W1 P).2.2] (gT ((db P).drop 2)).b (gT ((db P).drop 2)).p::(db P).drop 3∧
 (W1 P).2.1=(W1 P).2.1.take 1++[(gT ((W1 P).2.1.drop 1)).stmt,(vN P).stmt]:=⟨by rfl',by rfl'⟩
theorem E4s(P:ed)(b:Str)(p:Nat)(a:Str)(st:V)(e:Int)(d:cv)(c:KN)(f:KL)(g:KA)(h:KM):(fns (cq P d) 40).X (gT ((W1 P).2.1.drop 1)).stmt (OG (sio b p) (.ref 0) a st e d c f g++az [("raw", .str "use"),("spec", .none)]::h)= .ok [] .next (OG (sio b p) (.ref 0) a st e d c f g++az [("raw", .str "use"),("spec", .none)]::h):=by rfl'
section
variable{P:ed}{g h:KC}{c:Cx}{hk:cv}{tf:KL}{s:dd}{B:aA}{n:Nat}{z:GS}{r:V}{d a1 a2 a3 a4 a5 a6 a7 a8 a9 a10 a11:cv}{ad:Ad}{y:GS}{e:KB}{f:KM}{i:dd}
inductive dy(P:ed)(c:Cx)(hk:cv)(tf:KL)(a2 a3 a4 a5 a6 a7 a8 a9 a10 a11:cv)(ρ:KB)(mu:KM)(s:dd)(l:KL)(z:GS)(s2:dd):Prop
 |mk (b0 b1:cv) (ad':Ad) (had:ad'.length=z.stk.length) (H:ac c (cq P hk) (b0::b1::a2::a3::a4::a5::a6::a7::a8::a9::a10::a11::aD ad') (GX z hk tf l ad') s2)
  (X:bR dm ρ mu s (b0::b1::a2::a3::a4::a5::a6::a7::a8::a9::a10::a11::aD ad') (GX z hk tf l ad') s2)
theorem dy.fin{l:KL}{vc:KG}{w:List k0}{j:Cfg}(G:aG c j)(x:j.fi=11)(t:j.cells=[])(b:dy P c hk tf a2 a3 a4 a5 a6 a7 a8 a9 a10 a11 e f i l z s)(N:∀F q v,Val F q r v→∀F q,Val F q r v)
 (a:∀ad,ad.length=z.stk.length→am (fns j 40) w (GX z hk tf l ad)= .ok vc (.ret r) (GX z hk tf l ad))(p:aw vc):eo c.M c.A (un w c.env) (qg P c hk tf a2 a3 a4 a5 a6 a7 a8 a9 a10 a11 e f i r z) NoE s:=by
 obtain⟨O,L,m,k,H,X⟩:=b;refine ex (dp G 40 (H.cfg (cfg':=j) x t) (a m k) p) (λI s2 E=> ?_) λD D z=>z;obtain⟨K,A,C,o⟩:=E;have:=cO C.pre (by(rwa [A.rep.len,H.rep.len];rfl))
 subst this
 induction I with
 |next=>cases o
 |brk=>cases o
 |cont=>cases o
 |ret u=>
  (refine ab o ?_;clear o;intro v p J);cases p;exact⟨l,O,L,m,k,A.cfg x.symm t.symm,X.trans (C.toN dm),u,rfl,N _ _ _ J⟩
theorem dy.start(a:ad.length=y.stk.length){l:KL}{b:KM}(H:ac c (cq P hk) (d::a1::a2::a3::a4::a5::a6::a7::a8::a9::a10::a11::aD ad) (GX y hk tf l ad) s)
 (X:Ext (d::a1::a2::a3::a4::a5::a6::a7::a8::a9::a10::a11::aD ad) b i (d::a1::a2::a3::a4::a5::a6::a7::a8::a9::a10::a11::aD ad) (GX y hk tf l ad) s):
 dy P c hk tf a2 a3 a4 a5 a6 a7 a8 a9 a10 a11 (d::a1::a2::a3::a4::a5::a6::a7::a8::a9::a10::a11::aD ad) b i l y s:=⟨d,a1,ad,a,H,X.toN dm⟩
theorem dy.test{l:KL}{b:Bool}{a:Expr}{vc:KG}(G:aG c (cq P hk))(j:dy P c hk tf a2 a3 a4 a5 a6 a7 a8 a9 a10 a11 e f i l z s)(x:∀ad,(fns (cq P hk) 40).T a (GX z hk tf l ad)= .ok vc b (GX z hk tf l ad))(u:aw vc){Q:Bool→dd→Prop}
 (k:∀o,dy P c hk tf a2 a3 a4 a5 a6 a7 a8 a9 a10 a11 e f i l z o→Q b o):eo c.M c.A (A0 a c.env (Gu a c.env)) Q NoE s:=by
 obtain⟨C,w,m,p,H,X⟩:=j;refine((bj G 40).T a).use H (x m) u λD o A q t v=> ?_;have:=cO t.pre (by(rwa [q.rep.len,H.rep.len];rfl))
 subst this;cases v;exact k o ⟨C,w,m,p,q,X.trans (t.toN dm)⟩
theorem el.closed{j:Str→Str→List Str→Prop}{b:Str→Str→List Str→V×List Str}{x:GS}(a:el j b n x r z)(m:Nat):V.closed m r=true:=by
 rcases a.out with⟨rfl,_⟩|⟨w,rfl,_⟩<;>rfl
theorem el.vals{k:Str→Str→List Str→Prop}{b:Str→Str→List Str→V×List Str}{x:GS}(a:el k b n x r z):∀F j v,Val F j r v→∀F j,Val F j r v:=by
 rcases a.out with⟨rfl,_⟩|⟨w,rfl,_⟩<;>exact λF j v a F j=>a
theorem dy.last:∀{C:Str→Str→List Str→Prop} {k:Str→Str→List Str→V×List Str} {x:GS} {l:KL} {v:List k0} (a:el C k n x r z) (G:aG c (cq P hk)) (R:dy P c hk tf a2 a3 a4 a5 a6 a7 a8 a9 a10 a11 e f i (("raw",r)::l) z s) (E:r= .none→∀b p j st o t,am (fns (cq P hk) 40) v (OG (sio b p) (.ref 0) j st o hk [] tf z.gs++az (("raw", .none)::l)::t)= .ok [0≤16777216] (.ret .none) (OG (sio b p) (.ref 0) j st o hk [] tf z.gs++az (("raw", .none)::l)::t)) (D:∀w,r= .str w→∀b p j st o m t,am (fns (cq P hk) 40) v (OG (sio b p) (.ref 0) j st o hk m tf z.gs++az (("raw", .str w)::l)::t)= .ok [] (.ret (.str w)) (OG (sio b p) (.ref 0) j st o hk m tf z.gs++az (("raw", .str w)::l)::t)),eo c.M c.A (un v c.env) (qg P c hk tf a2 a3 a4 a5 a6 a7 a8 a9 a10 a11 e f i r z) NoE s:=by
 revert P c hk tf s n z r a2 a3 a4 a5 a6 a7 a8 a9 a10 a11 e f i;refine no_implicit_lambda% (@Mine.pd _ ?_);refine' eI27;intro v l x k C i f e a11 a10 a9 a8 a7 a6 a5 a4 a3 a2 r z n s tf hk c P _ a G R E D;have A:=a.vals;rcases a.out with⟨q,H⟩|⟨w,q,_⟩
 ·subst q
  obtain⟨b,u,j,st,o,m,I⟩:=z;cases H;exact dy.fin G rfl rfl R A (λad F=>E rfl b (b.length -u.length) j st.v o (aM [] ad)) ⟨so _,KP⟩
 ·subst q
  exact dy.fin G rfl rfl R A (λad F=>D w rfl z.b (z.b.length -z.u.length) z.inf z.st.v z.ln (bf z.stk ad) (aM z.stk ad)) trivial
theorem qx:∀{HP:Str→Str→List Str→Prop} {o:Str→Str→List Str→V×List Str} {x x2 y t:GS} {w:Str} {l:KL} (L:aR (KK P) g h) (T:ak c (KK P) g h) (hB:c.d.B=B) (D:av (n+8) c.A) (E:jE P 693 c) (e0:c.d.ρ₀=pin a6 a7 a8) (ar:∀c:Cx,ak c (KK P) g h→c.d.B=B→av 7 c.A→aI c hk 11 cH) (hh:iZ P g h B hk a6 a7 a8 tf HP o) (C:aC 0 tf=true) (j:GOk x) (K:ad.length=x.stk.length) (h1:rdT x=some (.str "use",y)) (h2:rdT y=some (.str w,t)) (hp:HP t.inf w t.gs) (h3:el HP o n x2 r z) (ih:mO P g h B hk a6 a7 a8 tf n x2 r z) (g2:GOk x2) (as:V.closed 11 (o t.inf w t.gs).1=true) (hl:aC 0 l=true) (H:ac c (cq P hk) (d::a1::a2::a3::a4::a5::a6::a7::a8::a9::a10::a11::aD ad) (GX x hk tf [] ad) s) (k:∀(b0 b1:cv) (u:Ad),u.length=t.stk.length→∀s',bR dm (d::a1::a2::a3::a4::a5::a6::a7::a8::a9::a10::a11::aD ad) (GX x hk tf [] ad) s (b0::b1::a2::a3::a4::a5::a6::a7::a8::a9::a10::a11::aD u) (GX {t with gs:=(o t.inf w t.gs).2} hk tf [("raw", .str "use"),("spec",(o t.inf w t.gs).1)] u) s'→
 ac c (cq P hk) (b0::b1::a2::a3::a4::a5::a6::a7::a8::a9::a10::a11::aD u) (GX {t with gs:=(o t.inf w t.gs).2} hk tf [("raw", .str "use"),("spec",(o t.inf w t.gs).1)] u) s'→
 eo c.M c.A (IP (gT ((W1 P).2.1.drop 1)).stmt c.env) (λfl s2=>fl= .next∧dy P c hk tf a2 a3 a4 a5 a6 a7 a8 a9 a10 a11 (d::a1::a2::a3::a4::a5::a6::a7::a8::a9::a10::a11::aD ad) (GX x hk tf [] ad) s (("raw", .str "use")::l) x2 s2) NoE s'),eo c.M c.A (un (db P) c.env) (qg P c hk tf a2 a3 a4 a5 a6 a7 a8 a9 a10 a11 (d::a1::a2::a3::a4::a5::a6::a7::a8::a9::a10::a11::aD ad) (GX x hk tf [] ad) s r z) NoE s:=by
 revert P g h c hk tf s B n z r d a1 a2 a3 a4 a5 a6 a7 a8 a9 a10 a11 ad;refine no_implicit_lambda% (@Mine.pd _ ?_);refine' eI33;intro l w t y x2 x o HP ad a11 a10 a9 a8 a7 a6 a5 a4 a3 a2 a1 d r z n B s tf hk c h g P _ L T hB D E e0 ar hh C j K h1 h2 hp h3 ih g2 as hl H k;have N:=ar c T hB (D.le (by exact Lle [_] [] 0 Z5 (.a V0 Z14) rfl))
 rwa [←Gg 2 (db P)];refine kF L T (D.le (by exact Lle [_] [] 0 Z12 (.a V0 Z14) rfl)) E N h1 j H λs' H' X'=> ?_
 refine fK (dC h1 j) λgy A A ys A=> ?_;refine nz (dC h2 gy) λb5 yb yi J yg A=> ?_;rw [←ys]at K;refine ai (Cf P) λd1 d4=> ?_;have G:aG c (cq P hk):=eV L T (D.le (by exact Lle [_] [] 0 Z0 (.a V0 Z14) rfl)) E (orc:=[]) gV N
 have O:=bj G 40;generalize hS:GX x hk tf [] ad=mus at*;generalize hR:d::a1::a2::a3::a4::a5::a6::a7::a8::a9::a10::a11::aD ad=ρs at*;rwa [d1];refine pp (Kf ((O.T _).use H' (E4t P y.b (y.b.length -y.u.length) y.inf y.st.v y.ln hk (bf y.stk ad) tf y.gs (aM y.stk ad) cH) trivial λb' s2 ap H2 X2 hb=> ?_));have ag:=cO X2.pre (by rwa [H2.rep.len,H'.rep.len];rfl)
 subst ag;cases hb;rwa [if_pos rfl];refine pp (ex (lP (Pm:=dy P c hk tf a2 a3 a4 a5 a6 a7 a8 a9 a10 a11 ap mus s (("raw",r)::l) z)
  (Q:=dy P c hk tf a2 a3 a4 a5 a6 a7 a8 a9 a10 a11 ap mus s (("raw",r)::l) z) (QR:=λA A=>False) ?_ ?_) (λfl s' m=> ?_) λA A z=>z)
 ·refine(O.T _).use H2 (E4w P y.b (y.b.length -y.u.length) y.inf y.st.v y.ln hk (bf y.stk ad) tf y.gs (aM y.stk ad) cH) trivial λb' s3 b3 H3 X3 hb=>⟨hb, ?_⟩
  have U:=cO X3.pre (by(rwa [H3.rep.len,H2.rep.len];rfl))
  subst U;rwa [d4];have F:=ub L T (D.le (by exact Lle [_] [] 0 Z12 (.a V0 Z14) rfl)) h2 gy hk (bf y.stk ad)
  have FH:=hh c T hB e0 (D.le (by exact Lle [_] [] 0 Z5 (.a V0 Z14) rfl)) t.b (t.b.length -t.u.length) t.inf t.st t.ln (bf t.stk ad) w t.gs hp
  have cl:=cu y.stk ad;rw [yb,yi,J,yg]at FH;have G2:=eV L T (D.le (by exact Lle [_] [] 0 Z0 (.a V0 Z14) rfl)) E (orc:=[]) (fs:=_) (hk:=hk) (sp:=_) (pP F) FH
  refine dR G2 40 (H3.cfg rfl rfl) (E4a P y.b (y.b.length -y.u.length) y.inf y.st.v y.ln hk (bf y.stk ad) tf y.gs (aM y.stk ad) w t.st.v (o y.inf w y.gs).1 (y.b.length -t.u.length) t.ln (o y.inf w y.gs).2) ?_ λb4 s4 H4 X4=> ?_
  ·refine aj.mpr ⟨aj.mpr ⟨oo rfl (eB cl) rfl (eB cl),oo rfl (eC cl C) ?_ (eC cl C)⟩,rfl,rfl,KP⟩
   rwa [←yi,←yg];exact as
  have al:=cO X4.pre (by rwa [H4.rep.len,H3.rep.len];rfl)
  subst al;have em:OG (sio y.b (y.b.length -t.u.length)) (.ref 0) y.inf t.st.v t.ln hk (bf y.stk ad) tf (o y.inf w y.gs).2++az [("raw", .str "use"),("spec",(o y.inf w y.gs).1)]::aM y.stk ad=GX {t with gs:=(o t.inf w t.gs).2} hk tf [("raw", .str "use"),("spec",(o t.inf w t.gs).1)] ad:=by
   unfold GX GF;dsimp only;(rwa [yb,yi,J,yg];rfl)
  rw [em]at H4 X4;subst hR;have XX:=((((X'.trans X2).trans X3).trans X4).toN dm);refine pp (ex (k d a1 ad (by rwa [J];exact K) s4 XX (H4.cfg rfl rfl)) (λfl s5 hZ=> ?_) λA A z=>z)
  obtain⟨hf,b0,b1,b6,Z,H5,X5⟩:=hZ;subst hf;refine pp (ex (o4 L T hB E e0 N C (yE P).2 D ih g2 h3.closed (l:=("raw", .str "use")::l) hl Z H5) (λfl s7 hZ=> ?_) λA A z=>z);(refine ai hZ ?_;clear hZ;intro hf W;refine jz W ?_;clear W;intro b0 b1 u Y H7 X7);subst hf;exact Gc (.inl ⟨rfl,b0,b1,u,Y,H7,X5.trans X7⟩)
 ·intro s3 R
  rcases h3.out with⟨q,hs⟩|⟨w,q,hw⟩
  ·subst q
   exact R.test G (vc:=[]) (b:=false) (λad=>E4n P z.b (z.b.length -z.u.length) z.inf z.st.v z.ln hk (bf z.stk ad) tf z.gs (aM z.stk ad) cH l) trivial λs4 R4=> .inl ⟨rfl,R4⟩
  ·subst q
   exact R.test G (vc:=[]) (b:=false) (λad=>by rwa [←hw];exact E4x P z.b (z.b.length -z.u.length) z.inf z.st.v z.ln hk (bf z.stk ad) tf z.gs (aM z.stk ad) cH w l) trivial λs4 R4=> .inl ⟨rfl,R4⟩
 ·rcases m with⟨rfl,R⟩|⟨v,rfl,R⟩
  ·refine Gc ?_
   exact dy.last h3 G R (λq b p I st ln tl=>E5n P b p I st ln hk tf z.gs tl cH l) λw hw b p I st ln b2 tl=>E5 P b p I st ln hk b2 tf z.gs tl cH w l
  ·exact R.elim
set_option maxHeartbeats 2000000 in
theorem gt:∀{HP:Str→Str→List Str→Prop} {ar:Str→Str→List Str→V×List Str} {x:GS} (Tp:aR (KK P) g h) (U:∀c:Cx,ak c (KK P) g h→c.d.B=B→av 7 c.A→aI c hk 11 cH) (hh:iZ P g h B hk a6 a7 a8 tf HP ar) (D:aC 0 tf=true) (o:el HP ar n x r z),mO P g h B hk a6 a7 a8 tf n x r z:=by
 revert P g h hk tf B n z r a6 a7 a8;refine' eI15;intro x ar HP a8 a7 a6 r z n B tf hk h g P Tp U hh D o;have h0:=o
 induction o with
 |@word x y w h1 h2=>
  revert h1 h2 h0;revert x y w;refine' eI3;intro w y x h1 h2 h0;intro c T I C j;refine gU D ?_ j c T I C;refine' eI12;intro s ad a11 a10 a9 a5 a4 a3 a2 a1 d c T I C E e0 A H;have N:=U c T I (C.le (by exact Lle [] [] 0 Z5 (.a Z3 Z5) rfl))
  rwa [←Gg 2 (db P)];refine kF Tp T (C.le (by exact Lle [] [] 0 Z12 (.a Z3 Z5) rfl)) E N h1 j H λs' Z X'=> ?_
  refine fK (dC h1 j) λgy J J ys J=> ?_;exact dy.fin (eV Tp T (C.le (by exact Lle [] [] 0 Z0 (.a Z3 Z5) rfl)) E (orc:=[(553018036,false)]) gV N) rfl rfl (dy.start (by rwa [ys];exact A) Z X') (λF bu v o F bu=>o) (λad A=>E1 P y.b (y.b.length -y.u.length) y.inf y.st.v y.ln hk (bf y.stk ad) tf y.gs (aM y.stk ad) cH w) ⟨h2,KP⟩
 |@fin x y h1 h2=>
  revert h1 h2 h0;revert x y;refine' eI2;intro y x h1 h2 h0;intro c T I C j;refine gU D ?_ j c T I C;refine' eI12;intro s ad a11 a10 a9 a5 a4 a3 a2 a1 d c T I C E e0 A H;have N:=U c T I (C.le (by exact Lle [] [] 0 Z5 (.a Z3 Z5) rfl))
  rwa [←Gg 2 (db P)];refine kF Tp T (C.le (by exact Lle [] [] 0 Z12 (.a Z3 Z5) rfl)) E N h1 j H λs' Z X'=> ?_
  refine fK (dC h1 j) λgy J J ys J=> ?_;refine dy.fin (vc:=[(0:Nat)≤16777216]) (eV Tp T (C.le (by exact Lle [] [] 0 Z0 (.a Z3 Z5) rfl)) E (orc:=[]) gV N) rfl rfl (dy.start (by rwa [ys];exact A) Z X') (λF bu v o F bu=>o) (λad A=> ?_) ⟨so _,KP⟩
  obtain⟨b,u,ap,st,ln,t,gs⟩:=y;cases h2;exact E2 P b (b.length -u.length) ap st.v ln hk tf gs (aM [] ad) cH
 |@pop n x y z m l b u t r h1 h2 h3 K=>
  revert h1 h2 h3 K h0;revert n x y z m l b u t r;refine' eI10;intro r t u b l m z y x n h1 h2 h3 K h0;intro c T I C j;have K:=K h3;refine gU D ?_ j c T I C;refine' eI12;intro s ad a11 a10 a9 a5 a4 a3 a2 a1 d c T I C E e0 A H;have N:=U c T I (C.le (by exact Lle [_] [] 0 Z5 (.a (.a V0 Z0) Z5) rfl))
  rwa [←Gg 2 (db P)];refine kF Tp T (C.le (by exact Lle [_] [] 0 Z12 (.a (.a V0 Z0) Z5) rfl)) E N h1 j H λs' Z X'=> ?_
  refine fK (dC h1 j) λgy J J ys J=> ?_;rw [←ys]at A;obtain⟨yb,yu,L,b2,as,c1,al⟩:=y;cases h2;refine aS (gR A) λhd ad b3 A=> ?_;subst b3;obtain⟨a,dx,sl⟩:=hd;refine ai (Ce P) λd1 d2=> ?_;rwa [d1];have G:aG c (cq P hk):=eV Tp T (C.le (by exact Lle [_] [] 0 Z0 (.a (.a V0 Z0) Z5) rfl)) E (orc:=[]) gV N
  have O:=bj G 40;refine dR G 40 Z (E3 P yb (yb.length -yu.length) L b2.v as hk (bf ((m,l,b,u)::t) ((a,dx,sl)::ad)) tf al (aM ((m,l,b,u)::t) ((a,dx,sl)::ad)) cH) trivial λc0 s2 H2 X2=> ?_;have bb:=cO X2.pre (by rwa [H2.rep.len,Z.rep.len];rfl)
  subst bb;have XX:=X'.trans X2;generalize hS:GX x hk tf [] ((a,dx,sl)::ad)=mus at*;refine pp (ex (lP (Pm:=dy P c hk tf a2 a3 a4 a5 a6 a7 a8 a9 a10 a11 (d::a1::a2::a3::a4::a5::a6::a7::a8::a9::a10::a11::aD ((a,dx,sl)::ad)) mus s [("raw",r)] z)
   (Q:=λs'=>(∃w,r= .str w)∧dy P c hk tf a2 a3 a4 a5 a6 a7 a8 a9 a10 a11 (d::a1::a2::a3::a4::a5::a6::a7::a8::a9::a10::a11::aD ((a,dx,sl)::ad)) mus s [("raw",r)] z s')
   (QR:=λv s'=>qg P c hk tf a2 a3 a4 a5 a6 a7 a8 a9 a10 a11 (d::a1::a2::a3::a4::a5::a6::a7::a8::a9::a10::a11::aD ((a,dx,sl)::ad)) mus s r z (.ret v) s') ?_ ?_) (λfl s' o=> ?_) λJ J z=>z)
  ·refine(O.T _).use H2 (E3a P yb (yb.length -yu.length) L b2.v as hk (bf ((m,l,b,u)::t) ((a,dx,sl)::ad)) tf al (aM ((m,l,b,u)::t) ((a,dx,sl)::ad)) cH) trivial λb' s3 c2 H3 X3 hb=>(an hb ?_)
   have b6:=cO X3.pre (by(rwa [H3.rep.len,H2.rep.len];rfl))
   subst b6;have hl:(bf t ad).length≤1000:=h9 (oW t ad) (h9 (GL _) gy.few);rwa [d2];refine pp (Kf ((O.T _).use H3 (E3b P yb (yb.length -yu.length) L b2.v as hk (bf t ad) tf al (aM ((m,l,b,u)::t) ((a,dx,sl)::ad)) cH (.ftup [.str m, .adr a, .int l])) ⟨h9 (GB hl) (by decide),KP⟩ λb' s4 c4 H4 X4 hb=> ?_))
   have bl:=cO X4.pre (by rwa [H4.rep.len,H3.rep.len];rfl)
   subst bl;cases hb;rwa [if_neg Gp];have F:=Dc Tp T (C.le (by exact Lle [_] [] 0 Z4 (.a (.a V0 Z0) Z5) rfl)) yb (yb.length -yu.length) L b2.v as hk (bf t ad) m a l (h9 hl (by decide))
   have G2:=eV Tp T (C.le (by exact Lle [_] [] 0 Z0 (.a (.a V0 Z0) Z5) rfl)) E (orc:=[]) (fs:=_) (hk:=hk) (sp:=cH) (pP F) N
   have cl:=cu t ad;refine dR G2 40 (H4.cfg rfl rfl) (E3c P yb (yb.length -yu.length) L b2.v as hk (bf t ad) tf al (aM ((m,l,b,u)::t) ((a,dx,sl)::ad)) cH m a l) (oo rfl (eB (cu ((m,l,b,u)::t) ((a,dx,sl)::ad))) rfl ?_) λc5 s5 H5 X5=> ?_
   ·have o:=V.closedL_mono (n:=6) _ cl
    show(V.closedL 6 (bf t ad)&&true)=true;rwa [o];rfl
   have b8:=cO X5.pre (by rwa [H5.rep.len,H4.rep.len];rfl)
   subst b8;obtain⟨H6,X6⟩:=yH (cfg:=cq P hk) e0 rfl rfl cl D (l:=[("raw", .none)]) rfl (cw t ad) (H5.cfg rfl rfl);have g2:GOk ⟨b,u,m, .sp,l,t,al⟩:=⟨gy.stk _ il, .inl rfl,λk he=>gy.stk k (iv _ he),h9 (GL _) gy.few⟩;refine pp (ex (o4 (x:=⟨b,u,m, .sp,l,t,al⟩) Tp T I E e0 N D (yD P).2 C K g2 h3.closed (l:=[("raw", .none)]) rfl (HZ A) H6) (λfl s7 hZ=> ?_) λJ J z=>z);obtain⟨hf,b0,b1,bm,b7,H7,X7⟩:=hZ;subst hf;refine Gc (Gc (.inl ⟨rfl,b0,b1,bm,b7,H7, ?_⟩));exact(((((XX.trans X3).trans X4).trans X5).toN dm).trans X6).trans X7
  ·intro s3 R
   rcases h3.out with⟨q,hs⟩|⟨w,q,_⟩
   ·subst q
    refine R.test G (vc:=[]) (b:=true) (λad=>E3a P z.b (z.b.length -z.u.length) z.inf z.st.v z.ln hk (bf z.stk ad) tf z.gs (aM z.stk ad) cH) trivial λs4 R4=> .inr (an rfl ?_);refine ex (dy.last h3 G R4 (λJ b p ap st ln tl=>E3n P b p ap st ln hk tf z.gs tl cH) λw hw=>by cases hw) (λfl s5 h5=> ?_) λJ J z=>z
    obtain⟨_,_,_,_,_,_,_,u,hu,_⟩:=id h5;subst hu;exact(ah u rfl h5)
   ·subst q
    exact R.test G (vc:=[]) (b:=false) (λad=>E3x P z.b (z.b.length -z.u.length) z.inf z.st.v z.ln hk (bf z.stk ad) tf z.gs (aM z.stk ad) cH w) trivial λs4 R4=> .inl (cB rfl ⟨w,rfl⟩ R4)
  ·rcases o with⟨rfl,⟨w,hw⟩,R⟩|⟨v,rfl,R⟩
   ·subst hw
    exact dy.last h3 G R (λq=>by cases q) λw hw b p ap st ln t tl=>E3r P b p ap st ln hk t tf z.gs tl cH w
   ·exact R
 |@use0 n x y Y z w gs r h1 h2 hp h4 h3 K=>
  revert h1 h2 hp h4 h3 K h0;revert n x y Y z w gs r;refine' eI8;intro r gs w z Y y x n h1 h2 hp h4 h3 K h0;intro c T I C j;have K:=K h3;refine gU D ?_ j c T I C;refine' eI12;intro s ad a11 a10 a9 a5 a4 a3 a2 a1 d c T I C E e0 A H;have G:aG c (cq P hk):=eV Tp T (C.le (by exact Lle [_] [] 0 Z0 (.a (.a V0 Z0) Z5) rfl)) E (orc:=[]) gV (U c T I (C.le (by exact Lle [_] [] 0 Z5 (.a (.a V0 Z0) Z5) rfl)))
  have gy:=(dC h1 j).1;have W:=(dC h2 gy).1;refine qx Tp T I C E e0 U hh D j A h1 h2 hp h3 K ⟨W.buf,W.st,W.stk,W.few⟩ (by rwa [h4];rfl) (l:=[("spec", .none)]) rfl H λd a1 ad A s' X' Z=> ?_
  rw [h4]at Z X';refine((bj G 40).X _).use Z (E4s P Y.b (Y.b.length -Y.u.length) Y.inf Y.st.v Y.ln hk (bf Y.stk ad) tf gs (aM Y.stk ad)) trivial λfl s2 c0 H2 X2 hf=> ?_;have:=cO X2.pre (by rwa [H2.rep.len,Z.rep.len];rfl)
  subst this
  induction fl with
  |next=>exact⟨rfl,d,a1,ad,A,H2,X'.trans (X2.toN dm)⟩
  |brk=>cases hf
  |cont=>cases hf
  |ret u=>(refine ab hf ?_;clear hf;intro J hv J);cases hv
 |@use1 n x y Y z w pa tx gs r h1 h2 hp h4 b5 ag h3 K=>
  revert h1 h2 hp h4 b5 ag h3 K h0;revert n x y Y z w pa tx gs r;refine' eI10;intro r gs tx pa w z Y y x n h1 h2 hp h4 b5 ag h3 K h0;intro c T I C j;have K:=K h3;refine gU D ?_ j c T I C;refine' eI12;intro s ad a11 a10 a9 a5 a4 a3 a2 a1 d c T I C E e0 A H;have N:=U c T I (C.le (by exact Lle [_] [] 0 Z5 (.a (.a V0 Z0) Z5) rfl))
  have gy:=(dC h1 j).1;have W:=(dC h2 gy).1;refine qx Tp T I C E e0 U hh D j A h1 h2 hp h3 K ⟨b5,W.st,λk he=> ?_,ag⟩ (by rwa [h4];rfl) (l:=[("spec", .ftup [.str pa, .str tx]),("newfile", .str pa),("newstream", .str tx)]) rfl H λd a1 ad A s' X' Z=> ?_
  ·rcases q4.mp he with rfl|he
   ·exact W.buf
   ·exact W.stk k he
  rw [h4]at Z X';dsimp only at Z X';have b4:({Y with gs:=gs}:GS).stk.length+1≤1000:=ag
  have bs:av 4 c.A:=C.le (by exact Lle [_] [] 0 Z21 (.a (.a V0 Z0) Z5) rfl)
  have PC:=tX (x:={Y with gs:=gs}) (nf:=pa) (tx:=tx) Tp T bs E e0 N D b4 Z
  refine ex PC (λfl s2 hZ=> ?_) λJ J z=>z;(refine ai hZ ?_;clear hZ;intro hf b3;refine dW b3 ?_;clear b3;intro n0 n1 sl H2 X2);exact⟨hf,n0,n1,(d,a1,sl)::ad,congrArg (· +1) A,H2,X'.trans X2⟩
end
end Mine
section
open PySem.Builtin PySem.Builtin.Str
namespace Mine
noncomputable def jj(a:Str)(b:Int):Str:=((("\"":Str)++a)++("\", line ":Str))++cs (Jk b)++(": ":Str)
theorem wp3{g:Type}{M:Ij}{A:GI}{E:KD}{s:dd}{e d:Hk Bool}{f:Hk (Option PySem.Str)}{k:Bool→Option PySem.Str→Bool→Hk g}{Q:g→dd→Prop}(h1:∀c,c true s→eo M A e c E s)(h2:∀c,c none s→eo M A f c E s)(h3:∀c,(∀b,c b s)→eo M A d c E s)
 (h:∀b,eo M A (k true none b) Q E s):eo M A (e>>=λa=>f>>=λo=>d>>=λb=>k a o b) Q E s:=dV (h1 _ (dV (h2 _ (dV (h3 _ h)))))
theorem rK{b:Type}{M:Ij}{A:GI}{E:KD}{s:dd}{t u:Hk b}{c:Prop}[Decidable c]{a:b}{Q:b→dd→Prop}(d:¬c)(e:t=if c then u else pure a)(h:Q a s):eo M A t Q E s:=e.trans (if_neg d)▸eM h
theorem xP{b d:Type}{M:Ij}{A:GI}{E:KD}{s:dd}{t u:Hk b}{c:Prop}[Decidable c]{x:Hk d}{k:d→Hk b}{Q:b→dd→Prop}(f:¬c)(e:t=if c then u else x>>=k)(h:eo M A x (λa s=>eo M A (k a) Q E s) E s):eo M A t Q E s:=e.trans (if_neg f)▸dV h
theorem rO:∀{g:Str} {l:Int} {t u v:Tok} {b:cv} (h:g.length≤1000000) (p:0≤l) (h1:l < 10^10),Meets («str.__mod__» ⟨[.str ⟨#[34,37,115,34,44,32,108,105,110,101,32,37,100,58,32]⟩ t, .ref b],[]⟩) (λm R s=>IsTup s.heap b #[.str g u, .int l v]∧∀q k,R (.ok (.ret (.str (jj g l) q))) {s with toks:=k}):=by
 refine' eI6;intro b v u t l g h p h1
 apply KPt.meets_tup
 intro o w A s Q E j n;obtain⟨e,c,f,i,d⟩:=j;revert c f d n;revert o w A s Q E e i;refine' eI8;intro i e E Q s A w o n c f d;rwa [KPt.entry_is_r _ _ _];refine wp3 (λm h=>wpAny_isInstance (T:="tuple") ⟨e,c,f⟩ KPt.sub_tt h) (λm h=>KPt.asStr_ref c d h) (λm h=>KPt.fills_ref ⟨e,c,f⟩ h) λr=> ?_;refine dV (wpAny_seqItems c d ?_);refine dV (eM ?_);refine dV ?_;rwa [KPc.range_list _ _ _];refine KPc.start ?_;intro _ _;refine KPc.turn (rK (IU (by kpc_g) (by decide+kernel)) rfl ?_)
 kpt_piece
 refine KPc.turn (xP (IU (by kpc_g) (by decide+kernel)) rfl ?_)
 refine A9 ?_;refine eM ?_;refine eM ?_;kpt_piece;refine KPc.turn (rK (IU (by kpc_g) (by decide+kernel)) rfl ?_)
 kpt_piece
 refine KPc.turn (xP (IU (by kpc_g) (by decide+kernel)) rfl ?_)
 refine A9 ?_;refine dV (JD (a:=_) rfl ?_);refine dV (wpAny_mkInt ?_);refine dV (call_gives F.slot_int_repr (typeIs_int _ _ _) F.entry_int_repr (F.args_int_repr_1 _) (gives_int_repr _ _ (KPt.hd2 (by kpt_hd))) ⟨int_text_fits (KPt.hd2 (by kpt_hd)), ?_⟩)
 refine eM ?_;refine eM ?_;kpt_piece;refine KPc.turn (rK (IU (by kpc_g) (by decide+kernel)) rfl ?_)
 kpt_piece
 refine KPc.turn (rK (IU (by kpc_g) (by decide+kernel)) rfl ?_)
 kpc_if;refine KPc.finish_ok (by kpc_g) (by decide+kernel) (by first|kpc_text|exact rfl) ?_;first|(with_reducible assumption)|assumption
theorem DY(P:ed):fdB (KK P) 715 ["self","infile","lineno"]=true:=by rfl'
theorem Fs(P:ed)(v:da):cK (KK P) 715 [v] [("self",v),("infile", .none),("lineno", .none)]:=λS=>by rfl'
set_option genInjectivity false in
structure oM where
 a:Expr
 b:Expr
 p:nR
 q:nR
deriving Nonempty
noncomputable def oM.stmt(i:oM):k0:= .Return (some (.BinOp i.a .Mod i.b i.p)) i.q
def Dk(l:List k0):oM:=aHd l df λs=>sC s df λe q=>xc e df λa b p=>⟨a,b,p,q⟩
def wy(P:ed):oM:=Dk ((ae (KK P) 715).drop 2)
section
variable(P:ed)(b:Str)(p:Nat)(c:Str)(st:V)(e:Int)(f:cv)(d:KN)
theorem EB:am (fns (fb P 6 715 [] [] []) 40) ((ae (KK P) 715).take 2) (RT b p c st e "" f d++[.frame [("self", .ref 2),("infile", .none),("lineno", .none)]])= .ok [] .next (RT b p c st e "" f d++[.frame [("self", .ref 2),("infile", .str c),("lineno", .int e)]]):=by rfl'
theorem zg:(ae (KK P) 715).drop 2=[(wy P).stmt]∧
 (fns (fb P 6 715 [] [] []) 40).E (wy P).a (RT b p c st e "" f d++[.frame [("self", .ref 2),("infile", .str c),("lineno", .int e)]])= .ok [] (.str ⟨#[34,37,115,34,44,32,108,105,110,101,32,37,100,58,32]⟩) (RT b p c st e "" f d++[.frame [("self", .ref 2),("infile", .str c),("lineno", .int e)]])∧
 (fns (fb P 6 715 [] [] []) 40).E (wy P).b (RT b p c st e "" f d++[.frame [("self", .ref 2),("infile", .str c),("lineno", .int e)]])= .ok [] (.ftup [.str c, .int e]) (RT b p c st e "" f d++[.frame [("self", .ref 2),("infile", .str c),("lineno", .int e)]]):=(cB (by rfl') (by rfl') (by rfl'))
end
theorem Da:∀{P:ed} {y v:KC} {c:Cx} {b:Str} {p:Nat} {inf:Str} {st:V} {ln:Int} {hk:cv} {stk:KN} (K:aR (KK P) y v) (T:ak c (KK P) y v) (N:av 2 c.A) (h:inf.length≤1000000) (C:0≤ln) (h1:ln < 10^10),aI c 715 6 (sAt [.ref 2] (RT b p inf st ln "" hk stk) [] (.str (jj inf ln)) (RT b p inf st ln "" hk stk)):=by
 refine' eI11;intro stk hk ln st inf p b c v y P K T N h C h1;refine gA (cfg:=fb P 6 715 [] [] []) (k:=1) (xsOf:=λl=>[.ref 2, .none, .none]) T (kC (k:=0) K rfl rfl rfl rfl rfl rfl rfl cb.nil) N (DY P) rfl rfl rfl (λfd e' H' a4 Z s xs vs z r' m i R A hx x g=> ?_) ?_
 ·cases x
  (refine ax g ?_;clear g;intro d f l;subst d;subst f);(refine ab (Vals.one hx) λu d hu=> ?_;subst d);exact f5 (us:=[u, .none, .none]) (λa o e=>R.base a o (T.K a o e)) R A ⟨u,_,rfl,hu, .none,_,rfl,rfl, .none,_,rfl,rfl,rfl⟩ rfl (Fs P u) e'
 ·refine' eI8;intro s1 a4 m r' z Z xs c' i x g G _ _ _ _ H1
  cases x;(refine ax g ?_;clear g;intro d f l;subst d;subst f);refine ax (zg P b p inf st ln hk stk) λd1 d2 d3=> ?_;rwa [←Gg 2 (ae (KK P) 715),d1];have O:=bj G 40;refine dR G 40 H1 (EB P b p inf st ln hk stk) trivial λa5 s2 H2 X2=> ?_;refine pp (IJ ?_);rwa [Kd _ _ _ _ _];refine dV ((O.E _).use H2 d2 trivial λu1 s3 a0 H3 X3 H=>dV (A9 ?_));refine(O.E _).use H3 d3 trivial λu2 j r B X4 D=>dV (Hc (J1 ?_));(refine au H ?_;clear H;intro t d;subst d);(refine dJ D ?_;clear D;intro L o w n d f W q2 q3;subst d;(refine ax f ?_;clear f;intro l l Y));refine bg (Vals.two q3) λv1 v2 e1 E J=> ?_;(refine au E ?_;clear E;intro t1 d;subst d);(refine au J ?_;clear J;intro I d;subst d);have ei:w=#[.str inf t1, .int ln I]:=by(rwa [←e1];rfl)
  subst ei;have ht:IsTup j.heap L #[.str inf t1, .int ln I]:=⟨o,Y,W,n,q2⟩;have hT:j.TypeIs (.ref L) "tuple":=⟨o,Y,W⟩;refine dO B.tk ?_;refine(KPt.bin_left (T:="str") (U:="tuple") (op:= .Mod) (by decide) (typeIs_str j _ t) hT F.fills_str_mod KPt.fills_tuple F.slot_str_mod (call_meets F.slot_str_mod (typeIs_str j _ t) F.entry_str_mod (F.args_str_mod_2 _ _) (rO h C h1) ⟨ht,λt' k=>⟨(λe=>nomatch e), ?_⟩⟩))
  intro q;refine ai (B.same (s':={j with toks:=k}) rfl rfl rfl q) λH5 X5=> ?_
  refine⟨r,_,H5,(((X2.trans X3).trans X4).trans X5), ?_, ?_,⟨t',rfl⟩⟩
  ·show 6≤7;decide
  ·rfl
end Mine
end
section
open PySem.Builtin
namespace Mine
theorem yT(P:ed):makesIn (KK P) 732=true:=by rfl'
theorem zk(P:ed):Ih (KK P) (.ref 732) "__init__"=some (some (.ref 656)):=by rfl'
theorem z3(P:ed):typeIn (KK P) (.ref 656)=some (.type "function"):=by rfl'
theorem zc(P:ed):keepIn (KK P) (.ref 732)=true:=by rfl'
theorem D4(P:ed):fdB (KK P) 656 ["self","instream","infile","posix","punctuation_chars"]=true:=by rfl'
theorem Fz(P:ed)(v w x y:da):cK (KK P) 656 [v,w,x,y] [("self",v),("instream",w),("infile",x),("posix",y),("punctuation_chars", .bool false)]:=λS=>by rfl'
def lx0(a:Str)(b:Bool)(c:V)(l:KL):AO:= .ns (([("instream",V.ref 3),("infile", .str a),("posix", .bool true),("eof", .none),("commenters", .str "#"),("wordchars", .str WC),("whitespace", .str " \t\r\n"),("whitespace_split", .bool b),("quotes", .str "'\""),("escape", .str "\\"),("escapedquotes", .str "\""),("state", .str " "),("pushback", .ref 5),("lineno", .int 1),("debug", .int 0),("token", .str ""),("filestack", .ref 6),("source",c),("_punctuation_chars", .str "")]:KL)++l)
def kg(b a:Str):List AO:=[.inst 732 1,lx0 a false .none [], .frame [("self", .ref 0),("instream", .ref 3),("infile", .str a),("posix", .bool true),("punctuation_chars", .str "")], .inst 597 4,sio b 0, .deque [], .deque []]
theorem EE(P:ed)(b a:Str):am (fns (fb P 2 656 [] [] [("StringIO",597,ig)]) 40) (ae (KK P) 656) ([.inst 732 1, .ns []]++[.frame [("self", .ref 0),("instream", .str b),("infile", .str a),("posix", .bool true),("punctuation_chars", .bool false)]])=
 .ok [V.adr 597=V.adr 597,125≤16777216,0≤16777216] .next (kg b a):=by rfl'
def xB{a:Type}(v:V)(k:Res a):Res a:=match v with
 | .bool b=>jp b k (.err "")
 |_=> .err ""
theorem v3{c:Type}{v:V}{k:Res c}{vc:KG}{b:c}{a:KM}{G:Prop}(h:xB v k= .ok vc b a)(g:v= .bool true→k= .ok vc b a→G):G:=by
 induction v using V.casesOn with
 |bool t=>induction t with
  |true=>exact g rfl h
  |false=>exact ga h
 |_=>exact ga h
def Ax:ay:=λe b=>hdL e λv q=>hdL q λw q=>one q λz=>b9 v λc=>b9 w λa=>xB z (onO (reA (iF b.length) (kg c a)) λd=> .ok [] (.ref b.length) (b++d))
section
variable{P:ed}{a b:KC}{c:Cx}
theorem zG:∀{H:cv→Prop} {s:dd} {r q:Str} {t1 E:Tok} (Tp:aR (KK P) a b) (T:ak c (KK P) a b) (N:av 5 c.A) (R:aq c.prog c.w (c.at H 0) [] [] s) (Y:1≤s.toks),eo c.M c.A (call (.ref 732) [.str r t1, .str q E, .bool true]) (λx I=>1≤I.toks∧∃u,aq c.prog c.w (c.at H 0) u (kg r q) I∧Ext [] [] s u (kg r q) I∧Val (aa (c.at H 0) u (kg r q) I.heap) u (.ref 0) x) NoE s:=by
 revert P a b c;refine' eI10;intro E t1 q r s H c b a P Tp T N R Y;have X:(KK P).In s.heap:=λp o e=>R.base _ _ (T.K p o e);obtain⟨h,g,d,t,os⟩:=s;refine HJ (make_core (makes_of X (yT P)) (J0 X (zk P)) (λy=>bind_fn X y (z3 P)) (.inl rfl) ?_);have R1:=nY (C:=732) R rfl;have X1:Ext [] [] ⟨h,g,d,t,os⟩ [h.objs.size+1,h.objs.size] [.inst 732 1, .ns []] ⟨(h.push Im).push (Jw 732 h.objs.size),g,d,t,os⟩:=by
  refine⟨λi p h=>by trivial,λl ob w h2=>g0 _ (g0 _ h2),λp O=>bg O λi o h1 w w=> .inr ?_, ?_⟩
  ·have:p∈[h.objs.size+1,h.objs.size]:=lf h1
   rcases q4.mp this with rfl|this
   ·exact GL _
   ·rwa [mx.mp this];exact fx _
  ·dsimp only;rwa [sm _ _,sm _ _];exact oa (GL _)
 let K:Cx:={c with A:=c.A.under (.builtin "type.__call__" ⟨[.ref 732, .str r t1, .str q E, .bool true],[]⟩),d:={c.d with ρ₀:=[]}}
 have Z:ak K (KK P) a b:=⟨⟨T.base.g,T.base.b⟩,T.K,T.nolim,T.handled⟩;have D:av 4 K.A:=⟨by have:=N.1;show c.A.depth+1+4≤_;exact Lle [_] [Q0 (.a V0 (.c 5)) Z1] 0 (.a (.a V0 Z0) Z21) Z1 rfl this,by have:=N.2;show c.A.units+1+5*4+100≤_;exact Lle [_] [Q0 (.a (.a V0 (.m 5 (.c 5))) Z10) Z11] 0 (.a (.a (.a V0 Z0) (.m 5 Z21)) Z10) Z11 rfl this⟩
 refine au (eO (D4 P)) λfd F=> ?_;refine ab F.ob λo ho hd=> ?_;have U:(KK P).In ((h.push Im).push (Jw 732 h.objs.size)):=λp o e=>R1.base _ _ (T.K p o e);have LV:Lev (KK P) a b (fb P 2 656 [] [] [("StringIO",597,ig)]) 3:=qI (k:=0) Tp rfl rfl rfl rfl rfl rfl rfl cb.nil;refine gW (c:=K) (k:=3) (n:=2) (H:=H) (ρ:=[h.objs.size+1,h.objs.size]) (mu:=[.inst 732 1, .ns []]) (ps:=["self","instream","infile","posix","punctuation_chars"]) (xs:=[.ref 0, .str r, .str q, .bool true, .bool false]) Z D F.body (F.ok (fb P 2 656 [] [] [("StringIO",597,ig)]) rfl) F.par F.nd rfl (U _ _ ho) hd (Jv U F.code) rfl
  (f5 U R1 Y (us:=[.ref (h.objs.size+1), .str r t1, .str q E, .bool true, .bool false]) ⟨_,_,rfl,⟨_,rfl,rfl⟩,_,_,rfl,⟨_,rfl⟩,_,_,rfl,⟨_,rfl⟩,_,_,rfl,rfl,_,_,rfl,rfl,rfl⟩ rfl (Fz P _ _ _ _) F.isFd) (λx j h=>by cases h) λL s1 H1 X2=> ?_
 have G:=ef (H:=H) (n:=2) (L:=L) (f:=656) Z LV D (F.ok (fb P 2 656 [] [] [("StringIO",597,ig)]) rfl);refine ex (dp G 40 H1 (EE P r q) ⟨rfl,by decide,by decide,KP⟩) (λfl s2 hZ=> ?_) λw w z=>z
 obtain⟨B,H2,W,J⟩:=hZ;have a0:B[0]? =some (h.objs.size+1):=(X2.trans W).pre 0 _ rfl
 induction fl with
 |next=>exact⟨rfl,H2.tk,B,H2.rep,(X1.trans X2).trans W,_,a0,rfl⟩
 |ret v=>(refine ab J ?_;clear J;intro w h w);cases h
 |brk=>cases J
 |cont=>cases J
theorem Es:∀(D:aR (KK P) a b) (T:ak c (KK P) a b) (B:av 5 c.A),FnW c 732 Ax:=by
 revert P a b c;refine' eI4;intro c b a P D T B;have F:∀h:Gm,(∀f o,c.d.B f o→h.get? f=some o)→(KK P).In h:=λh x d o e=>x _ _ (T.K d o e);have N:∀i g,oK c 732 [.str i, .str g, .bool true] (kg i g) (.ref 0):=λf g=>⟨λh x=>keeps_K (zc P) h (F h x),λH s C R y l=>by
  (refine bg l ?_;clear l;intro u U j h1 l;subst j);(refine bg l ?_;clear l;intro u2 U j h2 l;subst j);(refine ab (Vals.one l) λu3 j h3=> ?_;subst j);(refine au h1 ?_;clear h1;intro t1 j;subst j);(refine au h2 ?_;clear h2;intro Y j;subst j);cases h3;exact zG D T B R y⟩
 refine⟨(N "" "").keep,λI m s Z C vc r n R y l k W=> ?_⟩;refine gf k λv q e k=>gf k λw q A k=>ge k λz t k=>ez k λi E k=>ez k λg G k=>v3 k λO k=> ?_;have k:onO (reA (iF m.length) (kg i g)) (λp=>Res.ok [] (V.ref m.length) (m++p))=Res.ok vc r n:=k;refine pt k λp K J=> ?_;subst e;subst A;subst t;subst E;subst G;subst O;refine ax (Mine.Res.ok.inj J) λL A t=> ?_;subst L;subst A;subst t;refine((N i g).toW rfl rfl).run I m s [.str i, .str g, .bool true] C [[V.str i, .str g, .bool true]=[V.str i, .str g, .bool true]] _ _ R y l ?_ ⟨rfl,KP⟩;rwa [show reA (iF m.length) (kg i g)=some p from K];rfl
end
end Mine
end
section
set_option backward.match.sparseCases false
open PySem.Builtin
namespace Mine
def kI(n:Str):List k0→Option (List k0×Scope)
 |[]=>none
 | .FunctionDef m _ b _ _ _ sc _ _ _::r=>bif af m n then some (b,sc)else kI n r
 |_::r=>kI n r
def cP:List k0×Scope:=(kI "law" PySem.Challenge.pw_io0008_01.main.body).getD ([],Io)
def bx:List k0×Scope:=(kI "_law_hook" cP.1).getD ([],Io)
def fsH:List (cv×Nat×ay):=[(852,0,oZ),(838,0,xu),(859,0,xt)]
def gY(a:List (Nat×Bool))(b:List (Nat×V)):Cfg:={fi:=11,names:=bx.2.names,globs:=G0,cells:=[("lexer",6),("texts",7),("given",8)],orc:=a,vor:=b,fns:=fsH,meths:=MS,plain:=PS,props:=PR}
end Mine
end
section
open PySem.Builtin
namespace Mine
structure i4(B:aA)(f:cv)(fd:Gx)(body:List k0)(ps:KA)(cfg:Cfg):Prop where
 ob:∃o,B f o∧o.data= .func fd
 body:fd.body= .stmts body
 ok:jD fd cfg
 par:∀x∈ps,fd.scope.names.lookup x=some .local
 code:∀h:Gm,(∀b o,B b o→h.get? b=some o)→h.CodeRec fd.code fd.qualname
 bind:∀vs:List da,vs.length=ps.length→HK fd ⟨vs,[]⟩=pure (ps.zip vs)
theorem i4.keep{c:Cx}{f:cv}{j:Gx}{a:List k0}{i:KA}{d:Cfg}(F:i4 c.d.B f j a i d)(h:Gm)(l:∀b o,c.d.B b o→h.get? b=some o):∃k,(k=IQ∨k=Ip∨k=HN)∧Hz c.M h (Ka (.ref f)) k:=by
 (refine ab F.ob λe m g=> ?_;obtain⟨p,n,q,r⟩:=e);dsimp only at g;subst g;exact(ah .frame (.inl rfl) ((Hz.ld (l _ _ m)).andThen .now))
def bD(a w:Str):Str:=mh (bp (aN a) w)
structure HP0(inf w:Str)(gs:KA):Prop where
 hi:inf.length≤1000000
 dir:(aN inf).length≤1000000
 hw:w.length≤1000000
 few:gs.length≤16777216
 norm:aw [(bp (aN inf) w).length≤1000000,(ct (bp (aN inf) w).length !=ct 0)=true,ct (aZ (bp (aN inf) w)).length≠ct 0,(aZ (bp (aN inf) w)).length≤1000000,(bd (bp (aN inf) w)).length≤1000000,(ba (bp (aN inf) w)).length≤1000000,ba (bp (aN inf) w)≠[],∀(y:Str),y∈ba (bp (aN inf) w)→y.length≤1000000,(IE (λ(x:Str)=>x.length) (dh (bp (aN inf) w))).sum+(dh (bp (aN inf) w)).length*64≤1000000,(f1 ("/":Str) (dh (bp (aN inf) w))).length≤1000000]
def dE(c:KL)(a w:Str)(b:KA):V×List Str:=match lk (bD a w) c with
 |some (.str tx)=>bif bO (bD a w) b then(.none,b)else(.ftup [.str (bD a w), .str tx],b++[bD a w])
 |_=>(.none,b)
def hkC(a w:Str)(l:KG):List Prop:=[true=true,true=true,a.length≤1000000,true=true,true=true,true=true,true=true,(aN a).length≤1000000,w.length≤1000000,true=true,true=true,true=true,true=true]++([(bp (aN a) w).length≤1000000,(ct (bp (aN a) w).length !=ct 0)=true,ct (aZ (bp (aN a) w)).length≠ct 0,(aZ (bp (aN a) w)).length≤1000000,(bd (bp (aN a) w)).length≤1000000,(ba (bp (aN a) w)).length≤1000000,ba (bp (aN a) w)≠[],∀(y:Str),y∈ba (bp (aN a) w)→y.length≤1000000,(IE (λ(x:Str)=>x.length) (dh (bp (aN a) w))).sum+(dh (bp (aN a) w)).length*64≤1000000,(f1 ("/":Str) (dh (bp (aN a) w))).length≤1000000]++([true=true,true=true]++l))
section
variable(b:Str)(p:Nat)(a:Str)(st:V)(f:Int)(g:cv)(c:KN)(d:KL)(e:KA)(w:Str)
def frH(w a:Str):AO:= .frame [("name", .str w),("path", .str (bD a w))]
theorem h1:am (fns (gY [(933011028,true)] []) 40) bx.1 (OG (sio b p) (.ref 0) a st f g c d e++[.frame [("name", .str w)]])= .ok (hkC a w [(!(lk (bD a w) d).isSome)=true]) (.ret .none) (OG (sio b p) (.ref 0) a st f g c d e++[frH w a]):=by rfl'
theorem h2:am (fns (gY [(933011028,false),(933032045,true)] []) 40) bx.1 (OG (sio b p) (.ref 0) a st f g c d e++[.frame [("name", .str w)]])= .ok (hkC a w [(!(lk (bD a w) d).isSome)=false,bO (bD a w) e=true]) (.ret .none) (OG (sio b p) (.ref 0) a st f g c d e++[frH w a]):=by rfl'
theorem h3(h:Str):am (fns (gY [(933011028,false),(933032045,false)] [(936022033, .str h)]) 40) bx.1 (OG (sio b p) (.ref 0) a st f g c d e++[.frame [("name", .str w)]])= .ok (hkC a w [(!(lk (bD a w) d).isSome)=false,bO (bD a w) e=false,e.length≤16777216,lk (bD a w) d=some (.str h)]) (.ret (.ftup [.str (bD a w), .str h])) (OG (sio b p) (.ref 0) a st f g c d (e++[bD a w])++[frH w a]):=by rfl'
end
theorem DL{f:KL}(n:∀x v,lk x f=some v→∃k,v= .str k)(b:Str)(p:Nat)(a:Str)(st:V)(g:Int)(i:cv)(d:KN)(c:KA)(w:Str)(h:HP0 a w c):∃m o vc,aw vc∧
 am (fns (gY m o) 40) bx.1 (OG (sio b p) (.ref 0) a st g i d f c++[.frame [("name", .str w)]])= .ok vc (.ret (dE f a w c).1) (OG (sio b p) (.ref 0) a st g i d f (dE f a w c).2++[frH w a]):=by
 revert n h;revert f b p a st g i d c w;refine' eI10;intro w c d i g st a p b f n h;have r:∀l,aw l→aw (hkC a w l):=λl t=>aj.mpr (an ⟨rfl,rfl,h.hi,rfl,rfl,rfl,rfl,h.dir,h.hw,rfl,rfl,rfl,rfl,KP⟩ (aj.mpr ⟨h.norm,rfl,rfl,t⟩));rcases q:lk (bD a w) f with _|v
 ·have e:=h1 b p a st g i d f c w
  rwa [show dE f a w c=(.none,c) by unfold dE;rw [q]]
  refine(sF _ _ _ ?_ e);exact r _ ⟨by rwa [q];rfl,KP⟩
 ·(refine au (n _ _ q) λk s=> ?_;subst s)
  rcases j:bO (bD a w) c with _|_
  ·have e:=h3 b p a st g i d f c w k
   rwa [show dE f a w c=(.ftup [.str (bD a w), .str k],c++[bD a w]) by unfold dE;rw [q];dsimp only;rw [j];rfl]
   refine(sF _ _ _ ?_ e);exact r _ ⟨by rwa [q];rfl,j,h.few,q,KP⟩
  ·have e:=h2 b p a st g i d f c w
   rwa [show dE f a w c=(.none,c) by unfold dE;rw [q];dsimp only;rw [j];rfl]
   refine(sF _ _ _ ?_ e);exact r _ ⟨by rwa [q];rfl,j,KP⟩
section
variable{P:ed}{a b:KC}
theorem zm:∀{B:aA} {t y q a8:cv} {m:Gx} {D:KL} (C:aR (KK P) a b) (F:i4 B t m bx.1 ["name"] (gY [] [])) (c6:m.closure.lookup ("lexer":Str)=some y) (c7:m.closure.lookup ("texts":Str)=some q) (c8:m.closure.lookup ("given":Str)=some a8) (ht:∀x v,lk x D=some v→∃tx,v= .str tx),iZ P a b B t y q a8 D HP0 (dE D):=by
 revert P a b;refine' eI10;intro D m a8 q y t B b a P C F c6 c7 c8 ht;intro c T hB h0 hr d p J st ln Z w gs hp;subst hB;refine⟨F.keep,λH a9 mu s xs vs vc r a5 A R N Y hs hv=> ?_⟩;cases hs;(refine ax hv ?_;clear hv;intro K W u;subst K;subst W);refine ab F.ob λo ho hd=> ?_;refine dW (DL ht d p J st.v ln t Z gs w hp) λh i vc U e=> ?_;have a0:cb (KK P) a b 6 fsH:=cb.cons (λu T r=>xD C T (r.le (by decide))) (cb.cons (λu T r=>C7 C T (r.le (by decide))) (cb.cons (λu T r=>C5 C T (r.le (by decide))) cb.nil))
 have LV:Lev (KK P) a b (gY h i) 6:=kC (k:=5) C rfl rfl rfl rfl rfl rfl rfl a0;have FO:jD m (gY h i):=⟨F.ok.names,F.ok.glob,F.ok.blt,F.ok.kind,F.ok.co,F.ok.gen,F.ok.nocell,F.ok.nocls⟩;have l:fg ((pin y q a8).take 11) a9:=by have:=R.pre;rw [show(c.at H 11).ρ₀=(pin y q a8).take 11 by show c.d.ρ₀.take 11=_;(rwa [h0];rfl)]at this;exact this
 refine HJ (gW (cfg:=gY h i) (k:=6) (n:=11) (H:=H) (ps:=["name"]) (xs:=[.str w]) T hr F.body FO F.par (by trivial) rfl (R.base _ _ ho) hd (F.code _ R.base) A
  (eg R N Y (Vals.len _ _ Y) (F.bind vs (Vals.len _ _ Y))) (λx j g=> ?_) λL s1 H1 X1=> ?_)
 ·have g:(bif af x "lexer" then some 6 else bif af x "texts" then some 7 else bif af x "given" then some 8 else none)=some j:=g
  rcases E:af x "lexer" with _|_
  ·rw [E]at g
   rcases O:af x "texts" with _|_
   ·rw [O]at g
    rcases q8:af x "given" with _|_
    ·rw [q8]at g;exact noS g
    ·rw [q8]at g;obtain rfl:=ds g;rwa [aB.mp q8];exact(ah _ c8 (l 8 _ rfl))
   ·rw [O]at g;obtain rfl:=ds g;rwa [aB.mp O];exact(ah _ c7 (l 7 _ rfl))
  ·rw [E]at g;obtain rfl:=ds g;rwa [aB.mp E];exact(ah _ c6 (l 6 _ rfl))
 ·have G:=ef (H:=H) (n:=11) (L:=L) (f:=t) T LV hr FO
  refine ex (iJ G 40 H1 e U (n:=11) (.inl rfl) (by rwa [is];exact og 11 _) rfl) (λfl s2 hZ=> ?_) λu u z=>z
  obtain⟨a4,I,H2,X2,h1,h2,h3⟩:=hZ;exact⟨H2.tk,a4,I,H2.rep,X1.trans X2,h1,h2,h3⟩
end
noncomputable def rep(c:Nat)(z:KF)(l:KF):List Nat:=l.flatMap λk=>if k=c then z else [k]
theorem o0(c:Nat)(z:KF):∀l:List Nat,c∉l→rep c z l=l:=by
 intro b
 induction b with
 |nil=>
  intro _;exact rfl
 |cons k r a=>
  intro h;show(if k=c then z else [k])++rep c z r=k::r;have d:¬k=c:=λe=>h (by rwa [e];exact il)
  rwa [if_neg d,a λm=>h (iv _ m)];rfl
theorem vL(c:Nat)(z:Str)(b:KA):(∀p∈b,c∉p.cps.toList)→rep c z.cps.toList (Str.join ⟨#[c]⟩ b).cps.toList=(Str.join z b).cps.toList:=by
 induction b with
 |nil=>exact λf=>rfl
 |cons p r e=>
  induction r using kv with
  |nil=>exact λh=>o0 c _ _ (h p (mx.mpr rfl))
  |cons q r=>
   intro h;show rep c z.cps.toList (p++⟨#[c]⟩++Str.join ⟨#[c]⟩ (q::r)).cps.toList=(p++z++Str.join z (q::r)).cps.toList;rw [Gy,Gy,Gy,Gy,wh,wh,wh,wh];rwa [←e λa d=>h a (iv _ d)];show List.flatMap _ _=_;rwa [List.flatMap_append,List.flatMap_append];have h1:=o0 c z.cps.toList _ (h p il);unfold rep at h1⊢;rwa [h1];simp
theorem kU(x z:Str)(c:Nat):(Hy x ⟨#[c]⟩ z).cps.toList=rep c z.cps.toList x.cps.toList:=by
 (rwa [StrLaws.replace_one _ _ _,←vL c z _ (StrLaws.split_free x c),Jn _ _];rfl)
def qb(w:KF):Prop:=∀c∈w,c∈[97,98,105,116,39,115,46,47]
noncomputable def ru(b:Int)(a:Nat):Int:=if a=10 then b+1 else b
theorem lu(a:Nat)(k:a=10∨a=32)(u:KF)(d:Int):∀(w b:KF) (q:Bool),(∀c∈w,c≠10∧c≠32∧c≠39∧c≠34)→¬(b++w=[]∧q=false)→ca (w++a::u) .word b q d=some (u, .sp,b++w,q,ru d a):=by
 intro f
 induction f with
 |nil=>
  intro b q _ h;rw [HL]at h⊢;show ca (a::u) .word b q d=_;exact(if_pos (by rcases k with rfl|rfl<;>rfl)).trans (if_neg h)
 |cons c r e=>
  intro b q g h;refine gl (g c il) λh1 h2 h3 i=> ?_;show ca (c::(r++a::u)) .word b q d=_;refine(if_neg (by simp [h1,h2])).trans ((if_neg h3).trans ((if_neg i).trans ((e (b++[c]) q (λc j=>g c (iv _ j)) (by simp)).trans ?_)))
  rwa [oq _ _ _];rfl
theorem Ba(d:Int)(u:KF):∀(w a:KF) (q:Bool),(∀c∈w,c≠10)→∃f,ca (rep 39 [39,34,39,34,39] w++39::u) .q1 a q d=ca u .word (a++w) f d∧f=true:=by
 intro i
 induction i with
 |nil=>
  intro a q _;exact(ah true (by rwa [HL _];rfl) rfl)
 |cons c r g=>
  intro a q j;have k:=λa q=>g a q λc m=>j c (iv _ m)
  by_cases h:c=39
  ·subst h
   (refine ab (k (a++[39]) true) λf e b=> ?_;subst b);refine(ah true ?_ rfl);rw [oq]at e;rwa [←IV (l:=r),←e];show ca (39::34::39::34::39::(rep 39 [39,34,39,34,39] r++39::u)) .q1 a q d=_;rfl
  ·(refine ab (k (a++[c]) true) λf e b=> ?_;subst b)
   refine(ah true ?_ rfl);rw [oq]at e;rwa [←IV (l:=r),←e];have n:rep 39 [39,34,39,34,39] ([c]++r)=c::rep 39 [39,34,39,34,39] r:=by
    show(if c=39 then _ else [c])++_=_;rwa [if_neg h];rfl
   rwa [n];show ca (c::(rep 39 [39,34,39,34,39] r++39::u)) .q1 a q d=_;exact(if_neg h).trans (if_neg (j c il))
theorem tw{w:KF}(a:qb w):dL (S w)=w.all (· !=39):=by
 show w.all dA=_
 induction w with
 |nil=>rfl
 |cons c r d=>
  rwa [I6,I6,d λc b=>a c (iv _ b)]
  congr 1
  have:∀c∈[97,98,105,116,39,115,46,47],dA c=(c !=39):=by decide+kernel
  exact this c (a c il)
theorem uo{w:KF}(l:qb w){sep:Nat}(k:sep=10∨sep=32)(u:KF)(b:Int):∃q,ca ((br (S w)).cps.toList++sep::u) .sp [] false b=some (u, .sp,w,q,ru b sep)∧eY w q= .str (S w):=by
 have a:∀c∈w,c≠10∧c≠32∧c≠34:=λc h=>by
  have:∀c∈[97,98,105,116,39,115,46,47],c≠10∧c≠32∧c≠34:=by decide
  exact this c (l c h)
 unfold br
 induction w using kv with
 |nil=>
  refine(ah true ?_ (by unfold eY;(rwa [if_neg (by trivial)];rfl)))
  show ca (39::39::sep::u) .sp [] false b=_;exact lu sep k u b [] [] true (λc h=>by simp at h) (by trivial)
 |cons c r=>
  have n:(((S (c::r)).length:Int) !=0)=true:=bne_iff_ne.mpr (jS (J3 r.length));rwa [if_pos n,tw l]
  by_cases j:((c::r).all (· !=39))=true
  ·rwa [if_pos j]
   have g:∀d∈c::r,d≠39:=λd f=>bne_iff_ne.mp (Gf.mp j d f);refine(ah false ?_ (by unfold eY;(rwa [if_neg (by simp)];rfl)))
   refine ax (a c il) λn1 n2 n3=> ?_;show ca (c::(r++sep::u)) .sp [] false b=_;refine(if_neg (by simp [n1,n2])).trans ((if_neg (g c il)).trans ((if_neg n3).trans ?_))
   exact lu sep k u b r [c] false (λd f=>(iB ((a d (iv _ f)).1) ((a d (iv _ f)).2.1) (g d (iv _ f)) ((a d (iv _ f)).2.2))) (by simp)
  ·rwa [if_neg j]
   refine(ah true ?_ (by unfold eY;(rwa [if_neg (by simp)];rfl)))
   have o:((("'":Str)++Hy (S (c::r)) ("'":Str) ("'\"'\"'":Str))++("'":Str)).cps.toList=39::(rep 39 [39,34,39,34,39] (c::r)++[39]):=by
    rwa [Gy _ _,Gy _ _,wh,wh,show("'":Str)=⟨#[39]⟩ by rfl',kU _ _ _]
    show [39]++rep 39 ("'\"'\"'":Str).cps.toList (c::r)++[39]=_;rwa [show("'\"'\"'":Str).cps.toList=[39,34,39,34,39] by rfl'];rfl
   rwa [o];(refine ab (Ba b (sep::u) (c::r) [] false λd f=>(a d f).1) λp e i=> ?_;subst i);show ca (39::(rep 39 [39,34,39,34,39] (c::r)++[39]++sep::u)) .sp [] false b=_;rwa [oq _ _ _];show ca (rep 39 [39,34,39,34,39] (c::r)++39::(sep::u)) .q1 [] false b=_;rwa [e];have m:=lu sep k u b [] (c::r) true (λc h=>by simp at h) (by simp)
   rw [HL]at m;exact m
theorem y4(u:KF)(a:Int):ca (117::115::101::32::u) .sp [] false a=some (u, .sp,[117,115,101],false,a):=by rfl
theorem y5(a:Int):ca [] .sp [] false a=some ([], .none,[],false,a):=by rfl
theorem wn(a:Int):ca [] .none [] false a=some ([], .none,[],false,a):=by rfl
theorem dY{a:Type}(l:List a):ci l none (some (kV 0))=l.dropLast:=by
 unfold ci;have h1:kms_lo none l.length=0:=rfl;have h2:kms_hi (some (kV 0)) l.length=l.length -1:=by
  induction l using kv with
  |nil=>rfl
  |cons x r=>rfl
 (rwa [h1,h2,Jt,Nat.sub_zero _,List.dropLast_eq_take];rfl)
def ib(a:KA):Prop:=∀x∈a,(x==("..":Str))=false∧(x==(".":Str))=false∧(x.length:Int)≠0
theorem wr{c:Str}(h:(c.length:Int)=0):c=("":Str):=by
 have h:c.cps.size=0:=ct.inj h;have:c.cps=#[]:=Array.size_eq_zero_iff.mp h
 induction c;subst this;kernel_rfl
theorem v8{a:KA}(h:ib a)(c:Str):bo a c=bM a c∧ib (bM a c):=by
 revert h;revert a c;refine' eI2;intro c a h;have l:ib a.dropLast:=λx hx=>h x (G9 a hx)
 by_cases f:(c.length:Int)=0
 ·have e:=wr f
  subst e;have d:bo a ""=a:=by unfold bo;(rwa [if_neg (by decide)];rfl)
  have b:bM a ""=a:=by unfold bM;(rwa [if_neg (by decide),if_neg (by decide)];rfl)
  rwa [d,b];exact(an rfl h)
 have k:((c.length:Int) !=0)=true:=bne_iff_ne.mpr f;rcases g:(c==("..":Str))with _|_
 ·rcases i:(c==(".":Str))with _|_
  ·have d:bo a c=a++[c]:=by unfold bo;(rwa [if_pos k,i,if_neg Gp,if_pos (by unfold bne;rw [g];rfl)];rfl)
   have m:bO c ["","."]=false:=by
    have a1:af "" c=false:=by
     rcases q:af "" c with _|_
     ·rfl
     ·have:=aB.mp q;subst this;exact absurd rfl f
    have a2:af "." c=false:=by
     rcases q:af "." c with _|_
     ·rfl
     ·have:=aB.mp q;subst this;exact absurd i (by decide)
    show(bif af "" c then true else bif af "." c then true else false)=false;rwa [a1,a2];rfl
   have b:bM a c=a++[c]:=by unfold bM;rwa [g,if_neg Gp,m];rfl
   rwa [d,b];refine(an rfl (λx hx=> ?_));rcases sz.mp hx with hx|hx
   ·exact h x hx
   ·rwa [mx.mp hx];exact(cB g i f)
  ·have e:c=".":=by exact JT i
   subst e;have d:bo a "."=a:=by unfold bo;(rwa [if_pos (by decide),if_pos (by decide)];rfl)
   have b:bM a "."=a:=by unfold bM;(rwa [if_neg (by decide),if_neg (by decide)];rfl)
   rwa [d,b];exact(an rfl h)
 ·have e:c="..":=by exact JT g
  subst e;have b:bM a ".."=a.dropLast:=by unfold bM;(rwa [if_pos (by decide),dY _];rfl)
  have d:bo a ".."=a.dropLast:=by
   unfold bo;rwa [if_pos (by decide),if_neg (by decide),if_neg (by decide)]
   induction a using kv with
   |nil=>rfl
   |cons x r=>
    have j:(x::r).getLastD GZ∈x::r:=by rwa [List.getLastD_cons];exact List.getLastD_mem_cons ..
    (rwa [if_pos (show(!(x::r).isEmpty)=true from rfl),(h _ j).1,if_neg Gp];rfl)
  rwa [d,b];exact(an rfl l)
theorem qP:∀(b:KA) {a:KA},ib a→b.foldl bo a=b.foldl bM a∧ib (b.foldl bM a):=by
 intro f
 induction f with
 |nil=>
  intro _ h;exact⟨rfl,h⟩
 |cons c r d=>
  intro a h;refine ai (v8 h c) λe h2=> ?_;(rwa [Gd];rw [Gd];rwa [e]);exact d h2
theorem r8:∀(b:KA) {a:KA},ib b→b.foldl bo a=a++b:=by
 intro e
 induction e with
 |nil=>
  intro a _;exact(HL a).symm
 |cons c r d=>
  intro a h;refine ax (h c il) λf g i=> ?_;have j:bo a c=a++[c]:=by unfold bo;(rwa [if_pos (bne_iff_ne.mpr i),g,if_neg Gp,if_pos (by unfold bne;rw [f];rfl)];rfl)
  rwa [Gd,j,d λx k=>h x (iv _ k),oq _ _ _];rfl
end Mine
end
section
open PySem.Builtin PySem.Builtin.Str
namespace Mine
theorem eD(i n:Nat):(if(1:Int) > 0 then max (0:Int) (min (if(i:Int) < 0 then(i:Int)+(n:Int)else(i:Int)) (n:Int))else max (-1) (min (if(i:Int) < 0 then(i:Int)+(n:Int)else(i:Int)) ((n:Int) -1)))=((min i n:Nat):Int):=by
 rwa [if_pos (by decide),if_neg (Int.not_lt.mpr (z2 i)),show min (i:Int) (n:Int)=((min i n:Nat):Int)from(Nat.le_total i n).elim (λh=>(Int.min_eq_left (Gi.mpr h)).trans (congrArg ct (GW h).symm)) λh=>(Int.min_eq_right (Gi.mpr h)).trans (congrArg ct (Iu h).symm)]
 exact Int.max_eq_right (z2 _)
theorem rq(x:Str)(i j:Nat):i0 x (some (i:Int)) (some (j:Int))=i0 x (some ((min i x.length:Nat):Int)) (some ((min j x.length:Nat):Int)):=by
 have h:strSliceIndices (some (i:Int)) (some (j:Int)) 1 x.length=strSliceIndices (some ((min i x.length:Nat):Int)) (some ((min j x.length:Nat):Int)) 1 x.length:=by
  unfold strSliceIndices;dsimp only;(rwa [eD _ _,eD _ _,eD _ _,eD _ _,Nat.min_assoc _ _ _,Nat.min_self _,Nat.min_assoc _ _ _,Nat.min_self _];rfl)
 unfold i0;(rwa [h];rfl)
theorem i8:∀(x:Str) (i j:Nat) (a:i≤j),(i0 x (some (i:Int)) (some (j:Int))).cps.toList=(x.cps.toList.drop i).take (j -i):=by
 refine' eI3;intro j i x a;rwa [rq _ _ _];have c:x.cps.toList.length=x.length:=by rwa [iy];rfl
 have h:=JT (slice_closesL (x:=x) (i:=((min i x.length:Nat):Int)) (j:=((min j x.length:Nat):Int)) (z2 _) (Gi.mpr (Nat.le_min.mpr ⟨h9 (GY _ _) a,HC _ _⟩)) (Gi.mpr (HC _ _)));rwa [h];show((x.cps.toList.drop (min i x.length)).take (((min j x.length:Nat):Int) -((min i x.length:Nat):Int)).toNat)=_;rwa [Int.toNat_sub _ _,List.drop_eq_drop_iff.mpr (show min (min i x.length) x.cps.toList.length=min i x.cps.toList.length by rwa [c,Nat.min_assoc _ _ _,Nat.min_self _];rfl)]
 refine List.take_eq_take_iff.mpr ?_;rwa [I0,c]
 by_cases b:i≤x.length
 ·rwa [GW b,Nat.sub_min_sub_right _ _ _,Nat.sub_min_sub_right _ _ _,Nat.min_assoc _ _ _,Nat.min_self _];rfl
 ·rwa [Nat.sub_eq_zero_of_le (Nat.le_of_not_le b),Nat.min_zero _,Nat.min_zero _];rfl
theorem i7(x:Str)(j:Nat):(i0 x none (some (j:Int))).cps.toList=x.cps.toList.take j:=by
 have h:strSliceIndices none (some (j:Int)) 1 x.length=strSliceIndices (some ((0:Nat):Int)) (some (j:Int)) 1 x.length:=by
  unfold strSliceIndices;dsimp only;rwa [eD _ _,eD _ _,if_pos (by decide),Nat.zero_min _];rfl
 have e:i0 x none (some (j:Int))=i0 x (some ((0:Nat):Int)) (some (j:Int)):=by unfold i0;(rwa [h];rfl)
 rwa [e,i8 x 0 j (so _)];rfl
theorem i9(x:Str)(i:Nat):(i0 x (some (i:Int)) none).cps.toList=x.cps.toList.drop i:=by
 have h:strSliceIndices (some (i:Int)) none 1 x.length=strSliceIndices (some (i:Int)) (some ((max i x.length:Nat):Int)) 1 x.length:=by
  unfold strSliceIndices;dsimp only;(rwa [eD _ _,eD _ _,if_pos (by decide),Iu (Nat.le_max_right i x.length)];rfl)
 have e:i0 x (some (i:Int)) none=i0 x (some (i:Int)) (some ((max i x.length:Nat):Int)):=by unfold i0;(rwa [h];rfl)
 rwa [e,i8 x i _ (Nat.le_max_left _ _)];refine GN ?_;rwa [I0,iy];exact Nat.sub_le_sub_right (Nat.le_max_right _ _) i
theorem dr{x y:Str}(h:x.cps.toList=y.cps.toList):x=y:=by
 induction x;induction y
 exact congrArg Str.mk (Array.toList_inj.mp h)
theorem lb(y:Str):(y !=("/":Str))=(y.cps.toList !=[47]):=by
 rcases q:(y.cps.toList !=[47])with _|_
 ·have h:y.cps.toList=[47]:=by simpa [bne]using q
  rwa [dr (x:=y) (y:=("/":Str)) (by rw [h];kernel_rfl)];decide
 ·refine bne_iff_ne.mpr λe=> ?_
  subst e;revert q
  decide+kernel
theorem lX(x:Str):srA x=(x.cps.toList.take 1 !=[47]):=by
 unfold srA;(rwa [lb _,show(some (1:Int))=some ((1:Nat):Int)from rfl,i7 _ _];rfl)
theorem oY(x:Str):srB x=((x.cps.toList.drop 1).take 1 !=[47]):=by
 unfold srB;(rwa [lb _,show(some (1:Int))=some ((1:Nat):Int)from rfl,show(some (2:Int))=some ((2:Nat):Int)from rfl,i8 _ _ _ (by decide)];rfl)
theorem td(x:Str):srC x= !((x.cps.toList.drop 2).take 1 !=[47]):=by
 have h:=lb (i0 x (some ((2:Nat):Int)) (some ((3:Nat):Int)));rw [i8 _ _ _ (by decide)]at h
 rw [show(3 -2:Nat)=1 from rfl]at h;rwa [←h];show _= !(!_);rwa [Bool.not_not _];rfl
def qc(r:KF):Prop:=r.take 1≠[47]
theorem tc{x:Str}{r:KF}(h:x.cps.toList=47::r)(e:qc r):aZ x=("/":Str)∧bd x=S r:=by
 have a:srA x=false:=by rwa [lX _,h];rfl
 have b:srB x=true:=by rwa [oY _,h];exact bne_iff_ne.mpr e
 have c:aZ x=("/":Str):=by unfold aZ;rwa [a,b];rfl
 have d:bd x=i0 x (some ((1:Nat):Int)) none:=by unfold bd;rwa [a,b];rfl
 exact⟨c,by rwa [d];exact dr (by rwa [i9 _ _,h];rfl)⟩
theorem tb:∀{x:Str} {r:KF} (h:x.cps.toList=47::47::r) (d:qc r),aZ x=("//":Str)∧bd x=S r:=by
 refine' eI2;intro r x h d;have b:srA x=false:=by rwa [lX _,h];rfl
 have c:srB x=false:=by rwa [oY _,h];rfl
 have a:srC x=false:=by rwa [td _,h];show(!(r.take 1 !=[47]))=false;rwa [bne_iff_ne.mpr d];rfl
 have e:aZ x=i0 x none (some ((2:Nat):Int)):=by unfold aZ;rwa [b,c,a];rfl
 have f:bd x=i0 x (some ((2:Nat):Int)) none:=by unfold bd;rwa [b,c,a];rfl
 exact⟨by rwa [e];exact dr (by rwa [i7 _ _,h];kernel_rfl),by rwa [f];exact dr (by rwa [i9 _ _,h];rfl)⟩
theorem vv:∀{x:Str} {r:KF} (h:x.cps.toList=47::47::47::r),aZ x=("/":Str)∧bd x=S (47::47::r):=by
 refine' eI2;intro r x h;have b:srA x=false:=by rwa [lX _,h];rfl
 have c:srB x=false:=by rwa [oY _,h];rfl
 have a:srC x=true:=by rwa [td _,h];rfl
 have d:aZ x=("/":Str):=by unfold aZ;rwa [b,c,a];rfl
 have e:bd x=i0 x (some ((1:Nat):Int)) none:=by unfold bd;rwa [b,c,a];rfl
 exact⟨d,by rwa [e];exact dr (by rwa [i9 _ _,h];rfl)⟩
theorem qn:∀{x:Str} {p a:KF} (h:x.cps.toList=p++47::a) (l:47∉a),Gs x ("/":Str)=(p.length:Int):=by
 refine' eI3;intro a p x h l;have m:("/":Str)=⟨#[47]⟩:=by rfl'
 have b:∀i,StrLaws.At x ⟨#[47]⟩ x.length i↔x.cps.toList[i]? =some 47:=λi=>StrLaws.subAt_one x 47 i;have j:x.cps.toList[p.length]? =some 47:=by rwa [h,gv (fx _),GC _];rfl
 rcases rfind_whole x ("/":Str)with⟨_,f⟩|⟨i,e,hat,hmax⟩
 ·rw [m]at f
  exact absurd ((b _).mpr j) (f _)
 ·rw [m]at hat hmax
  rwa [e];have g:=(b i).mp hat;have h1:¬i < p.length:=λd=>hmax _ d ((b _).mpr j);have h2:¬p.length < i:=λd=>by
   rw [h,gv (IM d)]at g;obtain⟨k,n⟩:∃k,i -p.length=k+1:=⟨i -p.length -1,by grind⟩
   rw [n,G7]at g;exact l (lf g)
  have:i=p.length:=by exact Leq [_,_] [.h 3 0 1 (.a V0 Z0) V1, .h 3 1 0 (.a V1 Z0) V0] 0 V0 V1 rfl h1 h2
  (rwa [this];rfl)
theorem qS{x:Str}{p a:KF}(h:x.cps.toList=p++47::a)(b:47∉a):(cC x).cps.toList=p++[47]:=by
 unfold cC;rwa [qn h b,show((p.length:Int)+1)=((p.length+1:Nat):Int)from rfl,i7 _ _,h];rwa [List.take_append,Jy _ _,GN (GL _)];rfl
theorem yR(n:Int):∀c∈(Txt.mul ("/":Str) n).cps.toList,c=47:=by
 have h1:∀c∈(("/":Str)).cps.toList,c=47:=by decide+kernel
 have b:∀(k:Nat) (a:Array Nat),(∀c∈a.toList,c=47)→∀c∈((Ht k (("/":Str)).cps).foldl (· ++·) a).toList,c=47:=by
  intro k
  induction k with
  |zero=>intro a h;exact h
  |succ k d=>
   intro a h;rwa [GD,Gd];refine d _ λc hc=> ?_;rw [wh]at hc;rcases sz.mp hc with hc|hc
   ·exact h c hc
   ·exact h1 c hc
 unfold Txt.mul
 split
 ·intro c hc;exact absurd hc (by simp [GZ])
 ·split
  ·exact h1
  ·exact b _ _ (λc hc=>by simp at hc)
theorem rx{x:Str}{q:KF}{c:Nat}(h:x.cps.toList=q++[c]++[47])(d:c≠47):(Jc x ("/":Str)).cps.toList=q++[c]:=by
 have e:(("/":Str)).cps.contains 47=true:=by decide+kernel
 have g:(("/":Str)).cps.contains c=false:=by
  rwa [show("/":Str)=⟨#[47]⟩ by rfl']
  simp [d]
 have f:x.length=q.length+2:=by show x.cps.size=_;rwa [←iy,h];simp
 unfold Jc;rwa [PyProof.Rows.stripBy_eq _ _ _ _];have b:stripHi (("/":Str)).cps.contains true x (stripLo (("/":Str)).cps.contains false x)=q.length+1:=by
  have a:stripLo (("/":Str)).cps.contains false x=0:=rfl;rwa [a];unfold stripHi;rwa [if_pos rfl,Jt,h,List.reverse_append,List.reverse_append];show x.length -((47::c::q.reverse).takeWhile _).length=_;rwa [List.takeWhile_cons,e,if_pos rfl,List.takeWhile_cons,g,if_neg Gp,f];rfl
 rwa [b];have a:stripLo (("/":Str)).cps.contains false x=0:=rfl;rwa [a];show(x.cps.extract 0 (q.length+1)).toList=_;rwa [Array.toList_extract,List.extract_eq_take_drop,Jt,h];(rwa [Nat.sub_zero _,IF (by simp),GN (by simp)];rfl)
theorem qR(x:Str)(p a:KF)(h:x.cps.toList=p++47::a)(c:47∉a)(b:p=[]∨p=[47]):(aN x).cps.toList=p++[47]:=by
 have e:=qS h c;have d:oH (cC x)=false:=by
  rcases b with rfl|rfl
  ·rwa [show cC x=("/":Str)from dr (by rw [e];kernel_rfl)];decide+kernel
  ·rwa [show cC x=("//":Str)from dr (by rw [e];kernel_rfl)];decide+kernel
 unfold aN;(rwa [d,Bool.and_false _,if_neg Gp,e];rfl)
theorem zD(x:Str)(q a:KF)(c:Nat)(h:x.cps.toList=(q++[c])++47::a)(f:47∉a)(b:c≠47):(aN x).cps.toList=q++[c]:=by
 have e:=qS h f;have d:oH (cC x)=true:=by
  refine bne_iff_ne.mpr λk=>b ?_;have:=yR ((cC x).length:Int) c (by rwa [←k,e];simp)
  exact this
 have g:(((cC x).length:Int) !=0)=true:=bne_iff_ne.mpr (by
  have:(cC x).length=(q++[c]++[47]).length:=by show(cC x).cps.size=_;(rwa [←iy,e];rfl)
  rwa [this,is];exact jS (J3 _))
 unfold aN;rwa [g,d,Bool.and_true _,if_pos rfl];exact rx e b
noncomputable def jl:List (List Nat)→List Nat
 |[]=>[]
 |[x]=>x
 |x::y::r=>x++47::jl (y::r)
noncomputable def cp(x:Str):List Nat:=x.cps.toList
theorem fm:∀L:List Str,(f1 ("/":Str) L).cps.toList=jl (L.map cp):=by
 intro L;show(glued ("/":Str) L).cps.toList=_;rwa [JV _ _]
 induction L with
 |nil=>rfl
 |cons x r a=>
  induction r using kv with
  |nil=>rfl
  |cons y r=>
   show(x++("/":Str)++Str.join ("/":Str) (y::r)).cps.toList=cp x++47::jl ((y::r).map cp);rwa [Gy _ _,Gy _ _,wh,wh,a,oq _ _ _];rfl
theorem gF{x:KF}{r:List (List Nat)}(h:r≠[]):jl (x::r)=x++47::jl r:=by
 induction r using kv with
 |nil=>exact absurd rfl h
 |cons y r=>rfl
theorem zf(a:KF)(L:List (List Nat)):L≠[]→jl (L++[a])=jl L++47::a:=by
 induction L with
 |nil=>exact λh=>absurd rfl h
 |cons x r c=>
  induction r using kv with
  |nil=>exact λb=>rfl
  |cons y r=>exact λb=>(congrArg (x++47::·) (c (Hq _ _))).trans (oq x (47::jl (y::r)) (47::a)).symm
theorem Bx{X Y a:KF}:∀{b:KF},47∉a→47∉b→a++47::X=b++47::Y→a=b∧X=Y:=by
 induction a with
 |nil=>exact λ{b}=>b.casesOn (λc c h=>⟨rfl,(Hb h).2⟩) λd b c h2 h=>absurd ((Hb h).1▸il) h2
 |cons d a f=>exact λ{b}=>b.casesOn (λh1 c h=>absurd ((Hb h).1▸il) h1) λe b h1 h2 h=>
  (have g:=Hb h;have k:=f (λm=>h1 (iv _ m)) (λm=>h2 (iv _ m)) g.2;⟨by rwa [g.1,k.1];rfl,k.2⟩)
theorem Bh{A:List (List Nat)}:∀{B:List (List Nat)},A≠[]→B≠[]→(∀x∈A,47∉x)→(∀x∈B,47∉x)→jl A=jl B→A=B:=by
 have k:∀{a b:KF} {X:KF},47∉a→a≠b++47::X:=λh e=>h (e▸IS _ il)
 induction A with
 |nil=>exact λh=>absurd rfl h
 |cons a r i=>
  refine λ{B}=>B.casesOn (λg h=>absurd rfl h) λb t g g h1 h2 h=> ?_
  induction r using kv with
  |nil=>
   induction t using kv with
   |nil=>exact congrArg (· ::[]) h
   |cons c t=>exact absurd h (k (h1 a il))
  |cons c r=>
   induction t using kv with
   |nil=>exact absurd h.symm (k (h2 b il))
   |cons d t=>
    refine ai (Bx (h1 a il) (h2 b il) h) λp q=> ?_;rwa [p,i (Hq _ _) (Hq _ _) (λx f=>h1 x (iv _ f)) (λx f=>h2 x (iv _ f)) q];rfl
theorem k9(x:Str):ID x ("/":Str)≠[]:=by
 have b:("/":Str)=⟨#[47]⟩:=by rfl'
 intro h;have h2:=Jn x ("/":Str);rw [h]at h2;have a:x=GZ:=h2.symm;subst a;revert h
 decide+kernel
theorem BC{A B:KA}(h:A.map cp=B.map cp):A=B:=by
 induction A generalizing B with
 |nil=>induction B using kv with
  |nil=>rfl
  |cons b B=>exact EW h
 |cons a A c=>induction B using kv with
  |nil=>exact Fh h
  |cons b B=>
   refine ai (Hb h) λp q=> ?_;(rwa [dr p,c q];rfl)
theorem vw{x:Str}{L:KA}(f:L≠[])(e:∀y∈L,47∉cp y)(h:cp x=jl (L.map cp)):ID x ("/":Str)=L:=by
 have g:("/":Str)=⟨#[47]⟩:=by rfl'
 have h2:jl ((ID x ("/":Str)).map cp)=cp x:=by
  have:=Jn x ("/":Str);rwa [←fm _];show(glued _ _).cps.toList=_;rwa [JV _ _,this];rfl
 have b:∀y∈ID x ("/":Str),47∉cp y:=by rwa [g];exact StrLaws.split_free x 47
 refine BC (Bh (by simpa using k9 x) (by simpa using f) (λy c=> ?_) (λy c=> ?_) (h2.trans h))
 ·(refine ab (Hr.mp c) λz d a=> ?_;subst a);exact b z d
 ·(refine ab (Hr.mp c) λz d a=> ?_;subst a);exact e z d
def cy(n:Str):Prop:=n∈[("a":Str),"b","it's"]
def cY(n:Str):Prop:=n∈[("a":Str),"b","it's","..","","."]
theorem fw{n:Str}(h:cy n):47∉cp n∧cp n≠[]:=by
 have:∀n∈[("a":Str),"b","it's"],47∉cp n∧cp n≠[]:=by decide+kernel
 exact this n h
theorem tJ{n:Str}(h:cY n):47∉cp n:=by
 have:∀n∈[("a":Str),"b","it's","..","","."],47∉cp n:=by decide+kernel
 exact this n h
theorem rF{a:KA}(h:∀n∈a,cy n):ib a:=λn b=>by
 have:∀n∈[("a":Str),"b","it's"],(n==("..":Str))=false∧(n==(".":Str))=false∧(n.length:Int)≠0:=by decide+kernel
 exact this n (h n b)
noncomputable def bk(b:Str)(a:KA):Str:=b++f1 ("/":Str) a
theorem ky(b:Str)(a:KA):cp (bk b a)=cp b++jl (a.map cp):=by
 unfold bk cp;rwa [Gy _ _,wh,fm _];rfl
theorem qL{L:List (List Nat)}:L≠[]→(∀x∈L,47∉x∧x≠[])→∃q c,jl L=q++[c]∧c≠47:=by
 induction L with
 |nil=>exact λh b=>absurd rfl h
 |cons x r f=>
  induction r using kv with
  |nil=>
   intro _ h;refine ai (h x il) λh1 h2=>nw ((IW x).resolve_left h2) λq c e=> ?_;have e:=e.trans IX;exact eS q c e λi=>h1 (by rwa [e,i];exact IS _ il)
  |cons y r=>exact λb h=>aS (f (Hq _ _) λz d=>h z (iv _ d)) λq c e a=>eS (x++47::q) c ((congrArg (x++47::·) e).trans (oq x (47::q) [c]).symm) a
def dX(a:Str):Prop:=a="/"∨a="//"
theorem mT{a:Str}(h:dX a):∃p:List Nat,(p=[]∨p=[47])∧cp a=p++[47]:=by
 rcases h with rfl|rfl
 ·exact(ah ([]) (.inl rfl) (by rfl'))
 ·exact(ah ([47]) (.inr rfl) (by rfl'))
theorem lH:∀{d:Str} {b:KA} (m:dX d) (i:∀n∈b,cy n),aN (bk d b)=bk d b.dropLast:=by
 refine' eI2;intro b d m i;refine ab (mT m) λp l j=> ?_;refine dr ?_;show _=cp (bk d b.dropLast);rwa [ky _ _];have g:=ky d b;rcases IW b with rfl|⟨ns,a,rfl⟩
 ·exact(qR _ p [] (by rwa [show(bk d []).cps.toList=_ from g,j];simp [jl]) (by simp) l).trans (by rwa [j];simp [jl])
 ·rw [IX]at i g⊢
  have o:=(fw (i a (by simp))).1
  rwa [J6,j];rw [j,Hv]at g
  by_cases h:ns=[]
  ·subst h
   exact(qR _ p (cp a) (by rwa [show(bk d ([]++[a])).cps.toList=_ from g];simp [jl]) o l).trans (by simp [jl])
  ·have f:ns.map cp≠[]:=by simpa using h
   refine aS (qL f λx r=>by
    (refine ab (Hr.mp r) λz s k=> ?_;subst k);exact fw (i z (by simp [s]))) λq c e t=> ?_
   rw [show [a].map cp=[cp a]from rfl,zf _ _ f,e]at g;rwa [e];exact(zD _ (p++[47]++q) (cp a) c (by rwa [show(bk d (ns++[a])).cps.toList=_ from g];simp) o t).trans (by simp)
theorem xq:("/":Str)=⟨#[47]⟩:=by rfl'
theorem gr(w:Str):GV w ("/":Str)=true↔(cp w)[0]? =some 47:=by
 (rwa [xq];rw [←show _↔(cp w)[0]? =some 47 from StrLaws.subAt_one w 47 0]);unfold GV;(rwa [lq _ _,decide_eq_true_eq];rfl)
theorem pU{d:Str}{q:KF}{c:Nat}(h:cp d=q++[c]):Jj d ("/":Str)=true↔c=47:=by
 have b:d.length=q.length+1:=by show d.cps.size=_;rwa [←iy,show d.cps.toList=_ from h];simp
 have g:(cp d)[d.length -1]? =some c:=by rwa [h,b,Nat.add_sub_cancel _ _,gv (fx _),GC _];rfl
 have k:=StrLaws.subAt_one d 47 (d.length -1);rw [show d.cps.toList[d.length -1]? =some c from g]at k;rwa [xq];rwa [lq _ _,decide_eq_true_eq];refine⟨λh=>ds (k.mp ⟨?_,h.2⟩),λh=>⟨by show 0+1≤_;exact Lle [_,_] [Q2 V0 (.a V1 Z0)] 0 (.a Z3 Z0) V0 rfl b,(k.mpr (by(rwa [h];rfl))).2⟩⟩
 show d.length -1+1≤_;exact Lle [_,_] [Q1 (.a V1 Z0) V0] 0 (.a V1 Z0) V0 rfl (pm (Lle [_,_] [Q2 V0 (.a V1 Z0)] 0 Z0 V0 rfl b))
theorem dc(x:Str):(cp x).length=x.length:=iy
theorem yz{b:KA}:b≠[]→(∀y∈b,47∉cp y)→∃a,a≠[]∧b=Ht (bZ b) ("":Str)++a∧jl (b.map cp)=Ht (bZ b) 47++jl (a.map cp)∧qc (jl (a.map cp)):=by
 induction b with
 |nil=>exact λh n=>absurd rfl h
 |cons x r j=>
  intro _ f
  by_cases d:(x==("":Str))=true
  ·obtain rfl:=JT d
   induction r using kv with
   |nil=>
    rwa [show bZ [("":Str)]=0 by rfl']
    exact iz [("":Str)] (Hq _ _) rfl rfl λe=>f _ il (Ik (i:=1) ((show JS 1 (cp ("":Str))=[47]from e)▸il))
   |cons y r=>
    refine ny (j (Hq _ _) λz k=>f z (iv _ k)) λa h1 h2 h3 g=> ?_;have l:bZ (""::y::r)=bZ (y::r)+1:=by
     unfold bZ;rwa [show ck (""::y::r)=ck (y::r)+1 from if_pos d]
     by_cases c:ck (y::r)=(y::r).length
     ·rwa [if_pos ⟨Hp _,congrArg (· +1) c⟩,if_pos ⟨λh=>Hp _ (c.symm.trans h),c⟩,c];rfl
     ·rwa [if_neg λh=>c (HZ h.2),if_neg λh=>c h.2];rfl
    rwa [l];exact iz a h1 (congrArg (("":Str)::·) h2) (congrArg (47::·) h3) g
  ·rwa [show bZ (x::r)=0 by unfold bZ;rwa [show ck (x::r)=0 from if_neg d];rfl]
   refine iz (x::r) (Hq _ _) rfl rfl λe=>f x il (Ik (i:=1) ?_)
   induction r using kv with
   |nil=>exact(show JS 1 (cp x)=[47]from e)▸il
   |cons y r=>
    have e:JS 1 (cp x++47::jl ((y::r).map cp))=[47]:=e;have m:cp x≠[]:=λh=>d (by rwa [show x=("":Str)from dr (h.trans (by rfl'))];decide)
    rw [IF (List.length_pos_iff.mpr m)]at e;exact e▸il
theorem qp(a:KA):bo a ""=a:=by unfold bo;(rwa [if_neg (by decide)];rfl)
theorem kW(a:KA):bM a ""=a:=by unfold bM;(rwa [if_neg (by decide),if_neg (by decide)];rfl)
theorem mz{f:List Str→Str→List Str}(e:∀a,f a ""=a)(b:KA):∀(k:Nat) (a:KA),(Ht k ("":Str)++b).foldl f a=b.foldl f a:=by
 intro d
 induction d with
 |zero=>
  intro _;exact rfl
 |succ k c=>
  intro a;(rwa [GD,HU,Gd,e _,c a];rfl)
theorem kz{x a:Str}{L:KA}(h1:aZ x=a)(h2:bd x=S (jl (L.map cp)))(c:L≠[])(b:∀y∈L,47∉cp y):mh x=bk a (L.foldl bo []):=by
 unfold mh dh ba bk;(rwa [h1,h2,vw c b rfl];rfl)
theorem wb{x:Str}{c:KA}(k:Nat)(h2:c≠[])(d:∀y∈c,47∉cp y)(e:cp x=Ht (k+1) 47++jl (c.map cp))(g:qc (jl (c.map cp))):
 mh x=bk (if k+1=2 then "//" else "/") (c.foldl bo []):=by
 match k with
 |0=>
  refine ai (tc (x:=x) (r:=jl (c.map cp)) e g) λa b=> ?_;rwa [if_neg (by decide)]
  exact kz a b h2 d
 |1=>
  refine ai (tb (x:=x) (r:=jl (c.map cp)) e g) λa b=> ?_;rwa [if_pos rfl];exact kz a b h2 d
 |k+2=>
  have f:cp x=47::47::47::(Ht k 47++jl (c.map cp)):=by
   rwa [e,GD,GD,GD];rfl
  refine ai (vv (x:=x) (r:=Ht k 47++jl (c.map cp)) f) λa b=> ?_;rwa [if_neg (by simp)]
  have h:∀m:Nat,jl ((Ht m ("":Str)++c).map cp)=Ht m 47++jl (c.map cp):=by
   intro m
   induction m with
   |zero=>rfl
   |succ m i=>
    rwa [GD,GD,HU,HU,GJ,gF (by simp [h2]),i];rfl
  have:=kz (L:=Ht (k+2) ("":Str)++c) a (by rwa [b,h _,GD,GD];rfl) (by simp [h2]) (λy hy=>by
   rcases sz.mp hy with hy|hy
   ·rwa [(List.mem_replicate.mp hy).2];decide+kernel
   ·exact d y hy)
  (rwa [this,mz qp _ _ _];rfl)
theorem t5:ib []:=λx a=>by simp at a
theorem oS:∀{b:Str} {f row:KA} (J:dX b) (T:∀n∈f,cy n) (u:∀n∈row,cY n) (w:row≠[]),bD (bk b f) (f1 ("/":Str) row)=bk (aX b row) (cn f.dropLast row):=by
 refine' eI3;intro row f b J T u w;have o:∀n∈f.dropLast,cy n:=λn h=>T n (G9 f h);unfold bD;rwa [lH J T];generalize f.dropLast=i at*;have Z:∀y∈row,47∉cp y:=λy G=>tJ (u y G);refine ny (yz w Z) λd h2 h3 m U=> ?_;have H:∀y∈d,47∉cp y:=λy G=>Z y (by rwa [h3];exact IS _ G)
 have D:cp (f1 ("/":Str) row)=jl (row.map cp):=fm row;have j:∀l,row.foldl bM l=d.foldl bM l:=λl=>by
  have:=mz kW d (bZ row) l;rw [←h3]at this;exact this
 unfold aX cn bt;rcases Y:bZ row with _|k
 ·rwa [if_pos rfl,if_pos rfl]
  rw [Y]at m;have m:jl (row.map cp)=jl (d.map cp):=m;have R:GV (f1 ("/":Str) row) ("/":Str)=false:=by
   rcases q:GV (f1 ("/":Str) row) ("/":Str)with _|_
   ·rfl
   ·exfalso
    have g:=(gr _).mp q;rw [D,m]at g;refine U ?_;rcases e:jl (d.map cp)with _|⟨c,r⟩
    ·rw [e]at g;exact noS g
    ·rw [e]at g;obtain rfl:=ds g;rfl
  refine ab (mT J) λp hp er=> ?_;have C:=ky b i;have N:((bk b i).length:Int)≠0:=by
   rwa [←dc _,C,er,is];exact jS (fa (by rwa [is];exact J3 _) (og _ _))
  have I:cp (bp (bk b i) (f1 ("/":Str) row))=cp b++jl ((i++d).map cp):=by
   unfold bp;rwa [R,if_neg Gp,if_pos (bne_iff_ne.mpr N)]
   by_cases E:i=[]
   ·subst E
    rwa [if_pos ((pU (q:=p) (c:=47) (by rw [C,er];simp [jl])).mpr rfl)]
    show(bk b []++f1 ("/":Str) row).cps.toList=_;rwa [Gy _ _,wh];show cp (bk b [])++cp (f1 ("/":Str) row)=_;(rw [C];rwa [D,m]);simp [jl]
   ·have t:i.map cp≠[]:=by simpa using E
    refine aS (qL t λx I=>by
     (refine ab (Hr.mp I) λz hz P=> ?_;subst P);exact fw (o z hz)) λq c e hc=> ?_
    rwa [if_neg (λh=>hc ((pU (q:=cp b++q) (c:=c) (by rw [C,e,oq])).mp h))]
    show(bk b i++(("/":Str)++f1 ("/":Str) row)).cps.toList=_;(rwa [Gy _ _];rw [Gy];rwa [wh];rw [wh]);show cp (bk b i)++(cp ("/":Str)++cp (f1 ("/":Str) row))=_;rwa [C,D,m,Hv,show cp ("/":Str)=[47] by rfl']
    have L:∀(A B:List (List Nat)),A≠[]→B≠[]→jl (A++B)=jl A++47::jl B:=by
     intro A B hA hB
     induction A with
     |nil=>exact absurd rfl hA
     |cons a A ih=>
      induction A using kv with
      |nil=>rwa [IV,gF hB];rfl
      |cons a2 A=>
       have i2:=ih (by simp)
       rwa [HU,gF (by simp),i2,gF (x:=a) (r:=a2::A) (by simp),oq _ _ _];rfl
    rwa [L _ _ t (by simpa using h2),oq _ _ _];rfl
  have F:qc (jl ((i++d).map cp)):=by
   induction i using kv with
   |nil=>exact U
   |cons a i=>
    refine ai (fw (o a il)) λa1 a2=> ?_;intro e;have O:(i++d).map cp≠[]:=by simp [h2]
    rw [HU,GJ,gF O,IF (by have:=List.length_pos_iff.mpr a2;exact Lle [_] [Q0 (.a Z3 Z0) V0] 0 Z0 V0 rfl this)]at e
    exact a1 (Ik (show 47∈JS 1 (cp a) by rwa [e];simp))
  have K:∀y∈i++d,47∉cp y:=λy G=>(sz.mp G).elim (λh=>(fw (o y h)).1) (H y);have W:=rF o;have s:aZ (bp (bk b i) (f1 ("/":Str) row))=b∧bd (bp (bk b i) (f1 ("/":Str) row))=S (jl ((i++d).map cp)):=by
   rcases J with rfl|rfl
   ·exact tc (I.trans (by rwa [show cp ("/":Str)=[47] by rfl'];rfl)) F
   ·exact tb (I.trans (by rwa [show cp ("//":Str)=[47,47] by rfl'];rfl)) F
  (rwa [kz s.1 s.2 (by simp [h2]) K,HQ,r8 i W,J7 _,(qP d W).1,j _];rfl)
 ·(rwa [if_neg (Hp k)];rw [if_neg (Hp k)])
  rw [Y]at m;have R:GV (f1 ("/":Str) row) ("/":Str)=true:=(gr _).mpr (by rwa [D,m,GD];rfl)
  have hj:bp (bk b i) (f1 ("/":Str) row)=f1 ("/":Str) row:=by unfold bp;(rwa [if_pos R];rfl)
  (rwa [hj,wb k h2 H (D.trans m) U,(qP d t5).1,j _];rfl)
theorem sV{c:Str}(g:dX c){a b:KA}(f:∀n∈a,cy n)(d:∀n∈b,cY n):
 bD (bk c a) (f1 ("/":Str) b)=bk (aX c b) (cn a.dropLast b):=by
 by_cases h:b=[]
 ·subst h
  have e:=oS g f (row:=[("":Str)]) (λn f=>by rwa [mx.mp f];exact .tail _ (.tail _ (.tail _ (.tail _ (.head _))))) (by simp)
  have j:f1 ("/":Str) []=f1 ("/":Str) [""]:=dr (by(rw [fm];rwa [fm _]);kernel_rfl)
  rwa [j,e];have p0:bZ []=0:=by unfold bZ ck;rfl
  have i:bZ [("":Str)]=0:=by decide+kernel
  unfold aX cn bt;(rw [p0];rwa [i,if_pos rfl,if_pos rfl];rw [Gd];rwa [kW _];rfl)
 ·exact oS g f d h
theorem vZ{f:Str}(l:dX f){a b:KA}(k:∀n∈a,cy n)(g:∀n∈b,cY n):dX (aX f b)∧∀n∈cn a b,cy n:=by
 constructor
 ·unfold aX
  split
  ·exact l
  ·split
   ·exact .inr rfl
   ·exact .inl rfl
 ·have e:∀n∈bt a b,cy n:=by
   unfold bt
   split
   ·exact k
   ·intro n h;simp at h
  unfold cn;generalize bt a b=acc at e
  induction b generalizing acc with
  |nil=>exact e
  |cons c r m=>
   rwa [Gd];refine m (λn h=>g n (iv _ h)) _ ?_;have j:=g c il;have i:∀c∈[("a":Str),"b","it's","..","","."],(c==("..":Str))=true∨bO c ["","."]=true∨c∈[("a":Str),"b","it's"]:=by decide+kernel
   unfold bM;rcases i c j with h|h|h
   ·rwa [if_pos h,dY _];exact λn d=>e n (G9 acc d)
   ·by_cases h2:(c==("..":Str))=true
    ·rwa [if_pos h2,dY _];exact λn d=>e n (G9 acc d)
    ·rwa [if_neg h2,h];exact e
   ·by_cases h2:(c==("..":Str))=true
    ·rwa [if_pos h2,dY _];exact λn d=>e n (G9 acc d)
    ·rwa [if_neg h2]
     split
     ·exact λn d=>(sz.mp d).elim (e n) λd=>by rwa [mx.mp d];exact h
     ·exact e
abbrev aU:=Bool×List Str×Nat
def gS(i:aU):List Nat:=(if i.1 then [117,115,101,32]else [])++(cp (br (f1 ("/":Str) i.2.1))++[if i.2.2=1 then 10 else 32])
def aW(l:List aU):List Nat:=l.flatMap gS
def de(i:aU):Prop:=(∀n∈i.2.1,cY n)∧i.2.2≤1∧i.2.1.length≤1000
theorem lh{a:KA}(h:∀n∈a,cY n):qb (cp (f1 ("/":Str) a)):=by
 have b:∀n∈[("a":Str),"b","it's","..","","."],∀c∈cp n,c∈[97,98,105,116,39,115,46,47]:=by decide+kernel
 show∀c∈(f1 ("/":Str) a).cps.toList,_;rwa [fm _]
 induction a with
 |nil=>intro c hc;simp [jl]at hc
 |cons x r i=>
  have d:=b x (h x il);have f:=i λn g=>h n (iv _ g)
  by_cases e:r=[]
  ·subst e;exact d
  ·rwa [GJ,gF (by simpa using e)]
   intro c hc;rcases sz.mp hc with hc|hc
   ·exact d c hc
   ·rcases q4.mp hc with rfl|hc
    ·decide
    ·exact f c hc
theorem B9(x:Str):S (cp x)=x:=dr rfl
theorem mU:∀{x:GS} {a:KA} {e:Nat} {u:KF} (d:∀n∈a,cY n) (b:x.st= .sp) (c:x.u=cp (br (f1 ("/":Str) a))++(if e=1 then 10 else 32)::u),rdT x=some (.str (f1 ("/":Str) a),{x with u:=u,st:= .sp,ln:=if e=1 then x.ln+1 else x.ln}):=by
 refine' eI4;intro u e a x d b c;have f:=lh d;refine ab (uo f (sep:=if e=1 then 10 else 32) (by split<;>trivial) u x.ln) λq h1 h2=> ?_
 rw [B9]at h1 h2;unfold rdT;rwa [c,b,show ca (cp (br (f1 ("/":Str) a))++(if e=1 then 10 else 32)::u) .sp [] false x.ln=_ from h1];dsimp only;rwa [h2];have:ru x.ln (if e=1 then 10 else 32)=if e=1 then x.ln+1 else x.ln:=by
  unfold ru;split<;>rfl
 (rwa [this];rfl)
theorem tP{x:GS}{u:KF}(a:x.st= .sp)(b:x.u=117::115::101::32::u):rdT x=some (.str "use",{x with u:=u,st:= .sp}):=by
 unfold rdT;rwa [b,a,y4 _ _];dsimp only;(rwa [show eY [117,115,101] false= .str "use" by unfold eY;rw [if_neg (by trivial)];exact congrArg V.str (dr (by rfl'))];rfl)
theorem tR{x:GS}(a:x.st= .sp∨x.st= .none)(b:x.u=[]):rdT x=some (.none,{x with u:=[],st:= .none}):=by
 unfold rdT;rwa [b];rcases a with h|h<;>rwa [h]
 ·rwa [y5 _];rfl
 ·rwa [wn _];rfl
theorem uY{a:KA}(h:∀n∈a,cY n):(f1 ("/":Str) a==("use":Str))=false:=by
 rcases q:(f1 ("/":Str) a==("use":Str))with _|_
 ·rfl
 ·exfalso
  have e:=JT q;have:=lh h 117 (by rwa [e];decide+kernel)
  revert this
  decide
abbrev aL:=Str×List aU×Int
inductive fL(look:Str→Option (List aU))(go:Str→List Str→Str):Nat→List aL→List Str→V→List aL→List Str→Prop
 |word {p:Str} {row:KA} {e:Nat} {rest:List aU} {ln:Int} {low:List aL} {wk:KA}:fL look go 0 ((p,(false,row,e)::rest,ln)::low) wk (.str (f1 ("/":Str) row)) ((p,rest,ln+e)::low) wk
 |fin {p:Str} {ln:Int} {wk:KA}:fL look go 0 [(p,[],ln)] wk .none [(p,[],ln)] wk
 |pop {n:Nat} {p:Str} {ln:Int} {a:aL} {low z:List aL} {wk wz:KA} {r:V}:fL look go n (a::low) wk r z wz→fL look go (n+1) ((p,[],ln)::a::low) wk r z wz
 |use0 {n:Nat} {p:Str} {row:KA} {e:Nat} {rest:List aU} {ln:Int} {low z:List aL} {wk wz:KA} {r:V}:(look (go p row)=none∨bO (go p row) wk=true)→
  fL look go n ((p,rest,ln+e)::low) wk r z wz→fL look go (n+1) ((p,(true,row,e)::rest,ln)::low) wk r z wz
 |use1 {n:Nat} {p:Str} {row:KA} {e:Nat} {rest its:List aU} {ln:Int} {low z:List aL} {wk wz:KA} {r:V}:look (go p row)=some its→bO (go p row) wk=false→
  fL look go n ((go p row,its,1)::(p,rest,ln+e)::low) (wk++[go p row]) r z wz→fL look go (n+1) ((p,(true,row,e)::rest,ln)::low) wk r z wz
def sN(c:List aL):List (Str×Int×Str×List Nat)→Prop:=c.rec (motive:=λb=>List (Str×Int×Str×List Nat)→Prop) (λa=>a.casesOn (motive:=λb=>Prop) True λb b=>False) λl b f a=>a.casesOn (motive:=λb=>Prop) False λe a=>e.1=l.1∧e.2.1=l.2.2∧e.2.2.2=aW l.2.1∧BOk e.2.2.1 e.2.2.2∧f a
structure gi(pile:List aL)(wk:KA)(x:GS):Prop where
 top:∃p rest ln low,pile=(p,rest,ln)::low∧x.inf=p∧x.ln=ln∧x.u=aW rest∧sN low x.stk∧(x.st= .sp∨(x.st= .none∧rest=[]∧low=[]))
 gs:x.gs=wk
theorem ni{e:Nat}(h:e≤1)(a:Int):(if e=1 then a+1 else a)=a+(e:Nat):=by
 rcases Nat.le_one_iff_eq_zero_or_eq_one.mp h with rfl|rfl<;>simp
def Cb(c:Str→Prop)(a:List aL):Prop:=∀b∈a,c b.1∧∀i∈b.2.1,de i
structure kQ(look:Str→Option (List aU))(go:Str→List Str→Str)(tf:KL)(HP:Str→Str→List Str→Prop)(Pl:Str→Prop):Prop where
 go_:∀p row,Pl p→(∀n∈row,cY n)→bD p (f1 ("/":Str) row)=go p row∧(look (go p row)≠none→Pl (go p row))
 no:∀p,look p=none→lk p tf=none
 yes:∀p its,look p=some its→lk p tf=some (.str (S (aW its)))∧BOk (S (aW its)) (aW its)∧∀i∈its,de i
 hp:∀p row gs,Pl p→(∀n∈row,cY n)→row.length≤1000→gs.length≤1000→HP p (f1 ("/":Str) row) gs
theorem mZ{b:List aL}:∀{a:List (Str×Int×Str×List Nat)},sN b a→a.length=b.length:=by
 induction b with
 |nil=>exact λ{a}=>a.casesOn (λc=>rfl) λc c h=>h.elim
 |cons l b d=>exact λ{a}=>a.casesOn (λh=>h.elim) λe a h=>congrArg (· +1) (d h.2.2.2.2)
theorem qw{b:KA}{e:Nat}{a:List aU}:aW ((false,b,e)::a)=cp (br (f1 ("/":Str) b))++(if e=1 then 10 else 32)::aW a:=by
 unfold aW;rwa [List.flatMap_cons];show([]++(_++[_]))++_=_;(rw [J7];rwa [oq _ _ _]);rfl
theorem lT{b:KA}{e:Nat}{a:List aU}:aW ((true,b,e)::a)=117::115::101::32::(cp (br (f1 ("/":Str) b))++(if e=1 then 10 else 32)::aW a):=by
 unfold aW;rwa [List.flatMap_cons];show([117,115,101,32]++(_++[_]))++_=_;rwa [oq _ _ _,oq _ _ _];rfl
theorem ya:∀{o:Str→Option (List aU)} {K:Str→List Str→Str} {W:KL} {U:Str→Str→List Str→Prop} {Pl:Str→Prop} {n:Nat} {k z:List aL} {m y:KA} {r:V} (F:kQ o K W U Pl) (h:fL o K n k m r z y),∀x,gi k m x→BOk x.b x.u→Cb Pl k→k.length+n≤1000→m.length+n≤1000→∃zx,el U (dE W) n x r zx∧gi z y zx∧Cb Pl z∧BOk zx.b zx.u:=by
 refine' eI11;intro r y m z k n Pl U W K o F h;have s:∀{b:Str} {u v:KF},BOk b u→v <:+u→BOk b v:=λA N=>⟨N.trans A.1,λc hc=>A.2.1 c (N.subset hc),A.2.2⟩
 induction h with
 |@word p f e d t g m=>
  revert p f e d t g m;refine' eI7;intro m g t d e f p;intro x I A w B J;obtain⟨⟨_,_,_,_,ep,h1,h2,h3,h4,h5⟩,h6⟩:=I;cases ep;refine ai (w _ il) λH L=> ?_;refine ax (L _ il) λG Z lo=> ?_;have st:x.st= .sp:=h5.elim id λh=>by cases h.2.1
  have rd:=mU G st (h3.trans qw);refine(iz _ (.word rd (uY G)) ⟨⟨p,d,_,g,rfl,h1, ?_,rfl,h4, .inl rfl⟩,h6⟩ (λR hlv=> ?_) (s A ⟨_,(by(rwa [h3,qw,←IV (l:=aW d),←oq _ _ _];rfl))⟩))
  ·show(if e=1 then x.ln+1 else x.ln)=_
   (rwa [ni Z _,h2];rfl)
  ·rcases q4.mp hlv with rfl|hlv
   ·exact(an H (λi T=>L i (iv _ T)))
   ·exact w R (iv _ hlv)
 |@fin p t m=>
  intro x I A w B J;obtain⟨⟨_,_,_,_,ep,h1,h2,h3,h4,h5⟩,h6⟩:=I;cases ep;have rd:=tR (h5.imp id (·.1)) h3;have N:x.stk=[]:=HR (mZ h4);exact(iz _ (.fin rd N) ⟨⟨p,[],t,[],rfl,h1,h2,rfl,h4, .inr ⟨rfl,rfl,rfl⟩⟩,h6⟩ w (s A ⟨x.u,by(rwa [HL _];rfl)⟩))
 |@pop n p t a g z m y r h E=>
  revert h E;revert n p t a g z m y r;refine' eI9;intro r y m z g a t p n h E;intro x I A w B J;obtain⟨⟨_,_,_,_,ep,h1,h2,h3,h4,h5⟩,h6⟩:=I;cases ep;have rd:=tR (h5.imp id (·.1)) h3;obtain⟨pa,ra,la⟩:=a;rcases N:x.stk with _|⟨⟨i,l,b,u⟩,stk⟩
  ·rw [N]at h4;exact h4.elim
  rw [N]at h4;(refine fK h4 ?_;clear h4;intro g1 g2 g3 g4 g5);obtain rfl:i=pa:=g1;obtain rfl:l=la:=g2;obtain rfl:u=aW ra:=g3;refine ab (E ⟨b,aW ra,i, .sp,l,stk,x.gs⟩ ⟨(iw i ra l g rfl rfl rfl rfl g5 (.inl rfl)),h6⟩ g4 (λR hlv=>w R (iv _ hlv)) (by simp at B⊢;exact Lle [_,_] [Q0 (.a (.a (.a V0 Z0) Z0) (.a V1 Z0)) Z1] 0 (.a (.a V0 Z0) V1) Z1 rfl B) (by exact Lle [_,_] [Q0 (.a V0 (.a V1 Z0)) Z1] 0 (.a V0 V1) Z1 rfl J)) λzx q1 q2=> ?_
  exact(ah zx (.pop rd N q1) q2)
 |@use0 n p f e d t g z m y r hno h E=>
  revert hno h E;revert n p f e d t g z m y r;refine' eI11;intro r y m z g t d e f p n hno h E;intro x I A w B J;obtain⟨⟨_,_,_,_,ep,h1,h2,h3,h4,h5⟩,h6⟩:=I;cases ep;refine ai (w _ il) λH L=> ?_;refine ax (L _ il) λG Z lo=> ?_;have st:x.st= .sp:=h5.elim id λh=>by cases h.2.1
  have P:=tP st (h3.trans lT);have O:=mU (x:={x with u:=cp (br (f1 ("/":Str) f))++(if e=1 then 10 else 32)::aW d,st:= .sp}) G rfl rfl
  refine ai (F.go_ p f H G) λgp zz=> ?_;have hk:dE W x.inf (f1 ("/":Str) f) x.gs=(.none,x.gs):=by
   unfold dE;rwa [h1,gp,h6];rcases hno with hno|hno
   ·(rwa [F.no _ hno];rfl)
   ·rcases q:o (K p f)with _|its
    ·(rwa [F.no _ q];rfl)
    ·rwa [(F.yes _ _ q).1];dsimp only;rwa [hno];rfl
  have C:aW d <:+x.u:=⟨[117,115,101,32]++cp (br (f1 ("/":Str) f))++[if e=1 then 10 else 32],by rwa [h3,lT];simp⟩
  refine ab (E {x with u:=aW d,st:= .sp,ln:=if e=1 then x.ln+1 else x.ln,gs:=x.gs} ⟨(iw p d _ g rfl h1 (by rwa [←h2];exact ni Z x.ln) rfl h4 (.inl rfl)),h6⟩ (s A C)
   (λR hlv=>(q4.mp hlv).elim (λe=>by subst e;exact(an H (λi T=>L i (iv _ T)))) λhlv=>w R (iv _ hlv)) (by simp at B⊢;exact Lle [_,_] [Q0 (.a (.a V0 Z0) (.a V1 Z0)) Z1] 0 (.a (.a V0 Z0) V1) Z1 rfl B) (by exact Lle [_,_] [Q0 (.a V0 (.a V1 Z0)) Z1] 0 (.a V0 V1) Z1 rfl J)) λzx q1 q2=> ?_
  exact(ah zx (.use0 P O (by show U x.inf _ x.gs;rwa [h1];exact F.hp p f x.gs H G lo (by rwa [h6];exact Lle [_,_] [Q0 (.a V1 (.a V0 Z0)) Z1] 0 V1 Z1 rfl J)) hk q1) q2)
 |@use1 n p f e d its t g z m y r j D h E=>
  revert j D h E;revert n p f e d its t g z m y r;refine' eI12;intro r y m z g t its d e f p n j D h E;intro x I A w B J;obtain⟨⟨_,_,_,_,ep,h1,h2,h3,h4,h5⟩,h6⟩:=I;cases ep;refine ai (w _ il) λH L=> ?_;refine ax (L _ il) λG Z lo=> ?_;have st:x.st= .sp:=h5.elim id λh=>by cases h.2.1
  have P:=tP st (h3.trans lT);have O:=mU (x:={x with u:=cp (br (f1 ("/":Str) f))++(if e=1 then 10 else 32)::aW d,st:= .sp}) G rfl rfl
  refine ai (F.go_ p f H G) λgp a0=> ?_;refine ax (F.yes _ _ j) λy1 y2 y3=> ?_;have hk:dE W x.inf (f1 ("/":Str) f) x.gs=(.ftup [.str (K p f), .str (S (aW its))],x.gs++[K p f]):=by
   unfold dE;rwa [h1,gp,h6,y1];dsimp only;rwa [D];rfl
  have C:aW d <:+x.u:=⟨[117,115,101,32]++cp (br (f1 ("/":Str) f))++[if e=1 then 10 else 32],by rwa [h3,lT];simp⟩
  have Y:=mZ h4;refine ab (E ⟨S (aW its),aW its,K p f, .sp,1,(x.inf,(if e=1 then x.ln+1 else x.ln),x.b,aW d)::x.stk,x.gs++[K p f]⟩
   ⟨(iw (K p f) its 1 _ rfl rfl rfl rfl ⟨h1,by(rwa [ni Z _,h2];rfl),rfl,s A C,h4⟩ (.inl rfl)),by(rwa [h6];rfl)⟩ y2
   (λR hlv=>(q4.mp hlv).elim (λe=>by subst e;exact(an (a0 (by rwa [j];simp)) y3)) λhlv=>(q4.mp hlv).elim (λe=>by subst e;exact(an H (λi T=>L i (iv _ T)))) λhlv=>w R (iv _ hlv)) (by simp at B⊢;exact Lle [_,_] [Q0 (.a (.a V0 Z0) (.a V1 Z0)) Z1] 0 (.a (.a (.a V0 Z0) Z0) V1) Z1 rfl B) (by rwa [is];simp;exact Lle [_,_] [Q0 (.a V0 (.a V1 Z0)) Z1] 0 (.a (.a V0 Z0) V1) Z1 rfl J)) λzx q1 q2=> ?_
  exact(ah zx (.use1 P O (by show U x.inf _ x.gs;rwa [h1];exact F.hp p f x.gs H G lo (by rwa [h6];exact Lle [_,_] [Q0 (.a V1 (.a V0 Z0)) Z1] 0 V1 Z1 rfl J)) hk y2 (by show x.stk.length+1≤1000;rwa [Y];simp at B;exact Lle [_,_] [Q0 (.a (.a V0 Z0) (.a V1 Z0)) Z1] 0 (.a V0 Z0) Z1 rfl B) q1) q2)
noncomputable def cF(L:KA):Nat:=(L.map (·.length)).sum
theorem ux{L:KA}:L≠[]→(jl (L.map cp)).length+1=cF L+L.length:=by
 induction L with
 |nil=>exact λh=>absurd rfl h
 |cons x r b=>
  induction r using kv with
  |nil=>intro _;show(cp x).length+1=x.length+0+1;rwa [dc _];rfl
  |cons y r=>
   intro _;have b:=b (Hq _ _);show(cp x++47::jl ((y::r).map cp)).length+1=x.length+cF (y::r)+((y::r).length+1);rwa [is,ix,dc _];exact Leq [_,_,_,_] [.h 4 1 1 (.a V0 Z0) (.a V1 V2)] 0 (.a (.a V3 (.a V0 Z0)) Z0) (.a (.a V3 V1) (.a V2 Z0)) rfl b
theorem f3(L:KA):(f1 ("/":Str) L).length≤cF L+L.length:=by
 rwa [←dc _];show(f1 ("/":Str) L).cps.toList.length≤_;rwa [fm _]
 by_cases h:L=[]
 ·subst h;exact fx _
 ·have:=ux h;exact Lle [_,_,_] [Q1 (.a V0 Z0) (.a V1 V2)] 0 V0 (.a V1 V2) rfl this
theorem iE{m:Nat}:∀{L:KA},(∀x∈L,x.length≤m)→cF L≤m*L.length:=by
 intro c
 induction c with
 |nil=>
  intro _;exact so _
 |cons x r b=>
  intro h;have h1:=h x il;have h2:=b λy d=>h y (iv _ d);show x.length+cF r≤m*(r.length+1);rwa [Nat.mul_succ _ _];exact Lle [_,_,_,_] [Q0 V0 V1,Q0 V2 V3] 0 (.a V0 V2) (.a V3 V1) rfl h1 h2
theorem kt{n:Str}(h:cY n):n.length≤4:=by
 have:∀n∈[("a":Str),"b","it's","..","","."],n.length≤4:=by decide+kernel
 exact this n h
theorem py{n:Str}(h:cy n):n.length≤4:=by
 have:∀n∈[("a":Str),"b","it's"],n.length≤4:=by decide+kernel
 exact this n h
theorem je{d:Str}(g:dX d){b:KA}(e:∀n∈b,cy n):(bk d b).length≤2+5*b.length∧1≤(bk d b).length:=by
 have h1:1≤d.length∧d.length≤2:=by rcases g with rfl|rfl<;>decide+kernel
 have h2:=f3 b;have h3:=iE (m:=4) λx f=>py (e x f);rwa [z1 _ _];exact⟨Lle [_,_,_,_] [Q0 V0 Z4,Q0 V1 (.a V2 V3),Q0 V2 (.m 4 V3)] 0 (.a V0 V1) (.a Z4 (.m 5 V3)) rfl h1.2 h2 h3,Lle [_,_] [Q0 Z0 V0] 0 Z0 (.a V0 V1) rfl h1.1⟩
theorem te(x:Str):cF (ID x ("/":Str))+(ID x ("/":Str)).length=x.length+1:=by
 rwa [←ux (k9 x),←dc _]
 congr 2
 have:=Jn x ("/":Str);rwa [←fm _];show(glued _ _).cps.toList=_;rwa [JV _ _,this];rfl
theorem kS(a b:KA):cF (a++b)=cF a+cF b:=by unfold cF;(rwa [Hv,List.sum_append];rfl)
theorem ud:∀(d:KA) (c:Str),cF (bo d c)≤cF d+c.length:=by
 refine' eI2;intro c d;have f:cF (d++[c])=cF d+c.length:=by rwa [kS _ _];rfl
 have e:cF d.dropLast≤cF d:=by
  rcases IW d with rfl|⟨l,b,rfl⟩
  ·exact fx _
  ·rwa [IX,J6,kS _ _];exact Lle [_,_] [] 0 V0 (.a V0 V1) rfl
 unfold bo
 repeat' split
 all_goals first|exact og _ _|exact Ha f|exact h9 e (og _ _)
theorem wa:∀(L b:KA),cF (L.foldl bo b)≤cF b+cF L:=by
 intro e
 induction e with
 |nil=>
  intro _;exact fx _
 |cons c r d=>
  intro b;have h1:=ud b c;have h2:=d (bo b c);rwa [Gd];have:cF (c::r)=c.length+cF r:=rfl;exact Lle [_,_,_,_,_,_] [Q0 V0 (.a V1 V2),Q0 V3 (.a V0 V4),Q2 V5 (.a V2 V4)] 0 V3 (.a V1 V5) rfl h1 h2 this
theorem yS{y:Str}{L:KA}:y∈L→y.length≤cF L:=by
 induction L with
 |nil=>exact λh=>absurd h HB
 |cons q r a=>exact λh=>(q4.mp h).elim (λe=>e▸og _ _) λh=>h9 (a h) (Gz _ _)
theorem DJ:∀{f:Str} {b i:KA} {F:KA} (z:dX f) (D:∀n∈b,cy n) (t:∀n∈i,cY n) (h1:b.length≤100) (h2:i.length≤1000) (h3:F.length≤1000),HP0 (bk f b) (f1 ("/":Str) i) F:=by
 refine' eI4;intro F i b f z D t h1 h2 h3;have K:=lH z D;have L:∀n∈b.dropLast,cy n:=λn h=>D n (G9 b h);have Y:=je z D;have O:=je z L;have Z:b.dropLast.length≤b.length:=by rwa [I3];exact(J5 _ _)
 have W:=f3 i;have w2:=iE (m:=4) λx u=>kt (t x u);have B:(f1 ("/":Str) i).length≤5000:=by exact Lle [_,_,_] [Q3 V0 Z1,Q0 V1 (.a V2 V0),Q0 V2 (.m 4 V0)] 0 V1 Z20 rfl h2 W w2
 have j:(aN (bk f b)).length≤502∧1≤(aN (bk f b)).length:=by rwa [K];exact⟨Lle [_,_,_] [Q3 V0 Z10,Q0 V1 (.a Z4 (.m 5 V2)),Q3 V2 V0] 0 V1 (.c 502) rfl h1 O.1 Z,O.2⟩
 have R:(cp (aN (bk f b)))[0]? =some 47:=by
  refine ab (mT z) λp T er=> ?_;rwa [K,ky _ _,er];rcases T with rfl|rfl<;>rfl
 clear K;generalize A:aN (bk f b)=d at*;generalize U:f1 ("/":Str) i=w at*;have s1:("/":Str).length=1:=by decide+kernel
 have u:(bp d w).length≤6000∧1≤(bp d w).length:=by
  unfold bp;rwa [if_pos (c:=((d.length:Int) !=0)=true) (bne_iff_ne.mpr (jS j.2))]
  split
  ·rename_i q
   refine⟨by exact Lle [_] [Q0 V0 Z20] 0 V0 Z19 rfl B, ?_⟩
   have:=(gr w).mp q;have:=(hX.mp this).1;rw [dc]at this;exact Lle [_] [Q0 (.a Z3 Z0) V0] 0 Z0 V0 rfl this
  ·split
   ·rwa [z1 _ _];exact⟨Lle [_,_] [Q0 V0 (.c 502),Q0 V1 Z20] 0 (.a V0 V1) Z19 rfl j.1 B,Lle [_,_] [Q0 Z0 V0] 0 Z0 (.a V0 V1) rfl j.2⟩
   ·rwa [z1 _ _,z1 _ _];exact⟨Lle [_,_] [Q0 V0 (.c 502),Q0 V1 Z20] 0 (.a V0 (.a Z0 V1)) Z19 rfl j.1 B,Lle [_,_] [] 0 Z0 (.a V0 (.a Z0 V1)) rfl⟩
 have l:(cp (bp d w))[0]? =some 47:=by
  have N:∀y:Str,(cp (d++y))[0]? =some 47:=λy=>by
   show((d++y).cps.toList)[0]? =_;rwa [Gy _ _,wh];exact(i1 (hX.mp R).1).trans R
  unfold bp;rwa [if_pos (c:=((d.length:Int) !=0)=true) (bne_iff_ne.mpr (jS j.2))]
  split
  ·rename_i q;exact(gr w).mp q
  ·split
   ·exact N _
   ·exact N _
 generalize J:bp d w=x at*;have P:srA x=false:=by
  rwa [lX _];rcases e:x.cps.toList with _|⟨c,r⟩
  ·rw [show cp x=[]from e]at l;exact noS l
  ·rw [show cp x=c::r from e]at l;obtain rfl:=ds l;rfl
 have k:1≤(aZ x).length∧(aZ x).length≤2:=by
  unfold aZ;rwa [P,if_neg Gp]
  split
  ·rwa [s1];exact⟨Lle [] [] 0 Z0 Z0 rfl,Lle [] [] 0 Z0 Z4 rfl⟩
  ·rwa [←dc _,show cp (i0 x none (some 2))=x.cps.toList.take 2 from i7 x 2,p7,show x.cps.toList.length=x.length from dc x];exact⟨Nat.le_min.mpr ⟨by decide,u.2⟩,GY _ _⟩
 have g:(bd x).length≤6000:=by
  unfold bd;rwa [P,if_neg Gp]
  split
  ·exact h9 (Txt.slice_le ..) u.1
  ·exact h9 (Txt.slice_le ..) u.1
 have I:=te (bd x);have H:=wa (ba x) [];have E:=pO (ba x) [];have C:cF (ba x)+(ba x).length=(bd x).length+1:=I;have G:=f3 (dh x);have e0:cF ([]:KA)=0:=rfl;have s:cF (dh x)≤6001:=by show cF ((ba x).foldl bo [])≤_;exact Lle [_,_,_,_] [Q0 V0 Z19,Q0 V1 (.a Z3 V2),Q1 (.a V2 V3) (.a V0 Z0)] 0 V1 (.c 6001) rfl g H C
 have o:(dh x).length≤6001:=by
  show((ba x).foldl bo []).length≤_;have:([]:KA).length=0:=rfl;exact Lle [_,_,_,_] [Q0 V0 Z19,Q0 V1 (.a Z3 V2),Q1 (.a V3 V2) (.a V0 Z0)] 0 V1 (.c 6001) rfl g E C
 refine⟨by exact Lle [_,_] [Q3 V0 Z10,Q0 V1 (.a Z4 (.m 5 V0))] 0 V1 Z2 rfl h1 Y.1,by rwa [A];exact Lle [_] [Q0 V0 (.c 502)] 0 V0 Z2 rfl j.1,by exact Lle [_] [Q0 V0 Z20] 0 V0 Z2 rfl B,by exact Lle [_] [Q0 V0 Z1] 0 V0 (.c 16777216) rfl h3, ?_⟩
 rwa [A,J];refine⟨by exact Lle [_] [Q0 V0 Z19] 0 V0 Z2 rfl u.1,bne_iff_ne.mpr ?_, ?_,by exact Lle [_] [Q0 V0 Z4] 0 V0 Z2 rfl k.2,by exact Lle [_] [Q0 V0 Z19] 0 V0 Z2 rfl g,by exact Lle [_,_,_] [Q0 V0 Z19,Q1 (.a V1 V2) (.a V0 Z0)] 0 V2 Z2 rfl g C,k9 _,λy hy=> ?_, ?_,by exact Lle [_,_,_] [Q0 V0 (.a V1 V2),Q0 V1 (.c 6001),Q0 V2 (.c 6001)] 0 V0 Z2 rfl G s o,KP⟩
 ·exact jS u.2
 ·exact jS k.1
 ·have:=yS hy;exact Lle [_,_,_,_] [Q0 V0 Z19,Q1 (.a V1 V2) (.a V0 Z0),Q0 V3 V1] 0 V3 Z2 rfl g C this
 ·show cF (dh x)+(dh x).length*64≤1000000;exact Lle [_,_] [Q0 V0 (.c 6001), .h 0 64 0 V1 (.c 6001)] 0 (.a V0 (.w V1 64)) Z2 rfl s o
theorem wI(m:Nat):dX (jr m):=by
 unfold jr
 split
 ·exact .inr rfl
 ·exact .inl rfl
theorem zw(x:Nat):cy (eQ x):=by
 match x with
 |0=>exact .head _
 |1=>exact .tail _ (.head _)
 |x+2=>exact .tail _ (.tail _ (.head _))
theorem wJ(m:Nat):∀n∈gz m,cy n:=λn b=>by
 unfold gz at b;(refine ab (Hr.mp b) λx c a=> ?_;subst a);exact zw x
theorem wR(x:Nat):cY (cW x):=by
 have:∀y∈[cW 0,cW 1,cW 2,cW 3,cW 4,cW 5,cW 6,cW 7,cW 8,cW 9],y∈[("a":Str),"b","it's","..","","."]:=by decide+kernel
 match x with
 |0=>exact this _ (.head _)
 |1=>exact this _ (.tail _ (.head _))
 |2=>exact this _ (.tail _ (.tail _ (.head _)))
 |3=>exact this _ (.tail _ (.tail _ (.tail _ (.head _))))
 |4=>exact this _ (.tail _ (.tail _ (.tail _ (.tail _ (.head _)))))
 |5=>exact this _ (.tail _ (.tail _ (.tail _ (.tail _ (.tail _ (.head _))))))
 |6=>exact this _ (.tail _ (.tail _ (.tail _ (.tail _ (.tail _ (.tail _ (.head _)))))))
 |7=>exact this _ (.tail _ (.tail _ (.tail _ (.tail _ (.tail _ (.tail _ (.tail _ (.head _))))))))
 |8=>exact this _ (.tail _ (.tail _ (.tail _ (.tail _ (.tail _ (.tail _ (.tail _ (.tail _ (.head _)))))))))
 |x+9=>exact this _ (.tail _ (.tail _ (.tail _ (.tail _ (.tail _ (.tail _ (.tail _ (.tail _ (.tail _ (.head _))))))))))
theorem r9:∀(b:KF) (a:List aU×List Str) (n:Nat),n+b.length≤1000→(∀i∈a.1,de i)→(∀y∈a.2,cY y)→a.2.length≤n→
 (∀i∈(b.foldl bG a).1,de i)∧(∀y∈(b.foldl bG a).2,cY y)∧(b.foldl bG a).2.length≤1000:=by
 intro j
 induction j with
 |nil=>
  intro a n e h1 h2 h3;exact(cB h1 h2 (by simp at e;show a.2.length≤1000;exact Lle [_,_] [Q0 V0 Z1,Q0 V1 V0] 0 V1 Z1 rfl e h3))
 |cons d b f=>
  intro a n e h1 h2 h3;rwa [Gd];have g:n+1+b.length≤1000:=by rw [ix]at e;exact Lle [_,_] [Q0 (.a V0 (.a V1 Z0)) Z1] 0 (.a (.a V0 Z0) V1) Z1 rfl e
  refine f _ (n+1) g ?_ ?_ ?_
  ·unfold bG
   split
   ·exact h1
   ·intro i hi
    rcases sz.mp hi with hi|hi
    ·exact h1 i hi
    ·rwa [mx.mp hi]
     exact⟨h2,by show d % 2≤1;grind,by show a.2.length≤1000;exact Lle [_,_,_] [Q0 (.a V0 V1) Z1,Q0 V2 V0] 0 V2 Z1 rfl e h3⟩
  ·unfold bG
   split
   ·intro y hy
    rcases sz.mp hy with hy|hy
    ·exact h2 y hy
    ·rwa [mx.mp hy];exact wR d
   ·intro y hy;simp at hy
  ·unfold bG
   split
   ·show(a.2++[_]).length≤n+1;rwa [is];simp;exact h3
   ·exact so _
theorem wm:∀(m b:Nat) (h:b≤1000),∀i∈bH m b,de i:=by
 refine' eI2;intro b m h;have d:(aO m b).length≤1000:=by unfold aO;rwa [p7];exact Lle [_,_] [Q0 V0 Z1,Q0 V1 V0] 0 V1 Z1 rfl h (GY _ _)
 refine ax (r9 (aO m b) ([],[]) 0 (by exact Lle [_] [Q0 V0 Z1] 0 (.a Z3 V0) Z1 rfl d) (λi hi=>by simp at hi) (λy e=>by simp at e) (fx _)) λh1 h2 h3=> ?_
 unfold bH ji
 split
 ·exact h1
 ·intro i hi
  rcases sz.mp hi with hi|hi
  ·exact h1 i hi
  ·rwa [mx.mp hi];exact⟨h2,fx 1,h3⟩
end Mine
end
namespace Mine
abbrev Rel:=aA→List cv→Prop
def dk(n:Nat)(R:Rel):Prop:=∀F b c a,Le F b→eF n c a→R F c→R b a
noncomputable def RT0:Rel:=λa a=>True
theorem rT{n:Nat}:dk n RT0:=λa a a a a a a=>trivial
noncomputable def RAt(n:Nat)(a:cv)(R:Rel):Rel:=λF b=>b[n]? =some a∧R F b
theorem dk.at{n m:Nat}{a:cv}{R:Rel}(h:dk m R)(d:n < m):dk m (RAt n a R):=λF e f c L P b=>ai b λh1 h2=>⟨P _ _ d h1,h F e f c L P h2⟩
inductive At(c:Cx)(k:Cfg)(R:Rel)(mu:KM)(s:dd):Prop
 |mk (ρ:KB) (H:ac c k ρ mu s) (r:R (aa c.d ρ mu s.heap) ρ)
section
variable{c:Cx}{k a:Cfg}{R:Rel}{m:Nat}{d b:KM}{s:dd}{vc:KG}{Q:Hj→dd→Prop}
theorem At.of{h f:KB}{g:dd}(H:ac c a f b g)(h1:a.fi=k.fi)(h2:a.cells=k.cells)(X:Ext h d s f b g)(j:dk m R)(p:R (aa c.d h d s.heap) h):At c k R b g:=
 ⟨f,H.cfg h1.symm h2.symm,j _ _ _ _ X.froz (λi e l=>X.pre i e) p⟩
theorem iW(G:aG c a)(h1:a.fi=k.fi)(h2:a.cells=k.cells)(j:dk m R){pre f:List k0}(H:At c k R d s)(e:am (fns a 40) pre d= .ok vc .next b)(i:aw vc)
 (K:∀g,At c k R b g→eo c.M c.A (un f c.env) Q NoE g):eo c.M c.A (un (pre++f) c.env) Q NoE s:=
 let⟨_,H,p⟩:=H
 dR G 40 (H.cfg h1 h2) e i λl g h X=>K g (At.of h h1 h2 X j p)
theorem ka(G:aG c a)(h1:a.fi=k.fi)(h2:a.cells=k.cells)(q:dk m R){j:List k0}{i:Fl}(H:At c k R d s)(e:am (fns a 40) j d= .ok vc i b)(o:aw vc)
 (K:∀g h f,FlR i (aa c.d f b h.heap) f g→At c k R b h→Q g h):eo c.M c.A (un j c.env) Q NoE s:=
 let⟨_,H,p⟩:=H
 ex (dp G 40 (H.cfg h1 h2) e o) (λg h ⟨f,l,X,r⟩=>K g h f r (At.of l h1 h2 X q p)) λn n z=>z
def iC(e:KL):List (Str×V)→Prop
 |[]=>True
 |(x,v)::r=>lk x e=some v∧iC e r
theorem iC.get{l:KL}{x:Str}{v:V}:∀{j:KL},iC l j→lk x j=some v→lk x l=some v:=by
 intro i
 induction i with
 |nil=>
  intro _ h;exact noS h
 |cons g r f=>
  obtain⟨y,w⟩:=g;intro h e;unfold lk at e;cases q:af x y with
  |true=>rw [q]at e;obtain rfl:=(ds e).symm;rwa [aB.mp q];exact h.1
  |false=>rw [q]at e;exact f h.2 e
inductive nA(n:Nat):AO→AO→Prop
 |same {o:AO}:AO.closed n o=true→nA n o o
 |frame {fs gs:KL}:iC fs gs→aC n gs=true→nA n (.frame fs) (.frame gs)
def lN(n:Nat)(m m2:KM):Prop:=m2.rec (motive:=λe=>List AO→Prop) (λe=>True) (λg e f m=>m.casesOn (motive:=λe=>Prop) False λo m=>nA n o g∧f m) m
theorem lN.get{n:Nat}{m2:KM}:∀{m:KM},lN n m m2→∀(i:Nat) (f:AO),m2[i]? =some f→∃o:AO,m[i]? =some o∧nA n o f:=by
 induction m2 with
 |nil=>exact λl i f e=>noS e
 |cons p j g=>exact λ{m}=>m.casesOn (λh=>h.elim) λo r h i=>i.casesOn (λf e=>⟨o,rfl,ds e▸h.1⟩) λi f e=>g h.2 i f e
theorem nA.tells{p:A8}{w:Gv}{n:Nat}{o r:AO}(L:nA n o r){i f:KB}{h h2:Gm}{e:cv}(P:eF n i f):aE p w i h o f h2 r e:=by
 cases L with
 |same j=>exact aE.cut j P
 |@frame fs gs sf j=>
  refine⟨λA=>rfl,λF B u t l=> ?_⟩;(refine ab l ?_;clear l;intro m z y);have g:AOk p w F i h e (.frame gs):=⟨m,z,λx=>by
   cases q:lk x gs with
   |none=>trivial
   |some v=>have:=y x;rw [sf.get q]at this;exact this⟩
  exact AOk.cut u P t _ j g
theorem lN.len{n:Nat}{m2:KM}:∀{m:KM},lN n m m2→m2.length≤m.length:=by
 induction m2 with
 |nil=>exact λg=>so _
 |cons p f e=>exact λ{m}=>m.casesOn (λh=>h.elim) λo r h=>GB (e h.2)
theorem At.low{mu2:KM}(H:At c k R d s)(v:c.d.ρ₀=[])(L:lN mu2.length d mu2)(r:k.fi < mu2.length)(u:∀x j,lkC x k.cells=some j→j < mu2.length)(E:dk mu2.length R):At c k R mu2 s:=by
 obtain⟨n,H,A⟩:=H;have w:=L.len;have l:∀i,i < mu2.length→(n.take mu2.length)[i]? =n[i]? :=λi g=>by(rwa [FD,if_pos g];rfl)
 have p:(n.take mu2.length).length=mu2.length:=by rwa [p7,H.rep.len];exact(GW (w))
 refine ax (H.rep.part (ρ':=n.take mu2.length) (mu':=mu2) p (H.rep.nodup.sublist (List.take_sublist _ _)) (by rwa [v];exact λi f h=>by trivial) λi f B h1 h2=>by
  refine ab (L.get i B h2) λo t q=> ?_;have g:=(hX.mp h2).1;rw [l i g]at h1;exact⟨i,o,h1,t,q.tells λj e C z=>(l j C).trans z⟩) λD y F=> ?_
 exact⟨_,⟨D,H.tk,(l _ r).trans H.fr,λx j h=>let⟨f,t,q⟩:=H.cl x j h;(ah f t ((l j (u x j h)).trans q))⟩,E _ _ _ _ y (λi f g h=>(l i g).trans h) A⟩
theorem uS(C:cZ c k){q:Expr×Expr×List k0×nR}{v:V}{tup:Bool}{xs:KN}(B:fB v=some (tup,xs))(o:cT q.2.1=false)(y:bT q.1=false∨tup=false)
 (st:Nat→List AO)(n:Nat)(t:∀i,(st i).length=n)
 (p:eo c.M c.A (Gu q.2.1 c.env) (λu s1=>∃w,ac c k w (st 0) s1∧R (aa c.d w (st 0) s1.heap) w∧Val (aa c.d w (st 0) s1.heap) w v u) NoE s)(F:dk n R)
 (A:∀i x g j u N,xs[i]? =some x→ac c k g (st i++[.iter tup v (i+1)]) j→RAt n N R (aa c.d g (st i++[.iter tup v (i+1)]) j.heap) g→Val (aa c.d g (st i++[.iter tup v (i+1)]) j.heap) g x u→
  eo c.M c.A (I5 q.1 c.env u) (λl s2=>eo c.M c.A (un q.2.2.1 c.env) (λG s3=>(G= .next∨G= .cont)∧At c k (RAt n N R) (st (i+1)++[.iter tup v (i+1)]) s3) NoE s2) NoE j):
 eo c.M c.A (IP (eX q) c.env) (λG j=>G= .next∧At c k R (st xs.length++[.gone]) j) NoE s:=by
 revert C B o y t p F A;revert c k R s q v tup xs st n;refine' eI10;intro n st xs tup v q s R k c C B o y t p F A;refine wpAny_For (ex p (λu s1 h1=> ?_) λl l z=>sq z) (gH o);(refine eh h1 ?_;clear h1;intro w W p1 Z);refine ex (ly W Z B) (λN s2 h2=> ?_) λl l z=>sq z;(refine ax h2 ?_;clear h2;intro O H2 Y;subst O);have T:=uT W s1.heap.objs.size;rw [t 0]at T;generalize hI:s1.heap.objs.size=I at*;refine codeAny_mono (lF (n:=xs.length) (λi j=>At c k (RAt n I R) (st i++[.iter tup v i]) j) (λj=>At c k R (st xs.length++[.gone]) j) ⟨_,H2,T,F _ _ _ _ Y.froz (λi f l=>Y.pre i f) p1⟩
  (P:=λi j r s3=>∃g,RAt n I R (aa c.d g (st i++[.iter tup v i]) j.heap) g∧mM c k q.1 I tup v xs g (st i) j i r s3)
  (λi j K h=> ?_) (λi j s3 K l h3=> ?_) λi j s3 u K l h3=> ?_) λa0 j h=>h
 ·obtain⟨g,H,D⟩:=h
  exact ex (nU C B y (t i) K H D.1) (λr s3 h3=>(ah g D h3)) λl l z=>z
 ·(refine ab h3 ?_;clear h3;intro g D h3)
  cases h3 with
  |done _ e L J=>subst e;exact⟨_,L,F _ _ _ _ J.froz (λl l l h=>h) D.2⟩
 ·(refine ab h3 ?_;clear h3;intro g D h3)
  cases h3 with
  |item _ x _ U hu L J E=>exact(an (jW U) (E _ (A i x _ s3 u I U L ⟨D.1,F _ _ _ _ J.froz (λl l l h=>h) D.2⟩ hu)))
end
def LB:List k0:=cP.1
def bP(c:List (cv×Nat×ay))(a:List (Nat×Bool))(b:List (Nat×V)):Cfg:={fi:=0,names:=cP.2.names,globs:=G0,cells:=[("lexer",1),("texts",2),("given",3)],orc:=a,vor:=b,fns:=c,wns:=[("shlex",732,Ax)],meths:=MS,plain:=PS,props:=PR,sets:=[("sourcehook",732)]}
noncomputable def c3:List AO:=[.cell none, .cell none, .cell none]
noncomputable def fA(b:V)(a:Int):List (Str×V):=[("numbers",b),("homes", .ref 4),("lines", .ref 5),("left", .int a)]
def sa(a m l:Int)(d:Str)(b:KA)(c:KN)(e:Int):List (cv×Nat×ay):=[(873,0,sAt [.int a] [] [] (.ftup [.str d, .fstrs b]) []),(880,0,sAt [.int m, .int l] [] [] (.ftup [.flist c, .int e]) [])]
noncomputable def fD(b:V)(d:cv)(a:Int)(l:KL):AO:= .frame (([("numbers",b),("homes",V.ref 4),("lines", .adr d),("left", .int a)]:KL)++l)
noncomputable def c3t:List AO:=[.cell none, .cell (some (.ref 5)), .cell none]
def fF:Expr×Expr×List k0×nR:=bU LB 4
def j0:Expr×Expr×List k0×nR:=bU fF.2.2.1 1
def whM:Expr×List k0×nR:=dg LB 16
def whI:Expr×List k0×nR:=dg whM.2.1 1
noncomputable def fE(a:V)(l:KL):AO:= .frame (("numbers",a)::("homes", .ref 4)::("lines", .ref 6)::l)
def lxA(a:Str)(b:Bool)(c:V)(l:KL):AO:= .ns (([("instream",V.ref 10),("infile", .str a),("posix", .bool true),("eof", .none),("commenters", .str "#"),("wordchars", .str WC),("whitespace", .str " \t\r\n"),("whitespace_split", .bool b),("quotes", .str "'\""),("escape", .str "\\"),("escapedquotes", .str "\""),("state", .str " "),("pushback", .ref 12),("lineno", .int 1),("debug", .int 0),("token", .str ""),("filestack", .ref 13),("source",c),("_punctuation_chars", .str "")]:KL)++l)
def cJ(c:List (cv×Nat×ay))(a:List (Nat×Bool))(b:List (Nat×V)):Cfg:={fi:=11,names:=cP.2.names,globs:=G0,cells:=[("lexer",6),("texts",7),("given",8)],orc:=a,vor:=b,fns:=c,meths:=MS,plain:=PS,props:=PR}
noncomputable def fM(e:Int)(l:KL):AO:= .frame (("homes", .ref 12)::("lines", .ref 13)::("walked", .ref 14)::("pile", .ref 15)::("ends", .int e)::l)
noncomputable def LM(i:KM)(c:AO)(h d:KL)(e:KA)(b:KN)(p:Str)(f:Int)(a:KN)(g:KM):List AO:=i++c:: .dict h:: .dict d:: .strs e:: .list (b++[.ref 16]):: .list [.str p, .ref 17, .int f]:: .list a::g
noncomputable def jf(b:Str)(a:KA):List Prop:=[1≤64,(IE (λ(x:Str)=>x.length) a).sum+a.length*64≤16777216,b.length+(f1 ("/":Str) a).length≤16777216]
def atC(X:KN)(a:KN)(r:V):List Prop:=[V.closedL 0 X=true,aK 0 []=true,a=X,([]:KM)=[],V.closed 0 r=true,aK 0 []=true]
def vP(a:KN):List Prop:=[(a++[V.ref 16]).length≤16777216,bY (a++[V.ref 16]) (kV 0)=some (V.ref 16)]
def vR(a b:KN):List Prop:=vP a++([b.length+1≤16777216,b.length+1≤16777216]++(vP a++[ct 0≤ct 2,ct 2 < ct 3,3≤16777216]))
def vU(d f:KN)(g:KL)(p b:Str)(a c:KA)(e:Str)(n2:KA)(l:KG):List Prop:=vR d f++([lk p g=some (V.ftup [V.str b,V.fstrs a]),a.length≤16777216]++(atC [V.str b,V.fstrs (ci a none (some (kV 0))),V.fstrs c] [V.str b,V.fstrs (ci a none (some (kV 0))),V.fstrs c] (.ftup [.str e, .fstrs n2])++(jf e n2++l)))
def frU(e:Int)(p:Str)(d b:Int)(a:KA)(c:Str)(n2:KA):AO:=fM e [("token",V.none),("path",V.str p),("rest",V.ref 17),("line",V.int d),("used",V.bool true),("row",V.fstrs a),("behind",V.int b),("root",V.str c),("names",V.fstrs n2),("there",V.str (c++f1 ("/":Str) n2))]
theorem qA1(a:V):am (fns (bP [] [] []) 40) ((LB.drop 1).take 1) ([.frame [("numbers",a)]]++c3)= .ok [] .next ([.frame [("numbers",a),("left", .int 160),("lines", .ref 5),("homes", .ref 4)]]++c3++[.dict [], .dict []]):=by rfl'
theorem EQ(g:V)(d m e:Int)(h f:KL)(b:Str)(a:KA)(c:KN)(j:Nat):ch (bP (sa (m.fmod 25) m d b a c e) [] [(918022041, .ref 7)]) (bU LB 2) (.int m) ([.frame (fA g d)]++c3++[.dict h, .dict f, .iter false g j])= .ok ([ct 25≠ct 0]++(atC [.int (m.fmod 25)] [.int (m.fmod 25)] (.ftup [.str b, .fstrs a])++(jf b a++(atC [.int m, .int d] [.int m, .int d] (.ftup [.flist c, .int e])++[h.length≤16777216,some ((lk (b++f1 ("/":Str) a) f).getD (V.ref 7))=some (V.ref 7),0+c.length≤16777216,f.length≤16777216])))) .next ([.frame (fA g (d -e)++([("m",V.int m),("root", .str b),("names", .fstrs a),("path", .str (b++f1 ("/":Str) a)),("more", .flist c),("size", .int e)]:KL))]++c3++[.dict (bS (b++f1 ("/":Str) a) (.ftup [.str b, .fstrs a]) h), .dict (bS (b++f1 ("/":Str) a) (.flist ([]++c)) f), .iter false g j, .list []]):=by rfl'
theorem EP(h:V)(e m f:Int)(i g:KL)(b:Str)(a:KA)(c d:KN)(j:Nat):ch (bP (sa (m.fmod 25) m e b a c f) [] [(918022041, .flist d)]) (bU LB 2) (.int m) ([.frame (fA h e)]++c3++[.dict i, .dict g, .iter false h j])= .ok ([ct 25≠ct 0]++(atC [.int (m.fmod 25)] [.int (m.fmod 25)] (.ftup [.str b, .fstrs a])++(jf b a++(atC [.int m, .int e] [.int m, .int e] (.ftup [.flist c, .int f])++[i.length≤16777216,some ((lk (b++f1 ("/":Str) a) g).getD (V.ref 7))=some (V.flist d),d.length+c.length≤16777216,g.length≤16777216])))) .next ([.frame (fA h (e -f)++([("m",V.int m),("root", .str b),("names", .fstrs a),("path", .str (b++f1 ("/":Str) a)),("more", .flist c),("size", .int f)]:KL))]++c3++[.dict (bS (b++f1 ("/":Str) a) (.ftup [.str b, .fstrs a]) i), .dict (bS (b++f1 ("/":Str) a) (.flist (d++c)) g), .iter false h j, .list []]):=by rfl'
theorem qA3(d:V)(c:Int)(b a:KL):am (fns (bP [] [] []) 40) ((LB.drop 3).take 1) ([.frame (fA d c)]++c3++[.dict b, .dict a])= .ok [] .next [.frame (fA d c), .cell none, .cell (some (.ref 6)), .cell none, .dict b, .dict a, .dict []]:=by rfl'
theorem qA4(c:V)(d:cv)(e:Int)(f a:KL)(p:Str)(b:AO):am (fns (bP [] [] []) 40) (fF.2.2.1.take 1) ([fD c d e [("path", .str p)]]++c3t++[.dict f, .dict a,b])= .ok [a.length≤16777216] .next ([fD c d e [("path", .str p)]]++c3t++[.dict f, .dict (bS p (.str "") a),b]):=by rfl'
theorem qA5(g:V)(d:cv)(h:Int)(k c:KL)(p:Str)(f:AO)(a:KA)(e:Int)(q t j:Str)(b:V)(i:Nat):ch (bP [(744,0,sAt [.str (f1 "/" a)] [] [] (.str q) [])] [] [(923012023, .str t)]) j0 (.ftup [.bool true, .fstrs a, .int e]) ([fD g d h [("path", .str p)]]++c3t++[.dict k, .dict c,f, .iter false b i])= .ok ([lk p c=some (V.str t)]++([1≤64,(IE (λ(x:Str)=>x.length) a).sum+a.length*64≤16777216]++(atC [.str (f1 "/" a)] [.str (f1 "/" a)] (.str q)++[4+q.length≤16777216,kV 1≤e,e < ct 2,2≤16777216,(("use ":Str)++q).length+1≤16777216,t.length+(("use ":Str)++q++I2 " \n" e).length≤16777216,c.length≤16777216]))) .next ([fD g d h [("path", .str p),("used", .bool true),("row", .fstrs a),("ends", .int e)]]++c3t++[.dict k, .dict (bS p (.str (t++(("use ":Str)++q++I2 " \n" e))) c),f, .iter false b i]):=by rfl'
theorem EO(g:V)(d:cv)(h:Int)(k c:KL)(p:Str)(f:AO)(a:KA)(e:Int)(q t j:Str)(b:V)(i:Nat):ch (bP [(744,0,sAt [.str (f1 "/" a)] [] [] (.str q) [])] [] [(923012023, .str t)]) j0 (.ftup [.bool false, .fstrs a, .int e]) ([fD g d h [("path", .str p)]]++c3t++[.dict k, .dict c,f, .iter false b i])= .ok ([lk p c=some (V.str t)]++([1≤64,(IE (λ(x:Str)=>x.length) a).sum+a.length*64≤16777216]++(atC [.str (f1 "/" a)] [.str (f1 "/" a)] (.str q)++[0+q.length≤16777216,kV 1≤e,e < ct 2,2≤16777216,(("":Str)++q).length+1≤16777216,t.length+(("":Str)++q++I2 " \n" e).length≤16777216,c.length≤16777216]))) .next ([fD g d h [("path", .str p),("used", .bool false),("row", .fstrs a),("ends", .int e)]]++c3t++[.dict k, .dict (bS p (.str (t++(("":Str)++q++I2 " \n" e))) c),f, .iter false b i]):=by rfl'
theorem qA6(d:KN)(m a:Int)(g e f:KL)(c:Str)(b:KA)(t:Str):am (fns (bP [(873,0,sAt [.int a] [] [] (.ftup [.str c, .fstrs b]) [])] [] [(924028038, .int m),(926018030, .str t)]) 40) ((LB.drop 5).take 6) ([fE (.flist d) []]++c3t++[.dict g, .dict e, .dict f])= .ok ([d.length≤16777216,bY d (ct 0)=some (V.int m),ct 25≠ct 0]++(atC [.int a] [.int (m.fmod 25)] (.ftup [.str c, .fstrs b])++(jf c b++[lk (c++f1 ("/":Str) b) e=some (V.str t),V.adr 732=V.adr 732]))) .next [fE (.flist d) [("root", .str c),("names", .fstrs b),("first", .str (c++f1 ("/":Str) b))], .cell (some (.ref 7)), .cell (some (.ref 5)), .cell (some (.ref 14)), .dict g, .dict e, .dict f, .inst 732 8,lxA (c++f1 ("/":Str) b) true (.str "use") [], .frame [("self", .ref 7),("instream", .ref 10),("infile", .str (c++f1 ("/":Str) b)),("posix", .bool true),("punctuation_chars", .str "")], .inst 597 11,sio t 0, .deque [], .deque [], .list [.str (c++f1 ("/":Str) b)]]:=by rfl'
theorem qA8(j:KN)(c:AO)(h g d:KL)(a:Str)(t:Str)(e:cv)(b:KN)(i:Str)(f:KA):am (fns (bP [] [] [(939025037, .flist b)]) 40) ((LB.drop 12).take 4) ([.frame [("homes", .ref 4),("lines", .ref 6),("first", .str a),("_law_hook", .adr e)], .cell (some (.ref 7)), .cell (some (.ref 5)), .cell (some (.ref 14)), .dict h, .dict g, .dict d, .inst 732 8,lxA a true (.str "use") [],c, .inst 597 11,sio t 0, .deque [], .deque [], .list [.str a]])= .ok [732=732,19≤800,lk a d=some (V.flist b),b.length≤16777216] .next [.frame [("homes", .ref 4),("lines", .ref 6),("first", .str a),("_law_hook", .adr e),("walked", .ref 15),("pile", .ref 18),("ends", .int 0)], .cell (some (.ref 7)), .cell (some (.ref 5)), .cell (some (.ref 14)), .dict h, .dict g, .dict d, .inst 732 8,lxA a true (.str "use") [("sourcehook", .adr e)],c, .inst 597 11,sio t 0, .deque [], .deque [], .list [.str a], .list [.str a], .list b, .list [.str a, .ref 16, .int 1], .list [.ref 17]]:=by rfl'
section
variable(s1:AO)(f:V)(g:Str)(st:V)(d:Int)(h:cv)(b:KN)(m:KL)(o:KA)(e:Int)(j i:KL)(k:KA)(a:KN)(p:Str)(c:Int)(n:KN)(l:KM)
theorem qB0(q:KL):(fns (cJ [] [] []) 40).T whM.1 (LM (OG s1 f g st d h b m o) (fM e q) j i k a p c n l)= .ok [] (decide (e < ct 2)) (LM (OG s1 f g st d h b m o) (fM e q) j i k a p c n l):=by rfl'
theorem qB1(r:KA)(q:Int):whR (cJ [] [] [(944031039, .ref 16),(947016024, .ref 16)]) whI (LM (OG s1 f g st d h b m o) (fM e [("token", .none)]) j i k a p c (.ftup [.bool false, .fstrs r, .int q]::n) l)= .ok (vR a n++[1≤64,(IE (λ(x:Str)=>x.length) r).sum+r.length*64≤16777216]) (some .cont) (LM (OG s1 f g st d h b m o) (fM e [("token", .str (f1 ("/":Str) r)),("path", .str p),("rest", .ref 17),("line", .int c),("used", .bool false),("row", .fstrs r),("behind", .int q)]) j i k a p (c+q) n l):=by rfl'
theorem EL(r:Str)(q:KL):whR (cJ [] [] []) whI (LM (OG s1 f g st d h b m o) (fM e (("token", .str r)::q)) j i k a p c n l)= .ok [] none (LM (OG s1 f g st d h b m o) (fM e (("token", .str r)::q)) j i k a p c n l):=by rfl'
theorem EK(t n2 r:KA)(q:Int)(s u:Str):whR (cJ [(866,0,sAt [.str s, .fstrs (ci r none (some (kV 0))), .fstrs t] [] [] (.ftup [.str u, .fstrs n2]) [])] [(954019033,false)] [(944031039, .ref 16),(947016024, .ref 16),(951030041, .ftup [.str s, .fstrs r])]) whI (LM (OG s1 f g st d h b m o) (fM e [("token", .none)]) j i k a p c (.ftup [.bool true, .fstrs t, .int q]::n) l)= .ok (vU a n j p s r t u n2 [(lk (u++f1 ("/":Str) n2) i).isSome=false]) (some .next) (LM (OG s1 f g st d h b m o) (frU e p c q t u n2) j i k a p (c+q) n l):=by rfl'
theorem EJ(t n2 r:KA)(q:Int)(s u:Str):whR (cJ [(866,0,sAt [.str s, .fstrs (ci r none (some (kV 0))), .fstrs t] [] [] (.ftup [.str u, .fstrs n2]) [])] [(954019033,true),(954038057,false)] [(944031039, .ref 16),(947016024, .ref 16),(951030041, .ftup [.str s, .fstrs r])]) whI (LM (OG s1 f g st d h b m o) (fM e [("token", .none)]) j i k a p c (.ftup [.bool true, .fstrs t, .int q]::n) l)= .ok (vU a n j p s r t u n2 [(lk (u++f1 ("/":Str) n2) i).isSome=true,(!bO (u++f1 ("/":Str) n2) k)=false]) (some .next) (LM (OG s1 f g st d h b m o) (frU e p c q t u n2) j i k a p (c+q) n l):=by rfl'
theorem qB3(u n2 r:KA)(q:Int)(t v:Str)(s:KN):whR (cJ [(866,0,sAt [.str t, .fstrs (ci r none (some (kV 0))), .fstrs u] [] [] (.ftup [.str v, .fstrs n2]) [])] [(954019033,true),(954038057,true)] [(944031039, .ref 16),(947016024, .ref 16),(951030041, .ftup [.str t, .fstrs r]),(956045057, .flist s)]) whI (LM (OG s1 f g st d h b m o) (fM e [("token", .none)]) j i k a p c (.ftup [.bool true, .fstrs u, .int q]::n) l)= .ok (vU a n j p t r u v n2 [(lk (v++f1 ("/":Str) n2) i).isSome=true,(!bO (v++f1 ("/":Str) n2) k)=true,k.length≤16777216,lk (v++f1 ("/":Str) n2) i=some (V.flist s),s.length≤16777216,(a++[V.ref 16]).length≤16777216]) (some .next) ((OG s1 f g st d h b m o)++frU e p c q u v n2:: .dict j:: .dict i:: .strs (k++[(v++f1 ("/":Str) n2)]):: .list ((a++[V.ref 16])++[V.ref ((l++[AO.list s]).length+18)]):: .list [.str p, .ref 17, .int (c+q)]:: .list n::(l++[.list s])++[.list [.str (v++f1 ("/":Str) n2), .ref (l.length+18), .int 1]]):=by rfl'
theorem qB4:whR (cJ [] [(957017030,true)] [(944031039, .ref 16),(947016024, .ref 16),(958016026, .ref 16)]) whI (LM (OG s1 f g st d h b m o) (fM e [("token", .none)]) j i k a p c [] l)= .ok (vP a++[0≤16777216,(a++[V.ref 16]).length≤16777216,decide (ct (a++[V.ref 16]).length > ct 1)=true,(a++[V.ref 16]).length≤16777216,(a++[V.ref 16]).getLast? =some (V.ref 16)]) (some .next) ((OG s1 f g st d h b m o)++(fM e [("token", .none),("path", .str p),("rest", .ref 17),("line", .int c)]):: .dict j:: .dict i:: .strs k:: .list (a++[V.ref 16]).dropLast:: .list [.str p, .ref 17, .int c]:: .list []::l):=by rfl'
theorem qB5:whR (cJ [] [(957017030,false)] [(944031039, .ref 16),(947016024, .ref 16)]) whI (LM (OG s1 f g st d h b m o) (fM e [("token", .none)]) j i k a p c [] l)= .ok (vP a++[0≤16777216,(a++[V.ref 16]).length≤16777216,decide (ct (a++[V.ref 16]).length > ct 1)=false]) (some .brk) (LM (OG s1 f g st d h b m o) (fM (e+1) [("token", .none),("path", .str p),("rest", .ref 17),("line", .int c)]) j i k a p c [] l):=by rfl'
theorem qB7(s:Str)(p0:Nat)(q:KA)(r:Str)(t:V):am (fns (cJ [(715,6,sAt [.ref 2] (RT s p0 p st c "" h b) [] (.str (jj p c)) (RT s p0 p st c "" h b)),(852,0,sAt [.str p] [] [] (.str (r++f1 "/" (ci q none (some (kV 0))))) [])] [(965011077,false),(968011065,false)] [(964027035, .ref 16),(967022033, .ftup [.str r, .fstrs q])]) 40) (whM.2.1.drop 3) (LM (OG (sio s p0) (.ref 0) p st c h b m o) (fM e [("token",t)]) j i k a p c n l)=
 .ok (vP a++([V.closedL 6 [.ref 2]=true,aK 6 (RT s p0 p st c "" h b)=true,[V.ref 2]=[V.ref 2],(RT s p0 p st c "" h b)=(RT s p0 p st c "" h b),V.closed 6 (.str (jj p c))=true,aK 6 (RT s p0 p st c "" h b)=true,1+p.length≤16777216,(("\"":Str)++p).length+8≤16777216,c.natAbs.log2 < 1920,(("\"":Str)++p++("\", line ":Str)).length+(cs (Jk c)).length≤16777216,(("\"":Str)++p++("\", line ":Str)++cs (Jk c)).length+2≤16777216,(jj p c !=jj p c)=false,lk p j=some (V.ftup [V.str r,V.fstrs q])]++(atC [.str p] [.str p] (.str (r++f1 "/" (ci q none (some (kV 0)))))++([q.length≤16777216]++(jf r (ci q none (some (kV 0)))++[(r++f1 ("/":Str) (ci q none (some (kV 0))) !=r++f1 ("/":Str) (ci q none (some (kV 0))))=false]))))) .next (LM (OG (sio s p0) (.ref 0) p st c h b m o) (fM e [("token",t),("path", .str p),("rest", .ref 17),("line", .int c),("root", .str r),("names", .fstrs q)]) j i k a p c n l):=by rfl'
theorem qB8(q:KL):am (fns (cJ [] [] []) 40) (LB.drop 17) (LM (OG s1 f g st d h b m o) (fM e q) j i k a p c n l)= .ok [] (.ret (.bool true)) (LM (OG s1 f g st d h b m o) (fM e q) j i k a p c n l):=by rfl'
end
set_option genInjectivity false in
structure kP where
 tg:Expr
 elt:Expr
 iter:Expr
 px:nR
 sc:Scope
 p1:nR
 lst:Expr
 p2:nR
 p3:nR
deriving Nonempty
noncomputable def kP.lc(i:kP):Expr:= .ListComp i.elt [⟨.Name "n" i.px,i.iter,[],0⟩] i.sc i.p1
def kP.stmt(i:kP):k0:= .Assign [i.tg] (.BoolOp .Or [i.lc,i.lst] i.p2) i.p3
def Di(l:List k0):kP:=aHd l df λs=>B0 s df λk e j=>aH k df λt b=>sE e df λl g=>aH l df λc l=>aH l df λa b=>En c df λe h f d=>h.head?.elim df λq=>xQ q.target df λb i=>⟨t,e,q.iter,i,f,d,a,g,j⟩
def dS:kP:=Di LB
theorem AH:LB.take 1=[dS.stmt]∧dD dS.tg=false∧bT dS.tg=false∧cT dS.iter=false∧dS.sc.kind= .function∧dS.sc.names=[((".0":Str),NameKind.local),(("n":Str),NameKind.local)]:=(xd (by rfl') (by rfl') (by rfl') (by rfl') (by rfl') (by rfl'))
noncomputable def enc(a:Int):Int:=if 0≤a then 2*a else-2*a -1
noncomputable def nmP(i:Nat):nR:=match i with
 |0=>⟨910,24,910,25⟩|1=>⟨910,29,910,30⟩|2=>⟨910,24,910,30⟩|3=>⟨910,15,910,16⟩|4=>⟨910,19,910,20⟩|5=>⟨910,15,910,20⟩|6=>⟨910,37,910,38⟩|7=>⟨910,36,910,38⟩|8=>⟨910,41,910,42⟩|9=>⟨910,36,910,42⟩|10=>⟨910,45,910,46⟩|11=>⟨910,36,910,46⟩|_=>⟨910,15,910,46⟩
def nmE:Expr:= .IfExp (.Compare (.Name "n" (nmP 0)) [.GtE] [.Constant (.int 0) 0 (nmP 1)] (nmP 2)) (.BinOp (.Constant (.int 2) 0 (nmP 3)) .Mult (.Name "n" (nmP 4)) (nmP 5))
 (.BinOp (.BinOp (.UnaryOp .USub (.Constant (.int 2) 0 (nmP 6)) (nmP 7)) .Mult (.Name "n" (nmP 8)) (nmP 9)) .Sub (.Constant (.int 1) 0 (nmP 10)) (nmP 11)) (nmP 12)
theorem AK:dS.elt=nmE:=by rfl'
section
variable{a:A8}{w:Gv}{A:GI}{E:KD}{env:Env}{s:dd}
theorem pw{m:KC}{v:da}{p:nR}{Q:KD}(b:env.scope.kind= .function)(c:env.kindOf "n"=some .local)(e:s.heap.Ns env.locals m)(d:m "n"=some v)(h:Q v s):eo (GO a w) A (Gu (.Name "n" p) env) Q E s:=
 wpAny_Name (JW b c e d h) (by decide)
theorem Br:∀{m:KC} {b:Int} {t:Tok} (d:env.scope.kind= .function) (e:env.kindOf "n"=some .local) (c:s.heap.Ns env.locals m) (f:m "n"=some (.int b t)),eo (GO a w) A (Gu nmE env) (λy j=>(∃u,y= .int (enc b) u)∧Keeps s j) E s:=by
 revert a w A E env s;refine' eI9;intro t b m s env E A w a d e c f;have g:∀k,Keeps s {s with toks:=k}:=λk=>⟨s.heap,k,rfl,λi i h=>h⟩
 refine IfExp_ (HE (pw d e c f (Jo (ge_int (HM ?_)))) rfl)
 by_cases h:0≤b
 ·rwa [decide_eq_true h,show enc b=2*b from if_pos h]
  exact wpAny_BinOp (Jo (pw d e c f (mul_int ⟨⟨_,rfl⟩,g _⟩ (.of_left (by decide)))))
 ·rwa [decide_eq_false h,show enc b=-2*b -1 from if_neg h]
  exact wpAny_BinOp (wpAny_BinOp (UnaryOp_ (Jo (neg_int (pw d e c f (mul_int (Jo (sub_int ⟨⟨_,rfl⟩,g _⟩)) (.of_left (by decide))))))))
end
theorem zj{F:aA}{i:KB}:∀{f:KJ} {g:KH},Vals F i (f.map .int) g→∀v∈g,∃a t,v=da.int a t:=by
 intro d
 induction d with
 |nil=>
  intro _ h v hv;rw [show _=[]from h]at hv;cases hv
 |cons x f c=>
  intro _ b v hv;(refine bg b ?_;clear b;intro u r h1 e h3;obtain⟨t,h2⟩:=e);subst h1;rcases q4.mp hv with rfl|hv
  ·exact(sG x t h2)
  ·exact c h3 v hv
theorem va{F l:aA}{o j:KB}:∀{f:KJ} {k d:KH},Vals F o (f.map .int) k→Paired (λv y=>∃a t u,v=da.int a t∧y=da.int (enc a) u) k d→Vals l j ((f.map enc).map .int) d:=by
 intro i
 induction i with
 |nil=>
  intro _ d h p;rw [show _=[]from h]at p;cases p;rfl
 |cons x f e=>
  intro _ d c p;(refine bg c ?_;clear c;intro u r h1 b h3;obtain⟨t,h2⟩:=b);subst h1;subst h2;cases p with
  |cons h q=>(refine dW h ?_;clear h;intro a w m s n);(refine ai (PySem.Value.int.inj s) λb g=> ?_;subst b;subst g);exact⟨_,_,rfl,⟨m,n⟩,e h3 q⟩
def fk(a:KJ):List Int:=if((a.take 60).map enc).isEmpty then [4,25,201]else(a.take 60).map enc
theorem AD(a:KJ):ci (a.map V.int) none (some (ct 60))=(a.take 60).map V.int:=by
 unfold ci;have h1:∀n,kms_lo none n=0:=λn=>rfl;have h2:∀n,kms_hi (some (ct 60)) n -0=min 60 n:=λn=>rfl;rwa [h1 _,h2 _,Jt,pg _,←List.map_take]
 congr 1
 rcases Nat.le_total 60 a.length with h|h
 ·(rwa [GW h];rfl)
 ·(rwa [Iu h,GN (fx _),GN h];rfl)
theorem AOk.isHere{p:A8}{w:Gv}{F:aA}{e:KB}{h:Gm}{a:cv}:∀{o:AO},AOk p w F e h a o→o.live=true→∃d,h.get? a=some d
 | .frame _,hZ,_=>by(refine ab hZ ?_;clear hZ;intro b c b;(refine dW c ?_;clear c;intro d b b q b));exact⟨d,q⟩
 | .inst _ _,hZ,_=>by(refine aS hZ ?_;clear hZ;intro b b q b);exact⟨_,q⟩
 | .ns _,hZ,_=>by(refine aS hZ ?_;clear hZ;intro b b q b);exact⟨_,q⟩
 | .dict _,hZ,_=>by(refine ab hZ ?_;clear hZ;intro b c b;(refine dW c ?_;clear c;intro d b b q b));exact⟨d,q⟩
 | .list _,hZ,_=>by(refine aS hZ ?_;clear hZ;intro b b q b);exact⟨_,q⟩
 | .strs _,hZ,_=>by(refine aS hZ ?_;clear hZ;intro b b q b);exact⟨_,q⟩
 | .deque _,hZ,_=>by(refine dW hZ ?_;clear hZ;intro b b b q b);exact⟨_,q⟩
 | .cell none,q,_=>⟨_,q⟩
 | .cell (some _),hZ,_=>by(refine ab hZ ?_;clear hZ;intro b q b);exact⟨_,q⟩
 | .iter true _ _,hZ,_=>by(refine ab hZ ?_;clear hZ;intro b b c;refine ab c ?_;clear c;intro d q b);exact⟨d,q⟩
 | .iter false _ _,hZ,_=>by(refine ab hZ ?_;clear hZ;intro b b c;refine ab c ?_;clear c;intro d q b);exact⟨d,q⟩
 | .obj _,q,_=>⟨_,q⟩
 | .gone,_,h=>Bool.noConfusion h
theorem aq.growS{p:A8}{w:Gv}{d:Bd}{e:KB}{f n:KM}{s t s':dd}(R:aq p w d e f s)(i:aq p w d e n t)(q:∀b c,s.heap.get? b=some c→s'.heap.get? b=some c)(k:t.heap.objs.size≤s'.heap.objs.size)
 (v:s'.gens=s.gens)(m:s'.os=s.os):aq p w d e f s'∧Le (aa d e f s.heap) (aa d e f s'.heap):=
 have L:Le (aa d e f s.heap) (aa d e f s'.heap):=λa o r l=>ax l λu h1 h2=>⟨u,h1,q a o h2⟩
 ⟨⟨R.len,R.nodup,λj b c h1 h2=>AOk.mono L (λr r h=>h) (q b) c (R.objs j b c h1 h2),λb c h=>q b c (R.base b c h),λb g=>⟨(R.new b g).1,fa (i.new b g).2.1 k,(R.new b g).2.2⟩,
  fa i.big k,λb g=>fa (i.hid b g) k,R.pre,v.trans R.gens,m.trans R.os⟩,L⟩
section
variable{c:Cx}{s:dd}{Q:Hj→dd→Prop}
abbrev cA0:Cfg:={fi:=0,names:=[],globs:=[],cells:=[("lexer",1),("texts",2),("given",3)]}
theorem yO(a:KN):(fns (bP [] [] []) 40).E dS.iter ([.frame [("script", .flist a)]]++c3)= .ok [a.length≤16777216] (.flist (ci a none (some (ct 60)))) ([.frame [("script", .flist a)]]++c3):=by rfl'
theorem AI(a:KN)(v:V):(fns (bP [] [] []) 40).A dS.tg v ([.frame [("script", .flist a)]]++c3)= .ok [] () ([.frame [("script", .flist a),("numbers",v)]]++c3):=by rfl'
theorem AJ(a:KN):((fns (bP [] [] []) 40).E dS.lst ([.frame [("script", .flist a)]]++c3))= .ok [] (.ref 4) ([.frame [("script", .flist a)]]++c3++[.list [.int 4, .int 25, .int 201]]):=by rfl'
theorem yN(a:KN):(fns (bP [] [] []) 40).A dS.tg (.ref 4) ([.frame [("script", .flist a)]]++c3++[.list [.int 4, .int 25, .int 201]])= .ok [] () ([.frame [("script", .flist a),("numbers", .ref 4)]]++c3++[.list [.int 4, .int 25, .int 201]]):=by rfl'
theorem E8{a:KN}(b:KN):iC [("script", .flist b),("numbers", .flist a)] [("numbers", .flist a)]:=⟨rfl,KP⟩
theorem ip:∀d:List Int,V.closedL 0 (d.map V.int)=true:=by
 intro b
 induction b with
 |nil=>
  exact rfl
 |cons _ r a=>
  exact a
theorem gk:∀{n:Nat} (h:3 < n),∀x j,lkC x cA0.cells=some j→j < n:=by
 refine' eI1;intro n h;exact λx j e=>by
  have e:(bif af x "lexer" then some 1 else bif af x "texts" then some 2 else bif af x "given" then some 3 else none)=some j:=e;cases q:af x "lexer"<;>rw [q]at e<;>first|(obtain rfl:=ds e;exact Lle [_] [Q0 (.a Z12 Z0) V0] 0 (.a Z0 Z0) V0 rfl h)|skip
  cases q:af x "texts"<;>rw [q]at e<;>first|(obtain rfl:=ds e;exact Lle [_] [Q0 (.a Z12 Z0) V0] 0 (.a Z4 Z0) V0 rfl h)|skip
  cases q:af x "given"<;>rw [q]at e<;>first|(cases e;exact h)|(exact noS e)
theorem rD:∀{f:KJ} {g:List k0} (G:aG c (bP [] [] [])) (N:c.d.ρ₀=[]) (hH:∀a,¬c.d.H a) (hx:f.length≤16777216) (H:At c cA0 RT0 ([.frame [("script", .flist (f.map .int))]]++c3) s) (K:∀Y,At c cA0 RT0 ([.frame [("numbers", .flist ((fk f).map .int))]]++c3) Y→eo c.M c.A (un g c.env) Q NoE Y),eo c.M c.A (un (LB.take 1++g) c.env) Q NoE s:=by
 revert c s Q;refine' eI5;intro g f Q s c G N hH hx H K;refine nz AH λe1 e2 e3 e4 e5 Z=> ?_;obtain⟨a7,H,_⟩:=H;have H:=H.cfg (cfg':=bP [] [] []) rfl rfl;have O:=bj G 40;have n1:∀y∈dS.sc.names,y.2= .local:=by rwa [Z];intro y hy;rcases q4.mp hy with rfl|hy;rfl;rcases q4.mp hy with rfl|hy;rfl;cases hy
 have n2:∀y∈dS.sc.names,y.2= .local→dS.sc.names.lookup y.1=some .local:=by rwa [Z];intro y hy _;rcases q4.mp hy with rfl|hy;rfl;rcases q4.mp hy with rfl|hy;rfl;cases hy
 have n3:dS.sc.names.lookup ("n":Str)=some NameKind.local:=by rwa [Z];rfl
 rwa [e1];refine pp (jx rfl e2 (by rw [e3];rfl) (BoolOp_or (dO H.tk (kj ?_))))
 refine wpAny_ListComp_map (λe=>true) (λv y=>∃a t u,v=da.int a t∧y=da.int (enc a) u) G.ok.handled (λy hy=>by rwa [n1 y hy];decide) (λy hy=>by rwa [n1 y hy];decide) e5 n2 n3 ?_ (gH e4)
 refine(O.E dS.iter).use H (yO _) ⟨by rwa [pg _];exact hx,KP⟩ λu s1 l B X1 r1=> ?_
 rw [AD]at r1;(refine dJ r1 ?_;clear r1;intro a o p n d m hc hd hv;subst d;(refine ax m ?_;clear m;intro e e ho));have a4:l=a7:=cO X1.pre (by(rwa [B.rep.len,H.rep.len];rfl))
 subst a4;have hl:=Vals.len _ _ hv;have a6:p.size≤60:=by
  have h2:((f.take 60).map V.int).length≤60:=by rwa [pg _,p7];exact GY _ _
  rw [←hl,iy]at h2;exact h2
 refine(FR a p rfl ⟨o,ho,hc,n,hd⟩ (by have:=HF;exact Lle [_] [Q0 V0 Z8] 0 V0 (.c 16777216) rfl a6) (λC v s2 m2 E' F ns hm e=> ?_) (λC v s2 m2 E' F e ns hm e=> ?_) (λD L tk ys hD hL hP hK hz ht=> ?_))
 ·rwa [List.forIn_nil];exact eM ⟨rfl,s2.heap,s2.toks,rfl,λe e h=>h⟩
 ·(refine nw (zj hv v (Array.mem_toList_iff.mpr F)) λx t d=> ?_;subst d)
  rwa [AK];exact ex (Br (env:=compEnv dS.sc C c.env) e5 n3 ns hm) (λy s3 d=>ai d λm k=>au m λu hu=>(an ⟨x,t,u,rfl,hu⟩ k)) λe e z=>z
 ·refine ai (B.rep.growS (s':={s1 with heap:=L,toks:=tk}) H.rep hK hz rfl rfl) λR2 L2=> ?_
  have H2:ac c (bP [] [] []) l ([.frame [("script", .flist (f.map .int))]]++c3) {s1 with heap:=L,toks:=tk}:=⟨R2,ht,B.fr,B.cl⟩
  (refine eh hL ?_;clear hL;intro od U a0 d;refine au d ?_;clear d;intro nd R);have hf:aa c.d l ([.frame [("script", .flist (f.map .int))]]++c3) L D od:=⟨hH D,λd=>bg d λi o h1 h2 h3=>(by
   refine au ((B.rep.objs i D o h1 h2).isHere h3) λob q=> ?_;rw [q]at hD;exact sNo hD),U⟩
  rw [show p.toList.filter (λe=>true)=p.toList by simp]at hP
  have w:Val (aa c.d l ([.frame [("script", .flist (f.map .int))]]++c3) L) l (.flist (((f.take 60).map enc).map .int)) (.ref D):=⟨D,od,ys,nd,rfl,hf,a0,R,va hv hP⟩;have P:(((f.take 60).map enc).map V.int).length≤60:=by rwa [pg _,pg _,p7];exact GY _ _
  refine ex ((qz H2 w).use rfl ⟨by have:=HF;exact Lle [_] [Q0 V0 Z8] 0 V0 (.c 16777216) rfl P,KP⟩).2 (λb s3 A=> ?_) λe e z=>z
  obtain⟨T,H3,X3,rb⟩:=A;rwa [rb];have I:fk f=if((f.take 60).map enc).isEmpty then [4,25,201]else(f.take 60).map enc:=rfl;rw [I]at K;generalize(f.take 60).map enc=zs at*
  induction zs using kv with
  |nil=>
   rw [if_pos (by rfl)]at K
   refine(O.E dS.lst).use H3 (AJ _) trivial λu s4 W H4 X4 r4=> ?_;refine ex ((O.A dS.tg _ W _ s4 u H4 r4).use (yN _) trivial) (λe E A=> ?_) λe e z=>z;obtain⟨r,J,X5,_⟩:=A;obtain⟨r,J,_⟩:=(show At c cA0 RT0 _ E from⟨r,J.cfg rfl rfl,KP⟩).low (mu2:=([AO.frame [("numbers",V.ref 4)], .cell none, .cell none, .cell none, .list [.int 4, .int 25, .int 201]]:KM)) N ⟨.frame ⟨rfl,KP⟩ rfl, .same rfl, .same rfl, .same rfl, .same rfl,KP⟩ (by decide) (gk (by decide)) rT
   refine eh (J.plan (K:=λi=>G6 i 4) (sel:=[0,1,2,3]) (mu':=[.frame [("numbers", .flist [.int 4, .int 25, .int 201])]]++c3) ⟨rfl,λx j h=>GQ (gk (n:=4) (by decide) x j h),λi hi=>by rw [N]at hi;cases hi⟩ ⟨rfl,rfl,rfl,rfl⟩) λa5 H6 e e=> ?_
   exact K E ⟨a5,H6,KP⟩
  |cons z zs=>
   rw [if_neg (by simp)]at K
   refine ex ((O.A dS.tg _ T _ s3 (.ref D) H3 (X3.val w)).use (AI _ _) trivial) (λe E A=> ?_) λe e z=>z;obtain⟨r,J,X5,_⟩:=A;exact K E ((show At c cA0 RT0 _ E from⟨r,J.cfg rfl rfl,KP⟩).low N ⟨.frame (E8 _) (by show(V.closedL 4 _&&true)=true;rwa [V.closedL_mono _ (ip (z::zs))];rfl), .same rfl, .same rfl, .same rfl,KP⟩ (show 0 < 4 by decide) (gk (show 3 < 4 by decide)) rT)
end
section
variable{a:Type}
def aT(x:Str)(v:a):List (Str×a)→List (Str×a)
 |[]=>[(x,v)]
 |(k,w)::r=>bif af x k then(k,v)::r else(k,w)::aT x v r
noncomputable def ao(f:a→V)(l:List (Str×a)):List (Str×V):=l.map λp=>(p.1,f p.2)
theorem cV(f:a→V)(x:Str):∀l:List (Str×a),lk x (ao f l)=(lkS x l).map f:=by
 intro d
 induction d with
 |nil=>
  exact rfl
 |cons c r b=>
  obtain⟨k,w⟩:=c;show(bif af x k then some (f w)else lk x (ao f r))=(bif af x k then some w else lkS x r).map f;cases af x k
  ·exact b
  ·rfl
theorem gd(f:a→V)(x:Str)(v:a):∀l:List (Str×a),bS x (f v) (ao f l)=ao f (aT x v l):=by
 intro d
 induction d with
 |nil=>
  exact rfl
 |cons c r b=>
  obtain⟨k,w⟩:=c;show(bif af x k then(k,f v)::ao f r else(k,f w)::bS x (f v) (ao f r))=ao f (bif af x k then(k,v)::r else(k,w)::aT x v r);cases af x k
  ·rwa [cond_false _ _,cond_false _ _,b];rfl
  ·rfl
theorem iG{x y:Str}(h:x≠y):af x y=false:=ee h
theorem fZ(x y:Str)(v:a):∀l:List (Str×a),lkS y (aT x v l)=if y=x then some v else lkS y l:=by
 intro e
 induction e with
 |nil=>
  show(bif af y x then some v else none)=_
  by_cases h:y=x
  ·rwa [if_pos h,aB.mpr h];rfl
  ·rwa [if_neg h,iG h];rfl
 |cons d r c=>
  obtain⟨k,w⟩:=d;unfold aT
  by_cases b:x=k
  ·subst b
   rwa [aB.mpr rfl];show(bif af y x then some v else lkS y r)=if y=x then some v else(bif af y x then some w else lkS y r)
   by_cases h:y=x
   ·rwa [if_pos h,aB.mpr h];rfl
   ·rwa [if_neg h,iG h];rfl
  ·rwa [iG b]
   show(bif af y k then some w else lkS y (aT x v r))=if y=x then some v else(bif af y k then some w else lkS y r);rwa [c]
   by_cases h:y=x
   ·subst h;rwa [if_pos rfl,if_pos rfl,iG b];rfl
   ·(rwa [if_neg h,if_neg h];rfl)
theorem jc(x:Str)(v:a):∀l:List (Str×a),(aT x v l).length≤l.length+1:=by
 intro d
 induction d with
 |nil=>
  exact fx _
 |cons c r b=>
  obtain⟨k,w⟩:=c;unfold aT;cases af x k
  ·exact GB (b)
  ·exact GL _
theorem pA{x:Str}{v:a}{p:Str×a}:∀{l:List (Str×a)},p∈aT x v l→p=(x,v)∨p∈l:=by
 intro d
 induction d with
 |nil=>
  intro h;exact .inl (mx.mp h)
 |cons c r b=>
  obtain⟨k,w⟩:=c;intro h;unfold aT at h;cases q:af x k
  ·rw [q]at h
   rcases q4.mp h with h|h
   ·exact .inr (h▸il)
   ·exact(b h).imp id (iv _)
  ·rw [q]at h
   rcases q4.mp h with h|h
   ·left;(rwa [h,aB.mp q];rfl)
   ·exact .inr (iv _ h)
theorem eL{x:Str}{v:a}:∀{l:List (Str×a)},lkS x l=some v→(x,v)∈l:=by
 intro d
 induction d with
 |nil=>
  intro h;exact noS h
 |cons c r b=>
  obtain⟨k,w⟩:=c;intro h;have h:(bif af x k then some w else lkS x r)=some v:=h;cases q:af x k with
  |true=>rw [q]at h;obtain rfl:=(ds h).symm;rwa [aB.mp q];exact .head _
  |false=>rw [q]at h;exact .tail _ (b h)
theorem aQ{f:a→V}(h:∀v,V.closed 0 (f v)=true):∀l:List (Str×a),aC 0 (ao f l)=true:=by
 intro d
 induction d with
 |nil=>
  exact rfl
 |cons c r b=>
  obtain⟨k,w⟩:=c;show(V.closed 0 (f w)&&aC 0 (ao f r))=true;rwa [h w,b];rfl
end
noncomputable def bA(h:Str×List Str):V:= .ftup [.str h.1, .fstrs h.2]
def bI(l:List aU):V:= .flist (l.map aJ)
abbrev xT:=List (Str×(Str×List Str))
abbrev cE:=List (Str×List aU)
abbrev BkT:=Nat×xT×cE
def be(m:Int):Str×List Str:=(jr (m.fmod 25).toNat,gz (m.fmod 25).toNat)
def aP(m:Int):Str:=bk (be m).1 (be m).2
def dG(b:BkT)(m:Int):BkT:=(b.1 -(aO (bw m) b.1).length,aT (aP m) (be m) b.2.1,aT (aP m) ((lkS (aP m) b.2.2).getD []++bH (bw m) b.1) b.2.2)
noncomputable def bk0:BkT:=(160,[],[])
def bL(a:KJ):BkT:=a.foldl dG bk0
noncomputable def dQ(l:cE):Nat:=(l.map λp=>p.2.length).sum
theorem sZ(x:Str)(a:List aU):∀l:cE,dQ (aT x ((lkS x l).getD []++a) l)=dQ l+a.length:=by
 intro e
 induction e with
 |nil=>
  show(List.length ([]++a))+0=0+a.length;rwa [J7 _];exact Leq [_] [] 0 (.a V0 Z3) (.a Z3 V0) rfl
 |cons d r b=>
  obtain⟨k,w⟩:=d;show dQ (bif af x k then(k,(bif af x k then some w else lkS x r).getD []++a)::r else(k,w)::aT x ((bif af x k then some w else lkS x r).getD []++a) r)=dQ ((k,w)::r)+a.length;cases af x k
  ·show w.length+dQ (aT x ((lkS x r).getD []++a) r)=w.length+dQ r+a.length
   rwa [b];exact Leq [_,_,_] [] 0 (.a V0 (.a V1 V2)) (.a (.a V0 V1) V2) rfl
  ·show(w++a).length+dQ r=w.length+dQ r+a.length
   rwa [is];exact Leq [_,_,_] [] 0 (.a (.a V0 V1) V2) (.a (.a V0 V2) V1) rfl
theorem gK{p:Str×List aU}{l:cE}:p∈l→p.2.length≤dQ l:=by
 induction l with
 |nil=>exact λh=>absurd h HB
 |cons q r a=>exact λh=>(q4.mp h).elim (λe=>e▸og _ _) λh=>h9 (a h) (Gz _ _)
theorem kX(m l:Nat):(bH m l).length≤(aO m l).length+1:=by
 have h:=(jX (aO m l) ([],[])).1;unfold bH ji
 split
 ·simp at h;exact Lle [_,_] [Q0 V0 V1] 0 V0 (.a V1 Z0) rfl h
 ·rwa [is];simp at h⊢;exact h
theorem hV(m l:Nat):(aO m l).length≤l:=by unfold aO;rwa [p7];exact GY _ _
structure g7(b:BkT)(i:Nat):Prop where
 sum:dQ b.2.2+b.1≤160+i
 hl:b.2.1.length≤i
 ll:b.2.2.length≤i
theorem w4{b:BkT}{i:Nat}(h:g7 b i)(m:Int):g7 (dG b m) (i+1):=by
 refine⟨?_, ?_, ?_⟩
 ·show dQ (aT _ _ _)+(b.1 -_)≤_
  rwa [sZ _ _ _];have h1:=kX (bw m) b.1;have h2:=hV (bw m) b.1;have h3:=h.sum;exact Lle [_,_,_,_,_,_] [Q0 V0 (.a V1 Z0),Q0 (.a V3 V2) (.a Z7 V4),Q1 (.a V5 V1) V2] 0 (.a (.a V3 V0) V5) (.a Z7 (.a V4 Z0)) rfl h1 h3 (pm (h2))
 ·exact h9 (jc _ _ _) (GB h.hl)
 ·exact h9 (jc _ _ _) (GB h.ll)
theorem kJ(d:KJ):g7 (bL d) d.length:=by
 have:∀(d:KJ) (b:BkT) (i:Nat),g7 b i→g7 (d.foldl dG b) (i+d.length):=by
  intro d
  induction d with
  |nil=>intro b i h;exact h
  |cons m r e=>intro b i h;rwa [Gd,ix,show i+(r.length+1)=(i+1)+r.length by exact Leq [_,_] [] 0 (.a V0 (.a V1 Z0)) (.a (.a V0 Z0) V1) rfl];exact e _ _ (w4 h m)
 have h:=this d bk0 0 ⟨fx _,fx _,fx _⟩;rw [HY]at h;exact h
theorem lD(m:Int):dX (be m).1∧(∀n∈(be m).2,cy n)∧(be m).2.length≤25:=by
 refine(cB (wI _) (wJ _) ?_);show(gz (m.fmod 25).toNat).length≤25;have h1:(m.fmod 25).toNat≤25:=by
  have h2:=Int.emod_lt_of_pos m (b:=25) (by decide)
  rwa [He m (by decide)]
  exact Int.toNat_le.mpr (Int.le_of_lt h2)
 rwa [pg _];exact h9 (pY _ _ _) (h9 (pJ _) h1)
structure bC(c:Cx):Prop where
 kind:c.env.scope.kind= .function
 names:cP.2.names=c.env.scope.names
 glob:c.env.globals=GH
 blt:c.env.builtins=Hl
 nocls:c.env.kindOf "__classdict__"=none
theorem j6:∀{c:Cx} {d:cv} {m0:Nat} {b:ay} {l:List (cv×Nat×ay)} (h:aI c d m0 b) (f:∀g m a,lkN g l=some (m,a)→aI c g m a),∀g m a,lkN g ((d,m0,b)::l)=some (m,a)→aI c g m a:=by
 refine' eI5;intro l b m0 d c h f;exact λg m a e=>by
  have e:(bif Nat.beq g d then some (m0,b)else lkN g l)=some (m,a):=e;cases q:Nat.beq g d
  ·rw [q]at e;exact f g m a e
  ·rw [q]at e;cases e;rwa [ui q];exact h
theorem aI.at{c:Cx}{f:cv}{n:Nat}{a:ay}(h:aI c f n a){X:KN}{M i:KM}{vc:KG}{r:V}(e:a X M= .ok vc r i)(l:aw vc):aI c f n (sAt X M [] r i):=
 h.sub λs p m q k j o b=>by cases o;(refine ax b ?_;clear b;intro g d j;subst g;subst d);exact(ah vc e l)
section
variable{P:ed}{b d:KC}{c:Cx}{s:dd}
theorem pM(l:aR (KK P) b d)(T:ak c (KK P) b d)(k:av 6 c.A)(E:bC c){f:Cfg}(q:f.names=cP.2.names)(y:f.globs=G0)(r:f.meths=MS)(t:f.plain=PS)(p:f.props=PR)(j:f.owns=[])(w:∀g m e,lkN g f.fns=some (m,e)→aI c g m e)(o:∀x g e,lkS x f.wns=some (g,e)→FnW c g e)(u:∀n C,lkS n f.sets=some C→eZ (KK P) C n=true):aG c f:=
 ⟨⟨E.kind,q.trans E.names,E.glob,E.blt,(eS b d T.base (by rwa [y];exact bh l (cS P))),E.nocls,T.handled,by have:=k.2;exact Lle [_] [Q0 (.a (.a V0 (.m 5 Z18)) Z10) Z11] 0 (.a V0 Z0) Z11 rfl this⟩,
  ⟨KK P,T.K,λi i i h=>Gf.mp (mm P) _ (m7 (r▸h)),λi i h=>Gf.mp (ku P) _ (lE (t▸h)),λn C g m e h=>(by rw [j]at h;exact noS h),u⟩,w,o,λn C g m e h=>(by rw [j]at h;exact noS h),kx l T (k.le (by decide)) p⟩
theorem AZ{f:Type}{x y:Str}{a e:f}(h:lkS x [(y,a)]=some e):x=y∧a=e:=by
 have h:(bif af x y then some a else none)=some e:=h;cases q:af x y<;>rw [q]at h<;>cases h
 exact⟨aB.mp q,rfl⟩
theorem eW(o:aR (KK P) b d)(T:ak c (KK P) b d)(l:av 6 c.A)(E:bC c){k:List (cv×Nat×ay)}(p:∀g m a,lkN g k=some (m,a)→aI c g m a){i:List (Nat×Bool)}{j:List (Nat×V)}:aG c (bP k i j):=
 pM o T l E rfl rfl rfl rfl rfl rfl p (λx g a h=>by refine ai (AZ h) λq h=> ?_;(refine ai (Prod.mk.inj h) λe f=> ?_;subst e;subst f);exact Es o T (l.le (by decide))) λn C h=>by(refine ai (AZ h) λe f=> ?_;subst e;subst f);exact nH P
theorem my(i:aR (KK P) b d)(T:ak c (KK P) b d)(f:av 6 c.A)(E:bC c){fs:List (cv×Nat×ay)}(e:∀g m a,lkN g fs=some (m,a)→aI c g m a){orc:List (Nat×Bool)}{vor:List (Nat×V)}:aG c (cJ fs orc vor):=
 pM i T f E rfl rfl rfl rfl rfl rfl e (λx g a h=>by exact noS h) λn C h=>by exact noS h
theorem gw{i:Str}{g:KA}(h1:dX i)(h2:∀n∈g,cy n)(h3:g.length≤100000):aw (jf i g):=by
 have a:=je h1 h2;have e:=iE (m:=4) λx j=>py (h2 x j);have f:=f3 g;have k:i.length≤2:=by rcases h1 with rfl|rfl<;>decide+kernel
 refine⟨by decide, ?_, ?_,KP⟩
 ·show cF g+_≤_;exact Lle [_,_] [.h 0 68 0 V0 Z16,Q0 V1 (.m 4 V0)] 0 (.a V1 (.w V0 64)) (.c 16777216) rfl h3 e
 ·exact Lle [_,_,_,_] [Q3 V0 Z16,Q0 V1 (.m 4 V0),Q0 V2 (.a V1 V0),Q0 V3 Z4] 0 (.a V3 V2) (.c 16777216) rfl h3 e f k
theorem iX{X:KN}{r:V}(h1:V.closedL 0 X=true)(h2:V.closed 0 r=true):aw (atC X X r):=⟨h1,rfl,rfl,rfl,h2,rfl,KP⟩
def stN(e:V)(a:BkT):List AO:=[.frame (fA e (a.1:Int))]++c3++[.dict (ao bA a.2.1), .dict (ao bI a.2.2)]
theorem dv(h:Str×List Str):V.closed 0 (bA h)=true:=rfl
theorem cR(l:List aU):V.closed 0 (bI l)=true:=bi l
theorem vg:∀{q:V} {o:BkT} {i:Nat} {m:Int} {j:Nat} {R:Rel} {C:KB} {u:da} (K:aR (KK P) b d) (T:ak c (KK P) b d) (L:av 6 c.A) (E:bC c) (h0:c.d.ρ₀=[]) (x:V.closed 7 q=true) (B:g7 o i) (t:i≤60) (hm:0≤m) (N:dk 7 R) (H:ac c cA0 C (stN q o++[.iter false q j]) s) (pn:R (aa c.d C (stN q o++[.iter false q j]) s.heap) C) (hu:Val (aa c.d C (stN q o++[.iter false q j]) s.heap) C (.int m) u),eo c.M c.A (I5 (bU LB 2).1 c.env u) (λD s2=>eo c.M c.A (un (bU LB 2).2.2.1 c.env) (λfl s3=>(fl= .next∨fl= .cont)∧At c cA0 R (stN q (dG o m)++[.iter false q j]) s3) NoE s2) NoE s:=by
 revert P b d c s;refine' eI13;intro u C R j m i o q s c d b P K T L E h0 x B t hm N H pn hu;refine ax (lD m) λr1 r2 r3=> ?_;have f0:0≤m.fmod 25∧m.fmod 25≤1000:=by
  have h2:=Int.emod_lt_of_pos m (b:=25) (by decide)
  have h1:=Int.emod_nonneg m (b:=25) (by decide)
  rwa [He m (by decide)]
  exact⟨h1,IN (Int.le_of_lt h2) (by decide)⟩
 have a0:aI c 873 0 (sAt [.int (m.fmod 25)] [] [] (.ftup [.str (be m).1, .fstrs (be m).2]) []):=(xC K T (L.le (by decide))).at rfl ⟨f0.1,f0.2,KP⟩
 have O:aI c 880 0 (sAt [.int m, .int (o.1:Int)] [] [] (.ftup [.flist ((bH (bw m) o.1).map aJ), .int (((aO (bw m) o.1).length:Nat):Int)]) []):=by
  have e:=(C3 K T (L.le (by decide))).at (X:=[.int m, .int (o.1:Int)]) (M:=[]) (vc:=[0≤m,0≤(o.1:Int),(o.1:Int)≤1000]) rfl ⟨hm,z2 _,Gi.mpr (h9 (h9 (Gz _ _) B.sum) (h9 (Hh t _) (by decide))),KP⟩
  dsimp only at e;rw [IK]at e;exact e
 have bl:∀p,lkS (aP m) o.2.2=some p→p.length≤220:=λp h=>by have:=gK (eL h);have h2:=B.sum;have:p.length≤dQ o.2.2:=this;exact Lle [_,_,_,_] [Q0 V0 Z8,Q0 (.a V1 V2) (.a Z7 V0),Q0 V3 V1] 0 V3 (.c 220) rfl t h2 this
 have mo:((bH (bw m) o.1).map aJ).length≤300:=by rwa [pg _];have:=kX (bw m) o.1;have:=hV (bw m) o.1;have:=B.sum;exact Lle [_,_,_,_,_] [Q0 V0 Z8,Q0 V1 (.a V2 Z0),Q0 V2 V3,Q0 (.a V4 V3) (.a Z7 V0)] 0 V1 (.c 300) rfl t ‹(bH (bw m) o.fst).length≤(aO (bw m) o.fst).length+1› ‹(aO (bw m) o.fst).length≤o.fst› this
 have hl:=B.hl;have ll:=B.ll;have dl:∀{a5:Type} (f:a5→V) (l:List (Str×a5)),(ao f l).length=l.length:=λf l=>pg ..;have G:∀r,aG c (bP (sa (m.fmod 25) m (o.1:Int) (be m).1 (be m).2 ((bH (bw m) o.1).map aJ) (((aO (bw m) o.1).length:Nat):Int)) [] r):=λr=>eW K T L E (j6 a0 (j6 O λg m a4 h=>by exact noS h))
 have w:((o.1:Int) -(((aO (bw m) o.1).length:Nat):Int))=((o.1 -(aO (bw m) o.1).length:Nat):Int):=mX (hV (bw m) o.1);have I:∃r vc,aw vc∧ch (bP (sa (m.fmod 25) m (o.1:Int) (be m).1 (be m).2 ((bH (bw m) o.1).map aJ) (((aO (bw m) o.1).length:Nat):Int)) [] r) (bU LB 2) (.int m) (stN q o++[.iter false q j])=
  .ok vc .next ([.frame (fA q ((dG o m).1:Int)++([("m",V.int m),("root", .str (be m).1),("names", .fstrs (be m).2),("path", .str (aP m)),("more", .flist ((bH (bw m) o.1).map aJ)),("size", .int (((aO (bw m) o.1).length:Nat):Int))]:KL))]++c3++[.dict (ao bA (dG o m).2.1), .dict (ao bI (dG o m).2.2), .iter false q j, .list []]):=by
  have e1:bS (aP m) (bA (be m)) (ao bA o.2.1)=ao bA (dG o m).2.1:=gd ..;have F:∀l,aw l→aw ([ct 25≠ct 0]++(atC [.int (m.fmod 25)] [.int (m.fmod 25)] (.ftup [.str (be m).1, .fstrs (be m).2])++(jf (be m).1 (be m).2++(atC [.int m, .int (o.1:Int)] [.int m, .int (o.1:Int)] (.ftup [.flist ((bH (bw m) o.1).map aJ), .int (((aO (bw m) o.1).length:Nat):Int)])++l)))):=λl h=>
   aj.mpr (an ⟨by decide,KP⟩ (aj.mpr ⟨iX rfl rfl,aj.mpr ⟨gw r1 r2 (by exact Lle [_] [Q0 V0 Z17] 0 V0 Z16 rfl r3),aj.mpr ⟨iX rfl (by show(V.closedL 0 _&&true)=true;rwa [bi _];rfl),h⟩⟩⟩))
  cases J:lkS (aP m) o.2.2 with
  |none=>
   have W:bS (aP m) (.flist ([]++(bH (bw m) o.1).map aJ)) (ao bI o.2.2)=ao bI (dG o m).2.2:=by
    show _=ao bI (aT (aP m) ((lkS (aP m) o.2.2).getD []++_) o.2.2);rwa [J];exact gd bI _ ([]++bH (bw m) o.1) _
   have e:=EQ q (o.1:Int) m (((aO (bw m) o.1).length:Nat):Int) (ao bA o.2.1) (ao bI o.2.2) (be m).1 (be m).2 ((bH (bw m) o.1).map aJ) j;rw [show((be m).1++f1 ("/":Str) (be m).2)=aP m from rfl,w,show bS (aP m) (.ftup [.str (be m).1, .fstrs (be m).2]) (ao bA o.2.1)=_ from e1,W]at e;refine(eS _ _ (F [_,_,_,_] ⟨by rwa [dl _ _];exact Lle [_,_] [Q0 V0 Z8,Q0 V1 V0] 0 V1 (.c 16777216) rfl t hl, ?_,by exact Lle [_] [Q0 V0 (.c 300)] 0 (.a Z3 V0) (.c 16777216) rfl mo,by rwa [dl _ _];exact Lle [_,_] [Q0 V0 Z8,Q0 V1 V0] 0 V1 (.c 16777216) rfl t ll,KP⟩) e)
   rwa [cV _ _ _,J];rfl
  |some p=>
   have W:bS (aP m) (.flist (p.map aJ++(bH (bw m) o.1).map aJ)) (ao bI o.2.2)=ao bI (dG o m).2.2:=by
    show _=ao bI (aT (aP m) ((lkS (aP m) o.2.2).getD []++_) o.2.2);rwa [J,←Hv];exact gd bI _ (p++bH (bw m) o.1) _
   have e:=EP q (o.1:Int) m (((aO (bw m) o.1).length:Nat):Int) (ao bA o.2.1) (ao bI o.2.2) (be m).1 (be m).2 ((bH (bw m) o.1).map aJ) (p.map aJ) j;rw [show((be m).1++f1 ("/":Str) (be m).2)=aP m from rfl,w,show bS (aP m) (.ftup [.str (be m).1, .fstrs (be m).2]) (ao bA o.2.1)=_ from e1,W]at e;refine(eS _ _ (F [_,_,_,_] ⟨by rwa [dl _ _];exact Lle [_,_] [Q0 V0 Z8,Q0 V1 V0] 0 V1 (.c 16777216) rfl t hl, ?_,by rwa [pg _];have:=bl _ J;exact Lle [_,_] [Q0 V0 (.c 300),Q0 V1 (.c 220)] 0 (.a V1 V0) (.c 16777216) rfl mo this,by rwa [dl _ _];exact Lle [_,_] [Q0 V0 Z8,Q0 V1 V0] 0 V1 (.c 16777216) rfl t ll,KP⟩) e)
   rwa [cV _ _ _,J];rfl
 (refine aS I ?_;clear I;intro r vc hv e);refine bB e hv λv1 b1 a6 w1 g1 p1 g2 p2=> ?_;refine ex (((bj (G r) 40).A _ _ C _ s u (H.cfg rfl rfl) hu).use g1 p1) (λD s2 hZ=> ?_) λD D z=>z;obtain⟨a7,H2,X2,_⟩:=hZ;refine ka (G r) (k:=cA0) rfl rfl N (At.of H2 rfl rfl X2 N pn) g2 p2 λZ s' a9 y A3=>(an ?_ (A3.low h0 ?_ (show 0 < 7 by decide) (gk (show 3 < 7 by decide)) N))
 ·induction Z<;>first|exact .inl rfl|(cases y;done)|((refine ab y ?_;clear y;intro D h D);cases h)
 ·have U:=bn (n:=7) _ (aQ dv (dG o m).2.1)
  have Y:=bn (n:=7) _ (aQ cR (dG o m).2.2);exact⟨.frame ⟨rfl,rfl,rfl,rfl,KP⟩ (by show(V.closed 7 q&&true)=true;rwa [x];rfl), .same rfl, .same rfl, .same rfl, .same U, .same Y, .same x,KP⟩
end
theorem Bq(a:Int):0≤enc a:=by unfold enc;split<;>omega
theorem yM(d:KJ):∀m∈fk d,0≤m:=λm b=>by
 unfold fk at b
 split at b
 ·have:∀m∈[(4:Int),25,201],0≤m:=by decide
  exact this m b
 ·(refine ab (Hr.mp b) λa e c=> ?_;subst c);exact Bq a
theorem v7(a:KJ):(fk a).length≤60∧fk a≠[]:=by
 unfold fk
 split
 ·exact⟨by decide,by trivial⟩
 ·rename_i h
  exact⟨by rwa [pg _,p7];exact GY _ _,λe=>h (by rwa [e];rfl)⟩
theorem LB2:LB.drop 1=(LB.drop 1).take 1++eX (bU LB 2)::LB.drop 3:=by rfl'
theorem LB1:LB=LB.take 1++LB.drop 1:=(Gg 1 LB).symm
theorem Bo:cT (bU LB 2).2.1=false∧bT (bU LB 2).1=false:=⟨by rfl',by rfl'⟩
theorem DN(a:V)(d:Int)(c b:KL):(fns (bP [] [] []) 40).E (bU LB 2).2.1 ([.frame (fA a d)]++c3++[.dict c, .dict b])= .ok [] a ([.frame (fA a d)]++c3++[.dict c, .dict b]):=by rfl'
section
variable{P:ed}{b d:KC}{c:Cx}{s:dd}{Q:Hj→dd→Prop}
theorem yo{e:V}(f:V.closed 6 e=true)(a:BkT)(g:KM):lN 6 (stN e a++g) (stN e a):=
 ⟨.same (by show(V.closed 6 e&&true)=true;rwa [f];rfl), .same rfl, .same rfl, .same rfl, .same (bn (n:=6) _ (aQ dv a.2.1)), .same (bn (n:=6) _ (aQ cR a.2.2)),KP⟩
theorem wH:∀{e:KJ} (F:aR (KK P) b d) (T:ak c (KK P) b d) (B:av 6 c.A) (E:bC c) (r:c.d.ρ₀=[]) (O:∀m∈e,0≤m) (J:e.length≤60) (H:At c cA0 RT0 ([.frame [("numbers", .flist (e.map .int))]]++c3) s) (K:∀p,At c cA0 RT0 (stN (.flist (e.map .int)) (bL e)) p→eo c.M c.A (un (LB.drop 3) c.env) Q NoE p),eo c.M c.A (un (LB.drop 1) c.env) Q NoE s:=by
 revert P b d c s Q;refine' eI7;intro e Q s c d b P F T B E r O J H K;have G:aG c (bP [] [] []):=eW F T B E λg m I h=>by exact noS h
 have l:∀n,V.closed n (.flist (e.map V.int))=true:=λn=>V.closedL_mono _ (ip e);rwa [LB2];refine iW G (k:=cA0) rfl rfl (rT (n:=0)) H (qA1 _) trivial λs1 A1=> ?_;have A2:At c cA0 RT0 (stN (.flist (e.map V.int)) bk0) s1:=A1.low r (mu2:=stN (.flist (e.map V.int)) bk0) ⟨.frame ⟨rfl,rfl,rfl,rfl,KP⟩ (by show(V.closed 6 _&&true)=true;rwa [l _];rfl), .same rfl, .same rfl, .same rfl, .same rfl, .same rfl,KP⟩ (show 0 < 6 by decide) (gk (show 3 < 6 by decide)) rT
 obtain⟨a0,H1,_⟩:=A2;refine pp (ex (uS (R:=RT0) (k:=bP [] [] []) G.ok (q:=bU LB 2) (v:= .flist (e.map V.int)) (tup:=false) (xs:=e.map V.int) rfl Bo.1 (.inl Bo.2) (λi=>stN (.flist (e.map V.int)) (bL (e.take i))) 6 (λf=>rfl) ?_ rT λi x a4 p u it N Y pn hu=> ?_) (λZ p C=>ai C λD U=> ?_) λf f z=>z)
 ·refine((bj G 40).E (bU LB 2).2.1).use (H1.cfg rfl rfl) (DN _ _ _ _) trivial λu s2 w H2 X2 W=>(iA w H2 trivial W)
 ·obtain⟨m,j,rfl⟩:∃m,e[i]? =some m∧x= .int m:=by
   rw [II]at N;refine ab (mr.mp N) λm h1 h2=> ?_;exact(ah m h1 h2.symm)
  have L:i < e.length:=(hX.mp j).1;have hb:g7 (bL (e.take i)) i:=by have:=kJ (e.take i);rw [p7,GW (IM L)]at this;exact this
  have y:bL (e.take (i+1))=dG (bL (e.take i)) m:=by
   unfold bL;rwa [HO,j,HQ];rfl
  rwa [y];exact ex (vg F T B E r (l 7) hb (by exact Lle [_,_] [Q0 V0 Z8,Q0 (.a V1 Z0) V0] 0 V1 Z8 rfl J L) (O m (lf j)) (rT.at (show 6 < 7 by decide)) (Y.cfg rfl rfl) pn hu)
   (λf s2 h2=>ex h2 (λZ s3 ⟨D,o,t,A⟩=>⟨D,o,t.cfg rfl rfl,A⟩) λf f z=>z) λf f z=>z
 ·subst D
  rw [show(e.map V.int).length=e.length from pg ..,HW]at U;obtain⟨o,t,A⟩:=U;exact K p ((show At c cA0 RT0 _ p from⟨o,t.cfg rfl rfl,A⟩).low r (mu2:=stN _ _) (yo (l 6) _ _) (show 0 < 6 by decide) (gk (show 3 < 6 by decide)) rT)
end
section
variable{c:Cx}{k:Cfg}{R:Rel}{s:dd}
theorem zO(C:cZ c k){q:Expr×Expr×List k0×nR}{d:cv}{od:Hn}{kvs:List (Str×da)}{ep:Nat}(hB:c.d.B d od)(hd:KdkAt (JH c.prog c.w) od kvs ep)(w:(d==sysModules)=false)(m:cT q.2.1=false)(A:bT q.1=false)
 (st:Nat→List AO)(n:Nat)(g:∀i,(st i).length=n)(hR:dk n R)(l:eo c.M c.A (Gu q.2.1 c.env) (λu s1=>u= .ref d∧At c k R (st 0) s1) NoE s)
 (B:∀i x v t p F it,kvs[i]? =some (x,v)→At c k (RAt n it R) (st i++[.obj F]) p→
  eo c.M c.A (I5 q.1 c.env (.str x t)) (λe s2=>eo c.M c.A (un q.2.2.1 c.env) (λU s3=>(U= .next∨U= .cont)∧At c k (RAt n it R) (st (i+1)++[.obj F]) s3) NoE s2) NoE p):
 eo c.M c.A (IP (eX q) c.env) (λU p=>U= .next∧At c k R (st kvs.length++[.gone]) p) NoE s:=by
 revert C hB hd w m A g hR l B;revert c k R s q d od kvs ep st n;refine' eI11;intro n st ep kvs od d q s R k c C hB hd w m A g hR l B;refine wpAny_For (ex l (λu s1 hZ=> ?_) λe e z=>sq z) (gH m);obtain⟨hu,Z,G,r1⟩:=hZ;subst hu;refine wpAny_pyIter_dict w (hd.dictAt (G.rep.base _ _ hB)) ?_;refine ai (G.rep.alloc (a:=s1.heap.objs.size) (o:= .obj {cls:= .type "dict_keyiterator",data:= .fields #[.ref d, .int 0 0, .int kvs.length 0, .int ep 0]})
  (s':={s1 with heap:=s1.heap.push {cls:= .type "dict_keyiterator",data:= .fields #[.ref d, .int 0 0, .int kvs.length 0, .int ep 0]}}) (fx _) (by dsimp only;rwa [sm _ _];exact ph _) (λe e h=>g0 _ h) rfl rfl λe e=>Gl _ rfl) λR2 X2=> ?_
 have H2:ac c k (Z++[s1.heap.objs.size]) (st 0++[.obj {cls:= .type "dict_keyiterator",data:= .fields #[.ref d, .int 0 0, .int kvs.length 0, .int ep 0]}]) {s1 with heap:=s1.heap.push {cls:= .type "dict_keyiterator",data:= .fields #[.ref d, .int 0 0, .int kvs.length 0, .int ep 0]}}:=
  ⟨R2,G.tk,X2.pre _ _ G.fr,λx j h=>let⟨a,q1,q2⟩:=G.cl x j h;(ah a q1 (X2.pre _ _ q2))⟩
 have D:∀i o N,(st i++[o]).set n N=st i++[N]:=λi o N=>by
  rwa [←g i,List.set_append_right _ _ (fx _),GC _];rfl
 have y:∀i o,(st i++[o])[n]? =some o:=λi o=>by
  rwa [←g i,gv (fx _),GC _];rfl
 have ra:(Z++[s1.heap.objs.size])[n]? =some s1.heap.objs.size:=by
  rwa [←g 0,←G.rep.len,gv (fx _),GC _];rfl
 generalize s1.heap.objs.size=I at*;refine codeAny_mono (lF (n:=kvs.length) (λi p=>∃F,KdkIter F d i kvs.length ep∧At c k (RAt n I R) (st i++[.obj F]) p) (λp=>At c k R (st kvs.length++[.gone]) p) ⟨_,⟨rfl,rfl⟩,_,H2,ra,hR _ _ _ _ X2.froz (λi a e=>X2.pre i a) r1⟩
  (P:=λi e r s3=>(r=none∧i=kvs.length∧At c k R (st kvs.length++[.gone]) s3)∨∃x v t f,r=some (.str x t)∧kvs[i]? =some (x,v)∧KdkIter f d (i+1) kvs.length ep∧At c k (RAt n I R) (st i++[.obj f]) s3)
  (λi p hi h=> ?_) (λi p s3 hi e h3=> ?_) λi p s3 u hi e h3=> ?_) λa7 p h=>h
 ·obtain⟨F,L,a9,H,E⟩:=h
  have ho:=H.rep.objs _ _ _ E.1 (y i _);have T:=hd.dictAt (H.rep.base _ _ hB);cases J:kvs[i]? with
  |none=>
   have a5:i=kvs.length:=Nat.le_antisymm hi (Jf.mp J);subst a5;refine kj (wpAny_pyNext_dict_end C.handled (L.at ho) T J λK he hz=> ?_);refine ai (H.put (o':= .gone) (h':=K) E.1 (y _ _) rfl (λb ob hb h=>he b ob hb h) hz λe e=>trivial) λY W=> ?_;rw [D]at Y W;exact .inl ⟨rfl,rfl,_,Y,hR _ _ _ _ W.froz (λe e e h=>h) E.2⟩
  |some xv=>
   obtain⟨x,v⟩:=xv;refine wpAny_pyNext_dict_item (L.at ho) T J λa6 K hk O hs=> ?_;(refine au (da.isStrOf_shape hk) λt a0=> ?_;subst a0);(refine eh O ?_;clear O;intro f a4 kc kd);refine ai (H.put (o':= .obj f) (h':=K) E.1 (y _ _) rfl (λb ob hb h=>(hs.2 b hb).trans h) (Ha hs.1.symm) λe e=>a4) λY W=> ?_;rw [D]at Y W;exact .inr ⟨x,v,t,f,rfl,rfl,⟨kc,kd⟩,_,Y,E.1,hR _ _ _ _ W.froz (λe e e h=>h) E.2⟩
 ·rcases h3 with⟨_,_,A3⟩|⟨x,v,t,f,h,_⟩
  ·exact A3
  ·exact noS h
 ·rcases h3 with⟨h,_⟩|⟨x,v,t,f,er,J,kit',A3⟩
  ·exact sNo h
  ·obtain rfl:=ds er
   rwa [pC A];exact(an (jW J) (eM (ex (B i x v t s3 f I J A3) (λe s4 h4=>ex h4 (λU s5 h5=>⟨h5.1,f,kit',h5.2⟩) λe e z=>z) λe e z=>z)))
end
end Mine
section
open PySem.Builtin PySem.Builtin.Str
namespace Mine
theorem vJ:∀l:List Nat,(rep 39 [39,34,39,34,39] l).length≤5*l.length:=by
 intro d
 induction d with
 |nil=>
  exact fx _
 |cons k r b=>
  show((if k=39 then [39,34,39,34,39]else [k])++rep 39 [39,34,39,34,39] r).length≤5*(r.length+1);have e:=b;rwa [is]
  split
  ·show 5+_≤_;exact Lle [_,_] [Q0 V0 (.m 5 V1)] 0 (.a (.c 5) V0) (.m 5 (.a V1 Z0)) rfl e
  ·show 1+_≤_;exact Lle [_,_] [Q0 V0 (.m 5 V1)] 0 (.a Z0 V0) (.m 5 (.a V1 Z0)) rfl e
theorem yC{l:KF}{c:Nat}(h:c∈rep 39 [39,34,39,34,39] l):c=39∨c=34∨c∈l:=by
 refine ab (List.mem_flatMap.mp h) λk b a=> ?_
 split at a
 ·have:∀c∈[39,34,39,34,39],c=39∨c=34:=by decide
  exact(this c a).imp id .inl
 ·rwa [mx.mp a];exact .inr (.inr b)
theorem gh(a b:Str):cp (a++b)=cp a++cp b:=by unfold cp;(rwa [Gy _ _,wh];rfl)
theorem vQ:∀(x:Str),(cp (br x)).length≤5*x.length+2∧∀c∈cp (br x),c=39∨c=34∨c∈cp x:=by
 refine' eI1;intro x;unfold br
 split
 ·split
  ·exact⟨by rwa [dc _];exact Lle [_] [] 0 V0 (.a (.m 5 V0) Z4) rfl,λc h=> .inr (.inr h)⟩
  ·have b:cp (Hy x ("'":Str) ("'\"'\"'":Str))=rep 39 [39,34,39,34,39] (cp x):=kU x ("'\"'\"'":Str) 39
   have h1:cp ("'":Str)=[39]:=by rfl'
   rwa [gh _ _,gh _ _,b,h1];refine⟨?_,λc hc=> ?_⟩
   ·have:=vJ (cp x)
    rw [dc]at this;simp only [is,ix,J4];exact Lle [_,_] [Q0 V0 (.m 5 V1)] 0 (.a (.a (.a Z3 Z0) V0) (.a Z3 Z0)) (.a (.m 5 V1) Z4) rfl this
   ·simp only [sz,mx]at hc
    rcases hc with(hc|hc)|hc
    ·exact .inl hc
    ·exact yC hc
    ·exact .inl hc
 ·have h1:cp ("''":Str)=[39,39]:=by rfl'
  rwa [h1];exact⟨by simp,λc hc=> .inl ((by decide:∀c∈[39,39],c=39) c hc)⟩
def eT(a:aU):Str:=(if a.1 then("use ":Str)else "")++br (f1 ("/":Str) a.2.1)++I2 (" \n":Str) ((a.2.2:Nat):Int)
def bz(a:List aU):Str:=a.foldl (λt b=>t++eT b) ""
theorem pj:∀{a:aU} (h:de a),cp (eT a)=gS a:=by
 refine' eI1;intro a h;unfold eT gS;rwa [gh _ _,gh _ _,oq _ _ _];have c:cp (if a.1 then("use ":Str)else "")=if a.1 then [117,115,101,32]else []:=by
  cases a.1<;>kernel_rfl
 have b:cp (I2 (" \n":Str) ((a.2.2:Nat):Int))=[if a.2.2=1 then 10 else 32]:=by
  rcases Nat.le_one_iff_eq_zero_or_eq_one.mp h.2.1 with e|e<;>rwa [e]<;>kernel_rfl
 (rwa [c,b];rfl)
theorem wL:∀(a:List aU) (t:Str),(∀i∈a,de i)→cp (a.foldl (λt e=>t++eT e) t)=cp t++aW a:=by
 intro c
 induction c with
 |nil=>
  intro t _;show cp t=cp t++[];(rwa [HL _];rfl)
 |cons i r b=>
  intro t h;rwa [Gd,b _ λj d=>h j (iv _ d),gh _ _,pj (h i il),oq _ _ _];rfl
theorem mP{a:List aU}(h:∀i∈a,de i):cp (bz a)=aW a:=wL a "" h
theorem sX{a:List aU}(h:∀i∈a,de i):bz a=S (aW a):=by(rwa [←mP h,B9 _];rfl)
def ic(a:aU):Prop:=de a∧a.2.1.length≤160
theorem pH:∀{d:aU} (h:de d),(gS d).length≤25*d.2.1.length+10∧(br (f1 ("/":Str) d.2.1)).length≤25*d.2.1.length+2∧∀c∈gS d,c∈ke:=by
 refine' eI1;intro d h;have i:=lh h.1;have f:(f1 ("/":Str) d.2.1).length≤5*d.2.1.length:=by
  have a:=f3 d.2.1;have b:=iE (m:=4) λx j=>kt (h.1 x j);exact Lle [_,_,_] [Q0 V0 (.a V1 V2),Q0 V1 (.m 4 V2)] 0 V0 (.m 5 V2) rfl a b
 have g:=vQ (f1 ("/":Str) d.2.1);have e:=g.1;rw [dc]at e;refine(cB ?_ (by exact Lle [_,_,_] [Q3 V0 (.m 5 V1),Q0 V2 (.a (.m 5 V0) Z4)] 0 V2 (.a (.m 25 V1) Z4) rfl f e) (λc hc=> ?_))
 ·rwa [is,is,dc _]
  have h1:(if d.1 then [117,115,101,32]else([]:KF)).length≤4:=by split<;>decide
  have h2:[if d.2.2=1 then 10 else 32].length=1:=rfl;exact Lle [_,_,_,_,_] [Q3 V0 (.m 5 V1),Q0 V2 (.a (.m 5 V0) Z4),Q0 V3 Z21,Q1 V4 Z0] 0 (.a V3 (.a V2 V4)) (.a (.m 25 V1) (.c 10)) rfl f e h1 h2
 ·rcases sz.mp hc with hc|hc
  ·have:∀b:Bool,∀c∈(if b then [117,115,101,32]else([]:KF)),c∈ke:=by decide
   exact this _ c hc
  ·rcases sz.mp hc with hc|hc
   ·rcases g.2 c hc with rfl|rfl|hc
    ·decide
    ·decide
    ·have:∀c∈[97,98,105,116,39,115,46,47],c∈ke:=by decide
     exact this c (i c hc)
   ·rwa [mx.mp hc];split<;>decide
theorem nE:∀{d:List aU},(∀i∈d,ic i)→(aW d).length≤4010*d.length∧∀c∈aW d,c∈ke:=by
 intro f
 induction f with
 |nil=>
  intro _;exact(an (so _) (λc h=>by cases h))
 |cons i r e=>
  intro h;have a:=pH (h i il).1;have a2:=(h i il).2;have b:=e λj g=>h j (iv _ g);show(gS i++aW r).length≤4010*(r.length+1)∧∀c∈gS i++aW r,_;rwa [is];exact(an (by exact Lle [_,_,_,_] [Q0 V0 (.a (.m 25 V1) (.c 10)), .h 0 25 0 V1 Z7,Q0 V2 (.m 4010 V3)] 0 (.a V0 V2) (.m 4010 (.a V3 Z0)) rfl a.1 a2 b.1) (λc k=>(sz.mp k).elim (a.2.2 c) (b.2 c)))
theorem uD(N:Nat):∀(b:KF) (a:List aU×List Str) (n:Nat),n+b.length≤N→(∀i∈a.1,i.2.1.length≤N)→a.2.length≤n→(∀i∈(b.foldl bG a).1,i.2.1.length≤N)∧(b.foldl bG a).2.length≤N:=by
 intro j
 induction j with
 |nil=>
  intro a n f h1 h2;exact(an h1 (by simp at f;show a.2.length≤N;exact Lle [_,_,_] [Q0 V0 V1,Q0 V2 V0] 0 V2 V1 rfl f h2))
 |cons d b g=>
  intro a n f h1 h2;rwa [Gd];have e:n+1+b.length≤N:=by rw [ix]at f;exact Lle [_,_,_] [Q0 (.a V0 (.a V1 Z0)) V2] 0 (.a (.a V0 Z0) V1) V2 rfl f
  refine g _ (n+1) e ?_ ?_
  ·unfold bG
   split
   ·exact h1
   ·intro i hi
    rcases sz.mp hi with hi|hi
    ·exact h1 i hi
    ·rwa [mx.mp hi];show a.2.length≤N;exact Lle [_,_,_,_] [Q0 V0 V1,Q0 (.a (.a V1 Z0) V2) V3] 0 V0 V3 rfl h2 e
  ·unfold bG
   split
   ·show(a.2++[_]).length≤n+1;rwa [is];simp;exact h2
   ·exact so _
theorem yZ(m b:Nat)(h:b≤160):∀i∈bH m b,ic i:=by
 have d:=hV m b;refine ai (uD 160 (aO m b) ([],[]) 0 (by exact Lle [_,_] [Q0 V0 Z7,Q0 V1 V0] 0 (.a Z3 V1) Z7 rfl h d) (λi hi=>by simp at hi) (fx _)) λh1 h2=> ?_
 refine λi hi=>⟨wm m b (by exact Lle [_] [Q0 V0 Z7] 0 V0 Z1 rfl h) i hi, ?_⟩
 unfold bH ji at hi
 split at hi
 ·exact h1 i hi
 ·rcases sz.mp hi with hi|hi
  ·exact h1 i hi
  ·rwa [mx.mp hi];exact h2
def jC(l:cE):Prop:=∀p∈l,∀i∈p.2,ic i
theorem zJ{b:BkT}(h:jC b.2.2)(a:b.1≤160)(m:Int):jC (dG b m).2.2:=by
 revert h a;revert b m;refine' eI2;intro m b h a;exact λp hp i hi=>by
  rcases pA hp with rfl|hp
  ·rcases sz.mp hi with hi|hi
   ·cases q:lkS (aP m) b.2.2 with
    |none=>rw [q]at hi;cases hi
    |some c=>rw [q]at hi;exact h _ (eL q) i hi
   ·exact yZ _ _ a i hi
  ·exact h p hp i hi
theorem mC(a:KJ):jC (bL a).2.2:=by
 have:∀(a:KJ) (b:BkT),jC b.2.2→b.1≤160→jC (a.foldl dG b).2.2:=by
  intro a
  induction a with
  |nil=>intro b h _;exact h
  |cons m r e=>intro b h c;rwa [Gd];exact e _ (zJ h c m) (h9 (J5 _ _) c)
 exact this a bk0 (λp d=>by cases d) (fx _)
def fz{a:Type}(l:List (Str×a)):Prop:=(l.map (·.1)).Nodup
theorem zb{a:Type}{x:Str}{v:a}{l:List (Str×a)}:fz l→(x,v)∈l→lkS x l=some v:=by
 induction l with
 |nil=>exact λc h=>absurd h HB
 |cons p r b=>
  intro h hm;have h:=GK.mp (show(p.1::r.map (·.1)).Nodup from h);show(bif af x p.1 then some p.2 else lkS x r)=some v;rcases q4.mp hm with e|hm
  ·rwa [←e,aB.mpr rfl];rfl
  ·rwa [ee (x:=x) (y:=p.1) λq=>h.1 (q▸List.mem_map_of_mem (f:=λy:Str×a=>y.1) hm)]
   exact b h.2 hm
end Mine
end
namespace Mine
theorem DB:fF.2.2.1=fF.2.2.1.take 1++eX j0::[]:=by rfl'
theorem DI:j0.2.1= .Subscript (.Name "lines" ⟨922,31,922,36⟩) (.Name "path" ⟨922,37,922,41⟩) ⟨922,31,922,42⟩:=by rfl'
theorem DT:bT fF.1=false:=by rfl'
def cG(b:V)(d:cv)(c:Int)(e:KL)(a:List (Str×Str))(l:KL):List AO:=[fD b d c l]++c3t++[.dict e, .dict (ao V.str a)]
section
variable(b:V)(d:cv)(c:Int)(f:KL)(a:List (Str×Str))(x:Str)(e:AO)
theorem qAp:(fns (bP [] [] []) 40).A fF.1 (.str x) (cG b d c f a []++[e])= .ok [] () (cG b d c f a [("path", .str x)]++[e]):=by rfl'
theorem qAl:(fns (bP [] [] []) 40).E (.Name "lines" ⟨922,31,922,36⟩) (cG b d c f a [("path", .str x)]++[e])= .ok [] (.adr d) (cG b d c f a [("path", .str x)]++[e]):=by rfl'
theorem qAq:(fns (bP [] [] []) 40).E (.Name "path" ⟨922,37,922,41⟩) (cG b d c f a [("path", .str x)]++[e])= .ok [] (.str x) (cG b d c f a [("path", .str x)]++[e]):=by rfl'
end
theorem tU{d:Type}(x:Str)(v w:d):∀l:List (Str×d),aT x v (aT x w l)=aT x v l:=by
 intro c
 induction c with
 |nil=>
  show(bif af x x then [(x,v)]else(x,w)::aT x v [])=[(x,v)];rwa [aB.mpr rfl];rfl
 |cons b r a=>
  obtain⟨k,u⟩:=b;show aT x v (bif af x k then(k,w)::r else(k,u)::aT x w r)=bif af x k then(k,v)::r else(k,u)::aT x v r;cases q:af x k
  ·show(bif af x k then(k,v)::aT x w r else(k,u)::aT x v (aT x w r))=(k,u)::aT x v r
   rwa [q,a];rfl
  ·show(bif af x k then(k,v)::r else(k,w)::aT x v r)=(k,v)::r
   rwa [q];rfl
theorem rh(a:List aU)(i:aU):bz (a++[i])=bz a++eT i:=by unfold bz;rwa [HQ];rfl
theorem vj{its:List aU}(h:∀i∈its,ic i):(bz its).length≤4010*its.length:=by
 rwa [←dc _,mP λi a=>(h i a).1];exact(nE h).1
section
variable{P:ed}{a b:KC}{c:Cx}{s:dd}
theorem dH(x:Str):V.closed 0 (V.str x)=true:=rfl
theorem yn{e:V}(h:∀n,V.closed n e=true){d:cv}{f:Int}{k:KL}(j:aC 0 k=true){g:List (Str×Str)}{l:KL}{io:AO}(n:Nat)(p:6≤n)(i:io.closed n=true){l2:KL}(o:iC (("numbers",e)::("homes",V.ref 4)::("lines", .adr d)::("left", .int f)::l) l2)(m:aC n l2=true)(r:KM):
 lN n (cG e d f k g l++(io::r)) (cG e d f k g l2++[io]):=by
 have q:aC n (("numbers",e)::("homes",V.ref 4)::("lines", .adr d)::("left", .int f)::l2)=true:=by
  show(V.closed n e&&(G6 4 n&&(true&&(true&&aC n l2))))=true;rwa [h _,m,show G6 4 n=true from GQ (by lia)];rfl
 exact⟨.frame ⟨rfl,rfl,rfl,rfl,o⟩ q, .same rfl, .same (show G6 5 n=true from GQ p), .same rfl, .same (bn (n:=n) _ j), .same (bn (n:=n) _ (aQ dH g)), .same i,KP⟩
theorem vh:∀{F:V} {d:cv} {J:Int} {I:KL} {tx:List (Str×Str)} {x:Str} {io:Hn} {t:Str} {y:aU} {B:V} {i:Nat} {R:Rel} {O:KB} {u:da} (Tp:aR (KK P) a b) (T:ak c (KK P) a b) (hr:av 6 c.A) (E:bC c) (h0:c.d.ρ₀=[]) (W:∀n,V.closed n F=true) (a0:aC 0 I=true) (a5:tx.length≤60) (ht:t.length≤1000000) (C:ic y) (K:V.closed 8 B=true) (hR:dk 8 R) (H:ac c cA0 O (cG F d J I (aT x t tx) [("path", .str x)]++[.obj io]++[.iter false B i]) s) (pn:R (aa c.d O (cG F d J I (aT x t tx) [("path", .str x)]++[.obj io]++[.iter false B i]) s.heap) O) (hu:Val (aa c.d O (cG F d J I (aT x t tx) [("path", .str x)]++[.obj io]++[.iter false B i]) s.heap) O (aJ y) u),eo c.M c.A (I5 j0.1 c.env u) (λU s2=>eo c.M c.A (un j0.2.2.1 c.env) (λfl s3=>(fl= .next∨fl= .cont)∧At c cA0 R (cG F d J I (aT x (t++eT y) tx) [("path", .str x)]++[.obj io]++[.iter false B i]) s3) NoE s2) NoE s:=by
 revert P a b c s;refine' eI19;intro u O R i B y t io x tx I J d F s c b a P Tp T hr E h0 W a0 a5 ht C K hR H pn hu;(refine ai C ?_;clear C;intro C o);refine ax (pH C) λl1 l2 U=> ?_;rw [←pj C,dc]at l1;have hj:(f1 ("/":Str) y.2.1).length≤1000∧(IE (λ(x:Str)=>x.length) y.2.1).sum≤1000:=by
  have f:=f3 y.2.1;have j:=iE (m:=4) λx hx=>kt (C.1 x hx);have e:(IE (λ(x:Str)=>x.length) y.2.1).sum=cF y.2.1:=rfl;exact(an (Lle [_,_,_] [Q3 V0 Z7,Q0 V1 (.a V2 V0),Q0 V2 (.m 4 V0)] 0 V1 Z1 rfl o f j) (Lle [_,_,_] [.h 0 4 0 V0 Z7,Q0 V1 (.m 4 V0),Q1 V2 V1] 0 V2 Z1 rfl o j e))
 have a7:aI c 744 0 (sAt [.str (f1 ("/":Str) y.2.1)] [] [] (.str (br (f1 ("/":Str) y.2.1))) []):=(C9 Tp T (hr.le (by decide))).at rfl ⟨by exact Lle [_] [Q0 V0 Z1] 0 V0 Z2 rfl hj.1,KP⟩
 have G:∀D,aG c (bP [(744,0,sAt [.str (f1 ("/":Str) y.2.1)] [] [] (.str (br (f1 ("/":Str) y.2.1))) [])] [] D):=λD=>eW Tp T hr E (j6 a7 λg m a9 h=>by cases h)
 have Z:∃D vc,aw vc∧ch (bP [(744,0,sAt [.str (f1 ("/":Str) y.2.1)] [] [] (.str (br (f1 ("/":Str) y.2.1))) [])] [] D) j0 (aJ y) (cG F d J I (aT x t tx) [("path", .str x)]++[.obj io]++[.iter false B i])=
  .ok vc .next (cG F d J I (aT x (t++eT y) tx) [("path", .str x),("used", .bool y.1),("row", .fstrs y.2.1),("ends", .int ((y.2.2:Nat):Int))]++[.obj io, .iter false B i]):=by
  obtain⟨a4,q,r⟩:=y;have e1:lk x (ao V.str (aT x t tx))=some (V.str t):=by rwa [cV _ _ _,fZ _ _ _ _,if_pos rfl];rfl
  have L:(ao V.str (aT x t tx)).length≤61:=by rwa [show(ao V.str (aT x t tx)).length=_ from pg ..];have:=jc x t tx;exact Lle [_,_] [Q0 V0 Z8,Q0 V1 (.a V0 Z0)] 0 V1 (.c 61) rfl a5 this
  have he:r≤1:=C.2.1;have Y:∀l,aw l→aw ([lk x (ao V.str (aT x t tx))=some (V.str t)]++([1≤64,(IE (λ(x:Str)=>x.length) q).sum+q.length*64≤16777216]++(atC [.str (f1 "/" q)] [.str (f1 "/" q)] (.str (br (f1 ("/":Str) q)))++l))):=λl h=>
   aj.mpr (an ⟨e1,KP⟩ (aj.mpr ⟨⟨by decide,by have:=hj.2;dsimp only at this o;exact Lle [_,_] [.h 0 64 0 V0 Z7,Q0 V1 Z1] 0 (.a V1 (.w V0 64)) (.c 16777216) rfl o this,KP⟩,aj.mpr ⟨iX rfl rfl,h⟩⟩))
  have e3:∀p,bS x (.str (t++p)) (ao V.str (aT x t tx))=ao V.str (aT x (t++p) tx):=λp=>by(rwa [gd V.str _ _ _,tU _ _ _ _];rfl)
  dsimp only at l1 l2 o;have up:∀us:Str,us.length≤4→(us++br (f1 ("/":Str) q)).length≤5000:=λus h=>by rwa [z1 _ _];exact Lle [_,_,_] [.h 0 25 0 V0 Z7,Q0 V1 (.a (.m 25 V0) Z4),Q0 V2 Z21] 0 (.a V2 V1) Z20 rfl o l2 h
  induction a4 with
  |true=>
   have e:=qA5 F d J I (ao V.str (aT x t tx)) x (.obj io) q ((r:Nat):Int) (br (f1 ("/":Str) q)) t "" B i;rw [show((("use ":Str)++br (f1 ("/":Str) q))++I2 (" \n":Str) ((r:Nat):Int))=eT (true,q,r)from rfl,e3]at e;exact(eS _ _ (Y [_,_,_,_,_,_,_] ⟨by exact Lle [_,_] [.h 0 25 0 V0 Z7,Q0 V1 (.a (.m 25 V0) Z4)] 0 (.a Z21 V1) (.c 16777216) rfl o l2,by show(kV 1:Int)≤_;have:(kV 1:Int)=-2:=rfl;simp,by show _ < (2:Int);omega,by decide,by have:=up "use " (by decide+kernel);exact Lle [_] [Q0 V0 Z20] 0 (.a V0 Z0) (.c 16777216) rfl this,by exact Lle [_,_,_] [Q0 V0 Z2, .h 0 25 0 V1 Z7,Q0 V2 (.a (.m 25 V1) (.c 10))] 0 (.a V0 V2) (.c 16777216) rfl ht o l1,by exact Lle [_] [Q0 V0 (.c 61)] 0 V0 (.c 16777216) rfl L,KP⟩) e)
  |false=>
   have e:=EO F d J I (ao V.str (aT x t tx)) x (.obj io) q ((r:Nat):Int) (br (f1 ("/":Str) q)) t "" B i;rw [show((("":Str)++br (f1 ("/":Str) q))++I2 (" \n":Str) ((r:Nat):Int))=eT (false,q,r)from rfl,e3]at e;exact(eS _ _ (Y [_,_,_,_,_,_,_] ⟨by exact Lle [_,_] [.h 0 25 0 V0 Z7,Q0 V1 (.a (.m 25 V0) Z4)] 0 (.a Z3 V1) (.c 16777216) rfl o l2,by show(kV 1:Int)≤_;have:(kV 1:Int)=-2:=rfl;omega,by show _ < (2:Int);omega,by decide,by have:=up "" (by decide+kernel);exact Lle [_] [Q0 V0 Z20] 0 (.a V0 Z0) (.c 16777216) rfl this,by exact Lle [_,_,_] [Q0 V0 Z2, .h 0 25 0 V1 Z7,Q0 V2 (.a (.m 25 V1) (.c 10))] 0 (.a V0 V2) (.c 16777216) rfl ht o l1,by exact Lle [_] [Q0 V0 (.c 61)] 0 V0 (.c 16777216) rfl L,KP⟩) e)
 (refine aS Z ?_;clear Z;intro D vc hv e);refine bB e hv λv1 b1 ad w1 g1 p1 g2 p2=> ?_;refine ex (((bj (G D) 40).A _ _ O _ s u (H.cfg rfl rfl) hu).use g1 p1) (λU s2 hZ=> ?_) λU U z=>z;obtain⟨ag,H2,X2,_⟩:=hZ;refine ka (G D) (k:=cA0) rfl rfl hR (At.of H2 rfl rfl X2 hR pn) g2 p2 λa6 s' al N A3=>(an ?_ (A3.low h0 (mu2:=cG _ _ _ _ _ _++[_]++[_]) ?_ (show 0 < 8 by decide) (gk (show 3 < 8 by decide)) hR))
 ·induction a6<;>first|exact .inl rfl|(cases N;done)|((refine ab N ?_;clear N;intro U h U);cases h)
 ·exact⟨.frame ⟨rfl,rfl,rfl,rfl,rfl,KP⟩ (by show(V.closed 8 F&&true)=true;rwa [W _];rfl), .same rfl, .same rfl, .same rfl, .same (bn (n:=8) _ a0), .same (bn (n:=8) _ (aQ dH _)), .same rfl, .same K,KP⟩
end
def bF(b:cE):List (Str×Str):=b.foldl (λa p=>aT p.1 (bz p.2) a) []
theorem lV(a:cE)(p:Str×List aU):bF (a++[p])=aT p.1 (bz p.2) (bF a):=by unfold bF;rwa [HQ];rfl
theorem sW(d:cE):(bF d).length≤d.length:=by
 unfold bF;have:∀(d:cE) (b:List (Str×Str)),(d.foldl (λb p=>aT p.1 (bz p.2) b) b).length≤b.length+d.length:=by
  intro d
  induction d with
  |nil=>intro b;exact fx _
  |cons p r e=>intro b;rwa [Gd,ix];have:=e (aT p.1 (bz p.2) b);have:=jc p.1 (bz p.2) b;exact Lle [_,_,_,_] [Q0 V0 (.a V1 V2),Q0 V1 (.a V3 Z0)] 0 V0 (.a V3 (.a V2 Z0)) rfl ‹(List.foldl (λb p=>aT p.fst (bz p.snd) b) (aT p.fst (bz p.snd) b) r).length≤(aT p.fst (bz p.snd) b).length+r.length› this
 have:=this d []
 simp_all
theorem Be{F:aA}{g:KB}{f:List aU→V}{x:Str}{v:da}{b:cE}:∀{a:List (Str×da)} {i:Nat},KVs F g (ao f b) a→a[i]? =some (x,v)→∃c,b[i]? =some (x,c):=by
 induction b with
 |nil=>exact λ{_ i} h e=>noS (((show _=[]from h)▸e:([]:List (Str×da))[i]? =some (x,v)))
 |cons y r j=>
  intro a i d;refine bg d λu q h1 k h3=> ?_;subst h1
  induction i using Ge with
  |zero=>exact λe=>⟨y.2,(Prod.mk.inj (ds e)).1▸rfl⟩
  |succ i=>exact λe=>j h3 e
theorem wx{F:aA}{j:KB}{f:List aU→V}:∀{g:cE} {a:List (Str×da)},KVs F j (ao f g) a→a.map (·.1)=g.map (·.1):=by
 intro c
 induction c with
 |nil=>
  intro a h;rwa [show a=[]from h];rfl
 |cons d r b=>
  obtain⟨k,i⟩:=d;intro _ e;(refine bg e ?_;clear e;intro u q h1 l h3);exact by subst h1;(rwa [GJ,GJ,b h3];rfl)
section
variable{P:ed}{a b:KC}{c:Cx}{s:dd}{Q:Hj→dd→Prop}
def RKV(e:cE)(d:List (Str×da)):Rel:=λF f=>KVs F f (ao bI e) d
theorem rkv{f:cE}{e:List (Str×da)}{n:Nat}:dk n (RKV f e):=λF k l j L P h=>KVs.cut (n:=0) L (λi d g=>absurd g (o1 _)) _ _ (aQ cR f) h
theorem vf:∀{C:V} {d:cv} {J:Int} {B:KL} {l:cE} {od:Hn} {o:List (Str×da)} {ep:Nat} {i:Nat} {x:Str} {v:da} {t:Tok} {r:Hn} {I:cv} (Tp:aR (KK P) a b) (T:ak c (KK P) a b) (hr:av 6 c.A) (E:bC c) (h0:c.d.ρ₀=[]) (N:∀n,V.closed n C=true) (W:aC 0 B=true) (a5:jC l) (L:dQ l≤220) (F:l.length≤60) (hB:c.d.B d od) (hd:KdkAt (JH c.prog c.w) od o ep) (hx:o[i]? =some (x,v)) (H:At c cA0 (RAt 6 I (RKV l o)) (cG C d J B (bF (l.take i)) []++[.obj r]) s),eo c.M c.A (I5 fF.1 c.env (.str x t)) (λp s2=>eo c.M c.A (un fF.2.2.1 c.env) (λfl s3=>(fl= .next∨fl= .cont)∧At c cA0 (RAt 6 I (RKV l o)) (cG C d J B (bF (l.take (i+1))) []++[.obj r]) s3) NoE s2) NoE s:=by
 revert P a b c s;refine' eI19;intro I r t v x i ep o od l B J d C s c b a P Tp T hr E h0 N W a5 L F hB hd hx H;have G:∀Z,aG c (bP [] [] Z):=λZ=>eW Tp T hr E λg m b2 h=>by exact noS h
 have Y:dk 7 (RAt 6 I (RKV l o)):=rkv.at (by decide)
 obtain⟨b5,H,pn⟩:=H;refine au (Be pn.2 hx) λf hi=> ?_;have D:=lf hi;have K:∀j∈f,ic j:=a5 _ D;have b0:f.length≤220:=h9 (gK D) L;have a9:fz l:=by
  (refine xg hd ?_;clear hd;intro es p p p p hn);unfold fz;rwa [←wx pn.2];exact hn
 have ap:lkS x l=some f:=zb a9 D;have a6:=h9 (sW (l.take i)) (by rwa [p7];exact HC _ _)
 refine ex (((bj (G []) 40).A fF.1 (.str x) b5 _ s (.str x t) (H.cfg rfl rfl) ⟨t,rfl⟩).use (qAp C d J B (bF (l.take i)) x (.obj r)) trivial) (λp s2 hZ=> ?_) λp p z=>z;obtain⟨b6,H2,X2,_⟩:=hZ;have A2:=At.of (k:=cA0) H2 rfl rfl X2 Y pn;rwa [DB];refine iW (G []) (k:=cA0) rfl rfl Y A2 (qA4 C d J B (ao V.str (bF (l.take i))) x (.obj r)) ⟨by rwa [show(ao V.str (bF (l.take i))).length=_ from pg ..];exact Lle [_,_] [Q0 V0 Z8,Q0 V1 V0] 0 V1 (.c 16777216) rfl F a6,KP⟩ λs3 A3=> ?_
 rw [gd V.str]at A3;obtain⟨a0,H3,p3⟩:=A3;have a4:∀n,V.closed n (bI f)=true:=λn=>V.closedL_mono _ (bi f);refine pp (ex (uS (k:=bP [] [] []) (R:=RAt 6 I (RKV l o)) (G []).ok (q:=j0) (v:=bI f) (tup:=false) (xs:=f.map aJ) rfl (by rwa [DI];rfl) (.inr rfl)
  (λj=>cG C d J B (aT x (bz (f.take j)) (bF (l.take i))) [("path", .str x)]++[.obj r]) 7 (λp=>rfl) ?_ Y λj y b7 s' u it hy H' ad hu=> ?_) (λfl s' O=>ai O λhf A4=> ?_) λp p z=>z)
 ·rwa [DI]
  refine Subscript_ (((bj (G []) 40).E _).use (H3.cfg rfl rfl) (qAl C d J B _ x (.obj r)) trivial λu s4 b4 H4 X4 r4=>((bj (G []) 40).E _).use H4 (qAq C d J B _ x (.obj r)) trivial λu2 s5 U H5 X5 r5=> ?_);obtain rfl:u= .ref d:=r4;(refine au r5 ?_;clear r5;intro t' O;subst O);have a7:=(hd.dictAt (H5.rep.base _ _ hB)).dictOf;have p5:=Y _ _ _ _ X5.froz (λi e p=>X5.pre i e) (Y _ _ _ _ X4.froz (λi e p=>X4.pre i e) p3);have g:=KVs.valueAt (k:=x) p5.2;rw [cV,ap]at g;(refine ab g ?_;clear g;intro w g1 g2);refine au (fh (.Name "path" ⟨922,37,922,41⟩) (.ref d) (.str x t')) λb3 as=> ?_;refine JO a7.typeIs slot_dict_getitem.lookup (wpAny_getItem_of (Jr _ _ x t') a7.mapOf g1 ?_) as;refine ai (H5.same (s':={s5 with toks:=s5.toks+1}) rfl rfl rfl (oa H5.tk)) λH6 X6=> ?_
  exact(iA U H6 (Y _ _ _ _ X6.froz (λi e p=>X6.pre i e) p5) (X6.val g2))
 ·obtain⟨ar,hj,rfl⟩:∃m,f[j]? =some m∧y=aJ m:=by
   rw [II]at hy;refine ab (mr.mp hy) λm h1 h2=> ?_;exact(ah m h1 h2.symm)
  have ag:bz (f.take (j+1))=bz (f.take j)++eT ar:=by rwa [HO,hj];exact rh _ _
  rwa [ag];have b1:=vj (its:=f.take j) λk hk=>K k (Ik hk);have al:(f.take j).length≤220:=h9 (by rwa [p7];exact HC _ _) b0
  refine ex (vh Tp T hr E h0 N W (tx:=bF (l.take i)) (by exact Lle [_,_] [Q0 V0 Z8,Q0 V1 V0] 0 V1 Z8 rfl F a6) (x:=x) (io:=r) (t:=bz (f.take j)) (by exact Lle [_,_] [Q0 V0 (.m 4010 V1), .h 0 4010 0 V1 (.c 220)] 0 V0 Z2 rfl b1 al) (K _ (lf hj)) (a4 8) (R:=RAt 7 it (RAt 6 I (RKV l o))) ((rkv.at (by decide)).at (by decide)) (H'.cfg rfl rfl) ad hu)
   (λp s2 h2=>ex h2 (λfl s3 ⟨hf,a0,H3,p3⟩=>⟨hf,a0,H3.cfg rfl rfl,p3⟩) λp p z=>z) λp p z=>z
 ·subst hf
  have e1:bz (f.take (f.map aJ).length)=bz f:=by(rwa [pg _,HW];rfl)
  rw [e1]at A4;have e2:bF (l.take (i+1))=aT x (bz f) (bF (l.take i)):=by rwa [HO,hi];exact lV _ _
  rwa [e2];obtain⟨U,H5,p5⟩:=A4;exact Gc (an (.inl rfl) ((show At c cA0 (RAt 6 I (RKV l o)) (cG C d J B (aT x (bz f) (bF (l.take i))) [("path", .str x)]++(.obj r::[.gone])) s' from⟨U,H5.cfg rfl rfl,p5⟩).low h0 (mu2:=cG C d J B (aT x (bz f) (bF (l.take i))) []++[AO.obj r]) (yn N W (io:=AO.obj r) 7 (by decide) rfl (l2:=[]) trivial rfl _) (show 0 < 7 by decide) (gk (show 3 < 7 by decide)) Y))
end
def VTo(c a:KB)(x y:V):Prop:=∀F b v,Le F b→Val F c x v→Val b a y v
section
variable{c b:KB}
theorem VTo.closed{x:V}(h:V.closed 0 x=true):VTo c b x x:=λf f v L e=>Val.cut (n:=0) L (λi a d=>absurd d (o1 _)) x v h e
theorem VTo.ref{i j:Nat}(h:∀a,c[i]? =some a→b[j]? =some a):VTo c b (.ref i) (.ref j):=λe e e e d=>ab d λa h1 h2=>⟨a,h a h1,h2⟩
theorem VTo.ra{i:Nat}{a:cv}(h:c[i]? =some a):VTo c b (.ref i) (.adr a):=λf f f f e=>ab e λd h1 h2=>by rw [h]at h1;obtain rfl:=ds h1;exact h2
theorem VTo.ar{j:Nat}{a:cv}(h:b[j]? =some a):VTo c b (.adr a) (.ref j):=λd d d d e=>⟨a,h,e⟩
def FTo(c b:KB)(a:KL):List (Str×V)→Prop
 |[]=>True
 |(k,y)::r=>(∃x,lk k a=some x∧VTo c b x y)∧FTo c b a r
theorem FTo.get{i:KL}{k:Str}{y:V}:∀{g:KL},FTo c b i g→lk k g=some y→∃x,lk k i=some x∧VTo c b x y:=by
 intro f
 induction f with
 |nil=>
  intro _ h;exact noS h
 |cons d r a=>
  obtain⟨z,w⟩:=d;intro h e;unfold lk at e;cases q:af k z with
  |true=>rw [q]at e;obtain rfl:=(ds e).symm;rwa [aB.mp q];exact h.1
  |false=>rw [q]at e;exact a h.2 e
def gm(c b:KB):List V→List V→Prop:=bq (VTo c b)
theorem gm.vals{F g:aA}(L:Le F g){e f:KN}{a:KH}(H:gm c b e f):Vals F c e a→Vals g b f a:=
 bq.ind (R:=VTo c b) (as:=e) (bs:=f) (P:=λe f=>∀a,Vals F c e a→Vals g b f a) (λd h=>h) (λd d d d h i d j=>bg j λv r h1 h2 h3=>⟨v,r,h1,h _ _ _ L h2,i _ h3⟩) H a
theorem gm.app{d e a f:KN}(H:gm c b d e)(h:gm c b a f):gm c b (d++a) (e++f):=bq.app H h
theorem gm.closed:∀{a:KN},V.closedL 0 a=true→gm c b a a:=by
 intro e
 induction e with
 |nil=>
  intro _;exact trivial
 |cons x a d=>
  intro h;have h:(V.closed 0 x&&V.closedL 0 a)=true:=h;rw [lq]at h;exact⟨.closed h.1,d h.2⟩
variable{p:A8}{w:Gv}{h h2:Gm}{a:cv}
theorem aE.frameR{i d:KL}(T:FTo c b i d):aE p w c h (.frame i) b h2 (.frame d) a:=
 ⟨λs=>rfl,λF t L k g=>ab g λm f l=>dW f λo n ep q r=>⟨m,⟨o,n,ep,k _ q,r⟩,λx=>by
  cases q:lk x d with
  |none=>trivial
  |some y=>
   refine ab (T.get q) λz h1 h2=> ?_;have:=l x;rw [h1]at this;(refine ab this ?_;clear this;intro v e j);exact⟨v,e,h2 _ _ _ L j⟩⟩⟩
theorem aE.cellR{x y:V}(T:VTo c b x y):aE p w c h (.cell (some x)) b h2 (.cell (some y)) a:=⟨λe=>rfl,λe e L g d=>ab d λv q f=>⟨v,g _ q,T _ _ _ L f⟩⟩
theorem aE.listR{i g:KN}(T:gm c b i g):aE p w c h (.list i) b h2 (.list g) a:=⟨λf=>rfl,λf f L k d=>aS d λe n q j=>⟨e,n,k _ q,T.vals L j⟩⟩
theorem aE.strsR{j:KN}{i:KA}(e:mF j=some i):aE p w c h (.list j) b h2 (.strs i) a:=⟨λf=>rfl,λf f f l d=>aS d λg n q k=>⟨g,n,l _ q,gq e k⟩⟩
theorem aE.same0{o:AO}(d:AO.closed 0 o=true):aE p w c h o b h2 o a:= .cut (n:=0) d λi a e=>absurd e (o1 _)
theorem aE.instR{C:cv}{i j:Nat}(T:∀d,c[i]? =some d→b[j]? =some d):aE p w c h (.inst C i) b h2 (.inst C j) a:=⟨λg=>rfl,λg g g m f=>aS f λl k q e=>⟨l,k,m _ q,T _ e⟩⟩
end
theorem aq.setB{p:A8}{w:Gv}{d:Bd}{c:KB}{e:KM}{s:dd}(R:aq p w d c e s){B:aA}(h1:∀b o,B b o→s.heap.get? b=some o)(h2:∀a∈c,∀o,¬B a o):aq p w {d with B:=B} c e s:=
 ⟨R.len,R.nodup,R.objs,h1,λa f=>⟨h2 a f,(R.new a f).2⟩,R.big,R.hid,R.pre,R.gens,R.os⟩
theorem aq.adopt:∀{p:A8} {w:Gv} {d:Bd} {f:KB} {j:KM} {s:dd} {a:cv} {o:AO} {r:Hn} (R:aq p w d f j s) (A:¬a∈f) (t:s.heap.get? a=some r) (m:∀g n,r.data≠ .seq g n) (z:¬d.H a) (y:∀o,¬d.B a o) (k:(a==sysModules)=false) (x:Le (aa d f j s.heap) (aa d (f++[a]) (j++[o]) s.heap)→AOk p w (aa d (f++[a]) (j++[o]) s.heap) (f++[a]) s.heap a o),aq p w d (f++[a]) (j++[o]) s∧Le (aa d f j s.heap) (aa d (f++[a]) (j++[o]) s.heap):=by
 refine' eI9;intro r o a s j f d w p R A t m z y k x;have L:Le (aa d f j s.heap) (aa d (f++[a]) (j++[o]) s.heap):=λb l v u=>nw v λg n E=>ax u λB h1 h2=>⟨B,λh=>(me R.len h).elim h1 λe=>by subst e;rw [t]at h2;obtain rfl:=ds h2;exact m _ _ E,h2⟩
 have P:Pre f (f++[a]):=λi b h=>by rwa [i1 (hX.mp h).1];exact h
 refine(an ⟨by rwa [is,is,R.len];rfl, ?_,λi b l h1 h2=> ?_,R.base,λb hb=> ?_,R.big,R.hid,λi b h=>P _ _ (R.pre _ _ h),R.gens,R.os⟩ L)
 ·rw [Gn]
  exact(cB R.nodup (List.pairwise_singleton _ _) (λb hb c D e=>A (by rwa [←mx.mp D,←e];exact hb)))
 ·by_cases q:i < f.length
  ·rw [i1 q]at h1
   rw [i1 (by rwa [←R.len];exact q)]at h2
   exact AOk.mono L P (λF h=>h) l (R.objs i b l h1 h2)
  ·rw [gv (Go.mp q)]at h1
   rw [gv (by rwa [←R.len];exact Go.mp q),←R.len]at h2
   have C:i -f.length=0:=by
    have:=(hX.mp h1).1;simp at this;exact this
   rw [C]at h1 h2;obtain rfl:=ds h1;obtain rfl:=ds h2;exact x L
 ·rcases sz.mp hb with hb|hb
  ·exact R.new b hb
  ·rwa [mx.mp hb];exact(iB y (wl t) z k)
theorem LB3:LB.drop 3=(LB.drop 3).take 1++eX fF::LB.drop 5:=by rfl'
theorem DF:cT fF.2.1=false:=by rfl'
theorem qAd(b:V)(d:cv)(c:Int)(e:KL)(a:List (Str×Str)):(fns (bP [] [] []) 40).E fF.2.1 (cG b d c e a [])= .ok [] (.adr d) (cG b d c e a []):=by rfl'
def stU(d:V)(c:KL)(a:List (Str×Str))(b:cE):List AO:=[fE d []]++c3t++[.dict c, .dict (ao V.str a), .dict (ao bI b)]
section
variable{P:ed}{a b:KC}{c:Cx}{s:dd}{Q:Hj→dd→Prop}
noncomputable def Cx.withB(c:Cx)(B:aA):Cx:={c with d:={c.d with B:=B}}
theorem ak.withB(T:ak c (KK P) a b){B:aA}(h:∀d o,c.d.B d o→B d o):ak (c.withB B) (KK P) a b:=
 ⟨⟨λq g=>T.base.g q λd o i=>g d o (h d o i),λq g=>T.base.b q λd o i=>g d o (h d o i)⟩,λf o e=>h _ _ (T.K f o e),λq g=>T.nolim q λd o i=>g d o (h d o i),T.handled⟩
theorem EY{i:KB}(h:i.length=7):∃d a1 a2 a3 e f g,i=[d,a1,a2,a3,e,f,g]:=
 aS (gR h) λd r k h=>aS (gR h) λa1 r j h=>aS (gR h) λa2 r o h=>aS (gR h) λa3 r p h=>aS (gR h) λe r m h=>aS (gR h) λf r n h=>aS (gR h) λg r l h=>
  (FK d a1 a2 a3 e f g (by rwa [k,j,o,p,m,n,l,HR h];rfl))
theorem vi:∀{D:V} {l:BkT} (Tp:aR (KK P) a b) (T:ak c (KK P) a b) (hr:av 6 c.A) (E:bC c) (h0:c.d.ρ₀=[]) (hH:∀f,¬c.d.H f) (N:∀n,V.closed n D=true) (hb:g7 l 60) (hS:jC l.2.2) (H:At c cA0 RT0 (stN D l) s) (K:∀U,At c cA0 RT0 (stU D (ao bA l.2.1) (bF l.2.2) l.2.2) U→eo c.M c.A (un (LB.drop 5) c.env) Q NoE U),eo c.M c.A (un (LB.drop 3) c.env) Q NoE s:=by
 revert P a b c s Q;refine' eI8;intro l D Q s c b a P Tp T hr E h0 hH N hb hS H K;have G:aG c (bP [] [] []):=eW Tp T hr E λg m ad h=>by exact noS h
 have Y:aC 0 (ao bA l.2.1)=true:=aQ dv l.2.1;rwa [LB3];refine iW G (k:=cA0) rfl rfl (rT (n:=0)) H (qA3 D _ _ _) trivial λs1 A1=> ?_;obtain⟨b7,H1,_⟩:=A1;(refine FT (EY (show b7.length=7 by rwa [H1.rep.len];rfl)) λF a1 a2 a3 I p J r=> ?_;subst r)
 have R:=H1.rep;(refine ab (R.objs 5 p _ rfl rfl) λC r ag=> ?_;(refine dW r ?_;clear r;intro od es ep hod hdo));have kd:KdkAt (JH c.prog c.w) od C ep:=⟨es,hdo⟩;have O:=R.new p (by simp)
 have nd:=R.nodup;have b2:[F,a1,a2,a3,I,J].Nodup:=nd.sublist (by simp)
 have dn:¬p∈[F,a1,a2,a3,I,J]:=λh=>by
  have q:([F,a1,a2,a3,I]++p::[J]).Perm (p::[F,a1,a2,a3,I,J]):=I4;exact(GK.mp ((q.nodup_iff).mp nd)).1 h
 have as:bq (λa' o2=>fP c.prog c.w [F,a1,a2,a3,I,p,J] s1.heap [.frame (fA D (l.1:Int)), .cell none, .cell (some (.ref 6)), .cell none, .dict (ao bA l.2.1), .dict (ao bI l.2.2), .dict []] [F,a1,a2,a3,I,J] s1.heap a' o2) [F,a1,a2,a3,I,J] (cG D p (l.1:Int) (ao bA l.2.1) [] []):=
  ⟨⟨0,_,rfl,rfl,aE.frameR ⟨(ah _ rfl (.closed (N 0))),(ah _ rfl (.ref λy h=>h)),(ah _ rfl (.ra rfl)),(ah _ rfl (.closed rfl)),KP⟩⟩,⟨1,_,rfl,rfl, .same0 rfl⟩,⟨2,_,rfl,rfl,aE.cellR (.ref λy h=>h)⟩,⟨3,_,rfl,rfl, .same0 rfl⟩,⟨4,_,rfl,rfl, .same0 Y⟩,⟨6,_,rfl,rfl, .same0 rfl⟩,KP⟩
 refine ax (R.part as.len b2 (by rwa [h0];exact λi f h=>by trivial) as.get) λR2 L2 y=> ?_
 let B4:aA:=λf o=>c.d.B f o∨(f=p∧o=od)
 have R4:=R2.setB (B:=B4) (λf o h=>h.elim (R2.base f o) λr=>ai r λe1 e2=>by rwa [e1,e2];exact hod) λf ha o h=>h.elim ((R2.new f ha).1 o) λr=>ai r λe1 y=>dn (e1▸ha)
 have T4:ak (c.withB B4) (KK P) a b:=T.withB λy y h=> .inl h;have E4:bC (c.withB B4):=⟨E.kind,E.names,E.glob,E.blt,E.nocls⟩;have G4:aG (c.withB B4) (bP [] [] []):=eW Tp T4 hr E4 λg m ad h=>by exact noS h
 have H4:ac (c.withB B4) cA0 [F,a1,a2,a3,I,J] (cG D p (l.1:Int) (ao bA l.2.1) [] []) s1:=⟨R4,H1.tk,H1.fr,λx j h=>by
  refine ab (H1.cl x j h) λf q1 q2=> ?_;have hj:=gk (n:=4) (by decide) x j h
  refine(ah f q1 ?_);exact ltS (ltS (ltS (ltS (ltN (P:=λj=>[F,a1,a2,a3,I,p,J][j]? =some f→[F,a1,a2,a3,I,J][j]? =some f)) id) id) id) id j hj q2⟩
 have r4:RKV l.2.2 C (aa (c.withB B4).d [F,a1,a2,a3,I,J] (cG D p (l.1:Int) (ao bA l.2.1) [] []) s1.heap) [F,a1,a2,a3,I,J]:=rkv (n:=0) _ _ _ _ L2 (λi f hi=>absurd hi (o1 _)) ag;have al:dQ l.2.2≤220:=by have:=hb.sum;exact Lle [_,_] [Q0 (.a V0 V1) (.a Z7 Z8)] 0 V0 (.c 220) rfl this
 have b4:C.length=l.2.2.length:=(KVs.len ag).trans (pg ..);refine pp (ex (zO (c:=c.withB B4) (k:=bP [] [] []) (R:=RKV l.2.2 C) (s:=s1) G4.ok (q:=fF) (d:=p) (od:=od) (kvs:=C) (ep:=ep) (.inr (an rfl rfl)) kd O.2.2.2 DF DT (λi=>cG D p (l.1:Int) (ao bA l.2.1) (bF (l.2.2.take i)) []) 6 (λy=>rfl) rkv ?_ λi x v t U io it hx A=> ?_) (λfl U r=>ai r λhf A=> ?_) λy y z=>z)
 ·exact((bj G4 40).E fF.2.1).use (H4.cfg rfl rfl) (qAd D p (l.1:Int) _ _) trivial λu s2 b5 H2 X2 r2=>⟨r2,b5,H2,rkv (n:=0) _ _ _ _ X2.froz (λi f y=>X2.pre i f) r4⟩
 ·obtain⟨a9,H5,p5⟩:=A
  exact ex (vf Tp T4 hr E4 h0 N Y hS al hb.ll (.inr (an rfl rfl)) kd hx ⟨a9,H5.cfg rfl rfl,p5⟩) (λy s2 h2=>ex h2 (λfl s3 ⟨hf,b0,H3,p3⟩=>⟨hf,b0,H3.cfg rfl rfl,p3⟩) λy y z=>z) λy y z=>z
 ·subst hf
  rw [b4,HW]at A;obtain⟨a9,H5,p5⟩:=A;have A6:=(show At (c.withB B4) cA0 (RKV l.2.2 C) (cG D p (l.1:Int) (ao bA l.2.1) (bF l.2.2) []++[.gone]) U from⟨a9,H5.cfg rfl rfl,p5⟩).low h0 (mu2:=cG D p (l.1:Int) (ao bA l.2.1) (bF l.2.2) [])
   ⟨.frame ⟨rfl,rfl,rfl,rfl,KP⟩ (by show(V.closed 6 D&&true)=true;rwa [N _];rfl), .same rfl, .same rfl, .same rfl, .same (bn (n:=6) _ Y), .same (bn (n:=6) _ (aQ dH _)),KP⟩ (show 0 < 6 by decide) (gk (show 3 < 6 by decide)) rkv
  obtain⟨w,Z,p6⟩:=A6;have R6:aq c.prog c.w c.d w _ U:=Z.rep.setB (B:=c.d.B) (λf o h=>Z.rep.base f o (.inl h)) λf ha o h=>(Z.rep.new f ha).1 o (.inl h);have ap:U.heap.get? p=some od:=Z.rep.base _ _ (.inr (an rfl rfl));have b3:¬p∈w:=λh=>(Z.rep.new p h).1 od (.inr (an rfl rfl));refine ai (R6.adopt (o:= .dict (ao bI l.2.2)) b3 ap (λb1 n e=>by rw [hdo.2.1]at e;contradiction) (hH p) O.1 O.2.2.2 λL=>⟨C,⟨od,es,ep,ap,hdo⟩,rkv (n:=0) _ _ _ _ L (λi f hi=>absurd hi (o1 _)) p6⟩) λR7 L7=> ?_
  have W:w.length=6:=Z.rep.len;have a5:∀(i:Nat) (f:cv),i < 6→w[i]? =some f→(w++[p])[i]? =some f:=λi f hi h=>by rwa [i1 (by exact Lle [_,_] [Q2 V0 Z18,Q0 (.a V1 Z0) Z18] 0 (.a V1 Z0) V0 rfl W hi)];exact h
  have a7:bq (λa' o2=>fP c.prog c.w (w++[p]) U.heap (cG D p (l.1:Int) (ao bA l.2.1) (bF l.2.2) []++[.dict (ao bI l.2.2)]) (w++[p]) U.heap a' o2) (w++[p]) (stU D (ao bA l.2.1) (bF l.2.2) l.2.2):=by
   have b6:(w++[p])[6]? =some p:=by rwa [gv (by exact Lle [_] [Q1 V0 Z18] 0 V0 Z18 rfl W),W];rfl
   refine bq.of (by rwa [is,W];rfl) λi f o2 h1 h2=> ?_
   match i with
   |0=>obtain rfl:=ds h2;exact⟨0,_,h1,rfl,aE.frameR ⟨(ah _ rfl (.closed (N 0))),(ah _ rfl (.ref λy h=>h)),(ah _ rfl (.ar b6)),KP⟩⟩
   |1=>obtain rfl:=ds h2;exact⟨1,_,h1,rfl, .same0 rfl⟩
   |2=>obtain rfl:=ds h2;exact⟨2,_,h1,rfl,aE.cellR (.ref λy h=>h)⟩
   |3=>obtain rfl:=ds h2;exact⟨3,_,h1,rfl, .same0 rfl⟩
   |4=>obtain rfl:=ds h2;exact⟨4,_,h1,rfl, .same0 Y⟩
   |5=>obtain rfl:=ds h2;exact⟨5,_,h1,rfl, .same0 (aQ dH _)⟩
   |6=>obtain rfl:=ds h2;exact⟨6,_,h1,rfl, .same0 (aQ cR _)⟩
   |i+7=>exact noS h2
  refine ax (R7.part a7.len R7.nodup (by rwa [h0];exact λi f h=>by trivial) a7.get) λR8 y y=> ?_
  exact K U ⟨_,⟨R8,Z.tk,a5 _ _ (by decide) Z.fr,λx j h=>let⟨f,q1,q2⟩:=Z.cl x j h;(ah f q1 (a5 _ _ (fa (gk (n:=4) (by decide) x j h) (by decide)) q2))⟩,KP⟩
end
def Bw(l:List k0):Arguments×nR:=match l with
 | .FunctionDef _ a _ _ _ _ _ _ _ p::_=>(a,p)
 |_=>(Io,p0)
def f9:Arguments×nR:=Bw (LB.drop 11)
theorem F6:LB.drop 11= .FunctionDef "_law_hook" f9.1 bx.1 [] none [] bx.2 none "_law_hook" f9.2::LB.drop 12:=by rfl'
theorem oF:bx.2.names=[(("name":Str),NameKind.local),("path", .local),("given", .free),("lexer", .free),("texts", .free),("normpath", .globalImplicit),("join_posixpath", .globalImplicit),("dirname_posixpath", .globalImplicit)]:=by rfl'
theorem DK:f9.1.defaults=[]∧f9.1.kw_defaults=[]∧bx.2.kind= .function∧bx.2.isCoroutine=false∧bx.2.isGenerator=false:=(lJ (by rfl') (by rfl') (by rfl') (by rfl') (by rfl'))
theorem zn(e:Env):annTrees f9.1 none e=[]:=by rfl'
theorem pV{c:Env}{a b d:cv}(h1:c.cells.lookup ("given":Str)=some a)(h2:c.cells.lookup ("lexer":Str)=some b)(h3:c.cells.lookup ("texts":Str)=some d):closureFor bx.2 c=pure [(("texts":Str),d),("lexer",b),("given",a)]:=by
 have e:cellOf c "given"=pure a:=by unfold cellOf;(rwa [h1];rfl)
 have f:cellOf c "lexer"=pure b:=by unfold cellOf;(rwa [h2];rfl)
 have g:cellOf c "texts"=pure d:=by unfold cellOf;(rwa [h3];rfl)
 unfold closureFor;rwa [oF];simp only [List.forIn_cons,List.forIn_nil,e,f,g];rfl
theorem wG{a:Str}{b:List (Str×cv)}{c f e d:da}(v:da):HK (fnX "_law_hook" a f9.1 bx.1 bx.2 b .none .none c f none e d) ⟨[v],[]⟩=pure [(("name":Str),v)]:=by rfl'
theorem EN(a:KL)(l:KM)(f:cv):jI (bP [] [] []) "_law_hook" (.adr f) (.frame a::l)= .ok [] () (.frame (bS "_law_hook" (.adr f) a)::l):=by rfl'
section
variable{P:ed}{a b:KC}{c:Cx}{s:dd}{Q:Hj→dd→Prop}
theorem Bv:∀{cc B:cv} {J:cv} {W:Hn} {B2:aA} {O:KL} {l:KM} (Tp:aR (KK P) a b) (T:ak c (KK P) a b) (hr:av 6 c.A) (E:bC c) (w:c.env.code= .ref cc) (hC:∀h:Gm,(∀k o,c.d.B k o→h.get? k=some o)→CodeHd h cc B) (U:c.d.B B (tabObj #[])) (b1:a "__builtins__"=some (.ref J)) (b2:J≠Hl) (b3:c.d.B J W) (b4:W.cls= .type "module") (b5:W.dict=some Hl) (b6:W.data= .plain) (D:∀k o,B2 k o→c.d.B k o∧k≠B) (T2:∀p:aA,(∀k o,B2 k o→p k o)→ak (c.withB p) (KK P) a b) (H:At c cA0 RT0 (.frame O::l) s) (K:∀(p:aA) (f:cv) (fd:Gx) (s':dd),(∀k o,B2 k o→p k o)→(∃ps,p B (tabObj ps))→i4 p f fd bx.1 ["name"] (gY [] [])→(∀x j,lkC x cA0.cells=some j→∃i,c.env.cells.lookup x=some i∧fd.closure.lookup x=some i)→
 At (c.withB p) cA0 RT0 (.frame (bS "_law_hook" (.adr f) O)::l) s'→eo c.M c.A (un (LB.drop 12) c.env) Q NoE s'),eo c.M c.A (un (LB.drop 11) c.env) Q NoE s:=by
 revert P a b c s Q;refine' eI13;intro l O B2 W J B cc Q s c b a P Tp T hr E w hC U b1 b2 b3 b4 b5 b6 D T2 H K;obtain⟨a6,H,_⟩:=H;refine fK DK λk1 k2 k3 k4 k5=> ?_;refine ab (H.cl "lexer" 1 rfl) λal l1 r=> ?_;refine ab (H.cl "texts" 2 rfl) λR l2 r=> ?_;refine ab (H.cl "given" 3 rfl) λag l3 r=> ?_;rwa [F6];have y:=T.base.g _ H.rep.base;have hP:=H.rep.base _ _ U;have a9:GH≠B:=λq=>by
  (refine jz y ?_;clear y;intro o es ep e hd r);rw [q,hP]at e;cases e;cases hd
 have F:=H.rep.base _ _ b3;have bb:J≠B:=λq=>by rw [q,hP]at F;cases F;cases b4
 have ar:J≠GH:=λq=>by
  (refine jz y ?_;clear y;intro o es ep e hd r);rw [←q,F]at e;cases e;rw [hd]at b6;cases b6
 refine pp (nestDef_K k1 k2 (zn _) (dO H.tk (makeFunction_K (pV l3 l1 l2) E.glob y w (hC _ H.rep.base) hP (show TriplesOk []from trivial) rfl a9 ⟨J,W,b1,b2,ar,bb,F,b4,b5,b6⟩ λc' a0 a7 C tk hx N a5 I ap ht=> ?_)));(refine nv I ?_;clear I;intro c2 oc vs t e2 ad bl hv);cases e2;generalize Z:fnMade "_law_hook" (qualnameIn c.env "_law_hook" "_law_hook") f9.1 bx.1 bx.2 [(("texts":Str),R),("lexer",al),("given",ag)] a7 ((a "__name__").getD .none) c' a0=fo at*
 let p:aA:=λk o=>B2 k o∨(k=C.objs.size∧o=fo)∨(k=c'∧o=oc)∨(k=B∧o=tabObj (#[]++ #[rawInt f9.2.line,rawInt f9.2.col, .ref c']))
 have kp:∀k o,k≠B→s.heap.get? k=some o→(C.push fo).get? k=some o:=λk o A e=>g0 _ (hx k o A e);have hz:s.heap.objs.size≤(C.push fo).objs.size:=by rwa [sm _ _];exact Lle [_,_,_] [Q0 V0 V1,Q0 (.a V1 Z0) V2] 0 V0 (.a V2 Z0) rfl N a5
 have Y:∀k∈a6,k≠B:=λk A e=>(H.rep.new k A).1 (tabObj #[]) (e▸U);have L:Le (aa c.d a6 (.frame O::l) s.heap) (aa (c.withB p).d a6 (.frame O::l) (C.push fo)):=λi o as b7=>nw as λb8 n hs=>ax b7 λh0 h1 h2=>⟨h0,h1,kp i o (λe=>by rw [e,hP]at h2;cases h2;cases hs) h2⟩
 have R3:aq c.prog c.w (c.withB p).d a6 (.frame O::l) {s with heap:=C.push fo,toks:=tk}:=by
  refine⟨H.rep.len,H.rep.nodup,λj k o h1 h2=>AOk.mono L (λr r h=>h) (λo' h=>kp k o' (Y k (lf h1)) h) o (H.rep.objs j k o h1 h2),λk o h=> ?_,λk A=> ?_,fa H.rep.big hz,λk A=>fa (H.rep.hid k A) hz,H.rep.pre,H.rep.gens,H.rep.os⟩
  ·rcases h with h|⟨rfl,rfl⟩|⟨rfl,rfl⟩|⟨e1,e2⟩
   ·exact kp k o (D k o h).2 (H.rep.base k o (D k o h).1)
   ·exact Gl _ (by rwa [←Z];rfl)
   ·exact g0 _ ad
   ·rwa [e1,e2];exact g0 _ ap
  ·have a4:=(H.rep.new k A).2.1
   refine(cB (λo h=> ?_) (fa a4 hz) ((H.rep.new k A).2.2));have G:k < s.heap.objs.size:=a4;rcases h with h|⟨e1,_⟩|⟨e1,_⟩|⟨e1,_⟩
   ·exact(H.rep.new k A).1 o (D k o h).1
   ·rw [e1]at G;exact absurd G (Go.mpr (IM (IA N a5)))
   ·rw [e1]at G;exact absurd G (Go.mpr N)
   ·exact Y k A e1
 have T3:ak (c.withB p) (KK P) a b:=T2 p λr r h=> .inl h;have E3:bC (c.withB p):=⟨E.kind,E.names,E.glob,E.blt,E.nocls⟩;have G3:aG (c.withB p) (bP [] [] []):=eW Tp T3 hr E3 λg m bs h=>by cases h
 have H3:ac (c.withB p) (bP [] [] []) a6 (.frame O::l) {s with heap:=C.push fo,toks:=tk}:=⟨R3,ht,H.fr,H.cl⟩
 refine ex ((km (c:=c.withB p) (x:="_law_hook") (v:= .adr C.objs.size) (u:= .ref C.objs.size) G3.ok rfl H3).use (EN _ _ _) trivial) (λr s4 hZ=> ?_) λr r z=>z;obtain⟨b0,H4,_,_⟩:=hZ;refine K p C.objs.size (fnX "_law_hook" (qualnameIn c.env "_law_hook" "_law_hook") f9.1 bx.1 bx.2 [(("texts":Str),R),("lexer",al),("given",ag)] .none .none a7 ((a "__name__").getD .none) none (.ref c') a0) s4 (λr r h=> .inl h) (fJ _ (.inr (.inr (.inr ⟨rfl,rfl⟩)))) ⟨(ah fo (.inr (.inl ⟨rfl,rfl⟩)) (by(rwa [←Z];rfl))),rfl, ?_, ?_,λh hh=>⟨c',oc,vs,t,rfl,hh _ _ (.inr (.inr (.inl (an rfl rfl)))),bl,hv⟩,k6 λv=>wG v⟩ (λx j h=> ?_) ⟨b0,H4.cfg rfl rfl,KP⟩
 ·exact⟨rfl,rfl,rfl,k3,k4,k5,by show∀x∈bx.2.names,_;rwa [oF];decide,by show bx.2.names.lookup _=_;rwa [oF];decide⟩
 ·intro x hx;rwa [mx.mp hx];show bx.2.names.lookup _=_;rwa [oF];rfl
 ·have h:(bif af x "lexer" then some 1 else bif af x "texts" then some 2 else bif af x "given" then some 3 else none)=some j:=h
  cases q:af x "lexer"
  ·rw [q]at h
   cases q2:af x "texts"
   ·rw [q2]at h
    cases q3:af x "given"
    ·rw [q3]at h;cases h
    ·rwa [aB.mp q3];exact(ah ag l3 rfl)
   ·rwa [aB.mp q2];exact(ah R l2 rfl)
  ·rwa [aB.mp q];exact(ah al l1 rfl)
end
def cX(c:Cx)(s:dd)(d:KM)(f b:KB):List Nat→List AO→Prop:=bq λi e=>∃o,d[i]? =some o∧∀a,aE c.prog c.w f s.heap o b s.heap e a
section
variable{c:Cx}{s:dd}{d:KM}{a b:KB}
theorem cX.get{f:KF}{m2:KM}(H:cX c s d a b f m2):f.length=m2.length∧∀(j i:Nat) (g:AO),f[j]? =some i→m2[j]? =some g→∃o,d[i]? =some o∧∀e,aE c.prog c.w a s.heap o b s.heap g e:=⟨bq.len H,bq.get H⟩
theorem cX.app{l1 e:KF}{m1 m2:KM}(H:cX c s d a b l1 m1)(h:cX c s d a b e m2):cX c s d a b (l1++e) (m1++m2):=bq.app H h
theorem yt{f:KF}(k:∀x∈f,x < a.length){i j:Nat}{e:cv}(h:f[j]? =some i)(g:a[i]? =some e):(bN a f)[j]? =some e:=(ey k).mpr (ah i h g)
theorem At.sel{k z:Cfg}{R C:Rel}{p:KM}(H:At c k R d s)(D:c.d.ρ₀=[])(l:KF)(E:∀x∈l,x < d.length)(U:l.Nodup)
 (K:∀a,a.length=d.length→R (aa c.d a d s.heap) a→(∀(i j:Nat) (f:cv),l[j]? =some i→a[i]? =some f→(bN a l)[j]? =some f)→cX c s d a (bN a l) l p)
 (Z:∀a F B,a.length=d.length→Le F B→(∀(i j:Nat) (f:cv),l[j]? =some i→a[i]? =some f→(bN a l)[j]? =some f)→R F a→C B (bN a l))
 (v:l[z.fi]? =some k.fi)(A:∀x j,lkC x z.cells=some j→∃i,lkC x k.cells=some i∧l[j]? =some i):At c z C p s:=by
 obtain⟨a,H,r⟩:=H;have m:=H.rep.len;have n:∀x∈l,x < a.length:=λx J=>by rwa [m];exact E x J
 have g:∀(i j:Nat) (f:cv),l[j]? =some i→a[i]? =some f→(bN a l)[j]? =some f:=λi j f=>yt n;have T:=K a m r g;refine ai T.get λt1 t2=> ?_;have P:(bN a l).Nodup:=nodup_of_getElem? λi j f G O=>by
  refine ab ((ey n).mp G) λx t q=> ?_;refine ab ((ey n).mp O) λy u w=> ?_;have e:=getElem?_inj_of_nodup H.rep.nodup q w;rw [←e]at u;exact getElem?_inj_of_nodup U t u
 refine ax (H.rep.part (ρ':=bN a l) (mu':=p) (by(rwa [nN,t1];rfl)) P (by rwa [D];exact λi f h=>by trivial) λj f L h1 h2=>by
  refine ab ((ey n).mp h1) λi t q=> ?_;refine ab (t2 j i L t h2) λo W N=> ?_;exact⟨i,o,q,W,N f⟩) λY I zz=> ?_
 exact⟨_,⟨Y,H.tk,g _ _ _ v H.fr,λx j h=>by
  refine ab (A x j h) λi t q=> ?_;refine ab (H.cl x i t) λf u w=> ?_;exact(ah f u (g _ _ _ q w))⟩,Z a _ _ m I g r⟩
end
abbrev cM0:Cfg:={fi:=11,names:=[],globs:=[],cells:=[("lexer",6),("texts",7),("given",8)]}
theorem LB5:LB.drop 5=(LB.drop 5).take 6++LB.drop 11:=by rfl'
theorem F5:LB.drop 12=(LB.drop 12).take 4++LB.drop 16:=by rfl'
noncomputable def mS:List Nat:=[10,11,7,8,12,13,1,2,3,5,14,0,4,6,15,18,17,16]
def rC(t p0:Str)(a:cv)(b:List (Str×Str)):List AO:=OG (sio t 0) (.ref 0) p0 (.str " ") 1 a [] (ao V.str b) [p0]
def F9(f:KL)(d:List (Str×Str))(e:cE)(p0 t:Str)(c:cv)(b:List aU)(a:AO):List AO:=[.frame [("homes", .ref 4),("lines", .ref 6),("first", .str p0),("_law_hook", .adr c),("walked", .ref 15),("pile", .ref 18),("ends", .int 0)], .cell (some (.ref 7)), .cell (some (.ref 5)), .cell (some (.ref 14)), .dict f, .dict (ao V.str d), .dict (ao bI e), .inst 732 8,lxA p0 true (.str "use") [("sourcehook", .adr c)],a, .inst 597 11,sio t 0, .deque [], .deque [], .list [.str p0], .list [.str p0], .list (b.map aJ), .list [.str p0, .ref 16, .int 1], .list [.ref 17]]
theorem Fg:∀x j,lkC x cM0.cells=some j→∃i,lkC x cA0.cells=some i∧mS[j]? =some i:=λx j e=>by
 have e:(bif af x "lexer" then some 6 else bif af x "texts" then some 7 else bif af x "given" then some 8 else none)=some j:=e;show∃i,(bif af x "lexer" then some 1 else bif af x "texts" then some 2 else bif af x "given" then some 3 else none)=some i∧_;cases q:af x "lexer"
 ·rw [q]at e
  cases a:af x "texts"
  ·rw [a]at e
   cases b:af x "given"
   ·rw [b]at e;exact noS e
   ·rw [b]at e;obtain rfl:=ds e;exact(ah 3 rfl rfl)
  ·rw [a]at e;obtain rfl:=ds e;exact(ah 2 rfl rfl)
 ·rw [q]at e;obtain rfl:=ds e;exact(ah 1 rfl rfl)
theorem Dt{c:Cx}{s:dd}(w:c.d.ρ₀=[]){q:KL}(k:aC 0 q=true){o:List (Str×Str)}{n:cE}{p0 t:Str}{r:cv}{e:List aU}{p:AO}(H:At c cA0 RT0 (F9 q o n p0 t r e p) s):
 At c cM0 RT0 (LM (rC t p0 r o) (fM 0 []) q (ao bI n) [p0] [] p0 1 (e.map aJ) []) s:=by
 refine H.sel w mS (qa rfl) (nP rfl) (λf u d g=> ?_) (λd d d d d d d=>trivial) rfl Fg;have v:∀i j:Nat,mS[j]? =some i→VTo f (bN f mS) (.ref i) (.ref j):=λi j h=> .ref λa A=>g i j a h A
 let l:Nat→Option V:=λi=>(eH i mS 0).map .ref
 have m:∀i x a,l i=some x→f[i]? =some a→x= .adr a∨∃j,x= .ref j∧(bN f mS)[j]? =some a:=λi x a h1 h2=>ab (mr.mp h1) λj z y=> .inr ⟨j,y.symm,g i j a (mc z).2 h2⟩;exact⟨(ah _ rfl (λa=> .instR λb h=>g 11 1 b rfl h)),(ah _ rfl (λa=> .same0 rfl)),(ah _ rfl (λa=> .instR λb h=>g 8 3 b rfl h)),(ah _ rfl (λa=>aE.re (σ:=l) rfl m)),(ah _ rfl (λa=> .same0 rfl)),(ah _ rfl (λa=> .same0 rfl)),
  (ah _ rfl (λa=> .cellR (v 7 2 rfl))),(ah _ rfl (λa=> .cellR (v 5 9 rfl))),(ah _ rfl (λa=> .cellR (v 14 10 rfl))),(ah _ rfl (λa=> .same0 (aQ dH o))),(ah _ rfl (λa=> .strsR rfl)),
  (ah _ rfl (λa=> .frameR ⟨⟨_,rfl,v 4 12 rfl⟩,⟨_,rfl,v 6 13 rfl⟩,⟨_,rfl,v 15 14 rfl⟩,⟨_,rfl,v 18 15 rfl⟩,⟨_,rfl, .closed rfl⟩,KP⟩)),(ah _ rfl (λa=> .same0 k)),(ah _ rfl (λa=> .same0 (aQ cR n))),(ah _ rfl (λa=> .strsR rfl)),
  (ah _ rfl (λa=> .listR ⟨v 17 16 rfl,KP⟩)),(ah _ rfl (λa=> .listR ⟨.closed rfl,v 16 17 rfl, .closed rfl,KP⟩)),(ah _ rfl (λa=> .same0 (bi e))),KP⟩
section
variable{a:Type}
theorem tV(x:Str)(v:a):∀{l:List (Str×a)},fz l→fz (aT x v l):=by
 intro d
 induction d with
 |nil=>
  intro _;exact List.pairwise_singleton _ _
 |cons c r b=>
  obtain⟨k,w⟩:=c;intro h;unfold fz at h;rw [GJ,GK]at h;unfold aT;cases q:af x k
  ·show(((k,w)::aT x v r).map (·.1)).Nodup
   (rwa [GJ];rw [GK]);refine(an (λf=> ?_) (b h.2));refine ab (Hr.mp f) λp hp e=> ?_;rcases pA hp with rfl|hp
   ·have:x=k:=e
    rw [aB.mpr this]at q;exact tfB q
   ·exact h.1 (Hr.mpr (ah p hp e))
  ·show(((k,v)::r).map (·.1)).Nodup
   (rwa [GJ];rw [GK]);exact h
theorem rJ{x:Str}:∀(l r:List (Str×a)),lkS x (l++r)=match lkS x l with
 |some v=>some v
 |none=>lkS x r:=by
 intro d
 induction d with
 |nil=>
  intro _;exact rfl
 |cons c l b=>
  obtain⟨k,w⟩:=c;intro r;show(bif af x k then some w else lkS x (l++r))=match(bif af x k then some w else lkS x l)with
   |some v=>some v
   |none=>lkS x r
  cases af x k
  ·exact b r
  ·rfl
end
theorem lp(x:Str):∀(n:Nat) (a:cE),a.length=n→fz a→lkS x (bF a)=(lkS x a).map bz:=by
 intro f
 induction f with
 |zero=>
  intro a h _;rwa [Hu.mp h];rfl
 |succ n e=>
  intro a h d;(refine nw ((IW a).resolve_left (by rintro rfl;cases h)) λl p g=> ?_;subst g)
  rw [IX]at h d⊢;have b:fz l∧p.1∉l.map (·.1):=by
   unfold fz at d;rw [Hv,Gn]at d;exact⟨d.1,λk=>d.2.2 _ k p.1 (by constructor) rfl⟩
  have i:=e l (by rw [is]at h;simpa using h) b.1
  rwa [lV _ _,fZ _ _ _ _,rJ _ _,i]
  by_cases c:x=p.1
  ·have j:lkS x l=none:=by
    cases q:lkS x l with
    |none=>rfl
    |some v=>exact absurd (Hr.mpr ⟨_,eL q,c⟩) b.2
   rwa [if_pos c,j];show _=(bif af x p.1 then some p.2 else none).map bz;rwa [aB.mpr c];rfl
  ·rwa [if_neg c]
   have h1:lkS x [p]=none:=by show(bif af x p.1 then some p.2 else none)=none;rwa [iG c];rfl
   rwa [h1];cases lkS x l<;>rfl
structure BkF(ms:KJ)(b:BkT):Prop where
 kl:fz b.2.2
 both:∀x,(lkS x b.2.1).isSome=(lkS x b.2.2).isSome
 home:∀x h,lkS x b.2.1=some h→x=bk h.1 h.2∧dX h.1∧(∀n∈h.2,cy n)∧h.2.length≤25
 mem:∀m∈ms,(lkS (aP m) b.2.2).isSome=true
theorem zK{f:KJ}{b:BkT}(h:BkF f b)(m:Int):BkF (f++[m]) (dG b m):=by
 refine⟨tV _ _ h.kl,λx=> ?_,λx d e=> ?_,λc hm=> ?_⟩
 ·show(lkS x (aT _ _ _)).isSome=(lkS x (aT _ _ _)).isSome
  rwa [fZ _ _ _ _,fZ _ _ _ _]
  by_cases a:x=aP m
  ·rwa [if_pos a,if_pos a];rfl
  ·rwa [if_neg a,if_neg a];exact h.both x
 ·have e:lkS x (aT (aP m) (be m) b.2.1)=some d:=e
  rw [fZ]at e
  by_cases a:x=aP m
  ·rw [if_pos a]at e;obtain rfl:=ds e
   exact⟨a,lD m⟩
  ·rw [if_neg a]at e;exact h.home x d e
 ·show(lkS _ (aT _ _ _)).isSome=true
  rwa [fZ _ _ _ _]
  by_cases a:aP c=aP m
  ·rwa [if_pos a];rfl
  ·rwa [if_neg a]
   rcases sz.mp hm with hm|hm
   ·exact h.mem c hm
   ·exact absurd (by(rwa [mx.mp hm];rfl)) a
theorem pX(a:KJ):BkF a (bL a):=by
 have:∀(r pre:KJ) (b:BkT),BkF pre b→BkF (pre++r) (r.foldl dG b):=by
  intro r
  induction r with
  |nil=>intro pre b h;rwa [HL _];exact h
  |cons m r d=>intro pre b h;rwa [Gd,show pre++m::r=(pre++[m])++r by simp];exact d _ _ (zK h m)
 have h:=this a [] bk0 ⟨List.Pairwise.nil,λx=>rfl,(λx h e=>by exact noS e),λm c=>by cases c⟩
 exact h
theorem E6(x:V)(a:KN):bY (x::a) (ct 0)=some x:=by
 have e:G5 (ct 0) (x::a).length=some 0:=by
  unfold G5;have b:¬(ct 0 < 0):=by decide
  rw [if_neg b];have:(0:Int) < ((x::a).length:Int):=by rwa [ix];simp
  exact if_pos (by(rwa [lq _ _];rw [decide_eq_true_iff,decide_eq_true_iff]);exact⟨by decide,this⟩)
 unfold bY;rwa [e];rfl
theorem g7.le{b:BkT}{i j:Nat}(h:g7 b i)(d:i≤j):g7 b j:=⟨by have:=h.sum;exact Lle [_,_,_,_] [Q0 V0 V1,Q0 (.a V2 V3) (.a Z7 V0)] 0 (.a V2 V3) (.a Z7 V1) rfl d this,h9 h.hl d,h9 h.ll d⟩
section
variable{P:ed}{a b:KC}{c:Cx}{s:dd}{Q:Hj→dd→Prop}
theorem AT:∀{cc I:cv} {U:cv} {F:Hn} {Y:aA} {m0:Int} {r:KJ} {y:KL} {p:cE} {l:List aU} (N:aR (KK P) a b) (T:ak c (KK P) a b) (O:av 6 c.A) (E:bC c) (h0:c.d.ρ₀=[]) (w:c.env.code= .ref cc) (hC:∀h:Gm,(∀i o,c.d.B i o→h.get? i=some o)→CodeHd h cc I) (R:c.d.B I (tabObj #[])) (b1:a "__builtins__"=some (.ref U)) (b2:U≠Hl) (b3:c.d.B U F) (b4:F.cls= .type "module") (b5:F.dict=some Hl) (b6:F.data= .plain) (J:∀i o,Y i o→c.d.B i o∧i≠I) (T2:∀q:aA,(∀i o,Y i o→q i o)→ak (c.withB q) (KK P) a b) (A:aC 0 y=true) (hk:fz p) (u:lkS (aP m0) p=some l) (L:l.length≤1000) (D:(m0::r).length≤1000) (H:At c cA0 RT0 (stU (.flist ((m0::r).map V.int)) y (bF p) p) s) (K:∀(q:aA) (f:cv) (W:Gx) (s':dd),(∀i o,Y i o→q i o)→(∃ps,q I (tabObj ps))→i4 q f W bx.1 ["name"] (gY [] [])→(∀x j,lkC x cA0.cells=some j→∃d,c.env.cells.lookup x=some d∧W.closure.lookup x=some d)→
 At (c.withB q) cM0 RT0 (LM (rC (bz l) (aP m0) f (bF p)) (fM 0 []) y (ao bI p) [aP m0] [] (aP m0) 1 (l.map aJ) []) s'→eo c.M c.A (un (LB.drop 16) c.env) Q NoE s'),eo c.M c.A (un (LB.drop 5) c.env) Q NoE s:=by
 revert P a b c s Q;refine no_implicit_lambda% (@Mine.pd _ (@Mine.pd _ (@Mine.pd _ ?_)));refine' eI19;intro l p y r m0 Y F U I cc Q s c b a P _ _ _ N T O E h0 w hC R b1 b2 b3 b4 b5 b6 J T2 A hk u L D H K;refine ax (lD m0) λr1 r2 r3=> ?_;have f0:0≤m0.fmod 25∧m0.fmod 25≤1000:=by
  have h2:=Int.emod_lt_of_pos m0 (b:=25) (by decide)
  have h1:=Int.emod_nonneg m0 (b:=25) (by decide)
  rwa [He m0 (by decide)]
  exact⟨h1,IN (Int.le_of_lt h2) (by decide)⟩
 have a0:aI c 873 0 (sAt [.int (m0.fmod 25)] [] [] (.ftup [.str (be m0).1, .fstrs (be m0).2]) []):=(xC N T (O.le (by decide))).at rfl ⟨f0.1,f0.2,KP⟩
 have G:∀t,aG c (bP [(873,0,sAt [.int (m0.fmod 25)] [] [] (.ftup [.str (be m0).1, .fstrs (be m0).2]) [])] [] t):=λt=>eW N T O E (j6 a0 λg m B h=>by exact noS h)
 have e:=qA6 ((m0::r).map V.int) m0 (m0.fmod 25) y (ao V.str (bF p)) (ao bI p) (be m0).1 (be m0).2 (bz l);rw [show((be m0).1++f1 ("/":Str) (be m0).2)=aP m0 from rfl]at e;rwa [LB5];refine iW (G _) (k:=cA0) rfl rfl (rT (n:=0)) H e (aj.mpr ⟨⟨by rwa [pg _];exact Lle [_] [Q0 V0 Z1] 0 V0 (.c 16777216) rfl D,E6 _ _,by decide,KP⟩,aj.mpr ⟨iX rfl rfl,aj.mpr ⟨gw r1 r2 (by exact Lle [_] [Q0 V0 Z17] 0 V0 Z16 rfl r3), ?_,rfl,KP⟩⟩⟩) λs1 A1=> ?_
 ·rwa [cV _ _ _,lp _ _ p rfl hk,u];rfl
 refine Bv N T O E w hC R b1 b2 b3 b4 b5 b6 J T2 A1 λq f W s2 C Z a4 z A2=> ?_;have T3:=T2 q C;have E3:bC (c.withB q):=⟨E.kind,E.names,E.glob,E.blt,E.nocls⟩;have G3:∀t,aG (c.withB q) (bP [] [] t):=λt=>eW N T3 O E3 λg m B h=>by exact noS h
 have hd:aC 15 y=true:=bn (n:=15) _ A;have ht:aC 15 (ao V.str (bF p))=true:=bn (n:=15) _ (aQ dH _);have hl:aC 15 (ao bI p)=true:=bn (n:=15) _ (aQ cR _);have A3:=A2.low (c:=c.withB q) h0 (mu2:=[AO.frame [("homes", .ref 4),("lines", .ref 6),("first", .str (aP m0)),("_law_hook", .adr f)], .cell (some (.ref 7)), .cell (some (.ref 5)), .cell (some (.ref 14)), .dict y, .dict (ao V.str (bF p)), .dict (ao bI p), .inst 732 8,lxA (aP m0) true (.str "use") [], .frame [("self", .ref 7),("instream", .ref 10),("infile", .str (aP m0)),("posix", .bool true),("punctuation_chars", .str "")], .inst 597 11,sio (bz l) 0, .deque [], .deque [], .list [.str (aP m0)]])
  ⟨.frame ⟨rfl,rfl,rfl,rfl,KP⟩ rfl, .same rfl, .same rfl, .same rfl, .same hd, .same ht, .same hl, .same rfl, .same rfl, .same rfl, .same rfl, .same rfl, .same rfl, .same rfl, .same rfl,KP⟩ (show 0 < 15 by decide) (gk (show 3 < 15 by decide)) rT
 rwa [F5];have e2:=qA8 ((m0::r).map V.int) (.frame [("self", .ref 7),("instream", .ref 10),("infile", .str (aP m0)),("posix", .bool true),("punctuation_chars", .str "")]) y (ao V.str (bF p)) (ao bI p) (aP m0) (bz l) f (l.map aJ) (be m0).1 (be m0).2;refine iW (c:=c.withB q) (G3 _) (k:=cA0) rfl rfl (rT (n:=0)) A3 e2 ⟨rfl,by decide,by rwa [cV _ _ _,u];rfl,by rwa [pg _];exact Lle [_] [Q0 V0 Z1] 0 V0 (.c 16777216) rfl L,KP⟩ λs3 A4=> ?_
 exact K q f W s3 C Z a4 z (Dt (c:=c.withB q) h0 A A4)
end
section
variable{c:Cx}{k a:Cfg}{R:Rel}{m:Nat}{b:KM}{s:dd}
theorem BV:∀{q:Expr×List k0×nR} {vc:KG} {i:Fl} {f:KM} (G:aG c a) (h1:a.fi=k.fi) (h2:a.cells=k.cells) (j:dk m R) (H:At c k R b s) (e:whR a q b= .ok vc (some i) f) (l:aw vc),eo c.M c.A (A0 q.1 c.env (Gu q.1 c.env)) (λd s2=>d=true∧eo c.M c.A (un q.2.1 c.env) (λh s3=>∃g,FlR i (aa c.d g f s3.heap) g h∧At c k R f s3) NoE s2) NoE s:=by
 revert c k a R m b s;refine' eI11;intro f i vc q s b m R a k c G h1 h2 j H e l;obtain⟨U,H,r⟩:=H;refine bB e l λK d y L o v n p=>((bj G 40).T _).use (H.cfg h1 h2) o v λu s1 B I z w=> ?_;subst w
 induction u with
 |false=>cases n
 |true=>
  refine bB n p λJ t F N x C D O=> ?_;cases D;exact⟨rfl,ka G h1 h2 j (At.of I h1 h2 z j r) x C λh P g E A=>⟨g,E,A⟩⟩
theorem BW(G:aG c a)(h1:a.fi=k.fi)(h2:a.cells=k.cells)(z:dk m R){q:Expr×List k0×nR}(H:At c k R b s){vc:KG}{f:KM}(e:whR a q b= .ok vc none f)(h:aw vc):
 eo c.M c.A (A0 q.1 c.env (Gu q.1 c.env)) (λd s2=>d=false∧At c k R f s2) NoE s:=by
 obtain⟨I,H,r⟩:=H;refine bB e h λB d p C i n g j=>((bj G 40).T _).use (H.cfg h1 h2) i n λu s1 v y t o=> ?_;subst o
 induction u with
 |true=>exact bB g j λA l x J D E w F=>by cases w
 |false=>cases g;exact⟨rfl,At.of y h1 h2 t z r⟩
theorem At.fr{i:Nat}{n gs:KL}(H:At c k R b s)(g:b[i]? =some (.frame n))(S:iC n gs)(A:dk m R):At c k R (b.set i (.frame gs)) s:=by
 obtain⟨u,H,r⟩:=H;refine au (H.rep.lt g) λd l=> ?_;have j:=H.rep.objs i d _ l g;refine ai (H.rep.upd (o':= .frame gs) (s':=s) l g rfl (λf f f h=>h) (fx _) rfl rfl λL=>by
  (refine ab j ?_;clear j;intro p w t);refine⟨p,w,λx=> ?_⟩;cases q:lk x gs with
  |none=>trivial
  |some v=>
   have:=t x;rw [S.get q]at this;(refine ab this ?_;clear this;intro y e o);exact⟨y,e,Val.mono L (λf f h=>h) _ _ o⟩) λz X=> ?_
 exact⟨u,⟨z,H.tk,H.fr,H.cl⟩,A _ _ _ _ X.froz (λf f f h=>h) r⟩
end
theorem wE{a:Type}(l:List a)(x:a):bY (l++[x]) (kV 0)=some x:=by
 have e:G5 (kV 0) (l++[x]).length=some l.length:=by
  unfold G5;have h1:(kV 0:Int) < 0:=by decide
  have h2:(kV 0:Int)+((l++[x]).length:Int)=((l.length:Nat):Int):=by
   have:(kV 0:Int)=-1:=rfl;rwa [is,Gr];simp+arith
  (rw [if_pos h1];rwa [h2]);exact(if_pos (by(rwa [lq _ _];rw [decide_eq_true_iff,decide_eq_true_iff]);exact⟨z2 _,by rwa [is,Gr];simp+arith⟩)).trans (by(rwa [IK _];rfl))
 unfold bY;rwa [e];show(l++[x])[l.length]? =some x;rwa [gv (fx _),GC _];rfl
abbrev Ad2:=List (cv×cv)
noncomputable def di(lad:Ad2):List V:=(lad.map λp=>V.adr p.1).reverse
def du:List aL→Ad2→List AO
 |(p,its,ln)::r,(_,ar)::lad=> .list [.str p, .adr ar, .int ln]:: .list (its.map aJ)::du r lad
 |_,_=>[]
noncomputable def dT:Ad2→List cv
 |[]=>[]
 |(a,ar)::lad=>a::ar::dT lad
def RTl(lad:Ad2)(ad:Ad):Rel:=λc b=>∀(i:Nat) (a:cv),(dT lad++aD ad)[i]? =some a→b[18+i]? =some a
theorem rTl{lad:Ad2}{ad:Ad}:dk (18+(dT lad++aD ad).length) (RTl lad ad):=λb b b b b P h i a c=>P _ _ (Jb (hX.mp c).1 _) (h i a c)
set_option genInjectivity false in
structure Fx where
 hk:cv
 tf:List (Str×V)
 hs:xT
 ls:cE
deriving Nonempty
def Fx.look(F:Fx)(p:Str):Option (List aU):=lkS p F.ls
def Fx.go(F:Fx)(p:Str)(a:KA):Str:=match lkS p F.hs with
 |some h=>bk (aX h.1 a) (cn h.2.dropLast a)
 |none=>p
def MS'(F:Fx)(x:GS)(c:AO)(p:Str)(a:List aU)(e:Int)(b:List aL)(d:KA)(lad:Ad2)(ad:Ad):List AO:=
 LM (ogX x F.hk F.tf ad) c (ao bA F.hs) (ao bI F.ls) d (di lad) p e (a.map aJ) (du b lad++aM x.stk ad)
inductive AtM(c:Cx)(F:Fx)(x:GS)(fr:AO)(pile:List aL)(wk:KA)(s:dd):Prop
 |mk (p:Str) (its:List aU) (ln:Int) (low:List aL) (lad:Ad2) (ad:Ad) (e:pile=(p,its,ln)::low) (h1:lad.length=low.length) (h2:ad.length=x.stk.length) (A:At c cM0 (RTl lad ad) (MS' F x fr p its ln low wk lad ad) s)
theorem d9(lad:Ad2):(di lad).length=lad.length:=by unfold di;(rwa [List.length_reverse,pg _];rfl)
theorem ik(lad:Ad2):V.closedL 0 (di lad)=true:=by
 have:∀l:List V,(∀v∈l,V.closed 0 v=true)→V.closedL 0 l=true:=by
  intro l
  induction l with
  |nil=>intro _;rfl
  |cons x r c=>intro h;show(V.closed 0 x&&V.closedL 0 r)=true;rwa [h x il,c λv a=>h v (iv _ a)];rfl
 refine this _ λv a=> ?_;unfold di at a;(refine ab (Hr.mp (List.mem_reverse.mp a)) λp d b=> ?_;subst b);rfl
theorem nS(a b:cv)(lad:Ad2):di ((a,b)::lad)=di lad++[.adr a]:=by unfold di;(rwa [GJ,JC];rfl)
theorem im(l:List aL):∀lad:Ad2,aK 0 (du l lad)=true:=by
 induction l with
 |nil=>exact λad=>rfl
 |cons e r a=>exact λad=>ad.casesOn rfl λd ad=>vl.mpr ⟨rfl,vl.mpr ⟨bi e.2.1,a ad⟩⟩
theorem lm{l:List aL}:∀{lad:Ad2},lad.length=l.length→(du l lad).length=(dT lad).length:=by
 induction l with
 |nil=>exact λh=>by rwa [Hu.mp h];rfl
 |cons e r a=>exact λ{ad}=>ad.casesOn (λh=>absurd h.symm (Hp _)) λd ad h=>congrArg (· +2) (a (HZ h))
theorem j7{n:Nat}{o:AO}{l:KM}(h:aK n (o::l)=true):AO.closed n o=true∧aK n l=true:=by
 have h:(AO.closed n o&&aK n l)=true:=h;rwa [lq]at h
theorem iS{n:Nat}:∀{l m:KM},aK n l=true→aK n m=true→aK n (l++m)=true:=by
 intro d
 induction d with
 |nil=>
  intro _ _ h;exact h
 |cons o l c=>
  intro m h h2;refine ai (j7 h) λa b=> ?_;show(AO.closed n o&&aK n (l++m))=true;rwa [a,c b h2];rfl
theorem cX.keep{c:Cx}{s:dd}{j:KM}{k d:KB}{N:Nat}(P:eF N k d):∀(m:KM) (b:Nat),aK N m=true→(∀(i:Nat) (o:AO),m[i]? =some o→j[b+i]? =some o)→cX c s j k d (HX b m.length) m:=by
 intro g
 induction g with
 |nil=>
  intro _ _ _;exact trivial
 |cons o m f=>
  intro b n h;refine ai (j7 n) λh1 h2=> ?_;refine⟨(ah o (h 0 o rfl) (λa=>aE.cut h1 P)),f (b+1) h2 λi l e=> ?_⟩;have:=h (i+1) l e;rwa [show b+1+i=b+(i+1) by exact Leq [_,_] [] 0 (.a (.a V0 Z0) V1) (.a V0 (.a V1 Z0)) rfl];exact this
theorem nJ(a n i:Nat)(h:i < n):(HX a n)[i]? =some (a+i):=by rwa [List.getElem?_range' h];simp
theorem nb{e:Type}{A B T:List e}{X Y:e}(b:A.length=11)(d:B.length=7):(A++(B++(T++[X])++[Y]))[18+T.length]? =some X∧(A++(B++(T++[X])++[Y]))[19+T.length]? =some Y∧∀(i:Nat) (o:e),T[i]? =some o→(A++(B++(T++[X])++[Y]))[18+i]? =some o:=by
 refine(cB ?_ ?_ (λi o h=> ?_))
 ·rwa [gv (by exact Lle [_,_] [Q1 V0 Z6] 0 V0 (.a Z9 V1) rfl b),i1 (by simp;exact Lle [_,_,_,_] [Q2 V0 Z6,Q2 V1 Z5,Q1 (.a V2 V0) (.a Z9 V3)] 0 (.a V2 Z0) (.a V1 (.a V3 Z0)) rfl b d (pm (Lle [_,_] [Q1 V0 Z6] 0 V0 (.a Z9 V1) rfl b))),gv (by exact Lle [_,_,_,_] [Q1 V0 Z6,Q1 V1 Z5,Q2 (.a V2 V0) (.a Z9 V3)] 0 V1 V2 rfl b d (pm (Lle [_,_] [Q1 V0 Z6] 0 V0 (.a Z9 V1) rfl b))),gv (by simp+arith [*])]
  rwa [show 18+T.length -A.length -B.length -T.length=0 by simp+arith [*]];rfl
 ·rwa [gv (by exact Lle [_,_] [Q1 V0 Z6] 0 V0 (.a (.c 19) V1) rfl b),gv (by simp;exact Lle [_,_,_,_] [Q1 V0 Z6,Q1 V1 Z5,Q2 (.a V3 V0) (.a (.c 19) V2)] 0 (.a V1 (.a V2 Z0)) V3 rfl b d (pm (Lle [_,_] [Q1 V0 Z6] 0 V0 (.a (.c 19) V1) rfl b)))]
  rwa [show 19+T.length -A.length -(B++(T++[X])).length=0 by simp;simp+arith [*]];rfl
 ·have f:=(hX.mp h).1
  rwa [gv (by exact Lle [_,_] [Q1 V0 Z6] 0 V0 (.a Z9 V1) rfl b),i1 (by simp;exact Lle [_,_,_,_,_] [Q2 V0 Z6,Q2 V1 Z5,Q0 (.a V2 Z0) V3,Q1 (.a V4 V0) (.a Z9 V2)] 0 (.a V4 Z0) (.a V1 (.a V3 Z0)) rfl b d f (pm (Lle [_,_] [Q1 V0 Z6] 0 V0 (.a Z9 V1) rfl b))),gv (by exact Lle [_,_,_,_] [Q1 V0 Z6,Q1 V1 Z5,Q2 (.a V2 V0) (.a Z9 V3)] 0 V1 V2 rfl b d (pm (Lle [_,_] [Q1 V0 Z6] 0 V0 (.a Z9 V1) rfl b))),i1 (by simp+arith [*])]
  rwa [show 18+i -A.length -B.length=i by simp+arith [*]];exact h
theorem zr{d:Type}{A B T:List d}(b:A.length=11)(e:B.length=9):∀(i:Nat) (o:d),T[i]? =some o→(A++(B++T))[20+i]? =some o:=λi o h=>by
 rwa [gv (by exact Lle [_,_] [Q1 V0 Z6] 0 V0 (.a Z15 V1) rfl b),gv (by exact Lle [_,_,_,_] [Q1 V0 Z6,Q1 V1 (.c 9),Q2 (.a V2 V0) (.a Z15 V3)] 0 V1 V2 rfl b e (pm (Lle [_,_] [Q1 V0 Z6] 0 V0 (.a Z15 V1) rfl b))),show 20+i -A.length -B.length=i by simp+arith [*]];exact h
noncomputable def d0(x y:KF)(a n:Nat):List Nat:=HX 0 11++(([11,12,13,14,15]++x)++(y++HX a n))
theorem qB{x y:KF}{a n:Nat}(i:Nat)(h:i < 11):(d0 x y a n)[i]? =some i:=
 ltS (ltS (ltS (ltS (ltS (ltS (ltS (ltS (ltS (ltS (ltS (ltN (P:=λi=>(d0 x y a n)[i]? =some i)) rfl) rfl) rfl) rfl) rfl) rfl) rfl) rfl) rfl) rfl) rfl i h
theorem qA{x y:KF}{d n:Nat}(h1:(x++y).Nodup)(h2:∀a∈x++y,16≤a∧(a < d∨d+n≤a))(h3:16≤d):(d0 x y d n).Nodup:=by
 have e:d0 x y d n=HX 0 11++([11,12,13,14,15]++((x++y)++HX d n)):=by unfold d0;simp+arith [*]
 rwa [e];have g:∀a∈[11,12,13,14,15],11≤a∧a < 16:=by decide
 have j:∀a∈HX d n,d≤a∧a < d+n:=λa h=>List.mem_range'_1.mp h;have i:∀a∈(x++y)++HX d n,16≤a:=λa h=>(sz.mp h).elim (λh=>(h2 a h).1) λh=>by have:=j a h;exact Lle [_,_] [Q0 (.c 16) V0,Q0 V0 V1] 0 (.c 16) V1 rfl h3 this.1
 refine Gn.mpr (cB List.nodup_range' (Gn.mpr ⟨by decide,Gn.mpr ⟨h1,List.nodup_range',λa f b hb e=> ?_⟩,λa f b hb e=> ?_⟩) (λa f b hb e=> ?_))
 ·subst e;have h:=h2 a f;have q:=j a hb;exact h.2.elim (λz=>HA _ (fa z q.1)) λz=>HA _ (fa q.2 z)
 ·have:=g a f;have:=i b hb;exact Lno [_,_] [Q2 V0 V1,Q0 (.a V0 Z0) (.c 16),Q0 (.c 16) V1] rfl e ‹11≤a∧a < 16›.2 this
 ·have h:=(List.mem_range'_1.mp f).2
  rcases sz.mp hb with hb|hb
  ·have:=g b hb;exact Lno [_,_] [Q2 V0 V1,Q0 (.a V0 Z0) (.a Z3 Z6),Q0 Z6 V1] rfl e h this.1
  ·have:=i b hb;exact Lno [_,_] [Q2 V0 V1,Q0 (.a V0 Z0) (.a Z3 Z6),Q0 (.c 16) V1] rfl e h this
section
variable{c:Cx}{s:dd}{F:Fx}{x:GS}
theorem vX:∀{Y:KL} {p b:Str} {k d:List aU} {P:Int} {f:List aL} {wk:KA} {lad:Ad2} {ad:Ad} {e:Int} (h0:c.d.ρ₀=[]) (O:aC 0 F.tf=true) (m:lad.length=f.length) (C:ad.length=x.stk.length) (E:iC Y [("homes", .ref 12),("lines", .ref 13),("walked", .ref 14),("pile", .ref 15),("ends", .int e),("token", .none)]) (H:At c cM0 (RTl lad ad) (ogX x F.hk F.tf ad++ .frame Y:: .dict (ao bA F.hs):: .dict (ao bI F.ls):: .strs wk:: .list ((di lad++[.ref 16])++[.ref ((du f lad++aM x.stk ad++[AO.list (d.map aJ)]).length+18)]):: .list [.str p, .ref 17, .int P]:: .list (k.map aJ)::(du f lad++aM x.stk ad++[.list (d.map aJ)])++[.list [.str b, .ref ((du f lad++aM x.stk ad).length+18), .int 1]]) s),AtM c F x (fM e [("token", .none)]) ((b,d,1)::(p,k,P)::f) wk s:=by
 revert c s F x;refine' eI15;intro e ad lad wk f P d k b p Y x F s c h0 O m C E H;obtain⟨l,H,r⟩:=H;have z:=H.rep.len;generalize D:du f lad++aM x.stk ad=tl at*;have hN:tl.length=(dT lad++aD ad).length:=by(rwa [←D,is,is,lm m,dZ C];rfl)
 have L:aK 0 tl=true:=by rwa [←D];exact iS (im _ _) (cw _ _)
 generalize U:tl.length=n at*;have hL:l.length=20+n:=by rwa [z];simp [ogX,OG,OC,U];exact Leq [_] [] 0 (.a (.a (.a (.a (.a (.a (.a (.a (.a (.a (.a (.a (.a (.a (.a (.a (.a (.a (.a V0 Z4) Z0) Z0) Z0) Z0) Z0) Z0) Z0) Z0) Z0) Z0) Z0) Z0) Z0) Z0) Z0) Z0) Z0) Z0) (.a Z15 V0) rfl
 obtain⟨Z,T⟩:∃a,l[16]? =some a:=⟨_,kn (by exact Lle [_,_] [Q2 V1 (.a Z15 V0)] 0 (.a (.c 16) Z0) V1 rfl hL)⟩
 obtain⟨K,J⟩:∃a,l[17]? =some a:=⟨_,kn (by exact Lle [_,_] [Q2 V1 (.a Z15 V0)] 0 (.a (.c 17) Z0) V1 rfl hL)⟩
 refine⟨b,d,1,(p,k,P)::f,(Z,K)::lad,ad,rfl,congrArg (· +1) m,C, ?_⟩;refine At.sel (R:=λzz I=>I=l) ⟨l,H,rfl⟩ h0 (d0 [19+n,18+n] [16,17] 18 n) ?_ ?_ ?_ ?_ rfl ?_
 ·rwa [←z,hL]
  intro y hy;simp [d0,List.mem_range']at hy;exact hy.elim (λh=>fa h (h9 (by decide:11≤20) (og 20 _))) λh=>orL h (fa (by decide) (og 20 _)) λh=>orL h (fa (by decide) (og 20 _)) λh=>orL h (fa (by decide) (og 20 _)) λh=>orL h (fa (by decide) (og 20 _)) λh=>orL h (fa (by decide) (og 20 _)) λh=>orL h (Nat.add_lt_add_right (by decide) _) λh=>orL h (Nat.add_lt_add_right (by decide) _) λh=>orL h (fa (by decide) (og 20 _)) λh=>orL h (fa (by decide) (og 20 _)) λh=>h.elim λw h=>h.2▸Nat.add_lt_add_of_le_of_lt (by decide) h.1
 ·refine qA (by simp;simp+arith) (λa W=> ?_) (by decide)
  simp at W;rcases W with rfl|rfl|rfl|rfl
  ·exact⟨h9 (by decide:16≤19) (og 19 n), .inr (Nat.add_le_add_right (by decide) n)⟩
  ·exact⟨h9 (by decide:16≤18) (og 18 n), .inr (fx _)⟩
  ·exact⟨by decide, .inl (by decide)⟩
  ·exact⟨by decide, .inl (by decide)⟩
 ·intro I _ G g
  have G:=G.symm;subst G;have a0:eF 11 l (bN l (d0 [19+n,18+n] [16,17] 18 n)):=λi a t h=>g i i a (qB i t) h;have v:∀i j:Nat,(d0 [19+n,18+n] [16,17] 18 n)[j]? =some i→VTo l (bN l (d0 [19+n,18+n] [16,17] 18 n)) (.ref i) (.ref j):=λi j h=> .ref λa W=>g i j a h W;refine cX.app (cX.keep a0 (ogX x F.hk F.tf ad) 0 (eC (cu _ _) O) λi o h=> ?_) (cX.app (l1:=[11,12,13,14,15]++[19+n,18+n]) (m1:=[_,_,_,_,_,_,_]) ?_ ?_)
  ·rwa [HY _]
   show(ogX x F.hk F.tf ad++_)[i]? =_;rwa [i1 (hX.mp h).1];exact h
  ·have a5:FTo l (bN l (d0 [19+n,18+n] [16,17] 18 n)) Y [("homes", .ref 12),("lines", .ref 13),("walked", .ref 14),("pile", .ref 15),("ends", .int e),("token", .none)]:=
    ⟨(ah _ E.1 (v 12 12 rfl)),(ah _ E.2.1 (v 13 13 rfl)),(ah _ E.2.2.1 (v 14 14 rfl)),(ah _ E.2.2.2.1 (v 15 15 rfl)),(ah _ E.2.2.2.2.1 (.closed rfl)),(ah _ E.2.2.2.2.2.1 (.closed rfl)),KP⟩
   have a6:(tl++[AO.list (d.map aJ)]).length+18=19+n:=by rwa [is,U];show n+1+18=_;exact Leq [_] [] 0 (.a (.a V0 Z0) Z9) (.a (.c 19) V0) rfl
   refine⟨(ah _ rfl (λa=> .frameR a5)),(ah _ rfl (λa=> .same0 (aQ dv _))),(ah _ rfl (λa=> .same0 (aQ cR _))),(ah _ rfl (λa=> .same0 rfl)),(ah _ rfl (λa=> .listR ?_)),(ah (.list [.str b, .ref (18+n), .int 1]) ?_ (λa=> .listR ⟨.closed rfl,v (18+n) 17 rfl, .closed rfl,KP⟩)),(ah (.list (d.map aJ)) ?_ (λa=> .same0 (bi _))),KP⟩
   ·rwa [nS _ _ _,a6,oq _ _ _,oq _ _ _]
    exact gm.app (.closed (ik lad)) ⟨.ra T,v (19+n) 16 rfl,KP⟩
   ·rwa [←U,Jm tl.length 18];exact(nb (A:=ogX x F.hk F.tf ad) (B:=[_,_,_,_,_,_,_]) rfl rfl).2.1
   ·rwa [←U];exact(nb (A:=ogX x F.hk F.tf ad) (B:=[_,_,_,_,_,_,_]) rfl rfl).1
  ·show cX c s _ l _ ([16,17]++HX 18 n) ([.list [.str p, .adr K, .int P], .list (k.map aJ)]++(du f lad++aM x.stk ad))
   rwa [D];refine cX.app ⟨(ah _ rfl (λa=> .listR ⟨.closed rfl, .ra J, .closed rfl,KP⟩)),(ah _ rfl (λa=> .same0 (bi _))),KP⟩ ?_;rwa [←U];exact cX.keep (N:=0) (λi a t=>absurd t (o1 _)) tl 18 L (nb (A:=ogX x F.hk F.tf ad) (B:=[_,_,_,_,_,_,_]) rfl rfl).2.2
 ·intro I F1 F2 _ _ g G
  have G:=G.symm;subst G;intro i a t
  match i with
  |0=>obtain rfl:=ds t;exact g 16 18 _ rfl T
  |1=>obtain rfl:=ds t;exact g 17 19 _ rfl J
  |i+2=>
   have t:(dT lad++aD ad)[i]? =some a:=t;have a4:i < n:=by rwa [hN];exact(hX.mp t).1
   refine g (18+i) _ a ?_ (r i a t);unfold d0;rwa [←oq _ _ _,←oq _ _ _,gv (by simp;exact Lle [_] [] 0 Z15 (.a Z9 (.a V0 Z4)) rfl)]
   rwa [show 18+(i+2) -_=i by simp;exact Leq [_,_] [.h 4 1 1 (.a V0 Z15) (.a Z9 (.a V1 Z4))] 0 V0 V1 rfl (pm (Lle [_] [] 0 Z15 (.a Z9 (.a V0 Z4)) rfl))]
   exact nJ 18 n i a4
 ·intro y j u
  refine(ah j u ?_);have u:(bif af y "lexer" then some 6 else bif af y "texts" then some 7 else bif af y "given" then some 8 else none)=some j:=u;cases q:af y "lexer"<;>rw [q]at u<;>first|(obtain rfl:=ds u;rfl)|skip
  cases q:af y "texts"<;>rw [q]at u<;>first|(obtain rfl:=ds u;rfl)|skip
  cases q:af y "given"<;>rw [q]at u<;>first|(cases u;rfl)|(exact noS u)
end
theorem BK:∀{a:KF} (h:a[6]? =some 6∧a[7]? =some 7∧a[8]? =some 8),∀(y:Str) (j:Nat),lkC y cM0.cells=some j→∃i,lkC y cM0.cells=some i∧a[j]? =some i:=by
 refine' eI1;intro a h;exact λy j b=>by
  refine(ah j b ?_);have b:(bif af y "lexer" then some 6 else bif af y "texts" then some 7 else bif af y "given" then some 8 else none)=some j:=b;cases q:af y "lexer"<;>rw [q]at b<;>first|(obtain rfl:=ds b;exact h.1)|skip
  cases q:af y "texts"<;>rw [q]at b<;>first|(obtain rfl:=ds b;exact h.2.1)|skip
  cases q:af y "given"<;>rw [q]at b<;>first|(cases b;exact h.2.2)|(exact noS b)
section
variable{c:Cx}{s:dd}{F:Fx}{x:GS}
theorem vY:∀{U:KL} {p:Str} {ln:Int} {K:aL} {f:List aL} {wk:KA} {lad:Ad2} {ad:Ad} {e:Int} (h0:c.d.ρ₀=[]) (J:aC 0 F.tf=true) (d:lad.length=(K::f).length) (z:ad.length=x.stk.length) (C:iC U [("homes", .ref 12),("lines", .ref 13),("walked", .ref 14),("pile", .ref 15),("ends", .int e),("token", .none)]) (H:At c cM0 (RTl lad ad) (ogX x F.hk F.tf ad++ .frame U:: .dict (ao bA F.hs):: .dict (ao bI F.ls):: .strs wk:: .list (di lad++[V.ref 16]).dropLast:: .list [.str p, .ref 17, .int ln]:: .list []::(du (K::f) lad++aM x.stk ad)) s),AtM c F x (fM e [("token", .none)]) (K::f) wk s:=by
 revert c s F x;refine' eI13;intro e ad lad wk f K ln p U x F s c h0 J d z C H;obtain⟨m,H,r⟩:=H;obtain⟨P,O,L⟩:=K;obtain⟨⟨a,E⟩,lad,rfl⟩:∃q l,lad=q::l:=by
  induction lad using kv with
  |nil=>cases d
  |cons q l=>exact(sG q l rfl)
 have d:lad.length=f.length:=HZ d;have k:=H.rep.len;rw [J6]at H r k;generalize t:du f lad++aM x.stk ad=tl at*;have u:du ((P,O,L)::f) ((a,E)::lad)++aM x.stk ad= .list [.str P, .adr E, .int L]:: .list (O.map aJ)::tl:=by rwa [←t];rfl
 rw [u]at H r k;have hN:tl.length=(dT lad++aD ad).length:=by(rwa [←t,is,is,lm d,dZ z];rfl)
 have I:aK 0 tl=true:=by rwa [←t];exact iS (im _ _) (cw _ _)
 generalize hn:tl.length=n at*;have hL:m.length=20+n:=by rwa [k];simp [ogX,OG,OC,hn];exact Leq [_] [] 0 (.a (.a (.a (.a (.a (.a (.a (.a (.a (.a (.a (.a (.a (.a (.a (.a (.a (.a (.a (.a V0 Z0) Z0) Z0) Z0) Z0) Z0) Z0) Z0) Z0) Z0) Z0) Z0) Z0) Z0) Z0) Z0) Z0) Z0) Z0) Z0) (.a Z15 V0) rfl
 have Y:m[18]? =some a:=r 0 a rfl;have a0:m[19]? =some E:=r 1 E rfl;refine⟨P,O,L,f,lad,ad,rfl,d,z, ?_⟩;refine At.sel (R:=λzz D=>D=m) ⟨m,H,rfl⟩ h0 (d0 [18,19] [] 20 n) ?_ ?_ ?_ ?_ rfl (BK (cB rfl rfl rfl))
 ·rwa [←k,hL]
  intro y hy;simp [d0,List.mem_range']at hy;exact hy.elim (λh=>fa h (h9 (by decide:11≤20) (og 20 _))) λh=>orL h (fa (by decide) (og 20 _)) λh=>orL h (fa (by decide) (og 20 _)) λh=>orL h (fa (by decide) (og 20 _)) λh=>orL h (fa (by decide) (og 20 _)) λh=>orL h (fa (by decide) (og 20 _)) λh=>orL h (fa (by decide) (og 20 _)) λh=>orL h (fa (by decide) (og 20 _)) λh=>h.elim λw h=>h.2▸Jb h.1 _
 ·refine qA (by decide) (λa T=> ?_) (by decide)
  simp at T;rcases T with rfl|rfl<;>exact⟨by decide, .inl (by decide)⟩
 ·intro D _ u g
  have u:=u.symm;subst u;have W:eF 11 m (bN m (d0 [18,19] [] 20 n)):=λi a G h=>g i i a (qB i G) h;have v:∀i j:Nat,(d0 [18,19] [] 20 n)[j]? =some i→VTo m (bN m (d0 [18,19] [] 20 n)) (.ref i) (.ref j):=λi j h=> .ref λa T=>g i j a h T;have a6:=g 18 16 a rfl Y;have a4:=g 19 17 E rfl a0;refine cX.app (cX.keep W (ogX x F.hk F.tf ad) 0 (eC (cu _ _) J) λi o h=> ?_) (cX.app (l1:=[11,12,13,14,15]++[18,19]) (m1:=[_,_,_,_,_,_,_]) ?_ ?_)
  ·rwa [HY _]
   show(ogX x F.hk F.tf ad++_)[i]? =_;rwa [i1 (hX.mp h).1];exact h
  ·have a5:FTo m (bN m (d0 [18,19] [] 20 n)) U [("homes", .ref 12),("lines", .ref 13),("walked", .ref 14),("pile", .ref 15),("ends", .int e),("token", .none)]:=
    ⟨(ah _ C.1 (v 12 12 rfl)),(ah _ C.2.1 (v 13 13 rfl)),(ah _ C.2.2.1 (v 14 14 rfl)),(ah _ C.2.2.2.1 (v 15 15 rfl)),(ah _ C.2.2.2.2.1 (.closed rfl)),(ah _ C.2.2.2.2.2.1 (.closed rfl)),KP⟩
   refine⟨(ah _ rfl (λa=> .frameR a5)),(ah _ rfl (λa=> .same0 (aQ dv _))),(ah _ rfl (λa=> .same0 (aQ cR _))),(ah _ rfl (λa=> .same0 rfl)),(ah _ rfl (λa'=> .listR ?_)),(ah (.list [.str P, .adr E, .int L]) rfl (λa=> .listR ⟨.closed rfl, .ar a4, .closed rfl,KP⟩)),(ah (.list (O.map aJ)) rfl (λa=> .same0 (bi _))),KP⟩;rwa [nS _ _ _];exact gm.app (.closed (ik lad)) ⟨.ar a6,KP⟩
  ·show cX c s _ m _ ([]++HX 20 n) (du f lad++aM x.stk ad)
   (rwa [t];rw [J7];rwa [←hn]);exact cX.keep (N:=0) (λi a G=>absurd G (o1 _)) tl 20 I (zr (A:=ogX x F.hk F.tf ad) (B:=[_,_,_,_,_,_,_,_,_]) rfl rfl)
 ·intro D F1 F2 _ _ g u
  have u:=u.symm;subst u;intro i b G;have Z:i < n:=by rwa [hN];exact(hX.mp G).1
  refine g (20+i) _ b ?_ (by have:=r (i+2) b G;rwa [show 18+(i+2)=20+i by exact Leq [_] [] 0 (.a Z9 (.a V0 Z4)) (.a Z15 V0) rfl]at this)
  unfold d0;rwa [←oq _ _ _,←oq _ _ _,gv (by simp)]
  rwa [show 18+i -_=i by simp]
  exact nJ 20 n i Z
end
theorem FlR.isN{F:aA}{c:KB}{a:Hj}(h:FlR .next F c a):a= .next:=by
 induction a<;>first|rfl|(cases h;done)|((refine ab h ?_;clear h;intro b h b);cases h)
theorem FlR.isC{F:aA}{c:KB}{a:Hj}(h:FlR .cont F c a):a= .cont:=by
 induction a<;>first|rfl|(cases h;done)|((refine ab h ?_;clear h;intro b h b);cases h)
theorem FlR.isB{F:aA}{c:KB}{a:Hj}(h:FlR .brk F c a):a= .brk:=by
 induction a<;>first|rfl|(cases h;done)|((refine ab h ?_;clear h;intro b h b);cases h)
structure fO(F:Fx):Prop where
 home:∀x h,lkS x F.hs=some h→x=bk h.1 h.2∧dX h.1∧(∀n∈h.2,cy n)∧h.2.length≤25
 both:∀x,(lkS x F.hs).isSome=(lkS x F.ls).isSome
 its:∀x l,lkS x F.ls=some l→l.length≤1000∧∀i∈l,de i
 tf:aC 0 F.tf=true
def LvI(F:Fx)(a:List aL):Prop:=∀b∈a,(lkS b.1 F.hs).isSome=true∧b.2.1.length≤1000∧∀i∈b.2.1,de i
noncomputable def eOf(e:Int):V→Int
 | .none=>e+1
 |_=>e
theorem lS{b:KN}(h:b.length≤1000):aw (vP b):=⟨by rwa [is,Gr];exact Lle [_] [Q0 V0 Z1] 0 (.a V0 Z0) (.c 16777216) rfl h,wE _ _,KP⟩
theorem xj{b d:KN}(h:b.length≤1000)(h2:d.length≤1000):aw (vR b d):=
 aj.mpr ⟨lS h,aj.mpr ⟨⟨by exact Lle [_] [Q0 V0 Z1] 0 (.a V0 Z0) (.c 16777216) rfl h2,by exact Lle [_] [Q0 V0 Z1] 0 (.a V0 Z0) (.c 16777216) rfl h2,KP⟩,aj.mpr ⟨lS h,by decide,by decide,by decide,KP⟩⟩⟩
theorem tI{d:KA}(h:∀n∈d,cY n)(f:d.length≤1000):aw [1≤64,(IE (λ(x:Str)=>x.length) d).sum+d.length*64≤16777216]:=by
 have b:=iE (m:=4) λx e=>kt (h x e);refine⟨by decide, ?_,KP⟩
 show cF d+_≤_;exact Lle [_,_] [.h 0 68 0 V0 Z1,Q0 V1 (.m 4 V0)] 0 (.a V1 (.w V0 64)) (.c 16777216) rfl f b
section
variable{P:ed}{j l:KC}{c:Cx}{s:dd}{F:Fx}{x:GS}
theorem xk:∀{p:Str} {f:KA} {low rs:KN} (z:aR (KK P) j l) (T:ak c (KK P) j l) (y:av 6 c.A) (w:fO F) (u:(lkS p F.hs).isSome=true) (i:∀n∈f,cY n) (q:f.length≤1000) (h1:low.length≤1000) (h2:rs.length≤1000),∃g e,lkS p F.hs=some (g,e)∧F.go p f=aX g f++f1 ("/":Str) (cn e.dropLast f)∧
 aI c 866 0 (sAt [.str g, .fstrs (ci e none (some (kV 0))), .fstrs f] [] [] (.ftup [.str (aX g f), .fstrs (cn e.dropLast f)]) [])∧
 ∀d,aw d→aw (vU low rs (ao bA F.hs) p g e f (aX g f) (cn e.dropLast f) d):=by
 revert P j l c F;refine' eI9;intro rs low f p F c l j P z T y w u i q h1 h2;(refine au (Gj.mp u) λr o=> ?_;obtain⟨g,e⟩:=r);refine gl (w.home p _ o) λH A C k=> ?_;have D:∀n∈e.dropLast,cy n:=λn h=>C n (G9 _ h);have k:e.length≤25:=k;have m:e.dropLast.length≤25:=by rwa [I3];exact Lle [_,_] [Q0 V0 Z17,Q0 V1 V0] 0 V1 Z17 rfl k (J5 _ _)
 refine ai (vZ A D i) λG E=> ?_;have B:(cn e.dropLast f).length≤100000:=by
  have a:=nO f (bt e.dropLast f);have b:(bt e.dropLast f).length≤25:=by unfold bt;split;exact m;exact so _
  exact Lle [_,_,_] [Q0 V0 Z1,Q0 V1 (.a V2 V0),Q0 V2 Z17] 0 V1 Z16 rfl q a b
 refine(nt g e o (by unfold Fx.go;rwa [o];rfl) ?_ (λd t=> ?_))
 ·rwa [dY _]
  exact(C4 z T (y.le (by decide))).at rfl ⟨by exact Lle [_] [Q0 V0 Z17] 0 V0 Z16 rfl m,by exact Lle [_] [Q0 V0 Z1] 0 V0 Z16 rfl q,KP⟩
 ·refine aj.mpr (an (xj h1 h2) (aj.mpr ⟨⟨by rwa [cV _ _ _,o];rfl,by have:e.length≤25:=k;exact Lle [_] [Q0 V0 Z17] 0 V0 (.c 16777216) rfl k,KP⟩,aj.mpr ⟨iX rfl rfl,aj.mpr ⟨gw G E B,t⟩⟩⟩))
theorem rH{e a:KL}{p:Str}{b:List aU}{g:Int}{d:List aL}{f:KA}{lad:Ad2}{ad:Ad}(H:At c cM0 (RTl lad ad) (MS' F x (.frame e) p b g d f lad ad) s)(S:iC e a):
 At c cM0 (RTl lad ad) (MS' F x (.frame a) p b g d f lad ad) s:=H.fr (i:=11) rfl S rTl
def qe(F:Fx)(n:Nat)(a:List aL)(b:KA):Prop:=LvI F a∧a.length+n≤1000∧b.length+n≤1000
def kf(c:Cx)(d:Hj)(aF:dd→Prop)(s:dd):Prop:=eo c.M c.A (A0 whI.1 c.env (Gu whI.1 c.env)) (λb s2=>b=true∧eo c.M c.A (un whI.2.1 c.env) (λa s3=>a=d∧aF s3) NoE s2) NoE s
theorem gC{a:Cfg}{R:Rel}{m:Nat}(G:aG c a)(h1:a.fi=cM0.fi)(h2:a.cells=cM0.cells)(u:dk m R){i:KM}(H:At c cM0 R i s){vc:KG}{n:Fl}{d:KM}(e:whR a whI i= .ok vc (some n) d)(o:aw vc){g:Hj}(r:∀F q h,FlR n F q h→h=g){aF:dd→Prop}(k:∀s3,At c cM0 R d s3→aF s3):kf c g aF s:=
 ex (BV G h1 h2 u H e o) (λf s2 b=>ai b λp h2=>⟨p,ex h2 (λf s3 b=>ab b λt h3 A=>⟨r _ _ _ h3,k s3 A⟩) λf f z=>z⟩) λf f z=>z
theorem gg(f:aR (KK P) j l)(T:ak c (KK P) j l)(e:av 6 c.A)(E:bC c)(a:List (Nat×Bool))(b:List (Nat×V)):aG c (cJ [] a b):=my f T e E λg m d h=>by cases h
section
variable{p:Str}{its f o:List aU}{g e:Int}{low:List aL}{wk:KA}{lad:Ad2}{ad:Ad}{d:KA}{b:Nat}
theorem xW(v:aR (KK P) j l)(T:ak c (KK P) j l)(u:av 6 c.A)(E:bC c)(a:lad.length=low.length)(k:ad.length=x.stk.length)(t:low.length≤1000)(i:f.length≤1000)(q:∀n∈d,cY n)(lo:d.length≤1000)
 (A:At c cM0 (RTl lad ad) (MS' F x (fM e [("token", .none)]) p ((false,d,b)::f) g low wk lad ad) s):kf c .cont (λs3=>AtM c F x (fM e [("token", .str (f1 ("/":Str) d))]) ((p,f,g+(b:Nat))::low) wk s3) s:=
 gC (gg v T u E _ _) rfl rfl rTl A (qB1 (sio x.b (x.b.length -x.u.length)) (.ref 0) x.inf x.st.v x.ln F.hk (bf x.stk ad) F.tf x.gs e (ao bA F.hs) (ao bI F.ls) wk (di lad) p g (f.map aJ) (du low lad++aM x.stk ad) d ((b:Nat):Int))
  (aj.mpr ⟨xj (by rwa [d9 _,a];exact t) (by rwa [pg _];exact i),tI q lo⟩) (λm m m h=>h.isC) λs3 r=>⟨p,f,_,low,lad,ad,rfl,a,k,rH r ⟨rfl,rfl,rfl,rfl,rfl,rfl,KP⟩⟩
theorem zU(n:aR (KK P) j l)(T:ak c (KK P) j l)(m:av 6 c.A)(E:bC c)(a:ad.length=x.stk.length)
 (A:At c cM0 (RTl [] ad) (MS' F x (fM e [("token", .none)]) p [] g [] wk [] ad) s):kf c .brk (λs3=>AtM c F x (fM (e+1) [("token", .none)]) [(p,[],g)] wk s3) s:=
 gC (gg n T m E _ _) rfl rfl rTl A (qB5 (sio x.b (x.b.length -x.u.length)) (.ref 0) x.inf x.st.v x.ln F.hk (bf x.stk ad) F.tf x.gs e (ao bA F.hs) (ao bI F.ls) wk (di []) p g (du [] []++aM x.stk ad))
  (aj.mpr ⟨lS (so _),by decide,by decide,by decide,KP⟩) (λi i i h=>h.isB) λs3 k=>⟨p,[],g,[],[],ad,rfl,rfl,a,rH k ⟨rfl,rfl,rfl,rfl,rfl,rfl,KP⟩⟩
theorem zT(w:aR (KK P) j l)(T:ak c (KK P) j l)(u:av 6 c.A)(E:bC c)(r:c.d.ρ₀=[])(y:fO F){k:aL}(i:lad.length=(k::low).length)(n:ad.length=x.stk.length)(m:(k::low).length≤1000)
 (A:At c cM0 (RTl lad ad) (MS' F x (fM e [("token", .none)]) p [] g (k::low) wk lad ad) s):kf c .next (λs3=>AtM c F x (fM e [("token", .none)]) (k::low) wk s3) s:=
 gC (gg w T u E _ _) rfl rfl rTl A (qB4 (sio x.b (x.b.length -x.u.length)) (.ref 0) x.inf x.st.v x.ln F.hk (bf x.stk ad) F.tf x.gs e (ao bA F.hs) (ao bI F.ls) wk (di lad) p g (du (k::low) lad++aM x.stk ad))
  (aj.mpr ⟨lS (by rwa [d9 _,i];exact m),by decide,by rwa [is,Gr,d9 _,i];exact Lle [_] [Q0 V0 Z1] 0 (.a V0 Z0) (.c 16777216) rfl m,decide_eq_true (by show(1:Int) < ((di lad++[V.ref 16]).length:Int);rwa [is,Gr,d9 _,i,ix];simp+arith),by rwa [is,Gr,d9 _,i];exact Lle [_] [Q0 V0 Z1] 0 (.a V0 Z0) (.c 16777216) rfl m,List.getLast?_concat,KP⟩)
  (λq q q h=>h.isN) λs3 t=>vY r y.tf i n ⟨rfl,rfl,rfl,rfl,rfl,rfl,KP⟩ t
theorem xY:∀(H:aR (KK P) j l) (T:ak c (KK P) j l) (G:av 6 c.A) (E:bC c) (N:fO F) (I:(lkS p F.hs).isSome=true) (r:lad.length=low.length) (y:ad.length=x.stk.length) (L:low.length≤1000) (v:f.length≤1000) (O:∀n∈d,cY n) (lo:d.length≤1000) (C:F.look (F.go p d)=none∨bO (F.go p d) wk=true) (A:At c cM0 (RTl lad ad) (MS' F x (fM e [("token", .none)]) p ((true,d,b)::f) g low wk lad ad) s),kf c .next (λs3=>AtM c F x (fM e [("token", .none)]) ((p,f,g+(b:Nat))::low) wk s3) s:=by
 revert P j l c s F x p f g e low wk lad ad d b;refine no_implicit_lambda% (@Mine.pd _ (@Mine.pd _ ?_));refine' eI19;intro b d ad lad wk low e g f p x F s c l j P _ _ H T G E N I r y L v O lo C A;refine sI (xk H T G N I O lo (low:=di lad) (rs:=f.map aJ) (by rwa [d9 _,r];exact L) (by rwa [pg _];exact v)) λq k Z t W R=> ?_
 have K:∀z D,aG c (cJ [(866,0,sAt [.str q, .fstrs (ci k none (some (kV 0))), .fstrs d] [] [] (.ftup [.str (aX q d), .fstrs (cn k.dropLast d)]) [])] z D):=λz D=>my H T G E (j6 W λa m J h=>by cases h)
 have B:∀s3,At c cM0 (RTl lad ad) (MS' F x (frU e p g ((b:Nat):Int) d (aX q d) (cn k.dropLast d)) p f (g+(b:Nat)) low wk lad ad) s3→AtM c F x (fM e [("token", .none)]) ((p,f,g+(b:Nat))::low) wk s3:=λs3 Y=>⟨p,f,_,low,lad,ad,rfl,r,y,rH Y ⟨rfl,rfl,rfl,rfl,rfl,rfl,KP⟩⟩;cases u:F.look (F.go p d)with
 |none=>
  refine gC (K _ _) rfl rfl rTl A (EK (sio x.b (x.b.length -x.u.length)) (.ref 0) x.inf x.st.v x.ln F.hk (bf x.stk ad) F.tf x.gs e (ao bA F.hs) (ao bI F.ls) wk (di lad) p g (f.map aJ) (du low lad++aM x.stk ad) d (cn k.dropLast d) k ((b:Nat):Int) q (aX q d)) (R _ ⟨?_,KP⟩) (λw w w h=>h.isN) B;rwa [←t,cV _ _ _,show lkS (F.go p d) F.ls=none from u];rfl
 |some i=>
  have U:bO (F.go p d) wk=true:=C.resolve_left (by rwa [u];simp)
  refine gC (K _ _) rfl rfl rTl A (EJ (sio x.b (x.b.length -x.u.length)) (.ref 0) x.inf x.st.v x.ln F.hk (bf x.stk ad) F.tf x.gs e (ao bA F.hs) (ao bI F.ls) wk (di lad) p g (f.map aJ) (du low lad++aM x.stk ad) d (cn k.dropLast d) k ((b:Nat):Int) q (aX q d)) (R _ ⟨?_, ?_,KP⟩) (λw w w h=>h.isN) B
  ·rwa [←t,cV _ _ _,show lkS (F.go p d) F.ls=some i from u];rfl
  ·rwa [←t,U];rfl
theorem xX:∀(J:aR (KK P) j l) (T:ak c (KK P) j l) (H:av 6 c.A) (E:bC c) (L:c.d.ρ₀=[]) (C:fO F) (K:(lkS p F.hs).isSome=true) (q:lad.length=low.length) (w:ad.length=x.stk.length) (D:low.length≤1000) (u:f.length≤1000) (U:∀n∈d,cY n) (lo:d.length≤1000) (R:wk.length≤1000) (t:F.look (F.go p d)=some o) (W:bO (F.go p d) wk=false) (A:At c cM0 (RTl lad ad) (MS' F x (fM e [("token", .none)]) p ((true,d,b)::f) g low wk lad ad) s),kf c .next (λs3=>AtM c F x (fM e [("token", .none)]) ((F.go p d,o,1)::(p,f,g+(b:Nat))::low) (wk++[F.go p d]) s3) s:=by
 revert P j l c s F x p f o g e low wk lad ad d b;refine no_implicit_lambda% (@Mine.pd _ ?_);refine' eI19;intro b d ad lad wk low e g o f p x F s c l j P _ J T H E L C K q w D u U lo R t W A;refine sI (xk J T H C K U lo (low:=di lad) (rs:=f.map aJ) (by rwa [d9 _,q];exact D) (by rwa [pg _];exact u)) λr k hh I fn hC=> ?_
 have G2:∀z B,aG c (cJ [(866,0,sAt [.str r, .fstrs (ci k none (some (kV 0))), .fstrs d] [] [] (.ftup [.str (aX r d), .fstrs (cn k.dropLast d)]) [])] z B):=λz B=>my J T H E (j6 fn λi m N h=>by cases h)
 have Y:=qB3 (sio x.b (x.b.length -x.u.length)) (.ref 0) x.inf x.st.v x.ln F.hk (bf x.stk ad) F.tf x.gs e (ao bA F.hs) (ao bI F.ls) wk (di lad) p g (f.map aJ) (du low lad++aM x.stk ad) d (cn k.dropLast d) k ((b:Nat):Int) r (aX r d) (o.map aJ);refine ai (C.its _ _ t) λZ a0=> ?_;rw [←I]at Y;have y:lk (F.go p d) (ao bI F.ls)=some (.flist (o.map aJ)):=by rwa [cV _ _ _,show lkS (F.go p d) F.ls=some o from t];rfl
 have G:(di lad++[V.ref 16]).length≤16777216:=by rwa [is,Gr,d9 _,q];exact Lle [_] [Q0 V0 Z1] 0 (.a V0 Z0) (.c 16777216) rfl D
 exact gC (G2 _ _) rfl rfl rTl A Y (hC _ ⟨by rwa [y];rfl,by rwa [W];rfl,by exact Lle [_] [Q0 V0 Z1] 0 V0 (.c 16777216) rfl R,y,by rwa [pg _];exact Lle [_] [Q0 V0 Z1] 0 V0 (.c 16777216) rfl Z,G,KP⟩) (λO O O h=>h.isN) λs3 A3=>vX L C.tf q w ⟨rfl,rfl,rfl,rfl,rfl,rfl,KP⟩ A3
def InI(c:Cx)(F:Fx)(x:GS)(e:Int)(r:V)(z:List aL)(h:KA)(k:Nat)(s:dd):Prop:=
 (∃n a wk,k=n+1∧fL F.look F.go n a wk r z h∧qe F n a wk∧AtM c F x (fM e [("token", .none)]) a wk s)∨(k=0∧(∃w,r= .str w)∧AtM c F x (fM (eOf e r) [("token",r)]) z h s)
inductive InT(c:Cx)(F:Fx)(x:GS)(e:Int)(r:V)(z:List aL)(wz:KA)(k:Nat)(s:dd):Prop
 |brk (aF:dd→Prop) (h:kf c .brk aF s) (hq:∀s3,aF s3→AtM c F x (fM (eOf e r) [("token",r)]) z wz s3)
 |go (fl:Hj) (aF:dd→Prop) (h:kf c fl aF s) (hf:fl= .next∨fl= .cont) (m:Nat) (hm:m < k) (hq:∀s3,aF s3→InI c F x e r z wz m s3)
 |no (h:eo c.M c.A (A0 whI.1 c.env (Gu whI.1 c.env)) (λb s2=>b=false∧AtM c F x (fM (eOf e r) [("token",r)]) z wz s2) NoE s)
theorem AtM.elim{a:AO}{p:Str}{its:List aU}{g:Int}{low:List aL}{wk:KA}(A:AtM c F x a ((p,its,g)::low) wk s){G:Prop}(k:∀lad ad,lad.length=low.length→ad.length=x.stk.length→At c cM0 (RTl lad ad) (MS' F x a p its g low wk lad ad) s→G):G:=by
 obtain⟨p,its,g,low,lad,ad,e,h1,h2,h3⟩:=A;cases e;exact k lad ad h1 h2 h3
structure F7(F:Fx)(n:Nat)(p:Str)(its:List aU)(low:List aL)(wk:KA):Prop where
 here:(lkS p F.hs).isSome=true
 len:its.length≤1000
 ok:∀i∈its,de i
 lv:LvI F low
 l0:low.length≤1000
 l1:low.length+1+n≤1000
 w:wk.length+n≤1000
theorem rW{n:Nat}{p:Str}{its:List aU}{g:Int}{low:List aL}{wk:KA}(I:qe F n ((p,its,g)::low) wk):F7 F n p its low wk:=
 have h:=I.1 _ il
 ⟨h.1,h.2.1,h.2.2,λa h=>I.1 a (iv _ h),Hg (h9 (og _ n) I.2.1),I.2.1,I.2.2⟩
theorem LvI.cons{p:Str}{its:List aU}{g:Int}{low:List aL}(h1:(lkS p F.hs).isSome=true)(h2:its.length≤1000)(h3:∀i∈its,de i)(a:LvI F low):LvI F ((p,its,g)::low):=λk h=>by
 rcases q4.mp h with rfl|h
 ·exact(cB h1 h2 h3)
 ·exact a k h
theorem rX:∀{n:Nat} {u z:List aL} {wk J:KA} {r:V} (D:aR (KK P) j l) (T:ak c (KK P) j l) (B:av 6 c.A) (E:bC c) (G:c.d.ρ₀=[]) (y:fO F) (W:fL F.look F.go n u wk r z J),qe F n u wk→AtM c F x (fM e [("token", .none)]) u wk s→InT c F x e r z J (n+1) s:=by
 revert P j l c s F x e;refine' eI14;intro r J wk z u n e x F s c l j P D T B E G y W;cases W with
 |word=>
  exact λI A=>A.elim λlad ad m t A=>have C:=rW I;have k:=C.ok _ il
   .go _ _ (xW D T B E m t C.l0 (Hg C.len) k.1 k.2.2 A) (.inr rfl) 0 (J3 _) λs3 h=> .inr (cB rfl ⟨_,rfl⟩ h)
 |fin=>
  exact λI A=>A.elim λlad ad m t A=>by
   obtain rfl:lad=[]:=HR m;exact .brk _ (zU D T B E t A) λs3 h=>h
 |pop W=>
  exact λI A=>A.elim λlad ad m t A=>have C:=rW I
   .go _ _ (zT D T B E G y m t C.l0 A) (.inl rfl) _ (ph _) λs3 h=> .inl (lI _ _ _ rfl W ⟨C.lv,h9 (by rwa [ix];exact Lle [_,_] [] 0 (.a (.a V0 Z0) V1) (.a (.a (.a V0 Z0) Z0) (.a V1 Z0)) rfl) C.l1,Hg C.w⟩ h)
 |use0 K W=>
  exact λI A=>A.elim λlad ad m t A=>have C:=rW I;have k:=C.ok _ il
   .go _ _ (xY D T B E y C.here m t C.l0 (Hg C.len) k.1 k.2.2 K A) (.inl rfl) _ (ph _) λs3 h=>
    .inl (lI _ _ _ rfl W ⟨.cons C.here (Hg C.len) (λi H=>C.ok i (iv _ H)) C.lv,Hg C.l1,Hg C.w⟩ h)
 |use1 w N W=>
  exact λI A=>A.elim λlad ad m t A=>have C:=rW I;have k:=C.ok _ il;have q:=y.its _ _ w
   have L:(lkS (F.go _ _) F.hs).isSome=true:=by rwa [y.both _];exact(congrArg Option.isSome w).trans rfl
   .go _ _ (xX D T B E G y C.here m t C.l0 (Hg C.len) k.1 k.2.2 (h9 (og _ _) C.w) w N A) (.inl rfl) _ (ph _) λs3 h=>
    .inl (lI _ _ _ rfl W ⟨.cons L q.1 q.2 (.cons C.here (Hg C.len) (λi H=>C.ok i (iv _ H)) C.lv),h9 (by rwa [ix,ix];exact Lle [_,_] [] 0 (.a (.a (.a V0 Z0) Z0) V1) (.a (.a V0 Z0) (.a V1 Z0)) rfl) C.l1,h9 (by rwa [is,Gr];exact Lle [_,_] [] 0 (.a (.a V0 Z0) V1) (.a V0 (.a V1 Z0)) rfl) C.w⟩ h)
theorem rY(n:aR (KK P) j l)(T:ak c (KK P) j l)(m:av 6 c.A)(E:bC c){z:List aL}{a:KA}{w:Str}(A:AtM c F x (fM (eOf e (.str w)) [("token", .str w)]) z a s){k:Nat}:InT c F x e (.str w) z a k s:=by
 obtain⟨p,its,g,low,lad,ad,rfl,hlad,had,A⟩:=A;exact .no (ex (BW (gg n T m E [] []) (k:=cM0) rfl rfl rTl A (EL (sio x.b (x.b.length -x.u.length)) (.ref 0) x.inf x.st.v x.ln F.hk (bf x.stk ad) F.tf x.gs e (ao bA F.hs) (ao bI F.ls) a (di lad) p g (its.map aJ) (du low lad++aM x.stk ad) w []) trivial)
  (λb s2 h=>⟨h.1,p,its,g,low,lad,ad,rfl,hlad,had,h.2⟩) λi i z=>z)
theorem wD:∀{n:Nat} {a z:List aL} {wk t:KA} {r:V} (D:aR (KK P) j l) (T:ak c (KK P) j l) (B:av 6 c.A) (E:bC c) (G:c.d.ρ₀=[]) (K:fO F) (W:fL F.look F.go n a wk r z t) (I:qe F n a wk) (H:AtM c F x (fM e [("token", .none)]) a wk s),eo c.M c.A (IP (gJ whI) c.env) (λJ C=>J= .next∧AtM c F x (fM (eOf e r) [("token",r)]) z t C) NoE s:=by
 revert P j l c s F x e;refine' eI14;intro r t wk z a n e x F s c l j P D T B E G K W I H;refine JF (Ii (InI c F x e r z t) ?_ (n+1) (.inl (lI n a wk rfl W I H)));intro k C L;have u:InT c F x e r z t k C:=by
  rcases L with⟨n,a,wk,rfl,W,I,A⟩|⟨rfl,⟨w,rfl⟩,A⟩
  ·exact rX D T B E G K W I A
  ·exact rY D T B E A
 induction u with
 |brk aF h y=>
  refine ex h (λb s2 h2=> ?_) λq q z=>sq z;(refine ai h2 ?_;clear h2;intro i h2;subst i);refine ex h2 (λv s3 h3=> ?_) λq q z=>sq z;(refine ai h3 ?_;clear h3;intro i h3;subst i);exact(an rfl (y s3 h3))
 |go J aF h N m O y=>
  refine ex h (λb s2 h2=> ?_) λq q z=>sq z;(refine ai h2 ?_;clear h2;intro i h2;subst i);refine ex h2 (λv s3 h3=> ?_) λq q z=>sq z;(refine ai h3 ?_;clear h3;intro i h3;subst i);rcases N with rfl|rfl<;>exact(ah m O (y s3 h3))
 |no h=>
  refine ex h (λb s2 h2=> ?_) λq q z=>sq z;(refine ai h2 ?_;clear h2;intro i h2;subst i);exact Gc (an rfl h2)
end
end
section
variable{P:ed}{a b:KC}{c:Cx}{s:dd}{F:Fx}{x z:GS}
theorem yK(x:GS)(d:cv)(e:KL)(ad:Ad):(ogX x d e ad).length=11:=rfl
def oh7(F:Fx)(e:Int)(i:V)(p:Str)(d:List aU)(h:Int)(f:List aL)(g:KA)(lad:Ad2):List AO:=[fM e [("token",i)], .dict (ao bA F.hs), .dict (ao bI F.ls), .strs g, .list (di lad++[.ref 16]), .list [.str p, .ref 17, .int h], .list (d.map aJ)]++du f lad
theorem ug(F:Fx)(x:GS)(e:Int)(i:V)(p:Str)(d:List aU)(h:Int)(f:List aL)(g:KA)(lad:Ad2)(ad:Ad):MS' F x (fM e [("token",i)]) p d h f g lad ad=ogX x F.hk F.tf ad++(oh7 F e i p d h f g lad++aM x.stk ad):=rfl
theorem uc{k f:KB}{h h2:Gm}{e:Int}{r:V}(q:V.closed 0 r=true){p:Str}{n:List aU}{u:Int}{l:List aL}{y:KA}{lad:Ad2}{t:A8}{w:Gv}(g:∀(i:Nat) (d:cv),i < 7→k[11+i]? =some d→f[11+i]? =some d):
 ∀(i:Nat) (o:AO),(oh7 F e r p n u l y lad)[i]? =some o→∀d,aE t w k h o f h2 o d:=by
 have v:∀i,i < 7→VTo k f (.ref (11+i)) (.ref (11+i)):=λi m=> .ref λd A=>g i d m A;exact alC (P:=λo=>∀d,aE t w k h o f h2 o d) (λj=> .frameR ⟨(ah _ rfl (v 1 (by decide))),(ah _ rfl (v 2 (by decide))),(ah _ rfl (v 3 (by decide))),(ah _ rfl (v 4 (by decide))),(ah _ rfl (.closed rfl)),(ah _ rfl (.closed q)),KP⟩)
  (alC (λj=> .same0 (aQ dv _)) (alC (λj=> .same0 (aQ cR _)) (alC (λj=> .same0 rfl) (alC (λj=> .listR (gm.app (.closed (ik lad)) ⟨v 5 (by decide),KP⟩)) (alC (λj=> .listR ⟨.closed rfl,v 6 (by decide), .closed rfl,KP⟩)
  (alC (λj=> .same0 (bi _)) λi o m j=> .same0 (bW (im _ _) m)))))))
theorem qE{e:Int}{j:V}{p:Str}{f:List aU}{i:Int}{d:List aL}{g:KA}{lad:Ad2}(h:lad.length=d.length):(oh7 F e j p f i d g lad).length=7+(dT lad).length:=by
 unfold oh7;rwa [is,lm h];rfl
theorem v5{e:Int}{j:V}{p:Str}{f:List aU}{i:Int}{g:List aL}{n:KA}{lad:Ad2}:∀o∈oh7 F e j p f i g n lad,o.live=true:=by
 have lo:∀(l:List aL) (ad:Ad2),∀o∈du l ad,o.live=true:=by
  intro l
  induction l with
  |nil=>intro ad o h;induction ad using kv<;>cases h
  |cons k r m=>
   obtain⟨p,f,i⟩:=k;intro ad o h
   induction ad using kv with
   |nil=>cases h
   |cons q ad=>
    obtain⟨d,t⟩:=q;rcases q4.mp h with rfl|h
    ·rfl
    rcases q4.mp h with rfl|h
    ·rfl
    exact m ad o h
 intro o ho;rcases sz.mp ho with ho|ho
 ·simp at ho
  rcases ho with rfl|rfl|rfl|rfl|rfl|rfl|rfl<;>rfl
 ·exact lo _ _ o ho
theorem zo:∀{n:Nat} {r:V} {w o a8:cv} {e:Int} {W:V} {p:Str} {C:List aU} {ln:Int} {u:List aL} {wk:KA} {lad:Ad2} {ad:Ad} {E:KB} {F0:aA} {a2:cv} (T:ak c (KK P) a b) (hr:av (n+8) c.A) (h0:c.d.ρ₀=[]) (FO:fO F) (hx:GOk x) (GA:mO P a b c.d.B F.hk w o a8 F.tf n x r z) (ag:V.closed 0 W=true) (D:lad.length=u.length) (L:ad.length=x.stk.length) (H:ac c cM0 E (MS' F x (fM e [("token",W)]) p C ln u wk lad ad) s) (rt:RTl lad ad F0 E) (h6:E[6]? =some w) (h7:E[7]? =some o) (h8:E[8]? =some a8) (h2:E[2]? =some a2),eo c.M c.A (call (.ref 693) [.ref a2]) (λv s'=>(∀F E,Val F E r v)∧∃f,f.length=z.stk.length∧At c cM0 (RTl lad f) (MS' F z (fM e [("token",W)]) p C ln u wk lad f) s') NoE s:=by
 revert P a b c s F x z;refine no_implicit_lambda% (@Mine.pd _ (@Mine.pd _ ?_));refine' eI27;intro a2 F0 E ad lad wk u ln C p W e a8 o w r n z x F s c b a P _ _ T hr h0 FO hx GA ag D L H rt h6 h7 h8 h2;refine byG λGG kk=> ?_;have Y:E.length=18+(dT lad++aD ad).length:=by
  (rwa [H.rep.len];rw [ug];rwa [is];rw [is];rwa [yK _ _ _ _];rw [is];rwa [qE D,dZ L]);exact Leq [_,_] [] 0 (.a Z6 (.a (.a Z5 V0) V1)) (.a Z9 (.a V0 V1)) rfl
 refine Eg (l:=E) (by exact Lle [_,_] [Q2 V0 (.a Z9 V1)] 0 (.c 12) V0 rfl Y) λa0 a1 b2 a3 J N b6 b7 b8 I k m t e=> ?_
 subst e;obtain rfl:w=b6:=(ds h6).symm;obtain rfl:o=b7:=(ds h7).symm;obtain rfl:a8=b8:=(ds h8).symm;obtain rfl:a2=b2:=(ds h2).symm;have ht:t=t.take 6++(dT lad++aD ad):=by
  have e1:t.drop 6=dT lad++aD ad:=by
   refine List.ext_getElem? λi=> ?_;rwa [IB]
   by_cases K:i < (dT lad++aD ad).length
   ·rwa [kn K]
    have:=rt i _ (kn K);rw [show 18+i=6+i+12 by exact Leq [_] [] 0 (.a Z9 V0) (.a (.a Z18 V0) (.c 12)) rfl]at this
    exact this
   ·(rwa [IT (Go.mp K),IT (by simp at Y K⊢;exact Lle [_,_,_,_] [Q1 (.a (.a (.a (.a (.a (.a (.a (.a (.a (.a (.a (.a V0 Z0) Z0) Z0) Z0) Z0) Z0) Z0) Z0) Z0) Z0) Z0) Z0) (.a Z9 (.a V1 V2)),Q0 (.a V1 V2) V3] 0 V0 (.a Z18 V3) rfl Y K)];rfl)
  (rwa [←e1,Gg _ _];rfl)
 have U:(t.take 6).length=6:=by rwa [p7];simp at Y;exact(GW (Lle [_,_,_] [Q2 (.a (.a (.a (.a (.a (.a (.a (.a (.a (.a (.a (.a V0 Z0) Z0) Z0) Z0) Z0) Z0) Z0) Z0) Z0) Z0) Z0) Z0) (.a Z9 (.a V1 V2))] 0 Z18 V0 rfl Y))
 generalize t.take 6=t6 at*;subst ht;have Z:(m::t6++dT lad).length=(oh7 F e W p C ln u wk lad).length:=by
  (rwa [qE D,is,ix,U];rfl)
 have R:aq c.prog c.w c.d ([a0,a1,a2,a3,J,N,w,o,a8,I,k]++((m::t6++dT lad)++aD ad)) (ogX x F.hk F.tf ad++(oh7 F e W p C ln u wk lad++aM x.stk ad)) s:=by
  have:=H.rep;rw [←oq]at this;exact this
 have al:fg (pin w o a8) ([a0,a1,a2,a3,J,N,w,o,a8,I,k]++aD ad):=gQ;refine ai (pK R rfl rfl Z (dZ L).symm (gx x F.hk FO.tf ad) (cw _ _) al) λR1 O1=> ?_;refine kk (ex (GA c T rfl hr hx _ ad a0 a1 a2 a3 J N I k s L R1 H.tk) (λv s2 h2=>byG λGG kk=> ?_) λzz zz z=>z);obtain⟨b0,b1,f,ap,O,R2,X2,hv⟩:=h2;have g:∀(i:Nat) (d:cv),i < 7→([a0,a1,a2,a3,J,N,w,o,a8,I,k]++((m::t6++dT lad)++aD ad))[11+i]? =some d→([b0,b1,a2,a3,J,N,w,o,a8,I,k]++((m::t6++dT lad)++aD f))[11+i]? =some d:=λi d K h=>by
  have h:((m::t6++dT lad)++aD ad)[i]? =some d:=(eA (A:=[a0,a1,a2,a3,J,N,w,o,a8,I,k]) (n:=11) rfl i).symm.trans h;refine(eA (A:=[b0,b1,a2,a3,J,N,w,o,a8,I,k]) (n:=11) rfl i).trans ?_;have ar:i < (m::t6++dT lad).length:=by rwa [is,ix,U];exact Lle [_,_] [Q0 (.a V0 Z0) Z5] 0 (.a V0 Z0) (.a (.a Z18 Z0) V1) rfl K
  rw [i1 ar]at h⊢;exact h
 have R3:=nZ R rfl rfl Z v5 O1 (B:=[b0,b1,a2,a3,J,N,w,o,a8,I,k]) (PB:=aD f) (ob:=ogX z F.hk F.tf f) (pb:=aM z.stk f) R2 X2 rfl rfl (dZ O).symm (gx z F.hk FO.tf f) (cw _ _) (by rwa [h0];exact λi d h=>by trivial) (uc ag g)
 refine kk ⟨hv,f,O,b0::b1::a2::a3::J::N::w::o::a8::I::k::m::(t6++(dT lad++aD f)),⟨?_,ap,H.fr,λy j G=> ?_⟩,λi d K=> ?_⟩
 ·(rw [ug];rwa [←oq _ _ _]);exact R3.1
 ·refine ab (H.cl y j G) λd q1 q2=> ?_
  refine(ah d q1 ?_);have G:(bif af y "lexer" then some 6 else bif af y "texts" then some 7 else bif af y "given" then some 8 else none)=some j:=G;cases q:af y "lexer"<;>rw [q]at G<;>first|(obtain rfl:=ds G;exact q2)|skip
  cases q:af y "texts"<;>rw [q]at G<;>first|(obtain rfl:=ds G;exact q2)|skip
  cases q:af y "given"<;>rw [q]at G<;>first|(cases G;exact q2)|(exact noS G)
 ·rwa [show 18+i=6+i+12 by exact Leq [_] [] 0 (.a Z9 V0) (.a (.a Z18 V0) (.c 12)) rfl]
  show(t6++(dT lad++aD f))[6+i]? =some d;rwa [eA U _];exact K
end
set_option genInjectivity false in
structure oO where
 o:Expr
 n:Str
 ap:nR
 p:nR
 tk:Expr
 p1:nR
 c2:Expr
 p2:nR
 ret:List k0
 p3:nR
deriving Nonempty
noncomputable def oO.stmt(i:oO):k0:= .If (.BoolOp .Or [.Compare (.Call (.Attribute i.o i.n i.ap) [] [] i.p) [.NotEq] [i.tk] i.p1,i.c2] i.p2) i.ret [] i.p3
def DM(l:List k0):oO:=aHd l df λs=>aIf s df λt ret a h=>sE t df λl d=>aH l df λe l=>aH l df λg a=>sD e df λe l b=>aH l df λi a=>kM e df λf a p=>aAt f df λo n c=>⟨o,n,c,p,i,b,g,d,ret,h⟩
def gif:oO:=DM (whM.2.1.drop 2)
theorem xZ:whM.2.1=whM.2.1.take 1++gJ whI::gif.stmt::whM.2.1.drop 3:=by rfl'
theorem Bk:dt gif.o=false∧Nat.beq gif.ap.endLine gif.p.line=true∧cT gif.tk=false:=(cB (by rfl') (by rfl') (by rfl'))
section
variable(s1:AO)(d:V)(f:Str)(st:V)(c:Int)(o:cv)(a:KN)(j:KL)(h:KA)(e:Int)(n l:KL)(g:KA)(b:KN)(p:Str)(m:Int)(k:KN)(i:KM)(r:V)
theorem gE:(fns (cJ [] [] []) 40).E gif.o (LM (OG s1 d f st c o a j h) (fM e [("token",r)]) n l g b p m k i)= .ok [] (.ref 2) (LM (OG s1 d f st c o a j h) (fM e [("token",r)]) n l g b p m k i):=by rfl'
theorem gM:fX (cJ [] [] []) (.ref 2) gif.n (LM (OG s1 d f st c o a j h) (fM e [("token",r)]) n l g b p m k i)=some (.fn 693):=by rfl'
theorem gTk:(fns (cJ [] [] []) 40).E gif.tk (LM (OG s1 d f st c o a j h) (fM e [("token",r)]) n l g b p m k i)= .ok [] r (LM (OG s1 d f st c o a j h) (fM e [("token",r)]) n l g b p m k i):=by rfl'
theorem gC2:(fns (cJ [] [(962041056,false)] []) 40).T gif.c2 (LM (OG s1 d f st c o a j h) (fM e [("token",r)]) n l g b p m k i)= .ok [(!fp h g)=false] false (LM (OG s1 d f st c o a j h) (fM e [("token",r)]) n l g b p m k i):=by rfl'
theorem EM:am (fns (cJ [] [] []) 40) (whM.2.1.take 1) (LM (OG s1 d f st c o a j h) (fM e []) n l g b p m k i)= .ok [] .next (LM (OG s1 d f st c o a j h) (fM e [("token", .none)]) n l g b p m k i):=by rfl'
end
theorem rl:∀l:List Str,fp l l=true:=by
 intro b
 induction b with
 |nil=>
  exact rfl
 |cons x r a=>
  show(bif af x x then fp r r else false)=true;rwa [aB.mpr rfl,a];rfl
theorem wT{n:Nat}(h:n < 2001):(cs (Jk ((n:Nat):Int))).length≤20:=by
 have:∀n,n < 2001→(cs (Jk ((n:Nat):Int))).length≤20:=by decide+kernel
 exact this n h
section
variable{P:ed}{d e:KC}{c:Cx}{s:dd}{F:Fx}{x z:GS}{Q:Hj→dd→Prop}
theorem wX(r:V)(b:r= .none∨∃w,r= .str w)(a:KM):wZ .NotEq r r a= .ok [] false a:=by
 rcases b with rfl|⟨w,rfl⟩
 ·rfl
 ·show Res.ok ([]:KG) (w !=w) a=_;(rwa [bne_self_eq_false _];rfl)
theorem zq:∀{n:Nat} {r:V} {a6 a7 a8:cv} {f:Int} {m:List aL} {N:KA} {l:List k0} (Tp:aR (KK P) d e) (T:ak c (KK P) d e) (W:av 6 c.A) (E:bC c) (hr:av (n+8) c.A) (h0:c.d.ρ₀=[]) (FO:fO F) (hx:GOk x) (GA:mO P d e c.d.B F.hk a6 a7 a8 F.tf n x r z) (c6:c.env.cells.lookup ("lexer":Str)=some a6) (c7:c.env.cells.lookup ("texts":Str)=some a7) (c8:c.env.cells.lookup ("given":Str)=some a8) (D:r= .none∨∃w,r= .str w) (Y:z.gs=N) (A:AtM c F x (fM f [("token",r)]) m N s) (K:∀s',AtM c F z (fM f [("token",r)]) m N s'→eo c.M c.A (un l c.env) Q NoE s'),eo c.M c.A (un (gif.stmt::l) c.env) Q NoE s:=by
 revert P d e c s F x z Q;refine no_implicit_lambda% (@Mine.pd _ ?_);refine' eI19;intro l N m f a8 a7 a6 r n Q z x F s c e d P _ Tp T W E hr h0 FO hx GA c6 c7 c8 D Y A K;obtain⟨p,R,ln,I,lad,ad,rfl,hlad,had,ρ,H,rt⟩:=A;refine ax Bk λg1 g2 g3=> ?_;have G:∀B,aG c (cJ [] B []):=λB=>gg Tp T W E B [];have H:=H.cfg (cfg':=cJ [] [] []) rfl rfl;have k:∀(y:Str) (j:Nat) (a:cv),lkC y (cJ [] [] []).cells=some j→c.env.cells.lookup y=some a→ρ[j]? =some a:=λy j a h1 h2=>by
  refine ab (H.cl y j h1) λb q1 q2=> ?_;rw [h2]at q1;obtain rfl:=ds q1;exact q2
 have a9:ρ.length=_:=H.rep.len;have rc:V.closed 0 r=true:=by rcases D with rfl|⟨w,rfl⟩<;>rfl
 have first:eo c.M c.A (A0 (.Compare (.Call (.Attribute gif.o gif.n gif.ap) [] [] gif.p) [.NotEq] [gif.tk] gif.p1) c.env (Gu (.Compare (.Call (.Attribute gif.o gif.n gif.ap) [] [] gif.p) [.NotEq] [gif.tk] gif.p1) c.env)) (λb s2=>b=false∧∃g,g.length=z.stk.length∧At c cM0 (RTl lad g) (MS' F z (fM f [("token",r)]) p R ln I N lad g) s2) NoE s:=by
  refine HE (jU (G []) (bj (G []) 40) g1 g2 rfl H (gE ..) trivial (gM ..) (λh hh=>keeps_K (qK P) h λa o f=>hh _ _ (T.K a o f)) (vc2:=[]) (xs:=[]) rfl trivial λu us s1 ap H1 X1 hu ar=> ?_) (j9 g3);have a5:=cO X1.pre (by rwa [H1.rep.len,a9];rfl)
  subst a5;rwa [show us=[]from ar];(refine ab hu ?_;clear hu;intro a2 ag a0;subst a0);refine ex (zo T hr h0 FO hx GA rc hlad had (H1.cfg (cfg':=cM0) rfl rfl) (F0:=aa c.d ap _ s.heap) rt (k _ 6 _ rfl c6) (k _ 7 _ rfl c7) (k _ 8 _ rfl c8) ag) (λv s2 J=> ?_) λC C z=>z;obtain⟨hv,g,t,al,H2,Z⟩:=J;refine((bj (G []) 40).E gif.tk).use (H2.cfg (cfg':=cJ [] [] []) rfl rfl) (gTk ..) trivial λv2 s3 L H3 U r3=> ?_;refine ex ((uL (G []).ok H3 (hv _ _) r3).use (wX r D _) trivial).2 (λq s4 J=> ?_) λC C z=>z;obtain⟨a4,H4,X4,hq⟩:=J;subst hq;exact HM ⟨rfl,g,t,a4,H4.cfg rfl rfl,rTl _ _ _ _ (U.trans X4).froz (λi a C=>(U.trans X4).pre i a) Z⟩
 refine pp (Kf (isTrue_or (ex first (λb s2 J=> ?_) λC C z=>z)))
 obtain⟨O,g,t,al,H2,Z⟩:=J;subst O;refine isTrue_or (((bj (G [(962041056,false)]) 40).T gif.c2).use (H2.cfg (cfg':=cJ [] [(962041056,false)] []) rfl rfl) (gC2 ..) ⟨by rwa [Y,rl _];rfl,KP⟩ λb s3 L H3 U O=> ?_)
 have O:b=false:=O;subst O;refine isTrue_or_nil (Gc (K s3 ⟨p,R,ln,I,lad,g,rfl,hlad,t,L,H3.cfg rfl rfl,rTl _ _ _ _ U.froz (λi a C=>U.pre i a) Z⟩))
theorem BX:∀{f:Int} {r:V} {p:Str} {t:List aU} {C:Int} {q:List aL} {W:KA} (Z:aR (KK P) d e) (T:ak c (KK P) d e) (hr:av 6 c.A) (E:bC c) (FO:fO F) (hp:(lkS p F.hs).isSome=true) (w:q.length≤1000) (H:0≤C) (u:C≤2000) (hi:x.inf=p) (hl:x.ln=C) (A:AtM c F x (fM f [("token",r)]) ((p,t,C)::q) W s) (K:∀Y,AtM c F x (fM f []) ((p,t,C)::q) W Y→Q .next Y),eo c.M c.A (un (whM.2.1.drop 3) c.env) Q NoE s:=by
 revert P d e c s F x Q;refine' eI15;intro W q C t p r f Q x F s c e d P Z T hr E FO hp w H u hi hl A K;obtain⟨p',al,ap,ag,lad,ad,D,y,a5,A⟩:=A;cases D;subst hi;subst hl;(refine au (Gj.mp hp) λa4 hh=> ?_;obtain⟨l,j⟩:=a4);refine gl (FO.home _ _ hh) λq1 q2 q3 U=> ?_;have U:j.length≤25:=U;have O:=je q2 q3;have q1:x.inf=bk l j:=q1;rw [←q1]at O;have o:x.inf.length≤127:=by exact Lle [_,_] [Q3 V0 Z17,Q0 V1 (.a Z4 (.m 5 V0))] 0 V1 Z22 rfl ‹(l,j).snd.length≤25› O.1
 have hd:=lH q2 q3;have a7:aI c 852 0 (sAt [.str x.inf] [] [] (.str (l++f1 ("/":Str) (ci j none (some (kV 0))))) []):=by
  have L:=(xD Z T (hr.le (by decide))).at (X:=[.str x.inf]) (M:=[]) (vc:=[x.inf.length≤1000000]) rfl ⟨by exact Lle [_] [Q0 V0 Z22] 0 V0 Z2 rfl o,KP⟩
  dsimp only at L;rw [show aN x.inf=l++f1 ("/":Str) (ci j none (some (kV 0))) by rwa [q1,hd,dY _];rfl]at L
  exact L
 have a0:=Da Z T (hr.le (by decide)) (b:=x.b) (p:=x.b.length -x.u.length) (inf:=x.inf) (st:=x.st.v) (ln:=x.ln) (hk:=F.hk) (stk:=bf x.stk ad) (by exact Lle [_] [Q0 V0 Z22] 0 V0 Z2 rfl o) H (Int.lt_of_le_of_lt u (by decide))
 have G:=my Z T hr E (fs:=[(715,6,sAt [.ref 2] (RT x.b (x.b.length -x.u.length) x.inf x.st.v x.ln "" F.hk (bf x.stk ad)) [] (.str (jj x.inf x.ln)) (RT x.b (x.b.length -x.u.length) x.inf x.st.v x.ln "" F.hk (bf x.stk ad))),(852,0,sAt [.str x.inf] [] [] (.str (l++f1 ("/":Str) (ci j none (some (kV 0))))) [])]) (orc:=[(965011077,false),(968011065,false)]) (vor:=[(964027035, .ref 16),(967022033, .ftup [.str l, .fstrs j])]) (j6 a0 (j6 a7 λg m a9 h=>by exact noS h))
 have L:=qB7 x.st.v F.hk (bf x.stk ad) F.tf x.gs f (ao bA F.hs) (ao bI F.ls) W (di lad) x.inf x.ln (t.map aJ) (du q lad++aM x.stk ad) x.b (x.b.length -x.u.length) j l r;have N:aK 6 (RT x.b (x.b.length -x.u.length) x.inf x.st.v x.ln "" F.hk (bf x.stk ad))=true:=eB (cu _ _);refine au (Ix H) λk J=> ?_;have B:(cs (Jk x.ln)).length≤20:=by rwa [J];exact wT (Nat.lt_succ_of_le (Gi.mp (J▸u)))
 have R:x.ln.natAbs.log2 < 1920:=by
  have hn:x.ln.natAbs < 2^11:=by rwa [J];exact IA (Gi.mp (J▸u)) (by decide)
  by_cases h0:x.ln.natAbs=0
  ·rwa [h0];decide
  ·have:=(Nat.log2_lt h0).mpr hn;exact Lle [_] [Q0 (.a V0 Z0) Z6] 0 (.a V0 Z0) (.c 1920) rfl this
 have s1:("\"":Str).length=1:=by decide+kernel
 have s2:("\", line ":Str).length=8:=by decide+kernel
 have a6:∀n∈ci j none (some (kV 0)),cy n:=by rwa [dY _];exact λn h=>q3 n (G9 _ h)
 have I:(ci j none (some (kV 0))).length≤100000:=by rwa [dY _,I3];exact Lle [_,_] [Q0 V0 Z17,Q0 V1 V0] 0 V1 Z16 rfl U (J5 _ _)
 have hc:aw (vP (di lad)):=lS (by rwa [d9 _,y];exact w)
 have d1:(("\"":Str)++x.inf).length+8≤16777216:=by rwa [z1 _ _,s1];exact Lle [_] [Q0 V0 Z22] 0 (.a (.a Z0 V0) Z14) (.c 16777216) rfl o
 have d2:(("\"":Str)++x.inf++("\", line ":Str)).length+(cs (Jk x.ln)).length≤16777216:=by rwa [z1 _ _,z1 _ _,s1,s2];exact Lle [_,_] [Q0 V0 Z22,Q0 V1 Z15] 0 (.a (.a (.a Z0 V0) Z14) V1) (.c 16777216) rfl o B
 have d3:(("\"":Str)++x.inf++("\", line ":Str)++cs (Jk x.ln)).length+2≤16777216:=by rwa [z1 _ _,z1 _ _,z1 _ _,s1,s2];exact Lle [_,_] [Q0 V0 Z22,Q0 V1 Z15] 0 (.a (.a (.a (.a Z0 V0) Z14) V1) Z4) (.c 16777216) rfl o B
 refine ka G (k:=cM0) rfl rfl rTl A L (aj.mpr ⟨hc,aj.mpr ⟨⟨rfl,N,rfl,rfl,rfl,N,by exact Lle [_] [Q0 V0 Z22] 0 (.a Z0 V0) (.c 16777216) rfl o,d1,R,d2,d3,bne_self_eq_false _,by rwa [cV _ _ _,hh];rfl,KP⟩,aj.mpr ⟨iX rfl rfl,aj.mpr ⟨⟨by exact Lle [_] [Q0 V0 Z17] 0 V0 (.c 16777216) rfl U,KP⟩,aj.mpr ⟨gw q2 a6 I,bne_self_eq_false _,KP⟩⟩⟩⟩⟩) λar Y as hf A3=> ?_
 rwa [hf.isN];exact K Y ⟨x.inf,t,_,q,lad,ad,rfl,y,a5,A3.fr (i:=11) (gs:=[("homes", .ref 12),("lines", .ref 13),("walked", .ref 14),("pile", .ref 15),("ends", .int f)]) rfl ⟨rfl,rfl,rfl,rfl,rfl,KP⟩ rTl⟩
end
noncomputable def md(a:List aL):Nat:=(a.map λb=>b.2.1.length+1).sum
def cr(a:KA):cE→Nat
 |[]=>0
 |p::r=>(bif bO p.1 a then 0 else p.2.length+1)+cr a r
theorem nQ(y z:Str):∀l:List Str,bO y (l++[z])=(bO y l||af z y):=by
 intro b
 induction b with
 |nil=>
  show(bif af z y then true else false)=(false||af z y);cases af z y<;>rfl
 |cons x r a=>
  show(bif af x y then true else bO y (r++[z]))=((bif af x y then true else bO y r)||af z y);rwa [a];cases af x y<;>rfl
theorem wt(b:KA)(z:Str):∀l:cE,cr (b++[z]) l≤cr b l:=by
 intro c
 induction c with
 |nil=>
  exact fx _
 |cons p r a=>
  show(bif bO p.1 (b++[z])then 0 else p.2.length+1)+cr (b++[z]) r≤(bif bO p.1 b then 0 else p.2.length+1)+cr b r;have:=a;rwa [nQ _ _ _];cases bO p.1 b
  ·cases af z p.1
   ·exact Hh a _
   ·exact Nat.add_le_add (so _) a
  ·exact Hh a _
theorem nT{wk:KA}{z:Str}{its:List aU}(b:bO z wk=false){l:cE}:lkS z l=some its→cr (wk++[z]) l+(its.length+1)≤cr wk l:=by
 induction l with
 |nil=>exact λh=>noS h
 |cons p r d=>
  intro h;have h:(bif af z p.1 then some p.2 else lkS z r)=some its:=h;show(bif bO p.1 (wk++[z])then 0 else p.2.length+1)+cr (wk++[z]) r+(its.length+1)≤(bif bO p.1 wk then 0 else p.2.length+1)+cr wk r;rwa [nQ _ _ _];cases q:af z p.1 with
  |true=>
   rw [q]at h;obtain rfl:=ds h;obtain rfl:=aB.mp q;rwa [b];have:=wt wk p.1 r;show 0+cr (wk++[p.1]) r+(p.2.length+1)≤p.2.length+1+cr wk r;exact Lle [_,_,_] [Q0 V0 V1] 0 (.a (.a Z3 V0) (.a V2 Z0)) (.a (.a V2 Z0) V1) rfl this
  |false=>
   rw [q]at h;rwa [Bool.or_false _];exact Lle [_,_,_,_] [Q0 (.a V0 (.a V1 Z0)) V2] 0 (.a (.a V3 V0) (.a V1 Z0)) (.a V3 V2) rfl (d h)
theorem cQ(a:aL)(r:List aL):md (a::r)=a.2.1.length+1+md r:=by unfold md;(rwa [GJ,List.sum_cons];rfl)
theorem nL:∀l:List aL,l.length≤md l:=by
 intro d
 induction d with
 |nil=>
  exact so _
 |cons e r b=>
  rwa [cQ _ _,ix];have:=b;exact Lle [_,_,_] [Q0 V0 V1] 0 (.a V0 Z0) (.a (.a V2 Z0) V1) rfl this
def LvJ(F:Fx)(b:List aL):Prop:=∀a∈b,(lkS a.1 F.hs).isSome=true∧a.2.1.length≤1000∧(∀i∈a.2.1,de i)∧0≤a.2.2∧a.2.2+(a.2.1.length:Int)≤2000
theorem LvJ.toI{F:Fx}{a:List aL}(h:LvJ F a):LvI F a:=λb c=>(cB ((h b c).1) ((h b c).2.1) ((h b c).2.2.1))
theorem LvJ.item:∀{F:Fx} {p:Str} {i:aU} {b:List aU} {e:Int} {d:List aL} (h:LvJ F ((p,i::b,e)::d)),LvJ F ((p,b,e+(i.2.2:Nat))::d):=by
 refine' eI6;intro d e b i p F h;exact λl hl=>by
  rcases q4.mp hl with rfl|hl
  ·refine fK (h _ il) λh1 h2 h3 g f=> ?_
   have m:i.2.2≤1:=(h3 i il).2.1;refine(lJ h1 (by have:=h2;rw [ix]at this;show b.length≤1000;exact Lle [_] [Q0 (.a V0 Z0) Z1] 0 V0 Z1 rfl this) (λj k=>h3 j (iv _ k)) ?_ ?_)
   ·have g:0≤e:=g
    exact Int.add_nonneg g (z2 _)
   ·have f:e+((i::b).length:Int)≤2000:=f
    rw [ix]at f;exact IN (by rwa [Int.add_assoc _ _ _];exact Int.add_le_add_left (Gi.mpr (Jm _ _▸Hh m _)) _) f
  ·exact h l (iv _ hl)
theorem LvJ.new{F:Fx}(d:fO F){p:Str}{b:List aU}{a:List aL}(c:lkS p F.ls=some b)(h:LvJ F a):LvJ F ((p,b,1)::a):=λe hl=>by
 rcases q4.mp hl with rfl|hl
 ·refine ai (d.its _ _ c) λh1 h2=> ?_
  exact(lJ (by rwa [d.both _,c];rfl) h1 h2 (show(0:Int)≤1 by decide) (Gi.mpr (h9 (Hh h1 1) (by decide):1+b.length≤2000)))
 ·exact h e hl
def muI(F:Fx)(a:List aL)(b:KA):Nat:=md a+cr b F.ls
theorem l8{F:Fx}(o:fO F):∀(N:Nat) (f:List aL) (d:KA),muI F f d≤N→f≠[]→LvJ F f→∃n r z g,fL F.look F.go n f d r z g∧n+muI F z g≤muI F f d∧z≠[]∧LvJ F z∧g.length+cr g F.ls≤d.length+cr d F.ls∧
 (r= .none∨((∃w,r= .str w)∧muI F z g < muI F f d))
 |N,[],_,_,h,_=>absurd rfl h
 |N,[(p,[],ln)],d,hN,_,hJ=>(iw 0 .none _ d .fin (by exact Lle [_] [] 0 (.a Z3 V0) V0 rfl) (by trivial) hJ (fx _) (.inl rfl))
 |0,(p,[],ln)::lv::low,d,hN,_,hJ=>by unfold muI at hN;rw [cQ]at hN;exact absurd hN (Nat.not_le_of_lt (by simp+arith))
 |N+1,(p,[],ln)::lv::low,d,hN,_,hJ=>by
  have e:muI F ((p,[],ln)::lv::low) d=muI F (lv::low) d+1:=by unfold muI;rwa [cQ _ _];show 0+1+_+_=_;exact Leq [_,_] [] 0 (.a (.a (.a Z3 Z0) V0) V1) (.a (.a V0 V1) Z0) rfl
  refine sH (l8 o N (lv::low) d (by exact Lle [_,_,_] [Q0 V0 (.a V1 Z0),Q2 V0 (.a V2 Z0)] 0 V2 V1 rfl hN e) (by simp) λl y=>hJ l (iv _ y)) λn r z g h1 h2 h3 k j m=> ?_
  exact(iw (n+1) r z g (.pop h1) (by exact Lle [_,_,_,_] [Q2 V0 (.a V1 Z0),Q0 (.a V2 V3) V1] 0 (.a (.a V2 Z0) V3) V0 rfl e h2) h3 k j (m.imp id λh=>⟨h.1,by exact Lle [_,_,_] [Q2 V0 (.a V1 Z0),Q0 (.a V2 Z0) V1] 0 (.a V2 Z0) V0 rfl e h.2⟩))
 |N,(p,(false,row,b)::its,ln)::low,d,hN,_,hJ=>by
  have e:muI F ((p,(false,row,b)::its,ln)::low) d=muI F ((p,its,ln+(b:Nat))::low) d+1:=by unfold muI;rwa [cQ _ _,cQ _ _];show its.length+1+1+_+_=its.length+1+_+_+1;exact Leq [_,_,_] [] 0 (.a (.a (.a (.a V0 Z0) Z0) V1) V2) (.a (.a (.a (.a V0 Z0) V1) V2) Z0) rfl
  exact(iw 0 _ _ d .word (by exact Lle [_,_] [Q2 V0 (.a V1 Z0)] 0 (.a Z3 V1) V0 rfl e) (by simp) hJ.item (fx _) (.inr ⟨⟨_,rfl⟩,by exact Lle [_,_] [Q2 V0 (.a V1 Z0)] 0 (.a V1 Z0) V0 rfl e⟩))
 |0,(p,(true,row,b)::its,ln)::low,d,hN,_,hJ=>by unfold muI at hN;rw [cQ]at hN;exact absurd hN (Nat.not_le_of_lt (by simp+arith))
 |N+1,(p,(true,row,b)::its,ln)::low,d,hN,_,hJ=>by
  have e:muI F ((p,(true,row,b)::its,ln)::low) d=muI F ((p,its,ln+(b:Nat))::low) d+1:=by unfold muI;rwa [cQ _ _,cQ _ _];show its.length+1+1+_+_=its.length+1+_+_+1;exact Leq [_,_,_] [] 0 (.a (.a (.a (.a V0 Z0) Z0) V1) V2) (.a (.a (.a (.a V0 Z0) V1) V2) Z0) rfl
  have x:(F.look (F.go p row)=none∨bO (F.go p row) d=true)→∃n r z g,fL F.look F.go n ((p,(true,row,b)::its,ln)::low) d r z g∧n+muI F z g≤muI F ((p,(true,row,b)::its,ln)::low) d∧z≠[]∧LvJ F z∧g.length+cr g F.ls≤d.length+cr d F.ls∧(r= .none∨((∃w,r= .str w)∧muI F z g < muI F ((p,(true,row,b)::its,ln)::low) d)):=λh=>by
   refine sH (l8 o N ((p,its,ln+(b:Nat))::low) d (by exact Lle [_,_,_] [Q0 V0 (.a V1 Z0),Q2 V0 (.a V2 Z0)] 0 V2 V1 rfl hN e) (by simp) hJ.item) λn r z g h1 h2 h3 k j m=> ?_
   exact(iw (n+1) r z g (.use0 h h1) (by exact Lle [_,_,_,_] [Q2 V0 (.a V1 Z0),Q0 (.a V2 V3) V1] 0 (.a (.a V2 Z0) V3) V0 rfl e h2) h3 k j (m.imp id λh=>⟨h.1,by exact Lle [_,_,_] [Q2 V0 (.a V1 Z0),Q0 (.a V2 Z0) V1] 0 (.a V2 Z0) V0 rfl e h.2⟩))
  cases q:F.look (F.go p row)with
  |none=>exact x (.inl q)
  |some i=>
   cases t:bO (F.go p row) d with
   |true=>exact x (.inr t)
   |false=>
    have u:=nT t (l:=F.ls) q;have s:muI F ((F.go p row,i,1)::(p,its,ln+(b:Nat))::low) (d++[F.go p row])≤muI F ((p,its,ln+(b:Nat))::low) d:=by unfold muI;rwa [cQ _ _];show i.length+1+_+_≤_;exact Lle [_,_,_,_] [Q0 (.a V0 (.a V1 Z0)) V2] 0 (.a (.a (.a V1 Z0) V3) V0) (.a V3 V2) rfl u
    refine sH (l8 o N ((F.go p row,i,1)::(p,its,ln+(b:Nat))::low) (d++[F.go p row]) (by exact Lle [_,_,_,_] [Q0 V0 (.a V1 Z0),Q2 V0 (.a V2 Z0),Q0 V3 V2] 0 V3 V1 rfl hN e s) (by simp) (.new o q hJ.item)) λn r z g h1 h2 h3 k j m=> ?_
    exact(iw (n+1) r z g (.use1 q t h1) (by exact Lle [_,_,_,_,_] [Q2 V0 (.a V1 Z0),Q0 V2 V1,Q0 (.a V3 V4) V2] 0 (.a (.a V3 Z0) V4) V0 rfl e s h2) h3 k (by rw [is,Gr]at j;exact Lle [_,_,_,_,_,_] [Q0 (.a V0 (.a V1 Z0)) V2,Q0 (.a V3 V4) (.a (.a V5 Z0) V0)] 0 (.a V3 V4) (.a V5 V2) rfl u j) (m.imp id λh=>⟨h.1,by exact Lle [_,_,_,_] [Q2 V0 (.a V1 Z0),Q0 V2 V1,Q0 (.a V3 Z0) V2] 0 (.a V3 Z0) V0 rfl e s h.2⟩))
theorem yX{b:List aL}:∀{a:List (Str×Int×Str×List Nat)},sN b a→∀e∈a,BOk e.2.2.1 e.2.2.2:=by
 induction b with
 |nil=>exact λ{a}=>a.casesOn (λd e c=>absurd c HB) λd d h=>h.elim
 |cons l b f=>exact λ{a}=>a.casesOn (λh=>h.elim) λx a h e c=>(q4.mp c).elim (λq=>q▸h.2.2.2.1) (f h.2.2.2.2 e)
theorem Bj:∀{b:List aL} {e:KA} {x:GS} (h:gi b e x) (g:BOk x.b x.u) (d:b.length≤1000),GOk x:=by
 refine' eI3;intro x e b h g d;obtain⟨⟨p,f,j,i,rfl,h1,h2,h3,h4,h5⟩,h6⟩:=h;exact⟨g,h5.imp id λh=>h.1,yX h4,by rwa [mZ h4];rw [ix]at d;exact Lle [_] [Q0 (.a V0 Z0) Z1] 0 V0 Z1 rfl d⟩
section
variable{P:ed}{b d:KC}{c:Cx}{s:dd}{F:Fx}{Q:Hj→dd→Prop}
theorem zP{x:GS}{fs fs2:KL}{h:List aL}{n:KA}{f:Cfg}(G:aG c f)(h1:f.fi=11)(h2:f.cells=cM0.cells){pre g:List k0}
 (e:∀(s1:AO) (i:V) (m:Str) (st:V) (l:Int) (z:cv) (j:KN) (y:KL) (t:KA) (B w:KL) (n:KA) (a:KN) (p:Str) (o:Int) (v:KN) (u:KM),am (fns f 40) pre (LM (OG s1 i m st l z j y t) (.frame fs) B w n a p o v u)= .ok [] .next (LM (OG s1 i m st l z j y t) (.frame fs2) B w n a p o v u))
 (A:AtM c F x (.frame fs) h n s)(K:∀q,AtM c F x (.frame fs2) h n q→eo c.M c.A (un g c.env) Q NoE q):eo c.M c.A (un (pre++g) c.env) Q NoE s:=by
 obtain⟨p,r,o,a,lad,ad,rfl,hlad,had,A⟩:=A;exact iW G (k:=cM0) h1 h2 rTl A (e ..) trivial λq C=>K q ⟨p,r,o,a,lad,ad,rfl,hlad,had,C⟩
theorem Em{x:GS}{e:Int}{f:List aL}{i:KA}(G:aG c (cJ [] [] []))(A:AtM c F x (fM e []) f i s):eo c.M c.A (A0 whM.1 c.env (Gu whM.1 c.env)) (λa o=>a=decide (e < 2)∧AtM c F x (fM e []) f i o) NoE s:=by
 obtain⟨p,h,n,g,lad,ad,rfl,hlad,had,ρ,H,r⟩:=A;exact((bj G 40).T _).use (H.cfg (cfg':=cJ [] [] []) rfl rfl) (qB0 ..) trivial λa s1 m q l j=>⟨j,p,h,n,g,lad,ad,rfl,hlad,had,At.of (k:=cM0) q rfl rfl l rTl r⟩
theorem zL:∀{a6 R a8:cv} {x:GS} {e:Int} {f:List aL} {i:KA} (u:aR (KK P) b d) (T:ak c (KK P) b d) (hr:av 600 c.A) (E:bC c) (Y:c.d.ρ₀=[]) (q:fO F) (FF:kQ F.look F.go F.tf HP0 (λp=>(lkS p F.hs).isSome=true)) (N:iZ P b d c.d.B F.hk a6 R a8 F.tf HP0 (dE F.tf)) (J:∀O:Cx,ak O (KK P) b d→O.d.B=c.d.B→av 7 O.A→aI O F.hk 11 cH) (c6:c.env.cells.lookup ("lexer":Str)=some a6) (c7:c.env.cells.lookup ("texts":Str)=some R) (c8:c.env.cells.lookup ("given":Str)=some a8) (hp:gi f i x) (hb:BOk x.b x.u) (I:LvJ F f) (D:f≠[]) (m:muI F f i≤400) (Z:i.length+cr i F.ls≤400) (A:AtM c F x (fM e []) f i s) (K:∀s' e' z zx l,(e'=e+1∧muI F z l≤muI F f i∨e'=e∧muI F z l < muI F f i)→gi z l zx→BOk zx.b zx.u→LvJ F z→z≠[]→l.length+cr l F.ls≤400→AtM c F zx (fM e' []) z l s'→Q .next s'),eo c.M c.A (un whM.2.1 c.env) Q NoE s:=by
 revert P b d c s F Q;refine' eI14;intro i f e x a8 R a6 Q F s c d b P u T hr E Y q FF N J c6 c7 c8 hp hb I D m Z A K;have k:av 6 c.A:=hr.le (by decide)
 have G:aG c (cJ [] [] []):=gg u T k E [] [];refine sH (l8 q (muI F f i) f i (fx _) D I) λn r z l W t y H ad L=> ?_;have C:f.length≤400:=by have:=nL f;unfold muI at m;exact Lle [_,_,_] [Q0 (.a V0 V1) Z13,Q0 V2 V0] 0 V2 Z13 rfl m this
 have hI:qe F n f i:=⟨I.toI,by exact Lle [_,_,_,_] [Q0 V0 Z13,Q0 (.a V1 V2) V0,Q0 V3 Z13] 0 (.a V3 V1) Z1 rfl m t C,by exact Lle [_,_,_,_,_] [Q0 V0 Z13,Q0 (.a V1 V2) Z13,Q0 (.a V3 V4) V0] 0 (.a V1 V3) Z1 rfl m Z t⟩
 refine ny (ya FF W x hp hb (λlv hl=>(an ((I lv hl).1) ((I lv hl).2.2.1))) hI.2.1 hI.2.2) λzx GR hzp o hzb=> ?_;have GA:=gt u J N q.tf GR;have a4:r= .none∨∃w,r= .str w:=L.imp id And.left;rwa [xZ];refine zP (fs:=[("homes", .ref 12),("lines", .ref 13),("walked", .ref 14),("pile", .ref 15),("ends", .int e)]) (fs2:=[("homes", .ref 12),("lines", .ref 13),("walked", .ref 14),("pile", .ref 15),("ends", .int e),("token", .none)]) G rfl rfl (λs1 a5 U st a0 N a9 tf gs hs ls i j p B rs tl=>EM s1 a5 U st a0 N a9 tf gs e hs ls i j p B rs tl) A λs1 A1=> ?_;refine pp (ex (wD u T k E Y q W hI A1) (λfl s2 hZ=> ?_) λzz zz z=>z);(refine ai hZ ?_;clear hZ;intro hf A2);subst hf;refine zq u T k E (hr.le (by exact Lle [_,_,_] [Q0 V0 Z13,Q0 (.a V1 V2) V0] 0 (.a V1 Z14) (.c 600) rfl m t)) Y q (Bj hp hb (by exact Lle [_] [Q0 V0 Z13] 0 V0 Z1 rfl C)) GA c6 c7 c8 a4 hzp.gs A2 λs3 A3=> ?_
 obtain⟨⟨p,g,B,j,rfl,h1,h2,h3,h4,h5⟩,h6⟩:=hzp;refine fK (H _ il) λj1 j2 j3 j4 j5=> ?_;have o:((p,g,B)::j:List aL).length≤400:=by have:=nL ((p,g,B)::j);unfold muI at t m;exact Lle [_,_,_,_,_,_] [Q0 (.a V0 V1) Z13,Q0 (.a V3 (.a V4 V2)) (.a V0 V1),Q0 V5 V4] 0 V5 Z13 rfl m t this
 rw [ix]at o;refine BX u T k E q j1 (by exact Lle [_] [Q0 (.a V0 Z0) Z13] 0 V0 Z1 rfl o) j4 (IN (Int.le_add_of_nonneg_right (z2 g.length)) j5) h1 h2 A3 λs4 A4=>K s4 (eOf e r) _ zx l ?_ ⟨(iw p g B j rfl h1 h2 h3 h4 h5),h6⟩ hzb H y (by exact Lle [_,_,_,_] [Q0 (.a V0 V1) Z13,Q0 (.a V2 V3) (.a V0 V1)] 0 (.a V2 V3) Z13 rfl Z ad) A4
 rcases L with rfl|⟨⟨w,rfl⟩,hlt⟩
 ·exact .inl (an rfl (by exact Lle [_,_,_] [Q0 (.a V0 V1) V2] 0 V1 V2 rfl t))
 ·exact .inr (an rfl hlt)
theorem yU:∀{C B a8:cv} {x:GS} {pile:List aL} {wk:KA} (J:aR (KK P) b d) (T:ak c (KK P) b d) (H:av 600 c.A) (E:bC c) (K:c.d.ρ₀=[]) (U:fO F) (L:kQ F.look F.go F.tf HP0 (λp=>(lkS p F.hs).isSome=true)) (Z:iZ P b d c.d.B F.hk C B a8 F.tf HP0 (dE F.tf)) (g:∀r:Cx,ak r (KK P) b d→r.d.B=c.d.B→av 7 r.A→aI r F.hk 11 cH) (R:c.env.cells.lookup ("lexer":Str)=some C) (O:c.env.cells.lookup ("texts":Str)=some B) (W:c.env.cells.lookup ("given":Str)=some a8) (j:gi pile wk x) (q:BOk x.b x.u) (u:LvJ F pile) (f:pile≠[]) (i:muI F pile wk≤400) (l:wk.length+cr wk F.ls≤400) (A:AtM c F x (fM 0 []) pile wk s),eo c.M c.A (IP (gJ whM) c.env) (λn v=>n= .next∧∃x' t z o,AtM c F x' (fM t []) z o v) NoE s:=by
 revert P b d c s F;refine' eI12;intro wk pile x a8 B C F s c d b P J T H E K U L Z g R O W j q u f i l A;have G:aG c (cJ [] [] []):=gg J T (H.le (by decide)) E [] []
 refine JF (Ii (λk v=>∃x e pile wk,k=(2 -e).toNat+muI F pile wk∧gi pile wk x∧BOk x.b x.u∧LvJ F pile∧pile≠[]∧muI F pile wk≤400∧wk.length+cr wk F.ls≤400∧AtM c F x (fM e []) pile wk v) ?_ ((2 -(0:Int)).toNat+muI F pile wk) (B1 x 0 pile wk rfl j q u f i l A))
 rintro k v ⟨x,e,pile,wk,rfl,j,q,u,f,i,l,A⟩
 refine ex (Em G A) (λa s2 N=> ?_) λw w z=>sq z;(refine ai N ?_;clear N;intro y Y);subst y
 by_cases D:e < 2
 ·rwa [decide_eq_true D]
  refine ex (zL (Q:=λn s3=>n= .next∧∃m,m < (2 -e).toNat+muI F pile wk∧∃x e pile wk,m=(2 -e).toNat+muI F pile wk∧gi pile wk x∧BOk x.b x.u∧LvJ F pile∧pile≠[]∧muI F pile wk≤400∧wk.length+cr wk F.ls≤400∧AtM c F x (fM e []) pile wk s3) J T H E K U L Z g R O W j q u f i l Y λs3 t z zx o hmu hp' hb' hJ' hne' hw' A3=> ?_) (λn s3 I=>ai I λhf h3=> ?_) λw w z=>sq z
  ·refine(an rfl (ah ((2 -t).toNat+muI F z o) ?_ (B1 zx t z o rfl hp' hb' hJ' hne' ?_ hw' A3)))
   ·rcases hmu with⟨rfl,h⟩|⟨rfl,h⟩
    ·exact Nat.add_lt_add_of_lt_of_le ((Int.toNat_lt_toNat (Int.sub_pos.mpr D)).mpr (Int.sub_lt_sub_left (Int.lt_succ e) 2)) h
    ·exact Jb h _
   ·exact h9 (hmu.elim (·.2) λh=>IM h.2) i
  ·subst hf;exact h3
 ·rwa [decide_eq_false D]
  exact Gc (an rfl (FP x e pile wk Y))
end
def mkF(a:cv)(b:BkT):Fx:=⟨a,ao V.str (bF b.2.2),b.2.1,b.2.2⟩
theorem xJ{b:KJ}(e:cv)(f:b.length≤60):fO (mkF e (bL b)):=by
 have A:=pX b;have B:=(kJ b).le f;have D:=mC b;refine⟨A.home,A.both,λx l h=>⟨?_,λi d=>(D _ (eL h) i d).1⟩,aQ dH _⟩;have h1:=gK (eL h);have h1:l.length≤dQ (bL b).2.2:=h1;have h2:=B.sum;exact Lle [_,_,_] [Q0 V0 V1,Q0 (.a V1 V2) (.a Z7 Z8)] 0 V0 Z1 rfl h1 h2
theorem sY{b:List aU}(h:∀i∈b,ic i)(d:b.length≤240):BOk (S (aW b)) (aW b):=by
 have a:=nE h;refine⟨List.suffix_refl _,a.2, ?_⟩;rwa [←dc _];show(aW b).length≤1000000;exact Lle [_,_] [.h 0 4010 0 V0 (.c 240),Q0 V1 (.m 4010 V0)] 0 V1 Z2 rfl d a.1
theorem wP:∀{d:KJ} (m:cv) (y:d.length≤60),kQ (mkF m (bL d)).look (mkF m (bL d)).go (mkF m (bL d)).tf HP0 (λp=>(lkS p (mkF m (bL d)).hs).isSome=true):=by
 refine' eI2;intro m d y;have A:=pX d;have B:=(kJ d).le y;have D:=mC d;refine⟨λp g r j=> ?_,λp h=> ?_,λp k h=> ?_,λp g F r j h1 h2=> ?_⟩
 ·(refine au (Gj.mp r) λn o=> ?_;obtain⟨f,b⟩:=n)
  refine gl (A.home p _ o) λl t w E=> ?_;have l:p=bk f b:=l;have e:(mkF m (bL d)).go p g=bk (aX f g) (cn b.dropLast g):=by unfold Fx.go;(rwa [o];rfl)
  refine(an (by rwa [e,l];exact sV t w j) (λC=> ?_))
  show(lkS _ (bL d).2.1).isSome=true;rwa [A.both _];cases q:lkS ((mkF m (bL d)).go p g) (bL d).2.2 with
  |none=>exact absurd q C
  |some _=>rfl
 ·show lk p (ao V.str (bF (bL d).2.2))=none
  rwa [cV _ _ _,lp p _ _ rfl A.kl,show lkS p (bL d).2.2=none from h];rfl
 ·have s:=D _ (eL h)
  have x:k.length≤240:=by
   have h1:=gK (eL h);have h1:k.length≤dQ (bL d).2.2:=h1;have h2:=B.sum;exact Lle [_,_,_] [Q0 V0 V1,Q0 (.a V1 V2) (.a Z7 Z8)] 0 V0 (.c 240) rfl h1 h2
  refine(cB ?_ (sY s x) (λi u=>(s i u).1));show lk p (ao V.str (bF (bL d).2.2))=_;rwa [cV _ _ _,lp p _ _ rfl A.kl,show lkS p (bL d).2.2=some k from h,←sX λi u=>(s i u).1];rfl
 ·(refine au (Gj.mp r) λn o=> ?_;obtain⟨f,b⟩:=n)
  refine gl (A.home p _ o) λl t w z=> ?_;have l:p=bk f b:=l;have z:b.length≤25:=z;rwa [l];exact DJ t w j (by exact Lle [_] [Q0 V0 Z17] 0 V0 Z10 rfl ‹(f,b).snd.length≤25›) h1 h2
theorem uq:∀l:cE,cr [] l=dQ l+l.length:=by
 intro d
 induction d with
 |nil=>
  exact rfl
 |cons p r b=>
  show p.2.length+1+cr [] r=p.2.length+dQ r+(r.length+1);rwa [b];exact Leq [_,_,_] [] 0 (.a (.a V0 Z0) (.a V1 V2)) (.a (.a V0 V1) (.a V2 Z0)) rfl
theorem F4:LB.drop 16=gJ whM::LB.drop 17:=by rfl'
section
variable{P:ed}{a b:KC}{c:Cx}{s:dd}
theorem Bb:∀{cc W:cv} {bm:cv} {U:Hn} {B2:aA} {J:KJ} (I:aR (KK P) a b) (T:ak c (KK P) a b) (hr:av 600 c.A) (E:bC c) (L:c.d.ρ₀=[]) (hH:∀j,¬c.d.H j) (C:c.env.code= .ref cc) (hC:∀h:Gm,(∀l o,c.d.B l o→h.get? l=some o)→CodeHd h cc W) (a5:c.d.B W (tabObj #[])) (b1:a "__builtins__"=some (.ref bm)) (b2:bm≠Hl) (b3:c.d.B bm U) (b4:U.cls= .type "module") (b5:U.dict=some Hl) (b6:U.data= .plain) (Z:∀l o,B2 l o→c.d.B l o∧l≠W) (T2:∀A:aA,(∀l o,B2 l o→A l o)→ak (c.withB A) (KK P) a b) (hx:J.length≤16777216) (H:At c cA0 RT0 ([.frame [("script", .flist (J.map .int))]]++c3) s),eo c.M c.A (un LB c.env) (λfl Y=>fl= .ret (.bool true)∧(∀l o,B2 l o→Y.heap.get? l=some o)∧(∃ps,Y.heap.get? W=some (tabObj ps))∧Y.os=c.d.os∧Y.gens=#[]) NoE s:=by
 revert P a b c s;refine' eI11;intro J B2 U bm W cc s c b a P I T hr E L hH C hC a5 b1 b2 b3 b4 b5 b6 Z T2 hx H;have D:av 6 c.A:=hr.le (by decide)
 have G:aG c (bP [] [] []):=eW I T D E λg m bu h=>by exact noS h
 refine ai (v7 J) λn1 n2=> ?_;have n3:=yM J;rwa [LB1];refine rD G L hH hx H λs1 A1=> ?_;generalize fk J=ms at*;have BO:=(kJ ms).le n1;have BF:=pX ms;refine wH I T D E L n3 n1 A1 λs2 A2=> ?_;refine vi I T D E L hH (λn=>show V.closed n (.flist (ms.map V.int))=true from V.closedL_mono _ (ip ms)) BO (mC ms) A2 λs3 A3=> ?_;obtain⟨m0,r,rfl⟩:∃m r,ms=m::r:=by
  induction ms using kv with
  |nil=>exact absurd rfl n2
  |cons m r=>exact(sG m r rfl)
 refine au (Gj.mp (BF.mem m0 il)) λq u=> ?_;have b8:=xJ 0 n1;refine ai (b8.its _ _ u) λK a9=> ?_;refine AT I T D E L C hC a5 b1 b2 b3 b4 b5 b6 Z T2 (aQ dv _) BF.kl u K (by exact Lle [_] [Q0 V0 Z8] 0 V0 Z1 rfl n1) A3 λA f fd s4 R O al w A4=> ?_
 have T3:=T2 A R;have E3:bC (c.withB A):=⟨E.kind,E.names,E.glob,E.blt,E.nocls⟩;have FO:=xJ f n1;have FF:=wP f n1;have hS:∀i∈q,ic i:=mC (m0::r) _ (eL u);have ag:q.length≤240:=by
  have h1:=gK (eL u);have h1:q.length≤dQ (bL (m0::r)).2.2:=h1;have h2:=BO.sum;exact Lle [_,_,_] [Q0 V0 V1,Q0 (.a V1 V2) (.a Z7 Z8)] 0 V0 (.c 240) rfl h1 h2
 refine ab (w "lexer" 1 rfl) λa6 c6 d6=> ?_;refine ab (w "texts" 2 rfl) λa7 c7 d7=> ?_;refine ab (w "given" 3 rfl) λa8 c8 d8=> ?_;have hk:iZ P a b (c.withB A).d.B (mkF f (bL (m0::r))).hk a6 a7 a8 (mkF f (bL (m0::r))).tf HP0 (dE (mkF f (bL (m0::r))).tf):=zm I al d6 d7 d8 λx v h=>by
  have h:lk x (ao V.str (bF (bL (m0::r)).2.2))=some v:=h;rw [cV]at h;refine ab (mr.mp h) λtx F h2=> ?_;exact(fJ tx h2.symm)
 have bs:∀N:Cx,ak N (KK P) a b→N.d.B=(c.withB A).d.B→av 7 N.A→aI N (mkF f (bL (m0::r))).hk 11 cH:=λN F hB F=>by
  have a4:i4 N.d.B f fd bx.1 ["name"] (gY [] []):=by rwa [hB];exact al
  exact⟨a4.keep,λH c0 mu s J vs vc r c2 F F F F hs F=>by contradiction⟩
 have ar:bz q=S (aW q):=sX λi hi=>(hS i hi).1;have bb:(bz q).length -(aW q).length=0:=by rwa [←mP λi hi=>(hS i hi).1,dc _];exact Leq [_,_] [Q1 (.a V0 V1) V1] 0 V0 Z3 rfl (pm (Lle [_] [] 0 V0 V0 rfl))
 have A5:AtM (c.withB A) (mkF f (bL (m0::r))) ⟨bz q,aW q,aP m0, .sp,1,[],[aP m0]⟩ (fM 0 []) [(aP m0,q,1)] [aP m0] s4:=by
  refine⟨aP m0,q,1,[],[],[],rfl,rfl,rfl, ?_⟩;obtain⟨c0,H4,_⟩:=A4;have e:MS' (mkF f (bL (m0::r))) ⟨bz q,aW q,aP m0, .sp,1,[],[aP m0]⟩ (fM 0 []) (aP m0) q 1 [] [aP m0] [] []=LM (rC (bz q) (aP m0) f (bF (bL (m0::r)).2.2)) (fM 0 []) (ao bA (bL (m0::r)).2.1) (ao bI (bL (m0::r)).2.2) [aP m0] [] (aP m0) 1 (q.map aJ) []:=by
   unfold MS' ogX rC;rwa [bb];rfl
  rwa [e];exact⟨c0,H4,λi j h=>by trivial⟩
 have t:=nT (wk:=[]) (z:=aP m0) (its:=q) rfl u;rw [uq]at t;have a0:=BO.sum;have as:=BO.ll;have t:cr [aP m0] (mkF f (bL (m0::r))).ls+(q.length+1)≤280:=by
  have h2:cr [aP m0] (bL (m0::r)).2.2+(q.length+1)≤dQ (bL (m0::r)).2.2+(bL (m0::r)).2.2.length:=t;show cr [aP m0] (bL (m0::r)).2.2+_≤_;exact Lle [_,_,_,_,_] [Q0 (.a V0 V1) (.a Z7 Z8),Q0 V2 Z8,Q0 (.a V3 (.a V4 Z0)) (.a V0 V2)] 0 (.a V3 (.a V4 Z0)) (.c 280) rfl a0 as h2
 rwa [F4];refine pp (ex (yU (c:=c.withB A) (x:=⟨bz q,aW q,aP m0, .sp,1,[],[aP m0]⟩) (pile:=[(aP m0,q,1)]) (wk:=[aP m0]) I T3 hr E3 L FO FF hk bs c6 c7 c8 ⟨(iw (aP m0) q 1 ([]) rfl rfl rfl rfl trivial (.inl rfl)),rfl⟩ (by rwa [ar];exact sY hS ag) (λlv b7=> ?_) (by simp) ?_ ?_ A5) (λfl s5 ap=>ai ap λhf b0=>FV b0 λx' e' z wz A6=> ?_) λF F z=>z)
 ·rwa [mx.mp b7]
  refine(lJ ?_ K a9 (show(0:Int)≤1 by decide) ?_)
  ·show(lkS (aP m0) (bL (m0::r)).2.1).isSome=true
   rwa [BF.both _,u];rfl
  ·exact Gi.mpr (h9 (Hh K 1) (by decide):1+q.length≤2000)
 ·unfold muI
  rwa [cQ _ _];show q.length+1+0+_≤_;exact Lle [_,_] [Q0 (.a V0 (.a V1 Z0)) (.c 280)] 0 (.a (.a (.a V1 Z0) Z3) V0) Z13 rfl t
 ·rwa [Gr];exact Lle [_,_] [Q0 (.a V1 (.a V0 Z0)) (.c 280)] 0 (.a Z0 V1) Z13 rfl t
 ·subst hf
  obtain⟨p,c1,ln,c4,lad,ad,rfl,hlad,had,A6⟩:=A6;have G3:aG (c.withB A) (cJ [] [] []):=gg I T3 D E3 [] [];refine ka (c:=c.withB A) G3 (k:=cM0) rfl rfl rTl A6 (qB8 ..) trivial λbl Y cd B A7=> ?_;obtain⟨c5,H7,_⟩:=A7;refine(lJ ?_ (λl o h=>H7.rep.base l o (R l o h)) ?_ H7.rep.os H7.rep.gens)
  ·induction bl with
   |ret v=>(refine ab B ?_;clear B;intro y hy hv);obtain rfl:=Mine.Fl.ret.inj hy;(rwa [show v= .bool true from hv];rfl)
   |next=>cases B
   |brk=>cases B
   |cont=>cases B
  ·(refine au O ?_;clear O;intro ps hp)
   exact(fJ ps (H7.rep.base _ _ hp))
end
theorem uz{F:aA}{c:KB}{b:KH}{a:KJ}(h:IntsAre b a):Vals F c (a.map .int) b:=by
 induction h with
 |nil=>rfl
 |cons n t _ d=>exact⟨_,_,rfl,⟨t,rfl⟩,d⟩
abbrev jm(n:Nat):List (Str×cv):=[("texts",n+3),("lexer",n+2),("given",n+1)]
noncomputable def dF:Hn:={cls:= .type "cell",data:= .cell none}
noncomputable def iR:Hn:={cls:= .type "frame",data:= .dict #[]}
theorem uu(n:Nat):cellsFrom (n+1) cP.2.names []=jm n:=by rfl'
theorem ww(h:Gm):pushCells h cP.2.names=((h.push dF).push dF).push dF:=by rfl'
theorem pF:cP.2.kind= .function:=by rfl'
theorem rQ:cP.2.names.lookup ("script":Str)=some NameKind.local:=by rfl'
theorem ut:cP.2.names.lookup ("__classdict__":Str)=none:=by rfl'
section
variable{M:Ij}{A:GI}{E:KD}{s:dd}
theorem y9:∀{c:cv} {v:da} {f:Str} {d:Option cv} {code:da} {a:cv} {Q:Env→dd→Prop} (j:∀h,h.Ns s.heap.objs.size (λx=>if x="script" then some v else none)→HH s.heap.objs.size ((((s.heap.push iR).push dF).push dF).push dF) h→
 Q (newEnv cP.2 s.heap.objs.size c (jm s.heap.objs.size) f d code none a) {s with heap:=h,toks:=s.toks+1}),eo M A (newFunctionEnv cP.2 c [] [("script",v)] f d code none a) Q E s:=by
 revert M A E s;refine' eI11;intro Q a code d f v c s E A M j;simp only [newFunctionEnv,Option.isSome_none,Bool.false_eq_true,if_false];refine dV (Kj ?_);refine dV (wpAny_layCells _ (λk g i=>by cases l:g==J9.cell<;>rfl) _ _ _ _ ?_)
 rwa [show({s with heap:=s.heap.push {cls:= .type "frame",data:= .dict #[]}}:dd).heap.objs.size=s.heap.objs.size+1 from sm ..,uu _,ww _]
 have m (b:cv) (o:Hn) (e:(s.heap.push iR).get? b=some o):((((s.heap.push iR).push dF).push dF).push dF).get? b=some o:=
  g0 _ (g0 _ (g0 _ e))
 rwa [List.forIn_cons _ _ _ _];refine dV (dV (dV (wpAny_storeName_local (env:=newEnv cP.2 s.heap.objs.size c (jm s.heap.objs.size) f d code none a) rQ ((Gm.Ns.new s.heap (.type "frame")).keeps m) (λh n p=>eM ?_) ?_)))
 ·dsimp only
  rwa [List.forIn_nil];exact eM (eM (j h n p))
 ·show(cP.2.kind== .class||(cP.2.kind== .module&&_))=false
  rwa [pF];rfl
end
theorem y8(P:ed):tabIn (KK P) "law"=some (884,882):=by rfl'
theorem law_hd(P:ed):codeHdIn (KK P) 884 882=true:=by rfl'
theorem Bc(P:ed):noTabs (KK P)=true:=by rfl'
abbrev lawT:List (cv×cv):=[(884,882)]
set_option tactic.hygienic true in
theorem Dl:∀{K:Gw} {h:Gm} {a:KC} {n:Str} (X:K.In h) (G:h.Ns GH a) (e:nsIn K GH n=some none),a n=none:=by
 refine' eI4;intro n a h K X G e;(refine B7 G ?_;clear G;intro o i ep ho hd zz hf);unfold nsIn at e
 split at e
 ·rename_i c d b g j q
  have:=X _ _ q;rw [ho]at this;obtain rfl:=ds this;cases hd
  split at e
  ·cases e
  ·rename_i f
   rwa [←hf _];unfold nsFind findBy;rwa [←Array.find?_toList,f];rfl
 ·exact noS e
theorem qV(n b:Nat)(h:b∈[n,n+2,n+3,n+1]):n≤b∧b≤n+3:=by
 simp only [q4,HB,or_false]at h
 lia
theorem law_call:∀{w:Gv} {s:dd} {u p:A8} {k:KA} {D:ExcName→Option da} {L P:KC} {W a:cv} {o:Hn} {g:Gx} {vs:KH} {xs:KJ} (T:Top p k D L P s.heap) (X:(KK w.params).In s.heap) (hT:s.heap.get? 882=some (tabObj #[])) (hm:L "law"=some (.ref W)) (ho:s.heap.get? W=some o) (hd:o.data= .func g) (hb:g.body= .stmts LB) (C:g.scope=cP.2) (Y:g.globals=GH) (Z:g.builtins=Hl) (a4:g.closure=[]) (a0:s.heap.CodeRec g.code g.qualname) (y:∀v,HK g ⟨[v],[]⟩=pure [(("script":Str),v)]) (hg:s.gens=#[]) (hL:s.heap.IsList a vs.toArray) (hI:IntsAre vs xs) (hx:xs.length≤16777216),JU (GO u w) callerA (.call (.ref W) ⟨[.ref a],[]⟩) (λr U=>r= .ok (.ret (.bool true))∧(∀b d,(ghostOf s.heap lawT).get? b=some d→U.heap.get? b=some d)∧GrownAll lawT U.heap∧U.os=s.os∧U.gens=#[]) s:=by
 refine' eI14;intro xs vs g o a W P L D k p u s w T X hT hm ho hd hb C Y Z a4 a0 y hg hL hI hx;have I:TabsAt lawT s.heap:=List.forall_mem_cons.mpr (an ⟨codeHd_of_K X (law_hd _),hT⟩ (λK h=>nomatch h));have a7:g.code= .ref 884:=law_code X T.g (y8 _) hm ho hd;refine IR (by decide) ho hd (by rwa [C];kernel_rfl) (by rwa [C];kernel_rfl) hb a0 ?_
 rwa [y _,C,Y,Z,a4];refine eM (y9 λJ hn hs=> ?_);generalize hz:s.heap.objs.size=n at*;have t:(s.heap.push iR).objs.size=n+1:=by(rwa [sm _ _,hz];rfl)
 have l:((s.heap.push iR).push dF).objs.size=n+2:=by(rwa [sm _ _,t];rfl)
 have F:(((s.heap.push iR).push dF).push dF).objs.size=n+3:=by(rwa [sm _ _,l];rfl)
 have A:∀b d,s.heap.get? b=some d→J.get? b=some d:=λb d e=>
  hs.extBut b d (HG (hz▸wl e)) (g0 _ (g0 _ (g0 _ (g0 _ e))))
 have gc:∀(h:Gm) (m:Nat),h.objs.size=m→(h.push dF).get? m=some dF:=λh m e=>e▸Gl _ rfl;have k1:J.get? (n+1)=some dF:=hs.extBut _ _ (Iq (Jz (by decide))) (g0 _ (g0 _ (gc _ _ t)))
 have k2:J.get? (n+2)=some dF:=hs.extBut _ _ (Iq (Jz (by decide))) (g0 _ (gc _ _ l))
 have k3:J.get? (n+3)=some dF:=hs.extBut _ _ (Iq (Jz (by decide))) (gc _ _ F)
 have l3:(n+3:Nat) < J.objs.size:=wl k3;have R:(882:Nat) < n:=hz▸wl hT;have N:∀{b:Nat} {d:Hn},s.heap.get? b=some d→b < n:=λe=>hz▸wl e;refine(an (T.nolimit.keeps A) (codeAny_func ?_))
 let G:Env:=newEnv cP.2 n GH (jm n) (g.qualname++".<locals>.") (some W) g.code none Hl
 let c:Cx:=⟨u,w,callerA.deeper G,G,⟨λb d=>s.heap.get? b=some d,λK=>False,s.os,[]⟩⟩
 have Tp:aR (KK w.params) L P:=⟨λx v h=>mg_of X T.g h,λx h=>Dl X T.g h,T.builtins⟩;have TC:ak c (KK w.params) L P:=⟨⟨λh f=>T.g.keeps f,λh f=>T.b.keeps f⟩,X,λh f=>T.nolimit.keeps f,rfl⟩;have Tg:=ghost_top I T;have Xg:=ghost_K I X (Bc _);have T2:∀B3:aA,(∀b d,(ghostOf s.heap lawT).get? b=some d→B3 b d)→ak (c.withB B3) (KK w.params) L P:=λB3 h3=>
  ⟨⟨λh f=>Tg.g.keeps λb d e=>f b d (h3 b d e),λh f=>Tg.b.keeps λb d e=>f b d (h3 b d e)⟩,λb d e=>h3 b d (Xg b d e),λh f=>Tg.nolimit.keeps λb d e=>f b d (h3 b d e),rfl⟩
 refine FX T.bmain λbm d b1 b2 b3 b4 b5 b6=> ?_;have E:bC c:=⟨pF,rfl,rfl,rfl,ut⟩;have H0:At c cA0 RT0 ([.frame [("script", .flist (xs.map .int))]]++c3) {s with heap:=J,toks:=s.toks+1}:=by
  (refine eh hL ?_;clear hL;intro ol hl a6 B;refine au B ?_;clear B;intro nn a5);refine⟨[n,n+2,n+3,n+1],⟨⟨rfl, ?_,λi b d hi hm=> ?_,A,λb hb=> ?_,by dsimp only;exact Lle [_,_] [Q0 (.a (.a V0 Z12) Z0) V1] 0 (.a Z0 Z0) V1 rfl l3,λb h=>h.elim,λi b h=>(by exact noS h),hg,rfl⟩,Gz 1 _,rfl,λx j h=> ?_⟩,KP⟩
  ·simp
  ·refine bq.get ?_ i b d hi hm
   refine⟨⟨_,hn,λx=> ?_⟩,k2,k3,k1,KP⟩;show g6 _ _ (bif af x "script" then _ else none) _;cases q:af x "script" with
   |false=>trivial
   |true=>
    rwa [aB.mp q];refine⟨_,if_pos rfl,a,ol,_,nn,rfl,⟨id, ?_,A _ _ hl⟩,a6,a5,uz hI⟩;exact λhZ=>bg hZ λi d h1 K K=>HA _ (fa (N hl) (qV n a (lf h1)).1)
  ·have H:=qV n b hb
   exact(iB (λd e=>absurd (N e) (Go.mpr H.1)) (IA H.2 l3) id (beq_false_of_ne (Iq (fa (Nat.lt_trans (by decide) R) H.1))))
  ·have h:(bif af x "lexer" then some 1 else bif af x "texts" then some 2 else bif af x "given" then some 3 else none)=some j:=h
   cases q1:af x "lexer" with
   |true=>rw [q1]at h;obtain rfl:=ds h;rwa [aB.mp q1];exact(ah (n+2) rfl rfl)
   |false=>
    rw [q1]at h;cases O:af x "texts" with
    |true=>rw [O]at h;obtain rfl:=ds h;rwa [aB.mp O];exact(ah (n+3) rfl rfl)
    |false=>
     rw [O]at h;cases q3:af x "given" with
     |true=>rw [q3]at h;obtain rfl:=ds h;rwa [aB.mp q3];exact(ah (n+1) rfl rfl)
     |false=>rw [q3]at h;exact noS h
 refine ex (Bb (c:=c) Tp TC (⟨show 302+600≤1000 by decide,by show(callerA.deeper G).units+5*600+100≤9900;exact(by decide:4+3+5*600+100≤9900)⟩) E rfl (λK h=>h) a7 (λh f=>(I _ (.head _)).1.keeps f) hT b1 b2 b3 b4 b5 b6 (B2:=λb d=>(ghostOf s.heap lawT).get? b=some d) (λb d e=>(an (of_hideAll _ e) (λq=> ?_))) T2 hx H0) (λfl U B=>fK B λhf h1 h2 h3 h4=> ?_) λK K z=>z.elim
 ·have O:(ghostOf s.heap lawT).get? 882=none:=hideAll_none _ (mx.mpr rfl)
  rw [show b=882 from q,O]at e;exact noS e
 ·subst hf
  exact(lJ rfl h1 ⟨h2,KP⟩ h3 h4)
end Mine
section
open PySem PySem.W PySem.Calls PyProof.Rows
namespace Mine
theorem t1:PySem.Challenge.rw_io0008_01.Holds:=by
 refine Mine.hd ?_
 k_fill
 intro w z s1 C D G y B o E J s A K x v f m j t n l F c b i k g;have X:=km_in_of y;have p:=km_tabs_of y 882 (.head _);have T:=G.T;obtain rfl:=m.noKw;obtain rfl:=m.none rfl
 wrow_args c b i k g
 rename_i I _
 have e:TabsAt Mine.lawT s1.heap:=λq u=>by rw [mx.mp u];exact⟨codeHd_of_K X (Mine.law_hd _),p⟩
 refine enter_call (kn_post e (λd d=>rfl) (codeAny_mono (Mine.law_call T X p j x v rfl rfl rfl rfl rfl f (λd=>rfl) t (by assumption) (by assumption) (by omega)) λr H h=> ?_))
 obtain⟨rfl,h2,h3,h4,h5⟩:=h;exact⟨⟨.inl ⟨_, .bool true,[],rfl,λd=>rfl, .bool _,by wrow_post,λd=>⟨List.nodup_nil,λa h=>by cases h⟩⟩,h2,h4,h5⟩,h3⟩
end Mine
end
end
theorem PySem.Challenge.cw_io0008_01_holds : PySem.Challenge.rw_io0008_01.Holds :=
  Mine.t1
