import PyProof.Rows.All
import Wide.All
import OpenK.AllK
import Wide.FinOn
import Lean
import PySem.Challenge.RW_ac0013_01
open PySem.Str renaming ofString→aa,length_append→cG
open Nat renaming le_trans→ab,lt_of_lt_of_le→ae,lt_succ_self→ak,lt_of_le_of_lt→ao,le_of_ble_eq_true→au,ne_of_lt→av,zero_le→aw,le_of_eq→ay,le_add_right→aA,add_lt_add_left→aH,le_refl→aL,beq→aS,le_succ→aT,add_le_add_left→aW,add_le_add_right→aX,le_of_lt→aY,lt_succ_of_lt→a5,lt_irrefl→a7,min_le_right→a8,lt_trans→bk,succ_le_succ→bl,mul_le_mul_left→bo,min_le_left→bp,not_lt_zero→bt,eq_of_beq_eq_true→bw,ne_of_gt→bx,add_le_add→bz,succ_ne_zero→bF,le_of_lt_succ→bH,le_of_succ_le→bP,add_comm→bR,le_antisymm→bZ,add_assoc→b0,le_of_not_lt→b7,not_le_of_lt→cQ,zero_add→c5,le_succ_of_le→c6,min_eq_left→di,lt_or_ge→dz,add_right_comm→dB,lt_add_of_pos_right→dR,sub_le_sub_right→eu,add_lt_add_right→eA,sub_lt_sub_left→eJ,add_sub_cancel'→eP,lt_of_le_of_ne→eS,lt_of_lt_of_eq→eU,beq_refl→e8,sub_sub_self→fg,le_add_left→fF,blt→fG,le_of_add_le_add_right→fS
open PySem renaming wpAny_bind→af,wpAny_pure→aq,wpAny→aB,wpAny_mono→aZ,wpAny_setState_of→bE,wpAny_holding→bL,wpAny_standAt→bX,sizeLine_eq→cz,wpAny_Call_Name_kw→cC,wpAny_call_entry→dv,wpAny_isTrue_BoolOp→dC,call_meetsIn→dE,wpAny_items_cons→d4,call_meets→ew,wpAny_specialOf→eC,codeAny_builtin→eF,builtinLookup_eq_fast→eH,evalPart_none→fa,wpAny_call→fh,wpAny_truthy_bool→fz,wpAny_execs_cons→fP
open List renaming mem_singleton→ag,length_map→ai,not_mem_nil→aj,map_append→ar,length_append→ax,range→az,size_toArray→aC,length_range→aD,mem_of_getElem?→aE,getElem?_eq_getElem→aG,lookup_cons→aJ,mem_range→aM,length_take→aO,getElem?_map→aQ,append_nil→aU,take_length→aV,take_add_one→bg,mem_of_mem_take→br,getElem?_toArray→bu,map_map→bB,append_assoc→bD,range_succ→bJ,filter_cons_of_neg→bN,filter_cons_of_pos→bO,map_cons→bT,zip_cons_cons→bV,getElem?_eq_none→bW,cons_ne_nil→b5,nodup_range→b6,length→cg,length_filter_le→cA,take_sublist→cE,getD_eq_getElem?_getD→cI,length_drop→cJ,getElem?_range→cS,map_congr_left→cT,getElem_idxOf→cU,filter_congr→cZ,length_cons→c8,isEmpty_map→da,forIn_cons→de,mem_map_of_mem→dh,length_reverse→dk,filter_append→dA,any_cons→dF,length_erase_of_mem→dI,filterMap_cons_some→dJ,filterMap_cons_none→dK,any_toArray→dP,of_mem_zip→dS,zip_append→dT,foldl_cons→dW,take_append_drop→dY,mem_erase_of_ne→d6,foldl_append→eX,ext_getElem?→eY,cons_append→e9,getElem_mem→ff,forIn_nil→fH
open PySem.Heap renaming get?_push_size→aF,get?_push_of_some→aP,lt_size→a0,get?_none_of_le→bq,get?_push_ne→cD,size_update→c9
open Exists renaming elim→aI
open Classical renaming em→aK
open False renaming elim→aN
open Bool renaming noConfusion→aR,false_eq_true→cj,and_eq_true→c7
open PySem.Builtin.Frozenset renaming updateFrom→a9,sizeOf→bG,subsetOf→cW,walkUnseen→dU,unchanged→d0,quietEq→d7
open Option renaming map→bh,map_some→bK,toList_some→bU,isSome→dD,map_id→eB,none→eZ
open Int renaming natCast_nonneg→bj,eq_ofNat_of_zero_le→dQ,toNat→eG
open PySem.Data renaming noConfusion→bA
open PySem.NameKind renaming free→bC,cell→d5
open PySem.Obj renaming mapSeq→bI,data→cy
open PySem.W renaming isStrOf_self→bM
open Array renaming length_toList→bQ,getElem?_eq_getElem→bY,toList_append→ez
open PySem.F renaming plainAttrs_dict→b3,plainAttrs_list→b4,slot_dict_values→cO,slot_list_pop→cX,args_dict_values_1→fj,entry_dict_values→fw,slot_dict_delitem→fy,type_dict_values→fA,slot_list_append→fB,slot_list_extend→fC,slot_dict_update→fD,slot_dict_items→fI,slot_list_index→fJ,slot_set_update→fK,slot_set_remove→fL,entry_list_pop→fQ,plainAttrs_set→fR
open PySem.Builtin.List renaming listExtendWith→b8,listLengthHint→eK,listSameRef→eV,listItems→fb
open PySem.Value renaming type→b9,isStrOf_shape→cN,none→fE,ctorIdx→fO
open PyProof.Rows.F renaming plain_set_update_loop→cq,entry_set_update_loop→dG
open Decidable renaming byContradiction→cF
open Prod renaming ext→cH,snd→fM
open PySem.Builtin.Str renaming occurrences→cK,strSliceIndices→eR
open ForInStep renaming yield→cL
open PySem.Stmt.FunctionDef renaming elim→cP
open PySem.Keeper renaming boundFrame→cV,machine→dy,frame→dM
open PySem.SetTable renaming eraseAt→cY
open List.Pairwise renaming map→dc
open PySem.W.KasT renaming kasWp_bind→dg
open PySem.Builtin.Range renaming rangeSize→dq,small→fu
open PySem.Heap.SameBut renaming update→dO
open PySem.PyData renaming keyHash→dX
open PySem.Around renaming under_plainId→dZ
open PySem.Stmt.Assign renaming elim→d8
open PySem.Stmt.Delete renaming elim→d9
open PySem.Stmt.Return renaming elim→eh
open PySem.Stmt.Assert renaming elim→el
open PyProof.Rows renaming setObjOf_fresh→eO
open PySem.Stmt.While renaming elim→eQ
open PySem.Stmt.Expr renaming elim→e6
open PySem.Builtin renaming divisionGoesByPylong→e7
open PySem.Stmt.For renaming elim→fk
open PySem.Stmt.Try renaming elim→fm
open PySem.Heap.IsSliceOf renaming new→fq
open PySem.Stmt.If renaming elim→fN
open PySem PySem.W PySem.Calls PyProof.Rows
set_option Elab.async false
set_option linter.all false
set_option genSizeOf false
set_option genInjectivity false
set_option genCtorIdx false
set_option maxRecDepth 100000
namespace Mine
local macro_rules
|`(mutual $cs* end)=>return Lean.mkNullNode (cs.map λc=>c.raw.rewriteBottomUp λs=>(if s.isOfKind ``Lean.Parser.Command.declaration&&s[1].isOfKind ``Lean.Parser.Command.definition then s.setArg 0 (s[0].setArg 4 (Lean.mkNullNode #[Lean.mkNode ``Lean.Parser.Command.noncomputable #[Lean.mkAtom "noncomputable"]])) else s).setInfo .none)
mutual
theorem tt:true=true:=rfl
def at'{α:Type}(d:α)(l:List α):Nat→α:=l.rec (λZ=>d) λa Z ih n=>n.casesOn a ih
structure Nm where
 i:Nat
 h:fG i 245=true
theorem Nm.ext:∀{a b:Nm},a.i=b.i→a=b
 |⟨_,_⟩,⟨_,_⟩,rfl=>rfl
noncomputable instance:DecidableEq Nm:=λa b=>if h:a.i=b.i then isTrue (Nm.ext h)else isFalse λe=>h (congrArg Nm.i e)
def Nm.zg:Nm:=⟨0,tt⟩
def Nm.lS:Nm:=⟨1,tt⟩
def Nm.oD:Nm:=⟨2,tt⟩
def Nm.iO:Nm:=⟨3,tt⟩
def Nm.RZ:Nm:=⟨4,tt⟩
def Nm.gU:Nm:=⟨5,tt⟩
def Nm.wX:Nm:=⟨6,tt⟩
def Nm.jf:Nm:=⟨7,tt⟩
def Nm.mV:Nm:=⟨8,tt⟩
def Nm.E5:Nm:=⟨9,tt⟩
def Nm.Xy:Nm:=⟨10,tt⟩
def Nm.Q6:Nm:=⟨11,tt⟩
def Nm.ym:Nm:=⟨12,tt⟩
def Nm.Fv:Nm:=⟨13,tt⟩
def Nm.x6:Nm:=⟨14,tt⟩
def Nm.mq:Nm:=⟨15,tt⟩
def Nm.uA:Nm:=⟨16,tt⟩
def Nm.Rx:Nm:=⟨17,tt⟩
def Nm.tO:Nm:=⟨18,tt⟩
def Nm.o5:Nm:=⟨19,tt⟩
def Nm.qg:Nm:=⟨20,tt⟩
def Nm.n9:Nm:=⟨21,tt⟩
def Nm.wa:Nm:=⟨22,tt⟩
def Nm.v3:Nm:=⟨23,tt⟩
def Nm.oA:Nm:=⟨24,tt⟩
def Nm.MH:Nm:=⟨25,tt⟩
def Nm.uj:Nm:=⟨26,tt⟩
def Nm.j3:Nm:=⟨27,tt⟩
def Nm.oR:Nm:=⟨28,tt⟩
def Nm.xG:Nm:=⟨29,tt⟩
def Nm.zf:Nm:=⟨30,tt⟩
def Nm.gI:Nm:=⟨31,tt⟩
def Nm.gf:Nm:=⟨32,tt⟩
def Nm.pK:Nm:=⟨33,tt⟩
def Nm.KL:Nm:=⟨34,tt⟩
def Nm.gi:Nm:=⟨35,tt⟩
def Nm.kb:Nm:=⟨36,tt⟩
def Nm.hJ:Nm:=⟨37,tt⟩
def Nm.fU:Nm:=⟨38,tt⟩
def Nm.Lv:Nm:=⟨39,tt⟩
def Nm.C8:Nm:=⟨40,tt⟩
def Nm.FE:Nm:=⟨41,tt⟩
def Nm.GY:Nm:=⟨42,tt⟩
def Nm.gc:Nm:=⟨43,tt⟩
def Nm.LD:Nm:=⟨44,tt⟩
def Nm.rR:Nm:=⟨45,tt⟩
def Nm.uy:Nm:=⟨46,tt⟩
def Nm.Np:Nm:=⟨47,tt⟩
def Nm.tv:Nm:=⟨48,tt⟩
def Nm.CX:Nm:=⟨49,tt⟩
def Nm.yO:Nm:=⟨50,tt⟩
def Nm.jF:Nm:=⟨51,tt⟩
def Nm.HR:Nm:=⟨52,tt⟩
def Nm.Oz:Nm:=⟨53,tt⟩
def Nm.kD:Nm:=⟨54,tt⟩
def Nm.HS:Nm:=⟨55,tt⟩
def Nm.qo:Nm:=⟨56,tt⟩
def Nm.lK:Nm:=⟨57,tt⟩
def Nm.hV:Nm:=⟨58,tt⟩
def Nm.nI:Nm:=⟨59,tt⟩
def Nm.og:Nm:=⟨60,tt⟩
def Nm.ku:Nm:=⟨61,tt⟩
def Nm.gZ:Nm:=⟨62,tt⟩
def Nm.yX:Nm:=⟨63,tt⟩
def Nm.kZ:Nm:=⟨64,tt⟩
def Nm.iw:Nm:=⟨65,tt⟩
def Nm.u4:Nm:=⟨66,tt⟩
def Nm.rz:Nm:=⟨67,tt⟩
def Nm.gF:Nm:=⟨68,tt⟩
def Nm.h7:Nm:=⟨69,tt⟩
def Nm.je:Nm:=⟨70,tt⟩
def Nm.i7:Nm:=⟨71,tt⟩
def Nm.zu:Nm:=⟨72,tt⟩
def Nm.uc:Nm:=⟨73,tt⟩
def Nm.ot:Nm:=⟨74,tt⟩
def Nm.E8:Nm:=⟨75,tt⟩
def Nm.Ex:Nm:=⟨76,tt⟩
def Nm.MC:Nm:=⟨77,tt⟩
def Nm.mB:Nm:=⟨78,tt⟩
def Nm.iW:Nm:=⟨79,tt⟩
def Nm.lg:Nm:=⟨80,tt⟩
def Nm.sG:Nm:=⟨81,tt⟩
def Nm.qy:Nm:=⟨82,tt⟩
def Nm.gL:Nm:=⟨83,tt⟩
def Nm.hY:Nm:=⟨84,tt⟩
def Nm.hH:Nm:=⟨85,tt⟩
def Nm.kf:Nm:=⟨86,tt⟩
def Nm.KG:Nm:=⟨87,tt⟩
def Nm.zm:Nm:=⟨88,tt⟩
def Nm.mA:Nm:=⟨89,tt⟩
def Nm.pb:Nm:=⟨90,tt⟩
def Nm.jo:Nm:=⟨91,tt⟩
def Nm.qJ:Nm:=⟨92,tt⟩
def Nm.jK:Nm:=⟨93,tt⟩
def Nm.j5:Nm:=⟨94,tt⟩
def Nm.B3:Nm:=⟨95,tt⟩
def Nm.l3:Nm:=⟨96,tt⟩
def Nm.gV:Nm:=⟨97,tt⟩
def Nm.gA:Nm:=⟨98,tt⟩
def Nm.BX:Nm:=⟨99,tt⟩
def Nm.si:Nm:=⟨100,tt⟩
def Nm.jj:Nm:=⟨101,tt⟩
def Nm.j4:Nm:=⟨103,tt⟩
def Nm.iE:Nm:=⟨104,tt⟩
def Nm.kG:Nm:=⟨105,tt⟩
def Nm.BD:Nm:=⟨106,tt⟩
def Nm.BG:Nm:=⟨107,tt⟩
def Nm.ji:Nm:=⟨108,tt⟩
def Nm.qx:Nm:=⟨109,tt⟩
def Nm.Js:Nm:=⟨110,tt⟩
def Nm.f9:Nm:=⟨111,tt⟩
def Nm.i8:Nm:=⟨112,tt⟩
def Nm.jy:Nm:=⟨113,tt⟩
def Nm.k3:Nm:=⟨114,tt⟩
def Nm.k4:Nm:=⟨115,tt⟩
def Nm.z8:Nm:=⟨116,tt⟩
def Nm.gy:Nm:=⟨117,tt⟩
def Nm.nS:Nm:=⟨118,tt⟩
def Nm.FH:Nm:=⟨119,tt⟩
def Nm.qC:Nm:=⟨120,tt⟩
def Nm.gm:Nm:=⟨121,tt⟩
def Nm.Ay:Nm:=⟨122,tt⟩
def Nm.vX:Nm:=⟨124,tt⟩
def Nm.nP:Nm:=⟨125,tt⟩
def Nm.vY:Nm:=⟨126,tt⟩
def Nm.jt:Nm:=⟨127,tt⟩
def Nm.iK:Nm:=⟨128,tt⟩
def Nm.gr:Nm:=⟨129,tt⟩
def Nm.As:Nm:=⟨130,tt⟩
def Nm.iI:Nm:=⟨131,tt⟩
def Nm.tG:Nm:=⟨132,tt⟩
def Nm.lJ:Nm:=⟨133,tt⟩
def Nm.iS:Nm:=⟨134,tt⟩
def Nm.kM:Nm:=⟨135,tt⟩
def Nm.tH:Nm:=⟨136,tt⟩
def Nm.sZ:Nm:=⟨137,tt⟩
def Nm.iG:Nm:=⟨138,tt⟩
def Nm.rM:Nm:=⟨139,tt⟩
def Nm.ui:Nm:=⟨140,tt⟩
def Nm.tB:Nm:=⟨141,tt⟩
def Nm.yq:Nm:=⟨142,tt⟩
def Nm.lC:Nm:=⟨143,tt⟩
def Nm.lE:Nm:=⟨144,tt⟩
def Nm.uh:Nm:=⟨145,tt⟩
def Nm.jd:Nm:=⟨146,tt⟩
def Nm.lH:Nm:=⟨147,tt⟩
def Nm.pg:Nm:=⟨148,tt⟩
def Nm.E2:Nm:=⟨149,tt⟩
def Nm.iz:Nm:=⟨150,tt⟩
def Nm.iF:Nm:=⟨151,tt⟩
def Nm.pz:Nm:=⟨152,tt⟩
def Nm.pC:Nm:=⟨153,tt⟩
def Nm.l5:Nm:=⟨154,tt⟩
def Nm.iJ:Nm:=⟨155,tt⟩
def Nm.vG:Nm:=⟨156,tt⟩
def Nm.qh:Nm:=⟨157,tt⟩
def Nm.k0:Nm:=⟨158,tt⟩
def Nm.qc:Nm:=⟨159,tt⟩
def Nm.h9:Nm:=⟨160,tt⟩
def Nm.C9:Nm:=⟨161,tt⟩
def Nm.ou:Nm:=⟨162,tt⟩
def Nm.mM:Nm:=⟨163,tt⟩
def Nm.wK:Nm:=⟨164,tt⟩
def Nm.xn:Nm:=⟨165,tt⟩
def Nm.gX:Nm:=⟨166,tt⟩
def Nm.jQ:Nm:=⟨167,tt⟩
def Nm.ql:Nm:=⟨168,tt⟩
def Nm.qq:Nm:=⟨169,tt⟩
def Nm.jR:Nm:=⟨170,tt⟩
def Nm.qv:Nm:=⟨171,tt⟩
def Nm.jT:Nm:=⟨172,tt⟩
def Nm.Bb:Nm:=⟨173,tt⟩
def Nm.vE:Nm:=⟨174,tt⟩
def Nm.o6:Nm:=⟨175,tt⟩
def Nm.i3:Nm:=⟨176,tt⟩
def Nm.gj:Nm:=⟨177,tt⟩
def Nm.jz:Nm:=⟨178,tt⟩
def Nm.nF:Nm:=⟨179,tt⟩
def Nm.nx:Nm:=⟨180,tt⟩
def Nm.rS:Nm:=⟨181,tt⟩
def Nm.vw:Nm:=⟨182,tt⟩
def Nm.ij:Nm:=⟨183,tt⟩
def Nm.rY:Nm:=⟨184,tt⟩
def Nm.AR:Nm:=⟨185,tt⟩
def Nm.nE:Nm:=⟨186,tt⟩
def Nm.ly:Nm:=⟨187,tt⟩
def Nm.uB:Nm:=⟨188,tt⟩
def Nm.uM:Nm:=⟨189,tt⟩
def Nm.mC:Nm:=⟨190,tt⟩
def Nm.qP:Nm:=⟨191,tt⟩
def Nm.jB:Nm:=⟨192,tt⟩
def Nm.oy:Nm:=⟨193,tt⟩
def Nm.jb:Nm:=⟨194,tt⟩
def Nm.uO:Nm:=⟨195,tt⟩
def Nm.h8:Nm:=⟨196,tt⟩
def Nm.kL:Nm:=⟨197,tt⟩
def Nm.iR:Nm:=⟨198,tt⟩
def Nm.sx:Nm:=⟨199,tt⟩
def Nm.r9:Nm:=⟨200,tt⟩
def Nm.sA:Nm:=⟨201,tt⟩
def Nm.sC:Nm:=⟨203,tt⟩
def Nm.jV:Nm:=⟨204,tt⟩
def Nm.nK:Nm:=⟨205,tt⟩
def Nm.pV:Nm:=⟨206,tt⟩
def Nm.nJ:Nm:=⟨207,tt⟩
def Nm.yt:Nm:=⟨208,tt⟩
def Nm.kY:Nm:=⟨209,tt⟩
def Nm.pQ:Nm:=⟨210,tt⟩
def Nm.jG:Nm:=⟨211,tt⟩
def Nm.gN:Nm:=⟨212,tt⟩
def Nm.rx:Nm:=⟨213,tt⟩
def Nm.rm:Nm:=⟨214,tt⟩
def Nm.rL:Nm:=⟨215,tt⟩
def Nm.kF:Nm:=⟨217,tt⟩
def Nm.oQ:Nm:=⟨218,tt⟩
def Nm.xI:Nm:=⟨219,tt⟩
def Nm.xO:Nm:=⟨220,tt⟩
def Nm.gk:Nm:=⟨221,tt⟩
def Nm.j9:Nm:=⟨222,tt⟩
def Nm.nM:Nm:=⟨224,tt⟩
def Nm.q9:Nm:=⟨225,tt⟩
def Nm.qN:Nm:=⟨226,tt⟩
def Nm.rq:Nm:=⟨227,tt⟩
def Nm.iT:Nm:=⟨228,tt⟩
def Nm.qa:Nm:=⟨229,tt⟩
def Nm.p6:Nm:=⟨230,tt⟩
def Nm.mY:Nm:=⟨231,tt⟩
def Nm.p8:Nm:=⟨232,tt⟩
def Nm.vj:Nm:=⟨233,tt⟩
def Nm.nL:Nm:=⟨234,tt⟩
def Nm.gE:Nm:=⟨235,tt⟩
def Nm.m5:Nm:=⟨236,tt⟩
def Nm.qb:Nm:=⟨237,tt⟩
def Nm.k8:Nm:=⟨238,tt⟩
def Nm.jx:Nm:=⟨239,tt⟩
def Nm.j2:Nm:=⟨240,tt⟩
def Nm.l9:Nm:=⟨241,tt⟩
def Nm.jg:Nm:=⟨242,tt⟩
def Nm.lu:Nm:=⟨243,tt⟩
def Nm.ky:Nm:=⟨244,tt⟩
inductive I where
 |gq (n:Nat)
 |p (x:Nm) (k:Nat)
 |vals (b k:Nat)
 |t (b k:Nat) (x:Nm)
 |n (b k:Nat) (x:Nm) (i:Nat)
 |u (b:Nat) (x:Nm)
 |q (b:Nat) (x:Nm)
noncomputable instance:DecidableEq I:=λa b=>Classical.propDecidable (a=b)
inductive V where
 |none
 |bool (b:Bool)
 |int (i:Int)
 |str (s:Str)
 |ref (r:I)
 |tup (l:List V)
def Ky:List Str:=[aa "j",aa "k",aa "db",aa "_db",aa "_in",aa "arg",aa "cut",aa "dep",aa "due",aa "get",aa "in_",aa "md5",aa "msg",aa "pop",aa "res",aa "row",aa "seq",aa "set",aa "utd",aa "_get",aa "_set",aa "args",aa "bits",aa "calc",aa "done",aa "dump",aa "fail",aa "held",aa "info",aa "item",aa "join",aa "name",aa "node",aa "path",aa "rest",aa "rows",aa "runs",aa "seen",aa "self",aa "send",aa "size",aa "step",aa "targ",aa "task",aa "tell",aa "text",aa "told",aa "turn",aa "what",aa "word",aa "ahead",aa "clock",aa "close",aa "cycle",aa "files",aa "index",aa "items",aa "nodes",aa "order",aa "phase",aa "place",aa "ready",aa "saved",aa "setup",aa "state",aa "tasks",aa "value",aa "which",aa "world",aa "append",aa "before",aa "chosen",aa "exists",aa "extend",aa "f_name",aa "finish",aa "format",aa "ignore",aa "inputs",aa "number",aa "parent",aa "reason",aa "remove",aa "result",aa "runner",aa "script",aa "status",aa "stream",aa "sub_id",aa "target",aa "update",aa "values",aa "_closed",aa "actions",aa "backend",aa "bad_str",aa "changed",aa "checker",aa "control",aa "execute",aa "filter_",aa "get_log",aa "get_val",aa "getargs",aa "numbers",aa "options",aa "pattern",aa "process",aa "reached",aa "reasons",aa "run_all",aa "targets",aa "task_id",aa "waiting",aa "__init__",aa "bad_deps",aa "base_len",aa "calc_dep",aa "dep_node",aa "dep_task",aa "executed",aa "file_dep",aa "file_md5",aa "get_name",aa "is_ready",aa "key_name",aa "new_node",aa "previous",aa "reporter",aa "task_dep",aa "the_task",aa "uptodate",aa "utd_args",aa "wait_for",aa "wait_run",aa "wild_dep",aa "_add_task",aa "_gen_node",aa "ancestors",aa "arg_value",aa "base_fail",aa "continue_",aa "deps_list",aa "file_path",aa "file_stat",aa "get_state",aa "get_value",aa "next_step",aa "processed",aa "run_tasks",aa "task_list",aa "task_name",aa "this_task",aa "timestamp",aa "_add_ready",aa "_def_order",aa "_init_deps",aa "add_reason",aa "dependency",aa "dispatcher",aa "everything",aa "get_result",aa "get_status",aa "get_values",aa "input_data",aa "remove_all",aa "run_status",aa "set_reason",aa "setup_task",aa "subtask_of",aa "tasks_dict",aa "utd_kwargs",aa "waiting_me",aa "add_failure",aa "add_success",aa "added_files",aa "dep_changed",aa "dep_manager",aa "filter_list",aa "has_subtask",aa "parent_node",aa "result_hash",aa "select_task",aa "setup_tasks",aa "skip_ignore",aa "update_deps",aa "wait_select",aa "checker_name",aa "complete_run",aa "error_reason",aa "execute_task",aa "final_result",aa "ignored_deps",aa "init_options",aa "previous_set",aa "save_success",aa "tasks_to_run",aa "value_savers",aa "waiting_node",aa "_filter_tasks",aa "_init_getargs",aa "_init_targets",aa "_result_group",aa "_stop_running",aa "calc_dep_list",aa "current_state",aa "parent_status",aa "removed_files",aa "runtime_error",aa "selected_task",aa "skip_uptodate",aa "task_dep_list",aa "wait_run_calc",aa "_get_next_node",aa "_get_task_args",aa "_init_uptodate",aa "_result_single",aa "always_execute",aa "check_modified",aa "configure_task",aa "remove_success",aa "selected_tasks",aa "task_selection",aa "_get_dep_result",aa "_get_wild_tasks",aa "_process_filter",aa "_update_waiting",aa "task_dispatcher",aa "uptodate_result",aa "_check_dep_names",aa "_expand_calc_dep",aa "_expand_file_dep",aa "_expand_task_dep",aa "_extend_uptodate",aa "status_is_ignore",aa "add_filtered_task",aa "get_error_message",aa "save_extra_values",aa "set_implicit_deps",aa "_handle_task_error",aa "_node_add_wait_run",aa "process_task_result",aa "uptodate_result_list",aa "add_implicit_task_dep",aa "_process_calc_dep_results"]
def Nm.str(x:Nm):Str:=at' ⟨#[]⟩ Ky x.i
def lk{α:Type}(l:List (Nm×α))(x:Nm):Option α:=l.rec none λp Z ih=>bif aS x.i p.1.i then some p.2 else ih
set_option genCtorIdx true in
inductive pL where
 |tj |nN |kI |gQ |nO |Runner |Task |iy |lq |kQ |mP
deriving DecidableEq
def pL.all:List pL:=[.tj,.nN,.kI,.gQ,.nO,.Runner,.Task,.iy,.lq,.kQ,.mP]
def pL.addr(c:pL):Addr:=c.casesOn 261 338 364 405 524 637 748 893 921 999 1076
structure Fn where
 i:Nat
 h:fG i 67=true
theorem Fn.ext:∀{a b:Fn},a.i=b.i→a=b
 |⟨_,_⟩,⟨_,_⟩,rfl=>rfl
noncomputable instance:DecidableEq Fn:=λa b=>if h:a.i=b.i then isTrue (Fn.ext h)else isFalse λe=>h (congrArg Fn.i e)
def Fn.Be:Fn:=⟨0,tt⟩
def Fn.vy:Fn:=⟨1,tt⟩
def Fn.qk:Fn:=⟨2,tt⟩
def Fn.sS:Fn:=⟨3,tt⟩
def Fn.mW:Fn:=⟨4,tt⟩
def Fn.mh:Fn:=⟨5,tt⟩
def Fn.jm:Fn:=⟨6,tt⟩
def Fn.md:Fn:=⟨7,tt⟩
def Fn.oq:Fn:=⟨8,tt⟩
def Fn.kT:Fn:=⟨9,tt⟩
def Fn.lX:Fn:=⟨10,tt⟩
def Fn.nV:Fn:=⟨11,tt⟩
def Fn.kh:Fn:=⟨12,tt⟩
def Fn.lB:Fn:=⟨13,tt⟩
def Fn.xg:Fn:=⟨14,tt⟩
def Fn.mL:Fn:=⟨15,tt⟩
def Fn.jN:Fn:=⟨16,tt⟩
def Fn.v7:Fn:=⟨17,tt⟩
def Fn.jX:Fn:=⟨18,tt⟩
def Fn.nW:Fn:=⟨19,tt⟩
def Fn.lG:Fn:=⟨20,tt⟩
def Fn.ki:Fn:=⟨21,tt⟩
def Fn.vq:Fn:=⟨22,tt⟩
def Fn.gP:Fn:=⟨23,tt⟩
def Fn.pH:Fn:=⟨24,tt⟩
def Fn.oI:Fn:=⟨25,tt⟩
def Fn.lT:Fn:=⟨26,tt⟩
def Fn.tK:Fn:=⟨27,tt⟩
def Fn.uP:Fn:=⟨28,tt⟩
def Fn.sI:Fn:=⟨29,tt⟩
def Fn.vp:Fn:=⟨30,tt⟩
def Fn.ug:Fn:=⟨31,tt⟩
def Fn.om:Fn:=⟨32,tt⟩
def Fn.kA:Fn:=⟨33,tt⟩
def Fn.rU:Fn:=⟨34,tt⟩
def Fn.Ar:Fn:=⟨35,tt⟩
def Fn.qF:Fn:=⟨36,tt⟩
def Fn.pE:Fn:=⟨37,tt⟩
def Fn.jW:Fn:=⟨38,tt⟩
def Fn.il:Fn:=⟨39,tt⟩
def Fn.gB:Fn:=⟨40,tt⟩
def Fn.qH:Fn:=⟨41,tt⟩
def Fn.oH:Fn:=⟨42,tt⟩
def Fn.lA:Fn:=⟨43,tt⟩
def Fn.tL:Fn:=⟨44,tt⟩
def Fn.k5:Fn:=⟨45,tt⟩
def Fn.tS:Fn:=⟨46,tt⟩
def Fn.iX:Fn:=⟨47,tt⟩
def Fn.mH:Fn:=⟨48,tt⟩
def Fn.iY:Fn:=⟨49,tt⟩
def Fn.jY:Fn:=⟨50,tt⟩
def Fn.lj:Fn:=⟨51,tt⟩
def Fn.ja:Fn:=⟨52,tt⟩
def Fn.kR:Fn:=⟨53,tt⟩
def Fn.vn:Fn:=⟨54,tt⟩
def Fn.mU:Fn:=⟨55,tt⟩
def Fn.ma:Fn:=⟨56,tt⟩
def Fn.my:Fn:=⟨57,tt⟩
def Fn.lP:Fn:=⟨58,tt⟩
def Fn.qw:Fn:=⟨59,tt⟩
def Fn.vV:Fn:=⟨60,tt⟩
def Fn.qR:Fn:=⟨61,tt⟩
def Fn.rX:Fn:=⟨62,tt⟩
def Fn.uk:Fn:=⟨63,tt⟩
def Fn.rD:Fn:=⟨64,tt⟩
def Fn.Vn:Fn:=⟨65,tt⟩
def Fn.JV:Fn:=⟨66,tt⟩
def Fn.addr(f:Fn):Addr:=at' 0 [216,223,230,237,279,286,293,328,335,354,361,380,388,395,423,430,437,465,473,480,515,521,578,592,599,606,613,627,662,669,676,683,690,726,738,745,828,835,842,852,869,876,883,890,911,918,939,946,953,961,968,975,982,996,1017,1024,1031,1045,1052,1073,1085,1092,1097,1102,1107,1112,202] f.i
def Fn.params(f:Fn):List Nm:=at' [] [[.fU,.oD],[.fU],[.fU,.i8,.k0,.u4],[.fU,.i8,.k0],[.fU,.kD],[.fU,.lC],[.fU,.lC],[.fU,.lC,.lE,.kZ],[.fU,.jf,.nK],[.fU,.lC,.lE,.kZ],[.fU,.jf,.nK],[.fU,.jj],[.fU,.sG,.gU,.kf],[.fU,.sG,.gU],[.fU,.j5,.gV],[.fU,.i8,.k0,.u4],[.fU,.i8,.k0],[.fU],[.fU,.gc,.rS],[.fU,.iF],[.fU,.gc],[.fU,.gc,.jR,.jj],[.fU,.gj,.iK,.tB,.kF],[.fU,.gc,.jR],[.fU,.gf,.jR],[.fU,.gc],[.fU,.gf,.ui],[.fU],[.fU,.gI,.jK,.gm,.f9,.gr,.iI,.gy,.yX,.qq,.nF,.j4],[.fU,.gm,.gr,.gy],[.fU,.qo],[.fU,.qo],[.fU,.gm],[.fU,.n9],[.fU],[.fU,.KG],[.fU,.iz],[.fU],[.f9,.iz],[.f9,.gc,.yq],[.fU,.j9],[.fU,.j9],[.fU,.j9],[.fU],[.fU,.gc,.lg],[.fU,.nx],[.fU,.iw,.f9,.gk],[.fU,.lg,.iF],[.fU,.lg,.iF],[.fU,.gf,.iz,.v3],[.fU,.gf],[.fU,.ku,.h8],[.fU,.pg],[.fU,.pg],[.fU],[.fU,.gc],[.fU,.gc],[.fU,.gc],[.fU,.gc],[.fU],[.iE],[.lS,.j3],[.gi,.hV,.i7],[.gi],[.kZ,.gi,.i7,.og,.wX],[.hH],[.wK]] f.i
def lf{α:Type}(d:α)(l:List (Fn×α))(x:Fn):α:=l.rec d λp Z ih=>bif aS x.i p.1.i then p.2 else ih
def Fn.cells(f:Fn):List Nm:=lf [] [(.ki,[.gc,.jb]),(.gP,[.fU]),(.gB,[.fU,.jz]),(.vV,[.wa]),(.rX,[.gi,.ji,.lS]),(.uk,[.gi]),(.rD,[.gi,.gF,.gZ,.lS]),(.Vn,[.gF,.ji,.j3])] f
def Fn.ux(f:Fn):List V:=lf [] [(.kh,[(.str "run")]),(.jX,[.none]),(.ki,[(.bool false)]),(.vq,[(.bool false),(.bool false)]),(.uP,[(.tup []),(.tup []),(.tup []),(.tup []),(.tup []),(.tup []),.none,(.bool false),.none]),(.kA,[.none]),(.iY,[(.bool false)])] f
def pL.tab(c:pL):List (Nm×Value):=c.casesOn
 [(.k3,.ref 216),(.MH,.ref 223),(.Rx,.ref 230),(.E5,.ref 237),(.Xy,.ref 244),(.qy,.ref 251),(.xn,.ref 258)]
 [(.k3,.ref 279),(.zu,.ref 286),(.oR,.ref 293),(.oQ,.ref 328),(.uh,.ref 335),(.gI,.str "MD5Checker" 618)]
 [(.k3,.ref 279),(.zu,.ref 286),(.oR,.ref 293),(.oQ,.ref 354),(.uh,.ref 361),(.gI,.str "TimestampChecker" 661)]
 [(.k3,.ref 380),(.qh,.ref 388),(.jQ,.ref 395),(.m5,.ref 402)]
 [(.k3,.ref 423),(.qg,.ref 430),(.o5,.ref 437),(.qy,.ref 444),(.xn,.ref 451),(.RZ,.ref 458),(.HR,.ref 465),(.uO,.ref 473),(.mM,.ref 480),(.jd,.ref 487),(.C9,.ref 494),(.xO,.ref 501),(.MC,.ref 508),(.nL,.ref 515),(.ou,.ref 521)]
 [(.k3,.ref 578),(.jx,.ref 585),(.rm,.ref 592),(.vw,.ref 599),(.mC,.ref 606),(.l9,.ref 613),(.E2,.ref 620),(.E8,.ref 627),(.Js,.ref 634)]
 [(.k3,.ref 662),(.vG,.ref 669),(.sA,.ref 676),(.rL,.ref 683),(.mY,.ref 690),(.p8,.ref 697),(.p6,.ref 704),(.vj,.ref 711),(.AR,.ref 718),(.oy,.ref 726),(.r9,.ref 731),(.qb,.ref 738),(.BX,.ref 745)]
 [(.k3,.ref 828),(.qa,.ref 835),(.k8,.ref 844),(.lu,.ref 854),(.nM,.ref 862),(.q9,.ref 869),(.sx,.ref 876),(.BG,.ref 883),(.rq,.ref 890)]
 [(.k3,.ref 911),(.pV,.ref 918)]
 [(.k3,.ref 939),(.sZ,.ref 946),(.l5,.ref 953),(.j2,.ref 961),(.tH,.ref 968),(.rx,.ref 975),(.qN,.ref 982),(.ky,.ref 989),(.Lv,.ref 996)]
 [(.k3,.ref 1017),(.ou,.ref 1024),(.mC,.ref 1031),(.Bb,.ref 1038),(.vE,.ref 1045),(.pQ,.ref 1052),(.rY,.ref 1059),(.yt,.ref 1066),(.uB,.ref 1073)]
def pL.attr(c:pL)(x:Nm):Option Value:=lk c.tab x
def wg:List (pL×Nm×Fn):=[(.iy,.k8,.jW),(.iy,.lu,.il)]
set_option genCtorIdx true in
inductive Bi where
 |pd |K3 |oM |x4 |km |ry |lR |nQ |Ip |wF |zQ
inductive Tg where
 |var (x:Nm)
 |iN (x:Nm)
inductive sJ where
 |one (t:Tg)
 |tup (l:List Tg)
set_option genCtorIdx true in
inductive ME where
 |bad
 |n5
 |sL (b:Bool)
 |int (i:Int)
 |str (s:Str)
 |var (x:Nm)
 |iN (x:Nm)
 |attr (o:ME) (a:Nm)
 |idx (o i:ME)
 |yb (o:ME) (lo hi:Option ME)
 |rev (o:ME)
 |fn (f:Fn) (as:List ME) (ks:List (Nm×ME))
 |mk (c:pL) (as:List ME) (ks:List (Nm×ME))
 |AP (x:Nm) (as:List ME)
 |gn (o:ME) (a:Nm) (as:List ME) (ks:List (Nm×ME))
 |bi (b:Bi) (as:List ME)
 |Fz (e:ME) (t:Value)
 |cmp (op:CmpOp) (l r:ME)
 |and (es:List ME)
 |or (es:List ME)
 |not (e:ME)
 |ite (t a b:ME)
 |bin (op:Operator) (l r:ME)
 |list (es:List ME)
 |tup (es:List ME)
 |dict
 |comp (elt:ME) (t:sJ) (it:ME) (ifs:List ME)
set_option genCtorIdx true in
inductive MS where
 |bad
 |asg (t:sJ) (e:ME)
 |hO (o:ME) (a:Nm) (e:ME)
 |sets (o i:ME) (e:ME)
 |J8 (o i:ME)
 |ex (e:ME)
 |ite (t:ME) (b o:List MS)
 |wh (t:ME) (b:List MS)
 |for (t:sJ) (e:ME) (b:List MS)
 |ret (e:Option ME)
 |brk
 |cont
 |pass
 |Bc (e:ME)
 |tr (b o:List MS)
 |Uo (x:Nm)
def Ru(ms:List MS):List MS:=.asg (.one (.var .jt)) (.gn (.var .fU) .o5 [(.attr (.iN .gc) .gI),(.str "checker:")] [])::
  .asg (.one (.var .ly)) (.attr (.attr (.var .fU) .gV) .gI)::
  .ite (.and [(.var .jt),(.cmp .NotEq (.var .jt) (.var .ly))])
   [.hO (.iN .gc) .i3 (.bi .nQ [(.attr (.iN .gc) .gm)]),
   .ex (.gn (.var .fU) .qy [(.attr (.iN .gc) .gI)] []),
   .ite (.gn (.var .gL) .jQ [(.str "checker_changed"),(.tup [(.var .jt),(.var .ly)])] [])
    [.ret (some (.var .gL))]
    []]
   []::
  .asg (.one (.var .jt)) (.gn (.var .fU) .o5 [(.attr (.iN .gc) .gI),(.str "deps:")] [])::
  .asg (.one (.iN .jb)) (.ite (.var .jt) (.bi .wF [(.var .jt)]) .n5)::
  .ite (.and [(.iN .jb),(.cmp .NotEq (.iN .jb) (.bi .wF [(.attr (.iN .gc) .gm)]))])
   [.ite (.var .jj)
    [.asg (.one (.var .o6)) (.bi .lR [(.comp (.var .jf) (.one (.var .jf)) (.attr (.iN .gc) .gm) [(.cmp .NotIn (.var .jf) (.iN .jb))])]),
    .asg (.one (.var .nJ)) (.bi .lR [(.comp (.var .jf) (.one (.var .jf)) (.var .jt) [(.cmp .NotIn (.var .jf) (.attr (.iN .gc) .gm))])]),
    .ex (.gn (.var .gL) .jQ [(.str "added_file_dep"),(.var .o6)] []),
    .ex (.gn (.var .gL) .jQ [(.str "removed_file_dep"),(.var .nJ)] [])]
    [],
   .hO (.var .gL) .kf (.str "run")]
   []::ms
def OS(ms:List MS):List MS:=.asg (.one (.var .gL)) (.mk .gQ [(.var .jj)] [])::
  .hO (.iN .gc) .i3 (.list [])::
  .asg (.one (.var .jg)) (.list [])::
  .for (.tup [(.var .tO),(.var .tG),(.var .qv)]) (.attr (.iN .gc) .iI)
   [.ite (.Fz (.var .tO) (.ref 559))
    [.ex (.gn (.var .tO) .yX [(.var .fU),(.var .jR)] []),
    .asg (.one (.var .iT)) (.gn (.var .tO) .LD [(.iN .gc),(.gn (.var .fU) .mM [(.attr (.iN .gc) .gI)] [])] [])]
    [.asg (.one (.var .iT)) (.var .tO)],
   .ite (.cmp .Is (.var .iT) .n5)
    [.cont]
    [],
   .ex (.gn (.var .jg) .h7 [(.var .iT)] []),
   .ite (.not (.var .iT))
    [.ex (.gn (.var .gL) .qh [(.str "uptodate_false"),(.tup [(.var .tO),(.var .tG),(.var .qv)])] [])]
    []]::
  .ite (.and [(.not (.var .jj)),(.cmp .Eq (.attr (.var .gL) .kf) (.str "run"))])
   [.ret (some (.var .gL))]
   []::
  .ite (.not (.or [(.attr (.iN .gc) .gm),(.var .jg)]))
   [.ite (.gn (.var .gL) .jQ [(.str "has_no_dependencies"),(.sL true)] [])
    [.ret (some (.var .gL))]
    []]
   []::ms
def FQ(ms:List MS):List MS:=.asg (.one (.var .uj)) (.gn (.var .hY) .mC [(.attr (.var .gf) .gc)] [])::
   .asg (.one (.var .rR)) (.fn .qR [(.iN .lS),(.comp (.idx (.idx (.iN .gF) (.var .pK)) (.int 2)) (.one (.var .pK)) (.idx (.iN .gi) (.iN .lS)) [])] [])::ms
def Dh(ms:List MS):List MS:=.sets (.var .jF) (.int 0) (.bin .Add (.idx (.var .jF) (.int 0)) (.int 1))::
   .sets (.iN .gF) (.bin .Add (.str "o") (.bi .pd [(.iN .lS)])) (.tup [(.idx (.var .jF) (.int 0)),(.bi .oM [(.var .rR)]),(.var .rR)])::
   .sets (.var .kb) (.iN .lS) (.bin .Add (.idx (.var .kb) (.iN .lS)) (.int 1))::ms
def Ir(c:Int)(e:ME):MS:=.ite (.and [(.cmp .Eq (.var .oA) (.var .og)),(.cmp .Eq (.var .wX) (.int c))]) [.ret (some (.tup [(.str "cut"),(.var .hJ),e]))] []
def QC:ME:=.and [(.cmp .In (.bin .Add (.str "o") (.bi .pd [(.var .zg)])) (.idx (.iN .gi) (.iN .lS))),(.cmp .NotIn (.var .zg) (.iN .gZ))]
def QA:ME:=.comp (.var .zg) (.one (.var .zg)) (.bi .km [(.bi .oM [(.iN .gi)])]) [QC]
def g_num(ms:List MS):List MS:=.asg (.one (.iN .lS)) (.bi .K3 [(.yb (.attr (.attr (.var .gf) .gc) .gI) (some (.int 1)) none)])::
   .ite (.or [(.cmp .In (.iN .lS) (.var .hJ)),(.cmp .NotEq QA (.list []))])
    [.ret (some (.tup [(.str "wrong"),(.var .hJ),.n5]))]
    []::
   .ex (.gn (.var .hJ) .h7 [(.iN .lS)] [])::ms
def Cm(x:Nm)(c:Int):MS:=.asg (.one (.var x)) (.comp (.int c) (.one (.var .mq)) (.var .gi) [])
def HW:List MS:=[.asg (.one (.var .nS)) (.idx (.attr (.var .fU) .lK) (.var .gI)),.ite (.or [(.not (.var .nS)),(.cmp .In (.attr (.var .nS) .gX) (.tup [.n5,(.str "run")]))]) [.ite (.cmp .NotIn (.var .gI) (.var .lJ)) [.ex (.gn (.var .lJ) .h7 [(.var .gI)] [])] []] [.ex (.gn (.var .gf) .pV [(.var .nS)] []),.ite (.var .v3) [.ex (.gn (.var .fU) .ky [(.var .nS),(.var .gf)] [])] []]]
def Ht:List MS:=[.sets (.attr (.idx (.attr (.var .fU) .lK) (.var .gI)) .jT) (.attr (.attr (.var .gf) .gc) .gI) (.var .gf)]
def RE:List MS:=[.ex (.gn (.var .iR) .pV [(.var .gf)] []),.asg (.one (.var .iF)) (.attr (.attr (.var .gf) .gc) .gI),.ite (.cmp .In (.var .iF) (.attr (.var .iR) .iS)) [.ex (.gn (.attr (.var .iR) .iS) .qy [(.var .iF)] []),.asg (.one (.var .vX)) (.not (.or [(.attr (.var .iR) .iS),(.attr (.var .iR) .gN)]))] [.Bc (.cmp .In (.var .iF) (.attr (.var .iR) .gN)),.ex (.gn (.attr (.var .iR) .gN) .qy [(.var .iF)] []),.asg (.one (.var .vX)) (.sL true),.ex (.gn (.var .fU) .ky [(.var .gf),(.var .iR)] [])],.ite (.and [(.var .vX),(.cmp .In (.attr (.attr (.var .iR) .gc) .gI) (.attr (.var .fU) .jy))]) [.ex (.gn (.attr (.var .fU) .ku) .h7 [(.var .iR)] []),.J8 (.attr (.var .fU) .jy) (.attr (.attr (.var .iR) .gc) .gI)] []]
def Cq:MS:=.ite (.not (.attr (.var .fU) .gf)) [.hO (.var .fU) .gf (.gn (.var .fU) .rx [(.attr (.var .fU) .ku),(.attr (.var .fU) .h8)] []),.ite (.not (.attr (.var .fU) .gf)) [.ite (.attr (.var .fU) .jy) [.bad] [],.ret (some .n5)] []] []
def PN:List MS:=[.asg (.one (.var .lH)) (.gn (.var .fU) .tH [(.attr (.var .fU) .gf)] []),.ite (.cmp .Is (.var .lH) .n5) [.hO (.var .fU) .gf .n5,.cont] [],.ite (.cmp .Eq (.var .lH) (.str "task")) [.ret (some (.attr (.var .fU) .gf))] [],.Bc (.cmp .Eq (.var .lH) (.str "wait")),.sets (.attr (.var .fU) .jy) (.attr (.attr (.attr (.var .fU) .gf) .gc) .gI) (.attr (.var .fU) .gf),.hO (.var .fU) .gf .n5]
def KJ:MS:=.for (.one (.var .GY)) (.attr (.iN .gc) .f9) [.ite (.not (.gn (.attr (.var .fU) .gV) .zu [(.var .GY)] [])) [.hO (.iN .gc) .i3 (.bi .nQ [(.attr (.iN .gc) .gm)]),.ite (.gn (.var .gL) .qh [(.str "missing_target"),(.var .GY)] []) [.ret (some (.var .gL))] []] []]
def CJ:List MS:=[.asg (.one (.var .kZ)) (.gn (.var .fU) .o5 [(.attr (.iN .gc) .gI),(.var .jf)] []),.tr [.asg (.one (.var .lE)) (.gn (.attr (.var .fU) .gV) .oR [(.var .jf)] [])] [.ite (.or [(.cmp .Is (.var .kZ) .n5),(.gn (.attr (.var .fU) .gV) .oQ [(.var .jf),(.var .lE),(.var .kZ)] [])]) [.ex (.gn (.var .l3) .h7 [(.var .jf)] [])] []]]
def Rj:List MS:=[.asg (.one (.var .l3)) (.list []),.for (.one (.var .jf)) (.attr (.iN .gc) .gm) CJ,.hO (.iN .gc) .i3 (.var .l3),.ite (.cmp .Gt (.bi .oM [(.var .l3)]) (.int 0)) [.ex (.gn (.var .gL) .jQ [(.str "changed_file_dep"),(.var .l3)] [])] [],.ret (some (.var .gL))]
def VW:List MS:=[.ite (.or [(.attr (.var .gf) .jB),(.gn (.attr (.var .fU) .gj) .nL [(.var .gc)] [])]) [.hO (.var .gf) .gX (.str "ignore"),.ex (.gn (.attr (.var .fU) .iK) .rY [(.var .gc)] []),.ret (some (.sL false))] [],.ite (.attr (.var .gf) .k4) [.asg (.one (.var .B3)) (.gn (.str " ") .zf [.bad] []),.ex (.gn (.var .fU) .jx [(.var .gf),.bad] []),.ret (some (.sL false))] [],.asg (.one (.var .x6)) (.gn (.attr (.var .fU) .gj) .ou [(.var .gc),(.var .jR)] []),.ite (.cmp .Eq (.attr (.var .x6) .kf) (.str "error")) [.asg (.one (.var .ym)) (.gn (.str "ERROR: Task '{}' checking dependencies: {}") .Ex [(.attr (.var .gc) .gI),(.gn (.var .x6) .m5 [] [])] []),.ex (.gn (.var .fU) .jx [(.var .gf),.bad] []),.ret (some (.sL false))] [],.ite (.attr (.var .fU) .kF) [.hO (.var .gf) .gX (.str "run")] [.hO (.var .gf) .gX (.attr (.var .x6) .kf)],.ite (.cmp .Eq (.attr (.var .gf) .gX) (.str "up-to-date")) [.ex (.gn (.attr (.var .fU) .iK) .pQ [(.var .gc)] []),.hO (.var .gc) .jo (.gn (.attr (.var .fU) .gj) .mM [(.attr (.var .gc) .gI)] []),.ret (some (.sL false))] [],.ite (.attr (.var .gc) .ij) [.ret (some (.sL false))] []]
def RG:List MS:=[.ite (.cmp .Eq (.var .CX) (.str "fail")) [.ret (some .bad)] [],.ite (.cmp .Eq (.var .CX) (.str "error")) [.ret (some .bad)] [],.hO (.var .fU) .gL (.var .gL),.ex (.gn (.attr (.var .fU) .jo) .pb [(.var .jo)] [])]
def Q3:List MS:=[.asg (.one (.var .kZ)) (.gn (.attr (.var .fU) .gV) .uh [(.var .jf),(.gn (.var .fU) .o5 [(.attr (.var .gc) .gI),(.var .jf)] [])] []),.ite (.cmp .IsNot (.var .kZ) .n5) [.ex (.gn (.var .fU) .qg [(.attr (.var .gc) .gI),(.var .jf),(.var .kZ)] [])] []]
def KQ:ME:=.mk .Task [(.bin .Add (.str "t") (.bi .pd [(.var .lS)])),(.list [(.tup [(.str "ok"),(.str "done"),.dict])])] [(.gm,(.idx (.iN .gi) (.var .lS))),(.f9,(.list [(.bin .Add (.str "o") (.bi .pd [(.var .lS)]))]))]
def Qk:List MS:=[.ite (.and [(.cmp .In (.var .jf) (.var .f9)),(.cmp .NotIn (.idx (.var .f9) (.var .jf)) (.attr (.var .gc) .gr))]) [.ex (.gn (.attr (.var .gc) .gr) .h7 [(.idx (.var .f9) (.var .jf))] [])] []]
def NN:List MS:=[.ite (.not (.Fz (.var .gc) (.ref 748))) [.asg (.one (.var .ym)) (.str "Task must be an instance of Task class."),.bad] [],.ite (.cmp .In (.attr (.var .gc) .gI) (.attr (.var .fU) .iw)) [.asg (.one (.var .ym)) (.str "Task names must be unique. %s"),.bad] [],.sets (.attr (.var .fU) .iw) (.attr (.var .gc) .gI) (.var .gc),.ex (.gn (.attr (.var .fU) .iJ) .h7 [(.attr (.var .gc) .gI)] [])]
def NA:List MS:=[.ite (.cmp .In (.var .mA) (.var .f9)) [.asg (.one (.var .ym)) (.str "Two different tasks can't have a common target.'%s' is a target for %s and %s."),.bad] [],.sets (.var .f9) (.var .mA) (.attr (.var .gc) .gI)]
def WJ:List MS:=[.asg (.one (.var .ot)) (.gn (.var .uA) .Fv [(.int 0)] []),.ite (.cmp .In (.str "*") (.var .ot)) [.for (.one (.var .iF)) (.gn (.iN .fU) .nM [(.var .ot)] []) [.ex (.AP .gE [(.tup []),(.var .iF)])]] [.asg (.one (.var .uA)) (.AP .gE [(.var .uA),(.var .ot)])]]
def My:List MS:=[.ite (.cmp .In (.var .si) (.attr (.var .fU) .iw)) [.ex (.gn (.var .kY) .h7 [(.var .si)] []),.cont] [],.ite (.cmp .In (.var .si) (.attr (.var .fU) .f9)) [.ex (.gn (.var .kY) .h7 [(.idx (.attr (.var .fU) .f9) (.var .si))] []),.cont] [],.bad]
def F9:List MS:=[.ex (.gn (.var .hY) .l9 [(.var .gf),(.var .uj)] []),.ex (.gn (.iN .gZ) .h7 [(.iN .lS)] []),.ite (.and [(.cmp .Eq (.var .oA) (.var .og)),(.cmp .Eq (.var .wX) (.int 2))]) [.ret (some (.tup [(.str "cut"),(.var .hJ),.n5]))] [],.asg (.one (.var .oA)) (.bin .Add (.var .oA) (.int 1))]
def zV:MS:=.ite (.cmp .Is (.var .gf) .n5) [.ret (some (.tup [(.str "whole"),(.var .hJ),(.gn (.var .hY) .E8 [] [])]))] []
def zS:MS:=.ite (.cmp .NotEq (.gn (.var .hY) .vw [(.var .gf),(.attr (.var .qc) .iw)] []) (.cmp .NotIn (.iN .lS) (.iN .gZ))) [.ret (some (.tup [(.str "wrong"),(.var .hJ),.n5]))] []
def vK:MS:=.ite (.cmp .In (.iN .lS) (.iN .gZ)) [.cont] []
def IQ:List MS:=Ir 0 .n5::FQ (Dh (Ir 1 (.iN .lS)::F9))
def Qp:MS:=.asg (.one (.var .gf)) (.gn (.var .qc) .Lv [(.var .gf)] [])
def QJ:List MS:=Qp::zV::g_num (zS::vK::IQ)
def S9:List MS:=[.for (.one (.var .FE)) (.bi .km [(.bin .Add (.bin .Mult (.int 2) (.bi .oM [(.iN .gi)])) (.int 2))]) QJ,.ret (some (.tup [(.str "wrong"),(.var .hJ),.n5]))]
def FF:ME:=.bi .lR [(.comp (.tup [(.bin .Mod (.var .iW) (.int 89)),(.var .lS)]) (.tup [(.var .lS),(.var .iW)]) (.bi .ry [(.var .iE)]) [])]
def C2:MS:=.asg (.one (.var .yO)) (.yb (.var .hV) none (some (.gn (.var .hV) .HS [(.var .lS)] [])))
def GP:MS:=.asg (.one (.iN .wa)) (.bin .FloorDiv (.bi .x4 [(.idx (.var .iE) (.var .lS))]) (.int 89))
def MF:MS:=.asg (.one (.var .mB)) (.comp (.bin .Add (.str "s") (.bi .pd [(.var .zg)])) (.one (.var .zg)) (.bi .km [(.int 3)]) [(.cmp .Eq (.bin .Mod (.bin .FloorDiv (.iN .wa) (.bin .Pow (.int 2) (.var .zg))) (.int 2)) (.int 1))])
def Md:MS:=.asg (.one (.var .mB)) (.bin .Add (.var .mB) (.comp (.bin .Add (.str "o") (.bi .pd [(.var .zg)])) (.tup [(.var .og),(.var .zg)]) (.bi .ry [(.var .yO)]) [(.cmp .Eq (.bin .Mod (.bin .FloorDiv (.bin .FloorDiv (.iN .wa) (.int 8)) (.bin .Pow (.int 2) (.var .og))) (.int 2)) (.int 1))]))
def II:MS:=.ex (.gn (.var .gi) .h7 [(.ite (.cmp .NotEq (.var .mB) (.list [])) (.var .mB) (.list [(.str "s0")]))] [])
def V1:List MS:=[.ite (.cmp .In (.iN .lS) (.iN .ji)) [.asg (.one (.iN .ji)) (.bin .Add (.iN .ji) (.comp (.var .zg) (.one (.var .zg)) (.bi .km [(.bi .oM [(.iN .gi)])]) [(.and [(.cmp .In (.bin .Add (.str "o") (.bi .pd [(.var .zg)])) (.idx (.iN .gi) (.iN .lS))),(.cmp .NotIn (.var .zg) (.iN .ji))])]))] []]
def T8:MS:=.ite (.or [(.cmp .Eq (.var .uy) (.str "wrong")),(.cmp .NotEq (.comp (.var .lS) (.one (.var .lS)) (.var .hJ) [(.cmp .NotIn (.var .lS) (.iN .ji))]) (.list []))]) [.ret (some (.sL false))] []
def RV:MS:=.ite (.and [(.cmp .Eq (.var .uy) (.str "whole")),(.or [(.cmp .NotEq (.bi .lR [(.var .hJ)]) (.iN .ji)),(.cmp .NotEq (.var .tv) (.int 0))])]) [.ret (some (.sL false))] []
def S7:MS:=.ite (.and [(.cmp .Eq (.var .uy) (.str "cut")),(.cmp .IsNot (.var .tv) .n5)]) [.sets (.var .mV) (.var .tv) (.bin .Add (.idx (.var .mV) (.var .tv)) (.int 1))] []
def R7:MS:=.ite (.cmp .NotEq (.yb (.var .gZ) none (some (.bi .oM [(.var .je)]))) (.var .je)) [.ret (some (.sL false))] []
def Qq:MS:=.asg (.one (.var .je)) (.bi .nQ [(.var .gZ)])
def LU:MS:=.asg (.tup [(.var .uy),(.var .hJ),(.var .tv)]) (.fn .rD [(.var .kZ),(.var .gi),(.var .i7),(.bin .Mod (.bin .FloorDiv (.bi .x4 [(.var .iW)]) (.int 27)) (.int 5)),(.bin .Mod (.bin .FloorDiv (.bi .x4 [(.var .iW)]) (.int 9)) (.int 3))] [])
def Ks:MS:=.asg (.one (.iN .ji)) (.fn .rX [(.var .gi),(.var .hV),(.var .i7)] [])
def Wf:List MS:=[.asg (.one (.var .i7)) (.ite (.cmp .NotEq (.bin .Mod (.var .iW) (.int 3)) (.int 0)) (.var .h9) (.list [(.bin .Mod (.bin .FloorDiv (.bi .x4 [(.var .iW)]) (.int 3)) (.bi .oM [(.var .gi)]))])),Qq,LU,Ks,T8,RV,S7,R7]
def SX:List MS:=[.asg (.tup [(.var .uy),(.var .hJ),(.var .tv)]) (.fn .rD [(.var .kZ),(.var .gi),(.var .h9),(.int 99),(.int 0)] []),.ite (.or [(.cmp .NotEq (.var .uy) (.str "whole")),(.cmp .NotEq (.bi .lR [(.var .hJ)]) (.var .h9)),(.cmp .NotEq (.var .tv) (.int 0)),(.cmp .NotEq (.bi .lR [(.var .gZ)]) (.var .h9)),(.cmp .NotEq (.var .kb) (.var .mV))]) [.ret (some (.sL false))] []]
def Hg:MS:=.asg (.one (.var .rz)) (.ite (.var .hH) (.bin .Mod (.bi .x4 [(.idx (.var .hH) (.int 0))]) (.int 2)) (.int 0))
def Rm:MS:=.asg (.one (.var .iE)) (.ite (.cmp .Gt (.bi .oM [(.var .hH)]) (.int 1)) (.yb (.var .hH) (some (.int 1)) (some (.int 7))) (.list [(.int 5),(.int 800),(.int 1513)]))
def M6:MS:=.asg (.tup [(.var .gi),(.var .hV)]) (.fn .vV [(.var .iE)] [])
def VI:List MS:=[.sets (.iN .gF) (.bin .Add (.str "s") (.bi .pd [(.var .zg)])) (.tup [(.var .zg),(.int 1),(.idx (.str "xyz") (.var .zg))])]
def Lz:MS:=.for (.one (.var .zg)) (.bi .km [(.int 3)]) VI
def HO:MS:=.asg (.one (.iN .gF)) .dict
def Hv:MS:=.asg (.one (.var .gZ)) (.list [])
def HI:MS:=.asg (.one (.var .kZ)) (.tup [(.iN .gF),.dict,(.var .rz),(.list [(.int 10)]),(.var .gZ),(.var .kb)])
def HG:MS:=.asg (.one (.var .h9)) (.bi .nQ [(.bi .km [(.bi .oM [(.var .gi)])])])
def Sy:List MS:=[.sets (.iN .j3) (.bin .Add (.str "s") (.bi .pd [(.var .zg)])) (.idx (.str "xyz") (.var .zg))]
def Gy:MS:=.for (.one (.var .zg)) (.bi .km [(.int 3)]) Sy
def Lh:ME:=.comp (.idx (.iN .j3) (.var .pK)) (.one (.var .pK)) (.idx (.var .gi) (.var .lS)) []
def Ta:List MS:=[.sets (.iN .j3) (.bin .Add (.str "o") (.bi .pd [(.var .lS)])) (.fn .qR [(.var .lS),Lh] [])]
def M1:MS:=.for (.one (.var .lS)) (.var .hV) Ta
def Kq:MS:=.asg (.one (.iN .j3)) .dict
def L9:MS:=.ret (some (.cmp .Eq (.comp (.var .pK) (.one (.var .pK)) (.iN .j3) [(.cmp .NotEq (.idx (.idx (.iN .gF) (.var .pK)) (.int 2)) (.idx (.iN .j3) (.var .pK)))]) (.list [])))
def Kv:MS:=.for (.one (.var .iW)) (.yb (.var .hH) (some (.int 7)) (some (.int 15))) Wf
def Hn:MS:=.for (.one (.var .Np)) (.bi .km [(.int 2)]) SX
def yE:List MS:=[.hO (.var .fU) .iO (.var .oD)]
def yB:List MS:=[.ret (some .n5)]
def y5:List MS:=[.ite (.cmp .NotIn (.var .i8) (.attr (.var .fU) .iO)) [.sets (.attr (.var .fU) .iO) (.var .i8) .dict] [],.sets (.idx (.attr (.var .fU) .iO) (.var .i8)) (.var .k0) (.var .u4)]
def AJ:List MS:=[.ite (.cmp .In (.var .i8) (.attr (.var .fU) .iO)) [.ret (some (.gn (.idx (.attr (.var .fU) .iO) (.var .i8)) .E5 [(.var .k0),.n5] []))] []]
def qp:List MS:=[.hO (.var .fU) .kD (.var .kD)]
def pf:List MS:=[.ret (some (.cmp .In (.var .lC) (.attr (.var .fU) .kD)))]
def qj:List MS:=[.ite (.cmp .NotIn (.var .lC) (.attr (.var .fU) .kD)) [.bad] [],.ret (some (.idx (.attr (.var .fU) .kD) (.var .lC)))]
def pG:List MS:=[.asg (.tup [(.var .pC),(.var .C8),(.var .Ay)]) (.var .kZ),.ite (.cmp .Eq (.idx (.var .lE) (.int 0)) (.var .pC)) [.ret (some (.sL false))] [],.ite (.cmp .NotEq (.idx (.var .lE) (.int 1)) (.var .C8)) [.ret (some (.sL true))] [],.ret (some (.cmp .NotEq (.var .Ay) (.idx (.gn (.var .fU) .oR [(.var .lC)] []) (.int 2))))]
def rN:List MS:=[.asg (.one (.var .pC)) (.idx (.gn (.var .fU) .oR [(.var .jf)] []) (.int 0)),.ite (.and [(.var .nK),(.cmp .Eq (.idx (.var .nK) (.int 0)) (.var .pC))]) [.ret none] [],.asg (.one (.var .C8)) (.idx (.gn (.var .fU) .oR [(.var .jf)] []) (.int 1)),.asg (.one (.var .Q6)) (.idx (.gn (.var .fU) .oR [(.var .jf)] []) (.int 2)),.ret (some (.tup [(.var .pC),(.var .C8),(.var .Q6)]))]
def ny:List MS:=[.ret (some (.cmp .NotEq (.idx (.var .lE) (.int 0)) (.var .kZ)))]
def oS:List MS:=[.ret (some (.idx (.gn (.var .fU) .oR [(.var .jf)] []) (.int 0)))]
def rb:List MS:=[.hO (.var .fU) .jj (.var .jj),.hO (.var .fU) .kf (.str "up-to-date"),.hO (.var .fU) .qx .dict,.hO (.var .fU) .uM .n5]
def oB:List MS:=[.hO (.var .fU) .kf (.var .kf),.ite (.attr (.var .fU) .jj) [.ite (.cmp .NotIn (.var .sG) (.attr (.var .fU) .qx)) [.sets (.attr (.var .fU) .qx) (.var .sG) (.list [])] [],.ex (.gn (.idx (.attr (.var .fU) .qx) (.var .sG)) .h7 [(.var .gU)] [])] [],.ret (some (.not (.attr (.var .fU) .jj)))]
def oE:List MS:=[.hO (.var .fU) .kf (.str "run"),.ite (.attr (.var .fU) .jj) [.sets (.attr (.var .fU) .qx) (.var .sG) (.var .gU)] [],.ret (some (.not (.attr (.var .fU) .jj)))]
def vm:List MS:=[.hO (.var .fU) .qJ (.sL false),.hO (.var .fU) .gV (.var .gV),.hO (.var .fU) .j5 (.var .j5)]
def vN:List MS:=[.ex (.gn (.attr (.var .fU) .j5) .Rx [(.var .i8),(.var .k0),(.var .u4)] [])]
def vP:List MS:=[.ret (some (.gn (.attr (.var .fU) .j5) .E5 [(.var .i8),(.var .k0)] []))]
def uR:List MS:=[.ite (.not (.attr (.var .fU) .qJ)) [.ex (.gn (.attr (.var .fU) .j5) .MH [] []),.hO (.var .fU) .qJ (.sL true)] []]
def qe:List MS:=[.ex (.gn (.var .fU) .qg [(.attr (.var .gc) .gI),(.str "_values_:"),(.attr (.var .gc) .jo)] []),.ite (.cmp .IsNot (.var .rS) .n5) [.ex (.gn (.var .fU) .qg [(.attr (.var .gc) .gI),(.str "result:"),(.var .rS)] [])] [.ite (.attr (.var .gc) .gL) [.ite (.Fz (.attr (.var .gc) .gL) (.type "dict")) [.ex (.gn (.var .fU) .qg [(.attr (.var .gc) .gI),(.str "result:"),(.attr (.var .gc) .gL)] [])] [.ex (.gn (.var .fU) .qg [(.attr (.var .gc) .gI),(.str "result:"),(.fn .JV [(.attr (.var .gc) .gL)] [])] [])]] []],.ex (.gn (.var .fU) .qg [(.attr (.var .gc) .gI),(.str "checker:"),(.attr (.attr (.var .fU) .gV) .gI)] []),.for (.one (.var .jf)) (.attr (.var .gc) .gm) Q3,.ex (.gn (.var .fU) .qg [(.attr (.var .gc) .gI),(.str "deps:"),(.bi .Ip [(.attr (.var .gc) .gm)])] [])]
def rh:List MS:=[.asg (.one (.var .jo)) (.gn (.var .fU) .o5 [(.var .iF),(.str "_values_:")] []),.ret (some (.or [(.var .jo),.dict]))]
def oC:List MS:=[.ret (some (.gn (.var .fU) .o5 [(.attr (.var .gc) .gI),(.str "ignore:")] []))]
def rf:List MS:=[.asg (.one (.var .gL)) (.mk .gQ [(.var .jj)] []),.hO (.iN .gc) .i3 (.list []),.asg (.one (.var .jg)) (.list []),.for (.tup [(.var .tO),(.var .tG),(.var .qv)]) (.attr (.iN .gc) .iI) [.ite (.Fz (.var .tO) (.ref 559)) [.ex (.gn (.var .tO) .yX [(.var .fU),(.var .jR)] []),.asg (.one (.var .iT)) (.gn (.var .tO) .LD [(.iN .gc),(.gn (.var .fU) .mM [(.attr (.iN .gc) .gI)] [])] [])] [.asg (.one (.var .iT)) (.var .tO)],.ite (.cmp .Is (.var .iT) .n5) [.cont] [],.ex (.gn (.var .jg) .h7 [(.var .iT)] []),.ite (.not (.var .iT)) [.ex (.gn (.var .gL) .qh [(.str "uptodate_false"),(.tup [(.var .tO),(.var .tG),(.var .qv)])] [])] []],.ite (.and [(.not (.var .jj)),(.cmp .Eq (.attr (.var .gL) .kf) (.str "run"))]) [.ret (some (.var .gL))] [],.ite (.not (.or [(.attr (.iN .gc) .gm),(.var .jg)])) [.ite (.gn (.var .gL) .jQ [(.str "has_no_dependencies"),(.sL true)] []) [.ret (some (.var .gL))] []] [],KJ,.asg (.one (.var .jt)) (.gn (.var .fU) .o5 [(.attr (.iN .gc) .gI),(.str "checker:")] []),.asg (.one (.var .ly)) (.attr (.attr (.var .fU) .gV) .gI),.ite (.and [(.var .jt),(.cmp .NotEq (.var .jt) (.var .ly))]) [.hO (.iN .gc) .i3 (.bi .nQ [(.attr (.iN .gc) .gm)]),.ex (.gn (.var .fU) .qy [(.attr (.iN .gc) .gI)] []),.ite (.gn (.var .gL) .jQ [(.str "checker_changed"),(.tup [(.var .jt),(.var .ly)])] []) [.ret (some (.var .gL))] []] [],.asg (.one (.var .jt)) (.gn (.var .fU) .o5 [(.attr (.iN .gc) .gI),(.str "deps:")] []),.asg (.one (.iN .jb)) (.ite (.var .jt) (.bi .wF [(.var .jt)]) .n5),.ite (.and [(.iN .jb),(.cmp .NotEq (.iN .jb) (.bi .wF [(.attr (.iN .gc) .gm)]))]) [.ite (.var .jj) [.asg (.one (.var .o6)) (.bi .lR [(.comp (.var .jf) (.one (.var .jf)) (.attr (.iN .gc) .gm) [(.cmp .NotIn (.var .jf) (.iN .jb))])]),.asg (.one (.var .nJ)) (.bi .lR [(.comp (.var .jf) (.one (.var .jf)) (.var .jt) [(.cmp .NotIn (.var .jf) (.attr (.iN .gc) .gm))])]),.ex (.gn (.var .gL) .jQ [(.str "added_file_dep"),(.var .o6)] []),.ex (.gn (.var .gL) .jQ [(.str "removed_file_dep"),(.var .nJ)] [])] [],.hO (.var .gL) .kf (.str "run")] [],.asg (.one (.var .l3)) (.list []),.for (.one (.var .jf)) (.attr (.iN .gc) .gm) CJ,.hO (.iN .gc) .i3 (.var .l3),.ite (.cmp .Gt (.bi .oM [(.var .l3)]) (.int 0)) [.ex (.gn (.var .gL) .jQ [(.str "changed_file_dep"),(.var .l3)] [])] [],.ret (some (.var .gL))]
def yA:List MS:=[.hO (.var .fU) .gj (.var .gj),.hO (.var .fU) .iK (.var .iK),.hO (.var .fU) .tB (.var .tB),.hO (.var .fU) .kF (.var .kF),.hO (.var .fU) .qP (.int 0),.hO (.var .fU) .sC (.sL false)]
def rV:List MS:=[.ex (.gn (.var .gc) .oy [] []),.Uo .jd,.for (.tup [(.var .gU),(.var .u4)]) (.gn (.attr (.var .gc) .j4) .qo [] []) [.asg (.tup [(.var .i8),(.var .nP)]) (.var .u4),.ite (.attr (.idx (.var .jR) (.var .i8)) .nF) [.asg (.one (.var .rM)) .dict,.asg (.one (.var .z8)) (.bin .Add (.bi .oM [(.var .i8)]) (.int 1)),.for (.one (.var .zm)) (.attr (.idx (.var .jR) (.var .i8)) .gr) [.asg (.one (.var .gI)) (.yb (.var .zm) (some (.var .z8)) none),.sets (.var .rM) (.var .gI) (.AP .jd [(.var .zm),(.var .nP)])]] [.asg (.one (.var .rM)) (.AP .jd [(.var .i8),(.var .nP)])],.sets (.attr (.var .gc) .kG) (.var .gU) (.var .rM)]]
def tA:List MS:=[.asg (.one (.var .gc)) (.attr (.var .gf) .gc),.ite (.cmp .Is (.attr (.var .gf) .gX) .n5) [.ex (.gn (.attr (.var .fU) .iK) .ou [(.var .gc)] []),.ite (.or [(.attr (.var .gf) .jB),(.gn (.attr (.var .fU) .gj) .nL [(.var .gc)] [])]) [.hO (.var .gf) .gX (.str "ignore"),.ex (.gn (.attr (.var .fU) .iK) .rY [(.var .gc)] []),.ret (some (.sL false))] [],.ite (.attr (.var .gf) .k4) [.asg (.one (.var .B3)) (.gn (.str " ") .zf [.bad] []),.ex (.gn (.var .fU) .jx [(.var .gf),.bad] []),.ret (some (.sL false))] [],.asg (.one (.var .x6)) (.gn (.attr (.var .fU) .gj) .ou [(.var .gc),(.var .jR)] []),.ite (.cmp .Eq (.attr (.var .x6) .kf) (.str "error")) [.asg (.one (.var .ym)) (.gn (.str "ERROR: Task '{}' checking dependencies: {}") .Ex [(.attr (.var .gc) .gI),(.gn (.var .x6) .m5 [] [])] []),.ex (.gn (.var .fU) .jx [(.var .gf),.bad] []),.ret (some (.sL false))] [],.ite (.attr (.var .fU) .kF) [.hO (.var .gf) .gX (.str "run")] [.hO (.var .gf) .gX (.attr (.var .x6) .kf)],.ite (.cmp .Eq (.attr (.var .gf) .gX) (.str "up-to-date")) [.ex (.gn (.attr (.var .fU) .iK) .pQ [(.var .gc)] []),.hO (.var .gc) .jo (.gn (.attr (.var .fU) .gj) .mM [(.attr (.var .gc) .gI)] []),.ret (some (.sL false))] [],.ite (.attr (.var .gc) .ij) [.ret (some (.sL false))] []] [.Bc (.cmp .Eq (.attr (.var .gf) .gX) (.str "run")),.Bc (.attr (.var .gc) .ij)],.tr [.ex (.gn (.var .fU) .rm [(.var .gc),(.var .jR)] [])] [],.ret (some (.sL true))]
def sy:List MS:=[.ex (.gn (.attr (.var .fU) .iK) .mC [(.var .gc)] []),.ret (some (.gn (.var .gc) .BX [.n5] []))]
def oV:List MS:=[.asg (.one (.var .gc)) (.attr (.var .gf) .gc),.ite (.cmp .Is (.var .ui) .n5) [.ex (.gn (.var .gc) .qb [] []),.tr [.ex (.gn (.attr (.var .fU) .gj) .uO [(.var .gc)] [])] [.hO (.var .gf) .gX (.str "successful"),.ex (.gn (.attr (.var .fU) .iK) .vE [(.var .gc)] []),.ret none]] [],.ex (.gn (.var .fU) .jx [(.var .gf),(.var .ui)] [])]
def wM:List MS:=[.ex (.gn (.attr (.var .fU) .gj) .HR [] []),.ex (.gn (.attr (.var .fU) .iK) .uB [] []),.ret (some (.attr (.var .fU) .qP))]
def A1:List MS:=[.asg (.one (.var .j4)) (.or [(.var .j4),.dict]),.ite (.cmp .In (.str "=") (.var .gI)) [.bad] [],.hO (.var .fU) .gI (.var .gI),.hO (.var .fU) .kG .n5,.hO (.var .fU) .ij (.bi .nQ [(.var .yX)]),.ite (.cmp .Is (.var .jK) .n5) [.hO (.var .fU) .jK (.list [])] [.hO (.var .fU) .jK (.bi .nQ [(.yb (.var .jK) none none)])],.ex (.gn (.var .fU) .vG [(.var .gm),(.var .gr),(.var .gy)] []),.asg (.one (.var .iI)) (.ite (.var .iI) (.var .iI) (.list [])),.hO (.var .fU) .j4 (.var .j4),.ite (.attr (.var .fU) .j4) [.ex (.gn (.var .iI) .uc [(.gn (.var .fU) .r9 [] [])] [])] [],.hO (.var .fU) .kL (.list []),.hO (.var .fU) .iI (.gn (.var .fU) .rL [(.var .iI)] []),.hO (.var .fU) .f9 (.gn (.var .fU) .sA [(.var .f9)] []),.hO (.var .fU) .qq (.var .qq),.hO (.var .fU) .nF (.var .nF),.hO (.var .fU) .gL .n5,.hO (.var .fU) .jo .dict,.hO (.var .fU) .qC (.sL false)]
def vI:List MS:=[.hO (.var .fU) .i3 .n5,.hO (.var .fU) .gm (.list []),.ex (.gn (.var .fU) .mY [(.var .gm)] []),.hO (.var .fU) .gr (.list []),.hO (.var .fU) .kM (.list []),.ite (.var .gr) [.ex (.gn (.var .fU) .p8 [(.var .gr)] [])] [],.hO (.var .fU) .gy (.list []),.ite (.var .gy) [.ex (.gn (.var .fU) .p6 [(.var .gy)] [])] []]
def tP:List MS:=[.asg (.one (.var .f9)) (.list []),.for (.one (.var .mA)) (.var .qo) [.ite (.Fz (.var .mA) (.type "str")) [.ex (.gn (.var .f9) .h7 [(.var .mA)] [])] [.bad]],.ret (some (.var .f9))]
def sT:List MS:=[.asg (.one (.var .iI)) (.list []),.for (.one (.var .xG)) (.var .qo) [.ite (.Fz (.var .xG) (.ref 805)) [.ex (.gn (.var .xG) .xI [(.var .fU)] [])] [],.ite .bad [.ex (.gn (.var .iI) .h7 [(.tup [(.var .xG),.n5,.n5])] [])] [.ite (.Fz (.var .xG) (.ref 805)) [.ex (.gn (.var .iI) .h7 [(.tup [(.var .xG),(.list []),.dict])] [])] [.bad]]],.ret (some (.var .iI))]
def rQ:List MS:=[.for (.one (.var .jf)) (.var .gm) [.ite (.Fz (.var .jf) (.type "str")) [.ite (.cmp .NotIn (.var .jf) (.attr (.var .fU) .gm)) [.ex (.gn (.attr (.var .fU) .gm) .h7 [(.var .jf)] [])] []] [.bad]]]
def tW:List MS:=[.ite (.cmp .Is (.attr (.var .fU) .kG) .n5) [.hO (.var .fU) .kG .dict,.ret (some (.var .n9))] []]
def qO:List MS:=[.for (.tup [(.var .jf),(.var .FH)]) (.attr (.var .fU) .kL) [.ex (.gn (.attr (.var .fU) .jo) .pb [.bad] [])]]
def xV:List MS:=[.hO (.var .fU) .qC (.sL true),.ex (.gn (.var .fU) .oy [] []),.for (.tup [(.var .CX),(.var .gL),(.var .jo)]) (.attr (.var .fU) .jK) RG]
def uE:List MS:=[.hO (.var .fU) .iw .dict,.hO (.var .fU) .f9 .dict,.hO (.var .fU) .iJ (.list []),.hO (.var .fU) .gk .n5,.for (.one (.var .gc)) (.var .iz) NN,.for (.one (.var .gc)) (.gn (.attr (.var .fU) .iw) .jo [] []) [.for (.one (.var .BD)) (.attr (.var .gc) .kM) [.ex (.gn (.attr (.var .gc) .gr) .uc [(.gn (.var .fU) .nM [(.var .BD)] [])] [])]],.ex (.gn (.var .fU) .qa [] []),.ex (.gn (.var .fU) .k8 [(.attr (.var .fU) .f9),(.var .iz)] [])]
def oG:List MS:=[.for (.one (.var .gc)) (.gn (.attr (.var .fU) .iw) .jo [] []) [.for (.one (.var .jf)) (.attr (.var .gc) .gr) [.ite (.cmp .NotIn (.var .jf) (.attr (.var .fU) .iw)) [.asg (.one (.var .ym)) .bad,.bad] []],.for (.one (.var .ql)) (.attr (.var .gc) .ij) [.ite (.cmp .NotIn (.var .ql) (.attr (.var .fU) .iw)) [.asg (.one (.var .ym)) .bad,.bad] []]]]
def nY:List MS:=[.for (.one (.var .gc)) (.var .iz) [.for (.one (.var .mA)) (.attr (.var .gc) .f9) NA],.for (.one (.var .gc)) (.var .iz) [.ex (.fn .il [(.var .f9),(.var .gc),(.attr (.var .gc) .gm)] [])]]
def mN:List MS:=[.for (.one (.var .jf)) (.var .yq) Qk]
def oO:List MS:=[.asg (.one (.iN .jz)) (.list []),.Uo .gE,.asg (.one (.var .uA)) (.yb (.var .j9) none none),.wh (.var .uA) WJ,.ret (some (.iN .jz))]
def pU:List MS:=[.asg (.one (.var .kY)) (.list []),.asg (.one (.var .jz)) (.gn (.var .fU) .q9 [(.var .j9)] []),.for (.one (.var .si)) (.var .jz) My,.ret (some (.var .kY))]
def sF:List MS:=[.ite (.cmp .IsNot (.var .j9) .n5) [.hO (.var .fU) .gk (.gn (.var .fU) .sx [(.var .j9)] [])] [.hO (.var .fU) .gk (.attr (.var .fU) .iJ)]]
def oF:List MS:=[.Bc (.cmp .IsNot (.attr (.var .fU) .gk) .n5),.ret (some (.mk .kQ [(.attr (.var .fU) .iw),(.attr (.var .fU) .f9),(.attr (.var .fU) .gk)] []))]
def xm:List MS:=[.hO (.var .fU) .gc (.var .gc),.hO (.var .fU) .gr (.yb (.attr (.var .gc) .gr) none none),.hO (.var .fU) .gy (.yb (.attr (.var .gc) .gy) none none),.hO (.var .fU) .iG (.list []),.ite (.var .lg) [.ex (.gn (.attr (.var .fU) .iG) .uc [(.attr (.var .lg) .iG)] [])] [],.ex (.gn (.attr (.var .fU) .iG) .h7 [(.attr (.var .gc) .gI)] []),.hO (.var .fU) .nE (.sL false),.hO (.var .fU) .iS (.bi .wF []),.hO (.var .fU) .gN (.bi .wF []),.hO (.var .fU) .jT .dict,.hO (.var .fU) .gX .n5,.hO (.var .fU) .k4 (.list []),.hO (.var .fU) .jB (.list []),.hO (.var .fU) .nI (.int 0)]
def qB:List MS:=[.ite (.cmp .Eq (.attr (.var .nx) .gX) (.str "failure")) [.ex (.gn (.attr (.var .fU) .k4) .h7 [(.var .nx)] [])] [.ite (.cmp .Eq (.attr (.var .nx) .gX) (.str "ignore")) [.ex (.gn (.attr (.var .fU) .jB) .h7 [(.var .nx)] [])] []]]
def sf:List MS:=[.hO (.var .fU) .iw (.var .iw),.hO (.var .fU) .f9 (.var .f9),.hO (.var .fU) .gk (.var .gk),.hO (.var .fU) .lK .dict,.hO (.var .fU) .jy .dict,.hO (.var .fU) .ku (.list []),.hO (.var .fU) .h8 (.bi .nQ [(.bi .zQ [(.var .gk)])]),.hO (.var .fU) .gf .n5]
def qm:List MS:=[.asg (.one (.var .gf)) (.gn (.attr (.var .fU) .lK) .E5 [(.var .iF),.n5] []),.ite (.cmp .Is (.var .gf) .n5) [.asg (.one (.var .gf)) (.mk .lq [(.idx (.attr (.var .fU) .iw) (.var .iF)),(.var .lg)] []),.sets (.attr (.var .fU) .lK) (.var .iF) (.var .gf),.ret (some (.var .gf))] [],.ite (.and [(.var .lg),(.cmp .In (.var .iF) (.attr (.var .lg) .iG))]) [.asg (.one (.var .ym)) (.str "Cyclic/recursive dependencies for task %s: [%s]"),.asg (.one (.var .Oz)) (.gn (.str " -> ") .zf [(.bin .Add (.attr (.var .lg) .iG) (.list [(.var .iF)]))] []),.bad] [],.ret (some .n5)]
def pP:List MS:=[.asg (.one (.var .vY)) (.gn (.var .fU) .sZ [(.var .lg),(.var .iF)] []),.ite (.cmp .IsNot (.var .vY) .n5) [.ex (.gn (.attr (.var .fU) .ku) .h7 [(.var .vY)] [])] []]
def mX:List MS:=[.asg (.one (.var .lJ)) (.list []),.for (.one (.var .gI)) (.var .iz) HW,.for (.one (.var .gI)) (.var .lJ) Ht,.ite (.var .v3) [.ex (.gn (.attr (.var .gf) .gN) .pb [(.var .lJ)] [])] [.ex (.gn (.attr (.var .gf) .iS) .pb [(.var .lJ)] [])]]
def qd:List MS:=[.asg (.one (.var .pz)) (.attr (.var .gf) .gc),.wh (.cmp .Eq (.attr (.var .gf) .nI) (.int 0)) [.asg (.one (.var .jV)) (.attr (.var .gf) .gy),.hO (.var .gf) .gy (.list []),.asg (.one (.var .jG)) (.yb (.attr (.var .gf) .gr) none none),.hO (.var .gf) .gr (.list []),.for (.one (.var .gy)) (.var .jV) [.ex (.gn (.var .fU) .l5 [(.var .gf),(.var .gy)] [])],.ex (.gn (.var .fU) .j2 [(.var .gf),(.var .jV)] [(.v3,(.sL true))]),.for (.one (.var .gr)) (.var .jG) [.ex (.gn (.var .fU) .l5 [(.var .gf),(.var .gr)] [])],.ex (.gn (.var .fU) .j2 [(.var .gf),(.var .jG)] []),.ite (.or [(.attr (.var .gf) .gy),(.attr (.var .gf) .gr)]) [.cont] [.ite (.or [(.attr (.var .gf) .iS),(.attr (.var .gf) .gN)]) [.ret (some (.str "wait"))] [.hO (.var .gf) .nI (.int 1),.ret (some (.str "task"))]]],.ite (.attr (.var .pz) .ij) [.ite (.cmp .Eq (.attr (.var .gf) .nI) (.int 1)) [.hO (.var .gf) .nI (.int 2),.ite (.cmp .Is (.attr (.var .gf) .gX) .n5) [.hO (.var .gf) .nE (.sL true),.ret (some (.str "wait"))] []] [],.ite (.and [(.cmp .Eq (.attr (.var .gf) .nI) (.int 2)),(.cmp .Eq (.attr (.var .gf) .gX) (.str "run"))]) [.for (.one (.var .ql)) (.attr (.var .pz) .ij) [.ex (.gn (.var .fU) .l5 [(.var .gf),(.var .ql)] [])],.ex (.gn (.var .fU) .j2 [(.var .gf),(.attr (.var .pz) .ij)] []),.hO (.var .gf) .nI (.int 3),.ite (.attr (.var .gf) .iS) [.ret (some (.str "wait"))] []] [],.ite (.cmp .Eq (.attr (.var .gf) .nI) (.int 3)) [.hO (.var .gf) .nI (.int 4),.ret (some (.str "task"))] []] [],.ret (some .n5)]
def n8:List MS:=[.ite (.var .ku) [.ret (some (.gn (.var .ku) .Fv [(.int 0)] []))] [],.wh (.var .h8) [.asg (.one (.var .iF)) (.gn (.var .h8) .Fv [] []),.asg (.one (.var .gf)) (.gn (.var .fU) .sZ [.n5,(.var .iF)] []),.ite (.var .gf) [.ret (some (.var .gf))] []],.ret (some .n5)]
def nZ:List MS:=[.ite (.cmp .Is (.var .pg) .n5) [.ret none] [],.asg (.one (.var .gf)) (.var .pg),.ite (.attr (.var .gf) .nE) [.ex (.gn (.attr (.var .fU) .ku) .h7 [(.var .gf)] []),.J8 (.attr (.var .fU) .jy) (.attr (.attr (.var .gf) .gc) .gI),.hO (.var .gf) .nE (.sL false)] [],.ite (.cmp .Eq (.attr (.var .gf) .gX) (.str "run")) [.ret none] [],.for (.one (.var .iR)) (.bi .nQ [(.gn (.attr (.var .gf) .jT) .jo [] [])]) RE]
def r5:List MS:=[.ex (.gn (.var .fU) .qN [(.var .pg)] []),.wh (.sL true) [Cq,.asg (.one (.var .lH)) (.gn (.var .fU) .tH [(.attr (.var .fU) .gf)] []),.ite (.cmp .Is (.var .lH) .n5) [.hO (.var .fU) .gf .n5,.cont] [],.ite (.cmp .Eq (.var .lH) (.str "task")) [.ret (some (.attr (.var .fU) .gf))] [],.Bc (.cmp .Eq (.var .lH) (.str "wait")),.sets (.attr (.var .fU) .jy) (.attr (.attr (.attr (.var .fU) .gf) .gc) .gI) (.attr (.var .fU) .gf),.hO (.var .fU) .gf .n5]]
def tR:List MS:=[.hO (.var .fU) .gi (.list [])]
def qf:List MS:=[.ex (.gn (.attr (.var .fU) .gi) .h7 [(.tup [(.str "status"),(.attr (.var .gc) .gI),(.str "")])] [])]
def pq:List MS:=[.ex (.gn (.attr (.var .fU) .gi) .h7 [(.tup [(.str "execute"),(.attr (.var .gc) .gI),(.str "")])] [])]
def pS:List MS:=[.ex (.gn (.attr (.var .fU) .gi) .h7 [(.tup [(.str "success"),(.attr (.var .gc) .gI),(.str "")])] [])]
def oU:List MS:=[.ex (.gn (.attr (.var .fU) .gi) .h7 [(.tup [(.str "up-to-date"),(.attr (.var .gc) .gI),(.str "")])] [])]
def pB:List MS:=[.ex (.gn (.attr (.var .fU) .gi) .h7 [(.tup [(.str "end"),(.str ""),(.str "")])] [])]
def Ca:List MS:=[.asg (.one (.var .hV)) (.comp (.var .lS) (.tup [(.var .KL),(.var .lS)]) FF []),.asg (.one (.var .gi)) (.list []),.for (.one (.var .lS)) (.bi .km [(.bi .oM [(.var .iE)])]) [C2,GP,MF,Md,II],.ret (some (.tup [(.var .gi),(.var .hV)]))]
def CV:List MS:=[.ret (some (.bin .Add (.bin .Add (.bin .Add (.bi .pd [(.var .lS)]) (.str "(")) (.gn (.str ",") .zf [(.var .j3)] [])) (.str ")")))]
def yz:List MS:=[.asg (.one (.iN .ji)) (.bi .nQ [(.var .i7)]),.for (.one (.iN .lS)) (.rev (.var .hV)) V1,.ret (some (.bi .lR [(.iN .ji)]))]
def A0:List MS:=[.ret (some (.comp KQ (.one (.var .lS)) (.bi .km [(.bi .oM [(.iN .gi)])]) []))]
def Bf:List MS:=[.asg (.tup [(.iN .gF),(.var .oD),(.var .rz),(.var .jF),(.iN .gZ),(.var .kb)]) (.var .kZ),.asg (.one (.var .gV)) (.ite (.cmp .Eq (.var .rz) (.int 1)) (.mk .kI [(.iN .gF)] []) (.mk .nN [(.iN .gF)] [])),.asg (.one (.var .gA)) (.mk .iy [(.fn .uk [(.iN .gi)] [])] []),.ex (.gn (.var .gA) .BG [(.comp (.bin .Add (.str "t") (.bi .pd [(.var .lS)])) (.one (.var .lS)) (.var .i7) [])] []),.asg (.one (.var .hY)) (.mk .Runner [(.mk .nO [(.mk .tj [(.var .oD)] []),(.var .gV)] []),(.mk .mP [] []),(.sL true)] []),.asg (.one (.var .qc)) (.gn (.var .gA) .rq [] []),.asg (.one (.var .gf)) .n5,.asg (.one (.var .hJ)) (.list []),.asg (.one (.var .oA)) (.int 0),.for (.one (.var .FE)) (.bi .km [(.bin .Add (.bin .Mult (.int 2) (.bi .oM [(.iN .gi)])) (.int 2))]) [Qp,zV,.asg (.one (.iN .lS)) (.bi .K3 [(.yb (.attr (.attr (.var .gf) .gc) .gI) (some (.int 1)) none)]),.ite (.or [(.cmp .In (.iN .lS) (.var .hJ)),(.cmp .NotEq (.comp (.var .zg) (.one (.var .zg)) (.bi .km [(.bi .oM [(.iN .gi)])]) [QC]) (.list []))]) [.ret (some (.tup [(.str "wrong"),(.var .hJ),.n5]))] [],.ex (.gn (.var .hJ) .h7 [(.iN .lS)] []),zS,vK,.ite (.and [(.cmp .Eq (.var .oA) (.var .og)),(.cmp .Eq (.var .wX) (.int 0))]) [.ret (some (.tup [(.str "cut"),(.var .hJ),.n5]))] [],.asg (.one (.var .uj)) (.gn (.var .hY) .mC [(.attr (.var .gf) .gc)] []),.asg (.one (.var .rR)) (.fn .qR [(.iN .lS),(.comp (.idx (.idx (.iN .gF) (.var .pK)) (.int 2)) (.one (.var .pK)) (.idx (.iN .gi) (.iN .lS)) [])] []),.sets (.var .jF) (.int 0) (.bin .Add (.idx (.var .jF) (.int 0)) (.int 1)),.sets (.iN .gF) (.bin .Add (.str "o") (.bi .pd [(.iN .lS)])) (.tup [(.idx (.var .jF) (.int 0)),(.bi .oM [(.var .rR)]),(.var .rR)]),.sets (.var .kb) (.iN .lS) (.bin .Add (.idx (.var .kb) (.iN .lS)) (.int 1)),.ite (.and [(.cmp .Eq (.var .oA) (.var .og)),(.cmp .Eq (.var .wX) (.int 1))]) [.ret (some (.tup [(.str "cut"),(.var .hJ),(.iN .lS)]))] [],.ex (.gn (.var .hY) .l9 [(.var .gf),(.var .uj)] []),.ex (.gn (.iN .gZ) .h7 [(.iN .lS)] []),.ite (.and [(.cmp .Eq (.var .oA) (.var .og)),(.cmp .Eq (.var .wX) (.int 2))]) [.ret (some (.tup [(.str "cut"),(.var .hJ),.n5]))] [],.asg (.one (.var .oA)) (.bin .Add (.var .oA) (.int 1))],.ret (some (.tup [(.str "wrong"),(.var .hJ),.n5]))]
def yU:List MS:=[Hg,Rm,M6,HO,Lz,Hv,.asg (.one (.var .kb)) (.comp (.int 0) (.one (.var .mq)) (.var .gi) []),HI,.asg (.one (.var .mV)) (.comp (.int 1) (.one (.var .mq)) (.var .gi) []),HG,Kv,Hn,Kq,Gy,.for (.one (.var .lS)) (.var .hV) [.sets (.iN .j3) (.bin .Add (.str "o") (.bi .pd [(.var .lS)])) (.fn .qR [(.var .lS),Lh] [])],L9]
def Ei:List MS:=[.ret (some (.var .wK))]
def r8:List MS:=[.ite (.cmp .Is (.var .nP) .n5) [.ret (some (.gn (.attr (.iN .fU) .gj) .mM [(.var .i8)] []))] [],.ret (some (.gn (.attr (.iN .fU) .gj) .jd [(.var .i8),(.var .nP)] []))]
def nz:List MS:=[.ex (.gn (.iN .jz) .h7 [(.var .ot)] []),.ite (.cmp .In (.var .ot) (.attr (.iN .fU) .iw)) [.asg (.one (.var .As)) (.idx (.attr (.iN .fU) .iw) (.var .ot)),.asg (.one (.var .uA)) (.gn (.var .As) .oy [(.var .uA)] [])] [],.ret (some (.var .uA))]
def Fn.body(f:Fn):List MS:=at' [] [yE,yB,y5,AJ,qp,pf,qj,pG,rN,ny,oS,rb,oB,oE,vm,vN,vP,uR,qe,rh,oC,rf,yA,rV,tA,sy,oV,wM,A1,vI,tP,sT,rQ,tW,qO,xV,uE,oG,nY,mN,oO,pU,sF,oF,xm,qB,sf,qm,pP,mX,qd,n8,nZ,r5,tR,qf,pq,pS,oU,pB,Ca,CV,yz,A0,Bf,yU,Ei] f.i
theorem I.Co{a b:Nat}(e:I.gq a=I.gq b):a=b:=I.noConfusion e id
theorem I.Q2{x y:Nm}{j k:Nat}(e:I.p x j=I.p y k):x=y:=I.noConfusion e λa Z=>a
theorem bf{P:Prop}(h:false=true):P:=aR h
theorem nn{α:Type}{a:α}{P:Prop}(h:none=some a):P:=(Option.some_ne_none a h.symm).elim
def keyOf(x:Str):Nat:=x.cps.toList.foldl (λk c=>k*256+c) 0
def Pn(l:List Str):Nat→Bool:=l.rec (λZ=>true) λa Z ih k=>(fG k (keyOf a)).and (ih (keyOf a))
theorem f7{a b:Bool}(h:a.and b=true):a=true∧b=true:=Bool.and_eq_true_iff.mp h
theorem PH{l:List Str}:∀{k i:Nat},Pn l k=true→i<l.length→k<keyOf (at' ⟨#[]⟩ l i)∧∀j,j<i→keyOf (at' ⟨#[]⟩ l j)<keyOf (at' ⟨#[]⟩ l i):=by
 induction l with
 |nil=>exactλZ h=>absurd h (bt _)
 |cons a l ih=>
  intro k i e
  have e2:=f7 e
  have e1:k<keyOf a:=au e2.1
  exact i.casesOn (λZ=>⟨e1,λZ h=>absurd h (bt _)⟩) λi h=>
   have b:=ih e2.2 (Nat.lt_of_succ_lt_succ h)
   ⟨bk e1 b.1,λj=>j.casesOn (λZ=>b.1) λj h=>b.2 j (Nat.lt_of_succ_lt_succ h)⟩
theorem Nm.Pn:Mine.Pn Ky 0=true:=by decide+kernel
theorem Sm:Ky.length=245:=by decide+kernel
theorem Nm.lt(a:Nm):a.i<245:=au a.h
theorem Nm.KV{a b:Nm}(h:a.i<b.i):keyOf a.str<keyOf b.str:=(PH Nm.Pn (Sm.symm▸b.lt)).2 _ h
theorem Nm.str_inj{a b:Nm}(h:a.str=b.str):a=b:=
 Nm.ext ((Nat.lt_trichotomy a.i b.i).elim (λq=>absurd (h▸Nm.KV q) (a7 _)) λq=>q.elim id λq=>absurd (h▸Nm.KV q) (a7 _))
inductive O where
 |list (l:List V)
 |dict (l:List (Str×V))
 |nD (l:List (Str×V)) (ob:Obj)
 |oL (l:List V) (ob:Obj)
 |set (l:List Str)
 |inst (c:pL) (fs:Nm→Option V)
 |cell (v:Option V)
 |AP (x:Nm) (cs:Nm→Option I)
abbrev Hp:=I→Option O
abbrev Ph:=I→Addr×Addr
abbrev Loc:=Nm→Option V
def jI(vs:List Value):Obj:={cls:=.type "tuple",data:=.seq vs.toArray}
section
variable(h:Heap)(φ:Ph)(σ:Hp)
def ZF(r:I)(y:Value):Prop:=σ r≠none∧y=.ref (φ r).1
def Vg(_:List V)(ih:List Value→Prop)(y:Value):Prop:=∃a vs,y=.ref a∧h.get? a=some (jI vs)∧ih vs
def Qu(_:V)(_:List V)(a:Value→Prop)(b:List Value→Prop)(ys:List Value):Prop:=∃y zs,ys=y::zs∧a y∧b zs
def gJ(v:V):Value→Prop:=v.rec (motive_1:=λZ=>Value→Prop) (motive_2:=λZ=>List Value→Prop)
 (· =.none) (λb y=>y=.bool b) (λi y=>∃t,y=.int i t) (λs y=>∃t,y=.str s t) (ZF φ σ) (Vg h) (· =[]) Qu
def gh(l:List V):List Value→Prop:=V.rec_1 (motive_1:=λZ=>Value→Prop) (motive_2:=λZ=>List Value→Prop)
 (· =.none) (λb y=>y=.bool b) (λi y=>∃t,y=.int i t) (λs y=>∃t,y=.str s t) (ZF φ σ) (Vg h) (· =[]) Qu l
end
end
mutual
structure jZ where
 name:Str
 qual:Str
 params:Arguments
 body:List Stmt
 scope:Scope
 pos:Pos
 tab:Addr×Addr
structure Cx where
 prog:Program
 w:World
 K:Frag
 h0:Heap
 tabs:List (Addr×Addr)
 mg:Str→Option Value
 mb:Str→Option Value
 drawn:Drawn
 os:OsState
 nest:Nm→Option jZ
section
variable{cx:Cx}{X:Addr→Prop}{φ φ' φ'':Ph}{σ σ' σ'':Hp}{h h' P1:Heap}
theorem gJ.none:gJ h φ σ .none .none:=rfl
theorem gJ.bool(b:Bool):gJ h φ σ (.bool b) (.bool b):=rfl
theorem gJ.int(i:Int)(t:Tok):gJ h φ σ (.int i) (.int i t):=⟨t,rfl⟩
theorem gJ.str(s:Str)(t:Tok):gJ h φ σ (.str s) (.str s t):=⟨t,rfl⟩
theorem gJ.tup(l:List V)(a:Addr)(vs:List Value)(e:h.get? a=some (jI vs))(r:gh h φ σ l vs):gJ h φ σ (.tup l) (.ref a):=⟨a,vs,rfl,e,r⟩
theorem gh.nil:gh h φ σ [] []:=rfl
theorem gh.cons{v:V}{y:Value}{vs:List V}{ys:List Value}(a:gJ h φ σ v y)(b:gh h φ σ vs ys):gh h φ σ (v::vs) (y::ys):=⟨y,ys,rfl,a,b⟩
theorem gh.un{v:V}{vs:List V}{ys:List Value}(r:gh h φ σ (v::vs) ys):∃y zs,ys=y::zs∧gJ h φ σ v y∧gh h φ σ vs zs:=r
end
end
mutual
section
variable(cx:Cx)(h:Heap)(φ:Ph)(σ:Hp)
inductive FP(b:Addr):Prop
 |one (r:I):σ r≠none→b=(φ r).1→FP b
 |two (r:I):σ r≠none→b=(φ r).2→FP b
 |tab (q:Addr×Addr):q∈cx.tabs→b=q.2→FP b
def nh(l:List (Str×V))(kvs:List (Str×Value)):Prop:=kvs.map (·.1)=l.map (·.1)∧gh h φ σ (l.map (·.2)) (kvs.map (·.2))
def Nn(c dx:Addr):Obj:={cls:=.ref c,dict:=some dx,data:=.plain}
def Wu(fs:Nm→Option V)(dx:Addr):Prop:=
 ∃(es:Array DictEntry) (ep:Nat) (ls:List Nm),h.get? dx=some {cls:=.type "dict",data:=.dict es ep}∧(es.size=ls.length∧ls.Nodup∧∀x∈ls,(nsFind es x.str).isSome=true)∧StrKeys es∧
  (∀x v,fs x=some v→∃y,nsFind es x.str=some y∧gJ h φ σ v y)∧(∀x,fs x=none→nsFind es x.str=none)
def LW(x:Nm)(cs:Nm→Option I)(a:Addr):Prop:=
 ∃d∈cx.nest x,∃CW doc pm c' FK,h.get? a=some (fnMade d.name d.qual d.params d.body d.scope CW doc pm c' FK)∧
  (∃o vs t,h.get? c'=some o∧o.data=.fields vs∧vs[1]?=some (.str d.qual t))∧¬FP cx φ σ c'∧
  (∀y r,cs y=some r→σ r≠none∧CW.lookup y.str=some (φ r).1)
def vW(o:O)(a:Addr×Addr):Prop:=o.casesOn
 (λl=>a.2=a.1∧∃vs n,h.get? a.1=some {cls:=.type "list",data:=.seq vs.toArray n}∧gh h φ σ l vs∧l.length≤100000)
 (λl=>a.2=a.1∧(a.1==sysModules)=false∧∃kvs,h.DictOf (strKind cx.prog cx.w) a.1 kvs∧nh h φ σ l kvs∧l.length≤100000)
 (λl ob=>a.2=a.1∧(a.1==sysModules)=false∧(∃kvs,h.DictOf (strKind cx.prog cx.w) a.1 kvs∧nh h φ σ l kvs∧l.length≤100000)∧h.get? a.1=some ob)
 (λl ob=>a.2=a.1∧(∃vs,h.IsList a.1 vs.toArray∧gh h φ σ l vs∧l.length≤100000)∧h.get? a.1=some ob)
 (λl=>a.2=a.1∧∃S,h.SetOf (strKind cx.prog cx.w) a.1 S l.length∧(∀x,S x=decide (x∈l))∧l.Nodup∧l.length≤1000)
 (λc fs=>a.1≠a.2∧h.get? a.1=some (Nn c.addr a.2)∧Wu h φ σ fs a.2)
 (λv=>a.2=a.1∧∃o y,h.get? a.1=some o∧o.data=.cell y∧v.casesOn True λv=>∃z,y=some z∧gJ h φ σ v z)
 (λf cs=>a.2=a.1∧LW cx h φ σ f cs a.1)
def Cn(q:Addr×Addr):Prop:=
 ∃ps,h.get? q.2=some (tabObj ps)∧TriplesOk ps.toList∧∀x d,cx.nest x=some d→d.tab=q→codeAmong d.pos ps.toList=none∨
  ∃c' o vs t,codeAmong d.pos ps.toList=some (.ref c')∧h.get? c'=some o∧o.data=.fields vs∧vs[1]?=some (.str d.qual t)∧¬FP cx φ σ c'
end
end
mutual
structure Rel(cx:Cx)(φ:Ph)(σ:Hp)(h:Heap):Prop where
 base:∀b o,cx.h0.get? b=some o→h.get? b=some o
 lo:∀b o,cx.h0.get? b=some o→¬FP cx φ σ b
 objs:∀r o,σ r=some o→vW cx h φ σ o (φ r)
 inj:∀r r',σ r≠none→σ r'≠none→r≠r'→(φ r).1≠(φ r').1∧(φ r).1≠(φ r').2∧(φ r).2≠(φ r').1∧(φ r).2≠(φ r').2
 tabs:∀q∈cx.tabs,Cn cx h φ σ q
structure E7(cx:Cx)(X:Addr→Prop)(φ:Ph)(σ:Hp)(h:Heap)(φ':Ph)(σ':Hp)(h':Heap):Prop where
 tc:∀r,σ r≠none→σ' r≠none∧φ' r=φ r
 keep:∀b o,h.get? b=some o→¬FP cx φ σ b→¬X b→h'.get? b=some o
 fresh:∀r,σ r=none→σ' r≠none→h.get? (φ' r).1=none∧h.get? (φ' r).2=none
structure lW(cx:Cx)(X:Addr→Prop)(φ:Ph)(σ:Hp)(h:Heap)(φ':Ph)(σ':Hp)(h':Heap):Prop where
 tc:∀r,σ r≠none→σ' r≠none∧φ' r=φ r
 keep:∀b o,h.get? b=some o→¬FP cx φ σ b→¬X b→h'.get? b=some o
 fresh:∀r,σ r=none→σ' r≠none→h.get? (φ' r).1=none∧h.get? (φ' r).2=none
 live:∀b o,h.get? b=some o→∃o',h'.get? b=some o'
def Un:Addr→Prop:=λZ=>False
abbrev Ext(cx:Cx):=lW cx Un
structure Tr(cx:Cx)(φ:Ph)(σ:Hp)(h:Heap)(φ':Ph)(σ':Hp)(h':Heap):Prop where
 tc:∀r,σ r≠none→σ' r≠none∧φ' r=φ r
 tup:∀a vs,h.get? a=some (jI vs)→h'.get? a=some (jI vs)
 code:∀c o vs (x:Str) t,h.get? c=some o→o.data=.fields vs→vs[1]?=some (.str x t)→¬FP cx φ σ c→h'.get? c=some o∧¬FP cx φ' σ' c
section
variable{cx:Cx}{X:Addr→Prop}{φ φ' φ'':Ph}{σ σ' σ'':Hp}{h h' P1:Heap}
theorem gJ.of(d:∀r,σ r≠eZ→σ' r≠eZ∧φ' r=φ r)(k:∀a vs,h.get? a=some (jI vs)→h'.get? a=some (jI vs))(v:V):∀{y},gJ h φ σ v y→gJ h' φ' σ' v y:=
 V.rec (motive_1:=λv=>∀{y},gJ h φ σ v y→gJ h' φ' σ' v y) (motive_2:=λl=>∀{y},gh h φ σ l y→gh h' φ' σ' l y) id (λZ=>id) (λZ=>id) (λZ=>id)
  (λr {_} e=>⟨(d r e.1).1,e.2.trans (congrArg (λq=>Value.ref q.1) (d r e.1).2.symm)⟩) (λZ ih {_} e=>e.elim λa e=>e.elim λvs e=>⟨a,vs,e.1,k a vs e.2.1,ih e.2.2⟩) id
  (λZ Z a b {_} e=>e.elim λy e=>e.elim λys e=>⟨y,ys,e.1,a e.2.1,b e.2.2⟩) v
theorem gh.of(d:∀r,σ r≠none→σ' r≠none∧φ' r=φ r)(k:∀a vs,h.get? a=some (jI vs)→h'.get? a=some (jI vs))(l:List V):∀{y},gh h φ σ l y→gh h' φ' σ' l y:=
 l.rec (motive:=λl=>∀{y},gh h φ σ l y→gh h' φ' σ' l y) id λv Z ih {_} e=>aI e λy e=>e.elim λys e=>⟨y,ys,e.1,gJ.of d k v e.2.1,ih e.2.2⟩
theorem gJ.tr(T:Tr cx φ σ h φ' σ' h'){v:V}{y:Value}:gJ h φ σ v y→gJ h' φ' σ' v y:=gJ.of T.tc T.tup v
theorem gh.tr(T:Tr cx φ σ h φ' σ' h'){l:List V}{ys:List Value}:gh h φ σ l ys→gh h' φ' σ' l ys:=gh.of T.tc T.tup l
def Eo(q:Obj):Prop:=(∀vs,q≠jI vs)∧∀vs,q.data≠.fields vs
def Yg(d:Data):Bool:=!(aS d.ctorIdx 2||aS d.ctorIdx 9)
theorem Eo.d{q:Obj}{d:Data}(e:q.data=d)(n:Yg d=true):Eo q:=
 ⟨λvs z=>aR (n.symm.trans (congrArg Yg (e.symm.trans (congrArg cy z)))),λvs z=>aR (n.symm.trans (congrArg Yg (e.symm.trans z)))⟩
theorem Eo.l{q:Obj}{ys:Array Value}{n:Nat}(c:q.cls=.type "list")(e:q.data=.seq ys n):Eo q:=
 ⟨λvs z=>(by decide:b9 "list"≠.type "tuple") (c.symm.trans (congrArg Obj.cls z)),λvs z=>bA (e.symm.trans z)⟩
end
end
mutual
section
variable{cx:Cx}{X:Addr→Prop}{φ φ' φ'':Ph}{σ σ' σ'':Hp}{h h' P1:Heap}
theorem lW.refl:lW cx X φ σ h φ σ h:=⟨λZ e=>⟨e,rfl⟩,λZ Z e Z Z=>e,λZ e e'=>absurd e e',λZ o e=>⟨o,e⟩⟩
theorem lW.x(x:Ext cx φ σ h φ' σ' h'):lW cx X φ σ h φ' σ' h':=⟨x.tc,λb o e n Z=>x.keep b o e n id,x.fresh,x.live⟩
theorem ir{α:Type}{o:Option α}{a:α}{P:Prop}(e:o=some a)(n:o=none):P:=(Option.some_ne_none a (e.symm.trans n)).elim
theorem lW.drop(x:lW cx X φ σ h φ' σ' h')(hX:∀b,X b→h.get? b=none):Ext cx φ σ h φ' σ' h':=⟨x.tc,λb o e n Z=>x.keep b o e n λq=>ir e (hX b q),x.fresh,x.live⟩
theorem lW.k(x:lW cx X φ σ h φ' σ' h'):E7 cx X φ σ h φ' σ' h':=⟨x.tc,x.keep,x.fresh⟩
theorem E7.old(x:E7 cx X φ σ h φ' σ' h'){b:Addr}{o:Obj}(e:h.get? b=some o)(n:¬FP cx φ σ b){r:I}(hr:σ' r≠none)(he:b=(φ' r).1∨b=(φ' r).2):False:=
 (aK (σ r=none)).elim (λq=>he.elim (λhe=>ir e (he▸(x.fresh r q hr).1)) λhe=>ir e (he▸(x.fresh r q hr).2))
  λq=>n (he.elim (λhe=>.one r q (he.trans (congrArg (·.1) (x.tc r q).2))) λhe=>.two r q (he.trans (congrArg (·.2) (x.tc r q).2)))
theorem E7.fp(x:E7 cx X φ σ h φ' σ' h'){b:Addr}{o:Obj}(e:h.get? b=some o)(n:¬FP cx φ σ b):¬FP cx φ' σ' b:=λq=>
 q.casesOn (λr hr he=>x.old e n hr (.inl he)) (λr hr he=>x.old e n hr (.inr he)) λq hq he=>n (.tab q hq he)
theorem lW.fp(x:lW cx X φ σ h φ' σ' h'){b:Addr}{o:Obj}(e:h.get? b=some o)(n:¬FP cx φ σ b):¬FP cx φ' σ' b:=x.k.fp e n
theorem lW.back(x:lW cx X φ σ h φ' σ' h'){b:Addr}(e:h'.get? b=none):h.get? b=none:=
 Option.eq_none_iff_forall_ne_some.mpr λo q=>(x.live b o q).elim λo' g=>ir g e
theorem lW.trans(x:lW cx X φ σ h φ' σ' h')(y:lW cx X φ' σ' h' φ'' σ'' P1):lW cx X φ σ h φ'' σ'' P1:=
 ⟨λr e=>⟨(y.tc r (x.tc r e).1).1,((y.tc r (x.tc r e).1).2).trans (x.tc r e).2⟩,λb o e n hx=>y.keep b o (x.keep b o e n hx) (x.fp e n) hx,
  λr e e'=>(aK (σ' r=none)).elim (λq=>⟨x.back (y.fresh r q e').1,x.back (y.fresh r q e').2⟩) λq=>(y.tc r q).2▸x.fresh r e q,
  λb o e=>(x.live b o e).elim λo' g=>y.live b o' g⟩
def UnR(cx:Cx)(h:Heap)(φ:Ph)(σ:Hp)(o:O)(a:Addr×Addr):Prop:=
 ∃q1 q2,h.get? a.1=some q1∧h.get? a.2=some q2∧Eo q1∧Eo q2∧
  ∀{φ':Ph} {σ':Hp} {h':Heap},Tr cx φ σ h φ' σ' h'→h'.get? a.1=some q1→h'.get? a.2=some q2→vW cx h' φ' σ' o a
theorem vW.un{o:O}{a:Addr×Addr}(y:vW cx h φ σ o a):UnR cx h φ σ o a:=by
 cases o with
 |list l=>exact y.elim λe y=>y.elim λvs y=>y.elim λn y=>⟨_,_,y.1,(congrArg _ e).trans y.1,.l rfl rfl,.l rfl rfl,λT g Z=>⟨e,vs,n,g,y.2.1.tr T,y.2.2⟩⟩
 |dict l=>
  exact y.elim λe y=>y.2.elim λkvs z=>z.1.elim λo d=>d.elim λes d=>d.elim λep d=>
   ⟨o,o,d.1,(congrArg _ e).trans d.1,.d d.2.2.1 rfl,.d d.2.2.1 rfl,λT g Z=>⟨e,y.1,kvs,⟨o,es,ep,g,d.2⟩,⟨z.2.1.1,z.2.1.2.tr T⟩,z.2.2⟩⟩
 |nD l ob=>
  exact y.elim λe y=>y.2.1.elim λkvs z=>z.1.elim λo d=>d.elim λes d=>d.elim λep d=>
   ⟨o,o,d.1,(congrArg _ e).trans d.1,.d d.2.2.1 rfl,.d d.2.2.1 rfl,λT g Z=>⟨e,y.1,⟨kvs,⟨o,es,ep,g,d.2⟩,⟨z.2.1.1,z.2.1.2.tr T⟩,z.2.2⟩,g.trans (d.1.symm.trans y.2.2)⟩⟩
 |oL l ob=>exact y.elim λe y=>y.1.elim λvs z=>z.1.elim λo d=>d.2.2.elim λn dd=>⟨o,o,d.1,(congrArg _ e).trans d.1,.l d.2.1 dd,.l d.2.1 dd,λT g Z=>⟨e,⟨vs,⟨o,g,d.2⟩,z.2.1.tr T,z.2.2⟩,g.trans (d.1.symm.trans y.2)⟩⟩
 |set l=>
  exact y.elim λe y=>y.elim λS y=>y.1.elim λo d=>d.elim λes d=>d.elim λep d=>d.elim λt d=>
   ⟨o,o,d.1,(congrArg _ e).trans d.1,.d d.2.2.1 rfl,.d d.2.2.1 rfl,λT g Z=>⟨e,S,⟨o,es,ep,t,g,d.2⟩,y.2⟩⟩
 |inst c fs=>
  exact y.elim λe y=>y.2.elim λes z=>z.elim λep z=>z.elim λls z=>⟨_,_,y.1,z.1,.d rfl rfl,.d rfl rfl,λT g g2=>
   ⟨e,g,es,ep,ls,g2,z.2.1,z.2.2.1,λx v q=>(z.2.2.2.1 x v q).elim λw u=>⟨w,u.1,u.2.tr T⟩,z.2.2.2.2⟩⟩
 |cell v=>
  exact y.elim λe y=>y.elim λo y=>y.elim λz y=>⟨o,o,y.1,(congrArg _ e).trans y.1,.d y.2.1 rfl,.d y.2.1 rfl,λT g Z=>⟨e,o,z,g,y.2.1,by
   cases v with
   |none=>trivial
   |some v=>exact aI y.2.2 λw u=>⟨w,u.1,u.2.tr T⟩⟩⟩
 |AP n cs=>
  exact y.elim λe y=>y.elim λd y=>y.elim λhd y=>y.elim λCW y=>y.elim λdoc y=>y.elim λpm y=>y.elim λc' y=>y.elim λFK y=>
   ⟨_,_,y.1,(congrArg _ e).trans y.1,.d rfl rfl,.d rfl rfl,λT g Z=>y.2.1.elim λo u=>u.elim λvs u=>u.elim λt u=>
    ⟨e,d,hd,CW,doc,pm,c',FK,g,⟨o,vs,t,(T.code _ _ _ _ _ u.1 u.2.1 u.2.2 y.2.2.1).1,u.2⟩,(T.code _ _ _ _ _ u.1 u.2.1 u.2.2 y.2.2.1).2,
     λz r e=>⟨(T.tc r (y.2.2.2 z r e).1).1,(y.2.2.2 z r e).2.trans (congrArg (λq=>some q.1) (T.tc r (y.2.2.2 z r e).1).2.symm)⟩⟩⟩
def mj(h:Heap)(X:Addr→Prop):Prop:=∀b,X b→∃o,h.get? b=some o∧(∀vs,o≠jI vs)∧∀(vs:Array Value) x t,o.data=.fields vs→vs[1]?≠some (.str x t)
theorem mj.no:mj h Un:=λZ e=>e.elim
theorem mj.tup(d:mj h X){a:Addr}{vs:List Value}(e:h.get? a=some (jI vs)):¬X a:=λq=>(d a q).elim λo u=>u.2.1 vs (Option.some.inj (u.1.symm.trans e))
theorem mj.fields(d:mj h X){a:Addr}{o:Obj}{vs:Array Value}{x:Str}{t:Tok}(e:h.get? a=some o)(ed:o.data=.fields vs)(es:vs[1]?=some (.str x t)):¬X a:=λq=>
 (d a q).elim λo' u=>u.2.2 vs x t ((congrArg cy (Option.some.inj (u.1.symm.trans e))).trans ed) es
theorem Rel.un(R:Rel cx φ σ h){r:I}(hr:σ r≠none):∃q1 q2,h.get? (φ r).1=some q1∧h.get? (φ r).2=some q2∧Eo q1∧Eo q2:=
 (Option.ne_none_iff_exists'.mp hr).elim λo ho=>(R.objs r o ho).un.elim λq1 u=>u.elim λq2 u=>⟨q1,q2,u.1,u.2.1,u.2.2.1,u.2.2.2.1⟩
theorem Rel.Sv(R:Rel cx φ σ h){a:Addr}{vs:List Value}(e:h.get? a=some (jI vs)):¬FP cx φ σ a:=λq=>q.casesOn
 (λr hr he=>(R.un hr).elim λq1 u=>u.elim λq2 u=>u.2.2.1.1 vs (Option.some.inj ((he▸u.1.symm).trans e)))
 (λr hr he=>(R.un hr).elim λq1 u=>u.elim λq2 u=>u.2.2.2.1 vs (Option.some.inj ((he▸u.2.1.symm).trans e)))
 λq hq he=>(R.tabs q hq).elim λps u=>bA (congrArg cy (Option.some.inj ((he▸u.1.symm).trans e)))
theorem Tr.of(R:Rel cx φ σ h)(D:mj h X)(x:E7 cx X φ σ h φ' σ' h'):Tr cx φ σ h φ' σ' h':=
 ⟨x.tc,λa vs e=>x.keep _ _ e (R.Sv e) (D.tup e),λc o vs y t g gd gs nf=>⟨x.keep _ _ g nf (D.fields g gd gs),x.fp g nf⟩⟩
theorem lW.tr(x:Ext cx φ σ h φ' σ' h')(R:Rel cx φ σ h):Tr cx φ σ h φ' σ' h':=.of R .no x.k
theorem gJ.MO(R:Rel cx φ σ h)(D:mj h X)(x:lW cx X φ σ h φ' σ' h'){v:V}{y:Value}(r:gJ h φ σ v y):gJ h' φ' σ' v y:=r.tr (.of R D x.k)
theorem gh.MO(R:Rel cx φ σ h)(D:mj h X)(x:lW cx X φ σ h φ' σ' h'){v:List V}{y:List Value}(r:gh h φ σ v y):gh h' φ' σ' v y:=r.tr (.of R D x.k)
theorem gJ.ext(R:Rel cx φ σ h)(x:Ext cx φ σ h φ' σ' h'){v:V}{y:Value}(r:gJ h φ σ v y):gJ h' φ' σ' v y:=r.tr (x.tr R)
theorem gh.ext(R:Rel cx φ σ h)(x:Ext cx φ σ h φ' σ' h'){v:List V}{y:List Value}(r:gh h φ σ v y):gh h' φ' σ' v y:=r.tr (x.tr R)
theorem gJ.DQ(d:∀r,σ r≠eZ→σ' r≠eZ∧φ' r=φ r){v:V}{y:Value}:gJ h φ σ v y→gJ h φ' σ' v y:=gJ.of d (λZ Z=>id) v
theorem gh.DQ(d:∀r,σ r≠none→σ' r≠none∧φ' r=φ r){v:List V}{y:List Value}:gh h φ σ v y→gh h φ' σ' v y:=gh.of d (λZ Z=>id) v
theorem gh.length{l:List V}:∀{ys:List Value},gh h φ σ l ys→l.length=ys.length:=by
 induction l with
 |nil=>exactλe=>(congrArg cg (show _=[]from e)).symm
 |cons v l ih=>exactλe=>e.un.elim λy e=>e.elim λzs e=>(congrArg (· +1) (ih e.2.2)).trans (congrArg cg e.1.symm)
theorem gh.append{a:List V}:∀{x:List Value},gh h φ σ a x→∀{b:List V} {y:List Value},gh h φ σ b y→gh h φ σ (a++b) (x++y):=by
 induction a with
 |nil=>exactλ{x} e {b y} hb=>(show x=[]from e)▸hb
 |cons v a ih=>exactλ{x} e {b y} hb=>e.un.elim λz e=>e.elim λzs e=>e.1▸.cons e.2.1 (ih e.2.2 hb)
theorem gh.get{l:List V}:∀{vs:List Value},gh h φ σ l vs→∀{i:Nat} {v:V},l[i]?=some v→∃y,vs[i]?=some y∧gJ h φ σ v y:=by
 induction l with
 |nil=>exactλ{_} Z {_ _} e=>nomatch e
 |cons a l ih=>exactλ{_} r {i v}=>r.un.elim λy r=>r.elim λzs r=>i.casesOn (λe=>⟨y,r.1▸rfl,Option.some.inj e▸r.2.1⟩) λi e=>(ih r.2.2 (i:=i) e).elim λw u=>⟨w,r.1▸u.1,u.2⟩
theorem Cn.tr{q:Addr×Addr}(y:Cn cx h φ σ q)(T:Tr cx φ σ h φ' σ' h')(k:∀o,h.get? q.2=some o→h'.get? q.2=some o):Cn cx h' φ' σ' q:=
 y.elim λps u=>⟨ps,k _ u.1,u.2.1,λx d e1 e2=>(u.2.2 x d e1 e2).imp id λu=>u.elim λc' u=>u.elim λo u=>u.elim λvs u=>u.elim λt u=>
  have w:=T.code _ _ _ _ _ u.2.1 u.2.2.1 u.2.2.2.1 u.2.2.2.2;⟨c',o,vs,t,u.1,w.1,u.2.2.1,u.2.2.2.1,w.2⟩⟩
theorem vW.tr{o:O}{a:Addr×Addr}(y:vW cx h φ σ o a)(T:Tr cx φ σ h φ' σ' h')(k1:∀q,h.get? a.1=some q→h'.get? a.1=some q)(k2:∀q,h.get? a.2=some q→h'.get? a.2=some q):vW cx h' φ' σ' o a:=
 y.un.elim λq1 u=>u.elim λq2 u=>u.2.2.2.2 T (k1 q1 u.1) (k2 q2 u.2.1)
theorem Rel.kg(R:Rel cx φ σ h){a:Addr}(ha:h.get? a=none):¬FP cx φ σ a:=λq=>q.casesOn
 (λr hr he=>(R.un hr).elim λq1 u=>u.elim λq2 u=>ir u.1 (he▸ha)) (λr hr he=>(R.un hr).elim λq1 u=>u.elim λq2 u=>ir u.2.1 (he▸ha))
 λq hq he=>(R.tabs q hq).elim λps u=>ir u.1 (he▸ha)
theorem Rel.ng(R:Rel cx φ σ h){a:Addr}(ha:h.get? a=none):cx.h0.get? a=none:=Option.eq_none_iff_forall_ne_some.mpr λo q=>ir (R.base _ _ q) ha
theorem Ext.grow(hk:∀b o,h.get? b=some o→h'.get? b=some o):lW cx X φ σ h φ σ h':=
 ⟨λZ e=>⟨e,rfl⟩,λb o e Z Z=>hk b o e,λZ e e'=>absurd e e',λb o e=>⟨o,hk b o e⟩⟩
theorem Rel.grow(R:Rel cx φ σ h)(hk:∀b o,h.get? b=some o→h'.get? b=some o):Rel cx φ σ h':=
 have T:Tr cx φ σ h φ σ h':=(Ext.grow (X:=Un) hk).tr R
 ⟨λb o e=>hk b o (R.base b o e),R.lo,λr o e=>(R.objs r o e).tr T (hk _) (hk _),R.inj,λq hq=>(R.tabs q hq).tr T (hk _)⟩
theorem oP{h:Heap}{x:Obj}(b:Addr)(o:Obj)(e:h.get? b=some o):(h.push x).get? b=some o:=aP _ e
theorem Rel.push(R:Rel cx φ σ h)(o:Obj):Rel cx φ σ (h.push o):=R.grow oP
theorem Ext.push(o:Obj):lW cx X φ σ h φ σ (h.push o):=Ext.grow oP
theorem Rel.uY(R:Rel cx φ σ h){r:I}(hr:σ r≠none){b:Addr}(hb:b=(φ r).1∨b=(φ r).2){ob:Obj}{vs:Array Value}(g:h.get? b=some ob)(gd:ob.data=.fields vs):False:=
 (R.un hr).elim λq1 u=>u.elim λq2 u=>hb.elim (λhb=>u.2.2.1.2 vs ((congrArg cy (Option.some.inj (u.1.symm.trans (hb▸g)))).trans gd)) λhb=>u.2.2.2.2 vs ((congrArg cy (Option.some.inj (u.2.1.symm.trans (hb▸g)))).trans gd)
def up{α β:Type}[DecidableEq α](f:α→β)(r:α)(v:β):α→β:=λx=>if x=r then v else f x
theorem fW{α β:Type}[DecidableEq α](f:α→β)(r:α)(v:β):up f r v r=v:=if_pos rfl
theorem gD{α β:Type}[DecidableEq α](f:α→β){r x:α}(v:β)(hn:x≠r):up f r v x=f x:=if_neg hn
theorem kJ{α β:Type}[DecidableEq α](f:α→β)(r:α)(v:β)(x:α):(x=r∧up f r v x=v)∨(x≠r∧up f r v x=f x):=(aK (x=r)).imp (λe=>⟨e,if_pos e⟩) λe=>⟨e,if_neg e⟩
theorem FP.sub{φ':Ph}{σ':Hp}(d:∀r,σ r≠none→σ' r≠none∧φ' r=φ r){b:Addr}(q:FP cx φ σ b):FP cx φ' σ' b:=
 q.casesOn (λr hr he=>.one r (d r hr).1 (he.trans (congrArg (·.1) (d r hr).2.symm))) (λr hr he=>.two r (d r hr).1 (he.trans (congrArg (·.2) (d r hr).2.symm))) λq hq he=>.tab q hq he
theorem kq{α:Type}{o:Option α}{a:α}(e:o=some a):o≠none:=λq=>ir e q
theorem change(R:Rel cx φ σ h){r:I}{o₀ o':O}(hr:σ r=some o₀)(hk:∀b q,b≠(φ r).1→b≠(φ r).2→h.get? b=some q→h'.get? b=some q)(Yu:∃q,h'.get? (φ r).1=some q)(X1:∃q,h'.get? (φ r).2=some q)
  (y:Ext cx φ σ h φ (up σ r (some o')) h'→vW cx h' φ (up σ r (some o')) o' (φ r)):
  Ext cx φ σ h φ (up σ r (some o')) h'∧Rel cx φ (up σ r (some o')) h':=
 have HE:σ r≠none:=kq hr
 have toS:∀x,σ x≠none→up σ r (some o') x≠none∧φ x=φ x:=λx hx=>⟨(kJ σ r (some o') x).elim (λe=>kq e.2) λe=>e.2▸hx,rfl⟩
 have dm:∀x,up σ r (some o') x≠none→σ x≠none∧φ x=φ x:=λx hx=>⟨(kJ σ r (some o') x).elim (λe=>e.1▸HE) λe=>e.2▸hx,rfl⟩
 have Y:Ext cx φ σ h φ (up σ r (some o')) h':=⟨toS,λb q e n Z=>hk b q (λz=>n (.one r HE z)) (λz=>n (.two r HE z)) e,λx hx Wn=>absurd hx (dm x Wn).1,
  λb q e=>(aK (b=(φ r).1)).elim (λe=>e▸Yu) λe1=>(aK (b=(φ r).2)).elim (λe=>e▸X1) λe2=>⟨q,hk b q e1 e2 e⟩⟩
 have T:=Y.tr R
 ⟨Y,λb q e=>Y.keep b q (R.base b q e) (R.lo b q e) id,λb q e z=>R.lo b q e (z.sub dm),λx q e=>(kJ σ r (some o') x).elim (λu=>by rw[u.1,←Option.some.inj (u.2.symm.trans e)];exact y Y) λu=>
   have e:=u.2.symm.trans e
   have i:=R.inj x r (kq e) HE u.1
   (R.objs x q e).tr T (λo=>hk _ o i.1 i.2.1) (λo=>hk _ o i.2.2.1 i.2.2.2),
  λx z hx hz=>R.inj x z (dm x hx).1 (dm z hz).1,λq hq=>(R.tabs q hq).elim λps u=>(R.tabs q hq).tr T λo=>hk _ _ (λz=>R.uY HE (.inl z) u.1 rfl) (λz=>R.uY HE (.inr z) u.1 rfl)⟩
theorem adopt{h₀:Heap}{φ₀:Ph}{σ₀:Hp}(Y:lW cx X φ₀ σ₀ h₀ φ σ h)(R:Rel cx φ σ h){r:I}{a:Addr×Addr}{o:O}(hr:σ r=none)(g1:h₀.get? a.1=none)(g2:h₀.get? a.2=none)
  (n1:¬FP cx φ σ a.1)(n2:¬FP cx φ σ a.2)(l1:cx.h0.get? a.1=none)(l2:cx.h0.get? a.2=none)(y:vW cx h (up φ r a) (up σ r (some o)) o a):
  lW cx X φ₀ σ₀ h₀ (up φ r a) (up σ r (some o)) h∧Rel cx (up φ r a) (up σ r (some o)) h:=
 have dm:∀x,up σ r (some o) x≠none→(x=r∧up φ r a x=a)∨(σ x≠none∧up φ r a x=φ x):=λx hx=>(kJ σ r (some o) x).elim (λe=>.inl ⟨e.1,e.1▸fW _ _ _⟩) λe=>.inr ⟨e.2▸hx,gD _ _ e.1⟩
 have E1:∀x,σ x≠none→up σ r (some o) x≠none∧up φ r a x=φ x:=λx hx=>have n:x≠r:=λe=>hx (e▸hr);⟨gD (x:=x) σ (some o) n▸hx,gD _ _ n⟩
 have fp:∀b,FP cx (up φ r a) (up σ r (some o)) b→FP cx φ σ b∨b=a.1∨b=a.2:=λb q=>q.casesOn
  (λx hx he=>(dm x hx).elim (λe=>.inr (.inl (he.trans (congrArg (·.1) e.2)))) λe=>.inl (.one x e.1 (he.trans (congrArg (·.1) e.2))))
  (λx hx he=>(dm x hx).elim (λe=>.inr (.inr (he.trans (congrArg (·.2) e.2)))) λe=>.inl (.two x e.1 (he.trans (congrArg (·.2) e.2)))) λq hq he=>.inl (.tab q hq he)
 have NF:=y.un
 have nf:∀{b ob},h.get? b=some ob→(∃vs,ob.data=.fields vs)→(b=a.1∨b=a.2)→False:=λg gd hb=>NF.elim λq1 u=>u.elim λq2 u=>gd.elim λvs gd=>
  hb.elim (λhb=>u.2.2.1.2 vs ((congrArg cy (Option.some.inj (u.1.symm.trans (hb▸g)))).trans gd)) λhb=>u.2.2.2.1.2 vs ((congrArg cy (Option.some.inj (u.2.1.symm.trans (hb▸g)))).trans gd)
 have T:Tr cx φ σ h (up φ r a) (up σ r (some o)) h:=⟨E1,λZ Z=>id,λc q vs x t g gd gs n=>⟨g,λz=>(fp c z).elim n (nf g ⟨vs,gd⟩)⟩⟩
 have ap:∀z,σ z≠none→a.1≠(φ z).1∧a.1≠(φ z).2∧a.2≠(φ z).1∧a.2≠(φ z).2:=λz hz=>⟨λq=>n1 (.one z hz q),λq=>n1 (.two z hz q),λq=>n2 (.one z hz q),λq=>n2 (.two z hz q)⟩
 ⟨⟨λx hx=>have u:=Y.tc x hx;⟨(E1 x u.1).1,(E1 x u.1).2.trans u.2⟩,Y.keep,λx hx Wn=>(dm x Wn).elim (λe=>by rw[e.2];exact⟨g1,g2⟩) λe=>by rw[e.2];exact Y.fresh x hx e.1,Y.live⟩,
  R.base,λb q e z=>(fp b z).elim (R.lo b q e) λz=>z.elim (λz=>ir e (z▸l1)) λz=>ir e (z▸l2),
  λx q e=>(kJ σ r (some o) x).elim (λu=>by rw[u.1,fW,←Option.some.inj (u.2.symm.trans e)];exact y) λu=>by rw[gD _ _ u.1];exact(R.objs x q (u.2.symm.trans e)).tr T (λZ=>id) (λZ=>id),
  λx z hx hz hn=>(dm x hx).elim (λe=>(dm z hz).elim (λe'=>absurd (e.1.trans e'.1.symm) hn) λe'=>by rw[e.2,e'.2];exact ap z e'.1)
   λe=>(dm z hz).elim (λe'=>have u:=ap x e.1;by rw[e.2,e'.2];exact⟨u.1.symm,u.2.2.1.symm,u.2.1.symm,u.2.2.2.symm⟩) λe'=>by rw[e.2,e'.2];exact R.inj x z e.1 e'.1 hn,
  λq hq=>(R.tabs q hq).tr T λZ=>id⟩
end
end
mutual
def iU(K:Frag)(sc:Scope)(n:Str)(v:Value):Bool:=sc.names.lookup n==some .globalImplicit&&nsIn K mainGlobals n==some (some v)&&!(n==("__debug__":Str))
def ri(K:Frag)(sc:Scope)(n:Str)(v:Value):Bool:=sc.names.lookup n==some .globalImplicit&&nsIn K mainGlobals n==some none&&bootBuiltins n==some v&&!(n==("__name__":Str))&&!(n==("__debug__":Str))
def Bi.val(b:Bi):Value:=b.casesOn (.type "str") (.type "int") (.builtin "len") (.builtin "abs") (.type "range") (.type "enumerate") (.builtin "sorted") (.type "list") (.type "tuple") (.type "set") (.type "reversed")
def Bi.name(b:Bi):Str:=b.casesOn "str" "int" "len" "abs" "range" "enumerate" "sorted" "list" "tuple" "set" "reversed"
def rg(sc:Scope)(x:Nm):Bool:=sc.names.lookup x.str==some .local&&!(x.str==("__debug__":Str))
def Ci(sc:Scope)(x:Nm):Bool:=(sc.names.lookup x.str==some .cell||sc.names.lookup x.str==some .free)&&!(x.str==("__debug__":Str))&&!(x.str==("__classdict__":Str))
theorem dt{c:Prop}{d:Decidable c}{t:c→Bool}(h:dite c t (λZ=>false)=true):∃q,t q=true:=d.casesOn (motive:=λd=>@dite _ c d t (λZ=>false)=true→∃q,t q=true) (λZ h=>nomatch h) (λq h=>⟨q,h⟩) h
section
open Expr
def mT(e:Expr)(f:Const→Bool):Bool:=if h:e.ctorIdx=19 then Constant.elim (motive_1:=λZ=>Bool) e h λc Z Z=>f c else false
theorem su{e:Expr}{f:Const→Bool}{P:Expr→Prop}(h:mT e f=true)(kk:∀c k p,f c=true→P (.Constant c k p)):P e:=
 (dt h).elim λq g=>Constant.elim (motive_1:=λe=>∀q,Constant.elim (motive_1:=λZ=>Bool) e q (λc Z Z=>f c)=true→P e) e q (λc k p Z g=>kk c k p g) q g
def iq(e:Expr)(f:Str→Bool):Bool:=if h:e.ctorIdx=23 then Name.elim (motive_1:=λZ=>Bool) e h λc Z=>f c else false
theorem iD{e:Expr}{f:Str→Bool}{P:Expr→Prop}(h:iq e f=true)(kk:∀c p,f c=true→P (.Name c p)):P e:=
 (dt h).elim λq g=>Name.elim (motive_1:=λe=>∀q,Name.elim (motive_1:=λZ=>Bool) e q (λc Z=>f c)=true→P e) e q (λc p Z g=>kk c p g) q g
def k7(e:Expr)(f:Expr→Str→Pos→Bool):Bool:=if h:e.ctorIdx=20 then Attribute.elim (motive_1:=λZ=>Bool) e h f else false
theorem lZ{e:Expr}{f:Expr→Str→Pos→Bool}{P:Expr→Prop}(h:k7 e f=true)(kk:∀o a p,f o a p=true→P (.Attribute o a p)):P e:=
 (dt h).elim λq g=>Attribute.elim (motive_1:=λe=>∀q,Attribute.elim (motive_1:=λZ=>Bool) e q f=true→P e) e q (λo a p Z g=>kk o a p g) q g
def mJ(e:Expr)(f:Expr→Expr→Bool):Bool:=if h:e.ctorIdx=21 then Subscript.elim (motive_1:=λZ=>Bool) e h λa b Z=>f a b else false
theorem nC{e:Expr}{f:Expr→Expr→Bool}{P:Expr→Prop}(h:mJ e f=true)(kk:∀o i p,f o i=true→P (.Subscript o i p)):P e:=
 (dt h).elim λq g=>Subscript.elim (motive_1:=λe=>∀q,Subscript.elim (motive_1:=λZ=>Bool) e q (λa b Z=>f a b)=true→P e) e q (λo i p Z g=>kk o i p g) q g
def wL(e:Expr)(f:Option Expr→Option Expr→Option Expr→Bool):Bool:=if h:e.ctorIdx=26 then Slice.elim (motive_1:=λZ=>Bool) e h λa b c Z=>f a b c else false
theorem xa{e:Expr}{f:Option Expr→Option Expr→Option Expr→Bool}{P:Expr→Prop}(h:wL e f=true)(kk:∀a b c p,f a b c=true→P (.Slice a b c p)):P e:=
 (dt h).elim λq g=>Slice.elim (motive_1:=λe=>∀q,Slice.elim (motive_1:=λZ=>Bool) e q (λa b c Z=>f a b c)=true→P e) e q (λa b c p Z g=>kk a b c p g) q g
def Dl(e:Expr)(f:UnaryOp→Expr→Bool):Bool:=if h:e.ctorIdx=3 then UnaryOp.elim (motive_1:=λZ=>Bool) e h λa b Z=>f a b else false
theorem Cb{e:Expr}{f:PySem.UnaryOp→Expr→Bool}{P:Expr→Prop}(h:Dl e f=true)(kk:∀o i p,f o i=true→P (.UnaryOp o i p)):P e:=
 (dt h).elim λq g=>UnaryOp.elim (motive_1:=λe=>∀q,UnaryOp.elim (motive_1:=λZ=>Bool) e q (λa b Z=>f a b)=true→P e) e q (λo i p Z g=>kk o i p g) q g
def j7(e:Expr)(f:Expr→List Expr→List Keyword→Pos→Bool):Bool:=if h:e.ctorIdx=16 then Call.elim (motive_1:=λZ=>Bool) e h f else false
theorem kj{e:Expr}{f:Expr→List Expr→List Keyword→Pos→Bool}{P:Expr→Prop}(h:j7 e f=true)(kk:∀a b c p,f a b c p=true→P (.Call a b c p)):P e:=
 (dt h).elim λq g=>Call.elim (motive_1:=λe=>∀q,Call.elim (motive_1:=λZ=>Bool) e q f=true→P e) e q (λa b c p Z g=>kk a b c p g) q g
def D3(e:Expr)(f:Expr→List CmpOp→List Expr→Bool):Bool:=if h:e.ctorIdx=15 then Compare.elim (motive_1:=λZ=>Bool) e h λa b c Z=>f a b c else false
theorem DJ{e:Expr}{f:Expr→List CmpOp→List Expr→Bool}{P:Expr→Prop}(h:D3 e f=true)(kk:∀a b c p,f a b c=true→P (.Compare a b c p)):P e:=
 (dt h).elim λq g=>Compare.elim (motive_1:=λe=>∀q,Compare.elim (motive_1:=λZ=>Bool) e q (λa b c Z=>f a b c)=true→P e) e q (λa b c p Z g=>kk a b c p g) q g
def ti(e:Expr)(f:PySem.BoolOp→List Expr→Bool):Bool:=if h:e.ctorIdx=0 then BoolOp.elim (motive_1:=λZ=>Bool) e h λa b Z=>f a b else false
theorem u3{e:Expr}{f:PySem.BoolOp→List Expr→Bool}{P:Expr→Prop}(h:ti e f=true)(kk:∀o i p,f o i=true→P (.BoolOp o i p)):P e:=
 (dt h).elim λq g=>BoolOp.elim (motive_1:=λe=>∀q,BoolOp.elim (motive_1:=λZ=>Bool) e q (λa b Z=>f a b)=true→P e) e q (λo i p Z g=>kk o i p g) q g
def Lx(e:Expr)(f:Expr→Expr→Expr→Bool):Bool:=if h:e.ctorIdx=5 then IfExp.elim (motive_1:=λZ=>Bool) e h λa b c Z=>f a b c else false
theorem Iz{e:Expr}{f:Expr→Expr→Expr→Bool}{P:Expr→Prop}(h:Lx e f=true)(kk:∀a b c p,f a b c=true→P (.IfExp a b c p)):P e:=
 (dt h).elim λq g=>IfExp.elim (motive_1:=λe=>∀q,IfExp.elim (motive_1:=λZ=>Bool) e q (λa b c Z=>f a b c)=true→P e) e q (λa b c p Z g=>kk a b c p g) q g
def EL(e:Expr)(f:Expr→Operator→Expr→Bool):Bool:=if h:e.ctorIdx=2 then BinOp.elim (motive_1:=λZ=>Bool) e h λa b c Z=>f a b c else false
theorem DX{e:Expr}{f:Expr→Operator→Expr→Bool}{P:Expr→Prop}(h:EL e f=true)(kk:∀a b c p,f a b c=true→P (.BinOp a b c p)):P e:=
 (dt h).elim λq g=>BinOp.elim (motive_1:=λe=>∀q,BinOp.elim (motive_1:=λZ=>Bool) e q (λa b c Z=>f a b c)=true→P e) e q (λa b c p Z g=>kk a b c p g) q g
def Ap(e:Expr)(f:List Expr→Bool):Bool:=if h:e.ctorIdx=24 then List.elim (motive_1:=λZ=>Bool) e h λa Z=>f a else false
theorem BZ{e:Expr}{f:_root_.List Expr→Bool}{P:Expr→Prop}(h:Ap e f=true)(kk:∀a p,f a=true→P (.List a p)):P e:=
 (dt h).elim λq g=>List.elim (motive_1:=λe=>∀q,List.elim (motive_1:=λZ=>Bool) e q (λa Z=>f a)=true→P e) e q (λa p Z g=>kk a p g) q g
def xZ(e:Expr)(f:_root_.List Expr→Bool):Bool:=if h:e.ctorIdx=25 then Tuple.elim (motive_1:=λZ=>Bool) e h λa Z Z=>f a else false
theorem uL{e:Expr}{f:_root_.List Expr→Bool}{P:Expr→Prop}(h:xZ e f=true)(kk:∀a k p,f a=true→P (.Tuple a k p)):P e:=
 (dt h).elim λq g=>Tuple.elim (motive_1:=λe=>∀q,Tuple.elim (motive_1:=λZ=>Bool) e q (λa Z Z=>f a)=true→P e) e q (λa k p Z g=>kk a k p g) q g
def Av(e:Expr)(f:_root_.List (Option Expr)→_root_.List Expr→Bool):Bool:=if h:e.ctorIdx=6 then Dict.elim (motive_1:=λZ=>Bool) e h λa b Z=>f a b else false
theorem Jx{e:Expr}{f:_root_.List (Option Expr)→_root_.List Expr→Bool}{P:Expr→Prop}(h:Av e f=true)(kk:∀a b p,f a b=true→P (.Dict a b p)):P e:=
 (dt h).elim λq g=>Dict.elim (motive_1:=λe=>∀q,Dict.elim (motive_1:=λZ=>Bool) e q (λa b Z=>f a b)=true→P e) e q (λa b p Z g=>kk a b p g) q g
def zy(e:Expr)(f:Expr→_root_.List Comprehension→Scope→Bool):Bool:=if h:e.ctorIdx=8 then ListComp.elim (motive_1:=λZ=>Bool) e h λa b c Z=>f a b c else false
theorem B9{e:Expr}{f:Expr→_root_.List Comprehension→Scope→Bool}{P:Expr→Prop}(h:zy e f=true)(kk:∀a b c p,f a b c=true→P (.ListComp a b c p)):P e:=
 (dt h).elim λq g=>ListComp.elim (motive_1:=λe=>∀q,ListComp.elim (motive_1:=λZ=>Bool) e q (λa b c Z=>f a b c)=true→P e) e q (λa b c p Z g=>kk a b c p g) q g
end
end
mutual
def r7(e:Stmt)(f:List PySem.Expr→PySem.Expr→Bool):Bool:=if h:e.ctorIdx=5 then d8 (motive_2:=λZ=>Bool) e h λa b Z=>f a b else false
theorem AM{e:Stmt}{f:List PySem.Expr→PySem.Expr→Bool}{P:Stmt→Prop}(h:r7 e f=true)(kk:∀a b p,f a b=true→P (.Assign a b p)):P e:=
 (dt h).elim λq g=>d8 (motive_2:=λe=>∀q,d8 (motive_2:=λZ=>Bool) e q (λa b Z=>f a b)=true→P e) e q (λa b p Z g=>kk a b p g) q g
def DI(e:Stmt)(f:List PySem.Expr→Bool):Bool:=if h:e.ctorIdx=4 then d9 (motive_2:=λZ=>Bool) e h λa Z=>f a else false
theorem NT{e:Stmt}{f:List PySem.Expr→Bool}{P:Stmt→Prop}(h:DI e f=true)(kk:∀a p,f a=true→P (.Delete a p)):P e:=
 (dt h).elim λq g=>d9 (motive_2:=λe=>∀q,d9 (motive_2:=λZ=>Bool) e q (λa Z=>f a)=true→P e) e q (λa p Z g=>kk a p g) q g
def Kx(e:Stmt)(f:PySem.Expr→Bool):Bool:=if h:e.ctorIdx=24 then e6 (motive_2:=λZ=>Bool) e h λa Z=>f a else false
theorem PG{e:Stmt}{f:PySem.Expr→Bool}{P:Stmt→Prop}(h:Kx e f=true)(kk:∀a p,f a=true→P (.Expr a p)):P e:=
 (dt h).elim λq g=>e6 (motive_2:=λe=>∀q,e6 (motive_2:=λZ=>Bool) e q (λa Z=>f a)=true→P e) e q (λa p Z g=>kk a p g) q g
def Ls(e:Stmt)(f:PySem.Expr→List Stmt→List Stmt→Bool):Bool:=if h:e.ctorIdx=12 then fN (motive_2:=λZ=>Bool) e h λa b c Z=>f a b c else false
theorem NG{e:Stmt}{f:PySem.Expr→List Stmt→List Stmt→Bool}{P:Stmt→Prop}(h:Ls e f=true)(kk:∀a b c p,f a b c=true→P (.If a b c p)):P e:=
 (dt h).elim λq g=>fN (motive_2:=λe=>∀q,fN (motive_2:=λZ=>Bool) e q (λa b c Z=>f a b c)=true→P e) e q (λa b c p Z g=>kk a b c p g) q g
def RY(e:Stmt)(f:PySem.Expr→List Stmt→List Stmt→Bool):Bool:=if h:e.ctorIdx=11 then eQ (motive_2:=λZ=>Bool) e h λa b c Z=>f a b c else false
theorem PJ{e:Stmt}{f:PySem.Expr→List Stmt→List Stmt→Bool}{P:Stmt→Prop}(h:RY e f=true)(kk:∀a b c p,f a b c=true→P (.While a b c p)):P e:=
 (dt h).elim λq g=>eQ (motive_2:=λe=>∀q,eQ (motive_2:=λZ=>Bool) e q (λa b c Z=>f a b c)=true→P e) e q (λa b c p Z g=>kk a b c p g) q g
def MM(e:Stmt)(f:PySem.Expr→PySem.Expr→List Stmt→List Stmt→Bool):Bool:=if h:e.ctorIdx=9 then fk (motive_2:=λZ=>Bool) e h λa b c d Z=>f a b c d else false
theorem Ly{e:Stmt}{f:PySem.Expr→PySem.Expr→List Stmt→List Stmt→Bool}{P:Stmt→Prop}(h:MM e f=true)(kk:∀a b c d p,f a b c d=true→P (.For a b c d p)):P e:=
 (dt h).elim λq g=>fk (motive_2:=λe=>∀q,fk (motive_2:=λZ=>Bool) e q (λa b c d Z=>f a b c d)=true→P e) e q (λa b c d p Z g=>kk a b c d p g) q g
def Ft(e:Stmt)(f:Option PySem.Expr→Bool):Bool:=if h:e.ctorIdx=3 then eh (motive_2:=λZ=>Bool) e h λa Z=>f a else false
theorem EX{e:Stmt}{f:Option PySem.Expr→Bool}{P:Stmt→Prop}(h:Ft e f=true)(kk:∀a p,f a=true→P (.Return a p)):P e:=
 (dt h).elim λq g=>eh (motive_2:=λe=>∀q,eh (motive_2:=λZ=>Bool) e q (λa Z=>f a)=true→P e) e q (λa p Z g=>kk a p g) q g
def I0(e:Stmt):Bool:=aS e.ctorIdx 26
def Au(e:Stmt):Bool:=aS e.ctorIdx 27
theorem Jp{e:Stmt}{P:Stmt→Prop}(h:Au e=true)(k:∀p,P (.Continue p)):P e:=Stmt.Continue.elim (motive_2:=P) e (bw h) k
def Cf(e:Stmt):Bool:=aS e.ctorIdx 25
def zE(e:Stmt)(f:PySem.Expr→Option PySem.Expr→Bool):Bool:=if h:e.ctorIdx=19 then el (motive_2:=λZ=>Bool) e h λa b Z=>f a b else false
theorem JF{e:Stmt}{f:PySem.Expr→Option PySem.Expr→Bool}{P:Stmt→Prop}(h:zE e f=true)(kk:∀a b p,f a b=true→P (.Assert a b p)):P e:=
 (dt h).elim λq g=>el (motive_2:=λe=>∀q,el (motive_2:=λZ=>Bool) e q (λa b Z=>f a b)=true→P e) e q (λa b p Z g=>kk a b p g) q g
def LQ(e:Stmt)(f:List Stmt→List ExceptHandler→List Stmt→List Stmt→Bool):Bool:=if h:e.ctorIdx=17 then fm (motive_2:=λZ=>Bool) e h λa b c d Z=>f a b c d else false
theorem Nb{e:Stmt}{f:List Stmt→List ExceptHandler→List Stmt→List Stmt→Bool}{P:Stmt→Prop}(h:LQ e f=true)(kk:∀a b c d p,f a b c d=true→P (.Try a b c d p)):P e:=
 (dt h).elim λq g=>fm (motive_2:=λe=>∀q,fm (motive_2:=λZ=>Bool) e q (λa b c d Z=>f a b c d)=true→P e) e q (λa b c d p Z g=>kk a b c d p g) q g
def one{α:Type}(l:List α)(f:α→Bool):Bool:=l.casesOn false λa l=>l.casesOn (f a) λZ Z=>false
theorem qD{α:Type}{l:List α}{f:α→Bool}{P:List α→Prop}(h:one l f=true)(k:∀a,f a=true→P [a]):P l:=l.casesOn (motive:=λl=>one l f=true→P l) (λh=>nomatch h) (λa l=>l.casesOn (λh=>k a h) λZ Z h=>nomatch h) h
def all2{α β:Type}(f:α→β→Bool)(l:List α):List β→Bool:=l.rec (λm=>m.casesOn true λZ Z=>false) λa Z ih m=>m.casesOn false λb m=>(f a b).and (ih m)
def jJ(o:Expr):Bool:=(iq o λZ=>true)||((k7 o λZ Z Z=>true)||((mJ o λZ Z=>true)||((mT o λZ=>true)||j7 o λf Z Z Z=>k7 f λZ Z Z=>true)))
def notStar(e:Expr):Bool:=!(aS e.ctorIdx 22)
def kK(e:Expr):Bool:=!(aS e.ctorIdx 26)
def kN(e:Expr):Bool:=!(aS e.ctorIdx 8)&&!(aS e.ctorIdx 9)&&!(aS e.ctorIdx 10)
def JX(te ve:Expr):Bool:=(iq te λZ=>true)||((xZ te λZ=>true)&&((iq ve λZ=>true)||((j7 ve λZ Z Z Z=>true)||((mJ ve λZ Z=>true)||k7 ve λZ Z Z=>true))))
def tD(m:ME):Bool:=!(aS m.ctorIdx 0||aS m.ctorIdx 26)
def pT(K:Frag)(sc:Scope)(e:Expr)(v:Value):Bool:=iq e λn=>iU K sc n v||ri K sc n v
def kE(m:ME):List Nm:=ME.rec (motive_1:=λZ=>List Nm) (motive_2:=λZ=>List Nm) (motive_3:=λZ=>List Nm) (motive_4:=λZ=>List Nm) (motive_5:=λZ=>List Nm) [] [] (λZ=>[]) (λZ=>[]) (λZ=>[]) (λZ=>[]) (λx=>[x]) (λZ Z a=>a) (λZ Z a b=>a++b) (λZ Z Z Z Z Z=>[]) (λZ Z=>[]) (λZ Z Z a b=>a++b) (λZ Z Z a b=>a++b) (λZ Z Z=>[]) (λZ Z Z Z a b c=>a++(b++c)) (λZ Z a=>a) (λZ Z Z=>[]) (λZ Z Z a b=>a++b) (λZ a=>a) (λZ a=>a) (λZ a=>a) (λZ Z Z a b c=>a++(b++c)) (λZ Z Z a b=>a++b) (λZ a=>a) (λZ a=>a) [] (λZ Z Z Z Z Z Z=>[]) [] (λZ Z=>[]) [] (λZ Z a b=>a++b) [] (λZ Z a b=>a++b) (λZ Z a=>a) m
def jD(m:List ME):List Nm:=ME.rec_2 (motive_1:=λZ=>List Nm) (motive_2:=λZ=>List Nm) (motive_3:=λZ=>List Nm) (motive_4:=λZ=>List Nm) (motive_5:=λZ=>List Nm) [] [] (λZ=>[]) (λZ=>[]) (λZ=>[]) (λZ=>[]) (λx=>[x]) (λZ Z a=>a) (λZ Z a b=>a++b) (λZ Z Z Z Z Z=>[]) (λZ Z=>[]) (λZ Z Z a b=>a++b) (λZ Z Z a b=>a++b) (λZ Z Z=>[]) (λZ Z Z Z a b c=>a++(b++c)) (λZ Z a=>a) (λZ Z Z=>[]) (λZ Z Z a b=>a++b) (λZ a=>a) (λZ a=>a) (λZ a=>a) (λZ Z Z a b c=>a++(b++c)) (λZ Z Z a b=>a++b) (λZ a=>a) (λZ a=>a) [] (λZ Z Z Z Z Z Z=>[]) [] (λZ Z=>[]) [] (λZ Z a b=>a++b) [] (λZ Z a b=>a++b) (λZ Z a=>a) m
def sY(inner:Scope)(fr:List Nm):Bool:=(inner.names.all λx=>x.2!=.free||fr.any λy=>y.str==x.1)&&fr.all λy=>inner.names.lookup y.str==some .free
def qY(sc inner:Scope):Bool:=inner.kind==.function&&inner.names.all (λx=>x.2!=.cell)&&inner.names.all (λx=>inner.names.lookup x.1==some x.2)&&
 inner.names.all (λx=>x.2!=.free||sc.names.lookup x.1==some .cell||sc.names.lookup x.1==some .free)&&!inner.isGenerator&&!inner.isCoroutine
def Nl(sc:Scope)(e:Expr)(t:Tg):Bool:=t.casesOn (λx=>iq e λy=>decide (y=x.str)&&rg sc x) λx=>iq e λy=>decide (y=x.str)&&sc.names.lookup x.str==some .cell
def Ik(sc:Scope)(es:List Expr)(l:List Tg):Bool:=all2 (λe t=>notStar e&&Nl sc e t) es l
def p9(sc:Scope)(e:Expr)(t:sJ):Bool:=t.casesOn (Nl sc e) λl=>xZ e λes=>Ik sc es l
def vH(v:Value)(f:Int→Tok→Bool):Bool:=if h:v.ctorIdx=fO (.int 0 0)then Value.int.elim (motive:=λZ=>Bool) v h f else false
theorem Ee{v:Value}{f:Int→Tok→Bool}{P:Value→Prop}(h:vH v f=true)(kk:∀i t,f i t=true→P (.int i t)):P v:=
 (dt h).elim λq g=>Value.int.elim (motive:=λe=>∀q,Value.int.elim (motive:=λZ=>Bool) e q f=true→P e) v q (λi t Z g=>kk i t g) q g
def iB(K:Frag)(m:ME):Scope→Expr→Bool:=ME.rec (motive_1:=λZ=>Scope→Expr→Bool) (motive_2:=λZ=>Scope→Option Expr→Bool) (motive_3:=λZ=>Scope→List Expr→Bool) (motive_4:=λZ=>Scope→List Keyword→Bool) (motive_5:=λZ=>Scope→Keyword→Bool)
 (λZ Z=>true)
 (λZ e=>mT e λc=>decide (c=.none))
 (λb Z e=>mT e λc=>decide (c=.bool b))
 (λi sc e=>(mT e λc=>decide (c=.int i))||iq e λx=>(nsIn K mainGlobals x).casesOn false λo=>o.casesOn false λv=>vH v λj t=>decide (j=i)&&iU K sc x (.int j t))
 (λs Z e=>mT e λc=>decide (c=.str s))
 (λx sc e=>iq e λy=>decide (y=x.str)&&rg sc x)
 (λx sc e=>iq e λy=>decide (y=x.str)&&Ci sc x)
 (λZ x a sc e=>k7 e λo y Z=>decide (y=x.str)&&(jJ o&&a sc o))
 (λZ Z a b sc e=>mJ e λo i=>kK i&&(a sc o&&b sc i))
 (λZ Z Z a b c sc e=>mJ e λo s=>wL s λl h st=>st.isNone&&(a sc o&&(b sc l&&c sc h)))
 (λZ a sc e=>mJ e λo s=>wL s λl h st=>l.isNone&&(h.isNone&&(a sc o&&st.casesOn false λu=>Dl u λop x=>decide (op=.USub)&&mT x λc=>decide (c=.int 1))))
 (λf Z ks a b sc e=>j7 e λfe as kws p=>((iq fe λx=>iU K sc x (.ref f.addr))&&(a sc as&&b sc kws))||
  (ks.isEmpty&&(kws.isEmpty&&(decide (as.length<20)&&(a sc as&&k7 fe λce y p2=>(p2.endLine==p.line)&&iq ce λx=>wg.any λq=>iU K sc x (.ref q.1.addr)&&(decide (y=q.2.1.str)&&decide (q.2.2=f)))))))
 (λc Z Z a b sc e=>j7 e λfe as kws Z=>(iq fe λx=>iU K sc x (.ref c.addr))&&(a sc as&&b sc kws))
 (λx Z a sc e=>j7 e λfe as kws Z=>kws.isEmpty&&(rg sc x&&(a sc as&&iq fe λy=>decide (y=x.str))))
 (λZ m Z Z a b c sc e=>j7 e λfe as kws p=>k7 fe λoe y p2=>decide (y=m.str)&&(jJ oe&&((p2.endLine==p.line)&&(decide (as.length+kws.length<20)&&(a sc oe&&(b sc as&&c sc kws))))))
 (λb Z a sc e=>j7 e λfe as kws Z=>kws.isEmpty&&(ri K sc b.name b.val&&(a sc as&&iq fe λy=>decide (y=b.name))))
 (λZ v a sc e=>j7 e λfe as kws Z=>kws.isEmpty&&(ri K sc "isinstance" (.builtin "isinstance")&&((iq fe λy=>decide (y="isinstance"))&&as.casesOn false λee r=>one r λte=>pT K sc te v&&a sc ee)))
 (λop Z Z a b sc e=>D3 e λl ops rs=>(one ops λo=>decide (o=op))&&one rs λr=>(!behindInMarks op r)&&(a sc l&&b sc r))
 (λZ a sc e=>ti e λo vs=>decide (o=.And)&&a sc vs)
 (λZ a sc e=>ti e λo vs=>decide (o=.Or)&&a sc vs)
 (λZ a sc e=>Dl e λo x=>decide (o=.Not)&&a sc x)
 (λZ Z Z a b c sc e=>Lx e λt x y=>a sc t&&(b sc x&&c sc y))
 (λop Z Z a b sc e=>EL e λl o r=>decide (o=op)&&(a sc l&&b sc r))
 (λZ a sc e=>Ap e (a sc))
 (λZ a sc e=>xZ e (a sc))
 (λZ e=>Av e λk v=>k.isEmpty&&v.isEmpty)
 (λm t Z ms a b c sc e=>zy e λee gs inner=>one gs λg=>g.casesOn λtarget iter ifs n=>decide (n=0)&&(qY sc inner&&(sY inner (kE m++jD ms)&&(p9 inner target t&&(b sc iter&&(c inner ifs&&a inner ee))))))
 (λZ e=>e.isNone)
 (λZ a sc e=>e.casesOn false (a sc))
 (λZ es=>es.isEmpty)
 (λZ Z a b sc es=>es.casesOn false λe es=>notStar e&&(a sc e&&b sc es))
 (λZ ks=>ks.isEmpty)
 (λZ Z a b sc ks=>ks.casesOn false λk ks=>a sc k&&b sc ks)
 (λn Z a sc k=>k.casesOn λarg v Z=>decide (arg=some n.str)&&a sc v) m
def G2(K:Frag)(m:Option ME):Scope→Option Expr→Bool:=ME.rec_1 (motive_1:=λZ=>Scope→Expr→Bool) (motive_2:=λZ=>Scope→Option Expr→Bool) (motive_3:=λZ=>Scope→List Expr→Bool) (motive_4:=λZ=>Scope→List Keyword→Bool) (motive_5:=λZ=>Scope→Keyword→Bool)
 (λZ Z=>true)
 (λZ e=>mT e λc=>decide (c=.none))
 (λb Z e=>mT e λc=>decide (c=.bool b))
 (λi sc e=>(mT e λc=>decide (c=.int i))||iq e λx=>(nsIn K mainGlobals x).casesOn false λo=>o.casesOn false λv=>vH v λj t=>decide (j=i)&&iU K sc x (.int j t))
 (λs Z e=>mT e λc=>decide (c=.str s))
 (λx sc e=>iq e λy=>decide (y=x.str)&&rg sc x)
 (λx sc e=>iq e λy=>decide (y=x.str)&&Ci sc x)
 (λZ x a sc e=>k7 e λo y Z=>decide (y=x.str)&&(jJ o&&a sc o))
 (λZ Z a b sc e=>mJ e λo i=>kK i&&(a sc o&&b sc i))
 (λZ Z Z a b c sc e=>mJ e λo s=>wL s λl h st=>st.isNone&&(a sc o&&(b sc l&&c sc h)))
 (λZ a sc e=>mJ e λo s=>wL s λl h st=>l.isNone&&(h.isNone&&(a sc o&&st.casesOn false λu=>Dl u λop x=>decide (op=.USub)&&mT x λc=>decide (c=.int 1))))
 (λf Z ks a b sc e=>j7 e λfe as kws p=>((iq fe λx=>iU K sc x (.ref f.addr))&&(a sc as&&b sc kws))||
  (ks.isEmpty&&(kws.isEmpty&&(decide (as.length<20)&&(a sc as&&k7 fe λce y p2=>(p2.endLine==p.line)&&iq ce λx=>wg.any λq=>iU K sc x (.ref q.1.addr)&&(decide (y=q.2.1.str)&&decide (q.2.2=f)))))))
 (λc Z Z a b sc e=>j7 e λfe as kws Z=>(iq fe λx=>iU K sc x (.ref c.addr))&&(a sc as&&b sc kws))
 (λx Z a sc e=>j7 e λfe as kws Z=>kws.isEmpty&&(rg sc x&&(a sc as&&iq fe λy=>decide (y=x.str))))
 (λZ m Z Z a b c sc e=>j7 e λfe as kws p=>k7 fe λoe y p2=>decide (y=m.str)&&(jJ oe&&((p2.endLine==p.line)&&(decide (as.length+kws.length<20)&&(a sc oe&&(b sc as&&c sc kws))))))
 (λb Z a sc e=>j7 e λfe as kws Z=>kws.isEmpty&&(ri K sc b.name b.val&&(a sc as&&iq fe λy=>decide (y=b.name))))
 (λZ v a sc e=>j7 e λfe as kws Z=>kws.isEmpty&&(ri K sc "isinstance" (.builtin "isinstance")&&((iq fe λy=>decide (y="isinstance"))&&as.casesOn false λee r=>one r λte=>pT K sc te v&&a sc ee)))
 (λop Z Z a b sc e=>D3 e λl ops rs=>(one ops λo=>decide (o=op))&&one rs λr=>(!behindInMarks op r)&&(a sc l&&b sc r))
 (λZ a sc e=>ti e λo vs=>decide (o=.And)&&a sc vs)
 (λZ a sc e=>ti e λo vs=>decide (o=.Or)&&a sc vs)
 (λZ a sc e=>Dl e λo x=>decide (o=.Not)&&a sc x)
 (λZ Z Z a b c sc e=>Lx e λt x y=>a sc t&&(b sc x&&c sc y))
 (λop Z Z a b sc e=>EL e λl o r=>decide (o=op)&&(a sc l&&b sc r))
 (λZ a sc e=>Ap e (a sc))
 (λZ a sc e=>xZ e (a sc))
 (λZ e=>Av e λk v=>k.isEmpty&&v.isEmpty)
 (λm t Z ms a b c sc e=>zy e λee gs inner=>one gs λg=>g.casesOn λtarget iter ifs n=>decide (n=0)&&(qY sc inner&&(sY inner (kE m++jD ms)&&(p9 inner target t&&(b sc iter&&(c inner ifs&&a inner ee))))))
 (λZ e=>e.isNone)
 (λZ a sc e=>e.casesOn false (a sc))
 (λZ es=>es.isEmpty)
 (λZ Z a b sc es=>es.casesOn false λe es=>notStar e&&(a sc e&&b sc es))
 (λZ ks=>ks.isEmpty)
 (λZ Z a b sc ks=>ks.casesOn false λk ks=>a sc k&&b sc ks)
 (λn Z a sc k=>k.casesOn λarg v Z=>decide (arg=some n.str)&&a sc v) m
def B7(K:Frag)(m:List ME):Scope→List Expr→Bool:=ME.rec_2 (motive_1:=λZ=>Scope→Expr→Bool) (motive_2:=λZ=>Scope→Option Expr→Bool) (motive_3:=λZ=>Scope→List Expr→Bool) (motive_4:=λZ=>Scope→List Keyword→Bool) (motive_5:=λZ=>Scope→Keyword→Bool)
 (λZ Z=>true)
 (λZ e=>mT e λc=>decide (c=.none))
 (λb Z e=>mT e λc=>decide (c=.bool b))
 (λi sc e=>(mT e λc=>decide (c=.int i))||iq e λx=>(nsIn K mainGlobals x).casesOn false λo=>o.casesOn false λv=>vH v λj t=>decide (j=i)&&iU K sc x (.int j t))
 (λs Z e=>mT e λc=>decide (c=.str s))
 (λx sc e=>iq e λy=>decide (y=x.str)&&rg sc x)
 (λx sc e=>iq e λy=>decide (y=x.str)&&Ci sc x)
 (λZ x a sc e=>k7 e λo y Z=>decide (y=x.str)&&(jJ o&&a sc o))
 (λZ Z a b sc e=>mJ e λo i=>kK i&&(a sc o&&b sc i))
 (λZ Z Z a b c sc e=>mJ e λo s=>wL s λl h st=>st.isNone&&(a sc o&&(b sc l&&c sc h)))
 (λZ a sc e=>mJ e λo s=>wL s λl h st=>l.isNone&&(h.isNone&&(a sc o&&st.casesOn false λu=>Dl u λop x=>decide (op=.USub)&&mT x λc=>decide (c=.int 1))))
 (λf Z ks a b sc e=>j7 e λfe as kws p=>((iq fe λx=>iU K sc x (.ref f.addr))&&(a sc as&&b sc kws))||
  (ks.isEmpty&&(kws.isEmpty&&(decide (as.length<20)&&(a sc as&&k7 fe λce y p2=>(p2.endLine==p.line)&&iq ce λx=>wg.any λq=>iU K sc x (.ref q.1.addr)&&(decide (y=q.2.1.str)&&decide (q.2.2=f)))))))
 (λc Z Z a b sc e=>j7 e λfe as kws Z=>(iq fe λx=>iU K sc x (.ref c.addr))&&(a sc as&&b sc kws))
 (λx Z a sc e=>j7 e λfe as kws Z=>kws.isEmpty&&(rg sc x&&(a sc as&&iq fe λy=>decide (y=x.str))))
 (λZ m Z Z a b c sc e=>j7 e λfe as kws p=>k7 fe λoe y p2=>decide (y=m.str)&&(jJ oe&&((p2.endLine==p.line)&&(decide (as.length+kws.length<20)&&(a sc oe&&(b sc as&&c sc kws))))))
 (λb Z a sc e=>j7 e λfe as kws Z=>kws.isEmpty&&(ri K sc b.name b.val&&(a sc as&&iq fe λy=>decide (y=b.name))))
 (λZ v a sc e=>j7 e λfe as kws Z=>kws.isEmpty&&(ri K sc "isinstance" (.builtin "isinstance")&&((iq fe λy=>decide (y="isinstance"))&&as.casesOn false λee r=>one r λte=>pT K sc te v&&a sc ee)))
 (λop Z Z a b sc e=>D3 e λl ops rs=>(one ops λo=>decide (o=op))&&one rs λr=>(!behindInMarks op r)&&(a sc l&&b sc r))
 (λZ a sc e=>ti e λo vs=>decide (o=.And)&&a sc vs)
 (λZ a sc e=>ti e λo vs=>decide (o=.Or)&&a sc vs)
 (λZ a sc e=>Dl e λo x=>decide (o=.Not)&&a sc x)
 (λZ Z Z a b c sc e=>Lx e λt x y=>a sc t&&(b sc x&&c sc y))
 (λop Z Z a b sc e=>EL e λl o r=>decide (o=op)&&(a sc l&&b sc r))
 (λZ a sc e=>Ap e (a sc))
 (λZ a sc e=>xZ e (a sc))
 (λZ e=>Av e λk v=>k.isEmpty&&v.isEmpty)
 (λm t Z ms a b c sc e=>zy e λee gs inner=>one gs λg=>g.casesOn λtarget iter ifs n=>decide (n=0)&&(qY sc inner&&(sY inner (kE m++jD ms)&&(p9 inner target t&&(b sc iter&&(c inner ifs&&a inner ee))))))
 (λZ e=>e.isNone)
 (λZ a sc e=>e.casesOn false (a sc))
 (λZ es=>es.isEmpty)
 (λZ Z a b sc es=>es.casesOn false λe es=>notStar e&&(a sc e&&b sc es))
 (λZ ks=>ks.isEmpty)
 (λZ Z a b sc ks=>ks.casesOn false λk ks=>a sc k&&b sc ks)
 (λn Z a sc k=>k.casesOn λarg v Z=>decide (arg=some n.str)&&a sc v) m
def Ib(K:Frag)(m:List (Nm×ME)):Scope→List Keyword→Bool:=ME.rec_3 (motive_1:=λZ=>Scope→Expr→Bool) (motive_2:=λZ=>Scope→Option Expr→Bool) (motive_3:=λZ=>Scope→List Expr→Bool) (motive_4:=λZ=>Scope→List Keyword→Bool) (motive_5:=λZ=>Scope→Keyword→Bool)
 (λZ Z=>true)
 (λZ e=>mT e λc=>decide (c=.none))
 (λb Z e=>mT e λc=>decide (c=.bool b))
 (λi sc e=>(mT e λc=>decide (c=.int i))||iq e λx=>(nsIn K mainGlobals x).casesOn false λo=>o.casesOn false λv=>vH v λj t=>decide (j=i)&&iU K sc x (.int j t))
 (λs Z e=>mT e λc=>decide (c=.str s))
 (λx sc e=>iq e λy=>decide (y=x.str)&&rg sc x)
 (λx sc e=>iq e λy=>decide (y=x.str)&&Ci sc x)
 (λZ x a sc e=>k7 e λo y Z=>decide (y=x.str)&&(jJ o&&a sc o))
 (λZ Z a b sc e=>mJ e λo i=>kK i&&(a sc o&&b sc i))
 (λZ Z Z a b c sc e=>mJ e λo s=>wL s λl h st=>st.isNone&&(a sc o&&(b sc l&&c sc h)))
 (λZ a sc e=>mJ e λo s=>wL s λl h st=>l.isNone&&(h.isNone&&(a sc o&&st.casesOn false λu=>Dl u λop x=>decide (op=.USub)&&mT x λc=>decide (c=.int 1))))
 (λf Z ks a b sc e=>j7 e λfe as kws p=>((iq fe λx=>iU K sc x (.ref f.addr))&&(a sc as&&b sc kws))||
  (ks.isEmpty&&(kws.isEmpty&&(decide (as.length<20)&&(a sc as&&k7 fe λce y p2=>(p2.endLine==p.line)&&iq ce λx=>wg.any λq=>iU K sc x (.ref q.1.addr)&&(decide (y=q.2.1.str)&&decide (q.2.2=f)))))))
 (λc Z Z a b sc e=>j7 e λfe as kws Z=>(iq fe λx=>iU K sc x (.ref c.addr))&&(a sc as&&b sc kws))
 (λx Z a sc e=>j7 e λfe as kws Z=>kws.isEmpty&&(rg sc x&&(a sc as&&iq fe λy=>decide (y=x.str))))
 (λZ m Z Z a b c sc e=>j7 e λfe as kws p=>k7 fe λoe y p2=>decide (y=m.str)&&(jJ oe&&((p2.endLine==p.line)&&(decide (as.length+kws.length<20)&&(a sc oe&&(b sc as&&c sc kws))))))
 (λb Z a sc e=>j7 e λfe as kws Z=>kws.isEmpty&&(ri K sc b.name b.val&&(a sc as&&iq fe λy=>decide (y=b.name))))
 (λZ v a sc e=>j7 e λfe as kws Z=>kws.isEmpty&&(ri K sc "isinstance" (.builtin "isinstance")&&((iq fe λy=>decide (y="isinstance"))&&as.casesOn false λee r=>one r λte=>pT K sc te v&&a sc ee)))
 (λop Z Z a b sc e=>D3 e λl ops rs=>(one ops λo=>decide (o=op))&&one rs λr=>(!behindInMarks op r)&&(a sc l&&b sc r))
 (λZ a sc e=>ti e λo vs=>decide (o=.And)&&a sc vs)
 (λZ a sc e=>ti e λo vs=>decide (o=.Or)&&a sc vs)
 (λZ a sc e=>Dl e λo x=>decide (o=.Not)&&a sc x)
 (λZ Z Z a b c sc e=>Lx e λt x y=>a sc t&&(b sc x&&c sc y))
 (λop Z Z a b sc e=>EL e λl o r=>decide (o=op)&&(a sc l&&b sc r))
 (λZ a sc e=>Ap e (a sc))
 (λZ a sc e=>xZ e (a sc))
 (λZ e=>Av e λk v=>k.isEmpty&&v.isEmpty)
 (λm t Z ms a b c sc e=>zy e λee gs inner=>one gs λg=>g.casesOn λtarget iter ifs n=>decide (n=0)&&(qY sc inner&&(sY inner (kE m++jD ms)&&(p9 inner target t&&(b sc iter&&(c inner ifs&&a inner ee))))))
 (λZ e=>e.isNone)
 (λZ a sc e=>e.casesOn false (a sc))
 (λZ es=>es.isEmpty)
 (λZ Z a b sc es=>es.casesOn false λe es=>notStar e&&(a sc e&&b sc es))
 (λZ ks=>ks.isEmpty)
 (λZ Z a b sc ks=>ks.casesOn false λk ks=>a sc k&&b sc ks)
 (λn Z a sc k=>k.casesOn λarg v Z=>decide (arg=some n.str)&&a sc v) m
def gz(K:Frag)(sc:Scope)(e:Expr)(m:ME):Prop:=iB K m sc e=true
def iZ(K:Frag)(sc:Scope)(e:List Expr)(m:List ME):Prop:=B7 K m sc e=true
def m7(K:Frag)(sc:Scope)(e:List Keyword)(m:List (Nm×ME)):Prop:=Ib K m sc e=true
def vB(K:Frag)(sc:Scope)(e:Option Expr)(m:Option ME):Prop:=G2 K m sc e=true
def rB(sc:Scope)(e:Expr)(m:Tg):Prop:=Nl sc e m=true
def oX(sc:Scope)(e:List Expr)(m:List Tg):Prop:=Ik sc e m=true
def lp(sc:Scope)(e:Expr)(m:sJ):Prop:=p9 sc e m=true
theorem jL{p:Prop}{d:Decidable p}(h:decide p=true):p:=of_decide_eq_true h
theorem at2{a b c:Bool}(h:a.and (b.and c)=true):b=true∧c=true:=f7 (f7 h).2
theorem N5{a b c d:Bool}(h:a.and (b.and (c.and d))=true):c=true∧d=true:=f7 (at2 h).2
theorem X9{a b c d e:Bool}(h:a.and (b.and (c.and (d.and e)))=true):d=true∧e=true:=f7 (N5 h).2
theorem Yf{a b c d e f:Bool}(h:a.and (b.and (c.and (d.and (e.and f))))=true):e=true∧f=true:=f7 (X9 h).2
theorem Xb{a b c d e f g:Bool}(h:a.and (b.and (c.and (d.and (e.and (f.and g)))))=true):f=true∧g=true:=f7 (Yf h).2
theorem tU{a b:Bool}(h:(a||b)=true):a=true∨b=true:=Bool.or_eq_true_iff.mp h
theorem oK{b:Bool}:(!b)=true→b=false:=b.casesOn (λZ=>rfl) λh=>nomatch h
theorem ee{α:Type}{a b:α}{d:Decidable (a=b)}{P:α→Prop}(h:decide (a=b)=true)(p:P b):P a:=(of_decide_eq_true h).symm▸p
theorem ei{α:Type}{l:List α}{P:List α→Prop}(h:l.isEmpty=true)(p:P []):P l:=(List.isEmpty_iff.mp h).symm▸p
theorem en{α:Type}{l:Option α}{P:Option α→Prop}(h:l.isNone=true)(p:P none):P l:=(Option.isNone_iff_eq_none.mp h).symm▸p
section
variable{K:Frag}{sc:Scope}{ex:Expr}{P:Expr→Prop}
@[elab_as_elim] theorem gz.n5(c:gz K sc ex .n5)(k:∀a p,P (.Constant .none a p)):P ex:=su c λZ a p g=>(jL g).symm▸(k a p)
@[elab_as_elim] theorem gz.sL{b:Bool}(c:gz K sc ex (.sL b))(k:∀a p,P (.Constant (.bool b) a p)):P ex:=su c λZ a p g=>(jL g).symm▸(k a p)
@[elab_as_elim] theorem gz.str{s:Str}(c:gz K sc ex (.str s))(k:∀a p,P (.Constant (.str s) a p)):P ex:=su c λZ a p g=>(jL g).symm▸(k a p)
@[elab_as_elim] theorem gz.int{i:Int}(c:gz K sc ex (.int i))(k1:∀a p,P (.Constant (.int i) a p))(k2:∀n p t,iU K sc n (.int i t)=true→P (.Name n p)):P ex:=
 (tU c).elim (λc=>su c λZ a p g=>(jL g).symm▸(k1 a p)) λc=>iD c λn p g=>by
  revert g
  cases nsIn K mainGlobals n with
  |none=>exactλg=>nomatch g
  |some o=>
   cases o with
   |none=>exactλg=>nomatch g
   |some v=>exactλg=>Ee (P:=λZ=>P (.Name n p)) g λj t g=>k2 n p t (ee (P:=λj=>iU K sc n (.int j t)=true→iU K sc n (.int i t)=true) (f7 g).1 id (f7 g).2)
@[elab_as_elim] theorem gz.var{x:Nm}(c:gz K sc ex (.var x))(k:∀p,rg sc x=true→P (.Name x.str p)):P ex:=iD c λZ p g=>(jL (f7 g).1).symm▸(k p (f7 g).2)
@[elab_as_elim] theorem gz.iN{x:Nm}(c:gz K sc ex (.iN x))(k:∀p,Ci sc x=true→P (.Name x.str p)):P ex:=iD c λZ p g=>(jL (f7 g).1).symm▸(k p (f7 g).2)
@[elab_as_elim] theorem gz.attr{mo:ME}{a:Nm}(c:gz K sc ex (.attr mo a))(k:∀o p,jJ o=true→gz K sc o mo→P (.Attribute o a.str p)):P ex:=
 lZ c λo Z p g=>(jL (f7 g).1).symm▸(k o p (f7 (f7 g).2).1 (f7 (f7 g).2).2)
@[elab_as_elim] theorem gz.idx{mo mi:ME}(c:gz K sc ex (.idx mo mi))(k:∀o i p,kK i=true→gz K sc o mo→gz K sc i mi→P (.Subscript o i p)):P ex:=
 nC c λo i p g=>k o i p (f7 g).1 (f7 (f7 g).2).1 (f7 (f7 g).2).2
@[elab_as_elim] theorem gz.yb{mo:ME}{Zl mhi:Option ME}(c:gz K sc ex (.yb mo Zl mhi))(k:∀o lo hi p q,gz K sc o mo→vB K sc lo Zl→vB K sc hi mhi→P (.Subscript o (.Slice lo hi none p) q)):P ex:=
 nC c λo s p g=>xa (P:=λs=>P (.Subscript o s p)) g λl h Z q g=>have g':=f7 g;en (P:=λs=>P (.Subscript o (.Slice l h s q) p)) g'.1 (k o l h q p (f7 g'.2).1 (f7 (f7 g'.2).2).1 (f7 (f7 g'.2).2).2)
@[elab_as_elim] theorem gz.rev{mo:ME}(c:gz K sc ex (.rev mo))(k:∀o a p1 p2 p q,gz K sc o mo→P (.Subscript o (.Slice none none (some (.UnaryOp .USub (.Constant (.int 1) a p1) p2)) p) q)):P ex:=
 nC c λo s p g=>xa (P:=λs=>P (.Subscript o s p)) g λl h st q g=>by
  have g1:=f7 g
  have g2:=f7 g1.2
  have g3:=f7 g2.2
  refine en (P:=λl=>P (.Subscript o (.Slice l h st q) p)) g1.1 (en (P:=λh=>P (.Subscript o (.Slice none h st q) p)) g2.1 ?_)
  revert g3
  cases st with
  |none=>exactλg3=>nomatch g3.2
  |some u=>
   exactλg3=>Cb (P:=λu=>P (.Subscript o (.Slice none none (some u) q) p)) g3.2 λop x p2 g4=>ee (P:=λop=>P (.Subscript o (.Slice none none (some (.UnaryOp op x p2)) q) p)) (f7 g4).1<|
    (su (P:=λx=>P (.Subscript o (.Slice none none (some (.UnaryOp .USub x p2)) q) p)) (f7 g4).2 λc a p1 g5=>ee (P:=λc=>P (.Subscript o (.Slice none none (some (.UnaryOp .USub (.Constant c a p1) p2)) q) p)) g5 (k o a p1 p2 q p g3.1))
@[elab_as_elim] theorem gz.fn{f:Fn}{as:List ME}{ks:List (Nm×ME)}(c:gz K sc ex (.fn f as ks))(k1:∀n p1 args kws p,iU K sc n (.ref f.addr)=true→iZ K sc args as→m7 K sc kws ks→P (.Call (.Name n p1) args kws p))
  (k2:∀n p1 p2 args p q,ks=[]→iU K sc n (.ref q.1.addr)=true→q∈wg→q.2.2=f→(p2.endLine==p.line)=true→args.length<20→iZ K sc args as→P (.Call (.Attribute (.Name n p1) q.2.1.str p2) args [] p)):P ex:=
 kj c λfe args kws p g=>(tU g).elim (λg=>iD (P:=λfe=>P (.Call fe args kws p)) (f7 g).1 λn p1 g1=>k1 n p1 args kws p g1 (f7 (f7 g).2).1 (f7 (f7 g).2).2) λg=>
  have g1:=f7 g
  have g2:=f7 g1.2
  have g3:=f7 g2.2
  have g4:=f7 g3.2
  ei (P:=λkws=>P (.Call fe args kws p)) g2.1 (lZ (P:=λfe=>P (.Call fe args [] p)) g4.2 λce y p2 g5=>iD (P:=λce=>P (.Call (.Attribute ce y p2) args [] p)) (f7 g5).2 λn p1 g7=>
   (List.any_eq_true.mp g7).elim λq g8=>have g9:=f7 (f7 g8.2).2;ee (P:=λy=>P (.Call (.Attribute (.Name n p1) y p2) args [] p)) g9.1 (k2 n p1 p2 args p q (List.isEmpty_iff.mp g1.1) (f7 g8.2).1 g8.1 (jL g9.2) (f7 g5).1 (jL g3.1) g4.1))
@[elab_as_elim] theorem gz.mk{cl:pL}{as:List ME}{ks:List (Nm×ME)}(c:gz K sc ex (.mk cl as ks))(k:∀n p1 args kws p,iU K sc n (.ref cl.addr)=true→iZ K sc args as→m7 K sc kws ks→P (.Call (.Name n p1) args kws p)):P ex:=
 kj c λfe args kws p g=>iD (P:=λfe=>P (.Call fe args kws p)) (f7 g).1 λn p1 g1=>k n p1 args kws p g1 (f7 (f7 g).2).1 (f7 (f7 g).2).2
@[elab_as_elim] theorem gz.AP{x:Nm}{as:List ME}(c:gz K sc ex (.AP x as))(k:∀p1 args p,rg sc x=true→iZ K sc args as→P (.Call (.Name x.str p1) args [] p)):P ex:=
 kj c λfe args kws p g=>ei (P:=λkws=>P (.Call fe args kws p)) (f7 g).1 (iD (P:=λfe=>P (.Call fe args [] p)) (N5 g).2 λn p1 g4=>ee (P:=λn=>P (.Call (.Name n p1) args [] p)) g4 (k p1 args p (at2 g).1 (N5 g).1))
@[elab_as_elim] theorem gz.gn{mo:ME}{a:Nm}{as:List ME}{ks:List (Nm×ME)}(c:gz K sc ex (.gn mo a as ks))(k:∀o p2 args kws p,jJ o=true→(p2.endLine==p.line)=true→args.length+kws.length<20→gz K sc o mo→iZ K sc args as→m7 K sc kws ks→P (.Call (.Attribute o a.str p2) args kws p)):P ex:=
 kj c λfe args kws p g=>lZ (P:=λfe=>P (.Call fe args kws p)) g λo y p2 g=>
  ee (P:=λy=>P (.Call (.Attribute o y p2) args kws p)) (f7 g).1 (k o p2 args kws p (at2 g).1 (N5 g).1 (jL (X9 g).1) (Yf g).1 (Xb g).1 (Xb g).2)
@[elab_as_elim] theorem gz.bi{b:Bi}{as:List ME}(c:gz K sc ex (.bi b as))(k:∀p1 args p,ri K sc b.name b.val=true→iZ K sc args as→P (.Call (.Name b.name p1) args [] p)):P ex:=
 kj c λfe args kws p g=>ei (P:=λkws=>P (.Call fe args kws p)) (f7 g).1 (iD (P:=λfe=>P (.Call fe args [] p)) (N5 g).2 λn p1 g4=>ee (P:=λn=>P (.Call (.Name n p1) args [] p)) g4 (k p1 args p (at2 g).1 (N5 g).1))
@[elab_as_elim] theorem gz.Fz{m:ME}{v:Value}(c:gz K sc ex (.Fz m v))(k:∀p1 e te p,ri K sc "isinstance" (.builtin "isinstance")=true→pT K sc te v=true→gz K sc e m→P (.Call (.Name "isinstance" p1) [e,te] [] p)):P ex:=
 kj c λfe args kws p g=>by
  refine ei (P:=λkws=>P (.Call fe args kws p)) (f7 g).1 (iD (P:=λfe=>P (.Call fe args [] p)) (N5 g).1 λn p1 g4=>ee (P:=λn=>P (.Call (.Name n p1) args [] p)) g4 ?_)
  cases args with
  |nil=>exact nomatch (N5 g).2
  |cons ee r=>exact qD (P:=λr=>P (.Call (.Name "isinstance" p1) (ee::r) [] p)) (N5 g).2 λte g5=>k p1 ee te p (at2 g).1 (f7 g5).1 (f7 g5).2
@[elab_as_elim] theorem gz.cmp{op:CmpOp}{ml mr:ME}(c:gz K sc ex (.cmp op ml mr))(k:∀l r p,behindInMarks op r=false→gz K sc l ml→gz K sc r mr→P (.Compare l [op] [r] p)):P ex:=
 DJ c λl ops rs p g=>qD (P:=λops=>P (.Compare l ops rs p)) (f7 g).1 λo g1=>qD (P:=λrs=>P (.Compare l [o] rs p)) (f7 g).2 λr g2=>
  ee (P:=λo=>P (.Compare l [o] [r] p)) g1 (k l r p (oK (f7 g2).1) (f7 (f7 g2).2).1 (f7 (f7 g2).2).2)
@[elab_as_elim] theorem gz.and{ms:List ME}(c:gz K sc ex (.and ms))(k:∀vs p,iZ K sc vs ms→P (.BoolOp .And vs p)):P ex:=u3 c λZ vs p g=>(jL (f7 g).1).symm▸(k vs p (f7 g).2)
@[elab_as_elim] theorem gz.or{ms:List ME}(c:gz K sc ex (.or ms))(k:∀vs p,iZ K sc vs ms→P (.BoolOp .Or vs p)):P ex:=u3 c λZ vs p g=>(jL (f7 g).1).symm▸(k vs p (f7 g).2)
@[elab_as_elim] theorem gz.not{m:ME}(c:gz K sc ex (.not m))(k:∀e p,gz K sc e m→P (.UnaryOp .Not e p)):P ex:=Cb c λZ e p g=>(jL (f7 g).1).symm▸(k e p (f7 g).2)
@[elab_as_elim] theorem gz.ite{mt mb mo:ME}(c:gz K sc ex (.ite mt mb mo))(k:∀t b o p,gz K sc t mt→gz K sc b mb→gz K sc o mo→P (.IfExp t b o p)):P ex:=
 Iz c λt b o p g=>k t b o p (f7 g).1 (f7 (f7 g).2).1 (f7 (f7 g).2).2
@[elab_as_elim] theorem gz.bin{op:Operator}{ml mr:ME}(c:gz K sc ex (.bin op ml mr))(k:∀l r p,gz K sc l ml→gz K sc r mr→P (.BinOp l op r p)):P ex:=
 DX c λl Z r p g=>(jL (f7 g).1).symm▸(k l r p (f7 (f7 g).2).1 (f7 (f7 g).2).2)
@[elab_as_elim] theorem gz.list{ms:List ME}(c:gz K sc ex (.list ms))(k:∀es p,iZ K sc es ms→P (.List es p)):P ex:=BZ c k
@[elab_as_elim] theorem gz.tup{ms:List ME}(c:gz K sc ex (.tup ms))(k:∀es a p,iZ K sc es ms→P (.Tuple es a p)):P ex:=uL c k
@[elab_as_elim] theorem gz.dict(c:gz K sc ex .dict)(k:∀p,P (.Dict [] [] p)):P ex:=Jx c λa b p g=>ei (P:=λa=>P (.Dict a b p)) (f7 g).1 (ei (P:=λb=>P (.Dict [] b p)) (f7 g).2 (k p))
@[elab_as_elim] theorem gz.comp{m mi:ME}{t:sJ}{ms:List ME}(c:gz K sc ex (.comp m t mi ms))(k:∀inner elt target iter ifs p,qY sc inner=true→sY inner (kE m++jD ms)=true→lp inner target t→gz K sc iter mi→iZ K inner ifs ms→gz K inner elt m→P (.ListComp elt [⟨target,iter,ifs,0⟩] inner p)):P ex:=
 B9 c λelt gs inner p g=>qD (P:=λgs=>P (.ListComp elt gs inner p)) g λgg g=>Comprehension.casesOn (motive_3:=λgg=>(gg.casesOn (motive_3:=λZ=>Bool) λtarget iter ifs n=>decide (n=0)&&(qY sc inner&&(sY inner (kE m++jD ms)&&(p9 inner target t&&(iB K mi sc iter&&(B7 K ms inner ifs&&iB K m inner elt))))))=true→P (.ListComp elt [gg] inner p)) gg (λtarget iter ifs n g=>
  ee (P:=λn=>P (.ListComp elt [⟨target,iter,ifs,n⟩] inner p)) (f7 g).1 (k inner elt target iter ifs p (at2 g).1 (N5 g).1 (X9 g).1 (Yf g).1 (Xb g).1 (Xb g).2)) g
@[elab_as_elim] theorem iZ.nil{es:List Expr}{P:List Expr→Prop}(c:iZ K sc es [])(k:P []):P es:=ei c k
@[elab_as_elim] theorem iZ.cons{es:List Expr}{P:List Expr→Prop}{m:ME}{ms:List ME}(c:iZ K sc es (m::ms))(k:∀e r,notStar e=true→gz K sc e m→iZ K sc r ms→P (e::r)):P es:=
 es.casesOn (motive:=λes=>iZ K sc es (m::ms)→P es) (λc=>nomatch c) (λe r c=>k e r (f7 c).1 (f7 (f7 c).2).1 (f7 (f7 c).2).2) c
@[elab_as_elim] theorem m7.nil{es:List Keyword}{P:List Keyword→Prop}(c:m7 K sc es [])(k:P []):P es:=ei c k
@[elab_as_elim] theorem m7.cons{es:List Keyword}{P:List Keyword→Prop}{n:Nm}{m:ME}{ms:List (Nm×ME)}(c:m7 K sc es ((n,m)::ms))(k:∀e p r,gz K sc e m→m7 K sc r ms→P (⟨some n.str,e,p⟩::r)):P es:=
 es.casesOn (motive:=λes=>m7 K sc es ((n,m)::ms)→P es) (λc=>nomatch c) (λe r c=>e.casesOn (motive_7:=λe=>Ib K ((n,m)::ms) sc (e::r)=true→P (e::r)) (λa v p c=>have g:=f7 (f7 c).1;ee (P:=λa=>P (⟨a,v,p⟩::r)) g.1 (k v p r g.2 (f7 c).2)) c) c
@[elab_as_elim] theorem vB.none{e:Option Expr}{P:Option Expr→Prop}(c:vB K sc e .none)(k:P .none):P e:=en c k
@[elab_as_elim] theorem vB.some{e:Option Expr}{P:Option Expr→Prop}{m:ME}(c:vB K sc e (.some m))(k:∀e,gz K sc e m→P (.some e)):P e:=e.casesOn (motive:=λe=>vB K sc e (.some m)→P e) (λc=>nomatch c) (λe c=>k e c) c
@[elab_as_elim] theorem rB.var{x:Nm}(c:rB sc ex (.var x))(k:∀p,rg sc x=true→P (.Name x.str p)):P ex:=iD c λZ p g=>(jL (f7 g).1).symm▸(k p (f7 g).2)
@[elab_as_elim] theorem rB.iN{x:Nm}(c:rB sc ex (.iN x))(k:∀p,sc.names.lookup x.str=some .cell→P (.Name x.str p)):P ex:=iD c λZ p g=>(jL (f7 g).1).symm▸(k p (beq_iff_eq.mp (f7 g).2))
@[elab_as_elim] theorem oX.nil{es:List Expr}{P:List Expr→Prop}(c:oX sc es [])(k:P []):P es:=es.casesOn (motive:=λes=>oX sc es []→P es) (λZ=>k) (λZ Z c=>nomatch c) c
@[elab_as_elim] theorem oX.cons{es:List Expr}{P:List Expr→Prop}{t:Tg}{ts:List Tg}(c:oX sc es (t::ts))(k:∀e r,notStar e=true→rB sc e t→oX sc r ts→P (e::r)):P es:=
 es.casesOn (motive:=λes=>oX sc es (t::ts)→P es) (λc=>nomatch c) (λe r c=>k e r (f7 (f7 c).1).1 (f7 (f7 c).1).2 (f7 c).2) c
@[elab_as_elim] theorem lp.tup{ts:List Tg}(c:lp sc ex (.tup ts))(k:∀es a p,oX sc es ts→P (.Tuple es a p)):P ex:=uL c k
end
end
mutual
structure nG(sc sc':Scope):Prop where
 loc:∀n,sc.names.lookup n=some .local→sc'.names.lookup n=some .local
 ZR:∀n,sc.names.lookup n=some .globalImplicit→sc'.names.lookup n=some .globalImplicit
 iN:∀n,sc.names.lookup n=some .cell→sc'.names.lookup n=some .cell
 fre:∀n,sc.names.lookup n=some .free→sc'.names.lookup n=some .cell∨sc'.names.lookup n=some .free
theorem gW{a b a' b':Bool}(h1:a=true→a'=true)(h2:b=true→b'=true)(h:(a&&b)=true):(a'&&b')=true:=Bool.and_eq_true_iff.mpr ⟨h1 (f7 h).1,h2 (f7 h).2⟩
theorem PU{a b a' b':Bool}(h1:a=true→a'=true)(h2:b=true→b'=true)(h:(a||b)=true):(a'||b')=true:=Bool.or_eq_true_iff.mpr ((tU h).imp h1 h2)
theorem K1{α:Type}[BEq α][LawfulBEq α]{a b c:α}(h:a=c→b=c)(e:(a==c)=true):(b==c)=true:=beq_iff_eq.mpr (h (beq_iff_eq.mp e))
section
variable{K:Frag}{sc sc':Scope}
theorem nG.rg(h:nG sc sc'){x:Nm}:rg sc x=true→rg sc' x=true:=gW (K1 (h.loc _)) id
theorem nG.iU(h:nG sc sc'){n:Str}{v:Value}:iU K sc n v=true→iU K sc' n v=true:=gW (gW (K1 (h.ZR _)) id) id
theorem nG.ri(h:nG sc sc'){n:Str}{v:Value}:ri K sc n v=true→ri K sc' n v=true:=gW (gW (gW (gW (K1 (h.ZR _)) id) id) id) id
theorem nG.cf(h:nG sc sc'){n:Str}(q:(sc.names.lookup n==some .cell||sc.names.lookup n==some .free)=true):(sc'.names.lookup n==some .cell||sc'.names.lookup n==some .free)=true:=
 Bool.or_eq_true_iff.mpr ((tU q).elim (λq=>.inl (K1 (h.iN _) q)) λq=>(h.fre _ (beq_iff_eq.mp q)).imp beq_iff_eq.mpr beq_iff_eq.mpr)
theorem nG.Ci(h:nG sc sc'){x:Nm}:Ci sc x=true→Ci sc' x=true:=gW (gW h.cf id) id
theorem nG.pT(h:nG sc sc'){e:Expr}{v:Value}(q:pT K sc e v=true):pT K sc' e v=true:=iD (P:=λe=>Mine.pT K sc' e v=true) q λc p=>PU h.iU h.ri
theorem nG.qY(h:nG sc sc'){inner:Scope}:qY sc inner=true→qY sc' inner=true:=
 gW (gW (gW id λq=>List.all_eq_true.mpr λx hx=>(λq=>by
  have q:(x.2!=.free||(sc.names.lookup x.1==some .cell||sc.names.lookup x.1==some .free))=true:=(Bool.or_assoc _ _ _).symm.trans q
  exact(Bool.or_assoc _ _ _).trans (PU id h.cf q)) (List.all_eq_true.mp q x hx)) id) id
def UR(K:Frag)(p:Nm×ME)(sc:Scope)(k:Keyword):Bool:=k.casesOn λarg v Z=>decide (arg=some p.1.str)&&iB K p.2 sc v
theorem gz.sub(h:nG sc sc'){m:ME}:∀e,gz K sc e m→gz K sc' e m:=ME.rec (motive_1:=λm=>∀e,iB K m sc e=true→iB K m sc' e=true) (motive_2:=λm=>∀e,G2 K m sc e=true→G2 K m sc' e=true)
 (motive_3:=λm=>∀e,B7 K m sc e=true→B7 K m sc' e=true) (motive_4:=λm=>∀e,Ib K m sc e=true→Ib K m sc' e=true) (motive_5:=λp=>∀k,UR K p sc k=true→UR K p sc' k=true)
 (λZ=>id) (λZ=>id) (λZ Z=>id)
 (λi e=>PU id λc=>iD (P:=λe=>iq e (λx=>(nsIn K mainGlobals x).casesOn false λo=>o.casesOn false λv=>vH v λj t=>decide (j=i)&&iU K sc' x (.int j t))=true) c λn p=>by
  show(nsIn K mainGlobals n).casesOn false (λo=>o.casesOn false λv=>vH v λj t=>decide (j=i)&&iU K sc n (.int j t))=true→(nsIn K mainGlobals n).casesOn false (λo=>o.casesOn false λv=>vH v λj t=>decide (j=i)&&iU K sc' n (.int j t))=true
  cases nsIn K mainGlobals n with
  |none=>exact id
  |some o=>
   cases o with
   |none=>exact id
   |some v=>exactλg=>Ee (P:=λv=>vH v (λj t=>decide (j=i)&&iU K sc' n (.int j t))=true) g λj t=>gW id h.iU)
 (λZ Z=>id) (λx e c=>iD (P:=λe=>iB K (.var x) sc' e=true) c λy p=>gW id h.rg) (λx e c=>iD (P:=λe=>iB K (.iN x) sc' e=true) c λy p=>gW id h.Ci)
 (λo x a e c=>lZ (P:=λe=>iB K (.attr o x) sc' e=true) c λo y p=>gW id (gW id (a o)))
 (λo i a b e c=>nC (P:=λe=>iB K (.idx o i) sc' e=true) c λo i p=>gW id (gW (a o) (b i)))
 (λm lo hi a b d e c=>nC (P:=λe=>iB K (.yb m lo hi) sc' e=true) c λo s p g=>xa (P:=λs=>iB K (.yb m lo hi) sc' (.Subscript o s p)=true) g λl h st q=>gW id (gW (a o) (gW (b l) (d h))))
 (λm a e c=>nC (P:=λe=>iB K (.rev m) sc' e=true) c λo s p g=>xa (P:=λs=>iB K (.rev m) sc' (.Subscript o s p)=true) g λl h st q=>gW id (gW id (gW (a o) id)))
 (λf as ks a b e c=>kj (P:=λe=>iB K (.fn f as ks) sc' e=true) c λfe es kws p=>PU (gW (λg=>iD (P:=λfe=>iq fe (λx=>iU K sc' x (.ref f.addr))=true) g λx p=>h.iU) (gW (a es) (b kws)))
  (gW id (gW id (gW id (gW (a es) λg=>lZ (P:=λfe=>k7 fe (λce y p2=>(p2.endLine==p.line)&&iq ce λx=>wg.any λq=>iU K sc' x (.ref q.1.addr)&&(decide (y=q.2.1.str)&&decide (q.2.2=f)))=true) g λce y p2=>
   gW id λg=>iD (P:=λce=>iq ce (λx=>wg.any λq=>iU K sc' x (.ref q.1.addr)&&(decide (y=q.2.1.str)&&decide (q.2.2=f)))=true) g λx p g=>List.any_eq_true.mpr ((List.any_eq_true.mp g).elim λq g=>⟨q,g.1,gW h.iU id g.2⟩))))))
 (λcl as ks a b e c=>kj (P:=λe=>iB K (.mk cl as ks) sc' e=true) c λfe es kws p=>gW (λg=>iD (P:=λfe=>iq fe (λx=>iU K sc' x (.ref cl.addr))=true) g λx p=>h.iU) (gW (a es) (b kws)))
 (λx as a e c=>kj (P:=λe=>iB K (.AP x as) sc' e=true) c λfe es kws p=>gW id (gW h.rg (gW (a es) id)))
 (λo m as ks a b d e c=>kj (P:=λe=>iB K (.gn o m as ks) sc' e=true) c λfe es kws p g=>lZ (P:=λfe=>iB K (.gn o m as ks) sc' (.Call fe es kws p)=true) g λoe y p2=>gW id (gW id (gW id (gW id (gW (a oe) (gW (b es) (d kws)))))))
 (λb as a e c=>kj (P:=λe=>iB K (.bi b as) sc' e=true) c λfe es kws p=>gW id (gW h.ri (gW (a es) id)))
 (λm v a e c=>kj (P:=λe=>iB K (.Fz m v) sc' e=true) c λfe es kws p=>gW id (gW h.ri (gW id (es.casesOn id λe1 r g=>qD (P:=λr=>one r (λte=>pT K sc' te v&&iB K m sc' e1)=true) g λte=>gW h.pT (a e1)))))
 (λop ml mr a b e c=>DJ (P:=λe=>iB K (.cmp op ml mr) sc' e=true) c λl ops rs p=>gW id λg=>qD (P:=λrs=>one rs (λr=>(!behindInMarks op r)&&(iB K ml sc' l&&iB K mr sc' r))=true) g λr=>gW id (gW (a l) (b r)))
 (λm a e c=>u3 (P:=λe=>iB K (.and m) sc' e=true) c λo vs p=>gW id (a vs)) (λm a e c=>u3 (P:=λe=>iB K (.or m) sc' e=true) c λo vs p=>gW id (a vs))
 (λm a e c=>Cb (P:=λe=>iB K (.not m) sc' e=true) c λo x p=>gW id (a x)) (λt x y a b d e c=>Iz (P:=λe=>iB K (.ite t x y) sc' e=true) c λt x y p=>gW (a t) (gW (b x) (d y)))
 (λop l r a b e c=>DX (P:=λe=>iB K (.bin op l r) sc' e=true) c λl o r p=>gW id (gW (a l) (b r))) (λm a e c=>BZ (P:=λe=>iB K (.list m) sc' e=true) c λes p=>a es) (λm a e c=>uL (P:=λe=>iB K (.tup m) sc' e=true) c λes k p=>a es)
 (λZ=>id) (λm t mi ms a b d e c=>B9 (P:=λe=>iB K (.comp m t mi ms) sc' e=true) c λelt gs inner p g=>qD (P:=λgs=>iB K (.comp m t mi ms) sc' (.ListComp elt gs inner p)=true) g λg=>g.casesOn λtg it ifs n=>gW id (gW h.qY (gW id (gW id (gW (b it) id)))))
 (λZ=>id) (λm a e=>e.casesOn id a) (λZ=>id) (λm ms a b es=>es.casesOn id λe es=>gW id (gW (a e) (b es))) (λZ=>id) (λm ms a b ks=>ks.casesOn id λk ks=>gW (a k) (b ks)) (λn m a k=>k.casesOn λarg v p=>gW id (a v)) m
end
end
mutual
def UG:Value:=.builtin "staticmethod.__get__"
structure QG(K:Frag)(c:pL):Prop where
 ga:findIn K (.ref c.addr) "__getattribute__"=some (some (.builtin "object.__getattribute__"))
 gx:findIn K (.ref c.addr) "__getattr__"=some none
 sa:findIn K (.ref c.addr) "__setattr__"=some (some (.builtin "object.__setattr__"))
 po:plainOver K c.addr=true
 hd:(clsIn K c.addr).any (·.hasDict)=true
 mks:makesIn K c.addr=true
 kp:keepIn K (.ref c.addr)=true
 attr:∀x:Nm,findIn K (.ref c.addr) x.str=some (c.attr x)
 tb:findIn K (.ref c.addr) "__bool__"=some none
 tl:findIn K (.ref c.addr) "__len__"=some none
structure Kt(K:Frag)(c:pL)(a:Nm)(f:Fn):Prop where
 ex:∃p rest,c.attr a=some (.ref p)∧recIn K p "staticmethod"=some (.ref f.addr::rest)∧specialIn K (.ref p) "__get__"=some (some UG)∧takesIn K (.ref p)=some false∧typeIn K (.ref p)=some (.type "staticmethod")∧
  readsIn K c.addr (.type "type")=true∧findCls K (.ref c.addr) (.type "type") a.str=some (.get UG (.ref p) .none (.ref c.addr))
 cp:copiedNames.contains a.str=false
 me:specialIn K (.ref c.addr) "__getattribute__"=some (some (.builtin "type.__getattribute__"))
structure gT(cx:Cx):Prop where
 X:cx.K.In cx.h0
 g:cx.h0.Ns mainGlobals cx.mg
 b:cx.h0.Ns builtinsNs cx.mb
 bb:∀x:Str,x≠"__name__"→cx.mb x=bootBuiltins x
 nolimit:cx.h0.NoLimit
 nodigits:∃mc,cx.h0.Ns cStatics mc∧mc "sys.int_max_str_digits"=none
 cls:∀c:pL,QG cx.K c
 S6:∀q∈wg,Kt cx.K q.1 q.2.1 q.2.2
 PT:findIn cx.K (.type "str") "__get__"=some none
 vT:isIn cx.K (.ref pL.Task.addr) pL.Task.addr=true
structure nU(A:Around)(d:Nat):Prop where
 hd:A.handled=none
 depth:A.depth+4*d+10≤900
 units:A.units+40*d+100≤9000
structure An(env:Env)(sc:Scope):Prop where
 scope:env.scope=sc
 kind:sc.kind=.function
 glob:env.globals=mainGlobals
 bi:env.builtins=builtinsNs
structure kO(cx:Cx)(φ:Ph)(σ:Hp)(s:Shared):Prop where
 rel:Rel cx φ σ s.heap
 gens:s.gens=#[]
 drawn:s.drawn=cx.drawn
 os:s.os=cx.os
structure xf(cx:Cx)(φ:Ph)(σ:Hp)(h:Heap)(env:Env)(ρ:Loc)(γ:Nm→Option I):Prop where
 ns:∃m,h.Ns env.locals m∧∀x v,ρ x=some v→∃y,m x.str=some y∧gJ h φ σ v y
 FV:¬FP cx φ σ env.locals
 RJ:cx.h0.get? env.locals=none
 iN:∀x r,γ x=some r→σ r≠none∧env.cells.lookup x.str=some (φ r).1
section
variable{cx:Cx}{d:Nat}{γ:Nm→Option I}{ρ:Loc}{σ σ' σ'':Hp}{φ φ' φ'':Ph}{s s' oZ:Shared}{A:Around}{env:Env}{sc:Scope}
theorem xf.ext{h h':Heap}(l:xf cx φ σ h env ρ γ)(R:Rel cx φ σ h)(x:Ext cx φ σ h φ' σ' h'):xf cx φ' σ' h' env ρ γ:=
 ⟨l.ns.elim λm u=>u.1.elim λo w=>w.elim λes w=>w.elim λep w=>⟨m,⟨o,es,ep,x.keep _ _ w.1 l.FV id,w.2⟩,λy v q=>(u.2 y v q).elim λz t=>⟨z,t.1,t.2.ext R x⟩⟩,
  l.ns.elim λm u=>u.1.elim λo w=>w.elim λes w=>w.elim λep w=>x.fp w.1 l.FV,l.RJ,λy r q=>have t:=l.iN y r q;⟨(x.tc r t.1).1,t.2.trans (congrArg (λq=>some q.1) (x.tc r t.1).2.symm)⟩⟩
theorem kO.toks(x:kO cx φ σ s)(t:Nat):kO cx φ σ {s with toks:=t}:=⟨x.rel,x.gens,x.drawn,x.os⟩
structure Go(cx:Cx)(φ:Ph)(σ:Hp)(s:Shared)(φ':Ph)(σ':Hp)(s':Shared):Prop where
 x:Ext cx φ σ s.heap φ' σ' s'.heap
 S:kO cx φ' σ' s'
theorem Go.refl(S:kO cx φ σ s):Go cx φ σ s φ σ s:=⟨.refl,S⟩
theorem Go.tok(S:kO cx φ σ s)(t:Nat):Go cx φ σ s φ σ {s with toks:=t}:=⟨.refl,S.toks t⟩
theorem Go.trans(g:Go cx φ σ s φ' σ' s')(g':Go cx φ' σ' s' φ'' σ'' oZ):Go cx φ σ s φ'' σ'' oZ:=⟨g.x.trans g'.x,g'.S⟩
theorem Go.toks(g:Go cx φ σ s φ' σ' s')(t:Nat):Go cx φ σ s φ' σ' {s' with toks:=t}:=⟨g.x,g.S.toks t⟩
structure Fm(cx:Cx)(d:Nat)(γ:Nm→Option I)(ρ:Loc)(σ:Hp)(sc:Scope)(A:Around)(env:Env)(φ:Ph)(s:Shared):Prop where
 hA:nU A d
 E:An env sc
 S:kO cx φ σ s
 L:xf cx φ σ s.heap env ρ γ
theorem Fm.go(F:Fm cx d γ ρ σ sc A env φ s)(g:Go cx φ σ s φ' σ' s'):Fm cx d γ ρ σ' sc A env φ' s':=⟨F.hA,F.E,g.S,F.L.ext F.S.rel g.x⟩
def KE(cx:Cx)(φ:Ph)(σ:Hp)(s:Shared)(Q:V→Hp→Prop)(Q':Value→Shared→Prop):Prop:=∀φ' σ' s' v y,Go cx φ σ s φ' σ' s'→gJ s'.heap φ' σ' v y→Q v σ'→Q' y s'
end
end
mutual
def kX:Value→Shared→Prop:=λZ Z=>False
section
variable(cx:Cx)(d:Nat)(m:ME)(γ:Nm→Option I)(ρ:Loc)(σ:Hp)
def WE(Q:V→Hp→Prop):Prop:=
 ∀sc ex,gz cx.K sc ex m→∀A env φ s,Fm cx d γ ρ σ sc A env φ s→∀Q',KE cx φ σ s Q Q'→aB (model cx.prog cx.w) A (eval ex env) Q' kX s
end
end
mutual
section
variable{cx:Cx}{d:Nat}{γ:Nm→Option I}{ρ:Loc}{σ:Hp}{φ:Ph}{s:Shared}{A:Around}{env:Env}{sc:Scope}{Q:V→Hp→Prop}
theorem Fm.kindOf(F:Fm cx d γ ρ σ sc A env φ s)(n:Str):env.kindOf n=sc.names.lookup n:=congrArg (λsc:Scope=>sc.names.lookup n) F.E.scope
theorem Fm.fn(F:Fm cx d γ ρ σ sc A env φ s):env.scope.kind=.function:=F.E.scope.symm▸F.E.kind
theorem iu(h:Q .none σ):WE cx d .n5 γ ρ σ Q:=λsc ex c A env φ s F Q' k=>c.n5 λZ Z=>wpAny_Constant_none (k φ σ s _ _ (.refl F.S) .none h)
theorem pJ{b:Bool}(h:Q (.bool b) σ):WE cx d (.sL b) γ ρ σ Q:=λsc ex c A env φ s F Q' k=>c.sL λZ Z=>wpAny_Constant_bool (k φ σ s _ _ (.refl F.S) (.bool b) h)
theorem gY{x:Str}(h:Q (.str x) σ):WE cx d (.str x) γ ρ σ Q:=λsc ex c A env φ s F Q' k=>c.str λZ Z=>wpAny_Constant_str (k φ σ _ _ _ (.tok F.S _) (.str _ _) h)
theorem gO(O:gT cx){i:Int}(h:Q (.int i) σ):WE cx d (.int i) γ ρ σ Q:=λsc ex c A env φ s F Q' k=>c.int (λZ Z=>wpAny_Constant_int (k φ σ _ _ _ (.tok F.S _) (.int _ _) h)) λn p t q=>
 have q1:=f7 q;have q2:=f7 q1.1
 Name_function_global F.fn ((F.kindOf n).trans (beq_iff_eq.mp q2.1)) (loadGlobal_global (F.E.glob.symm▸O.g.keeps F.S.rel.base) (mg_of O.X O.g (beq_iff_eq.mp q2.2)) (k φ σ s _ _ (.refl F.S) (.int _ _) h)) (oK q1.2)
theorem fV{x:Nm}{v:V}(hv:ρ x=some v)(h:Q v σ):WE cx d (.var x) γ ρ σ Q:=λsc ex c A env φ s F Q' k=>c.var λp q=>
 F.L.ns.elim λm u=>(u.2 x v hv).elim λy w=>wpAny_Name (wpAny_loadName_local F.fn ((F.kindOf _).trans (beq_iff_eq.mp (f7 q).1)) u.1 w.1 (k φ σ s _ _ (.refl F.S) w.2 h)) (oK (f7 q).2)
theorem gH{x:Nm}{r:I}{v:V}(hr:γ x=some r)(hv:σ r=some (.cell (some v)))(h:Q v σ):WE cx d (.iN x) γ ρ σ Q:=λsc ex c A env φ s F Q' k=>c.iN λp q=>
 have q1:=f7 q;have q2:=f7 q1.1;have w:=F.L.iN x r hr
 (F.S.rel.objs r _ hv).2.elim λo u=>u.elim λy u=>u.2.2.elim λz t=>
  have fin:=k φ σ s _ _ (.refl F.S) t.2 h
  have g:∃o,s.heap.get? (φ r).1=some o∧o.data=.cell (some z):=⟨o,u.1,u.2.1.trans (congrArg _ t.1)⟩
  wpAny_Name ((tU q2.1).elim (λq=>wpAny_loadName_cell F.fn ((F.kindOf _).trans (beq_iff_eq.mp q)) w.2 g fin) λq=>wpAny_loadName_free F.fn ((F.kindOf _).trans (beq_iff_eq.mp q)) w.2 g fin (oK q1.2)) (oK q2.2)
end
end
mutual
structure Plain(fd:FuncData)(ns:List Str):Prop where
 po:fd.params.posonlyargs=[]
 as:fd.params.args.map (·.arg)=ns
 va:fd.params.vararg=none
 ko:fd.params.kwonlyargs=[]
 kw:fd.params.kwarg=none
def B6(ns:List Str):List (Str×Value)→List (Str×Value)→Bool
 |_,[]=>true
 |sl,(k,v)::r=>ns.contains k&&(sl.lookup k).isNone&&B6 ns (sl++[(k,v)]) r
def DR:List (Str×Value)→List (Str×Value)→List (Str×Value)
 |sl,[]=>sl
 |sl,(n,d)::r=>DR (if (sl.lookup n).isNone then sl++[(n,d)]else sl) r
abbrev KS:=List (Str×Value)
theorem DY{ns:List Str}{ex:KS}{f:(Str×Value)→KS×KS→Sem (ForInStep (KS×KS))}
  (h:∀k v sl,ns.contains k=true→(sl.lookup k).isNone=true→f (k,v) (sl,ex)=pure (.yield (sl++[(k,v)],ex))):
  ∀(kw sl:KS),B6 ns sl kw=true→forIn kw (sl,ex) f=pure (sl++kw,ex)
 |[],sl,_=>by rw[fH,aU]
 |(k,v)::r,sl,e=>by
  simp only [B6,c7]at e
  rw[de,h k v sl e.1.1 e.1.2]
  show forIn r (sl++[(k,v)],ex) f=_
  rw[DY h r _ e.2,bD];rfl
theorem BA{f:(Str×Value)→KS→Sem (ForInStep KS)}
  (h:∀n d sl,f (n,d) sl=pure (.yield (if (sl.lookup n).isNone then sl++[(n,d)]else sl))):
  ∀(l sl:KS),forIn l sl f=pure (DR sl l)
 |[],sl=>by rw[fH];rfl
 |(n,d)::r,sl=>by
  rw[de,h n d sl]
  exact BA h r _
theorem tY{M:Model}{A:Around}{E:Value→Shared→Prop}{s:Shared}{α β:Type}{m:Sem α}{a:α}{f:α→Sem β}{Q:β→Shared→Prop}(e:m=pure a)(h:aB M A (f a) Q E s):aB M A (m >>=f) Q E s:=af (e▸aq h)
theorem xy{M:Model}{A:Around}{E:Value→Shared→Prop}{s:Shared}{α:Type}{c:Prop}{d:Decidable c}{x y:Sem α}{Q:α→Shared→Prop}(e:¬c)(h:aB M A y Q E s):aB M A (ite c x y) Q E s:=(if_neg e).symm▸h
theorem En{M:Model}{A:Around}{E:Value→Shared→Prop}{s:Shared}{α:Type}{a b:α}{Q:α→Shared→Prop}(e:a=b)(h:Q b s):aB M A (pure a) Q E s:=aq (e.symm▸h)
theorem Gm{fd:FuncData}{ns:List Str}{pos:List Value}{kw:List (Str×Value)}{ds:List Value}{s:Shared}{binds:List (Str×Value)}(P:Plain fd ns)
  (hd:∀(M:Model) (A:Around) (E:Value→Shared→Prop) (Q:Option (Array Value)→Shared→Prop),(∀x:Option (Array Value),(x.getD #[]).toList=ds→Q x s)→aB M A (seqItems? fd.defaults) Q E s)
  (hn:pos.length≤ns.length)(hk:B6 ns (ns.zip pos) kw=true)(hl:ds.length≤ns.length)
  (hm:((ns.take (ns.length - ds.length)).filter λn=>((ns.zip pos++kw).lookup n).isNone)=[])
  (hb:(ns.filterMap λn=>((DR (ns.zip pos++kw) ((ns.drop (ns.length - ds.length)).zip ds)).lookup n).map (n, ·))=binds):BindsTo s fd ⟨pos,kw⟩ binds:=by
 intro M A E Q q
 cases fd with
 |mk nm qn ps bd sc gl cl dV kV doc pm an cd ct bi=>
 cases ps with
 |mk po as va ko kd Xv df=>
 have h1:po=[]:=P.po
 have h2:as.map (·.arg)=ns:=P.as
 have h3:va=none:=P.va
 have h4:ko=[]:=P.ko
 have h5:Xv=none:=P.kw
 subst h1 h2 h3 h4 h5
 refine tY (DY (ns:=as.map (·.arg)) (ex:=[]) (λk v sl h1 h2=>?_) kw _ hk) ?_
 ·exact(if_pos (Bool.or_eq_true_iff.mpr (.inl h1))).trans (if_neg (by rw[Option.isNone_iff_eq_none.mp h2];exact aR))
 refine af (hd M A E _ λx hx=>?_)
 have Zt:((x.getD #[]).toList).drop ((x.getD #[]).toList.length - (as.map (·.arg)).length)=ds:=by rw[hx,Nat.sub_eq_zero_of_le hl];rfl
 refine xy (λh=>absurd (of_decide_eq_true (Bool.and_eq_true_iff.mp h).1) (Nat.not_lt.mpr hn)) (xy ?_ (tY (BA (λn d sl=>?_) _ _) (tY fH (xy aR (En ?_ q)))))
 ·show¬(!((List.filter (λn=>(List.lookup n ((as.map (·.arg)).zip pos++kw)).isNone) ((as.map (·.arg)).take ((as.map (·.arg)).length - (((x.getD #[]).toList).drop (((x.getD #[]).toList).length - (as.map (·.arg)).length)).length))).isEmpty))=true
  rw[Zt,hm]
  exact aR
 ·by_cases c:(sl.lookup n).isNone=true
  ·exact(if_pos c).trans (by rw[if_pos c])
  ·exact(if_neg c).trans (by rw[if_neg c])
 ·rw[←hb]
  show List.filterMap (λn=>((DR ((as.map (·.arg)).zip pos++kw) (((as.map (·.arg)).drop ((as.map (·.arg)).length - (((x.getD #[]).toList).drop (((x.getD #[]).toList).length - (as.map (·.arg)).length)).length)).zip (((x.getD #[]).toList).drop (((x.getD #[]).toList).length - (as.map (·.arg)).length)))).lookup n).map (n, ·)) ((as.map (·.arg))++[])=_
  rw[Zt,aU]
theorem D7{o:Expr}(h:jJ o=true)(a:Str)(env:Env)(w:Sem Value):attributeBase o a env w=w:=
 (tU h).elim (λh=>iD (P:=λo=>attributeBase o a env w=w) h λZ Z Z=>rfl) λh=>(tU h).elim (λh=>lZ (P:=λo=>attributeBase o a env w=w) h λZ Z Z Z=>rfl) λh=>
  (tU h).elim (λh=>nC (P:=λo=>attributeBase o a env w=w) h λZ Z Z Z=>rfl) λh=>(tU h).elim (λh=>su (P:=λo=>attributeBase o a env w=w) h λZ Z Z Z=>rfl) λh=>
  kj (P:=λo=>attributeBase o a env w=w) h λf as ks p h=>lZ (P:=λf=>attributeBase (.Call f as ks p) a env w=w) h λZ Z Z Z=>rfl
theorem BQ{A:Around}{E:Value→Shared→Prop}{s:Shared}{o:Expr}{a:Str}{p:Pos}{env:Env}{prog:Program}{w:World}{Q:Value→Shared→Prop}(hb:jJ o=true)
  (h:aB (model prog w) A (eval o env) (λo s₁=>aB (model prog w) A (getAttr o a true) Q E s₁) E s):aB (model prog w) A (eval (.Attribute o a p) env) Q E s:=
 Attribute_any_ h (by rw[arm_eval_Attribute,D7 hb])
def mf(es:Array DictEntry)(ep:Nat):Obj:={cls:=.type "dict",data:=.dict es ep}
section
variable{cx:Cx}{d:Nat}{γ:Nm→Option I}{ρ:Loc}{σ:Hp}{Q:V→Hp→Prop}
structure Inst(cx:Cx)(φ:Ph)(σ:Hp)(s:Shared)(r:I)(c:pL)(fs:Nm→Option V)(es:Array DictEntry)(ep:Nat):Prop where
 at_:InstAt s.heap (φ r).1 (Nn c.addr (φ r).2) c.addr (some (mf es ep))
 F:Wu s.heap φ σ fs (φ r).2
 d:s.heap.get? (φ r).2=some (mf es ep)
 k:StrKeys es
 n:∃ls:List Nm,es.size=ls.length∧ls.Nodup∧∀x∈ls,(nsFind es x.str).isSome=true
 f:∀x v,fs x=some v→∃y,nsFind es x.str=some y∧gJ s.heap φ σ v y
 no:∀x,fs x=none→nsFind es x.str=none
theorem s8{φ:Ph}{s:Shared}(S:kO cx φ σ s){r:I}{c:pL}{fs:Nm→Option V}(h:σ r=some (.inst c fs)):∃es ep,Inst cx φ σ s r c fs es ep:=
 (S.rel.objs r _ h).2.2.elim λes u=>u.elim λep u=>u.elim λls u=>⟨es,ep,⟨(S.rel.objs r _ h).2.1,rfl,rfl,u.1⟩,(S.rel.objs r _ h).2.2,u.1,u.2.2.1,⟨ls,u.2.1⟩,u.2.2.2.1,u.2.2.2.2⟩
theorem no_ref{es:Array DictEntry}(hk:StrKeys es):es.toList.any (·.refKey)=false:=List.any_eq_false.mpr λe he=>(hk e (Array.mem_toList_iff.mp he)).elim λn u=>u.elim λt q=>by simp [DictEntry.refKey,q]
theorem BL{es:Array DictEntry}{ep:Nat}{x:Str}(hk:StrKeys es):lookIn x (mf es ep)=some (nsFind es x):=by
 show(match es.toList.find? (·.key.isStr x)with |some e=>some (some e.val) |none=>if es.toList.any (·.refKey)then none else some none)=some ((es.find? λe=>e.key.isStr x).map (·.val))
 rw[←Array.find?_toList]
 cases es.toList.find? (λe=>e.key.isStr x)with
 |some e=>rfl
 |none=>exact if_neg λq=>aR ((no_ref hk).symm.trans q)
theorem y6{es:Array DictEntry}{ep:Nat}{x:Str}{cd:ClassData}(hk:StrKeys es)(hd:cd.hasDict=true):W.ownOf cd (some (mf es ep)) x=some (nsFind es x):=(if_pos hd).trans (BL hk)
theorem bd{α β:Type}{o:Option α}{a:α}{f:α→Option β}{r:Option β}(e:o=some a)(h:f a=r):o.bind f=r:=e▸h
theorem GL(O:gT cx){c:pL}{a:Nm}{es:Array DictEntry}{ep:Nat}{y:Value}(hk:StrKeys es)(hn:c.attr a=none)(hy:nsFind es a.str=some y):findObj cx.K c.addr (some (mf es ep)) a.str=some (.value y):=
 (any_some (O.cls c).hd).elim λcd u=>bd u.1 (bd (((O.cls c).attr a).trans (congrArg some hn)) (bd (a:=none) rfl (bd (a:=false) rfl (bd ((y6 hk u.2).trans (congrArg some hy)) rfl))))
theorem gJ.handed{h:Heap}{φ:Ph}{v:V}{y:Value}(x:gJ h φ σ v y):handedIn y=true:=by
 cases v with
 |none |bool=>exact(show y=_ from x)▸rfl
 |int |str=>exact aI x λt x=>x▸rfl
 |ref=>exact x.2▸rfl
 |tup=>exact aI x λt x=>x.elim λZ x=>x.1▸rfl
inductive RA(a:Nm)(Q:V→Hp→Prop)(v:V)(σ:Hp):Prop
 |mk (r:I) (c:pL) (fs:Nm→Option V) (u:V):v=.ref r→σ r=some (.inst c fs)→c.attr a=none→fs a=some u→Q u σ→RA a Q v σ
inductive Nw(a:Nm)(Q:V→Hp→Prop)(v:V)(σ:Hp):Prop
 |mk (r:I) (c:pL) (fs:Nm→Option V) (u:Str) (t:Tok):v=.ref r→σ r=some (.inst c fs)→c.attr a=some (.str u t)→fs a=none→Q (.str u) σ→Nw a Q v σ
theorem gJ.at{h:Heap}{φ:Ph}{v:V}{r:I}{y:Value}(x:gJ h φ σ v y)(e:v=.ref r):y=.ref (φ r).1:=(show gJ h φ σ (.ref r) y from e▸x).2
theorem mQ(O:gT cx){o:ME}{a:Nm}(h:WE cx d o γ ρ σ (RA a Q)):WE cx d (.attr o a) γ ρ σ Q:=λsc ex c A env φ s F Q' k=>c.attr λo p hb co=>
 BQ hb (h _ _ co A env φ s F _ λφ' σ' s' v y g vr q=>q.casesOn λr c fs u e1 e2 e3 e4 q=>(vr.at e1).symm▸(s8 g.S e2).elim λes w=>w.elim λep w=>(w.f a u e4).elim λz t=>
  get_value (O.X.keeps g.S.rel.base) w.at_ (O.cls c).ga (GL O w.k e3 t.1) t.2.handed (k φ' σ' _ u z (g.toks _) t.2 q))
theorem AG(O:gT cx){o:ME}{a:Nm}(nc:copiedNames.contains a.str=false)(h:WE cx d o γ ρ σ (Nw a Q)):WE cx d (.attr o a) γ ρ σ Q:=λsc ex c A env φ s F Q' k=>c.attr λo p hb co=>
 BQ hb (h _ _ co A env φ s F _ λφ' σ' s' v y g vr q=>q.casesOn λr c fs u t e1 e2 e3 e4 q=>(vr.at e1).symm▸(s8 g.S e2).elim λes w=>w.elim λep w=>
  have sg:specialIn cx.K (.str u t) "__get__"=some none:=O.PT
  get_value (O.X.keeps g.S.rel.base) w.at_ (O.cls c).ga ((any_some (O.cls c).hd).elim λcd z=>bd z.1 (bd (((O.cls c).attr a).trans (congrArg some e3)) (bd (a:=none) sg (bd (a:=false) rfl (bd ((y6 w.k z.2).trans (congrArg some (w.no a e4)))
   ((if_neg (by rw[nc];exact aR)).trans rfl)))))) rfl (k φ' σ' _ _ _ (g.toks _) (.str u t) q))
end
end
mutual
section
variable(cx:Cx)(d:Nat)(γ:Nm→Option I)(ρ:Loc)(σ:Hp)(Q:List V→Hp→Prop)
def Uy(cx:Cx)(φ:Ph)(σ:Hp)(s:Shared)(Q:List V→Hp→Prop)(Q':List Value→Shared→Prop):Prop:=∀φ' σ' s' v y,Go cx φ σ s φ' σ' s'→gh s'.heap φ' σ' v y→Q v σ'→Q' y s'
def AN(ms:List ME)(γ:Nm→Option I)(ρ:Loc)(σ:Hp)(Q:List V→Hp→Prop):Prop:=
 ∀sc es,iZ cx.K sc es ms→∀A env φ s p,Fm cx d γ ρ σ sc A env φ s→∀Q',Uy cx φ σ s Q Q'→aB (model cx.prog cx.w) A (spliced (backTo p (starEach es env))) Q' kX s
def WR(ms:List (Nm×ME))(γ:Nm→Option I)(ρ:Loc)(σ:Hp)(Q:List V→Hp→Prop):Prop:=
 ∀sc es,m7 cx.K sc es ms→∀A env φ s p,Fm cx d γ ρ σ sc A env φ s→∀Q',Uy cx φ σ s Q Q'→aB (model cx.prog cx.w) A (evalAll ((backToKw p (keywordEach es env)).map (·.2))) Q' kX s
def L2(Q:List V→Hp→Prop)(v:V)(vs:List V)(σ:Hp):Prop:=Q (v::vs) σ
def Wr(ms:List ME)(v:V)(σ:Hp):Prop:=AN cx d ms γ ρ σ (L2 Q v)
def RQ(ms:List (Nm×ME))(v:V)(σ:Hp):Prop:=WR cx d ms γ ρ σ (L2 Q v)
end
end
mutual
section
variable{cx:Cx}{d:Nat}{sc:Scope}{γ:Nm→Option I}{ρ:Loc}{σ:Hp}{Q:List V→Hp→Prop}
theorem jC{e:Expr}(h:notStar e=true)(es:List Expr)(env:Env):starEach (e::es) env=(false,eval e env)::starEach es env:=by
 cases e<;>first |rfl |exact nomatch h
theorem Uy.cons{φ φ':Ph}{σ σ':Hp}{s s':Shared}{v:V}{y:Value}{Q':List Value→Shared→Prop}(k:Uy cx φ σ s Q Q')(g:Go cx φ σ s φ' σ' s')(vr:gJ s'.heap φ' σ' v y):Uy cx φ' σ' s' (L2 Q v) λys=>Q' (y::ys):=
 λZ Z Z Z Z g' Gb q=>k _ _ _ _ _ (g.trans g') (.cons (vr.ext g.S.rel g'.x) Gb) q
theorem fZ(h:Q [] σ):AN cx d [] γ ρ σ Q:=λsc es c A env φ s p F Q' k=>c.nil (aq (k φ σ s _ _ (.refl F.S) .nil h))
theorem fX{m:ME}{ms:List ME}(h:WE cx d m γ ρ σ (Wr cx d γ ρ Q ms)):AN cx d (m::ms) γ ρ σ Q:=λsc es c A env φ s p F Q' k=>c.cons λe r ns ce cs=>
 d4 (h _ _ ce A env φ s F _ λφ' σ' s' v y g vr hq=>hq _ _ cs A env φ' s' p (F.go g) _ (k.cons g vr)) (jC ns _ _)
theorem jE(h:Q [] σ):WR cx d [] γ ρ σ Q:=λsc es c A env φ s p F Q' k=>c.nil (aq (k φ σ s _ _ (.refl F.S) .nil h))
theorem Af{n:Nm}{m:ME}{ms:List (Nm×ME)}(h:WE cx d m γ ρ σ (RQ cx d γ ρ Q ms)):WR cx d ((n,m)::ms) γ ρ σ Q:=λsc es c A env φ s p F Q' k=>c.cons λe q r ce cs=>
 wpAny_evalAll_cons (show aB _ _ (eval _ env >>=λv=>standAt p >>=λZ=>pure v) _ _ _ from
  af (h _ _ ce A env φ s F _ λφ' σ' s' v y g vr hq=>af (bX (aq (hq _ _ cs A env φ' s' p (F.go g) _ (k.cons g vr))))))
structure VB(l:List (Option Str×Sem Value))(ks:List Str):Prop where
 a:l.all (·.1.isSome)=true
 b:l.any (·.1.isNone)=false
 c:l.filterMap (·.1)=ks
theorem FJ{K:Frag}{env:Env}{p:Pos}:∀{ms:List (Nm×ME)} {es:List Keyword},m7 K sc es ms→VB (backToKw p (keywordEach es env)) (ms.map (·.1.str))
 |[],es,c=>c.nil ⟨rfl,rfl,rfl⟩
 |(n,m)::ms,es,c=>c.cons λe q r ce cs=>have ih:=FJ (env:=env) (p:=p) cs;⟨ih.a,ih.b,congrArg (n.str:: ·) ih.c⟩
structure Lm(l:List (Bool×Sem Value)):Prop where
 a:l.any (·.1)=false
 b:l.all (!·.1)=true
theorem xH{K:Frag}{env:Env}{p:Pos}:∀{ms:List ME} {es:List Expr},iZ K sc es ms→Lm (backTo p (starEach es env))
 |[],es,c=>c.nil ⟨rfl,rfl⟩
 |m::ms,es,c=>c.cons λe r ns ce cs=>by
  have ih:=xH (env:=env) (p:=p) cs
  rw[jC ns]
  exact⟨ih.a,ih.b⟩
def TY(cx:Cx)(d:Nat)(γ:Nm→Option I)(ρ:Loc)(ks:List (Nm×ME))(G:List V→List V→Hp→Prop)(vs:List V)(σ:Hp):Prop:=WR cx d ks γ ρ σ (G vs)
theorem tE{P:Heap→Prop}{as:List ME}{ks:List (Nm×ME)}{args:List Expr}{kws:List Keyword}{A:Around}{env:Env}{φ:Ph}{s:Shared}{p q:Pos}{f:Value}{first:List Value}{Q':Value→Shared→Prop}{fi:List V}
  (ca:iZ cx.K sc args as)(ck:m7 cx.K sc kws ks)(F:Fm cx d γ ρ σ sc A env φ s)(Td:gh s.heap φ σ fi first)
  (hk:∀h:Heap,P h→∃k,(k=dM∨k=dy∨k=cV)∧Looks (model cx.prog cx.w) h (keeperOf f) k)
  {G:List V→List V→Hp→Prop}(hP:∀φ' σ' s' vs us,Go cx φ σ s φ' σ' s'→G vs us σ'→P s'.heap)(h:AN cx d as γ ρ σ (TY cx d γ ρ ks G))
  (hc:∀φ' σ' s' vs us ys zs,Go cx φ σ s φ' σ' s'→gh s'.heap φ' σ' (fi++vs) (first++ys)→gh s'.heap φ' σ' us zs→G vs us σ'→
   aB (model cx.prog cx.w) A (call f (first++ys) ((ks.map (·.1.str)).zip zs)) Q' kX s'):
  aB (model cx.prog cx.w) A (callWith p f first (backTo q (starEach args env)) (backToKw q (keywordEach kws env))) Q' kX s:=by
 have kw:=FJ (env:=env) (p:=q) ck
 refine callWith_of (P:=P) (by rw[(xH ca).a,kw.b];rfl) hk ?_
 have main:aB (model cx.prog cx.w) A (spliced (backTo q (starEach args env))) (λvs s₁=>aB (model cx.prog cx.w) A (evalAll ((backToKw q (keywordEach kws env)).map (·.2)))
   (λys s₂=>P s₂.heap∧aB (model cx.prog cx.w) A (call f (first++vs) (((backToKw q (keywordEach kws env)).filterMap (·.1)).zip ys)) Q' kX s₂) kX s₁) kX s:=
  h _ _ ca A env φ s q F _ λφ' σ' s' vs ys g vr hq=>hq _ _ ck A env φ' s' q (F.go g) _ λφ'' σ'' oZ us zs g' vr' hg=>
   ⟨hP _ _ _ vs us (g.trans g') hg,kw.c.symm▸hc φ'' σ'' oZ vs us ys zs (g.trans g') ((gh.ext F.S.rel (g.trans g').x Td).append (gh.ext g.S.rel g'.x vr)) vr' hg⟩
 revert main
 cases as with
 |nil=>exact ca.nil λmain=>evalArgs_kw_nil kw.a (λΓ p hΓ=>main Γ p hΓ Γ p hΓ)
 |cons=>exact ca.cons λe r ns ce cs=>(jC ns r env).symm▸λmain=>evalArgs_kw kw.a main
theorem BF{as:List ME}{ks:List (Nm×ME)}{args:List Expr}{kws:List Keyword}{A:Around}{env:Env}{φ:Ph}{s:Shared}{p q:Pos}{f:Value}{first:List Value}{Q':Value→Shared→Prop}{fi:List V}
  (ca:iZ cx.K sc args as)(ck:m7 cx.K sc kws ks)(F:Fm cx d γ ρ σ sc A env φ s)(Td:gh s.heap φ σ fi first)
  (hk:∀h:Heap,(∀b o,cx.h0.get? b=some o→h.get? b=some o)→∃k,(k=dM∨k=dy∨k=cV)∧Looks (model cx.prog cx.w) h (keeperOf f) k)
  {G:List V→List V→Hp→Prop}(h:AN cx d as γ ρ σ (TY cx d γ ρ ks G))
  (hc:∀φ' σ' s' vs us ys zs,Go cx φ σ s φ' σ' s'→gh s'.heap φ' σ' (fi++vs) (first++ys)→gh s'.heap φ' σ' us zs→G vs us σ'→
   aB (model cx.prog cx.w) A (call f (first++ys) ((ks.map (·.1.str)).zip zs)) Q' kX s'):
  aB (model cx.prog cx.w) A (callWith p f first (backTo q (starEach args env)) (backToKw q (keywordEach kws env))) Q' kX s:=
 tE ca ck F Td hk (λZ Z Z Z Z g Z=>g.S.rel.base) h hc
end
end
mutual
def wj(ps:Arguments):Bool:=ps.defaults.isEmpty&&(ps.kw_defaults.isEmpty&&(ps.args.all (·.annotation.isNone)&&(ps.posonlyargs.isEmpty&&(ps.vararg.isNone&&(ps.kwonlyargs.isEmpty&&ps.kwarg.isNone)))))
def jw(K:Frag)(nest:Nm→Option jZ)(sc:Scope)(m:MS):Stmt→Prop:=m.rec (motive_1:=λZ=>Stmt→Prop) (motive_2:=λZ=>List Stmt→Prop)
 (λZ=>True)
 (λt v st=>r7 st (λts ve=>one ts λte=>p9 sc te t&&((JX te ve&&(kN ve||!tD v))&&iB K v sc ve))=true)
 (λo a v st=>r7 st (λts ve=>one ts λte=>k7 te λoe y Z=>decide (y=a.str)&&(kN ve&&(iB K o sc oe&&iB K v sc ve)))=true)
 (λo i v st=>r7 st (λts ve=>one ts λte=>mJ te λoe ie=>kN ve&&(kK ie&&(iB K o sc oe&&(iB K i sc ie&&iB K v sc ve))))=true)
 (λo i st=>DI st (λts=>one ts λte=>mJ te λoe ie=>kK ie&&(iB K o sc oe&&iB K i sc ie))=true)
 (λe st=>Kx st (λee=>kN ee&&iB K e sc ee)=true)
 (λt Z Z b o st=>∃te be oe p,st=.If te be oe p∧iB K t sc te=true∧b be∧o oe)
 (λt Z b st=>∃te be p,st=.While te be [] p∧iB K t sc te=true∧b be)
 (λt e Z b st=>∃te ee be p,st=.For te ee be [] p∧p9 sc te t=true∧iB K e sc ee=true∧b be)
 (λe st=>Ft st (λx=>G2 K e sc x)=true)
 (λst=>I0 st=true) (λst=>Au st=true) (λst=>Cf st=true)
 (λe st=>zE st (λee Z=>iB K e sc ee)=true)
 (λZ Z b o st=>∃be h hs oe p,st=.Try be (h::hs) oe [] p∧b be∧o oe)
 (λx st=>∃d p,nest x=some d∧d.pos=p∧st=.FunctionDef x.str d.params d.body [] none [] d.scope none x.str p∧d.name=x.str∧rg sc x=true∧wj d.params=true)
 (λsts=>sts=[]) (λZ Z a b sts=>∃st r,sts=st::r∧a st∧b r)
def i0(K:Frag)(nest:Nm→Option jZ)(sc:Scope)(m:List MS):List Stmt→Prop:=MS.rec_1 (motive_1:=λZ=>Stmt→Prop) (motive_2:=λZ=>List Stmt→Prop)
 (λZ=>True)
 (λt v st=>r7 st (λts ve=>one ts λte=>p9 sc te t&&((JX te ve&&(kN ve||!tD v))&&iB K v sc ve))=true)
 (λo a v st=>r7 st (λts ve=>one ts λte=>k7 te λoe y Z=>decide (y=a.str)&&(kN ve&&(iB K o sc oe&&iB K v sc ve)))=true)
 (λo i v st=>r7 st (λts ve=>one ts λte=>mJ te λoe ie=>kN ve&&(kK ie&&(iB K o sc oe&&(iB K i sc ie&&iB K v sc ve))))=true)
 (λo i st=>DI st (λts=>one ts λte=>mJ te λoe ie=>kK ie&&(iB K o sc oe&&iB K i sc ie))=true)
 (λe st=>Kx st (λee=>kN ee&&iB K e sc ee)=true)
 (λt Z Z b o st=>∃te be oe p,st=.If te be oe p∧iB K t sc te=true∧b be∧o oe)
 (λt Z b st=>∃te be p,st=.While te be [] p∧iB K t sc te=true∧b be)
 (λt e Z b st=>∃te ee be p,st=.For te ee be [] p∧p9 sc te t=true∧iB K e sc ee=true∧b be)
 (λe st=>Ft st (λx=>G2 K e sc x)=true)
 (λst=>I0 st=true) (λst=>Au st=true) (λst=>Cf st=true)
 (λe st=>zE st (λee Z=>iB K e sc ee)=true)
 (λZ Z b o st=>∃be h hs oe p,st=.Try be (h::hs) oe [] p∧b be∧o oe)
 (λx st=>∃d p,nest x=some d∧d.pos=p∧st=.FunctionDef x.str d.params d.body [] none [] d.scope none x.str p∧d.name=x.str∧rg sc x=true∧wj d.params=true)
 (λsts=>sts=[]) (λZ Z a b sts=>∃st r,sts=st::r∧a st∧b r) m
section
variable{K:Frag}{nest:Nm→Option jZ}{sc:Scope}{st:Stmt}{P:Stmt→Prop}
@[elab_as_elim] theorem jw.asg{t:sJ}{v:ME}(c:jw K nest sc (.asg t v) st)(k:∀te ve p,lp sc te t→(JX te ve&&(kN ve||!tD v))=true→gz K sc ve v→P (.Assign [te] ve p)):P st:=
 AM c λts ve p g=>qD (P:=λts=>P (.Assign ts ve p)) g λte g=>k te ve p (f7 g).1 (f7 (f7 g).2).1 (f7 (f7 g).2).2
@[elab_as_elim] theorem jw.hO{o v:ME}{a:Nm}(c:jw K nest sc (.hO o a v) st)(k:∀oe p1 ve p,kN ve=true→gz K sc oe o→gz K sc ve v→P (.Assign [.Attribute oe a.str p1] ve p)):P st:=
 AM c λts ve p g=>qD (P:=λts=>P (.Assign ts ve p)) g λte g=>lZ (P:=λte=>P (.Assign [te] ve p)) g λoe y p1 g=>have g1:=f7 (f7 g).2
  ee (P:=λy=>P (.Assign [.Attribute oe y p1] ve p)) (f7 g).1 (k oe p1 ve p g1.1 (f7 g1.2).1 (f7 g1.2).2)
@[elab_as_elim] theorem jw.sets{o i v:ME}(c:jw K nest sc (.sets o i v) st)(k:∀oe ie p1 ve p,kN ve=true→kK ie=true→gz K sc oe o→gz K sc ie i→gz K sc ve v→P (.Assign [.Subscript oe ie p1] ve p)):P st:=
 AM c λts ve p g=>qD (P:=λts=>P (.Assign ts ve p)) g λte g=>nC (P:=λte=>P (.Assign [te] ve p)) g λoe ie p1 g=>have g1:=f7 (f7 g).2;have g2:=f7 g1.2
  k oe ie p1 ve p (f7 g).1 g1.1 g2.1 (f7 g2.2).1 (f7 g2.2).2
@[elab_as_elim] theorem jw.J8{o i:ME}(c:jw K nest sc (.J8 o i) st)(k:∀oe ie p1 p,kK ie=true→gz K sc oe o→gz K sc ie i→P (.Delete [.Subscript oe ie p1] p)):P st:=
 NT c λts p g=>qD (P:=λts=>P (.Delete ts p)) g λte g=>nC (P:=λte=>P (.Delete [te] p)) g λoe ie p1 g=>k oe ie p1 p (f7 g).1 (f7 (f7 g).2).1 (f7 (f7 g).2).2
@[elab_as_elim] theorem jw.ex{e:ME}(c:jw K nest sc (.ex e) st)(k:∀ee p,kN ee=true→gz K sc ee e→P (.Expr ee p)):P st:=PG c λee p g=>k ee p (f7 g).1 (f7 g).2
@[elab_as_elim] theorem jw.ite{t:ME}{b o:List MS}(c:jw K nest sc (.ite t b o) st)(k:∀te be oe p,gz K sc te t→i0 K nest sc b be→i0 K nest sc o oe→P (.If te be oe p)):P st:=
 (show∃te be oe p,st=.If te be oe p∧gz K sc te t∧i0 K nest sc b be∧i0 K nest sc o oe from c).elim λte c=>c.elim λbe c=>c.elim λoe c=>c.elim λp c=>c.1.symm▸k te be oe p c.2.1 c.2.2.1 c.2.2.2
@[elab_as_elim] theorem jw.wh{t:ME}{b:List MS}(c:jw K nest sc (.wh t b) st)(k:∀te be p,gz K sc te t→i0 K nest sc b be→P (.While te be [] p)):P st:=
 (show∃te be p,st=.While te be [] p∧gz K sc te t∧i0 K nest sc b be from c).elim λte c=>c.elim λbe c=>c.elim λp c=>c.1.symm▸k te be p c.2.1 c.2.2
@[elab_as_elim] theorem jw.for{t:sJ}{e:ME}{b:List MS}(c:jw K nest sc (.for t e b) st)(k:∀te ee be p,lp sc te t→gz K sc ee e→i0 K nest sc b be→P (.For te ee be [] p)):P st:=
 (show∃te ee be p,st=.For te ee be [] p∧lp sc te t∧gz K sc ee e∧i0 K nest sc b be from c).elim λte c=>c.elim λee c=>c.elim λbe c=>c.elim λp c=>c.1.symm▸k te ee be p c.2.1 c.2.2.1 c.2.2.2
@[elab_as_elim] theorem jw.ret{e:ME}(c:jw K nest sc (.ret (some e)) st)(k:∀ee p,gz K sc ee e→P (.Return (some ee) p)):P st:=EX c λx p g=>vB.some (P:=λx=>P (.Return x p)) g λee g=>k ee p g
@[elab_as_elim] theorem jw.YC(c:jw K nest sc (.ret none) st)(k:∀p,P (.Return none p)):P st:=EX c λx p g=>vB.none (P:=λx=>P (.Return x p)) g (k p)
@[elab_as_elim] theorem jw.cont(c:jw K nest sc .cont st)(k:∀p,P (.Continue p)):P st:=Jp c k
@[elab_as_elim] theorem jw.Bc{e:ME}(c:jw K nest sc (.Bc e) st)(k:∀ee msg p,gz K sc ee e→P (.Assert ee msg p)):P st:=JF c k
@[elab_as_elim] theorem jw.tr{b o:List MS}(c:jw K nest sc (.tr b o) st)(k:∀be h hs oe p,i0 K nest sc b be→i0 K nest sc o oe→P (.Try be (h::hs) oe [] p)):P st:=
 (show∃be h hs oe p,st=.Try be (h::hs) oe [] p∧i0 K nest sc b be∧i0 K nest sc o oe from c).elim λbe c=>c.elim λh c=>c.elim λhs c=>c.elim λoe c=>c.elim λp c=>c.1.symm▸k be h hs oe p c.2.1 c.2.2
@[elab_as_elim] theorem i0.nil{sts:List Stmt}{P:List Stmt→Prop}(c:i0 K nest sc [] sts)(k:P []):P sts:=(show sts=[]from c).symm▸k
@[elab_as_elim] theorem i0.cons{sts:List Stmt}{P:List Stmt→Prop}{m:MS}{ms:List MS}(c:i0 K nest sc (m::ms) sts)(k:∀st r,jw K nest sc m st→i0 K nest sc ms r→P (st::r)):P sts:=
 (show∃st r,sts=st::r∧jw K nest sc m st∧i0 K nest sc ms r from c).elim λst c=>c.elim λr c=>c.1.symm▸k st r c.2.1 c.2.2
end
end
mutual
theorem QW{α:Type}{l:List α}(h:l.isEmpty=true):l=[]:=List.isEmpty_iff.mp h
def NR(K:Frag)(sc:Scope)(m:MS):Stmt→Bool:=m.rec (motive_1:=λZ=>Stmt→Bool) (motive_2:=λZ=>List Stmt→Bool)
 (λZ=>true)
 (λt v st=>r7 st (λts ve=>one ts λte=>p9 sc te t&&((JX te ve&&(kN ve||!tD v))&&iB K v sc ve)))
 (λo a v st=>r7 st (λts ve=>one ts λte=>k7 te λoe y Z=>decide (y=a.str)&&(kN ve&&(iB K o sc oe&&iB K v sc ve))))
 (λo i v st=>r7 st (λts ve=>one ts λte=>mJ te λoe ie=>kN ve&&(kK ie&&(iB K o sc oe&&(iB K i sc ie&&iB K v sc ve)))))
 (λo i st=>DI st (λts=>one ts λte=>mJ te λoe ie=>kK ie&&(iB K o sc oe&&iB K i sc ie)))
 (λe st=>Kx st (λee=>kN ee&&iB K e sc ee))
 (λt Z Z b o st=>Ls st λte be oe=>iB K t sc te&&(b be&&o oe))
 (λt Z b st=>RY st λte be oe=>oe.isEmpty&&(iB K t sc te&&b be))
 (λt e Z b st=>MM st λte ee be oe=>oe.isEmpty&&(p9 sc te t&&(iB K e sc ee&&b be)))
 (λe st=>Ft st (λx=>G2 K e sc x))
 (λst=>I0 st) (λst=>Au st) (λst=>Cf st)
 (λe st=>zE st (λee Z=>iB K e sc ee))
 (λZ Z b o st=>LQ st λbe hs oe fe=>(!hs.isEmpty)&&(fe.isEmpty&&(b be&&o oe)))
 (λx st=>false)
 (λsts=>sts.isEmpty) (λZ Z a b sts=>sts.casesOn false λst r=>a st&&b r)
def qE(K:Frag)(sc:Scope)(m:List MS):List Stmt→Bool:=MS.rec_1 (motive_1:=λZ=>Stmt→Bool) (motive_2:=λZ=>List Stmt→Bool)
 (λZ=>true)
 (λt v st=>r7 st (λts ve=>one ts λte=>p9 sc te t&&((JX te ve&&(kN ve||!tD v))&&iB K v sc ve)))
 (λo a v st=>r7 st (λts ve=>one ts λte=>k7 te λoe y Z=>decide (y=a.str)&&(kN ve&&(iB K o sc oe&&iB K v sc ve))))
 (λo i v st=>r7 st (λts ve=>one ts λte=>mJ te λoe ie=>kN ve&&(kK ie&&(iB K o sc oe&&(iB K i sc ie&&iB K v sc ve)))))
 (λo i st=>DI st (λts=>one ts λte=>mJ te λoe ie=>kK ie&&(iB K o sc oe&&iB K i sc ie)))
 (λe st=>Kx st (λee=>kN ee&&iB K e sc ee))
 (λt Z Z b o st=>Ls st λte be oe=>iB K t sc te&&(b be&&o oe))
 (λt Z b st=>RY st λte be oe=>oe.isEmpty&&(iB K t sc te&&b be))
 (λt e Z b st=>MM st λte ee be oe=>oe.isEmpty&&(p9 sc te t&&(iB K e sc ee&&b be)))
 (λe st=>Ft st (λx=>G2 K e sc x))
 (λst=>I0 st) (λst=>Au st) (λst=>Cf st)
 (λe st=>zE st (λee Z=>iB K e sc ee))
 (λZ Z b o st=>LQ st λbe hs oe fe=>(!hs.isEmpty)&&(fe.isEmpty&&(b be&&o oe)))
 (λx st=>false)
 (λsts=>sts.isEmpty) (λZ Z a b sts=>sts.casesOn false λst r=>a st&&b r) m
theorem Iw{K:Frag}{nest:Nm→Option jZ}{sc:Scope}{m:MS}:∀{st},NR K sc m st=true→jw K nest sc m st:=m.rec (motive_1:=λm=>∀{st},NR K sc m st=true→jw K nest sc m st) (motive_2:=λm=>∀{st},qE K sc m st=true→i0 K nest sc m st)
 (λZ=>trivial) (λZ Z {_}=>id) (λZ Z Z {_}=>id) (λZ Z Z {_}=>id) (λZ Z {_}=>id) (λZ {_}=>id)
 (λt b o hb ho {st} c=>NG (P:=jw K nest sc (.ite t b o)) c λte be oe p (g:(iB K t sc te&&(qE K sc b be&&qE K sc o oe))=true)=>show∃Qx LC Wh p',Stmt.If te be oe p=.If Qx LC Wh p'∧gz K sc Qx t∧i0 K nest sc b LC∧i0 K nest sc o Wh from⟨te,be,oe,p,rfl,(f7 g).1,hb (f7 (f7 g).2).1,ho (f7 (f7 g).2).2⟩)
 (λt b hb {st} c=>PJ (P:=jw K nest sc (.wh t b)) c λte be oe p (g:(oe.isEmpty&&(iB K t sc te&&qE K sc b be))=true)=>ei (P:=λoe=>jw K nest sc (.wh t b) (.While te be oe p)) (f7 g).1<|show∃Qx LC p',Stmt.While te be [] p=.While Qx LC [] p'∧gz K sc Qx t∧i0 K nest sc b LC from⟨te,be,p,rfl,(f7 (f7 g).2).1,hb (f7 (f7 g).2).2⟩)
 (λt e b hb {st} c=>Ly (P:=jw K nest sc (.for t e b)) c λte ee be oe p (g:(oe.isEmpty&&(p9 sc te t&&(iB K e sc ee&&qE K sc b be)))=true)=>have g2:=f7 (f7 g).2;ei (P:=λoe=>jw K nest sc (.for t e b) (.For te ee be oe p)) (f7 g).1<|show∃Qx ee' LC p',Stmt.For te ee be [] p=.For Qx ee' LC [] p'∧lp sc Qx t∧gz K sc ee' e∧i0 K nest sc b LC from⟨te,ee,be,p,rfl,g2.1,(f7 g2.2).1,hb (f7 g2.2).2⟩)
 (λZ {_}=>id) id id id (λZ {_}=>id)
 (λb o hb ho {st} c=>Nb (P:=jw K nest sc (.tr b o)) c λbe hs oe fe p (g:((!hs.isEmpty)&&(fe.isEmpty&&(qE K sc b be&&qE K sc o oe)))=true)=>have g2:=f7 (f7 g).2;ei (P:=λfe=>jw K nest sc (.tr b o) (.Try be hs oe fe p)) g2.1
  (hs.casesOn (motive:=λhs=>(!hs.isEmpty)=true→jw K nest sc (.tr b o) (.Try be hs oe [] p)) (λg=>nomatch g) (λh hs Z=>show∃LC h' Wa Wh p',Stmt.Try be (h::hs) oe [] p=.Try LC (h'::Wa) Wh [] p'∧i0 K nest sc b LC∧i0 K nest sc o Wh from⟨be,h,hs,oe,p,rfl,hb (f7 g2.2).1,ho (f7 g2.2).2⟩) (f7 g).1))
 (λZ {_} c=>nomatch c) (λ{_} c=>QW c) λm ms a b {sts}=>sts.casesOn (motive:=λsts=>qE K sc (m::ms) sts=true→i0 K nest sc (m::ms) sts) (λc=>nomatch c) λst r c=>have c:=f7 (show(NR K sc m st&&qE K sc ms r)=true from c);show∃st' r',st::r=st'::r'∧jw K nest sc m st'∧i0 K nest sc ms r' from⟨st,r,rfl,a c.1,b c.2⟩
theorem wH{K:Frag}{nest:Nm→Option jZ}{sc:Scope}:∀{m:List MS} {sts},qE K sc m sts=true→i0 K nest sc m sts
 |[],_,c=>QW c
 |m::ms,sts,c=>sts.casesOn (motive:=λsts=>qE K sc (m::ms) sts=true→i0 K nest sc (m::ms) sts) (λc=>nomatch c) (λst r c=>have c:=f7 (show(NR K sc m st&&qE K sc ms r)=true from c);show∃st' r',st::r=st'::r'∧jw K nest sc m st'∧i0 K nest sc ms r' from⟨st,r,rfl,Iw c.1,wH c.2⟩) c
inductive Fl where
 |next |brk |cont
 |ret (v:V)
def MD(h:Heap)(φ:Ph)(σ:Hp)(fl:Fl)(f:Flow):Prop:=fl.casesOn (f=.next) (f=.brk) (f=.cont) λv=>∃y,f=.ret y∧gJ h φ σ v y
section
variable(cx:Cx)(d:Nat)(γ:Nm→Option I)(ρ:Loc)(σ:Hp)
def KT(cx:Cx)(φ:Ph)(σ:Hp)(s:Shared)(Q:Bool→Hp→Prop)(Q':Bool→Shared→Prop):Prop:=∀φ' σ' s' b,Go cx φ σ s φ' σ' s'→Q b σ'→Q' b s'
def WT(m:ME)(γ:Nm→Option I)(ρ:Loc)(σ:Hp)(Q:Bool→Hp→Prop):Prop:=
 ∀sc ex,gz cx.K sc ex m→∀A env φ s,Fm cx d γ ρ σ sc A env φ s→∀Q',KT cx φ σ s Q Q'→aB (model cx.prog cx.w) A (isTrue ex env (eval ex env)) Q' kX s
def WW(env:Env):Addr→Prop:=(· =env.locals)
structure yW(cx:Cx)(env:Env)(γ:Nm→Option I)(φ:Ph)(σ:Hp)(s:Shared)(ρ':Loc)(φ':Ph)(σ':Hp)(s':Shared):Prop where
 x:lW cx (WW env) φ σ s.heap φ' σ' s'.heap
 S:kO cx φ' σ' s'
 L:xf cx φ' σ' s'.heap env ρ' γ
def After(cx:Cx)(φ:Ph)(σ:Hp)(s:Shared)(env:Env)(γ:Nm→Option I)(Q:Fl→Hp→Loc→Prop)(Q':Flow→Shared→Prop):Prop:=
 ∀φ' σ' s' ρ' fl fv,yW cx env γ φ σ s ρ' φ' σ' s'→MD s'.heap φ' σ' fl fv→Q fl σ' ρ'→Q' fv s'
def W1(m:MS)(γ:Nm→Option I)(ρ:Loc)(σ:Hp)(Q:Fl→Hp→Loc→Prop):Prop:=
 ∀sc st,jw cx.K cx.nest sc m st→∀A env φ s,Fm cx d γ ρ σ sc A env φ s→∀Q',After cx φ σ s env γ Q Q'→aB (model cx.prog cx.w) A (exec st env) Q' kX s
def WS(ms:List MS)(γ:Nm→Option I)(ρ:Loc)(σ:Hp)(Q:Fl→Hp→Loc→Prop):Prop:=
 ∀sc sts,i0 cx.K cx.nest sc ms sts→∀A env φ s,Fm cx d γ ρ σ sc A env φ s→∀Q',After cx φ σ s env γ Q Q'→aB (model cx.prog cx.w) A (execs sts env) Q' kX s
end
end
mutual
section
variable{cx:Cx}{d:Nat}{γ:Nm→Option I}{ρ ρ':Loc}{σ σ':Hp}{φ φ':Ph}{s s':Shared}{sc:Scope}{A:Around}{env:Env}{Q:Fl→Hp→Loc→Prop}{Q':Flow→Shared→Prop}
theorem xf.tJ{h:Heap}(l:xf cx φ σ h env ρ γ):mj h (WW env):=λb e=>
 l.ns.elim λm u=>u.1.elim λo w=>w.elim λes w=>w.elim λep w=>⟨o,(show b=_ from e)▸w.1,λvs q=>bA (w.2.1.symm.trans (congrArg cy q)),λvs x t q=>bA (w.2.1.symm.trans q)⟩
theorem Fm.x(F:Fm cx d γ ρ σ sc A env φ s)(g:yW cx env γ φ σ s ρ' φ' σ' s'):Fm cx d γ ρ' σ' sc A env φ' s':=⟨F.hA,F.E,g.S,g.L⟩
theorem Fm.me(F:Fm cx d γ ρ σ sc A env φ s):yW cx env γ φ σ s ρ φ σ s:=⟨.refl,F.S,F.L⟩
theorem Fm.gx(F:Fm cx d γ ρ σ sc A env φ s)(g:Go cx φ σ s φ' σ' s'):yW cx env γ φ σ s ρ φ' σ' s':=⟨g.x.x,g.S,(F.go g).L⟩
theorem yW.trans{φ'':Ph}{σ'':Hp}{oZ:Shared}{ρ'':Loc}(g:yW cx env γ φ σ s ρ' φ' σ' s')(g':yW cx env γ φ' σ' s' ρ'' φ'' σ'' oZ):yW cx env γ φ σ s ρ'' φ'' σ'' oZ:=⟨g.x.trans g'.x,g'.S,g'.L⟩
theorem After.trans(k:After cx φ σ s env γ Q Q')(g:yW cx env γ φ σ s ρ' φ' σ' s'):After cx φ' σ' s' env γ Q Q':=λZ Z Z Z Z Z y=>k _ _ _ _ _ _ (g.trans y)
theorem fY(h:Q .next σ ρ):WS cx d [] γ ρ σ Q:=λsc sts c A env φ s F Q' k=>c.nil (wpAny_execs_nil (k φ σ s ρ .next _ F.me rfl h))
def DG(cx:Cx)(d:Nat)(γ:Nm→Option I)(ms:List MS)(Q:Fl→Hp→Loc→Prop)(fl:Fl)(σ:Hp)(ρ:Loc):Prop:=fl.casesOn (WS cx d ms γ ρ σ Q) (Q .brk σ ρ) (Q .cont σ ρ) λv=>Q (.ret v) σ ρ
theorem Ij{ms:List MS}{sts:List Stmt}{N:Flow→Shared→Prop}(c:i0 cx.K cx.nest sc ms sts)(F:Fm cx d γ ρ σ sc A env φ s)(k:After cx φ σ s env γ Q Q')(n1:∀s',aB (model cx.prog cx.w) A (execs sts env) Q' kX s'→N .next s')(n2:∀s',Q' .brk s'→N .brk s')
  (n3:∀s',Q' .cont s'→N .cont s')(n4:∀y s',Q' (.ret y) s'→N (.ret y) s'):After cx φ σ s env γ (DG cx d γ ms Q) N:=λφ' σ' s' ρ' fl fv g fr q=>by
 cases fl with
 |next=>exact(show fv=_ from fr).symm▸n1 _ ((show WS cx d ms γ ρ' σ' Q from q) _ _ c A env φ' s' (F.x g) _ (k.trans g))
 |brk=>exact(show fv=_ from fr).symm▸n2 _ (k φ' σ' s' ρ' .brk .brk g rfl q)
 |cont=>exact(show fv=_ from fr).symm▸n3 _ (k φ' σ' s' ρ' .cont .cont g rfl q)
 |ret v=>exact aI fr λy u=>u.1.symm▸n4 _ _ (k φ' σ' s' ρ' (.ret v) (.ret y) g ⟨y,rfl,u.2⟩ q)
theorem fT{m:MS}{ms:List MS}(h:W1 cx d m γ ρ σ (DG cx d γ ms Q)):WS cx d (m::ms) γ ρ σ Q:=λsc sts c A env φ s F Q' k=>c.cons λst r c1 c2=>
 fP (h _ _ c1 A env φ s F _ (Ij c2 F k (λZ=>id) (λZ=>id) (λZ=>id) λZ Z=>id))
theorem C3(h:Q .cont σ ρ):W1 cx d .cont γ ρ σ Q:=λsc st c A env φ s F Q' k=>c.cont λZ=>wpAny_Continue (k φ σ s ρ .cont _ F.me rfl h)
theorem Hu(h:Q (.ret .none) σ ρ):W1 cx d (.ret none) γ ρ σ Q:=λsc st c A env φ s F Q' k=>c.YC λZ=>wpAny_Return_none (k φ σ s ρ (.ret .none) _ F.me ⟨_,rfl,.none⟩ h)
def X0(ρ:Loc)(Q:Fl→Hp→Loc→Prop)(v:V)(σ:Hp):Prop:=Q (.ret v) σ ρ
theorem iA{m:ME}(h:WE cx d m γ ρ σ (X0 ρ Q)):W1 cx d (.ret (some m)) γ ρ σ Q:=λsc st c A env φ s F Q' k=>c.ret λe p c=>wpAny_Return_some (h _ _ c A env φ s F _ λφ' σ' s' v y g vr q=>k φ' σ' s' ρ (.ret v) _ (F.gx g) ⟨_,rfl,vr⟩ q)
def YZ(cx:Cx)(d:Nat)(γ:Nm→Option I)(ρ:Loc)(b o:List MS)(Q:Fl→Hp→Loc→Prop)(r:Bool)(σ:Hp):Prop:=if r then WS cx d b γ ρ σ Q else WS cx d o γ ρ σ Q
theorem gp{t:ME}{b o:List MS}(h:WT cx d t γ ρ σ (YZ cx d γ ρ b o Q)):W1 cx d (.ite t b o) γ ρ σ Q:=λsc st c A env φ s F Q' k=>c.ite λte be oe p c1 c2 c3=>
 wpAny_If (h _ _ c1 A env φ s F _ λφ' σ' s' r g q=>by
  cases r with
  |true=>exact(show WS cx d b γ ρ σ' Q from q) _ _ c2 A env φ' s' (F.go g) _ (k.trans (F.gx g))
  |false=>exact(show WS cx d o γ ρ σ' Q from q) _ _ c3 A env φ' s' (F.go g) _ (k.trans (F.gx g)))
inductive Rb(ρ:Loc)(Q:Fl→Hp→Loc→Prop)(r:Bool)(σ:Hp):Prop
 |mk:r=true→Q .next σ ρ→Rb ρ Q r σ
theorem Iq{t:ME}(h:WT cx d t γ ρ σ (Rb ρ Q)):W1 cx d (.Bc t) γ ρ σ Q:=λsc st c A env φ s F Q' k=>c.Bc λe msg p c=>
 wpAny_Assert_holds (h _ _ c A env φ s F _ λφ' σ' s' r g q=>q.casesOn λe q=>⟨e,k φ' σ' s' ρ .next _ (F.gx g) rfl q⟩)
theorem Hz{b o:List MS}(h:WS cx d b γ ρ σ (DG cx d γ o Q)):W1 cx d (.tr b o) γ ρ σ Q:=λsc st c A env φ s F Q' k=>c.tr λbe h1 hs oe p c1 c2=>by
 rw[arm_exec_Try]
 refine af (bX (wpAny_tryStmt_except (aZ (E:=kX) ?_ (λZ Z z=>z) λZ Z z=>aN z)))
 exact h _ _ c1 A env φ s F _ (Ij c2 F k (λZ=>id) (λZ=>id) (λZ=>id) λZ Z=>id)
theorem yN{e:Expr}(h:kN e=true)(t:Option Expr)(l:Nat)(env:Env):swapsWith e t l env=pure false:=by
 cases e<;>first |rfl |exact nomatch h
theorem Fm.inter(F:Fm cx d γ ρ σ sc A env φ s):interactive env=false:=by
 unfold interactive
 rw[F.fn];rfl
def Ul(v:V):Prop:=v.casesOn True (λZ=>True) (λZ=>True) (λZ=>True) (λZ=>False) λZ=>False
inductive QE(ρ:Loc)(Q:Fl→Hp→Loc→Prop)(v:V)(σ:Hp):Prop
 |mk:Ul v→Q .next σ ρ→QE ρ Q v σ
theorem Ko{m:ME}(h:WE cx d m γ ρ σ (QE ρ Q)):W1 cx d (.ex m) γ ρ σ Q:=λsc st c A env φ s F Q' k=>c.ex λe p ns c=>
 wpAny_Expr (h _ _ c A env φ s F _ λφ' σ' s' v y g vr q=>q.casesOn λe q=>by
  have fin:=k φ' σ' s' ρ .next _ (F.gx g) rfl q
  cases v with
  |none |bool=>exact(show y=_ from vr)▸fin
  |int |str=>exact aI vr λt u=>u▸fin
  |_=>exact e.elim) F.inter (yN ns _ _ _)
section
variable{h':Heap}{X:Addr→Prop}
theorem Rel.Qg{h:Heap}(R:Rel cx φ σ h)(D:mj h X)(FV:∀b,X b→¬FP cx φ σ b)(RJ:∀b,X b→cx.h0.get? b=none)(hk:∀b o,¬X b→h.get? b=some o→h'.get? b=some o):Rel cx φ σ h':=
 have T:Tr cx φ σ h φ σ h':=.of R D ⟨λZ e=>⟨e,rfl⟩,λb o e Z n=>hk b o n e,λZ e e'=>absurd e e'⟩
 ⟨λb o e=>hk b o (λq=>ir e (RJ b q)) (R.base b o e),R.lo,λr o e=>(R.objs r o e).tr T (λo=>hk _ o λq=>FV _ q (.one r (kq e) rfl)) λo=>hk _ o λq=>FV _ q (.two r (kq e) rfl),R.inj,
  λq hq=>(R.tabs q hq).tr T λo=>hk _ o λz=>FV _ z (.tab q hq rfl)⟩
theorem Rel.soft{h:Heap}(R:Rel cx φ σ h)(D:mj h X)(FV:∀b,X b→¬FP cx φ σ b)(RJ:∀b,X b→cx.h0.get? b=none)(hk:∀b o,¬X b→h.get? b=some o→h'.get? b=some o)(hl:∀b,X b→∃o,h'.get? b=some o):
  lW cx X φ σ h φ σ h'∧Rel cx φ σ h':=
 ⟨⟨λZ e=>⟨e,rfl⟩,λb o e Z n=>hk b o n e,λZ e e'=>absurd e e',λb o e=>(aK (X b)).elim (hl b) λq=>⟨o,hk b o q e⟩⟩,R.Qg D FV RJ hk⟩
theorem Gz{h:Heap}(R:Rel cx φ σ h)(L:xf cx φ σ h env ρ γ)(hk:∀b o,b≠env.locals→h.get? b=some o→h'.get? b=some o)(hl:∃o,h'.get? env.locals=some o):lW cx (WW env) φ σ h φ σ h'∧Rel cx φ σ h':=
 R.soft L.tJ (λb e=>(show b=_ from e).symm▸L.FV) (λb e=>(show b=_ from e).symm▸L.RJ) hk λb e=>(show b=_ from e).symm▸hl
end
end
mutual
theorem BE{x:Nm}{v:V}{y:Value}{Q':Unit→Shared→Prop}(F:Fm cx d γ ρ σ sc A env φ s)(hx:sc.names.lookup x.str=some .local)(vr:gJ s.heap φ σ v y)
  (k:∀s',yW cx env γ φ σ s (up ρ x (some v)) φ σ s'→Q' () s'):aB (model cx.prog cx.w) A (storeName env x.str y) Q' kX s:=
 F.L.ns.elim λm u=>wpAny_storeName_local ((F.kindOf _).trans hx) u.1 (λh' A9 hs=>
  have w:=Gz F.S.rel F.L (h':=h') (λb o n e=>(hs.2 b n).trans e) (A9.elim λo w=>w.elim λZ w=>w.elim λZ w=>⟨o,w.1⟩)
  k _ ⟨w.1,⟨w.2,F.S.gens,F.S.drawn,F.S.os⟩,⟨_,A9,λz u' e=>(kJ ρ x (some v) z).elim (λt=>⟨y,by rw[t.1];exact if_pos rfl,Option.some.inj (t.2.symm.trans e)▸vr.MO F.S.rel F.L.tJ w.1⟩)
   λt=>(u.2 z u' (t.2.symm.trans e)).elim λw' t'=>⟨w',(if_neg λq=>t.1 (Nm.str_inj q)).trans t'.1,t'.2.MO F.S.rel F.L.tJ w.1⟩⟩,F.L.FV,F.L.RJ,F.L.iN⟩) (by rw[F.E.scope,F.E.kind];rfl)
end
end
mutual
inductive Mp(γ:Nm→Option I)(x:Nm)(v:V)(ρ:Loc)(σ:Hp)(k:Loc→Hp→Prop):Prop
 |mk (r:I) (u:Option V):γ x=some r→σ r=some (.cell u)→k ρ (up σ r (some (.cell (some v))))→Mp γ x v ρ σ k
def BI(γ:Nm→Option I)(t:Tg)(v:V)(ρ:Loc)(σ:Hp)(k:Loc→Hp→Prop):Prop:=t.casesOn (λx=>k (up ρ x (some v)) σ) λx=>Mp γ x v ρ σ k
def Ac(γ:Nm→Option I)(ts:List Tg):List V→Loc→Hp→(Loc→Hp→Prop)→Prop:=ts.rec (λvs ρ σ k=>vs.casesOn (k ρ σ) λZ Z=>False) λt Z ih vs ρ σ k=>vs.casesOn False λv vs=>BI γ t v ρ σ λρ σ=>ih vs ρ σ k
def ib(γ:Nm→Option I)(t:sJ)(v:V)(ρ:Loc)(σ:Hp)(k:Loc→Hp→Prop):Prop:=t.casesOn (λt=>BI γ t v ρ σ k) λts=>v.casesOn False (λZ=>False) (λZ=>False) (λZ=>False) (λZ=>False) λvs=>Ac γ ts vs ρ σ k
section
variable{cx:Cx}{d:Nat}{γ:Nm→Option I}{ρ ρ':Loc}{σ σ':Hp}{Q:Fl→Hp→Loc→Prop}
variable{A:Around}{env:Env}{sc:Scope}{φ φ':Ph}{s s':Shared}{k:Loc→Hp→Prop}{Q':Unit→Shared→Prop}
theorem Go.change(S:kO cx φ σ s){r:I}{o₀ o':O}{h':Heap}(t:Nat)(hr:σ r=some o₀)(hk:∀b q,b≠(φ r).1→b≠(φ r).2→s.heap.get? b=some q→h'.get? b=some q)(Yu:∃q,h'.get? (φ r).1=some q)(X1:∃q,h'.get? (φ r).2=some q)
  (y:Ext cx φ σ s.heap φ (up σ r (some o')) h'→vW cx h' φ (up σ r (some o')) o' (φ r)):Go cx φ σ s φ (up σ r (some o')) {s with heap:=h',toks:=t}:=
 have w:=Mine.change S.rel hr hk Yu X1 y;⟨w.1,w.2,S.gens,S.drawn,S.os⟩
theorem JA{x:Nm}{r:I}{u:Option V}{v:V}{y:Value}(F:Fm cx d γ ρ σ sc A env φ s)(hx:sc.names.lookup x.str=some .cell)(hr:γ x=some r)(hu:σ r=some (.cell u))(vr:gJ s.heap φ σ v y)
  (k:∀s',Go cx φ σ s φ (up σ r (some (.cell (some v)))) s'→Q' () s'):aB (model cx.prog cx.w) A (storeName env x.str y) Q' kX s:=
 have e:=F.S.rel.objs r _ hu
 e.2.elim λo w=>w.elim λz w=>wpAny_storeName_cell F.fn ((F.kindOf _).trans hx) (F.L.iN x r hr).2 ⟨o,w.1,w.2.1⟩ λh' hv Wa=>hv.elim λo' g=>
  k _ (.change F.S s.toks hu (λb q n Z e=>(Wa.2 b n).trans e) ⟨o',g.1⟩ ⟨o',(congrArg _ e.1).trans g.1⟩ λX=>⟨e.1,o',some y,g.1,g.2,y,rfl,vr.ext F.S.rel X⟩)
theorem Eg{t:Tg}{e:Expr}{v:V}{y:Value}(c:rB sc e t)(F:Fm cx d γ ρ σ sc A env φ s)(vr:gJ s.heap φ σ v y)(hq:BI γ t v ρ σ k)(h:∀σ' s' ρ',yW cx env γ φ σ s ρ' φ σ' s'→k ρ' σ'→Q' () s'):
  aB (model cx.prog cx.w) A (assign e env y) Q' kX s:=by
 cases t with
 |var x=>exact c.var λp q=>af (bX (wpAny_bindName (BE F (beq_iff_eq.mp (f7 q).1) vr λs' g=>h _ s' _ g hq)))
 |iN x=>exact c.iN λp q=>Mp.casesOn hq λr u e1 e2 hk=>af (bX (wpAny_bindName (JA F q e1 e2 vr λs' g=>h _ s' _ (F.gx g) hk)))
theorem C7{sc:Scope}{e:Expr}{t:Tg}(c:rB sc e t)(es:List Expr)(env:Env):assignEach (e::es) env=(false,assign e env)::assignEach es env:=by
 cases t with
 |var x=>exact c.var λp q=>rfl
 |iN x=>exact c.iN λp q=>rfl
theorem EF{sc:Scope}{env:Env}:∀{ts:List Tg} {es:List Expr},oX sc es ts→(assignEach es env).findIdx? (·.1)=none∧(assignEach es env).length=ts.length
 |[],es,c=>c.nil ⟨rfl,rfl⟩
 |t::ts,es,c=>c.cons λe r ns ce cs=>by
  have ih:=EF (env:=env) cs
  rw[C7 ce,List.findIdx?_cons,ih.1,c8,ih.2]
  exact⟨rfl,rfl⟩
theorem Fh:∀{ts:List Tg} {es:List Expr} {vs:List V} {ys:List Value} {ρ:Loc} {σ:Hp} {s:Shared} {k:Loc→Hp→Prop},oX sc es ts→Fm cx d γ ρ σ sc A env φ s→gh s.heap φ σ vs ys→Ac γ ts vs ρ σ k→
  (∀σ' s' ρ',yW cx env γ φ σ s ρ' φ σ' s'→k ρ' σ'→Q' () s')→aB (model cx.prog cx.w) A (assignInOrder ((assignEach es env).map (·.2)) ys) Q' kX s
 |[],es,[],ys,ρ,σ,s,k,c,F,vr,hq,h=>c.nil ((show ys=[]from vr).symm▸aq (h σ s ρ F.me hq))
 |[],es,_::_,ys,ρ,σ,s,k,c,F,vr,hq,h=>aN hq
 |t::ts,es,[],ys,ρ,σ,s,k,c,F,vr,hq,h=>aN hq
 |t::ts,es,v::vs,ys,ρ,σ,s,k,c,F,vr,hq,h=>c.cons λe r ns ce cs=>vr.un.elim λy w=>w.elim λzs w=>by
  rw[C7 ce,w.1]
  show aB _ _ (holding _ (assign e env y) >>=λZ=>assignInOrder ((assignEach r env).map (·.2)) zs) _ _ _
  exact af (bL (Eg ce F w.2.1 (show BI γ t v ρ σ λρ σ=>Ac γ ts vs ρ σ k from hq) λσ' s' ρ' g Xd=>
   Fh cs (F.x g) (w.2.2.MO F.S.rel F.L.tJ g.x) Xd λσ'' oZ ρ'' g' hk=>h σ'' oZ ρ'' (g.trans g') hk))
theorem FG:∀{ts:List Tg} {l:List V} {ρ:Loc} {σ:Hp} {k:Loc→Hp→Prop},Ac γ ts l ρ σ k→ts.length=l.length
 |[],[],_,_,_,_=>rfl
 |[],_::_,_,_,_,q=>aN q
 |_::_,[],_,_,_,q=>aN q
 |.var x::ts,v::l,ρ,σ,k,q=>congrArg (· +1) (FG (ρ:=up ρ x (some v)) (σ:=σ) (k:=k) q)
 |.iN x::ts,v::l,ρ,σ,k,q=>Mp.casesOn q λr u Z Z q=>congrArg (· +1) (FG (ρ:=ρ) (k:=k) q)
theorem yG{t:sJ}{e:Expr}{v:V}{y:Value}(c:lp sc e t)(F:Fm cx d γ ρ σ sc A env φ s)(vr:gJ s.heap φ σ v y)(hq:ib γ t v ρ σ k)(h:∀σ' s' ρ',yW cx env γ φ σ s ρ' φ σ' s'→k ρ' σ'→Q' () s'):
  aB (model cx.prog cx.w) A (assign e env y) Q' kX s:=by
 cases t with
 |one t=>exact Eg c F vr hq h
 |tup ts=>
  cases v with
  |tup l=>
   exact c.tup λes a p c=>aI vr λa w=>w.elim λvs w=>w.1.symm▸have f:=EF (env:=env) c
    wpAny_assign_Tuple F.hA.hd (items:=vs.toArray) ⟨_,w.2.1,rfl,0,rfl⟩ (by rw[f.2,FG hq,aC,gh.length w.2.2]) f.1 λh' hx=>
     have keep:∀b o,s.heap.get? b=some o→h'.get? b=some o:=λb o e=>hx b o (av (a0 e)) e
     have g:Go cx φ σ s φ σ {s with heap:=h'}:=⟨Ext.grow keep,F.S.rel.grow keep,F.S.gens,F.S.drawn,F.S.os⟩
     Fh (s:={s with heap:=h'}) c (F.go g) (gh.ext F.S.rel g.x w.2.2) hq λσ' s' ρ' g' hk=>h σ' s' ρ' ((F.gx g).trans g') hk
  |_=>exact aN hq
theorem CY{e:Expr}{m:ME}(c:(kN e||!tD m)=true)(h:tD m=true):kN e=true:=(tU c).elim id λc=>nomatch (oK c).symm.trans h
theorem wU{t v:Expr}(h:JX t v=true):swappedStores [t] v env=pure none:=
 (tU h).elim (λh=>iD (P:=λt=>swappedStores [t] v env=pure none) h λZ Z Z=>rfl) λh=>uL (P:=λt=>swappedStores [t] v env=pure none) (f7 h).1 λes k p Z=>
  (tU (f7 h).2).elim (λh=>iD (P:=λv=>swappedStores [.Tuple es k p] v env=pure none) h λZ Z Z=>rfl) λh=>(tU h).elim (λh=>kj (P:=λv=>swappedStores [.Tuple es k p] v env=pure none) h λZ Z Z Z Z=>rfl) λh=>
   (tU h).elim (λh=>nC (P:=λv=>swappedStores [.Tuple es k p] v env=pure none) h λZ Z Z Z=>rfl) λh=>lZ (P:=λv=>swappedStores [.Tuple es k p] v env=pure none) h λZ Z Z Z=>rfl
def V3(Q:Fl→Hp→Loc→Prop)(ρ:Loc)(σ:Hp):Prop:=Q .next σ ρ
def VK(γ:Nm→Option I)(t:sJ)(ρ:Loc)(Q:Fl→Hp→Loc→Prop)(v:V)(σ:Hp):Prop:=ib γ t v ρ σ (V3 Q)
theorem Du{sc:Scope}{e:Expr}{t:sJ}(c:lp sc e t)(y:Value)(env:Env):assignAll y ((assignEach [e] env).map (·.2))=assign e env y:=by
 cases t with
 |one t=>exact(congrArg (λl=>assignAll y (l.map (·.2))) (C7 c [] env)).trans rfl
 |tup ts=>exact c.tup λZ Z Z Z=>rfl
theorem lN{t:sJ}{m:ME}(hm:tD m=true)(h:WE cx d m γ ρ σ (VK γ t ρ Q)):W1 cx d (.asg t m) γ ρ σ Q:=λsc st c A env φ s F Q' k=>c.asg λte ve p ct nt ce=>
 wpAny_Assign_stores (h _ _ ce A env φ s F _ λφ' σ' s' v y g vr q=>(Du ct y env).symm▸yG ct (F.go g) vr q λσ'' oZ ρ'' g' hk=>k φ' σ'' oZ ρ'' .next _ ((F.gx g).trans g') rfl hk) (yN (CY (f7 nt).2 hm) _ _ _) (wU (f7 nt).1)
end
end
mutual
section
open Builtin Builtin.ObjectAttr
theorem yk:∀(n:Nat) (l:List Nat),l.Nodup→(∀x∈l,x<n)→l.length≤n
 |0,[],_,h=>aL _
 |0,a::l,_,h=>absurd (h a (.head _)) (bt _)
 |n+1,l,hn,h=>by
  have h1:(l.erase n).length≤n:=yk n (l.erase n) (hn.erase n) λx hx=>
   have t:=(hn.mem_erase_iff).mp hx
   eS (bH (h x t.2)) t.1
  exact ab (Nat.le_add_of_sub_le List.le_length_erase) (bl h1)
theorem Nm.length_le{l:List Nm}(h:l.Nodup):l.length≤245:=
 ai (f:=Nm.i)▸yk 245 (l.map (·.i)) (dc _ (λa b Jj e=>Jj (Nm.ext e)) h) λx hx=>(List.mem_map.mp hx).elim λa u=>u.2▸a.lt
section
variable{cx:Cx}{d:Nat}{γ:Nm→Option I}{ρ:Loc}{σ:Hp}{A:Around}{φ:Ph}{s:Shared}
def HM(es:Array DictEntry):Prop:=∃ls:List Nm,es.size=ls.length∧ls.Nodup∧∀x∈ls,(nsFind es x.str).isSome=true
structure Wz(es es':Array DictEntry)(x:Str)(v:Value):Prop where
 k:StrKeys es'
 f:∀y,nsFind es' y=if y=x then some v else nsFind es y
 n:es'.size=es.size∨(es'.size=es.size+1∧nsFind es x=none)
theorem str_beq(x z:Str):(x==z)=decide (z=x):=by
 by_cases q:z=x
 ·rw[q,decide_eq_true rfl];exact beq_self_eq_true _
 ·rw[decide_eq_false q];exact beq_eq_false_iff_ne.mpr (Ne.symm q)
theorem J3{M:Model}{E:Value→Shared→Prop}{a:Addr}{x:Str}{v:Value}{es:Array DictEntry}{ep:Nat}{Q:Unit→Shared→Prop}(g:s.heap.get? a=some (mf es ep))(hk:StrKeys es)
  (h:∀h' es' W0,h'.get? a=some (mf es' W0)→Heap.SameBut a s.heap h'→Wz es es' x v→Q () {s with heap:=h',toks:=s.toks+1}):aB M A (nsSet a x v) Q E s:=by
 have YW:es.any (·.refKey)=false:=Array.any_toList.symm.trans (no_ref hk)
 unfold nsSet strHash
 refine af (af (wpAny_askSetting (aq (af (wpAny_mkText (af (wpAny_loadPart g ?_)))))))
 dsimp only [mf]
 rw[aRefKeyMayBeTheName_at,YW,Bool.and_false,if_neg (by decide)]
 refine wpAny_updatePart g ?_
 have hs:=dO s.heap a (Obj.putName x (dX M.w.params x) (.str x s.toks) v)
 have upd:∀{o':Obj},Obj.putName x (dX M.w.params x) (.str x s.toks) v (mf es ep)=o'→o'.isFreed=false→_:=λe f=>e▸Heap.get?_update_self (Obj.putName x (dX M.w.params x) (.str x s.toks) v) g (e▸f)
 cases hi:es.findIdx? (λe=>e.key.isStr x)with
 |some i=>
  exact h _ _ _ (upd (o':=mf (es.modify i λe=>{e with val:=v}) ep) (by rw[Obj.putName_eq];unfold Obj.putNameByArray mf;simp only [hi]) rfl) hs
   ⟨hk.modify _ _,λy=>findBy_modify (λn v=>v.isStr n) Value.isStr_inj es x y v i hi,.inl (Array.size_modify ..)⟩
 |none=>
  exact h _ _ _ (upd (o':=mf (es.push ⟨dX M.w.params x,.str x s.toks,v⟩) (ep+1)) (by rw[Obj.putName_eq];unfold Obj.putNameByArray mf;simp only [hi]) rfl) hs
   ⟨hk.push _ _ _ _,λy=>findBy_push (λn v=>v.isStr n) es x y _ _ v (str_beq x) hi,.inr ⟨Array.size_push ..,(findBy_of_findIdx? (λn v=>v.isStr n) es x).trans (by rw[hi])⟩⟩
theorem Wz.has{es es':Array DictEntry}{x y:Str}{v:Value}(p:Wz es es' x v)(h:(nsFind es y).isSome=true):(nsFind es' y).isSome=true:=by
 rw[p.f];split;rfl;exact h
theorem Wz.names{es es':Array DictEntry}{a:Nm}{v:Value}(p:Wz es es' a.str v)(h:HM es):HM es':=h.elim λls l=>p.n.elim (λe=>⟨ls,e.trans l.1,l.2.1,λx hx=>p.has (l.2.2 x hx)⟩) λe=>
 ⟨a::ls,e.1.trans (congrArg (· +1) l.1),.cons (λx hx q=>nomatch (show none.isSome=true from e.2▸q▸l.2.2 x hx)) l.2.1,λx hx=>(List.mem_cons.mp hx).elim (λq=>by rw[q,p.f,if_pos rfl];rfl) λq=>p.has (l.2.2 x q)⟩
theorem Ce(O:gT cx){r:I}{c:pL}{fs:Nm→Option V}{a:Nm}{v:V}{y:Value}{Q':Unit→Shared→Prop}(S:kO cx φ σ s)(hr:σ r=some (.inst c fs))(hn:c.attr a=none)(vr:gJ s.heap φ σ v y)
  (k:∀s',Go cx φ σ s φ (up σ r (some (.inst c (up fs a (some v))))) s'→Q' () s'):aB (model cx.prog cx.w) A (setAttr (.ref (φ r).1) a.str y) Q' kX s:=
 (s8 S hr).elim λes w=>w.elim λep w=>(any_some (O.cls c).hd).elim λcd hc=>by
  have X:=O.X.keeps S.rel.base
  have z:=S.rel.objs r _ hr
  refine set_plain X w.at_ (O.cls c).sa (osa_open (s:={s with toks:=s.toks+1}) X w.at_ (O.cls c).po (r:=none) (by unfold takerIn;rw[(O.cls c).attr a,hn];rfl) λb=>?_)
  refine af (aq (af (af (wpAny_loadPart z.2.1 (af (looks_clsIn X hc.1 _ _ _ {s with toks:=s.toks+1} (λZ Z e=>e) ?_))))))
  rw[hc.2]
  refine aq (a:=some (φ r).2) (af (aq (af (J3 w.d w.k λh' es' W0 g' hs p=>?_))))
  have ns:=p.names w.n
  have bound:es'.size≤sizeLine+1:=ns.elim λls l=>l.1▸ab (Nm.length_le l.2.1) (by rw[cz];decide)
  have h1:=(hs.2 _ z.1).trans z.2.1
  exact af (wpAny_lookBehind g' (pastItsLine_dict bound) (aq (k _ (.change S _ hr (λb q n1 n2 e=>(hs.2 b n2).trans e) ⟨_,h1⟩ ⟨_,g'⟩ λY=>ns.elim λls m=>
   ⟨z.1,h1,es',W0,ls,g',m,p.k,λx u e=>(kJ fs a (some v) x).elim (λt=>⟨y,by rw[p.f,t.1,if_pos rfl],Option.some.inj (t.2.symm.trans e)▸vr.ext S.rel Y⟩)
    λt=>(w.f x u (t.2.symm.trans e)).elim λz q=>⟨z,by rw[p.f,if_neg λw=>t.1 (Nm.str_inj w)];exact q.1,q.2.ext S.rel Y⟩,
    λx e=>(kJ fs a (some v) x).elim (λt=>ir t.2 e) λt=>by rw[p.f,if_neg λw=>t.1 (Nm.str_inj w)];exact w.no x (t.2.symm.trans e)⟩))))
inductive Qn(a:Nm)(ρ:Loc)(Q:Fl→Hp→Loc→Prop)(v:V)(u:V)(σ:Hp):Prop
 |mk (r:I) (c:pL) (fs:Nm→Option V):u=.ref r→σ r=some (.inst c fs)→c.attr a=none→Q .next (up σ r (some (.inst c (up fs a (some v))))) ρ→Qn a ρ Q v u σ
def V2(cx:Cx)(d:Nat)(γ:Nm→Option I)(ρ:Loc)(o:ME)(a:Nm)(Q:Fl→Hp→Loc→Prop)(v:V)(σ:Hp):Prop:=WE cx d o γ ρ σ (Qn a ρ Q v)
theorem oo(O:gT cx){o m:ME}{a:Nm}{Q:Fl→Hp→Loc→Prop}(h:WE cx d m γ ρ σ (V2 cx d γ ρ o a Q)):W1 cx d (.hO o a m) γ ρ σ Q:=λsc st c A env φ s F Q' k=>c.hO λoe p1 ve p ns co cv=>
 plainObj_wpAny_Assign_Attribute (h _ _ cv A env φ s F _ λφ' σ' s' v y g vr q=>q _ _ co A env φ' s' (F.go g) _ λφ'' σ'' oZ u z g' ur q=>q.casesOn λr c fs e1 e2 e3 hq=>(ur.at e1).symm▸
  Ce O g'.S e2 e3 (vr.ext g.S.rel g'.x) λs₃ g₃=>k φ'' _ s₃ ρ .next _ (F.gx ((g.trans g').trans g₃)) rfl hq) (yN ns _ _ _)
end
end
end
mutual
section
structure rJ where
 name:Str
 qual:Str
 params:Arguments
 body:List Stmt
 scope:Scope
 dV:Value
 kV:Value
 doc:Value
 pm:Value
 an:Option Addr
 LZ:Value
 ct:Value
 od:Option Addr
 Xa:Array (Option Value)
def rJ.fd(r:rJ):FuncData:=fnX r.name r.qual r.params r.body r.scope [] r.dV r.kV r.doc r.pm r.an r.LZ r.ct
def Bv(K:Frag)(v:V)(y:Value):Prop:=v.casesOn (y=.none) (λb=>y=.bool b) (λZ=>False) (λs=>∃t,y=.str s t) (λZ=>False) λl=>l=[]∧∃a,y=.ref a∧K.lookup a=some (jI [])
def oh(K:Frag)(l:List V):List Value→Prop:=l.rec (λys=>ys=[]) λv Z ih ys=>∃y zs,ys=y::zs∧Bv K v y∧ih zs
structure um(cx:Cx)(f:Fn)(r:rJ):Prop where
 at_:cx.K.lookup f.addr=some ⟨.type "function",r.od,.func r.fd,r.Xa⟩
 code:codeIn cx.K r.LZ r.qual=true
 po:r.params.posonlyargs=[]
 as:r.params.args.map (·.arg)=f.params.map (·.str)
 va:r.params.vararg=none
 ko:r.params.kwonlyargs=[]
 kw:r.params.kwarg=none
 dfl:(f.ux=[]∧r.dV=.none)∨∃T vs,r.dV=.ref T∧cx.K.lookup T=some (jI vs)∧oh cx.K f.ux vs
 kind:r.scope.kind=.function
 co:r.scope.isCoroutine=false
 gen:r.scope.isGenerator=false
 pn:f.params.Nodup
 pk:∀x∈f.params,if x∈f.cells then r.scope.names.lookup x.str=some .cell else r.scope.names.lookup x.str=some .local
 cn:f.cells.Nodup
 ck:∀x∈f.cells,r.scope.names.lookup x.str=some .cell
 body:i0 cx.K cx.nest r.scope f.body r.body
def KC(cx:Cx)(φ:Ph)(σ:Hp)(s:Shared)(Q:V→Hp→Prop)(R:Result→Shared→Prop):Prop:=∀φ' σ' s' v y,Go cx φ σ s φ' σ' s'→gJ s'.heap φ' σ' v y→Q v σ'→R (.ok (.ret y)) s'
def WC(cx:Cx)(d:Nat)(f:Fn)(vs:List V)(σ:Hp)(Q:V→Hp→Prop):Prop:=
 ∀A φ s ys pos kw r,nU A d→kO cx φ σ s→gh s.heap φ σ vs ys→um cx f r→BindsTo s r.fd ⟨pos,kw⟩ ((f.params.map (·.str)).zip ys)→∀R,KC cx φ σ s Q R→codeAny (model cx.prog cx.w) A (.call (.ref f.addr) ⟨pos,kw⟩) R s
def qi(vals:Nm→Option V)(cs:List (Nm×I)):Hp→Hp:=cs.rec id λp Z ih σ=>ih (up σ p.2 (some (.cell (vals p.1))))
def BY(f:Fn)(vs:List V):Loc:=λx=>if x∈f.cells then none else lk (f.params.zip vs) x
def Fu(f:Fn)(vs:List V):Loc:=lk (f.params.zip vs)
variable{cx:Cx}{d:Nat}{σ:Hp}{φ:Ph}
theorem uw{α:Type}{x:Nm}{a:α}:∀{l:List (Nm×α)},lk l x=some a→(x,a)∈l
 |[],h=>nomatch h
 |(y,b)::l,h=>by
  cases q:aS x.i y.i with
  |true=>exact Nm.ext (bw q)▸Option.some.inj ((show lk ((y,b)::l) x=some b by show(bif aS x.i y.i then some b else lk l x)=_;rw[q];rfl).symm.trans h)▸.head _
  |false=>exact .tail _ (uw ((show lk ((y,b)::l) x=lk l x by show(bif aS x.i y.i then some b else lk l x)=_;rw[q];rfl).symm.trans h))
theorem x8{vals:Nm→Option V}{r:I}:∀(cs:List (Nm×I)) {σ:Hp},qi vals cs σ r≠none→σ r≠none∨∃x,(x,r)∈cs
 |[],_,h=>.inl h
 |(x,q)::cs,σ,h=>(x8 cs h).elim (λz=>(kJ σ q (some (.cell (vals x))) r).elim (λe=>.inr ⟨x,e.1▸.head _⟩) λe=>.inl (e.2▸z)) λz=>z.elim λy z=>.inr ⟨y,.tail _ z⟩
structure Tc(cx:Cx)(cells:List (Str×Addr))(cm:Str→Option Value)(vals:Nm→Option V)(h₀ h:Heap)(φ:Ph)(σ:Hp)(x:Nm)(r:I)(a:Addr):Prop where
 free:σ r=none
 at_:cells.lookup x.str=some a
 new:h₀.get? a=none
 lo:cx.h0.get? a=none
 fp:¬FP cx φ σ a
 cell:h.IsCell a (cm x.str)
 val:∀v,vals x=some v→∃y,cm x.str=some y∧gJ h φ σ v y
structure PO(cx:Cx)(cells:List (Str×Addr))(vals:Nm→Option V)(cs:List (Nm×I))(h₀ h:Heap)(φ₀:Ph)(σ₀:Hp)(φ:Ph)(σ:Hp)(φ':Ph):Prop where
 x:Ext cx φ₀ σ₀ h₀ φ' (qi vals cs σ) h
 R:Rel cx φ' (qi vals cs σ) h
 old:∀r,σ r≠none→qi vals cs σ r≠none∧φ' r=φ r
 new:∀x r,(x,r)∈cs→qi vals cs σ r≠none∧cells.lookup x.str=some (φ' r).1∧(φ' r).2=(φ' r).1
theorem ya{cells:List (Str×Addr)}{cm:Str→Option Value}{vals:Nm→Option V}{h₀ h:Heap}{φ₀:Ph}{σ₀:Hp}(ap:∀x y a,cells.lookup x=some a→cells.lookup y=some a→x=y):∀(cs:List (Nm×I)) {φ:Ph} {σ:Hp},
  Ext cx φ₀ σ₀ h₀ φ σ h→Rel cx φ σ h→(cs.map (·.1)).Nodup→(cs.map (·.2)).Nodup→(∀x r,(x,r)∈cs→∃a,Tc cx cells cm vals h₀ h φ σ x r a)→∃φ',PO cx cells vals cs h₀ h φ₀ σ₀ φ σ φ'
 |[],φ,σ,Y,R,_,_,_=>⟨φ,Y,R,λZ e=>⟨e,rfl⟩,λZ Z e=>nomatch e⟩
 |(x,r)::cs,φ,σ,Y,R,n1,n2,hc=>(hc x r (.head _)).elim λa c=>c.cell.elim λo g=>by
  have Zj:=List.nodup_cons.mp n1
  have Zw:=List.nodup_cons.mp n2
  have dm:∀z,σ z≠none→up σ r (some (O.cell (vals x))) z≠none∧up φ r (a,a) z=φ z:=λz hz=>have n:z≠r:=λe=>hz (e▸c.free);⟨gD (x:=z) σ (some (O.cell (vals x))) n▸hz,gD _ _ n⟩
  have A:=adopt (o:=.cell (vals x)) (a:=(a,a)) Y R c.free c.new c.new c.fp c.fp c.lo c.lo ⟨rfl,o,cm x.str,g.1,g.2,by
   cases hv:vals x with
   |none=>trivial
   |some v=>exact(c.val v hv).elim λy u=>⟨y,u.1,hv▸u.2.DQ dm⟩⟩
  refine(ya (cm:=cm) ap cs A.1 A.2 Zj.2 Zw.2 λz q hz=>(hc z q (.tail _ hz)).elim λb e=>?_).elim λφ' W=>⟨φ',W.x,W.R,λz hz=>have u:=dm z hz;have v:=W.old z u.1;⟨v.1,v.2.trans u.2⟩,λz q hz=>(List.mem_cons.mp hz).elim (λe=>?_) (W.new z q)⟩
  ·have qr:q≠r:=λe=>Zw.1 (by rw[←e];exact dh (f:=(·.2)) hz)
   have zx:z≠x:=λe=>Zj.1 (by rw[←e];exact dh (f:=(·.1)) hz)
   have ba:b≠a:=λw=>zx (Nm.str_inj (ap _ _ a (w▸e.at_) c.at_))
   have one:∀w,up σ r (some (O.cell (vals x))) w≠none→b=(up φ r (a,a) w).1∨b=(up φ r (a,a) w).2→σ w≠none∧up φ r (a,a) w=φ w:=λw hw he=>(kJ σ r (some (O.cell (vals x))) w).elim
    (λt=>by rw[t.1,fW]at he;exact absurd (he.elim id id) ba) λt=>⟨t.2▸hw,gD _ _ t.1⟩
   exact⟨b,(gD _ _ qr).trans e.free,e.at_,e.new,e.lo,λf=>f.casesOn (λw hw he=>have t:=one w hw (.inl he);e.fp (.one w t.1 (he.trans (congrArg (·.1) t.2)))) (λw hw he=>have t:=one w hw (.inr he);e.fp (.two w t.1 (he.trans (congrArg (·.2) t.2))))
    λw hw he=>e.fp (.tab w hw he),e.cell,λv hv=>(e.val v hv).elim λy u=>⟨y,u.1,u.2.DQ dm⟩⟩
  ·cases e
   have v:=W.old r (kq (fW _ _ _))
   exact⟨v.1,by rw[v.2,fW];exact c.at_,by rw[v.2,fW]⟩
section
variable{F:List (Str×Value)→(Str→Option Value)→Str→Option Value}{P:Str→Prop}[DecidablePred P]{x:Nm}
theorem HU(h0:∀m,F [] m=m)(hc:∀x y r m,F ((x,y)::r) m=F r (if P x then λn=>if n=x then some y else m n else m)):∀(ps:List Nm) (ys:List Value) (m:Str→Option Value),x∉ps→F ((ps.map (·.str)).zip ys) m x.str=m x.str
 |[],_,m,_=>congrFun (h0 m) _
 |p::ps,[],m,_=>congrFun (h0 m) _
 |p::ps,y::ys,m,h=>((congrFun (hc p.str y _ m) _).trans (HU h0 hc ps ys _ λq=>h (.tail _ q))).trans (by split;exact if_neg λe=>h (by rw[Nm.str_inj e];exact .head _);rfl)
theorem GV(h0:∀m,F [] m=m)(hc:∀x y r m,F ((x,y)::r) m=F r (if P x then λn=>if n=x then some y else m n else m)){y:Value}:∀(ps:List Nm) (ys:List Value) (m:Str→Option Value),ps.Nodup→(x,y)∈ps.zip ys→P x.str→F ((ps.map (·.str)).zip ys) m x.str=some y
 |[],_,_,_,h,_=>nomatch h
 |p::ps,[],_,_,h,_=>nomatch h
 |p::ps,z::ys,m,n,h,k=>
  have n':=List.nodup_cons.mp n;(congrFun (hc p.str z _ m) _).trans ((List.mem_cons.mp h).elim (λe=>by
   cases e
   exact(HU h0 hc ps ys _ n'.1).trans (by rw[if_pos k];exact if_pos rfl)) λh=>GV h0 hc ps ys _ n'.2 h k)
end
end
mutual
theorem yL{h:Heap}{x:Nm}{v:V}:∀(ps:List Nm) (vs:List V) (ys:List Value),gh h φ σ vs ys→(x,v)∈ps.zip vs→∃y,(x,y)∈ps.zip ys∧gJ h φ σ v y
 |[],_,_,_,e=>nomatch e
 |p::ps,[],_,_,e=>nomatch e
 |p::ps,a::vs,ys,r,e=>r.un.elim λy u=>u.elim λzs u=>u.1▸(List.mem_cons.mp e).elim (λe=>by cases e;exact⟨y,.head _,u.2.1⟩) λe=>(yL ps _ _ u.2.2 e).elim λz w=>⟨z,.tail _ w.1,w.2⟩
def Fl.val(f:Fl):V:=f.casesOn .none .none .none id
def Wb(X:Env→Prop)(cx:Cx)(d:Nat)(ms:List MS)(γ:Nm→Option I)(ρ:Loc)(σ:Hp)(Q:Fl→Hp→Loc→Prop):Prop:=
 ∀sc sts,i0 cx.K cx.nest sc ms sts→∀A env φ s,X env→Fm cx d γ ρ σ sc A env φ s→∀Q',After cx φ σ s env γ Q Q'→aB (model cx.prog cx.w) A (execs sts env) Q' kX s
theorem TV{X:Env→Prop}{γ:Nm→Option I}{ρ:Loc}{Q:Fl→Hp→Loc→Prop}{ms:List MS}(h:WS cx d ms γ ρ σ Q):Wb X cx d ms γ ρ σ Q:=λsc sts c A env φ s Z=>h sc sts c A env φ s
def H8(cx:Cx)(f:Fn)(env:Env):Prop:=∃r,um cx f r∧env.code=r.LZ∧env.qual=r.qual++".<locals>."
def JO(Q:V→Hp→Prop)(fl:Fl)(σ:Hp)(_:Loc):Prop:=Q fl.val σ
theorem yT{a c n d M k:Nat}(h:a+k*(d+1)+n≤M)(hc:c≤k):a+c+k*d+n≤M:=
 ab (aX (by rw[Nat.mul_succ,b0,bR (k*d)];exact aW (aX hc _) _) n) h
theorem xY{A:Around}{env:Env}(hA:nU A (d+1)):nU (A.deeper env) d:=⟨hA.hd,(show A.depth+1+4*d+10≤900 from yT hA.depth (by decide)),(show A.units+3+40*d+100≤9000 from yT hA.units (by decide))⟩
theorem Aj(hA:nU A d):A.depth<recursionLimit:=ae (ao (ab (aA _ _) (ab (aA _ _) hA.depth)) (by decide:900<901)) (by unfold recursionLimit;decide)
theorem Ti{ko:Str→Option NameKind}{x:Nm}{y:Value}{ps:List Nm}{ys:List Value}(n:ps.Nodup)(h:(x,y)∈ps.zip ys)(k:ko x.str=some .local):bindL ko ((ps.map (·.str)).zip ys) (λZ=>none) x.str=some y:=
 GV (P:=λn=>ko n=some .local) (λZ=>rfl) (λZ Z Z Z=>rfl) ps ys _ n h k
theorem S4{ko:Str→Option NameKind}{x:Nm}{y:Value}{ps:List Nm}{ys:List Value}(n:ps.Nodup)(h:(x,y)∈ps.zip ys)(k:ko x.str≠some .local):bindC ko ((ps.map (·.str)).zip ys) (λZ=>none) x.str=some y:=
 GV (P:=λn=>¬ko n=some .local) (λZ=>rfl) (λx y r m=>congrArg (bindC ko r) (by by_cases q:ko x=some .local;rw[if_pos q,if_neg (λw=>w q)];rw[if_neg q,if_pos q])) ps ys _ n h k
theorem zK{f:Fn}{vs:List V}{Q:V→Hp→Prop}(O:gT cx)(cs:List (Nm×I))(WU:cs.map (·.1)=f.cells)(hn:(cs.map (·.2)).Nodup)(hf:∀r∈cs.map (·.2),σ r=none)
  (h:Wb (H8 cx f) cx d f.body (lk cs) (BY f vs) (qi (Fu f vs) cs σ) (JO Q)):WC cx (d+1) f vs σ Q:=λA φ s ys pos kw r hA S vr F hb R k=>by
 have X:=O.X.keeps S.rel.base
 refine codeAny_call_function (fd:=r.fd) (Aj hA) (X _ _ F.at_) rfl F.co F.gen rfl (codeRec_of X F.code) (hb _ _ _ _ (wpAny_newFunctionEnv_cells F.kind (λx hx=>?_) λenv he s' x=>⟨(O.nolimit.keeps S.rel.base).keeps x.toInCall.keep,codeAny_func ?_⟩))
 ·refine(List.mem_map.mp (dS (a:=x.1) (b:=x.2) hx).1).elim λp hp=>hp.2▸?_
  have:=F.pk p hp.1
  split at this
  ·exact .inr ⟨this,cellsFrom_some _ _ _ (.inl this)⟩
  ·exact .inl this
 have hL:env.locals=s.heap.objs.size:=he▸rfl
 have Yv:env.cells=cellsFrom (s.heap.objs.size+1) r.scope.names []:=he▸rfl
 have E:An env r.scope:=⟨he▸rfl,F.kind,he▸rfl,he▸rfl⟩
 have Z9:∀y,env.kindOf y=r.scope.names.lookup y:=λy=>congrArg (λsc:Scope=>sc.names.lookup y) E.scope
 have sz:∀a,s.heap.objs.size≤a→s.heap.get? a=none:=λa ha=>bq ha
 have L0:=sz env.locals (ay hL.symm)
 have g0:Go cx φ σ s φ σ s':=x.done.elim λh' w=>w.elim λtk w=>w.1▸⟨Ext.grow w.2,S.rel.grow w.2,S.gens,S.drawn,S.os⟩
 have ZE:=gh.ext S.rel g0.x vr
 refine(ya (vals:=Fu f vs) (cm:=bindC env.kindOf ((f.params.map (·.str)).zip ys) λZ=>none) (λz y a h1 h2=>name_of_addr x.apart (mem_of_lookup h1) (mem_of_lookup h2)) cs g0.x g0.S.rel (WU▸F.cn) hn λz q hz=>?_).elim λφ' W=>?_
 ·have kc:=F.ck z (WU▸dh (f:=(·.1)) hz)
  refine(Option.isSome_iff_exists.mp (cellsFrom_some (x:=z.str) r.scope.names (s.heap.objs.size+1) [] (.inl kc))).elim λa ha=>?_
  rw[←Yv]at ha
  have up1:=sz a (aY (hL▸x.above z.str a (mem_of_lookup ha)))
  exact⟨a,hf q (dh (f:=(·.2)) hz),ha,up1,S.rel.ng up1,S.rel.kg up1,x.cell z.str a ha,λv hv=>
   (yL f.params vs ys ZE (uw hv)).elim λy e=>⟨y,S4 F.pn e.1 (by rw[Z9,kc];decide),e.2⟩⟩
 have low:∀r,qi (Fu f vs) cs σ r≠none→env.locals≠(φ' r).1∧env.locals≠(φ' r).2:=λr hr=>(aK (σ r=none)).elim (λhs=>(x8 cs hr).elim (absurd hs) λz=>z.elim λz hz=>
   have w:=W.new z r hz
   have lt:=av (x.above z.str _ (mem_of_lookup w.2.1))
   ⟨lt,w.2.2▸lt⟩) λhs=>(W.old r hs).2▸⟨λz=>S.rel.kg L0 (.one r hs z),λz=>S.rel.kg L0 (.two r hs z)⟩
 have L:xf cx φ' (qi (Fu f vs) cs σ) s'.heap env (BY f vs) (lk cs):=
  ⟨⟨_,x.toInCall.ns,λz v hv=>by
   unfold BY at hv
   split at hv
   ·exact nomatch hv
   ·rename_i nc
    refine(yL f.params vs ys ZE (uw hv)).elim λy e=>⟨y,Ti F.pn e.1 ?_,e.2.DQ W.old⟩
    have:=F.pk z (dS e.1).1
    rw[if_neg nc]at this
    exact(Z9 _).trans this⟩,λq=>q.casesOn (λr hr=>(low r hr).1) (λr hr=>(low r hr).2) λq hq he=>S.rel.kg L0 (.tab q hq he),S.rel.ng L0,λz q hz=>have w:=W.new z q (uw hz);⟨w.1,w.2.1⟩⟩
 refine aZ (h _ _ F.body _ env φ' s' ⟨r,F,he▸rfl,he▸rfl⟩ ⟨xY hA,E,⟨W.R,g0.S.gens,g0.S.drawn,g0.S.os⟩,L⟩ (λfv oZ=>R (.ok (.ret (match fv with |.ret v=>v |_=>.none))) oZ) λφ'' σ'' oZ ρ'' fl fv V4 fr q=>?_) (λZ Z z=>z) λZ Z z=>aN z
 have G:Go cx φ σ s φ'' σ'' oZ:=⟨((lW.x W.x).trans V4.x).drop λb e=>(show b=_ from e)▸L0,V4.S⟩
 cases fl with
 |ret v=>exact aI fr λy u=>u.1▸k φ'' σ'' oZ v y G u.2 q
 |_=>exact(show fv=_ from fr)▸k φ'' σ'' oZ .none .none G .none q
theorem uT{f:Fn}{vs:List V}{Q:V→Hp→Prop}(O:gT cx)(cs:List (Nm×I))(WU:cs.map (·.1)=f.cells)(hn:(cs.map (·.2)).Nodup)(hf:∀r∈cs.map (·.2),σ r=none)
  (h:WS cx d f.body (lk cs) (BY f vs) (qi (Fu f vs) cs σ) (JO Q)):WC cx (d+1) f vs σ Q:=zK O cs WU hn hf (TV h)
end
end
mutual
section
variable{α β:Type}[BEq α][LawfulBEq α]
theorem oW(a b:List (α×β))(n:α):(a++b).lookup n=(a.lookup n).or (b.lookup n):=by
 induction a with
 |nil=>rfl
 |cons x a ih=>
  obtain ⟨k,v⟩:=x
  rw[e9,aJ,aJ]
  cases n==k with
  |true=>rfl
  |false=>exact ih
theorem pZ{n:α}:∀{ns:List α} {vs:List β},n∉ns→(ns.zip vs).lookup n=none
 |[],_,_=>rfl
 |a::ns,[],_=>rfl
 |a::ns,v::vs,h=>by
  rw[bV,aJ]
  have:(n==a)=false:=by
   cases q:n==a with
   |false=>rfl
   |true=>exact absurd (by rw[beq_iff_eq.mp q];exact .head _) h
  rw[this]
  exact pZ λq=>h (.tail _ q)
theorem lV{n:α}:∀{ns:List α} {vs:List β},ns.length≤vs.length→n∈ns→((ns.zip vs).lookup n).isSome=true
 |[],_,_,h=>by cases h
 |a::ns,[],h,_=>by simp at h
 |a::ns,v::vs,hl,h=>by
  rw[bV,aJ]
  cases q:n==a with
  |true=>rfl
  |false=>
   rcases List.mem_cons.mp h with e |h
   ·rw[e]at q;simp at q
   ·exact lV (by simpa using hl) h
theorem Aq{g:α→Option β}:∀{ns:List α} {vs:List β},ns.Nodup→ns.length=vs.length→(∀n∈ns,g n=(ns.zip vs).lookup n)→(ns.filterMap λn=>(g n).map (n, ·))=ns.zip vs
 |[],_,_,_,_=>by simp
 |a::ns,[],_,h,_=>by simp at h
 |a::ns,v::vs,hn,hl,hg=>by
  have A9:=List.nodup_cons.mp hn
  have ga:=hg a (.head _)
  simp only [bV,aJ,beq_self_eq_true]at ga
  rw[List.filterMap_cons,ga]
  simp only [bV,bK]
  congr 1
  refine Aq A9.2 (by simpa using hl) λn hm=>?_
  rw[hg n (.tail _ hm),bV,aJ]
  have:(n==a)=false:=by
   cases q:n==a with
   |false=>rfl
   |true=>exact absurd (by rw[←beq_iff_eq.mp q];exact hm) A9.1
  rw[this]
end
end
mutual
theorem Aa(n:Str):∀(l sl:KS),(DR sl l).lookup n=(sl.lookup n).or (l.lookup n)
 |[],sl=>by cases h:sl.lookup n<;>simp [DR,h]
 |(k,v)::l,sl=>by
  unfold DR
  rw[Aa n l,aJ]
  split
  ·rename_i h
   rw[oW,aJ]
   cases h1:sl.lookup n with
   |some w=>rfl
   |none=>cases h2:n==k<;>rfl
  ·rename_i h
   cases h1:sl.lookup n with
   |some w=>rfl
   |none=>
    cases h2:n==k with
    |false=>rfl
    |true=>rw[←beq_iff_eq.mp h2,h1]at h;exact absurd rfl h
theorem EG{ns:List Str}:∀(kn:List Str) (zs:List Value) (sl:KS),kn.Nodup→(∀k∈kn,k∈ns∧sl.lookup k=none)→B6 ns sl (kn.zip zs)=true
 |[],_,_,_,_=>rfl
 |k::kn,[],_,_,_=>rfl
 |k::kn,z::zs,sl,hn,h=>by
  have A9:=List.nodup_cons.mp hn
  obtain ⟨h1,h2⟩:=h k (.head _)
  rw[bV]
  unfold B6
  rw[List.contains_iff_mem.mpr h1,h2]
  refine EG kn zs _ A9.2 λj hj=>⟨(h j (.tail _ hj)).1,?_⟩
  rw[oW,(h j (.tail _ hj)).2,aJ]
  have:(j==k)=false:=by
   cases q:j==k with
   |false=>rfl
   |true=>exact absurd (by rw[←beq_iff_eq.mp q];exact hj) A9.1
  rw[this];rfl
theorem EK{fd:FuncData}{N A B C:List Str}{pos zs D1 D2:List Value}{s:Shared}(P:Plain fd N)(hN:N=A++B++C)(G8:N.Nodup)
  (hd:∀(M:Model) (A:Around) (E:Value→Shared→Prop) (Q:Option (Array Value)→Shared→Prop),(∀x:Option (Array Value),(x.getD #[]).toList=D1++D2→Q x s)→aB M A (seqItems? fd.defaults) Q E s)
  (la:A.length=pos.length)(lb:B.length=zs.length)(lc:C.length=D2.length)(ld:D1.length≤A.length+B.length):
  BindsTo s fd ⟨pos,B.zip zs⟩ (N.zip (pos++zs++D2)):=by
 subst hN
 have ZK:D1.length≤(A++B).length:=ab ld (ay ax.symm)
 have tl:(A++B++C).length - (D1++D2).length=(A++B).length - D1.length:=by rw[@ax _ (A++B) C,@ax _ D1 D2,lc,Nat.add_sub_add_right]
 have z1:(A++B++C).zip pos=A.zip pos:=by
  have:=dT (l₁:=A) (r₁:=B++C) (l₂:=pos) (r₂:=([]:List Value)) la
  rw[aU,←bD]at this
  rw[this,List.zip_nil_right,aU]
 have z2:(A++B++C).zip (pos++zs++D2)=A.zip pos++B.zip zs++C.zip D2:=by
  rw[dT (by rw[ax,ax,la,lb]),dT la]
 obtain ⟨Pr,hPr,hPl,hPm⟩:∃Pr,(A++B++C).drop ((A++B++C).length - (D1++D2).length)=Pr++C∧Pr.length=D1.length∧∀n∈Pr,n∈A++B:=by
  exact⟨(A++B).drop ((A++B).length - D1.length),by rw[tl,List.drop_append_of_le_length (Nat.sub_le _ _)],by rw[cJ,fg ZK],λn hn=>List.mem_of_mem_drop hn⟩
 have nA:=(List.nodup_append.mp (List.nodup_append.mp G8).1)
 have look:∀n,(DR (A.zip pos++B.zip zs) ((Pr++C).zip (D1++D2))).lookup n=(A.zip pos++B.zip zs++C.zip D2).lookup n:=by
  intro n
  rw[Aa,dT hPl,oW (A.zip pos++B.zip zs) (C.zip D2),oW (Pr.zip D1) (C.zip D2)]
  cases h:(A.zip pos++B.zip zs).lookup n with
  |some w=>rfl
  |none=>
   have:(Pr.zip D1).lookup n=none:=pZ λhn=>by
    have:=hPm n hn
    rw[oW]at h
    rcases List.mem_append.mp this with q |q
    ·have:=lV (vs:=pos) (ay la) q
     cases e:(A.zip pos).lookup n with
     |none=>rw[e]at this;cases this
     |some w=>rw[e]at h;cases h
    ·have:=lV (vs:=zs) (ay lb) q
     cases e:(A.zip pos).lookup n with
     |some w=>rw[e]at h;cases h
     |none=>rw[e]at h;rw[show(B.zip zs).lookup n=none from h]at this;cases this
   rw[this];rfl
 refine Gm P hd (la▸ab (ab (aA _ _) (ay ax.symm)) (ab (aA _ _) (ay ax.symm))) ?_ (by rw[@ax _ (A++B) C,@ax _ D1 D2,lc];exact aX ZK _) ?_ ?_
 ·rw[z1]
  refine EG B zs _ nA.2.1 λk hk=>⟨List.mem_append.mpr (.inl (List.mem_append.mpr (.inr hk))),pZ λq=>nA.2.2 k q k hk rfl⟩
 ·rw[z1]
  refine List.filter_eq_nil_iff.mpr λn hn=>?_
  have:n∈A++B:=by
   have e:(A++B++C).take ((A++B++C).length - (D1++D2).length)=(A++B).take ((A++B++C).length - (D1++D2).length):=by
    rw[tl,List.take_append_of_le_length (Nat.sub_le _ _)]
   rw[e]at hn
   exact br hn
  rw[oW]
  rcases List.mem_append.mp this with q |q
  ·have:=lV (vs:=pos) (ay la) q
   cases e:(A.zip pos).lookup n with
   |none=>rw[e]at this;cases this
   |some w=>simp
  ·have:=lV (vs:=zs) (ay lb) q
   cases e:(A.zip pos).lookup n with
   |some w=>simp
   |none=>
    cases e2:(B.zip zs).lookup n with
    |none=>rw[e2]at this;cases this
    |some w=>simp
 ·rw[z1,hPr]
  rw[z2]
  have:=Aq (g:=λn=>(A.zip pos++B.zip zs++C.zip D2).lookup n) (vs:=pos++zs++D2) G8 (by rw[@ax _ (A++B) C,@ax _ A B,@ax _ (pos++zs) D2,@ax _ pos zs,la,lb,lc]) λn Z=>by rw[z2]
  rw[z2]at this
  rw[←this]
  congr 1
  funext n
  rw[look]
def qG(f:Fn)(vs us:List V):List V:=vs++us++f.ux.drop (f.ux.length - (f.params.length - (vs.length+us.length)))
def DB(f:Fn)(nv:Nat)(ks:List Nm):Bool:=
 decide (nv+ks.length≤f.params.length)&&(decide (ks=(f.params.drop nv).take ks.length)&&(decide (f.params.length - (nv+ks.length)≤f.ux.length)&&decide (f.ux.length≤f.params.length)))
section
variable{cx:Cx}{d:Nat}{γ:Nm→Option I}{ρ:Loc}{σ σ':Hp}{A:Around}{φ φ':Ph}{s s':Shared}{env:Env}{sc:Scope}{Q:V→Hp→Prop}
theorem oh.length{K:Frag}:∀{vs:List V} {ys:List Value},oh K vs ys→vs.length=ys.length
 |[],ys,e=>(congrArg cg (show ys=[]from e)).symm
 |v::vs,ys,e=>(show∃y zs,ys=y::zs∧Bv K v y∧oh K vs zs from e).elim λy u=>u.elim λzs u=>(congrArg (· +1) (oh.length u.2.2)).trans (congrArg cg u.1.symm)
theorem Bv.rel(O:gT cx)(S:kO cx φ σ s){v:V}{y:Value}(e:Bv cx.K v y):gJ s.heap φ σ v y:=by
 cases v with
 |none |bool |str=>exact e
 |tup l=>exact aI e.2 λa u=>e.1.symm▸⟨a,[],u.1,S.rel.base _ _ (O.X _ _ u.2),rfl⟩
 |_=>exact aN e
theorem oh.rel(O:gT cx)(S:kO cx φ σ s):∀{vs:List V} {ys:List Value} (n:Nat),oh cx.K vs ys→gh s.heap φ σ (vs.drop n) (ys.drop n)
 |[],ys,n,e=>by rw[show ys=[]from e,List.drop_nil,List.drop_nil];rfl
 |v::vs,ys,n,e=>(show∃y zs,ys=y::zs∧Bv cx.K v y∧oh cx.K vs zs from e).elim λy u=>u.elim λzs u=>u.1.symm▸n.casesOn (.cons (u.2.1.rel O S) (oh.rel O S 0 u.2.2)) λn=>oh.rel O S n u.2.2
theorem IJ(O:gT cx){f:Fn}{r:rJ}(F:um cx f r)(S:kO cx φ σ s){vs us:List V}{ys zs:List Value}{kn:List Nm}(vr:gh s.heap φ σ vs ys)(ur:gh s.heap φ σ us zs)(hu:kn.length=us.length)(ok:DB f vs.length kn=true):
  ∃ws,gh s.heap φ σ (qG f vs us) ws∧BindsTo s r.fd ⟨ys,(kn.map (·.str)).zip zs⟩ ((f.params.map (·.str)).zip ws):=by
 have o1:=jL (f7 ok).1
 have o2:=jL (f7 (f7 ok).2).1
 have o3:=jL (f7 (f7 (f7 ok).2).2).1
 have o4:=jL (f7 (f7 (f7 ok).2).2).2
 have ⟨ds,dr,hd⟩:∃ds,oh cx.K f.ux ds∧∀(M:Model) (A:Around) (E:Value→Shared→Prop) (Q:Option (Array Value)→Shared→Prop),(∀x:Option (Array Value),(x.getD #[]).toList=ds→Q x s)→aB M A (seqItems? r.fd.defaults) Q E s:=
  F.dfl.elim (λe=>⟨[],e.1.symm▸rfl,λM A E Q q=>show aB M A (seqItems? r.dV) Q E s from e.2.symm▸aq (q _ rfl)⟩) λe=>e.elim λT e=>e.elim λvs e=>
   ⟨vs,e.2.2,λM A E Q q=>show aB M A (seqItems? r.dV) Q E s from e.1.symm▸wpAny_seqItems (S.rel.base _ _ (O.X _ _ e.2.1)) rfl (q _ rfl)⟩
 have dl:=dr.length
 have vl:=vr.length
 have ul:=ur.length
 have hN:f.params.map (·.str)=(f.params.take vs.length).map (·.str)++kn.map (·.str)++(f.params.drop (vs.length+us.length)).map (·.str):=by
  rw[←ar,←ar,←List.drop_drop,bD]
  conv=>rhs;rw[o2,hu]
  rw[dY,dY]
 refine⟨ys++zs++ds.drop (f.ux.length - (f.params.length - (vs.length+us.length))),(vr.append ur).append (dr.rel O S _),
  EK (pos:=ys) (zs:=zs) (D1:=ds.take (f.ux.length - (f.params.length - (vs.length+us.length)))) (D2:=ds.drop (f.ux.length - (f.params.length - (vs.length+us.length)))) (s:=s) ⟨F.po,F.as,F.va,F.ko,F.kw⟩ hN (dc _ (λa b Jj e=>Jj (Nm.str_inj e)) F.pn)
   (by rw[dY];exact hd) ?_ ?_ ?_ ?_⟩
 ·rw[ai,aO,di (ab (aA _ _) o1)];exact vl
 ·rw[ai];exact hu.trans ul
 ·rw[ai,cJ,cJ,←dl];exact(fg (hu▸o3)).symm
 ·rw[ai,ai,aO,aO,di (ab (aA _ _) o1),hu]
  exact ab (bp _ _) (ab (eu o4 _) (ay (fg (hu▸o1))))
theorem B8{f:Value}(O:gT cx)(hk:keepIn cx.K f=true):∀h:Heap,(∀b o,cx.h0.get? b=some o→h.get? b=some o)→∃k,(k=dM∨k=dy∨k=cV)∧Looks (model cx.prog cx.w) h (keeperOf f) k:=
 λh kp=>keeps_K hk h (O.X.keeps kp)
theorem Oi{f:Fn}{r:rJ}(F:um cx f r):keepIn cx.K (.ref f.addr)=true:=by
 unfold keepIn
 dsimp only
 rw[F.at_]
theorem uS(O:gT cx){n:Str}{p:Pos}{v:Value}{Q' E':Value→Shared→Prop}(q:iU cx.K sc n v=true)(F:Fm cx d γ ρ σ sc A env φ s)(h:Q' v s):aB (model cx.prog cx.w) A (eval (.Name n p) env) Q' E' s:=
 have q1:=f7 q;have q2:=f7 q1.1
 Name_function_global F.fn ((F.kindOf n).trans (beq_iff_eq.mp q2.1)) (loadGlobal_global (F.E.glob.symm▸O.g.keeps F.S.rel.base) (mg_of O.X O.g (beq_iff_eq.mp q2.2)) h) (oK q1.2)
theorem u7{o:Expr}{a:Str}{p2 p:Pos}{args:List Expr}{kws:List Keyword}{Q' E':Value→Shared→Prop}(hb:jJ o=true)(hl:(p2.endLine==p.line)=true)
  (hf:methodCallForm (args.length+kws.length) (backTo p (starEach args env)) (backToKw p (keywordEach kws env))=true)
  (h:aB (model cx.prog cx.w) A (eval o env) (λov s₁=>∀pl,aB (model cx.prog cx.w) A (getMethod ov a pl) (λm s₂=>aB (model cx.prog cx.w) A (callWith p m.1 m.2 (backTo p (starEach args env)) (backToKw p (keywordEach kws env))) Q' E' s₂) E' s₁) E' s):
  aB (model cx.prog cx.w) A (eval (.Call (.Attribute o a p2) args kws p) env) Q' E' s:=by
 rw[arm_eval_Call,D7 hb]
 refine af (aZ h (λov s₁ h₁=>af (bX ?_)) λZ Z x=>x)
 unfold methodCall
 rw[hf]
 refine af (bL (aZ (h₁ _) (λm s₂ h₂=>?_) λZ Z x=>x))
 have X3:methodCallPos true o env p2 p=pure p:=by unfold methodCallPos;simp [hl]
 dsimp only
 rw[X3]
 exact af (aq h₂)
theorem yH{p:Pos}{args:List Expr}{kws:List Keyword}{as:List ME}{ks:List (Nm×ME)}(ca:iZ cx.K sc args as)(ck:m7 cx.K sc kws ks)(hn:args.length+kws.length<20):
  methodCallForm (args.length+kws.length) (backTo p (starEach args env)) (backToKw p (keywordEach kws env))=true:=by
 unfold methodCallForm
 rw[(xH ca).b,(FJ ck).a]
 exact decide_eq_true (by split<;>omega)
theorem Ig{p C:Addr}{obj f:Value}{rest:List Value}{Q':Value→Shared→Prop}{A A':Around}{s:Shared}(X:cx.K.In s.heap)(hp:recIn cx.K p "staticmethod"=some (f::rest))(hh:handedIn f=true)(h:Q' f s):
  aB (model cx.prog cx.w) A' (call UG [.ref p,obj,.ref C]) (λv s'=>aB (model cx.prog cx.w) A (handedOut v) Q' kX s') kX s:=fh (sm_get X hp (handed_on hh h))
theorem KE.go{Q':Value→Shared→Prop}(k:KE cx φ σ s Q Q')(g:Go cx φ σ s φ' σ' s'):KE cx φ' σ' s' Q Q':=λZ Z Z Z Z g'=>k _ _ _ _ _ (g.trans g')
theorem Jw{f:Fn}{r:rJ}{ws:List V}{xs pos:List Value}{kw:KS}{Q':Value→Shared→Prop}(hA:nU A d)(S:kO cx φ σ s)(wr:gh s.heap φ σ ws xs)(F:um cx f r)(hb:BindsTo s r.fd ⟨pos,kw⟩ ((f.params.map (·.str)).zip xs))(wc:WC cx d f ws σ Q)(k:KE cx φ σ s Q Q'):
  aB (model cx.prog cx.w) A (call (.ref f.addr) pos kw) Q' kX s:=
 fh (codeAny_mono (wc A φ s xs _ _ r hA S wr F hb (λr oZ=>match r with |.ok (.ret y)=>Q' y oZ |_=>False) k) λr oZ z=>by rcases r with e |(v |_ |_ |_)<;>first |exact z |exact z.elim)
inductive D5(cx:Cx)(d:Nat)(f:Fn)(fi:List V)(ks:List (Nm×ME))(Q:V→Hp→Prop)(vs us:List V)(σ:Hp):Prop
 |mk:DB f (fi++vs).length (ks.map (·.1))=true→us.length=ks.length→WC cx d f (qG f (fi++vs) us) σ Q→D5 cx d f fi ks Q vs us σ
theorem yM(O:gT cx){f:Fn}{r:rJ}(W:um cx f r){as:List ME}{ks:List (Nm×ME)}{args:List Expr}{kws:List Keyword}{fi:List V}{first:List Value}{p q:Pos}{Q':Value→Shared→Prop}(ca:iZ cx.K sc args as)(ck:m7 cx.K sc kws ks)(F:Fm cx d γ ρ σ sc A env φ s)
  (Td:gh s.heap φ σ fi first)(h:AN cx d as γ ρ σ (TY cx d γ ρ ks (D5 cx d f fi ks Q)))(k:KE cx φ σ s Q Q'):aB (model cx.prog cx.w) A (callWith p (.ref f.addr) first (backTo q (starEach args env)) (backToKw q (keywordEach kws env))) Q' kX s:=
 BF ca ck F Td (B8 O (Oi W)) h λφ' σ' s' vs us ys zs g vr ur q=>q.casesOn λok hu wc=>
  (IJ O W g.S (kn:=ks.map (·.1)) vr ur (by rw[ai,hu]) ok).elim λws b=>Jw F.hA g.S b.1 W (by have b2:=b.2;rw[bB]at b2;exact b2) wc (k.go g)
theorem wk(O:gT cx){f:Fn}(hF:∃r,um cx f r){as:List ME}{ks:List (Nm×ME)}(h:AN cx d as γ ρ σ (TY cx d γ ρ ks (D5 cx d f [] ks Q))):WE cx d (.fn f as ks) γ ρ σ Q:=λsc ex c A env φ s F Q' k=>hF.elim λr W=>
 c.fn (λn p1 args kws p q ca ck=>cC (uS O q F (yM O W ca ck F .nil h k))) λn p1 p2 args p q hk q1 hq Ia hl hn ca=>by
  have T:=O.S6 _ hq
  have X:=O.X.keeps F.S.rel.base
  have ck:m7 cx.K sc [] ks:=hk.symm▸rfl
  refine T.ex.elim λp t=>t.elim λrest t=>u7 rfl hl (yH ca ck hn) (uS O q1 F λpl=>method_cls X T.me (cls_bind X t.2.2.2.2.2.1 t.2.2.2.2.2.2 (Ig (s:={s with toks:=s.toks+1}) X t.2.1 rfl ?_)))
  rw[Ia]
  exact yM O W ca ck (F.go (.tok F.S _)) .nil h (k.go (.tok F.S _))
end
end
mutual
section
variable{cx:Cx}{d:Nat}{γ:Nm→Option I}{ρ:Loc}{σ:Hp}{Q:V→Hp→Prop}
theorem IS{f:Fn}{r:rJ}(F:um cx f r):typeIn cx.K (.ref f.addr)=some (.type "function"):=by
 unfold typeIn;dsimp only;rw[F.at_];rfl
theorem Es{es:Array DictEntry}{ep:Nat}{x:Str}(hk:StrKeys es)(h:nsFind es x=none):shadowIn (some (mf es ep)) x=some false:=by
 unfold shadowIn;dsimp only;rw[BL hk,h];rfl
inductive Qh(cx:Cx)(d:Nat)(γ:Nm→Option I)(ρ:Loc)(a:Nm)(as:List ME)(ks:List (Nm×ME))(Q:V→Hp→Prop)(v:V)(σ:Hp):Prop
 |mk (r:I) (c:pL) (fs:Nm→Option V) (f:Fn):v=.ref r→σ r=some (.inst c fs)→c.attr a=some (.ref f.addr)→fs a=none→(∃r,um cx f r)→AN cx d as γ ρ σ (TY cx d γ ρ ks (D5 cx d f [.ref r] ks Q))→Qh cx d γ ρ a as ks Q v σ
inductive RF(cx:Cx)(d:Nat)(γ:Nm→Option I)(ρ:Loc)(a:Nm)(as:List ME)(ks:List (Nm×ME))(Q:V→Hp→Prop)(v:V)(σ:Hp):Prop
 |mk (r:I) (c:pL) (fs:Nm→Option V) (f:Fn):v=.ref r→σ r=some (.inst c fs)→(c,a,f)∈wg→fs a=none→(∃r,um cx f r)→AN cx d as γ ρ σ (TY cx d γ ρ ks (D5 cx d f [] ks Q))→RF cx d γ ρ a as ks Q v σ
theorem gJ.rel{h:Heap}{φ:Ph}{v:V}{r:I}{y:Value}(x:gJ h φ σ v y)(e:v=.ref r):gJ h φ σ (.ref r) (.ref (φ r).1):=⟨(show gJ h φ σ (.ref r) y from e▸x).1,rfl⟩
theorem IW(O:gT cx){o:ME}{a:Nm}{as:List ME}{ks:List (Nm×ME)}(h:WE cx d o γ ρ σ (Qh cx d γ ρ a as ks Q)):WE cx d (.gn o a as ks) γ ρ σ Q:=λsc ex c A env φ s F Q' k=>c.gn λoe p2 args kws p hb hl hn co ca ck=>
 u7 hb hl (yH ca ck hn) (h _ _ co A env φ s F _ λφ' σ' s' v y g vr q pl=>q.casesOn λr c fs f e1 e2 e3 e4 W hw=>W.elim λfr W=>(vr.at e1).symm▸(s8 g.S e2).elim λes w=>w.elim λep w=>
  method_fn (O.X.keeps g.S.rel.base) w.at_ (O.cls c).ga (O.cls c).gx (((O.cls c).attr a).trans (congrArg some e3)) (IS W) (Es w.k (w.no a e4))
   (yM O W ca ck (F.go g) (.cons (vr.rel e1) .nil) hw (k.go g)))
theorem PS(O:gT cx){o:ME}{a:Nm}{as:List ME}{ks:List (Nm×ME)}(h:WE cx d o γ ρ σ (RF cx d γ ρ a as ks Q)):WE cx d (.gn o a as ks) γ ρ σ Q:=λsc ex c A env φ s F Q' k=>c.gn λoe p2 args kws p hb hl hn co ca ck=>
 u7 hb hl (yH ca ck hn) (h _ _ co A env φ s F _ λφ' σ' s' v y g vr q pl=>q.casesOn λr c fs f e1 e2 e3 e4 W hw=>W.elim λfr W=>(vr.at e1).symm▸(s8 g.S e2).elim λes w=>w.elim λep w=>by
  have T:=O.S6 _ e3
  have X:=O.X.keeps g.S.rel.base
  refine T.ex.elim λp t=>t.elim λrest t=>method_usual X w.at_ (O.cls c).ga (O.cls c).gx (((O.cls c).attr a).trans (congrArg some t.1)) (by show(typeIn cx.K (.ref p)).any _=true;rw[t.2.2.2.2.1];decide+kernel)
   (get_bind X w.at_ (O.cls c).ga ((any_some (O.cls c).hd).elim λcd z=>bd z.1 (bd (((O.cls c).attr a).trans (congrArg some t.1)) (bd (a:=some UG) t.2.2.1 (bd (a:=false) t.2.2.2.1 (bd ((y6 w.k z.2).trans (congrArg some (w.no a e4)))
    ((if_neg (by rw[T.cp];exact aR)).trans rfl)))))) (O.cls c).gx ?_)
  exact aZ (Ig (A:=A) (A':=A.in1) (s:={s' with toks:=s'.toks+1}) X t.2.1 rfl (yM O W ca ck (F.go (g.toks _)) .nil hw (k.go (g.toks _)))) (λv oZ z=>aZ z (λZ Z q=>q) λZ Z q=>aN q) λZ Z q=>aN q)
inductive Q9(r:I)(Q:V→Hp→Prop)(v:V)(σ:Hp):Prop
 |mk:v=.none→Q (.ref r) σ→Q9 r Q v σ
inductive QMk(cx:Cx)(d:Nat)(c:pL)(f:Fn)(ks:List (Nm×ME))(Q:V→Hp→Prop)(vs us:List V)(σ:Hp):Prop
 |mk:DB f (vs.length+1) (ks.map (·.1))=true→us.length=ks.length→(r:I)→σ r=none→WC cx d f (qG f (.ref r::vs) us) (up σ r (some (.inst c λZ=>none))) (Q9 r Q)→QMk cx d c f ks Q vs us σ
theorem GR{A:Around}{C:Addr}{ys:List Value}{kw:KS}(hA:nU A (d+1)):nU (A.under (.builtin "type.__call__" ⟨.ref C::ys,kw⟩)) d:=⟨hA.hd,(show A.depth+1+4*d+10≤900 from yT hA.depth (by decide)),(show A.units+1+40*d+100≤9000 from yT hA.units (by decide))⟩
theorem vx(O:gT cx){c:pL}{as:List ME}{ks:List (Nm×ME)}{f:Fn}(hi:c.attr .k3=some (.ref f.addr))(hF:∃r,um cx f r)(h:AN cx (d+1) as γ ρ σ (TY cx (d+1) γ ρ ks (QMk cx d c f ks Q))):
  WE cx (d+1) (.mk c as ks) γ ρ σ Q:=λsc ex cc A env φ s F Q' k=>cc.mk λn p1 args kws p q ca ck=>hF.elim λfr W=>cC (uS O q F
 (BF ca ck F (first:=[]) (fi:=[]) .nil (B8 O (O.cls c).kp) h λφ₁ σ₁ s₁ vs us ys zs g₁ vr₁ ur q=>q.casesOn λok hu r hr wc=>by
  have X:=O.X.keeps g₁.S.rel.base
  obtain ⟨hh,g,dr,t,os⟩:=s₁
  refine fh (make_core (g:=g) (d:=dr) (t:=t) (os:=os) (makes_of X (O.cls c).mks) (looks_findIn X (((O.cls c).attr .k3).trans (congrArg some hi))) (λself=>bind_fn X self (IS W)) (.inl rfl) ?_)
  have XJ:hh.get? hh.objs.size=none:=bq (aL _)
  have Za:hh.get? (hh.objs.size+1)=none:=bq (aT _)
  have keep:∀b o,hh.get? b=some o→((hh.push emptyDict).push (instObj c.addr hh.objs.size)).get? b=some o:=λb o e=>aP _ (aP _ e)
  have hx:((hh.push emptyDict).push (instObj c.addr hh.objs.size)).get? (hh.objs.size+1)=some (instObj c.addr hh.objs.size):=by heap_get
  have hd:((hh.push emptyDict).push (instObj c.addr hh.objs.size)).get? hh.objs.size=some emptyDict:=by heap_get
  have Y:=adopt (a:=(hh.objs.size+1,hh.objs.size)) (o:=.inst c λZ=>none) (Ext.grow (X:=Un) keep) (g₁.S.rel.grow keep) hr Za XJ (g₁.S.rel.kg Za) (g₁.S.rel.kg XJ) (g₁.S.rel.ng Za) (g₁.S.rel.ng XJ)
   ⟨Nat.succ_ne_self _,hx,#[],0,[],hd,⟨rfl,.nil,λZ e=>nomatch e⟩,λe he=>absurd he (Array.not_mem_empty e),λZ Z e=>(nomatch e),λZ Z=>rfl⟩
  have G:Go cx φ₁ σ₁ ⟨hh,g,dr,t,os⟩ (up φ₁ r (hh.objs.size+1,hh.objs.size)) (up σ₁ r (some (.inst c λZ=>none))) ⟨(hh.push emptyDict).push (instObj c.addr hh.objs.size),g,dr,t,os⟩:=⟨Y.1,Y.2,g₁.S.gens,g₁.S.drawn,g₁.S.os⟩
  have pr:gJ ((hh.push emptyDict).push (instObj c.addr hh.objs.size)) (up φ₁ r (hh.objs.size+1,hh.objs.size)) (up σ₁ r (some (.inst c λZ=>none))) (.ref r) (.ref (hh.objs.size+1)):=⟨kq (fW _ _ _),by rw[fW]⟩
  exact(IJ O W G.S (vs:=.ref r::vs) (kn:=ks.map (·.1)) (.cons pr (gh.ext g₁.S.rel Y.1 vr₁)) (gh.ext g₁.S.rel Y.1 ur) (by rw[ai,hu]) ok).elim λws b=>wc _ _ _ ws _ _ fr (GR F.hA) G.S b.1 W (by have b2:=b.2;rw[bB]at b2;exact b2) _
   λφ₃ σ₃ s₃ v y g₃ vr₃ q=>q.casesOn λhv hq=>⟨show y=_ from(show gJ _ _ _ .none y from hv▸vr₃),k φ₃ σ₃ s₃ (.ref r) _ ((g₁.trans G).trans g₃) (gJ.ext Y.2 g₃.x pr) hq⟩))
end
end
mutual
section
variable{cx:Cx}{d:Nat}{γ:Nm→Option I}{ρ:Loc}{σ:Hp}
def HQ(σ:Hp)(r:I)(l:List V):Prop:=σ r=some (.list l)∨∃ob,σ r=some (.oL l ob)
theorem Dx{φ:Ph}{h:Heap}(R:Rel cx φ σ h){r:I}{l:List V}(e:HQ σ r l):∃vs,h.IsList (φ r).1 vs.toArray∧gh h φ σ l vs∧l.length≤100000:=
 e.elim (λe=>(R.objs r _ e).2.elim λvs w=>w.elim λn w=>⟨vs,⟨_,w.1,rfl,n,rfl⟩,w.2⟩) λe=>e.elim λob e=>(R.objs r _ e).2.1
def yx(o:Option O):Option Bool:=o.casesOn none λo=>o.casesOn (λl=>some (!l.isEmpty)) (λl=>some (!l.isEmpty)) (λZ Z=>none) (λl Z=>some (!l.isEmpty)) (λl=>some (!l.isEmpty)) (λZ Z=>some true) (λZ=>none) λZ Z=>none
def JQ(σ:Hp)(v:V):Option Bool:=v.casesOn (some false) some (λi=>some (i !=0)) (λs=>if s.length≤100000 then some (s.length !=0)else none) (λr=>yx (σ r)) λl=>if l.length≤100000 then some (!l.isEmpty)else none
theorem noBool_set:typeLookup (.type "set") "__bool__"=pure none:=by rw[typeLookup_type,eH];kernel_rfl
theorem GG{A:Around}{s:Shared}{E:Value→Shared→Prop}{prog:Program}{w:World}{a:Addr}{o:Obj}{es:Array (Int×Value)}{ep:Nat}{t:SetTable}{Q:Bool→Shared→Prop}
  (ho:s.heap.get? a=some o)(hex:o.ExactSet)(hd:o.data=.set es ep t)(hf:t.fits es.size=true)(OD:(es.size:Int)<2 ^63)
  (h:Q ((es.size:Int)!=0) {s with toks:=s.toks+1+1}):aB (model prog w) A (truthy (.ref a)) Q E s:=by
 have hT:s.TypeIs (.ref a) "set":=⟨o,ho,hex.1⟩
 unfold truthy
 refine af (wpAny_callSpecial?_none (name:=aa "__bool__") hT noBool_set (af (eC (name:=aa "__len__") hT F.slot_set_len.lookup ?_)))
 refine af (wpAny_runValue (eF entry_len ?_))
 rw[dZ plain_len _]
 exact aZ (wpAny_len_body_set ho hex hd hf OD (aq h)) (λfin s' h'=>h'.elim λr w=>w.1▸w.2) λZ Z e=>e
theorem ne0:∀(n:Nat),((n:Int)!=0)=(n !=0)
 |0=>rfl
 |n+1=>rfl
theorem mF{α:Type}:∀(l:List α),(!l.isEmpty)=(l.length !=0)
 |[]=>rfl
 |_::_=>rfl
theorem x9{α:Type}:∀(l:List α),(!l.toArray.isEmpty)=!l.isEmpty
 |[]=>rfl
 |_::_=>rfl
theorem Fq{n:Nat}(h:n≤100000):(n:Int)<2 ^63:=Int.lt_of_le_of_lt (Int.ofNat_le.mpr h) (by decide)
theorem v9(O:gT cx){A:Around}{φ:Ph}{s:Shared}{v:V}{y:Value}{b:Bool}{Q':Bool→Shared→Prop}{E':Value→Shared→Prop}(S:kO cx φ σ s)(vr:gJ s.heap φ σ v y)(hb:JQ σ v=some b)
  (k:∀t,Q' b {s with toks:=t}):aB (model cx.prog cx.w) A (truthy y) Q' E' s:=by
 have lst:∀{vs:List Value} {l:List V} {x:Addr},some (!l.isEmpty)=some b→s.heap.IsList x vs.toArray→l.length=vs.length→l.length≤100000→aB (model cx.prog cx.w) A (truthy (.ref x)) Q' E' s:=λ{vs l x} e g n h=>
  wpAny_truthy_list g (by rw[aC,←n];exact Fq h) (by rw[x9,mF,←n,←mF,Option.some.inj e];exact k _)
 cases v with
 |none=>exact(show y=_ from vr)▸PyProof.Rows.truthy_none (Option.some.inj hb▸k s.toks)
 |bool=>exact(show y=_ from vr)▸fz (Option.some.inj hb▸k s.toks)
 |int=>exact aI vr λt vr=>vr▸PySem.P.truthy_int (Option.some.inj hb▸k s.toks)
 |str x=>
  refine aI vr λt vr=>vr▸?_
  by_cases hl:x.length≤100000
  ·exact PySem.P.truthy_str (Int.not_le.mpr (Fq hl)) (by rw[ne0,Option.some.inj ((if_pos hl).symm.trans hb)];exact k _)
  ·exact nomatch (if_neg hl).symm.trans hb
 |tup l=>
  refine aI vr λa vr=>vr.elim λvs vr=>vr.1▸?_
  by_cases hl:l.length≤100000
  ·have n:=gh.length vr.2.2
   exact truthy_tuple ⟨_,vr.2.1,rfl,0,rfl⟩ (by rw[aC,←n];exact Fq hl) (by rw[x9,mF,←n,←mF,Option.some.inj ((if_pos hl).symm.trans hb)];exact k _)
  ·exact nomatch (if_neg hl).symm.trans hb
 |ref r=>
  refine vr.2▸?_
  cases e:σ r with
  |none=>exact absurd e vr.1
  |some o=>
   have R:=S.rel.objs r _ e
   have hb:yx (some o)=some b:=e▸hb
   cases o with
   |list l=>exact R.2.elim λvs w=>w.elim λn w=>lst hb ⟨_,w.1,rfl,n,rfl⟩ (gh.length w.2.1) w.2.2
   |oL l ob=>exact R.2.1.elim λvs w=>lst hb w.1 (gh.length w.2.1) w.2.2
   |dict l=>
    exact R.2.2.elim λkvs w=>have n:kvs.length=l.length:=by rw[←ai (as:=kvs) (·.1),w.2.1.1,ai]
         wpAny_truthy_dict R.2.1 w.1 (by rw[n];exact Fq w.2.2) (by rw[mF,n,←mF,Option.some.inj hb];exact k _)
   |set l=>
    exact R.2.elim λS' w=>w.1.elim λo q=>q.elim λes q=>q.elim λep q=>q.elim λt q=>
         GG q.1 q.2.1 q.2.2.1 q.2.2.2.2.2.2.1 (by rw[q.2.2.2.2.2.2.2];exact Fq (ab w.2.2.2 (by decide))) (by rw[q.2.2.2.2.2.2.2,ne0,←mF,Option.some.inj hb];exact k _)
   |inst c fs=>
    refine(s8 S e).elim λes w=>w.elim λep w=>?_
    have X:=O.X.keeps S.rel.base
    unfold truthy
    exact af (m:=callSpecial? (.ref (φ r).1) (aa "__bool__")) (af (af (w.at_.type.here ((looks_findIn X (O.cls c).tb).here (aq (af (af (w.at_.type.here ((looks_findIn X (O.cls c).tl).here
     (aq (Option.some.inj hb▸k s.toks)))))))))))
   |_=>exact nomatch hb
def VO(m:ME):Bool:=[2,5,6,7,8,11,13,14,15,16,22].contains m.ctorIdx
inductive Wi(Q:Bool→Hp→Prop)(v:V)(σ:Hp):Prop
 |mk (b:Bool):JQ σ v=some b→Q b σ→Wi Q v σ
def R8(env:Env)(e:Expr):Prop:=∀w:Sem Value,isTrue e env w=(do let v ←w;standAt e.pos;holding [v] (truthy v))
theorem Oy{K:Frag}{sc:Scope}{ex:Expr}{m:ME}(c:gz K sc ex m)(hm:VO m=true)(env:Env):R8 env ex:=by
 cases m with
 |sL=>exact c.sL λZ Z Z=>rfl
 |var=>exact c.var λZ Z Z=>rfl
 |iN=>exact c.iN λZ Z Z=>rfl
 |attr=>exact c.attr λZ Z Z Z Z=>rfl
 |idx=>exact c.idx λZ Z Z Z Z Z Z=>rfl
 |fn=>exact c.fn (λZ Z Z Z Z Z Z Z Z=>rfl) λZ Z Z Z Z Z Z Z Z Z Z Z Z Z=>rfl
 |AP=>exact c.AP λZ Z Z Z Z Z=>rfl
 |gn=>exact c.gn λZ Z Z Z Z Z Z Z Z Z Z Z=>rfl
 |bi=>exact c.bi λZ Z Z Z Z Z=>rfl
 |Fz=>exact c.Fz λZ Z Z Z Z Z Z Z=>rfl
 |bin=>exact c.bin λZ Z Z Z Z Z=>rfl
 |_=>exact nomatch hm
theorem KT.go{φ φ':Ph}{σ':Hp}{s s':Shared}{Q:Bool→Hp→Prop}{Q':Bool→Shared→Prop}(k:KT cx φ σ s Q Q')(g:Go cx φ σ s φ' σ' s'):KT cx φ' σ' s' Q Q':=λZ Z Z Z g'=>k _ _ _ _ (g.trans g')
section
variable{Q:Bool→Hp→Prop}
theorem gM(O:gT cx){m:ME}(hm:VO m=true)(h:WE cx d m γ ρ σ (Wi Q)):WT cx d m γ ρ σ Q:=λsc ex c A env φ s F Q' k=>
 wpAny_isTrue_value (h _ _ c A env φ s F _ λφ' σ' s' v y g vr q=>q.casesOn λb e q=>v9 O g.S vr e λt=>k φ' σ' _ b (g.toks t) q) (Oy c hm env _)
def XX(Q:Bool→Hp→Prop)(b:Bool)(σ:Hp):Prop:=Q (!b) σ
theorem qz{m:ME}(h:WT cx d m γ ρ σ (XX Q)):WT cx d (.not m) γ ρ σ Q:=λsc ex c A env φ s F Q' k=>c.not λe p c=>wpAny_isTrue_Not (h _ _ c A env φ s F _ λφ' σ' s' b g q=>k φ' σ' s' (!b) g q)
theorem qL(h:Q true σ):WT cx d (.and []) γ ρ σ Q:=λsc ex c A env φ s F Q' k=>c.and λvs p c=>c.nil (dC (wpAny_allTrue_And_nil (k φ σ s _ (.refl F.S) h)))
theorem mS(h:Q false σ):WT cx d (.or []) γ ρ σ Q:=λsc ex c A env φ s F Q' k=>c.or λvs p c=>c.nil (dC (wpAny_allTrue_Or_nil (k φ σ s _ (.refl F.S) h)))
def X5(cx:Cx)(d:Nat)(γ:Nm→Option I)(ρ:Loc)(ms:List ME)(Q:Bool→Hp→Prop)(b:Bool)(σ:Hp):Prop:=if b then WT cx d (.and ms) γ ρ σ Q else Q false σ
def QOr(cx:Cx)(d:Nat)(γ:Nm→Option I)(ρ:Loc)(ms:List ME)(Q:Bool→Hp→Prop)(b:Bool)(σ:Hp):Prop:=if b then Q true σ else WT cx d (.or ms) γ ρ σ Q
theorem ju{m:ME}{ms:List ME}(h:WT cx d m γ ρ σ (X5 cx d γ ρ ms Q)):WT cx d (.and (m::ms)) γ ρ σ Q:=λsc ex c A env φ s F Q' k=>c.and λvs p c=>c.cons λe r ns c cs=>
 dC (wpAny_allTrue_And_cons (h _ _ c A env φ s F _ λφ' σ' s' b g q=>by
  cases b with
  |false=>exact k φ' σ' s' _ g q
  |true=>exact(show WT cx d (.and ms) γ ρ σ' Q from q) sc (.BoolOp .And r p) (show iZ cx.K sc r ms from cs) A env φ' s' (F.go g) _ (k.go g)))
theorem mG{m:ME}{ms:List ME}(h:WT cx d m γ ρ σ (QOr cx d γ ρ ms Q)):WT cx d (.or (m::ms)) γ ρ σ Q:=λsc ex c A env φ s F Q' k=>c.or λvs p c=>c.cons λe r ns c cs=>
 dC (wpAny_allTrue_Or_cons (h _ _ c A env φ s F _ λφ' σ' s' b g q=>by
  cases b with
  |true=>exact k φ' σ' s' _ g q
  |false=>exact(show WT cx d (.or ms) γ ρ σ' Q from q) sc (.BoolOp .Or r p) (show iZ cx.K sc r ms from cs) A env φ' s' (F.go g) _ (k.go g)))
end
end
mutual
section
variable{Q:V→Hp→Prop}
def Yt(cx:Cx)(d:Nat)(γ:Nm→Option I)(ρ:Loc)(a b:ME)(Q:V→Hp→Prop)(c:Bool)(σ:Hp):Prop:=if c then WE cx d a γ ρ σ Q else WE cx d b γ ρ σ Q
theorem rO{t a b:ME}(h:WT cx d t γ ρ σ (Yt cx d γ ρ a b Q)):WE cx d (.ite t a b) γ ρ σ Q:=λsc ex c A env φ s F Q' k=>c.ite λt' a' b' p c1 c2 c3=>wpAny_IfExp (h _ _ c1 A env φ s F _ λφ' σ' s' b' g q=>by
  cases b' with
  |true=>exact(show WE cx d a γ ρ σ' Q from q) _ _ c2 A env φ' s' (F.go g) _ (k.go g)
  |false=>exact(show WE cx d b γ ρ σ' Q from q) _ _ c3 A env φ' s' (F.go g) _ (k.go g))
inductive QH(Q:V→Hp→Prop)(v:V)(σ:Hp):Prop
 |mk (b:Bool):JQ σ v=some b→Q (.bool (!b)) σ→QH Q v σ
theorem NU(O:gT cx){m:ME}(h:WE cx d m γ ρ σ (QH Q)):WE cx d (.not m) γ ρ σ Q:=λsc ex c A env φ s F Q' k=>c.not λe p c=>
 PyProof.Rows.UnaryOp_ (h _ _ c A env φ s F _ λφ' σ' s' v y g vr q=>q.casesOn λb e q=>not_value (v9 O g.S vr e λt=>k φ' σ' _ _ _ (g.toks t) (.bool _) q))
theorem Gf{m:ME}(h:WE cx d m γ ρ σ Q):WE cx d (.or [m]) γ ρ σ Q:=λsc ex c A env φ s F Q' k=>c.or λvs p c=>c.cons λe r ns c cs=>cs.nil (BoolOp_one (h _ _ c A env φ s F Q' k))
inductive U0(cx:Cx)(d:Nat)(γ:Nm→Option I)(ρ:Loc)(ms:List ME)(Q:V→Hp→Prop)(v:V)(σ:Hp):Prop
 |mk (b:Bool):JQ σ v=some b→(if b then Q v σ else WE cx d (.or ms) γ ρ σ Q)→U0 cx d γ ρ ms Q v σ
theorem iZ.mk{K:Frag}{sc:Scope}{e:Expr}{es:List Expr}{m:ME}{ms:List ME}(a:notStar e=true)(b:gz K sc e m)(c:iZ K sc es ms):iZ K sc (e::es) (m::ms):=have h:(notStar e&&(iB K m sc e&&B7 K ms sc es))=true:=Bool.and_eq_true_iff.mpr ⟨a,Bool.and_eq_true_iff.mpr ⟨b,c⟩⟩;h
theorem Kl(O:gT cx){m n:ME}{ms:List ME}(h:WE cx d m γ ρ σ (U0 cx d γ ρ (n::ms) Q)):WE cx d (.or (m::n::ms)) γ ρ σ Q:=λsc ex c A env φ s F Q' k=>c.or λvs p c=>c.cons λe r ns c cs=>cs.cons λe2 r2 ns2 c2 cs2=>
 BoolOp_or (h _ _ c A env φ s F _ λφ' σ' s' v y g vr q=>q.casesOn λb e q=>v9 O g.S vr e λt=>by
  cases b with
  |true=>exact k φ' σ' _ _ _ (g.toks t) vr q
  |false=>exact(show WE cx d (.or (n::ms)) γ ρ σ' Q from q) sc (.BoolOp .Or (e2::r2) p) (show iZ cx.K sc (e2::r2) (n::ms)from .mk ns2 c2 cs2) A env φ' _ (F.go (g.toks t)) _ (k.go (g.toks t)))
end
end
end
mutual
section
open PySem.SeqAt
section
variable{α:Type}(v:V)(o:Option O)(z:α)
def V.onB(f:Bool→α):α:=v.casesOn z f (λZ=>z) (λZ=>z) (λZ=>z) λZ=>z
def V.Tt(f:Int→α):α:=v.casesOn z (λZ=>z) f (λZ=>z) (λZ=>z) λZ=>z
def V.Rz(f:Str→α):α:=v.casesOn z (λZ=>z) (λZ=>z) f (λZ=>z) λZ=>z
def V.Uv(f:I→α):α:=v.casesOn z (λZ=>z) (λZ=>z) (λZ=>z) f λZ=>z
def O2(f:List V→α):α:=o.casesOn z λo=>o.casesOn f (λZ=>z) (λZ Z=>z) (λl Z=>f l) (λZ=>z) (λZ Z=>z) (λZ=>z) λZ Z=>z
def G7(f:List V→α):α:=o.casesOn z λo=>o.casesOn f (λZ=>z) (λZ Z=>z) (λZ Z=>z) (λZ=>z) (λZ Z=>z) (λZ=>z) λZ Z=>z
def SA(f:List (Str×V)→α):α:=o.casesOn z λo=>o.casesOn (λZ=>z) f (λl Z=>f l) (λZ Z=>z) (λZ=>z) (λZ Z=>z) (λZ=>z) λZ Z=>z
end
end
mutual
section
variable{α:Type}{v:V}{o:Option O}{r:α}{P:Prop}
theorem TM{f:Bool→Option α}(h:v.onB none f=some r)(k:∀b,v=.bool b→f b=some r→P):P:=by
 cases v with
 |bool b=>exact k b rfl h
 |_=>exact nn h
theorem Ai{f:Int→Option α}(h:v.Tt none f=some r)(k:∀b,v=.int b→f b=some r→P):P:=by
 cases v with
 |int b=>exact k b rfl h
 |_=>exact nn h
theorem xA{f:Str→Option α}(h:v.Rz none f=some r)(k:∀b,v=.str b→f b=some r→P):P:=by
 cases v with
 |str b=>exact k b rfl h
 |_=>exact nn h
theorem TH{f:I→Option α}(h:v.Uv none f=some r)(k:∀b,v=.ref b→f b=some r→P):P:=by
 cases v with
 |ref b=>exact k b rfl h
 |_=>exact nn h
theorem PX{σ:Hp}{i:I}{f:List V→Option α}(h:O2 (σ i) none f=some r)(k:∀l,HQ σ i l→f l=some r→P):P:=by
 cases e:σ i with
 |none=>rw[e]at h;exact nn h
 |some o=>
  rw[e]at h
  cases o with
  |list l=>exact k l (.inl e) h
  |oL l ob=>exact k l (.inr ⟨ob,e⟩) h
  |_=>exact nn h
theorem Ic{f:List V→Option α}(h:G7 o none f=some r)(k:∀l,o=some (.list l)→f l=some r→P):P:=by
 cases o with
 |none=>exact nn h
 |some o=>
  cases o with
  |list l=>exact k l rfl h
  |_=>exact nn h
theorem PZ{f:List (Str×V)→Option α}(h:SA o none f=some r)(k:∀l,(o=some (.dict l)∨∃ob,o=some (.nD l ob))→f l=some r→P):P:=by
 cases o with
 |none=>exact nn h
 |some o=>
  cases o with
  |dict l=>exact k l (.inl rfl) h
  |nD l ob=>exact k l (.inr ⟨ob,rfl⟩) h
  |_=>exact nn h
theorem rI{c:Prop}{d:Decidable c}{x:Option α}(h:(if c then x else none)=some r):c∧x=some r:=by
 by_cases q:c
 ·exact⟨q,(if_pos q).symm.trans h⟩
 ·exact nn ((if_neg q).symm.trans h)
end
end
mutual
section
variable{h:Heap}{φ:Ph}{σ:Hp}{v:V}{y:Value}
theorem gJ.n(x:gJ h φ σ v y)(e:v=.none):y=.none:=(show gJ h φ σ .none y from e▸x)
theorem gJ.b{b:Bool}(x:gJ h φ σ v y)(e:v=.bool b):y=.bool b:=(show gJ h φ σ (.bool b) y from e▸x)
theorem gJ.i{i:Int}(x:gJ h φ σ v y)(e:v=.int i):∃t,y=.int i t:=(show gJ h φ σ (.int i) y from e▸x)
theorem gJ.s{s:Str}(x:gJ h φ σ v y)(e:v=.str s):∃t,y=.str s t:=(show gJ h φ σ (.str s) y from e▸x)
theorem gJ.t{l:List V}(x:gJ h φ σ v y)(e:v=.tup l):∃a vs,y=.ref a∧h.get? a=some (jI vs)∧gh h φ σ l vs:=(show gJ h φ σ (.tup l) y from e▸x)
end
end
mutual
def tF(v:V):Bool:=v.casesOn true (λZ=>false) (λZ=>false) (λZ=>false) (λZ=>false) λZ=>false
def isAtom(v:V):Bool:=v.casesOn true (λZ=>false) (λZ=>true) (λZ=>true) (λZ=>false) λZ=>false
def i5(a b:V):Bool:=a.casesOn (tF b) (λZ=>false) (λi=>b.Tt false λj=>i==j) (λs=>b.Rz false λt=>s==t) (λZ=>false) λZ=>false
section
variable{cx:Cx}{d:Nat}{γ:Nm→Option I}{ρ:Loc}{σ:Hp}{φ:Ph}{h:Heap}{s:Shared}{A:Around}
structure EqA(A:Around)(s:Shared)(x y:Value)(b:Bool):Prop where
 e:EqAt A s x y b
 r:RcAt A s x y b
 n:RcNeAt A s x y (!b)
theorem CR{a b:V}{x y:Value}(ha:isAtom a=true)(hb:isAtom b=true)(va:gJ h φ σ a x)(vb:gJ h φ σ b y):EqA A s x y (i5 a b):=by
 cases a with
 |none=>
  cases (show x=.none from va)
  cases b with
  |none=>cases (show y=.none from vb);exact⟨.same _,.none_none,.none_none⟩
  |int i=>exact aI vb λt vb=>vb▸⟨.none_int i t,.none_int i t,.none_int i t⟩
  |str i=>exact aI vb λt vb=>vb▸⟨.none_str i t,.none_str i t,.none_str i t⟩
  |_=>exact bf hb
 |int a=>
  refine aI va λu va=>va▸?_
  cases b with
  |none=>exact(show y=_ from vb)▸⟨.int_none _ _,.int_none _ _,.int_none _ _⟩
  |int i=>exact aI vb λt vb=>vb▸⟨.int_int _ _ i t,.int_int _ _ i t,.int_int _ _ i t⟩
  |str i=>exact aI vb λt vb=>vb▸⟨.int_str _ _ i t,.int_str _ _ i t,.int_str _ _ i t⟩
  |_=>exact bf hb
 |str a=>
  refine aI va λu va=>va▸?_
  cases b with
  |none=>exact(show y=_ from vb)▸⟨.str_none _ _,.str_none _ _,.str_none _ _⟩
  |int i=>exact aI vb λt vb=>vb▸⟨.str_int _ _ i t,.str_int _ _ i t,.str_int _ _ i t⟩
  |str i=>exact aI vb λt vb=>vb▸⟨.str_str _ _ i t,.str_str _ _ i t,.str_str _ _ i t⟩
  |_=>exact bf hb
 |_=>exact bf ha
def Ef(l m:List V)(j:Nat):Bool:=(l[j]?).casesOn false λx=>(m[j]?).casesOn false λy=>i5 x y
def Cz(a b:List V):Bool:=a.length==b.length&&(az a.length).all (Ef a b)
def WM(a b:V):Option Bool:=if (isAtom a&&isAtom b)=true then some (i5 a b)else none
def WV(o p:Option O):Option Bool:=G7 o none λl=>G7 p none λm=>if (l.all isAtom&&m.all isAtom)=true then some (Cz l m)else none
def UO(σ:Hp)(a b:V):Option Bool:=a.casesOn (WM a b) (λx=>b.onB none λy=>some (x==y)) (λZ=>WM a b) (λZ=>WM a b) (λr=>b.Uv none λq=>WV (σ r) (σ q)) λZ=>none
def inR(a:V)(o:Option O):Option Bool:=o.casesOn none λo=>o.casesOn (λl=>if (isAtom a&&l.all isAtom)=true then some (l.any λx=>i5 x a)else none) (λl=>a.Rz none λk=>some (l.lookup k).isSome) (λZ Z=>none) (λZ Z=>none)
 (λl=>a.Rz none λk=>some (decide (k∈l))) (λZ Z=>none) (λZ=>none) λZ Z=>none
def Vy(σ:Hp)(a b:V):Option Bool:=b.casesOn none (λZ=>none) (λZ=>none) (λy=>a.Rz none λx=>some (!(cK y x 0 y.length 1).isEmpty)) (λr=>inR a (σ r)) λl=>if (isAtom a&&l.all isAtom)=true then some (l.any λx=>i5 x a)else none
def rZ(σ:Hp)(op:CmpOp)(a b:V):Option Bool:=op.casesOn (UO σ a b) ((UO σ a b).map (!·)) none none (a.Tt none λi=>b.Tt none λj=>some (decide (j<i))) none (if tF b=true then some (tF a)else none) (if tF b=true then some (!tF a)else none) (Vy σ a b) ((Vy σ a b).map (!·))
theorem gh.at_{l:List V}:∀{vs:List Value},gh h φ σ l vs→∀{i:Nat} {y:Value},vs[i]?=some y→∃v,l[i]?=some v∧gJ h φ σ v y:=by
 induction l with
 |nil=>exactλ{vs} r {i y} e=>nomatch (show([]:List Value)[i]?=some y from(show vs=[]from r)▸e)
 |cons v l ih=>
  exactλ{vs} r {i y} e=>r.un.elim λz r=>r.elim λzs r=>by
   rw[r.1]at e
   cases i with
   |zero=>exact⟨v,rfl,Option.some.inj e▸r.2.1⟩
   |succ i=>exact ih r.2.2 (i:=i) e
theorem gh.mem{l:List V}{vs:List Value}(r:gh h φ σ l vs){y:Value}(e:y∈vs):∃v∈l,gJ h φ σ v y:=
 (List.mem_iff_getElem?.mp e).elim λi e=>(r.at_ e).elim λv w=>⟨v,aE w.1,w.2⟩
theorem Cg{l:List V}(hl:l.all isAtom=true){j:Nat}{v:V}(e:l[j]?=some v):isAtom v=true:=List.all_eq_true.mp hl v (aE e)
theorem y4{l m:List V}{vs ws:List Value}(hl:l.all isAtom=true)(hm:m.all isAtom=true)(vr:gh h φ σ l vs)(wr:gh h φ σ m ws)(j:Nat)(h1:j<vs.toArray.size)(h2:j<ws.toArray.size):EqAt A s vs.toArray[j] ws.toArray[j] (Ef l m j):=
 (vr.at_ (aG (by simpa using h1))).elim λv e=>(wr.at_ (aG (by simpa using h2))).elim λw f=>by
  have q:Ef l m j=i5 v w:=by unfold Ef;rw[e.1,f.1]
  rw[q]
  exact(CR (Cg hl e.1) (Cg hm f.1) e.2 f.2).e
def onStr(v:Value)(f:Str→Tok→Bool):Bool:=if h:v.ctorIdx=fO (.str ⟨#[]⟩ 0)then Value.str.elim (motive:=λZ=>Bool) v h f else false
def y3(a:V)(y:Value):Bool:=a.casesOn (y==.none) (λZ=>false) (λj=>vH y λi Z=>i==j) (λj=>onStr y λi Z=>i==j) (λZ=>false) λZ=>false
theorem Di{a v:V}{y:Value}(ha:isAtom a=true)(hv:isAtom v=true)(r:gJ h φ σ v y):y3 a y=i5 v a:=by
 cases v with
 |none=>refine(show y=_ from r)▸?_;cases a<;>first |rfl |exact bf ha
 |int=>refine aI r λt r=>r▸?_;cases a<;>first |rfl |exact bf ha
 |str=>refine aI r λt r=>r▸?_;cases a<;>first |rfl |exact bf ha
 |_=>exact bf hv
theorem any_eq{a:V}(ha:isAtom a=true):∀{l:List V} {vs:List Value},gh h φ σ l vs→l.all isAtom=true→vs.any (y3 a)=l.any λv=>i5 v a
 |[],vs,r,_=>(show vs=[]from r)▸rfl
 |v::l,vs,r,q=>r.un.elim λy r=>r.elim λzs r=>have q:=f7 q;r.1▸by rw[dF,dF,Di ha q.1 r.2.1,any_eq ha r.2.2 q.2]
theorem AH{a:V}{x:Value}{l:List V}{vs:List Value}(vr:gh s.heap φ σ l vs)(hl:l.all isAtom=true)(ha:isAtom a=true)(va:gJ s.heap φ σ a x)(y:Value)(hy:y∈vs.toArray):EqAt A s y x (y3 a y):=
 (vr.mem (List.mem_toArray.mp hy)).elim λv w=>have q:=List.all_eq_true.mp hl v w.1;Di ha q w.2▸(CR q ha w.2 va).e
theorem pF(k:Str):∀{l:List (Str×V)} {kvs:List (Str×Value)},nh h φ σ l kvs→(valueAt kvs k).isSome=(l.lookup k).isSome∧∀v,l.lookup k=some v→∃y,valueAt kvs k=some y∧gJ h φ σ v y
 |[],[],_=>⟨rfl,λZ e=>nomatch e⟩
 |[],_::_,e=>nomatch e.1
 |_::_,[],e=>nomatch e.1
 |(k1,v1)::l,(k2,v2)::kvs,e=>by
  have e1:k2=k1:=List.head_eq_of_cons_eq e.1
  have ih:=pF k (l:=l) (kvs:=kvs)
  refine(gh.un e.2).elim λy w=>w.elim λzs w=>?_
  have w1:v2=y∧kvs.map (·.2)=zs:=List.cons.inj w.1
  unfold valueAt at ih ⊢
  rw[List.find?_cons,aJ]
  by_cases hk:k=k2
  ·rw[decide_eq_true hk.symm,beq_iff_eq.mpr (hk.trans e1)]
   exact⟨rfl,λv e=>⟨v2,rfl,Option.some.inj e▸w1.1▸w.2.1⟩⟩
  ·rw[decide_eq_false (Ne.symm hk),beq_eq_false_iff_ne.mpr λq=>hk (q.trans e1.symm)]
   exact ih ⟨List.tail_eq_of_cons_eq e.1,w1.2▸w.2.2⟩
theorem D0(hA:nU A d):A.units+64<cLine:=by
 exact ae (ae (Nat.add_lt_add_of_le_of_lt (aA _ (40*d)) (by decide:64<100)) hA.units) (au rfl)
theorem R9{a b:V}{x y:Value}{r:Bool}(va:gJ h φ σ a x)(vb:gJ h φ σ b y)(hr:WM a b=some r):EqA A s x y r:=have w:=rI hr;have c:=f7 w.1;Option.some.inj w.2▸CR c.1 c.2 va vb
theorem HX{a b:V}{x y:Value}{r:Bool}(hu:A.units<cLine)(S:kO cx φ σ s)(va:gJ s.heap φ σ a x)(vb:gJ s.heap φ σ b y)(hr:UO σ a b=some r):RcAt A s x y r∧RcNeAt A s x y (!r):=by
 cases a with
 |none |int |str=>have w:=R9 (A:=A) (s:=s) va vb hr;exact⟨w.r,w.n⟩
 |bool a=>exact TM hr λb e q=>va.b rfl▸vb.b e▸Option.some.inj q▸⟨.bool_bool _ _,.bool_bool _ _⟩
 |tup=>exact nn hr
 |ref r1=>
  exact TH hr λr2 e q=>va.at rfl▸vb.at e▸Ic q λl e1 q=>Ic q λm e2 q=>by
   have w:=rI q
   have c:=f7 w.1
   refine(S.rel.objs _ _ e1).2.elim λvs p=>p.elim λn p=>(S.rel.objs _ _ e2).2.elim λws p'=>p'.elim λn' p'=>Option.some.inj w.2▸?_
   have l1:s.heap.IsList _ vs.toArray:=⟨_,p.1,rfl,n,rfl⟩
   have l2:s.heap.IsList _ ws.toArray:=⟨_,p'.1,rfl,n',rfl⟩
   have n1:vs.toArray.size=l.length:=aC.trans (gh.length p.2.1).symm
   have n2:ws.toArray.size=m.length:=aC.trans (gh.length p'.2.1).symm
   unfold Cz
   by_cases yD:l.length=m.length
   ·rw[beq_iff_eq.mpr yD,Bool.true_and,←n1]
    have sz:=n1.trans (yD.trans n2.symm)
    exact⟨RcAt.lists l1 l2 sz hu λj q1 q2=>y4 c.1 c.2 p.2.1 p'.2.1 j q1 q2,RcNeAt.lists l1 l2 sz hu λj q1 q2=>y4 c.1 c.2 p.2.1 p'.2.1 j q1 q2⟩
   ·rw[beq_eq_false_iff_ne.mpr yD,Bool.false_and]
    have sz:(vs.toArray.size !=ws.toArray.size)=true:=bne_iff_ne.mpr λe=>yD (n1.symm.trans (e.trans n2))
    exact⟨.lists_lengths l1 l2 sz hu,.lists_lengths l1 l2 sz hu⟩
structure InA(cx:Cx)(A:Around)(s:Shared)(x y:Value)(r:Bool):Prop where
 i:∀GC:Value→Shared→Prop,(∀t,GC (.bool r) {s with toks:=t})→aB (model cx.prog cx.w) A (compareOp .In x y) GC kX s
 n:∀GC:Value→Shared→Prop,(∀t,GC (.bool (!r)) {s with toks:=t})→aB (model cx.prog cx.w) A (compareOp .NotIn x y) GC kX s
theorem Hk{a b:V}{x y:Value}{r:Bool}(S:kO cx φ σ s)(va:gJ s.heap φ σ a x)(vb:gJ s.heap φ σ b y)(hr:Vy σ a b=some r):InA cx A s x y r:=by
 cases b with
 |str y=>exact xA hr λk e q=>(va.s e).elim λt w=>(vb.s rfl).elim λu w'=>w▸w'▸Option.some.inj q▸⟨λGC q=>PySem.P.in_str (q s.toks),λGC q=>PySem.P.notIn_str (q s.toks)⟩
 |tup l=>
  have w:=rI hr
  have c:=f7 w.1
  refine(vb.t rfl).elim λta g=>g.elim λvs g=>g.1▸Option.some.inj w.2▸any_eq c.1 g.2.2 c.2▸?_
  have l1:s.heap.IsTuple ta vs.toArray:=⟨_,g.2.1,rfl,0,rfl⟩
  exact⟨λGC q=>in_tupleAt _ l1 (AH g.2.2 c.2 c.1 va) (by rw[dP];exact q s.toks),λGC q=>notIn_tupleAt _ l1 (AH g.2.2 c.2 c.1 va) (by rw[dP];exact q s.toks)⟩
 |ref r1=>
  refine vb.at rfl▸?_
  have hr:inR a (σ r1)=some r:=hr
  cases e:σ r1 with
  |none=>exact nn (show inR a none=some r from e▸hr)
  |some o=>
   have R:=S.rel.objs _ _ e
   have hr:inR a (some o)=some r:=e▸hr
   cases o with
   |list l=>
    have w:=rI hr
    have c:=f7 w.1
    refine R.2.elim λvs g=>g.elim λn g=>Option.some.inj w.2▸any_eq c.1 g.2.1 c.2▸?_
    have l1:s.heap.IsList _ vs.toArray:=⟨_,g.1,rfl,n,rfl⟩
    exact⟨λGC q=>in_listAt _ l1 (AH g.2.1 c.2 c.1 va) (by rw[dP];exact q s.toks),λGC q=>notIn_listAt _ l1 (AH g.2.1 c.2 c.1 va) (by rw[dP];exact q s.toks)⟩
   |dict l=>
    exact xA hr λk e q=>(va.s e).elim λt w=>R.2.2.elim λkvs g=>w▸Option.some.inj q▸(pF k g.2.1).1▸
     ⟨λGC q=>wpAny_in_of (bM k t) R.2.1 g.1.mapOf (q _),λGC q=>wpAny_notIn_of (bM k t) R.2.1 g.1.mapOf (q _)⟩
   |set l=>exact xA hr λk e q=>(va.s e).elim λt w=>R.2.elim λS' g=>w▸Option.some.inj q▸g.2.1 k▸⟨λGC q=>wpAny_inSet_of (bM k t) rfl g.1 (q _),λGC q=>wpAny_notInSet_of (bM k t) rfl g.1 (q _)⟩
   |_=>exact nn hr
 |_=>exact nn hr
theorem wy{v:V}{x:Value}(r:gJ h φ σ v x):(x==.none)=tF v:=by
 cases v with
 |none=>cases (show x=.none from r);rfl
 |bool=>exact(show x=_ from r)▸rfl
 |int |str=>exact aI r λt r=>r▸rfl
 |ref=>exact r.2▸rfl
 |tup=>exact aI r λt r=>r.elim λZ r=>r.1▸rfl
theorem BR{v:V}(h:tF v=true):v=.none:=by
 cases v with
 |none=>rfl
 |_=>exact bf h
theorem zY{op:CmpOp}{a b:V}{x y:Value}{r:Bool}{Q':Value→Shared→Prop}(hA:nU A d)(S:kO cx φ σ s)(va:gJ s.heap φ σ a x)(vb:gJ s.heap φ σ b y)(hr:rZ σ op a b=some r)
  (k:∀t,Q' (.bool r) {s with toks:=t}):aB (model cx.prog cx.w) A (compareOp op x y) Q' kX s:=by
 have hu:=ao (aA _ _) (D0 hA)
 cases op with
 |Is=>have w:=rI hr;exact vb.n (BR w.1)▸PySem.is_none (wy va▸Option.some.inj w.2▸k s.toks)
 |IsNot=>have w:=rI hr;exact vb.n (BR w.1)▸PySem.isNot_none (wy va▸Option.some.inj w.2▸k s.toks)
 |Eq=>exact PySem.EqBoolInt.of_rc (HX hu S va vb hr).1 (k s.toks)
 |NotEq=>exact(Option.map_eq_some_iff.mp hr).elim λr' e=>PySem.EqBoolInt.of_rcne (HX hu S va vb e.1).2 (e.2.symm▸k s.toks)
 |In=>exact(Hk S va vb hr).i Q' k
 |NotIn=>exact(Option.map_eq_some_iff.mp hr).elim λr' e=>(Hk S va vb e.1).n Q' (e.2▸k)
 |Gt=>exact Ai hr λi e q=>Ai q λj e' q=>(va.i e).elim λt w=>(vb.i e').elim λu w'=>w▸w'▸PyProof.Rows.gt_int (Option.some.inj q▸k s.toks)
 |_=>exact nn hr
inductive UM(op:CmpOp)(Q:V→Hp→Prop)(a b:V)(σ:Hp):Prop
 |mk (c:Bool):rZ σ op a b=some c→Q (.bool c) σ→UM op Q a b σ
inductive Mk(op:CmpOp)(Q:Bool→Hp→Prop)(a b:V)(σ:Hp):Prop
 |mk (c:Bool):rZ σ op a b=some c→Q c σ→Mk op Q a b σ
def FZ(cx:Cx)(d:Nat)(γ:Nm→Option I)(ρ:Loc)(r:ME)(Q:V→V→Hp→Prop)(a:V)(σ:Hp):Prop:=WE cx d r γ ρ σ (Q a)
theorem CC{op:CmpOp}{l r:ME}{Q:V→Hp→Prop}(h:WE cx d l γ ρ σ (FZ cx d γ ρ r (UM op Q))):WE cx d (.cmp op l r) γ ρ σ Q:=λsc ex c A env φ s F Q' k=>c.cmp λle re p hm cl cr=>
 wpAny_Compare1 (h _ _ cl A env φ s F _ λφ' σ' s' v y g vr q=>q _ _ cr A env φ' s' (F.go g) _ λφ'' σ'' oZ u z g' ur q=>q.casesOn λc e q=>zY F.hA g'.S (vr.ext g.S.rel g'.x) ur e λt=>k φ'' σ'' _ _ _ ((g.trans g').toks t) (.bool c) q) hm
theorem gv{op:CmpOp}{l r:ME}{Q:Bool→Hp→Prop}(h:WE cx d l γ ρ σ (FZ cx d γ ρ r (Mk op Q))):WT cx d (.cmp op l r) γ ρ σ Q:=λsc ex c A env φ s F Q' k=>c.cmp λle re p hm cl cr=>
 wpAny_isTrue_Compare1 (h _ _ cl A env φ s F _ λφ' σ' s' v y g vr q=>q _ _ cr A env φ' s' (F.go g) _ λφ'' σ'' oZ u z g' ur q=>q.casesOn λc e q=>zY F.hA g'.S (vr.ext g.S.rel g'.x) ur e λt=>fz (k φ'' σ'' _ _ ((g.trans g').toks t) q)) hm
end
end
end
mutual
section
open PySem.SeqAt
theorem nT{n:Nat}(h:n≤100000):n≤sizeLine:=ab h (by rw[cz];decide)
def rK(vs:List Value)(n:Nat):Obj:={cls:=.type "list",data:=.seq vs.toArray n}
section
variable{cx:Cx}{d:Nat}{γ:Nm→Option I}{ρ:Loc}{σ:Hp}{φ:Ph}{h':Heap}{s:Shared}{A:Around}{r:I}
structure Made(cx:Cx)(φ:Ph)(σ:Hp)(s:Shared)(r:I)(m:O)(a:Addr)(h':Heap)(t:Nat):Prop where
 g:Go cx φ σ s (up φ r (a,a)) (up σ r (some m)) {s with heap:=h',toks:=t}
 v:gJ h' (up φ r (a,a)) (up σ r (some m)) (.ref r) (.ref a)
theorem zj(S:kO cx φ σ s)(hr:σ r=none){a:Addr}(hn:s.heap.get? a=none)(hk:∀b o,s.heap.get? b=some o→h'.get? b=some o){m:O}
  (y:Ext cx φ σ s.heap φ σ h'→vW cx h' (up φ r (a,a)) (up σ r (some m)) m (a,a))(t:Nat):Made cx φ σ s r m a h' t:=
 have Y:=adopt (a:=(a,a)) (Ext.grow (X:=Un) hk) (S.rel.grow hk) hr hn hn (S.rel.kg hn) (S.rel.kg hn) (S.rel.ng hn) (S.rel.ng hn) (y (Ext.grow hk))
 ⟨⟨Y.1,Y.2,S.gens,S.drawn,S.os⟩,kq (fW _ _ _),by rw[fW]⟩
theorem end_none(h:Heap):h.get? h.objs.size=none:=bq (aL _)
theorem SI(hr:σ r=none)(a:Addr×Addr)(m:O)(q:I)(hq:σ q≠none):up σ r (some m) q≠none∧up φ r a q=φ q:=have n:q≠r:=λe=>hq (e▸hr);⟨gD (x:=q) σ (some m) n▸hq,gD _ _ n⟩
theorem Pj(S:kO cx φ σ s)(hr:σ r=none){o:Obj}(ho:o.isFreed=false){m:O}
  (y:Ext cx φ σ s.heap φ σ (s.heap.push o)→vW cx (s.heap.push o) (up φ r (s.heap.objs.size,s.heap.objs.size)) (up σ r (some m)) m (s.heap.objs.size,s.heap.objs.size))(t:Nat):Made cx φ σ s r m s.heap.objs.size (s.heap.push o) t:=
 zj S hr (end_none _) oP y t
theorem vW.li{a:Addr}{h:Heap}{l:List V}{vs:List Value}{n:Nat}(g:h.get? a=some (rK vs n))(r:gh h φ σ l vs)(hl:l.length≤100000):vW cx h φ σ (.list l) (a,a):=⟨rfl,vs,n,g,r,hl⟩
theorem rA(S:kO cx φ σ s)(hr:σ r=none){a:Addr}(hn:s.heap.get? a=none)(hk:∀b o,s.heap.get? b=some o→h'.get? b=some o){l:List V}{vs:List Value}{n:Nat}
  (g:h'.get? a=some (rK vs n))(vr:gh s.heap φ σ l vs)(hl:l.length≤100000)(t:Nat):Made cx φ σ s r (.list l) a h' t:=
 zj S hr hn hk (λY=>.li g ((gh.ext S.rel Y vr).DQ (SI hr _ _)) hl) t
theorem uq(S:kO cx φ σ s)(hr:σ r=none){l:List V}{vs:List Value}(vr:gh s.heap φ σ l vs)(hl:l.length≤100000)(n:Nat)(t:Nat):Made cx φ σ s r (.list l) s.heap.objs.size (s.heap.push (rK vs n)) t:=
 rA S hr (end_none _) oP (aF _ rfl) vr hl t
theorem Ny(O:gT cx)(S:kO cx φ σ s)(hr:σ r=none)(t:Nat):Made cx φ σ s r (.dict []) s.heap.objs.size (s.heap.push emptyDict) t:=
 Pj (o:=emptyDict) (m:=.dict []) S hr rfl (λY=>⟨rfl,beq_eq_false_iff_ne.mpr (bx (modules_low (h:=s.heap) (O.nolimit.keeps S.rel.base))),[],⟨_,#[],0,aF _ rfl,⟨rfl,rfl,rfl⟩,rfl,λe he=>absurd he (Array.not_mem_empty e),.nil,.nil⟩,⟨rfl,.nil⟩,aw _⟩) t
theorem O7(S:kO cx φ σ s){l:List V}{vs:List Value}(vr:gh s.heap φ σ l vs)(t:Nat):Go cx φ σ s φ σ {s with heap:=s.heap.push (jI vs),toks:=t}∧gJ (s.heap.push (jI vs)) φ σ (.tup l) (.ref s.heap.objs.size):=
 ⟨⟨Ext.push _,S.rel.push _,S.gens,S.drawn,S.os⟩,.tup l _ vs (aF _ rfl) (gh.ext S.rel (Ext.push _) vr)⟩
variable{Q:V→Hp→Prop}
inductive Ra(Q:V→Hp→Prop)(l:List V)(σ:Hp):Prop
 |mk:l.length≤100000→(r:I)→σ r=none→Q (.ref r) (up σ r (some (.list l)))→Ra Q l σ
theorem iQ{ms:List ME}(h:AN cx d ms γ ρ σ (Ra Q)):WE cx d (.list ms) γ ρ σ Q:=λsc ex c A env φ s F Q' k=>c.list λes p c=>
 wpAny_List (h _ _ c A env φ s _ F _ λφ' σ' s' v y g vr q=>q.casesOn λhl r hr q=>⟨by rw[←gh.length vr];exact nT hl,have w:=uq g.S hr vr hl 0 s'.toks;k _ _ _ _ _ (g.trans w.g) w.v q⟩)
inductive Vq(Q:V→Hp→Prop)(l:List V)(σ:Hp):Prop
 |mk:l.length≤100000→Q (.tup l) σ→Vq Q l σ
theorem pX{ms:List ME}(h:AN cx d ms γ ρ σ (Vq Q)):WE cx d (.tup ms) γ ρ σ Q:=λsc ex c A env φ s F Q' k=>c.tup λes a p c=>
 wpAny_Tuple (h _ _ c A env φ s _ F _ λφ' σ' s' v y g vr q=>q.casesOn λhl q=>⟨by rw[←gh.length vr];exact nT hl,have w:=O7 g.S vr s'.toks;k _ _ _ _ _ (g.trans w.1) w.2 q⟩)
theorem lI(O:gT cx)(hr:σ r=none)(h:Q (.ref r) (up σ r (some (.dict [])))):WE cx d .dict γ ρ σ Q:=λsc ex c A env φ s F Q' k=>c.dict λp=>by
 rw[eval_Dict_empty]
 have w:=Ny O F.S hr s.toks
 exact af (bX (wpAny_newObj_type (k _ _ _ _ _ w.g w.v h) (aw _)))
def binI(op:Operator)(a b:Int):Option V:=op.casesOn (some (.int (a+b))) none (if a=2 then some (.int (a*b))else none) none none (if b≠0 then some (.int (a.fmod b))else none) (if a=2∧0≤b∧b≤20 then some (.int (a ^b.toNat))else none)
 none none none none none (if b≠0∧b.natAbs≤1000 then some (.int (a.fdiv b))else none)
def XF(op:Operator)(a b:Str):Option V:=op.casesOn (if a.length+b.length≤100000 then some (.str (a++b))else none) none none none none none none none none none none none none
def El(op:Operator)(a b:V):Option V:=a.casesOn none (λZ=>none) (λi=>b.Tt none (binI op i)) (λi=>b.Rz none (XF op i)) (λZ=>none) λZ=>none
theorem JD(a b:Int)(h:b.natAbs≤1000):¬e7 a b=true:=by
 unfold e7
 have:b.natAbs.log2<10:=by
  by_cases hz:b.natAbs=0
  ·rw[hz];decide
  ·exact(Nat.log2_lt hz).mpr (ao h (by decide))
 simp only [c7,decide_eq_true_eq,not_and]
 intro q
 split at q<;>omega
theorem I8:∀n:Fin 21,Builtin.Int.intTooBig (((Builtin.Int.intBits 2:Nat):Int)*(n.val:Int))=false:=by decide+kernel
theorem PR{op:Operator}{a b:Int}{t u:Tok}{v:V}{Q':Value→Shared→Prop}(hv:binI op a b=some v)(k:∀t z,gJ s.heap φ σ v z→Q' z {s with toks:=t}):aB (model cx.prog cx.w) A (binaryOp op (.int a t) (.int b u)) Q' kX s:=by
 cases op with
 |Add=>exact PySem.P.add_int (k _ _ (Option.some.inj hv▸.int _ _))
 |Mult=>have w:=rI hv;exact PySem.P.mul_int (k _ _ (Option.some.inj w.2▸.int _ _)) (IntMulOk.of_left (w.1▸by decide+kernel))
 |FloorDiv=>have w:=rI hv;exact AutoIntOps.floordiv_1 (by simpa using w.1.1) (JD _ _ w.1.2) (k _ _ (Option.some.inj w.2▸.int _ _))
 |Mod=>have w:=rI hv;exact PyProof.Rows.mod_int w.1 (k _ _ (Option.some.inj w.2▸.int _ _))
 |Pow=>
  have w:=rI hv
  have r:∀{c t},c=a ^b.toNat→gJ s.heap φ σ v (.int c t):=λe=>Option.some.inj w.2▸e▸.int _ _
  by_cases hb:b=0
  ·exact AutoIntOps.pow_0 w.1.2.1 (by rw[hb];rfl) (k _ _ (r (by rw[hb];exact(Int.pow_zero a).symm)))
  ·refine AutoIntOps.pow_4 w.1.2.1 (by simpa using hb) (by rw[w.1.1];decide) (by rw[w.1.1];decide) ?_ (k _ _ (r rfl))
   obtain ⟨n,e⟩:=dQ w.1.2.1
   rw[w.1.1,e,I8 ⟨n,Nat.lt_succ_of_le (Int.ofNat_le.mp (e▸w.1.2.2))⟩];decide
 |_=>exact nn hv
theorem RR{op:Operator}{a b v:V}{x y:Value}{Q':Value→Shared→Prop}(S:kO cx φ σ s)(va:gJ s.heap φ σ a x)(vb:gJ s.heap φ σ b y)(hv:El op a b=some v)
  (k:∀t z,gJ s.heap φ σ v z→Q' z {s with toks:=t}):aB (model cx.prog cx.w) A (binaryOp op x y) Q' kX s:=by
 cases a with
 |int i=>exact Ai hv λj e q=>(va.i rfl).elim λt w=>(vb.i e).elim λu w'=>w▸w'▸PR q k
 |str i=>
  exact xA hv λj e q=>(va.s rfl).elim λt w=>(vb.s e).elim λu w'=>w▸w'▸by
   cases op with
   |Add=>have p:=rI q;exact PyProof.Rows.add_str (λt' tk=>k _ _ (Option.some.inj p.2▸.str _ _)) (nT p.1)
   |_=>exact nn q
 |_=>exact nn hv
inductive V6(op:Operator)(Q:V→Hp→Prop)(a b:V)(σ:Hp):Prop
 |mk (v:V):El op a b=some v→Q v σ→V6 op Q a b σ
theorem kW{op:Operator}{l r:ME}(h:WE cx d l γ ρ σ (FZ cx d γ ρ r (V6 op Q))):WE cx d (.bin op l r) γ ρ σ Q:=λsc ex c A env φ s F Q' k=>c.bin λle re p cl cr=>
 wpAny_BinOp (h _ _ cl A env φ s F _ λφ' σ' s' v y g vr q=>q _ _ cr A env φ' s' (F.go g) _ λφ'' σ'' oZ u z g' ur q=>q.casesOn λc e q=>RR g'.S (vr.ext g.S.rel g'.x) ur e λt z vz=>k φ'' σ'' _ _ _ ((g.trans g').toks t) vz q)
inductive Ve(Q:V→Hp→Prop)(a b:V)(σ:Hp):Prop
 |mk (p q:I) (la lb:List V) (z:I):a=.ref p→b=.ref q→σ p=some (.list la)→σ q=some (.list lb)→la.length+lb.length≤100000→σ z=none→Q (.ref z) (up σ z (some (.list (la++lb))))→Ve Q a b σ
theorem KX{l r:ME}(h:WE cx d l γ ρ σ (FZ cx d γ ρ r (Ve Q))):WE cx d (.bin .Add l r) γ ρ σ Q:=λsc ex c A env φ s F Q' k=>c.bin λle re p cl cr=>
 wpAny_BinOp (h _ _ cl A env φ s F _ λφ' σ' s' v y g vr q=>q _ _ cr A env φ' s' (F.go g) _ λφ'' σ'' oZ u z g' ur q=>q.casesOn λp q la lb w e1 e2 e3 e4 hl hw hq=>
  (g'.S.rel.objs _ _ e3).2.elim λvs v1=>v1.elim λn v1=>(g'.S.rel.objs _ _ e4).2.elim λws v2=>v2.elim λn' v2=>(vr.ext g.S.rel g'.x).at e1▸ur.at e2▸by
   have w:=uq g'.S hw (gh.append v1.2.1 v2.2.1) (by rw[ax];exact hl) 0 oZ.toks
   exact PySem.P.add_list v1.1 v2.1 (by rw[List.append_toArray];exact k _ _ _ _ _ ((g.trans g').trans w.g) w.v hq) (by rw[aC,aC,←gh.length v1.2.1,←gh.length v2.2.1];exact nT hl))
end
end
end
mutual
section
open PySem.SeqAt
section
variable{cx:Cx}{d:Nat}{γ:Nm→Option I}{ρ:Loc}{σ:Hp}{φ:Ph}{h:Heap}{s:Shared}{A:Around}
theorem Tq{prog:Program}{w:World}{E:Value→Shared→Prop}(slice:Expr){o i:Value}{Q:Value→Shared→Prop}(g:aB (model prog w) A (getItem o i) Q E s):aB (model prog w) A (subscripted slice false o i) Q E s:=by
 cases slice with
 |Slice a b c p=>cases c<;>exact wpAny_operating g
 |_=>exact wpAny_operating g
theorem ra{prog:Program}{w:World}{E:Value→Shared→Prop}{value slice:Expr}{o i:Value}{T id:String}{Q:Value→Shared→Prop}(hT:s.TypeIs o T)
  (hl:typeLookup (.type T) "__getitem__"=pure (some (.builtin id)))(h:aB (model prog w) A (getItem o i) Q E s):aB (model prog w) A (subscriptTail value slice o i) Q E s:=by
 unfold subscriptTail
 refine af ?_
 rw[getitemInPython_of_ne hT.not_modules]
 refine af (eC hT hl ?_)
 have g:aB (model prog w) A (getItem o i) (λr s₃=>aB (model prog w) A (letTemporaryGo value o r >>=λZ=>pure r) Q E s₃) E s:=
  aZ h (λr s₃ h₃=>af (wpAny_letTemporaryGo (aq h₃))) λZ Z x=>x
 exact aq (af (Tq slice g))
def wZ(σ:Hp)(o i:V):Option V:=o.casesOn none (λZ=>none) (λZ=>none) (λx=>i.Tt none λk=>if 0≤k∧k≤100000 then (x.cps[k.toNat]?).map λc=>.str ⟨#[c]⟩else none)
 (λr=>i.casesOn none (λZ=>none) (λk=>O2 (σ r) none λl=>if 0≤k then l[k.toNat]? else none) (λk=>SA (σ r) none λl=>l.lookup k) (λZ=>none) λZ=>none)
 λl=>i.Tt none λk=>if 0≤k∧l.length≤100000 then l[k.toNat]? else none
theorem xS:typeLookup (.type "list") "__getitem__"=pure (some (.builtin "list.__getitem__")):=PySem.list_getitem_lookup
theorem mE{α:Type}{l:List α}{k:Nat}{v:α}(e:l[k]?=some v):k<l.length:=(List.getElem?_eq_some_iff.mp e).1
theorem MZ{k:Int}{n:Nat}(h:k.toNat<n)(h0:0≤k):k<(n:Int):=(Int.toNat_lt h0).mp h
theorem fit{k:Int}{n:Nat}(h:k.toNat<n)(hn:n≤100000)(h0:0≤k):-(2 ^63)≤k∧k<2 ^63:=⟨Int.le_trans (by decide) h0,Int.lt_of_lt_of_le (MZ h h0) (Int.le_trans (Int.ofNat_le.mpr hn) (by decide))⟩
theorem Py(R:Rel cx φ σ h){r:I}{l:List (Str×V)}(e:σ r=some (.dict l)∨∃ob,σ r=some (.nD l ob)):((φ r).1==sysModules)=false∧∃kvs,h.DictOf (strKind cx.prog cx.w) (φ r).1 kvs∧nh h φ σ l kvs∧l.length≤100000:=
 e.elim (λe=>(R.objs _ _ e).2) λe=>e.elim λob e=>⟨(R.objs _ _ e).2.1,(R.objs _ _ e).2.2.1⟩
theorem Sp{value slice:Expr}{o i v:V}{x y:Value}{Q':Value→Shared→Prop}(S:kO cx φ σ s)(vo:gJ s.heap φ σ o x)(vi:gJ s.heap φ σ i y)(hv:wZ σ o i=some v)
  (k:∀t z,gJ s.heap φ σ v z→Q' z {s with toks:=t}):aB (model cx.prog cx.w) A (subscriptTail value slice x y) Q' kX s:=by
 cases o with
 |tup l=>
  exact Ai hv λkk e q=>have w:=rI q;(vo.t rfl).elim λa g=>g.elim λvs g=>(vi.i e).elim λt u=>(gh.get g.2.2 w.2).elim λz f=>g.1▸u▸by
   have hk:=mE f.1
   have ft:=fit hk (gh.length g.2.2▸w.1.2) w.1.1
   exact ra (T:="tuple") (id:="tuple.__getitem__") ⟨_,g.2.1,rfl⟩ PyProof.Rows.slot_tuple_getitem.lookup
    (PyProof.Rows.getItem_tuple (j:=kk.toNat) (x:=z) ⟨_,g.2.1,rfl,0,rfl⟩ ft.1 ft.2 (seqIndex_of w.1.1 (by rw[aC];exact MZ hk w.1.1)) (by rw[bu];exact f.1) (k s.toks z f.2))
 |str l=>
  exact Ai hv λkk e q=>have w:=rI q;(vo.s rfl).elim λt0 g=>(vi.i e).elim λt u=>(Option.map_eq_some_iff.mp w.2).elim λc f=>g▸u▸by
   have hk:kk.toNat<l.cps.size:=(Array.getElem?_eq_some_iff.mp f.1).1
   refine ra (T:="str") (id:="str.__getitem__") (typeIs_str s _ _) PySem.F.slot_str_getitem.lookup (PySem.P.getItem_str (c:=c) ?_ ?_ (k _ _ (f.2▸.str _ _)))
   ·rw[decide_eq_false (by omega),decide_eq_false (by omega)];rfl
   ·rw[seqIndex_of (n:=l.length) w.1.1 (MZ hk w.1.1)];exact f.1
 |ref r=>
  refine vo.at rfl▸?_
  cases i with
  |int kk=>
   exact PX hv λl e q=>have w:=rI q;(Dx S.rel e).elim λvs g=>(vi.i rfl).elim λt u=>(gh.get g.2.1 w.2).elim λz f=>u▸
    ra (T:="list") (id:="list.__getitem__") g.1.typeIs xS (wpAny_getItem_list g.1 w.1 (fit (mE w.2) g.2.2 w.1).2 (by rw[bu];exact f.1) (k s.toks z f.2))
  |str kk=>
   exact PZ hv λl e q=>(Py S.rel e).2.elim λkvs g=>(vi.s rfl).elim λt u=>((pF kk g.2.1).2 v q).elim λz f=>u▸
    ra (T:="dict") (id:="dict.__getitem__") g.1.typeIs slot_dict_getitem.lookup (wpAny_getItem_of (bM kk t) g.1.mapOf f.1 (k _ z f.2))
  |_=>exact nn hv
 |_=>exact nn hv
variable{Q:V→Hp→Prop}
inductive Wg(Q:V→Hp→Prop)(a b:V)(σ:Hp):Prop
 |mk (v:V):wZ σ a b=some v→Q v σ→Wg Q a b σ
theorem jr{o i:ME}(h:WE cx d o γ ρ σ (FZ cx d γ ρ i (Wg Q))):WE cx d (.idx o i) γ ρ σ Q:=λsc ex c A env φ s F Q' k=>c.idx λoe ie p ns co ci=>
 PyProof.Rows.Subscript_ (h _ _ co A env φ s F _ λφ' σ' s' v y g vr q=>q _ _ ci A env φ' s' (F.go g) _ λφ'' σ'' oZ u z g' ur q=>q.casesOn λc e q=>Sp g'.S (vr.ext g.S.rel g'.x) ur e λt z vz=>k φ'' σ'' _ _ _ ((g.trans g').toks t) vz q)
inductive IP(Q:Option Int→Hp→Prop)(v:V)(σ:Hp):Prop
 |mk (i:Int):v=.int i→Q (some i) σ→IP Q v σ
def WO(cx:Cx)(d:Nat)(m:Option ME)(γ:Nm→Option I)(ρ:Loc)(σ:Hp)(Q:Option Int→Hp→Prop):Prop:=m.casesOn (Q none σ) λm=>WE cx d m γ ρ σ (IP Q)
theorem M4{m:Option ME}{e:Option Expr}{sc:Scope}{env:Env}{Q:Option Int→Hp→Prop}{Q':Value→Shared→Prop}(h:WO cx d m γ ρ σ Q)(c:vB cx.K sc e m)(F:Fm cx d γ ρ σ sc A env φ s)
  (k:∀φ' σ' s' i y,Go cx φ σ s φ' σ' s'→IsPart y i→Q i σ'→Q' y s'):aB (model cx.prog cx.w) A (evalPart e env) Q' kX s:=by
 cases m with
 |none=>exact c.none (by rw[fa];exact aq (k φ σ s _ _ (.refl F.S) .none h))
 |some m=>
  exact c.some λe c=>by
   rw[evalPart_some]
   exact(show WE cx d m γ ρ σ (IP Q)from h) _ _ c A env φ s F _ λφ' σ' s' v y g vr q=>q.casesOn λi e q=>(vr.i e).elim λt u=>k φ' σ' s' _ _ g (u▸.int _ _) q
def CN(i:Option Int):Bool:=i.casesOn true λi=>decide (0≤i)
def Yw(i:Option Int):Nat:=i.casesOn 0 eG
def W6(i:Option Int)(n:Nat):Nat:=i.casesOn n eG
def pW{α:Type}(lo hi:Option Int)(l:List α):List α:=(l.take (W6 hi l.length)).drop (Yw lo)
theorem L8(m n:Nat)(x:Int):max 0 (min (if (m:Int)<0 then x else m) (n:Int))=((min m n:Nat):Int):=by
 rw[if_neg (Int.not_lt.mpr (bj m))];exact(Int.max_eq_right (by show 0≤min (m:Int) n;rw[Int.min_def];split<;>exact bj _)).trans (by rw[Int.min_def,Nat.min_def];by_cases h:m≤n;rw[if_pos h,if_pos (Int.ofNat_le.mpr h)];rw[if_neg h,if_neg λq=>h (Int.ofNat_le.mp q)])
theorem BK{a:Int}{n:Nat}(h:0≤a)(x:Int):max 0 (min (if a<0 then x else a) (n:Int))=((min a.toNat n:Nat):Int):=(dQ h).elim λm e=>e▸L8 m n x
theorem Dr(items:Array Value)(lo hi:Option Int)(h1:CN lo=true)(h2:CN hi=true):slicePick items lo hi none=(pW lo hi items.toList).toArray:=by
 have hb:sliceBounds lo hi none items.size=(((min (Yw lo) items.size:Nat):Int),((min (W6 hi items.size) items.size:Nat):Int),1):=by
  simp only [sliceBounds,Option.getD_none,show(1:Int)>0 by decide,if_true]
  refine cH ?_ (cH ?_ rfl)
  ·cases lo with
   |none=>exact congrArg Int.ofNat (Nat.zero_min _).symm
   |some a=>exact BK (jL h1) _
  ·cases hi with
   |none=>exact congrArg Int.ofNat (Nat.min_self _).symm
   |some a=>exact BK (jL h2) _
 unfold slicePick pW
 rw[hb]
 dsimp only
 rw[sliceRange_one,pick_run,←List.drop_take,bQ]
 congr 1
 rw[List.take_eq_take_iff.mpr (show min (min (W6 hi items.size) items.size) items.toList.length=min (W6 hi items.size) items.toList.length by rw[bQ,Nat.min_assoc,Nat.min_self])]
 by_cases q:Yw lo≤items.size
 ·rw[di q]
 ·rw[Nat.min_eq_right (Nat.le_of_not_le q),List.drop_of_length_le (by rw[aO,bQ];exact a8 _ _),List.drop_of_length_le (ab (by rw[aO,bQ];exact a8 _ _) (Nat.le_of_not_le q))]
theorem gh.take:∀{l:List V} {vs:List Value} (n:Nat),gh h φ σ l vs→gh h φ σ (l.take n) (vs.take n)
 |_,_,0,_=>rfl
 |[],vs,n+1,r=>(show vs=[]from r)▸rfl
 |v::l,vs,n+1,r=>r.un.elim λy u=>u.elim λzs u=>u.1▸.cons u.2.1 (gh.take n u.2.2)
theorem gh.drop:∀{l:List V} {vs:List Value} (n:Nat),gh h φ σ l vs→gh h φ σ (l.drop n) (vs.drop n)
 |_,_,0,r=>r
 |[],vs,n+1,r=>(show vs=[]from r)▸rfl
 |v::l,vs,n+1,r=>r.un.elim λy u=>u.elim λzs u=>u.1▸gh.drop n u.2.2
theorem gh.rev:∀{l:List V} {vs:List Value},gh h φ σ l vs→gh h φ σ l.reverse vs.reverse
 |[],vs,r=>(show vs=[]from r)▸rfl
 |v::l,vs,r=>r.un.elim λy u=>u.elim λzs u=>u.1▸by
  rw[List.reverse_cons,List.reverse_cons]
  exact(gh.rev u.2.2).append (.cons u.2.1 rfl)
theorem gh.slice{l:List V}{vs:List Value}(lo hi:Option Int)(r:gh h φ σ l vs):gh h φ σ (pW lo hi l) (pW lo hi vs):=by
 unfold pW
 rw[r.length]
 exact(r.take _).drop _
inductive VA(i j:Option Int)(a:V)(Q:V→Hp→Prop)(σ:Hp):Prop
 |mk (r:I) (l:List V) (q:I):a=.ref r→HQ σ r l→CN i=true→CN j=true→σ q=none→Q (.ref q) (up σ q (some (.list (pW i j l))))→VA i j a Q σ
def QHi(Q:V→Hp→Prop)(a:V)(i j:Option Int)(σ:Hp):Prop:=VA i j a Q σ
def QLo(cx:Cx)(d:Nat)(γ:Nm→Option I)(ρ:Loc)(hi:Option ME)(Q:V→Hp→Prop)(a:V)(i:Option Int)(σ:Hp):Prop:=WO cx d hi γ ρ σ (QHi Q a i)
def QSl(cx:Cx)(d:Nat)(γ:Nm→Option I)(ρ:Loc)(lo hi:Option ME)(Q:V→Hp→Prop)(a:V)(σ:Hp):Prop:=WO cx d lo γ ρ σ (QLo cx d γ ρ hi Q a)
theorem Go.push(S:kO cx φ σ s)(o:Obj):Go cx φ σ s φ σ {s with heap:=s.heap.push o}:=⟨Ext.push o,S.rel.push o,S.gens,S.drawn,S.os⟩
theorem sU{o:ME}{lo hi:Option ME}(h:WE cx d o γ ρ σ (QSl cx d γ ρ lo hi Q)):WE cx d (.yb o lo hi) γ ρ σ Q:=λsc ex c A env φ s F Q' k=>c.yb λoe le he p q co cl ch=>
 PyProof.Rows.Subscript_ (h _ _ co A env φ s F _ λφ' σ' s' v y g vr q=>wpAny_Slice (M4 (show WO cx d lo γ ρ σ' _ from q) cl (F.go g) λφ₂ σ₂ s₂ i yl g₂ pi q₂=>M4 (show WO cx d hi γ ρ σ₂ _ from q₂) ch (F.go (g.trans g₂)) λφ₃ σ₃ s₃ j yh g₃ pj q₃=>
  q₃.casesOn λr l w e1 e2 e3 e4 e5 q₃=>by
   rw[fa]
   have G4:Go cx φ₃ σ₃ s₃ φ₃ σ₃ {s₃ with heap:=s₃.heap.push {cls:=.type "slice",data:=.fields #[yl,yh,.none]}}:=.push g₃.S _
   refine aq ((Dx G4.S.rel e2).elim λvs u=>(vr.ext g.S.rel (g₂.trans g₃).x).at e1▸ra (T:="list") (id:="list.__getitem__") u.1.typeIs xS
    (wpAny_getItem_list_slice (items:=vs.toArray) (lo:=i) (hi:=j) (st:=none) u.1 (fq _ yl yh .none) pi pj .none (by simp) ?_ (by rw[aC,←gh.length u.2.1];exact nT u.2.2)))
   rw[Dr _ _ _ e3 e4]
   have w:=uq G4.S e5 (u.2.1.slice i j) (ab (by unfold pW;rw[cJ,aO];exact ab (Nat.sub_le _ _) (a8 _ _)) u.2.2) 0 s₃.toks
   exact k _ _ _ _ _ ((((g.trans g₂).trans g₃).trans G4).trans w.g) w.v q₃))
inductive Wl(Q:V→Hp→Prop)(a:V)(σ:Hp):Prop
 |mk (r:I) (l:List V) (q:I):a=.ref r→σ r=some (.list l)→σ q=none→Q (.ref q) (up σ q (some (.list l.reverse)))→Wl Q a σ
theorem TN{o:ME}(h:WE cx d o γ ρ σ (Wl Q)):WE cx d (.rev o) γ ρ σ Q:=λsc ex c A env φ s F Q' k=>c.rev λoe a p1 p2 p q co=>
 PyProof.Rows.Subscript_ (h _ _ co A env φ s F _ λφ₃ σ₃ s₃ v y g vr q=>q.casesOn λr l w e1 e2 e5 q₃=>wpAny_Slice (by
  rw[fa,evalPart_some]
  refine aq (aq (PyProof.Rows.UnaryOp_ (wpAny_Constant_int (PySem.P.neg_int ?_))))
  have G4:Go cx φ₃ σ₃ s₃ φ₃ σ₃ {s₃ with heap:=s₃.heap.push {cls:=.type "slice",data:=.fields #[.none,.none,.int (-1) (s₃.toks+1)]}}:=.push g.S _
  refine(G4.S.rel.objs _ _ e2).2.elim λvs u=>u.elim λn u=>vr.at e1▸ra (T:="list") (id:="list.__getitem__") ⟨_,u.1,rfl⟩ xS
   (wpAny_getItem_list_slice (items:=vs.toArray) (lo:=none) (hi:=none) (st:=some (-1)) ⟨_,u.1,rfl,n,rfl⟩ (fq _ .none .none _) .none .none (.int _ _) (by simp) ?_ (by rw[aC,←gh.length u.2.1];exact nT u.2.2))
  rw[show slicePick vs.toArray none none (some (-1))=vs.reverse.toArray from krv_pick _]
  have w:=uq G4.S e5 (gh.rev u.2.1) (by rw[dk];exact u.2.2) 0 (s₃.toks+1+1)
  exact k _ _ _ _ _ ((g.trans G4).trans w.g) w.v q₃))
def yc(x:Str):Str:=if (eR (some 1) none 1 x.length).length==x.length then x else ⟨((eR (some 1) none 1 x.length).filterMap (x.cps[·]?)).toArray⟩
inductive RM(Q:V→Hp→Prop)(a:V)(σ:Hp):Prop
 |mk (x:Str):a=.str x→(yc x).length≤100000→Q (.str (yc x)) σ→RM Q a σ
theorem Pg{o:ME}(h:WE cx d o γ ρ σ (RM Q))(O:gT cx):WE cx d (.yb o (some (.int 1)) none) γ ρ σ Q:=λsc ex c A env φ s F Q' k=>c.yb λoe le he p q co cl ch=>
 PyProof.Rows.Subscript_ (h _ _ co A env φ s F _ λφ₃ σ₃ s₃ v y g vr q=>q.casesOn λtx e1 e2 q₃=>wpAny_Slice (M4 (Q:=λi σ'=>i=some 1∧σ'=σ₃) (m:=some (.int 1)) (show WE cx d (.int 1) γ ρ σ₃ (IP λi σ'=>i=some 1∧σ'=σ₃)from gO O ⟨1,rfl,rfl,rfl⟩) cl (F.go g) λφ₂ σ₂ s₂ i yl g₂ pi q₂=>ch.none (by
  rw[fa]
  refine aq (aq ((vr.s e1).elim λt u=>u▸?_))
  cases (show i=some 1 from q₂.1)
  cases pi with
  |int _ u=>
  refine ra (T:="str") (id:="str.__getitem__") (typeIs_str _ _ _) PySem.F.slot_str_getitem.lookup (wpAny_getItem_str_slice (l:=some (1,u)) (u:=none) (st:=none) ⟨_,aF _ rfl,rfl,rfl⟩ rfl ?_)
  have q5:Q (.str (yc tx)) σ₂:=q₂.2▸q₃
  have fin:∀(o:Obj) t,Q' (.str (yc tx) t) {s₂ with heap:=s₂.heap.push o,toks:=t+1}∧Q' (.str (yc tx) t) {s₂ with heap:=s₂.heap.push o}:=λo t=>
   ⟨k _ _ _ _ _ (((g.trans g₂).trans (.push g₂.S o)).toks _) (.str _ _) q5,k _ _ _ _ _ ((g.trans g₂).trans (.push g₂.S o)) (.str _ _) q5⟩
  unfold yc at e2 fin
  unfold sliceMade slicePicked
  simp only [bK,Option.map_none,Option.getD_none,beq_self_eq_true,Bool.true_and]
  split
  ·rename_i hc
   rw[if_pos hc]at fin
   exact(fin _ _).2
  ·rename_i hc
   rw[if_neg hc]at fin e2
   exact⟨nT e2,(fin _ _).1⟩)))
end
end
end
mutual
section
open PySem.SeqAt
theorem Fj{prog:Program}{w:World}{A:Around}{R:Result→Shared→Prop}{target:Expr}{it:Value}{body:List Stmt}{env:Env}{s:Shared}(Iv:Nat→Shared→Prop)
  (turn:∀n s,Iv n s→aB (model prog w) A (pyNext it) (λr s₁=>match r with
   |none=>R (.ok .next) s₁
   |some v=>aB (model prog w) A (letOwnedTupleGo target it v) (λZ s₂=>aB (model prog w) A (assign target env v) (λZ s₃=>aB (model prog w) A (execs body env) (λf s₄=>match f with
     |.next |.cont=>∃m,m<n∧Iv m s₄
     |.brk=>R (.ok .next) s₄
     |.ret v=>R (.ok (.ret v)) s₄) kX s₃) kX s₂) kX s₁) kX s)
  (n:Nat)(h:Iv n s):codeAny (model prog w) A (.forLoop target it body [] env) R s:=by
 refine codeAny_loop' rfl Iv (λn s hI=>?_) n h
 show aB _ _ ((forTurn target it body [] env).onRaise (λx=>do noteFrame x env;theTreesLotGoes x)) _ _ s
 refine wpAny_noted ?_
 simp only [forTurn]
 refine af (bX (af (wpAny_onRaise (aZ (turn n s hI) (λr s₁ h₁=>?_) λZ Z h'=>aN h'))))
 cases r with
 |none=>exact aq (.inr ⟨rfl,codeAny_block (wpAny_execs_nil h₁)⟩)
 |some v=>
  refine af (aZ h₁ (λZ s₂ h₂=>af (aZ h₂ (λZ s₃ h₃=>af (aZ h₃ (λf s₄ h₄=>?_) λZ Z h'=>aN h')) λZ Z h'=>aN h')) λZ Z h'=>aN h')
  cases f with
  |next |cont=>exact aq (.inl ⟨rfl,h₄⟩)
  |brk |ret v=>exact aq h₄
inductive Src where
 |list (r:I)
 |IM (n:Nat)
 |Mf (r:I)
 |keys (r:I) (l:List (Str×V)) (ob:Obj)
 |vals (r:I) (l:List (Str×V)) (ob:Obj)
 |nothing (r:I) (ob:Obj)
section
variable{cx:Cx}{d:Nat}{γ:Nm→Option I}{ρ:Loc}{σ:Hp}{φ φ':Ph}{h h':Heap}{s:Shared}{A:Around}
def pY(σ:Hp)(src:Src)(i:Nat):Option V:=src.casesOn (λr=>G7 (σ r) none λl=>l[i]?) (λn=>if i<n then some (.int i)else none) (λr=>G7 (σ r) none λl=>(l[i]?).map λv=>.tup [.int i,v])
 (λZ l Z=>(l[i]?).map λp=>.str p.1) (λZ l Z=>(l[i]?).map λp=>p.2) λZ Z=>none
def qA(σ:Hp)(src:Src):Prop:=src.casesOn (λr=>∃l,σ r=some (.list l)) (λZ=>True) (λr=>∃l,σ r=some (.list l)) (λr l ob=>σ r=some (.nD l ob)) (λr l ob=>σ r=some (.nD l ob)) λr ob=>σ r=some (.nD [] ob)
def xK(σ:Hp)(src:Src):Hp:=src.casesOn (λZ=>σ) (λZ=>σ) (λZ=>σ) (λr l Z=>up σ r (some (.dict l))) (λr l Z=>up σ r (some (.dict l))) λr Z=>up σ r (some (.dict []))
structure U5(φ:Ph)(h:Heap)(r:I)(i:Nat)(it lit:Addr)(old:Value):Prop where
 ne:it≠lit
 e:IsEnum h it lit i old
 l:h.IsListIter lit (φ r).1 i
def oa(φ:Ph)(h:Heap)(src:Src)(i:Nat)(it:Addr)(own:List Addr):Prop:=src.casesOn
 (λr=>own=[it]∧h.IsListIter it (φ r).1 i)
 (λn=>own=[it]∧i≤n∧IsRangeIter h it i ((n:Int) - i) 1)
 (λr=>∃lit old,own=[it,lit]∧U5 φ h r i it lit old)
 (λr l ob=>own=[it]∧∃es ep,ob.data=.dict es ep∧h.IsKeyIter it (φ r).1 i l.length ep)
 (λr l ob=>own=[it]∧∃es ep,ob.data=.dict es ep∧h.IsValIter it (φ r).1 i l.length ep)
 (λr ob=>own=[it]∧∃es ep ok ov,ob.data=.dict es ep∧IsItemIter h it (φ r).1 i 0 ep ok ov)
def Own(cx:Cx)(φ:Ph)(σ:Hp)(h₀ h:Heap)(own:List Addr):Prop:=
 ∀a∈own,h₀.get? a=none∧¬FP cx φ σ a∧∃o,h.get? a=some o∧(∀vs,o≠jI vs)∧∀(vs:Array Value) x t,o.data=.fields vs→vs[1]?≠some (.str x t)
def s9(own:List Addr)(h h':Heap):Prop:=∀b o,b∉own→h.get? b=some o→h'.get? b=some o
structure uz(own:List Addr)(h h':Heap):Prop where
 k:s9 own h h'
 l:∀b o,h.get? b=some o→∃o',h'.get? b=some o'
def BH(own:List Addr):Addr→Prop:=(· ∈own)
theorem s9.but{x:Addr}{own:List Addr}(hm:x∈own)(hk:Heap.ExtBut x h h'):s9 own h h':=λb o n e=>hk b o (λq=>n (q▸hm)) e
theorem uz.of{x:Addr}{own:List Addr}(hm:x∈own)(hk:Heap.SameBut x h h')(hl:∃o,h'.get? x=some o):uz own h h':=
 ⟨.but hm hk.extBut,λb o e=>(aK (b=x)).elim (λq=>q▸hl) λq=>⟨o,hk.extBut b o q e⟩⟩
theorem Own.tJ{h₀:Heap}{own:List Addr}(w:Own cx φ σ h₀ h own):mj h (BH own):=λb hb=>(w b hb).2.2
theorem Own.low{h₀:Heap}{own:List Addr}(w:Own cx φ σ h₀ h own)(hb:∀b o,cx.h0.get? b=some o→h₀.get? b=some o)(b:Addr)(Ze:BH own b):cx.h0.get? b=none:=Option.eq_none_iff_forall_ne_some.mpr λo q=>ir (hb b o q) (w b Ze).1
theorem Own.soft{h₀:Heap}{own:List Addr}(R:Rel cx φ σ h)(w:Own cx φ σ h₀ h own)(hb:∀b o,cx.h0.get? b=some o→h₀.get? b=some o)(m:uz own h h'):lW cx (BH own) φ σ h φ σ h'∧Rel cx φ σ h':=
 R.soft w.tJ (λb hb=>(w b hb).2.1) (w.low hb) m.k λb hb=>(w b hb).2.2.elim λo e=>m.l b o e.1
theorem Own.rel{h₀:Heap}{own:List Addr}(R:Rel cx φ σ h)(w:Own cx φ σ h₀ h own)(hb:∀b o,cx.h0.get? b=some o→h₀.get? b=some o)(m:s9 own h h'):Rel cx φ σ h':=R.Qg w.tJ (λb hb=>(w b hb).2.1) (w.low hb) m
theorem lW.forget{X:Addr→Prop}{φ₀:Ph}{σ₀:Hp}{h₀:Heap}{own:List Addr}(y:lW cx X φ₀ σ₀ h₀ φ σ h)(hn:∀a∈own,h₀.get? a=none){σ':Hp}(m:lW cx (BH own) φ σ h φ' σ' h'):lW cx X φ₀ σ₀ h₀ φ' σ' h':=
 ⟨λr e=>⟨(m.tc r (y.tc r e).1).1,((m.tc r (y.tc r e).1).2).trans (y.tc r e).2⟩,λb o e n hx=>m.keep b o (y.keep b o e n hx) (y.fp e n) λq=>ir e (hn b q),
  λr e e'=>(aK (σ r=none)).elim (λhs=>⟨y.back (m.fresh r hs e').1,y.back (m.fresh r hs e').2⟩) λhs=>(m.tc r hs).2▸y.fresh r e hs,λb o e=>(y.live b o e).elim λo' g=>m.live b o' g⟩
theorem lW.CF{X:Addr→Prop}{φ₀:Ph}{σ₀:Hp}{h₀:Heap}{own:List Addr}(y:lW cx X φ₀ σ₀ h₀ φ σ h)(hn:∀a∈own,h₀.get? a=none)(m:s9 own h h'):lW cx X φ₀ σ₀ h₀ φ σ h':=
 ⟨y.tc,λb o e n hx=>m b o (λq=>ir e (hn b q)) (y.keep b o e n hx),y.fresh,λb o e=>(y.live b o e).elim λo' g=>⟨o',m b o' (λq=>ir e (hn b q)) g⟩⟩
theorem Own.keep{h₀:Heap}{own:List Addr}{σ':Hp}{X:Addr→Prop}(w:Own cx φ σ h₀ h own)(x:lW cx X φ σ h φ' σ' h')(hX:∀a∈own,¬X a):Own cx φ' σ' h₀ h' own:=λa ha=>
 have e:=w a ha;e.2.2.elim λo g=>⟨e.1,x.fp g.1 e.2.1,o,x.keep a o g.1 e.2.1 (hX a ha),g.2⟩
theorem oa.keep{src:Src}{i:Nat}{it:Addr}{own:List Addr}(t:oa φ h src i it own)(hk:∀a∈own,∀o,h.get? a=some o→h'.get? a=some o)(hd:∀r,σ r≠none→φ' r=φ r)(ok:qA σ src):oa φ' h' src i it own:=by
 have ph:∀{r o},σ r=some o→(φ' r).1=(φ r).1:=λe=>congrArg (·.1) (hd _ (kq e))
 cases src with
 |list r=>exact aI ok λl hl=>t.2.elim λo g=>⟨t.1,o,hk it (by rw[t.1];exact .head _) o g.1,by rw[ph hl];exact g.2⟩
 |IM n=>exact⟨t.1,t.2.1,hk it (by rw[t.1];exact .head _) _ t.2.2⟩
 |Mf r=>exact aI ok λl hl=>aI t λlit t=>t.elim λold t=>t.2.l.elim λo g=>⟨lit,old,t.1,t.2.ne,hk it (by rw[t.1];exact .head _) _ t.2.e,o,hk lit (by rw[t.1];exact .tail _ (.head _)) o g.1,by rw[ph hl];exact g.2⟩
 |keys r l ob=>exact t.2.elim λes g=>g.elim λep g=>g.2.elim λo q=>⟨t.1,es,ep,g.1,o,hk it (by rw[t.1];exact .head _) o q.1,by rw[ph ok];exact q.2⟩
 |vals r l ob=>exact t.2.elim λes g=>g.elim λep g=>g.2.elim λo q=>⟨t.1,es,ep,g.1,o,hk it (by rw[t.1];exact .head _) o q.1,by rw[ph ok];exact q.2⟩
 |nothing r ob=>exact t.2.elim λes g=>g.elim λep g=>g.elim λk1 g=>g.elim λk2 g=>⟨t.1,es,ep,k1,k2,g.1,by rw[ph ok];exact hk it (by rw[t.1];exact .head _) _ g.2⟩
theorem uZ{prog:Program}{w:World}{E:Value→Shared→Prop}{t:Expr}{it:Addr}{v:Value}{o:Obj}{n:String}{Q:Unit→Shared→Prop}(ho:s.heap.get? it=some o)(hc:o.cls=.type n)
  (hn:["enumerate","zip","dict_itemiterator","dict_reverseitemiterator","odict_iterator","itertools.zip_longest","itertools.pairwise"].contains n=false)(h:Q () s):aB (model prog w) A (letOwnedTupleGo t (.ref it) v) Q E s:=by
 have key:∀a:Addr,aB (model prog w) A (do
   let o ←load it
   match o.cls,o.data with
   |.type n,.fields vs=>
    if ["enumerate","zip","dict_itemiterator","dict_reverseitemiterator","odict_iterator","itertools.zip_longest","itertools.pairwise"].contains n&&vs[0]?==some (rawInt a)then
     rule "for.unpacks-the-owned-tuple"
     updateField it 0 .none
   |_,_=>pure ():Sem Unit) Q E s:=λa=>by
  refine af (wpAny_load ho ?_)
  rw[hc]
  cases o.data with
  |fields vs=>
   dsimp only
   rw[hn,Bool.false_and]
   exact aq h
  |_=>exact aq h
 unfold letOwnedTupleGo
 cases t with
 |Tuple=>cases v<;>first |exact aq h |exact key _
 |List=>cases v<;>first |exact aq h |exact key _
 |_=>exact aq h
def Rk(t:Expr)(src:Src):Prop:=src.casesOn (λZ=>True) (λZ=>True) (λZ=>xZ t (λZ=>true)=true) (λZ Z Z=>True) (λZ Z Z=>True) λZ Z=>True
structure T3(cx:Cx)(φ:Ph)(σ:Hp)(h:Heap)(r:I)(l:List (Str×V))(ep:Nat)(kvs:List (Str×Value)):Prop where
 D:h.DictAt (strKind cx.prog cx.w) (φ r).1 kvs ep
 d:nh h φ σ l kvs
 n:kvs.length=l.length
theorem sh{l:List (Str×V)}{kvs:List (Str×Value)}(d:nh h φ σ l kvs):kvs.length=l.length:=by rw[←ai (as:=kvs) (·.1),d.1,ai]
theorem sH{l:List (Str×V)}{ob:Obj}{r:I}(R:Rel cx φ σ h)(hs:σ r=some (.nD l ob)){es:Array DictEntry}{ep:Nat}(ho:ob.data=.dict es ep):∃kvs,T3 cx φ σ h r l ep kvs:=
 have q:=R.objs r _ hs
 q.2.2.1.elim λkvs w=>w.1.elim λo g=>g.elim λes' g=>g.elim λW0 g=>by
  cases Option.some.inj (g.1.symm.trans q.2.2.2)
  cases ho.symm.trans g.2.2.1
  exact⟨kvs,⟨_,es,g.1,g.2.1,ho,g.2.2.2⟩,w.2.1,sh w.2.1⟩
theorem EH{α:Type}{l:List α}{i:Nat}(e:l[i]?=none):l.length≤i:=List.getElem?_eq_none_iff.mp e
theorem map_none{α β:Type}{f:α→β}{l:List α}{i:Nat}(e:(l[i]?).map f=none):l.length≤i:=EH (Option.map_eq_none_iff.mp e)
theorem DU{vs:List Value}{l:List V}{i:Nat}(r:gh h φ σ l vs)(h:l.length≤i):vs.toArray[i]?=none:=by rw[bu];exact List.getElem?_eq_none_iff.mpr (r.length▸h)
theorem zH{r:I}{l:List V}{f:List V→Option V}(hl:σ r=some (.list l)):G7 (σ r) none f=f l:=by rw[hl];rfl
theorem Er{src:Src}{i:Nat}{it:Addr}{own:List Addr}{Q':Option Value→Shared→Prop}(hh:A.handled=none)(S:kO cx φ σ s)(ok:qA σ src)(t:oa φ s.heap src i it own)(hn:pY σ src i=none)
  (k:∀h',s9 own s.heap h'→Q' none {s with heap:=h'}):aB (model cx.prog cx.w) A (pyNext (.ref it)) Q' kX s:=by
 have me:∀{x:Addr} {own:List Addr},own=[x]→x∈own:=λe=>e▸.head _
 cases src with
 |list r=>exact aI ok λl hl=>(S.rel.objs r _ hl).2.elim λvs g=>g.elim λn g=>wpAny_pyNext_list_end hh t.2 ⟨_,g.1,rfl,n,rfl⟩ (DU g.2.1 (EH ((zH hl).symm.trans hn))) λh' e=>k h' (.but (me t.1) e)
 |IM n=>exact wpAny_pyNext_range_end hh t.2.2 (Int.sub_nonpos_of_le (Int.ofNat_le.mpr (b7 λq=>nn (hn.symm.trans (if_pos q))))) λh' e=>k h' (.but (me t.1) e)
 |Mf r=>exact aI ok λl hl=>(S.rel.objs r _ hl).2.elim λvs g=>g.elim λn g=>aI t λlit t=>t.elim λold t=>wpAny_pyNext_enum_end hh t.2.e t.2.l ⟨_,g.1,rfl,n,rfl⟩ (DU g.2.1 (map_none ((zH hl).symm.trans hn))) λh' e=>k h' (.but (t.1▸.tail _ (.head _)) e)
 |keys r l ob=>exact t.2.elim λes g=>g.elim λep g=>(sH S.rel ok g.1).elim λkvs w=>wpAny_pyNext_dict_end hh (w.n.symm▸g.2) w.D (List.getElem?_eq_none_iff.mpr (w.n▸map_none hn)) λh' e=>k h' (.but (me t.1) e)
 |vals r l ob=>exact t.2.elim λes g=>g.elim λep g=>(sH S.rel ok g.1).elim λkvs w=>wpAny_pyNext_values_end hh (w.n.symm▸g.2) w.D (List.getElem?_eq_none_iff.mpr (w.n▸map_none hn)) λh' e=>k h' (.but (me t.1) e)
 |nothing r ob=>exact t.2.elim λes g=>g.elim λep g=>g.elim λk1 g=>g.elim λk2 g=>(sH S.rel ok g.1).elim λkvs w=>wpAny_pyNext_items_end hh (show IsItemIter s.heap it (φ r).1 i kvs.length ep k1 k2 from w.n.symm▸g.2) w.D (List.getElem?_eq_none_iff.mpr (w.n▸aw _)) λh' e=>k h' (.but (me t.1) e)
theorem CA{α β:Type}{f:α→β}{l:List α}{i:Nat}{x:α}(e:l[i]?=some x):(l.map f)[i]?=some (f x):=(aQ ..).trans (congrArg (bh f) e)
theorem n1(n i:Nat):(n:Int) - i - 1=(n:Int) - ((i+1:Nat):Int):=Int.sub_sub (n:Int) i 1
def SO(cx:Cx)(A:Around)(it:Addr)(tgt:Expr)(K:Value→Shared→Prop)(s:Shared):Prop:=
 aB (model cx.prog cx.w) A (pyNext (.ref it)) (λr s₁=>match r with |none=>False |some z=>aB (model cx.prog cx.w) A (letOwnedTupleGo tgt (.ref it) z) (λZ s₂=>K z s₂) kX s₁) kX s
theorem Jr{src:Src}{i:Nat}{it:Addr}{own:List Addr}{v:V}{tgt:Expr}{K:Value→Shared→Prop}{h₀:Heap}(S:kO cx φ σ s)(ok:qA σ src)(t:oa φ s.heap src i it own)(hn:pY σ src i=some v)(ht:Rk tgt src)
  (w:Own cx φ σ h₀ s.heap own)(hb:∀b o,cx.h0.get? b=some o→h₀.get? b=some o)
  (k:∀h' t z,uz own s.heap h'→oa φ h' src (i+1) it own→gJ h' φ σ v z→K z {s with heap:=h',toks:=t}):
  SO cx A it tgt K s:=by
 have tr:∀{h':Heap},uz own s.heap h'→∀{u:V} {y:Value},gJ s.heap φ σ u y→gJ h' φ σ u y:=λm Z Z r=>r.MO S.rel w.tJ (Own.soft S.rel w hb m).1
 have me:∀{x:Addr} {own:List Addr},own=[x]→x∈own:=λe=>e▸.head _
 cases src with
 |list r=>
  exact aI ok λl hl=>(S.rel.objs r _ hl).2.elim λvs g=>g.elim λn g=>(g.2.1.get ((zH hl).symm.trans hn)).elim λz e=>
   wpAny_pyNext_list_item (x:=z) t.2 ⟨_,g.1,rfl,n,rfl⟩ ((bu ..).trans e.1) λh' Cj hs=>Cj.elim λo q=>
    have m:uz own s.heap h':=.of (me t.1) hs ⟨o,q.1⟩
    uZ (s:={s with heap:=h'}) q.1 q.2.1 rfl (k h' _ z m ⟨t.1,Cj⟩ (tr m e.2))
 |IM n=>
  have hi:i<n:=Nat.lt_of_not_le λq=>nn ((if_neg (Nat.not_lt.mpr q)).symm.trans hn)
  have hv:V.int i=v:=Option.some.inj ((if_pos hi).symm.trans hn)
  exact wpAny_pyNext_range_item t.2.2 (Int.sub_pos_of_lt (Int.ofNat_lt.mpr hi)) λh' Cj hs=>
   have m:uz own s.heap h':=.of (me t.1) hs ⟨_,Cj⟩
   uZ (s:={s with heap:=h',toks:=s.toks+1}) Cj rfl rfl (k h' _ _ m ⟨t.1,hi,n1 n i▸Cj⟩ (hv▸.int _ _))
 |Mf r=>
  exact aI ok λl hl=>(S.rel.objs r _ hl).2.elim λvs g=>g.elim λn g=>aI t λlit t=>t.elim λold t=>(Option.map_eq_some_iff.mp ((zH hl).symm.trans hn)).elim λu hu=>(g.2.1.get hu.1).elim λz e=>by
   refine wpAny_pyNext_enum_item t.2.e t.2.l (x:=z) ⟨_,g.1,rfl,n,rfl⟩ ((bu ..).trans e.1) t.2.ne λh' he' Cj WY hz hk=>?_
   cases tgt with
   |Tuple elts x1 p=>
    exact wpAny_letOwnedTupleGo_enum (s:={s with heap:=h',toks:=s.toks+1}) he' λP1 VP (hs:Heap.SameBut it h' P1)=>Cj.elim λo q=>
     have Vx:P1.get? lit=some o:=(hs.2 lit (Ne.symm t.2.ne)).trans q.1
     have WN:it∈own:=t.1▸.head _
     have XH:lit∈own:=t.1▸.tail _ (.head _)
     have m:uz own s.heap P1:=⟨λb o nn e=>(hs.2 b λq=>nn (q▸WN)).trans (hk b o (λq=>nn (q▸WN)) (λq=>nn (q▸XH)) e),
      λb o e=>(aK (b=it)).elim (λq=>q▸⟨_,VP⟩) λa=>(aK (b=lit)).elim (λq=>q▸⟨_,Vx⟩) λc=>⟨o,(hs.2 b a).trans (hk b o a c e)⟩⟩
     k P1 _ _ m ⟨lit,z,t.1,t.2.ne,VP,o,Vx,q.2⟩ (hu.2▸.tup _ _ [.int i s.toks,z] ((hs.2 _ (Ne.symm (av (a0 t.2.e)))).trans WY) (.cons (.int _ _) (.cons (tr m e.2) .nil)))
   |_=>exact bf ht
 |keys r l ob=>
  exact t.2.elim λes g=>g.elim λep g=>(sH S.rel ok g.1).elim λkvs q=>(Option.map_eq_some_iff.mp hn).elim λp hp=>
   have hi:i<kvs.length:=q.n▸(List.getElem?_eq_some_iff.mp hp.1).1
   have hx:kvs[i]?=some kvs[i]:=aG hi
   have Xp:kvs[i].1=p.1:=Option.some.inj ((CA (f:=(·.1)) hx).symm.trans ((congrArg (·[i]?) q.d.1).trans (CA hp.1)))
   wpAny_pyNext_dict_item (q.n.symm▸g.2) q.D hx λkey h' Ja Cj hs=>Cj.elim λo z=>
    have m:uz own s.heap h':=.of (me t.1) hs ⟨o,z.1⟩
    uZ (s:={s with heap:=h'}) z.1 z.2.1 rfl (k h' _ _ m ⟨t.1,es,ep,g.1,q.n▸Cj⟩ (hp.2▸Xp▸(cN Ja).elim λtk e=>e▸.str _ _))
 |vals r l ob=>
  exact t.2.elim λes g=>g.elim λep g=>(sH S.rel ok g.1).elim λkvs q=>(Option.map_eq_some_iff.mp hn).elim λp hp=>
   have hi:i<kvs.length:=q.n▸(List.getElem?_eq_some_iff.mp hp.1).1
   have hx:kvs[i]?=some kvs[i]:=aG hi
   (q.d.2.get (CA hp.1)).elim λz zz=>
   have hz:kvs[i].2=z:=Option.some.inj ((CA (f:=(·.2)) hx).symm.trans zz.1)
   wpAny_pyNext_values_item (q.n.symm▸g.2) q.D hx λh' Cj hs=>Cj.elim λo y=>
    have m:uz own s.heap h':=.of (me t.1) hs ⟨o,y.1⟩
    uZ (s:={s with heap:=h'}) y.1 y.2.1 rfl (k h' _ _ m ⟨t.1,es,ep,g.1,q.n▸Cj⟩ (hp.2▸tr m (hz▸zz.2)))
 |nothing r ob=>exact nn hn
end
end
end
mutual
section
open PySem.SeqAt
section
variable{cx:Cx}{d:Nat}{γ:Nm→Option I}{ρ:Loc}{σ:Hp}{φ:Ph}{h:Heap}{s:Shared}{A:Around}{Q:V→Hp→Prop}{sc:Scope}{env:Env}
theorem xb{ms:List ME}{P Q:List V→Hp→Prop}(h:AN cx d ms γ ρ σ P)(hq:∀v σ',P v σ'→Q v σ'):AN cx d ms γ ρ σ Q:=
 λsc es c A env φ s p F Q' k=>h sc es c A env φ s p F Q' λφ' σ' s' v y g vr q=>k φ' σ' s' v y g vr (hq v σ' q)
theorem jv{m:ME}{P Q:V→Hp→Prop}(h:WE cx d m γ ρ σ P)(hq:∀v σ',P v σ'→Q v σ'):WE cx d m γ ρ σ Q:=
 λsc e c A env φ s F Q' k=>h sc e c A env φ s F Q' λφ' σ' s' v y g vr q=>k φ' σ' s' v y g vr (hq v σ' q)
theorem I2{m:ME}{P Q:Bool→Hp→Prop}(h:WT cx d m γ ρ σ P)(hq:∀v σ',P v σ'→Q v σ'):WT cx d m γ ρ σ Q:=
 λsc e c A env φ s F Q' k=>h sc e c A env φ s F Q' λφ' σ' s' v g q=>k φ' σ' s' v g (hq v σ' q)
theorem yZ{m:List MS}{P Q:Fl→Hp→Loc→Prop}(h:WS cx d m γ ρ σ P)(hq:∀f σ' ρ',P f σ' ρ'→Q f σ' ρ'):WS cx d m γ ρ σ Q:=
 λsc e c A env φ s F Q' k=>h sc e c A env φ s F Q' λφ' σ' s' ρ' fl fv g fr q=>k φ' σ' s' ρ' fl fv g fr (hq _ _ _ q)
theorem yJ(O:gT cx){n:Str}{p:Pos}{v:Value}{Q' E':Value→Shared→Prop}(q:ri cx.K sc n v=true)(F:Fm cx d γ ρ σ sc A env φ s)(h:Q' v s):
  aB (model cx.prog cx.w) A (eval (.Name n p) env) Q' E' s:=
 have q1:=f7 q;have q2:=f7 q1.1;have q3:=f7 q2.1;have q4:=f7 q3.1
 Name_function_global F.fn ((F.kindOf n).trans (beq_iff_eq.mp q4.1))
  (loadGlobal_builtin (F.E.glob.symm▸O.g.keeps F.S.rel.base) (mg_none_of O.X O.g (beq_iff_eq.mp q4.2)) (F.E.bi.symm▸O.b.keeps F.S.rel.base) ((O.bb n (beq_eq_false_iff_ne.mp (oK q2.2))).trans (beq_iff_eq.mp q3.2)) h) (oK q1.2)
theorem Bi.MY(b:Bi){M:Model}(h:Heap):∃k,(k=dM∨k=dy∨k=cV)∧Looks M h (keeperOf b.val) k:=⟨.machine,.inr (.inl rfl),Looks.of_pure (by cases b<;>rfl)⟩
theorem xp(O:gT cx){b:Bi}{as:List ME}{args:List Expr}{p p1:Pos}{G:List V→Hp→Prop}{Q':Value→Shared→Prop}(hb:ri cx.K sc b.name b.val=true)(ca:iZ cx.K sc args as)(F:Fm cx d γ ρ σ sc A env φ s)
  (h:AN cx d as γ ρ σ G)(hc:Uy cx φ σ s G λys s'=>aB (model cx.prog cx.w) A (call b.val ys []) Q' kX s'):
  aB (model cx.prog cx.w) A (eval (.Call (.Name b.name p1) args [] p) env) Q' kX s:=
 cC (yJ O hb F (tE (P:=λZ=>True) (G:=λvs us σ'=>G vs σ') (ks:=[]) ca rfl F (first:=[]) (fi:=[]) .nil (λh Z=>b.MY h) (λZ Z Z Z Z Z Z=>trivial) (xb h λvs σ' g=>jE g) λφ' σ' s' vs us ys zs g vr ur q=>hc φ' σ' s' vs ys g vr q))
inductive R6(Q:V→Hp→Prop)(vs:List V)(σ:Hp):Prop
 |mk (v:V):vs=[v]→Q v σ→R6 Q vs σ
theorem wN{m:ME}{Q:V→Hp→Prop}(h:WE cx d m γ ρ σ Q):AN cx d [m] γ ρ σ (R6 Q):=fX (jv h λv σ' q=>fZ ⟨v,rfl,q⟩)
def YX(cx:Cx)(d:Nat)(f:Value)(G Q:V→Hp→Prop):Prop:=
 ∀(A:Around) φ σ s v y (Q':Value→Shared→Prop),nU A d→kO cx φ σ s→gJ s.heap φ σ v y→G v σ→KE cx φ σ s Q Q'→aB (model cx.prog cx.w) A (call f [y] []) Q' kX s
theorem qS(O:gT cx){b:Bi}{m:ME}{G:V→Hp→Prop}(h:WE cx d m γ ρ σ G)(hc:YX cx d b.val G Q):WE cx d (.bi b [m]) γ ρ σ Q:=λsc ex c A env φ s F Q' k=>c.bi λp1 args p hb ca=>
 xp O hb ca F (wN h) λφ' σ' s' vs ys g vr q=>q.casesOn λv e q=>(gh.un (e▸vr)).elim λy w=>w.elim λz w=>by
  rw[w.1,show z=[]from w.2.2];exact hc A φ' σ' s' v y Q' F.hA g.S w.2.1 q (k.go g)
def AV(i:Int):Str:=aa (toString i)
inductive Qw(Q:V→Hp→Prop)(v:V)(σ:Hp):Prop
 |mk (i:Int):v=.int i→i.natAbs≤1000→Q (.str (AV i)) σ→Qw Q v σ
theorem JB{n:Nat}(h:n≤1000):n.log2<10:=by
 by_cases hz:n=0
 ·rw[hz];decide
 ·exact(Nat.log2_lt hz).mpr (ao h (by decide))
theorem zo(O:gT cx){m:ME}(h:WE cx d m γ ρ σ (Qw Q)):WE cx d (.bi .pd [m]) γ ρ σ Q:=
 qS O h λA φ σ s v y Q' hA S vr q k=>q.casesOn λi e hi q=>(vr.i e).elim λt w=>w▸PySem.P.str_of_int (ae (JB hi) (by decide)) (k _ _ _ _ _ (.tok S _) (.str _ _) q)
inductive Rq(Q:V→Hp→Prop)(v:V)(σ:Hp):Prop
 |mk (i:Int):v=.str (AV i)→0≤i→i≤1000→Q (.int i) σ→Rq Q v σ
theorem G3(O:gT cx){m:ME}(h:WE cx d m γ ρ σ (Rq Q)):WE cx d (.bi .K3 [m]) γ ρ σ Q:=
 qS O h λA φ σ s v y Q' hA S vr q k=>q.casesOn λi e h0 hi q=>(vr.s e).elim λt w=>w▸PySem.W.KIN.call_num h0 (by omega) (k _ _ _ _ _ (.tok S _) (.int _ _) q)
inductive UK(Q:V→Hp→Prop)(v:V)(σ:Hp):Prop
 |mk (i:Int):v=.int i→Q (.int (i.natAbs:Int)) σ→UK Q v σ
theorem abs_eq(i:Int):(if i<0 then -i else i)=(i.natAbs:Int):=by
 by_cases h:i<0
 ·exact(if_pos h).trans (Int.ofNat_natAbs_of_nonpos (Int.le_of_lt h)).symm
 ·exact(if_neg h).trans (Int.natAbs_of_nonneg (Int.not_lt.mp h)).symm
theorem Cc(O:gT cx){m:ME}(h:WE cx d m γ ρ σ (UK Q)):WE cx d (.bi .x4 [m]) γ ρ σ Q:=
 qS O h λA φ σ s v y Q' hA S vr q k=>q.casesOn λi e q=>(vr.i e).elim λt w=>w▸PyProof.Rows.call_abs_int λu tk=>abs_eq i▸k _ _ _ _ _ (.tok S _) (.int _ _) q
inductive TR(Q:V→Hp→Prop)(v:V)(σ:Hp):Prop
 |s (x:Str):v=.str x→x.length≤100000→Q (.int x.length) σ→TR Q v σ
 |l (r:I) (l:List V):v=.ref r→HQ σ r l→Q (.int l.length) σ→TR Q v σ
theorem pR(O:gT cx){m:ME}(h:WE cx d m γ ρ σ (TR Q)):WE cx d (.bi .oM [m]) γ ρ σ Q:=
 qS O h λA φ σ s v y Q' hA S vr q k=>q.casesOn
  (λx e hx q=>(vr.s e).elim λt w=>w▸PyProof.Rows.len_str (Int.not_le.mpr (Fq hx)) (k _ _ _ _ _ (.tok S _) (.int _ _) q))
  λr l e hr q=>vr.at e▸(Dx S.rel hr).elim λvs w=>by
   have hn:=gh.length w.2.1
   refine Calls.call_len_list w.1 (by rw[aC,←hn];exact Fq w.2.2) ?_
   rw[aC,←hn]
   exact k _ _ _ _ _ (.tok S _) (.int _ _) q
inductive QLL(Q:V→Hp→Prop)(v:V)(σ:Hp):Prop
 |mk (r:I) (l:List V) (z:I):v=.ref r→σ r=some (.list l)→σ z=none→Q (.ref z) (up σ z (some (.list l)))→QLL Q v σ
theorem qu(O:gT cx){m:ME}(h:WE cx d m γ ρ σ (QLL Q)):WE cx d (.bi .nQ [m]) γ ρ σ Q:=
 qS O h λA φ σ s v y Q' hA S vr q k=>q.casesOn λr l z e hr hz q=>vr.at e▸(S.rel.objs _ _ hr).2.elim λvs w=>w.elim λn w=>
  call_list_seq _ (.inl rfl) w.1 rfl rfl (λh' c' hk Cp=>have w':=rA S hz (end_none _) hk Cp w.2.1 w.2.2 s.toks;k _ _ _ _ _ w'.g w'.v q) (by rw[aC,←gh.length w.2.1];exact nT w.2.2)
def intsFrom(f:Nat→Int)(a n:Nat):List V:=(List.range' a n).map λj=>V.int (f j)
theorem gh.ints{h:Heap}(f:Nat→Int):∀(vs:List Value) (a:Nat),(∀(j:Nat) (v:Value),vs[j]?=some v→∃t,v=.int (f (a+j)) t)→gh h φ σ (intsFrom f a vs.length) vs
 |[],a,q=>rfl
 |v::vs,a,q=>(q 0 v rfl).elim λt e=>.cons (e▸.int _ _) (gh.ints f vs (a+1) λj u g=>(q (j+1) u g).elim λt e=>⟨t,e.trans (by rw[dB];rfl)⟩)
theorem GH(O:gT cx){b:Bi}{e:Expr}{p p1:Pos}{Q':Value→Shared→Prop}(hb:ri cx.K sc b.name b.val=true)(ns:notStar e=true)(F:Fm cx d γ ρ σ sc A env φ s)
  (h:aB (model cx.prog cx.w) A (eval e env) (λy s'=>aB (model cx.prog cx.w) A (call b.val [y] []) Q' kX s') kX s):
  aB (model cx.prog cx.w) A (eval (.Call (.Name b.name p1) [e] [] p) env) Q' kX s:=by
 refine cC (yJ O hb F (callWith_of (P:=λZ=>True) (by rw[jC ns];rfl) (λh Z=>b.MY h) ?_))
 have main:aB (model cx.prog cx.w) A (spliced (backTo p (starEach [e] env))) (λvs s₁=>aB (model cx.prog cx.w) A (evalAll ((backToKw p (keywordEach [] env)).map (·.2))) (λks s₂=>True∧aB (model cx.prog cx.w) A (call b.val ([]++vs) (((backToKw p (keywordEach [] env)).filterMap (·.1)).zip ks)) Q' kX s₂) kX s₁) kX s:=
  d4 (aZ h (λy s' h'=>Calls.spliced_nil (aq ⟨trivial,h'⟩)) λZ Z x=>x) (jC ns _ _)
 rw[jC ns]at main ⊢
 exact evalArgs_kw rfl main
inductive Po(G:Nat→Hp→Prop)(v:V)(σ:Hp):Prop
 |mk (n:Nat):v=.int n→n≤1000→G n σ→Po G v σ
theorem zi(O:gT cx){m:ME}{args:List Expr}{p p1:Pos}{G:Nat→Hp→Prop}{Q':Value→Shared→Prop}(hb:ri cx.K sc Bi.km.name Bi.km.val=true)(ca:iZ cx.K sc args [m])(F:Fm cx d γ ρ σ sc A env φ s)
  (h:WE cx d m γ ρ σ (Po G))(k:∀φ' σ' s' (n:Nat) a t u v,Go cx φ σ s φ' σ' s'→IsRange s'.heap a 0 (n:Int) 1 t u v→n≤1000→G n σ'→Q' (.ref a) s'):
  aB (model cx.prog cx.w) A (eval (.Call (.Name Bi.km.name p1) args [] p) env) Q' kX s:=
 xp O hb ca F (wN h) λφ' σ' s' vs ys g vr q=>q.casesOn λv e q=>q.casesOn λn e2 hn q=>(gh.un (e▸vr)).elim λy w=>w.elim λz w=>by
  rw[w.1,show z=[]from w.2.2]
  exact(w.2.1.i e2).elim λt e=>e▸call_range_1 (k φ' σ' _ n _ _ _ _ (g.trans ((Go.push g.S _).toks _)) (aF _ rfl) hn q)
theorem rC(n:Nat)(hn:n≤1000):fu 0 (n:Int) 1=true∧dq 0 (n:Int) 1=n:=by
 have h1:dq 0 (n:Int) 1=n:=by
  unfold dq
  simp
  try omega
 refine⟨?_,h1⟩
 unfold fu Builtin.Range.rangeFitsLong
 rw[h1]
 simp
 omega
def zU(n:Nat):List V:=(az n).map λj:Nat=>V.int (j:Int)
inductive ZW(Q:V→Hp→Prop)(n:Nat)(σ:Hp):Prop
 |mk (z:I):σ z=none→Q (.ref z) (up σ z (some (.list (zU n))))→ZW Q n σ
theorem FL(n:Nat):intsFrom (λj=>(j:Int)) 0 n=zU n:=by unfold intsFrom zU;rw[List.range_eq_range']
theorem AX(O:gT cx){m:ME}(h:WE cx d m γ ρ σ (Po (ZW Q))):WE cx d (.bi .nQ [.bi .km [m]]) γ ρ σ Q:=λsc ex c A env φ s F Q' k=>c.bi λp1 args p hb ca=>ca.cons λe r ns ce cs=>cs.nil (ce.bi λp2 args p Yd YA=>
 GH O hb rfl F (zi O Yd YA F h λφ' σ' s' n a t u v g hr hn q=>q.casesOn λz hz q=>
  call_list_range (n:=n) F.hA.hd hr (rC n hn).1 (rC n hn).2 (ab hn (by decide+kernel)) λh' tk vh c' hk Cp w=>by
   have vr:gh s'.heap φ' σ' (zU n) vh.toList:=by
    rw[←FL,←show vh.toList.length=n by simpa using w.1]
    exact gh.ints _ _ 0 λj v e=>(w.2 j v (by simpa using e)).elim λt ht=>⟨t,by rw[ht,Int.zero_add,Int.mul_one,c5]⟩
   have w':=rA g.S hz (end_none _) hk (n:=c') Cp vr (ab (by unfold zU;rw[ai,aD];exact hn) (by decide)) tk
   exact k _ _ _ _ _ (g.trans w'.g) w'.v q))
end
end
end
mutual
section
open PySem.SeqAt
section
variable{cx:Cx}{d:Nat}{γ:Nm→Option I}{ρ:Loc}{σ:Hp}{φ φ':Ph}{h h':Heap}{s:Shared}{A:Around}
def KI(cx:Cx)(φ:Ph)(σ:Hp)(s:Shared)(Q:Src→Hp→Prop)(Q':Value→Shared→Prop):Prop:=
 ∀φ' σ' s' src it own,Go cx φ σ s φ' σ' s'→oa φ' s'.heap src 0 it own→Own cx φ' σ' s.heap s'.heap own→qA σ' src→Q src σ'→Q' (.ref it) s'
def WI(cx:Cx)(d:Nat)(m:ME)(γ:Nm→Option I)(ρ:Loc)(σ:Hp)(Q:Src→Hp→Prop):Prop:=
 ∀sc ex,gz cx.K sc ex m→∀A env φ s,Fm cx d γ ρ σ sc A env φ s→∀Q',KI cx φ σ s Q Q'→aB (model cx.prog cx.w) A (eval ex env) (λx s₁=>aB (model cx.prog cx.w) A (pyIter x) Q' kX s₁) kX s
theorem Qb{o:Obj}{n:String}(h:o.cls=.type n)(hn:(n=="tuple")=false):∀vs,o≠jI vs:=λvs e=>by
 have h':b9 "tuple"=b9 n:=(congrArg (·.cls) e).symm.trans h
 injection h' with h'
 exact bf (hn.symm.trans (h'▸rfl))
def W3(fs:Array Value):Bool:=(fs[1]?).all λv=>match v with |.str ..=>false |_=>true
theorem T9{fs:Array Value}(h:W3 fs=true){dt:Data}(e:dt=.fields fs)(vs:Array Value)(x:Str)(t:Tok)(e':dt=.fields vs):vs[1]?≠some (.str x t):=λq=>by
 rw[e]at e';injection e' with e'
 unfold W3 at h;rw[e',q]at h;exact bf h
def zp(h:Heap)(a:Addr):Prop:=∃o,h.get? a=some o∧(∀vs,o≠jI vs)∧∀(vs:Array Value) x t,o.data=.fields vs→vs[1]?≠some (.str x t)
theorem zp.mk{a:Addr}{o:Obj}{n:String}{fs:Array Value}(g:h.get? a=some o)(hc:o.cls=.type n)(hd:o.data=.fields fs)(hn:(n=="tuple")=false)(hf:W3 fs=true):zp h a:=⟨o,g,Qb hc hn,T9 hf hd⟩
theorem Ss{h₀:Heap}{φ₀:Ph}{σ₀:Hp}{X:Addr→Prop}(y:lW cx X φ₀ σ₀ h₀ φ σ h)(R:Rel cx φ σ h){n:String}{fs:Array Value}(hn:(n=="tuple")=false)(hf:W3 fs=true):Own cx φ σ h₀ (h.push {cls:=.type n,data:=.fields fs}) [h.objs.size]:=λa ha=>
 ag.mp ha▸⟨y.back (end_none h),R.kg (end_none h),zp.mk (aF _ rfl) rfl rfl hn hf⟩
inductive XM(f:I→Src)(Q:Src→Hp→Prop)(v:V)(σ:Hp):Prop
 |mk (r:I) (l:List V):v=.ref r→σ r=some (.list l)→Q (f r) σ→XM f Q v σ
theorem yS{m:ME}{Q:Src→Hp→Prop}(h:WE cx d m γ ρ σ (XM .list Q)):WI cx d m γ ρ σ Q:=λsc ex c A env φ s F Q' k=>
 h _ _ c A env φ s F _ λφ' σ' s' v y g vr q=>q.casesOn λr l e1 e2 q=>vr.at e1▸(g.S.rel.objs _ _ e2).2.elim λvs w=>w.elim λn w=>
  wpAny_pyIter_list ⟨_,w.1,rfl,n,rfl⟩ (k φ' σ' _ (.list r) _ [s'.heap.objs.size] (g.trans (.push g.S _)) ⟨rfl,_,aF _ rfl,rfl,rfl⟩ (Ss g.x g.S.rel rfl rfl) ⟨l,e2⟩ q)
def QRn(Q:Src→Hp→Prop)(n:Nat):Hp→Prop:=Q (.IM n)
theorem EB(O:gT cx){m:ME}{Q:Src→Hp→Prop}(h:WE cx d m γ ρ σ (Po (QRn Q))):WI cx d (.bi .km [m]) γ ρ σ Q:=λsc ex c A env φ s F Q' k=>c.bi λp1 args p hb ca=>
 zi O hb ca F h λφ' σ' s' n a t u v g hr hn q=>wpAny_pyIter_range hr (rC n hn).1 (by
  rw[(rC n hn).2]
  exact k φ' σ' _ (.IM n) _ [s'.heap.objs.size] (g.trans (.push g.S _)) ⟨rfl,aw _,by rw[Int.ofNat_zero,Int.sub_zero];exact aF _ rfl⟩ (Ss g.x g.S.rel rfl rfl) trivial q)
theorem PF(O:gT cx){m:ME}{Q:Src→Hp→Prop}(h:WE cx d m γ ρ σ (XM .Mf Q)):WI cx d (.bi .ry [m]) γ ρ σ Q:=λsc ex c A env φ s F Q' k=>c.bi λp1 args p hb ca=>
 xp O hb ca F (wN h) λφ' σ' s' vs ys g vr q=>q.casesOn λv e q=>q.casesOn λr l e1 e2 q=>(gh.un (e▸vr)).elim λy w=>w.elim λz w=>by
  rw[w.1,show z=[]from w.2.2,w.2.1.at e1]
  exact(g.S.rel.objs _ _ e2).2.elim λvs w=>w.elim λn w=>call_enumerate_1 w.1 λh' he hi hz hk=>
   wpAny_pyIter_enum he (k φ' σ' {s' with heap:=h'} (.Mf r) _ [s'.heap.objs.size+1,s'.heap.objs.size] (g.trans ⟨Ext.grow hk,g.S.rel.grow hk,g.S.gens,g.S.drawn,g.S.os⟩) ⟨_,_,rfl,Nat.succ_ne_self _,he,hi⟩
    (λa ha=>(List.mem_cons.mp ha).elim (λe=>e▸have n2:=bq (aT s'.heap.objs.size);⟨g.x.back n2,g.S.rel.kg n2,zp.mk he rfl rfl rfl rfl⟩)
     λha=>ag.mp ha▸⟨g.x.back (end_none _),g.S.rel.kg (end_none _),hi.elim λo w=>zp.mk w.1 w.2.1 w.2.2 rfl rfl⟩) ⟨l,e2⟩ q)
structure Frz(cx:Cx)(φ:Ph)(σ:Hp)(s:Shared)(r:I)(l:List (Str×V))(ob:Obj)(es:Array DictEntry)(ep:Nat)(kvs:List (Str×Value)):Prop where
 d:ob.data=.dict es ep
 D:s.heap.DictAt (strKind cx.prog cx.w) (φ r).1 kvs ep
 n:kvs.length=l.length
 g:Go cx φ σ s φ (up σ r (some (.nD l ob))) s
theorem Fp(a b:Addr)(x:Addr)(q:Obj):x≠a→x≠b→h.get? x=some q→h.get? x=some q:=λZ Z e=>e
theorem nh.ext{X:Addr→Prop}{σ':Hp}{l:List (Str×V)}{kvs:List (Str×Value)}(R:Rel cx φ σ h)(x:Ext cx φ σ h φ' σ' h')(w:nh h φ σ l kvs):nh h' φ' σ' l kvs:=⟨w.1,gh.ext R x w.2⟩
theorem freeze(S:kO cx φ σ s){r:I}{l:List (Str×V)}(hr:σ r=some (.dict l)):∃ob es ep kvs,Frz cx φ σ s r l ob es ep kvs:=
 have q:=S.rel.objs r _ hr
 q.2.2.elim λkvs w=>w.1.elim λo x=>x.elim λes x=>x.elim λep x=>
  have key:=change (h':=s.heap) (o':=.nD l o) S.rel hr (Fp _ _) ⟨_,x.1⟩ (by rw[q.1];exact⟨_,x.1⟩) λY=>⟨q.1,q.2.1,⟨kvs,w.1,⟨w.2.1.1,gh.ext S.rel Y w.2.1.2⟩,w.2.2⟩,x.1⟩
  ⟨o,es,ep,kvs,x.2.2.1,⟨o,es,x.1,x.2.1,x.2.2.1,x.2.2.2⟩,sh w.2.1,key.1,key.2,S.gens,S.drawn,S.os⟩
theorem Vv(S:kO cx φ σ s){r:I}{l:List (Str×V)}{ob:Obj}(hr:σ r=some (.nD l ob)):Go cx φ σ s φ (up σ r (some (.dict l))) s:=
 have q:=S.rel.objs r _ hr
 have key:=change (h':=s.heap) (o':=.dict l) S.rel hr (Fp _ _) ⟨_,q.2.2.2⟩ (by rw[q.1];exact⟨_,q.2.2.2⟩) λY=>q.2.2.1.elim λkvs w=>⟨q.1,q.2.1,kvs,w.1,⟨w.2.1.1,gh.ext S.rel Y w.2.1.2⟩,w.2.2⟩
 ⟨key.1,key.2,S.gens,S.drawn,S.os⟩
theorem CH(S:kO cx φ σ s){src:Src}(ok:qA σ src):Go cx φ σ s φ (xK σ src) s:=by
 cases src with
 |list |IM |Mf=>exact .refl S
 |_=>exact Vv S ok
inductive YT(f:I→List (Str×V)→Obj→Src)(Q:Src→Hp→Prop)(v:V)(σ:Hp):Prop
 |mk (r:I) (l:List (Str×V)):v=.ref r→σ r=some (.dict l)→(∀ob,Q (f r l ob) (up σ r (some (.nD l ob))))→YT f Q v σ
theorem OV{m:ME}{Q:Src→Hp→Prop}(h:WE cx d m γ ρ σ (YT .keys Q)):WI cx d m γ ρ σ Q:=λsc ex c A env φ s F Q' k=>
 h _ _ c A env φ s F _ λφ' σ' s' v y g vr q=>q.casesOn λr l e1 e2 q=>vr.at e1▸(freeze g.S e2).elim λob w=>w.elim λes w=>w.elim λep w=>w.elim λkvs w=>by
  refine wpAny_pyIter_dict (g.S.rel.objs _ _ e2).2.1 w.D ?_
  rw[w.n]
  have g:=g.trans w.g
  exact k φ' _ _ (.keys r l ob) _ [s'.heap.objs.size] (g.trans (.push g.S _)) ⟨rfl,es,ep,w.d,_,aF _ rfl,rfl,rfl⟩ (Ss g.x g.S.rel rfl rfl) (fW _ _ _) (q ob)
structure Xi(T:String)(a:Str)(id:String):Prop where
 pa:PlainAttrs T
 sl:Slot T a id
 ty:typeOf (.builtin id)=pure (.type "method_descriptor")
structure SP(s:Shared)(y:Value)(T:String):Prop where
 t:s.TypeIs y T
 n:∀b,y=.ref b→∃ob,s.heap.get? b=some ob∧ob.dict=none
def IsList(σ:Hp)(v:V):Prop:=v.Uv False λr=>∃l,σ r=some (.list l)
def IsDict(σ:Hp)(v:V):Prop:=v.Uv False λr=>∃l,σ r=some (.dict l)
def Mg(σ:Hp)(v:V):Prop:=v.Uv False λr=>∃l,σ r=some (.set l)
def Rg(σ:Hp)(v:V):Prop:=v.Rz False λZ=>True
def GO(cx:Cx)(P:Hp→V→Prop)(T:String):Prop:=∀φ σ s v y,kO cx φ σ s→gJ s.heap φ σ v y→P σ v→SP s y T
theorem gJ.at'{r:I}{y:Value}(w:gJ h φ σ (.ref r) y):y=.ref (φ r).1:=w.2
theorem SP.ref{a:Addr}{o:Obj}{T:String}(t:s.TypeIs (.ref a) T)(g:s.heap.get? a=some o)(e:o.dict=none):SP s (.ref a) T:=⟨t,λb q=>⟨o,by injection q with q;exact q▸g,e⟩⟩
theorem ty_list:GO cx IsList "list":=λφ σ s v y S vr p=>by
 cases v with
 |ref r=>exact aI p λl e=>vr.at'▸(S.rel.objs _ _ e).2.elim λvs w=>w.elim λn w=>.ref ⟨_,w.1,rfl⟩ w.1 rfl
 |_=>exact aN p
theorem ty_dict:GO cx IsDict "dict":=λφ σ s v y S vr p=>by
 cases v with
 |ref r=>exact aI p λl e=>vr.at'▸(S.rel.objs _ _ e).2.2.elim λkvs w=>w.1.elim λo x=>x.elim λes x=>x.elim λep x=>.ref w.1.typeIs x.1 x.2.1.2.1
 |_=>exact aN p
theorem ty_set:GO cx Mg "set":=λφ σ s v y S vr p=>by
 cases v with
 |ref r=>exact aI p λl e=>vr.at'▸(S.rel.objs _ _ e).2.elim λS' w=>⟨w.1.typeIs,w.1.noDict⟩
 |_=>exact aN p
theorem ty_str:GO cx Rg "str":=λφ σ s v y S vr p=>by
 cases v with
 |str x=>exact(vr.s rfl).elim λt w=>w▸⟨typeIs_str _ _ _,λb e=>Value.noConfusion e⟩
 |_=>exact aN p
theorem EM{id:String}{M:Model}(h:Heap):∃k,(k=dM∨k=dy∨k=cV)∧Looks M h (keeperOf (.builtin id)) k:=⟨.machine,.inr (.inl rfl),Looks.of_pure rfl⟩
inductive Y0(cx:Cx)(d:Nat)(γ:Nm→Option I)(ρ:Loc)(P:Hp→V→Prop)(as:List ME)(G:V→List V→Hp→Prop)(v:V)(σ:Hp):Prop
 |mk:P σ v→AN cx d as γ ρ σ (G v)→Y0 cx d γ ρ P as G v σ
theorem AF{o:ME}{a:Nm}{as:List ME}{T id:String}{G:V→List V→Hp→Prop}{P:Hp→V→Prop}{sc:Scope}{ex:Expr}{env:Env}{Q':Value→Shared→Prop}(B:Xi T a.str id)(ty:GO cx P T)(h:WE cx d o γ ρ σ (Y0 cx d γ ρ P as G))
  (c:gz cx.K sc ex (.gn o a as []))(F:Fm cx d γ ρ σ sc A env φ s)(hc:∀φ' σ' s' v y vs ys,Go cx φ σ s φ' σ' s'→gJ s'.heap φ' σ' v y→gh s'.heap φ' σ' vs ys→G v vs σ'→aB (model cx.prog cx.w) A (call (.builtin id) (y::ys) []) Q' kX s'):
  aB (model cx.prog cx.w) A (eval ex env) Q' kX s:=c.gn λoe p2 args kws p hb hl hn co ca ck=>
 ck.nil (u7 hb hl (yH ca (ks:=[]) rfl (ao (aA _ _) hn)) (h _ _ co A env φ s F _ λφ' σ' s' v y g vr q pl=>q.casesOn λhk hw=>
  have t:=ty _ _ _ _ _ g.S vr hk
  getMethod_builtin t.t B.pa B.sl B.ty t.n (tE (P:=λZ=>True) (G:=λvs us σ'=>G v vs σ') (ks:=[]) (kws:=[]) ca rfl (F.go g) (first:=[y]) (fi:=[v]) (.cons vr .nil) (λh Z=>EM h) (λZ Z Z Z Z Z Z=>trivial) (xb hw λvs σ' g=>jE g)
   λφ₂ σ₂ s₂ vs us ys zs g' Gb ur q=>(gh.un Gb).elim λy' w=>w.elim λz w=>hc φ₂ σ₂ s₂ v y vs ys (g.trans g') (vr.ext g.S.rel g'.x) (have e:ys=z:=(List.cons.inj w.1).2;e▸w.2.2) q)))
theorem AK{o:ME}{a:Nm}{as:List ME}{T id:String}{Q:V→Hp→Prop}{G:V→List V→Hp→Prop}{P:Hp→V→Prop}(B:Xi T a.str id)(ty:GO cx P T)(h:WE cx d o γ ρ σ (Y0 cx d γ ρ P as G))
  (hc:∀(A:Around) φ σ s v y vs ys (Q':Value→Shared→Prop),nU A d→kO cx φ σ s→gJ s.heap φ σ v y→gh s.heap φ σ vs ys→G v vs σ→KE cx φ σ s Q Q'→aB (model cx.prog cx.w) A (call (.builtin id) (y::ys) []) Q' kX s):
  WE cx d (.gn o a as []) γ ρ σ Q:=λsc ex c A env φ s F Q' k=>AF B ty h c F λφ' σ' s' v y vs ys g vr Gb q=>hc A φ' σ' s' v y vs ys Q' F.hA g.S vr Gb q (k.go g)
def u5(T:String)(a:Addr):Obj:={cls:=.type T,data:=.fields #[.ref a]}
inductive Y6(P:List (Str×V)→Prop)(f:I→List (Str×V)→Obj→Src)(Q:Src→Hp→Prop)(v:V)(σ:Hp):Prop
 |mk (r:I) (l:List (Str×V)):v=.ref r→σ r=some (.dict l)→P l→(∀ob,Q (f r l ob) (up σ r (some (.nD l ob))))→Y6 P f Q v σ
theorem Hh{P:List (Str×V)→Prop}{o:ME}{a:Nm}{id T:String}{f:I→List (Str×V)→Obj→Src}{Q:Src→Hp→Prop}(B:Xi "dict" a.str id)
  (hv:∀(A:Around) (s:Shared) (d:Addr) (Q':Value→Shared→Prop),(d==sysModules)=false→(∃kvs,s.heap.DictOf (strKind cx.prog cx.w) d kvs)→Q' (.ref s.heap.objs.size) {s with heap:=s.heap.push (u5 T d)}→aB (model cx.prog cx.w) A (call (.builtin id) [.ref d] []) Q' kX s)
  (hi:∀(A:Around) (φ:Ph) (σ:Hp) (s:Shared) (r:I) (l:List (Str×V)) ob es ep kvs v (Q':Value→Shared→Prop),s.heap.get? v=some (u5 T (φ r).1)→Frz cx φ σ s r l ob es ep kvs→P l→(∀h',(∀b o,s.heap.get? b=some o→h'.get? b=some o)→oa φ h' (f r l ob) 0 s.heap.objs.size [s.heap.objs.size]→(zp h' s.heap.objs.size)→Q' (.ref s.heap.objs.size) {s with heap:=h'})→aB (model cx.prog cx.w) A (pyIter (.ref v)) Q' kX s)
  (ok:∀σ r l ob,P l→σ r=some (.nD l ob)→qA σ (f r l ob))(h:WE cx d o γ ρ σ (Y6 P f Q)):WI cx d (.gn o a [] []) γ ρ σ Q:=λsc ex c A env φ s F Q' k=>
 AF (P:=IsDict) (G:=λv vs σ=>vs=[]∧Y6 P f Q v σ) B ty_dict (jv h λv σ q=>⟨q.casesOn λr l e1 e2 Z Z=>e1▸⟨l,e2⟩,fZ ⟨rfl,q⟩⟩) c F λφ' σ' s' v y vs ys g vr Gb q=>q.2.casesOn λr l e1 e2 pl q2=>by
  rw[vr.at e1,show ys=[]from(show gh s'.heap φ' σ' [] ys from q.1▸Gb)]
  have w:=(g.S.rel.objs _ _ e2).2
  have g3:=Go.push g.S (u5 T (φ' r).1)
  exact hv A s' _ _ w.1 (w.2.imp λZ w=>w.1) ((freeze g3.S e2).elim λob w=>w.elim λes w=>w.elim λep w=>w.elim λkvs w=>
   have g4:=(g.trans g3).trans w.g
   hi A φ' σ' _ r l ob es ep kvs _ _ (aF _ rfl) w pl λh' hk it ow=>
    k φ' _ _ (f r l ob) _ [(s'.heap.push (u5 T (φ' r).1)).objs.size] (g4.trans ⟨Ext.grow hk,g4.S.rel.grow hk,g4.S.gens,g4.S.drawn,g4.S.os⟩) it (λa ha=>ag.mp ha▸⟨g4.x.back (end_none _),g4.S.rel.kg (end_none _),ow⟩) (ok _ _ _ _ pl (fW _ _ _)) (q2 ob))
theorem PQ(O:gT cx){o:ME}{Q:Src→Hp→Prop}(h:WE cx d o γ ρ σ (YT .vals Q)):WI cx d (.gn o .jo [] []) γ ρ σ Q:=
 Hh (P:=λZ=>True) (f:=.vals) (T:="dict_values") ⟨b3,cO,fA⟩ (λA s d Q' hn D k=>dE cO (D.elim λZ D=>D.typeIs) fw (fj _) (meets_dict_values (strKind cx.prog cx.w) _ hn) ⟨D,k⟩)
  (λA φ σ s r l ob es ep kvs v Q' g w Z k=>wpAny_pyIter_values (v:=v) ⟨_,g,rfl,rfl⟩ w.D (by rw[w.n];exact k _ oP ⟨rfl,es,ep,w.d,_,aF _ rfl,rfl,rfl⟩ (.mk (aF _ rfl) rfl rfl rfl rfl))) (λZ Z Z Z Z e=>e) (jv h λv σ q=>q.casesOn λr l e1 e2 q=>⟨r,l,e1,e2,trivial,q⟩)
inductive Zi(Q:Src→Hp→Prop)(v:V)(σ:Hp):Prop
 |mk (r:I):v=.ref r→σ r=some (.dict [])→(∀ob,Q (.nothing r ob) (up σ r (some (.nD [] ob))))→Zi Q v σ
theorem Mo(O:gT cx){o:ME}{Q:Src→Hp→Prop}(h:WE cx d o γ ρ σ (Zi Q)):WI cx d (.gn o .qo [] []) γ ρ σ Q:=
 Hh (P:=λl=>l=[]) (f:=λr Z ob=>.nothing r ob) (T:="dict_items") ⟨b3,fI,PySem.F.type_dict_items⟩ (λA s d Q' hn D k=>dE fI (D.elim λZ D=>D.typeIs) PySem.F.entry_dict_items (PySem.F.args_dict_items_1 _) (meets_dict_items (strKind cx.prog cx.w) _ hn) ⟨D,k⟩)
  (λA φ σ s r l ob es ep kvs v Q' g w e k=>wpAny_pyIter_items (v:=v) ⟨_,g,rfl,rfl⟩ w.D (by rw[show kvs.length=0 from w.n.trans (congrArg cg e)];exact k _ oP ⟨rfl,es,ep,_,_,w.d,aF _ rfl⟩ (.mk (aF _ rfl) rfl rfl rfl rfl))) (λZ r l ob (e:l=[]) q=>show _=_ from q.trans (by rw[e])) (jv h λv σ q=>q.casesOn λr e1 e2 q=>⟨r,[],e1,e2,rfl,q⟩)
end
end
end
mutual
section
open PySem.SeqAt
def G0(t:sJ)(src:Src):Prop:=t.casesOn (λZ=>src.casesOn (λZ=>True) (λZ=>True) (λZ=>False) (λZ Z Z=>True) (λZ Z Z=>True) λZ Z=>True) λZ=>True
theorem Qd{sc:Scope}{e:Expr}{t:sJ}{src:Src}(c:lp sc e t)(h:G0 t src):Rk e src:=by
 cases src with
 |Mf=>
  cases t with
  |one=>exact aN h
  |tup=>exact lp.tup c λZ Z Z Z=>rfl
 |_=>trivial
theorem P8{α:Type}{a b:α}{l:List α}(e:l=[b])(h:a∈l):a=b:=ag.mp (e▸h)
section
variable{cx:Cx}{d:Nat}{γ:Nm→Option I}{ρ ρ' ρ'':Loc}{σ σ' σ'':Hp}{φ φ' φ'':Ph}{h h':Heap}{s s' oZ:Shared}{A:Around}{env:Env}{sc:Scope}{src:Src}{i:Nat}{it:Addr}{own:List Addr}
theorem xf.soft{X:Addr→Prop}(l:xf cx φ σ h env ρ γ)(R:Rel cx φ σ h)(D:mj h X)(x:E7 cx X φ σ h φ' σ' h')(hX:¬X env.locals):xf cx φ' σ' h' env ρ γ:=
 ⟨l.ns.elim λm u=>u.1.elim λo w=>w.elim λes w=>w.elim λep w=>⟨m,⟨o,es,ep,x.keep _ _ w.1 l.FV hX,w.2⟩,λy v q=>(u.2 y v q).elim λz t=>⟨z,t.1,t.2.tr (.of R D x)⟩⟩,
  l.ns.elim λm u=>u.1.elim λo w=>w.elim λes w=>w.elim λep w=>x.fp w.1 l.FV,l.RJ,λy r q=>have t:=l.iN y r q;⟨(x.tc r t.1).1,t.2.trans (congrArg (λq=>some q.1) (x.tc r t.1).2.symm)⟩⟩
theorem oa.RS(t:oa φ h src i it own)(a:Addr)(ha:a∈own):zp h a:=by
 cases src with
 |list r=>exact P8 t.1 ha▸t.2.elim λo g=>.mk g.1 g.2.1 g.2.2 rfl rfl
 |IM n=>exact P8 t.1 ha▸.mk t.2.2 rfl rfl rfl rfl
 |Mf r=>exact aI t λlit t=>t.elim λold t=>(List.mem_cons.mp (show a∈[it,lit]from t.1▸ha)).elim (λe=>e▸.mk t.2.e rfl rfl rfl rfl) λe=>ag.mp e▸t.2.l.elim λo g=>.mk g.1 g.2.1 g.2.2 rfl rfl
 |nothing r ob=>exact P8 t.1 ha▸t.2.elim λes g=>g.elim λep g=>g.elim λk1 g=>g.elim λk2 g=>.mk g.2 rfl rfl rfl rfl
 |_=>exact P8 t.1 ha▸t.2.elim λes g=>g.elim λep g=>g.2.elim λo g=>.mk g.1 g.2.1 g.2.2 rfl rfl
structure Wk(cx:Cx)(env:Env)(γ:Nm→Option I)(φ:Ph)(σ:Hp)(s:Shared)(src:Src)(it:Addr)(own:List Addr)(i:Nat)(ρ':Loc)(φ':Ph)(σ':Hp)(s':Shared):Prop where
 g:yW cx env γ φ σ s ρ' φ' σ' s'
 T:oa φ' s'.heap src i it own
 W:Own cx φ' σ' s.heap s'.heap own
 n:env.locals∉own
 b:∀b o,cx.h0.get? b=some o→s.heap.get? b=some o
theorem Fm.X7(F:Fm cx d γ ρ σ sc A env φ s)(W:Own cx φ' σ' s.heap h own):env.locals∉own:=λm=>F.L.ns.elim λZ u=>u.1.elim λZ w=>w.elim λZ w=>w.elim λZ w=>ir w.1 (W _ m).1
theorem Wk.step(w:Wk cx env γ φ σ s src it own i ρ' φ' σ' s')(ok:qA σ' src)(g:yW cx env γ φ' σ' s' ρ'' φ'' σ'' oZ):Wk cx env γ φ σ s src it own i ρ'' φ'' σ'' oZ:=
 have n:∀a∈own,¬WW env a:=λa ha e=>w.n ((show a=env.locals from e)▸ha)
 ⟨w.g.trans g,w.T.keep (λa ha o q=>g.x.keep a o q (w.W a ha).2.1 (n a ha)) (λr hr=>(g.x.tc r hr).2) ok,w.W.keep g.x n,w.n,w.b⟩
theorem Wk.next(w:Wk cx env γ φ σ s src it own i ρ' φ' σ' s')(mv:uz own s'.heap h'){j:Nat}(T2:oa φ' h' src j it own)(tk:Nat):Wk cx env γ φ σ s src it own j ρ' φ' σ' {s' with heap:=h',toks:=tk}:=
 have q:=w.W.soft w.g.S.rel w.b mv
 ⟨⟨w.g.x.forget (λa ha=>(w.W a ha).1) q.1,⟨q.2,w.g.S.gens,w.g.S.drawn,w.g.S.os⟩,w.g.L.soft w.g.S.rel w.W.tJ q.1.k w.n⟩,T2,λa ha=>⟨(w.W a ha).1,(w.W a ha).2.1,T2.RS a ha⟩,w.n,w.b⟩
theorem Wk.last(w:Wk cx env γ φ σ s src it own i ρ' φ' σ' s')(mv:s9 own s'.heap h'):yW cx env γ φ σ s ρ' φ' σ' {s' with heap:=h'}:=
 ⟨w.g.x.CF (λa ha=>(w.W a ha).1) mv,⟨w.W.rel w.g.S.rel w.b mv,w.g.S.gens,w.g.S.drawn,w.g.S.os⟩,
  w.g.L.soft (X:=BH own) w.g.S.rel w.W.tJ ⟨λZ e=>⟨e,rfl⟩,λb o e Z n=>mv b o n e,λZ e e'=>absurd e e'⟩ w.n⟩
theorem yW.xK(g:yW cx env γ φ σ s ρ' φ' σ' s')(ok:qA σ' src):yW cx env γ φ σ s ρ' φ' (xK σ' src) s':=
 have t:=CH g.S ok
 ⟨g.x.trans t.x.x,t.S,g.L.ext g.S.rel t.x⟩
theorem BV{t:sJ}{te:Expr}{v:V}{k:Loc→Hp→Prop}{Q' N:Shared→Prop}{K:Value→Shared→Prop}(hA:nU A d)(E:An env sc)(w:Wk cx env γ φ σ s src it own i ρ' φ' σ' s')(ok:qA σ' src)(ct:lp sc te t)(ht:G0 t src)(hg:pY σ' src i=some v)(hq:ib γ t v ρ' σ' k)
  (h:∀σ₃ s₃ ρ₃,yW cx env γ φ σ s ρ₃ φ' σ₃ s₃→(∀ρ'' φ'' σ'' oZ,yW cx env γ φ' σ₃ s₃ ρ'' φ'' σ'' oZ→Wk cx env γ φ σ s src it own (i+1) ρ'' φ'' σ'' oZ)→(∀r,σ' r≠none→σ₃ r≠none)→k ρ₃ σ₃→Q' s₃)(hK:∀z s₂,aB (model cx.prog cx.w) A (assign te env z) (λZ s₃=>Q' s₃) kX s₂→K z s₂):
  aB (model cx.prog cx.w) A (pyNext (.ref it)) (λr s₁=>match r with |none=>N s₁ |some z=>aB (model cx.prog cx.w) A (letOwnedTupleGo te (.ref it) z) (λZ s₂=>K z s₂) kX s₁) kX s':=
 aZ (Jr (A:=A) (tgt:=te) (K:=λz s₂=>aB (model cx.prog cx.w) A (assign te env z) (λZ s₃=>Q' s₃) kX s₂) w.g.S ok w.T hg (Qd ct ht) w.W w.b λh' tk z mv T2 vz=>
   have w2:=w.next mv T2 tk
   yG ct ⟨hA,E,w2.g.S,w2.g.L⟩ vz hq λσ₃ s₃ ρ₃ g hk=>h σ₃ s₃ ρ₃ (w2.g.trans g) (λZ Z Z Z g'=>w2.step ok (g.trans g')) (λr e=>(g.x.tc r e).1) hk)
  (λr s₁ h₁=>match r,h₁ with |some z,h₁=>aZ h₁ (λZ s₂ h₂=>hK z s₂ h₂) λZ Z x=>x) λZ Z x=>x
def Q7(src:Src)(Inv:Nat→Hp→Loc→Prop)(i:Nat)(Q:Fl→Hp→Loc→Prop)(fl:Fl)(σ:Hp)(ρ:Loc):Prop:=fl.casesOn (Inv (i+1) σ ρ) (qA σ src∧Q .next (xK σ src) ρ) (Inv (i+1) σ ρ) λv=>qA σ src∧Q (.ret v) (xK σ src) ρ
def uD(m:ME):Bool:=m.casesOn true true (λZ=>true) (λZ=>true) (λZ=>true) (λZ=>false) (λZ=>false) (λZ Z=>false) (λZ Z=>false) (λZ Z Z=>false) (λZ=>false) (λZ Z Z=>true) (λZ Z Z=>true) (λZ Z=>true) (λZ Z Z Z=>false) (λZ Z=>false)
 (λZ Z=>true) (λZ Z Z=>true) (λZ=>true) (λZ=>true) (λZ=>true) (λZ Z Z=>true) (λZ Z Z=>true) (λZ=>true) (λZ=>true) true λZ Z Z Z=>true
theorem Ek{K:Frag}{e:Expr}{m:ME}(c:gz K sc e m)(hm:uD m=false)(env:Env)(x:Value):foldedSetIterable e env x=pure x:=by
 cases m with
 |var=>exact c.var λZ Z=>rfl
 |iN=>exact c.iN λZ Z=>rfl
 |attr=>exact c.attr λZ Z Z Z=>rfl
 |idx=>exact c.idx λZ Z Z Z Z Z=>rfl
 |yb=>exact c.yb λZ Z Z Z Z Z Z Z=>rfl
 |rev=>exact c.rev λZ Z Z Z Z Z Z=>rfl
 |gn=>exact c.gn λZ Z Z Z Z Z Z Z Z Z Z=>rfl
 |bi=>exact c.bi λZ Z Z Z Z=>rfl
 |_=>exact bf hm.symm
def Vp(cx:Cx)(d:Nat)(γ:Nm→Option I)(t:sJ)(b:List MS)(Inv:Src→Nat→Hp→Loc→Prop)(N:Nat)(Q:Fl→Hp→Loc→Prop)(src:Src)(i:Nat)(σ:Hp)(ρ:Loc):Prop:=
 i≤N∧qA σ src∧match pY σ src i with
  |none=>Q .next (xK σ src) ρ
  |some v=>ib γ t v ρ σ λρ₂ σ₂=>WS cx d b γ ρ₂ σ₂ (Q7 src (Inv src) i Q)
inductive UU(t:sJ)(Inv:Src→Nat→Hp→Loc→Prop)(ρ:Loc)(src:Src)(σ:Hp):Prop
 |mk:G0 t src→Inv src 0 σ ρ→UU t Inv ρ src σ
structure UT(cx:Cx)(env:Env)(γ:Nm→Option I)(φ:Ph)(σ:Hp)(s:Shared)(src:Src)(it:Addr)(own:List Addr)(Inv:Nat→Hp→Loc→Prop)(N n:Nat)(s':Shared)(i:Nat)(φ':Ph)(σ':Hp)(ρ':Loc):Prop where
 e:n=N - i
 w:Wk cx env γ φ σ s src it own i ρ' φ' σ' s'
 q:Inv i σ' ρ'
def Nv(cx:Cx)(env:Env)(γ:Nm→Option I)(φ:Ph)(σ:Hp)(s:Shared)(src:Src)(it:Addr)(own:List Addr)(Inv:Nat→Hp→Loc→Prop)(N n:Nat)(s':Shared):Prop:=∃i φ' σ' ρ',UT cx env γ φ σ s src it own Inv N n s' i φ' σ' ρ'
theorem zc{t:sJ}{e:ME}{b:List MS}{Q:Fl→Hp→Loc→Prop}(hm:uD e=false)(Inv:Src→Nat→Hp→Loc→Prop)(N:Nat)(h:WI cx d e γ ρ σ (UU t Inv ρ))
  (step:∀src i σ' ρ',Inv src i σ' ρ'→Vp cx d γ t b Inv N Q src i σ' ρ'):W1 cx d (.for t e b) γ ρ σ Q:=λsc st c A env φ s F Q' k=>jw.for c λte ie bd p ct ce cb=>
 wpAny_For (h _ _ ce A env φ s F _ λφ₁ σ₁ s₁ src it own g₁ T₁ W₁ ok₁ q₁=>q₁.casesOn λht q₁=>
  have fin:∀{φ₂ σ₂ s₂ ρ₂} fl fv,yW cx env γ φ σ s ρ₂ φ₂ σ₂ s₂→qA σ₂ src→MD s₂.heap φ₂ (xK σ₂ src) fl fv→Q fl (xK σ₂ src) ρ₂→Q' fv s₂:=λfl fv g ok fr q=>k _ _ _ _ fl fv (g.xK ok) fr q
  Fj (Nv cx env γ φ σ s src it own (Inv src) N) (λn s' hv=>hv.elim λi hv=>hv.elim λφ' hv=>hv.elim λσ' hv=>hv.elim λρ' hv=>by
   have st:=step src i σ' ρ' hv.q
   cases hg:pY σ' src i with
   |none=>exact Er F.hA.hd hv.w.g.S st.2.1 hv.w.T hg λh' mv=>fin .next _ (hv.w.last mv) st.2.1 rfl (by have q:=st.2.2;rw[hg]at q;exact q)
   |some v=>
    exact BV (k:=λρ₂ σ₂=>WS cx d b γ ρ₂ σ₂ (Q7 src (Inv src) i Q)) (Q':=λs₃=>aB (model cx.prog cx.w) A (execs bd env) (λf s₄=>match f with
     |.next |.cont=>∃m,m<n∧Nv cx env γ φ σ s src it own (Inv src) N m s₄
     |.brk=>Q' .next s₄
     |.ret v=>Q' (.ret v) s₄) kX s₃) F.hA F.E hv.w st.2.1 ct ht hg (by have q:=st.2.2;rw[hg]at q;exact q) (λσ₃ s₃ ρ₃ g3 w Z hq=>hq _ _ cb A env φ' s₃ (F.x g3) _ λφ₄ σ₄ s₄ ρ₄ fl fv g fr q=>by
      have go:Inv src (i+1) σ₄ ρ₄→∃m,m<n∧Nv cx env γ φ σ s src it own (Inv src) N m s₄:=λq5=>⟨N - (i+1),hv.e▸eJ (step src (i+1) σ₄ ρ₄ q5).1 (ak i),i+1,φ₄,σ₄,ρ₄,rfl,w _ _ _ _ g,q5⟩
      cases fl with
      |next |cont=>cases fr;exact go q
      |brk=>cases fr;exact fin .next _ (g3.trans g) q.1 rfl q.2
      |ret v=>exact fr.elim λy u=>u.1▸fin (.ret v) _ (g3.trans g) q.1 ⟨y,rfl,u.2.ext (g3.trans g).S.rel (CH (g3.trans g).S q.1).x⟩ q.2) λz s₂ h=>h) (N - 0) ⟨0,φ₁,σ₁,ρ,rfl,⟨F.gx g₁,T₁,W₁,F.X7 W₁,F.S.rel.base⟩,q₁⟩)
  (λx=>Ek ce hm env x)
end
end
end
mutual
section
open PySem.SeqAt
theorem CE{prog:Program}{w:World}{A:Around}{R:Result→Shared→Prop}{elt target iter:Expr}{ifs:List Expr}{scope:Scope}{pos:Pos}{it acc:Value}{env:Env}{s:Shared}(Iv:Nat→Shared→Prop)
  (turn:∀n s,Iv n s→aB (model prog w) A (pyNext it) (λr s₁=>match r with
   |none=>R (.ok .next) s₁
   |some v=>aB (model prog w) A (letOwnedTupleGo target it v) (λZ s₂=>aB (model prog w) A (assign target env v) (λZ s₃=>
     aB (model prog w) A (forIn ifs true λc r=>if r=true then do let ok ←isTrue c env (eval c env);pure (cL ok)else pure (cL r)) (λok s₄=>
      if ok=true then aB (model prog w) A (eval elt env) (λx s₅=>
       aB (model prog w) A (call (.builtin "list.append") [acc,x]) (λZ s₆=>∃m,m<n∧Iv m s₆) kX s₅) kX s₄
      else ∃m,m<n∧Iv m s₄) kX s₃) kX s₂) kX s₁) kX s)
  (n:Nat)(h:Iv n s):codeAny (model prog w) A (.compLoop (.ListComp elt [⟨target,iter,ifs,0⟩] scope pos) 0 it acc env) R s:=by
 refine codeAny_loop rfl Iv (λn s hI=>?_) n h
 show aB _ A ((compTurn (.ListComp elt [⟨target,iter,ifs,0⟩] scope pos) 0 it acc env).onRaise (λx=>do noteFrame x env;theTreesLotGoes x)) _ _ s
 refine wpAny_noted ?_
 rw[compTurn_list]
 refine af (bX (af (aZ (turn n s hI) (λr s₁ h₁=>?_) λZ Z h'=>aN h')))
 cases r with
 |none=>exact aq h₁
 |some v=>
  refine af (aZ h₁ (λZ s₂ h₂=>af (aZ h₂ (λZ s₃ h₃=>af (aZ h₃ (λok s₄ h₄=>?_) λZ Z h'=>aN h')) λZ Z h'=>aN h')) λZ Z h'=>aN h')
  cases ok with
  |false=>exact aq ⟨rfl,h₄⟩
  |true=>
   rw[if_pos rfl]at h₄
   refine af (af (aZ h₄ (λx s₅ h₅=>af (aZ h₅ (λZ s₆ h₆=>aq (aq ⟨rfl,h₆⟩)) λZ Z h'=>aN h')) λZ Z h'=>aN h'))
theorem mem_of_lookup{k:NameKind}:∀{l:List (Str×NameKind)} {n:Str},l.lookup n=some k→(n,k)∈l
 |[],_,h=>nn h
 |(m,k')::r,n,h=>by
  rw[aJ]at h
  cases q:n==m with
  |true=>rw[q]at h;rw[beq_iff_eq.mp q,←Option.some.inj h];exact .head _
  |false=>rw[q]at h;exact .tail _ (mem_of_lookup h)
theorem yj{scope:Scope}{env:Env}(h:∀x∈scope.names,x.2=.free→∃a,env.cells.lookup x.1=some a):
  ∃cl,closureFor scope env=pure cl∧∀n a,(n,bC)∈scope.names→env.cells.lookup n=some a→cl.lookup n=some a:=by
 unfold closureFor
 have go:∀(l:List (Str×NameKind)) (c:List (Str×Addr)),(∀x∈l,x.2=.free→∃a,env.cells.lookup x.1=some a)→(∀n a,c.lookup n=some a→env.cells.lookup n=some a)→
   ∃cl,(forIn l c λ(x:Str×NameKind) (cs:List (Str×Addr))=>(if x.2==.free then (do let a ←cellOf env x.1;pure (.yield ((x.1,a)::cs)))else pure (.yield cs):Sem (ForInStep (List (Str×Addr)))))=pure cl∧
    (∀n a,c.lookup n=some a→cl.lookup n=some a)∧(∀n a,cl.lookup n=some a→env.cells.lookup n=some a)∧∀n a,(n,bC)∈l→env.cells.lookup n=some a→cl.lookup n=some a:=by
  intro l
  induction l with
  |nil=>intro c _ hc;exact⟨c,rfl,λZ Z e=>e,hc,λZ Z e=>(nomatch e)⟩
  |cons x l ih=>
   intro c hl hc
   obtain ⟨n,k⟩:=x
   rw[de]
   by_cases hk:k=.free
   ·subst hk
    obtain ⟨a,ha⟩:=hl _ (.head _) rfl
    have Xe:∀m b,((n,a)::c).lookup m=some b→env.cells.lookup m=some b:=λm b e=>by
     rw[aJ]at e
     cases q:m==n with
     |true=>rw[q]at e;cases e;rw[beq_iff_eq.mp q];exact ha
     |false=>rw[q]at e;exact hc m b e
    obtain ⟨cl,e1,e2,e3,e4⟩:=ih ((n,a)::c) (λx hx=>hl x (.tail _ hx)) Xe
    have top:cl.lookup n=some a:=e2 n a (by rw[aJ,beq_self_eq_true])
    refine⟨cl,?_,λm b e=>?_,e3,λm b hm e=>?_⟩
    ·have:cellOf env n=pure a:=by unfold cellOf;rw[ha]
     simp only [beq_self_eq_true,if_true,this,pure_bind]
     exact e1
    ·by_cases q:m=n
     ·subst q
      have:=hc m b e
      rw[ha]at this;cases this;exact top
     ·exact e2 m b (by rw[aJ,beq_eq_false_iff_ne.mpr q];exact e)
    ·rcases List.mem_cons.mp hm with q |hm
     ·cases q;rw[ha]at e;cases e;exact top
     ·exact e4 m b hm e
   ·have AU:(k==bC)=false:=by simpa using hk
    obtain ⟨cl,e1,e2,e3,e4⟩:=ih c (λx hx=>hl x (.tail _ hx)) hc
    refine⟨cl,?_,e2,e3,λm b hm e=>?_⟩
    ·simp only [AU,cj,if_false,pure_bind]
     exact e1
    ·rcases List.mem_cons.mp hm with q |hm
     ·cases q;exact absurd rfl hk
     ·exact e4 m b hm e
 obtain ⟨cl,e1,_,_,e4⟩:=go scope.names [] h (λZ Z e=>(nomatch e))
 refine⟨cl,?_,e4⟩
 first
  |exact e1
  |(rw[bind_pure];exact e1)
  |(have e2:=congrArg (λm:Sem (List (Str×Addr))=>m >>=λr=>pure r) e1;simpa using e2)
theorem ud{env:Env}:∀(names:List (Str×NameKind)) (x:Str),
  (names.map λ(n,k)=>if (k==bC&&env.scope.kind==.function&&env.kindOf n==some .cell)then (n,d5)else (n,k)).lookup x=
   (names.lookup x).map λk=>if (k==bC&&env.scope.kind==.function&&env.kindOf x==some .cell)then d5 else k
 |[],x=>rfl
 |(n,k)::r,x=>by
  have ih:=ud (env:=env) r x
  show List.lookup x ((if (k==bC&&env.scope.kind==.function&&env.kindOf n==some .cell)=true then (n,d5)else (n,k))::_)=_
  cases hx:x==n with
  |true=>
   have e:=beq_iff_eq.mp hx
   subst e
   rw[aJ (b:=k),hx]
   dsimp only
   by_cases hc:(k==bC&&env.scope.kind==.function&&env.kindOf x==some .cell)=true
   ·rw[if_pos hc,aJ,hx];dsimp only [bK];rw[if_pos hc]
   ·rw[if_neg hc,aJ,hx];dsimp only [bK];rw[if_neg hc]
  |false=>
   rw[aJ (b:=k),hx]
   dsimp only
   rw[←ih]
   by_cases hc:(k==bC&&env.scope.kind==.function&&env.kindOf n==some .cell)=true
   ·rw[if_pos hc,aJ,hx]
   ·rw[if_neg hc,aJ,hx]
section
variable{cx:Cx}{d:Nat}{γ:Nm→Option I}{ρ ρ':Loc}{σ σ':Hp}{φ φ':Ph}{h h':Heap}{s s':Shared}{A:Around}{env:Env}{sc:Scope}
theorem EI(inner:Scope)(env:Env):nG inner (relabel inner env):=by
 have key:∀n k,inner.names.lookup n=some k→(relabel inner env).names.lookup n=some (if (k==bC&&env.scope.kind==.function&&env.kindOf n==some .cell)then d5 else k):=λn k e=>(ud inner.names n).trans (by rw[e];rfl)
 exact⟨λn e=>key n _ e,λn e=>key n _ e,λn e=>key n _ e,λn e=>by
  have k:=key n _ e
  by_cases q:(bC==bC&&env.scope.kind==.function&&env.kindOf n==some .cell)=true
  ·exact .inl (k.trans (congrArg some (if_pos q)))
  ·exact .inr (k.trans (congrArg some (if_neg q)))⟩
theorem wV(S:kO cx φ σ s){r:I}{l l':List V}(hr:σ r=some (.list l))(f:Array Value→Array Value)(hv:∀vs,gh s.heap φ σ l vs→∃WZ,f vs.toArray=WZ.toArray∧gh s.heap φ σ l' WZ)(hl:l'.length≤100000)(t:Nat):
  Go cx φ σ s φ (up σ r (some (.list l'))) {s with heap:=s.heap.update (φ r).1 (bI f),toks:=t}:=
 have q:=S.rel.objs _ _ hr
 q.2.elim λvs w=>w.elim λn w=>(hv vs w.2.1).elim λWZ u=>
  have g':=IsL.update (h:=s.heap) (l:=(φ r).1) (items:=vs.toArray) (n:=n) w.1 f
  have key:=change (o':=.list l') S.rel hr (h':=s.heap.update (φ r).1 (bI f)) (λb q n Z e=>((dO s.heap (φ r).1 (bI f)).2 b n).trans e) ⟨_,g'⟩ (by rw[q.1];exact⟨_,g'⟩) λX=>⟨q.1,WZ,_,by rw[u.1]at g';exact g',gh.ext S.rel X u.2,hl⟩
  ⟨key.1,key.2,S.gens,S.drawn,S.os⟩
theorem Bz{r:I}{l:List V}{u:V}{y:Value}{Q':Value→Shared→Prop}(S:kO cx φ σ s)(e:σ r=some (.list l))(vu:gJ s.heap φ σ u y)(hl:l.length<100000)(k:∀h',Go cx φ σ s φ (up σ r (some (.list (l++[u])))) {s with heap:=h'}→Q' .none {s with heap:=h'}):
  aB (model cx.prog cx.w) A (call (.builtin "list.append") [.ref (φ r).1,y]) Q' kX s:=
 (S.rel.objs r _ e).2.elim λvs w=>w.elim λn w=>
  ew fB ⟨_,w.1,rfl⟩ PySem.F.entry_list_append (PySem.F.args_list_append_2 _ _) (list_append _ vs.toArray n y (by rw[aC,←gh.length w.2.1];exact nT (aY hl))) ⟨w.1,
   k _ (wV (l':=l++[u]) S e (λxs=>xs.push y) (λws wr=>⟨ws++[y],List.push_toArray ..,wr.append (.cons vu .nil)⟩) (by rw[ax];exact hl) s.toks)⟩
def IG(src:Src):Prop:=src.casesOn (λZ=>True) (λZ=>True) (λZ=>True) (λZ Z Z=>True) (λZ Z Z=>True) λZ Z=>False
theorem Jm{src:Src}{i:Nat}{it:Addr}{own:List Addr}{Q':Value→Shared→Prop}(t:oa φ s.heap src i it own)(hn:IG src)(k:Q' (.ref it) s):aB (model cx.prog cx.w) A (pyIter (.ref it)) Q' kX s:=by
 cases src with
 |list r=>exact wpAny_pyIter_listiter t.2 k
 |IM n=>exact wpAny_pyIter_rangeiter t.2.2 k
 |Mf r=>exact aI t λlit t=>t.elim λold t=>wpAny_pyIter_enum t.2.e k
 |keys r l ob=>exact t.2.elim λes g=>g.elim λep g=>wpAny_pyIter_keyiter g.2 k
 |vals r l ob=>exact t.2.elim λes g=>g.elim λep g=>wpAny_pyIter_valiter g.2 k
 |nothing r ob=>exact aN hn
def Al(cx:Cx)(d:Nat)(ifs:List ME)(γ:Nm→Option I)(ρ:Loc)(σ:Hp)(Q:Bool→Hp→Prop):Prop:=ifs.casesOn (Q true σ) λc r=>r.casesOn (WT cx d c γ ρ σ Q) λZ Z=>False
def qK(γ:Nm→Option I)(fr:List Nm):Nm→Option I:=λx=>if x∈fr then γ x else none
inductive WK(G:Hp→Prop)(z:I)(u:V)(σ:Hp):Prop
 |mk (l:List V):σ z=some (.list l)→l.length<100000→G (up σ z (some (.list (l++[u]))))→WK G z u σ
def Q1(cx:Cx)(d:Nat)(m:ME)(γ:Nm→Option I)(ρ:Loc)(G:Hp→Prop)(z:I)(ok:Bool)(σ:Hp):Prop:=ok.casesOn (G σ) (WE cx d m γ ρ σ (WK G z))
def Ax(cx:Cx)(d:Nat)(m:ME)(t:sJ)(ms:List ME)(γ:Nm→Option I)(Inv:Src→I→Nat→Hp→Prop)(N:Nat)(Q:V→Hp→Prop):Prop:=
 ∀src z i σ',Inv src z i σ'→i≤N∧qA σ' src∧σ' z≠none∧match pY σ' src i with
  |none=>Q (.ref z) (xK σ' src)
  |some v=>∀ρ',ib (qK γ (kE m++jD ms)) t v ρ' σ' λρ₂ σ₂=>Al cx d ms (qK γ (kE m++jD ms)) ρ₂ σ₂ (Q1 cx d m (qK γ (kE m++jD ms)) ρ₂ (Inv src z (i+1)) z)
theorem Nk{ifs:List Expr}{ms:List ME}{P:Bool→Hp→Prop}{Q':Bool→Shared→Prop}(hw:Al cx d ms γ ρ σ P)(c:iZ cx.K sc ifs ms)(F:Fm cx d γ ρ σ sc A env φ s)(k:KT cx φ σ s P Q'):
  aB (model cx.prog cx.w) A (forIn ifs true λc r=>if r=true then do let ok ←isTrue c env (eval c env);pure (cL ok)else pure (cL r)) Q' kX s:=by
 cases ms with
 |nil=>exact c.nil (wpAny_tests_nil (k φ σ s true (.refl F.S) hw))
 |cons m ms=>
  cases ms with
  |nil=>exact c.cons λe r ns ce cs=>cs.nil (wpAny_tests_one (hw _ _ ce A env φ s F Q' k))
  |cons=>exact aN hw
inductive BJ(t:sJ)(Inv:Src→I→Nat→Hp→Prop)(src:Src)(σ:Hp):Prop
 |mk:G0 t src→IG src→(z:I)→σ z=none→Inv src z 0 (up σ z (some (.list [])))→BJ t Inv src σ
theorem iZ.sub{K:Frag}{sc':Scope}(h:nG sc sc'):∀{ms:List ME} (es:List Expr),iZ K sc es ms→iZ K sc' es ms
 |[],_,c=>c
 |_::_,[],c=>c
 |m::ms,e::es,c=>gW (b:=iB K m sc e&&B7 K ms sc es) id (gW (gz.sub h e) (iZ.sub h es)) c
theorem rB.sub{sc':Scope}(h:nG sc sc'){t:Tg}{e:Expr}(c:rB sc e t):rB sc' e t:=by
 cases t with
 |var x=>exact iD (P:=λe=>Nl sc' e (.var x)=true) c λy p=>gW id h.rg
 |iN x=>exact iD (P:=λe=>Nl sc' e (.iN x)=true) c λy p=>gW id (K1 (h.iN _))
theorem oX.sub{sc':Scope}(h:nG sc sc'):∀{ts:List Tg} (es:List Expr),Ik sc es ts=true→Ik sc' es ts=true
 |[],[],c=>c
 |[],_::_,c=>c
 |_::_,[],c=>c
 |t::ts,e::es,c=>gW (gW id (rB.sub h)) (oX.sub h es) c
theorem lp.sub{sc':Scope}(h:nG sc sc'){t:sJ}{e:Expr}(c:lp sc e t):lp sc' e t:=by
 cases t with
 |one t=>exact rB.sub h c
 |tup ts=>exact uL (P:=λe=>p9 sc' e (.tup ts)=true) c λes k p=>oX.sub h es
def GQ(cx:Cx)(env:Env)(γ:Nm→Option I)(φ:Ph)(σ:Hp)(s:Shared)(src:Src)(it:Addr)(own:List Addr)(z:I)(D:Addr)(Inv:Nat→Hp→Prop)(N n:Nat)(s':Shared):Prop:=
 ∃i φ' σ' ρ',n=N - i∧Wk cx env γ φ σ s src it own i ρ' φ' σ' s'∧(φ' z).1=D∧Inv i σ'
theorem JE{F2:Env}{γ':Nm→Option I}{inner sc':Scope}{src:Src}{it D:Addr}{own:List Addr}{z:I}{elt target iter:Expr}{ifs:List Expr}{p:Pos}{m:ME}{t:sJ}{ms:List ME}{Inv:Src→I→Nat→Hp→Prop}{N:Nat}{Q:V→Hp→Prop}{R:Result→Shared→Prop}{s₃:Shared}
  (sub:nG inner sc')(ct:lp inner target t)(cs:iZ cx.K inner ifs ms)(ce:gz cx.K inner elt m)(hA:nU A d)(E:An F2 sc')(hγ:γ'=qK γ (kE m++jD ms))(ht:G0 t src)(step:Ax cx d m t ms γ Inv N Q)
  (h0:GQ cx F2 γ' φ σ s src it own z D (Inv src z) N (N - 0) s₃)
  (k:∀φ' σ' s' ρ',yW cx F2 γ' φ σ s ρ' φ' σ' s'→gJ s'.heap φ' σ' (.ref z) (.ref D)→Q (.ref z) σ'→R (.ok .next) s'):
  codeAny (model cx.prog cx.w) A (.compLoop (.ListComp elt [⟨target,iter,ifs,0⟩] inner p) 0 (.ref it) (.ref D) F2) R s₃:=by
 refine CE (GQ cx F2 γ' φ σ s src it own z D (Inv src z) N) (λn s' hv=>hv.elim λi hv=>hv.elim λφ' hv=>hv.elim λσ' hv=>hv.elim λρ' hv=>?_) (N - 0) h0
 have w:=hv.2.1
 have st:=step src z i σ' hv.2.2.2
 cases hg:pY σ' src i with
 |none=>
  have q:=st.2.2.2;rw[hg]at q
  exact Er hA.hd w.g.S st.2.1 w.T hg λh' mv=>k φ' _ _ ρ' ((w.last mv).xK st.2.1) ⟨((CH (w.last mv).S st.2.1).x.tc z st.2.2.1).1,by rw[hv.2.2.1]⟩ q
 |some v=>
  have q:=st.2.2.2;rw[hg]at q
  have q:=q ρ'
  rw[←hγ]at q
  refine BV hA E w st.2.1 (lp.sub sub ct) ht hg q (λσ₃ s₃ ρ₃ g3 w' dm wt=>?_) λz s₂ h=>h
  have F3:Fm cx d γ' ρ₃ σ₃ sc' A F2 φ' s₃:=⟨hA,E,g3.S,g3.L⟩
  have h3:=dm z st.2.2.1
  have next:∀{φ₄ σ₄ s₄},Go cx φ' σ₃ s₃ φ₄ σ₄ s₄→Inv src z (i+1) σ₄→∃m,m<n∧GQ cx F2 γ' φ σ s src it own z D (Inv src z) N m s₄:=λ{φ₄ σ₄ s₄} g q4=>
   ⟨N - (i+1),hv.1▸eJ (step src z (i+1) σ₄ q4).1 (ak i),i+1,φ₄,σ₄,ρ₃,rfl,w' _ _ _ _ (F3.gx g),by rw[(g.x.tc z h3).2];exact hv.2.2.1,q4⟩
  refine Nk wt (iZ.sub sub _ cs) F3 λφ₄ σ₄ s₄ b g4 q4=>?_
  cases b with
  |false=>exact next g4 q4
  |true=>
   rw[if_pos rfl]
   exact q4 _ _ (gz.sub sub _ ce) A _ φ₄ s₄ (F3.go g4) _ λφ₅ σ₅ s₅ u y g5 vu q5=>q5.casesOn λl e1 e2 q5=>by
    have e:D=(φ₅ z).1:=by rw[((g4.trans g5).x.tc z h3).2];exact hv.2.2.1.symm
    rw[e]
    exact Bz g5.S e1 vu e2 λh' g6=>e▸next ((g4.trans g5).trans g6) q5
end
end
end
mutual
section
open PySem.SeqAt
section
variable{cx:Cx}{d:Nat}{γ:Nm→Option I}{ρ:Loc}{σ σ':Hp}{φ φ':Ph}{h h':Heap}{s s':Shared}{A:Around}{env:Env}{sc:Scope}
structure Ds(cx:Cx)(φ':Ph)(σ':Hp)(s s':Shared)(C:Addr)(m':Str→Option Value):Prop where
 new:s.heap.get? C=none
 fp:¬FP cx φ' σ' C
 ns:s'.heap.Ns C m'
theorem Bu{use:Option (Value→Sem Unit)}{inner:Scope}{elt target iter:Expr}{ifs:List Expr}{p pos:Pos}{m:ME}{t:sJ}{mi:ME}{ms:List ME}{Q:V→Hp→Prop}{Q':Value→Shared→Prop}
  (Pq:qY sc inner=true)(U2:sY inner (kE m++jD ms)=true)(ct:lp inner target t)(ci:gz cx.K sc iter mi)(cs:iZ cx.K inner ifs ms)(ce:gz cx.K inner elt m)(QI:uD mi=false)
  (F:Fm cx d γ ρ σ sc A env φ s)(Inv:Src→I→Nat→Hp→Prop)(N:Nat)(hγ:∀x∈kE m++jD ms,∃r,γ x=some r)
  (h:WI cx d mi γ ρ σ (BJ t Inv))(step:Ax cx d m t ms γ Inv N Q)
  (kk:∀φ' σ' s' C z acc m',Go cx φ σ s φ' σ' s'→gJ s'.heap φ' σ' (.ref z) acc→Ds cx φ' σ' s s' C m'→Q (.ref z) σ'→compPost (model cx.prog cx.w) A kX use Q' acc C (.ok .next) s'):
  aB (model cx.prog cx.w) A (comprehension (.ListComp elt [⟨target,iter,ifs,0⟩] inner p) inner env pos (newList []) false (eval iter env) use) Q' kX s:=by
 have q1:=f7 Pq;have q2:=f7 q1.1;have q3:=f7 q2.1;have q4:=f7 q3.1;have q5:=f7 q4.1
 have NL:inner.kind=.function:=beq_iff_eq.mp q5.1
 have f:=f7 U2
 refine(yj (scope:=inner) (env:=env) λx hx hf=>(tU (List.all_eq_true.mp f.1 x hx)).elim (λq=>absurd hf (bne_iff_ne.mp q)) λq=>(List.any_eq_true.mp q).elim λy hy=>(hγ y hy.1).elim λr hr=>⟨_,beq_iff_eq.mp hy.2▸(F.L.iN y r hr).2⟩).elim λcl Gq=>?_
 refine wpAny_comprehension_free rfl (λx=>Ek ci QI env x) Gq.1 NL (λx hx e=>(beq_iff_eq.mp (List.all_eq_true.mp q4.2 x hx)).trans (congrArg some e)) ?_
 refine h _ _ ci A env φ s F _ λφ₁ σ₁ s₁ src it own g₁ T₁ W₁ ok₁ q₁=>q₁.casesOn λht YJ z hz q₁=>?_
 refine wpAny_newObj_type ?_ (aw _)
 have w₂:=uq (l:=[]) (vs:=[]) g₁.S hz rfl (aw _) 0 s₁.toks
 have g₂:=g₁.trans w₂.g
 refine wpAny_newFunctionEnv (λx hx=>bne_iff_ne.mp (List.all_eq_true.mp q5.2 x hx)) (λx hx=>absurd hx aj) (λh₃ ON Xf=>?_) NL
 have Xu:=end_none (s₁.heap.push (rK [] 0))
 have grow:∀b o,(s₁.heap.push (rK [] 0)).get? b=some o→h₃.get? b=some o:=λb o e=>Xf.extBut b o (av (a0 e)) (aP _ e)
 have g₃:Go cx _ _ {s₁ with heap:=s₁.heap.push (rK [] 0),toks:=s₁.toks} _ _ {s₁ with heap:=h₃,toks:=s₁.toks}:=⟨Ext.grow grow,g₂.S.rel.grow grow,g₂.S.gens,g₂.S.drawn,g₂.S.os⟩
 have g13:=g₂.trans g₃
 have hC0:=g₂.x.back Xu
 have XO:=g₂.S.rel.kg Xu
 have XQ:=g₂.S.rel.ng Xu
 have hE:An (compEnvC inner cl (s₁.heap.push (rK [] 0)).objs.size env) (relabel inner env):=⟨rfl,NL,F.E.glob,F.E.bi⟩
 have T₃:oa _ h₃ src 0 it own:=T₁.keep (λa ha o g=>grow a o (w₂.g.x.keep a o g (W₁ a ha).2.1 id)) (λr hr=>(w₂.g.x.tc r hr).2) ok₁
 have W₃:=W₁.keep (w₂.g.trans g₃).x λZ Z=>id
 have main:=JE (γ:=γ) (R:=compPost (model cx.prog cx.w) A kX use Q' (.ref s₁.heap.objs.size) (s₁.heap.push (rK [] 0)).objs.size) (s₃:={s₁ with heap:=h₃,toks:=s₁.toks}) (elt:=elt) (target:=target) (iter:=iter) (ifs:=ifs) (p:=p) (D:=s₁.heap.objs.size) (EI inner env) ct cs ce F.hA hE rfl ht step
  ⟨0,_,_,λZ=>none,rfl,⟨⟨g13.x.x,g13.S,⟨_,ON,λZ Z e=>nn e⟩,XO,XQ,λx r e=>?_⟩,T₃,W₃,λhm=>(W₁ _ hm).2.2.elim λo g=>ir (w₂.g.x.keep _ o g.1 (W₁ _ hm).2.1 id) Xu,F.S.rel.base⟩,by rw[fW],q₁⟩
  λφ' σ' s' ρ' g V q=>g.L.ns.elim λm' n=>kk φ' σ' s' _ z _ m' ⟨g.x.drop λb e=>(show b=_ from e)▸hC0,g.S⟩ V ⟨hC0,g.L.FV,n.1⟩ q
 ·exact codeAny_compStart_list main (aZ (Jm (s:={s₁ with heap:=h₃,toks:=s₁.toks}) T₃ YJ main) (λZ Z x=>x) λZ Z x=>aN x)
 ·unfold qK at e
  by_cases hx:x∈kE m++jD ms
  ·have e:=(if_pos hx).symm.trans e
   have a:=F.L.iN x r e
   have b:=g₂.x.tc r a.1
   exact⟨b.1,(Gq.2 _ _ (mem_of_lookup (beq_iff_eq.mp (List.all_eq_true.mp f.2 x hx))) a.2).trans (by rw[b.2])⟩
  ·exact nn ((if_neg hx).symm.trans e)
theorem Ds.own{C:Addr}{m':Str→Option Value}(c:Ds cx φ' σ' s s' C m'):Own cx φ' σ' s.heap s'.heap [C]:=λa ha=>(ag.mp ha).symm▸⟨c.new,c.fp,c.ns.elim λo w=>w.elim λes w=>w.elim λep w=>⟨o,w.1,λvs q=>bA (w.2.1.symm.trans (congrArg cy q)),λvs x t q=>bA (w.2.1.symm.trans q)⟩⟩
theorem MX{C:Addr}(hs:Heap.SameBut C h h'):s9 [C] h h':=λb o n e=>hs.extBut b o (λq=>n (q▸.head _)) e
theorem IY{own:List Addr}(mv:s9 own h h'):E7 cx (BH own) φ σ h φ σ h':=⟨λZ e=>⟨e,rfl⟩,λb o e Z n=>mv b o n e,λZ e e'=>absurd e e'⟩
theorem we{m:ME}{t:sJ}{mi:ME}{ms:List ME}{Q:V→Hp→Prop}(QI:uD mi=false)(Inv:Src→I→Nat→Hp→Prop)(N:Nat)(hγ:∀x∈kE m++jD ms,∃r,γ x=some r)
  (h:WI cx d mi γ ρ σ (BJ t Inv))(step:Ax cx d m t ms γ Inv N Q):WE cx d (.comp m t mi ms) γ ρ σ Q:=λsc ex c A env φ s F Q' k=>c.comp λinner elt target iter ifs p Pq U2 ct ci cs ce=>by
 rw[eval_ListComp]
 exact Bu Pq U2 ct ci cs ce QI F Inv N hγ h step λφ' σ' s' C z acc m' g V cf q=>⟨m',cf.ns,λh' hs=>
  have mv:=MX hs
  k φ' σ' {s' with heap:=h'} _ _ ⟨g.x.CF (λa ha=>(cf.own a ha).1) mv,cf.own.rel g.S.rel F.S.rel.base mv,g.S.gens,g.S.drawn,g.S.os⟩ (V.tr (.of g.S.rel cf.own.tJ (IY mv))) q⟩
theorem Zf{te e:Expr}{g:List Comprehension}{sc':Scope}{p:Pos}{l:Nat}{t':sJ}(ct:lp sc te t'):∃b,swapsWithSole [te] (.ListComp e g sc' p) l env=pure b:=by
 cases t' with
 |one t=>
  cases t with
  |var=>exact rB.var ct λZ Z=>⟨_,rfl⟩
  |iN=>exact rB.iN ct λZ Z=>⟨_,rfl⟩
 |tup=>exact lp.tup ct λZ Z Z Z=>⟨_,rfl⟩
theorem DA{t':sJ}{m:ME}{t:sJ}{mi:ME}{ms:List ME}{Q:Fl→Hp→Loc→Prop}(QI:uD mi=false)(Inv:Src→I→Nat→Hp→Prop)(N:Nat)(hγ:∀x∈kE m++jD ms,∃r,γ x=some r)
  (h:WI cx d mi γ ρ σ (BJ t Inv))(step:Ax cx d m t ms γ Inv N (VK γ t' ρ Q)):W1 cx d (.asg t' (.comp m t mi ms)) γ ρ σ Q:=λsc st c A env φ s F Q' k=>c.asg λte ve p Vb nt c'=>by
 have hE:=we QI Inv N hγ h step _ _ c' A env φ s F
 have sw:=f7 nt
 revert sw hE
 refine c'.comp λinner elt target iter ifs p' Pq U2 ct ci cs ce hE sw=>?_
 refine(Zf (env:=env) (l:=p.line) (e:=elt) (g:=[⟨target,iter,ifs,0⟩]) (sc':=inner) (p:=p') Vb).elim λb hb=>?_
 cases b with
 |false=>exact wpAny_Assign_stores (hE _ λφ' σ' s' v y g vr q=>(Du Vb y env).symm▸yG Vb (F.go g) vr q λσ'' oZ ρ'' g' hk=>k φ' σ'' oZ ρ'' .next _ ((F.gx g).trans g') rfl hk) hb (wU sw.1)
 |true=>
  rw[arm_exec_Assign]
  refine af (bX ?_)
  rw[hb]
  refine af (aq ?_)
  rw[if_pos rfl]
  refine af ?_
  show aB _ A (do let _ ←comprehension _ _ env _ (newList []) false (eval _ env) (some λv=>assignAll v ((assignEach [te] env).map (·.2)))) _ _ s
  refine af (aZ (Bu (Q':=λZ s'=>Q' .next s') Pq U2 ct ci cs ce QI F Inv N hγ h step λφ' σ' s' C z acc m' g V cf q=>?_) (λZ s' hq=>aq (aq hq)) λZ Z x=>x)
  show aB _ A (assignAll acc ((assignEach [te] env).map (·.2))) _ _ s'
  rw[Du Vb]
  have hCl:C≠env.locals:=λe=>F.L.ns.elim λZ u=>u.1.elim λZ w=>w.elim λZ w=>w.elim λZ w=>ir w.1 (e▸cf.new)
  refine yG Vb (F.go g) V q λσ₃ s₃ ρ₃ g3 hq=>?_
  have Xc:Ds cx φ' σ₃ s s₃ C m':=⟨cf.new,cf.ns.elim λo w=>w.elim λes w=>w.elim λep w=>g3.x.fp w.1 cf.fp,cf.ns.elim λo w=>w.elim λes w=>w.elim λep w=>⟨o,es,ep,g3.x.keep C o w.1 cf.fp hCl,w.2⟩⟩
  refine⟨m',Xc.ns,λh' hs=>?_⟩
  have mv:=MX hs
  exact k φ' σ₃ {s₃ with heap:=h'} ρ₃ .next _ ⟨(g.x.x.trans g3.x).CF (λa ha=>(Xc.own a ha).1) mv,⟨Xc.own.rel g3.S.rel F.S.rel.base mv,g3.S.gens,g3.S.drawn,g3.S.os⟩,g3.L.soft g3.S.rel Xc.own.tJ (IY mv) λe=>hCl (ag.mp e).symm⟩ rfl hq
end
end
end
mutual
section
open PySem.SeqAt PySem.MeetsSeq
section
variable{cx:Cx}{d:Nat}{γ:Nm→Option I}{ρ:Loc}{σ:Hp}{φ φ':Ph}{h h':Heap}{s:Shared}{A:Around}
def Va(Inv:Nat→Hp→Loc→Prop)(n:Nat)(Q:Fl→Hp→Loc→Prop)(fl:Fl)(σ:Hp)(ρ:Loc):Prop:=fl.casesOn (∃m,m<n∧Inv m σ ρ) (Q .next σ ρ) (∃m,m<n∧Inv m σ ρ) λv=>Q (.ret v) σ ρ
def whQ(cx:Cx)(d:Nat)(γ:Nm→Option I)(ρ:Loc)(b:List MS)(Inv:Nat→Hp→Loc→Prop)(n:Nat)(Q:Fl→Hp→Loc→Prop)(c:Bool)(σ:Hp):Prop:=c.casesOn (Q .next σ ρ) (WS cx d b γ ρ σ (Va Inv n Q))
def Ye(cx:Cx)(env:Env)(γ:Nm→Option I)(φ:Ph)(σ:Hp)(s:Shared)(Inv:Nat→Hp→Loc→Prop)(n:Nat)(s':Shared):Prop:=∃φ' σ' ρ',yW cx env γ φ σ s ρ' φ' σ' s'∧Inv n σ' ρ'
theorem DO{t:ME}{b:List MS}{Q:Fl→Hp→Loc→Prop}(Inv:Nat→Hp→Loc→Prop)(n:Nat)(h0:Inv n σ ρ)
  (step:∀n σ' ρ',Inv n σ' ρ'→WT cx d t γ ρ' σ' (whQ cx d γ ρ' b Inv n Q)):W1 cx d (.wh t b) γ ρ σ Q:=λsc st c A env φ s F Q' k=>c.wh λte be p ct cb=>
 wpAny_While (codeAny_whileLoop (Ye cx env γ φ σ s Inv) (λn s' hv=>hv.elim λφ' hv=>hv.elim λσ' hv=>hv.elim λρ' hv=>
  have F':=F.x hv.1
  aZ (step n σ' ρ' hv.2 _ _ ct A env φ' s' F' _ λφ₂ σ₂ s₂ c g₂ q₂=>by
   have g:=hv.1.trans (F'.gx g₂)
   cases c with
   |false=>exact wpAny_execs_nil (k φ₂ σ₂ s₂ ρ' .next _ g rfl q₂)
   |true=>
    exact aZ (q₂ _ _ cb A env φ₂ s₂ (F.x g) _ λφ₃ σ₃ s₃ ρ₃ fl fv g₃ fr q₃=>by
     have g:=g.trans g₃
     cases fl with
     |next |cont=>cases fr;exact aI q₃ λm q=>⟨m,q.1,φ₃,σ₃,ρ₃,g,q.2⟩
     |brk=>cases fr;exact k φ₃ σ₃ s₃ ρ₃ .next _ g rfl q₃
     |ret v=>exact fr.elim λy u=>u.1▸k φ₃ σ₃ s₃ ρ₃ (.ret v) _ g ⟨y,rfl,u.2⟩ q₃) (λZ Z z=>z) λZ Z z=>aN z) (λZ Z z=>z) λZ Z z=>aN z) n ⟨φ,σ,ρ,F.me,h0⟩)
variable{Q:V→Hp→Prop}
inductive NX(cx:Cx)(d:Nat)(γ:Nm→Option I)(ρ:Loc)(P:Hp→V→Prop)(m:ME)(G:V→V→Hp→Prop)(v:V)(σ:Hp):Prop
 |mk:P σ v→WE cx d m γ ρ σ (G v)→NX cx d γ ρ P m G v σ
def YN(cx:Cx)(d:Nat)(id:String)(G:V→V→Hp→Prop)(Q:V→Hp→Prop):Prop:=
 ∀(A:Around) φ σ s v y u z (Q':Value→Shared→Prop),nU A d→kO cx φ σ s→gJ s.heap φ σ v y→gJ s.heap φ σ u z→G v u σ→KE cx φ σ s Q Q'→aB (model cx.prog cx.w) A (call (.builtin id) [y,z] []) Q' kX s
theorem rE{o m:ME}{a:Nm}{T id:String}{G:V→V→Hp→Prop}{P:Hp→V→Prop}(B:Xi T a.str id)(ty:GO cx P T)(h:WE cx d o γ ρ σ (NX cx d γ ρ P m G))(hc:YN cx d id G Q):WE cx d (.gn o a [m] []) γ ρ σ Q:=
 AK (G:=λv=>R6 (G v)) B ty (jv h λv σ q=>q.casesOn λp w=>⟨p,wN w⟩) λA φ σ s v y vs ys Q' hA S vr Gb q k=>q.casesOn λu e q=>(gh.un (e▸Gb)).elim λz w=>w.elim λzs w=>by
  rw[w.1,show zs=[]from w.2.2]
  exact hc A φ σ s v y u z Q' hA S vr w.2.1 q k
inductive WD(Q:V→Hp→Prop)(v u:V)(σ:Hp):Prop
 |mk (r:I) (l:List V):v=.ref r→σ r=some (.list l)→l.length<100000→Q .none (up σ r (some (.list (l++[u]))))→WD Q v u σ
theorem jM(O:gT cx){o m:ME}(h:WE cx d o γ ρ σ (NX cx d γ ρ IsList m (WD Q))):WE cx d (.gn o .h7 [m] []) γ ρ σ Q:=
 rE ⟨b4,fB,PySem.F.type_list_append⟩ ty_list h λA φ σ s v y u z Q' hA S vr ur q k=>q.casesOn λr l e1 e2 hl q=>
  vr.at e1▸Bz S e2 ur hl λh' g=>k φ _ _ _ _ g .none q
inductive Qt(Q:V→Hp→Prop)(v u:V)(σ:Hp):Prop
 |mk (r:I) (l:List V) (p:I) (l2:List V):v=.ref r→u=.ref p→σ r=some (.list l)→σ p=some (.list l2)→l.length+l2.length≤100000→Q .none (up σ r (some (.list (l++l2))))→Qt Q v u σ
theorem JZ(O:gT cx){o m:ME}(h:WE cx d o γ ρ σ (NX cx d γ ρ IsList m (Qt Q))):WE cx d (.gn o .uc [m] []) γ ρ σ Q:=
 rE ⟨b4,fC,PySem.F.type_list_extend⟩ ty_list h λA φ σ s v y u z Q' hA S vr ur q k=>q.casesOn λr l p l2 e1 e3 e2 e4 hl q=>
  vr.at e1▸ur.at e3▸(S.rel.objs _ _ e2).2.elim λws w=>w.elim λn w=>(S.rel.objs _ _ e4).2.elim λzs w'=>w'.elim λn' w'=>by
   have hn:=gh.length w.2.1
   have A9:=gh.length w'.2.1
   rw[hn,A9]at hl
   exact ew fC ⟨_,w.1,rfl⟩ PySem.F.entry_list_extend (PySem.F.args_list_extend_2 _ _)
    (AutoSeq1.list_extend_list_list_0 _ ws.toArray n _ zs.toArray n' (by
     unfold Builtin.List.listTooLong
     simp only [aC,c7,decide_eq_true_eq,not_and]
     intro _
     have:=cz
     first |omega |(simp;omega)) (by rw[aC];exact nT (ab (aA _ _) hl)) (by rw[aC,aC];exact c6 (nT hl))) ⟨w.1,w'.1,
     k φ _ _ _ _ (wV (l':=l++l2) S e2 (λxs=>xs++zs.toArray) (λws wr=>⟨ws++zs,List.append_toArray ..,wr.append w'.2.1⟩) (by rw[ax,hn,A9];exact hl) s.toks) .none q⟩
theorem gh.erase:∀{l:List V} {vs:List Value} (i:Nat),gh h φ σ l vs→gh h φ σ (l.eraseIdx i) (vs.eraseIdx i)
 |[],vs,i,r=>by rw[show vs=[]from r,List.eraseIdx_nil,List.eraseIdx_nil];rfl
 |v::l,vs,i,r=>(gh.un r).elim λy w=>w.elim λz w=>w.1▸i.casesOn w.2.2 λi=>.cons w.2.1 (gh.erase i w.2.2)
theorem JP(vs:List Value)(i:Nat):vs.toArray.eraseIdxIfInBounds i=(vs.eraseIdx i).toArray:=by
 unfold Array.eraseIdxIfInBounds
 split
 ·rw[List.eraseIdx_toArray]
 ·rename_i h
  rw[List.eraseIdx_of_length_le (by simpa using h)]
theorem IH(S:kO cx φ σ s){r:I}{l:List V}(e:σ r=some (.list l))(i:Nat):Go cx φ σ s φ (up σ r (some (.list (l.eraseIdx i)))) {s with heap:=s.heap.update (φ r).1 (bI λxs=>xs.eraseIdxIfInBounds i),toks:=s.toks}:=
 wV S e _ (λws wr=>⟨ws.eraseIdx _,JP _ _,wr.erase _⟩) (ab (List.length_eraseIdx_le _ _) ((S.rel.objs _ _ e).2.elim λvs w=>w.elim λn w=>w.2.2)) s.toks
inductive SF(Q:V→Hp→Prop)(v:V)(σ:Hp):Prop
 |mk (r:I) (l:List V) (u:V):v=.ref r→σ r=some (.list l)→l[l.length - 1]?=some u→Q u (up σ r (some (.list (l.eraseIdx (l.length - 1)))))→SF Q v σ
theorem T4(O:gT cx){o:ME}(h:WE cx d o γ ρ σ (SF Q)):WE cx d (.gn o .Fv [] []) γ ρ σ Q:=
 AK (P:=IsList) (G:=λv vs σ=>vs=[]∧SF Q v σ) ⟨b4,cX,PySem.F.type_list_pop⟩ ty_list (jv h λv σ q=>⟨q.casesOn λr l u e1 e2 Z Z=>e1▸⟨l,e2⟩,fZ ⟨rfl,q⟩⟩)
  λA φ σ s v y vs ys Q' hA S vr Gb q k=>q.2.casesOn λr l u e1 e2 hu q2=>(S.rel.objs _ _ e2).2.elim λws w=>w.elim λn w=>by
   rw[vr.at e1,show ys=[]from(show gh s.heap φ σ [] ys from q.1▸Gb)]
   have hn:=gh.length w.2.1
   refine(w.2.1.get hu).elim λz zz=>ew cX ⟨_,w.1,rfl⟩ fQ (PySem.F.args_list_pop_1 _) (list_pop_last _ ws.toArray n z (by rw[aC,←hn];exact(bu ..).trans zz.1) (by rw[aC,←hn];exact nT w.2.2)) ⟨w.1,?_⟩
   rw[aC,←hn]
   have g:=IH S e2 (l.length - 1)
   exact k φ _ _ _ _ g (zz.2.ext S.rel g.x) q2
inductive Mq(Q:V→Hp→Prop)(v:V)(σ:Hp):Prop
 |mk (r:I) (u:V) (l:List V):v=.ref r→σ r=some (.list (u::l))→Q u (up σ r (some (.list l)))→Mq Q v σ
theorem It(O:gT cx){o:ME}(h:WE cx d o γ ρ σ (Mq Q)):WE cx d (.gn o .Fv [.int 0] []) γ ρ σ Q:=
 rE (P:=IsList) (G:=λv u σ=>u=.int 0∧Mq Q v σ) ⟨b4,cX,PySem.F.type_list_pop⟩ ty_list (jv h λv σ q=>⟨q.casesOn λr u l e1 e2 Z=>e1▸⟨_,e2⟩,gO O ⟨rfl,q⟩⟩)
  λA φ σ s v y u z Q' hA S vr ur q k=>q.2.casesOn λr u l e1 e2 q2=>(S.rel.objs _ _ e2).2.elim λws w=>w.elim λn w=>(ur.i q.1).elim λt et=>(gh.un w.2.1).elim λz ww=>ww.elim λzs ww=>vr.at e1▸et▸by
   have g:=IH S e2 0
   have hn:=gh.length w.2.1
   refine ew cX ⟨_,w.1,rfl⟩ fQ (PySem.F.args_list_pop_2 _ _) (list_pop_at _ ws.toArray n 0 t 0 z (by decide) (seqIndex_of (Int.le_refl 0) ?_) ?_ (by rw[aC,←hn];exact nT w.2.2)) ⟨w.1,k φ _ _ _ _ g (ww.2.1.ext S.rel g.x) q2⟩
   ·rw[aC,←hn];exact Int.ofNat_lt.mpr (Nat.succ_pos _)
   ·rw[ww.1];rfl
inductive Nq(Q:V→Hp→Prop)(v u:V)(σ:Hp):Prop
 |mk (r:I) (l:List V) (j:Nat):v=.ref r→σ r=some (.list l)→l.all isAtom=true→isAtom u=true→(∃x,l[j]?=some x∧i5 x u=true)→(∀i x,i<j→l[i]?=some x→i5 x u=false)→Q (.int (j:Nat)) σ→Nq Q v u σ
theorem Uj{ws:List Value}{j:Nat}{z:Value}(h:j<ws.toArray.size)(e:ws[j]?=some z):ws.toArray[j]=z:=Option.some.inj ((bY h).symm.trans ((bu ..).trans e))
theorem Ms(O:gT cx){o m:ME}(h:WE cx d o γ ρ σ (NX cx d γ ρ IsList m (Nq Q))):WE cx d (.gn o .HS [m] []) γ ρ σ Q:=
 rE ⟨b4,fJ,PySem.F.type_list_index⟩ ty_list h λA φ σ s v y u z Q' hA S vr ur q k=>q.casesOn λr l j e1 e2 ha hu hx YJ q=>vr.at e1▸(S.rel.objs _ _ e2).2.elim λws w=>w.elim λn w=>by
  have hn:ws.toArray.size=l.length:=by rw[aC,←gh.length w.2.1]
  have key:∀{i x},l[i]?=some x→∀h:i<ws.toArray.size,y3 u ws.toArray[i]=i5 x u:=λhx h=>(w.2.1.get hx).elim λz e=>Uj h e.1▸Di hu (Cg ha hx) e.2
  exact hx.elim λx hx=>have hj:j<ws.toArray.size:=hn▸mE hx.1
   ew fJ ⟨_,w.1,rfl⟩ PySem.F.entry_list_index (PySem.F.args_list_index_2 _ _)
    (list_indexAt _ ws.toArray n none #[] _ (y3 u) j hj (by have:=w.2.2;omega) ((key hx.1 hj).trans hx.2) λm hm hmj=>have Z1:l[m]?=some l[m]:=aG (hn▸hm);(key Z1 hm).trans (YJ m _ hmj Z1)) ⟨w.1,AH w.2.1 ha hu ur,k φ σ _ _ _ (.tok S _) (.int _ _) q⟩
end
end
end
mutual
section
open PySem.SeqAt PySem.MeetsSeq
section
variable{cx:Cx}{d:Nat}{γ:Nm→Option I}{ρ:Loc}{σ:Hp}{φ φ':Ph}{h h':Heap}{s:Shared}{A:Around}
def putD(l:List (Str×V))(k:Str)(v:V):List (Str×V):=if l.any (λp=>p.1==k)then l.map (λp=>if p.1==k then (p.1,v)else p)else l++[(k,v)]
def delD(l:List (Str×V))(k:Str):List (Str×V):=l.filter λp=>!(p.1==k)
theorem DF(l:List (Str×V))(k:Str)(v:V):(putD l k v).length≤l.length+1:=by
 by_cases h:l.any (λp=>p.1==k)=true
 ·rw[show putD l k v=_ from if_pos h,ai];exact aT _
 ·rw[show putD l k v=_ from if_neg h,ax];exact aL _
theorem nh.nil_inv{kvs:List (Str×Value)}(w:nh h φ σ [] kvs):kvs=[]:=List.map_eq_nil_iff.mp w.1
theorem nh.cons_inv{p:Str×V}{l:List (Str×V)}{kvs:List (Str×Value)}(w:nh h φ σ (p::l) kvs):∃y r,kvs=(p.1,y)::r∧gJ h φ σ p.2 y∧nh h φ σ l r:=by
 cases kvs with
 |nil=>exact absurd w.1.symm (b5 _ _)
 |cons q kvs=>exact have e:=List.cons.inj w.1;(gh.un w.2).elim λy u=>u.elim λz u=>have e2:q.2=y∧kvs.map (·.2)=z:=List.cons.inj u.1;⟨q.2,kvs,congrArg (λa=>(a,q.2)::kvs) e.1,e2.1▸u.2.1,e.2,e2.2▸u.2.2⟩
theorem nh.cons{p:Str×V}{l:List (Str×V)}{y:Value}{r:List (Str×Value)}(a:gJ h φ σ p.2 y)(b:nh h φ σ l r):nh h φ σ (p::l) ((p.1,y)::r):=⟨congrArg (p.1:: ·) b.1,.cons a b.2⟩
theorem nh.nil:nh h φ σ [] []:=⟨rfl,rfl⟩
theorem OC(a k:Str):decide (a=k)=(a==k):=by
 by_cases q:a=k
 ·rw[decide_eq_true q,beq_iff_eq.mpr q]
 ·rw[decide_eq_false q,beq_eq_false_iff_ne.mpr q]
theorem nh.any(k:Str):∀{l:List (Str×V)} {kvs:List (Str×Value)},nh h φ σ l kvs→(kvs.any λkv=>decide (kv.1=k))=l.any λp=>p.1==k
 |[],kvs,w=>w.nil_inv▸rfl
 |p::l,kvs,w=>w.cons_inv.elim λy u=>u.elim λr u=>u.1▸(by rw[dF,dF,nh.any k u.2.2,OC])
theorem nh.put{k:Str}{v:V}{y:Value}(vr:gJ h φ σ v y):∀{l:List (Str×V)} {kvs:List (Str×Value)},nh h φ σ l kvs→nh h φ σ (l.map λp=>if p.1==k then (p.1,v)else p) (kvs.map λkv=>if kv.1=k then (kv.1,y)else kv)
 |[],kvs,w=>w.nil_inv▸.nil
 |p::l,kvs,w=>w.cons_inv.elim λz u=>u.elim λr u=>u.1▸(by
  have ih:=nh.put (k:=k) vr u.2.2
  rw[bT,bT]
  by_cases q:p.1=k
  ·rw[if_pos q,if_pos (beq_iff_eq.mpr q)];exact .cons (p:=(p.1,v)) vr ih
  ·rw[if_neg q,if_neg λe=>q (beq_iff_eq.mp e)];exact .cons u.2.1 ih)
theorem P7{l:List (Str×V)}{kvs:List (Str×Value)}{k:Str}{v:V}{y:Value}(hd:nh h φ σ l kvs)(vr:gJ h φ σ v y):nh h φ σ (putD l k v) (stored kvs k y):=by
 unfold putD stored
 rw[hd.any k]
 by_cases q:(l.any λp=>p.1==k)=true
 ·rw[if_pos q,if_pos q];exact hd.put vr
 ·rw[if_neg q,if_neg q];exact⟨by rw[ar,ar,hd.1];rfl,by rw[ar,ar];exact hd.2.append (.cons vr .nil)⟩
theorem IA{k:Str}:∀{l:List (Str×V)} {kvs:List (Str×Value)},nh h φ σ l kvs→nh h φ σ (delD l k) (without kvs k)
 |[],kvs,w=>w.nil_inv▸.nil
 |p::l,kvs,w=>w.cons_inv.elim λz u=>u.elim λr u=>u.1▸(by
  have ih:=IA (k:=k) u.2.2
  unfold delD without at ih ⊢
  by_cases q:p.1=k
  ·rw[bN (by simp [q]),bN (by simp [q])];exact ih
  ·rw[bO (by simp [q]),bO (by simp [q])];exact .cons u.2.1 ih)
theorem AB(S:kO cx φ σ s){r:I}{l l':List (Str×V)}(hr:σ r=some (.dict l)){Ov:List (Str×Value)}{h':Heap}(hD:h'.DictOf (strKind cx.prog cx.w) (φ r).1 Ov)(hs:Heap.SameBut (φ r).1 s.heap h')(hl:l'.length≤100000)(hd:nh s.heap φ σ l' Ov)(t:Nat):
  Go cx φ σ s φ (up σ r (some (.dict l'))) {s with heap:=h',toks:=t}:=
 have q:=S.rel.objs _ _ hr
 have hob:∃q,h'.get? (φ r).1=some q:=hD.elim λo w=>w.elim λZ w=>w.elim λZ w=>⟨o,w.1⟩
 have key:=change (o':=.dict l') S.rel hr (h':=h') (λb q n Z e=>(hs.2 b n).trans e) hob (by rw[q.1];exact hob) λX=>⟨q.1,q.2.1,Ov,hD,nh.ext (X:=Un) S.rel X hd,hl⟩
 ⟨key.1,key.2,S.gens,S.drawn,S.os⟩
inductive Tw(σ:Hp)(r:I)(x:Str)(v:V)(k:Hp→Prop):Prop
 |mk (l:List (Str×V)):σ r=some (.dict l)→l.length<100000→k (up σ r (some (.dict (putD l x v))))→Tw σ r x v k
inductive RT(σ:Hp)(r:I)(j:Int)(v:V)(k:Hp→Prop):Prop
 |mk (l:List V):σ r=some (.list l)→0≤j→j<l.length→k (up σ r (some (.list (l.set j.toNat v))))→RT σ r j v k
def U1(σ:Hp)(o i v:V)(k:Hp→Prop):Prop:=o.Uv False λr=>i.casesOn False (λZ=>False) (λj=>RT σ r j v k) (λx=>Tw σ r x v k) (λZ=>False) λZ=>False
theorem gh.set:∀{l:List V} {vs:List Value} (i:Nat) {v:V} {y:Value},gh h φ σ l vs→gJ h φ σ v y→gh h φ σ (l.set i v) (vs.set i y)
 |[],vs,i,v,y,r,_=>by rw[show vs=[]from r,List.set_nil,List.set_nil];rfl
 |u::l,vs,i,v,y,r,q=>(gh.un r).elim λz w=>w.elim λzs w=>w.1▸i.casesOn (.cons q w.2.2) λi=>.cons w.2.1 (gh.set i w.2.2 q)
theorem Bl{prog:Program}{w:World}{E:Value→Shared→Prop}{l:Addr}{items:Array Value}{n:Nat}{k:Int}{t:Tok}{v:Value}{Q:Unit→Shared→Prop}(hl:IsL s.heap l items n)(h0:0≤k)(OD:k<2 ^63)(hn:k<items.size)
  (hQ:Q () {s with heap:=s.heap.update l (bI (·.setIfInBounds k.toNat v))}):aB (model prog w) A (setItem (.ref l) (.int k t) v) Q E s:=by
 have hT:s.TypeIs (.ref l) "list":=⟨_,hl,rfl⟩
 have hd:cy {cls:=.type "list",dict:=none,data:=.seq items n,slots:=#[]}=.seq items n:=rfl
 unfold setItem
 try with_reducible refine bL ?_
 first |refine af (aq ?_) |skip
 refine af (wpAny_sequenceKey hT (by decide) ?_)
 refine af (wpAny_callSpecial?_slot (name:=aa "__setitem__") hT slot_list_setitem
  (dv slot_list_setitem hT entry_list_setitem ?_ (args_list_setitem _ _ _)))
 show aB _ _ (Builtin.List.listSubscript? (.int k t) >>=_) _ _ s
 refine af (wpAny_listSubscript_int (fitsIndex_of h0 OD) ?_)
 clear OD
 obtain ⟨j,rfl⟩:=dQ h0
 have hj:j<items.size:=by omega
 have Wn:items[j]?=some items[j]:=bY hj
 show aB _ _ ((seqItemAt l j >>=λr=>pure (r.map (j, ·))) >>=_) _ _ s
 refine af (af (wpAny_seqItemAt hl hd (aq ?_)))
 rw[Wn]
 show aB _ _ (setSeqItemAt l j v >>=_) _ _ s
 refine af (wpAny_setSeqItemAt hl hd ?_)
 first
  |exact af (aq (aq ⟨.none,rfl,aq hQ⟩))
  |exact aq ⟨.none,rfl,aq hQ⟩
theorem R3{o i v:V}{x y z:Value}{k:Hp→Prop}{Q':Unit→Shared→Prop}(S:kO cx φ σ s)(vo:gJ s.heap φ σ o x)(vi:gJ s.heap φ σ i y)(vv:gJ s.heap φ σ v z)(hq:U1 σ o i v k)
  (hk:∀σ' s',Go cx φ σ s φ σ' s'→k σ'→Q' () s'):aB (model cx.prog cx.w) A (setItem x y z) Q' kX s:=by
 cases o with
 |ref r=>
  cases i with
  |str kx=>
   exact Tw.casesOn hq λl e hl q=>vo.at'▸(vi.s rfl).elim λt et=>et▸(S.rel.objs _ _ e).2.2.elim λkvs w=>
    wpAny_setItem_pairs (bM kx t) w.1 (λh' Yc hs=>hk _ _ (AB S e Yc hs (ab (DF _ _ _) hl) (P7 w.2.1 vv) (s.toks+1)) q) (by rw[sh w.2.1];exact nT (aY hl))
  |int j=>
   exact RT.casesOn hq λl e h0 hl q=>vo.at'▸(vi.i rfl).elim λt et=>et▸(S.rel.objs _ _ e).2.elim λws w=>w.elim λn w=>
    Bl (n:=n) w.1 h0 (Int.lt_trans hl (Fq w.2.2)) (by rw[aC,←gh.length w.2.1];exact hl)
     (hk _ _ (wV (l':=l.set j.toNat v) S e (λxs=>xs.setIfInBounds j.toNat z) (λws wr=>⟨ws.set j.toNat z,List.setIfInBounds_toArray ..,wr.set j.toNat vv⟩) (by rw[List.length_set];exact w.2.2) s.toks) q)
  |_=>exact aN hq
 |_=>exact aN hq
def T1(Q:Fl→Hp→Loc→Prop)(ρ:Loc)(v u w:V)(σ:Hp):Prop:=U1 σ u w v λσ₄=>Q .next σ₄ ρ
def Sz(cx:Cx)(d:Nat)(γ:Nm→Option I)(ρ:Loc)(i:ME)(Q:Fl→Hp→Loc→Prop)(v u:V)(σ:Hp):Prop:=WE cx d i γ ρ σ (T1 Q ρ v u)
def VQ(cx:Cx)(d:Nat)(γ:Nm→Option I)(ρ:Loc)(o i:ME)(Q:Fl→Hp→Loc→Prop)(v:V)(σ:Hp):Prop:=WE cx d o γ ρ σ (Sz cx d γ ρ i Q v)
theorem lL{o i m:ME}{Q:Fl→Hp→Loc→Prop}(h:WE cx d m γ ρ σ (VQ cx d γ ρ o i Q)):W1 cx d (.sets o i m) γ ρ σ Q:=λsc st c A env φ s F Q' k=>c.sets λoe ie p1 ve p ns nsl co ci cv=>
 wpAny_Assign_Subscript (h _ _ cv A env φ s F _ λφ₁ σ₁ s₁ v y g₁ vv q₁=>q₁ _ _ co A env φ₁ s₁ (F.go g₁) _ λφ₂ σ₂ s₂ u yo g₂ vo q₂=>q₂ _ _ ci A env φ₂ s₂ (F.go (g₁.trans g₂)) _ λφ₃ σ₃ s₃ w yi g₃ vi q₃=>
  R3 g₃.S (vo.ext g₂.S.rel g₃.x) vi (vv.ext g₁.S.rel (g₂.trans g₃).x) q₃ λσ₄ s₄ g₄ q₄=>k φ₃ σ₄ s₄ ρ .next _ (F.gx (((g₁.trans g₂).trans g₃).trans g₄)) rfl q₄) (yN ns _ _ _)
inductive U3(Q:Fl→Hp→Loc→Prop)(ρ:Loc)(u w:V)(σ:Hp):Prop
 |mk (r:I) (kx:Str) (l:List (Str×V)):u=.ref r→w=.str kx→σ r=some (.dict l)→(l.lookup kx).isSome=true→Q .next (up σ r (some (.dict (delD l kx)))) ρ→U3 Q ρ u w σ
theorem PC{o i:ME}{Q:Fl→Hp→Loc→Prop}(h:WE cx d o γ ρ σ (FZ cx d γ ρ i (U3 Q ρ))):W1 cx d (.J8 o i) γ ρ σ Q:=λsc st c A env φ s F Q' k=>c.J8 λoe ie p1 p nsl co ci=>by
 rw[arm_exec_Delete]
 refine af (bX (af ?_))
 show aB _ _ (delete _ env >>=λZ=>pure ()) _ _ _
 refine af (wpAny_delete_Subscript (h _ _ co A env φ s F _ λφ₂ σ₂ s₂ u yo g₂ vo q₂=>q₂ _ _ ci A env φ₂ s₂ (F.go g₂) _ λφ₃ σ₃ s₃ w yi g₃ vi q₃=>q₃.casesOn λr kx l e1 e2 e3 e4 q₃=>?_))
 rw[(vo.ext g₂.S.rel g₃.x).at e1]
 refine(vi.s e2).elim λt et=>et▸(g₃.S.rel.objs _ _ e3).2.2.elim λkvs w=>?_
 unfold delItem
 try with_reducible refine bL ?_
 exact af (wpAny_sequenceKey w.1.typeIs rfl (af (wpAny_callSpecial?_slot (name:=aa "__delitem__") w.1.typeIs fy
  (dE fy w.1.typeIs PySem.F.entry_dict_delitem (PySem.F.args_dict_delitem_2 _ _) (meets_dict_delitem_pairs (strKind cx.prog cx.w) _ (bM kx t)) ⟨kvs,w.1,by rw[sh w.2.1];exact nT w.2.2,by rw[(pF kx w.2.1).1];exact e4,λh' Yc hs=>
   have g₄:=AB g₃.S e3 Yc hs (ab (cA _ _) w.2.2) (IA (k:=kx) w.2.1) (s₃.toks+1)
   aq (aq (aq (k φ₃ _ _ ρ .next _ (F.gx ((g₂.trans g₃).trans g₄)) rfl q₃)))⟩))))
variable{Q:V→Hp→Prop}
inductive RU(Q:V→Hp→Prop)(v u:V)(σ:Hp):Prop
 |mk (r:I) (l:List (Str×V)) (kx:Str):v=.ref r→u=.str kx→σ r=some (.dict l)→Q ((l.lookup kx).getD .none) σ→RU Q v u σ
theorem Gn(O:gT cx){o m:ME}(h:WE cx d o γ ρ σ (NX cx d γ ρ IsDict m (RU Q))):WE cx d (.gn o .E5 [m,.n5] []) γ ρ σ Q:=
 AK (G:=λv vs σ=>∃u,vs=[u,.none]∧RU Q v u σ) ⟨b3,PySem.F.slot_dict_get,PySem.F.type_dict_get⟩ ty_dict
  (jv h λv σ₁ q=>q.casesOn λhk hw=>⟨hk,fX (jv hw λu σ' q=>fX (iu (fZ ⟨u,rfl,q⟩)))⟩)
  λA φ σ s v y vs ys Q' hA S vr Gb q k=>q.elim λu q=>q.2.casesOn λr l kx e1 e3 e2 q2=>(gh.un (q.1▸Gb)).elim λz w=>w.elim λzs w=>(gh.un w.2.2).elim λz' w'=>w'.elim λzs' w'=>by
   rw[w.1,w'.1,show zs'=[]from w'.2.2,show z'=.none from w'.2.1,vr.at e1]
   refine(w.2.1.s e3).elim λt et=>et▸(S.rel.objs _ _ e2).2.elim λhn D=>D.elim λkvs D=>?_
   have dl:=pF kx D.2.1
   refine dE PySem.F.slot_dict_get D.1.typeIs PySem.F.entry_dict_get (PySem.F.args_dict_get_3 _ _ _) (meets_dict_get_default (strKind cx.prog cx.w) (k:=kx) (key:=.str kx t) _ (bM kx t) hn .none) ⟨_,D.1.mapOf,?_⟩
   cases hl:l.lookup kx with
   |none=>
    rw[hl]at q2
    rw[Option.isSome_eq_false_iff.mp (dl.1.trans (by rw[hl];rfl))|>Option.isNone_iff_eq_none.mp]
    exact k φ σ _ _ _ (.tok S _) .none q2
   |some w=>
    rw[hl]at q2
    exact(dl.2 w hl).elim λz e=>e.1.symm▸k φ σ _ _ _ (.tok S _) e.2 q2
inductive QO(Q:V→Hp→Prop)(v u:V)(σ:Hp):Prop
 |mk (r:I) (l:List (Str×V)) (p:I):v=.ref r→u=.ref p→r≠p→σ r=some (.dict l)→σ p=some (.dict [])→Q .none (up σ r (some (.dict l)))→QO Q v u σ
theorem FY(O:gT cx){o m:ME}(h:WE cx d o γ ρ σ (NX cx d γ ρ IsDict m (QO Q))):WE cx d (.gn o .pb [m] []) γ ρ σ Q:=
 rE ⟨b3,fD,PySem.F.type_dict_update⟩ ty_dict h λA φ σ s v y u z Q' hA S vr ur q k=>q.casesOn λr l p e1 e3 Fi e2 e4 q=>vr.at e1▸ur.at e3▸
  (S.rel.objs _ _ e2).2.2.elim λkvs D=>(S.rel.objs _ _ e4).2.elim λA9 D'=>D'.elim λOv D'=>by
   have hz:=D'.2.1.nil_inv
   rw[hz]at D'
   exact dE fD D.1.typeIs PySem.F.entry_dict_update (PySem.F.args_dict_update_2 _ _) (meets_dict_update (strKind cx.prog cx.w) _ _ (S.rel.inj r p (kq e2) (kq e4) Fi).1 A9) ⟨kvs,[],D.1,D'.1,by rw[sh D.2.1];exact nT D.2.2,λh' hm Z hs=>
    k φ _ _ _ _ (AB S e2 hm hs D.2.2 D.2.1 s.toks) .none q⟩
def strsOf(l:List V):Option (List Str):=l.rec (some []) λv Z ih=>v.Rz none λx=>ih.map (x:: ·)
theorem xl:∀{l:List V} {vs:List Value} {xs:List Str},gh h φ σ l vs→strsOf l=some xs→∃ps:List (Str×Tok),vs=strValues ps∧ps.map (·.1)=xs
 |[],vs,xs,r,e=>⟨[],r,Option.some.inj e⟩
 |v::l,vs,xs,r,e=>xA (f:=λx=>(strsOf l).map (x:: ·)) e λx hv e=>(gh.un r).elim λy w=>w.elim λzs w=>(w.2.1.s hv).elim λt et=>(Option.map_eq_some_iff.mp e).elim λys e=>(xl w.2.2 e.1).elim λps q=>
  ⟨(x,t)::ps,by rw[w.1,et,q.1];rfl,(congrArg (x:: ·) q.2).trans e.2⟩
inductive Ry(Q:V→Hp→Prop)(v u:V)(σ:Hp):Prop
 |mk (x:Str) (r:I) (l:List V) (xs:List Str):v=.str x→u=.ref r→σ r=some (.list l)→strsOf l=some xs→JoinOk x xs=true→Q (.str (Txt.join x xs)) σ→Ry Q v u σ
theorem N6(O:gT cx){o m:ME}(h:WE cx d o γ ρ σ (NX cx d γ ρ Rg m (Ry Q))):WE cx d (.gn o .zf [m] []) γ ρ σ Q:=
 rE ⟨PySem.F.plainAttrs_str,PySem.F.slot_str_join,PySem.F.type_str_join⟩ ty_str h λA φ σ s v y u z Q' hA S vr ur q k=>q.casesOn λx r l xs e1 e3 e2 e4 Xo q=>ur.at e3▸(vr.s e1).elim λt et=>et▸
  (S.rel.objs _ _ e2).2.elim λws w=>w.elim λn w=>(xl w.2.1 e4).elim λps p=>by
   obtain ⟨rfl,rfl⟩:=p
   have Xo:=oK (show(!_)=true from Xo)
   exact ew PySem.F.slot_str_join (typeIs_str _ _ _) PySem.F.entry_str_join (PySem.F.args_str_join_2 _ _) (meets_str_join_list x t _ ps Xo) ⟨⟨_,w.1,rfl,n,rfl⟩,post_join ps ⟨joinFit_length Xo,λt' kk=>k φ σ _ _ _ (.tok S _) (.str _ _) q⟩⟩
inductive Q0(Q:V→Hp→Prop)(v:V)(σ:Hp):Prop
 |mk (r:I) (l:List V):v=.ref r→σ r=some (.list l)→Q (.tup l) σ→Q0 Q v σ
theorem Bo(O:gT cx){m:ME}(h:WE cx d m γ ρ σ (Q0 Q)):WE cx d (.bi .Ip [m]) γ ρ σ Q:=
 qS O h λA φ σ s v y Q' hA S vr q k=>q.casesOn λr l e hr q=>vr.at e▸(S.rel.objs _ _ hr).2.elim λvs w=>w.elim λn w=>
  call_tuple_list ⟨_,w.1,rfl,n,rfl⟩ (λh' hk=>
   have kp:∀b o,s.heap.get? b=some o→(h'.push (jI vs)).get? b=some o:=λb o e=>aP _ (hk b o e)
   have X:Ext cx φ σ s.heap φ σ (h'.push (jI vs)):=Ext.grow kp
   k φ σ {s with heap:=h'.push (jI vs)} _ _ ⟨X,S.rel.grow kp,S.gens,S.drawn,S.os⟩ (.tup _ _ vs (aF _ rfl) (gh.ext S.rel X w.2.1)) q) (by rw[aC,←gh.length w.2.1];exact nT w.2.2)
theorem OA(O:gT cx){sc:Scope}{e te:Expr}{v:Value}{env:Env}{p p1:Pos}{Q':Value→Shared→Prop}(hb:ri cx.K sc "isinstance" (.builtin "isinstance")=true)(hn:pT cx.K sc te v=true)(ns:notStar e=true)(F:Fm cx d γ ρ σ sc A env φ s)
  (h:aB (model cx.prog cx.w) A (eval e env) (λy s'=>∃(φ':Ph) (σ':Hp),Go cx φ σ s φ' σ' s'∧aB (model cx.prog cx.w) A (call (.builtin "isinstance") [y,v] []) Q' kX s') kX s):
  aB (model cx.prog cx.w) A (eval (.Call (.Name "isinstance" p1) [e,te] [] p) env) Q' kX s:=by
 have nt:notStar te=true:=iD (P:=λte=>notStar te=true) hn λZ Z Z=>rfl
 refine cC (yJ O hb F (callWith_of (P:=λZ=>True) (by rw[jC ns,jC nt];rfl) (λh Z=>EM h) ?_))
 have main:aB (model cx.prog cx.w) A (spliced (backTo p (starEach [e,te] env))) (λvs s₁=>aB (model cx.prog cx.w) A (evalAll ((backToKw p (keywordEach [] env)).map (·.2))) (λks s₂=>True∧aB (model cx.prog cx.w) A (call (.builtin "isinstance") ([]++vs) (((backToKw p (keywordEach [] env)).filterMap (·.1)).zip ks)) Q' kX s₂) kX s₁) kX s:=by
  refine d4 (aZ h (λy s' w=>w.elim λφ' w=>w.elim λσ' w=>?_) λZ Z x=>x) (jC ns _ _)
  refine d4 ?_ (jC nt _ _)
  have fin:aB (model cx.prog cx.w) A (spliced (backTo p (starEach [] env))) (λvs s₂=>aB (model cx.prog cx.w) A (evalAll ((backToKw p (keywordEach [] env)).map (·.2))) (λks s₂=>True∧aB (model cx.prog cx.w) A (call (.builtin "isinstance") ([]++(y::v::vs)) (((backToKw p (keywordEach [] env)).filterMap (·.1)).zip ks)) Q' kX s₂) kX s₂) kX s':=Calls.spliced_nil (aq ⟨trivial,w.2⟩)
  revert fin
  exact iD (P:=λte=>_→aB _ _ (eval te env) _ _ _) hn λn p q fin=>(tU q).elim (λq=>uS O q (F.go w.1) fin) λq=>yJ O q (F.go w.1) fin
 rw[jC ns]at main ⊢
 exact evalArgs_kw rfl main
inductive PE(v:Value)(Q:V→Hp→Prop)(u:V)(σ:Hp):Prop
 |s (x:Str):u=.str x→v=.type "str"→Q (.bool true) σ→PE v Q u σ
 |d (x:Str):u=.str x→v=.type "dict"→Q (.bool false) σ→PE v Q u σ
 |t (r:I) (fs:Nm→Option V):u=.ref r→σ r=some (.inst .Task fs)→v=.ref pL.Task.addr→Q (.bool true) σ→PE v Q u σ
theorem Xr{K:Frag}{sc:Scope}{e:Expr}{m:ME}(c:gz K sc e m)(hm:uD m=false):notStar e=true:=by
 cases m with
 |var=>exact c.var λZ Z=>rfl
 |iN=>exact c.iN λZ Z=>rfl
 |attr=>exact c.attr λZ Z Z Z=>rfl
 |idx=>exact c.idx λZ Z Z Z Z Z=>rfl
 |yb=>exact c.yb λZ Z Z Z Z Z Z Z=>rfl
 |rev=>exact c.rev λZ Z Z Z Z Z Z=>rfl
 |gn=>exact c.gn λZ Z Z Z Z Z Z Z Z Z Z=>rfl
 |bi=>exact c.bi λZ Z Z Z Z=>rfl
 |_=>exact bf hm.symm
theorem CM(O:gT cx){m:ME}{v:Value}(hm:uD m=false)(h:WE cx d m γ ρ σ (PE v Q)):WE cx d (.Fz m v) γ ρ σ Q:=λsc ex c A env φ s F Q' k=>c.Fz λp1 e te p hb hn c=>
 OA O hb hn (Xr c hm) F (h _ _ c A env φ s F _ λφ' σ' s' u y g vr q=>⟨φ',σ',g,q.casesOn
  (λx e1 e2 q=>(vr.s e1).elim λt et=>et▸e2▸PySem.IsiPair.str_str (k φ' σ' _ _ _ g (.bool _) q))
  (λx e1 e2 q=>(vr.s e1).elim λt et=>et▸e2▸PySem.IsiPair.str_dict (k φ' σ' _ _ _ (g.toks _) (.bool _) q))
  λr fs e1 e3 e2 q=>vr.at e1▸e2▸(s8 g.S e3).elim λes w=>w.elim λep w=>isi_call (O.X.keeps g.S.rel.base) (λM=>w.at_.type) O.vT (λe=>Value.noConfusion e) (k φ' σ' _ _ _ g (.bool _) q)⟩)
end
end
end
mutual
section
open PySem.SeqAt PySem.MeetsSeq
theorem Ge:typeLookup (.type "list_reverseiterator") "__len__"=pure none:=by rw[typeLookup_type,eH];kernel_rfl
theorem Ni:typeLookup (.type "list_reverseiterator") "__length_hint__"=pure (some (.builtin "list_reverseiterator.__length_hint__")):=by rw[typeLookup_type,eH];kernel_rfl
theorem La{prog:Program}{w:World}{A:Around}{E:Value→Shared→Prop}{s:Shared}{r:Addr}{Q:Bool→Shared→Prop}(hT:s.TypeIs (.ref r) "list_reverseiterator")(h:Q false s):aB (model prog w) A (eK (.ref r)) Q E s:=by
 unfold eK
 refine af (eC hT Ge ?_)
 wp_delta
 refine af (eC hT Ni ?_)
 generalize ZY:("list_reverseiterator.__length_hint__":String)=id0
 wp_delta
 rw[show splitId id0=some ("list_reverseiterator","__length_hint__")from by subst ZY;decide+kernel]
 subst ZY
 refine af (wpAny_isInstance (T:="list_reverseiterator") (b:=true) hT (by rw[isSubtype_type];kernel_rfl) ?_)
 refine wpAny_ite_split (λJj=>absurd Jj (by decide)) (λZ=>?_)
 refine wpAny_ite_split (λZ=>?_) (λJj=>absurd (by decide+kernel) Jj)
 refine wpAny_ite_split (λJj=>absurd Jj (by decide+kernel)) (λZ=>?_)
 exact aq h
theorem Gl{prog:Program}{w:World}{A:Around}{s:Shared}{R:Result→Shared→Prop}{r l S:Addr}{items:Array Value}{res:Value}{c₀:Nat}(hh:A.handled=none)(hit:s.heap.IsRevIter r l ((items.size:Int) - 1))(hl:s.heap.IsList l items)(Fi:l≠r)
  (hSr:S≠r)(hSl:S≠l)(hS:s.heap.get? S=some {cls:=.type "list",data:=.seq #[] c₀})
  (hR:∀h' tk vh c',(∀b o,b≠S→b≠r→s.heap.get? b=some o→h'.get? b=some o)→h'.get? S=some {cls:=.type "list",dict:=none,data:=.seq vh c',slots:=#[]}→ItemsOf (λi v=>items[items.size - 1 - i]?=some v) vh items.size→R (.ok (.ret res)) {s with heap:=h',toks:=tk})(hn:items.size≤sizeLine):
  aB (model prog w) A.in1 (b8 (.ref S) (.ref r) res)
   (λfin s'=>match fin with |.done f=>R (.ok f) s' |.again c'=>c'.quiet=true∧codeAny (model prog w) A c' R s') (λe s'=>R (.error e) s') s:=by
 have Qo:S∉[r,l]:=by simp only [List.mem_cons,aj,or_false,not_or];exact⟨hSr,hSl⟩
 have hT:s.TypeIs (.ref r) "list_reverseiterator":=hit.typeIs
 unfold b8
 refine af (wpAny_typeOf (T:="list_reverseiterator") hT ?_)
 have h1:eV (.ref S) (.ref r)=false:=by simp [eV,hSr]
 have h2:(b9 "list_reverseiterator"==b9 "list")=false:=by decide
 have h3:(b9 "list_reverseiterator"==b9 "tuple")=false:=by decide
 simp only [h1,h2,h3,Bool.or_false,cj,if_false]
 refine af (wpAny_pyIter_revIter hit ?_)
 refine af (bL (La hT ?_))
 rw[if_neg (by decide)]
 refine aq ⟨plainId_quiet PySem.F.plain_extend_loop _,codeAny_extend_loopS (Walks.listRev (A:=A.in1) hh r l Fi items).toS hn S Qo res items.size 0 _ #[] c₀ rfl (aw _) ⟨aw _,by simpa using hit,hl⟩ hS (ItemsOf.nil _) λs' vh c' hm Ae Nh=>?_⟩
 rw[Moved.eq_with hm]
 refine hR s'.heap s'.toks vh c' (λb o hb hbr e=>hm.heap b o (λsX=>?_) e) Ae Nh
 rcases List.mem_cons.mp sX with e' |sX
 ·exact hb e'
 ·exact hbr (ag.mp sX)
theorem A6{prog:Program}{w:World}{A:Around}{E:Value→Shared→Prop}{s:Shared}{Q:Value→Shared→Prop}{r l:Addr}{items:Array Value}(hh:A.handled=none)(hit:s.heap.IsRevIter r l ((items.size:Int) - 1))(hl:s.heap.IsList l items)(Fi:l≠r)(hn:items.size≤sizeLine)
  (hQ:∀h' tk vh c',(∀b o,b≠r→s.heap.get? b=some o→h'.get? b=some o)→h'.get? s.heap.objs.size=some {cls:=.type "list",dict:=none,data:=.seq vh c',slots:=#[]}→ItemsOf (λi v=>items[items.size - 1 - i]?=some v) vh items.size→Q (.ref s.heap.objs.size) {s with heap:=h',toks:=tk}):
  aB (model prog w) A (call (.type "list") [.ref r]) Q E s:=by
 refine callType_codes (Q₁:=λobj s₁=>obj=.ref s.heap.objs.size∧s₁={s with heap:=s.heap.push {cls:=.type "list",data:=.seq #[]}}) PySem.F.called_list (PySem.F.typeCall_list_1 _) PySem.F.entry_list_init
  (code_list_new _ ⟨rfl,rfl⟩) λobj s₁ h₁=>?_
 obtain ⟨rfl,rfl⟩:=h₁
 have hS:(s.heap.push {cls:=.type "list",data:=.seq #[]}).get? s.heap.objs.size=some {cls:=.type "list",data:=.seq #[]}:=aF _ rfl
 have ZM:r<s.heap.objs.size:=let ⟨o,g,_⟩:=hit;a0 g
 have Zm:l<s.heap.objs.size:=let ⟨o,g,_⟩:=hl;a0 g
 refine⟨⟨_,hS,rfl⟩,PySem.F.args_list_init_2 _ _,?_⟩
 show aB _ _ (do let old ←fb (.ref s.heap.objs.size);Builtin.List.listUpdate (.ref s.heap.objs.size) (λZ=>#[]);letGo old.toList.reverse;b8 (.ref s.heap.objs.size) (.ref r) .none) _ _ _
 refine af ?_
 unfold fb
 refine af (wpAny_seqItems hS rfl (aq ?_))
 show aB _ _ (updateSeq s.heap.objs.size (λZ=>#[]) >>=λZ=>letGo (#[]:Array Value).toList.reverse >>=λZ=>b8 (.ref s.heap.objs.size) (.ref r) .none) _ _ _
 refine af (wpAny_updateSeq hS rfl ?_)
 have hS₂:=Heap.get?_update_self (bI (λZ=>(#[]:Array Value))) hS rfl
 have Hm:∀b o,b≠s.heap.objs.size→s.heap.get? b=some o→((s.heap.push {cls:=.type "list",data:=.seq #[]}).update s.heap.objs.size (bI (λZ=>(#[]:Array Value)))).get? b=some o:=
  λb o hb e=>(Heap.get?_update_other _ _ (Ne.symm hb)).trans (aP _ e)
 refine af (wpAny_letGo ?_)
 refine Gl (A:=A.in1) hh (hit.at λo e=>Hm _ o (av ZM) e) (hl.at λo e=>Hm _ o (av Zm) e) Fi (bx ZM) (bx Zm) hS₂ (λh' tk vh c' hk Ae Nh=>?_) hn
 exact⟨rfl,hQ h' tk vh c' (λb o hb e=>hk b o (av (a0 e)) hb (Hm b o (av (a0 e)) e)) Ae Nh⟩
section
variable{cx:Cx}{d:Nat}{γ:Nm→Option I}{ρ:Loc}{σ:Hp}{φ φ':Ph}{h h':Heap}{s:Shared}{A:Around}{Q:V→Hp→Prop}
theorem OY{vs:List Value}{acc:Array Value}(w:ItemsOf (λi v=>vs.toArray[vs.toArray.size - 1 - i]?=some v) acc vs.toArray.size):acc=vs.reverse.toArray:=by
 obtain ⟨i1,i2⟩:=w
 apply Array.ext_getElem?
 intro i
 by_cases hi:i<acc.size
 ·have h1:=i2 i acc[i] (bY hi)
  rw[bY hi]
  rw[i1,aC]at hi
  rw[aC]at h1
  simp only [bu]at h1 ⊢
  rw[List.getElem?_reverse hi];exact h1.symm
 ·rw[Array.getElem?_eq_none (by omega),Array.getElem?_eq_none (by rw[i1,aC]at hi;simp;omega)]
inductive VJ(f:List V→List V)(Q:V→Hp→Prop)(v:V)(σ:Hp):Prop
 |mk (r:I) (l:List V) (z:I):v=.ref r→σ r=some (.list l)→σ z=none→Q (.ref z) (up σ z (some (.list (f l))))→VJ f Q v σ
theorem FW(o:Obj):(h.push o).objs.size=h.objs.size+1:=Heap.size_push ..
theorem Bw(o:Obj):h.get? (h.push o).objs.size=none:=bq (by rw[FW];exact aT _)
theorem D6(O:gT cx){m:ME}(h:WE cx d m γ ρ σ (VJ List.reverse Q)):WE cx d (.bi .nQ [.bi .zQ [m]]) γ ρ σ Q:=λsc ex c A env φ s F Q' k=>c.bi λp1 args p hb ca=>ca.cons λe r ns ce cs=>cs.nil (ce.bi λp2 args p Yd YA=>
 GH O hb rfl F (xp O Yd YA F (wN h) λφ' σ' s' vs ys g vr q=>q.casesOn λv e q=>q.casesOn λr l z e1 e2 hz q=>(gh.un (e▸vr)).elim λy w=>w.elim λzs w=>by
  rw[w.1,show zs=[]from w.2.2,w.2.1.at e1]
  exact(g.S.rel.objs _ _ e2).2.elim λvs w=>w.elim λn w=>
   have hL:s'.heap.IsList (φ' r).1 vs.toArray:=⟨_,w.1,rfl,n,rfl⟩
   call_reversed_list hL (A6 (s:={s' with heap:=s'.heap.push (revObj (φ' r).1 ((vs.toArray.size:Int) - 1))}) F.hA.hd ⟨_,aF _ rfl,rfl,rfl⟩ (hL.push _) (av (a0 w.1)) (by rw[aC,←gh.length w.2.1];exact nT w.2.2)
    λh' tk vh c' hk Cp hi=>by
     have w':=rA g.S hz (Bw (revObj (φ' r).1 ((vs.toArray.size:Int) - 1))) (λb o e=>hk b o (av (a0 e)) (aP _ e)) (n:=c') (by rw[Cp,OY hi];rfl) (gh.rev w.2.1) (by rw[dk];exact w.2.2) tk
     exact k _ _ _ _ _ (g.trans w'.g) w'.v q)))
inductive Sr(Q:V→Hp→Prop)(v:V)(σ:Hp):Prop
 |mk (r:I) (l:List (Str×V)) (z:I):v=.ref r→σ r=some (.dict l)→σ z=none→Q (.ref z) (up σ z (some (.list (l.map (·.2)))))→Sr Q v σ
theorem Ck(O:gT cx){o:ME}(h:WE cx d o γ ρ σ (Sr Q)):WE cx d (.bi .nQ [.gn o .jo [] []]) γ ρ σ Q:=λsc ex c A env φ s F Q' k=>c.bi λp1 args p hb ca=>ca.cons λe r ns ce cs=>cs.nil (GH O hb ns F
 (AF (a:=.jo) (P:=IsDict) (G:=λv vs σ=>vs=[]∧Sr Q v σ) ⟨b3,cO,fA⟩ ty_dict (jv h λv σ q=>⟨q.casesOn λr l z e1 e2 Z Z=>e1▸⟨l,e2⟩,fZ ⟨rfl,q⟩⟩) ce F λφ' σ' s' v y vs ys g vr Gb q=>q.2.casesOn λr l z e1 e2 hz q2=>by
  rw[vr.at e1,show ys=[]from(show gh s'.heap φ' σ' [] ys from q.1▸Gb)]
  exact(g.S.rel.objs _ _ e2).2.elim λhn w=>w.elim λkvs w=>dE cO w.1.typeIs fw (fj _) (meets_dict_values (strKind cx.prog cx.w) _ hn) ⟨⟨kvs,w.1⟩,w.1.dictAt.elim λep hDa=>
   kdl_call (s:={s' with heap:=s'.heap.push (u5 "dict_values" (φ' r).1)}) (kdl_values (knd:=strKind cx.prog cx.w) (kvs:=kvs) (ep:=ep) (r:=s'.heap.objs.size) (d:=(φ' r).1)) F.hA.hd ⟨⟨_,aF _ rfl,rfl,rfl⟩,hDa.push _⟩ (by rw[sh w.2.1];exact nT w.2.2) λh' tk vh c' hk Cp hi=>by
    have Nh:vh.toList=kvs.map (·.2):=kdl_vals_eq vh.toList (by simpa using hi.1) λj v e=>hi.2 j v (by simpa using e)
    have w':=rA g.S hz (Bw (u5 "dict_values" (φ' r).1)) (λb o e=>hk b o (aP _ e)) (vs:=kvs.map (·.2)) (n:=c') (by rw[←Nh];exact Cp) w.2.1.2 (by rw[ai];exact w.2.2) tk
    exact k _ _ _ _ _ (g.trans w'.g) w'.v q2⟩))
theorem ints_of:∀{ns:List Int} {vs:List Value},gh h φ σ (ns.map V.int) vs→IntsAre vs ns
 |[],vs,r=>by rw[show vs=[]from r];exact .nil
 |n::ns,vs,r=>(gh.un r).elim λy w=>w.elim λz w=>(w.2.1.i rfl).elim λt e=>by rw[w.1,e];exact .cons _ _ (ints_of w.2.2)
theorem Dd:∀{vs:List Value} {ns:List Int},IntsAre vs ns→gh h φ σ (ns.map V.int) vs
 |_,_,.nil=>rfl
 |_,_,.cons n t r=>.cons (.int _ _) (Dd r)
inductive Wx(Q:V→Hp→Prop)(v:V)(σ:Hp):Prop
 |mk (r:I) (ns:List Int):v=.ref r→σ r=some (.list (ns.map V.int))→ns.length<64→(∀VV:List Int,VV.Perm ns→VV.Pairwise (· ≤ ·)→∃z,σ z=none∧Q (.ref z) (up σ z (some (.list (VV.map V.int)))))→Wx Q v σ
theorem Jl(O:gT cx){m:ME}(h:WE cx d m γ ρ σ (Wx Q)):WE cx d (.bi .lR [m]) γ ρ σ Q:=
 qS O h λA φ σ s v y Q' hA S vr q k=>q.casesOn λr ns e hr xM q=>vr.at e▸(S.rel.objs _ _ hr).2.elim λvs w=>w.elim λn w=>by
  have hn:=gh.length w.2.1
  rw[ai]at hn
  refine sorted_ints ⟨_,w.1,rfl,n,rfl⟩ (ints_of w.2.1) (hn▸xM) λout VV hi hp hs=>(q VV hp hs).elim λz q'=>(sortedAll_at s.heap vs out).elim λe YB=>by
   have w':=rA S q'.1 (bq (aT _)) (λb o e=>sortedAll_old e) (vs:=out.toList) (n:=e) YB (Dd hi) (by rw[ai,hp.length_eq];exact ab (aY xM) (by decide)) s.toks
   exact k _ _ _ _ _ w'.g w'.v q'.2
end
end
end
mutual
section
open PySem.SeqAt PySem.MeetsSeq
def A3(l:List Str)(x:Str):List Str:=if x∈l then l else l++[x]
def jS(l:List Str)(xs:List Str):List Str:=xs.foldl A3 l
def uF(l₀:List Str)(val:Nat→Str)(i:Nat):List Str:=jS l₀ ((az i).map val)
theorem xR(l₀:List Str)(val:Nat→Str)(i:Nat):uF l₀ val (i+1)=A3 (uF l₀ val i) (val i):=by
 unfold uF jS;rw[bJ,ar,eX];rfl
theorem uJ(l:List Str)(x:Str):(A3 l x).length=if x∈l then l.length else l.length+1:=by
 unfold A3;split<;>simp
theorem yp(l₀:List Str)(val:Nat→Str):∀i,(uF l₀ val i).length≤l₀.length+i
 |0=>aL _
 |i+1=>by
  rw[xR,uJ]
  have:=yp l₀ val i
  split<;>omega
theorem Lf(l:List Str)(x k:Str):decide (k∈A3 l x)=(decide (k∈l)||decide (k=x)):=by
 unfold A3
 split
 ·rename_i h
  by_cases e:k=x
  ·subst e;simp [h]
  ·simp [e]
 ·simp
theorem F1{l:List Str}(h:l.Nodup)(x:Str):(A3 l x).Nodup:=by
 unfold A3
 split
 ·exact h
 ·rename_i hx
  rw[List.nodup_append]
  exact⟨h,by simp,λa ha b hb e=>by rw[ag]at hb;subst hb;subst e;exact hx ha⟩
theorem tm:∀(xs:List Str) {l:List Str},l.Nodup→(jS l xs).Nodup
 |[],_,h=>h
 |x::xs,_,h=>tm xs (F1 h x)
section
variable{prog:Program}{w:World}{A:Around}{R:Result→Shared→Prop}{I:Addr}{fp wr:List Addr}{G:Array GenState→Array GenState→Prop}{n:Nat}{P:Nat→Value→Prop}{St:Nat→Shared→Prop}
theorem setLoop(W:WalksS prog w A.in1 I fp wr G n P St)(S:Addr)(Qo:S∉fp)(val:Nat→Str)(YY:∀i v,P i v→∃t,v=.str (val i) t)(l₀:List Str)(hb:l₀.length+n+1<scanBound):
  ∀(k i:Nat) (s:Shared),n - i=k→i≤n→St i s→
   s.heap.SetOf (strKind prog w) S (λk'=>decide (k'∈uF l₀ val i)) (uF l₀ val i).length→
   (∀s',Moved (S::wr) G s s'→s'.heap.SetOf (strKind prog w) S (λk'=>decide (k'∈uF l₀ val n)) (uF l₀ val n).length→R (.ok (.ret .none)) s')→
   codeAny (model prog w) A (.builtin "set.update.loop" ⟨[.ref S,.ref I],[]⟩) R s:=by
 have Zn:S∉wr:=λh=>Qo (W.sub _ h)
 have JH:∀b∈wr,b∈S::wr:=λb hb=>List.mem_cons_of_mem _ hb
 intro k
 induction k with
 |zero=>
  intro i s hk hi Ia hS hR
  have WN:i=n:=bZ hi (Nat.le_of_sub_eq_zero hk)
  subst WN
  refine eF dG ?_
  rw[dZ cq _]
  show aB _ A.in1 (pyNext (.ref I) >>=_) _ _ s
  refine af (W.done s _ _ Ia λs' hm=>?_)
  show aB _ A.in1 (ret fE) _ _ s'
  exact aq (hR s' (hm.mono JH) (by
   obtain ⟨o,es,ep,t,ho,rest⟩:=hS
   exact⟨o,es,ep,t,hm.heap S _ Zn ho,rest⟩))
 |succ k ih=>
  intro i s hk hi Ia hS hR
  have xM:i<n:=Nat.lt_of_sub_eq_succ hk
  refine eF dG ?_
  rw[dZ cq _]
  show aB _ A.in1 (pyNext (.ref I) >>=_) _ _ s
  refine af (W.item i s _ _ xM Ia λv s' hP Zh hm=>?_)
  obtain ⟨t,rfl⟩:=YY i v hP
  have Ae:s'.heap.SetOf (strKind prog w) S (λk'=>decide (k'∈uF l₀ val i)) (uF l₀ val i).length:=by
   obtain ⟨o,es,ep,tb,ho,rest⟩:=hS
   exact⟨o,es,ep,tb,hm.heap S _ Zn ho,rest⟩
  show aB _ A.in1 (holding [Value.str (val i) t] (setAdd S (.str (val i) t)) >>=_) _ _ s'
  refine af (bL ?_)
  unfold setAdd
  refine bL ?_
  refine af ((strKind prog w).pyHash (k:=val i) (bM _ t) ?_)
  have Vm:(uF l₀ val i).length+1<scanBound:=ao (aX (ab (yp l₀ val i) (aW hi _)) 1) hb
  refine wpAny_setAddHashed_of (knd:=strKind prog w) (s:={s' with toks:=s'.toks+1}) (bM _ t) rfl Ae Vm λh' Xf hS2=>?_
  have hSi:h'.SetOf (strKind prog w) S (λk'=>decide (k'∈uF l₀ val (i+1))) (uF l₀ val (i+1)).length:=
   SetOf_congr hS2 (λk'=>by rw[xR,Lf]) (by rw[xR,uJ];simp)
  refine aq ⟨plainId_quiet cq _,ih (i+1) _ ((Nat.sub_succ n i).trans (congrArg Nat.pred hk)) xM (W.frame _ s' _ _ Zh (aT _) λb hb o e=>?_) hSi λoZ Yi Y8=>?_⟩
  ·rw[Xf.2 b (λh:b=S=>Qo (by rw[←h];exact hb))];exact e
  ·refine hR oZ (Moved.trans W.gtrans ((hm.mono JH).then_heap (aT _) λb o hb e=>?_) Yi) Y8
   rw[Xf.2 b (λh:b=S=>hb (by rw[h];exact List.mem_cons_self))];exact e
end
end
mutual
theorem sub_tuple_set:isSubtype (.type "tuple") (.type "set")=pure false:=by rw[isSubtype_type];kernel_rfl
theorem sub_tuple_frozenset:isSubtype (.type "tuple") (.type "frozenset")=pure false:=by rw[isSubtype_type];kernel_rfl
theorem Ii{ps:List (Str×Tok)}{i:Nat}{v:Value}(h:(strValues ps).toArray[i]?=some v):∃t,v=.str ((ps.map (·.1)).getD i ⟨#[]⟩) t:=by
 unfold strValues at h
 rw[bu,aQ]at h
 obtain ⟨p,hp,rfl⟩:=Option.map_eq_some_iff.mp h
 refine⟨p.2,?_⟩
 rw[cI,aQ,hp];rfl
theorem range_getD(xs:List Str):(az xs.length).map (λi=>xs.getD i ⟨#[]⟩)=xs:=by
 apply eY
 intro i
 rw[aQ]
 by_cases h:i<xs.length
 ·rw[cS h,aG h]
  simp [cI,aG h]
 ·rw[bW (by simpa using h),bW (by omega)];rfl
theorem tN{prog:Program}{w:World}{A:Around}{s:Shared}{E:Value→Shared→Prop}{S a:Addr}{id:String}{ps:List (Str×Tok)}{l₀:List Str}{Q:Unit→Shared→Prop}(hh:A.handled=none)(hl:s.heap.IsList a (strValues ps).toArray)(Fi:a≠S)
  (hS:s.heap.SetOf (strKind prog w) S (λk=>decide (k∈l₀)) l₀.length)(hb:l₀.length+ps.length+1<scanBound)
  (h:∀h' tk,h'.SetOf (strKind prog w) S (λk=>decide (k∈jS l₀ (ps.map (·.1)))) (jS l₀ (ps.map (·.1))).length→(∀b o,b≠S→s.heap.get? b=some o→h'.get? b=some o)→Q () {s with heap:=h',toks:=tk}):
  aB (model prog w) A (a9 id S (.ref a)) Q E s:=by
 have hT:=hl.typeIs
 have YO:=PySem.F.sub_list_set
 have Y4:=PySem.F.sub_list_frozenset
 unfold a9
 generalize Y5:pyIter=PI
 obtain ⟨hp,g,dr,t,os⟩:=s
 wp_walk
 subst Y5
 refine wpAny_pyIter_list hl ?_
 refine af (wpAny_runValue ?_)
 have Yp:a<hp.objs.size:=let ⟨o,e,_⟩:=hl;a0 e
 have YL:S<hp.objs.size:=let ⟨o,_,_,_,e,_⟩:=hS;a0 e
 have TJ:a≠hp.objs.size:=av Yp
 have Qo:S∉[hp.objs.size,a]:=by
  simp only [List.mem_cons,ag,aj,or_false,not_or]
  exact⟨av YL,λe=>Fi e.symm⟩
 have yD:(strValues ps).toArray.size=ps.length:=by simp [strValues]
 refine setLoop (n:=(strValues ps).toArray.size) ((Walks.list (A:=A.in1) hh _ a TJ (strValues ps).toArray).toS) S Qo (λi=>(ps.map (·.1)).getD i ⟨#[]⟩) (λi v hv=>Ii hv) l₀ (by rw[yD];exact hb) ((strValues ps).toArray.size - 0) 0 _ (by omega) (aw _)
  ⟨⟨_,aF _ rfl,rfl,rfl⟩,hl.push _⟩ ?_ λs' hm Ae=>?_
 ·obtain ⟨o,es,ep,tb,ho,rest⟩:=hS
  exact⟨o,es,ep,tb,aP _ ho,rest⟩
 ·obtain ⟨h',g',d',YG,X2⟩:=s'
  have eg:g'=g:=hm.gens
  have ed:d'=dr:=hm.drawn
  have eo:X2=os:=hm.os
  subst eg;subst ed;subst eo
  have ec:uF l₀ (λi=>(ps.map (·.1)).getD i ⟨#[]⟩) (strValues ps).toArray.size=jS l₀ (ps.map (·.1)):=by
   unfold uF
   rw[yD,←ai (as:=ps) (·.1),range_getD]
  rw[ec]at Ae
  refine aq (h h' YG Ae λb o hb e=>hm.heap b o (λsX=>?_) (aP _ e))
  rcases List.mem_cons.mp sX with q |sX
  ·exact hb q
  ·rw[ag]at sX
   exact absurd (a0 e) (by rw[sX];exact a7 _)
theorem z9{prog:Program}{w:World}{A:Around}{s:Shared}{E:Value→Shared→Prop}{S a:Addr}{id:String}{ps:List (Str×Tok)}{l₀:List Str}{Q:Unit→Shared→Prop}(hh:A.handled=none)(hl:s.heap.IsTuple a (strValues ps).toArray)(Fi:a≠S)
  (hS:s.heap.SetOf (strKind prog w) S (λk=>decide (k∈l₀)) l₀.length)(hb:l₀.length+ps.length+1<scanBound)
  (h:∀h' tk,h'.SetOf (strKind prog w) S (λk=>decide (k∈jS l₀ (ps.map (·.1)))) (jS l₀ (ps.map (·.1))).length→(∀b o,b≠S→s.heap.get? b=some o→h'.get? b=some o)→Q () {s with heap:=h',toks:=tk}):
  aB (model prog w) A (a9 id S (.ref a)) Q E s:=by
 have hT:=hl.typeIs
 have YO:=sub_tuple_set
 have Y4:=sub_tuple_frozenset
 have acj:(b9 "tuple"==b9 "dict")=false:=by decide
 unfold a9
 generalize Y5:pyIter=PI
 obtain ⟨hp,g,dr,t,os⟩:=s
 wp_walk
 subst Y5
 refine wpAny_pyIter_tuple hl ?_
 refine af (wpAny_runValue ?_)
 have Yp:a<hp.objs.size:=let ⟨o,e,_⟩:=hl;a0 e
 have YL:S<hp.objs.size:=let ⟨o,_,_,_,e,_⟩:=hS;a0 e
 have TJ:a≠hp.objs.size:=av Yp
 have Qo:S∉[hp.objs.size,a]:=by
  simp only [List.mem_cons,ag,aj,or_false,not_or]
  exact⟨av YL,λe=>Fi e.symm⟩
 have yD:(strValues ps).toArray.size=ps.length:=by simp [strValues]
 refine setLoop (n:=(strValues ps).toArray.size) ((Walks.tuple (A:=A.in1) hh _ a TJ (strValues ps).toArray).toS) S Qo (λi=>(ps.map (·.1)).getD i ⟨#[]⟩) (λi v hv=>Ii hv) l₀ (by rw[yD];exact hb) ((strValues ps).toArray.size - 0) 0 _ (by omega) (aw _)
  ⟨⟨_,aF _ rfl,rfl,rfl⟩,hl.push _⟩ ?_ λs' hm Ae=>?_
 ·obtain ⟨o,es,ep,tb,ho,rest⟩:=hS
  exact⟨o,es,ep,tb,aP _ ho,rest⟩
 ·obtain ⟨h',g',d',YG,X2⟩:=s'
  have eg:g'=g:=hm.gens
  have ed:d'=dr:=hm.drawn
  have eo:X2=os:=hm.os
  subst eg;subst ed;subst eo
  have ec:uF l₀ (λi=>(ps.map (·.1)).getD i ⟨#[]⟩) (strValues ps).toArray.size=jS l₀ (ps.map (·.1)):=by
   unfold uF
   rw[yD,←ai (as:=ps) (·.1),range_getD]
  rw[ec]at Ae
  refine aq (h h' YG Ae λb o hb e=>hm.heap b o (λsX=>?_) (aP _ e))
  rcases List.mem_cons.mp sX with q |sX
  ·exact hb q
  ·rw[ag]at sX
   exact absurd (a0 e) (by rw[sX];exact a7 _)
open Builtin Builtin.Frozenset in
set_option maxHeartbeats 3200000 in
theorem J4{prog:Program}{w:World}{A:Around}{s:Shared}{E:Value→Shared→Prop}{a:Addr}{Q:Value→Shared→Prop}{l:List Str}
  (hu:∀(A':Around) (s':Shared) (R:Unit→Shared→Prop),A'.handled=A.handled→(∀b o,s.heap.get? b=some o→s'.heap.get? b=some o)→s'.heap.SetOf (strKind prog w) s.heap.objs.size (λk=>decide (k∈([]:List Str))) 0→
   (∀h' tk,h'.SetOf (strKind prog w) s.heap.objs.size (λk=>decide (k∈l)) l.length→(∀b o,b≠s.heap.objs.size→s'.heap.get? b=some o→h'.get? b=some o)→R () {s' with heap:=h',toks:=tk})→
   aB (model prog w) A' (a9 "set.__init__" s.heap.objs.size (.ref a)) R E s')
  (h:∀(h':Heap) (tk:Nat),h'.SetOf (strKind prog w) s.heap.objs.size (λk=>decide (k∈l)) l.length→(∀b o,s.heap.get? b=some o→h'.get? b=some o)→Q (.ref s.heap.objs.size) {s with heap:=h',toks:=tk}):
  aB (model prog w) A (call (.type "set") [.ref a]) Q E s:=by
 obtain ⟨c,tl,abY⟩:=PySem.F.called_set.mro
 have ZC:=PySem.F.called_set.made
 have JH:=PySem.F.called_set.sub
 refine fh (codeAny_of_tree ?_)
 show aB _ _ (callAny (.type "set") _) _ _ _
 refine aq ⟨Code.quiet_builtin _ (by decide+kernel),eF PySem.F.entry_type_call ?_⟩
 rw[Around.under_plain (weight_type_call_type "set" [.ref a] []) rfl]
 have h1:=PySem.F.called_set.notType
 have h2:=PySem.F.called_set.canCreate
 have IU:=PySem.F.typeCall_set_1 (.ref a)
 repeat (any_goals (first |assumption |wp_step))
 refine codeAny_mono (code_set_new_1 (.ref a) (E:=E) (Q₁:=λobj s₁=>∃led:Bool,obj=.ref s.heap.objs.size∧s₁={s with heap:=s.heap.push {cls:=.type "set",dict:=none,data:=.set #[] 0 (.fresh 0 0 led)}}) λled=>⟨led,rfl,rfl⟩) λr s₁ hr=>?_
 cases r with
 |error e=>exact hr
 |ok fl=>
  cases fl with
  |ret obj=>
   obtain ⟨led,rfl,rfl⟩:=hr
   have hS:(s.heap.push {cls:=.type "set",dict:=none,data:=.set #[] 0 (.fresh 0 0 led)}).get? s.heap.objs.size=some {cls:=.type "set",dict:=none,data:=.set #[] 0 (.fresh 0 0 led)}:=aF _ rfl
   have hT:Shared.TypeIs {s with heap:=s.heap.push {cls:=.type "set",dict:=none,data:=.set #[] 0 (.fresh 0 0 led)}} (.ref s.heap.objs.size) "set":=⟨_,hS,rfl⟩
   have hli:=PySem.F.called_set.init.lookup
   have hbi:=PySem.F.called_set.init.bind (.ref s.heap.objs.size)
   repeat (any_goals (first |assumption |wp_step))
   refine codeAny_mono (codeAny_call_builtin (R:=wants (λr s₂=>r=.none∧∃h' tk,s₂={s with heap:=h',toks:=tk}∧
     h'.SetOf (strKind prog w) s.heap.objs.size (λk=>decide (k∈l)) l.length∧(∀b o,s.heap.get? b=some o→h'.get? b=some o)) E) PySem.F.called_set.init.plain PySem.F.entry_set_init (check_set_init_1 hT ?_)) λr₂ s₂ hr₂=>?_
   ·unfold Builtin.«set.__init__» noKeywords
    generalize Wq:a9=UF
    wp_walk
    rw[←Wq]
    refine hu A.in1.in1 _ _ rfl (λb o e=>aP _ e) ?_ λh' tk Ae hk=>?_
    ·exact PyProof.Rows.SetOf_congr ((eO (knd:=strKind prog w) led).setOf hS (by unfold scanBound;omega)) (λZ=>rfl) rfl
    ·exact aq ⟨rfl,h',tk,rfl,Ae,λb o e=>hk b o (av (a0 e)) (aP _ e)⟩
   ·cases r₂ with
    |error e=>exact hr₂
    |ok fl₂=>
     cases fl₂ with
     |ret r=>
      obtain ⟨rfl,h',tk,rfl,Ae,hk⟩:=hr₂
      repeat (any_goals (first |assumption |wp_step))
      exact h _ _ Ae hk
     |_=>exact hr₂.elim
  |_=>exact hr.elim
end
end
mutual
section
open PySem.SeqAt PySem.MeetsSeq
section
variable{prog:Program}{w:World}{A:Around}{E:Value→Shared→Prop}{s:Shared}
theorem G5{a:Addr}{o:Obj}{es:Array (Int×Value)}{ep:Nat}{t:SetTable}{k:Str}{x:Value}{Q:Option Nat→Shared→Prop}(Ja:(strKind prog w).is k x=true)(Pq:x.scannable=true)
  (ho:s.heap.get? a=some o)(hd:o.data=.set es ep t)(Bs:ElemsOf (strKind prog w) es.toList)(hb:es.size<scanBound)(hf:t.fits es.size=true){j:Nat}(hj:es.toList.findIdx? (λe=>(strKind prog w).is k e.2)=some j)(h:Q (some j) s):
  aB (model prog w) A (setFind a x ((strKind prog w).hash k)) Q E s:=by
 unfold setFind setFindIn
 refine af (bE ho hd hf ?_)
 dsimp only
 rw[byScan_of Pq hb Bs]
 simp only [↓reduceIte]
 refine af (wpAny_rule ?_)
 refine af (wpAny_setScan_of Ja ho hd hf Bs ?_)
 rw[hj]
 dsimp only
 rw[c5]
 exact aq h
theorem tq{α:Type}(xs:Array α)(p:Nat):(cY xs p).toList=xs.toList.eraseIdx p:=by
 unfold cY
 rw[ez,Array.toList_extract,Array.toList_extract]
 rw[List.eraseIdx_eq_take_drop_succ]
 simp only [List.extract_eq_drop_take',List.drop_zero,Nat.sub_zero]
 congr 1
 rw[List.take_of_length_le (by simp)]
theorem sM{α:Type}(xs:Array α)(p:Nat)(hp:p<xs.size):(cY xs p).size=xs.size - 1:=by
 rw[←bQ,tq,List.length_eraseIdx,bQ,if_pos hp]
theorem Br{α:Type}(xs:Array α)(p:Nat)(x:α)(hp:p≤xs.size):(SetTable.insertAt xs p x).size=xs.size+1:=by
 unfold SetTable.insertAt
 rw[Array.size_append,Array.size_push,Array.size_extract,Array.size_extract,di hp,Nat.min_self,Nat.sub_zero,dB,eP hp]
theorem zb(xs:Array Nat)(j:Nat):∀fuel lo hi,lo≤hi→SetTable.below.go xs j fuel lo hi≤hi
 |0,lo,hi,h=>h
 |fuel+1,lo,hi,h=>by
  unfold SetTable.below.go
  split
  ·rename_i xM
   dsimp only
   split
   ·exact zb xs j fuel _ hi (Nat.div_lt_of_lt_mul (by rw[Nat.two_mul];exact eA xM hi))
   ·exact ab (zb xs j fuel lo _ ((Nat.le_div_iff_mul_le (by decide)).mpr (Nat.mul_two lo▸aW (aY xM) lo))) (aY (Nat.div_lt_of_lt_mul (by rw[Nat.two_mul];exact eA xM hi)))
  ·exact h
theorem Lr(xs:Array Nat)(j:Nat):SetTable.below xs j≤xs.size:=zb xs j _ _ _ (aw _)
theorem zG{α:Type}:∀(l:List α) (i:Nat) (h:i<l.length),(l[i]::l.eraseIdx i).Perm l
 |x::l,0,h=>.refl _
 |x::l,i+1,h=>by
  have:=zG l i (by simpa using h)
  exact(List.Perm.swap x _ _).trans (List.Perm.cons x this)
theorem B5{α β:Type}(f:α→β):∀(l:List α) (i:Nat),(l.eraseIdx i).map f=(l.map f).eraseIdx i
 |[],_=>rfl
 |_::_,0=>rfl
 |x::l,i+1=>congrArg (f x:: ·) (B5 f l i)
def EN:Value→Str
 |.str x _=>x
 |_=>⟨#[]⟩
theorem H0:∀{l ks:List Str},l.Nodup→(∀x∈l,x∈ks)→ks.length=l.length→ks.Perm l
 |[],ks,_,_,h=>by rw[List.length_eq_zero_iff.mp h]
 |x::l,ks,hn,hs,h=>by
  have A9:=List.nodup_cons.mp hn
  have hx:=hs x (.head _)
  have p:=List.perm_cons_erase hx
  refine p.trans (List.Perm.cons x (H0 A9.2 (λy hy=>?_) ?_))
  ·have:y≠x:=λe=>A9.1 (e▸hy)
   exact(d6 this).mpr (hs y (.tail _ hy))
  ·rw[dI hx,h];rfl
theorem HK{es:List (Int×Value)}(Bs:ElemsOf (strKind prog w) es):∀x,(∃e∈es,(strKind prog w).is x e.2=true)↔x∈es.map λe=>EN e.2:=λx=>by
 constructor
 ·rintro ⟨e,he,q⟩
  obtain ⟨t,ht⟩:=cN q
  exact List.mem_map.mpr ⟨e,he,by rw[ht];rfl⟩
 ·intro hx
  obtain ⟨e,he,rfl⟩:=List.mem_map.mp hx
  obtain ⟨⟨k,hk,_⟩,_⟩:=Bs e he
  obtain ⟨t,ht⟩:=cN hk
  exact⟨e,he,by rw[ht];exact bM k t⟩
theorem Ji{t:SetTable}{n i:Nat}(hf:t.fits n=true)(hi:i<n):(t.drop i).fits (n - 1)=true:=by
 simp only [SetTable.fits,c7,beq_iff_eq,decide_eq_true_eq]at hf ⊢
 unfold SetTable.drop
 have Cj:i<t.place.size:=hf.1▸hi
 rw[bY Cj]
 dsimp only
 refine⟨by rw[sM _ _ Cj,hf.1],?_⟩
 unfold SetTable.fill at hf ⊢
 dsimp only
 rw[sM _ _ Cj,Br _ _ _ (Lr _ _),bR t.dummies.size 1,←b0,Nat.sub_add_cancel (ao (aw i) Cj)]
 exact hf.2
theorem A8{a:Addr}{k:Str}{tk:Tok}{l:List Str}{Q:Bool→Shared→Prop}(hS:s.heap.SetOf (strKind prog w) a (λx=>decide (x∈l)) l.length)(hn:l.Nodup)(hk:k∈l)
  (h:∀h' t,Heap.SameBut a s.heap h'→h'.SetOf (strKind prog w) a (λx=>decide (x∈l.erase k)) (l.erase k).length→Q true {s with heap:=h',toks:=t}):aB (model prog w) A (setDiscard a (.str k tk)) Q E s:=by
 obtain ⟨o,es,ep,t,ho,hex,hd,Bs,sX,hb,hf,yD⟩:=hS
 have Ja:(strKind prog w).is k (.str k tk)=true:=bM k tk
 obtain ⟨e,he,hpe⟩:=(sX k).mp (by simpa using hk)
 unfold setDiscard setDiscardHashed
 refine bL (af ((strKind prog w).pyHash Ja ?_))
 cases hj:es.toList.findIdx? (λe=>(strKind prog w).is k e.2)with
 |none=>have:=List.findIdx?_eq_none_iff.mp hj e he;rw[hpe]at this;cases this
 |some j=>
  obtain ⟨Zb,hjp,hjm⟩:=List.findIdx?_eq_some_iff_getElem.mp hj
  have ZJ:j<es.size:=by simpa using Zb
  refine af (G5 (s:={s with toks:=s.toks+1}) Ja rfl ho hd Bs hb hf hj ?_)
  dsimp only
  refine af (bE (s:={s with toks:=s.toks+1}) ho hd hf ?_)
  dsimp only
  have es':=sM es j ZJ
  refine af (wpAny_storeSet_of (s:={s with toks:=s.toks+1}) ho hd ?_ (by rw[es'];have:=fits_of_scanBound hb;omega))
  refine af (wpAny_point (aq ?_))
  have Zc:∀x,decide (x∈l.erase k)=true↔∃e∈(cY es j).toList,(strKind prog w).is x e.2=true:=λx=>by
   have hpm:(es.toList.map λe=>EN e.2).Perm l:=H0 hn (λy hy=>by
    rw[←HK Bs];exact(sX y).mp (by simpa using hy)) (by rw[ai,bQ];exact yD)
   have hkj:(es.toList.map λe=>EN e.2)[j]'(by rw[ai];exact Zb)=k:=by
    obtain ⟨t,ht⟩:=cN hjp
    rw[List.getElem_map,ht];rfl
   have p1:=zG (es.toList.map λe=>EN e.2) j (by rw[ai];exact Zb)
   rw[hkj]at p1
   have p2:(k::(es.toList.map λe=>EN e.2).eraseIdx j).Perm (k::l.erase k):=p1.trans (hpm.trans (List.perm_cons_erase hk))
   have p3:=(List.perm_cons k).mp p2
   rw[decide_eq_true_iff,←p3.mem_iff,tq,HK λe he=>Bs e (List.mem_of_mem_eraseIdx he),B5]
  obtain ⟨_,Ae⟩:=SetOf_store (knd:=strKind prog w) (S':=λx=>decide (x∈l.erase k)) ho hex hd (es':=cY es j) (t':=t.drop j)
   (λe he=>Bs e (by rw[tq]at he;exact List.mem_of_mem_eraseIdx he)) Zc (by rw[es'];omega) (by rw[es'];exact Ji hf ZJ)
  rw[es']at Ae
  have hl:(l.erase k).length=es.size - 1:=by rw[dI hk,yD]
  rw[←hl]at Ae
  exact h _ _ (dO ..) Ae
theorem JT{x:Value}{k:Str}{Q:Bool→Shared→Prop}(hx:(strKind prog w).is k x=true)(h:Q true s):aB (model prog w) A (d7 x) Q E s:=by
 obtain ⟨t,rfl⟩:=cN hx
 exact aq h
theorem BU{a:Addr}{Q:(Option (List (Int×Value))×Unit)→Shared→Prop}:∀(es:List (Int×Value)),ElemsOf (strKind prog w) es→Q (none,()) s→
  aB (model prog w) A (forIn es ((none,()):Option (List (Int×Value))×Unit) λx __s=>
      match x with
      |(fst,x)=>do
       let __do_lift ←d7 x
       if (!__do_lift)=true then do
         let __do_lift ←Builtin.Frozenset.walk a
         pure (ForInStep.done (some __do_lift,()))
        else pure (cL (none,()))) Q E s
 |[],_,h=>aq h
 |(i,x)::es,Bs,h=>by
  obtain ⟨⟨k,hk,_⟩,_⟩:=Bs _ (.head _)
  rw[de]
  refine af (af (JT hk ?_))
  exact aq (BU es (λe he=>Bs e (.tail _ he)) h)
theorem Bn{a b:Addr}{o o2:Obj}{es SN:Array (Int×Value)}{ep XY:Nat}{t t2:SetTable}{Q:List (Int×Value)→Shared→Prop}(ho:s.heap.get? a=some o)(hd:o.data=.set es ep t)(hf:t.fits es.size=true)(Bs:ElemsOf (strKind prog w) es.toList)
  (UE:s.heap.get? b=some o2)(hd2:o2.data=.set SN XY t2)(Ut:t2.fits SN.size=true)(OO:ElemsOf (strKind prog w) SN.toList)(h:Q es.toList s):aB (model prog w) A (dU a b) Q E s:=by
 unfold dU setEntries
 refine af (af (bE ho hd hf (aq ?_)))
 refine af (af (bE UE hd2 Ut (aq ?_)))
 refine af (BU _ (λe he=>?_) (aq h))
 rcases List.mem_append.mp he with he |he
 ·exact Bs e he
 ·exact OO e he
theorem Im{a b:Addr}{o:Obj}{es:Array (Int×Value)}{ep:Nat}{t:SetTable}{m:List Str}{nm:String}{Q:(Option Bool×Unit)→Shared→Prop}(ho:s.heap.get? a=some o)(hd:o.data=.set es ep t)(hf:t.fits es.size=true)
  (hb:s.heap.SetOf (strKind prog w) b (λx=>decide (x∈m)) m.length):∀(l:List (Int×Value)),ElemsOf (strKind prog w) l→(∀e∈l,∀k,(strKind prog w).is k e.2=true→k∈m)→Q (none,()) s→
  aB (model prog w) A (forIn l ((none,()):Option Bool×Unit) λx __s=>
      match x with
      |(h,x)=>do
       let __do_lift ←holding [x] (setFind b x h)
       if __do_lift.isNone=true then pure (ForInStep.done (some false,()))
        else do
         d0 nm a ep
         pure (cL (none,()))) Q E s
 |[],_,_,h=>aq h
 |(i,x)::l,Bs,hm,h=>by
  obtain ⟨⟨k,hk,hh⟩,Pq⟩:=Bs _ (.head _)
  rw[de]
  refine af (af (bL ?_))
  have XS:i=(strKind prog w).hash k:=hh
  rw[XS]
  refine wpAny_setFind_of hk Pq hb λr hr=>?_
  have:k∈m:=hm _ (.head _) k hk
  have HE:r.isSome=true:=by rw[hr];exact decide_eq_true this
  cases r with
  |none=>cases HE
  |some j=>
   unfold d0 setEpoch
   refine af (af (af (bE ho hd hf (aq ?_))))
   simp only [bne_self_eq_false,cj,↓reduceIte]
   exact aq (aq (Im ho hd hf hb l (λe he=>Bs e (.tail _ he)) (λe he=>hm e (.tail _ he)) h))
theorem EU{a b:Addr}{l m:List Str}{nm:String}{Q:Bool→Shared→Prop}(ha:s.heap.SetOf (strKind prog w) a (λx=>decide (x∈l)) l.length)(hb:s.heap.SetOf (strKind prog w) b (λx=>decide (x∈m)) m.length)(hs:∀x∈l,x∈m)(hl:l.length≤m.length)(h:Q true s):
  aB (model prog w) A (cW nm a b) Q E s:=by
 have Ze:=hb
 obtain ⟨o,es,ep,t,ho,hex,hd,Bs,sX,hbd,hf,yD⟩:=ha
 obtain ⟨o2,SN,XY,t2,UE,hex2,hd2,OO,WB,XP,Ut,hsz2⟩:=hb
 unfold cW bG setEntries
 refine af (af (af (bE ho hd hf (aq (aq ?_)))))
 refine af (af (af (bE UE hd2 Ut (aq (aq ?_)))))
 dsimp only
 rw[if_neg (by omega)]
 unfold setEpoch
 refine af (af (bE ho hd hf (aq ?_)))
 refine af (Bn ho hd hf Bs UE hd2 Ut OO ?_)
 refine af (Im ho hd hf Ze _ Bs (λe he k hk=>?_) (aq h))
 exact hs k (by simpa using (sX k).mpr ⟨e,he,hk⟩)
theorem Dz:entryFor table "set.__ne__"=some Builtin.«frozenset.__ne__»:=
 entryFor_alias (id':="frozenset.__ne__") (by kernel_rfl) rfl (by decide+kernel) (by kernel_rfl)
theorem Oq{a b:Addr}{l m:List Str}{Q:Value→Shared→Prop}(ha:s.heap.SetOf (strKind prog w) a (λx=>decide (x∈l)) l.length)(hb:s.heap.SetOf (strKind prog w) b (λx=>decide (x∈m)) m.length)(hs:∀x∈l,x∈m)(hl:l.length=m.length)(hu:A.units<cLine)(h:Q (.bool false) s):
  aB (model prog w) A (richCompare .NotEq (.ref a) (.ref b)) Q E s:=by
 have Zs:s.TypeIs (.ref a) "set":=ha.typeIs
 have hTb:s.TypeIs (.ref b) "set":=hb.typeIs
 have f1:=PySem.F.sub_set_set
 have f2:=PySem.F.sub_set_frozenset
 refine wpAny_richCompare_same_room Zs hTb PySem.F.slot_set_ne (dv PySem.F.slot_set_ne Zs Dz ?_ (PySem.F.args_set_ne_2 _ _)) hu
 have JH:=EU (A:=A.in1) (E:=E) (nm:=s!"frozenset.{"__ne__"}") (Q:=λr s'=>r=true∧s'=s) ha hb hs (ay hl) ⟨rfl,rfl⟩
 obtain ⟨o,es,ep,t,ho,hex,hd,Bs,sX,hbd,hf,yD⟩:=id ha
 obtain ⟨o2,SN,XY,t2,UE,hex2,hd2,OO,WB,XP,Ut,hsz2⟩:=id hb
 have hn:(es.size !=SN.size)=false:=by simp [yD,hsz2,hl]
 have sa:∀{A:Around} {Q:Nat→Shared→Prop},Q es.size s→aB (model prog w) A (bG a) Q E s:=λh=>by
  unfold bG setEntries
  exact af (af (bE ho hd hf (aq (aq h))))
 have sb:∀{A:Around} {Q:Nat→Shared→Prop},Q SN.size s→aB (model prog w) A (bG b) Q E s:=λh=>by
  unfold bG setEntries
  exact af (af (bE UE hd2 Ut (aq (aq h))))
 unfold Builtin.«frozenset.__ne__»
 wp_delta
 generalize hSZ:bG=SZ at sa sb ⊢
 generalize hSS:cW=SS at JH ⊢
 obtain ⟨hp,g,d,tk,os⟩:=s
 wp_walk
 refine sa ?_
 wp_walk
 refine sb ?_
 dsimp only
 rw[hn]
 simp only [cj,↓reduceIte]
 wp_walk
 refine aZ JH (λr s' hr=>?_) λZ Z x=>x
 obtain ⟨rfl,rfl⟩:=hr
 exact aq ⟨_,rfl,(λx=>nomatch x),h⟩
end
end
end
mutual
section
open PySem.SeqAt PySem.MeetsSeq
theorem zI:∀(x l:List Str),(jS l x).length≤l.length+x.length
 |[],l=>aL _
 |a::x,l=>ab (zI x (A3 l a)) (by rw[uJ,c8];split<;>omega)
open Builtin in
theorem CU{prog:Program}{w:World}{A:Around}{s:Shared}{E:Value→Shared→Prop}{S a:Addr}{ps:List (Str×Tok)}{l₀:List Str}{Q:Value→Shared→Prop}(hh:A.handled=none)(hl:s.heap.IsList a (strValues ps).toArray)(Fi:a≠S)
  (hS:s.heap.SetOf (strKind prog w) S (λk=>decide (k∈l₀)) l₀.length)(hb:l₀.length+ps.length+1<scanBound)
  (h:∀h' tk,h'.SetOf (strKind prog w) S (λk=>decide (k∈jS l₀ (ps.map (·.1)))) (jS l₀ (ps.map (·.1))).length→(∀b o,b≠S→s.heap.get? b=some o→h'.get? b=some o)→Q .none {s with heap:=h',toks:=tk}):
  aB (model prog w) A (call (.builtin "set.update") [.ref S,.ref a]) Q E s:=by
 refine dv fK hS.typeIs PySem.F.entry_set_update ?_ (PySem.F.args_set_update_2 _ _)
 unfold Builtin.«set.update»
 generalize Wq:a9=UF
 have hf:∀{A':Around} {Q:Unit→Shared→Prop},A'.handled=none→(∀h' tk,h'.SetOf (strKind prog w) S (λk=>decide (k∈jS l₀ (ps.map (·.1)))) (jS l₀ (ps.map (·.1))).length→(∀b o,b≠S→s.heap.get? b=some o→h'.get? b=some o)→Q () {s with heap:=h',toks:=tk})→
   aB (model prog w) A' (UF "set.update" S (.ref a)) Q E s:=λXS k=>by rw[←Wq];exact tN XS hl Fi hS hb k
 obtain ⟨hp,g,dr,t,os⟩:=s
 wp_walk
 refine hf hh λh' tk Ae hk=>?_
 wp_walk
 exact⟨_,rfl,h h' tk Ae hk⟩
open Builtin in
theorem Dg{prog:Program}{w:World}{A:Around}{s:Shared}{E:Value→Shared→Prop}{a:Addr}{k:Str}{tk:Tok}{l:List Str}{Q:Value→Shared→Prop}
  (hS:s.heap.SetOf (strKind prog w) a (λx=>decide (x∈l)) l.length)(hn:l.Nodup)(hk:k∈l)
  (h:∀h' t,Heap.SameBut a s.heap h'→h'.SetOf (strKind prog w) a (λx=>decide (x∈l.erase k)) (l.erase k).length→Q .none {s with heap:=h',toks:=t}):
  aB (model prog w) A (call (.builtin "set.remove") [.ref a,.str k tk]) Q E s:=by
 refine dv fL hS.typeIs PySem.F.entry_set_remove ?_ (PySem.F.args_set_remove_2 _ _)
 unfold Builtin.«set.remove»
 generalize Wq:setDiscard=UF
 have hf:∀{A':Around} {E:Value→Shared→Prop} {Q:Bool→Shared→Prop},(∀h' t,Heap.SameBut a s.heap h'→h'.SetOf (strKind prog w) a (λx=>decide (x∈l.erase k)) (l.erase k).length→Q true {s with heap:=h',toks:=t})→
   aB (model prog w) A' (UF a (.str k tk)) Q E s:=λk=>by rw[←Wq];exact A8 hS hn hk k
 obtain ⟨hp,g,dr,t,os⟩:=s
 wp_walk
 refine wpAny_tryCatch (hf λh' t hs Ae=>?_)
 wp_walk
 exact⟨_,rfl,h h' t hs Ae⟩
section
variable{cx:Cx}{d:Nat}{γ:Nm→Option I}{ρ:Loc}{σ:Hp}{φ φ':Ph}{h h':Heap}{s:Shared}{A:Around}{Q:V→Hp→Prop}
theorem z3:∀{l:List V} {xs:List Str},strsOf l=some xs→xs.length=l.length
 |[],xs,e=>congrArg cg (Option.some.inj e).symm
 |a::l,xs,e=>xA (f:=λx=>(strsOf l).map (x:: ·)) e λx hv e=>(Option.map_eq_some_iff.mp e).elim λys e=>e.2▸congrArg (· +1) (z3 e.1)
theorem K5(S:kO cx φ σ s){r:I}(hr:σ r=none){a:Addr}{h':Heap}(hn:s.heap.get? a=none)(hk:∀b o,s.heap.get? b=some o→h'.get? b=some o){l:List Str}
  (g:h'.SetOf (strKind cx.prog cx.w) a (λx=>decide (x∈l)) l.length)(nd:l.Nodup)(hl:l.length≤1000)(t:Nat):Made cx φ σ s r (.set l) a h' t:=
 zj (m:=.set l) S hr hn hk (λY=>⟨rfl,_,g,λZ=>rfl,nd,hl⟩) t
inductive Mu(Q:V→Hp→Prop)(σ:Hp):Prop
 |mk (z:I):σ z=none→Q (.ref z) (up σ z (some (.set [])))→Mu Q σ
theorem IC(O:gT cx)(h:Mu Q σ):WE cx d (.bi .wF []) γ ρ σ Q:=λsc ex c A env φ s F Q' k=>c.bi λp1 args p hb ca=>
 xp (G:=λvs σ'=>vs=[]∧Mu Q σ') O hb ca F (fZ ⟨rfl,h⟩) λφ' σ' s' vs ys g vr q=>q.2.casesOn λz hz q2=>by
  rw[show ys=[]from(show gh s'.heap φ' σ' [] ys from q.1▸vr)]
  exact call_set_0 λled=>
   have w:=K5 (l:=[]) g.S hz (h':=s'.heap.push {cls:=.type "set",data:=.set #[] 0 (.fresh 0 0 led)}) (end_none _) oP
    (PyProof.Rows.SetOf_congr ((eO (knd:=strKind cx.prog cx.w) led).setOf (aF _ rfl) (by unfold scanBound;omega)) (λZ=>rfl) rfl) .nil (aw _) s'.toks
   k _ _ _ _ _ (g.trans w.g) w.v q2
theorem scan1{n:Nat}{ps:List (Str×Tok)}(h:n+ps.length<900):n+ps.length+1<scanBound:=by unfold scanBound;omega
theorem K2{l:List V}{ps:List (Str×Tok)}(hx:strsOf l=some (ps.map (·.1))):ps.length=l.length:=(ai ..).symm.trans (z3 hx)
theorem Hd{l:List Str}{ps:List (Str×Tok)}(h:l.length+ps.length<900):(jS l (ps.map (·.1))).length≤1000:=ab (zI _ _) (by rw[ai];omega)
inductive QD(Q:V→Hp→Prop)(v:V)(σ:Hp):Prop
 |mk (r:I) (l:List V) (xs:List Str) (z:I):v=.ref r→σ r=some (.list l)→strsOf l=some xs→l.length<900→σ z=none→Q (.ref z) (up σ z (some (.set (jS [] xs))))→QD Q v σ
theorem DP{a:Addr}{vs:List Value}{l:List V}{xs:List Str}{z:I}{Q':Value→Shared→Prop}(hA:nU A d)(S:kO cx φ σ s)(vr:gh s.heap φ σ l vs)(hx:strsOf l=some xs)(hl:l.length<900)(hz:σ z=none)(q:Q (.ref z) (up σ z (some (.set (jS [] xs)))))(k:KE cx φ σ s Q Q')
  (hu:∀(ps:List (Str×Tok)) (A':Around) (s':Shared) (R:Unit→Shared→Prop),vs=strValues ps→A'.handled=none→(∀b o,s.heap.get? b=some o→s'.heap.get? b=some o)→s'.heap.SetOf (strKind cx.prog cx.w) s.heap.objs.size (λk=>decide (k∈([]:List Str))) 0→([]:List Str).length+ps.length+1<scanBound→
   (∀h' tk,h'.SetOf (strKind cx.prog cx.w) s.heap.objs.size (λk=>decide (k∈jS [] (ps.map (·.1)))) (jS [] (ps.map (·.1))).length→(∀b o,b≠s.heap.objs.size→s'.heap.get? b=some o→h'.get? b=some o)→R () {s' with heap:=h',toks:=tk})→
   aB (model cx.prog cx.w) A' (a9 "set.__init__" s.heap.objs.size (.ref a)) R kX s'):aB (model cx.prog cx.w) A (call (.type "set") [.ref a] []) Q' kX s:=
 (xl vr hx).elim λps p=>by
  have hb:([]:List Str).length+ps.length<900:=by rw[List.length_nil,c5,K2 (p.2.symm▸hx)];exact hl
  exact J4 (l:=jS [] (ps.map (·.1))) (λA' oZ R hh hk hS HE=>hu ps A' oZ R p.1 (hh.trans hA.hd) hk hS (scan1 hb) HE) λh' tk hS hk=>
   have w:=K5 S hz (end_none _) hk hS (tm _ .nil) (Hd hb) tk
   k _ _ _ _ _ w.g w.v (p.2.symm▸q)
theorem EV(O:gT cx){m:ME}(h:WE cx d m γ ρ σ (QD Q)):WE cx d (.bi .wF [m]) γ ρ σ Q:=
 qS O h λA φ σ s v y Q' hA S vr q k=>q.casesOn λr l xs z e hr hx hl hz q=>vr.at e▸(S.rel.objs _ _ hr).2.elim λvs w=>w.elim λn w=>
  DP hA S w.2.1 hx hl hz q k λps A' oZ R e hh hk hS hb HE=>tN (l₀:=[]) hh ⟨_,hk _ _ (e▸w.1),rfl,n,rfl⟩ (av (a0 w.1)) hS hb HE
inductive RD(Q:V→Hp→Prop)(v:V)(σ:Hp):Prop
 |mk (l:List V) (xs:List Str) (z:I):v=.tup l→strsOf l=some xs→l.length<900→σ z=none→Q (.ref z) (up σ z (some (.set (jS [] xs))))→RD Q v σ
theorem F8(O:gT cx){m:ME}(h:WE cx d m γ ρ σ (RD Q)):WE cx d (.bi .wF [m]) γ ρ σ Q:=
 qS O h λA φ σ s v y Q' hA S vr q k=>q.casesOn λl xs z e hx hl hz q=>(vr.t e).elim λa w=>w.elim λvs w=>w.1▸
  DP hA S w.2.2 hx hl hz q k λps A' oZ R e hh hk hS hb HE=>z9 (l₀:=[]) hh ⟨_,hk _ _ (e▸w.2.1),rfl,_,rfl⟩ (av (a0 w.2.1)) hS hb HE
inductive To(Q:Hp→Prop)(a b:V)(σ:Hp):Prop
 |mk (p q:I) (xs ys:List Str):a=.ref p→b=.ref q→σ p=some (.set xs)→σ q=some (.set ys)→(∀x∈xs,x∈ys)→xs.length=ys.length→Q σ→To Q a b σ
theorem Tj{a b:V}{x y:Value}{Q:Hp→Prop}{Q':Value→Shared→Prop}(hA:nU A d)(S:kO cx φ σ s)(va:gJ s.heap φ σ a x)(vb:gJ s.heap φ σ b y)(q:To Q a b σ)(k:Q σ→Q' (.bool false) s):aB (model cx.prog cx.w) A (richCompare .NotEq x y) Q' kX s:=
 q.casesOn λp q xs ys e1 e2 h1 h2 hs hl q'=>va.at e1▸vb.at e2▸(S.rel.objs _ _ h1).2.elim λS1 g1=>(S.rel.objs _ _ h2).2.elim λS2 g2=>
  Oq (PyProof.Rows.SetOf_congr g1.1 g1.2.1 rfl) (PyProof.Rows.SetOf_congr g2.1 g2.2.1 rfl) hs hl (ao (aA _ _) (D0 hA)) (k q')
theorem I9{l r:ME}{Q:Bool→Hp→Prop}(h:WE cx d l γ ρ σ (FZ cx d γ ρ r (To (Q false)))):WT cx d (.cmp .NotEq l r) γ ρ σ Q:=λsc ex c A env φ s F Q' k=>c.cmp λle re p hm cl cr=>
 wpAny_isTrue_Compare1 (h _ _ cl A env φ s F _ λφ' σ' s' v y g vr q=>q _ _ cr A env φ' s' (F.go g) _ λφ'' σ'' oZ u z g' ur q=>Tj F.hA g'.S (vr.ext g.S.rel g'.x) ur q λq=>fz (k φ'' σ'' _ _ (g.trans g') q)) hm
theorem IV(S:kO cx φ σ s){r:I}{l l':List Str}(hr:σ r=some (.set l)){h':Heap}(hk:∀b o,b≠(φ r).1→s.heap.get? b=some o→h'.get? b=some o)
  (g:h'.SetOf (strKind cx.prog cx.w) (φ r).1 (λx=>decide (x∈l')) l'.length)(nd:l'.Nodup)(hl:l'.length≤1000)(t:Nat):Go cx φ σ s φ (up σ r (some (.set l'))) {s with heap:=h',toks:=t}:=
 have e2:=(S.rel.objs _ _ hr).1
 have g1:∃q,h'.get? (φ r).1=some q:=g.elim λo w=>w.elim λZ w=>w.elim λZ w=>w.elim λZ w=>⟨o,w.1⟩
 have key:=change (o':=.set l') S.rel hr (h':=h') (λb q n Z e=>hk b q n e) g1 (by rw[e2];exact g1) λX=>⟨e2,_,g,λZ=>rfl,nd,hl⟩
 ⟨key.1,key.2,S.gens,S.drawn,S.os⟩
inductive Qm(Q:V→Hp→Prop)(v u:V)(σ:Hp):Prop
 |mk (r:I) (l:List Str) (p:I) (l2:List V) (xs:List Str):v=.ref r→u=.ref p→σ r=some (.set l)→σ p=some (.list l2)→strsOf l2=some xs→l.length+xs.length<900→Q .none (up σ r (some (.set (jS l xs))))→Qm Q v u σ
theorem set_list{l:List Str}{l2:List V}{r p:I}(e:σ r=some (.set l))(e':σ p=some (.list l2)):r≠p:=λq=>O.noConfusion (Option.some.inj (e.symm.trans (q▸e')))
theorem AI(O:gT cx){o m:ME}(h:WE cx d o γ ρ σ (NX cx d γ ρ Mg m (Qm Q))):WE cx d (.gn o .pb [m] []) γ ρ σ Q:=
 rE ⟨fR,fK,PySem.F.type_set_update⟩ ty_set h λA φ σ s v y u z Q' hA S vr ur q k=>q.casesOn λr l p l2 xs e1 e3 e2 e4 hx hb q=>vr.at e1▸ur.at e3▸
  (S.rel.objs _ _ e2).2.elim λS1 g1=>(S.rel.objs _ _ e4).2.elim λvs w=>w.elim λn w=>(xl w.2.1 hx).elim λps pe=>by
   have hb:l.length+ps.length<900:=by rw[←ai (as:=ps) (·.1),pe.2];exact hb
   exact CU (l₀:=l) hA.hd ⟨_,pe.1▸w.1,rfl,n,rfl⟩ (Ne.symm (S.rel.inj r p (kq e2) (kq e4) (set_list e2 e4)).1) (PyProof.Rows.SetOf_congr g1.1 g1.2.1 rfl) (scan1 hb) λh' tk hS hk=>
    k φ _ _ _ _ (IV S e2 hk hS (tm _ g1.2.2.1) (Hd hb) tk) .none (pe.2.symm▸q)
inductive Rf(Q:V→Hp→Prop)(v u:V)(σ:Hp):Prop
 |mk (r:I) (l:List Str) (x:Str):v=.ref r→u=.str x→σ r=some (.set l)→x∈l→Q .none (up σ r (some (.set (l.erase x))))→Rf Q v u σ
theorem Gj(O:gT cx){o m:ME}(h:WE cx d o γ ρ σ (NX cx d γ ρ Mg m (Rf Q))):WE cx d (.gn o .qy [m] []) γ ρ σ Q:=
 rE ⟨fR,fL,PySem.F.type_set_remove⟩ ty_set h λA φ σ s v y u z Q' hA S vr ur q k=>q.casesOn λr l x e1 e3 e2 hx q=>vr.at e1▸(ur.s e3).elim λt et=>et▸(S.rel.objs _ _ e2).2.elim λS1 g1=>
  Dg (l:=l) (PyProof.Rows.SetOf_congr g1.1 g1.2.1 rfl) g1.2.2.1 hx λh' tk hs hS=>
   k φ _ _ _ _ (IV S e2 (λb o hb e=>(hs.2 b hb).trans e) hS (g1.2.2.1.erase _) (ab List.length_erase_le g1.2.2.2) tk) .none q
end
end
end
mutual
section
open PySem.SeqAt PySem.MeetsSeq
section
variable{cmp:Nat→Nat→(Bool→Shared→Prop)→Shared→Prop}{s:Shared}
def Keeps(cmp:Nat→Nat→(Bool→Shared→Prop)→Shared→Prop)(n:Nat)(s:Shared):Prop:=∀i j C,i<n→j<n→(∀b,C b s)→cmp i j C s
def Below(n:Nat)(p:Array Nat):Prop:=p.toList.Perm (az n)
theorem Below.lt{n:Nat}{p:Array Nat}(h:Below n p)(hn:0<n)(i:Nat):p.getD i 0<n:=by
 by_cases hi:i<p.size
 ·have:p.getD i 0=p[i]:=by simp [Array.getD,hi]
  rw[this]
  have:p[i]∈p.toList:=by simp
  exact aM.mp (h.mem_iff.mp this)
 ·have:p.getD i 0=0:=by simp [Array.getD,hi]
  rw[this];exact hn
theorem Below.rev{n:Nat}{p:Array Nat}(h:Below n p)(i j:Nat):Below n (kas_rev p i j):=(Array.perm_iff_toList_perm.mp (mirror_perm p i j _)).trans h
theorem Below.bub{n:Nat}{p:Array Nat}(h:Below n p)(i j:Nat):Below n (bubble p i j):=(Array.perm_iff_toList_perm.mp (bubble_perm p i j)).trans h
theorem GS{n:Nat}(hn:0<n)(K:Keeps cmp n s){p:Array Nat}(hp:Below n p){Q:Nat→Shared→Prop}(h:∀m,Q m s):∀f m,(kas_asc p f m).kasWp cmp Q s
 |0,m=>h m
 |f+1,m=>K _ _ _ (hp.lt hn _) (hp.lt hn _) λb=>by
  cases b with
  |true=>exact h m
  |false=>exact GS hn K hp h f (m+1)
theorem y0{n:Nat}(hn:0<n)(K:Keeps cmp n s){Q:Array Nat×Nat×Nat→Shared→Prop}(h:∀p m q,Below n p→Q (p,m,q) s):∀f p m q,Below n p→(kas_desc f p m q).kasWp cmp Q s
 |0,p,m,q,hp=>h p m q hp
 |f+1,p,m,q,hp=>K _ _ _ (hp.lt hn _) (hp.lt hn _) λb=>by
  cases b with
  |true=>
   show KasT.kasWp cmp (if q>0 then _ else _) Q s
   split
   ·exact y0 hn K h f _ _ _ (hp.rev _ _)
   ·exact y0 hn K h f _ _ _ hp
  |false=>
   refine K _ _ _ (hp.lt hn _) (hp.lt hn _) λb=>?_
   cases b with
   |true=>exact h p m q hp
   |false=>exact y0 hn K h f _ _ _ hp
theorem EZ{n:Nat}(hn:0<n)(K:Keeps cmp n s){p:Array Nat}(hp:Below n p){Q:Nat×Array Nat→Shared→Prop}(h:∀m p,Below n p→Q (m,p) s)(a b:Nat):(kas_tail3 a b p).kasWp cmp Q s:=by
 unfold kas_tail3
 rw[dg]
 exact GS hn K (hp.rev _ _) (λm=>h m _ (hp.rev _ _)) _ _
theorem ye{n:Nat}(hn:0<n)(K:Keeps cmp n s){p:Array Nat}(hp:Below n p){Q:Nat×Array Nat→Shared→Prop}(h:∀m p,Below n p→Q (m,p) s)(a b:Nat):(kas_descPart a b p).kasWp cmp Q s:=by
 unfold kas_descPart
 rw[dg]
 refine y0 hn K (λp m q hp=>?_) _ _ _ _ hp
 show KasT.kasWp cmp (if q>0 then _ else _) Q s
 split
 ·exact EZ hn K (hp.rev _ _) h _ _
 ·exact EZ hn K hp h _ _
theorem L7{n:Nat}(hn:0<n)(K:Keeps cmp n s){p:Array Nat}(hp:Below n p){Q:Nat×Array Nat→Shared→Prop}(h:∀m p,Below n p→Q (m,p) s)(a:Nat):(kas_count a p).kasWp cmp Q s:=by
 unfold kas_count
 rw[dg]
 refine GS hn K hp (λm=>?_) _ _
 split
 ·exact h _ _ hp
 ·split
  ·refine K _ _ _ (hp.lt hn _) (hp.lt hn _) λb=>?_
   cases b with
   |true=>exact h _ _ hp
   |false=>exact ye hn K (hp.rev _ _) h _ _
  ·exact ye hn K hp h _ _
theorem zN{n:Nat}(hn:0<n)(K:Keeps cmp n s){p:Array Nat}(hp:Below n p){Q:Nat→Shared→Prop}(h:∀m,Q m s):∀(k f l r:Nat),(kas_place p k f l r).kasWp cmp Q s
 |k,0,l,r=>h l
 |k,f+1,l,r=>by
  unfold kas_place
  split
  ·exact h _
  ·refine K _ _ _ (hp.lt hn _) (hp.lt hn _) λb=>?_
   cases b with
   |true=>exact zN hn K hp h k f _ _
   |false=>exact zN hn K hp h k f _ _
theorem Kr{n:Nat}(hn:0<n)(K:Keeps cmp n s){Q:Array Nat→Shared→Prop}(h:∀p,Below n p→Q p s):∀(f:Nat) (p:Array Nat) (k:Nat),Below n p→(kas_bin f p k).kasWp cmp Q s
 |0,p,k,hp=>h p hp
 |f+1,p,k,hp=>by
  unfold kas_bin
  rw[dg]
  exact zN hn K hp (λl=>Kr hn K h f _ _ (hp.bub _ _)) _ _ _ _
theorem Qe{n:Nat}(hn:0<n)(K:Keeps cmp n s){Q:Array Nat→Shared→Prop}(h:∀p,Below n p→Q p s):(kas_sort n).kasWp cmp Q s:=by
 unfold kas_sort
 rw[dg]
 refine L7 hn K (p:=(az n).toArray) (.refl _) (λm p hp=>?_) _
 split
 ·exact Kr hn K h _ _ _ hp
 ·exact h _ hp
end
end
mutual
section
variable{prog:Program}{w:World}{A:Around}{E:Value→Shared→Prop}{s:Shared}
def sQ(h:Heap)(vs:List Value):Prop:=∀v∈vs,∃a x t y u,v=.ref a∧h.get? a=some (jI [.int x t,.int y u])
theorem two_lt{x y x' y':Int}{t u t' u':Tok}{a b:Addr}{Q:Bool→Shared→Prop}(ha:s.heap.get? a=some (jI [.int x t,.int y u]))(hb:s.heap.get? b=some (jI [.int x' t',.int y' u']))(h:∀c,Q c s):
  aB (model prog w) A (keyLt' (tuples' true) (.ref a) (.ref b)) Q E s:=by
 refine kat_lt ha rfl hb rfl ?_
 show KatLex prog w A true _ Q [(.int x t,.int x' t'),(.int y u,.int y' u')] 0 s
 refine kat_cons (wpAny_eqBool_int (kat_go (λZ=>kat_yes ?_) λZ=>kat_no (oneLt_int (h _))))
 refine kat_cons (wpAny_eqBool_int (kat_go (λZ=>kat_yes (kat_nil (h _))) λZ=>kat_no (kat_one _ _ (wpAny_lt_int (h _)))))
theorem Ag{h:Heap}{vs:List Value}(hP:sQ h vs){h':Heap}(hk:∀b o,o.cls=.type "tuple"→h.get? b=some o→h'.get? b=some o):sQ h' vs:=λv hv=>by
 obtain ⟨a,x,t,y,u,e,g⟩:=hP v hv
 exact⟨a,x,t,y,u,e,hk a _ rfl g⟩
theorem xt{h:Heap}:∀{vs:List Value},sQ h vs→∃fs,KatTups h vs fs∧fs.length=vs.length∧∀v∈fs,∃i t,v=.int i t
 |[],_=>⟨[],.nil,rfl,λv hv=>by cases hv⟩
 |v::vs,hP=>by
  obtain ⟨a,x,t,y,u,rfl,g⟩:=hP _ (.head _)
  obtain ⟨fs,h1,h2,h3⟩:=xt λv hv=>hP v (.tail _ hv)
  refine⟨.int x t::fs,.cons g rfl rfl rfl h1,by simp [h2],λv hv=>?_⟩
  rcases List.mem_cons.mp hv with rfl |hv
  ·exact⟨_,_,rfl⟩
  ·exact h3 v hv
theorem Gr{a:Addr}{vs:List Value}{n:Nat}{P:PySem.Fin→Shared→Prop}(ho:s.heap.get? a=some (seqObj "list" vs.toArray n))(hP:sQ s.heap vs)(TL:vs.length<64)
  (h:∀out:List Value,out.Perm vs→P (.done (.ret .none)) {s with heap:=sortedHeap s.heap a vs out.toArray}):
  aB (model prog w) A (Builtin.«list.sort» ⟨[.ref a],[]⟩) P E s:=by
 rw[list_sort_plain]
 have ha:a<s.heap.objs.size:=a0 ho
 refine af (listItems_at ho rfl ?_)
 refine af (listUpdate_at ho rfl ?_ (by rw[aC,cz];exact ab (aY TL) (au rfl)) (aw _))
 obtain ⟨e1,Z3⟩:∃e1,(s.heap.update a (bI λZ=>#[])).get? a=some (seqObj "list" #[] e1):=⟨_,get?_update_seq ho (λZ=>#[])⟩
 refine af (seqEpoch_at Z3 rfl ?_)
 refine af (wpAny_newTuple ?_ (by show vs.length≤_;rw[cz];exact ab (aY TL) (au rfl)))
 refine af (wpAny_newList ?_ (aw _))
 refine bL ?_
 have Xl:(((s.heap.update a (bI λZ=>#[])).push (seqObj "tuple" vs.toArray 0)).push (seqObj "list" #[] 0)).get? a=some (seqObj "list" #[] e1):=by
  rw[cD _ _ _ (by rw[size_push',c9];exact av (a5 ha)),cD _ _ _ (by rw[c9];exact av ha)]
  exact Z3
 show aB (model prog w) A _ P E {s with heap:=((s.heap.update a (bI λZ=>#[])).push (seqObj "tuple" vs.toArray 0)).push (seqObj "list" #[] 0)}
 have XU:sQ (((s.heap.update a (bI λZ=>#[])).push (seqObj "tuple" vs.toArray 0)).push (seqObj "list" #[] 0)) vs:=Ag hP λb o hc e=>by
  have hb:b<s.heap.objs.size:=a0 e
  have Fi:b≠a:=λe'=>by subst e';rw[ho]at e;cases e;simp [seqObj]at hc
  rw[cD _ _ _ (by rw[size_push',c9];exact av (a5 hb)),cD _ _ _ (by rw[c9];exact av hb),Heap.get?_update_ne _ _ _ _ Fi]
  exact e
 dsimp only
 have yD:vs.toArray.size=vs.length:=by simp
 by_cases h2:vs.toArray.size<2
 ·rw[if_pos h2,if_pos h2]
  refine af (aq ?_)
  rw[StateT.run_pure]
  refine af (aq ?_)
  dsimp only
  refine af (seqEpoch_at Xl rfl ?_)
  have e:(Array.map (λx:Keyed=>x.2) (pairsOf vs))=vs.toArray:=by
   apply Array.toList_inj.mp
   rw[Array.toList_map,pairsOf_toList,List.map_snd_zip (aL _)]
  refine af (listUpdate_at Xl rfl ?_ (by simp) (hsz2:=by rw[Array.size_map];show(pairsOf vs).size≤_;rw[pairsOf_size,cz];exact ab (aY TL) (au rfl)))
  simp only [bne_self_eq_false,cj,if_false]
  have h:=h vs (.refl _)
  rw[←e]at h
  exact aq h
 ·rw[if_neg h2,if_neg h2]
  have hn:2≤vs.length:=by omega
  obtain ⟨fs,hT,hfl,Td⟩:=xt XU
  refine af (kat_kind hT (by omega) (T:=.type "int") (λv hv=>?_) (by simp) ?_)
  ·obtain ⟨i,t,rfl⟩:=Td v hv
   exact .now
  have hb:(b9 "int"!=b9 "tuple")=true:=by decide
  rw[hb]
  refine af (aZ (kat_run (Q:=λst' s'=>∃p:Array Nat,Below vs.length p∧arrOf st'=p.map (kas_item (vs.toArray.zip vs.toArray))∧failedOf st'=none∧s'={s with heap:=((s.heap.update a (bI λZ=>(#[]:Array Value))).push (seqObj "tuple" vs.toArray 0)).push (seqObj "list" #[] 0)})
   (G:=λp s'=>Below vs.length p∧s'={s with heap:=((s.heap.update a (bI λZ=>(#[]:Array Value))).push (seqObj "tuple" vs.toArray 0)).push (seqObj "list" #[] 0)}) rfl hn TL (λp' st' s' a1 a2 a3 a4=>⟨p',a4.1,a2,a3,a4.2⟩) (Qe (by omega) (λi j C hi hj hC=>?_) λp hp=>⟨hp,rfl⟩)) ?_ λZ Z e=>e)
  ·unfold kas_ask
   have e1:vs.getD i fE∈vs:=by rw[cI,aG hi];exact ff hi
   have e2:vs.getD j fE∈vs:=by rw[cI,aG hj];exact ff hj
   obtain ⟨b1,x,t,y,u,q1,g1⟩:=XU _ e1
   obtain ⟨b2,x',t',y',u',q2,g2⟩:=XU _ e2
   rw[q1,q2]
   exact two_lt g1 g2 hC
  rintro ⟨⟨⟩,st'⟩ s' ⟨p,hp,har,hf,rfl⟩
  dsimp only
  have XR:=kat_snds (vs:=vs) rfl har
  rw[XR]
  have QR:(p.toList.map λi=>vs.getD i fE).Perm vs:=by
   refine(hp.map _).trans (List.Perm.of_eq ?_)
   apply List.ext_getElem
   ·simp
   ·intro i h1 h2
    simp [h2]
  refine af (seqEpoch_at Xl rfl ?_)
  refine af (listUpdate_at Xl rfl ?_ (by simp) (hsz2:=by rw[aC,QR.length_eq,cz];exact ab (aY TL) (au rfl)))
  rw[hf]
  simp only [bne_self_eq_false,cj,if_false]
  exact aq (h _ QR)
theorem De{l:Addr}{vs:List Value}{Q:Value→Shared→Prop}(hl:s.heap.IsList l vs.toArray)(hP:sQ s.heap vs)(TL:vs.length<64)
  (h:∀out:List Value,out.Perm vs→Q (.ref (s.heap.objs.size+1)) {s with heap:=sortedAll s.heap vs out.toArray}):
  aB (model prog w) A (call (.builtin "sorted") [.ref l]) Q E s:=by
 refine Calls.call_function_entry kind_sorted plain_sorted entry_sorted (args_sorted1 _) ?_
 unfold Builtin.«sorted»
 refine af (m:=checkCount "sorted" 1 1 _) (aq ?_)
 refine af (collect_list hl ?_ (by rw[cz];omega))
 refine af (wpAny_newList ?_ (by rw[cz];omega))
 have yD:((s.heap.push (seqObj "list" #[] 0)).update s.heap.objs.size (bI (· ++vs.toArray))).objs.size=s.heap.objs.size+1:=by
  rw[c9,size_push']
 have hoL:(((s.heap.push (seqObj "list" #[] 0)).update s.heap.objs.size (bI (· ++vs.toArray))).push (seqObj "list" vs.toArray 0)).get? (s.heap.objs.size+1)=some (seqObj "list" vs.toArray 0):=by
  rw[←yD];exact aF _ rfl
 show aB _ _ _ _ _ {s with heap:=((s.heap.push (seqObj "list" #[] 0)).update s.heap.objs.size (bI (· ++vs.toArray))).push (seqObj "list" vs.toArray 0)}
 rw[yD]
 refine af (bL (dv slot_list_sort ⟨_,hoL,rfl⟩ entry_list_sort (Gr hoL (Ag hP λb o hc e=>?_) TL λout hp=>⟨_,rfl,?_⟩) (args_list_sort _)))
 ·have xM:b<s.heap.objs.size:=a0 e
  rw[cD _ _ _ (by rw[yD];exact av (a5 xM)),Heap.get?_update_ne _ _ _ _ (av xM),cD _ _ _ (av xM)]
  exact e
 ·exact aq ⟨_,rfl,h out hp⟩
end
end
mutual
section
variable{cx:Cx}{d:Nat}{γ:Nm→Option I}{ρ:Loc}{σ:Hp}{φ φ':Ph}{h h':Heap}{s:Shared}{A:Around}{Q:V→Hp→Prop}
def uG(p:Int×Int):V:=.tup [.int p.1,.int p.2]
theorem ET:∀{ps:List (Int×Int)} {vs:List Value},gh h φ σ (ps.map uG) vs→sQ h vs
 |[],vs,r=>by rw[show vs=[]from r];exactλv hv=>absurd hv aj
 |p::ps,vs,r=>(gh.un r).elim λy w=>w.elim λzs w=>(w.2.1.t rfl).elim λa t=>t.elim λus t=>(gh.un t.2.2).elim λy1 w1=>w1.elim λz1 w1=>(gh.un w1.2.2).elim λy2 w2=>w2.elim λz2 w2=>(w1.2.1.i rfl).elim λt1 e1=>(w2.2.1.i rfl).elim λt2 e2=>by
  intro v hv
  rw[w.1]at hv
  rcases List.mem_cons.mp hv with e |hv
  ·exact⟨a,_,t1,_,t2,e.trans t.1,by rw[t.2.1,w1.1,w2.1,e1,e2,show z2=[]from w2.2.2]⟩
  ·exact ET w.2.2 v hv
theorem gh.perm{vs ws:List Value}(p:ws.Perm vs):∀{l:List V},gh h φ σ l vs→∃l',l'.Perm l∧gh h φ σ l' ws:=by
 induction p with
 |nil=>exactλ{l} r=>⟨l,.refl _,r⟩
 |cons x p ih=>
  intro l r
  cases l with
  |nil=>exact absurd r (b5 _ _)
  |cons v l=>
   exact(gh.un r).elim λy w=>w.elim λz w=>by
    cases w.1
    exact(ih w.2.2).elim λl' q=>⟨v::l',q.1.cons _,.cons w.2.1 q.2⟩
 |swap x y l=>
  intro l r
  cases l with
  |nil=>exact absurd r (b5 _ _)
  |cons v l=>
   refine(gh.un r).elim λy w=>w.elim λz w=>?_
   cases w.1
   cases l with
   |nil=>exact absurd w.2.2 (b5 _ _)
   |cons u l=>
    exact(gh.un w.2.2).elim λy' w'=>w'.elim λz' w'=>by
     cases w'.1
     exact⟨u::v::l,.swap _ _ _,.cons w'.2.1 (.cons w.2.1 w'.2.2)⟩
 |trans p q ih1 ih2=>exactλ{l} r=>(ih2 r).elim λl1 a=>(ih1 a.2).elim λl2 b=>⟨l2,b.1.trans a.1,b.2⟩
inductive Q8(Q:V→Hp→Prop)(v:V)(σ:Hp):Prop
 |mk (r:I) (ps:List (Int×Int)):v=.ref r→σ r=some (.list (ps.map uG))→ps.length<64→(∀l':List V,l'.Perm (ps.map uG)→∃z,σ z=none∧Q (.ref z) (up σ z (some (.list l'))))→Q8 Q v σ
theorem Gv(O:gT cx){m:ME}(h:WE cx d m γ ρ σ (Q8 Q)):WE cx d (.bi .lR [m]) γ ρ σ Q:=
 qS O h λA φ σ s v y Q' hA S vr q k=>q.casesOn λr ps e hr xM q=>vr.at e▸(S.rel.objs _ _ hr).2.elim λvs w=>w.elim λn w=>
  De ⟨_,w.1,rfl,n,rfl⟩ (ET w.2.1) (by rw[←gh.length w.2.1,ai];exact xM) λout hp=>(gh.perm hp w.2.1).elim λl' a=>(q l' a.1).elim λz q'=>(sortedAll_at s.heap vs out.toArray).elim λe YB=>
   have w':=rA S q'.1 (bq (aT _)) (λb o e=>sortedAll_old e) (n:=e) YB a.2 (by rw[a.1.length_eq];exact w.2.2) s.toks
   k _ _ _ _ _ w'.g w'.v q'.2
end
end
end
mutual
section
open PySem.SeqAt PySem.MeetsSeq
structure vQ(cx:Cx)(f:Fn)(x:Nm)(d:jZ)(ps fr:List Nm)(ms:List MS):Prop where
 at_:cx.nest x=some d
 uniq:∀z d',cx.nest z=some d'→d'.tab=d.tab→d'=d
 tab:d.tab∈cx.tabs
 tabs:∀q∈cx.tabs,q.2=d.tab.2→q=d.tab
 hd:CodeHd cx.h0 d.tab.1 d.tab.2
 bm:∃bm ob,cx.mg "__builtins__"=some (.ref bm)∧bm≠builtinsNs∧cx.h0.get? bm=some ob∧ob.cls=.type "module"∧ob.dict=some builtinsNs∧ob.data=.plain
 frame:∀r,um cx f r→r.LZ=.ref d.tab.1∧(r.qual++".<locals>.")++x.str=d.qual
 po:d.params.posonlyargs=[]
 as:d.params.args.map (·.arg)=ps.map (·.str)
 va:d.params.vararg=none
 ko:d.params.kwonlyargs=[]
 kw:d.params.kwarg=none
 kind:d.scope.kind=.function
 co:d.scope.isCoroutine=false
 gen:d.scope.isGenerator=false
 pn:ps.Nodup
 pk:∀y∈ps,d.scope.names.lookup y.str=some .local
 T7:∀y∈d.scope.names,y.2≠.cell
 free:∀y∈d.scope.names,y.2=.free→∃z∈fr,z.str=y.1
 frk:∀z∈fr,(z.str,bC)∈d.scope.names
 body:i0 cx.K cx.nest d.scope ms d.body
section
variable{cx:Cx}{d:Nat}{γ:Nm→Option I}{ρ:Loc}{σ:Hp}{φ φ':Ph}{h h':Heap}{s:Shared}{A:Around}{env:Env}{sc:Scope}
def Se(cx:Cx)(h:Heap)(φ:Ph)(σ:Hp)(q:Str)(c':Addr):Prop:=∃o vs t,h.get? c'=some o∧o.data=.fields vs∧vs[1]?=some (.str q t)∧¬FP cx φ σ c'
theorem OF(R:Rel cx φ σ h){q:Addr×Addr}(hq:q∈cx.tabs)(hu:∀q'∈cx.tabs,q'.2=q.2→q'=q)(hk:∀b o,b≠q.2→h.get? b=some o→h'.get? b=some o){UQ:Array Value}(g':h'.get? q.2=some (tabObj UQ))(ht:TriplesOk UQ.toList)
  (hc:∀x d,cx.nest x=some d→d.tab=q→codeAmong d.pos UQ.toList=none∨∃c' o vs t,codeAmong d.pos UQ.toList=some (.ref c')∧h'.get? c'=some o∧o.data=.fields vs∧vs[1]?=some (.str d.qual t)∧¬FP cx φ σ c'):
  Ext cx φ σ h φ σ h'∧Rel cx φ σ h':=
 have Y:Ext cx φ σ h φ σ h':=⟨λZ e=>⟨e,rfl⟩,λb o e n Z=>hk b o (λz=>n (.tab q hq z)) e,λZ e e'=>absurd e e',λb o e=>(aK (b=q.2)).elim (λz=>⟨_,z▸g'⟩) λz=>⟨o,hk b o z e⟩⟩
 have T:=Y.tr R
 ⟨Y,λb o e=>Y.keep b o (R.base b o e) (R.lo b o e) id,R.lo,λr o e=>(R.tabs q hq).elim λps g=>(R.objs r o e).tr T (λo=>hk _ o λz=>R.uY (kq e) (.inl z.symm) g.1 rfl) λo=>hk _ o λz=>R.uY (kq e) (.inr z.symm) g.1 rfl,
  R.inj,λq' Xd=>(aK (q'.2=q.2)).elim (λz=>hu q' Xd z▸⟨UQ,g',ht,hc⟩) λz=>(R.tabs q' Xd).tr T λo=>hk _ o z⟩
variable{X:Env→Prop}{Q:Fl→Hp→Loc→Prop}
def WL(X:Env→Prop)(cx:Cx)(d:Nat)(γ:Nm→Option I)(ms:List MS)(Q:Fl→Hp→Loc→Prop)(fl:Fl)(σ:Hp)(ρ:Loc):Prop:=fl.casesOn (Wb X cx d ms γ ρ σ Q) (Q .brk σ ρ) (Q .cont σ ρ) λv=>Q (.ret v) σ ρ
theorem EO{m:MS}{ms:List MS}(h:W1 cx d m γ ρ σ (WL X cx d γ ms Q)):Wb X cx d (m::ms) γ ρ σ Q:=λsc sts c A env φ s hX F Q' k=>c.cons λst r c1 c2=>
 fP (h _ _ c1 A env φ s F _ λφ' σ' s' ρ' fl fv g fr q=>by
  cases fl with
  |next=>cases fr;exact q _ _ c2 A env φ' s' hX (F.x g) _ (k.trans g)
  |brk=>cases fr;exact k φ' σ' s' ρ' .brk _ g rfl q
  |cont=>cases fr;exact k φ' σ' s' ρ' .cont _ g rfl q
  |ret v=>exact fr.elim λy u=>u.1▸k φ' σ' s' ρ' (.ret v) _ g ⟨y,rfl,u.2⟩ q)
theorem D8:∀(l:List Arg) (env:Env),l.all (·.annotation.isNone)=true→annotationsOf l env=[]
 |[],_,_=>rfl
 |a::l,env,h=>by
  have h:=f7 (show(a.annotation.isNone&&l.all (·.annotation.isNone))=true from h)
  obtain ⟨n,an,q⟩:=a
  rw[show an=none from Option.isNone_iff_eq_none.mp h.1,arm_annotationsOf_cons_2];exact D8 l env h.2
theorem empty_eq{α:Type}{l:List α}(h:l.isEmpty=true):l=[]:=List.isEmpty_iff.mp h
theorem GB{pa:Arguments}(h:wj pa=true)(env:Env):annTrees pa none env=[]:=by
 have q1:=f7 h;have q2:=f7 q1.2;have q3:=f7 q2.2;have q4:=f7 q3.2;have q5:=f7 q4.2;have q6:=f7 q5.2
 obtain ⟨po,a,va,ko,kd,Xv,df⟩:=pa
 unfold annTrees
 show annotationsOf (a++po++va.toList++ko++Xv.toList) env++(bh (λx=>(aa "return",x)) (evalOpt none env)).toList=[]
 rw[show po=[]from empty_eq q4.1,show va=none from Option.isNone_iff_eq_none.mp q5.1,show ko=[]from empty_eq q6.1,show Xv=none from Option.isNone_iff_eq_none.mp q6.2]
 simp only [aU,Option.toList_none]
 rw[D8 a env q3.1]
 rfl
theorem H4(O:gT cx){f:Fn}{x:Nm}{nd:jZ}{ps fr:List Nm}{XA ms:List MS}{ss:List Stmt}{cl:List (Str×Addr)}{Q':Flow→Shared→Prop}(N:vQ cx f x nd ps fr XA){z:I}(hz:σ z=none)(F:Fm cx d γ ρ σ sc A env φ s)(hk:sc.names.lookup x.str=some .local)(dn:nd.name=x.str)
  (UL:∀n a,(n,bC)∈nd.scope.names→env.cells.lookup n=some a→cl.lookup n=some a)(c2:i0 cx.K cx.nest sc ms ss)(k:After cx φ σ s env γ Q Q')
  (h:WS cx d ms γ (up ρ x (some (.ref z))) (up σ z (some (.AP x (qK γ fr)))) Q){h':Heap}{c':Addr}{doc pm FK:Value}{tk:Nat}(Y1:Ext cx φ σ s.heap φ σ h')(R1:Rel cx φ σ h')(hc:Se cx h' φ σ nd.qual c')(yD:s.heap.objs.size≤h'.objs.size):
  aB (model cx.prog cx.w) A (storeName env x.str (.ref h'.objs.size)) (λZ oZ=>aB (model cx.prog cx.w) A (execs ss env) Q' kX oZ) kX {s with heap:=h'.push (fnMade x.str nd.qual nd.params nd.body nd.scope cl doc pm c' FK),toks:=tk}:=by
 have Vo:=end_none h'
 have ON:s.heap.get? h'.objs.size=none:=bq yD
 have Y2:Ext cx φ σ s.heap φ σ (h'.push (fnMade x.str nd.qual nd.params nd.body nd.scope cl doc pm c' FK)):=Y1.trans (Ext.push _)
 have Y3:=adopt (r:=z) (a:=(h'.objs.size,h'.objs.size)) (o:=.AP x (qK γ fr)) Y2 (R1.push _) hz ON ON (R1.kg Vo) (R1.kg Vo) (R1.ng Vo) (R1.ng Vo)
  (hc.elim λoc w=>w.elim λvs w=>w.elim λt w=>⟨rfl,nd,N.at_,cl,doc,pm,c',FK,dn▸aF _ rfl,⟨oc,vs,t,aP _ w.1,w.2.1,w.2.2.1⟩,
   have nc:c'≠h'.objs.size:=λe=>ir w.1 (e▸Vo)
   have fp:∀{y:I},up σ z (some (.AP x (qK γ fr))) y≠none→c'=(up φ z (h'.objs.size,h'.objs.size) y).1∨c'=(up φ z (h'.objs.size,h'.objs.size) y).2→False:=λ{y} hy he=>
    (aK (y=z)).elim (λe=>by rw[e,fW]at he;exact he.elim nc nc) λe=>by rw[gD _ _ e]at hy he;exact he.elim (λq=>w.2.2.2 (.one y hy q)) λq=>w.2.2.2 (.two y hy q)
   λq=>q.casesOn (λy hy he=>fp hy (.inl he)) (λy hy he=>fp hy (.inr he)) λy hy he=>w.2.2.2 (.tab y hy he),
   λy r e=>by
    by_cases hy:y∈fr
    ·have l:=F.L.iN y r ((if_pos hy).symm.trans e)
     have nr:r≠z:=λe'=>l.1 (e'▸hz)
     rw[gD _ _ nr,gD _ _ nr]
     exact⟨l.1,UL _ _ (N.frk y hy) l.2⟩
    ·exact nn ((if_neg hy).symm.trans e)⟩)
 have g:Go cx φ σ s _ _ {s with heap:=h'.push (fnMade x.str nd.qual nd.params nd.body nd.scope cl doc pm c' FK),toks:=tk}:=⟨Y3.1,Y3.2,F.S.gens,F.S.drawn,F.S.os⟩
 exact BE (v:=.ref z) (F.go g) hk ⟨kq (fW _ _ _),by rw[fW]⟩ λoZ g'=>h _ _ c2 A env _ oZ ((F.go g).x g') _ (k.trans ((F.gx g).trans g'))
theorem I4(O:gT cx){f:Fn}{x:Nm}{nd:jZ}{ps fr:List Nm}{XA:List MS}(N:vQ cx f x nd ps fr XA){ms:List MS}(hγ:∀y∈fr,∃r,γ y=some r){z:I}(hz:σ z=none)
  (h:WS cx d ms γ (up ρ x (some (.ref z))) (up σ z (some (.AP x (qK γ fr)))) Q):Wb (H8 cx f) cx d (.Uo x::ms) γ ρ σ Q:=λsc sts c A env φ s hX F Q' k=>c.cons λst ss c1 c2=>hX.elim λr W=>aI c1 λQZ w=>w.elim λp w=>by
 have e1:QZ=nd:=Option.some.inj (w.1.symm.trans N.at_)
 subst e1
 have f1:=N.frame r W.1
 have q1:=f7 w.2.2.2.2.2;have q2:=f7 q1.2
 have hk:sc.names.lookup x.str=some .local:=beq_iff_eq.mp (f7 w.2.2.2.2.1).1
 have hq:qualnameIn env x.str x.str=QZ.qual:=by
  unfold qualnameIn
  rw[F.kindOf,hk,W.2.2,f1.2];rfl
 rw[w.2.2.1]
 refine fP (nestDef_K (empty_eq q1.1) (empty_eq q2.1) (GB w.2.2.2.2.2 env) ?_)
 rw[hq]
 refine(yj (scope:=QZ.scope) (env:=env) λy hy hf=>(N.free y hy hf).elim λv hv=>(hγ v hv.1).elim λq e2=>⟨_,hv.2▸(F.L.iN v q e2).2⟩).elim λcl Gq=>?_
 have QY:env.code=.ref QZ.tab.1:=by rw[W.2.1,f1.1]
 have hgs:=O.g.keeps F.S.rel.base
 refine(F.S.rel.tabs _ N.tab).elim λtp T=>N.bm.elim λbm b=>b.elim λob b=>?_
 have loP:∀b o,cx.h0.get? b=some o→b≠QZ.tab.2:=λb o e q=>F.S.rel.lo b o e (.tab _ N.tab q)
 have hgP:mainGlobals≠QZ.tab.2:=O.g.elim λo w=>w.elim λZ w=>w.elim λZ w=>loP _ _ w.1
 have hbG:bm≠mainGlobals:=λq=>O.g.elim λo w=>w.elim λZ w=>w.elim λZ w=>bA ((congrArg cy (Option.some.inj (b.2.2.1.symm.trans (q▸w.1)))).symm.trans b.2.2.2.2.2|>.symm.trans w.2.1)
 have hB:s.heap.BuiltinsAt cx.mg QZ.tab.2:=⟨bm,ob,b.1,b.2.1,hbG,loP _ _ b.2.2.1,F.S.rel.base _ _ b.2.2.1,b.2.2.2.1,b.2.2.2.2.1,b.2.2.2.2.2⟩
 refine(T.2.2 x QZ N.at_ rfl).elim (λhnf=>?_) λu=>u.elim λc' u=>u.elim λoc u=>u.elim λvs u=>u.elim λt u=>?_
 ·refine makeFunction_K (mg:=cx.mg) Gq.1 F.E.glob hgs QY (N.hd.keeps F.S.rel.base) T.1 T.2.1 (by rw[←w.2.1];exact hnf) hgP hB λc' FK doc h' tk hx hge xM YP htb=>?_
  obtain ⟨c₂,oc,vs,t,e2,hoc,hd,hv⟩:=YP
  have e3:c'=c₂:=Value.ref.inj e2
  subst e3
  have Zz:¬FP cx φ σ c':=F.S.rel.kg (bq hge)
  have Y:=OF (h':=h') F.S.rel N.tab N.tabs (λb o n e=>hx b o n e) htb (by rw[ez];exact TriplesOk_snoc _ _ _ _ T.2.1) (λv d1 e1 e2=>.inr ⟨c',oc,vs,t,by
   rw[N.uniq v d1 e1 e2,ez,w.2.1]
   exact codeAmong_snoc _ T.2.1 (by rw[←w.2.1];exact hnf),hoc,hd,(N.uniq v d1 e1 e2).symm▸hv,Zz⟩)
  exact H4 O N hz F hk w.2.2.2.1 Gq.2 c2 k h Y.1 Y.2 ⟨oc,vs,t,hoc,hd,hv,Zz⟩ (aY (ao hge xM))
 ·exact makeFunction_hit (mg:=cx.mg) Gq.1 F.E.glob hgs QY (N.hd.keeps F.S.rel.base) T.1 T.2.1 (by rw[←w.2.1];exact u.1) hB λFK doc h' tk AU yD=>
   H4 O N hz F hk w.2.2.2.1 Gq.2 c2 k h (Ext.grow AU) (F.S.rel.grow AU) ⟨oc,vs,t,AU _ _ u.2.1,u.2.2.1,u.2.2.2.1,u.2.2.2.2⟩ yD
theorem Ie{x:Nm}{y:Value}:∀(ps:List Nm) (ys:List Value),ps.Nodup→(x,y)∈ps.zip ys→((ps.map (·.str)).zip ys).lookup x.str=some y
 |[],_,_,h=>absurd h aj
 |p::ps,[],_,h=>absurd h aj
 |p::ps,z::ys,n,h=>by
  have n':=List.nodup_cons.mp n
  rw[bT,bV,aJ]
  rcases List.mem_cons.mp h with e |h
  ·rw[(Prod.mk.inj e).1,(Prod.mk.inj e).2,beq_self_eq_true]
  ·rw[beq_eq_false_iff_ne.mpr λq:x.str=p.str=>n'.1 (Nm.str_inj q▸(dS h).1)]
   exact Ie ps ys n'.2 h
theorem NH{z:I}{x:Nm}{cs:Nm→Option I}{σ':Hp}{s':Shared}(g:Go cx φ σ s φ' σ' s')(hz:σ z≠none)(e:σ' z=some (.AP x cs)):LW cx s'.heap φ' σ' x cs (φ z).1:=(g.x.tc z hz).2▸(g.S.rel.objs z _ e).2
inductive SE(cx:Cx)(d:Nat)(x:Nm)(ps:List Nm)(ms:List MS)(z:I)(cs:Nm→Option I)(Q:V→Hp→Prop)(vs:List V)(σ:Hp):Prop
 |mk:σ z=some (.AP x cs)→vs.length=ps.length→WS cx d ms cs (lk (ps.zip vs)) σ (JO Q)→SE cx d x ps ms z cs Q vs σ
theorem R4(O:gT cx){f:Fn}{x:Nm}{nd:jZ}{ps fr:List Nm}{ms:List MS}(N:vQ cx f x nd ps fr ms){as:List ME}{z:I}{cs:Nm→Option I}{Q:V→Hp→Prop}(hx:ρ x=some (.ref z))(hz:σ z=some (.AP x cs))
  (h:AN cx (d+1) as γ ρ σ (SE cx d x ps ms z cs Q)):WE cx (d+1) (.AP x as) γ ρ σ Q:=λsc ex c A env φ s F Q' k=>c.AP λp1 args p q ca=>F.L.ns.elim λm hn=>(hn.2 x _ hx).elim λy a=>by
 have q:=f7 q
 have hz':=kq hz
 rw[a.2.at']at a
 refine cC (wpAny_Name (wpAny_loadName_local F.fn ((F.kindOf _).trans (beq_iff_eq.mp q.1)) hn.1 a.1 ?_) (oK q.2))
 refine tE (P:=FnAt (φ z).1) (first:=[]) (fi:=[]) (ks:=[]) ca rfl F .nil (λh X=>keeps_F h X) (G:=λvs us σ'=>us=[]∧SE cx d x ps ms z cs Q vs σ') (λφ' σ' s' vs us g r=>r.2.casesOn λe Z Z=>(NH g hz' e).elim λd' w=>w.2.elim λCW w=>w.elim λdoc w=>w.elim λpm w=>w.elim λc' w=>w.elim λFK w=>⟨_,_,_,_,w.1⟩)
  (xb h λvs σ' g=>jE ⟨rfl,g⟩) λφ' σ' s' vs us ys zs g vr ur r=>r.2.casesOn λg1 g2 g3=>(NH g hz' g1).elim λd' w=>w.2.elim λCW v=>v.elim λdoc v=>v.elim λpm v=>v.elim λc' v=>v.elim λFK v=>v.2.1.elim λoc u=>u.elim λvc u=>u.elim λt u=>?_
 have e1:d'=nd:=Option.some.inj ((show cx.nest x=some d' from w.1).symm.trans N.at_)
 subst e1
 rw[show zs=[]from(show gh s'.heap φ' σ' [] zs from r.1▸ur)]
 have vr:gh s'.heap φ' σ' vs ys:=vr
 have S':=g.S
 have G8:(ps.map (·.str)).Nodup:=dc _ (λa b Jj e=>Jj (Nm.str_inj e)) N.pn
 have vl:=gh.length vr
 have pl:(ps.map (·.str)).length=ys.length:=by rw[ai,←g2,vl]
 have hbl:((ps.map (·.str)).zip ys).map (·.1)=ps.map (·.str):=List.map_fst_zip (ay pl)
 have RI:=EK (fd:=fnX d'.name d'.qual d'.params d'.body d'.scope CW .none .none doc pm none (.ref c') FK) (N:=ps.map (·.str)) (A:=ps.map (·.str)) (B:=[]) (C:=[]) (pos:=ys) (zs:=[]) (D1:=[]) (D2:=[]) (s:=s') ⟨N.po,N.as,N.va,N.ko,N.kw⟩ (by rw[aU,aU]) G8
  (λM A E Q hq=>aq (hq _ rfl)) pl rfl rfl (aw _)
 rw[aU,aU]at RI
 refine fh (codeAny_call_def (body:=d'.body) (fd:=fnX d'.name d'.qual d'.params d'.body d'.scope CW .none .none doc pm none (.ref c') FK) (Aj F.hA) v.1 rfl (O.nolimit.keeps S'.rel.base) ⟨c',oc,vc,t,rfl,u⟩ rfl RI N.T7 (λw hw=>(List.mem_map.mp (dS (a:=w.1) (b:=w.2) hw).1).elim λp hp=>hp.2▸N.pk p hp.1) (λh₀ ON keep=>?_) N.co N.gen N.kind)
 have sz:=end_none s'.heap
 have g0:Go cx φ' σ' s' φ' σ' {s' with heap:=h₀,toks:=s'.toks+((ps.map (·.str)).zip ys).length}:=⟨Ext.grow keep,S'.rel.grow keep,S'.gens,S'.drawn,S'.os⟩
 have L':xf cx φ' σ' h₀ (callEnv (fnX d'.name d'.qual d'.params d'.body d'.scope CW .none .none doc pm none (.ref c') FK) s'.heap.objs.size (φ z).1) (lk (ps.zip vs)) cs:=
  ⟨⟨_,ON,λw v hv=>(yL ps vs ys (gh.ext S'.rel g0.x vr) (uw hv)).elim λy' e=>⟨y',by rw[lookup_reverse_of_nodup _ (by rw[hbl];exact G8)];exact Ie ps ys N.pn e.1,e.2⟩⟩,S'.rel.kg sz,S'.rel.ng sz,v.2.2.2⟩
 refine aZ (g3 _ _ N.body _ _ φ' {s' with heap:=h₀,toks:=s'.toks+((ps.map (·.str)).zip ys).length} ⟨xY F.hA,⟨rfl,N.kind,rfl,rfl⟩,g0.S,L'⟩ (λfv oZ=>Q' (match fv with |.ret v=>v |_=>.none) oZ) λφ'' σ'' oZ ρ'' fl fv V4 fr q=>?_) (λfl oZ hq=>hq) λZ Z z=>aN z
 have G:Go cx φ σ s φ'' σ'' oZ:=⟨g.x.trans ((g0.x.x.trans V4.x).drop λb e=>(show b=_ from e)▸sz),V4.S⟩
 cases fl with
 |ret v=>exact aI fr λy u=>u.1▸k φ'' σ'' oZ v y G u.2 q
 |_=>exact(show fv=_ from fr)▸k φ'' σ'' oZ .none .none G .none q
end
end
end
mutual
theorem iH{l:List Bool}(h:l.all id=true)(i:Nat){b:Bool}(e:l[i]?=some b):b=true:=List.all_eq_true.mp h b (aE e)
def onSeq(d:Data)(f:Array Value→Nat→Bool):Bool:=if h:d.ctorIdx=2 then Data.seq.elim (motive:=λZ=>Bool) d h f else false
theorem KZ{d:Data}{f:Array Value→Nat→Bool}{P:Data→Prop}(h:onSeq d f=true)(kk:∀vs n,f vs n=true→P (.seq vs n)):P d:=
 (dt h).elim λq g=>Data.seq.elim (motive:=λe=>∀q,Data.seq.elim (motive:=λZ=>Bool) e q f=true→P e) d q (λvs n Z g=>kk vs n g) q g
def GI{α:Type}(x:α)(d:Data)(f:FuncData→α):α:=if h:d.ctorIdx=7 then Data.func.elim (motive:=λZ=>α) d h f else x
theorem Jb{d:Data}{f:FuncData→Bool}{P:Data→Prop}(h:GI false d f=true)(kk:∀fd,f fd=true→P (.func fd)):P d:=
 (dt h).elim λq g=>Data.func.elim (motive:=λe=>∀q,Data.func.elim (motive:=λZ=>Bool) e q f=true→P e) d q (λfd Z g=>kk fd g) q g
def bodyOf(b:FuncBody):List Stmt:=b.casesOn id λZ=>[]
def K8(v:Value)(f:Addr→Bool):Bool:=if h:v.ctorIdx=fO (.ref 0)then Value.ref.elim (motive:=λZ=>Bool) v h f else false
theorem Ed{v:Value}{f:Addr→Bool}{P:Value→Prop}(h:K8 v f=true)(kk:∀a,f a=true→P (.ref a)):P v:=
 (dt h).elim λq g=>Value.ref.elim (motive:=λe=>∀q,Value.ref.elim (motive:=λZ=>Bool) e q f=true→P e) v q (λa Z g=>kk a g) q g
theorem M0{v:Value}{f:Str→Tok→Bool}{P:Value→Prop}(h:onStr v f=true)(kk:∀x t,f x t=true→P (.str x t)):P v:=
 (dt h).elim λq g=>Value.str.elim (motive:=λe=>∀q,Value.str.elim (motive:=λZ=>Bool) e q f=true→P e) v q (λx t Z g=>kk x t g) q g
def H2{α:Type}(x:α)(st:Stmt)(f:Str→Arguments→List Stmt→List Expr→Option Expr→List TypeParam→Scope→Option Scope→Str→Pos→α):α:=if h:st.ctorIdx=0 then cP (motive_2:=λZ=>α) st h f else x
theorem NO{st:Stmt}{f:Str→Arguments→List Stmt→List Expr→Option Expr→List TypeParam→Scope→Option Scope→Str→Pos→Bool}{P:Stmt→Prop}(h:H2 false st f=true)(kk:∀n ps b ds rt tp sc ts bd p,f n ps b ds rt tp sc ts bd p=true→P (.FunctionDef n ps b ds rt tp sc ts bd p)):P st:=
 (dt h).elim λq g=>cP (motive_2:=λe=>∀q,cP (motive_2:=λZ=>Bool) e q f=true→P e) st q (λn ps b ds rt tp sc ts bd p Z g=>kk n ps b ds rt tp sc ts bd p g) q g
def tC(q:Addr×Addr)(qual:Str)(st:Stmt):Option jZ:=H2 none st λn ps b Z Z Z sc Z Z p=>some ⟨n,qual,ps,b,sc,p,q⟩
def Rh(x:Nm)(st:Stmt):Bool:=H2 false st λn ps b ds rt tp sc ts bd p=>[decide (n=x.str),ds.isEmpty,rt.isNone,tp.isEmpty,ts.isNone,decide (bd=x.str),wj ps].all id
theorem TB{K:Frag}{nest:Nm→Option jZ}{sc:Scope}{st:Stmt}{x:Nm}{q:Addr×Addr}{qual:Str}(hn:nest x=tC q qual st)(h:Rh x st=true)(hl:rg sc x=true):jw K nest sc (.Uo x) st:=
 NO (P:=λst=>nest x=tC q qual st→jw K nest sc (.Uo x) st) h (λn ps b ds rt tp sc' ts bd p g hn=>
  have e1:n=x.str:=jL (iH g 0 rfl)
  ⟨⟨n,qual,ps,b,sc',p,q⟩,p,hn,rfl,by rw[e1,QW (iH g 1 rfl),Option.isNone_iff_eq_none.mp (iH g 2 rfl),QW (iH g 3 rfl),Option.isNone_iff_eq_none.mp (iH g 4 rfl),(jL (iH g 5 rfl):bd=x.str)],e1,hl,iH g 6 rfl⟩) hn
def UZ:rJ:=⟨⟨#[]⟩,⟨#[]⟩,⟨[],[],none,[],[],none,[]⟩,[],default,.none,.none,.none,.none,none,.none,.none,none,#[]⟩
def LH(o:Obj)(fd:FuncData):rJ:=⟨fd.name,fd.qualname,fd.params,bodyOf fd.body,fd.scope,fd.defaults,fd.kwdefaults,fd.doc,fd.pyModule,fd.annotations,fd.code,fd.closureTuple,o.dict,o.slots⟩
def z7(o:Obj):rJ:=GI UZ o.data (LH o)
def lF(K:Frag)(f:Fn):rJ:=(K.lookup f.addr).casesOn UZ z7
def isTup(o:Option Obj)(f:List Value→Bool):Bool:=o.casesOn false λo=>onSeq o.data λvs n=>[o.cls==.type "tuple",o.dict.isNone,n==0,o.slots.isEmpty,f vs.toList].all id
theorem EY{o:Option Obj}{f:List Value→Bool}(h:isTup o f=true):∃vs,o=some (jI vs)∧f vs=true:=by
 cases o with
 |none=>exact bf h
 |some o=>
  cases o with
  |mk c d dd sl=>exact KZ (P:=λdd=>∃vs,some (Obj.mk c d dd sl)=some (jI vs)∧f vs=true) h λvs n g=>⟨vs.toList,by rw[(beq_iff_eq.mp (iH g 0 rfl):c=.type "tuple"),(Option.isNone_iff_eq_none.mp (iH g 1 rfl):d=none),(beq_iff_eq.mp (iH g 2 rfl):n=0),(Array.isEmpty_iff.mp (iH g 3 rfl):sl=#[])];rfl,iH g 4 rfl⟩
def LP(K:Frag)(v:V)(y:Value):Bool:=v.casesOn (y==.none) (λb=>y==.bool b) (λZ=>false) (λs=>onStr y λt Z=>decide (t=s)) (λZ=>false) λl=>l.isEmpty&&K8 y λa=>isTup (K.lookup a) (·.isEmpty)
def Rl(K:Frag)(l:List V)(d:Value):Bool:=(l.isEmpty&&d==.none)||K8 d λT=>isTup (K.lookup T) λvs=>all2 (LP K) l vs
def MK(o:Obj):Bool:=GI false o.data λfd=>[o.cls==.type "function",aS fd.body.ctorIdx 0,fd.globals==mainGlobals,fd.closure.isEmpty,fd.builtins==builtinsNs].all id
def CQ(K:Frag)(f:Fn):Bool:=(K.lookup f.addr).casesOn false MK
def YK(K:Frag)(f:Fn)(r:rJ):List Bool:=
 [CQ K f,codeIn K r.LZ r.qual,r.params.posonlyargs.isEmpty,decide (r.params.args.map (·.arg)=f.params.map (·.str)),r.params.vararg.isNone,r.params.kwonlyargs.isEmpty,r.params.kwarg.isNone,
 Rl K f.ux r.dV,r.scope.kind==.function,!r.scope.isCoroutine,!r.scope.isGenerator,decide (f.params.map (·.i)).Nodup,
 f.params.all (λx=>r.scope.names.lookup x.str==some (if x∈f.cells then .cell else .local)),decide (f.cells.map (·.i)).Nodup,f.cells.all (λx=>r.scope.names.lookup x.str==some .cell)]
def OT(K:Frag)(f:Fn):Bool:=(YK K f (lF K f)).all id
theorem K7{K:Frag}{v:V}{y:Value}(h:LP K v y=true):Bv K v y:=by
 cases v with
 |none=>exact beq_iff_eq.mp h
 |bool b=>exact beq_iff_eq.mp h
 |str s=>exact M0 (P:=λy=>∃t,y=.str s t) h λt k g=>⟨k,by rw[(jL g:t=s)]⟩
 |tup l=>exact⟨QW (f7 h).1,Ed (P:=λy=>∃a,y=.ref a∧K.lookup a=some (jI [])) (f7 h).2 λa g=>⟨a,rfl,(EY g).elim λvs w=>w.1.trans (by rw[QW w.2])⟩⟩
 |_=>exact bf h
theorem O1{K:Frag}(l:List V):∀vs:List Value,all2 (LP K) l vs=true→oh K l vs:=by
 induction l with
 |nil=>
  intro vs h
  cases vs with
  |nil=>rfl
  |cons=>exact bf h
 |cons v l ih=>
  intro vs h
  cases vs with
  |nil=>exact bf h
  |cons y vs=>exact⟨y,vs,rfl,K7 (f7 h).1,ih vs (f7 h).2⟩
theorem CP{l:List Nm}(h:(l.map (·.i)).Nodup):l.Nodup:=List.Pairwise.of_map _ (λa b n e=>n (congrArg (·.i) e)) h
theorem UW{fd:FuncData}{o:Obj}(h1:aS fd.body.ctorIdx 0=true)(h2:fd.globals=mainGlobals)(h3:fd.closure=[])(h4:fd.builtins=builtinsNs):(LH o fd).fd=fd:=by
 cases fd with
 |mk n q p bd sc gl cl dV kV doc pm an cd ct bi=>
  cases bd with
  |stmts b=>
   have e2:gl=mainGlobals:=h2
   have e3:cl=[]:=h3
   have e4:bi=builtinsNs:=h4
   subst e2
   subst e3
   subst e4
   rfl
  |expr=>exact bf h1
theorem Og{o:Obj}(h:MK o=true):o=⟨.type "function",(z7 o).od,.func (z7 o).fd,(z7 o).Xa⟩:=by
 cases o with
 |mk c d dd sl=>
  exact Jb (P:=λdd=>Obj.mk c d dd sl=⟨.type "function",(z7 ⟨c,d,dd,sl⟩).od,.func (z7 ⟨c,d,dd,sl⟩).fd,(z7 ⟨c,d,dd,sl⟩).Xa⟩) h λfd g=>
   (congrArg (λx=>Obj.mk c d (.func x) sl) (UW (o:=⟨c,d,.func fd,sl⟩) (iH g 1 rfl) (beq_iff_eq.mp (iH g 2 rfl)) (QW (iH g 3 rfl)) (beq_iff_eq.mp (iH g 4 rfl))).symm).trans (congrArg (λx=>Obj.mk x d (.func (LH ⟨c,d,.func fd,sl⟩ fd).fd) sl) (beq_iff_eq.mp (iH g 0 rfl)))
theorem Ma{K:Frag}{f:Fn}(h:CQ K f=true):K.lookup f.addr=some ⟨.type "function",(lF K f).od,.func (lF K f).fd,(lF K f).Xa⟩:=by
 unfold CQ at h
 unfold lF
 cases e:K.lookup f.addr with
 |none=>rw[e]at h;exact bf h
 |some o=>rw[e]at h;exact congrArg some (Og h)
theorem LV{K:Frag}{l:List V}{d:Value}(h:Rl K l d=true):(l=[]∧d=.none)∨∃T vs,d=.ref T∧K.lookup T=some (jI vs)∧oh K l vs:=
 (tU h).imp (λg=>⟨QW (f7 g).1,beq_iff_eq.mp (f7 g).2⟩) λg=>Ed (P:=λd=>∃T vs,d=.ref T∧K.lookup T=some (jI vs)∧oh K l vs) g λT g=>(EY g).elim λvs w=>⟨T,vs,rfl,w.1,O1 l vs w.2⟩
theorem Wy{n:List (Str×NameKind)}{p:Prop}{d:Decidable p}{x:Str}(h:(n.lookup x==some (if p then .cell else .local))=true):if p then n.lookup x=some .cell else n.lookup x=some .local:=by
 have w:=beq_iff_eq.mp h
 by_cases c:p
 ·rw[if_pos c]at w ⊢;exact w
 ·rw[if_neg c]at w ⊢;exact w
theorem HF{cx:Cx}{f:Fn}(h:OT cx.K f=true)(hb:i0 cx.K cx.nest (lF cx.K f).scope f.body (lF cx.K f).body):um cx f (lF cx.K f):=
 ⟨Ma (iH h 0 rfl),iH h 1 rfl,empty_eq (iH h 2 rfl),jL (iH h 3 rfl),Option.isNone_iff_eq_none.mp (iH h 4 rfl),empty_eq (iH h 5 rfl),Option.isNone_iff_eq_none.mp (iH h 6 rfl),LV (iH h 7 rfl),beq_iff_eq.mp (iH h 8 rfl),oK (iH h 9 rfl),oK (iH h 10 rfl),CP (jL (iH h 11 rfl)),
  λx hx=>Wy (List.all_eq_true.mp (iH h 12 rfl) x hx),CP (jL (iH h 13 rfl)),λx hx=>beq_iff_eq.mp (List.all_eq_true.mp (iH h 14 rfl) x hx),hb⟩
def Rr(K:Frag)(f:Fn):Bool:=OT K f&&qE K (lF K f).scope f.body (lF K f).body
theorem NJ{cx:Cx}{f:Fn}(h:Rr cx.K f=true):∃r,um cx f r:=⟨_,HF (f7 h).1 (wH (f7 h).2)⟩
def YE(K:Frag)(c:Value)(a:Addr):List Bool:=
 [findIn K c "__getattribute__"==some (some (.builtin "object.__getattribute__")),findIn K c "__getattr__"==some none,findIn K c "__setattr__"==some (some (.builtin "object.__setattr__")),
 plainOver K a,(clsIn K a).any (·.hasDict),makesIn K a,keepIn K c,findIn K c "__bool__"==some none,findIn K c "__len__"==some none]
def KD(K:Frag)(c:pL):Bool:=(YE K (.ref c.addr) c.addr).all id
def S3(i:Nat):Nm:=if h:fG i 245=true then ⟨i,h⟩else ⟨0,rfl⟩
def Hj(K:Frag)(c:pL):Bool:=(az 245).all λi=>findIn K (.ref c.addr) (S3 i).str==some (c.attr (S3 i))
theorem VS(x:Nm):S3 x.i=x:=dif_pos x.h
theorem Je{K:Frag}{c:pL}(h:KD K c=true)(ha:Hj K c=true):QG K c:=
 ⟨beq_iff_eq.mp (iH h 0 rfl),beq_iff_eq.mp (iH h 1 rfl),beq_iff_eq.mp (iH h 2 rfl),iH h 3 rfl,iH h 4 rfl,iH h 5 rfl,iH h 6 rfl,λx=>VS x▸beq_iff_eq.mp (List.all_eq_true.mp ha x.i (aM.mpr x.lt)),beq_iff_eq.mp (iH h 7 rfl),beq_iff_eq.mp (iH h 8 rfl)⟩
section
variable{cx:Cx}{h:Heap}{φ:Ph}{σ:Hp}
def SY:Ph:=λZ=>((0:Nat),(0:Nat))
def QK:Hp:=λZ=>none
theorem start(hb:∀b o,cx.h0.get? b=some o→h.get? b=some o)(ht:∀q∈cx.tabs,h.get? q.2=some (tabObj #[])∧cx.h0.get? q.2=none):Ext cx SY QK cx.h0 SY QK h∧Rel cx SY QK h:=
 ⟨⟨λZ e=>absurd rfl e,λb o e Z Z=>hb b o e,λZ Z e=>absurd rfl e,λb o e=>⟨o,hb b o e⟩⟩,hb,λb o e q=>q.casesOn (λr hr Z=>hr rfl) (λr hr Z=>hr rfl) λq hq he=>ir e (he▸(ht q hq).2),λZ Z e=>nn e,λZ Z e=>absurd rfl e,λq hq=>⟨#[],(ht q hq).1,trivial,λZ Z Z Z=>.inl rfl⟩⟩
def SH(L:List (I×Addr×O)):Hp→Hp:=L.rec id λp Z ih σ=>ih (up σ p.1 (some p.2.2))
def Uz(L:List (I×Addr×O)):Ph→Ph:=L.rec id λp Z ih φ=>ih (up φ p.1 (p.2.1,p.2.1))
structure MJ(cx:Cx)(h:Heap)(p:I×Addr×O):Prop where
 g:∃ob,h.get? p.2.1=some ob∧∀vs,ob.data≠.fields vs
 z:cx.h0.get? p.2.1=none
 y:∀φ σ,vW cx h φ σ p.2.2 (p.2.1,p.2.1)
structure Xw(cx:Cx)(h:Heap)(L:List (I×Addr×O))(φ:Ph)(σ:Hp):Prop where
 R:Rel cx (Uz L φ) (SH L σ) h
 at_:∀p∈L,SH L σ p.1=some p.2.2∧Uz L φ p.1=(p.2.1,p.2.1)
 old:∀r,σ r≠none→SH L σ r=σ r∧Uz L φ r=φ r
 only:∀r,SH L σ r≠none→σ r≠none∨∃p∈L,p.1=r
theorem takes:∀(L:List (I×Addr×O)) {φ:Ph} {σ:Hp},Ext cx SY QK cx.h0 φ σ h→Rel cx φ σ h→(∀p∈L,MJ cx h p)→(L.map (·.1)).Nodup→(L.map (·.2.1)).Nodup→(∀p∈L,σ p.1=none)→(∀p∈L,∀x,σ x≠none→p.2.1≠(φ x).1∧p.2.1≠(φ x).2)→Xw cx h L φ σ
 |[],φ,σ,Y,R,_,_,_,_,_=>⟨R,λZ m=>absurd m aj,λZ Z=>⟨rfl,rfl⟩,λZ e=>.inl e⟩
 |p::L,φ,σ,Y,R,t,n1,n2,f,d=>by
  have n1:=List.nodup_cons.mp n1
  have n2:=List.nodup_cons.mp n2
  have w:=t p (.head _)
  have nf:¬FP cx φ σ p.2.1:=λq=>q.casesOn (λx hx he=>(d p (.head _) x hx).1 he) (λx hx he=>(d p (.head _) x hx).2 he) λq hq he=>w.g.elim λob g=>(R.tabs q hq).elim λps u=>g.2 _ (congrArg cy (Option.some.inj (g.1.symm.trans (he▸u.1))))
  have A:=adopt (a:=(p.2.1,p.2.1)) Y R (f p (.head _)) w.z w.z nf nf w.z w.z (w.y _ _)
  have ne:∀q∈L,q.1≠p.1:=λq m e=>n1.1 (List.mem_map.mpr ⟨q,m,e⟩)
  have T:=takes L A.1 A.2 (λq m=>t q (.tail _ m)) n1.2 n2.2 (λq m=>(gD _ _ (ne q m)).trans (f q (.tail _ m))) λq m x hx=>(kJ σ p.1 (some p.2.2) x).elim
   (λe=>by have k:q.2.1≠p.2.1:=λe=>n2.1 (List.mem_map.mpr ⟨q,m,e⟩);rw[e.1,fW];exact⟨k,k⟩) λe=>by rw[gD _ _ e.1];exact d q (.tail _ m) x (e.2▸hx)
  have o1:=T.old p.1 (kq (fW _ _ _))
  exact⟨T.R,λq m=>(List.mem_cons.mp m).elim (λe=>by rw[e];exact⟨o1.1.trans (fW _ _ _),o1.2.trans (fW _ _ _)⟩) (T.at_ q),λr hr=>have nr:r≠p.1:=λe=>hr (e▸f p (.head _));have o:=T.old r (by rw[gD _ _ nr];exact hr);⟨o.1.trans (gD _ _ nr),o.2.trans (gD _ _ nr)⟩,
   λr hr=>(T.only r hr).elim (λe=>(kJ σ p.1 (some p.2.2) r).elim (λu=>.inr ⟨p,.head _,u.1.symm⟩) λu=>.inl (u.2▸e)) λe=>e.elim λq m=>.inr ⟨q,.tail _ m.1,m.2⟩⟩
def RL(rs r1 r2 r3:I)(l:List V)(ob:Obj):Hp:=up (up (up (up QK rs (some (.oL l ob))) r1 (some (.cell none))) r2 (some (.cell none))) r3 (some (.cell none))
def xX(rs r1 r2 r3:I)(a c1 c2 c3:Addr)(l:List V)(ob:Obj):List (I×Addr×O):=[(rs,a,.oL l ob),(r1,c1,.cell none),(r2,c2,.cell none),(r3,c3,.cell none)]
theorem xJ{r:I}{c:Addr}{o:Obj}(g:h.get? c=some o)(d:o.data=.cell none)(z:cx.h0.get? c=none):MJ cx h (r,c,.cell none):=⟨⟨o,g,λvs e=>bA (d.symm.trans e)⟩,z,λZ Z=>⟨rfl,o,none,g,d,trivial⟩⟩
theorem tie(O:gT cx){d:Nat}{A:Around}{env:Env}{sc:Scope}{body:List Stmt}{ms:List MS}{s:Shared}{m:Str→Option Value}(E:An env sc)(hA:nU A d)(hg:s.gens=#[])(hd:s.drawn=cx.drawn)(ho:s.os=cx.os)
  (ON:s.heap.Ns env.locals m)(hL0:cx.h0.get? env.locals=none)
  (hb:∀b o,cx.h0.get? b=some o→s.heap.get? b=some o)(ht:∀q∈cx.tabs,s.heap.get? q.2=some (tabObj #[])∧cx.h0.get? q.2=none){rs r1 r2 r3:I}(hn:[rs,r1,r2,r3].Nodup){a c1 c2 c3:Addr}(ha:[a,c1,c2,c3].Nodup)(hLa:env.locals∉[a,c1,c2,c3])
  {x x1 x2 x3:Nm}(mx:m x.str=some (.ref a))(e1:env.cells.lookup x1.str=some c1)(e2:env.cells.lookup x2.str=some c2)(e3:env.cells.lookup x3.str=some c3)
  {l:List Int}{vs:List Value}{ob o1 o2 o3:Obj}(ga:s.heap.get? a=some ob)(gl:s.heap.IsList a vs.toArray)(hI:IntsAre vs l)(hl:l.length≤100000)(g1:s.heap.get? c1=some o1)(d1:o1.data=.cell none)(g2:s.heap.get? c2=some o2)(d2:o2.data=.cell none)(g3:s.heap.get? c3=some o3)(d3:o3.data=.cell none)
  (h0:cx.h0.get? a=none∧cx.h0.get? c1=none∧cx.h0.get? c2=none∧cx.h0.get? c3=none)(Vl:i0 cx.K cx.nest sc ms body)
  (h:WS cx d ms (lk [(x1,r1),(x2,r2),(x3,r3)]) (up (λZ=>none) x (some (.ref rs))) (RL rs r1 r2 r3 (l.map V.int) ob) λfl σ' Z=>fl=.ret (.bool true)∧σ' rs=some (.oL (l.map V.int) ob)):
  aB (model cx.prog cx.w) A (execs body env) (λf s'=>f=.ret (.bool true)∧(∀b o,cx.h0.get? b=some o→s'.heap.get? b=some o)∧s'.heap.get? a=some ob∧s'.gens=#[]∧s'.os=cx.os∧∀q∈cx.tabs,GrownAt q.2 s'.heap) kX s:=by
 refine gl.elim λob' q=>?_
 have eo:ob=ob':=Option.some.inj (ga.symm.trans q.1)
 subst eo
 have S0:=start hb ht
 have T:=takes (xX rs r1 r2 r3 a c1 c2 c3 (l.map V.int) ob) S0.1 S0.2 (List.forall_mem_cons.mpr ⟨⟨⟨ob,ga,λvs e=>q.2.2.elim λn gd=>bA (gd.symm.trans e)⟩,h0.1,λZ Z=>⟨rfl,⟨vs,gl,Dd hI,by rw[ai];exact hl⟩,ga⟩⟩,
  List.forall_mem_cons.mpr ⟨xJ g1 d1 h0.2.1,List.forall_mem_cons.mpr ⟨xJ g2 d2 h0.2.2.1,List.forall_mem_cons.mpr ⟨xJ g3 d3 h0.2.2.2,λZ m=>absurd m aj⟩⟩⟩⟩) hn ha (λZ Z=>rfl) λZ Z Z e=>absurd rfl e
 have t0:=T.at_ _ (.head _);have t1:=T.at_ _ (.tail _ (.head _));have t2:=T.at_ _ (.tail _ (.tail _ (.head _)));have t3:=T.at_ _ (.tail _ (.tail _ (.tail _ (.head _))))
 have FV:¬FP cx (Uz (xX rs r1 r2 r3 a c1 c2 c3 (l.map V.int) ob) SY) (SH (xX rs r1 r2 r3 a c1 c2 c3 (l.map V.int) ob) QK) env.locals:=by
  have k:∀r,SH (xX rs r1 r2 r3 a c1 c2 c3 (l.map V.int) ob) QK r≠none→∀y,(Uz (xX rs r1 r2 r3 a c1 c2 c3 (l.map V.int) ob) SY r)=y→env.locals≠y.1∧env.locals≠y.2:=λr hr y e=>(T.only r hr).elim (absurd rfl) λw=>w.elim λp w=>by
   have z:env.locals≠p.2.1:=λq=>hLa (List.mem_map.mpr ⟨p,w.1,q.symm⟩:env.locals∈(xX rs r1 r2 r3 a c1 c2 c3 (l.map V.int) ob).map (·.2.1))
   rw[←e,←w.2,(T.at_ p w.1).2];exact⟨z,z⟩
  exactλq=>q.casesOn (λr hr he=>(k r hr _ rfl).1 he) (λr hr he=>(k r hr _ rfl).2 he) λq hq he=>ON.elim λo w=>w.elim λZ w=>w.elim λZ w=>bA ((congrArg cy (Option.some.inj ((ht q hq).1.symm.trans (he▸w.1)))).trans w.2.1)
 have L:xf cx (Uz (xX rs r1 r2 r3 a c1 c2 c3 (l.map V.int) ob) SY) (SH (xX rs r1 r2 r3 a c1 c2 c3 (l.map V.int) ob) QK) s.heap env (up (λZ=>none) x (some (.ref rs))) (lk [(x1,r1),(x2,r2),(x3,r3)]):=
  ⟨⟨m,ON,λy v hv=>(kJ (λZ=>(none:Option V)) x (some (.ref rs)) y).elim (λu=>⟨_,u.1▸mx,Option.some.inj (u.2.symm.trans hv)▸⟨kq t0.1,by rw[t0.2]⟩⟩) λu=>nn (u.2.symm.trans hv)⟩,FV,hL0,λy r e=>by
   have m:=uw e
   rcases List.mem_cons.mp m with m |m
   ·rw[(Prod.mk.inj m).1,(Prod.mk.inj m).2,t1.1,t1.2];exact⟨λe=>nn e.symm,e1⟩
   rcases List.mem_cons.mp m with m |m
   ·rw[(Prod.mk.inj m).1,(Prod.mk.inj m).2,t2.1,t2.2];exact⟨λe=>nn e.symm,e2⟩
   have m:=ag.mp m
   rw[(Prod.mk.inj m).1,(Prod.mk.inj m).2,t3.1,t3.2];exact⟨λe=>nn e.symm,e3⟩⟩
 exact h sc body Vl A env _ s ⟨hA,E,⟨T.R,hg,hd,ho⟩,L⟩ _ λφ' σ' s' ρ' fl fv g fr q=>by
  have fr:MD s'.heap φ' σ' (.ret (.bool true)) fv:=q.1▸fr
  exact fr.elim λy u=>⟨u.1.trans (congrArg Flow.ret u.2),g.S.rel.base,by have w:=(g.S.rel.objs _ _ q.2).2.2;rw[(g.x.tc rs (kq t0.1)).2,t0.2]at w;exact w,g.S.gens,g.S.os,λq hq=>(g.S.rel.tabs q hq).elim λps u=>⟨ps,u.1⟩⟩
end
end
mutual
section
variable{α:Type}
theorem sN{k x:Str}(e:x=k)(v:α)(l:List (Str×α)):((k,v)::l).lookup x=some v:=by rw[aJ,beq_iff_eq.mpr e]
theorem o7{k x:Str}(e:x≠k)(v:α)(l:List (Str×α)):((k,v)::l).lookup x=l.lookup x:=by rw[aJ,beq_eq_false_iff_ne.mpr e]
theorem EA{k:Str}{v:α}:∀(l:List (Str×α)),(l.map (λp=>if p.1==k then (p.1,v)else p)).lookup k=(l.lookup k).map λZ=>v
 |[]=>rfl
 |(y,u)::l=>by
  rw[bT]
  by_cases e:y=k
  ·rw[if_pos (beq_iff_eq.mpr e),sN e.symm,sN e.symm];rfl
  ·rw[if_neg λq=>e (beq_iff_eq.mp q),o7 (Ne.symm e),o7 (Ne.symm e)];exact EA l
theorem B2{k x:Str}{v:α}(n:x≠k):∀(l:List (Str×α)),(l.map (λp=>if p.1==k then (p.1,v)else p)).lookup x=l.lookup x
 |[]=>rfl
 |(y,u)::l=>by
  have ih:=B2 (v:=v) n l
  rw[bT]
  by_cases e:y=k
  ·rw[if_pos (beq_iff_eq.mpr e),o7 (e▸n),o7 (e▸n)];exact ih
  ·rw[if_neg λq=>e (beq_iff_eq.mp q),aJ,aJ,ih]
theorem vA(l m:List (Str×α))(x:Str):(l++m).lookup x=(l.lookup x).or (m.lookup x):=by
 induction l with
 |nil=>rfl
 |cons p l ih=>
  by_cases e:x=p.1
  ·rw[e9,sN (v:=p.2) e,sN (v:=p.2) e];rfl
  ·rw[e9,o7 (v:=p.2) e,o7 (v:=p.2) e];exact ih
theorem qZ(k:Str):∀(l:List (Str×α)),(l.any λp=>p.1==k)=(l.lookup k).isSome
 |[]=>rfl
 |(y,u)::l=>by
  rw[dF,qZ k l]
  by_cases e:k=y
  ·rw[sN e,beq_iff_eq.mpr e.symm];rfl
  ·rw[o7 e,beq_eq_false_iff_ne.mpr (Ne.symm e)];rfl
end
end
mutual
theorem oT(l:List (Str×V))(k:Str)(v:V):(putD l k v).lookup k=some v:=by
 by_cases h:(l.any λp=>p.1==k)=true
 ·rw[show putD l k v=_ from if_pos h,EA,←Option.some_get ((qZ k l).symm.trans h)];rfl
 ·rw[show putD l k v=_ from if_neg h,vA,show l.lookup k=none from Option.isNone_iff_eq_none.mp (Option.isSome_eq_false_iff.mp ((qZ k l).symm.trans (Bool.eq_false_iff.mpr h)))];exact sN rfl _ _
theorem j8{l:List (Str×V)}{k:Str}{v:V}{x:Str}(n:x≠k):(putD l k v).lookup x=l.lookup x:=by
 by_cases h:(l.any λp=>p.1==k)=true
 ·rw[show putD l k v=_ from if_pos h];exact B2 n l
 ·rw[show putD l k v=_ from if_neg h,vA,o7 n];exact Option.or_none
theorem x5(l:List (Str×V))(k:Str)(v:V)(x:Str):(putD l k v).lookup x=if x=k then some v else l.lookup x:=by
 by_cases e:x=k
 ·rw[if_pos e,e];exact oT l k v
 ·rw[if_neg e];exact j8 e
section
variable{cx:Cx}{d:Nat}{σ:Hp}{Q:V→Hp→Prop}{r db w e:I}{fs:Nm→Option V}{l m:List (Str×V)}{t dep:Str}{v:V}{c:pL}
theorem gu{f:Fn}{vs:List V}(O:gT cx)(hc:f.cells=[])(h:WS cx d f.body (lk []) (BY f vs) σ (JO Q)):WC cx (d+1) f vs σ Q:=
 uT O [] hc.symm .nil (λZ m=>absurd m aj) h
theorem in_dict(h:σ w=some (.dict l)):rZ σ .In (.str t) (.ref w)=some (l.lookup t).isSome:=by show inR _ (σ w)=_;rw[h];rfl
theorem qQ{b:Bool}(h:σ w=some (.dict l))(e:(l.lookup t).isSome=b):rZ σ .In (.str t) (.ref w)=some b:=e▸in_dict h
theorem Cr{b:Bool}(h:σ w=some (.dict l))(e:(l.lookup t).isSome=b):rZ σ .NotIn (.str t) (.ref w)=some (!b):=e▸(congrArg (bh (!·)) (in_dict h))
theorem mI(h:σ w=some (.dict l))(e:l.lookup t=some v):wZ σ (.ref w) (.str t)=some v:=by unfold wZ;rw[←e];show _=_;simp only [h];rfl
theorem vt(O:gT cx)(hr:σ r=some (.inst .tj fs))(hf:fs .iO=some (.ref db))(hl:σ db=some (.dict l))
  (h1:l.lookup t=none→Q .none σ)(h2:∀v,l.lookup t=some v→∃e m,v=.ref e∧σ e=some (.dict m)∧Q ((m.lookup dep).getD .none) σ):WC cx (d+1) .sS [.ref r,.str t,.str dep] σ Q:=by
 refine gu O rfl (fT (gp (gv (fV rfl (mQ O (fV rfl ⟨r,_,fs,_,rfl,hr,rfl,hf,⟨_,in_dict hl,?_⟩⟩))))))
 cases e:l.lookup t with
 |none=>exact fY (fY (h1 e))
 |some v=>exact(h2 v e).elim λa w=>w.elim λm w=>fT (iA (Gn O (jr (mQ O (fV rfl ⟨r,_,fs,_,rfl,hr,rfl,hf,fV rfl ⟨.ref a,mI hl (e.trans (congrArg some w.1)),⟨m,w.2.1⟩,fV rfl ⟨a,m,dep,rfl,rfl,w.2.1,w.2.2⟩⟩⟩)))))
theorem AA{vs:List V}(O:gT cx)(h:Q .none σ):WC cx (d+1) .vy vs σ Q:=gu O rfl (fT (iA (iu h)))
theorem J1(O:gT cx)(hr:σ r=some (.inst c fs))(hc:c.attr .kD=none)(hf:fs .kD=some (.ref w))(hl:σ w=some (.dict l))(h:Q (.bool (l.lookup t).isSome) σ):WC cx (d+1) .mh [.ref r,.str t] σ Q:=
 gu O rfl (fT (iA (CC (fV rfl (mQ O (fV rfl ⟨r,_,fs,_,rfl,hr,hc,hf,⟨_,in_dict hl,h⟩⟩))))))
theorem yQ(O:gT cx)(hr:σ r=some (.inst c fs))(hc:c.attr .kD=none)(hf:fs .kD=some (.ref w))(hl:σ w=some (.dict l))(ht:l.lookup t=some v)(h:Q v σ):WC cx (d+1) .jm [.ref r,.str t] σ Q:=
 gu O rfl (fT (gp (gv (fV rfl (mQ O (fV rfl ⟨r,_,fs,_,rfl,hr,hc,hf,⟨false,Cr hl (congrArg dD ht),fY (fT (iA (jr (mQ O (fV rfl ⟨r,_,fs,_,rfl,hr,hc,hf,fV rfl ⟨v,mI hl ht,h⟩⟩)))))⟩⟩))))))
theorem wD(O:gT cx)(hr:σ r=some (.inst .tj fs))(hf:fs .iO=some (.ref db))(hl:σ db=some (.dict l))(ht:l.lookup t=some (.ref e))(hm:σ e=some (.dict m))(hn:m.length<100000)
  (h:Q .none (up σ e (some (.dict (putD m dep v))))):WC cx (d+1) .qk [.ref r,.str t,.str dep,v] σ Q:=
 gu O rfl (fT (gp (gv (fV rfl (mQ O (fV rfl ⟨r,_,fs,_,rfl,hr,rfl,hf,⟨false,Cr hl (congrArg dD ht),
  fY (fT (lL (fV rfl (jr (mQ O (fV rfl ⟨r,_,fs,_,rfl,hr,rfl,hf,fV rfl ⟨.ref e,mI hl ht,fV rfl ⟨m,hm,hn,fY h⟩⟩⟩))))))⟩⟩))))))
theorem JS(h:σ w=some (.inst c fs))(h':σ w=some (.dict l)):False:=Mine.O.noConfusion (Option.some.inj (h.symm.trans h'))
theorem w5(O:gT cx)(hr:σ r=some (.inst .tj fs))(hf:fs .iO=some (.ref db))(hl:σ db=some (.dict l))(ht:l.lookup t=none)(he:σ e=none)(hn:l.length<100000)
  (h:Q .none (up (up (up σ e (some (.dict []))) db (some (.dict (putD l t (.ref e))))) e (some (.dict (putD [] dep v))))):WC cx (d+1) .qk [.ref r,.str t,.str dep,v] σ Q:=
 have n1:r≠e:=λq=>ir hr (q▸he)
 have n2:db≠e:=λq=>ir hl (q▸he)
 have n3:r≠db:=λq=>JS (q▸hr) hl
 have hr1:=(gD σ (some (.dict [])) n1).trans hr
 gu O rfl (fT (gp (gv (fV rfl (mQ O (fV rfl ⟨r,_,fs,_,rfl,hr,rfl,hf,⟨true,Cr hl (congrArg dD ht),
  fT (lL (lI O he (mQ O (fV rfl ⟨r,_,fs,_,rfl,hr1,rfl,hf,fV rfl ⟨l,(gD _ _ n2).trans hl,hn,
   fY (fT (lL (fV rfl (jr (mQ O (fV rfl ⟨r,_,fs,_,rfl,(gD _ _ n3).trans hr1,rfl,hf,fV rfl ⟨.ref e,mI (fW _ _ _) (oT _ _ _),fV rfl ⟨[],(gD _ _ (Ne.symm n2)).trans (fW _ _ _),Nat.succ_pos _,fY h⟩⟩⟩))))))⟩⟩))))⟩⟩))))))
end
end
mutual
section
variable{cx:Cx}{d:Nat}{σ:Hp}{Q:V→Hp→Prop}{r w e:I}{fs:Nm→Option V}{l:List (Str×V)}{t st st':Str}{a b c p v:V}{vs:List V}
def gK(cx:Cx):Prop:=∀f:Fn,∃r,um cx f r
inductive V7(cx:Cx)(d:Nat)(f:Fn)(r:I)(Q:V→Hp→Prop)(vs:List V)(σ:Hp):Prop
 |mk:DB f (vs.length+1) []=true→WC cx d f (qG f (.ref r::vs) []) σ Q→V7 cx d f r Q vs σ
inductive MA(cx:Cx)(d:Nat)(γ:Nm→Option I)(ρ:Loc)(a:Nm)(as:List ME)(f:Fn)(Q:V→Hp→Prop)(v:V)(σ:Hp):Prop
 |mk (r:I) (c:pL) (fs:Nm→Option V):v=.ref r→σ r=some (.inst c fs)→c.attr a=some (.ref f.addr)→fs a=none→AN cx d as γ ρ σ (V7 cx d f r Q)→MA cx d γ ρ a as f Q v σ
theorem yP(O:gT cx)(F:gK cx){γ:Nm→Option I}{ρ:Loc}{o:ME}{a:Nm}{as:List ME}(f:Fn)(h:WE cx d o γ ρ σ (MA cx d γ ρ a as f Q)):WE cx d (.gn o a as []) γ ρ σ Q:=
 IW O (jv h λv σ₁ q=>q.casesOn λr c fs e1 e2 e3 e4 h=>⟨r,c,fs,f,e1,e2,e3,e4,F f,xb h λvs σ' q=>q.casesOn λok w=>jE ⟨ok,rfl,w⟩⟩)
theorem xq{l:List V}{k:Nat}{v:V}(h:l[k]?=some v)(hn:l.length≤100):wZ σ (.tup l) (.int k)=some v:=by
 show(if (0:Int)≤(k:Int)∧l.length≤100000 then l[(k:Int).toNat]? else none)=_
 rw[if_pos ⟨bj _,ab hn (by decide)⟩];exact h
theorem yu(O:gT cx)(F:gK cx)(hr:σ r=some (.inst .kI fs))(hm:fs .oR=none)(hf:fs .kD=some (.ref w))(hl:σ w=some (.dict l))
  (ht:l.lookup t=some (.tup vs))(h0:vs[0]?=some v)(hn:vs.length≤100)(h:Q v σ):WC cx (d+2) .lX [.ref r,.str t,p] σ Q:=
 gu O rfl (fT (iA (jr (yP O F .jm (fV rfl ⟨r,_,fs,rfl,hr,rfl,hm,fX (fV rfl (fZ ⟨rfl,yQ O hr rfl hf hl ht (gO O ⟨v,xq (k:=0) h0 hn,h⟩)⟩))⟩)))))
theorem Dk(O:gT cx)(F:gK cx){ρ:Loc}{k:Nat}(hr:σ r=some (.inst .nN fs))(hm:fs .oR=none)(hf:fs .kD=some (.ref w))(hl:σ w=some (.dict l))(ht:l.lookup t=some (.tup [a,b,c]))(h1:ρ .fU=some (.ref r))(h2:ρ .jf=some (.str t))(hv:[a,b,c][k]?=some v)(hq:Q v σ):
  WE cx (d+1) (.idx (.gn (.var .fU) .oR [(.var .jf)] []) (.int k)) (lk []) ρ σ Q:=
 jr (yP O F .jm (fV h1 ⟨r,_,fs,rfl,hr,rfl,hm,fX (fV h2 (fZ ⟨rfl,yQ O hr rfl hf hl ht (gO O ⟨v,xq hv (au rfl),hq⟩)⟩))⟩))
theorem yw(O:gT cx)(F:gK cx)(hr:σ r=some (.inst .nN fs))(hm:fs .oR=none)(hf:fs .kD=some (.ref w))(hl:σ w=some (.dict l))
  (ht:l.lookup t=some (.tup [a,b,c]))(h:Q (.tup [a,b,c]) σ):WC cx (d+2) .oq [.ref r,.str t,.none] σ Q:=
 gu O rfl (fT (lN rfl (Dk (k:=0) O F hr hm hf hl ht rfl rfl rfl (fT (gp (ju (gM O rfl (fV rfl ⟨false,rfl,
  fY (fT (lN rfl (Dk (k:=1) O F hr hm hf hl ht rfl rfl rfl (fT (lN rfl (Dk (k:=2) O F hr hm hf hl ht rfl rfl rfl
   (fT (iA (pX (fX (fV rfl (fX (fV rfl (fX (fV rfl (fZ ⟨au rfl,h⟩))))))))))))))))⟩))))))))
theorem eq_int(x y:Int):rZ σ .Eq (.int x) (.int y)=some (x==y):=rfl
theorem ne_int(x:Int):rZ σ .NotEq (.int x) (.int x)=some false:=congrArg (λb=>some (!b)) (beq_self_eq_true x)
theorem FC(O:gT cx){x:Int}(h0:vs[0]?=some (.int x))(hn:vs.length≤100)(h:Q (.bool false) σ):WC cx (d+1) .kT [.ref r,.str t,.tup vs,.int x] σ Q:=
 gu O rfl (fT (iA (CC (jr (fV rfl (gO O ⟨_,xq (k:=0) h0 hn,fV rfl ⟨false,ne_int x,h⟩⟩))))))
theorem GU(O:gT cx){x:Int}(h:Q (.bool false) σ):WC cx (d+1) .md [.ref r,.str t,.tup [.int x,b,c],.tup [.int x,b,c]] σ Q:=
 gu O rfl (fT (lN rfl (fV rfl (fT (gp (gv (jr (fV rfl (gO O ⟨_,xq (k:=0) rfl (au rfl),fV rfl ⟨true,congrArg some (beq_self_eq_true x),fT (iA (pJ h))⟩⟩)))))))))
def Fw(st:Str)(e:I):Nm→Option V:=up (up (up (up (λZ=>none) .jj (some (.bool false))) .kf (some (.str st))) .qx (some (.ref e))) .uM (some .none)
theorem y7(O:gT cx)(hr:σ r=some (.inst .gQ λZ=>none))(he:σ e=none)(h:∀σ',σ' r=some (.inst .gQ (Fw "up-to-date" e))→(∀x,x≠r→x≠e→σ' x=σ x)→Q .none σ'):
  WC cx (d+1) .nV [.ref r,.bool false] σ Q:=
 have n1:r≠e:=λq=>ir hr (q▸he)
 gu O rfl (fT (oo O (fV rfl (fV rfl ⟨r,_,_,rfl,hr,rfl,fT (oo O (gY (fV rfl ⟨r,_,_,rfl,fW _ _ _,rfl,
  fT (oo O (lI O (r:=e) ((gD _ _ (Ne.symm n1)).trans ((gD _ _ (Ne.symm n1)).trans he)) (fV rfl ⟨r,_,_,rfl,(gD _ _ n1).trans (fW _ _ _),rfl,
   fT (oo O (iu (fV rfl ⟨r,_,_,rfl,fW _ _ _,rfl,fY (h _ (fW _ _ _) λx h1 h2=>(gD _ _ h1).trans ((gD _ _ h1).trans ((gD _ _ h2).trans ((gD _ _ h1).trans (gD _ _ h1)))))⟩)))⟩)))⟩)))⟩))))
theorem RO(st st':Str)(e:I):up (Fw st e) .kf (some (.str st'))=Fw st' e:=funext λx=>(kJ (Fw st e) .kf (some (.str st')) x).elim (λu=>u.2.trans (by rw[u.1];rfl)) λu=>u.2.trans (by
 unfold Fw
 rw[up,up,up,up,up,up,if_neg u.1,up,up,if_neg u.1])
theorem zM(O:gT cx){ρ:Loc}{b:List MS}(hρ:ρ .fU=some (.ref r))(h:Q (.bool true) (up σ r (some (.inst .gQ (Fw st' e))))):
  WS cx d [.ite (.attr (.var .fU) .jj) b [],.ret (some (.not (.attr (.var .fU) .jj)))] (lk []) ρ (up σ r (some (.inst .gQ (up (Fw st e) .kf (some (.str st')))))) (JO Q):=
 RO st st' e▸fT (gp (gM O rfl (mQ O (fV hρ ⟨r,_,_,_,rfl,fW _ _ _,rfl,rfl,false,rfl,fY (fT (iA (NU O (mQ O (fV hρ ⟨r,_,_,_,rfl,fW _ _ _,rfl,rfl,false,rfl,h⟩)))))⟩))))
theorem A4(O:gT cx)(hr:σ r=some (.inst .gQ (Fw st e)))(h:Q (.bool true) (up σ r (some (.inst .gQ (Fw "run" e))))):WC cx (d+1) .lB [.ref r,a,b] σ Q:=
 gu O rfl (fT (oo O (gY (fV rfl ⟨r,_,_,rfl,hr,rfl,zM (st:=st) O rfl h⟩))))
theorem Bh(O:gT cx)(hr:σ r=some (.inst .gQ (Fw st e)))(h:Q (.bool true) (up σ r (some (.inst .gQ (Fw st' e))))):WC cx (d+1) .kh [.ref r,a,b,.str st'] σ Q:=
 gu O rfl (fT (oo O (fV rfl (fV rfl ⟨r,_,_,rfl,hr,rfl,zM (st:=st) O rfl h⟩))))
end
end
mutual
def tn(k:Nat):Str:="t"++AV k
abbrev lO:=Bool×Nat
def jh(f:lO):Str:=(if f.1 then ("o":Str)else "s")++AV f.2
def sV(l:List Str):List V:=l.map V.str
structure TS where
 row:List lO
 td:List Nat
 opts:Bool
 res:V
 vals:V
 exe:Bool
 P0:V
structure ND where
 iv:List Nat
 m8:Nat
 nX:List Nat
 wr:List Nat
 wm:List Nat
 st:V
 ph:Int
structure DS where
 nodes:List Nat
 ready:List Nat
 waiting:List Nat
 todo:List Nat
 cur:Option Nat
def AW{α:Type}(d:α)(l:List (Nm×α)):Nm→α:=l.rec (λZ=>d) λp Z ih x=>bif aS x.i p.1.i then p.2 else ih x
def o8(b k:Nat)(T:TS):Nm→Option V:=lk [(.gI,.str (tn k)),(.kG,if T.opts then .ref (.t b k .kG)else .none),(.ij,.ref (.t b k .ij)),(.jK,.ref (.t b k .jK)),(.i3,T.P0),(.gm,.ref (.t b k .gm)),(.gr,.ref (.t b k .gr)),
 (.kM,.ref (.t b k .kM)),(.gy,.ref (.t b k .gy)),(.j4,.ref (.t b k .j4)),(.kL,.ref (.t b k .kL)),(.iI,.ref (.t b k .iI)),(.f9,.ref (.t b k .f9)),(.qq,.none),(.nF,.bool false),(.gL,T.res),(.jo,T.vals),(.qC,.bool T.exe)]
def uH(b k:Nat)(T:TS):Nm→Option O:=AW none [(.fU,some (.inst .Task (o8 b k T))),(.kG,if T.opts then some (.dict [])else none),(.n9,some (.dict [])),(.j4,some (.dict [])),(.ij,some (.list [])),
 (.jK,some (.list [.tup [.str "ok",.str "done",.ref (.t b k .n9)]])),(.gm,some (.list (sV (T.row.map jh)))),(.gr,some (.list (sV (T.td.map tn)))),(.kM,some (.list [])),(.gy,some (.list [])),(.kL,some (.list [])),(.iI,some (.list [])),(.f9,some (.list [.str (jh (true,k))]))]
noncomputable abbrev gC(b k:Nat):I:=.n b k .fU 0
def uQ(b k:Nat)(N:ND):Nm→Option V:=lk [(.gc,.ref (.t b k .fU)),(.gr,.ref (.n b k .gr N.m8)),(.gy,.ref (.n b k .gy N.m8)),(.iG,.ref (.n b k .iG 0)),(.nE,.bool false),(.iS,.ref (.n b k .iS 0)),(.gN,.ref (.n b k .gN 0)),
 (.jT,.ref (.n b k .jT 0)),(.gX,N.st),(.k4,.ref (.n b k .k4 0)),(.jB,.ref (.n b k .jB 0)),(.nI,.int N.ph)]
def p5(b:Nat)(l:List Nat):List (Str×V):=l.map λk=>(tn k,.ref (gC b k))
def FR(o:O)(i:Nat):Option O:=i.casesOn (some o) λZ=>none
def QX(o:O)(n:Nat)(i:Nat):Option O:=i.casesOn (some o) λi=>if i<n then some (.list [])else none
def uu(b k:Nat)(N:ND):Nm→Nat→Option O:=AW (λZ=>none) [(.fU,FR (.inst .lq (uQ b k N))),(.gr,QX (.list (sV (N.iv.map tn))) N.m8),(.gy,QX (.list []) N.m8),(.iG,FR (.list (sV (N.nX.map tn)))),(.iS,FR (.set (N.wr.map tn))),(.gN,FR (.set [])),
 (.jT,FR (.dict (p5 b N.wm))),(.k4,FR (.list [])),(.jB,FR (.list []))]
def yf(b:Nat)(D:DS):Nm→Option V:=lk [(.iw,.ref (.u b .iw)),(.f9,.ref (.u b .f9)),(.gk,.ref (.u b .gk)),(.lK,.ref (.q b .lK)),(.jy,.ref (.q b .jy)),(.ku,.ref (.q b .ku)),(.h8,.ref (.q b .h8)),(.gf,D.cur.casesOn .none λk=>.ref (gC b k))]
def zF(b:Nat)(l:List Nat):List V:=l.map λk=>.ref (gC b k)
def z0(b:Nat)(D:DS):Nm→Option O:=lk [(.fU,.inst .kQ (yf b D)),(.lK,.dict (p5 b D.nodes)),(.jy,.dict (p5 b D.waiting)),(.ku,.list (zF b D.ready)),(.h8,.list (sV (D.todo.map tn)))]
structure St where
 b:Nat
 pp:Nm→Nat→Option O
 vv:Nat→Nat→Bool
 tk:Nat→Option TS
 bb:Nm→Option O
 nd:Nat→Option ND
 D:Option DS
def MR(S:St)(k:Nat)(x:Nm):Option O:=(S.tk k).casesOn none λT=>uH S.b k T x
def NQ(S:St)(k:Nat)(x:Nm)(i:Nat):Option O:=(S.nd k).casesOn none λN=>uu S.b k N x i
def dH(S:St)(x:Nm):Option O:=S.D.casesOn none λD=>z0 S.b D x
def heapOf(S:St)(r:I):Option O:=r.casesOn (λZ=>none) (λx k=>S.pp x k) (λb k=>if S.vv b k then some (.dict [])else none) (λb k x=>if b=S.b then MR S k x else none) (λb k x i=>if b=S.b then NQ S k x i else none) (λb x=>if b=S.b then S.bb x else none) λb x=>if b=S.b then dH S x else none
def live(b:Nat)(r:I):Bool:=r.casesOn (λZ=>false) (λZ Z=>true) (λZ Z=>true) (λb' Z Z=>decide (b≤b')) (λb' Z Z Z=>decide (b≤b')) (λb' Z=>decide (b≤b')) λb' Z=>decide (b≤b')
structure RK(n0:Nat)(σ0:Hp)(S:St)(n:Nat)(σ:Hp):Prop where
 le:n0≤n
 keep:∀m,m<n0→σ (.gq m)=σ0 (.gq m)
 live:∀r,live S.b r=true→σ r=heapOf S r
 free:∀m,n≤m→σ (.gq m)=none
section
variable{n0 n n' m:Nat}{σ0 σ σ':Hp}{S S':St}{T T':TS}{N N':ND}{D D':DS}{k i:Nat}{x:Nm}{o:Option O}
theorem RK.base(h:RK n0 σ0 S n σ):RK n σ S n σ:=⟨aL _,λZ Z=>rfl,h.live,h.free⟩
theorem RK.trans(h:RK n0 σ0 S n σ)(g:RK n σ S' n' σ'):RK n0 σ0 S' n' σ':=⟨ab h.le g.le,λm hm=>(g.keep m (ae hm h.le)).trans (h.keep m hm),g.live,g.free⟩
theorem zh{b:Nat}{r:I}(h:Mine.live b r=true)(m:Nat):I.gq m≠r:=λe=>bf (show Mine.live b (.gq m)=true from e▸h)
theorem RK.up{r:I}(h:RK n0 σ0 S n σ)(hr:Mine.live S.b r=true)(hb:S'.b=S.b)(h1:heapOf S' r=o)(h2:∀x,x≠r→Mine.live S.b x=true→heapOf S' x=heapOf S x):RK n0 σ0 S' n (up σ r o):=
 ⟨h.le,λm hm=>(gD _ _ (zh hr m)).trans (h.keep m hm),λx hx=>have hx:=hb▸hx;(kJ σ r o x).elim (λu=>u.2.trans (u.1▸h1.symm)) λu=>u.2.trans ((h.live x hx).trans (h2 x u.1 hx).symm),λm hm=>(gD _ _ (zh hr m)).trans (h.free m hm)⟩
theorem O.Ey{a b:List (Str×V)}(e:O.dict a=O.dict b):a=b:=O.noConfusion e id
theorem pI{a b:Nat}(h:a≠b):I.gq a≠I.gq b:=λe=>h (I.Co e)
theorem RK.gq(h:RK n0 σ0 S n σ)(h1:n0≤m)(h2:m<n')(h3:n≤n')(o:Option O):RK n0 σ0 S n' (Mine.up σ (.gq m) o):=
 ⟨ab h.le h3,λk hk=>(gD _ _ (pI (av (ae hk h1)))).trans (h.keep k hk),λr hr=>(gD _ _ (Ne.symm (zh hr m))).trans (h.live r hr),λk hk=>(gD _ _ (pI (bx (ae h2 hk)))).trans (h.free k (ab h3 hk))⟩
theorem RK.new(h:RK n0 σ0 S n σ)(o:Option O):RK n0 σ0 S (n+1) (Mine.up σ (.gq n) o):=h.gq h.le (ak _) (aT _) o
theorem RK.old(h:RK n0 σ0 S n σ)(h1:n0≤m)(h2:m<n)(o:Option O):RK n0 σ0 S n (Mine.up σ (.gq m) o):=h.gq h1 h2 (aL _) o
theorem RK.no(h:RK n0 σ0 S n σ):σ (.gq n)=none:=h.free n (aL _)
theorem RK.lz(h:RK n0 σ0 S n σ)(x:Nm)(k:Nat):σ (.p x k)=S.pp x k:=h.live (.p x k) rfl
theorem tZ(b:Nat):decide (b≤b)=true:=decide_eq_true (aL b)
theorem RK.lh(h:RK n0 σ0 S n σ)(x:Nm):σ (.u S.b x)=S.bb x:=(h.live (.u S.b x) (tZ _)).trans (if_pos rfl)
theorem RK.MR(h:RK n0 σ0 S n σ)(k:Nat)(x:Nm):σ (.t S.b k x)=Mine.MR S k x:=(h.live (.t S.b k x) (tZ _)).trans (if_pos rfl)
theorem RK.NQ(h:RK n0 σ0 S n σ)(k:Nat)(x:Nm)(i:Nat):σ (.n S.b k x i)=Mine.NQ S k x i:=(h.live (.n S.b k x i) (tZ _)).trans (if_pos rfl)
theorem RK.dH(h:RK n0 σ0 S n σ)(x:Nm):σ (.q S.b x)=Mine.dH S x:=(h.live (.q S.b x) (tZ _)).trans (if_pos rfl)
theorem xe(e:S.tk k=some T)(x:Nm):MR S k x=uH S.b k T x:=by unfold MR;rw[e]
theorem P4(e:S.tk k=none)(x:Nm):MR S k x=none:=by unfold MR;rw[e]
theorem wb(e:S.nd k=some N)(x:Nm)(i:Nat):NQ S k x i=uu S.b k N x i:=by unfold NQ;rw[e]
theorem N8(e:S.nd k=none)(x:Nm)(i:Nat):NQ S k x i=none:=by unfold NQ;rw[e]
theorem K6(e:S.D=some D)(x:Nm):dH S x=z0 S.b D x:=by unfold dH;rw[e]
theorem Tv(e:S.D=none)(x:Nm):dH S x=none:=by unfold dH;rw[e]
theorem RK.vT(h:RK n0 σ0 S n σ)(e:S.tk k=some T)(x:Nm):σ (.t S.b k x)=uH S.b k T x:=(h.MR k x).trans (xe e x)
theorem RK.DC(h:RK n0 σ0 S n σ)(e:S.nd k=some N)(x:Nm)(i:Nat):σ (.n S.b k x i)=uu S.b k N x i:=(h.NQ k x i).trans (wb e x i)
theorem RK.isQ(h:RK n0 σ0 S n σ)(e:S.D=some D)(x:Nm):σ (.q S.b x)=z0 S.b D x:=(h.dH x).trans (K6 e x)
theorem RK.noT(h:RK n0 σ0 S n σ)(e:S.tk k=none)(x:Nm):σ (.t S.b k x)=none:=(h.MR k x).trans (P4 e x)
theorem RK.Xt(h:RK n0 σ0 S n σ)(e:S.nd k=none)(x:Nm)(i:Nat):σ (.n S.b k x i)=none:=(h.NQ k x i).trans (N8 e x i)
theorem RK.noQ(h:RK n0 σ0 S n σ)(e:S.D=none)(x:Nm):σ (.q S.b x)=none:=(h.dH x).trans (Tv e x)
theorem RK.isV(h:RK n0 σ0 S n σ){b k:Nat}(e:S.vv b k=true):σ (.vals b k)=some (.dict []):=(h.live (.vals b k) rfl).trans (if_pos e)
def St.iP(S:St)(x:Nm)(k:Nat)(o:Option O):St:={S with pp:=λy j=>if y=x∧j=k then o else S.pp y j}
def St.jA(S:St)(x:Nm)(o:Option O):St:={S with bb:=Mine.up S.bb x o}
def St.ib(S:St)(k:Nat)(T:TS):St:={S with tk:=Mine.up S.tk k (some T)}
def St.ia(S:St)(k:Nat)(N:ND):St:={S with nd:=Mine.up S.nd k (some N)}
def St.jq(S:St)(D:DS):St:={S with D:=some D}
theorem St.ip:(S.ib k T).tk k=some T:=fW _ _ _
theorem St.kH:(S.ia k N).nd k=some N:=fW _ _ _
theorem BN{b c:Nat}{p q:Option O}(h:b=c→p=q):(if b=c then p else none)=if b=c then q else none:=by
 by_cases e:b=c
 ·rw[if_pos e,if_pos e];exact h e
 ·rw[if_neg e,if_neg e]
theorem RK.iP(h:RK n0 σ0 S n σ)(x:Nm)(k:Nat)(o:Option O):RK n0 σ0 (S.iP x k o) n (Mine.up σ (.p x k) o):=
 h.up rfl rfl (if_pos ⟨rfl,rfl⟩) λy hy hl=>by
  cases y with
  |p y j=>exact if_neg λe=>hy (by rw[e.1,e.2])
  |_=>rfl
theorem RK.jA(h:RK n0 σ0 S n σ)(x:Nm)(o:Option O):RK n0 σ0 (S.jA x o) n (Mine.up σ (.u S.b x) o):=
 h.up (tZ _) rfl ((if_pos rfl).trans (fW _ _ _)) λy hy hl=>by
  cases y with
  |u b y=>exact BN λe=>gD _ _ λe'=>hy (by rw[e',e];rfl)
  |_=>rfl
theorem RK.ib(h:RK n0 σ0 S n σ)(e:S.tk k=some T)(h1:uH S.b k T' x=o)(h2:∀y,y≠x→uH S.b k T' y=uH S.b k T y):RK n0 σ0 (S.ib k T') n (Mine.up σ (.t S.b k x) o):=
 h.up (tZ _) rfl ((if_pos rfl).trans ((xe (S:=S.ib k T') St.ip x).trans h1)) λy hy hl=>by
  cases y with
  |t b j y=>exact BN λeb=>(aK (j=k)).elim (λej=>by rw[ej,xe e,xe (S:=S.ib k T') St.ip];exact h2 y λe=>hy (by rw[e,ej,eb];rfl)) λej=>by unfold Mine.MR;rw[show(S.ib k T').tk j=_ from gD _ _ ej];rfl
  |_=>rfl
theorem RK.ia(h:RK n0 σ0 S n σ)(e:S.nd k=some N)(h1:uu S.b k N' x i=o)(h2:∀y j,¬(y=x∧j=i)→uu S.b k N' y j=uu S.b k N y j):RK n0 σ0 (S.ia k N') n (Mine.up σ (.n S.b k x i) o):=
 h.up (tZ _) rfl ((if_pos rfl).trans ((wb (S:=S.ia k N') St.kH x i).trans h1)) λy hy hl=>by
  cases y with
  |n b j y z=>exact BN λeb=>(aK (j=k)).elim (λej=>by rw[ej,wb e,wb (S:=S.ia k N') St.kH];exact h2 y z λe=>hy (by rw[e.1,e.2,ej,eb];rfl)) λej=>by unfold Mine.NQ;rw[show(S.ia k N').nd j=_ from gD _ _ ej];rfl
  |_=>rfl
theorem RK.jq(h:RK n0 σ0 S n σ)(e:S.D=some D)(h1:z0 S.b D' x=o)(h2:∀y,y≠x→z0 S.b D' y=z0 S.b D y):RK n0 σ0 (S.jq D') n (Mine.up σ (.q S.b x) o):=
 h.up (tZ _) rfl ((if_pos rfl).trans h1) λy hy hl=>by
  cases y with
  |q b y=>exact BN λeb=>(h2 y λe=>hy (by rw[e,eb];rfl)).trans (K6 e y).symm
  |_=>rfl
def St.build(S:St):St:={S with b:=S.b+1,tk:=λZ=>none,bb:=λZ=>none,nd:=λZ=>none,D:=none}
theorem IE{b:Nat}{r:I}(h:Mine.live (b+1) r=true):Mine.live b r=true∧∀b',(r.casesOn (λZ=>none) (λZ Z=>none) (λZ Z=>none) (λb Z Z=>some b) (λb Z Z Z=>some b) (λb Z=>some b) λb Z=>some b:Option Nat)=some b'→b'≠b:=by
 cases r with
 |gq=>exact bf h
 |p |vals=>exact⟨rfl,λZ e=>nn e⟩
 |_=>exact have w:=jL h;⟨decide_eq_true (bP w),λb' e=>Option.some.inj e▸bx w⟩
theorem RK.build(h:RK n0 σ0 S n σ):RK n0 σ0 {S with b:=S.b+1,tk:=λZ=>none,bb:=λZ=>none,nd:=λZ=>none,D:=none} n σ:=
 ⟨h.le,h.keep,λr hr=>(h.live r (IE hr).1).trans (by
  have ne:=(IE (b:=S.b) hr).2
  cases r with
  |gq |p |vals=>rfl
  |t b k x=>exact(if_neg (ne b rfl)).trans (ite_self _).symm
  |n b k x i=>exact(if_neg (ne b rfl)).trans (ite_self _).symm
  |u b x=>exact(if_neg (ne b rfl)).trans (ite_self _).symm
  |q b x=>exact(if_neg (ne b rfl)).trans (ite_self _).symm),h.free⟩
end
end
mutual
theorem sk{σ:Hp}{x r:I}{v o:Option O}(hn:x≠r)(h:σ x=o):Mine.up σ r v x=o:=(gD _ _ hn).trans h
def At(σ:Hp)(r:I)(a:Nm)(v:V):Prop:=∃c fs,σ r=some (.inst c fs)∧c.attr a=none∧fs a=some v
section
variable{cx:Cx}{d:Nat}{γ:Nm→Option I}{ρ:Loc}{σ:Hp}{Q:V→Hp→Prop}{QQ:Fl→Hp→Loc→Prop}{x a b:Nm}{r s:I}{u:V}{c:pL}{fs:Nm→Option V}{m o:ME}{as:List ME}
inductive ZA(a:Nm)(Q:V→Hp→Prop)(v:V)(σ:Hp):Prop
 |mk (r:I) (u:V):v=.ref r→At σ r a u→Q u σ→ZA a Q v σ
theorem vO(O:gT cx)(h:WE cx d o γ ρ σ (ZA a Q)):WE cx d (.attr o a) γ ρ σ Q:=
 mQ O (jv h λv σ' q=>q.casesOn λr u e w q=>w.elim λc w=>w.elim λfs w=>⟨r,c,fs,u,e,w.1,w.2.1,w.2.2,q⟩)
theorem gw(O:gT cx)(hx:ρ x=some (.ref r))(h:At σ r a u)(q:Q u σ):WE cx d (.attr (.var x) a) γ ρ σ Q:=vO O (fV hx ⟨r,u,rfl,h,q⟩)
theorem zl(O:gT cx)(hx:ρ x=some (.ref r))(h:At σ r a (.ref s))(h2:At σ s b u)(q:Q u σ):WE cx d (.attr (.attr (.var x) a) b) γ ρ σ Q:=vO O (gw O hx h ⟨s,u,rfl,h2,q⟩)
inductive ZX(x a:Nm)(ρ:Loc)(Q:Fl→Hp→Loc→Prop)(v:V)(σ:Hp):Prop
 |mk (r:I) (c:pL) (fs:Nm→Option V):ρ x=some (.ref r)→σ r=some (.inst c fs)→c.attr a=none→Q .next (up σ r (some (.inst c (up fs a (some v))))) ρ→ZX x a ρ Q v σ
theorem iM(O:gT cx)(h:WE cx d m γ ρ σ (ZX x a ρ QQ)):W1 cx d (.hO (.var x) a m) γ ρ σ QQ:=
 oo O (jv h λv σ' q=>q.casesOn λr c fs hx h1 h2 q=>fV hx ⟨r,c,fs,rfl,h1,h2,q⟩)
def QVa(x:Nm)(ρ:Loc)(Q:Fl→Hp→Loc→Prop)(v:V)(σ:Hp):Prop:=Q .next σ (up ρ x (some v))
theorem hU(hm:tD m=true)(h:WE cx d m γ ρ σ (QVa x ρ QQ)):W1 cx d (.asg (.one (.var x)) m) γ ρ σ QQ:=lN hm h
theorem jH(O:gT cx)(F:gK cx)(f:Fn)(hx:ρ x=some (.ref r))(h1:σ r=some (.inst c fs))(h2:c.attr a=some (.ref f.addr))(h3:fs a=none)(h:AN cx d as γ ρ σ (V7 cx d f r Q)):WE cx d (.gn (.var x) a as []) γ ρ σ Q:=
 yP O F f (fV hx ⟨r,c,fs,rfl,h1,h2,h3,h⟩)
theorem mZ(O:gT cx)(F:gK cx)(f:Fn)(hx:ρ x=some (.ref r))(h0:At σ r a (.ref s))(h1:σ s=some (.inst c fs))(h2:c.attr b=some (.ref f.addr))(h3:fs b=none)(h:AN cx d as γ ρ σ (V7 cx d f s Q)):WE cx d (.gn (.attr (.var x) a) b as []) γ ρ σ Q:=
 yP O F f (gw O hx h0 ⟨s,c,fs,rfl,h1,h2,h3,h⟩)
inductive WG(ρ:Loc)(Q:Fl→Hp→Loc→Prop)(v:V)(σ:Hp):Prop
 |mk:v=.none→Q .next σ ρ→WG ρ Q v σ
theorem hZ(h:WE cx d m γ ρ σ (WG ρ QQ)):W1 cx d (.ex m) γ ρ σ QQ:=Ko (jv h λv σ' q=>q.casesOn λe q=>e▸⟨trivial,q⟩)
inductive U4(cx:Cx)(d:Nat)(γ:Nm→Option I)(ρ:Loc)(b o:List MS)(Q:Fl→Hp→Loc→Prop)(c:Bool)(r:Bool)(σ:Hp):Prop
 |mk:r=c→YZ cx d γ ρ b o Q c σ→U4 cx d γ ρ b o Q c r σ
theorem TU{t:ME}{b o:List MS}(c:Bool)(h:WT cx d t γ ρ σ (U4 cx d γ ρ b o QQ c)):W1 cx d (.ite t b o) γ ρ σ QQ:=gp (I2 h λr σ' q=>q.casesOn λe q=>e▸q)
end
end
mutual
def dN(a b:Nat):Bool:=!(aS a b)
theorem u1(a:Nat):dN a a=false:=congrArg (!·) (e8 a)
def Nm.AL(a b:Nm):Bool:=dN a.i b.i
theorem Nm.qW{a b:Nm}(h:Nm.AL a b=true):a≠b:=λe=>bf ((u1 a.i).symm.trans (show dN a.i a.i=true from e▸h))
def I.c0(r:I):Nat:=r.casesOn (λZ=>0) (λZ Z=>1) (λZ Z=>2) (λZ Z Z=>3) (λZ Z Z Z=>4) (λZ Z=>5) λZ Z=>6
def I.c1(r:I):Nat:=r.casesOn (λZ=>0) (λx Z=>x.i) (λZ Z=>0) (λZ Z x=>x.i) (λZ Z x Z=>x.i) (λZ x=>x.i) λZ x=>x.i
def I.c2(r:I):Nat:=r.casesOn (λZ=>0) (λZ Z=>0) (λZ Z=>0) (λZ Z Z=>0) (λZ Z Z i=>i) (λZ Z=>0) λZ Z=>0
def I.c3(r:I):Nat:=r.casesOn (λn=>n) (λZ k=>k) (λZ k=>k) (λZ k Z=>k) (λZ k Z Z=>k) (λZ Z=>0) λZ Z=>0
def I.c4(r:I):Nat:=r.casesOn (λZ=>0) (λZ Z=>0) (λb Z=>b) (λb Z Z=>b) (λb Z Z Z=>b) (λb Z=>b) λb Z=>b
def I.AL(a b:I):Bool:=dN a.c0 b.c0||(dN a.c1 b.c1||(dN a.c2 b.c2||(dN a.c3 b.c3||dN a.c4 b.c4)))
theorem I.qW{a b:I}(h:I.AL a b=true):a≠b:=λe=>by
 rw[e]at h
 unfold I.AL at h
 rw[u1,u1,u1,u1,u1]at h
 exact bf h
class VY (α:Type) where
 AL:α→α→Bool
 ne:∀{a b:α},AL a b=true→a≠b
noncomputable instance:VY Nm:=⟨Nm.AL,Nm.qW⟩
noncomputable instance:VY I:=⟨I.AL,I.qW⟩
theorem nf{α:Type}[VY α]{a b:α}(h:VY.AL a b=true):a≠b:=VY.ne h
theorem zB:∀{j k:Nat},j<6→k<6→tn j=tn k→j=k:=by
 have:∀j<6,∀k<6,tn j=tn k→j=k:=by decide+kernel
 exactλ{j k} a b=>this j a k b
theorem oY:∀{f g:lO},f.2<6→g.2<6→jh f=jh g→f=g:=by
 have:∀i<6,∀j<6,∀a b:Bool,jh (a,i)=jh (b,j)→a=b∧i=j:=by decide+kernel
 intro ⟨a,i⟩ ⟨b,j⟩ hi hj e
 obtain ⟨rfl,rfl⟩:=this i hi j hj a b e
 rfl
section
variable{f:Nat→V}{l:List Nat}{k:Nat}
theorem rH(hl:∀x∈l,x<6)(hk:k<6):(l.map λj=>(tn j,f j)).lookup (tn k)=if k∈l then some (f k)else none:=by
 induction l with
 |nil=>rfl
 |cons x l ih=>
  rw[bT,aJ]
  by_cases e:k=x
  ·subst e;simp
  ·have:(tn k==tn x)=false:=by
    simp only [beq_eq_false_iff_ne,ne_eq]
    exactλq=>e (zB hk (hl x (by simp)) q)
   rw[this,ih λx hx=>hl x (by simp [hx])]
   simp [e]
theorem Ah(hl:∀x∈l,x<6)(hk:k<6):tn k∈l.map tn↔k∈l:=by
 rw[List.mem_map]
 exact⟨λ⟨x,hx,e⟩=>zB (hl x hx) hk e▸hx,λh=>⟨k,h,rfl⟩⟩
theorem C1(hl:∀x∈l,x<6)(hk:k<6):putD (l.map λj=>(tn j,f j)) (tn k) (f k)=(if k∈l then l else l++[k]).map λj=>(tn j,f j):=by
 unfold putD
 rw[qZ,rH hl hk]
 by_cases h:k∈l
 ·rw[if_pos h,if_pos h]
  simp only [Option.isSome_some,if_true,bB]
  refine cT λx hx=>?_
  simp only [Function.comp]
  split
  ·rename_i e
   rw[beq_iff_eq]at e
   rw[zB (hl x hx) hk e]
  ·rfl
 ·rw[if_neg h,if_neg h]
  simp
theorem O8(hl:∀x∈l,x<6)(hk:k<6):delD (l.map λj=>(tn j,f j)) (tn k)=(l.filter (· !=k)).map λj=>(tn j,f j):=by
 unfold delD
 rw[List.filter_map]
 congr 1
 refine cZ λx hx=>?_
 simp only [Function.comp]
 by_cases e:x=k
 ·subst e;simp
 ·have:tn x≠tn k:=λq=>e (zB (hl x hx) hk q)
  rw[beq_eq_false_iff_ne.mpr this,bne_iff_ne.mpr e];rfl
theorem Mt(hl:∀x∈l,x<6)(hk:k<6):(l.map tn).erase (tn k)=(l.erase k).map tn:=by
 induction l with
 |nil=>rfl
 |cons x l ih=>
  rw[bT,List.erase_cons,List.erase_cons]
  by_cases e:x=k
  ·subst e;simp
  ·have:(tn x==tn k)=false:=by
    simp only [beq_eq_false_iff_ne,ne_eq]
    exactλq=>e (zB (hl x (by simp)) hk q)
   rw[this,ih λx hx=>hl x (by simp [hx])]
   have:(x==k)=false:=by simpa using e
   rw[this];rfl
theorem LX(hl:∀x∈l,x<6)(hn:l.Nodup):(l.map tn).Nodup:=by
 induction l with
 |nil=>exact List.nodup_nil
 |cons x l ih=>
  rw[bT,List.nodup_cons]
  rw[List.nodup_cons]at hn
  exact⟨λq=>hn.1 ((Ah (λx hx=>hl x (by simp [hx])) (hl x (by simp))).mp q),ih (λx hx=>hl x (by simp [hx])) hn.2⟩
theorem vU:∀{xs l:List Str},(l++xs).Nodup→jS l xs=l++xs
 |[],l,_=>by simp [jS]
 |x::xs,l,h=>by
  have hx:x∉l:=λq=>by
   rw[List.nodup_append]at h
   exact h.2.2 x q x (by simp) rfl
  have e:jS l (x::xs)=jS (l++[x]) xs:=by
   simp only [jS,dW]
   rw[show A3 l x=l++[x]from if_neg hx]
  rw[e,vU (by simpa using h)]
  simp
theorem wW:∀(l:List Str),strsOf (sV l)=some l
 |[]=>rfl
 |x::l=>by
  show(strsOf (sV l)).map (x:: ·)=_
  rw[wW l];rfl
theorem NM(l:List Str):(sV l).all isAtom=true:=by
 simp [sV,List.all_eq_true,isAtom]
theorem Ug(l:List Str)(x:Str):(sV l).any (λy=>i5 y (.str x))=decide (x∈l):=by
 induction l with
 |nil=>rfl
 |cons y l ih=>
  show((y==x)||(sV l).any λy=>i5 y (.str x))=_
  rw[ih]
  by_cases e:y=x
  ·rw[beq_iff_eq.mpr e,Bool.true_or];exact(decide_eq_true (e▸.head _)).symm
  ·rw[beq_eq_false_iff_ne.mpr e,Bool.false_or];exact decide_eq_decide.mpr ⟨.tail _,λm=>(List.mem_cons.mp m).resolve_left (Ne.symm e)⟩
end
end
mutual
section
variable{cx:Cx}{d:Nat}{σ:Hp}{Q:V→Hp→Prop}
theorem Dt{v:V}{x:Str}(h:isAtom v=true):UO σ v (.str x)=some (i5 v (.str x)):=by
 cases v<;>first |rfl |exact bf h
theorem Hy{r:I}{l:List Str}{x:Str}(h:σ r=some (.list (sV l))):Vy σ (.str x) (.ref r)=some (decide (x∈l)):=by
 show inR _ (σ r)=_
 rw[h]
 show(if ((isAtom (.str x))&&(sV l).all isAtom)=true then some ((sV l).any λy=>i5 y (.str x))else none)=_
 rw[NM,Ug];rfl
theorem Aw{γ:Nm→Option I}{t:Tg}{v:V}{ρ:Loc}{σ:Hp}{k k':Loc→Hp→Prop}(h:BI γ t v ρ σ k)(hk:∀ρ σ,k ρ σ→k' ρ σ):BI γ t v ρ σ k':=by
 cases t with
 |var x=>exact hk _ _ h
 |iN x=>exact Mp.casesOn h λr u h1 h2 h3=>⟨r,u,h1,h2,hk _ _ h3⟩
theorem z5{γ:Nm→Option I}{k k':Loc→Hp→Prop}(hk:∀ρ σ,k ρ σ→k' ρ σ):∀{ts:List Tg} {vs:List V} {ρ:Loc} {σ:Hp},Ac γ ts vs ρ σ k→Ac γ ts vs ρ σ k'
 |[],[],_,_,h=>hk _ _ h
 |t::ts,v::vs,_,_,h=>Aw (k:=λρ σ=>Ac γ ts vs ρ σ k) h λρ σ q=>z5 hk q
 |[],_::_,_,_,h=>aN h
 |_::_,[],_,_,h=>aN h
theorem u6{γ:Nm→Option I}{t:sJ}{v:V}{ρ:Loc}{σ:Hp}{k k':Loc→Hp→Prop}(h:ib γ t v ρ σ k)(hk:∀ρ σ,k ρ σ→k' ρ σ):ib γ t v ρ σ k':=by
 cases t with
 |one t=>exact Aw h hk
 |tup ts=>
  cases v with
  |tup vs=>exact z5 hk h
  |_=>exact aN h
theorem lD{α β:Type}[DecidableEq α](f:α→β)(r:α)(v w:β):up (up f r v) r w=up f r w:=funext λx=>(kJ (up f r v) r w x).elim (λu=>u.2.trans (u.1▸(fW _ _ _).symm)) λu=>u.2.trans ((gD _ _ u.1).trans (gD _ _ u.1).symm)
variable{γ:Nm→Option I}{ρ:Loc}{x:sJ}{e:ME}{b:List MS}{r:I}{QQ:Fl→Hp→Loc→Prop}{Inv:Nat→Hp→Loc→Prop}
def Vu(r:I)(Inv:Nat→Hp→Loc→Prop)(i:Nat)(Q:Fl→Hp→Loc→Prop)(fl:Fl)(σ:Hp)(ρ:Loc):Prop:=fl.casesOn (Inv (i+1) σ ρ) ((∃l,σ r=some (.list l))∧Q .next σ ρ) (Inv (i+1) σ ρ) λv=>(∃l,σ r=some (.list l))∧Q (.ret v) σ ρ
inductive QL(r:I)(Inv:Nat→Hp→Loc→Prop)(ρ:Loc)(v:V)(σ:Hp):Prop
 |mk:v=.ref r→Inv 0 σ ρ→QL r Inv ρ v σ
theorem zZ(x:sJ)(r:I):G0 x (.list r):=by cases x<;>trivial
theorem IT(x:sJ)(n:Nat):G0 x (.IM n):=by cases x<;>trivial
theorem sE{σ:Hp}{l:List V}{i:Nat}(h:σ r=some (.list l)):pY σ (.list r) i=l[i]?:=zH h
theorem jO{α:Type}{l:List α}{f:α→V}(he:uD e=false)(Inv:Nat→Hp→Loc→Prop)(h:WE cx d e γ ρ σ (QL r Inv ρ))
  (hl:∀i σ' ρ',Inv i σ' ρ'→σ' r=some (.list (l.map f)))(step:∀i a σ' ρ',l[i]?=some a→Inv i σ' ρ'→ib γ x (f a) ρ' σ' λρ₂ σ₂=>WS cx d b γ ρ₂ σ₂ (Vu r Inv i QQ))(fin:∀σ' ρ',Inv l.length σ' ρ'→QQ .next σ' ρ'):W1 cx d (.for x e b) γ ρ σ QQ:=
 zc he (λsrc i σ' ρ'=>src=.list r∧i≤l.length∧Inv i σ' ρ') l.length (yS (jv h λv σ' q=>q.casesOn λe q=>⟨r,_,e,hl _ _ _ q,zZ x r,rfl,aw _,q⟩)) λsrc i σ' ρ' q=>by
  have hr:=hl _ _ _ q.2.2
  have hs:=q.1
  subst hs
  refine⟨q.2.1,⟨_,hr⟩,?_⟩
  rw[sE hr,aQ]
  cases e:l[i]? with
  |none=>exact fin _ _ (bZ q.2.1 (List.getElem?_eq_none_iff.mp e)▸q.2.2)
  |some a=>
   exact u6 (step i a σ' ρ' e q.2.2) λρ₂ σ₂ w=>yZ w λfl σ₃ ρ₃ z=>by
    cases fl with
    |next |cont=>exact⟨rfl,mE e,z⟩
    |_=>exact z
inductive ZS(Q:Fl→Hp→Loc→Prop)(ρ:Loc)(v:V)(σ:Hp):Prop
 |mk (r:I):v=.ref r→σ r=some (.list [])→Q .next σ ρ→ZS Q ρ v σ
theorem nR(he:uD e=false)(h:WE cx d e γ ρ σ (ZS QQ ρ)):W1 cx d (.for x e b) γ ρ σ QQ:=
 zc he (λsrc i σ' ρ'=>∃r,src=.list r∧i=0∧σ' r=some (.list [])∧QQ .next σ' ρ') 0 (yS (jv h λv σ' q=>q.casesOn λr e hr q=>⟨r,_,e,hr,zZ x r,r,rfl,rfl,hr,q⟩)) λsrc i σ' ρ' q=>q.elim λr q=>by
  have e1:=q.1;have e2:=q.2.1
  subst e1;subst e2
  refine⟨aL _,⟨_,q.2.2.1⟩,?_⟩
  rw[sE q.2.2.1]
  exact q.2.2.2
def US(Inv:Nat→Hp→Loc→Prop)(i:Nat)(Q:Fl→Hp→Loc→Prop)(fl:Fl)(σ:Hp)(ρ:Loc):Prop:=fl.casesOn (Inv (i+1) σ ρ) (Q .next σ ρ) (Inv (i+1) σ ρ) λv=>Q (.ret v) σ ρ
inductive QRg(N:Nat)(Inv:Nat→Hp→Loc→Prop)(ρ:Loc)(v:V)(σ:Hp):Prop
 |mk:v=.int N→Inv 0 σ ρ→QRg N Inv ρ v σ
theorem uv{N:Nat}(O:gT cx)(hN:N≤1000)(Inv:Nat→Hp→Loc→Prop)(h:WE cx d e γ ρ σ (QRg N Inv ρ))
  (step:∀i σ' ρ',i<N→Inv i σ' ρ'→ib γ x (.int i) ρ' σ' λρ₂ σ₂=>WS cx d b γ ρ₂ σ₂ (US Inv i QQ))(fin:∀σ' ρ',Inv N σ' ρ'→QQ .next σ' ρ'):W1 cx d (.for x (.bi .km [e]) b) γ ρ σ QQ:=
 zc rfl (λsrc i σ' ρ'=>src=.IM N∧i≤N∧Inv i σ' ρ') N (EB O (jv h λv σ' q=>q.casesOn λe q=>⟨N,e,hN,IT x N,rfl,aw _,q⟩)) λsrc i σ' ρ' q=>by
  have hs:=q.1
  subst hs
  refine⟨q.2.1,trivial,?_⟩
  show match (if i<N then some (V.int i)else none)with |none=>_ |some v=>_
  by_cases xM:i<N
  ·rw[if_pos xM]
   exact u6 (step i σ' ρ' xM q.2.2) λρ₂ σ₂ w=>yZ w λfl σ₃ ρ₃ z=>by
    cases fl with
    |next |cont=>exact⟨rfl,xM,z⟩
    |_=>exact⟨trivial,z⟩
  ·rw[if_neg xM]
   exact fin _ _ (bZ q.2.1 (b7 xM)▸q.2.2)
theorem sj(O:gT cx){r q:I}{v:V}(hv:At σ q .gX v)(h0:isAtom v=true)(h1:i5 v (.str "failure")=false)(h2:i5 v (.str "ignore")=false)(h:Q .none σ):WC cx (d+1) .k5 [.ref r,.ref q] σ Q:=
 gu O rfl (fT (gp (gv (gw O rfl hv (gY ⟨false,h1▸Dt h0,fT (gp (gv (gw O rfl hv (gY ⟨false,h2▸Dt h0,fY (fY (fY h))⟩))))⟩)))))
end
end
mutual
theorem p4{σ:Hp}{x a b:I}{u v o:Option O}(n:(I.AL x a&&I.AL x b)=true)(h:σ x=o):up (up σ b v) a u x=o:=sk (I.qW (f7 n).1) (sk (I.qW (f7 n).2) h)
theorem ue{σ:Hp}{x a b c e:I}{u v w z o:Option O}(n:(I.AL x a&&(I.AL x b&&(I.AL x c&&I.AL x e)))=true)(h:σ x=o):up (up (up (up σ e z) c w) b v) a u x=o:=have m:=f7 n;have l:=f7 m.2;sk (I.qW m.1) (sk (I.qW l.1) (p4 l.2 h))
theorem A5{σ:Hp}{x a b c e a' b' c' e':I}{u v w z u' v' w' z' o:Option O}(n:(I.AL x a&&(I.AL x b&&(I.AL x c&&(I.AL x e&&(I.AL x a'&&(I.AL x b'&&(I.AL x c'&&I.AL x e')))))))=true)(h:σ x=o):up (up (up (up (up (up (up (up σ e' z') c' w') b' v') a' u') e z) c w) b v) a u x=o:=have m:=f7 n;have l:=f7 m.2;have k:=f7 l.2;have j:=f7 k.2;sk (I.qW m.1) (sk (I.qW l.1) (sk (I.qW k.1) (sk (I.qW j.1) (ue j.2 h))))
theorem Io{α:Type}{x:Nm}:∀{l:List (Nm×α)},lk l x=none→∀p∈l,p.1≠x
 |[],_,_,m=>absurd m aj
 |(y,b)::l,h,p,m=>by
  have h:(bif aS x.i y.i then some b else lk l x)=none:=h
  cases q:aS x.i y.i with
  |true=>rw[q]at h;exact nn h.symm
  |false=>rw[q]at h;exact(List.mem_cons.mp m).elim (λe f=>bf (q.symm.trans (by rw[←f,e];exact e8 _))) λm=>Io h p m
theorem F0{α:Type}(x:Nm)(v:α)(l:List (Nm×α)):lk ((x,v)::l) x=some v:=by show(bif aS x.i x.i then some v else lk l x)=_;rw[e8];rfl
theorem kl{α:Type}{x y:Nm}(n:x≠y)(v:α)(l:List (Nm×α)):lk ((y,v)::l) x=lk l x:=by
 show(bif aS x.i y.i then some v else lk l x)=_
 rw[show aS x.i y.i=false from Bool.eq_false_iff.mpr λe=>n (Nm.ext (bw e))];rfl
def tI{α:Type}(x:Nm)(l:List (Nm×α)):List (Nm×α):=l.rec [] λp Z ih=>bif aS x.i p.1.i then ih else p::ih
theorem CS{α:Type}{x y:Nm}(n:y≠x):∀l:List (Nm×α),lk l y=lk (tI x l) y
 |[]=>rfl
 |(z,v)::l=>by
  have ih:=CS n l
  show _=lk (bif aS x.i z.i then tI x l else (z,v)::tI x l) y
  cases q:aS x.i z.i with
  |true=>exact(kl (λe=>n (e.trans (Nm.ext (bw q)).symm)) v l).trans ih
  |false=>exact congrArg (λo=>bif aS y.i z.i then some v else o) ih
theorem uC{α:Type}{x y:Nm}{l l':List (Nm×α)}(h:tI x l'=tI x l)(n:y≠x):lk l' y=lk l y:=(CS n l').trans ((congrArg (λl=>lk l y) h).trans (CS n l).symm)
def ups{α:Type}(l:List (Nm×α)):(Nm→Option α)→Nm→Option α:=l.rec (λf=>f) λp Z ih f=>ih (up f p.1 (some p.2))
theorem TC{α:Type}{x:Nm}{l:List (Nm×α)}(h:x.i∉l.map (·.1.i)):lk l x=none:=by
 cases q:lk l x with
 |none=>rfl
 |some v=>exact absurd (List.mem_map.mpr ⟨_,uw q,rfl⟩) h
theorem MB{α:Type}(x:Nm):∀{l:List (Nm×α)} {f:Nm→Option α},(l.map (·.1.i)).Nodup→ups l f x=(lk l x).or (f x)
 |[],_,_=>rfl
 |(y,v)::l,f,n=>by
  have n:=List.nodup_cons.mp n
  refine(MB x (l:=l) (f:=up f y (some v)) n.2).trans ?_
  by_cases e:x=y
  ·rw[e,F0,TC n.1,fW];rfl
  ·rw[kl e,gD _ _ e]
theorem uK{α:Type}{L:List (Nm×α)}(h:(L.map (·.1.i)).Nodup):lk L=ups L λZ=>none:=funext λx=>(Option.or_none.symm).trans (MB (f:=λZ=>none) x h).symm
theorem HY(x:Nm):∀l:List (Nm×O),AW (λZ=>none) (l.map λp=>(p.1,FR p.2)) x=(lk l x).casesOn (λZ=>none) FR
 |[]=>rfl
 |(y,b)::l=>by
  show(bif aS x.i y.i then FR b else AW (λZ=>none) (l.map λp=>(p.1,FR p.2)) x)=(bif aS x.i y.i then some b else lk l x).casesOn (λZ=>none) FR
  cases aS x.i y.i with
  |true=>rfl
  |false=>exact HY x l
section
variable{cx:Cx}{d:Nat}{n0 n k:Nat}{σ0 σ σ':Hp}{S:St}{N:ND}{T:TS}{Q:V→Hp→Prop}
theorem RK.Ww(h:RK n0 σ0 S n σ)(h1:∀x i,σ' (.n S.b k x i)=uu S.b k N x i)(h2:∀r,(∀x i,r≠.n S.b k x i)→σ' r=σ r):RK n0 σ0 (S.ia k N) n σ':=
 ⟨h.le,λm hm=>(h2 _ λZ Z e=>I.noConfusion e).trans (h.keep m hm),λr hr=>by
  have other:(∀x i,r≠.n S.b k x i)→heapOf (S.ia k N) r=heapOf S r→σ' r=heapOf (S.ia k N) r:=λa b=>((h2 r a).trans (h.live r hr)).trans b.symm
  cases r with
  |n b j x i=>
   exact(aK (b=S.b∧j=k)).elim (λe=>by rw[e.1,e.2];exact(h1 x i).trans ((if_pos rfl).trans (wb (S:=S.ia k N) St.kH x i)).symm) λe=>other (λy z q=>e (by injection q with q1 q2;exact⟨q1,q2⟩)) (BN λeb=>by unfold Mine.NQ;rw[show(S.ia k N).nd j=_ from gD _ _ λq=>e ⟨eb,q⟩];rfl)
  |_=>exact other (λZ Z e=>I.noConfusion e) rfl,λm hm=>(h2 _ λZ Z e=>I.noConfusion e).trans (h.free m hm)⟩
def Et(b k:Nat)(iv nX:List Nat):List (Nm×O):=[(.fU,.inst .lq (uQ b k ⟨iv,0,nX,[],[],.none,0⟩)),(.gr,.list (sV (iv.map tn))),(.gy,.list []),(.iG,.list (sV (nX.map tn))),(.iS,.set []),(.gN,.set []),(.jT,.dict []),(.k4,.list []),(.jB,.list [])]
theorem Wd(o:O):QX o 0=FR o:=funext λi=>i.casesOn rfl λi=>(if_neg (bt i):(if i<0 then some (O.list [])else none)=none)
theorem RK.VH{iv nX:List Nat}(h:RK n0 σ0 S n σ)(hk:S.nd k=none)(hL:∀p∈Et S.b k iv nX,σ' (.n S.b k p.1 0)=some p.2)(ho:∀r,(∀p∈Et S.b k iv nX,r≠.n S.b k p.1 0)→σ' r=σ r):RK n0 σ0 (S.ia k ⟨iv,0,nX,[],[],.none,0⟩) n σ':=
 h.Ww (λx i=>by
  have e:uu S.b k ⟨iv,0,nX,[],[],.none,0⟩ x=(lk (Et S.b k iv nX) x).casesOn (λZ=>none) FR:=(by unfold uu;rw[Wd,Wd];rfl:_=AW (λZ=>none) ((Et S.b k iv nX).map λp=>(p.1,FR p.2)) x).trans (HY x _)
  rw[e]
  cases q:lk (Et S.b k iv nX) x with
  |none=>exact(ho _ λp m f=>Io q p m (by injection f with _ _ f _;exact f.symm)).trans (h.Xt hk x i)
  |some o=>
   cases i with
   |zero=>exact hL _ (uw q)
   |succ i=>exact(ho _ λp m f=>by injection f with _ _ _ f;exact bF _ f).trans (h.Xt hk x (i+1)))
  λr hr=>ho r λp m=>hr _ _
theorem s7{α:Type}(l:List α):pW none none l=l:=(congrArg (List.drop 0) (aV)).trans rfl
theorem qM{r:I}{c:pL}{fs:Nm→Option V}(h:σ r=some (.inst c fs)):JQ σ (.ref r)=some true:=congrArg yx h
theorem m6{α:Type}(f:α→Str)(l:List α):(sV (l.map f)).length=l.length:=(ai ..).trans (ai ..)
theorem L3(O:gT cx)(H:RK n0 σ0 S n σ){pv:V}{an:List Nat}(hp:(pv=.none∧an=[])∨∃p N,p≠k∧S.nd p=some N∧pv=.ref (gC S.b p)∧an=N.nX)(ha:an.length≤100){σ₁:Hp}{ρ:Loc}{ms:List MS}{QQ:Fl→Hp→Loc→Prop}{fs:Nm→Option V}
  (h1:ρ .lg=some pv)(h2:σ₁ (gC S.b k)=some (.inst .lq fs))(h2':fs .iG=some (.ref (.n S.b k .iG 0)))(h3:ρ .fU=some (.ref (gC S.b k)))(h4:σ₁ (.n S.b k .iG 0)=some (.list []))(h5:∀p,p≠k→∀x,σ₁ (.n S.b p x 0)=σ (.n S.b p x 0))
  (hh:WS cx d ms (lk []) ρ (up σ₁ (.n S.b k .iG 0) (some (.list (sV (an.map tn))))) QQ):W1 cx d (.ite (.var .lg) [.ex (.gn (.attr (.var .fU) .iG) .uc [(.attr (.var .lg) .iG)] [])] []) (lk []) ρ σ₁ (DG cx d (lk []) ms QQ):=
 hp.elim (λe=>gp (gM O rfl (fV h1 ⟨false,by rw[e.1];rfl,fY (by
  have e':up σ₁ (.n S.b k .iG 0) (some (.list (sV (an.map tn))))=σ₁:=funext λx=>(kJ σ₁ _ _ x).elim (λu=>by rw[u.2,u.1,h4,e.2];rfl) λu=>u.2
  rw[e']at hh;exact hh)⟩))) λe=>e.elim λp e=>e.elim λN e=>by
  have hq:=(h5 p e.1 .fU).trans (H.DC e.2.1 _ _)
  have hq2:=(h5 p e.1 .iG).trans (H.DC e.2.1 _ _)
  rw[e.2.2.1]at h1
  rw[e.2.2.2]at hh ha
  exact gp (gM O rfl (fV h1 ⟨true,qM hq,fT (hZ (JZ O (gw O h3 ⟨_,_,h2,rfl,h2'⟩ ⟨⟨_,h4⟩,gw O h1 ⟨_,_,hq,rfl,rfl⟩ ⟨_,_,_,_,rfl,rfl,h4,hq2,by rw[m6];exact ab (ay (c5 _)) (ab ha (by decide)),⟨rfl,fY hh⟩⟩⟩)))⟩))
theorem CB(O:gT cx)(F:gK cx)(H:RK n0 σ0 S n σ)(hk:S.nd k=none)(hT:S.tk k=some T)(ht:T.td.length≤100){pv:V}{an:List Nat}(hp:(pv=.none∧an=[])∨∃p N,p≠k∧S.nd p=some N∧pv=.ref (gC S.b p)∧an=N.nX)(ha:an.length≤100)
  (h:∀σ',RK n0 σ0 (S.ia k ⟨T.td,0,an++[k],[],[],.none,0⟩) n σ'→Q .none σ'):
  WC cx (d+1) .tL [.ref (gC S.b k),.ref (.t S.b k .fU),pv] (up σ (gC S.b k) (some (.inst .lq λZ=>none))) Q:=by
 have tt:=H.vT hT .fU
 have no:=H.Xt hk
 refine gu O rfl (fT (iM O (fV rfl ⟨_,_,_,rfl,fW _ _ _,rfl,?_⟩)))
 refine fT (iM O (sU (gw O rfl ⟨.Task,o8 S.b k T,p4 rfl tt,rfl,rfl⟩ ⟨_,_,.n S.b k .gr 0,rfl,.inl (p4 rfl (H.vT hT .gr)),rfl,rfl,p4 rfl (no _ _),_,_,_,rfl,sk (nf rfl) (fW _ _ _),rfl,?_⟩)))
 refine fT (iM O (sU (gw O rfl ⟨.Task,o8 S.b k T,ue rfl tt,rfl,rfl⟩ ⟨_,_,.n S.b k .gy 0,rfl,.inl (ue rfl (H.vT hT .gy)),rfl,rfl,ue rfl (no _ _),_,_,_,rfl,sk (nf rfl) (fW _ _ _),rfl,?_⟩)))
 refine fT (iM O (iQ (fZ ⟨aw _,.n S.b k .iG 0,p4 rfl (ue rfl (no _ _)),_,_,_,rfl,sk (nf rfl) (fW _ _ _),rfl,?_⟩)))
 refine fT (L3 O H hp ha rfl (fW _ _ _) rfl rfl (sk (nf rfl) (fW _ _ _)) (λp hp x=>?_) ?_)
 ·have q:∀y,I.n S.b p x 0≠.n S.b k y 0:=λy e=>by injection e with _ e;exact hp e
  exact sk (q _) (sk (q _) (sk (q _) (sk (q _) (sk (q _) (sk (q _) (sk (q _) (sk (q _) rfl)))))))
 refine fT (hZ (jM O (gw O rfl ⟨_,_,sk (nf rfl) (fW _ _ _),rfl,rfl⟩ ⟨⟨_,fW _ _ _⟩,gw O rfl ⟨.Task,o8 S.b k T,sk (nf rfl) (ue rfl (ue rfl tt)),rfl,rfl⟩ ⟨_,_,rfl,fW _ _ _,by rw[m6];exact ao ha (by decide),rfl,?_⟩⟩)))
 refine fT (iM O (pJ ⟨_,_,_,rfl,p4 rfl (fW _ _ _),rfl,?_⟩))
 refine fT (iM O (IC O ⟨.n S.b k .iS 0,sk (nf rfl) (p4 rfl (A5 rfl (no _ _))),_,_,_,rfl,sk (nf rfl) (fW _ _ _),rfl,?_⟩))
 refine fT (iM O (IC O ⟨.n S.b k .gN 0,sk (nf rfl) (ue rfl (A5 rfl (no _ _))),_,_,_,rfl,sk (nf rfl) (fW _ _ _),rfl,?_⟩))
 refine fT (iM O (lI O (r:=.n S.b k .jT 0) (sk (nf rfl) (p4 rfl (ue rfl (A5 rfl (no _ _))))) ⟨_,_,_,rfl,sk (nf rfl) (fW _ _ _),rfl,?_⟩))
 refine fT (iM O (iu ⟨_,_,_,rfl,fW _ _ _,rfl,?_⟩))
 refine fT (iM O (iQ (fZ ⟨aw _,.n S.b k .k4 0,p4 rfl (A5 rfl (A5 rfl (no _ _))),_,_,_,rfl,sk (nf rfl) (fW _ _ _),rfl,?_⟩)))
 refine fT (iM O (iQ (fZ ⟨aw _,.n S.b k .jB 0,ue rfl (A5 rfl (A5 rfl (no _ _))),_,_,_,rfl,sk (nf rfl) (fW _ _ _),rfl,?_⟩)))
 refine fT (iM O (gO O ⟨_,_,_,rfl,fW _ _ _,rfl,fY (h _ (H.VH hk (List.forall_mem_cons.mpr ⟨?_,List.forall_mem_cons.mpr ⟨?_,List.forall_mem_cons.mpr ⟨?_,List.forall_mem_cons.mpr ⟨?_,List.forall_mem_cons.mpr ⟨?_,List.forall_mem_cons.mpr ⟨?_,List.forall_mem_cons.mpr ⟨?_,List.forall_mem_cons.mpr ⟨?_,List.forall_mem_cons.mpr ⟨?_,λZ m=>absurd m aj⟩⟩⟩⟩⟩⟩⟩⟩⟩) λr hr=>?_))⟩))
 ·exact(fW _ _ _).trans (congrArg (λf=>some (Mine.O.inst .lq f)) (uK (by exact jL rfl):uQ S.b k ⟨T.td,0,an++[k],[],[],.none,0⟩=_).symm)
 ·exact ue rfl (A5 rfl (A5 rfl ((fW _ _ _).trans (congrArg (λl=>some (Mine.O.list l)) (s7 _)))))
 ·exact p4 rfl (A5 rfl (A5 rfl (fW _ _ _)))
 ·exact sk (nf rfl) (ue rfl (A5 rfl ((fW _ _ _).trans (congrArg (λl=>some (Mine.O.list l)) (by unfold sV;rw[ar,ar];rfl)))))
 ·exact sk (nf rfl) (p4 rfl (A5 rfl (fW _ _ _)))
 ·exact sk (nf rfl) (A5 rfl (fW _ _ _))
 ·exact sk (nf rfl) (p4 rfl (ue rfl (fW _ _ _)))
 ·exact ue rfl (fW _ _ _)
 ·exact p4 rfl (fW _ _ _)
 ·have q0:=hr _ (.head _);have q1:=hr _ (.tail _ (.head _));have q2:=hr _ (.tail _ (.tail _ (.head _)));have q3:=hr _ (.tail _ (.tail _ (.tail _ (.head _))));have q4:=hr _ (.tail _ (.tail _ (.tail _ (.tail _ (.head _)))));have q5:=hr _ (.tail _ (.tail _ (.tail _ (.tail _ (.tail _ (.head _))))))
  have q6:=hr _ (.tail _ (.tail _ (.tail _ (.tail _ (.tail _ (.tail _ (.head _)))))));have q7:=hr _ (.tail _ (.tail _ (.tail _ (.tail _ (.tail _ (.tail _ (.tail _ (.head _))))))));have q8:=hr _ (.tail _ (.tail _ (.tail _ (.tail _ (.tail _ (.tail _ (.tail _ (.tail _ (.head _)))))))))
  exact sk q0 (sk q0 (sk q8 (sk q0 (sk q7 (sk q0 (sk q0 (sk q6 (sk q0 (sk q5 (sk q0 (sk q4 (sk q0 (sk q3 (sk q3 (sk q0 (sk q3 (sk q0 (sk q2 (sk q0 (sk q1 (sk q0 (sk q0 rfl))))))))))))))))))))))
end
end
mutual
structure jP where
 n:Nat
 row:Nat→List lO
 order:List Nat
 rank:Nat→Nat
def jP.iv(P:jP)(k:Nat):List Nat:=(P.row k).filterMap λf=>if f.1 then some f.2 else none
def rF(b n:Nat):List (Str×V):=(az n).map λk=>(tn k,.ref (.t b k .fU))
structure Bd(P:jP)(S:St):Prop where
 n6:P.n≤6
 tasks:S.bb .iw=some (.dict (rF S.b P.n))
 tk:∀k,k<P.n→∃T,S.tk k=some T∧T.td=P.iv k∧T.row=P.row k
 dl:∀k,k<P.n→(P.iv k).length≤100
def Am(T:List Nat)(an:List Nat)(k:Nat):ND:=⟨T,0,an++[k],[],[],.none,0⟩
structure DW(P:jP)(S:St)(D:DS):Prop where
 at_:S.D=some D
 lt:∀j∈D.nodes,j<P.n
 nodup:D.nodes.Nodup
 nd:∀j,j∈D.nodes↔∃N,S.nd j=some N
 rl:D.ready.length≤90000
 wl:D.waiting.length≤90000
 Hr:∀j∈D.waiting,j<P.n
section
variable{cx:Cx}{d:Nat}{σ:Hp}{Q:V→Hp→Prop}{P:jP}{S:St}{D:DS}{n0 n k:Nat}{σ0:Hp}{pv:V}{an:List Nat}{p:Nat}{N:ND}{T:TS}
theorem sub_len:∀{l l':List Nat},l.Nodup→(∀x∈l,x∈l')→l.length≤l'.length
 |[],_,_,_=>aw _
 |x::l,l',hn,hs=>by
  have hn:=List.nodup_cons.mp hn
  have hx:=hs x (.head _)
  have h:=sub_len (l':=l'.erase x) hn.2 λy hy=>(d6 (λe:y=x=>hn.1 (e▸hy))).mpr (hs y (.tail _ hy))
  rw[dI hx]at h
  exact ab (bl h) (ay (Nat.succ_pred_eq_of_pos (List.length_pos_of_mem hx)))
theorem i4{m:Nat}{l:List Nat}(hn:l.Nodup)(hl:∀x∈l,x<m):l.length≤m:=ab (sub_len hn (l':=az m) λx hx=>aM.mpr (hl x hx)) (ay aD)
theorem RK.task(H:RK n0 σ0 S n σ)(e:S.tk k=some T):σ (.t S.b k .fU)=some (.inst .Task (o8 S.b k T)):=H.vT e _
theorem RK.node(H:RK n0 σ0 S n σ)(e:S.nd k=some N):σ (gC S.b k)=some (.inst .lq (uQ S.b k N)):=H.DC e _ _
theorem RK.lQ(H:RK n0 σ0 S n σ)(e:S.D=some D):σ (.q S.b .fU)=some (.inst .kQ (yf S.b D)):=H.isQ e _
theorem vM{b m:Nat}(h6:m≤6)(hk:k<m):(rF b m).lookup (tn k)=some (.ref (.t b k .fU)):=
 (rH (f:=λk=>.ref (.t b k .fU)) (λx hx=>ae (aM.mp hx) h6) (ae hk h6)).trans (if_pos (aM.mpr hk))
theorem xT{b:Nat}{l:List Nat}(hl:∀x∈l,x<6)(hk:k<6)(h:k∉l):putD (p5 b l) (tn k) (.ref (gC b k))=p5 b (l++[k]):=
 (C1 (f:=λk=>.ref (gC b k)) hl hk).trans (congrArg (p5 b) (if_neg h))
theorem xW(b:Nat)(l:List Nat):(p5 b l).length=l.length:=ai ..
theorem Bd.Ho(B:Bd P S)(hk:k<P.n):k<6:=ae hk B.n6
theorem DW.l6(W:DW P S D)(B:Bd P S)(x:Nat)(hx:x∈D.nodes):x<6:=B.Ho (W.lt x hx)
theorem DW.new(W:DW P S D)(h:k∉D.nodes):S.nd k=none:=Option.eq_none_iff_forall_ne_some.mpr λN e=>h ((W.nd k).mpr ⟨N,e⟩)
theorem DH(B:Bd P S)(W:DW P S D)(hk:k<P.n):((p5 S.b D.nodes).lookup (tn k)).getD .none=if k∈D.nodes then .ref (gC S.b k)else .none:=
 (congrArg (λo=>Option.getD o V.none) (rH (f:=λk=>.ref (gC S.b k)) (W.l6 B) (B.Ho hk))).trans (by by_cases h:k∈D.nodes;rw[if_pos h,if_pos h];rfl;rw[if_neg h,if_neg h];rfl)
theorem Ao(O:gT cx)(F:gK cx)(H:RK n0 σ0 S n σ)(B:Bd P S)(W:DW P S D)(hk:k<P.n)(hn:k∉D.nodes)(hp:(pv=.none∧an=[])∨∃p N,S.nd p=some N∧pv=.ref (gC S.b p)∧an=N.nX)(ha:an.length≤100)
  (h:∀σ',RK n0 σ0 ((S.ia k (Am (P.iv k) an k)).jq {D with nodes:=D.nodes++[k]}) n σ'→Q (.ref (gC S.b k)) σ'):
  WC cx (d+3) .iX [.ref (.q S.b .fU),pv,.str (tn k)] σ Q:=(B.tk k hk).elim λT hT=>by
 have Ym:=W.new hn
 have ds:=H.lQ W.at_
 have dn:=H.isQ W.at_ .lK
 have hb:=B.n6
 refine gu O rfl (fT (hU rfl (Gn O (gw O rfl ⟨_,_,ds,rfl,rfl⟩ ⟨⟨_,dn⟩,fV rfl ⟨_,_,_,rfl,rfl,dn,?_⟩⟩))))
 rw[DH B W hk,if_neg hn]
 refine fT (gp (gv (fV rfl (iu ⟨true,rfl,fT (hU rfl (vx O (f:=.tL) rfl (F _) (fX (jr (gw O rfl ⟨_,_,ds,rfl,rfl⟩ (fV rfl ⟨.ref (.t S.b k .fU),mI ((H.lh _).trans B.tasks) (vM B.n6 hk),
  fX (fV rfl (fZ (jE ⟨rfl,rfl,gC S.b k,H.Xt Ym _ _,CB O F H Ym hT.1 (hT.2.1▸B.dl k hk) (an:=an) (hp.imp id λe=>e.elim λp e=>e.elim λN e=>⟨p,N,λq=>ir e.1 (q▸Ym),e⟩) ha λσ₁ H₁=>⟨rfl,?_⟩⟩)))⟩))))))⟩))))
 have ds:=H₁.lQ (D:=D) (S:=S.ia k _) W.at_
 have dn:=H₁.isQ (D:=D) (S:=S.ia k _) W.at_ .lK
 exact fT (lL (fV rfl (gw O rfl ⟨_,_,ds,rfl,rfl⟩ (fV rfl ⟨_,dn,by rw[xW];exact ao (i4 W.nodup W.lt) (by omega),
  fT (iA (fV rfl (h _ (by
   rw[Am,←hT.2.1]
   exact H₁.jq (S:=S.ia k _) (D:=D) W.at_ (congrArg (λl=>some (Mine.O.dict l)) (xT (W.l6 B) (B.Ho hk) hn).symm) λy hy=>uC rfl hy))))⟩))))
theorem z4(O:gT cx)(H:RK n0 σ0 S n σ)(B:Bd P S)(W:DW P S D)(hk:k∈D.nodes)(hp:pv=.none∨∃p N,S.nd p=some N∧pv=.ref (gC S.b p)∧k∉N.nX∧∀x∈N.nX,x<6)(h:Q .none σ):
  WC cx (d+3) .iX [.ref (.q S.b .fU),pv,.str (tn k)] σ Q:=by
 have ds:=H.lQ W.at_
 have dn:=H.isQ W.at_ .lK
 refine gu O rfl (fT (hU rfl (Gn O (gw O rfl ⟨_,_,ds,rfl,rfl⟩ ⟨⟨_,dn⟩,fV rfl ⟨_,_,_,rfl,rfl,dn,?_⟩⟩))))
 rw[DH B W (W.lt k hk),if_pos hk]
 refine fT (gp (gv (fV rfl (iu ⟨false,rfl,fY (fT (TU false ?_))⟩))))
 exact hp.elim (λe=>ju (gM O rfl (fV rfl ⟨false,by rw[e];rfl,rfl,fY (fT (iA (iu h)))⟩))) λe=>e.elim λp e=>e.elim λN e=>by
  have hN:=H.node e.1
  rw[e.2.1]
  exact ju (gM O rfl (fV rfl ⟨true,qM hN,ju (gv (fV rfl (gw O rfl ⟨_,_,hN,rfl,rfl⟩ ⟨false,(Hy (H.DC e.1 _ _)).trans (congrArg some (decide_eq_false λq=>e.2.2.1 ((Ah e.2.2.2 (W.l6 B k hk)).mp q))),rfl,fY (fT (iA (iu h)))⟩)))⟩))
def Bt(P:jP)(an:List Nat)(S:St)(k:Nat):St:=S.D.casesOn S λD=>if k∈D.nodes then S else (S.ia k (Am (P.iv k) an k)).jq {D with nodes:=D.nodes++[k],ready:=D.ready++[k]}
theorem E3(e:S.D=some D)(h:k∈D.nodes):Bt P an S k=S:=by unfold Bt;rw[e];exact if_pos h
theorem DN(e:S.D=some D)(h:k∉D.nodes):Bt P an S k=(S.ia k (Am (P.iv k) an k)).jq {D with nodes:=D.nodes++[k],ready:=D.ready++[k]}:=by unfold Bt;rw[e];exact if_neg h
theorem CZ(O:gT cx)(F:gK cx)(H:RK n0 σ0 S n σ)(B:Bd P S)(W:DW P S D)(hk:k<P.n)(hp:S.nd p=some N)(hq:k∉N.nX)(ha:N.nX.length≤100)(ha6:∀x∈N.nX,x<6)
  (h:∀σ',RK n0 σ0 (Bt P N.nX S k) n σ'→Q .none σ'):
  WC cx (d+4) .mH [.ref (.q S.b .fU),.ref (gC S.b p),.str (tn k)] σ Q:=by
 have ds:=H.lQ W.at_
 by_cases hn:k∈D.nodes
 ·exact gu O rfl (fT (hU rfl (jH O F .iX rfl ds rfl rfl (fX (fV rfl (fX (fV rfl (fZ ⟨rfl,z4 O H B W hn (.inr ⟨p,N,hp,rfl,hq,ha6⟩)
   (fT (gp (gv (fV rfl (iu ⟨false,rfl,fY (fY (h _ (by rw[E3 W.at_ hn];exact H)))⟩)))))⟩))))))))
 ·refine gu O rfl (fT (hU rfl (jH O F .iX rfl ds rfl rfl (fX (fV rfl (fX (fV rfl (fZ ⟨rfl,Ao O F H B W hk hn (.inr ⟨p,N,hp,rfl,rfl⟩) ha λσ₁ H₁=>?_⟩))))))))
  have ds:=H₁.lQ (S:=St.jq (S.ia k _) _) rfl
  have dr:=H₁.isQ (S:=St.jq (S.ia k _) _) rfl .ku
  exact fT (gp (gv (fV rfl (iu ⟨true,rfl,fT (hZ (jM O (gw O rfl ⟨_,_,ds,rfl,rfl⟩ ⟨⟨_,dr⟩,fV rfl ⟨_,_,rfl,dr,ao (ay (ai ..)) (ao W.rl (by decide)),rfl,
   fY (fY (h _ (by rw[DN W.at_ hn];exact H₁.jq (S:=St.jq (S.ia k _) _) rfl (congrArg (λl=>some (Mine.O.list l)) (ar ..)) λy hy=>uC rfl hy)))⟩⟩)))⟩))))
end
end
mutual
section
variable{cx:Cx}{d:Nat}{σ:Hp}{Q:V→Hp→Prop}{P:jP}{S S' S'':St}{D:DS}{n0 n k:Nat}{σ0:Hp}{N M:ND}
structure J2(v:V):Prop where
 a:isAtom v=true
 f:i5 v (.str "failure")=false
 g:i5 v (.str "ignore")=false
def P5(v:V):Bool:=i5 .none v||i5 (.str "run") v
def Fx(S:St)(j:Nat):Bool:=(S.nd j).casesOn false λN=>P5 N.st
theorem zJ{j:Nat}(h:S.nd j=some M):Fx S j=P5 M.st:=by unfold Fx;rw[h]
def addW(k:Nat)(N:ND):ND:={N with wm:=N.wm++[k]}
def vR(k:Nat)(S:St)(j:Nat):St:=(S.nd j).casesOn S λN=>S.ia j (addW k N)
theorem xB{j:Nat}(h:S.nd j=some M):vR k S j=S.ia j (addW k M):=by unfold vR;rw[h]
structure Kp(S' S:St):Prop where
 b:S'.b=S.b
 D:S'.D=S.D
 tk:S'.tk=S.tk
 bb:S'.bb=S.bb
 pp:S'.pp=S.pp
 vv:S'.vv=S.vv
theorem Kp.refl:Kp S S:=⟨rfl,rfl,rfl,rfl,rfl,rfl⟩
theorem Kp.trans(a:Kp S'' S')(c:Kp S' S):Kp S'' S:=⟨a.b.trans c.b,a.D.trans c.D,a.tk.trans c.tk,a.bb.trans c.bb,a.pp.trans c.pp,a.vv.trans c.vv⟩
theorem Om(k:Nat)(S:St)(j:Nat):Kp (vR k S j) S:=by
 cases q:S.nd j with
 |none=>unfold vR;rw[q];exact .refl
 |some N=>rw[xB q];exact⟨rfl,rfl,rfl,rfl,rfl,rfl⟩
theorem uI(k:Nat):∀(l:List Nat) (S:St),Kp (l.foldl (vR k) S) S
 |[],S=>.refl
 |x::l,S=>(uI k l (vR k S x)).trans (Om k S x)
theorem PW(k:Nat)(S:St)(x j:Nat):(vR k S x).nd j=(S.nd j).map λN=>if j=x then addW k N else N:=by
 cases q:S.nd x with
 |none=>
  unfold vR;rw[q]
  by_cases e:j=x
  ·rw[e,q];rfl
  ·rw[show(λN=>if j=x then addW k N else N)=id from funext λN=>if_neg e,eB];rfl
 |some N=>
  rw[xB q]
  by_cases e:j=x
  ·rw[e,q,St.kH,bK,if_pos rfl]
  ·rw[show(λN=>if j=x then addW k N else N)=id from funext λN=>if_neg e,eB];exact gD _ _ e
theorem zW(k:Nat)(j:Nat):∀{l:List Nat} {S:St},l.Nodup→(l.foldl (vR k) S).nd j=(S.nd j).map λN=>if j∈l then addW k N else N
 |[],S,_=>by rw[show(λN=>if j∈[]then addW k N else N)=id from funext λN=>if_neg aj,eB];rfl
 |x::l,S,n=>by
  have n:=List.nodup_cons.mp n
  refine(zW k j (l:=l) (S:=vR k S x) n.2).trans ?_
  rw[PW,Option.map_map]
  refine congrArg (λf=>bh f (S.nd j)) (funext λN=>?_)
  show(if j∈l then addW k (if j=x then addW k N else N)else if j=x then addW k N else N)=_
  by_cases e:j=x
  ·rw[if_neg (e▸n.1),if_pos e,if_pos (e▸.head _)]
  ·rw[if_neg e]
   by_cases m:j∈l
   ·rw[if_pos m,if_pos (.tail _ m)]
   ·rw[if_neg m,if_neg λq=>(List.mem_cons.mp q).elim e m]
theorem Ak{l:List Nat}{j:Nat}(n:l.Nodup)(h:S.nd j=some M)(m:j∉l):(l.foldl (vR k) S).nd j=some M:=(zW k j n).trans (by rw[h,bK,if_neg m])
theorem Oa{v:V}(h:isAtom v=true):rZ σ .In v (.tup [.none,.str "run"])=some (P5 v):=by
 show(if (isAtom v&&true)=true then some (_||(_||false))else none)=_
 rw[h,Bool.or_false];rfl
theorem z6{l:List Nat}{i j:Nat}(hd:l.Nodup)(e:l[i]?=some j):j∉l.take i:=λq=>(List.mem_take_iff_getElem.mp q).elim λm w=>w.elim λhm h=>
 have lt:=mE e
 List.pairwise_iff_getElem.mp hd m i (ae hm (a8 _ _)) lt (ae hm (bp _ _)) (h.trans (List.getElem?_eq_some_iff.mp e).2.symm)
theorem Ez{l:List Nat}{i j:Nat}{p:Nat→Bool}(e:l[i]?=some j):(l.take (i+1)).filter p=(l.take i).filter p++if p j then [j]else []:=by
 rw[bg,e,bU,dA]
 refine congrArg (((l.take i).filter p)++ ·) ?_
 cases h:p j with
 |true=>rw[bO h];rfl
 |false=>rw[bN (by rw[h];exact aR)];rfl
theorem map_take{l:List Nat}{i j:Nat}{α:Type}{f:α→Nat→α}{a:α}(e:l[i]?=some j):(l.take (i+1)).foldl f a=f ((l.take i).foldl f a) j:=by
 rw[bg,e,bU,eX];rfl
structure Sa(S:St)(k n:Nat)(cv:Bool)(ρ:Loc):Prop where
 s:ρ .fU=some (.ref (.q S.b .fU))
 m:ρ .gf=some (.ref (gC S.b k))
 w:ρ .lJ=some (.ref (.gq n))
 c:ρ .v3=some (.bool cv)
theorem qU{α:Type}(f:α→Str)(l:List α):sV (l.map f)=l.map λj=>V.str (f j):=bB ..
structure Wj(P:jP)(S:St)(k j:Nat)(M:ND):Prop where
 lt:j<P.n
 ne:j≠k
 at_:S.nd j=some M
 ok:J2 M.st
 no:k∉M.wm
 len:M.wm.length≤100
 l6:∀x∈M.wm,x<6
theorem DL{b:Nat}{x:I}{j:Nat}(B:Bd P S)(W:DW P S D)(hd:σ x=some (.dict (p5 b D.nodes)))(hj:j∈D.nodes):wZ σ (.ref x) (.str (tn j))=some (.ref (gC b j)):=
 mI hd ((rH (f:=λk=>.ref (gC b k)) (W.l6 B) (W.l6 B j hj)).trans (if_pos hj))
theorem L4{r:I}{l:List Str}{x:Str}(h:σ r=some (.list (sV l)))(m:x∉l):rZ σ .NotIn (.str x) (.ref r)=some true:=(congrArg (bh (!·)) (Hy h)).trans (congrArg (λb=>some (!b)) (decide_eq_false m))
theorem Jf(O:gT cx)(F:gK cx){ρ:Loc}{j:Nat}{cv:Bool}{L:List Nat}{QQ:Fl→Hp→Loc→Prop}(B:Bd P S)(W:DW P S D)(H':RK n0 σ0 S (n+1) (up σ (.gq n) (some (.list (sV (L.map tn))))))(hN:S.nd k=some N)(w:Wj P S k j M)(R:Sa S k n cv ρ)(hc:cv=false)(L6:∀x∈L,x<6)(Ln:L.length≤6)(hj:j∉L)
  (h:∀ρ',Sa S k n cv ρ'→QQ .next (up σ (.gq n) (some (.list (sV ((L++if Fx S j then [j]else []).map tn))))) ρ'):
  WS cx (d+1) HW (lk []) (up ρ .gI (some (.str (tn j)))) (up σ (.gq n) (some (.list (sV (L.map tn))))) QQ:=by
 have hm:=H'.node w.at_
 refine fT (hU rfl (jr (gw O R.s ⟨_,_,H'.lQ W.at_,rfl,rfl⟩ (fV rfl ⟨.ref (gC S.b j),DL B W (H'.isQ W.at_ .lK) ((W.nd j).mpr ⟨_,w.at_⟩),
  fT (gp (mG (qz (gM O rfl (fV rfl ⟨true,qM hm,mG (gv (gw O rfl ⟨_,_,hm,rfl,rfl⟩ (pX (fX (iu (fX (gY (fZ ⟨au rfl,P5 M.st,Oa w.ok.a,?_⟩))))))))⟩)))))⟩))))
 rw[zJ w.at_]at h
 cases hs:P5 M.st with
 |true=>
  rw[hs]at h
  refine fT (gp (gv (fV rfl (fV R.w ⟨true,L4 (fW _ _ _) λq=>hj ((Ah L6 (B.Ho w.lt)).mp q),fT (hZ (jM O (fV (v:=.ref (.gq n)) R.w ⟨⟨_,fW _ _ _⟩,fV rfl ⟨_,_,rfl,fW _ _ _,by rw[m6];exact ao Ln (by decide),rfl,fY (fY (fY ?_))⟩⟩)))⟩))))
  rw[lD]
  have z:=h (up (up ρ .gI (some (.str (tn j)))) .nS (some (.ref (gC S.b j)))) ⟨R.s,R.m,R.w,R.c⟩
  rw[if_pos rfl,ar,sV,ar]at z
  exact z
 |false=>
  rw[hs]at h
  refine mS (fT (hZ (jH O F .k5 R.m (H'.node hN) rfl rfl (fX (fV rfl (fZ ⟨rfl,sj O ⟨_,_,hm,rfl,rfl⟩ w.ok.a w.ok.f w.ok.g ⟨rfl,fT (gp (gM O rfl (fV R.c ⟨false,by rw[hc];rfl,fY (fY (fY ?_))⟩)))⟩⟩))))))
  have z:=h (up (up ρ .gI (some (.str (tn j)))) .nS (some (.ref (gC S.b j)))) ⟨R.s,R.m,R.w,R.c⟩
  rw[if_neg aR,aU]at z
  exact z
end
end
mutual
theorem kP{α:Type}{d:α}{x y:Nm}(n:y≠x):∀l:List (Nm×α),AW d l y=AW d (tI x l) y
 |[]=>rfl
 |(z,v)::l=>by
  have ih:=kP n (d:=d) l
  show _=AW d (bif aS x.i z.i then tI x l else (z,v)::tI x l) y
  cases q:aS x.i z.i with
  |true=>
   refine Eq.trans ?_ ih
   show(bif aS y.i z.i then v else AW d l y)=_
   rw[show aS y.i z.i=false from Bool.eq_false_iff.mpr λe=>n ((Nm.ext (bw e)).trans (Nm.ext (bw q)).symm)];rfl
  |false=>exact congrArg (λo=>bif aS y.i z.i then v else o) ih
theorem wz{L L':List (Nm×(Nat→Option O))}{x y:Nm}{z:Nat}(h:tI x L'=tI x L)(h0:∀z,AW (λZ=>none) L' x (z+1)=AW (λZ=>none) L x (z+1))(n:¬(y=x∧z=0)):AW (λZ=>none) L' y z=AW (λZ=>none) L y z:=
 (aK (y=x)).elim (λe=>by
  rw[e]
  cases z with
  |zero=>exact absurd ⟨e,rfl⟩ n
  |succ z=>exact h0 z) λm=>congrFun ((kP m L').trans ((congrArg (λl=>AW (λZ=>none) l y) h).trans (kP m L).symm)) z
section
variable{cx:Cx}{d:Nat}{σ:Hp}{Q:V→Hp→Prop}{P:jP}{S S₂:St}{D:DS}{n0 n k:Nat}{σ0:Hp}{N N' M:ND}{T:TS}
theorem GD(O:gT cx){ρ:Loc}{j:Nat}{cv:Bool}{QQ:Fl→Hp→Loc→Prop}(B:Bd P S)(W:DW P S D)(K:Kp S₂ S)(H₂:RK n0 σ0 S₂ (n+1) σ)(hk:k<P.n)(w:Wj P S k j M)(eM:S₂.nd j=some M)(eN:S₂.nd k=some N')(eT:S.tk k=some T)(R:Sa S k n cv ρ)
  (h:∀σ' ρ',RK n0 σ0 (S₂.ia j (addW k M)) (n+1) σ'→σ' (.gq n)=σ (.gq n)→Sa S k n cv ρ'→QQ .next σ' ρ'):WS cx (d+1) Ht (lk []) (up ρ .gI (some (.str (tn j)))) σ QQ:=by
 have eD:S₂.D=some D:=K.D.trans W.at_
 have ds:=K.b▸H₂.lQ eD
 have dn:=K.b▸H₂.isQ eD .lK
 have hm:=K.b▸H₂.node eM
 have hwm:=K.b▸H₂.DC eM .jT 0
 refine fT (lL (fV (v:=.ref (gC S.b k)) R.m (vO O (jr (gw O R.s ⟨_,_,ds,rfl,rfl⟩ (fV rfl ⟨.ref (gC S.b j),DL B W dn ((W.nd j).mpr ⟨_,w.at_⟩),⟨_,_,rfl,⟨_,_,hm,rfl,rfl⟩,zl (u:=.str (tn k)) O R.m ⟨_,_,K.b▸H₂.node eN,rfl,rfl⟩ ⟨_,_,K.b▸H₂.task ((congrFun K.tk k).trans eT),rfl,rfl⟩ ⟨_,hwm,by rw[xW];exact ao w.len (by decide),fY (h _ _ ?_ (sk (nf rfl) rfl) ⟨R.s,R.m,R.w,R.c⟩)⟩⟩⟩))))))
 have z:=H₂.ia (x:=.jT) (i:=0) (N':=addW k M) eM rfl λy z N3=>wz rfl (λZ=>rfl) N3
 rw[xT w.l6 (B.Ho hk) w.no,←K.b]
 exact z
theorem Kk(O:gT cx){ρ:Loc}{cv:Bool}{wf:List Nat}{QQ:Fl→Hp→Loc→Prop}(K:Kp S₂ S)(H₂:RK n0 σ0 S₂ (n+1) σ)(eN:S₂.nd k=some N)(t2:σ (.gq n)=some (.list (sV (wf.map tn))))(R:Sa S k n cv ρ)(hw:N.wr=[])(hc:cv=true→wf=[])(w6:∀x∈wf,x<6)(wd:wf.Nodup)
  (h:∀σ',RK n0 σ0 (S₂.ia k {N with wr:=wf}) (n+1) σ'→QQ .next σ' ρ):WS cx (d+1) [.ite (.var .v3) [.ex (.gn (.attr (.var .gf) .gN) .pb [(.var .lJ)] [])] [.ex (.gn (.attr (.var .gf) .iS) .pb [(.var .lJ)] [])]] (lk []) ρ σ QQ:=by
 have hnn:=K.b▸H₂.node eN
 cases cv with
 |true=>
  have e0:=hc rfl
  subst e0
  have Xs:=K.b▸H₂.DC eN .gN 0
  refine fT (gp (gM O rfl (fV R.c ⟨true,rfl,fT (hZ (AI O (gw O R.m ⟨_,_,hnn,rfl,rfl⟩ ⟨⟨_,Xs⟩,fV R.w ⟨_,_,_,_,[],rfl,rfl,Xs,t2,rfl,au rfl,rfl,fY (fY (h _ ?_))⟩⟩)))⟩)))
  have z:=H₂.ia (x:=.gN) (i:=0) (N':={N with wr:=[]}) eN rfl λy z N3=>by rw[hw.symm]
  rw[←K.b]
  exact z
 |false=>
  have Uw:=K.b▸H₂.DC eN .iS 0
  have ad:jS ([]:List Str) (wf.map tn)=wf.map tn:=(vU (LX w6 wd)).trans (List.nil_append _)
  refine fT (gp (gM O rfl (fV R.c ⟨false,rfl,fT (hZ (AI O (gw O R.m ⟨_,_,hnn,rfl,rfl⟩ ⟨⟨_,Uw⟩,fV R.w ⟨_,_,_,_,wf.map tn,rfl,rfl,Uw,t2,wW _,by rw[hw,ai,ai];have:=i4 wd w6;exact ao (ay (c5 _)) (ao this (by decide)),rfl,fY (fY (h _ ?_))⟩⟩)))⟩)))
  have z:=H₂.ia (x:=.iS) (i:=0) (N':={N with wr:=wf}) eN rfl λy z N3=>wz rfl (λZ=>rfl) N3
  rw[hw,List.map_nil,ad,←K.b]
  exact z
theorem Iy(O:gT cx)(F:gK cx)(H:RK n0 σ0 S n σ)(B:Bd P S)(W:DW P S D)(hN:S.nd k=some N)(hk:k<P.n){l:List Nat}{r:I}{cv:Bool}(hr:σ r=some (.list (sV (l.map tn))))(hrn:r≠.gq n)(hl:∀j∈l,∃M,Wj P S k j M)(hd:l.Nodup)(hw:N.wr=[])(hc:cv=true→l=[])
  (h:∀σ',RK n0 σ0 (((l.filter (Fx S)).foldl (vR k) S).ia k {N with wr:=l.filter (Fx S)}) (n+1) σ'→Q .none σ'):
  WC cx (d+2) .iY [.ref (.q S.b .fU),.ref (gC S.b k),.ref r,.bool cv] σ Q:=by
 have ZD:∀x∈l,x<6:=λx hx=>(hl x hx).elim λZ w=>B.Ho w.lt
 have nk:∀x∈l,x≠k:=λx hx=>(hl x hx).elim λZ w=>w.ne
 have wd:(l.filter (Fx S)).Nodup:=hd.filter _
 have wm:∀j∈l.filter (Fx S),j∈l:=λj hj=>(List.mem_filter.mp hj).1
 refine gu O rfl (fT (hU rfl (iQ (fZ ⟨aw _,.gq n,H.no,fT (jO (f:=λj=>.str (tn j)) (l:=l) (r:=r) rfl (λi σ' ρ'=>σ'=up σ (.gq n) (some (.list (sV (((l.take i).filter (Fx S)).map tn))))∧Sa S k n cv ρ')
  (fV rfl ⟨rfl,rfl,rfl,rfl,rfl,rfl⟩) (λi σ' ρ' q=>by rw[q.1];exact(sk hrn hr).trans (congrArg (λl=>some (Mine.O.list l)) (qU _ _))) ?_ ?_)⟩))))
 ·intro i j σ' ρ' e q
  have hj:=aE e
  have L6:∀x∈(l.take i).filter (Fx S),x<6:=λx hx=>ZD x (br (List.mem_filter.mp hx).1)
  rw[q.1]
  exact(hl j hj).elim λM w=>Jf O F B W (H.new _) hN w q.2 (by cases cv;rfl;exact absurd (hc rfl▸hj) aj) L6 (i4 ((hd.sublist (cE _ _)).filter _) L6) (λm=>z6 hd e (List.mem_filter.mp m).1) λρ'' R=>⟨by rw[Ez e],R⟩
 ·intro σ₁ ρ₁ q
  rw[aV]at q
  rw[q.1]
  refine fT (jO (f:=λj=>.str (tn j)) (l:=l.filter (Fx S)) (r:=.gq n) rfl (λi σ' ρ'=>RK n0 σ0 (((l.filter (Fx S)).take i).foldl (vR k) S) (n+1) σ'∧σ' (.gq n)=some (.list (sV ((l.filter (Fx S)).map tn)))∧Sa S k n cv ρ')
   (fV q.2.w ⟨rfl,H.new _,fW _ _ _,q.2⟩) (λi σ' ρ' q=>q.2.1.trans (congrArg (λl=>some (Mine.O.list l)) (qU _ _))) ?_ ?_)
  ·intro i j σ' ρ' e q
   have hj:=wm j (aE e)
   have td:=wd.sublist (cE i _)
   exact(hl j hj).elim λM w=>(B.tk k hk).elim λT hT=>
    have eM:=Ak (k:=k) td w.at_ (z6 wd e)
    GD O B W (uI k _ S) q.1 hk w eM (Ak td hN λm=>nk k (wm k (br m)) rfl) hT.1 q.2.2 λσ'' ρ'' H3 t3 R=>⟨by rw[map_take e,xB eM];exact H3,t3.trans q.2.1,R⟩
  ·intro σ₂ ρ₂ q
   rw[aV]at q
   exact Kk O (uI k _ S) q.1 (Ak wd hN λm=>nk k (wm k m) rfl) q.2.1 q.2.2 hw (λe=>by rw[hc e];rfl) (λx hx=>ZD x (wm x hx)) wd h
end
end
mutual
section
variable{cx:Cx}{d:Nat}{σ:Hp}{Q:V→Hp→Prop}{P:jP}{S S' S'':St}{D:DS}{n0 n k:Nat}{σ0:Hp}{N M:ND}{T:TS}
structure pA(S S':St):Prop where
 b:S'.b=S.b
 pp:S'.pp=S.pp
 vv:S'.vv=S.vv
 tk:S'.tk=S.tk
 bb:S'.bb=S.bb
theorem pA.refl:pA S S:=⟨rfl,rfl,rfl,rfl,rfl⟩
theorem pA.trans(h:pA S S')(g:pA S' S''):pA S S'':=⟨g.b.trans h.b,g.pp.trans h.pp,g.vv.trans h.vv,g.tk.trans h.tk,g.bb.trans h.bb⟩
theorem Bd.same(B:Bd P S)(h:pA S S'):Bd P S':=⟨B.n6,by rw[h.bb,h.b];exact B.tasks,by rw[h.tk];exact B.tk,B.dl⟩
def newOf(D:DS)(l:List Nat):List Nat:=l.filter λj=>decide (j∉D.nodes)
theorem Ec{x:Nat}{l:List Nat}(h:x∈D.nodes):newOf D (x::l)=newOf D l:=bN (by rw[decide_eq_true_eq];exact not_not_intro h)
theorem By{x:Nat}{l:List Nat}(h:x∉D.nodes):newOf D (x::l)=x::newOf D l:=bO (decide_eq_true h)
theorem jU{x:Nat}{l:List Nat}:x∈newOf D l↔x∈l∧x∉D.nodes:=List.mem_filter.trans (and_congr_right λZ=>decide_eq_true_iff)
def qX(D:DS)(l:List Nat):DS:={D with nodes:=D.nodes++l,ready:=D.ready++l}
theorem Ju:qX D []=D:=by unfold qX;rw[aU,aU]
theorem DV(l m:List Nat):qX (qX D l) m=qX D (l++m):=by unfold qX;rw[bD,bD]
structure Nz(P:jP)(an l:List Nat)(S:St)(D:DS)(S':St):Prop where
 s:pA S S'
 dd:S'.D=some (qX D (newOf D l))
 nd:∀j,S'.nd j=if j∈newOf D l then some (Am (P.iv j) an j)else S.nd j
theorem mO(an:List Nat):∀(l:List Nat) (S:St) (D:DS),S.D=some D→l.Nodup→Nz P an l S D (l.foldl (Bt P an) S)
 |[],S,D,hD,_=>⟨.refl,hD.trans (congrArg some Ju.symm),λj=>(if_neg aj).symm⟩
 |x::l,S,D,hD,hn=>by
  have hn:=List.nodup_cons.mp hn
  by_cases hx:x∈D.nodes
  ·have ih:=mO an l S D hD hn.2
   rw[dW,E3 hD hx]
   exact⟨ih.s,(Ec hx).symm▸ih.dd,(Ec hx).symm▸ih.nd⟩
  ·have Zq:newOf (qX D [x]) l=newOf D l:=cZ λy hy=>decide_eq_decide.mpr (not_congr (List.mem_append.trans ⟨λq=>q.elim id λq=>absurd hy (ag.mp q▸hn.1),.inl⟩))
   have ih:=mO an l ((S.ia x (Am (P.iv x) an x)).jq (qX D [x])) _ rfl hn.2
   rw[dW,DN hD hx]
   refine⟨pA.trans (S':=(S.ia x (Am (P.iv x) an x)).jq (qX D [x])) ⟨rfl,rfl,rfl,rfl,rfl⟩ ih.s,ih.dd.trans (congrArg some ?_),λj=>(ih.nd j).trans ?_⟩
   ·rw[Zq,DV,By hx];rfl
   ·rw[Zq,By hx]
    by_cases q:j=x
    ·rw[q,if_neg λm=>hn.1 (jU.mp m).1,if_pos (.head _)];exact fW _ _ _
    ·by_cases m:j∈newOf D l
     ·rw[if_pos m,if_pos (.tail _ m)]
     ·rw[if_neg m,if_neg λz=>(List.mem_cons.mp z).elim q m];exact gD _ _ q
theorem DW.mO{an l:List Nat}(W:DW P S D)(hl:∀j∈l,j<P.n)(hn:l.Nodup)(hr:D.ready.length≤1000)(h6:P.n≤6):DW P (l.foldl (Bt P an) S) (qX D (newOf D l)):=
 have A:=Mine.mO (P:=P) an l S D W.at_ hn
 have nl:(newOf D l).length≤6:=ab (i4 (m:=P.n) (hn.filter _) λx hx=>hl x (jU.mp hx).1) h6
 ⟨A.dd,λj hj=>(List.mem_append.mp hj).elim (W.lt j) λq=>hl j (jU.mp q).1,List.nodup_append.mpr ⟨W.nodup,hn.filter _,λa ha b hb e=>(jU.mp hb).2 (e▸ha)⟩,λj=>List.mem_append.trans (by
  rw[A.nd j]
  by_cases q:j∈newOf D l
  ·rw[if_pos q];exact⟨λZ=>⟨_,rfl⟩,λZ=>.inr q⟩
  ·rw[if_neg q];exact⟨λz=>(W.nd j).mp (z.resolve_right q),λz=>.inl ((W.nd j).mpr z)⟩),
  ab (ay ax) (ab (bz hr nl) (by decide)),W.wl,W.Hr⟩
theorem H7(h:S.nd k=some N):S.ia k N=S:=by
 unfold St.ia
 rw[show up S.nd k (some N)=S.nd from funext λj=>(kJ S.nd k (some N) j).elim (λu=>u.2.trans (u.1▸h.symm)) λu=>u.2]
theorem JN:(S.ia k N).ia k M=S.ia k M:=congrArg (λf=>({S with nd:=f}:St)) (lD _ _ _ _)
def n7(N:ND):List Nat:=if N.m8=0 then N.iv else []
def QF(N:ND)(wf:List Nat):ND:={N with m8:=N.m8+1,wr:=wf,ph:=if wf.isEmpty then 1 else N.ph}
def Il(P:jP)(S:St)(k:Nat)(N:ND):St:=(n7 N).foldl (Bt P N.nX) (S.ia k {N with m8:=N.m8+1})
def u2(P:jP)(S:St)(k:Nat)(N:ND):List Nat:=(n7 N).filter (Fx (Il P S k N))
def uN(P:jP)(S:St)(k:Nat)(N:ND):St:=((u2 P S k N).foldl (vR k) (Il P S k N)).ia k (QF N (u2 P S k N))
theorem C0(O:gT cx)(H:RK n0 σ0 S n σ)(hN:S.nd k=some N)(hT:S.tk k=some T)(hp:N.ph=1)(hD:S.D=some D)(h:Q .none σ):WC cx (d+1) .jY [.ref (.q S.b .fU),.ref (gC S.b k)] σ Q:=by
 have hn:=H.node hN
 refine gu O rfl (fT (hU rfl (gw O rfl ⟨_,_,hn,rfl,rfl⟩ (fT (DO (λm σ' ρ'=>σ'=σ∧ρ' .gf=some (.ref (gC S.b k))∧ρ' .pz=some (.ref (.t S.b k .fU))) 0 ⟨rfl,rfl,rfl⟩ λm σ' ρ' p=>?_)))))
 rw[p.1]
 exact gv (gw O p.2.1 ⟨_,_,hn,rfl,rfl⟩ (gO O ⟨false,by rw[hp];rfl,fT (gp (gM O rfl (gw O p.2.2 ⟨_,_,H.task hT,rfl,rfl⟩ ⟨false,congrArg yx (H.vT hT _),fY (fT (iA (iu h)))⟩)))⟩))
theorem wB(o:O)(v:Nat):QX o (v+1) (v+1)=some (.list []):=if_pos (ak v)
theorem BS{o:O}{v i:Nat}(n:i≠v+1):QX o (v+1) i=QX o v i:=by
 cases i with
 |zero=>rfl
 |succ j=>
  by_cases z:j<v
  ·exact(if_pos (a5 z)).trans (if_pos z).symm
  ·exact(if_neg λq=>n (congrArg (· +1) (bZ (bH q) (b7 z)))).trans (if_neg z).symm
theorem JC{b k i j:Nat}{x y:Nm}(h:¬(x=y∧i=j)):I.n b k x i≠I.n b k y j:=λe=>h (by injection e with _ _ e1 e2;exact⟨e1,e2⟩)
def lY(N:ND):ND:={N with m8:=N.m8+1}
theorem R2(H:RK n0 σ0 S n σ)(hN:S.nd k=some N)(L:Option O){f1:Nm→Option V}:RK n0 σ0 (S.ia k (lY N)) (n+1) (up (up (up (up (up σ (.n S.b k .gy (N.m8+1)) (some (.list []))) (gC S.b k) (some (.inst .lq f1))) (.gq n) L) (.n S.b k .gr (N.m8+1)) (some (.list []))) (gC S.b k) (some (.inst .lq (uQ S.b k (lY N))))):=
 (H.new L).Ww (λx i=>by
  have nn:=H.DC hN
  by_cases e1:x=.fU
  ·subst e1
   cases i with
   |zero=>exact fW _ _ _
   |succ i=>exact ue rfl (sk (nf rfl) (nn _ _))
  by_cases e2:x=.gr
  ·subst e2
   by_cases z:i=N.m8+1
   ·subst z;exact(sk (nf rfl) (fW _ _ _)).trans (wB (.list []) N.m8).symm
   ·exact(sk (nf rfl) (sk (JC λq=>z q.2) (sk (nf rfl) (sk (nf rfl) (sk (nf rfl) (nn _ _)))))).trans (BS z).symm
  by_cases e3:x=.gy
  ·subst e3
   by_cases z:i=N.m8+1
   ·subst z;exact(ue rfl (fW _ _ _)).trans (wB (.list []) N.m8).symm
   ·exact(ue rfl (sk (JC λq=>z q.2) (nn _ _))).trans (BS z).symm
  refine(sk (JC λq=>e1 q.1) (sk (JC λq=>e2 q.1) (sk (nf rfl) (sk (JC λq=>e1 q.1) (sk (JC λq=>e3 q.1) (nn _ _)))))).trans (congrFun ?_ i)
  exact((kP e1 _).trans ((kP e2 _).trans (kP e3 _)):uu S.b k N x=_).trans ((kP e1 _).trans ((kP e2 _).trans (kP e3 _)):uu S.b k (lY N) x=_).symm)
  λr hr=>(gD _ _ (hr _ _)).trans ((gD _ _ (hr _ _)).trans (by
   by_cases z:r=.gq n
   ·rw[z,fW,fW]
   ·rw[gD _ _ z,gD _ _ z,gD _ _ (hr _ _),gD _ _ (hr _ _)]))
end
end
mutual
def Gg{α:Type}(x:Nm)(v:α)(l:List (Nm×α)):List (Nm×α):=l.rec [] λp l ih=>bif aS x.i p.1.i then (p.1,v)::l else p::ih
theorem sO{α:Type}{x:Nm}{v:α}:∀l:List (Nm×α),(l.any λp=>aS x.i p.1.i)=true→lk (Gg x v l) x=some v
 |[],h=>bf h
 |(z,w)::l,h=>by
  show lk (bif aS x.i z.i then (z,v)::l else (z,w)::Gg x v l) x=_
  have h:(aS x.i z.i||l.any λp=>aS x.i p.1.i)=true:=h
  cases q:aS x.i z.i with
  |true=>exact(Nm.ext (bw q):x=z)▸F0 _ _ _
  |false=>
   rw[q]at h
   exact(kl (λe:x=z=>bf (q.symm.trans (e▸e8 x.i))) w _).trans (sO l h)
theorem v8{α:Type}{x y:Nm}{v:α}(n:y≠x):∀l:List (Nm×α),lk (Gg x v l) y=lk l y
 |[]=>rfl
 |(z,w)::l=>by
  show lk (bif aS x.i z.i then (z,v)::l else (z,w)::Gg x v l) y=_
  cases q:aS x.i z.i with
  |true=>
   have m:y≠z:=λe=>n (e.trans (Nm.ext (bw q)).symm)
   exact(kl m v l).trans (kl m w l).symm
  |false=>exact congrArg (λo=>bif aS y.i z.i then some w else o) (v8 n l)
theorem uo{α:Type}{x:Nm}{v:α}{l:List (Nm×α)}(h:(l.any λp=>aS x.i p.1.i)=true):up (lk l) x (some v)=lk (Gg x v l):=funext λy=>(kJ (lk l) x (some v) y).elim (λu=>u.2.trans (by rw[u.1];exact(sO l h).symm)) λu=>u.2.trans (v8 u.1 l).symm
section
variable{cx:Cx}{d:Nat}{σ:Hp}{S:St}{n0 n k:Nat}{σ0:Hp}{N:ND}
def Xk(N:ND):ND:={N with ph:=if N.wr.isEmpty then 1 else N.ph}
theorem LK(O:gT cx)(K:RK n0 σ0 S n σ)(hN:S.nd k=some (lY N)){ρ:Loc}{QQ:Fl→Hp→Loc→Prop}(p:ρ .gf=some (.ref (gC S.b k)))
  (h:∀σ',RK n0 σ0 (S.ia k (Xk (lY N))) n σ'→QQ (.ret (if N.wr.isEmpty then .str "task" else .str "wait")) σ' ρ):
  WS cx d [.ite (.or [(.attr (.var .gf) .gy),(.attr (.var .gf) .gr)]) [.cont] [.ite (.or [(.attr (.var .gf) .iS),(.attr (.var .gf) .gN)]) [.ret (some (.str "wait"))] [.hO (.var .gf) .nI (.int 1),.ret (some (.str "task"))]]] (lk []) ρ σ QQ:=by
 have hn:=K.node hN
 have nn:=K.DC hN
 have e:∀{r:I} {l:List Str},σ r=some (.set l)→JQ σ (.ref r)=some (!l.isEmpty):=λh=>congrArg yx h
 have e':∀{r:I},σ r=some (.list [])→JQ σ (.ref r)=some false:=λh=>congrArg yx h
 refine fT (gp (mG (gM O rfl (gw O p ⟨_,_,hn,rfl,rfl⟩ ⟨false,e' ((nn _ _).trans (wB (.list []) N.m8)),mG (gM O rfl (gw O p ⟨_,_,hn,rfl,rfl⟩ ⟨false,e' ((nn _ _).trans (wB (.list []) N.m8)),mS
  (fT (gp (mG (gM O rfl (gw O p ⟨_,_,hn,rfl,rfl⟩ ⟨!(N.wr.map tn).isEmpty,e (nn .iS 0),?_⟩)))))⟩))⟩))))
 rw[da]
 cases hw:N.wr.isEmpty with
 |false=>
  rw[hw]at h
  refine fT (iA (gY (h _ ?_)))
  rw[H7 (hN.trans (congrArg some (show lY N=Xk (lY N) by unfold Xk;rw[show(lY N).wr.isEmpty=false from hw];rfl)))]
  exact K
 |true=>
  rw[hw]at h
  refine mG (gM O rfl (gw O p ⟨_,_,hn,rfl,rfl⟩ ⟨false,e (nn .gN 0),mS (fT (iM O (gO O ⟨_,_,_,p,hn,rfl,fT (iA (gY (h _ ?_)))⟩)))⟩))
  refine K.ia hN (x:=.fU) (i:=0) ?_ λy z N3=>wz rfl (λZ=>rfl) N3
  refine congrArg (λf=>some (Mine.O.inst .lq f)) (Eq.trans ?_ (uo (l:=_) (by exact rfl):up (uQ S.b k (lY N)) .nI (some (.int 1))=_).symm)
  unfold Xk
  rw[show(lY N).wr.isEmpty=true from hw]
  rfl
theorem FU(b k:Nat)(N:ND):up (up (uQ b k N) .gy (some (.ref (.n b k .gy (N.m8+1))))) .gr (some (.ref (.n b k .gr (N.m8+1))))=uQ b k (lY N):=
 have a:up (uQ b k N) .gy (some (.ref (.n b k .gy (N.m8+1))))=_:=uo (by exact rfl)
 (congrArg (λf=>up f .gr (some (.ref (.n b k .gr (N.m8+1))))) a).trans ((uo (by exact rfl):_=lk _))
theorem Sw(H:RK n0 σ0 S n σ)(hN:S.nd k=some N):σ (.n S.b k .gr N.m8)=some (.list (sV ((n7 N).map tn))):=(H.DC hN _ _).trans (by
 show QX _ N.m8 N.m8=_
 unfold n7
 cases N.m8 with
 |zero=>rfl
 |succ v=>rw[if_neg (bF v)];exact wB _ v)
theorem IX(H:RK n0 σ0 S n σ)(hN:S.nd k=some N):σ (.n S.b k .gy (N.m8+1))=none∧σ (.n S.b k .gr (N.m8+1))=none:=⟨(H.DC hN _ _).trans (if_neg (a7 _)),(H.DC hN _ _).trans (if_neg (a7 _))⟩
theorem FX(O:gT cx)(H:RK n0 σ0 S n σ)(hN:S.nd k=some N){ρ:Loc}{ms:List MS}{QQ:Fl→Hp→Loc→Prop}(p:ρ .gf=some (.ref (gC S.b k)))
  (h:∀σ' ρ',RK n0 σ0 (S.ia k (lY N)) (n+1) σ'→σ' (.gq n)=some (.list (sV ((n7 N).map tn)))→ρ' .gf=some (.ref (gC S.b k))→ρ' .fU=ρ .fU→ρ' .jV=some (.ref (.n S.b k .gy N.m8))→ρ' .jG=some (.ref (.gq n))→WS cx d ms (lk []) ρ' σ' QQ):
  WS cx d (.asg (.one (.var .jV)) (.attr (.var .gf) .gy)::.hO (.var .gf) .gy (.list [])::.asg (.one (.var .jG)) (.yb (.attr (.var .gf) .gr) none none)::.hO (.var .gf) .gr (.list [])::ms) (lk []) ρ σ QQ:=by
 have hn:=H.node hN
 refine fT (hU rfl (gw O p ⟨_,_,hn,rfl,rfl⟩ (fT (iM O (iQ (fZ ⟨aw _,.n S.b k .gy (N.m8+1),(IX H hN).1,_,_,_,p,sk (nf rfl) hn,rfl,?_⟩))))))
 refine fT (hU rfl (sU (gw O p ⟨_,_,fW _ _ _,rfl,rfl⟩ ⟨_,_,.gq n,rfl,.inl (p4 rfl (Sw H hN)),rfl,rfl,p4 rfl H.no,?_⟩)))
 refine fT (iM O (iQ (fZ ⟨aw _,.n S.b k .gr (N.m8+1),sk (nf rfl) (p4 rfl (IX H hN).2),_,_,_,p,p4 rfl (fW _ _ _),rfl,?_⟩)))
 rw[FU,s7]
 exact h _ _ (R2 H hN _) (p4 rfl (fW _ _ _)) p rfl rfl rfl
theorem Ku(v:Nat):QX (.list []) (v+1) v=some (.list []):=by
 cases v with
 |zero=>rfl
 |succ j=>exact if_pos (a5 (ak j))
theorem DW.next{P:jP}{D:DS}(W:DW P S D)(hN:S.nd k=some N){M:ND}:DW P (S.ia k M) D:=⟨W.at_,W.lt,W.nodup,λj=>(W.nd j).trans ((aK (j=k)).elim (λe=>by rw[e,St.kH];exact⟨λZ=>⟨_,rfl⟩,λZ=>⟨_,hN⟩⟩) λe=>by rw[show(S.ia k M).nd j=_ from gD _ _ e]),W.rl,W.wl,W.Hr⟩
structure Turn(P:jP)(S:St)(k:Nat)(N:ND):Prop where
 ph:N.ph=0
 wr:N.wr=[]
 al:N.nX.length≤100
 a6:∀x∈N.nX,x<6
 ka:k∈N.nX
 dj:∀j∈n7 N,j<P.n∧j∉N.nX
 dn:(n7 N).Nodup
 nd:∀j M,S.nd j=some M→J2 M.st∧M.wm.length≤100∧(∀x∈M.wm,x<6)∧(N.m8=0→k∉M.wm)
theorem GN(eN:S.nd k=some N)(hw:N.wr=[]):((([]:List Nat).filter (Fx S)).foldl (vR k) S).ia k {N with wr:=([]:List Nat).filter (Fx S)}=S:=H7 (eN.trans (congrArg some (by rw[show([]:List Nat).filter (Fx S)=N.wr from hw.symm])))
theorem Mx(O:gT cx)(F:gK cx){P:jP}{D:DS}(H₁:RK n0 σ0 S n σ)(B:Bd P S)(W:DW P S D)(hk:k<P.n)(eN:S.nd k=some (lY N))(hw:N.wr=[]){ρ:Loc}{ms:List MS}{QQ:Fl→Hp→Loc→Prop}(q1:ρ .gf=some (.ref (gC S.b k)))(q2:ρ .fU=some (.ref (.q S.b .fU)))(q3:ρ .jV=some (.ref (.n S.b k .gy N.m8)))
  (h:∀σ',RK n σ S (n+1) σ'→WS cx (d+2) ms (lk []) ρ σ' QQ):
  WS cx (d+2) (.for (.one (.var .gy)) (.var .jV) [.ex (.gn (.var .fU) .l5 [(.var .gf),(.var .gy)] [])]::.ex (.gn (.var .fU) .j2 [(.var .gf),(.var .jV)] [(.v3,(.sL true))])::ms) (lk []) ρ σ QQ:=by
 have cl:σ (.n S.b k .gy N.m8)=some (.list []):=(H₁.DC eN _ _).trans (Ku N.m8)
 exact fT (nR rfl (fV q3 ⟨_,rfl,cl,fT (hZ (IW O (fV q2 ⟨_,_,_,.iY,rfl,H₁.lQ W.at_,rfl,rfl,F _,fX (fV q1 (fX (fV q3 (fZ (Af (pJ (jE ⟨rfl,rfl,
  Iy O F H₁.base B W eN hk (l:=[]) (r:=.n S.b k .gy N.m8) (cv:=true) cl (nf rfl) (λj hj=>absurd hj aj) .nil hw (λZ=>rfl) λσ₂ H₂=>⟨rfl,h _ (GN eN hw▸H₂)⟩⟩)))))))⟩)))⟩))
theorem Jt(O:gT cx)(F:gK cx){P:jP}{D:DS}{m:Nat}{σ₁:Hp}{l:List Nat}(B:Bd P S)(W:DW P S D)(Uu:D.ready.length≤1000)(H:RK (n+1) σ₁ S m σ)(tl:σ₁ (.gq n)=some (.list (sV (l.map tn))))(eN:S.nd k=some N)(Rv:k∈D.nodes)(hl:∀j∈l,j<P.n∧j∉N.nX)(dn:l.Nodup)(al:N.nX.length≤100)(a6:∀x∈N.nX,x<6)
  {ρ:Loc}{ms:List MS}{QQ:Fl→Hp→Loc→Prop}(q1:ρ .gf=some (.ref (gC S.b k)))(q2:ρ .fU=some (.ref (.q S.b .fU)))(q4:ρ .jG=some (.ref (.gq n)))
  (h:∀σ' ρ',RK (n+1) σ₁ (l.foldl (Bt P N.nX) S) m σ'→ρ' .gf=some (.ref (gC S.b k))→ρ' .fU=some (.ref (.q S.b .fU))→ρ' .jG=some (.ref (.gq n))→WS cx (d+4) ms (lk []) ρ' σ' QQ):
  WS cx (d+4) (.for (.one (.var .gr)) (.var .jG) [.ex (.gn (.var .fU) .l5 [(.var .gf),(.var .gr)] [])]::ms) (lk []) ρ σ QQ:=by
 refine fT (jO (f:=λj=>.str (tn j)) (l:=l) (r:=.gq n) rfl (λi σ' ρ'=>RK (n+1) σ₁ ((l.take i).foldl (Bt P N.nX) S) m σ'∧ρ' .gf=some (.ref (gC S.b k))∧ρ' .fU=some (.ref (.q S.b .fU))∧ρ' .jG=some (.ref (.gq n))) (fV q4 ⟨rfl,H,q1,q2,q4⟩)
  (λi σ' ρ' q=>(q.1.keep n (ak n)).trans (tl.trans (congrArg (λl=>some (Mine.O.list l)) (qU _ _)))) (λi j σ' ρ' e q=>?_) λσ' ρ' q=>?_)
 ·have hj:=aE e
  have td:=dn.sublist (cE i l)
  have A:=mO (P:=P) N.nX (l.take i) S D W.at_ td
  have W₃:=W.mO (an:=N.nX) (l:=l.take i) (λj hj=>(hl j (br hj)).1) td Uu B.n6
  have ei:=(A.nd k).trans ((if_neg λm=>(jU.mp m).2 Rv).trans eN)
  exact fT (hZ (jH O F .mH (r:=.q _ .fU) (by rw[A.s.b];exact q.2.2.1) (q.1.lQ W₃.at_) rfl rfl (fX (fV (v:=.ref (gC _ k)) (by rw[A.s.b];exact q.2.1) (fX (fV rfl (fZ ⟨rfl,CZ O F q.1 (B.same A.s) W₃ (hl j hj).1 ei (hl j hj).2 al a6 λσ₄ H₄=>
   ⟨rfl,fY ⟨by rw[map_take e];exact H₄,q.2.1,q.2.2.1,q.2.2.2⟩⟩⟩)))))))
 ·rw[aV]at q
  exact h σ' ρ' q.1 q.2.1 q.2.2.1 q.2.2.2
theorem Cw(O:gT cx)(F:gK cx){P:jP}{D:DS}{Q:V→Hp→Prop}(H:RK n0 σ0 S n σ)(B:Bd P S)(W:DW P S D)(Uu:D.ready.length≤1000)(hN:S.nd k=some N)(hk:k<P.n)(t:Turn P S k N)
  (h:∀n' σ',RK n0 σ0 (uN P S k N) n' σ'→Q (if (u2 P S k N).isEmpty then .str "task" else .str "wait") σ'):WC cx (d+5) .jY [.ref (.q S.b .fU),.ref (gC S.b k)] σ Q:=by
 refine gu O rfl (fT (hU rfl (gw O rfl ⟨_,_,H.node hN,rfl,rfl⟩ (fT (DO (λm σ' ρ'=>σ'=σ∧ρ' .gf=some (.ref (gC S.b k))∧ρ' .fU=some (.ref (.q S.b .fU))) 0 ⟨rfl,rfl,rfl⟩ λm σ' ρ' p=>?_)))))
 rw[p.1]
 refine gv (gw O p.2.1 ⟨_,_,H.node hN,rfl,rfl⟩ (gO O ⟨true,by rw[t.ph];rfl,FX O H hN p.2.1 λσ₁ ρ₁ H₁ tl q1 q2 q3 q4=>?_⟩))
 have W₁:DW P (S.ia k (lY N)) D:=W.next hN
 have B₁:Bd P (S.ia k (lY N)):=B.same ⟨rfl,rfl,rfl,rfl,rfl⟩
 have eN₁:(S.ia k (lY N)).nd k=some (lY N):=St.kH
 have Rv:=(W.nd k).mpr ⟨N,hN⟩
 refine Mx O F H₁ B₁ W₁ hk eN₁ t.wr q1 (q2.trans p.2.2) q3 λσ₂ H₂=>?_
 refine Jt O F B₁ W₁ Uu H₂ tl eN₁ Rv t.dj t.dn t.al t.a6 q1 (q2.trans p.2.2) q4 λσ₃ ρ₃ H₃ r1 r2 r4=>?_
 have A:Nz P N.nX (n7 N) (S.ia k (lY N)) D (Il P S k N):=mO (P:=P) N.nX (n7 N) (S.ia k (lY N)) D W₁.at_ t.dn
 have H₃:RK (n+1) σ₁ (Il P S k N) (n+2) σ₃:=H₃
 have W₃:DW P (Il P S k N) (qX D (newOf D (n7 N))):=W₁.mO (an:=N.nX) (l:=n7 N) (λj hj=>(t.dj j hj).1) t.dn Uu B.n6
 have ei:(Il P S k N).nd k=some (lY N):=(A.nd k).trans ((if_neg λm=>(jU.mp m).2 Rv).trans eN₁)
 refine fT (hZ (jH O F .iY (r:=.q (Il P S k N).b .fU) (by rw[A.s.b];exact r2) (H₃.lQ W₃.at_) rfl rfl (fX (fV (v:=.ref (gC (Il P S k N).b k)) (by rw[A.s.b];exact r1) (fX (fV r4 (fZ ⟨rfl,?_⟩)))))))
 refine Iy O F H₃.base (B₁.same A.s) W₃ ei hk (l:=n7 N) (r:=.gq n) (cv:=false) ((H₃.keep n (ak n)).trans tl) (pI (by omega)) (λj hj=>?_) t.dn t.wr (λe=>bf e) λσ₄ H₄=>⟨rfl,?_⟩
 ·have jk:j≠k:=λe=>(t.dj j hj).2 (e▸t.ka)
  by_cases q:j∈newOf D (n7 N)
  ·exact⟨_,(t.dj j hj).1,jk,(A.nd j).trans (if_pos q),⟨rfl,rfl,rfl⟩,aj,aw _,λZ m=>absurd m aj⟩
  ·have jn:j∈D.nodes:=cF λz=>q (jU.mpr ⟨hj,z⟩)
   exact((W.nd j).mp jn).elim λM eM=>have m:=t.nd j M eM;⟨M,(t.dj j hj).1,jk,(A.nd j).trans ((if_neg q).trans ((gD _ _ jk).trans eM)),m.1,m.2.2.2 (cF λv=>absurd hj (by unfold n7;rw[if_neg v];exact aj)),m.2.1,m.2.2.1⟩
 ·have K:=(H₁.trans H₃).trans H₄
  refine LK (N:={N with wr:=u2 P S k N}) O K St.kH (by rw[show(St.ia _ k _).b=(S.ia k (lY N)).b from(uI k _ _).b.trans A.s.b];exact r1) λσ₅ H₅=>h (n+2+1) σ₅ ?_
  rw[JN]at H₅
  exact H₅
end
end
mutual
section
variable{cx:Cx}{d:Nat}{σ:Hp}{Q:V→Hp→Prop}{P:jP}{S:St}{D:DS}{n0 n k:Nat}{σ0:Hp}
def todo(D:DS)(l:List Nat):DS:={D with todo:=l}
theorem DW.HP(W:DW P S D)(l:List Nat):DW P (S.jq (todo D l)) (todo D l):=⟨rfl,W.lt,W.nodup,W.nd,W.rl,W.wl,W.Hr⟩
theorem nH{r:I}{l:List V}(h:σ r=some (.list l)):JQ σ (.ref r)=some (!l.isEmpty):=congrArg yx h
theorem Pb(e:S.D=some D):S.jq D=S:=by unfold St.jq;rw[←e]
theorem HL(l:List Nat)(k:Nat):(sV ((l++[k]).map tn))[(sV ((l++[k]).map tn)).length - 1]?=some (.str (tn k))∧(sV ((l++[k]).map tn)).eraseIdx ((sV ((l++[k]).map tn)).length - 1)=sV (l.map tn):=by
 have e:sV ((l++[k]).map tn)=sV (l.map tn)++[.str (tn k)]:=by unfold sV;rw[ar,ar];rfl
 have h:(sV (l.map tn)++[V.str (tn k)]).length - 1=(sV (l.map tn)).length:=by rw[ax];rfl
 rw[e,h]
 exact⟨(List.getElem?_append_right (aL _)).trans (by rw[Nat.sub_self];rfl),(List.eraseIdx_append_of_length_le (aL _) _).trans (by rw[Nat.sub_self];exact aU _)⟩
theorem Oj(l:List Nat)(k:Nat):(sV ((l++[k]).map tn)).isEmpty=false:=List.isEmpty_eq_false_iff.mpr λh=>by have q:=congrArg cg h;rw[m6,ax]at q;exact bF _ q
structure NxI(P:jP)(S:St)(D:DS)(n0:Nat)(σ0:Hp)(n:Nat)(m:Nat)(σ':Hp)(ρ':Loc)(l post:List Nat):Prop where
 m:m=l.length
 e:D.todo=l++post
 pn:∀x∈post,x∈D.nodes
 H:RK n0 σ0 (S.jq (todo D l)) n σ'
 s:ρ' .fU=some (.ref (.q S.b .fU))
 t:ρ' .h8=some (.ref (.q S.b .h8))
theorem PA(O:gT cx)(F:gK cx)(H:RK n0 σ0 S n σ)(B:Bd P S)(W:DW P S D)(ht:∀x∈D.todo,x<P.n)
  (h1:∀r l σ',D.ready=r::l→RK n0 σ0 (S.jq {D with ready:=l}) n σ'→Q (.ref (gC S.b r)) σ')
  (h2:∀l k post σ',D.ready=[]→D.todo=l++k::post→(∀x∈post,x∈D.nodes)→k∉D.nodes→RK n0 σ0 ((S.ia k (Am (P.iv k) [] k)).jq {D with nodes:=D.nodes++[k],todo:=l}) n σ'→Q (.ref (gC S.b k)) σ')
  (h3:∀σ',D.ready=[]→(∀x∈D.todo,x∈D.nodes)→RK n0 σ0 (S.jq (todo D [])) n σ'→Q .none σ'):
  WC cx (d+4) .lj [.ref (.q S.b .fU),.ref (.q S.b .ku),.ref (.q S.b .h8)] σ Q:=by
 have dr:σ (.q S.b .ku)=some (.list (zF S.b D.ready)):=H.isQ W.at_ .ku
 cases er:D.ready with
 |cons r l=>
  rw[er]at dr
  exact gu O rfl (fT (gp (gM O rfl (fV rfl ⟨true,nH dr,fT (iA (It O (fV rfl ⟨_,.ref (gC S.b r),zF S.b l,rfl,dr,h1 r l _ er (H.jq W.at_ rfl λy hy=>uC rfl hy)⟩)))⟩))))
 |nil=>
  rw[er]at dr
  refine gu O rfl (fT (gp (gM O rfl (fV rfl ⟨false,nH dr,fY (fT (DO (λm σ' ρ'=>∃l post,NxI P S D n0 σ0 n m σ' ρ' l post) _ ⟨D.todo,[],rfl,(aU _).symm,λZ m=>absurd m aj,by rw[show todo D D.todo=D from rfl,Pb W.at_];exact H,rfl,rfl⟩ λm σ₁ ρ₁ w=>w.elim λl w=>w.elim λpost w=>?_))⟩))))
  have dt:σ₁ (.q S.b .h8)=some (.list (sV (l.map tn))):=w.H.isQ (D:=todo D l) rfl .h8
  rcases List.eq_nil_or_concat l with e |⟨l',k,e⟩
  ·subst e
   exact gM O rfl (fV w.t ⟨false,nH dt,fT (iA (iu (h3 _ er (λx hx=>w.pn x (by have h:=hx;rw[w.e]at h;exact h)) w.H)))⟩)
  ·rw[List.concat_eq_append]at e
   subst e
   have H₂:RK n0 σ0 (S.jq (todo D l')) n (up σ₁ (.q S.b .h8) (some (.list (sV (l'.map tn))))):=w.H.jq (D:=todo D (l'++[k])) (D':=todo D l') rfl rfl λy hy=>uC rfl hy
   have hk:k<P.n:=ht k (by rw[w.e];exact List.mem_append_left _ (List.mem_append_right _ (.head _)))
   have eq:D.todo=l'++k::post:=w.e.trans (bD ..)
   refine gM O rfl (fV w.t ⟨true,(nH dt).trans (congrArg (λb=>some (!b)) (Oj l' k)),fT (hU rfl (T4 O (fV w.t ⟨_,sV ((l'++[k]).map tn),.str (tn k),rfl,dt,(HL l' k).1,?_⟩)))⟩)
   rw[(HL l' k).2]
   by_cases hn:k∈D.nodes
   ·exact fT (hU rfl (jH O F .iX (r:=.q S.b .fU) w.s (H₂.lQ (D:=todo D l') rfl) rfl rfl (fX (iu (fX (fV rfl (fZ ⟨rfl,z4 (S:=S.jq (todo D l')) O H₂ (B.same ⟨rfl,rfl,rfl,rfl,rfl⟩) (W.HP l') hn (.inl rfl)
     (fT (gp (gM O rfl (fV rfl ⟨false,rfl,fY (fY ⟨l'.length,by rw[w.m,ax];exact ak _,l',k::post,rfl,eq,λx hx=>(List.mem_cons.mp hx).elim (λe=>e▸hn) (w.pn x),H₂,w.s,w.t⟩)⟩))))⟩)))))))
   ·exact fT (hU rfl (jH O F .iX (r:=.q S.b .fU) w.s (H₂.lQ (D:=todo D l') rfl) rfl rfl (fX (iu (fX (fV rfl (fZ ⟨rfl,Ao (S:=S.jq (todo D l')) O F H₂ (B.same ⟨rfl,rfl,rfl,rfl,rfl⟩) (W.HP l') hk hn (.inl ⟨rfl,rfl⟩) (aw _) λσ₃ H₃=>
     fT (gp (gM O rfl (fV rfl ⟨true,qM (H₃.node (k:=k) St.kH),fT (iA (fV rfl (h2 l' k post _ er eq w.pn hn H₃)))⟩)))⟩)))))))
end
end
mutual
section
variable{P:jP}{S S':St}{D:DS}{c x:Nat}{M:ND}{l:List Nat}
def Kj(c:Nat)(M:ND):ND:={M with wr:=M.wr.erase c}
def Kg(D:DS)(l:List Nat):DS:={D with ready:=D.ready++l,waiting:=D.waiting.filter λx=>decide (x∉l)}
def emp(c:Nat)(S:St)(x:Nat):Bool:=(S.nd x).casesOn false λM=>(M.wr.erase c).isEmpty
theorem Gw(h:S.nd x=some M):emp c S x=(M.wr.erase c).isEmpty:=by unfold emp;rw[h]
def vZ(c:Nat)(S:St)(x:Nat):St:=(S.nd x).casesOn S λM=>S.D.casesOn S λD=>if (M.wr.erase c).isEmpty then (S.ia x (Kj c M)).jq (Kg D [x])else S.ia x (Kj c M)
theorem HV(h:S.nd x=some M)(hD:S.D=some D):vZ c S x=if (M.wr.erase c).isEmpty then (S.ia x (Kj c M)).jq (Kg D [x])else S.ia x (Kj c M):=by unfold vZ;rw[h,hD]
theorem H9:Kg D []=D:=by unfold Kg;rw[aU,List.filter_eq_self.mpr λx Z=>decide_eq_true aj]
theorem PY(l m:List Nat):Kg (Kg D l) m=Kg D (l++m):=by
 unfold Kg
 rw[bD,List.filter_filter]
 refine congrArg (λw=>({D with ready:=D.ready++(l++m),waiting:=w}:DS)) (cZ λx Z=>?_)
 rw[Bool.and_comm,←Bool.decide_and]
 exact decide_eq_decide.mpr ((not_or.symm).trans (not_congr List.mem_append.symm))
structure Upd(c:Nat)(l:List Nat)(S:St)(D:DS)(S':St):Prop where
 s:pA S S'
 dd:S'.D=some (Kg D (l.filter (emp c S)))
 nd:∀j,S'.nd j=(S.nd j).map λM=>if j∈l then Kj c M else M
theorem Li(h:S.nd x=some M)(hD:S.D=some D):pA S (vZ c S x)∧(vZ c S x).D=some (Kg D ([x].filter (emp c S)))∧(vZ c S x).nd=up S.nd x (some (Kj c M)):=by
 rw[HV h hD]
 cases z:(M.wr.erase c).isEmpty with
 |true=>rw[if_pos rfl,bO ((Gw h).trans z)];exact⟨⟨rfl,rfl,rfl,rfl,rfl⟩,rfl,rfl⟩
 |false=>rw[if_neg aR,bN (by rw[Gw h,z];exact aR)];exact⟨⟨rfl,rfl,rfl,rfl,rfl⟩,hD.trans (congrArg some H9.symm),rfl⟩
theorem xP(c:Nat):∀(l:List Nat) (S:St) (D:DS),S.D=some D→l.Nodup→(∀x∈l,∃M,S.nd x=some M)→Upd c l S D (l.foldl (vZ c) S)
 |[],S,D,hD,_,_=>⟨.refl,hD.trans (congrArg some H9.symm),λj=>by rw[show(λM=>if j∈[]then Kj c M else M)=id from funext λM=>if_neg aj,eB];rfl⟩
 |x::l,S,D,hD,hn,hx=>(hx x (.head _)).elim λM hM=>by
  have hn:=List.nodup_cons.mp hn
  have o:=Li (c:=c) hM hD
  have ne:∀y∈l,y≠x:=λy hy e=>hn.1 (e▸hy)
  have snd:∀y,y≠x→(vZ c S x).nd y=S.nd y:=λy hy=>(congrFun o.2.2 y).trans (gD _ _ hy)
  have ih:=xP c l (vZ c S x) _ o.2.1 hn.2 λy hy=>snd y (ne y hy)▸hx y (.tail _ hy)
  have fl:l.filter (emp c (vZ c S x))=l.filter (emp c S):=cZ λy hy=>by unfold emp;rw[snd y (ne y hy)]
  refine⟨o.1.trans ih.s,ih.dd.trans (by rw[fl,PY,←dA];rfl),λj=>(ih.nd j).trans ?_⟩
  by_cases e:j=x
  ·rw[e,hM,o.2.2,fW,bK,bK,if_neg hn.1,if_pos (.head _)]
  ·rw[snd j e]
   exact congrArg (λf=>bh f (S.nd j)) (funext λM=>by by_cases m:j∈l;rw[if_pos m,if_pos (.tail _ m)];rw[if_neg m,if_neg λq=>(List.mem_cons.mp q).elim e m])
end
end
mutual
section
variable{cx:Cx}{d:Nat}{σ:Hp}{Q:V→Hp→Prop}{P:jP}{S:St}{D:DS}{n0 n k:Nat}{σ0:Hp}{N M:ND}{c x:Nat}
theorem zD(O:gT cx){r:I}(h:Q .none σ):WC cx (d+2) .ja [.ref r,.none] σ Q:=
 gu O rfl (fT (gp (gv (fV rfl (iu ⟨true,rfl,fT (Hu h)⟩)))))
structure Wt(P:jP)(S:St)(D:DS)(c x:Nat)(M:ND):Prop where
 ne:x≠c
 lt:x<P.n
 w:x∈D.waiting
 at_:S.nd x=some M
 cM:c∈M.wr
 l6:∀y∈M.wr,y<6
theorem yV{r:I}{l:List Str}(h:σ r=some (.set l)):JQ σ (.ref r)=some (!l.isEmpty):=congrArg yx h
theorem FD(b:Nat)(l:List Nat):(p5 b l).map (·.2)=l.map λx=>.ref (gC b x):=bB ..
theorem Tu{r:I}{l:List Str}{x:Str}(h:σ r=some (.set l))(m:x∈l):rZ σ .In (.str x) (.ref r)=some true:=by
 show inR _ (σ r)=_
 rw[h]
 exact congrArg some (decide_eq_true m)
theorem Nr(x y:Nat):decide (y∉[x])=(y !=x):=by
 by_cases e:y=x
 ·rw[e,decide_eq_false (not_not_intro (.head _)),bne_self_eq_false]
 ·exact(decide_eq_true (show¬y∈[x]fromλm=>e (ag.mp m))).trans (bne_iff_ne.mpr e).symm
theorem N7(x:Nat):Kg D [x]={D with ready:=D.ready++[x],waiting:=D.waiting.filter (· !=x)}:=congrArg (λw=>({D with ready:=D.ready++[x],waiting:=w}:DS)) (cZ λy Z=>Nr x y)
theorem GA(b:Nat)(l:List Nat)(x:Nat):zF b (l++[x])=zF b l++[.ref (gC b x)]:=ar ..
theorem L1(O:gT cx)(F:gK cx){ρ:Loc}{QQ:Fl→Hp→Loc→Prop}(H:RK n0 σ0 S n σ)(B:Bd P S)(hD:S.D=some D)(hN:S.nd c=some N)(ok:J2 N.st)(hc:c<P.n)(w:Wt P S D c x M)(wl:∀y∈D.waiting,y<6)(rl:D.ready.length<100000)
  {b:Nat}(hb:S.b=b)(q1:ρ .gf=some (.ref (gC b c)))(q2:ρ .fU=some (.ref (.q b .fU)))
  (h:∀σ' ρ',RK n0 σ0 (vZ c S x) n σ'→ρ' .gf=some (.ref (gC b c))→ρ' .fU=some (.ref (.q b .fU))→QQ .next σ' ρ'):WS cx (d+1) RE (lk []) (up ρ .iR (some (.ref (gC b x)))) σ QQ:=by
 subst hb
 have hx:=H.node w.at_
 have hn:=H.node hN
 have Uw:σ (.n S.b x .iS 0)=some (.set (M.wr.map tn)):=H.DC w.at_ .iS 0
 have Xs:σ (.n S.b x .gN 0)=some (.set []):=H.DC w.at_ .gN 0
 have ds:=H.lQ hD
 have dw:σ (.q S.b .jy)=some (.dict (p5 S.b D.waiting)):=H.isQ hD .jy
 have dr:σ (.q S.b .ku)=some (.list (zF S.b D.ready)):=H.isQ hD .ku
 have c1:tn c∈M.wr.map tn:=(Ah w.l6 (B.Ho hc)).mpr w.cM
 have wx:(List.lookup (tn x) (p5 S.b D.waiting)).isSome=true:=congrArg dD ((rH (f:=λk=>.ref (gC S.b k)) wl (B.Ho w.lt)).trans (if_pos w.w))
 have h:=λσ' ρ' H=>h σ' ρ' ((HV w.at_ hD).symm▸H)
 refine(B.tk c hc).elim λT hT=>(B.tk x w.lt).elim λT' hT'=>?_
 have ht:=H.task hT.1
 have WY:=H.task hT'.1
 refine fT (hZ (jH O F .k5 rfl hx rfl rfl (fX (fV (v:=.ref (gC S.b c)) q1 (fZ ⟨rfl,sj O ⟨_,_,hn,rfl,rfl⟩ ok.a ok.f ok.g ⟨rfl,?_⟩⟩)))))
 refine fT (hU rfl (zl O (r:=gC S.b c) q1 ⟨_,_,hn,rfl,rfl⟩ ⟨_,_,ht,rfl,rfl⟩ ?_))
 refine fT (gp (gv (fV rfl (gw O (r:=gC S.b x) rfl ⟨_,_,hx,rfl,rfl⟩ ⟨true,Tu Uw c1,fT (hZ (Gj O (gw O (r:=gC S.b x) rfl ⟨_,_,hx,rfl,rfl⟩ ⟨⟨_,Uw⟩,fV rfl ⟨_,_,_,rfl,rfl,Uw,c1,rfl,?_⟩⟩)))⟩))))
 rw[Mt w.l6 (B.Ho hc)]
 have H₃:RK n0 σ0 (S.ia x (Kj c M)) n (up σ (.n S.b x .iS 0) (some (.set ((M.wr.erase c).map tn)))):=H.ia (N':=Kj c M) w.at_ rfl λy z N3=>wz rfl (λZ=>rfl) N3
 refine fT (hU rfl (NU O (Kl O (gw O (r:=gC S.b x) rfl ⟨_,_,sk (nf rfl) hx,rfl,rfl⟩ ⟨!((M.wr.erase c).map tn).isEmpty,yV (fW _ _ _),?_⟩))))
 rw[da]
 cases z:(M.wr.erase c).isEmpty with
 |false=>
  rw[z]at h
  refine⟨true,(yV (fW _ _ _)).trans (by rw[da,z];rfl),fY (fT (gp (ju (gM O rfl (fV rfl ⟨false,rfl,fY (fY (h _ _ H₃ q1 q2))⟩)))))⟩
 |true=>
  rw[z]at h
  refine Gf (gw O (r:=gC S.b x) rfl ⟨_,_,sk (nf rfl) hx,rfl,rfl⟩ ⟨false,yV (sk (nf rfl) Xs),fY ?_⟩)
  refine fT (gp (ju (gM O rfl (fV rfl ⟨true,rfl,ju (gv (zl O (r:=gC S.b x) rfl ⟨_,_,sk (nf rfl) hx,rfl,rfl⟩ ⟨_,_,sk (nf rfl) WY,rfl,rfl⟩ (gw O (r:=.q S.b .fU) q2 ⟨_,_,sk (nf rfl) ds,rfl,rfl⟩ ⟨true,qQ (sk (nf rfl) dw) wx,qL ?_⟩)))⟩))))
  refine fT (hZ (jM O (gw O (r:=.q S.b .fU) q2 ⟨_,_,sk (nf rfl) ds,rfl,rfl⟩ ⟨⟨_,sk (nf rfl) dr⟩,fV (v:=.ref (gC S.b x)) rfl ⟨_,_,rfl,sk (nf rfl) dr,ao (ay (ai ..)) rl,rfl,?_⟩⟩)))
  refine fT (PC (gw O (r:=.q S.b .fU) q2 ⟨_,_,p4 rfl ds,rfl,rfl⟩ (zl O (r:=gC S.b x) rfl ⟨_,_,p4 rfl hx,rfl,rfl⟩ ⟨_,_,p4 rfl WY,rfl,rfl⟩ ⟨_,_,_,rfl,rfl,p4 rfl dw,wx,fY (fY (h _ _ ?_ q1 q2))⟩)))
  have H₄:=H₃.jq (D':={D with ready:=D.ready++[x]}) (x:=.ku) (o:=some (.list (zF S.b D.ready++[.ref (gC S.b x)]))) hD (congrArg (λl=>some (Mine.O.list l)) (GA ..)) λy hy=>uC rfl hy
  have H₅:=H₄.jq (D':={D with ready:=D.ready++[x],waiting:=D.waiting.filter (· !=x)}) (x:=.jy) rfl rfl λy hy=>uC rfl hy
  rw[if_pos rfl,N7,p5,O8 wl (B.Ho w.lt)]
  exact H₅
theorem JM(O:gT cx)(F:gK cx)(H:RK n0 σ0 S n σ)(B:Bd P S)(W:DW P S D)(hN:S.nd c=some N)(hc:c<P.n)(ok:J2 N.st)(hr:i5 N.st (.str "run")=false)(hw:N.wm.Nodup)(Uu:D.ready.length+N.wm.length≤1000)(hl:∀x∈N.wm,∃M,Wt P S D c x M)
  (h:∀σ',RK n0 σ0 (N.wm.foldl (vZ c) S) (n+1) σ'→Q .none σ'):WC cx (d+2) .ja [.ref (.q S.b .fU),.ref (gC S.b c)] σ Q:=by
 have hn:=H.node hN
 have H₁:=H.new (some (.list ((p5 S.b N.wm).map (·.2))))
 refine gu O rfl (fT (gp (gv (fV rfl (iu ⟨false,rfl,fY (fT (hU rfl (fV rfl
  (fT (gp (gM O rfl (gw O rfl ⟨_,_,hn,rfl,rfl⟩ ⟨false,rfl,fY
  (fT (gp (gv (gw O rfl ⟨_,_,hn,rfl,rfl⟩ (gY ⟨false,hr▸Dt ok.a,fY ?_⟩)))))⟩)))))))⟩)))))
 refine fT (jO (f:=λx=>.ref (gC S.b x)) (l:=N.wm) (r:=.gq n) rfl (λi σ' ρ'=>RK (n+1) _ ((N.wm.take i).foldl (vZ c) S) (n+1) σ'∧ρ' .gf=some (.ref (gC S.b c))∧ρ' .fU=some (.ref (.q S.b .fU)))
  (Ck O (gw O rfl ⟨_,_,hn,rfl,rfl⟩ ⟨_,_,.gq n,rfl,H.DC hN .jT 0,H.no,rfl,H₁.base,rfl,rfl⟩)) (λi σ' ρ' q=>(q.1.keep n (ak _)).trans ((fW _ _ _).trans (congrArg (λl=>some (Mine.O.list l)) (FD _ _)))) ?_ ?_)
 ·intro i x σ₂ ρ₂ e q
  have U:=xP c (N.wm.take i) S D W.at_ (hw.sublist (cE _ _)) λx hx=>(hl x (br hx)).elim λM w=>⟨M,w.at_⟩
  have nt:=z6 hw e
  have nf:x∉(N.wm.take i).filter (emp c S):=λm=>nt (List.mem_filter.mp m).1
  refine(hl x (aE e)).elim λM w=>?_
  refine L1 (S:=(N.wm.take i).foldl (vZ c) S) (N:=if c∈N.wm.take i then Kj c N else N) (M:=M) O F q.1 (B.same U.s) U.dd ((U.nd c).trans (congrArg (bh _) hN)) (by by_cases m:c∈N.wm.take i;rw[if_pos m];exact ok;rw[if_neg m];exact ok) hc
   ⟨w.ne,w.lt,List.mem_filter.mpr ⟨w.w,decide_eq_true nf⟩,(U.nd x).trans (by rw[w.at_,bK,if_neg nt]),w.cM,w.l6⟩ (λy hy=>B.Ho (W.Hr y (List.mem_filter.mp hy).1))
   (ao (ab (ay ax) (ab (aW (ab (cA _ _) (by rw[aO];exact a8 _ _)) _) Uu)) (by decide)) U.s.b q.2.1 q.2.2 λσ' ρ' H r1 r2=>⟨by rw[map_take e];exact H,r1,r2⟩
 ·intro σ₂ ρ₂ q
  rw[aV]at q
  exact fY (h _ (H₁.trans q.1))
end
end
mutual
structure POk(P:jP):Prop where
 n1:1≤P.n
 n6:P.n≤6
 dep:∀k,k<P.n→∀j∈P.iv k,j<P.n∧P.rank j<P.rank k
 dnd:∀k,k<P.n→(P.iv k).Nodup
def wJ(v:V):Prop:=J2 v∧P5 v=false
structure NI(P:jP)(S:St)(k:Nat)(N:ND):Prop where
 iv:N.iv=P.iv k
 kn:k<P.n
 ka:k∈N.nX
 an:N.nX.Nodup
 al:∀a∈N.nX,a<P.n∧P.rank k≤P.rank a
 st:N.st=.none∨wJ N.st
 Lj:N.wm.Nodup
 GK:∀x∈N.wm,x<P.n∧x≠k∧∃M,S.nd x=some M∧M.m8≠0∧(N.st=.none→k∈M.wr)
 un:N.m8=0→N.wr=[]
 ex:N.m8≠0→∀j∈P.iv k,∃M,S.nd j=some M∧(j∈N.wr↔M.st=.none)∧(M.st=.none→k∈M.wm)
 TQ:N.wr.Nodup
 S8:∀j∈N.wr,j∈P.iv k
 ph:(N.ph=0∧N.st=.none)∨(N.ph=1∧N.m8≠0∧N.wr=[])
structure kB(P:jP)(C:Nat→Prop)(ch:List Nat)(S:St)(D:DS):Prop where
 W:DW P S D
 ni:∀k N,S.nd k=some N→NI P S k N
 rn:D.ready.Nodup
 rd:∀k∈D.ready,k∉D.waiting∧D.cur≠some k∧∃N,S.nd k=some N∧N.ph=0∧N.wr=[]
 wn:D.waiting.Nodup
 wt:∀k∈D.waiting,D.cur≠some k∧∃N,S.nd k=some N∧N.ph=0∧N.m8≠0∧N.wr≠[]
 Ql:∀k N,S.nd k=some N→N.ph=0→k∈D.ready∨k∈D.waiting∨D.cur=some k
 cur:∀k,D.cur=some k→∃N,S.nd k=some N∧N.wr=[]
 op:∀k N,S.nd k=some N→N.ph=1→N.st=.none→D.cur=some k
 todo:∀x∈D.todo,x<P.n∧C x
 RP:∀x∈ch,x∈D.todo∨x∈D.nodes
 cn:∀k∈D.nodes,C k
def Dn(S:St)(j:Nat):Prop:=∃M,S.nd j=some M∧M.st≠.none
section
variable{P:jP}{C:Nat→Prop}{ch:List Nat}{S:St}{D:DS}{k j:Nat}{N M M':ND}
theorem FA{v:V}(h:wJ v):v≠.none:=λe=>bf ((show P5 .none=false from e▸h.2).symm:false=true)
theorem OP{v:V}(h:v=.none∨wJ v):P5 v=true↔v=.none:=⟨λq=>h.elim id λh=>bf (h.2.symm.trans q),λe=>e▸rfl⟩
theorem NI.len(h:NI P S k N)(h6:P.n≤6):N.nX.length≤6∧N.wm.length≤6:=
 ⟨ab (i4 h.an λx hx=>(h.al x hx).1) h6,ab (i4 h.Lj λx hx=>(h.GK x hx).1) h6⟩
theorem NI.ok(h:NI P S k N):J2 N.st:=h.st.elim (λe=>e▸⟨rfl,rfl,rfl⟩) (·.1)
theorem kB.J6(I:kB P C ch S D):D.ready.length≤P.n:=i4 I.rn λx hx=>(I.rd x hx).2.2.elim λN e=>(I.ni x N e.1).kn
theorem T6{z:Int}{a b:Prop}(h:(z=0∧a)∨(z=1∧b))(e:z=0):a:=h.elim (·.2) λq=>absurd (q.1.symm.trans e) (by decide)
theorem TF{z:Int}{a b:Prop}(h:(z=0∧a)∨(z=1∧b))(e:z=1):b:=h.elim (λq=>absurd (q.1.symm.trans e) (by decide)) (·.2)
structure W4(M' M:ND):Prop where
 ph:M'.ph=M.ph
 wr:M'.wr=M.wr
 m8:M'.m8=M.m8
 st:M'.st=M.st
 iv:M'.iv=M.iv
 nX:M'.nX=M.nX
def wI(k:Nat)(l:List Nat)(j:Nat)(M:ND):ND:=if j∈l then addW k M else M
theorem BM{l:List Nat}(h:j∈l):wI k l j M=addW k M:=if_pos h
theorem Df{l:List Nat}(h:j∉l):wI k l j M=M:=if_neg h
theorem AS(k:Nat)(l:List Nat)(j:Nat)(M:ND):W4 (wI k l j M) M:=by
 by_cases h:j∈l
 ·rw[BM h];exact⟨rfl,rfl,rfl,rfl,rfl,rfl⟩
 ·rw[Df h];exact⟨rfl,rfl,rfl,rfl,rfl,rfl⟩
theorem M8(l:List Nat){x:Nat}(h:x∈M.wm):x∈(wI k l j M).wm:=by
 by_cases q:j∈l
 ·rw[BM q];exact List.mem_append.mpr (.inl h)
 ·rw[Df q];exact h
theorem SK{l:List Nat}{x:Nat}(h:x∈(wI k l j M).wm):x∈M.wm∨(x=k∧j∈l):=by
 by_cases q:j∈l
 ·rw[BM q]at h;exact(List.mem_append.mp h).imp id λm=>⟨ag.mp m,q⟩
 ·rw[Df q]at h;exact .inl h
theorem oN{l:List Nat}{x:Nat}(h:l.Nodup)(n:x∉l):(l++[x]).Nodup:=List.nodup_append.mpr ⟨h,List.nodup_cons.mpr ⟨aj,.nil⟩,λa ha b hb e=>n (ag.mp hb▸e▸ha)⟩
structure XD(P:jP)(S:St)(D:DS)(k:Nat)(N:ND):Prop where
 s:pA S (uN P S k N)
 dd:(uN P S k N).D=some (qX D (newOf D (n7 N)))
 at_:(uN P S k N).nd k=some (QF N (u2 P S k N))
 old:∀j M,j≠k→S.nd j=some M→(uN P S k N).nd j=some (wI k (u2 P S k N) j M)
 new:∀j,j∈newOf D (n7 N)→(uN P S k N).nd j=some (addW k (Am (P.iv j) N.nX j))
 bwd:∀j M',j≠k→(uN P S k N).nd j=some M'→(j∈newOf D (n7 N)∧M'=addW k (Am (P.iv j) N.nX j))∨∃M,S.nd j=some M∧M'=wI k (u2 P S k N) j M
 wt:∀j∈u2 P S k N,j∈n7 N
 wn:∀j∈newOf D (n7 N),j∈u2 P S k N
 wo:∀j M,j≠k→S.nd j=some M→(j∈u2 P S k N↔j∈n7 N∧P5 M.st=true)
theorem Sx(W:DW P S D)(Zk:(n7 N).Nodup)(hk:k∈D.nodes)(YF:k∉n7 N):XD P S D k N:=by
 have A:Nz P N.nX (n7 N) (S.ia k (lY N)) D (Il P S k N):=mO N.nX (n7 N) (S.ia k (lY N)) D W.at_ Zk
 have wd:(u2 P S k N).Nodup:=Zk.filter _
 have K:=uI k (u2 P S k N) (Il P S k N)
 have s1:pA S (S.ia k (lY N)):=⟨rfl,rfl,rfl,rfl,rfl⟩
 have s2:pA (Il P S k N) (uN P S k N):=⟨K.b,K.pp,K.vv,K.tk,K.bb⟩
 have nk:∀j∈newOf D (n7 N),j≠k:=λj q e=>YF (e▸(jU.mp q).1)
 have on:∀j M,S.nd j=some M→j∉newOf D (n7 N):=λj M e q=>(jU.mp q).2 ((W.nd j).mpr ⟨M,e⟩)
 have e2:∀j,j≠k→(Il P S k N).nd j=if j∈newOf D (n7 N)then some (Am (P.iv j) N.nX j)else S.nd j:=λj hj=>(A.nd j).trans (by rw[show(S.ia k (lY N)).nd j=S.nd j from gD _ _ hj])
 have e3:∀j,j≠k→(uN P S k N).nd j=((Il P S k N).nd j).map (wI k (u2 P S k N) j):=λj hj=>(gD _ _ hj).trans (zW k j wd)
 have o2:∀j M,j≠k→S.nd j=some M→(Il P S k N).nd j=some M:=λj M hj e=>(e2 j hj).trans ((if_neg (on j M e)).trans e)
 have wn:∀j∈newOf D (n7 N),j∈u2 P S k N:=λj q=>List.mem_filter.mpr ⟨(jU.mp q).1,zJ ((e2 j (nk j q)).trans (if_pos q))⟩
 have new:∀j,j∈newOf D (n7 N)→(uN P S k N).nd j=some (addW k (Am (P.iv j) N.nX j)):=λj q=>(e3 j (nk j q)).trans ((congrArg (bh _) ((e2 j (nk j q)).trans (if_pos q))).trans (congrArg some (BM (wn j q))))
 refine⟨(s1.trans A.s).trans s2,K.D.trans A.dd,St.kH,λj M hj e=>(e3 j hj).trans (congrArg (bh _) (o2 j M hj e)),new,λj M' hj e=>?_,λj q=>(List.mem_filter.mp q).1,wn,λj M hj e=>List.mem_filter.trans (and_congr_right λZ=>by rw[zJ (o2 j M hj e)])⟩
 by_cases q:j∈newOf D (n7 N)
 ·exact .inl ⟨q,(Option.some.inj ((new j q).symm.trans e)).symm⟩
 ·cases h:S.nd j with
  |none=>rw[e3 j hj,e2 j hj,if_neg q,h]at e;exact nn e
  |some M=>exact .inr ⟨M,rfl,(Option.some.inj (((e3 j hj).trans (congrArg (bh _) (o2 j M hj h))).symm.trans e)).symm⟩
theorem Mc(h:j∈n7 N):N.m8=0:=cF λv=>absurd h (by unfold n7;rw[if_neg v];exact aj)
theorem xi(h:j∈n7 N):j∈N.iv:=by unfold n7 at h;rw[if_pos (Mc h)]at h;exact h
theorem Ri(v:N.m8=0):n7 N=N.iv:=if_pos v
theorem Qj(v:N.m8≠0):n7 N=[]:=if_neg v
theorem kB.yF(K:POk P)(hI:NI P S k N)(hj:j∈n7 N):j<P.n∧j∉N.nX:=
 have d:=K.dep k hI.kn j (hI.iv▸xi hj)
 ⟨d.1,λq=>a7 _ (ae d.2 (hI.al j q).2)⟩
theorem kB.uX(K:POk P)(hI:NI P S k N):(n7 N).Nodup:=by
 by_cases v:N.m8=0
 ·rw[Ri v,hI.iv];exact K.dnd k hI.kn
 ·rw[Qj v];exact .nil
structure U9(P:jP)(S:St)(D:DS)(k:Nat)(N:ND):Prop where
 E:XD P S D k N
 ni:∀j M,(uN P S k N).nd j=some M→NI P (uN P S k N) j M
 dn:∀j,Dn (uN P S k N) j↔Dn S j
section
variable(K:POk P)(I:kB P C ch S D)(hN:S.nd k=some N)(hp:N.ph=0)(hw:N.wr=[])(E:XD P S D k N)
include I hN hw E
theorem HT(hM:S.nd j=some M){x:Nat}(hx:x∈M.wm):∃M',(uN P S k N).nd x=some M'∧M'.m8≠0∧(M.st=.none→j∈M'.wr):=((I.ni j M hM).GK x hx).2.2.elim λM' w=>(aK (x=k)).elim (λe=>by
  have e1:=Option.some.inj (hN.symm.trans (e▸w.1))
  exact⟨_,(congrArg (uN P S k N).nd e).trans E.at_,bF _,λz=>absurd (w.2.2 z) (by rw[←e1,hw];exact aj)⟩) λe=>
 have f:=AS k (u2 P S k N) x M'
 ⟨_,E.old x M' e w.1,f.m8▸w.2.1,λz=>f.wr▸w.2.2 z⟩
include K hp
theorem U8:NI P (uN P S k N) k (QF N (u2 P S k N)):=by
 have hI:=I.ni k N hN
 refine⟨hI.iv,hI.kn,hI.ka,hI.an,hI.al,hI.st,hI.Lj,λx hx=>⟨(hI.GK x hx).1,(hI.GK x hx).2.1,HT I hN hw E hN hx⟩,λe=>absurd e (bF _),λZ i hi=>?_,(kB.uX K hI).filter _,λi hi=>hI.iv▸xi (E.wt i hi),?_⟩
 ·have ik:i≠k:=λe=>a7 _ (e▸(K.dep k hI.kn i hi).2)
  by_cases v:N.m8=0
  ·have ht:i∈n7 N:=by rw[Ri v,hI.iv];exact hi
   by_cases q:i∈newOf D (n7 N)
   ·exact⟨_,E.new i q,⟨λZ=>rfl,λZ=>E.wn i q⟩,λZ=>List.mem_append.mpr (.inr (.head _))⟩
   ·refine((I.W.nd i).mp (cF λz=>q (jU.mpr ⟨ht,z⟩))).elim λM eM=>?_
    have f:=AS k (u2 P S k N) i M
    have mw:i∈u2 P S k N↔M.st=.none:=(E.wo i M ik eM).trans ((and_iff_right ht).trans (OP (I.ni i M eM).st))
    exact⟨_,E.old i M ik eM,f.st.symm▸mw,λz=>by rw[BM (mw.mpr (f.st▸z))];exact List.mem_append.mpr (.inr (.head _))⟩
  ·refine(hI.ex v i hi).elim λM w=>?_
   have f:=AS k (u2 P S k N) i M
   have w0:u2 P S k N=[]:=by unfold u2;rw[Qj v];rfl
   exact⟨_,E.old i M ik w.1,f.st.symm▸(by rw[show(QF N (u2 P S k N)).wr=N.wr from w0.trans hw.symm];exact w.2.1),λz=>M8 _ (w.2.2 (f.st▸z))⟩
 ·cases z:(u2 P S k N).isEmpty with
  |true=>exact .inr ⟨by unfold QF;rw[z];rfl,bF _,List.isEmpty_iff.mp z⟩
  |false=>exact .inl ⟨by unfold QF;rw[z];exact hp,T6 hI.ph hp⟩
theorem Qa(q:j∈newOf D (n7 N)):NI P (uN P S k N) j (addW k (Am (P.iv j) N.nX j)):=by
 have hI:=I.ni k N hN
 have d:=kB.yF K hI (jU.mp q).1
 have rk:=(K.dep k hI.kn j (hI.iv▸xi (jU.mp q).1)).2
 exact⟨rfl,d.1,List.mem_append.mpr (.inr (.head _)),oN hI.an d.2,λa ha=>(List.mem_append.mp ha).elim (λha=>⟨(hI.al a ha).1,ab (aY rk) (hI.al a ha).2⟩) λha=>by rw[ag.mp ha];exact⟨d.1,aL _⟩,.inl rfl,List.nodup_cons.mpr ⟨aj,.nil⟩,
  λx hx=>by rw[ag.mp hx];exact⟨hI.kn,λe=>d.2 (e▸hI.ka),_,E.at_,bF _,λZ=>E.wn j q⟩,λZ=>rfl,λe=>absurd rfl e,.nil,λZ m=>absurd m aj,.inl ⟨rfl,rfl⟩⟩
theorem PB(jk:j≠k)(eM:S.nd j=some M):NI P (uN P S k N) j (wI k (u2 P S k N) j M):=by
 have hI:=I.ni k N hN
 have J:=I.ni j M eM
 have f:=AS k (u2 P S k N) j M
 refine⟨f.iv.trans J.iv,J.kn,f.nX▸J.ka,f.nX▸J.an,f.nX▸J.al,f.st▸J.st,?_,λx hx=>?_,f.m8▸f.wr▸J.un,λhv i hi=>?_,f.wr▸J.TQ,f.wr▸J.S8,by rw[f.ph,f.st,f.m8,f.wr];exact J.ph⟩
 ·by_cases z:j∈u2 P S k N
  ·rw[BM z]
   exact oN J.Lj λha=>(J.GK k ha).2.2.elim λM' w=>w.2.1 ((Option.some.inj (hN.symm.trans w.1))▸Mc (E.wt j z))
  ·rw[Df z];exact J.Lj
 ·rw[f.st]
  exact(SK hx).elim (λhx=>⟨(J.GK x hx).1,(J.GK x hx).2.1,HT I hN hw E eM hx⟩) λe=>by rw[e.1];exact⟨hI.kn,Ne.symm jk,_,E.at_,bF _,λZ=>e.2⟩
 ·refine(J.ex (f.m8▸hv) i hi).elim λM₁ w=>?_
  rw[f.wr]
  by_cases ik:i=k
  ·have e1:=Option.some.inj (hN.symm.trans (ik▸w.1))
   subst e1
   exact⟨_,(congrArg (uN P S k N).nd ik).trans E.at_,w.2.1,w.2.2⟩
  ·have g:=AS k (u2 P S k N) i M₁
   exact⟨_,E.old i M₁ ik w.1,g.st.symm▸w.2.1,λz=>M8 _ (w.2.2 (g.st▸z))⟩
end
end
mutual
theorem kB.expand(K:POk P)(I:kB P C ch S D)(hN:S.nd k=some N)(hp:N.ph=0)(hw:N.wr=[]):U9 P S D k N:=by
 have hI:=I.ni k N hN
 have YF:k∉n7 N:=λq=>(kB.yF K hI q).2 hI.ka
 have ZP:=T6 hI.ph hp
 have E:=Sx I.W (kB.uX K hI) ((I.W.nd k).mpr ⟨N,hN⟩) YF
 refine⟨E,λj M e=>?_,λj=>?_⟩
 ·by_cases jk:j=k
  ·subst jk
   exact Option.some.inj (E.at_.symm.trans e)▸U8 K I hN hp hw E
  ·exact(E.bwd j M jk e).elim (λq=>q.2▸Qa K I hN hp hw E q.1) λq=>q.elim λM₁ q=>q.2▸PB K I hN hp hw E jk q.1
 ·by_cases jk:j=k
  ·subst jk
   exact⟨λh=>h.elim λM w=>absurd ((Option.some.inj (E.at_.symm.trans w.1))▸ZP) w.2,λh=>h.elim λM w=>absurd ((Option.some.inj (hN.symm.trans w.1))▸ZP) w.2⟩
  ·exact⟨λh=>h.elim λM w=>(E.bwd j M jk w.1).elim (λq=>absurd (q.2▸rfl) w.2) λq=>q.elim λM₁ q=>⟨M₁,q.1,(AS k _ j M₁).st▸q.2▸w.2⟩,λh=>h.elim λM w=>⟨_,E.old j M jk w.1,(AS k _ j M).st.symm▸w.2⟩⟩
end
end
mutual
section
variable{P:jP}{C:Nat→Prop}{ch:List Nat}{S:St}{D:DS}{k j:Nat}{N M:ND}
theorem NI.same{S':St}(h:NI P S k N)(e:S'.nd=S.nd):NI P S' k N:=
 ⟨h.iv,h.kn,h.ka,h.an,h.al,h.st,h.Lj,λx hx=>e▸h.GK x hx,h.un,λv j hj=>e▸h.ex v j hj,h.TQ,h.S8,h.ph⟩
theorem k9{l m:List Nat}{p:Nat→Prop}(h1:∀x∈l,p x)(h2:∀x∈m,p x):∀x∈l++m,p x:=λx hx=>(List.mem_append.mp hx).elim (h1 x) (h2 x)
theorem oi{k:Nat}{p:Nat→Prop}(h:p k):∀x∈[k],p x:=λx hx=>(ag.mp hx).symm▸h
theorem kB.rdn(I:kB P C ch S D):∀x∈D.ready,x∈D.nodes:=λx hx=>(I.rd x hx).2.2.elim λM w=>(I.W.nd x).mpr ⟨M,w.1⟩
theorem kB.wtn(I:kB P C ch S D):∀x∈D.waiting,x∈D.nodes:=λx hx=>(I.wt x hx).2.elim λM w=>(I.W.nd x).mpr ⟨M,w.1⟩
def OR(D:DS)(N:ND):DS:=qX D (newOf D (n7 N))
def Yl(k:Nat)(D:DS):DS:={D with waiting:=D.waiting++[k],cur:=none}
def Vk(o:Option Nat)(D:DS):DS:={D with cur:=o}
structure Zp(P:jP)(C:Nat→Prop)(ch:List Nat)(S:St)(D:DS)(k:Nat)(N:ND):Prop where
 E:U9 P S D k N
 len:(OR D N).nodes.length+D.ready.length=D.nodes.length+(OR D N).ready.length
 le:(OR D N).nodes.length≤P.n
 kw:k∉D.waiting
 nil:u2 P S k N=[]→kB P C ch (uN P S k N) (OR D N)
 cons:u2 P S k N≠[]→kB P C ch ((uN P S k N).jq (Yl k (OR D N))) (Yl k (OR D N))
theorem kB.P6(K:POk P)(I:kB P C ch S D)(hC:∀k,C k→∀j∈P.iv k,C j)(hc:D.cur=some k)(hN:S.nd k=some N)(hp:N.ph=0)(hw:N.wr=[]):Zp P C ch S D k N:=by
 have hI:=I.ni k N hN
 have Rv:k∈D.nodes:=(I.W.nd k).mpr ⟨N,hN⟩
 have X:=I.expand K hN hp hw
 have E:=X.E
 have ck:∀{x},x≠k→D.cur≠some x:=λ{x} h e=>h (Option.some.inj (hc.symm.trans e)).symm
 have kc:∀{x},D.cur≠some x→x≠k:=λ{x} h e=>h (e▸hc)
 have nnl:(newOf D (n7 N)).Nodup:=(kB.uX K hI).filter _
 have Zo:∀j∈newOf D (n7 N),j<P.n:=λj q=>(kB.yF K hI (jU.mp q).1).1
 have Xm:∀j∈newOf D (n7 N),j∉D.nodes:=λj q=>(jU.mp q).2
 have nk:∀j∈newOf D (n7 N),j≠k:=λj q e=>Xm j q (e▸Rv)
 have kw:k∉D.waiting:=λq=>(I.wt k q).1 hc
 have zd:(D.nodes++newOf D (n7 N)).Nodup:=List.nodup_append.mpr ⟨I.W.nodup,nnl,λa ha b hb e=>Xm b hb (e▸ha)⟩
 have zw:∀j∈D.nodes++newOf D (n7 N),j<P.n:=k9 I.W.lt Zo
 have fwd:∀x M,x≠k→S.nd x=some M→∃M',(uN P S k N).nd x=some M'∧W4 M' M:=λx M xk e=>⟨_,E.old x M xk e,AS k _ x M⟩
 have KR:∀j,j∈D.nodes++newOf D (n7 N)↔∃M,(uN P S k N).nd j=some M:=λj=>List.mem_append.trans (by
  by_cases jk:j=k
  ·rw[jk];exact⟨λZ=>⟨_,E.at_⟩,λZ=>.inl Rv⟩
  ·exact⟨λq=>q.elim (λq=>((I.W.nd j).mp q).elim λM e=>⟨_,E.old j M jk e⟩) λq=>⟨_,E.new j q⟩,λq=>q.elim λM' e=>(E.bwd j M' jk e).elim (λq=>.inr q.1) λq=>q.elim λM q=>.inl ((I.W.nd j).mpr ⟨M,q.1⟩)⟩)
 have X6:(D.ready++newOf D (n7 N)).Nodup:=List.nodup_append.mpr ⟨I.rn,nnl,λa ha b hb e=>Xm b hb (e▸I.rdn a ha)⟩
 have J6:(D.ready++newOf D (n7 N)).length≤90000:=ab (i4 X6 (k9 (λx hx=>I.W.lt x (I.rdn x hx)) Zo)) (ab K.n6 (by decide))
 have ZU:∀x∈D.ready++newOf D (n7 N),x∉D.waiting∧x≠k∧∃M,(uN P S k N).nd x=some M∧M.ph=0∧M.wr=[]:=k9 (λx q=>have w:=I.rd x q;⟨w.1,kc w.2.1,w.2.2.elim λM e=>(fwd x M (kc w.2.1) e.1).elim λM' f=>⟨M',f.1,f.2.ph.trans e.2.1,f.2.wr.trans e.2.2⟩⟩) λx q=>⟨λz=>Xm x q (I.wtn x z),nk x q,_,E.new x q,rfl,rfl⟩
 have ZT:∀x∈D.waiting,x≠k∧∃M,(uN P S k N).nd x=some M∧M.ph=0∧M.m8≠0∧M.wr≠[]:=λx hx=>have w:=I.wt x hx;⟨kc w.1,w.2.elim λM e=>(fwd x M (kc w.1) e.1).elim λM' f=>⟨M',f.1,f.2.ph.trans e.2.1,f.2.m8▸e.2.2.1,f.2.wr▸e.2.2.2⟩⟩
 have WH:∀x,x≠k→∀M,(uN P S k N).nd x=some M→M.ph=0→x∈D.ready++newOf D (n7 N)∨x∈D.waiting:=λx xk M' e W5=>(E.bwd x M' xk e).elim (λq=>.inl (List.mem_append.mpr (.inr q.1))) λq=>q.elim λM q=>(I.Ql x M q.1 ((q.2▸AS k _ x M:W4 M' M).ph▸W5)).imp (λq=>List.mem_append.mpr (.inl q)) λq=>q.elim id λq=>absurd q (ck xk)
 have Z6:∀x,x≠k→∀M,(uN P S k N).nd x=some M→M.ph=1→M.st=.none→False:=λx xk M' e W5 Ia=>(E.bwd x M' xk e).elim (λq=>absurd (show(addW k (Am (P.iv x) N.nX x)).ph=1 from q.2▸W5) (by show(0:Int)≠1;decide)) λq=>q.elim λM q=>have f:W4 M' M:=q.2▸AS k _ x M;ck xk (I.op x M q.1 (f.ph▸W5) (f.st▸Ia))
 have Zr:∀x∈D.nodes++newOf D (n7 N),C x:=k9 I.cn λx q=>hC k (I.cn k Rv) x (hI.iv▸xi (jU.mp q).1)
 have VZ:∀x∈ch,x∈D.todo∨x∈D.nodes++newOf D (n7 N):=λx hx=>(I.RP x hx).imp id λq=>List.mem_append.mpr (.inl q)
 refine⟨X,?_,i4 zd zw,kw,λw0=>?_,λw0=>?_⟩
 ·show(D.nodes++newOf D (n7 N)).length+_=_+(D.ready++newOf D (n7 N)).length
  rw[ax,ax,b0,bR (newOf D (n7 N)).length]
 ·exact⟨⟨E.dd,zw,zd,KR,J6,I.W.wl,I.W.Hr⟩,X.ni,X6,λx hx=>have w:=ZU x hx;⟨w.1,ck w.2.1,w.2.2⟩,I.wn,λx hx=>have w:=ZT x hx;⟨ck w.1,w.2⟩,
   λx M e h=>(aK (x=k)).elim (λxk=>.inr (.inr (xk▸hc))) λxk=>(WH x xk M e h).imp id .inl,λx hx=>⟨_,(congrArg (uN P S k N).nd (Option.some.inj (hx.symm.trans hc))).trans E.at_,w0⟩,
   λx M e h1 h2=>(aK (x=k)).elim (λxk=>xk▸hc) λxk=>(Z6 x xk M e h1 h2).elim,I.todo,VZ,Zr⟩
 ·have e0:(QF N (u2 P S k N)).ph=0:=(if_neg λz=>w0 (List.isEmpty_iff.mp z)).trans hp
  exact⟨⟨rfl,zw,zd,KR,J6,ab (ay ax) (ab (aX (ab (i4 I.wn I.W.Hr) K.n6) 1) (by decide)),k9 I.W.Hr (oi hI.kn)⟩,λj M e=>(X.ni j M e).same rfl,X6,
   λx hx=>have w:=ZU x hx;⟨λq=>(List.mem_append.mp q).elim w.1 λq=>w.2.1 (ag.mp q),(λq=>nn q),w.2.2⟩,oN I.wn kw,
   λx hx=>⟨(λq=>nn q),k9 (λx q=>(ZT x q).2) (oi ⟨_,E.at_,e0,bF _,w0⟩) x hx⟩,
   λx M e h=>(aK (x=k)).elim (λxk=>.inr (.inl (List.mem_append.mpr (.inr (xk▸.head _))))) λxk=>(WH x xk M e h).imp id λq=>.inl (List.mem_append.mpr (.inl q)),λx hx=>nn hx,
   λx M e h1 h2=>(aK (x=k)).elim (λxk=>absurd (e0.symm.trans ((congrArg ND.ph (Option.some.inj (E.at_.symm.trans ((congrArg (uN P S k N).nd xk).symm.trans e)))).trans h1)) (by decide)) λxk=>(Z6 x xk M e h1 h2).elim,I.todo,VZ,Zr⟩
theorem kB.drop(I:kB P C ch S D)(hc:∀k,D.cur=some k→∃N,S.nd k=some N∧N.ph=1∧N.st≠.none):kB P C ch (S.jq (Vk none D)) (Vk none D):=
 ⟨⟨rfl,I.W.lt,I.W.nodup,I.W.nd,I.W.rl,I.W.wl,I.W.Hr⟩,λk N e=>(I.ni k N e).same rfl,I.rn,λk hk=>⟨(I.rd k hk).1,(λq=>nn q),(I.rd k hk).2.2⟩,I.wn,λk hk=>⟨(λq=>nn q),(I.wt k hk).2⟩,
  λk N e h=>(I.Ql k N e h).imp id λq=>.inl (q.elim id λq=>(hc k q).elim λM w=>absurd ((congrArg ND.ph (Option.some.inj (e.symm.trans w.1))).symm.trans h) (by rw[w.2.1];decide)),λk hk=>nn hk,
  λk N e h1 h2=>(hc k (I.op k N e h1 h2)).elim λM w=>absurd ((congrArg ND.st (Option.some.inj (e.symm.trans w.1))).symm.trans h2) w.2.2,I.todo,I.RP,I.cn⟩
def Vw(r:Nat)(l:List Nat)(D:DS):DS:={D with ready:=l,cur:=some r}
theorem kB.Vs(I:kB P C ch S D)(hc:D.cur=none){r:Nat}{l:List Nat}(hr:D.ready=r::l):∃N,S.nd r=some N∧N.ph=0∧N.wr=[]∧kB P C ch (S.jq (Vw r l D)) (Vw r l D):=
 have rl:∀x∈l,x∈D.ready:=λx hx=>hr▸.tail _ hx
 have R:=I.rd r (hr▸.head _)
 have rn:=List.nodup_cons.mp (hr▸I.rn)
 R.2.2.elim λN w=>⟨N,w.1,w.2.1,w.2.2,⟨rfl,I.W.lt,I.W.nodup,I.W.nd,ab (aT _) (ab (ay (congrArg cg hr).symm) I.W.rl),I.W.wl,I.W.Hr⟩,λk N e=>(I.ni k N e).same rfl,rn.2,
  λk hk=>have z:=I.rd k (rl k hk);⟨z.1,λq=>rn.1 (Option.some.inj q▸hk),z.2.2⟩,I.wn,λk hk=>⟨λq=>R.1 (Option.some.inj q▸hk),(I.wt k hk).2⟩,
  λk N e h=>(I.Ql k N e h).elim (λq=>(List.mem_cons.mp (hr▸q)).elim (λq=>.inr (.inr (congrArg some q.symm))) .inl) λq=>.inr (q.imp id λq=>nn (hc.symm.trans q)),λk hk=>Option.some.inj hk▸⟨N,w.1,w.2.2⟩,
  λk N e h1 h2=>nn (hc.symm.trans (I.op k N e h1 h2)),I.todo,I.RP,I.cn⟩
def toN(k:Nat)(l:List Nat)(D:DS):DS:={D with nodes:=D.nodes++[k],todo:=l,cur:=some k}
theorem kB.Wm(I:kB P C ch S D)(hc:D.cur=none)(hr:D.ready=[]){l post:List Nat}(ht:D.todo=l++k::post)(hp:∀x∈post,x∈D.nodes)(hk:k∉D.nodes):
  kB P C ch ((S.ia k (Am (P.iv k) [] k)).jq (toN k l D)) (toN k l D):=by
 have kn:=I.todo k (ht▸List.mem_append.mpr (.inr (.head _)))
 have sk:=I.W.new hk
 have nk:∀{j M},S.nd j=some M→j≠k:=λ{j M} e q=>ir e (q▸sk)
 have lift:∀{j M},S.nd j=some M→((S.ia k (Am (P.iv k) [] k)).jq (toN k l D)).nd j=some M:=λ{j M} e=>(gD _ _ (nk e)).trans e
 have Z4:((S.ia k (Am (P.iv k) [] k)).jq (toN k l D)).nd k=some (Am (P.iv k) [] k):=fW _ _ _
 have bwd:∀{j M},((S.ia k (Am (P.iv k) [] k)).jq (toN k l D)).nd j=some M→(j=k∧M=Am (P.iv k) [] k)∨S.nd j=some M:=λ{j M} e=>(kJ S.nd k (some (Am (P.iv k) [] k)) j).imp (λu=>⟨u.1,Option.some.inj (e.symm.trans u.2)⟩) λu=>u.2.symm.trans e
 refine⟨⟨rfl,k9 I.W.lt (oi kn.1),oN I.W.nodup hk,λj=>List.mem_append.trans ⟨λq=>q.elim (λq=>((I.W.nd j).mp q).elim λM e=>⟨M,lift e⟩) (λq=>by rw[ag.mp q];exact⟨_,Z4⟩),λq=>q.elim λM e=>(bwd e).elim (λq=>.inr (by rw[q.1];exact .head _)) λe=>.inl ((I.W.nd j).mpr ⟨M,e⟩)⟩,I.W.rl,I.W.wl,I.W.Hr⟩,
  λj M e=>(bwd e).elim (λq=>?_) λe=>have J:=I.ni j M e;⟨J.iv,J.kn,J.ka,J.an,J.al,J.st,J.Lj,λx hx=>have w:=J.GK x hx;⟨w.1,w.2.1,w.2.2.elim λM' z=>⟨M',lift z.1,z.2⟩⟩,J.un,λh i hi=>(J.ex h i hi).elim λM' z=>⟨M',lift z.1,z.2⟩,J.TQ,J.S8,J.ph⟩,
  I.rn,λj hj=>absurd (hr▸hj:j∈[]) aj,I.wn,λj hj=>(I.wt j hj).2.elim λM w=>⟨λq=>nk w.1 (Option.some.inj q).symm,M,lift w.1,w.2⟩,
  λj M e h=>(bwd e).elim (λq=>.inr (.inr (congrArg some q.1.symm))) λe=>(I.Ql j M e h).imp id λq=>q.imp id λq=>nn (hc.symm.trans q),λj hj=>Option.some.inj hj▸⟨_,Z4,rfl⟩,
  λj M e h1 h2=>(bwd e).elim (λq=>congrArg some q.1.symm) λe=>nn (hc.symm.trans (I.op j M e h1 h2)),λx hx=>I.todo x (ht▸List.mem_append.mpr (.inl hx)),λx hx=>(I.RP x hx).elim (λq=>(List.mem_append.mp (ht▸q)).imp id λq=>List.mem_append.mpr ((List.mem_cons.mp q).elim (λe=>.inr (ag.mpr e)) λq=>.inl (hp x q))) λq=>.inr (List.mem_append.mpr (.inl q)),
  k9 I.cn (oi kn.2)⟩
 rw[q.1,q.2]
 exact⟨rfl,kn.1,.head _,List.nodup_cons.mpr ⟨aj,.nil⟩,oi ⟨kn.1,aL _⟩,.inl rfl,.nil,λZ m=>absurd m aj,λZ=>rfl,λh=>absurd rfl h,.nil,λZ m=>absurd m aj,.inl ⟨rfl,rfl⟩⟩
structure QV(P:jP)(C:Nat→Prop)(ch:List Nat)(S:St)(D:DS):Prop where
 w:D.waiting=[]
 dn:∀j∈D.nodes,Dn S j
 cn:∀x∈ch,x∈D.nodes
 I:kB P C ch (S.jq (todo D [])) (todo D [])
theorem kB.WA(K:POk P)(I:kB P C ch S D)(hc:D.cur=none)(hr:D.ready=[])(ht:∀x∈D.todo,x∈D.nodes):QV P C ch S D:=by
 have nc:∀x M,S.nd x=some M→M.st=.none→x∈D.waiting:=λx M e sn=>(I.ni x M e).ph.elim (λz=>(I.Ql x M e z.1).elim (λq=>absurd (hr▸q:x∈[]) aj) λq=>q.elim id λq=>nn (hc.symm.trans q)) λz=>nn (hc.symm.trans (I.op x M e z.1 sn))
 have main:∀m x,P.rank x<m→x∉D.waiting:=λm=>m.rec (λx h=>absurd h (bt _)) λm ih x hx hw=>(I.wt x hw).2.elim λN w=>(List.exists_mem_of_ne_nil _ w.2.2.2).elim λj hj=>
  have hd:=(I.ni x N w.1).S8 j hj
  ((I.ni x N w.1).ex w.2.2.1 j hd).elim λM q=>ih j (ae (K.dep x (I.ni x N w.1).kn j hd).2 (bH hx)) (nc j M q.1 (q.2.1.mp hj))
 have w0:D.waiting=[]:=List.eq_nil_iff_forall_not_mem.mpr λx=>main _ x (ak _)
 exact⟨w0,λj hj=>((I.W.nd j).mp hj).elim λM e=>⟨M,e,λsn=>absurd (w0▸nc j M e sn:j∈[]) aj⟩,λx hx=>(I.RP x hx).elim (ht x) id,⟨rfl,I.W.lt,I.W.nodup,I.W.nd,I.W.rl,I.W.wl,I.W.Hr⟩,λk N e=>(I.ni k N e).same rfl,I.rn,I.rd,I.wn,I.wt,I.Ql,I.cur,I.op,λx hx=>absurd hx aj,λx hx=>.inr ((I.RP x hx).elim (ht x) id),I.cn⟩
end
end
mutual
section
variable{P:jP}{C:Nat→Prop}{ch:List Nat}{S S₂:St}{D:DS}{c j k:Nat}{N M M':ND}{s:V}
def stN(s:V)(N:ND):ND:={N with st:=s}
def NY(c:Nat)(N:ND)(S:St):St:=N.wm.foldl (vZ c) S
def upD(c:Nat)(N:ND)(S:St)(D:DS):DS:=Kg D (N.wm.filter (emp c S))
structure WQ(M' M:ND):Prop where
 ph:M'.ph=M.ph
 m8:M'.m8=M.m8
 st:M'.st=M.st
 iv:M'.iv=M.iv
 nX:M'.nX=M.nX
 wm:M'.wm=M.wm
def eI(c:Nat)(l:List Nat)(j:Nat)(M:ND):ND:=if j∈l then Kj c M else M
theorem Az{l:List Nat}(h:j∈l):eI c l j M=Kj c M:=if_pos h
theorem xu{l:List Nat}(h:j∉l):eI c l j M=M:=if_neg h
theorem xE(c:Nat)(l:List Nat)(j:Nat)(M:ND):WQ (eI c l j M) M:=by
 by_cases h:j∈l
 ·rw[Az h];exact⟨rfl,rfl,rfl,rfl,rfl,rfl⟩
 ·rw[xu h];exact⟨rfl,rfl,rfl,rfl,rfl,rfl⟩
theorem Q4(l:List Nat){y:Nat}(hy:y≠c):y∈(eI c l j M).wr↔y∈M.wr:=by
 by_cases h:j∈l
 ·rw[Az h];exact d6 hy
 ·rw[xu h]
theorem M7{l:List Nat}{y:Nat}(h:y∈(eI c l j M).wr):y∈M.wr:=by
 by_cases q:j∈l
 ·rw[Az q]at h;exact List.mem_of_mem_erase h
 ·rw[xu q]at h;exact h
theorem FT(l:List Nat)(h:M.wr=[]):(eI c l j M).wr=[]:=List.eq_nil_iff_forall_not_mem.mpr λy m=>absurd (h▸M7 m:y∈[]) aj
structure YM(P:jP)(C:Nat→Prop)(ch:List Nat)(S S₂:St)(D:DS)(c:Nat)(N:ND)(s:V):Prop where
 W:DW P S₂ D
 w:∀x∈N.wm,∃M,Wt P S₂ D c x M
 u:Upd c N.wm S₂ D (NY c N S₂)
 I:kB P C ch (NY c N S₂) (upD c N S₂ D)
 at_:(NY c N S₂).nd c=some (stN s N)
 dn:∀j,Dn (NY c N S₂) j↔Dn S j∨j=c
structure Zy(S S':St)(c:Nat)(N:ND)(s:V):Prop where
 at_:S'.nd c=some (stN s N)
 fwd:∀j M,j≠c→S.nd j=some M→S'.nd j=some (eI c N.wm j M)
 bwd:∀j M',j≠c→S'.nd j=some M'→∃M,S.nd j=some M∧M'=eI c N.wm j M
theorem SU(K:POk P)(Z8:∀k N,S.nd k=some N→NI P S k N){S':St}(hN:S.nd c=some N)(hp:N.ph=1)(Ia:N.st=.none)(hs:wJ s)(U:Zy S S' c N s)(e:S'.nd j=some M'):NI P S' j M':=by
 have hI:=Z8 c N hN
 have Eu:=FA hs
 by_cases jc:j=c
 ·have e1:=Option.some.inj (e.symm.trans ((congrArg S'.nd jc).trans U.at_))
  rw[e1,jc]
  exact⟨hI.iv,hI.kn,hI.ka,hI.an,hI.al,.inr hs,hI.Lj,λx hx=>have w:=hI.GK x hx;⟨w.1,w.2.1,w.2.2.elim λM z=>⟨_,U.fwd x M w.2.1 z.1,(xE c N.wm x M).m8.symm▸z.2.1,λz=>absurd z Eu⟩⟩,hI.un,
   λh i hi=>(hI.ex h i hi).elim λM z=>have f:=xE c N.wm i M;⟨_,U.fwd i M (λe=>a7 _ (e▸(K.dep c hI.kn i hi).2)) z.1,f.st.symm▸z.2.1,f.st.symm▸f.wm.symm▸z.2.2⟩,hI.TQ,hI.S8,.inr ⟨hp,TF hI.ph hp⟩⟩
 ·refine(U.bwd j M' jc e).elim λM w=>?_
  have J:=Z8 j M w.1
  have f:=xE c N.wm j M
  rw[w.2]
  refine⟨f.iv.trans J.iv,J.kn,f.nX.symm▸J.ka,f.nX.symm▸J.an,f.nX.symm▸J.al,f.st.symm▸J.st,f.wm.symm▸J.Lj,λx hx=>?_,λh=>FT _ (J.un (f.m8▸h)),λh i hi=>?_,?_,λy hy=>J.S8 y (M7 hy),?_⟩
  ·have z:=J.GK x (f.wm▸hx)
   refine⟨z.1,z.2.1,z.2.2.elim λM₁ q=>?_⟩
   rw[f.st]
   by_cases xc:x=c
   ·have e1:=Option.some.inj (hN.symm.trans ((congrArg S.nd xc).symm.trans q.1))
    subst e1
    exact⟨_,(congrArg S'.nd xc).trans U.at_,q.2.1,q.2.2⟩
   ·exact⟨_,U.fwd x M₁ xc q.1,(xE c N.wm x M₁).m8.symm▸q.2.1,λz=>(Q4 _ jc).mpr (q.2.2 z)⟩
  ·refine(J.ex (f.m8▸h) i hi).elim λM₁ q=>?_
   by_cases ic:i=c
   ·have e1:=Option.some.inj (hN.symm.trans ((congrArg S.nd ic).symm.trans q.1))
    subst e1
    refine⟨_,(congrArg S'.nd ic).trans U.at_,⟨λz=>?_,λz=>absurd z Eu⟩,λz=>absurd z Eu⟩
    rw[Az (q.2.2 Ia),ic]at z
    exact absurd z λz=>((List.Nodup.mem_erase_iff J.TQ).mp z).1 rfl
   ·have g:=xE c N.wm i M₁
    exact⟨_,U.fwd i M₁ ic q.1,(Q4 _ ic).trans (g.st.symm▸q.2.1),g.st.symm▸g.wm.symm▸q.2.2⟩
  ·by_cases q:j∈N.wm
   ·rw[Az q];exact J.TQ.erase _
   ·rw[xu q];exact J.TQ
  ·rw[f.ph,f.st,f.m8]
   exact J.ph.imp id λq=>⟨q.1,q.2.1,FT _ q.2.2⟩
theorem kB.upd(K:POk P)(I:kB P C ch S D)(hc:D.cur=some c)(hN:S.nd c=some N)(hp:N.ph=1)(Ia:N.st=.none)(hs:wJ s)(G8:S₂.nd=up S.nd c (some (stN s N)))(hD:S₂.D=some D):YM P C ch S S₂ D c N s:=by
 have hI:=I.ni c N hN
 have Eu:=FA hs
 have nc:S₂.nd c=some (stN s N):=G8▸fW _ _ _
 have nj:∀{j},j≠c→S₂.nd j=S.nd j:=λ{j} h=>G8▸gD _ _ h
 have cc:∀{x},x≠c→D.cur≠some x:=λ{x} h e=>h (Option.some.inj (hc.symm.trans e)).symm
 have kc:∀{x},D.cur≠some x→x≠c:=λ{x} h e=>h (e▸hc)
 have wait:∀x∈N.wm,∃M,Wt P S₂ D c x M:=λx hx=>have w:=hI.GK x hx;w.2.2.elim λM z=>
  have J:=I.ni x M z.1
  have cr:=z.2.2 Ia
  ⟨M,w.2.1,w.1,J.ph.elim (λq=>(I.Ql x M z.1 q.1).elim (λy=>(I.rd x y).2.2.elim λM' y=>absurd cr (by rw[Option.some.inj (z.1.symm.trans y.1),y.2.2];exact aj)) λy=>y.elim id λy=>absurd y (cc w.2.1)) λq=>absurd cr (by rw[q.2.2];exact aj),
   (nj w.2.1).trans z.1,cr,λy hy=>ae (K.dep x J.kn y (J.S8 y hy)).1 K.n6⟩
 have W₂:DW P S₂ D:=⟨hD,I.W.lt,I.W.nodup,λj=>(I.W.nd j).trans ((aK (j=c)).elim (λe=>by rw[e];exact⟨λZ=>⟨_,nc⟩,λZ=>⟨_,hN⟩⟩) λe=>by rw[nj e]),I.W.rl,I.W.wl,I.W.Hr⟩
 have u:Upd c N.wm S₂ D (NY c N S₂):=xP c N.wm S₂ D hD hI.Lj λx hx=>(wait x hx).elim λM w=>⟨M,w.at_⟩
 have cw:c∉N.wm:=λq=>(hI.GK c q).2.1 rfl
 have snd:∀j,(NY c N S₂).nd j=(S₂.nd j).map (eI c N.wm j):=u.nd
 have U:Zy S (NY c N S₂) c N s:=⟨(snd c).trans ((congrArg (bh _) nc).trans (congrArg some (xu cw))),λj M h e=>(snd j).trans (congrArg (bh _) ((nj h).trans e)),λj M' h e=>by
  rw[snd,nj h]at e
  cases q:S.nd j with
  |none=>rw[q]at e;exact nn e
  |some M=>rw[q]at e;exact⟨M,rfl,(Option.some.inj e).symm⟩⟩
 have em:∀x M,x≠c→S.nd x=some M→emp c S₂ x=(M.wr.erase c).isEmpty:=λx M h e=>Gw ((nj h).trans e)
 have ZI:∀x∈N.wm.filter (emp c S₂),x∈D.waiting:=λx hx=>(wait x (List.mem_filter.mp hx).1).elim λM w=>w.w
 refine⟨W₂,wait,u,⟨⟨u.dd,I.W.lt,I.W.nodup,λj=>(W₂.nd j).trans (by rw[snd];exact Option.isSome_iff_exists.symm.trans ((by rw[Option.isSome_map]:(S₂.nd j).isSome=true↔_).trans Option.isSome_iff_exists)),ab (ay ax) (ab (bz (ab I.J6 K.n6) (ab (cA _ _) (hI.len K.n6).2)) (by decide)),ab (cA _ _) I.W.wl,λj hj=>I.W.Hr j (List.mem_filter.mp hj).1⟩,
  λj M' e=>SU K I.ni hN hp Ia hs U e,List.nodup_append.mpr ⟨I.rn,hI.Lj.filter _,λa ha b hb e=>(I.rd a ha).1 (e▸ZI b hb)⟩,k9 (λx q=>?_) (λx q=>?_),I.wn.filter _,λx hx=>?_,λx M' e h=>?_,λx hx=>⟨_,(congrArg (NY c N S₂).nd (Option.some.inj (hx.symm.trans hc))).trans U.at_,(TF hI.ph hp).2⟩,λx M' e h1 h2=>?_,I.todo,I.RP,I.cn⟩,U.at_,λj=>?_⟩
 ·have w:=I.rd x q
  exact⟨λz=>w.1 (List.mem_filter.mp z).1,w.2.1,w.2.2.elim λM z=>⟨_,U.fwd x M (kc w.2.1) z.1,(xE c _ x M).ph.trans z.2.1,FT _ z.2.2⟩⟩
 ·have w:=I.wt x (ZI x q)
  have m:=List.mem_filter.mp q
  exact⟨λz=>jL (List.mem_filter.mp z).2 q,w.1,w.2.elim λM z=>⟨_,U.fwd x M (kc w.1) z.1,(xE c _ x M).ph.trans z.2.1,by rw[Az m.1];exact List.isEmpty_iff.mp ((em x M (kc w.1) z.1).symm.trans m.2)⟩⟩
 ·have m:=List.mem_filter.mp hx
  have w:=I.wt x m.1
  refine⟨w.1,w.2.elim λM z=>⟨_,U.fwd x M (kc w.1) z.1,(xE c _ x M).ph.trans z.2.1,(xE c _ x M).m8.symm▸z.2.2.1,?_⟩⟩
  by_cases hw:x∈N.wm
  ·rw[Az hw]
   exactλy=>jL m.2 (List.mem_filter.mpr ⟨hw,(em x M (kc w.1) z.1).trans (List.isEmpty_iff.mpr y)⟩)
  ·rw[xu hw];exact z.2.2.2
 ·have xc:x≠c:=λz=>absurd (h.symm.trans (congrArg ND.ph (Option.some.inj (e.symm.trans ((congrArg (NY c N S₂).nd z).trans U.at_))))) (by show¬(0=N.ph);rw[hp];decide)
  refine(U.bwd x M' xc e).elim λM w=>(I.Ql x M w.1 ((w.2▸xE c _ x M:WQ M' M).ph▸h)).elim (λq=>.inl (List.mem_append.mpr (.inl q))) λq=>q.elim (λq=>?_) λq=>absurd q (cc xc)
  by_cases z:x∈N.wm.filter (emp c S₂)
  ·exact .inl (List.mem_append.mpr (.inr z))
  ·exact .inr (.inl (List.mem_filter.mpr ⟨q,decide_eq_true z⟩))
 ·exact(aK (x=c)).elim (λxc=>xc▸hc) λxc=>(U.bwd x M' xc e).elim λM w=>have f:WQ M' M:=w.2▸xE c _ x M;I.op x M w.1 (f.ph▸h1) (f.st▸h2)
 ·exact(aK (j=c)).elim (λjc=>⟨λZ=>.inr jc,λZ=>⟨_,(congrArg (NY c N S₂).nd jc).trans U.at_,Eu⟩⟩) λjc=>⟨λh=>h.elim λM' w=>(U.bwd j M' jc w.1).elim λM z=>.inl ⟨M,z.1,(z.2▸xE c _ j M:WQ M' M).st▸w.2⟩,λh=>h.elim (λh=>h.elim λM w=>⟨_,U.fwd j M jc w.1,(xE c _ j M).st.symm▸w.2⟩) λh=>absurd h jc⟩
end
end
mutual
section
variable{cx:Cx}{d:Nat}{σ:Hp}{Q:V→Hp→Prop}{n0 n:Nat}{σ0:Hp}
variable{P:jP}{C:Nat→Prop}{ch:List Nat}{S:St}{D:DS}{c k:Nat}{N:ND}
def mu(P:jP)(D:DS):Nat:=(P.n - D.nodes.length)+D.ready.length+D.cur.casesOn 0 λZ=>1
def Dw(S:St)(D:DS):Prop:=∀c,D.cur=some c→∃N,S.nd c=some N∧N.ph=1∧N.st≠.none
def O3(b:Nat)(o:Option Nat):V:=o.casesOn .none λk=>.ref (gC b k)
theorem zC{b:Nat}(hc:D.cur=some k):yf b D .gf=some (.ref (gC b k)):=congrArg (λo=>some (O3 b o)) hc
theorem Fb{b:Nat}(hc:D.cur=none):yf b D .gf=some .none:=congrArg (λo=>some (O3 b o)) hc
theorem RK.setCur(H:RK n0 σ0 S n σ)(hD:S.D=some D)(o:Option Nat):RK n0 σ0 (S.jq (Vk o D)) n (Mine.up σ (.q S.b .fU) (some (.inst .kQ (Mine.up (yf S.b D) .gf (some (O3 S.b o)))))):=
 H.jq (x:=.fU) hD (congrArg (λf=>some (Mine.O.inst .kQ f)) (uo (by exact rfl):Mine.up (yf S.b D) .gf (some (O3 S.b o))=_).symm) λy hy=>uC rfl hy
section
variable{ρ:Loc}{QQ:Fl→Hp→Loc→Prop}
theorem Jq(O:gT cx)(F:gK cx)(H:RK n0 σ0 S n σ)(B:Bd P S)(I:kB P C ch S D)(cd:Dw S D)(hc:D.cur=some c)(p:ρ .fU=some (.ref (.q S.b .fU)))
  (h:∀σ' ρ',RK n0 σ0 (S.jq (Vk none D)) n σ'→ρ' .fU=ρ .fU→QQ .cont σ' ρ'):WS cx (d+1) (Cq::PN) (lk []) ρ σ QQ:=(cd c hc).elim λN w=>(B.tk c (I.ni c N w.1).kn).elim λT hT=>by
 have ds:=H.lQ I.W.at_
 have an:=zC (b:=S.b) hc
 exact fT (gp (qz (gM O rfl (gw O p ⟨_,_,ds,rfl,an⟩ ⟨true,qM (H.node w.1),fY
  (fT (hU rfl (jH O F .jY p ds rfl rfl (fX (gw O p ⟨_,_,ds,rfl,an⟩ (fZ ⟨rfl,C0 O H w.1 hT.1 w.2.1 I.W.at_
   (fT (gp (gv (fV rfl (iu ⟨true,rfl,fT (iM O (iu ⟨_,_,_,p,ds,rfl,fT (C3 (h _ _ (H.setCur I.W.at_ none) rfl))⟩))⟩)))))⟩))))))⟩))))
theorem P2(O:gT cx)(F:gK cx)(K:POk P)(H:RK n0 σ0 S n σ)(B:Bd P S)(I:kB P C ch S D)(hc:D.cur=some k)(hN:S.nd k=some N)(hp:N.ph=0)(hw:N.wr=[])(X:Zp P C ch S D k N)(p:ρ .fU=some (.ref (.q S.b .fU)))
  (h1:∀n' σ' ρ',RK n0 σ0 (uN P S k N) n' σ'→u2 P S k N=[]→QQ (.ret (.ref (gC S.b k))) σ' ρ')
  (h2:∀n' σ' ρ',RK n0 σ0 ((uN P S k N).jq (Yl k (OR D N))) n' σ'→u2 P S k N≠[]→ρ' .fU=ρ .fU→QQ .next σ' ρ'):WS cx (d+5) PN (lk []) ρ σ QQ:=by
 have J:=I.ni k N hN
 have E:=X.E.E
 have tu:Turn P S k N:=⟨hp,hw,ab (J.len K.n6).1 (by decide),λx hx=>ae (J.al x hx).1 K.n6,J.ka,λj hj=>kB.yF K J hj,kB.uX K J,λj M e=>have m:=I.ni j M e;⟨m.ok,ab (m.len K.n6).2 (by decide),λx hx=>ae (m.GK x hx).1 K.n6,λv q=>(m.GK k q).2.2.elim λM' w=>w.2.1 (by rw[Option.some.inj (w.1.symm.trans hN)];exact v)⟩⟩
 refine fT (hU rfl (jH O F .jY p (H.lQ I.W.at_) rfl rfl (fX (gw O p ⟨_,_,H.lQ I.W.at_,rfl,zC hc⟩ (fZ ⟨rfl,Cw O F H B I.W (ab I.J6 (ab K.n6 (by decide))) hN J.kn tu λn₃ σ₃ H₃=>?_⟩)))))
 rw[←E.s.b]at p h1
 have ds:=H₃.lQ E.dd
 have an:yf (uN P S k N).b (OR D N) .gf=some (.ref (gC (uN P S k N).b k)):=zC hc
 cases Z0:u2 P S k N with
 |nil=>exact fT (gp (gv (fV rfl (iu ⟨false,rfl,fY (fT (gp (gv (fV rfl (gY ⟨true,rfl,fT (iA (gw O p ⟨_,_,ds,rfl,an⟩ (h1 _ _ _ H₃ Z0)))⟩)))))⟩))))
 |cons w ws=>
  have Fi:u2 P S k N≠[]:=Z0▸b5 _ _
  have wl6:∀x∈D.waiting,x<6:=λx hx=>ae (I.W.Hr x hx) K.n6
  refine fT (gp (gv (fV rfl (iu ⟨false,rfl,fY (fT (gp (gv (fV rfl (gY ⟨false,congrArg some (show i5 (.str "wait") (.str "task")=false by decide),fY (fT (Iq (gv (fV rfl (gY ⟨true,rfl,rfl,?_⟩)))))⟩)))))⟩))))
  refine((B.same E.s).tk k J.kn).elim λT hT=>?_
  have ht:=H₃.task hT.1
  refine fT (lL (gw O p ⟨_,_,ds,rfl,an⟩ (gw O p ⟨_,_,ds,rfl,rfl⟩ (vO O (vO O (gw O p ⟨_,_,ds,rfl,an⟩ ⟨_,_,rfl,⟨_,_,H₃.node E.at_,rfl,rfl⟩,⟨_,_,rfl,⟨_,_,ht,rfl,rfl⟩,⟨_,H₃.isQ E.dd .jy,by rw[xW];exact ao I.W.wl (by decide),?_⟩⟩⟩))))))
  rw[show putD (p5 (uN P S k N).b (qX D (newOf D (n7 N))).waiting) (tn k) (.ref (gC (uN P S k N).b k))=_ from xT wl6 (ae J.kn K.n6) X.kw]
  have H₄:=H₃.jq (x:=.jy) (D':={OR D N with waiting:=D.waiting++[k]}) E.dd rfl λy hy=>uC rfl hy
  exact fT (iM O (iu ⟨_,_,_,p,sk (nf rfl) ds,rfl,fY (h2 _ _ _ (H₄.setCur rfl none) Fi rfl)⟩))
theorem JW(O:gT cx)(F:gK cx)(K:POk P)(H:RK n0 σ0 S n σ)(B:Bd P S)(I:kB P C ch S D)(hc:D.cur=none)(p:ρ .fU=some (.ref (.q S.b .fU)))
  (h1:∀r l σ',D.ready=r::l→RK n0 σ0 (S.jq (Vw r l D)) n σ'→QQ .next σ' ρ)
  (h2:∀l k post σ',D.ready=[]→D.todo=l++k::post→(∀x∈post,x∈D.nodes)→k∉D.nodes→RK n0 σ0 ((S.ia k (Am (P.iv k) [] k)).jq (toN k l D)) n σ'→QQ .next σ' ρ)
  (h3:∀σ',QV P C ch S D→RK n0 σ0 (S.jq (todo D [])) n σ'→QQ (.ret .none) σ' ρ):W1 cx (d+5) Cq (lk []) ρ σ QQ:=by
 have ds:=H.lQ I.W.at_
 refine gp (qz (gM O rfl (gw O p ⟨_,_,ds,rfl,Fb hc⟩ ⟨false,rfl,fT (iM O (jH O F .lj p ds rfl rfl (fX (gw O p ⟨_,_,ds,rfl,rfl⟩ (fX (gw O p ⟨_,_,ds,rfl,rfl⟩ (fZ ⟨rfl,
  PA (d:=d+1) O F H B I.W (λx hx=>(I.todo x hx).1) (λr l σ₂ hr H₂=>?_) (λl k post σ₂ hr ht Yh hk H₂=>?_) λσ₂ hr ht H₂=>?_⟩)))))))⟩)))
 ·have H₃:=H₂.setCur (S:=S.jq _) rfl (some r)
  exact(I.rd r (hr▸.head _)).2.2.elim λN w=>⟨_,_,_,p,H₂.lQ (S:=S.jq _) rfl,rfl,fT (gp (qz (gM O rfl (gw O p ⟨_,_,H₃.lQ (S:=S.jq (Vw r l D)) rfl,rfl,rfl⟩ ⟨true,qM (H₃.node (S:=S.jq (Vw r l D)) w.1),fY (fY (h1 r l _ hr H₃))⟩))))⟩
 ·have H₃:=H₂.setCur (S:=St.jq (S.ia _ _) _) rfl (some k)
  exact⟨_,_,_,p,H₂.lQ (S:=St.jq (S.ia _ _) _) rfl,rfl,fT (gp (qz (gM O rfl (gw O p ⟨_,_,H₃.lQ (S:=St.jq (S.ia k _) (toN k l D)) rfl,rfl,rfl⟩ ⟨true,qM (H₃.node (k:=k) (S:=St.jq (S.ia k _) (toN k l D)) St.kH),fY (fY (h2 l k post _ hr ht Yh hk H₃))⟩))))⟩
 ·have X:=I.WA K hc hr ht
  have H₃:=H₂.setCur (S:=S.jq _) rfl none
  have e0:Vk none (todo D [])=todo D []:=congrArg (λo=>({D with todo:=[],cur:=o}:DS)) hc.symm
  have H₄:RK n0 σ0 (S.jq (todo D [])) n _:=e0▸H₃
  exact⟨_,_,_,p,H₂.lQ (S:=S.jq _) rfl,rfl,fT (gp (qz (gM O rfl (gw O p ⟨_,_,H₄.lQ (S:=S.jq _) rfl,rfl,Fb hc⟩ ⟨false,rfl,
   fT (gp (gM O rfl (gw O p ⟨_,_,H₄.lQ (S:=S.jq _) rfl,rfl,rfl⟩ ⟨false,congrArg yx ((H₄.isQ (S:=S.jq (todo D [])) rfl .jy).trans (congrArg (λl=>some (Mine.O.dict (p5 S.b l))) X.w)),fY (fT (iA (iu (h3 _ X H₄))))⟩)))⟩))))⟩
end
end
mutual
structure Sd(P:jP)(C:Nat→Prop)(ch:List Nat)(n0:Nat)(σ0:Hp)(S:St)(m n:Nat)(σ:Hp)(ρ:Loc)(S':St)(D':DS):Prop where
 m:m=mu P D'
 H:RK n0 σ0 S' n σ
 s:pA S S'
 I:kB P C ch S' D'
 cd:Dw S' D'
 dn:∀j,Dn S' j↔Dn S j
 p:ρ .fU=some (.ref (.q S'.b .fU))
structure Out(P:jP)(C:Nat→Prop)(ch:List Nat)(S':St)(D':DS)(k:Nat)(N:ND):Prop where
 I:kB P C ch S' D'
 hc:D'.cur=some k
 at_:S'.nd k=some N
 ph:N.ph=1
 st:N.st=.none
structure End(P:jP)(C:Nat→Prop)(ch:List Nat)(S':St)(D':DS):Prop where
 I:kB P C ch S' D'
 dn:∀j∈D'.nodes,Dn S' j
 cn:∀x∈ch,x∈D'.nodes
theorem VU{p a a' r r' m:Nat}(h:a'+r=a+r')(le:a'≤p)(lt:(p - a)+r<m):(p - a')+r'+0<m:=
 have e1:a'+((p - a')+r')=p+r':=(b0 ..).symm.trans (congrArg (· +r') (eP le))
 have e2:a'+((p - a)+r)=(p - a)+a+r':=(Nat.add_left_comm ..).trans ((congrArg (p - a+ ·) h).trans (b0 ..).symm)
 ao (Nat.le_of_add_le_add_left (a:=a') (ab (ay e1) (ab (aX (Nat.sub_le_iff_le_add.mp (aL _)) _) (ay e2.symm)))) lt
theorem BW(O:gT cx)(F:gK cx)(K:POk P)(hC:∀k,C k→∀j∈P.iv k,C j){S₂:St}{D₂:DS}{m:Nat}{ρ:Loc}{Q:Fl→Hp→Loc→Prop}(B:Bd P S)(s:pA S S₂)(H:RK n0 σ0 S₂ n σ)(dn:∀j,Dn S₂ j↔Dn S j)(I:kB P C ch S₂ D₂)(hc:D₂.cur=some k)(hN:S₂.nd k=some N)(hp:N.ph=0)(hw:N.wr=[])(hmu:(P.n - D₂.nodes.length)+D₂.ready.length<m)(p:ρ .fU=some (.ref (.q S₂.b .fU)))
  (h1:∀n' σ' ρ' S' D' k N,RK n0 σ0 S' n' σ'→pA S S'→Out P C ch S' D' k N→(∀j,Dn S' j↔Dn S j)→Q (.ret (.ref (gC S.b k))) σ' ρ'):
  WS cx (d+5) PN (lk []) ρ σ (Va (λm σ' ρ'=>∃n' S' D',Sd P C ch n0 σ0 S m n' σ' ρ' S' D') m Q):=by
 have X:=I.P6 K hC hc hN hp hw
 have s3:=s.trans X.E.E.s
 refine P2 O F K H (B.same s) I hc hN hp hw X p (λn' σ' ρ' H₃ e=>?_) λn' σ' ρ' H₃ e q=>⟨_,VU X.len X.le hmu,n',_,_,rfl,H₃,s3.trans ⟨rfl,rfl,rfl,rfl,rfl⟩,X.cons e,λc q=>nn q,λj=>(X.E.dn j).trans (dn j),q.trans (p.trans (congrArg (λb=>some (V.ref (.q b .fU))) X.E.E.s.b.symm))⟩
 rw[s.b]
 exact h1 _ _ _ _ _ k _ H₃ s3 ⟨X.nil e,hc,X.E.E.at_,by unfold QF;rw[e];rfl,T6 (I.ni k N hN).ph hp⟩ λj=>(X.E.dn j).trans (dn j)
theorem Hi(O:gT cx)(F:gK cx)(K:POk P)(hC:∀k,C k→∀j∈P.iv k,C j)(H:RK n0 σ0 S n σ)(B:Bd P S)(I:kB P C ch S D)(YD:Dw S D){ρ:Loc}(hρ:ρ .fU=some (.ref (.q S.b .fU))){Q:Fl→Hp→Loc→Prop}
  (h1:∀n' σ' ρ' S' D' k N,RK n0 σ0 S' n' σ'→pA S S'→Out P C ch S' D' k N→(∀j,Dn S' j↔Dn S j)→Q (.ret (.ref (gC S.b k))) σ' ρ')
  (h2:∀n' σ' ρ' S' D',RK n0 σ0 S' n' σ'→pA S S'→End P C ch S' D'→(∀j,Dn S' j↔Dn S j)→Q (.ret .none) σ' ρ'):
  W1 cx (d+5) (.wh (.sL true) (Cq::PN)) (lk []) ρ σ Q:=by
 refine DO (λm σ' ρ'=>∃n' S' D',Sd P C ch n0 σ0 S m n' σ' ρ' S' D') _ ⟨n,S,D,rfl,H,.refl,I,YD,λZ=>Iff.rfl,hρ⟩ λm σ₁ ρ₁ q=>q.elim λn₁ q=>q.elim λS₁ q=>q.elim λD₁ w=>?_
 have B₁:=B.same w.s
 refine gM O rfl (pJ ⟨true,rfl,?_⟩)
 cases hc:D₁.cur with
 |some c=>
  exact Jq (d:=d+4) O F w.H B₁ w.I w.cd hc w.p λσ' ρ' H' q=>⟨_,by rw[w.m];unfold mu;rw[hc];exact ak _,n₁,_,_,rfl,H',w.s.trans ⟨rfl,rfl,rfl,rfl,rfl⟩,w.I.drop w.cd,λk hk=>nn hk,w.dn,q.trans w.p⟩
 |none=>
  have em:m=(P.n - D₁.nodes.length)+D₁.ready.length:=by rw[w.m];unfold mu;rw[hc];rfl
  refine fT (JW O F K w.H B₁ w.I hc w.p (λr l σ₂ hr H₂=>?_) (λl k post σ₂ hr ht Yh hk H₂=>?_) λσ₂ X H₂=>?_)
  ·exact(w.I.Vs hc hr).elim λN z=>BW (S₂:=S₁.jq _) O F K hC B (w.s.trans ⟨rfl,rfl,rfl,rfl,rfl⟩) H₂ w.dn z.2.2.2 rfl z.1 z.2.1 z.2.2.1 (by rw[em,hr];exact ak _) w.p h1
  ·have I₂:=w.I.Wm hc hr ht Yh hk
   have sk1:=w.I.W.new hk
   have le:=i4 I₂.W.nodup I₂.W.lt
   rw[show(toN k l D₁).nodes.length=D₁.nodes.length+1 from ax]at le
   refine BW (S₂:=St.jq (S₁.ia k _) (toN k l D₁)) O F K hC B (w.s.trans ⟨rfl,rfl,rfl,rfl,rfl⟩) H₂ (λj=>Iff.trans ?_ (w.dn j)) I₂ rfl St.kH rfl rfl ?_ w.p h1
   ·by_cases jk:j=k
    ·rw[jk]
     exact⟨λh=>h.elim λM w=>absurd (congrArg ND.st (Option.some.inj ((St.kH (S:=S₁) (k:=k)).symm.trans w.1))).symm w.2,λh=>h.elim λM w=>nn (sk1.symm.trans w.1)⟩
    ·have q:(S₁.ia k (Am (P.iv k) [] k)).nd j=S₁.nd j:=gD _ _ jk
     exact⟨λh=>h.elim λM w=>⟨M,q.symm.trans w.1,w.2⟩,λh=>h.elim λM w=>⟨M,q.trans w.1,w.2⟩⟩
   ·rw[em,show(toN k l D₁).nodes.length=D₁.nodes.length+1 from ax]
    exact eA (eJ (ae (ak _) le) (ak _)) _
  ·exact h2 n₁ _ _ _ _ H₂ (w.s.trans (S':=S₁) (S'':=S₁.jq (todo D₁ [])) ⟨rfl,rfl,rfl,rfl,rfl⟩) ⟨X.I,X.dn,X.cn⟩ w.dn
theorem NP(O:gT cx)(F:gK cx)(K:POk P)(hC:∀k,C k→∀j∈P.iv k,C j)(H:RK n0 σ0 S n σ)(B:Bd P S)(I:kB P C ch S D)(YD:D.cur=none)
  (h1:∀n' σ' S' D' k N,RK n0 σ0 S' n' σ'→pA S S'→Out P C ch S' D' k N→(∀j,Dn S' j↔Dn S j)→Q (.ref (gC S.b k)) σ')
  (h2:∀n' σ' S' D',RK n0 σ0 S' n' σ'→pA S S'→End P C ch S' D'→(∀j,Dn S' j↔Dn S j)→Q .none σ'):
  WC cx (d+6) .kR [.ref (.q S.b .fU),.none] σ Q:=
 gu O rfl (fT (hZ (jH O F .ja rfl (H.lQ I.W.at_) rfl rfl (fX (fV rfl (fZ ⟨rfl,zD (d:=d+3) O ⟨rfl,
  fT (Hi O F K hC H B I (λc e=>nn (YD.symm.trans e)) rfl (λn' σ' ρ'=>h1 n' σ') λn' σ' ρ'=>h2 n' σ')⟩⟩))))))
theorem KN(O:gT cx)(F:gK cx)(K:POk P)(hC:∀k,C k→∀j∈P.iv k,C j){S₂:St}(H:RK n0 σ0 S₂ n σ)(B:Bd P S₂)(X:Out P C ch S D c N){s:V}(hs:wJ s)(hr:i5 s (.str "run")=false)(G8:S₂.nd=up S.nd c (some (stN s N)))(hD:S₂.D=some D)
  (h1:∀n' σ' S' D' k N,RK n0 σ0 S' n' σ'→pA S₂ S'→Out P C ch S' D' k N→(∀j,Dn S' j↔Dn S j∨j=c)→Q (.ref (gC S₂.b k)) σ')
  (h2:∀n' σ' S' D',RK n0 σ0 S' n' σ'→pA S₂ S'→End P C ch S' D'→(∀j,Dn S' j↔Dn S j∨j=c)→Q .none σ'):
  WC cx (d+6) .kR [.ref (.q S₂.b .fU),.ref (gC S₂.b c)] σ Q:=by
 have U:=X.I.upd K X.hc X.at_ X.ph X.st hs G8 hD
 have J:=X.I.ni c N X.at_
 have X4:=J.len K.n6
 refine gu O rfl (fT (hZ (jH O F .ja rfl (H.lQ hD) rfl rfl (fX (fV rfl (fZ ⟨rfl,JM (d:=d+3) (N:=stN s N) O F H B U.W (G8▸fW _ _ _) J.kn hs.1 hr J.Lj (ab (bz (ab X.I.J6 K.n6) X4.2) (by decide)) U.w λσ₁ H₁=>⟨rfl,
  fT (Hi O F K hC H₁ (B.same U.u.s) U.I (λk e=>Option.some.inj (X.hc.symm.trans e)▸⟨_,U.at_,X.ph,FA hs⟩) (congrArg (λb=>some (V.ref (.q b .fU))) U.u.s.b.symm) (λn' σ' ρ' S' D' k M a b e i=>?_) λn' σ' ρ' S' D' a b e f=>h2 n' σ' S' D' a (U.u.s.trans b) e λj=>(f j).trans (U.dn j))⟩⟩))))))
 rw[show(List.foldl (vZ c) S₂ (stN s N).wm).b=S₂.b from U.u.s.b]
 exact h1 n' σ' S' D' k M a (U.u.s.trans b) e λj=>(i j).trans (U.dn j)
end
end
mutual
abbrev Fs:=lO→Option (Int×Str)
def kU(p:Int×Str):V:=.tup [.int p.1,.int p.2.length,.str p.2]
def Rd(ts:Bool)(p:Int×Str):V:=ts.casesOn (kU p) (.int p.1)
def Qz(ts:Bool):pL:=ts.casesOn .nN .kI
def Up(ts:Bool):Str:=ts.casesOn "MD5Checker" "TimestampChecker"
noncomputable abbrev kz:I:=.p .gF 0
noncomputable abbrev UC:I:=.p .oD 0
noncomputable abbrev yv(k:Nat):I:=.p .iO k
def f1(x:Nm)(v:V):Nm→Option V:=lk [(x,v)]
def Xh(b:Nat)(c:Bool):Nm→Option V:=lk [(.qJ,.bool c),(.gV,.ref (.u b .gV)),(.j5,.ref (.u b .j5))]
def SR(b:Nat):Nm→Option V:=lk [(.gj,.ref (.u b .gj)),(.iK,.ref (.u b .iK)),(.tB,.bool true),(.kF,.bool false),(.qP,.int 0),(.sC,.bool false)]
structure BB(S:St)(ts:Bool)(m:Nat):Prop where
 ck:S.bb .gV=some (.inst (Qz ts) (f1 .kD (.ref kz)))
 be:S.bb .j5=some (.inst .tj (f1 .iO (.ref UC)))
 dm:S.bb .gj=some (.inst .nO (Xh S.b false))
 rp:S.bb .iK=some (.inst .mP (f1 .gi (.ref (.u S.b .gi))))
 ro:∃l,S.bb .gi=some (.list l)∧l.length≤m
 ru:S.bb .hY=some (.inst .Runner (SR S.b))
structure w9(P:jP)(S:St)(ts:Bool)(w:Fs)(k:Nat)(E:List (Str×V)):Prop where
 vals:∃b,E.lookup (aa "_values_:")=some (.ref (.vals b k))∧S.vv b k=true
 ck:E.lookup (aa "checker:")=some (.str (Up ts))
 ig:E.lookup (aa "ignore:")=none
 fs:∀f∈P.row k,∃p,w f=some p∧E.lookup (jh f)=some (Rd ts p)
 dp:E.lookup (aa "deps:")=some (.tup (sV ((P.row k).map jh)))
structure PP(P:jP)(S:St)(ts:Bool)(w:Fs)(sv:List Nat):Prop where
 wd:∃W,S.pp .gF 0=some (.dict W)∧W.length≤1000∧∀f:lO,f.2<6→W.lookup (jh f)=(w f).map kU
 db:S.pp .oD 0=some (.dict (sv.map λk=>(tn k,.ref (yv k))))
 sl:∀k∈sv,k<P.n
 sn:sv.Nodup
 en:∀k∈sv,∃E,S.pp .iO k=some (.dict E)∧w9 P S ts w k E
 no:∀k,k∉sv→S.pp .iO k=none
structure rG(P:jP):Prop extends POk P where
 rne:∀k,k<P.n→P.row k≠[]
 U7:∀k,k<P.n→(P.row k).Nodup
 rl:∀k,k<P.n→∀f∈P.row k,f.2<6
 Ki:∀k,k<P.n→(P.row k).length≤100
 rs:∀k,k<P.n→∀f∈P.row k,f.1=false→f.2<3
section
variable{cx:Cx}{d:Nat}{σ:Hp}{Q:V→Hp→Prop}{n0 n k:Nat}{σ0:Hp}
variable{P:jP}{S:St}{ts:Bool}{w:Fs}{sv:List Nat}{m:Nat}{T:TS}
theorem uU{x:Nm}{v:V}:f1 x v x=some v:=F0 _ _ _
theorem PP.look(pp:PP P S ts w sv)(hs:P.n≤6)(hk:k<P.n):(sv.map λk=>(tn k,V.ref (yv k))).lookup (tn k)=if k∈sv then some (.ref (yv k))else none:=
 rH (f:=λk=>.ref (yv k)) (λx hx=>ae (pp.sl x hx) hs) (ae hk hs)
theorem Dq(O:gT cx)(F:gK cx)(H:RK n0 σ0 S n σ)(hs:P.n≤6)(bb:BB S ts m)(pp:PP P S ts w sv)(hk:k<P.n){dep:Str}(h0:k∉sv→Q .none σ)(h1:k∈sv→∀E,S.pp .iO k=some (.dict E)→w9 P S ts w k E→Q ((E.lookup dep).getD .none) σ):
  WC cx (d+2) .jN [.ref (.u S.b .gj),.str (tn k),.str dep] σ Q:=
 have be:=(H.lh _).trans bb.be
 gu O rfl (fT (iA (mZ O F .sS rfl ⟨_,_,(H.lh _).trans bb.dm,rfl,rfl⟩ be rfl rfl (fX (fV rfl (fX (fV rfl (fZ ⟨rfl,vt O be rfl ((H.lz _ _).trans pp.db) (λq=>h0 λks=>nn ((pp.look hs hk).symm.trans q|>.symm.trans (if_pos ks))) (λv q=>by
  rw[pp.look hs hk]at q
  by_cases ks:k∈sv
  ·rw[if_pos ks]at q
   exact(pp.en k ks).elim λE e=>⟨_,E,(Option.some.inj q).symm,(H.lz _ _).trans e.1,h1 ks E e.1 e.2⟩
  ·rw[if_neg ks]at q;exact nn q)⟩))))))))
theorem JY(O:gT cx)(F:gK cx)(H:RK n0 σ0 S n σ)(hs:P.n≤6)(bb:BB S ts m)(pp:PP P S ts w sv)(hk:k<P.n)(hT:S.tk k=some T)(h:Q .none σ):WC cx (d+3) .lG [.ref (.u S.b .gj),.ref (.t S.b k .fU)] σ Q:=
 gu O rfl (fT (iA (jH O F .jN rfl ((H.lh _).trans bb.dm) rfl rfl (fX (gw O rfl ⟨_,_,H.task hT,rfl,rfl⟩ (fX (gY (fZ ⟨rfl,Dq O F H hs bb pp hk (λZ=>h) λZ E Z ok=>by rw[ok.ig];exact h⟩))))))))
theorem D4{r:I}{l:List (Str×V)}(h:σ r=some (.dict l)):JQ σ (.ref r)=some (!l.isEmpty):=congrArg yx h
theorem Bj(O:gT cx)(F:gK cx)(H:RK n0 σ0 S n σ)(hs:P.n≤6)(bb:BB S ts m)(pp:PP P S ts w sv)(hk:k<P.n)(hsv:k∈sv)(h:∀σ',RK n0 σ0 S (n+1) σ'→Q (.ref (.gq n)) σ'):WC cx (d+3) .nW [.ref (.u S.b .gj),.str (tn k)] σ Q:=
 gu O rfl (fT (hU rfl (jH O F .jN rfl ((H.lh _).trans bb.dm) rfl rfl (fX (fV rfl (fX (gY (fZ ⟨rfl,Dq O F H hs bb pp hk (λq=>absurd hsv q) λZ E Z ok=>ok.vals.elim λb e=>by
  rw[e.1]
  exact fT (iA (Kl O (fV rfl ⟨false,D4 (H.isV e.2),Gf (lI O (r:=.gq n) H.no (h _ (H.new _)))⟩)))⟩))))))))
theorem OQ(O:gT cx)(H:RK n0 σ0 S n σ)(bb:BB S ts m)(hT:S.tk k=some T)(hm:m≤90000){x:Str}{ρ:Loc}(h1:ρ .fU=some (.ref (.u S.b .iK)))(h2:ρ .gc=some (.ref (.t S.b k .fU))){Q:Fl→Hp→Loc→Prop}
  (h:∀o σ',RK n0 σ0 (S.jA .gi o) n σ'→BB (S.jA .gi o) ts (m+1)→Q .next σ' ρ):
  WS cx d [.ex (.gn (.attr (.var .fU) .gi) .h7 [(.tup [(.str x),(.attr (.var .gc) .gI),(.str "")])] [])] (lk []) ρ σ Q:=bb.ro.elim λl w=>
 have hl:=(H.lh _).trans w.1
 fT (hZ (jM O (gw O h1 ⟨_,_,(H.lh _).trans bb.rp,rfl,uU⟩ ⟨⟨_,hl⟩,pX (fX (gY (fX (gw O h2 ⟨_,_,H.task hT,rfl,rfl⟩ (fX (gY (fZ ⟨au rfl,_,_,rfl,hl,ao (ab w.2 hm) (by decide),rfl,fY (h _ _ (H.jA _ _)
  ⟨bb.ck,bb.be,bb.dm,bb.rp,⟨_,(fW S.bb Nm.gi _:_),ab (ay ax) (bl w.2)⟩,bb.ru⟩)⟩)))))))⟩)))
theorem Cy(O:gT cx)(H:RK n0 σ0 S n σ)(bb:BB S ts m)(hT:S.tk k=some T)(hm:m≤90000)(f:Fn)(hf:f=.mU∨f=.ma∨f=.my∨f=.lP)
  (h:∀o σ',RK n0 σ0 (S.jA .gi o) n σ'→BB (S.jA .gi o) ts (m+1)→Q .none σ'):WC cx (d+1) f [.ref (.u S.b .iK),.ref (.t S.b k .fU)] σ Q:=by
 rcases hf with e |e |e |e<;>exact e▸gu O rfl (OQ O H bb hT hm rfl rfl h)
end
end
mutual
section
variable{cx:Cx}{d:Nat}{σ:Hp}{Q:V→Hp→Prop}{n0 n n' k:Nat}{σ0 σ':Hp}
variable{P:jP}{S S':St}{ts:Bool}{w:Fs}{sv:List Nat}{m:Nat}{T T':TS}
theorem RK.X8(H:RK n0 σ0 S n σ)(hn:n≤n')(h:∀x,(∀m,x=I.gq m→m<n∨n'≤m)→σ' x=σ x):RK n0 σ0 S n' σ':=
 ⟨ab H.le hn,λm hm=>(h _ λj e=>.inl (I.Co e▸ae hm H.le)).trans (H.keep m hm),λr hr=>(h _ λj e=>bf (show Mine.live S.b (.gq j)=true from e▸hr)).trans (H.live r hr),λm hm=>(h _ λj e=>.inr (I.Co e▸hm)).trans (H.free m (ab hn hm))⟩
theorem j0{a b:Nat}{v o:Option O}(hn:a≠b)(h:σ (.gq a)=o):up σ (.gq b) v (.gq a)=o:=(gD _ _ (pI hn)).trans h
theorem BB.of(h:BB S ts m)(e1:S'.bb=S.bb)(e2:S'.b=S.b):BB S' ts m:=⟨e1▸h.ck,e1▸h.be,e1▸e2▸h.dm,e1▸e2▸h.rp,e1▸h.ro,e1▸e2▸h.ru⟩
theorem w9.of{E:List (Str×V)}(h:w9 P S ts w k E)(e:S'.vv=S.vv):w9 P S' ts w k E:=⟨e▸h.vals,h.ck,h.ig,h.fs,h.dp⟩
theorem PP.of(h:PP P S ts w sv)(e1:S'.pp=S.pp)(e2:S'.vv=S.vv):PP P S' ts w sv:=⟨e1▸h.wd,e1▸h.db,h.sl,h.sn,λk hk=>(h.en k hk).elim λE e=>⟨E,e1▸e.1,e.2.of e2⟩,e1▸h.no⟩
def lM(v:V)(T:TS):TS:={T with P0:=v}
theorem w4{α:Type}{d:α}{L L':List (Nm×α)}{x y:Nm}(h:tI x L'=tI x L)(n:y≠x):AW d L' y=AW d L y:=(kP n L').trans ((congrArg (λl=>AW d l y) h).trans (kP n L).symm)
theorem RK.P0(H:RK n0 σ0 S n σ)(hT:S.tk k=some T)(v:V):RK n0 σ0 (S.ib k (lM v T)) n (Mine.up σ (.t S.b k .fU) (some (.inst .Task (Mine.up (o8 S.b k T) .i3 (some v))))):=
 H.ib (x:=.fU) hT (congrArg (λf=>some (Mine.O.inst .Task f)) (uo (by exact rfl):Mine.up (o8 S.b k T) .i3 (some v)=_).symm) λy hy=>w4 rfl hy
theorem xF:(S.ib k T).ib k T'=S.ib k T':=congrArg (λf=>({S with tk:=f}:St)) (lD _ _ _ _)
theorem sP(H:RK n0 σ0 S n σ)(pp:PP P S ts w sv):∃W,σ kz=some (.dict W)∧∀f:lO,f.2<6→W.lookup (jh f)=(w f).map kU:=pp.wd.elim λW e=>⟨W,(H.lz _ _).trans e.1,e.2.2⟩
def Y7(ts:Bool):Fn:=ts.casesOn .md .kT
theorem Ng(O:gT cx){r:I}{t:Str}{p:Int×Str}(h:Q (.bool false) σ):WC cx (d+1) (Y7 ts) [.ref r,.str t,kU p,Rd ts p] σ Q:=by
 cases ts
 ·exact GU O h
 ·exact FC O rfl (au rfl) h
theorem Bx:∀{l:List lO},(∀f∈l,f.2<6)→l.Nodup→(l.map jh).Nodup
 |[],_,_=>List.nodup_nil
 |f::l,h,hn=>
  have hn:=List.nodup_cons.mp hn
  List.nodup_cons.mpr ⟨λq=>(List.mem_map.mp q).elim λg e=>hn.1 (oY (h g (.tail _ e.1)) (h f (.head _)) e.2▸e.1),Bx (λg hg=>h g (.tail _ hg)) hn.2⟩
def gG(n:Nat):Nm→Option I:=lk [(.gc,.gq n),(.jb,.gq (n+1))]
structure vF(n0:Nat)(σ0:Hp)(S:St)(k n n':Nat)(pv:Option V)(σ:Hp):Prop where
 le:n0≤n
 lt:n+3<n'
 H:RK n0 σ0 S n' σ
 c1:σ (.gq n)=some (.cell (some (.ref (.t S.b k .fU))))
 c2:σ (.gq (n+1))=some (.cell pv)
 r2:σ (.gq (n+2))=some (.inst .gQ (Fw "up-to-date" (.gq (n+3))))
structure Nd(b n:Nat)(ρ:Loc):Prop where
 s:ρ .fU=some (.ref (.u b .gj))
 r:ρ .gL=some (.ref (.gq (n+2)))
 l:ρ .jj=some (.bool false)
section
variable{pv:Option V}{ρ:Loc}{QQ:Fl→Hp→Loc→Prop}{E:List (Str×V)}
theorem vF.up(g:vF n0 σ0 S k n n' pv σ){x:I}{o:Option O}{Ya:Nat}(hx:∀j,j<n+3→I.gq j≠x)(H:RK n0 σ0 S' Ya (Mine.up σ x o))(hb:S'.b=S.b)(lt:n'≤Ya):vF n0 σ0 S' k n Ya pv (Mine.up σ x o):=
 ⟨g.le,ae g.lt lt,H,hb▸sk (hx _ (dR (by decide))) g.c1,sk (hx _ (aH (by decide) n)) g.c2,sk (hx _ (aH (by decide) n)) g.r2⟩
theorem vF.ne(g:vF n0 σ0 S k n n' pv σ)(j:Nat)(h:j<n+3):I.gq j≠I.gq n':=pI (av (bk h g.lt))
theorem vF.new(g:vF n0 σ0 S k n n' pv σ)(o:Option O):vF n0 σ0 S k n (n'+1) pv (Mine.up σ (.gq n') o):=g.up g.ne (g.H.new o) rfl (aT _)
theorem vF.P0(g:vF n0 σ0 S k n n' pv σ)(hT:S.tk k=some T)(v:V):vF n0 σ0 (S.ib k (lM v T)) k n n' pv (Mine.up σ (.t S.b k .fU) (some (.inst .Task (Mine.up (o8 S.b k T) .i3 (some v))))):=
 g.up (λj Z=>nf rfl) (g.H.P0 hT v) rfl (aL _)
theorem vF.cell(g:vF n0 σ0 S k n n' pv σ)(u:Option V):vF n0 σ0 S k n n' u (Mine.up σ (.gq (n+1)) (some (.cell u))):=
 ⟨g.le,g.lt,g.H.old (ab g.le (aT _)) (bk (aH (by decide) n) g.lt) _,j0 (av (ak _)) g.c1,Mine.fW _ _ _,j0 (bx (ak _)) g.r2⟩
theorem vF.res(g:vF n0 σ0 S k n n' pv σ)(o:Option O):RK n0 σ0 S n' (Mine.up σ (.gq (n+2)) o):=g.H.old (ab g.le (aA _ _)) (bk (ak _) g.lt) _
theorem EW(O:gT cx)(F:gK cx){γ:Nm→Option I}{a:Nm}{f:Fn}{as:List ME}(H:RK n0 σ0 S n σ)(bb:BB S ts m)(h1:ρ .fU=some (.ref (.u S.b .gj)))(h4:(Qz ts).attr a=some (.ref f.addr))(h5:a≠.kD)(h6:AN cx d as γ ρ σ (V7 cx d f (.u S.b .gV) Q)):
  WE cx d (.gn (.attr (.var .fU) .gV) a as []) γ ρ σ Q:=mZ O F f h1 ⟨_,_,(H.lh _).trans bb.dm,rfl,rfl⟩ ((H.lh _).trans bb.ck) h4 (kl h5 _ _) h6
theorem Yo{a:Nm}{f:Fn}(h1:pL.kI.attr a=some (.ref f.addr))(h2:pL.nN.attr a=some (.ref f.addr)):(Qz ts).attr a=some (.ref f.addr):=by cases ts;exact h2;exact h1
theorem Yj:(Qz ts).attr .kD=none:=by cases ts<;>rfl
theorem xv(O:gT cx)(F:gK cx)(g:vF n0 σ0 S k n n' pv σ)(hT:S.tk k=some T)(bb:BB S ts m)(h1:ρ .fU=some (.ref (.u S.b .gj))){dep:Str}{e:ME}(he:∀Q,Q (.str dep) σ→WE cx d e (gG n) ρ σ Q)
  (h:WC cx d .jN [.ref (.u S.b .gj),.str (tn k),.str dep] σ Q):WE cx d (.gn (.var .fU) .o5 [(.attr (.iN .gc) .gI),e] []) (gG n) ρ σ Q:=
 jH O F .jN h1 ((g.H.lh _).trans bb.dm) rfl rfl (fX (vO O (gH rfl g.c1 ⟨_,_,rfl,⟨_,_,g.H.task hT,rfl,rfl⟩,fX (he _ (fZ ⟨rfl,h⟩))⟩)))
theorem GW(O:gT cx)(F:gK cx)(H:RK n0 σ0 S n σ)(hs:P.n≤6)(bb:BB S ts m)(pp:PP P S ts w sv)(hk:k<P.n){dep:Str}(ks:k∈sv)(eE:S.pp .iO k=some (.dict E)){u:V}(hu:E.lookup dep=some u)(q:Q u σ):WC cx (d+2) .jN [.ref (.u S.b .gj),.str (tn k),.str dep] σ Q:=
 Dq O F H hs bb pp hk (λz=>absurd ks z) λZ E' e' Z=>by rw[←Mine.O.Ey (Option.some.inj (eE.symm.trans e')),hu];exact q
theorem Dy(O:gT cx)(F:gK cx)(H:RK n0 σ0 S n σ)(hs:P.n≤6)(bb:BB S ts m)(pp:PP P S ts w sv)(hk:k<P.n){dep:Str}(ks:k∉sv)(q:Q .none σ):WC cx (d+2) .jN [.ref (.u S.b .gj),.str (tn k),.str dep] σ Q:=
 Dq O F H hs bb pp hk (λZ=>q) λz=>absurd z ks
theorem O4(O:gT cx)(F:gK cx)(g:vF n0 σ0 S k n n' pv σ)(R:Nd S.b n ρ)(hT:S.tk k=some T)(bb:BB S ts m)(pp:PP P S ts w sv)(k6:k<6)
  (h1:w (true,k)=none→∀σ' ρ',vF n0 σ0 (S.ib k (lM (.ref (.gq n')) T)) k n (n'+1) pv σ'→QQ (.ret (.ref (.gq (n+2)))) (up σ' (.gq (n+2)) (some (.inst .gQ (Fw "run" (.gq (n+3)))))) ρ')
  (h2:w (true,k)≠none→∀ρ',Nd S.b n ρ'→QQ .next σ ρ'):W1 cx (d+4) KJ (gG n) ρ σ QQ:=by
 have tk:=g.H.task hT
 have tg:σ (.t S.b k .f9)=some (.list [.str (jh (true,k))]):=g.H.vT hT _
 refine(sP g.H pp).elim λW wd=>?_
 refine jO (f:=V.str) (l:=[jh (true,k)]) (r:=.t S.b k .f9) rfl (λi σ' ρ'=>σ'=σ∧(i=0∨w (true,k)≠none)∧Nd S.b n ρ')
  (vO O (gH rfl g.c1 ⟨_,_,rfl,⟨_,_,tk,rfl,rfl⟩,rfl,rfl,.inl rfl,R⟩)) (λi σ' ρ' q=>q.1.symm▸tg) (λi x σ' ρ' e q=>?_) λσ' ρ' q=>?_
 ·have R:=q.2.2
  rw[q.1,ag.mp (aE e)]
  refine fT (gp (qz (gM O rfl (EW O F g.H bb R.s (Yo (f:=.mh) rfl rfl) (nf rfl) (fX (fV rfl (fZ ⟨rfl,J1 (d:=d+3) O ((g.H.lh _).trans bb.ck) Yj uU wd.1 ?_⟩)))))))
  rw[wd.2 _ k6]
  cases e0:w (true,k)with
  |some p=>exact⟨true,rfl,fY (fY ⟨rfl,.inr λq=>nn q.symm,R.s,R.r,R.l⟩)⟩
  |none=>
   refine⟨false,rfl,fT (oo O (qu O (vO O (gH rfl g.c1 ⟨_,_,rfl,⟨_,_,tk,rfl,rfl⟩,_,_,.gq n',rfl,g.H.vT hT _,g.H.no,gH rfl (g.new _).c1 ⟨_,_,_,rfl,sk (nf rfl) tk,rfl,?_⟩⟩))))⟩
   have g₅:=(g.new (some (.list (sV (T.row.map jh))))).P0 hT (.ref (.gq n'))
   exact fT (gp (gM O rfl (jH O F .kh R.r g₅.r2 rfl rfl (fX (gY (fX (fV rfl (fZ ⟨rfl,Bh (d:=d+3) (st:="up-to-date") (st':="run") (e:=.gq (n+3)) O g₅.r2 ⟨true,rfl,
    fT (iA (fV (v:=.ref (.gq (n+2))) R.r ⟨⟨_,sk (nf rfl) (sk (nf rfl) (sk (nf rfl) tg))⟩,h1 e0 _ _ g₅⟩))⟩⟩))))))))
 ·exact q.1.symm▸h2 (q.2.1.elim (λe=>absurd e (bF _)) id) ρ' q.2.2
end
end
end
mutual
section
variable{cx:Cx}{d:Nat}{σ:Hp}{Q:V→Hp→Prop}{n0 n n' k:Nat}{σ0 σ':Hp}
variable{P:jP}{S S':St}{ts:Bool}{w:Fs}{sv:List Nat}{m:Nat}{T T':TS}{pv:Option V}{ρ:Loc}{QQ:Fl→Hp→Loc→Prop}{E:List (Str×V)}{ms:List MS}
theorem OX{l:List V}(h:l.length≤100):JQ σ (.tup l)=some (!l.isEmpty):=(if_pos (ab h (by decide)):(if l.length≤100000 then some (!l.isEmpty)else none)=_)
theorem ne_str(x:Str):rZ σ .NotEq (.str x) (.str x)=some false:=congrArg (λb=>some (!b)) (beq_self_eq_true x)
theorem Dm{P:jP}(K:rG P)(hk:k<P.n):((P.row k).map jh).isEmpty=false:=by rw[da];exact List.isEmpty_eq_false_iff.mpr (K.rne k hk)
theorem GJ{l:List Str}(h:l.isEmpty=false):(sV l).isEmpty=false:=da.trans h
theorem Pu(K:rG P)(hk:k<P.n):JQ σ (.tup (sV ((P.row k).map jh)))=some true:=(OX (ab (ay (m6 _ _)) (K.Ki k hk))).trans (congrArg (λb=>some (!b)) (GJ (Dm K hk)))
theorem Lq(K:rG P)(hk:k<P.n):(sV ((P.row k).map jh)).length<900:=ao (ab (ay (m6 _ _)) (K.Ki k hk)) (by decide)
theorem IL(K:rG P)(hk:k<P.n):jS [] ((P.row k).map jh)=(P.row k).map jh:=vU (l:=[]) (Bx (K.rl k hk) (K.U7 k hk))
theorem Um(ts:Bool):∃t,(Qz ts).attr .gI=some (.str (Up ts) t):=by cases ts<;>exact⟨_,rfl⟩
theorem JU(O:gT cx)(F:gK cx)(K:rG P)(g:vF n0 σ0 S k n n' none σ)(R:Nd S.b n ρ)(hT:S.tk k=some T)(px:T.row=P.row k)(bb:BB S ts m)(pp:PP P S ts w sv)(hk:k<P.n)(ks:k∈sv)(eE:S.pp .iO k=some (.dict E))(ok:w9 P S ts w k E)
  (h:∀σ' ρ' pv,vF n0 σ0 S k n (n'+2) pv σ'→Nd S.b n ρ'→WS cx (d+4) ms (gG n) ρ' σ' QQ):WS cx (d+4) (Ru ms) (gG n) ρ σ QQ:=(Um ts).elim λtok Ws=>by
 have fd:σ (.t S.b k .gm)=some (.list (sV ((P.row k).map jh))):=px▸g.H.vT hT .gm
 refine fT (hU rfl (xv O F g hT bb (by exact R.s) (λZ q=>gY q) (GW (d:=d+2) O F g.H K.n6 bb pp hk ks eE ok.ck ?_)))
 refine fT (hU rfl (AG O (by decide) (gw O (r:=.u S.b .gj) R.s ⟨_,_,(g.H.lh _).trans bb.dm,rfl,rfl⟩ ⟨_,_,_,_,tok,rfl,(g.H.lh _).trans bb.ck,Ws,rfl,?_⟩)))
 refine fT (gp (ju (gM O rfl (fV (v:=.str (Up ts)) rfl ⟨true,by cases ts<;>rfl,ju (gv (fV (v:=.str (Up ts)) rfl (fV rfl ⟨false,ne_str _,fY ?_⟩)))⟩))))
 refine fT (hU rfl (xv O F g hT bb (by exact R.s) (λZ q=>gY q) (GW (d:=d+2) O F g.H K.n6 bb pp hk ks eE ok.dp ?_)))
 refine fT (lN rfl (rO (gM O rfl (fV rfl ⟨true,Pu K hk,F8 O (fV rfl ⟨_,_,.gq n',rfl,wW _,Lq K hk,g.H.no,?_⟩)⟩))))
 rw[IL K hk]
 have g₁:=g.new (some (.set ((P.row k).map jh)))
 have g₂:=g₁.cell (some (.ref (.gq n')))
 have ps:up (up σ (.gq n') (some (.set ((P.row k).map jh)))) (.gq (n+1)) (some (.cell (some (.ref (.gq n'))))) (.gq n')=some (.set ((P.row k).map jh)):=j0 (bx (bk (aH (by decide) n) g.lt)) (fW _ _ _)
 refine⟨.gq (n+1),none,rfl,g₁.c2,?_⟩
 refine fT (gp (ju (gM O rfl (gH rfl g₂.c2 ⟨true,(yV ps).trans (congrArg (λb=>some (!b)) (Dm K hk)),ju (I9 (gH rfl g₂.c2 (EV O (vO O (gH rfl g₂.c1 ⟨_,_,rfl,⟨_,_,g₂.H.task hT,rfl,rfl⟩,_,_,_,.gq (n'+1),rfl,sk (nf rfl) (sk (nf rfl) fd),wW _,Lq K hk,g₂.H.no,?_⟩)))))⟩))))
 rw[IL K hk]
 exact⟨.gq n',.gq (n'+1),_,_,rfl,rfl,j0 (av (ak _)) ps,fW _ _ _,λZ z=>z,rfl,fY (h _ _ _ (g₂.new _) ⟨R.s,R.r,R.l⟩)⟩
theorem Gd(O:gT cx)(F:gK cx)(K:rG P)(g:vF n0 σ0 S k n n' none σ)(R:Nd S.b n ρ)(hT:S.tk k=some T)(bb:BB S ts m)(pp:PP P S ts w sv)(hk:k<P.n)(ks:k∉sv)
  (h:∀σ' ρ' pv,vF n0 σ0 S k n n' pv σ'→Nd S.b n ρ'→WS cx (d+4) ms (gG n) ρ' σ' QQ):WS cx (d+4) (Ru ms) (gG n) ρ σ QQ:=(Um ts).elim λtok Ws=>by
 refine fT (hU rfl (xv O F g hT bb (by exact R.s) (λZ q=>gY q) (Dy (d:=d+2) O F g.H K.n6 bb pp hk ks ?_)))
 refine fT (hU rfl (AG O (by decide) (gw O (r:=.u S.b .gj) R.s ⟨_,_,(g.H.lh _).trans bb.dm,rfl,rfl⟩ ⟨_,_,_,_,tok,rfl,(g.H.lh _).trans bb.ck,Ws,rfl,?_⟩)))
 refine fT (gp (ju (gM O rfl (fV (v:=.none) rfl ⟨false,rfl,fY ?_⟩))))
 refine fT (hU rfl (xv O F g hT bb (by exact R.s) (λZ q=>gY q) (Dy (d:=d+2) O F g.H K.n6 bb pp hk ks ?_)))
 refine fT (lN rfl (rO (gM O rfl (fV rfl ⟨false,rfl,iu ⟨.gq (n+1),none,rfl,g.c2,?_⟩⟩))))
 have g₂:=g.cell (some .none)
 exact fT (gp (ju (gM O rfl (gH rfl g₂.c2 ⟨false,rfl,fY (h _ _ _ g₂ ⟨R.s,R.r,R.l⟩)⟩))))
structure UD(b n n':Nat)(ρ:Loc):Prop where
 R:Nd b n ρ
 c:ρ .l3=some (.ref (.gq n'))
theorem Ob(O:gT cx)(F:gK cx)(K:rG P)(g:vF n0 σ0 S k n n' pv σ){z:Nat}(R:UD S.b n z ρ)(hT:S.tk k=some T)(bb:BB S ts m)(pp:PP P S ts w sv)(hk:k<P.n)(ks:k∈sv)(eE:S.pp .iO k=some (.dict E))(ok:w9 P S ts w k E){f:lO}(hf:f∈P.row k)
  (h:∀ρ',UD S.b n z ρ'→QQ .next σ ρ'):WS cx (d+4) CJ (gG n) (up ρ .jf (some (.str (jh f)))) σ QQ:=(ok.fs f hf).elim λp wp=>(sP g.H pp).elim λW wd=>by
 refine fT (hU rfl (xv O F g hT bb (by exact R.R.s) (λZ q=>fV rfl q) (GW (d:=d+2) O F g.H K.n6 bb pp hk ks eE wp.2 ?_)))
 refine fT (Hz (fT (hU rfl (EW O F g.H bb (by exact R.R.s) (Yo (f:=.jm) rfl rfl) (nf rfl) (fX (fV rfl (fZ ⟨rfl,yQ (d:=d+3) O ((g.H.lh _).trans bb.ck) Yj uU wd.1 ((wd.2 f (K.rl k hk f hf)).trans (congrArg (bh kU) wp.1)) (fY ?_)⟩)))))))
 refine fT (gp (mG (gv (fV (v:=Rd ts p) rfl (iu ⟨false,by cases ts<;>rfl,mG (gM O rfl (EW O F (f:=Y7 ts) g.H bb (by exact R.R.s) (by cases ts<;>rfl) (nf rfl) (fX (fV rfl (fX (fV rfl (fX (fV rfl (fZ ⟨by cases ts<;>rfl,?_⟩)))))))))⟩)))))
 rw[show qG (Y7 ts) [.ref (.u S.b .gV),.str (jh f),kU p,Rd ts p] []=[.ref (.u S.b .gV),.str (jh f),kU p,Rd ts p] by cases ts<;>rfl]
 exact Ng (d:=d+3) O ⟨false,rfl,mS (fY (fY (fY (h _ ⟨⟨R.R.s,R.R.r,R.R.l⟩,R.c⟩))))⟩
theorem SG(O:gT cx)(F:gK cx)(K:rG P){l:List Str}(g:vF n0 σ0 S k n n' pv σ){z:Nat}(hz:σ (.gq z)=some (.list (sV l)))(hl:l.length≤100)(R:UD S.b n z ρ)(hT:S.tk k=some T)(bb:BB S ts m)(pp:PP P S ts w sv)(hk:k<P.n)(ks:k∉sv){f:lO}(hf:f∈P.row k)(hw:∃p,w f=some p)
  (h:∀ρ',UD S.b n z ρ'→QQ .next (up σ (.gq z) (some (.list (sV (l++[jh f]))))) ρ'):WS cx (d+4) CJ (gG n) (up ρ .jf (some (.str (jh f)))) σ QQ:=hw.elim λp wp=>(sP g.H pp).elim λW wd=>by
 refine fT (hU rfl (xv O F g hT bb (by exact R.R.s) (λZ q=>fV rfl q) (Dy (d:=d+2) O F g.H K.n6 bb pp hk ks ?_)))
 refine fT (Hz (fT (hU rfl (EW O F g.H bb (by exact R.R.s) (Yo (f:=.jm) rfl rfl) (nf rfl) (fX (fV rfl (fZ ⟨rfl,yQ (d:=d+3) O ((g.H.lh _).trans bb.ck) Yj uU wd.1 ((wd.2 f (K.rl k hk f hf)).trans (congrArg (bh kU) wp)) (fY ?_)⟩)))))))
 have h:=h (up (up (up ρ .jf (some (.str (jh f)))) .kZ (some .none)) .lE (some (kU p))) ⟨⟨R.R.s,R.R.r,R.R.l⟩,R.c⟩
 rw[show sV (l++[jh f])=sV l++[.str (jh f)]from ar]at h
 exact fT (gp (mG (gv (fV (v:=.none) rfl (iu ⟨true,rfl,fT (hZ (jM O (fV (v:=.ref (.gq z)) R.c ⟨⟨_,hz⟩,fV (v:=.str (jh f)) rfl ⟨_,_,rfl,hz,ao (ab (ay (ai ..)) hl) (by decide),rfl,fY (fY (fY h))⟩⟩)))⟩)))))
theorem J5(O:gT cx)(F:gK cx)(K:rG P)(g:vF n0 σ0 S k n n' pv σ)(R:Nd S.b n ρ)(hT:S.tk k=some T)(px:T.row=P.row k)(bb:BB S ts m)(pp:PP P S ts w sv)(hk:k<P.n)(ks:k∈sv)(eE:S.pp .iO k=some (.dict E))(ok:w9 P S ts w k E)
  (h:∀σ' ρ',vF n0 σ0 (S.ib k (lM (.ref (.gq n')) T)) k n (n'+1) pv σ'→QQ (.ret (.ref (.gq (n+2)))) σ' ρ'):WS cx (d+4) Rj (gG n) ρ σ QQ:=by
 have g₁:=g.new (some (.list []))
 have tk:=g₁.H.task hT
 refine fT (hU rfl (iQ (fZ ⟨aw _,.gq n',g.H.no,?_⟩)))
 refine fT (jO (f:=λf=>.str (jh f)) (l:=P.row k) (r:=.t S.b k .gm) rfl (λi σ' ρ'=>σ'=up σ (.gq n') (some (.list []))∧UD S.b n n' ρ')
   (vO O (gH rfl g₁.c1 ⟨_,_,rfl,⟨_,_,tk,rfl,rfl⟩,rfl,rfl,⟨R.s,R.r,R.l⟩,rfl⟩)) (λi σ' ρ' q=>by rw[q.1];exact(g₁.H.vT hT .gm).trans (by rw[←qU,←px];rfl)) (λi f σ' ρ' e q=>?_) λσ' ρ' q=>?_)
 ·rw[q.1]
  exact Ob O F K g₁ q.2 hT bb pp hk ks eE ok (aE e) λρ' R=>⟨rfl,R⟩
 ·rw[q.1]
  refine fT (oo O (fV q.2.c (gH rfl g₁.c1 ⟨_,_,_,rfl,tk,rfl,?_⟩)))
  exact fT (gp (gv (pR O (fV q.2.c (.l _ _ rfl (.inl (sk (nf rfl) (fW _ _ _))) (gO O ⟨false,rfl,fY (fT (iA (fV q.2.R.r (h _ _ (g₁.P0 hT _)))))⟩))))))
theorem Gp(O:gT cx)(F:gK cx)(K:rG P)(g:vF n0 σ0 S k n n' pv σ)(R:Nd S.b n ρ)(hT:S.tk k=some T)(px:T.row=P.row k)(bb:BB S ts m)(pp:PP P S ts w sv)(hk:k<P.n)(ks:k∉sv)(hw:∀f∈P.row k,∃p,w f=some p)
  (h:∀σ' ρ',vF n0 σ0 (S.ib k (lM (.ref (.gq n')) T)) k n (n'+1) pv σ'→QQ (.ret (.ref (.gq (n+2)))) (up σ' (.gq (n+2)) (some (.inst .gQ (Fw "run" (.gq (n+3)))))) ρ'):WS cx (d+4) Rj (gG n) ρ σ QQ:=by
 have g₁:=λl=>g.new (some (.list (sV l)))
 refine fT (hU rfl (iQ (fZ ⟨aw _,.gq n',g.H.no,?_⟩)))
 refine fT (jO (f:=λf=>.str (jh f)) (l:=P.row k) (r:=.t S.b k .gm) rfl (λi σ' ρ'=>σ'=up σ (.gq n') (some (.list (sV (((P.row k).take i).map jh))))∧UD S.b n n' ρ')
   (vO O (gH rfl (g₁ []).c1 ⟨_,_,rfl,⟨_,_,(g₁ []).H.task hT,rfl,rfl⟩,rfl,rfl,⟨R.s,R.r,R.l⟩,rfl⟩)) (λi σ' ρ' q=>by rw[q.1];exact((g₁ _).H.vT hT .gm).trans (by rw[←qU,←px];rfl)) (λi f σ' ρ' e q=>?_) λσ' ρ' q=>?_)
 ·have hf:=aE e
  rw[q.1]
  exact SG O F K (g₁ _) (fW _ _ _) (by rw[ai,aO];exact ab (a8 _ _) (K.Ki k hk)) q.2 hT bb pp hk ks hf (hw f hf) λρ' R=>⟨by rw[lD,bg,e,ar];rfl,R⟩
 ·rw[q.1,aV]
  have g₂:=(g₁ ((P.row k).map jh)).P0 hT (.ref (.gq n'))
  have gt:0<(sV ((P.row k).map jh)).length:=List.length_pos_iff.mpr λz=>bf ((congrArg List.isEmpty z).symm.trans (GJ (Dm K hk))).symm
  refine fT (oo O (fV q.2.c (gH rfl (g₁ _).c1 ⟨_,_,_,rfl,(g₁ _).H.task hT,rfl,?_⟩)))
  exact fT (gp (gv (pR O (fV q.2.c (.l _ _ rfl (.inl (sk (nf rfl) (fW _ _ _))) (gO O ⟨true,congrArg some (decide_eq_true (Int.natCast_pos.mpr gt)),fT (Ko (jH O F .lB q.2.R.r g₂.r2 rfl rfl (fX (gY (fX (fV q.2.c (fZ ⟨rfl,A4 (d:=d+3) O (st:="up-to-date") (e:=.gq (n+3)) g₂.r2 ⟨trivial,fY (fT (iA (fV q.2.R.r (h _ _ g₂))))⟩⟩)))))))⟩))))))
end
end
mutual
section
variable{cx:Cx}{d:Nat}{σ:Hp}{Q:V→Hp→Prop}{n0 n n' k:Nat}{σ0 σ':Hp}
variable{P:jP}{S:St}{ts:Bool}{w:Fs}{sv:List Nat}{m:Nat}{T:TS}{ρ:Loc}{QQ:Fl→Hp→Loc→Prop}{ms:List MS}
theorem MI(O:gT cx)(F:gK cx)(K:rG P)(le:n0≤n)(H:RK n0 σ0 S (n+2) σ)(c1:σ (.gq n)=some (.cell (some (.ref (.t S.b k .fU)))))(c2:σ (.gq (n+1))=some (.cell none))(hT:S.tk k=some T)(px:T.row=P.row k)(hk:k<P.n)
  (q1:ρ .fU=some (.ref (.u S.b .gj)))(q2:ρ .jj=some (.bool false))
  (h:∀σ' ρ',vF n0 σ0 (S.ib k (lM (.ref (.gq (n+4))) T)) k n (n+6) none σ'→Nd S.b n ρ'→WS cx (d+4) ms (gG n) ρ' σ' QQ):WS cx (d+4) (OS ms) (gG n) ρ σ QQ:=by
 refine fT (hU rfl (vx O (f:=.nV) rfl (F _) (fX (fV q2 (fZ (jE ⟨rfl,rfl,.gq (n+2),H.no,y7 O (fW _ _ _) (e:=.gq (n+3)) (j0 (bx (ak _)) (H.free _ (aT _))) λσ₂ r2 k2=>⟨rfl,?_⟩⟩))))))
 have kp:∀x,x≠.gq (n+2)→x≠.gq (n+3)→σ₂ x=σ x:=λx a b=>(k2 x a b).trans (gD _ _ a)
 have t2:∀{j i},j<i→n+j<n+i:=λh=>aH h n
 have tn:∀{j i},j<i→I.gq (n+j)≠.gq (n+i):=λh=>pI (av (t2 h))
 have g:vF n0 σ0 S k n (n+4) none σ₂:=⟨le,ak _,H.X8 (aA _ 2) λx hx=>kp x (λe=>(hx _ e).elim (a7 _) λh=>cQ (t2 (by decide)) h) λe=>(hx _ e).elim (λh=>a7 _ (bk h (ak _))) λh=>cQ (ak _) h,
  (kp _ (tn (j:=0) (by decide)) (tn (j:=0) (by decide))).trans c1,(kp _ (tn (by decide)) (tn (by decide))).trans c2,r2⟩
 refine fT (oo O (iQ (fZ ⟨aw _,.gq (n+4),g.H.no,gH rfl (g.new _).c1 ⟨_,_,_,rfl,sk (nf rfl) (g.H.task hT),rfl,?_⟩⟩)))
 have g₁:=(g.new (some (.list []))).P0 hT (.ref (.gq (n+4)))
 refine fT (hU rfl (iQ (fZ ⟨aw _,.gq (n+5),g₁.H.no,?_⟩)))
 have g₂:=g₁.new (some (.list []))
 have tk:=g₂.H.task St.ip
 refine fT (nR rfl (vO O (gH rfl g₂.c1 ⟨_,_,rfl,⟨_,_,tk,rfl,rfl⟩,_,rfl,g₂.H.vT (T:=lM _ T) St.ip _,?_⟩)))
 refine fT (gp (ju (qz (gM O rfl (fV q2 ⟨false,rfl,ju (gv (gw O (r:=.gq (n+2)) rfl ⟨_,_,g₂.r2,rfl,rfl⟩ (gY ⟨false,congrArg some (show i5 (.str "up-to-date") (.str "run")=false by decide),fY ?_⟩)))⟩)))))
 refine fT (gp (qz (mG (gM O rfl (vO O (gH rfl g₂.c1 ⟨_,_,rfl,⟨_,_,tk,rfl,rfl⟩,true,(nH (g₂.H.vT (T:=lM _ T) St.ip .gm)).trans (congrArg (λb=>some (!b)) (GJ (show(T.row.map jh).isEmpty=false from px▸Dm K hk))),fY (h _ _ g₂ ⟨q1,rfl,q2⟩)⟩))))))
theorem AZ(O:gT cx)(F:gK cx)(K:rG P)(H:RK n0 σ0 S n σ)(bb:BB S ts m)(pp:PP P S ts w sv)(hk:k<P.n)(hT:S.tk k=some T)(px:T.row=P.row k)(hw:∀f∈P.row k,∃p,w f=some p)(Sg:k∈sv→w (true,k)≠none){v:V}
  (h:∀n' σ' v,RK n0 σ0 (S.ib k (lM v T)) n' σ'→σ' (.gq (n+2))=some (.inst .gQ (Fw (if k∈sv then "up-to-date" else "run") (.gq (n+3))))→Q (.ref (.gq (n+2))) σ'):
  WC cx (d+5) .ki [.ref (.u S.b .gj),.ref (.t S.b k .fU),v,.bool false] σ Q:=by
 have ne1:I.gq n≠.gq (n+1):=pI (av (ak _))
 refine uT O [(.gc,.gq n),(.jb,.gq (n+1))] rfl (List.nodup_cons.mpr ⟨λm=>ne1 (ag.mp m),List.nodup_cons.mpr ⟨aj,.nil⟩⟩) (λr m=>(List.mem_cons.mp m).elim (λe=>e▸H.no) λm=>ag.mp m▸H.free _ (aT _)) ?_
 refine MI (σ:=up (up σ (.gq n) (some (.cell (some (.ref (.t S.b k .fU)))))) (.gq (n+1)) (some (.cell none))) O F K H.le ((H.new _).new _) (sk ne1 (fW _ _ _)) (fW _ _ _) hT px hk rfl rfl λσ₁ ρ₁ g R=>?_
 have h₁:=λn' σ' v x a b=>h n' σ' v (xF (S:=S) (T:=lM x T) (T':=lM v T)▸a) b
 have bb₁:BB (S.ib k (lM (.ref (.gq (n+4))) T)) ts m:=bb.of rfl rfl
 have pp₁:PP P (S.ib k (lM (.ref (.gq (n+4))) T)) ts w sv:=pp.of rfl rfl
 have run:k∉sv→∀{n' pv σ' v},vF n0 σ0 ((S.ib k (lM (.ref (.gq (n+4))) T)).ib k (lM v T)) k n n' pv σ'→Q (.ref (.gq (n+2))) (up σ' (.gq (n+2)) (some (.inst .gQ (Fw "run" (.gq (n+3)))))):=λks Z Z Z Z g=>h₁ _ _ _ _ (g.res _) (by rw[if_neg ks];exact fW _ _ _)
 refine fT (O4 O F g R St.ip bb₁ pp₁ (ae hk K.n6) (λe σ' ρ' g=>run (λks=>Sg ks e) g) λZ ρ₂ R₂=>?_)
 by_cases ks:k∈sv
 ·exact(pp₁.en k ks).elim λE e=>JU O F K g R₂ St.ip px bb₁ pp₁ hk ks e.1 e.2 λσ₃ ρ₃ pv g₃ R₃=>J5 O F K g₃ R₃ St.ip px bb₁ pp₁ hk ks e.1 e.2 λσ₄ ρ₄ g₄=>h₁ _ _ _ _ g₄.H (by rw[if_pos ks];exact g₄.r2)
 ·exact Gd O F K g R₂ St.ip bb₁ pp₁ hk ks λσ₃ ρ₃ pv g₃ R₃=>Gp O F K g₃ R₃ St.ip px bb₁ pp₁ hk ks hw λσ₄ ρ₄ g₄=>run ks g₄
end
end
mutual
structure o9(cx:Cx):Prop where
 n1:∃nd,vQ cx .gP .jd nd [.i8,.nP] [.fU] r8
 n2:∃nd,vQ cx .gB .gE nd [.uA,.ot] [.jz,.fU] nz
section
variable{cx:Cx}{d:Nat}{σ:Hp}{Q:V→Hp→Prop}{n0 n n' k:Nat}{σ0 σ':Hp}
variable{P:jP}{S S':St}{T T':TS}{N:ND}
def ze(v:V)(T:TS):TS:={T with vals:=v}
def resT(v:V)(T:TS):TS:={T with res:=v}
def A7(T:TS):TS:={T with exe:=true}
def tQ(T:TS):TS:={T with opts:=true}
theorem RK.Xr(H:RK n0 σ0 S n σ)(hN:S.nd k=some N)(v:V):RK n0 σ0 (S.ia k (stN v N)) n (Mine.up σ (gC S.b k) (some (.inst .lq (Mine.up (uQ S.b k N) .gX (some v))))):=
 H.ia (x:=.fU) (i:=0) hN (congrArg (λf=>some (Mine.O.inst .lq f)) (uo (by exact rfl):Mine.up (uQ S.b k N) .gX (some v)=_).symm) λy z N3=>wz rfl (λZ=>rfl) N3
theorem RK.UP(H:RK n0 σ0 S n σ)(hT:S.tk k=some T)(v:V):RK n0 σ0 (S.ib k (ze v T)) n (Mine.up σ (.t S.b k .fU) (some (.inst .Task (Mine.up (o8 S.b k T) .jo (some v))))):=
 H.ib (x:=.fU) hT (congrArg (λf=>some (Mine.O.inst .Task f)) (uo (by exact rfl):Mine.up (o8 S.b k T) .jo (some v)=_).symm) λy hy=>w4 rfl hy
theorem RK.YS(H:RK n0 σ0 S n σ)(hT:S.tk k=some T)(v:V):RK n0 σ0 (S.ib k (resT v T)) n (Mine.up σ (.t S.b k .fU) (some (.inst .Task (Mine.up (o8 S.b k T) .gL (some v))))):=
 H.ib (x:=.fU) hT (congrArg (λf=>some (Mine.O.inst .Task f)) (uo (by exact rfl):Mine.up (o8 S.b k T) .gL (some v)=_).symm) λy hy=>w4 rfl hy
theorem RK.Zd(H:RK n0 σ0 S n σ)(hT:S.tk k=some T):RK n0 σ0 (S.ib k (A7 T)) n (Mine.up σ (.t S.b k .fU) (some (.inst .Task (Mine.up (o8 S.b k T) .qC (some (.bool true)))))):=
 H.ib (x:=.fU) hT (congrArg (λf=>some (Mine.O.inst .Task f)) (uo (by exact rfl):Mine.up (o8 S.b k T) .qC (some (.bool true))=_).symm) λy hy=>w4 rfl hy
theorem RK.VE(h:RK n0 σ0 S n σ)(h1:∀x,σ' (.t S.b k x)=uH S.b k T x)(h2:∀r,(∀x,r≠.t S.b k x)→σ' r=σ r):RK n0 σ0 (S.ib k T) n σ':=
 ⟨h.le,λm hm=>(h2 _ λZ e=>I.noConfusion e).trans (h.keep m hm),λr hr=>by
  have other:(∀x,r≠.t S.b k x)→heapOf (S.ib k T) r=heapOf S r→σ' r=heapOf (S.ib k T) r:=λa b=>((h2 r a).trans (h.live r hr)).trans b.symm
  cases r with
  |t b j x=>
   exact(aK (b=S.b∧j=k)).elim (λe=>by rw[e.1,e.2];exact(h1 x).trans ((if_pos rfl).trans (xe (S:=S.ib k T) St.ip x)).symm) λe=>other (λy q=>e (by injection q with q1 q2;exact⟨q1,q2⟩)) (BN λeb=>by unfold Mine.MR;rw[show(S.ib k T).tk j=_ from gD _ _ λq=>e ⟨eb,q⟩];rfl)
  |_=>exact other (λZ e=>I.noConfusion e) rfl,λm hm=>(h2 _ λZ e=>I.noConfusion e).trans (h.free m hm)⟩
theorem C5(h:S.tk k=some T):S.ib k T=S:=by
 unfold St.ib
 rw[show up S.tk k (some T)=S.tk from funext λj=>(kJ S.tk k (some T) j).elim (λu=>u.2.trans (u.1▸h.symm)) λu=>u.2]
theorem P9(h:T.opts=true):tQ T=T:=by unfold tQ;rw[←h]
theorem pM(O:gT cx)(H:RK n0 σ0 S n σ)(hT:S.tk k=some T){v:V}(h0:T.opts=true→Q .none σ)(h1:T.opts=false→∀σ',RK n0 σ0 (S.ib k (tQ T)) n σ'→Q v σ'):WC cx (d+1) .kA [.ref (.t S.b k .fU),v] σ Q:=by
 have tk:=H.task hT
 refine gu O rfl (fT (gp (gv (gw O rfl ⟨_,_,tk,rfl,rfl⟩ (iu ?_)))))
 cases e:T.opts with
 |true=>exact⟨false,rfl,fY (fY (h0 e))⟩
 |false=>
  refine⟨true,rfl,fT (iM O (lI O (r:=.t S.b k .kG) ((H.vT hT .kG).trans (if_neg (e▸aR))) ⟨_,_,_,rfl,sk (nf rfl) tk,rfl,fT (iA (fV rfl (h1 e _ (H.VE (λx=>?_) λr hr=>sk (hr _) (sk (hr _) rfl)))))⟩))⟩
  by_cases e1:x=.fU
  ·rw[e1]
   exact(fW _ _ _).trans (congrArg (λf=>some (Mine.O.inst .Task f)) (uo (by exact rfl):up (o8 S.b k T) .kG (some (.ref (.t S.b k .kG)))=_))
  by_cases e2:x=.kG
  ·rw[e2];exact sk (nf rfl) (fW _ _ _)
  have n1:∀y,x≠y→I.t S.b k x≠.t S.b k y:=λy h e=>h (by injection e)
  exact(sk (n1 _ e1) (sk (n1 _ e2) (H.vT hT x))).trans (((kP e1 _).trans (kP e2 _):uH S.b k T x=_).trans ((kP e1 _).trans (kP e2 _):uH S.b k (tQ T) x=_).symm)
inductive We(Q:Fl→Hp→Loc→Prop)(ρ:Loc)(v:V)(σ:Hp):Prop
 |mk (r:I):v=.ref r→σ r=some (.dict [])→Q .next σ ρ→We Q ρ v σ
theorem Bq(O:gT cx){γ:Nm→Option I}{ρ:Loc}{ts:List Tg}{e:ME}{b:List MS}{QQ:Fl→Hp→Loc→Prop}(h:WE cx d e γ ρ σ (We QQ ρ)):W1 cx d (.for (.tup ts) (.gn e .qo [] []) b) γ ρ σ QQ:=
 zc rfl (λsrc i σ' ρ'=>∃r ob σ,src=.nothing r ob∧i=0∧σ'=up σ r (some (.nD [] ob))∧σ r=some (.dict [])∧QQ .next σ ρ') 0 (Mo O (jv h λv σ' q=>q.casesOn λr e hr q=>⟨r,e,hr,λob=>⟨trivial,r,ob,σ',rfl,rfl,rfl,hr,q⟩⟩))
  λsrc i σ' ρ' q=>q.elim λr q=>q.elim λob q=>q.elim λσ₁ q=>by
   have e1:=q.1;have e2:=q.2.1;have e3:=q.2.2.1
   subst e1;subst e2;subst e3
   refine⟨aL _,fW _ _ _,?_⟩
   show QQ .next (up (up σ₁ r _) r (some (.dict []))) ρ'
   rw[lD,show up σ₁ r (some (.dict []))=σ₁ from funext λx=>(kJ σ₁ r _ x).elim (λu=>u.2.trans (u.1▸q.2.2.2.1.symm)) λu=>u.2]
   exact q.2.2.2.2
theorem Cv(O:gT cx)(F:gK cx)(NS:o9 cx)(H:RK n0 σ0 S n σ)(hT:S.tk k=some T){v1 v2:V}(h:∀n' σ',RK n0 σ0 (S.ib k (tQ T)) n' σ'→Q .none σ'):WC cx (d+2) .gP [v1,.ref (.t S.b k .fU),v2] σ Q:=NS.n1.elim λnd N1=>by
 have H₁:=H.new (some (.cell (some v1)))
 refine zK O [(.fU,.gq n)] rfl (List.nodup_cons.mpr ⟨aj,.nil⟩) (λr m=>ag.mp m▸H.no) ?_
 refine EO (Ko (jv (P:=λv σ'=>v=.none∧RK n0 σ0 (S.ib k (tQ T)) (n+1) σ') (jH O F .kA rfl (H₁.task hT) rfl rfl (fZ ⟨rfl,pM O H₁ hT (λe=>⟨rfl,by rw[P9 e,C5 hT];exact H₁⟩) λZ σ' K=>⟨rfl,K⟩⟩)) λv σ₁ e=>e.1▸⟨trivial,?_⟩))
 have H₂:=e.2
 exact I4 O N1 (λy m=>⟨.gq n,by rw[ag.mp m];rfl⟩) (z:=.gq (n+1)) H₂.no (fT (Bq O (gw O rfl ⟨_,_,(H₂.new _).task St.ip,rfl,rfl⟩ ⟨_,rfl,(H₂.new _).vT (T:=tQ T) St.ip .j4,fY (h _ _ (H₂.new _))⟩)))
end
end
mutual
section
variable{cx:Cx}{d:Nat}{σ:Hp}{Q:V→Hp→Prop}{n0 n n' k:Nat}{σ0 σ':Hp}
variable{P:jP}{S S':St}{ts:Bool}{w:Fs}{sv:List Nat}{m:Nat}{T:TS}{N:ND}{v0:V}{ρ:Loc}{QQ:Fl→Hp→Loc→Prop}
structure Sl(b k:Nat)(v0:V)(ρ:Loc):Prop where
 s:ρ .fU=some (.ref (.u b .hY))
 t:ρ .gc=some (.ref (.t b k .fU))
 m:ρ .gf=some (.ref (gC b k))
 d:ρ .jR=some v0
theorem Tb(c:Prop)[Decidable c]:i5 (.str (if c then ("up-to-date":Str)else "run")) (.str "error")=false:=by
 by_cases h:c
 ·rw[if_pos h];decide
 ·rw[if_neg h];decide
theorem KW(O:gT cx)(F:gK cx)(K:rG P)(H:RK n0 σ0 S n σ)(bb:BB S ts m)(pp:PP P S ts w sv)(hm:m≤80001)(hk:k<P.n)(hT:S.tk k=some T)(px:T.row=P.row k)(hN:S.nd k=some N)(hw:∀f∈P.row k,∃p,w f=some p)(Sg:k∈sv→w (true,k)≠none)(R:Sl S.b k v0 ρ)
  (h1:k∉sv→∀n' σ' ρ' v,RK n0 σ0 ((S.ib k (lM v T)).ia k (stN (.str "run") N)) n' σ'→Sl S.b k v0 ρ'→QQ .next σ' ρ')
  (h2:k∈sv→∀n' σ' ρ' o v v',RK n0 σ0 (((S.jA .gi o).ib k (ze v' (lM v T))).ia k (stN (.str "up-to-date") N)) n' σ'→BB (S.jA .gi o) ts (m+1)→QQ (.ret (.bool false)) σ' ρ'):
  WS cx (d+5) VW (lk []) ρ σ QQ:=by
 have ru:=(H.lh _).trans bb.ru
 have dm:=(H.lh _).trans bb.dm
 have hn:=H.node hN
 refine fT (gp (mG (gM O rfl (gw O (r:=gC S.b k) R.m ⟨_,_,hn,rfl,rfl⟩ ⟨false,nH (H.DC hN .jB 0),mG (gM O rfl (mZ O F .lG R.s ⟨_,_,ru,rfl,rfl⟩ dm rfl rfl (fX (fV R.t (fZ ⟨rfl,JY (d:=d+2) O F H K.n6 bb pp hk hT ⟨false,rfl,mS (fY ?_)⟩⟩)))))⟩))))
 refine fT (gp (gM O rfl (gw O (r:=gC S.b k) R.m ⟨_,_,hn,rfl,rfl⟩ ⟨false,nH (H.DC hN .k4 0),fY ?_⟩)))
 refine fT (hU rfl (mZ O F .ki R.s ⟨_,_,ru,rfl,rfl⟩ dm rfl rfl (fX (fV R.t (fX (fV R.d (fZ ⟨rfl,AZ O F K H bb pp hk hT px hw Sg λn₂ σ₂ v H₂ r2=>?_⟩)))))))
 have bb₂:BB (S.ib k (lM v T)) ts m:=bb.of rfl rfl
 refine fT (gp (gv (gw O (r:=.gq (n+2)) rfl ⟨_,_,r2,rfl,rfl⟩ (gY ⟨false,congrArg some (Tb (k∈sv)),fY ?_⟩))))
 refine fT (gp (gM O rfl (gw O (r:=.u S.b .hY) R.s ⟨_,_,(H₂.lh _).trans bb₂.ru,rfl,rfl⟩ ⟨false,rfl,fT (iM O (gw O (r:=.gq (n+2)) rfl ⟨_,_,r2,rfl,rfl⟩ ⟨gC S.b k,_,_,R.m,H₂.node hN,rfl,fY ?_⟩))⟩)))
 have H₃:=H₂.Xr hN (.str (if k∈sv then "up-to-date" else "run"))
 have hn₃:=H₃.node St.kH
 by_cases ks:k∈sv
 ·rw[if_pos ks]at hn₃ H₃ ⊢
  have bb₃:BB ((S.ib k (lM v T)).ia k (stN (.str "up-to-date") N)) ts m:=bb.of rfl rfl
  have pp₃:PP P ((S.ib k (lM v T)).ia k (stN (.str "up-to-date") N)) ts w sv:=pp.of rfl rfl
  refine fT (gp (gv (gw O (r:=gC S.b k) R.m ⟨_,_,hn₃,rfl,rfl⟩ (gY ⟨true,rfl,?_⟩))))
  refine fT (hZ (mZ O F .lP (r:=.u S.b .hY) R.s ⟨_,_,(H₃.lh _).trans bb₃.ru,rfl,rfl⟩ ((H₃.lh _).trans bb₃.rp) rfl rfl (fX (fV R.t (fZ ⟨rfl,Cy (d:=d+4) O H₃ bb₃ St.ip (ab hm (by decide)) _ (.inr (.inr (.inr rfl))) λo' σ₄ H₄ bb₄=>⟨rfl,?_⟩⟩)))))
  have pp₄:PP P (((S.ib k (lM v T)).ia k (stN (.str "up-to-date") N)).jA .gi o') ts w sv:=pp.of rfl rfl
  have hT₄:(((S.ib k (lM v T)).ia k (stN (.str "up-to-date") N)).jA .gi o').tk k=some (lM v T):=St.ip
  refine fT (iM O (mZ O F .nW (r:=.u S.b .hY) R.s ⟨_,_,(H₄.lh _).trans bb₄.ru,rfl,rfl⟩ ((H₄.lh _).trans bb₄.dm) rfl rfl (fX (gw O (r:=.t S.b k .fU) R.t ⟨_,_,H₄.task hT₄,rfl,rfl⟩ (fZ ⟨rfl,Bj (d:=d+2) O F H₄ K.n6 bb₄ pp₄ hk ks λσ₅ H₅=>⟨.t S.b k .fU,_,_,R.t,H₅.task hT₄,rfl,?_⟩⟩)))))
  have H₆:=H₅.UP hT₄ (.ref (.gq n₂))
  rw[show((((S.ib k (lM v T)).ia k (stN (.str "up-to-date") N)).jA .gi o').ib k (ze (.ref (.gq n₂)) (lM v T)))=(((S.jA .gi o').ib k (ze (.ref (.gq n₂)) (lM v T))).ia k (stN (.str "up-to-date") N))from congrArg (λf=>({((S.jA .gi o').ia k (stN (.str "up-to-date") N))with tk:=f}:St)) (lD _ _ _ _)]at H₆
  exact fT (iA (pJ (h2 ks _ _ _ o' _ _ H₆ (bb₄.of rfl rfl))))
 ·rw[if_neg ks]at hn₃ H₃ ⊢
  refine fT (gp (gv (gw O (r:=gC S.b k) R.m ⟨_,_,hn₃,rfl,rfl⟩ (gY ⟨false,congrArg some (show i5 (.str "run") (.str "up-to-date")=false by decide),fY ?_⟩))))
  have hT₃:((S.ib k (lM v T)).ia k (stN (.str "run") N)).tk k=some (lM v T):=St.ip
  exact fT (gp (gM O rfl (gw O (r:=.t S.b k .fU) R.t ⟨_,_,H₃.task hT₃,rfl,rfl⟩ ⟨false,nH (H₃.vT hT₃ .ij),fY (fY (h1 ks _ _ _ _ H₃ ⟨R.s,R.t,R.m,R.d⟩))⟩)))
theorem xQ{x:Nm}{o o':Option O}:(S.jA x o).jA x o'=S.jA x o':=congrArg (λf=>({S with bb:=f}:St)) (lD _ _ _ _)
theorem Sj{T':TS}:((S.ib k T).ia k N).ib k T'=(S.ib k T').ia k N:=congrArg (λf=>({S.ia k N with tk:=f}:St)) (lD _ _ _ _)
theorem Jy(O:gT cx)(F:gK cx)(NS:o9 cx)(K:rG P)(H:RK n0 σ0 S n σ)(bb:BB S ts m)(pp:PP P S ts w sv)(hm:m≤80000)(hk:k<P.n)(hT:S.tk k=some T)(px:T.row=P.row k)(hN:S.nd k=some N)(Ia:N.st=.none)(hw:∀f∈P.row k,∃p,w f=some p)(Sg:k∈sv→w (true,k)≠none)
  (h1:k∉sv→∀n' σ' o v,RK n0 σ0 (((S.jA .gi o).ib k (tQ (lM v T))).ia k (stN (.str "run") N)) n' σ'→BB (S.jA .gi o) ts (m+1)→Q (.bool true) σ')
  (h2:k∈sv→∀n' σ' o v v',RK n0 σ0 (((S.jA .gi o).ib k (ze v' (lM v T))).ia k (stN (.str "up-to-date") N)) n' σ'→BB (S.jA .gi o) ts (m+2)→Q (.bool false) σ'):
  WC cx (d+6) .pH [.ref (.u S.b .hY),.ref (gC S.b k),v0] σ Q:=by
 have hn:=H.node hN
 refine gu O rfl (fT (hU rfl (gw O rfl ⟨_,_,hn,rfl,rfl⟩ (fT (gp (gv (gw O rfl ⟨_,_,hn,rfl,rfl⟩ (iu ⟨true,by rw[Ia];rfl,?_⟩))))))))
 refine fT (hZ (mZ O F .mU rfl ⟨_,_,(H.lh _).trans bb.ru,rfl,rfl⟩ ((H.lh _).trans bb.rp) rfl rfl (fX (fV rfl (fZ ⟨rfl,Cy (d:=d+4) O H bb hT (ab hm (by decide)) _ (.inl rfl) λo σ₁ H₁ bb₁=>⟨rfl,?_⟩⟩)))))
 refine KW (S:=S.jA .gi o) O F K H₁ bb₁ (pp.of rfl rfl) (bl hm) hk hT px hN hw Sg ⟨rfl,rfl,rfl,rfl⟩ (λks n' σ' ρ' v H₃ R=>?_) λks n' σ' ρ' o' v v' a b=>h2 ks n' σ' o' v v' (xQ (S:=S)▸a) (xQ (S:=S)▸b)
 have hT₃:(((S.jA .gi o).ib k (lM v T)).ia k (stN (.str "run") N)).tk k=some (lM v T):=St.ip
 refine fT (Hz (fT (hZ (jH O F .gP (r:=.u S.b .hY) R.s ((H₃.lh _).trans bb₁.ru) rfl rfl (fX (fV R.t (fX (fV R.d (fZ ⟨rfl,Cv (d:=d+3) O F NS H₃ hT₃ λn₄ σ₄ H₄=>⟨rfl,fY (fY (fT (iA (pJ (h1 ks n₄ σ₄ o v ?_ bb₁)))))⟩⟩)))))))))
 exact Sj (S:=S.jA .gi o)▸H₄
theorem OW{b:Nat}(h:σ (.vals b k)=some (.dict [])):up σ (.vals b k) (some (.dict []))=σ:=funext λx=>(kJ σ (.vals b k) _ x).elim (λu=>u.2.trans (u.1▸h.symm)) λu=>u.2
theorem Km(O:gT cx)(H:RK n0 σ0 S n σ)(hT:S.tk k=some T)(hv:T.vals=.ref (.vals S.b k))(SV:S.vv S.b k=true)(p:ρ .fU=some (.ref (.t S.b k .fU)))(q1:ρ .CX=some (.str "ok"))(q2:ρ .gL=some (.str "done"))(q3:ρ .jo=some (.ref (.t S.b k .n9)))
  (h:∀σ',RK n0 σ0 (S.ib k (resT (.str "done") T)) n σ'→QQ .next σ' ρ):WS cx d RG (lk []) ρ σ QQ:=by
 have vd:=H.isV (b:=S.b) (k:=k) SV
 refine fT (gp (gv (fV q1 (gY ⟨false,congrArg some (show i5 (.str "ok") (.str "fail")=false by decide),fY (fT (gp (gv (fV q1 (gY ⟨false,congrArg some (show i5 (.str "ok") (.str "error")=false by decide),fY ?_⟩)))))⟩))))
 refine fT (iM O (fV q2 ⟨.t S.b k .fU,_,_,p,H.task hT,rfl,?_⟩))
 have H₄:=H.YS hT (.str "done")
 refine fT (hZ (FY O (gw O (r:=.t S.b k .fU) p ⟨_,_,H₄.task St.ip,rfl,congrArg some hv⟩ ⟨⟨_,sk (nf rfl) vd⟩,fV q3 ⟨_,_,_,rfl,rfl,nf rfl,sk (nf rfl) vd,sk (nf rfl) (H.vT hT .n9),rfl,fY ?_⟩⟩)))
 rw[OW (sk (nf rfl) vd)]
 exact h _ H₄
theorem FI(O:gT cx)(F:gK cx)(H:RK n0 σ0 S n σ)(bb:BB S ts m)(hm:m≤80000)(hT:S.tk k=some T)(ho:T.opts=true)(hv:T.vals=.ref (.vals S.b k))(SV:S.vv S.b k=true)
  (h:∀σ' o,RK n0 σ0 ((S.jA .gi o).ib k (resT (.str "done") (A7 T))) n σ'→BB (S.jA .gi o) ts (m+1)→Q .none σ'):
  WC cx (d+3) .oI [.ref (.u S.b .hY),.ref (.t S.b k .fU)] σ Q:=by
 refine gu O rfl (fT (hZ (mZ O F .ma rfl ⟨_,_,(H.lh _).trans bb.ru,rfl,rfl⟩ ((H.lh _).trans bb.rp) rfl rfl (fX (fV rfl (fZ ⟨rfl,Cy (d:=d+1) O H bb hT (ab hm (by decide)) _ (.inr (.inl rfl)) λo σ₁ H₁ bb₁=>⟨rfl,?_⟩⟩))))))
 have H₂:=H₁.Zd hT
 have hT₂:((S.jA .gi o).ib k (A7 T)).tk k=some (A7 T):=St.ip
 refine fT (iA (jH O F .Ar rfl (H₁.task hT) rfl rfl (fX (iu (fZ ⟨rfl,gu O rfl (fT (iM O (pJ ⟨_,_,_,rfl,H₁.task hT,rfl,fT (hZ (jH O F .kA rfl (H₂.task hT₂) rfl rfl (fZ ⟨rfl,pM O H₂ hT₂ (λZ=>⟨rfl,?_⟩) λe=>bf (e.symm.trans ho)⟩)))⟩)))⟩)))))
 refine fT (jO (f:=id) (l:=[V.tup [.str "ok",.str "done",.ref (.t S.b k .n9)]]) (r:=.t S.b k .jK) rfl (λi σ' ρ'=>ρ' .fU=some (.ref (.t S.b k .fU))∧RK n0 σ0 (i.casesOn ((S.jA .gi o).ib k (A7 T)) λZ=>(S.jA .gi o).ib k (resT (.str "done") (A7 T))) n σ')
  (gw O (r:=.t S.b k .fU) rfl ⟨_,_,H₂.task hT₂,rfl,rfl⟩ ⟨rfl,rfl,H₂⟩) (λi σ' ρ' q=>?_) (λi a σ' ρ' e q=>?_) λσ' ρ' q=>fY (h _ o q.2 bb₁))
 ·cases i with
  |zero=>exact q.2.vT (S:=(S.jA .gi o).ib k _) St.ip .jK
  |succ i=>exact q.2.vT (S:=(S.jA .gi o).ib k _) St.ip .jK
 ·cases i with
  |succ i=>exact nn e
  |zero=>exact Option.some.inj e▸Km (S:=(S.jA .gi o).ib k (A7 T)) O q.2 St.ip hv SV (by exact q.1) rfl rfl rfl λσ' H'=>⟨q.1,by rw[xF]at H';exact H'⟩
end
end
mutual
def XZ(ts:Bool)(o:Option (Int×Str)):V:=o.casesOn .none λp=>Rd ts p
def JL(ts:Bool)(b k:Nat):List (Str×V):=putD (putD (putD [] (aa "_values_:") (.ref (.vals b k))) (aa "result:") (.str "done")) (aa "checker:") (.str (Up ts))
def F7(ts:Bool)(w:Fs)(E:List (Str×V))(l:List lO):List (Str×V):=l.foldl (λE f=>putD E (jh f) (XZ ts (w f))) E
def J0(P:jP)(ts:Bool)(w:Fs)(b k:Nat):List (Str×V):=putD (F7 ts w (JL ts b k) (P.row k)) (aa "deps:") (.tup (sV ((P.row k).map jh)))
theorem m9(l:List (Str×V))(k:Str)(v:V):(putD l k v).length≤l.length+1:=by
 by_cases h:(l.any λp=>p.1==k)=true
 ·rw[show putD l k v=_ from if_pos h,ai];exact aT _
 ·rw[show putD l k v=_ from if_neg h,ax];exact aL _
theorem Eb{ts:Bool}{w:Fs}:∀(l:List lO) (E:List (Str×V)),(F7 ts w E l).length≤E.length+l.length
 |[],E=>aL _
 |f::l,E=>ab (Eb l (putD E (jh f) (XZ ts (w f)))) (ab (aX (m9 ..) _) (ay ((b0 ..).trans (congrArg (E.length+ ·) (bR ..)))))
theorem wC{ts:Bool}{w:Fs}{x:Str}:∀(l:List lO) (E:List (Str×V)),(∀f∈l,jh f≠x)→(F7 ts w E l).lookup x=E.lookup x
 |[],E,_=>rfl
 |f::l,E,h=>(wC l _ λg hg=>h g (.tail _ hg)).trans (j8 λe=>h f (.head _) e.symm)
theorem I5{ts:Bool}{w:Fs}{f:lO}:∀(l:List lO) (E:List (Str×V)),(∀f∈l,f.2<6)→f∈l→(F7 ts w E l).lookup (jh f)=some (XZ ts (w f))
 |g::l,E,h6,h=>by
  by_cases e:f∈l
  ·exact I5 l _ (λx hx=>h6 x (.tail _ hx)) e
  ·have q:=(List.mem_cons.mp h).resolve_right e
   rw[←q]
   exact(wC l _ λx hx z=>e (oY (h6 x (.tail _ hx)) (h6 f (q▸.head _)) z▸hx)).trans (oT ..)
theorem wq{f:lO}(h:f.2<6){x:Str}(hx:∀i<6,∀a:Bool,jh (a,i)≠x):jh f≠x:=hx f.2 h f.1
theorem RC:∀i<6,∀a:Bool,jh (a,i)≠aa "_values_:":=by decide+kernel
theorem V9:∀i<6,∀a:Bool,jh (a,i)≠aa "result:":=by decide+kernel
theorem Qf:∀i<6,∀a:Bool,jh (a,i)≠aa "checker:":=by decide+kernel
theorem VL:∀i<6,∀a:Bool,jh (a,i)≠aa "deps:":=by decide+kernel
theorem VF:∀i<6,∀a:Bool,jh (a,i)≠aa "ignore:":=by decide+kernel
section
variable{cx:Cx}{d:Nat}{σ:Hp}{Q:V→Hp→Prop}{n0 n n' k:Nat}{σ0 σ':Hp}
variable{P:jP}{S S':St}{ts:Bool}{w:Fs}{sv:List Nat}{m:Nat}{T:TS}{ρ:Loc}{QQ:Fl→Hp→Loc→Prop}{E:List (Str×V)}
theorem Pt(K:rG P)(hk:k<P.n)(hw:∀f∈P.row k,∃p,w f=some p){b:Nat}(hv:S.vv b k=true):w9 P S ts w k (J0 P ts w b k):=by
 have r6:=K.rl k hk
 have out:∀{x:Str},(∀i<6,∀a:Bool,jh (a,i)≠x)→x≠aa "deps:"→(J0 P ts w b k).lookup x=(JL ts b k).lookup x:=λ{x} h h2=>(j8 h2).trans (wC _ _ λf hf=>wq (r6 f hf) h)
 exact⟨⟨b,(out RC (by decide)).trans ((j8 (by decide)).trans ((j8 (by decide)).trans (oT ..))),hv⟩,(out Qf (by decide)).trans (oT ..),(out VF (by decide)).trans ((j8 (by decide)).trans ((j8 (by decide)).trans (j8 (by decide)))),
  λf hf=>(hw f hf).elim λp e=>⟨p,e,(j8 (wq (r6 f hf) VL)).trans ((I5 _ _ r6 hf).trans (by rw[e];rfl))⟩,oT ..⟩
theorem i9{x:Nm}{i:Nat}{o:Option O}:(S.iP x i o).pp x i=o:=if_pos ⟨rfl,rfl⟩
theorem iC{x y:Nm}{i j:Nat}{o:Option O}(h:y≠x):(S.iP x i o).pp y j=S.pp y j:=if_neg λe=>h e.1
theorem vJ{x y:Nm}{i j:Nat}{o:Option O}(h:j≠i):(S.iP x i o).pp y j=S.pp y j:=if_neg λe=>h e.2
theorem xC{x:Nm}{i:Nat}{o o':Option O}:(S.iP x i o).iP x i o'=S.iP x i o':=congrArg (λf=>({S with pp:=f}:St)) (funext λy=>funext λj=>by
 by_cases e:y=x∧j=i
 ·rw[if_pos e,if_pos e]
 ·rw[if_neg e,if_neg e];exact if_neg e)
def OL(sv:List Nat):List (Str×V):=sv.map λk=>(tn k,.ref (yv k))
def CL(S:St)(l:List Nat)(k:Nat)(E:List (Str×V)):St:=(S.iP .oD 0 (some (.dict (OL l)))).iP .iO k (some (.dict E))
theorem G1{l:List Nat}:(CL S l k E).pp .oD 0=some (.dict (OL l)):=(iC (nf rfl)).trans i9
theorem K0{l:List Nat}{x:Nm}{j:Nat}(h1:x≠.oD)(h2:x≠.iO):(CL S l k E).pp x j=S.pp x j:=(iC h2).trans (iC h1)
theorem Qy{l:List Nat}{j:Nat}(h:j≠k):(CL S l k E).pp .iO j=S.pp .iO j:=(vJ h).trans (iC (nf rfl))
theorem TZ(O:gT cx)(F:gK cx){l:List Nat}(H:RK n0 σ0 (CL S l k E) n σ)(bb:BB S ts m)(hl:(OL l).lookup (tn k)=some (.ref (yv k)))(hn:E.length≤1000){dep:Str}{v:V}
  (h:∀σ',RK n0 σ0 (CL S l k (putD E dep v)) n σ'→Q .none σ'):WC cx (d+2) .mL [.ref (.u S.b .gj),.str (tn k),.str dep,v] σ Q:=
 have be:=(H.lh .j5).trans bb.be
 gu O rfl (fT (hZ (mZ O F .qk rfl ⟨_,_,(H.lh .gj).trans bb.dm,rfl,rfl⟩ be rfl rfl (fX (fV rfl (fX (fV rfl (fX (fV rfl (fZ ⟨rfl,wD O be rfl ((H.lz _ _).trans G1) hl ((H.lz _ _).trans i9) (ao hn (by decide)) ⟨rfl,fY (h _ (by
  have z:=H.iP .iO k (some (.dict (putD E dep v)))
  rw[CL,xC]at z
  exact z))⟩⟩))))))))))
theorem Pe{l:List Nat}{E':List (Str×V)}:((S.iP .iO k (some (.dict E'))).iP .oD 0 (some (.dict (OL l)))).iP .iO k (some (.dict E))=CL S l k E:=congrArg (λf=>({S with pp:=f}:St)) (funext λy=>funext λj=>by
  by_cases e:y=.iO∧j=k
  ·rw[if_pos e];exact(if_pos e).symm
  ·rw[if_neg e]
   refine Eq.trans ?_ (if_neg e).symm
   show(if y=.oD∧j=0 then _ else if y=.iO∧j=k then _ else S.pp y j)=_
   rw[if_neg e];rfl)
theorem Gs(O:gT cx)(F:gK cx)(H:RK n0 σ0 S n σ)(bb:BB S ts m){L:List (Str×V)}(hL:S.pp .oD 0=some (.dict L))(hl:L.lookup (tn k)=none)(hE:S.pp .iO k=none)(hn:L.length≤1000){l:List Nat}(hp:putD L (tn k) (.ref (yv k))=OL l){dep:Str}{v:V}
  (h:∀σ',RK n0 σ0 (CL S l k (putD [] dep v)) n σ'→Q .none σ'):WC cx (d+2) .mL [.ref (.u S.b .gj),.str (tn k),.str dep,v] σ Q:=by
 have be:=(H.lh _).trans bb.be
 refine gu O rfl (fT (hZ (mZ O F .qk rfl ⟨_,_,(H.lh _).trans bb.dm,rfl,rfl⟩ be rfl rfl (fX (fV rfl (fX (fV rfl (fX (fV rfl (fZ ⟨rfl,w5 O be rfl ((H.lz _ _).trans hL) hl ((H.lz _ _).trans hE) (ao hn (by decide)) ⟨rfl,fY (h _ ?_)⟩⟩))))))))))
 have H₁:=((H.iP .iO k (some (.dict []))).iP .oD 0 (some (.dict (OL l)))).iP .iO k (some (.dict (putD [] dep v)))
 rw[hp]
 rw[Pe]at H₁
 exact H₁
def Xj(ts:Bool):Fn:=ts.casesOn .oq .lX
theorem CG(O:gT cx)(F:gK cx){r:I}{f:lO}{p:Int×Str}{fs:Nm→Option V}{W:List (Str×V)}(hr:σ r=some (.inst (Qz ts) fs))(h1:fs .oR=none)(h2:fs .kD=some (.ref kz))(hw:σ kz=some (.dict W))(hl:W.lookup (jh f)=some (kU p))(h:Q (Rd ts p) σ):WC cx (d+2) (Xj ts) [.ref r,.str (jh f),.none] σ Q:=by
 cases ts
 ·exact yw O F hr h1 h2 hw hl h
 ·exact yu O F hr h1 h2 hw hl rfl (au rfl) h
structure Sn(b k:Nat)(ρ:Loc):Prop where
 s:ρ .fU=some (.ref (.u b .gj))
 t:ρ .gc=some (.ref (.t b k .fU))
theorem yY(O:gT cx)(F:gK cx){l:List Nat}(H:RK n0 σ0 (CL S l k E) n σ)(bb:BB S ts m)(hT:S.tk k=some T)(hl:(OL l).lookup (tn k)=some (.ref (yv k)))(hn:E.length≤1000)(R:Sn S.b k ρ){dep:Str}{v:V}{ea ev:ME}(ha:∀Q,Q (.str dep) σ→WE cx (d+2) ea (lk []) ρ σ Q)(hv:∀Q,Q v σ→WE cx (d+2) ev (lk []) ρ σ Q)
  (h:∀σ',RK n0 σ0 (CL S l k (putD E dep v)) n σ'→QQ .next σ' ρ):W1 cx (d+2) (.ex (.gn (.var .fU) .qg [(.attr (.var .gc) .gI),ea,ev] [])) (lk []) ρ σ QQ:=
 hZ (jH O F .mL R.s ((H.lh .gj).trans bb.dm) rfl rfl (fX (gw O R.t ⟨_,_,H.task hT,rfl,rfl⟩ (fX (ha _ (fX (hv _ (fZ ⟨rfl,TZ O F H bb hl hn λσ' H'=>⟨rfl,h σ' H'⟩⟩))))))))
theorem O9(O:gT cx)(F:gK cx){l:List Nat}(H:RK n0 σ0 (CL S l k E) n σ)(bb:BB S ts m)(pp:PP P S ts w sv)(hT:S.tk k=some T)(hl:(OL l).lookup (tn k)=some (.ref (yv k)))(hn:E.length≤1000)(R:Sn S.b k ρ){f:lO}(f6:f.2<6){p:Int×Str}(wp:w f=some p)(fo:E.lookup (jh f)=none)
  (h:∀σ' ρ',RK n0 σ0 (CL S l k (putD E (jh f) (Rd ts p))) n σ'→Sn S.b k ρ'→QQ .next σ' ρ'):WS cx (d+3) Q3 (lk []) (up ρ .jf (some (.str (jh f)))) σ QQ:=pp.wd.elim λW wd=>by
 have dm:=(H.lh .gj).trans bb.dm
 have be:=(H.lh .j5).trans bb.be
 have ck:=(H.lh .gV).trans bb.ck
 refine fT (hU rfl (EW O F (f:=Xj ts) H (bb.of rfl rfl) (by exact R.s) (by cases ts<;>rfl) (nf rfl) (fX (fV rfl (fX (jH O F .jN (r:=.u S.b .gj) R.s dm rfl rfl (fX (gw O (r:=.t S.b k .fU) R.t ⟨_,_,H.task hT,rfl,rfl⟩ (fX (fV rfl (fZ ⟨rfl,
  gu O rfl (fT (iA (mZ O F .sS rfl ⟨_,_,dm,rfl,rfl⟩ be rfl rfl (fX (fV rfl (fX (fV rfl (fZ ⟨rfl,vt (d:=d+1) O be rfl ((H.lz .oD 0).trans G1) (λq=>nn (q.symm.trans hl)) λv q=>⟨_,_,(Option.some.inj (hl.symm.trans q)).symm,(H.lz .iO k).trans i9,?_⟩⟩))))))))⟩)))))))))))
 rw[fo]
 refine fZ ⟨by cases ts<;>rfl,?_⟩
 show WC cx (d+3) _ (qG (Xj ts) [.ref (.u S.b .gV),.str (jh f),.none] []) _ _
 rw[show qG (Xj ts) [.ref (.u S.b .gV),.str (jh f),.none] []=[.ref (.u S.b .gV),.str (jh f),.none] by cases ts<;>rfl]
 exact CG (d:=d+1) (p:=p) O F ck rfl uU ((H.lz .gF 0).trans ((K0 (nf rfl) (nf rfl)).trans wd.1)) ((wd.2.2 f f6).trans (congrArg (bh kU) wp))
  (fT (gp (gv (fV rfl (iu ⟨true,by cases ts<;>rfl,fT (yY (d:=d+1) O F H bb hT hl hn (by exact⟨R.s,R.t⟩) (λZ q=>fV rfl q) (λZ q=>fV rfl q) λσ₅ H₅=>fY (fY (h _ _ H₅ ⟨R.s,R.t⟩)))⟩)))))
theorem Qc(O:gT cx)(F:gK cx)(K:rG P)(H:RK n0 σ0 S n σ)(bb:BB S ts m)(pp:PP P S ts w sv)(hk:k<P.n)(ks:k∉sv)(hT:S.tk k=some T)(px:T.row=P.row k)(hw:∀f∈P.row k,∃p,w f=some p)(SV:S.vv S.b k=true)(hv:T.vals=.ref (.vals S.b k))(CD:T.res=.str "done")
  (h:∀σ',RK n0 σ0 (CL S (sv++[k]) k (J0 P ts w S.b k)) n σ'→PP P (CL S (sv++[k]) k (J0 P ts w S.b k)) ts w (sv++[k])→Q .none σ'):
  WC cx (d+4) .jX [.ref (.u S.b .gj),.ref (.t S.b k .fU),.none] σ Q:=(Um ts).elim λtok Ws=>by
 have k6:k<6:=ae hk K.n6
 have s6:∀x∈sv,x<6:=λx hx=>ae (pp.sl x hx) K.n6
 have r6:=K.rl k hk
 have NZ:(OL (sv++[k])).lookup (tn k)=some (.ref (yv k)):=(rH (f:=λk=>.ref (yv k)) (k9 s6 (oi k6)) k6).trans (if_pos (List.mem_append.mpr (.inr (.head _))))
 refine gu O rfl (fT (hZ (jH O F .mL rfl ((H.lh _).trans bb.dm) rfl rfl (fX (gw O rfl ⟨_,_,H.task hT,rfl,rfl⟩ (fX (gY (fX (gw O rfl ⟨_,_,H.task hT,rfl,congrArg some hv⟩ (fZ ⟨rfl,Gs (d:=d+1) O F H bb pp.db ((pp.look K.n6 hk).trans (if_neg ks)) (pp.no k ks) (ab (ay (ai ..)) (ab (i4 pp.sn s6) (by decide)))
  ((C1 (f:=λk=>.ref (yv k)) s6 k6).trans (by rw[if_neg ks];rfl)) λσ₁ H₁=>⟨rfl,?_⟩⟩))))))))))
 have R:Sn S.b k (BY .jX [.ref (.u S.b .gj),.ref (.t S.b k .fU),.none]):=⟨rfl,rfl⟩
 have tk:=H₁.task (T:=T) hT
 refine fT (gp (gv (fV rfl (iu ⟨false,rfl,fT (gp (gM O rfl (gw O rfl ⟨_,_,tk,rfl,congrArg some CD⟩ ⟨true,rfl,fT (gp (gM O rfl (CM O rfl (gw O rfl ⟨_,_,tk,rfl,congrArg some CD⟩ (.d _ rfl rfl ⟨false,rfl,?_⟩)))))⟩)))⟩))))
 refine fT (yY (d:=d+1) O F H₁ bb hT NZ (ab (m9 ..) (by decide)) R (λZ q=>gY q) (v:=.str "done") (λZ q=>wk O (F _) (fX (gw O R.t ⟨_,_,tk,rfl,congrArg some CD⟩ (fZ (jE ⟨rfl,rfl,gu O rfl (fT (iA (fV rfl q)))⟩))))) λσ₂ H₂=>fY (fY (fY ?_)))
 have iL:(JL ts S.b k).length≤3:=ab (m9 ..) (bl (ab (m9 ..) (bl (m9 ..))))
 refine fT (yY (d:=d+1) O F H₂ bb hT NZ (ab (m9 ..) (ab (bl (m9 ..)) (by decide))) R (λZ q=>gY q) (v:=.str (Up ts)) (λZ q=>AG O (by decide) (gw O R.s ⟨_,_,(H₂.lh .gj).trans bb.dm,rfl,rfl⟩ ⟨_,_,_,_,tok,rfl,(H₂.lh .gV).trans bb.ck,Ws,rfl,q⟩)) λσ₃ H₃=>?_)
 have H₃:RK n0 σ0 (CL S (sv++[k]) k (JL ts S.b k)) n σ₃:=H₃
 have fd:∀{E:List (Str×V)} {σ:Hp},RK n0 σ0 (CL S (sv++[k]) k E) n σ→σ (.t S.b k .gm)=some (.list (sV ((P.row k).map jh))):=λH=>px▸H.vT (T:=T) hT .gm
 have len:∀l:List lO,l.length≤100→(F7 ts w (JL ts S.b k) l).length≤1000:=λl hl=>ab (Eb l _) (ab (bz iL hl) (by decide))
 refine fT (jO (f:=λf=>.str (jh f)) (l:=P.row k) (r:=.t S.b k .gm) rfl (λi σ' ρ'=>RK n0 σ0 (CL S (sv++[k]) k (F7 ts w (JL ts S.b k) ((P.row k).take i))) n σ'∧Sn S.b k ρ')
  (gw O R.t ⟨_,_,H₃.task (T:=T) hT,rfl,rfl⟩ ⟨rfl,H₃,R⟩) (λi σ' ρ' q=>(fd q.1).trans (congrArg (λl=>some (Mine.O.list l)) (qU _ _))) (λi f σ₄ ρ₄ e q=>?_) λσ₄ ρ₄ q=>?_)
 ·have hf:=aE e
  have ll:((P.row k).take i).length≤100:=ab (by rw[aO];exact a8 _ _) (K.Ki k hk)
  refine(hw f hf).elim λp wp=>O9 (d:=d) O F q.1 bb pp hT NZ (len _ ll) q.2 (r6 f hf) wp ((wC _ _ λg hg z=>?_).trans ((j8 (wq (r6 f hf) Qf)).trans ((j8 (wq (r6 f hf) V9)).trans (j8 (wq (r6 f hf) RC))))) λσ' ρ' H' R'=>⟨?_,R'⟩
  ·exact(List.mem_take_iff_getElem.mp hg).elim λj w=>w.elim λhj e2=>List.pairwise_iff_getElem.mp (K.U7 k hk) j i (ae hj (a8 _ _)) (mE e) (ae hj (bp _ _)) (e2.trans ((oY (r6 g (br hg)) (r6 f hf) z).trans (List.getElem?_eq_some_iff.mp e).2.symm))
  ·rw[bg,e]
   unfold F7
   rw[bU,eX,dW,wp]
   exact H'
 ·have H₄:=q.1
  rw[aV]at H₄
  refine fT (yY (d:=d+1) O F H₄ bb hT NZ (len _ (K.Ki k hk)) q.2 (λZ q=>gY q) (v:=.tup (sV ((P.row k).map jh))) (λZ z=>Bo O (gw O q.2.t ⟨_,_,H₄.task (T:=T) hT,rfl,rfl⟩ ⟨_,_,rfl,fd H₄,z⟩)) λσ₅ H₅=>fY (h σ₅ H₅ ⟨?_,G1,k9 pp.sl (oi hk),oN pp.sn ks,λj hj=>?_,λj hj=>?_⟩))
  ·rw[K0 (nf rfl) (nf rfl)];exact pp.wd
  ·by_cases jk:j=k
   ·rw[jk];exact⟨_,i9,Pt (ts:=ts) K hk hw SV⟩
   ·exact(pp.en j ((List.mem_append.mp hj).resolve_right λq=>jk (ag.mp q))).elim λE e=>⟨E,(Qy jk).trans e.1,e.2.of rfl⟩
  ·exact(Qy λe=>hj (List.mem_append.mpr (.inr (ag.mpr e)))).trans (pp.no j λq=>hj (List.mem_append.mpr (.inl q)))
end
end
mutual
section
variable{cx:Cx}{d:Nat}{σ:Hp}{Q:V→Hp→Prop}{n0 n n' k:Nat}{σ0 σ':Hp}
variable{P:jP}{S S':St}{ts:Bool}{w:Fs}{sv:List Nat}{m:Nat}{T:TS}{N:ND}
theorem qt{x y:Nm}{o:Option O}(h:x≠y):(S.jA y o).bb x=S.bb x:=gD _ _ h
def Vr(P:jP)(ts:Bool)(w:Fs)(sv:List Nat)(k:Nat)(N:ND)(S:St)(o:Option O):St:=((CL S (sv++[k]) k (J0 P ts w S.b k)).ia k (stN (.str "successful") N)).jA .gi o
theorem F4(O:gT cx)(F:gK cx)(K:rG P)(H:RK n0 σ0 S n σ)(bb:BB S ts m)(hm:m≤80000)(pp:PP P S ts w sv)(hk:k<P.n)(ks:k∉sv)(hT:S.tk k=some T)(px:T.row=P.row k)(hN:S.nd k=some N)(hw:∀f∈P.row k,∃p,w f=some p)(SV:S.vv S.b k=true)(hv:T.vals=.ref (.vals S.b k))(CD:T.res=.str "done")
  (h:∀σ' o,RK n0 σ0 (Vr P ts w sv k N S o) n σ'→PP P (Vr P ts w sv k N S o) ts w (sv++[k])→BB (Vr P ts w sv k N S o) ts (m+1)→Q .none σ'):
  WC cx (d+5) .lT [.ref (.u S.b .hY),.ref (gC S.b k),.none] σ Q:=by
 have ht:=H.task hT
 refine gu O rfl (fT (hU rfl (gw O rfl ⟨_,_,H.node hN,rfl,rfl⟩ (fT (gp (gv (fV rfl (iu ⟨true,rfl,fT (hZ (jH O F .rU (r:=.t S.b k .fU) rfl ht rfl rfl (fZ ⟨rfl,gu O rfl (fT (nR rfl (gw O rfl ⟨_,_,ht,rfl,rfl⟩ ⟨_,rfl,H.vT hT .kL,fY ⟨rfl,?_⟩⟩)))⟩)))⟩))))))))
 refine fT (Hz (fT (hZ (mZ O F .jX rfl ⟨_,_,(H.lh _).trans bb.ru,rfl,rfl⟩ ((H.lh _).trans bb.dm) rfl rfl (fX (fV rfl (fZ ⟨rfl,Qc (d:=d) O F K H bb pp hk ks hT px hw SV hv CD λσ₁ H₁ pp₁=>⟨rfl,fY (fT (iM O (gY ⟨gC S.b k,_,_,rfl,H₁.node (N:=N) hN,rfl,?_⟩)))⟩⟩)))))))
 have H₂:=H₁.Xr (N:=N) hN (.str "successful")
 refine fT (hZ (mZ O F .my (r:=.u S.b .hY) rfl ⟨_,_,(H₂.lh .hY).trans bb.ru,rfl,rfl⟩ ((H₂.lh .iK).trans bb.rp) rfl rfl (fX (fV rfl (fZ ⟨rfl,Cy (d:=d+3) (ts:=ts) (m:=m) (k:=k) (T:=T) O H₂ (bb.of rfl rfl) hT (ab hm (by decide)) _ (.inr (.inr (.inl rfl))) λo σ₃ H₃ bb₃=>⟨rfl,fT (Hu (h σ₃ o H₃ (pp₁.of rfl rfl) bb₃))⟩⟩)))))
def Xz(S:St)(o o':Option O):St:=(S.jA .gj o).jA .gi o'
theorem Jz(O:gT cx)(F:gK cx)(H:RK n0 σ0 S n σ)(bb:BB S ts m)(hm:m≤80000)(h:∀σ' o o',RK n0 σ0 (Xz S o o') n σ'→Q (.int 0) σ'):WC cx (d+3) .tK [.ref (.u S.b .hY)] σ Q:=bb.ro.elim λl w=>by
 have dm:=(H.lh _).trans bb.dm
 have ru:=(H.lh _).trans bb.ru
 have rp:=(H.lh _).trans bb.rp
 have ro:=(H.lh _).trans w.1
 refine gu O rfl (fT (hZ (mZ O F .v7 rfl ⟨_,_,ru,rfl,rfl⟩ dm rfl rfl (fZ ⟨rfl,gu O rfl ?_⟩))))
 refine fT (gp (qz (gM O rfl (gw O rfl ⟨_,_,dm,rfl,rfl⟩ ⟨false,rfl,?_⟩))))
 refine fT (hZ (mZ O F .vy rfl ⟨_,_,dm,rfl,rfl⟩ ((H.lh _).trans bb.be) rfl rfl (fZ ⟨rfl,AA (d:=d) O ⟨rfl,?_⟩⟩)))
 refine fT (iM O (pJ ⟨_,_,_,rfl,dm,rfl,fY (fY ⟨rfl,?_⟩)⟩))
 have H₁:=H.jA .gj (some (.inst .nO (up (Xh S.b false) .qJ (some (.bool true)))))
 refine fT (hZ (mZ O F .qw rfl ⟨_,_,sk (nf rfl) ru,rfl,rfl⟩ (sk (nf rfl) rp) rfl rfl (fZ ⟨rfl,gu O rfl ?_⟩)))
 exact fT (hZ (jM O (gw O rfl ⟨_,_,sk (nf rfl) rp,rfl,uU⟩ ⟨⟨_,sk (nf rfl) ro⟩,pX (fX (gY (fX (gY (fX (gY (fZ ⟨au rfl,_,_,rfl,sk (nf rfl) ro,ao (ab w.2 hm) (by decide),rfl,fY ⟨rfl,
  fT (iA (gw O rfl ⟨_,_,p4 rfl ru,rfl,rfl⟩ (h _ _ _ (H₁.jA .gi _))))⟩⟩)))))))⟩)))
end
end
mutual
section
variable{cx:Cx}{d:Nat}{γ:Nm→Option I}{ρ:Loc}{σ:Hp}{Q:V→Hp→Prop}
inductive QLT(Q:V→Hp→Prop)(v:V)(σ:Hp):Prop
 |mk (l:List V) (z:I):v=.tup l→l.length≤1000→σ z=none→Q (.ref z) (up σ z (some (.list l)))→QLT Q v σ
theorem E6(O:gT cx){m:ME}(h:WE cx d m γ ρ σ (QLT Q)):WE cx d (.bi .nQ [m]) γ ρ σ Q:=
 qS O h λA φ' σ' s' v y Q' hA S vr q k=>q.casesOn λl z e hl hz q=>(vr.t e).elim λa w=>w.elim λvs w=>w.1.symm▸
  call_list_seq _ (.inr rfl) w.2.1 rfl rfl (λh' c' hk Cp=>have w':=rA S hz (end_none _) hk Cp w.2.2 (ab hl (by decide)) s'.toks;k _ _ _ _ _ w'.g w'.v q) (by rw[aC,←gh.length w.2.2];exact nT (ab hl (by decide)))
end
end
mutual
structure TI(b k:Nat)(fs:Nm→Option V)(g:Nm→Option O)(σc σ:Hp):Prop where
 self:σ (.t b k .fU)=some (.inst .Task fs)
 at_:∀x,x≠.fU→σ (.t b k x)=g x
 Hm:∀r,(∀x,r≠.t b k x)→σ r=σc r
section
variable{cx:Cx}{d:Nat}{σ σc:Hp}{Q:V→Hp→Prop}{n0 n n' k b:Nat}{σ0 σ':Hp}{T:TS}
variable{P:jP}{S S':St}{fs:Nm→Option V}{g:Nm→Option O}
theorem Kw{x y:Nm}(h:x≠y):I.t b k x≠.t b k y:=λe=>h (by injection e)
theorem TI.set(t:TI b k fs g σc σ)(a:Nm)(v:Option V):TI b k (up fs a v) g σc (up σ (.t b k .fU) (some (.inst .Task (up fs a v)))):=
 ⟨fW _ _ _,λx hx=>(gD _ _ (Kw hx)).trans (t.at_ x hx),λr hr=>(gD _ _ (hr _)).trans (t.Hm r hr)⟩
theorem TI.new(t:TI b k fs g σc σ){x:Nm}(hx:x≠.fU)(o:Option O):TI b k fs (up g x o) σc (up σ (.t b k x) o):=
 ⟨(gD _ _ (Kw (Ne.symm hx))).trans t.self,λy hy=>(kJ g x o y).elim (λu=>by rw[u.2,u.1];exact fW _ _ _) λu=>(gD _ _ (Kw u.1)).trans ((t.at_ y hy).trans u.2.symm),λr hr=>(gD _ _ (hr _)).trans (t.Hm r hr)⟩
theorem TI.put(t:TI b k fs g σc σ){r:I}(hr:∀x,r≠.t b k x)(o:Option O):TI b k fs g (up σc r o) (up σ r o):=
 ⟨(gD _ _ (hr _).symm).trans t.self,λy hy=>(gD _ _ (hr _).symm).trans (t.at_ y hy),λq hq=>(kJ σc r o q).elim (λu=>by rw[u.2,u.1];exact fW _ _ _) λu=>(gD _ _ u.1).trans ((t.Hm q hq).trans u.2.symm)⟩
theorem TI.fld(t:TI b k fs g σc σ){x:Nm}(hx:x≠.fU)(o:Option O):TI b k (up fs x (some (.ref (.t b k x)))) (up g x o) σc (up (up σ (.t b k x) o) (.t b k .fU) (some (.inst .Task (up fs x (some (.ref (.t b k x))))))):=(t.new hx o).set x _
theorem TI.gq(t:TI b k fs g σc σ)(i:Nat):σ (.gq i)=σc (.gq i):=t.Hm _ λZ=>nf rfl
def pD(P:jP)(b k:Nat):TS:=⟨P.row k,[],false,.none,.ref (.vals b k),false,.none⟩
def St.J7(S:St)(k:Nat):St:={S with vv:=λb' k'=>if b'=S.b∧k'=k then true else S.vv b' k'}
def St.Jn(S:St)(k:Nat)(T:TS):St:=(S.J7 k).ib k T
theorem RK.J7(H:RK n0 σ0 S n σ):RK n0 σ0 (S.J7 k) n (Mine.up σ (.vals S.b k) (some (.dict []))):=
 H.up rfl rfl (congrArg (λc:Bool=>if c=true then some (O.dict [])else none) (if_pos ⟨rfl,rfl⟩:(if S.b=S.b∧k=k then true else S.vv S.b k)=true)) λx hx hl=>by
  cases x with
  |vals b j=>exact congrArg (λc:Bool=>if c=true then some (O.dict [])else none) (if_neg λe=>hx (by rw[e.1,e.2]))
  |_=>rfl
theorem RK.Jn(H:RK n0 σ0 S n σc)(t:TI S.b k fs g (Mine.up σc (.vals S.b k) (some (.dict []))) σ)(hf:fs=o8 S.b k T)(hg:∀x,x≠.fU→g x=uH S.b k T x):RK n0 σ0 (S.Jn k T) n σ:=
 (H.J7 (k:=k)).VE (λx=>(aK (x=.fU)).elim (λe=>by rw[e];exact t.self.trans (by rw[hf];rfl)) λe=>(t.at_ x e).trans (hg x e)) λr hr=>t.Hm r hr
theorem Rt{x y:Str}(h:(cK y x 0 y.length 1).isEmpty=true):Vy σ (.str x) (.str y)=some false:=congrArg (λb=>some (!b)) h
theorem Sh:∀k<6,(cK (tn k) (aa "=") 0 (tn k).length 1).isEmpty=true:=by decide+kernel
theorem Mn:∀k<6,(cK (tn k) (aa "*") 0 (tn k).length 1).isEmpty=true:=by decide+kernel
def mD(k:Nat):I:=.p .mq k
noncomputable abbrev Dj(b k:Nat):V:=.tup [.str "ok",.str "done",.ref (.t b k .n9)]
theorem Ep{α β:Type}[DecidableEq α]{f:α→β}{r:α}{v:β}(h:f r=v):up f r v=f:=funext λx=>(kJ f r v x).elim (λu=>u.2.trans (u.1▸h.symm)) λu=>u.2
theorem Jg(O:gT cx)(K:rG P)(hk:k<P.n)(t:TI b k fs g σc σ)(hf:fs .gm=some (.ref (.t b k .gm)))(hg:g .gm=some (.list []))(px:σc (mD k)=some (.list (sV ((P.row k).map jh))))
  (h:∀σ',TI b k fs (up g .gm (some (.list (sV ((P.row k).map jh))))) σc σ'→Q .none σ'):WC cx (d+1) .om [.ref (.t b k .fU),.ref (mD k)] σ Q:=by
 have r6:=K.rl k hk
 refine gu O rfl (fT (jO (f:=λf=>.str (jh f)) (l:=P.row k) (r:=mD k) rfl (λi σ' ρ'=>TI b k fs (up g .gm (some (.list (sV (((P.row k).take i).map jh))))) σc σ'∧ρ' .fU=some (.ref (.t b k .fU)))
  (fV rfl ⟨rfl,by rw[show up g .gm (some (.list (sV (((P.row k).take 0).map jh))))=g from Ep hg];exact t,rfl⟩) (λi σ' ρ' q=>(q.1.Hm (mD k) (λZ=>nf rfl)).trans (px.trans (congrArg (λl=>some (Mine.O.list l)) (qU _ _)))) (λi f σ' ρ' e q=>?_) λσ' ρ' q=>?_))
 ·have hfm:=aE e
  have fd:σ' (.t b k .gm)=some (.list (sV (((P.row k).take i).map jh))):=(q.1.at_ .gm (nf rfl)).trans (fW _ _ _)
  refine fT (gp (gM O rfl (CM O rfl (fV rfl (.s _ rfl rfl ⟨true,rfl,fT (gp (gv (fV rfl (gw O (r:=.t b k .fU) q.2 ⟨_,_,q.1.self,rfl,hf⟩ ⟨true,L4 fd λm=>?_,?_⟩))))⟩)))))
  ·exact(List.mem_map.mp m).elim λg' w=>(List.mem_take_iff_getElem.mp w.1).elim λj z=>z.elim λhj e2=>List.pairwise_iff_getElem.mp (K.U7 k hk) j i (ae hj (a8 _ _)) (mE e) (ae hj (bp _ _)) (e2.trans ((oY (r6 g' (br w.1)) (r6 f hfm) w.2).trans (List.getElem?_eq_some_iff.mp e).2.symm))
  ·refine fT (hZ (jM O (gw O (r:=.t b k .fU) q.2 ⟨_,_,q.1.self,rfl,hf⟩ ⟨⟨_,fd⟩,fV (v:=.str (jh f)) rfl ⟨_,_,rfl,fd,ao (ay (m6 _ _)) (ao (ab (by rw[aO];exact a8 _ _) (K.Ki k hk)) (by decide)),rfl,fY (fY (fY ⟨?_,q.2⟩))⟩⟩)))
   have V8:=q.1.new (x:=.gm) (nf rfl) (some (.list (sV (((P.row k).take i).map jh)++[.str (jh f)])))
   rw[lD]at V8
   rw[bg,e,show sV (((P.row k).take i++(some f).toList).map jh)=sV (((P.row k).take i).map jh)++[.str (jh f)] by rw[sV,ar,ar];rfl]
   exact V8
 ·have t':=q.1
  rw[aV]at t'
  exact fY (h _ t')
theorem E9(O:gT cx){ms:List MS}{ρ:Loc}{Q:Fl→Hp→Loc→Prop}{x:Str}{i:Nat}(t:TI b k fs g σc σ)(hg:g .f9=some (.list []))(hc:σc (.gq i)=some (.list [.str x]))(p1:ρ .qo=some (.ref (.gq i)))(p2:ρ .f9=some (.ref (.t b k .f9)))
  (h:∀σ' ρ',TI b k fs (up g .f9 (some (.list [.str x]))) σc σ'→ρ' .f9=some (.ref (.t b k .f9))→WS cx d ms (lk []) ρ' σ' Q):
  WS cx d (.for (.one (.var .mA)) (.var .qo) [.ite (.Fz (.var .mA) (.type "str")) [.ex (.gn (.var .f9) .h7 [(.var .mA)] [])] [.bad]]::ms) (lk []) ρ σ Q:=by
 refine fT (jO (f:=V.str) (l:=[x]) (r:=.gq i) rfl (λj σ' ρ'=>TI b k fs (up g .f9 (some (.list (sV ([x].take j))))) σc σ'∧ρ' .f9=some (.ref (.t b k .f9)))
  (fV p1 ⟨rfl,by rw[show up g .f9 (some (.list (sV ([x].take 0))))=g from Ep hg];exact t,p2⟩) (λj σ' ρ' q=>(q.1.gq i).trans hc) (λj y σ' ρ' e q=>?_) λσ' ρ' q=>h σ' ρ' q.1 q.2)
 cases j with
 |succ j=>exact nn e
 |zero=>
  have tg:σ' (.t b k .f9)=some (.list []):=(q.1.at_ .f9 (nf rfl)).trans (fW _ _ _)
  have ey:x=y:=Option.some.inj e
  have V8:=q.1.new (x:=.f9) (nf rfl) (some (.list ([]++[.str y])))
  rw[lD]at V8
  exact fT (gp (gM O rfl (CM O rfl (fV rfl (.s _ rfl rfl ⟨true,rfl,fT (hZ (jM O (fV (v:=.ref (.t b k .f9)) q.2 ⟨⟨_,tg⟩,fV (v:=.str y) rfl ⟨_,_,rfl,tg,Nat.succ_pos _,rfl,fY (fY ⟨by rw[ey];exact V8,q.2⟩)⟩⟩)))⟩)))))
theorem DM(x:Nm):∀l:List (Nm×O),AW none (l.map λp=>(p.1,some p.2)) x=lk l x
 |[]=>rfl
 |(y,b)::l=>congrArg (λo=>bif aS x.i y.i then some b else o) (DM x l)
theorem Ej{α:Type}{d:α}{x y:Nm}(n:x≠y)(v:α)(l:List (Nm×α)):AW d ((y,v)::l) x=AW d l x:=by
 show(bif aS x.i y.i then v else AW d l x)=_
 rw[show aS x.i y.i=false from Bool.eq_false_iff.mpr λe=>n (Nm.ext (bw e))];rfl
def RB(P:jP)(b k:Nat):List (Nm×O):=[(.n9,.dict []),(.j4,.dict []),(.ij,.list []),(.jK,.list [Dj b k]),(.gm,.list (sV ((P.row k).map jh))),(.gr,.list (sV ([]:List Str))),(.kM,.list []),(.gy,.list []),(.kL,.list []),(.iI,.list []),(.f9,.list [.str (jh (true,k))])]
theorem OG{x:Nm}(h:x≠.fU):uH b k (pD P b k) x=lk (RB P b k) x:=(Ej h _ _).trans ((aK (x=.kG)).elim (λe=>by rw[e];rfl) λe=>(Ej e _ _).trans (DM x (RB P b k)))
end
end
mutual
section
variable{cx:Cx}{d:Nat}{σ σc:Hp}{Q:V→Hp→Prop}{n0 n n' k b:Nat}{σ0 σ':Hp}
variable{P:jP}{S S':St}{fs:Nm→Option V}{g:Nm→Option O}{ρ:Loc}{QQ:Fl→Hp→Loc→Prop}{x:Nm}
theorem xr(O:gT cx)(t:TI b k fs g σc σ)(hx:x≠.fU)(hg:g x=none)(p:ρ .fU=some (.ref (.t b k .fU)))(ha:pL.Task.attr x=none)(h:∀σ',TI b k (up fs x (some (.ref (.t b k x)))) (up g x (some (.list []))) σc σ'→QQ .next σ' ρ):W1 cx d (.hO (.var .fU) x (.list [])) (lk []) ρ σ QQ:=
 iM O (iQ (fZ ⟨aw _,.t b k x,(t.at_ x hx).trans hg,.t b k .fU,_,_,p,(t.new hx (some (.list []))).self,ha,h _ (t.fld hx _)⟩))
theorem ua(O:gT cx)(t:TI b k fs g σc σ){m:ME}{v:V}(hm:∀Q,Q v σ→WE cx d m (lk []) ρ σ Q)(p:ρ .fU=some (.ref (.t b k .fU)))(ha:pL.Task.attr x=none)(h:∀σ',TI b k (up fs x (some v)) g σc σ'→QQ .next σ' ρ):W1 cx d (.hO (.var .fU) x m) (lk []) ρ σ QQ:=
 iM O (hm _ ⟨.t b k .fU,_,_,p,t.self,ha,h _ (t.set x _)⟩)
theorem CO(O:gT cx)(F:gK cx)(K:rG P)(hk:k<P.n)(t:TI b k fs g σc σ)(g1:g .gm=none)(g2:g .gr=none)(g3:g .kM=none)(g4:g .gy=none)(f1:fs .mY=none)(px:σc (mD k)=some (.list (sV ((P.row k).map jh))))
  (h:∀σ',TI b k (up (up (up (up (up fs .i3 (some .none)) .gm (some (.ref (.t b k .gm)))) .gr (some (.ref (.t b k .gr)))) .kM (some (.ref (.t b k .kM)))) .gy (some (.ref (.t b k .gy))))
   (up (up (up (up g .gm (some (.list (sV ((P.row k).map jh))))) .gr (some (.list []))) .kM (some (.list []))) .gy (some (.list []))) σc σ'→Q .none σ'):
  WC cx (d+2) .sI [.ref (.t b k .fU),.ref (mD k),.tup [],.tup []] σ Q:=by
 refine gu O rfl (fT (ua O t (λZ q=>iu q) rfl rfl λσ1 t1=>fT (xr O t1 (nf rfl) g1 rfl rfl λσ2 t2=>?_)))
 refine fT (hZ (jH O F .om rfl t2.self rfl (by exact f1) (fX (fV rfl (fZ ⟨rfl,Jg O K hk t2 rfl rfl px λσ3 t3=>⟨rfl,?_⟩⟩)))))
 rw[lD]at t3
 refine fT (xr O t3 (nf rfl) g2 rfl rfl λσ4 t4=>fT (xr O t4 (nf rfl) g3 rfl rfl λσ5 t5=>fT (gp (gM O rfl (fV rfl ⟨false,rfl,fY (fT (xr O t5 (nf rfl) g4 rfl rfl λσ6 t6=>fT (gp (gM O rfl (fV rfl ⟨false,rfl,fY (fY (h _ t6))⟩)))))⟩)))))
structure Ti0(P:jP)(S:St)(k i j n:Nat)(σc:Hp):Prop where
 hi:i<n
 hj:j<n
 row:S.pp .mq k=some (.list (sV ((P.row k).map jh)))
 act:σc (.gq i)=some (.list [Dj S.b k])
 tg:σc (.gq j)=some (.list [.str (jh (true,k))])
 vv:S.vv S.b k=false
theorem C6(O:gT cx)(F:gK cx)(K:rG P)(hk:k<P.n)(H:RK n0 σ0 S n σc)(t:TI S.b k (λZ=>none) (up (λZ=>none) .n9 (some (.dict []))) σc σ){i j:Nat}(X:Ti0 P S k i j n σc)
  (h:∀σ',RK n0 σ0 (S.Jn k (pD P S.b k)) (n+2) σ'→Q .none σ'):
  WC cx (d+3) .uP [.ref (.t S.b k .fU),.str (tn k),.ref (.gq i),.ref (mD k),.ref (.gq j),.tup [],.tup [],.tup [],.tup [],.none,.bool false,.none] σ Q:=by
 have k6:k<6:=ae hk K.n6
 refine gu O rfl (fT (hU rfl (Kl O (fV rfl ⟨false,rfl,Gf (lI O (r:=.t S.b k .j4) (t.at_ _ (nf rfl)) ?_)⟩))))
 have t1:=t.new (x:=.j4) (nf rfl) (some (.dict []))
 refine fT (gp (gv (gY (fV rfl ⟨false,Rt (σ:=σ) (Sh k k6),fY ?_⟩))))
 refine fT (ua O t1 (λZ q=>fV rfl q) rfl rfl λσ2 t2=>fT (ua O t2 (λZ q=>iu q) rfl rfl λσ3 t3=>?_))
 refine fT (iM O (E6 O (fV rfl ⟨[],.t S.b k .ij,rfl,aw _,t3.at_ _ (nf rfl),.t S.b k .fU,_,_,rfl,(t3.new (x:=.ij) (nf rfl) (some (.list []))).self,rfl,?_⟩)))
 have t4:=t3.fld (x:=.ij) (nf rfl) (some (.list []))
 have t5:=t4.put (r:=.gq n) (λZ=>nf rfl) (some (.list [Dj S.b k]))
 refine fT (gp (gv (fV rfl (iu ⟨false,rfl,fT (iM O (qu O (sU (fV rfl ⟨.gq i,_,.gq n,rfl,.inl ((t4.gq i).trans X.act),rfl,rfl,(t4.gq n).trans H.no,?_⟩))))⟩))))
 rw[s7]
 refine⟨_,_,.t S.b k .jK,rfl,fW _ _ _,t5.at_ .jK (nf rfl),.t S.b k .fU,_,_,rfl,(t5.new (x:=.jK) (nf rfl) _).self,rfl,fY ?_⟩
 have t6:=t5.fld (x:=.jK) (nf rfl) (some (.list [Dj S.b k]))
 have H5:=H.new (some (.list [Dj S.b k]))
 refine fT (hZ (jH O F .sI rfl t6.self rfl rfl (fX (fV rfl (fX (fV rfl (fX (fV rfl (fZ ⟨rfl,CO (d:=d) O F K hk t6 rfl rfl rfl rfl rfl ((H5.lz _ _).trans X.row) λσ7 t7=>⟨rfl,?_⟩⟩)))))))))
 refine fT (hU rfl (rO (gM O rfl (fV rfl ⟨false,rfl,iQ (fZ ⟨aw _,.gq (n+1),(t7.gq _).trans H5.no,?_⟩)⟩))))
 have t8:=t7.put (r:=.gq (n+1)) (λZ=>nf rfl) (some (.list []))
 have H6:=H5.new (some (.list []))
 refine fT (ua O t8 (λZ q=>fV rfl q) rfl rfl λσ9 t9=>?_)
 refine fT (gp (gM O rfl (gw O (r:=.t S.b k .fU) rfl ⟨_,_,t9.self,rfl,rfl⟩ ⟨false,D4 (t9.at_ .j4 (nf rfl)),fY (fT (xr O t9 (nf rfl) rfl rfl rfl λσ10 Xx=>?_))⟩)))
 have XK:=Xx.new (x:=.iI) (nf rfl) (some (.list []))
 refine fT (iM O (jH O F .ug (r:=.t S.b k .fU) rfl Xx.self rfl rfl (fX (fV rfl (fZ ⟨rfl,gu O rfl (fT (hU rfl (iQ (fZ ⟨aw _,.t S.b k .iI,Xx.at_ _ (nf rfl),fT (nR rfl (fV rfl ⟨.gq (n+1),rfl,(XK.gq _).trans (fW _ _ _),fT (iA (fV rfl ⟨.t S.b k .fU,_,_,rfl,XK.self,rfl,?_⟩))⟩))⟩))))⟩)))))
 have Yr:=XK.set .iI (some (.ref (.t S.b k .iI)))
 have t13:=Yr.new (x:=.f9) (nf rfl) (some (.list []))
 have tg:up (up σc (.gq n) (some (.list [Dj S.b k]))) (.gq (n+1)) (some (.list [])) (.gq j)=some (.list [.str (jh (true,k))]):=j0 (av (a5 X.hj)) (j0 (av X.hj) X.tg)
 refine fT (iM O (jH O F .vp (r:=.t S.b k .fU) rfl Yr.self rfl rfl (fX (fV rfl (fZ ⟨rfl,gu O rfl (fT (hU rfl (iQ (fZ ⟨aw _,.t S.b k .f9,Yr.at_ _ (nf rfl),E9 O t13 (i:=j) (x:=jh (true,k)) (fW _ _ _) tg rfl rfl λσ14 ρ14 Yk p=>fT (iA (fV p ⟨.t S.b k .fU,_,_,rfl,Yk.self,rfl,?_⟩))⟩))))⟩)))))
 rw[lD]at Yk
 have t15:=Yk.set .f9 (some (.ref (.t S.b k .f9)))
 refine fT (ua O t15 (λZ q=>fV rfl q) rfl rfl λσ16 t16=>fT (ua O t16 (λZ q=>fV rfl q) rfl rfl λσ17 t17=>fT (ua O t17 (λZ q=>iu q) rfl rfl λσ18 t18=>?_)))
 have t19:=t18.put (r:=.vals S.b k) (λZ=>nf rfl) (some (.dict []))
 refine fT (iM O (lI O (r:=.vals S.b k) ((t18.Hm (.vals S.b k) (λZ=>nf rfl)).trans ((H6.live (.vals S.b k) rfl).trans (if_neg (by rw[X.vv];exact aR)))) ⟨.t S.b k .fU,_,_,rfl,t19.self,rfl,?_⟩))
 have t20:=t19.set .jo (some (.ref (.vals S.b k)))
 exact fT (ua O t20 (λZ q=>pJ q) rfl rfl λσ21 t21=>fY (h _ (H6.Jn t21 (uK (by exact jL rfl):o8 S.b k (pD P S.b k)=_).symm λx hx=>((OG hx).trans (congrFun (uK (by exact jL rfl)) x)).symm)))
end
end
mutual
section
variable{cx:Cx}{d:Nat}{γ:Nm→Option I}{ρ:Loc}{σ:Hp}{Q:V→Hp→Prop}
theorem Ab{γ:Nm→Option I}{ms:List ME}{Q Q':Bool→Hp→Prop}(h:Al cx d ms γ ρ σ Q)(hq:∀b σ,Q b σ→Q' b σ):Al cx d ms γ ρ σ Q':=by
 cases ms with
 |nil=>exact hq _ _ h
 |cons c ms=>
  cases ms with
  |nil=>exact I2 h hq
  |cons=>exact aN h
inductive Nc(z:I)(Inv:Nat→List V→Hp→Prop)(i:Nat)(l:List V)(u:V)(σ:Hp):Prop
 |mk:σ z=some (.list l)→Inv (i+1) (l++[u]) (up σ z (some (.list (l++[u]))))→Nc z Inv i l u σ
def Y9(cx:Cx)(d:Nat)(m:ME)(γ:Nm→Option I)(ρ:Loc)(z:I)(Inv:Nat→List V→Hp→Prop)(i:Nat)(l:List V)(ok:Bool)(σ:Hp):Prop:=ok.casesOn (Inv (i+1) l σ) (WE cx d m γ ρ σ (Nc z Inv i l))
def zP(cx:Cx)(d:Nat)(m:ME)(ms:List ME)(γ:Nm→Option I)(z:I)(Inv:Nat→List V→Hp→Prop)(i:Nat)(l:List V)(ρ₂:Loc)(σ₂:Hp):Prop:=Al cx d ms γ ρ₂ σ₂ (Y9 cx d m γ ρ₂ z Inv i l)
theorem V5{m:ME}{ms:List ME}{z:I}{Inv:Nat→List V→Hp→Prop}{i:Nat}{l:List V}{G:Hp→Prop}(h:zP cx d m ms γ z Inv i l ρ σ)(hl:l.length<100000)(g:∀l σ',Inv (i+1) l σ'→G σ'):Al cx d ms γ ρ σ (Q1 cx d m γ ρ G z):=
 Ab h λok σ₃ w=>by
  cases ok with
  |true=>exact jv (P:=Nc z Inv i l) w λu σ₄ q=>q.casesOn λa b=>⟨l,a,hl,g _ _ b⟩
  |false=>exact g _ _ w
theorem He{α:Type}{o:Option α}{a:α}(h:o=some a):o≠none:=λe=>nn (e.symm.trans h)
inductive CI(s0:Src)(z:I)(N:Nat)(Inv:Nat→List V→Hp→Prop)(src:Src)(z':I)(i:Nat)(σ':Hp):Prop
 |mk (l:List V):src=s0→z'=z→i≤N→Inv i l σ'→CI s0 z N Inv src z' i σ'
structure CIv(s0:Src)(z:I)(i:Nat)(l:List V)(σ:Hp):Prop where
 ok:qA σ s0
 th:xK σ s0=σ
 z:σ z=some (.list l)
 len:l.length≤i
theorem yI{m:ME}{t:sJ}{ms:List ME}{N:Nat}{z:I}{s0:Src}(hN:N≤1000)(Inv:Nat→List V→Hp→Prop)(ok:∀i l σ',Inv i l σ'→CIv s0 z i l σ')
  (step:∀i l σ',i<N→Inv i l σ'→∃v,pY σ' s0 i=some v∧∀ρ',ib (qK γ (kE m++jD ms)) t v ρ' σ' (zP cx d m ms (qK γ (kE m++jD ms)) z Inv i l))(fin:∀l σ',Inv N l σ'→pY σ' s0 N=none∧Q (.ref z) σ'):Ax cx d m t ms γ (CI s0 z N Inv) N Q:=
 λsrc z' i σ' q=>q.casesOn λl e1 e2 hi w=>by
  subst e1
  subst e2
  have c:=ok i l σ' w
  refine⟨hi,c.ok,He c.z,?_⟩
  by_cases xM:i<N
  ·exact(step i l σ' xM w).elim λv e=>by
    rw[e.1]
    exactλρ'=>u6 (e.2 ρ') λρ₂ σ₂ w'=>V5 w' (ao (ab c.len (ab hi hN)) (by decide)) λl σ' a=>⟨l,rfl,rfl,xM,a⟩
  ·have e:=bZ hi (b7 xM)
   subst e
   have f:=fin l σ' w
   rw[f.1]
   show Q (.ref z') (xK σ' src)
   rw[c.th]
   exact f.2
inductive Yy(N:Nat)(z:I)(Inv:Nat→List V→Hp→Prop)(v:V)(σ:Hp):Prop
 |mk:v=.int N→σ z=none→Inv 0 [] (up σ z (some (.list [])))→Yy N z Inv v σ
theorem IZ{m:ME}{t:sJ}{ms:List ME}{N:Nat}{z:I}(hN:N≤1000)(Inv:Nat→List V→Hp→Prop)(hz:∀i l σ',Inv i l σ'→σ' z=some (.list l)∧l.length≤i)
  (step:∀i l σ',i<N→Inv i l σ'→∀ρ',ib (qK γ (kE m++jD ms)) t (.int i) ρ' σ' (zP cx d m ms (qK γ (kE m++jD ms)) z Inv i l))(fin:∀l σ',Inv N l σ'→Q (.ref z) σ'):Ax cx d m t ms γ (CI (.IM N) z N Inv) N Q:=
 yI hN Inv (λi l σ' w=>⟨trivial,rfl,(hz i l σ' w).1,(hz i l σ' w).2⟩) (λi l σ' hi w=>⟨.int i,if_pos hi,step i l σ' hi w⟩) λl σ' w=>⟨if_neg (a7 N),fin l σ' w⟩
theorem QS(O:gT cx){t:sJ}{e:ME}{N:Nat}{z:I}(hN:N≤1000){Inv:Nat→List V→Hp→Prop}(h:WE cx d e γ ρ σ (Yy N z Inv)):WI cx d (.bi .km [e]) γ ρ σ (BJ t (CI (.IM N) z N Inv)):=
 EB O (jv h λv σ₁ q=>q.casesOn λe hz q=>⟨N,e,hN,IT t N,trivial,z,hz,[],rfl,rfl,aw _,q⟩)
theorem xw(O:gT cx){m:ME}{t:sJ}{e:ME}{ms:List ME}{N:Nat}{z:I}(hN:N≤1000)(Inv:Nat→List V→Hp→Prop)(hγ:∀x∈kE m++jD ms,∃r,γ x=some r)
  (h:WE cx d e γ ρ σ (Yy N z Inv))(hz:∀i l σ',Inv i l σ'→σ' z=some (.list l)∧l.length≤i)
  (step:∀i l σ',i<N→Inv i l σ'→∀ρ',ib (qK γ (kE m++jD ms)) t (.int i) ρ' σ' (zP cx d m ms (qK γ (kE m++jD ms)) z Inv i l))(fin:∀l σ',Inv N l σ'→Q (.ref z) σ'):WE cx d (.comp m t (.bi .km [e]) ms) γ ρ σ Q:=
 we rfl (CI (.IM N) z N Inv) N hγ (QS O hN h) (IZ hN Inv hz step fin)
inductive Xn(r z:I)(L:List V)(Inv:Nat→List V→Hp→Prop)(v:V)(σ:Hp):Prop
 |mk:v=.ref r→σ r=some (.list L)→σ z=none→Inv 0 [] (up σ z (some (.list [])))→Xn r z L Inv v σ
theorem I1{α:Type}{m:ME}{t:sJ}{ms:List ME}{src:List α}{f:α→V}{r z:I}(hN:src.length≤1000)(Inv:Nat→List V→Hp→Prop)(hz:∀i l σ',Inv i l σ'→σ' z=some (.list l)∧l.length≤i∧σ' r=some (.list (src.map f)))
  (step:∀i a l σ',src[i]?=some a→Inv i l σ'→∀ρ',ib (qK γ (kE m++jD ms)) t (f a) ρ' σ' (zP cx d m ms (qK γ (kE m++jD ms)) z Inv i l))(fin:∀l σ',Inv src.length l σ'→Q (.ref z) σ'):Ax cx d m t ms γ (CI (.list r) z src.length Inv) src.length Q:=
 yI hN Inv (λi l σ' w=>have c:=hz i l σ' w;⟨⟨_,c.2.2⟩,rfl,c.1,c.2.1⟩) (λi l σ' hi w=>⟨f src[i],(sE (hz i l σ' w).2.2).trans ((aQ ..).trans (congrArg (bh f) (aG hi))),step i _ l σ' (aG hi) w⟩)
  λl σ' w=>⟨(sE (hz _ l σ' w).2.2).trans ((aQ ..).trans (congrArg (bh f) (bW (aL _)))),fin l σ' w⟩
theorem QT{t:sJ}{e:ME}{N:Nat}{r z:I}{L:List V}{Inv:Nat→List V→Hp→Prop}(h:WE cx d e γ ρ σ (Xn r z L Inv)):WI cx d e γ ρ σ (BJ t (CI (.list r) z N Inv)):=
 yS (jv h λv σ₁ q=>q.casesOn λe hr hz q=>⟨r,_,e,hr,zZ t r,trivial,z,hz,[],rfl,rfl,aw _,q⟩)
theorem uW{α:Type}{m:ME}{t:sJ}{e:ME}{ms:List ME}{src:List α}{f:α→V}{r z:I}(he:uD e=false)(hN:src.length≤1000)(Inv:Nat→List V→Hp→Prop)(hγ:∀x∈kE m++jD ms,∃r,γ x=some r)
  (h:WE cx d e γ ρ σ (Xn r z (src.map f) Inv))(hz:∀i l σ',Inv i l σ'→σ' z=some (.list l)∧l.length≤i∧σ' r=some (.list (src.map f)))
  (step:∀i a l σ',src[i]?=some a→Inv i l σ'→∀ρ',ib (qK γ (kE m++jD ms)) t (f a) ρ' σ' (zP cx d m ms (qK γ (kE m++jD ms)) z Inv i l))(fin:∀l σ',Inv src.length l σ'→Q (.ref z) σ'):WE cx d (.comp m t e ms) γ ρ σ Q:=
 we he (CI (.list r) z src.length Inv) src.length hγ (QT h) (I1 hN Inv hz step fin)
theorem IF{r:I}{σ:Hp}{l:List V}{i:Nat}(h:σ r=some (.list l)):pY σ (.Mf r) i=(l[i]?).map λv=>.tup [.int i,v]:=by
 show G7 (σ r) none _=_
 rw[h];rfl
theorem B0(O:gT cx){α:Type}{m:ME}{t:List Tg}{e:ME}{ms:List ME}{src:List α}{f:α→V}{r z:I}(hN:src.length≤1000)(Inv:Nat→List V→Hp→Prop)(hγ:∀x∈kE m++jD ms,∃r,γ x=some r)
  (h:WE cx d e γ ρ σ (Xn r z (src.map f) Inv))(hz:∀i l σ',Inv i l σ'→σ' z=some (.list l)∧l.length≤i∧σ' r=some (.list (src.map f)))
  (step:∀i a l σ',src[i]?=some a→Inv i l σ'→∀ρ',ib (qK γ (kE m++jD ms)) (.tup t) (.tup [.int i,f a]) ρ' σ' (zP cx d m ms (qK γ (kE m++jD ms)) z Inv i l))(fin:∀l σ',Inv src.length l σ'→Q (.ref z) σ'):WE cx d (.comp m (.tup t) (.bi .ry [e]) ms) γ ρ σ Q:=
 we rfl (CI (.Mf r) z src.length Inv) src.length hγ (PF O (jv h λv σ₁ q=>q.casesOn λe hr hz q=>⟨r,_,e,hr,trivial,trivial,z,hz,[],rfl,rfl,aw _,q⟩))
  (yI hN Inv (λi l σ' w=>have c:=hz i l σ' w;⟨⟨_,c.2.2⟩,rfl,c.1,c.2.1⟩) (λi l σ' hi w=>⟨.tup [.int i,f src[i]],(IF (hz i l σ' w).2.2).trans (by rw[aQ,aG hi];rfl),step i _ l σ' (aG hi) w⟩)
   λl σ' w=>⟨(IF (hz _ l σ' w).2.2).trans (by rw[aQ,bW (aL _)];rfl),fin l σ' w⟩)
end
end
mutual
def j1:I:=.p .gi 0
structure RW(P:jP)(S:St):Prop where
 rows:S.pp .gi 0=some (.list ((az P.n).map λk=>.ref (mD k)))
 row:∀k,k<P.n→S.pp .mq k=some (.list (sV ((P.row k).map jh)))
theorem RW.of{P:jP}{S S':St}(h:RW P S)(e:S'.pp=S.pp):RW P S':=⟨e▸h.rows,e▸h.row⟩
def oJ(P:jP)(S:St)(i:Nat):St:={S with tk:=λk=>if k<i then some (pD P S.b k)else S.tk k,vv:=λb k=>if b=S.b∧k<i then true else S.vv b k}
theorem LN{α:Type}{k i:Nat}{x y:α}(h:k≠i):(if k<i+1 then x else y)=if k<i then x else y:=by
 by_cases l:k<i
 ·rw[if_pos l,if_pos (a5 l)]
 ·rw[if_neg l,if_neg λz=>h (bZ (bH z) (b7 l))]
theorem Kn{α:Type}{p q:Prop}[Decidable p][Decidable q]{x y:α}:(if p∧q then x else y)=if p then if q then x else y else y:=by
 by_cases a:p
 ·by_cases b:q
  ·rw[if_pos ⟨a,b⟩,if_pos a,if_pos b]
  ·rw[if_neg λz=>b z.2,if_pos a,if_neg b]
 ·rw[if_neg λz=>a z.1,if_neg a]
theorem Gu{P:jP}{S:St}{i:Nat}:(oJ P S i).Jn i (pD P S.b i)=oJ P S (i+1):=by
 have e1:up (oJ P S i).tk i (some (pD P S.b i))=(oJ P S (i+1)).tk:=funext λk=>(kJ (oJ P S i).tk i (some (pD P S.b i)) k).elim (λu=>by rw[u.2,u.1];exact(if_pos (ak _)).symm) λu=>u.2.trans (LN u.1).symm
 have e2:((oJ P S i).J7 i).vv=(oJ P S (i+1)).vv:=funext λb=>funext λk=>by
  by_cases e:b=S.b∧k=i
  ·exact(if_pos e).trans (if_pos ⟨e.1,e.2▸ak _⟩).symm
  ·refine(if_neg e).trans ?_
   show(if b=S.b∧k<i then true else S.vv b k)=if b=S.b∧k<i+1 then true else S.vv b k
   rw[Kn,Kn]
   by_cases q:b=S.b
   ·rw[if_pos q,if_pos q];exact(LN λz=>e ⟨q,z⟩).symm
   ·rw[if_neg q,if_neg q]
 unfold St.Jn St.ib
 rw[show up ((oJ P S i).J7 i).tk i (some (pD P S.b i))=_ from e1]
 exact congrArg (λf=>({oJ P S (i+1)with vv:=f}:St)) e2
section
variable{cx:Cx}{d:Nat}{γ:Nm→Option I}{ρ:Loc}{σ:Hp}{Q:V→Hp→Prop}{n0 n n' k b:Nat}{σ0 σ':Hp}
variable{P:jP}{S S':St}
inductive Qs(p:Str)(k:Nat)(Q:V→Hp→Prop)(v:V)(σ:Hp):Prop
 |mk:v=.int k→Q (.str (p++AV k)) σ→Qs p k Q v σ
theorem Nj:∀k:Nat,k<6→(AV (k:Int)).length≤100:=by decide+kernel
theorem oz(O:gT cx){x:ME}{k:Nat}{p:Str}(hk:k<6)(hp:p.length≤10)(h:WE cx d x γ ρ σ (Qs p k Q)):WE cx d (.bin .Add (.str p) (.bi .pd [x])) γ ρ σ Q:=
 kW (gY (zo O (jv h λv σ' q=>q.casesOn λe q=>⟨k,e,ab (aY hk) (by decide),_,(if_pos (ab (bz hp (Nj k hk)) (by decide)):El .Add (.str p) (.str (AV k))=_),q⟩)))
theorem LO{α β:Type}[DecidableEq α]{f g:α→β}{a r:α}{v:β}(h:f r=g r):up f a v r=up g a v r:=by
 unfold up
 by_cases e:r=a
 ·rw[if_pos e,if_pos e]
 ·rw[if_neg e,if_neg e];exact h
structure Lt(n0:Nat)(σ0:Hp)(P:jP)(S:St)(n n' i:Nat)(l:List V)(σ:Hp):Prop where
 le:n+2≤n'
 H:RK n0 σ0 (oJ P S i) n' σ
 c:σ (.gq n)=some (.cell (some (.ref j1)))
 z:σ (.gq (n+1))=some (.list l)
 e:l=(az i).map λk=>.ref (.t S.b k .fU)
theorem qV{r:I}{l:List V}{k:Nat}{v:V}(h:σ r=some (.list l))(e:l[k]?=some v):wZ σ (.ref r) (.int k)=some v:=by
 show O2 (σ r) none (λl=>if (0:Int)≤(k:Int)then l[(k:Int).toNat]? else none)=_
 rw[h]
 show(if (0:Int)≤(k:Int)then l[k]? else none)=_
 rw[if_pos (bj k)]
 exact e
theorem uf{α:Type}{N i:Nat}(f:Nat→α)(h:i<N):((az N).map f)[i]?=some (f i):=by rw[aQ,cS h];rfl
theorem OJ(O:gT cx)(F:gK cx)(K:rG P){i:Nat}{l:List V}(w:Lt n0 σ0 P S n n' i l σ)(rw_:RW P S)(hi:i<P.n)(ht:S.tk i=none)(hv:S.vv S.b i=false)(hn:n0≤n)(hγ:γ .gi=some (.gq n))(p:ρ .lS=some (.int i))
  (h:∀n' σ',Lt n0 σ0 P S n n' (i+1) (l++[.ref (.t S.b i .fU)]) (up σ' (.gq (n+1)) (some (.list (l++[.ref (.t S.b i .fU)]))))→σ' (.gq (n+1))=some (.list l)→Q (.ref (.t S.b i .fU)) σ'):WE cx (d+4) KQ γ ρ σ Q:=by
 have i6:i<6:=ae hi K.n6
 have hti:(oJ P S i).tk i=none:=(if_neg (a7 i)).trans ht
 have hvi:(oJ P S i).vv S.b i=false:=(if_neg λz=>a7 i z.2).trans hv
 have Hb:=w.H.base
 have no:=λx=>Hb.noT (S:=oJ P S i) hti x
 have l1:n+1<n':=w.le
 have l0:n<n':=bk (ak _) l1
 refine vx O (f:=.uP) rfl (F _) (fX (oz O i6 (by decide) (fV p ⟨rfl,fX (iQ (fX (pX (fX (gY (fX (gY (fX (lI O (r:=.t S.b i .n9) (no _) (fZ ⟨au rfl,fZ ⟨au rfl,.gq n',sk (nf rfl) w.H.no,fZ
  (Af (jr (gH hγ (j0 (av l0) (sk (nf rfl) w.c)) (fV p ⟨.ref (mD i),?_,?_⟩))))⟩⟩))))))))))⟩)))
 ·exact qV (p4 rfl ((Hb.lz .gi 0).trans rw_.rows)) (uf _ hi)
 refine Af (iQ (fX (oz O i6 (by decide) (fV p ⟨rfl,fZ ⟨au rfl,.gq (n'+1),j0 (bx (ak _)) (sk (nf rfl) (w.H.free _ (aT _))),jE ⟨rfl,rfl,.t S.b i .fU,p4 rfl (sk (nf rfl) (no _)),?_⟩⟩⟩))))
 have H₃:=(Hb.new (some (.list [Dj S.b i]))).new (some (.list [.str (jh (true,i))]))
 have t:TI S.b i (λZ=>none) (up (λZ=>none) .n9 (some (.dict []))) (up (up σ (.gq n') (some (.list [Dj S.b i]))) (.gq (n'+1)) (some (.list [.str (jh (true,i))]))) (up (up (up (up σ (.t S.b i .n9) (some (.dict []))) (.gq n') (some (.list [Dj S.b i]))) (.gq (n'+1)) (some (.list [.str (jh (true,i))]))) (.t S.b i .fU) (some (.inst .Task λZ=>none))):=
  ⟨fW _ _ _,λx hx=>(gD _ _ (Kw hx)).trans (p4 rfl ((kJ (λZ=>none) Nm.n9 (some (Mine.O.dict [])) x).elim (λu=>by rw[u.2,u.1];exact fW _ _ _) λu=>(gD _ _ (Kw u.1)).trans ((no x).trans u.2.symm))),λr hr=>(gD _ _ (hr _)).trans (LO (LO (gD _ _ (hr _))))⟩
 refine C6 (S:=oJ P S i) (n:=n'+2) (i:=n') (j:=n'+1) O F K hi H₃ t ⟨a5 (ak _),ak _,rw_.row i hi,j0 (av (ak _)) (fW _ _ _),fW _ _ _,hvi⟩ λσ₄ H₄=>⟨rfl,h (n'+4) σ₄ ⟨ab w.le (aA _ _),?_,?_,fW _ _ _,by rw[bJ,ar,←w.e];rfl⟩ ((H₄.keep _ l1).trans w.z)⟩
 ·rw[show(oJ P S i).b=S.b from rfl,Gu]at H₄
  exact(w.H.trans H₄).old (ab hn (aT _)) (ae l1 (aA _ 4)) _
 ·exact j0 (av (ak _)) ((H₄.keep _ l0).trans w.c)
theorem C4(O:gT cx)(F:gK cx)(K:rG P)(H:RK n0 σ0 S n σ)(rw_:RW P S)(ht:∀k,S.tk k=none)(hv:∀k,S.vv S.b k=false)
  (h:∀n' σ',n+1<n'→RK n0 σ0 (oJ P S P.n) n' σ'→σ' (.gq (n+1))=some (.list ((az P.n).map λk=>.ref (.t S.b k .fU)))→Q (.ref (.gq (n+1))) σ'):
  WC cx (d+5) .uk [.ref j1] σ Q:=by
 have H₁:=H.new (some (.cell (some (.ref j1))))
 have N0:oJ P S 0=S:=(congrArg (λf=>({S with tk:=λk=>if k<0 then some (pD P S.b k)else S.tk k,vv:=f}:St)) (funext λb=>funext λk=>if_neg λz=>bt _ z.2)).trans (congrArg (λf=>({S with tk:=f}:St)) (funext λk=>if_neg (bt k)))
 have c1:up σ (.gq n) (some (.cell (some (.ref j1)))) (.gq n)=some (.cell (some (.ref j1))):=fW _ _ _
 refine uT O [(.gi,.gq n)] rfl (List.nodup_cons.mpr ⟨aj,.nil⟩) (λr m=>ag.mp m▸H.no) ?_
 refine fT (iA (xw (m:=KQ) O (N:=P.n) (z:=.gq (n+1)) (ab K.n6 (by decide)) (λi l σ'=>∃n',Lt n0 σ0 P S n n' i l σ') (λx hx=>⟨.gq n,by rw[ag.mp (show x∈[Nm.gi]from hx)];rfl⟩)
  (pR O (gH rfl c1 (.l _ _ rfl (.inl ((H₁.lz _ _).trans rw_.rows)) ⟨by rw[ai,aD],H₁.no,n+2,aL _,by rw[N0];exact H₁.new _,j0 (av (ak _)) c1,fW _ _ _,rfl⟩)))
  (λi l σ' q=>q.elim λn' w=>⟨w.z,by rw[w.e,ai,aD];exact aL _⟩)
  (λi l σ₂ hi q ρ'=>q.elim λn' w=>?_)
  λl σ₂ q=>q.elim λn' w=>h n' σ₂ w.le w.H (w.z.trans (by rw[w.e]))))
 exact OJ (d:=d) O F K w rw_ hi (ht i) (hv i) H.le rfl rfl λn' σ' w' z=>⟨z,n',w'⟩
end
end
mutual
def vg(b:Nat)(sel:V):Nm→Option V:=lk [(.iw,.ref (.u b .iw)),(.f9,.ref (.u b .f9)),(.iJ,.ref (.u b .iJ)),(.gk,sel)]
def rj(n:Nat):List (Str×V):=(az n).map λk=>(jh (true,k),.str (tn k))
def DE(l:List lO):List Nat:=l.filterMap λf=>if f.1 then some f.2 else none
def Kb(l:List Nat)(T:TS):TS:={T with td:=l}
section
variable{key:Nat→Str}{f:Nat→V}{s:Str}{k:Nat}
theorem E4:∀{l:List Nat},(∀x∈l,key x≠s)→(l.map λk=>(key k,f k)).lookup s=none
 |[],_=>rfl
 |x::l,h=>(o7 (Ne.symm (h x (.head _))) _ _).trans (E4 λy hy=>h y (.tail _ hy))
theorem Fe:∀{l:List Nat},(∀x∈l,key x=s→x=k)→k∈l→key k=s→(l.map λk=>(key k,f k)).lookup s=some (f k)
 |x::l,h,m,e=>by
  by_cases q:key x=s
  ·exact(sN q.symm _ _).trans (by rw[h x (.head _) q])
  ·exact(o7 (Ne.symm q) _ _).trans (Fe (λy hy=>h y (.tail _ hy)) ((List.mem_cons.mp m).resolve_left λz=>q (z▸e)) e)
end
end
mutual
section
variable{cx:Cx}{d:Nat}{γ:Nm→Option I}{ρ:Loc}{σ:Hp}{Q:V→Hp→Prop}{n0 n n' k b:Nat}{σ0 σ':Hp}{i:Nat}{f:lO}
variable{P:jP}{S S':St}{T:TS}
theorem zv(hi:i≤6)(hf:f.2<6)(h:f.1=true→i≤f.2):(rj i).lookup (jh f)=none:=
 E4 (f:=λk=>.str (tn k)) λx hx e=>have lx:=aM.mp hx;have q:=oY (f:=(true,x)) (ae lx hi) hf e;a7 _ (ae lx (ab (h (congrArg Prod.fst q).symm) (ay (congrArg fM q).symm)))
theorem Of(hi:i≤6)(hf:f.2<6)(h1:f.1=true)(h2:f.2<i):(rj i).lookup (jh f)=some (.str (tn f.2)):=
 Fe (key:=λk=>jh (true,k)) (f:=λk=>.str (tn k)) (k:=f.2) (λx hx e=>congrArg fM (oY (f:=(true,x)) (ae (aM.mp hx) hi) hf e)) (aM.mpr h2) (congrArg jh (cH h1.symm rfl:((true,f.2):lO)=f))
theorem lU{l:List lO}{j:Nat}:j∈DE l↔(true,j)∈l:=List.mem_filterMap.trans ⟨λh=>h.elim λf w=>by
  have e:=w.2
  cases q:f.1 with
  |true=>rw[q]at e;exact(cH q (Option.some.inj e):f=(true,j))▸w.1
  |false=>rw[q]at e;exact nn e,λh=>⟨_,h,rfl⟩⟩
theorem Ka(l:List lO)(f:lO):DE (l++[f])=DE l++if f.1=true then [f.2]else []:=by
 unfold DE
 rw[List.filterMap_append]
 refine congrArg (_++ ·) ?_
 cases q:f.1 with
 |true=>exact dJ (by rw[q];rfl)
 |false=>exact dK (by rw[q];rfl)
theorem RK.ttd(H:RK n0 σ0 S n σ)(hT:S.tk k=some T)(l:List Nat):RK n0 σ0 (S.ib k (Kb l T)) n (Mine.up σ (.t S.b k .gr) (some (.list (sV (l.map tn))))):=H.ib (x:=.gr) hT rfl λy hy=>w4 rfl hy
theorem Mz(O:gT cx)(H:RK n0 σ0 S n σ){N:Nat}(hN:N≤6)(hf:f.2<6)(hl:f.1=true→f.2<N)(XB:S.bb .f9=some (.dict (rj N)))(hT:S.tk k=some T)(t6:∀x∈T.td,x<6)(tl:T.td.length≤100)(ni:f.1=true→f.2∉T.td)
  {ρ:Loc}{QQ:Fl→Hp→Loc→Prop}(p0:ρ .jf=some (.str (jh f)))(p1:ρ .gc=some (.ref (.t S.b k .fU)))(p2:ρ .f9=some (.ref (.u S.b .f9)))(h:∀σ',RK n0 σ0 (S.ib k (Kb (T.td++if f.1=true then [f.2]else []) T)) n σ'→QQ .next σ' ρ):WS cx d Qk (lk []) ρ σ QQ:=by
 have tg:=(H.lh _).trans XB
 have td:σ (.t S.b k .gr)=some (.list (sV (T.td.map tn))):=H.vT hT .gr
 cases ef:f.1 with
 |false=>
  rw[ef]at h
  exact fT (gp (ju (gv (fV p0 (fV p2 ⟨false,qQ tg (by rw[zv hN hf λq=>bf (ef.symm.trans q)];rfl),fY (fY (h _ (by
   rw[if_neg aR,aU,show Kb T.td T=T from rfl,C5 hT];exact H)))⟩)))))
 |true=>
  rw[ef]at h
  have NZ:=Of hN hf ef (hl ef)
  have ix:wZ σ (.ref (.u S.b .f9)) (.str (jh f))=some (.str (tn f.2)):=mI tg NZ
  refine fT (gp (ju (gv (fV p0 (fV p2 ⟨true,qQ tg (by rw[NZ];rfl),ju (gv (jr (fV p2 (fV p0 ⟨_,ix,gw O p1 ⟨_,_,H.task hT,rfl,rfl⟩ ⟨true,L4 td λq=>ni ef ((Ah t6 hf).mp q),qL ?_⟩⟩))))⟩)))))
  refine fT (hZ (jM O (gw O p1 ⟨_,_,H.task hT,rfl,rfl⟩ ⟨⟨_,td⟩,jr (fV p2 (fV p0 ⟨_,ix,_,_,rfl,td,ao (ab (ay (m6 _ _)) tl) (by decide),rfl,fY (fY ?_)⟩))⟩)))
  have z:=h _ (H.ttd hT _)
  rw[if_pos rfl,ar,sV,ar]at z
  exact z
theorem yC(O:gT cx)(K:rG P)(H:RK n0 σ0 S n σ)(hk:k<P.n)(XB:S.bb .f9=some (.dict (rj P.n)))(hT:S.tk k=some T)(px:T.row=P.row k)(htd:T.td=[])
  (h:∀σ',RK n0 σ0 (S.ib k (Kb (P.iv k) T)) n σ'→Q .none σ'):WC cx (d+1) .il [.ref (.u S.b .f9),.ref (.t S.b k .fU),.ref (.t S.b k .gm)] σ Q:=by
 have r6:=K.rl k hk
 have e0:S.ib k (Kb (DE ((P.row k).take 0)) T)=S:=by rw[show Kb (DE ((P.row k).take 0)) T=T from(congrArg (λl=>Kb l T) htd).symm,C5 hT]
 refine gu O rfl (fT (jO (f:=λf=>.str (jh f)) (l:=P.row k) (r:=.t S.b k .gm) rfl (λi σ' ρ'=>RK n0 σ0 (S.ib k (Kb (DE ((P.row k).take i)) T)) n σ'∧ρ' .gc=some (.ref (.t S.b k .fU))∧ρ' .f9=some (.ref (.u S.b .f9)))
  (fV rfl ⟨rfl,by rw[e0];exact H,rfl,rfl⟩) (λi σ' ρ' q=>(q.1.vT (S:=S.ib k _) St.ip .gm).trans (by rw[←qU,←px];rfl)) (λi f σ₁ ρ₁ e q=>?_) λσ₁ ρ₁ q=>?_))
 ·have hf:=aE e
  refine Mz (S:=S.ib k (Kb (DE ((P.row k).take i)) T)) O q.1 K.n6 (r6 f hf) (λef=>(K.dep k hk f.2 (lU.mpr ((cH ef.symm rfl:((true,f.2):lO)=f)▸hf))).1) XB St.ip (λx hx=>r6 (true,x) (br (lU.mp hx))) (ab (List.length_filterMap_le _ _) (ab (by rw[aO];exact a8 _ _) (K.Ki k hk)))
   (λef m=>?_) rfl q.2.1 q.2.2 λσ' H'=>⟨?_,q.2.1,q.2.2⟩
  ·exact(List.mem_take_iff_getElem.mp ((cH ef.symm rfl:((true,f.2):lO)=f)▸lU.mp m)).elim λj z=>z.elim λhj e2=>List.pairwise_iff_getElem.mp (K.U7 k hk) j i (ae hj (a8 _ _)) (mE e) (ae hj (bp _ _)) (e2.trans (List.getElem?_eq_some_iff.mp e).2.symm)
  ·rw[xF]at H'
   rw[bg,e,bU,Ka]
   exact H'
 ·have H₁:=q.1
  rw[aV]at H₁
  exact fY (h _ H₁)
end
end
mutual
def Pa{α:Type}(l:List (Nm×α))(f:Nm→Option α)(x:Nm):Option α:=(lk l x).or (f x)
theorem Gx{α:Type}{x:Nm}{v:α}{l:List (Nm×α)}{f:Nm→Option α}(h:(l.any λp=>aS x.i p.1.i)=true):up (Pa l f) x (some v)=Pa (Gg x v l) f:=funext λy=>(kJ (Pa l f) x (some v) y).elim (λu=>u.2.trans (by rw[u.1];unfold Pa;rw[sO l h];rfl)) λu=>u.2.trans (congrArg (λo=>Option.or o (f y)) (v8 u.1 l).symm)
def Ur(b i t:Nat):List (Nm×O):=[(.iw,.dict (rF b i)),(.iJ,.list (sV ((az i).map tn))),(.f9,.dict (rj t)),(.gA,.inst .iy (vg b .none))]
def wG(S:St)(i t:Nat):St:={S with bb:=Pa (Ur S.b i t) S.bb}
section
variable{cx:Cx}{d:Nat}{γ:Nm→Option I}{ρ:Loc}{σ:Hp}{Q:V→Hp→Prop}{n0 n n' k b:Nat}{σ0 σ':Hp}{i j t mz:Nat}
variable{P:jP}{S S':St}{QQ:Fl→Hp→Loc→Prop}
theorem RK.bbs{bb:Nm→Option O}(H:RK n0 σ0 S n σ)(h1:∀x,σ' (.u S.b x)=bb x)(h2:∀r,(∀x,r≠.u S.b x)→σ' r=σ r):RK n0 σ0 {S with bb:=bb} n σ':=
 ⟨H.le,λm hm=>(h2 _ λZ e=>I.noConfusion e).trans (H.keep m hm),λr hr=>by
  have other:(∀x,r≠.u S.b x)→heapOf {S with bb:=bb} r=heapOf S r→σ' r=heapOf {S with bb:=bb} r:=λa b=>((h2 r a).trans (H.live r hr)).trans b.symm
  cases r with
  |u b x=>exact(aK (b=S.b)).elim (λe=>by rw[e];exact(h1 x).trans (if_pos rfl).symm) λe=>other (λy q=>e (by injection q)) ((if_neg e).trans (if_neg e).symm)
  |_=>exact other (λZ e=>I.noConfusion e) rfl,λm hm=>(h2 _ λZ e=>I.noConfusion e).trans (H.free m hm)⟩
inductive Z7(r:I)(σ:Hp)(v:V)(σ':Hp):Prop
 |mk:v=.ref r→σ'=σ→Z7 r σ v σ'
inductive Qi(σf:Hp)(Inv:Loc→Prop)(fl:Fl)(σ:Hp)(ρ:Loc):Prop
 |mk:fl=.next→σ=σf→Inv ρ→Qi σf Inv fl σ ρ
def vD(key:Nat→Str)(f:Nat→V)(l:List Nat):List (Str×V):=l.map λk=>(key k,f k)
theorem EP(O:gT cx){t:sJ}{o:ME}{b:List MS}{r:I}{l:List Nat}(key:Nat→Str)(f:Nat→V)(ho:WE cx d o γ ρ σ (Z7 r σ))(hr:σ r=some (.dict (vD key f l)))(Inv:Loc→Prop)(h0:Inv ρ)
  (step:∀k∈l,∀ob ρ',Inv ρ'→ib γ t (f k) ρ' (up σ r (some (.nD (vD key f l) ob))) λρ₂ σ₂=>WS cx d b γ ρ₂ σ₂ (Qi (up σ r (some (.nD (vD key f l) ob))) Inv))
  (fin:∀ρ',Inv ρ'→QQ .next σ ρ'):W1 cx d (.for t (.gn o .jo [] []) b) γ ρ σ QQ:=
 zc rfl (λsrc i σ' ρ'=>i≤l.length∧∃ob,src=.vals r (vD key f l) ob∧σ'=up σ r (some (.nD (vD key f l) ob))∧Inv ρ') l.length
  (PQ O (jv ho λv σ' q=>q.casesOn λe1 e2=>by subst e2;exact⟨r,_,e1,hr,λob=>⟨by cases t<;>trivial,aw _,ob,rfl,rfl,h0⟩⟩)) λsrc i σ' ρ' q=>q.2.elim λob w=>by
  have e1:=w.1
  have e2:=w.2.1
  subst e1
  subst e2
  refine⟨q.1,fW _ _ _,?_⟩
  show match (((vD key f l)[i]?).map λp=>p.2)with |none=>QQ .next (up (up σ r _) r _) ρ' |some v=>_
  rw[show(vD key f l)[i]?=(l[i]?).map _ from aQ]
  cases e:l[i]? with
  |none=>
   show QQ .next (up (up σ r _) r _) ρ'
   rw[lD,show up σ r _=σ from Ep hr]
   exact fin _ w.2.2
  |some k=>
   exact u6 (step k (aE e) ob ρ' w.2.2) λρ₂ σ₂ w=>yZ w λfl σ₃ ρ₃ q=>q.casesOn λe1 e2 e3=>by
    subst e1
    exact⟨mE e,ob,rfl,e2,e3⟩
theorem VM(h:i<6):putD (rF b i) (tn i) (.ref (.t b i .fU))=rF b (i+1):=by
 unfold rF
 rw[C1 (f:=λk=>.ref (.t b k .fU)) (λx hx=>bk (aM.mp hx) h) h,if_neg λm=>a7 _ (aM.mp m),bJ]
theorem I7(h:i<6):putD (rj i) (jh (true,i)) (.str (tn i))=rj (i+1):=by
 unfold putD
 rw[qZ,zv (f:=(true,i)) (aY h) h λZ=>aL _,if_neg aR,rj,rj,bJ,ar]
 rfl
theorem Nf:((wG S i t).jA .iw (some (.dict (rF S.b (i+1))))).jA .iJ (some (.list (sV ((az (i+1)).map tn))))=wG S (i+1) t:=
 have a:up (Pa (Ur S.b i t) S.bb) .iw (some (.dict (rF S.b (i+1))))=_:=Gx (by exact rfl)
 have c:up (Pa (Gg .iw (.dict (rF S.b (i+1))) (Ur S.b i t)) S.bb) .iJ (some (.list (sV ((az (i+1)).map tn))))=_:=Gx (by exact rfl)
 have e:=(congrArg (λf:Nm→Option O=>up f Nm.iJ (some (O.list (sV ((az (i+1)).map tn))))) a).trans c
 congrArg (λf=>({S with bb:=f}:St)) e
theorem Mv:(wG S i t).jA .f9 (some (.dict (rj (t+1))))=wG S i (t+1):=
 have a:up (Pa (Ur S.b i t) S.bb) .f9 (some (.dict (rj (t+1))))=_:=Gx (by exact rfl)
 congrArg (λf=>({S with bb:=f}:St)) a
theorem Na(O:gT cx)(H:RK n0 σ0 (wG S j 0) n σ)(j6:j<6)(hT:S.tk j=some (pD P S.b j))(p0:ρ .gc=some (.ref (.t S.b j .fU)))(p1:ρ .fU=some (.ref (.u S.b .gA)))(h:∀σ',RK n0 σ0 (wG S (j+1) 0) n σ'→QQ .next σ' ρ):WS cx d NN (lk []) ρ σ QQ:=by
 have ht:=H.task (S:=wG S j 0) hT
 have hc:σ (.u S.b .gA)=some (.inst .iy (vg S.b .none)):=H.lh .gA
 have SD:σ (.u S.b .iw)=some (.dict (rF S.b j)):=H.lh .iw
 have hdo:σ (.u S.b .iJ)=some (.list (sV ((az j).map tn))):=H.lh .iJ
 have lk0:(rF S.b j).lookup (tn j)=none:=(rH (f:=λk=>.ref (.t S.b k .fU)) (λx hx=>bk (aM.mp hx) j6) j6).trans (if_neg λm=>a7 _ (aM.mp m))
 have ll:∀{x:Nat},x=j→x<100000:=λe=>e▸bk j6 (by decide)
 refine fT (gp (qz (gM O rfl (CM O rfl (fV p0 (.t _ _ rfl ht rfl ⟨true,rfl,fY ?_⟩))))))
 refine fT (gp (gv (gw O p0 ⟨_,_,ht,rfl,rfl⟩ (gw O p1 ⟨_,_,hc,rfl,rfl⟩ ⟨false,qQ SD (by rw[lk0];rfl),fY ?_⟩))))
 refine fT (lL (fV p0 (gw O p1 ⟨_,_,hc,rfl,rfl⟩ (gw O p0 ⟨_,_,ht,rfl,rfl⟩ ⟨_,SD,ll ((ai ..).trans aD),?_⟩))))
 rw[VM j6]
 have H₃:=(H.jA .iw (some (.dict (rF S.b (j+1))))).jA .iJ (some (.list (sV ((az (j+1)).map tn))))
 refine fT (hZ (jM O (gw O p1 ⟨_,_,sk (nf rfl) hc,rfl,rfl⟩ ⟨⟨_,sk (nf rfl) hdo⟩,gw O p0 ⟨_,_,sk (nf rfl) ht,rfl,rfl⟩ ⟨_,_,rfl,sk (nf rfl) hdo,ll ((m6 _ _).trans aD),rfl,fY (h _ ?_)⟩⟩)))
 rw[Nf,show sV ((az (j+1)).map tn)=sV ((az j).map tn)++[.str (tn j)] by rw[bJ,ar,sV,ar];rfl]at H₃
 exact H₃
theorem Lo(O:gT cx){N:Nat}(H:RK n0 σ0 (wG S N j) n σ)(j6:j<6)(hT:S.tk j=some (pD P S.b j))(p0:ρ .gc=some (.ref (.t S.b j .fU)))(p1:ρ .f9=some (.ref (.u S.b .f9)))(p2:ρ .mA=some (.str (jh (true,j))))(h:∀σ',RK n0 σ0 (wG S N (j+1)) n σ'→QQ .next σ' ρ):WS cx d NA (lk []) ρ σ QQ:=by
 have ht:=H.task (S:=wG S N j) hT
 have hg:σ (.u S.b .f9)=some (.dict (rj j)):=H.lh .f9
 have H₃:=H.jA .f9 (some (.dict (rj (j+1))))
 rw[Mv,←I7 j6]at H₃
 exact fT (gp (gv (fV p2 (fV p1 ⟨false,qQ hg (by rw[zv (aY j6) j6 λZ=>aL _];rfl),fY (fT (lL (gw O p0 ⟨_,_,ht,rfl,rfl⟩ (fV p1 (fV p2 ⟨_,hg,by rw[rj,ai,aD];exact bk j6 (by decide),fY (h _ H₃)⟩)))))⟩))))
end
end
mutual
section
variable{cx:Cx}{d:Nat}{ρ:Loc}{σ:Hp}{Q:V→Hp→Prop}{n0 n n' k b:Nat}{σ0 σ':Hp}{i j t mz:Nat}
variable{P:jP}{S S':St}{QQ:Fl→Hp→Loc→Prop}
def Lk(P:jP)(S:St)(i:Nat):St:={wG S P.n P.n with tk:=λk=>if k<i then some (Kb (P.iv k) (pD P S.b k))else S.tk k}
theorem Vc:Lk P S 0=wG S P.n P.n:=congrArg (λf=>({wG S P.n P.n with tk:=f}:St)) (funext λk=>if_neg (bt k))
theorem Tp:(Lk P S j).tk j=S.tk j:=if_neg (a7 j)
theorem LA:(Lk P S j).ib j (Kb (P.iv j) (pD P S.b j))=Lk P S (j+1):=congrArg (λf=>({wG S P.n P.n with tk:=f}:St)) (funext λk=>(kJ (Lk P S j).tk j (some (Kb (P.iv j) (pD P S.b j))) k).elim (λu=>by rw[u.2,u.1];exact(if_pos (ak _)).symm) λu=>u.2.trans (LN u.1).symm)
structure Ct(P:jP)(S:St)(n0:Nat)(σ0:Hp)(mz:Nat):Prop where
 K:rG P
 tk:∀k,k<P.n→S.tk k=some (pD P S.b k)
 lt:mz<n0
 z:σ0 (.gq mz)=some (.list ((az P.n).map λk=>.ref (.t S.b k .fU)))
theorem Ct.at_(c:Ct P S n0 σ0 mz)(H:RK n0 σ0 S' n σ):σ (.gq mz)=some (.list ((az P.n).map λk=>.ref (.t S.b k .fU))):=(H.keep mz c.lt).trans c.z
theorem wO{N i j:Nat}(e:(az N)[i]?=some j):j=i∧i<N:=have l:=mE e;⟨by have q:=(List.getElem?_eq_some_iff.mp e).2;rw[List.getElem_range]at q;exact q.symm,eU l aD⟩
theorem Ct.l6(c:Ct P S n0 σ0 mz)(h:k<P.n):k<6:=ae h c.K.n6
theorem Nx(O:gT cx)(c:Ct P S n0 σ0 mz)(H:RK n0 σ0 (wG S 0 0) n σ)(p1:ρ .fU=some (.ref (.u S.b .gA)))(p2:ρ .iz=some (.ref (.gq mz)))
  (h:∀σ' ρ',RK n0 σ0 (wG S P.n 0) n σ'→ρ' .fU=some (.ref (.u S.b .gA))→ρ' .iz=some (.ref (.gq mz))→QQ .next σ' ρ'):W1 cx d (.for (.one (.var .gc)) (.var .iz) NN) (lk []) ρ σ QQ:=
 jO (f:=λk=>.ref (.t S.b k .fU)) (l:=az P.n) (r:=.gq mz) rfl (λi σ' ρ'=>RK n0 σ0 (wG S i 0) n σ'∧ρ' .fU=some (.ref (.u S.b .gA))∧ρ' .iz=some (.ref (.gq mz)))
  (fV p2 ⟨rfl,H,p1,p2⟩) (λi σ' ρ' q=>c.at_ q.1) (λi j σ₂ ρ₂ e q=>have w:=wO e;Na (P:=P) (j:=i) O q.1 (c.l6 w.2) (c.tk i w.2) (by rw[w.1];rfl) (by exact q.2.1) λσ' H'=>⟨H',q.2⟩)
  λσ₂ ρ₂ q=>h σ₂ ρ₂ (by have z:=q.1;rw[aD]at z;exact z) q.2.1 q.2.2
theorem KY(O:gT cx)(c:Ct P S n0 σ0 mz)(H:RK n0 σ0 (wG S P.n 0) n σ)(p1:ρ .f9=some (.ref (.u S.b .f9)))(p2:ρ .iz=some (.ref (.gq mz)))
  (h:∀σ' ρ',RK n0 σ0 (wG S P.n P.n) n σ'→ρ' .f9=some (.ref (.u S.b .f9))→ρ' .iz=some (.ref (.gq mz))→QQ .next σ' ρ'):W1 cx d (.for (.one (.var .gc)) (.var .iz) [.for (.one (.var .mA)) (.attr (.var .gc) .f9) NA]) (lk []) ρ σ QQ:=
 jO (f:=λk=>.ref (.t S.b k .fU)) (l:=az P.n) (r:=.gq mz) rfl (λi σ' ρ'=>RK n0 σ0 (wG S P.n i) n σ'∧ρ' .f9=some (.ref (.u S.b .f9))∧ρ' .iz=some (.ref (.gq mz)))
  (fV p2 ⟨rfl,H,p1,p2⟩) (λi σ' ρ' q=>c.at_ q.1) (λi j σ₂ ρ₂ e q=>have w:=wO e;fT (jO (f:=V.str) (l:=[jh (true,i)]) (r:=.t S.b i .f9) rfl (λi' σ' ρ'=>RK n0 σ0 (i'.casesOn (wG S P.n i) λZ=>wG S P.n (i+1)) n σ'∧ρ' .f9=some (.ref (.u S.b .f9))∧ρ' .iz=some (.ref (.gq mz))∧ρ' .gc=some (.ref (.t S.b i .fU)))
   (gw O (r:=.t S.b i .fU) (by rw[w.1];rfl) ⟨_,_,q.1.task (S:=wG S P.n i) (c.tk i w.2),rfl,rfl⟩ ⟨rfl,q.1,q.2.1,q.2.2,by rw[w.1];rfl⟩) (λi' σ' ρ' q=>i'.casesOn (motive:=λi'=>RK n0 σ0 (i'.casesOn (wG S P.n i) λZ=>wG S P.n (i+1)) n σ'→_) (λH=>H.vT (S:=wG S P.n i) (c.tk i w.2) .f9) (λZ H=>H.vT (S:=wG S P.n (i+1)) (c.tk i w.2) .f9) q.1)
   (λi' x σ₅ ρ₅ e' q=>by
    cases i' with
    |succ i'=>exact nn e'
    |zero=>exact Lo (P:=P) (j:=i) O q.1 (c.l6 w.2) (c.tk i w.2) (by exact q.2.2.2) (by exact q.2.1) (by rw[←Option.some.inj e'];rfl) λσ' H'=>⟨H',q.2⟩)
   λσ₅ ρ₅ q=>fY ⟨q.1,q.2.1,q.2.2.1⟩))
  λσ₂ ρ₂ q=>h σ₂ ρ₂ (by have z:=q.1;rw[aD]at z;exact z) q.2.1 q.2.2
theorem KA(O:gT cx)(F:gK cx)(c:Ct P S n0 σ0 mz)(H:RK n0 σ0 (wG S P.n P.n) n σ)(p1:ρ .f9=some (.ref (.u S.b .f9)))(p2:ρ .iz=some (.ref (.gq mz)))
  (h:∀σ' ρ',RK n0 σ0 (Lk P S P.n) n σ'→QQ .next σ' ρ'):W1 cx (d+1) (.for (.one (.var .gc)) (.var .iz) [.ex (.fn .il [(.var .f9),(.var .gc),(.attr (.var .gc) .gm)] [])]) (lk []) ρ σ QQ:=
 jO (f:=λk=>.ref (.t S.b k .fU)) (l:=az P.n) (r:=.gq mz) rfl (λi σ' ρ'=>RK n0 σ0 (Lk P S i) n σ'∧ρ' .f9=some (.ref (.u S.b .f9)))
  (fV p2 ⟨rfl,by rw[Vc];exact H,p1⟩) (λi σ' ρ' q=>c.at_ q.1) (λi j σ₅ ρ₅ e q=>have w:=wO e
   have hT:(Lk P S i).tk i=some (pD P S.b i):=Tp.trans (c.tk i w.2)
   fT (hZ (wk O (F _) (fX (fV (v:=.ref (.u S.b .f9)) q.2 (fX (fV (v:=.ref (.t S.b i .fU)) (by rw[w.1];rfl) (fX (gw O (r:=.t S.b i .fU) (by rw[w.1];rfl) ⟨_,_,q.1.task hT,rfl,rfl⟩ (fZ (jE ⟨rfl,rfl,
    yC (S:=Lk P S i) O c.K q.1 w.2 rfl hT rfl rfl λσ₆ H₆=>⟨rfl,fY ⟨by rw[LA (S:=S)]at H₆;exact H₆,q.2⟩⟩⟩)))))))))))
  λσ₂ ρ₂ q=>h σ₂ ρ₂ (by have z:=q.1;rw[aD]at z;exact z)
theorem yy(O:gT cx)(F:gK cx)(H:RK n0 σ0 S n σ)(hb:∀x,x=.iw∨x=.f9∨x=.iJ∨x=.gA→S.bb x=none)(c:Ct P S n0 σ0 mz)
  (h:∀σ',RK n0 σ0 (Lk P S P.n) n σ'→Q .none σ'):
  WC cx (d+4) .qF [.ref (.u S.b .gA),.ref (.gq mz)] (up σ (.u S.b .gA) (some (.inst .iy λZ=>none))) Q:=by
 have nb:=λx hx=>(H.lh x).trans (hb x hx)
 refine gu O rfl (fT (iM O (lI O (r:=.u S.b .iw) (sk (nf rfl) (nb _ (.inl rfl))) ⟨_,_,_,rfl,sk (nf rfl) (fW _ _ _),rfl,?_⟩)))
 refine fT (iM O (lI O (r:=.u S.b .f9) (sk (nf rfl) (p4 rfl (nb _ (.inr (.inl rfl))))) ⟨_,_,_,rfl,sk (nf rfl) (fW _ _ _),rfl,?_⟩))
 refine fT (iM O (iQ (fZ ⟨aw _,.u S.b .iJ,sk (nf rfl) (ue rfl (nb _ (.inr (.inr (.inl rfl))))),_,_,_,rfl,sk (nf rfl) (fW _ _ _),rfl,?_⟩)))
 refine fT (iM O (iu ⟨_,_,_,rfl,fW _ _ _,rfl,?_⟩))
 refine fT (Nx O c (H.bbs (λx=>?_) λr hr=>sk (hr _) (sk (hr _) (sk (hr _) (sk (hr _) (sk (hr _) (sk (hr _) (sk (hr _) (sk (hr _) rfl)))))))) rfl rfl λσ₂ ρ₂ H₂ p1 p2=>?_)
 ·have ne:∀{y:Nm},x≠y→I.u S.b x≠.u S.b y:=λh e=>h (by injection e)
  by_cases e1:x=.gA
  ·rw[e1]
   exact(fW _ _ _).trans (congrArg (λf=>some (Mine.O.inst .iy f)) (uK (by exact jL rfl):vg S.b .none=_).symm)
  by_cases e2:x=.iJ
  ·rw[e2];exact p4 rfl (fW _ _ _)
  by_cases e3:x=.f9
  ·rw[e3];exact ue rfl (fW _ _ _)
  by_cases e4:x=.iw
  ·rw[e4];exact p4 rfl (ue rfl (fW _ _ _))
  refine(sk (ne e1) (sk (ne e1) (sk (ne e2) (sk (ne e1) (sk (ne e3) (sk (ne e1) (sk (ne e4) (sk (ne e1) (H.lh x))))))))).trans (Eq.symm ?_)
  show(lk (Ur S.b 0 0) x).or (S.bb x)=_
  rw[show lk (Ur S.b 0 0) x=none from(kl e4 _ _).trans ((kl e2 _ _).trans ((kl e3 _ _).trans (kl e1 _ _)))]
  rfl
 have hc:σ₂ (.u S.b .gA)=some (.inst .iy (vg S.b .none)):=H₂.lh .gA
 have SD:σ₂ (.u S.b .iw)=some (.dict (vD tn (λk=>.ref (.t S.b k .fU)) (az P.n))):=H₂.lh .iw
 have JJ:=λk (hk:k∈az P.n)=>H₂.vT (S:=wG S P.n 0) (c.tk k (aM.mp hk))
 refine fT (EP O tn (λk=>.ref (.t S.b k .fU)) (gw O p1 ⟨_,_,hc,rfl,rfl⟩ ⟨rfl,rfl⟩) SD (λρ'=>ρ' .fU=some (.ref (.u S.b .gA))∧ρ' .iz=some (.ref (.gq mz))) ⟨p1,p2⟩
  (λk hk ob ρ' q=>fT (nR rfl (gw O (r:=.t S.b k .fU) rfl ⟨_,_,sk (nf rfl) (JJ k hk .fU),rfl,rfl⟩ ⟨_,rfl,sk (nf rfl) (JJ k hk .kM),fY ⟨rfl,rfl,q⟩⟩))) λρ₃ p=>?_)
 refine fT (hZ (jH O F .pE p.1 hc rfl rfl (fZ ⟨rfl,gu O rfl (fT (EP O tn (λk=>.ref (.t S.b k .fU)) (gw O rfl ⟨_,_,hc,rfl,rfl⟩ ⟨rfl,rfl⟩) SD (λZ=>True) trivial
  (λk hk ob ρ' Z=>fT (nR rfl (gw O (r:=.t S.b k .fU) rfl ⟨_,_,sk (nf rfl) (JJ k hk .fU),rfl,rfl⟩ ⟨_,rfl,sk (nf rfl) (JJ k hk .gr),fT (nR rfl (gw O (r:=.t S.b k .fU) rfl ⟨_,_,sk (nf rfl) (JJ k hk .fU),rfl,rfl⟩ ⟨_,rfl,sk (nf rfl) (JJ k hk .ij),fY ⟨rfl,rfl,trivial⟩⟩))⟩))) λZ Z=>fY ⟨rfl,?_⟩))⟩)))
 refine fT (hZ (PS O (fV p.1 ⟨_,_,_,.jW,rfl,hc,by exact jL rfl,rfl,F _,fX (gw O p.1 ⟨_,_,hc,rfl,rfl⟩ (fX (fV p.2 (fZ (jE ⟨rfl,rfl,gu O rfl ?_⟩)))))⟩)))
 exact fT (KY O c H₂ rfl rfl λσ₄ ρ₄ H₄ q1 q2=>fT (KA (d:=d+1) O F c H₄ q1 q2 λσ₅ ρ₅ H₅=>fY ⟨rfl,fY (h _ H₅)⟩))
end
end
mutual
def AQ(S:St)(l:List Nat):St:={S with tk:=λk=>if k∈l then (S.tk k).map tQ else S.tk k}
def ZL(n:Nat):Nm→Option I:=lk [(.fU,.gq n),(.jz,.gq (n+1))]
def XT(n:Nat):Nm→Option I:=qK (ZL n) [.jz,.fU]
section
variable{cx:Cx}{d:Nat}{ρ:Loc}{σ:Hp}{Q:V→Hp→Prop}{n0 n n' k b:Nat}{σ0 σ':Hp}
variable{P:jP}{S S':St}{ch:List Nat}{T:TS}{QQ:Fl→Hp→Loc→Prop}
theorem M9:AQ S []=S:=congrArg (λf=>({S with tk:=f}:St)) (funext λk=>if_neg aj)
theorem Kc{l:List Nat}(hk:k∉l)(hT:S.tk k=some T):(AQ S l).ib k (tQ T)=AQ S (l++[k]):=congrArg (λf=>({S with tk:=f}:St)) (funext λj=>(kJ (AQ S l).tk k (some (tQ T)) j).elim (λu=>by rw[u.2,u.1,if_pos (List.mem_append.mpr (.inr (.head _))),hT];rfl) λu=>u.2.trans (by
 show(if j∈l then (S.tk j).map tQ else S.tk j)=_
 by_cases q:j∈l
 ·rw[if_pos q,if_pos (List.mem_append.mpr (.inl q))]
 ·rw[if_neg q,if_neg λm=>(List.mem_append.mp m).elim q λm=>u.1 (ag.mp m)]))
structure Pf(n0:Nat)(σ0:Hp)(S:St)(n:Nat)(ch:List Nat)(m:Nat)(σ:Hp)(ρ:Loc)(l dn:List Nat):Prop where
 m:m=l.length
 e:ch=dn++l
 H:RK n0 σ0 (AQ S dn) (n+5) σ
 c1:σ (.gq n)=some (.cell (some (.ref (.u S.b .gA))))
 c2:σ (.gq (n+1))=some (.cell (some (.ref (.gq (n+2)))))
 f:σ (.gq (n+2))=some (.list (sV (dn.map tn)))
 k:σ (.gq (n+3))=some (.AP .gE (XT n))
 q:σ (.gq (n+4))=some (.list (sV (l.map tn)))
 s:ρ .uA=some (.ref (.gq (n+4)))
 a:ρ .gE=some (.ref (.gq (n+3)))
structure Pc(P:jP)(S:St)(ch:List Nat):Prop where
 n6:P.n≤6
 ts:S.bb .iw=some (.dict (rF S.b P.n))
 tk:∀k,k<P.n→∃T,S.tk k=some T∧T.opts=false
 cl:∀x∈ch,x<P.n
 cn:ch.Nodup
theorem p7{j i:Nat}(h:j<i):n+j≠n+i:=av (aH h n)
theorem Kf{j i:Nat}(h:i<j):n+j≠n+i:=bx (aH h n)
theorem OU(O:gT cx)(F:gK cx)(NS:o9 cx)(c:Pc P S ch)(hn:n0≤n){m:Nat}{l dn:List Nat}{sel:V}(IU:S.bb .gA=some (.inst .iy (vg S.b sel)))(w:Pf n0 σ0 S n ch m σ ρ (k::l) dn)
  (h:∀σ' ρ',Pf n0 σ0 S n ch l.length σ' ρ' l (dn++[k])→QQ .next σ' ρ'):WS cx (d+3) WJ (ZL n) ρ σ QQ:=NS.n2.elim λnd N2=>by
 have kc:k∈ch:=w.e▸List.mem_append.mpr (.inr (.head _))
 have kn:=c.cl k kc
 have k6:k<6:=ae kn c.n6
 have kd:k∉dn:=λq=>(List.nodup_append.mp (w.e▸c.cn:(dn++k::l).Nodup)).2.2 k q k (.head _) rfl
 have dl:dn.length≤6:=ab (ab (aA _ _) (ay (ax.symm.trans (congrArg cg w.e.symm)))) (ab (i4 c.cn c.cl) c.n6)
 refine(c.tk k kn).elim λT hT=>?_
 refine fT (hU rfl (It O (fV w.s ⟨_,.str (tn k),sV (l.map tn),rfl,w.q,?_⟩)))
 refine fT (gp (gv (gY (fV rfl ⟨false,Rt (σ:=σ) (Mn k k6),?_⟩))))
 have H₆:=w.H.old (m:=n+4) (ab hn (aA _ _)) (ak _) (some (.list (sV (l.map tn))))
 refine fT (hU rfl (R4 O N2 (z:=.gq (n+3)) (cs:=XT n) w.a (j0 (p7 (by decide)) w.k) (fX (fV (v:=.ref (.gq (n+4))) w.s (fX (fV rfl (fZ ⟨j0 (p7 (by decide)) w.k,rfl,?_⟩)))))))
 refine fT (hZ (jM O (gH (r:=.gq (n+1)) rfl (j0 (p7 (by decide)) w.c2) ⟨⟨_,j0 (p7 (by decide)) w.f⟩,fV rfl ⟨_,_,rfl,j0 (p7 (by decide)) w.f,ao (ab (ay (m6 _ _)) dl) (by decide),rfl,?_⟩⟩)))
 have H₇:=H₆.old (m:=n+2) (ab hn (aA _ _)) (aH (by decide) n) (some (.list (sV (dn.map tn)++[.str (tn k)])))
 have c1:∀{o},(up (up σ (.gq (n+4)) (some (.list (sV (l.map tn))))) (.gq (n+2)) o) (.gq n)=some (.cell (some (.ref (.u S.b .gA)))):=λ{o}=>j0 (p7 (j:=0) (by decide)) (j0 (p7 (j:=0) (by decide)) w.c1)
 have hc₇:=(H₇.lh .gA).trans IU
 have ht₇:=(H₇.lh .iw).trans c.ts
 have NZ:=vM (b:=S.b) c.n6 kn
 refine fT (gp (gv (fV rfl (vO O (gH (r:=.gq n) rfl c1 ⟨_,_,rfl,⟨_,_,hc₇,rfl,rfl⟩,true,qQ ht₇ (by exact congrArg dD NZ),?_⟩)))))
 refine fT (hU rfl (jr (vO O (gH (r:=.gq n) rfl c1 ⟨_,_,rfl,⟨_,_,hc₇,rfl,rfl⟩,fV rfl ⟨.ref (.t S.b k .fU),mI ht₇ NZ,?_⟩⟩))))
 refine fT (hU rfl (jH O F .kA rfl (H₇.task ((if_neg kd).trans hT.1)) rfl rfl (fX (fV (v:=.ref (.gq (n+4))) rfl (fZ ⟨rfl,pM (d:=d+1) O H₇.base ((if_neg kd).trans hT.1) (λe=>bf (hT.2.symm.trans e)) λZ σ₈ H₈=>fY (fT (iA (fV rfl (fY (fY (h _ _ ⟨rfl,by rw[w.e,bD];rfl,?_,?_,?_,?_,?_,?_,rfl,w.a⟩))))))⟩)))))
 ·have z:=H₇.trans H₈
  rw[Kc kd hT.1]at z
  exact z
 ·exact(H₈.keep n (dR (by decide))).trans c1
 ·exact(H₈.keep (n+1) (aH (by decide) n)).trans (j0 (p7 (by decide)) (j0 (p7 (by decide)) w.c2))
 ·exact(H₈.keep (n+2) (aH (by decide) n)).trans ((fW _ _ _).trans (by rw[ar,sV,sV,ar];rfl))
 ·exact(H₈.keep (n+3) (aH (by decide) n)).trans (j0 (Kf (by decide)) (j0 (p7 (by decide)) w.k))
 ·exact(H₈.keep (n+4) (ak _)).trans (j0 (Kf (by decide)) (fW _ _ _))
theorem FO(O:gT cx)(F:gK cx)(NS:o9 cx)(c:Pc P S ch)(H:RK n0 σ0 S n σ){sel:V}(IU:S.bb .gA=some (.inst .iy (vg S.b sel))){r:Nat}(hr:r<n)(hl:σ (.gq r)=some (.list (sV (ch.map tn))))
  (h:∀σ',RK n0 σ0 (AQ S ch) (n+5) σ'→σ' (.gq (n+2))=some (.list (sV (ch.map tn)))→Q (.ref (.gq (n+2))) σ'):
  WC cx (d+4) .gB [.ref (.u S.b .gA),.ref (.gq r)] σ Q:=NS.n2.elim λnd N2=>by
 have ne1:I.gq n≠.gq (n+1):=pI (av (ak _))
 have H₁:=(H.new (some (.cell (some (.ref (.u S.b .gA)))))).new (some (.cell none))
 have H₂:=(H₁.new (some (.list []))).old (m:=n+1) (ab H.le (aT _)) (a5 (ak (n+1))) (some (.cell (some (.ref (.gq (n+2))))))
 have H₃:=H₂.new (some (.AP .gE (XT n)))
 have H₄:=H₃.new (some (.list (sV (ch.map tn))))
 have rn:∀{i},r≠n+i:=λ{i}=>av (ae hr (aA _ _))
 refine zK O [(.fU,.gq n),(.jz,.gq (n+1))] rfl (List.nodup_cons.mpr ⟨λm=>ne1 (ag.mp m),List.nodup_cons.mpr ⟨aj,.nil⟩⟩) (λr m=>(List.mem_cons.mp m).elim (λe=>e▸H.no) λm=>ag.mp m▸H.free _ (aT _)) ?_
 refine EO (lN rfl (iQ (fZ ⟨aw _,.gq (n+2),H₁.no,.gq (n+1),none,rfl,j0 (p7 (by decide)) (fW _ _ _),?_⟩)))
 refine I4 O N2 (λy hy=>(List.mem_cons.mp hy).elim (λe=>⟨.gq (n+1),by rw[e];rfl⟩) λm=>⟨.gq n,by rw[ag.mp m];rfl⟩) (z:=.gq (n+3)) H₂.no ?_
 refine fT (hU rfl (sU (fV rfl ⟨.gq r,_,.gq (n+4),rfl,.inl (j0 rn (j0 rn (j0 rn (j0 rn (j0 (av hr) hl))))),rfl,rfl,H₃.no,?_⟩)))
 rw[s7]
 refine fT (DO (λm σ' ρ'=>∃l dn,Pf n0 σ0 S n ch m σ' ρ' l dn) _ ⟨ch,[],rfl,rfl,by rw[M9];exact H₄,?_,?_,?_,?_,fW _ _ _,rfl,rfl⟩ λm σ₅ ρ₅ q=>q.elim λl q=>q.elim λdn w=>?_)
 ·exact j0 (p7 (j:=0) (by decide)) (j0 (p7 (j:=0) (by decide)) (j0 (p7 (j:=0) (by decide)) (j0 (p7 (j:=0) (by decide)) (j0 (p7 (j:=0) (by decide)) (fW _ _ _)))))
 ·exact j0 (p7 (by decide)) (j0 (p7 (by decide)) (fW _ _ _))
 ·exact j0 (p7 (by decide)) (j0 (p7 (by decide)) (j0 (Kf (by decide)) (fW _ _ _)))
 ·exact j0 (p7 (by decide)) (fW _ _ _)
 cases l with
 |nil=>
  have e:ch=dn:=w.e.trans (aU _)
  exact gM O rfl (fV w.s ⟨false,nH w.q,fT (iA (gH (r:=.gq (n+1)) rfl w.c2 (h _ (e▸w.H) (e▸w.f))))⟩)
 |cons k l=>exact gM O rfl (fV w.s ⟨true,nH w.q,OU (d:=d) O F NS c H.le IU w λσ' ρ' w'=>⟨l.length,by rw[w.m];exact ak _,l,_,w'⟩⟩)
end
end
mutual
section
variable{cx:Cx}{d:Nat}{ρ:Loc}{σ:Hp}{Q:V→Hp→Prop}{n0 n n' k b:Nat}{σ0 σ':Hp}
variable{P:jP}{S S':St}{ch:List Nat}{D:DS}
theorem BO{x:Nm}{o:Option O}:(S.jA x o).bb x=o:=fW _ _ _
def Jo(S:St)(l:List Nat):St:=S.jA .gk (some (.list (sV (l.map tn))))
theorem LB(O:gT cx){QQ:Fl→Hp→Loc→Prop}{l:List Nat}{sel:V}(H:RK n0 σ0 (Jo S l) n σ)(IU:S.bb .gA=some (.inst .iy (vg S.b sel)))(SD:S.bb .iw=some (.dict (rF S.b P.n)))(n6:P.n≤6)(kn:k<P.n)(hl:l.length≤100)(p0:ρ .si=some (.str (tn k)))(p1:ρ .fU=some (.ref (.u S.b .gA)))(p2:ρ .kY=some (.ref (.u S.b .gk)))
  (h:∀σ',RK n0 σ0 (Jo S (l++[k])) n σ'→QQ .cont σ' ρ):WS cx d My (lk []) ρ σ QQ:=by
 have hs:σ (.u S.b .gk)=some (.list (sV (l.map tn))):=(H.lh .gk).trans BO
 have z:=H.jA .gk (some (.list (sV (l.map tn)++[.str (tn k)])))
 rw[Jo,xQ,show sV (l.map tn)++[.str (tn k)]=sV ((l++[k]).map tn) by rw[ar,sV,sV,ar];rfl]at z
 refine fT (gp (gv (fV p0 (gw O p1 ⟨_,_,(H.lh .gA).trans IU,rfl,rfl⟩ ⟨true,qQ ((H.lh .iw).trans SD) (by rw[vM n6 kn];rfl),
  fT (hZ (jM O (fV p2 ⟨⟨_,hs⟩,fV p0 ⟨_,_,rfl,hs,ao (ab (ay (m6 _ _)) hl) (by decide),rfl,fT (C3 (h _ ?_))⟩⟩)))⟩))))
 rw[show sV (l.map tn)++[.str (tn k)]=sV ((l++[k]).map tn) by rw[ar,sV,sV,ar];rfl]
 exact z
theorem zT(O:gT cx)(F:gK cx)(NS:o9 cx)(c:Pc P S ch)(H:RK n0 σ0 S n σ)(IU:S.bb .gA=some (.inst .iy (vg S.b .none)))(Zg:S.bb .gk=none){r:Nat}(hr:r<n)(hl:σ (.gq r)=some (.list (sV (ch.map tn))))
  (h:∀n' σ',RK n0 σ0 ((Jo (AQ S ch) ch).jA .gA (some (.inst .iy (vg S.b (.ref (.u S.b .gk)))))) n' σ'→Q .none σ'):
  WC cx (d+6) .oH [.ref (.u S.b .gA),.ref (.gq r)] σ Q:=by
 have ct:=(H.lh _).trans IU
 have H₁:=H.jA .gk (some (.list []))
 refine gu O rfl (fT (gp (gv (fV rfl (iu ⟨true,rfl,fT (iM O (jH O F .qH rfl ct rfl rfl (fX (fV rfl (fZ ⟨rfl,gu O rfl ?_⟩)))))⟩)))))
 refine fT (hU rfl (iQ (fZ ⟨aw _,.u S.b .gk,(H.lh _).trans Zg,?_⟩)))
 refine fT (hU rfl (jH O F .gB (r:=.u S.b .gA) rfl ((H₁.lh .gA).trans IU) rfl rfl (fX (fV rfl (fZ ⟨rfl,FO (S:=S.jA .gk _) O F NS ⟨c.n6,c.ts,c.tk,c.cl,c.cn⟩ H₁.base (sel:=.none) IU hr (sk (nf rfl) hl) λσ₂ H₂ l2=>?_⟩)))))
 refine fT (jO (f:=λk=>.str (tn k)) (l:=ch) (r:=.gq (n+2)) rfl (λi σ' ρ'=>RK (n+5) σ₂ (Jo (AQ S ch) (ch.take i)) (n+5) σ'∧ρ' .fU=some (.ref (.u S.b .gA))∧ρ' .kY=some (.ref (.u S.b .gk)))
  (fV rfl ⟨rfl,H₂.base,rfl,rfl⟩) (λi σ' ρ' q=>(q.1.keep (n+2) (aH (by decide) n)).trans (l2.trans (congrArg (λl=>some (Mine.O.list l)) (qU _ _)))) (λi k σ₃ ρ₃ e q=>?_) λσ₃ ρ₃ q=>?_)
 ·exact LB (P:=P) (S:=AQ S ch) O q.1 IU c.ts c.n6 (c.cl k (aE e)) (ab (by rw[aO];exact a8 _ _) (ab (i4 c.cn c.cl) (ab c.n6 (by decide)))) rfl q.2.1 q.2.2 λσ' H'=>⟨by rw[bg,e];exact H',q.2⟩
 ·have H₃:=q.1
  rw[aV]at H₃
  have H₄:=H₃.jA .gA (some (.inst .iy (vg S.b (.ref (.u S.b .gk)))))
  refine fT (iA (fV q.2.2 ⟨_,_,_,rfl,(H₃.lh .gA).trans IU,rfl,fY (fY (h (n+5) _ ?_))⟩))
  show RK _ _ _ _ (up σ₃ (.u S.b .gA) (some (.inst .iy (up (vg S.b .none) .gk (some (.ref (.u S.b .gk)))))))
  rw[show up (vg S.b .none) .gk (some (.ref (.u S.b .gk)))=vg S.b (.ref (.u S.b .gk))from(uo (by exact rfl):up (vg S.b .none) .gk (some (.ref (.u S.b .gk)))=_)]
  exact(H₁.trans H₂).trans H₄
theorem RK.newD(H:RK n0 σ0 S n σ)(h1:∀x,σ' (.q S.b x)=z0 S.b D x)(h2:∀r,(∀x,r≠.q S.b x)→σ' r=σ r):RK n0 σ0 (S.jq D) n σ':=
 ⟨H.le,λm hm=>(h2 _ λZ e=>I.noConfusion e).trans (H.keep m hm),λr hr=>by
  have other:(∀x,r≠.q S.b x)→heapOf (S.jq D) r=heapOf S r→σ' r=heapOf (S.jq D) r:=λa b=>((h2 r a).trans (H.live r hr)).trans b.symm
  cases r with
  |q b x=>exact(aK (b=S.b)).elim (λe=>by rw[e];exact(h1 x).trans (if_pos rfl).symm) λe=>other (λy q=>e (by injection q)) ((if_neg e).trans (if_neg e).symm)
  |_=>exact other (λZ e=>I.noConfusion e) rfl,λm hm=>(h2 _ λZ e=>I.noConfusion e).trans (H.free m hm)⟩
def Fo(ch:List Nat):DS:=⟨[],[],[],ch.reverse,none⟩
theorem TX(l:List Nat):(sV (l.map tn)).reverse=sV (l.reverse.map tn):=by rw[sV,sV,←List.map_reverse,←List.map_reverse]
theorem A2(O:gT cx)(F:gK cx)(H:RK n0 σ0 S n σ)(IU:S.bb .gA=some (.inst .iy (vg S.b (.ref (.u S.b .gk)))))(Zg:S.bb .gk=some (.list (sV (ch.map tn))))(hD:S.D=none)
  (h:∀σ',RK n0 σ0 (S.jq (Fo ch)) n σ'→Q (.ref (.q S.b .fU)) σ'):WC cx (d+3) .lA [.ref (.u S.b .gA)] σ Q:=by
 have ct:=(H.lh _).trans IU
 have se:=(H.lh _).trans Zg
 have nq:=H.noQ hD
 refine gu O rfl (fT (Iq (gv (gw O rfl ⟨_,_,ct,rfl,rfl⟩ (iu ⟨true,rfl,rfl,?_⟩)))))
 refine fT (iA (vx O (f:=.tS) rfl (F _) (fX (gw O rfl ⟨_,_,ct,rfl,rfl⟩ (fX (gw O rfl ⟨_,_,ct,rfl,rfl⟩ (fX (gw O rfl ⟨_,_,ct,rfl,rfl⟩ (fZ (jE ⟨rfl,rfl,.q S.b .fU,nq _,gu O rfl ?_⟩))))))))))
 refine fT (iM O (fV rfl ⟨_,_,_,rfl,fW _ _ _,rfl,fT (iM O (fV rfl ⟨_,_,_,rfl,fW _ _ _,rfl,fT (iM O (fV rfl ⟨_,_,_,rfl,fW _ _ _,rfl,?_⟩))⟩))⟩))
 rw[lD,lD,lD]
 refine fT (iM O (lI O (r:=.q S.b .lK) (sk (nf rfl) (nq _)) ⟨_,_,_,rfl,sk (nf rfl) (fW _ _ _),rfl,?_⟩))
 refine fT (iM O (lI O (r:=.q S.b .jy) (sk (nf rfl) (p4 rfl (nq _))) ⟨_,_,_,rfl,sk (nf rfl) (fW _ _ _),rfl,?_⟩))
 refine fT (iM O (iQ (fZ ⟨aw _,.q S.b .ku,sk (nf rfl) (ue rfl (nq _)),_,_,_,rfl,sk (nf rfl) (fW _ _ _),rfl,?_⟩)))
 refine fT (iM O (D6 O (fV rfl ⟨_,_,.q S.b .h8,rfl,sk (nf rfl) (p4 rfl (ue rfl se)),sk (nf rfl) (p4 rfl (ue rfl (nq _))),_,_,_,rfl,sk (nf rfl) (fW _ _ _),rfl,?_⟩)))
 refine fT (iM O (iu ⟨_,_,_,rfl,fW _ _ _,rfl,fY ⟨rfl,h _ (H.newD (λx=>?_) λr hr=>sk (hr _) (sk (hr _) (sk (hr _) (sk (hr _) (sk (hr _) (sk (hr _) (sk (hr _) (sk (hr _) (sk (hr _) (sk (hr _) rfl))))))))))⟩⟩))
 have ne:∀{y:Nm},x≠y→I.q S.b x≠.q S.b y:=λh e=>h (by injection e)
 by_cases e1:x=.fU
 ·rw[e1]
  exact(fW _ _ _).trans (congrArg (λf=>some (Mine.O.inst .kQ f)) (uK (by exact jL rfl):yf S.b (Fo ch)=_).symm)
 by_cases e2:x=.h8
 ·rw[e2];exact p4 rfl ((fW _ _ _).trans (congrArg (λl=>some (Mine.O.list l)) (TX ch)))
 by_cases e3:x=.ku
 ·rw[e3];exact ue rfl (fW _ _ _)
 by_cases e4:x=.jy
 ·rw[e4];exact p4 rfl (ue rfl (fW _ _ _))
 by_cases e5:x=.lK
 ·rw[e5];exact A5 rfl (fW _ _ _)
 refine(sk (ne e1) (sk (ne e1) (sk (ne e2) (sk (ne e1) (sk (ne e3) (sk (ne e1) (sk (ne e4) (sk (ne e1) (sk (ne e5) (sk (ne e1) (nq x))))))))))).trans (Eq.symm ?_)
 exact(kl e1 _ _).trans ((kl e5 _ _).trans ((kl e4 _ _).trans ((kl e3 _ _).trans (kl e2 _ _))))
end
end
mutual
def txt(k:Nat)(held:List Str):Str:=((AV (k:Int)++aa "(")++Txt.join (aa ",") held)++aa ")"
theorem u0:∀k:Nat,k<6→(AV (k:Int)).length=1:=by decide+kernel
def Me(l:List Str):Nat:=(l.map (·.length)).sum+l.length
theorem ER(l:List Str):(Txt.join (aa ",") l).length≤Me l:=by
 have h:=StrLaws.join_length_le (aa ",") l
 rw[←StrLaws.glued_eq_join,show(aa ",").length=1 by decide,Nat.mul_one]at h
 exact h
theorem OB:(aa "(").length=1:=by decide
theorem UY:(aa ")").length=1:=by decide
theorem Hx{k:Nat}(hk:k<6)(l:List Str):(txt k l).length≤Me l+3:=by
 unfold txt
 rw[cG,cG,cG,u0 k hk,OB,UY,bR (1+1)]
 exact aX (ER l) 3
section
variable{cx:Cx}{d:Nat}{γ:Nm→Option I}{ρ:Loc}{σ:Hp}{Q:V→Hp→Prop}{n0 n n' k b:Nat}{σ0 σ':Hp}
theorem MT{a b:Str}(h:a.length+b.length≤100000):El .Add (.str a) (.str b)=some (.str (a++b)):=if_pos h
theorem Ow{held:List Str}(hl:Me held≤50000):JoinOk (aa ",") held:=by
 have e3:(aa ",").length=1:=by decide
 unfold Me at hl
 unfold JoinOk
 rw[Bool.not_eq_true',StrLaws.joinTotal]
 simp only [Builtin.Str.tooLong,decide_eq_false_iff_not,cz,e3]
 omega
theorem yn(O:gT cx){r:I}{held:List Str}(hk:k<6)(hr:σ r=some (.list (sV held)))(hl:Me held≤50000)(h:Q (.str (txt k held)) σ):WC cx (d+1) .qR [.int k,.ref r] σ Q:=by
 have jl:(Txt.join (aa ",") held).length≤50000:=ab (ER held) hl
 refine gu O rfl (fT (iA (kW (kW (kW (zo O (fV rfl ⟨k,rfl,ab (aY hk) (by decide),gY ⟨_,MT (by rw[u0 k hk,OB];decide),?_⟩⟩)))))))
 refine N6 O (gY ⟨trivial,fV rfl ⟨_,_,_,held,rfl,rfl,hr,wW _,Ow hl,_,MT (by rw[cG,u0 k hk,OB];exact ab (aW jl _) (by decide)),?_⟩⟩)
 exact gY ⟨_,MT (by rw[cG,cG,u0 k hk,OB,UY];exact ab (aX (aW jl _) _) (by decide)),h⟩
end
end
mutual
def Gk(j:Nat):Str:=⟨#[120+j]⟩
def nB(T:Nat→Str)(f:lO):Str:=if f.1=true then T f.2 else Gk f.2
structure UN(P:jP)(T:Nat→Str):Prop where
 eq:∀k,k<P.n→T k=txt k ((P.row k).map (nB T))
 sm:∀k,k<P.n→Me ((P.row k).map (nB T))≤50000
def iV(l:List Nat):List V:=l.map λk:Nat=>V.int (k:Int)
noncomputable abbrev v5:I:=.p .jF 0
noncomputable abbrev qT:I:=.p .gZ 0
noncomputable abbrev yg:I:=.p .kb 0
def runN(sv:List Nat)(cnt:Nat→Nat)(k:Nat):Nat:=(if k∈sv then 1 else 0)+cnt k
def tT(P:jP)(sv:List Nat)(cnt:Nat→Nat):List V:=(az P.n).map λk=>.int (runN sv cnt k:Int)
def rP(cnt:Nat→Nat)(k:Nat):Nat→Nat:=λj=>if j=k then cnt j+1 else cnt j
structure LI(P:jP)(S:St)(ts:Bool)(T:Nat→Str)(w:Fs)(sv:List Nat)(cnt:Nat→Nat)(wl:Nat):Prop where
 pp:PP P S ts w sv
 rw:RW P S
 wl:∃W,S.pp .gF 0=some (.dict W)∧W.length≤wl
 src:∀j,j<3→w (false,j)=some ((j:Int),Gk j)
 out:∀k∈sv,∃c,w (true,k)=some (c,T k)
 cl:∀k∈sv,∀j∈P.iv k,j∈sv
 sd:S.pp .gZ 0=some (.list (iV sv))
 ck:∃c:Int,S.pp .jF 0=some (.list [.int c])
 rn:S.pp .kb 0=some (.list (tT P sv cnt))
def YQ(w:Fs)(k:Nat)(c:Int)(t:Str):Fs:=λf=>if f=(true,k)then some (c,t)else w f
def W9(S:St)(W:List (Str×V))(k:Nat)(c:Int)(t:Str)(rv:List V):St:=
 ((S.iP .jF 0 (some (.list [.int c]))).iP .gF 0 (some (.dict (putD W (jh (true,k)) (kU (c,t)))))).iP .kb 0 (some (.list rv))
section
variable{k:Nat}{P:jP}{S S':St}{ts:Bool}{w:Fs}{sv:List Nat}{T:Nat→Str}{cnt:Nat→Nat}{wl:Nat}
theorem LI.of(h:LI P S ts T w sv cnt wl)(e1:S'.pp=S.pp)(e2:S'.vv=S.vv):LI P S' ts T w sv cnt wl:=
 ⟨h.pp.of e1 e2,h.rw.of e1,e1▸h.wl,h.src,h.out,h.cl,e1▸h.sd,e1▸h.ck,e1▸h.rn⟩
theorem LI.mono{Kh:Nat}(h:LI P S ts T w sv cnt wl)(hw:wl≤Kh):LI P S ts T w sv cnt Kh:=
 ⟨h.pp,h.rw,h.wl.elim λW e=>⟨W,e.1,ab e.2 hw⟩,h.src,h.out,h.cl,h.sd,h.ck,h.rn⟩
theorem LI.file(h:LI P S ts T w sv cnt wl)(K:rG P)(hk:k<P.n)(hd:∀j∈P.iv k,j∈sv):∀f∈P.row k,∃c,w f=some (c,nB T f):=λf hf=>by
 cases e:f.1 with
 |true=>
  have ef:f=(true,f.2):=cH e rfl
  exact(h.out f.2 (hd f.2 (lU.mpr (ef▸hf)))).elim λc hc=>⟨c,by rw[ef,hc];rfl⟩
 |false=>
  have ef:f=(false,f.2):=cH e rfl
  exact⟨(f.2:Int),by rw[ef,h.src f.2 (K.rs k hk f hf e)];rfl⟩
theorem Dv:iV sv++[.int (k:Int)]=iV (sv++[k]):=(ar (f:=λk:Nat=>V.int (k:Int)) (l₁:=sv) (l₂:=[k])).symm
theorem Eh:(tT P sv cnt).length=P.n:=(ai ..).trans aD
theorem MG(hk:k<P.n):(tT P sv cnt).set k (.int ((runN sv cnt k:Int)+1))=tT P sv (rP cnt k):=by
 refine eY λi=>?_
 by_cases e:k=i
 ·rw[←e,List.getElem?_set_self (Eh.symm▸hk),tT,uf _ hk,runN,runN,rP,if_pos rfl]
  rfl
 ·rw[List.getElem?_set_ne e,tT,tT,aQ,aQ]
  cases q:(az P.n)[i]? with
  |none=>rfl
  |some j=>
   have ej:j≠k:=λz=>e (z.symm.trans (wO q).1)
   show some (V.int (runN sv cnt j:Int))=some (V.int (runN sv (rP cnt k) j:Int))
   rw[runN,runN,rP,if_neg ej]
theorem Jc(hs:k∉sv):tT P sv (rP cnt k)=tT P (sv++[k]) cnt:=cT λj hj=>congrArg (λm:Nat=>V.int (m:Int)) (by
 unfold runN rP
 by_cases e:j=k
 ·rw[if_pos e,e,if_neg hs,if_pos (List.mem_append.mpr (.inr (.head _)))]
  exact(c5 _).trans (bR _ 1)
 ·rw[if_neg e]
  refine congrArg (· +cnt j) ?_
  by_cases q:j∈sv
  ·rw[if_pos q,if_pos (List.mem_append.mpr (.inl q))]
  ·rw[if_neg q,if_neg λm=>(List.mem_append.mp m).elim q λm=>e (ag.mp m)])
theorem Ad{W:List (Str×V)}{c:Int}{t:Str}{rv:List V}{x:Nm}{j:Nat}(a:x≠.jF)(b:x≠.gF)(e:x≠.kb):(W9 S W k c t rv).pp x j=S.pp x j:=(iC e).trans ((iC b).trans (iC a))
theorem LI.write(h:LI P S ts T w sv cnt wl)(K:rG P)(hk:k<P.n)(hs:k∉sv){W:List (Str×V)}(hW:S.pp .gF 0=some (.dict W))(hl:wl≤900){c:Int}{t:Str}:
  LI P (W9 S W k c t (tT P sv (rP cnt k))) ts T (YQ w k c t) sv (rP cnt k) (wl+1):=by
 have k6:k<6:=ae hk K.n6
 have ww:(W9 S W k c t (tT P sv (rP cnt k))).pp .gF 0=some (.dict (putD W (jh (true,k)) (kU (c,t)))):=(iC (nf rfl)).trans i9
 have wi:∀{W':List (Str×V)},S.pp .gF 0=some (.dict W')→W'=W:=λe=>Mine.O.Ey (Option.some.inj (e.symm.trans hW))
 have VG:(putD W (jh (true,k)) (kU (c,t))).length≤wl+1:=h.wl.elim λW' e=>ab (m9 ..) (bl (wi e.1▸e.2))
 refine⟨⟨⟨_,ww,ab VG (ab (bl hl) (by decide)),λf hf=>?_⟩,(Ad (nf rfl) (nf rfl) (nf rfl)).trans h.pp.db,h.pp.sl,h.pp.sn,λk' AU=>(h.pp.en k' AU).elim λE e=>⟨E,(Ad (nf rfl) (nf rfl) (nf rfl)).trans e.1,e.2.vals,e.2.ck,e.2.ig,λf hf=>?_,e.2.dp⟩,λk' AU=>(Ad (nf rfl) (nf rfl) (nf rfl)).trans (h.pp.no k' AU)⟩,
  ⟨(Ad (nf rfl) (nf rfl) (nf rfl)).trans h.rw.rows,λj hj=>(Ad (nf rfl) (nf rfl) (nf rfl)).trans (h.rw.row j hj)⟩,⟨_,ww,VG⟩,λj hj=>(if_neg λe=>bf (congrArg Prod.fst e)).trans (h.src j hj),λk' AU=>(h.out k' AU).elim λc' e=>⟨c',(if_neg λz:((true,k'):lO)=(true,k)=>hs ((show k'=k from congrArg fM z)▸AU)).trans e⟩,h.cl,(Ad (nf rfl) (nf rfl) (nf rfl)).trans h.sd,⟨c,(iC (nf rfl)).trans ((iC (nf rfl)).trans i9)⟩,i9⟩
 ·exact h.pp.wd.elim λW2 e2=>by
   unfold YQ
   by_cases e:f=(true,k)
   ·rw[e,if_pos rfl];exact oT ..
   ·rw[if_neg e,←e2.2.2 f hf,wi e2.1]
    exact j8 λq=>e (oY hf k6 q)
 ·rw[show YQ w k c t f=w f from if_neg λz:f=(true,k)=>hs (h.cl k' AU k (lU.mpr (z▸hf)))]
  exact e.2.fs f hf
theorem LI.save(h:LI P S ts T w sv (rP cnt k) wl)(hk:k<P.n)(hs:k∉sv)(hd:∀j∈P.iv k,j∈sv)(ht:∃c,w (true,k)=some (c,T k))(hp:PP P S' ts w (sv++[k]))(ho:∀x j,x≠.oD→x≠.iO→S'.pp x j=S.pp x j):
  LI P (S'.iP .gZ 0 (some (.list (iV sv++[.int (k:Int)])))) ts T w (sv++[k]) cnt wl:=by
 have so:∀{x:Nm} {j:Nat},x≠.gZ→(S'.iP .gZ 0 (some (.list (iV sv++[.int (k:Int)])))).pp x j=S'.pp x j:=λe=>iC e
 have sq:∀{x:Nm} {j:Nat},x≠.gZ→x≠.oD→x≠.iO→(S'.iP .gZ 0 (some (.list (iV sv++[.int (k:Int)])))).pp x j=S.pp x j:=λa b c=>(so a).trans (ho _ _ b c)
 exact⟨⟨(so (x:=.gF) (j:=0) (nf rfl)).symm▸hp.wd,(so (nf rfl)).trans hp.db,hp.sl,hp.sn,λj hj=>(hp.en j hj).elim λE e=>⟨E,(so (nf rfl)).trans e.1,e.2.of rfl⟩,λj hj=>(so (nf rfl)).trans (hp.no j hj)⟩,⟨(sq (nf rfl) (nf rfl) (nf rfl)).trans h.rw.rows,λj hj=>(sq (nf rfl) (nf rfl) (nf rfl)).trans (h.rw.row j hj)⟩,
  (sq (x:=.gF) (j:=0) (nf rfl) (nf rfl) (nf rfl)).symm▸h.wl,h.src,k9 h.out (oi ht),k9 (λj q i hi=>List.mem_append.mpr (.inl (h.cl j q i hi))) (oi λi hi=>List.mem_append.mpr (.inl (hd i hi))),i9.trans (congrArg (λl=>some (Mine.O.list l)) Dv),(sq (x:=.jF) (j:=0) (nf rfl) (nf rfl) (nf rfl)).symm▸h.ck,(sq (nf rfl) (nf rfl) (nf rfl)).trans (h.rn.trans (by rw[Jc hs]))⟩
end
end
mutual
section
variable{cx:Cx}{d:Nat}{γ:Nm→Option I}{ρ:Loc}{σ:Hp}{Q:V→Hp→Prop}{n0 n n' k b a:Nat}{σ0 σ':Hp}
variable{P:jP}{S S':St}{ts:Bool}{w:Fs}{sv:List Nat}{T:Nat→Str}{cnt:Nat→Nat}{wl:Nat}
theorem xx(l:List Nat):(iV l).all isAtom=true:=List.all_eq_true.mpr λx hx=>(List.mem_map.mp hx).elim λk e=>e.2▸rfl
theorem LY(k:Nat):∀l:List Nat,(iV l).any (λy=>i5 y (.int (k:Int)))=decide (k∈l)
 |[]=>rfl
 |y::l=>by
  show((y:Int)==(k:Int)||(iV l).any λy=>i5 y (.int (k:Int)))=_
  rw[LY k l]
  by_cases e:y=k
  ·rw[e,beq_self_eq_true,Bool.true_or];exact(decide_eq_true (.head _)).symm
  ·rw[show((y:Int)==(k:Int))=false from beq_eq_false_iff_ne.mpr λq=>e (Int.ofNat.inj q),Bool.false_or];exact decide_eq_decide.mpr ⟨.tail _,λm=>(List.mem_cons.mp m).resolve_left (Ne.symm e)⟩
theorem EC{r:I}{l:List Nat}(h:σ r=some (.list (iV l))):rZ σ .In (.int (k:Int)) (.ref r)=some (decide (k∈l)):=by
 show inR _ (σ r)=_
 rw[h]
 show(if ((isAtom (.int (k:Int)))&&(iV l).all isAtom)=true then some ((iV l).any λy=>i5 y (.int (k:Int)))else none)=_
 rw[xx,LY];rfl
theorem Hc{r:I}{l:List Nat}(h:σ r=some (.list (iV l))):rZ σ .NotIn (.int (k:Int)) (.ref r)=some (!decide (k∈l)):=congrArg (bh (!·)) (EC h)
theorem I6:∀k:Nat,k<6→yc (tn k)=AV (k:Int)∧(yc (tn k)).length≤100000:=by decide+kernel
theorem IB{l:List lO}{f:lO}(hl:∀g∈l,g.2<6)(hf:f.2<6):jh f∈l.map jh↔f∈l:=
 ⟨λh=>(List.mem_map.mp h).elim λx w=>oY (hl x w.1) hf w.2▸w.1,λh=>List.mem_map.mpr ⟨f,h,rfl⟩⟩
theorem wQ(hr:σ j1=some (.list ((az P.n).map λk=>.ref (mD k))))(hk:k<P.n):wZ σ (.ref j1) (.int (k:Int))=some (.ref (mD k)):=qV hr (uf _ hk)
structure BC(a:Nat)(σ:Hp):Prop where
 rows:σ (.gq a)=some (.cell (some (.ref j1)))
 zt:σ (.gq (a+1))=some (.cell (some (.ref kz)))
 saved:σ (.gq (a+2))=some (.cell (some (.ref qT)))
 k:∃u,σ (.gq (a+3))=some (.cell u)
def CK(a k:Nat)(σ:Hp):Prop:=σ (.gq (a+3))=some (.cell (some (.int (k:Int))))
theorem BC.up(h:BC a σ){r:I}{o:Option O}(hr:∀m,m<a+4→I.gq m≠r):BC a (Mine.up σ r o):=
 ⟨(gD _ _ (hr a (dR (by decide)))).trans h.rows,(gD _ _ (hr (a+1) (aH (by decide) a))).trans h.zt,(gD _ _ (hr (a+2) (aH (by decide) a))).trans h.saved,h.k.elim λu e=>⟨u,(gD _ _ (hr (a+3) (ak _))).trans e⟩⟩
theorem BC.keep(h:BC a σ)(H:RK n σ S n' σ')(hn:a+4≤n):BC a σ':=
 have k:=λ{j} (hj:j<4)=>H.keep (a+j) (ae (aH hj a) hn)
 ⟨(k (j:=0) (by decide)).trans h.rows,(k (by decide)).trans h.zt,(k (by decide)).trans h.saved,h.k.elim λu e=>⟨u,(k (by decide)).trans e⟩⟩
theorem CK.up(h:CK a k σ){r:I}{o:Option O}(hr:∀m,m<a+4→I.gq m≠r):CK a k (Mine.up σ r o):=(gD _ _ (hr (a+3) (ak _))).trans h
theorem CK.keep(h:CK a k σ)(H:RK n σ S n' σ')(hn:a+4≤n):CK a k σ':=(H.keep (a+3) hn).trans h
theorem pO(hn:a+4≤n)(m:Nat)(h:m<a+4):I.gq m≠.gq n:=pI (av (ae h hn))
theorem PL(O:gT cx)(K:rG P)(H:RK n0 σ0 S n σ)(rw_:RW P S)(hsd:S.pp .gZ 0=some (.list (iV sv)))(vL:a+4≤n)(g1:γ .gi=some (.gq a))(g2:γ .gZ=some (.gq (a+2)))(g3:γ .lS=some (.gq (a+3)))(bc:BC a σ)(c3:CK a k σ)
  (hk:k<P.n)(hd:∀j∈P.iv k,j∈sv)(h:Q (.ref (.gq n)) (up σ (.gq n) (some (.list [])))):WE cx d QA γ ρ σ Q:=by
 have n6:=K.n6
 have rr:=(H.lz .gi 0).trans rw_.rows
 have H₁:=H.new (some (.list []))
 have bc₁:=bc.up (r:=.gq n) (o:=some (.list [])) (pO vL)
 refine xw O (N:=P.n) (z:=.gq n) (ab n6 (by decide)) (λi l σ'=>l=[]∧σ'=up σ (.gq n) (some (.list []))) (λx hx=>?_) (pR O (gH g1 bc.rows (.l _ _ rfl (.inl rr) ⟨by rw[ai,aD],H.no,rfl,rfl⟩))) (λi l σ' q=>by rw[q.1,q.2];exact⟨fW _ _ _,aw _⟩) (λi l σ' hi q ρ'=>?_) λl σ' q=>q.2▸h
 ·exact(List.mem_cons.mp (show x∈[Nm.gi,.lS,.gZ]from hx)).elim (λe=>⟨_,by rw[e];exact g1⟩) λm=>(List.mem_cons.mp m).elim (λe=>⟨_,by rw[e];exact g3⟩) λm=>⟨_,by rw[ag.mp m];exact g2⟩
 ·rw[q.1,q.2]
  have i6:i<6:=ae hi n6
  refine ju (gv (oz O i6 (by decide) (fV rfl ⟨rfl,jr (gH (r:=.gq a) g1 bc₁.rows (gH (r:=.gq (a+3)) g3 (c3.up (pO vL)) ⟨_,wQ ((H₁.lz .gi 0).trans rw_.rows) hk,decide (jh (true,i)∈(P.row k).map jh),Hy ((H₁.lz .mq k).trans (rw_.row k hk)),?_⟩))⟩)))
  rw[decide_eq_decide.mpr (IB (f:=(true,i)) (K.rl k hk) i6)]
  by_cases m:(true,i)∈P.row k
  ·rw[decide_eq_true m]
   exact ju (gv (fV rfl (gH (r:=.gq (a+2)) g2 bc₁.saved ⟨false,(Hc ((H₁.lz .gZ 0).trans hsd)).trans (by rw[decide_eq_true (hd i (lU.mpr m))];rfl),rfl,rfl⟩)))
  ·rw[decide_eq_false m]
   exact⟨rfl,rfl⟩
end
end
mutual
structure Bp where
 P:jP
 C:Nat→Prop
 ch:List Nat
 ts:Bool
 T:Nat→Str
 cnt:Nat→Nat
 tX:List Nat
 Jd:Nat
 Z2:Nm→Nat→Option O
 vv0:Nat→Nat→Bool
 b:Nat
 a:Nat
 place:Int
 cut:Int
 n0:Nat
 σ0:Hp
structure Bk(B:Bp)(S:St):Prop where
 b:S.b=B.b
 vv:S.vv=B.vv0
 po:∀x j,x≠.gF→x≠.oD→x≠.iO→x≠.gZ→x≠.jF→x≠.kb→S.pp x j=B.Z2 x j
inductive Ask(P:jP)(C:Nat→Prop)(ch:List Nat)(S:St)(seen:List Nat)(nv:V):Prop
 |first (D:DS):nv=.none→kB P C ch S D→D.cur=none→(∀j,j∈seen↔Dn S j)→Ask P C ch S seen nv
 |next (S0:St) (D:DS) (c:Nat) (N:ND) (s:V):Out P C ch S0 D c N→wJ s→i5 s (.str "run")=false→S.nd=up S0.nd c (some (stN s N))→S.D=some D→nv=.ref (gC S.b c)→(∀j,j∈seen↔Dn S0 j∨j=c)→Ask P C ch S seen nv
structure LR(B:Bp)(dn:Nat)(nv:V)(ρ:Loc):Prop where
 zk:ρ .jF=some (.ref v5)
 runs:ρ .kb=some (.ref yg)
 ub:ρ .hY=some (.ref (.u B.b .hY))
 lQ:ρ .qc=some (.ref (.q B.b .fU))
 node:ρ .gf=some nv
 seen:ρ .hJ=some (.ref (.u B.b .hJ))
 done:ρ .oA=some (.int (dn:Int))
 place:ρ .og=some (.int B.place)
 cut:ρ .wX=some (.int B.cut)
structure Tok(P:jP)(S:St)(seen:List Nat)(j:Nat)(T:TS):Prop where
 at_:S.tk j=some T
 row:T.row=P.row j
 td:T.td=P.iv j
 vals:j∉seen→T.vals=.ref (.vals S.b j)
structure Lc(B:Bp)(S:St)(w:Fs)(sv seen:List Nat)(cnt:Nat→Nat)(wl m:Nat):Prop where
 k:Bk B S
 li:LI B.P S B.ts B.T w sv cnt wl
 bb:BB S B.ts m
 bd:Bd B.P S
 tk:∀k,k<B.P.n→∃T,Tok B.P S seen k T
 vk:∀k,k<B.P.n→S.vv S.b k=true
 se:S.bb .hJ=some (.list (iV seen))
 sn:seen.Nodup
structure LS(B:Bp)(i:Nat)(S:St)(w:Fs)(sv seen:List Nat)(dn:Nat)(nv:V):Prop where
 c:Lc B S w sv seen B.cnt (B.Jd+i) (4*i)
 sl:seen.length=i
 sp:∀k∈seen,k<B.P.n∧k∈sv∧B.C k
 ext:∃l,sv=B.tX++l∧dn=l.length
 ask:Ask B.P B.C B.ch S seen nv
structure Vi(B:Bp)(n':Nat)(σ':Hp)(S':St)(w:Fs)(sv seen:List Nat):Prop where
 H:RK B.n0 B.σ0 S' n' σ'
 k:Bk B S'
 li:LI B.P S' B.ts B.T w sv B.cnt (B.Jd+7)
 ext:∃l,sv=B.tX++l
 se:S'.bb .hJ=some (.list (iV seen))
 sn:seen.Nodup
 ch:∀x∈B.ch,x∈seen
 cl:∀k∈seen,∀j∈B.P.iv k,j∈seen
 sp:∀k∈seen,B.C k∧k<B.P.n∧k∈sv
def Px(B:Bp)(Q:V→Hp→Prop):Prop:=∀n' σ' S' w sv seen,Vi B n' σ' S' w sv seen→Q (.tup [.str "whole",.ref (.u B.b .hJ),.int 0]) σ'
inductive W8(B:Bp)(pN:Nat→Nat)(ke:V):Prop
 |no:ke=.none→pN=B.cnt→W8 B pN ke
 |at_ (k:Nat):k<B.P.n→ke=.int (k:Int)→pN=rP B.cnt k→W8 B pN ke
structure S5(B:Bp)(n':Nat)(σ':Hp)(S':St)(w:Fs)(sv seen:List Nat)(pN:Nat→Nat)(ke:V):Prop where
 H:RK B.n0 B.σ0 S' n' σ'
 k:Bk B S'
 li:LI B.P S' B.ts B.T w sv pN (B.Jd+7)
 ext:∃l,sv=B.tX++l
 se:S'.bb .hJ=some (.list (iV seen))
 sn:seen.Nodup
 sp:∀k∈seen,B.C k∧k<B.P.n
 pl:B.place≤6
 cnt:W8 B pN ke
def Ga(B:Bp)(Q:V→Hp→Prop):Prop:=∀n' σ' S' w sv seen pN ke,S5 B n' σ' S' w sv seen pN ke→Q (.tup [.str "cut",.ref (.u B.b .hJ),ke]) σ'
def gb(a:Nat):Nm→Option I:=lk [(.gi,.gq a),(.gF,.gq (a+1)),(.gZ,.gq (a+2)),(.lS,.gq (a+3))]
structure XE(B:Bp)(i:Nat)(σ:Hp)(ρ:Loc)(n:Nat)(S:St)(w:Fs)(sv seen:List Nat)(dn:Nat)(nv:V):Prop where
 H:RK B.n0 B.σ0 S n σ
 an:B.a+4≤n
 bc:BC B.a σ
 L:LS B i S w sv seen dn nv
 r:LR B dn nv ρ
def N4(B:Bp)(i:Nat)(σ:Hp)(ρ:Loc):Prop:=∃n S w sv seen dn nv,XE B i σ ρ n S w sv seen dn nv
structure Bg(B:Bp):Prop where
 K:rG B.P
 T:UN B.P B.T
 C:∀k,B.C k→∀j∈B.P.iv k,B.C j
 na:B.n0≤B.a
 wl:B.Jd≤800
def F5(B:Bp)(i:Nat)(Q:V→Hp→Prop)(fl:Fl)(σ:Hp)(ρ:Loc):Prop:=fl.casesOn (N4 B (i+1) σ ρ) False (N4 B (i+1) σ ρ) λv=>Q v σ
structure qI(B:Bp)(cnt:Nat→Nat)(wl m i k:Nat)(S:St)(w:Fs)(sv seen:List Nat)(dn:Nat)(T:TS):Prop where
 c:Lc B S w sv seen cnt wl m
 tk:Tok B.P S [] k T
 sl:seen.length=i+1
 sp:∀j∈seen,j<B.P.n∧B.C j∧(j≠k→j∈sv)
 ks:k∈seen
 ext:∃l,sv=B.tX++l∧dn=l.length
 Xg:k∉sv
 QU:∀j∈B.P.iv k,j∈sv
 YH:∃S0 D N,Out B.P B.C B.ch S0 D k N∧S.nd=up S0.nd k (some (stN (.str "run") N))∧S.D=some D∧∀j,j∈seen↔Dn S0 j∨j=k
section
variable{cx:Cx}{d:Nat}{γ:Nm→Option I}{ρ:Loc}{σ:Hp}{n n' k i dn m m' wl Kh:Nat}{σ':Hp}
variable{B:Bp}{S S':St}{ts:Bool}{w w':Fs}{sv Fy seen:List Nat}{cnt pN:Nat→Nat}{nv:V}{T T':TS}{Q:V→Hp→Prop}{QQ:Fl→Hp→Loc→Prop}
theorem BB.more(h:BB S ts m)(hm:m≤m'):BB S ts m':=⟨h.ck,h.be,h.dm,h.rp,h.ro.elim λl e=>⟨l,e.1,ab e.2 hm⟩,h.ru⟩
structure SW(S S':St)(k:Nat):Prop where
 b:S'.b=S.b
 vv:S'.vv=S.vv
 po:∀x j,x≠.gF→x≠.oD→x≠.iO→x≠.gZ→x≠.jF→x≠.kb→S'.pp x j=S.pp x j
 bb:∀x,x≠.gi→S'.bb x=S.bb x
 tk:∀j,j≠k→S'.tk j=S.tk j
theorem Bk.step(h:Bk B S)(s:SW S S' k):Bk B S':=⟨s.b.trans h.b,s.vv.trans h.vv,λx j a b c d e f=>(s.po x j a b c d e f).trans (h.po x j a b c d e f)⟩
theorem Lc.step(c:Lc B S w sv seen cnt wl m)(s:SW S S' k)(ek:∃T,Tok B.P S' seen k T)(li:LI B.P S' B.ts B.T w' Fy pN Kh)(bb:BB S' B.ts m'):Lc B S' w' Fy seen pN Kh m':=
 have t:∀j,j<B.P.n→∃T,Tok B.P S' seen j T:=λj hj=>(aK (j=k)).elim (λe=>e▸ek) λe=>(c.tk j hj).elim λT t=>⟨T,(s.tk j e).trans t.at_,t.row,t.td,λq=>s.b▸t.vals q⟩
 ⟨c.k.step s,li,bb,⟨c.bd.n6,(s.bb _ (nf rfl)).trans (s.b.symm▸c.bd.tasks),λj hj=>(t j hj).elim λT t=>⟨T,t.at_,t.td,t.row⟩,c.bd.dl⟩,t,λj hj=>s.vv▸s.b▸c.vk j hj,(s.bb _ (nf rfl)).trans c.se,c.sn⟩
theorem Tok.more(t:Tok B.P S [] k T)(seen:List Nat):Tok B.P S seen k T:=⟨t.at_,t.row,t.td,λZ=>t.vals aj⟩
theorem qI.step(L:qI B cnt wl m i k S w sv seen dn T)(s:SW S S' k)(t:Tok B.P S' [] k T')(li:LI B.P S' B.ts B.T w' sv pN Kh)(bb:BB S' B.ts m')(G8:S'.nd=S.nd)(hD:S'.D=S.D):qI B pN Kh m' i k S' w' sv seen dn T':=
 ⟨L.c.step s ⟨T',t.more _⟩ li bb,t,L.sl,L.sp,L.ks,L.ext,L.Xg,L.QU,L.YH.elim λS0 q=>q.elim λD q=>q.elim λN q=>⟨S0,D,N,q.1,G8.trans q.2.1,hD.trans q.2.2.1,q.2.2.2⟩⟩
theorem zO{l:List Nat}{P:jP}(h6:P.n≤6)(hn:l.Nodup)(h:∀x∈l,x<P.n):l.length≤6:=ab (i4 hn h) h6
theorem LS.len(h:LS B i S w sv seen dn nv):i≤6:=h.sl▸zO h.c.bd.n6 h.c.sn λx hx=>(h.sp x hx).1
theorem VX(h6:B.P.n≤6)(pp:PP B.P S ts w sv)(ext:∃l,sv=B.tX++l∧dn=l.length):dn≤6:=ext.elim λl e=>ab (ab (ay e.2) (ab (fF _ _) (ay (ax.symm.trans (congrArg cg e.1.symm))))) (zO h6 pp.sn pp.sl)
theorem qI.i6(L:qI B cnt wl m i k S w sv seen dn T):i+1≤6:=L.sl▸zO L.c.bd.n6 L.c.sn λx hx=>(L.sp x hx).1
theorem K9(O:gT cx){c:Int}{Q:Bool→Hp→Prop}(lr:LR B dn nv ρ)(h1:B.place=dn→Q true σ)(h0:Q false σ):WT cx d (.and [(.cmp .Eq (.var .oA) (.var .og)),(.cmp .Eq (.var .wX) (.int c))]) γ ρ σ Q:=by
 refine ju (gv (fV lr.done (fV lr.place ⟨_,eq_int _ _,?_⟩)))
 cases e:(dn:Int)==B.place with
 |true=>
  refine ju (gv (fV lr.cut (gO O ⟨_,eq_int _ _,?_⟩)))
  cases B.cut==c with
  |true=>exact qL (h1 (beq_iff_eq.mp e).symm)
  |false=>exact h0
 |false=>exact h0
theorem qI.cut(L:qI B cnt wl m i k S w sv seen dn T)(H:RK B.n0 B.σ0 S n σ)(DD:wl≤B.Jd+7)(e:B.place=dn){ke:V}(hc:W8 B cnt ke):S5 B n σ S w sv seen cnt ke:=
 ⟨H,L.c.k,L.c.li.mono DD,L.ext.elim λl e=>⟨l,e.1⟩,L.c.se,L.c.sn,λj hj=>⟨(L.sp j hj).2.1,(L.sp j hj).1⟩,e▸Int.ofNat_le.mpr (VX L.c.bd.n6 L.c.li.pp L.ext),hc⟩
theorem GZ(O:gT cx){c:Int}{e:ME}{ke:V}(lr:LR B dn nv ρ)(hX:Ga B Q)(he:∀Q,Q ke σ→WE cx d e γ ρ σ Q)(hC:B.place=dn→∃n S w sv seen pN,S5 B n σ S w sv seen pN ke){QQ:Fl→Hp→Loc→Prop}(hr:∀v,Q v σ→QQ (.ret v) σ ρ)(h:QQ .next σ ρ):
  W1 cx d (.ite (.and [(.cmp .Eq (.var .oA) (.var .og)),(.cmp .Eq (.var .wX) (.int c))]) [.ret (some (.tup [(.str "cut"),(.var .hJ),e]))] []) γ ρ σ QQ:=
 gp (K9 O lr (λe1=>fT (iA (pX (fX (gY (fX (fV lr.seen (fX (he _ (fZ ⟨au rfl,hr _ ((hC e1).elim λn q=>q.elim λS q=>q.elim λw q=>q.elim λsv q=>q.elim λseen q=>q.elim λpN q=>hX _ _ _ _ _ _ _ _ q)⟩)))))))))) (fY h))
theorem PD(O:gT cx){P:jP}{σ0:Hp}{n0 a:Nat}{TT:Nat→Str}(K:rG P)(H:RK n0 σ0 S n σ)(li:LI P S ts TT w sv cnt wl)(vL:a+4≤n)(bc:BC a σ)(c3:CK a k σ)(hk:k<P.n)(hd:∀j∈P.iv k,j∈sv)
  (h:Q (.ref (.gq n)) (up σ (.gq n) (some (.list (sV ((P.row k).map (nB TT))))))):WE cx d (.comp (.idx (.idx (.iN .gF) (.var .pK)) (.int 2)) (.one (.var .pK)) (.idx (.iN .gi) (.iN .lS)) []) (gb a) ρ σ Q:=by
 have Ki:=K.Ki k hk
 have row:=(H.lz .mq k).trans (li.rw.row k hk)
 have tl:∀i,(sV (((P.row k).take i).map (nB TT))).length≤i:=λi=>ab (ay (m6 _ _)) (by rw[aO];exact bp _ _)
 refine(sP H li.pp).elim λW wd=>?_
 refine uW (src:=P.row k) (f:=λf=>.str (jh f)) (r:=mD k) (z:=.gq n) rfl (ab Ki (by decide)) (λi l σ'=>l=sV (((P.row k).take i).map (nB TT))∧σ'=up σ (.gq n) (some (.list l))) (λx hx=>⟨.gq (a+1),by rw[ag.mp (show x∈[Nm.gF]from hx)];rfl⟩)
  (jr (gH rfl bc.rows (gH (r:=.gq (a+3)) rfl c3 ⟨_,wQ ((H.lz .gi 0).trans li.rw.rows) hk,rfl,row.trans (congrArg (λl=>some (Mine.O.list l)) (qU _ _)),H.no,rfl,rfl⟩)))
  (λi l σ' q=>by rw[q.2,q.1];exact⟨fW _ _ _,tl i,(sk (nf rfl) row).trans (congrArg (λl=>some (Mine.O.list l)) (qU _ _))⟩) (λi f l σ' e q ρ'=>?_) λl σ' q=>by rw[q.2,q.1,aV];exact h
 have hf:=aE e
 rw[q.2]
 refine(li.file K hk hd f hf).elim λc hc=>jr (jr (gH (r:=.gq (a+1)) rfl (bc.up (pO vL)).zt (fV rfl ⟨kU (c,nB TT f),mI (sk (nf rfl) wd.1) ((wd.2 f (K.rl k hk f hf)).trans (by rw[hc];rfl)),gO O ⟨.str (nB TT f),xq (k:=2) rfl (au rfl),fW _ _ _,?_,?_⟩⟩)))
 ·rw[bg,e,q.1,bU,ar,sV,sV,ar];rfl
 ·rw[lD]
theorem LR.up3(h:LR B dn nv ρ)(u v:V):LR B dn nv (Mine.up (Mine.up ρ .uj (some u)) .rR (some v)):=⟨h.zk,h.runs,h.ub,h.lQ,h.node,h.seen,h.done,h.place,h.cut⟩
theorem R5(L:qI B cnt wl m i k S w sv seen dn T):∃N,S.nd k=some N∧∃S0 D N0,Out B.P B.C B.ch S0 D k N0∧N=stN (.str "run") N0:=L.YH.elim λS0 q=>q.elim λD q=>q.elim λN q=>⟨_,(congrFun q.2.1 k).trans (fW _ _ _),S0,D,N,q.1,rfl⟩
theorem Pz(O:gT cx)(F:gK cx)(g:Bg B)(hk:k<B.P.n)(H:RK B.n0 B.σ0 S n σ)(vL:B.a+4≤n)(bc:BC B.a σ)(c3:CK B.a k σ)(L:qI B cnt wl m i k S w sv seen dn T)(hm:m≤80000)(ho:T.opts=true)(lr:LR B dn (.ref (gC S.b k)) ρ){ms:List MS}
  (h:∀σ' S' T',RK B.n0 B.σ0 S' (n+1) σ'→BC B.a σ'→CK B.a k σ'→S'.b=S.b→T'.res=.str "done"→qI B cnt wl (m+1) i k S' w sv seen dn T'→LR B dn (.ref (gC S.b k)) (up (up ρ .uj (some .none)) .rR (some (.str (B.T k))))→WS cx (d+7) ms (gb B.a) (up (up ρ .uj (some .none)) .rR (some (.str (B.T k)))) σ' QQ):
  WS cx (d+7) (FQ ms) (gb B.a) ρ σ QQ:=by
 have k6:=L.c.bd.Ho hk
 have bS:(I.u S.b .hY)=.u B.b .hY:=by rw[L.c.k.b]
 refine(R5 L).elim λN hN=>?_
 refine fT (hU rfl (jH O F .oI lr.ub (bS▸(H.lh .hY).trans L.c.bb.ru) rfl rfl (fX (gw O lr.node ⟨_,_,H.node hN.1,rfl,rfl⟩ (fZ ⟨rfl,?_⟩)))))
 rw[←bS]
 refine FI (d:=d+4) O F H.base L.c.bb hm L.tk.at_ ho (L.tk.vals aj) (L.c.vk k hk) λσ₁ o H₁' bb₁=>?_
 have H₁:=H.trans H₁'
 have bc₁:=bc.keep H₁' vL
 have c3₁:=c3.keep H₁' vL
 have s:SW S ((S.jA .gi o).ib k (resT (.str "done") (A7 T))) k:=⟨rfl,rfl,λZ Z Z Z Z Z Z Z=>rfl,λx hx=>gD _ _ hx,λj hj=>gD _ _ hj⟩
 have L₁:qI B cnt wl (m+1) i k ((S.jA .gi o).ib k (resT (.str "done") (A7 T))) w sv seen dn (resT (.str "done") (A7 T)):=L.step s ⟨St.ip,L.tk.row,L.tk.td,L.tk.vals⟩ (L.c.li.of rfl rfl) (bb₁.of rfl rfl) rfl rfl
 refine fT (hU rfl (wk O (F _) (fX (gH (r:=.gq (B.a+3)) rfl c3₁ (fX (PD O g.K H₁ L₁.c.li vL bc₁ c3₁ hk L.QU (fZ (jE ⟨rfl,rfl,yn (d:=d+6) O k6 (fW _ _ _) (g.T.sm k hk) ?_⟩))))))))
 rw[←g.T.eq k hk]
 exact h _ _ _ (H₁.new _) (bc₁.up (pO vL)) (c3₁.up (pO vL)) rfl rfl L₁ (lr.up3 _ _)
theorem CT{a:Nat}{x:Nm}{j:Nat}(m:Nat)(_:m<a+4):I.gq m≠.p x j:=nf rfl
theorem Wv(g:Bg B)(hk:k<B.P.n)(k6:k<6):(B.T k).length≤100000:=by
 rw[g.T.eq k hk]
 exact ab (Hx k6 _) (ab (aX (g.T.sm k hk) 3) (by decide))
theorem Oh{P:jP}(h:σ yg=some (.list (tT P sv cnt)))(hk:k<P.n):wZ σ (.ref yg) (.int (k:Int))=some (.int (runN sv cnt k:Int)):=qV h (uf _ hk)
theorem Mb(O:gT cx)(g:Bg B)(hk:k<B.P.n)(H:RK B.n0 B.σ0 S n σ)(bc:BC B.a σ)(c3:CK B.a k σ)(L:qI B cnt wl m i k S w sv seen dn T)(DD:wl≤900)(lr:LR B dn nv ρ)(tx:ρ .rR=some (.str (B.T k))){ms:List MS}
  (h:∀σ' S' w',RK B.n0 B.σ0 S' n σ'→BC B.a σ'→CK B.a k σ'→S'.b=S.b→(∃c,w' (true,k)=some (c,B.T k))→qI B (rP cnt k) (wl+1) m i k S' w' sv seen dn T→WS cx (d+7) ms (gb B.a) ρ σ' QQ):WS cx (d+7) (Dh ms) (gb B.a) ρ σ QQ:=by
 have k6:=L.c.bd.Ho hk
 refine L.c.li.ck.elim λc ec=>L.c.li.wl.elim λW eW=>?_
 have hck:=(H.lz .jF 0).trans ec
 refine fT (lL (kW (jr (fV lr.zk (gO O ⟨.int c,qV (k:=0) hck rfl,gO O ⟨.int (c+1),rfl,fV lr.zk (gO O ⟨_,hck,Int.le_refl _,(Int.ofNat_lt.mpr Nat.one_pos:((0:Nat):Int)<((1:Nat):Int)),?_⟩)⟩⟩)))))
 have H₃:=H.iP .jF 0 (some (.list [.int (c+1)]))
 have hck₃:=(H₃.lz .jF 0).trans i9
 have hw₃:up σ v5 (some (.list [.int (c+1)])) kz=some (.dict W):=sk (nf rfl) ((H.lz .gF 0).trans eW.1)
 refine fT (lL (pX (fX (jr (fV lr.zk (gO O ⟨.int (c+1),qV (k:=0) hck₃ rfl,fX (pR O (fV tx (.s _ rfl (Wv g hk k6) (fX (fV tx (fZ ⟨au rfl,gH (r:=.gq (B.a+1)) rfl (bc.up CT).zt (oz O k6 (by decide) (gH (r:=.gq (B.a+3)) rfl (c3.up CT) ⟨rfl,_,hw₃,ao (ab eW.2 DD) (by decide),?_⟩))⟩))))))⟩))))))
 have rv:=(H.lz .kb 0).trans L.c.li.rn
 have bc₄:=(bc.up (r:=v5) (o:=some (.list [.int (c+1)])) CT).up (r:=kz) (o:=some (.dict (putD W (jh (true,k)) (kU (c+1,B.T k))))) CT
 have c₄:CK B.a k (up (up σ v5 (some (.list [.int (c+1)]))) kz (some (.dict (putD W (jh (true,k)) (kU (c+1,B.T k)))))):=(c3.up CT).up CT
 have rl:(k:Int)<((tT B.P sv cnt).length:Int):=Int.ofNat_lt.mpr (Eh.symm▸hk)
 refine fT (lL (kW (jr (fV lr.runs (gH (r:=.gq (B.a+3)) rfl c₄ ⟨_,Oh (sk (nf rfl) (sk (nf rfl) rv)) hk,gO O ⟨.int ((runN sv cnt k:Int)+1),rfl,fV lr.runs (gH (r:=.gq (B.a+3)) rfl c₄ ⟨_,sk (nf rfl) (sk (nf rfl) rv),bj k,rl,?_⟩)⟩⟩)))))
 have H₅:=(H₃.iP .gF 0 (some (.dict (putD W (jh (true,k)) (kU (c+1,B.T k)))))).iP .kb 0 (some (.list (tT B.P sv (rP cnt k))))
 rw[show(tT B.P sv cnt).set (k:Int).toNat (.int ((runN sv cnt k:Int)+1))=tT B.P sv (rP cnt k)from MG hk]
 have li:=L.c.li.write g.K hk L.Xg eW.1 DD (c:=c+1) (t:=B.T k)
 exact h _ (W9 S W k (c+1) (B.T k) (tT B.P sv (rP cnt k))) _ H₅ (bc₄.up CT) (c₄.up CT) rfl ⟨c+1,if_pos rfl⟩ (L.step ⟨rfl,rfl,λx j a b c d e f=>Ad e a f,λZ Z=>rfl,λZ Z=>rfl⟩ ⟨L.tk.at_,L.tk.row,L.tk.td,L.tk.vals⟩ li (L.c.bb.of rfl rfl) rfl rfl)
end
end
mutual
section
variable{cx:Cx}{d:Nat}{ρ:Loc}{σ:Hp}{n n' k i dn m m' wl Kh:Nat}{σ':Hp}
variable{B:Bp}{S S':St}{w:Fs}{sv seen:List Nat}{cnt:Nat→Nat}{nv:V}{T:TS}{Q:V→Hp→Prop}
theorem Ll:wJ (.str "successful"):=⟨⟨rfl,by decide,by decide⟩,by decide⟩
theorem PM:wJ (.str "up-to-date"):=⟨⟨rfl,by decide,by decide⟩,by decide⟩
theorem Lw:i5 (.str "successful") (.str "run")=false:=by decide
theorem O5:i5 (.str "up-to-date") (.str "run")=false:=by decide
theorem LR.Ud(h:LR B dn nv ρ)(m:Nat):LR B m nv (Mine.up ρ .oA (some (.int (m:Int)))):=⟨h.zk,h.runs,h.ub,h.lQ,h.node,h.seen,rfl,h.place,h.cut⟩
theorem EJ{tX:List Nat}(h:∃l,sv=tX++l∧dn=l.length):∃l,sv++[k]=tX++l∧dn+1=l.length:=h.elim λl e=>⟨l++[k],by rw[e.1,bD],by rw[e.2,ax];rfl⟩
theorem Le{P:jP}{ts:Bool}{N:ND}{o:Option O}{x:Nm}{j:Nat}(h1:x≠.oD)(h2:x≠.iO):(Vr P ts w sv k N S o).pp x j=S.pp x j:=(K0 h1 h2:(CL S (sv++[k]) k (J0 P ts w S.b k)).pp x j=_)
theorem OM(O:gT cx)(F:gK cx)(g:Bg B)(hk:k<B.P.n)(H:RK B.n0 B.σ0 S n σ)(vL:B.a+4≤n)(bc:BC B.a σ)(c3:CK B.a k σ)(L:qI B (rP B.cnt k) wl m i k S w sv seen dn T)(hm:m≤80000)(DD:wl≤B.Jd+(i+1))(QI:m+1≤4*(i+1))(CD:T.res=.str "done")(out:∃c,w (true,k)=some (c,B.T k))(lr:LR B dn (.ref (gC S.b k)) ρ)(fl:ρ .uj=some .none)
  (hX:Ga B Q):WS cx (d+7) F9 (gb B.a) ρ σ (F5 B i Q):=by
 have bS:(I.u S.b .hY)=.u B.b .hY:=by rw[L.c.k.b]
 refine L.YH.elim λS0 q=>q.elim λD q=>q.elim λN q=>?_
 have eN:S.nd k=some (stN (.str "run") N):=(congrFun q.2.1 k).trans (fW _ _ _)
 refine fT (hZ (jH O F .lT lr.ub (bS▸(H.lh .hY).trans L.c.bb.ru) rfl rfl (fX (fV lr.node (fX (fV fl (fZ ⟨rfl,?_⟩)))))))
 rw[←bS]
 refine F4 (d:=d+2) O F g.K H.base L.c.bb hm L.c.li.pp hk L.Xg L.tk.at_ L.tk.row eN (λf hf=>(L.c.li.file g.K hk L.QU f hf).elim λc e=>⟨_,e⟩) (L.c.vk k hk) (L.tk.vals aj) CD λσ₆ o H₆' pp₆ bb₆=>⟨rfl,?_⟩
 have H₆:=H.trans H₆'
 have bc₆:=bc.keep H₆' vL
 have c3₆:=c3.keep H₆' vL
 have li₇:=L.c.li.save hk L.Xg L.QU out pp₆ λx j h1 h2=>Le h1 h2
 have sd₆:σ₆ qT=some (.list (iV sv)):=(H₆.lz .gZ 0).trans ((Le (nf rfl) (nf rfl)).trans L.c.li.sd)
 have svl:(iV sv).length≤6:=ab (ay (ai ..)) (zO L.c.bd.n6 L.c.li.pp.sn L.c.li.pp.sl)
 refine fT (hZ (jM O (gH (r:=.gq (B.a+2)) rfl bc₆.saved ⟨⟨_,sd₆⟩,gH (r:=.gq (B.a+3)) rfl c3₆ ⟨_,_,rfl,sd₆,ao svl (by decide),rfl,?_⟩⟩)))
 have H₇:=H₆.iP .gZ 0 (some (.list (iV sv++[.int (k:Int)])))
 have s:SW S ((Vr B.P B.ts w sv k (stN (.str "run") N) S o).iP .gZ 0 (some (.list (iV sv++[.int (k:Int)])))) k:=⟨rfl,rfl,λx j a b c e Z Z=>(iC e).trans (Le b c),λx hx=>gD _ _ hx,λZ Z=>rfl⟩
 have bc₇:=bc₆.up (r:=qT) (o:=some (.list (iV sv++[.int (k:Int)]))) CT
 have c₇:=L.c.step s ⟨T,L.tk.at_,L.tk.row,L.tk.td,λZ=>L.tk.vals aj⟩ li₇ (bb₆.of rfl rfl)
 refine fT (GZ O lr hX (ke:=.none) (λZ q=>iu q) (λe=>⟨_,_,_,_,_,_,H₇,c₇.k,li₇.mono (ab DD (aW (ab L.i6 (by decide)) _)),(EJ L.ext).elim λl e=>⟨l,e.1⟩,c₇.se,c₇.sn,λj hj=>⟨(L.sp j hj).2.1,(L.sp j hj).1⟩,e▸Int.ofNat_le.mpr (VX L.c.bd.n6 L.c.li.pp L.ext),.no rfl rfl⟩) (λZ q=>q) ?_)
 refine fT (hU rfl (kW (fV lr.done (gO O ⟨.int ((dn+1:Nat):Int),rfl,fY ⟨n,_,w,sv++[k],seen,dn+1,.ref (gC S.b k),H₇,vL,bc₇,⟨⟨c₇.k,li₇.mono DD,c₇.bb.more QI,c₇.bd,c₇.tk,c₇.vk,c₇.se,c₇.sn⟩,L.sl,λj hj=>⟨(L.sp j hj).1,?_,(L.sp j hj).2.1⟩,EJ L.ext,.next S0 D k N (.str "successful") q.1 Ll Lw ?_ q.2.2.1 rfl q.2.2.2⟩,lr.Ud (dn+1)⟩⟩))))
 ·by_cases e:j=k
  ·exact List.mem_append.mpr (.inr (ag.mpr e))
  ·exact List.mem_append.mpr (.inl ((L.sp j hj).2.2 e))
 ·exact(congrArg (λf=>up f k _) q.2.1).trans (lD _ _ _ _)
theorem Sq(O:gT cx)(F:gK cx)(g:Bg B)(hk:k<B.P.n)(H:RK B.n0 B.σ0 S n σ)(vL:B.a+4≤n)(bc:BC B.a σ)(c3:CK B.a k σ)(L:qI B B.cnt (B.Jd+i) (4*i+1) i k S w sv seen dn T)(ho:T.opts=true)(lr:LR B dn (.ref (gC S.b k)) ρ)
  (hX:Ga B Q):WS cx (d+7) (Ir 0 .n5::FQ (Dh (Ir 1 (.iN .lS)::F9))) (gb B.a) ρ σ (F5 B i Q):=by
 have i6:=L.i6
 have Zv:4*i+2≤80000:=ab (aX (bo 4 (bP i6)) 2) (by decide)
 have w7:B.Jd+i≤B.Jd+7:=aW (ab (bP i6) (by decide)) _
 have w8:B.Jd+i+1≤B.Jd+7:=aW (ab i6 (by decide)) _
 refine fT (GZ O lr hX (ke:=.none) (λZ q=>iu q) (λe=>⟨_,_,_,_,_,_,L.cut H w7 e (.no rfl rfl)⟩) (λZ q=>q) ?_)
 refine Pz O F g hk H vL bc c3 L (bP Zv) ho lr λσ₁ S₁ T₁ H₁ bc₁ c₁ b₁ CD L₁ lr₁=>?_
 refine Mb O g hk H₁ bc₁ c₁ L₁ (ab (bz g.wl (bP i6)) (by decide)) lr₁ rfl λσ₂ S₂ w₂ H₂ bc₂ c₂ b₂ out L₂=>?_
 refine fT (GZ O lr₁ hX (λZ q=>gH (r:=.gq (B.a+3)) rfl c₂ q) (λe=>⟨_,_,_,_,_,_,L₂.cut H₂ w8 e (.at_ k hk rfl rfl)⟩) (λZ q=>q) ?_)
 exact OM O F g hk H₂ (c6 vL) bc₂ c₂ L₂ Zv (aL _) (aT _) CD out (by rw[b₂,b₁];exact lr₁) rfl hX
end
end
mutual
section
variable{cx:Cx}{d:Nat}{ρ:Loc}{σ σ₁:Hp}{n n' k i dn m m' wl Kh:Nat}{σ':Hp}
variable{B:Bp}{S S₁:St}{D:DS}{w:Fs}{sv seen:List Nat}{cnt:Nat→Nat}{nv:V}{T:TS}{N:ND}{Q:V→Hp→Prop}{QQ:Fl→Hp→Loc→Prop}{ts:Bool}
theorem BB.Pw{o:Option O}(h:BB S ts m):BB (S.jA .hJ o) ts m:=
 ⟨(qt (nf rfl)).trans h.ck,(qt (nf rfl)).trans h.be,(qt (nf rfl)).trans h.dm,(qt (nf rfl)).trans h.rp,h.ro.elim λl e=>⟨l,(qt (nf rfl)).trans e.1,e.2⟩,(qt (nf rfl)).trans h.ru⟩
theorem Lc.same(c:Lc B S w sv seen cnt wl m)(s:pA S S₁):Lc B S₁ w sv seen cnt wl m:=
 ⟨⟨s.b.trans c.k.b,s.vv.trans c.k.vv,s.pp.symm▸c.k.po⟩,c.li.of s.pp s.vv,c.bb.of s.bb s.b,c.bd.same s,λk hk=>(c.tk k hk).elim λT t=>⟨T,s.tk.symm▸t.at_,t.row,t.td,s.b.symm▸t.vals⟩,s.vv.symm▸s.b.symm▸c.vk,s.bb.symm▸c.se,c.sn⟩
def sD(S:St)(l:List Nat):St:=S.jA .hJ (some (.list (iV l)))
theorem Lc.more(c:Lc B S w sv seen cnt wl m)(h:k∉seen):Lc B (sD S (seen++[k])) w sv (seen++[k]) cnt wl m:=
 ⟨⟨c.k.b,c.k.vv,c.k.po⟩,c.li.of rfl rfl,c.bb.Pw,⟨c.bd.n6,(qt (nf rfl)).trans c.bd.tasks,c.bd.tk,c.bd.dl⟩,λj hj=>(c.tk j hj).elim λT t=>⟨T,t.at_,t.row,t.td,λq=>t.vals λz=>q (List.mem_append.mpr (.inl z))⟩,c.vk,BO,oN c.sn h⟩
theorem LR.Ha(h:LR B dn nv ρ)(v:V):LR B dn v (Mine.up ρ .gf (some v)):=⟨h.zk,h.runs,h.ub,h.lQ,rfl,h.seen,h.done,h.place,h.cut⟩
theorem Pm(O:gT cx)(F:gK cx){ms:List MS}(H:RK B.n0 B.σ0 S n σ)(c:Lc B S w sv seen B.cnt (B.Jd+i) (4*i))(i6:i≤6)(sp:∀k∈seen,k<B.P.n∧k∈sv∧B.C k)(ext:∃l,sv=B.tX++l∧dn=l.length)(X:End B.P B.C B.ch S D)(hs:∀j,j∈seen↔Dn S j)(lr:LR B dn .none ρ)(hW:Px B Q):
  WS cx (d+7) (zV::ms) (gb B.a) ρ σ (F5 B i Q):=by
 have XG:∀j,j∈D.nodes↔j∈seen:=λj=>⟨λq=>(hs j).mpr (X.dn j q),λq=>((hs j).mp q).elim λM e=>(X.I.W.nd j).mpr ⟨M,e.1⟩⟩
 refine fT (gp (gv (fV lr.node (iu ⟨true,rfl,fT (iA (pX (fX (gY (fX (fV lr.seen (fX (jH O F .tK lr.ub (c.k.b▸(H.lh .hY).trans c.bb.ru) rfl rfl (fZ ⟨rfl,?_⟩)))))))))⟩))))
 rw[←c.k.b]
 exact Jz (d:=d+4) O F H c.bb (ab (bo 4 i6) (by decide)) λσ₂ o o' H₂=>fZ ⟨au rfl,c.k.b▸hW n σ₂ (Xz S o o') w sv seen ⟨H₂,⟨c.k.b,c.k.vv,c.k.po⟩,(LI.of (S':=Xz S o o') c.li rfl rfl).mono (aW (c6 i6) _),ext.elim λl e=>⟨l,e.1⟩,(qt (nf rfl)).trans ((qt (nf rfl)).trans c.se),c.sn,λx hx=>(XG x).mp (X.cn x hx),
  λk hk j hj=>(X.dn k ((XG k).mpr hk)).elim λM w=>(X.I.ni k M w.1).ph.elim (λq=>absurd q.2 w.2) λq=>((X.I.ni k M w.1).ex q.2.1 j hj).elim λM' e=>(XG j).mp ((X.I.W.nd j).mpr ⟨M',e.1⟩),λk hk=>⟨(sp k hk).2.2,(sp k hk).1,(sp k hk).2.1⟩⟩⟩
structure One(B:Bp)(S:St)(sv seen:List Nat)(k:Nat):Prop where
 kn:k<B.P.n
 ks:k∉seen
 kC:B.C k
 QU:∀j∈B.P.iv k,j∈sv
theorem Ox(sp:∀k∈seen,k<B.P.n∧k∈sv∧B.C k)(X:Out B.P B.C B.ch S D k N)(hs:∀j,j∈seen↔Dn S j):One B S sv seen k:=
 have J:=X.I.ni k N X.at_
 have q:=TF J.ph X.ph
 ⟨J.kn,λm=>((hs k).mp m).elim λM e=>e.2 (by rw[Option.some.inj (e.1.symm.trans X.at_)];exact X.st),X.I.cn k ((X.I.W.nd k).mpr ⟨N,X.at_⟩),λj hj=>(J.ex q.1 j hj).elim λM e=>(sp j ((hs j).mpr ⟨M,e.1,λz=>absurd (q.2▸e.2.1.mpr z:j∈[]) aj⟩)).2.1⟩
theorem eq_nil{p q:I}(h1:σ p=some (.list []))(h2:σ q=some (.list [])):rZ σ .NotEq (.ref p) (.ref q)=some false:=by
 show(WV (σ p) (σ q)).map (!·)=_
 rw[h1,h2]
 rfl
theorem SM(O:gT cx)(g:Bg B){ms:List MS}(H:RK B.n0 B.σ0 S n σ)(vL:B.a+4≤n)(bc:BC B.a σ)(c:Lc B S w sv seen cnt wl m)(sl:seen.length≤100)(o:One B S sv seen k)(hN:S.nd k=some N)(lr:LR B dn (.ref (gC B.b k)) ρ)
  (h:∀σ',RK B.n0 B.σ0 (sD S (seen++[k])) (n+2) σ'→BC B.a σ'→CK B.a k σ'→WS cx (d+7) ms (gb B.a) ρ σ' QQ):WS cx (d+7) (g_num ms) (gb B.a) ρ σ QQ:=by
 have k6:=c.bd.Ho o.kn
 refine(c.tk k o.kn).elim λT t=>bc.k.elim λu hu=>?_
 have hn:=c.k.b▸H.node hN
 have ht:=c.k.b▸H.task t.at_
 refine fT (lN rfl (G3 O (Pg (zl O lr.node ⟨_,_,hn,rfl,rfl⟩ ⟨_,_,ht,rfl,rfl⟩ ⟨tn k,rfl,(I6 k k6).2,(k:Int),congrArg V.str (I6 k k6).1,bj k,Int.ofNat_le.mpr (ab (aY k6) (by decide)),.gq (B.a+3),u,rfl,hu,?_⟩) O)))
 have H₂:=H.old (m:=B.a+3) (ab g.na (aA _ _)) vL (some (.cell (some (.int (k:Int)))))
 have bc₂:BC B.a (up σ (.gq (B.a+3)) (some (.cell (some (.int (k:Int)))))):=⟨j0 (p7 (j:=0) (by decide)) bc.rows,j0 (p7 (by decide)) bc.zt,j0 (p7 (by decide)) bc.saved,_,fW _ _ _⟩
 have c3₂:CK B.a k (up σ (.gq (B.a+3)) (some (.cell (some (.int (k:Int)))))):=fW _ _ _
 have se₂:=(H₂.lh .hJ).trans c.se
 have H₃:=(H₂.new (some (.list []))).new (some (.list []))
 have YI:B.a+4≤n+1:=c6 vL
 refine fT (gp (mG (gv (gH (r:=.gq (B.a+3)) rfl c3₂ (fV lr.seen ⟨_,EC (c.k.b▸se₂),?_⟩)))))
 rw[decide_eq_false o.ks]
 refine mG (gv (PL O g.K H₂ c.li.rw c.li.sd vL rfl rfl rfl bc₂ c3₂ o.kn o.QU (iQ (fZ ⟨aw _,.gq (n+1),(H₂.new _).no,false,eq_nil (j0 (av (ak _)) (fW _ _ _)) (fW _ _ _),mS (fY ?_)⟩))))
 have se₃:up (up (up σ (.gq (B.a+3)) (some (.cell (some (.int (k:Int)))))) (.gq n) (some (.list []))) (.gq (n+1)) (some (.list [])) (.u B.b .hJ)=some (.list (iV seen)):=p4 rfl (c.k.b▸se₂)
 refine fT (hZ (jM O (fV lr.seen ⟨⟨_,se₃⟩,gH (r:=.gq (B.a+3)) rfl ((c3₂.up (pO vL)).up (pO YI)) ⟨_,_,rfl,se₃,ao (ab (ay (ai ..)) sl) (by decide),rfl,?_⟩⟩)))
 have H₄:=H₃.jA .hJ (some (.list (iV (seen++[k]))))
 rw[Dv]
 exact h _ (c.k.b▸H₄) (((bc₂.up (pO vL)).up (pO YI)).up λm Z=>nf rfl) (((c3₂.up (pO vL)).up (pO YI)).up λm Z=>nf rfl)
theorem So(b:Bool):rZ σ .NotEq (.bool b) (.bool b)=some false:=by cases b<;>rfl
theorem NK(O:gT cx){ms:List MS}{b:Bool}(hb:b=decide (k∈sv))(c3:CK B.a k σ)(bc:BC B.a σ)(sd:σ qT=some (.list (iV sv))){o:List MS}(h:WS cx (d+7) (vK::ms) (gb B.a) ρ σ QQ):
  WE cx (d+7) (.cmp .NotIn (.iN .lS) (.iN .gZ)) (gb B.a) ρ σ (Mk .NotEq (YZ cx (d+7) (gb B.a) ρ o [] (DG cx (d+7) (gb B.a) (vK::ms) QQ)) (.bool (!b))):=
 CC (gH (r:=.gq (B.a+3)) rfl c3 (gH (r:=.gq (B.a+2)) rfl bc.saved ⟨_,Hc sd,false,hb▸So _,fY h⟩))
theorem BP(hs:∀j,j∈seen↔Dn S j):∀j,j∈seen++[k]↔Dn S j∨j=k:=λj=>List.mem_append.trans (or_congr (hs j) ag)
theorem Te(O:gT cx)(F:gK cx)(NS:o9 cx)(g:Bg B)(H:RK B.n0 B.σ0 (sD S (seen++[k])) n σ)(vL:B.a+4≤n)(bc:BC B.a σ)(c3:CK B.a k σ)(c:Lc B S w sv seen B.cnt (B.Jd+i) (4*i))(i6:i≤6)(sl:seen.length=i)(sp:∀k∈seen,k<B.P.n∧k∈sv∧B.C k)(ext:∃l,sv=B.tX++l∧dn=l.length)(o:One B S sv seen k)(X:Out B.P B.C B.ch S D k N)(hs:∀j,j∈seen↔Dn S j)(lr:LR B dn (.ref (gC B.b k)) ρ)(hX:Ga B Q):
  WS cx (d+7) (zS::vK::IQ) (gb B.a) ρ σ (F5 B i Q):=by
 have c₄:=c.more o.ks
 have ZV:(seen++[k]).length=i+1:=ax.trans (congrArg (· +1) sl)
 refine(c.tk k o.kn).elim λT t=>?_
 have fls:∀f∈B.P.row k,∃p,w f=some p:=λf hf=>(c.li.file g.K o.kn o.QU f hf).elim λc e=>⟨_,e⟩
 have Sg:k∈sv→w (true,k)≠none:=λq=>(c.li.out k q).elim λc' e z=>nn (z.symm.trans e)
 have hD:(sD S (seen++[k])).D=some D:=X.I.W.at_
 have m4:4*i≤80000:=ab (bo 4 i6) (by decide)
 refine fT (gp (gv (jH O F .pH lr.ub (c.k.b▸(H.lh .hY).trans c₄.bb.ru) rfl rfl (fX (fV lr.node (fX (gw O lr.lQ ⟨_,_,(show S.b=B.b from c.k.b)▸H.lQ hD,rfl,rfl⟩ (fZ ⟨rfl,?_⟩))))))))
 rw[←c.k.b]
 refine Jy (d:=d+1) (S:=sD S (seen++[k])) O F NS g.K H.base c₄.bb c₄.li.pp m4 o.kn t.at_ t.row X.at_ X.st fls Sg (λks n₅ σ₅ o₅ v H₅' bb₅=>?_) (λks n₅ σ₅ o₅ v v' H₅' bb₅=>?_)
 ·have s:SW (sD S (seen++[k])) ((((sD S (seen++[k])).jA .gi o₅).ib k (tQ (lM v T))).ia k (stN (.str "run") N)) k:=⟨rfl,rfl,λZ Z Z Z Z Z Z Z=>rfl,λx hx=>gD _ _ hx,λj hj=>gD _ _ hj⟩
  have bc₅:=bc.keep H₅' vL
  have c3₅:=c3.keep H₅' vL
  have sd₅:=(H₅'.lz .gZ 0).trans c.li.sd
  have tk₅:Tok B.P ((((sD S (seen++[k])).jA .gi o₅).ib k (tQ (lM v T))).ia k (stN (.str "run") N)) [] k (tQ (lM v T)):=⟨St.ip,t.row,t.td,λZ=>t.vals o.ks⟩
  refine NK O (b:=false) (decide_eq_false ks).symm c3₅ bc₅ sd₅ (fT (gp (gv (gH (r:=.gq (B.a+3)) rfl c3₅ (gH (r:=.gq (B.a+2)) rfl bc₅.saved ⟨_,EC sd₅,?_⟩)))))
  rw[decide_eq_false ks]
  refine fY (Sq O F g o.kn (H.trans H₅') (ab vL H₅'.le) bc₅ c3₅ (S:=(((sD S (seen++[k])).jA .gi o₅).ib k (tQ (lM v T))).ia k (stN (.str "run") N)) (w:=w) (sv:=sv) (seen:=seen++[k]) (dn:=dn) (T:=tQ (lM v T)) ?_ rfl (show LR B dn (.ref (gC S.b k)) ρ by rw[c.k.b];exact lr) hX)
  exact⟨c₄.step s ⟨_,tk₅.more _⟩ (c₄.li.of rfl rfl) (bb₅.of rfl rfl),tk₅,ZV,k9 (λj q=>⟨(sp j q).1,(sp j q).2.2,λZ=>(sp j q).2.1⟩) (oi ⟨o.kn,o.kC,λe=>absurd rfl e⟩),List.mem_append.mpr (.inr (.head _)),ext,ks,o.QU,S,D,N,X,rfl,hD,BP hs⟩
 ·have s:SW (sD S (seen++[k])) ((((sD S (seen++[k])).jA .gi o₅).ib k (ze v' (lM v T))).ia k (stN (.str "up-to-date") N)) k:=⟨rfl,rfl,λZ Z Z Z Z Z Z Z=>rfl,λx hx=>gD _ _ hx,λj hj=>gD _ _ hj⟩
  have bc₅:=bc.keep H₅' vL
  have c3₅:=c3.keep H₅' vL
  have sd₅:=(H₅'.lz .gZ 0).trans c.li.sd
  refine NK O (b:=true) (decide_eq_true ks).symm c3₅ bc₅ sd₅ (fT (gp (gv (gH (r:=.gq (B.a+3)) rfl c3₅ (gH (r:=.gq (B.a+2)) rfl bc₅.saved ⟨_,EC sd₅,?_⟩)))))
  rw[decide_eq_true ks]
  have c₅:=c₄.step s ⟨_,St.ip,t.row,t.td,λq=>absurd (List.mem_append.mpr (.inr (.head _))) q⟩ (c₄.li.of (S':=(((sD S (seen++[k])).jA .gi o₅).ib k (ze v' (lM v T))).ia k (stN (.str "up-to-date") N)) rfl rfl) (bb₅.of rfl rfl)
  exact fT (C3 ⟨n₅,_,w,sv,seen++[k],dn,.ref (gC B.b k),H.trans H₅',ab vL H₅'.le,bc₅,⟨⟨c₅.k,c₅.li.mono (aT _),c₅.bb.more (ab (aT _) (aT _)),c₅.bd,c₅.tk,c₅.vk,c₅.se,c₅.sn⟩,ZV,k9 (λj q=>sp j q) (oi ⟨o.kn,ks,o.kC⟩),ext,.next S D k N (.str "up-to-date") X PM O5 rfl hD (congrArg (λb=>V.ref (gC b k)) c.k.b.symm) (BP hs)⟩,lr⟩)
theorem AY(O:gT cx)(F:gK cx)(NS:o9 cx)(g:Bg B)(Iv:N4 B i σ ρ)(hW:Px B Q)(hX:Ga B Q):WS cx (d+7) QJ (gb B.a) ρ σ (F5 B i Q):=Iv.elim λn q=>q.elim λS q=>q.elim λw q=>q.elim λsv q=>q.elim λseen q=>q.elim λdn q=>q.elim λnv q=>by
 have i6:=q.L.len
 have go2:∀n₁ σ₁ S₁ D₁,RK n σ S₁ n₁ σ₁→pA S S₁→End B.P B.C B.ch S₁ D₁→(∀j,j∈seen↔Dn S₁ j)→WS cx (d+7) (zV::g_num (zS::vK::IQ)) (gb B.a) (up ρ .gf (some .none)) σ₁ (F5 B i Q):=λn₁ σ₁ S₁ D₁ H₁ sm X hs=>Pm O F (q.H.trans H₁) (q.L.c.same sm) i6 q.L.sp q.L.ext X hs (q.r.Ha _) hW
 have go1:∀n₁ σ₁ S₁ D₁ k N,RK n σ S₁ n₁ σ₁→pA S S₁→Out B.P B.C B.ch S₁ D₁ k N→(∀j,j∈seen↔Dn S₁ j)→WS cx (d+7) (zV::g_num (zS::vK::IQ)) (gb B.a) (up ρ .gf (some (.ref (gC S.b k)))) σ₁ (F5 B i Q):=λn₁ σ₁ S₁ D₁ k N H₁ sm X hs=>by
  have c₁:=q.L.c.same sm
  have o:=Ox q.L.sp X hs
  have an:B.a+4≤n₁:=ab q.an H₁.le
  rw[q.L.c.k.b]
  exact fT (gp (gv (fV rfl (iu ⟨false,rfl,fY (SM O g (q.H.trans H₁) an (q.bc.keep H₁ q.an) c₁ (q.L.sl▸ab i6 (by decide)) o X.at_ (q.r.Ha _) λσ₂ H₂ bc₂ c3₂=>
   Te O F NS g H₂ (ab an (aA _ _)) bc₂ c3₂ c₁ i6 q.L.sl q.L.sp q.L.ext o X hs (q.r.Ha _) hX)⟩))))
 have bS:=q.L.c.k.b
 refine q.L.ask.casesOn (λD e I hc hs=>?_) λS0 D c N s X hf hr G8 hD e hs=>?_
 ·refine fT (hU rfl (jH O F .kR q.r.lQ (bS▸q.H.lQ I.W.at_) rfl rfl (fX (fV (e▸q.r.node) (fZ ⟨rfl,?_⟩)))))
  rw[←bS]
  exact NP (d:=d+1) O F g.K.toPOk g.C q.H.base q.L.c.bd I hc (λn₁ σ₁ S₁ D₁ k N a b x h=>go1 n₁ σ₁ S₁ D₁ k N a b x λj=>(hs j).trans (h j).symm) λn₁ σ₁ S₁ D₁ a b x h=>go2 n₁ σ₁ S₁ D₁ a b x λj=>(hs j).trans (h j).symm
 ·refine fT (hU rfl (jH O F .kR q.r.lQ (bS▸q.H.lQ hD) rfl rfl (fX (fV (e▸q.r.node) (fZ ⟨rfl,?_⟩)))))
  rw[←bS]
  exact KN (d:=d+1) O F g.K.toPOk g.C q.H.base q.L.c.bd X hf hr G8 hD (λn₁ σ₁ S₁ D₁ k N a b x h=>go1 n₁ σ₁ S₁ D₁ k N a b x λj=>(hs j).trans (h j).symm) λn₁ σ₁ S₁ D₁ a b x h=>go2 n₁ σ₁ S₁ D₁ a b x λj=>(hs j).trans (h j).symm
end
end
mutual
def Us(ts:Bool):Int:=ts.casesOn 0 1
def Yq(b:Nat):List (Nm×O):=[(.j5,.inst .tj (f1 .iO (.ref UC))),(.gj,.inst .nO (Xh b false)),(.gi,.list []),(.iK,.inst .mP (f1 .gi (.ref (.u b .gi)))),(.hY,.inst .Runner (SR b))]
def YR(S:St):St:={S with bb:=Pa (Yq S.b) S.bb}
def Tn(ts:Bool)(S:St):St:=S.jA .gV (some (.inst (Qz ts) (f1 .kD (.ref kz))))
section
variable{cx:Cx}{d:Nat}{γ:Nm→Option I}{ρ:Loc}{σ:Hp}{n0 n k:Nat}{σ0 σ':Hp}{Q:V→Hp→Prop}
variable{P:jP}{S S':St}{ts:Bool}{w:Fs}{sv ch:List Nat}{T:Nat→Str}{cnt:Nat→Nat}{wl:Nat}
theorem KU{x:Nm}{v:V}:up (λZ=>none) x (some v)=f1 x v:=(uK (L:=[(x,v)]) (List.nodup_cons.mpr ⟨aj,.nil⟩)).symm
theorem Gi(O:gT cx)(F:gK cx)(H:RK n0 σ0 S n σ)(hn:S.bb .gV=none){r:I}(h1:γ .gF=some r)(h2:σ r=some (.cell (some (.ref kz))))(h3:ρ .rz=some (.int (Us ts)))
  (h:∀σ',RK n0 σ0 (Tn ts S) n σ'→(∀m,σ' (.gq m)=σ (.gq m))→Q (.ref (.u S.b .gV)) σ'):
  WE cx (d+2) (.ite (.cmp .Eq (.var .rz) (.int 1)) (.mk .kI [(.iN .gF)] []) (.mk .nN [(.iN .gF)] [])) γ ρ σ Q:=by
 have mk1:∀c:pL,c=Qz ts→c.attr .k3=some (.ref Fn.mW.addr)→c.attr .kD=none→WE cx (d+2) (.mk c [(.iN .gF)] []) γ ρ σ Q:=λc hc ha hf=>
  vx O (f:=.mW) ha (F _) (fX (gH h1 h2 (fZ (jE ⟨rfl,rfl,.u S.b .gV,(H.lh _).trans hn,gu O rfl (fT (iM O (fV rfl ⟨_,_,_,rfl,fW _ _ _,hf,fY ⟨rfl,by rw[lD,hc,KU];exact h _ (H.jA .gV _) λm=>gD _ _ (nf rfl)⟩⟩)))⟩))))
 refine rO (gv (fV h3 (gO O ⟨_,eq_int _ _,?_⟩)))
 cases ts with
 |true=>exact mk1 _ rfl rfl rfl
 |false=>exact mk1 _ rfl rfl rfl
theorem Jh(O:gT cx)(F:gK cx)(H:RK n0 σ0 S n σ)(hn:∀x,x=.j5∨x=.gj∨x=.iK∨x=.gi∨x=.hY→S.bb x=none)(h1:ρ .oD=some (.ref UC))(h2:ρ .gV=some (.ref (.u S.b .gV)))
  (h:∀σ',RK n0 σ0 (YR S) n σ'→(∀m,σ' (.gq m)=σ (.gq m))→Q (.ref (.u S.b .hY)) σ'):
  WE cx (d+3) (.mk .Runner [(.mk .nO [(.mk .tj [(.var .oD)] []),(.var .gV)] []),(.mk .mP [] []),(.sL true)] []) γ ρ σ Q:=by
 have nb:=λx hx=>(H.lh x).trans (hn x hx)
 refine vx O (f:=.vq) rfl (F _) (fX (vx O (f:=.xg) rfl (F _) (fX (vx O (f:=.Be) rfl (F _) (fX (fV h1 (fZ (jE ⟨rfl,rfl,.u S.b .j5,nb _ (.inl rfl),gu O rfl (fT (iM O (fV rfl ⟨_,_,_,rfl,fW _ _ _,rfl,fY ⟨rfl,?_⟩⟩)))⟩))))))))
 refine fX (fV h2 (fZ (jE ⟨rfl,rfl,.u S.b .gj,p4 rfl (nb _ (.inr (.inl rfl))),gu O rfl ?_⟩)))
 refine fT (iM O (pJ ⟨_,_,_,rfl,fW _ _ _,rfl,fT (iM O (fV rfl ⟨_,_,_,rfl,fW _ _ _,rfl,fT (iM O (fV rfl ⟨_,_,_,rfl,fW _ _ _,rfl,fY ⟨rfl,?_⟩⟩))⟩))⟩))
 refine fX (vx O (f:=.vn) rfl (F _) (fZ (jE ⟨rfl,rfl,.u S.b .iK,ue rfl (p4 rfl (nb _ (.inr (.inr (.inl rfl))))),gu O rfl (fT (iM O (iQ (fZ ⟨aw _,.u S.b .gi,sk (nf rfl) (ue rfl (p4 rfl (nb _ (.inr (.inr (.inr (.inl rfl))))))),_,_,_,rfl,sk (nf rfl) (fW _ _ _),rfl,fY ⟨rfl,?_⟩⟩))))⟩)))
 refine fX (pJ (fZ (jE ⟨rfl,rfl,.u S.b .hY,sk (nf rfl) (A5 rfl (nb _ (.inr (.inr (.inr (.inr rfl)))))),gu O rfl ?_⟩)))
 refine fT (iM O (fV rfl ⟨_,_,_,rfl,fW _ _ _,rfl,fT (iM O (fV rfl ⟨_,_,_,rfl,fW _ _ _,rfl,fT (iM O (fV rfl ⟨_,_,_,rfl,fW _ _ _,rfl,?_⟩))⟩))⟩))
 refine fT (iM O (fV rfl ⟨_,_,_,rfl,fW _ _ _,rfl,fT (iM O (gO O ⟨_,_,_,rfl,fW _ _ _,rfl,fT (iM O (pJ ⟨_,_,_,rfl,fW _ _ _,rfl,fY ⟨rfl,?_⟩⟩))⟩))⟩))
 refine h _ (H.bbs (λx=>?_) λr hr=>sk (hr _) (sk (hr _) (sk (hr _) (sk (hr _) (sk (hr _) (sk (hr _) (sk (hr _) (sk (hr _) (sk (hr _) (sk (hr _) (sk (hr _) (sk (hr _) (sk (hr _) (sk (hr _) (sk (hr _) (sk (hr _) rfl)))))))))))))))) λm=>A5 rfl (A5 rfl rfl)
 have ne:∀{y:Nm},x≠y→I.u S.b x≠.u S.b y:=λh e=>h (by injection e)
 by_cases e5:x=.hY
 ·rw[e5];exact(fW _ _ _).trans (congrArg (λf=>some (Mine.O.inst .Runner f)) (uK (by exact jL rfl):SR S.b=_).symm)
 by_cases e4:x=.iK
 ·rw[e4];exact ue rfl (p4 rfl (sk (nf rfl) ((fW _ _ _).trans (congrArg (λf=>some (Mine.O.inst .mP f)) KU))))
 by_cases e3:x=.gi
 ·rw[e3];exact A5 rfl (fW _ _ _)
 by_cases e2:x=.gj
 ·rw[e2];exact A5 rfl (p4 rfl ((fW _ _ _).trans (congrArg (λf=>some (Mine.O.inst .nO f)) (uK (by exact jL rfl):Xh S.b false=_).symm)))
 by_cases e1:x=.j5
 ·rw[e1];exact A5 rfl (ue rfl (p4 rfl ((fW _ _ _).trans (congrArg (λf=>some (Mine.O.inst .tj f)) KU))))
 refine(sk (ne e5) (sk (ne e5) (sk (ne e5) (sk (ne e5) (sk (ne e5) (sk (ne e5) (sk (ne e5) (sk (ne e4) (sk (ne e3) (sk (ne e4) (sk (ne e2) (sk (ne e2) (sk (ne e2) (sk (ne e2) (sk (ne e1) (sk (ne e1) (H.lh x))))))))))))))))).trans (Eq.symm ?_)
 show(lk (Yq S.b) x).or (S.bb x)=_
 rw[show lk (Yq S.b) x=none from(kl e1 _ _).trans ((kl e2 _ _).trans ((kl e3 _ _).trans ((kl e4 _ _).trans (kl e5 _ _))))]
 rfl
theorem Nu(O:gT cx)(H:RK n0 σ0 S n σ)(h6:∀k∈ch,k<6)(hl:ch.length≤100){x:Nm}{j:Nat}(hc:S.pp x j=some (.list (iV ch)))(h1:ρ .i7=some (.ref (.p x j)))(h:Q (.ref (.gq n)) (up σ (.gq n) (some (.list (sV (ch.map tn)))))):
  WE cx d (.comp (.bin .Add (.str "t") (.bi .pd [(.var .lS)])) (.one (.var .lS)) (.var .i7) []) γ ρ σ Q:=by
 have Xe:=(H.lz x j).trans hc
 have tl:∀i,(sV ((ch.take i).map tn)).length≤i:=λi=>ab (ay (m6 _ _)) (by rw[aO];exact bp _ _)
 refine uW (src:=ch) (f:=λk:Nat=>V.int (k:Int)) (r:=.p x j) (z:=.gq n) rfl (ab hl (by decide)) (λi l σ'=>l=sV ((ch.take i).map tn)∧σ'=up σ (.gq n) (some (.list l))) (λx hx=>absurd (show x∈([]:List Nm)from hx) aj) (fV h1 ⟨rfl,Xe,H.no,rfl,rfl⟩)
  (λi l σ' q=>by rw[q.2,q.1];exact⟨fW _ _ _,tl i,sk (nf rfl) Xe⟩) (λi k l σ' e q ρ'=>?_) λl σ' q=>by rw[q.2,q.1,aV];exact h
 rw[q.2]
 refine oz O (h6 k (aE e)) (by decide) (fV rfl ⟨rfl,fW _ _ _,?_,?_⟩)
 ·rw[bg,e,q.1,bU,ar,sV,sV,ar];rfl
 ·rw[lD]
theorem LI.Wc(h:LI P S ts T w sv cnt wl)(e1:S'.pp=S.pp)(e2:∀b k,S.vv b k=true→S'.vv b k=true):LI P S' ts T w sv cnt wl:=
 ⟨⟨e1▸h.pp.wd,e1▸h.pp.db,h.pp.sl,h.pp.sn,λk hk=>(h.pp.en k hk).elim λE e=>⟨E,e1▸e.1,e.2.vals.elim λb q=>⟨b,q.1,e2 _ _ q.2⟩,e.2.ck,e.2.ig,e.2.fs,e.2.dp⟩,e1▸h.pp.no⟩,h.rw.of e1,e1▸h.wl,h.src,h.out,h.cl,e1▸h.sd,e1▸h.ck,e1▸h.rn⟩
end
end
mutual
def vvN(P:jP)(S:St):Nat→Nat→Bool:=λb k=>if b=S.b+1∧k<P.n then true else S.vv b k
def ZG(P:jP)(ts:Bool)(S:St):St:=oJ P (Tn ts S.build) P.n
def Uq(P:jP)(ts:Bool)(S:St):St:=Lk P (ZG P ts S) P.n
def Ys(P:jP)(ts:Bool)(ch:List Nat)(S:St):St:=(Jo (AQ (Uq P ts S) ch) ch).jA .gA (some (.inst .iy (vg (S.b+1) (.ref (.u (S.b+1) .gk)))))
def bS9(P:jP)(ts:Bool)(ch:List Nat)(S:St):St:=(YR (Ys P ts ch S)).jq (Fo ch)
def bS(P:jP)(ts:Bool)(ch:List Nat)(S:St):St:=sD (bS9 P ts ch S) []
def OZ(P:jP)(C:Nat→Prop)(ch:List Nat)(ts:Bool)(T:Nat→Str)(cnt:Nat→Nat)(sv:List Nat)(wl:Nat)(S:St)(n:Nat)(place cut:Int)(n0:Nat)(σ0:Hp):Bp:=⟨P,C,ch,ts,T,cnt,sv,wl,S.pp,vvN P S,S.b+1,n,place,cut,n0,σ0⟩
section
variable{cx:Cx}{d:Nat}{ρ:Loc}{σ:Hp}{n0 n k:Nat}{σ0 σ':Hp}{Q:V→Hp→Prop}
variable{P:jP}{S:St}{ts:Bool}{w:Fs}{sv ch:List Nat}{T:Nat→Str}{cnt:Nat→Nat}{wl:Nat}{C:Nat→Prop}{place cut:Int}
theorem Mi(hk:k<P.n):(Uq P ts S).tk k=some (Kb (P.iv k) (pD P (S.b+1) k)):=if_pos hk
theorem Rw(hk:k<P.n):∃T,Tok P (bS P ts ch S) [] k T:=by
 have h:(bS P ts ch S).tk k=if k∈ch then ((Uq P ts S).tk k).map tQ else (Uq P ts S).tk k:=rfl
 rw[Mi hk]at h
 by_cases m:k∈ch
 ·rw[if_pos m]at h;exact⟨_,h,rfl,rfl,λZ=>rfl⟩
 ·rw[if_neg m]at h;exact⟨_,h,rfl,rfl,λZ=>rfl⟩
theorem Vz(hk:k<P.n):(bS P ts ch S).vv (bS P ts ch S).b k=true:=if_pos ⟨rfl,hk⟩
theorem Lp(K:rG P)(hk:k<P.n):(P.iv k).length≤100:=ab (List.length_filterMap_le _ _) (K.Ki k hk)
theorem Oo(Gq:∀k∈ch,k<P.n∧C k):kB P C ch (bS P ts ch S) (Fo ch):=
 have no:∀{k:Nat} {N:ND} {p:Prop},(bS P ts ch S).nd k=some N→p:=λe=>nn (show none=some _ from e)
 have ni:∀{p:Nat→Prop},∀x∈([]:List Nat),p x:=λx m=>absurd m aj
 ⟨⟨rfl,ni,.nil,λj=>⟨λq=>absurd q aj,λq=>q.elim λN e=>no e⟩,aw _,aw _,ni⟩,λk N e=>no e,.nil,ni,.nil,ni,λk N e=>no e,λk e=>nn (show none=some k from e),λk N e=>no e,λy hy=>Gq y (List.mem_reverse.mp hy),λy hy=>.inl (List.mem_reverse.mpr hy),ni⟩
theorem VC(K:rG P)(li:LI P S ts T w sv cnt wl)(n:Nat):Lc (OZ P C ch ts T cnt sv wl S n place cut n0 σ0) (bS P ts ch S) w sv [] cnt (wl+0) (4*0):=
 ⟨⟨rfl,rfl,λZ Z Z Z Z Z Z Z=>rfl⟩,li.Wc rfl λb k q=>(show(if b=S.b+1∧k<P.n then true else S.vv b k)=true by rw[q,ite_self]),⟨rfl,rfl,rfl,rfl,⟨[],rfl,aw _⟩,rfl⟩,⟨K.n6,rfl,λk hk=>(Rw hk).elim λT t=>⟨T,t.at_,t.td,t.row⟩,λk hk=>Lp K hk⟩,λk hk=>Rw hk,λk hk=>Vz hk,rfl,.nil⟩
theorem N4.step{B:Bp}{i:Nat}(h:N4 B i σ ρ)(v:V):N4 B i σ (up ρ .FE (some v)):=h.elim λn q=>q.elim λS q=>q.elim λw q=>q.elim λsv q=>q.elim λseen q=>q.elim λdn q=>q.elim λnv q=>
 ⟨n,S,w,sv,seen,dn,nv,q.H,q.an,q.bc,q.L,⟨q.r.zk,q.r.runs,q.r.ub,q.r.lQ,q.r.node,q.r.seen,q.r.done,q.r.place,q.r.cut⟩⟩
theorem N4.len{B:Bp}{i:Nat}(h:N4 B i σ ρ):i≤B.P.n:=h.elim λn q=>q.elim λS q=>q.elim λw q=>q.elim λsv q=>q.elim λseen q=>q.elim λdn q=>q.elim λnv q=>
 q.L.sl▸i4 q.L.c.sn λx hx=>(q.L.sp x hx).1
theorem Pd(O:gT cx)(F:gK cx)(NS:o9 cx){B:Bp}(g:Bg B)(Iv:N4 B 0 σ ρ)(rr:σ j1=some (.list ((az B.P.n).map λk=>.ref (mD k))))(rc:σ (.gq B.a)=some (.cell (some (.ref j1))))(hW:Px B Q)(hX:Ga B Q):WS cx (d+7) S9 (gb B.a) ρ σ (JO Q):=by
 have n6:=g.K.n6
 refine fT (uv O (N:=2*B.P.n+2) (ab (aX (bo 2 n6) 2) (by decide)) (N4 B) (kW (kW (gO O (pR O (gH (r:=.gq B.a) rfl rc (.l _ _ rfl (.inl rr) ⟨_,rfl,gO O ⟨_,rfl,?_,Iv⟩⟩)))))) (λi σ' ρ' hi I=>?_) λσ' ρ' I=>?_)
 ·rw[ai,aD];rfl
 ·exact yZ (AY (d:=d) O F NS g (I.step _) hW hX) λfl σ ρ q=>by
   cases fl with
   |brk=>exact aN q
   |_=>exact q
 ·exact absurd I.len (cQ (ae (ak _) (ab (bl (Nat.le_mul_of_pos_left _ (by decide))) (aT _))))
theorem BC.eq{a:Nat}(h:BC a σ)(k:∀m,σ' (.gq m)=σ (.gq m)):BC a σ':=⟨(k _).trans h.rows,(k _).trans h.zt,(k _).trans h.saved,h.k.elim λu e=>⟨u,(k _).trans e⟩⟩
theorem wu(O:gT cx)(F:gK cx)(NS:o9 cx)(K:rG P)(hT:UN P T)(hC:∀k,C k→∀j∈P.iv k,C j)(H:RK n0 σ0 S n σ)(li:LI P S ts T w sv cnt wl)(hv:∀b k,S.b<b→S.vv b k=false)(DD:wl≤800){x:Nm}{j:Nat}(XW:S.pp x j=some (.list (iV ch)))(Gq:∀k∈ch,k<P.n∧C k)(Xq:ch.Nodup)
  (hW:Px (OZ P C ch ts T cnt sv wl S n place cut n0 σ0) Q)(hX:Ga (OZ P C ch ts T cnt sv wl S n place cut n0 σ0) Q):
  WC cx (d+8) .rD [.tup [.ref kz,.ref UC,.int (Us ts),.ref v5,.ref qT,.ref yg],.ref j1,.ref (.p x j),.int place,.int cut] σ Q:=by
 have n6:=K.n6
 have ch6:∀k∈ch,k<6:=λk hk=>ae (Gq k hk).1 n6
 have ne:∀{i j:Nat},i<j→I.gq (n+i)≠.gq (n+j):=λh=>pI (p7 h)
 have H₁:=(((H.new (some (.cell (some (.ref j1))))).new (some (.cell none))).new (some (.cell none))).new (some (.cell none))
 refine uT O [(.gi,.gq n),(.gF,.gq (n+1)),(.gZ,.gq (n+2)),(.lS,.gq (n+3))] rfl
  (List.nodup_cons.mpr ⟨λm=>(List.mem_cons.mp m).elim (ne (i:=0) (by decide)) λm=>(List.mem_cons.mp m).elim (ne (i:=0) (by decide)) λm=>ne (i:=0) (j:=3) (by decide) (ag.mp m),List.nodup_cons.mpr ⟨λm=>(List.mem_cons.mp m).elim (ne (by decide)) λm=>ne (i:=1) (j:=3) (by decide) (ag.mp m),List.nodup_cons.mpr ⟨λm=>ne (i:=2) (j:=3) (by decide) (ag.mp m),List.nodup_cons.mpr ⟨aj,.nil⟩⟩⟩⟩)
  (λr m=>(List.mem_cons.mp m).elim (λe=>e▸H.no) λm=>(List.mem_cons.mp m).elim (λe=>e▸H.free _ (aA _ _)) λm=>(List.mem_cons.mp m).elim (λe=>e▸H.free _ (aA _ _)) λm=>ag.mp m▸H.free _ (aA _ _)) ?_
 refine fT (lN rfl (fV rfl ⟨.gq (n+1),none,rfl,j0 (p7 (j:=1) (i:=3) (by decide)) (j0 (p7 (j:=1) (i:=2) (by decide)) (fW _ _ _)),.gq (n+2),none,rfl,j0 (Kf (j:=2) (i:=1) (by decide)) (j0 (p7 (j:=2) (i:=3) (by decide)) (fW _ _ _)),?_⟩))
 have H₂:=((H₁.old (m:=n+1) (ab H.le (aT _)) (aH (show 1<4 by decide) n) (some (.cell (some (.ref kz))))).old (m:=n+2) (ab H.le (aA _ _)) (aH (show 2<4 by decide) n) (some (.cell (some (.ref qT))))).build
 have bc:BC n (up (up (up (up (up (up σ (.gq n) (some (.cell (some (.ref j1))))) (.gq (n+1)) (some (.cell none))) (.gq (n+2)) (some (.cell none))) (.gq (n+3)) (some (.cell none))) (.gq (n+1)) (some (.cell (some (.ref kz))))) (.gq (n+2)) (some (.cell (some (.ref qT))))):=
  ⟨j0 (p7 (j:=0) (by decide)) (j0 (p7 (j:=0) (by decide)) (j0 (p7 (j:=0) (by decide)) (j0 (p7 (j:=0) (by decide)) (j0 (p7 (j:=0) (by decide)) (fW _ _ _))))),j0 (p7 (by decide)) (fW _ _ _),fW _ _ _,_,j0 (Kf (by decide)) (j0 (Kf (by decide)) (fW _ _ _))⟩
 refine fT (hU rfl (Gi (d:=d+5) (S:=S.build) (ts:=ts) O F H₂ rfl rfl bc.zt rfl λσ₃ H₃ k₃=>?_))
 have bc₃:=bc.eq k₃
 refine fT (hU rfl (vx O (f:=.qF) rfl (F _) (fX (wk O (F _) (fX (gH (r:=.gq n) rfl bc₃.rows (fZ (jE ⟨rfl,rfl,C4 (d:=d+2) (S:=Tn ts S.build) O F K H₃.base (li.rw.of rfl) (λZ=>rfl) (λk=>hv (S.b+1) k (ak _)) λn₄ σ₄ hn₄ H₄' z₄=>fZ (jE ⟨rfl,rfl,.u (S.b+1) .gA,H₄'.lh .gA,?_⟩)⟩))))))))
 have bc₄:=bc₃.keep H₄' (aL _)
 have l4:n+4≤n₄:=H₄'.le
 refine yy (d:=d+2) (S:=ZG P ts S) (mz:=n+4+1) O F H₄'.base (λx hx=>?_) ⟨K,λk hk=>if_pos hk,hn₄,z₄⟩ λσ₅ H₅'=>⟨rfl,?_⟩
 ·rcases hx with e |e |e |e<;>rw[e]<;>rfl
 have H₅:RK n0 σ0 (Uq P ts S) n₄ σ₅:=(H₃.trans H₄').trans H₅'
 have bc₅:=bc₄.keep H₅' l4
 refine fT (hZ (jH O F .oH (r:=.u (S.b+1) .gA) rfl (H₅.lh .gA) rfl rfl (fX (Nu O H₅ ch6 (ab (i4 Xq ch6) (by decide)) (x:=x) (j:=j) XW rfl (fZ ⟨rfl,?_⟩)))))
 have H₆:=H₅.new (some (.list (sV (ch.map tn))))
 have bc₆:=bc₅.up (r:=.gq n₄) (o:=some (.list (sV (ch.map tn)))) (pO l4)
 refine zT (d:=d+1) (S:=Uq P ts S) (P:=P) O F NS ⟨n6,rfl,λk hk=>⟨_,Mi hk,rfl⟩,λk hk=>(Gq k hk).1,Xq⟩ H₆.base (r:=n₄) rfl rfl (ak _) (fW _ _ _) λn₇ σ₇ H₇'=>⟨rfl,?_⟩
 have H₇:RK n0 σ0 (Ys P ts ch S) n₇ σ₇:=H₆.trans H₇'
 have l7:n+4≤n₇:=ab l4 (bP H₇'.le)
 have bc₇:=bc₆.keep H₇' (c6 l4)
 refine fT (hU rfl (Jh (d:=d+4) O F H₇ (λx hx=>?_) rfl rfl λσ₈ H₈ k₈=>?_))
 ·rcases hx with e |e |e |e |e<;>rw[e]<;>rfl
 have bc₈:=bc₇.eq k₈
 refine fT (hU rfl (jH O F .lA (r:=.u (S.b+1) .gA) rfl (H₈.lh .gA) rfl rfl (fZ ⟨rfl,A2 (d:=d+4) (S:=YR (Ys P ts ch S)) (ch:=ch) O F H₈.base rfl rfl rfl λσ₉ H₉'=>?_⟩)))
 have H₉:RK n0 σ0 (bS9 P ts ch S) n₇ σ₉:=H₈.trans H₉'
 have bc₉:=bc₈.keep H₉' l7
 refine fT (hU rfl (iu (fT (hU rfl (iQ (fZ ⟨aw _,.u (S.b+1) .hJ,H₉.lh .hJ,fT (hU rfl (gO O ?_))⟩))))))
 have Hs:RK n0 σ0 (bS P ts ch S) n₇ (up σ₉ (.u (S.b+1) .hJ) (some (.list (iV [])))):=H₉.jA .hJ _
 have bc':=bc₉.up (r:=.u (S.b+1) .hJ) (o:=some (.list (iV []))) λm Z=>nf rfl
 exact Pd (B:=OZ P C ch ts T cnt sv wl S n place cut n0 σ0) O F NS ⟨K,hT,hC,H.le,DD⟩ ⟨n₇,bS P ts ch S,w,sv,[],0,.none,Hs,l7,bc',⟨VC K li n,rfl,λk m=>absurd m aj,⟨[],(aU _).symm,rfl⟩,.first (Fo ch) rfl (Oo Gq) rfl λj=>⟨λm=>absurd m aj,λh=>h.elim λN e=>nn (show none=some N from e.1)⟩⟩,rfl,rfl,rfl,rfl,rfl,rfl,rfl,rfl,rfl⟩
  ((Hs.lz .gi 0).trans li.rw.rows) bc'.rows hW hX
end
end
mutual
def V.VD(v:V):Int:=v.casesOn 0 (λZ=>0) (λi=>i) (λZ=>0) (λZ=>0) λZ=>0
def Mw(v:V):Int×Int:=v.casesOn (0,0) (λZ=>(0,0)) (λZ=>(0,0)) (λZ=>(0,0)) (λZ=>(0,0)) λl=>(V.VD (l.headD .none),V.VD (l.tail.headD .none))
theorem map_id'{α:Type}{f:α→α}{l:List α}(h:∀x∈l,f x=x):l.map f=l:=(cT h).trans (List.map_id' l)
theorem G9{ps:List (Int×Int)}{l:List V}(h:l.Perm (ps.map uG)):∃qs:List (Int×Int),l=qs.map uG∧qs.Perm ps:=
 ⟨l.map Mw,(bB.trans (map_id' λx hx=>(List.mem_map.mp (h.mem_iff.mp hx)).elim λp e=>e.2▸rfl)).symm,(h.map Mw).trans (.of_eq (bB.trans (map_id' λx Z=>rfl)))⟩
noncomputable abbrev wY:I:=.p .iE 0
noncomputable abbrev oj:I:=.p .hV 0
structure Fd(order:List Nat)(k:Nat)(l:List lO):Prop where
 ne:l≠[]
 nd:l.Nodup
 src:∀f∈l,f.1=false→f.2<3
 out:∀f∈l,f.1=true→f.2∈order.take (order.idxOf k)
def NW(ns:List Int):List (Int×Int):=ns.zipIdx.map λp=>(p.1.fmod 89,(p.2:Int))
theorem HB(ns:List Int):(NW ns).length=ns.length:=(ai ..).trans List.length_zipIdx
theorem N9(ns:List Int):(NW ns).map (·.2)=(az ns.length).map λk:Nat=>(k:Int):=by
 rw[NW,bB,List.range_eq_range',←List.zipIdx_map_snd,bB]
 rfl
theorem MQ{ns:List Int}{i:Nat}{x:Int}(e:ns[i]?=some x):NW (ns.take (i+1))=NW (ns.take i)++[(x.fmod 89,(i:Int))]:=by
 rw[bg,e,NW,bU,List.zipIdx_append,ar,aO,di (aY (mE e)),c5]
 rfl
theorem DT{l:List Int}{m:List Nat}(h:l.Perm (m.map λk:Nat=>(k:Int))):(l.map eG).Perm m∧l=(l.map eG).map λk:Nat=>(k:Int):=
 ⟨(h.map eG).trans (.of_eq (bB.trans (map_id' λk Z=>rfl))),(bB.trans (map_id' λx hx=>(List.mem_map.mp (h.mem_iff.mp hx)).elim λk e=>e.2▸rfl)).symm⟩
section
variable{cx:Cx}{d:Nat}{γ:Nm→Option I}{ρ:Loc}{σ:Hp}{n0 n k:Nat}{σ0 σ':Hp}{S:St}{Q:V→Hp→Prop}{ns:List Int}
def WX(σ:Hp)(n:Nat)(ns:List Int)(qs:List (Int×Int)):Hp:=up (up σ (.gq n) (some (.list ((NW ns).map uG)))) (.gq (n+1)) (some (.list (qs.map uG)))
structure Or(σ:Hp)(S:St)(n:Nat)(ns:List Int)(i:Nat)(l:List V)(σ':Hp)(qs:List (Int×Int)):Prop where
 p:(qs.map (·.2)).Perm ((az ns.length).map λk:Nat=>(k:Int))
 H:RK n σ S (n+2) (WX σ n ns qs)
 e:l=(qs.take i).map (λp=>V.int p.2)
 s:σ'=up (WX σ n ns qs) oj (some (.list l))
theorem MU(O:gT cx)(H:RK n0 σ0 S n σ)(hl:ns.length≤6)(hn:S.pp .iE 0=some (.list (ns.map V.int)))(hρ:ρ .iE=some (.ref wY))
  (h:∀qs:List (Int×Int),(qs.map (·.2)).Perm ((az ns.length).map λk:Nat=>(k:Int))→RK n σ S (n+2) (WX σ n ns qs)→Q (.ref (.gq (n+1))) (WX σ n ns qs)):WE cx d FF γ ρ σ Q:=by
 have A9:=(H.lz .iE 0).trans hn
 have tl:∀i,((NW (ns.take i)).map uG).length≤i:=λi=>by rw[ai,HB,aO];exact bp _ _
 refine Gv O (B0 O (src:=ns) (f:=V.int) (r:=wY) (z:=.gq n) (ab hl (by decide)) (λi l σ'=>l=(NW (ns.take i)).map uG∧σ'=up σ (.gq n) (some (.list l))) (λx hx=>absurd (show x∈([]:List Nm)from hx) aj) (fV hρ ⟨rfl,A9,H.no,rfl,rfl⟩)
  (λi l σ' q=>by rw[q.2,q.1];exact⟨fW _ _ _,tl i,sk (nf rfl) A9⟩) (λi x l σ' e q ρ'=>?_) λl σ' q=>?_)
 ·rw[q.2]
  exact pX (fX (kW (fV rfl (gO O ⟨.int (x.fmod 89),rfl,fX (fV rfl (fZ ⟨au rfl,fW _ _ _,by rw[MQ e,ar,q.1];rfl,by rw[lD]⟩))⟩))))
 ·rw[q.2,q.1,aV]
  exact⟨_,NW ns,rfl,fW _ _ _,ao (ab (ay (HB ns)) hl) (by decide),λl' hp=>(G9 hp).elim λqs w=>w.1.symm▸⟨.gq (n+1),(H.new _).no,h qs ((w.2.map _).trans (.of_eq (N9 ns))) ((H.base.new _).new _)⟩⟩
theorem LJ(O:gT cx)(H:RK n0 σ0 S n σ)(hl:ns.length≤6)(hn:S.pp .iE 0=some (.list (ns.map V.int)))(ho:S.pp .hV 0=none)(hρ:ρ .iE=some (.ref wY)){ms:List MS}{Q:Fl→Hp→Loc→Prop}
  (h:∀n' σ' order,RK n σ (S.iP .hV 0 (some (.list (iV order)))) n' σ'→order.Perm (az ns.length)→WS cx d ms γ (up ρ .hV (some (.ref oj))) σ' Q):
  WS cx d (.asg (.one (.var .hV)) (.comp (.var .lS) (.tup [(.var .KL),(.var .lS)]) FF [])::ms) γ ρ σ Q:=by
 have pl:∀{qs:List (Int×Int)},(qs.map (·.2)).Perm ((az ns.length).map λk:Nat=>(k:Int))→qs.length=ns.length:=λp=>by have e:=p.length_eq;rw[ai,ai,aD]at e;exact e
 refine fT (DA rfl (CI (.list (.gq (n+1))) oj ns.length λi l σ'=>∃qs,Or σ S n ns i l σ' qs) ns.length (λx hx=>absurd (show x∈([]:List Nm)from hx) aj)
  (yS (MU O H hl hn hρ λqs hq Hq=>⟨_,_,rfl,fW _ _ _,trivial,trivial,oj,(Hq.lz .hV 0).trans ho,[],rfl,rfl,aw _,qs,hq,Hq,rfl,rfl⟩))
  (yI (ab hl (by decide)) _ (λi l σ' q=>q.elim λqs w=>?_) (λi l σ' hi q=>q.elim λqs w=>?_) λl σ' q=>q.elim λqs w=>?_))
 ·rw[w.s]
  exact⟨⟨_,sk (nf rfl) (fW _ _ _)⟩,rfl,fW _ _ _,by rw[w.e,ai,aO];exact bp _ _⟩
 ·have hi:=(pl w.p).symm▸hi
  rw[w.s]
  refine⟨uG qs[i],(sE (sk (nf rfl) (fW _ _ _))).trans ((aQ ..).trans (congrArg (bh uG) (aG hi))),λρ'=>fV rfl ⟨fW _ _ _,qs,w.p,w.H,?_,by rw[lD]⟩⟩
  rw[bg,aG hi,w.e,ar];rfl
 ·have e:qs.take ns.length=qs:=by rw[←pl w.p,aV]
  have nl:=DT w.p
  have ei:qs.map (λp=>V.int p.2)=iV ((qs.map (·.2)).map eG):=(bB (f:=λp:Int×Int=>p.2) (g:=V.int)).symm.trans ((congrArg (List.map V.int) nl.2).trans bB)
  rw[w.s,w.e,e,ei]
  exact⟨sE (sk (nf rfl) (fW _ _ _))|>.trans (bW (ay ((ai ..).trans (pl w.p)))),h (n+2) _ _ (w.H.iP .hV 0 _) nl.1⟩
end
end
mutual
def Ba(js ks:List Nat):List lO:=js.map (λj=>(false,j))++ks.map (λj=>(true,j))
theorem xD{α β:Type}{f:α→β}(hf:∀a b,f a=f b→a=b):∀{l:List α},l.Nodup→(l.map f).Nodup
 |[],_=>.nil
 |x::l,h=>have h:=List.nodup_cons.mp h;List.nodup_cons.mpr ⟨λm=>(List.mem_map.mp m).elim λy e=>h.1 (hf _ _ e.2▸e.1),xD hf h.2⟩
theorem Ea{js ks:List Nat}{f:lO}(h:f∈Ba js ks):(f.1=false∧f.2∈js)∨(f.1=true∧f.2∈ks):=
 (List.mem_append.mp h).imp (λm=>(List.mem_map.mp m).elim λx e=>by rw[←e.2];exact⟨rfl,e.1⟩) λm=>(List.mem_map.mp m).elim λx e=>by rw[←e.2];exact⟨rfl,e.1⟩
theorem OI{order js ks:List Nat}{k:Nat}(hj:js.Sublist (az 3))(hk:ks.Sublist (order.take (order.idxOf k)))(ho:order.Nodup)(Fi:Ba js ks≠[]):Fd order k (Ba js ks):=
 ⟨Fi,List.nodup_append.mpr ⟨xD (λa b e=>congrArg fM e) (b6.sublist hj),xD (λa b e=>congrArg fM e) ((ho.sublist (cE _ _)).sublist hk),λa ha b hb e=>(List.mem_map.mp ha).elim λx ex=>(List.mem_map.mp hb).elim λy ey=>bf (congrArg Prod.fst (ex.2.trans (e.trans ey.2.symm)))⟩,
  λf hf e=>(Ea hf).elim (λq=>aM.mp (hj.subset q.2)) λq=>bf (e.symm.trans q.1),λf hf e=>(Ea hf).elim (λq=>bf (q.1.symm.trans e)) λq=>hk.subset q.2⟩
theorem sub_snoc{α:Type}{l m:List α}{a:α}{i:Nat}(e:m[i]?=some a)(h:l.Sublist (m.take i)):(l++[a]).Sublist (m.take (i+1))∧l.Sublist (m.take (i+1)):=by
 rw[bg,e]
 exact⟨h.append (List.Sublist.refl _),h.trans (List.sublist_append_left _ _)⟩
theorem w3:∀{l:List Nat} {a j:Nat},l[j]?=some a→l.idxOf a≤j
 |[],_,_,h=>nn (h.symm.trans rfl).symm
 |x::l,a,j,h=>by
  rw[List.idxOf_cons]
  cases e:x==a with
  |true=>exact aw _
  |false=>
   cases j with
   |zero=>exact bf (e.symm.trans (beq_iff_eq.mpr (Option.some.inj h)))
   |succ j=>exact bl (w3 (l:=l) h)
section
variable{cx:Cx}{d:Nat}{γ:Nm→Option I}{ρ:Loc}{σ:Hp}{n0 n n' k i:Nat}{σ0 σ':Hp}{S:St}{ns:List Int}{order:List Nat}{QQ:Fl→Hp→Loc→Prop}{ms:List MS}
theorem YU:∀j<6,(2:Int) ^j≠0∧((2:Int) ^j).natAbs≤1000:=by decide
theorem Mh(O:gT cx){e f:ME}{B:Int}{j:Nat}(hj:j<6){Q:Bool→Hp→Prop}(he:∀Q,Q (.int B) σ→WE cx d e γ ρ σ Q)(hf:∀Q,Q (.int (j:Int)) σ→WE cx d f γ ρ σ Q)(h:∀b,Q b σ):
  WT cx d (.cmp .Eq (.bin .Mod (.bin .FloorDiv e (.bin .Pow (.int 2) f)) (.int 2)) (.int 1)) γ ρ σ Q:=
 gv (kW (kW (he _ (kW (gO O (hf _ ⟨.int ((2:Int) ^j),if_pos ⟨rfl,bj j,Int.ofNat_le.mpr (ab (aY hj) (by decide))⟩,.int (B.fdiv ((2:Int) ^j)),if_pos (YU j hj),gO O ⟨.int ((B.fdiv ((2:Int) ^j)).fmod 2),rfl,gO O ⟨_,eq_int _ _,h _⟩⟩⟩))))))
structure Pk(f:Nat→lO)(src:List Nat)(σ:Hp)(z:I)(i:Nat)(l:List V)(σ':Hp)(js:List Nat):Prop where
 e:l=sV ((js.map f).map jh)
 s:js.Sublist (src.take i)
 h:σ'=up σ z (some (.list l))
theorem Pk.len{f:Nat→lO}{src:List Nat}{z:I}{l:List V}{js:List Nat}(w:Pk f src σ z i l σ' js):l.length≤i:=by
 rw[w.e,m6,ai]
 exact ab w.s.length_le (by rw[aO];exact bp _ _)
theorem Pk.yes{f:Nat→lO}{src:List Nat}{z:I}{l:List V}{js:List Nat}{a:Nat}(w:Pk f src σ z i l σ' js)(e:src[i]?=some a):Pk f src σ z (i+1) (l++[.str (jh (f a))]) (up σ' z (some (.list (l++[.str (jh (f a))])))) (js++[a]):=
 ⟨by rw[w.e,ar,ar,sV,sV,ar];rfl,(sub_snoc e w.s).1,by rw[w.h,lD]⟩
theorem Pk.no{f:Nat→lO}{src:List Nat}{z:I}{l:List V}{js:List Nat}{a:Nat}(w:Pk f src σ z i l σ' js)(e:src[i]?=some a):Pk f src σ z (i+1) l σ' js:=⟨w.e,(sub_snoc e w.s).2,w.h⟩
def zX(S:St)(pp:Nm→Nat→Option O):St:={S with pp:=pp}
structure Ux(n0:Nat)(σ0:Hp)(S:St)(order:List Nat)(i n':Nat)(tM:Nm→Nat→Option O)(row:Nat→List lO)(σ':Hp):Prop where
 H:RK n0 σ0 (zX S tM) n' σ'
 po:tM .hV 0=some (.list (iV order))
 pr:tM .gi 0=some (.list ((az i).map λk=>.ref (mD k)))
 pw:∀k,k<i→tM .mq k=some (.list (sV ((row k).map jh)))∧Fd order k (row k)
 pe:∀k,i≤k→tM .mq k=none
 pt:∀x j,x≠.hV→x≠.gi→x≠.mq→tM x j=S.pp x j
structure Rn(ρ:Loc):Prop where
 q1:ρ .iE=some (.ref wY)
 q2:ρ .hV=some (.ref oj)
 q3:ρ .gi=some (.ref j1)
structure Od(S:St)(ns:List Int)(order:List Nat):Prop where
 nl:ns.length≤6
 nm:S.pp .iE 0=some (.list (ns.map V.int))
 p:order.Perm (az ns.length)
theorem Od.mem(o:Od S ns order)(j:Nat):j∈order↔j<ns.length:=(o.p.mem_iff).trans aM
theorem Od.nd(o:Od S ns order):order.Nodup:=o.p.nodup_iff.mpr b6
def ZN(S:St)(i:Nat)(r:List lO):St:=(S.iP .mq i (some (.list (sV (r.map jh))))).iP .gi 0 (some (.list ((az i).map (λk=>V.ref (mD k))++[.ref (mD i)])))
theorem Ux.next{tM:Nm→Nat→Option O}{row:Nat→List lO}(w:Ux n0 σ0 S order i n tM row σ){r:List lO}(hr:Fd order i r)(H':RK n0 σ0 (ZN (zX S tM) i r) n' σ'):Ux n0 σ0 S order (i+1) n' (ZN (zX S tM) i r).pp (λk=>if k=i then r else row k) σ':=
 ⟨H',(iC (nf rfl)).trans ((iC (nf rfl)).trans w.po),i9.trans (by rw[bJ,ar];rfl),λk hk=>by
  by_cases e:k=i
  ·rw[if_pos e,e];exact⟨(iC (nf rfl)).trans i9,hr⟩
  ·rw[if_neg e]
   have q:=w.pw k (eS (bH hk) e)
   exact⟨(iC (nf rfl)).trans ((vJ e).trans q.1),q.2⟩,λk hk=>(iC (nf rfl)).trans ((vJ (bx hk)).trans (w.pe k (bP hk))),λx j h1 h2 h3=>(iC h2).trans ((iC h3).trans (w.pt x j h1 h2 h3))⟩
def gR(n:Nat):Nm→Option I:=lk [(.wa,.gq n)]
theorem V0(hi:i∈order):(iV order)[order.idxOf i]?=some (.int (i:Int)):=by
 have ox:=List.idxOf_lt_length_iff.mpr hi
 rw[iV,aQ,aG ox,cU ox];rfl
theorem UJ{j:Nat}{x:V}(hj:j<order.idxOf i)(hx:(iV order)[j]?=some x):i5 x (.int (i:Int))=false:=by
 rw[iV,aQ]at hx
 cases e:order[j]? with
 |none=>rw[e]at hx;exact nn hx
 |some y=>
  rw[e]at hx
  rw[←Option.some.inj hx]
  exact beq_eq_false_iff_ne.mpr λq=>cQ hj (w3 ((Int.ofNat.inj q:y=i)▸e))
theorem Ff(l:List Nat)(m:Nat):pW none (some (m:Int)) (iV l)=iV (l.take m):=List.map_take.symm
theorem MP(O:gT cx){tM:Nm→Nat→Option Mine.O}{row:Nat→List lO}(o:Od S ns order)(w:Ux n0 σ0 S order i n tM row σ)(hi:i<ns.length)(R:Rn ρ)(hk:ρ .lS=some (.int (i:Int)))
  (h:WS cx d ms γ (up ρ .yO (some (.ref (.gq n)))) (up σ (.gq n) (some (.list (iV (order.take (order.idxOf i)))))) QQ):WS cx d (C2::ms) γ ρ σ QQ:=by
 have io:=(o.mem i).mpr hi
 have no:=(w.H.lz .hV 0).trans w.po
 refine fT (hU rfl (sU (fV R.q2 (Ms O (fV (v:=.ref oj) R.q2 ⟨⟨_,no⟩,fV hk ⟨_,_,order.idxOf i,rfl,no,xx _,rfl,⟨.int (i:Int),V0 io,beq_self_eq_true (i:Int)⟩,λj x hj hx=>UJ hj hx,_,rfl,oj,iV order,.gq n,rfl,.inl no,rfl,decide_eq_true (bj (order.idxOf i)),w.H.no,?_⟩⟩)))))
 rw[Ff]
 exact h
theorem PV(O:gT cx){m:Nat}(hn:σ wY=some (.list (ns.map V.int)))(hi:i<ns.length)(R:Rn ρ)(hk:ρ .lS=some (.int (i:Int))){u:Option V}(hu:σ (.gq m)=some (.cell u))
  (h:∀B:Int,WS cx d ms (gR m) ρ (up σ (.gq m) (some (.cell (some (.int B))))) QQ):WS cx d (GP::ms) (gR m) ρ σ QQ:=
 fT (lN rfl (kW (Cc O (jr (fV R.q1 (fV hk ⟨_,qV hn ((aQ ..).trans (congrArg (bh V.int) (aG hi))),ns[i],rfl,gO O ⟨.int (((ns[i]).natAbs:Int).fdiv 89),rfl,.gq m,u,rfl,hu,h _⟩⟩))))))
theorem E0{m:Nat}{ms:List Nm}(h:∀x∈ms,x∈[Nm.wa]):∀x∈ms,∃r,gR m x=some r:=λx hx=>⟨.gq m,by rw[ag.mp (h x hx)];rfl⟩
theorem RN(O:gT cx){m z:Nat}{B:Int}(hz:m≠z)(no:σ (.gq z)=none)(hb:σ (.gq m)=some (.cell (some (.int B))))
  (h:∀js:List Nat,js.Sublist (az 3)→WS cx d ms (gR m) (up ρ .mB (some (.ref (.gq z)))) (up σ (.gq z) (some (.list (sV ((js.map λj=>((false,j):lO)).map jh))))) QQ):WS cx d (MF::ms) (gR m) ρ σ QQ:=by
 refine fT (DA rfl (CI (.IM 3) (.gq z) 3 λi l σ'=>∃js,Pk (λj=>(false,j)) (az 3) σ (.gq z) i l σ' js) 3 (E0 λx hx=>hx) (QS O (by decide) (gO O ⟨rfl,no,[],rfl,List.nil_sublist _,rfl⟩))
  (IZ (by decide) _ (λj l σ' q=>q.elim λjs w=>⟨by rw[w.h];exact fW _ _ _,w.len⟩) (λj l σ' hj q ρ'=>q.elim λjs w=>?_) λl σ' q=>q.elim λjs w=>?_))
 ·have e:(az 3)[j]?=some j:=cS hj
  have j6:j<6:=bk hj (by decide)
  refine Mh O (B:=B) j6 (λZ q=>gH (r:=.gq m) rfl (by rw[w.h];exact j0 hz hb) q) (λZ q=>fV rfl q) λc=>?_
  cases c with
  |true=>exact oz O j6 (by decide) (fV rfl ⟨rfl,by rw[w.h];exact fW _ _ _,_,w.yes e⟩)
  |false=>exact⟨_,w.no e⟩
 ·have s:=w.s
  rw[w.h,w.e]
  exact h js s
end
end
mutual
section
variable{cx:Cx}{d:Nat}{γ:Nm→Option I}{ρ:Loc}{σ:Hp}{n0 n n' k i:Nat}{σ0 σ':Hp}{S:St}{ns:List Int}{order:List Nat}{QQ:Fl→Hp→Loc→Prop}{ms:List MS}
def NV(ks:List Nat):List V:=sV ((ks.map λj=>((true,j):lO)).map jh)
def QN(js:List Nat):List V:=sV ((js.map λj=>((false,j):lO)).map jh)
theorem NC(js ks:List Nat):QN js++NV ks=sV ((Ba js ks).map jh):=by rw[Ba,ar,QN,NV,sV,sV,sV,ar]
theorem Si(O:gT cx){m z1 za z2:Nat}{B:Int}{js ahead:List Nat}(h12:m<z2)(h13:z1<z2)(h14:za<z2)(in₈:σ (.gq z1)=some (.list (QN js)))(ah:σ (.gq za)=some (.list (iV ahead)))(cb:σ (.gq m)=some (.cell (some (.int B))))(a6:∀j∈ahead,j<6)(al:ahead.length≤6)(jl:js.length≤3)(no2:σ (.gq z2)=none)(no3:σ (.gq (z2+1))=none)(nr:σ (mD i)=none)
  (p1:ρ .mB=some (.ref (.gq z1)))(p2:ρ .yO=some (.ref (.gq za)))
  (h0:∀ks,ks.Sublist ahead→Ba js ks=[]→WS cx d ms (gR m) (up ρ .mB (some (.ref (.gq (z2+1))))) (up (up σ (.gq z2) (some (.list (NV ks)))) (.gq (z2+1)) (some (.list []))) QQ)
  (h1:∀ks,ks.Sublist ahead→Ba js ks≠[]→WS cx d ms (gR m) (up ρ .mB (some (.ref (mD i)))) (up (up σ (.gq z2) (some (.list (NV ks)))) (mD i) (some (.list (sV ((Ba js ks).map jh))))) QQ):WS cx d (Md::ms) (gR m) ρ σ QQ:=by
 refine fT (hU rfl (KX (fV p1 (B0 O (src:=ahead) (f:=λj:Nat=>V.int (j:Int)) (r:=.gq za) (z:=.gq z2) (ab al (by decide)) (λm l σ'=>∃ks,Pk (λj=>(true,j)) ahead σ (.gq z2) m l σ' ks) (E0 λx hx=>hx) (fV p2 ⟨rfl,ah,no2,[],rfl,List.nil_sublist _,rfl⟩)
  (λm l σ' q=>q.elim λks w=>⟨by rw[w.h];exact fW _ _ _,w.len,by rw[w.h];exact j0 (av h14) ah⟩) (λq j l σ' e w ρ'=>w.elim λks w=>?_) λl σ' q=>q.elim λks w=>?_))))
 ·have j6:=a6 j (aE e)
  refine Mh O (B:=B.fdiv 8) (ae (mE e) al) (λZ q=>kW (gH (r:=.gq m) rfl (by rw[w.h];exact j0 (av h12) cb) (gO O ⟨_,rfl,q⟩))) (λZ q=>fV rfl q) λc=>?_
  cases c with
  |true=>exact oz O j6 (by decide) (fV rfl ⟨rfl,by rw[w.h];exact fW _ _ _,_,w.yes e⟩)
  |false=>exact⟨_,w.no e⟩
 ·have s:=w.s
  rw[aV]at s
  have len:(QN js).length+(NV ks).length≤100000:=by rw[QN,NV,m6,m6,ai,ai];exact ab (bz jl (ab s.length_le al)) (by decide)
  rw[w.h,w.e]
  by_cases he:Ba js ks=[]
  ·refine⟨_,_,_,_,.gq (z2+1),rfl,rfl,j0 (av h13) in₈,fW _ _ _,len,j0 (bx (ak _)) no3,?_⟩
   show WS cx d ms (gR m) _ (up _ _ (some (.list (QN js++NV ks)))) QQ
   rw[NC,he]
   exact h0 ks s he
  ·refine⟨_,_,_,_,mD i,rfl,rfl,j0 (av h13) in₈,fW _ _ _,len,sk (nf rfl) nr,?_⟩
   show WS cx d ms (gR m) _ (up _ _ (some (.list (QN js++NV ks)))) QQ
   rw[NC]
   exact h1 ks s he
theorem Sb:aa "s0"=jh (false,0):=by decide+kernel
theorem Ot(O:gT cx){q q2:Nat}{L:List V}(h1:σ (.gq q)=some (.list []))(hq:q≠q2)(no:σ (.gq q2)=none)(nr:σ (mD i)=none)(rs:σ j1=some (.list L))(hL:L.length<100000)(p1:ρ .mB=some (.ref (.gq q)))(p2:ρ .gi=some (.ref j1))
  (h:QQ .next (up (up (up σ (.gq q2) (some (.list []))) (mD i) (some (.list (sV ([((false,0):lO)].map jh))))) j1 (some (.list (L++[.ref (mD i)])))) ρ):W1 cx d II γ ρ σ QQ:=
 hZ (jM O (fV p2 ⟨⟨_,rs⟩,rO (gv (fV p1 (iQ (fZ ⟨aw _,.gq q2,no,false,eq_nil (j0 hq h1) (fW _ _ _),iQ (fX (gY (fZ ⟨au rfl,mD i,sk (nf rfl) nr,_,_,rfl,p4 rfl rs,hL,rfl,by rw[Sb];exact h⟩)))⟩))))⟩))
theorem ne_nil{p q:I}{l:List Str}(h1:σ p=some (.list (sV l)))(hl:l≠[])(h2:σ q=some (.list [])):rZ σ .NotEq (.ref p) (.ref q)=some true:=by
 show(WV (σ p) (σ q)).map (!·)=_
 rw[h1,h2]
 cases l with
 |nil=>exact absurd rfl hl
 |cons a l=>exact congrArg (bh (!·)) (if_pos (by rw[NM];rfl))
theorem Oe(O:gT cx){q2:Nat}{l:List Str}{L:List V}(h1:σ (mD i)=some (.list (sV l)))(hl:l≠[])(no:σ (.gq q2)=none)(rs:σ j1=some (.list L))(hL:L.length<100000)(p1:ρ .mB=some (.ref (mD i)))(p2:ρ .gi=some (.ref j1))
  (h:QQ .next (up (up σ (.gq q2) (some (.list []))) j1 (some (.list (L++[.ref (mD i)])))) ρ):W1 cx d II γ ρ σ QQ:=
 hZ (jM O (fV p2 ⟨⟨_,rs⟩,rO (gv (fV p1 (iQ (fZ ⟨aw _,.gq q2,no,true,ne_nil (sk (nf rfl) h1) hl (fW _ _ _),fV p1 ⟨_,_,rfl,sk (nf rfl) rs,hL,rfl,h⟩⟩))))⟩))
structure Yn(n0:Nat)(σ0:Hp)(S:St)(order:List Nat)(m i n':Nat)(tM:Nm→Nat→Option O)(row:Nat→List lO)(σ':Hp)(ρ':Loc):Prop where
 w:Ux n0 σ0 S order i n' tM row σ'
 le:m+1≤n'
 c:∃u,σ' (.gq m)=some (.cell u)
 R:Rn ρ'
theorem VR(order:List Nat)(i:Nat):Fd order i [(false,0)]:=⟨b5 _ _,List.nodup_cons.mpr ⟨aj,.nil⟩,λf hf Z=>by rw[ag.mp hf];decide,λf hf e=>by rw[ag.mp hf]at e;exact bf e⟩
theorem Jv(O:gT cx){tM:Nm→Nat→Option Mine.O}{row:Nat→List lO}{m:Nat}(hm:n0≤m)(o:Od S ns order)(w:Yn n0 σ0 S order m i n tM row σ ρ)(hi:i<ns.length)(hk:ρ .lS=some (.int (i:Int)))
  (h:∀n' σ' tM row ρ',Yn n0 σ0 S order m (i+1) n' tM row σ' ρ'→QQ .next σ' ρ'):WS cx d [C2,GP,MF,Md,II] (gR m) ρ σ QQ:=w.c.elim λu cu=>by
 have W:=w.w
 have H:=W.H
 have i6:i<6:=ae hi o.nl
 have mn:m<n:=w.le
 have ne:∀{j},m≠n+j:=λ{j}=>av (ae mn (aA _ _))
 have a6:∀j∈order.take (order.idxOf i),j<6:=λj hj=>ae ((o.mem j).mp (br hj)) o.nl
 have al:(order.take (order.idxOf i)).length≤6:=zO (P:=⟨6,λZ=>[],[],λZ=>0⟩) (aL _) (o.nd.sublist (cE _ _)) a6
 have rl:((az i).map λk=>V.ref (mD k)).length<100000:=by rw[ai,aD];exact bk i6 (by decide)
 refine MP O o W hi w.R hk ?_
 have H₅:=H.new (some (.list (iV (order.take (order.idxOf i)))))
 refine PV O (ns:=ns) (sk (nf rfl) ((H.lz .iE 0).trans ((W.pt .iE 0 (nf rfl) (nf rfl) (nf rfl)).trans o.nm))) hi ⟨w.R.q1,w.R.q2,w.R.q3⟩ hk (j0 (ne (j:=0)) cu) λB=>?_
 have H₆:=H₅.old (m:=m) hm (a5 mn) (some (.cell (some (.int B))))
 refine RN O (z:=n+1) ne H₆.no (fW _ _ _) λjs hj=>?_
 have H₇:=H₆.new (some (.list (QN js)))
 have r0:∀{σ':Hp} {n':Nat},RK n0 σ0 (zX S tM) n' σ'→σ' j1=some (.list ((az i).map λk=>.ref (mD k))):=λH=>(H.lz .gi 0).trans W.pr
 have r1:∀{σ':Hp} {n':Nat},RK n0 σ0 (zX S tM) n' σ'→σ' (mD i)=none:=λH=>(H.lz .mq i).trans (W.pe i (aL _))
 have jl:js.length≤3:=ab hj.length_le (ay aD)
 refine Si O (z1:=n+1) (za:=n) (z2:=n+2) (i:=i) (ae mn (aA _ _)) (ak _) (a5 (ak _)) (fW _ _ _) (j0 (av (ak _)) (j0 (Ne.symm (ne (j:=0))) (fW _ _ _))) (j0 ne (fW _ _ _)) a6 al jl H₇.no (H₇.free _ (aT _)) (r1 H₇) rfl rfl (λks ZQ he=>?_) λks ZQ he=>?_
 ·have H₉:=(H₇.new (some (.list (NV ks)))).new (some (.list []))
  refine fT (Ot O (q:=n+3) (q2:=n+4) (i:=i) (fW _ _ _) (av (ak _)) H₉.no (r1 H₉) (r0 H₉) rl rfl w.R.q3 (fY (h _ _ _ _ _ ⟨W.next (VR order i) (((H₉.new (some (.list []))).iP .mq i _).iP .gi 0 _),ab w.le (aA n 5),⟨some (.int B),?_⟩,w.R.q1,w.R.q2,w.R.q3⟩)))
  exact p4 rfl (j0 (ne (j:=4)) (j0 (ne (j:=3)) (j0 (ne (j:=2)) (j0 (ne (j:=1)) (fW _ _ _)))))
 ·have H₈:=H₇.new (some (.list (NV ks)))
  have H₉:=H₈.iP .mq i (some (.list (sV ((Ba js ks).map jh))))
  refine fT (Oe O (q2:=n+3) (i:=i) (fW _ _ _) (λz=>he (List.map_eq_nil_iff.mp z)) (sk (nf rfl) H₈.no) (sk (nf rfl) (r0 H₈)) rl rfl w.R.q3 (fY (h _ _ _ _ _ ⟨W.next (OI hj ZQ o.nd he) ((H₉.new (some (.list []))).iP .gi 0 _),ab w.le (aA n 4),⟨some (.int B),?_⟩,w.R.q1,w.R.q2,w.R.q3⟩)))
  exact sk (nf rfl) (j0 (ne (j:=3)) (sk (nf rfl) (j0 (ne (j:=2)) (j0 (ne (j:=1)) (fW _ _ _)))))
theorem DK(O:gT cx)(H:RK n0 σ0 S n σ)(hl:ns.length≤6)(hn:S.pp .iE 0=some (.list (ns.map V.int)))(ho:S.pp .hV 0=none)(hr:S.pp .gi 0=none)(hw:∀k,S.pp .mq k=none){Q:V→Hp→Prop}
  (h:∀n' σ' tM order (row:Nat→List lO),order.Perm (az ns.length)→Ux n0 σ0 S order ns.length n' tM row σ'→Q (.tup [.ref j1,.ref oj]) σ'):WC cx (d+1) .vV [.ref wY] σ Q:=by
 have H₁:=H.new (some (.cell none))
 refine uT O [(.wa,.gq n)] rfl (List.nodup_cons.mpr ⟨aj,.nil⟩) (λr m=>ag.mp m▸H.no) ?_
 refine LJ O H₁ hl hn ho rfl λn₂ σ₂ order H₂' hp=>?_
 have H₂:=H₁.trans H₂'
 have le:n+1≤n₂:=H₂'.le
 have o:Od S ns order:=⟨hl,hn,hp⟩
 refine fT (hU rfl (iQ (fZ ⟨aw _,j1,(H₂.lz .gi 0).trans ((iC (nf rfl)).trans hr),?_⟩)))
 have H₃:=H₂.iP .gi 0 (some (.list []))
 have cu:up σ₂ j1 (some (.list [])) (.gq n)=some (.cell none):=sk (nf rfl) ((H₂'.keep n (ak _)).trans (fW _ _ _))
 refine fT (uv O (N:=ns.length) (ab hl (by decide)) (λi σ' ρ'=>∃n' tM row,Yn n0 σ0 S order n i n' tM row σ' ρ') (pR O (fV rfl (.l wY (ns.map V.int) rfl (.inl ((H₃.lz .iE 0).trans ((iC (nf rfl)).trans ((iC (nf rfl)).trans hn)))) ⟨by rw[ai],n₂,((S.iP .hV 0 (some (.list (iV order)))).iP .gi 0 (some (.list []))).pp,λZ=>[],⟨H₃,(iC (nf rfl)).trans i9,i9,λk hk=>absurd hk (bt _),λk Z=>(iC (nf rfl)).trans ((iC (nf rfl)).trans (hw k)),λx j h1 h2 Z=>(iC h2).trans (iC h1)⟩,le,⟨_,cu⟩,rfl,rfl,rfl⟩)))
  (λi σ₄ ρ₄ hi q=>q.elim λn₄ q=>q.elim λtM q=>q.elim λrow w=>?_) λσ' ρ' q=>q.elim λn' q=>q.elim λtM q=>q.elim λrow w=>?_)
 ·exact Jv O (m:=n) H.le o (ρ:=up ρ₄ .lS (some (.int (i:Int)))) ⟨w.w,w.le,w.c,w.R.q1,w.R.q2,w.R.q3⟩ hi rfl λn' σ' tM row ρ' w=>⟨n',tM,row,w⟩
 ·exact fT (iA (pX (fX (fV w.R.q3 (fX (fV w.R.q2 (fZ ⟨au rfl,h n' σ' tM order row hp w.w⟩)))))))
end
end
mutual
inductive Reach(P:jP)(ch:List Nat):Nat→Prop
 |base {k}:k∈ch→Reach P ch k
 |dep {k j}:Reach P ch k→j∈P.iv k→Reach P ch j
structure zq(P:jP):Prop where
 perm:P.order.Perm (az P.n)
 rk:∀k,P.rank k=P.order.idxOf k
section
variable{cx:Cx}{d:Nat}{γ:Nm→Option I}{ρ:Loc}{σ:Hp}{n0 n n' k i:Nat}{σ0 σ':Hp}{S:St}{P:jP}{ch:List Nat}{Q:V→Hp→Prop}
inductive QB(Q:V→Hp→Prop)(v:V)(σ:Hp):Prop
 |mk (r:I) (l:List Nat):v=.ref r→σ r=some (.list (iV l))→l.length<64→(∀l':List Nat,l'.Perm l→l'.Pairwise (· ≤ ·)→∃z,σ z=none∧Q (.ref z) (up σ z (some (.list (iV l')))))→QB Q v σ
theorem Nt(l:List Nat):(l.map λk:Nat=>(k:Int)).map V.int=iV l:=bB
theorem sW(O:gT cx){m:ME}(h:WE cx d m γ ρ σ (QB Q)):WE cx d (.bi .lR [m]) γ ρ σ Q:=
 Jl O (jv h λv σ' q=>q.casesOn λr l e hr hl q=>⟨r,l.map λk:Nat=>(k:Int),e,by rw[Nt];exact hr,by rw[ai];exact hl,λns hp hs=>have nl:=DT hp;by
  rw[nl.2,Nt]
  exact q _ nl.1 (dc _ (λa b Jj=>Int.toNat_le_toNat Jj) hs)⟩)
theorem zq.len(o:zq P):P.order.length=P.n:=o.perm.length_eq.trans aD
theorem zq.nd(o:zq P):P.order.Nodup:=o.perm.nodup_iff.mpr b6
theorem zq.mem(o:zq P){j:Nat}:j∈P.order↔j<P.n:=o.perm.mem_iff.trans aM
theorem DZ{l:List Nat}{j:Nat}(hn:l.Nodup)(e:l[j]?=some k):l.idxOf k=j:=
 bZ (w3 e) (b7 λlt=>List.pairwise_iff_getElem.mp hn (l.idxOf k) j (bk lt (mE e)) (mE e) lt ((cU _).trans (List.getElem?_eq_some_iff.mp e).2.symm))
theorem wA(o:zq P)(e:P.order.reverse[i]?=some k):k<P.n∧P.rank k+i+1=P.n:=by
 have hi:i<P.n:=by have l:=mE e;rw[dk,o.len]at l;exact l
 have e2:=e
 rw[List.getElem?_reverse (o.len.symm▸hi)]at e2
 refine⟨o.mem.mp (List.mem_reverse.mp (aE e)),?_⟩
 rw[o.rk,DZ o.nd e2,o.len,Nat.sub_sub,b0,bR i 1,Nat.sub_add_cancel (bR 1 i▸hi)]
theorem I3(o:zq P)(hk:k<P.n):P.rank k<P.n:=by
 rw[o.rk]
 exact eU (List.idxOf_lt_length_iff.mpr (o.mem.mpr hk)) o.len
theorem LF(o:zq P){j:Nat}(hj:j<P.n)(hk:k<P.n)(e:P.rank j=P.rank k):j=k:=by
 rw[o.rk,o.rk]at e
 have h1:=List.getElem?_eq_some_iff.mpr ⟨List.idxOf_lt_length_iff.mpr (o.mem.mpr hj),cU (List.idxOf_lt_length_iff.mpr (o.mem.mpr hj))⟩
 have h2:=List.getElem?_eq_some_iff.mpr ⟨List.idxOf_lt_length_iff.mpr (o.mem.mpr hk),cU (List.idxOf_lt_length_iff.mpr (o.mem.mpr hk))⟩
 exact Option.some.inj (h1.symm.trans (e▸h2))
structure Rp(P:jP)(ch:List Nat)(i:Nat)(R:List Nat):Prop where
 nd:R.Nodup
 cb:∀x∈ch,x∈R
 rc:∀x∈R,Reach P ch x∧x<P.n
 cl:∀k,k<P.n→P.n≤P.rank k+i→k∈R→∀y∈P.iv k,y∈R
def Ro(P:jP)(R:List Nat)(k j:Nat):Bool:=decide ((true,j)∈P.row k)&&!decide (j∈R)
def GF(P:jP)(R:List Nat)(k i:Nat):List Nat:=(az i).filter (Ro P R k)
theorem HN{R:List Nat}{j:Nat}:Ro P R k j=true↔j∈P.iv k∧j∉R:=by
 unfold Ro
 rw[c7,decide_eq_true_iff,Bool.not_eq_true',decide_eq_false_iff_not]
 exact and_congr_left λZ=>lU.symm
theorem xj{R:List Nat}{x:Nat}:x∈GF P R k i↔x<i∧x∈P.iv k∧x∉R:=List.mem_filter.trans (and_congr aM HN)
theorem Ou{R:List Nat}{j:Nat}(h:Ro P R k j=true):GF P R k (j+1)=GF P R k j++[j]:=by unfold GF;rw[bJ,dA,bO h];rfl
theorem Ts{R:List Nat}{j:Nat}(h:Ro P R k j=false):GF P R k (j+1)=GF P R k j:=by unfold GF;rw[bJ,dA,bN (by rw[h];exact aR)];exact aU _
theorem Hf(R:List Nat)(i:Nat):(GF P R k i).length≤i:=ab (cA _ _) (ay aD)
theorem Rp.or(o:zq P)(e:P.order.reverse[i]?=some k){k':Nat}(AU:k'<P.n)(h:P.n≤P.rank k'+(i+1)):k'=k∨P.n≤P.rank k'+i:=by
 have r:=wA o e
 have le:P.rank k≤P.rank k':=fS (b:=i+1) (r.2.symm▸h)
 exact(Nat.lt_or_eq_of_le le).elim (λlt=>.inr (ab (ay (r.2.symm.trans (dB (P.rank k) i 1))) (aX lt i))) λq=>.inl (LF o AU r.1 q.symm)
theorem Rp.yes(K:rG P)(o:zq P){R:List Nat}(w:Rp P ch i R)(e:P.order.reverse[i]?=some k)(hk:k∈R):Rp P ch (i+1) (R++GF P R k P.n):=
 have kn:=(wA o e).1
 ⟨List.nodup_append.mpr ⟨w.nd,b6.filter _,λa ha c hc q=>(xj.mp hc).2.2 (q▸ha)⟩,λx hx=>List.mem_append.mpr (.inl (w.cb x hx)),k9 w.rc λx q=>⟨.dep (w.rc k hk).1 (xj.mp q).2.1,(xj.mp q).1⟩,
  λk' AU hr m y hy=>(List.mem_append.mp m).elim (λm=>(Rp.or o e AU hr).elim (λq=>by
   rw[q]at hy
   by_cases yr:y∈R
   ·exact List.mem_append.mpr (.inl yr)
   ·exact List.mem_append.mpr (.inr (xj.mpr ⟨(K.dep k kn y hy).1,hy,yr⟩))) λq=>List.mem_append.mpr (.inl (w.cl k' AU q m y hy)))
   λm=>absurd (fS (b:=i+1) ((wA o e).2.symm▸hr)) (cQ (K.dep k kn k' (xj.mp m).2.1).2)⟩
theorem Rp.no(o:zq P){R:List Nat}(w:Rp P ch i R)(e:P.order.reverse[i]?=some k)(hk:k∉R):Rp P ch (i+1) R:=
 ⟨w.nd,w.cb,w.rc,λk' AU hr m=>(Rp.or o e AU hr).elim (λq=>absurd (q▸m) hk) λq=>w.cl k' AU q m⟩
theorem Rp.all(w:Rp P ch P.n R):k∈R↔Reach P ch k:=⟨λq=>(w.rc k q).1,λq=>q.rec (λm=>w.cb _ m) λZ hj ih=>w.cl _ (w.rc _ ih).2 (fF _ _) ih _ hj⟩
def gS(n:Nat):Nm→Option I:=lk [(.gi,.gq n),(.ji,.gq (n+1)),(.lS,.gq (n+2))]
structure Rc(n0:Nat)(σ0:Hp)(S:St)(P:jP)(ch:List Nat)(n i n' m:Nat)(R:List Nat)(σ:Hp):Prop where
 H:RK n0 σ0 S n' σ
 le:n+5≤n'
 lt:m<n'
 m3:∀j,j<3∨j=4→m≠n+j
 mn:n≤m
 e1:σ (.gq n)=some (.cell (some (.ref j1)))
 e2:σ (.gq (n+1))=some (.cell (some (.ref (.gq m))))
 e3:∃u,σ (.gq (n+2))=some (.cell u)
 e4:σ (.gq m)=some (.list (iV R))
 e5:σ (.gq (n+4))=some (.list (iV P.order.reverse))
 p:Rp P ch i R
theorem OH(O:gT cx)(K:rG P)(o:zq P)(rw_:RW P S){m:Nat}{R:List Nat}{QQ:Fl→Hp→Loc→Prop}(hn:n0≤n)(w:Rc n0 σ0 S P ch n i n' m R σ)(ei:P.order.reverse[i]?=some k)
  (h:∀σ' n' m R,Rc n0 σ0 S P ch n (i+1) n' m R σ'→QQ .next σ' ρ):WS cx d V1 (gS n) ρ (up σ (.gq (n+2)) (some (.cell (some (.int (k:Int)))))) QQ:=by
 have kn:=(wA o ei).1
 have H₄:=w.H.old (m:=n+2) (ab hn (aA _ _)) (ae (aH (by decide) n) w.le) (some (.cell (some (.int (k:Int)))))
 have f1:up σ (.gq (n+2)) (some (.cell (some (.int (k:Int))))) (.gq n)=some (.cell (some (.ref j1))):=j0 (p7 (j:=0) (by decide)) w.e1
 have f2:up σ (.gq (n+2)) (some (.cell (some (.int (k:Int))))) (.gq (n+1))=some (.cell (some (.ref (.gq m)))):=j0 (p7 (by decide)) w.e2
 have f3:up σ (.gq (n+2)) (some (.cell (some (.int (k:Int))))) (.gq (n+2))=some (.cell (some (.int (k:Int)))):=fW _ _ _
 have f4:up σ (.gq (n+2)) (some (.cell (some (.int (k:Int))))) (.gq m)=some (.list (iV R)):=j0 (w.m3 2 (.inl (by decide))) w.e4
 have f5:up σ (.gq (n+2)) (some (.cell (some (.int (k:Int))))) (.gq (n+4))=some (.list (iV P.order.reverse)):=j0 (Kf (by decide)) w.e5
 refine fT (gp (gv (gH (r:=.gq (n+2)) rfl f3 (gH (r:=.gq (n+1)) rfl f2 ⟨_,EC f4,?_⟩))))
 by_cases kr:k∈R
 ·rw[decide_eq_true kr]
  have n6:=K.n6
  have jn:∀{j},j<5→n+j≠n':=λh=>av (ae (aH h n) w.le)
  have UH:∀{j},j<5→n+j≠n'+1:=λh=>av (a5 (ae (aH h n) w.le))
  refine fT (lN rfl (KX (gH (r:=.gq (n+1)) rfl f2 (xw O (N:=P.n) (z:=.gq n') (ab n6 (by decide)) (λi l σ'=>l=iV (GF P R k i)∧σ'=up (up σ (.gq (n+2)) (some (.cell (some (.int (k:Int)))))) (.gq n') (some (.list l))) (λx hx=>?_) (pR O (gH (r:=.gq n) rfl f1 (.l _ _ rfl (.inl ((H₄.lz .gi 0).trans rw_.rows)) ⟨by rw[ai,aD],H₄.no,rfl,rfl⟩)))
   (λi l σ' q=>by rw[q.2,q.1];exact⟨fW _ _ _,ab (ay (ai ..)) (Hf R i)⟩) (λj l σ' hj q ρ'=>?_) λl σ' q=>?_))))
  ·exact(List.mem_cons.mp (show x∈[Nm.gi,.lS,.ji]from hx)).elim (λe=>⟨.gq n,by rw[e];rfl⟩) λm=>(List.mem_cons.mp m).elim (λe=>⟨.gq (n+2),by rw[e];rfl⟩) λm=>⟨.gq (n+1),by rw[ag.mp m];rfl⟩
  ·have j6:j<6:=ae hj n6
   have H₅:=H₄.new (some (.list l))
   rw[q.2]
   refine ju (gv (oz O j6 (by decide) (fV rfl ⟨rfl,jr (gH (r:=.gq n) rfl (j0 (jn (j:=0) (by decide)) f1) (gH (r:=.gq (n+2)) rfl (j0 (jn (by decide)) f3) ⟨_,wQ ((H₅.lz .gi 0).trans rw_.rows) kn,decide (jh (true,j)∈(P.row k).map jh),Hy ((H₅.lz .mq k).trans (rw_.row k kn)),?_⟩))⟩)))
   rw[decide_eq_decide.mpr (IB (f:=(true,j)) (K.rl k kn) j6)]
   have no:Ro P R k j=false→l=iV (GF P R k (j+1)):=λe=>by rw[Ts e];exact q.1
   by_cases m1:(true,j)∈P.row k
   ·rw[decide_eq_true m1]
    refine ju (gv (fV rfl (gH (r:=.gq (n+1)) rfl (j0 (jn (by decide)) f2) ⟨_,Hc (j0 (av w.lt) f4),?_⟩)))
    by_cases m2:j∈R
    ·rw[decide_eq_true m2]
     exact⟨no (by unfold Ro;rw[decide_eq_true m2];exact Bool.and_false _),rfl⟩
    ·rw[decide_eq_false m2]
     exact qL (fV rfl ⟨fW _ _ _,by rw[Ou (HN.mpr ⟨lU.mpr m1,m2⟩),←Dv,q.1],by rw[lD]⟩)
   ·rw[decide_eq_false m1]
    exact⟨no (by unfold Ro;rw[decide_eq_false m1];rfl),rfl⟩
  ·have H₅:=H₄.new (some (.list (iV (GF P R k P.n))))
   have len:(iV R).length+(iV (GF P R k P.n)).length≤100000:=by
    rw[iV,iV,ai,ai]
    exact ab (bz (zO n6 w.p.nd λx hx=>(w.p.rc x hx).2) (ab (Hf R _) n6)) (by decide)
   rw[q.2,q.1]
   refine⟨_,_,_,_,.gq (n'+1),rfl,rfl,j0 (av w.lt) f4,fW _ _ _,len,H₅.no,.gq (n+1),some (.ref (.gq m)),rfl,j0 (UH (by decide)) (j0 (jn (by decide)) f2),?_⟩
   rw[show iV R++iV (GF P R k P.n)=iV (R++GF P R k P.n)from ar.symm]
   exact fY (fY (h _ (n'+2) (n'+1) _ ⟨(H₅.new _).old (m:=n+1) (ab hn (aT _)) (ae (aH (by decide) n) (ab w.le (aA n' 2))) _,ab w.le (aA n' 2),ak _,λj hj=>(UH (hj.elim (λh=>bk h (by decide)) λh=>h▸by decide)).symm,ab (aA n 5) (ab w.le (aT _)),
    j0 (p7 (j:=0) (by decide)) (j0 (UH (j:=0) (by decide)) (j0 (jn (j:=0) (by decide)) f1)),fW _ _ _,⟨_,j0 (Kf (by decide)) (j0 (UH (by decide)) (j0 (jn (by decide)) f3))⟩,j0 (UH (by decide)).symm (fW _ _ _),j0 (Kf (by decide)) (j0 (UH (by decide)) (j0 (jn (by decide)) f5)),w.p.yes K o ei kr⟩))
 ·rw[decide_eq_false kr]
  exact fY (fY (h _ n' m R ⟨H₄,w.le,w.lt,w.m3,w.mn,f1,f2,⟨_,f3⟩,f4,f5,w.p.no o ei kr⟩))
theorem zR(O:gT cx)(K:rG P)(o:zq P)(H:RK n0 σ0 S n σ)(rw_:RW P S)(YV:S.pp .hV 0=some (.list (iV P.order))){x:Nm}{j:Nat}(XW:S.pp x j=some (.list (iV ch)))(Gq:∀k∈ch,k<P.n)(Xq:ch.Nodup)
  (h:∀n' σ' m Rs,RK n0 σ0 S n' σ'→n≤m→m<n'→σ' (.gq m)=some (.list (iV Rs))→Rs.Nodup→Rs.Pairwise (· ≤ ·)→(∀k,k∈Rs↔Reach P ch k)→Q (.ref (.gq m)) σ'):WC cx (d+1) .rX [.ref j1,.ref oj,.ref (.p x j)] σ Q:=by
 have ne:∀{i j:Nat},i<j→I.gq (n+i)≠.gq (n+j):=λh=>pI (p7 h)
 have H₁:=((H.new (some (.cell (some (.ref j1))))).new (some (.cell none))).new (some (.cell none))
 refine uT O [(.gi,.gq n),(.ji,.gq (n+1)),(.lS,.gq (n+2))] rfl
  (List.nodup_cons.mpr ⟨λm=>(List.mem_cons.mp m).elim (ne (i:=0) (by decide)) λm=>ne (i:=0) (j:=2) (by decide) (ag.mp m),List.nodup_cons.mpr ⟨λm=>ne (i:=1) (j:=2) (by decide) (ag.mp m),List.nodup_cons.mpr ⟨aj,.nil⟩⟩⟩)
  (λr m=>(List.mem_cons.mp m).elim (λe=>e▸H.no) λm=>(List.mem_cons.mp m).elim (λe=>e▸H.free _ (aA _ _)) λm=>ag.mp m▸H.free _ (aA _ _)) ?_
 refine fT (lN rfl (qu O (fV rfl ⟨_,_,.gq (n+3),rfl,(H₁.lz x j).trans XW,H₁.no,.gq (n+1),none,rfl,j0 (p7 (j:=1) (i:=3) (by decide)) (j0 (p7 (j:=1) (i:=2) (by decide)) (fW _ _ _)),?_⟩)))
 have H₂:=(H₁.new (some (.list (iV ch)))).old (m:=n+1) (ab H.le (aT _)) (aH (show 1<4 by decide) n) (some (.cell (some (.ref (.gq (n+3))))))
 refine fT (jO (f:=λk:Nat=>V.int (k:Int)) (l:=P.order.reverse) (r:=.gq (n+4)) rfl (λi σ' ρ'=>∃n' m R,Rc n0 σ0 S P ch n i n' m R σ')
  (TN (fV rfl ⟨_,_,.gq (n+4),rfl,(H₂.lz .hV 0).trans YV,H₂.no,rfl,n+5,n+3,ch,H₂.new _,aL _,aH (by decide) n,λj hj=>hj.elim (λh=>Kf h) λh=>h▸p7 (by decide),aA _ _,?_,?_,⟨none,?_⟩,?_,?_,Xq,λx hx=>hx,λx hx=>⟨.base hx,Gq x hx⟩,λk hk hr=>absurd hr (cQ (I3 o hk))⟩))
  (λi σ' ρ' q=>q.elim λn' q=>q.elim λm q=>q.elim λR w=>w.e5) (λi k σ₃ ρ₃ e q=>q.elim λn₃ q=>q.elim λm q=>q.elim λR w=>w.e3.elim λu e3=>⟨.gq (n+2),u,rfl,e3,OH O K o rw_ H.le w e λσ' n' m R w'=>⟨n',m,R,w'⟩⟩)
  λσ₃ ρ₃ q=>q.elim λn₃ q=>q.elim λm q=>q.elim λR w=>?_)
 ·exact j0 (p7 (j:=0) (by decide)) (j0 (p7 (j:=0) (by decide)) (j0 (p7 (j:=0) (by decide)) (j0 (p7 (j:=0) (by decide)) (j0 (p7 (j:=0) (by decide)) (fW _ _ _)))))
 ·exact j0 (p7 (by decide)) (fW _ _ _)
 ·exact j0 (p7 (by decide)) (j0 (Kf (by decide)) (j0 (p7 (by decide)) (fW _ _ _)))
 ·exact j0 (p7 (by decide)) (j0 (Kf (by decide)) (fW _ _ _))
 ·exact(fW _ _ _).trans (congrArg (λl=>some (Mine.O.list l)) (List.map_reverse.symm))
 ·have p:=w.p
  rw[dk,o.len]at p
  exact fT (iA (sW O (gH (r:=.gq (n+1)) rfl w.e2 ⟨_,R,rfl,w.e4,ao (zO K.n6 p.nd λx hx=>(p.rc x hx).2) (by decide),λl' hp hs=>⟨.gq n₃,w.H.no,h (n₃+1) _ n₃ l' (w.H.new _) (ab (aA n 5) w.le) (ak _) (fW _ _ _) (hp.nodup_iff.mpr p.nd) hs λk=>hp.mem_iff.trans p.all⟩⟩)))
end
end
mutual
def XC(n:Nat)(row:Nat→List lO)(order:List Nat):jP:=⟨n,row,order,λk=>order.idxOf k⟩
theorem Fc{l:List Nat}{j r:Nat}(h:j∈l.take r):l.idxOf j<r:=(List.mem_take_iff_getElem.mp h).elim λi q=>q.elim λhi e=>
 ao (w3 (List.getElem?_eq_some_iff.mpr ⟨ae hi (a8 _ _),e⟩)) (ae hi (bp _ _))
def pick(c:Bool)(l:List lO):List Nat:=l.filterMap λf=>if f.1=c then some f.2 else none
theorem xN{c:Bool}{f:lO}{j:Nat}(e:(if f.1=c then some f.2 else none)=some j):f=(c,j):=by
 by_cases q:f.1=c
 ·rw[if_pos q]at e;exact cH q (Option.some.inj e)
 ·rw[if_neg q]at e;exact nn e
theorem y9{c:Bool}{l:List lO}{j:Nat}(h:j∈pick c l):(c,j)∈l:=(List.mem_filterMap.mp h).elim λf w=>xN w.2▸w.1
theorem yK{c:Bool}{l:List lO}(h:l.Nodup):(pick c l).Nodup:=
 List.Pairwise.filterMap (S:=(· ≠ ·)) _ (λa a' (n:a≠a') b e b' e' (q:b=b')=>n ((xN e).trans (q▸(xN e').symm))) h
theorem Mr(a:Str)(l:List Str):Me (a::l)=(a.length+1)+Me l:=by
 unfold Me
 rw[bT,List.sum_cons,c8,bR l.length 1]
 exact Nat.add_add_add_comm _ _ _ _
theorem sum_bound{v:lO→Str}{M:Nat}:∀l:List lO,(∀f∈l,f.1=false→(v f).length+1≤2)→(∀f∈l,f.1=true→(v f).length+1≤M)→Me (l.map v)≤2*(pick false l).length+M*(pick true l).length
 |[],_,_=>aw _
 |f::l,h1,h2=>by
  have ih:=sum_bound l (λf hf=>h1 f (.tail _ hf)) λf hf=>h2 f (.tail _ hf)
  rw[bT,Mr]
  cases e:f.1 with
  |true=>
   have e1:pick false (f::l)=pick false l:=dK (if_neg (e▸aR))
   have e2:pick true (f::l)=f.2::pick true l:=dJ (if_pos e)
   rw[e1,e2,c8,Nat.mul_add_one,←b0,bR _ M]
   exact bz (h2 f (.head _) e) ih
  |false=>
   have e1:pick false (f::l)=f.2::pick false l:=dJ (if_pos e)
   have e2:pick true (f::l)=pick true l:=dK (if_neg (e▸aR))
   rw[e1,e2,c8,Nat.mul_add_one,bR (2*_) 2]
   exact ab (bz (h1 f (.head _) e) ih) (ay (b0 _ _ _).symm)
theorem Su{l:List lO}(hn:l.Nodup)(h3:(pick false l).length≤3)(h6:(pick true l).length≤6):l.length≤100:=
 ab (ab (ab (ay (ai ..).symm) (fF _ _)) (sum_bound (v:=λZ=>⟨#[]⟩) (M:=1) l (λZ Z Z=>by decide) λZ Z Z=>by decide)) (ab (bz (bo 2 h3) (bo 1 h6)) (by decide))
section
variable{n:Nat}{row:Nat→List lO}{order:List Nat}
theorem Vd(h1:1≤n)(h6:n≤6)(hp:order.Perm (az n))(hr:∀k,k<n→Fd order k (row k)):rG (XC n row order)∧zq (XC n row order):=
 have dep:∀k,k<n→∀j,(true,j)∈row k→j<n∧order.idxOf j<order.idxOf k:=λk hk j hj=>
  have t:=(hr k hk).out _ hj rfl
  ⟨aM.mp (hp.mem_iff.mp (br t)),Fc t⟩
 ⟨⟨⟨h1,h6,λk hk j hj=>dep k hk j (lU.mp hj),λk hk=>yK (c:=true) (hr k hk).nd⟩,λk hk=>(hr k hk).ne,λk hk=>(hr k hk).nd,λk hk f hf=>by
  cases e:f.1 with
  |true=>exact ae (dep k hk f.2 ((cH e rfl:f=(true,f.2))▸hf)).1 h6
  |false=>exact ae ((hr k hk).src f hf e) (by decide),λk hk=>Su (hr k hk).nd (i4 (yK (hr k hk).nd) λx hx=>(hr k hk).src _ (y9 hx) rfl) (ab (i4 (yK (hr k hk).nd) λx hx=>(dep k hk x (y9 hx)).1) h6),λk hk f hf e=>(hr k hk).src f hf e⟩,⟨hp,λZ=>rfl⟩⟩
end
end
mutual
section
variable{P:jP}
def Tx(P:jP):Nat→Nat→Str
 |0,_=>⟨#[]⟩
 |m+1,k=>txt k ((P.row k).map (nB (Tx P m)))
theorem xo{f:lO}(e:f.1=true):f=(true,f.2):=cH e rfl
theorem Gh{T T':Nat→Str}{l:List lO}(h:∀j,(true,j)∈l→T j=T' j):l.map (nB T)=l.map (nB T'):=cT λf hf=>by
 unfold nB
 by_cases e:f.1=true
 ·rw[if_pos e,if_pos e]
  exact h f.2 (xo e▸hf)
 ·rw[if_neg e,if_neg e]
theorem B1(K:POk P):∀(m m' k:Nat),k<P.n→P.rank k<m→P.rank k<m'→Tx P m k=Tx P m' k
 |0,_,_,_,h,_=>absurd h (bt _)
 |_+1,0,_,_,_,h=>absurd h (bt _)
 |m+1,m'+1,k,hk,h1,h2=>congrArg (txt k) (Gh λj hj=>
  have w:=K.dep k hk j (lU.mpr hj)
  B1 K m m' j w.1 (ae w.2 (bH h1)) (ae w.2 (bH h2)))
def cB:Nat→Nat
 |0=>0
 |m+1=>10+5*cB m
theorem L5(K:rG P){T:Nat→Str}(E:∀k,k<P.n→T k=txt k ((P.row k).map (nB T))):∀m k,k<P.n→P.rank k<m→Me ((P.row k).map (nB T))+4≤cB m
 |0,_,_,h=>absurd h (bt _)
 |m+1,k,hk,h=>by
  have s3:(pick false (P.row k)).length≤3:=i4 (yK (K.U7 k hk)) λx hx=>K.rs k hk _ (y9 hx) rfl
  have t5:(pick true (P.row k)).length+1≤6:=ab (i4 (l:=k::P.iv k) (List.nodup_cons.mpr ⟨λq=>a7 _ (K.dep k hk k q).2,K.dnd k hk⟩) λx hx=>(List.mem_cons.mp hx).elim (λe=>e▸hk) λq=>(K.dep k hk x q).1) K.n6
  have b:=sum_bound (v:=nB T) (M:=cB m) (P.row k) (λf hf e=>by unfold nB;rw[e];exact aL 2) λf hf e=>by
   have w:=K.dep k hk f.2 (lU.mpr (xo e▸hf))
   rw[show nB T f=T f.2 from if_pos e,E f.2 w.1]
   exact ab (bl (Hx (ae w.1 K.n6) _)) (L5 K E m f.2 w.1 (ae w.2 (bH h)))
  exact ab (aX (ab b (bz (bo 2 s3) (bo (cB m) (Nat.le_of_succ_le_succ t5)))) 4) (ay (by rw[Nat.mul_comm (cB m),dB];rfl))
theorem QM(K:rG P)(o:zq P):UN P (Tx P 6):=
 have r6:∀k,k<P.n→P.rank k<6:=λk hk=>ae (I3 o hk) K.n6
 have E:∀k,k<P.n→Tx P 6 k=txt k ((P.row k).map (nB (Tx P 6))):=λk hk=>B1 K.toPOk 6 7 k hk (r6 k hk) (a5 (r6 k hk))
 ⟨E,λk hk=>ab (ab (aA _ 4) (L5 K E 6 k hk (r6 k hk))) (au rfl)⟩
theorem x7{l l':List Nat}(h:l.Pairwise (· ≤ ·))(hn:l.Nodup)(h':l'.Pairwise (· ≤ ·))(A9:l'.Nodup)(hm:∀x,x∈l↔x∈l'):l=l':=
 List.Perm.eq_of_pairwise (λa b Z Z=>bZ) h h' ((List.perm_ext_iff_of_nodup hn A9).mpr hm)
end
end
mutual
section
variable{cx:Cx}{d:Nat}{γ:Nm→Option I}{ρ:Loc}{σ:Hp}{Q:V→Hp→Prop}
theorem JG{v:V}(h:isAtom v=true):i5 v v=true:=by
 cases v with
 |none=>rfl
 |int i=>exact beq_self_eq_true i
 |str x=>exact beq_self_eq_true x
 |_=>exact bf h
theorem Em{l:List V}(h:l.all isAtom=true):Cz l l=true:=by
 unfold Cz
 rw[beq_self_eq_true,Bool.true_and]
 exact List.all_eq_true.mpr λj hj=>by
  unfold Ef
  rw[aG (aM.mp hj)]
  exact JG (List.all_eq_true.mp h _ (ff _))
theorem ID{p q:I}{l:List V}(hp:σ p=some (.list l))(hq:σ q=some (.list l))(h:l.all isAtom=true):UO σ (.ref p) (.ref q)=some true:=by
 show WV (σ p) (σ q)=_
 rw[hp,hq]
 exact(if_pos (by rw[h];rfl)).trans (congrArg some (Em h))
theorem xh{p q:I}{l:List V}(hp:σ p=some (.list l))(hq:σ q=some (.list l))(h:l.all isAtom=true):rZ σ .NotEq (.ref p) (.ref q)=some false:=congrArg (bh (!·)) (ID hp hq h)
theorem vS{x y:Str}{b:Bool}(h:(x==y)=b):rZ σ .Eq (.str x) (.str y)=some b:=congrArg some h
def kS(σ:Hp)(r z:I)(D:List (Str×V))(ob:Obj):Hp:=up (up σ r (some (.nD D ob))) z (some (.list []))
inductive Zu(r z:I)(D:List (Str×V))(σ:Hp)(src:Src)(z':I)(i:Nat)(σ':Hp):Prop
 |mk (ob:Obj):src=.keys r D ob→z'=z→i≤D.length→σ'=kS σ r z D ob→Zu r z D σ src z' i σ'
def KNo(σ':Hp)(b:Bool)(σ₂:Hp):Prop:=b=false∧σ₂=σ'
theorem Uc{r z:I}{D:List (Str×V)}{ob:Obj}(UX:r≠z)(hr:σ r=some (.dict D)):up (kS σ r z D ob) r (some (.dict D))=up σ z (some (.list [])):=funext λx=>by
 by_cases e:x=r
 ·rw[e,fW,gD _ _ UX,hr]
 ·rw[gD _ _ e]
  exact LO (gD _ _ e)
theorem Kd{m:ME}{x:Nm}{e:ME}{ms:List ME}{r z:I}{D:List (Str×V)}(he:uD e=false)(hγ:∀x∈kE m++jD ms,∃r,γ x=some r)(UX:r≠z)(hD:D.length≤1000)(hz:σ z=none)(hr:σ r=some (.dict D))
  (h:∀{Q:V→Hp→Prop},Q (.ref r) σ→WE cx d e γ ρ σ Q)
  (step:∀p∈D,∀ob ρ',Al cx d ms (qK γ (kE m++jD ms)) (up ρ' x (some (.str p.1))) (kS σ r z D ob) (KNo (kS σ r z D ob)))
  (fin:Q (.ref z) (up σ z (some (.list [])))):WE cx d (.comp m (.one (.var x)) e ms) γ ρ σ Q:=
 we he (Zu r z D σ) D.length hγ (OV (h ⟨r,D,rfl,hr,λob=>⟨trivial,trivial,z,sk UX.symm hz,ob,rfl,rfl,aw _,rfl⟩⟩)) λsrc z' i σ' q=>q.casesOn λob e1 e2 hi e3=>by
  subst e1
  subst e2
  subst e3
  refine⟨hi,(gD _ _ UX).trans (fW _ _ _),He (fW _ _ _),?_⟩
  rw[show pY (kS σ r z' D ob) (.keys r D ob) i=(D[i]?).map λp=>.str p.1 from rfl]
  cases ea:D[i]? with
  |some p=>
   exactλρ'=>Ab (step p (aE ea) ob ρ') λok σ₃ w=>by
    rw[w.1,w.2]
    exact⟨ob,rfl,rfl,mE ea,rfl⟩
  |none=>
   show Q (.ref z') (up (kS σ r z' D ob) r (some (.dict D)))
   rw[Uc UX hr]
   exact fin
theorem KP(a b:Nat):((a:Int)).fdiv (b:Int)=((a/b:Nat):Int):=Int.fdiv_eq_ediv_of_nonneg _ (bj b)
theorem MN(a b:Nat):((a:Int)).fmod (b:Int)=((a % b:Nat):Int):=Int.fmod_eq_emod_of_nonneg _ (bj b)
theorem Hw{a b:Nat}(h0:0<b)(h:b≤1000):El .FloorDiv (.int a) (.int b)=some (.int ((a/b:Nat):Int)):=
 (if_pos ⟨λe=>absurd (Int.ofNat.inj e) (bx h0),h⟩:(if (b:Int)≠0∧(b:Int).natAbs≤1000 then some (V.int ((a:Int).fdiv b))else none)=_).trans (congrArg (λi=>some (V.int i)) (KP a b))
theorem Dp{a b:Nat}(h0:0<b):El .Mod (.int a) (.int b)=some (.int ((a % b:Nat):Int)):=
 (if_pos (λe=>absurd (Int.ofNat.inj e) (bx h0)):(if (b:Int)≠0 then some (V.int ((a:Int).fmod b))else none)=_).trans (congrArg (λi=>some (V.int i)) (MN a b))
end
end
mutual
def gl:Nm→Option I:=lk [(.gF,.p .gU 1),(.ji,.p .gU 2),(.j3,.p .gU 3)]
def y8(P:jP)(cnt:Nat→Nat):List V:=(az P.n).map λk=>.int ((1+cnt k:Nat):Int)
def Th(ts:Bool):V:=.tup [.ref kz,.ref UC,.int (Us ts),.ref v5,.ref qT,.ref yg]
def UA(x:Nm):Bool:=(lk [(.gF,()),(.oD,()),(.iO,()),(.gi,()),(.mq,()),(.gZ,()),(.jF,()),(.kb,())] x).isSome
def Zx(x:Nm):Bool:=(lk [(.h9,()),(.hV,()),(.iW,()),(.hH,()),(.j3,())] x).isSome
structure Lb where
 P:jP
 ts:Bool
 T:Nat→Str
 num:List Int
 xU:Option O
 n0:Nat
 σ0:Hp
structure Mm(B:Lb)(S:St):Prop where
 ev:S.pp .h9 0=some (.list (iV (az B.P.n)))
 ord:S.pp .hV 0=some (.list (iV B.P.order))
 num:S.pp .iW 0=some (.list (B.num.map V.int))
 xU:S.pp .hH 0=B.xU
 hl:S.pp .j3 0=none
structure Cs(S:St):Prop where
 c1:S.pp .gU 1=some (.cell (some (.ref kz)))
 c2:∃u,S.pp .gU 2=some (.cell u)
 c3:S.pp .gU 3=some (.cell none)
def Fr(i:Nat)(S:St):Prop:=∀j,i≤j→S.pp .i7 j=none∧S.pp .je j=none
structure AO(B:Lb)(i:Nat)(S:St)(w:Fs)(sv:List Nat)(cnt cd:Nat→Nat)(wl:Nat):Prop where
 li:LI B.P S B.ts B.T w sv cnt wl
 vf:∀b k,S.b<b→S.vv b k=false
 G6:S.pp .mV 0=some (.list (y8 B.P cd))
 mm:Mm B S
 cs:Cs S
 fr:Fr i S
structure Cu(ts:Bool)(ρ:Loc):Prop where
 state:ρ .kZ=some (Th ts)
 rows:ρ .gi=some (.ref j1)
 order:ρ .hV=some (.ref oj)
 ev:ρ .h9=some (.ref (.p .h9 0))
 G6:ρ .mV=some (.ref (.p .mV 0))
 saved:ρ .gZ=some (.ref qT)
 runs:ρ .kb=some (.ref yg)
inductive Iu(B:Lb)(i wl:Nat)(a:Bool)(σ:Hp)(ρ:Loc):Prop
 |mk (n:Nat) (S:St) (w:Fs) (sv:List Nat) (cnt:Nat→Nat):RK B.n0 B.σ0 S n σ→AO B i S w sv cnt cnt wl→Cu B.ts ρ→(a=true→∀k,k<B.P.n→k∈sv)→Iu B i wl a σ ρ
section
variable{P:jP}{S S':St}{ts:Bool}{w:Fs}{sv:List Nat}{T:Nat→Str}{cnt cd:Nat→Nat}{wl i i' j:Nat}{B:Lb}{x:Nm}{o:Option O}
theorem kp{p:Nm→Bool}(hx:p x=false):∀y,p y=true→∀l,(S.iP x i o).pp y l=S.pp y l:=λy hy l=>iC λe=>bf (hx.symm.trans (e▸hy))
theorem PP.keep(h:PP P S ts w sv)(e2:S'.vv=S.vv)(k:∀x,UA x=true→∀l,S'.pp x l=S.pp x l):PP P S' ts w sv:=
 ⟨h.wd.elim λW q=>⟨W,(k .gF rfl 0).trans q.1,q.2⟩,(k .oD rfl 0).trans h.db,h.sl,h.sn,λj hj=>(h.en j hj).elim λE e=>⟨E,(k .iO rfl j).trans e.1,e.2.of e2⟩,λj hj=>(k .iO rfl j).trans (h.no j hj)⟩
theorem LI.keep(h:LI P S ts T w sv cnt wl)(e2:S'.vv=S.vv)(k:∀x,UA x=true→∀l,S'.pp x l=S.pp x l):LI P S' ts T w sv cnt wl:=
 ⟨h.pp.keep e2 k,⟨(k .gi rfl 0).trans h.rw.rows,λj hj=>(k .mq rfl j).trans (h.rw.row j hj)⟩,h.wl.elim λW q=>⟨W,(k .gF rfl 0).trans q.1,q.2⟩,h.src,h.out,h.cl,(k .gZ rfl 0).trans h.sd,h.ck.elim λc e=>⟨c,(k .jF rfl 0).trans e⟩,(k .kb rfl 0).trans h.rn⟩
theorem Mm.keep(h:Mm B S)(k:∀x,Zx x=true→∀l,S'.pp x l=S.pp x l):Mm B S':=⟨(k .h9 rfl 0).trans h.ev,(k .hV rfl 0).trans h.ord,(k .iW rfl 0).trans h.num,(k .hH rfl 0).trans h.xU,(k .j3 rfl 0).trans h.hl⟩
theorem Cs.keep(h:Cs S)(k:∀l,S'.pp .gU l=S.pp .gU l):Cs S':=⟨(k 1).trans h.c1,h.c2.elim λu e=>⟨u,(k 2).trans e⟩,(k 3).trans h.c3⟩
theorem Fr.set(h:Fr i S)(hj:j<i):Fr i (S.iP x j o):=λl hl=>have n:l≠j:=bx (ae hj hl);⟨(vJ n).trans (h l hl).1,(vJ n).trans (h l hl).2⟩
theorem Fr.Hm(h:Fr i S)(h1:.i7≠x)(h2:.je≠x):Fr i (S.iP x j o):=λl hl=>⟨(iC h1).trans (h l hl).1,(iC h2).trans (h l hl).2⟩
theorem AO.step(h:AO B i S w sv cnt cd wl):AO B (i+1) S w sv cnt cd wl:=⟨h.li,h.vf,h.G6,h.mm,h.cs,λj hj=>h.fr j (bP hj)⟩
theorem AO.Wo(h:AO B i S w sv cnt cd wl)(hj:j<i)(h1:UA x=false)(h2:Zx x=false)(h3:.mV≠x)(h4:.gU≠x):AO B i (S.iP x j o) w sv cnt cd wl:=
 ⟨h.li.keep rfl (kp h1),h.vf,(iC h3).trans h.G6,h.mm.keep (kp h2),h.cs.keep λl=>iC h4,h.fr.set hj⟩
theorem AO.Yx(h:AO B i S w sv cnt cd wl)(u:Option V):AO B i (S.iP .gU 2 (some (.cell u))) w sv cnt cd wl:=
 ⟨h.li.keep rfl (kp rfl),h.vf,(iC (nf rfl)).trans h.G6,h.mm.keep (kp rfl),⟨(vJ (by decide)).trans h.cs.c1,⟨u,i9⟩,(vJ (by decide)).trans h.cs.c3⟩,h.fr.Hm (nf rfl) (nf rfl)⟩
theorem AO.jq{ZZ:Nat→Nat}(h:AO B i S w sv cnt cd wl):AO B i (S.iP .mV 0 (some (.list (y8 B.P ZZ)))) w sv cnt ZZ wl:=
 ⟨h.li.keep rfl (kp rfl),h.vf,i9,h.mm.keep (kp rfl),h.cs.keep λl=>iC (nf rfl),h.fr.Hm (nf rfl) (nf rfl)⟩
theorem AO.next{w':Fs}{Fy:List Nat}{pN:Nat→Nat}{Kh:Nat}(h:AO B i S w sv cnt cd wl)(hb:S'.b=S.b+1)(hv:S'.vv=vvN B.P S)(po:∀x j,x≠.gF→x≠.oD→x≠.iO→x≠.gZ→x≠.jF→x≠.kb→S'.pp x j=S.pp x j)(li':LI B.P S' B.ts B.T w' Fy pN Kh):AO B i S' w' Fy pN cd Kh:=
 have k:∀x,UA x=false→∀l,S'.pp x l=S.pp x l:=λx hx l=>po x l (λe=>bf (hx.symm.trans (e▸rfl))) (λe=>bf (hx.symm.trans (e▸rfl))) (λe=>bf (hx.symm.trans (e▸rfl))) (λe=>bf (hx.symm.trans (e▸rfl))) (λe=>bf (hx.symm.trans (e▸rfl))) λe=>bf (hx.symm.trans (e▸rfl))
 ⟨li',λb c XN=>by
  rw[hb]at XN
  rw[hv]
  exact(if_neg λe=>bx XN e.1).trans (h.vf b c (Nat.lt_of_succ_lt XN)),(k .mV rfl 0).trans h.G6,⟨(k .h9 rfl 0).trans h.mm.ev,(k .hV rfl 0).trans h.mm.ord,(k .iW rfl 0).trans h.mm.num,(k .hH rfl 0).trans h.mm.xU,(k .j3 rfl 0).trans h.mm.hl⟩,h.cs.keep (k .gU rfl),λl hl=>⟨(k .i7 rfl l).trans (h.fr l hl).1,(k .je rfl l).trans (h.fr l hl).2⟩⟩
theorem MV:(y8 P cnt).all isAtom=true:=List.all_eq_true.mpr λx hx=>(List.mem_map.mp hx).elim λk e=>e.2▸rfl
theorem Ml{k:Nat}(hk:k<P.n):(y8 P cnt).set k (.int (((1+cnt k:Nat):Int)+1))=y8 P (rP cnt k):=eY λi=>by
 unfold y8
 rw[List.getElem?_set,aQ,aQ]
 by_cases e:k=i
 ·rw[if_pos e,←e,ai,aD,if_pos hk,cS hk]
  exact congrArg (λz:Nat=>some (V.int ((1+z:Nat):Int))) (show cnt k+1=rP cnt k k from(if_pos rfl).symm)
 ·rw[if_neg e]
  by_cases l:i<P.n
  ·rw[cS l]
   exact congrArg (λz:Nat=>some (V.int ((1+z:Nat):Int))) (show cnt i=rP cnt k i from(if_neg (Ne.symm e)).symm)
  ·rw[bW (ab (ay aD) (b7 l))];rfl
end
end
mutual
inductive Alt(P:jP)(ch seen:List Nat)(cd cnt:Nat→Nat)(told:Str)(ke:V):Prop
 |whole:told=aa "whole"→ke=.int 0→cnt=cd→(∀k,Reach P ch k→k∈seen)→Alt P ch seen cd cnt told ke
 |cut:told=aa "cut"→ke=.none→cnt=cd→Alt P ch seen cd cnt told ke
 |at_ (k:Nat):told=aa "cut"→k<P.n→ke=.int (k:Int)→cnt=rP cd k→Alt P ch seen cd cnt told ke
structure Tf(P:jP)(ch Rs tX sv seen:List Nat):Prop where
 ext:∃l,sv=tX++l
 sn:seen.Nodup
 sr:∀k∈seen,Reach P ch k∧k<P.n
 zn:Rs.Nodup
 zs:Rs.Pairwise (· ≤ ·)
 zr:∀k,k∈Rs↔Reach P ch k
structure Tl(B:Lb)(i m:Nat)(Rs tX seen:List Nat)(n:Nat)(σ:Hp)(S:St)(w:Fs)(sv:List Nat)(cnt cd:Nat→Nat)(wl:Nat):Prop where
 H:RK B.n0 B.σ0 S n σ
 L:AO B (i+1) S w sv cnt cd wl
 lt:m<n
 cr:σ (.p .gU 2)=some (.cell (some (.ref (.gq m))))
 rs:σ (.gq m)=some (.list (iV Rs))
 bf:S.pp .je i=some (.list (iV tX))
 se:S.bb .hJ=some (.list (iV seen))
structure LT(B:Lb)(i b:Nat)(told:Str)(ke:V)(ρ:Loc):Prop where
 lr:Cu B.ts ρ
 bf:ρ .je=some (.ref (.p .je i))
 told:ρ .uy=some (.str told)
 seen:ρ .hJ=some (.ref (.u b .hJ))
 ke:ρ .tv=some ke
section
variable{cx:Cx}{d:Nat}{ρ:Loc}{σ:Hp}{n k i m:Nat}{B:Lb}{S:St}{w:Fs}{sv tX seen ch Rs:List Nat}{cnt cd:Nat→Nat}{wl:Nat}{told:Str}{ke:V}{Q:V→Hp→Prop}{QQ:Fl→Hp→Loc→Prop}{ms:List MS}
theorem Tl.new(t:Tl B i m Rs tX seen n σ S w sv cnt cd wl)(o:Option O):Tl B i m Rs tX seen (n+1) (up σ (.gq n) o) S w sv cnt cd wl:=
 ⟨t.H.new o,t.L,a5 t.lt,sk (nf rfl) t.cr,j0 (av t.lt) t.rs,t.bf,t.se⟩
theorem Tl.W7(t:Tl B i m Rs tX seen n σ S w sv cnt cd wl):σ (.u S.b .hJ)=some (.list (iV seen)):=(t.H.lh .hJ).trans t.se
theorem T5(l:List Nat):(iV l).length=l.length:=ai ..
theorem OE(O:gT cx){s z r:I}{l Rs:List Nat}(hl:l.length≤1000)(hs:σ s=some (.list (iV l)))(hc:σ (.p .gU 2)=some (.cell (some (.ref r))))(hr:σ r=some (.list (iV Rs)))(hz:σ z=none)(hzs:s≠z)(XI:r≠z)(hzc:.p .gU 2≠z)(hm:∀x∈l,x∈Rs)(h1:ρ .hJ=some (.ref s))(h:Q (.ref z) (up σ z (some (.list [])))):
  WE cx d (.comp (.var .lS) (.one (.var .lS)) (.var .hJ) [(.cmp .NotIn (.var .lS) (.iN .ji))]) gl ρ σ Q:=
 uW (src:=l) (f:=λk:Nat=>V.int (k:Int)) (r:=s) (z:=z) rfl hl (λi l' σ'=>l'=[]∧σ'=up σ z (some (.list []))) (λx hx=>⟨.p .gU 2,by rw[ag.mp (show x∈[Nm.ji]from hx)];rfl⟩) (fV h1 ⟨rfl,hs,hz,rfl,rfl⟩)
  (λi l' σ' q=>by rw[q.1,q.2];exact⟨fW _ _ _,aw _,sk hzs hs⟩)
  (λi x l' σ' e q ρ'=>by
   rw[q.1,q.2]
   refine gv (fV rfl (gH (r:=.p .gU 2) rfl (sk hzc hc) ⟨false,(Hc (k:=x) (sk XI hr)).trans ?_,rfl,rfl⟩))
   rw[decide_eq_true (hm x (aE e))]
   rfl) λl' σ' q=>q.2▸h
theorem VT(O:gT cx)(h6:B.P.n≤6)(f:Tf B.P ch Rs tX sv seen)(t:Tl B i m Rs tX seen n σ S w sv cnt cd wl)(l:LT B i S.b told ke ρ)(tw:(told==aa "wrong")=false)
  (h:∀n' σ',Tl B i m Rs tX seen n' σ' S w sv cnt cd wl→WS cx d ms gl ρ σ' QQ):WS cx d (T8::ms) gl ρ σ QQ:=
 fT (gp (mG (gv (fV l.told (gY ⟨false,vS tw,mG (gv (OE O (z:=.gq n) (ab (zO h6 f.sn λx hx=>(f.sr x hx).2) (by decide)) t.W7 t.cr t.rs t.H.no (nf rfl) (pI (av t.lt)) (nf rfl) (λy hy=>(f.zr y).mpr (f.sr y hy).1) l.seen
  (iQ (fZ ⟨aw _,.gq (n+1),(t.H.new _).no,false,eq_nil (j0 (av (ak _)) (fW _ _ _)) (fW _ _ _),mS (fY (h _ _ ((t.new _).new _)))⟩))))⟩)))))
theorem Vj(O:gT cx)(f:Tf B.P ch Rs tX sv seen)(t:Tl B i m Rs tX seen n σ S w sv cnt cnt wl)(l:LT B i S.b told ke ρ)(h:∀σ' ρ',Iu B (i+1) wl false σ' ρ'→QQ .next σ' ρ'):WS cx d [R7] gl ρ σ QQ:=by
 have bf:=(t.H.lz .je i).trans t.bf
 refine fT (gp (gv (sU (fV l.lr.saved (pR O (fV l.bf (.l _ _ rfl (.inl bf) ⟨_,rfl,qT,iV sv,.gq n,rfl,.inl ((t.H.lz .gZ 0).trans t.L.li.sd),rfl,decide_eq_true (bj (iV tX).length),t.H.no,?_⟩)))))))
 rw[T5,Ff,f.ext.elim λx e=>(e▸List.take_left:sv.take tX.length=tX)]
 exact fV l.bf ⟨false,xh (fW _ _ _) (sk (nf rfl) bf) (xx _),fY (fY (h _ _ ⟨_,S,w,sv,cnt,t.H.new _,t.L,l.lr,λe=>Mine.bf e⟩))⟩
theorem Oc(hd:σ (.p .mV 0)=some (.list (y8 B.P cd)))(hk:k<B.P.n):wZ σ (.ref (.p .mV 0)) (.int (k:Int))=some (.int ((1+cd k:Nat):Int)):=qV hd (uf _ hk)
theorem Ua(O:gT cx)(h6:B.P.n≤6)(f:Tf B.P ch Rs tX sv seen)(t:Tl B i m Rs tX seen n σ S w sv cnt cd wl)(l:LT B i S.b told ke ρ)(a:Alt B.P ch seen cd cnt told ke)
  (h:∀n' σ' S',S'.b=S.b→Tl B i m Rs tX seen n' σ' S' w sv cnt cnt wl→WS cx d ms gl ρ σ' QQ):WS cx d (RV::S7::ms) gl ρ σ QQ:=by
 cases a with
 |whole e1 e2 e3 e4=>
  subst e1
  subst e2
  subst e3
  refine fT (gp (ju (gv (fV l.told (gY ⟨true,vS (by decide),ju (mG (gv (sW O (fV l.seen ⟨_,seen,rfl,t.W7,ao (zO h6 f.sn λx hx=>(f.sr x hx).2) (by decide),λl' hp hs=>⟨.gq n,t.H.no,gH (r:=.p .gU 2) rfl (sk (nf rfl) t.cr) ⟨false,?_,mG (gv (fV l.ke (gO O ⟨false,rfl,mS (fY ?_)⟩)))⟩⟩⟩))))⟩)))))
  ·rw[x7 hs (hp.nodup_iff.mpr f.sn) f.zs f.zn λy=>hp.mem_iff.trans ⟨λq=>(f.zr y).mpr (f.sr y q).1,λq=>e4 y ((f.zr y).mp q)⟩]
   exact xh (fW _ _ _) (j0 (av t.lt) t.rs) (xx _)
  ·exact fT (gp (ju (gv (fV l.told (gY ⟨false,vS (by decide),fY (h _ _ S rfl (t.new _))⟩)))))
 |cut e1 e2 e3=>
  subst e1
  subst e2
  subst e3
  exact fT (gp (ju (gv (fV l.told (gY ⟨false,vS (by decide),fY (fT (gp (ju (gv (fV l.told (gY ⟨true,vS (by decide),ju (gv (fV l.ke (iu ⟨false,rfl,fY (h _ _ S rfl t)⟩)))⟩))))))⟩)))))
 |at_ k e1 hk e2 e3=>
  subst e1
  subst e2
  subst e3
  have du:=(t.H.lz .mV 0).trans t.L.G6
  refine fT (gp (ju (gv (fV l.told (gY ⟨false,vS (by decide),fY (fT (gp (ju (gv (fV l.told (gY ⟨true,vS (by decide),ju (gv (fV l.ke (iu ⟨true,rfl,qL
   (fT (lL (kW (jr (fV l.lr.G6 (fV l.ke ⟨_,Oc du hk,gO O ⟨.int (((1+cd k:Nat):Int)+1),rfl,fV l.lr.G6 (fV l.ke ⟨_,du,bj k,Int.ofNat_lt.mpr ?_,fY ?_⟩)⟩⟩))))))⟩)))⟩))))))⟩)))))
  ·rw[y8,ai,aD];exact hk
  ·rw[show(k:Int).toNat=k from rfl,Ml hk]
   exact h n _ (S.iP .mV 0 (some (.list (y8 B.P (rP cd k))))) rfl ⟨t.H.iP .mV 0 _,t.L.jq,t.lt,sk (nf rfl) t.cr,sk (nf rfl) t.rs,(iC (nf rfl)).trans t.bf,t.se⟩
end
end
mutual
structure Lg(B:Lb):Prop where
 K:rG B.P
 o:zq B.P
 T:UN B.P B.T
structure UI(P:jP)(S:St)(x:Nm)(j:Nat)(ch:List Nat):Prop where
 at_:S.pp x j=some (.list (iV ch))
 nl:UA x=false
 nb:x≠.je
 cl:∀k∈ch,k<P.n
 nd:ch.Nodup
structure ZH(B:Lb)(i:Nat)(x:Nm)(j:Nat)(ch tX:List Nat)(cd:Nat→Nat)(wl n:Nat)(σ:Hp)(S:St)(w:Fs)(sv seen:List Nat)(cnt:Nat→Nat)(told:Str)(ke:V)(ρ:Loc):Prop where
 H:RK B.n0 B.σ0 S n σ
 L:AO B (i+1) S w sv cnt cd wl
 c:UI B.P S x j ch
 bf:S.pp .je i=some (.list (iV tX))
 se:S.bb .hJ=some (.list (iV seen))
 ext:∃l,sv=tX++l
 sn:seen.Nodup
 sr:∀k∈seen,Reach B.P ch k∧k<B.P.n
 alt:Alt B.P ch seen cd cnt told ke
 l:LT B i S.b told ke ρ
 r:ρ .i7=some (.ref (.p x j))
def rT(ρ:Loc)(b:Nat)(told:Str)(ke:V):Loc:=up (up (up ρ .uy (some (.str told))) .hJ (some (.ref (.u b .hJ)))) .tv (some ke)
section
variable{cx:Cx}{d:Nat}{γ:Nm→Option I}{ρ:Loc}{σ:Hp}{n k i j m:Nat}{B:Lb}{S S':St}{w:Fs}{sv tX seen ch:List Nat}{cnt cd:Nat→Nat}{wl:Nat}{told:Str}{ke:V}{x:Nm}{Q:V→Hp→Prop}{QQ:Fl→Hp→Loc→Prop}{ms:List MS}{num1:Int}
theorem Fg(O:gT cx){x:Int}{a b:Nat}{a' b':Int}(ea:(a:Int)=a')(eb:(b:Int)=b')(ha:0<a)(ha2:a≤1000)(hb:0<b)(hx:ρ .iW=some (.int x))(h:Q (.int (((x.natAbs/a) % b:Nat):Int)) σ):WE cx d (.bin .Mod (.bin .FloorDiv (.bi .x4 [(.var .iW)]) (.int a')) (.int b')) γ ρ σ Q:=by
 subst ea
 subst eb
 exact kW (kW (Cc O (fV hx ⟨x,rfl,gO O ⟨_,Hw ha ha2,gO O ⟨_,Dp hb,h⟩⟩⟩)))
theorem Alt.tw{P:jP}(a:Alt P ch seen cd cnt told ke):(told==aa "wrong")=false:=by
 cases a with
 |whole e=>rw[e];decide
 |cut e=>rw[e];decide
 |at_ k e=>rw[e];decide
theorem Cu.tup{ts:Bool}{b:Nat}(l:Cu ts ρ):Cu ts (rT ρ b told ke):=⟨l.state,l.rows,l.order,l.ev,l.G6,l.saved,l.runs⟩
theorem UI.keep{P:jP}(c:UI P S x j ch)(k:S'.pp x j=S.pp x j):UI P S' x j ch:=⟨k.trans c.at_,c.nl,c.nb,c.cl,c.nd⟩
theorem Bk.keep{b:Bp}(k:Bk b S)(hx:UA x=false)(l:Nat):S.pp x l=b.Z2 x l:=
 k.po x l (λe=>bf (hx.symm.trans (e▸rfl))) (λe=>bf (hx.symm.trans (e▸rfl))) (λe=>bf (hx.symm.trans (e▸rfl))) (λe=>bf (hx.symm.trans (e▸rfl))) (λe=>bf (hx.symm.trans (e▸rfl))) λe=>bf (hx.symm.trans (e▸rfl))
theorem TK(O:gT cx)(F:gK cx)(NS:o9 cx)(g:Lg B)(H:RK B.n0 B.σ0 S n σ)(L:AO B (i+1) S w sv cnt cnt wl)(DD:wl≤800)(c:UI B.P S x j ch)(hb:S.pp .je i=some (.list (iV sv)))(lr:Cu B.ts ρ)(r0:ρ .iW=some (.int num1))(r1:ρ .i7=some (.ref (.p x j)))(r2:ρ .je=some (.ref (.p .je i)))
  (h:∀n' σ' S' w' Fy seen pN told ke ρ',ZH B i x j ch sv cnt (wl+7) n' σ' S' w' Fy seen pN told ke ρ'→WS cx (d+8) ms gl ρ' σ' QQ):WS cx (d+8) (LU::ms) gl ρ σ QQ:=by
 refine fT (lN rfl (wk O (F _) (fX (fV lr.state (fX (fV lr.rows (fX (fV r1 (fX (Fg O (a:=27) (b:=5) rfl rfl (by decide) (by decide) (by decide) r0 (fX (Fg O (a:=9) (b:=3) rfl rfl (by decide) (by decide) (by decide) r0 (fZ (jE ⟨rfl,rfl,
  wu (d:=d) (C:=Reach B.P ch) (T:=B.T) O F NS g.K g.T (λk hk j hj=>.dep hk hj) H L.li L.vf DD c.at_ (λk hk=>⟨c.cl k hk,.base hk⟩) c.nd (λn₂ σ₂ S₂ w' Fy seen q=>?_) λn₂ σ₂ S₂ w' Fy seen pN ke q=>?_⟩))))))))))))))
 ·exact h n₂ σ₂ S₂ w' Fy seen cnt _ _ (rT ρ (S.b+1) (aa "whole") (.int 0)) ⟨q.H,L.next q.k.b q.k.vv q.k.po q.li,c.keep (q.k.keep c.nl j),(q.k.keep rfl i).trans hb,q.se,q.ext,q.sn,λk hk=>⟨(q.sp k hk).1,(q.sp k hk).2.1⟩,
   .whole rfl rfl rfl λk r=>r.rec (λm=>q.ch _ m) λZ hj ih=>q.cl _ ih _ hj,⟨lr.tup,r2,rfl,(congrArg (λb=>some (V.ref (.u b .hJ))) q.k.b.symm:_),rfl⟩,r1⟩
 ·exact h n₂ σ₂ S₂ w' Fy seen pN _ _ (rT ρ (S.b+1) (aa "cut") ke) ⟨q.H,L.next q.k.b q.k.vv q.k.po q.li,c.keep (q.k.keep c.nl j),(q.k.keep rfl i).trans hb,q.se,q.ext,q.sn,q.sp,
   q.cnt.casesOn (λa e=>.cut rfl a e) λk hk a e=>.at_ k rfl hk a e,⟨lr.tup,r2,rfl,(congrArg (λb=>some (V.ref (.u b .hJ))) q.k.b.symm:_),rfl⟩,r1⟩
theorem SJ(O:gT cx)(F:gK cx)(g:Lg B)(a:ZH B i x j ch tX cd wl n σ S w sv seen cnt told ke ρ)
  (h:∀n' σ' S' m Rs,S'.b=S.b→Tf B.P ch Rs tX sv seen→Tl B i m Rs tX seen n' σ' S' w sv cnt cd wl→WS cx (d+8) ms gl ρ σ' QQ):WS cx (d+8) (Ks::ms) gl ρ σ QQ:=
 fT (lN rfl (wk O (F _) (fX (fV a.l.lr.rows (fX (fV a.l.lr.order (fX (fV a.r (fZ (jE ⟨rfl,rfl,zR (d:=d+7) O g.K g.o a.H.base a.L.li.rw a.L.mm.ord a.c.at_ a.c.cl a.c.nd λn₁ σ₁ m Rs H₁' hnm hm z₁ zn zs zr=>
  have H₁:=a.H.trans H₁'
  a.L.cs.c2.elim λu hu=>⟨.p .gU 2,u,rfl,(H₁.lz _ _).trans hu,h n₁ _ (S.iP .gU 2 (some (.cell (some (.ref (.gq m)))))) m Rs rfl ⟨a.ext,a.sn,a.sr,zn,zs,zr⟩
   ⟨H₁.iP .gU 2 _,a.L.Yx _,hm,fW _ _ _,sk (nf rfl) z₁,(iC (nf rfl)).trans a.bf,a.se⟩⟩⟩))))))))))
theorem LT.eq{b b':Nat}(l:LT B i b told ke ρ)(e:b'=b):LT B i b' told ke ρ:=e.symm▸l
theorem HJ(O:gT cx)(F:gK cx)(NS:o9 cx)(g:Lg B)(H:RK B.n0 B.σ0 S n σ)(L:AO B (i+1) S w sv cnt cnt wl)(DD:wl≤800)(c:UI B.P S x j ch)(hbn:S.pp .je i=none)(lr:Cu B.ts ρ)(r0:ρ .iW=some (.int num1))(r1:ρ .i7=some (.ref (.p x j)))
  (h:∀σ' ρ',Iu B (i+1) (wl+7) false σ' ρ'→QQ .next σ' ρ'):WS cx (d+8) [Qq,LU,Ks,T8,RV,S7,R7] gl ρ σ QQ:=by
 have n6:=g.K.n6
 refine fT (hU rfl (qu O (fV lr.saved ⟨_,_,.p .je i,rfl,(H.lz .gZ 0).trans L.li.sd,(H.lz _ _).trans hbn,?_⟩)))
 exact TK (ρ:=up ρ .je (some (.ref (.p .je i)))) (S:=S.iP .je i (some (.list (iV sv)))) (σ:=up σ (.p .je i) (some (.list (iV sv)))) (num1:=num1) (d:=d) O F NS g (H.iP .je i _) (L.Wo (ak _) rfl rfl (nf rfl) (nf rfl)) DD (c.keep (iC c.nb)) i9 ⟨lr.state,lr.rows,lr.order,lr.ev,lr.G6,lr.saved,lr.runs⟩ r0 r1 rfl λn₂ σ₂ S₂ w₂ sv₂ seen cnt₂ told ke ρ₂ a=>
  SJ O F g a λn₃ σ₃ S₃ m Rs e₃ f t=>VT O n6 f t (a.l.eq e₃) a.alt.tw λn₄ σ₄ t=>Ua O n6 f t (a.l.eq e₃) a.alt λn₅ σ₅ S₅ e₅ t=>Vj O f t (a.l.eq (e₅.trans e₃)) h
end
end
mutual
section
variable{cx:Cx}{d:Nat}{γ:Nm→Option I}{ρ:Loc}{σ:Hp}{n k i j m:Nat}{B:Lb}{S S':St}{w:Fs}{sv tX seen ch:List Nat}{cnt cd:Nat→Nat}{wl:Nat}{x:Nm}{Q:V→Hp→Prop}{QQ:Fl→Hp→Loc→Prop}{ms:List MS}{num1:Int}{a:Bool}
theorem O0(x y:Int):rZ σ .NotEq (.int x) (.int y)=some (!(x==y)):=rfl
theorem OK(O:gT cx)(F:gK cx)(NS:o9 cx)(g:Lg B)(b:Iu B i wl a σ ρ)(DD:wl≤800)(h:∀σ' ρ',Iu B (i+1) (wl+7) false σ' ρ'→QQ .next σ' ρ'):WS cx (d+8) Wf gl (up ρ .iW (some (.int num1))) σ QQ:=by
 refine b.casesOn λn S w sv cnt H L lr al=>?_
 have n1:=g.K.n1
 have f:=L.fr i (aL _)
 refine fT (hU rfl (rO (gv (kW (fV (v:=.int num1) rfl (gO O ⟨.int (num1.fmod 3),rfl,gO O ⟨_,O0 _ _,?_⟩⟩))))))
 cases e:num1.fmod 3==0 with
 |true=>
  refine iQ (fX (kW (kW (Cc O (fV (v:=.int num1) rfl ⟨num1,rfl,gO O ⟨_,(show El .FloorDiv (.int (num1.natAbs:Int)) (.int 3)=_ from Hw (by decide) (by decide)),pR O (fV (by exact lr.rows) (.l _ _ rfl (.inl ((H.lz .gi 0).trans L.li.rw.rows)) ⟨.int ((num1.natAbs/3 % B.P.n:Nat):Int),?_,fZ ⟨au rfl,.p .i7 i,(H.lz _ _).trans f.1,?_⟩⟩))⟩⟩)))))
  ·rw[ai,aD];exact Dp n1
  ·exact HJ (ρ:=up (up ρ .iW (some (.int num1))) .i7 (some (.ref (.p .i7 i)))) (S:=S.iP .i7 i (some (.list (iV [num1.natAbs/3 % B.P.n])))) (σ:=up σ (.p .i7 i) (some (.list (iV [num1.natAbs/3 % B.P.n])))) (num1:=num1) (x:=.i7) (j:=i) O F NS g (H.iP .i7 i _) (L.step.Wo (ak _) rfl rfl (nf rfl) (nf rfl)) DD
    ⟨i9,rfl,nf rfl,λy hy=>by rw[ag.mp hy];exact Nat.mod_lt _ n1,List.nodup_cons.mpr ⟨aj,.nil⟩⟩ ((iC (nf rfl)).trans f.2) ⟨lr.state,lr.rows,lr.order,lr.ev,lr.G6,lr.saved,lr.runs⟩ rfl rfl h
 |false=>
  refine fV (by exact lr.ev) ?_
  exact HJ (ρ:=up (up ρ .iW (some (.int num1))) .i7 (some (.ref (.p .h9 0)))) (num1:=num1) (x:=.h9) (j:=0) O F NS g H L.step DD ⟨L.mm.ev,rfl,nf rfl,λy hy=>aM.mp hy,b6⟩ f.2 ⟨lr.state,lr.rows,lr.order,lr.ev,lr.G6,lr.saved,lr.runs⟩ rfl rfl h
theorem O6{P:jP}(h:∀k,k<P.n→k∈sv):tT P sv cnt=y8 P cnt:=cT λk hk=>congrArg (λz:Nat=>V.int ((z+cnt k:Nat):Int)) (if_pos (h k (aM.mp hk)))
theorem Dc(n:Nat):(az n).Pairwise (· ≤ ·):=List.pairwise_lt_range.imp λh=>aY h
theorem zA{l l':List Nat}{N:Nat}(hp:l'.Perm l)(hs:l'.Pairwise (· ≤ ·))(hn:l.Nodup)(h:∀y,y∈l↔y<N):l'=az N:=
 x7 hs (hp.nodup_iff.mpr hn) (Dc _) b6 λy=>hp.mem_iff.trans ((h y).trans aM.symm)
theorem Pp(O:gT cx)(F:gK cx)(NS:o9 cx)(g:Lg B)(b:Iu B i wl a σ ρ)(DD:wl≤800)(h:∀σ' ρ',Iu B i (wl+7) true σ' ρ'→QQ .next σ' ρ'):WS cx (d+8) SX gl ρ σ QQ:=by
 refine b.casesOn λn S w sv cnt H L lr al=>?_
 have n6:=g.K.n6
 refine fT (lN rfl (wk O (F _) (fX (fV lr.state (fX (fV lr.rows (fX (fV lr.ev (fX (gO O (fX (gO O (fZ (jE ⟨rfl,rfl,wu (d:=d) (C:=Reach B.P (az B.P.n)) (T:=B.T) O F NS g.K g.T (λk hk j hj=>.dep hk hj) H L.li L.vf DD L.mm.ev (λk hk=>⟨aM.mp hk,.base hk⟩) b6 (λn₂ σ₂ S₂ w' Fy seen q=>?_)
  λn₂ σ₂ S₂ w' Fy seen pN ke q=>absurd (show(99:Int)≤6 from q.pl) (by decide)⟩))))))))))))))
 have L₂:=L.next q.k.b q.k.vv q.k.po q.li
 have all:∀y,y∈seen↔y<B.P.n:=λy=>⟨λm=>(q.sp y m).2.1,λm=>q.ch y (aM.mpr m)⟩
 have alls:∀y,y∈Fy↔y<B.P.n:=λy=>⟨q.li.pp.sl y,λm=>(q.sp y ((all y).mpr m)).2.2⟩
 have ev:=(q.H.lz .h9 0).trans L₂.mm.ev
 have W7:σ₂ (.u (S.b+1) .hJ)=some (.list (iV seen)):=(show S₂.b=S.b+1 from q.k.b)▸(q.H.lh .hJ).trans q.se
 have H₄:=λo o'=>(q.H.new o).new o'
 show WS cx (d+8) (SX.drop 1) gl (rT ρ (S.b+1) (aa "whole") (.int 0)) σ₂ QQ
 have lr₂:Cu B.ts (rT ρ (S.b+1) (aa "whole") (.int 0)):=lr.tup
 refine fT (gp (mG (gv (fV (v:=.str "whole") rfl (gY ⟨false,ne_str _,mG (gv (sW O (fV (v:=.ref (.u (S.b+1) .hJ)) rfl ⟨_,seen,rfl,W7,ao (zO n6 q.sn λx hx=>(all x).mp hx) (by decide),λl' hp hs=>⟨.gq n₂,q.H.no,fV lr₂.ev ⟨false,?_,
  mG (gv (fV (v:=.int 0) rfl (gO O ⟨false,rfl,mG (gv (sW O (fV lr₂.saved ⟨_,Fy,rfl,sk (nf rfl) ((q.H.lz .gZ 0).trans q.li.sd),ao (zO n6 q.li.pp.sn q.li.pp.sl) (by decide),λl'' hp' Wa=>⟨.gq (n₂+1),(q.H.new _).no,fV lr₂.ev ⟨false,?_,
   mG (gv (fV lr₂.runs (fV lr₂.G6 ⟨false,?_,mS (fY (fY (h _ _ ⟨_,S₂,w',Fy,cnt,H₄ _ _,L₂,lr₂,λZ k hk=>(alls k).mpr hk⟩)))⟩)))⟩⟩⟩)))⟩)))⟩⟩⟩)))⟩)))))
 ·rw[zA hp hs q.sn all]
  exact xh (fW _ _ _) (sk (nf rfl) ev) (xx _)
 ·rw[zA hp' Wa q.li.pp.sn alls]
  exact xh (fW _ _ _) (p4 rfl ev) (xx _)
 ·have rn:σ₂ yg=some (.list (y8 B.P cnt)):=((q.H.lz .kb 0).trans q.li.rn).trans (congrArg (λl=>some (Mine.O.list l)) (O6 λk hk=>(alls k).mpr hk))
  exact xh (p4 rfl rn) (p4 rfl ((q.H.lz .mV 0).trans L₂.G6)) MV
theorem Iu.turn(b:Iu B i wl a σ ρ)(v:Option V):Iu B i wl a σ (up ρ .Np v):=b.casesOn λn S w sv cnt H L lr al=>⟨n,S,w,sv,cnt,H,L,⟨lr.state,lr.rows,lr.order,lr.ev,lr.G6,lr.saved,lr.runs⟩,al⟩
end
end
mutual
noncomputable abbrev tV:I:=.p .hH 0
def KH:Nat→Nat:=λZ=>0
def w0(i:Nat):Fs:=λf=>if f.1=false∧f.2<i then some ((f.2:Int),Gk f.2)else none
structure R0(ts:Bool)(ρ:Loc):Prop where
 Qv:ρ .rz=some (.int (Us ts))
 rows:ρ .gi=some (.ref j1)
 order:ρ .hV=some (.ref oj)
 Mj:ρ .hH=some (.ref tV)
structure Drn(n0:Nat)(σ0:Hp)(S:St)(n':Nat)(σ':Hp)(tM:Nm→Nat→Option O)(P:jP):Prop where
 H:RK n0 σ0 (zX S tM) n' σ'
 K:rG P
 o:zq P
 ord:tM .hV 0=some (.list (iV P.order))
 rw:RW P (zX S tM)
 pt:∀x j,x≠.iE→x≠.hV→x≠.gi→x≠.mq→tM x j=S.pp x j
section
variable{cx:Cx}{d:Nat}{γ:Nm→Option I}{ρ:Loc}{σ:Hp}{n0 n n' k i:Nat}{σ0 σ':Hp}{S:St}{P:jP}{s:List Int}{ob:Obj}{Q:V→Hp→Prop}{QQ:Fl→Hp→Loc→Prop}{ts:Bool}{ms:List MS}
theorem M5(O:gT cx)(hs:σ tV=some (.oL (s.map V.int) ob))(r0:ρ .hH=some (.ref tV))(h:∀ts:Bool,Q (.int (Us ts)) σ):
  WE cx d (.ite (.var .hH) (.bin .Mod (.bi .x4 [(.idx (.var .hH) (.int 0))]) (.int 2)) (.int 0)) γ ρ σ Q:=by
 have t:JQ σ (.ref tV)=yx (some (.oL (s.map V.int) ob)):=congrArg yx hs
 have ix:wZ σ (.ref tV) (.int 0)=(s.map V.int)[0]?:=by
  show O2 (σ tV) none (λl=>if (0:Int)≤0 then l[(0:Int).toNat]? else none)=_
  rw[hs];rfl
 cases s with
 |nil=>exact rO (gM O rfl (fV r0 ⟨false,t,gO O (h false)⟩))
 |cons x l=>
  refine rO (gM O rfl (fV r0 ⟨true,t,kW (Cc O (jr (fV r0 (gO O ⟨.int x,ix,x,rfl,gO O ⟨_,(show El .Mod (.int (x.natAbs:Int)) (.int 2)=_ from Dp (by decide)),?_⟩⟩))))⟩))
  exact(Nat.mod_two_eq_zero_or_one x.natAbs).elim (λe=>by rw[e];exact h false) λe=>by rw[e];exact h true
theorem B4(l:List Int)(a b:Nat):pW (some (a:Int)) (some (b:Int)) (l.map V.int)=((l.take b).drop a).map V.int:=(congrArg (List.drop a) List.map_take.symm).trans List.map_drop.symm
theorem F6(O:gT cx){z:I}(hs:σ tV=some (.oL (s.map V.int) ob))(hz:σ z=none)(r0:ρ .hH=some (.ref tV))(h:∀ns:List Int,1≤ns.length→ns.length≤6→Q (.ref z) (up σ z (some (.list (ns.map V.int))))):
  WE cx d (.ite (.cmp .Gt (.bi .oM [(.var .hH)]) (.int 1)) (.yb (.var .hH) (some (.int 1)) (some (.int 7))) (.list [(.int 5),(.int 800),(.int 1513)])) γ ρ σ Q:=by
 refine rO (gv (pR O (fV r0 (.l _ _ rfl (.inr ⟨_,hs⟩) (gO O ⟨decide ((1:Int)<((s.map V.int).length:Int)),rfl,?_⟩)))))
 cases e:decide ((1:Int)<((s.map V.int).length:Int))with
 |true=>
  have l2:2≤s.length:=eU (Int.ofNat_lt.mp (of_decide_eq_true e)) (ai ..)
  have ln:((s.take 7).drop 1).length=min 7 s.length - 1:=cJ.trans (congrArg (· - 1) aO)
  refine sU (fV r0 (gO O ⟨1,rfl,gO O ⟨7,rfl,_,_,z,rfl,.inr ⟨_,hs⟩,rfl,rfl,hz,?_⟩⟩))
  rw[show pW (some 1) (some 7) (s.map V.int)=_ from B4 s 1 7]
  exact h _ (ln▸Nat.le_sub_of_add_le (Nat.le_min.mpr ⟨by decide,l2⟩)) (ln▸eu (bp 7 _) 1)
 |false=>exact iQ (fX (gO O (fX (gO O (fX (gO O (fZ ⟨au rfl,z,hz,h [5,800,1513] (by decide) (by decide)⟩)))))))
theorem Ld(O:gT cx)(F:gK cx)(H:RK n0 σ0 S n σ)(hs:S.pp .hH 0=some (.oL (s.map V.int) ob))(hz:∀x,x≠.hH→x≠.gU→∀j,S.pp x j=none)(r0:ρ .hH=some (.ref tV))
  (h:∀ts n' σ' tM P ρ',Drn n0 σ0 S n' σ' tM P→R0 ts ρ'→WS cx (d+1) ms gl ρ' σ' QQ):WS cx (d+1) (Hg::Rm::M6::ms) gl ρ σ QQ:=by
 have sR:=(H.lz .hH 0).trans hs
 refine fT (hU rfl (M5 O sR r0 λts=>?_))
 refine fT (hU rfl (F6 O (z:=wY) sR ((H.lz _ _).trans (hz .iE (nf rfl) (nf rfl) 0)) r0 λns h1 h6=>?_))
 refine fT (lN rfl (wk O (F _) (fX (fV rfl (fZ (jE ⟨rfl,rfl,DK (d:=d) (S:=S.iP .iE 0 (some (.list (ns.map V.int)))) O (H.iP .iE 0 _) h6 i9 ((iC (nf rfl)).trans (hz .hV (nf rfl) (nf rfl) 0)) ((iC (nf rfl)).trans (hz .gi (nf rfl) (nf rfl) 0)) (λk=>(iC (nf rfl)).trans (hz .mq (nf rfl) (nf rfl) k)) λn₂ σ₂ tM order row hp w=>?_⟩))))))
 have KO:=Vd h1 h6 hp λk hk=>(w.pw k hk).2
 exact h ts n₂ σ₂ tM (XC ns.length row order) (up (up (up (up ρ .rz (some (.int (Us ts)))) .iE (some (.ref wY))) .gi (some (.ref j1))) .hV (some (.ref oj))) ⟨w.H,KO.1,KO.2,w.po,⟨w.pr,λk hk=>(w.pw k hk).1⟩,λx j a b c e=>(w.pt x j b c e).trans (iC a)⟩ ⟨rfl,rfl,rfl,r0⟩
end
end
mutual
structure Bef(P:jP)(xU:Option O)(S:St):Prop where
 ord:S.pp .hV 0=some (.list (iV P.order))
 rw:RW P S
 vf:∀b k,S.vv b k=false
 no:∀x,x≠.iE→x≠.hV→x≠.gi→x≠.mq→x≠.hH→x≠.gU→∀j,S.pp x j=none
 a1:S.pp .gU 1=some (.cell none)
 a2:S.pp .gU 2=some (.cell none)
 a3:S.pp .gU 3=some (.cell none)
 xU:S.pp .hH 0=xU
def AD(P:jP)(c:Int):List V:=(az P.n).map λZ=>V.int c
def wS(S:St)(W:List (Str×V)):St:=((S.iP .gF 0 (some (.dict []))).iP .gU 1 (some (.cell (some (.ref kz))))).iP .gF 0 (some (.dict W))
def VN(P:jP)(S:St):St:=
 (((((S.iP .gZ 0 (some (.list []))).iP .kb 0 (some (.list (AD P 0)))).iP .oD 0 (some (.dict []))).iP .jF 0 (some (.list [.int 10]))).iP .mV 0 (some (.list (AD P 1)))).iP .h9 0 (some (.list (iV (az P.n))))
def JR(P:jP)(ts:Bool)(xU:Option O)(n0:Nat)(σ0:Hp)(nu:List Int):Lb:=⟨P,ts,Tx P 6,nu,xU,n0,σ0⟩
def Tz(σ:Hp)(z:I)(c:Int)(i:Nat)(l:List V)(σ':Hp):Prop:=l=(az i).map (λZ=>V.int c)∧σ'=up σ z (some (.list l))
structure RX(n0:Nat)(σ0:Hp)(S:St)(ts:Bool)(n i:Nat)(σ:Hp)(ρ:Loc)(W:List (Str×V)):Prop where
 H:RK n0 σ0 (wS S W) n σ
 len:W.length≤i
 at_:∀f:lO,f.2<6→W.lookup (jh f)=(w0 i f).map kU
 r:R0 ts ρ
section
variable{cx:Cx}{d:Nat}{γ:Nm→Option I}{ρ:Loc}{σ:Hp}{n0 n n' k i:Nat}{σ0 σ':Hp}{S:St}{P:jP}{Q:V→Hp→Prop}{QQ:Fl→Hp→Loc→Prop}{ts:Bool}{ms:List MS}{W:List (Str×V)}{xU:Option O}
theorem EE(O:gT cx){x:Nm}{c:Int}{z:I}(hn:P.n≤6)(rr:σ j1=some (.list ((az P.n).map λk=>.ref (mD k))))(hz:σ z=none)(XI:j1≠z)(r1:ρ .gi=some (.ref j1))(h:QQ .next (up σ z (some (.list (AD P c)))) (up ρ x (some (.ref z)))):W1 cx d (Cm x c) gl ρ σ QQ:=
 DA rfl (CI (.list j1) z (az P.n).length (Tz σ z c)) (az P.n).length (λx hx=>absurd (show x∈([]:List Nm)from hx) aj) (QT (fV r1 ⟨rfl,rr,hz,rfl,rfl⟩))
  (I1 (src:=az P.n) (f:=λk=>.ref (mD k)) (ab (ay aD) (ab hn (by decide))) (Tz σ z c) (λi l σ' q=>by rw[q.2,q.1];exact⟨fW _ _ _,ay ((ai ..).trans aD),sk XI rr⟩)
   (λi a l σ' e q ρ'=>by
    rw[q.2]
    exact gO (Q:=Nc z (Tz σ z c) i l) O ⟨fW _ _ _,by rw[q.1,bJ,ar];rfl,lD _ _ _ _⟩) λl σ' q=>by
    rw[q.2,q.1,aD]
    exact h)
theorem Sf:∀i:Nat,i<3→(aa "xyz").cps[i]?=some (120+i):=by decide
theorem HH(hi:i<3):wZ σ (.str "xyz") (.int (i:Int))=some (.str (Gk i)):=
 (if_pos ⟨bj i,Int.ofNat_le.mpr (ab (aY hi) (by decide))⟩:(if (0:Int)≤(i:Int)∧(i:Int)≤100000 then ((aa "xyz").cps[(i:Int).toNat]?).map (λc=>V.str ⟨#[c]⟩)else none)=_).trans (congrArg (bh λc=>V.str ⟨#[c]⟩) (Sf i hi))
theorem R0.jup(r:R0 ts ρ)(v:Option V):R0 ts (up ρ .zg v):=⟨r.Qv,r.rows,r.order,r.Mj⟩
theorem SQ(hi:i<3)(at_:∀f:lO,f.2<6→W.lookup (jh f)=(w0 i f).map kU)(f:lO)(hf:f.2<6):(putD W (jh (false,i)) (kU ((i:Int),Gk i))).lookup (jh f)=(w0 (i+1) f).map kU:=by
 rw[x5]
 by_cases e:f=(false,i)
 ·rw[if_pos (congrArg jh e),e]
  exact(congrArg (bh kU) (show w0 (i+1) (false,i)=some ((i:Int),Gk i)from if_pos ⟨rfl,ak i⟩)).symm
 ·rw[if_neg (λq=>e (oY hf (bk hi (by decide)) q)),at_ f hf]
  by_cases q:f.1=false∧f.2<i
  ·rw[w0,w0,if_pos q,if_pos ⟨q.1,a5 q.2⟩]
  ·rw[w0,w0,if_neg q,if_neg λz=>q ⟨z.1,eS (bH z.2) λy=>e (cH z.1 y)⟩]
theorem Uk{W':List (Str×V)}(H:RK n0 σ0 (wS S W) n σ):RK n0 σ0 (wS S W') n (up σ kz (some (.dict W'))):=by
 have z:=H.iP .gF 0 (some (.dict W'))
 rw[wS,xC]at z
 exact z
theorem TG(O:gT cx)(s:RX n0 σ0 S ts n 0 σ ρ [])(h:∀σ' ρ' W,RX n0 σ0 S ts n 3 σ' ρ' W→QQ .next σ' ρ'):W1 cx d Lz gl ρ σ QQ:=
 uv (N:=3) O (by decide) (λi σ' ρ'=>∃W,RX n0 σ0 S ts n i σ' ρ' W) (gO O ⟨rfl,[],s⟩) (λi σ' ρ' hi q=>q.elim λW q=>
  have wR:σ' kz=some (.dict W):=(q.H.lz .gF 0).trans i9
  have cR:σ' (.p .gU 1)=some (.cell (some (.ref kz))):=q.H.lz .gU 1
  fT (lL (pX (fX (fV rfl (fX (gO O (fX (jr (gY (fV rfl ⟨_,HH hi,fZ ⟨au rfl,gH (r:=.p .gU 1) rfl cR (oz O (k:=i) (bk hi (by decide)) (by decide) (fV rfl ⟨rfl,W,wR,ao (ab q.len (aY hi)) (by decide),
   fY ⟨putD W (jh (false,i)) (kU ((i:Int),Gk i)),Uk q.H,ab (m9 _ _ _) (bl q.len),SQ hi q.at_,q.r.jup _⟩⟩))⟩⟩))))))))))) λσ' ρ' q=>q.elim λW q=>h σ' ρ' W q
theorem TA(b:Bef P xU S)(hW:W.length≤3)(at_:∀f:lO,f.2<6→W.lookup (jh f)=(w0 3 f).map kU)(nu:List Int):AO (JR P ts xU n0 σ0 nu) 0 ((VN P (wS S W)).iP .iW 0 (some (.list (nu.map V.int)))) (w0 3) [] KH KH 3:=
 have ni:∀{p:Nat→Prop},∀x∈([]:List Nat),p x:=λx m=>absurd m aj
 ⟨⟨⟨⟨W,rfl,ab hW (by decide),at_⟩,rfl,ni,.nil,ni,λk Z=>b.no .iO (nf rfl) (nf rfl) (nf rfl) (nf rfl) (nf rfl) (nf rfl) k⟩,⟨b.rw.rows,b.rw.row⟩,⟨W,rfl,hW⟩,λj hj=>if_pos ⟨rfl,hj⟩,ni,ni,rfl,⟨10,rfl⟩,rfl⟩,λc k Z=>b.vf c k,rfl,⟨rfl,b.ord,rfl,b.xU,b.no .j3 (nf rfl) (nf rfl) (nf rfl) (nf rfl) (nf rfl) (nf rfl) 0⟩,⟨rfl,⟨none,b.a2⟩,b.a3⟩,
  λj Z=>⟨b.no .i7 (nf rfl) (nf rfl) (nf rfl) (nf rfl) (nf rfl) (nf rfl) j,b.no .je (nf rfl) (nf rfl) (nf rfl) (nf rfl) (nf rfl) (nf rfl) j⟩⟩
structure QP(P:jP)(ts:Bool)(xU:Option O)(n0:Nat)(σ0:Hp)(S:St)(n:Nat)(σ:Hp)(ρ:Loc):Prop where
 H:RK n0 σ0 S n σ
 nn:S.pp .iW 0=none
 sc:S.pp .hH 0=xU
 L:∀nu:List Int,AO (JR P ts xU n0 σ0 nu) 0 (S.iP .iW 0 (some (.list (nu.map V.int)))) (w0 3) [] KH KH 3
 lr:Cu ts ρ
 r0:ρ .hH=some (.ref tV)
theorem Lu(O:gT cx)(K:rG P)(H:RK n0 σ0 S n σ)(b:Bef P xU S)(r:R0 ts ρ)(h:∀σ' S' ρ',QP P ts xU n0 σ0 S' n σ' ρ'→WS cx d ms gl ρ' σ' QQ):WS cx d (HO::Lz::Hv::Cm .kb 0::HI::Cm .mV 1::HG::ms) gl ρ σ QQ:=by
 have n6:=K.n6
 have no:∀x,x≠.iE→x≠.hV→x≠.gi→x≠.mq→x≠.hH→x≠.gU→∀j,S.pp x j=none:=b.no
 refine fT (lN rfl (lI O (r:=kz) ((H.lz _ _).trans (no .gF (nf rfl) (nf rfl) (nf rfl) (nf rfl) (nf rfl) (nf rfl) 0)) ⟨.p .gU 1,none,rfl,sk (nf rfl) ((H.lz _ _).trans b.a1),?_⟩))
 have H₁:=(H.iP .gF 0 (some (.dict []))).iP .gU 1 (some (.cell (some (.ref kz))))
 have e₁:up (up (up σ kz (some (.dict []))) (.p .gU 1) (some (.cell (some (.ref kz))))) kz (some (.dict []))=_:=Ep (sk (nf rfl) (fW _ _ _))
 refine fT (TG (ts:=ts) (S:=S) O ⟨e₁▸H₁.iP .gF 0 (some (.dict [])),aL _,λf Z=>(congrArg (bh kU) (show w0 0 f=none from if_neg λq=>bt _ q.2)).symm,r⟩ λσ₂ ρ₂ W s=>?_)
 have H₂:=s.H
 have q:∀x j,x≠.gF→x≠.gU→(wS S W).pp x j=S.pp x j:=λx j h1 h2=>(iC h1).trans ((iC h2).trans (iC h1))
 refine fT (hU rfl (iQ (fZ ⟨aw _,qT,(H₂.lz _ _).trans ((q .gZ 0 (nf rfl) (nf rfl)).trans (no .gZ (nf rfl) (nf rfl) (nf rfl) (nf rfl) (nf rfl) (nf rfl) 0)),?_⟩)))
 have H₃:=H₂.iP .gZ 0 (some (.list []))
 refine fT (EE O (z:=yg) (P:=P) n6 ((H₃.lz .gi 0).trans (show _=_ from b.rw.rows)) ((H₃.lz .kb 0).trans (show _=_ from no .kb (nf rfl) (nf rfl) (nf rfl) (nf rfl) (nf rfl) (nf rfl) 0)) (nf rfl) (by exact s.r.rows) ?_)
 have H₄:=H₃.iP .kb 0 (some (.list (AD P 0)))
 refine fT (hU rfl (pX (fX (gH (r:=.p .gU 1) rfl (H₄.lz .gU 1) (fX (lI O (r:=UC) ((H₄.lz .oD 0).trans (show _=_ from no .oD (nf rfl) (nf rfl) (nf rfl) (nf rfl) (nf rfl) (nf rfl) 0)) (fX (fV (by exact s.r.Qv) (fX (iQ (fX (gO O (fZ ⟨au rfl,v5,sk (nf rfl) ((H₄.lz .jF 0).trans (show _=_ from no .jF (nf rfl) (nf rfl) (nf rfl) (nf rfl) (nf rfl) (nf rfl) 0)),fX (fV rfl (fX (fV rfl (fZ ⟨au rfl,?_⟩))))⟩)))))))))))))
 have H₅:=(H₄.iP .oD 0 (some (.dict []))).iP .jF 0 (some (.list [.int 10]))
 refine fT (EE O (z:=.p .mV 0) (P:=P) n6 ((H₅.lz .gi 0).trans (show _=_ from b.rw.rows)) ((H₅.lz .mV 0).trans (show _=_ from no .mV (nf rfl) (nf rfl) (nf rfl) (nf rfl) (nf rfl) (nf rfl) 0)) (nf rfl) (by exact s.r.rows) ?_)
 have H₆:=H₅.iP .mV 0 (some (.list (AD P 1)))
 refine fT (hU rfl (AX O (pR O (fV (by exact s.r.rows) (.l _ _ rfl (.inl ((H₆.lz .gi 0).trans (show _=_ from b.rw.rows))) ⟨P.n,by rw[ai,aD],ab n6 (by decide),.p .h9 0,(H₆.lz .h9 0).trans (show _=_ from no .h9 (nf rfl) (nf rfl) (nf rfl) (nf rfl) (nf rfl) (nf rfl) 0),?_⟩)))))
 exact h _ (VN P (wS S W)) _ ⟨H₆.iP .h9 0 _,no .iW (nf rfl) (nf rfl) (nf rfl) (nf rfl) (nf rfl) (nf rfl) 0,b.xU,TA b s.len s.at_,⟨rfl,s.r.rows,s.r.order,rfl,rfl,rfl,rfl⟩,s.r.Mj⟩
end
end
mutual
structure HD(T:Nat→Str)(fs:List lO)(D:List (Str×V)):Prop where
 len:D.length≤fs.length
 key:∀p∈D,∃f∈fs,p.1=jh f
 val:∀f∈fs,D.lookup (jh f)=some (.str (nB T f))
 sm:∀f∈fs,f.2<6
def rW(i:Nat):List lO:=(az i).map λj=>(false,j)
def outs(l:List Nat):List lO:=l.map λj=>(true,j)
noncomputable abbrev vC:I:=.p .j3 0
def hS(S:St)(D:List (Str×V)):St:=((S.iP .j3 0 (some (.dict []))).iP .gU 3 (some (.cell (some (.ref vC))))).iP .j3 0 (some (.dict D))
structure RH(ρ:Loc):Prop where
 rows:ρ .gi=some (.ref j1)
 order:ρ .hV=some (.ref oj)
structure Hl(n0:Nat)(σ0:Hp)(S:St)(T:Nat→Str)(n:Nat)(fs:List lO)(σ:Hp)(ρ:Loc)(D:List (Str×V)):Prop where
 H:RK n0 σ0 (hS S D) n σ
 hd:HD T fs D
 r:RH ρ
section
variable{cx:Cx}{d:Nat}{γ:Nm→Option I}{ρ:Loc}{σ:Hp}{n0 n n' k i:Nat}{σ0 σ':Hp}{S:St}{P:jP}{Q:V→Hp→Prop}{QQ:Fl→Hp→Loc→Prop}{T:Nat→Str}{D:List (Str×V)}{fs:List lO}
theorem Kz{k:Str}{v:V}{p:Str×V}(h:p∈putD D k v):p.1=k∨∃q∈D,p.1=q.1:=by
 unfold putD at h
 by_cases c:D.any (λp=>p.1==k)=true
 ·rw[if_pos c]at h
  refine(List.mem_map.mp h).elim λq w=>.inr ⟨q,w.1,?_⟩
  rw[←w.2]
  by_cases z:(q.1==k)=true
  ·rw[if_pos z]
  ·rw[if_neg z]
 ·rw[if_neg c]at h
  exact(List.mem_append.mp h).elim (λh=>.inr ⟨p,h,rfl⟩) λh=>.inl (ag.mp h▸rfl)
theorem HD.put(h:HD T fs D){f:lO}(hf:f.2<6):HD T (fs++[f]) (putD D (jh f) (.str (nB T f))):=
 ⟨ab (m9 _ _ _) (ab (bl h.len) (ay (ax.symm:fs.length+[f].length=_))),
  λp hp=>(Kz hp).elim (λe=>⟨f,List.mem_append.mpr (.inr (.head _)),e⟩) λq=>q.elim λq w=>(h.key q w.1).elim λg z=>⟨g,List.mem_append.mpr (.inl z.1),w.2.trans z.2⟩,
  λg hg=>by
   rw[x5]
   by_cases e:g=f
   ·rw[if_pos (congrArg jh e),e]
   ·have ZO:g∈fs:=(List.mem_append.mp hg).resolve_right λq=>e (ag.mp q)
    rw[if_neg λq=>e (oY (h.sm g ZO) hf q)]
    exact h.val g ZO,
  λg hg=>(List.mem_append.mp hg).elim (h.sm g) λq=>by rw[ag.mp q];exact hf⟩
theorem ML{D':List (Str×V)}(H:RK n0 σ0 (hS S D) n σ):RK n0 σ0 (hS S D') n (up σ vC (some (.dict D'))):=by
 have z:=H.iP .j3 0 (some (.dict D'))
 rw[hS,xC]at z
 exact z
theorem Hl.hR(h:Hl n0 σ0 S T n fs σ ρ D):σ vC=some (.dict D):=(h.H.lz .j3 0).trans i9
theorem Hl.cR(h:Hl n0 σ0 S T n fs σ ρ D):σ (.p .gU 3)=some (.cell (some (.ref vC))):=h.H.lz .gU 3
theorem JI(i:Nat):rW i++[(false,i)]=rW (i+1):=by unfold rW;rw[bJ,ar];rfl
theorem Ew(i:Nat):(rW i).length=i:=(ai ..).trans aD
theorem Pl(O:gT cx)(s:Hl n0 σ0 S T n (rW 0) σ ρ [])(h:∀σ' ρ' D,Hl n0 σ0 S T n (rW 3) σ' ρ' D→QQ .next σ' ρ'):W1 cx d Gy gl ρ σ QQ:=
 uv (N:=3) O (by decide) (λi σ' ρ'=>∃D,Hl n0 σ0 S T n (rW i) σ' ρ' D) (gO O ⟨rfl,[],s⟩) (λi σ' ρ' hi q=>q.elim λD q=>
  fT (lL (jr (gY (fV rfl ⟨_,HH hi,gH (r:=.p .gU 3) rfl q.cR (oz O (k:=i) (bk hi (by decide)) (by decide) (fV rfl ⟨rfl,D,q.hR,ao (ab q.hd.len (ay (Ew i))) (bk hi (by decide)),
   fY ⟨_,ML q.H,JI i▸q.hd.put (f:=(false,i)) (bk hi (by decide)),q.r.rows,q.r.order⟩⟩))⟩))))) λσ' ρ' q=>q.elim λD q=>h σ' ρ' D q
theorem TP(O:gT cx){row:List lO}(hl:row.length≤100)(s:Hl n0 σ0 S T n fs σ ρ D)(hm:∀f∈row,f∈fs)(rr:σ j1=some (.list ((az P.n).map λk=>.ref (mD k))))(hk:k<P.n)(rk:σ (mD k)=some (.list (sV (row.map jh))))(r2:ρ .lS=some (.int (k:Int)))
  (h:Q (.ref (.gq n)) (up σ (.gq n) (some (.list (sV (row.map (nB T))))))):WE cx d Lh gl ρ σ Q:=by
 have em:∀{g:lO→Str} (l:List lO),sV (l.map g)=l.map λf=>V.str (g f):=λl=>bB
 rw[em]at rk h
 refine uW (src:=row) (f:=λf=>.str (jh f)) (r:=mD k) (z:=.gq n) rfl (ab hl (by decide)) (λi l σ'=>l=(row.take i).map (λf=>V.str (nB T f))∧σ'=up σ (.gq n) (some (.list l))) (λx hx=>⟨.p .gU 3,by rw[ag.mp (show x∈[Nm.j3]from hx)];rfl⟩)
  (jr (fV s.r.rows (fV r2 ⟨_,wQ rr hk,rfl,rk,s.H.no,rfl,rfl⟩))) (λi l σ' q=>?_) (λi a l σ' e q ρ'=>?_) λl σ' q=>?_
 ·rw[q.2,q.1]
  exact⟨fW _ _ _,by rw[ai,aO];exact bp _ _,sk (nf rfl) rk⟩
 ·rw[q.2,q.1]
  exact jr (Q:=Nc (.gq n) (λi l σ'=>l=(row.take i).map (λf=>V.str (nB T f))∧σ'=up σ (.gq n) (some (.list l))) i ((row.take i).map λf=>V.str (nB T f))) (gH (r:=.p .gU 3) rfl (sk (nf rfl) s.cR) (fV rfl ⟨_,mI (sk (nf rfl) s.hR) (s.hd.val a (hm a (aE e))),fW _ _ _,by rw[bg,e,ar];rfl,lD _ _ _ _⟩))
 ·rw[q.2,q.1,aV]
  exact h
theorem K4(K:rG P)(o:zq P)(hi:P.order[i]?=some k){f:lO}(hf:f∈P.row k):f∈rW 3++outs (P.order.take i):=by
 have hk:k<P.n:=o.mem.mp (aE hi)
 refine List.mem_append.mpr ?_
 cases e:f.1 with
 |false=>exact .inl (List.mem_map.mpr ⟨f.2,aM.mpr (K.rs k hk f hf e),(cH e rfl:f=(false,f.2)).symm⟩)
 |true=>
  have w:=K.dep k hk f.2 (lU.mpr (xo e▸hf))
  have lt:=w.2
  rw[o.rk,o.rk,DZ o.nd hi]at lt
  have h1:=List.idxOf_lt_length_iff.mpr (o.mem.mpr w.1)
  exact .inr (List.mem_map.mpr ⟨f.2,List.mem_take_iff_getElem.mpr ⟨P.order.idxOf f.2,Nat.lt_min.mpr ⟨lt,h1⟩,cU h1⟩,(xo e).symm⟩)
theorem Ke(hi:P.order[i]?=some k):(rW 3++outs (P.order.take i))++[(true,k)]=rW 3++outs (P.order.take (i+1)):=by
 rw[bg,hi,bD,outs,outs,ar];rfl
theorem D9(o:zq P)(i:Nat):(rW 3++outs (P.order.take i)).length≤3+P.n:=by
 rw[ax,Ew,outs,ai,aO,o.len]
 exact aW (a8 _ _) 3
theorem Ol(O:gT cx)(F:gK cx)(K:rG P)(o:zq P)(hT:UN P T)(s:Hl n0 σ0 S T n (rW 3) σ ρ D)(Z5:RW P S)(ho:S.pp .hV 0=some (.list (iV P.order)))
  (h:∀n' σ' ρ' D,Hl n0 σ0 S T n' (rW 3++outs P.order) σ' ρ' D→QQ .next σ' ρ'):W1 cx (d+1) M1 gl ρ σ QQ:=by
 refine jO (l:=P.order) (f:=λk:Nat=>V.int (k:Int)) (r:=oj) rfl (λi σ' ρ'=>∃n' D,Hl n0 σ0 S T n' (rW 3++outs (P.order.take i)) σ' ρ' D) (fV s.r.order ⟨rfl,n,D,s.H,(aU (rW 3)).symm▸s.hd,s.r⟩) (λi σ' ρ' q=>q.elim λn' q=>q.elim λD q=>(q.H.lz .hV 0).trans ho)
  (λi k σ' ρ' e q=>q.elim λn' q=>q.elim λD q=>?_) λσ' ρ' q=>q.elim λn' q=>q.elim λD q=>h n' σ' ρ' D (aV (l:=P.order)▸q)
 have hk:k<P.n:=o.mem.mp (aE e)
 have k6:=ae hk K.n6
 have H₂:=q.H.new (some (.list (sV ((P.row k).map (nB T)))))
 have q':Hl n0 σ0 S T n' (rW 3++outs (P.order.take i)) σ' (up ρ' .lS (some (.int (k:Int)))) D:=⟨q.H,q.hd,q.r.rows,q.r.order⟩
 have ev:txt k ((P.row k).map (nB T))=nB T (true,k):=(hT.eq k hk).symm
 exact fT (lL (wk O (F _) (fX (fV rfl (fX (TP (P:=P) (k:=k) O (K.Ki k hk) q' (λf hf=>K4 K o e hf) ((q.H.lz .gi 0).trans Z5.rows) hk ((q.H.lz .mq k).trans (Z5.row k hk)) rfl (fZ (jE ⟨rfl,rfl,yn (d:=d) O (k:=k) k6 (fW _ _ _) (hT.sm k hk)
  (gH (r:=.p .gU 3) rfl (sk (nf rfl) q.cR) (oz O (k:=k) k6 (by decide) (fV rfl ⟨rfl,D,sk (nf rfl) q.hR,ao (ab q.hd.len (D9 o i)) (ao (aW K.n6 3) (by decide)),fY ⟨n'+1,_,ev▸ML H₂,Ke e▸q.hd.put (f:=(true,k)) k6,q.r.rows,q.r.order⟩⟩)))⟩))))))))
end
end
mutual
def TO(xU:Option O)(fl:Fl)(σ:Hp)(ρ:Loc):Prop:=fl=.ret (.bool true)∧σ tV=xU
def xd(s:List Int)(ob:Obj):Hp:=RL tV (.p .gU 1) (.p .gU 2) (.p .gU 3) (s.map V.int) ob
def Yb(s:List Int)(ob:Obj):St:=⟨0,λx j=>xd s ob (.p x j),λZ Z=>false,λZ=>none,λZ=>none,λZ=>none,none⟩
section
variable{cx:Cx}{d:Nat}{γ:Nm→Option I}{ρ:Loc}{σ:Hp}{n0 n n' k i:Nat}{σ0 σ':Hp}{S:St}{P:jP}{Q:V→Hp→Prop}{QQ:Fl→Hp→Loc→Prop}{T:Nat→Str}{D:List (Str×V)}{fs:List lO}{B:Lb}{wl:Nat}{w:Fs}{sv:List Nat}{cnt cd:Nat→Nat}{s:List Int}{ob:Obj}{ts:Bool}{ms:List MS}{xU:Option O}
theorem JK(o:zq P)(li:LI P S ts T w sv cnt wl)(al:∀k,k<P.n→k∈sv){W:List (Str×V)}(hW:∀f:lO,f.2<6→W.lookup (jh f)=(w f).map kU)(hD:HD T (rW 3++outs P.order) D):∀f∈rW 3++outs P.order,∃c,W.lookup (jh f)=some (kU (c,nB T f)):=λf hf=>by
 rw[hW f (hD.sm f hf)]
 exact(List.mem_append.mp hf).elim (λq=>(List.mem_map.mp q).elim λj h=>⟨j,by rw[←h.2,li.src j (aM.mp h.1)];rfl⟩) λq=>(List.mem_map.mp q).elim λj h=>(li.out j (al j (o.mem.mp h.1))).elim λc e=>⟨c,by rw[←h.2,e];rfl⟩
theorem Jk{r:I}{x:Str}{v:V}(h:σ r=some (.nD D ob))(e:D.lookup x=some v):wZ σ (.ref r) (.str x)=some v:=by
 show SA (σ r) none (λl=>l.lookup x)=_
 rw[h]
 exact e
theorem Uh(O:gT cx)(K:rG P)(o:zq P){W:List (Str×V)}(h:Hl n0 σ0 S T n (rW 3++outs P.order) σ ρ D)(hc:S.pp .gU 1=some (.cell (some (.ref kz))))(hw:S.pp .gF 0=some (.dict W))(hs:S.pp .hH 0=xU)(hv:∀f∈rW 3++outs P.order,∃c,W.lookup (jh f)=some (kU (c,nB T f))):WS cx d [L9] gl ρ σ (TO xU):=by
 have c1:=(h.H.lz .gU 1).trans hc
 have wR:=(h.H.lz .gF 0).trans hw
 have H₄:=h.H.new (some (.list []))
 refine fT (iA (CC (Kd (r:=vC) (z:=.gq n) (D:=D) rfl (λx hx=>?_) (nf rfl) (ab (ab h.hd.len (aV (l:=P.order)▸D9 o _)) (ab (aW K.n6 3) (by decide))) h.H.no h.hR (λq=>gH (r:=.p .gU 3) rfl h.cR q) (λp hp ob ρ'=>(h.hd.key p hp).elim λf q=>(hv f q.1).elim λc hc=>?_) ?_)))
 ·exact(List.mem_cons.mp (show x∈[Nm.gF,.j3]from hx)).elim (λe=>⟨.p .gU 1,by rw[e];rfl⟩) λm=>⟨.p .gU 3,by rw[ag.mp m];rfl⟩
 ·rw[q.2]
  exact gv (jr (jr (gH (r:=.p .gU 1) rfl (p4 rfl c1) (fV rfl ⟨kU (c,nB T f),mI (p4 rfl wR) hc,gO O ⟨.str (nB T f),rfl,jr (gH (r:=.p .gU 3) rfl (p4 rfl h.cR) (fV rfl ⟨.str (nB T f),Jk (sk (nf rfl) (fW _ _ _)) (h.hd.val f q.1),false,ne_str _,rfl,rfl⟩))⟩⟩))))
 ·exact iQ (fZ ⟨aw _,.gq (n+1),H₄.no,true,ID (l:=[]) (j0 (av (ak _)) (fW _ _ _)) (fW _ _ _) rfl,rfl,p4 rfl ((h.H.lz .hH 0).trans hs)⟩)
theorem LL(O:gT cx)(F:gK cx)(g:Lg B)(b:Iu B i wl true σ ρ):WS cx (d+8) [Kq,Gy,M1,L9] gl ρ σ (TO B.xU):=b.casesOn λn S w sv cnt H L lr al=>by
 refine fT (lN rfl (lI O (r:=vC) ((H.lz _ _).trans L.mm.hl) ⟨.p .gU 3,none,rfl,sk (nf rfl) ((H.lz _ _).trans L.cs.c3),?_⟩))
 have H₁:=(H.iP .j3 0 (some (.dict []))).iP .gU 3 (some (.cell (some (.ref vC))))
 have e₁:up (up (up σ vC (some (.dict []))) (.p .gU 3) (some (.cell (some (.ref vC))))) vC (some (.dict []))=_:=Ep (sk (nf rfl) (fW _ _ _))
 have ni:∀{p:lO→Prop},∀x∈rW 0,p x:=λx m=>absurd m aj
 refine fT (Pl (T:=B.T) (S:=S) O ⟨e₁▸H₁.iP .j3 0 (some (.dict [])),⟨aw _,λp m=>absurd m aj,ni,ni⟩,lr.rows,lr.order⟩ λσ₂ ρ₂ D₂ s=>fT (Ol (d:=d+7) O F g.K g.o g.T s L.li.rw L.mm.ord λn₃ σ₃ ρ₃ D₃ h=>?_))
 exact L.li.pp.wd.elim λW q=>Uh O g.K g.o h L.cs.c1 q.1 L.mm.xU (JK g.o L.li (al rfl) q.2.2 h.hd)
theorem M3(O:gT cx)(F:gK cx)(NS:o9 cx)(g:∀nu,Lg (JR P ts (some (.oL (s.map V.int) ob)) n0 σ0 nu))(a:QP P ts (some (.oL (s.map V.int) ob)) n0 σ0 S n σ ρ)
  (h:∀nu i wl σ' ρ',Iu (JR P ts (some (.oL (s.map V.int) ob)) n0 σ0 nu) i wl true σ' ρ'→WS cx (d+8) ms gl ρ' σ' QQ):WS cx (d+8) (Kv::Hn::ms) gl ρ σ QQ:=by
 have l8:((s.take 15).drop 7).length≤8:=by
  rw[cJ,aO]
  exact eu (bp 15 _) 7
 have sl:pW (some 7) (some 15) (s.map V.int)=((s.take 15).drop 7).map V.int:=B4 s 7 15
 generalize (s.take 15).drop 7=nu at l8 sl
 refine fT (jO (l:=nu) (f:=V.int) (r:=.p .iW 0) rfl (λi σ' ρ'=>Iu (JR P ts (some (.oL (s.map V.int) ob)) n0 σ0 nu) i (3+7*i) false σ' ρ') (sU (fV a.r0 (gO O ⟨7,rfl,gO O ⟨15,rfl,tV,_,.p .iW 0,rfl,.inr ⟨_,(a.H.lz .hH 0).trans a.sc⟩,rfl,rfl,(a.H.lz _ _).trans a.nn,rfl,?_⟩⟩)))
  (λi σ' ρ' b=>b.casesOn λn S w sv cnt H L lr al=>(H.lz .iW 0).trans L.mm.num) (λi x σ' ρ' e b=>?_) λσ' ρ' b=>?_)
 ·rw[sl]
  exact⟨n,_,w0 3,[],KH,a.H.iP .iW 0 _,a.L nu,a.lr,λe=>bf e⟩
 ·have hi:=ae (mE e) l8
  exact OK (d:=d) O F NS (g nu) b (ab (aW (bo 7 (aY hi)) 3) (by decide)) λσ₂ ρ₂ b=>b
 ·exact fT (uv (N:=2) O (by decide) (λi σ' ρ'=>Iu (JR P ts (some (.oL (s.map V.int) ob)) n0 σ0 nu) nu.length (3+7*nu.length+7*i) (fG 0 i) σ' ρ') (gO O ⟨rfl,b.casesOn λn S w sv cnt H L lr al=>⟨n,S,w,sv,cnt,H,L,lr,λe=>bf e⟩⟩)
   (λi σ₁ ρ₁ hi b=>Pp (d:=d) O F NS (g nu) (b.turn _) (ab (bz (aW (bo 7 l8) 3) (bo 7 (aY hi))) (by decide)) λσ₂ ρ₂ b=>b) λσ₁ ρ₁ b=>h nu _ _ σ₁ ρ₁ b)
theorem Sk{x:Nm}(h1:x≠.hH)(h2:x≠.gU)(j:Nat):xd s ob (.p x j)=none:=
 have n:∀{i},I.p x j≠.p .gU i:=λe=>h2 (I.Q2 e)
 (gD _ _ n).trans ((gD _ _ n).trans ((gD _ _ n).trans (gD _ _ λe=>h1 (I.Q2 e))))
theorem rk0:RK 0 (xd s ob) (Yb s ob) 0 (xd s ob):=by
 refine⟨aL _,λZ Z=>rfl,λr hr=>?_,λm Z=>ue rfl rfl⟩
 cases r with
 |p x k=>rfl
 |gq n=>exact bf hr
 |vals b k=>exact ue rfl rfl
 |t b k x=>exact(ue rfl rfl:xd s ob (.t b k x)=none).trans (ite_self none).symm
 |n b k x i=>exact(ue rfl rfl:xd s ob (.n b k x i)=none).trans (ite_self none).symm
 |u b x=>exact(ue rfl rfl:xd s ob (.u b x)=none).trans (ite_self none).symm
 |q b x=>exact(ue rfl rfl:xd s ob (.q b x)=none).trans (ite_self none).symm
theorem Ui(O:gT cx)(F:gK cx)(NS:o9 cx):WS cx (d+8) yU gl (up (λZ=>none) .hH (some (.ref tV))) (xd s ob) (TO (some (.oL (s.map V.int) ob))):=by
 have z:∀x,x≠.hH→x≠.gU→∀j,(Yb s ob).pp x j=none:=λx h1 h2 j=>Sk h1 h2 j
 refine Ld (d:=d+7) (S:=Yb s ob) (s:=s) (ob:=ob) O F rk0 (show xd s ob tV=_ from sk (nf rfl) (sk (nf rfl) (sk (nf rfl) (fW _ _ _)))) z rfl λts n₁ σ₁ pp₁ P ρ₁ w r=>?_
 refine Lu (ts:=ts) (xU:=some (.oL (s.map V.int) ob)) O w.K w.H ⟨w.ord,w.rw,λZ Z=>rfl,λx a b c e f g j=>(w.pt x j a b c e).trans (z x f g j),(w.pt .gU 1 (nf rfl) (nf rfl) (nf rfl) (nf rfl)).trans (show xd s ob (.p .gU 1)=_ from sk (nf rfl) (sk (nf rfl) (fW _ _ _))),(w.pt .gU 2 (nf rfl) (nf rfl) (nf rfl) (nf rfl)).trans (show xd s ob (.p .gU 2)=_ from sk (nf rfl) (fW _ _ _)),(w.pt .gU 3 (nf rfl) (nf rfl) (nf rfl) (nf rfl)).trans (show xd s ob (.p .gU 3)=_ from fW _ _ _),(w.pt .hH 0 (nf rfl) (nf rfl) (nf rfl) (nf rfl)).trans (show xd s ob tV=_ from sk (nf rfl) (sk (nf rfl) (sk (nf rfl) (fW _ _ _))))⟩ r λσ₂ S₂ ρ₂ a=>?_
 exact M3 O F NS (λnu=>⟨w.K,w.o,QM w.K w.o⟩) a λnu i wl σ₃ ρ₃ b=>LL O F ⟨w.K,w.o,QM w.K w.o⟩ b
end
end
mutual
def LG(K:Frag):Bool:=K.all λp=>!(p.2.cls==.type "list")
theorem J9{K:Frag}(h:LG K=true){a:Addr}{o:Obj}(e:K.lookup a=some o):o.cls≠.type "list":=λq=>bf ((oK (List.all_eq_true.mp h (a,o) (mem_of_lookupK e))).symm.trans (beq_iff_eq.mpr q))
structure Ih(K:Frag)(c:pL)(a:Nm)(f:Fn)(p:Addr):Prop where
 pa:c.attr a=some (.ref p)
 rc:(recIn K p "staticmethod").map (·.take 1)=some [.ref f.addr]
 gt:specialIn K (.ref p) "__get__"=some (some UG)
 tk:takesIn K (.ref p)=some false
 ty:typeIn K (.ref p)=some (.type "staticmethod")
 rd:readsIn K c.addr (.type "type")=true
 fc:findCls K (.ref c.addr) (.type "type") a.str=some (.get UG (.ref p) .none (.ref c.addr))
 cp:copiedNames.contains a.str=false
 me:specialIn K (.ref c.addr) "__getattribute__"=some (some (.builtin "type.__getattribute__"))
theorem take_one{α:Type}{o:Option (List α)}{x:α}(h:o.map (·.take 1)=some [x]):∃r,o=some (x::r):=by
 cases o with
 |none=>exact nn h
 |some l=>
  cases l with
  |nil=>exact absurd (Option.some.inj (show some ([]:List α)=some [x]from h)) (b5 _ _).symm
  |cons y r=>exact⟨r,congrArg (λz=>some (z::r)) (List.cons.inj (Option.some.inj (show some [y]=some [x]from h))).1⟩
theorem Ih.ok{K:Frag}{c:pL}{a:Nm}{f:Fn}{p:Addr}(q:Ih K c a f p):Kt K c a f:=
 ⟨(take_one q.rc).elim λr e=>⟨p,r,q.pa,e,q.gt,q.tk,q.ty,q.rd,q.fc⟩,q.cp,q.me⟩
def nestD(K:Frag)(f:Fn)(x:Nm)(q:Addr×Addr):Option jZ:=((lF K f).body[1]?).bind (tC q (((lF K f).qual++".<locals>.")++x.str))
def mK(K:Frag)(x:Nm):Option jZ:=if x=.jd then nestD K .gP .jd (591,587)else if x=.gE then nestD K .gB .gE (868,864)else none
def mR:List (Addr×Addr):=[(868,864),(591,587)]
def Qr(K:Frag)(sc:Scope)(m:MS)(ms:List MS)(x:Nm)(l:List Stmt):Bool:=l.casesOn false λs1 l=>l.casesOn false λs2 l=>[NR K sc m s1,Rh x s2,rg sc x,qE K sc ms l].all id
def IK(K:Frag)(ps fr:List Nm)(ms:List MS)(d:jZ):List Bool:=
 [d.params.posonlyargs.isEmpty,decide (d.params.args.map (·.arg)=ps.map (·.str)),d.params.vararg.isNone,d.params.kwonlyargs.isEmpty,d.params.kwarg.isNone,d.scope.kind==.function,!d.scope.isCoroutine,!d.scope.isGenerator,decide (ps.map (·.i)).Nodup,
  ps.all (λy=>d.scope.names.lookup y.str==some .local),d.scope.names.all (λy=>!(y.2==.cell)),d.scope.names.all (λy=>!(y.2==.free)||fr.any λz=>z.str==y.1),fr.all (λz=>d.scope.names.any λy=>y==(z.str,.free)),qE K d.scope ms d.body]
def NB(K:Frag)(ps fr:List Nm)(ms:List MS)(o:Option jZ):Bool:=o.casesOn false λd=>(IK K ps fr ms d).all id
theorem ES{cx:Cx}{f:Fn}{x:Nm}{m:MS}{ms:List MS}{q:Addr×Addr}{qual:Str}(h0:OT cx.K f=true)(e:f.body=m::.Uo x::ms)(h:Qr cx.K (lF cx.K f).scope m ms x (lF cx.K f).body=true)(hn:cx.nest x=((lF cx.K f).body[1]?).bind (tC q qual)):∃r,um cx f r:=by
 refine⟨_,HF h0 ?_⟩
 rw[e]
 generalize (lF cx.K f).body=l at h hn
 cases l with
 |nil=>exact bf h
 |cons s1 l=>
  cases l with
  |nil=>exact bf h
  |cons s2 l=>exact⟨s1,_,rfl,Iw (iH h 0 rfl),s2,l,rfl,TB (K:=cx.K) hn (iH h 1 rfl) (iH h 2 rfl),wH (iH h 3 rfl)⟩
theorem rec_eq{cx:Cx}{f:Fn}{r:rJ}(F:um cx f r):(lF cx.K f).LZ=r.LZ∧(lF cx.K f).qual=r.qual:=by
 unfold lF
 rw[F.at_]
 exact⟨rfl,rfl⟩
structure Ub(cx:Cx)(x:Nm)(d:jZ)(q:Addr×Addr)(qual:Str):Prop where
 at_:cx.nest x=some d
 uniq:∀z d',cx.nest z=some d'→d'.tab=d.tab→d'=d
 tab:q∈cx.tabs
 tabs:∀p∈cx.tabs,p.2=q.2→p=q
 hd:CodeHd cx.h0 q.1 q.2
 bm:∃bm ob,cx.mg "__builtins__"=some (.ref bm)∧bm≠builtinsNs∧cx.h0.get? bm=some ob∧ob.cls=.type "module"∧ob.dict=some builtinsNs∧ob.data=.plain
 e1:d.tab=q
 e2:d.qual=qual
theorem GX{cx:Cx}{f:Fn}{x:Nm}{d:jZ}{ps fr:List Nm}{ms:List MS}{q:Addr×Addr}(A:Ub cx x d q (((lF cx.K f).qual++".<locals>.")++x.str))(hc:(lF cx.K f).LZ=.ref q.1)(h:(IK cx.K ps fr ms d).all id=true):vQ cx f x d ps fr ms:=
 ⟨A.at_,A.uniq,A.e1.symm▸A.tab,A.e1.symm▸A.tabs,A.e1.symm▸A.hd,A.bm,λr F=>⟨by rw[←(rec_eq F).1,A.e1];exact hc,by rw[←(rec_eq F).2,A.e2]⟩,empty_eq (iH h 0 rfl),jL (iH h 1 rfl),Option.isNone_iff_eq_none.mp (iH h 2 rfl),empty_eq (iH h 3 rfl),Option.isNone_iff_eq_none.mp (iH h 4 rfl),beq_iff_eq.mp (iH h 5 rfl),oK (iH h 6 rfl),oK (iH h 7 rfl),CP (jL (iH h 8 rfl)),
  λy hy=>beq_iff_eq.mp (List.all_eq_true.mp (iH h 9 rfl) y hy),λy hy e=>bf ((oK (List.all_eq_true.mp (iH h 10 rfl) y hy)).symm.trans (beq_iff_eq.mpr e)),λy hy e=>(tU (List.all_eq_true.mp (iH h 11 rfl) y hy)).elim (λz=>bf ((oK z).symm.trans (beq_iff_eq.mpr e))) λz=>(List.any_eq_true.mp z).elim λv w=>⟨v,w.1,beq_iff_eq.mp w.2⟩,
  λz hz=>(List.any_eq_true.mp (List.all_eq_true.mp (iH h 12 rfl) z hz)).elim λy w=>beq_iff_eq.mp w.2▸w.1,wH (iH h 13 rfl)⟩
def fnAt(i:Nat):Fn:=if h:fG i 67=true then ⟨i,h⟩else ⟨0,rfl⟩
theorem U6(f:Fn):fnAt f.i=f:=dif_pos f.h
def HA(K:Frag)(f:Fn):Bool:=if f=.gP then true else if f=.gB then true else Rr K f
def Q5(K:Frag)(f:Fn)(x:Nm):Bool:=OT K f&&Qr K (lF K f).scope (f.body.headD .pass) (f.body.drop 2) x (lF K f).body
def yd(K:Frag)(a:Nat):Bool:=(az 10).all λi=>HA K (fnAt (a+i))
structure UB(K:Frag):Prop where
 f0:yd K 0=true
 f1:yd K 10=true
 f2:yd K 20=true
 f3:yd K 30=true
 f4:yd K 40=true
 f5:yd K 50=true
 f6:yd K 57=true
 cls:pL.all.all (KD K)=true
 attr:pL.all.all (Hj K)=true
 s1:Ih K .iy .k8 .jW 844
 s2:Ih K .iy .lu .il 854
 nol:LG K=true
 PT:findIn K (.type "str") "__get__"=some none
 vT:isIn K (.ref pL.Task.addr) pL.Task.addr=true
 g1:Q5 K .gP .jd=true
 g2:Q5 K .gB .gE=true
 n1:NB K [.i8,.nP] [.fU] r8 (nestD K .gP .jd (591,587))=true
 n2:NB K [.uA,.ot] [.jz,.fU] nz (nestD K .gB .gE (868,864))=true
 d1:(lF K .gP).LZ=.ref 591
 d2:(lF K .gB).LZ=.ref 868
theorem HZ(c:pL):c∈pL.all:=by cases c<;>decide
theorem AE{K:Frag}{a:Nat}(h:yd K a=true)(f:Fn)(h1:a≤f.i)(h2:f.i<a+10):HA K f=true:=by
 have w:=List.all_eq_true.mp h (f.i - a) (aM.mpr (Nat.sub_lt_left_of_lt_add h1 h2))
 rw[eP h1,U6]at w
 exact w
theorem Fn.lt(f:Fn):f.i<67:=ae (ak _) (au f.h)
theorem UB.fx{K:Frag}(c:UB K)(f:Fn):HA K f=true:=
 (dz f.i 10).elim (AE c.f0 f (aw _)) λg=>(dz f.i 20).elim (AE c.f1 f g) λg=>(dz f.i 30).elim (AE c.f2 f g) λg=>(dz f.i 40).elim (AE c.f3 f g) λg=>(dz f.i 50).elim (AE c.f4 f g) λg=>(dz f.i 60).elim (AE c.f5 f g) λg=>AE c.f6 f (ab (by decide) g) f.lt
section
variable{cx:Cx}
theorem Vt(c:UB cx.K)(hn:cx.nest=mK cx.K):gK cx:=λf=>by
 have w:=c.fx f
 unfold HA at w
 by_cases e1:f=.gP
 ·exact e1▸ES (q:=(591,587)) (x:=.jd) (f7 c.g1).1 rfl (f7 c.g1).2 ((congrFun hn _).trans (show mK cx.K .jd=nestD cx.K .gP .jd (591,587)from if_pos rfl))
 ·rw[if_neg e1]at w
  by_cases e2:f=.gB
  ·exact e2▸ES (q:=(868,864)) (x:=.gE) (f7 c.g2).1 rfl (f7 c.g2).2 ((congrFun hn _).trans (show mK cx.K .gE=nestD cx.K .gB .gE (868,864)from(if_neg (nf rfl)).trans (if_pos rfl)))
  ·rw[if_neg e2]at w
   exact NJ w
theorem u9{q:Addr×Addr}{qual:Str}{o:Option Stmt}{d:jZ}(h:o.bind (tC q qual)=some d):d.tab=q∧d.qual=qual:=by
 cases o with
 |none=>exact nn h
 |some st=>
  have h:tC q qual st=some d:=h
  by_cases c:st.ctorIdx=0
  ·exact cP (motive_2:=λst=>tC q qual st=some d→d.tab=q∧d.qual=qual) st c (λn ps b ds rt tp sc ts bd p h=>Option.some.inj (show some (⟨n,qual,ps,b,sc,p,q⟩:jZ)=some d from h)▸⟨rfl,rfl⟩) h
  ·exact nn ((by unfold tC H2;exact dif_neg c:tC q qual st=none).symm.trans h)
theorem Cd{K:Frag}{z:Nm}{d:jZ}(e:mK K z=some d):(z=.jd∧d.tab=(591,587))∨(z=.gE∧d.tab=(868,864)):=by
 unfold mK at e
 by_cases e1:z=.jd
 ·rw[if_pos e1]at e;exact .inl ⟨e1,(u9 e).1⟩
 ·rw[if_neg e1]at e
  by_cases e2:z=.gE
  ·rw[if_pos e2]at e;exact .inr ⟨e2,(u9 e).1⟩
  ·rw[if_neg e2]at e;exact nn e
theorem MW{K:Frag}{x z:Nm}{d d':jZ}(e:mK K x=some d)(e':mK K z=some d')(et:d'.tab=d.tab):d'=d:=
 have same:z=x→d'=d:=λq=>Option.some.inj (e'.symm.trans ((congrArg (mK K) q).trans e))
 have no:∀{p:Prop},(591,587)=((868,864):Addr×Addr)→p:=λq=>absurd (congrArg Prod.fst q) (by decide)
 (Cd e).elim (λa=>(Cd e').elim (λb=>same (b.1.trans a.1.symm)) λb=>no (a.2.symm.trans (et.symm.trans b.2))) λa=>(Cd e').elim (λb=>no (b.2.symm.trans (et.trans a.2))) λb=>same (b.1.trans a.1.symm)
def Bm(cx:Cx):Prop:=∃bm ob,cx.mg "__builtins__"=some (.ref bm)∧bm≠builtinsNs∧cx.h0.get? bm=some ob∧ob.cls=.type "module"∧ob.dict=some builtinsNs∧ob.data=.plain
theorem LM:∀p∈mR,∀q∈mR,p.2=q.2→p=q:=(by decide:∀p∈[((868,864):Nat×Nat),(591,587)],∀q∈[((868,864):Nat×Nat),(591,587)],p.2=q.2→p=q)
theorem HC{f:Fn}{x:Nm}{ps fr:List Nm}{ms:List MS}{q:Addr×Addr}(hn:cx.nest=mK cx.K)(ht:cx.tabs=mR)(hd:CodeHd cx.h0 q.1 q.2)(bm:Bm cx)(hq:q∈mR)(ex:mK cx.K x=nestD cx.K f x q)(hc:(lF cx.K f).LZ=.ref q.1)(h:NB cx.K ps fr ms (nestD cx.K f x q)=true):∃d,vQ cx f x d ps fr ms:=by
 cases e:nestD cx.K f x q with
 |none=>rw[e]at h;exact bf h
 |some d=>
  rw[e]at h
  have ea:=ex.trans e
  exact⟨d,GX ⟨hn▸ea,λz d' e'=>MW ea (hn▸e'),ht▸hq,λp hp=>LM p (ht▸hp) _ hq,hd,bm,(u9 e).1,(u9 e).2⟩ hc h⟩
theorem Vh(c:UB cx.K)(hn:cx.nest=mK cx.K)(ht:cx.tabs=mR)(c1:CodeHd cx.h0 868 864)(c2:CodeHd cx.h0 591 587)(bm:Bm cx):o9 cx:=
 ⟨HC (q:=(591,587)) hn ht c2 bm (.tail _ (.head _)) (if_pos rfl) c.d1 c.n1,HC (q:=(868,864)) hn ht c1 bm (.head _) ((if_neg (nf rfl)).trans (if_pos rfl)) c.d2 c.n2⟩
end
end
mutual
theorem ED{h:Heap}{a b:Addr}{o:Obj}(e:(hideAll h [a]).get? b=some o):h.get? b=some o:=of_hideAll _ e
theorem uV{h:Heap}{a b:Addr}{o:Obj}(e:h.get? b=some o)(hb:b≠a):(hideAll h [a]).get? b=some o:=hideAll_get _ e λm=>hb (ag.mp m)
theorem yR{h:Heap}{a G:Addr}{m:Str→Option Value}{items:Array Value}(hl:h.IsList a items)(N:h.Ns G m):(hideAll h [a]).Ns G m:=
 N.elim λo q=>q.elim λes q=>q.elim λep q=>⟨o,es,ep,uV q.1 λe=>hl.elim λo' w=>w.2.2.elim λn hd'=>bA (hd'.symm.trans ((congrArg cy (Option.some.inj (w.1.symm.trans (e▸q.1)))).trans q.2.1)),q.2⟩
theorem kOk{cx:Cx}{h:Heap}{a:Addr}{items:Array Value}{p:Program}{loose:List Str}{Ue:ExcName→Option Value}(c:UB cx.K)(hh:cx.h0=hideAll h [a])(hl:h.IsList a items)(X:cx.K.In h)(T:Top p loose Ue cx.mg cx.mb h):gT cx where
 X:=hh▸λb o e=>uV (X b o e) λq=>hl.elim λo' w=>J9 c.nol e ((congrArg Obj.cls (Option.some.inj ((X b o e).symm.trans (q▸w.1)))).trans w.2.1)
 g:=hh▸yR hl T.g
 b:=hh▸yR hl T.b
 bb:=T.builtins
 nolimit:=hh▸T.nolimit.elim λmc q=>q.elim λn q=>⟨mc,yR hl n,q⟩
 nodigits:=hh▸T.nodigits.elim λmc q=>⟨mc,yR hl q.1,q.2⟩
 cls:=λk=>Je (List.all_eq_true.mp c.cls k (HZ k)) (List.all_eq_true.mp c.attr k (HZ k))
 S6:=List.forall_mem_cons.mpr ⟨c.s1.ok,List.forall_mem_cons.mpr ⟨c.s2.ok,λq m=>absurd m aj⟩⟩
 PT:=c.PT
 vT:=c.vT
theorem PK{a z:Nat}(h:a<z):[a,z+1,z+1+1,z+1+1+1].Nodup∧z∉[a,z+1,z+1+1,z+1+1+1]:=by
 constructor
 ·simp;omega
 ·simp;omega
theorem room{env:Env}:nU (callerA.deeper env) 8:=
 ⟨rfl,by show 1+claimMargin+1+4*8+10≤900;decide,by show 4+3+40*8+100≤9000;decide⟩
theorem nd4:[tV,I.p .gU 1,I.p .gU 2,I.p .gU 3].Nodup:=
 List.nodup_cons.mpr ⟨λm=>(List.mem_cons.mp m).elim (nf rfl) λm=>(List.mem_cons.mp m).elim (nf rfl) λm=>nf rfl (ag.mp m),List.nodup_cons.mpr ⟨λm=>(List.mem_cons.mp m).elim (nf rfl) λm=>nf rfl (ag.mp m),List.nodup_cons.mpr ⟨λm=>nf rfl (ag.mp m),List.nodup_cons.mpr ⟨aj,.nil⟩⟩⟩⟩
structure Vf(s1:Shared)(h1:Heap)(g:Heap)(r:DefRec)(env:Env)(a:Addr)(m:Str→Option Value)(vs:List Value)(l:List Int)(o1 o2 o3:Obj):Prop where
 F:PyProof.Rows.Fr g s1.heap.objs.size h1 m
 c1:CodeHd g 868 864
 c2:CodeHd g 591 587
 N:News g s1.heap.objs.size h1 [(s1.heap.objs.size+1+1+1,o3),(s1.heap.objs.size+1+1,o2),(s1.heap.objs.size+1,o1),(864,tabObj #[]),(587,tabObj #[])]
 li:g.IsList a vs.toArray
 hI:IntsAre vs l
 hl:l.length≤100000
 hg:s1.gens=#[]
 hm:m (Nm.str .hH)=some (.ref a)
 d1:o1.data=.cell none
 d2:o2.data=.cell none
 d3:o3.data=.cell none
 hk:r.scope.kind=.function
 e0:An env r.scope
 eL:env.locals=s1.heap.objs.size
 e1:env.cells.lookup (Nm.str .gF)=some (s1.heap.objs.size+1)
 e2:env.cells.lookup (Nm.str .ji)=some (s1.heap.objs.size+1+1)
 e3:env.cells.lookup (Nm.str .j3)=some (s1.heap.objs.size+1+1+1)
def zL(prog:Program)(w:World)(K:Frag)(g:Heap)(a:Addr)(mg mb:Str→Option Value)(s1:Shared):Cx:={prog:=prog,w:=w,K:=K,h0:=hideAll g [a],tabs:=mR,mg:=mg,mb:=mb,drawn:=s1.drawn,os:=s1.os,nest:=mK K}
theorem Yz{prog:Program}{w:World}{K:Frag}{s1:Shared}{h1:Heap}{r:DefRec}{env:Env}{a:Addr}{m:Str→Option Value}{vs:List Value}{l:List Int}{o1 o2 o3:Obj}{mg mb:Str→Option Value}{p:Program}{loose:List Str}{Ue:ExcName→Option Value}{tk:Nat}{A:Around}{Q:Flow→Shared→Prop}{E:Value→Shared→Prop}
  (X:K.In (ghostOf s1.heap mR))(c:UB K)(T:Top p loose Ue mg mb (ghostOf s1.heap mR))(L:Vf s1 h1 (ghostOf s1.heap mR) r env a m vs l o1 o2 o3)(hb:i0 K (mK K) r.scope yU r.body)(hA:nU A 8)
  (k:∀s',(∀b o,(ghostOf s1.heap mR).get? b=some o→s'.heap.get? b=some o)→s'.gens=#[]→s'.os=s1.os→GrownAll mR s'.heap→Q (.ret (.bool true)) s'):
  aB (model prog w) A (execs r.body env) Q E {heap:=h1,gens:=s1.gens,drawn:=s1.drawn,toks:=tk,os:=s1.os}:=by
 have sz:∀{b o},(ghostOf s1.heap mR).get? b=some o→b<s1.heap.objs.size:=λe=>hideAll_size _ s1.heap▸a0 e
 generalize hG:ghostOf s1.heap mR=g at*
 have N:=L.N
 have F:=L.F
 have eL:=L.eL
 have e1:=L.e1
 have e2:=L.e2
 have e3:=L.e3
 generalize s1.heap.objs.size=z at*
 refine L.li.elim λob li=>?_
 have O:gT (zL prog w K g a mg mb s1):=kOk (cx:=zL prog w K g a mg mb s1) c rfl L.li X T
 have Xp:∀b o,g.get? b=some o→o.cls≠.type "list"→(hideAll g [a]).get? b=some o:=λb o e hc=>uV e λq=>hc ((congrArg Obj.cls (Option.some.inj (e.symm.trans (q▸li.1)))).trans li.2.1)
 have cd1:∀b P,CodeHd g b P→CodeHd (hideAll g [a]) b P:=λb P q=>q.elim λo q=>⟨o,q.elim λvs q=>q.elim λfile q=>q.elim λtf q=>q.elim λflags q=>q.elim λtg q=>q.elim λinF q=>q.elim λtext q=>q.elim λtt q=>⟨vs,file,tf,flags,tg,inF,text,tt,Xp b o q.1 (by rw[q.2.1];decide),q.2⟩⟩
 have FN:gK (zL prog w K g a mg mb s1):=Vt (cx:=zL prog w K g a mg mb s1) c rfl
 have NS:o9 (zL prog w K g a mg mb s1):=Vh (cx:=zL prog w K g a mg mb s1) c rfl rfl (cd1 _ _ L.c1) (cd1 _ _ L.c2) (T.bmain.elim λbm q=>q.elim λo q=>⟨bm,o,q.1,q.2.1,Xp bm o q.2.2.1 (by rw[q.2.2.2.1];decide),q.2.2.2⟩)
 have n1:=N (z+1,o1) (.tail _ (.tail _ (.head _)))
 have n2:=N (z+1+1,o2) (.tail _ (.head _))
 have n3:=N (z+1+1+1,o3) (.head _)
 have t1:=N (864,tabObj #[]) (.tail _ (.tail _ (.tail _ (.head _))))
 have t2:=N (587,tabObj #[]) (.tail _ (.tail _ (.tail _ (.tail _ (.head _)))))
 have no:∀b,g.get? b=none→(hideAll g [a]).get? b=none:=λb e=>by
  cases q:(hideAll g [a]).get? b with
  |none=>rfl
  |some o=>exact nn (e.symm.trans (ED q))
 have hL:g.get? z=none:=by
  cases q:g.get? z with
  |none=>rfl
  |some o=>exact absurd (sz q) (a7 _)
 have nd:=PK (sz li.1)
 have key:=tie (cx:=zL prog w K g a mg mb s1) O (d:=8) (A:=A) (env:=env) (sc:=r.scope) (body:=r.body) (ms:=yU) (s:={heap:=h1,gens:=s1.gens,drawn:=s1.drawn,toks:=tk,os:=s1.os}) (m:=m) L.e0 hA L.hg rfl rfl
  (eL.symm▸F.ns) (eL.symm▸no _ hL) (λb o e=>F.keep b o (ED e)) (List.forall_mem_cons.mpr ⟨⟨t1.1,no _ t1.2.2⟩,List.forall_mem_cons.mpr ⟨⟨t2.1,no _ t2.2.2⟩,λq m=>absurd m aj⟩⟩) (rs:=tV) (r1:=.p .gU 1) (r2:=.p .gU 2) (r3:=.p .gU 3) nd4 (a:=a) (c1:=z+1) (c2:=z+1+1) (c3:=z+1+1+1) nd.1 (eL.symm▸nd.2)
  (x:=.hH) (x1:=.gF) (x2:=.ji) (x3:=.j3) L.hm e1 e2 e3 (l:=l) (vs:=vs) (ob:=ob) (F.keep _ _ li.1) ⟨ob,F.keep _ _ li.1,li.2⟩ L.hI L.hl n1.1 L.d1 n2.1 L.d2 n3.1 L.d3
  ⟨hideAll_none _ (.head _),no _ n1.2.2,no _ n2.2.2,no _ n3.2.2⟩ hb (Ui (d:=0) O FN NS)
 refine aZ key (λf s' q=>?_) (λZ Z h=>h.elim)
 rw[q.1]
 refine k s' (λb o e=>?_) q.2.2.2.1 q.2.2.2.2.1 ⟨q.2.2.2.2.2 _ (.head _),q.2.2.2.2.2 _ (.tail _ (.head _)),trivial⟩
 by_cases eb:b=a
 ·rw[eb]at e ⊢
  rw[←Option.some.inj (li.1.symm.trans e)]
  exact q.2.2.1
 ·exact q.2.1 b o (uV e eb)
end
end Mine
namespace Mine.head
local macro_rules
|`(mutual example:=$s:str end)=>do
 let mut a:Array Lean.Name:=#[`PySem.Challenge.pw_ac0013_01]
 for p in s.getString.splitOn "/" do
  let w:=p.splitOn " "
  for r in w.drop 1 do
   let e:=(r.splitOn "-").map String.toNat!
   for k in [e[0]!:e.getLast!+1] do a:=a.push (.str `Mine.head s!"{w[0]!}_1_{k}")
 let b<-a.mapM λn=>`(command|theorem $(Lean.mkIdent (.mkSimple s!"tw{n.hash}")) : True:=⟨⟩)
 `(mutual $b* end)
mutual
example:="env 42/heap 39 48 1532/o 44 46-47 53-54 56 58-66 68-71 73-83 87-88 90-93 95-106 108-115 119-120 122-125 127-134 138 140-143 145-147 149-154 156-167 171 173-177 179-185 189 191-195 197-203 207 209-213 215-221 225 227-231 233-239 243 245-249 251-257 261-262 264-267 269-280 282-289 293 295 297-301 305 307-310 312-314 316-321 323-328 330-335 337-342 344-349 351-356 358-369 373 375-378 380-382 384-389 391-396 398-403 405-410 412-423 427 429-433 435-437 439-444 446-455 459 461-465 467-469 471-476 478-487 491 493-496 498-500 502-508 510-515 517-522 524-535 539 541-544 546-548 550-555 557-562 564-569 571-576 578-583 585-590 592-598 600-605 607-612 614-619 621-626 628-633 635-640 642-648 650-659 662-665 667-669 671-676 678-683 685-690 692-697 699-704 706-711 713-719 721-726 728-733 735-740 742-745 753 755-758 760-762 764-769 771-776 778-789 793 795-798 800-803 805-810 812-817 819-824 826-831 833-838 840-845 847-852 854-859 861-872 876 880 882-885 887-896 898-903 905-910 912-917 919-924 926-931 933-938 940-945 947-952 954-960 962-967 969-972 974-979 981-992 995-998 1000-1009 1011-1016 1018-1023 1025-1030 1032-1037 1039-1044 1046-1051 1053-1058 1060-1065 1067-1073 1075-1079 1087 1089-1093 1095-1098 1100-1105 1107-1112 1114-1119 1121-1126 1128-1133 1135-1144 1148 1150 1152-1156 1160 1162-1165 1167-1169 1171-1176 1178-1183 1185-1193 1195-1203 1205-1210 1212-1217 1219-1224 1226-1231 1233-1244 1247-1250 1252-1254 1256-1261 1263-1268 1270-1278 1280-1286 1294 1296-1299 1301-1303 1305-1310 1312-1323 1327 1329-1332 1334-1336 1338-1343 1345-1350 1352-1358 1360-1365 1367-1372 1374-1379 1381-1386 1388-1393 1395-1406 1410 1414 1416-1419 1421-1423 1425-1430 1432-1437 1439-1444 1446-1451 1453-1458 1460-1465 1467-1472 1474-1479 1481-1492 1496 1498 1500-1503 1505-1510 1512-1515 1517-1520 1522-1525 1527-1529/sts 52 86 118 137 170 188 206 224 242 260 292 304 372 426 458 490 538 752 792 875 879 1086 1147 1159 1293 1326 1409 1413 1495/tree 50 84 116 135 168 186 204 222 240 258 290 302 370 424 456 488 536 660 746 790 873 877 993 1080 1145 1157 1245 1287 1324 1407 1411 1493 1530/view 40"
end
end Mine.head
set_option Elab.async true
set_option maxRecDepth 100000 in
set_option maxHeartbeats 8000000 in
theorem Mine.head : PySem.Challenge.rw_ac0013_01.Holds := by
  (w_on; o_law; k_head; (case hw => w_witness2))
  w_strict (k_go0; (all_goals try k_fold)
            refine Mine.Yz (K := ?zK) (a := ?za) (m := ?zm) (vs := ?zvs) (l := ?zl) (o1 := ?zo1) (o2 := ?zo2) (o3 := ?zo3) (mg := ?zmg) (mb := ?zmb) (p := ?zp) (loose := ?zloose) (Ue := ?zmean) ?zX ?zc ?zT ⟨?zF, ?zc1, ?zc2, ?zN, ?zli, ?zhI, ?zhl, ?zhg, ?zhm, ?zd1, ?zd2, ?zd3, ?zhk, ⟨rfl, ?zhk2, rfl, rfl⟩, rfl, ?ze1, ?ze2, ?ze3⟩ ?zhb ?zhA ?zk
            case zX => assumption
            case zT => assumption
            case zF => assumption
            case zc1 => assumption
            case zc2 => assumption
            case zN => assumption
            case zli => assumption
            case zhI => assumption
            case zhg => assumption
            case zd1 => exact Eq.trans (by assumption) (by kernel_rfl)
            case zd2 => exact Eq.trans (by assumption) (by kernel_rfl)
            case zd3 => exact Eq.trans (by assumption) (by kernel_rfl)
            case zhm => kernel_rfl
            case zhk => kernel_rfl
            case zhk2 => kernel_rfl
            case ze1 => kernel_rfl
            case ze2 => kernel_rfl
            case ze3 => kernel_rfl
            case zc => exact ⟨by kernel_rfl, by kernel_rfl, by kernel_rfl, by kernel_rfl, by kernel_rfl, by kernel_rfl, by kernel_rfl, by kernel_rfl, by kernel_rfl, ⟨by kernel_rfl, by kernel_rfl, by kernel_rfl, by kernel_rfl, by kernel_rfl, by kernel_rfl, by kernel_rfl, by kernel_rfl, by kernel_rfl⟩, ⟨by kernel_rfl, by kernel_rfl, by kernel_rfl, by kernel_rfl, by kernel_rfl, by kernel_rfl, by kernel_rfl, by kernel_rfl, by kernel_rfl⟩, by kernel_rfl, by kernel_rfl, by kernel_rfl, by kernel_rfl, by kernel_rfl, by kernel_rfl, by kernel_rfl, by kernel_rfl, by kernel_rfl⟩
            case zhb => exact Mine.wH (by kernel_rfl)
            case zhA => exact Mine.room
            case zhl => (have := ‹¬ ((63 : Nat) : Int) < _›; omega)
            case zk => exact fun s' q1 q2 q3 q4 => ⟨⟨.inl ⟨.bool true, .bool true, [], rfl, fun _ => rfl, .bool true, by first | wrow_post | kc_post, unshared_nil⟩, q1, q3, q2⟩, q4⟩)
theorem PySem.Challenge.cw_ac0013_01_holds : PySem.Challenge.rw_ac0013_01.Holds :=
  Mine.head
