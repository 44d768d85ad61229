import PyProof.Rows.All
import Wide.All
import OpenK.AllK
import Wide.FinOn
import Flt.RightMore
import Lean
import PySem.Challenge.RW_rs0174_01
set_option Elab.async false
set_option linter.all false
set_option tactic.hygienic false
set_option compiler.extract_closed false
set_option maxRecDepth 100000
set_option exponentiation.threshold 3000
section
open And renaming imp_right→lU, imp_left→qV
open Array renaming length_toList→g7f
open Bool renaming casesOn→eo, false_ne_true→gP, and_eq_true→jm, eq_false_iff→jA, or_eq_true→tB, and_true→Ec, or_eq_false_iff→J3, eq_iff_iff→J4, false_eq_true→S8, or_eq_true_iff→g7c, not_eq_true'→g7d
open Classical renaming byContradiction→g6u
open Eq renaming refl→J1
open Exists renaming imp→f7
open ForInStep renaming yield→uS
open Int renaming not_lt→i6, natCast_nonneg→lB, ofNat_sub→pQ, le_trans→pR, ofNat_lt→sZ, casesOn→s8, ofNat_le→xF, natCast_mul→xG, add_comm→xH, negSucc→Az, natAbs_natCast→AA, not_le→D9, le_of_lt→JW, toNat_lt→SQ, natCast_pow→SR, lt_of_lt_of_le→SW, compare_eq_lt→SX, add_assoc→SY, toNat_of_nonpos→g5y, toNat_of_nonneg→g5z, toNat_add→g6a, sub_eq_add_neg→g6b, ofNat_ne_zero→g6c, ofNat_inj→g6d, neg_neg_of_pos→g6e, neg_le_neg→g6f, natCast_pos→g6g, natAbs_neg→g6h, le_natAbs→g6i, le_add_of_nonneg_right→g6j, fdiv_eq_ediv_of_nonneg→g6k, compare_eq_gt→g6l, compare_eq_eq→g6m, add_le_add_right→g6n
open Int.ofNat renaming inj→qS
open List renaming casesOn→aN, length_map→aW, mem_singleton→bK, mem_cons→bT, length_append→cA, getElem?_eq_some_iff→cM, all_eq_true→cN, range→dw, size_toArray→dG, not_mem_nil→ee, lookup_cons→ek, replicate→eH, flatten_append→eN, map_cons→fm, mem_cons_self→fW, mem_cons_of_mem→fX, getElem?_append_right→fY, append_assoc→f5, map_map→gk, append_nil→gm, mem_flatten→gO, mem_of_getElem?→g6, mem_append→ic, map_append→ie, getElem?_append_left→iK, nodup_cons→kh, flatten_cons→ki, mem_map→ly, getElem?_set_ne→lz, length_cons→lT, mem_range→pM, length_set→pN, getElem?_map→pO, nodup_nil→qQ, getElem?_eq_getElem→qR, take_length→sP, range'→sQ, length_take→sR, getElem?_toArray→sS, dropLast_concat→sU, reverse_cons→uM, mem_append_left→uN, length→uO, forall_mem_cons→uP, set_set→xy, length_singleton→xA, getElem?_set_self→xB, getD_eq_getElem?_getD→xC, eq_nil_of_length_eq_zero→xD, pairwise_cons→Ar, mem_singleton_self→As, length_range→Au, length_nil→Av, filter_cons_of_pos→Aw, append_eq_nil_iff→Ax, toArray→D3, length_filter_le→D4, isEmpty_iff→D5, flatten_nil→D6, filter_cons_of_neg→D7, all_cons→D8, zip_cons_cons→JJ, take_append_of_le_length→JK, of_mem_zip→JL, nodup_append→JM, nil_append→JN, map_take→JO, map_reverse→JP, length_zipIdx→JQ, length_reverse→JR, length_drop→JS, flatMap_cons→JT, cons_append→JU, all_append→JV, zipIdx_map→Sl, take_left→Sm, suffix_cons→Sn, set_append_right→So, set_append_left→Sp, set→Sq, replicate_succ→Ss, mem_map_of_mem→Su, mem_flatMap→Sv, mem_filter→Sw, mem_append_right→Sx, map_flatMap→Sy, map_congr_left→Sz, lookup→SA, length_flatten→SD, head?→SG, getElem?_tail→SH, getElem?_cons_zero→SI, forIn_cons→SJ, foldl_cons→SM, filterMap_cons→SN, eq_nil_or_concat→SO, drop_zero→SP, take_of_length_le→g4x, sum_cons→g4y, suffix_refl→g4z, snd_lt_of_mem_zipIdx→g5a, range_eq_range'→g5b, pairwise_iff_getElem→g5c, pairwise_flatten→g5d, mem_toArray→g5e, map_fst_zip→g5f, map_eq_nil_iff→g5g, map_drop→g5h, length_take_le→g5i, length_eq_zero_iff→g5j, length_eq_one_iff→g5k, length_dropLast→g5l, head?_eq_some_iff→g5m, head?_drop→g5n, fst_mem_of_mem_zipIdx→g5o, forall_mem_nil→g5p, flatMap_append→g5q, drop_eq_nil_iff→g5r, drop_drop→g5s, contains_cons→g5t, concat_eq_append→g5u, append_inj'→g5v, any_cons→g5w
open List.cons renaming inj→fZ, injEq→uQ
open Nat renaming le_trans→aV, ble→bh, ble_eq→bD, le_refl→bV, lt_of_le_of_lt→ck, le_of_lt→cy, beq→cU, succ_le_succ→dc, mod_lt→eF, casesOn→eG, lt_trans→fj, lt_of_lt_of_le→fk, pow→gH, le_of_eq→gY, le_add_right→gZ, le_succ→iA, mul_le_mul_left→iJ, zero_le→iV, ne_of_gt→iW, add_le_add_left→iX, add_le_add→iY, ne_of_lt→jk, sub_self→jy, eq_of_beq_eq_true→jz, lt_of_succ_lt→jP, add_comm→kg, zero_add→kZ, pow_add→lg, le_of_lt_succ→lq, sub_le→lS, lt_irrefl→mV, add→mW, not_lt_zero→nQ, lt_succ_self→nR, add_assoc→nS, not_lt→pI, mul_comm→pJ, mul_assoc→pK, blt→pL, mul→qM, log2→qN, lt_of_succ_lt_succ→sL, le_add_left→sN, add_le_add_right→sO, succ_ne_zero→uJ, shiftLeft→uK, lt_of_not_le→uL, sub_eq_zero_of_le→xq, one_mul→xu, div→xw, succ_pos→Ai, succ→Aj, sub_lt→Ak, shiftRight→Al, not_le→Am, le_antisymm→An, beq_refl→Ao, add_right_comm→Aq, succ_lt_succ→DY, pow_le_pow_right→DZ, mul_one→D0, sub_ne_zero_of_lt→Jy, pow_succ→Jz, mul_succ→JA, mul_lt_mul_of_pos_left→JB, mod→JC, lt_succ_of_lt→JD, lt_or_ge→JE, log2_lt→JF, le_of_ble_eq_true→JG, le_log2→JH, div_lt_of_lt_mul→JI, zero_mul→R5, pos_of_ne_zero→R6, mul_left_comm→R7, mul_le_mul→R8, mod_two_eq_zero_or_one→R9, min_le_right→Sa, min_le_left→Sb, min_eq_left→Sd, le_succ_of_le→Se, le_of_succ_le_succ→Sg, le_div_iff_mul_le→Sh, div_lt_iff_lt_mul→Sj, add_zero→Sk, zero_lt_succ→g4b, shiftRight_eq_div_pow→g4c, shiftLeft_eq→g4d, mul_lt_mul_of_pos_right→g4e, mul_le_mul_right→g4f, mul_div_le→g4g, mul_add_mod→g4h, lt_trichotomy→g4i, lt_or_gt_of_ne→g4j, lt_of_le_of_ne→g4k, lt_of_add_lt_add_left→g4l, lt_add_of_pos_right→g4m, le_of_succ_le→g4n, le_mul_of_pos_left→g4o, eq_or_lt_of_le→g4p, div_add_mod→g4q, add_mul_mod_self_right→g4r, add_lt_add_left→g4s, add_lt_add→g4t
open Nat.le renaming dest→Si
open Nat.succ renaming inj→lR
open Ne renaming symm→Jx
open Option renaming casesOn→aT, none→cZ, map→qK, map_some→sH, isSome_iff_exists→DW, bind_some→Jw, map_eq_some_iff→R1, getD_some→R2, bind_eq_some_iff→R3, bind→R4, map_map→g3z, elim→g4a
open Option.some renaming inj→aD, injEq→j9
open Or renaming imp_right→DU, imp→DV
open Ordering renaming eq→g3y
open Prod renaming fst→sG, snd→DS
open PyProof.Rows renaming IntsAre→sY, callWith_type→Jt, Subscript_→RS, Attribute_any_→S9, slot_tuple_getitem→TN
open PyProof.V.Flat renaming int→g7s
open PySem renaming Value→ao, wpAny→au, Shared→aC, wpAny_bind→aI, wpAny_pure→bF, callEnvC→dz, Scope→dF, Around→fu, seqIndex?→fz, NameKind→fU, sliceBounds→gu, mainGlobals→gx, builtinsNs→i9, World→ji, Program→jj, wpAny_mono→kq, IsPart→lA, wpAny_field→lC, wpAny_with_toks→lV, exec→mR, Builtin→m6, PyData→nO, wpAny_holding→nW, wpAny_execs_cons→nX, CmpOp→pX, wpAny_Name→pZ, NoneBooked→qL, FuncData→qT, wpAny_standAt→qX, wpAny_call_entry→qY, IsPair→sV, DictEntry→tw, wpAny_rule→tE, wpAny_loadName_local→uU, wpAny_items_nil→uV, wpAny_items_cons→uW, Result→xe, Comprehension→xK, wpAny_truthy_bool→xN, wpAny_callSpecial?_slot→xO, wpAny_attempt→xP, wpAny_Call_ofName→xQ, Keyword→Ay, wpAny_setField_rec→AI, wpAny_newObj_type→AJ, wpAny_loadPart_at→AK, Operator→DX, wpAny_typeLookup_exc→Ed, wpAny_specialOf→Ef, wpAny_ite_split→Eg, wpAny_isInstance→Eh, wpAny_execs_nil→Ei, wpAny_call→Ej, wpAny_Constant_str→Ek, wpAny_Constant_int→El, Arguments→J5, wpAny_pyIter_tuple→J', wpAny_of_eq→Ka, wpAny_newList→Kc, wpAny_loadName_free→Kd, wpAny_loadName_cell→Ke, wpAny_load→Kf, wpAny_assign_Name→Kg, wpAny_allTrue_Or_cons→Kh, wpAny_allTrue_And_cons→Kl, wpAny_List_spliced→Km, wpAny_IfExp→Kn, wpAny_Assign_Name→Ko, Tok→RU, wpAny_truthy_list→Tf, wpAny_storeName_local→Tg, wpAny_sharingNotTold_none→Th, wpAny_pyIter_enum→Ti, wpAny_newFunctionEnv→Tj, wpAny_list_append_plain→Tn, wpAny_dictEntries→To, wpAny_assignInOrder_none→Tp, wpAny_assignInOrder_more→Tq, wpAny_Tuple_spliced→Tr, wpAny_Return_some→Tt, slot_list_getitem→TP
open PySem.AutoFloatOps renaming eq_0→g7e
open PySem.Builtin renaming divisionGoesByPylong→g6x
open PySem.Builtin.Dict renaming dictSlotArgs→g7b
open PySem.Builtin.Int renaming intBits→g7a
open PySem.Builtin.Range renaming rangeSize→nU, small→pY
open PySem.Builtin.SmallTypes renaming ownedTupleIsFree→g7t, nextOf→g7u
open PySem.Builtin.Str renaming strSliceIndices→AH, occurrences→J2, strKind→g6y, partsBetween→g6z
open PySem.Calls renaming callWith_function→g6v, callWith_builtin→g6w
open PySem.Expr renaming casesOn→mT
open PySem.Expr.Attribute renaming elim→g3w
open PySem.Expr.BinOp renaming elim→g3v
open PySem.Expr.BoolOp renaming elim→g7r
open PySem.Expr.Call renaming elim→RX
open PySem.Expr.Compare renaming elim→g7q
open PySem.Expr.Constant renaming elim→g3u
open PySem.Expr.Dict renaming elim→g3t
open PySem.Expr.DictComp renaming elim→g7p
open PySem.Expr.IfExp renaming elim→g7o
open PySem.Expr.List renaming elim→g3s
open PySem.Expr.ListComp renaming elim→RW
open PySem.Expr.Name renaming elim→Js
open PySem.Expr.Set renaming elim→g3r
open PySem.Expr.SetComp renaming elim→g7n
open PySem.Expr.Slice renaming elim→RV
open PySem.Expr.Subscript renaming elim→g3q
open PySem.Expr.Tuple renaming elim→DQ
open PySem.Expr.UnaryOp renaming elim→g3p
open PySem.F renaming store_object→Jr, slot_str_mul→g3i, slot_list_add→g3j, slot_bool_rmul→g3k, entry_str_mul→g3l, entry_list_add→g3m, args_str_mul_2→g3n, args_list_add_2→g3o
open PySem.Float64 renaming V→iU, ofInt→jQ, cmp→mY, div→pF, truncOf→pU, sub→qJ, add→sF, isFinite→tu, val→uI, cmpInt→uT, ofFrac→xJ, isInf→AD, lt→DP, isZero→Jp, cmp→Jq, isZero→J0, sub→S4, mul→S5, div→S6, add→S7, mul→g3g, isFinite→g3h, isNaN→g6r, divmod→g6s, decode→g6t, isInf→g7m
open PySem.Flow renaming casesOn→mS
open PySem.Flt renaming toInt→mX
open PySem.Heap renaming get?_push_of_some→cB, get?_push_size→fq, lt_size→fM, SameBut→AB, get?_update_ne→Ea, size_push→JX, get?_update_self→JY, push→S3, get?_push_ne→g6o
open PySem.Heap.Ns1 renaming of_empty→g6q
open PySem.Heap.SameBut renaming update→g6p
open PySem.IsRange renaming new→g5x
open PySem.Manifest renaming canonical→g4v
open PySem.MeetsSeq renaming list_pop_at→g7l
open PySem.NameKind renaming free→qP, cell→g4u
open PySem.Obj renaming mapSeq→kY
open PySem.PyData renaming strOk→pG, depth→xg, eqv→Ah, depthAll→DR, str→Ju, canLay0→Jv, list→RY, int→RZ, canLayAll0→R0, eqvAll→g3x
open PySem.SeqAt renaming shaped→jO, canLay_of_shaped→g3f
open PySem.Str renaming ofString→lQ, length→pD
open PySem.StrLaws renaming found_one→g7k
open PySem.Txt renaming split→DL, find→DM, count→DN, contains→DO
open PySem.Value renaming none→nN, bool→qI, type→Jl, int→Jm, casesOn→Jo, ref→RQ
open PySem.Value.type renaming inj→g7j
open PySem.W.Frag renaming In→JZ
open PySem.W.Looks renaming of_pure→g4w
open PySem.Walks renaming tuple→g3e
open PySem.isSame renaming created→Uu
open PySem.swappedStores renaming match_8→g7i
namespace Mine.Internal
open PySem PySem.W PySem.Calls PyProof.Rows
variable {α β γ:Type}{P a C I L sl D LC fr fi bm:Addr}{c d n m k p kf i tk j vl depth line N kp kl kc size mk sh:Nat}{b bv:Bool}{q:List (List Nat)}{x name:Str}{e tg it elt:Expr}{as as' nw aG:List (List Addr)}{h h' hY hJ base h₀:Heap}{vs vals fs:List ao}{o:Obj}{t y is tok ring:List Nat}{op:DX}{lo hi st:Option Int}{o1 o2:pX}{s:aC}{sc cs:dF}{aH:List Addr}{ah mt names:List Str}{env cenv:Env}{prog:jj}{w:ji}{A:fu}{E Q:ao->aC->Prop}{vu itv:ao}{elts ifs:List Expr}{pos p':Pos}{us:List (List Int)}{kk:Nat->Nat->Nat->Bool}{W:Addr->Prop}{es mg mA:Str->Option ao}{whole:Sem ao}{gens:List xK}{R:xe->aC->Prop}{fd:qT}{K:Frag}{row cC:List (Nat×Nat)}{ln:Int}
section
variable {δ:Type}{G:Prop}{r:γ}
theorem oK{P:Prop}(h:∀G:Prop,(P->G)->G):P:=h P id
theorem ns{a:α}(h:cZ=some a):G:=by contradiction
theorem nt(h:false=true):G:=by contradiction
theorem aL{c:Prop}[Decidable c]{a:Option γ}(h:(if c then a else .none)=some r)(k:c->a=some r->G):G:=by
 by_cases hc:c
 ·exact k hc ((if_pos hc).symm.trans h)
 ·exact ns ((if_neg hc).symm.trans h)
theorem jT{c:Prop}[Decidable c]{a:Option γ}(h:(if c then .none else a)=some r)(k:¬c->a=some r->G):G:=by
 by_cases hc:c
 ·exact ns ((if_pos hc).symm.trans h)
 ·exact k hc ((if_neg hc).symm.trans h)
theorem bZ{c:Prop}[Decidable c]{a b q:α}(h:(if c then a else b)=q)(k1:c->a=q->G)(k2:¬c->b=q->G):G:=by
 by_cases hc:c
 ·exact k1 hc ((if_pos hc).symm.trans h)
 ·exact k2 hc ((if_neg hc).symm.trans h)
theorem aZ{f:α->γ}{x:Option α}(h:x.map f=some r)(k:∀a,x=some a->f a=r->G):G:=by
 induction x using aT with
 |none=>exact ns h
 |some a=>exact k a rfl (aD h)
theorem aO{f:α->Option γ}{x:Option α}(h:x.bind f=some r)(k:∀a,x=some a->f a=some r->G):G:=by
 induction x using aT with
 |none=>exact ns h
 |some a=>exact k a rfl h
theorem fH{x:Option α}{b:Option γ}{f:α->Option γ}(h:x.elim b f=some r)(k1:∀a,x=some a->f a=some r->G)(k2:x=.none->b=some r->G):G:=by
 induction x using aT with
 |none=>exact k2 rfl h
 |some a=>exact k1 a rfl h
theorem pr{a c:α}{b d:β}(h:(a,b)=(c,d))(k:a=c->b=d->G):G:=k (congrArg sG h) (congrArg DS h)
theorem sp{a c:α}{b d:β}(h:some (a,b)=some (c,d))(k:a=c->b=d->G):G:=pr (aD h) k
theorem s1{a c:α}(h:some a=some c)(k:a=c->G):G:=k (aD h)
theorem aP{a:Bool}(h:(a&&b)=true):a=true:=by cases a<;>first|rfl|exact nt h
theorem aR{a:Bool}(h:(a&&b)=true):b=true:=by cases a<;>first|exact h|exact nt h
theorem Wx{a:Bool}(h:¬(a||b)=true):a=false:=by cases a<;>first|rfl|exact absurd rfl h
theorem KZ{a:Bool}(h:(a||!b)=true)(hb:b=true):a=true:=by cases a<;>first|rfl|(subst hb;exact nt h)
theorem kM{a:Bool}(h:(!a)=true):a=false:=by cases a<;>first|rfl|exact nt h
end
theorem nb(h:bh n m=true):n<=m:=JG h
theorem fF{G:Prop}(x:α)(k:∀y,y=x->G):G:=k x rfl
section
variable {a b e f:Nat}
theorem bz(h:a<=b)(k:bh b c=true:=by rfl):a<=c:=aV h (JG k)
theorem tH(h:a<b)(k:bh b (c+1)=true:=by rfl):a<=c:=Sg (bz h k)
theorem lX(h:a+d<b):a<b:=ck (gZ a d) h
theorem KS(h:a+d<=b):a<=b:=aV (gZ a d) h
theorem Ez(h:a<=b)(k:bh (b+d) e=true:=by rfl):a+d<=e:=bz (sO h d) k
theorem kD(h:a<=b)(k:bh (d+b) e=true:=by rfl):d+a<=e:=bz (iX h d) k
theorem KO(h:a<=b):a-d<=b:=aV (lS a d) h
theorem TV(h:a<b):a-d<b:=ck (lS a d) h
theorem TY(h:a<b):a / d<b:=ck (Nat.div_le_self a d) h
theorem KP(h:a<=b):min d a<=b:=aV (Sa d a) h
theorem Ew(h:a<=b):min a d<=b:=aV (Sb a d) h
theorem MK:a≠a+1:=jk (nR a)
theorem TX(h:a<b):a≠b:=jk h
theorem BJ(h:a≠b):a+1≠b+1:=λq=>h (lR q)
theorem Ex(h:a=b)(h':b<=c):a<=c:=h.symm▸h'
theorem FY(h:b=a)(h':b<=c):a<=c:=h▸h'
theorem AQ(h:a+(b+1)<=c):a+1+b<=c:=aV (gY (Aq a 1 b)) h
theorem KU(h:a+(b+1)<c):a+1+b<c:=ck (gY (Aq a 1 b)) h
theorem xX(h:a+10*(b+1)<=c)(k:bh d 10=true:=by rfl):a+d+10*b<=c:=aV (gY (Aq a d (10*b))) (aV (iX (JG k) (a+10*b)) h)
theorem FP(h:a=b+1)(g:a+d=c+1):b<=c:=Sg (Nat.le.intro (h▸g))
theorem NW(h:a=b+1)(g:a+d=c+1)(e:c=b):d=0:=Nat.add_left_cancel (show a+d=a+0 from g.trans (e▸h.symm))
theorem qh(h:a<=b)(h':c<=d)(k:bh (b+d+1) e=true:=by rfl):a+c<e:=ck (iY h h') (JG k)
theorem e6f{l:List α}{m x:α}(h:(l++[m])[a]?=some x)(q:¬a<l.length):a=l.length:=An (lq (by have:=(cM.mp h).1;rwa [cA]at this)) (pI.mp q)
end
section
variable {a b:Nat}{n:Int}
theorem KQ(h:a<=b)(k:decide ((b:Int)<=n)=true:=by decide):(a:Int)<=n:=pR (xF.mpr h) (of_decide_eq_true k)
theorem KR(h:a<b)(k:decide ((b:Int)<=n)=true:=by decide):(a:Int)<n:=SW (sZ.mpr h) (of_decide_eq_true k)
theorem Ey(h:0<a):(a:Int)-1=((a-1:Nat):Int):=(pQ h).symm
theorem T8{k:Int}{C:Prop}(h:n = -1∨n = -8∨n = -5)(z:n=k)(d:decide (k = -1∨k = -8∨k = -5)=false:=by decide):C:=absurd (z▸h) (of_decide_eq_false d)
theorem BI{C:Prop}(h:n = -1∨n = -8∨n = -5)(z:1<=n):C:=by rcases h with rfl|rfl|rfl<;>exact absurd z (by decide)
theorem ED{k:Int}{C:Prop}(h:n = -2∨n = -4)(z:n=k)(d:decide (k = -2∨k = -4)=false:=by decide):C:=absurd (z▸h) (of_decide_eq_false d)
theorem WW{C:Prop}(h:n = -2∨n = -4)(z:1<=n):C:=by rcases h with rfl|rfl<;>exact absurd z (by decide)
theorem WZ{C:Prop}(h:n = -2∨n = -4)(z:n = -1∨n = -8∨n = -5):C:=by rcases h with rfl|rfl<;>exact absurd z (by decide)
end
inductive V where
 |none|bool (b:Bool)|int (i:Int)|aq (b:UInt64)|str (s:List Nat)
 |tup (l:List V)|lst (l:List V)|mut (k:Nat)|typ (s:String)
 deriving Inhabited
theorem BO{p:V->Prop}{q:List V->Prop}(b0:p .none)(b1:∀b,p (.bool b))(b2:∀i,p (.int i))(b3:∀x,p (.aq x))(b4:∀s,p (.str s))(b5:∀l,q l->p (.tup l))(b6:∀l,q l->p (.lst l))(b7:∀k,p (.mut k))(b8:∀t,p (.typ t))(c0:q [])(c1:∀x l,p x->q l->q (x::l)):(∀u,p u)/\∀l,q l:=
 ⟨λu=>V.rec (motive_1:=p) (motive_2:=q) b0 b1 b2 b3 b4 b5 b6 b7 b8 c0 c1 u,λl=>V.rec_1 (motive_1:=p) (motive_2:=q) b0 b1 b2 b3 b4 b5 b6 b7 b8 c0 c1 l⟩
inductive M where
 |list (l:List V)
 |obj (is:List Nat) (n:Int)
 |dict (l:List (Int×V))
 deriving Inhabited
def Kp(as:List Addr)(h h':Heap):Prop:=∀a o,a∉as->h.get? a=some o->h'.get? a=some o
theorem Kp.refl(as:List Addr)(h:Heap):Kp as h h:=λzz zz zz e=>e
theorem Kp.push{as:List Addr}(x:Kp as h h')(o:Obj):Kp as h (h'.push o):=λa o' ha e=>cB o (x a o' ha e)
theorem Kp.weak{as as':List Addr}(x:Kp as h h')(hs:∀a∈as,a∈as'):Kp as' h h':=λa o ha e=>x a o (λq=>ha (hs a q)) e
theorem Kp.mod{as:List Addr}(x:Kp as h hY)(hI:h.get? I=.none)(y:∀a o,a≠I->hY.get? a=some o->hJ.get? a=some o):Kp as h hJ:=
 λa o ha e=>y a o (λq=>by rw[q,hI]at e;exact ns e) (x a o ha e)
mutual
noncomputable def Rep(h:Heap)(as:List (List Addr)):V->ao->Prop
 |.none,v=>v=.none
 |.bool b,v=>v=.bool b
 |.int i,v=>∃t,v=.int i t
 |.aq b,v=>∃t,v=.float b t/\1<=t
 |.str x,v=>∃t,v=.str ⟨x.toArray⟩ t
 |.tup l,v=>∃a vs,v=.ref a/\a∉as.flatten/\h.IsTuple a vs.toArray/\aJ h as l vs
 |.lst l,v=>∃a vs,v=.ref a/\a∉as.flatten/\h.PlainList a vs.toArray/\aJ h as l vs
 |.mut k,v=>∃a r,as[k+1]?=some (a::r)/\v=.ref a
 |.typ t,v=>v=.type t
noncomputable def aJ(h:Heap)(as:List (List Addr)):List V->List ao->Prop
 |[],vs=>vs=[]
 |x::l,vs=>∃v r,vs=v::r/\Rep h as x v/\aJ h as l r
end
theorem aJ.length:∀{l:List V}{vs:List ao},aJ h as l vs->vs.length=l.length:=by
 intro z_;induction z_ with
 |nil=>
  intro _ r;cases r;rfl
 |cons x l ih=>
  intro vs r;obtain⟨v,rs,rfl,_,hr⟩:=r;exact congrArg (·+1) (ih hr)
theorem aJ.nil:aJ h as [] []:=rfl
theorem aJ.cons{x:V}{v:ao}{l:List V}(hx:Rep h as x v)(hr:aJ h as l vs):aJ h as (x::l) (v::vs):=⟨v,vs,rfl,hx,hr⟩
theorem aJ.append:∀{l l':List V}{vs vs':List ao},aJ h as l vs->aJ h as l' vs'->aJ h as (l++l') (vs++vs'):=by
 intro z_;induction z_ with
 |nil=>
  intro _ _ _ r r';cases r;exact r'
 |cons x l ih=>
  intro l' vs vs' r r';obtain⟨v,rs,rfl,hx,hr⟩:=r;exact aJ.cons hx (ih hr r')
theorem aJ.get{l:List V}(i:Nat){x:V}(r:aJ h as l vs)(e:l[i]?=some x):∃v,vs[i]?=some v/\Rep h as x v:=by
 induction l generalizing vs i with
 |nil=>exact ns e
 |cons y l ih=>
  obtain⟨v,rs,rfl,hx,hr⟩:=r;induction i using eG with
  |zero=>
   obtain rfl:=aD e;exact⟨v,rfl,hx⟩
  |succ i=>exact ih i hr e
theorem aJ.drop:∀(n:Nat) {l:List V}{vs:List ao},aJ h as l vs->aJ h as (l.drop n) (vs.drop n):=by
 intro n;induction n with
 |zero=>exact λr=>r
 |succ n ih=>
  intro l vs r;induction l using aN with
  |nil=>cases r;exact rfl
  |cons y l=>
   obtain⟨v,rs,rfl,_,hr⟩:=r;exact ih hr
theorem aJ.reverse:∀{l:List V}{vs:List ao},aJ h as l vs->aJ h as l.reverse vs.reverse:=by
 intro z_;induction z_ with
 |nil=>
  intro _ r;cases r;rfl
 |cons y l ih=>
  intro vs r;obtain⟨v,rs,rfl,hv,hr⟩:=r;rw[uM,uM];exact aJ.append (ih hr) (aJ.cons hv .nil)
structure Go(as:List (List Addr))(h:Heap)(as':List (List Addr))(h':Heap):Prop where
 ext:∃nw,as'=as++nw/\∀a∈nw.flatten,h.get? a=.none
 keep:Kp as.tail.flatten h h'
 alive:∀a∈as'.flatten,∃o,h'.get? a=some o
theorem wJ(h:a∈as.tail.flatten):a∈as.flatten:=by
 induction as using aN with
 |nil=>simp at h
 |cons x r=>rw[ki];exact Sx _ h
theorem Qa(h:a∈(as++nw).tail.flatten):a∈as.tail.flatten∨a∈nw.flatten:=by
 induction as using aN with
 |nil=>exact .inr (wJ h)
 |cons x r=>
  rw[JU,List.tail_cons,eN]at h;exact ic.mp h
theorem Go.at{as as':List (List Addr)}{h h':Heap}(g:Go as h as' h'){a:Addr}{o:Obj}(ha:a∉as.flatten)(e:h.get? a=some o):h'.get? a=some o:=g.keep a o (λq=>ha (wJ q)) e
theorem Go.refl(al:∀a∈as.flatten,∃o,h.get? a=some o):Go as h as h:=⟨⟨[],by simp,by simp⟩,Kp.refl _ _,al⟩
theorem Go.sub{as as':List (List Addr)}{h h':Heap}(g:Go as h as' h'){a:Addr}(ha:a∈as.flatten):a∈as'.flatten:=by
 obtain⟨nw,rfl,_⟩:=g.ext;rw[eN];exact uN _ ha
theorem Go.off(g:Go as h as' h')(e:h.get? a=some o)(ha:a∉as.flatten):a∉as'.flatten:=by
 obtain⟨nw,rfl,hn⟩:=g.ext;rw[eN];intro hm;rcases ic.mp hm with hm|hm
 ·exact ha hm
 ·rw[hn a hm]at e;exact ns e
theorem Go.trans{cz:List (List Addr)}(x:Go as h aG hY)(y:Go aG hY cz hJ):Go as h cz hJ:=by
 refine⟨?_,λa o ha e=>y.keep a o (λq=>?_) (x.keep a o ha e),y.alive⟩
 rotate_left
 ·obtain⟨n1,rfl,h1⟩:=x.ext
  rcases Qa q with q|q
  ·exact ha q
  ·rw[h1 a q]at e;exact ns e
 have xs:=@Go.sub _ _ _ _ x;have xa:=x.alive;have xk:=@Go.at _ _ _ _ x;obtain⟨n1,rfl,h1⟩:=x.ext;obtain⟨n2,rfl,h2⟩:=y.ext;refine⟨n1++n2,by simp,λa ha=>?_⟩;rw[eN]at ha;rcases ic.mp ha with ha|ha
 ·exact h1 a ha
 ·induction q:h.get? a using aT with
  |none=>rfl
  |some o=>
   by_cases m:a∈as.flatten
   ·obtain⟨o',e'⟩:=xa a (xs m)
    rw[h2 a ha]at e';exact ns e'
   ·have:=xk m q
    rw[h2 a ha]at this;exact ns this
theorem Go.get(g:Go as h as' h'){l:List Addr}(e:as[k]?=some l):as'[k]?=some l:=by
 obtain⟨nw,rfl,_⟩:=g.ext;rw[iK (cM.mp e).1];exact e
theorem Go.push(g:Go as h as' h')(o:Obj):Go as h as' (h'.push o):=
 ⟨g.ext,g.keep.push o,λa ha=>(g.alive a ha).imp λzz e=>cB o e⟩
theorem Go.mod(g:Go as h as' hY)(hI:h.get? I=.none)(hn:I∉as'.flatten)(y:∀a o,a≠I->hY.get? a=some o->hJ.get? a=some o):Go as h as' hJ:=
 ⟨g.ext,g.keep.mod hI y,λa ha=>(g.alive a ha).imp λo e=>y a o (λq=>hn (q▸ha)) e⟩
theorem Rep.Kv(hO:∀a o,a∉as.flatten->h.get? a=some o->(∃xs n,o.data=.seq xs n)->a∉as'.flatten/\h'.get? a=some o)(hM:∀(k:Nat) (l:List Addr),as[k+1]?=some l->as'[k+1]?=some l):(∀x v,Rep h as x v->Rep h' as' x v)/\∀l vs,aJ h as l vs->aJ h' as' l vs:=by
 refine BO (λzz r=>r) (λzz zz r=>r) (λzz zz r=>r) (λzz zz r=>r) (λzz zz r=>r) (λl ih v r=>?_) (λl ih v r=>?_) (λk v r=>?_) (λzz zz r=>r) (λzz r=>r) λx l ih1 ih2 vs r=>?_
 ·obtain⟨a,vs,e,ha,⟨o,ho,hc,n,hd⟩,hr⟩:=r
  have z:=hO a o ha ho ⟨_,_,hd⟩;exact⟨a,vs,e,z.1,⟨o,z.2,hc,n,hd⟩,ih vs hr⟩
 ·obtain⟨a,vs,e,ha,⟨n,ho⟩,hr⟩:=r
  have z:=hO a _ ha ho ⟨_,_,rfl⟩;exact⟨a,vs,e,z.1,⟨n,z.2⟩,ih vs hr⟩
 ·obtain⟨a,q,e,e2⟩:=r
  exact⟨a,q,hM _ _ e,e2⟩
 ·obtain⟨v,rs,e,hx,hr⟩:=r
  exact⟨v,rs,e,ih1 v hx,ih2 rs hr⟩
theorem Rep.tr(hO:∀a o,a∉as.flatten->h.get? a=some o->(∃xs n,o.data=.seq xs n)->a∉as'.flatten/\h'.get? a=some o)(hM:∀(k:Nat) (l:List Addr),as[k+1]?=some l->as'[k+1]?=some l){x:V}{v:ao}:Rep h as x v->Rep h' as' x v:=(Rep.Kv hO hM).1 x v
theorem aJ.tr(hO:∀a o,a∉as.flatten->h.get? a=some o->(∃xs n,o.data=.seq xs n)->a∉as'.flatten/\h'.get? a=some o)(hM:∀(k:Nat) (l:List Addr),as[k+1]?=some l->as'[k+1]?=some l){l:List V}:aJ h as l vs->aJ h' as' l vs:=(Rep.Kv hO hM).2 l vs
theorem Rep.go(g:Go as h as' h'):∀{x:V}{v:ao},Rep h as x v->Rep h' as' x v:=λr=>
 Rep.tr (λzz zz ha e zz=>⟨g.off e ha,g.at ha e⟩) (λzz zz=>g.get) r
theorem aJ.go(g:Go as h as' h'):∀{l:List V}{vs:List ao},aJ h as l vs->aJ h' as' l vs:=λr=>
 aJ.tr (λzz zz ha e zz=>⟨g.off e ha,g.at ha e⟩) (λzz zz=>g.get) r
set_option genInjectivity false
set_option genSizeOf false
set_option genCtorIdx false
set_option bootstrap.genMatcherCode false
inductive T where
 |one (i:Nat)
 |many (l:List Nat)
inductive X where
 |cst (v:V)
 |loc (i:Nat)
 |jo (i:Nat)
 |bin (op:DX) (a b:X)
 |neg (a:X)
 |not (a:X)
 |yf (i:Nat) (a:X)
 |cmp (op:pX) (a b:X)
 |vG (o1 o2:pX) (a b c:X)
 |and (l:List X)
 |or (l:List X)
 |ite (c a b:X)
 |tup (l:List X)
 |lst (l:List X)
 |jD (l:List X)
 |q6 (l:List X)
 |u6 (a b:X)
 |ya (a:X)
 |sub (a i:X)
 |slc (a:X) (lo hi st:Option X)
 |call (f:Nat) (args:List X)
 |bY (m:Nat) (o:X) (args:List X)
 |attr (m:Nat) (o:X)
 |comp (elt:X) (t:T) (it:X) (ifs:List X) (own:List Nat)
 |gen (elt:X) (t:T) (it:X) (ifs:List X)
 |rP (elt:X) (t:T) (it:X) (ifs:List X) (own:List Nat)
 |xV (i:Nat) (a:X)
 |yc (a:X)
 |range (args:List X)
 |enum (a:X)
 |zip (a b:X)
inductive S where
 |assign (i:Nat) (e:X)
 |unpack (l:List Nat) (e:X)
 |aug (i:Nat) (op:DX) (e:X)
 |ite (c:X) (a b:List S)
 |for (t:T) (it:X) (body:List S)
 |ret (e:X)
 |expr (e:X)
 |kG (i:Nat) (e:X)
 |fit (i j:Nat)
 |chars (t:T) (i:Nat) (body:List S)
 |line (j:Nat)
 |store (i:Nat) (k e:X)
 |wg (i:Nat) (k e:X)
 |brk
 |cont
inductive F where
 |next|brk|cont|ret (v:V)
noncomputable abbrev aB:=List (Nat×V)
noncomputable abbrev Mu:=List M
noncomputable def put(i:Nat)(v:V):aB->aB
 |[]=>[(i,v)]
 |p::r=>if p.1==i then(i,v)::r else p::put i v r
noncomputable def big:Nat:=1000000
mutual
noncomputable def iD:V->Option nO
 |.none=>some .none
 |.bool b=>some (.bool b)
 |.int i=>some (.int i)
 |.aq _=>cZ
 |.str s=>some (.str ⟨s.toArray⟩)
 |.tup l=>(toPys l).map .tuple
 |.lst l=>(toPys l).map .list
 |.mut _=>cZ
 |.typ _=>cZ
noncomputable def toPys:List V->Option (List nO)
 |[]=>some []
 |x::r=>match iD x,toPys r with
  |some a,some b=>some (a::b)
  |_,_=>cZ
end
noncomputable def bg(O:Mu):V->V
 |.mut k=>match O[k]? with
  |some (.list l)=>.lst l
  |_=>.mut k
 |v=>v
noncomputable def fl(r:UInt64):Option V:=some (.aq r)
noncomputable def small(n:Int):Bool:=decide (n.natAbs<2^60)
noncomputable def cP:DX->V->V->Option V
 |.Add,.int a,.int b=>some (.int (a+b))
 |.Sub,.int a,.int b=>some (.int (a-b))
 |.Mult,.int a,.int b=>if small a then some (.int (a*b))else .none
 |.FloorDiv,.int a,.int b=>if b != 0&&small b then some (.int (a.fdiv b))else .none
 |.Mod,.int a,.int b=>if b != 0 then some (.int (a.fmod b))else .none
 |.Pow,.int a,.int b=>if decide (0<=b)&&decide (b<=1000)&&small a then some (.int (a^b.toNat))else .none
 |.Div,.int a,.int b=>if b != 0&&!(AD (xJ (decide (a<0) != decide (b<0)) a.natAbs b.natAbs))then fl (xJ (decide (a<0) != decide (b<0)) a.natAbs b.natAbs)else .none
 |.Add,.aq a,.aq b=>fl (S7 a b)
 |.Sub,.aq a,.aq b=>fl (S4 a b)
 |.Mult,.aq a,.aq b=>fl (S5 a b)
 |.Div,.aq a,.aq b=>if !(J0 b)then fl (S6 a b)else .none
 |.Mod,.aq a,.aq b=>if !(J0 b)then fl (g6s a b).snd else .none
 |.Add,.aq a,.int n=>if small n then fl (S7 a (jQ n))else .none
 |.Sub,.aq a,.int n=>if small n then fl (S4 a (jQ n))else .none
 |.Mult,.int n,.aq a=>if small n then fl (S5 (jQ n) a)else .none
 |.Add,.str a,.str b=>if decide (a.length+b.length<=big)then some (.str (a++b))else .none
 |.Mult,.str a,.int n=>if decide (a.length*n.toNat<=big)&&small n then some (.str (eH n.toNat a).flatten)else .none
 |.Mult,.str a,.bool b=>some (.str (if b then a else []))
 |.Add,.lst a,.lst b=>if decide (a.length+b.length<=big)then some (.lst (a++b))else .none
 |_,_,_=>.none
variable {r v u:V}{f:X->Mu->Option (V×Mu)}{l args zs:List V}{O aA ai aE aS bS:Mu}{J ρ' bu dY:aB}{xs:List X}{g:aB->Mu->Option (List V×aB×Mu)}{ix cx:X}{ss:List Internal.S}
section
variable (a b:Int)(x y:UInt64)(s t:List Nat)(l m:List V)
theorem zA:cP .Mult (.int a) (.int b)=if small a then some (.int (a*b))else .none:=rfl
theorem CM:cP .FloorDiv (.int a) (.int b)=if b != 0&&small b then some (.int (a.fdiv b))else .none:=rfl
theorem Cu:cP .Mod (.int a) (.int b)=if b != 0 then some (.int (a.fmod b))else .none:=rfl
theorem HO:cP .Pow (.int a) (.int b)=if decide (0<=b)&&decide (b<=1000)&&small a then some (.int (a^b.toNat))else .none:=rfl
theorem Hw:cP .Div (.int a) (.int b)=if b != 0&&!(AD (xJ (decide (a<0) != decide (b<0)) a.natAbs b.natAbs))then fl (xJ (decide (a<0) != decide (b<0)) a.natAbs b.natAbs)else .none:=rfl
theorem Cr:cP .Div (.aq x) (.aq y)=if !(J0 y)then fl (S6 x y)else .none:=rfl
theorem CJ:cP .Mod (.aq x) (.aq y)=if !(J0 y)then fl (g6s x y).snd else .none:=rfl
theorem Ih:cP .Add (.aq x) (.int a)=if small a then fl (S7 x (jQ a))else .none:=rfl
theorem HZ:cP .Sub (.aq x) (.int a)=if small a then fl (S4 x (jQ a))else .none:=rfl
theorem CO:cP .Mult (.int a) (.aq x)=if small a then fl (S5 (jQ a) x)else .none:=rfl
theorem Cy:cP .Add (.str s) (.str t)=if decide (s.length+t.length<=big)then some (.str (s++t))else .none:=rfl
theorem zE:cP .Mult (.str s) (.int a)=if decide (s.length*a.toNat<=big)&&small a then some (.str (eH a.toNat s).flatten)else .none:=rfl
theorem CA:cP .Add (.lst l) (.lst m)=if decide (l.length+m.length<=big)then some (.lst (l++m))else .none:=rfl
theorem HW:cP .Add (.int a) (.int b)=some (.int (a+b)):=rfl
end
noncomputable def eqv(u v:V):Option Bool:=match iD u,iD v with
 |some a,some b=>if jO a&&jO b then some (a.eqv b)else .none
 |_,_=>match u,v with
  |.aq a,.aq b=>some (mY a b==some .eq)
  |_,_=>.none
noncomputable def vZ:List V->List V->Bool
 |.aq a::r,.aq b::q=>mY a b==some .eq&&vZ r q
 |[],[]=>true
 |_,_=>false
noncomputable def Bj(u v:V):Option Bool:=match u,v with
 |.tup l,.tup m=>if vZ l m then some true else .none
 |_,_=>.none
noncomputable def vA(u v:V):Option Bool:=match u,v with
 |.str x,.str y=>some (DO ⟨y.toArray⟩ ⟨x.toArray⟩)
 |_,.lst l=>match iD u,toPys l with
  |some d,some xs=>if jO (.list xs)&&jO d then some (xs.any λy=>y.eqv d)else .none
  |_,_=>.none
 |_,_=>.none
noncomputable def cR:pX->V->V->Option Bool
 |.Eq,u,v=>(eqv u v).elim (Bj u v) some
 |.NotEq,u,v=>(eqv u v).map (!·)
 |.In,u,v=>vA u v
 |.Is,.bool a,.bool b=>some (a==b)
 |.Lt,.int a,.int b=>some (decide (a<b))
 |.LtE,.int a,.int b=>some (decide (a<=b))
 |.GtE,.int a,.int b=>some (decide (a≥b))
 |.Lt,.aq a,.aq b=>some (mY a b==some .lt)
 |.LtE,.aq a,.aq b=>some (mY a b==some .lt||mY a b==some .eq)
 |.LtE,.int n,.aq a=>some (uT a n==some .gt||uT a n==some .eq)
 |.LtE,.aq a,.int n=>some (uT a n==some .lt||uT a n==some .eq)
 |_,_,_=>.none
theorem BC{c:Bool}(h:eqv u v=some c):cR .Eq u v=some c:=by
 show(eqv u v).elim (Bj u v) some=_;rw[h];rfl
theorem Xd(u v:V):cR .NotEq u v=(eqv u v).map (!·):=rfl
theorem Xe(u v:V):cR .In u v=vA u v:=rfl
theorem Wa(a b:Int):cR .Lt (.int a) (.int b)=some (decide (a<b)):=rfl
noncomputable def eZ:V->Option Bool
 |.bool b=>some b
 |.str s=>if s.length<=big then some (!s.isEmpty)else .none
 |.lst l=>if l.length<=big then some (!l.isEmpty)else .none
 |_=>.none
noncomputable def item:V->V->Option V
 |.lst l,.int k=>if l.length<=big then(fz k l.length).bind (l[·]?)else .none
 |.tup l,.int k=>if l.length<=big then(fz k l.length).bind (l[·]?)else .none
 |.str s,.int k=>if s.length<=big then(fz k s.length).bind λi=>(s[i]?).map λc=>.str [c]else .none
 |_,_=>.none
noncomputable def oW(O:Mu):V->Option (List (Int×V))
 |.mut k=>match O[k]? with
  |some (.dict l)=>some l
  |_=>.none
 |_=>.none
noncomputable def Xb(O:Mu)(u:V):V->Option V
 |.int k=>(oW O u).bind λl=>l.lookup k
 |_=>.none
noncomputable def vP(O:Mu)(u v:V):Option V:=(item (bg O u) v).elim (Xb O u v) some
theorem d5w(h:item (bg O u) v=some r):vP O u v=some r:=by unfold vP;rw[h];rfl
noncomputable def kP:Option V->Option (Option Int)
 |.none=>some .none
 |some (.int i)=>some (some i)
 |some .none=>some .none
 |_=>.none
noncomputable def KH(l:List V)(hi st:Option Int):Option Int->Option V
 |some (.ofNat a)=>if 1<=a/\a<=l.length/\l.length<=big/\hi=.none/\st=.none then some (.tup (l.drop a))else .none
 |_=>.none
noncomputable def slice(a:V)(lo hi st:Option Int):Option V:=
 if st==some 0 then .none else match a with
 |.lst l=>if l.length<=big then some (.lst ((sliceRange (gu lo hi st l.length).1 (gu lo hi st l.length).2.1 (gu lo hi st l.length).2.2).filterMap (l[·]?)))else .none
 |.str s=>if s.length<=big/\((AH lo hi (st.getD 1) s.length).filterMap (s[·]?)).length<=big then some (.str (if(st.getD 1==1&&(AH lo hi (st.getD 1) s.length).length==s.length)=true then s else(AH lo hi (st.getD 1) s.length).filterMap (s[·]?)))else .none
 |.tup l=>KH l hi st lo
 |_=>.none
noncomputable def wB:List Nat->V->aB->Option aB
 |is,.tup l,J=>if is.length==l.length then some ((is.zip l).foldl (λJ p=>put p.1 p.2 J) J)else .none
 |is,.lst l,J=>if is.length==l.length then some ((is.zip l).foldl (λJ p=>put p.1 p.2 J) J)else .none
 |_,_,_=>.none
noncomputable def dD:T->V->aB->Option aB
 |.one i,v,J=>some (put i v J)
 |.many is,.tup l,J=>wB is (.tup l) J
 |_,_,_=>.none
section
variable {r:γ}{P:Prop}
theorem cX{e:Option (V×Mu)}{f:V->Mu->Option γ}(h:(match e with|some (a,b)=>f a b|.none=>.none)=some r)(k:∀a b,e=some (a,b)->f a b=some r->P):P:=by
 induction e using aT with
 |none=>exact ns h
 |some p=>exact k p.1 p.2 rfl h
theorem lH{e:Option (List V×Mu)}{f:List V->Mu->Option γ}(h:(match e with|some (a,b)=>f a b|.none=>.none)=some r)(k:∀a b,e=some (a,b)->f a b=some r->P):P:=by
 induction e using aT with
 |none=>exact ns h
 |some p=>exact k p.1 p.2 rfl h
theorem Gm{e:Option (Option V×Mu)}{f:Option V->Mu->Option γ}(h:(match e with|some (a,b)=>f a b|.none=>.none)=some r)(k:∀a b,e=some (a,b)->f a b=some r->P):P:=by
 induction e using aT with
 |none=>exact ns h
 |some p=>exact k p.1 p.2 rfl h
theorem qg{e:Option Bool}{a b:Option γ}(h:(match e with|some true=>a|some false=>b|.none=>.none)=some r)(k1:e=some true->a=some r->P)(k2:e=some false->b=some r->P):P:=by
 induction e using aT with
 |none=>exact ns h
 |some c=>induction c using eo with
  |true=>exact k1 rfl h
  |false=>exact k2 rfl h
end
structure G where
 ah:List Str
 glob:Nat->Option V
 call:Nat->Nat->List V->Mu->Option (V×Mu)
 find:Nat->V->Mu->Bool
 bY:Nat->Nat->V->List V->Mu->Option (V×Mu)
 attr:Nat->V->Mu->Option V
 lE:Nat->Option (List (List Nat×Int))
 fB:Bool
noncomputable def bU(f:X->Mu->Option (V×Mu)):List X->Mu->Option (List V×Mu)
 |[],O=>some ([],O)
 |x::r,O=>match f x O with
  |some (v,O)=>match bU f r O with
   |some (vs,O)=>some (v::vs,O)
   |.none=>.none
  |.none=>.none
noncomputable def kH(f:X->Mu->Option (V×Mu)):Option X->Mu->Option (Option V×Mu)
 |.none,O=>some (.none,O)
 |some x,O=>match f x O with
  |some (v,O)=>some (some v,O)
  |.none=>.none
noncomputable def rF(f:X->Mu->Option (V×Mu)):List X->Mu->Option (V×Mu)
 |[],_=>.none
 |[x],O=>f x O
 |x::r,O=>match f x O with
  |some (v,O)=>match eZ (bg O v)with
   |some true=>rF f r O
   |some false=>some (v,O)
   |.none=>.none
  |.none=>.none
noncomputable def p9(f:X->Mu->Option (V×Mu)):List X->Mu->Option (V×Mu)
 |[],_=>.none
 |[x],O=>f x O
 |x::r,O=>match f x O with
  |some (v,O)=>match eZ (bg O v)with
   |some true=>some (v,O)
   |some false=>p9 f r O
   |.none=>.none
  |.none=>.none
noncomputable def mP(a b c:Int):List V:=(dw (nU a b c).toNat).map λ(i:Nat)=>.int (a+(i:Int)*c)
noncomputable def uo:V->Option Int
 |.int i=>some i
 |_=>.none
noncomputable def o9:List V->Option (List V)
 |[]=>.none
 |[x]=>(uo x).bind λb=>if pY 0 b 1 then some (mP 0 b 1)else .none
 |[x,y]=>(uo x).bind λa=>(uo y).bind λb=>if pY a b 1 then some (mP a b 1)else .none
 |[x,y,z]=>(uo x).bind λa=>(uo y).bind λb=>(uo z).bind λc=>if pY a b c&&c != 0&&small c then some (mP a b c)else .none
 |_::_::_::_::_=>.none
theorem d5x{b:Int}(h:pY 0 b 1=true):o9 [.int b]=some (mP 0 b 1):=if_pos h
noncomputable def uB:V->Option (List V)
 |.lst l=>some l
 |.tup l=>some l
 |.str s=>if s.all (λc=>decide (c<128))then some (s.map λc=>.str [c])else .none
 |_=>.none
noncomputable def yG:X->Bool
 |.range _=>true
 |.enum _=>true
 |.zip _ _=>true
 |_=>false
noncomputable def cT(f:X->Mu->Option (V×Mu))(x:X)(O:Mu):Option (List V×Mu):=if yG x then match x with
 |.range args=>match bU f args O with
  |some (vs,O)=>(o9 vs).map (·,O)
  |.none=>.none
 |.enum a=>match f a O with
  |some (.lst l,O)=>some (l.zipIdx.map λp=>.tup [.int p.2,p.1],O)
  |_=>.none
 |_=>.none
 else match f x O with
  |some (v,O)=>(uB v).map (·,O)
  |.none=>.none
noncomputable def j0(f:X->Mu->Option (V×Mu)):List X->Mu->Option (Bool×Mu)
 |[],O=>some (true,O)
 |x::r,O=>match f x O with
  |some (v,O)=>match eZ (bg O v)with
   |some true=>j0 f r O
   |some false=>some (false,O)
   |.none=>.none
  |.none=>.none
noncomputable def jw(f:X->aB->Mu->Option (V×Mu))(elt:X)(t:T)(ifs:List X):List V->aB->Mu->Option (List V×Mu)
 |[],_,O=>some ([],O)
 |v::r,J,O=>match dD t v J with
  |.none=>.none
  |some J=>match j0 (λx O=>f x J O) ifs O with
   |.none=>.none
   |some (false,O)=>jw f elt t ifs r J O
   |some (true,O)=>match f elt J O with
    |.none=>.none
    |some (y,O)=>match jw f elt t ifs r J O with
     |.none=>.none
     |some (ys,O)=>some (y::ys,O)
noncomputable def mz(f:X->aB->Mu->Option (V×Mu))(elt:X)(t:T)(ifs:List X)(P:Mu->Prop)[∀O,Decidable (P O)]:List V->aB->Mu->Option (List V×Mu)
 |[],_,O=>if P O then some ([],O)else .none
 |v::r,J,O=>if P O then match dD t v J with
  |.none=>.none
  |some J=>match j0 (λx O=>f x J O) ifs O with
   |.none=>.none
   |some (false,O)=>mz f elt t ifs P r J O
   |some (true,O)=>match f elt J O with
    |.none=>.none
    |some (y,O)=>match mz f elt t ifs P r J O with
     |.none=>.none
     |some (ys,O)=>some (y::ys,O)
  else .none
noncomputable def gf(f:X->aB->Mu->Option (V×Mu))(g:aB->Mu->Option (List V×aB×Mu))(t:T)(ifs:List X)(P:Mu->Prop)[∀O,Decidable (P O)]:List V->aB->Mu->Option (List V×aB×Mu)
 |[],J,O=>if P O then some ([],J,O)else .none
 |v::r,J,O=>if P O then(dD t v J).bind λJ=>(j0 (λx O=>f x J O) ifs O).bind λb=>
   if b.1 then(g J b.2).bind λp=>(gf f g t ifs P r p.2.1 p.2.2).map λq=>(p.1++q.1,q.2)
   else gf f g t ifs P r J b.2
  else .none
noncomputable def zg:X->Bool
 |.gen ..=>true
 |_=>false
noncomputable def iP(f:X->aB->Mu->Option (V×Mu)):X->aB->Mu->Option (List V×aB×Mu)
 |.gen e t it ifs,J,O=>(cT (λx O=>f x J O) it O).bind λp=>gf f (iP f e) t ifs (λzz=>True) p.1 J p.2
 |x,J,O=>(f x J O).map λp=>([p.1],J,p.2)
noncomputable def NQ(f:X->Mu->Option (V×Mu))(a b:X)(O:Mu):Option (Nat×M×List V×Mu):=match f a O with
 |some (.lst l,O)=>match f b O with
  |some (.lst m,O)=>if l.length=m.length then some (O.length,.obj [] (-9),(l.zip m).map λp=>.tup [p.1,p.2],O++[.obj [] (-9)])else .none
  |_=>.none
 |_=>.none
noncomputable def vM(f:X->Mu->Option (V×Mu))(x:X)(O:Mu):Option (Nat×M×List V×Mu):=if yG x then match x with
 |.zip a b=>NQ f a b O
 |_=>.none
 else .none
open Classical in
noncomputable def BP(f:X->aB->Mu->Option (V×Mu))(elt:X)(t:T)(it:X)(ifs:List X)(J ρ':aB)(O:Mu):Option (V×Mu):=(vM (λx O=>f x J O) it O).bind λq=>if q.2.2.1.length<=big then
 (mz f elt t ifs (λO=>O[q.1]?=some q.2.1) q.2.2.1 ρ' q.2.2.2).map λp=>(.lst p.1,p.2)else .none
noncomputable def qz:List V->Option (List (Int×V))
 |.int i::v::r=>(qz r).bind λd=>if(d.map (·.1)).contains i then .none else some ((i,v)::d)
 |[]=>some []
 |_=>.none
noncomputable def G7:V->Option (List V)
 |.lst l=>some l
 |_=>.none
noncomputable def ev(Z:G):Nat->X->aB->Mu->Option (V×Mu)
 |0,_,_,_=>.none
 |n+1,x,J,O=>match x with
  |.cst v=>some (v,O)
  |.loc i=>(J.lookup i).map (·,O)
  |.jo i=>(Z.glob i).map (·,O)
  |.bin op a b=>match ev Z n a J O with
   |some (u,O)=>match ev Z n b J O with
    |some (v,O)=>(cP op (bg O u) (bg O v)).map (·,O)
    |.none=>.none
   |.none=>.none
  |.neg a=>match ev Z n a J O with
   |some (.int i,O)=>some (.int (-i),O)
   |_=>.none
  |.not a=>match ev Z n a J O with
   |some (v,O)=>(eZ (bg O v)).map λb=>(.bool (!b),O)
   |.none=>.none
  |.yf i a=>match ev Z n a J O,Z.lE i with
   |some (.str x,O),some l=>some (.bool (l.lookup x).isSome,O)
   |_,_=>.none
  |.cmp op a b=>match ev Z n a J O with
   |some (u,O)=>match ev Z n b J O with
    |some (v,O)=>(cR op (bg O u) (bg O v)).map λb=>(.bool b,O)
    |.none=>.none
   |.none=>.none
  |.vG o1 o2 a b c=>match ev Z n a J O with
   |some (u,O)=>match ev Z n b J O with
    |some (v,O)=>match cR o1 (bg O u) (bg O v)with
     |some true=>match ev Z n c J O with
      |some (w,O)=>(cR o2 (bg O v) (bg O w)).map λb=>(.bool b,O)
      |.none=>.none
     |some false=>some (.bool false,O)
     |.none=>.none
    |.none=>.none
   |.none=>.none
  |.and l=>rF (λx O=>ev Z n x J O) l O
  |.or l=>p9 (λx O=>ev Z n x J O) l O
  |.ite c a b=>match ev Z n c J O with
   |some (v,O)=>match eZ (bg O v)with
    |some true=>ev Z n a J O
    |some false=>ev Z n b J O
    |.none=>.none
   |.none=>.none
  |.tup l=>match bU (λx O=>ev Z n x J O) l O with
   |some (vs,O)=>if vs.length<=big then some (.tup vs,O)else .none
   |.none=>.none
  |.lst l=>match bU (λx O=>ev Z n x J O) l O with
   |some (vs,O)=>if vs.length<=big then some (.lst vs,O)else .none
   |.none=>.none
  |.jD l=>match bU (λx O=>ev Z n x J O) l O with
   |some (vs,O)=>if vs.length<=big then some (.mut O.length,O++[.list vs])else .none
   |.none=>.none
  |.q6 l=>match bU (λx O=>ev Z n x J O) l O with
   |some (vs,O)=>(qz vs).map λd=>(.mut O.length,O++[.dict d])
   |.none=>.none
  |.u6 a b=>match ev Z n a J O with
   |some (u,O)=>match ev Z n b J O with
    |some (v,O)=>((cP .Add (bg O u) (bg O v)).bind G7).map λl=>(.mut O.length,O++[.list l])
    |.none=>.none
   |.none=>.none
  |.ya a=>match ev Z n a J O with
   |some (u,O)=>(oW O u).bind λl=>if l.isEmpty then .none else some (.bool true,O)
   |.none=>.none
  |.sub a i=>match ev Z n a J O with
   |some (u,O)=>match ev Z n i J O with
    |some (v,O)=>(vP O u v).map (·,O)
    |.none=>.none
   |.none=>.none
  |.slc a lo hi st=>match ev Z n a J O with
   |some (u,O)=>match kH (λx O=>ev Z n x J O) lo O with
    |some (l,O)=>match kH (λx O=>ev Z n x J O) hi O with
     |some (h,O)=>match kH (λx O=>ev Z n x J O) st O with
      |some (s,O)=>match kP l,kP h,kP s with
       |some l,some h,some s=>(slice (bg O u) l h s).map (·,O)
       |_,_,_=>.none
      |.none=>.none
     |.none=>.none
    |.none=>.none
   |.none=>.none
  |.call f args=>match bU (λx O=>ev Z n x J O) args O with
   |some (vs,O)=>Z.call n f vs O
   |.none=>.none
  |.bY m o args=>match ev Z n o J O with
   |some (u,O)=>if Z.find m u O then match bU (λx O=>ev Z n x J O) args O with
     |some (vs,O)=>Z.bY n m u vs O
     |.none=>.none
    else .none
   |.none=>.none
  |.attr m o=>match ev Z n o J O with
   |some (u,O)=>(Z.attr m u O).map (·,O)
   |.none=>.none
  |.comp elt t it ifs own=>match cT (λx O=>ev Z n x J O) it O with
   |some (vs,O)=>if vs.length<=big then
     match jw (ev Z n) elt t ifs vs (J.filter λp=>!own.contains p.1) O with
     |some (ys,O)=>some (.lst ys,O)
     |.none=>.none
    else .none
   |.none=>BP (ev Z n) elt t it ifs J (J.filter λp=>!own.contains p.1) O
  |.rP elt t it ifs own=>(cT (λx O=>ev Z n x J O) it O).bind λp=>
   (gf (ev Z n) (iP (ev Z n) elt) t ifs (λzz=>True) p.1 (J.filter λp=>!own.contains p.1) p.2).bind λq=>if q.1.length<=big then some (.lst q.1,q.2.2)else .none
  |.xV i a=>match ev Z n a J O,Z.lE i with
   |some (.str x,O),some l=>(l.lookup x).map λk=>(.int k,O)
   |_,_=>.none
  |.yc a=>match ev Z n a J O with
   |some (.int b,O)=>if pY 0 b 1&&decide (b.toNat<=big)then some (.lst (mP 0 b 1),O)else .none
   |_=>.none
  |.range _=>.none
  |.enum _=>.none
  |.zip _ _=>.none
  |.gen ..=>.none
noncomputable def eB(f:aB->Mu->Option (F×aB×Mu))(t:T):List V->aB->Mu->Option (F×aB×Mu)
 |[],J,O=>some (.next,J,O)
 |v::r,J,O=>match dD t v J with
  |.none=>.none
  |some J=>match f J O with
   |.none=>.none
   |some (.brk,J,O)=>some (.next,J,O)
   |some (.ret v,J,O)=>some (.ret v,J,O)
   |some (_,J,O)=>eB f t r J O
noncomputable def bE(f:S->aB->Mu->Option (F×aB×Mu)):List S->aB->Mu->Option (F×aB×Mu)
 |[],J,O=>some (.next,J,O)
 |s::r,J,O=>match f s J O with
  |some (.next,J,O)=>bE f r J O
  |x=>x
noncomputable def chars(t:List Nat):List V:=t.reverse.map λc=>.str [c]
noncomputable def zV(O:Mu)(t:List Nat):Option (Nat×Mu):=if t.length<=big then match (O[0]?:Option M)with
 |some (.obj [] (-1))=>some (O.length+2,O.set 0 (.obj [O.length+1] (-5))++[.list (chars t),.obj [] (-6),.obj [O.length,O.length+1] (-3)])
 |_=>.none
 else .none
noncomputable def uv(m ks:Nat):Mu:=[.list [],.obj [m,ks] 1]
noncomputable def jh(O:Mu)(k:Nat):Option (List Nat×Mu):=match O[k]? with
 |some (.obj [kp,ks] n)=>if 1<=n then match O[ks]? with
  |some (.obj [kl,kc] (-3))=>match O[kl]?,O[kc]? with
   |some (.list L),some (.obj [] (-6))=>if L.length<=big then match L.getLast? with
    |.none=>some ([],O)
    |some (.str [c])=>if c<1114112 then(if c=10 then some ([c],(O.set kl (.list L.dropLast)).set k (.obj [kp,ks] (n+1)))else some ([c],O.set kl (.list L.dropLast)))else .none
    |_=>.none
    else .none
   |_,_=>.none
  |_=>.none
  else .none
 |_=>.none
noncomputable def draw(O:Mu)(kf:Nat):Option (Option (List Nat)×Mu):=match O[kf]? with
 |some (.obj [k] (-2))=>match jh O k with
  |some ([],O)=>some (.none,O.set kf (.obj [k] (-4)))
  |some (c,O)=>some (some c,O)
  |.none=>.none
 |some (.obj [_] (-4))=>some (.none,O)
 |_=>.none
noncomputable def fO(f:aB->Mu->Option (F×aB×Mu))(t:T)(kf:Nat):Nat->aB->Mu->Option (F×aB×Mu)
 |0,_,_=>.none
 |m+1,J,O=>match draw O kf with
  |.none=>.none
  |some (.none,O)=>some (.next,J,O)
  |some (some c,O)=>match dD t (.str c) J with
   |.none=>.none
   |some J=>match f J O with
    |.none=>.none
    |some (.brk,J,O)=>some (.next,J,O)
    |some (.ret v,J,O)=>some (.ret v,J,O)
    |some (_,J,O)=>fO f t kf m J O
theorem d6d{f:aB->Mu->Option (F×aB×Mu)}{t:T}(hd:draw O kf=.none):fO f t kf (m+1) J O=.none:=by
 show(match (generalizing:=false) draw O kf with|.none=>cZ|some (.none,O)=>some (F.next,J,O)|some (some c,O)=>_)=_
 rw[hd]
noncomputable def vH:DX->V->V->Option V
 |.Add,.str a,.str b=>if decide (a.length+b.length<=big)then some (.str (a++b))else .none
 |_,_,_=>.none
noncomputable def exec(Z:G):Nat->List S->aB->Mu->Option (F×aB×Mu)
 |0,_,_,_=>.none
 |n+1,ss,J,O=>bE (λs J O=>match s with
  |.assign i e=>match ev Z n e J O with
   |some (v,O)=>some (.next,put i v J,O)
   |.none=>.none
  |.unpack l e=>match ev Z n e J O with
   |some (v,O)=>(wB l v J).map λJ=>(.next,J,O)
   |.none=>.none
  |.aug i op e=>match J.lookup i with
   |some u=>match ev Z n e J O with
    |some (v,O)=>(vH op u v).map λr=>(.next,put i r J,O)
    |.none=>.none
   |.none=>.none
  |.ite c a b=>match ev Z n c J O with
   |some (v,O)=>match eZ (bg O v)with
    |some true=>exec Z n a J O
    |some false=>exec Z n b J O
    |.none=>.none
   |.none=>.none
  |.for t it body=>match cT (λx O=>ev Z n x J O) it O with
   |some (vs,O)=>eB (λJ O=>exec Z n body J O) t vs J O
   |.none=>.none
  |.ret e=>match ev Z n e J O with
   |some (v,O)=>some (.ret v,J,O)
   |.none=>.none
  |.expr e=>match ev Z n e J O with
   |some (_,O)=>some (.next,J,O)
   |.none=>.none
  |.kG i e=>if Z.fB&&decide (12<=n)then match ev Z n e J O with
   |some (.mut ks,O)=>match O[ks]? with
    |some (.obj [_,_] (-3))=>some (.next,put i (.mut (O.length+1)) J,O++uv O.length ks)
    |_=>.none
   |_=>.none
   else .none
  |.fit i j=>if Z.fB&&decide (12<=n)then match J.lookup j with
   |some (.mut k)=>match O[k]? with
    |some (.obj [_,_] m)=>if 1<=m then some (.next,put i (.mut O.length) J,O++[.obj [k] (-2)])else .none
    |_=>.none
   |_=>.none
   else .none
  |.chars t i body=>if Z.fB&&decide (12<=n)then match J.lookup i with
   |some (.mut k)=>fO (λJ O=>exec Z n body J O) t k big J O
   |_=>.none
   else .none
  |.line j=>match J.lookup j with
   |some (.mut k)=>match O[k]? with
    |some (.obj is m)=>if 1<=m then some (.next,J,O.set k (.obj is (m+1)))else .none
    |_=>.none
   |_=>.none
  |.store i k e=>match ev Z n e J O with
   |some (x,O)=>match J.lookup i with
    |some (.mut j)=>match ev Z n k J O with
     |some (.int q,O)=>match O[j]? with
      |some (.dict l)=>if l.length<=big then some (.next,J,O.set j (.dict ((q,x)::l)))else .none
      |_=>.none
     |_=>.none
    |_=>.none
   |.none=>.none
  |.wg i k e=>match J.lookup i with
   |some (.mut j)=>match ev Z n k J O with
    |some (.int q,O)=>match item (bg O (.mut j)) (.int q)with
     |some (.int a)=>match ev Z n e J O with
      |some (.int b,O)=>match O[j]? with
       |some (.list l)=>if l.length<=big/\q<0 then(fz q l.length).map λp=>(.next,J,O.set j (.list (l.set p (.int (a+b)))))else .none
       |_=>.none
      |_=>.none
     |_=>.none
    |_=>.none
   |_=>.none
  |.brk=>some (.brk,J,O)
  |.cont=>some (.cont,J,O)) ss J O
mutual
noncomputable def iR(m:Nat)(O:Mu):V->Option V
 |.mut k=>if k<m then some (.mut k)else match O[k]? with
  |some (.list l)=>if cY l then some (.lst l)else .none
  |_=>.none
 |.tup l=>(nJ m O l).map .tup
 |.lst l=>if cY l then some (.lst l)else .none
 |v=>some v
noncomputable def nJ(m:Nat)(O:Mu):List V->Option (List V)
 |[]=>some []
 |x::r=>match iR m O x,nJ m O r with
  |some a,some b=>some (a::b)
  |_,_=>.none
noncomputable def plain:V->Bool
 |.mut _=>false
 |.tup l=>cY l
 |.lst l=>cY l
 |_=>true
noncomputable def cY:List V->Bool
 |[]=>true
 |x::r=>plain x&&cY r
end
noncomputable def gw(m:Nat):M->Bool
 |.list l=>cY l
 |.obj is _=>is.all (·<m)
 |.dict l=>cY (l.map (·.2))
noncomputable def BQ(m:Nat)(O:Mu):V->Option (V×Mu)
 |.mut k=>match O[k]? with
  |some (.dict l)=>if m<=k/\cY (l.map (·.2))=true then some (.mut m,O.take m++[.dict l])else .none
  |_=>.none
 |_=>.none
noncomputable def gW(Z:G)(n:Nat)(params:List Nat)(body:List S)(args:List V)(O:Mu):Option (V×Mu):=
 if params.length==args.length then match exec Z n body (params.zip args) O with
  |some (.ret v,_,ai)=>if(ai.take O.length).all (gw O.length)then(iR O.length ai v).elim (BQ O.length ai v) λx=>some (x,ai.take O.length)else .none
  |some (.next,_,ai)=>if(ai.take O.length).all (gw O.length)then some (.none,ai.take O.length)else .none
  |_=>.none
 else .none
variable {Z:G}
section
variable {a b c i:X}{l:List X}
theorem XN:ev Z (n+1) (.bin op a b) J O=(match ev Z n a J O with
  |some (u,O)=>match ev Z n b J O with
   |some (v,O)=>(cP op (bg O u) (bg O v)).map (·,O)
   |.none=>.none
  |.none=>.none):=rfl
theorem Yc:ev Z (n+1) (.yf k a) J O=(match ev Z n a J O,Z.lE k with
  |some (.str x,O),some l=>some (.bool (l.lookup x).isSome,O)
  |_,_=>.none):=rfl
theorem Yk{op:pX}:ev Z (n+1) (.cmp op a b) J O=(match ev Z n a J O with
  |some (u,O)=>match ev Z n b J O with
   |some (v,O)=>(cR op (bg O u) (bg O v)).map λb=>(.bool b,O)
   |.none=>.none
  |.none=>.none):=rfl
theorem XR:ev Z (n+1) (.ite c a b) J O=(match ev Z n c J O with
  |some (v,O)=>match eZ (bg O v)with
   |some true=>ev Z n a J O
   |some false=>ev Z n b J O
   |.none=>.none
  |.none=>.none):=rfl
theorem Yz:ev Z (n+1) (.tup l) J O=(match bU (λx O=>ev Z n x J O) l O with
  |some (vs,O)=>if vs.length<=big then some (.tup vs,O)else .none
  |.none=>.none):=rfl
theorem XH:ev Z (n+1) (.lst l) J O=(match bU (λx O=>ev Z n x J O) l O with
  |some (vs,O)=>if vs.length<=big then some (.lst vs,O)else .none
  |.none=>.none):=rfl
theorem Zy:ev Z (n+1) (.jD l) J O=(match bU (λx O=>ev Z n x J O) l O with
  |some (vs,O)=>if vs.length<=big then some (.mut O.length,O++[.list vs])else .none
  |.none=>.none):=rfl
theorem OO:ev Z (n+1) (.q6 l) J O=(match bU (λx O=>ev Z n x J O) l O with
  |some (vs,O)=>(qz vs).map λd=>(.mut O.length,O++[.dict d])
  |.none=>.none):=rfl
theorem Zc:ev Z (n+1) (.u6 a b) J O=(match ev Z n a J O with
  |some (u,O)=>match ev Z n b J O with
   |some (v,O)=>((cP .Add (bg O u) (bg O v)).bind G7).map λl=>(.mut O.length,O++[.list l])
   |.none=>.none
  |.none=>.none):=rfl
theorem YU:ev Z (n+1) (.ya a) J O=(match ev Z n a J O with
  |some (u,O)=>(oW O u).bind λl=>if l.isEmpty then .none else some (.bool true,O)
  |.none=>.none):=rfl
theorem NC:ev Z (n+1) (.sub a i) J O=(match ev Z n a J O with
  |some (u,O)=>match ev Z n i J O with
   |some (v,O)=>(vP O u v).map (·,O)
   |.none=>.none
  |.none=>.none):=rfl
theorem NY{lo hi st:Option X}:ev Z (n+1) (.slc a lo hi st) J O=(match ev Z n a J O with
  |some (u,O)=>match kH (λx O=>ev Z n x J O) lo O with
   |some (l,O)=>match kH (λx O=>ev Z n x J O) hi O with
    |some (h,O)=>match kH (λx O=>ev Z n x J O) st O with
     |some (s,O)=>match kP l,kP h,kP s with
      |some l,some h,some s=>(slice (bg O u) l h s).map (·,O)
      |_,_,_=>.none
     |.none=>.none
    |.none=>.none
   |.none=>.none
  |.none=>.none):=rfl
theorem Y8{f:Nat}:ev Z (n+1) (.call f l) J O=(match bU (λx O=>ev Z n x J O) l O with
  |some (vs,O)=>Z.call n f vs O
  |.none=>.none):=rfl
theorem YY:ev Z (n+1) (.bY m a l) J O=(match ev Z n a J O with
  |some (u,O)=>if Z.find m u O then match bU (λx O=>ev Z n x J O) l O with
    |some (vs,O)=>Z.bY n m u vs O
    |.none=>.none
   else .none
  |.none=>.none):=rfl
theorem Y5:ev Z (n+1) (.attr m a) J O=(match ev Z n a J O with
  |some (u,O)=>(Z.attr m u O).map (·,O)
  |.none=>.none):=rfl
theorem Gy{t:T}{own:List Nat}:ev Z (n+1) (.comp a t i l own) J O=(match cT (λx O=>ev Z n x J O) i O with
  |some (vs,O)=>if vs.length<=big then
    match jw (ev Z n) a t l vs (J.filter λp=>!own.contains p.1) O with
    |some (ys,O)=>some (.lst ys,O)
    |.none=>.none
   else .none
  |.none=>BP (ev Z n) a t i l J (J.filter λp=>!own.contains p.1) O):=rfl
theorem NO{t:T}{own:List Nat}:ev Z (n+1) (.rP a t i l own) J O=((cT (λx O=>ev Z n x J O) i O).bind λp=>
   (gf (ev Z n) (iP (ev Z n) a) t l (λzz=>True) p.1 (J.filter λp=>!own.contains p.1) p.2).bind λq=>if q.1.length<=big then some (.lst q.1,q.2.2)else .none):=rfl
theorem d7c:ev Z (n+1) (.yc a) J O=(match ev Z n a J O with
  |some (.int b,O)=>if pY 0 b 1&&decide (b.toNat<=big)then some (.lst (mP 0 b 1),O)else .none
  |_=>.none):=rfl
theorem ZS:ev Z (n+1) (.xV k a) J O=(match ev Z n a J O,Z.lE k with
  |some (.str x,O),some l=>(l.lookup x).map λk=>(.int k,O)
  |_,_=>.none):=rfl
theorem e8p:ev Z (n+1) (.vG o1 o2 a b c) J O=(match ev Z n a J O with
  |some (u,O)=>match ev Z n b J O with
   |some (v,O)=>match cR o1 (bg O u) (bg O v)with
    |some true=>match ev Z n c J O with
     |some (w,O)=>(cR o2 (bg O v) (bg O w)).map λb=>(.bool b,O)
     |.none=>.none
    |some false=>some (.bool false,O)
    |.none=>.none
   |.none=>.none
  |.none=>.none):=rfl
theorem BD{f:S->aB->Mu->Option (F×aB×Mu)}{s:S}{r:List S}:bE f (s::r) J O=(match f s J O with
  |some (.next,J,O)=>bE f r J O
  |x=>x):=rfl
theorem MR{b:Int}:bg O (.int b)=.int b:=rfl
theorem WA{b:List Nat}:bg O (.str b)=.str b:=rfl
theorem Gq:bg O (.mut k)=(match O[k]? with
  |some (.list l)=>.lst l
  |_=>.mut k):=rfl
theorem WH{b:List V}:eZ (.lst b)=if b.length<=big then some (!b.isEmpty)else .none:=rfl
theorem g2z{x:List Nat}:vH .Add (.str x) (.str y)=if decide (x.length+y.length<=big)then some (.str (x++y))else .none:=rfl
theorem gy:dD (.one k) v J=some (put k v J):=rfl
theorem Wi{x:V}{r:List V}:nJ m O (x::r)=(match iR m O x,nJ m O r with
  |some a,some b=>some (a::b)
  |_,_=>.none):=rfl
section
variable {x y:X}
theorem MI:rF f (x::y::l) O=(match f x O with
  |some (v,O)=>match eZ (bg O v)with
   |some true=>rF f (y::l) O
   |some false=>some (v,O)
   |.none=>.none
  |.none=>.none):=rfl
theorem Gh:p9 f (x::y::l) O=(match f x O with
  |some (v,O)=>match eZ (bg O v)with
   |some true=>some (v,O)
   |some false=>p9 f (y::l) O
   |.none=>.none
  |.none=>.none):=rfl
theorem Gr:cT f (.range l) O=(match bU f l O with
  |some (vs,O)=>(o9 vs).map (·,O)
  |.none=>.none):=rfl
theorem Bu:cT f (.enum x) O=(match f x O with
  |some (.lst l,O)=>some (l.zipIdx.map λp=>.tup [.int p.2,p.1],O)
  |_=>.none):=rfl
theorem WN:cT f (.tup l) O=(match f (.tup l) O with
  |some (v,O)=>(uB v).map (·,O)
  |.none=>.none):=rfl
end
end
noncomputable def l1{α:Type}(l:List α):Option α:=l.head?.bind λa=>if l.tail.isEmpty then some a else .none
noncomputable def l2{α:Type}(l:List α):Option (α×α):=l.head?.bind λa=>(l1 l.tail).map λb=>(a,b)
theorem pe{l:List α}{a:α}(h:l1 l=some a):l=[a]:=
 aO h λb hb h=>aL h λht h9=>by
  obtain⟨r,e⟩:=g5m.mp hb;rw[e]at ht;rw[e,←aD h9,D5.mp (show r.isEmpty=true from ht)]
theorem wu{l:List α}{q:α×α}(h:l2 l=some q):l=[q.1,q.2]:=
 aO h λa ha h=>aZ h λb hb e=>by
  obtain⟨r,e1⟩:=g5m.mp ha;rw[e1]at hb;rw[←e,e1,show r=[b]from pe hb]
noncomputable def nid:List Str->Str->Option Nat
 |[],_=>.none
 |y::r,x=>if y=x then some 0 else(nid r x).map (·+1)
theorem fQ:∀{ah:List Str}{x:Str}{i:Nat},nid ah x=some i->ah[i]?=some x:=by
 intro z_;induction z_ with
 |nil=>
  intro x i h;exact ns h
 |cons y r ih=>
  intro x i h;exact bZ h (λe h'=>by rw[←aD h',e];rfl) λzz h'=>aZ h' λj q e=>e▸(ih q:r[j]?=some x)
def c7(ah:List Str):Prop:=∀(i j:Nat) (x:Str),ah[i]?=some x->ah[j]?=some x->i=j
noncomputable def NT:Const->Option V
 |.none=>some .none
 |.bool b=>some (.bool b)
 |.int i=>some (.int i)
 |.float b=>some (.aq b)
 |.str s=>some (.str s.cps.toList)
 |_=>.none
noncomputable def bJ{α β:Type}(f:α->Option β):List α->Option (List β)
 |[]=>some []
 |x::r=>match f x,bJ f r with
  |some a,some b=>some (a::b)
  |_,_=>.none
theorem jJ{f:α->Option β}{x:α}{r:List α}{a:β}{b:List β}(h1:f x=some a)(h2:bJ f r=some b):bJ f (x::r)=some (a::b):=by
 show(match (generalizing:=false) f x,bJ f r with|some a,some b=>some (a::b)|_,_=>.none)=_
 rw[h1,h2]
theorem eY{f:α->Option β}{x:α}{r:List α}{xs:List β}{G:Prop}(h:bJ f (x::r)=some xs)(k:∀a b,f x=some a->bJ f r=some b->a::b=xs->G):G:=by
 have h:(match (generalizing:=false) f x,bJ f r with|some a,some b=>some (a::b)|_,_=>.none)=some xs:=h
 induction h1:f x using aT with
 |none=>rw[h1]at h;exact ns h
 |some a=>induction h2:bJ f r using aT with
  |none=>rw[h1,h2]at h;exact ns h
  |some b=>rw[h1,h2]at h;exact k a b h1 h2 (aD h)
noncomputable def tX{α β:Type}(f:α->Option β):Option α->Option (Option β)
 |.none=>some .none
 |some x=>(f x).map some
noncomputable def iH(sc:dF)(x:Str):Option NameKind:=sc.names.lookup x
noncomputable def gS(sc:dF)(x:Str):Bool:=match iH sc x with
 |some .local=>true
 |some .cell=>true
 |some .free=>true
 |_=>false
noncomputable def gb(sc:dF)(x:Str):Bool:=match iH sc x with
 |some .globalImplicit=>true
 |_=>false
noncomputable def qv(sc:dF)(x:Str):Bool:=match iH sc x with
 |some .cell=>true
 |some .free=>true
 |_=>false
noncomputable def fL(e:Expr):Bool:=!Nat.beq e.ctorIdx 22
noncomputable def cS(sc:dF)(x:Str):Bool:=match iH sc x with
 |some .local=>true
 |some .cell=>true
 |_=>false
noncomputable def kU(e:Expr):Option Str:=if h:e.ctorIdx=23 then Js e h λx zz=>some x else .none
noncomputable def yX(e:Expr):Option (List Expr):=if h:e.ctorIdx=25 then DQ e h λl zz zz=>some l else .none
noncomputable def Hu(e:Expr):Option (Expr×List Expr×List Ay):=if h:e.ctorIdx=16 then RX e h λf l k zz=>some (f,l,k)else .none
noncomputable def HC(e:Expr):Option (Expr×Str×Pos):=if h:e.ctorIdx=20 then g3w e h λo a p=>some (o,a,p)else .none
noncomputable def Pc(e:Expr):Option (Option Expr×Option Expr×Option Expr):=if h:e.ctorIdx=26 then RV e h λa b c zz=>some (a,b,c)else .none
theorem mQ:kU e=some x->∃p,e=.Name x p:=
 if q:e.ctorIdx=23 then Js e q (λzz p h=>⟨p,aD h▸rfl⟩)else λh=>ns ((dif_neg q).symm.trans h)
noncomputable def vV(e:Expr):Bool:=cU e.ctorIdx 25
theorem Dy{l:List Expr}:yX e=some l->∃k p,e=.Tuple l k p:=
 if q:e.ctorIdx=25 then DQ e q (λzz k p h=>⟨k,p,aD h▸rfl⟩)else λh=>ns ((dif_neg q).symm.trans h)
theorem Qq(h:vV e=true):∃l k p,e=.Tuple l k p:=DQ e (jz h) λl k p=>⟨l,k,p,rfl⟩
theorem c0t{r:Expr×List Expr×List Ay}:Hu e=some r->∃p,e=.Call r.1 r.2.1 r.2.2 p:=
 if q:e.ctorIdx=16 then RX e q (λzz zz zz p h=>⟨p,aD h▸rfl⟩)else λh=>ns ((dif_neg q).symm.trans h)
theorem Rt{r:Expr×Str×Pos}:HC e=some r->e=.Attribute r.1 r.2.1 r.2.2:=
 if q:e.ctorIdx=20 then g3w e q (λzz zz zz h=>aD h▸rfl)else λh=>ns ((dif_neg q).symm.trans h)
theorem b8d{r:Option Expr×Option Expr×Option Expr}:Pc e=some r->∃p,e=.Slice r.1 r.2.1 r.2.2 p:=
 if q:e.ctorIdx=26 then RV e q (λzz zz zz p h=>⟨p,aD h▸rfl⟩)else λh=>ns ((dif_neg q).symm.trans h)
noncomputable def oR(ah:List Str)(sc:dF)(e:Expr):Option Nat:=(kU e).bind λx=>if cS sc x then nid ah x else .none
noncomputable def iS(ah:List Str)(sc:dF)(e:Expr):Option T:=(kU e).elim ((yX e).bind λl=>(bJ (oR ah sc) l).map .many) λx=>if cS sc x then(nid ah x).map .one else .none
noncomputable def v9(sc cs:dF)(ah:List Str):Bool:=
 cs.kind==.function&&cs.names.all (λp=>(p.2==.local&&cs.names.lookup p.1==some .local)||(p.2==.free&&qv sc p.1&&cs.names.lookup p.1==some .free&&(nid ah p.1).isSome)||p.2==.globalImplicit)
noncomputable def zh(cs:dF)(ah:List Str):Option (List Nat):=
 bJ (λp=>nid ah p.1) (cs.names.filter λp=>p.2==.local)
noncomputable def F9 (sc:dF) (e:Expr):Option Str:=(kU e).bind λg=>if gb sc g&&!(g==("__debug__":Str))then some g else .none
noncomputable def V6(sc:dF):pX->Expr->Option Str
 |.In,e=>F9 sc e
 |_,_=>.none
noncomputable def yM(y:Option X):Option X:=y.bind λx=>if yG x then .none else some x
noncomputable def oZ (t it:Expr):Bool:=(Hu it).all λq=>(kU q.1).all λf=>vV t||!(f==("enumerate":Str)||f==("zip":Str))
noncomputable def wR(e:Expr):Option (Str×List Expr):=(Hu e).bind λq=>if q.2.2.isEmpty then(kU q.1).map λx=>(x,q.2.1)else .none
theorem Ae{q:Str×List Expr}(h:wR e=some q):∃p pos,e=.Call (.Name q.1 p) q.2 [] pos:=by
 refine aO h λr hr h=>aL h λhk h=>aZ h λx h1 e1=>?_;obtain⟨pos,hE⟩:=c0t hr;obtain⟨p,hN⟩:=mQ h1;exact⟨p,pos,by rw[hE,hN,D5.mp hk,←e1]⟩
noncomputable def F4 (sc:dF) (e:Expr):Option Expr:=(wR e).bind λq=>(l1 q.2).bind λa=>if q.1==("list":Str)&&gb sc q.1 then(wR a).bind λr=>(l1 r.2).bind λb=>
  if r.1==("range":Str)&&gb sc r.1&&fL b then some b else .none else .none
theorem Zi  {b:Expr}{P:Prop} (h:F4 sc e=some b) (k:∀p1 p2 p3 p4,e=.Call (.Name "list" p1) [.Call (.Name "range" p2) [b] [] p3] [] p4->gb sc "list" = true->gb sc "range" = true->fL b=true->P):P:=by
 refine aO h λq hq h=>aO h λa ha h=>aL h λhc h=>aO h λr hr h=>aO h λc hb h=>aL h λhd h9=>?_;obtain⟨p1,p4,hE⟩:=Ae hq;obtain⟨p2,p3,hF⟩:=Ae hr;have h1:q.1 = "list":=eq_of_beq (aP hc)
 have h2:r.1 = "range":=eq_of_beq (aP (aP hd))
 have h3:c=b:=aD h9;exact k p1 p2 p3 p4 (by rw[hE,pe ha,hF,pe hb,h1,h2,h3]) (h1▸aR hc) (h2▸aR (aP hd)) (h3▸aR hd)
noncomputable def uD(f:Expr->Option X):List (Option Expr)->List Expr->Option (List X)
 |some k::ks,v::vs=>(f k).bind λa=>(f v).bind λb=>(uD f ks vs).map λr=>a::b::r
 |[],[]=>some []
 |_,_=>.none
noncomputable def Ly(e:Expr):Bool:=if h:e.ctorIdx=6 then g3t e h λks vs zz=>ks.isEmpty&&vs.isEmpty else false
noncomputable def ue(f fI:Expr->Option X)(ft:Expr->Option T)(elt:Expr):List xK->Option X
 |[]=>(f elt).bind λx=>if zg x then .none else some x
 |g::gs=>if g.is_async==0&&oZ g.target g.iter then(ue f fI ft elt gs).bind λe=>(ft g.target).bind λt=>(fI g.iter).bind λit=>(bJ f g.ifs).map λifs=>.gen e t it ifs
  else .none
noncomputable def M3(f:Expr->Option X)(sc:dF)(e:Expr):Option X:=(wR e).elim (yM (f e)) λq=>if gb sc q.1&&q.2.all fL&&decide (q.2.length<=30)then
  if q.1==("range":Str)then(bJ f q.2).map .range
  else if q.1==("enumerate":Str)then(l1 q.2).bind λa=>(f a).map .enum
  else if q.1==("zip":Str)then(l2 q.2).bind λr=>(f r.1).bind λa=>(f r.2).map λb=>.zip a b
  else yM (f e)
 else .none
noncomputable def aK(ah:List Str):Nat->dF->Expr->Option X
 |0,_,_=>.none
 |k+1,sc,e=>mT (motive_1:=λzz=>Option X) e
  (λop l zz=>(bJ (aK ah k sc) l).map (match op with|.And=>.and|.Or=>.or))
  (λzz zz zz=>.none)
  (λl op r zz=>(aK ah k sc l).bind λa=>(aK ah k sc r).map λb=>.bin op a b)
  (λop x zz=>match op with
   |.USub=>(aK ah k sc x).map .neg
   |.Not=>(aK ah k sc x).map .not
   |_=>.none)
  (λzz zz zz zz=>.none)
  (λc a b zz=>(aK ah k sc c).bind λc=>(aK ah k sc a).bind λa=>(aK ah k sc b).map λb=>.ite c a b)
  (λks vs zz=>if decide (vs.length<=15)then(uD (aK ah k sc) ks vs).map .q6 else .none)
  (λzz zz zz=>.none)
  (λelt gens cs zz=>match gens with
   |⟨t,it,ifs,0⟩::gs=>if v9 sc cs ah&&oZ t it then(ue (aK ah k cs) (jC ah k cs) (iS ah cs) elt gs).bind λe=>(iS ah cs t).bind λt=>(jC ah k sc it).bind λit=>(bJ (aK ah k cs) ifs).bind λifs=>(zh cs ah).map λown=>if gs.isEmpty then .comp e t it ifs own else .rP e t it ifs own
    else .none
   |_=>.none)
  (λzz zz zz zz=>.none) (λzz zz zz zz zz=>.none) (λzz zz zz zz=>.none) (λzz zz=>.none) (λzz zz=>.none) (λzz zz=>.none)
  (λl ops rs zz=>(l1 rs).elim ((l2 rs).bind λr=>(l2 ops).bind λo=>(aK ah k sc l).bind λa=>(aK ah k sc r.1).bind λb=>(aK ah k sc r.2).map λc=>.vG o.1 o.2 a b c) λr=>(l1 ops).bind λop=>
   if Ly r then(if op==.NotEq then(aK ah k sc l).map .ya else .none)else(V6 sc op r).elim ((aK ah k sc l).bind λa=>(aK ah k sc r).map λb=>.cmp op a b) λg=>(aK ah k sc l).bind λa=>(nid ah g).map λi=>.yf i a)
  (λfe args ks cp=>match ks with
   |[]=>(kU fe).elim ((HC fe).bind λq=>if args.all fL&&decide (args.length<20)&&q.2.2.endLine==cp.line then(nid ah q.2.1).bind λi=>(aK ah k sc q.1).bind λo=>(bJ (aK ah k sc) args).map λl=>.bY i o l
     else .none) λf=>(F4 sc e).elim (if gb sc f&&args.all fL&&decide (args.length<=30)&&!(f==("__debug__":Str))&&!(f==("super":Str))then(nid ah f).bind λi=>(bJ (aK ah k sc) args).map λl=>.call i l
     else .none) λa=>(aK ah k sc a).map .yc
   |_=>.none)
  (λzz zz zz zz=>.none) (λzz zz=>.none)
  (λc zz zz=>(NT c).map .cst)
  (λo m zz=>(nid ah m).bind λi=>(aK ah k sc o).map λo=>.attr i o)
  (λa i zz=>(Pc i).elim ((F9 sc a).elim ((aK ah k sc a).bind λa=>(aK ah k sc i).map λi=>.sub a i) λg=>(nid ah g).bind λj=>(aK ah k sc i).map λi=>.xV j i) λq=>(aK ah k sc a).bind λa=>(tX (aK ah k sc) q.1).bind λlo=>(tX (aK ah k sc) q.2.1).bind λhi=>(tX (aK ah k sc) q.2.2).map λst=>.slc a lo hi st)
  (λzz zz=>.none)
  (λx zz=>if x==("__debug__":Str)||x==("__classdict__":Str)then .none else
    if gS sc x then(nid ah x).map .loc else if gb sc x then(nid ah x).map .jo else .none)
  (λl zz=>if l.all fL then(bJ (aK ah k sc) l).map .lst else .none)
  (λl zz zz=>if l.all fL then(bJ (aK ah k sc) l).map .tup else .none)
  (λzz zz zz zz=>.none)
where
 jC (ah:List Str):Nat->dF->Expr->Option X
 |0,_,_=>.none
 |k+1,sc,e=>M3 (aK ah k sc) sc e
structure gj where
 At:Heap->List Addr->List Addr->Int->Prop
 keep:∀{h h':Heap}{aH rs:List Addr}{n},At h aH rs n->(∀a∈aH,∀o,h.get? a=some o->h'.get? a=some o)->At h' aH rs n
 pair:∀{h:Heap}{T:Addr},At h [T] [] (-9)↔∃a b,sV h T a b
noncomputable def oB(as:List (List Addr))(is:List Nat):Option (List Addr):=bJ (λi=>as[i+1]?.bind SG) is
theorem C0(g:∀(k:Nat) (l:List Addr),as[k+1]?=some l->as'[k+1]?=some l):∀{is:List Nat}{rs:List Addr},oB as is=some rs->oB as' is=some rs:=by
 intro z_;induction z_ with
 |nil=>
  intro _ e;exact e
 |cons i is ih=>
  intro rs e;exact eY e λa b h1 h2 e=>aO h1 λl q hl=>e▸jJ (by rw[g i l q];exact hl) (ih h2)
theorem c9y(hm:as.length=m+1):∀{is:List Nat}{rs:List Addr},is.all (·<m)=true->oB (as++nw) is=some rs->oB as is=some rs:=by
 intro z_;induction z_ with
 |nil=>
  intro _ _ e;exact e
 |cons i is ih=>
  intro rs ha e;exact eY e λa b h1 h2 e=>e▸jJ (by
   rw[iK (by rw[hm];exact DY (of_decide_eq_true (aP ha)))]at h1;exact h1) (ih (aR ha) h2)
noncomputable def oJ(l:List (Int×V))(vs:List ao)(k:Int):Option Value:=((l.map (·.1)).zip vs).lookup k
noncomputable def nT(Lx:gj)(h:Heap)(as:List (List Addr)):M->List Addr->Prop
 |.list l,aH=>∃a vs,aH=[a]/\h.PlainList a vs.toArray/\aJ h as l vs
 |.obj is n,aH=>∃rs,oB as is=some rs/\Lx.At h aH rs n
 |.dict l,aH=>∃a vs,aH=[a]/\(h.IntMap a (oJ l vs)/\h.DictLe a l.length)/\aJ h as (l.map (·.2)) vs
theorem nT.mv{Lx:gj}{m:M}(hm:nT Lx h as m aH)(ko:∀a∈aH,∀o,h.get? a=some o->h'.get? a=some o)(kf:∀{is:List Nat}{rs:List Addr},oB as is=some rs->oB as' is=some rs)(kr:∀{l:List V}{vs:List ao},aJ h as l vs->aJ h' as' l vs):nT Lx h' as' m aH:=by
 induction m using Internal.M.casesOn with
 |list l=>
  obtain⟨a,vs,rfl,⟨n,hp⟩,hr⟩:=hm;exact⟨a,vs,rfl,⟨n,ko a (As a) _ hp⟩,kr hr⟩
 |obj is n=>exact hm.imp λzz x=>⟨kf x.1,Lx.keep x.2 ko⟩
 |dict l=>
  obtain⟨a,vs,rfl,⟨⟨o,es,ep,ho,r⟩,hz⟩,hr⟩:=hm;have k:=ko a (As a) o ho;exact⟨a,vs,rfl,⟨⟨o,es,ep,k,r⟩,hz.of_same ho k⟩,kr hr⟩
def Ks(as:List (List Addr))(h h':Heap):Prop:=∀a o,a∉as.flatten->h.get? a=some o->(∃xs n,o.data=.seq xs n)->h'.get? a=some o
theorem Rep.ks(k:Ks as h h'):∀{x:V}{v:ao},Rep h as x v->Rep h' as x v:=λr=>
 Rep.tr (λa o ha e q=>⟨ha,k a o ha e q⟩) (λzz zz e=>e) r
theorem aJ.ks(k:Ks as h h'):∀{l:List V}{vs:List ao},aJ h as l vs->aJ h' as l vs:=λr=>
 aJ.tr (λa o ha e q=>⟨ha,k a o ha e q⟩) (λzz zz e=>e) r
structure tn(as:List (List Addr))(h:Heap)(I:Addr):Prop where
 off:I∉as.flatten
 kind:∀o,h.get? I=some o->∀xs n,o.data≠.seq xs n
theorem tn.ks(f:tn as h I)(y:∀a o,a≠I->h.get? a=some o->h'.get? a=some o):Ks as h h':=
 λa o zz e hx=>y a o (λq=>hx.elim λxs hx=>hx.elim λn hd=>f.kind o (q▸e) xs n hd) e
structure GR(Lx:gj)(base:Heap)(O:Mu)(as:List (List Addr))(h:Heap):Prop where
 keep:∀a o,base.get? a=some o->h.get? a=some o
 fresh:∀a∈as.flatten,base.get? a=.none
 nd:as.flatten.Nodup
 alive:∀a∈as.flatten,∃o,h.get? a=some o
 len:as.length=O.length+1
 dQ:∀(k:Nat) (m:M) (aH:List Addr),O[k]?=some m->as[k+1]?=some aH->nT Lx h as m aH
theorem PlainList.some{xs:Array ao}(p:h.PlainList a xs):∃o,h.get? a=some o:=let⟨_,e⟩:=p;⟨_,e⟩
variable {Lx:gj}
section
theorem GR.go(g:GR Lx base O as h):Go as h as h:=Go.refl g.alive
theorem GR.mod(g:GR Lx base O as h)(hI:tn as h I)(hb:base.get? I=.none)(y:∀a o,a≠I->h.get? a=some o->h'.get? a=some o):GR Lx base O as h':=by
 have hne:∀a∈as.flatten,a≠I:=λa ha q=>hI.off (q▸ha);refine⟨λa o e=>y a o (λq=>by rw[q,hb]at e;exact ns e) (g.keep a o e),g.fresh,g.nd,λa ha=>(g.alive a ha).imp λo e=>y a o (hne a ha) e,g.len,λk m aH hk ha=>?_⟩;have hm:=g.dQ k m aH hk ha;have hin:∀a∈aH,a∈as.flatten:=λa hq=>gO.mpr ⟨aH,g6 ha,hq⟩;exact hm.mv (λa ha o e=>y a o (hne a (hin a ha)) e) (λe=>e) (aJ.ks (hI.ks y))
theorem GR.push(g:GR Lx base O as h)(o:Obj):GR Lx base O as (h.push o):=by
 have hn:h.get? h.objs.size=.none:=by
  induction q:h.get? h.objs.size using aT with
  |none=>rfl
  |some o=>exact absurd (fM q) (mV _)
 refine g.mod (I:=h.objs.size) ⟨λq=>?_,λo e=>by rw[hn]at e;exact ns e⟩ ?_ λa o' zz e=>cB o e
 ·obtain⟨o',e⟩:=g.alive _ q
  rw[hn]at e;exact ns e
 ·induction q:base.get? h.objs.size using aT with
  |none=>rfl
  |some o'=>rw[g.keep _ _ q]at hn;cases hn
theorem j6(h:Heap):h.get? h.objs.size=.none:=by
 induction q:h.get? h.objs.size using aT with
 |none=>rfl
 |some o=>exact absurd (fM q) (mV _)
theorem GR.kB(g:GR Lx base O as h):h.objs.size∉as.flatten:=λq=>by
 obtain⟨o',e⟩:=g.alive _ q;rw[j6]at e;exact ns e
theorem GR.xU(g:GR Lx base O as h):base.get? h.objs.size=.none:=by
 induction q:base.get? h.objs.size using aT with
 |none=>rfl
 |some o'=>have:=g.keep _ _ q;rw[j6]at this;exact ns this
def cO(prog:jj)(w:ji)(base:Heap)(x:Str)(v:ao):Prop:=
 ∀(env:Env) (A:fu) (E:ao->aC->Prop) (s:aC) (Q:ao->aC->Prop),env.globals=gx->env.builtins=i9 →
  (∀a o,base.get? a=some o->s.heap.get? a=some o)->Q v s->au (model prog w) A (loadGlobal env x) Q E s
inductive Yv(ah:List Str)(env:Env)(J:aB)(as:List (List Addr))(h:Heap):Prop where
 |mk (m:Str->Option ao) (hn:h.Ns env.locals m) (hl:∀i x v,ah[i]?=some x->env.kindOf x=some .local->J.lookup i=some v->∃u,m x=some u/\Rep h as v u)
inductive XK(base:Heap)(env:Env)(J:aB)(as:List (List Addr))(h:Heap)(i:Nat)(x:Str):Prop where
 |mk (c:Addr) (u:Option ao) (h1:env.cells.lookup x=some c) (h2:c∉as.flatten) (h3:base.get? c=.none) (h4:h.IsCell c u) (h5:∀v,J.lookup i=some v->∃u',u=some u'/\Rep h as v u')
structure ER(ah:List Str)(base:Heap)(env:Env)(J:aB)(as:List (List Addr))(h:Heap):Prop where
 kind:env.scope.kind=.function
 glob:env.globals=gx
 uf:env.builtins=i9
 loc:Yv ah env J as h
 off:env.locals∉as.flatten/\base.get? env.locals=.none
 jr:∀i x,ah[i]?=some x->(env.kindOf x=some .cell∨env.kindOf x=some .free)->XK base env J as h i x
 inj:∀x y c,env.cells.lookup x=some c->env.cells.lookup y=some c->x=y
theorem Ns.go{m:Str->Option ao}(g:Go as h as' h')(hL:L∉as.flatten)(n:h.Ns L m):h'.Ns L m:=
 n.imp λzz=>f7 λzz=>f7 λzz=>qV (g.at hL)
theorem Ns.mv{m:Str->Option ao}(n:h.Ns L m)(k:∀{o},h.get? L=some o->h'.get? L=some o):h'.Ns L m:=n.imp λzz=>f7 λzz=>f7 λzz=>qV k
theorem Ns.get{m:Str->Option ao}(n:h.Ns L m):∃o,h.get? L=some o/\∀xs k,o.data≠.seq xs k:=
 n.elim λo x=>x.elim λzz x=>x.elim λzz x=>⟨o,x.1,λzz zz q=>by rw[x.2.1]at q;cases q⟩
theorem ER.go(e:ER ah base env J as h)(g:Go as h as' h'):ER ah base env J as' h':=by
 obtain⟨m,hn,hl⟩:=e.loc;obtain⟨o,ho,_⟩:=Ns.get hn;refine⟨e.kind,e.glob,e.uf,⟨m,Ns.go g e.off.1 hn,λi x v h1 h2 h3=>?_⟩,⟨g.off ho e.off.1,e.off.2⟩,λi x h1 h2=>?_,e.inj⟩
 ·obtain⟨u,h4,h5⟩:=hl i x v h1 h2 h3
  exact⟨u,h4,h5.go g⟩
 ·obtain⟨c,u,h3,h4,h5,⟨oc,hoc,hdc⟩,h7⟩:=e.jr i x h1 h2
  refine⟨c,u,h3,g.off hoc h4,h5,⟨oc,g.at h4 hoc,hdc⟩,λv hv=>?_⟩;obtain⟨u',h8,h9⟩:=h7 v hv;exact⟨u',h8,h9.go g⟩
structure Room(A:fu)(n:Nat):Prop where
 calm:A.handled=.none
 depth:A.depth+n<=900
 units:A.units+10*n<=9000
structure Rm(A:fu)(s:aC)(n:Nat):Prop extends Room A n where
 tk:1<=s.toks
def Post(Lx:gj)(base:Heap)(as:List (List Addr))(s:aC)(r:V)(ai:Mu)(Q:ao->aC->Prop):Prop:=
 ∀(v:ao) (as':List (List Addr)) (h':Heap) (tk:Nat),GR Lx base ai as' h'->Go as s.heap as' h'->Rep h' as' r v->Q v {s with heap:=h',toks:=tk}
def dX(prog:jj)(w:ji)(Lx:gj)(base:Heap)(n:Nat)(f:ao)(args:List V)(O:Mu)(r:V)(ai:Mu):Prop:=
 ∀(A:fu) (E:ao->aC->Prop) (s:aC) (as:List (List Addr)) (vs:List ao) (Q:ao->aC->Prop),Rm A s n->GR Lx base O as s.heap->aJ s.heap as args vs →
  Post Lx base as s r ai Q->au (model prog w) A (call f vs) Q E s
inductive qu(base:Heap):ao->Prop where
 |builtin (id:String):qu base (.builtin id)
 |type (n:String):qu base (.type n)
 |func (a:Addr) (o:Obj) (fd:qT):base.get? a=some o->o.data=.func fd->qu base (.ref a)
def mC(prog:jj)(w:ji)(Lx:gj)(base:Heap)(x:Str)(u:V)(O:Mu)(f:ao):Prop:=
 ∀(A:fu) (E:ao->aC->Prop) (s:aC) (as:List (List Addr)) (ov:ao) (p:Sem Bool) (Q:ao×List ao->aC->Prop),GR Lx base O as s.heap->Rep s.heap as u ov->Q (f,[ov]) s->au (model prog w) A (getMethod ov x p) Q E s
structure cj(prog:jj)(w:ji)(Lx:gj)(base:Heap)(Z:G):Prop where
 glob:∀i v,Z.glob i=some v->∃x u,Z.ah[i]?=some x/\cO prog w base x u/\∀h as,Rep h as v u
 range:cO prog w base "range" (.type "range")
 list:cO prog w base "list" (.type "list")
 enum:cO prog w base "enumerate" (.type "enumerate")
 zip:cO prog w base "zip" (.type "zip")
 sysm:∃o,base.get? sysModules=some o
 booked:qL base
 lE:∀i l,Z.lE i=some l->∃x a,Z.ah[i]?=some x/\cO prog w base x (.ref a)/\StrTab prog w base a (l.map λp=>(.str ⟨p.1.toArray⟩,.int p.2))
 call:∀n i args O r ai,Z.call n i args O=some (r,ai)->∃x f,Z.ah[i]?=some x/\cO prog w base x f/\qu base f/\dX prog w Lx base n f args O r ai
 bY:∀n m u args aS O r ai,Z.find m u aS=true->Z.bY n m u args O=some (r,ai)->∃x f,Z.ah[m]?=some x/\qu base f/\mC prog w Lx base x u aS f/\dX prog w Lx base n f (u::args) O r ai
 attr:∀m u O r,Z.attr m u O=some r->∃x,Z.ah[m]?=some x/\∀(A:fu) (E:ao->aC->Prop) (s:aC) (as:List (List Addr)) (ov:ao) (Q:ao->aC->Prop),GR Lx base O as s.heap->Rep s.heap as u ov →
  Post Lx base as s r O Q->au (model prog w) A (getAttr ov x true) Q E s
end
section
theorem Post.now{v:ao}(hQ:Post Lx base as s r O Q)(g:GR Lx base O as s.heap)(rv:Rep s.heap as r v):Q v {s with toks:=tk}:=hQ v as s.heap tk g g.go rv
theorem Post.new{v:ao}(hQ:Post Lx base as s r O Q)(g:GR Lx base O as s.heap)(rv:Rep (s.heap.push o) as r v):Q v {s with heap:=s.heap.push o,toks:=tk}:=hQ v as _ tk (g.push o) (g.go.push o) rv
theorem Post.eq{a:V}(hQ:Post Lx base as s r O Q)(h:some a=some r):Post Lx base as s a O Q:=aD h▸hQ
theorem Jb   (g:GR Lx base O as s.heap) (r:aJ s.heap as l vs):Rep (s.heap.push {cls:=.type "list",data:=.seq vs.toArray}) as (.lst l) (.ref s.heap.objs.size):=
 ⟨_,vs,rfl,g.kB,⟨_,fq _ rfl⟩,r.go (g.go.push _)⟩
theorem Jg   (g:GR Lx base O as s.heap) (r:aJ s.heap as l vs):Rep (s.heap.push {cls:=.type "tuple",data:=.seq vs.toArray}) as (.tup l) (.ref s.heap.objs.size):=
 ⟨_,vs,rfl,g.kB,⟨_,fq _ rfl,rfl,_,rfl⟩,r.go (g.go.push _)⟩
noncomputable def fT(h:Heap)(as:List (List Addr)):V->ao->Prop
 |.lst l,v=>∃a vs,v=.ref a/\h.PlainList a vs.toArray/\aJ h as l vs
 |u,v=>Rep h as u v
theorem gG{v:ao}(g:GR Lx base O as h)(r:Rep h as u v):fT h as (bg O u) v:=by
 induction u using Internal.V.casesOn with
 | «mut» k=>
  rw[Gq];induction hk:O[k]? using aT with
  |none=>exact r
  |some m=>induction m using Internal.M.casesOn with
   |list l=>
    obtain⟨a,q,e,rfl⟩:=r;obtain⟨b,vs,eb,hp,hr⟩:=g.dQ k _ _ hk e;cases eb;exact⟨_,vs,rfl,hp,hr⟩
   |obj=>exact r
   |dict=>exact r
 |lst l=>obtain⟨a,vs,e,_,hp,hr⟩:=r;exact⟨a,vs,e,hp,hr⟩
 |_=>exact r
theorem I9{n:Int}(h:small n=true):n.natAbs<2^1023:=by
 have h1:n.natAbs<2^60:=of_decide_eq_true h;exact fk h1 (DZ (nb rfl) (nb rfl))
set_option tactic.hygienic true in
theorem c6n{n:Int}(h:small n=true):g7a n<=64:=by
 have h1:n.natAbs<2^60:=of_decide_eq_true h;unfold g7a;split
 ·exact nb rfl
 ·rename_i hn
  have:n.natAbs≠0:=by simpa using hn
  have:=(JF this).mpr h1;exact bz this
set_option tactic.hygienic true in
theorem RJ{a b:Int}(h:small b=true):g6x a b=false:=by
 have h1:b.natAbs<2^60:=of_decide_eq_true h;have:(if b==0 then 0 else b.natAbs.log2 / 30+1)<=300:=by
  split
  ·exact nb rfl
  ·rename_i hn
   have hz:b.natAbs≠0:=by simpa using hn
   have:=(JF hz).mpr h1;exact TY (bz this)
 unfold g6x;simp only[Bool.and_eq_false_iff,decide_eq_false_iff_not];left;exact pI.mpr this
theorem lP(h:n<=big):n<=sizeLine:=by unfold big at h;rw[sizeLine_eq];exact bz h
theorem e5n(x y:List Nat):(⟨x.toArray⟩:Str)++(⟨y.toArray⟩:Str)=⟨(x++y).toArray⟩:=by
 apply Str.ext';show(⟨x.toArray⟩++⟨y.toArray⟩:Str).cps=_;rw[Str.cps_append];simp
theorem b3f{l':List V}{a b:ao}(ra:fT s.heap as (.lst l) a)(rb:fT s.heap as (.lst l') b)(hsz:l.length+l'.length<=big)(g:GR Lx base O as s.heap)
  (hQ:Post Lx base as s (.lst (l++l')) O Q):au (model prog w) A (binaryOp .Add a b) Q E s:=by
 obtain⟨a,vs,rfl,hl,rl⟩:=ra;obtain⟨b,ws,rfl,hb,rb⟩:=rb;obtain⟨n,ho⟩:=id hl;obtain⟨n2,ho2⟩:=id hb;have e:vs.toArray++ws.toArray=(vs++ws).toArray:=by simp
 have hs:vs.toArray.size+ws.toArray.size<=sizeLine:=by
  simp only[dG,rl.length,rb.length];exact lP hsz
 refine concat_meets ⟨_,ho,rfl⟩ ⟨_,ho2,rfl⟩ noFill_list_add seq_list_add g3j g3m (g3o _ _) (list_addW a b vs.toArray ws.toArray n n2 _ _ _ _ hs) ⟨ho,ho2,?_⟩;rw[e];exact hQ.new g (Jb g (rl.append rb))
theorem c4u(n:Nat)(vs:List Nat):List.foldl (·++·) #[] (eH n vs.toArray)=(eH n vs).flatten.toArray:=by
 have:∀(n:Nat) (a:Array Nat),List.foldl (·++·) a (eH n vs.toArray)=a++(eH n vs).flatten.toArray:=by
  intro n;induction n with
  |zero=>intro a;simp
  |succ k ih=>intro a;simp only[Ss,SM,ih,ki];simp
 simpa using this n #[]
theorem d6z{n:Int}(h:small n=true):-(2^63:Int)<=n/\n<2^63:=by
 have h1:n.natAbs<2^60:=of_decide_eq_true h;exact⟨Int.neg_le_of_neg_le (pR g6i (by rw[g6h];exact KQ (cy h1))),Int.lt_of_le_of_lt g6i (KR h1)⟩
set_option tactic.hygienic true in
theorem b5d{l:List Nat}{x:Int}{a b:ao}(ra:Rep s.heap as (.str l) a)(rb:Rep s.heap as (.int x) b)(hsz:l.length*x.toNat<=big)(hx:small x=true)(g:GR Lx base O as s.heap)
  (hQ:Post Lx base as s (.str (eH x.toNat l).flatten) O Q):au (model prog w) A (binaryOp .Mult a b) Q E s:=by
 obtain⟨t,rfl⟩:=ra;obtain⟨u,rfl⟩:=rb;have hlo:=d6z hx;have e:Txt.mul ⟨l.toArray⟩ x=⟨(eH x.toNat l).flatten.toArray⟩:=by
  unfold Txt.mul;split
  ·rename_i h1
   have:x.toNat=0:=g5y (Int.lt_add_one_iff.mp h1);rw[this];rfl
  ·rename_i h1
   split
   ·rename_i h2
    simp only[pD,dG,tB,beq_iff_eq]at h2;rcases h2 with h2|h2
    ·subst h2;simp[Ss]
    ·rw[g5j]at h2;subst h2;simp
   ·rw[←c4u]
 refine SB.mul ⟨by simp only[J3,decide_eq_false_iff_not];exact⟨i6.mpr hlo.1,D9.mpr hlo.2⟩,λh1 h2=>?_,λh1 h2=>?_⟩ λt' k=>?_
 ·simp only[pD,dG]
  have hb:l.length<=big:=by
   have:1<=x.toNat:=Int.toNat_le_toNat (i6.mp h1)
   calc l.length=l.length*1:=(D0 _).symm
    _<=l.length*x.toNat:=iJ _ this
    _<=big:=hsz
  have hb2:((l.length:Int))*x<=1000000:=by
   have:((l.length*x.toNat:Nat):Int)<=(big:Int):=by exact_mod_cast hsz
   rw[xG,g5z (pR (by decide) (i6.mp h1))]at this;exact this
  have:(l.length:Int)<=(2^63-1) / x:=by
   exact Int.le_ediv_of_mul_le (i6.mp h1) (pR hb2 (by decide))
  exact i6.mpr this
 ·simp only[pD,dG]
  have:=lP hsz;unfold m6.Str.tooLong;simp only[decide_eq_false_iff_not];exact pI.mpr this
 ·rw[e]
  exact hQ.now g ⟨_,rfl⟩
theorem e6t(b:Bool)(x:Str)(t:Tok):Gives (m6.«int.__rmul__» ⟨[.bool b,.str x t],[]⟩) (.val (ao.notImplemented)):=.rule (.of_eq rfl)
theorem e9g(x:Str)(t:Tok):Gives (m6.«str.__mul__» ⟨[.str x t,.bool false],[]⟩) (.str Str.empty):=.rule (.of_eq rfl)
theorem e8z(x:Str)(t:Tok):Gives (m6.«str.__mul__» ⟨[.str x t,.bool true],[]⟩) (.val (.str x t)):=.rule (.of_eq rfl)
theorem b7f{t:Tok}(h:∀t' k,Q (.str (if b then x else Str.empty) t') {s with toks:=k}):au (model prog w) A (binaryOp .Mult (.str x t) (.bool b)) Q E s:=
 wpAny_binaryOp_repeat (T:="str") (U:="bool") (by decide) (λs'=>typeIs_str s' x t) (λs'=>rfl) noFill_str_mul PySem.F.fills_bool_mul g3k repeat_str PySem.F.slot_bool_index.lookup
  (call_gives g3k rfl PySem.F.entry_int_rmul (PySem.F.args_int_rmul_2 _ _) (e6t b x t)
   ⟨rfl,by
    induction b using eo with
    |false=>exact call_gives g3i (typeIs_str s x t) g3l (g3n _ _) (e9g x t) ⟨nb rfl,h _ _⟩
    |true=>exact call_gives g3i (typeIs_str s x t) g3l (g3n _ _) (e8z x t) (h t s.toks)⟩)
theorem d9e{a b:ao}(h:cP op u v=some r)(ra:fT s.heap as u a)(rb:fT s.heap as v b)(hc:A.handled=.none)(ht:1<=s.toks)(g:GR Lx base O as s.heap)
  (hQ:Post Lx base as s r O Q):au (model prog w) A (binaryOp op a b) Q E s:=by
 cases op with
 |Add=>induction u using Internal.V.casesOn with
  |int i=>induction v using Internal.V.casesOn with
   |int j=>obtain⟨_,rfl⟩:=ra;obtain⟨_,rfl⟩:=rb;exact add_int ((hQ.eq h).now g ⟨_,rfl⟩)
   |_=>exact ns h
  |aq x=>induction v using Internal.V.casesOn with
   |aq y=>obtain⟨_,rfl,_⟩:=ra;obtain⟨_,rfl,_⟩:=rb;exact add_float ((hQ.eq h).now g ⟨_,rfl,ht⟩)
   |int n=>obtain⟨_,rfl,_⟩:=ra;obtain⟨_,rfl⟩:=rb;exact aL h λhs h=>add_fi_fits (I9 hs) ((hQ.eq h).now g ⟨_,rfl,ht⟩)
   |_=>exact ns h
  |str x=>induction v using Internal.V.casesOn with
   |str y=>
    obtain⟨_,rfl⟩:=ra;obtain⟨_,rfl⟩:=rb;exact aL h λhs h=>add_str (λt' tk=>(e5n x y).symm▸(hQ.eq h).now g ⟨_,rfl⟩) (lP (of_decide_eq_true hs))
   |_=>exact ns h
  |lst l=>induction v using Internal.V.casesOn with
   |lst l'=>exact aL h λhs h=>b3f ra rb (of_decide_eq_true hs) g (hQ.eq h)
   |_=>exact ns h
  |_=>exact ns h
 |Sub=>induction u using Internal.V.casesOn with
  |int i=>induction v using Internal.V.casesOn with
   |int j=>obtain⟨_,rfl⟩:=ra;obtain⟨_,rfl⟩:=rb;exact sub_int ((hQ.eq h).now g ⟨_,rfl⟩)
   |_=>exact ns h
  |aq x=>induction v using Internal.V.casesOn with
   |aq y=>obtain⟨_,rfl,_⟩:=ra;obtain⟨_,rfl,_⟩:=rb;exact sub_float ((hQ.eq h).now g ⟨_,rfl,ht⟩)
   |int n=>obtain⟨_,rfl,_⟩:=ra;obtain⟨_,rfl⟩:=rb;exact aL h λhs h=>sub_fi_fits (I9 hs) ((hQ.eq h).now g ⟨_,rfl,ht⟩)
   |_=>exact ns h
  |_=>exact ns h
 |Mult=>induction u using Internal.V.casesOn with
  |int i=>induction v using Internal.V.casesOn with
   |int j=>obtain⟨_,rfl⟩:=ra;obtain⟨_,rfl⟩:=rb;exact aL h λhs h=>mul_int ((hQ.eq h).now g ⟨_,rfl⟩) (IntMulOk.of_left (c6n hs))
   |aq y=>obtain⟨_,rfl⟩:=ra;obtain⟨_,rfl,_⟩:=rb;exact aL h λhs h=>mul_if_fits (I9 hs) ((hQ.eq h).now g ⟨_,rfl,ht⟩)
   |_=>exact ns h
  |aq x=>induction v using Internal.V.casesOn with
   |aq y=>obtain⟨_,rfl,_⟩:=ra;obtain⟨_,rfl,_⟩:=rb;exact mul_float ((hQ.eq h).now g ⟨_,rfl,ht⟩)
   |_=>exact ns h
  |str x=>induction v using Internal.V.casesOn with
   |int n=>exact aL h λhs h=>b5d ra rb (of_decide_eq_true (aP hs)) (aR hs) g (hQ.eq h)
   |bool c=>obtain⟨_,rfl⟩:=ra;obtain rfl:=rb;exact b7f λt' k=>(hQ.eq h).now g ⟨t',by cases c<;>rfl⟩
   |_=>exact ns h
  |_=>exact ns h
 |FloorDiv=>induction u using Internal.V.casesOn with
  |int i=>induction v using Internal.V.casesOn with
   |int j=>obtain⟨_,rfl⟩:=ra;obtain⟨_,rfl⟩:=rb;exact aL h λhs h=>floordiv_int (bne_iff_ne.mp (aP hs)) ((hQ.eq h).now g ⟨_,rfl⟩) (.inl (RJ (aR hs)))
   |_=>exact ns h
  |_=>exact ns h
 |Mod=>induction u using Internal.V.casesOn with
  |int i=>induction v using Internal.V.casesOn with
   |int j=>obtain⟨_,rfl⟩:=ra;obtain⟨_,rfl⟩:=rb;exact aL h λhs h=>mod_int' (bne_iff_ne.mp hs) ((hQ.eq h).now g ⟨_,rfl⟩)
   |_=>exact ns h
  |aq x=>induction v using Internal.V.casesOn with
   |aq y=>obtain⟨_,rfl,_⟩:=ra;obtain⟨_,rfl,_⟩:=rb;exact aL h λhs h=>Flt.mod_ff hc (λq=>nt ((kM hs).symm.trans q)) λzz=>(hQ.eq h).now g ⟨_,rfl,ht⟩
   |_=>exact ns h
  |_=>exact ns h
 |Pow=>induction u using Internal.V.casesOn with
  |int i=>induction v using Internal.V.casesOn with
   |int j=>
    obtain⟨_,rfl⟩:=ra;obtain⟨_,rfl⟩:=rb;exact aL h λhs h=>pow_int_small (of_decide_eq_true (aP (aP hs))) (pR (of_decide_eq_true (aR (aP hs))) (by decide)) (fk (of_decide_eq_true (aR hs)) (nb rfl)) ((hQ.eq h).now g ⟨_,rfl⟩)
   |_=>exact ns h
  |_=>exact ns h
 |Div=>induction u using Internal.V.casesOn with
  |int i=>induction v using Internal.V.casesOn with
   |int j=>obtain⟨_,rfl⟩:=ra;obtain⟨_,rfl⟩:=rb;exact aL h λhs h=>Flt.div_ii hc (λq=>absurd q (bne_iff_ne.mp (aP hs))) (λzz q=>nt ((kM (aR hs)).symm.trans q)) λzz zz=>(hQ.eq h).now g ⟨_,rfl,ht⟩
   |_=>exact ns h
  |aq x=>induction v using Internal.V.casesOn with
   |aq y=>obtain⟨_,rfl,_⟩:=ra;obtain⟨_,rfl,_⟩:=rb;exact aL h λhs h=>truediv_float_or hc (λq=>nt ((kM hs).symm.trans q)) λzz=>(hQ.eq h).now g ⟨_,rfl,ht⟩
   |_=>exact ns h
  |_=>exact ns h
 |_=>exact ns h
end
theorem Rep.KN:(∀u a d,iD u=some d->Rep h as u a->∃bs,Reads h a d bs)/\∀l vs ds,toPys l=some ds->aJ h as l vs->∃bs,ReadsAll h vs ds bs:=by
 refine BO (λa d e r=>?_) (λb a d e r=>?_) (λi a d e r=>?_) (λzz zz zz e zz=>ns e) (λs a d e r=>?_) (λl ih a d e r=>?_) (λl ih a d e r=>?_) (λzz zz zz e zz=>ns e) (λzz zz zz e zz=>ns e) (λvs ds e r=>?_) λx l ih1 ih2 vs ds e r=>?_
 ·obtain rfl:=aD e;obtain rfl:=r;exact⟨_,.none⟩
 ·obtain rfl:=aD e;obtain rfl:=r;exact⟨_,.bool b⟩
 ·obtain rfl:=aD e;obtain⟨t,rfl⟩:=r;exact⟨_,.int i t⟩
 ·obtain rfl:=aD e;obtain⟨t,rfl⟩:=r;exact⟨_,.str _ t⟩
 ·refine aZ e λds e2 q=>?_
  subst q;obtain⟨a,vs,rfl,_,⟨o,ho,hc,n,hd⟩,hr⟩:=r;obtain⟨bs,hb⟩:=ih vs ds e2 hr;exact⟨_,.tuple ho hc hd hb⟩
 ·refine aZ e λds e2 q=>?_
  subst q;obtain⟨a,vs,rfl,_,⟨n,ho⟩,hr⟩:=r;obtain⟨bs,hb⟩:=ih vs ds e2 hr;exact⟨_,.list ho rfl rfl hb⟩
 ·obtain rfl:=aD e;obtain rfl:=r;exact⟨_,.nil⟩
 ·obtain⟨v,rs,rfl,hx,hr⟩:=r
  have e:(match (generalizing:=false) iD x,toPys l with|some a,some b=>some (a::b)|_,_=>cZ)=some ds:=e
  induction e1:iD x using aT with
  |none=>rw[e1]at e;exact ns e
  |some a=>induction e2:toPys l using aT with
   |none=>rw[e1,e2]at e;exact ns e
   |some b=>
    rw[e1,e2]at e;obtain rfl:=aD e;obtain⟨b1,h1⟩:=ih1 v a e1 hx;obtain⟨b2,h2⟩:=ih2 rs b e2 hr;exact⟨_,.cons h1 h2⟩
theorem Rep.reads{a:ao}{d:nO}:iD u=some d->Rep h as u a->∃bs,Reads h a d bs:=Rep.KN.1 u a d
theorem aJ.reads{ds:List nO}:toPys l=some ds->aJ h as l vs->∃bs,ReadsAll h vs ds bs:=Rep.KN.2 l vs ds
theorem fT.reads{a:ao}{d:nO}(e:iD u=some d)(r:fT h as u a):∃bs,Reads h a d bs:=by
 induction u using Internal.V.casesOn with
 |lst l=>
  refine aZ e λds e2 q=>?_;cases q;obtain⟨a,vs,rfl,⟨n,ho⟩,hr⟩:=r;obtain⟨bs,hb⟩:=aJ.reads e2 hr;exact⟨_,.list ho rfl rfl hb⟩
 |_=>exact Rep.reads (as:=as) e r
section
theorem j7{c:Bool}(hQ:Post Lx base as s (.bool c) O Q)(g:GR Lx base O as s.heap):Q (.bool c) {s with toks:=tk}:=hQ.now g rfl
theorem Post.eqB{c d:Bool}(hQ:Post Lx base as s (.bool c) O Q)(h:some d=some c):Post Lx base as s (.bool d) O Q:=aD h▸hQ
theorem PO{c:Bool}{P:Prop}(h:eqv u v=some c)(k1:∀da db,iD u=some da->iD v=some db->jO da=true->jO db=true->da.eqv db=c->P)
  (k2:∀x y,u=.aq x->v=.aq y->(mY x y==some .eq)=c->P):P:=by
 have fb:(match (generalizing:=false) u,v with|.aq a,.aq b=>some (mY a b==some .eq)|_,_=>.none)=some c->P:=λh=>by
  generalize hu:u=u' at h;generalize hv:v=v' at h;induction u' using Internal.V.casesOn with
  |aq x=>induction v' using Internal.V.casesOn with
   |aq y=>exact k2 x y hu hv (aD h)
   |_=>exact ns h
  |_=>exact ns h
 unfold eqv at h;induction hu:iD u using aT with
 |none=>rw[hu]at h;exact fb h
 |some da=>induction hv:iD v using aT with
  |none=>rw[hu,hv]at h;exact fb h
  |some db=>rw[hu,hv]at h;exact aL h λhs h=>k1 da db hu hv (aP hs) (aR hs) (aD h)
theorem XO{c:Bool}{a b:ao}(h:eqv u v=some c)(ra:fT s.heap as u a)(rb:fT s.heap as v b)(hu:A.units<=9500)(g:GR Lx base O as s.heap)
  (hQ:Post Lx base as s (.bool c) O Q):au (model prog w) A (compareOp .Eq a b) Q E s:=
 PO h (λda db ea eb sa sb e=>by
   subst e;obtain⟨_,h1⟩:=ra.reads ea;obtain⟨_,h2⟩:=rb.reads eb;exact SeqAt.compareEq_shaped h1 h2 sa sb (ck (sO hu 64) (nb rfl)) (j7 hQ g))
  λx y e1 e2 e=>by subst e1 e2 e;obtain⟨_,rfl,_⟩:=ra;obtain⟨_,rfl,_⟩:=rb;exact g7e (j7 hQ g)
theorem b8x(x:qL h)(k:∀a o,h.get? a=some o->h'.get? a=some o):qL h':=x.imp λzz=>qV (f7 λzz=>f7 λzz=>f7 λzz=>qV (k _ _))
theorem c6l{a b:UInt64}{t u:Tok}{Q:Bool->aC->Prop}(ht:1<=t)(hu:1<=u)(hb:qL s.heap)(hq:∀b,Q b s):au (model prog w) A (isSame (.float a t) (.float b u)) Q E s:=by
 show au _ A (Uu (a==b&&!Float64.isNaN a) t u) Q E s;unfold Uu;have h0:(t==0||u==0)=false:=by
  rw[beq_false_of_ne (iW ht),beq_false_of_ne (iW hu)];rfl
 rw[h0,if_neg gP];refine Eg (λzz=>bF (hq _)) λzz=>Eg (λzz=>bF (hq _)) λzz=>?_;refine aI (Th hb ?_);rw[if_neg gP];refine aI (Th hb ?_);rw[if_neg gP];exact aI (tE (aI (wpAny_askSetting (bF (hq _)))))
theorem d5s{a b:UInt64}{t u:Tok}(ht:1<=t)(hu:1<=u)(hb:qL s.heap)(h:(mY a b==some .eq)=true):SeqAt.EqAt A s (.float a t) (.float b u) true:=λprog w E Q hq=>by
 unfold eqBool;refine nW ?_;refine Eg (λzz=>aI (tE (bF hq))) λzz=>aI (c6l ht hu hb λc=>?_);refine Eg (λzz=>bF hq) λzz=>aI ?_;show au (model prog w) A (compareOp .Eq (.float a t) (.float b u)) _ E s;refine g7e ?_;rw[h];exact xN hq
theorem e8e:∀(l m:List V) (vs ws:List ao),vZ l m=true->aJ h as l vs->aJ h as m ws->vs.length=ws.length/\∀(j:Nat) (h1:j<vs.length) (h2:j<ws.length),∃a t b u,vs[j]=.float a t/\ws[j]=.float b u/\1<=t/\1<=u/\(mY a b==some .eq)=true:=by
 intro l;induction l with
 |nil=>
  intro m vs ws e r1 r2;induction m using aN with
  |nil=>cases r1;cases r2;exact⟨rfl,λj h1=>absurd h1 (nQ _)⟩
  |cons _ _=>exact nt e
 |cons x l ih=>
  intro m vs ws e r1 r2;induction x using Internal.V.casesOn with
  |aq a=>induction m using aN with
   |nil=>exact nt e
   |cons y m=>induction y using Internal.V.casesOn with
    |aq b=>
     obtain⟨v,vs,rfl,⟨t,rfl,ht⟩,r1⟩:=r1;obtain⟨w,ws,rfl,⟨u,rfl,hu⟩,r2⟩:=r2;obtain⟨e1,e2⟩:=ih m vs ws (aR e) r1 r2;refine⟨congrArg (·+1) e1,λj h1 h2=>?_⟩;induction j using eG with
     |zero=>exact⟨a,t,b,u,rfl,rfl,ht,hu,aP e⟩
     |succ j=>exact e2 j (sL h1) (sL h2)
    |_=>exact nt e
  |_=>exact nt e
theorem ZC{c:Bool}{a b:ao}(h:Bj u v=some c)(VC:qL s.heap)(ra:fT s.heap as u a)(rb:fT s.heap as v b)(hu:A.units<=9500)(g:GR Lx base O as s.heap)
  (hQ:Post Lx base as s (.bool c) O Q):au (model prog w) A (compareOp .Eq a b) Q E s:=by
 induction u using Internal.V.casesOn with
 |tup l=>induction v using Internal.V.casesOn with
  |tup m=>
   refine aL h λhe h=>?_;obtain rfl:=aD h;obtain⟨a,vs,rfl,_,ha,hr⟩:=ra;obtain⟨b,ws,rfl,_,hb,hs⟩:=rb;obtain⟨e1,e2⟩:=e8e l m vs ws he hr hs;refine SeqAt.eq_tupleAt (e:=λzz=>true) ha hb (ck hu (nb rfl)) (λj h1 h2=>?_) ?_
   ·obtain⟨x,t,y,u,q1,q2,q4,q5,q3⟩:=e2 j h1 h2
    rw[show vs.toArray[j]=vs[j]from rfl,show ws.toArray[j]=ws[j]from rfl,q1,q2];exact d5s q4 q5 VC q3
   ·rw[show vs.toArray.size=ws.toArray.size from e1,beq_self_eq_true,Ec,cN.mpr λzz zz=>rfl]
    exact j7 hQ g
  |_=>exact ns h
 |_=>exact ns h
theorem YN{c:Bool}{a b:ao}(h:eqv u v=some c)(ra:fT s.heap as u a)(rb:fT s.heap as v b)(hu:A.units<=9500)(g:GR Lx base O as s.heap)
  (hQ:Post Lx base as s (.bool (!c)) O Q):au (model prog w) A (compareOp .NotEq a b) Q E s:=
 PO h (λda db ea eb sa sb e=>by
   subst e;obtain⟨_,h1⟩:=ra.reads ea;obtain⟨_,h2⟩:=rb.reads eb;exact SeqAt.compareNe_shaped h1 h2 sa sb (ck (sO hu 64) (nb rfl)) (j7 hQ g))
  λx y e1 e2 e=>by subst e1 e2 e;obtain⟨_,rfl,_⟩:=ra;obtain⟨_,rfl,_⟩:=rb;exact AutoFloatOps.ne_0 (j7 hQ g)
theorem c0x{xs:List nO}(h:jO (.list xs)=true):R0 xs=true:=by
 have:=g3f h;simpa[Jv]using this
theorem zv(h:n<=big):(n:Int)<2^63:=KR (Nat.lt_succ_of_le h)
theorem d1k(hu:n<=9500)(h:d<=64):n+1+d<cLine:=ck (iY (dc hu) h) (nb rfl)
theorem c4c{xs:List nO}{d:nO}(h:jO d=true):min (DR xs) d.depth<=64:=
 aV (Sa _ _) (SeqAt.depth_of_shaped h)
theorem P8(u:V)(l:List V):vA u (.lst l)=(match (generalizing:=false) iD u,toPys l with|some d,some xs=>if jO (.list xs)&&jO d then some (xs.any λy=>y.eqv d)else .none|_,_=>.none):=by induction u using Internal.V.casesOn<;>rfl
theorem d6e{c:Bool}{P:Prop}(h:vA u v=some c)(k1:∀x y,u=.str x->v=.str y->DO ⟨y.toArray⟩ ⟨x.toArray⟩=c->P)
  (k2:∀l d xs,v=.lst l->iD u=some d->iD v=some (.list xs)->jO (.list xs)=true->jO d=true->(xs.any λy=>y.eqv d)=c->P):P:=by
 generalize hv:v=v' at h;generalize hu:u=u' at h;induction v' using Internal.V.casesOn with
 |str y=>induction u' using Internal.V.casesOn with
  |str x=>exact k1 x y hu hv (aD h)
  |_=>exact ns h
 |lst l=>
  have h:=(P8 u' l).symm.trans h;induction q1:iD u' using aT with
  |none=>rw[q1]at h;exact ns h
  |some d=>induction q2:toPys l using aT with
   |none=>rw[q1,q2]at h;exact ns h
   |some xs=>rw[q1,q2]at h;exact aL h λhs h=>k2 l d xs hv (hu▸q1) (hv▸congrArg (qK RY) q2) (aP hs) (aR hs) (aD h)
 |_=>induction u' using Internal.V.casesOn<;>exact ns h
theorem XG{c:Bool}{a b:ao}(h:vA u v=some c)(ra:fT s.heap as u a)(rb:fT s.heap as v b)(hu:A.units<=9500)(g:GR Lx base O as s.heap)
  (hQ:Post Lx base as s (.bool c) O Q):au (model prog w) A (compareOp .In a b) Q E s:=
 d6e h (λx y e1 e2 e=>by subst e1 e2 e;obtain⟨_,rfl⟩:=ra;obtain⟨_,rfl⟩:=rb;exact SB.contains (j7 hQ g))
  λl d xs zz e1 e2 s1 s2 e=>by
   subst e;obtain⟨_,h1⟩:=ra.reads e1;obtain⟨_,h2⟩:=rb.reads e2;exact SeqAt.in_list_reads h2 h1 (c0x s1) (g3f s2) (d1k hu (@c4c xs _ s2)) (j7 hQ g)
theorem zU{op:pX}{c:Bool}{a b:ao}(h:cR op u v=some c)(ra:fT s.heap as u a)(rb:fT s.heap as v b)(hu:A.units<=9500)(hb:qL base)(g:GR Lx base O as s.heap)
  (hQ:Post Lx base as s (.bool c) O Q):au (model prog w) A (compareOp op a b) Q E s:=by
 cases op with
 |Eq=>exact fH h (λc h e=>XO h ra rb hu g (hQ.eqB e)) λzz h=>ZC h (b8x hb g.keep) ra rb hu g hQ
 |NotEq=>exact aZ h λc h e=>YN h ra rb hu g (e▸hQ)
 |In=>exact XG h ra rb hu g hQ
 |NotIn=>exact ns h
 |Is=>induction u using Internal.V.casesOn with
  |bool x=>induction v using Internal.V.casesOn with
   |bool y=>cases ra;cases rb;exact is_bool (j7 (aD h▸hQ) g)
   |_=>exact ns h
  |_=>exact ns h
 |IsNot=>exact ns h
 |Lt=>induction u using Internal.V.casesOn with
  |int x=>induction v using Internal.V.casesOn with
   |int y=>obtain⟨_,rfl⟩:=ra;obtain⟨_,rfl⟩:=rb;exact lt_int (j7 (aD h▸hQ) g)
   |_=>exact ns h
  |aq x=>induction v using Internal.V.casesOn with
   |aq y=>obtain⟨_,rfl,_⟩:=ra;obtain⟨_,rfl,_⟩:=rb;exact AutoFloatOps.lt_0 (j7 (aD h▸hQ) g)
   |_=>exact ns h
  |_=>exact ns h
 |LtE=>induction u using Internal.V.casesOn with
  |int x=>induction v using Internal.V.casesOn with
   |int y=>obtain⟨_,rfl⟩:=ra;obtain⟨_,rfl⟩:=rb;exact le_int (j7 (aD h▸hQ) g)
   |aq y=>obtain⟨_,rfl⟩:=ra;obtain⟨_,rfl,_⟩:=rb;exact le_if (j7 (aD h▸hQ) g)
   |_=>exact ns h
  |aq x=>induction v using Internal.V.casesOn with
   |aq y=>obtain⟨_,rfl,_⟩:=ra;obtain⟨_,rfl,_⟩:=rb;exact AutoFloatOps.le_0 (j7 (aD h▸hQ) g)
   |int y=>obtain⟨_,rfl,_⟩:=ra;obtain⟨_,rfl⟩:=rb;exact le_fi (j7 (aD h▸hQ) g)
   |_=>exact ns h
  |_=>exact ns h
 |Gt=>exact ns h
 |GtE=>induction u using Internal.V.casesOn with
  |int x=>induction v using Internal.V.casesOn with
   |int y=>obtain⟨_,rfl⟩:=ra;obtain⟨_,rfl⟩:=rb;exact ge_int (j7 (aD h▸hQ) g)
   |_=>exact ns h
  |_=>exact ns h
theorem c9v(hr:aJ s.heap as l vs):(!vs.toArray.isEmpty)=!l.isEmpty:=by
 have hl:=hr.length;induction l using aN with
 |nil=>induction vs using aN with
  |nil=>rfl
  |cons _ _=>cases hl
 |cons x r=>induction vs using aN with
  |nil=>cases hl
  |cons v t=>simp
theorem wL{c:Bool}{a:ao}{Q:Bool->aC->Prop}(h:eZ u=some c)(ra:fT s.heap as u a)
  (hQ:∀tk,Q c {s with toks:=tk}):au (model prog w) A (truthy a) Q E s:=by
 induction u using Internal.V.casesOn with
 |bool b=>cases ra;exact xN (aD h▸hQ s.toks)
 |str l=>
  obtain⟨_,rfl⟩:=ra;refine aL h λhb h=>P.truthy_str (D9.mpr (zv hb)) ?_;have e:(((⟨l.toArray⟩:Str).length:Int) != 0)=!l.isEmpty:=by
   induction l using aN with
   |nil=>rfl
   |cons a r=>simp[pD];exact g6c.mpr (uJ _)
  exact(e.trans (aD h)).symm▸hQ _
 |lst l=>
  obtain⟨a,vs,rfl,ht,hr⟩:=ra;exact aL h λhb h=>Tf ht.isList (by rw[dG,hr.length];exact zv hb) (((c9v hr).trans (aD h)).symm▸hQ _)
 |_=>exact ns h
theorem CY{k:Int}(h:fz k n=some j)(hn:n<=big):j<n /\ -(2^63:Int)<=k/\k<2^63/\(k<0 -> -(n:Int)<=k/\(k+n).toNat=j)/\(¬k<0->k.toNat=j/\0<=k):=by
 have hb:(n:Int)<=1000000:=xF.mpr hn;unfold fz at h;by_cases hk:k<0
 ·rw[if_pos hk]at h
  refine aL h λh2 h=>?_;have h3:=of_decide_eq_true (aP h2);have h4:=of_decide_eq_true (aR h2);have h5:=aD h;have h6:-(n:Int)<=k:=by have:=Int.sub_le_sub_right h3 n;rwa [Int.zero_sub,Int.add_sub_cancel]at this
  exact⟨h5▸(SQ h3).mpr h4,pR (pR (by decide) (g6f hb)) h6,Int.lt_trans hk (by decide),λzz=>⟨h6,h5⟩,λq=>absurd hk q⟩
 ·rw[if_neg hk]at h
  refine aL h λh2 h=>?_;have h3:=of_decide_eq_true (aP h2);have h4:=of_decide_eq_true (aR h2);have h5:=aD h;exact⟨h5▸(SQ h3).mpr h4,pR (by decide) h3,SW h4 (pR hb (by decide)),λq=>absurd q hk,λzz=>⟨h5,h3⟩⟩
theorem OX{a b:ao}(h:item u v=some r)(ra:fT s.heap as u a)(rb:Rep s.heap as v b)(g:GR Lx base O as s.heap)
  (hQ:Post Lx base as s r O Q):au (model prog w) A (getItem a b) Q E s:=by
 induction u using Internal.V.casesOn with
 |lst l=>induction v using Internal.V.casesOn with
  |int k=>
   obtain⟨a,vs,rfl,ht,hr⟩:=ra;obtain⟨t,rfl⟩:=rb;refine aL h λhb h=>aO h λj h1 h2=>?_;obtain⟨hj,hlo,hhi,hn,hp⟩:=CY h1 hb;obtain⟨y,hy,ry⟩:=hr.get j h2;by_cases hk:k<0
   ·obtain⟨h3,h4⟩:=hn hk
    refine wpAny_getItem_list_neg ht.isList hk (by rw[dG,hr.length];exact h3) hlo (x:=y) ?_ (hQ.now g ry);rw[dG,hr.length,h4];exact(sS ..).trans hy
   ·obtain⟨h3,h4⟩:=hp hk
    exact wpAny_getItem_list ht.isList h4 hhi (x:=y) (by rw[h3];exact(sS ..).trans hy) (hQ.now g ry)
  |_=>exact ns h
 |tup l=>induction v using Internal.V.casesOn with
  |int k=>
   obtain⟨a,vs,rfl,_,ht,hr⟩:=ra;obtain⟨t,rfl⟩:=rb;refine aL h λhb h=>aO h λj h1 h2=>?_;obtain⟨hj,hlo,hhi,_⟩:=CY h1 hb;obtain⟨y,hy,ry⟩:=hr.get j h2;exact getItem_tuple ht hlo hhi (by rw[dG,hr.length];exact h1) ((sS ..).trans hy) (hQ.now g ry)
  |_=>exact ns h
 |str x=>induction v using Internal.V.casesOn with
  |int k=>
   obtain⟨t,rfl⟩:=ra;obtain⟨u,rfl⟩:=rb;refine aL h λhb h=>aO h λj h1 h=>aZ h λc h2 e=>?_;obtain⟨hj,hlo,hhi,_⟩:=CY h1 hb;refine getItem_str (c:=c) (by simp only[J3,decide_eq_false_iff_not];exact⟨i6.mpr hlo,D9.mpr hhi⟩) ?_ ((hQ.eq (congrArg some e)).now g ⟨_,rfl⟩);simp only[pD,dG,h1,Jw];exact(sS ..).trans h2
  |_=>exact ns h
 |_=>exact ns h
theorem aJ.pick(r:aJ h as l vs):∀is:List Nat,aJ h as (is.filterMap (l[·]?)) (is.filterMap (vs[·]?)):=by
 intro z_;induction z_ with
 |nil=>
  exact rfl
 |cons i is ih=>
  rw[SN,SN];induction q:l[i]? using aT with
  |none=>
   have:vs[i]?=.none:=by
    rw[List.getElem?_eq_none_iff]at q ⊢;rw[r.length];exact q
   simp only[this];exact ih
  |some x=>
   obtain⟨v,hv,rv⟩:=r.get i q;simp only[hv];exact .cons rv (ih)
def IsP(u:Option V)(a:ao):Prop:=match u with
 |.none=>a=.none
 |some (.int i)=>∃t,a=.int i t
 |some .none=>a=.none
 |_=>False
theorem Ph{u:Option V}{p:Option Int}{a:ao}(h:kP u=some p)(r:IsP u a):lA a p:=by
 induction u using aT with
 |none=>cases r;cases h;exact .none
 |some v=>induction v using Internal.V.casesOn with
  |none=>cases r;cases h;exact .none
  |int i=>obtain⟨t,rfl⟩:=r;obtain rfl:=aD h;exact .int _ t
  |_=>exact ns h
theorem b5q{a vl vs:ao}(h:slice (.lst l) lo hi st=some r)(ra:fT s.heap as (.lst l) a)(hs:s.heap.IsSliceOf sl vl vu vs)(h1:lA vl lo)(h2:lA vu hi)(h3:lA vs st)(g:GR Lx base O as s.heap)
  (hQ:Post Lx base as s r O Q):au (model prog w) A (getItem a (.ref sl)) Q E s:=by
 refine jT h λh0 h=>aL h λhb h=>?_;obtain⟨a,vs',rfl,ht,hr⟩:=ra;have hl:=hr.length;refine wpAny_getItem_list_slice ht.isList hs h1 h2 h3 (by intro q;subst q;simp at h0) ?_ (by simp only[dG,hl];exact lP hb);have:=(hQ.eq h).new (tk:=s.toks) g (Jb g (hr.pick ((sliceRange (gu lo hi st l.length).1 (gu lo hi st l.length).2.1 (gu lo hi st l.length).2.2))));unfold slicePick;simp only[dG,hl,sS];exact this
noncomputable def r9:Option Int->ao->Option (Int×Tok)
 |some i,.int _ t=>some (i,t)
 |_,_=>.none
theorem Ji{p:Option Int}{a:ao}(h:lA a p):partValue (r9 p a)=a/\(r9 p a).map (·.1)=p:=by
 cases h<;>exact⟨rfl,rfl⟩
theorem b6q{x:List Nat}{a vl vs:ao}(h:slice (.str x) lo hi st=some r)(ra:Rep s.heap as (.str x) a)(hs:s.heap.IsSliceOf sl vl vu vs)(h1:lA vl lo)(h2:lA vu hi)(h3:lA vs st)(g:GR Lx base O as s.heap)
  (hQ:Post Lx base as s r O Q):au (model prog w) A (getItem a (.ref sl)) Q E s:=by
 refine jT h λh0 h=>aL h λhb h=>?_;have hQ:=hQ.eq h;obtain⟨t,rfl⟩:=ra;obtain⟨e1,f1⟩:=Ji h1;obtain⟨e2,f2⟩:=Ji h2;obtain⟨e3,f3⟩:=Ji h3;have hS:s.heap.IsSlice sl (r9 lo vl) (r9 hi vu) (r9 st vs):=by
  obtain⟨o,ho,hc,hd⟩:=hs;exact⟨o,ho,hc,by rw[e1,e2,e3];exact hd⟩
 refine wpAny_getItem_str_slice hS ?_ ?_
 ·rw[f3]
  induction st using aT with
  |none=>rfl
  |some i=>
   simp only[beq_iff_eq,j9]at h0;simpa using h0
 ·unfold sliceMade
  have idx:slicePicked ⟨x.toArray⟩ (r9 lo vl) (r9 hi vu) (r9 st vs)=AH lo hi (st.getD 1) x.length:=by
   unfold slicePicked;rw[f1,f2,f3];rfl
  rw[idx,f3];by_cases hw:(st.getD 1==1&&(AH lo hi (st.getD 1) x.length).length==x.length)=true
  ·rw[if_pos hw]at hQ
   exact(if_pos hw).symm▸hQ.now g ⟨_,rfl⟩
  ·rw[if_neg hw]at hQ
   have hx:=lP hb.2;refine(if_neg hw).symm▸⟨?_,?_⟩
   ·simp only[sS,pD,dG]
    exact hx
   ·simp only[sS]
    exact hQ.now g ⟨_,rfl⟩
theorem b7l{a vl vs:ao}(h:slice (.tup l) lo hi st=some r)(ra:fT s.heap as (.tup l) a)(hs:s.heap.IsSliceOf sl vl vu vs)(h1:lA vl lo)(h2:lA vu hi)(h3:lA vs st)(g:GR Lx base O as s.heap)
  (hQ:Post Lx base as s r O Q):au (model prog w) A (getItem a (.ref sl)) Q E s:=by
 refine jT h λzz h=>?_;induction lo using aT with
 |none=>exact ns h
 |some i=>induction i using s8 with
  |negSucc _=>exact ns h
  |ofNat n=>
   replace h:KH l hi st (some (.ofNat n))=some r:=h;refine aL h λhc h9=>?_;obtain⟨c1,c2,c3,rfl,rfl⟩:=hc;cases h1;cases h2;cases h3;obtain⟨a,vs',rfl,_,ht,hr⟩:=ra;have hl:=hr.length;refine getItem_tuple_from ht hs c1 (by rw[dG,hl];exact c2) ?_ (by rw[dG,hl];exact lP c3);exact(hQ.eq h9).new (tk:=s.toks) g (Jg g (hr.drop n))
theorem d8v{a vl vs:ao}(h:slice u lo hi st=some r)(ra:fT s.heap as u a)(hs:s.heap.IsSliceOf sl vl vu vs)(h1:lA vl lo)(h2:lA vu hi)(h3:lA vs st)(g:GR Lx base O as s.heap)
  (hQ:Post Lx base as s r O Q):au (model prog w) A (getItem a (.ref sl)) Q E s:=by
 induction u using Internal.V.casesOn with
 |lst l=>exact b5q h ra hs h1 h2 h3 g hQ
 |tup l=>exact b7l h ra hs h1 h2 h3 g hQ
 |str x=>exact b6q h ra hs h1 h2 h3 g hQ
 |_=>exact jT h λzz h=>ns h
end
def Mv(own:List Addr)(h h':Heap):Prop:=∀a o,a∉own->h.get? a=some o->h'.get? a=some o
structure Sf(own:List Addr)(as:List (List Addr))(h:Heap)(as':List (List Addr))(h':Heap):Prop where
 off':∀a o,h.get? a=some o->a∉as.flatten->a∉as'.flatten
 get':∀(k:Nat) (l:List Addr),as[k+1]?=some l->as'[k+1]?=some l
 keep:∀a o,a∉as.flatten->h.get? a=some o->(a∈own∨∃xs n,o.data=.seq xs n)->h'.get? a=some o
theorem Sf.off{own as h as' h'}(g:Sf own as h as' h')(e:h.get? a=some o)(ha:a∉as.flatten):a∉as'.flatten:=g.off' a o e ha
theorem Rep.sf{own:List Addr}(g:Sf own as h as' h'):∀{x:V}{v:ao},Rep h as x v->Rep h' as' x v:=λr=>
 Rep.tr (λa o ha e q=>⟨g.off e ha,g.keep a o ha e (.inr q)⟩) g.get' r
theorem aJ.sf{own:List Addr}(g:Sf own as h as' h'):∀{l:List V}{vs:List ao},aJ h as l vs->aJ h' as' l vs:=λr=>
 aJ.tr (λa o ha e q=>⟨g.off e ha,g.keep a o ha e (.inr q)⟩) g.get' r
structure iI(prog:jj)(w:ji)(A:fu)(base h₀:Heap)(tg:Expr)(it:ao)(own:List Addr)(vs:List V)(St:Nat->List (List Addr)->Heap->Prop):Prop where
 fresh:∀a∈own,h₀.get? a=.none/\base.get? a=.none
 off:∀i as h,St i as h->∀a∈own,a∉as.flatten/\∃o,h.get? a=some o/\∀xs n,o.data≠.seq xs n
 stay:∀i as h as' h',St i as h->Sf own as h as' h'->St i as' h'
 item:∀i as (s:aC) (Q:ao->aC->Prop) (E:ao->aC->Prop) x,vs[i]?=some x->(∀a∈as.flatten,∃o,s.heap.get? a=some o)->St i as s.heap →
  (∀v h' tk,Rep h' as x v->St (i+1) as h'->Mv own s.heap h'->Q v {s with heap:=h',toks:=tk}) →
  au (model prog w) A (pyNext it) (λr sI=>match r with|.none=>False|some v=>au (model prog w) A (letOwnedTupleGo tg it v) (λzz sJ=>Q v sJ) E sI) E s
 done:∀as (s:aC) (Q:Option ao->aC->Prop) (E:ao->aC->Prop),St vs.length as s.heap →
  (∀h' tk,Mv own s.heap h'->Q .none {s with heap:=h',toks:=tk})->au (model prog w) A (pyNext it) Q E s
 self:∀i as (s:aC) (Q:ao->aC->Prop) (E:ao->aC->Prop),St i as s.heap->Q it s->au (model prog w) A (pyIter it) Q E s
section
noncomputable def kR(e:Expr):Bool:=e.ctorIdx==23||e.ctorIdx==25
theorem Aa{M:Model}{vs:Array ao}{n:String}{v:ao}{Q:Unit->aC->Prop}(ht:kR tg=true)(ho:s.heap.get? I=some o)(hc:o.cls=.type n)(hd:o.data=.fields vs)
  (hn:(["enumerate","zip","dict_itemiterator","dict_reverseitemiterator","odict_iterator","itertools.zip_longest","itertools.pairwise"].contains n)=false) (hQ:Q () s):au M A (letOwnedTupleGo tg (.ref I) v) Q E s:=by
 rcases(tB _ _).mp ht with q|q
 ·exact Js tg (eq_of_beq q) λzz zz=>bF hQ
 ·refine DQ tg (eq_of_beq q) λzz zz zz=>?_
  cases v with
  |ref a=>
   refine aI (Kf ho ?_);rw[hc,hd];show au M A (if(["enumerate","zip","dict_itemiterator","dict_reverseitemiterator","odict_iterator","itertools.zip_longest","itertools.pairwise"].contains n&&vs[0]?==some (rawInt a))=true then _ else _) Q E s
   rw[hn,Bool.false_and,if_neg (by decide)];exact bF hQ
  |_=>exact bF hQ
theorem iI.list(hh:A.handled=.none)(ht:kR tg=true)(I ax:Addr)(l:List V)(vals:List ao)(hf:h₀.get? I=.none/\base.get? I=.none) :
  iI prog w A base h₀ tg (.ref I) [I] l (λi as h=>h.IsListIter I ax i/\I∉as.flatten/\ax∉as.flatten/\h.PlainList ax vals.toArray/\aJ h as l vals) where
 fresh:=λa ha=>by rw[bK]at ha;subst ha;exact hf
 off:=λi as h st a ha=>by
  rw[bK]at ha;subst ha;obtain⟨o,ho,hc,hd⟩:=st.1;exact⟨st.2.1,o,ho,λzz zz q=>by rw[hd]at q;cases q⟩
 stay:=λi as h as' h' st g=>by
  obtain⟨⟨o,ho,hc,hd⟩,h1,h2,⟨n,h3⟩,h4⟩:=st;exact⟨⟨o,g.keep I o h1 ho (.inl (by simp)),hc,hd⟩,g.off ho h1,g.off h3 h2,⟨n,g.keep ax _ h2 h3 (.inr ⟨_,_,rfl⟩)⟩,h4.sf g⟩
 item:=λi as s Q E x hx zz st hQ=>by
  obtain⟨h0,h1,h2,h3,h4⟩:=st;obtain⟨y,hy,ry⟩:=h4.get i hx;obtain⟨o,ho,hc,hd⟩:=id h0;have hne:ax≠I:=λq=>by obtain⟨n,e⟩:=h3;rw[q,ho]at e;cases e;cases hd
  refine wpAny_pyNext_list_item h0 h3.isList (x:=y) (by simpa using hy) λh' hit hs=>?_;obtain⟨o',ho',hc',hd'⟩:=id hit;have mv:Mv [I] s.heap h':=λa o ha e=>(hs.2 a (by simpa using ha)).trans e;have ks:Ks as s.heap h':=λa o zz e hx=>mv a o (λhm=>by obtain⟨xs,n,q⟩:=hx;rw[bK]at hm;subst hm;rw[ho]at e;cases e;rw[hd]at q;cases q) e;refine Aa ht ho' hc' hd' (by decide) (hQ y h' s.toks (ry.ks ks) ⟨hit,h1,h2,?_,h4.ks ks⟩ mv);obtain⟨n,e⟩:=h3;exact⟨n,mv ax _ (by simpa using hne) e⟩
 done:=λas s Q E st hQ=>by
  obtain⟨h0,h1,h2,h3,h4⟩:=st;refine wpAny_pyNext_list_end hh h0 h3.isList (by simp[h4.length]) λh' he=>hQ h' s.toks λa o ha e=>he a o (by simpa using ha) e
 self:=λzz zz zz zz zz st hQ=>wpAny_pyIter_listiter st.1 hQ
theorem iI.tuple(hh:A.handled=.none)(ht:kR tg=true)(I ax:Addr)(l:List V)(vals:List ao)(hf:h₀.get? I=.none/\base.get? I=.none) :
  iI prog w A base h₀ tg (.ref I) [I] l (λi as h=>h.IsTupleIter I ax i/\I∉as.flatten/\ax∉as.flatten/\h.IsTuple ax vals.toArray/\aJ h as l vals) where
 fresh:=λa ha=>by rw[bK]at ha;subst ha;exact hf
 off:=λi as h st a ha=>by
  rw[bK]at ha;subst ha;obtain⟨o,ho,hc,hd⟩:=st.1;exact⟨st.2.1,o,ho,λzz zz q=>by rw[hd]at q;cases q⟩
 stay:=λi as h as' h' st g=>by
  obtain⟨⟨o,ho,hc,hd⟩,h1,h2,⟨o2,ho2,hc2,n,hd2⟩,h4⟩:=st;exact⟨⟨o,g.keep I o h1 ho (.inl (by simp)),hc,hd⟩,g.off ho h1,g.off ho2 h2,⟨o2,g.keep ax _ h2 ho2 (.inr ⟨_,_,hd2⟩),hc2,n,hd2⟩,h4.sf g⟩
 item:=λi as s Q E x hx zz st hQ=>by
  obtain⟨h0,h1,h2,h3,h4⟩:=st;obtain⟨y,hy,ry⟩:=h4.get i hx;obtain⟨o,ho,hc,hd⟩:=id h0;have hne:ax≠I:=λq=>by obtain⟨o2,ho2,hc2,n,hd2⟩:=h3;rw[q,ho]at ho2;cases ho2;rw[hd]at hd2;cases hd2
  refine wpAny_pyNext_tuple_item h0 h3 (x:=y) (by simpa using hy) λh' hit hs=>?_;obtain⟨o',ho',hc',hd'⟩:=id hit;have mv:Mv [I] s.heap h':=λa o ha e=>(hs.2 a (by simpa using ha)).trans e;have ks:Ks as s.heap h':=λa o zz e hx=>mv a o (λhm=>by obtain⟨xs,n,q⟩:=hx;rw[bK]at hm;subst hm;rw[ho]at e;cases e;rw[hd]at q;cases q) e;refine Aa ht ho' hc' hd' (by decide) (hQ y h' s.toks (ry.ks ks) ⟨hit,h1,h2,?_,h4.ks ks⟩ mv);obtain⟨o2,ho2,r⟩:=h3;exact⟨o2,mv ax _ (by simpa using hne) ho2,r⟩
 done:=λas s Q E st hQ=>by
  obtain⟨h0,h1,h2,h3,h4⟩:=st;refine wpAny_pyNext_tuple_end hh h0 h3 (by simp[h4.length]) λh' he=>hQ h' s.toks λa o ha e=>he a o (by simpa using ha) e
 self:=λzz zz zz zz zz st hQ=>wpAny_pyIter_tupleiter st.1 hQ
theorem iI.TL(hh:A.handled=.none)(ht:kR tg=true)(I:Addr)(x:List Nat)(t:Tok)(hf:h₀.get? I=.none/\base.get? I=.none) :
  iI prog w A base h₀ tg (.ref I) [I] (x.map λc=>.str [c]) (λi as h=>h.IsStrIter I "str_ascii_iterator" ⟨x.toArray⟩ t i/\I∉as.flatten) where
 fresh:=λa ha=>by rw[bK]at ha;subst ha;exact hf
 off:=λi as h st a ha=>by
  rw[bK]at ha;subst ha;obtain⟨o,ho,hc,hd⟩:=st.1;exact⟨st.2,o,ho,λzz zz q=>by rw[hd]at q;cases q⟩
 stay:=λi as h as' h' st g=>by
  obtain⟨⟨o,ho,hc,hd⟩,h1⟩:=st;exact⟨⟨o,g.keep I o h1 ho (.inl (by simp)),hc,hd⟩,g.off ho h1⟩
 item:=λi as s Q E y hx zz st hQ=>by
  obtain⟨h0,h1⟩:=st;simp only[pO,R1]at hx;obtain⟨c,hc,rfl⟩:=hx;refine wpAny_pyNext_ascii_item h0 (c:=c) (by simpa using hc) λh' hit hs=>?_;obtain⟨o',ho',hc',hd'⟩:=id hit;exact Aa ht ho' hc' hd' (by decide) (hQ _ h' _ ⟨_,rfl⟩ ⟨hit,h1⟩ λa o ha e=>(hs.2 a (by simpa using ha)).trans e)
 done:=λas s Q E st hQ=>by
  obtain⟨h0,h1⟩:=st;refine wpAny_pyNext_ascii_end hh h0 (by simp) λh' he=>hQ h' s.toks λa o ha e=>he a o (by simpa using ha) e
 self:=λzz zz zz zz zz st hQ=>wpAny_pyIter_striter_ascii st.1 hQ
theorem iI.range(hh:A.handled=.none)(ht:kR tg=true)(I:Addr)(a b c:Int)(hf:h₀.get? I=.none/\base.get? I=.none) :
  iI prog w A base h₀ tg (.ref I) [I] (mP a b c) (λi as h=>IsRangeIter h I (a+(i:Int)*c) (nU a b c-i) c/\I∉as.flatten/\i<=(nU a b c).toNat) where
 fresh:=λa ha=>by rw[bK]at ha;subst ha;exact hf
 off:=λi as h st a ha=>by
  rw[bK]at ha;subst ha;exact⟨st.2.1,_,st.1,λzz zz q=>by cases q⟩
 stay:=λi as h as' h' st g=>⟨g.keep I _ st.2.1 st.1 (.inl (by simp)),g.off st.1 st.2.1,st.2.2⟩
 item:=λi as s Q E y hx zz st hQ=>by
  obtain⟨h0,h1,h2⟩:=st;refine aZ (pO.symm.trans hx) λj hj e=>?_;subst e;obtain⟨hlt,e⟩:=cM.mp hj;rw[List.getElem_range]at e;subst e;rw[Au]at hlt;refine wpAny_pyNext_range_item h0 (Int.sub_pos_of_lt (Int.lt_toNat.mp hlt)) λh' hit hs=>?_;refine Aa (n:="range_iterator") ht hit rfl rfl (by decide) (hQ _ h' _ ⟨_,rfl⟩ ⟨?_,h1,by exact hlt⟩ λa o ha e=>(hs.2 a (by simpa using ha)).trans e)
  have e1:a+((i+1:Nat):Int)*c=a+(i:Int)*c+c:=by
   show a+((i:Int)+1)*c=_;rw[Int.add_mul,Int.one_mul,SY]
  have e2:nU a b c-((i+1:Nat):Int)=nU a b c-i-1:=(Int.sub_sub _ (i:Int) 1).symm;rw[e1,e2];exact hit
 done:=λas s Q E st hQ=>by
  obtain⟨h0,h1,h2⟩:=st;have hl:(mP a b c).length=(nU a b c).toNat:=(aW _).trans Au;rw[hl]at h0 h2;refine wpAny_pyNext_range_end hh h0 (Int.sub_nonpos_of_le (Int.self_le_toNat _)) λh' he=>hQ h' s.toks λa o ha e=>he a o (by simpa using ha) e
 self:=λzz zz zz zz zz st hQ=>wpAny_pyIter_rangeiter st.1 hQ
end
section
theorem II(g:GR Lx base O as h){jY:List Addr}(hj:as[j]?=some aH)(hk:as[k]?=some jY)(hne:j≠k)(ha:a∈aH):a∉jY:=by
 intro hm;have nd:as.flatten.Pairwise (·≠·):=g.nd;rw[g5d]at nd;have pw:=nd.2;rw[g5c]at pw;obtain⟨hj1,hj2⟩:=cM.mp hj;obtain⟨hk1,hk2⟩:=cM.mp hk;rcases g4j hne with q|q
 ·have:=pw j k hj1 hk1 q
  rw[hj2,hk2]at this;exact this a ha a hm rfl
 ·have:=pw k j hk1 hj1 q
  rw[hj2,hk2]at this;exact this a hm a ha rfl
theorem GR.qa(g:GR Lx base O as h){own:List Addr}(ho:∀a∈own,a∉as.flatten/\base.get? a=.none/\∃o,h.get? a=some o/\∀xs n,o.data≠.seq xs n)(mv:Mv own h h'):GR Lx base O as h'/\Ks as h h':=by
 have ks:Ks as h h':=λa o ha e hx=>mv a o (λhm=>by
  obtain⟨xs,n,hd⟩:=hx;obtain⟨_,_,o',e',hk⟩:=ho a hm;rw[e]at e';obtain rfl:=aD e';exact hk xs n hd) e
 have off:∀a∈as.flatten,a∉own:=λa ha hm=>(ho a hm).1 ha;refine⟨⟨λa o e=>mv a o (λhm=>by rw[(ho a hm).2.1]at e;exact ns e) (g.keep a o e),g.fresh,g.nd,λa ha=>?_,g.len,λi m aH hi ha=>?_⟩,ks⟩
 ·obtain⟨o,e⟩:=g.alive a ha
  exact⟨o,mv a o (off a ha) e⟩
 ·have hm:=g.dQ i m aH hi ha
  have hin:∀a∈aH,a∉own:=λa hq=>off a (gO.mpr ⟨aH,g6 ha,hq⟩);exact hm.mv (λa ha o e=>mv a o (hin a ha) e) (λe=>e) (aJ.ks ks)
theorem GR.K8(g:GR Lx base O as h){own:List Addr}{T:Addr}{x y:ao}(hk:as[k+1]?=some [T])(hm:O[k]?=some (.obj [] (-9)))(ho:∀a∈own,a≠T->a∉as.flatten/\base.get? a=.none/\∃o,h.get? a=some o/\∀xs n,o.data≠.seq xs n)(mv:Mv own h h')(hT:sV h' T x y):GR Lx base O as h'/\Ks as h h':=by
 have hin:T∈as.flatten:=gO.mpr ⟨[T],g6 hk,As _⟩;have ks:Ks as h h':=λa o ha e hx=>mv a o (λhm=>by
  obtain⟨xs,n,hd⟩:=hx;obtain⟨_,_,o',e',hk⟩:=ho a hm λq=>ha (q▸hin);rw[e]at e';obtain rfl:=aD e';exact hk xs n hd) e
 have off:∀a∈as.flatten,a≠T->a∉own:=λa ha q hm=>(ho a hm q).1 ha;refine⟨⟨λa o e=>mv a o (λhm=>?_) (g.keep a o e),g.fresh,g.nd,λa ha=>?_,g.len,λi m aH hi ha=>?_⟩,ks⟩
 ·by_cases q:a=T
  ·rw[q,g.fresh T hin]at e;exact ns e
  ·rw[(ho a hm q).2.1]at e;exact ns e
 ·by_cases q:a=T
  ·exact⟨_,q▸hT⟩
  ·obtain⟨o,e⟩:=g.alive a ha
   exact⟨o,mv a o (off a ha q) e⟩
 ·by_cases q:i=k
  ·subst q
   cases hi.symm.trans hm;cases ha.symm.trans hk;exact⟨[],rfl,Lx.pair.mpr ⟨x,y,hT⟩⟩
  ·have hM:=g.dQ i m aH hi ha
   have hno:∀a∈aH,a∉own:=λa hq=>off a (gO.mpr ⟨aH,g6 ha,hq⟩) λe=>II g ha hk (by exact BJ q) hq (bK.mpr e);exact hM.mv (λa ha o e=>mv a o (hno a ha) e) (λe=>e) (aJ.ks ks)
structure Wk(prog:jj)(w:ji)(Lx:gj)(A:fu)(base h₀:Heap)(tg:Expr)(it:ao)(own:List Addr)(vs:List V)(St:Nat->List (List Addr)->Heap->Prop)(P:Mu->Prop):Prop where
 fresh:∀a∈own,h₀.get? a=.none/\base.get? a=.none
 alive:∀i O as h,P O->GR Lx base O as h->St i as h->∀a∈own,∃o,h.get? a=some o
 stay:∀i as h as' h',St i as h->Sf own as h as' h'->St i as' h'
 item:∀i O as (s:aC) (Q:ao->aC->Prop) (E:ao->aC->Prop) x,vs[i]?=some x->P O->GR Lx base O as s.heap->St i as s.heap →
  (∀v h' tk,Rep h' as x v->St (i+1) as h'->GR Lx base O as h'->Ks as s.heap h'->Mv own s.heap h'->Q v {s with heap:=h',toks:=tk}) →
  au (model prog w) A (pyNext it) (λr sI=>match r with|.none=>False|some v=>au (model prog w) A (letOwnedTupleGo tg it v) (λzz sJ=>Q v sJ) E sI) E s
 done:∀O as (s:aC) (Q:Option ao->aC->Prop) (E:ao->aC->Prop),P O->GR Lx base O as s.heap->St vs.length as s.heap →
  (∀h' tk,GR Lx base O as h'->Ks as s.heap h'->Mv own s.heap h'->Q .none {s with heap:=h',toks:=tk})->au (model prog w) A (pyNext it) Q E s
 self:∀i as (s:aC) (Q:ao->aC->Prop) (E:ao->aC->Prop),St i as s.heap->Q it s->au (model prog w) A (pyIter it) Q E s
theorem iI.wk{it:ao}{own:List Addr}{vs:List V}{St:Nat->List (List Addr)->Heap->Prop}(k:iI prog w A base h₀ tg it own vs St):Wk prog w Lx A base h₀ tg it own vs St λzz=>True where
 fresh:=k.fresh
 alive:=λi O as h zz zz st a ha=>(k.off i as h st a ha).2.imp λzz x=>x.1
 stay:=k.stay
 item:=λi O as s Q E x hx zz g st hQ=>k.item i as s Q E x hx g.alive st λv h' tk rv st' mv=>
  have x:=g.qa (λa ha=>⟨(k.off i as _ st a ha).1,(k.fresh a ha).2,(k.off i as _ st a ha).2⟩) mv
  hQ v h' tk rv st' x.1 x.2 mv
 done:=λO as s Q E zz g st hQ=>k.done as s Q E st λh' tk mv=>
  have x:=g.qa (λa ha=>⟨(k.off _ as _ st a ha).1,(k.fresh a ha).2,(k.off _ as _ st a ha).2⟩) mv
  hQ h' tk x.1 x.2 mv
 self:=k.self
end
section
theorem c5n{y:V}(h:(l.zipIdx.map λp=>V.tup [.int (p.2:Int),p.1])[i]?=some y):∃x,l[i]?=some x/\y=.tup [.int (i:Int),x]:=by
 rw[pO,R1]at h;obtain⟨p,hp,rfl⟩:=h;rw[List.getElem?_zipIdx,R1]at hp;obtain⟨x,hx,rfl⟩:=hp;exact⟨x,hx,by simp⟩
theorem iI.ZX(hh:A.handled=.none)(e I ax:Addr)(l:List V)(vals:List ao)(hf:h₀.get? I=.none/\base.get? I=.none)(hf':h₀.get? e=.none/\base.get? e=.none)(hne:e≠I) :
  iI prog w A base h₀ (.Tuple elts k pos) (.ref e) [e,I] (l.zipIdx.map λp=>V.tup [.int (p.2:Int),p.1])
   (λi as h=>(∃old,IsEnum h e I i old)/\h.IsListIter I ax i/\e∉as.flatten/\I∉as.flatten/\ax∉as.flatten/\h.PlainList ax vals.toArray/\aJ h as l vals) where
 fresh:=λa ha=>by
  rcases bT.mp ha with rfl|ha
  ·exact hf'
  ·rw[bK]at ha;subst ha;exact hf
 off:=λi as h st a ha=>by
  obtain⟨⟨old,he⟩,⟨o,ho,hc,hd⟩,h1,h2,_⟩:=st;rcases bT.mp ha with rfl|ha
  ·exact⟨h1,_,he,λzz zz q=>by cases q⟩
  ·rw[bK]at ha;subst ha
   exact⟨h2,o,ho,λzz zz q=>by rw[hd]at q;cases q⟩
 stay:=λi as h as' h' st g=>by
  obtain⟨⟨old,he⟩,⟨o,ho,hc,hd⟩,h1,h2,h3,⟨n,h4⟩,h5⟩:=st;exact⟨⟨old,g.keep e _ h1 he (.inl (by simp))⟩,⟨o,g.keep I o h2 ho (.inl (by simp)),hc,hd⟩,g.off he h1,g.off ho h2,g.off h4 h3,⟨n,g.keep ax _ h3 h4 (.inr ⟨_,_,rfl⟩)⟩,h5.sf g⟩
 item:=λi as s Q E y hx al st hQ=>by
  refine oK λG0 hG=>?_;obtain⟨⟨old,he⟩,hi,h1,h2,h3,h4,h5⟩:=st;obtain⟨x,hx',rfl⟩:=c5n hx;obtain⟨u,hu,ru⟩:=h5.get i hx';obtain⟨o,ho,hc,hd⟩:=id hi;obtain⟨n,hn⟩:=id h4;have ne1:ax≠I:=λq=>by rw[q,ho]at hn;cases hn;cases hd
  have ne2:ax≠e:=λq=>by
   rw[q,he]at hn;have:=congrArg Obj.data (aD hn);cases this
  refine hG (wpAny_pyNext_enum_item he hi h4.isList (x:=u) (by simpa using hu) hne λh' ho' hi' hnew hsz hk=>?_);refine wpAny_letOwnedTupleGo_enum ho' λh'' Vn hs=>?_;have TF:s.heap.objs.size≠e:=iW (fM he);have Ub:Mv [e,I] s.heap h':=λa o ha q=>by
   simp only[bT,ee,or_false,not_or]at ha;exact hk a o ha.1 ha.2 q
  have EK:∀a o,a≠e->h'.get? a=some o->h''.get? a=some o:=λa o ha q=>(hs.2 a ha).trans q;have mv:Mv [e,I] s.heap h'':=λa o ha q=>by
   have:=Ub a o ha q;simp only[bT,ee,or_false,not_or]at ha;exact EK a o ha.1 this
  have ks:Ks as s.heap h'':=λa o zz q hx=>by
   obtain⟨xs,n,hq⟩:=hx;refine mv a o (λhm=>?_) q;simp only[bT,ee,or_false]at hm;rcases hm with rfl|rfl
   ·rw[he]at q;cases q;cases hq
   ·rw[ho]at q;cases q;rw[hd]at hq;cases hq
  refine hQ _ h'' _ ?_ ⟨⟨u,?_⟩,?_,h1,h2,h3,?_,h5.ks ks⟩ mv
  ·refine⟨_,[.int i s.toks,u],rfl,λhm=>?_,⟨_,EK _ _ TF hnew,rfl,_,rfl⟩,_,_,rfl,⟨_,rfl⟩,_,_,rfl,ru.ks ks,rfl⟩
   obtain⟨o',q⟩:=al _ hm;exact absurd (fM q) (mV _)
  ·exact Vn
  ·obtain⟨o2,ho2,r⟩:=hi'
   exact⟨o2,EK _ _ (Jx hne) ho2,r⟩
  ·exact⟨n,mv ax _ (by simp[ne1,ne2]) hn⟩
 done:=λas s Q E st hQ=>by
  obtain⟨⟨old,he⟩,hi,h1,h2,h3,h4,h5⟩:=st;have hl:(l.zipIdx.map λp=>V.tup [.int (p.2:Int),p.1]).length=l.length:=by simp
  rw[hl]at he hi;refine wpAny_pyNext_enum_end hh he hi h4.isList (by simp[h5.length]) λh' he'=>hQ h' s.toks λa o ha q=>he' a o (λhm=>ha (by simp[hm])) q
 self:=λzz zz zz zz zz st hQ=>st.1.elim λzz he=>Ti he hQ
theorem iI.enum(hh:A.handled=.none)(ht:vV tg=true)(e I ax:Addr)(l:List V)(vals:List ao)(hf:h₀.get? I=.none/\base.get? I=.none)(hf':h₀.get? e=.none/\base.get? e=.none)(hne:e≠I) :
  iI prog w A base h₀ tg (.ref e) [e,I] (l.zipIdx.map λp=>V.tup [.int (p.2:Int),p.1])
   (λi as h=>(∃old,IsEnum h e I i old)/\h.IsListIter I ax i/\e∉as.flatten/\I∉as.flatten/\ax∉as.flatten/\h.PlainList ax vals.toArray/\aJ h as l vals):=by
 obtain⟨elts,k,pos,rfl⟩:=Qq ht;exact iI.ZX hh e I ax l vals hf hf' hne
end
section
theorem d9q{z TI TO i1 i2 l1:Addr}{k1:Nat}{xs:Array ao}{Q:Option ao->aC->Prop}(hh:A.handled=.none)(n1:i1≠z)(n2:l1≠z)(hz:IsZip s.heap z TI TO .none)(hTI:sV s.heap TI (.ref i1) (.ref i2))
  (h1:s.heap.IsListIter i1 l1 k1) (hl1:s.heap.IsList l1 xs) (he:xs[k1]?=.none) (hQ:∀h',(∀c o,c≠z->c≠i1->s.heap.get? c=some o->h'.get? c=some o)->Q .none {s with heap:=h'}):au (model prog w) A (pyNext (.ref z)) Q E s:=by
 have hT:s.TypeIs (.ref z) "zip":=⟨_,hz,rfl⟩
 refine aI (xP (xO (name:=lQ "__next__") hT F.slot_zip_next (qY F.slot_zip_next hT F.entry_zip_next ?_ (F.args_zip_next_1 _))))
 show au _ _ (field (.ref z) 2 >>= _) _ _ _;refine aI (lC hz rfl (x:=.bool false) rfl ?_);show au _ _ (field (.ref z) 3 >>= _) _ _ _;refine aI (lC hz rfl (x:=.ref TI) rfl (aI (wpAny_seqItems hTI rfl ?_)));show au _ _ (g7t (.ref z) >>= _) _ _ _;refine aI (aI (lC hz rfl (x:=.none) rfl (bF ?_)));rw[if_pos rfl];refine aI (tE (aI (lC hz rfl (x:=.ref TO) rfl (aI (AI hz (g4b _) λhY Uy E4=>?_)))));refine aI (aI (aI (wpAny_onRaise ?_)));show au _ _ (g7u (.ref i1) >>= _) _ _ _;refine aI (wpAny_nextOf_list_end hh (h1.extBut E4.extBut n1) (hl1.extBut E4.extBut n2) he λhJ e LN he=>?_);obtain⟨oe,E7,hce⟩:=he;have LH:hJ.get? z=some {cls:=.type "zip",dict:=none,data:=.fields #[.ellipsis,.bool false,.bool false,.ref TI,.ref TO],slots:=#[]}:=LN _ _ (Jx n1) Uy
 have Vk:e≠z:=λx=>by subst x;rw[LH]at E7;cases E7;exact absurd (g7j hce) (by decide)
 refine AI LH (g4b _) λh₃ zz LM=>?_;refine aI (Eh (T:="StopIteration") (b:=true) ⟨oe,LM.extBut _ _ Vk E7,hce⟩ isSubtype_stop ?_)
 exact bF (hQ _ λc o c1 c3 x=>LM.extBut _ _ c1 (LN _ _ c3 (E4.extBut _ _ c1 x)))
structure DK(z TI TO i1 i2 ax bx:Addr)(k:Nat)(l m:List V)(us vs:List ao)(i:Nat)(as:List (List Addr))(h:Heap):Prop where
 hz:IsZip h z TI TO .none
 hTI:sV h TI (.ref i1) (.ref i2)
 h1:h.IsListIter i1 ax i
 h2:h.IsListIter i2 bx i
 off:z∉as.flatten/\TI∉as.flatten/\i1∉as.flatten/\i2∉as.flatten/\ax∉as.flatten/\bx∉as.flatten
 hT:as[k+1]?=some [TO]
 p1:h.PlainList ax us.toArray
 p2:h.PlainList bx vs.toArray
 r1:aJ h as l us
 r2:aJ h as m vs
theorem e4c{m:List V}{y:V}(h:((l.zip m).map λp=>V.tup [p.1,p.2])[i]?=some y):∃a b,l[i]?=some a/\m[i]?=some b/\y=.tup [a,b]:=by
 refine aZ (pO.symm.trans h) λp hp e=>?_;obtain⟨h1,h2⟩:=List.getElem?_zip_eq_some.mp hp;exact⟨p.1,p.2,h1,h2,e.symm⟩
section
variable {z TI TO i1 i2 ax bx:Addr}{m:List V}{us:List ao}
theorem DK.own(st:DK z TI TO i1 i2 ax bx k l m us vs i as h)(hf:∀a∈[z,TO,i1,i2],base.get? a=.none):∀a∈[z,TO,i1,i2],a≠TO->a∉as.flatten/\base.get? a=.none/\∃o,h.get? a=some o/\∀xs n,o.data≠.seq xs n:=λa ha hne=>by
 obtain⟨z1,_,z3,z4,_⟩:=st.off;have hb:=hf a ha;simp only[bT,ee,or_false]at ha;rcases ha with rfl|rfl|rfl|rfl
 ·exact⟨z1,hb,_,st.hz,λzz zz q=>by cases q⟩
 ·exact absurd rfl hne
 ·obtain⟨o,e,_,hd⟩:=st.h1;exact⟨z3,hb,o,e,λzz zz q=>by rw[hd]at q;cases q⟩
 ·obtain⟨o,e,_,hd⟩:=st.h2;exact⟨z4,hb,o,e,λzz zz q=>by rw[hd]at q;cases q⟩
theorem GR.pair(g:GR Lx base O as h)(hm:O[k]?=some (.obj [] (-9)))(hT:as[k+1]?=some [TO]):∃a b,sV h TO a b:=by
 obtain⟨rs,e,h2⟩:=g.dQ k _ _ hm hT;cases e;exact Lx.pair.mp h2
theorem Wk.Te{kk:Nat}(hh:A.handled=.none)(D:ZipApart z TI TO i1 i2 ax bx)(hl:l.length=m.length)(hf:∀a∈[z,TO,i1,i2],h₀.get? a=.none/\base.get? a=.none) :
  Wk prog w Lx A base h₀ (.Tuple elts kk pos) (.ref z) [z,TO,i1,i2] ((l.zip m).map λp=>V.tup [p.1,p.2]) (DK z TI TO i1 i2 ax bx k l m us vs) (λO=>O[k]?=some (.obj [] (-9))) where
 fresh:=hf
 alive:=λi O as h hm g st a ha=>by
  by_cases q:a=TO
  ·obtain⟨_,_,e⟩:=g.pair hm st.hT
   exact⟨_,q▸e⟩
  ·exact(st.own (λa ha=>(hf a ha).2) a ha q).2.2.imp λzz x=>x.1
 stay:=λi as h as' h' st g=>by
  obtain⟨hz,hTI,⟨o1,e1,c1,d1⟩,⟨o2,e2,c2,d2⟩,⟨z1,z2,z3,z4,z5,z6⟩,hT,⟨n1,p1⟩,⟨n2,p2⟩,r1,r2⟩:=st;exact⟨g.keep _ _ z1 hz (.inl (.head _)),g.keep _ _ z2 hTI (.inr ⟨_,_,rfl⟩),⟨o1,g.keep _ _ z3 e1 (.inl (.tail _ (.tail _ (.head _)))),c1,d1⟩,⟨o2,g.keep _ _ z4 e2 (.inl (.tail _ (.tail _ (.tail _ (.head _))))),c2,d2⟩,
   ⟨g.off hz z1,g.off hTI z2,g.off e1 z3,g.off e2 z4,g.off p1 z5,g.off p2 z6⟩,g.get' _ _ hT,⟨n1,g.keep _ _ z5 p1 (.inr ⟨_,_,rfl⟩)⟩,⟨n2,g.keep _ _ z6 p2 (.inr ⟨_,_,rfl⟩)⟩,r1.sf g,r2.sf g⟩
 item:=λi O as s Q E y hx hm g st hQ=>by
  refine oK λG0 hG=>?_;obtain⟨x,y,E0,EZ,rfl⟩:=e4c hx;obtain⟨a,b,hTO⟩:=g.pair hm st.hT;obtain⟨u,hu,ru⟩:=st.r1.get i E0;obtain⟨v,hv,rv⟩:=st.r2.get i EZ;refine hG (wpAny_pyNext_zip_item D st.hz st.hTI hTO st.h1 st.h2 st.p1.isList st.p2.isList ((sS ..).trans hu) ((sS ..).trans hv) λh' hz' VF ni h2' hnew hsz hk=>?_);refine wpAny_letOwnedTupleGo_zip hz' λh'' Uz hs=>?_;have lt:∀{c o},s.heap.get? c=some o->s.heap.objs.size≠c:=λe=>iW (fM e);have up:∀{c o},c≠z->h'.get? c=some o->h''.get? c=some o:=λhc e=>(hs.2 _ hc).trans e;have mv:Mv [z,TO,i1,i2] s.heap h'':=λc o hc e=>by
   simp only[bT,ee,or_false,not_or]at hc;exact up hc.1 (hk c o hc.1 hc.2.1 hc.2.2.1 hc.2.2.2 e)
  obtain⟨g',ks⟩:=g.K8 st.hT hm (st.own λa ha=>(hf a ha).2) mv (up D.TOz VF);obtain⟨z1,z2,z3,z4,z5,z6⟩:=st.off;refine hQ _ h'' s.toks ⟨_,[u,v],rfl,g.kB,⟨_,up (lt st.hz) hnew,rfl,_,rfl⟩,.cons (ru.ks ks) (.cons (rv.ks ks) .nil)⟩ ⟨Uz,?_,ni.at λo e=>up D.i1z e,h2'.at λo e=>up D.i2z e,st.off,st.hT,?_,?_,st.r1.ks ks,st.r2.ks ks⟩ g' ks mv
  ·exact ks _ _ z2 st.hTI ⟨_,_,rfl⟩
  ·obtain⟨n,e⟩:=st.p1;exact⟨n,ks _ _ z5 e ⟨_,_,rfl⟩⟩
  ·obtain⟨n,e⟩:=st.p2;exact⟨n,ks _ _ z6 e ⟨_,_,rfl⟩⟩
 done:=λO as s Q E hm g st hQ=>by
  obtain⟨a,b,hTO⟩:=g.pair hm st.hT;have hlen:((l.zip m).map λp=>V.tup [p.1,p.2]).length=l.length:=by rw[aW,List.length_zip,←hl,Nat.min_self]
  have h1:=st.h1;rw[hlen,←st.r1.length]at h1;refine d9q hh D.i1z D.l1z st.hz st.hTI h1 st.p1.isList (by simp) λh' hk=>?_;have mv:Mv [z,TO,i1,i2] s.heap h':=λc o hc e=>by
   simp only[bT,ee,or_false,not_or]at hc;exact hk c o hc.1 hc.2.2.1 e
  obtain⟨g',ks⟩:=g.K8 st.hT hm (st.own λa ha=>(hf a ha).2) mv (hk _ _ D.TOz D.TOi1 hTO);exact hQ h' s.toks g' ks mv
 self:=λzz zz zz zz zz st hQ=>wpAny_pyIter_zip st.hz hQ
theorem Wk.zip(ht:vV tg=true)(hh:A.handled=.none)(D:ZipApart z TI TO i1 i2 ax bx)(hl:l.length=m.length)(hf:∀a∈[z,TO,i1,i2],h₀.get? a=.none/\base.get? a=.none) :
  Wk prog w Lx A base h₀ tg (.ref z) [z,TO,i1,i2] ((l.zip m).map λp=>V.tup [p.1,p.2]) (DK z TI TO i1 i2 ax bx k l m us vs) (λO=>O[k]?=some (.obj [] (-9))):=by
 obtain⟨elts,kk,pos,rfl⟩:=Qq ht;exact Wk.Te hh D hl hf
end
end
theorem AZ{l:aB}:((i,v)::l).lookup i=some v:=by rw[ek,beq_self_eq_true]
theorem zc{l:aB}(h:¬j=i):((i,v)::l).lookup j=l.lookup j:=by rw[ek,beq_false_of_ne h]
theorem gi(i:Nat)(v:V):∀(J:aB) (j:Nat),(put i v J).lookup j=if j=i then some v else J.lookup j:=by
 intro z_;induction z_ with
 |nil=>
  intro j;by_cases h:j=i
  ·subst h;rw[if_pos rfl];exact AZ
  ·rw[if_neg h];exact zc h
 |cons iL r ih=>
  obtain⟨a,b⟩:=iL;intro j;by_cases h:a=i
  ·have e:put i v ((a,b)::r)=(i,v)::r:=if_pos (beq_iff_eq.mpr h)
   rw[e];subst h;by_cases hj:j=a
   ·subst hj;rw[if_pos rfl];exact AZ
   ·rw[if_neg hj,zc hj,zc hj]
  ·have e:put i v ((a,b)::r)=(a,b)::put i v r:=if_neg (λq=>h (beq_iff_eq.mp q))
   rw[e];by_cases hj:j=a
   ·subst hj;rw[if_neg h];exact AZ.trans AZ.symm
   ·rw[zc hj,zc hj,ih j]
def Wf(ah:List Str)(env:Env)(a:Addr):Prop:=a=env.locals∨∃(i:Nat) (x:Str),ah[i]?=some x/\(env.kindOf x=some .cell∨env.kindOf x=some .free)/\env.cells.lookup x=some a
structure cE(W:Addr->Prop)(as:List (List Addr))(h:Heap)(as':List (List Addr))(h':Heap):Prop where
 ext:∃nw,as'=as++nw/\∀a∈nw.flatten,h.get? a=.none
 keep:∀a o,a∉as.tail.flatten->¬ W a->h.get? a=some o->h'.get? a=some o
 alive:∀a∈as'.flatten,∃o,h'.get? a=some o
theorem Go.toS{W as h as' h'}(g:Go as h as' h'):cE W as h as' h':=⟨g.ext,λa o ha zz e=>g.keep a o ha e,g.alive⟩
theorem cE.sub{W as h as' h'}(g:cE W as h as' h'){a:Addr}(ha:a∈as.flatten):a∈as'.flatten:=by
 obtain⟨nw,rfl,_⟩:=g.ext;rw[eN];exact uN _ ha
theorem cE.off{W as h as' h'}(g:cE W as h as' h')(e:h.get? a=some o)(ha:a∉as.flatten):a∉as'.flatten:=by
 obtain⟨nw,rfl,hn⟩:=g.ext;rw[eN];intro hm;rcases ic.mp hm with hm|hm
 ·exact ha hm
 ·rw[hn a hm]at e;exact ns e
theorem cE.trans{W as aG cz h hY hJ}(x:cE W as h aG hY)(y:cE W aG hY cz hJ)(hw:∀a,W a->∃o,hY.get? a=some o):cE W as h cz hJ:=by
 refine⟨?_,λa o ha hf e=>y.keep a o (λq=>?_) hf (x.keep a o ha hf e),y.alive⟩
 rotate_left
 ·obtain⟨n1,rfl,h1⟩:=x.ext
  rcases Qa q with q|q
  ·exact ha q
  ·rw[h1 a q]at e;exact ns e
 have xs:=@cE.sub _ _ _ _ _ x;have xa:=x.alive;have xk:=x.keep;obtain⟨n1,rfl,h1⟩:=x.ext;obtain⟨n2,rfl,h2⟩:=y.ext;refine⟨n1++n2,by simp,λa ha=>?_⟩;rw[eN]at ha;rcases ic.mp ha with ha|ha
 ·exact h1 a ha
 ·induction q:h.get? a using aT with
  |none=>rfl
  |some o=>
   exfalso;by_cases m:a∈as.flatten
   ·obtain⟨o',e'⟩:=xa a (xs m)
    rw[h2 a ha]at e';exact ns e'
   ·by_cases hf:W a
    ·obtain⟨o',e'⟩:=hw a hf
     rw[h2 a ha]at e';exact ns e'
    ·have:=xk a o (λz=>m (wJ z)) hf q
     rw[h2 a ha]at this;exact ns this
section
theorem ER.held(e:ER ah base env J as h)(hw:Wf ah env a):a∉as.flatten/\base.get? a=.none/\∃o,h.get? a=some o/\∀xs n,o.data≠.seq xs n:=by
 rcases hw with rfl|⟨i,x,h1,h2,h3⟩
 ·obtain⟨m,hn,_⟩:=e.loc
  exact⟨e.off.1,e.off.2,Ns.get hn⟩
 ·obtain⟨c,u,h4,h5,h6,⟨o,ho,hd⟩,_⟩:=e.jr i x h1 h2
  rw[h3]at h4;obtain rfl:=aD h4;exact⟨h5,h6,o,ho,λzz zz q=>by rw[hd]at q;cases q⟩
theorem ER.foreign(e:ER ah base env J as h)(hw:Wf ah env a):tn as h a:=by
 obtain⟨h1,_,o,ho,hk⟩:=e.held hw;exact⟨h1,λo' e'=>by rw[ho]at e';obtain rfl:=aD e';exact hk⟩
theorem ER.congr(e:ER ah base env J as h)(hq:∀i,ρ'.lookup i=J.lookup i):ER ah base env ρ' as h:=
 ⟨e.kind,e.glob,e.uf,by obtain⟨m,h1,h2⟩:=e.loc;exact⟨m,h1,λi x v a b c=>h2 i x v a b (by rw[←hq];exact c)⟩,e.off,λi x a b=>by obtain⟨c,u,h1,h2,h3,h4,h5⟩:=e.jr i x a b;exact⟨c,u,h1,h2,h3,h4,λv hv=>h5 v (by rw[←hq];exact hv)⟩,e.inj⟩
theorem cE.sf{as' own}(g:cE W as h as' h')(hk:∀a,W a->a∉as.flatten->∀o,h.get? a=some o->∀xs n,o.data≠.seq xs n)(ho:∀a∈own,¬ W a):Sf own as h as' h':=
 ⟨λa o e ha=>g.off e ha,λk l e=>by obtain⟨nw,rfl,_⟩:=g.ext;rw[iK (cM.mp e).1];exact e,λa o ha hq hk'=>g.keep a o (λz=>ha (wJ z)) (λhw=>by
  rcases hk' with hk' |⟨xs,n,hk'⟩
  ·exact ho a hk' hw
  ·exact hk a hw ha o hq xs n hk') hq⟩
theorem ER.wk(e:ER ah base env J as h):∀a,Wf ah env a->∀o,h.get? a=some o->∀xs n,o.data≠.seq xs n:=λa hw o ho=>by
 obtain⟨_,_,o',e',hd⟩:=e.held hw;rw[ho]at e';obtain rfl:=aD e';exact hd
def pS(W:Addr->Prop)(env:Env)(x:Str):Prop:=cS env.scope x=true/\(env.kindOf x=some .local->W env.locals)/\(∀c,env.kindOf x=some .cell->env.cells.lookup x=some c->W c)
theorem P5(f:tn as h a)(hs:AB a h h'):Ks as h h':=f.ks λb zz hb q=>(hs.2 b hb).trans q
theorem Jd(h:cS sc x=true):sc.names.lookup x=some .local∨sc.names.lookup x=some .cell:=by
 unfold cS at h;induction q:iH sc x using aT with
 |none=>rw[q]at h;exact nt h
 |some k=>
  rw[q]at h;cases k with
  | «local»=>exact .inl q
  |cell=>exact .inr q
  |_=>exact nt h
theorem Iw{Q:Unit->aC->Prop}{v:ao}
  (nd:c7 ah) (hx:ah[i]?=some x) {W:Addr->Prop} (hW:pS W env x) (er:ER ah base env J as s.heap) (gr:GR Lx base O as s.heap) (ru:Rep s.heap as u v)
  (hQ:∀h' tk,GR Lx base O as h'->ER ah base env (put i u J) as h'->cE W as s.heap as h'->Ks as s.heap h'->Q () {s with heap:=h',toks:=tk}) :
  au (model prog w) A (storeName env x v) Q E s:=by
 obtain⟨ho,VD,VE⟩:=hW;have Mz:∀(a:Addr) (h':Heap),W a->Wf ah env a->AB a s.heap h'->cE W as s.heap as h':=λa h' UB hw hs=>
  ⟨⟨[],by simp,by simp⟩,λb o zz hb q=>(hs.2 b (λe=>hb (e▸UB))).trans q,λb hb=>by
   obtain⟨o,e⟩:=gr.alive b hb;exact⟨o,(hs.2 b (λq=>(er.held hw).1 (q▸hb))).trans e⟩⟩
 obtain⟨m,hn,hl⟩:=er.loc;rcases Jd ho with hk|hk
 ·replace hk:env.kindOf x=_:=hk
  refine Tg hk hn (λh' hn' hs=>?_) (by rw[er.kind];rfl);have hw:Wf ah env env.locals:=.inl rfl;have ks:=P5 (er.foreign hw) hs;refine hQ h' _ (gr.mod (er.foreign hw) (er.held hw).2.1 λa o ha q=>(hs.2 a ha).trans q) ?_ (Mz _ _ (VD hk) hw hs) ks;refine⟨er.kind,er.glob,er.uf,⟨_,hn',λj y z h1 h2 h3=>?_⟩,er.off,λj y h1 h2=>?_,er.inj⟩
  ·rw[gi]at h3
   by_cases hj:j=i
   ·subst hj
    rw[hx]at h1;obtain rfl:=aD h1;rw[if_pos rfl]at h3;cases h3;exact⟨v,if_pos rfl,ru.ks ks⟩
   ·rw[if_neg hj]at h3
    have hne:y≠x:=λq=>hj (nd j i x (q▸h1) hx);obtain⟨u',h4,h5⟩:=hl j y z h1 h2 h3;exact⟨u',by rw[if_neg hne];exact h4,h5.ks ks⟩
  ·obtain⟨c,u',h3,h4,h5,⟨oc,hoc,hdc⟩,h7⟩:=er.jr j y h1 h2
   have hcl:c≠env.locals:=λq=>by
    obtain⟨o,es,ep,e1,e2,_⟩:=hn;rw[q,e1]at hoc;cases hoc;rw[e2]at hdc;cases hdc
   refine⟨c,u',h3,h4,h5,⟨oc,(hs.2 c hcl).trans hoc,hdc⟩,λz hz=>?_⟩;rw[gi]at hz;by_cases hj:j=i
   ·subst hj
    rw[hx]at h1;cases h1;rcases h2 with h2|h2<;>cases hk.symm.trans h2
   ·rw[if_neg hj]at hz
    obtain⟨xR,h8,h9⟩:=h7 z hz;exact⟨xR,h8,h9.ks ks⟩
 ·replace hk:env.kindOf x=_:=hk
  obtain⟨c,u',h3,h4,h5,hic,h7⟩:=er.jr i x hx (.inl hk);refine wpAny_storeName_cell er.kind hk h3 hic λh' Vd hs=>?_;have hw:Wf ah env c:=.inr ⟨i,x,hx,.inl hk,h3⟩;have ks:=P5 (er.foreign hw) hs;have U9:env.locals≠c:=λq=>by
   obtain⟨o,es,ep,e1,e2,_⟩:=hn;obtain⟨oc,hoc,hdc⟩:=hic;rw[←q,e1]at hoc;cases hoc;rw[e2]at hdc;cases hdc
  refine hQ h' s.toks (gr.mod (er.foreign hw) (er.held hw).2.1 λa o ha q=>(hs.2 a ha).trans q) ?_ (Mz _ _ (VE c hk h3) hw hs) ks;refine⟨er.kind,er.glob,er.uf,⟨m,hn.sameBut hs U9,λj y z h1 h2 h3'=>?_⟩,er.off,λj y h1 h2=>?_,er.inj⟩
  ·rw[gi]at h3'
   by_cases hj:j=i
   ·subst hj
    rw[hx]at h1;obtain rfl:=aD h1;cases hk.symm.trans h2
   ·rw[if_neg hj]at h3'
    obtain⟨xR,h8,h9⟩:=hl j y z h1 h2 h3';exact⟨xR,h8,h9.ks ks⟩
  ·by_cases hj:j=i
   ·subst hj
    rw[hx]at h1;obtain rfl:=aD h1;refine⟨c,some v,h3,h4,h5,Vd,λz hz=>?_⟩;rw[gi,if_pos rfl]at hz;obtain rfl:=aD hz;exact⟨v,rfl,ru.ks ks⟩
   ·obtain⟨c',xR,g3,g4,g5,⟨oc,hoc,hdc⟩,g7⟩:=er.jr j y h1 h2
    have hcc:c'≠c:=λq=>by
     subst q;have:=er.inj y x c' g3 h3;subst this;exact hj (nd j i y h1 hx)
    refine⟨c',xR,g3,g4,g5,⟨oc,(hs.2 c' hcc).trans hoc,hdc⟩,λz hz=>?_⟩;rw[gi,if_neg hj]at hz;obtain⟨z',g8,g9⟩:=g7 z hz;exact⟨z',g8,g9.ks ks⟩
end
section
variable {Q:Unit->aC->Prop}
theorem GR.all(g:GR Lx base O as h)(k:∀a o,a≠h.objs.size->h.get? a=some o->h'.get? a=some o):GR Lx base O as h'/\Go as h as h':=by
 refine⟨g.mod (I:=h.objs.size) ⟨g.kB,λo e=>by rw[j6]at e;exact ns e⟩ g.xU k,?_⟩;exact⟨⟨[],by simp,by simp⟩,λa o zz e=>k a o (λq=>by rw[q,j6]at e;exact ns e) e,λa ha=>by
  obtain⟨o,e⟩:=g.alive a ha;exact⟨o,k a o (λq=>by rw[q,j6]at e;exact ns e) e⟩⟩
theorem GR.add(g:GR Lx base O as h){m:M}(kp:∀b o,base.get? b=some o->h'.get? b=some o)(hn:∀a∈aH,a∉as.flatten/\base.get? a=.none/\∃o,h'.get? a=some o)(al:∀a∈as.flatten,∃o,h'.get? a=some o)(nd:aH.Nodup)
  (tr:∀{M jY},nT Lx h as M jY->nT Lx h' (as++[aH]) M jY) (hm:nT Lx h' (as++[aH]) m aH):GR Lx base (O++[m]) (as++[aH]) h':=by
 have sp:∀{a},a∈(as++[aH]).flatten->a∈as.flatten∨a∈aH:=λ{a} q=>by
  rw[eN,ic,ki,D6,gm]at q;exact q
 refine⟨kp,λb hb=>(sp hb).elim (g.fresh b) λq=>(hn b q).2.1,?_,λb hb=>(sp hb).elim (al b) λq=>(hn b q).2.2,by rw[cA,cA,g.len];rfl,λj M jY hj iB=>?_⟩
 ·rw[eN,ki,D6,gm,JM]
  exact⟨g.nd,nd,λa ha b hb q=>(hn b hb).1 (q▸ha)⟩
 ·by_cases q:j<O.length
  ·rw[iK q]at hj
   rw[iK (by rw[g.len];exact dc q)]at iB;exact tr (g.dQ j M jY hj iB)
  ·obtain rfl:=e6f hj q
   rw[fY (bV _),jy]at hj;rw[fY (by rw[g.len];exact bV _),g.len,jy]at iB;obtain rfl:=aD hj;obtain rfl:=aD iB;exact hm
theorem Go.new(g:GR Lx base O as h)(kp:∀b o,h.get? b=some o->h'.get? b=some o)(fr:∀a∈aH,h.get? a=.none)(al:∀a∈aH,∃o,h'.get? a=some o):Go as h (as++[aH]) h':=by
 refine⟨⟨[aH],rfl,by rw[ki,D6,gm];exact fr⟩,λb o zz e=>kp b o e,λb hb=>?_⟩;rw[eN,ic,ki,D6,gm]at hb;exact hb.elim (λq=>(g.alive b q).imp λo e=>kp b o e) (al b)
theorem GR.new(g:GR Lx base O as h){m:M}(kp:∀b o,h.get? b=some o->h'.get? b=some o)(fr:∀a∈aH,h.get? a=.none)(nd:aH.Nodup)(al:∀a∈aH,∃o,h'.get? a=some o)
  (hm:nT Lx h' (as++[aH]) m aH):GR Lx base (O++[m]) (as++[aH]) h'/\Go as h (as++[aH]) h':=by
 have go:=Go.new g kp fr al;refine⟨g.add (λb o e=>kp b o (g.keep b o e)) (λa ha=>⟨λq=>(g.alive a q).elim λo e=>ns ((fr a ha).symm.trans e),?_,al a ha⟩) (λa q=>(g.alive a q).imp λo e=>kp a o e) nd (λhM=>hM.mv (λb zz o e=>kp b o e) (C0 λj l e=>by rw[iK (cM.mp e).1];exact e) λr=>r.go go) hm,go⟩;induction q:base.get? a using aT with
 |none=>rfl
 |some o=>exact ns ((fr a ha).symm.trans (g.keep a o q))
theorem GR.newList{vs:List V}(g:GR Lx base O as h)(r:aJ h as vs vals) :
  GR Lx base (O++[.list vs]) (as++[[h.objs.size]]) (h.push {cls:=.type "list",data:=.seq vals.toArray})/\Go as h (as++[[h.objs.size]]) (h.push {cls:=.type "list",data:=.seq vals.toArray}):=by
 have kp:∀b o,h.get? b=some o->(h.push {cls:=.type "list",data:=.seq vals.toArray}).get? b=some o:=λzz zz e=>cB _ e
 have fr:∀a∈[h.objs.size],h.get? a=.none:=λa ha=>bK.mp ha▸j6 h;have al:∀a∈[h.objs.size],∃o,(h.push {cls:=.type "list",data:=.seq vals.toArray}).get? a=some o:=λa ha=>bK.mp ha▸⟨_,fq _ rfl⟩
 exact g.new kp fr (kh.mpr ⟨ee,qQ⟩) al ⟨_,vals,rfl,⟨0,fq _ rfl⟩,r.go (Go.new g kp fr al)⟩
theorem Go.ks{as'}(g:Go as h as' h'):Ks as h h':=λa o ha e zz=>g.at ha e
theorem cE.refl(g:GR Lx base O as h):cE W as h as h:=g.go.toS
def yO(Lx:gj)(base:Heap)(ah:List Str)(env:Env)(W:Addr->Prop)(as:List (List Addr))(s:aC)(J:aB)(O:Mu)(Q:Unit->aC->Prop):Prop:=
 ∀h' tk,GR Lx base O as h'->ER ah base env J as h'->cE W as s.heap as h'->Ks as s.heap h'->Q () {s with heap:=h',toks:=tk}
theorem Df{h₃:Heap}(x:Ks as hY hJ)(y:Ks as hJ h₃):Ks as hY h₃:=λa o ha e hk=>y a o ha (x a o ha e hk) hk
theorem IW{G:Prop}(h:oR ah sc e=some i)(k:∀x p,e=.Name x p->cS sc x=true->nid ah x=some i->G):G:=by
 refine aO h λx h1 h=>?_;obtain⟨p,rfl⟩:=mQ h1;exact aL h λhx h=>k x p rfl hx h
theorem Rd(hW:∀x,cS sc x=true->pS W env x)(ha:∀a,W a->Wf ah env a)(nd:c7 ah):∀(elts:List Expr) (is:List Nat) (l:List V) (vals:List ao) (J:aB) (s:aC),
  bJ (oR ah sc) elts=some is->is.length=l.length->ER ah base env J as s.heap->GR Lx base O as s.heap->aJ s.heap as l vals →
  yO Lx base ah env W as s ((is.zip l).foldl (λJ p=>put p.1 p.2 J) J) O Q->au (model prog w) A (assignInOrder ((assignEach elts env).map (·.2)) vals) Q E s:=by
 intro z_;induction z_ with
 |nil=>
  intro is l vals J s e hl er gr rl hQ;obtain rfl:=aD e;induction l using aN with
  |cons a r=>cases hl
  |nil=>
   cases rl;exact Tp (hQ s.heap s.toks gr er (cE.refl gr) λzz zz zz e zz=>e)
 |cons t ts ih=>
  intro is l vals J s e hl er gr rl hQ;refine eY e λi js e1 e2 e=>?_;induction l using aN with
  |nil=>subst e;cases hl
  |cons u l=>
   refine IW e1 λx p ht hx hi=>?_;subst e ht;obtain⟨v,vr,rfl,ru,rl⟩:=rl;refine Tq (Kg (Iw nd (fQ hi) (hW x hx) er gr ru λh' tk f9 dI go' ks'=>?_));refine ih js l vr _ _ e2 (lR hl) dI f9 (rl.ks ks') ?_;intro h'' tk' tU tV nj tM;refine hQ h'' tk' tU tV (go'.trans nj λa hq=>?_) (Df ks' tM);obtain⟨_,_,o,ho,_⟩:=dI.held (ha a hq);exact⟨o,ho⟩
theorem PT:∀elts:List Expr,(assignEach elts env).length=elts.length:=by
 intro z_;induction z_ with
 |nil=>
  exact rfl
 |cons e r ih=>
  cases e<;>exact congrArg Aj (ih)
theorem wO{f:α->Option β}:∀{l:List α}{r:List β},bJ f l=some r->r.length=l.length:=by
 intro z_;induction z_ with
 |nil=>
  intro r h;obtain rfl:=aD h;rfl
 |cons _ _ ih=>
  intro _ h;exact eY h λzz zz zz h2 e=>e▸congrArg Aj (ih h2)
theorem Ra:∀{elts:List Expr}{is:List Nat},bJ (oR ah sc) elts=some is->(assignEach elts env).findIdx? (·.1)=.none:=by
 intro elts;induction elts with
 |nil=>exact λzz=>rfl
 |cons e r ih=>
  exact λh=>eY h λzz zz h1 h2 zz=>IW h1 λx p he zz zz=>by
   subst he;show(((false,assign (.Name x p) env):Bool×(ao->Sem Unit))::assignEach r env).findIdx? (·.1)=.none;rw[List.findIdx?_cons];simp[ih h2]
theorem z7(hW:∀x,cS sc x=true->pS W env x)(Mj:∀a,W a->Wf ah env a){t:T}{v:ao}(nd:c7 ah)(ht:iS ah sc tg=some t)(hc:A.handled=.none)
  (hb:dD t u J=some ρ') (er:ER ah base env J as s.heap) (gr:GR Lx base O as s.heap) (ru:Rep s.heap as u v)
  (hQ:yO Lx base ah env W as s ρ' O Q):au (model prog w) A (assign tg env v) Q E s:=by
 refine fH ht (λx hn ht=>?_) λzz ht=>aO ht λelts hn ht=>?_
 ·obtain⟨p,rfl⟩:=mQ hn
  refine aL ht λhx ht=>aZ ht λi hi e=>?_;subst e;exact Kg (Iw nd (fQ hi) (hW x hx) er gr ru (aD hb▸hQ))
 ·obtain⟨k,p,rfl⟩:=Dy hn
  refine aZ ht λis hi e=>?_;subst e;induction u using Internal.V.casesOn with
  |tup l=>
   refine aL hb λhl hb=>?_;have hQ:=aD hb▸hQ;obtain⟨a,vs,rfl,ha,hT,hr⟩:=ru;have hl:is.length=l.length:=of_decide_eq_true hl;refine wpAny_assign_Tuple hc hT ?_ (Ra hi) λh' he=>?_
   ·rw[PT,dG,hr.length,←hl,wO hi]
   ·obtain⟨f9,go'⟩:=gr.all (h':=h') λa o ha e=>he a o ha e
    have hr':=hr.go go';refine Rd (s:={s with heap:=h',toks:=s.toks}) hW Mj nd elts is l vs J hi hl (er.go go') f9 hr' ?_;intro h'' tk tU tV nj tM;refine hQ h'' tk tU tV (go'.toS.trans nj λa hq=>?_) (Df go'.ks tM);obtain⟨_,_,o,ho,_⟩:=(er.go go').held (Mj a hq);exact⟨o,ho⟩
  |_=>exact ns hb
end
structure bQ(sc:dF)(env:Env):Prop where
 var:∀x,gS sc x=true->gS env.scope x=true
 jo:∀x,gb sc x=true->gb env.scope x=true
 held:∀x,qv sc x=true->qv env.scope x=true
theorem Rc(h:gS env.scope x=true):env.kindOf x=some .local∨env.kindOf x=some .cell∨env.kindOf x=some .free:=by
 show iH env.scope x=_∨iH env.scope x=_∨iH env.scope x=_;unfold gS at h;induction q:iH env.scope x using aT with
 |none=>rw[q]at h;exact nt h
 |some k=>
  rw[q]at h;cases k with
  | «local»=>exact .inl rfl
  |cell=>exact .inr (.inl rfl)
  |free=>exact .inr (.inr rfl)
  |_=>exact nt h
theorem c5q(h:gb env.scope x=true):env.kindOf x=some .globalImplicit:=by
 show iH env.scope x=_;unfold gb at h;induction q:iH env.scope x using aT with
 |none=>rw[q]at h;exact nt h
 |some k=>
  rw[q]at h;cases k with
  |globalImplicit=>rfl
  |_=>exact nt h
section
def dj(prog:jj)(w:ji)(Lx:gj)(base:Heap)(Z:G)(n:Nat):Prop:=
 ∀(x:X) (k:Nat) (sc:dF) (e:Expr),aK Z.ah k sc e=some x->∀(A:fu) (E:ao->aC->Prop) (env:Env) (J:aB) (O:Mu) (as:List (List Addr)) (s:aC) (r:V) (ai:Mu) (Q:ao->aC->Prop),
  Rm A s n->bQ sc env->ER Z.ah base env J as s.heap->GR Lx base O as s.heap->ev Z n x J O=some (r,ai)->Post Lx base as s r ai Q->au (model prog w) A (eval e env) Q E s
def mU(Lx:gj)(base:Heap)(as:List (List Addr))(s:aC)(b:Bool)(ai:Mu)(Q:Bool->aC->Prop):Prop:=
 ∀(as':List (List Addr)) (h':Heap) (tk:Nat),GR Lx base ai as' h'->Go as s.heap as' h'->Q b {s with heap:=h',toks:=tk}
def lO(prog:jj)(w:ji)(Lx:gj)(base:Heap)(Z:G)(n:Nat):Prop:=
 ∀(x:X) (k:Nat) (sc:dF) (e:Expr),aK Z.ah k sc e=some x->∀(A:fu) (E:ao->aC->Prop) (env:Env) (J:aB) (O:Mu) (as:List (List Addr)) (s:aC) (r:V) (b:Bool) (ai:Mu) (Q:Bool->aC->Prop),
  Rm A s n->bQ sc env->ER Z.ah base env J as s.heap->GR Lx base O as s.heap->ev Z n x J O=some (r,ai)->eZ (bg ai r)=some b->mU Lx base as s b ai Q->au (model prog w) A (isTrue e env (eval e env)) Q E s
theorem Room.less(h:Room A n)(hm:m<=n):Room A m:=⟨h.calm,aV (iX hm _) h.depth,aV (iX (iJ 10 hm) _) h.units⟩
theorem Rm.less(h:Rm A s n)(hm:m<=n):Rm A s m:=⟨h.toRoom.less hm,h.tk⟩
theorem Rm.at{s':aC}(h:Rm A s n)(ht:1<=s'.toks):Rm A s' n:=⟨h.toRoom,ht⟩
theorem Rm.with{m:Sem α}{Q:α->aC->Prop}(rm:Rm A s n)(h:∀E':ao->aC->Prop,au (model prog w) A m (λa s'=>1<=s'.toks->Q a s') E' s):au (model prog w) A m Q E s:=lV rm.tk (h _)
theorem d9{x:X}(H:dj prog w Lx base Z n)(t:aK Z.ah k sc e=some x)(rm:Rm A s n)(c:bQ sc env)(er:ER Z.ah base env J as s.heap)(gr:GR Lx base O as s.heap)
  (h:ev Z n x J O=some (u,aA))
  (K:∀(v:ao) (aG:List (List Addr)) (hY:Heap) (tk:Nat),Rm A {s with heap:=hY,toks:=tk} n->GR Lx base aA aG hY->ER Z.ah base env J aG hY->Go as s.heap aG hY->Rep hY aG u v->Q v {s with heap:=hY,toks:=tk}) :
  au (model prog w) A (eval e env) Q E s:=
 rm.with λE'=>H x k sc e t A E' env J O as s u aA _ rm c er gr h λv aG hY tk g go r ht=>K v aG hY tk (rm.at ht) g (er.go go) go r
theorem qB{x:X}{Q:Bool->aC->Prop}(T:lO prog w Lx base Z n)(t:aK Z.ah k sc e=some x)(rm:Rm A s n)(c:bQ sc env)(er:ER Z.ah base env J as s.heap)(gr:GR Lx base O as s.heap)
  (h:ev Z n x J O=some (u,aA)) (hb:eZ (bg aA u)=some b)
  (K:∀(aG:List (List Addr)) (hY:Heap) (tk:Nat),Rm A {s with heap:=hY,toks:=tk} n->GR Lx base aA aG hY->Go as s.heap aG hY->Q b {s with heap:=hY,toks:=tk}) :
  au (model prog w) A (isTrue e env (eval e env)) Q E s:=
 rm.with λE'=>T x k sc e t A E' env J O as s u b aA _ rm c er gr h hb λaG hY tk g go ht=>K aG hY tk (rm.at ht) g go
theorem Post.after(hQ:Post Lx base as s r O Q)(go:Go as s.heap aG hY):Post Lx base aG {s with heap:=hY,toks:=tk} r O Q:=
 λv as' h' tk' g go' rv=>hQ v as' h' tk' g (go.trans go') rv
theorem mU.after{Q:Bool->aC->Prop}(hQ:mU Lx base as s b O Q)(go:Go as s.heap aG hY):mU Lx base aG {s with heap:=hY,toks:=tk} b O Q:=
 λas' h' tk' g go'=>hQ as' h' tk' g (go.trans go')
theorem e4v{x:X}{r:List X}{vs:List V}{G:Prop}(h:bU f (x::r) O=some (vs,ai))(k:∀v aA vr aE,f x O=some (v,aA)->bU f r aA=some (vr,aE)->v::vr=vs->aE=ai->G):G:=
 cX h λv aA h1 h=>lH h λvr aE h2 h=>sp h λe1 e2=>k v aA vr aE h1 h2 e1 e2
theorem qH{rest:List Expr}(h:fL e=true):starEach (e::rest) env=(false,eval e env)::starEach rest env:=by
 induction e using mT<;>first|rfl|exact nt h
theorem Ct(H:dj prog w Lx base Z n)(c:bQ sc env)(pos:Pos):∀(elts:List Expr) (xs:List X) (O ai:Mu) (vs:List V) (as:List (List Addr)) (s:aC) (Q:List ao->aC->Prop),
  Rm A s n->elts.all fL=true->bJ (aK Z.ah k sc) elts=some xs->ER Z.ah base env J as s.heap->GR Lx base O as s.heap->bU (λx O=>ev Z n x J O) xs O=some (vs,ai) →
  (∀(vals:List ao) (as':List (List Addr)) (h':Heap) (tk:Nat),Rm A {s with heap:=h',toks:=tk} n->GR Lx base ai as' h'->Go as s.heap as' h'->aJ h' as' vs vals->Q vals {s with heap:=h',toks:=tk}) →
  au (model prog w) A (spliced (backTo pos (starEach elts env))) Q E s:=by
 intro z_;induction z_ with
 |nil=>
  intro xs O ai vs as s Q rm _ t er gr h hQ;obtain rfl:=aD t;cases h;exact uV (hQ [] as s.heap s.toks rm gr gr.go .nil)
 |cons e r ih=>
  intro xs O ai vs as s Q rm hp t er gr h hQ;refine eY t λx xr t1 t2 t=>?_;subst t;refine e4v h λv aA vr aE h1 h2 h3 h4=>?_;subst h3 h4;refine uW (d9 H t1 rm c er gr h1 λa aG hY tk rm gI bR aM ra=>?_) (qH (aP hp));refine ih xr aA _ vr aG _ _ rm (aR hp) t2 bR gI h2 λvals cz hJ dN rm gJ cW rv=>?_;exact hQ (a::vals) cz hJ dN rm gJ (aM.trans cW) (.cons (ra.go cW) rv)
end
section
theorem dR{y x:X}{q:V×Mu}(e:y=x)(h:ev Z n x J O=some q):ev Z n y J O=some q:=e▸h
theorem jS{a:V}(h:some (a,O)=some (r,ai))(hQ:Post Lx base as s r ai Q):Post Lx base as s a O Q:=by cases h;exact hQ
theorem rK{f:α->V}{x:Option α}{G:Prop}(h:x.map (λa=>(f a,O))=some (r,ai))(hQ:Post Lx base as s r ai Q)(k:∀a,x=some a->Post Lx base as s (f a) O Q->G):G:=by
 induction x using aT with
 |none=>exact ns h
 |some a=>exact k a rfl (jS h hQ)
theorem e8o{c:Const}{kk:Nat}(t:NT c=some v)(ht:1<=s.toks)(gr:GR Lx base O as s.heap)(hQ:Post Lx base as s v O Q):au (model prog w) A (eval (.Constant c kk pos) env) Q E s:=by
 cases c with
 |none=>exact wpAny_Constant_none ((hQ.eq t).now gr rfl)
 |bool _=>exact wpAny_Constant_bool ((hQ.eq t).now gr rfl)
 |int _=>exact El ((hQ.eq t).now gr ⟨_,rfl⟩)
 |float _=>exact wpAny_Constant_float ((hQ.eq t).now gr ⟨_,rfl,ht⟩)
 |str _=>exact Ek ((hQ.eq t).now gr ⟨_,rfl⟩)
 |_=>exact ns t
theorem Hy       (hd:(x==("__debug__":Str)||x==("__classdict__":Str))=false) (hv:gS sc x=true) (hi:nid Z.ah x=some i) (c:bQ sc env) (er:ER Z.ah base env J as s.heap) (gr:GR Lx base O as s.heap)
  (h:J.lookup i=some v) (hQ:Post Lx base as s v O Q):au (model prog w) A (eval (.Name x pos) env) Q E s:=by
 rw[J3]at hd;refine pZ ?_ hd.1;have hx:=fQ hi;rcases Rc (c.var x hv)with hk|hk|hk
 ·obtain⟨m,hn,hl⟩:=er.loc
  obtain⟨u,h1,h2⟩:=hl i x v hx hk h;exact uU er.kind hk hn h1 (hQ.now gr h2)
 ·obtain⟨cc,u,h3,_,_,h6,h7⟩:=er.jr i x hx (.inl hk)
  obtain⟨u',rfl,hr⟩:=h7 v h;exact Ke er.kind hk h3 h6 (hQ.now gr hr)
 ·obtain⟨cc,u,h3,_,_,h6,h7⟩:=er.jr i x hx (.inr hk)
  obtain⟨u',rfl,hr⟩:=h7 v h;exact Kd er.kind hk h3 h6 (hQ.now gr hr) hd.2
theorem qC   {v:ao}  (hd:(x==("__debug__":Str))=false) (hv:gb sc x=true) (c:bQ sc env) (er:ER Z.ah base env J as s.heap)  (gr:GR Lx base O as s.heap) (g:cO prog w base x v)
  (hQ:Q v s):au (model prog w) A (eval (.Name x pos) env) Q E s:=
 Name_function_global er.kind (c5q (c.jo x hv)) (g env A E s Q er.glob er.uf gr.keep hQ) hd
theorem C9{x y:X}{f:Expr}(H:dj prog w Lx base Z n)(t1:aK Z.ah k sc e=some x)(t2:aK Z.ah k sc f=some y)(rm:Rm A s n)(c:bQ sc env)(er:ER Z.ah base env J as s.heap)(gr:GR Lx base O as s.heap)
  (h1:ev Z n x J O=some (u,aA)) (h2:ev Z n y J aA=some (v,aE)) {P:ao->ao->aC->Prop}
  (K:∀(a b:ao) (aG:List (List Addr)) (hY:Heap) (tk:Nat),Rm A {s with heap:=hY,toks:=tk} n->GR Lx base aE aG hY->ER Z.ah base env J aG hY->Go as s.heap aG hY->Rep hY aG u a->Rep hY aG v b->P a b {s with heap:=hY,toks:=tk}) :
  au (model prog w) A (eval e env) (λa sI=>au (model prog w) A (eval f env) (λb sJ=>P a b sJ) E sI) E s:=
 d9 H t1 rm c er gr h1 λa aG hY tk rm gI bR aM ra=>d9 H t2 rm c bR gI h2 λb cz hJ dN rm gJ bI cW rb=>
  K a b cz hJ dN rm gJ bI (aM.trans cW) (ra.go cW) rb
theorem Y3{x:X}(t:aK Z.ah k sc e=some x):¬e.ctorIdx=7:=λq=>by
 revert t;exact g3r e q λzz zz zz t=>by cases k<;>exact ns t
theorem PK{x:X}{op:pX}(t:aK Z.ah k sc e=some x):behindInMarks op e=false:=by
 have t:=Y3 t;induction e using mT with
 |Set elts kk pos=>exact absurd rfl t
 |_=>exact J1 false
theorem e7d{v:ao}(h:¬e.ctorIdx=7):foldedSetIterable e env v=pure v:=by
 generalize hq:(pure v:Sem ao)=q;induction e using mT with
 |Set elts kk pos=>exact absurd rfl h
 |_=>exact hq
theorem e5j(H:dj prog w Lx base Z n)(c:bQ sc env)(pos:Pos):∀(elts:List Expr) (xs:List X) (O ai:Mu) (r:V) (as:List (List Addr)) (s:aC) (Q:ao->aC->Prop),
  Rm A s n->bJ (aK Z.ah k sc) elts=some xs->ER Z.ah base env J as s.heap->GR Lx base O as s.heap->rF (λx O=>ev Z n x J O) xs O=some (r,ai)->Post Lx base as s r ai Q →
  au (model prog w) A (eval (.BoolOp .And elts pos) env) Q E s:=by
 intro z_;induction z_ with
 |nil=>
  intro xs O ai r as s Q rm t er gr h hQ;obtain rfl:=aD t;exact ns h
 |cons e z_ ih=>induction z_ using aN with
  |nil=>
   intro xs O ai r as s Q rm t er gr h hQ;refine eY t λx xr t1 t2 e'=>?_;obtain rfl:=aD t2;subst e';exact BoolOp_one (H x k sc e t1 A E env J O as s r ai Q rm c er gr h hQ)
  |cons e2 dI=>
   intro xs O ai r as s Q rm t er gr h hQ;refine eY t λx xr t1 t2 e'=>eY t2 λy ys zz zz t8=>?_;subst t8 e';exact cX h λv aA h1 h=>BoolOp_and (d9 H t1 rm c er gr h1 λa aG hY tk rm gI bR aM ra=>qg h
    (λhb h=>rm.with λzz=>wL hb (gG gI ra) λtk' ht=>ih (y::ys) aA ai r aG _ Q (rm.at ht) t2 bR gI h (hQ.after aM))
    λhb h=>wL hb (gG gI ra) λtk'=>jS h hQ a aG hY tk' gI aM ra)
theorem e9d(H:dj prog w Lx base Z n)(c:bQ sc env)(pos:Pos):∀(elts:List Expr) (xs:List X) (O ai:Mu) (r:V) (as:List (List Addr)) (s:aC) (Q:ao->aC->Prop),
  Rm A s n->bJ (aK Z.ah k sc) elts=some xs->ER Z.ah base env J as s.heap->GR Lx base O as s.heap->p9 (λx O=>ev Z n x J O) xs O=some (r,ai)->Post Lx base as s r ai Q →
  au (model prog w) A (eval (.BoolOp .Or elts pos) env) Q E s:=by
 intro z_;induction z_ with
 |nil=>
  intro xs O ai r as s Q rm t er gr h hQ;obtain rfl:=aD t;exact ns h
 |cons e z_ ih=>induction z_ using aN with
  |nil=>
   intro xs O ai r as s Q rm t er gr h hQ;refine eY t λx xr t1 t2 e'=>?_;obtain rfl:=aD t2;subst e';exact BoolOp_one (H x k sc e t1 A E env J O as s r ai Q rm c er gr h hQ)
  |cons e2 dI=>
   intro xs O ai r as s Q rm t er gr h hQ;refine eY t λx xr t1 t2 e'=>eY t2 λy ys zz zz t8=>?_;subst t8 e';exact cX h λv aA h1 h=>BoolOp_or (d9 H t1 rm c er gr h1 λa aG hY tk rm gI bR aM ra=>qg h
    (λhb h=>wL hb (gG gI ra) λtk'=>jS h hQ a aG hY tk' gI aM ra)
    λhb h=>rm.with λzz=>wL hb (gG gI ra) λtk' ht=>ih (y::ys) aA ai r aG _ Q (rm.at ht) t2 bR gI h (hQ.after aM))
theorem Ru{slice:Expr}(hs:¬slice.ctorIdx=26)(o i:ao):subscripted slice false o i=operate [o,i] (getItem o i):=by
 generalize hq:operate [o,i] (getItem o i)=q;induction slice using mT with
 |Slice _ _ _ _=>exact absurd rfl hs
 |_=>exact hq
theorem Z2{value slice:Expr}{a b:ao}{ops:List ao}(hi:item u v=some r)(ra:fT s.heap as u a)(rb:Rep s.heap as v b)(gr:GR Lx base O as s.heap)(hs:subscripted slice false a b=operate ops (getItem a b))
  (hQ:Post Lx base as s r O Q):au (model prog w) A (subscriptTail value slice a b) Q E s:=by
 have hg:=OX (prog:=prog) (w:=w) (A:=A) (E:=E) hi ra rb gr hQ;induction u using Internal.V.casesOn with
 |lst l=>
  obtain⟨a,vs,rfl,hp,_⟩:=ra;exact tail_any hp.isList.typeIs TP.lookup hg hs
 |tup l=>
  obtain⟨a,vs,rfl,_,hp,_⟩:=ra;exact tail_any hp.typeIs TN.lookup hg hs
 |str l=>
  obtain⟨_,rfl⟩:=ra;exact tail_any (typeIs_str _ _ _) slot_str_getitem.lookup hg hs
 |_=>induction v using Internal.V.casesOn<;>exact ns hi
theorem O0{l:List (Int×V)}{G:Prop}(h:oW O u=some l)(k:∀j,u=.mut j->O[j]?=some (.dict l)->G):G:=by
 induction u using Internal.V.casesOn with
 | «mut» j=>
  have h:(match (generalizing:=false) O[j]? with|some (.dict l)=>some l|_=>.none)=some l:=h
  induction e:O[j]? using aT with
  |none=>rw[e]at h;exact ns h
  |some m=>
   rw[e]at h;induction m using Internal.M.casesOn with
   |dict l'=>exact k j rfl (e.trans (congrArg (λl=>some (M.dict l)) (aD h)))
   |_=>exact ns h
 |_=>exact ns h
theorem QD{k:Int}:∀{l:List (Int×V)}{vs:List ao},aJ h as (l.map (·.2)) vs->l.lookup k=some v->∃u,oJ l vs k=some u/\Rep h as v u:=by
 intro l;induction l with
 |nil=>exact λzz e=>ns e
 |cons p l ih=>
  intro vs r e;obtain⟨u,us,rfl,r1,r2⟩:=r;unfold oJ;rw[fm,JJ,ek];rw[show p=(p.1,p.2)from rfl,ek]at e;induction q:k==p.1 using eo with
  |true=>rw[q]at e;exact⟨u,rfl,aD e▸r1⟩
  |false=>rw[q]at e;exact ih r2 e
theorem e6g{value slice:Expr}{a b:ao}{ops:List ao}(hi:vP O u v=some r)(ra:Rep s.heap as u a)(rb:Rep s.heap as v b)(gr:GR Lx base O as s.heap)(hs:subscripted slice false a b=operate ops (getItem a b))
  (hQ:Post Lx base as s r O Q):au (model prog w) A (subscriptTail value slice a b) Q E s:=
 fH hi (λq h1 h=>Z2 (h1.trans h) (gG gr ra) rb gr hs hQ) λzz h=>by
  induction v using Internal.V.casesOn with
  |int k=>
   refine aO h λl hd hl=>O0 hd λj e1 e2=>?_;subst e1;obtain⟨a',rs,e3,rfl⟩:=ra;obtain⟨t,rfl⟩:=rb;obtain⟨a2,vs,e4,hm,hr⟩:=gr.dQ j _ _ e2 e3;cases e4;obtain⟨x,hx,rx⟩:=QD hr hl;exact tail_any hm.1.typeIs slot_dict_getitem.lookup (wpAny_getItem_intMap hm.1 hx (hQ.now gr rx)) hs
  |_=>exact ns h
theorem d9o {d:Addr}{e:Obj}{es es':Array tw}{ep Gv:Nat}  (ho:s.heap.get? a=some o) (hc:o.cls=.type "dict") (hd:o.data=.dict es ep) (he:s.heap.get? d=some e) (hce:e.cls=.type "dict") (Vp:e.data=.dict es' Gv) (hn:(es.size != es'.size)=true)
  (ha:(a==sysModules)=false) (hb:(d==sysModules)=false) (hu:A.units<cLine) (h:Q (.bool true) s):au (model prog w) A (compareOp .NotEq (.ref a) (.ref d)) Q E s:=by
 show au (model prog w) A (richCompare .NotEq (.ref a) (.ref d)) Q E s;have ta:s.TypeIs (.ref a) "dict":=⟨o,ho,hc⟩
 have td:s.TypeIs (.ref d) "dict":=⟨e,he,hce⟩
 refine wpAny_richCompare_same_room ta td F.slot_dict_ne (qY F.slot_dict_ne ta F.entry_dict_ne ?_ (F.args_dict_ne_2 _ _)) hu;show au _ _ (g7b "__ne__" _ >>= _) _ _ s
 unfold g7b;refine aI (aI (wpAny_notOrdered_dict ta (aI (bF (bF ?_)))));refine aI (Eh td isSubtype_dict_dict ?_);refine aI (bF (aI (bF ?_)));refine aI ?_;unfold m6.Dict.samePairs m6.Dict.showsAll;rw[if_neg (by rw[ha];exact gP),if_neg (by rw[hb];exact gP)];refine aI (bF (aI (bF ?_)));refine aI (To ho hd (aI (To he Vp ?_)));rw[if_pos hn];refine aI (tE (bF ?_));exact bF ⟨_,rfl,by decide,h⟩
end
section
theorem Et{a:V}{c:Bool}{Q:Bool->aC->Prop}(h:some (a,O)=some (r,ai))(h1:eZ (bg O a)=some c)(hb:eZ (bg ai r)=some b)(hQ:mU Lx base as s b ai Q):mU Lx base as s c O Q:=by
 cases h;cases h1.symm.trans hb;exact hQ
theorem c8q(H:dj prog w Lx base Z n)(T:lO prog w Lx base Z n)(c:bQ sc env):∀(elts:List Expr) (xs:List X) (O ai:Mu) (r:V) (b:Bool) (as:List (List Addr)) (s:aC) (Q:Bool->aC->Prop),
  Rm A s n->bJ (aK Z.ah k sc) elts=some xs->ER Z.ah base env J as s.heap->GR Lx base O as s.heap->rF (λx O=>ev Z n x J O) xs O=some (r,ai)->eZ (bg ai r)=some b->mU Lx base as s b ai Q →
  au (model prog w) A (allTrue .And elts env) Q E s:=by
 intro z_;induction z_ with
 |nil=>
  intro xs O ai r b as s Q rm t er gr h hb hQ;obtain rfl:=aD t;exact ns h
 |cons e z_ ih=>induction z_ using aN with
  |nil=>
   intro xs O ai r b as s Q rm t er gr h hb hQ;refine eY t λx xr t1 t2 e'=>?_;obtain rfl:=aD t2;subst e';refine Kl (T x k sc e t1 A E env J O as s r b ai _ rm c er gr h hb λas' h' tk g go=>?_);induction b using eo with
   |true=>exact wpAny_allTrue_And_nil (hQ as' h' tk g go)
   |false=>exact hQ as' h' tk g go
  |cons e2 dI=>
   intro xs O ai r b as s Q rm t er gr h hb hQ;refine eY t λx xr t1 t2 e'=>eY t2 λy ys zz zz t8=>?_;subst t8 e';exact cX h λv aA h1 h=>qg h
    (λhb1 h=>Kl (qB T t1 rm c er gr h1 hb1 λas' h' tk rm g go=>ih (y::ys) aA ai r b as' _ Q rm t2 (er.go go) g h hb (hQ.after go)))
    λhb1 h=>Kl (T x k sc e t1 A E env J O as s v false aA _ rm c er gr h1 hb1 λas' h' tk g go=>Et h hb1 hb hQ as' h' tk g go)
theorem d6r(H:dj prog w Lx base Z n)(T:lO prog w Lx base Z n)(c:bQ sc env):∀(elts:List Expr) (xs:List X) (O ai:Mu) (r:V) (b:Bool) (as:List (List Addr)) (s:aC) (Q:Bool->aC->Prop),
  Rm A s n->bJ (aK Z.ah k sc) elts=some xs->ER Z.ah base env J as s.heap->GR Lx base O as s.heap->p9 (λx O=>ev Z n x J O) xs O=some (r,ai)->eZ (bg ai r)=some b->mU Lx base as s b ai Q →
  au (model prog w) A (allTrue .Or elts env) Q E s:=by
 intro z_;induction z_ with
 |nil=>
  intro xs O ai r b as s Q rm t er gr h hb hQ;obtain rfl:=aD t;exact ns h
 |cons e z_ ih=>induction z_ using aN with
  |nil=>
   intro xs O ai r b as s Q rm t er gr h hb hQ;refine eY t λx xr t1 t2 e'=>?_;obtain rfl:=aD t2;subst e';refine Kh (T x k sc e t1 A E env J O as s r b ai _ rm c er gr h hb λas' h' tk g go=>?_);induction b using eo with
   |true=>exact hQ as' h' tk g go
   |false=>exact wpAny_allTrue_Or_nil (hQ as' h' tk g go)
  |cons e2 dI=>
   intro xs O ai r b as s Q rm t er gr h hb hQ;refine eY t λx xr t1 t2 e'=>eY t2 λy ys zz zz t8=>?_;subst t8 e';exact cX h λv aA h1 h=>qg h
    (λhb1 h=>Kh (T x k sc e t1 A E env J O as s v true aA _ rm c er gr h1 hb1 λas' h' tk g go=>Et h hb1 hb hQ as' h' tk g go))
    λhb1 h=>Kh (qB T t1 rm c er gr h1 hb1 λas' h' tk rm g go=>ih (y::ys) aA ai r b as' _ Q rm t2 (er.go go) g h hb (hQ.after go))
noncomputable def zu(e:Expr):Bool:=if h:e.ctorIdx=3 then g3p e h λop zz zz=>op != .Not else !(e.ctorIdx==0||e.ctorIdx==5||e.ctorIdx==15)
noncomputable def Oi(whole:Sem ao)(p:Pos):Sem Bool:=do let v ←whole;standAt p;holding [v] (truthy v)
theorem d1z(h:zu e=true):isTrue e env whole=Oi whole e.pos:=by
 induction e using mT with
 |UnaryOp op x p=>cases op<;>first|rfl|exact nt h
 |_=>first|exact J1 (Oi whole _)|exact nt h
theorem c9q{P:Expr->Prop}(h:¬zu e=true)(k1:∀a p,P (.UnaryOp .Not a p))(k2:∀op l p,P (.BoolOp op l p))(k3:∀a b c p,P (.IfExp a b c p))(k4:∀l o r p,P (.Compare l o r p)):P e:=
 if q:e.ctorIdx=3 then g3p (motive_1:=λe=>¬zu e=true->P e) e q (λop a p h=>by
  have e:op=.Not:=g6u λn=>h (bne_iff_ne.mpr n);exact e▸k1 a p) h
 else if q0:e.ctorIdx=0 then g7r e q0 k2
 else if q5:e.ctorIdx=5 then g7o e q5 k3
 else if KV:e.ctorIdx=15 then g7q e KV k4
 else absurd ((dif_neg q).trans (by rw[beq_false_of_ne q0,beq_false_of_ne q5,beq_false_of_ne KV];rfl)) h
theorem c6o{x:X}{Q:Bool->aC->Prop}(H:dj prog w Lx base Z n)(hp:zu e=true)(t:aK Z.ah k sc e=some x)(rm:Rm A s n)(c:bQ sc env)(er:ER Z.ah base env J as s.heap)(gr:GR Lx base O as s.heap)
  (h:ev Z n x J O=some (r,ai)) (hb:eZ (bg ai r)=some b) (hQ:mU Lx base as s b ai Q):au (model prog w) A (isTrue e env (eval e env)) Q E s:=
 isTrue_plain (d9 H t rm c er gr h λa aG hY tk rm gI bR aM ra=>wL hb (gG gI ra) λtk'=>hQ aG hY tk' gI aM) (d1z hp)
theorem C5(rm:Rm A s n):A.units<=9500:=aV (aV (gZ _ _) rm.units) (nb rfl)
theorem I6{c:Bool}(h:eZ (bg O (.bool b))=some c):c=b:=(aD h).symm
noncomputable def Cc(l:List (List Nat×Int)):List (nO×nO):=l.map λp=>(.str ⟨p.1.toArray⟩,.int p.2)
theorem Rf(x:List Nat):∀l:List (List Nat×Int),Spec.lookup (.str ⟨x.toArray⟩) (Cc l)=(l.lookup x).map .int:=by
 intro z_;induction z_ with
 |nil=>
  exact rfl
 |cons iL r ih=>
  obtain⟨a,b⟩:=iL;show(if Spec.same (.str ⟨a.toArray⟩) (.str ⟨x.toArray⟩)=true then some (RZ b)else Spec.lookup (.str ⟨x.toArray⟩) (Cc r))=_;rw[ek,ih,Spec.same];by_cases h:x=a
  ·subst h;simp
  ·have h1:(x==a)=false:=by simpa using h
   have h2:((⟨a.toArray⟩:Str)==⟨x.toArray⟩)=false:=by
    rw[beq_eq_false_iff_ne];intro q
    injection q with q
    exact h (by simpa using congrArg Array.toList q.symm)
   rw[h1,h2];rfl
theorem QT {a:Expr}{g:Str} (h:F9 sc a=some g):∃p,a=.Name g p/\gb sc g=true/\(g==("__debug__":Str))=false:=by
 refine aO h λx hx h=>aL h λhq h9=>?_;obtain⟨p,hE⟩:=mQ hx;obtain rfl:=aD h9;exact⟨p,hE,aP hq,kM (aR hq)⟩
theorem Nf{r:α}{G:Prop}{e:Option (V×Mu)}{e':Option (List (List Nat×Int))}{f:List Nat->Mu->List (List Nat×Int)->Option α}(h:(match e,e' with|some (.str i,O),some l=>f i O l|_,_=>.none)=some r)(k:∀i O l,e=some (.str i,O)->e'=some l->f i O l=some r->G):G:=by
 induction e using aT with
 |none=>exact ns h
 |some p=>cases p with|mk v O=>induction v using Internal.V.casesOn<;>first|exact ns h|(cases e' with|none=>exact ns h|some l=>exact k _ _ _ rfl rfl h)
theorem d5t{r:Expr}:Ly r=true->∃p,r=.Dict [] [] p:=
 if q:r.ctorIdx=6 then g3t r q λzz zz p h=>⟨p,by rw[D5.mp (aP h),D5.mp (aR h)]⟩else λh=>nt ((dif_neg q).symm.trans h)
theorem Yn{op:pX}(h:(op==.NotEq)=true):op=.NotEq:=by cases op<;>first|rfl|exact nt h
theorem d1u   {l:List (Int×V)}   (hm:h.IntMap a (oJ l vs)) (hr:aJ h as (l.map (·.2)) vs) (hl:l.isEmpty=false):∃o es ep,h.get? a=some o/\o.cls=.type "dict" /\ o.data=.dict es ep/\(es.size != 0)=true:=by
 obtain⟨o,es,ep,ho,hc,hd,_,hf⟩:=hm;refine⟨o,es,ep,ho,hc,hd,?_⟩;induction l using aN with
 |nil=>exact nt hl.symm
 |cons p l=>
  obtain⟨u,hu,_⟩:=QD (k:=p.1) (v:=p.2) hr (by rw[show p=(p.1,p.2)from rfl,ek,beq_self_eq_true]);have:=(hf p.1).trans hu;refine bne_iff_ne.mpr λq=>?_;rw[Array.eq_empty_of_size_eq_zero q]at this;exact ns this
theorem IT(S:cj prog w Lx base Z){x:X}{l r:Expr}{op:pX}{P:ao->aC->Prop}(H:dj prog w Lx base Z n)(t:aK Z.ah (k+1) sc (.Compare l [op] [r] pos)=some x)(rm:Rm A s (n+1))(c:bQ sc env)(er:ER Z.ah base env J as s.heap)(gr:GR Lx base O as s.heap)
  (h:ev Z (n+1) x J O=some (v,ai)) (hQ:Post Lx base as s v ai P) :
  behindInMarks op r=false/\(∃b,v=.bool b)/\au (model prog w) A (eval l env) (λa sI=>au (model prog w) A (eval r env) (λb sJ=>au (model prog w) A (compareOp op a b) P E sJ) E sI) E s:=by
 have bk:=rm.less (iA n);refine bZ t (λhE t=>aL t λhop t=>aZ t λy t1 e=>cX (dR e h) λu aA h1 h=>aO h λl hl h=>jT h λhle h9=>?_) λzz t=>fH t (λg hg t'=>?_) λzz t=>aO t λy t1 t=>aZ t λz t2 e=>cX (dR e h) λu aA h1 h=>cX h λu2 aE h2 h=>aZ h λb hb h=>?_
 ·obtain rfl:=Yn hop
  obtain⟨p,rfl⟩:=d5t hE;refine⟨rfl,⟨_,(congrArg sG (aD h9)).symm⟩,d9 H t1 bk c er gr h1 λa aG hY tk bk gI bR aM ra=>wpAny_Dict_empty ?_⟩;refine O0 hl λj e1 e2=>?_;subst e1;obtain⟨a',rs,e3,rfl⟩:=ra;obtain⟨a2,vs,e4,hm,hr⟩:=gI.dQ j _ _ e2 e3;cases e4;obtain⟨o,es,ep,ho,hc,hd,hz⟩:=d1u hm.1 hr (jA.mpr hle);obtain⟨om,L1⟩:=S.sysm;refine d9o (s:={s with heap:=hY.push _,toks:=tk}) (cB _ ho) hc hd (fq _ rfl) rfl rfl hz (beq_false_of_ne λq=>?_) (beq_false_of_ne λq=>?_) (ck (C5 rm) (nb rfl)) ?_
  ·have:=gI.fresh a' (gO.mpr ⟨_,g6 e3,As a'⟩)
   rw[q,L1]at this;exact ns this.symm
  ·have:=fM (gI.keep _ _ L1)
   exact absurd this (by show ¬ sysModules<hY.objs.size;rw[←q];exact mV _)
  ·exact jS h9 hQ _ aG _ _ (gI.push _) ⟨aM.ext,(aM.push _).keep,(aM.push _).alive⟩ rfl
 ·cases op with
  |In=>
   obtain⟨p,rfl,Fd,Fg⟩:=QT hg;refine aO t' λy t1 t=>aZ t λi hi e=>Nf (dR e h) λx aA l' h1 hd h=>⟨rfl,⟨_,(congrArg sG (aD h)).symm⟩,d9 H t1 bk c er gr h1 λa aG hY tk bk gI bR aM ra=>?_⟩;obtain⟨g',ad,hx,gn,tab⟩:=S.lE i l' hd;cases (fQ hi).symm.trans hx;refine qC Fg Fd c bR gI gn ?_;obtain⟨tt,rfl⟩:=ra;refine in_strTab (D:=Cc l') (tab.keep gI.keep) ?_;rw[Rf];have e:((l'.lookup x).map RZ).isSome=(l'.lookup x).isSome:=by cases l'.lookup x<;>rfl
   rw[e];exact jS h hQ _ aG hY _ gI aM rfl
  |_=>exact ns hg
 ·have hQ:=jS (congrArg some h) hQ
  exact⟨PK t2,⟨b,(congrArg sG h).symm⟩,C9 H t1 t2 bk c er gr h1 h2 λa b aG hY tk bk gI bR aM ra rb=>zU hb (gG gI ra) (gG gI rb) (C5 rm) S.booked gI (hQ.after aM)⟩
theorem Pb{x:X}{l r1 r2:Expr}{G:Prop}(t:aK Z.ah (k+1) sc (.Compare l [o1,o2] [r1,r2] pos)=some x)(h:ev Z (n+1) x J O=some (v,ai))
  (K:∀y z z2 u u2 aA aE b1,aK Z.ah k sc l=some y->aK Z.ah k sc r1=some z->aK Z.ah k sc r2=some z2->ev Z n y J O=some (u,aA)->ev Z n z J aA=some (u2,aE)->cR o1 (bg aE u) (bg aE u2)=some b1 →
   ((b1=false/\.bool false=v/\aE=ai)∨(b1=true/\∃u3 b,ev Z n z2 J aE=some (u3,ai)/\cR o2 (bg ai u2) (bg ai u3)=some b/\.bool b=v))->G):G:=
 aO t λy t1 t=>aO t λz t2 t=>aZ t λz2 t3 e=>cX (dR e h) λu aA h1 h=>cX h λu2 aE h2 h=>qg h
  (λhb h=>K y z z2 u u2 aA aE true t1 t2 t3 h1 h2 hb (.inr ⟨rfl,cX h λu3 bS h3 h=>aZ h λb hb2 h=>by
   obtain rfl:=congrArg DS h;exact⟨u3,b,h3,hb2,congrArg sG h⟩⟩))
  λhb h=>K y z z2 u u2 aA aE false t1 t2 t3 h1 h2 hb (.inl ⟨rfl,congrArg sG (aD h),congrArg DS (aD h)⟩)
theorem Oz{e1 e2:Expr}{y z:X}(t2:aK Z.ah k sc e2=some z):lastMarks [o1,o2] [e1,e2]=false:=PK t2
theorem c8n{x:X}{l r1 r2:Expr}{Q:Bool->aC->Prop}(yr:qL base)(H:dj prog w Lx base Z n)(t:aK Z.ah (k+1) sc (.Compare l [o1,o2] [r1,r2] pos)=some x)(rm:Rm A s (n+1))(c:bQ sc env)(er:ER Z.ah base env J as s.heap)(gr:GR Lx base O as s.heap)
  (h:ev Z (n+1) x J O=some (v,ai)) (hb:eZ (bg ai v)=some b) (hQ:mU Lx base as s b ai Q):au (model prog w) A (isTrue (.Compare l [o1,o2] [r1,r2] pos) env whole) Q E s:=by
 have bk:=rm.less (iA n);have hu:=C5 rm;refine Pb t h λy z z2 u u2 aA aE b1 t1 t2 t3 h1 h2 hb1 hr=>?_;refine isTrue_chain (d9 H t1 bk c er gr h1 λa aG hY dh bk gI bR aM ra=>test_link (d9 H t2 bk c bR gI h2 λa2 cz hJ dN bk gJ bI cW rb=>?_)) (Oz (y:=y) t3);refine bk.with λzz=>zU (O:=aE) (as:=cz) hb1 (gG gJ (ra.go cW)) (gG gJ rb) hu yr gJ λv3 qo h₃ nY gT di r3 E2=>?_;cases r3;refine xN ?_;rcases hr with⟨rfl,rfl,rfl⟩|⟨rfl,u3,b2,h3,hb2,rfl⟩
 ·have:=I6 hb;subst this
  exact hQ qo h₃ nY gT ((aM.trans cW).trans di)
 ·have:=I6 hb;subst this
  refine test_last (d9 H t3 (bk.at E2) c ((bI.go di)) gT h3 λa4 iF hU jR zz gU kK jn rc=>?_);refine zU (as:=iF) hb2 (gG gU ((rb.go di).go jn)) (gG gU rc) hu yr gU λv5 I1 h₅ Eo gM vg r5=>?_;cases r5;exact xN (hQ I1 h₅ Eo gM (((aM.trans cW).trans di).trans (jn.trans vg)))
theorem d4z{x:X}{l r1 r2:Expr}(yr:qL base)(H:dj prog w Lx base Z n)(t:aK Z.ah (k+1) sc (.Compare l [o1,o2] [r1,r2] pos)=some x)(rm:Rm A s (n+1))(c:bQ sc env)(er:ER Z.ah base env J as s.heap)(gr:GR Lx base O as s.heap)
  (h:ev Z (n+1) x J O=some (v,ai)) (hQ:Post Lx base as s v ai Q):au (model prog w) A (eval (.Compare l [o1,o2] [r1,r2] pos) env) Q E s:=by
 have bk:=rm.less (iA n);have hu:=C5 rm;refine Pb t h λy z z2 u u2 aA aE b1 t1 t2 t3 h1 h2 hb1 hr=>?_;refine Compare_chain (d9 H t1 bk c er gr h1 λa aG hY dh bk gI bR aM ra=>chain_link (d9 H t2 bk c bR gI h2 λa2 cz hJ dN bk gJ bI cW rb=>?_)) (Oz (y:=y) t3);refine bk.with λzz=>zU (O:=aE) (as:=cz) hb1 (gG gJ (ra.go cW)) (gG gJ rb) hu yr gJ λv3 qo h₃ nY gT di r3 E2=>?_;cases r3;refine xN ?_;rcases hr with⟨rfl,rfl,rfl⟩|⟨rfl,u3,b2,h3,hb2,rfl⟩
 ·exact hQ _ qo h₃ nY gT ((aM.trans cW).trans di) rfl
 ·refine chain_last (d9 H t3 (bk.at E2) c ((bI.go di)) gT h3 λa4 iF hU jR zz gU kK jn rc=>?_)
  refine zU (as:=iF) hb2 (gG gU ((rb.go di).go jn)) (gG gU rc) hu yr gU λv5 I1 h₅ Eo gM vg r5=>?_;exact hQ _ I1 h₅ Eo gM (((aM.trans cW).trans di).trans (jn.trans vg)) r5
theorem c7v(S:cj prog w Lx base Z)(n:Nat)(H:dj prog w Lx base Z n)(H1:dj prog w Lx base Z (n+1))(T:lO prog w Lx base Z n):lO prog w Lx base Z (n+1):=by
 intro x k sc e t A E env J O as s r b ai Q rm c er gr h hb hQ;have bk:=rm.less (iA n);by_cases hp:zu e=true
 ·exact c6o H1 hp t rm c er gr h hb hQ
 induction k using eG with
 |zero=>exact ns t
 |succ k=>
  refine c9q (P:=λe=>aK Z.ah (k+1) sc e=some x->au (model prog w) A (isTrue e env (eval e env)) Q E s) hp (λe1 p t=>?_) (λop elts p t=>?_) (λe0 e1 e2 p t=>?_) (λl ops rs p t=>?_) t
  ·exact aZ t λy t e=>cX (dR e h) λv aA h1 h=>aZ h λb1 hb1 h=>isTrue_not (T y k sc e1 t A E env J O as s v b1 _ _ bk c er gr h1 hb1 (Et (c:=!b1) (Q:=Q) (congrArg some h) rfl hb hQ:mU Lx base as s (!b1) _ Q))
  ·rw[arm_isTrue_BoolOp]
   cases op with
   |And=>exact aZ t λxs t e=>c8q H T c elts xs O ai r b as s Q bk t er gr (dR e h) hb hQ
   |Or=>exact aZ t λxs t e=>d6r H T c elts xs O ai r b as s Q bk t er gr (dR e h) hb hQ
  ·exact aO t λy0 t0 t=>aO t λy1 t1 t=>aZ t λy2 t2 e=>cX (dR e h) λv aA h1 h=>qg h
    (λhb1 h=>isTrue_IfExp (qB T t0 bk c er gr h1 hb1 λas' h' tk bk g go=>T y1 k sc e1 t1 A E env J aA as' _ r b ai Q bk c (er.go go) g h hb (hQ.after go)))
    λhb1 h=>isTrue_IfExp (qB T t0 bk c er gr h1 hb1 λas' h' tk bk g go=>T y2 k sc e2 t2 A E env J aA as' _ r b ai Q bk c (er.go go) g h hb (hQ.after go))
  ·refine fH t (λr1 hr t1=>aO t1 λo1 ho zz=>?_) λzz t1=>aO t1 λr1 hr t1=>aO t1 λo1 ho zz=>?_
   ·rw[pe hr,pe ho]at t ⊢
    obtain⟨hm,⟨b',rfl⟩,_⟩:=IT (P:=λzz zz=>True) (E:=E) (A:=A) S H t rm c er gr h λzz zz zz zz zz zz zz=>trivial;have:=I6 hb;subst this;refine wpAny_isTrue_Compare1 (IT (E:=E) (A:=A) S H t rm c er gr h λv aG hY tk gI aM rv=>?_).2.2 hm;cases rv;exact xN (hQ aG hY tk gI aM)
   ·rw[wu hr,wu ho]at t ⊢
    exact c8n S.booked H t rm c er gr h hb hQ
end
section
theorem zT(pos:Pos):∀{elts:List Expr},elts.all fL=true->(backTo pos (starEach elts env)).any (·.1)=false:=by
 intro z_;induction z_ with
 |nil=>
  intro _;exact rfl
 |cons e r ih=>
  intro h;rw[D8,jm]at h;rw[qH h.1];show(((false,eval e env):Bool×Sem ao)::backTo pos (starEach r env)).any (·.1)=false;rw[g5w,ih h.2];rfl
theorem DC{f:ao}{vs:List V}{Q:Args->aC->Prop}(H:dj prog w Lx base Z n)(rm:Rm A s n)(c:bQ sc env)(hp:elts.all fL=true)(t:bJ (aK Z.ah k sc) elts=some xs)
  (er:ER Z.ah base env J as s.heap) (gr:GR Lx base O as s.heap) (h:bU (λx O=>ev Z n x J O) xs O=some (vs,ai))
  (K:∀(vals:List ao) (as':List (List Addr)) (h':Heap) (tk:Nat),Rm A {s with heap:=h',toks:=tk} n->GR Lx base ai as' h'->Go as s.heap as' h'->aJ h' as' vs vals->Q ⟨vals,[]⟩ {s with heap:=h',toks:=tk}) :
  au (model prog w) A (evalArgs f true (backTo pos (starEach elts env)) []) Q E s:=by
 induction elts using aN with
 |nil=>
  obtain rfl:=aD t;refine sp h ?_;rintro rfl rfl;exact evalArgs_nil3 (K [] as s.heap s.toks rm gr gr.go .nil)
 |cons e r=>
  have:=Ct (E:=E) H c pos (e::r) xs O ai vs as s (λvals s'=>Q ⟨vals,[]⟩ s') rm hp t er gr h K;rw[D8,jm]at hp;rw[qH hp.1]at this ⊢;exact evalArgs_plain this
theorem RA{f:ao}{us vs:List V}{first:List ao}(H:dj prog w Lx base Z n)(rm:Rm A s n)(c:bQ sc env)(hp:elts.all fL=true)(t:bJ (aK Z.ah k sc) elts=some xs)
  (er:ER Z.ah base env J as s.heap) (gr:GR Lx base O as s.heap) (h:bU (λx O=>ev Z n x J O) xs O=some (vs,aA)) (hf:qu base f) (hr:aJ s.heap as us first)
  (hc:dX prog w Lx base n f (us++vs) aA r ai) (hQ:Post Lx base as s r ai Q):au (model prog w) A (callWith pos f first (backTo pos (starEach elts env)) []) Q E s:=by
 have fin:∀(vals:List ao) (as':List (List Addr)) (h':Heap) (tk:Nat),Rm A {s with heap:=h',toks:=tk} n->GR Lx base aA as' h'->Go as s.heap as' h'->aJ h' as' vs vals->au (model prog w) A (call f (first++vals)) Q E {s with heap:=h',toks:=tk}:=
  λvals as' h' tk rm g go rv=>hc A E _ as' (first++vals) Q rm g ((hr.go go).append rv) (hQ.after go)
 cases hf with
 |builtin id=>exact g6w (zT pos hp) (DC H rm c hp t er gr h λvals as' h' tk rm g go rv=>fin vals as' h' tk rm g go rv)
 |type n=>exact Jt (zT pos hp) (DC H rm c hp t er gr h λvals as' h' tk rm g go rv=>fin vals as' h' tk rm g go rv)
 |func a o fd h1 h2=>exact g6v (o:=o) (fd:=fd) (DC H rm c hp t er gr h λvals as' h' tk rm g go rv=>⟨⟨g.keep a o h1,h2⟩,fin vals as' h' tk rm g go rv⟩)
theorem YK{o:Expr}(h:¬o.ctorIdx=16):attributeBase o name env whole=whole:=by
 induction o using mT with
 |Call=>exact absurd rfl h
 |_=>exact J1 whole
theorem Zk{f:Expr}{args:List Expr}{kw:List Ay}{p:Pos}(h:¬f.ctorIdx=23):attributeBase (.Call f args kw p) name env whole=whole:=by
 induction f using mT with
 |Name=>exact absurd rfl h
 |_=>exact J1 whole
theorem QV{o:Expr}{x:X}(t:aK Z.ah k sc o=some x):attributeBase o name env (eval o env)=eval o env:=by
 generalize eval o env=w;by_cases q:o.ctorIdx=16
 ·revert t
  refine RX o q λf args kw pos t=>?_;by_cases q2:f.ctorIdx=23
  ·revert t
   refine Js f q2 λid p t=>?_;induction args using aN with
   |nil=>
    induction kw using aN with
    |nil=>
     induction k using eG with
     |zero=>exact ns t
     |succ k=>
      exact aL t λhq zz=>by
       have:(id != ("super":Str))=true:=by rw[bne,kM (aR hq)];rfl
       exact(if_pos (by rw[this];rfl)).trans rfl
    |cons _ _=>rfl
   |cons _ _=>rfl
  ·exact Zk q2
 ·exact YK q
theorem c5y(pos:Pos):∀{elts:List Expr},elts.all fL=true->(backTo pos (starEach elts env)).all (!·.1)=true:=by
 intro z_;induction z_ with
 |nil=>
  intro _;exact rfl
 |cons e r ih=>
  intro h;rw[D8,jm]at h;rw[qH h.1];show(((false,eval e env):Bool×Sem ao)::backTo pos (starEach r env)).all (!·.1)=true;rw[D8,ih h.2];rfl
theorem e5m(S:cj prog w Lx base Z){o:Expr}{ap:Pos}{x:X}{vs:List V}(H:dj prog w Lx base Z n)(rm:Rm A s n)(c:bQ sc env)
  (hm:nid Z.ah name=some m) (to:aK Z.ah k sc o=some x) (t:bJ (aK Z.ah k sc) elts=some xs) (hp:elts.all fL=true) (hl:elts.length<20) (hline:(ap.endLine==pos.line)=true)
  (er:ER Z.ah base env J as s.heap) (gr:GR Lx base O as s.heap) (h1:ev Z n x J O=some (u,aA)) (hf:Z.find m u aA=true) (h2:bU (λx O=>ev Z n x J O) xs aA=some (vs,aE)) (h3:Z.bY n m u vs aE=some (r,ai))
  (hQ:Post Lx base as s r ai Q):au (model prog w) A (eval (.Call (.Attribute o name ap) elts [] pos) env) Q E s:=by
 rw[arm_eval_Call,QV to];refine aI (d9 H to rm c er gr h1 λov aG hY tk rm gI bR aM ro=>?_);refine aI (qX ?_);obtain⟨nm,f,hn,hc,hfind,hcall⟩:=S.bY n m u vs aA aE r ai hf h3;have:=fQ hm;rw[hn]at this;obtain rfl:=aD this;have few:methodCallForm (elts.length+([]:List Ay).length) (backTo pos (starEach elts env)) (backToKw pos (keywordEach [] env))=true:=by
  show((backTo pos (starEach elts env)).all (!·.1)&&true&&decide (elts.length+0+0<30))=true;rw[c5y pos hp];exact decide_eq_true (fk hl (nb rfl))
 unfold methodCall;rw[few];refine aI (nW (hfind A E _ aG ov _ _ gI ro ?_));show au (model prog w) A (methodCallPos true o env ap pos >>= λcp=>callWith cp f [ov] (backTo pos (starEach elts env)) []) Q E _;have hpos:methodCallPos true o env ap pos=pure pos:=by
  unfold methodCallPos;rw[if_pos (by simpa using hline)]
 rw[hpos];refine aI (bF ?_);exact RA (us:=[u]) H rm c hp t bR gI h2 hc (.cons ro .nil) hcall (hQ.after aM)
theorem e5p(S:cj prog w Lx base Z){o:Expr}{x:X}(H:dj prog w Lx base Z n)(rm:Rm A s n)(c:bQ sc env)
  (hm:nid Z.ah name=some m) (to:aK Z.ah k sc o=some x) (er:ER Z.ah base env J as s.heap) (gr:GR Lx base O as s.heap) (h1:ev Z n x J O=some (u,aA)) (h2:Z.attr m u aA=some r)
  (hQ:Post Lx base as s r aA Q):au (model prog w) A (eval (.Attribute o name pos) env) Q E s:=by
 obtain⟨nm,hn,ha⟩:=S.attr m u aA r h2;have:=fQ hm;rw[hn]at this;cases this;refine S9 (d9 H to rm c er gr h1 λov aG hY tk rm gI bR aM ro=>ha A E _ aG ov Q gI ro (hQ.after aM)) ?_;show(do
   let o' ←attributeBase o name env (eval o env)
   standAt pos.atName
   let r ←holding [o'] (getAttr o' name true)
   letTemporaryGo o o' r
   pure r)=_
 rw[QV to]
theorem Ht(H:dj prog w Lx base Z n)(rm:Rm A s n)(c:bQ sc env){e:Option Expr}{x:Option X}{u:Option V}(t:tX (aK Z.ah k sc) e=some x)(er:ER Z.ah base env J as s.heap)(gr:GR Lx base O as s.heap)
  (h:kH (λx O=>ev Z n x J O) x O=some (u,ai))
  (K:∀(a:ao) (as':List (List Addr)) (h':Heap) (tk:Nat),Rm A {s with heap:=h',toks:=tk} n->GR Lx base ai as' h'->ER Z.ah base env J as' h'->Go as s.heap as' h'->(∀p,kP u=some p->lA a p)->Q a {s with heap:=h',toks:=tk}) :
  au (model prog w) A (evalPart e env) Q E s:=by
 induction e using aT with
 |none=>
  obtain rfl:=aD t;refine sp h ?_;rintro rfl rfl;exact wpAny_evalPart_none (K .none as s.heap s.toks rm gr er gr.go λp hp=>Ph hp rfl)
 |some e=>
  refine aZ t λy t1 e1=>?_;subst e1;refine cX h λv aA h1 h=>?_;refine sp h ?_;rintro rfl rfl;refine wpAny_evalPart_some (d9 H t1 rm c er gr h1 λa aG hY tk rm gI bR aM ra=>K a aG hY tk rm gI bR aM λp hp=>Ph hp ?_);induction v using Internal.V.casesOn with
  |none=>exact ra
  |int i=>exact ra
  |_=>exact ns hp
end
section
def rW(prog:jj)(w:ji)(Lx:gj)(base:Heap)(as:List (List Addr))(s:aC)(tg:Expr)(vs:List V)(ai:Mu)(P:Mu->Prop)(Q:ao->aC->Prop):Prop:=
 ∀(itv:ao) (own:List Addr) (St:Nat->List (List Addr)->Heap->Prop) (as':List (List Addr)) (h':Heap) (tk:Nat),
  (∀A':fu,A'.handled=.none->Wk prog w Lx A' base s.heap tg itv own vs St P)->St 0 as' h'->GR Lx base ai as' h'->Go as s.heap as' h'->Q itv {s with heap:=h',toks:=tk}
theorem wX(go:Go as h aG hY)(hI:hY.get? I=.none):h.get? I=.none:=by
 induction q:h.get? I using aT with
 |none=>rfl
 |some o=>
  exfalso;by_cases m:I∈as.flatten
  ·obtain⟨o',e'⟩:=go.alive I (go.sub m)
   rw[hI]at e';exact ns e'
  ·have:=go.at m q
   rw[hI]at this;exact ns this
theorem zN(g:GR Lx base O as h)(hI:h.get? I=.none):base.get? I=.none:=by
 induction q:base.get? I using aT with
 |none=>rfl
 |some o=>have:=g.keep I o q;rw[hI]at this;exact ns this
theorem d9t{a:ao}{vs:List V}(ht:kR tg=true)(h:uB v=some vs)(ra:Rep s.heap as v a)(gr:GR Lx base O as s.heap)(hf:∀I,s.heap.get? I=.none->h₀.get? I=.none)
  (K:∀(itv:ao) (own:List Addr) (St:Nat->List (List Addr)->Heap->Prop) (o:Obj),(∀A':fu,A'.handled=.none->Wk prog w Lx A' base h₀ tg itv own vs St λzz=>True)->St 0 as (s.heap.push o)->Q itv {s with heap:=s.heap.push o}) :
  au (model prog w) A (pyIter a) Q E s:=by
 have fr:h₀.get? s.heap.objs.size=.none/\base.get? s.heap.objs.size=.none:=⟨hf _ (j6 _),gr.xU⟩;induction v using Internal.V.casesOn with
 |lst l=>
  obtain rfl:=aD h;obtain⟨ax,vals,rfl,hax,hp,hr⟩:=ra;refine wpAny_pyIter_list hp.isList (K _ _ _ _ (λA' hA=>(iI.list hA ht _ ax l vals fr).wk) ⟨⟨_,fq _ rfl,rfl,rfl⟩,gr.kB,hax,?_,hr.go (gr.go.push _)⟩);obtain⟨n,e⟩:=hp;exact⟨n,cB _ e⟩
 |tup l=>
  obtain rfl:=aD h;obtain⟨ax,vals,rfl,hax,hp,hr⟩:=ra;refine J' hp (K _ _ _ _ (λA' hA=>(iI.tuple hA ht _ ax l vals fr).wk) ⟨⟨_,fq _ rfl,rfl,rfl⟩,gr.kB,hax,?_,hr.go (gr.go.push _)⟩);obtain⟨o,e,r⟩:=hp;exact⟨o,cB _ e,r⟩
 |str x=>
  refine aL h λha h=>?_;obtain rfl:=aD h;obtain⟨t,rfl⟩:=ra;exact wpAny_pyIter_ascii ((List.all_toArray ..).trans ha) (K _ _ _ _ (λA' hA=>(iI.TL hA ht _ x t fr).wk) ⟨⟨_,fq _ rfl,rfl,rfl⟩,gr.kB⟩)
 |_=>exact ns h
theorem wY{x:V}{i:Int}{a:ao}(e:uo x=some i)(r:Rep h as x a):∃t,a=.int i t:=by
 induction x using Internal.V.casesOn with
 |int j=>obtain rfl:=aD e;exact r
 |_=>exact ns e
theorem c3z{vs:List V}(ht:kR tg=true)(h:o9 args=some vs)(ra:aJ s.heap as args vals)(gr:GR Lx base O as s.heap)(hf:∀I,s.heap.get? I=.none->h₀.get? I=.none)
  (K:∀(itv:ao) (own:List Addr) (St:Nat->List (List Addr)->Heap->Prop) (oI o:Obj) (tk:Nat),(∀A':fu,A'.handled=.none->Wk prog w Lx A' base h₀ tg itv own vs St λzz=>True)->St 0 as ((s.heap.push oI).push o)->Q itv {s with heap:=(s.heap.push oI).push o,toks:=tk}) :
  au (model prog w) A (call (.type "range") vals) (λv sI=>au (model prog w) A (pyIter v) Q E sI) E s:=by
 have core:∀(a b c:Int) (t u v:Tok) (tk:Nat),pY a b c=true->vs=mP a b c →
   au (model prog w) A (pyIter (.ref s.heap.objs.size)) Q E {s with heap:=s.heap.push {cls:=.type "range",data:=.fields #[.int a t,.int b u,.int c v]},toks:=tk}:=by
  intro a b c t u v tk hs hvs;subst hvs;have My:=gr.push {cls:=.type "range",data:=.fields #[.int a t,.int b u,.int c v]}
  have hn:=j6 (s.heap.push {cls:=.type "range",data:=.fields #[.int a t,.int b u,.int c v]})
  have V3:h₀.get? (s.heap.push {cls:=.type "range",data:=.fields #[.int a t,.int b u,.int c v]}).objs.size=.none:=by
   refine hf _ ?_;induction q:s.heap.get? (s.heap.push {cls:=.type "range",data:=.fields #[.int a t,.int b u,.int c v]}).objs.size using aT with
   |none=>rfl
   |some o=>have:=cB {cls:=.type "range",data:=.fields #[.int a t,.int b u,.int c v]} q;rw[hn]at this;exact ns this
  refine wpAny_pyIter_range (g5x ..) hs (K _ _ _ _ _ _ (λA' hA=>(iI.range hA ht _ a b c ⟨V3,My.xU⟩).wk) ⟨?_,My.kB,iV _⟩);have:=fq (s.heap.push {cls:=.type "range",data:=.fields #[.int a t,.int b u,.int c v]}) (o:={cls:=.type "range_iterator",data:=.fields #[rawInt a,rawInt (nU a b c),rawInt c]}) rfl
  simpa[IsRangeIter]using this
 induction args using aN with
 |nil=>exact ns h
 |cons x args=>
  obtain⟨_,_,rfl,rx,ra⟩:=ra;induction args using aN with
  |nil=>
   cases ra;exact aO h λb hb h=>aL h λhs h=>by
    obtain⟨t,rfl⟩:=wY hb rx;exact call_range_1 (core _ _ _ _ _ _ _ hs (aD h).symm)
  |cons y args=>
   obtain⟨_,_,rfl,ry,ra⟩:=ra;induction args using aN with
   |nil=>
    cases ra;exact aO h λa ha h=>aO h λb hb h=>aL h λhs h=>by
     obtain⟨t,rfl⟩:=wY ha rx;obtain⟨u,rfl⟩:=wY hb ry;exact call_range_2 (core _ _ _ _ _ _ _ hs (aD h).symm)
   |cons z args=>
    obtain⟨_,_,rfl,rz,ra⟩:=ra;induction args using aN with
    |nil=>
     cases ra;exact aO h λa ha h=>aO h λb hb h=>aO h λc hc h=>aL h λhs h=>by
      obtain⟨t,rfl⟩:=wY ha rx;obtain⟨u,rfl⟩:=wY hb ry;obtain⟨v,rfl⟩:=wY hc rz;exact call_range_3 (bne_iff_ne.mp (aR (aP hs))) (core _ _ _ _ _ _ _ (aP (aP hs)) (aD h).symm) (.inl (RJ (aR hs)))
    |cons _ _=>exact ns h
theorem IS  {T:String}{f:Str}{np:Pos}    {vs:List V}  (H:dj prog w Lx base Z n) (rm:Rm A s n) (c:bQ sc env) (hg:gb sc f=true) (hd:(f==("__debug__":Str))=false)
  (gn:cO prog w base f (.type T)) (hp:elts.all fL=true) (t:bJ (aK Z.ah k sc) elts=some xs) (er:ER Z.ah base env J as s.heap) (gr:GR Lx base O as s.heap) (h:bU (λx O=>ev Z n x J O) xs O=some (vs,aA))
  (K:∀(vals:List ao) (as':List (List Addr)) (h':Heap) (tk:Nat),Rm A {s with heap:=h',toks:=tk} n->GR Lx base aA as' h'->Go as s.heap as' h'->aJ h' as' vs vals->au (model prog w) A (call (.type T) vals) Q E {s with heap:=h',toks:=tk}) :
  au (model prog w) A (eval (.Call (.Name f np) elts [] pos) env) Q E s:=by
 refine xQ (qC hd hg c er gr gn ?_);exact Jt (zT pos hp) (DC H rm c hp t er gr h λvals as' h' tk rm g go rv=>K vals as' h' tk rm g go rv)
theorem d1f{x:X}{y:Option X}{G:Prop}(t:yM y=some x)(k:y=some x->cT f x O=(match f x O with|some (v,O)=>(uB v).map (·,O)|.none=>.none)->G):G:=by
 exact aO t λz e t=>jT t λh t=>by
  obtain rfl:=aD t;exact k e (if_neg h)
theorem c4g{x:X}{vs:List V}(H:dj prog w Lx base Z n)(ht:kR tg=true)(t:aK Z.ah k sc e=some x)(rm:Rm A s n)(c:bQ sc env)(er:ER Z.ah base env J as s.heap)(gr:GR Lx base O as s.heap)
  (h:(match ev Z n x J O with|some (v,O)=>(uB v).map (·,O)|.none=>.none)=some (vs,ai)) (hQ:rW prog w Lx base as s tg vs ai (λzz=>True) Q) :
  au (model prog w) A (eval e env) (λv sI=>au (model prog w) A (pyIter v) Q E sI) E s:=by
 refine cX h λv aA h1 h=>aZ h λvs h2 h=>pr h ?_;rintro rfl rfl;refine d9 H t rm c er gr h1 λa aG hY tk rm gI bR aM ra=>?_;refine d9t (h₀:=s.heap) ht h2 ra gI (λI hI=>wX aM hI) λitv own St o wk st=>?_;exact hQ itv own St aG _ tk wk st (gI.push o) (aM.push o)
theorem yE{r:α}{G:Prop}{e:Option (V×Mu)}{f:List V->Mu->Option α}(h:(match e with|some (.lst i,O)=>f i O|_=>.none)=some r)(k:∀i O,e=some (.lst i,O)->f i O=some r->G):G:=by
 induction e using aT with
 |none=>exact ns h
 |some p=>cases p with|mk v O=>induction v using Internal.V.casesOn<;>first|exact k _ _ rfl h|exact ns h
theorem Qh{f:α->Option β}{x:α}{y:β}(h:f x=some y):bJ f [x]=some [y]:=jJ h rfl
theorem Hp{x:X}(h:f x O=some (v,ai)):bU f [x] O=some ([v],ai):=by
 show(match (generalizing:=false) f x O with|some (v,O)=>some ([v],O)|.none=>.none)=_
 rw[h]
theorem Ho{y x:X}{q:List V×Mu}(e:y=x)(h:cT f x O=some q):cT f y O=some q:=e▸h
theorem KC{vs us:List V}(h:(us,O)=(vs,ai))(hQ:rW prog w Lx base as s tg vs ai (λzz=>True) Q):rW prog w Lx base as s tg us O (λzz=>True) Q:=by cases h;exact hQ
theorem Qi:(("range":Str)==("__debug__":Str))=false:=by decide +kernel
theorem e2r:(("enumerate":Str)==("__debug__":Str))=false:=by decide +kernel
theorem Pq{x:X}{G:Prop}(t:aK.jC ah (k+1) sc e=some x)(k0:yM (aK ah k sc e)=some x->G)
  (k1:∀np args pos xs,e=.Call (.Name "range" np) args [] pos->gb sc "range" = true->args.all fL=true->bJ (aK ah k sc) args=some xs->.range xs=x->G)
  (k2:∀np a pos y,e=.Call (.Name "enumerate" np) [a] [] pos->gb sc "enumerate" = true->[a].all fL=true->aK ah k sc a=some y->.enum y=x->G)
  (k3:∀np a b pos y z,e=.Call (.Name "zip" np) [a,b] [] pos->gb sc "zip" = true->[a,b].all fL=true->aK ah k sc a=some y->aK ah k sc b=some z->.zip y z=x->G):G:=by
 replace t:M3 (aK ah k sc) sc e=some x:=t;refine fH t (λq hc t=>?_) λzz t=>k0 t;obtain⟨np,pos,hE⟩:=Ae hc;refine aL t λhq t=>bZ t (λhr t=>aZ t λxs t1 e1=>?_) λzz t=>bZ t (λhr t=>aO t λa ha t=>aZ t λy t1 e1=>?_) λzz t=>bZ t (λhr t=>aO t λr ha t=>aO t λy ta t=>aZ t λz tb e1=>?_) λzz t=>k0 t
 ·rw[eq_of_beq hr]at hE hq
  exact k1 np q.2 pos xs hE (aP (aP hq)) (aR (aP hq)) t1 e1
 ·rw[eq_of_beq hr,pe ha]at hE hq
  exact k2 np a pos y hE (aP (aP hq)) (aR (aP hq)) t1 e1
 ·rw[eq_of_beq hr,wu ha]at hE hq
  exact k3 np r.1 r.2 pos y z hE (aP (aP hq)) (aR (aP hq)) ta tb e1
theorem CU(S:cj prog w Lx base Z){x:X}{vs:List V}(H:dj prog w Lx base Z n)(ht:kR tg=true)(he:oZ tg e=true)(t:aK.jC Z.ah k sc e=some x)(rm:Rm A s n)(c:bQ sc env)(er:ER Z.ah base env J as s.heap)(gr:GR Lx base O as s.heap)
  (h:cT (λx O=>ev Z n x J O) x O=some (vs,ai)) (hQ:rW prog w Lx base as s tg vs ai (λzz=>True) Q) :
  au (model prog w) A (eval e env) (λv sI=>au (model prog w) A (pyIter v) Q E sI) E s:=by
 induction k using eG with
 |zero=>exact ns t
 |succ k=>
  refine Pq t (λt=>d1f t λt q=>c4g H ht t rm c er gr (q.symm.trans h) hQ) (λnp args pos xs hE hg hp t1 e1=>?_) (λnp a pos y hE hg hp t1 e1=>?_) λnp a b pos y z hE hg hp ta tb e1=>?_
  ·subst hE
   refine lH (Ho e1 h) λus aA h1 h=>aZ h λvs h2 h=>?_;have hQ:=KC h hQ;refine IS H rm c hg Qi S.range hp t1 er gr h1 λvals as' h' tk rm g go rv=>?_;refine c3z (h₀:=s.heap) ht h2 rv g (λI hI=>wX go hI) λitv own St oI o tk' wk st=>?_;exact hQ itv own St as' _ tk' wk st ((g.push oI).push o) ((go.push oI).push o)
  ·subst hE
   refine yE (Ho e1 h) λl aA h1 h=>?_;have hQ:=KC (aD h) hQ;have hit:vV tg=true:=KZ he (g7c.mpr (.inl (beq_self_eq_true _)));refine IS H rm c hg e2r S.enum hp (k:=k) (xs:=[y]) (vs:=[.lst l]) (aA:=aA) (Qh t1) er gr (Hp h1) λvals as' h' tk rm g go rv=>?_;obtain⟨_,_,rfl,⟨ax,vs',rfl,hax,hpl,hr⟩,q⟩:=rv;cases q;refine call_enumerate_list hpl.isList λh'' he hi hsz hk=>Ti he ?_;obtain⟨g',go'⟩:=g.all (h':=h'') λa o zz e=>hk a o e;have n1:=j6 h';have n2:h'.get? (h'.objs.size+1)=.none:=by
    induction q:h'.get? (h'.objs.size+1)using aT with
    |none=>rfl
    |some o=>exact absurd (jP (fM q)) (mV _)
   have off1:h'.objs.size∉as'.flatten:=g.kB;have off2:h'.objs.size+1∉as'.flatten:=λhm=>by
    obtain⟨o,e⟩:=g.alive _ hm;exact ns (n2.symm.trans e)
   refine hQ _ _ _ as' h'' tk (λA' hA=>(iI.enum hA hit _ _ ax l vs' ⟨wX go n1,zN g n1⟩ ⟨wX go n2,zN g n2⟩ (Nat.succ_ne_self _)).wk) ⟨⟨_,he⟩,hi,off2,off1,hax,?_,hr.go go'⟩ g' (go.trans go');obtain⟨m,e⟩:=hpl;exact⟨m,hk _ _ e⟩
  ·have h:=Ho e1 h
   cases n<;>exact ns h
theorem W0{r:α}{G:Prop}{e:Option M}{f:List V->Option α}(h:(match e with|some (.list l)=>f l|_=>.none)=some r)(k:∀l,e=some (.list l)->f l=some r->G):G:=by
 induction e using aT with
 |none=>exact ns h
 |some m=>induction m using Internal.M.casesOn with
  |list l=>exact k l rfl h
  |obj _ _=>exact ns h
  |dict _=>exact ns h
theorem rN(hj:h.objs.size<=j):h.get? j=.none:=by
 induction q:h.get? j using aT with
 |none=>rfl
 |some o=>exact absurd (fM q) (pI.mpr hj)
theorem d5b{f:α->Option β}{x x':α}{y y':β}(h:f x=some y)(h':f x'=some y'):bJ f [x,x']=some [y,y']:=jJ h (Qh h')
theorem XQ{x y:X}{kj:Mu}(h:f x O=some (v,ai))(h':f y ai=some (u,kj)):bU f [x,y] O=some ([v,u],kj):=by
 show(match (generalizing:=false) f x O with|some (v,O)=>(match (generalizing:=false) bU f [y] O with|some (vs,O)=>some (v::vs,O)|.none=>.none)|.none=>.none)=_
 rw[h];show(match (generalizing:=false) bU f [y] ai with|some (vs,O)=>some (v::vs,O)|.none=>.none)=_
 rw[Hp h']
theorem Zj:(("zip":Str)==("__debug__":Str))=false:=by decide +kernel
theorem Zq{x:X}{y:Option X}{r:Nat×M×List V×Mu}{G:Prop}(t:yM y=some x)(h:vM f x O=some r):G:=by
 exact aO t λz e t=>jT t λh1 t=>by
  obtain rfl:=aD t;exact ns ((if_neg h1).symm.trans h)
theorem d8t (S:cj prog w Lx base Z)  {a b:Expr}{xa xb:X}{np:Pos}{m:List V}    (H:dj prog w Lx base Z n) (ht:vV tg=true) (hg:gb sc "zip" = true) (hp:[a,b].all fL=true) (ta:aK Z.ah k sc a=some xa) (tb:aK Z.ah k sc b=some xb) (rm:Rm A s n) (c:bQ sc env) (er:ER Z.ah base env J as s.heap) (gr:GR Lx base O as s.heap)
  (h1:ev Z n xa J O=some (.lst l,aA)) (h2:ev Z n xb J aA=some (.lst m,aE)) (hl:l.length=m.length) (hQ:rW prog w Lx base as s tg ((l.zip m).map λp=>V.tup [p.1,p.2]) (aE++[.obj [] (-9)]) (λO=>O[aE.length]?=some (.obj [] (-9))) Q) :
  au (model prog w) A (eval (.Call (.Name "zip" np) [a,b] [] pos) env) (λv sI=>au (model prog w) A (pyIter v) Q E sI) E s:=by
 refine IS H rm c hg Zj S.zip hp (d5b ta tb) er gr (XQ h1 h2) λvals as' h' tk rm g go rv=>?_;obtain⟨_,_,rfl,⟨ax,us,rfl,hax,hpa,UN⟩,_,_,rfl,⟨bx,vs,rfl,Fo,LV,hrb⟩,q⟩:=rv;cases q;obtain⟨na,ea⟩:=id hpa;obtain⟨nb,eb⟩:=id LV;refine call_zip_2 hpa.isList LV.isList λh'' hz hTI hTO hi1 hi2 hsz hk=>wpAny_pyIter_zip hz ?_;have g1:∀j,h'.objs.size<=j->h'.get? j=.none:=λj hj=>rN hj;have off:∀j,h'.objs.size<=j->j∉as'.flatten:=λj hj hm=>by
  obtain⟨o,e⟩:=g.alive _ hm;exact ns ((g1 j hj).symm.trans e)
 obtain⟨g',go'⟩:=g.new (h':=h'') (aH:=[h'.objs.size+3]) (m:=.obj [] (-9)) hk (λa ha=>by rw[bK]at ha;subst ha;exact g1 _ (gZ _ 3)) (kh.mpr ⟨ee,qQ⟩)
  (λa ha=>by rw[bK]at ha;subst ha;exact⟨_,hTO⟩) ⟨[],rfl,Lx.pair.mpr ⟨_,_,hTO⟩⟩
 have off':∀j,h'.objs.size<=j->j≠h'.objs.size+3->j∉(as'++[[h'.objs.size+3]]).flatten:=λj hj hne hm=>by
  rw[eN]at hm;rcases ic.mp hm with hm|hm
  ·exact off j hj hm
  ·exact hne (bK.mp hm)
 have old:∀{j o},h'.get? j=some o->j∉as'.flatten->j∉(as'++[[h'.objs.size+3]]).flatten:=λ{j o} e hj hm=>by
  rw[eN]at hm;rcases ic.mp hm with hm|hm
  ·exact hj hm
  ·obtain rfl:=bK.mp hm
   exact ns ((g1 _ (gZ _ 3)).symm.trans e)
 have hlen:=g.len;have D:=zipApart_new (fM ea) (fM eb);refine hQ _ _ _ _ h'' tk (λA' hA=>Wk.zip ht hA D hl λa ha=>?_) ⟨hz,hTI,hi1,hi2,⟨off' _ (gZ _ 4) D.TOz.symm,off' _ (gZ _ 2) D.TITO,off' _ (bV _) D.TOi1.symm,off' _ (gZ _ 1) D.TOi2.symm,old ea hax,old eb Fo⟩,?_,⟨na,hk _ _ ea⟩,⟨nb,hk _ _ eb⟩,UN.go go',hrb.go go'⟩ g' (go.trans go')
 ·have:h'.objs.size<=a:=by
   simp only[bT,ee,or_false]at ha;rcases ha with rfl|rfl|rfl|rfl
   ·exact gZ _ 4
   ·exact gZ _ 3
   ·exact bV _
   ·exact gZ _ 1
  exact⟨wX go (g1 _ this),zN g (g1 _ this)⟩
 ·rw[←hlen,fY (bV _),jy]
  rfl
theorem d8i(S:cj prog w Lx base Z){m:M}{x:X}(H:dj prog w Lx base Z n)(ht:kR tg=true)(he:oZ tg e=true)(t:aK.jC Z.ah k sc e=some x)(rm:Rm A s n)(c:bQ sc env)(er:ER Z.ah base env J as s.heap)(gr:GR Lx base O as s.heap)
  (h:vM (λx O=>ev Z n x J O) x O=some (i,m,l,ai)) (hQ:rW prog w Lx base as s tg l ai (λO=>O[i]?=some m) Q) :
  au (model prog w) A (eval e env) (λv sI=>au (model prog w) A (pyIter v) Q E sI) E s:=by
 induction k using eG with
 |zero=>exact ns t
 |succ k=>
  have no:∀y,vM (λx O=>ev Z n x J O) y O=.none->y≠x:=λy hi q=>by
   subst q;exact ns (hi.symm.trans h)
  refine Pq t (λt=>Zq t h) (λzz zz zz zz zz zz zz zz e1=>absurd e1 (no _ rfl)) (λzz zz zz zz zz zz zz zz e1=>absurd e1 (no _ rfl)) λnp a b pos y z hE hg hp ta tb e1=>?_;subst e1 hE;refine yE (e:=ev Z n y J O) h λl1 aA h1 h=>yE (e:=ev Z n z J aA) h λl2 aE h2 h=>aL h λhl h=>?_;cases h;exact d8t S H (KZ he (g7c.mpr (.inr (beq_self_eq_true _)))) hg hp ta tb rm c er gr h1 h2 hl hQ
end
noncomputable def hide(D:Addr):List (List Addr)->List (List Addr)
 |[]=>[[D]]
 |x::r=>(D::x)::r
theorem iM:a∈(hide D as).flatten↔a=D∨a∈as.flatten:=by
 induction as using aN with
 |nil=>exact bK.trans ⟨.inl,λh=>h.elim id λq=>absurd q (ee)⟩
 |cons x r=>exact bT
theorem pq(k:Nat):(hide D as)[k+1]?=as[k+1]?:=by
 cases as<;>rfl
theorem wK(h:as≠[]):hide D as++nw=hide D (as++nw):=by
 induction as using aN with
 |nil=>exact absurd rfl h
 |cons x r=>rfl
theorem Qy(hD:h.get? D=.none)(ha:a∉as.flatten)(e:h.get? a=some o):a∉(Internal.hide D as).flatten:=λhm=>
 (iM.mp hm).elim (λq=>by rw[q,hD]at e;exact ns e) ha
theorem Rep.hide(hD:h.get? D=.none)(k:∀a o,h.get? a=some o->h'.get? a=some o):∀{x:V}{v:ao},Rep h as x v->Rep h' (hide D as) x v:=λr=>
 Rep.tr (λa o ha e zz=>⟨Qy hD ha e,k a o e⟩) (λk zz e=>(pq k).trans e) r
theorem aJ.hide(hD:h.get? D=.none)(k:∀a o,h.get? a=some o->h'.get? a=some o):∀{l:List V}{vs:List ao},aJ h as l vs->aJ h' (hide D as) l vs:=λr=>
 aJ.tr (λa o ha e zz=>⟨Qy hD ha e,k a o e⟩) (λk zz e=>(pq k).trans e) r
theorem Rep.show:∀{x:V}{v:ao},Rep h (Internal.hide D as) x v->Rep h as x v:=λr=>
 Rep.tr (λa o ha e zz=>⟨λhm=>ha (iM.mpr (.inr hm)),e⟩) (λk zz e=>(pq k).symm.trans e) r
theorem aJ.show:∀{l:List V}{vs:List ao},aJ h (Internal.hide D as) l vs->aJ h as l vs:=λr=>
 aJ.tr (λa o ha e zz=>⟨λhm=>ha (iM.mpr (.inr hm)),e⟩) (λk zz e=>(pq k).symm.trans e) r
section
theorem c5z(nd:as.flatten.Nodup)(hD:D∉as.flatten):(hide D as).flatten.Nodup:=by
 induction as using aN with
 |nil=>exact kh.mpr ⟨ee,qQ⟩
 |cons x r=>
  have e:(hide D (x::r)).flatten=D::(x::r).flatten:=rfl;rw[e];exact kh.mpr ⟨hD,nd⟩
theorem Dz(nd:(hide D as).flatten.Nodup):as.flatten.Nodup/\D∉as.flatten:=by
 induction as using aN with
 |nil=>simp
 |cons x r=>
  have e:(hide D (x::r)).flatten=D::(x::r).flatten:=rfl;rw[e]at nd;exact⟨(kh.mp nd).2,(kh.mp nd).1⟩
theorem Qn(h:as≠[]):(hide D as).length=as.length:=by
 induction as using aN with
 |nil=>exact absurd rfl h
 |cons x r=>rfl
theorem GR.ne(g:GR Lx base O as h):as≠[]:=λq=>by
 have:=g.len;rw[q]at this;simp at this
theorem GR.hide(g:GR Lx base O as h)(hD:h.get? D=.none)(hb:base.get? D=.none)(k:∀a o,h.get? a=some o->h'.get? a=some o){oD:Obj}(hn:h'.get? D=some oD):GR Lx base O (hide D as) h':=by
 have off:D∉as.flatten:=λhm=>by
  obtain⟨o,e⟩:=g.alive _ hm;rw[hD]at e;exact ns e
 refine⟨λa o e=>k a o (g.keep a o e),λa ha=>?_,c5z g.nd off,λa ha=>?_,by rw[Qn g.ne];exact g.len,λi m aH hi ha=>?_⟩
 ·rcases iM.mp ha with rfl|ha
  ·exact hb
  ·exact g.fresh a ha
 ·rcases iM.mp ha with rfl|ha
  ·exact⟨_,hn⟩
  ·obtain⟨o,e⟩:=g.alive a ha
   exact⟨o,k a o e⟩
 ·rw[pq]at ha
  have hm:=g.dQ i m aH hi ha;exact hm.mv (λa zz o e=>k a o e) (C0 λj l e=>by rw[pq];exact e) λr=>r.hide hD k
theorem GR.show(g:GR Lx base O (Internal.hide D as) h)(hne:as≠[]):GR Lx base O as h:=by
 refine⟨g.keep,λa ha=>g.fresh a (iM.mpr (.inr ha)),(Dz g.nd).1,λa ha=>g.alive a (iM.mpr (.inr ha)),by rw[←Qn (D:=D) hne];exact g.len,λi m aH hi ha=>?_⟩;have hm:=g.dQ i m aH hi (by rw[pq];exact ha);exact hm.mv (λzz zz zz e=>e) (C0 λj l e=>by rw[pq]at e;exact e) λr=>r.show
theorem GR.Ud(g:GR Lx base O (Internal.hide D as) h)(hs:AB D h h'){oD:Obj}(hn:h'.get? D=some oD):GR Lx base O (Internal.hide D as) h':=by
 have hD:D∈(Internal.hide D as).flatten:=iM.mpr (.inl rfl);have nd:=Dz g.nd;have ks:Ks (Internal.hide D as) h h':=λa o ha e zz=>(hs.2 a (λq=>ha (q▸hD))).trans e;refine⟨λa o e=>(hs.2 a (λq=>by rw[q,g.fresh D hD]at e;exact ns e)).trans (g.keep a o e),g.fresh,g.nd,λa ha=>?_,g.len,λi m aH hi ha=>?_⟩
 ·by_cases q:a=D
  ·exact⟨oD,q▸hn⟩
  ·obtain⟨o,e⟩:=g.alive a ha
   exact⟨o,(hs.2 a q).trans e⟩
 ·have hm:=g.dQ i m aH hi ha
  have hne:∀a∈aH,a≠D:=λa hq q=>nd.2 (by
   rw[pq]at ha;exact q▸gO.mpr ⟨aH,g6 ha,hq⟩)
  exact hm.mv (λa ha o e=>(hs.2 a (hne a ha)).trans e) (λe=>e) (aJ.ks ks)
theorem ER.qa(e:ER ah base env J as h){own:List Addr}(ho:∀a,Wf ah env a->a∉own)(mv:Mv own h h')(ks:Ks as h h'):ER ah base env J as h':=by
 obtain⟨m,hn,hl⟩:=e.loc;refine⟨e.kind,e.glob,e.uf,⟨m,?_,λi x v h1 h2 h3=>?_⟩,e.off,λi x h1 h2=>?_,e.inj⟩
 ·obtain⟨o,es,ep,e1,r⟩:=hn
  exact⟨o,es,ep,mv _ _ (ho _ (.inl rfl)) e1,r⟩
 ·obtain⟨u,h4,h5⟩:=hl i x v h1 h2 h3
  exact⟨u,h4,h5.ks ks⟩
 ·obtain⟨c,u,h3,h4,h5,⟨oc,hoc,hdc⟩,h7⟩:=e.jr i x h1 h2
  refine⟨c,u,h3,h4,h5,⟨oc,mv c oc (ho c (.inr ⟨i,x,h1,h2,h3⟩)) hoc,hdc⟩,λv hv=>?_⟩;obtain⟨u',h8,h9⟩:=h7 v hv;exact⟨u',h8,h9.ks ks⟩
theorem Go.sf{own:List Addr}(g:Go as h as' h'):Sf own as h as' h':=⟨λa o e ha=>g.off e ha,λk l e=>g.get e,λa o ha e zz=>g.at ha e⟩
end
noncomputable def iO(env:Env):List (Str×fU)->List (Str×Addr)->List (Str×Addr)
 |[],cs=>cs
 |(n,k)::r,cs=>if k==.free then iO env r ((n,(env.cells.lookup n).getD 0)::cs)else iO env r cs
theorem zo{n:Str}{k:fU}{r:List (Str×fU)}{cs:List (Str×Addr)}(h:(k==.free)=true):iO env ((n,k)::r) cs=iO env r ((n,(env.cells.lookup n).getD 0)::cs):=if_pos h
theorem Cj{n:Str}{k:fU}{r:List (Str×fU)}{cs:List (Str×Addr)}(h:¬(k==.free)=true):iO env ((n,k)::r) cs=iO env r cs:=if_neg h
theorem e3n(f:Str×fU->List (Str×Addr)->Sem (ForInStep (List (Str×Addr))))(h1:∀n k cs,(k==qP)=false->f (n,k) cs=pure (uS cs))
  (h2:∀n c cs,env.cells.lookup n=some c->f (n,.free) cs=pure (uS ((n,c)::cs))):∀(l:List (Str×fU)) (cs:List (Str×Addr)),(∀p∈l,p.2=.free->∃c,env.cells.lookup p.1=some c)->forIn l cs f=pure (iO env l cs):=by
 intro z_;induction z_ with
 |nil=>
  intro cs _;exact rfl
 |cons iL r ih=>
  obtain⟨n,k⟩:=iL;intro cs hp;rw[SJ];by_cases hk:(k==qP)=true
  ·have hk':k=.free:=by simpa using hk
   subst hk';obtain⟨c,hc⟩:=hp (n,.free) (by simp) rfl;simp only at hc;rw[h2 n c cs hc];show(forIn r ((n,c)::cs) f:Sem (List (Str×Addr)))=_;rw[ih _ λq hq=>hp q (by simp[hq])];have e:iO env ((n,.free)::r) cs=iO env r ((n,c)::cs):=by
    rw[zo rfl,hc];rfl
   rw[e]
  ·have hk':(k==qP)=false:=by simpa using hk
   rw[h1 n k cs hk'];show(forIn r cs f:Sem (List (Str×Addr)))=_;rw[ih _ λq hq=>hp q (by simp[hq])];have e:iO env ((n,k)::r) cs=iO env r cs:=Cj hk;rw[e]
theorem OJ{scope:dF}(h:∀p∈scope.names,p.2=.free->∃c,env.cells.lookup p.1=some c):closureFor scope env=pure (iO env scope.names []):=by
 simp only[closureFor];rw[e3n (env:=env) _ (λn k cs hk=>?_) (λn c cs hc=>?_) scope.names [] h]
 ·rfl
 ·simp only[hk];rfl
 ·unfold cellOf
  simp only[hc];rfl
theorem O9:∀(l:List (Str×fU)) (cs:List (Str×Addr)) (p:Str×Addr),p∈iO env l cs->p∈cs∨(∃q∈l,q.2=.free/\p=(q.1,(env.cells.lookup q.1).getD 0)):=by
 intro z_;induction z_ with
 |nil=>
  intro cs p h;exact .inl h
 |cons iL r ih=>
  obtain⟨n,k⟩:=iL;intro cs p h;by_cases hk:(k==.free)=true
  ·rw[zo hk]at h
   rcases ih _ p h with h|⟨q,hq,h1,h2⟩
   ·rcases bT.mp h with rfl|h
    ·exact .inr ⟨(n,k),.head _,eq_of_beq hk,rfl⟩
    ·exact .inl h
   ·exact .inr ⟨q,.tail _ hq,h1,h2⟩
  ·rw[Cj hk]at h
   rcases ih _ p h with h|⟨q,hq,h1,h2⟩
   ·exact .inl h
   ·exact .inr ⟨q,.tail _ hq,h1,h2⟩
theorem e6x:∀(l:List (Str×fU)) (cs:List (Str×Addr)) (p:Str×Addr),p∈cs->p∈iO env l cs:=by
 intro z_;induction z_ with
 |nil=>
  intro _ _ h;exact h
 |cons iL r ih=>
  obtain⟨n,k⟩:=iL;intro cs p h;by_cases hk:(k==.free)=true
  ·rw[zo hk];exact ih _ p (.tail _ h)
  ·rw[Cj hk];exact ih _ p h
theorem e4i(l:List (Str×fU)):∀(cs:List (Str×Addr)) (q:Str×fU),q∈l->q.2=.free->(q.1,(env.cells.lookup q.1).getD 0)∈iO env l cs:=by
 induction l with
 |nil=>exact λzz zz h=>absurd h ee
 |cons p r ih=>
  intro cs q hq hf;obtain⟨n,k⟩:=p;rcases bT.mp hq with rfl|hq
  ·have hf':k=.free:=hf
   subst hf';rw[zo rfl];exact e6x r _ _ (.head _)
  ·by_cases hk:(k==.free)=true
   ·rw[zo hk];exact ih _ q hq hf
   ·rw[Cj hk];exact ih _ q hq hf
theorem b3b{l:List (Str×Addr)}{c:Addr}(h:∀p∈l,p.1=x->p.2=c)(hm:(x,c)∈l):l.lookup x=some c:=by
 induction l with
 |nil=>cases hm
 |cons p r ih=>
  obtain⟨a,b⟩:=p;rw[ek];by_cases hx:x=a
  ·subst hx
   simp only[beq_self_eq_true];have:=h (x,b) (by simp) rfl;simp only at this;rw[this]
  ·have:(x==a)=false:=by simpa using hx
   rw[this];refine ih (λp hp e=>h p (by simp[hp]) e) ?_;rcases bT.mp hm with q|q
   ·exact absurd (congrArg sG q) hx
   ·exact q
theorem b2x{l:List (Str×Addr)}{c:Addr}(h:l.lookup x=some c):(x,c)∈l:=by
 induction l with
 |nil=>simp at h
 |cons p r ih=>
  obtain⟨a,b⟩:=p;rw[ek]at h;by_cases hx:x=a
  ·subst hx
   simp only[beq_self_eq_true,j9]at h;subst h;simp
  ·have:(x==a)=false:=by simpa using hx
   rw[this]at h;exact fX _ (ih h)
theorem I5{l:List (Str×fU)}{c:Addr}(h:(iO env l []).lookup x=some c):(∃q∈l,q.2=.free/\q.1=x)/\c=(env.cells.lookup x).getD 0:=by
 rcases O9 l [] _ (b2x h)with q|⟨q,hq,h1,h2⟩
 ·cases q
 ·simp only[Prod.mk.injEq]at h2
  obtain⟨rfl,rfl⟩:=h2;exact⟨⟨q,hq,h1,rfl⟩,rfl⟩
theorem b2f{l:List (Str×fU)}{c:Addr}(hm:(x,qP)∈l)(hc:env.cells.lookup x=some c):(iO env l []).lookup x=some c:=by
 refine b3b (λp hp e=>?_) ?_
 ·rcases O9 l [] p hp with q|⟨q,hq,h1,h2⟩
  ·cases q
  ·subst h2
   simp only at e;subst e;simp[hc]
 ·have:=e4i (env:=env) l [] (x,.free) hm rfl
  simpa[hc]using this
set_option tactic.hygienic true in
theorem Jj(cs:dF)(env:Env)(x:Str):(relabel cs env).names.lookup x=(cs.names.lookup x).map λk=>if(k==.free&&env.scope.kind==.function&&env.kindOf x==some .cell)then .cell else k:=by
 have:∀l:List (Str×fU),(l.map λ(n,k)=>if(k==.free&&env.scope.kind==.function&&env.kindOf n==some .cell)then(n,g4u)else(n,k)).lookup x=(l.lookup x).map λk=>if(k==.free&&env.scope.kind==.function&&env.kindOf x==some .cell)then .cell else k:=by
  intro l;induction l with
  |nil=>rfl
  |cons p r ih=>
   obtain⟨n,k⟩:=p;rw[fm];by_cases hx:x=n
   ·subst hx
    simp only;split
    ·rename_i h
     rw[ek,ek];simp only[beq_self_eq_true,sH];rw[if_pos h]
    ·rename_i h
     rw[ek,ek];simp only[beq_self_eq_true,sH];rw[if_neg h]
   ·have hb:(x==n)=false:=by simpa using hx
    simp only;split
    ·simp only[ek,hb,ih]
    ·simp only[ek,hb,ih]
 exact this cs.names
theorem bQ.comp(hs:cenv.scope=relabel cs env):bQ cs cenv:=by
 have key:∀x,cenv.scope.names.lookup x=(cs.names.lookup x).map λk=>if(k==.free&&env.scope.kind==.function&&env.kindOf x==some .cell)then .cell else k:=λx=>by rw[hs,Jj]
 refine⟨λx h=>?_,λx h=>?_,λx h=>?_⟩
 ·unfold gS iH at h ⊢
  rw[key];induction q:cs.names.lookup x using aT with
  |none=>rw[q]at h;exact nt h
  |some k=>
   rw[q]at h;cases k with
   | «local»=>rfl
   |cell=>rfl
   |free=>
    rw[sH];by_cases hc:(qP==.free&&env.scope.kind==.function&&env.kindOf x==some .cell)=true
    ·rw[if_pos hc]
    ·rw[if_neg hc]
   |_=>exact nt h
 ·unfold gb iH at h ⊢
  rw[key];induction q:cs.names.lookup x using aT with
  |none=>rw[q]at h;exact nt h
  |some k=>
   rw[q]at h;cases k with
   |globalImplicit=>rfl
   |_=>exact nt h
 ·unfold qv iH at h ⊢
  rw[key];induction q:cs.names.lookup x using aT with
  |none=>rw[q]at h;exact nt h
  |some k=>
   rw[q]at h;cases k with
   |cell=>rfl
   |free=>
    rw[sH];by_cases hc:(qP==.free&&env.scope.kind==.function&&env.kindOf x==some .cell)=true
    ·rw[if_pos hc]
    ·rw[if_neg hc]
   |_=>exact nt h
section
theorem RL{f:Nat->Bool}:∀(J:aB) (i:Nat),(J.filter λp=>f p.1).lookup i=if f i then J.lookup i else .none:=by
 intro z_;induction z_ with
 |nil=>
  intro i;simp
 |cons iL r ih=>
  obtain⟨a,v⟩:=iL;intro i;rw[List.filter_cons];by_cases ha:f a=true
  ·rw[if_pos ha,ek,ek,ih i]
   by_cases hi:i=a
   ·subst hi;simp[ha]
   ·have:(i==a)=false:=by simpa using hi
    simp[this]
  ·rw[if_neg ha,ih i,ek]
   by_cases hi:i=a
   ·subst hi;simp[ha]
   ·have:(i==a)=false:=by simpa using hi
    simp[this]
structure Oa(ah:List Str)(sc cs:dF):Prop where
 kind:cs.kind=.function
 names:∀p∈cs.names,(p.2=.local/\cs.names.lookup p.1=some .local)∨(p.2=.free/\qv sc p.1=true/\cs.names.lookup p.1=some .free/\(nid ah p.1).isSome=true)∨p.2=.globalImplicit
theorem d4c(h:v9 sc cs ah=true):Oa ah sc cs:=by
 unfold v9 at h;simp only[jm,beq_iff_eq,cN,tB]at h;refine⟨h.1,λp hp=>?_⟩;rcases h.2 p hp with(h|h)|h
 ·exact .inl h
 ·exact .inr (.inl ⟨h.1.1.1,h.1.1.2,h.1.2,h.2⟩)
 ·exact .inr (.inr h)
theorem e7i{own:List Nat}{l:List (Str×fU)}(h:bJ (λp:Str×fU=>nid ah p.1) (l.filter λp=>p.2==.local)=some own){p:Str×fU}(hp:p∈l)(hk:p.2=.local):∃i,nid ah p.1=some i/\i∈own:=by
 have key:∀(l:List (Str×fU)) (own:List Nat),bJ (λp:Str×fU=>nid ah p.1) l=some own->∀p∈l,∃i,nid ah p.1=some i/\i∈own:=by
  intro l;induction l with
  |nil=>intro _ _ p hp;cases hp
  |cons q r ih=>
   intro own h p hp;refine eY h λa b h1 h2 e=>?_;subst e;rcases bT.mp hp with rfl|hp
   ·exact⟨a,h1,.head _⟩
   ·obtain⟨i,h3,h4⟩:=ih b h2 p hp
    exact⟨i,h3,.tail _ h4⟩
 exact key _ own h p (by simp[Sw,hp,hk])
theorem Dk(h:qv env.scope x=true):env.kindOf x=some .cell∨env.kindOf x=some .free:=by
 show iH env.scope x=_∨iH env.scope x=_;unfold qv at h;induction q:iH env.scope x using aT with
 |none=>rw[q]at h;exact nt h
 |some k=>
  rw[q]at h;cases k with
  |cell=>exact .inl rfl
  |free=>exact .inr rfl
  |_=>exact nt h
theorem Dv{l:List (Str×fU)}{k:fU}(h:l.lookup x=some k):(x,k)∈l:=by
 induction l with
 |nil=>simp at h
 |cons p r ih=>
  obtain⟨a,b⟩:=p;rw[ek]at h;by_cases hx:x=a
  ·subst hx
   simp only[beq_self_eq_true,j9]at h;subst h;simp
  ·have:(x==a)=false:=by simpa using hx
   rw[this]at h;exact fX _ (ih h)
theorem e7x{h₃:Heap}{own:List Nat}(nd:c7 ah)(co:Oa ah sc cs)(c:bQ sc env)(ho:zh cs ah=some own)(er:ER ah base env J as hY)
  (hD:hY.get? D=.none) (k:∀a o,hY.get? a=some o->h₃.get? a=some o) (hC:h₃.Ns C λzz=>.none) (VV:C∉(hide D as).flatten) (Bh:base.get? C=.none)
  (e1:cenv.scope=relabel cs env) (e2:cenv.locals=C) (e3:cenv.globals=env.globals) (e4:cenv.cells=iO env cs.names []) (e5:cenv.builtins=env.builtins) :
  ER ah base cenv (J.filter λp=>!own.contains p.1) (hide D as) h₃:=by
 have kind:∀x,cenv.kindOf x=(cs.names.lookup x).map λk=>if(k==.free&&env.scope.kind==.function&&env.kindOf x==some .cell)then .cell else k:=λx=>by
  unfold Env.kindOf;rw[e1];exact Jj cs env x
 have free:∀x,(cenv.kindOf x=some .cell∨cenv.kindOf x=some .free)->(x,qP)∈cs.names/\qv sc x=true:=by
  intro x hx;rw[kind]at hx;induction q:cs.names.lookup x using aT with
  |none=>rw[q]at hx;simp at hx
  |some kk=>
   have hm:=Dv q;rw[q]at hx;simp only[sH,j9]at hx;rcases co.names _ hm with⟨h1,_⟩|⟨h1,h2,_,_⟩|h1
   ·simp only at h1;subst h1;simp at hx
   ·simp only at h1;subst h1;exact⟨hm,h2⟩
   ·simp only at h1;subst h1;simp at hx
 refine⟨by rw[e1];exact co.kind,e3.trans er.glob,e5.trans er.uf,⟨λzz=>.none,by rw[e2];exact hC,λi x v h1 h2 h3=>?_⟩,by rw[e2];exact⟨VV,Bh⟩,λi x h1 h2=>?_,λx y a h1 h2=>?_⟩
 ·exfalso
  rw[kind]at h2;induction q:cs.names.lookup x using aT with
  |none=>rw[q]at h2;simp at h2
  |some kk=>
   rw[q]at h2;simp only[sH,j9]at h2;have hk:kk=.local:=by
    split at h2
    ·cases h2
    ·exact h2
   subst hk;obtain⟨j,hj,Vb⟩:=e7i ho (Dv q) rfl;have:=nd i j x h1 (fQ hj);subst this;rw[RL (f:=λi=>!own.contains i)]at h3;have:(!own.contains i)=false:=by simpa using Vb
   rw[this]at h3;simp at h3
 ·obtain⟨hm,hh⟩:=free x h2
  obtain⟨cc,u,h3,h4,h5,⟨oc,hoc,hdc⟩,h7⟩:=er.jr i x h1 (Dk (c.held x hh));refine⟨cc,u,by rw[e4];exact b2f hm h3,λhq=>?_,h5,⟨oc,k _ _ hoc,hdc⟩,λv hv=>?_⟩
  ·rcases iM.mp hq with rfl|hq
   ·rw[hD]at hoc;exact ns hoc
   ·exact h4 hq
  ·rw[RL (f:=λi=>!own.contains i)]at hv
   split at hv
   ·obtain⟨u',h8,h9⟩:=h7 v hv
    exact⟨u',h8,h9.hide hD k⟩
   ·exact ns hv
 ·rw[e4]at h1 h2
  obtain⟨⟨p,hp,hpf,rfl⟩,r1⟩:=I5 h1;obtain⟨⟨q,hq,q9,rfl⟩,r2⟩:=I5 h2;obtain⟨pn,pk⟩:=p;obtain⟨qn,qk⟩:=q;simp only at hpf q9;subst hpf q9;have lk:∀n,(n,qP)∈cs.names->∃(i:Nat) (c:Addr),ah[i]?=some n/\env.cells.lookup n=some c:=by
   intro n hn;rcases co.names _ hn with⟨h1,_⟩|⟨_,h2,_,h4⟩|h1
   ·cases h1
   ·obtain⟨i,hi⟩:=DW.mp h4
    obtain⟨cc,u,h3,_⟩:=er.jr i n (fQ hi) (Dk (c.held n h2));exact⟨i,cc,fQ hi,h3⟩
   ·cases h1
  obtain⟨_,c1,_,h3⟩:=lk pn hp;obtain⟨_,c2,_,h4⟩:=lk qn hq;simp only[h3,R2]at r1;simp only[h4,R2]at r2;subst r1;subst r2;exact er.inj pn qn _ h3 h4
theorem c4b{Q:Bool->aC->Prop}(l:List Expr):∀(s:aC),Q false s->au (model prog w) A (forIn l false λc r=>if r=true then do let ok ←isTrue c env (eval c env);pure (uS ok)else pure (uS r)) Q E s:=by
 induction l with
 |nil=>intro s hq;exact bF hq
 |cons e r ih=>
  intro s hq;rw[SJ];refine aI ?_;rw[if_neg (by decide)];exact bF (ih s hq)
theorem PS(TT:lO prog w Lx base Z n)(c:bQ sc env):∀(ifs:List Expr) (xs:List X) (O ai:Mu) (b:Bool) (as:List (List Addr)) (s:aC) (Q:Bool->aC->Prop),
  Rm A s n->bJ (aK Z.ah k sc) ifs=some xs->ER Z.ah base env J as s.heap->GR Lx base O as s.heap->j0 (λx O=>ev Z n x J O) xs O=some (b,ai)->mU Lx base as s b ai Q →
  au (model prog w) A (forIn ifs true λc r=>if r=true then do let ok ←isTrue c env (eval c env);pure (uS ok)else pure (uS r)) Q E s:=by
 intro z_;induction z_ with
 |nil=>
  intro xs O ai b as s Q rm t er gr h hQ;obtain rfl:=aD t;cases h;exact bF (hQ as s.heap s.toks gr gr.go)
 |cons e r ih=>
  intro xs O ai b as s Q rm t er gr h hQ;refine eY t λx xr t1 t2 t=>?_;subst t;rw[SJ];refine cX h λv aA h1 h=>aI ?_;rw[if_pos rfl];refine qg h (λhb h=>?_) λhb h=>?_
  ·refine aI (qB TT t1 rm c er gr h1 hb λas' h' tk rm g go=>bF ?_)
   exact ih xr aA ai b as' _ Q rm t2 (er.go go) g h (hQ.after go)
  ·refine sp h λe1 e2=>?_
   subst e1 e2;refine aI (TT x k sc e t1 A E env J O as s v false _ _ rm c er gr h1 hb λas' h' tk g go=>bF ?_);exact c4b r _ (hQ as' h' tk g go)
end
section
def CD(C D a:Addr):Prop:=a=C∨a=D
theorem cE.mv{own:List Addr}(g:cE W as h₀ aG h)(hf:∀a∈own,h₀.get? a=.none)(mv:Mv own h h')(al:∀a∈aG.flatten,∃o,h'.get? a=some o):cE W as h₀ aG h':=
 ⟨g.ext,λa o ha hw e=>mv a o (λhm=>by rw[hf a hm]at e;exact ns e) (g.keep a o ha hw e),al⟩
theorem cE.weak{W':Addr->Prop}(g:cE W as h aG h')(k:∀a,W a->W' a):cE W' as h aG h':=⟨g.ext,λa o ha hw e=>g.keep a o ha (λq=>hw (k a q)) e,g.alive⟩
theorem Di(er:ER ah base cenv J (hide D as) h)(gr:GR Lx base O (hide D as) h):∀a,CD cenv.locals D a->∃o,h.get? a=some o:=λa ha=>ha.elim (λq=>(er.held (.inl q)).2.2.imp λzz x=>x.1) λq=>gr.alive a (iM.mpr (.inl q))
theorem ER.all(e:ER ah base env J as h)(g:Go as h as h'):ER ah base env J as h':=e.go g
theorem b8s{f:X->aB->Mu->Option (V×Mu)}{elt:X}{t:T}{ifs:List X}:∀(l:List V) (J:aB) (O:Mu),mz f elt t ifs (λzz=>True) l J O=jw f elt t ifs l J O:=by
 intro l;induction l with
 |nil=>exact λJ O=>rfl
 |cons v r ih=>
  intro J O;have e:mz f elt t ifs (λzz=>True) r=jw f elt t ifs r:=funext λJ=>funext λO=>ih J O;refine(if_pos (c:=True) trivial).trans ?_;rw[e];rfl
noncomputable def nG(elt:Expr)(gens:List xK)(cs:dF)(pos:Pos)(depth:Nat)(acc:ao)(env:Env):Sem Unit:=
 match gens[depth+1]? with
 |some g'=>do
  let x ←eval g'.iter env
  standAt g'.iter.pos
  let x ←if g'.is_async != 0 then foldedIterable g'.iter x else foldedSetIterable g'.iter env x
  let _ ←runOwn (.compStart (.ListComp elt gens cs pos) (depth+1) (←holding [x] (if g'.is_async != 0 then asyncIter x else pyIter x)) acc env) env
 |.none=>do let _ ←call (.builtin "list.append") [acc,←eval elt env]
theorem Rw{acc:ao}(h:gens[depth]?=some ⟨tg,it,ifs,0⟩):compTurn (.ListComp elt gens cs pos) depth itv acc env=(do
   standAt it.pos
   match ←pyNext itv with
   |.none=>pure (.done .next)
   |some v=>
    letOwnedTupleGo tg itv v
    assign tg env v
    let mut ok:=true
    for c in ifs do
     if ok then ok ←isTrue c env (eval c env)
    if ok then nG elt gens cs pos depth acc env
    again (.compLoop (.ListComp elt gens cs pos) depth itv acc env)):=by
 unfold compTurn nG;dsimp only;rw[h];dsimp only;induction gens[depth+1]? using aT with
 |none=>rfl
 |some g'=>
  dsimp only;rw[if_neg (by decide),if_neg (by decide)];refine congrArg (standAt it.pos >>= ·) (funext λzz=>congrArg (pyNext itv >>= ·) (funext λr=>?_));induction r using aT with
  |none=>rfl
  |some v=>
   dsimp only;refine congrArg (letOwnedTupleGo tg itv v >>= ·) (funext λzz=>congrArg (assign tg env v >>= ·) (funext λzz=>congrArg (forIn ifs true _ >>= ·) (funext λok=>?_)));induction ok using eo with
   |false=>rfl
   |true=>
    rw[if_pos rfl,if_pos rfl,bind_assoc];refine congrArg (eval g'.iter env >>= ·) (funext λx=>?_);rw[bind_assoc];refine congrArg (standAt g'.iter.pos >>= ·) (funext λzz=>?_);by_cases hq:(g'.is_async != 0)=true
    ·rw[if_pos hq,if_pos hq]
     simp only[bind_assoc,pure_bind]
    ·rw[if_neg hq,if_neg hq]
     simp only[bind_assoc,pure_bind]
def zC(prog:jj)(w:ji)(Lx:gj)(base:Heap)(Z:G)(A:fu)(cenv:Env)(D:Addr)(emit:Sem Unit)(g:aB->Mu->Option (List V×aB×Mu)):Prop:=
 ∀(E:ao->aC->Prop) (J ρ':aB) (O ai:Mu) (zs ys:List V) (as:List (List Addr)) (s:aC) (vals:List ao) (Q:Unit->aC->Prop),1<=s.toks->g J O=some (zs,ρ',ai)->ys.length+zs.length<=big->as≠[]->ER Z.ah base cenv J (hide D as) s.heap->GR Lx base O (hide D as) s.heap->s.heap.PlainList D vals.toArray->aJ s.heap (hide D as) ys vals →
  (∀(as':List (List Addr)) (h':Heap) (tk:Nat) (vals':List ao),as'≠[]->ER Z.ah base cenv ρ' (hide D as') h'->GR Lx base ai (hide D as') h'->h'.PlainList D vals'.toArray->aJ h' (hide D as') (ys++zs) vals'->cE (CD cenv.locals D) (hide D as) s.heap (hide D as') h'->Q () {s with heap:=h',toks:=tk}) →
  au (model prog w) A emit Q E s
theorem c0l{f:X->aB->Mu->Option (V×Mu)}{t:T}{ifs:List X}{P:Mu->Prop}{d:∀O,Decidable (P O)}{r:List V}{G:Prop}(h:gf f g t ifs P (v::r) J O=some (zs,ρ',ai))
  (k:∀bL b aE,P O->dD t v J=some bL->j0 (λx O=>f x bL O) ifs O=some (b,aE)->((b=false/\gf f g t ifs P r bL aE=some (zs,ρ',ai))∨(b=true/\∃ys bu bS zs',g bL aE=some (ys,bu,bS)/\gf f g t ifs P r bu bS=some (zs',ρ',ai)/\ys++zs'=zs))->G):G:=
 aL h λhP h=>aO h λbL h1 h=>aO h λb h2 h=>bZ h
  (λhb h=>aO h λp h3 h=>aZ h λq h4 h=>k bL b.1 b.2 hP h1 h2 (.inr ⟨hb,p.1,p.2.1,p.2.2,q.1,h3,by rw[h4];exact congrArg (λz=>some (q.1,z)) (congrArg DS h),congrArg sG h⟩))
  λhb h=>k bL b.1 b.2 hP h1 h2 (.inl ⟨jA.mpr hb,h⟩)
theorem zY(hne:as≠[])(nd:(hide D as).flatten.Nodup):D∉(hide D as).tail.flatten:=by
 induction as using aN with
 |nil=>exact absurd rfl hne
 |cons a r=>
  have:=(Dz nd).2;intro q;exact this (by rw[ki];exact Sx _ q)
theorem QU{t:T}{own:List Addr}{vs:List V}{St:Nat->List (List Addr)->Heap->Prop}{P:Mu->Prop}{d:∀O,Decidable (P O)}{as₀:List (List Addr)}{hw:Heap}
  (TT:lO prog w Lx base Z n) (c:bQ cs cenv) (nd:c7 Z.ah) (tt:iS Z.ah cs tg=some t) (ti:bJ (aK Z.ah k cs) ifs=some xs) (hg:gens[depth]?=some ⟨tg,it,ifs,0⟩)
  (EM:zC prog w Lx base Z A cenv D (nG elt gens cs pos depth (.ref D) cenv) g)
  (wk:Wk prog w Lx A base hw tg itv own vs St P) (ou:D∉own) (LZ:∀a∈own,h₀.get? a=.none) (oz:∀a,Wf Z.ah cenv a->a∉own) (hW:∀x,cS cs x=true->pS (λa=>a=cenv.locals) cenv x) :
  ∀(rest:List V) (i:Nat) (J ρ':aB) (O ai:Mu) (zs:List V) (as:List (List Addr)) (s:aC) (ys:List V) (vals:List ao),Rm A s n->vs.drop i=rest->i<=vs.length->ys.length+zs.length<=big->gf (ev Z n) g t xs P rest J O=some (zs,ρ',ai) →
   as≠[]->ER Z.ah base cenv J (hide D as) s.heap->GR Lx base O (hide D as) s.heap->St i (hide D as) s.heap->s.heap.PlainList D vals.toArray->aJ s.heap (hide D as) ys vals->cE (CD cenv.locals D) as₀ h₀ (hide D as) s.heap →
   (∀(as':List (List Addr)) (h':Heap) (tk:Nat) (vals':List ao),as'≠[]->ER Z.ah base cenv ρ' (hide D as') h'->GR Lx base ai (hide D as') h'->h'.PlainList D vals'.toArray->aJ h' (hide D as') (ys++zs) vals'->cE (CD cenv.locals D) as₀ h₀ (hide D as') h'->R (.ok .next) {s with heap:=h',toks:=tk}) →
   codeAny (model prog w) A (.compLoop (.ListComp elt gens cs pos) depth itv (.ref D) cenv) R s:=by
 intro rest;have tQ:Wf Z.ah cenv cenv.locals:=.inl rfl;have Mr:=oz _ tQ;induction rest with
 |nil=>
  intro i J ρ' O ai zs as s ys vals rm hd hi hz h hne er gr st hp hr go K;refine aL h λhP h=>?_;cases h;have hi':i=vs.length:=An hi (g5r.mp hd);subst hi';refine codeAny_of_tree ?_;show au (model prog w) A ((compTurn (.ListComp elt gens cs pos) depth itv (.ref D) cenv).onRaise (λx=>do noteFrame x cenv;theTreesLotGoes x)) _ _ s
  refine wpAny_noted ?_;rw[Rw hg];refine aI (qX (aI (wk.done _ _ s _ _ hP gr st λh' tk f9 ks mv=>bF ?_)));exact K as h' tk vals hne (er.qa oz mv ks) f9 (f7 (λzz e=>mv D _ ou e) hp) (by rw[gm];exact hr.ks ks) (go.mv LZ mv f9.alive)
 |cons v rest ih=>
  intro i J ρ' O ai zs as s ys vals rm hd hi hz h hne er gr st hp hr go K;have hlt:i<vs.length:=by
   rcases JE i vs.length with q|q
   ·exact q
   ·rw[List.drop_eq_nil_of_le q]at hd;cases hd
  have hv:vs[i]?=some v:=by
   have:=congrArg SG hd;rw[g5n]at this;exact this
  have hd':vs.drop (i+1)=rest:=by
   rw[←g5s,hd];rfl
  refine c0l h λbL b aE Fw hb hts fin=>?_;clear h;refine codeAny_of_tree ?_;show au (model prog w) A ((compTurn (.ListComp elt gens cs pos) depth itv (.ref D) cenv).onRaise (λx=>do noteFrame x cenv;theTreesLotGoes x)) _ _ s
  refine wpAny_noted ?_;rw[Rw hg];refine aI (qX (aI ?_));refine fF (notedBy (model prog w) A cenv λe s'=>R (.error e) s':ao->aC->Prop) λEO VR=>?_;refine fF (λsM=>codeAny (model prog w) A (.compLoop (.ListComp elt gens cs pos) depth itv (.ref D) cenv) R sM:aC->Prop) λL hL=>?_;refine fF (λok sK=>if ok=true then au (model prog w) A (nG elt gens cs pos depth (.ref D) cenv) (λzz sM=>L sM) EO sK else L sK:Bool->aC->Prop) λP2 qd=>?_;refine fF (λsJ=>au (model prog w) A (forIn ifs true λc r=>if r=true then do let ok ←isTrue c cenv (eval c cenv);pure (uS ok)else pure (uS r)) P2 EO sJ:aC->Prop) λP1 rB=>?_
  refine fF (λu s'=>au (model prog w) A (assign tg cenv u) (λzz sJ=>P1 sJ) EO s':ao->aC->Prop) λPP hP=>?_;rw[←VR];refine lV rm.tk (kq (wk.item i _ (hide D as) s (λu s'=>1<=s'.toks->PP u s') EO v hv Fw gr st λu h' tk ru st' f9 ks mv ht=>?_) (λr s' hr' ht=>?_) λzz zz e zz=>e)
  ·rw[hP]
   have dI:=er.qa oz mv ks;have go':=go.mv LZ mv f9.alive;have rm:=rm.at (s':={s with heap:=h',toks:=tk}) ht;refine rm.with λzz=>z7 hW (λa ha=>by rw[ha];exact tQ) nd tt rm.calm hb dI f9 ru λhJ dN gJ bI dS qb ht=>?_;have rm:=rm.at (s':={s with heap:=hJ,toks:=dN}) ht;have AO:=wk.stay _ _ _ _ _ st' (dS.sf (λa ha zz o ho=>dI.wk a (ha▸tQ) o ho) λa ha q=>Mr (q▸ha));have hDC:¬ D=cenv.locals:=λq=>(dI.held tQ).1 (by rw[←q];exact iM.mpr (.inl rfl));have LY:hJ.PlainList D vals.toArray:=f7 (λzz e=>dS.keep D _ (zY hne f9.nd) hDC (mv D _ ou e)) hp;have cW:=go'.trans (dS.weak λa ha=>.inl ha) (Di dI f9);have LU:=(hr.ks ks).ks qb;rw[rB];rcases fin with⟨rfl,h⟩|⟨rfl,us,bu,bS,zs',he,h,rfl⟩
   ·refine rm.with λzz=>PS TT c ifs xs O aE false _ _ _ rm ti bI gJ hts λqo h₃ nY gT di ht=>?_
    rw[qd];show L _;obtain⟨nw,eK,hnK⟩:=id di.ext;rw[wK hne]at eK;subst eK;rw[hL];exact ih (i+1) bL ρ' aE ai zs (as++nw) _ ys vals (rm.at ht) hd' hlt hz h (λq=>hne (Ax.mp q).1) (bI.go di) gT (wk.stay _ _ _ _ _ AO di.sf) (f7 (λzz e=>di.keep D _ (zY hne gJ.nd) e) LY) (LU.go di) (cW.trans di.toS (Di bI gJ)) K
   ·rw[cA,←nS]at hz
    refine rm.with λzz=>PS TT c ifs xs O aE true _ _ _ rm ti bI gJ hts λqo h₃ nY gT di ht=>?_;rw[qd];show au (model prog w) A (nG elt gens cs pos depth (.ref D) cenv) (λzz sM=>L sM) EO _;obtain⟨nw,eK,hnK⟩:=id di.ext;rw[wK hne]at eK;subst eK;have oA:=bI.go di;have V4:=cW.trans di.toS (Di bI gJ);refine lV ht (EM _ bL bu aE bS us ys (as++nw) _ vals _ ht he (aV (gZ _ _) hz) (λq=>hne (Ax.mp q).1) oA gT (f7 (λzz e=>di.keep D _ (zY hne gJ.nd) e) LY) (LU.go di) λiF hU jR Tu UZ kK gU UR A7 tS htL=>?_);rw[hL];refine ih (i+1) bu ρ' bS ai zs' iF _ (ys++us) Tu (rm.at htL) hd' hlt (by rw[cA];exact hz) h UZ kK gU ?_ UR A7 (V4.trans tS (Di oA gT)) λas' h' tk vals' h1 h2 h3 h4 h5 h6=>K as' h' tk vals' h1 h2 h3 h4 (by rw[←f5];exact h5) h6;refine wk.stay _ _ _ _ _ (wk.stay _ _ _ _ _ AO di.sf) (tS.sf (λa ha hoff o ho=>?_) λa ha q=>q.elim (λq=>Mr (q▸ha)) λq=>ou (q▸ha));exact ha.elim (λq=>oA.wk a (q▸tQ) o ho) λq=>absurd (iM.mpr (.inl q)) hoff
  ·induction r using aT with
   |none=>exact hr'.elim
   |some u=>
    subst hP rB qd hL;refine aI (lV ht (kq hr' (λzz sI hY ht=>?_) λzz zz e zz=>e));have hY:=hY ht;refine aI (kq hY (λzz sJ hJ=>aI (kq hJ (λok sK h₃=>?_) λzz zz h'=>h')) λzz zz h'=>h');induction ok using eo with
    |false=>exact bF ⟨rfl,h₃⟩
    |true=>exact aI (kq h₃ (λzz sM h₅=>bF ⟨rfl,h₅⟩) λzz zz h'=>h')
end
section
theorem O4(h:as≠[]):(hide D as).tail=as.tail:=by
 induction as using aN with
 |nil=>exact absurd rfl h
 |cons a r=>rfl
theorem d7w(h:as≠[])(h':as'≠[])(e:hide D as=hide D as'):as=as':=by
 induction as using aN with
 |nil=>exact absurd rfl h
 |cons a r=>induction as' using aN with
  |nil=>exact absurd rfl h'
  |cons b q=>
   obtain⟨e1,e2⟩:=fZ e;rw[(fZ e1).2,e2]
theorem wW{t:T}(h:iS ah cs tg=some t):kR tg=true:=by
 refine fH h (λx hn zz=>?_) λzz h=>aO h λl hn zz=>?_
 ·obtain⟨p,rfl⟩:=mQ hn
  rfl
 ·obtain⟨k,p,rfl⟩:=Dy hn
  rfl
theorem Ja{x:X}(t:aK.jC Z.ah k sc e=some x)(v:ao):foldedSetIterable e env v=pure v:=
 e7d λq=>by
  revert t;exact g3r e q λzz zz zz t=>by
   induction k using eG with
   |zero=>exact ns t
   |succ k=>cases k<;>exact ns t
theorem e2t(h:sc.names.lookup x=some .local):cS sc x=true:=by
 show(match (generalizing:=false) sc.names.lookup x with|some .local=>true|some .cell=>true|_=>false)=true
 rw[h]
theorem d7a{a b:α}:(if((0:Int) != 0)=true then a else b)=b:=if_neg (by decide)
theorem WK{c:Prop}{d:Decidable c}{a b:Prop}(h1:a)(h2:b):if c then a else b:=by
 by_cases h:c
 ·rw[if_pos h];exact h1
 ·rw[if_neg h];exact h2
theorem RP{acc:ao}(hg:gens[depth]?=some ⟨tg,it,ifs,0⟩)
  (h0:codeAny (model prog w) A (.compLoop (.ListComp elt gens cs pos) depth itv acc env) R s)
  (h:au (model prog w) A (pyIter itv) (λit' s'=>codeAny (model prog w) A (.compLoop (.ListComp elt gens cs pos) depth it' acc env) R s')
   (notedBy (model prog w) A env λx s'=>R (.error x) s') s) :
  codeAny (model prog w) A (.compStart (.ListComp elt gens cs pos) depth itv acc env) R s:=by
 refine codeAny_of_tree ?_;show au _ _ ((compStart (.ListComp elt gens cs pos) depth itv acc env).onRaise (λx=>do noteFrame x env;standAt theWindowsPlace)) _ _ s
 refine wpAny_notedAt ?_;unfold compStart;show au _ _ (if(gens[depth]?.elim false (·.is_async != 0))=true then _ else(_:Sem Fin)) _ _ s;rw[hg,if_neg (by show ¬ ((0:Int) != 0)=true;decide)];show au _ _ (ask >>= _) _ _ s;refine aI (wpAny_askSetting (wpAny_ite ?_));refine WK (aI (bF (bF (And.intro rfl h0)))) (aI (tE ?_));dsimp only[clausesOf];rw[hg];exact aI (qX (aI (kq h (λit' s' h'=>bF (And.intro rfl h')) λzz zz x=>x)))
theorem IP(rm:Rm A s n)(h:au (model prog w) A (eval it env) (λv sI=>au (model prog w) A (pyIter v) (λitv sJ=>1<=sJ.toks->Q itv sJ) E sI) E s) :
  au (model prog w) A (eval it env) (λv sI=>au (model prog w) A (pyIter v) Q E sI) E s:=
 lV rm.tk (kq h (λzz zz hY ht=>lV ht (kq hY (λzz zz q=>q) λzz zz e zz=>e)) λzz zz e zz=>e)
theorem d9m{x:X}(H:dj prog w Lx base Z n)(rm:Room A n)(c:bQ cs cenv)(te:aK Z.ah k cs elt=some x)(hg:gens[depth+1]?=.none) :
  zC prog w Lx base Z A cenv D (nG elt gens cs pos depth (.ref D) cenv) λJ O=>(ev Z n x J O).map λp=>([p.1],J,p.2):=by
 intro E J ρ' O ai zs ys as s vals Q ht h hz hne er gr hp hr K;refine aZ h λp he e=>?_;cases e;unfold nG;rw[hg];refine aI (d9 H te ⟨rm,ht⟩ c er gr he λyv iF hU jR zz gU kK jn ry=>?_);obtain⟨nw,eU,hnL⟩:=id jn.ext;rw[wK hne]at eU;subst eU;have A7:=hr.go jn;refine aI (Tn (f7 (λzz e=>jn.keep D _ (zY hne gr.nd) e) hp) (λh₅ LW A6=>bF ?_) (by
  rw[dG,A7.length];exact lP (aV (gZ _ _) hz)))
 obtain⟨mM,eM⟩:=id LW;have Ln:Ks (hide D (as++nw)) hU h₅:=λa o ha e zz=>(A6.2 a (λq=>ha (iM.mpr (.inl q)))).trans e;have Mx:=gU.Ud A6 eM;have ZW:=kK.qa (own:=[D]) (λa ha hm=>by
  rw[bK]at hm;subst hm;exact(kK.held ha).1 (iM.mpr (.inl rfl))) (λa o ha e=>(A6.2 a (λq=>ha (bK.mpr q))).trans e) Ln
 refine K (as++nw) h₅ _ (vals++[yv]) (λq=>hne (Ax.mp q).1) ZW Mx ?_ ((A7.append (.cons ry .nil)).ks Ln) ⟨jn.ext,λa o ha hw e=>(A6.2 a (λq=>hw (.inr q))).trans (jn.keep a o ha e),Mx.alive⟩;have e:(vals++[yv]).toArray=vals.toArray.push yv:=by simp
 rw[e];exact LW
theorem d6i(S:cj prog w Lx base Z)(nd:c7 Z.ah){t:T}(H:dj prog w Lx base Z n)(TT:lO prog w Lx base Z n)(rm:Room A n)(c:bQ cs cenv)
  (he:oZ tg it=true) (tt:iS Z.ah cs tg=some t) (nZ:aK.jC Z.ah k cs it=some ix) (ti:bJ (aK Z.ah k cs) ifs=some xs) (hW:∀x,cS cs x=true->pS (λa=>a=cenv.locals) cenv x) (hg:gens[depth+1]?=some ⟨tg,it,ifs,0⟩)
  (EM:zC prog w Lx base Z A cenv D (nG elt gens cs pos (depth+1) (.ref D) cenv) g) :
  zC prog w Lx base Z A cenv D (nG elt gens cs pos depth (.ref D) cenv) λJ O=>(cT (λx O=>ev Z n x J O) ix O).bind λp=>gf (ev Z n) g t xs (λzz=>True) p.1 J p.2:=by
 intro E J ρ' O ai zs ys as s vals Q ht h hz hne er gr hp hr K;refine aO h λp hi hl=>?_;unfold nG;rw[hg];have rm:Rm A s n:=⟨rm,ht⟩;have iter:=IP (E:=E) (Q:=λitv sJ=>au (model prog w) A (runOwn (.compStart (.ListComp elt gens cs pos) (depth+1) itv (.ref D) cenv) cenv) (λzz sK=>Q () sK) E sJ) rm <|CU S H (wW tt) he nZ rm c er gr hi λitv own St aG hY dh wk st gI aM yg=>by
  obtain⟨nw,eI,hnI⟩:=id aM.ext;rw[wK hne]at eI;subst eI;have AL:=wk A rm.calm;have bR:=er.go aM;have alive:∀a o,s.heap.get? a=some o->a∉own:=λa o e hm=>ns ((AL.fresh a hm).1.symm.trans e);have loop:=QU (elt:=elt) (gens:=gens) (pos:=pos) (as₀:=hide D as) (h₀:=s.heap) (R:=λr s'=>match r with|.ok f=>Q () s' |.error e=>cameBackBy (model prog w) A cenv E e s') TT c nd tt ti hg EM AL
   (Exists.elim hp λzz e=>alive D _ e) (λa ha=>(AL.fresh a ha).1) (λa ha=>(er.held ha).2.2.elim λo x=>alive a o x.1) hW p.1 0 J ρ' p.2 ai zs (as++nw) {s with heap:=hY,toks:=dh} ys vals (rm.at yg) rfl (iV _) hz hl (λq=>hne (Ax.mp q).1) bR gI st (let⟨m,e⟩:=hp;⟨m,aM.keep D _ (zY hne gr.nd) e⟩) (hr.go aM) aM.toS λas' h' tk vals' h1 h2 h3 h4 h5 h6=>K as' h' tk vals' h1 h2 h3 h4 h5 h6
  exact wpAny_runOwn (RP hg loop (AL.self 0 (hide D (as++nw)) {s with heap:=hY,toks:=dh} _ _ st loop))
 refine aI (kq iter (λv sI hY=>?_) λzz zz e=>e);refine aI (qX ?_);dsimp only;rw[d7a,Ja nZ v];exact aI (bF (aI (nW (kq hY (λitv sJ hJ=>aI (kq hJ (λzz sK h₃=>bF h₃) λzz zz e=>e)) λzz zz e=>e))))
theorem Rj{f:X->aB->Mu->Option (V×Mu)}{x:X}(h:¬ zg x=true):iP f x=λJ O=>(f x J O).map λp=>([p.1],J,p.2):=by
 induction x using Internal.X.casesOn with
 |gen _ _ _ _=>exact absurd rfl h
 |_=>rfl
theorem d7g(S:cj prog w Lx base Z)(nd:c7 Z.ah)(H:dj prog w Lx base Z n)(TT:lO prog w Lx base Z n)(rm:Room A n)(c:bQ cs cenv)(hW:∀x,cS cs x=true->pS (λa=>a=cenv.locals) cenv x) :
  ∀(gs:List xK) (depth:Nat) (x:X),gens.drop (depth+1)=gs->ue (aK Z.ah k cs) (aK.jC Z.ah k cs) (iS Z.ah cs) elt gs=some x->zC prog w Lx base Z A cenv D (nG elt gens cs pos depth (.ref D) cenv) (iP (ev Z n) x):=by
 intro gs;induction gs with
 |nil=>
  intro depth x hd t;refine aO t λy ty t=>jT t λhg t=>?_;obtain rfl:=aD t;rw[Rj hg];exact d9m H rm c ty (List.getElem?_eq_none (g5r.mp hd))
 |cons g gs ih=>
  intro depth x hd t;refine aL t λhq t=>aO t λe h1 t=>aO t λt1 h2 t=>aO t λq7 h3 t=>aZ t λq8 h4 t=>?_;subst t;obtain⟨tg,it,ifs,i⟩:=g;have hi:i=0:=eq_of_beq (aP hq);subst hi;refine d6i S nd H TT rm c (aR hq) h2 h3 h4 hW ?_ (ih (depth+1) e ?_ h1)
  ·have:=congrArg SG hd
   rw[g5n]at this;exact this
  ·rw[←g5s,hd];rfl
inductive FW(prog:jj)(w:ji)(Lx:gj)(base:Heap)(Z:G)(A:fu)(E:ao->aC->Prop)(env:Env)(as:List (List Addr))(s:aC)(tg it:Expr)(n:Nat)(x:X)(t:T)(xs:List X)(J:aB)(zs:List V)(ai:Mu):Prop
 |mk (vs:List V) (ρ':aB) (aA:Mu) (P:Mu->Prop) (d:∀O,Decidable (P O)) (hI:∀Q,rW prog w Lx base as s tg vs aA P Q->au (model prog w) A (eval it env) (λv sI=>au (model prog w) A (pyIter v) Q E sI) E s)
   (h0:P aA) (hl:zs.length<=big) (h2:gf (ev Z n) (iP (ev Z n) x) t xs P vs J aA=some (zs,ρ',ai))
theorem c0q{x:X}{m:M}(h:vM f x O=some (i,m,l,ai)):ai[i]?=some m:=by
 refine bZ h (λzz h=>?_) λzz h=>ns h;induction x using Internal.X.casesOn with
 |zip a b=>
  refine yE (e:=f a O) h λl1 aA h1 h=>yE (e:=f b aA) h λl2 aE h2 h=>aL h λhl h=>?_;cases h;rw[fY (bV _),jy];rfl
 |_=>exact ns h
theorem b9q{f:X->aB->Mu->Option (V×Mu)}{elt:X}{t:T}{ifs:List X}{P:Mu->Prop}{d:∀O,Decidable (P O)}{r:List V}{G:Prop}(h:mz f elt t ifs P (v::r) J O=some (zs,ai))
  (k:∀bL b aE,P O->dD t v J=some bL->j0 (λx O=>f x bL O) ifs O=some (b,aE)->((b=false/\mz f elt t ifs P r bL aE=some (zs,ai))∨(b=true/\∃y bS zs',f elt bL aE=some (y,bS)/\mz f elt t ifs P r bL bS=some (zs',ai)/\y::zs'=zs))->G):G:=by
 refine aL h λhP h=>?_;have h:(match (generalizing:=false) dD t v J with|.none=>.none|some J=>_)=some (zs,ai):=h
 induction q:dD t v J using aT with
 |none=>rw[q]at h;exact ns h
 |some bL=>
  rw[q]at h;dsimp only at h;induction q1:j0 (λx O=>f x bL O) ifs O using aT with
  |none=>rw[q1]at h;exact ns h
  |some p=>
   obtain⟨b,aE⟩:=p;rw[q1]at h;induction b using eo with
   |false=>exact k bL _ aE hP q q1 (.inl ⟨rfl,h⟩)
   |true=>
    dsimp only at h;induction q2:f elt bL aE using aT with
    |none=>rw[q2]at h;exact ns h
    |some p=>
     obtain⟨y,bS⟩:=p;rw[q2]at h;dsimp only at h;induction q3:mz f elt t ifs P r bL bS using aT with
     |none=>rw[q3]at h;exact ns h
     |some p=>
      obtain⟨zs',tC⟩:=p;rw[q3]at h;exact sp h λe1 e2=>k bL _ aE hP q q1 (.inr ⟨rfl,y,bS,zs',q2,by rw[q3,e2],e1⟩)
theorem Qu{f:X->aB->Mu->Option (V×Mu)}{elt:X}{t:T}{ifs:List X}{P:Mu->Prop}{d:∀O,Decidable (P O)}(hx:¬ zg elt=true):∀(l zs:List V) (J:aB) (O ai:Mu),mz f elt t ifs P l J O=some (zs,ai)->zs.length<=l.length/\∃ρ',gf f (iP f elt) t ifs P l J O=some (zs,ρ',ai):=by
 intro l;rw[Rj hx];induction l with
 |nil=>exact λzs J O ai h=>aL h λhP h=>sp h λe1 e2=>by subst e1 e2;exact⟨bV _,J,if_pos hP⟩
 |cons v r ih=>
  intro zs J O ai h;refine b9q h λbL b aE hP hb ht fin=>?_;have hc:∀q,(if b=true then((f elt bL aE).map λp=>([p.1],bL,p.2)).bind λp=>(gf f (λJ O=>(f elt J O).map λp=>([p.1],J,p.2)) t ifs P r p.2.1 p.2.2).map λq=>(p.1++q.1,q.2)else gf f (λJ O=>(f elt J O).map λp=>([p.1],J,p.2)) t ifs P r bL aE)=some q →
    gf f (λJ O=>(f elt J O).map λp=>([p.1],J,p.2)) t ifs P (v::r) J O=some q:=λq hq=>by
   refine(if_pos hP).trans ?_;rw[hb,Jw,ht,Jw];exact hq
  rcases fin with⟨rfl,h2⟩|⟨rfl,y,bS,zs',he,h2,rfl⟩
  ·obtain⟨hl,ρ',hE⟩:=ih _ _ _ _ h2
   exact⟨Se hl,ρ',hc _ hE⟩
  ·obtain⟨hl,ρ',hE⟩:=ih _ _ _ _ h2
   exact⟨dc hl,ρ',hc _ (by rw[if_pos rfl,he,sH,Jw,hE];rfl)⟩
theorem Qd(S:cj prog w Lx base Z){x:X}{t:T}{own:List Nat}{G:Prop}(H:dj prog w Lx base Z n)(rm:Rm A s n)(c:bQ sc env)(he:oZ tg it=true)(tt:iS Z.ah cs tg=some t)(nZ:aK.jC Z.ah k sc it=some ix)(hx:b=true->¬ zg x=true)
  (er:ER Z.ah base env J as s.heap) (gr:GR Lx base O as s.heap) (h:ev Z (n+1) (if b then .comp x t ix xs own else .rP x t ix xs own) J O=some (r,ai))
  (K:∀zs aE,FW prog w Lx base Z A E env as s tg it n x t xs (J.filter λp=>!own.contains p.1) zs aE->some (.lst zs,aE)=some (r,ai)->G):G:=by
 induction b using eo with
 |false=>
  refine aO (NO.symm.trans h) λp hi h=>aO h λq hq h=>aL h λhl h=>?_;exact K q.1 q.2.2 ⟨p.1,q.2.1,p.2,λzz=>True,λzz=>instDecidableTrue,λQ hQ=>CU S H (wW tt) he nZ rm c er gr hi hQ,trivial,hl,hq⟩ h
 |true=>
  have hx:=hx rfl;have h:=Gy.symm.trans h;induction hi:cT (λx O=>ev Z n x J O) ix O using aT with
  |some p=>
   rw[hi]at h;refine aL h λhl h=>lH h λys aE hcl h=>?_;obtain⟨hz,ρ',hE⟩:=Qu (P:=λzz=>True) (d:=λzz=>instDecidableTrue) hx _ _ _ _ _ ((b8s _ _ _).trans hcl);exact K ys aE ⟨p.1,ρ',p.2,λzz=>True,λzz=>instDecidableTrue,λQ hQ=>CU S H (wW tt) he nZ rm c er gr hi hQ,trivial,aV hz hl,hE⟩ h
  |none=>
   rw[hi]at h;refine aO h λq hq h=>aL h λhl h=>aZ h λp hp h=>?_;obtain⟨hz,ρ',hE⟩:=Qu hx _ _ _ _ _ hp;exact K p.1 p.2 ⟨q.2.2.1,ρ',q.2.2.2,_,_,λQ hQ=>d8i S H (wW tt) he nZ rm c er gr hq hQ,c0q hq,aV hz hl,hE⟩ (congrArg some h)
theorem QX(S:cj prog w Lx base Z)(nd:c7 Z.ah){cpos:Pos}{x:X}{t:T}{own:List Nat}{gs:List xK}{use:Option (ao->Sem Unit)}
  (H:dj prog w Lx base Z n) (TT:lO prog w Lx base Z n) (rm:Rm A s n) (c:bQ sc env) (co:v9 sc cs Z.ah=true) (he:oZ tg it=true) (te:ue (aK Z.ah k cs) (aK.jC Z.ah k cs) (iS Z.ah cs) elt gs=some x) (tt:iS Z.ah cs tg=some t) (nZ:aK.jC Z.ah k sc it=some ix) (ti:bJ (aK Z.ah k cs) ifs=some xs) (ho:zh cs Z.ah=some own)
  (er:ER Z.ah base env J as s.heap) (gr:GR Lx base O as s.heap) (RR:FW prog w Lx base Z A E env as s tg it n x t xs (J.filter λp=>!own.contains p.1) zs ai)
  (K:∀(D C:Addr) (as':List (List Addr)) (h':Heap) (tk:Nat) (m:Str->Option ao),GR Lx base ai as' h'->ER Z.ah base env J as' h'->Go as s.heap as' h'->Rep h' as' (.lst zs) (.ref D)->h'.Ns C m->tn as' h' C->s.heap.get? C=.none->base.get? C=.none->¬ Wf Z.ah env C →
   compPost (model prog w) A E use Q (.ref D) C (.ok .next) {s with heap:=h',toks:=tk}) :
  au (model prog w) A (comprehension (.ListComp elt (⟨tg,it,ifs,0⟩::gs) cs pos) cs env cpos (newList []) false (eval it env) use) Q E s:=by
 have rQ:=d4c co;have free:∀p∈cs.names,p.2=.free->∃cc,env.cells.lookup p.1=some cc:=by
  intro p hp hf;rcases rQ.names p hp with⟨q,_⟩|⟨_,hh,_,hn⟩|q
  ·rw[hf]at q;cases q
  ·obtain⟨i,hi⟩:=DW.mp hn
   obtain⟨cc,_,q,_⟩:=er.jr i p.1 (fQ hi) (Dk (c.held _ hh));exact⟨cc,q⟩
  ·rw[hf]at q;cases q
 have x7:∀p∈cs.names,p.2≠.cell:=by
  intro p hp hq;rcases rQ.names p hp with⟨q,_⟩|⟨q,_⟩|q<;>(rw[hq]at q;cases q)
 refine wpAny_comprehension_free (g:=⟨tg,it,ifs,0⟩) (gs:=gs) rfl (λv=>Ja nZ v) (OJ free) rQ.kind (λp hp hk=>?_) ?_
 ·rcases rQ.names p hp with⟨_,q⟩|⟨q,_⟩|q
  ·exact q
  ·rw[hk]at q;cases q
  ·rw[hk]at q;cases q
 ·obtain⟨vs,J6,aA,P,dP,hI,yu,hl,h2⟩:=RR
  refine IP rm (hI _ λitv T6 St aG hY dh wk st gI aM yg=>?_);have eD:(D3 ([]:List ao))=#[]:=rfl;refine Kc ?_ (by simp);refine fF (hY.objs.size) λhD Fc=>?_;refine fF (hY.push {cls:=.type "list",data:=.seq ([]:List ao).toArray}) λhJ u9=>?_
  have ou:hY.get? hD=.none:=by rw[Fc];exact j6 hY
  have Ls:∀a o,hY.get? a=some o->hJ.get? a=some o:=λa o e=>by rw[u9];exact cB _ e
  have FI:hJ.get? hD=some {cls:=.type "list",data:=.seq ([]:List ao).toArray}:=by rw[u9,Fc];exact fq _ rfl
  refine Tj x7 (λx hx=>by cases hx) (λh₃ hns E3=>?_) rQ.kind;refine fF (hJ.objs.size) λC Bc=>?_;have A9:h₃.Ns C λzz=>.none:=by
   rw[Bc,u9];have:(λx=>SA x ([]:List (Str×ao)).reverse)=λzz=>(.none:Option ao):=by funext x;rfl
   rw[this]at hns;exact hns
  have Bg:hJ.get? C=.none:=by rw[Bc];exact j6 hJ
  have tR:hY.get? C=.none:=by
   induction q:hY.get? C using aT with
   |none=>rfl
   |some o=>rw[Ls _ _ q]at Bg;cases Bg
  have Lr:∀a o,hJ.get? a=some o->h₃.get? a=some o:=λa o e=>by
   have hne:a≠C:=λq=>by rw[q,Bg]at e;exact ns e
   rw[Bc,u9]at hne;rw[u9]at e;rw[E3.2 a hne];exact cB _ e
  have ye:∀a o,hY.get? a=some o->h₃.get? a=some o:=λa o e=>Lr a o (Ls a o e);have Mq:=Lr _ _ FI;have hDC:hD≠C:=λq=>by rw[q,Bg]at FI;exact ns FI
  have gT:GR Lx base aA (hide hD aG) h₃:=gI.hide ou (zN gI ou) ye Mq;have Bh:base.get? C=.none:=zN gI tR;have VT:C∉(hide hD aG).flatten:=λhm=>by
   rcases iM.mp hm with q|q
   ·exact hDC q.symm
   ·obtain⟨o,e⟩:=gI.alive _ q
    rw[tR]at e;exact ns e
  have bR:=er.go aM;refine fF ({newEnv cs C env.globals (iO env cs.names []) env.qual .none .none (some env) 0 with scope:=relabel cs env}:Env) λcenv oq=>?_;have ZV:ER Z.ah base cenv (J.filter λp=>!own.contains p.1) (hide hD aG) h₃:=
   e7x nd rQ c ho bR ou ye A9 VT Bh (by rw[oq]) (by rw[oq];rfl) (by rw[oq];rfl) (by rw[oq];rfl) (by rw[oq];rfl)
  have loc:cenv.locals=C:=by rw[oq];rfl
  have hst:St 0 (hide hD aG) h₃:=(wk A rm.calm).stay _ _ _ _ _ st ⟨λa o e ha hm=>by
    rcases iM.mp hm with q|q
    ·rw[q,ou]at e;exact ns e
    ·exact ha q,λk l e=>by rw[pq];exact e,λa o zz e zz=>ye a o e⟩
  have yo:∀I,hY.get? I=.none->s.heap.get? I=.none:=λI hI=>wX aM hI;have di:Go as s.heap aG h₃:=⟨aM.ext,λa o ha e=>ye a o (aM.keep a o ha e),λa ha=>(aM.alive a ha).imp λo e=>ye a o e⟩;have oz:∀a,Wf Z.ah cenv a->a∉T6:=λa hw hm=>by
   rcases hw with rfl|⟨i,x,h1,h2,h3⟩
   ·obtain⟨o,e⟩:=(wk A rm.calm).alive _ _ _ _ yu gI st _ hm
    rw[loc,tR]at e;exact ns e
   ·
    rw[oq]at h3;obtain⟨⟨q,hq,q9,rfl⟩,r⟩:=I5 h3;obtain⟨cc,hcc⟩:=free q hq q9;obtain⟨i',hi'⟩:∃i':Nat,nid Z.ah q.1=some i':=by
     rcases rQ.names q hq with⟨z,_⟩|⟨_,_,_,z⟩|z
     ·rw[q9]at z;cases z
     ·exact DW.mp z
     ·rw[q9]at z;cases z
    have hh:qv sc q.1=true:=by
     rcases rQ.names q hq with⟨z,_⟩|⟨_,z,_⟩|z
     ·rw[q9]at z;cases z
     ·exact z
     ·rw[q9]at z;cases z
    obtain⟨cc',_,q1,_,_,⟨oc,hoc,_⟩,_⟩:=er.jr i' q.1 (fQ hi') (Dk (c.held _ hh));have e1:a=cc':=by rw[r,q1];rfl
    have:=((wk A rm.calm).fresh a hm).1;rw[e1,hoc]at this;cases this
  have hW:∀x,cS cs x=true->pS (λa=>a=C) cenv x:=by
   intro x hx;have hk:cs.names.lookup x=some .local:=(Jd hx).elim id λe=>absurd rfl (x7 _ (Dv e));have hk':cenv.kindOf x=some .local:=by
    unfold Env.kindOf;rw[oq];show(relabel cs env).names.lookup x=_;rw[Jj,hk];rfl
   exact⟨e2t hk',λzz=>loc,λc' q zz=>by rw[hk']at q;cases q⟩
  have g7h:C∉(hide hD as).flatten:=λhm=>by
   rcases iM.mp hm with q|q
   ·exact hDC q.symm
   ·obtain⟨o,e⟩:=gr.alive _ q
    rw[yo _ tR]at e;exact ns e
  have hR:∀(as':List (List Addr)) (h':Heap) (tk:Nat) (vals':List ao),as'≠[]->ER Z.ah base cenv J6 (hide hD as') h'->GR Lx base ai (hide hD as') h'->h'.PlainList hD vals'.toArray->aJ h' (hide hD as') ([]++zs) vals'->cE (CD cenv.locals hD) (hide hD as) s.heap (hide hD as') h' →
    compPost (model prog w) A E use Q (.ref hD) C (.ok .next) {s with heap:=h',toks:=tk}:=by
   intro as' h' tk vals' hne dI f9 i8 hr' gs';have go':Go as s.heap as' h':=by
    obtain⟨nw,e,hn⟩:=gs'.ext;rw[wK gr.ne]at e;have e:=d7w hne (λq=>gr.ne (Ax.mp q).1) e;refine⟨⟨nw,e,hn⟩,λa o ha e=>gs'.keep a o (by rw[O4 gr.ne];exact ha) (λhw=>?_) e,λa ha=>gs'.alive a (iM.mpr (.inr ha))⟩;rcases hw with q|q
    ·rw[q,loc,yo _ tR]at e;exact ns e
    ·rw[q,yo _ ou]at e;exact ns e
   obtain⟨m,hm,_⟩:=dI.loc;rw[loc]at hm;have tQ:Wf Z.ah cenv C:=.inl loc.symm;have f:=dI.foreign tQ;refine K hD C as' h' tk m (f9.show hne) (er.go go') go' ?_ hm ⟨λq=>f.off (iM.mpr (.inr q)),f.kind⟩ (yo _ tR) Bh λhw=>?_
   ·exact⟨hD,vals',rfl,(Dz f9.nd).2,i8,hr'.show⟩
   ·obtain⟨_,_,o,e,_⟩:=er.held hw
    rw[yo _ tR]at e;exact ns e
  have KI:bQ cs cenv:=bQ.comp (by rw[oq]);have hW':∀x,cS cs x=true->pS (λa=>a=cenv.locals) cenv x:=by rw[loc];exact hW
  have tT:cE (CD cenv.locals hD) (hide hD as) s.heap (hide hD aG) h₃:=by
   obtain⟨nw,e,hn⟩:=aM.ext;refine⟨⟨nw,by rw[e,wK gr.ne],hn⟩,λa o ha zz e=>di.keep a o (by rw[O4 gr.ne]at ha;exact ha) e,gT.alive⟩
  have loop:=QU (A:=A) (R:=compPost (model prog w) A E use Q (.ref hD) C) (D:=hD) (it:=it) (pos:=pos) (h₀:=s.heap) (as₀:=hide hD as) (depth:=0) (elt:=elt) (gens:=⟨tg,it,ifs,0⟩::gs) TT KI nd tt ti rfl (d7g S nd H TT rm.toRoom KI hW' gs 0 x rfl te) (wk A rm.calm) (λhm=>by obtain⟨o,e⟩:=(wk A rm.calm).alive _ _ _ _ yu gI st _ hm;rw[ou]at e;exact ns e) (λa ha=>((wk A rm.calm).fresh a ha).1) oz hW' vs 0 _ J6 aA ai zs aG {s with heap:=h₃,toks:=dh+0} [] [] (rm.at yg) rfl (iV _) (by rw[Av,kZ];exact hl) h2 gI.ne ZV gT hst ⟨0,Mq⟩ .nil tT hR;have both:=RP rfl loop ((wk A rm.calm).self 0 (hide hD aG) {s with heap:=h₃,toks:=dh+0} _ _ hst loop);rw[oq,Bc,u9,Fc]at both;exact both
end
def Off(base:Heap)(as:List (List Addr))(h:Heap)(a:Addr):Prop:=a∉as.flatten/\base.get? a=.none/\∃o,h.get? a=some o/\∀xs n,o.data≠.seq xs n
section
theorem Q5(ha:∀a∈aH,∀o,h.get? a=some o->∀xs n,o.data≠.seq xs n)(hoff:a∉as.flatten)(e:h.get? a=some o)(q:∃xs n,o.data=.seq xs n):a∉(as++[aH]).flatten:=λhm=>by
 obtain⟨xs,n,hd⟩:=q;rw[eN,ic]at hm;rcases hm with q|q
 ·exact hoff q
 ·exact ha a ((gm aH)▸q) o e _ n hd
theorem Rep.adopt(ha:∀a∈aH,∀o,h.get? a=some o->∀xs n,o.data≠.seq xs n):∀{x:V}{v:ao},Rep h as x v->Rep h (as++[aH]) x v:=λr=>
 Rep.tr (λzz zz hoff e q=>⟨Q5 ha hoff e q,e⟩) (λzz zz e=>by rw[iK (cM.mp e).1];exact e) r
theorem aJ.adopt(ha:∀a∈aH,∀o,h.get? a=some o->∀xs n,o.data≠.seq xs n):∀{l:List V}{vs:List ao},aJ h as l vs->aJ h (as++[aH]) l vs:=λr=>
 aJ.tr (λzz zz hoff e q=>⟨Q5 ha hoff e q,e⟩) (λzz zz e=>by rw[iK (cM.mp e).1];exact e) r
theorem GR.adopt(g:GR Lx base O as h){m:M}(hoff:∀a∈aH,Off base as h a)(nd:aH.Nodup)(hm:nT Lx h (as++[aH]) m aH):GR Lx base (O++[m]) (as++[aH]) h:=by
 have hk:∀a∈aH,∀o,h.get? a=some o->∀xs n,o.data≠.seq xs n:=λa ha o e=>by
  obtain⟨_,_,o',e',r⟩:=hoff a ha;obtain rfl:=aD (e.symm.trans e');exact r
 exact g.add g.keep (λa ha=>⟨(hoff a ha).1,(hoff a ha).2.1,(hoff a ha).2.2.imp λzz x=>x.1⟩) g.alive nd (λhM=>hM.mv (λzz zz zz e=>e) (C0 λj l e=>by rw[iK (cM.mp e).1];exact e) λr=>r.adopt hk) hm
end
section
noncomputable def GX:List (ao×ao)->List ao
 |[]=>[]
 |p::r=>p.1::p.2::GX r
theorem RH{f:Expr->Option X}{k:Option Expr}{v:Expr}{ks:List (Option Expr)}{vs:List Expr}{G:Prop}(h:uD f (k::ks) (v::vs)=some xs)(K:∀e a b r,k=some e->f e=some a->f v=some b->uD f ks vs=some r->a::b::r=xs->G):G:=by
 induction k using aT with
 |none=>exact ns h
 |some e=>exact aO h λa h1 h=>aO h λb h2 h=>aZ h λr h3 h=>K e a b r rfl h1 h2 h3 h
theorem e4q{a b:X}{r:List X}{us:List V}{G:Prop}(h:bU f (a::b::r) O=some (us,ai))(K:∀u aA v aE ws,f a O=some (u,aA)->f b aA=some (v,aE)->bU f r aE=some (ws,ai)->u::v::ws=us->G):G:=
 cX h λu aA h1 h=>lH h λvs bS h2 h=>sp h λe1 e2=>cX h2 λv aE h3 h=>lH h λws tC h4 h=>sp h λe3 e4=>K u aA v aE ws h1 h3 (by rw[h4,e4,e2]) (by rw[e3];exact e1)
theorem d4p(H:dj prog w Lx base Z n)(c:bQ sc env)(pos:Pos):∀(ks:List (Option Expr)) (vs:List Expr) (xs:List X) (O ai:Mu) (us:List V) (as:List (List Addr)) (s:aC) (Q:List (ao×ao)->aC->Prop),
  Rm A s n->uD (aK Z.ah k sc) ks vs=some xs->ER Z.ah base env J as s.heap->GR Lx base O as s.heap->bU (λx O=>ev Z n x J O) xs O=some (us,ai) →
  (∀(kvs:List (ao×ao)) (as':List (List Addr)) (h':Heap) (tk:Nat),GR Lx base ai as' h'->Go as s.heap as' h'->aJ h' as' us (GX kvs)->Q kvs {s with heap:=h',toks:=tk}) →
  au (model prog w) A (evalPairs (pairTrees ks vs env pos)) Q E s:=by
 intro ks;induction ks with
 |nil=>
  intro vs xs O ai us as s Q rm t er gr h hQ;induction vs using aN with
  |nil=>
   obtain rfl:=aD t;cases h;exact evalPairs_nil (hQ [] as s.heap s.toks gr gr.go .nil)
  |cons _ _=>exact ns t
 |cons e ks ih=>
  intro vs xs O ai us as s Q rm t er gr h hQ;induction vs using aN with
  |nil=>cases e<;>exact ns t
  |cons v vs=>
   refine RH t λe' a b r e1 t1 t2 t3 ex=>?_;subst e1 ex;refine e4q h λu aA v' aE ws h1 h2 h3 eu=>?_;subst eu;refine pairTrees_cons_walk (d9 H t1 rm c er gr h1 λkv aG hY tk rm gI bR aM ra=>d9 H t2 rm c bR gI h2 λvv cz hJ dN rm gJ bI cW rb=>?_);refine ih vs r aE ai ws cz _ _ rm t3 bI gJ h3 λkvs as' h' tk' g' go' rr=>?_;exact hQ _ as' h' tk' g' ((aM.trans cW).trans go') (.cons ((ra.go cW).go go') (.cons (rb.go go') rr))
theorem b9m{r:List V}{d:List (Int×V)}{G:Prop}(h:qz (u::v::r)=some d)(K:∀i d',u=.int i->qz r=some d'->¬ (d'.map (·.1)).contains i=true->(i,v)::d'=d->G):G:=by
 induction u using Internal.V.casesOn with
 |int i=>exact aO h λd' h1 h=>jT h λhn h=>K i d' rfl h1 hn (aD h)
 |_=>exact ns h
theorem c7g:∀(kvs:List (ao×ao)) (us:List V) (d:List (Int×V)),qz us=some d->aJ h as us (GX kvs) →
  ∃ks:List (Int×ao),Carries (intKind prog w) kvs ks/\ks.map (·.1)=d.map (·.1)/\(d.map (·.1)).Nodup/\aJ h as (d.map (·.2)) (ks.map (·.2)):=by
 intro kvs;induction kvs with
 |nil=>
  intro us d hp hr;induction us using aN with
  |nil=>obtain rfl:=aD hp;exact⟨[],trivial,rfl,qQ,rfl⟩
  |cons u us=>obtain⟨_,_,e,_⟩:=hr;cases e
 |cons kv kvs ih=>
  intro us d hp hr;induction us using aN with
  |nil=>cases hr
  |cons u us=>induction us using aN with
   |nil=>cases u<;>exact ns hp
   |cons v us=>
    refine b9m hp λi d' e1 h1 hn e2=>?_;subst e1 e2;obtain⟨a,_,e,ra,b,_,e',rb,rr⟩:=hr;cases e;cases e';obtain⟨ks,c,e3,nd,r⟩:=ih us d' h1 rr;obtain⟨k,v'⟩:=kv;obtain⟨t,rfl⟩:=ra;refine⟨(i,v')::ks,⟨beq_self_eq_true i,rfl,c⟩,congrArg (i::·) e3,kh.mpr ⟨λq=>hn (List.contains_iff_mem.mpr q),nd⟩,.cons rb r⟩
theorem e7r(d:List (Int×V))(ks:List (Int×ao))(e:ks.map (·.1)=d.map (·.1)):valueAt ks=oJ d (ks.map (·.2)):=by
 funext k;unfold oJ;rw[←e];clear e;induction ks with
 |nil=>rfl
 |cons p ks ih=>
  rw[fm,fm,JJ,ek,←ih];unfold valueAt;rw[List.find?_cons];by_cases h:p.1=k
  ·rw[decide_eq_true h,beq_iff_eq.mpr h.symm];rfl
  ·rw[decide_eq_false h,beq_false_of_ne (λq=>h q.symm)]
theorem c0s{f:Expr->Option X}:∀(ks:List (Option Expr)) (vs:List Expr) (xs:List X),uD f ks vs=some xs->ks.all (·.isSome)=true/\ks.length=vs.length:=by
 intro ks;induction ks with
 |nil=>
  intro vs xs t;induction vs using aN with
  |nil=>exact⟨rfl,rfl⟩
  |cons _ _=>exact ns t
 |cons e ks ih=>
  intro vs xs t;induction vs using aN with
  |nil=>cases e<;>exact ns t
  |cons v vs=>
   refine RH t λe' a b r e1 t1 t2 t3 ex=>?_;subst e1;obtain⟨h1,h2⟩:=ih vs r t3;exact⟨h1,congrArg (·+1) h2⟩
theorem QL   {h'':Heap}{d:List (Int×V)}  (gr:GR Lx base aS as h) (g:GR Lx base O as' h') (go:Go as (h.push {cls:=.type "dict",data:=.dict #[]}) as' h') (hs:AB h.objs.size h' h'')
  (hm:h''.IntMap h.objs.size (oJ d vals)/\h''.DictLe h.objs.size d.length) (hr:aJ h' as' (d.map (·.2)) vals) :
  GR Lx base (O++[.dict d]) (as'++[[h.objs.size]]) h''/\Go as h (as'++[[h.objs.size]]) h''/\Rep h'' (as'++[[h.objs.size]]) (.mut O.length) (.ref h.objs.size):=by
 have hp:(h.push {cls:=.type "dict",data:=.dict #[]}).get? h.objs.size=some {cls:=.type "dict",data:=.dict #[]}:=fq _ rfl
 have hD:=go.at gr.kB hp;have kind:∀o',h'.get? h.objs.size=some o'->∀xs n,o'.data≠.seq xs n:=λo' e xs n q=>by
  rw[hD]at e;cases e;cases q
 have f:tn as' h' h.objs.size:=⟨go.off hp gr.kB,kind⟩;have y:∀a o,a≠h.objs.size->h'.get? a=some o->h''.get? a=some o:=λa o ha e=>(hs.2 a ha).trans e;have g2:=g.mod f gr.xU y;obtain⟨o2,es,ep,e2,hc,hd,r⟩:=id hm.1;have k2:∀o',h''.get? h.objs.size=some o'->∀xs n,o'.data≠.seq xs n:=λo' e xs n q=>by
  rw[e2]at e;cases e;rw[hd]at q;cases q
 have hoff:∀a∈[h.objs.size],Off base as' h'' a:=λa ha=>by
  obtain rfl:=bK.mp ha;exact⟨f.off,gr.xU,o2,e2,k2 o2 e2⟩
 have g3:=g2.adopt (m:=.dict d) hoff (kh.mpr ⟨ee,qQ⟩) ⟨_,vals,rfl,hm,(hr.ks (f.ks y)).adopt λa ha o e=>by
  obtain rfl:=bK.mp ha;exact k2 o e⟩
 refine⟨g3,⟨?_,λa o ha e=>?_,g3.alive⟩,h.objs.size,[],?_,rfl⟩
 ·obtain⟨nw,rfl,hn⟩:=go.ext
  refine⟨nw++[[h.objs.size]],f5 _ _ _,λa ha=>?_⟩;rw[eN,ic]at ha;rcases ha with ha|ha
  ·induction q:h.get? a using aT with
   |none=>rfl
   |some o'=>exact ns ((hn a ha).symm.trans (cB _ q))
  ·obtain rfl:=bK.mp ha
   exact j6 h
 ·exact y a o (λq=>by rw[q,j6]at e;exact ns e) (go.keep a o ha (cB _ e))
 ·rw[←g.len,fY (bV _),jy]
  rfl
theorem e6w(H:dj prog w Lx base Z n)(rm:Rm A s n)(c:bQ sc env){ks:List (Option Expr)}{vs:List Expr}{us:List V}{d:List (Int×V)}
  (hlen:vs.length<=15) (t:uD (aK Z.ah k sc) ks vs=some xs) (er:ER Z.ah base env J as s.heap) (gr:GR Lx base O as s.heap) (h:bU (λx O=>ev Z n x J O) xs O=some (us,ai)) (hd:qz us=some d)
  (hQ:Post Lx base as s (.mut ai.length) (ai++[.dict d]) Q):au (model prog w) A (eval (.Dict ks vs pos) env) Q E s:=by
 have gp:=gr.go.push {cls:=.type "dict",data:=.dict #[]}
 obtain⟨hall,hl⟩:=c0s ks vs xs t;by_cases hk:ks=[]
 ·subst hk
  obtain rfl:=g5j.mp hl.symm;obtain rfl:=aD t;cases h;obtain rfl:=aD hd;refine wpAny_Dict_empty ?_;obtain⟨g1,g2,g3⟩:=QL (d:=[]) (vals:=[]) gr (gr.push _) (Go.refl (gr.push _).alive) (AB.refl _ _) ⟨Heap.IntMap.new _,Heap.DictLe.new _⟩ .nil;exact hQ _ _ _ s.toks g1 g2 g3
 ·refine wpAny_Dict_walk (knd:=intKind prog w) hall hl hk (hl▸hlen) ?_
  refine d4p (s:={s with heap:=s.heap.push {cls:=.type "dict",data:=.dict #[]}}) H c pos ks vs xs O ai us as _ (rm.at rm.tk) t (er.go gp) (gr.push _) h λkvs as' h' tk g go rr=>?_
  obtain⟨ks',hc,e,nd,r⟩:=c7g (prog:=prog) (w:=w) kvs us d hd rr;refine⟨ks',hc,?_,λh'' hm hs=>?_⟩
  ·obtain⟨o,es,ep,ho,r⟩:=Heap.DictOf.new (knd:=intKind prog w) s.heap
   exact⟨o,es,ep,go.at gr.kB ho,r⟩
  ·rw[merged_nil_of_nodup _ (e▸nd)]at hm
   have hi:=hm.mapOf.intMap;rw[e7r d ks' e]at hi;have hz:h''.DictLe s.heap.objs.size d.length:=λo es ep ho hd=>by
    obtain⟨o2,es2,ep2,ho2,_,hd2,_,hp,_⟩:=hm;rw[ho]at ho2;cases ho2;rw[hd]at hd2;cases hd2;have:=hp.length;have e':=congrArg uO e;rw[aW,aW]at e';rw[←g7f,this,e'];exact bV _
   obtain⟨g1,g2,g3⟩:=QL (d:=d) (vals:=ks'.map (·.2)) gr g go hs ⟨hi,hz⟩ r;exact hQ _ _ _ _ g1 g2 g3
end
section
theorem d9k(S:cj prog w Lx base Z)(nd:c7 Z.ah){x:X}{t:T}{own:List Nat}{gs:List xK}
  (H:dj prog w Lx base Z n) (TT:lO prog w Lx base Z n) (rm:Rm A s n) (c:bQ sc env) (co:v9 sc cs Z.ah=true) (he:oZ tg it=true) (te:ue (aK Z.ah k cs) (aK.jC Z.ah k cs) (iS Z.ah cs) elt gs=some x) (tt:iS Z.ah cs tg=some t) (nZ:aK.jC Z.ah k sc it=some ix) (ti:bJ (aK Z.ah k cs) ifs=some xs) (ho:zh cs Z.ah=some own)
  (er:ER Z.ah base env J as s.heap) (gr:GR Lx base O as s.heap) (RR:FW prog w Lx base Z A E env as s tg it n x t xs (J.filter λp=>!own.contains p.1) zs ai)
  (hQ:Post Lx base as s (.lst zs) ai Q):au (model prog w) A (eval (.ListComp elt (⟨tg,it,ifs,0⟩::gs) cs pos) env) Q E s:=by
 show au (model prog w) A (comprehension (.ListComp elt (⟨tg,it,ifs,0⟩::gs) cs pos) cs env (firstIterPos (⟨tg,it,ifs,0⟩::gs) pos) (newList []) false (eval it env)) Q E s;refine QX S nd H TT rm c co he te tt nZ ti ho er gr RR λD C as' h' tk m g dI go r hm f hC hb hw=>?_;refine⟨m,hm,λh'' hs=>?_⟩;have y:∀a o,a≠C->h'.get? a=some o->h''.get? a=some o:=λa o ha e=>(hs.2 a ha).trans e;exact hQ (.ref D) as' h'' tk (g.mod f hb y) (go.mod hC f.off y) (r.ks (f.ks y))
theorem ZU{a:Expr}{lo hi st:Option Expr}{p:Pos}{x:X}{xl xh xs:Option X}{vl vh Em:Option V}{pl ph ps:Option Int}{tC:Mu}(H:dj prog w Lx base Z n)(rm:Rm A s n)(c:bQ sc env)
  (ta:aK Z.ah k sc a=some x) (tl:tX (aK Z.ah k sc) lo=some xl) (th:tX (aK Z.ah k sc) hi=some xh) (ts:tX (aK Z.ah k sc) st=some xs)
  (er:ER Z.ah base env J as s.heap) (gr:GR Lx base O as s.heap) (h1:ev Z n x J O=some (u,aA)) (h2:kH (λx O=>ev Z n x J O) xl aA=some (vl,aE)) (h3:kH (λx O=>ev Z n x J O) xh aE=some (vh,bS)) (h4:kH (λx O=>ev Z n x J O) xs bS=some (Em,tC))
  (p1:kP vl=some pl) (p2:kP vh=some ph) (p3:kP Em=some ps) (hr:slice (bg tC u) pl ph ps=some r) (hQ:Post Lx base as s r tC Q):au (model prog w) A (eval (.Subscript a (.Slice lo hi st p) pos) env) Q E s:=by
 refine RS (d9 H ta rm c er gr h1 λav aG hY dh rm gI bR aM ra=>wpAny_Slice ?_);refine Ht H rm c tl bR gI h2 λlv cz hJ dN rm gJ bI cW T3=>?_;refine Ht H rm c th bI gJ h3 λhv qo h₃ nY rm gT oA di T4=>?_;refine Ht H rm c ts oA gT h4 λsv iF hU jR rm gU kK jn ps'=>?_;have TU:=((ra.go cW).go di).go jn;have gM:=gU.push {cls:=.type "slice",data:=.fields #[lv,hv,sv]}
 have vg:=gU.go.push {cls:=.type "slice",data:=.fields #[lv,hv,sv]}
 have FN:=(((aM.trans cW).trans di).trans jn).trans vg;have hsl:(hU.push {cls:=.type "slice",data:=.fields #[lv,hv,sv]}).IsSliceOf hU.objs.size lv hv sv:=⟨_,fq _ rfl,rfl,rfl⟩
 have rl:=gG gM (TU.go vg);have core:=d8v (prog:=prog) (w:=w) (A:=A) (E:=E) (s:={s with heap:=hU.push {cls:=.type "slice",data:=.fields #[lv,hv,sv]},toks:=jR}) hr rl hsl (T3 _ p1) (T4 _ p2) (ps' _ p3) gM (hQ.after FN)
 have hsub:∀o i:ao,∃ops,subscripted (.Slice lo hi st p) false o i=operate ops (getItem o i):=by
  intro o i;induction st using aT with
  |none=>exact⟨_,rfl⟩
  |some e=>exact⟨_,rfl⟩
 obtain⟨ops,E6⟩:=hsub av (.ref hU.objs.size);induction hk:bg tC u using Internal.V.casesOn with
 |lst l=>
  rw[hk]at rl;obtain⟨aa,vs,rfl,hp,_⟩:=rl;exact tail_any hp.isList.typeIs TP.lookup core E6
 |tup l=>
  rw[hk]at rl;obtain⟨aa,vs,rfl,_,hp,_⟩:=rl;exact tail_any (T:="tuple") hp.typeIs TN.lookup core E6
 |str l=>
  rw[hk]at rl;obtain⟨_,rfl⟩:=rl;exact tail_any (typeIs_str _ _ _) slot_str_getitem.lookup core E6
 |_=>rw[hk]at hr;exact jT hr λzz h=>ns h
theorem Ip{x:X}(t:aK Z.ah k sc e=some x):¬e.ctorIdx=26:=λq=>by
 revert t;exact RV e q λzz zz zz zz t=>by cases k<;>exact ns t
theorem yL{r:α}{G:Prop}{e:Option (V×Mu)}{f:Int->Mu->Option α}(h:(match e with|some (.int i,O)=>f i O|_=>.none)=some r)(k:∀i O,e=some (.int i,O)->f i O=some r->G):G:=by
 induction e using aT with
 |none=>exact ns h
 |some p=>cases p with|mk v O=>induction v using Internal.V.casesOn<;>first|exact k _ _ rfl h|exact ns h
theorem WT{r:γ}{P:Prop}{a b c:Option (Option Int)}{f:Option Int->Option Int->Option Int->Option γ}(h:(match a,b,c with|some l,some h,some s=>f l h s|_,_,_=>.none)=some r)(k:∀l h s,a=some l->b=some h->c=some s->f l h s=some r->P):P:=by
 induction a using aT with
 |none=>exact ns h
 |some a=>induction b using aT with
  |none=>exact ns h
  |some b=>induction c using aT with
   |none=>exact ns h
   |some c=>exact k _ _ _ rfl rfl rfl h
theorem c4x:∀{n:Nat}{l:List ao} (f:Nat->Int),l.length=n->(∀j v,l[j]?=some v->∃t,v=Jm (f j) t)->aJ h as ((dw n).map λi=>V.int (f i)) l:=by
 intro n;induction n with
 |zero=>
  intro l f hl _;exact xD hl
 |succ n ih=>
  intro l f hl hk;induction l using aN with
  |nil=>cases hl
  |cons v l=>
   rw[List.range_succ_eq_map,fm,gk];exact .cons (hk 0 v rfl) (ih (λj=>f (j+1)) (lR hl) λj v hv=>hk (j+1) v hv)
theorem Rl{f:ao}{Q:Args->aC->Prop}(he:fL e=true)(h:au (model prog w) A (eval e env) (λv s'=>Q ⟨[v],[]⟩ s') E s):au (model prog w) A (evalArgs f true (backTo pos (starEach [e] env)) []) Q E s:=by
 have:=uW (pos:=pos) (Q:=λvs s'=>Q ⟨vs,[]⟩ s') (kq h (λv s' h'=>uV (pos:=pos) (env:=env) (Q:=λvs s'=>Q ⟨v::vs,[]⟩ s') h') λzz zz e=>e) (qH he);rw[qH he]at this ⊢;exact evalArgs_plain this
theorem c4q(b:Int):(nU 0 b 1).toNat=b.toNat:=by
 unfold nU;rw[if_pos (by decide)];by_cases h:(0:Int)<b
 ·rw[if_pos h];simp
 ·rw[if_neg h,g5y (i6.mp h)];rfl
theorem d1w(S:cj prog w Lx base Z){ar:Expr}{x:X}{b:Int}(H:dj prog w Lx base Z n)(rm:Rm A s n)(c:bQ sc env)(hl:F4 sc e=some ar)(t:aK Z.ah k sc ar=some x)
  (er:ER Z.ah base env J as s.heap) (gr:GR Lx base O as s.heap) (h:ev Z n x J O=some (.int b,aA)) (hs:pY 0 b 1=true) (hz:b.toNat<=big) (hQ:Post Lx base as s (.lst (mP 0 b 1)) aA Q):au (model prog w) A (eval e env) Q E s:=by
 refine Zi hl λp1 p2 p3 p4 eq h1 h2 h3=>?_;subst eq;refine xQ (qC (x:="list") (by decide +kernel) h1 c er gr S.list (Jt rfl (Rl rfl ?_)))
 refine xQ (qC Qi h2 c er gr S.range (Jt (zT p3 (by rw[D8,h3];rfl)) (Rl h3 (d9 H t rm c er gr h λv aG hY tk rm g bR go rv=>?_))));obtain⟨tt,rfl⟩:=rv;refine call_range_1 ?_;have hn:(nU 0 b 1).toNat<=2^24:=by rw[c4q];exact aV hz (nb rfl)
 refine call_list_range rm.calm (g5x ..) hs (PyProof.Rows.rangeSize_toNat 0 b 1) hn λh' tk' acc cu hk hS hI=>?_;have gI:=g.push {cls:=.type "range",data:=.fields #[.int 0 tk,.int b tt,.int 1 (tk+1)]}
 have FN:=go.push {cls:=.type "range",data:=.fields #[.int 0 tk,.int b tt,.int 1 (tk+1)]}
 obtain⟨gJ,cW⟩:=gI.all (h':=h') λa o zz e=>hk a o e;refine hQ _ _ h' tk' gJ (FN.trans cW) ⟨_,acc.toList,rfl,gI.kB,⟨cu,hS⟩,?_⟩;exact c4x _ (by simpa using hI.1) λj v hv=>hI.2 j v (by simpa using hv)
theorem QB{f fI:Expr->Option X}{ft:Expr->Option T}{gs:List xK}{x:X}(h:ue f fI ft elt gs=some x):gs.isEmpty=true->¬ zg x=true:=λhg=>by
 induction gs using aN with
 |nil=>exact aO h λy zz h=>jT h λhn h=>aD h▸hn
 |cons _ _=>exact nt hg
theorem e3d(S:cj prog w Lx base Z)(nd:c7 Z.ah)(n:Nat)(H:dj prog w Lx base Z n)(TT:lO prog w Lx base Z n):dj prog w Lx base Z (n+1):=by
 intro x k sc e t A E env J O as s r ai Q rm c er gr h hQ;have bk:=rm.less (iA n);refine oK λG0 hG=>?_;induction k using eG with
 |zero=>exact ns t
 |succ k=>
  generalize he:e=e' at t;induction e' using mT with
  |Constant v _ _=>exact aZ t λv t e1=>hG (he▸e8o t rm.tk gr (jS (dR e1 h) hQ))
  |Name x p=>
   exact jT t λhd t=>bZ t
    (λhv t=>aZ t λi t e1=>rK (dR e1 h) hQ λv hl hQ=>hG (he▸Hy (jA.mpr hd) hv t c er gr hl hQ))
    λzz t=>aL t λhv t=>aZ t λi t e1=>rK (dR e1 h) hQ λv hl hQ=>by
     obtain⟨x',u,h1,h2,h3⟩:=S.glob i v hl;cases (fQ t).symm.trans h1;exact hG (he▸qC (Wx hd) hv c er gr h2 (hQ.now gr (h3 _ _)))
  |BinOp l op r0 p=>
   exact aO t λa t1 t=>aZ t λb t2 e=>cX (dR e h) λu aA h1 h=>cX h λv aE h2 h=>rK h hQ λr hb hQ=>
    hG (he▸wpAny_BinOp (C9 H t1 t2 bk c er gr h1 h2 λa b aG hY tk bk gI bR aM ra rb=>d9e hb (gG gI ra) (gG gI rb) bk.calm bk.tk gI (hQ.after aM)))
  |UnaryOp op y p=>cases op with
   |USub=>
    exact aZ t λy t e1=>yL (dR e1 h) λi aA h1 h=>hG (he▸UnaryOp_ (d9 H t bk c er gr h1 λa aG hY tk bk gI bR aM ra=>by
     obtain⟨tt,rfl⟩:=ra;exact PyProof.Rows.neg_int (((jS h hQ).after aM).now gI ⟨_,rfl⟩)))
   |Not=>exact aZ t λy t e1=>cX (dR e1 h) λv aA h1 h=>rK h hQ λb hb hQ=>hG (he▸UnaryOp_ (d9 H t bk c er gr h1 λa aG hY tk bk gI bR aM ra=>not_of (wL hb (gG gI ra) λtk'=>hQ _ aG hY tk' gI aM rfl)))
   |_=>exact ns t
  |Compare l ops rs p=>
   refine fH t (λr1 hr t1=>aO t1 λo1 ho zz=>?_) λzz t1=>aO t1 λr1 hr t1=>aO t1 λo1 ho zz=>?_
   ·rw[pe hr,pe ho]at t he
    obtain⟨hm,_,core⟩:=IT S H t rm c er gr h hQ;exact hG (he▸wpAny_Compare1 core hm)
   ·rw[wu hr,wu ho]at t he
    exact hG (he▸d4z S.booked H t rm c er gr h hQ)
  |BoolOp op l p=>cases op with
   |And=>exact aZ t λy t e1=>hG (he▸e5j H c _ _ _ _ _ _ _ _ _ bk t er gr (dR e1 h) hQ)
   |Or=>exact aZ t λy t e1=>hG (he▸e9d H c _ _ _ _ _ _ _ _ _ bk t er gr (dR e1 h) hQ)
  |IfExp c0 a b p=>
   exact aO t λy0 t9 t=>aO t λy1 t1 t=>aZ t λy2 t2 e=>cX (dR e h) λv aA h1 h=>qg h
    (λhb1 h=>hG (he▸Kn (qB TT t9 bk c er gr h1 hb1 λas' h' tk bk g go=>H y1 k sc _ t1 A E env J aA as' _ r ai Q bk c (er.go go) g h (hQ.after go))))
    λhb1 h=>hG (he▸Kn (qB TT t9 bk c er gr h1 hb1 λas' h' tk bk g go=>H y2 k sc _ t2 A E env J aA as' _ r ai Q bk c (er.go go) g h (hQ.after go)))
  |Dict ks vs p=>
   exact aL t λhlen t=>aZ t λy t1 e1=>lH (dR e1 h) λus aA h1 h=>aZ h λd hd h=>hG (he▸e6w H bk c (of_decide_eq_true hlen) t1 er gr h1 hd (jS (congrArg some h) hQ))
  |Tuple l _ p=>
   exact aL t λhp t=>aZ t λy t e1=>lH (dR e1 h) λvs aA h1 h=>aL h λhlen h=>
    hG (he▸Tr (Ct H c _ _ _ _ _ _ _ _ _ bk hp t er gr h1 λvals as' h' tk bk g go rv=>⟨by rw[rv.length];exact lP hlen,((jS h hQ).after go).new g (Jg (s:={s with heap:=h',toks:=tk}) g rv)⟩))
  |List l p=>
   exact aL t λhp t=>aZ t λy t e1=>lH (dR e1 h) λvs aA h1 h=>aL h λhlen h=>
    hG (he▸Km (Ct H c _ _ _ _ _ _ _ _ _ bk hp t er gr h1 λvals as' h' tk bk g go rv=>⟨by rw[rv.length];exact lP hlen,((jS h hQ).after go).new g (Jb (s:={s with heap:=h',toks:=tk}) g rv)⟩))
  |Subscript a i p=>
   refine fH t (λq hq t=>?_) λzz t=>?_
   ·obtain⟨p',rfl⟩:=b8d hq
    exact aO t λy t1 t=>aO t λyl t2 t=>aO t λyh t3 t=>aZ t λys t4 e=>cX (dR e h) λu aA h1 h=>Gm h λvl aE h2 h=>Gm h λvh bS h3 h=>Gm h λEm tC h4 h=>WT h λpl ph ps p1 p2 p3 h=>rK h hQ λr hr hQ=>
     hG (he▸ZU H bk c t1 t2 t3 t4 er gr h1 h2 h3 h4 p1 p2 p3 hr hQ)
   ·exact fH t
     (λg hg t=>aO t λj hj t=>aZ t λy t1 e=>Nf (dR e h) λx aA l' h1 hd h=>rK h hQ λkk hl hQ=>by
      obtain⟨p,rfl,Fd,Fg⟩:=QT hg;obtain⟨g',ad,hx,gn,tab⟩:=S.lE j l' hd;cases (fQ hj).symm.trans hx;refine hG (he▸RS (qC Fg Fd c er gr gn (d9 H t1 bk c er gr h1 λa aG hY tk bk gI bR aM ra=>?_)));obtain⟨tt,rfl⟩:=ra;refine item_strTab (D:=Cc l') (dv:=.int kk) (tab.keep gI.keep) (by rw[Rf,hl];rfl) (λv hv=>?_) (Ru (Ip t1) _ _) (λzz=>rfl);obtain⟨tt',rfl⟩:=hv.int_inv;exact(hQ.after aM).now gI ⟨_,rfl⟩)
     λzz t=>aO t λy t1 t=>aZ t λz t2 e=>cX (dR e h) λu aA h1 h=>cX h λv aE h2 h=>rK h hQ λr hr hQ=>
      hG (he▸RS (C9 H t1 t2 bk c er gr h1 h2 λa b aG hY tk bk gI bR aM ra rb=>e6g hr ra rb gI (Ru (Ip t2) _ _) (hQ.after aM)))
  |Call f args kws p=>induction kws using aN with
   |nil=>
    refine fH t (λf0 hf t=>?_) λzz t=>aO t λq hq t=>?_
    ·obtain⟨p',rfl⟩:=mQ hf
     refine fH t (λar hl t=>aZ t λx t e1=>yL (dR e1 h) λb aA h1 h=>aL h λhs h=>hG (he▸d1w S H bk c hl t er gr h1 (aP hs) (of_decide_eq_true (aR hs)) (jS h hQ))) λzz t=>?_;exact aL t λhq t=>aO t λi hi t=>aZ t λl t e1=>lH (dR e1 h) λvs aA h1 h=>by
      obtain⟨x',f,hx,gn,hf,hc⟩:=S.call n i vs aA r ai h;cases (fQ hi).symm.trans hx;exact hG (he▸xQ (qC (kM (aR (aP hq))) (aP (aP (aP (aP hq)))) c er gr gn (RA (us:=[]) (first:=[]) H bk c (aR (aP (aP (aP hq)))) t er gr h1 hf .nil hc hQ)))
    ·rw[Rt hq]at he
     exact aL t λhq t=>aO t λi hi t=>aO t λo to t=>aZ t λl tl e1=>cX (dR e1 h) λu aA h1 h=>aL h λhf h=>lH h λvs aE h2 h=>
      hG (he▸e5m S H bk c hi to tl (aP (aP hq)) (of_decide_eq_true (aR (aP hq))) (aR hq) er gr h1 hf h2 h hQ)
   |cons _ _=>exact ns t
  |Attribute o m p=>exact aO t λi hi t=>aZ t λo to e=>cX (dR e h) λu aA h1 h=>rK h hQ λr hr hQ=>hG (he▸e5p S H bk c hi to er gr h1 hr hQ)
  |ListComp elt gens cs p=>induction gens using aN with
   |nil=>exact ns t
   |cons g gs=>cases g with|mk tg it ifs i=>cases i with
    |negSucc _=>exact ns t
    |ofNat i=>induction i using eG with
     |succ _=>exact ns t
     |zero=>
      exact aL t λhq t=>aO t λe1 h1 t=>aO t λt1 h2 t=>aO t λq7 h3 t=>aO t λq8 h4 t=>aZ t λKY h5 e=>Qd S H bk c (aR hq) h2 h3 (QB h1) er gr (dR e h) λys aE RR h=>
       hG (he▸d9k S nd H TT bk c (aP hq) (aR hq) h1 h2 h3 h4 h5 er gr RR (jS h hQ))
  |_=>exact ns t
end
section
theorem jG(S:cj prog w Lx base Z)(nd:c7 Z.ah):∀n,dj prog w Lx base Z n/\lO prog w Lx base Z n:=by
 intro z_;induction z_ with
 |zero=>
  exact⟨λx k sc e t A E env J O as s r ai Q rm c er gr h=>ns h,λx k sc e t A E env J O as s r b ai Q rm c er gr h=>ns h⟩
 |succ n ih=>
  obtain⟨H,TT⟩:=ih;have H1:=e3d S nd n H TT;exact⟨H1,c7v S n H H1 TT⟩
noncomputable def Hx(e:Expr):Option (List Expr):=if h:e.ctorIdx=24 then g3s e h λl zz=>some l else .none
noncomputable def GL(e:Expr):Option (Expr×Expr):=if h:e.ctorIdx=2 then g3v e h λl op r zz=>if op==.Add then some (l,r)else .none else .none
noncomputable def GF(e:Expr):Option (Expr×Expr):=if h:e.ctorIdx=21 then g3q e h λo i zz=>some (o,i)else .none
noncomputable def HH(e:Expr):Option Const:=if h:e.ctorIdx=19 then g3u e h λc zz zz=>some c else .none
theorem Rv{l:List Expr}:Hx e=some l->∃p,e=.List l p:=
 if q:e.ctorIdx=24 then g3s e q (λzz p h=>⟨p,aD h▸rfl⟩)else λh=>ns ((dif_neg q).symm.trans h)
theorem Rn{r:Expr×Expr}:GL e=some r->∃p,e=.BinOp r.1 .Add r.2 p:=
 if q:e.ctorIdx=2 then g3v e q (λzz zz zz p h=>aL h λh1 h=>⟨p,aD h▸eq_of_beq h1▸rfl⟩)else λh=>ns ((dif_neg q).symm.trans h)
theorem Rp{r:Expr×Expr}:GF e=some r->∃p,e=.Subscript r.1 r.2 p:=
 if q:e.ctorIdx=21 then g3q e q (λzz zz p h=>⟨p,aD h▸rfl⟩)else λh=>ns ((dif_neg q).symm.trans h)
theorem Qe{c:Const}:HH e=some c->∃k p,e=.Constant c k p:=
 if q:e.ctorIdx=19 then g3u e q (λzz k p h=>⟨k,p,aD h▸rfl⟩)else λh=>ns ((dif_neg q).symm.trans h)
noncomputable def xT(ah:List Str)(k:Nat)(sc:dF)(m:Bool)(e:Expr):Option X:=
 if m then(Hx e).elim ((GL e).bind λq=>(aK ah k sc q.1).bind λa=>(aK ah k sc q.2).map λb=>.u6 a b) λl=>if l.all fL then(bJ (aK ah k sc) l).map .jD else .none
 else aK ah k sc e
theorem d2x{G:Prop}(h:(cP .Add u v).bind G7=some l)(k:∀a b,u=.lst a->v=.lst b->a.length+b.length<=big->a++b=l->G):G:=by
 refine aO h λx h1 h=>?_;induction x using Internal.V.casesOn with
 |lst y=>
  obtain rfl:=aD h;induction u using Internal.V.casesOn with
  |lst a=>induction v using Internal.V.casesOn with
   |lst b=>exact aL h1 λhl h2=>k a b rfl rfl (of_decide_eq_true hl) (by cases h2;rfl)
   |_=>exact ns h1
  |int _=>induction v using Internal.V.casesOn<;>first|exact ns h1|cases h1
  |aq _=>induction v using Internal.V.casesOn<;>first|exact ns h1|cases h1|(exact aL h1 λzz h=>by cases h)
  |str _=>induction v using Internal.V.casesOn<;>first|exact ns h1|(exact aL h1 λzz h=>by cases h)
  |_=>exact ns h1
 |_=>exact ns h
theorem YV{l':List V}{a b:ao}(ra:fT s.heap as (.lst l) a)(rb:fT s.heap as (.lst l') b)(hsz:l.length+l'.length<=big)(g:GR Lx base O as s.heap)
  (hQ:Post Lx base as s (.mut O.length) (O++[.list (l++l')]) Q):au (model prog w) A (binaryOp .Add a b) Q E s:=by
 obtain⟨a,vs,rfl,hl,rl⟩:=ra;obtain⟨b,ws,rfl,hb,rb⟩:=rb;obtain⟨n,ho⟩:=id hl;obtain⟨n2,ho2⟩:=id hb;have e:vs.toArray++ws.toArray=(vs++ws).toArray:=by simp
 have hs:vs.toArray.size+ws.toArray.size<=sizeLine:=by
  rw[dG,dG,rl.length,rb.length];exact lP hsz
 refine concat_meets ⟨_,ho,rfl⟩ ⟨_,ho2,rfl⟩ noFill_list_add seq_list_add g3j g3m (g3o _ _) (list_addW a b vs.toArray ws.toArray n n2 _ _ _ _ hs) ⟨ho,ho2,?_⟩;rw[e];obtain⟨g',go'⟩:=g.newList (rl.append rb);refine hQ _ _ _ _ g' go' ⟨s.heap.objs.size,[],?_,rfl⟩;rw[fY (gY g.len),g.len,jy];rfl
theorem Ou(S:cj prog w Lx base Z)(nd:c7 Z.ah){m:Bool}{x:X}(t:xT Z.ah k sc m e=some x)(rm:Rm A s n)(c:bQ sc env)
  (er:ER Z.ah base env J as s.heap) (gr:GR Lx base O as s.heap) (h:ev Z n x J O=some (r,ai)) (hQ:Post Lx base as s r ai Q):au (model prog w) A (eval e env) Q E s:=by
 refine bZ t (λzz t=>?_) λzz t=>(jG S nd n).1 x k sc e t A E env J O as s r ai Q rm c er gr h hQ;refine fH t (λl hn t=>?_) λzz t=>aO t λq hn t9=>?_
 ·obtain⟨pos,rfl⟩:=Rv hn
  refine aL t λhp t=>aZ t λxs t1 e1=>?_;induction n using eG with
  |zero=>exact ns (e1▸h)
  |succ n=>
   refine lH (dR e1 h) λvs aA h1 h=>aL h λhlen h=>?_;refine Km (Ct (jG S nd n).1 c _ _ _ _ _ _ _ _ _ (rm.less (iA n)) hp t1 er gr h1 λvals as' h' tk zz g go rv=>⟨by rw[rv.length];exact lP hlen,?_⟩);obtain⟨g',go'⟩:=g.newList rv;refine jS h hQ _ _ _ tk g' (go.trans go') ⟨h'.objs.size,[],?_,rfl⟩;rw[fY (gY g.len),g.len];simp
 ·obtain⟨p,rfl⟩:=Rn hn
  refine aO t9 λxa t1 t=>aZ t λxb t2 e1=>?_;induction n using eG with
  |zero=>exact ns (dR e1 h)
  |succ n=>
   exact cX (dR e1 h) λu aA h1 h=>cX h λv aE h2 h=>aZ h λl hl h=>d2x hl λla lb ea eb hlen el=>wpAny_BinOp (C9 (jG S nd n).1 t1 t2 (rm.less (iA n)) c er gr h1 h2 λa b aG hY tk rm gI bR aM ra rb=>
    YV (ea▸gG gI ra) (eb▸gG gI rb) hlen gI (el▸(jS (congrArg some h) hQ).after aM))
noncomputable def isList(e:Expr):Bool:=(Hx e).isSome||(GL e).isSome
noncomputable def qp(e:Expr):Bool:=cU e.ctorIdx 8
noncomputable def M6{α β γ:Type}(f:α->β->Option γ):List α->List β->Option (List γ)
 |[],[]=>some []
 |a::r,b::q=>(f a b).bind λc=>(M6 f r q).map λd=>c::d
 |_,_=>.none
noncomputable def Hf(ah:List Str)(k:Nat)(sc:dF)(mt:List Str)(ts vs:List Expr):Option (List X):=
 M6 (λt v=>(kU t).bind λx=>xT ah k sc (mt.contains x&&isList v) v) ts vs
noncomputable def Cm:List Nat->Bool
 |[]=>true
 |a::r=>!r.contains a&&Cm r
noncomputable def Iz(e:Expr):Option (Str×Str):=(HC e).bind λq=>(kU q.1).map λx=>(x,q.2.1)
theorem RM{q:Str×Str}(h:Iz e=some q):∃p p',e=.Attribute (.Name q.1 p) q.2 p':=
 aO h λr hr h=>aZ h λx hx e1=>by
  obtain⟨p,hN⟩:=mQ hx;exact⟨p,r.2.2,by rw[Rt hr,hN,←e1]⟩
noncomputable def Cg (sc:dF) (v:Expr):Option Str:=(wR v).bind λq=>(l2 q.2).bind λa=>(Iz a.1).bind λxa=>if q.1==("iter":Str)&&xa.2==("_read_char":Str)&&(HH a.2==some (.str ""))&&gb sc q.1&&gS sc xa.1&&!(xa.1==("__debug__":Str))&&!(xa.1==("__classdict__":Str))then some xa.1 else .none
theorem Px  {v:Expr}{y:Str}{P:Prop} (h:Cg sc v=some y) (k:∀p1 p2 p3 p4 p5 kd,v=.Call (.Name "iter" p1) [.Attribute (.Name y p2) "_read_char" p3,.Constant (.str "") kd p4] [] p5->gb sc "iter" = true->gS sc y=true->(y==("__debug__":Str))=false->(y==("__classdict__":Str))=false->P):P:=by
 refine aO h λq hq h=>aO h λa ha h=>aO h λxa hx h=>aL h λhc h9=>?_;obtain⟨p1,p5,hE⟩:=Ae hq;obtain⟨p2,p3,hA⟩:=RM hx;have h1:=aP (aP (aP (aP hc)));obtain⟨kd,p4,hB⟩:=Qe (eq_of_beq (aR h1));have e1:xa.1=y:=aD h9;have f1:q.1 = "iter":=eq_of_beq (aP (aP h1))
 have f2:xa.2 = "_read_char":=eq_of_beq (aR (aP h1))
 exact k p1 p2 p3 p4 p5 kd (by rw[hE,wu ha,hA,hB,f1,f2,e1]) (f1▸aR (aP (aP (aP hc)))) (e1▸aR (aP (aP hc))) (e1▸kM (aR (aP hc))) (e1▸kM (aR hc))
noncomputable def M8 (sc:dF) (e:Expr):Option Str:=(kU e).bind λx=>if x==("fiter":Str)&&gS sc x then some x else .none
noncomputable def GH (sc:dF) (v:Expr):Option Expr:=(wR v).bind λq=>(l1 q.2).bind λe=>if q.1==("_netrclex":Str)&&gb sc q.1&&fL e then some e else .none
theorem PG  {v:Expr}{P:Prop} (h:GH sc v=some e) (k:∀p1 p2,v=.Call (.Name "_netrclex" p1) [e] [] p2->gb sc "_netrclex" = true->fL e=true->P):P:=by
 refine aO h λq hq h=>aO h λa ha h=>aL h λhc h9=>?_;obtain⟨p1,p5,hE⟩:=Ae hq;have e1:a=e:=aD h9;have h1:q.1 = "_netrclex":=eq_of_beq (aP (aP hc))
 exact k p1 p5 (by rw[hE,pe ha,h1,e1]) (h1▸aR (aP hc)) (e1▸aR hc)
noncomputable def lW(ah:List Str)(mt:List Str):Nat->dF->Stmt->Option S
 |0,_,_=>.none
 |k+1,sc,st=>PySem.Stmt.casesOn (motive_2:=λzz=>Option S) st
  (λzz zz zz zz zz zz zz zz zz zz=>.none) (λzz zz zz zz zz zz zz zz zz zz=>.none) (λzz zz zz zz zz zz zz zz zz zz zz=>.none)
  (λe zz=>e.bind λe=>(aK ah k sc e).map .ret)
  (λzz zz=>.none)
  (λts v zz=>(l1 ts).bind λt=>(kU t).elim
   ((yX t).elim
    ((GF t).bind λq=>(kU q.1).bind λx=>if gS sc x&&!(x==("__debug__":Str)||x==("__classdict__":Str))then(nid ah x).bind λi=>(aK ah k sc q.2).bind λke=>(aK ah k sc v).map λe=>.store i ke e else .none)
    λts=>(yX v).elim ((bJ (oR ah sc) ts).bind λis=>(aK ah k sc v).map λe=>.unpack is e)
     λvs=>if vs.all fL&&(!(vs.all (constantsAlone 8))||vs.all (foldedForSure 8))then(bJ (oR ah sc) ts).bind λis=>(Hf ah k sc mt ts vs).bind λl=>if Cm is then some (.unpack is (.tup l))else .none
      else .none)
   λx=>if cS sc x then(nid ah x).bind λi=>(Cg sc v).elim ((GH sc v).elim ((xT ah k sc (mt.contains x&&isList v) v).map (.assign i)) λe=>(aK ah k sc e).map (.kG i)) λy=>(nid ah y).map (.fit i)else .none)
  (λzz zz zz zz zz zz zz=>.none)
  (λt op v zz=>if op==.Add then(kU t).elim
    ((GF t).elim
     ((Iz t).bind λq=>if(HH v==some (.int 1))&&gS sc q.1&&q.2==("lineno":Str)&&!(q.1==("__debug__":Str))&&!(q.1==("__classdict__":Str))then(nid ah q.1).map .line else .none)
     λq=>(kU q.1).bind λx=>if gS sc x&&!(x==("__debug__":Str)||x==("__classdict__":Str))then(nid ah x).bind λi=>(aK ah k sc q.2).bind λke=>(aK ah k sc v).map λe=>.wg i ke e else .none)
    λx=>if cS sc x then(nid ah x).bind λi=>(aK ah k sc v).map λe=>.aug i .Add e else .none
   else .none)
  (λzz zz zz zz zz=>.none)
  (λt it body els zz=>if els.isEmpty then(M8 sc it).elim (if oZ t it then(iS ah sc t).bind λt=>(aK.jC ah k sc it).bind λit=>(ku ah mt k sc body).map λbody=>.for t it body else .none)
    λx=>(iS ah sc t).bind λt=>(nid ah x).bind λi=>(ku ah mt k sc body).map λb=>.chars t i b
   else .none)
  (λzz zz zz zz zz=>.none) (λzz zz zz zz=>.none)
  (λc a b zz=>(aK ah k sc c).bind λc=>(ku ah mt k sc a).bind λa=>(ku ah mt k sc b).map λb=>.ite c a b)
  (λzz zz zz=>.none) (λzz zz zz=>.none) (λzz zz zz=>.none) (λzz zz zz=>.none) (λzz zz zz zz zz=>.none) (λzz zz zz zz zz=>.none) (λzz zz zz=>.none) (λzz zz=>.none) (λzz zz zz zz=>.none) (λzz zz=>.none) (λzz zz=>.none)
  (λe zz=>if qp e then .none else(aK ah k sc e).map .expr)
  (λzz=>.none) (λzz=>some .brk) (λzz=>some .cont)
where
 ku (ah:List Str) (mt:List Str):Nat->dF->List Stmt->Option (List S)
 |0,_,_=>.none
 |k+1,sc,l=>match l with
  |[]=>some []
  |st::r=>(lW ah mt k sc st).bind λa=>(ku ah mt k sc r).map λb=>a::b
end
section
theorem GR.upd(g:GR Lx base O as h){m:M}(hk:as[k+1]?=some aH)(rq:k<O.length)(kp:∀b o,b∉aH->h.get? b=some o->h'.get? b=some o)(al:∀a∈aH,∃o,h'.get? a=some o)
  (hm:Ks as h h'->nT Lx h' as m aH):GR Lx base (O.set k m) as h'/\Go as h as h':=by
 have sub:∀a∈aH,a∈as.flatten:=λa ha=>gO.mpr ⟨aH,g6 hk,ha⟩;have TG:∀a∈aH,a∈as.tail.flatten:=λa ha=>gO.mpr ⟨aH,by
  have:as.tail[k]?=some aH:=by rw[SH];exact hk
  exact g6 this,ha⟩
 have ks:Ks as h h':=λb o hb e zz=>kp b o (λq=>hb (sub b q)) e;have alive:∀b∈as.flatten,∃o,h'.get? b=some o:=λb hb=>by
  by_cases q:b∈aH
  ·exact al b q
  ·obtain⟨o,e⟩:=g.alive b hb;exact⟨o,kp b o q e⟩
 refine⟨⟨λb o e=>kp b o (λq=>by rw[g.fresh b (sub b q)]at e;exact ns e) (g.keep b o e),g.fresh,g.nd,alive,by rw[pN];exact g.len,λj M jY hj iB=>?_⟩,⟨⟨[],by simp,by simp⟩,λb o hb e=>kp b o (λq=>hb (TG b q)) e,alive⟩⟩;by_cases q:j=k
 ·subst q
  rw[xB rq,j9]at hj;subst hj;rw[hk,j9]at iB;subst iB;exact hm ks
 ·rw[lz (λz=>q z.symm)]at hj
  have hM:=g.dQ j M jY hj iB;have hn:∀a∈jY,a∉aH:=λa ha=>II g iB hk (by exact BJ q) ha;exact hM.mv (λb hb o e=>kp b o (hn b hb) e) (λe=>e) (aJ.ks ks)
theorem c9p{q:Int}{x:V}{l:List (Int×V)}{v:ao}:(λy=>if y=q then some v else oJ l vs y)=oJ ((q,x)::l) (v::vs):=by
 funext y;unfold oJ;rw[fm,JJ,ek];by_cases h:y=q
 ·rw[if_pos h,beq_iff_eq.mpr h]
 ·rw[if_neg h,beq_false_of_ne h]
theorem c5r(S:cj prog w Lx base Z)(nd:c7 Z.ah){p:Pos}{ke ve:Expr}{kx ex:X}{q:Int}{l:List (Int×V)}{Q:Flow->aC->Prop}
  (hd:(x==("__debug__":Str)||x==("__classdict__":Str))=false) (hv:gS env.scope x=true) (hi:nid Z.ah x=some i) (tk:aK Z.ah k env.scope ke=some kx) (te:aK Z.ah k env.scope ve=some ex) (rm:Rm A s n) (c:bQ env.scope env) (er:ER Z.ah base env J as s.heap) (gr:GR Lx base O as s.heap)
  (h1:ev Z n ex J O=some (v,aA)) (bH:J.lookup i=some (.mut j)) (h2:ev Z n kx J aA=some (.int q,aE)) (hm:aE[j]?=some (.dict l)) (hl:l.length<=big)
  (hQ:∀as' h' tk,GR Lx base (aE.set j (.dict ((q,v)::l))) as' h'->Go as s.heap as' h'->Q .next {s with heap:=h',toks:=tk}):au (model prog w) A (mR (.Assign [.Subscript (.Name x p) ke p'] ve pos) env) Q E s:=by
 have H:=(jG S nd n).1;refine wpAny_Assign_Subscript (d9 H te rm c er gr h1 λxv aG hY dh rm gI bR aM rx=>rm.with λzz=>Hy hd hv hi c bR gI bH λov cz hJ dN gJ cW ro ht=>d9 H tk (rm.at ht) c (bR.go cW) gJ h2 λkv qo h₃ nY rm gT oA di rk=>?_) (by induction ve using mT<;>rfl);obtain⟨a,rs,ea,rfl⟩:=ro.go di;obtain⟨t,rfl⟩:=rk;obtain⟨a2,vs,e4,Ba,hr⟩:=gT.dQ j _ _ hm ea;cases e4;refine wpAny_setItem_intMap_le Ba.1 Ba.2 (lP hl) λh' hi' hz' hs'=>?_;obtain⟨o',es',Gv,ho',_⟩:=id hi';obtain⟨g',go'⟩:=gT.upd (h':=h') (m:=.dict ((q,v)::l)) ea (cM.mp hm).1 (λb o hb e=>(hs'.2 b (λz=>hb (bK.mpr z))).trans e) (λb hb=>by obtain rfl:=bK.mp hb;exact⟨o',ho'⟩)
  λks=>⟨a,xv::vs,rfl,⟨c9p▸hi',hz'⟩,.cons (((rx.go cW).go di).ks ks) (hr.ks ks)⟩
 exact hQ qo h' _ g' (((aM.trans cW).trans di).trans go')
theorem c0n{l:Addr}{items:Array ao}{k:Int}{t:Tok}{v:ao}{Q:Unit->aC->Prop}(hl:s.heap.PlainList l items)
  (h0:k<0) (h1:-(items.size:Int)<=k) (hfit:-(2^63)<=k) (hQ:∀h',h'.PlainList l (items.setIfInBounds (k+items.size).toNat v)->AB l s.heap h'->Q () {s with heap:=h'}) :
  au (model prog w) A (setItem (.ref l) (.int k t) v) Q E s:=by
 obtain⟨n,ho⟩:=id hl;have ty:=hl.isList.typeIs;unfold setItem;refine nW ?_;refine aI (wpAny_sequenceKey ty (by decide) ?_);refine aI (xO (name:=lQ "__setitem__") ty slot_list_setitem
  (qY slot_list_setitem ty entry_list_setitem ?_ (args_list_setitem _ _ _)))
 show au _ _ (m6.List.listSubscript? (.int k t) >>= _) _ _ s;refine aI (wpAny_listSubscript_int (fitsIndex_neg h0 hfit) ?_);have hidx:=PySem.seqIndex_neg h0 h1;have hj:(k+items.size).toNat<items.size:=by
  have a1:=g6n h1 (items.size:Int);rw[Int.add_left_neg]at a1;have a2:=Int.add_lt_add_right h0 (items.size:Int);rw[Int.zero_add]at a2;exact(SQ a1).mpr a2
 have hx:=Array.getElem?_eq_getElem hj;have e:∃j:Nat,k=Az j:=by
  induction k using s8 with
  |ofNat n=>exact absurd h0 (i6.mpr (lB n))
  |negSucc n=>exact⟨n,rfl⟩
 clear hfit h0 h1;obtain⟨j,rfl⟩:=e;show au _ _ ((m6.List.listItems (.ref l) >>= λxs=>pure ((fz (Az j) xs.size).bind λi=>xs[i]?.map (i,·))) >>= _) _ _ s;refine aI (aI ?_);show au _ _ (seqItems? (.ref l) >>= _) _ _ s;refine aI (wpAny_seqItems ho rfl (bF (bF ?_)));rw[show((fz (Az j) items.size).bind λi=>items[i]?.map (i,·))=some (_,_)from by rw[hidx];exact congrArg (qK _) hx];show au _ _ (setSeqItemAt l _ v >>= _) _ _ s;refine aI (wpAny_setSeqItemAt ho rfl ?_);have up:(s.heap.update l (kY (·.setIfInBounds (Az j+items.size).toNat v))).PlainList l (items.setIfInBounds (Az j+items.size).toNat v):=⟨_,JY (kY (·.setIfInBounds (Az j+items.size).toNat v)) ho rfl⟩;have fin:=hQ _ up (g6p ..)
 first
  |exact aI (bF (bF ⟨.none,rfl,bF fin⟩))
  |exact bF ⟨.none,rfl,bF fin⟩
theorem YC{r:α}{G:Prop}{e:Option V}{f:Int->Option α}(h:(match e with|some (.int i)=>f i|_=>.none)=some r)(k:∀i,e=some (.int i)->f i=some r->G):G:=by
 induction e using aT with
 |none=>exact ns h
 |some v=>induction v using Internal.V.casesOn<;>first|exact k _ rfl h|exact ns h
theorem Le{r:α}{G:Prop}{e:Option M}{f:List (Int×V)->Option α}(h:(match e with|some (.dict l)=>f l|_=>.none)=some r)(k:∀l,e=some (.dict l)->f l=some r->G):G:=by
 induction e using aT with
 |none=>exact ns h
 |some m=>induction m using Internal.M.casesOn with
  |dict l=>exact k l rfl h
  |_=>exact ns h
theorem aJ.set{x:V}{v:ao}(hx:Rep h as x v):∀{l:List V}{vs:List ao} (i:Nat),aJ h as l vs->aJ h as (l.set i x) (vs.set i v):=by
 intro l;induction l with
 |nil=>intro vs i r;cases r;exact rfl
 |cons y l ih=>
  intro vs i r;obtain⟨u,us,rfl,ru,rr⟩:=r;induction i using eG with
  |zero=>exact⟨v,us,rfl,hx,rr⟩
  |succ i=>exact⟨u,_,rfl,ru,ih i rr⟩
theorem d7l(S:cj prog w Lx base Z)(nd:c7 Z.ah){pp:Nat}{p:Pos}{ke ve:Expr}{kx ex:X}{q a b:Int}{Q:Flow->aC->Prop}
  (hd:(x==("__debug__":Str)||x==("__classdict__":Str))=false) (hv:gS env.scope x=true) (hi:nid Z.ah x=some i) (tk:aK Z.ah k env.scope ke=some kx) (te:aK Z.ah k env.scope ve=some ex) (rm:Rm A s n) (c:bQ env.scope env) (er:ER Z.ah base env J as s.heap) (gr:GR Lx base O as s.heap)
  (bH:J.lookup i=some (.mut j)) (h1:ev Z n kx J O=some (.int q,aA)) (h2:item (bg aA (.mut j)) (.int q)=some (.int a)) (h3:ev Z n ex J aA=some (.int b,aE)) (hm:aE[j]?=some (.list l)) (hl:l.length<=big) (hq:q<0) (hp:fz q l.length=some pp)
  (hQ:∀as' h' tk,GR Lx base (aE.set j (.list (l.set pp (.int (a+b))))) as' h'->Go as s.heap as' h'->Q .next {s with heap:=h',toks:=tk}):au (model prog w) A (mR (.AugAssign (.Subscript (.Name x p) ke p') .Add ve pos) env) Q E s:=by
 have H:=(jG S nd n).1;refine wpAny_AugAssign_Subscript_any (rm.with λzz=>Hy hd hv hi c er gr bH λov aG hY dh gI aM ro ht=>d9 H tk (rm.at ht) c (er.go aM) gI h1 λkv cz hJ dN rm gJ bI cW rk=>?_) ?_
 rotate_left
 ·intro _ _ _
  induction ke using mT with
  |Slice _ _ _ _=>exact absurd rfl (Ip tk)
  |_=>rfl
 refine rm.with λzz=>OX h2 (gG gJ (ro.go cW)) rk gJ λav qo h₃ nY gT di ra ht=>?_;refine d9 H te (rm.at ht) c (bI.go di) gT h3 λbv iF hU jR rm gU kK jn rb=>?_;obtain⟨t,rfl⟩:=rk;obtain⟨t1,rfl⟩:=ra;obtain⟨t2,rfl⟩:=rb;obtain⟨a0,rs,ea,rfl⟩:=((ro.go cW).go di).go jn;obtain⟨a2,vs,e4,hpl,hr⟩:=gU.dQ j _ _ hm ea;cases e4;obtain⟨hj,hlo,_,hn,_⟩:=CY hp hl;obtain⟨h5,h6⟩:=hn hq;refine AutoIntOps.iadd_0 ?_;refine c0n hpl hq (by rw[dG,hr.length];exact h5) hlo λh' i8 hs'=>?_;rw[dG,hr.length,h6,List.setIfInBounds_toArray]at i8;obtain⟨m',e'⟩:=id i8;obtain⟨g',go'⟩:=gU.upd (h':=h') (m:=.list (l.set pp (.int (a+b)))) ea (cM.mp hm).1 (λb o hb e=>(hs'.2 b (λz=>hb (bK.mpr z))).trans e) (λb hb=>by obtain rfl:=bK.mp hb;exact⟨_,e'⟩)
  λks=>⟨_,_,rfl,i8,aJ.set (x:=.int (a+b)) ⟨_,rfl⟩ pp (hr.ks ks)⟩
 exact hQ iF h' _ g' ((((aM.trans cW).trans di).trans jn).trans go')
end
noncomputable def aQ(Z:G)(n:Nat)(s:S)(J:aB)(O:Mu):Option (F×aB×Mu):=match s with
  |.assign i e=>match ev Z n e J O with
   |some (v,O)=>some (.next,put i v J,O)
   |.none=>.none
  |.unpack l e=>match ev Z n e J O with
   |some (v,O)=>(wB l v J).map λJ=>(.next,J,O)
   |.none=>.none
  |.aug i op e=>match J.lookup i with
   |some u=>match ev Z n e J O with
    |some (v,O)=>(vH op u v).map λr=>(.next,put i r J,O)
    |.none=>.none
   |.none=>.none
  |.ite c a b=>match ev Z n c J O with
   |some (v,O)=>match eZ (bg O v)with
    |some true=>exec Z n a J O
    |some false=>exec Z n b J O
    |.none=>.none
   |.none=>.none
  |.for t it body=>match cT (λx O=>ev Z n x J O) it O with
   |some (vs,O)=>eB (λJ O=>exec Z n body J O) t vs J O
   |.none=>.none
  |.ret e=>match ev Z n e J O with
   |some (v,O)=>some (.ret v,J,O)
   |.none=>.none
  |.expr e=>match ev Z n e J O with
   |some (_,O)=>some (.next,J,O)
   |.none=>.none
  |.kG i e=>if Z.fB&&decide (12<=n)then match ev Z n e J O with
   |some (.mut ks,O)=>match O[ks]? with
    |some (.obj [_,_] (-3))=>some (.next,put i (.mut (O.length+1)) J,O++uv O.length ks)
    |_=>.none
   |_=>.none
   else .none
  |.fit i j=>if Z.fB&&decide (12<=n)then match J.lookup j with
   |some (.mut k)=>match O[k]? with
    |some (.obj [_,_] m)=>if 1<=m then some (.next,put i (.mut O.length) J,O++[.obj [k] (-2)])else .none
    |_=>.none
   |_=>.none
   else .none
  |.chars t i body=>if Z.fB&&decide (12<=n)then match J.lookup i with
   |some (.mut k)=>fO (λJ O=>exec Z n body J O) t k big J O
   |_=>.none
   else .none
  |.line j=>match J.lookup j with
   |some (.mut k)=>match O[k]? with
    |some (.obj is m)=>if 1<=m then some (.next,J,O.set k (.obj is (m+1)))else .none
    |_=>.none
   |_=>.none
  |.store i k e=>match ev Z n e J O with
   |some (x,O)=>match J.lookup i with
    |some (.mut j)=>match ev Z n k J O with
     |some (.int q,O)=>match O[j]? with
      |some (.dict l)=>if l.length<=big then some (.next,J,O.set j (.dict ((q,x)::l)))else .none
      |_=>.none
     |_=>.none
    |_=>.none
   |.none=>.none
  |.wg i k e=>match J.lookup i with
   |some (.mut j)=>match ev Z n k J O with
    |some (.int q,O)=>match item (bg O (.mut j)) (.int q)with
     |some (.int a)=>match ev Z n e J O with
      |some (.int b,O)=>match O[j]? with
       |some (.list l)=>if l.length<=big/\q<0 then(fz q l.length).map λp=>(.next,J,O.set j (.list (l.set p (.int (a+b)))))else .none
       |_=>.none
      |_=>.none
     |_=>.none
    |_=>.none
   |_=>.none
  |.brk=>some (.brk,J,O)
  |.cont=>some (.cont,J,O)
section
variable {e:X}{a b:List S}
theorem De:aQ Z n (.assign i e) J O=(match ev Z n e J O with
  |some (v,O)=>some (.next,put i v J,O)
  |.none=>.none):=rfl
theorem Iv{l:List Nat}:aQ Z n (.unpack l e) J O=(match ev Z n e J O with
  |some (v,O)=>(wB l v J).map λJ=>(.next,J,O)
  |.none=>.none):=rfl
theorem GK:aQ Z n (.aug i op e) J O=(match J.lookup i with
  |some u=>match ev Z n e J O with
   |some (v,O)=>(vH op u v).map λr=>(.next,put i r J,O)
   |.none=>.none
  |.none=>.none):=rfl
theorem yQ:aQ Z n (.ite e a b) J O=(match ev Z n e J O with
  |some (v,O)=>match eZ (bg O v)with
   |some true=>exec Z n a J O
   |some false=>exec Z n b J O
   |.none=>.none
  |.none=>.none):=rfl
theorem B9{t:T}:aQ Z n (.for t e a) J O=(match cT (λx O=>ev Z n x J O) e O with
  |some (vs,O)=>eB (λJ O=>exec Z n a J O) t vs J O
  |.none=>.none):=rfl
theorem G6:aQ Z n (.ret e) J O=(match ev Z n e J O with
  |some (v,O)=>some (.ret v,J,O)
  |.none=>.none):=rfl
theorem HA:aQ Z n (.expr e) J O=(match ev Z n e J O with
  |some (_,O)=>some (.next,J,O)
  |.none=>.none):=rfl
theorem e5e:aQ Z n (.kG i e) J O=(if Z.fB&&decide (12<=n)then match ev Z n e J O with
  |some (.mut ks,O)=>match O[ks]? with
   |some (.obj [_,_] (-3))=>some (.next,put i (.mut (O.length+1)) J,O++uv O.length ks)
   |_=>.none
  |_=>.none
  else .none):=rfl
theorem Xs:aQ Z n (.fit i j) J O=(if Z.fB&&decide (12<=n)then match J.lookup j with
  |some (.mut k)=>match O[k]? with
   |some (.obj [_,_] m)=>if 1<=m then some (.next,put i (.mut O.length) J,O++[.obj [k] (-2)])else .none
   |_=>.none
  |_=>.none
  else .none):=rfl
theorem H9{t:T}:aQ Z n (.chars t i a) J O=(if Z.fB&&decide (12<=n)then match J.lookup i with
  |some (.mut k)=>fO (λJ O=>exec Z n a J O) t k big J O
  |_=>.none
  else .none):=rfl
end
theorem e2c(Z:G)(n:Nat)(ss:List S)(J:aB)(O:Mu):exec Z (n+1) ss J O=bE (aQ Z n) ss J O:=rfl
section
noncomputable def NU(h:Heap)(as:List (List Addr)):F->Flow->Prop
 |.next,.next=>True
 |.brk,.brk=>True
 |.cont,.cont=>True
 |.ret v,.ret u=>Rep h as v u
 |_,_=>False
def jx(Lx:gj)(base:Heap)(ah:List Str)(env:Env)(as:List (List Addr))(s:aC)(f:F)(ρ':aB)(ai:Mu)(Q:Flow->aC->Prop):Prop:=
 ∀fl as' h' tk,GR Lx base ai as' h'->ER ah base env ρ' as' h'->cE (Wf ah env) as s.heap as' h'->NU h' as' f fl->Q fl {s with heap:=h',toks:=tk}
theorem jx.after{f:F}{Q:Flow->aC->Prop}(hQ:jx Lx base Z.ah env as s f ρ' ai Q)(go:cE (Wf Z.ah env) as s.heap aG hY)(hw:∀a,Wf Z.ah env a->∃o,hY.get? a=some o) :
  jx Lx base Z.ah env aG {s with heap:=hY,toks:=tk} f ρ' ai Q:=λfl as' h' tk' g er go' r=>hQ fl as' h' tk' g er (go.trans go' hw) r
theorem ER.there(e:ER ah base env J as h):∀a,Wf ah env a->∃o,h.get? a=some o:=λa ha=>(e.held ha).2.2.imp λzz x=>x.1
theorem CS(er:ER ah base env J as h)(hn:∀x,cS env.scope x=true->(nid ah x).isSome=true):∀x,cS env.scope x=true->pS (Wf ah env) env x:=λx hx=>by
 refine⟨hx,λzz=>.inl rfl,λc hk hc=>?_⟩;obtain⟨i,hi⟩:=DW.mp (hn x hx);exact .inr ⟨i,x,fQ hi,.inl hk,hc⟩
theorem uA{v:ao}{Q:Unit->aC->Prop}(nd:c7 ah)(hx:nid ah x=some i)(ho:cS env.scope x=true)(er:ER ah base env J as s.heap)(gr:GR Lx base O as s.heap)(ru:Rep s.heap as u v)
  (hQ:yO Lx base ah env (Wf ah env) as s (put i u J) O Q):au (model prog w) A (storeName env x v) Q E s:=
 Iw nd (fQ hx) ⟨ho,λzz=>.inl rfl,λc hk hc=>.inr ⟨i,x,fQ hx,.inl hk,hc⟩⟩ er gr ru hQ
theorem G4{tg:Option Expr}(h:e.ctorIdx=8->swapsWith e tg line env=pure false)(h1:¬e.ctorIdx=9)(h2:¬e.ctorIdx=10):swapsWith e tg line env=pure false:=by
 generalize hq:(pure false:Sem Bool)=q at h ⊢;induction e using mT with
 |ListComp _ _ _ _=>exact h rfl
 |SetComp _ _ _ _=>exact absurd rfl h1
 |DictComp _ _ _ _ _=>exact absurd rfl h2
 |_=>exact hq
theorem GA{x:X}(t:aK ah k sc e=some x):¬e.ctorIdx=9:=λq=>by
 revert t;exact g7n e q λzz zz zz zz t=>by cases k<;>exact ns t
theorem G5{x:X}(t:aK ah k sc e=some x):¬e.ctorIdx=10:=λq=>by
 revert t;exact g7p e q λzz zz zz zz zz t=>by cases k<;>exact ns t
theorem PM{P:Prop}(hc:qp e=false)(q:e.ctorIdx=8):P:=nt (hc.symm.trans (show qp e=true from congrArg (cU · 8) q))
theorem b7q{tg:Option Expr}{x:X}{m:Bool}(hc:qp e=false)(ht:(xT Z.ah k sc m e)=some x):swapsWith e tg line env=pure false:=by
 refine bZ ht (λzz t=>fH t (λl hn zz=>?_) λzz t=>aO t λq hn zz=>?_) λzz t=>G4 (PM hc) (GA t) (G5 t)
 ·obtain⟨p,rfl⟩:=Rv hn
  rfl
 ·obtain⟨p,rfl⟩:=Rn hn
  rfl
theorem c6b{cp:Pos}{y:X}{G:Prop}(t:aK Z.ah (k+1) sc (.ListComp elt gens cs cp)=some y)
  (K:∀tg it ifs gs e1 t1 q7 q8 own,gens=⟨tg,it,ifs,0⟩::gs->v9 sc cs Z.ah=true->oZ tg it=true->ue (aK Z.ah k cs) (aK.jC Z.ah k cs) (iS Z.ah cs) elt gs=some e1->iS Z.ah cs tg=some t1->aK.jC Z.ah k sc it=some q7->bJ (aK Z.ah k cs) ifs=some q8->zh cs Z.ah=some own->(if gs.isEmpty then X.comp e1 t1 q7 q8 own else .rP e1 t1 q7 q8 own)=y->G):G:=by
 induction gens using aN with
 |nil=>exact ns t
 |cons g gs=>cases g with|mk tg it ifs i=>cases i with
  |negSucc _=>exact ns t
  |ofNat i=>induction i using eG with
   |succ _=>exact ns t
   |zero=>
    exact aL t λhq t=>aO t λe1 h1 t=>aO t λt1 h2 t=>aO t λq7 h3 t=>aO t λq8 h4 t=>aZ t λKY h5 e=>K tg it ifs gs e1 t1 q7 q8 KY rfl (aP hq) (aR hq) h1 h2 h3 h4 h5 e
theorem spS{f fR:F}{bL:aB}{Q:Flow->aC->Prop}(h:some (fR,bL,aA)=some (f,bu,aE))(hQ:jx Lx base Z.ah env as s f bu aE Q):jx Lx base Z.ah env as s fR bL aA Q:=by cases h;exact hQ
theorem stx{y x:S}{q:F×aB×Mu}(e:y=x)(h:aQ Z n x J O=some q):aQ Z n y J O=some q:=e▸h
section
variable {r:α}{G:Prop}
theorem Yh{e:Option (V×Mu)}{f:Nat->Mu->Option α}(h:(match e with|some (.mut i,O)=>f i O|_=>.none)=some r)(k:∀i O,e=some (.mut i,O)->f i O=some r->G):G:=by
 induction e using aT with
 |none=>exact ns h
 |some p=>cases p with|mk v O=>induction v using Internal.V.casesOn<;>first|exact k _ _ rfl h|exact ns h
theorem yd{e:Option V}{f:Nat->Option α}(h:(match e with|some (.mut i)=>f i|_=>.none)=some r)(k:∀i,e=some (.mut i)->f i=some r->G):G:=by
 induction e using aT with
 |none=>exact ns h
 |some v=>induction v using Internal.V.casesOn<;>first|exact k _ rfl h|exact ns h
theorem Xc{e:Option M}{f:Int->Option α}(h:(match e with|some (.obj [_,_] m)=>f m|_=>.none)=some r)(k:∀a b m,e=some (.obj [a,b] m)->f m=some r->G):G:=by
 induction e using aT with
 |none=>exact ns h
 |some m=>induction m using Internal.M.casesOn with
  |list _=>exact ns h
  |dict _=>exact ns h
  |obj is m=>induction is using aN with
   |nil=>exact ns h
   |cons a is=>induction is using aN with
    |nil=>exact ns h
    |cons b is=>induction is using aN with
     |nil=>exact k a b m rfl h
     |cons _ _=>exact ns h
theorem Xg{e:Option M}{f:List Nat->Int->Option α}(h:(match e with|some (.obj is m)=>f is m|_=>.none)=some r)(k:∀is m,e=some (.obj is m)->f is m=some r->G):G:=by
 induction e using aT with
 |none=>exact ns h
 |some m=>induction m using Internal.M.casesOn with
  |list _=>exact ns h
  |dict _=>exact ns h
  |obj is m=>exact k is m rfl h
theorem WU{e:Option M}{a:Option α}(h:(match e with|some (.obj [_,_] (-3))=>a|_=>.none)=some r)(k:∀x y,e=some (.obj [x,y] (-3))->a=some r->G):G:=by
 induction e using aT with
 |none=>exact ns h
 |some m=>induction m using Internal.M.casesOn with
  |list _=>exact ns h
  |dict _=>exact ns h
  |obj is n=>induction is using aN with
   |nil=>exact ns h
   |cons x is=>induction is using aN with
    |nil=>exact ns h
    |cons y is=>induction is using aN with
     |cons _ _=>exact ns h
     |nil=>induction n using s8 with
      |ofNat _=>exact ns h
      |negSucc m=>rcases m with _|_|_|m<;>first|exact ns h|exact k x y rfl h
theorem W6{e:Option V}{f:V->Option α}(h:(match e with|some a=>f a|.none=>.none)=some r)(k:∀a,e=some a->f a=some r->G):G:=by
 induction e using aT with
 |none=>exact ns h
 |some a=>exact k a rfl h
end
theorem b3d(S:cj prog w Lx base Z)(nd:c7 Z.ah){m:Bool}{p:Pos}{y:X}{Q:Flow->aC->Prop}
  (hx:nid Z.ah x=some i) (ho:cS env.scope x=true) (t:xT Z.ah k env.scope m e=some y) (rm:Rm A s n) (c:bQ env.scope env) (er:ER Z.ah base env J as s.heap) (gr:GR Lx base O as s.heap) (h:ev Z n y J O=some (r,ai)) (hm:qp e=true->m=false)
  (hQ:jx Lx base Z.ah env as s .next (put i r J) ai Q):au (model prog w) A (mR (.Assign [.Name x p] e pos) env) Q E s:=by
 have plain:swapsWith e (some (.Name x p)) pos.line env=pure false->au (model prog w) A (mR (.Assign [.Name x p] e pos) env) Q E s:=by
  intro hs;refine Ko (Ou S nd t rm c er gr h λv aG hY tk gI aM rv=>?_) hs;refine uA nd hx ho (er.go aM) gI rv λhJ dN gJ bI dS qb=>?_;exact hQ .next aG hJ dN gJ bI (aM.toS.trans dS (er.go aM).there) trivial
 by_cases hc:qp e=true
 ·have hm':=hm hc
  subst hm';obtain⟨elt,gens,cs,cp,rfl⟩:∃elt gens cs cp,e=.ListComp elt gens cs cp:=
   RW e (jz hc) λa b c d=>⟨a,b,c,d,rfl⟩
  have hs:∃b,swapsWith (.ListComp elt gens cs cp) (some (.Name x p)) pos.line env=pure b:=⟨_,rfl⟩;obtain⟨b,hs⟩:=hs;induction b using eo with
  |false=>exact plain hs
  |true=>
   rw[exec_Assign_Name_used _ _ _ _ hs];refine aI (qX (aI ?_));have t':aK Z.ah k env.scope (.ListComp elt gens cs cp)=some y:=t;induction k using eG with
   |zero=>exact ns t'
   |succ k=>
    refine c6b t' λtg it ifs gs e1 t1 q7 q8 own eg p1 p2 p3 p4 p5 p6 p7 ey=>?_;subst eg;induction n using eG with
    |zero=>exact ns (dR ey h)
    |succ n'=>
    refine Qd (E:=E) S (jG S nd n').1 (rm.less (iA n')) c p2 p4 p5 (QB p3) er gr (dR ey h) λys aE RR eh=>?_;cases eh;show au (model prog w) A (comprehension (.ListComp elt (⟨tg,it,ifs,0⟩::gs) cs cp) cs env (firstIterPos (⟨tg,it,ifs,0⟩::gs) cp) (newList []) false (eval it env) (some (assign (.Name x p) env)) >>= λzz=>pure ()) _ E s;refine aI (QX S nd (jG S nd n').1 (jG S nd n').2 (rm.less (iA n')) c p1 p2 p3 p4 p5 p6 p7 er gr RR λD C as' h' tk mm g dI go r Ba f hC hb hw=>?_);refine Kg (uA nd hx ho dI g r λhJ dN gJ bI dS qb=>?_);have VU:∀o,h'.get? C=some o->hJ.get? C=some o:=λo e=>dS.keep C o (λq=>f.off (wJ q)) hw e;have Bb:hJ.Ns C mm:=Ns.mv Ba (VU _);refine⟨mm,Bb,λh₃ hs=>bF (bF ?_)⟩;have y:∀a o,a≠C->hJ.get? a=some o->h₃.get? a=some o:=λa o ha e=>(hs.2 a ha).trans e;have fJ:tn as' hJ C:=⟨f.off,λo e=>(Ns.get Bb).elim λo' x=>aD (x.1.symm.trans e)▸x.2⟩;have Uq:Ks as' hJ h₃:=fJ.ks y;have gT:=gJ.mod fJ hb y;have oA:ER Z.ah base env (put i (.lst ys) J) as' h₃:=bI.qa (own:=[C]) (λa ha hq=>by rw[bK]at hq;subst hq;exact hw ha) (λa o ha e=>y a o (by simpa using ha) e) Uq;refine hQ .next as' h₃ _ gT oA ?_ trivial;have gA:cE (Wf Z.ah env) as s.heap as' hJ:=go.toS.trans dS dI.there;exact⟨gA.ext,λa o ha hwf e=>y a o (λq=>by rw[q,hC]at e;exact ns e) (gA.keep a o ha hwf e),gT.alive⟩
 ·have hc':qp e=false:=by simpa using hc
  exact plain (b7q hc' t)
end
section
theorem I4:∀(ps:List (Nat×V)) (J:aB),i∉ps.map (·.1)->(ps.foldl (λJ p=>put p.1 p.2 J) J).lookup i=J.lookup i:=by
 intro z_;induction z_ with
 |nil=>
  intro _ _;exact rfl
 |cons p r ih=>
  intro J h;simp only[fm,bT,not_or]at h;rw[SM,ih _ h.2,gi,if_neg h.1]
theorem Qj:∀(ps:List (Nat×V)) (J:aB),(ps.map (·.1)).Nodup->(i,v)∈ps->(ps.foldl (λJ p=>put p.1 p.2 J) J).lookup i=some v:=by
 intro z_;induction z_ with
 |nil=>
  intro _ _ h;cases h
 |cons p r ih=>
  intro J nd h;rw[fm,kh]at nd;rw[SM];rcases bT.mp h with rfl|h
  ·rw[I4 r _ nd.1,gi,if_pos rfl]
  ·exact ih _ nd.2 h
theorem d4o(ps:List (Nat×V))(J:aB)(nd:(ps.map (·.1)).Nodup)(i:Nat):(ps.reverse.foldl (λJ p=>put p.1 p.2 J) J).lookup i=(ps.foldl (λJ p=>put p.1 p.2 J) J).lookup i:=by
 by_cases h:i∈ps.map (·.1)
 ·obtain⟨⟨j,v⟩,hm,rfl⟩:=ly.mp h
  rw[Qj ps J nd hm,Qj ps.reverse J (by rw[JP];exact(List.reverse_perm _).nodup_iff.mpr nd) (List.mem_reverse.mpr hm)]
 ·rw[I4 ps J h,I4 ps.reverse J (by rw[JP];simpa using h)]
theorem d0s:∀{l:List Nat},Cm l=true->l.Nodup:=by
 intro z_;induction z_ with
 |nil=>
  intro _;exact qQ
 |cons a r ih=>
  intro h;have h1:(!r.contains a)=true:=aP h;exact kh.mpr ⟨by simpa using h1,ih (aR h)⟩
noncomputable def ND(ah:List Str)(sc:dF)(x:Str):Option Nat:=if cS sc x then nid ah x else .none
theorem b9f{Q:Unit->aC->Prop}(nd:c7 ah):∀(names:List Str) (is:List Nat) (l:List V) (vals:List ao) (J:aB) (as:List (List Addr)) (s:aC),
  bJ (ND ah env.scope) names=some is->is.length=l.length->ER ah base env J as s.heap->GR Lx base O as s.heap->aJ s.heap as l vals →
  yO Lx base ah env (Wf ah env) as s ((is.zip l).foldl (λJ p=>put p.1 p.2 J) J) O Q->au (model prog w) A (assignInOrder (names.map λn=>bindName env n) vals) Q E s:=by
 intro z_;induction z_ with
 |nil=>
  intro is l vals J as s e hl er gr rl hQ;obtain rfl:=aD e;induction l using aN with
  |cons a r=>cases hl
  |nil=>
   obtain rfl:=rl;exact Tp (hQ s.heap s.toks gr er (cE.refl gr) λzz zz zz e zz=>e)
 |cons x xs ih=>
  intro is l vals J as s e hl er gr rl hQ;refine eY e λi js e1 e2 e=>?_;subst e;induction l using aN with
  |nil=>cases hl
  |cons u l=>
   obtain⟨v,vr,rfl,ru,rl⟩:=rl;refine aL e1 λhx e1=>?_;refine Tq (wpAny_bindName (uA nd e1 hx er gr ru λh' tk f9 dI go' ks'=>?_));refine ih js l vr _ as _ e2 (lR hl) dI f9 (rl.ks ks') ?_;intro h'' tk' tU tV nj tM;exact hQ h'' tk' tU tV (go'.trans nj dI.there) (Df ks' tM)
theorem d5a{f:α->Option β}:∀{l l':List α}{r r':List β},bJ f l=some r->bJ f l'=some r'->bJ f (l++l')=some (r++r'):=by
 intro z_;induction z_ with
 |nil=>
  intro _ r _ h h';obtain rfl:=aD h;exact h'
 |cons a l ih=>
  intro l' r r' h h';exact eY h λb c h1 h2 e=>e▸jJ h1 (ih h2 h')
theorem d8g{f:α->Option β}{l:List α}{r:List β}(h:bJ f l=some r):bJ f l.reverse=some r.reverse:=by
 induction l generalizing r with
 |nil=>obtain rfl:=aD h;rfl
 |cons a l ih=>
  exact eY h λb c h1 h2 e=>by
   rw[←e,uM,uM];exact d5a (ih h2) (jJ h1 rfl)
noncomputable def nH(env:Env)(line:Nat)(x:Expr):Option Str:=g7i (λzz=>Option Str) x (λid pos=>if env.kindOf id==some .local&&pos.line==line then some id else .none) λzz=>.none
theorem d6c:∀(ts:List Expr) (is:List Nat),bJ (oR ah env.scope) ts=some is →
  (ts.filterMap (nH env line)).length=ts.length →
  bJ (ND ah env.scope) (ts.filterMap (nH env line))=some is:=by
 intro ts;induction ts with
 |nil=>exact λis h zz=>h
 |cons t ts ih=>
  exact λis h hl=>eY h λi js h1 h2 e=>IW h1 λx p ht hx hi=>by
   subst e ht;by_cases hq:(env.kindOf x==some .local&&p.line==line)=true
   ·have e1:nH env line (.Name x p)=some x:=if_pos hq
    rw[List.filterMap_cons_some e1]at hl ⊢;exact jJ ((if_pos hx).trans hi) (ih js h2 (lR hl))
   ·have e1:nH env line (.Name x p)=.none:=if_neg hq
    rw[List.filterMap_cons_none e1]at hl;exact absurd (hl▸List.length_filterMap_le _ ts) (Nat.not_succ_le_self _)
theorem b5l{ts vs:List Expr}{k':Nat}{p:Pos}(hc:(!(vs.all (constantsAlone 8))||vs.all (foldedForSure 8))=true) :
  swappedStores [.Tuple ts k p] (.Tuple vs k' p') env=pure .none∨∃line,swappedStores [.Tuple ts k p] (.Tuple vs k' p') env=pure (some (ts.filterMap (nH env line))) ∧
   (ts.filterMap (nH env line)).length=ts.length:=by
 have K:∀{c:Prop} [Decidable c] {a:Sem (Option (List Str))},(¬c->a=pure .none∨∃line,a=pure (some (ts.filterMap (nH env line)))/\(ts.filterMap (nH env line)).length=ts.length) →
   ((if c then pure .none else a)=pure .none∨∃line,(if c then pure .none else a)=pure (some (ts.filterMap (nH env line)))/\(ts.filterMap (nH env line)).length=ts.length):=λ{c} _ {a} h=>by
  by_cases hc:c
  ·exact .inl (if_pos hc)
  ·rw[if_neg hc];exact h hc
 refine K λzz=>K λzz=>K λhl=>K λhfs=>?_;rw[jA.mpr hfs,Bool.or_false]at hc;rw[if_neg (by rw[kM hc];decide)];refine .inr ⟨(ts.head?.map (·.pos.line)).getD 0,?_,?_⟩
 ·refine congrArg (λg:Expr->Option Str=>(pure (some (ts.filterMap g)):Sem (Option (List Str)))) ?_
  rfl
 ·refine Eq.trans (congrArg (λg:Expr->Option Str=>(ts.filterMap g).length) ?_) (bne_eq_false_iff_eq.mp (J3.mp (jA.mpr hl)).1)
  rfl
end
section
theorem e6y(S:cj prog w Lx base Z)(nd:c7 Z.ah)(c:bQ sc env)(pos:Pos):∀(ts elts:List Expr) (xs:List X) (O ai:Mu) (vs:List V) (as:List (List Addr)) (s:aC) (Q:List ao->aC->Prop),
  Rm A s n->elts.all fL=true->Hf Z.ah k sc mt ts elts=some xs->ER Z.ah base env J as s.heap->GR Lx base O as s.heap->bU (λx O=>ev Z n x J O) xs O=some (vs,ai) →
  (∀(vals:List ao) (as':List (List Addr)) (h':Heap) (tk:Nat),GR Lx base ai as' h'->Go as s.heap as' h'->aJ h' as' vs vals->Q vals {s with heap:=h',toks:=tk}) →
  au (model prog w) A (spliced (backTo pos (starEach elts env))) Q E s:=by
 intro ts;induction ts with
 |nil=>
  intro elts xs O ai vs as s Q rm _ t er gr h hQ;induction elts using aN with
  |nil=>
   obtain rfl:=aD t;refine sp h λe1 e2=>?_;subst e1 e2;exact uV (hQ [] as s.heap s.toks gr gr.go .nil)
  |cons _ _=>exact ns t
 |cons tg ts ih=>
  intro elts xs O ai vs as s Q rm hp t er gr h hQ;induction elts using aN with
  |nil=>exact ns t
  |cons e r=>
   refine aO t λx t1 t'=>aZ t' λxr t2 e1=>aO t1 λnm hnm t1=>?_;subst e1;refine cX h λv aA h1 h'=>lH h' λvr aE h2 h'=>sp h' λe1 e2=>?_;subst e1 e2;refine uW (rm.with λzz=>Ou S nd t1 rm c er gr h1 λa aG hY tk gI aM ra ht=>?_) (qH (aP hp));refine ih r xr aA _ vr aG _ _ (rm.at ht) (aR hp) t2 (er.go aM) gI h2 λvals cz hJ dN gJ cW rv=>?_;exact hQ (a::vals) cz hJ dN gJ (aM.trans cW) (.cons (ra.go cW) rv)
theorem c0w{kk:Nat}{a:ao}{ρ':aB}{Q:Unit->aC->Prop}(nd:c7 Z.ah)(hi:bJ (oR Z.ah env.scope) elts=some is)(hc:A.handled=.none)(hl:is.length=l.length)
  (er:ER Z.ah base env J as s.heap) (gr:GR Lx base O as s.heap) (ra:Rep s.heap as (.lst l) a) (own:∀x,cS env.scope x=true->pS (Wf Z.ah env) env x)
  (hQ:yO Lx base Z.ah env (Wf Z.ah env) as s ((is.zip l).foldl (λJ p=>put p.1 p.2 J) J) O Q):au (model prog w) A (assign (.Tuple elts kk pos) env a) Q E s:=by
 obtain⟨ax,vs,rfl,ha,hp,hr⟩:=ra;show au (model prog w) A (do standAt pos;unpack (.ref ax) (assignEach elts env)) Q E s
 refine aI (qX ?_);unfold unpack;rw[Ra hi];have hlen:(assignEach elts env).length=vs.toArray.size:=by
  rw[PT,dG,hr.length,←hl,wO hi]
 rw[hlen];refine aI (nW (kun_itemsOf hc hp.isList λh' he=>?_));obtain⟨f9,go'⟩:=gr.all (h':=h') λa o ha e=>he a o ha e;refine Rd (s:={s with heap:=h',toks:=s.toks}) own (λa ha=>ha) nd elts is l _ J hi hl (er.go go') f9 (by simpa using hr.go go') ?_;intro h'' tk tU tV nj tM;exact hQ h'' tk tU tV (go'.toS.trans nj (er.go go').there) (Df go'.ks tM)
theorem c0i(S:cj prog w Lx base Z)(nd:c7 Z.ah)(own:∀x,cS env.scope x=true->(nid Z.ah x).isSome=true){ts:List Expr}{kk:Nat}{p:Pos}{y:X}{Q:Flow->aC->Prop}
  (hi:bJ (oR Z.ah env.scope) ts=some is) (hnt:¬e.ctorIdx=25) (t:aK Z.ah k env.scope e=some y) (rm:Rm A s n) (c:bQ env.scope env) (er:ER Z.ah base env J as s.heap) (gr:GR Lx base O as s.heap) (h:ev Z n y J O=some (r,ai)) (hu:wB is r J=some ρ')
  (hQ:jx Lx base Z.ah env as s .next ρ' ai Q):au (model prog w) A (mR (.Assign [.Tuple ts kk p] e pos) env) Q E s:=by
 have hs:swapsWithSole [.Tuple ts kk p] e pos.line env=pure false:=by
  refine G4 (tg:=some (.Tuple ts kk p)) (line:=pos.line) (env:=env) (λq=>?_) (GA t) (G5 t);exact RW (motive_1:=λe=>swapsWith e (some (.Tuple ts kk p)) pos.line env=pure false) e q λzz zz zz zz=>rfl
 have hw:swappedStores [.Tuple ts kk p] e env=pure .none:=by
  clear hs;generalize hq:(pure .none:Sem (Option (List Str)))=q;clear t;induction e using mT with
  |Tuple vs k p=>exact absurd rfl hnt
  |_=>exact hq
 refine Assign_Tuple ((jG S nd n).1 y k env.scope e t A E env J O as s r ai _ rm c er gr h λv aG hY tk gI aM rv=>?_) hs hw;have bR:=er.go aM;have ow:=CS bR own;have fin:∀{hJ:Heap}{dN:Nat},GR Lx base ai aG hJ->ER Z.ah base env ρ' aG hJ->cE (Wf Z.ah env) aG hY aG hJ->Q .next {s with heap:=hJ,toks:=dN}:=λgJ bI dS=>hQ .next aG _ _ gJ bI (aM.toS.trans dS bR.there) trivial;induction r using Internal.V.casesOn with
 |tup l=>
  refine aL hu λhl hu=>?_;obtain rfl:=aD hu;exact z7 (t:=.many is) (sc:=env.scope) ow (λa ha=>ha) nd (congrArg (qK T.many) hi) rm.calm (show dD (.many is) (.tup l) J=_ from if_pos hl) bR gI rv λhJ dN gJ bI dS zz=>fin gJ bI dS
 |lst l=>
  refine aL hu λhl hu=>?_;obtain rfl:=aD hu;exact c0w (ρ':=J) nd hi rm.calm (eq_of_beq hl) bR gI rv ow λhJ dN gJ bI dS zz=>fin gJ bI dS
 |_=>exact ns hu
theorem e5x:∀(l:List α) (r:List β),l.length=r.length->l.reverse.zip r.reverse=(l.zip r).reverse:=by
 intro l;induction l with
 |nil=>intro r h;obtain rfl:=xD h.symm;rfl
 |cons a l ih=>
  intro r h;induction r using aN with
  |nil=>exact absurd h (uJ _)
  |cons b r=>
   have h':=lR h;rw[uM,uM,List.zip_append (by rw[JR,JR];exact h'),ih r h'];exact uM.symm
theorem c4d(S:cj prog w Lx base Z)(nd:c7 Z.ah)(own:∀x,cS env.scope x=true->(nid Z.ah x).isSome=true){ts vs:List Expr}{kk A4:Nat}{p:Pos}{Q:Flow->aC->Prop}
  (hi:bJ (oR Z.ah env.scope) ts=some is) (hnd:Cm is=true) (hp:vs.all fL=true) (Vu:(!(vs.all (constantsAlone 8))||vs.all (foldedForSure 8))=true) (t:Hf Z.ah k env.scope mt ts vs=some xs) (rm:Rm A s n) (c:bQ env.scope env) (er:ER Z.ah base env J as s.heap) (gr:GR Lx base O as s.heap)
  (h:ev Z n (.tup xs) J O=some (r,ai)) (hu:wB is r J=some ρ')
  (hQ:jx Lx base Z.ah env as s .next ρ' ai Q):au (model prog w) A (mR (.Assign [.Tuple ts kk p] (.Tuple vs A4 p') pos) env) Q E s:=by
 have hs:swapsWithSole [.Tuple ts kk p] (.Tuple vs A4 p') pos.line env=pure false:=rfl;induction n using eG with
 |zero=>exact ns h
 |succ n=>
  refine lH h λus aA h1 h'=>aL h' λhlen h'=>sp h' ?_;rintro rfl rfl;refine aL hu λhq hu=>?_;have hl:=eq_of_beq hq;obtain rfl:=aD hu;have bk:=rm.less (iA n);have NK:∀(Q':ao->aC->Prop),Post Lx base as s (.tup us) aA Q'->au (model prog w) A (eval (.Tuple vs A4 p') env) Q' E s:=λQ' VG=>
   Tr (e6y S nd c _ ts vs xs O aA us as s _ bk hp t er gr h1 λvals as' h' tk g go rv=>⟨by rw[rv.length];exact lP hlen,(VG.after go).new g (Jg (s:={s with heap:=h',toks:=tk}) g rv)⟩)
  rcases b5l (ts:=ts) (k:=kk) (p:=p) (k':=A4) (p':=p') (env:=env) Vu with hw|⟨line,hw,hlen'⟩
  ·refine Assign_Tuple (NK _ λv aG hY tk gI aM rv=>?_) hs hw
   have bR:=er.go aM;exact z7 (t:=.many is) (sc:=env.scope) (CS bR own) (λa ha=>ha) nd (congrArg (qK T.many) hi) rm.calm (show dD (.many is) (.tup us) J=_ from if_pos (beq_iff_eq.mpr hl)) bR gI rv λhJ dN gJ bI dS zz=>hQ .next aG _ _ gJ bI (aM.toS.trans dS bR.there) trivial
  ·refine Assign_Tuple_swapped (NK _ λv aG hY tk gI aM rv=>?_) hs hw
   have bR:=er.go aM;obtain⟨ax,vals,rfl,hax,hT,hr⟩:=rv;have hsz:(ts.filterMap (nH env line)).length=vals.toArray.size:=by
    rw[hlen',dG,hr.length,←hl,wO hi]
   rw[hsz];refine unpackItems_tuple rm.calm hT λhJ he=>?_;obtain⟨gJ,cW⟩:=gI.all (h':=hJ) λa o ha e=>he a o ha e;have bI:=bR.go cW;refine b9f (s:={s with heap:=hJ,toks:=tk}) nd _ is.reverse us.reverse _ J aG (d8g (d6c ts is hi hlen')) (by simpa using hl) bI gJ (by simpa using (hr.go cW).reverse) λh₃ nY gT oA tT zz=>?_;refine hQ .next aG h₃ nY gT (oA.congr λi=>?_) ((aM.trans cW).toS.trans tT bI.there) trivial;have hz:is.reverse.zip us.reverse=(is.zip us).reverse:=by
    exact e5x is us hl
   rw[hz,d4o];rw[g5f (by exact gY hl)];exact d0s hnd
end
section
def Pz(prog:jj)(w:ji)(Lx:gj)(base:Heap)(Z:G)(n:Nat):Prop:=
 ∀(k:Nat) (e v:Expr) (y:X) (A:fu) (E:ao->aC->Prop) (env:Env) (J:aB) (O:Mu) (as:List (List Addr)) (s:aC) (ks kl kc:Nat) (ai:Mu) (Q:ao->aC->Prop),
  GH env.scope v=some e->aK Z.ah k env.scope e=some y->Rm A s n->bQ env.scope env->ER Z.ah base env J as s.heap->GR Lx base O as s.heap->ev Z n y J O=some (.mut ks,ai)->ai[ks]?=some (.obj [kl,kc] (-3)) →
  Post Lx base as s (.mut (ai.length+1)) (ai++uv ai.length ks) Q->au (model prog w) A (eval v env) Q E s
structure nF(prog:jj)(w:ji)(Lx:gj)(base:Heap)(Z:G)(n:Nat):Prop where
 new:Z.fB=true->12<=n->Pz prog w Lx base Z n
 fit:∀(v:Expr) (y:Str) (j k kp ks:Nat) (m:Int) (A:fu) (E:ao->aC->Prop) (env:Env) (J:aB) (O:Mu) (as:List (List Addr)) (s:aC) (Q:ao->aC->Prop),
  Z.fB=true->12<=n->Cg env.scope v=some y->nid Z.ah y=some j->J.lookup j=some (.mut k)->O[k]?=some (.obj [kp,ks] m)->1<=m->Rm A s n->ER Z.ah base env J as s.heap->GR Lx base O as s.heap →
  Post Lx base as s (.mut O.length) (O++[.obj [k] (-2)]) Q->au (model prog w) A (eval v env) Q E s
 line:∀(x a:Str) (p q r c:Pos) (kd:Nat) (j k:Nat) (is:List Nat) (m:Int) (A:fu) (E:ao->aC->Prop) (env:Env) (J:aB) (O:Mu) (as:List (List Addr)) (s:aC) (Q:Flow->aC->Prop),
  gS env.scope x=true->a = "lineno" -> nid Z.ah x=some j->(x==("__debug__":Str))=false->(x==("__classdict__":Str))=false->J.lookup j=some (.mut k)->O[k]?=some (.obj is m)->1<=m->Rm A s n->ER Z.ah base env J as s.heap->GR Lx base O as s.heap →
  (∀h' tk,GR Lx base (O.set k (.obj is (m+1))) as h'->Go as s.heap as h'->Q .next {s with heap:=h',toks:=tk})->au (model prog w) A (mR (.AugAssign (.Attribute (.Name x p) a q) .Add (.Constant (.int 1) kd c) r) env) Q E s
 draw:∀(A:fu) (E:ao->aC->Prop) (s:aC) (as:List (List Addr)) (O ai:Mu) (k:Nat) (a:Addr) (q:List Addr) (r:Option (List Nat)) (Q:Option ao->aC->Prop),Z.fB=true->12<=n->Rm A s n->GR Lx base O as s.heap->as[k+1]?=some (a::q)->Internal.draw O k=some (r,ai) →
  (∀h' tk rv,GR Lx base ai as h'->Go as s.heap as h'->(match r with|.none=>rv=.none|some c=>∃t,rv=some (.str ⟨c.toArray⟩ t))->Q rv {s with heap:=h',toks:=tk})->au (model prog w) A (pyNext (.ref a)) Q E s
 self:∀(A:fu) (E:ao->aC->Prop) (s:aC) (as:List (List Addr)) (O:Mu) (k:Nat) (a:Addr) (q:List Addr) (is:List Nat) (m:Int) (Q:ao->aC->Prop),Z.fB=true->GR Lx base O as s.heap->as[k+1]?=some (a::q)->O[k]?=some (.obj is m)->(m = -2∨m = -4)->Q (.ref a) s->au (model prog w) A (pyIter (.ref a)) Q E s
 lets:∀(A:fu) (E:ao->aC->Prop) (s:aC) (as:List (List Addr)) (O:Mu) (k:Nat) (a:Addr) (q:List Addr) (is:List Nat) (m:Int) (tg:Expr) (v:ao) (Q:Unit->aC->Prop),Z.fB=true->GR Lx base O as s.heap->as[k+1]?=some (a::q)->O[k]?=some (.obj is m)->(m = -2∨m = -4)->kR tg=true->Q () s->au (model prog w) A (letOwnedTupleGo tg (.ref a) v) Q E s
def v8(prog:jj)(w:ji)(Lx:gj)(base:Heap)(Z:G)(n:Nat):Prop:=
 ∀(ss:List S) (mt:List Str) (k:Nat) (stmts:List Stmt) (A:fu) (E:ao->aC->Prop) (env:Env) (J ρ':aB) (O ai:Mu) (as:List (List Addr)) (s:aC) (f:F) (Q:Flow->aC->Prop),
  lW.ku Z.ah mt k env.scope stmts=some ss->(∀x,cS env.scope x=true->(nid Z.ah x).isSome=true)->interactive env=false->Rm A s n->bQ env.scope env->ER Z.ah base env J as s.heap->GR Lx base O as s.heap->exec Z n ss J O=some (f,ρ',ai) →
  jx Lx base Z.ah env as s f ρ' ai Q->au (model prog w) A (execs stmts env) Q E s
noncomputable def GO(f:F)(J:aB)(O:Mu)(go:Option (F×aB×Mu)):Option (F×aB×Mu):=match f with
 |.brk=>some (.next,J,O)
 |.ret v=>some (.ret v,J,O)
 |_=>go
theorem b9j{f:aB->Mu->Option (F×aB×Mu)}{t:T}{r:List V}{g:F}{G:Prop}(h:eB f t (v::r) J O=some (g,ρ',ai))
  (k:∀bu fK dY bS,dD t v J=some bu->f bu O=some (fK,dY,bS)->GO fK dY bS (eB f t r dY bS)=some (g,ρ',ai)->G):G:=by
 have h:(match (generalizing:=false) dD t v J with|.none=>.none|some J=>_)=some (g,ρ',ai):=h
 induction q:dD t v J using aT with
 |none=>rw[q]at h;exact ns h
 |some bu=>
  rw[q]at h;dsimp only at h;induction q2:f bu O using aT with
  |none=>rw[q2]at h;exact ns h
  |some p=>
   obtain⟨x,dY,bS⟩:=p;rw[q2]at h;cases x<;>exact k bu _ dY bS q q2 h
theorem QG{fK f:F}{fl:Flow}{go:Option (F×aB×Mu)}{N:Prop}{Q:Flow->aC->Prop}{iF:List (List Addr)}{hU:Heap}{jR:Nat}(hR:∀fl s',Q fl s'->R (.ok fl) s')(hQ:jx Lx base Z.ah env as s f ρ' ai Q)
  (h:GO fK dY bS go=some (f,ρ',ai)) (fr:NU hU iF fK fl) (g:GR Lx base bS iF hU) (er:ER Z.ah base env dY iF hU) (gs:cE (Wf Z.ah env) as s.heap iF hU) (k:go=some (f,ρ',ai)->N) :
  (match (generalizing:=false) fl with
   |.next|.cont=>N
   |.brk=>R (.ok .next) {s with heap:=hU,toks:=jR}
   |.ret v=>R (.ok (.ret v)) {s with heap:=hU,toks:=jR}):=by
 induction fK using Internal.F.casesOn with
 |next=>induction fl using mS with
  |next=>exact k h
  |_=>exact fr.elim
 |cont=>induction fl using mS with
  |cont=>exact k h
  |_=>exact fr.elim
 |brk=>induction fl using mS with
  |brk=>exact hR _ _ (spS h hQ .next iF hU jR g er gs trivial)
  |_=>exact fr.elim
 |ret v=>induction fl using mS with
  |ret u=>exact hR _ _ (spS h hQ (.ret u) iF hU jR g er gs fr)
  |_=>exact fr.elim
inductive MB(Lx:gj)(base:Heap)(Z:G)(env:Env)(as:List (List Addr))(s:aC)(n:Nat)(bs:List S)(t:T)(vs:List V)(St:Nat->List (List Addr)->Heap->Prop)(f:F)(ρ':aB)(ai:Mu)(m:Nat)(s':aC):Prop
 |mk (i:Nat) (bL:aB) (aA:Mu) (aG:List (List Addr)) (hY:Heap) (dh:Nat) (hm:m=vs.length-i) (hi:i<=vs.length) (hs:s'={s with heap:=hY,toks:=dh}) (ht:1<=dh) (hf:eB (λJ O=>exec Z n bs J O) t (vs.drop i) bL aA=some (f,ρ',ai)) (er:ER Z.ah base env bL aG hY) (gr:GR Lx base aA aG hY) (st:St i aG hY) (gs:cE (Wf Z.ah env) as s.heap aG hY)
theorem d7f{t:T}{body:List Stmt}{bs:List S}{own:List Addr}{vs:List V}{St:Nat->List (List Addr)->Heap->Prop}{f:F}{Q:Flow->aC->Prop}
  (X:v8 prog w Lx base Z n) (nd:c7 Z.ah) (hown:∀x,cS env.scope x=true->(nid Z.ah x).isSome=true) (hint:interactive env=false) (rm:Rm A s n) (c:bQ env.scope env) (tt:iS Z.ah env.scope tg=some t) (tb:lW.ku Z.ah mt k env.scope body=some bs)
  (wk:Wk prog w Lx A base s.heap tg itv own vs St λzz=>True) (oz:∀a,Wf Z.ah env a->a∉own) (hR:∀fl s',Q fl s'->R (.ok fl) s')
  (hQ:jx Lx base Z.ah env as s f ρ' ai Q) :
  ∀(rest:List V) (i:Nat) (bL:aB) (aA:Mu) (aG:List (List Addr)) (hY:Heap) (dh:Nat),1<=dh->vs.drop i=rest->i<=vs.length->eB (λJ O=>exec Z n bs J O) t rest bL aA=some (f,ρ',ai) →
   ER Z.ah base env bL aG hY->GR Lx base aA aG hY->St i aG hY->cE (Wf Z.ah env) as s.heap aG hY →
   codeAny (model prog w) A (.forLoop tg itv body [] env) R {s with heap:=hY,toks:=dh}:=by
 intro rest i bL aA aG hY dh ht hd hi hf er gr st gs;refine codeAny_forLoop_any (MB Lx base Z env as s n bs t vs St f ρ' ai) (λm s' hm=>?_) (vs.length-i) (.mk i bL aA aG hY dh rfl hi rfl ht (by rw[hd];exact hf) er gr st gs);clear ht hd hf er gr st gs hi;obtain⟨i,bL,aA,aG,hY,dh,rfl,hi,rfl,ht,hf,er,gr,st,gs⟩:=hm;generalize hI:MB Lx base Z env as s n bs t vs St f ρ' ai=I;have hfr:∀a∈own,s.heap.get? a=.none:=λa ha=>(wk.fresh a ha).1;rcases JE i vs.length with hlt|hge
 ·obtain⟨v,hv⟩:∃v,vs[i]?=some v:=⟨vs[i],qR hlt⟩
  have hdr:vs.drop i=v::vs.drop (i+1):=by
   rw[List.drop_eq_getElem_cons hlt];have:vs[i]=v:=by rw[qR hlt]at hv;exact aD hv
   rw[this]
  rw[hdr]at hf;refine b9j hf λbu fK dY bS hb he hf=>?_;generalize notedBy (model prog w) A env (λe s'=>R (.error e) s')=EO;refine lV ht (kq (wk.item i _ aG {s with heap:=hY,toks:=dh} (λu s'=>1<=s'.toks->au (model prog w) A (assign tg env u) (λzz sJ=>au (model prog w) A (execs body env) (λfl sK=>match fl with
     |.next|.cont=>∃m,m<vs.length-i/\I m sK
     |.brk=>R (.ok .next) sK
     |.ret v=>R (.ok (.ret v)) sK) EO sJ) EO s') EO v hv trivial gr st λu h' tk ru st' f9 ks mv ht=>?_) (λr s' hr' ht=>?_) λzz zz e zz=>e)
  ·have dI:=er.qa oz mv ks
   have gs':=gs.mv hfr mv f9.alive;have rm:=rm.at (s':={s with heap:=h',toks:=tk}) ht;refine rm.with λzz=>z7 (CS dI hown) (λa ha=>ha) nd tt rm.calm hb dI f9 ru λhJ dN gJ bI dS qb ht=>?_;have AO:=wk.stay _ _ _ _ _ st' (dS.sf (λa ha zz o ho=>dI.wk a ha o ho) λa ha q=>oz a q ha);have tT:=gs'.trans dS dI.there;refine lV ht (X bs mt k body A _ env _ _ _ _ aG _ _ _ tb hown hint (rm.at ht) c bI gJ he λfl iF hU jR gU kK tS fr htL=>?_);have yy:=tT.trans tS bI.there;exact QG (s:=s) hR hQ hf fr gU kK yy λhf=>⟨vs.length-(i+1),Nat.sub_succ_lt_self _ _ hlt,hI▸.mk (i+1) dY bS iF hU jR rfl hlt rfl htL hf kK gU ( wk.stay _ _ _ _ _ AO (tS.sf (λa ha zz o ho=>bI.wk a ha o ho) λa ha q=>oz a q ha)) yy⟩
  ·induction r using aT with
   |none=>exact hr'.elim
   |some u=>exact lV ht (kq hr' (λzz zz q=>q) λzz zz e zz=>e)
 ·have hi':i=vs.length:=by exact An hi hge
  subst hi';rw[List.drop_length]at hf;refine wk.done _ aG _ _ _ trivial gr st λh' tk f9 ks mv=>?_;have dI:=er.qa oz mv ks;exact Ei (hR _ _ (spS hf hQ .next aG h' tk f9 dI (gs.mv hfr mv f9.alive) trivial))
section
variable {r:γ}{G:Prop}
theorem Ug{e:Option M}{f:Nat->Nat->Int->Option γ}(h:(match e with|some (.obj [a,b] n)=>f a b n|_=>.none)=some r)(k:∀a b n,e=some (.obj [a,b] n)->f a b n=some r->G):G:=by
 induction e using aT with
 |none=>exact ns h
 |some m=>induction m using Internal.M.casesOn with
  |list _=>exact ns h
  |dict _=>exact ns h
  |obj is n=>induction is using aN with
   |nil=>exact ns h
   |cons x is=>induction is using aN with
    |nil=>exact ns h
    |cons y is=>induction is using aN with
     |cons _ _=>exact ns h
     |nil=>exact k x y n rfl h
theorem Ue{e:Option M}{f:Nat->Nat->Option γ}(h:(match e with|some (.obj [a,b] (-3))=>f a b|_=>.none)=some r)(k:∀a b,e=some (.obj [a,b] (-3))->f a b=some r->G):G:=by
 induction e using aT with
 |none=>exact ns h
 |some m=>induction m using Internal.M.casesOn with
  |list _=>exact ns h
  |dict _=>exact ns h
  |obj is n=>induction is using aN with
   |nil=>exact ns h
   |cons x is=>induction is using aN with
    |nil=>exact ns h
    |cons y is=>induction is using aN with
     |cons _ _=>exact ns h
     |nil=>induction n using s8 with
      |ofNat _=>exact ns h
      |negSucc m=>rcases m with _|_|_|m<;>first|exact ns h|exact k x y rfl h
theorem Ui{e e':Option M}{f:List V->Option γ}(h:(match e,e' with|some (.list L),some (.obj [] (-6))=>f L|_,_=>.none)=some r)(k:∀L,e=some (.list L)->e'=some (.obj [] (-6))->f L=some r->G):G:=by
 induction e using aT with
 |none=>exact ns h
 |some m=>induction m using Internal.M.casesOn with
  |obj _ _=>exact ns h
  |dict _=>exact ns h
  |list L=>induction e' using aT with
   |none=>exact ns h
   |some m=>induction m using Internal.M.casesOn with
    |list _=>exact ns h
    |dict _=>exact ns h
    |obj is n=>induction is using aN with
     |cons _ _=>exact ns h
     |nil=>induction n using s8 with
      |ofNat _=>exact ns h
      |negSucc m=>rcases m with _|_|_|_|_|_|m<;>first|exact ns h|exact k L rfl rfl h
theorem mD{e:Option M}{f:Nat->Option γ}{a:Option γ}(h:(match e with|some (.obj [k] (-2))=>f k|some (.obj [_] (-4))=>a|_=>.none)=some r)(k1:∀k,e=some (.obj [k] (-2))->f k=some r->G)(k2:∀k,e=some (.obj [k] (-4))->a=some r->G):G:=by
 induction e using aT with
 |none=>exact ns h
 |some m=>induction m using Internal.M.casesOn with
  |list _=>exact ns h
  |dict _=>exact ns h
  |obj is n=>induction is using aN with
   |nil=>exact ns h
   |cons x is=>induction is using aN with
    |cons _ _=>exact ns h
    |nil=>induction n using s8 with
     |ofNat _=>exact ns h
     |negSucc m=>rcases m with _|_|_|_|m<;>first|exact ns h|exact k1 x rfl h|exact k2 x rfl h
theorem mG{e:Option V}{a:Option γ}{f:Nat->Option γ}(h:(match e with|.none=>a|some (.str [c])=>f c|_=>.none)=some r)(k1:e=.none->a=some r->G)(k2:∀c,e=some (.str [c])->f c=some r->G):G:=by
 induction e using aT with
 |none=>exact k1 rfl h
 |some v=>induction v using Internal.V.casesOn with
  |str x=>induction x using aN with
   |nil=>exact ns h
   |cons c x=>induction x using aN with
    |nil=>exact k2 c rfl h
    |cons _ _=>exact ns h
  |_=>exact ns h
end
theorem IK{c:List Nat}{G:Prop}(h:jh O k=some (c,ai))(K:∀kp ks kl kc n L,O[k]?=some (.obj [kp,ks] n)->1<=n->O[ks]?=some (.obj [kl,kc] (-3))->O[kl]?=some (.list L)->O[kc]?=some (.obj [] (-6))->L.length<=big →
  ((L.getLast?=.none/\c=[]/\ai=O)∨∃z,L.getLast?=some (.str [z])/\z<1114112/\c=[z]/\(z=10/\ai=(O.set kl (.list L.dropLast)).set k (.obj [kp,ks] (n+1))∨z≠10/\ai=O.set kl (.list L.dropLast)))->G):G:=by
 refine Ug (e:=O[k]?) h λkp ks n hk h=>aL h λhn h=>Ue h λkl kc hs h=>Ui h λL hL hC h=>aL h λhl h=>K kp ks kl kc n L hk hn hs hL hC hl ?_;refine mG h (λhg h=>sp h λe1 e2=>.inl ⟨hg,e1.symm,e2.symm⟩) λz hg h=>?_;exact aL h λhz h=>bZ h (λhq h=>sp h λe1 e2=>.inr ⟨z,hg,hz,e1.symm,.inl ⟨hq,e2.symm⟩⟩) λhq h=>sp h λe1 e2=>.inr ⟨z,hg,hz,e1.symm,.inr ⟨hq,e2.symm⟩⟩
theorem Jk{c:List Nat}(h:jh O k=some (c,ai))(hf:O[kf]?=some (.obj is (-2))):ai[kf]?=some (.obj is (-2)):=by
 refine IK h λkp ks kl kc n L hk hn hs hL hC zz q=>?_;have h1:kf≠k:=λq=>by rw[q,hk]at hf;cases hf;exact absurd hn (by decide)
 have h2:kf≠kl:=λq=>by rw[q,hL]at hf;cases hf
 rcases q with⟨_,_,rfl⟩|⟨z,_,_,_,⟨_,rfl⟩|⟨_,rfl⟩⟩
 ·exact hf
 ·rw[lz (λz=>h1 z.symm),lz (λz=>h2 z.symm)];exact hf
 ·rw[lz (λz=>h2 z.symm)];exact hf
theorem Qw{r:Option (List Nat)}{G:Prop}(h:draw O kf=some (r,ai))(K1:∀k c aA,O[kf]?=some (.obj [k] (-2))->jh O k=some (c,aA)->((c=[]/\r=.none/\ai=aA.set kf (.obj [k] (-4)))∨(c≠[]/\r=some c/\ai=aA))->G)
  (K2:∀k,O[kf]?=some (.obj [k] (-4))->r=.none->ai=O->G):G:=by
 refine mD (e:=O[kf]?) h (λk hk h=>?_) λk hk h=>sp h λe1 e2=>K2 k hk e1.symm e2.symm;induction hr:jh O k using aT with
 |none=>rw[hr]at h;exact ns h
 |some p=>
  obtain⟨c,aA⟩:=p;rw[hr]at h;induction c using aN with
  |nil=>exact sp h λe1 e2=>K1 k _ aA hk hr (.inl ⟨rfl,e1.symm,e2.symm⟩)
  |cons a c=>exact sp h λe1 e2=>K1 k _ aA hk hr (.inr ⟨List.cons_ne_nil _ _,e1.symm,e2.symm⟩)
theorem PD{r:Option (List Nat)}(h:draw O kf=some (r,ai)):(∃k m,O[kf]?=some (.obj [k] m)/\(m = -2∨m = -4))/\∃k m,ai[kf]?=some (.obj [k] m)/\(m = -2∨m = -4):=
 Qw h (λk c aA hk hr q=>⟨⟨k,_,hk,.inl rfl⟩,by
  have:=Jk hr hk;rcases q with⟨_,_,rfl⟩|⟨_,_,rfl⟩
  ·exact⟨k,-4,by rw[xB (cM.mp this).1],.inr rfl⟩
  ·exact⟨k,-2,this,.inl rfl⟩⟩) λk hk zz e=>by subst e;exact⟨⟨k,_,hk,.inr rfl⟩,⟨k,_,hk,.inr rfl⟩⟩
theorem c4l{f:aB->Mu->Option (F×aB×Mu)}{t:T}{g:F}{G:Prop}(h:fO f t kf (m+1) J O=some (g,ρ',ai))(k1:∀aE,draw O kf=some (.none,aE)->some (F.next,J,aE)=some (g,ρ',ai)->G)
  (k2:∀c aE bu fK dY bS,draw O kf=some (some c,aE)->dD t (.str c) J=some bu->f bu aE=some (fK,dY,bS)->GO fK dY bS (fO f t kf m dY bS)=some (g,ρ',ai)->G):G:=by
 have h:(match (generalizing:=false) draw O kf with|.none=>.none|some (.none,O)=>_|some (some c,O)=>_)=some (g,ρ',ai):=h
 induction q:draw O kf using aT with
 |none=>rw[q]at h;exact ns h
 |some p=>
  obtain⟨c,aE⟩:=p;rw[q]at h;induction c using aT with
  |none=>exact k1 aE q h
  |some c=>
   dsimp only at h;induction q1:dD t (.str c) J using aT with
   |none=>rw[q1]at h;exact ns h
   |some bu=>
    rw[q1]at h;dsimp only at h;induction q2:f bu aE using aT with
    |none=>rw[q2]at h;exact ns h
    |some p=>
     obtain⟨x,dY,bS⟩:=p;rw[q2]at h;cases x<;>exact k2 c aE bu _ dY bS q q1 q2 h
inductive NP(Lx:gj)(base:Heap)(Z:G)(env:Env)(as:List (List Addr))(s:aC)(n:Nat)(bs:List S)(t:T)(kf:Nat)(f:F)(ρ':aB)(ai:Mu)(m:Nat)(s':aC):Prop
 |mk (bL:aB) (aA:Mu) (aG:List (List Addr)) (hY:Heap) (dh:Nat) (hs:s'={s with heap:=hY,toks:=dh}) (ht:1<=dh) (hf:fO (λJ O=>exec Z n bs J O) t kf m bL aA=some (f,ρ',ai)) (er:ER Z.ah base env bL aG hY) (gr:GR Lx base aA aG hY) (gs:cE (Wf Z.ah env) as s.heap aG hY)
theorem d2t{t:T}{body:List Stmt}{bs:List S}{q:List Addr}{f:F}{Q:Flow->aC->Prop}
  (LX:nF prog w Lx base Z n) (on:Z.fB=true) (hn:12<=n) (X:v8 prog w Lx base Z n) (nd:c7 Z.ah) (hown:∀x,cS env.scope x=true->(nid Z.ah x).isSome=true) (hint:interactive env=false) (rm:Rm A s n) (c:bQ env.scope env) (tt:iS Z.ah env.scope tg=some t) (UG:kR tg=true) (tb:lW.ku Z.ah mt k env.scope body=some bs)
  (hR:∀fl s',Q fl s'->R (.ok fl) s') (ha:as[kf+1]?=some (a::q))
  (hQ:jx Lx base Z.ah env as s f ρ' ai Q) :
  ∀(m:Nat) (bL:aB) (aA:Mu) (aG:List (List Addr)) (hY:Heap) (dh:Nat),1<=dh->fO (λJ O=>exec Z n bs J O) t kf m bL aA=some (f,ρ',ai) →
   ER Z.ah base env bL aG hY->GR Lx base aA aG hY->cE (Wf Z.ah env) as s.heap aG hY →
   codeAny (model prog w) A (.forLoop tg (.ref a) body [] env) R {s with heap:=hY,toks:=dh}:=by
 intro m bL aA aG hY dh ht hf er gr gs;refine codeAny_forLoop_any (NP Lx base Z env as s n bs t kf f ρ' ai) (λm s' hm=>?_) m (.mk bL aA aG hY dh rfl ht hf er gr gs);clear ht hf er gr gs;obtain⟨bL,aA,aG,hY,dh,rfl,ht,hf,er,gr,gs⟩:=hm;have rm:=rm.at (s':={s with heap:=hY,toks:=dh}) ht;generalize hI:NP Lx base Z env as s n bs t kf f ρ' ai=I;have haI:aG[kf+1]?=some (a::q):=by
  obtain⟨nw,rfl,_⟩:=gs.ext;rw[iK (cM.mp ha).1];exact ha
 induction m using eG with
 |zero=>exact ns hf
 |succ m=>
  generalize notedBy (model prog w) A env (λe s'=>R (.error e) s')=EO;refine c4l hf (λaE hd hf=>?_) λcc aE bu fK dY bS hd hb he hf=>?_
  ·refine LX.draw A EO _ aG aA aE kf a q .none _ on hn rm gr haI hd λh' tk rv g' go' hr=>?_
   cases hr;exact Ei (hR _ _ (spS hf hQ .next aG h' tk g' (er.go go') (gs.trans go'.toS er.there) trivial))
  ·obtain⟨_,kJ,mJ,Va,Bb⟩:=PD hd
   refine lV ht (LX.draw A _ _ aG aA aE kf a q (some cc) _ on hn rm gr haI hd λh' tk rv g' go' hr ht=>?_);obtain⟨ttO,rfl⟩:=hr;have dI:=er.go go';have gs':=gs.trans go'.toS er.there;refine LX.lets A EO {s with heap:=h',toks:=tk} aG aE kf a q [kJ] mJ tg _ _ on g' haI Va Bb UG ?_;have rm:=rm.at (s':={s with heap:=h',toks:=tk}) ht;refine rm.with λzz=>z7 (CS dI hown) (λa ha=>ha) nd tt rm.calm hb dI g' ⟨_,rfl⟩ λhJ dN gJ bI dS qb ht=>?_;have tT:=gs'.trans dS dI.there;refine lV ht (X bs mt k body A _ env _ _ _ _ aG _ _ _ tb hown hint (rm.at ht) c bI gJ he λfl iF hU jR gU kK tS fr htL=>?_);have yy:=tT.trans tS bI.there;exact QG (s:=s) hR hQ hf fr gU kK yy λhf=>⟨m,nR m,hI▸.mk dY bS iF hU jR rfl htL hf kK gU yy⟩
end
section
theorem Jh{p:Pos}{Q:Flow->aC->Prop}(h:au (model prog w) A (eval e env) (λv sI=>au (model prog w) A (storeName env x v) (λzz=>Q .next) E sI) E s)(hs:swapsWith e (some (.Name x p)) pos.line env=pure false) :
  au (model prog w) A (mR (.Assign [.Name x p] e pos) env) Q E s:=Ko h hs
theorem e8a(h:qp e=true):isList e=false:=RW e (jz h) λzz zz zz zz=>rfl
theorem d8m(h:yX e=.none):¬e.ctorIdx=25:=λq=>by
 revert h;exact DQ e q λzz zz zz h=>ns h.symm
theorem e7l{y:Internal.X}(hcmp:qp e=false)(t:aK ah k sc e=some y):swapsWith e none line env=pure false:=G4 (PM hcmp) (GA t) (G5 t)
theorem CG        (er:ER ah base env J as s.heap) (hx:nid ah x=some i) (hv:gS env.scope x=true) (hc:(x==("__classdict__":Str))=false) (bH:J.lookup i=some v)
  (h:∀u,Rep s.heap as v u->Q u s):au (model prog w) A (loadName env x) Q E s:=by
 rcases Rc hv with hk|hk|hk
 ·obtain⟨m,hn,hl⟩:=er.loc
  obtain⟨u,h1,h2⟩:=hl i x v (fQ hx) hk bH;exact uU er.kind hk hn h1 (h u h2)
 ·obtain⟨c,u,h1,_,_,h2,h3⟩:=er.jr i x (fQ hx) (.inl hk)
  obtain⟨u',rfl,r⟩:=h3 v bH;exact Ke er.kind hk h1 h2 (h u' r)
 ·obtain⟨c,u,h1,_,_,h2,h3⟩:=er.jr i x (fQ hx) (.inr hk)
  obtain⟨u',rfl,r⟩:=h3 v bH;exact Kd er.kind hk h1 h2 (h u' r) hc
theorem Zs(er:ER ah base env J as s.heap)(hx:nid ah x=some i)(hv:cS env.scope x=true)(bH:J.lookup i=some v)
  (h:∀u,Rep s.heap as v u->Q u s):au (model prog w) A (loadName env x) Q E s:=by
 rcases Jd hv with hk|hk
 ·obtain⟨m,hn,hl⟩:=er.loc
  obtain⟨u,h1,h2⟩:=hl i x v (fQ hx) hk bH;exact uU er.kind hk hn h1 (h u h2)
 ·obtain⟨c,u,h1,_,_,h2,h3⟩:=er.jr i x (fQ hx) (.inl hk)
  obtain⟨u',rfl,r⟩:=h3 v bH;exact Ke er.kind hk h1 h2 (h u' r)
theorem d5u{a b:List Nat}{t u:Tok}(hl:a.length+b.length<=big)(h:∀t' tk',Q (.str ⟨(a++b).toArray⟩ t') {s with toks:=tk'}):au (model prog w) A (inplaceOp .Add (.str ⟨a.toArray⟩ t) (.str ⟨b.toArray⟩ u)) Q E s:=by
 have e:(⟨a.toArray⟩:Str)++(⟨b.toArray⟩:Str)=⟨(a++b).toArray⟩:=by
  show(⟨a.toArray++b.toArray⟩:Str)=_;simp
 refine iadd_str (λt' tk'=>by rw[e];exact h t' tk') ?_;have e2:(⟨a.toArray⟩:Str).length+(⟨b.toArray⟩:Str).length=a.length+b.length:=by simp[pD]
 rw[e2,sizeLine_eq];unfold big at hl;exact bz hl
theorem Zp(S:cj prog w Lx base Z)(nd:c7 Z.ah){p:Pos}{y:Internal.X}{Q:Flow->aC->Prop}
  (hx:nid Z.ah x=some i) (ho:cS env.scope x=true) (te:aK Z.ah k env.scope e=some y) (rm:Rm A s n) (c:bQ env.scope env) (er:ER Z.ah base env J as s.heap) (gr:GR Lx base O as s.heap) (hu:J.lookup i=some u) (h1:ev Z n y J O=some (v,aA)) (hop:vH .Add u v=some r)
  (hQ:jx Lx base Z.ah env as s .next (put i r J) aA Q):au (model prog w) A (mR (.AugAssign (.Name x p) .Add e pos) env) Q E s:=by
 refine wpAny_AugAssign_Name (Zs er hx ho hu λa ra=>?_);refine(jG S nd n).1 y k env.scope e te A E env J O as s v aA _ rm c er gr h1 λb aG hY tk gI aM rb=>?_;have ra:=ra.go aM;have fin:∀{w':ao}{tk':Nat},Rep hY aG r w'->au (model prog w) A (storeName env x w') (λzz=>Q .next) E {s with heap:=hY,toks:=tk'}:=λ{w' tk'} rw'=>
  uA (s:={s with heap:=hY,toks:=tk'}) nd hx ho (er.go aM) gI rw' λhJ dN gJ bI dS qb=>hQ .next aG hJ dN gJ bI (aM.toS.trans dS (er.go aM).there) trivial
 induction u using Internal.V.casesOn with
 |str a=>induction v using Internal.V.casesOn with
  |str b=>
   refine aL hop λhl hop=>?_;obtain rfl:=aD hop;obtain⟨t1,rfl⟩:=ra;obtain⟨t2,rfl⟩:=rb;exact d5u (of_decide_eq_true hl) λt' tk'=>fin ⟨t',rfl⟩
  |_=>exact ns hop
 |_=>induction v using Internal.V.casesOn<;>exact ns hop
theorem d5j(LX:nF prog w Lx base Z n)(on:Z.fB=true)(hn:12<=n)(X:v8 prog w Lx base Z n)(nd:c7 Z.ah){body:List Stmt}{t:T}{bs:List Internal.S}{f:F}{Q:Flow->aC->Prop}
  (hown:∀x,cS env.scope x=true->(nid Z.ah x).isSome=true) (hint:interactive env=false) (rm:Rm A s n) (c:bQ env.scope env) (hch:M8 env.scope it=some x) (tt:iS Z.ah env.scope tg=some t) (hx:nid Z.ah x=some i) (tb:lW.ku Z.ah mt k env.scope body=some bs)
  (er:ER Z.ah base env J as s.heap) (gr:GR Lx base O as s.heap) (bH:J.lookup i=some (.mut kf)) (h:fO (λJ O=>exec Z n bs J O) t kf big J O=some (f,ρ',ai)) (hQ:jx Lx base Z.ah env as s f ρ' ai Q) :
  au (model prog w) A (mR (.For tg it body [] pos) env) Q E s:=by
 refine aO hch λy U1 hch=>aL hch λhy Vv=>?_;obtain rfl:=aD Vv;obtain⟨p,rfl⟩:=mQ U1;obtain rfl:=eq_of_beq (aP hy);refine wpAny_For (pZ (CG er hx (aR hy) (by decide) bH λu ru=>?_) (by decide)) λv=>rfl;obtain⟨a,q,ha,rfl⟩:=ru;obtain⟨⟨r,aE⟩,hd⟩:∃r,Internal.draw O kf=some r:=by
  induction hd:Internal.draw O kf using aT with
  |some r=>exact⟨r,rfl⟩
  |none=>
   have h:fO (λJ O=>exec Z n bs J O) t kf (999999+1) J O=some (f,ρ',ai):=h;exact ns ((d6d hd).symm.trans h)
 obtain⟨⟨kI,mI,ym,U5⟩,_⟩:=PD hd;refine LX.self A E s as O kf a q [kI] mI _ on gr ha ym U5 ?_;exact d2t (f:=f) (ρ':=ρ') (ai:=ai) (Q:=Q) LX on hn X nd hown hint rm c tt (wW tt) tb (λfl s' q=>q) ha hQ big J O as s.heap s.toks rm.tk h er gr (cE.refl gr)
theorem Ik(S:cj prog w Lx base Z)(nd:c7 Z.ah)(LX:nF prog w Lx base Z n)(X:v8 prog w Lx base Z n){st:Stmt}{x:Internal.S}{f:F}{Q:Flow->aC->Prop}
  (t:lW Z.ah mt k env.scope st=some x) (hown:∀x,cS env.scope x=true->(nid Z.ah x).isSome=true) (hint:interactive env=false) (rm:Rm A s n) (c:bQ env.scope env) (er:ER Z.ah base env J as s.heap) (gr:GR Lx base O as s.heap) (h:aQ Z n x J O=some (f,ρ',ai))
  (hQ:jx Lx base Z.ah env as s f ρ' ai Q):au (model prog w) A (mR st env) Q E s:=by
 refine oK λG0 hG=>?_;induction k using eG with
 |zero=>exact ns t
 |succ k=>
  generalize hst:st=st' at t;cases st' with
  |Assign targets v pos=>
   refine aO t λt0 h0 t=>?_;rw[pe h0]at hst;refine fH t (λx hn t=>aL t λho t=>aO t λi hx t=>?_) λzz t=>fH t (λts hn t=>?_) λzz t=>aO t λq hn t=>?_
   ·obtain⟨p,hN⟩:=mQ hn
    rw[hN]at hst;refine fH t (λy hfit t=>?_) λzz t=>fH t (λe Mf t=>?_) λzz t=>?_
    ·exact aZ t λj hj e=>aL (stx e h) λri h=>yd h λkx bH h=>Xc h λkp ks m hk h=>aL h λhm h=>
      hG (hst▸Jh (LX.fit _ y j kx kp ks m A E env J O as s _ (aP ri) (of_decide_eq_true (aR ri)) hfit hj bH hk hm rm er gr λv aG hY tk gI aM rv=>
       uA nd hx ho (er.go aM) gI rv λhJ dN gJ bI dS qb=>spS h hQ .next aG hJ dN gJ bI (aM.toS.trans dS (er.go aM).there) trivial) (Px hfit λzz zz zz zz zz zz e zz zz zz zz=>e▸rfl))
    ·exact aZ t λy t e1=>aL (stx e1 h) λri h=>Yh h λks aA h1 h=>WU h λkl kc hks h=>
      hG (hst▸Jh (LX.new (aP ri) (of_decide_eq_true (aR ri)) k e _ y A E env J O as s ks kl kc aA _ Mf t rm c er gr h1 hks λv aG hY tk gI aM rv=>
       uA nd hx ho (er.go aM) gI rv λhJ dN gJ bI dS qb=>spS h hQ .next aG hJ dN gJ bI (aM.toS.trans dS (er.go aM).there) trivial) (PG Mf λzz zz e zz zz=>e▸rfl))
    ·exact aZ t λy t e=>cX (stx e h) λv aA h1 h=>hG (hst▸b3d S nd hx ho t rm c er gr h1 (λhc=>by rw[e8a hc,Bool.and_false]) (spS h hQ))
   ·obtain⟨kk,p,hN⟩:=Dy hn
    rw[hN]at hst;refine fH t (λvs hv t=>?_) λhnt t=>?_
    ·obtain⟨k',p',hV⟩:=Dy hv
     rw[hV]at hst;exact aL t λhq t=>aO t λis hi t=>aO t λl tl t=>aL t λhnd t=>cX (stx (aD t) h) λv aA h1 h=>aZ h λbL hu h=>
      hG (hst▸c4d S nd hown hi hnd (aP hq) (aR hq) tl rm c er gr h1 hu (spS (congrArg some h) hQ))
    ·exact aO t λis hi t=>aZ t λe te e1=>cX (stx e1 h) λv aA h1 h=>aZ h λbL hu h=>hG (hst▸c0i S nd hown hi (d8m hnt) te rm c er gr h1 hu (spS (congrArg some h) hQ))
   ·obtain⟨p,hN⟩:=Rp hn
    refine aO t λx hx t=>aL t λhq t=>aO t λi hi t=>aO t λkx tk t=>aZ t λex te e=>cX (stx e h) λv aA h1 h=>yd h λj bH h=>yL h λq aE h2 h=>Le h λl hm h=>aL h λhl h=>?_;obtain⟨p',hM⟩:=mQ hx;rw[hN,hM]at hst;exact hG (hst▸c5r S nd (kM (aR hq)) (aP hq) hi tk te rm c er gr h1 bH h2 hm hl λas' h' tk g' go'=>spS h hQ .next as' h' tk g' (er.go go') go'.toS trivial)
  |If c0 a b pos=>
   exact aO t λcx tc t=>aO t λax ta t=>aZ t λbx tb e=>cX (stx e h) λv aA h1 h=>hG (hst▸wpAny_If (qg h
    (λh2 h=>qB (jG S nd n).2 tc rm c er gr h1 h2 λaG hY tk rm gI aM=>X _ mt k _ A E env J _ _ _ aG _ f _ ta hown hint rm c (er.go aM) gI h (hQ.after aM.toS (er.go aM).there))
    λh2 h=>qB (jG S nd n).2 tc rm c er gr h1 h2 λaG hY tk rm gI aM=>X _ mt k _ A E env J _ _ _ aG _ f _ tb hown hint rm c (er.go aM) gI h (hQ.after aM.toS (er.go aM).there)))
  |AugAssign tg op e pos=>
   refine aL t λhop t=>?_;rw[eq_of_beq hop]at hst;refine fH t (λx hn t=>?_) λzz t=>fH t (λq hn t=>?_) λzz t=>aO t λq hn t=>?_
   ·obtain⟨p,hN⟩:=mQ hn
    rw[hN]at hst;exact aL t λho t=>aO t λi hx t=>aZ t λex te e1=>W6 (stx e1 h) λu hu h=>cX h λv aA h1 h=>aZ h λr hop h=>hG (hst▸Zp S nd hx ho te rm c er gr hu h1 hop (spS (congrArg some h) hQ))
   ·obtain⟨p,hN⟩:=Rp hn
    refine aO t λx hx t=>aL t λhq t=>aO t λi hi t=>aO t λkx tk t=>aZ t λex te e1=>yd (stx e1 h) λj bH h=>yL h λq aA h1 h=>YC h λa h2 h=>yL h λb aE h3 h=>W0 h λl hm h=>aL h λhl h=>aZ h λpp hp h=>?_;obtain⟨p',hM⟩:=mQ hx;rw[hN,hM]at hst;exact hG (hst▸d7l S nd (kM (aR hq)) (aP hq) hi tk te rm c er gr bH h1 h2 h3 hm hl.1 hl.2 hp λas' h' tk g' go'=>spS (congrArg some h) hQ .next as' h' tk g' (er.go go') go'.toS trivial)
   ·obtain⟨p,p',hN⟩:=RM hn
    refine aL t λhq t=>aZ t λj hj e=>yd (stx e h) λkx bH h=>Xg h λis m hk h=>aL h λhm h=>?_;obtain⟨kd,pc,hC⟩:=Qe (eq_of_beq (aP (aP (aP (aP hq)))));rw[hN,hC]at hst;exact hG (hst▸LX.line _ _ _ _ _ _ _ j kx is m A E env J O as s Q (aR (aP (aP (aP hq)))) (eq_of_beq (aR (aP (aP hq)))) hj (kM (aR (aP hq))) (kM (aR hq)) bH hk hm rm er gr λh' tk g' go'=>spS h hQ .next as h' tk g' (er.go go') go'.toS trivial)
  |For tg it body orelse pos=>
    refine aL t λVl t=>?_;rw[D5.mp Vl]at hst;refine fH t (λx hch t=>?_) λzz t=>?_
    ·exact aO t λtt h1 t=>aO t λi h2 t=>aZ t λbs h3 e=>aL (stx e h) λri h=>yd h λkf bH h=>
      hG (hst▸d5j LX (aP ri) (of_decide_eq_true (aR ri)) X nd hown hint rm c hch h1 h2 h3 er gr bH h hQ)
    ·refine aL t λhe t=>aO t λtt h1 t=>aO t λix h2 t=>aZ t λbs h3 e=>?_
     have core:∀(vs:List V) (aA:Mu),(∀E Q,rW prog w Lx base as s tg vs aA (λzz=>True) Q->au (model prog w) A (eval it env) (λv sI=>au (model prog w) A (pyIter v) Q E sI) E s)->eB (λJ O=>exec Z n bs J O) tt vs J aA=some (f,ρ',ai) →
       au (model prog w) A (mR (.For tg it body [] pos) env) Q E s:=λvs aA hI h=>by
      refine wpAny_For (IP rm (hI _ _ λitv own St aG hY dh wk st gI aM yg=>?_)) λv=>Ja h2 v;have bR:=er.go aM;refine d7f (f:=f) (ρ':=ρ') (ai:=ai) (Q:=Q) X nd hown hint rm c h1 h3 (wk A rm.calm) (λa ha hm=>?_) (λfl s' q=>q) hQ vs 0 J aA aG hY dh yg rfl (iV _) h bR gI st aM.toS;obtain⟨_,_,o,e,_⟩:=er.held ha;exact ns (((wk A rm.calm).fresh a hm).1.symm.trans e)
     have h:=stx e h;rw[B9]at h;induction hi:cT (λx O=>ev Z n x J O) ix O using aT with
     |some p=>
      rw[hi]at h;exact hG (hst▸core p.1 p.2 (λE Q hQ=>CU S (jG S nd n).1 (wW h1) he h2 rm c er gr hi hQ) h)
     |none=>
      rw[hi]at h;exact ns h
  |Return e pos=>
   refine aO t λe9 Vm t=>?_;rw[Vm]at hst;exact aZ t λy t e1=>cX (stx e1 h) λv aA h1 h=>hG (hst▸Tt ((jG S nd n).1 y k env.scope _ t A E env J O as s v _ _ rm c er gr h1 λu aG hY tk gI aM rv=>spS h hQ (.ret u) aG hY tk gI (er.go aM) aM.toS rv))
  |Expr e pos=>
   exact jT t λhcmp t=>aZ t λy t e1=>cX (stx e1 h) λv aA h1 h=>hG (hst▸wpAny_Expr_any ((jG S nd n).1 y k env.scope _ t A E env J O as s v _ _ rm c er gr h1 λu aG hY tk gI aM rv=>spS h hQ .next aG hY tk gI (er.go aM) aM.toS trivial) hint (e7l (jA.mpr hcmp) t))
  |Break pos=>exact hG (hst▸wpAny_Break (spS (stx (aD t) h) hQ .brk as s.heap s.toks gr er (cE.refl gr) trivial))
  |Continue pos=>exact hG (hst▸wpAny_Continue (spS (stx (aD t) h) hQ .cont as s.heap s.toks gr er (cE.refl gr) trivial))
  |_=>exact ns t
end
section
noncomputable def Wj(f:F):Bool:=F.casesOn f true false false λzz=>false
theorem d0z{f:S->aB->Mu->Option (F×aB×Mu)}{a:S}{b:List S}{g:F}{G:Prop}(h:bE f (a::b) J O=some (g,ρ',ai))(k1:∀bL aA,f a J O=some (.next,bL,aA)->bE f b bL aA=some (g,ρ',ai)->G)(k2:f a J O=some (g,ρ',ai)->g≠.next->G):G:=by
 have h:(match (generalizing:=false) f a J O with
  |some (.next,J,O)=>bE f b J O
  |x=>x)=some (g,ρ',ai):=h
 induction q:f a J O using aT with
 |none=>rw[q]at h;exact ns h
 |some p=>
  obtain⟨x,bL,aA⟩:=p;rw[q]at h;induction x using Internal.F.casesOn with
  |next=>exact k1 bL aA q h
  |_=>exact k2 (q.trans h) λe=>by subst e;exact nt (congrArg (λz:Option (F×aB×Mu)=>z.elim false λp=>Wj p.1) h)
theorem PV(S:cj prog w Lx base Z)(nd:c7 Z.ah)(LX:nF prog w Lx base Z n)(X:v8 prog w Lx base Z n)(hown:∀x,cS env.scope x=true->(nid Z.ah x).isSome=true)(hint:interactive env=false)(c:bQ env.scope env) :
  ∀(k:Nat) (stmts:List Stmt) (ss:List Internal.S) (J ρ':aB) (O ai:Mu) (as:List (List Addr)) (s:aC) (f:F) (Q:Flow->aC->Prop),
  Rm A s n->lW.ku Z.ah mt k env.scope stmts=some ss->ER Z.ah base env J as s.heap->GR Lx base O as s.heap->bE (aQ Z n) ss J O=some (f,ρ',ai) →
  jx Lx base Z.ah env as s f ρ' ai Q->au (model prog w) A (execs stmts env) Q E s:=by
 intro k;induction k with
 |zero=>intro stmts ss J ρ' O ai as s f Q rm t er gr h hQ;exact ns t
 |succ k ih=>
  intro stmts ss J ρ' O ai as s f Q rm t er gr h hQ;induction stmts using aN with
  |nil=>
   obtain rfl:=aD t;exact Ei (spS h hQ .next as s.heap s.toks gr er (cE.refl gr) trivial)
  |cons st r=>
   refine aO t λa t1 t=>aZ t λb t2 e=>?_;have h:bE (aQ Z n) (a::b) J O=_:=e▸h;refine d0z h (λbL aA h1 h=>?_) λh hne=>?_
   ·refine nX (rm.with λzz=>Ik S nd LX X t1 hown hint rm c er gr h1 λfl aG hY tk gI bR FL fr ht=>?_)
    induction fl using mS with
    |next=>exact ih r b bL ρ' aA ai aG _ f Q (rm.at ht) t2 bR gI h (hQ.after FL bR.there)
    |_=>exact fr.elim
   ·refine nX (Ik S nd LX X t1 hown hint rm c er gr h λfl aG hY tk gI bR FL fr=>?_)
    induction fl using mS with
    |next=>induction f using Internal.F.casesOn with
     |next=>exact absurd rfl hne
     |_=>exact fr.elim
    |_=>exact hQ _ aG hY tk gI bR FL fr
theorem wQ(S:cj prog w Lx base Z)(nd:c7 Z.ah)(LX:∀n,nF prog w Lx base Z n):∀n,v8 prog w Lx base Z n:=by
 intro n;induction n with
 |zero=>exact λss mt k stmts A E env J ρ' O ai as s f Q zz zz zz zz zz zz zz h zz=>ns h
 |succ n ih=>
  intro ss mt k stmts A E env J ρ' O ai as s f Q t ho hi rm c er gr h hQ;rw[e2c]at h;exact PV S nd (LX n) ih ho hi c k stmts ss J ρ' O ai as s f Q (rm.less (iA n)) t er gr h hQ
end
section
theorem Rep.TZ(sub:∀a,a∈as.flatten->a∈as'.flatten):(∀x v,plain x=true->Rep h as' x v->Rep h as x v)/\∀l vs,cY l=true->aJ h as' l vs->aJ h as l vs:=by
 refine BO (λzz zz r=>r) (λzz zz zz r=>r) (λzz zz zz r=>r) (λzz zz zz r=>r) (λzz zz zz r=>r) (λl ih v p r=>?_) (λl ih v p r=>?_) (λk v p zz=>nt p) (λzz zz zz r=>r) (λzz zz r=>r) λx l ih1 ih2 vs p r=>?_
 ·obtain⟨a,vs,e,ha,hi,hr⟩:=r
  exact⟨a,vs,e,λq=>ha (sub a q),hi,ih vs p hr⟩
 ·obtain⟨a,vs,e,ha,hi,hr⟩:=r
  exact⟨a,vs,e,λq=>ha (sub a q),hi,ih vs p hr⟩
 ·obtain⟨v,rs,e,hx,hr⟩:=r
  exact⟨v,rs,e,ih1 v (aP p) hx,ih2 rs (aR p) hr⟩
theorem aJ.xY(sub:∀a,a∈as.flatten->a∈as'.flatten):cY l=true->aJ h as' l vs->aJ h as l vs:=(Rep.TZ sub).2 l vs
theorem mL{r:α}{G:Prop}{e:Option M}{f:List V->Option α}(h:(match e with|some (.list l)=>f l|_=>.none)=some r)(k:∀l,e=some (.list l)->f l=some r->G):G:=by
 induction e using aT with
 |none=>exact ns h
 |some m=>induction m using Internal.M.casesOn with
  |list l=>exact k l rfl h
  |obj _ _=>exact ns h
  |dict _=>exact ns h
theorem Rep.Xk(g:GR Lx base O (as++nw) h)(hm:as.length=m+1):(∀x y v,iR m O x=some y->Rep h (as++nw) x v->Rep h as y v)/\∀l l' vs,nJ m O l=some l'->aJ h (as++nw) l vs->aJ h as l' vs:=by
 have sub:∀a,a∈as.flatten->a∈(as++nw).flatten:=λa q=>by rw[eN];exact uN _ q
 refine BO (λzz zz f r=>aD f▸r) (λzz zz zz f r=>aD f▸r) (λzz zz zz f r=>aD f▸r) (λzz zz zz f r=>aD f▸r) (λzz zz zz f r=>aD f▸r) (λl ih y v f r=>?_) (λl ih y v f r=>?_) (λk y v f r=>?_) (λzz zz zz f r=>aD f▸r) (λzz zz f r=>aD f▸r) λx l ih1 ih2 l' vs f r=>?_
 ·refine aZ f λl' f2 e2=>?_
  subst e2;obtain⟨a,vs,e,ha,hi,hr⟩:=r;exact⟨a,vs,e,λq=>ha (sub a q),hi,ih l' vs f2 hr⟩
 ·refine aL f λhp f=>?_
  obtain rfl:=aD f;obtain⟨a,vs,e,ha,hi,hr⟩:=r;exact⟨a,vs,e,λq=>ha (sub a q),hi,hr.xY sub hp⟩
 ·obtain⟨a,q,e,rfl⟩:=r
  refine bZ f (λhk f=>?_) λhk f=>mL f λl hl f=>aL f λhp f=>?_
  ·obtain rfl:=aD f
   rw[iK (hm▸DY hk)]at e;exact⟨a,q,e,rfl⟩
  ·obtain rfl:=aD f
   obtain⟨a',vs,e',hpl,hr⟩:=g.dQ k _ _ hl e;cases e';refine⟨a,vs,rfl,λhin=>?_,hpl,hr.xY sub hp⟩;rw[fY (hm▸dc (pI.mp hk))]at e;have h2:a∈nw.flatten:=gO.mpr ⟨[a],g6 e,bK.mpr rfl⟩;have:=g.nd;rw[eN,JM]at this;exact this.2.2 a hin a h2 rfl
 ·have f:(match (generalizing:=false) iR m O x,nJ m O l with|some a,some b=>some (a::b)|_,_=>.none)=some l':=f
  obtain⟨v,rs,e,hx,hr⟩:=r;induction f1:iR m O x using aT with
  |none=>rw[f1]at f;exact ns f
  |some a=>induction f2:nJ m O l using aT with
   |none=>rw[f1,f2]at f;exact ns f
   |some b=>
    rw[f1,f2]at f;obtain rfl:=aD f;exact⟨v,rs,e,ih1 a v f1 hx,ih2 b rs f2 hr⟩
theorem Rep.frozen(g:GR Lx base O (as++nw) h)(hm:as.length=m+1){x y:V}{v:ao}:iR m O x=some y->Rep h (as++nw) x v->Rep h as y v:=(Rep.Xk g hm).1 x y v
theorem GR.drop(g:GR Lx base O (as++nw) h)(hm:as.length=m+1)(hok:(O.take m).all (gw m)=true)(hl:m<=O.length):GR Lx base (O.take m) as h:=by
 have sub:∀a,a∈as.flatten->a∈(as++nw).flatten:=λa q=>by rw[eN];exact uN _ q
 refine⟨g.keep,λa ha=>g.fresh a (sub a ha),?_,λa ha=>g.alive a (sub a ha),by rw[hm,sR,Sd hl],λk M aH hk ha=>?_⟩
 ·have:=g.nd
  rw[eN,JM]at this;exact this.1
 ·have hk':k<m:=by
   have:=(cM.mp hk).1;rw[sR]at this;exact fk this (Sb _ _)
  have hM:gw m M=true:=cN.mp hok M (g6 hk);rw[List.getElem?_take_of_lt hk']at hk;have:=g.dQ k M aH hk (by rw[iK (by rw[hm];exact DY hk')];exact ha);induction M using Internal.M.casesOn with
  |list l=>
   obtain⟨a,vs,rfl,hp,hr⟩:=this;exact⟨a,vs,rfl,hp,hr.xY sub hM⟩
  |obj is n=>exact this.imp λzz=>qV (c9y hm hM)
  |dict l=>
   obtain⟨a,vs,rfl,hp,hr⟩:=this;exact⟨a,vs,rfl,hp,hr.xY sub hM⟩
end
theorem b9r(f:Str->Option fU):∀(bs:List (Str×ao)) (m:Str->Option ao),x∉bs.map (·.1)->bindL f bs m x=m x:=by
 intro z_;induction z_ with
 |nil=>
  intro _ _;exact rfl
 |cons iL r ih=>
  obtain⟨n,v⟩:=iL;intro m h;refine(ih _ λq=>h (fX _ q)).trans ?_;by_cases hf:f n=some .local
  ·rw[if_pos hf];exact if_neg λq=>h (bT.mpr (.inl q))
  ·rw[if_neg hf]
theorem I0(f:Str->Option fU){u:ao}(hx:f x=some .local):∀(bs:List (Str×ao)) (m:Str->Option ao),(bs.map (·.1)).Nodup->(x,u)∈bs->bindL f bs m x=some u:=by
 intro z_;induction z_ with
 |nil=>
  intro _ _ h;cases h
 |cons iL r ih=>
  obtain⟨n,v⟩:=iL;intro m nd h;rw[fm,kh]at nd;rcases bT.mp h with e|h
  ·cases e
   refine(b9r f r _ nd.1).trans ?_;rw[if_pos hx];exact if_pos rfl
  ·exact ih _ nd.2 h
theorem b9b(f:Str->Option fU):∀(bs:List (Str×ao)) (m:Str->Option ao),x∉bs.map (·.1)->bindC f bs m x=m x:=by
 intro z_;induction z_ with
 |nil=>
  intro _ _;exact rfl
 |cons iL r ih=>
  obtain⟨n,v⟩:=iL;intro m h;refine(ih _ λq=>h (fX _ q)).trans ?_;by_cases hf:f n=some .local
  ·rw[if_pos hf]
  ·rw[if_neg hf];exact if_neg λq=>h (bT.mpr (.inl q))
theorem d1y(f:Str->Option fU){u:ao}(hx:f x≠some .local):∀(bs:List (Str×ao)) (m:Str->Option ao),(bs.map (·.1)).Nodup->(x,u)∈bs->bindC f bs m x=some u:=by
 intro z_;induction z_ with
 |nil=>
  intro _ _ h;cases h
 |cons iL r ih=>
  obtain⟨n,v⟩:=iL;intro m nd h;rw[fm,kh]at nd;rcases bT.mp h with e|h
  ·cases e
   refine(b9b f r _ nd.1).trans ?_;rw[if_neg hx];exact if_pos rfl
  ·exact ih _ nd.2 h
theorem Af(ns:List (Str×fU))(n:Nat)(acc:List (Str×Addr))(h:ns.lookup x=some .cell):((cellsFrom n ns acc).lookup x).isSome=true:=cellsFrom_some ns n acc (.inl h)
theorem Rq(hx:ah[i]?=some x):∀(names:List Str) (is:List Nat) (args:List V) (vals:List ao),bJ (nid ah) names=some is->aJ h as args vals->(is.zip args).lookup i=some v →
  ∃u,(x,u)∈names.zip vals/\Rep h as v u:=by
 intro names;induction names with
 |nil=>intro is args vals a r e;obtain rfl:=aD a;exact ns e
 |cons n nr ih=>
  intro is args vals a r e;refine eY a λj js h1 h2 a=>?_;subst a;induction args using aN with
  |nil=>exact ns e
  |cons y ys=>
   obtain⟨u,us,rfl,ru,rr⟩:=r;rw[JJ,ek]at e;induction q:i==j using eo with
   |true=>
    rw[q]at e;obtain rfl:=aD e;obtain rfl:=eq_of_beq q;rw[fQ h1]at hx;obtain rfl:=aD hx;exact⟨u,fW,ru⟩
   |false=>
    rw[q]at e;obtain⟨u',m,r'⟩:=ih js ys us h2 rr e;exact⟨u',fX _ m,r'⟩
section
theorem CZ{sI:aC}
  (hk:fd.scope.kind=.function) (hg:fd.globals=gx) (hb:fd.builtins=i9) (hfree:∀p∈fd.scope.names,p.2≠.free) (hnd:names.Nodup) (hi:bJ (nid ah) names=some is)
  (x:InCallC s (dz fd s.heap.objs.size a).locals (bindL (dz fd s.heap.objs.size a).kindOf (names.zip vals) λzz=>.none) (dz fd s.heap.objs.size a).cells
    (bindC (dz fd s.heap.objs.size a).kindOf (names.zip vals) λzz=>.none) sI)
  (hl:names.length=vals.length) (g:GR Lx base O as s.heap) (ra:aJ sI.heap as args vals):ER ah base (dz fd s.heap.objs.size a) (is.zip args) as sI.heap:=by
 have Mc:((names.zip vals).map (·.1)).Nodup:=by rw[g5f (by exact gY hl)];exact hnd
 have off:∀c,s.heap.objs.size<=c->c∉as.flatten/\base.get? c=.none:=λc hc=>by
  have hn:s.heap.get? c=.none:=by
   exact rN hc
  refine⟨λq=>?_,?_⟩
  ·obtain⟨o,e⟩:=g.alive c q
   rw[hn]at e;exact ns e
  ·induction q:base.get? c using aT with
   |none=>rfl
   |some o=>have:=g.keep _ _ q;rw[hn]at this;exact ns this
 refine⟨hk,hg,hb,⟨_,x.toInCall.ns,λi y v h1 h2 h3=>?_⟩,off _ x.toInCall.fresh,λi y h1 h2=>?_,λy z c h1 h2=>?_⟩
 ·obtain⟨u,hm,hr⟩:=Rq h1 names is args vals hi ra h3
  exact⟨u,I0 _ h2 _ _ Mc hm,hr⟩
 ·have hkc:(dz fd s.heap.objs.size a).kindOf y=some .cell:=by
   rcases h2 with q|q
   ·exact q
   ·exact absurd rfl (hfree _ (Dv q))
  obtain⟨c,hc⟩:=DW.mp (Af fd.scope.names (s.heap.objs.size+1) [] hkc);have hc':(dz fd s.heap.objs.size a).cells.lookup y=some c:=hc;have hlt:s.heap.objs.size<=c:=cy (ck x.toInCall.fresh (x.above _ _ (mem_of_lookup hc')));refine⟨c,_,hc',(off c hlt).1,(off c hlt).2,x.cell _ _ hc',λv hv=>?_⟩;obtain⟨u,hm,hr⟩:=Rq h1 names is args vals hi ra hv;exact⟨u,d1y _ (by rw[hkc];intro q;cases q) _ _ Mc hm,hr⟩
 ·exact name_of_addr x.apart (mem_of_lookup h1) (mem_of_lookup h2)
theorem WO{ex:Option (F×aB×Mu)}{P:Prop}(h:(match ex with|some (.ret v,_,ai)=>if(ai.take m).all (gw m)then(iR m ai v).elim (BQ m ai v) λx=>some (x,ai.take m)else .none|some (.next,_,ai)=>if(ai.take m).all (gw m)then some (.none,ai.take m)else .none|_=>.none)=some (r,ai))
  (k1:∀v bu aE v',ex=some (.ret v,bu,aE)->(aE.take m).all (gw m)=true->iR m aE v=some v'->v'=r->aE.take m=ai->P) (k2:∀bu aE,ex=some (.next,bu,aE)->(aE.take m).all (gw m)=true->V.none=r->aE.take m=ai->P)
  (k3:∀k l bu aE,ex=some (.ret (.mut k),bu,aE)->(aE.take m).all (gw m)=true->aE[k]?=some (.dict l)->m<=k->cY (l.map (·.2))=true->V.mut m=r->aE.take m++[.dict l]=ai->P):P:=by
 induction ex using aT with
 |none=>exact ns h
 |some p=>
  obtain⟨f,bu,aE⟩:=p;induction f using Internal.F.casesOn with
  |ret v=>
   refine aL h λhok h=>fH h (λv' hf h=>sp h λe1 e2=>k1 v bu aE v' rfl hok hf e1 e2) λzz h=>?_;induction v using Internal.V.casesOn with
   | «mut» k=>exact Le (e:=aE[k]?) h λl hl h=>aL h λhq h=>sp h λe1 e2=>k3 k l bu aE rfl hok hl hq.1 hq.2 e1 e2
   |_=>exact ns h
  |next=>exact aL h λhok h=>sp h λe1 e2=>k2 bu aE rfl hok e1 e2
  |_=>exact ns h
theorem d3y{l:List (Int×V)}{v:ao}(g:GR Lx base O (as++nw) h)(hm:as.length=m+1)(hok:(O.take m).all (gw m)=true)(hl:m<=O.length)(hk:O[k]?=some (.dict l))(U4:m<=k)(hp:cY (l.map (·.2))=true)(rv:Rep h (as++nw) (.mut k) v) :
  ∃a,a∈nw.flatten/\GR Lx base (O.take m++[.dict l]) (as++[[a]]) h/\Rep h (as++[[a]]) (.mut m) v:=by
 obtain⟨a,q,e,rfl⟩:=rv;obtain⟨a',vs,e',hd,hr⟩:=g.dQ k _ _ hk e;obtain⟨rfl,rfl⟩:=fZ e';have hin:a∈nw.flatten:=by
  rw[fY (hm▸dc U4)]at e;exact gO.mpr ⟨[a],g6 e,As a⟩
 have sub:∀a,a∈as.flatten->a∈(as++nw).flatten:=λa q=>by rw[eN];exact uN _ q
 have Vc:a∈(as++nw).flatten:=by rw[eN];exact Sx _ hin
 have nd:=g.nd;rw[eN,JM]at nd;obtain⟨o,es,ep,ho,hc,yq,r⟩:=id hd.1;have kind:∀o',h.get? a=some o'->∀xs n,o'.data≠.seq xs n:=λo' e xs n q=>by
  rw[ho]at e;cases e;rw[yq]at q;cases q
 have hoff:∀b∈[a],Off base as h b:=λb hb=>by
  obtain rfl:=bK.mp hb;exact⟨λq=>nd.2.2 b q b hin rfl,g.fresh b Vc,o,ho,kind o ho⟩
 refine⟨a,hin,(g.drop hm hok hl).adopt hoff (kh.mpr ⟨ee,qQ⟩) ⟨a,vs,rfl,hd,(hr.xY sub hp).adopt λb hb o e2=>by
  obtain rfl:=bK.mp hb;exact kind o e2⟩,a,[],?_,rfl⟩
 rw[←hm,fY (bV _),jy];rfl
theorem DA{body:List Stmt}{binds:List (Str×ao)}(ht:1<=s.toks)
  (hroom:A.depth<recursionLimit) (ho:s.heap.get? a=some o) (hdata:o.data=.func fd) (hlim:s.heap.NoLimit) (hcd:s.heap.CodeRec fd.code fd.qualname)
  (hbody:fd.body=.stmts body) (hbind:bindArgs fd ⟨vals,[]⟩=pure binds) (hclo:fd.closure=[])
  (hkind:∀x∈binds,fd.scope.names.lookup x.1=some .local∨(fd.scope.names.lookup x.1=some .cell/\((cellsFrom (s.heap.objs.size+1) fd.scope.names []).lookup x.1).isSome=true))
  (hco:fd.scope.isCoroutine=false) (hgen:fd.scope.isGenerator=false) (hk:fd.scope.kind=.function)
  (h:∀sI,1<=sI.toks->InCallC s (dz fd s.heap.objs.size a).locals (bindL (dz fd s.heap.objs.size a).kindOf binds λzz=>none) (dz fd s.heap.objs.size a).cells (bindC (dz fd s.heap.objs.size a).kindOf binds λzz=>none) sI →
   ∀E,au (model prog w) (A.deeper (dz fd s.heap.objs.size a)) (execs body (dz fd s.heap.objs.size a)) (λf s'=>R (.ok (.ret (match f with|.ret v=>v|_=>.none))) s') E sI) :
  codeAny (model prog w) A (.call (.ref a) ⟨vals,[]⟩) R s:=by
 refine codeAny_call_function hroom ho hdata hco hgen hbody hcd ?_;rw[hbind,hclo];refine bF (lV ht (wpAny_newFunctionEnv_cells hk hkind λenv he s' x hpos=>?_));subst he;exact⟨hlim.keeps x.toInCall.keep,codeAny_func (h s' hpos x _)⟩
theorem Zb(S:cj prog w Lx base Z)(nd:c7 Z.ah)(LX:∀n,nF prog w Lx base Z n)(hbig:base.NoLimit)
  {n k:Nat}{mt:List Str}{a:Addr}{o:Obj}{fd:qT}{body:List Stmt}{ss:List Internal.S}{names:List Str}{is:List Nat}{args:List V}{O ai:Mu}{r:V}
  (ho:base.get? a=some o) (hd:o.data=.func fd) (hcd:base.CodeRec fd.code fd.qualname) (hbody:fd.body=.stmts body)
  (hg:fd.globals=gx) (hb:fd.builtins=i9) (hclo:fd.closure=[])
  (hco:fd.scope.isCoroutine=false) (hgen:fd.scope.isGenerator=false) (hk:fd.scope.kind=.function)
  (hbind:∀vals:List ao,vals.length=names.length->bindArgs fd ⟨vals,[]⟩=pure (names.zip vals))
  (hi:bJ (nid Z.ah) names=some is) (hnd:names.Nodup) (hkn:∀x∈names,fd.scope.names.lookup x=some .local∨fd.scope.names.lookup x=some .cell)
  (hfree:∀p∈fd.scope.names,p.2≠.free) (hown:∀x,cS fd.scope x=true->(nid Z.ah x).isSome=true) (hint:∀L,interactive (dz fd L a)=false)
  (t:lW.ku Z.ah mt k fd.scope body=some ss) (h:gW Z n is ss args O=some (r,ai)):dX prog w Lx base (n+1) (.ref a) args O r ai:=by
 intro A E s as vals Q rm g ra hQ
 ·refine aL h λhlen h=>?_
  have hlen:is.length=args.length:=eq_of_beq hlen;have hl:names.length=vals.length:=by rw[ra.length,←hlen,wO hi]
  have bk:∀env s',1<=s'.toks->Rm (A.deeper env) s' n:=λenv s' ht=>⟨⟨rm.calm,by show A.depth+1+n<=900;exact AQ rm.depth,by show A.units+3+10*n<=9000;exact xX rm.units⟩,ht⟩;refine Ej (DA rm.tk (by have:=rm.depth;show A.depth<1000;exact bz (lX this)) (g.keep _ _ ho) hd (hbig.keeps λb o e=>g.keep b o e) (hcd.keeps λb o e=>g.keep b o e) hbody (hbind vals hl.symm) hclo (λx hx=>?_) hco hgen hk λsI hpos x E=>?_)
  ·rcases hkn x.1 (JL hx).1 with q|q
   ·exact .inl q
   ·exact .inr ⟨q,Af _ _ _ q⟩
  ·obtain⟨hY,dh,eI,hkeep⟩:=x.done
   have gI:GR Lx base O as sI.heap/\Go as s.heap as sI.heap:=g.all λa o zz e=>x.toInCall.keep a o e;obtain⟨gI,aM⟩:=gI;have er:=CZ (ah:=Z.ah) hk hg hb hfree hnd hi x hl g (ra.go aM);have hwf:∀b,Wf Z.ah (dz fd s.heap.objs.size a) b->s.heap.get? b=.none:=by
    intro b hb;have:s.heap.objs.size<=b:=by
     rcases hb with rfl|⟨i,y,_,_,hc⟩
     ·exact x.toInCall.fresh
     ·exact cy (ck x.toInCall.fresh (x.above _ _ (mem_of_lookup hc)))
    exact rN this
   have fin:∀{aE:Mu}{cz:List (List Addr)}{hJ:Heap}{u:ao}{v v':V}{tk:Nat},GR Lx base aE cz hJ->cE (Wf Z.ah (dz fd s.heap.objs.size a)) as sI.heap cz hJ->((aE.take O.length).all (gw O.length)=true)->Rep hJ cz v u->iR O.length aE v=some v' →
     (∀u h' tk,GR Lx base (aE.take O.length) as h'->Go as s.heap as h'->Rep h' as v' u->Q u {s with heap:=h',toks:=tk})->Q u {s with heap:=hJ,toks:=tk}:=by
    intro aE cz hJ u v v' tk gJ gs hok rv hf K;obtain⟨nw,rfl,_⟩:=gs.ext;have nh:as.length=O.length+1:=g.len;have hle:O.length<=aE.length:=FP nh (cA.symm.trans gJ.len);refine K u hJ tk (gJ.drop nh hok hle) ⟨⟨[],by simp,by simp⟩,λb o hb e=>?_,λb hb=>?_⟩ (rv.frozen gJ nh hf)
    ·exact gs.keep b o hb (λq=>by rw[hwf b q]at e;exact ns e) (x.toInCall.keep b o e)
    ·exact gJ.alive b (by rw[eN];exact uN _ hb)
   rw[eI];rw[eI]at gI er hpos;refine WO h (λv bu aE v' hx hok hf e1 e2=>?_) (λbu aE hx hok e1 e2=>?_) λk' l bu aE hx hok hl hm hp e1 e2=>?_
   ·subst e1 e2
    refine wQ S nd LX n ss mt k body _ _ _ _ bu _ aE as _ (.ret v) _ t hown (hint _) (bk _ _ hpos) ⟨λzz q=>q,λzz q=>q,λzz q=>q⟩ er gI hx λfl cz hJ tk gJ bI gs fr=>?_;induction fl using mS<;>try exact fr.elim
    exact fin gJ (by rw[eI];exact gs) hok fr hf λu h' tk g' go' r'=>hQ u as h' tk g' go' r'
   ·subst e1 e2
    refine wQ S nd LX n ss mt k body _ _ _ _ bu _ aE as _ .next _ t hown (hint _) (bk _ _ hpos) ⟨λzz q=>q,λzz q=>q,λzz q=>q⟩ er gI hx λfl cz hJ tk gJ bI gs fr=>?_;induction fl using mS<;>try exact fr.elim
    exact fin (v:=.none) (v':=.none) gJ (by rw[eI];exact gs) hok rfl rfl λu h' tk g' go' r'=>hQ u as h' tk g' go' r'
   ·subst e1 e2
    refine wQ S nd LX n ss mt k body _ _ _ _ bu _ aE as _ (.ret (.mut k')) _ t hown (hint _) (bk _ _ hpos) ⟨λzz q=>q,λzz q=>q,λzz q=>q⟩ er gI hx λfl cz hJ tk gJ bI gs fr=>?_;induction fl using mS<;>try exact fr.elim
    obtain⟨nw,rfl,hn⟩:=id gs.ext;have nh:as.length=O.length+1:=g.len;have hle:O.length<=aE.length:=FP nh (cA.symm.trans gJ.len);obtain⟨b,hb,g',rv⟩:=d3y gJ nh hok hle hl hm hp fr;refine hQ _ _ hJ tk g' ⟨⟨[[b]],rfl,λc hc=>?_⟩,λc o hc e=>?_,g'.alive⟩ rv
    ·obtain rfl:=bK.mp hc
     induction q:s.heap.get? c using aT with
     |none=>rfl
     |some o=>
      have k':=x.toInCall.keep c o q;rw[eI]at k';exact ns ((hn c hb).symm.trans k')
    ·have k':=x.toInCall.keep c o e
     rw[eI]at k';exact gs.keep c o hc (λq=>by rw[hwf c q]at e;exact ns e) k'
end
theorem Ns.keep{m:Str->Option ao}(x:h.Ns a m)(k:∀b o,h.get? b=some o->h'.get? b=some o):h'.Ns a m:=
 x.imp λzz=>f7 λzz=>f7 λzz=>qV (k _ _)
section
theorem qG{v:ao}(hg:base.Ns gx mg)(hv:mg x=some v):cO prog w base x v:=
 λenv A E s Q eg eb keep q=>loadGlobal_global (mg:=mg) (by rw[eg];exact Ns.keep hg keep) hv q
theorem b8v{v:ao}{mb:Str->Option ao}(hg:base.Ns gx mg)(hn:mg x=.none)(hb:base.Ns i9 mb)(hv:mb x=some v):cO prog w base x v:=
 λenv A E s Q eg eb keep q=>loadGlobal_builtin (mg:=mg) (mb:=mb) (by rw[eg];exact Ns.keep hg keep) hn (by rw[eb];exact Ns.keep hb keep) hv q
noncomputable def g2s(Z:G)(id:Nat)(params:List Nat)(body:List S):G:=
 {Z with call:=λn i args O=>if i=id then(match n with|0=>.none|n+1=>gW Z n params body args O)else Z.call n i args O}
noncomputable def AW(ah:List Str)(sc:dF)(names:List Str)(is:List Nat):Bool:=
 bJ (nid ah) names==some is&&decide names.Nodup&&names.all (λx=>sc.names.lookup x==some .local||sc.names.lookup x==some .cell) &&
 sc.names.all (λp=>p.2 != .free)&&sc.names.all (λp=>(nid ah p.1).isSome)&&!sc.isCoroutine&&!sc.isGenerator&&sc.kind==.function
theorem Dw(h:sc.names.all (λp=>(nid ah p.1).isSome)=true):∀x,cS sc x=true->(nid ah x).isSome=true:=by
 intro x hx;unfold cS iH at hx;have:∃k,sc.names.lookup x=some k:=by
  induction q:sc.names.lookup x using aT with
  |none=>rw[q]at hx;cases hx
  |some k=>exact⟨k,rfl⟩
 obtain⟨k,hk⟩:=this;exact cN.mp h (x,k) (mem_of_lookup hk)
end
noncomputable def j5:List V->Option (List Int)
 |[]=>some []
 |.int i::r=>(j5 r).map (i::·)
 |_=>.none
noncomputable def r4:List V->Option (List (List Nat))
 |[]=>some []
 |.str i::r=>(r4 r).map (i::·)
 |_=>.none
noncomputable def cH(a b:UInt64):UInt64:=if mY a b==some .lt then b else a
noncomputable def dm(a b:UInt64):UInt64:=if mY b a==some .lt then b else a
noncomputable def wj(x:Int):List Int->List Int
 |[]=>[x]
 |y::r=>if x<=y then x::y::r else y::wj x r
noncomputable def nB:List Int->List Int
 |[]=>[]
 |x::r=>wj x (nB r)
theorem RK(x:Int):∀l:List Int,(wj x l).Perm (x::l):=by
 intro z_;induction z_ with
 |nil=>
  exact .refl _
 |cons y r ih=>
  show(if x<=y then x::y::r else y::wj x r).Perm _;by_cases h:x<=y
  ·rw[if_pos h]
  ·rw[if_neg h];exact((ih).cons y).trans (.swap _ _ _)
theorem c4k:∀l:List Int,(nB l).Perm l:=by
 intro z_;induction z_ with
 |nil=>
  exact .refl _
 |cons x r ih=>
  exact(RK x _).trans ((ih).cons x)
theorem b3e(x:Int):∀l:List Int,l.Pairwise (·<=·)->(wj x l).Pairwise (·<=·):=by
 intro z_;induction z_ with
 |nil=>
  intro _;exact List.pairwise_singleton _ _
 |cons y r ih=>
  intro h;have h:=Ar.mp h;show(if x<=y then x::y::r else y::wj x r).Pairwise _;by_cases hxy:x<=y
  ·rw[if_pos hxy]
   refine Ar.mpr ⟨λz hz=>?_,Ar.mpr h⟩;rcases bT.mp hz with rfl|hz
   ·exact hxy
   ·exact pR hxy (h.1 z hz)
  ·rw[if_neg hxy]
   refine Ar.mpr ⟨λz hz=>?_,ih h.2⟩;rcases bT.mp ((RK x r).mem_iff.mp hz)with rfl|hz
   ·exact JW (D9.mp hxy)
   ·exact h.1 z hz
theorem b7e:∀l:List Int,(nB l).Pairwise (·<=·):=by
 intro z_;induction z_ with
 |nil=>
  exact .nil
 |cons x r ih=>
  exact b3e x _ (ih)
theorem b8r{lI lJ:List Int}(p:lI.Perm lJ)(h1:lI.Pairwise (·<=·))(h2:lJ.Pairwise (·<=·)):lI=lJ:=by
 induction lI generalizing lJ with
 |nil=>exact(List.nil_perm.mp p).symm▸rfl
 |cons a r ih=>
  induction lJ using aN with
  |nil=>exact absurd p.length_eq (uJ _)
  |cons b q=>
   have h1:=Ar.mp h1;have h2:=Ar.mp h2;have e:a=b:=by
    refine Int.le_antisymm ?_ ?_
    ·rcases bT.mp (p.mem_iff.mpr fW:b∈a::r)with rfl|h
     ·exact Int.le_refl _
     ·exact h1.1 b h
    ·rcases bT.mp (p.mem_iff.mp fW:a∈b::q)with rfl|h
     ·exact Int.le_refl _
     ·exact h2.1 a h
   subst e;rw[ih (List.perm_cons a|>.mp p) h1.2 h2.2]
section
theorem Post.same{v:ao}(hQ:Post Lx base as s r O Q)(g:GR Lx base O as s.heap)(rv:Rep s.heap as r v):Q v {s with toks:=tk}:=
 hQ v as s.heap tk g g.go rv
theorem Post.kept{v:ao}(hQ:Post Lx base as s r O Q)(g:GR Lx base O as s.heap)(k:∀b o,s.heap.get? b=some o->h'.get? b=some o)(rv:Rep h' as r v):Q v {s with heap:=h',toks:=tk}:=
 have x:=g.all λa o zz e=>k a o e
 hQ v as h' tk x.1 x.2 rv
theorem IC:∀{l:List V}{ns:List Int}{vs:List ao},j5 l=some ns->aJ h as l vs->sY vs ns:=by
 intro z_;induction z_ with
 |nil=>
  intro ns vs e r;cases e;cases r;exact .nil
 |cons x l ih=>
  intro ns vs e r;obtain⟨v,rs,rfl,rx,rr⟩:=r;induction x using Internal.V.casesOn with
  |int i=>
   refine aZ e λms e2 q=>?_;cases q;obtain⟨t,rfl⟩:=rx;exact .cons _ _ (ih e2 rr)
  |_=>exact Internal.ns e
theorem QF{ns:List Int}(x:sY vs ns):aJ h as (ns.map .int) vs:=by
 induction x with
 |nil=>rfl
 |cons i t _ ih=>exact⟨_,_,rfl,⟨_,rfl⟩,ih⟩
theorem c3y{ns:List Int}(h:sY vs ns):∃ys:List (Int×Tok),vs=ys.map (λp=>Jm p.1 p.2)/\ys.map (·.1)=ns:=by
 induction h with
 |nil=>exact⟨[],rfl,rfl⟩
 |cons i t _ ih=>
  obtain⟨ys,e1,e2⟩:=ih;exact⟨(i,t)::ys,by rw[e1];rfl,by rw[←e2];rfl⟩
theorem e7o  (hl:l.length<=big):dX prog w Lx base n (.builtin "len") [.lst l] O (.int l.length) O:=λA E s as vs Q rm g ra hQ=>by
 obtain⟨v,r,rfl,⟨a,us,rfl,ha,hp,hr⟩,rfl⟩:=ra;refine len_list hp.isList ?_ (hQ.same (tk:=s.toks+1+1) g ?_)
 ·rw[dG,hr.length];exact zv hl
 ·rw[dG,hr.length];exact⟨_,rfl⟩
theorem e6r   (hk:O[k]?=some (.list l)) (hl:l.length<=big):dX prog w Lx base n (.builtin "len") [.mut k] O (.int l.length) O:=λA E s as vs Q rm g ra hQ=>by
 obtain⟨v,r,rfl,⟨a,q,e,rfl⟩,rfl⟩:=ra;obtain⟨a',us,e',hp,hr⟩:=g.dQ k _ _ hk e;obtain⟨rfl,rfl⟩:=fZ e';refine len_list hp.isList ?_ (hQ.same (tk:=s.toks+1+1) g ?_)
 ·rw[dG,hr.length];exact zv hl
 ·rw[dG,hr.length];exact⟨_,rfl⟩
theorem e7n  {ns:List Int} (hi:j5 l=some ns):dX prog w Lx base n (.builtin "sum") [.lst l] O (.int ns.sum) O:=λA E s as vs Q rm g ra hQ=>by
 obtain⟨v,r,rfl,⟨a,us,rfl,ha,hp,hr⟩,rfl⟩:=ra;obtain⟨ys,rfl,rfl⟩:=c3y (IC hi hr);have e:(ys.map λp=>Jm p.1 p.2).toArray=intItems ys.toArray:=by simp[intItems]
 rw[e]at hp;refine sum_intListG rm.calm hp.isList λh' tk t' k=>hQ.kept g k ?_;refine⟨t',?_⟩;rw[preSum_eq,g4x (by simp)]
theorem c4n  {ns:List Int} (hi:j5 l=some ns) (hl:l.length<64):dX prog w Lx base n (.builtin "sorted") [.lst l] O (.lst ((nB ns).map .int)) O:=λA E s as vs Q rm g ra hQ=>by
 obtain⟨v,r,rfl,⟨a,us,rfl,ha,hp,hr⟩,rfl⟩:=ra;refine PyProof.Rows.sorted_ints hp.isList (IC hi hr) (by rw[hr.length];exact hl) λout ns' a1 a2 a3=>?_;obtain⟨e,he⟩:=sortedAll_at s.heap us out;have hns:ns'=nB ns:=b8r (a2.trans (c4k ns).symm) a3 (b7e ns);subst hns;refine hQ.kept (tk:=s.toks) g (λzz zz=>sortedAll_old) ?_;refine⟨s.heap.objs.size+1,out.toList,rfl,λhm=>?_,⟨e,?_⟩,QF a1⟩
 ·obtain⟨o,ho⟩:=g.alive _ hm
  exact absurd (fM ho) (pI.mpr (iA _))
 ·simpa[seqObj]using he
end
section
theorem Nv{bt:Nat->Nat->Bool}{a b c:UInt64}{t u x:Tok}{v:ao}(m:UInt64->UInt64->Bool)(qe:bt 1 0=m a b)(VZ:bt 2 0=m a c)(h21:bt 2 1=m b c)(ht:1<=t)(hu:1<=u)(hx:1<=x)(hP:#[ao.float a t,.float b u,.float c x][argBest bt 2]?=some v):∃tk,v=.float (if m (if m a b then b else a) c then c else(if m a b then b else a)) tk/\1<=tk:=by
 have e:argBest bt 2=if bt 2 (if bt 1 0 then 1 else 0)then 2 else if bt 1 0 then 1 else 0:=rfl;rw[e,qe]at hP;induction hc:m a b using eo with
 |false=>
  rw[hc,if_neg gP,VZ]at hP;rw[if_neg gP];induction hd:m a c using eo with
  |false=>rw[hd]at hP;exact⟨t,(aD hP).symm,ht⟩
  |true=>rw[hd]at hP;exact⟨x,(aD hP).symm,hx⟩
 |true=>
  rw[hc,if_pos rfl,h21]at hP;rw[if_pos rfl];induction hd:m b c using eo with
  |false=>rw[hd]at hP;exact⟨u,(aD hP).symm,hu⟩
  |true=>rw[hd]at hP;exact⟨x,(aD hP).symm,hx⟩
theorem b4t{a b c:UInt64}{t u x:Tok}(hh:A.handled=.none)(ht:1<=t)(hu:1<=u)(hx:1<=x)
  (h:∀h' tk tk',1<=tk'->(∀d o,s.heap.get? d=some o->h'.get? d=some o)->Q (.float (cH (cH a b) c) tk') {s with heap:=h',toks:=tk}) :
  au (model prog w) A (call (.builtin "max") [.float a t,.float b u,.float c x]) Q E s:=by
 have hT:(s.heap.push {cls:=.type "tuple",data:=.seq #[.float a t,.float b u,.float c x]}).IsTuple s.heap.objs.size #[.float a t,.float b u,.float c x]:=⟨_,fq _ rfl,rfl,0,rfl⟩
 refine call_max_three (J' hT ?_);have hsz:(s.heap.push {cls:=.type "tuple",data:=.seq #[.float a t,.float b u,.float c x]}).objs.size=s.heap.objs.size+1:=JX ..
 refine⟨_,[_,s.heap.objs.size],[_],_,_,_,_,rfl,g3e (A:=A.in1) hh _ s.heap.objs.size (by rw[hsz];exact jk (nR _)) #[.float a t,.float b u,.float c x],
  ⟨⟨_,fq _ rfl,rfl,rfl⟩,hT.push _⟩,λd hd=>?_,by simp,Flt.cmpOf_gt #[.float a t,.float b u,.float c x] (by simp only[g5e,bT,ee,or_false];rintro v (rfl|rfl|rfl)<;>exact .float _ _),λv h' tk hP hk=>?_⟩
 ·show d<((s.heap.push _).push _).objs.size
  rw[JX,hsz];rcases bT.mp hd with rfl|hd
  ·rw[hsz];exact nR _
  ·rcases bT.mp hd with rfl|hd
   ·exact JD (nR _)
   ·cases hd
 ·have hold:∀d o,s.heap.get? d=some o->h'.get? d=some o:=λd o e=>by
   refine hk d o (λhm=>?_) (cB _ (cB _ e));rcases bT.mp hm with e1|hm
   ·have:=fM e;rw[e1,hsz]at this;exact mV _ (jP this)
   ·cases hm
  obtain⟨tk',rfl,h1⟩:=Nv (λp q=>mY p q==some .lt) rfl rfl rfl ht hu hx hP;exact h h' tk tk' h1 hold
theorem b4o{a b c:UInt64}{t u x:Tok}(hh:A.handled=.none)(ht:1<=t)(hu:1<=u)(hx:1<=x)
  (h:∀h' tk tk',1<=tk'->(∀d o,s.heap.get? d=some o->h'.get? d=some o)->Q (.float (dm (dm a b) c) tk') {s with heap:=h',toks:=tk}) :
  au (model prog w) A (call (.builtin "min") [.float a t,.float b u,.float c x]) Q E s:=by
 have hT:(s.heap.push {cls:=.type "tuple",data:=.seq #[.float a t,.float b u,.float c x]}).IsTuple s.heap.objs.size #[.float a t,.float b u,.float c x]:=⟨_,fq _ rfl,rfl,0,rfl⟩
 refine call_min_three (J' hT ?_);have hsz:(s.heap.push {cls:=.type "tuple",data:=.seq #[.float a t,.float b u,.float c x]}).objs.size=s.heap.objs.size+1:=JX ..
 refine⟨_,[_,s.heap.objs.size],[_],_,_,_,_,rfl,g3e (A:=A.in1) hh _ s.heap.objs.size (by rw[hsz];exact jk (nR _)) #[.float a t,.float b u,.float c x],
  ⟨⟨_,fq _ rfl,rfl,rfl⟩,hT.push _⟩,λd hd=>?_,by simp,Flt.cmpOf_lt #[.float a t,.float b u,.float c x] (by simp only[g5e,bT,ee,or_false];rintro v (rfl|rfl|rfl)<;>exact .float _ _),λv h' tk hP hk=>?_⟩
 ·show d<((s.heap.push _).push _).objs.size
  rw[JX,hsz];rcases bT.mp hd with rfl|hd
  ·rw[hsz];exact nR _
  ·rcases bT.mp hd with rfl|hd
   ·exact JD (nR _)
   ·cases hd
 ·have hold:∀d o,s.heap.get? d=some o->h'.get? d=some o:=λd o e=>by
   refine hk d o (λhm=>?_) (cB _ (cB _ e));rcases bT.mp hm with e1|hm
   ·have:=fM e;rw[e1,hsz]at this;exact mV _ (jP this)
   ·cases hm
  obtain⟨tk',rfl,h1⟩:=Nv (λp q=>mY q p==some .lt) rfl rfl rfl ht hu hx hP;exact h h' tk tk' h1 hold
theorem e5s {a b c:UInt64}:dX prog w Lx base n (.builtin "max") [.aq a,.aq b,.aq c] O (.aq (cH (cH a b) c)) O:=λA E s as vs Q rm g ra hQ=>by
 obtain⟨v1,r1,rfl,⟨t1,rfl,q1⟩,v2,r2,rfl,⟨t2,rfl,q2⟩,v3,r3,rfl,⟨t3,rfl,q3⟩,rfl⟩:=ra;exact b4t rm.calm q1 q2 q3 λh' tk tk' h1 k=>hQ.kept g k (⟨_,rfl,h1⟩)
theorem e8d {a b c:UInt64}:dX prog w Lx base n (.builtin "min") [.aq a,.aq b,.aq c] O (.aq (dm (dm a b) c)) O:=λA E s as vs Q rm g ra hQ=>by
 obtain⟨v1,r1,rfl,⟨t1,rfl,q1⟩,v2,r2,rfl,⟨t2,rfl,q2⟩,v3,r3,rfl,⟨t3,rfl,q3⟩,rfl⟩:=ra;exact b4o rm.calm q1 q2 q3 λh' tk tk' h1 k=>hQ.kept g k (⟨_,rfl,h1⟩)
theorem e2w {a b:Int}:dX prog w Lx base n (.builtin "min") [.int a,.int b] O (.int (if b<a then b else a)) O:=λA E s as vs Q rm g ra hQ=>by
 obtain⟨v1,r1,rfl,⟨t1,rfl⟩,v2,r2,rfl,⟨t2,rfl⟩,rfl⟩:=ra;refine min_two_ints rm.calm λh' tk k=>hQ.kept g k ?_;by_cases q:b<a
 ·rw[if_pos q,if_pos q];exact⟨_,rfl⟩
 ·rw[if_neg q,if_neg q];exact⟨_,rfl⟩
theorem e3p {a:UInt64} (ha:tu a=true):dX prog w Lx base n (.type "int") [.aq a] O (.int (mX pU a)) O:=λA E s as vs Q rm g ra hQ=>by
 obtain⟨v1,r1,rfl,⟨t1,rfl,_⟩,rfl⟩:=ra;have h1:g6r a=false:=by
  unfold tu at ha;unfold g6r;cases e:g6t a with
  |fin=>rfl
  |_=>first|rfl|(rw[e]at ha;exact nt ha)
 have h2:AD a=false:=by
  unfold tu at ha;unfold AD;cases e:g6t a with
  |fin=>rfl
  |_=>first|rfl|(rw[e]at ha;exact nt ha)
 refine Flt.call_int_float3 rm.calm (λq=>by rw[h1]at q;cases q) (λq=>by rw[h2]at q;cases q) λzz=>?_;exact hQ.same (tk:=s.toks+1) g (⟨_,rfl⟩)
noncomputable def txt(x:List Nat):Str:=⟨x.toArray⟩
theorem c4r{y:Str}{t u:Tok}(hy:(y.length==0)=false)
  (h:∀(l:List (Str×Tok)) (k:Nat),l.map (·.1)=DL x y->Q (.ref s.heap.objs.size) {s with heap:=s.heap.push {cls:=.type "list",data:=.seq (strValues l).toArray},toks:=k})
  (hsz:x.length+2<=sizeLine):au (model prog w) A (call (.builtin "str.split") [.str x t,.str y u]) Q E s:=by
 have hn:(g6z x (J2 x y 0 x.length (x.length+1)) y.length).length<=sizeLine:=by
  have e1:=StrLaws.occ_length_le x y 0 x.length (x.length+1);rw[length_partsBetween];exact ck e1 hsz
 cases h1:(decide (x.length<y.length)||decide (g6y x<g6y y))
 ·cases hf:(J2 x y 0 x.length (x.length+1)).isEmpty
  ·refine call_meets F.slot_str_split (typeIs_str _ _ _) F.entry_str_split (F.args_str_split_2 _ _) (meets_str_split_sep x y t u h1 hy hf (by exact KS hsz) hn) ?_
   show wants Q E _ {s with toks:=_,heap:=s.heap.push {cls:=.type "list",data:=.seq (strsFrom s.toks (g6z x (J2 x y 0 x.length (x.length+1)) y.length)).toArray}}
   rw[strsFrom_eq];exact h (numbered s.toks _) _ ((numbered_texts _ _).trans ((if_neg (ne_true_of_eq_false h1)).trans (if_neg (ne_true_of_eq_false hf))).symm)
  ·exact call_meets F.slot_str_split (typeIs_str _ _ _) F.entry_str_split (F.args_str_split_2 _ _) (meets_str_split_not_found x y t u h1 hy hf)
    (h [(x,t)] s.toks ((if_neg (ne_true_of_eq_false h1)).trans (if_pos hf)).symm)
 ·exact call_meets F.slot_str_split (typeIs_str _ _ _) F.entry_str_split (F.args_str_split_2 _ _) (meets_str_split_cannot_occur x y t u h1)
   (h [(x,t)] s.toks (if_pos h1).symm)
end
noncomputable def qm(sep:List Nat):List (List Nat)->List Nat
 |[]=>[]
 |[x]=>x
 |x::r=>x++sep++qm sep r
noncomputable def zp(s:Str):List Nat:=s.cps.toList
theorem Pa(x y:List Nat):txt x++txt y=txt (x++y):=by
 show(⟨(txt x).cps++(txt y).cps⟩:Str)=_;simp[txt]
theorem d6y(sep:List Nat):∀l:List (List Nat),Str.join (txt sep) (l.map txt)=txt (qm sep l):=by
 intro z_;induction z_ with
 |nil=>
  exact rfl
 |cons x z_ ih=>induction z_ using aN with
  |nil=>
   exact rfl
  |cons y r=>
   have:=ih;rw[fm]at this;rw[fm,fm,Str.join,this,Pa,Pa]
   ·rfl
   ·intro q;cases q
section
theorem b9w:∀(l:List (Str×Tok)),aJ h as ((l.map (·.1)).map λx=>V.str (zp x)) (strValues l):=by
 intro z_;induction z_ with
 |nil=>
  exact rfl
 |cons p r ih=>
  exact⟨_,_,rfl,⟨p.2,rfl⟩,ih⟩
theorem d6o:∀{l:List V}{ts:List (List Nat)}{vs:List ao},r4 l=some ts->aJ h as l vs->StrsAre vs (ts.map txt):=by
 intro z_;induction z_ with
 |nil=>
  intro ns vs e r;cases e;cases r;exact .nil
 |cons x l ih=>
  intro ns vs e r;obtain⟨v,rs,rfl,rx,rr⟩:=r;induction x using Internal.V.casesOn with
  |str i=>
   refine aZ e λms e2 q=>?_;cases q;obtain⟨t,rfl⟩:=rx;exact .cons _ _ (ih e2 rr)
  |_=>exact Internal.ns e
theorem Rep.Lz{c:Int}(tk:Tok):Rep h as (.int c) (.int c tk):=⟨tk,rfl⟩
theorem d2r {x:List Nat} (hy:y≠[]) (hx:x.length<=big):dX prog w Lx base n (.builtin "str.split") [.str x,.str y] O (.lst ((DL (txt x) (txt y)).map λp=>.str (zp p))) O:=λA E s as vs Q rm g ra hQ=>by
 obtain⟨v1,r1,rfl,⟨t1,rfl⟩,v2,r2,rfl,⟨t2,rfl⟩,rfl⟩:=ra;have e1:(txt x).length=x.length:=by simp[pD,txt]
 have e2:(txt y).length=y.length:=by simp[pD,txt]
 refine c4r (x:=txt x) (y:=txt y) (by rw[e2];induction y using aN with|nil=>exact absurd rfl hy|cons=>rfl) (λl k hl=>?_) (by rw[e1,sizeLine_eq];unfold big at hx;exact Ez hx)
 refine hQ.kept g (λb o e=>cB _ e) ?_;refine⟨s.heap.objs.size,strValues l,rfl,g.kB,⟨0,fq _ rfl⟩,?_⟩;rw[←hl];exact b9w l
theorem d8d {x:List Nat}  {ts:List (List Nat)} (hs:r4 l=some ts) (hl:(ts.map (·.length)).sum+ts.length*x.length<=big):dX prog w Lx base n (.builtin "str.join") [.str x,.lst l] O (.str (qm x ts)) O:=λA E s as vs Q rm g ra hQ=>by
 obtain⟨v1,r1,rfl,⟨t1,rfl⟩,v2,r2,rfl,⟨a,us,rfl,ha,hp,hr⟩,rfl⟩:=ra;refine join_list (ys:=ts.map txt) hp.isList (by simpa using d6o hs hr) ?_ λt' k=>?_
 ·have e:((ts.map txt).map λx=>x.length)=ts.map (·.length):=by
   rw[gk];exact Sz λy zz=>by simp[pD,txt]
  rw[e,aW];have e1:(⟨x.toArray⟩:Str).length=x.length:=by simp[pD]
  rw[e1];unfold big at hl;exact bz hl
 ·have e:Txt.join ⟨x.toArray⟩ (ts.map txt)=txt (qm x ts):=by
   show m6.Str.glued (txt x) (ts.map txt)=_;rw[StrLaws.glued_eq_join,d6y]
  rw[e];exact hQ.same (tk:=k) g (⟨t',rfl⟩)
theorem c8p {y:Str}{t u:Tok}  (h:∀tk tk',Q (.int (DN x y) tk) {s with toks:=tk'}):au (model prog w) A (call (.builtin "str.count") [.str x t,.str y u]) Q E s:=SC.count (h _ _)
theorem d1r {x:List Nat}:dX prog w Lx base n (.builtin "str.count") [.str x,.str y] O (.int (DN (txt x) (txt y))) O:=λA E s as vs Q rm g ra hQ=>by
 obtain⟨v1,r1,rfl,⟨t1,rfl⟩,v2,r2,rfl,⟨t2,rfl⟩,rfl⟩:=ra;refine c8p (x:=txt x) (y:=txt y) λtk tk'=>?_;exact hQ.same (tk:=tk') g (Rep.Lz _)
theorem c4v {x:List Nat}:mC prog w Lx base "split" (.str x) O (.builtin "str.split"):=by
 intro A E s as ov p Q g r h;obtain⟨t,rfl⟩:=r
 with_reducible exact GM.split h
theorem d1l {x:List Nat}:mC prog w Lx base "join" (.str x) O (.builtin "str.join"):=by
 intro A E s as ov p Q g r h;obtain⟨t,rfl⟩:=r
 with_reducible exact GM.join h
theorem c5u {x:List Nat}:mC prog w Lx base "count" (.str x) O (.builtin "str.count"):=by
 intro A E s as ov p Q g r h;obtain⟨t,rfl⟩:=r
 with_reducible exact GM.count h
theorem c1a   (hk:O[k]?=some (.list l)):mC prog w Lx base "append" (.mut k) O (.builtin "list.append"):=λA E s as ov p Q g r h=>by
 obtain⟨a,q,e,rfl⟩:=r;obtain⟨a',us,e',⟨m,hp⟩,hr⟩:=g.dQ k _ _ hk e;obtain⟨rfl,rfl⟩:=fZ e';exact getMethod_list_append hp rfl rfl h
theorem c5a   {x:V} (hk:O[k]?=some (.list l)) (hl:l.length<=big):dX prog w Lx base n (.builtin "list.append") [.mut k,x] O .none (O.set k (.list (l++[x]))):=λA E s as vs Q rm g ra hQ=>by
 obtain⟨v1,r1,rfl,⟨a,q,e,rfl⟩,v2,r2,rfl,rx,rfl⟩:=ra;obtain⟨a',us,e',hp,hr⟩:=g.dQ k _ _ hk e;obtain⟨rfl,rfl⟩:=fZ e';have hin:a∈as.flatten:=gO.mpr ⟨[a],g6 e,by simp⟩;have UE:a∈as.tail.flatten:=by
  refine gO.mpr ⟨[a],?_,by simp⟩;have:as.tail[k]?=some [a]:=by rw[SH];exact e
  exact g6 this
 refine Tn hp (λh' i8 hs=>?_) (by rw[dG,hr.length,sizeLine_eq];unfold big at hl;exact bz hl);have ks:Ks as s.heap h':=λb o hb e' zz=>(hs.2 b (λq=>hb (q▸hin))).trans e';have hb:base.get? a=.none:=g.fresh a hin;have only:∀j aH,as[j+1]?=some aH->j≠k->a∉aH:=by
  intro j aH hj hne hm;have nd:as.flatten.Pairwise (·≠·):=g.nd;rw[g5d]at nd;have pw:=nd.2;rw[g5c]at pw;obtain⟨hj1,hj2⟩:=cM.mp hj;obtain⟨hk1,hk2⟩:=cM.mp e;rcases g4j (show j+1≠k+1 by exact BJ hne)with q|q
  ·have:=pw (j+1) (k+1) hj1 hk1 q
   rw[hj2,hk2]at this;exact this a hm a (by simp) rfl
  ·have:=pw (k+1) (j+1) hk1 hj1 q
   rw[hj2,hk2]at this;exact this a (by simp) a hm rfl
 have g':GR Lx base (O.set k (.list (l++[x]))) as h':=by
  refine⟨λb o e'=>(hs.2 b (λq=>by rw[q,hb]at e';exact ns e')).trans (g.keep b o e'),g.fresh,g.nd,λb hbm=>?_,by rw[pN];exact g.len,λj m aH hj iB=>?_⟩
  ·by_cases q:b=a
   ·obtain⟨m,e'⟩:=i8;exact⟨_,by rw[q];exact e'⟩
   ·obtain⟨o,e'⟩:=g.alive b hbm;exact⟨o,(hs.2 b q).trans e'⟩
  ·by_cases q:j=k
   ·subst q
    have hjl:j<O.length:=(cM.mp hk).1;rw[xB hjl,j9]at hj;subst hj;rw[e,j9]at iB;subst iB;refine⟨a,us++[v2],rfl,?_,(hr.ks ks).append (.cons (rx.ks ks) .nil)⟩;have:(us++[v2]).toArray=us.toArray.push v2:=by simp
    rw[this];exact i8
   ·rw[lz (λz=>q z.symm)]at hj
    have hm:=g.dQ j m aH hj iB;have hn:=only j aH iB q;exact hm.mv (λb hb' o e'=>(hs.2 b (λz=>hn (z▸hb'))).trans e') (λe=>e) (aJ.ks ks)
 refine hQ .none as h' s.toks g' ⟨⟨[],by simp,by simp⟩,λb o hb' e'=>(hs.2 b (λq=>hb' (q▸UE))).trans e',λb hbm=>g'.alive b hbm⟩ rfl
end
section
theorem e3i {i:Int} (hi:(decide (i<0)||decide (i>0x10FFFF))=false):dX prog w Lx base n (.builtin "chr") [.int i] O (.str [i.toNat]) O:=λA E s as vs Q rm g ra hQ=>by
 obtain⟨v1,r1,rfl,⟨t1,rfl⟩,rfl⟩:=ra;exact P.chr_of_int hi (hQ.same g ⟨_,rfl⟩)
theorem e5d {i:Int}:dX prog w Lx base n (.builtin "abs") [.int i] O (.int (if i<0 then -i else i)) O:=λA E s as vs Q rm g ra hQ=>by
 obtain⟨v1,r1,rfl,⟨t1,rfl⟩,rfl⟩:=ra;exact call_abs_int λu tk=>hQ.same g ⟨_,rfl⟩
theorem e4n {a b:Int}:dX prog w Lx base n (.builtin "max") [.int a,.int b] O (.int (if b>a then b else a)) O:=λA E s as vs Q rm g ra hQ=>by
 obtain⟨v1,r1,rfl,⟨t1,rfl⟩,v2,r2,rfl,⟨t2,rfl⟩,rfl⟩:=ra;refine max_two_ints rm.calm λh' tk k=>hQ.kept g k ?_;by_cases q:b>a
 ·rw[if_pos q,if_pos q];exact⟨_,rfl⟩
 ·rw[if_neg q,if_neg q];exact⟨_,rfl⟩
theorem d4q {y:Str}{t u:Tok}  (h:∀tk tk',Q (.int (DM x y) tk) {s with toks:=tk'}):au (model prog w) A (call (.builtin "str.find") [.str x t,.str y u]) Q E s:=SC.find (h _ _)
theorem d9f {x:List Nat}:dX prog w Lx base n (.builtin "str.find") [.str x,.str y] O (.int (DM (txt x) (txt y))) O:=λA E s as vs Q rm g ra hQ=>by
 obtain⟨v1,r1,rfl,⟨t1,rfl⟩,v2,r2,rfl,⟨t2,rfl⟩,rfl⟩:=ra;refine d4q (x:=txt x) (y:=txt y) λtk tk'=>?_;exact hQ.same (tk:=tk') g (Rep.Lz _)
theorem d2h {x:List Nat}:mC prog w Lx base "find" (.str x) O (.builtin "str.find"):=by
 intro A E s as ov p Q g r h;obtain⟨t,rfl⟩:=r
 with_reducible exact GM.find h
theorem e5k  (hl:l.length<=big):dX prog w Lx base n (.type "tuple") [.lst l] O (.tup l) O:=λA E s as vs Q rm g ra hQ=>by
 obtain⟨v1,r1,rfl,⟨a,us,rfl,ha,hp,hr⟩,rfl⟩:=ra;refine call_tuple_list hp.isList (λh' k=>?_) (by rw[dG,hr.length,sizeLine_eq];exact aV hl (nb rfl));have k':∀b o,s.heap.get? b=some o->(h'.push {cls:=.type "tuple",data:=.seq us.toArray}).get? b=some o:=λb o e=>cB _ (k b o e)
 refine hQ.kept (tk:=s.toks) g k' ?_;have g':=GR.go g;exact⟨h'.objs.size,us,rfl,λq=>by
  obtain⟨o,e⟩:=g.alive _ q;exact absurd (fM (k _ _ e)) (mV _),⟨_,fq _ rfl,rfl,0,rfl⟩,aJ.ks (as:=as) (λa o zz e zz=>k' a o e) hr⟩
end
inductive Nr(base:Heap)(C N:Addr):Prop where
 |mk {nm q:Str}{bs:List ao}{sn:List Str}{sub:List ao}{ab:Bool}{col:Option Bool}{dd:Option Addr}{k0 k1 k2 k3 k5:Option ao}{newId:String} (h:base.get? C=some (excClassObj nm q C N bs [.type "object"] true sn sub ab col dd k0 k1 k2 k3 k5 newId)):Nr base C N
structure LB(base:Heap) where
 C:Addr
 N:Addr
 mN:Str->Option ao
 cls:Nr base C N
 ns:base.Ns N mN
 u5:mN "__getattribute__" = .none
 x8:mN "__getattr__" = .none
 xZ:mN "__setattr__" = .none
 own:∀x:Str,x = "lineno" ∨ x = "instream" ∨ x = "whitespace" ∨ x = "pushback" -> mN x=.none
 fr:Addr
 fg:Addr
 fp:Addr
 read:mN "_read_char" = some (.ref fr)
 get:mN "get_token" = some (.ref fg)
 push:mN "push_token" = some (.ref fp)
theorem LB.ne(B:LB base){X:Addr}(h:base.get? X=.none):X≠B.C:=λq=>by
 obtain⟨hC⟩:=B.cls;exact Internal.ns ((q▸h:base.get? B.C=.none).symm.trans hC)
noncomputable def ws:List Nat:=[10,9,13,32]
structure wN(mA:Str->Option ao)(PB F:Addr)(n:Int):Prop where
 line:∃t,mA "lineno" = some (.int n t)
 stream:mA "instream" = some (.ref F)
 Kq:∃t,mA "whitespace" = some (.str (txt ws) t)
 back:mA "pushback" = some (.ref PB)
 only:∀x:Str,x ≠ "lineno" -> x ≠ "instream" -> x ≠ "whitespace" -> x ≠ "pushback" -> mA x=.none
inductive xE(C:Addr)(h:Heap)(aH rs:List Addr)(n:Int):Prop where
 |mk (X D PB F:Addr) (o:Obj) (mA:Str->Option ao) (e1:aH=[X,D]) (e2:rs=[PB,F]) (h1:h.get? X=some o) (h2:o.cls=.ref C) (h3:∀c,o.data≠.cls c) (h4:o.dict=some D) (h5:D≠X) (h6:h.Ns1 D mA) (h7:wN mA PB F n)
inductive e3h(C:Addr)(h:Heap)(aH rs:List Addr)(n:Int):Prop where
 |mk (X D PB F:Addr) (mA:Str->Option ao) (e1:aH=[X,D]) (e2:rs=[PB,F]) (h1:h.Inst X C mA) (h2:wN mA PB F n)
theorem xE.keep{rs:List Addr}{n:Int}(x:xE C h aH rs n)(k:∀a∈aH,∀o,h.get? a=some o->h'.get? a=some o):xE C h' aH rs n:=by
 obtain⟨X,D,PB,F,o,mA,rfl,rfl,h1,h2,h3,h4,h5,h6,h7⟩:=x;exact⟨X,D,PB,F,o,mA,rfl,rfl,k X (.head _) o h1,h2,h3,h4,h5,h6.at (λo e=>k D (.tail _ (.head _)) o e),h7⟩
theorem xE.inst{rs:List Addr}{n:Int}(x:xE C h aH rs n):e3h C h aH rs n:=by
 obtain⟨X,D,PB,F,o,mA,rfl,rfl,h1,h2,h3,h4,h5,h6,h7⟩:=x;exact⟨X,D,PB,F,mA,rfl,rfl,⟨o,h1,h2,h3,.inr ⟨D,h4,h5,h6⟩⟩,h7⟩
theorem yZ (x:Str) (h:x = "lineno" ∨ x = "instream" ∨ x = "whitespace" ∨ x = "pushback" ∨ x = "_read_char" ∨ x = "get_token" ∨ x = "push_token"):typeLookup (.type "object") x=pure .none:=by
 rcases h with rfl|rfl|rfl|rfl|rfl|rfl|rfl<;>(rw[typeLookup_type,builtinLookup_eq_fast];kernel_rfl)
section
variable {B:LB base}
theorem zR  {X:Addr}  {v:ao}  (k:∀a o,base.get? a=some o->s.heap.get? a=some o) (I:s.heap.Inst X B.C mA) (hx:x = "lineno" ∨ x = "instream" ∨ x = "whitespace" ∨ x = "pushback") (hv:mA x=some v) (hh:handedOut v=pure v)
  (h:Q v {s with toks:=s.toks+1}):au (model prog w) A (getAttr (.ref X) x true) Q E s:=by
 obtain⟨hC⟩:=B.cls;exact load_attr (k _ _ hC) (Ns.keep B.ns k) B.u5 (B.own x hx) (yZ x (hx.imp_right (DU (DU .inl)))) I hv hh h
theorem d4v  {X f:Addr}{of:Obj}  {p:Sem Bool}{Q:ao×List ao->aC->Prop} (k:∀a o,base.get? a=some o->s.heap.get? a=some o) (I:s.heap.Inst X B.C mA) (hx:x = "_read_char" ∨ x = "get_token" ∨ x = "push_token")
  (hf:B.mN x=some (.ref f)) (ho:base.get? f=some of) (hc:of.cls=.type "function") (hsh:mA x=.none) (h:Q (.ref f,[.ref X]) s):au (model prog w) A (getMethod (.ref X) x p) Q E s:=by
 obtain⟨hC⟩:=B.cls;exact method_of (k _ _ hC) (Ns.keep B.ns k) B.u5 B.x8 hf (k _ _ ho) hc (yZ x (.inr (.inr (.inr (.inr hx))))) I hsh h
end
section
end
section
open PySem.Flt (wpAny_nsGet_known wpAny_loadPart_known)
namespace FF
theorem xW:Slot "function" "__getattribute__" "object.__getattribute__":=
 .of (owner:="object") (n:="__getattribute__") (by rw[typeLookup_type,builtinLookup_eq_fast];kernel_rfl) (by decide +kernel) (by decide +kernel) (by decide +kernel)
  (by first|exact .inl (by decide +kernel)|exact .inr (by decide +kernel)) (by rw[isSubtype_type];kernel_rfl)
theorem EP:typeLookup (.type "function") "read" = pure .none:=by rw[typeLookup_type,builtinLookup_eq_fast];kernel_rfl
theorem Lf:typeLookup (.type "function") "__getattr__" = pure .none:=by rw[typeLookup_type,builtinLookup_eq_fast];kernel_rfl
theorem canon:(g4v "object.__getattribute__" != "object.__getattribute__")=false:=by decide +kernel
theorem TH:isSubtype (.type "function") (.type "staticmethod")=pure false:=by rw[isSubtype_type];kernel_rfl
theorem TJ:isSubtype (.type "function") (.type "classmethod")=pure false:=by rw[isSubtype_type];kernel_rfl
end FF
def r7 (h:Heap) (a D:Addr) (m:Str->Option ao):Prop:=(∃fd sl,h.get? a=some {cls:=.type "function",dict:=some D,data:=.func fd,slots:=sl})/\h.Ns D m
section
variable {g:Array GenState}{d:Drawn}{t:Nat}{os:OsState}{Fa:Addr}{md:Str->Option ao}
theorem d6h {tk:Tok}{v:ao}{Q:Fin->aC->Prop} (hm:r7 h Fa D md) (hv:md "read" = some v)
  (hq:Q (.done (.ret v)) ⟨h,g,d,t,os⟩):au (model prog w) A (m6.«object.__getattribute__» ⟨[.ref Fa,.str "read" tk],[]⟩) Q E ⟨h,g,d,t,os⟩:=by
 obtain⟨⟨fd,sl,hM⟩,hD⟩:=hm;have hT:(⟨h,g,d,t,os⟩:aC).TypeIs (.ref Fa) "function":=⟨_,hM,rfl⟩
 have f1:=FF.TH;have f2:=FF.TJ;have hnm:=FF.EP
 repeat (any_goals (first|assumption|with_reducible apply wpAny_nsGet_known|with_reducible apply wpAny_loadPart_known|wp_step))
theorem e4r {v:ao}  (hm:r7 h Fa D md) (hv:md "read" = some v)
  (hh:handedOut v=pure v) (hq:Q v ⟨h,g,d,t+1,os⟩):au (model prog w) A (getAttr (.ref Fa) "read" false) Q E ⟨h,g,d,t,os⟩:=by
 obtain⟨⟨fd,sl,hM⟩,hD⟩:=id hm;have hT:(⟨h,g,d,t,os⟩:aC).TypeIs (.ref Fa) "function":=⟨_,hM,rfl⟩
 have hT1:(⟨h,g,d,t+1,os⟩:aC).TypeIs (.ref Fa) "function":=⟨_,hM,rfl⟩
 have f1:=FF.xW.lookup;have f2:=FF.Lf;have f4:=FF.xW.bind (.ref Fa)
 repeat (any_goals (first|assumption|wp_step))
 refine codeAny_call_builtin FF.xW.plain F.entry_object_getattribute (FF.xW.check _ _ _ _ _ _ _ _ hT1 (F.args_object_getattribute_2 _ _) (d6h hm hv ?_))
 repeat (any_goals (first|assumption|wp_step))
theorem c7d {v:ao}{pl:Sem Bool}{Q:ao×List ao->aC->Prop} (hm:r7 h Fa D md) (hv:md "read" = some v)
  (hh:handedOut v=pure v) (hq:Q (v,[]) ⟨h,g,d,t+1,os⟩):au (model prog w) A (getMethod (.ref Fa) "read" pl) Q E ⟨h,g,d,t,os⟩:=by
 obtain⟨⟨fd,sl,hM⟩,hD⟩:=id hm;have hT:(⟨h,g,d,t,os⟩:aC).TypeIs (.ref Fa) "function":=⟨_,hM,rfl⟩
 have f1:=FF.xW.lookup;unfold getMethod;refine aI (Ef hT f1 ?_);show au _ A (if(g4v "object.__getattribute__" != "object.__getattribute__")=true then _ else _) Q E _
 rw[FF.canon,if_neg gP];refine aI (Ef hT FF.Lf ?_);show au _ A (if(Option.isSome (.none:Option ao))=true then _ else _) Q E _;rw[if_neg (by decide)];refine aI (Ef hT FF.EP ?_);refine aI (e4r hm hv hh ?_);exact bF hq
end
end
section
theorem c9i  {y:ao}{ys:List ao}  {u:Tok}  (hD:s.heap.get? D=some {cls:=.type "list",data:=.seq (y::ys).toArray m}) (hz:(y::ys).length<=big)
  (h:∀h',AB D s.heap h'->h'.PlainList D ys.toArray->Q y {s with heap:=h'}):au (model prog w) A (call (.builtin "list.pop") [.ref D,.int 0 u]) Q E s:=by
 have hf:m6.List.listFitsIndex 0=true:=by decide +kernel
 have hk:fz 0 (y::ys).toArray.size=some 0:=by
  simp[fz]
 have hy:(y::ys).toArray[0]?=some y:=by simp
 have hz':(y::ys).toArray.size<=sizeLine:=by rw[dG,sizeLine_eq];unfold big at hz;exact bz hz
 refine call_meets PySem.F.slot_list_pop ⟨_,hD,rfl⟩ PySem.F.entry_list_pop (PySem.F.args_list_pop_2 _ _) (g7l D _ m 0 u _ y hf hk hy hz') ⟨hD,h _ (g6p ..) ?_⟩;refine⟨m+1,?_⟩;rw[JY _ hD rfl];simp only[kY];have e:((y::ys).toArray.eraseIdxIfInBounds 0)=ys.toArray:=by
  simp
 simp[e]
theorem Qk{v:ao}(g:GR Lx base O as s.heap)(hk:O[k]?=some (.list l))(r:Rep s.heap as (.mut k) v):∃a us,as[k+1]?=some [a]/\v=.ref a/\s.heap.PlainList a us.toArray/\aJ s.heap as l us:=by
 obtain⟨a,q,e,rfl⟩:=r;obtain⟨a',us,e',hp,hr⟩:=g.dQ k _ _ hk e;obtain⟨rfl,rfl⟩:=fZ e';exact⟨a,us,e,rfl,hp,hr⟩
theorem d4l   (hk:O[k]?=some (.list l)):mC prog w Lx base "pop" (.mut k) O (.builtin "list.pop"):=by
 intro A E s as ov p Q g r h;obtain⟨a,us,_,rfl,hp,_⟩:=Qk g hk r;obtain⟨m,e⟩:=id hp;exact getMethod_list_of F.slot_list_pop F.type_list_pop hp.isList ⟨_,e,rfl⟩ h
theorem d9p  {x:V}  (hk:O[k]?=some (.list (x::l))) (hl:(x::l).length<=big):dX prog w Lx base n (.builtin "list.pop") [.mut k,.int 0] O x (O.set k (.list l)):=λA E s as vs Q rm g ra hQ=>by
 obtain⟨v1,r1,rfl,r,v2,r2,rfl,rx,rfl⟩:=ra;obtain⟨a,us,e,rfl,⟨m,hp⟩,hr⟩:=Qk g hk r;obtain⟨t,rfl⟩:=rx;obtain⟨y,ys,rfl,ry,KL⟩:=hr;refine c9i hp (by have:=KL.length;simp only[lT]at hl ⊢;exact this.symm▸hl) λh' hs i8=>?_;have hin:a∈as.flatten:=gO.mpr ⟨[a],g6 e,by simp⟩;obtain⟨g',go⟩:=g.upd (m:=.list l) e (cM.mp hk).1 (λb o hb e'=>(hs.2 b (by simpa using hb)).trans e') (λb hb=>by
  rw[bK]at hb;subst hb;obtain⟨m,e'⟩:=i8;exact⟨_,e'⟩) λks=>⟨a,ys,rfl,i8,KL.ks ks⟩
 exact hQ y as h' s.toks g' go (ry.ks λb o hb e' zz=>(hs.2 b (λq=>hb (q▸hin))).trans e')
end
structure iZ where
 qual:Str
 params:J5
 scope:dF
 p1:Pos
 p2:Pos
 p3:Pos
 p4:Pos
 p5:Pos
 p6:Pos
 kd:Nat
 m9:Pos
 pos:Pos
noncomputable def iZ.body (l:iZ):Expr:=.IfExp (.Name "letters" l.p1) (.Call (.Attribute (.Name "letters" l.p2) "pop" l.p3) [] [] l.p4) (.Constant (.str "") l.kd l.p5) l.p6
structure ug(l:iZ):Prop where
 bind:∀(cl:List (Str×Addr)) (pm cdv ct v:ao),bindArgs (kla_fn "<lambda>" l.qual l.params l.body l.scope cl pm cdv ct) ⟨[v],[]⟩=pure [(("size":Str),v)]
 size:l.scope.names.lookup ("size":Str)=some fU.local
 letters:l.scope.names.lookup ("letters":Str)=some qP
 x7:∀x∈l.scope.names,x.2≠.cell
 kind:l.scope.kind=.function
 coro:l.scope.isCoroutine=false
 gen:l.scope.isGenerator=false
 line:(l.p3.endLine==l.p4.line)=true
variable {lm:iZ}
section
theorem d5g{l:iZ}(ok:ug l)(hh:A.handled=.none)(hd:A.depth<1000){G LL cG:Addr}{pm ctv v:ao}{us:List ao}
  (hG:s.heap.get? G=some (kla_obj "<lambda>" l.qual l.params l.body l.scope [("letters",LC)] pm cG ctv)) (hcd:s.heap.CodeRec (.ref cG) l.qual) (hbig:s.heap.NoLimit) (hC:s.heap.IsCell LC (some (.ref LL))) (hL:s.heap.PlainList LL us.toArray) (hz:us.length<=big)
  (h0:us=[]->∀h' tk t,(∀b o,s.heap.get? b=some o->h'.get? b=some o)->Q (.str "" t) {s with heap:=h',toks:=tk})
  (h1:∀y ys,us=ys++[y]->∀h' tk,(∀b o,b≠LL->s.heap.get? b=some o->h'.get? b=some o)->h'.PlainList LL ys.toArray->Q y {s with heap:=h',toks:=tk}) :
  au (model prog w) A (call (.ref G) [v]) Q E s:=by
 refine Ej (kla_callFunE hd hG rfl ok.coro ok.gen rfl hcd ?_);rw[ok.bind];refine bF (Tj ok.x7 (by
  intro x hx;rw[bK]at hx;subst hx;exact ok.size) (λh' hns E3=>?_) ok.kind)
 have kp:∀b o,s.heap.get? b=some o->h'.get? b=some o:=λb o e=>E3.extBut b o (jk (fM e)) (cB _ e);refine⟨hbig.keeps kp,kla_codeExpr ?_⟩;refine fF (newEnv l.scope s.heap.objs.size gx [("letters",LC)] (l.qual++".<locals>.") (some G) (.ref cG) .none i9) λenv iN=>?_
 show au (model prog w) (A.deeper (newEnv l.scope s.heap.objs.size gx [("letters",LC)] (l.qual++".<locals>.") (some G) (.ref cG) .none i9)) (eval l.body (newEnv l.scope s.heap.objs.size gx [("letters",LC)] (l.qual++".<locals>.") (some G) (.ref cG) .none i9)) _ _ _
 rw[←iN];have hk:env.scope.kind=.function:=by rw[iN];exact ok.kind
 have hl:env.kindOf "letters" = some .free:=by rw[iN];exact ok.letters
 have hc:env.cells.lookup ("letters":Str)=some LC:=by rw[iN];rfl
 have VX:h'.IsCell LC (some (.ref LL)):=hC.keeps kp;obtain⟨m,eL⟩:=hL;have vn:=kp _ _ eL;have hsz:us.toArray.size<=sizeLine:=by rw[dG,sizeLine_eq];unfold big at hz;exact bz hz
 unfold iZ.body;have name:∀{p:Pos}{E':ao->aC->Prop}{Q':ao->aC->Prop}{tk:Nat},Q' (.ref LL) {s with heap:=h',toks:=tk}->au (model prog w) (A.deeper env) (eval (.Name "letters" p) env) Q' E' {s with heap:=h',toks:=tk}:=λ{p E' Q' tk} q=>
  pZ (Kd hk hl hc VX q) (by decide)
 refine Kn (isTrue_plain (name ?_));refine Tf (items:=us.toArray) ⟨_,vn,rfl,m,rfl⟩ (by simp only[dG];exact zv hz) ?_;rcases SO us with rfl|⟨ys,y,rfl⟩
 ·simp only[List.isEmpty_toArray,List.isEmpty_nil,Bool.not_true,S8,if_false]
  exact Ek (h0 rfl h' _ _ kp)
 ·have e1:(!(ys++[y]).toArray.isEmpty)=true:=by simp
  simp only[g5u]at vn hz hsz h1 ⊢;rw[e1,if_pos rfl,arm_eval_Call];refine aI (name ?_);refine aI (qX ?_);have few:methodCallForm (([]:List Expr).length+([]:List Ay).length) (backTo l.p4 (starEach [] env)) (backToKw l.p4 (keywordEach [] env))=true:=rfl;unfold methodCall;rw[few];refine aI (nW (getMethod_list_of F.slot_list_pop F.type_list_pop (items:=(ys++[y]).toArray) ⟨_,vn,rfl,m,rfl⟩ ⟨_,vn,rfl⟩ ?_));show au (model prog w) _ (methodCallPos true _ env l.p3 l.p4 >>= λcp=>callWith cp (.builtin "list.pop") [.ref LL] (backTo l.p4 (starEach [] env)) []) _ _ _
  have hpos:methodCallPos true (.Name "letters" l.p2) env l.p3 l.p4=pure l.p4:=by
   unfold methodCallPos;rw[if_pos (by simpa using ok.line)]
  rw[hpos];refine aI (bF ?_);refine P.pop_list (items:=(ys++[y]).toArray) (n:=m) vn (y:=y) (by simp) ?_ hsz;refine h1 y ys rfl _ _ (λb o hb e=>?_) ⟨m+1,?_⟩
  ·rw[Ea _ _ _ _ hb];exact kp b o e
  ·rw[JY _ vn rfl]
   simp only[kY];have e3:(ys++[y]).eraseIdx ys.length=ys:=by simpa using kl_eraseL ys [] y
   simp[e3]
end
inductive Ag(lm:iZ)(h:Heap)(aH rs:List Addr):Prop where
 |mk (F FD G LC cG LL:Addr) (pm:ao) (ctv:ao) (mF:Str->Option ao) (e1:aH=[F,FD,G,LC]) (e2:rs=[LL,cG]) (h1:r7 h F FD mF) (h2:mF "read" = some (.ref G)) (h3:h.get? G=some (kla_obj "<lambda>" lm.qual lm.params lm.body lm.scope [("letters",LC)] pm cG ctv)) (h4:h.IsCell LC (some (.ref LL)))
def AG(lm:iZ)(h:Heap)(aH:List Addr):Prop:=∃c,aH=[c]/\h.CodeRec (.ref c) lm.qual
noncomputable def j4 (a b:ao) (e:Bool):Obj:={cls:=.type "callable_iterator",data:=.fields #[a,b,.bool e]}
inductive AE(fr:Addr)(h:Heap)(aH rs:List Addr):Prop where
 |mk (fi bm X:Addr) (t:Tok) (e1:aH=[fi,bm]) (e2:rs=[X]) (h1:h.get? fi=some (j4 (.ref bm) (.str "" t) false)) (h2:h.get? bm=some (methodObj (.ref fr) (.ref X)))
def AF(h:Heap)(aH:List Addr):Prop:=∃fi bm,aH=[fi,bm]/\h.get? fi=some (j4 .none .none true)
def TabAt(lm:iZ)(P:Addr)(h:Heap)(aH rs:List Addr)(n:Int):Prop:=aH=[P] ∧
 ((n = -1/\h.get? P=some (tabObj #[]))∨n = -8 ∨
 (n = -5/\∃c1 c2,rs=[c2]/\h.get? P=some (tabObj #[rawInt lm.m9.line,rawInt lm.m9.col,.ref c1,rawInt lm.pos.line,rawInt lm.pos.col,.ref c2])))
section
variable {rs:List Addr}{n:Int}
theorem Ag.keep(x:Ag lm h aH rs)(k:∀a∈aH,∀o,h.get? a=some o->h'.get? a=some o):Ag lm h' aH rs:=by
 obtain⟨F,FD,G,LC,cG,LL,pm,ctv,mF,rfl,rfl,⟨⟨fd,sl,h1⟩,h2⟩,h3,h4,⟨oc,h5,h6⟩⟩:=x;exact⟨F,FD,G,LC,cG,LL,pm,ctv,mF,rfl,rfl,⟨⟨fd,sl,k F (.head _) _ h1⟩,h2.imp λzz=>f7 λzz=>f7 λzz=>qV (k FD (.tail _ (.head _)) _)⟩,h3,k G (.tail _ (.tail _ (.head _))) _ h4,⟨oc,k LC (.tail _ (.tail _ (.tail _ (.head _)))) _ h5,h6⟩⟩
theorem AE.keep(x:AE fr h aH rs)(k:∀a∈aH,∀o,h.get? a=some o->h'.get? a=some o):AE fr h' aH rs:=by
 obtain⟨fi,bm,X,t,rfl,rfl,h1,h2⟩:=x;exact⟨fi,bm,X,t,rfl,rfl,k fi (.head _) _ h1,k bm (.tail _ (.head _)) _ h2⟩
theorem AF.keep(x:AF h aH)(k:∀a∈aH,∀o,h.get? a=some o->h'.get? a=some o):AF h' aH:=by
 obtain⟨fi,bm,rfl,h1⟩:=x;exact⟨fi,bm,rfl,k fi (.head _) _ h1⟩
theorem AG.keep(x:AG lm h aH)(k:∀a∈aH,∀o,h.get? a=some o->h'.get? a=some o):AG lm h' aH:=by
 obtain⟨c',rfl,c,o,vs,t,e,h7,h8⟩:=x;cases e;exact⟨c',rfl,c',o,vs,t,rfl,k c' (.head _) _ h7,h8⟩
theorem c8v(x:∃T a b,aH=[T]/\sV h T a b)(k:∀a∈aH,∀o,h.get? a=some o->h'.get? a=some o):∃T a b,aH=[T]/\sV h' T a b:=x.imp λT=>f7 λa=>f7 λb (y:aH=[T]/\sV h T a b)=>⟨y.1,k T (y.1▸As T) _ y.2⟩
theorem TabAt.keep(x:TabAt lm P h aH rs n)(k:∀a∈aH,∀o,h.get? a=some o->h'.get? a=some o):TabAt lm P h' aH rs n:=by
 obtain⟨rfl,x⟩:=x;exact⟨rfl,x.imp (lU (k P (.head _) _)) (DU (lU (f7 λzz=>f7 λzz=>lU (k P (.head _) _))))⟩
end
noncomputable def bl{base:Heap}(B:LB base)(lm:iZ)(P:Addr):gj where
 At h aH rs n:=(1<=n/\xE B.C h aH rs n)∨(n = -3/\Ag lm h aH rs)∨(n = -2/\AE B.fr h aH rs)∨(n = -4/\AF h aH)∨(n = -6/\AG lm h aH)∨((n = -1∨n = -8∨n = -5)/\TabAt lm P h aH rs n)∨(n = -9/\∃T a b,aH=[T]/\sV h T a b)
 keep:=λx k=>x.imp (lU (·.keep k)) (DV (lU (Ag.keep · k)) (DV (lU (AE.keep · k)) (DV (lU (AF.keep · k)) (DV (lU (AG.keep · k)) (DV (lU (TabAt.keep · k)) (lU (c8v · k)))))))
 pair:=⟨λx=>by
  rcases x with⟨q,_⟩|⟨q,_⟩|⟨q,_⟩|⟨q,_⟩|⟨q,_⟩|⟨q,_⟩|⟨_,_,a,b,e,h⟩
  ·exact absurd q (by decide)
  ·exact absurd q (by decide)
  ·exact absurd q (by decide)
  ·exact absurd q (by decide)
  ·exact absurd q (by decide)
  ·exact absurd q (by decide)
  ·cases e;exact⟨a,b,h⟩,λx=>x.elim λa x=>x.elim λb h=>.inr (.inr (.inr (.inr (.inr (.inr ⟨rfl,_,a,b,rfl,h⟩)))))⟩
section
variable {B:LB base}
inductive Yi(C:Addr)(as:List (List Addr))(h:Heap)(k:Nat)(is:List Nat)(n:Int)(v:ao):Prop where
 |mk (X D PB F:Addr) (mA:Str->Option ao) (e1:v=.ref X) (e2:as[k+1]?=some [X,D]) (e3:oB as is=some [PB,F]) (h1:h.Inst X C mA) (h2:wN mA PB F n)
theorem F1{n m:Int}{G:Prop}(q:n=m)(h:1<=n)(hm:m<1):G:=absurd (SW hm (q▸h)) (Int.lt_irrefl _)
theorem sC{n:Int}{v:ao}(g:GR (bl B lm P) base O as h)(hk:O[k]?=some (.obj is n))(hn:1<=n)(r:Rep h as (.mut k) v) :
  Yi B.C as h k is n v:=by
 obtain⟨a,q,e,rfl⟩:=r;obtain⟨rs,e1,e2⟩:=g.dQ k _ _ hk e;rcases e2 with⟨_,x⟩|⟨q,_⟩|⟨q,_⟩|⟨q,_⟩|⟨q,_⟩|⟨q,_⟩|⟨q,_⟩
 ·obtain⟨X,D,PB,F,mA,ea,er,I,L⟩:=x.inst
  rw[ea]at e;obtain⟨rfl,_⟩:=fZ ea;exact⟨_,D,PB,F,mA,rfl,e,by rw[e1,er],I,L⟩
 all_goals first|exact F1 q hn (by decide)|exact BI q hn
theorem IG{ks:Nat}{PB F:Addr}(h:oB as [kp,ks]=some [PB,F]):(∃q,as[kp+1]?=some (PB::q))/\∃q,as[ks+1]?=some (F::q):=by
 refine eY h λx y h1 h2 e=>eY h2 λz zz h3 zz e2=>?_;subst e2;cases e;refine aO h1 λl1 h1 e1=>aO h3 λl2 h2 e2=>?_;induction l1 using aN with
 |nil=>exact ns e1
 |cons a q1=>induction l2 using aN with
  |nil=>exact ns e2
  |cons b q2=>
   cases e1;cases e2;exact⟨⟨_,h1⟩,⟨_,h2⟩⟩
theorem d2e   {n:Int}{ov:ao}  (hk:O[k]?=some (.obj is n)) (hn:1<=n) (g:GR (bl B lm P) base O as s.heap) (r:Rep s.heap as (.mut k) ov) (hQ:Post (bl B lm P) base as s (.int n) O Q):au (model prog w) A (getAttr ov "lineno" true) Q E s:=by
 obtain⟨X,D,PB,F,mA,rfl,_,_,I,L⟩:=sC g hk hn r;obtain⟨t,hl⟩:=L.line;exact zR (B:=B) g.keep I (by simp) hl rfl (hQ.same (tk:=s.toks+1) g (⟨_,rfl⟩))
theorem c6t   {n:Int}{ov:ao}  (hk:O[k]?=some (.obj is n)) (hn:1<=n) (g:GR (bl B lm P) base O as s.heap) (r:Rep s.heap as (.mut k) ov) (hQ:Post (bl B lm P) base as s (.str ws) O Q):au (model prog w) A (getAttr ov "whitespace" true) Q E s:=by
 obtain⟨X,D,PB,F,mA,rfl,_,_,I,L⟩:=sC g hk hn r;obtain⟨t,hl⟩:=L.Kq;exact zR (B:=B) g.keep I (by simp) hl rfl (hQ.same (tk:=s.toks+1) g (⟨_,rfl⟩))
theorem c7k {ks:Nat}{n:Int}{ov:ao}  (hk:O[k]?=some (.obj [kp,ks] n)) (hn:1<=n) (g:GR (bl B lm P) base O as s.heap) (r:Rep s.heap as (.mut k) ov) (hQ:Post (bl B lm P) base as s (.mut kp) O Q):au (model prog w) A (getAttr ov "pushback" true) Q E s:=by
 obtain⟨X,D,PB,F,mA,rfl,_,hr,I,L⟩:=sC g hk hn r;obtain⟨⟨q,h1⟩,_⟩:=IG hr;exact zR (B:=B) g.keep I (by simp) L.back rfl (hQ.same (tk:=s.toks+1) g (⟨_,_,h1,rfl⟩))
end
section
def xM(prog:jj)(w:ji)(Lx:gj)(base:Heap)(n:Nat)(f:ao)(args:List V)(O:Mu)(r:V)(ai:Mu):Prop:=
 ∀(A:fu) (R:xe->aC->Prop) (s:aC) (as:List (List Addr)) (vs:List ao),Rm A s n->GR Lx base O as s.heap->aJ s.heap as args vs →
  Post Lx base as s r ai (λv s'=>R (.ok (.ret v)) s')->codeAny (model prog w) A (.call f ⟨vs,[]⟩) R s
theorem xM.call{f:ao}(h:xM prog w Lx base n f args O r ai):dX prog w Lx base n f args O r ai:=
 λA E s as vs Q rm g ra hQ=>Ej (h A _ s as vs rm g ra hQ)
theorem e3t(hbig:base.NoLimit)
  {n:Nat}{a:Addr}{o:Obj}{fd:qT}{body:List Stmt}{v:F}{aE:Mu}{bu:aB}{names:List Str}{is:List Nat}{args:List V}{O ai:Mu}{r:V}
  (ho:base.get? a=some o) (hd:o.data=.func fd) (hcd:base.CodeRec fd.code fd.qualname) (hbody:fd.body=.stmts body)
  (hg:fd.globals=gx) (hb:fd.builtins=i9) (hclo:fd.closure=[])
  (hco:fd.scope.isCoroutine=false) (hgen:fd.scope.isGenerator=false) (hk:fd.scope.kind=.function)
  (hbind:∀vals:List ao,vals.length=names.length->bindArgs fd ⟨vals,[]⟩=pure (names.zip vals))
  (hi:bJ (nid ah) names=some is) (hnd:names.Nodup) (hkn:∀x∈names,fd.scope.names.lookup x=some .local∨fd.scope.names.lookup x=some .cell)
  (hfree:∀p∈fd.scope.names,p.2≠.free) (hlen:is.length=args.length)
  (hx:∀(A:fu) (E:ao->aC->Prop) (L:Addr) (as:List (List Addr)) (s:aC) (Q:Flow->aC->Prop),Rm A s n->s.heap.NoLimit->ER ah base (dz fd L a) (is.zip args) as s.heap->GR Lx base O as s.heap->jx Lx base ah (dz fd L a) as s v bu aE Q->au (model prog w) A (execs body (dz fd L a)) Q E s)
  (hok:(aE.take O.length).all (gw O.length)=true∨aE.length=O.length) (hμ:ai=aE.take O.length) (hr:match v with|.ret u=>iR O.length aE u=some r|.next=>r=.none|_=>False):xM prog w Lx base (n+1) (.ref a) args O r ai:=by
 intro A R s as vals rm g ra hQ;refine fF (λv s'=>R (.ok (.ret v)) s':ao->aC->Prop) λQ Ft=>?_;rw[←Ft]at hQ;subst hμ
 ·have hl:names.length=vals.length:=by rw[ra.length,←hlen,wO hi]
  have bk:∀env s',1<=s'.toks->Rm (A.deeper env) s' n:=λenv s' ht=>⟨⟨rm.calm,by show A.depth+1+n<=900;exact AQ rm.depth,by show A.units+3+10*n<=9000;exact xX rm.units⟩,ht⟩;refine(DA rm.tk (by have:=rm.depth;show A.depth<1000;exact bz (lX this)) (g.keep _ _ ho) hd (hbig.keeps λb o e=>g.keep b o e) (hcd.keeps λb o e=>g.keep b o e) hbody (hbind vals hl.symm) hclo (λx hx=>?_) hco hgen hk λsI hpos x E=>?_)
  ·rcases hkn x.1 (JL hx).1 with q|q
   ·exact .inl q
   ·exact .inr ⟨q,Af _ _ _ q⟩
  ·obtain⟨hY,dh,eI,hkeep⟩:=x.done
   have gI:GR Lx base O as sI.heap/\Go as s.heap as sI.heap:=g.all λa o zz e=>x.toInCall.keep a o e;obtain⟨gI,aM⟩:=gI;have er:=CZ (ah:=ah) hk hg hb hfree hnd hi x hl g (ra.go aM);have hwf:∀b,Wf ah (dz fd s.heap.objs.size a) b->s.heap.get? b=.none:=by
    intro b hb;have:s.heap.objs.size<=b:=by
     rcases hb with rfl|⟨i,y,_,_,hc⟩
     ·exact x.toInCall.fresh
     ·exact cy (ck x.toInCall.fresh (x.above _ _ (mem_of_lookup hc)))
    exact rN this
   have fin:∀{aE:Mu}{cz:List (List Addr)}{hJ:Heap}{u:ao}{v v':V}{tk:Nat},GR Lx base aE cz hJ->cE (Wf ah (dz fd s.heap.objs.size a)) as sI.heap cz hJ->((aE.take O.length).all (gw O.length)=true∨aE.length=O.length)->Rep hJ cz v u->iR O.length aE v=some v' →
     (∀u h' tk,GR Lx base (aE.take O.length) as h'->Go as s.heap as h'->Rep h' as v' u->Q u {s with heap:=h',toks:=tk})->Q u {s with heap:=hJ,toks:=tk}:=by
    intro aE cz hJ u v v' tk gJ gs hok rv hf K;obtain⟨nw,rfl,_⟩:=gs.ext;have nh:as.length=O.length+1:=g.len;have hle:O.length<=aE.length:=FP nh (cA.symm.trans gJ.len);have gd:GR Lx base (aE.take O.length) as hJ:=by
     rcases hok with hok|hok
     ·exact gJ.drop nh hok hle
     ·have hn0:nw=[]:=by
       exact xD (NW nh (cA.symm.trans gJ.len) hok)
      rw[←hok,sP];rw[hn0,gm]at gJ;exact gJ
    refine K u hJ tk gd ⟨⟨[],by simp,by simp⟩,λb o hb e=>?_,λb hb=>?_⟩ (rv.frozen gJ nh hf)
    ·exact gs.keep b o hb (λq=>by rw[hwf b q]at e;exact ns e) (x.toInCall.keep b o e)
    ·exact gJ.alive b (by rw[eN];exact uN _ hb)
   rw[eI];rw[eI]at gI er hpos;induction v using Internal.F.casesOn with
   |ret u=>
    refine hx _ _ _ as _ _ (bk _ _ hpos) (by have:=hbig.keeps (λb o e=>gI.keep b o e);exact this) er gI λfl cz hJ tk gJ bI gs fr=>?_;induction fl using mS<;>try exact fr.elim
    have gs':cE (Wf ah (dz fd s.heap.objs.size a)) as sI.heap cz hJ:=by rw[eI];exact gs
    have z:=fin (tk:=tk) gJ gs' hok fr hr λu h' tk g' go' r'=>hQ u as h' tk g' go' r';rw[Ft]at z;exact z
   |next=>
    simp only at hr;subst hr;refine hx _ _ _ as _ _ (bk _ _ hpos) (by have:=hbig.keeps (λb o e=>gI.keep b o e);exact this) er gI λfl cz hJ tk gJ bI gs fr=>?_;induction fl using mS<;>try exact fr.elim
    have gs':cE (Wf ah (dz fd s.heap.objs.size a)) as sI.heap cz hJ:=by rw[eI];exact gs
    have z:=fin (v:=.none) (v':=.none) (u:=nN) (tk:=tk) gJ gs' hok rfl rfl λu h' tk g' go' r'=>hQ u as h' tk g' go' r';rw[Ft]at z;exact z
   |_=>exact hr.elim
end
section
variable {B:LB base}
theorem c5c  {PB F:Addr}{n:Int} (L:wN mA PB F n):Within mA ["lineno","instream","whitespace","pushback"]:=by
 intro y hy;by_cases h1:y = "lineno"
 ·simp[h1]
 by_cases h2:y = "instream"
 ·simp[h2]
 by_cases h3:y = "whitespace"
 ·simp[h3]
 by_cases h4:y = "pushback"
 ·simp[h4]
 exact absurd (L.only y h1 h2 h3 h4) hy
theorem c4j{n m:Int}{v:ao}{t:Tok}{Q:Unit->aC->Prop}(hk:O[k]?=some (.obj is n))(hn:1<=n)(hm:1<=m)(g:GR (bl B lm P) base O as s.heap)(r:Rep s.heap as (.mut k) v)
  (h:∀h' tk,GR (bl B lm P) base (O.set k (.obj is m)) as h'->Go as s.heap as h'->Q () {s with heap:=h',toks:=tk}):au (model prog w) A (setAttr v "lineno" (.int m t)) Q E s:=by
 obtain⟨X,D,PB,F,mA,rfl,e,er,I,L⟩:=sC g hk hn r;obtain⟨hC⟩:=B.cls;have rA:X≠B.C:=B.ne (g.fresh X (gO.mpr ⟨[X,D],g6 e,.head _⟩));obtain⟨o,hX,hc,hnc,hd⟩:=id I;have hD:o.dict=some D/\D≠X/\s.heap.Ns1 D mA:=by
  obtain⟨rs,e1,e2⟩:=g.dQ k _ _ hk e;rcases e2 with⟨_,x⟩|⟨q,_⟩|⟨q,_⟩|⟨q,_⟩|⟨q,_⟩|⟨q,_⟩|⟨q,_⟩
  ·obtain⟨X',D',PB',F',o',mA',ea,dI,h1,h2,h3,h4,h5,h6,h7⟩:=x
   simp only[uQ,and_true]at ea;obtain⟨rfl,rfl⟩:=ea;rw[hX]at h1;obtain rfl:=aD h1;refine⟨h4,h5,?_⟩;rcases hd with⟨q,_⟩|⟨d,hd1,hd2,Fi⟩
   ·rw[h4]at q;cases q
   ·rw[h4]at hd1;obtain rfl:=aD hd1;exact Fi
  all_goals first|exact F1 q hn (by decide)|exact BI q hn
 refine store_attr Jr (g.keep _ _ hC) (Ns.keep B.ns g.keep) B.xZ (B.own _ (.inl rfl)) (yZ _ (.inl rfl)) rA I (λh' tk' I' hk' hsame=>?_) (c5c L) (nb rfl);obtain⟨oI,rj,Fj,Be,_,yq⟩:=hsame o hX;have hI':∃o',h'.get? X=some o'/\o'.dict=some D/\h'.Ns1 D (λy=>if y = "lineno" then some (.int m t)else mA y):=by
  obtain⟨o',h1,h2,h3,h4⟩:=I';rw[rj]at h1;obtain rfl:=aD h1;have Ff:=yq D hD.1;rcases h4 with⟨q,_⟩|⟨d,q1,q2,q3⟩
  ·rw[Ff]at q;cases q
  ·rw[Ff]at q1;obtain rfl:=aD q1;exact⟨_,rj,Ff,q3⟩
 obtain⟨o',ho',Vo,A9⟩:=hI';rw[rj]at ho';obtain rfl:=aD ho';have at':wN (λy=>if y = "lineno" then some (.int m t)else mA y) PB F m:=by
  refine⟨⟨t,by simp⟩,?_,?_,?_,λx h1 h2 h3 h4=>?_⟩
  ·rw[if_neg (by decide)];exact L.stream
  ·rw[if_neg (by decide)];exact L.Kq
  ·rw[if_neg (by decide)];exact L.back
  ·rw[if_neg h1];exact L.only x h1 h2 h3 h4
 obtain⟨g',go⟩:=g.upd (h':=h') (m:=.obj is m) e (cM.mp hk).1 (λb ob hb eb=>by
   simp only[bT,ee,or_false,not_or]at hb;refine hk' b ob hb.1 (λoO dx e0 e1=>?_) eb;rw[hX]at e0;obtain rfl:=aD e0;rw[hD.1]at e1;obtain rfl:=aD e1;exact hb.2) (λb hb=>by
   simp only[bT,ee,or_false]at hb;rcases hb with rfl|rfl
   ·exact⟨_,rj⟩
   ·obtain⟨od,es,ep,ed,_⟩:=A9;exact⟨_,ed⟩) (λks=>⟨[PB,F],er,.inl ⟨hm,X,D,PB,F,oI,_,rfl,rfl,rj,by rw[Fj,hc],by rw[Be];exact hnc,Vo,hD.2.1,A9,at'⟩⟩)
 exact h h' tk' g' go
theorem Pe    {a:Str}{p q r c:Pos}{kd:Nat}  {m:Int}{Q:Flow->aC->Prop} (hv:gS env.scope x=true) (ha:a = "lineno") (hx:nid Z.ah x=some j) (h1:(x==("__debug__":Str))=false) (h2:(x==("__classdict__":Str))=false)
  (bH:J.lookup j=some (.mut k)) (hk:O[k]?=some (.obj is m)) (hm:1<=m) (er:ER Z.ah base env J as s.heap) (g:GR (bl B lm P) base O as s.heap)
  (h:∀h' tk,GR (bl B lm P) base (O.set k (.obj is (m+1))) as h'->Go as s.heap as h'->Q .next {s with heap:=h',toks:=tk}):au (model prog w) A (mR (.AugAssign (.Attribute (.Name x p) a q) .Add (.Constant (.int 1) kd c) r) env) Q E s:=by
 subst ha;refine wpAny_AugAssign_AttributeAny (pZ (CG er hx hv h2 bH λu ru=>?_) h1);obtain⟨X,D,PB,F,mA,rfl,_,_,I,L⟩:=sC g hk hm ru;obtain⟨t,hl⟩:=L.line;refine zR (B:=B) g.keep I (by simp) hl rfl (El (iadd_int ?_));exact c4j (s:={s with toks:=s.toks+1+1+1}) hk hm (Int.le_add_one hm) g ru λh'' TA FO nj=>h h'' TA FO nj
end
section
variable {B:LB base}
inductive d7q(lm:iZ)(as:List (List Addr))(h:Heap)(kl:Nat)(v:ao):Prop where
 |mk (F FD G LC cG LL:Addr) (pm ctv:ao) (mF:Str->Option ao) (q:List Addr) (e1:v=.ref F) (e2:as[kl+1]?=some (LL::q)) (h1:r7 h F FD mF) (h2:mF "read" = some (.ref G)) (h3:h.get? G=some (kla_obj "<lambda>" lm.qual lm.params lm.body lm.scope [("letters",LC)] pm cG ctv)) (h4:h.IsCell LC (some (.ref LL))) (h5:h.CodeRec (.ref cG) lm.qual)
theorem d0m{ks:Nat}{v:ao}(g:GR (bl B lm P) base O as h)(hs:O[ks]?=some (.obj [kl,kc] (-3)))(hc:O[kc]?=some (.obj [] (-6)))(r:Rep h as (.mut ks) v) :
  d7q lm as h kl v:=by
 obtain⟨a,q,e,rfl⟩:=r;obtain⟨rs,e1,e2⟩:=g.dQ ks _ _ hs e;rcases e2 with⟨q,_⟩|⟨_,x⟩|⟨q,_⟩|⟨q,_⟩|⟨q,_⟩|⟨q,_⟩|⟨q,_⟩
 ·first|exact absurd q (by decide)|exact absurd z (by decide)
 ·obtain⟨F,FD,G,LC,cG,LL,pm,ctv,mF,ea,rfl,h1,h2,h3,h4⟩:=x
  obtain⟨rfl,rfl⟩:=fZ ea;obtain⟨⟨q,hl⟩,⟨q2,hl2⟩⟩:=IG e1;obtain⟨rs2,_,e3⟩:=g.dQ kc _ _ hc hl2;rcases e3 with⟨z,_⟩|⟨z,_⟩|⟨z,_⟩|⟨z,_⟩|⟨_,c,ec,hcode⟩|⟨z,_⟩|⟨z,_⟩
  ·first|exact absurd q (by decide)|exact absurd z (by decide)
  ·first|exact absurd q (by decide)|exact absurd z (by decide)
  ·first|exact absurd q (by decide)|exact absurd z (by decide)
  ·first|exact absurd q (by decide)|exact absurd z (by decide)
  ·simp only[uQ]at ec
   obtain⟨rfl,_⟩:=ec;exact⟨_,FD,G,LC,_,LL,pm,ctv,mF,q,rfl,hl,h1,h2,h3,h4,hcode⟩
  ·first|exact absurd q (by decide)|exact absurd z (by decide)
  ·exact absurd z (by decide)
 all_goals exact absurd q (by decide)
theorem c7w{x:V}:∀{L':List V}{us:List ao},aJ h as (L'++[x]) us->∃ys' y',us=ys'++[y']/\aJ h as L' ys'/\Rep h as x y':=by
 intro z_;induction z_ with
 |nil=>
  intro us hr;obtain⟨v,r',rfl,hx,rfl⟩:=hr;exact⟨[],v,rfl,rfl,hx⟩
 |cons a b ih=>
  intro us hr;obtain⟨v,r',rfl,ha,hb⟩:=hr;obtain⟨ys',y',rfl,c1,c2⟩:=ih hb;exact⟨v::ys',y',rfl,⟨v,ys',rfl,ha,c1⟩,c2⟩
theorem d1c(ok:ug lm)(hbig:base.NoLimit)(hh:A.handled=.none)(hd:A.depth<1000){ks:Nat}{L:List V}{v:ao}{p:Sem Bool}{R:ao×List ao->aC->Prop}(g:GR (bl B lm P) base O as s.heap)(hs:O[ks]?=some (.obj [kl,kc] (-3)))(hkc:O[kc]?=some (.obj [] (-6)))(hl:O[kl]?=some (.list L))(hz:L.length<=big)(r:Rep s.heap as (.mut ks) v)
  (h0:L=[]->∀h' tk t,GR (bl B lm P) base O as h'->Go as s.heap as h'->Q (.str "" t) {s with heap:=h',toks:=tk})
  (h1:∀L' x,L=L'++[x]->∀h' tk y,GR (bl B lm P) base (O.set kl (.list L')) as h'->Go as s.heap as h'->Rep h' as x y->Q y {s with heap:=h',toks:=tk})
  (hR:∀(G:Addr) (o:Obj) (fd:qT) (tk:Nat),s.heap.get? G=some o->o.data=.func fd->(∀(A':fu) (one:ao) (tk:Nat),A'.handled=.none->A'.depth<1000->au (model prog w) A' (call (.ref G) [one]) Q E {s with toks:=tk})->R (.ref G,[]) {s with toks:=tk}) :
  au (model prog w) A (getMethod v "read" p) R E s:=by
 obtain⟨F,FD,G,LC,cG,LL,pm,ctv,mF,q,rfl,yw,h2,h3,h4,h5,h6⟩:=d0m g hs hkc r;obtain⟨LL',us,e',hp,hr⟩:=g.dQ kl _ _ hl yw;obtain⟨rfl,rfl⟩:=fZ e';refine c7d h2 h3 rfl (hR G _ _ _ h4 rfl λA' one tk Ve hd'=>?_);refine d5g (s:={s with toks:=tk}) ok Ve hd' h4 h6 (hbig.keeps g.keep) h5 hp (by rw[hr.length];exact hz) (λe h' tk' t kp=>?_) (λy ys e h' tk' kp i8=>?_)
 ·subst e
  have eL:L=[]:=by
   induction L using aN with
   |nil=>rfl
   |cons a b=>obtain⟨_,_,q,_⟩:=hr;cases q
  obtain⟨g',go⟩:=g.all λa o zz e=>kp a o e;exact h0 eL h' tk' t g' go
 ·rcases SO L with rfl|⟨L',x,rfl⟩
  ·obtain rfl:=hr;simp at e
  ·simp only[g5u]at hl hr h1 hz
   obtain⟨ys',y',e2,r1,r2⟩:=c7w hr;rw[e2]at e;obtain⟨rfl,e3⟩:=g5v e rfl;simp only[uQ,and_true]at e3;subst e3;have hin:LL∈as.flatten:=gO.mpr ⟨[LL],g6 yw,by simp⟩;obtain⟨g',go⟩:=g.upd (h':=h') (m:=.list L') yw (cM.mp hl).1 (λb o hb e=>kp b o (by simpa using hb) e) (λb hb=>by
    rw[bK]at hb;subst hb;obtain⟨m,e'⟩:=i8;exact⟨_,e'⟩) λks=>⟨LL,ys',rfl,i8,r1.ks ks⟩
   exact h1 L' x rfl h' tk' y' g' go (r2.ks λb o hb e' zz=>kp b o (λq=>hb (q▸hin)) e')
end
section
variable {B:LB base}
theorem c8c(S:cj prog w (bl B lm P) base Z)(nd:c7 Z.ah)(ok:ug lm)(hbig:base.NoLimit)(rm:Room A 5)(c:bQ env.scope env){ks kd:Nat}{n:Int}{L:List V}{p1 p2 p3 p4 p5:Pos}
  (hv:gS env.scope "self" = true) (hx:nid Z.ah "self" = some j) (bH:J.lookup j=some (.mut k)) (hline:(p3.endLine==p5.line)=true)
  (hk:O[k]?=some (.obj [kp,ks] n)) (hn:1<=n) (hs:O[ks]?=some (.obj [kl,kc] (-3))) (hkc:O[kc]?=some (.obj [] (-6))) (hl:O[kl]?=some (.list L)) (hz:L.length<=big)
  (er:ER Z.ah base env J as s.heap) (g:GR (bl B lm P) base O as s.heap)
  (h0:L=[]->∀h' tk t,GR (bl B lm P) base O as h'->Go as s.heap as h'->Q (.str "" t) {s with heap:=h',toks:=tk})
  (h1:∀L' x,L=L'++[x]->∀h' tk y,GR (bl B lm P) base (O.set kl (.list L')) as h'->Go as s.heap as h'->Rep h' as x y->Q y {s with heap:=h',toks:=tk}) :
  au (model prog w) A (eval (.Call (.Attribute (.Attribute (.Name "self" p1) "instream" p2) "read" p3) [.Constant (.int 1) kd p4] [] p5) env) Q E s:=by
 have hb1:attributeBase (.Attribute (.Name "self" p1) "instream" p2) "read" env (eval (.Attribute (.Name "self" p1) "instream" p2) env)=eval (.Attribute (.Name "self" p1) "instream" p2) env:=rfl
 rw[arm_eval_Call,hb1];refine aI (S9 (pZ (CG er hx hv (by decide) bH λu ru=>?_) (by decide)) rfl);obtain⟨X,D,PB,F,mA,rfl,_,hr,I,La⟩:=sC g hk hn ru;obtain⟨_,⟨q,hF⟩⟩:=IG hr;refine zR (B:=B) g.keep I (by simp) La.stream rfl ?_;refine aI (qX ?_);have few:methodCallForm ([(.Constant (.int 1) kd p4:Expr)].length+([]:List Ay).length) (backTo p5 (starEach [.Constant (.int 1) kd p4] env)) (backToKw p5 (keywordEach [] env))=true:=rfl;unfold methodCall;rw[few];refine aI (nW (d1c (s:={s with toks:=s.toks+1}) (Q:=Q) ok hbig rm.calm (by have:=rm.depth;exact bz (lX this)) g hs hkc hl hz (⟨F,q,hF,rfl⟩) h0 h1 λG o fd tk hG hfd hcall=>?_));show au (model prog w) A (methodCallPos true (.Attribute (.Name "self" p1) "instream" p2) env p3 p5 >>= λcp=>callWith cp (.ref G) [] (backTo p5 (starEach [.Constant (.int 1) kd p4] env)) []) Q E _
 have hpos:methodCallPos true (.Attribute (.Name "self" p1) "instream" p2) env p3 p5=pure p5:=by
  unfold methodCallPos;rw[if_pos (by simpa using hline)]
 rw[hpos];refine aI (bF ?_);refine g6v (o:=o) (fd:=fd) ?_;refine evalArgs_plain (uW (El ?_) rfl);exact uV ⟨⟨hG,hfd⟩,hcall A _ _ rm.calm (by have:=rm.depth;exact bz (lX this))⟩
end
section
variable {B:LB base}
theorem By(hoff:Z.fB=false)(n:Nat):nF prog w (bl B lm P) base Z n where
 new:=λh=>nt (hoff.symm.trans h)
 fit:=λzz zz zz zz zz zz zz zz zz zz zz zz zz zz zz h=>nt (hoff.symm.trans h)
 line:=λx a p q r c kd j k is m A E env J O as s Q h1 h2 h3 h4 h5 h6 h7 h8 rm er g hQ=>Pe h1 h2 h3 h4 h5 h6 h7 h8 er g hQ
 draw:=λzz zz zz zz zz zz zz zz zz zz zz h=>nt (hoff.symm.trans h)
 self:=λzz zz zz zz zz zz zz zz zz zz zz h=>nt (hoff.symm.trans h)
 lets:=λzz zz zz zz zz zz zz zz zz zz zz zz zz h=>nt (hoff.symm.trans h)
theorem Pg{a b:List Nat}(ha:pG ⟨a.toArray⟩=true)(hb:pG ⟨b.toArray⟩=true):eqv (.str a) (.str b)=some (decide (a=b)):=by
 have e:eqv (.str a) (.str b)=some ((Ju ⟨a.toArray⟩).eqv (Ju ⟨b.toArray⟩)):=by
  have h:∀x:List Nat,iD (.str x)=some (Ju ⟨x.toArray⟩):=λx=>rfl;unfold eqv;rw[h,h];simp[jO,Jv,xg,ha,hb]
 rw[e];congr 1;by_cases h:a=b
 ·subst h;simp[Ah]
 ·simp[Ah,h]
noncomputable def Hi(js jc:Nat):List Internal.S:=[.ite (.cmp .Eq (.loc jc) (.cst (.str [10]))) [.line js] [],.ret (.loc jc)]
theorem d5z{js jc ks:Nat}{n:Int}{c:List Nat}(hne:js≠jc)(hk:O[k]?=some (.obj [kp,ks] n))(hn:1<=n)(hc:pG ⟨c.toArray⟩=true) :
  ∃ρ',bE (aQ Z 6) (Hi js jc) (put jc (.str c) [(js,.mut k)]) O=some (.ret (.str c),ρ',if c=[10]then O.set k (.obj [kp,ks] (n+1))else O):=by
 have l1:(put jc (.str c) [(js,V.mut k)]).lookup jc=some (.str c):=by rw[gi,if_pos rfl]
 have l2:(put jc (.str c) [(js,V.mut k)]).lookup js=some (.mut k):=by rw[gi,if_neg hne];simp
 generalize put jc (.str c) [(js,V.mut k)]=J at l1 l2;have e1:ev Z 6 (.cmp .Eq (.loc jc) (.cst (.str [10]))) J O=some (.bool (decide (c=[10])),O):=by
  have qe:pG ⟨[10].toArray⟩=true:=by decide +kernel
  show(match (J.lookup jc).map (·,O)with
   |some (u,O)=>(cR .Eq (bg O u) (.str [10])).map λb=>((.bool b:V),O)
   |.none=>.none)=_
  rw[l1];show(cR .Eq (.str c) (.str [10])).map (λb=>((.bool b:V),O))=_;rw[BC (Pg hc qe)];rfl
 have e2:∀ai,ev Z 6 (.loc jc) J ai=some (.str c,ai):=λai=>by
  show(J.lookup jc).map (·,ai)=_;rw[l1];rfl
 refine⟨J,?_⟩;have e3:aQ Z 6 (.ite (.cmp .Eq (.loc jc) (.cst (.str [10]))) [.line js] []) J O=some (.next,J,if c=[10]then O.set k (.obj [kp,ks] (n+1))else O):=by
  show(match ev Z 6 (.cmp .Eq (.loc jc) (.cst (.str [10]))) J O with
   |some (v,O)=>match eZ (bg O v)with
    |some true=>exec Z 6 [.line js] J O
    |some false=>exec Z 6 [] J O
    |.none=>.none
   |.none=>.none)=_
  rw[e1];by_cases h:c=[10]
  ·subst h
   show(match (match J.lookup js with
    |some (.mut k)=>match O[k]? with
     |some (.obj is m)=>if 1<=m then some (F.next,J,O.set k (.obj is (m+1)))else .none
     |_=>.none
    |_=>.none)with
    |some (.next,J,O)=>some (F.next,J,O)
    |x=>x)=_
   rw[l2];show(match (match O[k]? with
     |some (.obj is m)=>if 1<=m then some (F.next,J,O.set k (.obj is (m+1)))else .none
     |_=>.none)with
    |some (.next,J,O)=>some (F.next,J,O)
    |x=>x)=_
   rw[hk];show(match (if 1<=n then some (F.next,J,O.set k (.obj [kp,ks] (n+1)))else .none)with
    |some (.next,J,O)=>some (F.next,J,O)
    |x=>x)=_
   rw[if_pos hn,if_pos rfl]
  ·rw[if_neg h,decide_eq_false h];rfl
 show(match aQ Z 6 (.ite (.cmp .Eq (.loc jc) (.cst (.str [10]))) [.line js] []) J O with
  |some (.next,J,O)=>bE (aQ Z 6) [.ret (.loc jc)] J O
  |x=>x)=_
 rw[e3];show(match (match ev Z 6 (.loc jc) J _ with
   |some (v,O)=>some (F.ret v,J,O)
   |.none=>.none)with
  |some (.next,J,O)=>some (F.next,J,O)
  |x=>x)=_
 rw[e2]
end
structure vt{base:Heap}(B:LB base)(ah:List Str)(js jc:Nat) where
 o:Obj
 fd:qT
 p1:Pos
 p2:Pos
 p3:Pos
 p4:Pos
 p5:Pos
 p6:Pos
 p7:Pos
 kd:Nat
 rest:List Stmt
 at':base.get? B.fr=some o
 data:o.data=.func fd
 code:base.CodeRec fd.code fd.qualname
 body:fd.body=.stmts (.Assign [.Name "ch" p6] (.Call (.Attribute (.Attribute (.Name "self" p1) "instream" p2) "read" p3) [.Constant (.int 1) kd p4] [] p5) p7::rest)
 line:(p3.endLine==p5.line)=true
 glob:fd.globals=gx
 built:fd.builtins=i9
 clos:fd.closure=[]
 coro:fd.scope.isCoroutine=false
 gen:fd.scope.isGenerator=false
 kind:fd.scope.kind=.function
 bind:∀vals:List ao,vals.length=[("self":Str)].length->bindArgs fd ⟨vals,[]⟩=pure ([("self":Str)].zip vals)
 self:nid ah "self" = some js
 ch:nid ah "ch" = some jc
 ne:js≠jc
 kself:fd.scope.names.lookup ("self":Str)=some fU.local
 kch:fd.scope.names.lookup ("ch":Str)=some fU.local
 nofree:∀p∈fd.scope.names,p.2≠.free
 own:∀x,cS fd.scope x=true->(nid ah x).isSome=true
 calm:∀L,interactive (dz fd L B.fr)=false
 tr:∃mt k,lW.ku ah mt k fd.scope rest=some (Hi js jc)
section
variable {B:LB base}
theorem RC(S:cj prog w (bl B lm P) base Z)(hoff:Z.fB=false)(nd:c7 Z.ah)(ok:ug lm)(hbig:base.NoLimit){js jc:Nat}(R:vt B Z.ah js jc){c:List Nat}
  (h:jh O k=some (c,ai)) (hlen:ai.length=O.length):xM prog w (bl B lm P) base 11 (.ref B.fr) [.mut k] O (.str c) ai:=by
 have Tw:ai.take O.length=ai:=by rw[←hlen,sP]
 refine IK h λkp ks kl kc n L hk hn hs hl hkc hz fin=>?_;obtain⟨mt,kk,tr⟩:=R.tr;have main:∀(aA:Mu),pG ⟨c.toArray⟩=true->aA[k]?=some (.obj [kp,ks] n)->(if c=[10]then aA.set k (.obj [kp,ks] (n+1))else aA)=ai →
   (∀(t:Tok),L=[]->c=[]/\aA=O)->(∀L' x,L=L'++[x]->x=.str c/\aA=O.set kl (.list L'))->xM prog w (bl B lm P) base 11 (.ref B.fr) [.mut k] O (.str c) ai:=by
  intro aA hc ym Uw c0 c1;obtain⟨bu,LF⟩:=d5z (Z:=Z) (O:=aA) R.ne ym hn hc;rw[Uw]at LF;refine e3t (ah:=Z.ah) (v:=.ret (.str c)) (aE:=ai) (bu:=bu) (names:=["self"]) (is:=[js]) hbig R.at' R.data R.code R.body R.glob R.built R.clos R.coro R.gen R.kind R.bind (jJ R.self rfl) (by decide) (λx hx=>by rw[bK]at hx;subst hx;exact .inl R.kself) R.nofree rfl ?_ (.inr hlen) Tw.symm rfl
  intro A E Lc as s Q rm big er g hQ;have hv:gS (dz R.fd Lc B.fr).scope "self" = true:=by
   show gS R.fd.scope "self" = true
   unfold gS iH;rw[R.kself]
  have hch:cS (dz R.fd Lc B.fr).scope "ch" = true:=by
   show cS R.fd.scope "ch" = true
   unfold cS iH;rw[R.kch]
  have rest:∀(h':Heap) (tk:Nat) (y:ao),1<=tk->GR (bl B lm P) base aA as h'->Go as s.heap as h'->Rep h' as (.str c) y →
    au (model prog w) A (storeName (dz R.fd Lc B.fr) "ch" y) (λzz s'=>au (model prog w) A (execs R.rest (dz R.fd Lc B.fr)) Q E s') E {s with heap:=h',toks:=tk}:=by
   intro h' tk y ht g' go' ry;refine lV ht (uA (s:={s with heap:=h',toks:=tk}) nd R.ch hch (er.go go') g' ry λhJ dN gJ bI dS qb ht=>?_);exact PV S nd (By hoff 6) (wQ S nd (By hoff) 6) R.own (R.calm _) ⟨λzz q=>q,λzz q=>q,λzz q=>q⟩ kk R.rest (Hi js jc) _ bu aA ai as {s with heap:=hJ,toks:=dN} (.ret (.str c)) Q ((rm.less (nb rfl)).at ht) tr bI gJ LF (hQ.after (go'.toS.trans dS (er.go go').there) bI.there)
  refine nX (Jh (rm.with λzz=>c8c S nd ok hbig (rm.toRoom.less (nb rfl)) ⟨λzz q=>q,λzz q=>q,λzz q=>q⟩ hv R.self (by simp[List.zip]) R.line hk hn hs hkc hl hz er g (λe h' tk t g' go' ht=>?_) (λL' x e h' tk y g' go' ry ht=>?_)) rfl)
  ·obtain⟨rfl,e2⟩:=c0 t e
   subst e2;exact rest h' tk _ ht g' go' ⟨t,rfl⟩
  ·obtain⟨rfl,e2⟩:=c1 L' x e
   subst e2;exact rest h' tk y ht g' go' ry
 have U':k≠kl:=λq=>by rw[q,hl]at hk;cases hk
 rcases fin with⟨tP,rfl,rfl⟩|⟨ch,tP,hlt,rfl,fin⟩
 ·have eL:L=[]:=by simpa using tP
  refine main _ (by decide +kernel) hk (if_neg (by decide)) (λzz zz=>⟨rfl,rfl⟩) λL' x e=>?_;rw[eL]at e;simp at e
 ·obtain⟨LO,FA⟩:∃LO,L=LO++[.str [ch]]:=by
   rcases SO L with q|⟨LO,x,q⟩
   ·rw[q]at tP;exact ns tP
   ·rw[q]at tP
    simp at tP;subst tP;exact⟨LO,by rw[q];simp⟩
  have hd:L.dropLast=LO:=by rw[FA];simp
  rw[hd]at fin;have ym:(O.set kl (.list LO))[k]?=some (.obj [kp,ks] n):=by rw[lz (λz=>U' z.symm)];exact hk
  have TM:pG ⟨[ch].toArray⟩=true:=by
   unfold pG;simp[hlt]
  refine main _ TM ym ?_ (λzz e=>by rw[FA]at e;simp at e) λL' x e=>?_
  ·rcases fin with⟨qe,e⟩|⟨qe,e⟩
   ·rw[e,qe,if_pos rfl]
   ·rw[e,if_neg (by simpa using qe)]
  ·rw[FA]at e
   obtain⟨rfl,e3⟩:=g5v e rfl;simp only[uQ,and_true]at e3;exact⟨e3.symm,rfl⟩
end
namespace FF
theorem tG:Slot "callable_iterator" "__next__" "callable_iterator.__next__":=
 .of (owner:="callable_iterator") (n:="__next__") (by rw[typeLookup_type,builtinLookup_eq_fast];kernel_rfl) (by decide +kernel) (by decide +kernel) (by decide +kernel)
  (by first|exact .inl (by decide +kernel)|exact .inr (by decide +kernel)) (by rw[isSubtype_type];kernel_rfl)
theorem Gw:entryFor table "callable_iterator.__next__" = some m6.«callable_iterator.__next__»:=entryFor_of_tree (by kernel_rfl)
theorem I2 (a:ao):argsOk "callable_iterator.__next__" ⟨[a],[]⟩:=by unfold argsOk;kernel_rfl
end FF
section
theorem d4m{Q:Option ao->aC->Prop}(hh:A.handled=.none)(ho:s.heap.get? fi=some (j4 .none .none true))
  (hQ:∀h' tk,(∀b o,s.heap.get? b=some o->h'.get? b=some o)->Q .none {s with heap:=h',toks:=tk}):au (model prog w) A (pyNext (.ref fi)) Q E s:=by
 have hT:s.TypeIs (.ref fi) "callable_iterator":=⟨_,ho,rfl⟩
 unfold pyNext;refine aI (xP (xO (name:=lQ "__next__") hT FF.tG
  (qY FF.tG hT FF.Gw ?_ (FF.I2 _))))
 show au _ _ (field (.ref fi) 2 >>= _) _ _ s;refine aI (lC ho rfl (x:=.bool true) rfl ?_);show au _ _ (if((qI true==qI true)=true)then _ else _) _ _ s;rw[if_pos (by rfl)];refine aI (tE ?_);refine aI ?_;show au _ _ (newExc (.type "StopIteration") [] >>= _) _ _ _
 refine aI ?_;unfold newExc newTuple;refine aI (AJ ?_ (by size_fits));refine aI (m:=firstArgMember _ _) (Ka (a:=nN) (by first|rfl|(simp only[firstArgMember];rfl)) ?_)
 refine AJ ?_ (by size_fits);unfold raiseNew;refine aI (wpAny_handled ?_);rw[show A.in1.handled=none from hh];refine aI (bF (wpAny_throw ?_));refine aI (Eh (T:="StopIteration") (b:=true) ⟨_,fq _ rfl,rfl⟩ isSubtype_stop ?_)
 exact bF (hQ _ _ λb o e=>cB _ (cB _ e))
end
section
variable {M:Model}
theorem b9h{Z:Ctx}{p:Pos}{E:ao->Pos->aC->Prop}(f:ao)(pos:List ao)(Q:ao->Pos->aC->Prop) :
  Sem.wp M Z (callBorrowed f pos) Q E p s=wpCode M (Z.enter (.call f ⟨pos,[]⟩) cZ p) (λr s'=>match r with|.ok (.ret v)=>Q v p s' |.ok _=>False|.error e=>E e p s') p s:=by
 unfold callBorrowed;rw[Sem.wp];congr 1;funext r s';cases r with
 |error e=>rfl
 |ok f=>cases f<;>rfl
theorem a8e{f:ao}{pos:List ao}
  (hc:codeAny M A (.call f ⟨pos,[]⟩) (λr s'=>match r with|.ok (.ret v)=>Q v s' |.ok _=>False|.error e=>E e s') s):au M A (callBorrowed f pos) Q E s:=λZ p hΓ=>by
 rw[b9h];exact hc _ p rfl (hΓ.enter _ cZ p (by intro x;exact ns x))
end
section
theorem RN{M:Model}{X:ao}{of:Obj}{Q:Bool->aC->Prop}(hb:s.heap.get? bm=some (methodObj (.ref fr) X))(hf:s.heap.get? fr=some of)(hd:of.data=.func fd)(h:Q true s):au M A (borrowsExactly (.ref bm)) Q E s:=by
 unfold borrowsExactly;refine aI (Kf hb ?_);show au M A (if((Jl "method" == Jl "method")=true)then _ else _) Q E s
 rw[if_pos (by rfl)];show au M A (load fr >>= _) Q E s;refine aI (Kf hf ?_);rw[hd];exact bF h
theorem QI{X:ao}{of:Obj}(hb:s.heap.get? bm=some (methodObj (.ref fr) X))(hf:s.heap.get? fr=some of)(hd:of.data=.func fd)
  (hc:codeAny (model prog w) A (.call (.ref fr) ⟨[X],[]⟩) (λr s'=>match r with|.ok (.ret v)=>Q v s' |.ok _=>False|.error e=>E e s') s):au (model prog w) A (callOutOfASlot (.ref bm)) Q E s:=by
 unfold callOutOfASlot;refine aI (RN hb hf hd ?_);rw[if_pos rfl];exact a8e (ks_codeAny_call_bound hb hc)
end
section
theorem c8y  {X:ao}{of:Obj}  {t:Tok}{K:Str->Heap->Nat->Tok->Prop}{Q:Option ao->aC->Prop} (ho:s.heap.get? fi=some (j4 (.ref bm) (.str "" t) false)) (hb:s.heap.get? bm=some (methodObj (.ref fr) X)) (hf:s.heap.get? fr=some of) (hd:of.data=.func fd)
  (hcall:∀R:xe->aC->Prop,(∀c h' tk u t',K c h' tk u->h'.get? fi=some (j4 (.ref bm) (.str "" t') false)->c ≠ "" -> R (.ok (.ret (.str c u))) {s with heap:=h',toks:=tk})->codeAny (model prog w) A.in1 (.call (.ref fr) ⟨[X],[]⟩) R s)
  (hQ:∀c h' tk tk' u,K c h' tk u->Q (some (.str c u)) {s with heap:=h',toks:=tk'}):au (model prog w) A (pyNext (.ref fi)) Q E s:=by
 have hT:s.TypeIs (.ref fi) "callable_iterator":=⟨_,ho,rfl⟩
 unfold pyNext;refine aI (xP (xO (name:=lQ "__next__") hT FF.tG
  (qY FF.tG hT FF.Gw ?_ (FF.I2 _))))
 show au _ _ (field (.ref fi) 2 >>= _) _ _ s;refine aI (lC ho rfl (x:=.bool false) rfl ?_);show au _ _ (if((qI false==qI true)=true)then _ else _) _ _ s;rw[if_neg (by decide)];show au _ _ (field (.ref fi) 0 >>= _) _ _ s;refine aI (lC ho rfl (x:=.ref bm) rfl ?_);refine aI (xP (QI hb hf hd (hcall _ λc h' tk u t' k ho' hc=>?_)));show au _ _ (field (.ref fi) 2 >>= _) _ _ _;refine aI (lC ho' rfl (x:=.bool false) rfl ?_);show au _ _ (if((qI false==qI true)=true)then _ else _) _ _ _;rw[if_neg (by decide)];show au _ _ (field (.ref fi) 1 >>= _) _ _ _;refine aI (lC ho' rfl (x:=.str "" t') rfl ?_)
 refine aI (nW (wpAny_eqBool_str ?_));rw[show decide (("":Str)=c)=false from decide_eq_false (λq=>hc q.symm)]
 exact bF ⟨_,rfl,bF (hQ _ _ _ _ _ k)⟩
end
section
theorem c0e  {X:ao}{of:Obj}  {t:Tok}{K:Heap->Nat->Prop}{Q:Option ao->aC->Prop} (hh:A.handled=.none) (ho:s.heap.get? fi=some (j4 (.ref bm) (.str "" t) false)) (hb:s.heap.get? bm=some (methodObj (.ref fr) X)) (hf:s.heap.get? fr=some of) (hd:of.data=.func fd)
  (hcall:∀R:xe->aC->Prop,(∀h' tk u t',K h' tk->h'.get? fi=some (j4 (.ref bm) (.str "" t') false)->h'.get? bm=some (methodObj (.ref fr) X)->h'.get? fr=some of->R (.ok (.ret (.str "" u))) {s with heap:=h',toks:=tk})->codeAny (model prog w) A.in1 (.call (.ref fr) ⟨[X],[]⟩) R s)
  (hQ:∀h' tk h'' tk',K h' tk->(∀b o,b≠fi->h'.get? b=some o->h''.get? b=some o)->h''.get? fi=some (j4 .none .none true)->Q .none {s with heap:=h'',toks:=tk'}):au (model prog w) A (pyNext (.ref fi)) Q E s:=by
 have hT:s.TypeIs (.ref fi) "callable_iterator":=⟨_,ho,rfl⟩
 unfold pyNext;refine aI (xP (xO (name:=lQ "__next__") hT FF.tG
  (qY FF.tG hT FF.Gw ?_ (FF.I2 _))))
 show au _ _ (field (.ref fi) 2 >>= _) _ _ s;refine aI (lC ho rfl (x:=.bool false) rfl ?_);show au _ _ (if((qI false==qI true)=true)then _ else _) _ _ s;rw[if_neg (by decide)];show au _ _ (field (.ref fi) 0 >>= _) _ _ s;refine aI (lC ho rfl (x:=.ref bm) rfl ?_);refine aI (xP (QI hb hf hd (hcall _ λh' tk u t' k ho' hb' hf'=>?_)));show au _ _ (field (.ref fi) 2 >>= _) _ _ _;refine aI (lC ho' rfl (x:=.bool false) rfl ?_);show au _ _ (if((qI false==qI true)=true)then _ else _) _ _ _;rw[if_neg (by decide)];show au _ _ (field (.ref fi) 1 >>= _) _ _ _;refine aI (lC ho' rfl (x:=.str "" t') rfl ?_)
 refine aI (nW (wpAny_eqBool_str ?_));rw[show decide ((("":Str)) = "")=true from decide_eq_true rfl]
 refine aI (tE ?_);refine aI ?_;show au _ _ (field (.ref fi) 0 >>= λold=>slotLetsGo "callable_iterator.__next__" old _ >>= λzz=>setField (.ref fi) 0 .none >>= λzz=>setField (.ref fi) 1 .none >>= λzz=>setField (.ref fi) 2 (.bool true)) _ _ _
 refine aI (lC ho' rfl (x:=.ref bm) rfl ?_);refine aI ?_;unfold slotLetsGo;refine aI (RN hb' hf' hd ?_);rw[if_pos rfl];refine bF ?_;refine aI (AI ho' (by simp) λh1 e1 s1=>?_);refine aI (AI e1 (by simp) λh2 e2 s2=>?_);refine AI e2 (by simp) λh3 e3 s3=>?_;show au _ _ (newExc (.type "StopIteration") [] >>= _) _ _ _
 refine aI ?_;unfold newExc newTuple;refine aI (AJ ?_ (by size_fits));refine aI (m:=firstArgMember _ _) (Ka (a:=nN) (by first|rfl|(simp only[firstArgMember];rfl)) ?_)
 refine AJ ?_ (by size_fits);unfold raiseNew;refine aI (wpAny_handled ?_);rw[show A.in1.handled=none from hh];refine aI (bF (wpAny_throw ?_));refine aI (Eh (T:="StopIteration") (b:=true) ⟨_,fq _ rfl,rfl⟩ isSubtype_stop ?_)
 refine bF (hQ _ _ _ _ k (λb o hb e=>cB _ (cB _ ((s3.2 b hb).trans ((s2.2 b hb).trans ((s1.2 b hb).trans e))))) (cB _ (cB _ ?_)));rw[e3];rfl
end
section
variable {B:LB base}
theorem QO{q:List Addr}{m:Int}(g:GR (bl B lm P) base O as h)(ha:as[k+1]?=some (a::q))(hk:O[k]?=some (.obj is m))(hm:m = -2∨m = -4):∃x y e,h.get? a=some (j4 x y e):=by
 obtain⟨rs,e1,e2⟩:=g.dQ k _ _ hk ha;rcases e2 with⟨z,_⟩|⟨z,_⟩|⟨_,x⟩|⟨_,x⟩|⟨z,_⟩|⟨z,_⟩|⟨z,_⟩
 ·exact WW hm z
 ·exact ED hm z
 ·obtain⟨fi,bm,X,t,ea,_,h1,_⟩:=x
  obtain⟨rfl,_⟩:=fZ ea;exact⟨_,_,_,h1⟩
 ·obtain⟨fi,bm,ea,h1⟩:=x
  obtain⟨rfl,_⟩:=fZ ea;exact⟨_,_,_,h1⟩
 ·exact ED hm z
 ·exact WZ hm z
 ·exact ED hm z
theorem e6q{q:List Addr}{m:Int}{v:ao}{Q:Unit->aC->Prop}(g:GR (bl B lm P) base O as s.heap)(ha:as[k+1]?=some (a::q))(hk:O[k]?=some (.obj is m))(hm:m = -2∨m = -4)(ht:kR tg=true)(h:Q () s):au (model prog w) A (letOwnedTupleGo tg (.ref a) v) Q E s:=by
 obtain⟨x,y,e,ho⟩:=QO g ha hk hm;exact Aa ht ho rfl rfl (by decide) h
end
namespace FF
theorem KG:Slot "callable_iterator" "__iter__" "callable_iterator.__iter__":=
 .of (owner:="callable_iterator") (n:="__iter__") (by rw[typeLookup_type,builtinLookup_eq_fast];kernel_rfl) (by decide +kernel) (by decide +kernel) (by decide +kernel)
  (by first|exact .inl (by decide +kernel)|exact .inr (by decide +kernel)) (by rw[isSubtype_type];kernel_rfl)
theorem ZY:entryFor table "callable_iterator.__iter__" = some m6.«dict_keyiterator.__iter__»:=
 entryFor_alias (id':="dict_keyiterator.__iter__") (by kernel_rfl) rfl (by decide +kernel) (by kernel_rfl)
theorem g3b (a:ao):argsOk "callable_iterator.__iter__" ⟨[a],[]⟩:=by unfold argsOk;kernel_rfl
end FF
section
variable {B:LB base}
theorem e3f{q:List Addr}{m:Int}(g:GR (bl B lm P) base O as s.heap)(ha:as[k+1]?=some (a::q))(hk:O[k]?=some (.obj is m))(hm:m = -2∨m = -4)(h:Q (.ref a) s):au (model prog w) A (pyIter (.ref a)) Q E s:=by
 obtain⟨x,y,e,ho⟩:=QO g ha hk hm;have hT:s.TypeIs (.ref a) "callable_iterator":=⟨_,ho,rfl⟩
 refine wpAny_pyIter_slot hT FF.KG (qY FF.KG hT FF.ZY ?_ (FF.g3b _));show au _ _ (ret (.ref a)) _ _ s;exact bF ⟨_,rfl,"callable_iterator",_,hT,FF.tG.lookup,h⟩
end
theorem RO{c:List Nat}(h:jh O k=some (c,ai)):ai.length=O.length/\(c=[]->ai=O)/\∃kp ks n,O[k]?=some (.obj [kp,ks] n)/\1<=n:=by
 refine IK h λkp ks kl kc n L hk hn hs hL hC zz fin=>?_;rcases fin with⟨_,rfl,rfl⟩|⟨z,_,_,rfl,⟨_,rfl⟩|⟨_,rfl⟩⟩
 ·exact⟨rfl,λzz=>rfl,kp,ks,n,hk,hn⟩
 ·exact⟨by rw[pN,pN],(by intro e;cases e),kp,ks,n,hk,hn⟩
 ·exact⟨pN,(by intro e;cases e),kp,ks,n,hk,hn⟩
section
variable {B:LB base}
theorem e4g(g:GR Lx base O as h)(g':GR Lx base ai as' h')(go:Go as h as' h')(hl:ai.length=O.length):as'=as:=by
 obtain⟨nw,rfl,_⟩:=go.ext;have h1:=g'.len;have h2:=g.len;have:nw=[]:=xD (NW h2 (cA.symm.trans h1) hl);rw[this,gm]
theorem Oo{kx:Nat}{q:List Addr}(g:GR (bl B lm P) base O as h)(ha:as[k+1]?=some (a::q))(hk:O[k]?=some (.obj [kx] (-2))) :
  ∃bm X t r,a::q=[a,bm]/\as[kx+1]?=some (X::r)/\h.get? a=some (j4 (.ref bm) (.str "" t) false)/\h.get? bm=some (methodObj (.ref B.fr) (.ref X)):=by
 obtain⟨rs,e1,e2⟩:=g.dQ k _ _ hk ha;rcases e2 with⟨z,_⟩|⟨z,_⟩|⟨_,x⟩|⟨z,_⟩|⟨z,_⟩|⟨z,_⟩|⟨z,_⟩
 ·exact absurd z (by decide)
 ·exact absurd z (by decide)
 ·obtain⟨fi,bm,X,t,ea,rfl,h1,h2⟩:=x
  obtain⟨rfl,rfl⟩:=fZ ea;refine eY e1 λb r e zz e3=>?_;obtain rfl:=(fZ e3).1;induction hl:as[kx+1]? using aT with
  |none=>rw[hl]at e;exact ns e
  |some l=>
   rw[hl]at e;induction l using aN with
   |nil=>exact ns e
   |cons c q=>
    obtain rfl:=aD e;exact⟨bm,_,t,q,rfl,rfl,h1,h2⟩
 ·exact absurd z (by decide)
 ·exact absurd z (by decide)
 ·exact absurd z (by decide)
 ·exact absurd z (by decide)
theorem e2q(S:cj prog w (bl B lm P) base Z)(hoff:Z.fB=false)(nd:c7 Z.ah)(ok:ug lm)(hbig:base.NoLimit){js jc:Nat}(R:vt B Z.ah js jc)
  {k:Nat}{a:Addr}{q:List Addr}{r:Option (List Nat)}{Q:Option ao->aC->Prop} (rm:Rm A s 12) (g:GR (bl B lm P) base O as s.heap) (ha:as[k+1]?=some (a::q)) (h:Internal.draw O k=some (r,ai))
  (hQ:∀h' tk rv,GR (bl B lm P) base ai as h'->Go as s.heap as h'->(match r with|.none=>rv=.none|some c=>∃t,rv=some (.str ⟨c.toArray⟩ t))->Q rv {s with heap:=h',toks:=tk}):au (model prog w) A (pyNext (.ref a)) Q E s:=by
 have TS:Rm A.in1 s 11:=⟨⟨rm.calm,by have:=rm.depth;show A.depth+11<=900;exact cy this,by show A.units+1+10*11<=9000;exact xX rm.units⟩,rm.tk⟩;refine Qw h (λkx cc aA hk hr fin=>?_) λkx hk e1 e2=>?_
 ·have UO:=hr
  obtain⟨bm,X,t,qx,eq,hX,h1,h2⟩:=Oo g ha hk;have hfr:=g.keep _ _ R.at';have rX:aJ s.heap as [V.mut kx] [RQ X]:=aJ.cons ⟨X,qx,hX,rfl⟩ .nil;have call:∀{c:List Nat}{aA:Mu}{RR:xe->aC->Prop},jh O kx=some (c,aA)->(∀h' tk u,GR (bl B lm P) base aA as h'->Go as s.heap as h'->(∃t',h'.get? a=some (j4 (.ref bm) (.str "" t') false))->h'.get? bm=some (methodObj (.ref B.fr) (.ref X))->RR (.ok (.ret (.str ⟨c.toArray⟩ u))) {s with heap:=h',toks:=tk}) →
    codeAny (model prog w) A.in1 (.call (.ref B.fr) ⟨[.ref X],[]⟩) RR s:=by
   intro c aA RR hr hRR;obtain⟨hlen,_,_⟩:=RO hr;refine RC S hoff nd ok hbig R hr hlen A.in1 RR s as [.ref X] TS g rX λv as' h' tk g' go' rv=>?_;have:=e4g g g' go' hlen;subst this;obtain⟨u,rfl⟩:=rv;obtain⟨bm',X',t',q',e',Fq,i1,i2⟩:=Oo g' ha (Jk hr hk);rw[eq]at e';simp only[uQ,and_true,true_and]at e';subst e';rw[hX]at Fq;simp only[j9,uQ]at Fq;obtain⟨rfl,_⟩:=Fq;exact hRR h' tk u g' go' ⟨t',i1⟩ i2
  rcases fin with⟨rfl,rfl,rfl⟩|⟨hc,rfl,rfl⟩
  ·clear UO
   refine c0e (K:=λh' tk=>GR (bl B lm P) base aA as h'/\Go as s.heap as h') rm.calm h1 h2 hfr R.data (λRR hRR=>call hr λh' tk u g' go' i1 i2=>?_) (λh' tk h'' tk' K hk' hend=>?_)
   ·obtain⟨t',i1⟩:=i1
    exact hRR h' tk u t' ⟨g',go'⟩ i1 i2 (g'.keep _ _ R.at')
   ·obtain⟨g',go'⟩:=K
    have rq:k<aA.length:=(cM.mp (Jk hr hk)).1;have bmo:∃o,h'.get? bm=some o:=g'.alive bm (gO.mpr ⟨a::q,g6 ha,by rw[eq];simp⟩);obtain⟨FO,nj⟩:=g'.upd (h':=h'') (m:=.obj [kx] (-4)) ha rq (λb o hb e=>hk' b o (λz=>hb (by rw[z];simp)) e) (λb hb=>by
     by_cases z:b=a
     ·exact⟨_,z▸hend⟩
     ·obtain⟨o,e⟩:=g'.alive b (gO.mpr ⟨a::q,g6 ha,hb⟩)
      exact⟨o,hk' b o z e⟩) (λks=>⟨[X],jJ (by rw[hX];rfl) rfl,.inr (.inr (.inr (.inl ⟨rfl,a,bm,eq,hend⟩)))⟩)
    exact hQ h'' tk' .none FO (go'.trans nj) rfl
  ·refine c8y (K:=λc' h' tk u=>c'=(⟨cc.toArray⟩:Str)/\GR (bl B lm P) base ai as h'/\Go as s.heap as h') h1 h2 hfr R.data (λRR hRR=>call hr λh' tk u g' go' i1 i2=>?_) (λc' h' tk tk' u K=>?_)
   ·obtain⟨t',i1⟩:=i1
    refine hRR _ h' tk u t' ⟨rfl,g',go'⟩ i1 λq=>?_;have:cc=[]:=by
     have e0:(lQ "").cps.toList=[]:=by rfl
     have:=congrArg (λx:Str=>x.cps.toList) q;rw[e0]at this;simpa using this
    exact hc this
   ·obtain⟨rfl,g',go'⟩:=K
    exact hQ h' tk' _ g' go' ⟨u,rfl⟩
 ·subst e1 e2
  obtain⟨rs,e1,e2⟩:=g.dQ k _ _ hk ha;rcases e2 with⟨z,_⟩|⟨z,_⟩|⟨z,_⟩|⟨_,x⟩|⟨z,_⟩|⟨z,_⟩|⟨z,_⟩
  ·exact absurd z (by decide)
  ·exact absurd z (by decide)
  ·exact absurd z (by decide)
  ·obtain⟨fi,bm,ea,h1⟩:=x
   obtain⟨rfl,_⟩:=fZ ea;refine d4m rm.calm h1 λh' tk kp=>?_;obtain⟨g',go'⟩:=g.all λb o zz e=>kp b o e;exact hQ h' tk _ g' go' rfl
  ·exact absurd z (by decide)
  ·exact absurd z (by decide)
  ·exact absurd z (by decide)
end
section
open Builtin Builtin.ObjectAttr
namespace FF
theorem TQ:Slot "function" "__get__" "function.__get__":=
 .of (owner:="function") (n:="__get__") (by rw[typeLookup_type,builtinLookup_eq_fast];kernel_rfl) (by decide +kernel) (by decide +kernel) (by decide +kernel)
  (by first|exact .inl (by decide +kernel)|exact .inr (by decide +kernel)) (by rw[isSubtype_type];kernel_rfl)
theorem Uk:typeLookup (.type "function") "__set__" = pure none:=by rw[typeLookup_type,builtinLookup_eq_fast];kernel_rfl
theorem Um:typeLookup (.type "function") "__delete__" = pure none:=by rw[typeLookup_type,builtinLookup_eq_fast];kernel_rfl
end FF
section
variable {g:Array GenState}{d:Drawn}{t:Nat}{os:OsState}
variable {nm q:Str}{N x:Addr}{bs:List ao}{sn:List Str}{sub:List ao}{ab:Bool}{col:Option Bool}{dd:Option Addr}{k0 k1 k2 k3 k5:Option ao}{newId:String}
 {mN mA:Str->Option ao}{name:Str}{v:ao}
theorem e5c {f:Addr}{of:Obj}{tp:ao}  (hfo:h.get? f=some of) (hfc:of.cls=.type "function")
  (hq:R (.ok (.ret (.ref h.objs.size))) ⟨h.push (methodObj (.ref f) (.ref x)),g,d,t,os⟩):codeAny (model prog w) A (.call (.builtin "function.__get__") ⟨[.ref f,.ref x,tp],[]⟩) R ⟨h,g,d,t,os⟩:=by
 refine codeAny_call_builtin KF.slot_fn.plain KF.entry_fn (KF.slot_fn.check _ _ _ _ _ _ _ _ ⟨_,hfo,hfc⟩ (KF.args_fn _ _ _) ?_)
 repeat k_node
 exact hq
set_option tactic.hygienic true in
theorem b9d{tk:Tok}{f dx:Addr}{of:Obj}{Q:Fin->aC->Prop}
  (hC:h.get? C=some (excClassObj nm q C N bs [.type "object"] true sn sub ab col dd k0 k1 k2 k3 k5 newId)) (hn:h.Ns N mN) (hnh:mN "__getattr__" = none) (hf:mN name=some (.ref f)) (hfo:h.get? f=some of) (hfc:of.cls=.type "function")
  (hcn:(["__module__","__name__","__qualname__","__doc__","__annotations__"]:List Str).contains name=false)
  (hB:typeLookup (.type "object") name=pure none) (hx:h.get? x=some o) (hc:o.cls=.ref C) (hnc:∀c,o.data≠.cls c) (hdx:o.dict=some dx) (hns:h.Ns dx mA) (hv:mA name=none) (hq:Q (.done (.ret (.ref h.objs.size))) ⟨h.push (methodObj (.ref f) (.ref x)),g,d,t,os⟩) :
  au (model prog w) A (m6.«proto.getattr_hooked» ⟨[.ref x,.str name tk],[]⟩) Q E ⟨h,g,d,t,os⟩:=by
 have f1:=FF.TQ.lookup;have f2:=FF.Uk;have f3:=FF.Um;have hTf:(⟨h,g,d,t,os⟩:aC).TypeIs (.ref f) "function":=⟨_,hfo,hfc⟩
 unfold m6.«proto.getattr_hooked»
 repeat (first|(with_reducible refine AK hx ?_;rw[hc])|(with_reducible refine Ed hC hn F.mro_object hB ?_;rw[hf])|wp_step)
 split
 ·rename_i c hcd
  exact absurd hcd (hnc c)
 unfold instanceDict
 repeat (first|(with_reducible refine AK hx ?_;rw[hc])|with_reducible refine AK hC ?_|wp_step)
 rw[hdx]
 repeat (first|(with_reducible refine wpAny_nsGet hns ?_;rw[hv])|wp_step)
 rw[hcn,if_neg gP];unfold byTheClass
 repeat (first|assumption|(with_reducible refine Ed hC hn F.mro_object F.lk_object_getattr ?_;rw[hnh])|wp_step)
 refine e5c hfo hfc ?_;exact bF hq
theorem c6a{expr:Bool}{f dx:Addr}{of:Obj}
  (hC:h.get? C=some (excClassObj nm q C N bs [.type "object"] true sn sub ab col dd k0 k1 k2 k3 k5 newId)) (hn:h.Ns N mN) (hng:mN "__getattribute__" = none) (hnh:mN "__getattr__" = none) (hf:mN name=some (.ref f)) (hfo:h.get? f=some of) (hfc:of.cls=.type "function")
  (hcn:(["__module__","__name__","__qualname__","__doc__","__annotations__"]:List Str).contains name=false)
  (hB:typeLookup (.type "object") name=pure none) (hx:h.get? x=some o) (hc:o.cls=.ref C) (hnc:∀c,o.data≠.cls c) (hdx:o.dict=some dx) (hns:h.Ns dx mA) (hv:mA name=none) (hq:Q (.ref h.objs.size) ⟨h.push (methodObj (.ref f) (.ref x)),g,d,t+1,os⟩) :
  au (model prog w) A (getAttr (.ref x) name expr) Q E ⟨h,g,d,t,os⟩:=by
 unfold getAttr getAttrBy
 repeat (first|(with_reducible refine AK hx ?_;rw[hc])|(with_reducible refine Ed hC hn F.mro_object F.lk_object_ga ?_;rw[hng])|wp_step)
 show au _ _ ((runValue (.builtin "proto.getattr_hooked" ⟨[.ref x,.str name t],[]⟩)).onRaise (noteIf true (.ref x) (.str name t))) _ _ _
 refine wpAny_onRaise (wpAny_runValue (codeAny_builtin F.plainObj_entry_getattr_hooked (b9d hC hn hnh hf hfo hfc hcn hB hx hc hnc hdx hns hv ?_)));show au _ _ (handedOut (.ref h.objs.size)) _ _ _;exact bF hq
end
end
namespace FF
theorem g3a (a b:ao):argsOk "iter" ⟨[a,b],[]⟩:=by unfold argsOk;kernel_rfl
theorem Ul:typeLookup (.type "method") "__call__" = pure (some (.builtin "method.__call__")):=by rw[typeLookup_type,builtinLookup_eq_fast];kernel_rfl
end FF
section
variable {B:LB base}
theorem d8r  {fr X:ao}{t:Tok}  (hb:s.heap.get? bm=some (methodObj fr X)) (h:Q (.ref s.heap.objs.size) {s with heap:=s.heap.push (j4 (.ref bm) (.str "" t) false)}) :
  au (model prog w) A (call (.builtin "iter") [.ref bm,.str "" t]) Q E s:=by
 refine call_function_entry (by decide +kernel) (by decide +kernel) kdk_entry_iter (FF.g3a _ _) ?_;unfold m6.«iter»;refine aI (m:=someArgs "iter" 1 2 _) (Ka (a:=[RQ bm,.str "" t]) (by first|rfl|kernel_rfl!) ?_)
 show au _ _ (specialOf (.ref bm) "__call__" >>= _) _ _ _
 refine aI (Ef (T:="method") ⟨_,hb,rfl⟩ FF.Ul ?_)
 show au _ _ (if(Option.isNone (some (ao.builtin "method.__call__")))=true then _ else _) _ _ _
 rw[if_neg (by decide)];refine aI (tE ?_);refine aI ?_;unfold newFields;refine AJ ?_ (by size_fits);exact bF ⟨_,rfl,h⟩
theorem Zt (hiter:cO prog w base "iter" (.builtin "iter")) {of:Obj} (hf:base.get? B.fr=some of) (hfc:of.cls=.type "function") {v:Expr}{y:Str}{ks n:Nat}{m:Int} 
  (hv:Cg env.scope v=some y) (hy:nid Z.ah y=some j) (bH:J.lookup j=some (.mut k)) (hk:O[k]?=some (.obj [kp,ks] m)) (hm:1<=m) (er:ER Z.ah base env J as s.heap) (g:GR (bl B lm P) base O as s.heap)
  (hQ:Post (bl B lm P) base as s (.mut O.length) (O++[.obj [k] (-2)]) Q):au (model prog w) A (eval v env) Q E s:=by
 refine Px hv λp1 p2 p3 p4 p5 kd ev hg UD Vt Vs=>?_;subst ev;refine xQ (qC (Z:=Z) (sc:=env.scope) (by decide) hg ⟨λzz q=>q,λzz q=>q,λzz q=>q⟩ er g hiter ?_);refine g6w (zT _ (by rfl)) ?_;refine evalArgs_plain (uW (S9 (pZ (CG er hy UD Vs bH λu ru=>?_) Vt) rfl) rfl);refine oK λG0 hG=>?_;obtain⟨X,D,PB,F,mA,rfl,hX,hr,I,La⟩:=sC g hk hm ru;obtain⟨o,LI,hc,hnc,hd⟩:=id I;obtain⟨hD,hns⟩:o.dict=some D/\s.heap.Ns D mA:=by
  obtain⟨rs,e1,e2⟩:=g.dQ k _ _ hk hX;rcases e2 with⟨_,x⟩|⟨q,_⟩|⟨q,_⟩|⟨q,_⟩|⟨q,_⟩|⟨q,_⟩|⟨q,_⟩
  ·obtain⟨X',D',PB',F',o',mA',ea,dI,h1,h2,h3,h4,h5,h6,h7⟩:=x
   simp only[uQ,and_true]at ea;obtain⟨rfl,rfl⟩:=ea;rw[LI]at h1;obtain rfl:=aD h1;refine⟨h4,?_⟩;rcases hd with⟨q,_⟩|⟨d,hd1,hd2,Fi⟩
   ·rw[h4]at q;cases q
   ·rw[h4]at hd1;obtain rfl:=aD hd1;exact Fi.ns
  all_goals first|exact F1 q hm (by decide)|exact BI q hm
 obtain⟨hC⟩:=B.cls;refine hG (c6a (g.keep _ _ hC) (Ns.keep B.ns g.keep) B.u5 B.x8 B.read (g.keep _ _ hf) hfc (by decide) (yZ _ (by simp)) LI hc hnc hD hns (La.only _ (by decide) (by decide) (by decide) (by decide)) ?_);refine uW (Ek ?_) rfl;refine uV ?_;have hb:(s.heap.push (methodObj (.ref B.fr) (.ref X))).get? s.heap.objs.size=some (methodObj (.ref B.fr) (.ref X)):=fq _ rfl;refine d8r hb ?_;have hsz:(s.heap.push (methodObj (.ref B.fr) (.ref X))).objs.size=s.heap.objs.size+1:=by simp[S3]
 have hit:((s.heap.push (methodObj (.ref B.fr) (.ref X))).push (j4 (.ref s.heap.objs.size) (.str "" (s.toks+1)) false)).get? (s.heap.objs.size+1)=some (j4 (.ref s.heap.objs.size) (.str "" (s.toks+1)) false):=by
  rw[←hsz];exact fq _ rfl
 have hnone:∀b,s.heap.objs.size<=b->s.heap.get? b=.none:=λb hb=>by
  exact rN hb
 obtain⟨g',go⟩:=g.new (h':=(s.heap.push (methodObj (.ref B.fr) (.ref X))).push (j4 (.ref s.heap.objs.size) (.str "" (s.toks+1)) false)) (aH:=[s.heap.objs.size+1,s.heap.objs.size]) (m:=.obj [k] (-2))
  (λb o e=>cB _ (cB _ e))
  (λa ha=>by
   simp only[bT,ee,or_false]at ha;rcases ha with rfl|rfl
   ·exact hnone _ (by exact iA _)
   ·exact hnone _ (bV _))
  (by simp)
  (λa ha=>by
   simp only[bT,ee,or_false]at ha;rcases ha with rfl|rfl
   ·exact⟨_,hit⟩
   ·exact⟨_,cB _ hb⟩)
  ⟨[X],jJ (by rw[iK (cM.mp hX).1,hX];rfl) rfl,.inr (.inr (.inl ⟨rfl,_,_,X,_,rfl,rfl,hit,cB _ hb⟩))⟩
 refine hQ _ _ _ _ g' go ?_;refine⟨s.heap.objs.size+1,[s.heap.objs.size],?_,by rw[hsz]⟩;rw[fY (by rw[g.len];exact bV _),g.len];simp
end
section
open Builtin Builtin.ObjectAttr
namespace FF
theorem KD:Slot "function" "__setattr__" "object.__setattr__":=
 .of (owner:="object") (n:="__setattr__") (by rw[typeLookup_type,builtinLookup_eq_fast];kernel_rfl) (by decide +kernel) (by decide +kernel) (by decide +kernel)
  (by first|exact .inl (by decide +kernel)|exact .inr (by decide +kernel)) (by rw[isSubtype_type];kernel_rfl)
theorem T5 (self:ao):refuseLoop self "__setattr__" [.type "function",.type "object"]=pure ():=by kernel_rfl
theorem Uc:mroOf (.type "function")=pure [.type "function",.type "object"]:=by kernel_rfl
end FF
section
variable {g:Array GenState}{d:Drawn}{t:Nat}{os:OsState}
theorem b2y {F:Addr}    {v:ao}{tk:Tok}{Q:Fin->aC->Prop} (hx:h.get? F=some o) (hc:o.cls=.type "function") (hdn:o.dict=none) (hcd:o.data=.func fd)
  (hB:typeLookup (.type "function") name=pure none)
  (hq:∀h' tk' FD,h'.get? F=some {cls:=o.cls,dict:=some FD,data:=o.data,slots:=o.slots}->(∀b ob,b≠F->h.get? b=some ob->h'.get? b=some ob)->h.get? FD=none->h'.Ns FD (λy=>if y=name then some v else none)->Q (.done (.ret .none)) ⟨h',g,d,tk',os⟩) :
  au (model prog w) A (m6.«object.__setattr__» ⟨[.ref F,.str name tk,v],[]⟩) Q E ⟨h,g,d,t,os⟩:=by
 have hT:(⟨h,g,d,t,os⟩:aC).TypeIs (.ref F) "function":=⟨_,hx,hc⟩
 have hpass:=FF.T5 (.ref F);have U3:=FF.Uc;unfold m6.«object.__setattr__»
 repeat (first|rw[refuse_eq]|rw[hpass]|rw[U3]|(with_reducible refine AK hx ?_)|wp_step)
 rw[hc];show au _ _ (match o.dict with
       |some d=>pure (some d)
       |none=>
        if(!true||!typeHasDict (.type "function"))=true then pure none
        else
         match o.data with
         |Data.cls c=>pure none
         |x=>do
          let d ←alloc {cls:=Jl "dict",data:=Data.dict #[]}
          update F λo=>{cls:=o.cls,dict:=some d,data:=o.data,slots:=o.slots}
          dictMade (.type "function") F d) _ _ _
 rw[hdn,hcd];show au _ _ (if(!true||!typeHasDict (.type "function"))=true then _ else _) _ _ _
 rw[if_neg (by decide +kernel)];have LJ:(h.push {cls:=.type "dict",data:=.dict #[]}).get? F=some o:=cB _ hx
 have hxs:F≠h.objs.size:=jk (fM hx);refine aI (wpAny_alloc' ?_);refine aI (wpAny_update' LJ ?_);refine bF ?_;have hgd:((h.push {cls:=.type "dict",data:=.dict #[]}).update F λo=>{cls:=o.cls,dict:=some h.objs.size,data:=o.data,slots:=o.slots}).get? h.objs.size
   = some {cls:=.type "dict",data:=.dict #[]}:=
  (Ea _ _ _ _ hxs.symm).trans (Heap.get?_push_at rfl rfl)
 have hnd:((h.push {cls:=.type "dict",data:=.dict #[]}).update F λo=>{cls:=o.cls,dict:=some h.objs.size,data:=o.data,slots:=o.slots}).Ns h.objs.size (λzz=>none):=
  ⟨_,#[],_,hgd,rfl,λe he=>absurd he (by simp),λzz=>rfl⟩
 show au _ _ (storeInDict h.objs.size (.str name tk) name v) _ _ _;unfold storeInDict newKeyGuard;refine aI (bF (aI (wpAny_nsSet1 (g6q hnd) λh' hn' hs=>?_)));obtain⟨oD,esD,epD,UT,Vr,VA⟩:=hn'.count (Within.cons name v Within.nil);refine aI (wpAny_lookBehind UT (by rw[Vr];exact pastItsLine_dict (aV VA (by rw[lT,Av,sizeLine_eq];exact nb rfl))) ?_)
 wp_walk
 refine hq h' _ h.objs.size ?_ (λb ob Fo hb=>?_) (j6 h) ?_
 ·refine(hs.2 F hxs).trans (JY _ LJ ?_)
  have hfr:=(Heap.get?_some_iff.mp hx).2;obtain⟨oc,od,odt,osl⟩:=o;simp only at hcd;subst hcd;rfl
 ·exact(hs.2 b (jk (fM hb))).trans ((Ea _ _ _ _ Fo).trans (cB _ hb))
 ·obtain⟨o',es,ep,e1,e2,e3,eu,e4⟩:=hn'
  exact⟨o',es,ep,e1,e2,e3,λy=>by rw[e4 y]⟩
theorem d4u {F:Addr}    {v:ao}{Q:Unit->aC->Prop} (hx:h.get? F=some o) (hc:o.cls=.type "function") (hdn:o.dict=none) (hcd:o.data=.func fd)
  (hB:typeLookup (.type "function") name=pure none)
  (hq:∀h' tk' FD,h'.get? F=some {cls:=o.cls,dict:=some FD,data:=o.data,slots:=o.slots}->(∀b ob,b≠F->h.get? b=some ob->h'.get? b=some ob)->h.get? FD=none->h'.Ns FD (λy=>if y=name then some v else none)->Q () ⟨h',g,d,tk',os⟩) :
  au (model prog w) A (setAttr (.ref F) name v) Q E ⟨h,g,d,t,os⟩:=by
 have hT:(⟨h,g,d,t+1,os⟩:aC).TypeIs (.ref F) "function":=⟨_,hx,hc⟩
 unfold setAttr;refine aI (wpAny_mkText (aI (xO (name:=lQ "__setattr__") hT FF.KD
  (qY FF.KD hT Jr.entry (b2y hx hc hdn hcd hB λh' tk' FD a b c d=>?_) (Jr.args _ _ _)))))
 exact⟨_,rfl,bF (hq h' tk' FD a b c d)⟩
end
end
structure Ob(lm:iZ)(par0:J5)(sc0:dF):Prop where
 g2u:∀env,defaultsOf par0 env=([],[])
 g2t:∀env,defaultsOf lm.params env=([],[])
 g2x:∀env,closureFor sc0 env=pure []
 g2w:∀env LC,env.cells.lookup ("letters":Str)=some LC->closureFor lm.scope env=pure [(("letters":Str),LC)]
 n1:∀c1:Addr,codeAmong lm.pos [rawInt lm.m9.line,rawInt lm.m9.col,.ref c1]=none
structure Hq(base:Heap)(lm:iZ)(P:Addr)(mg:Str->Option ao)(env:Env):Prop where
 kind:env.scope.kind=.function
 glob:env.globals=gx
 code:∃c,env.code=.ref c/\CodeHd base c P
 g:base.Ns gx mg
 b:base.BuiltinsAt mg P
 off:base.get? P=none
 str:env.kindOf "stream" = some .local
 qual:env.qual++"<lambda>" = lm.qual
theorem BuiltinsAt.keep(x:h.BuiltinsAt mg P)(k:∀b o,h.get? b=some o->h'.get? b=some o):h'.BuiltinsAt mg P:=
 x.imp λzz=>f7 λzz=>lU (lU (lU (lU (qV (k _ _)))))
noncomputable def FZ(lm:iZ)(c1 c2:Addr):Obj:=tabObj #[rawInt lm.m9.line,rawInt lm.m9.col,.ref c1,rawInt lm.pos.line,rawInt lm.pos.col,.ref c2]
noncomputable def Xi (lm:iZ) (LC:Addr) (pm:ao) (cG:Addr) (ctv:ao):Obj:=kla_obj "<lambda>" lm.qual lm.params lm.body lm.scope [("letters",LC)] pm cG ctv
structure BF(lm:iZ)(P L LC:Addr)(m:Str->Option ao)(h h':Heap)(F FD G cG:Addr):Prop where
 same:∀b o,b≠L->b≠P->h.get? b=some o->h'.get? b=some o
 ns:∃m',h'.Ns L m'/\m' "stream" = some (.ref F)
 fn:∃md,r7 h' F FD md/\md "read" = some (.ref G)
 lam:∃pm ctv,h'.get? G=some (Xi lm LC pm cG ctv)
 newF:h.get? F=none
 EI:h.get? FD=none
 EH:h.get? G=none
 nd:[F,FD,G].Nodup
section
theorem ZE{m:Str->Option ao}{ps:Array ao}(hn:h.Ns L m)(hP:h.get? P=some (tabObj ps)):L≠P:=λq=>by
 obtain⟨o,es,ep,e1,e2,_⟩:=hn;rw[q,hP]at e1;cases e1;cases e2
theorem d2i(V:Hq base lm P mg env){p2:Pos}{Q:aC->Prop}{F:Addr}{m:Str->Option ao}{oF:Obj}{v:ao}
  (hns:s.heap.Ns env.locals m) (hm:m "stream" = some (.ref F)) (hF:s.heap.get? F=some oF) (hc:oF.cls=.type "function") (hdn:oF.dict=none) (hcd:oF.data=.func fd)
  (hq:∀h' tk' FD md,r7 h' F FD md->md "read" = some v->(∀b ob,b≠F->s.heap.get? b=some ob->h'.get? b=some ob)->s.heap.get? FD=none->Q {s with heap:=h',toks:=tk'}) :
  au (model prog w) A (eval (.Name "stream" p2) env) (λov sJ=>au (model prog w) A (setAttr ov "read" v) (λzz s'=>Q s') E sJ) E s:=by
 refine pZ (uU V.kind V.str hns hm ?_) (by decide);obtain⟨h,g,d,t,os⟩:=s;refine d4u hF hc hdn hcd FF.EP λh' tk' FD a b c e=>?_;refine hq h' tk' FD _ ⟨⟨fd,oF.slots,?_⟩,e⟩ (by simp) b c;rw[a,hc,hcd]
theorem c6p{par0:J5}{b0:Expr}{sc0:dF}(Sr:Ob lm par0 sc0)(V:Hq base lm P mg env){p1 p2 p3 q1 q2:Pos}{rest:List Stmt}{Q:Flow->aC->Prop}{m:Str->Option ao}
  (kp:∀a o,base.get? a=some o->s.heap.get? a=some o) (hns:s.heap.Ns env.locals m) (hloc:base.get? env.locals=none) (vc:env.cells.lookup ("letters":Str)=some LC) (hP:s.heap.get? P=some (tabObj #[]))
  (hq:∀h' tk F FD G cG c1,BF lm P env.locals LC m s.heap h' F FD G cG->h'.get? P=some (FZ lm c1 cG)->s.heap.get? cG=none->h'.CodeRec (.ref cG) lm.qual->cG∉[F,FD,G]->au (model prog w) A (execs rest env) Q E {s with heap:=h',toks:=tk}) :
  au (model prog w) A (execs (.Assign [.Name "stream" p1] (.Lambda par0 b0 sc0 lm.m9) q1::.Assign [.Attribute (.Name "stream" p2) "read" p3] (.Lambda lm.params lm.body lm.scope lm.pos) q2::rest) env) Q E s:=by
 obtain⟨c,hcode,C⟩:=V.code;have hgP:gx≠P:=λq=>by
  obtain⟨o,es,ep,e,_⟩:=V.g;rw[q,V.off]at e;cases e
 have Fz:env.locals≠P:=ZE hns hP;refine nX (Ko (kla_eval (Sr.g2u env) (kla_makeFunction (mg:=mg) (Sr.g2x env) V.glob (Ns.keep V.g kp) hcode (C.keeps kp) hP (by trivial) (by rfl) hgP (BuiltinsAt.keep V.b kp) λc1 Pr h1 tk1 E0 Vf U7 g7g UI=>?_)) rfl);have k1:∀b o,b≠P->s.heap.get? b=some o->(h1.push (kla_obj "<lambda>" (env.qual++"<lambda>") par0 b0 sc0 [] ((mg "__name__").getD .none) c1 Pr)).get? b=some o:=λb o hb e=>cB _ (E0 b o hb e)
 refine fF (kla_obj "<lambda>" (env.qual++"<lambda>") par0 b0 sc0 [] ((mg "__name__").getD .none) c1 Pr) λoF yj=>?_
 rw[←yj]at k1 ⊢;have VQ:(h1.push oF).get? h1.objs.size=some oF:=fq _ (by rw[yj];rfl);have hfr:∀a,s.heap.objs.size<=a->s.heap.get? a=none:=λa ha=>by
  exact rN ha
 have yi:s.heap.objs.size<=h1.objs.size:=cy (ck Vf U7);have UY:(h1.push oF).Ns env.locals m:=by
  exact Ns.mv hns (k1 _ _ Fz)
 refine Tg V.str UY (λh2 hn2 hs2=>?_) (by rw[V.kind];rfl);have qd:h2.get? P=some (tabObj #[rawInt lm.m9.line,rawInt lm.m9.col,.ref c1]):=(hs2.2 P Fz.symm).trans (cB _ (by simpa using UI));have ET:∀a o,base.get? a=some o->h2.get? a=some o:=λa o e=>(hs2.2 a (λq=>by rw[q,hloc]at e;cases e)).trans (k1 a o (λq=>by rw[q,V.off]at e;cases e) (kp a o e));have Mp:h1.objs.size≠env.locals:=λq=>by
  obtain⟨o,es,ep,e,_⟩:=hns;have:=hfr _ yi;rw[q,e]at this;cases this
 have FH:h2.get? h1.objs.size=some oF:=(hs2.2 _ Mp).trans VQ;refine nX (plainObj_wpAny_Assign_Attribute (kla_eval (Sr.g2t env) (kla_makeFunction (s:={s with heap:=h2,toks:=_}) (mg:=mg) (Sr.g2w env LC vc) V.glob (Ns.keep V.g ET) hcode (C.keeps ET) qd (by trivial) (by simpa using Sr.n1 c1) hgP (BuiltinsAt.keep V.b ET) λcG ctv h3 Ky UA Fe Me LS LK=>?_)) rfl);refine fF (kla_obj "<lambda>" (env.qual++"<lambda>") lm.params lm.body lm.scope [("letters",LC)] ((mg "__name__").getD .none) cG ctv) λoG E8=>?_
 rw[←E8];have k3:∀b o,b≠P->h2.get? b=some o->(h3.push oG).get? b=some o:=λb o hb e=>cB _ (UA b o hb e);have FG:h1.objs.size≠P:=λq=>by
  have:=hfr _ yi;rw[q,hP]at this;cases this
 have tO:(h3.push oG).Ns env.locals (λx=>if x=("stream":Str)then some (.ref h1.objs.size)else m x):=by
  exact Ns.mv hn2 (k3 _ _ Fz)
 have Mn:(h3.push oG).get? h3.objs.size=some oG:=fq _ (by rw[E8];rfl);refine d2i (Q:=λs'=>au (model prog w) A (execs rest env) Q E s') (s:={s with heap:=h3.push oG,toks:=Ky}) V tO (by simp) (k3 _ _ FG FH) (by rw[yj]) (by rw[yj]) (by rw[yj]) λh4 Kw FD md hfd hmd k4 VP=>?_;have E5:h1.objs.size<h2.objs.size:=fM FH;have LP:s.heap.objs.size<=h2.objs.size:=cy (ck yi E5);have LQ:h2.objs.size<=h3.objs.size:=cy (ck Fe Me);have Mm:h3.objs.size≠h1.objs.size:=iW (fk E5 LQ);have Mh:cG≠h1.objs.size:=by
  have:h2.objs.size<=cG:=Fe;exact iW (fk E5 this)
 have Vz:∃o,(h3.push oG).get? cG=some o:=by
  obtain⟨c',o,vs,t,e,ho,_⟩:=LS;cases e;exact⟨o,cB _ ho⟩
 have vd:∀a o,(h3.push oG).get? a=some o->a≠FD:=λa o e q=>by
  have:(h3.push oG).get? FD=none:=VP;rw[←q,e]at this;cases this
 have VJ:P≠h1.objs.size:=FG.symm;refine hq h4 Kw h1.objs.size FD h3.objs.size cG c1 ⟨λb o ni h2' e=>?_,⟨λx=>if x=("stream":Str)then some (.ref h1.objs.size)else m x,?_,?_⟩,⟨md,hfd,hmd⟩,⟨(mg "__name__").getD .none,ctv,?_⟩,hfr _ yi,?_,hfr _ (by exact aV LP LQ),?_⟩ ?_ ?_ ?_ ?_
 ·have VB:b≠h1.objs.size:=λq=>by rw[q,hfr _ yi]at e;exact ns e
  exact k4 b o VB (k3 b o h2' ((hs2.2 b ni).trans (k1 b o h2' e)))
 ·exact Ns.mv tO (k4 _ _ (λq=>Mp q.symm))
 ·simp
 ·rw[k4 _ _ Mm Mn,E8,V.qual];rfl
 ·induction q:s.heap.get? FD using aT with
  |none=>rfl
  |some o=>
   exfalso;by_cases ni:FD=env.locals
   ·obtain⟨o',es,ep,e,_⟩:=tO
    exact vd _ _ e ni.symm
   ·by_cases h2':FD=P
    ·exact vd P _ (cB _ (by simpa using LK)) h2'.symm
    ·exact vd FD o (k3 FD o h2' ((hs2.2 FD ni).trans (k1 FD o h2' q))) rfl
 ·simp only[kh,bT,ee,or_false,not_or,qQ,and_true,not_false_eq_true]
  exact⟨⟨vd _ _ (k3 _ _ FG FH),Mm.symm⟩,λq=>vd _ _ Mn q.symm⟩
 ·refine k4 _ _ VJ ?_
  refine cB _ ?_;simpa[FZ]using LK
 ·exact hfr _ (aV LP Fe)
 ·obtain⟨c',o,vs,t,e,ho,hd,hv⟩:=LS
  cases e;rw[←V.qual];exact⟨cG,o,vs,t,rfl,k4 _ _ Mh (cB _ ho),hd,hv⟩
 ·obtain⟨o,ho⟩:=Vz
  simp only[bT,ee,or_false,not_or];exact⟨Mh,vd _ _ ho,jk Me⟩
end
section
theorem GR.Kr(g:GR Lx base O as h){fr:List Addr}{m:M}(hk:as[k+1]?=some aH)(rq:k<O.length)(hfr:∀a∈fr,Off base as h a)(kp:∀b o,b∉aH->b∉fr->h.get? b=some o->h'.get? b=some o)(al:∀a∈aH,∃o,h'.get? a=some o)
  (hm:Ks as h h'->nT Lx h' as m aH):GR Lx base (O.set k m) as h'/\Ks as h h':=by
 have sub:∀a∈aH,a∈as.flatten:=λa ha=>gO.mpr ⟨aH,g6 hk,ha⟩;have ks:Ks as h h':=λb o hb e hx=>kp b o (λq=>hb (sub b q)) (λq=>by
  obtain⟨xs,n,hd⟩:=hx;obtain⟨_,_,o',e',hs⟩:=hfr b q;rw[e]at e';obtain rfl:=aD e';exact hs xs n hd) e
 have K5:∀b∈as.flatten,b∉fr:=λb hb q=>(hfr b q).1 hb;have alive:∀b∈as.flatten,∃o,h'.get? b=some o:=λb hb=>by
  by_cases q:b∈aH
  ·exact al b q
  ·obtain⟨o,e⟩:=g.alive b hb;exact⟨o,kp b o q (K5 b hb) e⟩
 refine⟨⟨λb o e=>kp b o (λq=>by rw[g.fresh b (sub b q)]at e;exact ns e) (λq=>by rw[(hfr b q).2.1]at e;exact ns e) (g.keep b o e),g.fresh,g.nd,alive,by rw[pN];exact g.len,λj M jY hj iB=>?_⟩,ks⟩;by_cases q:j=k
 ·subst q
  rw[xB rq,j9]at hj;subst hj;rw[hk,j9]at iB;subst iB;exact hm ks
 ·rw[lz (λz=>q z.symm)]at hj
  have hM:=g.dQ j M jY hj iB;have hn:∀a∈jY,a∉aH:=λa ha=>II g iB hk (by exact BJ q) ha;have hn2:∀a∈jY,a∉fr:=λa ha=>K5 a (gO.mpr ⟨jY,g6 iB,ha⟩);exact hM.mv (λb hb o e=>kp b o (hn b hb) (hn2 b hb) e) (λe=>e) (aJ.ks ks)
theorem Off.adopt(x:Off base as h a)(hn:a∉aH):Off base (as++[aH]) h a:=
 ⟨λq=>by
  rw[eN,ic]at q;rcases q with q|q
  ·exact x.1 q
  ·exact hn (by simpa using q),x.2⟩
end
section
variable {B:LB base}
theorem Cn{n:Int}(g:GR (bl B lm P) base O as h)(h0:O[0]?=some (.obj is n))(hn:n = -1∨n = -8∨n = -5):as[1]?=some [P]/\∃rs,oB as is=some rs/\TabAt lm P h [P] rs n:=by
 obtain⟨aH,ha⟩:∃aH,as[1]?=some aH:=by
  have:=(cM.mp h0).1;exact⟨as[1]'(by rw[g.len];exact dc this),qR _⟩
 obtain⟨rs,e1,e2⟩:=g.dQ 0 _ _ h0 ha;rcases e2 with⟨z,_⟩|⟨z,_⟩|⟨z,_⟩|⟨z,_⟩|⟨z,_⟩|⟨_,x⟩|⟨z,_⟩
 all_goals try first|exact T8 hn z|exact BI hn z
 have e:=x.1;subst e;exact⟨ha,rs,e1,x⟩
theorem e3s(g:GR (bl B lm P) base O as h)(kp:∀b o,base.get? b=some o->h.get? b=some o)(hn:h.get? a=none):a∉as.flatten/\base.get? a=none:=
 ⟨λq=>(by obtain⟨o,e⟩:=g.alive a q;rw[hn]at e;exact ns e),by
  induction q:base.get? a using aT with
  |none=>rfl
  |some o=>have:=kp a o q;rw[hn]at this;exact ns this⟩
theorem d9l{F FD:Addr}{md:Str->Option ao}(x:r7 h F FD md):(∃o,h.get? F=some o/\∀xs n,o.data≠.seq xs n)/\∃o,h.get? FD=some o/\∀xs n,o.data≠.seq xs n:=by
 obtain⟨⟨fd,sl,e⟩,hn⟩:=x;exact⟨⟨_,e,λzz zz q=>by cases q⟩,Ns.get hn⟩
theorem c7l{F FD G cG LL:Addr}{m:Str->Option ao}{q1 q2:List Addr}{h0:Heap}(g:GR (bl B lm P) base O as h')(M:BF lm P L LC m h0 h' F FD G cG)(hcell:h'.IsCell LC (some (.ref LL)))
  (oF:F∉as.flatten/\base.get? F=none) (K6:FD∉as.flatten/\base.get? FD=none) (oG:G∉as.flatten/\base.get? G=none) (oC:LC∉as.flatten/\base.get? LC=none) (hC:LC∉[F,FD,G])
  (hl:as[kl+1]?=some (LL::q1)) (hc:as[kc+1]?=some (cG::q2)):GR (bl B lm P) base (O++[.obj [kl,kc] (-3)]) (as++[[F,FD,G,LC]]) h':=by
 obtain⟨md,hfd,hmd⟩:=M.fn;obtain⟨pm,ctv,hG⟩:=M.lam;obtain⟨f1,f2⟩:=d9l hfd;refine g.adopt (m:=.obj [kl,kc] (-3)) (λa ha=>?_) ?_ ⟨[LL,cG],?_,.inr (.inl ⟨rfl,F,FD,G,LC,cG,LL,pm,ctv,md,rfl,rfl,hfd,hmd,hG,hcell⟩)⟩
 ·simp only[bT,ee,or_false]at ha
  rcases ha with rfl|rfl|rfl|rfl
  ·exact⟨oF.1,oF.2,f1⟩
  ·exact⟨K6.1,K6.2,f2⟩
  ·exact⟨oG.1,oG.2,_,hG,λzz zz q=>by cases q⟩
  ·obtain⟨oc,e,hd⟩:=hcell
   exact⟨oC.1,oC.2,oc,e,λzz zz q=>by rw[hd]at q;cases q⟩
 ·have:=M.nd
  simp only[kh,bT,ee,or_false,not_or,qQ,and_true,not_false_eq_true]at this hC ⊢;exact⟨⟨this.1.1,this.1.2,λq=>hC.1 q.symm⟩,⟨this.2,λq=>hC.2.1 q.symm⟩,λq=>hC.2.2 q.symm⟩
 ·exact jJ (by rw[iK (cM.mp hl).1,hl];rfl) (jJ (by rw[iK (cM.mp hc).1,hc];rfl) rfl)
theorem c4w{F FD G cG c1 LL:Addr}{m:Str->Option ao}{q1:List Addr}(g:GR (bl B lm P) base O as h)(h0:O[0]?=some (.obj [] (-1)))(M:BF lm P L LC m h h' F FD G cG)(E1:h'.get? P=some (FZ lm c1 cG))(hnew:h.get? cG=none)(hcode:h'.CodeRec (.ref cG) lm.qual)(Bf:cG∉[F,FD,G])
  (hcell:h.IsCell LC (some (.ref LL))) (oL:Off base as h L) (oC:Off base as h LC) (vc:LC≠L) (hl:as[kl+1]?=some (LL::q1)) :
  GR (bl B lm P) base (O.set 0 (.obj [O.length] (-5))++[.obj [] (-6)]++[.obj [kl,O.length] (-3)]) (as++[[cG]]++[[F,FD,G,LC]]) h':=by
 obtain⟨hP,_⟩:=Cn g h0 (.inl rfl);have Fw:P∈as.flatten:=gO.mpr ⟨[P],g6 hP,by simp⟩;have Vx:LC≠P:=λq=>oC.1 (q▸Fw);have Mw:=(cM.mp h0).1;obtain⟨g1,_⟩:=g.Kr (h':=h') (fr:=[L]) (m:=.obj [] (-8)) hP Mw (λa ha=>by simp only[bK]at ha;subst ha;exact oL)
  (λb o hb hb2 e=>M.same b o (by simpa using hb2) (by simpa using hb) e) (λa ha=>by simp only[bK]at ha;subst ha;exact⟨_,E1⟩)
  (λks=>⟨[],rfl,.inr (.inr (.inr (.inr (.inr (.inl ⟨.inr (.inl rfl),rfl,.inr (.inl rfl)⟩)))))⟩)
 have nn:∀a,h.get? a=none->a∉as.flatten/\base.get? a=none:=λa ha=>e3s g g.keep ha;have kc:∃o,h'.get? cG=some o/\∀xs n,o.data≠.seq xs n:=by
  obtain⟨c,o,vs,t,e,ho,hd,_⟩:=hcode;cases e;exact⟨o,ho,λzz zz q=>by rw[hd]at q;cases q⟩
 have g2:=g1.adopt (aH:=[cG]) (m:=.obj [] (-6)) (λa ha=>by
  simp only[bK]at ha;subst ha;exact⟨(nn _ hnew).1,(nn _ hnew).2,kc⟩) (by simp) ⟨[],rfl,.inr (.inr (.inr (.inr (.inl ⟨rfl,cG,rfl,hcode⟩))))⟩
 have qd:(as++[[cG]])[1]?=some [P]:=by rw[iK (cM.mp hP).1];exact hP
 have hc2:(as++[[cG]])[O.length+1]?=some [cG]:=by rw[fY (by rw[g.len];exact bV _),g.len];simp
 obtain⟨g3,_⟩:=g2.Kr (k:=0) (h':=h') (fr:=[]) (m:=.obj [O.length] (-5)) qd (by simp) (λa ha=>by cases ha)
  (λb o zz zz e=>e) (λa ha=>by simp only[bK]at ha;subst ha;exact⟨_,E1⟩)
  (λks=>⟨[cG],jJ (by rw[hc2];rfl) rfl,.inr (.inr (.inr (.inr (.inr (.inl ⟨.inr (.inr rfl),rfl,.inr (.inr ⟨rfl,c1,cG,rfl,E1⟩)⟩)))))⟩)
 have e1:(O.set 0 (.obj [] (-8))++[Internal.M.obj [] (-6)]).set 0 (.obj [O.length] (-5))=O.set 0 (.obj [O.length] (-5))++[.obj [] (-6)]:=by
  rw[Sp _ _ (by simpa using Mw),xy]
 rw[e1]at g3;have EF:∀a,h.get? a=none->a≠cG->a∉(as++[[cG]]).flatten/\base.get? a=none:=λa ha hne=>⟨λq=>by
  rw[eN,ic]at q;rcases q with q|q
  ·exact(nn a ha).1 q
  ·exact hne (by simpa using q),(nn a ha).2⟩
 simp only[bT,ee,or_false,not_or]at Bf;obtain⟨oc,hoc,hdc⟩:=hcell;refine c7l (q1:=q1) g3 M ⟨oc,M.same LC oc vc Vx hoc,hdc⟩ (EF _ M.newF (λq=>Bf.1 q.symm)) (EF _ M.EI (λq=>Bf.2.1 q.symm)) (EF _ M.EH (λq=>Bf.2.2 q.symm)) ⟨λq=>?_,oC.2.1⟩ (λq=>?_) ?_ hc2
 ·rw[eN,ic]at q
  rcases q with q|q
  ·exact oC.1 q
  ·have q:LC=cG:=by simpa using q
   rw[q,hnew]at hoc;exact ns hoc
 ·simp only[bT,ee,or_false]at q
  rcases q with q|q|q
  ·have:=M.newF;rw[←q,hoc]at this;cases this
  ·have:=M.EI;rw[←q,hoc]at this;cases this
  ·have:=M.EH;rw[←q,hoc]at this;cases this
 ·rw[iK (cM.mp hl).1];exact hl
end
section
theorem b9p  (hz:t.length<=big):dX prog w Lx base n (.type "list") [.str t] O (.mut O.length) (O++[.list (t.map λc=>.str [c])]):=λA E s as vs Q rm g ra hQ=>by
 obtain⟨v,r,rfl,⟨tk,rfl⟩,rfl⟩:=ra;refine call_list_str rm.calm _ _ (λh' tk' acc' c' hk hS' hacc=>?_) (by rw[sizeLine_eq];unfold big at hz;simpa using by exact bz hz);have hr:aJ h' (as++[[s.heap.objs.size]]) (t.map λc=>V.str [c]) acc'.toList:=by
  obtain⟨a1,a2⟩:=hacc;have h1:acc'.toList.length=t.length:=by simpa using a1
  have h2:∀(j:Nat) (v:ao),acc'.toList[j]?=some v->∃c tk,t[j]?=some c/\v=.str ⟨#[c]⟩ tk:=λj v hv=>by
   obtain⟨c,u,hc,rfl⟩:=a2 j v (by simpa using hv);exact⟨c,u,by simpa using hc,rfl⟩
  clear hS' hQ hz a1 a2;generalize acc'.toList=l at h1 h2;induction t generalizing l with
  |nil=>
   have:l=[]:=xD (by simpa using h1);subst this;exact rfl
  |cons c t ih=>
   induction l using aN with
   |nil=>simp at h1
   |cons v l=>
    obtain⟨c',Kz,e1,rfl⟩:=h2 0 v (by simp);simp only[SI,j9]at e1;subst e1;refine aJ.cons (⟨Kz,rfl⟩) (ih l (by simpa using h1) λj v hv=>?_);simpa using h2 (j+1) v (by simpa using hv)
 obtain⟨g',go⟩:=g.new (h':=h') (aH:=[s.heap.objs.size]) (m:=.list (t.map λc=>V.str [c])) hk (λa ha=>by simp only[bK]at ha;subst ha;exact j6 _) (by simp)
  (λa ha=>by simp only[bK]at ha;subst ha;exact⟨_,hS'⟩) ⟨_,acc'.toList,rfl,⟨c',by simpa using hS'⟩,hr⟩
 refine hQ _ _ h' tk' g' go ?_;refine⟨s.heap.objs.size,[],?_,rfl⟩;rw[fY (by rw[g.len];exact bV _),g.len];simp
end
structure yK(base:Heap)(lm:iZ)(P:Addr)(ah:List Str)(jt jl il:Nat) where
 a:Addr
 o:Obj
 fd:qT
 mg:Str->Option ao
 s1:Stmt
 par0:J5
 b0:Expr
 sc0:dF
 p1:Pos
 p2:Pos
 p3:Pos
 q1:Pos
 q2:Pos
 rest:List Stmt
 at':base.get? a=some o
 data:o.data=.func fd
 code:base.CodeRec fd.code fd.qualname
 head:∃c,fd.code=.ref c/\CodeHd base c P
 body:fd.body=.stmts (s1::.Assign [.Name "stream" p1] (.Lambda par0 b0 sc0 lm.m9) q1::.Assign [.Attribute (.Name "stream" p2) "read" p3] (.Lambda lm.params lm.body lm.scope lm.pos) q2::rest)
 src:Ob lm par0 sc0
 glob:fd.globals=gx
 built:fd.builtins=i9
 clos:fd.closure=[]
 coro:fd.scope.isCoroutine=false
 gen:fd.scope.isGenerator=false
 kind:fd.scope.kind=.function
 qual:fd.qualname++".<locals>."++"<lambda>" = lm.qual
 bind:∀vals:List ao,vals.length=[("text":Str)].length->bindArgs fd ⟨vals,[]⟩=pure ([("text":Str)].zip vals)
 text:nid ah "text" = some jt
 letters:nid ah "letters" = some jl
 stream:(nid ah "stream").isSome=true
 ktext:fd.scope.names.lookup ("text":Str)=some fU.local
 kletters:fd.scope.names.lookup ("letters":Str)=some g4u
 kstream:fd.scope.names.lookup ("stream":Str)=some fU.local
 nofree:∀p∈fd.scope.names,p.2≠.free
 own:∀x,cS fd.scope x=true->(nid ah x).isSome=true
 calm:∀L,interactive (dz fd L a)=false
 tr:∃mt k,lW ah mt k fd.scope s1=some (.assign jl (.call il [.slc (.loc jt) .none .none (some (.neg (.cst (.int 1))))]))
 ne:jt≠jl
 g:base.Ns gx mg
 b:base.BuiltinsAt mg P
section
variable {B:LB base}{jt jl il:Nat}
theorem c9m(hz:t.length<=big):slice (.str t) .none .none (some (-1))=some (.str t.reverse):=by
 have e:((dw t.length).map λk=>t.length-1-k).filterMap (t[·]?)=t.reverse:=by
  rw[List.filterMap_map];have:∀k∈dw t.length,((t[·]?)∘λk=>t.length-1-k) k=some (t.reverse.getD k 0):=λk hk=>by
   have hk:k<t.length:=by simpa using hk
   have h2:t.length-1-k<t.length:=TV (Nat.sub_one_lt_of_lt hk);simp only[Function.comp_apply,qR h2,xC];rw[List.getElem?_reverse hk,qR h2];rfl
  have e2:∀l:List Nat,(∀k∈l,((t[·]?)∘λk=>t.length-1-k) k=some (t.reverse.getD k 0))->l.filterMap ((t[·]?)∘λk=>t.length-1-k)=l.map λk=>t.reverse.getD k 0:=λl=>by
   induction l with
   |nil=>intro _;rfl
   |cons a l ih=>
    intro h;rw[SN,h a (by simp),fm,ih λk hk=>h k (by simp[hk])]
  rw[e2 _ this];refine List.ext_getElem (by simp) λj h1 h2=>?_;simp at h1;simp[h1]
 unfold slice;rw[if_neg (by decide)];simp only[R2,picked_rev,e];rw[if_pos ⟨hz,by simpa using hz⟩,if_neg (λq=>by rw[jm]at q;exact absurd q.1 (by decide))]
theorem Uh{o:Option M}{q:Option (Nat×Mu)}{r:Nat×Mu}{G:Prop}(h:(match o with|some (.obj [] (-1))=>q|_=>.none)=some r)(k1:o=some (.obj [] (-1))->q=some r->G):G:=by
 induction o using aT with
 |none=>exact ns h
 |some m=>induction m using Internal.M.casesOn with
  |list _=>exact ns h
  |dict _=>exact ns h
  |obj is n=>induction n using s8 with
   |ofNat _=>induction is using aN<;>exact ns h
   |negSucc m=>induction is using aN with
    |nil=>induction m using eG with
     |zero=>exact k1 rfl h
     |succ _=>exact ns h
    |cons a is=>exact ns h
theorem Xo{p:Addr->Prop}{b c d:Addr}(h1:p a)(h2:p b)(h3:p c)(h4:p d):∀x∈([[a,b,c,d]]:List (List Addr)).flatten,p x:=
 uP.mpr ⟨h1,uP.mpr ⟨h2,uP.mpr ⟨h3,uP.mpr ⟨h4,λzz h=>nomatch h⟩⟩⟩⟩
theorem Xn{p:Addr->Prop}{e b c d:Addr}(h0:p e)(h1:p a)(h2:p b)(h3:p c)(h4:p d):∀x∈([[e]]++[[a,b,c,d]]:List (List Addr)).flatten,p x:=
 uP.mpr ⟨h0,Xo h1 h2 h3 h4⟩
theorem c0o(S:cj prog w (bl B lm P) base Z)(hoff:Z.fB=false)(nd:c7 Z.ah)(hbig:base.NoLimit)
  (Fb:∀n t O,t.length<=big->Z.call n il [.str t] O=some (.mut O.length,O++[.list (t.map λc=>.str [c])])) (T:yK base lm P Z.ah jt jl il) (Fv:base.get? P=none)
  {t:List Nat}{ks:Nat}{ai:Mu}{tv:ao}{R:xe->aC->Prop} (ht:zV O t=some (ks,ai)) (rm:Rm A s 11) (g:GR (bl B lm P) base O as s.heap) (rt:Rep s.heap as (.str t) tv)
  (hR:∀(L:Addr) (m':Str->Option ao) (as':List (List Addr)) (h':Heap) (tk:Nat) (F:Addr) (q:List Addr),GR (bl B lm P) base ai as' h'->Go as s.heap as' h'->as'[ks+1]?=some (F::q)->h'.Ns L m'->L∉as'.flatten->s.heap.get? L=none->(dz T.fd s.heap.objs.size T.a).locals=L->m' "stream" = some (.ref F) →
   ∀E,au (model prog w) (A.deeper (dz T.fd s.heap.objs.size T.a)) (execs T.rest (dz T.fd s.heap.objs.size T.a)) (λf s'=>R (.ok (.ret (match f with|.ret v=>v|_=>.none))) s') E {s with heap:=h',toks:=tk}) :
  codeAny (model prog w) A (.call (.ref T.a) ⟨[tv],[]⟩) R s:=by
 have hz:t.length<=big:=aL ht λhz zz=>hz;have bk:∀env s',1<=s'.toks->Rm (A.deeper env) s' 10:=λenv s' ht=>⟨⟨rm.calm,by show A.depth+1+10<=900;exact rm.depth,by show A.units+3+10*10<=9000;exact xX rm.units⟩,ht⟩;have hkn:∀x∈[("text":Str)],T.fd.scope.names.lookup x=some .local∨T.fd.scope.names.lookup x=some .cell:=λx hx=>by rw[bK]at hx;subst hx;exact .inl T.ktext
 refine DA rm.tk (by have:=rm.depth;show A.depth<1000;exact bz (lX this)) (g.keep _ _ T.at') T.data (hbig.keeps λb o e=>g.keep b o e) (T.code.keeps λb o e=>g.keep b o e) T.body (T.bind [tv] rfl) T.clos (λx hx=>?_) T.coro T.gen T.kind λsI hpos x E=>?_
 ·rcases hkn x.1 (JL hx).1 with q|q
  ·exact .inl q
  ·exact .inr ⟨q,Af _ _ _ q⟩
 obtain⟨hY,dh,eI,hkeep⟩:=x.done;have gI:GR (bl B lm P) base O as sI.heap/\Go as s.heap as sI.heap:=g.all λa o zz e=>x.toInCall.keep a o e;obtain⟨gI,aM⟩:=gI;have er:=CZ (ah:=Z.ah) (names:=["text"]) (is:=[jt]) (args:=[.str t]) (vals:=[tv]) (a:=T.a) T.kind T.glob T.built T.nofree (by decide) (jJ T.text rfl) x rfl g (aJ.cons (rt.go aM) .nil)
 refine fF (dz T.fd s.heap.objs.size T.a) λenv iN=>?_;have hwf:∀b,Wf Z.ah env b->s.heap.get? b=.none:=by
  intro b hb;have:s.heap.objs.size<=b:=by
   rw[iN]at hb;rcases hb with rfl|⟨i,y,_,_,hc⟩
   ·exact x.toInCall.fresh
   ·exact cy (ck x.toInCall.fresh (x.above _ _ (mem_of_lookup hc)))
  exact rN this
 rw[←iN]at er hR ⊢;rw[eI];rw[eI]at gI er hpos;obtain⟨mt,k,tr⟩:=T.tr;have hsc:env.scope=T.fd.scope:=by rw[iN];rfl
 rw[←hsc]at tr;have UH:([(jt,V.str t)]:aB).lookup jt=some (.str t):=by simp[SA]
 have step:aQ Z 10 (.assign jl (.call il [.slc (.loc jt) .none .none (some (.neg (.cst (.int 1))))])) [(jt,.str t)] O=some (.next,put jl (.mut O.length) [(jt,.str t)],O++[.list (chars t)]):=by
  have e:ev Z 9 (.slc (.loc jt) .none .none (some (.neg (.cst (.int 1))))) [(jt,.str t)] O=some (.str t.reverse,O):=by
   have e0:ev Z 8 (.loc jt) [(jt,.str t)] O=some (.str t,O):=congrArg (qK (·,O)) UH;rw[NY,e0];exact congrArg (qK (·,O)) (c9m hz)
  rw[De];rw[show ev Z 10 (.call il [.slc (.loc jt) .none .none (some (.neg (.cst (.int 1))))]) [(jt,.str t)] O=Z.call 9 il [.str t.reverse] O from by
   show(match bU (λx O=>ev Z 9 x [(jt,.str t)] O) [.slc (.loc jt) .none .none (some (.neg (.cst (.int 1))))] O with|some (vs,O)=>Z.call 9 il vs O|.none=>.none)=_
   rw[show bU (λx O=>ev Z 9 x [(jt,.str t)] O) [.slc (.loc jt) .none .none (some (.neg (.cst (.int 1))))] O=some ([.str t.reverse],O)from by
    show(match (generalizing:=false) ev Z 9 (.slc (.loc jt) .none .none (some (.neg (.cst (.int 1))))) [(jt,.str t)] O with|some (v,O)=>(match (generalizing:=false) (some ([],O):Option (List V×Mu))with|some (vs,O)=>some (v::vs,O)|.none=>cZ)|.none=>cZ)=_
    rw[e]]]
  rw[Fb 9 t.reverse O (by simpa using hz)];rfl
 refine nX (Ik S nd (By hoff 10) (wQ S nd (By hoff) 10) tr (by rw[hsc];exact T.own) (by rw[iN];exact T.calm _) (bk env _ hpos) ⟨λzz q=>q,λzz q=>q,λzz q=>q⟩ er gI step λfl cz hJ dN gJ bI dS fr=>?_);induction fl using mS<;>try exact fr.elim
 refine oK λG0 hG=>?_;have rq:env.kindOf "letters" = some .cell:=by rw[iN];exact T.kletters
 obtain⟨LC,u,vc,VN,VO,hcell,hval⟩:=bI.jr jl "letters" (fQ T.letters) (.inl rq)
 obtain⟨u',rfl,hu⟩:=hval (.mut O.length) (by rw[gi,if_pos rfl]);obtain⟨LL,q1,yw,rfl⟩:=hu;obtain⟨m,hns,_⟩:=bI.loc;have oL:Off base cz hJ env.locals:=⟨bI.off.1,bI.off.2,Ns.get hns⟩;have oC:Off base cz hJ LC:=⟨VN,VO,by obtain⟨oc,e,hd⟩:=hcell;exact⟨oc,e,λzz zz q=>by rw[hd]at q;cases q⟩⟩;have Mk:LC≠env.locals:=λq=>by
  obtain⟨oc,e,hd⟩:=hcell;obtain⟨o,es,ep,e1,e2,_⟩:=hns;rw[q,e1]at e;cases e;rw[e2]at hd;cases hd
 have V:Hq base lm P T.mg env:=⟨bI.kind,bI.glob,by rw[iN];exact T.head,T.g,T.b,Fv,by rw[iN];exact T.kstream,by rw[iN];exact T.qual⟩;have Ml:s.heap.get? env.locals=none:=hwf _ (.inl rfl);have VW:s.heap.get? LC=none:=hwf _ (.inr ⟨jl,"letters",fQ T.letters,.inl rq,vc⟩)
 obtain⟨nw,hnw,UU⟩:=dS.ext;have V5:∀{as':List (List Addr)}{h':Heap}{qZ:List (List Addr)}{F FD G cG:Addr}{kj:Mu},GR (bl B lm P) base kj as' h'->BF lm P env.locals LC m hJ h' F FD G cG->as[1]?=some [P]->as'=cz++qZ->(∀a∈qZ.flatten,hJ.get? a=none∨a=LC)->Go as s.heap as' h':=by
  intro as' h' qZ F FD G cG kj g' MD hP ha hn;have VH:P∈as.tail.flatten:=gO.mpr ⟨[P],by
   have:as.tail[0]?=some [P]:=by rw[SH];exact hP
   exact g6 this,by simp⟩
  have Lo:∀a o,a∉as.tail.flatten->s.heap.get? a=some o->hJ.get? a=some o:=λa o ha e=>
   dS.keep a o ha (λq=>by rw[hwf a q]at e;exact ns e) (by have:=x.toInCall.keep a o e;rw[eI]at this;exact this)
  refine⟨⟨nw++qZ,by rw[ha,hnw,f5],λa ha=>?_⟩,λa o ha e=>?_,g'.alive⟩
  ·rw[eN,ic]at ha
   rcases ha with ha|ha
   ·induction q:s.heap.get? a using aT with
    |none=>rfl
    |some o=>have:=UU a ha;have k:=x.toInCall.keep a o q;rw[eI]at k;simp only at this;rw[k]at this;cases this
   ·rcases hn a ha with hn|hn
    ·induction q:s.heap.get? a using aT with
     |none=>rfl
     |some o=>
      by_cases hin:a∈as.tail.flatten
      ·obtain⟨o',e'⟩:=gJ.alive a (by rw[hnw,eN];exact uN _ (wJ hin))
       rw[hn]at e';exact ns e'
      ·rw[Lo a o hin q]at hn;cases hn
    ·rw[hn];exact VW
  ·exact MD.same a o (λq=>by rw[q,Ml]at e;exact ns e) (λq=>ha (q▸VH)) (Lo a o ha e)
 have hlen2:cz.length=O.length+2:=by rw[gJ.len];simp
 have VM:∀{as':List (List Addr)}{qZ:List (List Addr)},as'=cz++qZ->(∀a∈qZ.flatten,hJ.get? a=none∨a=LC)->env.locals∉as'.flatten:=by
  intro as' qZ ha hn q;rw[ha,eN,ic]at q;rcases q with q|q
  ·exact oL.1 q
  ·rcases hn _ q with hn|hn
   ·obtain⟨o,es,ep,e1,_⟩:=hns
    rw[hn]at e1;exact ns e1
   ·exact Mk hn.symm
 refine Uh (o:=O[0]?) ((if_pos hz).symm.trans ht) (λh0 ht=>sp ht ?_)<;>clear ht
 ·intro e1 e2
  have h0':(O++[Internal.M.list (chars t)])[0]?=some (.obj [] (-1)):=by rw[iK (cM.mp h0).1];exact h0
  obtain⟨rB,rs,_,hT⟩:=Cn gJ h0' (.inl rfl);have VI:as[1]?=some [P]:=(Cn g h0 (.inl rfl)).1;have htab:hJ.get? P=some (tabObj #[]):=by
   rcases hT.2 with⟨_,z⟩|z|⟨z,_⟩
   ·exact z
   ·exact absurd z (by decide)
   ·exact absurd z (by decide)
  refine hG ?_;refine c6p (s:={s with heap:=hJ,toks:=dN}) (m:=m) T.src V gJ.keep hns oL.2.1 vc htab λh' tk F FD G cG c1 MD VK Mg hcode Vy=>?_;have hg:=c4w gJ h0' MD VK Mg hcode Vy hcell oL oC Mk yw;have hnn:=Xn (p:=λa=>hJ.get? a=none∨a=LC) (.inl Mg) (.inl MD.newF) (.inl MD.EI) (.inl MD.EH) (.inr rfl);have Gu:Sq (O++[Internal.M.list (chars t)]) 0 (.obj [uO (O++[Internal.M.list (chars t)])] (-5))++[Internal.M.obj [] (-6)]++[Internal.M.obj [O.length,uO (O++[Internal.M.list (chars t)])] (-3)]=O.set 0 (.obj [O.length+1] (-5))++[.list (chars t),.obj [] (-6),.obj [O.length,O.length+1] (-3)]:=by
   rw[Sp _ _ (cM.mp h0).1];simp
  obtain⟨m',hn',hs'⟩:=MD.ns;refine hR env.locals m' _ h' tk F [FD,G,LC] ((Gu.trans e2)▸hg) (V5 hg MD VI (f5 _ _ _) hnn) ?_ hn' (VM (f5 _ _ _) hnn) Ml rfl hs' _;rw[←e1,fY (by simp[hlen2]),cA,hlen2];simp
end
section
variable {B:LB base}{jt jl il:Nat}
theorem d3s(S:cj prog w (bl B lm P) base Z)(hoff:Z.fB=false)(nd:c7 Z.ah)(hbig:base.NoLimit)
  (Fb:∀n t O,t.length<=big->Z.call n il [.str t] O=some (.mut O.length,O++[.list (t.map λc=>.str [c])])) (T:yK base lm P Z.ah jt jl il) (Fv:base.get? P=none)
  {p q:Pos} (hrest:T.rest=[.Return (some (.Name "stream" p)) q]) {t:List Nat}{ks:Nat}{ai:Mu} (ht:zV O t=some (ks,ai)):xM prog w (bl B lm P) base 11 (.ref T.a) [.str t] O (.mut ks) ai:=by
 intro A R s as vs rm g ra hQ;obtain⟨tv,r,rfl,rt,rfl⟩:=ra;refine c0o S hoff nd hbig Fb T Fv ht rm g rt λL m' as' h' tk F q g' go' hF hn zz zz hL hs E=>?_;rw[hrest];refine nX (Tt (pZ (uU (m:=m') (by exact T.kind) (by exact T.kstream) (by rw[hL];exact hn) hs ?_) (by decide)));exact hQ _ as' h' tk g' go' (⟨F,q,hF,rfl⟩)
noncomputable def IM:List Str:=["lineno","instream","whitespace","pushback"]
structure uR(C:Addr)(h:Heap)(X D:Addr)(mA:Str->Option ao):Prop where
 obj:∃o,h.get? X=some o/\o.cls=.ref C/\(∀c,o.data≠.cls c)/\o.dict=some D/\∀xs n,o.data≠.seq xs n
 ne:D≠X
 ns:h.Ns1 D mA
 few:∀y,mA y≠none->y∈IM
theorem uR.inst{X:Addr}(x:uR C h X D mA):h.Inst X C mA:=
 x.obj.imp λzz y=>⟨y.1,y.2.1,y.2.2.1,.inr ⟨D,y.2.2.2.1,x.ne,x.ns⟩⟩
theorem Du {X:Addr}   {v:ao}{Q:Unit->aC->Prop} (hname:name = "lineno" ∨ name = "instream" ∨ name = "whitespace" ∨ name = "pushback") (kp:∀a o,base.get? a=some o->s.heap.get? a=some o) (x:uR B.C s.heap X D mA) (rA:X≠B.C)
  (hq:∀h' tk,uR B.C h' X D (λy=>if y=name then some v else mA y)->(∀b o,b≠X->b≠D->s.heap.get? b=some o->h'.get? b=some o)->Q () {s with heap:=h',toks:=tk}):au (model prog w) A (setAttr (.ref X) name v) Q E s:=by
 obtain⟨hC⟩:=B.cls;obtain⟨o,hX,hc,hnc,hd,UJ⟩:=x.obj;have hin:name∈IM:=bT.mpr (hname.imp_right λh=>bT.mpr (h.imp_right λh=>bT.mpr (h.imp_right bK.mpr)));refine store_attr Jr (kp _ _ hC) (Ns.keep B.ns kp) B.xZ (B.own _ hname) (yZ _ (hname.imp_right (DU (DU .inl)))) rA x.inst (λh' tk' I' hk' hsame=>?_) (ns:=IM) x.few (nb rfl);obtain⟨oI,rj,Fj,Be,_,yq⟩:=hsame o hX;have hdo:=yq D hd;refine hq h' tk' ⟨⟨oI,rj,by rw[Fj,hc],by rw[Be];exact hnc,hdo,by rw[Be];exact UJ⟩,x.ne,?_,λy hy=>?_⟩ λb ob h1 h2 e=>hk' b ob h1 (λoO dx e0 e1=>?_) e
 ·obtain⟨o',h1,h2,h3,h4⟩:=I'
  rw[rj]at h1;obtain rfl:=aD h1;rcases h4 with⟨q,_⟩|⟨d,q1,q2,q3⟩
  ·rw[hdo]at q;cases q
  ·rw[hdo]at q1;obtain rfl:=aD q1;exact q3
 ·by_cases hy':y=name
  ·rw[hy'];exact hin
  ·exact x.few y (by simpa[hy']using hy)
 ·rw[hX]at e0;obtain rfl:=aD e0
  rw[hd]at e1;obtain rfl:=aD e1;exact h2
end
structure ur{base:Heap}(B:LB base) where
 fi:Addr
 o:Obj
 fd:qT
 pos:Nat->Pos
 kd:Nat->Nat
 at':base.get? fi=some o
 cls:o.cls=.type "function"
 data:o.data=.func fd
 code:base.CodeRec fd.code fd.qualname
 body:fd.body=.stmts [.Assign [.Attribute (.Name "self" (pos 0)) "lineno" (pos 1)] (.Constant (.int 1) (kd 0) (pos 2)) (pos 3),
  .Assign [.Attribute (.Name "self" (pos 4)) "instream" (pos 5)] (.Name "fp" (pos 6)) (pos 7),
  .Assign [.Attribute (.Name "self" (pos 8)) "whitespace" (pos 9)] (.Constant (.str (txt ws)) (kd 1) (pos 10)) (pos 11),
  .Assign [.Attribute (.Name "self" (pos 12)) "pushback" (pos 13)] (.List [] (pos 14)) (pos 15)]
 clos:fd.closure=[]
 coro:fd.scope.isCoroutine=false
 gen:fd.scope.isGenerator=false
 kind:fd.scope.kind=.function
 bind:∀a b:ao,bindArgs fd ⟨[a,b],[]⟩=pure [(("self":Str),a),(("fp":Str),b)]
 kself:fd.scope.names.lookup ("self":Str)=some fU.local
 kfp:fd.scope.names.lookup ("fp":Str)=some fU.local
 init:B.mN "__init__" = some (.ref fi)
theorem EJ{b:Addr}(h:@Ne Nat a b):a≠b:=h
theorem c6f:typeLookup (.type "object") "__init__" = pure (some (.builtin "object.__init__")):=by rw[typeLookup_type,builtinLookup_eq_fast];kernel_rfl
section
variable {B:LB base}
theorem Makes.keep(Y:Makes (model prog w) h C)(k:∀b o,h.get? b=some o->h'.get? b=some o):Makes (model prog w) h' C where
 obj:=Y.obj.imp λzz=>f7 λzz=>f7 λzz=>f7 λzz=>qV (k _ _)
 made:=Y.made.keeps k
 base:=Y.base.keeps k
 self:=Y.self.keeps k
 top:=Y.top.keeps k
 call:=Y.call.keeps k
 typ:=Y.typ.keeps k
theorem c8s (I:ur B)  (k:∀b o,base.get? b=some o->h.get? b=some o):Looks (model prog w) h (typeLookup (.ref B.C) "__init__") (some (.ref I.fi)):=by
 intro A Q E s ks q;obtain⟨hC⟩:=B.cls;obtain⟨hh,g,d,t,os⟩:=s;refine Ed (ks _ _ (k _ _ hC)) (Ns.keep (Ns.keep B.ns k) ks) F.mro_object c6f ?_;rw[I.init];exact q
theorem d0h(I:ur B)(k:∀b o,base.get? b=some o->h.get? b=some o)(self:ao):Looks (model prog w) h (bindSpecial (.ref I.fi) self) (.ref I.fi,[self]):=by
 have ht:Looks (model prog w) h (typeOf (.ref I.fi)) (.type "function"):=by
  rw[←I.cls];exact(Looks.ld (k _ _ I.at')).andThen .now
 unfold bindSpecial;exact ht.andThen (g4w (by kernel_rfl))
theorem Ig{X:Addr}{m:Str->Option ao}(hns:h.Ns L m)(h1:L≠X)(h2:L≠D)(s:∀b o,b≠X->b≠D->h.get? b=some o->h'.get? b=some o):h'.Ns L m:=Ns.mv hns (s _ _ h1 h2)
theorem Im(hbn:∀a:Nat,n<=a->base.get? a=none)(s:∀b o,b≠n+1->b≠n->h.get? b=some o->h'.get? b=some o)(kb:∀b o,base.get? b=some o->h.get? b=some o):∀b o,base.get? b=some o->h'.get? b=some o:=λb o e=>
 s b o (λq=>ns ((hbn _ (iA n)).symm.trans (q▸e))) (λq=>ns ((hbn _ (bV n)).symm.trans (q▸e))) (kb b o e)
theorem d9d {h7:Heap}{PB F:Nat}{ks:Nat}{qF:List Addr}  (g:GR (bl B lm P) base O as h) (hbn:∀a:Nat,h.objs.size<=a->base.get? a=none) (A5:∀b o,h.get? b=some o->h7.get? b=some o) (A8:h7.get? PB=some {cls:=.type "list",data:=.seq ([]:List ao).toArray}) (Fx:@LT.lt Nat _ (h.objs.size+1) PB) (hF:as[ks+1]?=some (F::qF)) (L7:uR B.C h7 (h.objs.size+1) h.objs.size mA) (La:wN mA PB F 1) :
  ∃as',GR (bl B lm P) base (O++uv O.length ks) as' h7/\Go as h as' h7/\Rep h7 as' (.mut (O.length+1)) (.ref (h.objs.size+1)):=by
 have hnone:∀a:Nat,h.objs.size<=a->h.get? a=none:=λa ha=>rN ha;have yu:@LE.le Nat _ h.objs.size PB:=cy (jP Fx);obtain⟨g1,go1⟩:=g.new (h':=h7) (aH:=[PB]) (m:=.list []) A5 (λa ha=>bK.mp ha▸hnone _ yu) (kh.mpr ⟨ee,qQ⟩)
  (λa ha=>bK.mp ha▸⟨_,A8⟩) ⟨PB,[],rfl,⟨0,A8⟩,.nil⟩
 have off:∀a:Nat,h.objs.size<=a->a≠PB->a∉(as++[[PB]]).flatten/\base.get? a=none:=λa ha hne=>⟨λq=>by
  rw[eN,ic]at q;rcases q with q|q
  ·obtain⟨o,e⟩:=g.alive a q
   have:@LT.lt Nat _ a h.objs.size:=fM e;exact absurd ha (Am.mpr this)
  ·exact hne (by simpa using q),hbn a ha⟩
 obtain⟨oX,eX,Vw,U0,Vq,hXk⟩:=L7.obj;have VS:∃o,h7.get? h.objs.size=some o/\∀xs n,o.data≠.seq xs n:=Ns.get L7.ns.ns;have g2:GR (bl B lm P) base _ _ h7:=g1.adopt (aH:=[h.objs.size+1,h.objs.size]) (m:=.obj [O.length,ks] 1) (λa ha=>by
   simp only[bT,ee,or_false]at ha;rcases ha with rfl|rfl
   ·exact⟨(off _ (by exact iA _) (jk Fx)).1,hbn _ (by exact iA _),oX,eX,hXk⟩
   ·exact⟨(off _ (by exact bV _) (jk (jP Fx))).1,hbn _ (by exact bV _),VS⟩) (by simp) ⟨[PB,F],by
   have e1:(as++[[PB]]++[[h.objs.size+1,h.objs.size]])[O.length+1]?=some [PB]:=by
    rw[f5,fY (by rw[g.len];exact bV _),g.len];simp
   have e2:(as++[[PB]]++[[h.objs.size+1,h.objs.size]])[ks+1]?=some (F::qF):=by
    rw[f5,iK (cM.mp hF).1];exact hF
   exact jJ (by rw[e1];rfl) (jJ (by rw[e2];rfl) rfl),.inl ⟨by decide,h.objs.size+1,h.objs.size,PB,F,oX,_,rfl,rfl,eX,Vw,U0,Vq,EJ (by exact MK),L7.ns,La⟩⟩
 have Gu:O++[Internal.M.list []]++[Internal.M.obj [O.length,ks] 1]=O++uv O.length ks:=f5 _ _ _;refine⟨_,Gu▸g2,⟨⟨[[PB],[h.objs.size+1,h.objs.size]],f5 _ _ _,λa ha=>?_⟩,λb o zz e=>A5 b o e,g2.alive⟩,h.objs.size+1,[h.objs.size],?_,rfl⟩
 ·simp only[ki,D6,gm,JU,JN,bT,ee,or_false]at ha
  exact ha.elim (λe=>e▸hnone _ yu) λha=>ha.elim (λe=>e▸hnone _ (iA _)) λe=>e▸hnone _ (bV _)
 ·rw[fY (by rw[cA,g.len];exact bV _),cA,g.len,show O.length+1+1-(O.length+1+[[PB]].length)=0 from jy _];rfl
theorem d6w(Y:Makes (model prog w) base B.C)(I:ur B)(hbig:base.NoLimit){ks:Nat}{v:ao}(hd:A.depth<990)(hh:A.handled=.none)(g:GR (bl B lm P) base O as s.heap)(hs:O[ks]?=some (.obj [kl,kc] (-3)))(rv:Rep s.heap as (.mut ks) v)
  (hQ:Post (bl B lm P) base as s (.mut (O.length+1)) (O++uv O.length ks) λv s'=>R (.ok (.ret v)) s') :
  codeAny (model prog w) A (.call (.ref B.C) ⟨[v],[]⟩) R s:=by
 obtain⟨h,gg,d,t,os⟩:=s;obtain⟨F,qF,hF,rfl⟩:=rv;have kp:=g.keep;refine make_core (Internal.Makes.keep Y kp) (c8s I kp) (λself=>d0h I kp self) (.inl rfl) ?_;have k1:∀b o,h.get? b=some o->((h.push emptyDict).push (instObj B.C h.objs.size)).get? b=some o:=λb o e=>cB _ (cB _ e);have hx:((h.push emptyDict).push (instObj B.C h.objs.size)).get? (h.objs.size+1)=some (instObj B.C h.objs.size):=by
  have:(h.push emptyDict).objs.size=h.objs.size+1:=by simp[S3]
  rw[←this];exact fq _ rfl
 have hdx:((h.push emptyDict).push (instObj B.C h.objs.size)).get? h.objs.size=some emptyDict:=cB _ (fq _ rfl);have hsz1:((h.push emptyDict).push (instObj B.C h.objs.size)).objs.size=h.objs.size+2:=by simp[S3]
 generalize hh1:(h.push emptyDict).push (instObj B.C h.objs.size)=h1 at k1 hx hdx hsz1 ⊢;have kb:∀b o,base.get? b=some o->h1.get? b=some o:=λb o e=>k1 b o (kp b o e);refine codeAny_call_cells (s:=⟨h1,gg,d,t,os⟩) (by rw[depth_under_make];show A.depth+1<1000;exact bz (dc hd)) (kb _ _ I.at') I.data (hbig.keeps kb) (I.code.keeps kb) I.body (I.bind _ _) I.clos (λx hx=>?_) (λsI x=>?_) I.coro I.gen I.kind
 ·simp only[bT,ee,or_false]at hx
  rcases hx with rfl|rfl
  ·exact .inl I.kself
  ·exact .inl I.kfp
 refine fF (dz I.fd h1.objs.size I.fi) λenv iN=>?_;have kE:env.scope.kind=.function:=by rw[iN];exact I.kind
 have kS:env.kindOf "self" = some .local:=by rw[iN];exact I.kself
 have kF:env.kindOf "fp" = some .local:=by rw[iN];exact I.kfp
 obtain⟨h2,Kz,e2,_⟩:=x.done;have k2:∀b o,h1.get? b=some o->h2.get? b=some o:=λb o e=>by have:=x.toInCall.keep b o e;rw[e2]at this;exact this
 have hns:=x.toInCall.ns;have hLf:h1.objs.size<=(dz I.fd h1.objs.size I.fi).locals:=x.toInCall.fresh;refine fF (bindL (dz I.fd h1.objs.size I.fi).kindOf [(("self":Str),RQ (h.objs.size+1)),(("fp":Str),.ref F)] λzz=>none) λmL E9=>?_
 have ms:mL "self" = some (.ref (h.objs.size+1)):=by rw[E9];exact I0 _ I.kself _ _ (by simp;decide) (by simp)
 have mf:mL "fp" = some (.ref F):=by rw[E9];exact I0 _ I.kfp _ _ (by simp;decide) (by simp)
 rw[←iN]at hLf ⊢;rw[←E9,←iN]at hns;rw[e2]at hns ⊢;clear x e2;have hns:h2.Ns env.locals mL:=hns;have hLf:@LE.le Nat _ h1.objs.size env.locals:=hLf;have rA:@Ne Nat (h.objs.size+1) B.C:=λq=>by
  obtain⟨hC⟩:=B.cls;have:@LT.lt Nat _ B.C h.objs.size:=fM (kp _ _ hC);exact Nat.not_succ_lt_self (q▸this)
 have L0:uR B.C h2 (h.objs.size+1) h.objs.size λzz=>none:=by
  refine⟨⟨_,k2 _ _ hx,rfl,(λc q=>by cases q),rfl,λxs n q=>by cases q⟩,(show @Ne Nat h.objs.size (h.objs.size+1) by exact MK),?_,λy hy=>absurd rfl hy⟩;exact g6q ⟨_,#[],_,k2 _ _ hdx,rfl,λe he=>absurd he (by simp),λzz=>rfl⟩
 have Fy:@Ne Nat env.locals (h.objs.size+1):=iW (FY hsz1 hLf);have FE:@Ne Nat env.locals h.objs.size:=iW (jP (FY hsz1 hLf));have kb2:∀b o,base.get? b=some o->h2.get? b=some o:=λb o e=>k2 b o (kb b o e);have hbn:∀a:Nat,h.objs.size<=a->base.get? a=none:=λa ha=>by
  induction q:base.get? a using aT with
  |none=>rfl
  |some o=>have:@LT.lt Nat _ a h.objs.size:=fM (kp _ _ q);exact absurd ha (Am.mpr this)
 have self:∀{h':Heap}{tk:Nat}{p:Pos}{E':ao->aC->Prop}{Q':ao->aC->Prop}{A':fu},h'.Ns env.locals mL->Q' (.ref (h.objs.size+1)) ⟨h',gg,d,tk,os⟩->au (model prog w) A' (eval (.Name "self" p) env) Q' E' ⟨h',gg,d,tk,os⟩:=λhn hq=>
  pZ (uU kE kS hn ms hq) (by decide)
 refine nX (plainObj_wpAny_Assign_Attribute (El (self hns ?_)) rfl);refine Du (s:=⟨h2,gg,d,_,os⟩) (B:=B) (.inl rfl) kb2 L0 rA λh3 Ky L3 s3=>?_;have tO:h3.Ns env.locals mL:=Ig hns Fy FE s3;have Lq:=Im hbn s3 kb2;refine nX (plainObj_wpAny_Assign_Attribute (pZ (uU kE kF tO mf (self tO ?_)) (by decide)) rfl);refine Du (s:=⟨h3,gg,d,_,os⟩) (B:=B) (.inr (.inl rfl)) Lq L3 rA λh4 Kw L4 s4=>?_;have Mb:h4.Ns env.locals mL:=Ig tO Fy FE s4;have Lp:=Im hbn s4 Lq;refine nX (plainObj_wpAny_Assign_Attribute (Ek (self Mb ?_)) rfl);refine Du (s:=⟨h4,gg,d,_,os⟩) (B:=B) (.inr (.inr (.inl rfl))) Lp L4 rA λh5 tk5 L5 s5=>?_;have UX:h5.Ns env.locals mL:=Ig Mb Fy FE s5;have Ur:=Im hbn s5 Lp;refine nX (plainObj_wpAny_Assign_Attribute (Km (uV ⟨by rw[sizeLine_eq];simp,?_⟩)) rfl);have UW:(h5.push {cls:=.type "list",data:=.seq ([]:List ao).toArray}).Ns env.locals mL:=Ns.keep UX λb o e=>cB _ e
 refine self UW ?_;generalize U6:(λy=>if y=lQ "whitespace" then _ else _:Str->Option ao)=m5 at L5
 have L6:uR B.C (h5.push {cls:=.type "list",data:=.seq ([]:List ao).toArray}) (h.objs.size+1) h.objs.size m5:=by
  obtain⟨o,e,r⟩:=L5.obj;exact⟨⟨o,cB _ e,r⟩,L5.ne,L5.ns.at (λo e=>cB _ e),L5.few⟩
 refine Du (s:=⟨h5.push {cls:=.type "list",data:=.seq ([]:List ao).toArray},gg,d,_,os⟩) (B:=B) (name:="pushback") (.inr (.inr (.inr rfl))) (λb o e=>cB _ (Ur b o e)) L6 rA λh7 Tz L7 s7=>?_
 refine Ei ⟨rfl,oK λG0 hG=>?_⟩;have Fp:@LT.lt Nat _ (h.objs.size+1) h5.objs.size:=by obtain⟨o,e,_⟩:=L5.obj;exact fM e
 have US:(h5.push {cls:=.type "list",data:=.seq ([]:List ao).toArray}).get? h5.objs.size=some {cls:=.type "list",data:=.seq ([]:List ao).toArray}:=fq _ rfl
 have A8:=s7 _ _ (EJ (iW Fp)) (EJ (iW (jP Fp))) US;have A5:∀b o,h.get? b=some o->h7.get? b=some o:=λb o e=>by
  have ni:@Ne Nat b (h.objs.size+1):=by have:@LT.lt Nat _ b h.objs.size:=fM e;exact jk (JD this)
  have h2':@Ne Nat b h.objs.size:=by have:@LT.lt Nat _ b h.objs.size:=fM e;exact TX this
  exact s7 b o ni h2' (cB _ (s5 b o ni h2' (s4 b o ni h2' (s3 b o ni h2' (k2 b o (k1 b o e))))))
 obtain⟨as',z1,z2,z3⟩:=d9d g hbn A5 A8 Fp hF L7 (by
  subst U6;refine⟨⟨_,(if_neg (by decide)).trans ((if_neg (by decide)).trans ((if_neg (by decide)).trans (if_pos rfl)))⟩,(if_neg (by decide)).trans ((if_neg (by decide)).trans (if_pos rfl)),⟨_,(if_neg (by decide)).trans (if_pos rfl)⟩,?_,λy y1 y2 y3 y4=>?_⟩
  ·dsimp only;rw[if_pos rfl]
  ·dsimp only;rw[if_neg y4,if_neg y3,if_neg y2,if_neg y1])
 exact hG (hQ _ _ h7 Tz z1 z2 z3)
end
section
variable {B:LB base}{tD:G}
structure wI(prog:jj)(w:ji){base:Heap}(B:LB base)(lm:iZ)(P:Addr)(tD:G) where
 snd:cj prog w (bl B lm P) base tD
 off:tD.fB=false
 nd:c7 tD.ah
 lam:ug lm
 nolimit:base.NoLimit
 js:Nat
 jc:Nat
 rd:vt B tD.ah js jc
 Eu:rd.o.cls=.type "function"
 iter:cO prog w base "iter" (.builtin "iter")
 kG:cO prog w base "_netrclex" (.ref B.C)
 cls:ClsAt base B.C B.N B.mN
 makes:Makes (model prog w) base B.C
 init:ur B
theorem Y0(L:wI prog w B lm P tD)(S:cj prog w (bl B lm P) base Z)(nd:c7 Z.ah)(n:Nat):Pz prog w (bl B lm P) base Z n:=by
 intro k e v y A E env J O as s ks kl kc ai Q hv ty rm c er g hy hks hQ;refine PG hv λp1 p2 ev hg hpl=>?_;subst ev;refine xQ (qC (Z:=Z) (sc:=env.scope) (by decide) hg ⟨λzz q=>q,λzz q=>q,λzz q=>q⟩ er g L.kG ?_);refine callWith_cls (h₀:=base) L.cls ?_ (qH hpl) rfl;refine uW ((jG S nd n).1 y k env.scope e ty A E env J O as s (.mut ks) ai _ rm c er g hy λu aG hY tk gI aM ru=>?_) (qH hpl);refine uV ⟨gI.keep,Ej (d6w (s:={s with heap:=hY,toks:=tk}) L.makes L.init L.nolimit (by have:=rm.depth;exact bz (dc (KS this))) rm.calm gI hks ru λv' as' h' tk' g' go' r'=>?_)⟩;exact hQ v' as' h' tk' g' (aM.trans go') r'
theorem PF(L:wI prog w B lm P tD)(S:cj prog w (bl B lm P) base Z)(nd:c7 Z.ah)(n:Nat):nF prog w (bl B lm P) base Z n where
 new:=λzz zz=>Y0 L S nd n
 fit:=λv y j k kp ks m A E env J O as s Q zz zz hv hy bH hk hm rm er g hQ=>Zt (n:=n) L.iter L.rd.at' L.Eu hv hy bH hk hm er g hQ
 line:=λx a p q r c kd j k is m A E env J O as s Q h1 h2 h3 h4 h5 h6 h7 h8 rm er g hQ=>Pe h1 h2 h3 h4 h5 h6 h7 h8 er g hQ
 draw:=λA E s as O ai k a q r Q zz hn rm g ha h hQ=>e2q L.snd L.off L.nd L.lam L.nolimit L.rd (rm.less hn) g ha h hQ
 self:=λA E s as O k a q is m Q zz g ha hk hm h=>e3f g ha hk hm h
 lets:=λA E s as O k a q is m tg v Q zz g ha hk hm ht h=>e6q g ha hk hm ht h
end
noncomputable def AY(fin:Bool):List Int->List Int->Bool
 |x::xs,y::ys=>if x==y then AY fin xs ys else decide (x<y)
 |_,_=>fin
noncomputable def ltI(xs ys:List Int):Bool:=AY (decide (xs.length<ys.length)) xs ys
noncomputable def rH{α:Type}(f:Nat->Nat->Option Bool):KasT α->Option α
 |.ret a=>some a
 |.ask i j k=>(f i j).bind λb=>rH f (k b)
noncomputable def rE(us:List (List Int))(i j:Nat):Option Bool:=match us[i]?,us[j]? with
 |some x,some y=>some (ltI x y)
 |_,_=>.none
noncomputable def qi{α:Type}(us:List α):List Nat->Option (List α)
 |[]=>some []
 |i::r=>us[i]?.bind λx=>(qi us r).map (x::·)
noncomputable def uu:List V->Option (List (List Int))
 |[]=>some []
 |.tup l::r=>match j5 l with
  |some (x::ns)=>(uu r).map ((x::ns)::·)
  |_=>.none
 |_=>.none
noncomputable def rU(l:List V):Option (List V):=match uu l with
 |some us=>if 2<=us.length/\us.length<64 then(match rH (rE us) (kas_sort us.length)with
  |some p=>qi l p.toList
  |.none=>.none)else .none
 |.none=>.none
theorem e3m{cmp:Nat->Nat->(Bool->aC->Prop)->aC->Prop}{f:Nat->Nat->Option Bool}{Q:α->aC->Prop}(hc:∀i j b C,f i j=some b->C b s->cmp i j C s){a:α}(h:Q a s):∀t:KasT α,rH f t=some a->t.kasWp cmp Q s:=by
 intro t;induction t with
 |ret b=>intro e;cases e;exact h
 |ask i j k ih=>
  intro e;obtain⟨b,hf,e⟩:=R3.mp (show(f i j).bind (λb=>rH f (k b))=some a from e);exact hc i j b _ hf (ih b e)
section
theorem Wr{fin:Bool}{Q:Bool->aC->Prop}{xs ys:List ao}{x y:List Int}(i:Nat)(hx:sY xs x)(hy:sY ys y)(h:Q (AY fin x y) s):KatLex prog w A true fin Q (xs.zip ys) i s:=by
 induction hx generalizing ys y i with
 |nil=>exact h
 |cons a t hx ih=>
  cases hy with
  |nil=>exact h
  |cons b u hy=>
   refine kat_cons (wpAny_eqBool_int ?_);have h:Q (if a==b then AY fin _ _ else decide (a<b)) s:=h;cases e:a==b with
   |true=>rw[e]at h;exact kat_yes (ih (i+1) hy h)
   |false=>
    rw[e]at h;refine kat_no ?_;cases i with
    |zero=>exact oneLt_int h
    |succ i=>exact kat_one _ _ (P.lt_int h)
inductive iT(h:Heap):List ao->List (List Int)->List ao->Prop
 |nil:iT h [] [] []
 |cons {a:Addr}{vs fs xs:List ao}{us:List (List Int)}{x:Int}{t:Tok}{ns:List Int}:h.IsTuple a (Jm x t::xs).toArray->sY xs ns->iT h vs us fs->iT h (.ref a::vs) ((x::ns)::us) (.int x t::fs)
theorem iT.len(x:iT h vs us fs):us.length=vs.length/\fs.length=vs.length:=by
 induction x with
 |nil=>exact⟨rfl,rfl⟩
 |cons _ _ _ ih=>exact⟨congrArg (·+1) ih.1,congrArg (·+1) ih.2⟩
theorem iT.Us(x:iT h vs us fs):KatTups h vs fs:=by
 induction x with
 |nil=>exact trivial
 |cons ht _ _ ih=>
  obtain⟨o,ho,hc,n,hd⟩:=ht;exact .cons ho hc hd rfl ih
theorem iT.tys    (x:iT h vs us fs) {M:Model} :∀v∈fs,Looks M h' (typeOf v) (.type "int"):=by
 induction x with
 |nil=>exact g5p _
 |cons _ _ _ ih=>exact uP.mpr ⟨g4w rfl,ih⟩
theorem iT.kept  (k:∀b o,h.get? b=some o->o.cls=.type "tuple" -> h'.get? b=some o)   (x:iT h vs us fs):iT h' vs us fs:=by
 induction x with
 |nil=>exact .nil
 |cons ht hi _ ih=>
  obtain⟨o,ho,r⟩:=ht;exact .cons ⟨o,k _ _ ho r.1,r⟩ hi ih
theorem iT.at(x:iT h vs us fs):∀{i:Nat}{u:List Int},us[i]?=some u->∃a xs,vs.getD i nN=.ref a/\h.IsTuple a xs.toArray/\sY xs u:=by
 induction x with
 |nil=>intro i u e;cases e
 |cons ht hi _ ih=>
  intro i u e;cases i with
  |zero=>cases e;exact⟨_,_,rfl,ht,.cons _ _ hi⟩
  |succ i=>exact ih e
theorem PX{xs:List ao}{x:List Int}(h:sY xs x):xs.length=x.length:=by
 induction h with
 |nil=>rfl
 |cons _ _ _ ih=>exact congrArg (·+1) ih
theorem e9h(x:iT s.heap vs us fs){C:Bool->aC->Prop}(h:rE us i j=some b)(hC:C b s):kas_ask prog w A (tuples' true) vs i j C s:=by
 unfold rE at h;revert h;cases hi:us[i]? with
 |none=>intro h;cases h
 |some u=>cases hj:us[j]? with
  |none=>intro h;cases h
  |some v=>
   intro h;obtain⟨a,xs,ea,⟨o,ho,hc,n,hd⟩,ia⟩:=x.at hi;obtain⟨a',xs',ea',⟨o',ho',hc',n',hd'⟩,LD⟩:=x.at hj;unfold kas_ask;rw[ea,ea'];refine kat_lt ho hd ho' hd' (Wr 0 ia LD ?_);have e:ltI u v=b:=aD h;rw[dG,dG,PX ia,PX LD];show C (ltI u v) s;exact e▸hC
theorem d2j     {p:Array Nat}{P:PySem.Fin->aC->Prop} (ho:s.heap.get? a=some (seqObj "list" vs.toArray n)) (x:iT s.heap vs us fs)
  (h2:2<=vs.length) (h64:vs.length<64) (hr:rH (rE us) (kas_sort vs.length)=some p)
  (h:P (.done (.ret .none)) {s with heap:=sortedHeap s.heap a vs (D3 (p.toList.map λi=>vs.getD i nN))}) :
  au (model prog w) A (m6.«list.sort» ⟨[.ref a],[]⟩) P E s:=by
 have ha:a<s.heap.objs.size:=fM ho;have hl:=kat_len false vs;obtain⟨e1,Ma⟩:∃e1,(s.heap.update a (kY λzz=>(#[]:Array ao))).get? a=some (seqObj "list" #[] e1):=⟨_,get?_update_seq ho λzz=>#[]⟩
 have ho6:(((s.heap.update a (kY λzz=>#[])).push (seqObj "tuple" vs.toArray 0)).push (seqObj "list" #[] 0)).get? a=some (seqObj "list" #[] e1):=cB _ (cB _ Ma)
 have x3:iT (((s.heap.update a (kY λzz=>#[])).push (seqObj "tuple" vs.toArray 0)).push (seqObj "list" #[] 0)) vs us fs:=x.kept λb o hb hc=>by
  refine cB _ (cB _ ?_);rw[Ea]
  ·exact hb
  ·rintro rfl
   rw[ho]at hb;cases hb;exact absurd (show Jl "list" = .type "tuple" from hc) (by decide)
 rw[list_sort_plain];refine aI (listItems_at ho rfl ?_);refine aI (listUpdate_at ho rfl ?_ (by rw[dG,sizeLine_eq];exact tH h64) (iV _));refine aI (seqEpoch_at Ma rfl ?_);refine aI (wpAny_newTuple ?_ (by show vs.length<=_;rw[sizeLine_eq];exact tH h64));refine aI (Kc ?_ (iV _));refine nW ?_;show au (model prog w) A _ P E {s with heap:=((s.heap.update a (kY λzz=>(#[]:Array ao))).push (seqObj "tuple" vs.toArray 0)).push (seqObj "list" #[] 0)}
 dsimp only;have hn2:¬ vs.toArray.size<2:=by rw[dG];exact pI.mpr h2
 rw[if_neg hn2,if_neg hn2];refine aI (kat_kind x3.Us (by rw[x.len.2];exact cy h2) x3.tys rfl ?_);have ask:(kas_sort vs.length).kasWp (kas_ask prog w A (tuples' true) vs) (λp' s'=>p'=p/\s'={s with heap:=((s.heap.update a (kY λzz=>(#[]:Array ao))).push (seqObj "tuple" vs.toArray 0)).push (seqObj "list" #[] 0)}) {s with heap:=((s.heap.update a (kY λzz=>(#[]:Array ao))).push (seqObj "tuple" vs.toArray 0)).push (seqObj "list" #[] 0)}:=by
  refine e3m (f:=rE us) (λi j b C hb hC=>e9h x3 hb hC) ?_ _ hr;exact⟨rfl,rfl⟩
 refine aI (kq (kat_run (Q:=λst' s'=>∃p':Array Nat,p'.size=vs.length/\arrOf st'=p'.map (kas_item (vs.toArray.zip vs.toArray))/\failedOf st'=none/\p'=p/\s'={s with heap:=((s.heap.update a (kY λzz=>(#[]:Array ao))).push (seqObj "tuple" vs.toArray 0)).push (seqObj "list" #[] 0)})
  rfl h2 h64 (λp' st' s' a1 a2 a3 a4=>⟨p',a1,a2,a3,a4.1,a4.2⟩) ask) ?_ λzz zz e=>e)
 rintro⟨⟨⟩,st'⟩ s' ⟨p',hp,har,hf,rfl,rfl⟩;dsimp only;have hout:=kat_snds rfl har;have hsz:(D3 (p'.toList.map λi=>vs.getD i nN)).size=vs.length:=by rw[dG,aW,g7f,hp]
 rw[hout];refine aI (seqEpoch_at ho6 rfl ?_);refine aI (listUpdate_at ho6 rfl ?_ (iV _) (aV (gY hsz) (by rw[sizeLine_eq];exact tH h64)));rw[hf];simp only[bne_self_eq_false,S8,if_false];exact bF h
theorem c6e{l:Addr}{p:Array Nat}(hl:s.heap.IsList l vs.toArray)(x:iT s.heap vs us fs)(h2:2<=vs.length)(h64:vs.length<64)(hr:rH (rE us) (kas_sort vs.length)=some p)
  (h:Q (.ref (s.heap.objs.size+1)) {s with heap:=sortedAll s.heap vs (D3 (p.toList.map λi=>vs.getD i nN))}) :
  au (model prog w) A (call (.builtin "sorted") [.ref l]) Q E s:=by
 refine Calls.call_function_entry kind_sorted plain_sorted entry_sorted (args_sorted1 _) ?_;unfold m6.«sorted»;refine aI (m:=checkCount "sorted" 1 1 _) (bF ?_)
 refine aI (collect_list hl ?_ (by rw[sizeLine_eq];exact tH h64));refine aI (Kc ?_ (by rw[sizeLine_eq];exact tH h64));have hsz:((s.heap.push (seqObj "list" #[] 0)).update s.heap.objs.size (kY (·++vs.toArray))).objs.size=s.heap.objs.size+1:=by
  rw[Heap.size_update,size_push']
 have L8:(((s.heap.push (seqObj "list" #[] 0)).update s.heap.objs.size (kY (·++vs.toArray))).push (seqObj "list" vs.toArray 0)).get? (s.heap.objs.size+1)=some (seqObj "list" vs.toArray 0):=by
  rw[←hsz];exact fq _ rfl
 have keep:∀b o,s.heap.get? b=some o->(((s.heap.push (seqObj "list" #[] 0)).update s.heap.objs.size (kY (·++vs.toArray))).push (seqObj "list" vs.toArray 0)).get? b=some o:=λb o q=>by
  have hlt:b<s.heap.objs.size:=fM q;rw[g6o _ _ _ (by rw[hsz];exact jk (JD hlt)),Ea _ _ _ _ (jk hlt),g6o _ _ _ (jk hlt)];exact q
 show au _ _ _ _ _ {s with heap:=((s.heap.push (seqObj "list" #[] 0)).update s.heap.objs.size (kY (·++vs.toArray))).push (seqObj "list" vs.toArray 0)}
 rw[hsz];refine aI (nW (qY slot_list_sort ⟨_,L8,rfl⟩ entry_list_sort (d2j L8 (x.kept λb o hb zz=>keep b o hb) h2 h64 hr ⟨_,rfl,?_⟩) (args_list_sort _)));exact bF ⟨_,rfl,h⟩
end
section
theorem e3b:∀{l:List V}{us:List (List Int)}{vs:List ao},uu l=some us->aJ h as l vs->∃fs,iT h vs us fs:=by
 intro l;induction l with
 |nil=>intro us vs e r;cases e;cases r;exact⟨_,.nil⟩
 |cons x l ih=>
  intro us vs e r;obtain⟨v,rs,rfl,rx,rr⟩:=r;induction x using Internal.V.casesOn with
  |tup k=>
   have e:(match j5 k with
    |some (x::ns)=>(uu l).map ((x::ns)::·)
    |_=>.none)=some us:=e
   revert e;cases hk:j5 k with
   |none=>intro e;cases e
   |some ns=>
    cases ns with
    |nil=>intro e;cases e
    |cons x ns=>
     intro e;refine aZ e λms e2 q=>?_;cases q;obtain⟨a,vs,rfl,ha,ht,hr⟩:=rx;obtain⟨fs,hf⟩:=ih e2 rr;have hi:=IC hk hr;cases hi with
     |cons _ t hi=>exact⟨_,.cons ht hi hf⟩
  |_=>exact Internal.ns e
theorem d3l(r:aJ h as l vs):∀{p:List Nat}{m:List V},qi l p=some m->aJ h as m (p.map λi=>vs.getD i nN):=by
 intro p;induction p with
 |nil=>intro m e;cases e;rfl
 |cons i p ih=>
  intro m e;obtain⟨x,hi,e⟩:=R3.mp (show l[i]?.bind (λx=>(qi l p).map (x::·))=some m from e);refine aZ e λms e2 q=>?_;cases q;obtain⟨v,hv,rv⟩:=r.get i hi;refine⟨_,_,rfl,?_,ih e2⟩;have:vs.getD i nN=v:=by simp[hv]
  show Rep h as x (vs.getD i nN);exact this.symm▸rv
theorem c5k {m:List V} (hs:rU l=some m):dX prog w Lx base n (.builtin "sorted") [.lst l] O (.lst m) O:=λA E s as vs Q rm g ra hQ=>by
 obtain⟨v,r,rfl,⟨a,us,rfl,ha,hp,hr⟩,rfl⟩:=ra;unfold rU at hs;revert hs;cases ht:uu l with
 |none=>intro hs;cases hs
 |some ts=>
  dsimp only;intro hs;refine aL hs λhz hs=>?_;revert hs;cases LR:rH (rE ts) (kas_sort ts.length)with
  |none=>intro hs;cases hs
  |some p=>
   dsimp only;intro hs;obtain⟨fs,x⟩:=e3b ht hr;rw[x.len.1]at hz LR;refine c6e hp.isList x hz.1 hz.2 LR ?_;obtain⟨e,he⟩:=sortedAll_at s.heap us (D3 (p.toList.map λi=>us.getD i nN));refine hQ.kept (tk:=s.toks) g (λzz zz=>sortedAll_old) ?_;refine⟨s.heap.objs.size+1,p.toList.map λi=>us.getD i nN,rfl,λhm=>?_,⟨e,?_⟩,?_⟩
   ·obtain⟨o,ho⟩:=g.alive _ hm
    exact absurd (fM ho) (pI.mpr (iA _))
   ·exact he
   ·refine aJ.ks ?_ (d3l hr hs)
    exact λa o zz e zz=>sortedAll_old e
end
noncomputable def eO:List Str:=(["len","sum","sorted","max","min","int","list","split","join","count","append","pop","range","enumerate","zip","iter","self","ch","text","letters","stream","_read_char","get_token","push_token","pushback","whitespace","lineno","EXACT_TOKEN_TYPES","NT_OFFSET","ENDMARKER","ONE_THIRD","ONE_SIXTH","TWO_THIRD","_netrclex","_law_stream","tuple","isinstance","abs","chr","index","find","_law_lexer",".0","ISTERMINAL","x","ISNONTERMINAL","ISEOF","rgb_to_hls","r","g","b","maxc","minc","sumc","rangec","l","s","rc","gc","bc","h","hls_to_rgb","m2","m1","_v","hue","rgb_to_hsv","v","hsv_to_rgb","i","f","p","q","t","__init__","fp","instream","read","token","fiter","_law_signs","_law_written","word","number","gap","dressed","sign","_law_taken","lexer","move","row","turn","symbol","kinds","answer","_law_place","paint","share","level","colour","told","due","fine","part","_law_run","order","moves","signs","rows","allowed","places","k","may","mover","fresh","_law_twin","cells","last","law","script","numbers","state","dress","base","size","words","cell","calm","many","first","before","_law_kinds","_law_pack","end","pack","_law_riffled","dealt","bits","lines","riffled","side","wheel","_law_answers","fits","fit","_law_plain","sides","_law_drawn","left","drawn","card","least","packs","cut","_law_symbol","_law_deed","_law_told","step","_law_turns","hues","thirds","third","coming","turns","symbols","now","spot","so","near","one","_law_due","names","heights","lap","place","steps","best","name","far","high","marks","start","deeds","deed","fires","ahead","_law_tree","nodes","_law_words","node","bare","_law_pile","counts","pile","found","_law_ears","hand","cuts","behind","_law_paints","ends","value","paints","mix","two","again","_law_frieze","ring","pairs","low","j","shape","ways","corner","way"]:List String).map lQ
noncomputable def xm:List Nat:=[44]
noncomputable def Ad:List S:=[.ret (.cmp .Lt (.loc 44) (.jo 28))]
noncomputable def DJ:List Nat:=[44]
noncomputable def DI:List S:=[.ret (.cmp .GtE (.loc 44) (.jo 28))]
noncomputable def CX:List Nat:=[44]
noncomputable def CV:List S:=[.ret (.cmp .Eq (.loc 44) (.jo 29))]
noncomputable def DE:List Nat:=[48,49,50]
noncomputable def Ab:List S:=[.assign 51 (.call 3 [(.loc 48),(.loc 49),(.loc 50)]),
  .assign 52 (.call 4 [(.loc 48),(.loc 49),(.loc 50)]),
  .assign 53 (.bin .Add (.loc 51) (.loc 52)),
  .assign 54 (.bin .Sub (.loc 51) (.loc 52)),
  .assign 55 (.bin .Div (.loc 53) (.cst (.aq 4611686018427387904))),
  .ite (.cmp .Eq (.loc 52) (.loc 51)) [.ret (.tup [(.cst (.aq 0)),(.loc 55),(.cst (.aq 0))])] [],
  .ite (.cmp .LtE (.loc 55) (.cst (.aq 4602678819172646912))) [.assign 56 (.bin .Div (.loc 54) (.loc 53))] [.assign 56 (.bin .Div (.loc 54) (.bin .Sub (.bin .Sub (.cst (.aq 4611686018427387904)) (.loc 51)) (.loc 52)))],
  .assign 57 (.bin .Div (.bin .Sub (.loc 51) (.loc 48)) (.loc 54)),
  .assign 58 (.bin .Div (.bin .Sub (.loc 51) (.loc 49)) (.loc 54)),
  .assign 59 (.bin .Div (.bin .Sub (.loc 51) (.loc 50)) (.loc 54)),
  .ite (.cmp .Eq (.loc 48) (.loc 51)) [.assign 60 (.bin .Sub (.loc 59) (.loc 58))] [.ite (.cmp .Eq (.loc 49) (.loc 51)) [.assign 60 (.bin .Sub (.bin .Add (.cst (.aq 4611686018427387904)) (.loc 57)) (.loc 59))] [.assign 60 (.bin .Sub (.bin .Add (.cst (.aq 4616189618054758400)) (.loc 58)) (.loc 57))]],
  .assign 60 (.bin .Mod (.bin .Div (.loc 60) (.cst (.aq 4618441417868443648))) (.cst (.aq 4607182418800017408))),
  .ret (.tup [(.loc 60),(.loc 55),(.loc 56)])]
noncomputable def DG:List Nat:=[60,55,56]
noncomputable def Ac:List S:=[.ite (.cmp .Eq (.loc 56) (.cst (.aq 0))) [.ret (.tup [(.loc 55),(.loc 55),(.loc 55)])] [],
  .ite (.cmp .LtE (.loc 55) (.cst (.aq 4602678819172646912))) [.assign 62 (.bin .Mult (.loc 55) (.bin .Add (.cst (.aq 4607182418800017408)) (.loc 56)))] [.assign 62 (.bin .Sub (.bin .Add (.loc 55) (.loc 56)) (.bin .Mult (.loc 55) (.loc 56)))],
  .assign 63 (.bin .Sub (.bin .Mult (.cst (.aq 4611686018427387904)) (.loc 55)) (.loc 62)),
  .ret (.tup [(.call 64 [(.loc 63),(.loc 62),(.bin .Add (.loc 60) (.jo 30))]),(.call 64 [(.loc 63),(.loc 62),(.loc 60)]),(.call 64 [(.loc 63),(.loc 62),(.bin .Sub (.loc 60) (.jo 30))])])]
noncomputable def F8:List Nat:=[63,62,65]
noncomputable def F5:List S:=[.assign 65 (.bin .Mod (.loc 65) (.cst (.aq 4607182418800017408))),
  .ite (.cmp .Lt (.loc 65) (.jo 31)) [.ret (.bin .Add (.loc 63) (.bin .Mult (.bin .Mult (.bin .Sub (.loc 62) (.loc 63)) (.loc 65)) (.cst (.aq 4618441417868443648))))] [],
  .ite (.cmp .Lt (.loc 65) (.cst (.aq 4602678819172646912))) [.ret (.loc 62)] [],
  .ite (.cmp .Lt (.loc 65) (.jo 32)) [.ret (.bin .Add (.loc 63) (.bin .Mult (.bin .Mult (.bin .Sub (.loc 62) (.loc 63)) (.bin .Sub (.jo 32) (.loc 65))) (.cst (.aq 4618441417868443648))))] [],
  .ret (.loc 63)]
noncomputable def DF:List Nat:=[48,49,50]
noncomputable def z9:List S:=[.assign 51 (.call 3 [(.loc 48),(.loc 49),(.loc 50)]),
  .assign 52 (.call 4 [(.loc 48),(.loc 49),(.loc 50)]),
  .assign 54 (.bin .Sub (.loc 51) (.loc 52)),
  .assign 67 (.loc 51),
  .ite (.cmp .Eq (.loc 52) (.loc 51)) [.ret (.tup [(.cst (.aq 0)),(.cst (.aq 0)),(.loc 67)])] [],
  .assign 56 (.bin .Div (.loc 54) (.loc 51)),
  .assign 57 (.bin .Div (.bin .Sub (.loc 51) (.loc 48)) (.loc 54)),
  .assign 58 (.bin .Div (.bin .Sub (.loc 51) (.loc 49)) (.loc 54)),
  .assign 59 (.bin .Div (.bin .Sub (.loc 51) (.loc 50)) (.loc 54)),
  .ite (.cmp .Eq (.loc 48) (.loc 51)) [.assign 60 (.bin .Sub (.loc 59) (.loc 58))] [.ite (.cmp .Eq (.loc 49) (.loc 51)) [.assign 60 (.bin .Sub (.bin .Add (.cst (.aq 4611686018427387904)) (.loc 57)) (.loc 59))] [.assign 60 (.bin .Sub (.bin .Add (.cst (.aq 4616189618054758400)) (.loc 58)) (.loc 57))]],
  .assign 60 (.bin .Mod (.bin .Div (.loc 60) (.cst (.aq 4618441417868443648))) (.cst (.aq 4607182418800017408))),
  .ret (.tup [(.loc 60),(.loc 56),(.loc 67)])]
noncomputable def xd:List Nat:=[60,56,67]
noncomputable def qU:List S:=[.ite (.cmp .Eq (.loc 56) (.cst (.aq 0))) [.ret (.tup [(.loc 67),(.loc 67),(.loc 67)])] [],
  .assign 69 (.call 5 [(.bin .Mult (.loc 60) (.cst (.aq 4618441417868443648)))]),
  .assign 70 (.bin .Sub (.bin .Mult (.loc 60) (.cst (.aq 4618441417868443648))) (.loc 69)),
  .assign 71 (.bin .Mult (.loc 67) (.bin .Sub (.cst (.aq 4607182418800017408)) (.loc 56))),
  .assign 72 (.bin .Mult (.loc 67) (.bin .Sub (.cst (.aq 4607182418800017408)) (.bin .Mult (.loc 56) (.loc 70)))),
  .assign 73 (.bin .Mult (.loc 67) (.bin .Sub (.cst (.aq 4607182418800017408)) (.bin .Mult (.loc 56) (.bin .Sub (.cst (.aq 4607182418800017408)) (.loc 70))))),
  .assign 69 (.bin .Mod (.loc 69) (.cst (.int 6))),
  .ite (.cmp .Eq (.loc 69) (.cst (.int 0))) [.ret (.tup [(.loc 67),(.loc 73),(.loc 71)])] [],
  .ite (.cmp .Eq (.loc 69) (.cst (.int 1))) [.ret (.tup [(.loc 72),(.loc 67),(.loc 71)])] [],
  .ite (.cmp .Eq (.loc 69) (.cst (.int 2))) [.ret (.tup [(.loc 71),(.loc 67),(.loc 73)])] [],
  .ite (.cmp .Eq (.loc 69) (.cst (.int 3))) [.ret (.tup [(.loc 71),(.loc 72),(.loc 67)])] [],
  .ite (.cmp .Eq (.loc 69) (.cst (.int 4))) [.ret (.tup [(.loc 73),(.loc 71),(.loc 67)])] [],
  .ite (.cmp .Eq (.loc 69) (.cst (.int 5))) [.ret (.tup [(.loc 67),(.loc 71),(.loc 72)])] []]
noncomputable def nP:List Nat:=[16]
noncomputable def nM:List S:=[.ite (.attr 24 (.loc 16)) [.ret (.bY 11 (.attr 24 (.loc 16)) [(.cst (.int 0))])] [],
  .assign 78 (.cst (.str [])),
  .fit 79 16,
  .chars (.one 17) 79 [.ite (.cmp .In (.loc 17) (.attr 25 (.loc 16))) [.cont] [],
  .ite (.cmp .Eq (.loc 17) (.cst (.str [34]))) [.chars (.one 17) 79 [.ite (.cmp .Eq (.loc 17) (.cst (.str [34]))) [.ret (.loc 78)] [.ite (.cmp .Eq (.loc 17) (.cst (.str [92]))) [.assign 17 (.bY 21 (.loc 16) [])] []],
  .aug 78 .Add (.loc 17)]] [.ite (.cmp .Eq (.loc 17) (.cst (.str [92]))) [.assign 17 (.bY 21 (.loc 16) [])] [],
  .aug 78 .Add (.loc 17),
  .chars (.one 17) 79 [.ite (.cmp .In (.loc 17) (.attr 25 (.loc 16))) [.ret (.loc 78)] [.ite (.cmp .Eq (.loc 17) (.cst (.str [92]))) [.assign 17 (.bY 21 (.loc 16) [])] []],
  .aug 78 .Add (.loc 17)]]],
  .ret (.loc 78)]
noncomputable def DT:List Nat:=[16,78]
noncomputable def DH:List S:=[.expr (.bY 10 (.attr 24 (.loc 16)) [(.loc 78)])]
noncomputable def vB(args:List V)(O:Mu):Option (V×Mu):=match args with
 |[.lst l]=>if l.length<=big then some (.int l.length,O)else .none
 |[.mut k]=>match O[k]? with
  |some (.list l)=>if l.length<=big then some (.int l.length,O)else .none
  |_=>.none
 |_=>.none
noncomputable def yF(args:List V)(O:Mu):Option (V×Mu):=match args with
 |[.lst l]=>(j5 l).map λns=>(.int ns.sum,O)
 |_=>.none
theorem Na{f:UInt64->UInt64->UInt64->Option γ}{r:γ}{G:Prop}(h:(match args with|[.aq a,.aq b,.aq c]=>f a b c|_=>.none)=some r)(k:∀a b c,args=[.aq a,.aq b,.aq c]->f a b c=some r->G):G:=by
 induction args using aN with
 |nil=>exact ns h
 |cons x l=>induction x using Internal.V.casesOn with
  |aq a=>induction l using aN with
   |nil=>exact ns h
   |cons x l=>induction x using Internal.V.casesOn with
    |aq b=>induction l using aN with
     |nil=>exact ns h
     |cons x l=>induction x using Internal.V.casesOn with
      |aq c=>induction l using aN with
       |nil=>exact k a b c rfl h
       |cons _ _=>exact ns h
      |_=>exact ns h
    |_=>exact ns h
  |_=>exact ns h
noncomputable def MM(args:List V)(O:Mu):Option (V×Mu):=match args with
 |[.int a,.int b]=>some (.int (if b<a then b else a),O)
 |_=>.none
theorem Xf{r:V×Mu}{G:Prop}(h:MM args O=some r)(k:∀a b,args=[.int a,.int b]->some (V.int (if b<a then b else a),O)=some r->G):G:=by
 induction args using aN with
 |nil=>exact ns h
 |cons x l=>induction x using Internal.V.casesOn with
  |int a=>induction l using aN with
   |nil=>exact ns h
   |cons x l=>induction x using Internal.V.casesOn with
    |int b=>induction l using aN with
     |nil=>exact k a b rfl h
     |cons _ _=>exact ns h
    |_=>exact ns h
  |_=>exact ns h
noncomputable def MQ(args:List V)(O:Mu):Option (V×Mu):=match args with
 |[.int a,.int b]=>some (.int (if b>a then b else a),O)
 |_=>.none
theorem XC{r:V×Mu}{G:Prop}(h:MQ args O=some r)(k:∀a b,args=[.int a,.int b]->some (V.int (if b>a then b else a),O)=some r->G):G:=by
 induction args using aN with
 |nil=>exact ns h
 |cons x l=>induction x using Internal.V.casesOn with
  |int a=>induction l using aN with
   |nil=>exact ns h
   |cons x l=>induction x using Internal.V.casesOn with
    |int b=>induction l using aN with
     |nil=>exact k a b rfl h
     |cons _ _=>exact ns h
    |_=>exact ns h
  |_=>exact ns h
noncomputable def W4(args:List V)(O:Mu):Option (V×Mu):=match args with
 |[.aq a,.aq b,.aq c]=>some (.aq (cH (cH a b) c),O)
 |_=>.none
noncomputable def Bo(args:List V)(O:Mu):Option (V×Mu):=(W4 args O).elim (MQ args O) some
noncomputable def WB(args:List V)(O:Mu):Option (V×Mu):=match args with
 |[.aq a,.aq b,.aq c]=>some (.aq (dm (dm a b) c),O)
 |_=>.none
noncomputable def Bt(args:List V)(O:Mu):Option (V×Mu):=(WB args O).elim (MM args O) some
noncomputable def Bw(args:List V)(O:Mu):Option (V×Mu):=match args with
 |[.lst l]=>if l.length<=big then some (.tup l,O)else .none
 |_=>.none
noncomputable def yJ(args:List V)(O:Mu):Option (V×Mu):=match args with
 |[.int i]=>some (.int (if i<0 then -i else i),O)
 |_=>.none
noncomputable def BE(args:List V)(O:Mu):Option (V×Mu):=match args with
 |[.int i]=>if(decide (i<0)||decide (i>0x10FFFF))=false then some (.str [i.toNat],O)else .none
 |_=>.none
noncomputable def t7(args:List V)(O:Mu):Option (V×Mu):=match args with
 |[.aq a]=>if tu a then some (.int (mX pU a),O)else .none
 |_=>.none
noncomputable def vJ(args:List V)(O:Mu):Option (V×Mu):=match args with
 |[.str t]=>if t.length<=big then some (.mut O.length,O++[.list (t.map λc=>.str [c])])else .none
 |_=>.none
noncomputable def CW(args:List V)(O:Mu):Option (V×Mu):=match args with
 |[.lst l]=>((j5 l).elim (rU l) λns=>if l.length<64 then some ((nB ns).map .int)else .none).map λm=>(.lst m,O)
 |_=>.none
noncomputable def zk(i:Nat)(args:List V)(O:Mu):Option (V×Mu):=if i=0 then vB args O else if i=1 then yF args O else if i=2 then CW args O else if i=3 then Bo args O else if i=4 then Bt args O else if i=5 then t7 args O else if i=6 then vJ args O else if i=35 then Bw args O else if i=37 then yJ args O else if i=38 then BE args O else .none
noncomputable def zf:V->Bool
 |.str _=>true
 |_=>false
noncomputable def Dj(O:Mu):V->Bool
 |.mut k=>match O[k]? with
  |some (.list _)=>true
  |_=>false
 |_=>false
noncomputable def vL(m:Nat)(u:V)(O:Mu):Bool:=if m=7 then zf u else if m=8 then zf u else if m=9 then zf u else if m=10 then Dj O u else if m=11 then Dj O u else if m=40 then zf u else false
noncomputable def Cs(u:V)(args:List V)(O:Mu):Option (V×Mu):=match u,args with
 |.str x,[.str y]=>if y≠[]/\x.length<=big then some (.lst ((DL (txt x) (txt y)).map λp=>.str (zp p)),O)else .none
 |_,_=>.none
noncomputable def zm(u:V)(args:List V)(O:Mu):Option (V×Mu):=match u,args with
 |.str x,[.lst l]=>match r4 l with
  |some ts=>if(ts.map (·.length)).sum+ts.length*x.length<=big then some (.str (qm x ts),O)else .none
  |.none=>.none
 |_,_=>.none
noncomputable def vY(u:V)(args:List V)(O:Mu):Option (V×Mu):=match u,args with
 |.str x,[.str y]=>some (.int (DN (txt x) (txt y)),O)
 |_,_=>.none
noncomputable def Ib(u:V)(args:List V)(O:Mu):Option (V×Mu):=match u,args with
 |.mut k,[x]=>match O[k]? with
  |some (.list l)=>if l.length<=big then some (.none,O.set k (.list (l++[x])))else .none
  |_=>.none
 |_,_=>.none
noncomputable def Gg(u:V)(args:List V)(O:Mu):Option (V×Mu):=match u,args with
 |.mut k,[.int 0]=>match O[k]? with
  |some (.list (x::l))=>if(x::l).length<=big then some (x,O.set k (.list l))else .none
  |_=>.none
 |_,_=>.none
noncomputable def B3(u:V)(args:List V)(O:Mu):Option (V×Mu):=match u,args with
 |.str x,[.str y]=>some (.int (DM (txt x) (txt y)),O)
 |_,_=>.none
noncomputable def BU(m:Nat)(u:V)(args:List V)(O:Mu):Option (V×Mu):=if m=7 then Cs u args O else if m=8 then zm u args O else if m=9 then vY u args O else if m=10 then Ib u args O else if m=11 then Gg u args O else if m=40 then B3 u args O else .none
section
variable {x:List Nat}
theorem Wn:vJ [.str x] O=if x.length<=big then some (.mut O.length,O++[.list (x.map λc=>.str [c])])else .none:=rfl
theorem WL{a:List V}:zk 6 a O=vJ a O:=rfl
theorem Wz:vY (.str x) [.str y] O=some (.int (DN (txt x) (txt y)),O):=rfl
end
noncomputable def Ep:UInt64:=S6 (jQ 1) (jQ 3)
noncomputable def toks:List (List Nat×Int):=([("!",54),("!=",28),("%",24),("%=",40),("&",19),("&=",41),("(",7),(")",8),("*",16),("**",35),("**=",46),("*=",38),("+",14),("+=",36),(",",12),("-",15),("-=",37),("->",51),(".",23),("...",52),("/",17),("//",47),("//=",48),("/=",39),(":",11),(":=",53),(";",13),("<",20),("<<",33),("<<=",44),("<=",29),("=",22),("==",27),(">",21),(">=",30),(">>",34),(">>=",45),("@",49),("@=",50),("[",9),("]",10),("^",32),("^=",43),("{",25),("|",18),("|=",42),("}",26),("~",31)]:List (String×Int)).map λp=>((lQ p.1).cps.toList,p.2)
structure pg where
 a:UInt64
 b:UInt64
 c:UInt64
noncomputable def G9(th:pg)(i:Nat):Option V:=if i=28 then some (.int 256)else if i=29 then some (.int 0)else if i=30 then some (.aq th.a)else if i=31 then some (.aq th.b)else if i=32 then some (.aq th.c)else .none
noncomputable def MJ(i:Nat):Option (List (List Nat×Int)):=if i=27 then some toks else .none
noncomputable def gB(th:pg):G:={ah:=eO,glob:=G9 th,call:=λzz i args O=>zk i args O,find:=vL,bY:=λzz m u args O=>BU m u args O,attr:=λzz zz zz=>.none,lE:=MJ,fB:=false}
structure ua(prog:jj)(w:ji)(base:Heap)(th:pg):Prop where
 len:cO prog w base "len" (.builtin "len")
 sum:cO prog w base "sum" (.builtin "sum")
 sorted:cO prog w base "sorted" (.builtin "sorted")
 max:cO prog w base "max" (.builtin "max")
 min:cO prog w base "min" (.builtin "min")
 int:cO prog w base "int" (.type "int")
 list:cO prog w base "list" (.type "list")
 range:cO prog w base "range" (.type "range")
 enum:cO prog w base "enumerate" (.type "enumerate")
 zip:cO prog w base "zip" (.type "zip")
 sysm:∃o,base.get? sysModules=some o
 booked:qL base
 tup:cO prog w base "tuple" (.type "tuple")
 abs:cO prog w base "abs" (.builtin "abs")
 chr:cO prog w base "chr" (.builtin "chr")
 nt:∃t,cO prog w base "NT_OFFSET" (.int 256 t)
 eof:∃t,cO prog w base "ENDMARKER" (.int 0 t)
 Ep:∃t,1<=t/\cO prog w base "ONE_THIRD" (.float th.a t)
 sixth:∃t,1<=t/\cO prog w base "ONE_SIXTH" (.float th.b t)
 twothird:∃t,1<=t/\cO prog w base "TWO_THIRD" (.float th.c t)
 tok:∃a,cO prog w base "EXACT_TOKEN_TYPES" (.ref a)/\StrTab prog w base a (toks.map λp=>(.str ⟨p.1.toArray⟩,.int p.2))
variable {th:pg}
section
theorem nm(i:Nat)(s:String)(h:eO[i]?=some (lQ s):=by decide +kernel):eO[i]?=some (lQ s):=h
theorem Ld{r:α}{G:Prop}{e:Option M}{f:List V->Option α}(h:(match e with|some (.list l)=>f l|_=>.none)=some r)(k:∀l,e=some (.list l)->f l=some r->G):G:=by
 induction e using aT with
 |none=>exact ns h
 |some m=>induction m using Internal.M.casesOn with
  |list l=>exact k l rfl h
  |obj _ _=>exact ns h
  |dict _=>exact ns h
theorem mH{f:List V->Option α}{r:α}(h:f args=some r)(h0:f []=.none)(h2:∀a b c,f (a::b::c)=.none:=by intro a b c;induction a using Internal.V.casesOn<;>rfl):∃a,args=[a]:=by
 induction args using aN with
 |nil=>exact ns (h0.symm.trans h)
 |cons a as=>induction as using aN with
  |nil=>exact⟨a,rfl⟩
  |cons b c=>exact ns ((h2 a b c).symm.trans h)
theorem c0u{q:V×Mu}{G:Prop}(h:zk i args O=some q)(k0:i=0->vB args O=some q->G)(k1:i=1->yF args O=some q->G)(k2:i=2->CW args O=some q->G)(k3:i=3->Bo args O=some q->G)(k4:i=4->Bt args O=some q->G)(k5:i=5->t7 args O=some q->G)(k6:i=6->vJ args O=some q->G)(k7:i=35->Bw args O=some q->G)(k8:i=37->yJ args O=some q->G)(k9:i=38->BE args O=some q->G):G:=
 bZ h k0 λzz h=>bZ h k1 λzz h=>bZ h k2 λzz h=>bZ h k3 λzz h=>bZ h k4 λzz h=>bZ h k5 λzz h=>bZ h k6 λzz h=>bZ h k7 λzz h=>bZ h k8 λzz h=>bZ h k9 λzz h=>ns h
theorem d8z(N:ua prog w base th)(n i:Nat)(args:List V)(O:Mu)(r:V)(ai:Mu)(h:zk i args O=some (r,ai)):∃x f,eO[i]?=some x/\cO prog w base x f/\qu base f/\dX prog w Lx base n f args O r ai:=by
 refine c0u h ?_ ?_ ?_ ?_ ?_ ?_ ?_ ?_ ?_ ?_<;>clear h<;>intro e h<;>subst e
 ·refine⟨_,_,nm 0 "len",N.len,.builtin _,?_⟩
  obtain⟨a,rfl⟩:=mH (f:=(vB · O)) h rfl;have h:vB [a] O=some (r,ai):=h
  ··induction a using Internal.V.casesOn with
    |lst l=>exact aL h λhz h=>sp h λe1 e2=>e1▸e2▸e7o hz
    | «mut» k=>exact Ld h λl hk h=>aL h λhz h=>sp h λe1 e2=>e1▸e2▸e6r hk hz
    |_=>exact ns h
 ·refine⟨_,_,nm 1 "sum",N.sum,.builtin _,?_⟩
  obtain⟨a,rfl⟩:=mH (f:=(yF · O)) h rfl;have h:yF [a] O=some (r,ai):=h
  ··induction a using Internal.V.casesOn with
    |lst l=>exact aZ h λns hi h=>pr h λe1 e2=>e1▸e2▸e7n hi
    |_=>exact ns h
 ·refine⟨_,_,nm 2 "sorted",N.sorted,.builtin _,?_⟩
  obtain⟨a,rfl⟩:=mH (f:=(CW · O)) h rfl;have h:CW [a] O=some (r,ai):=h
  ··induction a using Internal.V.casesOn with
    |lst l=>
     refine aZ h λm hm h=>pr h λe1 e2=>e1▸e2▸?_;refine fH hm (λis hi h=>aL h λhz h=>?_) λzz h=>c5k h;cases h;exact c4n hi hz
    |_=>exact ns h
 ·refine⟨_,_,nm 3 "max",N.max,.builtin _,?_⟩
  have h:Bo args O=some (r,ai):=h;refine fH h (λq h9 h=>Na h9 λa b c e h9=>?_) λzz h=>XC h λa b e h=>?_
  ·subst e
   cases h9;exact sp h λe1 e2=>e1▸e2▸e5s
  ·subst e
   exact sp h λe1 e2=>e1▸e2▸e4n
 ·refine⟨_,_,nm 4 "min",N.min,.builtin _,?_⟩
  have h:Bt args O=some (r,ai):=h;refine fH h (λq h9 h=>Na h9 λa b c e h9=>?_) λzz h=>Xf h λa b e h=>?_
  ·subst e
   cases h9;exact sp h λe1 e2=>e1▸e2▸e8d
  ·subst e
   exact sp h λe1 e2=>e1▸e2▸e2w
 ·refine⟨_,_,nm 5 "int",N.int,.type _,?_⟩
  obtain⟨a,rfl⟩:=mH (f:=(t7 · O)) h rfl;have h:t7 [a] O=some (r,ai):=h
  ··induction a using Internal.V.casesOn with
    |aq x=>exact aL h λhz h=>sp h λe1 e2=>e1▸e2▸e3p hz
    |_=>exact ns h
 ·refine⟨_,_,nm 6 "list",N.list,.type _,?_⟩
  obtain⟨a,rfl⟩:=mH (f:=(vJ · O)) h rfl;have h:vJ [a] O=some (r,ai):=h
  ··induction a using Internal.V.casesOn with
    |str x=>exact aL h λhz h=>sp h λe1 e2=>e1▸e2▸b9p hz
    |_=>exact ns h
 ·refine⟨_,_,nm 35 "tuple",N.tup,.type _,?_⟩
  obtain⟨a,rfl⟩:=mH (f:=(Bw · O)) h rfl;have h:Bw [a] O=some (r,ai):=h
  ··induction a using Internal.V.casesOn with
    |lst l=>exact aL h λhz h=>sp h λe1 e2=>e1▸e2▸e5k hz
    |_=>exact ns h
 ·refine⟨_,_,nm 37 "abs",N.abs,.builtin _,?_⟩
  obtain⟨a,rfl⟩:=mH (f:=(yJ · O)) h rfl;have h:yJ [a] O=some (r,ai):=h
  ··induction a using Internal.V.casesOn with
    |int i=>exact sp h λe1 e2=>e1▸e2▸e5d
    |_=>exact ns h
 ·refine⟨_,_,nm 38 "chr",N.chr,.builtin _,?_⟩
  obtain⟨a,rfl⟩:=mH (f:=(BE · O)) h rfl;have h:BE [a] O=some (r,ai):=h
  ··induction a using Internal.V.casesOn with
    |int i=>exact aL h λhz h=>sp h λe1 e2=>e1▸e2▸e3i hz
    |_=>exact ns h
theorem PW{P:Prop}(h:Dj O u=true)(k:∀i l,u=.mut i->O[i]?=some (.list l)->P):P:=by
 induction u using Internal.V.casesOn with
 | «mut» i=>
  have h:(match (generalizing:=false) O[i]? with|some (.list _)=>true|_=>false)=true:=h
  induction q:O[i]? using aT with
  |none=>rw[q]at h;exact nt h
  |some m=>induction m using Internal.M.casesOn with
   |list l=>exact k i l rfl q
   |obj _ _=>rw[q]at h;exact nt h
   |dict _=>rw[q]at h;exact nt h
 |_=>exact nt h
theorem Dc(h:zf u=true):∃x,u=.str x:=by
 induction u using Internal.V.casesOn with
 |str x=>exact⟨x,rfl⟩
 |_=>exact nt h
theorem Uj{e:Option M}{r:α}{f:V->List V->Option α}{P:Prop}(h:(match e with|some (.list (x::l))=>f x l|_=>.none)=some r)(k:∀x l,e=some (.list (x::l))->f x l=some r->P):P:=by
 induction e using aT with
 |none=>exact ns h
 |some m=>induction m using Internal.M.casesOn with
  |list l=>induction l using aN with
   |nil=>exact ns h
   |cons x l=>exact k x l rfl h
  |obj _ _=>exact ns h
  |dict _=>exact ns h
theorem b9g{q:V×Mu}{G:Prop}(h:BU m u args O=some q)(k0:m=7->Cs u args O=some q->G)(k1:m=8->zm u args O=some q->G)(k2:m=9->vY u args O=some q->G)(k3:m=10->Ib u args O=some q->G)(k4:m=11->Gg u args O=some q->G)(k5:m=40->B3 u args O=some q->G):G:=
 bZ h k0 λzz h=>bZ h k1 λzz h=>bZ h k2 λzz h=>bZ h k3 λzz h=>bZ h k4 λzz h=>bZ h k5 λzz h=>ns h
theorem QC(n m:Nat)(u:V)(args:List V)(aS O:Mu)(r:V)(ai:Mu)(hf:vL m u aS=true)(h:BU m u args O=some (r,ai)):∃x f,eO[m]?=some x/\qu base f/\mC prog w Lx base x u aS f/\dX prog w Lx base n f (u::args) O r ai:=by
 refine b9g h ?_ ?_ ?_ ?_ ?_ ?_<;>clear h<;>intro e h<;>subst e
 ·obtain⟨x,rfl⟩:=Dc hf
  refine⟨_,.builtin "str.split",nm 7 "split",.builtin _,c4v,?_⟩
  obtain⟨a,rfl⟩:=mH (f:=(Cs (.str x) · O)) h rfl;have h:Cs (.str x) [a] O=some (r,ai):=h
  ··induction a using Internal.V.casesOn with
    |str y=>exact aL h λhz h=>sp h λe1 e2=>e1▸e2▸d2r hz.1 hz.2
    |_=>exact ns h
 ·obtain⟨x,rfl⟩:=Dc hf
  refine⟨_,.builtin "str.join",nm 8 "join",.builtin _,d1l,?_⟩
  obtain⟨a,rfl⟩:=mH (f:=(zm (.str x) · O)) h rfl;have h:zm (.str x) [a] O=some (r,ai):=h
  ··induction a using Internal.V.casesOn with
    |lst l=>
     unfold zm at h;induction q:r4 l using aT with
     |none=>simp only[q]at h;exact ns h
     |some ts=>
      simp only[q]at h;exact aL h λhz h=>sp h λe1 e2=>e1▸e2▸d8d q hz
    |_=>exact ns h
 ·obtain⟨x,rfl⟩:=Dc hf
  refine⟨_,.builtin "str.count",nm 9 "count",.builtin _,c5u,?_⟩
  obtain⟨a,rfl⟩:=mH (f:=(vY (.str x) · O)) h rfl;have h:vY (.str x) [a] O=some (r,ai):=h
  ··induction a using Internal.V.casesOn with
    |str y=>exact sp h λe1 e2=>e1▸e2▸d1r
    |_=>exact ns h
 ·refine PW hf λk l eu hk=>?_
  subst eu;refine⟨_,.builtin "list.append",nm 10 "append",.builtin _,c1a hk,?_⟩
  have h:Ib (.mut k) args O=some (r,ai):=h;induction args using aN with
  |nil=>exact ns h
  |cons a as=>induction as using aN with
   |cons _ _=>exact ns h
   |nil=>exact Ld h λl hl h=>aL h λhz h=>sp h λe1 e2=>e1▸e2▸c5a hl hz
 ·refine PW hf λk l eu hk=>?_
  subst eu;refine⟨_,.builtin "list.pop",nm 11 "pop",.builtin _,d4l hk,?_⟩
  have h:Gg (.mut k) args O=some (r,ai):=h;induction args using aN with
  |nil=>exact ns h
  |cons a as=>induction as using aN with
   |cons _ _=>induction a using Internal.V.casesOn with
    |int z=>induction z using s8 with
     |ofNat n=>cases n<;>exact ns h
     |negSucc _=>exact ns h
    |_=>exact ns h
   |nil=>induction a using Internal.V.casesOn with
    |int z=>induction z using s8 with
     |negSucc _=>exact ns h
     |ofNat z=>induction z using eG with
      |succ _=>exact ns h
      |zero=>
       exact Uj (e:=O[k]?) h λx l hl h=>aL h λhz h=>sp h λe1 e2=>e1▸e2▸d9p hl hz
    |_=>exact ns h
 ·obtain⟨x,rfl⟩:=Dc hf
  refine⟨_,.builtin "str.find",nm 40 "find",.builtin _,d2h,?_⟩
  obtain⟨a,rfl⟩:=mH (f:=(B3 (.str x) · O)) h rfl;have h:B3 (.str x) [a] O=some (r,ai):=h
  ··induction a using Internal.V.casesOn with
    |str y=>exact sp h λe1 e2=>e1▸e2▸d9f
    |_=>exact ns h
theorem b9v{P:Prop}(h:G9 th i=some v)(k0:i=28->some (V.int 256)=some v->P)(k1:i=29->some (V.int 0)=some v->P)(k2:i=30->some (V.aq th.a)=some v->P)(k3:i=31->some (V.aq th.b)=some v->P)(k4:i=32->some (V.aq th.c)=some v->P):P:=
 bZ h k0 λzz h=>bZ h k1 λzz h=>bZ h k2 λzz h=>bZ h k3 λzz h=>bZ h k4 λzz h=>ns h
theorem d9n(N:ua prog w base th)(i:Nat)(v:V)(h:G9 th i=some v):∃x u,eO[i]?=some x/\cO prog w base x u/\∀h as,Rep h as v u:=by
 refine b9v h ?_ ?_ ?_ ?_ ?_<;>clear h<;>intro e h<;>subst e
 ·obtain⟨t,e⟩:=N.nt;exact⟨_,_,nm 28 "NT_OFFSET",e,λzz zz=>aD h▸⟨t,rfl⟩⟩
 ·obtain⟨t,e⟩:=N.eof;exact⟨_,_,nm 29 "ENDMARKER",e,λzz zz=>aD h▸⟨t,rfl⟩⟩
 ·obtain⟨t,ht,e⟩:=N.Ep;exact⟨_,_,nm 30 "ONE_THIRD",e,λzz zz=>aD h▸⟨t,rfl,ht⟩⟩
 ·obtain⟨t,ht,e⟩:=N.sixth;exact⟨_,_,nm 31 "ONE_SIXTH",e,λzz zz=>aD h▸⟨t,rfl,ht⟩⟩
 ·obtain⟨t,ht,e⟩:=N.twothird;exact⟨_,_,nm 32 "TWO_THIRD",e,λzz zz=>aD h▸⟨t,rfl,ht⟩⟩
theorem MH(N:ua prog w base th):cj prog w Lx base (gB th) where
 glob:=d9n N
 range:=N.range
 list:=N.list
 enum:=N.enum
 zip:=N.zip
 sysm:=N.sysm
 booked:=N.booked
 lE:=λi l h=>by
  have h:MJ i=some l:=h;refine aL h λe h=>?_;subst e;obtain rfl:=aD h;obtain⟨a,h1,h2⟩:=N.tok;exact⟨_,a,nm 27 "EXACT_TOKEN_TYPES",h1,h2⟩
 call:=λn i args O r ai h=>d8z N n i args O r ai h
 bY:=λn m u args aS O r ai hf h=>QC n m u args aS O r ai hf h
 attr:=λm u O r h=>by exact ns h
theorem zI:c7 eO:=by
 have h:eO.Nodup:=by decide +kernel
 intro i j x h1 h2;exact(List.getElem?_inj (cM.mp h1).1 h).mp (h1.trans h2.symm)
end
structure oQ(base:Heap)(names:List Str)(is:List Nat)(ss:List Internal.S) where
 a:Addr
 o:Obj
 fd:qT
 body:List Stmt
 at':base.get? a=some o
 data:o.data=.func fd
 code:base.CodeRec fd.code fd.qualname
 hbody:fd.body=.stmts body
 glob:fd.globals=gx
 built:fd.builtins=i9
 clos:fd.closure=[]
 bind:∀vals:List ao,vals.length=names.length->bindArgs fd ⟨vals,[]⟩=pure (names.zip vals)
 ok:AW eO fd.scope names is=true
 tr:∃mt k,lW.ku eO mt k fd.scope body=some ss
noncomputable def gv(Z:G)(id:Nat)(spec:Nat->List V->Mu->Option (V×Mu)):G:=
 {Z with call:=λn i args O=>if i=id then spec n args O else Z.call n i args O}
noncomputable def vz(Z:G)(id:Nat)(spec:Nat->V->List V->Mu->Option (V×Mu)):G:=
 {Z with bY:=λn m u args O=>if m=id then spec n u args O else Z.bY n m u args O}
section
theorem dX.less{f:ao}(h:dX prog w Lx base n f args O r ai)(hm:n<=m):dX prog w Lx base m f args O r ai:=
 λA E s as vs Q rm g ra hQ=>h A E s as vs Q (rm.less hm) g ra hQ
theorem Qs(D:oQ base names is ss)(hbig:base.NoLimit)(ht:Z.ah=eO)(S:cj prog w Lx base Z)(LX:∀n,nF prog w Lx base Z n)
  (h:gW Z n is ss args O=some (r,ai)):dX prog w Lx base (n+1) (.ref D.a) args O r ai:=by
 have hok:=D.ok;unfold AW at hok;simp only[jm,g7d,decide_eq_true_eq]at hok;obtain⟨⟨⟨⟨⟨⟨⟨h1,h2⟩,h3⟩,h4⟩,h5⟩,h6⟩,h7⟩,h8⟩:=hok;have e8:D.fd.scope.kind=.function:=by simpa using h8
 obtain⟨mt,k,t⟩:=D.tr;rw[←ht]at t h1 h5;refine Zb S (by rw[ht];exact zI) LX hbig D.at' D.data D.code D.hbody D.glob D.built D.clos h6 h7 e8 D.bind (by simpa using h1) h2 (λx hx=>?_) (λp hp=>?_) (Dw h5) (λL=>?_) t h
 ·have:=cN.mp h3 x hx
  simp only[tB,beq_iff_eq]at this;exact this
 ·have:=cN.mp h4 p hp
  simpa using this
 ·show((D.fd.scope.kind==.module)&&_)=false
  rw[e8];rfl
set_option tactic.hygienic true in
theorem P6(S:cj prog w Lx base Z){id:Nat}{f:ao}(hid:Z.ah[id]?=some x)(hname:cO prog w base x f)(hf:qu base f){spec:Nat->List V->Mu->Option (V×Mu)}
  (hs:∀n args O r ai,spec n args O=some (r,ai)->dX prog w Lx base n f args O r ai):cj prog w Lx base (gv Z id spec):=by
 refine⟨S.glob,S.range,S.list,S.enum,S.zip,S.sysm,S.booked,S.lE,λn i args O r ai h=>?_,S.bY,S.attr⟩;simp only[gv]at h;split at h
 ·rename_i e
  subst e;exact⟨x,f,hid,hname,hf,hs n args O r ai h⟩
 ·exact S.call n i args O r ai h
end
noncomputable def o8(O:Mu):V->Bool
 |.mut k=>match O[k]? with
  |some (.obj [_,_] n)=>decide (1<=n)
  |_=>false
 |_=>false
noncomputable def B0(m:Nat)(u:V)(O:Mu):Bool:=if m=21∨m=22∨m=23 then o8 O u else vL m u O
noncomputable def X4(n:Nat)(u:V)(args:List V)(O:Mu):Option (V×Mu):=match u,args with
 |.mut k,[]=>if 11<=n then(jh O k).map λp=>(.str p.1,p.2)else .none
 |_,_=>.none
noncomputable def BR(n m:Nat)(u:V)(args:List V)(O:Mu):Option (V×Mu):=if m=21 then X4 n u args O else BU m u args O
noncomputable def YB(m:Nat)(u:V)(O:Mu):Option V:=match u with
 |.mut k=>match O[k]? with
  |some (.obj [kp,_] n)=>if 1<=n then(if m=24 then some (.mut kp)else if m=25 then some (.str ws)else if m=26 then some (.int n)else .none)else .none
  |_=>.none
 |_=>.none
noncomputable def gL(th:pg):G:={gB th with find:=B0,bY:=BR,attr:=YB,fB:=true}
section
variable {B:LB base}
theorem Uv{G:Prop}(h:o8 O u=true)(k:∀k a b n,u=.mut k->O[k]?=some (.obj [a,b] n)->1<=n->G):G:=by
 induction u using Internal.V.casesOn with
 | «mut» i=>
  have h:(match (generalizing:=false) O[i]? with|some (.obj [_,_] n)=>decide (1<=n)|_=>false)=true:=h
  induction e:O[i]? using aT with
  |none=>rw[e]at h;exact nt h
  |some m=>
   rw[e]at h;induction m using Internal.M.casesOn with
   |list _=>exact nt h
   |dict _=>exact nt h
   |obj is n=>induction is using aN with
    |nil=>exact nt h
    |cons a is=>induction is using aN with
     |nil=>exact nt h
     |cons b is=>induction is using aN with
      |nil=>exact k i a b n rfl e (of_decide_eq_true h)
      |cons _ _=>exact nt h
 |_=>exact nt h
theorem WC{e:Option M}{r:α}{G:Prop}{f:Nat->Int->Option α}(h:(match e with|some (.obj [a,_] m)=>f a m|_=>.none)=some r)(k:∀a b m,e=some (.obj [a,b] m)->f a m=some r->G):G:=by
 induction e using aT with
 |none=>exact ns h
 |some m=>induction m using Internal.M.casesOn with
  |list _=>exact ns h
  |dict _=>exact ns h
  |obj is m=>induction is using aN with
   |nil=>exact ns h
   |cons a is=>induction is using aN with
    |nil=>exact ns h
    |cons b is=>induction is using aN with
     |nil=>exact k a b m rfl h
     |cons _ _=>exact ns h
theorem ne3{a b c y:Str}(hx:x=a∨x=b∨x=c)(ha:a≠y)(hb:b≠y)(hc:c≠y):x≠y:=λe=>hx.elim (λh=>ha (h.symm.trans e)) λh=>h.elim (λh=>hb (h.symm.trans e)) λh=>hc (h.symm.trans e)
theorem I8 (L:wI prog w B lm P (gB th))  {f:Addr}{of:Obj}   (hx:x = "_read_char" ∨ x = "get_token" ∨ x = "push_token") (hf:B.mN x=some (.ref f)) (ho:base.get? f=some of) (hc:of.cls=.type "function") (h:o8 O u=true) :
  mC prog w (bl B lm P) base x u O (.ref f):=by
 intro A E s as ov p Q g r hQ;refine Uv h λk kp ks n e hk hn=>?_;subst e;obtain⟨X,D,PB,F,mA,rfl,_,_,I,La⟩:=sC g hk hn r;exact d4v g.keep I hx hf ho hc (La.only x (ne3 hx (by decide) (by decide) (by decide)) (ne3 hx (by decide) (by decide) (by decide)) (ne3 hx (by decide) (by decide) (by decide)) (ne3 hx (by decide) (by decide) (by decide))) hQ
theorem W5(N:ua prog w base th)(L:wI prog w B lm P (gB th)):cj prog w (bl B lm P) base (gL th):=by
 have S:=MH (Lx:=bl B lm P) N;refine⟨S.glob,S.range,S.list,S.enum,S.zip,S.sysm,S.booked,S.lE,S.call,λn m u args aS O r ai hf h=>?_,λm u O r h=>?_⟩
 ·replace hf:B0 m u aS=true:=hf
  replace h:BR n m u args O=some (r,ai):=h;refine bZ h (λe h=>?_) λhne h=>?_
  ·subst e
   refine⟨_,.ref B.fr,nm 21 "_read_char",.func B.fr L.rd.o _ L.rd.at' L.rd.data,I8 L (.inl rfl) B.read L.rd.at' L.Eu ((if_pos (.inl rfl)).symm.trans hf),?_⟩
   induction u using Internal.V.casesOn with
   | «mut» k=>induction args using aN with
    |nil=>
     have h:(if 11<=n then(jh O k).map λp=>(V.str p.1,p.2)else .none)=some (r,ai):=h;exact aL h λhn h=>aZ h λp hr h=>pr h λe1 e2=>e1▸e2▸(RC L.snd L.off L.nd L.lam L.nolimit L.rd hr (RO hr).1).call.less hn
    |cons _ _=>exact ns h
   |_=>exact ns h
  ·refine QC n m u args aS O r ai (bZ hf (λq zz=>?_) λzz h=>h) h
   rcases q with rfl|rfl|rfl
   ·exact absurd rfl hne
   ·exact ns h
   ·exact ns h
 ·induction u using Internal.V.casesOn with
  | «mut» k=>
   refine WC (e:=O[k]?) h λkp ks n hk h=>aL h λhn h=>bZ h (λe h=>?_) λzz h=>bZ h (λe h=>?_) λzz h=>bZ h (λe h=>?_) λzz h=>ns h
   ·exact e▸aD h▸⟨_,nm 24 "pushback",λA E s as ov Q g r hQ=>c7k hk hn g r hQ⟩
   ·exact e▸aD h▸⟨_,nm 25 "whitespace",λA E s as ov Q g r hQ=>c6t hk hn g r hQ⟩
   ·exact e▸aD h▸⟨_,nm 26 "lineno",λA E s as ov Q g r hQ=>d2e hk hn g r hQ⟩
  |_=>exact ns h
end
noncomputable def cF(Z:G)(is:List Nat)(ss:List Internal.S)(n:Nat)(args:List V)(O:Mu):Option (V×Mu):=match n with
 |0=>.none
 |k+1=>gW Z k is ss args O
noncomputable def mF(Z:G)(is:List Nat)(ss:List Internal.S)(n:Nat)(u:V)(args:List V)(O:Mu):Option (V×Mu):=match n with
 |0=>.none
 |k+1=>gW Z k is ss (u::args) O
noncomputable def b9(O:Mu):Bool:=O.all (gw O.length)
section
theorem Y9:ev Z (n+1) (.loc i) J O=(J.lookup i).map (·,O):=rfl
theorem g2y{e:Option (V×Mu)}{f:V->Mu->Option γ}:(match e with|some (a,b)=>f a b|.none=>.none)=e.bind λp=>f p.1 p.2:=by cases e<;>rfl
theorem g0b{e:Option (List V×Mu)}{f:List V->Mu->Option γ}:(match e with|some (a,b)=>f a b|.none=>.none)=e.bind λp=>f p.1 p.2:=by cases e<;>rfl
theorem YD{e:Option (List V×Mu)}{f:List V->Mu->γ}:(match e with|some (a,b)=>some (f a b)|.none=>.none)=e.map λp=>f p.1 p.2:=by cases e<;>rfl
theorem zL:bU f [] O=some ([],O):=rfl
theorem d8c{x:X}{r:List X}:bU f (x::r) O=(f x O).bind λp=>(bU f r p.2).map λq=>(p.1::q.1,q.2):=
 g2y.trans (congrArg (R4 _) (funext λzz=>YD))
theorem bq{f:Internal.S->aB->Mu->Option (F×aB×Mu)}{s:Internal.S}{r:List Internal.S}(h:f s J O=some (.next,ρ',ai)):bE f (s::r) J O=bE f r ρ' ai:=by
 rw[BD,h]
theorem d3r{f:Internal.S->aB->Mu->Option (F×aB×Mu)}{s:Internal.S}{r:List Internal.S}(h:f s J O=some (.cont,ρ',ai)):bE f (s::r) J O=some (.cont,ρ',ai):=by
 rw[BD,h]
theorem j8{f:Internal.S->aB->Mu->Option (F×aB×Mu)}{s:Internal.S}{r:List Internal.S}(h:f s J O=some (.ret v,ρ',ai)):bE f (s::r) J O=some (.ret v,ρ',ai):=by
 rw[BD,h]
theorem jL{elt it:X}{t:T}{ifs:List X}{own:List Nat}{vs ys:List V}(h1:cT (λx O=>ev Z n x J O) it O=some (vs,O))(hz:vs.length<=big)(h2:jw (ev Z n) elt t ifs vs (J.filter λp=>!own.contains p.1) O=some (ys,ai)):ev Z (n+1) (.comp elt t it ifs own) J O=some (.lst ys,ai):=by
 rw[Gy,h1];refine(if_pos hz).trans ?_;rw[h2]
theorem v7{c a b:X}(h:ev Z n c J O=some (v,O))(ht:eZ (bg O v)=some bv):ev Z (n+1) (.ite c a b) J O=if bv then ev Z n a J O else ev Z n b J O:=by
 rw[XR,h];dsimp only;rw[ht];cases bv<;>rfl
theorem lN{l:List X}{vs:List V}(h:bU (λx O=>ev Z n x J O) l O=some (vs,ai))(hz:vs.length<=big):ev Z (n+1) (.lst l) J O=some (.lst vs,ai):=by
 rw[XH,h];exact if_pos hz
theorem eW{l:List X}{vs:List V}(h:bU (λx O=>ev Z n x J O) l O=some (vs,ai))(hz:vs.length<=big):ev Z (n+1) (.tup l) J O=some (.tup vs,ai):=by
 rw[Yz,h];exact if_pos hz
theorem se{x:X}(h:f x O=some (v,aA)):bU f [x] O=some ([v],aA):=Hp h
theorem su{x:X}{r:List X}{vs:List V}(h:f x O=some (v,aA))(h2:bU f r aA=some (vs,aE)):bU f (x::r) O=some (v::vs,aE):=by
 rw[d8c,h];show(bU f r aA).map _=_;rw[h2];rfl
theorem gX{e:X}(h:ev Z n e J O=some (v,ai)):aQ Z n (.assign i e) J O=some (.next,put i v J,ai):=by rw[De,h]
theorem sr{e:X}(h:ev Z n e J O=some (v,ai)):aQ Z n (.ret e) J O=some (.ret v,J,ai):=by rw[G6,h]
theorem qD{e:X}(h:ev Z n e J O=some (v,ai)):aQ Z n (.expr e) J O=some (.next,J,ai):=by rw[HA,h]
theorem fc{c:X}{a b:List Internal.S}(h:ev Z (n+1) c J O=some (v,O))(ht:eZ (bg O v)=some bv):aQ Z (n+1) (.ite c a b) J O=bE (aQ Z n) (if bv then a else b) J O:=by
 rw[yQ,h];dsimp only;rw[ht];cases bv<;>rfl
theorem d8k{e:X}(h:J.lookup i=some u)(h1:ev Z n e J O=some (v,ai))(h2:vH op u v=some r):aQ Z n (.aug i op e) J O=some (.next,put i r J,ai):=by
 rw[GK,h];dsimp only;rw[h1];dsimp only;rw[h2];rfl
theorem az:ev Z (n+1) (.cst v) J O=some (v,O):=rfl
theorem ak(h:J.lookup i=some v):ev Z (n+1) (.loc i) J O=some (v,O):=by rw[Y9,h];rfl
theorem aF{a b:X}{w:V}(h1:ev Z n a J O=some (u,O))(h2:ev Z n b J O=some (v,O))(h3:cP op (bg O u) (bg O v)=some w):ev Z (n+1) (.bin op a b) J O=some (w,O):=by
 rw[XN,h1];dsimp only;rw[h2];dsimp only;rw[h3];rfl
theorem br{op:pX}{a b:X}{w:Bool}(h1:ev Z n a J O=some (u,O))(h2:ev Z n b J O=some (v,O))(h3:cR op (bg O u) (bg O v)=some w):ev Z (n+1) (.cmp op a b) J O=some (.bool w,O):=by
 rw[Yk,h1];dsimp only;rw[h2];dsimp only;rw[h3];rfl
theorem dU{a b:X}{w:V}(h1:ev Z n a J O=some (u,O))(h2:ev Z n b J O=some (v,O))(h3:item (bg O u) v=some w):ev Z (n+1) (.sub a b) J O=some (w,O):=by
 rw[NC,h1];dsimp only;rw[h2];dsimp only;rw[d5w h3];rfl
theorem cL{f:Nat}{args:List X}{vs:List V}(h:bU (λx O=>ev Z n x J O) args O=some (vs,aA)):ev Z (n+1) (.call f args) J O=Z.call n f vs aA:=by
 rw[Y8,h]
theorem HY{o:X}(h:ev Z n o J O=some (u,O))(h2:Z.attr m u O=some v):ev Z (n+1) (.attr m o) J O=some (v,O):=by
 rw[Y5,h];dsimp only;rw[h2];rfl
theorem nI{o:X}{args:List X}{vs:List V}(h:ev Z n o J O=some (u,O))(hf:Z.find m u O=true)(h2:bU (λx O=>ev Z n x J O) args O=some (vs,aA)):ev Z (n+1) (.bY m o args) J O=Z.bY n m u vs aA:=by
 rw[YY,h];refine(if_pos hf).trans ?_;rw[h2]
theorem bf{x:X}(h:f x O=some (v,O)):bU f [x] O=some ([v],O):=se h
theorem aX{x:X}{r:List X}{vs:List V}(h:f x O=some (v,O))(h2:bU f r O=some (vs,O)):bU f (x::r) O=some (v::vs,O):=su h h2
theorem N4{l:List X}{vs:List V}(h:f (.tup l) O=some (.tup vs,ai)):cT f (.tup l) O=some (vs,ai):=by rw[WN,h];rfl
theorem nK{t:T}{e:X}{a:List Internal.S}{vs:List V}(h:cT (λx O=>ev Z n x J O) e O=some (vs,ai)):aQ Z n (.for t e a) J O=eB (λJ O=>exec Z n a J O) t vs J ai:=by rw[B9,h]
theorem cJ{e:X}{rest:List Internal.S}{r:Option (F×aB×Mu)}(h:ev Z n e J O=some (v,O))(k:bE (aQ Z n) rest (put i v J) O=r):bE (aQ Z n) (.assign i e::rest) J O=r:=
 (bq (gX h)).trans k
theorem fD{e:X}{rest:List Internal.S}(h:ev Z n e J O=some (v,O)):bE (aQ Z n) (.ret e::rest) J O=some (.ret v,J,O):=
 j8 (sr h)
theorem d7{c:X}{a b rest:List Internal.S}{r:Option (F×aB×Mu)}(h:ev Z (n+1) c J O=some (.bool bv,O))(k:bE (aQ Z n) (if bv then a else b) J O=some (.next,ρ',O))(k2:bE (aQ Z (n+1)) rest ρ' O=r):bE (aQ Z (n+1)) (.ite c a b::rest) J O=r:=
 (bq ((fc h rfl).trans k)).trans k2
theorem jZ{c:X}{a b rest:List Internal.S}(h:ev Z (n+1) c J O=some (.bool bv,O))(k:bE (aQ Z n) (if bv then a else b) J O=some (.ret v,ρ',O)):bE (aQ Z (n+1)) (.ite c a b::rest) J O=some (.ret v,ρ',O):=
 j8 ((fc h rfl).trans k)
end
section
theorem o6{v':V}(hl:(is.length==args.length)=true)(h:exec Z n ss (is.zip args) O=some (.ret v,bu,aE))(ht:aE.take O.length=bS)(hok:bS.all (gw O.length)=true)(hf:iR O.length aE v=some v'):gW Z n is ss args O=some (v',bS):=by
 unfold gW;rw[if_pos hl,h];dsimp only;rw[ht,if_pos hok,hf];rfl
theorem d7b(hl:(is.length==args.length)=true)(h:exec Z n ss (is.zip args) O=some (.next,bu,aE))(ht:aE.take O.length=bS)(hok:bS.all (gw O.length)=true):gW Z n is ss args O=some (.none,bS):=by
 unfold gW;rw[if_pos hl,h];dsimp only;rw[ht,if_pos hok]
end
theorem c7n(th:pg)(n:Nat)(i:Int)(O:Mu)(h:b9 O=true):cF (gL th) xm Ad (n+10) [.int i] O=some (.bool (decide (i<256)),O):=by
 have e:exec (gL th) (n+9) Ad (xm.zip [.int i]) O=some (.ret (.bool (decide (i<256))),xm.zip [.int i],O):=
  fD (br (ak rfl) rfl rfl)
 exact o6 rfl e sP h rfl
noncomputable def fC(c:Nat):Bool:=c==10||c==9||c==13||c==32
noncomputable def nl(c:Nat)(n:Int):Int:=if c=10 then n+1 else n
noncomputable def dJ(p:Nat->Bool):List Nat->List Nat->Int->List Nat×List Nat×Int×Bool
 |[],tok,n=>(tok,[],n,true)
 |c::t,tok,n=>if p c then(tok,t,nl c n,false)else if c=92 then(match t with
   |[]=>(tok,[],nl c n,true)
   |d::t'=>dJ p t' (tok++[d]) (nl d (nl c n)))
  else dJ p t (tok++[c]) (nl c n)
noncomputable def vE(c:Nat):Bool:=c==34
noncomputable def nq(r:List Nat×List Nat×Int×Bool):List Nat×List Nat×Int:=(r.1,r.2.1,r.2.2.1)
noncomputable def dK:List Nat->Int->List Nat×List Nat×Int
 |[],n=>([],[],n)
 |c::t,n=>if fC c then dK t (nl c n)else nq (if c=34 then dJ vE t [] (nl c n)else dJ fC (c::t) [] n)
theorem nf(h:b=false):¬b=true:=λq=>nt (h.symm.trans q)
section
variable {p:Nat->Bool}
theorem sy(h:p c=true)(t tok:List Nat)(n:Int):dJ p (c::t) tok n=(tok,t,nl c n,false):=by cases t<;>exact if_pos h
theorem wU(h:p c=false)(ir:c≠92)(t tok:List Nat)(n:Int):dJ p (c::t) tok n=dJ p t (tok++[c]) (nl c n):=by cases t<;>exact(if_neg (nf h)).trans (if_neg ir)
theorem Dh(h:p 92=false)(tok:List Nat)(n:Int):dJ p [92] tok n=(tok,[],nl 92 n,true):=if_neg (nf h)
theorem wF(h:p 92=false)(d:Nat)(t tok:List Nat)(n:Int):dJ p (92::d::t) tok n=dJ p t (tok++[d]) (nl d (nl 92 n)):=if_neg (nf h)
theorem C4(h:p 92=false){P:List Nat->List Nat->Int->Prop}(h0:∀tok n,P [] tok n)(hE:∀c t tok n,p c=true->P (c::t) tok n)(hB:∀tok n,P [92] tok n)(hD:∀d t tok n,P t (tok++[d]) (nl d (nl 92 n))->P (92::d::t) tok n)
  (h1:∀c t tok n,p c=false->c≠92->P t (tok++[c]) (nl c n)->P (c::t) tok n):∀(m:Nat) (t tok:List Nat) (n:Int),t.length<=m->P t tok n:=by
 intro m;induction m with
 |zero=>intro t tok n hm;induction t using aN with
  |nil=>exact h0 tok n
  |cons _ _=>exact absurd hm (Nat.not_succ_le_zero _)
 |succ m ih=>
  intro t tok n hm;induction t using aN with
  |nil=>exact h0 tok n
  |cons c t=>
   have hm2:=Sg hm;induction hc:p c using eo with
   |true=>exact hE c t tok n hc
   |false=>
    by_cases ir:c=92
    ·subst ir
     induction t using aN with
     |nil=>exact hB tok n
     |cons d t=>exact hD d t tok n (ih t _ _ (g4n hm2))
    ·exact h1 c t tok n hc ir (ih t _ _ hm2)
theorem Dl(h:fC c=true)(t:List Nat)(n:Int):dK (c::t) n=dK t (nl c n):=if_pos h
theorem wG(t:List Nat)(n:Int):dK (34::t) n=nq (dJ vE t [] (nl 34 n)):=rfl
theorem uE(h:fC c=false)(jU:c≠34)(t:List Nat)(n:Int):dK (c::t) n=nq (dJ fC (c::t) [] n):=(if_neg (nf h)).trans (congrArg nq (if_neg jU))
end
structure lu where
 k:Nat
 kp:Nat
 ks:Nat
 kl:Nat
 kc:Nat
structure lu.Ok(x:lu)(O:Mu):Prop where
 ks:O[x.ks]?=some (.obj [x.kl,x.kc] (-3))
 kc:O[x.kc]?=some (.obj [] (-6))
 lk:x.k<O.length
 ll:x.kl<O.length
 lp:x.kp<O.length
 n1:x.k≠x.kl
 n2:x.ks≠x.k
 n3:x.ks≠x.kl
 n4:x.kc≠x.k
 n5:x.kc≠x.kl
 n6:x.kp≠x.k
 n7:x.kp≠x.kl
 n8:x.kp≠x.ks
noncomputable def bM(x:lu)(O:Mu)(t:List Nat)(n:Int):Mu:=(O.set x.kl (.list (chars t))).set x.k (.obj [x.kp,x.ks] n)
noncomputable def c8(x:lu)(O:Mu)(t:List Nat)(n:Int)(e:Int):Mu:=bM x O t n++[.obj [x.k] e]
section
variable {x:lu}{n e:Int}
theorem mO:(bM x O t n).length=O.length:=by simp[bM]
theorem vO(h:x.Ok O):(bM x O t n)[x.k]?=some (.obj [x.kp,x.ks] n):=by
 unfold bM;rw[xB (by simpa using h.lk)]
theorem OE(h:x.Ok O):(bM x O t n)[x.kl]?=some (.list (chars t)):=by
 unfold bM;rw[lz h.n1,xB h.ll]
theorem N8(h:x.Ok O):(bM x O t n)[x.ks]?=some (.obj [x.kl,x.kc] (-3)):=by
 unfold bM;rw[lz h.n2.symm,lz h.n3.symm];exact h.ks
theorem N2(h:x.Ok O):(bM x O t n)[x.kc]?=some (.obj [] (-6)):=by
 unfold bM;rw[lz h.n4.symm,lz h.n5.symm];exact h.kc
theorem YX(h:x.Ok O):(bM x O t n)[x.kp]?=O[x.kp]?:=by
 unfold bM;rw[lz h.n6.symm,lz h.n7.symm]
theorem o7{l:Mu}{m:M}{r:Mu}(h:l[i]?=some m):(l++r)[i]?=some m:=by
 rw[iK (cM.mp h).1];exact h
theorem Q9:chars (c::t)=chars t++[.str [c]]:=by unfold chars;rw[uM,ie];rfl
theorem c4t:(chars (c::t)).getLast?=some (.str [c]):=by rw[Q9,List.getLast?_concat]
theorem c6m:(chars (c::t)).dropLast=chars t:=by rw[Q9,sU]
theorem c8r:(chars t).length=t.length:=by simp[chars]
theorem O3{l r:Mu}{m:M}(h:i<l.length):(l++r).set i m=l.set i m++r:=Sp _ _ h
noncomputable def NZ(O:Mu)(k kl kp ks:Nat)(n:Int)(L:List V):Option V->Option (List Nat×Mu)
 |.none=>some ([],O)
 |some (.str [c])=>if c<1114112 then(if c=10 then some ([c],(O.set kl (.list L.dropLast)).set k (.obj [kp,ks] (n+1)))else some ([c],O.set kl (.list L.dropLast)))else .none
 |_=>.none
theorem OZ{ks:Nat}{L:List V}(h1:O[k]?=some (.obj [kp,ks] n))(h2:O[ks]?=some (.obj [kl,kc] (-3)))(h3:O[kl]?=some (.list L))(h4:O[kc]?=some (.obj [] (-6)))(hn:1<=n)(hl:L.length<=big):jh O k=NZ O k kl kp ks n L L.getLast?:=by
 show(match (generalizing:=false) O[k]? with|some (.obj [kp,ks] n)=>_|_=>cZ)=_
 rw[h1];refine(if_pos hn).trans ?_;show(match (generalizing:=false) O[ks]? with|some (.obj [kl,kc] (-3))=>_|_=>cZ)=_
 rw[h2];show(match (generalizing:=false) O[kl]?,O[kc]? with|some (.list L),some (.obj [] (-6))=>_|_,_=>cZ)=_
 rw[h3,h4];exact(if_pos hl).trans rfl
theorem c7i{ks:Nat}{L:List V}(hL:L.getLast?=some (.str [c]))(hc:c<1114112):NZ O k kl kp ks n L L.getLast?=if c=10 then some ([c],(O.set kl (.list L.dropLast)).set k (.obj [kp,ks] (n+1)))else some ([c],O.set kl (.list L.dropLast)):=by
 rw[hL];exact if_pos hc
theorem Pp(hk:O[kf]?=some (.obj [k] (-2))):draw O kf=match (generalizing:=false) jh O k with|some ([],O)=>some (.none,O.set kf (.obj [k] (-4)))|some (c,O)=>some (some c,O)|.none=>.none:=by
 show(match (generalizing:=false) O[kf]? with|some (.obj [k] (-2))=>_|some (.obj [_] (-4))=>some (cZ,O)|_=>cZ)=_
 rw[hk];rfl
theorem IZ(h:x.Ok O){r:Mu}(hn:1<=n)(hc:c<1114112)(hz:(c::t).length<=big):jh (bM x O (c::t) n++r) x.k=some ([c],bM x O t (nl c n)++r):=by
 have hz':(chars (c::t)).length<=big:=by rw[c8r];exact hz
 rw[OZ (o7 (vO h)) (o7 (N8 h)) (o7 (OE h)) (o7 (N2 h)) hn hz',c7i c4t hc,c6m];have e:(bM x O (c::t) n).set x.kl (.list (chars t))=bM x O t n:=by
  unfold bM;rw[List.set_comm _ _ h.n1,xy]
 have l1:x.kl<(bM x O (c::t) n).length:=by rw[mO];exact h.ll
 have l2:x.k<(bM x O t n).length:=by rw[mO];exact h.lk
 rw[O3 l1,e,O3 l2];unfold nl;split
 ·have:(bM x O t n).set x.k (.obj [x.kp,x.ks] (n+1))=bM x O t (n+1):=by unfold bM;rw[xy]
  rw[this]
 ·rfl
theorem Iu(h:x.Ok O){r:Mu}(hn:1<=n):jh (bM x O [] n++r) x.k=some ([],bM x O [] n++r):=by
 exact OZ (o7 (vO h)) (o7 (N8 h)) (o7 (OE h)) (o7 (N2 h)) hn (iV _)
theorem G1:(c8 x O t n e)[O.length]?=some (.obj [x.k] e):=by
 unfold c8;rw[fY (by rw[mO];exact bV _),mO];simp
theorem zX(h:x.Ok O)(hn:1<=n)(hc:c<1114112)(hz:(c::t).length<=big):draw (c8 x O (c::t) n (-2)) O.length=some (some [c],c8 x O t (nl c n) (-2)):=by
 rw[Pp G1,show c8 x O (c::t) n (-2)=bM x O (c::t) n++[.obj [x.k] (-2)]from rfl,IZ h hn hc hz];rfl
theorem QA(h:x.Ok O)(hn:1<=n):draw (c8 x O [] n (-2)) O.length=some (.none,c8 x O [] n (-4)):=by
 rw[Pp G1,show c8 x O [] n (-2)=bM x O [] n++[.obj [x.k] (-2)]from rfl,Iu h hn];show some ((.none:Option (List Nat)),Sq (bM x O [] n++[M.obj [x.k] (-2)]) O.length (M.obj [x.k] (-4)))=some (.none,bM x O [] n++[M.obj [x.k] (-4)]);have e:=So (s:=bM x O [] n) (t:=[M.obj [x.k] (-2)]) O.length (M.obj [x.k] (-4)) (by rw[mO];exact bV _);rw[mO]at e;rw[show Sq (bM x O [] n++[M.obj [x.k] (-2)]) O.length (M.obj [x.k] (-4))=bM x O [] n++[M.obj [x.k] (-4)]from by rw[e];simp]
theorem d5h:draw (c8 x O [] n (-4)) O.length=some (.none,c8 x O [] n (-4)):=by
 show(match (generalizing:=false) (c8 x O [] n (-4))[O.length]? with|some (.obj [k] (-2))=>_|some (.obj [_] (-4))=>some (cZ,c8 x O [] n (-4))|_=>cZ)=_
 rw[G1];rfl
end
theorem Oq(h:c<1114112):pG ⟨[c].toArray⟩=true:=by unfold pG;simp[h]
theorem eq1(h:c<1114112)(hd:d<1114112):cR .Eq (.str [c]) (.str [d])=some (decide (c=d)):=by
 rw[BC (Pg (Oq h) (Oq hd))];simp
theorem YJ(h:c<1114112):cR .In (.str [c]) (.str ws)=some (fC c):=by
 have e:=g7k (txt ws) c;refine congrArg some ?_;show(!(J2 (txt ws) ⟨#[c]⟩ 0 (txt ws).length 1).isEmpty)=fC c;rw[e];show decide (c∈[10,9,13,32])=(c==10||c==9||c==13||c==32)
 rw[J4,decide_eq_true_eq,bT,bT,bT,bK,tB,tB,tB,beq_iff_eq,beq_iff_eq,beq_iff_eq,beq_iff_eq,or_assoc,or_assoc]
structure RT(x:lu)(m:Nat)(J:aB)(tok:List Nat):Prop where
 self:J.lookup 16=some (.mut x.k)
 tok:J.lookup 78=some (.str tok)
 fit:J.lookup 79=some (.mut m)
theorem RT.n9{x:lu}(h:RT x m J tok)(v:V):RT x m (put 17 v J) tok:=
 ⟨by rw[gi,if_neg (by decide)];exact h.self,by rw[gi,if_neg (by decide)];exact h.tok,by rw[gi,if_neg (by decide)];exact h.fit⟩
theorem RT.AR{x:lu}(h:RT x m J tok)(t:List Nat):RT x m (put 78 (.str t) J) t:=
 ⟨by rw[gi,if_neg (by decide)];exact h.self,by rw[gi,if_pos rfl],by rw[gi,if_neg (by decide)];exact h.fit⟩
theorem mw:(put 17 v J).lookup 17=some v:=by rw[gi,if_pos rfl]
noncomputable def nv:Internal.S:=.ite (.cmp .Eq (.loc 17) (.cst (.str [92]))) [.assign 17 (.bY 21 (.loc 16) [])] []
noncomputable def rI:Internal.S:=.aug 78 .Add (.loc 17)
section
variable {x:lu}{n e:Int}
theorem d8q(h:x.Ok O)(hn:1<=n){r:Mu}:o8 (bM x O t n++r) (.mut x.k)=true:=by
 show(match (generalizing:=false) (bM x O t n++r)[x.k]? with|some (.obj [_,_] n)=>decide (1<=n)|_=>false)=true
 rw[o7 (vO h)];exact decide_eq_true hn
theorem e7h(h:x.Ok O)(hn:1<=n)(hr:RT x m J tok){r:Mu}{s:List Nat}(hrd:jh (bM x O t n++r) x.k=some (s,ai)):ev (gL th) (N+13) (.bY 21 (.loc 16) []) J (bM x O t n++r)=some (.str s,ai):=by
 refine(nI (ak hr.self) (show(if(21=21∨21=22∨21=23)then o8 (bM x O t n++r) (.mut x.k)else vL 21 (.mut x.k) (bM x O t n++r))=true from(if_pos (Or.inl rfl)).trans (d8q h hn)) rfl).trans ?_;show(if 11<=N+12 then(jh (bM x O t n++r) x.k).map λp=>(V.str p.1,p.2)else .none)=_;rw[if_pos (sN 11 (N+1)),hrd];rfl
theorem jH(hn:1<=n)(c:Nat):1<=nl c n:=by
 unfold nl;by_cases h:c=10
 ·rw[if_pos h];exact pR hn (g6j (by decide))
 ·rw[if_neg h];exact hn
noncomputable def rT(cx:X):List Internal.S:=[.ite cx [.ret (.loc 78)] [nv],rI]
noncomputable def za:X:=.cmp .Eq (.loc 17) (.cst (.str [34]))
noncomputable def y9:X:=.cmp .In (.loc 17) (.attr 25 (.loc 16))
theorem Qg{a:List Internal.S}{kj:Mu}{J7:aB}(lZ:ev (gL th) (N+21) cx J O=some (.bool false,O))(he:aQ (gL th) (N+20) nv J O=some (.next,ρ',ai))(ha:aQ (gL th) (N+21) rI ρ' ai=some (.next,J7,kj)):exec (gL th) (N+22) [.ite cx a [nv],rI] J O=some (.next,J7,kj):=
 (bq ((fc lZ rfl).trans (show bE (aQ (gL th) (N+20)) [nv] J O=some (.next,ρ',ai)from bq he))).trans (bq ha)
theorem MT(eV:J.lookup 17=some (.str [c]))(hc:c<1114112)(ir:c≠92):aQ (gL th) (N+20) nv J O=some (.next,J,O):=
 fc (br (ak eV) rfl (eq1 hc (show 92<1114112 from nb rfl))) (congrArg some (decide_eq_false ir))
theorem Gp(h:x.Ok O)(hn:1<=n)(hr:RT x m J tok)(eV:J.lookup 17=some (.str [92])){s:List Nat}{r:Mu}(hrd:jh (bM x O t n++r) x.k=some (s,ai)):aQ (gL th) (N+20) nv J (bM x O t n++r)=some (.next,put 17 (.str s) J,ai):=
 (fc (br (ak eV) rfl (eq1 (nb rfl) (nb rfl))) rfl).trans (bq (gX (e7h (N:=N+6) h hn hr hrd)))
theorem Gs{s:List Nat}(eV:J.lookup 17=some (.str s))(hk:J.lookup 78=some (.str tok))(hl:tok.length+s.length<=big):aQ (gL th) (N+1) rI J O=some (.next,put 78 (.str (tok++s)) J,O):=
 d8k hk (ak eV) (g2z.trans (if_pos (decide_eq_true hl)))
theorem c5h{a:List Internal.S}(lZ:ev (gL th) (N+21) cx J O=some (.bool false,O))(hr:RT x m J tok)(eV:J.lookup 17=some (.str [c]))(hc:c<1114112)(ir:c≠92)(hl:tok.length+1<=big) :
  exec (gL th) (N+22) [.ite cx a [nv],rI] J O=some (.next,put 78 (.str (tok++[c])) J,O):=
 Qg lZ (MT eV hc ir) (Gs (N:=N+20) eV hr.tok hl)
theorem Qv{a:List Internal.S}(h:x.Ok O)(hn:1<=n){r:Mu}(lZ:ev (gL th) (N+21) cx J (bM x O t n++r)=some (.bool false,bM x O t n++r))(hr:RT x m J tok)(eV:J.lookup 17=some (.str [92])){s:List Nat}(hrd:jh (bM x O t n++r) x.k=some (s,ai))(hl:tok.length+s.length<=big) :
  exec (gL th) (N+22) [.ite cx a [nv],rI] J (bM x O t n++r)=some (.next,put 78 (.str (tok++s)) (put 17 (.str s) J),ai):=
 Qg lZ (Gp h hn hr eV hrd) (Gs (N:=N+20) mw (hr.n9 _).tok hl)
theorem YO(eV:J.lookup 17=some (.str [c]))(hc:c<1114112):ev (gL th) (N+21) za J O=some (.bool (vE c),O):=
 br (ak eV) rfl (eq1 hc (show 34<1114112 from nb rfl))
theorem Zv(h:x.Ok O)(hn:1<=n)(hr:RT x m J tok)(eV:J.lookup 17=some (.str [c]))(hc:c<1114112){r:Mu}:ev (gL th) (N+21) y9 J (bM x O t n++r)=some (.bool (fC c),bM x O t n++r):=by
 refine br (ak eV) (HY (v:=.str ws) (ak hr.self) ?_) (YJ hc);show(match (generalizing:=false) (bM x O t n++r)[x.k]? with|some (.obj [kp,_] n)=>if 1<=n then some (V.str ws)else .none|_=>.none)=_
 rw[o7 (vO h)];exact if_pos hn
section
variable {f:aB->Mu->Option (F×aB×Mu)}{t':T}{s:List Nat}
theorem HR(hd:draw ai kf=some (.none,aE)):fO f t' kf (m+1) J ai=some (.next,J,aE):=by
 show(match (generalizing:=false) draw ai kf with|.none=>cZ|some (.none,O)=>some (F.next,J,O)|some (some c,O)=>_)=_
 rw[hd]
theorem G8(hd:draw ai kf=some (some s,aE))(hb:dD t' (.str s) J=some bu):fO f t' kf (m+1) J ai=(match (generalizing:=false) f bu aE with
  |.none=>cZ|some (.brk,J,O)=>some (.next,J,O)|some (.ret v,J,O)=>some (.ret v,J,O)|some (_,J,O)=>fO f t' kf m J O):=by
 show(match (generalizing:=false) draw ai kf with|.none=>cZ|some (.none,O)=>some (F.next,J,O)|some (some c,O)=>(match (generalizing:=false) dD t' (.str c) J with
  |.none=>cZ|some J=>(match (generalizing:=false) f J O with
   |.none=>cZ|some (.brk,J,O)=>some (.next,J,O)|some (.ret v,J,O)=>some (.ret v,J,O)|some (_,J,O)=>fO f t' kf m J O)))=_
 rw[hd];dsimp only;rw[hb]
theorem CN(hd:draw ai kf=some (some s,aE))(hb:dD t' (.str s) J=some bu)(hf:f bu aE=some (.next,dY,bS)):fO f t' kf (m+1) J ai=fO f t' kf m dY bS:=by rw[G8 hd hb,hf]
theorem e6k(hd:draw ai kf=some (some s,aE))(hb:dD t' (.str s) J=some bu)(hf:f bu aE=some (.cont,dY,bS)):fO f t' kf (m+1) J ai=fO f t' kf m dY bS:=by rw[G8 hd hb,hf]
theorem Ol(hd:draw ai kf=some (some s,aE))(hb:dD t' (.str s) J=some bu)(hf:f bu aE=some (.ret v,dY,bS)):fO f t' kf (m+1) J ai=some (.ret v,dY,bS):=by rw[G8 hd hb,hf]
end
def xx(x:lu)(O:Mu)(r:List Nat×List Nat×Int×Bool)(o:Option (F×aB×Mu)):Prop:=
 ∃ρ',o=(if r.2.2.2 then some (.next,ρ',c8 x O [] r.2.2.1 (-4))else some (.ret (.str r.1),ρ',c8 x O r.2.1 r.2.2.1 (-2)))/\RT x O.length ρ' r.1
theorem xx.to{r:List Nat×List Nat×Int×Bool}{o o':Option (F×aB×Mu)}(e:o=o')(h:xx x O r o'):xx x O r o:=e▸h
theorem NJ(h:tok.length+(c::t).length<=big):(tok++[d]).length+t.length<=big:=by
 rw[cA,nS,kg [d].length];exact h
theorem Nh(h:tok.length+(c::t).length<=big):tok.length+1<=big:=aV (iX (dc (iV _)) _) h
theorem BN(h:tok.length+(c::t).length<=big):tok.length+t.length<=big:=aV (iX (iA _) _) h
theorem yT(h:tok.length+t.length<=big):t.length<=big:=aV (sN _ _) h
theorem Yg{p:Nat->Bool}(h:x.Ok O)(hp:p 92=false)(lZ:∀{c:Nat}{t tok:List Nat}{n:Int}{J:aB}{b:Bool},1<=n->RT x O.length J tok->J.lookup 17=some (.str [c])->c<1114112->p c=b->ev (gL th) (N+21) cx J (c8 x O t n (-2))=some (.bool b,c8 x O t n (-2)))
  (t tok:List Nat) (n:Int):∀(fuel:Nat) (J:aB),t.length<fuel->1<=n->(∀c∈t,c<1114112)->tok.length+t.length<=big->RT x O.length J tok →
  xx x O (dJ p t tok n) (fO (λJ O=>exec (gL th) (N+22) (rT cx) J O) (.one 17) O.length fuel J (c8 x O t n (-2))):=by
 have h0:∀{tok:List Nat}{n:Int}{fuel:Nat}{J:aB},0<fuel->1<=n->RT x O.length J tok->xx x O (tok,[],n,true) (fO (λJ O=>exec (gL th) (N+22) (rT cx) J O) (.one 17) O.length fuel J (c8 x O [] n (-2))):=λ{_ _ fuel J} hf hn hr=>by
  induction fuel using eG with
  |zero=>exact absurd hf (mV _)
  |succ fuel=>exact⟨J,HR (QA h hn),hr⟩
 refine C4 hp (P:=λt tok n=>∀(fuel:Nat) (J:aB),t.length<fuel->1<=n->(∀c∈t,c<1114112)->tok.length+t.length<=big->RT x O.length J tok →
  xx x O (dJ p t tok n) (fO (λJ O=>exec (gL th) (N+22) (rT cx) J O) (.one 17) O.length fuel J (c8 x O t n (-2)))) ?_ ?_ ?_ ?_ ?_ t.length t tok n (bV _)<;>clear t tok n
 ·intro tok n fuel J hf hn _ _ hr
  exact h0 hf hn hr
 ·intro c t tok n hc fuel J hf hn hz hl hr
  induction fuel using eG with
  |zero=>exact absurd hf (nQ _)
  |succ fuel=>
   have hcc:=hz c fW;have hr1:=hr.n9 (.str [c]);rw[sy hc];exact⟨_,Ol (zX h hn hcc (yT hl)) rfl (j8 ((fc (lZ (jH hn c) hr1 mw hcc hc) rfl).trans (fD (ak hr1.tok)))),hr1⟩
 ·intro tok n fuel J hf hn hz hl hr
  induction fuel using eG with
  |zero=>exact absurd hf (nQ _)
  |succ fuel=>
   have hcc:=hz 92 fW;have hr1:=hr.n9 (.str [92]);rw[Dh hp];refine .to (CN (zX h hn hcc (yT hl)) rfl (Qv h (jH hn 92) (lZ (jH hn 92) hr1 mw hcc hp) hr1 mw (Iu h (jH hn 92)) (BN hl))) ?_;have:=h0 (sL hf) (jH hn 92) ((hr1.n9 (.str [])).AR (tok++[]));rw[gm]at this ⊢;exact this
 ·intro d t tok n ih fuel J hf hn hz hl hr
  induction fuel using eG with
  |zero=>exact absurd hf (nQ _)
  |succ fuel=>
   have hcc:=hz 92 fW;have hr1:=hr.n9 (.str [92]);rw[wF hp];refine .to (CN (zX h hn hcc (yT hl)) rfl (Qv h (jH hn 92) (lZ (jH hn 92) hr1 mw hcc hp) hr1 mw (IZ h (jH hn 92) (hz d (fX _ fW)) (yT (BN hl))) (Nh (BN hl)))) ?_;exact ih fuel _ (jP (sL hf)) (jH (jH hn 92) d) (λc hc=>hz c (fX _ (fX _ hc))) (NJ (BN hl)) ((hr1.n9 (.str [d])).AR (tok++[d]))
 ·intro c t tok n hc ir ih fuel J hf hn hz hl hr
  induction fuel using eG with
  |zero=>exact absurd hf (nQ _)
  |succ fuel=>
   have hcc:=hz c fW;have hr1:=hr.n9 (.str [c]);rw[wU hc ir];refine .to (CN (zX h hn hcc (yT hl)) rfl (c5h (lZ (jH hn c) hr1 mw hcc hc) hr1 mw hcc ir (Nh hl))) ?_;exact ih fuel _ (sL hf) (jH hn c) (λe he=>hz e (fX _ he)) (NJ hl) (hr1.AR (tok++[c]))
theorem QY{p:Nat->Bool}(hp:p 92=false)(t tok:List Nat)(n:Int):(dJ p t tok n).2.2.2=true->(dJ p t tok n).2.1=[]:=by
 refine C4 hp (P:=λt tok n=>(dJ p t tok n).2.2.2=true->(dJ p t tok n).2.1=[]) (λzz zz zz=>rfl) ?_ ?_ ?_ ?_ t.length t tok n (bV _)<;>clear t tok n
 ·intro c t tok n hc h;rw[sy hc]at h;exact nt h
 ·intro tok n _;rw[Dh hp]
 ·intro d t tok n ih;rw[wF hp];exact ih
 ·intro c t tok n hc ir ih;rw[wU hc ir];exact ih
end
noncomputable def Ce:List Internal.S:=[.ite y9 [.cont] [],.ite za [.chars (.one 17) 79 (rT za)] [nv,rI,.chars (.one 17) 79 (rT y9)]]
section
variable {x:lu}{n e:Int}
def Ends(x:lu)(O:Mu)(r:List Nat×List Nat×Int)(out:Option (F×aB×Mu)):Prop:=
 ∃f ρ' e,out=some (f,ρ',c8 x O r.2.1 r.2.2 e)/\(f=.ret (.str r.1)∨(f=.next/\RT x O.length ρ' r.1/\e = -4/\r.2.1=[]))
theorem Ends.to{r:List Nat×List Nat×Int}{o o':Option (F×aB×Mu)}(e:o=o')(h:Ends x O r o'):Ends x O r o:=e▸h
theorem V7:((gL th).fB&&decide (12<=N+21))=true:=decide_eq_true (sN 12 (N+9))
theorem Rr{t':T}{b:List Internal.S}(hr:RT x m J tok):aQ (gL th) (N+21) (.chars t' 79 b) J O=fO (λJ O=>exec (gL th) (N+21) b J O) t' m big J O:=by
 rw[H9];refine(if_pos V7).trans ?_;rw[hr.fit]
theorem OS{p:Nat->Bool}(h:x.Ok O)(hp:p 92=false)(lZ:∀{c:Nat}{t tok:List Nat}{n:Int}{J:aB}{b:Bool},1<=n->RT x O.length J tok->J.lookup 17=some (.str [c])->c<1114112->p c=b->ev (gL th) (N+21) cx J (c8 x O t n (-2))=some (.bool b,c8 x O t n (-2)))
  (hf:t.length<big) (hn:1<=n) (hc:∀c∈t,c<1114112) (hr:RT x O.length J tok) (hl:tok.length+t.length<=big):Ends x O (nq (dJ p t tok n)) (aQ (gL th) (N+22) (.chars (.one 17) 79 (rT cx)) J (c8 x O t n (-2))):=by
 obtain⟨ρ',e',hr'⟩:=Yg (th:=th) (N:=N) h hp lZ t tok n big J hf hn hc hl hr;refine .to ((Rr (N:=N+1) hr).trans e') ?_;induction hE:(dJ p t tok n).2.2.2 using eo with
 |true=>exact⟨.next,ρ',-4,(QY hp t tok n hE).symm▸rfl,.inr ⟨rfl,hr',rfl,QY hp t tok n hE⟩⟩
 |false=>exact⟨_,ρ',-2,rfl,.inl rfl⟩
theorem IE{r:List Nat×List Nat×Int}{s:Internal.S}{f:Internal.S->aB->Mu->Option (F×aB×Mu)}(h:Ends x O r (f s J aS)):Ends x O r (bE f [s] J aS):=by
 obtain⟨g,ρ',e,h1,h2⟩:=h;refine⟨g,ρ',e,?_,h2⟩;rcases h2 with rfl|⟨rfl,_⟩
 ·exact j8 h1
 ·exact bq h1
theorem hQ(_:1<=n)(_:RT x O.length J tok)(eV:J.lookup 17=some (.str [c]))(hc:c<1114112)(hp:vE c=b):ev (gL th) (N+21) za J (c8 x O t n (-2))=some (.bool b,c8 x O t n (-2)):=hp▸YO eV hc
theorem hW(h:x.Ok O)(hn:1<=n)(hr:RT x O.length J tok)(eV:J.lookup 17=some (.str [c]))(hc:c<1114112)(hp:fC c=b):ev (gL th) (N+21) y9 J (c8 x O t n (-2))=some (.bool b,c8 x O t n (-2)):=hp▸Zv (r:=[.obj [x.k] (-2)]) h hn hr eV hc
theorem Xp(h:x.Ok O)(hf:(c::t).length<big)(hn:1<=n)(hc:∀d∈c::t,d<1114112)(hr:RT x O.length J [])(eV:J.lookup 17=some (.str [c]))(hw:fC c=false):Ends x O (dK (c::t) n) (exec (gL th) (N+25) Ce J (c8 x O t (nl c n) (-2))):=by
 have hcc:=hc c fW;have hct:∀d∈t,d<1114112:=λd hd=>hc d (fX _ hd);have Bd:t.length<big:=jP hf;have n':=jH hn c;refine .to (bq (fc (hW (N:=N+3) h n' hr eV hcc hw) rfl)) (IE ?_);by_cases jU:c=34
 ·subst jU
  rw[wG];refine .to (fc (hQ (N:=N+3) n' hr eV hcc rfl) rfl) (IE (s:=.chars (.one 17) 79 (rT za)) ?_);exact OS (N:=N+1) h rfl hQ Bd n' hct hr (by rw[Av,kZ];exact cy Bd)
 ·rw[uE hw jU]
  refine .to (fc (hQ (N:=N+3) n' hr eV hcc (beq_false_of_ne jU)) rfl) ?_;have fin:∀{t' tok:List Nat}{n':Int}{bL:aB}{s:List Nat},aQ (gL th) (N+23) nv J (c8 x O t (nl c n) (-2))=some (.next,bL,c8 x O t' n' (-2))->bL.lookup 17=some (.str s)->RT x O.length bL []->t'.length+s.length<big->1<=n'->(∀d∈t',d<1114112)->dJ fC (c::t) [] n=dJ fC t' s n' →
    Ends x O (nq (dJ fC (c::t) [] n)) (bE (aQ (gL th) (N+23)) [nv,rI,.chars (.one 17) 79 (rT y9)] J (c8 x O t (nl c n) (-2))):=λ{t' tok n' bL s} e3 eV hr hl hn hc e=>by
   rw[e];refine .to ((bq e3).trans (bq (Gs (N:=N+22) eV hr.tok (by rw[Av,kZ];exact aV (sN _ _) (cy hl))))) (IE ?_);exact OS (N:=N+1) (tok:=s) h rfl (hW h) (ck (gZ _ _) hl) hn hc (hr.AR s) (by rw[kg];exact cy hl)
  by_cases ir:c=92
  ·subst ir
   induction t using aN with
   |nil=>exact fin (s:=[]) (t':=[]) (tok:=[]) (Gp (N:=N+3) h n' hr eV (Iu h n')) mw (hr.n9 _) (nb rfl) n' hct rfl
   |cons d t=>exact fin (s:=[d]) (tok:=[]) (Gp (N:=N+3) h n' hr eV (IZ h n' (hct d fW) (cy Bd))) mw (hr.n9 _) Bd (jH n' d) (λz hz=>hct z (fX _ hz)) rfl
  ·exact fin (s:=[c]) (tok:=[]) (MT (N:=N+3) eV hcc ir) eV hr hf n' hct (wU hw ir t [] n)
theorem YH(h:x.Ok O):∀(fuel:Nat) (t:List Nat) (n:Int) (J:aB),t.length<fuel->t.length<big->1<=n->(∀c∈t,c<1114112)->RT x O.length J [] →
  Ends x O (dK t n) (fO (λJ O=>exec (gL th) (N+25) Ce J O) (.one 17) O.length fuel J (c8 x O t n (-2))):=by
 intro fuel;induction fuel with
 |zero=>intro t n J hf;exact absurd hf (nQ _)
 |succ fuel ih=>
  intro t n J hf hb hn hc hr;induction t using aN with
  |nil=>exact⟨.next,J,-4,HR (QA h hn),.inr ⟨rfl,hr,rfl,rfl⟩⟩
  |cons c t=>
   have hcc:=hc c fW;have hr1:=hr.n9 (.str [c]);have hd:=zX h hn hcc (cy hb);induction hw:fC c using eo with
   |true=>
    rw[Dl hw];refine .to (e6k hd rfl (d3r ((fc (hW (N:=N+3) h (jH hn c) hr1 mw hcc hw) rfl).trans rfl))) ?_;exact ih t (nl c n) _ (sL hf) (jP hb) (jH hn c) (λd hd=>hc d (fX _ hd)) hr1
   |false=>
    obtain⟨f,ρ',e',h1,h2⟩:=Xp (th:=th) (N:=N) (t:=t) h hb hn hc hr1 mw hw;rcases h2 with rfl|⟨rfl,hr',rfl,hrest⟩
    ·exact⟨_,ρ',e',Ol hd rfl h1,.inl rfl⟩
    ·induction fuel using eG with
     |zero=>exact absurd (sL hf) (nQ _)
     |succ f'=>exact⟨.next,ρ',-4,(CN hd rfl h1).trans (HR (by rw[hrest];exact d5h)),.inr ⟨rfl,hr',rfl,hrest⟩⟩
end
theorem Ri(l:List (List Nat)):cY (l.map .str)=true:=by
 induction l with
 |nil=>rfl
 |cons a l ih=>exact ih
theorem RE(t:List Nat):cY (chars t)=true:=by
 have:chars t=(t.reverse.map λc=>[c]).map .str:=(gk ..).symm;rw[this];exact Ri _
theorem Qp(h:b9 O=true){m:M}(hi:O[i]?=some m):gw O.length m=true:=cN.mp h m (g6 hi)
theorem sA(h:b9 O=true){m:M}(hm:gw O.length m=true):b9 (O.set i m)=true:=by
 unfold b9 at *;rw[pN,cN];intro z hz;rcases List.mem_or_eq_of_mem_set hz with q|q
 ·exact cN.mp h z q
 ·rw[q];exact hm
section
variable {x:lu}{n:Int}
theorem ZQ{ks:Nat}(hk:O[k]?=some (.obj [kp,ks] n))(hn:1<=n):(gL th).attr 24 (.mut k) O=some (.mut kp):=by
 show(match (generalizing:=false) O[k]? with|some (.obj [kp,_] n)=>if 1<=n then some (V.mut kp)else .none|_=>.none)=_
 rw[hk];exact if_pos hn
theorem BG{ks:Nat}(hk:O[k]?=some (.obj [kp,ks] n))(hn:1<=n):ev (gL th) (m+2) (.attr 24 (.loc 16)) ((16,.mut k)::J) O=some (.mut kp,O):=HY (ak rfl) (ZQ hk hn)
theorem wZ(hp:O[k]?=some (.list l)):bg O (.mut k)=.lst l:=by rw[Gq,hp]
theorem IF(hp:O[k]?=some (.list l)):Dj O (.mut k)=true:=by
 show(match (generalizing:=false) O[k]? with|some (.list _)=>true|_=>false)=true
 rw[hp]
theorem d5n(h:x.Ok O)(ok:b9 O=true):b9 (bM x O t n)=true:=by
 unfold bM;refine sA (sA ok (show gw O.length (.list (chars t))=true from RE t)) ?_;have hks:=(cM.mp h.ks).1;have hkp:=h.lp;show(decide _&&(decide _&&true))=true;rw[pN,decide_eq_true hks,decide_eq_true hkp];rfl
theorem e2x(h:x.Ok O)(ok:b9 O=true)(hp:O[x.kp]?=some (.list []))(hb:t.length<big)(hn:1<=n)(hc:∀c∈t,c<1114112) :
  mF (gL th) nP nM (N+30) (.mut x.k) [] (bM x O t n)=some (.str (dK t n).1,bM x O (dK t n).2.1 (dK t n).2.2):=by
 have hok:∀t' n',((bM x O t' n').all (gw (bM x O t n).length))=true:=λt' n'=>by
  have:=d5n (t:=t') (n:=n') h ok;unfold b9 at this;rw[mO]at this ⊢;exact this
 have hr:RT x O.length [(16,.mut x.k),(78,.str []),(79,.mut O.length)] []:=⟨rfl,rfl,rfl⟩;obtain⟨f,ρ',e,h1,h2⟩:=YH (th:=th) (N:=N+3) h big t n _ hb hb hn hc hr;have ht:∀{t' n' e'},(c8 x O t' n' e').take (bM x O t n).length=bM x O t' n':=λ{t' n' e'}=>by
  unfold c8;rw[JK (by rw[mO,mO];exact bV _),mO,←mO (x:=x) (O:=O) (t:=t') (n:=n'),sP]
 have run:∀{z:Option (F×aB×Mu)},bE (aQ (gL th) (N+28)) [.chars (.one 17) 79 Ce,.ret (.loc 78)] [(16,.mut x.k),(78,.str []),(79,.mut O.length)] (c8 x O t n (-2))=z->exec (gL th) (N+29) nM (nP.zip [.mut x.k]) (bM x O t n)=z:=λhz=>by
  refine(bq ((fc (BG (vO h) hn) (by rw[wZ ((YX h).trans hp)];rfl)).trans rfl)).trans ((bq rfl).trans ((bq ?_).trans hz));rw[Xs];refine(if_pos rfl).trans ?_;show(match (generalizing:=false) (bM x O t n)[x.k]? with|some (.obj [_,_] m)=>if 1<=m then some (F.next,put 79 (.mut (bM x O t n).length) [(16,V.mut x.k),(78,V.str [])],bM x O t n++[M.obj [x.k] (-2)])else .none|_=>.none)=_
  rw[vO h];refine(if_pos hn).trans ?_;rw[mO];rfl
 have e4:aQ (gL th) (N+28) (.chars (.one 17) 79 Ce) [(16,.mut x.k),(78,.str []),(79,.mut O.length)] (c8 x O t n (-2))=some (f,ρ',c8 x O (dK t n).2.1 (dK t n).2.2 e):=(Rr (N:=N+7) hr).trans h1;rcases h2 with rfl|⟨rfl,hr',rfl,hrest⟩
 ·exact o6 (by rfl) (run (j8 e4)) ht (hok _ _) rfl
 ·exact o6 (by rfl) (run ((bq e4).trans (fD (ak hr'.tok)))) ht (hok _ _) rfl
theorem d6f{ks:Nat}{s:List Nat}{r:List V}(hk:O[k]?=some (.obj [kp,ks] n))(hn:1<=n)(hp:O[kp]?=some (.list (.str s::r)))(hz:(V.str s::r).length<=big)(ok:b9 O=true) :
  mF (gL th) nP nM (N+30) (.mut k) [] O=some (.str s,O.set kp (.list r)):=by
 have el:=wZ hp;have e1:exec (gL th) (N+29) nM (nP.zip [.mut k]) O=some (.ret (.str s),[(16,.mut k)],O.set kp (.list r)):=by
  refine j8 ((fc (bv:=true) (BG hk hn) (by rw[el,WH,if_pos hz];rfl)).trans (j8 (sr ((nI (BG hk hn) (show(gL th).find 11 (.mut kp) O=true from IF hp) (bf rfl)).trans ?_))));show(match (generalizing:=false) O[kp]? with|some (.list (x::l))=>if(x::l).length<=big then some (x,O.set kp (.list l))else .none|_=>.none)=_
  rw[hp];exact if_pos hz
 have hlen:(O.set kp (.list r)).take O.length=O.set kp (.list r):=by
  have:O.length=(O.set kp (.list r)).length:=by simp
  rw[this,sP]
 have hok:(O.set kp (.list r)).all (gw O.length)=true:=by
  have:=sA (i:=kp) ok (m:=.list r) (aR (show(plain (.str s)&&cY r)=true from Qp ok hp));unfold b9 at this;rw[pN]at this;exact this
 exact o6 rfl e1 hlen hok rfl
theorem c7q{ks:Nat}{s:List Nat}(hk:O[k]?=some (.obj [kp,ks] n))(hn:1<=n)(hp:O[kp]?=some (.list l))(hz:l.length<=big)(ok:b9 O=true) :
  mF (gL th) DT DH (N+10) (.mut k) [.str s] O=some (.none,O.set kp (.list (l++[.str s]))):=by
 have e1:exec (gL th) (N+9) DH (DT.zip [.mut k,.str s]) O=some (.next,[(16,.mut k),(78,.str s)],O.set kp (.list (l++[.str s]))):=by
  refine bq (qD (v:=.none) ((nI (BG hk hn) (show(gL th).find 10 (.mut kp) O=true from IF hp) (bf rfl)).trans ?_));show(match (generalizing:=false) O[kp]? with|some (.list l)=>if l.length<=big then some (V.none,O.set kp (.list (l++[V.str s])))else .none|_=>.none)=_
  rw[hp];exact if_pos hz
 have hlen:(O.set kp (.list (l++[.str s]))).take O.length=O.set kp (.list (l++[.str s])):=by
  have:O.length=(O.set kp (.list (l++[.str s]))).length:=by simp
  rw[this,sP]
 have pa:∀l:List V,cY l=true->cY (l++[.str s])=true:=λl h=>by
  induction l with
  |nil=>rfl
  |cons a l ih=>
   show(plain a&&cY (l++[V.str s]))=true;rw[aP h,ih (aR h)];rfl
 have hok:(O.set kp (.list (l++[.str s]))).all (gw O.length)=true:=by
  have h1:=Qp ok hp;have:=sA (i:=kp) ok (m:=.list (l++[.str s])) (show gw O.length (.list (l++[.str s]))=true from pa l h1);unfold b9 at this;rw[pN]at this;exact this
 exact d7b rfl e1 hlen hok
end
section
open Float64 (add sub mul div divmod cmp isZero)
noncomputable abbrev f1:UInt64:=4607182418800017408
noncomputable abbrev f2:UInt64:=4611686018427387904
noncomputable abbrev f4:UInt64:=4616189618054758400
noncomputable abbrev f6:UInt64:=4618441417868443648
noncomputable abbrev fh:UInt64:=4602678819172646912
noncomputable def lD(a b:UInt64):Bool:=cmp a b==some .lt
noncomputable def oi(a b:UInt64):Bool:=cmp a b==some .lt||cmp a b==some .eq
noncomputable def ez(a b:UInt64):Bool:=cmp a b==some .eq
noncomputable def dH(a:UInt64):UInt64:=(divmod a f1).snd
noncomputable def gR(a b:UInt64):Option UInt64:=if isZero b then .none else some (div a b)
noncomputable def pV(th:pg)(m1 m2 i7:UInt64):UInt64:=
 if lD (dH i7) th.b then add m1 (mul (mul (sub m2 m1) (dH i7)) f6)else if lD (dH i7) fh then m2
 else if lD (dH i7) th.c then add m1 (mul (mul (sub m2 m1) (sub th.c (dH i7))) f6)else m1
noncomputable abbrev C3:=UInt64×UInt64×UInt64
noncomputable def vC(c:C3):V:=.tup [.aq c.1,.aq c.2.1,.aq c.2.2]
noncomputable def BV(th:pg)(m1 m2 h:UInt64):C3:=(pV th m1 m2 (add h th.a),pV th m1 m2 h,pV th m1 m2 (sub h th.a))
noncomputable def mK(th:pg)(h l s:UInt64):C3:=
 if ez s 0 then(l,l,l)else if oi l fh then BV th (sub (mul f2 l) (mul l (add f1 s))) (mul l (add f1 s)) h
 else BV th (sub (mul f2 l) (sub (add l s) (mul l s))) (sub (add l s) (mul l s)) h
section
theorem d2a:O.take O.length=O:=sP
theorem z1:isZero f1=false:=by decide +kernel
theorem z2:isZero f2=false:=by decide +kernel
theorem z6:isZero f6=false:=by decide +kernel
theorem e8y(a b:UInt64):cR .LtE (.aq a) (.aq b)=some (oi a b):=rfl
theorem Z3(a b:UInt64):cR .Eq (.aq a) (.aq b)=some (ez a b):=by
 rfl
theorem yU(a b:UInt64):cP .Add (.aq a) (.aq b)=some (.aq (add a b)):=rfl
theorem iQ(a b:UInt64):cP .Sub (.aq a) (.aq b)=some (.aq (sub a b)):=rfl
theorem oU(a b:UInt64):cP .Mult (.aq a) (.aq b)=some (.aq (mul a b)):=rfl
theorem HN(a:UInt64):cP .Mod (.aq a) (.aq f1)=some (.aq (dH a)):=by
 rw[CJ,z1];rfl
theorem YI(a b:UInt64):cP .Div (.aq a) (.aq b)=(gR a b).map .aq:=by
 rw[Cr];unfold gR;cases isZero b<;>rfl
theorem sE{v':V}(hl:is.length=args.length)(ok:b9 O=true)(h:exec Z n ss (is.zip args) O=some (.ret v,ρ',O))(hf:iR O.length O v=some v'):gW Z n is ss args O=some (v',O):=by
 exact o6 (beq_iff_eq.mpr hl) h d2a ok hf
theorem Z5(m1 m2 i7:UInt64)(ok:b9 O=true):cF (gL th) F8 F5 (N+10) [.aq m1,.aq m2,.aq i7] O=some (.aq (pV th m1 m2 i7),O):=by
 refine sE (v:=.aq (pV th m1 m2 i7)) (ρ':=[(63,.aq m1),(62,.aq m2),(65,.aq (dH i7))]) rfl ok ?_ rfl;refine cJ (aF (ak rfl) az (HN _)) ?_;induction h1:lD (dH i7) th.b using eo with
 |true=>
  rw[show pV th m1 m2 i7=_ from if_pos h1];exact jZ (br (ak rfl) (v:=.aq th.b) rfl (congrArg some h1)) (fD (aF (ak rfl) (aF (aF (aF (ak rfl) (ak rfl) rfl) (ak rfl) rfl) az rfl) rfl))
 |false=>
  rw[show pV th m1 m2 i7=_ from if_neg (nf h1)];refine d7 (br (ak rfl) (v:=.aq th.b) rfl (congrArg some h1)) rfl ?_;induction h2:lD (dH i7) fh using eo with
  |true=>
   rw[if_pos rfl];exact jZ (br (ak rfl) az (congrArg some h2)) (fD (ak rfl))
  |false=>
   rw[if_neg gP];refine d7 (br (ak rfl) az (congrArg some h2)) rfl ?_;induction h3:lD (dH i7) th.c using eo with
   |true=>
    rw[if_pos rfl];exact jZ (br (ak rfl) (v:=.aq th.c) rfl (congrArg some h3)) (fD (aF (ak rfl) (aF (aF (aF (ak rfl) (ak rfl) rfl) (aF (u:=.aq th.c) rfl (ak rfl) rfl) rfl) az rfl) rfl))
   |false=>
    rw[if_neg gP];exact d7 (br (ak rfl) (v:=.aq th.c) rfl (congrArg some h3)) rfl (fD (ak rfl))
end
end
noncomputable def i0:X:=.cst (.int 0)
noncomputable def i1:X:=.cst (.int 1)
noncomputable def i2:X:=.cst (.int 2)
noncomputable def i3:X:=.cst (.int 3)
noncomputable def i4:X:=.cst (.int 4)
noncomputable def m1:X:=.neg i1
noncomputable def m2:X:=.neg i2
noncomputable def bO(a b:X):X:=.bin .Add a b
noncomputable def sX(l:List Nat):X:=.cst (.str l)
noncomputable def zJ:List Nat:=[124,83]
noncomputable def rk(a b:X):X:=.sub (.sub (.loc 90) a) b
noncomputable def nc:X:=bO (.loc 111) i1
noncomputable def GU:List S:=[.unpack [111,83] (.tup [(.bin .Mod (.loc 83) (.loc 9)),(.bin .FloorDiv (.loc 83) (.loc 9))]),
  .expr (.bY 10 (.loc 187) [(.tup [rk (.loc 111) i0,rk (.loc 111) i1,rk nc i1])]),
  .assign 90 (bO (bO (.slc (.loc 90) .none (some (.loc 111)) .none) (.lst [(.tup [rk (.loc 111) i0,rk nc i1])])) (.slc (.loc 90) (some (bO (.loc 111) i2)) .none .none))]
noncomputable def wm:List S:=[.assign 90 (.comp (.tup [(.loc 111),nc]) (.one 111) (.range [(.loc 124)]) [] [42,111]),
  .assign 187 (.jD []),
  .for (.one 9) (.range [(.bin .Sub (.loc 124) i1),i0,m1]) GU,
  .ret (.loc 187)]
noncomputable def zP:List Nat:=[124,187,83]
noncomputable def uY:List Nat:=(lQ "( ) [ ] : , ; + - * / | & < > = . % { } == != <= >= ~ ^ << >> ** += -= *= /= %= &= |= ^= <<= >>= **= // //= @ @= -> ... := !").cps.toList
noncomputable def yP(v:X)(j:X):X:=.comp v (.one 189) (.loc 187) [(.cmp .Eq (.sub (.loc 189) j) (.loc 84))] [42,189]
noncomputable def GG:List S:=[.expr (.bY 10 (.loc 125) [(.sub (.loc 107) (bO (.bin .Mult (.bin .Mod (.bin .FloorDiv (.loc 83) (bO (.call 0 [(.loc 125)]) i1)) (.cst (.int 24))) i2) (.loc 140)))])]
noncomputable def yC:X:=.call 38 [(bO (.cst (.int 97)) (.loc 84))]
noncomputable def Nx:List S:=[.assign 86 (.sub (sX [97,98,35,34,92,32,10,9]) (.bin .Mod (.bin .FloorDiv (.loc 83) (bO (.loc 84) i3)) (.cst (.int 8)))),
  .expr (.bY 10 (.loc 125) [(.sub (.lst [bO (.loc 86) yC,bO yC (.loc 86)]) (.bin .Mod (.loc 84) i2))])]
noncomputable def GJ:List S:=[.for (.one 140) (bO (yP i1 i2) (yP i0 i0)) GG,.ite (.cmp .Lt (.loc 84) (.loc 124)) Nx []]
noncomputable def wH:List S:=[.assign 107 (.bY 7 (sX uY) [sX [32]]),
  .assign 125 (.jD []),
  .for (.one 84) (.range [bO (.loc 124) i1]) GJ,
  .ret (.loc 125)]
noncomputable def xo:List Nat:=[82,83]
noncomputable def Bl(l:List Nat):X:=.bY 8 (sX []) [(.comp (.ite (.cmp .In (.loc 86) (sX l)) (bO (sX [92]) (.loc 86)) (.loc 86)) (.one 86) (.loc 82) [] [42,86])]
noncomputable def ON:X:=.bY 8 (sX []) [(.comp (bO (sX [92]) (.loc 86)) (.one 86) (.loc 82) [] [42,86])]
noncomputable def FT:X:=.bin .Mod (.loc 83) i3
noncomputable def pW:List S:=[.assign 84 (.sub (.lst [sX [10],sX [32],sX [9],sX [13,10,32]]) (.bin .Mod (.bin .FloorDiv (.loc 83) i3) i4)),
  .ite (.cmp .Eq FT i0) [.ret (bO (bO (bO (sX [34]) (Bl [34,92])) (sX [34])) (.bin .Mult (.loc 84) (.bin .Mod (.bin .FloorDiv (.loc 83) (.cst (.int 12))) i2)))] [],
  .ite (.cmp .Eq FT i1) [.ret (bO ON (.loc 84))] [],
  .assign 190 (Bl [92,32,10,9]),
  .ret (bO (bO (.bin .Mult (sX [92]) (.cmp .Eq (.sub (.loc 190) i0) (sX [34]))) (.loc 190)) (.loc 84))]
noncomputable def zK:List Nat:=[100]
noncomputable def Of:X:=.comp (.cmp .Is (.loc 94) (.cst (.bool true))) (.one 94) (.tup [(.call 46 [(.loc 92)]),(.call 43 [(.loc 92)]),(.call 45 [(.loc 92)])]) [] [42,94]
noncomputable def yD:X:=.ite (.yf 27 (.loc 82)) (.bin .Sub (.bin .Mult (.cst (.int 5)) (.xV 27 (.loc 82))) (.cst (.int 15))) (.ite (.loc 82) (.bin .Sub (bO (.jo 28) (.call 0 [(.loc 192)])) i1) i0)
noncomputable def kX(a b c:Bool):X:=.cmp .Eq (.loc 93) (.lst [.cst (.bool a),.cst (.bool b),.cst (.bool c)])
noncomputable def pk(i j:X):X:=.sub (.sub (.loc 193) i) j
noncomputable def BB:X:=.tup [bO (bO (.lst [(.sub (.loc 192) i0)]) (.comp (bO (.loc 9) i1) (.one 9) (.slc (.loc 192) (some i1) (some m1) .none) [] [42,9])) (.lst [(.sub (.loc 192) m1)]),(.loc 194)]
noncomputable def NB:List S:=[.expr (.bY 10 (.loc 193) [(.tup [(.bin .Sub (.call 0 [(.loc 192)]) i1),(.call 0 [(.loc 192)])])]),.expr (.bY 10 (.loc 192) [i0])]
noncomputable def NR:List S:=[.expr (.bY 10 (.loc 194) [(.tup [pk m2 i0,pk m1 i0,pk m1 i1])]),
  .assign 193 (.u6 (.slc (.loc 193) .none (some m2) .none) (.lst [(.tup [pk m2 i0,pk m1 i1])]))]
noncomputable def OU:List S:=[.wg 192 m1 i1,.ite (.cmp .Eq (.bin .Mod (.loc 92) i2) i1) NR []]
noncomputable def ny:List S:=[.assign 92 yD,.assign 93 Of,.ite (kX true true false) [.ret BB] [],.ite (kX false false true) NB [],.ite (kX false true false) OU []]
noncomputable def wz:List S:=[.unpack [192,193,194] (.tup [(.jD [i0]),(.jD []),(.jD [])]),
  .for (.one 82) (.loc 100) ny,
  .ret (.tup [(.lst []),(.lst [])])]
noncomputable def zH:List Nat:=[88,192]
noncomputable def oM:List Nat:=[97,98,99,100,101,102,103,104]
noncomputable def OC:X:=.rP (.gen (.loc 103) (.one 103) (.tup [(.sub (sX oM) (.loc 84)),(.bin .Mult (sX [124]) (.bin .Sub (.loc 9) i1))]) []) (.many [84,9]) (.enum (.loc 192)) [] [42,84,9,103]
noncomputable def tZ:X:=.bY 22 (.loc 88) []
noncomputable def yV(x:X):S:=.expr (.bY 23 (.loc 88) [x])
noncomputable def rM:X:=.lst [tZ,tZ]
noncomputable def yR(l:List Nat):X:=.comp (.bY 40 (sX oM) [(.sub (.loc 169) i0)]) (.one 169) (.tup (l.map .loc)) [] [42,169]
noncomputable def zd(i:Nat):X:=.lst [(.sub (.loc i) i0),(.slc (.sub (.loc i) i1) .none (some m1) .none)]
noncomputable def Bm:List S:=[.assign 198 rM,.expr (.bY 10 (.loc 197) [yR [196,82,198]]),.unpack [196,82] (.tup [zd 196,zd 198])]
noncomputable def AU:List S:=[yV (.sub (.loc 196) i0),yV (.sub (.loc 196) i1),.unpack [196,82] (.tup [(.loc 82),rM])]
noncomputable def GZ:List S:=[.ite (.cmp .Eq (.call 0 [(.loc 197)]) (.bin .Sub (.call 0 [(.loc 192)]) i2)) [.brk] [],
  .ite (.cmp .Eq (.sub (.loc 82) i1) (sX [])) Bm AU]
noncomputable def wA:List S:=[.for (.one 82) OC [yV (.loc 82)],
  .unpack [196,82] (.tup [rM,rM]),
  .assign 197 (.jD []),
  .for (.one 91) (.range [(.cst (.int 40))]) GZ,
  .ret (.tup [(.loc 197),yR [196,82]])]
noncomputable def zW:List Nat:=[197,200,101,97,201]
noncomputable def cI(a j:Nat):X:=.sub (.loc a) (.cst (.int j))
noncomputable def l9(i k:Nat)(d:Int):X:=.bin .Div (cI i k) (.cst (.int d))
noncomputable def Bp(f i:Nat):X:=.call f [cI i 0,cI i 1,cI i 2]
noncomputable def MO:X:=.comp (bO (.loc 169) (.loc 204)) (.many [169,204]) (.zip (.sub (.loc 202) (cI 153 0)) (.sub (.loc 202) (cI 153 2))) [] [42,169,204]
noncomputable def Bs(f:Nat):X:=.call f [l9 203 0 512,l9 203 1 512,l9 203 2 512]
noncomputable def ze:X:=.bin .Div i1 i2
noncomputable def rS(i:Nat):X:=.bin .Div (.loc i) i4
noncomputable def Gf:List S:=[.assign 100 (Bs 66),.unpack [205,114] (.tup [Bp 68 100,(.call 68 [bO (cI 100 0) ze,rS 97,rS 201])])]
noncomputable def Gl:List S:=[.assign 100 (Bs 47),.unpack [205,114] (.tup [Bp 61 100,(.call 61 [(.bin .Sub (cI 100 0) ze),cI 98 1,cI 98 2])])]
noncomputable def BY(d:Int)(i:Nat):X:=.comp (.bin .FloorDiv (.call 5 [bO (.bin .Mult (.cst (.int d)) (.loc 103)) i1]) i2) (.one 103) (.loc i) [] [42,103]
noncomputable def F3:X:=.or [(.cmp .NotEq (BY 1024 205) (.loc 203)),(.not (.vG .LtE .LtE i0 (cI 100 0) i1))]
noncomputable def BL:List S:=[.assign 203 MO,.ite (.cmp .Eq (.bin .Mod (.loc 111) i2) i0) Gf Gl,.ite F3 [.ret (.q6 [])] [],.store 202 (cI 153 1) (BY 512 114)]
noncomputable def w6:List S:=[.assign 98 (.call 47 [l9 101 0 256,l9 101 1 256,l9 101 2 256]),
  .assign 202 (.q6 [cI 200 0,(.loc 101),cI 200 1,(.lst [cI 101 2,cI 101 0,cI 101 1])]),
  .for (.many [111,153]) (.enum (.slc (.loc 197) .none .none (some m1))) BL,
  .ret (.loc 202)]
noncomputable def zZ:List Nat:=[207,187,197,202]
noncomputable def nD(i j:Nat):X:=.sub (.sub (.loc 208) (.loc i)) (.cst (.int j))
noncomputable def Bv(j:Nat):X:=bO (nD 129 j) (nD 117 j)
noncomputable def GB:List S:=[.store 208 (.loc 7) (.tup [Bv 0,Bv 1])]
noncomputable def OL:X:=.rP (.gen (.gen (.tup [(.loc 169),(.loc 204)]) (.one 204) (.loc 153) [(.cmp .NotEq (.loc 169) (.loc 204))]) (.one 169) (.loc 153) []) (.one 153) (.loc 197) [] [42,153,169,204]
noncomputable def mq:X:=.call 0 [(.loc 207)]
noncomputable def Hv:X:=.lst [(.loc 179),(.cmp .Eq (.loc 179) i1),(.cmp .Eq (.bin .Mod (.loc 179) i2) i0)]
noncomputable def EX:X:=.lst [(.call 37 [(.bin .Sub (.bin .Mult (nD 69 0) (nD 210 1)) (.bin .Mult (nD 69 1) (nD 210 0)))]),(.cmp .In (.tup [(.loc 69),(.loc 210)]) (.loc 146)),(.cmp .Eq (.sub (.loc 202) (.loc 69)) (.sub (.loc 202) (.loc 210)))]
noncomputable def Cb:List S:=[.assign 210 (.bin .Mod (bO (.loc 69) (.loc 178)) mq),.ite (.cmp .NotEq Hv EX) [.ret (.cst (.bool false))] [],
  .unpack [209,179] (.tup [(.loc 179),(.bin .Sub (.bin .Mult (.sub (.loc 207) (.loc 210)) (.loc 179)) (.loc 209))])]
noncomputable def GC:List S:=[.unpack [209,179] (.tup [i0,i1]),.for (.one 178) (.range [i1,bO mq i1]) Cb]
noncomputable def w5:List S:=[.assign 208 (.q6 [i0,(.tup [i1,i0]),(.bin .Sub mq i1),(.tup [i0,i1])]),
  .for (.many [129,7,117]) (.slc (.loc 187) .none .none (some m1)) GB,
  .assign 146 OL,
  .for (.one 69) (.range [mq]) GC,
  .ret (.cst (.bool true))]
noncomputable def Z6:List Nat:=[119]
noncomputable def G2:X:=.comp (.bin .Mod (.loc 44) (.bin .Pow (.cst (.int 10)) (.cst (.int 6)))) (.one 44) (.slc (.loc 119) .none (some (.cst (.int 60))) .none) [] [42,44]
noncomputable def GV:X:=.comp (bO (.loc 123) (.call 1 [(.slc (.loc 120) (some (.loc 111)) .none (some i4))])) (.many [111,123]) (.enum (.lst [i4,(.cst (.int 1234)),(.cst (.int 40)),(.cst (.int 1862))])) [] [42,111,123]
noncomputable def GD:X:=.slc (.bY 8 (sX []) [(.comp (.call 81 [(.loc 82),(.bin .FloorDiv (.loc 122) nc)]) (.many [111,82]) (.enum (.loc 125)) [] [42,111,82])]) .none (some m1) .none
noncomputable def zB:X:=bO (.loc 125) (.lst [sX []])
noncomputable def CH:X:=.or [(.cmp .NotEq (.loc 100) zB),(.cmp .NotEq (.attr 26 (.loc 88)) (bO i1 (.bY 9 (.loc 18) [sX [10]]))),(.cmp .NotEq (.call 2 [(.loc 194)]) (.call 2 [(.loc 187)]))]
noncomputable def GQ:X:=bO (.loc 124) i1
noncomputable def Cz:X:=.cmp .NotEq (.call 2 [bO (.comp (cI 153 1) (.one 153) (.loc 197) [] [42,153]) (.loc 200)]) (.yc GQ)
noncomputable def uz(d:Int):X:=bO i1 (.bin .Mod (.bin .FloorDiv (.loc 96) (.cst (.int d))) i4)
noncomputable def Gj:X:=.comp (.call 4 [(.bin .Mod (.bin .Sub (.bin .Mult i3 (.loc 65)) (.loc 213)) (.cst (.int 96))),(.bin .Mod (.bin .Sub (.loc 213) (.bin .Mult i3 (.loc 65))) (.cst (.int 96)))]) (.one 213) (.tup [i0,(.cst (.int 32)),(.cst (.int 64))]) [] [42,213]
noncomputable def Gd:X:=.comp (.bin .Mult (.loc 201) (.bin .Sub (.cst (.int 64)) (.bin .Mult (.loc 97) (.call 4 [(.call 3 [(.bin .Sub (.loc 214) (.cst (.int 16))),i0]),(.cst (.int 16))])))) (.one 214) (.loc 212) [] [42,214]
noncomputable def Nn:X:=.and [(.cmp .Eq (.call 68 [(.bin .Div (.loc 65) (.cst (.int 32))),rS 97,rS 201]) (.call 35 [(.comp (.bin .Div (.loc 103) (.cst (.int 256))) (.one 103) (.loc 101) [] [42,103])])),(.ya (.loc 202)),(.call 206 [(.loc 207),(.loc 187),(.loc 197),(.loc 202)])]
noncomputable def HP:List S:=[.assign 120 G2,
  .unpack [211,180,122,96] GV,
  .assign 124 (bO i4 (.bin .Mod (.loc 211) i4)),
  .assign 187 (.call 186 [(.loc 124),(.bin .FloorDiv (.loc 211) i4)]),
  .assign 125 (.call 188 [(.loc 124),(.loc 187),(.loc 180)]),
  .assign 18 GD,
  .kG 88 (.call 34 [(.loc 18)]),
  .assign 100 (.comp tZ (.one 82) zB [] [42,82]),
  .unpack [207,194] (.call 191 [(.loc 100)]),
  .ite CH [.ret (.cst (.bool false))] [],
  .unpack [197,200] (.call 195 [(.loc 88),(.loc 207)]),
  .ite Cz [.ret (.cst (.bool false))] [],
  .unpack [65,97,201] (.tup [(.bin .Mod (.loc 96) (.cst (.int 128))),uz 128,uz 512]),
  .assign 212 Gj,
  .assign 101 Gd,
  .assign 202 (.call 199 [(.loc 197),(.loc 200),(.loc 101),(.loc 97),(.loc 201)]),
  .ret Nn]
noncomputable def dO:pg:=⟨4599676419421066581,4595172819793696085,4604180019048437077⟩
noncomputable def Py(n:Nat)(args:List V)(O:Mu):Option (V×Mu):=match args with
 |[.str t]=>if 11<=n then(zV O t).map λp=>(.mut p.1,p.2)else .none
 |_=>.none
noncomputable def g0:G:=gL dO
noncomputable def gV:G:=gv g0 64 (cF g0 F8 F5)
noncomputable def gC:G:=gv (gv (gv (gv g0 61 (cF gV DG Ac)) 47 (cF g0 DE Ab)) 66 (cF g0 DF z9)) 68 (cF g0 xd qU)
noncomputable def gK:G:=gv (gv (gv g0 43 (cF g0 xm Ad)) 45 (cF g0 DJ DI)) 46 (cF g0 CX CV)
noncomputable def gE:G:=vz (vz g0 22 (mF g0 nP nM)) 23 (mF g0 DT DH)
noncomputable def gF:G:=vz (gv (gv (gv (gv (gv (gv (gv (gv (gv g0 34 Py) 186 (cF g0 zJ wm)) 188 (cF g0 zP wH)) 81 (cF g0 xo pW)) 191 (cF gK zK wz)) 195 (cF gE zH wA)) 199 (cF gC zW w6)) 206 (cF g0 zZ w5)) 68 (cF g0 xd qU)) 22 (mF g0 nP nM)
theorem Nz(d k:Nat):Int.fdiv (d:Int) (k:Int)=((d / k:Nat):Int):=by
 rw[g6k _ (lB k)];rfl
theorem GW(d k:Nat):Int.fmod (d:Int) (k:Int)=((d%k:Nat):Int):=by
 rw[Int.fmod_eq_emod_of_nonneg _ (lB k)];rfl
theorem CL(h:k<n):fz (k:Int) n=some k:=by
 unfold fz;rw[if_neg (i6.mpr (lB k))];dsimp only;rw[if_pos (by rw[decide_eq_true (lB k),decide_eq_true (sZ.mpr h)];rfl)];rfl
theorem Ia(h:k+1<=n):fz (-((k:Int)+1)) n=some (n-(k+1)):=by
 unfold fz;have e:-((k:Int)+1)+(n:Int)=((n-(k+1):Nat):Int):=by rw[pQ h,g6b,xH];rfl
 rw[if_pos (show -((k:Int)+1)<0 from Int.negSucc_lt_zero k),e];dsimp only;rw[decide_eq_true (lB _),decide_eq_true (sZ.mpr (Ak (fk (Ai k) h) (Ai k)))];rfl
theorem IL(h:l[k]?=some v)(hz:l.length<=big):item (.lst l) (.int (k:Int))=some v:=by
 unfold item;simp only;rw[if_pos hz,CL (cM.mp h).1];exact h
theorem Q7(l:List (List Nat)):r4 (l.map .str)=some l:=by
 induction l with
 |nil=>rfl
 |cons a l ih=>exact congrArg (qK (a::·)) ih
theorem Rg(l:List Int):j5 (l.map .int)=some l:=by
 induction l with
 |nil=>rfl
 |cons a l ih=>exact congrArg (qK (a::·)) ih
theorem Q2:∀l:List (List Nat),qm [] l=l.flatten:=by
 intro z_;induction z_ with
 |nil=>
  exact rfl
 |cons x z_ ih=>induction z_ using aN with
  |nil=>
   exact(gm x).symm
  |cons y r=>
   show x++[]++qm [] (y::r)=_;rw[gm,ih];rfl
theorem CQ(i:Nat)(u v:V):∀J:aB,put i v (put i u J)=put i v J:=by
 intro z_;induction z_ with
 |nil=>
  exact if_pos (beq_self_eq_true i)
 |cons p r ih=>
  induction h:p.1==i using eo with
  |true=>
   rw[show put i u (p::r)=(i,u)::r from if_pos h,show put i v (p::r)=(i,v)::r from if_pos h];exact if_pos (beq_self_eq_true i)
  |false=>
   rw[show put i u (p::r)=p::put i u r from if_neg (nf h),show put i v (p::r)=p::put i v r from if_neg (nf h)];exact(if_neg (nf h)).trans (congrArg (p::·) (ih))
theorem d4x(h:i≠j)(u v w:V):∀J:aB,put i w (put j v (put i u J))=put j v (put i w J):=λJ=>by
 have hij:¬(i==j)=true:=λq=>h (eq_of_beq q);have hji:¬(j==i)=true:=λq=>h (eq_of_beq q).symm;induction J with
 |nil=>
  rw[show put j v (put i u [])=[(i,u),(j,v)]from if_neg hij,show put j v (put i w [])=[(i,w),(j,v)]from if_neg hij];exact if_pos (beq_self_eq_true i)
 |cons p r ih=>
  induction h1:p.1==i using eo with
  |true=>
   rw[show put i u (p::r)=(i,u)::r from if_pos h1,show put i w (p::r)=(i,w)::r from if_pos h1,show put j v ((i,u)::r)=(i,u)::put j v r from if_neg hij,show put j v ((i,w)::r)=(i,w)::put j v r from if_neg hij];exact if_pos (beq_self_eq_true i)
  |false=>
   rw[show put i u (p::r)=p::put i u r from if_neg (nf h1),show put i w (p::r)=p::put i w r from if_neg (nf h1)];induction h2:p.1==j using eo with
   |true=>
    rw[show put j v (p::put i u r)=(j,v)::put i u r from if_pos h2,show put j v (p::put i w r)=(j,v)::put i w r from if_pos h2];exact(if_neg hji).trans (congrArg (List.cons (j,v)) (CQ i u w r))
   |false=>
    rw[show put j v (p::put i u r)=p::put j v (put i u r)from if_neg (nf h2),show put j v (p::put i w r)=p::put j v (put i w r)from if_neg (nf h2)];exact(if_neg (nf h1)).trans (congrArg (List.cons p) ih)
theorem Q0(h:i≠j)(u v u' v':V)(J:aB):put j v' (put i u' (put j v (put i u J)))=put j v' (put i u' J):=by
 rw[d4x h,CQ]
variable {lv:C3}
section
variable {f:X->aB->Mu->Option (V×Mu)}{elt x:X}{h:α->V}{g:α->V}{p:α->Bool}
theorem IX{t:T}{ifs:List X}{hv:α->V}{B:α->aB->aB}(hb:∀a J,dD t (hv a) J=some (B a J))(hB:∀a b J,B b (B a J)=B b J)(l:List α):∀J:aB,(∀a∈l,j0 (λx O=>f x (B a J) O) ifs O=some (p a,O))->(∀a∈l,p a=true->f elt (B a J) O=some (g a,O))->jw f elt t ifs (l.map hv) J O=some ((l.filter p).map g,O):=by
 induction l with
 |nil=>intro J _ _;rfl
 |cons a l ih=>
  intro J H1 H2;have e:=ih (B a J) (λb h=>by rw[hB];exact H1 b (fX _ h)) λb h q=>by rw[hB];exact H2 b (fX _ h) q
  show(match (generalizing:=false) dD t (hv a) J with
  |.none=>cZ
  |some J=>match j0 (λx O=>f x J O) ifs O with
   |.none=>.none
   |some (false,O)=>jw f elt t ifs (l.map hv) J O
   |some (true,O)=>match f elt J O with
    |.none=>.none
    |some (y,O)=>match jw f elt t ifs (l.map hv) J O with
     |.none=>.none
     |some (ys,O)=>some (y::ys,O))=_
  rw[hb];dsimp only;rw[H1 a fW];induction hp:p a using eo with
  |true=>
   dsimp only;rw[H2 a fW hp];dsimp only;rw[e,Aw hp];rfl
  |false=>rw[D7 (nf hp)];exact e
theorem Ij{f:X->Mu->Option (V×Mu)}(h:f x O=some (.bool b,O)):j0 f [x] O=some (b,O):=by
 show(match (generalizing:=false) f x O with|some (v,O)=>(match eZ (bg O v)with|some true=>some (true,O)|some false=>some (false,O)|.none=>cZ)|.none=>cZ)=_
 rw[h];cases b<;>rfl
theorem P9(l:List α):l.filter (λzz=>true)=l:=List.filter_eq_self.mpr λzz zz=>rfl
theorem pA(l:List α)(J:aB)(H:∀a∈l,f elt (put i (h a) J) O=some (g a,O)):jw f elt (.one i) [] (l.map h) J O=some (l.map g,O):=
 (IX (p:=λzz=>true) (B:=λa J=>put i (h a) J) (λzz zz=>rfl) (λzz zz J=>CQ i _ _ J) l J (λzz zz=>rfl) λa ha zz=>H a ha).trans (by rw[P9])
theorem b7m(l:List α)(J:aB)(H1:∀a∈l,f x (put i (h a) J) O=some (.bool (p a),O))(H2:∀a∈l,p a=true->f elt (put i (h a) J) O=some (g a,O)):jw f elt (.one i) [x] (l.map h) J O=some ((l.filter p).map g,O):=
 IX (B:=λa J=>put i (h a) J) (λzz zz=>rfl) (λzz zz J=>CQ i _ _ J) l J (λa ha=>Ij (H1 a ha)) H2
theorem QW{h1 h2:α->V}(hij:i≠j)(l:List α)(J:aB)(H:∀a∈l,f elt (put j (h2 a) (put i (h1 a) J)) O=some (g a,O)):jw f elt (.many [i,j]) [] (l.map λa=>.tup [h1 a,h2 a]) J O=some (l.map g,O):=
 (IX (p:=λzz=>true) (B:=λa J=>put j (h2 a) (put i (h1 a) J)) (λzz zz=>rfl) (λzz zz J=>Q0 hij _ _ _ _ J) l J (λzz zz=>rfl) λa ha zz=>H a ha).trans (by rw[P9])
end
structure Enc{α:Type}[DecidableEq α](ok:α->Prop)(d:Nat)(f:α->V)(p:α->nO):Prop where
 to:∀a,iD (f a)=some (p a)
 lay:∀a,ok a->(p a).canLay0=true
 dep:∀a,(p a).depth<=d
 eq:∀a b,(p a).eqv (p b)=decide (a=b)
theorem encInt:Enc (λzz:Int=>True) 0 V.int RZ where
 to:=λa=>rfl
 lay:=λa zz=>rfl
 dep:=λa=>by simp[xg]
 eq:=λa b=>by simp only[Ah];rw[J4];simp
def iy(s:List Nat):Prop:=∀c∈s,c<1114112
theorem encStr:Enc iy 0 V.str (λs=>.str ⟨s.toArray⟩) where
 to:=λa=>rfl
 lay:=λa h=>by
  show pG _=true;unfold pG;simpa[iy]using h
 dep:=λa=>by simp[xg]
 eq:=λa b=>by
  simp only[Ah];by_cases h:a=b
  ·subst h;simp
  ·simp[h]
section
variable [DecidableEq α]{ok:α->Prop}{f:α->V}{p:α->nO}
theorem Enc.toPys(e:Enc ok d f p):∀l:List α,Internal.toPys (l.map f)=some (l.map p):=by
 intro z_;induction z_ with
 |nil=>
  exact rfl
 |cons a l ih=>
  show(match (generalizing:=false) iD (f a),Internal.toPys (l.map f)with|some a,some b=>some (a::b)|_,_=>cZ)=_
  rw[e.to,ih];rfl
theorem Enc.Lg(e:Enc ok d f p):∀l:List α,(∀a∈l,ok a)->R0 (l.map p)=true:=by
 intro z_;induction z_ with
 |nil=>
  intro _;exact rfl
 |cons a l ih=>
  intro h;simp only[fm,R0,jm];exact⟨e.lay a (h a (by simp)),ih λb hb=>h b (by simp[hb])⟩
theorem Enc.OQ(e:Enc ok d f p):∀l:List α,DR (l.map p)<=d:=by
 intro z_;induction z_ with
 |nil=>
  simp[DR]
 |cons a l ih=>
  simp only[fm,DR];exact Nat.max_le.mpr ⟨e.dep a,ih⟩
theorem Enc.NL(e:Enc ok d f p):∀l l':List α,g3x (l.map p) (l'.map p)=decide (l=l'):=by
 intro l;induction l with
 |nil=>intro l';cases l'<;>rfl
 |cons a l ih=>
  intro l';induction l' using aN with
  |nil=>rfl
  |cons b l'=>
   show(((p a).eqv (p b))&&g3x (l.map p) (l'.map p))=_;rw[e.eq,ih,J4,jm,decide_eq_true_eq,decide_eq_true_eq,decide_eq_true_eq,uQ]
theorem Enc.list(e:Enc ok d f p):Enc (λl:List α=>∀a∈l,ok a) (d+1) (λl=>.lst (l.map f)) (λl=>.list (l.map p)) where
 to:=λl=>congrArg (qK _) (e.toPys l)
 lay:=λl h=>by simp only[Jv];exact e.Lg l h
 dep:=λl=>by simp only[xg];have:=e.OQ l;exact dc this
 eq:=λl l'=>by simp only[Ah];exact e.NL l l'
theorem Enc.shaped(e:Enc ok d f p)(hd:d<=64){a:α}(h:ok a):jO (p a)=true:=by
 unfold jO;rw[jm,decide_eq_true_eq];exact⟨e.lay a h,aV (e.dep a) hd⟩
theorem Enc.eqv(e:Enc ok d f p)(hd:d<=64){a b:α}(ha:ok a)(hb:ok b):Internal.eqv (f a) (f b)=some (decide (a=b)):=by
 unfold Internal.eqv;rw[e.to,e.to];exact(if_pos (by rw[e.shaped hd ha,e.shaped hd hb];rfl)).trans (congrArg some (e.eq a b))
theorem Enc.Ck(e:Enc ok d f p)(hd:d<=64){a b:α}(ha:ok a)(hb:ok b):cR .Eq (f a) (f b)=some (decide (a=b)):=BC (e.eqv hd ha hb)
theorem Enc.vF(e:Enc ok d f p)(hd:d<=64){a b:α}(ha:ok a)(hb:ok b):cR .NotEq (f a) (f b)=some (!decide (a=b)):=by
 rw[Xd,e.eqv hd ha hb];rfl
theorem Enc.g3c(e:Enc ok d f p)(a:α):∀l:List α,(l.map p).any (λy=>y.eqv (p a))=decide (a∈l):=by
 intro z_;induction z_ with
 |nil=>
  simp
 |cons b l ih=>
  simp only[fm,g5w,e.eq,ih,bT];by_cases h:b=a
  ·subst h;simp
  ·have h':¬ a=b:=λq=>h q.symm
   simp[h,h']
theorem Enc.g2v(e:Enc ok d f p)(hd:d+1<=64){a:α}{l:List α}(ha:ok a)(hl:∀b∈l,ok b):cR .In (f a) (.lst (l.map f))=some (decide (a∈l)):=by
 have h1:jO (p a)=true:=e.shaped (by exact cy hd) ha;have h2:jO (.list (l.map p))=true:=e.list.shaped (a:=l) hd hl;have:vA (f a) (.lst (l.map f))=some ((l.map p).any λy=>y.eqv (p a)):=by
  rw[P8,e.to,e.toPys];exact if_pos (by rw[h1,h2];rfl)
 rw[Xe,this,e.g3c]
theorem Enc.tup(e:Enc ok d f p):Enc (λl:List α=>∀a∈l,ok a) (d+1) (λl=>.tup (l.map f)) (λl=>.tuple (l.map p)) where
 to:=λl=>congrArg (qK _) (e.toPys l)
 lay:=λl h=>by simp only[Jv];exact e.Lg l h
 dep:=λl=>by simp only[xg];have:=e.OQ l;exact dc this
 eq:=λl l'=>by simp only[Ah];exact e.NL l l'
end
theorem Z0:Enc (λzz:Bool=>True) 0 V.bool nO.bool where
 to:=λa=>rfl
 lay:=λa zz=>rfl
 dep:=λa=>by simp[xg]
 eq:=λa b=>by cases a<;>cases b<;>rfl
theorem ZZ:Enc (λzz:Int×Bool×Bool=>True) 1 (λt=>V.lst [.int t.1,.bool t.2.1,.bool t.2.2]) (λt=>RY [.int t.1,.bool t.2.1,.bool t.2.2]) where
 to:=λa=>rfl
 lay:=λa zz=>rfl
 dep:=λa=>by simp[xg,DR]
 eq:=λa b=>by
  obtain⟨i,p,q⟩:=a;obtain⟨j,r,t⟩:=b;show(i==j&&(p==r&&(q==t&&true)))=_;rw[J4];simp
theorem Gx:Enc (λl:List Int=>∀a∈l,True) 1 (λl=>V.lst (l.map .int)) (λl=>RY (l.map .int)):=encInt.list
theorem Dm(hz:l.length<=big):slice (.lst l) lo hi .none=some (.lst ((sliceRange (gu lo hi .none l.length).1 (gu lo hi .none l.length).2.1 (gu lo hi .none l.length).2.2).filterMap (l[·]?))):=by
 unfold slice;rw[if_neg (by decide)];simp only[if_pos hz]
section
theorem nL{f:aB->Mu->Option (F×aB×Mu)}{t:T}{r:List V}(hb:dD t v J=some bu)(hf:f bu O=some (.next,dY,bS)):eB f t (v::r) J O=eB f t r dY bS:=by
 show(match (generalizing:=false) dD t v J with|.none=>cZ|some J=>match f J O with|.none=>.none|some (.brk,J,O)=>some (F.next,J,O)|some (.ret v,J,O)=>some (F.ret v,J,O)|some (_,J,O)=>eB f t r J O)=_
 rw[hb];dsimp only;rw[hf]
theorem d2y{f:aB->Mu->Option (F×aB×Mu)}{t:T}{r:List V}(hb:dD t v J=some bu)(hf:f bu O=some (.ret u,dY,bS)):eB f t (v::r) J O=some (.ret u,dY,bS):=by
 show(match (generalizing:=false) dD t v J with|.none=>cZ|some J=>match f J O with|.none=>.none|some (.brk,J,O)=>some (F.next,J,O)|some (.ret v,J,O)=>some (F.ret v,J,O)|some (_,J,O)=>eB f t r J O)=_
 rw[hb];dsimp only;rw[hf]
theorem uH{f:X->aB->Mu->Option (V×Mu)}{elt:X}{t:T}{y:V}{r ys:List V}(hb:dD t v J=some bu)(hf:f elt bu O=some (y,aE))(h:jw f elt t [] r bu aE=some (ys,bS)):jw f elt t [] (v::r) J O=some (y::ys,bS):=by
 show(match (generalizing:=false) dD t v J with|.none=>cZ|some J=>match f elt J O with|.none=>.none|some (y,O)=>match jw f elt t [] r J O with|.none=>.none|some (ys,O)=>some (y::ys,O))=_
 rw[hb];dsimp only;rw[hf];dsimp only;rw[h]
end
theorem BS(a b:Int):cR .Eq (.int a) (.int b)=some (decide (a=b)):=BC (encInt.eqv (nb rfl) trivial trivial)
theorem yH:cR .Eq (.int (j:Int)) (.int (m:Int))=some (decide (j=m)):=(BS _ _).trans (congrArg some (decide_eq_decide.mpr g6d))
theorem NI(a b:Int):cR .NotEq (.int a) (.int b)=some (!decide (a=b)):=encInt.vF (nb rfl) trivial trivial
section
theorem sD(h:d<2^60):small (d:Int)=true:=decide_eq_true h
theorem OR(h:k≠0):((k:Int) != 0)=true:=bne_iff_ne.mpr λq=>h (qS q)
theorem r8(d k:Nat)(hk:k≠0)(hs:k<2^60):cP .FloorDiv (.int (d:Int)) (.int (k:Int))=some (.int ((d / k:Nat):Int)):=by
 rw[CM,OR hk,sD hs,Nz];rfl
theorem lM(d k:Nat)(hk:k≠0):cP .Mod (.int (d:Int)) (.int (k:Int))=some (.int ((d%k:Nat):Int)):=by
 rw[Cu,OR hk,GW];rfl
theorem oH{x:List Nat}(h:x.length+y.length<=big):cP .Add (.str x) (.str y)=some (.str (x++y)):=by
 rw[Cy];exact if_pos (decide_eq_true h)
theorem Xz{b:Nat}(h:b<2):b=0∨b=1:=(by decide:∀b<2,b=0∨b=1) b h
theorem Wy{x:List Nat}(hk:k<2)(hx:x.length<=1000):cP .Mult (.str x) (.int (k:Int))=some (.str (eH k x).flatten):=by
 rw[zE,sD (fj hk (nb rfl)),Int.toNat_natCast,Ec];exact if_pos (decide_eq_true (aV (R8 hx (lq hk)) (nb rfl)))
theorem PI{x:List Nat}(hk:k<2):(eH k x).flatten.length<=x.length:=by
 rcases Xz hk with rfl|rfl
 ·exact iV _
 ·rw[show(eH 1 x).flatten=x from gm x];exact bV _
theorem ZG{a b:X}{p q:Bool}(h1:ev Z n a J O=some (.bool p,O))(h2:ev Z n b J O=some (.bool q,O)):ev Z (n+1) (.or [a,b]) J O=some (.bool (p||q),O):=by
 show p9 (λx O=>ev Z n x J O) [a,b] O=_;rw[Gh,h1];cases p
 ·exact h2
 ·rfl
theorem e2n(h:n<1000):o9 [.int (n:Int)]=some ((dw n).map λ(i:Nat)=>V.int (i:Int)):=by
 have hs:pY 0 (n:Int) 1=true:=(by decide +kernel:∀n<1000,pY 0 ((n:Nat):Int) 1=true) n h;have hz:(nU 0 (n:Int) 1).toNat=n:=(by decide +kernel:∀n<1000,(nU 0 ((n:Nat):Int) 1).toNat=n) n h;rw[d5x hs];unfold mP;rw[hz];refine congrArg some (Sz λi zz=>?_);rw[Int.mul_one,Int.zero_add]
theorem RD{e:X}{a b c:V}(h:ev Z n e J O=some (.tup [a,b,c],ai)):aQ Z n (.unpack [i,j,k] e) J O=some (.next,put k c (put j b (put i a J)),ai):=by
 simp only[De,Iv,GK,yQ,B9,G6,HA,H9,h];rfl
theorem pB{e:X}{a b:V}(h:ev Z n e J O=some (.tup [a,b],ai)):aQ Z n (.unpack [i,j] e) J O=some (.next,put j b (put i a J),ai):=by
 simp only[De,Iv,GK,yQ,B9,G6,HA,H9,h];rfl
end
theorem B7:1000<=big:=nb rfl
noncomputable def vS(ws:List (List Nat)):V:=.lst (ws.map .str)
def ay(J:aB)(l:List (Nat×V)):Prop:=∀i v,l.lookup i=some v->J.lookup i=some v
section
variable {M:Nat}{l:List (Nat×V)}
theorem gh(h:J.lookup i=some v)(h2:i≠j):(put j u J).lookup i=some v:=by
 rw[gi,if_neg h2,h]
theorem dM:(put j u J).lookup j=some u:=by
 rw[gi,if_pos rfl]
theorem qE{r:List (Nat×V)}:((i,v)::r).lookup j=if j=i then some v else r.lookup j:=by
 rw[ek];by_cases e:j=i
 ·rw[if_pos e,e,beq_self_eq_true]
 ·rw[if_neg e,beq_false_of_ne e]
theorem ay.put(k:ay J l)(i:Nat)(v:V):ay (Internal.put i v J) ((i,v)::l):=by
 intro j u h;rw[qE]at h;rw[gi];exact bZ h (λe h=>by rw[if_pos e];exact h) λe h=>by rw[if_neg e];exact k j u h
theorem ay.rest(K:ay J ((i,v)::l))(h:l.lookup i=.none):ay J l:=by
 intro j u e;refine K j u ?_;rw[qE,if_neg λq=>by rw[q,h]at e;exact ns e];exact e
theorem ay.nil:ay J []:=λzz zz h=>nomatch h
theorem ay.cons(h:J.lookup i=some v)(k:ay J l):ay J ((i,v)::l):=by
 intro j u e;rw[qE]at e;exact bZ e (λq e=>by rw[q,h];exact e) λzz e=>k j u e
theorem ay.self:ay l l:=λzz zz h=>h
theorem w9{own:List Nat}(h:own.contains i=false)(J:aB):(J.filter λp=>!own.contains p.1).lookup i=J.lookup i:=by
 induction J with
 |nil=>rfl
 |cons p r ih=>
  rw[qE];induction hj:own.contains p.1 using eo with
  |true=>
   rw[D7 (by rw[hj];exact gP),ih,if_neg λe=>by rw[←e,h]at hj;exact nt hj]
  |false=>rw[Aw (by rw[hj];rfl),qE,ih]
theorem ay.own{own:List Nat}(k:ay J l)(h:l.all (λp=>!own.contains p.1)=true):ay (J.filter λp=>!own.contains p.1) l:=by
 intro i v e;rw[w9 ?_]
 ·exact k i v e
 ·obtain⟨p,hp,rfl⟩:∃p∈l,p.1=i:=by
   clear k h;induction l with
   |nil=>exact ns e
   |cons p r ih=>
    rw[qE]at e;exact bZ e (λq zz=>⟨p,fW,q.symm⟩) λzz e=>(ih e).imp λzz=>qV (fX _)
  exact kM (cN.mp h p hp)
theorem ux{l:List V}{x:X}(hf:∀u O,Z.find 10 u O=B0 10 u O)(hm:∀n u args O,Z.bY n 10 u args O=BR n 10 u args O)(h1:J.lookup i=some (.mut k))(hv:ev Z (M+1) x J O=some (v,O))(hk:O[k]?=some (.list l))(hz:l.length<=big) :
  ev Z (M+2) (.bY 10 (.loc i) [x]) J O=some (.none,O.set k (.list (l++[v]))):=by
 refine(nI (ak h1) ((hf _ _).trans (IF hk)) (se hv)).trans ((hm _ _ _ _).trans ?_);show(match (generalizing:=false) O[k]? with|some (.list l)=>if l.length<=big then some (V.none,O.set k (.list (l++[v])))else .none|_=>.none)=_
 rw[hk];exact if_pos hz
theorem wC{l:List X}{vs:List V}(h:bU (λx O=>ev Z n x J O) l O=some (vs,ai))(hz:vs.length<=big):ev Z (n+1) (.jD l) J O=some (.mut ai.length,ai++[.list vs]):=by
 rw[Zy,h];exact if_pos hz
theorem CK{x:X}{l:List V}(hc:∀(n:Nat) (args:List V) (O:Mu),Z.call n 0 args O=vB args O)(h:ev Z n x J O=some (.lst l,O))(hz:l.length<=big):ev Z (n+1) (.call 0 [x]) J O=some (.int l.length,O):=
 (cL (bf h)).trans ((hc _ _ _).trans (if_pos hz))
end
inductive X3(Z:G)(n i:Nat)(e:X)(v:V)(J:aB)(O ai:Mu)(l:List (Nat×V)):Prop
 |mk (ρ':aB) (s:aQ Z n (.assign i e) J O=some (.next,ρ',ai)) (k:ay ρ' ((i,v)::l))
theorem qA{e:X}{l:List (Nat×V)}(h:ev Z n e J O=some (v,ai))(k:ay J l):X3 Z n i e v J O ai l:=⟨_,gX h,k.put i v⟩
noncomputable def tab(n:Nat)(f:Nat->V):List V:=(dw n).map f
theorem PJ(n:Nat)(f:Nat->V):(tab n f).length=n:=(aW ..).trans Au
theorem C6{x:X}(h:ev Z n x J O=some (.int (m:Int),O))(hm:m<1000):cT (λx O=>ev Z n x J O) (.range [x]) O=some (tab m λi=>.int i,O):=by
 rw[Gr,bf h];show(o9 [.int (m:Int)]).map _=_;rw[e2n hm];rfl
theorem c5x{x elt:X}{own:List Nat}{g:Nat->V}(h:ev Z n x J O=some (.int (m:Int),O))(hm:m<1000)(H:∀k<m,ev Z n elt (put i (.int k) (J.filter λp=>!own.contains p.1)) O=some (g k,O)):ev Z (n+1) (.comp elt (.one i) (.range [x]) [] own) J O=some (.lst (tab m g),O):=
 jL (C6 h hm) (by rw[PJ];exact aV (cy hm) B7) (pA (h:=λ(i:Nat)=>V.int i) (g:=g) (dw m) _ λk hk=>H k (pM.mp hk))
section
variable {M:Nat}
theorem zM(l:List V)(a k:Nat):((dw k).map (a+·)).filterMap (l[·]?)=(l.drop a).take k:=by
 have:=pick_run l.toArray a k;simpa using this
theorem c5m(k:Nat)(hz:l.length<=big):slice (.lst l) (some (k:Int)) .none .none=some (.lst (l.drop k)):=by
 rw[Dm hz,sliceBounds_plain];simp only[g4a,clipAt_nat,sliceRange_one,zM];rw[kmk_drop_min];rw[g4x (by rw[JS];exact Nat.sub_le_sub_left (Sb k l.length) l.length)]
theorem Rb(k:Nat)(hz:l.length<=big):slice (.lst l) .none (some (k:Int)) .none=some (.lst (l.take k)):=by
 rw[Dm hz,sliceBounds_plain];simp only[g4a,clipAt_nat,←Int.ofNat_zero];rw[show((0:Nat):Int)=((0:Nat):Int)from rfl,sliceRange_one,zM];simp only[SP,Nat.sub_zero];rw[kmk_take_min]
theorem qt{x:X}(h:ev Z n x J O=some (v,O)):kH (λx O=>ev Z n x J O) (some x) O=some (some v,O):=by
 show(match (generalizing:=false) ev Z n x J O with|some (v,O)=>some (some v,O)|.none=>.none)=_
 rw[h]
theorem uq{a:X}{lo hi st:Option X}{l h s:Option V}{pl ph ps:Option Int}(ha:ev Z n a J O=some (u,O))(h1:kH (λx O=>ev Z n x J O) lo O=some (l,O))(h2:kH (λx O=>ev Z n x J O) hi O=some (h,O))(h3:kH (λx O=>ev Z n x J O) st O=some (s,O))(p1:kP l=some pl)(p2:kP h=some ph)(p3:kP s=some ps)(hs:slice (bg O u) pl ph ps=some v):ev Z (n+1) (.slc a lo hi st) J O=some (v,O):=by
 simp only[NY,ha,h1,h2,h3,p1,p2,p3,hs,sH]
theorem d3p{a x:X}{k:Int}(h:ev Z n a J O=some (.lst l,O))(hc:ev Z n x J O=some (.int k,O))(hs:slice (.lst l) (some k) .none .none=some v):ev Z (n+1) (.slc a (some x) .none .none) J O=some (v,O):=
 uq h (qt hc) rfl rfl rfl rfl rfl hs
theorem QE{a x:X}{k:Int}(h:ev Z n a J O=some (.lst l,O))(hc:ev Z n x J O=some (.int k,O))(hs:slice (.lst l) .none (some k) .none=some v):ev Z (n+1) (.slc a .none (some x) .none) J O=some (v,O):=
 uq h rfl (qt hc) rfl rfl rfl rfl hs
theorem e7j{a b c:X}{w:V}{r:Bool}(h1:ev Z n a J O=some (u,O))(h2:ev Z n b J O=some (v,O))(h3:cR o1 (bg O u) (bg O v)=some true)(h4:ev Z n c J O=some (w,O))(h5:cR o2 (bg O v) (bg O w)=some r):ev Z (n+1) (.vG o1 o2 a b c) J O=some (.bool r,O):=by
 simp only[e8p,h1,h2,h3,h4,h5,sH]
theorem Xx{x:X}(h:ev Z n x J O=some (.bool b,O)):ev Z (n+1) (.not x) J O=some (.bool (!b),O):=by
 show(match (generalizing:=false) ev Z n x J O with|some (v,O)=>(eZ (bg O v)).map λb=>(V.bool (!b),O)|.none=>.none)=_
 rw[h];rfl
theorem e9e:∀n:Nat,n<8->sliceRange (gu .none .none (some (-1)) n).1 (gu .none .none (some (-1)) n).2.1 (gu .none .none (some (-1)) n).2.2=(dw n).reverse:=by decide +kernel
theorem d1s(h:l.length<8):slice (.lst l) .none .none (some (-1))=some (.lst l.reverse):=by
 unfold slice;refine(if_neg (by decide)).trans ?_;refine(if_pos (aV (cy h) (nb rfl))).trans ?_;rw[e9e _ h,List.filterMap_reverse];have:=zM l 0 l.length;rw[SP,sP,show(λx=>0+x)=(id:Nat->Nat)from funext kZ,List.map_id]at this;rw[this]
theorem Ro{a x:X}(h:ev Z M a J O=some (.lst l,O))(hx:ev Z M x J O=some (.int (-1),O))(hz:l.length<8):ev Z (M+1) (.slc a .none .none (some x)) J O=some (.lst l.reverse,O):=
 uq h rfl rfl (qt hx) rfl rfl rfl (d1s hz)
theorem nC:ev Z (n+2) m1 J O=some (.int (-1),O):=rfl
theorem GY:ev Z (n+2) m2 J O=some (.int (-2),O):=rfl
theorem N5:∀n:Nat,n<20->sliceRange (gu .none (some (-2)) .none n).1 (gu .none (some (-2)) .none n).2.1 (gu .none (some (-2)) .none n).2.2=(dw (n-2)).map (0+·)/\sliceRange (gu (some 1) (some (-1)) .none n).1 (gu (some 1) (some (-1)) .none n).2.1 (gu (some 1) (some (-1)) .none n).2.2=(dw (n-2)).map (1+·):=by decide +kernel
theorem c8j(h:l.length<20):slice (.lst l) .none (some (-2)) .none=some (.lst (l.take (l.length-2))):=by
 rw[Dm (aV (cy h) (nb rfl)),(N5 _ h).1,zM,SP]
theorem d6p(h:l.length<20):slice (.lst l) (some 1) (some (-1)) .none=some (.lst ((l.drop 1).take (l.length-2))):=by
 rw[Dm (aV (cy h) (nb rfl)),(N5 _ h).2,zM]
theorem c6d{a x:X}{j:Int}(h:ev Z n a J O=some (.mut k,O))(hk:O[k]?=some (.list l))(hc:ev Z n x J O=some (.int j,O))(hs:slice (.lst l) .none (some j) .none=some v):ev Z (n+1) (.slc a .none (some x) .none) J O=some (v,O):=
 uq h rfl (qt hc) rfl rfl rfl rfl (by rw[wZ hk];exact hs)
theorem b9e{a x y:X}{k j:Int}(h:ev Z n a J O=some (.mut m,O))(hk:O[m]?=some (.list l))(hc:ev Z n x J O=some (.int k,O))(hy:ev Z n y J O=some (.int j,O))(hs:slice (.lst l) (some k) (some j) .none=some v):ev Z (n+1) (.slc a (some x) (some y) .none) J O=some (v,O):=
 uq h (qt hc) (qt hy) rfl rfl rfl rfl (by rw[wZ hk];exact hs)
theorem HB{a b:X}{w:V}(h1:ev Z n a J O=some (.mut k,O))(hk:O[k]?=some (.list l))(h2:ev Z n b J O=some (v,O))(h3:item (.lst l) v=some w):ev Z (n+1) (.sub a b) J O=some (w,O):=
 dU h1 h2 (by rw[wZ hk];exact h3)
theorem Ie{x:X}(hc:∀(n:Nat) (args:List V) (O:Mu),Z.call n 0 args O=vB args O)(h:ev Z n x J O=some (.mut k,O))(hk:O[k]?=some (.list l))(hz:l.length<=big):ev Z (n+1) (.call 0 [x]) J O=some (.int l.length,O):=by
 refine(cL (bf h)).trans ((hc _ _ _).trans ?_);show(match O[k]? with|some (.list l)=>if l.length<=big then some (V.int l.length,O)else .none|_=>.none)=_
 rw[hk];exact if_pos hz
theorem e4d{a b:X}(h1:ev Z n a J O=some (u,O))(h2:ev Z n b J O=some (v,O))(h3:cP .Add (bg O u) (bg O v)=some (.lst l)):ev Z (n+1) (.u6 a b) J O=some (.mut O.length,O++[.list l]):=by
 rw[Zc,h1];dsimp only;rw[h2];dsimp only;rw[h3];rfl
theorem rG{x y:List V}(h:x.length+y.length<=big):cP .Add (.lst x) (.lst y)=some (.lst (x++y)):=by
 rw[CA];exact if_pos (decide_eq_true h)
theorem CE{a b:X}{l:List (Int×V)}{i:Int}{w:V}(h1:ev Z n a J O=some (.mut k,O))(hk:O[k]?=some (.dict l))(h2:ev Z n b J O=some (.int i,O))(h3:l.lookup i=some w):ev Z (n+1) (.sub a b) J O=some (w,O):=by
 rw[NC,h1];dsimp only;rw[h2];dsimp only;have hl:bg O (.mut k)=.mut k:=by rw[Gq,hk]
 unfold vP;rw[hl];show((oW O (.mut k)).bind λl=>l.lookup i).map _=_;rw[show oW O (.mut k)=some l by unfold oW;dsimp only;rw[hk]];show(l.lookup i).map _=_;rw[h3];rfl
theorem Rk{k e:X}{q:Int}{x:V}{l:List (Int×V)}(he:ev Z n e J O=some (x,O))(hi:J.lookup i=some (.mut j))(hk:ev Z n k J O=some (.int q,O))(hj:O[j]?=some (.dict l))(hz:l.length<=big):aQ Z n (.store i k e) J O=some (.next,J,O.set j (.dict ((q,x)::l))):=by
 show(match ev Z n e J O with
   |some (x,O)=>match J.lookup i with
    |some (.mut j)=>match ev Z n k J O with
     |some (.int q,O)=>match O[j]? with
      |some (.dict l)=>if l.length<=big then some (F.next,J,O.set j (.dict ((q,x)::l)))else .none
      |_=>.none
     |_=>.none
    |_=>.none
   |.none=>.none)=_
 rw[he];dsimp only;rw[hi];dsimp only;rw[hk];dsimp only;rw[hj];exact if_pos hz
theorem d2u{k e:X}{q a b:Int}(hi:J.lookup i=some (.mut j))(hk:ev Z n k J O=some (.int q,O))(hj:O[j]?=some (.list l))(ha:item (.lst l) (.int q)=some (.int a))(he:ev Z n e J O=some (.int b,O))(hz:l.length<=big/\q<0)(hp:fz q l.length=some p):aQ Z n (.wg i k e) J O=some (.next,J,O.set j (.list (l.set p (.int (a+b))))):=by
 show(match J.lookup i with
   |some (.mut j)=>match ev Z n k J O with
    |some (.int q,O)=>match item (bg O (.mut j)) (.int q)with
     |some (.int a)=>match ev Z n e J O with
      |some (.int b,O)=>match O[j]? with
       |some (.list l)=>if l.length<=big/\q<0 then(fz q l.length).map λp=>(F.next,J,O.set j (.list (l.set p (.int (a+b)))))else .none
       |_=>.none
      |_=>.none
     |_=>.none
    |_=>.none
   |_=>.none)=_
 rw[hi];dsimp only;rw[hk];dsimp only;rw[wZ hj,ha];dsimp only;rw[he];dsimp only;rw[hj];dsimp only;rw[if_pos hz,hp];rfl
theorem QS{s:List Nat}(hz:s.length<=big):slice (.str s) .none (some (-1)) .none=some (.str s.dropLast):=by
 unfold slice;refine(if_neg (by decide)).trans ?_;dsimp only;by_cases h0:s=[]
 ·subst h0;rfl
 ·have hl:1<=s.length:=List.length_pos_iff.mpr h0
  have e:AH .none (some (-1)) 1 s.length=(dw (s.length-1)).map (0+·):=by
   rw[StrLaws.sliceIdx_none_lo,StrLaws.sliceIdx_neg_hi _ _ (by decide) (by exact g6f (xF.mpr hl)),show(-1:Int)+(s.length:Int)=((s.length-1:Nat):Int)from(xH _ _).trans (Ey hl)];exact StrLaws.strSliceIndices_plain (a:=0) (b:=s.length-1) (len:=s.length) (iV _) (lS _ _)
  have p:((dw (s.length-1)).map (0+·)).filterMap (s[·]?)=s.dropLast:=by
   have:=pick_run s.toArray 0 (s.length-1);rw[List.dropLast_eq_take];simpa using this
  have l1:((dw (s.length-1)).map (0+·)).length=s.length-1:=by rw[aW,Au]
  have l2:(s.length-1==s.length)=false:=beq_false_of_ne (jk (Ak hl (nb rfl)));rw[show(cZ:Option Int).getD 1=1 from rfl,e,p,l1,l2];rw[if_pos ⟨hz,by rw[g5l];exact aV (lS _ _) hz⟩];rfl
theorem Rh{a x:X}{s:List Nat}{k:Int}(h:ev Z n a J O=some (.str s,O))(hc:ev Z n x J O=some (.int k,O))(hs:slice (.str s) .none (some k) .none=some v):ev Z (n+1) (.slc a .none (some x) .none) J O=some (v,O):=
 uq h rfl (qt hc) rfl rfl rfl rfl hs
end
noncomputable abbrev Nd:=Nat×Nat×Nat
noncomputable def bG(l:List (Nat×Nat))(k:Nat):Nat×Nat:=l.getD k (0,0)
noncomputable def oV(row:List (Nat×Nat))(k:Nat):List (Nat×Nat):=row.take k++[((bG row k).1,(bG row (k+1)).2)]++row.drop (k+2)
noncomputable def rV:Nat->List (Nat×Nat)->Nat->List Nd
 |0,_,_=>[]
 |c+1,row,d=>((bG row (d%(c+1))).1,(bG row (d%(c+1))).2,(bG row (d%(c+1)+1)).2)::rV c (oV row (d%(c+1))) (d / (c+1))
noncomputable def t6(size:Nat):List (Nat×Nat):=(dw size).map λk=>(k,k+1)
noncomputable def mj(size d:Nat):List Nd:=rV (size-1) (t6 size) d
noncomputable def iz(nodes:List Nd)(g:Nat):List Nat:=(nodes.filter λp=>decide (p.2.2=g)).map (λzz=>1)++(nodes.filter λp=>decide (p.1=g)).map λzz=>0
noncomputable def qy(size:Nat)(nodes:List Nd):List Nat:=(dw (size+1)).flatMap λg=>iz nodes g++if g<size then [2]else []
structure Pl where
 counts:List Nat
 pile:List (Nat×Nat)
 found:List Nd
noncomputable def Nm(k:Nat)(s:Pl):Option Pl:=
 if k=2 then some ⟨s.counts++[0],s.pile++[(s.counts.length-1,s.counts.length)],s.found⟩else
 if k=0 then some ⟨s.counts.dropLast++[s.counts.getLastD 0+1],s.pile,s.found⟩else
 if s.pile.length<2 then none else
 some ⟨s.counts.dropLast++[s.counts.getLastD 0+1],s.pile.take (s.pile.length-2)++[((bG s.pile (s.pile.length-2)).1,(bG s.pile (s.pile.length-1)).2)],
  s.found++[((bG s.pile (s.pile.length-2)).1,(bG s.pile (s.pile.length-1)).1,(bG s.pile (s.pile.length-1)).2)]⟩
noncomputable def FQ(s:Pl):Bool:=pL 0 s.counts.length&&(pL s.counts.length 15&&(pL s.pile.length 15&&pL s.found.length 15))
noncomputable def vo:List Nat->Pl->Option Pl
 |[],s=>if FQ s then some s else none
 |k::r,s=>if FQ s then(Nm k s).bind (vo r)else none
noncomputable def oS(c:List Nat):List Nat:=[c.getD 0 0]++((c.drop 1).take (c.length-2)).map (·+1)++[c.getLastD 0]
structure Er where
 hand:Nat×Nat
 word:Nat×Nat
 queue:List (Nat×Nat)
 cuts:List Nd
noncomputable def Gz(s:Er):Option Er:=
 if s.word.2=0 then(match s.queue with
  |b::q=>some ⟨(s.hand.1,s.hand.2-1),(b.1,b.2-1),q,s.cuts++[(s.hand.1,s.word.1,b.1)]⟩
  |[]=>none)
 else(match s.queue++[s.hand]with
  |b::q=>some ⟨s.word,b,q,s.cuts⟩
  |[]=>none)
noncomputable def AV(p:Nat×Nat):Bool:=pL p.1 8&&bh p.2 100
noncomputable def EB(s:Er):Bool:=AV s.hand&&(AV s.word&&(s.queue.all AV&&(pL s.queue.length 100&&pL s.cuts.length 100)))
noncomputable def F7(n:Nat):Nat->Er->Option Er
 |0,s=>if EB s then some s else none
 |f+1,s=>if EB s then(if s.cuts.length=n then some s else(Gz s).bind (F7 n f))else none
noncomputable def rO(ring:List Nat):List (Nat×Nat):=ring.zipIdx.map λp=>(p.2,p.1-1)
noncomputable def yW(ring:List Nat):Option Er:=match rO ring with
 |h::w::q=>F7 (ring.length-2) 40 ⟨h,w,q,[]⟩
 |_=>none
noncomputable def Cq:List Nd->List (Nat×Nat)->Option (List (Nat×Nat))
 |[],m=>some m
 |c::r,m=>match m.lookup c.1,m.lookup c.2.2 with
  |some a,some b=>if a<3/\b<3/\a≠b then Cq r ((c.2.1,3-a-b)::m)else none
  |_,_=>none
noncomputable def CI(cuts:List Nd)(e0 e1:Nat):Option (List (Nat×Nat)):=Cq cuts.reverse [(e0,0),(e1,1)]
noncomputable def Cf:List Nd->List (Nat×(Nat×Nat))->Option (List (Nat×(Nat×Nat)))
 |[],m=>some m
 |c::r,m=>match m.lookup c.1,m.lookup c.2.2 with
  |some a,some b=>Cf r ((c.2.1,(a.1+b.1,a.2+b.2))::m)
  |_,_=>none
noncomputable def B8(n:Nat)(nodes:List Nd):Option (List (Nat×(Nat×Nat))):=Cf nodes.reverse [(0,(1,0)),(n-1,(0,1))]
noncomputable def fP(cuts:List Nd):List (Nat×Nat):=cuts.flatMap λc=>[c.1,c.2.1,c.2.2].flatMap λa=>([c.1,c.2.1,c.2.2].filter λb=>decide (a≠b)).map λb=>(a,b)
noncomputable def Bx(i:Nat)(c:Nd):Bool:=cU i c.1||(cU i c.2.1||cU i c.2.2)
noncomputable def F0(cuts:List Nd)(i j:Nat):Bool:=!(cU i j)&&cuts.any λc=>Bx i c&&Bx j c
noncomputable def eqB(a b:Bool):Bool:=match a with
 |true=>b
 |false=>!b
noncomputable def GS(prs:List (Nat×(Nat×Nat)))(cuts:List Nd)(cC:List (Nat×Nat))(i j high:Nat):Bool:=match prs.lookup i,prs.lookup j,cC.lookup i,cC.lookup j with
 |some a,some b,some p,some q=>
  cU high ((a.1*b.2-a.2*b.1)+(a.2*b.1-a.1*b.2))&&(eqB (cU high 1) (F0 cuts i j)&&(eqB (cU (high%2) 0) (cU p q)&&(pL p 3&&(pL q 3&&(pL a.1 1000&&pL a.2 1000)))))
 |_,_,_,_=>false
noncomputable def nA(n i:Nat):List Nat:=(dw n).drop (i+1)++(dw n).take (i+1)
noncomputable def vq(ring:List Nat)(prs:List (Nat×(Nat×Nat)))(cuts:List Nd)(cC:List (Nat×Nat))(i:Nat):List Nat->Nat->Nat->Bool
 |[],_,_=>true
 |j::r,low,high=>GS prs cuts cC i j high&&(bh (ring.getD j 0) 100&&(match r with
  |[]=>true
  |_::_=>bh low (ring.getD j 0*high)&&vq ring prs cuts cC i r high (ring.getD j 0*high-low)))
noncomputable def dZ(p:Nat×Nat):V:=.tup [.int (p.1:Nat),.int (p.2:Nat)]
noncomputable def bC(p:Nd):V:=.tup [.int (p.1:Nat),.int (p.2.1:Nat),.int (p.2.2:Nat)]
noncomputable def nk(l:List (Nat×Nat)):V:=.lst (l.map dZ)
noncomputable def BZ:Nat->List Nat
 |0=>[]
 |c+1=>(c+1)::BZ c
theorem c6k:∀n:Nat,n<8->o9 [.int ((n+1:Nat)-1),.int 0,.int (-1)]=some ((BZ n).map λ(k:Nat)=>V.int k):=by
 intro n h;rcases(by decide:∀n<8,n=0∨n=1∨n=2∨n=3∨n=4∨n=5∨n=6∨n=7) n h with rfl|rfl|rfl|rfl|rfl|rfl|rfl|rfl<;>rfl
variable {nodes cuts:List Nd}
section
theorem cQ(h:k<1000):k<=big:=aV (cy h) B7
theorem Ql(h:k<row.length)(hz:row.length<1000):item (nk row) (.int (k:Int))=some (dZ (bG row k)):=by
 refine IL (l:=row.map dZ) ?_ (by rw[aW];exact cQ hz);unfold bG;rw[pO,xC,qR h];rfl
theorem AS(p:Nat×Nat):item (dZ p) (.int 0)=some (.int (p.1:Nat)):=rfl
theorem EA(p:Nat×Nat):item (dZ p) (.int 1)=some (.int (p.2:Nat)):=rfl
theorem N9{a:X}(h:k<row.length)(hz:row.length<1000)(hr:J.lookup 90=some (nk row))(ha:ev Z (n+1) a J O=some (.int (k:Nat),O)):ev Z (n+3) (rk a i0) J O=some (.int ((bG row k).1:Nat),O):=
 dU (dU (ak hr) ha (Ql h hz)) az (AS _)
theorem HS{a:X}(h:k<row.length)(hz:row.length<1000)(hr:J.lookup 90=some (nk row))(ha:ev Z (n+1) a J O=some (.int (k:Nat),O)):ev Z (n+3) (rk a i1) J O=some (.int ((bG row k).2:Nat),O):=
 dU (dU (ak hr) ha (Ql h hz)) az (EA _)
theorem BX(h:J.lookup 111=some (.int (k:Nat))):ev Z (n+2) nc J O=some (.int ((k+1:Nat):Int),O):=aF (ak h) az rfl
noncomputable def Ca(row:List (Nat×Nat))(d m:Nat):List (Nat×V):=[(90,nk row),(83,.int (d:Int)),(187,.mut m)]
theorem d0j(h:row.length=c+2)(hk:k<c+1):(oV row k).length=c+1:=by
 unfold oV;rw[cA,cA,sR,JS,xA,h];rw[Sd (Se (cy hk)),Nat.add_sub_add_right,Aq,Nat.add_sub_of_le (lq hk)]
theorem c8k{ns:List Nd}(hl:row.length=c+2)(hc:c<8)(hn:ns.length<100)(hm:O[m]?=some (.list (ns.map bC)))(K:ay J ((9,.int ((c+1:Nat):Int))::Ca row d m)) :
  ∃ρ',exec g0 (N+20) GU J O=some (.next,ρ',O.set m (.list ((ns++[((bG row (d%(c+1))).1,(bG row (d%(c+1))).2,(bG row (d%(c+1)+1)).2)]).map bC)))/\ay ρ' (Ca (oV row (d%(c+1))) (d / (c+1)) m):=by
 have hk:d%(c+1)<c+1:=eF _ (Ai c);have hz2:row.length<=20:=by rw[hl];exact bz (sO (cy hc) 2)
 have hz:row.length<1000:=bz (dc hz2);have e1:ev g0 (N+19) (.tup [(.bin .Mod (.loc 83) (.loc 9)),(.bin .FloorDiv (.loc 83) (.loc 9))]) J O=some (.tup [.int ((d%(c+1):Nat):Int),.int ((d / (c+1):Nat):Int)],O):=
  eW (aX (aF (ak (K 83 _ rfl)) (ak (K 9 _ rfl)) (lM d (c+1) (uJ c))) (bf (aF (ak (K 83 _ rfl)) (ak (K 9 _ rfl)) (r8 d (c+1) (uJ c) (by exact bz (dc hc)))))) (show 2<=big from nb rfl)
 have K1:=(K.put 111 (.int ((d%(c+1):Nat):Int))).put 83 (.int ((d / (c+1):Nat):Int));generalize d%(c+1)=k at *;generalize d / (c+1)=d' at *;generalize bH:put 83 (V.int (d':Int)) (put 111 (V.int (k:Int)) J)=aY at K1;have hk1:k+1<row.length:=by rw[hl];exact DY hk
 have e2:ev g0 (N+19) (.bY 10 (.loc 187) [(.tup [rk (.loc 111) i0,rk (.loc 111) i1,rk nc i1])]) aY O=some (.none,O.set m (.list (ns.map bC++[bC ((bG row k).1,(bG row k).2,(bG row (k+1)).2)]))):=
  ux (M:=N+17) (λzz zz=>rfl) (λzz zz zz zz=>rfl) (K1 187 _ rfl) (eW (aX (N9 (n:=N+14) (jP hk1) hz (K1 90 _ rfl) (ak (K1 111 _ rfl))) (aX (HS (n:=N+14) (jP hk1) hz (K1 90 _ rfl) (ak (K1 111 _ rfl))) (bf (HS (n:=N+14) hk1 hz (K1 90 _ rfl) (BX (K1 111 _ rfl)))))) (show 3<=big from nb rfl)) hm (by rw[aW];exact cQ (by exact bz hn))
 generalize hμ:O.set m (M.list (ns.map bC++[bC ((bG row k).1,(bG row k).2,(bG row (k+1)).2)]))=fy at e2;have e3:ev g0 (N+19) (bO (bO (.slc (.loc 90) .none (some (.loc 111)) .none) (.lst [(.tup [rk (.loc 111) i0,rk nc i1])])) (.slc (.loc 90) (some (bO (.loc 111) i2)) .none .none)) aY fy=some (nk (oV row k),fy):=by
  have LG:(row.map dZ).length<=big:=by rw[aW];exact cQ hz
  have a1:ev g0 (N+17) (.slc (.loc 90) .none (some (.loc 111)) .none) aY fy=some (.lst ((row.map dZ).take k),fy):=QE (ak (K1 90 _ rfl)) (ak (K1 111 _ rfl)) (Rb k LG);have a2:ev g0 (N+18) (.slc (.loc 90) (some (bO (.loc 111) i2)) .none .none) aY fy=some (.lst ((row.map dZ).drop (k+2)),fy):=d3p (ak (K1 90 _ rfl)) (k:=((k+2:Nat):Int)) (aF (ak (K1 111 _ rfl)) az rfl) (c5m (k+2) LG);have a3:ev g0 (N+17) (.lst [(.tup [rk (.loc 111) i0,rk nc i1])]) aY fy=some (.lst [dZ ((bG row k).1,(bG row (k+1)).2)],fy):=
   lN (bf (eW (aX (N9 (n:=N+12) (jP hk1) hz (K1 90 _ rfl) (ak (K1 111 _ rfl))) (bf (HS (n:=N+12) hk1 hz (K1 90 _ rfl) (BX (K1 111 _ rfl))))) (show 2<=big from nb rfl))) (show 1<=big from nb rfl)
  have l1:((row.map dZ).take k).length<=20:=by rw[sR,aW];exact KP hz2
  have l2:((row.map dZ).drop (k+2)).length<=20:=by rw[JS,aW];exact KO hz2
  refine aF (aF a1 a3 (rG (aV (sO l1 1) (nb rfl)))) a2 ((rG ?_).trans ?_)
  ·rw[cA];exact aV (iY (sO l1 1) l2) (nb rfl)
  ·unfold nk oV
   rw[ie,ie,JO,g5h];rfl
 have K2:=K1.put 90 (nk (oV row k));rw[ie,show [((bG row k).1,(bG row k).2,(bG row (k+1)).2)].map bC=[bC ((bG row k).1,(bG row k).2,(bG row (k+1)).2)]from rfl,hμ];refine⟨_,(bq (f:=aQ g0 (N+19)) (pB e1)).trans ?_,ay.cons (K2 90 _ rfl) (ay.cons (K2 83 _ rfl) (ay.cons (K2 187 _ rfl) ay.nil))⟩;rw[bH];exact(bq (qD e2)).trans ((bq (gX e3)).trans rfl)
theorem o5{a:M}{l:Mu}{x:M}(h:l[i]?=some a):(l.set i x)[i]?=some x:=by
 rw[xB (cM.mp h).1]
theorem Io{a:M}{l:Mu}(h:l[i]?=some a):l.set i a=l:=by
 obtain⟨h',e⟩:=cM.mp h;subst e;exact List.set_getElem_self h'
theorem c7j:∀(c d m:Nat) (row:List (Nat×Nat)) (ns:List Nd) (J:aB) (O:Mu),row.length=c+1->c<8->ns.length+c<100->O[m]?=some (.list (ns.map bC))->ay J (Ca row d m) →
  ∃ρ',eB (λJ O=>exec g0 (N+20) GU J O) (.one 9) ((BZ c).map λ(k:Nat)=>V.int k) J O=some (.next,ρ',O.set m (.list ((ns++rV c row d).map bC)))/\ρ'.lookup 187=some (.mut m):=by
 intro c;induction c with
 |zero=>
  intro d m row ns J O hl hc hn hm K;refine⟨J,?_,K 187 _ rfl⟩;show some (F.next,J,O)=_;rw[show rV 0 row d=[]from rfl,gm];rw[Io hm]
 |succ c ih=>
  intro d m row ns J O hl hc hn hm K;have K1:ay (put 9 (.int ((c+1:Nat):Int)) J) ((9,.int ((c+1:Nat):Int))::Ca row d m):=K.put 9 _;obtain⟨aY,e1,K2⟩:=c8k (N:=N) (O:=O) hl (jP hc) (by exact lX hn) hm K1;obtain⟨bw,e2,K3⟩:=ih (d / (c+1)) m (oV row (d%(c+1))) (ns++[((bG row (d%(c+1))).1,(bG row (d%(c+1))).2,(bG row (d%(c+1)+1)).2)]) aY _ (d0j hl (eF _ (Ai c))) (jP hc) (by rw[cA,xA,nS,kg 1 c];exact hn) (o5 hm) K2;refine⟨bw,(nL gy e1).trans (e2.trans ?_),K3⟩;rw[xy,f5];rfl
theorem Qz{x y:M}:((O++[x]).set O.length y).take O.length=O:=by
 rw[So _ _ (bV _),JK (bV _),sP]
theorem d3v(l:List Nd):cY (l.map bC)=true:=by
 induction l with
 |nil=>rfl
 |cons a l ih=>exact ih
theorem Dt(hk:m<=k)(h:O[k]?=some (.list l))(hp:cY l=true):iR m O (.mut k)=some (.lst l):=by
 show(if k<m then some (V.mut k)else match O[k]? with|some (.list l)=>if cY l then some (V.lst l)else .none|_=>.none)=_
 rw[if_neg (pI.mpr hk),h];exact if_pos hp
theorem c9x(h1:1<=size)(h8:size<9)(ok:b9 O=true):cF g0 zJ wm (N+30) [.int (size:Int),.int (d:Int)] O=some (.lst ((mj size d).map bC),O):=by
 obtain⟨c,rfl⟩:∃c,size=c+1:=⟨size-1,(Nat.succ_pred_eq_of_pos h1).symm⟩;have K:ay [(124,.int ((c+1:Nat):Int)),(83,.int (d:Int))] [(124,.int ((c+1:Nat):Int)),(83,.int (d:Int))]:=ay.self;have e1:ev g0 (N+28) (.comp (.tup [(.loc 111),nc]) (.one 111) (.range [(.loc 124)]) [] [42,111]) [(124,.int ((c+1:Nat):Int)),(83,.int (d:Int))] O=some (nk (t6 (c+1)),O):=by
  have:=c5x (own:=[42,111]) (i:=111) (elt:=.tup [(.loc 111),nc]) (g:=λk=>dZ (k,k+1)) (ak (Z:=g0) (n:=N+26) (O:=O) (K 124 _ rfl)) (fj h8 (nb rfl)) λk hk=>eW (aX (ak dM) (bf (BX dM))) (show 2<=big from nb rfl);refine this.trans ?_;unfold nk t6 tab;rw[gk];rfl
 have K1:=K.put 90 (nk (t6 (c+1)));generalize qc:put 90 (nk (t6 (c+1))) [(124,V.int ((c+1:Nat):Int)),(83,V.int (d:Int))]=aY at K1;have e2:ev g0 (N+28) (.jD []) aY O=some (.mut O.length,O++[.list []]):=wC zL (iV _);have K2:=K1.put 187 (.mut O.length);generalize oj:put 187 (V.mut O.length) aY=bw at K2;have hm:(O++[M.list []])[O.length]?=some (.list (([]:List Nd).map bC)):=by
  rw[fY (bV _),jy];rfl
 have e3:cT (λx O=>ev g0 (N+28) x bw O) (.range [(.bin .Sub (.loc 124) i1),i0,m1]) (O++[.list []])=some ((BZ c).map λ(k:Nat)=>V.int k,O++[.list []]):=by
  rw[Gr,aX (aF (ak (K2 124 _ rfl)) az rfl) (aX az (bf nC))];show(o9 [.int ((c+1:Nat)-1),.int 0,.int (-1)]).map _=_;rw[c6k c (sL h8)];rfl
 obtain⟨gq,e4,K3⟩:=c7j (N:=N+8) c d O.length (t6 (c+1)) [] bw _ (by unfold t6;rw[aW,Au]) (sL h8) (by rw[Av,kZ];exact bz (jP h8)) hm (ay.cons (K2 90 _ rfl) (ay.cons (K2 83 _ rfl) (ay.cons (K2 187 _ rfl) ay.nil)));have e5:exec g0 (N+29) wm [(124,.int ((c+1:Nat):Int)),(83,.int (d:Int))] O=some (.ret (.mut O.length),gq,(O++[M.list []]).set O.length (.list ((mj (c+1) d).map bC))):=by
  refine(bq (f:=aQ g0 (N+28)) (gX e1)).trans ?_;rw[qc];refine(bq (gX e2)).trans ?_;rw[oj];exact(bq ((nK e3).trans e4)).trans (j8 (sr (ak K3)))
 show gW g0 (N+29) zJ wm [.int ((c+1:Nat):Int),.int (d:Int)] O=_;refine o6 (n:=N+29) (aE:=(O++[M.list []]).set O.length (.list ((mj (c+1) d).map bC))) rfl e5 Qz ok ?_;exact Dt (bV _) (o5 hm) (d3v _)
end
noncomputable def sg:List (List Nat):=(["(",")","[","]",":",",",";","+","-","*","/","|","&","<",">","=",".","%","{","}","==","!=","<=",">=","~","^","<<",">>","**","+=","-=","*=","/=","%=","&=","|=","^=","<<=",">>=","**=","//","//=","@","@=","->","...",":=","!"]:List String).map λs=>(lQ s).cps.toList
noncomputable def sW(c:Nat):List Nat:=sg.getD c []
theorem AM{x s:Nat}(h:x<24)(hs:s<2):x*2+s<48:=fk (g4s hs _) (Nat.succ_mul x 2▸g4f 2 h)
theorem c0b:(DL (txt uY) (txt [32])).map zp=sg:=by kernel_rfl
theorem OB:sg.length=48:=by decide +kernel
noncomputable abbrev Wd:=List Nat×Nat
noncomputable def wV(l:List Wd):List V:=l.map λp=>V.str p.1
noncomputable def l0(mk k s:Nat):Nat:=mk / (k+1)%24*2+s
noncomputable def jW(mk:Nat):List Nat->List Wd->List Wd
 |[],ws=>ws
 |s::r,ws=>jW mk r (ws++[(sW (l0 mk ws.length s),s)])
noncomputable def u7:List Nat:=[97,98,35,34,92,32,10,9]
noncomputable def vI(mk g:Nat):Nat:=u7.getD (mk / (g+3)%8) 0
noncomputable def vK(mk g:Nat):List Nat:=if g%2=0 then [vI mk g,97+g]else [97+g,vI mk g]
noncomputable def oY(mk size g:Nat)(ws:List Wd):List Wd:=if g<size then ws++[(vK mk g,2)]else ws
noncomputable def uw(mk size:Nat)(nodes:List Nd):Nat->Nat->List Wd->List Wd
 |0,_,ws=>ws
 |j+1,g,ws=>uw mk size nodes j (g+1) (oY mk size g (jW mk (iz nodes g) ws))
noncomputable def qq(mk size:Nat)(nodes:List Nd):List Wd:=uw mk size nodes (size+1) 0 []
section
theorem jd{x:X}(h:yG x=false)(hf:f x O=some (v,ai))(hv:uB v=some l):cT f x O=some (l,ai):=by
 unfold cT;rw[if_neg (by rw[h];exact gP),hf];show(uB v).map _=_;rw[hv];rfl
theorem K7{p:Nd}:item (bC p) (.int 0)=some (.int (p.1:Nat))/\item (bC p) (.int 1)=some (.int (p.2.1:Nat))/\item (bC p) (.int 2)=some (.int (p.2.2:Nat)):=⟨rfl,rfl,rfl⟩
theorem O7{g:Nat}{v j:Int}{f:Nd->Nat}(hj:∀p,item (bC p) (.int j)=some (.int (f p:Nat)))(hn:nodes.length<100)(h1:J.lookup 187=some (.lst (nodes.map bC)))(h2:J.lookup 84=some (.int (g:Int))) :
  ev Z (N+6) (yP (.cst (.int v)) (.cst (.int j))) J O=some (.lst ((nodes.filter λp=>decide (f p=g)).map λzz=>.int v),O):=by
 refine jL (vs:=nodes.map bC) (jd rfl (ak h1) rfl) (by rw[aW];exact cQ (fj hn (nb rfl))) (b7m (h:=bC) (g:=λzz=>V.int v) (p:=λp=>decide (f p=g)) nodes _ (λp zz=>?_) λp zz zz=>az);exact br (dU (ak dM) az (hj p)) (ak (gh ((w9 (own:=[42,189]) rfl J).trans h2) (by decide))) yH
theorem d8j{g:Nat}(hn:nodes.length<100)(h1:J.lookup 187=some (.lst (nodes.map bC)))(h2:J.lookup 84=some (.int (g:Int))) :
  cT (λx O=>ev Z (N+7) x J O) (bO (yP i1 i2) (yP i0 i0)) O=some ((iz nodes g).map λ(k:Nat)=>V.int k,O):=by
 refine jd (v:=.lst ((iz nodes g).map λ(k:Nat)=>V.int k)) rfl (aF (O7 (f:=λp=>p.2.2) (λp=>K7.2.2) hn h1 h2) (O7 (f:=λp=>p.1) (λp=>K7.1) hn h1 h2) ((rG ?_).trans ?_)) rfl
 ·rw[aW,aW]
  exact aV (iY (aV (D4 _ _) (cy hn)) (aV (D4 _ _) (cy hn))) (nb rfl)
 ·unfold iz
  rw[ie,gk,gk];rfl
theorem e2h(h:c<48):item (.lst (sg.map .str)) (.int (c:Int))=some (.str (sW c)):=by
 have hl:c<sg.length:=by rw[OB];exact h
 refine IL ?_ (by rw[aW,OB];exact nb rfl);unfold sW;rw[pO,xC,qR hl];rfl
noncomputable def wE(nodes:List Nd)(mk size m:Nat):List (Nat×V):=[(107,.lst (sg.map .str)),(125,.mut m),(83,.int (mk:Int)),(124,.int (size:Int)),(187,.lst (nodes.map bC))]
theorem Oc(ws:List Wd)(p:Wd):wV (ws++[p])=wV ws++[V.str p.1]:=by unfold wV;rw[ie];rfl
theorem d6j{s:Nat}{ws:List Wd}(hs:s<2)(hw:ws.length<300)(hm:O[m]?=some (.list (wV ws)))(K:ay J ((140,.int (s:Int))::wE nodes mk size m)) :
  exec g0 (N+20) GG J O=some (.next,J,O.set m (.list (wV (ws++[(sW (l0 mk ws.length s),s)])))):=by
 have hz:(wV ws).length=ws.length:=by unfold wV;rw[aW]
 have hc:l0 mk ws.length s<48:=by
  have:=eF (mk / (ws.length+1)) (show 0<24 from nb rfl);unfold l0;exact AM this hs
 have e1:ev g0 (N+12) (.call 0 [(.loc 125)]) J O=some (.int (ws.length:Nat),O):=by
  have:=Ie (Z:=g0) (n:=N+11) (x:=.loc 125) (λzz zz zz=>rfl) (ak (K 125 _ rfl)) hm (by rw[hz];exact cQ (fj hw (nb rfl)));rw[hz]at this;exact this
 have e2:ev g0 (N+18) (.sub (.loc 107) (bO (.bin .Mult (.bin .Mod (.bin .FloorDiv (.loc 83) (bO (.call 0 [(.loc 125)]) i1)) (.cst (.int 24))) i2) (.loc 140))) J O=some (.str (sW (l0 mk ws.length s)),O):=by
  refine dU (ak (K 107 _ rfl)) (v:=.int ((l0 mk ws.length s:Nat):Int)) (aF (u:=.int ((mk / (ws.length+1)%24*2:Nat):Int)) (aF (u:=.int ((mk / (ws.length+1)%24:Nat):Int)) (aF (aF (ak (K 83 _ rfl)) (v:=.int ((ws.length+1:Nat):Int)) (aF e1 az rfl) (r8 mk (ws.length+1) (uJ _) (by exact bz (dc hw)))) az (lM _ 24 (by decide))) az ?_) (ak (K 140 _ rfl)) rfl) (e2h hc);rw[MR,MR,zA,sD (fj (eF _ (show 0<24 from nb rfl)) (nb rfl))];rfl
 have e3:=ux (Z:=g0) (M:=N+17) (i:=125) (λzz zz=>rfl) (λzz zz zz zz=>rfl) (K 125 _ rfl) e2 hm (by rw[hz];exact cQ (fj hw (nb rfl)));rw[Oc];exact(bq (f:=aQ g0 (N+19)) (qD e3)).trans rfl
theorem d4y:∀(ss:List Nat) (ws:List Wd) (J:aB) (O:Mu),(∀s∈ss,s<2)->ws.length+ss.length<300->O[m]?=some (.list (wV ws))->ay J (wE nodes mk size m)->∀g:V,J.lookup 84=some g →
  ∃ρ',eB (λJ O=>exec g0 (N+20) GG J O) (.one 140) (ss.map λ(k:Nat)=>V.int k) J O=some (.next,ρ',O.set m (.list (wV (jW mk ss ws))))/\ay ρ' (wE nodes mk size m)/\ρ'.lookup 84=some g:=by
 intro ss;induction ss with
 |nil=>intro ws J O _ _ hm K g hg;exact⟨J,by rw[show wV (jW mk [] ws)=wV ws from rfl,Io hm];rfl,K,hg⟩
 |cons s ss ih=>
  intro ws J O hs hw hm K g hg;have UC:ws.length+ss.length+1<300:=hw;have e1:=d6j (N:=N) (hs s fW) (ck (gZ _ _) hw) hm (K.put 140 (.int (s:Int)));obtain⟨ρ',e2,K2,Vg⟩:=ih (ws++[(sW (l0 mk ws.length s),s)]) (put 140 (.int (s:Int)) J) _ (λs h=>hs s (fX _ h)) (by rw[cA,xA,Aq];exact UC) (o5 hm) ((K.put 140 (.int (s:Int))).rest rfl) g (gh hg (by decide));refine⟨ρ',(nL gy e1).trans (e2.trans ?_),K2,Vg⟩;rw[xy];rfl
theorem d2d:∀k<8,item (.str u7) (.int (k:Nat))=some (.str [u7.getD k 0]):=by
 intro k h;rcases(by decide:∀n<8,n=0∨n=1∨n=2∨n=3∨n=4∨n=5∨n=6∨n=7) k h with rfl|rfl|rfl|rfl|rfl|rfl|rfl|rfl<;>rfl
theorem N3{g:Nat}(hg:g<20)(h:J.lookup 84=some (.int (g:Int))):ev g0 (N+3) yC J O=some (.str [97+g],O):=by
 refine(cL (vs:=[.int ((97+g:Nat):Int)]) (bf (aF az (ak h) rfl))).trans ?_;refine(if_pos ?_).trans rfl;rw[decide_eq_false (i6.mpr (lB _)),decide_eq_false (i6.mpr (KQ (iX (cy hg) 97)))];rfl
theorem Tv{a b:V}{g:Nat}:item (.lst [a,b]) (.int ((g%2:Nat):Int))=some (if g%2=0 then a else b):=by
 rcases R9 g with h|h<;>rw[h]<;>rfl
theorem d6g{g:Nat}{ws:List Wd}(hg:g<20)(hw:ws.length<300)(hm:O[m]?=some (.list (wV ws)))(K:ay J ((84,.int (g:Int))::wE nodes mk size m)) :
  bE (aQ g0 (N+18)) Nx J O=some (.next,put 86 (.str [vI mk g]) J,O.set m (.list (wV (ws++[(vK mk g,2)])))):=by
 have hz:(wV ws).length=ws.length:=by unfold wV;rw[aW]
 have hk:=eF (mk / (g+3)) (show 0<8 from nb rfl);have e1:ev g0 (N+18) (.sub (sX u7) (.bin .Mod (.bin .FloorDiv (.loc 83) (bO (.loc 84) i3)) (.cst (.int 8)))) J O=some (.str [vI mk g],O):=
  dU az (v:=.int ((mk / (g+3)%8:Nat):Int)) (aF (aF (ak (K 83 _ rfl)) (v:=.int ((g+3:Nat):Int)) (aF (ak (K 84 _ rfl)) az rfl) (r8 mk (g+3) (uJ _) (bz (Nat.add_lt_add_right hg 3)))) az (lM _ 8 (by decide))) (d2d _ hk)
 have K1:=K.put 86 (.str [vI mk g]);have e2:ev g0 (N+17) (.sub (.lst [bO (.loc 86) yC,bO yC (.loc 86)]) (.bin .Mod (.loc 84) i2)) (put 86 (.str [vI mk g]) J) O=some (.str (vK mk g),O):=by
  refine dU (lN (aX (aF (ak (K1 86 _ rfl)) (N3 (N:=N+11) hg (K1 84 _ rfl)) (oH (show 2<=big from nb rfl))) (bf (aF (N3 (N:=N+11) hg (K1 84 _ rfl)) (ak (K1 86 _ rfl)) (oH (show 2<=big from nb rfl))))) (show 2<=big from nb rfl)) (aF (ak (K1 84 _ rfl)) az (lM g 2 (by decide))) (Tv.trans ?_);unfold vK;rcases R9 g with h|h<;>rw[h]<;>rfl
 have e3:=ux (Z:=g0) (M:=N+16) (i:=125) (λzz zz=>rfl) (λzz zz zz zz=>rfl) (K1 125 _ rfl) e2 hm (by rw[hz];exact cQ (fj hw (nb rfl)));rw[Oc];exact bq (gX e1)|>.trans ((bq (qD e3)).trans rfl)
theorem Qt(mk:Nat):∀(ss:List Nat) (ws:List Wd),(jW mk ss ws).length=ws.length+ss.length:=by
 intro ss;induction ss with
 |nil=>intro ws;rfl
 |cons s ss ih=>
  intro ws;show(jW mk ss (ws++[(sW (l0 mk ws.length s),s)])).length=_;rw[ih,cA,xA,lT,nS,kg 1]
theorem QJ(nodes:List Nd)(g:Nat):∀s∈iz nodes g,s<2:=by
 intro s hs;unfold iz at hs;rcases ic.mp hs with h|h
 ·obtain⟨_,_,rfl⟩:=ly.mp h;exact nb rfl
 ·obtain⟨_,_,rfl⟩:=ly.mp h;exact nb rfl
theorem Q8(nodes:List Nd)(g:Nat):(iz nodes g).length<=2*nodes.length:=by
 unfold iz;rw[cA,aW,aW,Nat.two_mul];exact iY (D4 _ _) (D4 _ _)
theorem d5f{g:Nat}{ws:List Wd}(hg:g<20)(hn:nodes.length<7)(hw:ws.length<250)(hm:O[m]?=some (.list (wV ws)))(hs:size<20)(K:ay J ((84,.int (g:Int))::wE nodes mk size m)) :
  ∃ρ',exec g0 (N+30) GJ J O=some (.next,ρ',O.set m (.list (wV (oY mk size g (jW mk (iz nodes g) ws)))))/\ay ρ' (wE nodes mk size m):=by
 have hl:=Q8 nodes g;have e1:=d8j (Z:=g0) (N:=N+22) (O:=O) (fj hn (nb rfl)) (K 187 _ rfl) (K 84 _ rfl);have Mt:ws.length+(iz nodes g).length<300:=bz (Nat.add_lt_add_of_lt_of_le hw (aV hl (iJ 2 (cy hn))));obtain⟨aY,e2,K1,h1⟩:=d4y (N:=N+9) (iz nodes g) ws J O (QJ nodes g) Mt hm (K.rest rfl) _ (K 84 _ rfl);have hm1:=o5 (x:=.list (wV (jW mk (iz nodes g) ws))) hm;have hw1:=Qt mk (iz nodes g) ws;generalize jW mk (iz nodes g) ws=J9 at *;have c1:ev g0 (N+29) (.cmp .Lt (.loc 84) (.loc 124)) aY (O.set m (.list (wV J9)))=some (.bool (decide (g<size)),O.set m (.list (wV J9))):=br (ak h1) (ak (K1 124 _ rfl)) ((Wa _ _).trans (congrArg some (decide_eq_decide.mpr sZ)));unfold oY;by_cases c:g<size
 ·rw[if_pos c]
  rw[decide_eq_true c]at c1;have e3:=d6g (N:=N+10) hg (by rw[hw1];exact Mt) hm1 (ay.cons h1 K1);rw[xy]at e3;exact⟨_,(bq (f:=aQ g0 (N+29)) ((nK e1).trans e2)).trans ((bq ((fc c1 rfl).trans e3)).trans rfl),(K1.put 86 _).rest rfl⟩
 ·rw[if_neg c]
  rw[decide_eq_false c]at c1;exact⟨_,(bq (f:=aQ g0 (N+29)) ((nK e1).trans e2)).trans ((bq ((fc c1 rfl).trans rfl)).trans rfl),K1⟩
theorem c6r(mk size g:Nat)(ws:List Wd):(oY mk size g ws).length<=ws.length+1:=by
 unfold oY;by_cases c:g<size
 ·rw[if_pos c,cA];exact bV _
 ·rw[if_neg c];exact iA _
theorem c4z(hn:nodes.length<7)(hs:size<20):∀(j g:Nat) (ws:List Wd) (J:aB) (O:Mu),g+j<20->ws.length+13*j<250->O[m]?=some (.list (wV ws))->ay J (wE nodes mk size m) →
  ∃ρ',eB (λJ O=>exec g0 (N+30) GJ J O) (.one 84) ((sQ g j).map λ(k:Nat)=>V.int k) J O=some (.next,ρ',O.set m (.list (wV (uw mk size nodes j g ws))))/\ay ρ' (wE nodes mk size m):=by
 intro j;induction j with
 |zero=>intro g ws J O _ _ hm K;exact⟨J,by rw[show uw mk size nodes 0 g ws=ws from rfl,Io hm];rfl,K⟩
 |succ j ih=>
  intro g ws J O hg hw hm K;obtain⟨aY,e1,K1⟩:=d5f (N:=N) (g:=g) (by exact lX hg) hn (by exact lX hw) hm hs (K.put 84 (.int (g:Int)));have h1:=c6r mk size g (jW mk (iz nodes g) ws);have h2:=Qt mk (iz nodes g) ws;have h3:=Q8 nodes g;have h4:(oY mk size g (jW mk (iz nodes g) ws)).length<=ws.length+13:=aV h1 (h2▸iX (dc (aV h3 (iJ 2 (lq hn)))) _);obtain⟨bw,e2,K2⟩:=ih (g+1) (oY mk size g (jW mk (iz nodes g) ws)) aY _ (by rw[nS,kg 1 j];exact hg) (ck (sO h4 _) (by rw[nS,kg 13,←JA];exact hw)) (o5 hm) K1;refine⟨bw,(nL gy e1).trans (e2.trans ?_),K2⟩;rw[xy];rfl
theorem d5i(hf:∀u O,Z.find 7 u O=B0 7 u O)(hm:∀n u args O,Z.bY n 7 u args O=BR n 7 u args O):ev Z (N+2) (.bY 7 (sX uY) [sX [32]]) J O=some (.lst (sg.map .str),O):=by
 refine(nI az ((hf _ _).trans rfl) (bf az)).trans ((hm _ _ _ _).trans ?_);show(if([32]:List Nat)≠[]/\uY.length<=big then some (V.lst ((DL (txt uY) (txt [32])).map λp=>.str (zp p)),O)else .none)=_;rw[if_pos ⟨by decide,by decide +kernel⟩,←c0b];rw[gk];rfl
theorem d0n(l:List Wd):cY (wV l)=true:=by
 induction l with
 |nil=>rfl
 |cons a l ih=>exact ih
theorem c5d(hs:size<9)(hn:nodes.length<7)(ok:b9 O=true):cF g0 zP wH (N+40) [.int (size:Int),.lst (nodes.map bC),.int (mk:Int)] O=some (.lst (wV (qq mk size nodes)),O):=by
 refine fF ([(124,V.int (size:Int)),(187,V.lst (nodes.map bC)),(83,V.int (mk:Int))]) λJ bH=>?_;have K:ay J [(124,.int (size:Int)),(187,.lst (nodes.map bC)),(83,.int (mk:Int))]:=by rw[bH];exact ay.self
 have e1:ev g0 (N+38) (.bY 7 (sX uY) [sX [32]]) J O=some (.lst (sg.map .str),O):=d5i (N:=N+36) (λzz zz=>rfl) (λzz zz zz zz=>rfl);have K1:=K.put 107 (.lst (sg.map .str));generalize qc:put 107 (V.lst (sg.map .str)) J=aY at K1;have e2:ev g0 (N+38) (.jD []) aY O=some (.mut O.length,O++[.list []]):=wC zL (iV _);have K2:=K1.put 125 (.mut O.length);generalize oj:put 125 (V.mut O.length) aY=bw at K2;have hm:(O++[M.list []])[O.length]?=some (.list (wV [])):=by
  rw[fY (bV _),jy];rfl
 have e3:cT (λx O=>ev g0 (N+38) x bw O) (.range [bO (.loc 124) i1]) (O++[.list []])=some ((sQ 0 (size+1)).map λ(k:Nat)=>V.int k,O++[.list []]):=by
  rw[←g5b];exact C6 (m:=size+1) (aF (ak (K2 124 _ rfl)) az rfl) (by exact bz (dc hs))
 obtain⟨gq,e4,K3⟩:=c4z (N:=N+8) (mk:=mk) (size:=size) hn (by exact bz hs) (size+1) 0 [] bw _ (by rw[kZ];exact bz (DY hs)) (by rw[Av,kZ];exact bz (dc (iJ 13 hs))) hm (ay.cons (K2 107 _ rfl) (ay.cons (K2 125 _ rfl) (ay.cons (K2 83 _ rfl) (ay.cons (K2 124 _ rfl) (ay.cons (K2 187 _ rfl) ay.nil)))));have e5:exec g0 (N+39) wH J O=some (.ret (.mut O.length),gq,(O++[M.list []]).set O.length (.list (wV (qq mk size nodes)))):=by
  refine(bq (f:=aQ g0 (N+38)) (gX e1)).trans ?_;rw[qc];refine(bq (gX e2)).trans ?_;rw[oj];exact(bq ((nK e3).trans e4)).trans (j8 (sr (ak (K3 125 _ rfl))))
 rw[bH]at e5;show gW g0 (N+39) zP wH [.int (size:Int),.lst (nodes.map bC),.int (mk:Int)] O=_;refine o6 (n:=N+39) (aE:=(O++[M.list []]).set O.length (.list (wV (qq mk size nodes)))) rfl e5 Qz ok ?_;exact Dt (bV _) (o5 hm) (d0n _)
end
noncomputable def k3(a b c:Bool):V:=.lst [.bool a,.bool b,.bool c]
inductive KW:List Nat->Nat->Prop
 |sign {x k:Nat} (hk:k<2) (hx:x<24):KW (sW (x*2+k)) k
 |leaf {w:List Nat} (h1:toks.lookup w=.none) (h2:w≠[]) (h3:w.length<=100):KW w 2
theorem e5v:((dw 48).all λc=>toks.lookup (sW c)==some ((7+c:Nat):Int))=true:=by decide +kernel
theorem Po(h:c<48):toks.lookup (sW c)=some ((7+c:Nat):Int):=eq_of_beq (cN.mp e5v c (pM.mpr h))
theorem e4m:toks.lookup []=.none:=by decide +kernel
theorem XE(a b c a' b' c':Bool):cR .Eq (k3 a b c) (k3 a' b' c')=some (decide ([a,b,c]=[a',b',c'])):=Z0.list.Ck (a:=[a,b,c]) (b:=[a',b',c']) (nb rfl) (λzz zz=>trivial) (λzz zz=>trivial)
noncomputable def nV(k:Nat):V:=.int (k:Int)
section
theorem Ye(i:Int)(ok:b9 O=true):cF g0 xm Ad (N+10) [.int i] O=some (.bool (decide (i<256)),O):=c7n dO N i O ok
theorem d5k(i:Int)(ok:b9 O=true):cF g0 DJ DI (N+10) [.int i] O=some (.bool (decide (i≥256)),O):=by
 show gW g0 (N+9) DJ DI [.int i] O=_;refine sE (v:=.bool (decide (i≥256))) (ρ':=[(44,.int i)]) (by rfl) ok ?_ rfl;exact fD (br (ak rfl) (v:=.int 256) rfl rfl)
theorem Wc(i:Int)(ok:b9 O=true):cF g0 CX CV (N+10) [.int i] O=some (.bool (decide (i=0)),O):=by
 show gW g0 (N+9) CX CV [.int i] O=_;refine sE (v:=.bool (decide (i=0))) (ρ':=[(44,.int i)]) (by rfl) ok ?_ rfl;exact fD (br (ak rfl) (v:=.int 0) rfl (BS i 0))
theorem c5e{i:Int}(hi:J.lookup 92=some (.int i))(ok:b9 O=true):ev gK (N+20) Of J O=some (k3 (decide (i=0)) (decide (i<256)) (decide (i≥256)),O):=by
 have ct:cT (λx O=>ev gK (N+19) x J O) (.tup [(.call 46 [(.loc 92)]),(.call 43 [(.loc 92)]),(.call 45 [(.loc 92)])]) O=some ([decide (i=0),decide (i<256),decide (i≥256)].map .bool,O):=
  N4 (eW (su ((cL (bf (ak hi))).trans (Wc (N:=N+7) i ok)) (su ((cL (bf (ak hi))).trans (Ye (N:=N+7) i ok)) (se ((cL (bf (ak hi))).trans (d5k (N:=N+7) i ok))))) (show 3<=big from nb rfl))
 refine jL ct (show 3<=big from nb rfl) (pA _ _ λb hb=>br (u:=.bool b) (ak dM) az (by cases b<;>rfl))
structure dW(aS O:Mu)(p:Nat)(s:Pl):Prop where
 base:O.take aS.length=aS
 c:O[aS.length]?=some (.list (s.counts.map nV))
 f:O[aS.length+2]?=some (.list (s.found.map bC))
 pl:O[p]?=some (.list (s.pile.map dZ))
 lt:aS.length<p
 ne:p≠aS.length+2
 ok:b9 O=true
theorem Ds(h:b9 O=true)(hl:cY l=true):b9 (O++[.list l])=true:=by
 unfold b9 at *;rw[JV,jm];refine⟨cN.mpr λz hz=>?_,(Ec _).trans hl⟩;have:=cN.mp h z hz;induction z using Internal.M.casesOn with
 |list l=>exact this
 |dict l=>exact this
 |obj is n=>exact cN.mpr λx hx=>decide_eq_true (fk (of_decide_eq_true (cN.mp this x hx)) (by rw[cA];exact gZ _ _))
theorem uG{f:α->V}(h:∀a,plain (f a)=true)(l:List α):cY (l.map f)=true:=by
 induction l with
 |nil=>rfl
 |cons a l ih=>show(plain (f a)&&cY (l.map f))=true;rw[h a,ih];rfl
theorem Dr{x:M}(h:m<=k)(b:O.take m=aS):(O.set k x).take m=aS:=by
 rw[List.take_set_of_le h,b]
theorem wc{x:M}{r:Option M}(h:i≠j)(e:O[j]?=r):(O.set i x)[j]?=r:=by
 rw[lz h,e]
theorem dW.setC{s:Pl}(h:dW aS O p s)(c:List Nat):dW aS (O.set aS.length (.list (c.map nV))) p ⟨c,s.pile,s.found⟩ where
 base:=Dr (bV _) h.base
 c:=o5 h.c
 f:=wc (jk (g4m (nb rfl))) h.f
 pl:=wc (jk h.lt) h.pl
 lt:=h.lt
 ne:=h.ne
 ok:=sA h.ok (uG (λzz=>rfl) _)
theorem dW.TR{s:Pl}(h:dW aS O p s)(l:List (Nat×Nat)):dW aS (O.set p (.list (l.map dZ))) p ⟨s.counts,l,s.found⟩ where
 base:=Dr (cy h.lt) h.base
 c:=wc (iW h.lt) h.c
 f:=wc h.ne h.f
 pl:=o5 h.pl
 lt:=h.lt
 ne:=h.ne
 ok:=sA h.ok (uG (λzz=>rfl) _)
theorem dW.gv{s:Pl}(h:dW aS O p s)(l:List Nd):dW aS (O.set (aS.length+2) (.list (l.map bC))) p ⟨s.counts,s.pile,l⟩ where
 base:=Dr (gZ _ _) h.base
 c:=wc (iW (g4m (nb rfl))) h.c
 f:=o5 h.f
 pl:=wc (Jx h.ne) h.pl
 lt:=h.lt
 ne:=h.ne
 ok:=sA h.ok (uG (λzz=>rfl) _)
theorem Cw{l:Mu}{x y:M}(e:l[i]?=some x):(l++[y])[i]?=some x:=by
 rw[iK (cM.mp e).1,e]
theorem dW.T9{s:Pl}(h:dW aS O p s)(l:List (Nat×Nat)):dW aS (O++[.list (l.map dZ)]) O.length ⟨s.counts,l,s.found⟩ where
 base:=by rw[JK (cy (cM.mp h.c).1),h.base]
 c:=Cw h.c
 f:=Cw h.f
 pl:=by rw[fY (bV _),jy];rfl
 lt:=(cM.mp h.c).1
 ne:=iW (cM.mp h.f).1
 ok:=Ds h.ok (uG (λzz=>rfl) _)
noncomputable def pE(m p:Nat):List (Nat×V):=[(192,.mut m),(193,.mut p),(194,.mut (m+2))]
structure pH(s:Pl):Prop where
 c0:0<s.counts.length
 c:s.counts.length<15
 p:s.pile.length<15
 f:s.found.length<15
theorem H7{s:Pl}(P:dW aS O p s)(z:pH s)(K:ay J (pE aS.length p)):ev gK (N+2) (.call 0 [(.loc 192)]) J O=some (.int (s.counts.length:Nat),O):=by
 have:=Ie (Z:=gK) (n:=N+1) (x:=.loc 192) (λzz zz zz=>rfl) (ak (K 192 _ rfl)) P.c (by rw[aW];exact cQ (fj z.c (nb rfl)));rw[aW]at this;exact this
theorem HX{w:List Nat}(h:J.lookup 82=some (.str w))(hb:(toks.lookup w).isSome=b):ev gK (N+2) (.yf 27 (.loc 82)) J O=some (.bool b,O):=by
 rw[Yc,ak h,←hb];rfl
theorem e5f{w:List Nat}{k:Int}(h:J.lookup 82=some (.str w))(hb:toks.lookup w=some k):ev gK (N+2) (.xV 27 (.loc 82)) J O=some (.int k,O):=by
 rw[ZS,ak h];show(toks.lookup w).map _=_;rw[hb];rfl
theorem d7r(hc:c<48)(h:J.lookup 82=some (.str (sW c))):ev gK (N+8) yD J O=some (.int ((5*c+20:Nat):Int),O):=by
 refine(v7 (HX (N:=N+5) h (by rw[Po hc];rfl)) rfl).trans ((if_pos rfl).trans ?_);refine aF (u:=.int (5*((7+c:Nat):Int))) (aF az (e5f (N:=N+3) h (Po hc)) rfl) az ?_;refine congrArg some (congrArg V.int ?_);show 5*((7:Int)+c)-15=_;rw[Int.mul_add,xH,Int.add_sub_assoc];rfl
theorem d6a{s:Pl}{w:List Nat}(P:dW aS O p s)(z:pH s)(h1:toks.lookup w=.none)(h2:w≠[])(h3:w.length<=100)(K:ay J ((82,.str w)::pE aS.length p)):ev gK (N+9) yD J O=some (.int ((255+s.counts.length:Nat):Int),O):=by
 refine(v7 (HX (N:=N+6) (b:=false) (K 82 _ rfl) (by rw[h1];rfl)) rfl).trans ((if_neg gP).trans ?_);refine(v7 (bv:=true) (ak (K 82 _ rfl)) ?_).trans ((if_pos rfl).trans ?_)
 ·refine(if_pos (aV h3 (nb rfl))).trans ?_
  cases w
  ·exact absurd rfl h2
  ·rfl
 ·refine aF (u:=.int (256+(s.counts.length:Int))) (aF (u:=.int 256) (rfl:ev gK (N+5+1) (.jo 28) J O=_) (H7 (N:=N+4) P z (K.rest rfl)) rfl) az ?_
  refine congrArg some (congrArg V.int ?_);show(256:Int)+s.counts.length + -1=_;rw[Int.add_right_comm];rfl
theorem e4w(h:J.lookup 82=some (.str [])):ev gK (N+9) yD J O=some (.int 0,O):=by
 refine(v7 (HX (N:=N+6) (b:=false) h (by rw[e4m];rfl)) rfl).trans ((if_neg gP).trans ?_);exact(v7 (bv:=false) (ak h) rfl).trans rfl
theorem e2p{l:List (Nat×Nat)}{q:Int}(hq:fz q l.length=some k)(hk:k<l.length)(hz:l.length<15):item (.lst (l.map dZ)) (.int q)=some (dZ (bG l k)):=by
 show(if(l.map dZ).length<=big then(fz q (l.map dZ).length).bind ((l.map dZ)[·]?)else .none)=_;rw[aW,if_pos (cQ (fj hz (nb rfl))),hq];show(l.map dZ)[k]?=_;unfold bG;rw[pO,xC,qR hk];rfl
theorem zl{l:List (Nat×Nat)}{q:Int}{i j:X}(hp:O[p]?=some (.list (l.map dZ)))(hz:l.length<15)(h:J.lookup 193=some (.mut p))(hi:ev gK (N+2) i J O=some (.int q,O))(hq:fz q l.length=some k)(hk:k<l.length)(hj:ev gK (N+3) j J O=some (r,O))(hv:item (dZ (bG l k)) r=some v):ev gK (N+4) (pk i j) J O=some (v,O):=
 dU (HB (ak h) hp hi (e2p hq hk hz)) hj hv
end
section
noncomputable def Yr:List Internal.S:=[.ite (kX true true false) [.ret BB] [],.ite (kX false false true) NB [],.ite (kX false true false) OU []]
theorem IA{i:Int}{a c:Bool}{r:Option (F×aB×Mu)}(hs:ev gK (N+29) yD J O=some (.int i,O))(ok:b9 O=true)(ha:decide (i=0)=a)(hb:decide (i<256)=b)(hc:decide (i≥256)=c)
  (k:bE (aQ gK (N+29)) Yr (put 93 (k3 a b c) (put 92 (.int i) J)) O=r):exec gK (N+30) ny J O=r:=by
 subst ha hb hc;exact(bq (f:=aQ gK (N+29)) (gX hs)).trans ((bq (gX (c5e (N:=N+9) dM ok))).trans k)
theorem um{a c a' b' c':Bool}(h:J.lookup 93=some (k3 a b c)):ev gK (N+4) (kX a' b' c') J O=some (.bool (decide ([a,b,c]=[a',b',c'])),O):=
 br (ak h) (lN (aX az (aX az (bf az))) (show 3<=big from nb rfl)) (XE a b c a' b' c')
theorem skip{c:X}{s:List Internal.S}{rest:List Internal.S}{r:Option (F×aB×Mu)}(h:ev gK (n+1) c J O=some (.bool false,O))(k:bE (aQ gK (n+1)) rest J O=r):bE (aQ gK (n+1)) (.ite c s []::rest) J O=r:=
 d7 (bv:=false) h rfl k
theorem MF{c:X}{s rest:List Internal.S}{r:Option (F×aB×Mu)}(h:ev gK (n+1) c J O=some (.bool true,O))(k:bE (aQ gK n) s J O=some (.next,ρ',ai))(k2:bE (aQ gK (n+1)) rest ρ' ai=r):bE (aQ gK (n+1)) (.ite c s []::rest) J O=r:=
 (bq ((fc (bv:=true) h rfl).trans k)).trans k2
theorem IB{l:List α}(h:0<l.length):fz (-1) l.length=some (l.length-1):=Ia (k:=0) h
theorem DB{l:List Nat}{q:Int}(hq:fz q l.length=some k)(hk:k<l.length)(hz:l.length<15):item (.lst (l.map nV)) (.int q)=some (nV (l.getD k 0)):=by
 show(if(l.map nV).length<=big then(fz q (l.map nV).length).bind ((l.map nV)[·]?)else .none)=_;rw[aW,if_pos (cQ (fj hz (nb rfl))),hq];show(l.map nV)[k]?=_;rw[pO,xC,qR hk];rfl
theorem Ny{l:List Nat}(h:0<l.length):l.getD (l.length-1) 0=l.getLastD 0:=by
 rw[xC,←List.getLast?_eq_getElem?,List.getLastD_eq_getLast?]
theorem d4d{s:Pl}{w:List Nat}(P:dW aS O p s)(z:pH s)(h1:toks.lookup w=.none)(h2:w≠[])(h3:w.length<=100)(K:ay J ((82,.str w)::pE aS.length p)) :
  ∃ρ' ai,exec gK (N+30) ny J O=some (.next,ρ',ai)/\dW aS ai p ⟨s.counts++[0],s.pile++[(s.counts.length-1,s.counts.length)],s.found⟩/\ay ρ' (pE aS.length p):=by
 have hl:=z.c0;have hl2:=z.c;have K2:=(K.put 92 (.int ((255+s.counts.length:Nat):Int))).put 93 (k3 false false true);generalize bH:put 93 (k3 false false true) (put 92 (V.int ((255+s.counts.length:Nat):Int)) J)=bw at K2;have KE:ay bw (pE aS.length p):=((K2.rest rfl).rest rfl).rest rfl;have P1:=P.TR (s.pile++[(s.counts.length-1,s.counts.length)]);have P2:=P1.setC (s.counts++[0]);refine⟨bw,_,IA (N:=N) (d6a (N:=N+20) P z h1 h2 h3 K) P.ok (a:=false) (b:=false) (c:=true) (decide_eq_false (by omega)) (decide_eq_false (by omega)) (decide_eq_true (by omega)) ?_,P2,KE⟩;rw[bH];refine skip (um (N:=N+25) (K2 93 _ rfl)) (MF (ρ':=bw) (ai:=_) (um (N:=N+25) (K2 93 _ rfl)) ?_ (skip (um (N:=N+25) (K2 93 _ rfl)) rfl));have e1:ev gK (N+27) (.tup [(.bin .Sub (.call 0 [(.loc 192)]) i1),(.call 0 [(.loc 192)])]) bw O=some (dZ (s.counts.length-1,s.counts.length),O):=by
  refine(eW (aX (aF (H7 (N:=N+23) P z KE) az rfl) (bf (H7 (N:=N+24) P z KE))) (show 2<=big from nb rfl)).trans ?_;show some (V.tup [.int ((s.counts.length:Int)-1),_],O)=_;rw[show(s.counts.length:Int)-1=((s.counts.length-1:Nat):Int)from Ey hl];rfl
 have e2:=ux (Z:=gK) (M:=N+26) (λzz zz=>rfl) (λzz zz zz zz=>rfl) (KE 193 _ rfl) e1 P.pl (by rw[aW];exact cQ (fj z.p (nb rfl)));rw[show s.pile.map dZ++[dZ (s.counts.length-1,s.counts.length)]=(s.pile++[(s.counts.length-1,s.counts.length)]).map dZ by rw[ie];rfl]at e2;have e3:=ux (Z:=gK) (M:=N+26) (x:=i0) (v:=.int 0) (λzz zz=>rfl) (λzz zz zz zz=>rfl) (KE 192 _ rfl) az P1.c (by rw[aW];exact cQ (fj z.c (nb rfl)));rw[show s.counts.map nV++[V.int 0]=(s.counts++[0]).map nV by rw[ie];rfl]at e3;exact(bq (f:=aQ gK (N+28)) (qD e2)).trans ((bq (qD e3)).trans rfl)
theorem We(l:List Nat)(h:0<l.length):(l.map nV).set (l.length-1) (.int (((l.getLastD 0:Nat):Int)+1))=(l.dropLast++[l.getLastD 0+1]).map nV:=by
 obtain⟨l,a,rfl⟩:∃l' a,l=l'++[a]:=⟨l.dropLast,l.getLast (List.ne_nil_of_length_pos h),(List.dropLast_concat_getLast _).symm⟩;rw[ie,cA,xA,Nat.add_sub_cancel,sU,List.getLastD_concat,ie];have:=So (s:=l.map nV) (t:=[a].map nV) (i:=l.length) (x:=V.int ((a:Int)+1)) (by rw[aW];exact bV _);refine this.trans ?_;rw[aW,jy];rfl
theorem e9a{s:Pl}(P:dW aS O p s)(z:pH s)(K:ay J (pE aS.length p)):aQ gK (N+5) (.wg 192 m1 i1) J O=some (.next,J,O.set aS.length (.list ((s.counts.dropLast++[s.counts.getLastD 0+1]).map nV))):=by
 have h:=d2u (Z:=gK) (n:=N+5) (i:=192) (k:=m1) (e:=i1) (q:=-1) (a:=((s.counts.getLastD 0:Nat):Int)) (b:=1) (p:=s.counts.length-1) (K 192 _ rfl) nC P.c ((DB (IB z.c0) (Ak z.c0 Nat.one_pos) z.c).trans (by rw[Ny z.c0];rfl)) az ⟨by rw[aW];exact cQ (fj z.c (nb rfl)),by decide⟩ (by rw[aW];exact IB z.c0);rw[We _ z.c0]at h;exact h
theorem QZ{s s':Pl}(hc:c<48)(P:dW aS O p s)(z:pH s)(K:ay J ((82,.str (sW c))::pE aS.length p)){p':Nat}
  (k:∀bw,ay bw ((92,.int ((5*c+20:Nat):Int))::pE aS.length p)->∃ρ' ai,aQ gK (N+28) (.ite (.cmp .Eq (.bin .Mod (.loc 92) i2) i1) NR []) bw (O.set aS.length (.list ((s.counts.dropLast++[s.counts.getLastD 0+1]).map nV)))=some (.next,ρ',ai)/\dW aS ai p' s'/\ay ρ' (pE aS.length p')) :
  ∃ρ' ai,exec gK (N+30) ny J O=some (.next,ρ',ai)/\dW aS ai p' s'/\ay ρ' (pE aS.length p'):=by
 have K2:=(K.put 92 (.int ((5*c+20:Nat):Int))).put 93 (k3 false true false);generalize bH:put 93 (k3 false true false) (put 92 (V.int ((5*c+20:Nat):Int)) J)=bw at K2;have KE:ay bw (pE aS.length p):=((K2.rest rfl).rest rfl).rest rfl;obtain⟨ρ',ai,h1,h2,h3⟩:=k bw (ay.cons (K2 92 _ rfl) KE);refine⟨ρ',ai,IA (N:=N) (d7r (N:=N+21) hc (K 82 _ rfl)) P.ok (a:=false) (b:=true) (c:=false) (decide_eq_false (by omega)) (decide_eq_true (by omega)) (decide_eq_false (by omega)) ?_,h2,h3⟩;rw[bH];refine skip (um (N:=N+25) (K2 93 _ rfl)) (skip (um (N:=N+25) (K2 93 _ rfl)) (MF (um (N:=N+25) (K2 93 _ rfl)) ?_ rfl));exact(bq (f:=aQ gK (N+28)) (e9a (N:=N+23) P z KE)).trans ((bq h1).trans rfl)
theorem OI(h:c%2=k)(hl:J.lookup 92=some (.int ((5*c+20:Nat):Int))):ev gK (N+4) (.cmp .Eq (.bin .Mod (.loc 92) i2) i1) J O=some (.bool (decide (k=1)),O):=by
 refine br (aF (ak hl) az (lM (5*c+20) 2 (by decide))) az (yH.trans ?_);rw[show(5*c+20)%2=k from(g4r (5*c) 10 2).trans ((congrArg (·%2) ((Nat.succ_mul 4 c).trans (congrArg (·+c) (pK 2 2 c)))).trans ((g4h 2 (2*c) c).trans h))]
theorem d0d{x:Nat}{s:Pl}(hx:x<24)(P:dW aS O p s)(z:pH s)(K:ay J ((82,.str (sW (x*2+0)))::pE aS.length p)) :
  ∃ρ' ai,exec gK (N+30) ny J O=some (.next,ρ',ai)/\dW aS ai p ⟨s.counts.dropLast++[s.counts.getLastD 0+1],s.pile,s.found⟩/\ay ρ' (pE aS.length p):=by
 refine QZ (N:=N) (c:=x*2+0) (AM hx (nb rfl)) P z K λbw K2=>⟨bw,_,?_,P.setC _,K2.rest rfl⟩;exact(fc (OI (N:=N+24) (k:=0) (Nat.mul_mod_left x 2) (K2 92 _ rfl)) rfl).trans rfl
theorem c6c{x:Nat}{s:Pl}(hx:x<24)(h2:2<=s.pile.length)(P:dW aS O p s)(z:pH s)(K:ay J ((82,.str (sW (x*2+1)))::pE aS.length p)) :
  ∃p' ρ' ai,exec gK (N+30) ny J O=some (.next,ρ',ai)/\dW aS ai p' ⟨s.counts.dropLast++[s.counts.getLastD 0+1],s.pile.take (s.pile.length-2)++[((bG s.pile (s.pile.length-2)).1,(bG s.pile (s.pile.length-1)).2)],
   s.found++[((bG s.pile (s.pile.length-2)).1,(bG s.pile (s.pile.length-1)).1,(bG s.pile (s.pile.length-1)).2)]⟩/\ay ρ' (pE aS.length p'):=by
 have P1:=P.setC (s.counts.dropLast++[s.counts.getLastD 0+1]);refine⟨_,QZ (N:=N) (c:=x*2+1) (p':=(O.set aS.length (.list ((s.counts.dropLast++[s.counts.getLastD 0+1]).map nV))).length) (AM hx (nb rfl)) P z K λbw K2=>?_⟩;generalize O.set aS.length (M.list ((s.counts.dropLast++[s.counts.getLastD 0+1]).map nV))=fy at *;have KE:=K2.rest rfl;have hp:fz (-2) s.pile.length=some (s.pile.length-2):=Ia (k:=1) h2;have hq:fz (-1) s.pile.length=some (s.pile.length-1):=Ia (k:=0) (by exact cy h2);have hk2:s.pile.length-2<s.pile.length:=Ak (fk (nb rfl) h2) (nb rfl);have hk1:s.pile.length-1<s.pile.length:=Ak (fk (nb rfl) h2) (nb rfl);have e1:ev gK (N+26) (.tup [pk m2 i0,pk m1 i0,pk m1 i1]) bw fy=some (bC ((bG s.pile (s.pile.length-2)).1,(bG s.pile (s.pile.length-1)).1,(bG s.pile (s.pile.length-1)).2),fy):=
  eW (aX (zl (N:=N+21) P1.pl z.p (KE 193 _ rfl) GY hp hk2 az (AS _)) (aX (zl (N:=N+21) P1.pl z.p (KE 193 _ rfl) nC hq hk1 az (AS _)) (bf (zl (N:=N+21) P1.pl z.p (KE 193 _ rfl) nC hq hk1 az (EA _))))) (show 3<=big from nb rfl)
 have e2:=ux (Z:=gK) (M:=N+25) (λzz zz=>rfl) (λzz zz zz zz=>rfl) (KE 194 _ rfl) e1 P1.f (by rw[aW];exact cQ (fj z.f (nb rfl)));rw[show s.found.map bC++[bC ((bG s.pile (s.pile.length-2)).1,(bG s.pile (s.pile.length-1)).1,(bG s.pile (s.pile.length-1)).2)]=(s.found++[((bG s.pile (s.pile.length-2)).1,(bG s.pile (s.pile.length-1)).1,(bG s.pile (s.pile.length-1)).2)]).map bC by rw[ie];rfl]at e2;have P2:=P1.gv (s.found++[((bG s.pile (s.pile.length-2)).1,(bG s.pile (s.pile.length-1)).1,(bG s.pile (s.pile.length-1)).2)]);have hlen:(fy.set (aS.length+2) (M.list ((s.found++[((bG s.pile (s.pile.length-2)).1,(bG s.pile (s.pile.length-1)).1,(bG s.pile (s.pile.length-1)).2)]).map bC))).length=fy.length:=pN;have P3:=P2.T9 (s.pile.take (s.pile.length-2)++[((bG s.pile (s.pile.length-2)).1,(bG s.pile (s.pile.length-1)).2)]);generalize fy.set (aS.length+2) (M.list ((s.found++[((bG s.pile (s.pile.length-2)).1,(bG s.pile (s.pile.length-1)).1,(bG s.pile (s.pile.length-1)).2)]).map bC))=jB at *;have sl:=c8j (l:=s.pile.map dZ) (by rw[aW];exact fj z.p (nb rfl));have e3:ev gK (N+27) (.u6 (.slc (.loc 193) .none (some m2) .none) (.lst [(.tup [pk m2 i0,pk m1 i1])])) bw jB=some (.mut jB.length,jB++[.list ((s.pile.take (s.pile.length-2)++[((bG s.pile (s.pile.length-2)).1,(bG s.pile (s.pile.length-1)).2)]).map dZ)]):=by
  have l1:((s.pile.map dZ).take ((s.pile.map dZ).length-2)).length<=15:=by rw[sR,aW];have:=z.p;exact KP (tH this)
  refine e4d (c6d (ak (KE 193 _ rfl)) P2.pl GY sl) (lN (bf (eW (aX (zl (N:=N+20) P2.pl z.p (KE 193 _ rfl) GY hp hk2 az (AS _)) (bf (zl (N:=N+20) P2.pl z.p (KE 193 _ rfl) nC hq hk1 az (EA _)))) (show 2<=big from nb rfl))) (show 1<=big from nb rfl)) ((rG (aV (sO l1 1) (nb rfl))).trans ?_);rw[aW,ie,JO];rfl
 rw[hlen]at e3 P3;refine⟨_,_,(fc (OI (N:=N+24) (k:=1) (by rw[kg];exact g4r 1 x 2) (K2 92 _ rfl)) rfl).trans ((bq (f:=aQ gK (N+27)) (qD e2)).trans ((bq (gX e3)).trans rfl)),P3,?_⟩;have K3:=KE.put 193 (.mut fy.length);exact ay.cons (K3 192 _ rfl) (ay.cons (K3 193 _ rfl) (ay.cons (K3 194 _ rfl) ay.nil))
end
theorem OH{s:Pl}(h:FQ s=true):pH s:=⟨bD.mp (aP h),bD.mp (aP (aR h)),bD.mp (aP (aR (aR h))),bD.mp (aR (aR (aR h)))⟩
section
noncomputable def je(c:List Nat):V:=.lst ((oS c).map nV)
theorem d9b{s:Pl}(P:dW aS O p s)(z:pH s)(K:ay J ((82,.str [])::pE aS.length p)) :
  ∃ρ',exec gK (N+30) ny J O=some (.ret (.tup [je s.counts,.mut (aS.length+2)]),ρ',O):=by
 have K2:=(K.put 92 (.int 0)).put 93 (k3 true true false);refine⟨put 93 (k3 true true false) (put 92 (V.int 0) J),IA (N:=N) (e4w (N:=N+20) (K 82 _ rfl)) P.ok (a:=true) (b:=true) (c:=false) rfl rfl rfl ?_⟩;generalize bH:put 93 (k3 true true false) (put 92 (V.int 0) J)=bw at K2 ⊢;have KE:ay bw (pE aS.length p):=((K2.rest rfl).rest rfl).rest rfl;have hz:(s.counts.map nV).length<20:=by rw[aW];exact fj z.c (nb rfl)
 have e1:ev gK (N+25) (.lst [.sub (.loc 192) i0]) bw O=some (.lst [nV (s.counts.getD 0 0)],O):=
  lN (bf (HB (ak (KE 192 _ rfl)) P.c az (DB (q:=0) (CL (k:=0) z.c0) z.c0 z.c))) (show 1<=big from nb rfl)
 have e3:ev gK (N+26) (.lst [.sub (.loc 192) m1]) bw O=some (.lst [nV (s.counts.getLastD 0)],O):=
  lN (bf (HB (ak (KE 192 _ rfl)) P.c nC ((DB (IB z.c0) (Ak z.c0 Nat.one_pos) z.c).trans (by rw[Ny z.c0])))) (show 1<=big from nb rfl)
 have e2:ev gK (N+25) (.comp (bO (.loc 9) i1) (.one 9) (.slc (.loc 192) (some i1) (some m1) .none) [] [42,9]) bw O=some (.lst ((((s.counts.drop 1).take (s.counts.length-2)).map (·+1)).map nV),O):=by
  have sl:=d6p hz;rw[aW,←g5h,←JO]at sl;rw[gk];refine jL (jd rfl (b9e (ak (KE 192 _ rfl)) P.c az nC sl) rfl) (by rw[aW,sR];exact cQ (ck (Ew (lS _ _)) (bz z.c))) (pA (h:=nV) (g:=λk=>nV (k+1)) _ _ λk zz=>aF (ak dM) az rfl)
 have e4:ev gK (N+28) BB bw O=some (.tup [je s.counts,.mut (aS.length+2)],O):=by
  refine eW (aX (aF (aF e1 e2 (rG ?_)) e3 ((rG ?_).trans ?_)) (bf (ak (KE 194 _ rfl)))) (show 2<=big from nb rfl)
  ·rw[aW,aW,sR];exact cQ (ck (iX (Ew (lS _ _)) 1) (bz (iX z.c 1)))
  ·rw[cA,aW,aW,sR];exact cQ (ck (dc (iX (Ew (lS _ _)) 1)) (bz (dc (iX z.c 1))))
  ·unfold je oS
   rw[ie,ie];rfl
 have e5:aQ gK (N+29) (.ite (kX true true false) [.ret BB] []) bw O=some (.ret (.tup [je s.counts,.mut (aS.length+2)]),bw,O):=
  (fc (bv:=true) (um (N:=N+25) (K2 93 _ rfl)) rfl).trans (j8 (f:=aQ gK (N+28)) (sr e4))
 exact j8 e5
theorem d1m{v:List Nat}{s s2:Pl}(kw:KW v k)(h2:Nm k s=some s2)(P:dW aS O p s)(z:pH s)(K1:ay J ((82,.str v)::pE aS.length p)) :
  ∃p' ρ' ai,exec gK (N+30) ny J O=some (.next,ρ',ai)/\dW aS ai p' s2/\ay ρ' (pE aS.length p'):=by
 cases kw with
 |leaf h1 hn h3=>
  obtain rfl:=aD h2;exact⟨_,d4d P z h1 hn h3 K1⟩
 |sign hk hx=>
  rcases(by decide:∀k<2,k=0∨k=1) k hk with rfl|rfl
  ·obtain rfl:=aD h2
   exact⟨_,d0d hx P z K1⟩
  ·refine jT h2 λhp h2=>?_
   obtain rfl:=aD h2;exact c6c (N:=N) hx (pI.mp hp) P z K1
theorem d1q:∀(W:List Wd) (s s':Pl) (p:Nat) (O:Mu) (J:aB),(∀w∈W,KW w.1 w.2)->vo (W.map (·.2)) s=some s'->dW aS O p s->ay J (pE aS.length p) →
  ∃ρ' ai p',eB (λJ O=>exec gK (N+30) ny J O) (.one 82) (wV W++[.str []]) J O=some (.ret (.tup [je s'.counts,.mut (aS.length+2)]),ρ',ai)/\dW aS ai p' s':=by
 intro W;induction W with
 |nil=>
  intro s s' p O J _ hr P K;refine aL hr λho hr=>?_;obtain rfl:=aD hr;obtain⟨ρ',e⟩:=d9b (N:=N) P (OH ho) (K.put 82 (.str []));exact⟨ρ',O,p,d2y gy e,P⟩
 |cons w W ih=>
  intro s s' p O J hw hr P K;refine aL hr λho hr=>aO hr λs2 h2 hr=>?_;have z:=OH ho;have fin:∀{p':Nat},(∃ρ' ai,exec gK (N+30) ny (put 82 (.str w.1) J) O=some (.next,ρ',ai)/\dW aS ai p' s2/\ay ρ' (pE aS.length p'))->∃ρ' ai p',eB (λJ O=>exec gK (N+30) ny J O) (.one 82) (wV (w::W)++[.str []]) J O=some (.ret (.tup [je s'.counts,.mut (aS.length+2)]),ρ',ai)/\dW aS ai p' s':=λ{p'} hx=>by
   obtain⟨aY,fy,e1,P1,K1⟩:=hx;obtain⟨bw,jB,p2,e2,P2⟩:=ih s2 s' p' fy aY (λw h=>hw w (fX _ h)) hr P1 K1;exact⟨bw,jB,p2,(nL gy e1).trans e2,P2⟩
  obtain⟨p',hx⟩:=d1m (N:=N) (hw w fW) h2 P z (K.put 82 (.str w.1));exact fin hx
theorem d2z{W:List Wd}{s:Pl}(hW:∀w∈W,KW w.1 w.2)(hr:vo (W.map (·.2)) ⟨[0],[],[]⟩=some s)(ok:b9 O=true):cF gK zK wz (N+40) [.lst (wV W++[.str []])] O=some (.tup [je s.counts,.lst (s.found.map bC)],O):=by
 refine fF ([(100,V.lst (wV W++[.str []]))]) λJ bH=>?_;have K:ay J [(100,.lst (wV W++[.str []]))]:=by rw[bH];exact ay.self
 have l1:(O++[M.list [nV 0]]).length=O.length+1:=by rw[cA];rfl
 have l2:((O++[M.list [nV 0]])++[M.list []]).length=O.length+2:=by rw[cA,l1];rfl
 have e1:ev gK (N+38) (.tup [(.jD [i0]),(.jD []),(.jD [])]) J O=some (.tup [.mut O.length,.mut (O.length+1),.mut (O.length+2)],((O++[.list [nV 0]])++[.list []])++[.list []]):=by
  have:=eW (Z:=gK) (n:=N+37) (J:=J) (su (wC (n:=N+36) (O:=O) (bf (v:=nV 0) (az (n:=N+35))) (show 1<=big from nb rfl)) (su (wC (n:=N+36) zL (iV _)) (se (wC (n:=N+36) zL (iV _))))) (show 3<=big from nb rfl);rw[l1,l2]at this;exact this
 have P:dW O (((O++[.list [nV 0]])++[.list []])++[.list []]) (O.length+1) ⟨[0],[],[]⟩:=by
  refine⟨?_,?_,?_,?_,nR _,jk (nR _),Ds (Ds (Ds ok rfl) rfl) rfl⟩
  ·rw[f5,f5,Sm]
  ·rw[f5,f5,fY (bV _),jy];rfl
  ·rw[←l2,fY (bV _),jy];rfl
  ·rw[f5,←l1,fY (bV _),jy];rfl
 have K1:ay (put 194 (.mut (O.length+2)) (put 193 (.mut (O.length+1)) (put 192 (.mut O.length) J))) (pE O.length (O.length+1)):=by
  have:=((K.put 192 (.mut O.length)).put 193 (.mut (O.length+1))).put 194 (.mut (O.length+2));exact ay.cons (this 192 _ rfl) (ay.cons (this 193 _ rfl) (ay.cons (this 194 _ rfl) ay.nil))
 have yx:(put 194 (V.mut (O.length+2)) (put 193 (.mut (O.length+1)) (put 192 (.mut O.length) J))).lookup 100=some (.lst (wV W++[.str []])):=gh (gh (gh (K 100 _ rfl) (by decide)) (by decide)) (by decide);obtain⟨ρ',ai,p',e2,P2⟩:=d1q (N:=N+8) W _ s (O.length+1) _ _ hW hr P K1;have e3:exec gK (N+39) wz J O=some (.ret (.tup [je s.counts,.mut (O.length+2)]),ρ',ai):=
  (bq (f:=aQ gK (N+38)) (RD e1)).trans (j8 ((nK (jd rfl (ak yx) rfl)).trans e2))
 rw[bH]at e3;show gW gK (N+39) zK wz [.lst (wV W++[.str []])] O=_;refine o6 (n:=N+39) rfl e3 P2.base ok ?_;show(nJ O.length ai [je s.counts,.mut (O.length+2)]).map V.tup=_;have f1:iR O.length ai (je s.counts)=some (je s.counts):=if_pos (uG (λzz=>rfl) _);have f2:=Dt (m:=O.length) (gZ _ 2) (l:=s.found.map bC) P2.f (uG (λzz=>rfl) _);rw[show nJ O.length ai [je s.counts,V.mut (O.length+2)]=some [je s.counts,V.lst (s.found.map bC)]from ?_]
 ·rfl
 ·show(match iR O.length ai (je s.counts),nJ O.length ai [.mut (O.length+2)]with|some a,some b=>some (a::b)|_,_=>cZ)=_
  rw[f1];show(match some (je s.counts),(match iR O.length ai (.mut (O.length+2)),some ([]:List V)with|some a,some b=>some (a::b)|_,_=>cZ)with|some a,some b=>some (a::b)|_,_=>cZ)=_
  rw[f2]
end
theorem zS{u:List Nat}(h:u <:+ t):u <:+ c::t:=h.trans (Sn c t)
theorem P7{p:Nat->Bool}(hp:p 92=false)(t tok:List Nat)(n:Int):(dJ p t tok n).2.1 <:+ t:=by
 refine C4 hp (P:=λt tok n=>(dJ p t tok n).2.1 <:+ t) (λzz zz=>g4z _) ?_ ?_ ?_ ?_ t.length t tok n (bV _)<;>clear t tok n
 ·intro c t tok n hc;rw[sy hc];exact Sn _ _
 ·intro tok n;rw[Dh hp];exact Sn _ _
 ·intro d t tok n ih;rw[wF hp];exact zS (zS ih)
 ·intro c t tok n hc ir ih;rw[wU hc ir];exact zS ih
theorem b5e:∀(t:List Nat) (n:Int),(dK t n).2.1 <:+ t:=by
 intro z_;induction z_ with
 |nil=>
  intro n;exact g4z _
 |cons c t ih=>
  intro n;induction hw:fC c using eo with
  |true=>rw[Dl hw];exact zS (ih _)
  |false=>
   by_cases jU:c=34
   ·subst jU;rw[wG];exact zS (P7 rfl _ _ _)
   ·rw[uE hw jU];exact P7 rfl _ _ _
def Tok(O:Mu)(k:Nat)(w:List Nat)(ai:Mu):Prop:=o8 O (.mut k)=true/\∀N,mF g0 nP nM (N+30) (.mut k) [] O=some (.str w,ai)
noncomputable def aU(t:List Nat)(n:Int)(q:List (List Nat))(R:List (List V)):Mu:=
 [.obj [2] (-5),.list (chars t),.obj [] (-6),.obj [1,2] (-3),.list (q.map .str),.obj [4,3] n]++R.map .list
noncomputable def x0:lu:=⟨5,4,3,1,2⟩
section
variable {n:Int}{R:List (List V)}
theorem p8:(aU t n q R).length=R.length+6:=by unfold aU;rw[cA,aW,kg];rfl
theorem Yu:x0.Ok (aU t n q R):=by
 constructor<;>first|rfl|exact fk (nb rfl) (aV (sN 6 R.length) (gY p8.symm))|decide
theorem C8(h:∀l∈R,cY l=true):b9 (aU t n q R)=true:=by
 unfold b9 aU;rw[JV,jm];constructor
 ·have T:∀{a b:Bool},a=true->b=true->(a&&b)=true:=λh h'=>by rw[h,h'];rfl
  have K:∀k,k<6->decide (k<(aU t n q R).length)=true:=λk h=>decide_eq_true (by rw[p8];exact fk h (sN 6 _));exact T (T (K 2 (nb rfl)) rfl) (T (RE t) (T rfl (T (T (K 1 (nb rfl)) (T (K 2 (nb rfl)) rfl)) (T (Ri q) (T (T (K 4 (nb rfl)) (T (K 3 (nb rfl)) rfl)) rfl)))))
 ·rw[cN]
  intro m hm;obtain⟨l,hl,rfl⟩:=ly.mp hm;exact h l hl
theorem CT(l:List V):aU t n q R++[.list l]=aU t n q (R++[l]):=by unfold aU;rw[f5,ie];rfl
theorem Qx(hR:∀l∈R,cY l=true)(hb:t.length<big)(hn:1<=n)(hc:∀c∈t,c<1114112):Tok (aU t n [] R) 5 (dK t n).1 (aU (dK t n).2.1 (dK t n).2.2 [] R):=by
 refine⟨?_,λN=>?_⟩
 ·show decide (1<=n)=true
  exact decide_eq_true hn
 ·have:=e2x (th:=dO) (N:=N) (x:=x0) (O:=aU t n [] R) (t:=t) (n:=n) Yu (C8 hR) rfl hb hn hc
  exact this
theorem Qc{w:List Nat}(hR:∀l∈R,cY l=true)(hn:1<=n)(hz:q.length<big):Tok (aU t n (w::q) R) 5 w (aU t n q R):=by
 refine⟨?_,λN=>?_⟩
 ·show decide (1<=n)=true
  exact decide_eq_true hn
 ·have:=d6f (th:=dO) (N:=N) (O:=aU t n (w::q) R) (k:=5) (kp:=4) (ks:=3) (s:=w) (r:=q.map .str) rfl hn rfl (by simp;exact hz) (C8 hR)
  exact this
theorem Hz{w:List Nat}(hf:∀u O,Z.find 22 u O=gE.find 22 u O)(hm:∀n u a O,Z.bY n 22 u a O=mF g0 nP nM n u a O)(hl:J.lookup 88=some (.mut k))(ht:Tok O k w ai):ev Z (N+31) tZ J O=some (.str w,ai):=
 (nI (vs:=[]) (aA:=O) (ak hl) ((hf _ _).trans (show(if(22=21∨22=22∨22=23)then o8 O (.mut k)else vL 22 (.mut k) O)=true from(if_pos (Or.inr (Or.inl rfl))).trans ht.1)) rfl).trans ((hm _ _ _ _).trans (ht.2 N))
inductive qj:Mu->List (List Nat)->Mu->Prop
 |nil (O:Mu):qj O [] O
 |cons {O ai kj:Mu}{w:List Nat}{ws:List (List Nat)}:Tok O 5 w ai->qj ai ws kj->qj O (w::ws) kj
theorem YW{ws:List (List Nat)}(hf:∀u O,Z.find 22 u O=gE.find 22 u O)(hm:∀n u a O,Z.bY n 22 u a O=mF g0 nP nM n u a O)(h:qj O ws ai):∀(vs:List V) (J:aB),vs.length=ws.length->J.lookup 88=some (.mut 5)->jw (ev Z (N+31)) tZ (.one 82) [] vs J O=some (ws.map .str,ai):=by
 induction h with
 |nil=>
  intro vs J hl _;obtain rfl:=xD hl;rfl
 |cons ht _ ih=>
  intro vs J hl bH;induction vs using aN with
  |nil=>cases hl
  |cons v vs=>
   have oj:(put 82 v J).lookup 88=some (.mut 5):=by rw[gi,if_neg (by decide)];exact bH
   exact uH gy (Hz hf hm oj ht) (ih vs _ (lR hl) oj)
theorem Ic{w:List Nat}{x:X}(hR:∀l∈R,cY l=true)(hn:1<=n)(hz:q.length<=big)(rD:J.lookup 88=some (.mut 5))(hx:ev gE (N+12) x J (aU t n q R)=some (.str w,aU t n q R)):aQ gE (N+13) (yV x) J (aU t n q R)=some (.next,J,aU t n (q++[w]) R):=by
 refine qD (v:=.none) ((nI (u:=.mut 5) (ak rD) (show(if(23=21∨23=22∨23=23)then o8 (aU t n q R) (.mut 5)else vL 23 (.mut 5) (aU t n q R))=true from(if_pos (Or.inr (Or.inr rfl))).trans (decide_eq_true hn)) (bf hx)).trans ?_);have:=c7q (th:=dO) (N:=N+2) (O:=aU t n q R) (k:=5) (kp:=4) (ks:=3) (s:=w) (l:=q.map .str) rfl hn rfl (by rw[aW];exact hz) (C8 hR);refine this.trans ?_;rw[show q.map V.str++[V.str w]=(q++[w]).map V.str by rw[ie];rfl];rfl
end
def AllP(R:List (List V)):Prop:=∀l∈R,cY l=true
section
variable {R:List (List V)}{l':List V}{L:List (Nat×V)}
theorem Z4:(aU t ln q R)[j+6]?=(R.map M.list)[j]?:=rfl
theorem ID:(aU t ln q (R++[l]))[R.length+6]?=some (.list l):=by
 rw[Z4,ie,fY (by rw[aW];exact bV _),aW,jy];rfl
theorem PN(l:List α)(a b:α):(l++[a]).set l.length b=l++[b]:=by
 induction l with
 |nil=>rfl
 |cons x l ih=>exact congrArg (x::·) ih
theorem d4n:(aU t ln q (R++[l])).set (R.length+6) (.list l')=aU t ln q (R++[l']):=by
 rw[←CT,←CT,←p8 (t:=t) (n:=ln) (q:=q)];exact PN _ _ _
theorem AllP.app(h:AllP R)(hl:cY l=true):AllP (R++[l]):=λm hm=>(ic.mp hm).elim (h m) λq=>bK.mp q▸hl
noncomputable def yk(p:Nat×Nat):List (List Nat):=[[97+p.1],eH p.2 124]
noncomputable def qW(q:List (Nat×Nat)):List (List Nat):=q.flatMap yk
noncomputable def eT(p:Nat×Nat):V:=.lst [.str [97+p.1],.str (eH p.2 124)]
noncomputable def bA(c:Nd):V:=.lst [.int (c.1:Nat),.int (c.2.1:Nat),.int (c.2.2:Nat)]
theorem e7v(p:Nat×Nat)(q:List (Nat×Nat)):qW (p::q)=[97+p.1]::eH p.2 124::qW q:=rfl
theorem Zl(q:List (Nat×Nat))(p:Nat×Nat):qW (q++[p])=(qW q++[[97+p.1]])++[eH p.2 124]:=by
 unfold qW;rw[g5q,f5];rfl
theorem zD(q:List (Nat×Nat)):(qW q).length=2*q.length:=by
 induction q with
 |nil=>rfl
 |cons p q ih=>rw[e7v,lT,lT,ih,lT,JA]
theorem Hg(hR:AllP R):b9 (aU t ln q R)=true:=C8 hR
theorem CC{p:Nat×Nat}{qs:List (Nat×Nat)}(hR:AllP R)(hn:1<=ln)(hz:qs.length<1000)(rD:J.lookup 88=some (.mut 5)):ev gE (N+32) rM J (aU t ln (qW (p::qs)) R)=some (eT p,aU t ln (qW qs) R):=by
 have hb:2*qs.length+1<big:=fk (show 2*qs.length+1<10000 from bz (iJ 2 hz)) (nb rfl);refine lN (su (Hz (λzz zz=>rfl) (λzz zz zz zz=>rfl) rD (Qc (q:=eH p.2 124::qW qs) hR hn ?_)) (se (Hz (λzz zz=>rfl) (λzz zz zz zz=>rfl) rD (Qc hR hn ?_)))) (show 2<=big from nb rfl)
 ·rw[lT,zD];exact hb
 ·rw[zD];exact jP hb
theorem b9k:∀g<8,DM (txt oM) (txt [97+g])=(g:Int):=by decide +kernel
theorem w7(p:Nat×Nat):item (eT p) (.int 0)=some (.str [97+p.1])/\item (eT p) (.int 1)=some (.str (eH p.2 124)):=⟨rfl,rfl⟩
theorem PA{ps:List (Nat×Nat)}(hs:bU (λx O=>ev gE (N+7) x J O) (is.map X.loc) O=some (ps.map eT,O))(hz:ps.length<10)(h8:∀p∈ps,p.1<8):ev gE (N+9) (yR is) J O=some (.lst (ps.map λp=>.int (p.1:Nat)),O):=by
 refine jL (vs:=ps.map eT) (N4 (eW hs (by rw[aW];exact cQ (fj hz (nb rfl))))) (by rw[aW];exact cQ (fj hz (nb rfl))) (pA (h:=eT) (g:=λp=>V.int (p.1:Nat)) _ _ λp hp=>?_);refine(nI (u:=.str oM) (az (n:=N+6)) (rfl:gE.find 40 (.str oM) O=true) (bf (dU (u:=eT p) (v:=.int 0) (w:=.str [97+p.1]) (ak dM) az (w7 p).1))).trans ?_;show some (V.int (DM (txt oM) (txt [97+p.1])),O)=_;rw[b9k _ (h8 p hp)]
theorem XA(b:Nat):iy (eH b 124):=λc hc=>by rw[(List.mem_replicate.mp hc).2];exact nb rfl
theorem e7p{b:Nat}:eH b 124=[]↔b=0:=List.replicate_eq_nil_iff _
noncomputable def eE(m ring:V)(h w:Nat×Nat):List (Nat×V):=[(88,.mut 5),(192,ring),(197,m),(196,eT h),(82,eT w)]
theorem c5g{b:Nat}(hz:b<=1000):slice (.str (eH b 124)) .none (some (-1)) .none=some (.str (eH (b-1) 124)):=by
 rw[QS (by rw[List.length_replicate];exact aV hz B7),List.dropLast_replicate]
theorem OW{p:Nat×Nat}(hz:p.2<=1000)(h:J.lookup i=some (eT p)):ev gE (N+8) (zd i) J O=some (eT (p.1,p.2-1),O):=
 lN (aX (dU (ak h) az (w7 p).1) (bf (Rh (dU (ak h) az (w7 p).2) nC (c5g hz)))) (show 2<=big from nb rfl)
theorem e4a{p:Nat×Nat}(h:J.lookup 82=some (eT p)):ev gE (N+5) (.cmp .Eq (.sub (.loc 82) i1) (sX [])) J O=some (.bool (decide (p.2=0)),O):=by
 refine br (dU (ak h) az (w7 p).2) az ((encStr.Ck (nb rfl) (XA _) (λc hc=>absurd hc ee)).trans (congrArg some (decide_eq_decide.mpr e7p)))
theorem d9r{c:Nd}:(aU t ln q (R++[cuts.map bA])).set (R.length+6) (.list (cuts.map bA++[bA c]))=aU t ln q (R++[(cuts++[c]).map bA]):=by
 rw[d4n,ie];rfl
theorem I7(l:List Nd):cY (l.map bA)=true:=uG (λzz=>rfl) l
theorem e2g{h w b:Nat×Nat}{qs:List (Nat×Nat)}{ring:V}(hR:AllP R)(hn:1<=ln)(hz:qs.length<1000)(hc:cuts.length<100)(h8:h.1<8/\w.1<8/\b.1<8)(hb:h.2<=1000/\b.2<=1000)(K:ay J (eE (.mut (R.length+6)) ring h w)) :
  ∃ρ',bE (aQ gE (N+32)) Bm J (aU t ln (qW (b::qs)) (R++[cuts.map bA]))=some (.next,ρ',aU t ln (qW qs) (R++[(cuts++[(h.1,w.1,b.1)]).map bA]))/\ay ρ' (eE (.mut (R.length+6)) ring (h.1,h.2-1) (b.1,b.2-1)):=by
 have yt:AllP (R++[cuts.map bA]):=hR.app (I7 _);have e1:=CC (N:=N) (t:=t) (p:=b) (qs:=qs) yt hn hz (K 88 _ rfl);have K1:=K.put 198 (eT b);generalize bH:put 198 (eT b) J=aY at K1;have e2:ev gE (N+31) (yR [196,82,198]) aY (aU t ln (qW qs) (R++[cuts.map bA]))=some (bA (h.1,w.1,b.1),aU t ln (qW qs) (R++[cuts.map bA])):=
  PA (N:=N+22) (is:=[196,82,198]) (ps:=[h,w,b]) (aX (ak (K1 196 _ rfl)) (aX (ak (K1 82 _ rfl)) (bf (ak (K1 198 _ rfl))))) (show 3<10 from nb rfl) λp hp=>by
   rcases bT.mp hp with rfl|hp
   ·exact h8.1
   ·rcases bT.mp hp with rfl|hp
    ·exact h8.2.1
    ·rw[bK.mp hp];exact h8.2.2
 have e3:=ux (Z:=gE) (M:=N+30) (λzz zz=>rfl) (λzz zz zz zz=>rfl) (K1 197 _ rfl) e2 ID (by rw[aW];exact cQ (fj hc (nb rfl)));rw[d9r]at e3;have e4:ev gE (N+32) (.tup [zd 196,zd 198]) aY (aU t ln (qW qs) (R++[(cuts++[(h.1,w.1,b.1)]).map bA]))=some (.tup [eT (h.1,h.2-1),eT (b.1,b.2-1)],aU t ln (qW qs) (R++[(cuts++[(h.1,w.1,b.1)]).map bA])):=
  eW (aX (OW (N:=N+23) hb.1 (K1 196 _ rfl)) (bf (OW (N:=N+23) hb.2 (K1 198 _ rfl)))) (show 2<=big from nb rfl)
 have K2:=(K1.put 196 (eT (h.1,h.2-1))).put 82 (eT (b.1,b.2-1));refine⟨_,(bq (gX e1)).trans ?_,ay.cons (K2 88 _ rfl) (ay.cons (K2 192 _ rfl) (ay.cons (K2 197 _ rfl) (ay.cons (K2 196 _ rfl) (ay.cons (K2 82 _ rfl) ay.nil))))⟩;rw[bH];exact(bq (qD e3)).trans ((bq (pB e4)).trans rfl)
theorem Zu{h w b:Nat×Nat}{qs uZ:List (Nat×Nat)}{ring:V}(hR:AllP R)(hn:1<=ln)(hz:qs.length<1000)(hq:qs++[h]=b::uZ)(K:ay J (eE (.mut (R.length+6)) ring h w)) :
  ∃ρ',bE (aQ gE (N+34)) AU J (aU t ln (qW qs) (R++[cuts.map bA]))=some (.next,ρ',aU t ln (qW uZ) (R++[cuts.map bA]))/\ay ρ' (eE (.mut (R.length+6)) ring w b):=by
 have yt:AllP (R++[cuts.map bA]):=hR.app (I7 _);have hl:(qW qs).length+1<=big:=by rw[zD];exact aV (show 2*qs.length+1<=10000 from cy (bz (iJ 2 hz))) (nb rfl)
 have hq':uZ.length<1000:=by
  have:=congrArg uO hq;rw[cA,xA,lT]at this;exact FY this hz
 have e1:=Ic (N:=N+21) (t:=t) (w:=[97+h.1]) (x:=.sub (.loc 196) i0) yt hn (g4n hl) (K 88 _ rfl) (dU (ak (K 196 _ rfl)) az (w7 h).1);have e2:=Ic (N:=N+21) (t:=t) (w:=eH h.2 124) (x:=.sub (.loc 196) i1) (q:=qW qs++[[97+h.1]]) yt hn (by rw[cA];exact hl) (K 88 _ rfl) (dU (ak (K 196 _ rfl)) az (w7 h).2);rw[←Zl,hq]at e2;have e3:ev gE (N+34) (.tup [(.loc 82),rM]) J (aU t ln (qW (b::uZ)) (R++[cuts.map bA]))=some (.tup [eT w,eT b],aU t ln (qW uZ) (R++[cuts.map bA])):=
  eW (su (ak (K 82 _ rfl)) (se (CC (N:=N+1) yt hn hq' (K 88 _ rfl)))) (show 2<=big from nb rfl)
 have K2:=(K.put 196 (eT w)).put 82 (eT b);exact⟨_,(bq e1).trans ((bq e2).trans ((bq (pB e3)).trans rfl)),ay.cons (K2 88 _ rfl) (ay.cons (K2 192 _ rfl) (ay.cons (K2 197 _ rfl) (ay.cons (K2 196 _ rfl) (ay.cons (K2 82 _ rfl) ay.nil))))⟩
end
section
variable {f:X->aB->Mu->Option (V×Mu)}{t:T}{ifs:List X}
inductive yY(f:X->aB->Mu->Option (V×Mu))(g:aB->Mu->Option (List V×aB×Mu))(t:T)(ifs:List X)(O:Mu)(I:aB->Prop)(v:V)(J:aB):List V->Prop
 |yes {aY bw:aB}{ys:List V}:dD t v J=some aY->j0 (λx O=>f x aY O) ifs O=some (true,O)->g aY O=some (ys,bw,O)->I bw->yY f g t ifs O I v J ys
 |no {aY:aB}:dD t v J=some aY->j0 (λx O=>f x aY O) ifs O=some (false,O)->I aY->yY f g t ifs O I v J []
theorem z8{h:α->V}{ys:α->List V}{I:aB->Prop}:∀(l:List α) (J:aB),I J->(∀a∈l,∀J,I J->yY f g t ifs O I (h a) J (ys a))->∃ρ',gf f g t ifs (λzz=>True) (l.map h) J O=some (l.flatMap ys,ρ',O)/\I ρ':=by
 intro l;induction l with
 |nil=>intro J hi _;exact⟨J,if_pos trivial,hi⟩
 |cons a l ih=>
  intro J hi H;have key:∀{vs:List V},yY f g t ifs O I (h a) J vs->∃ρ',gf f g t ifs (λzz=>True) (h a::l.map h) J O=some (vs++l.flatMap ys,ρ',O)/\I ρ':=by
   intro vs T;cases T with
   |yes hb ht hg h2=>
    obtain⟨ρ',e,h3⟩:=ih _ h2 λa ha=>H a (fX _ ha);refine⟨ρ',(if_pos trivial).trans ?_,h3⟩;rw[hb];show(j0 _ ifs O).bind _=_;rw[ht];show(g _ O).bind _=_;rw[hg];show(gf f g t ifs (λzz=>True) (l.map h) _ O).map _=_;rw[e];rfl
   |no hb ht h2=>
    obtain⟨ρ',e,h3⟩:=ih _ h2 λa ha=>H a (fX _ ha);refine⟨ρ',(if_pos trivial).trans ?_,h3⟩;rw[hb];show(j0 _ ifs O).bind _=_;rw[ht];show gf f g t ifs (λzz=>True) (l.map h) _ O=_;rw[e];rfl
  obtain⟨ρ',e,h2⟩:=key (H a fW J hi);exact⟨ρ',by rw[JT];exact e,h2⟩
theorem d4b{f:aB->Mu->Option (F×aB×Mu)}{r:List V}(hb:dD t v J=some bu)(hf:f bu O=some (.brk,dY,bS)):eB f t (v::r) J O=some (.next,dY,bS):=by
 show(match (generalizing:=false) dD t v J with|.none=>cZ|some J=>match f J O with|.none=>.none|some (.brk,J,O)=>some (F.next,J,O)|some (.ret v,J,O)=>some (F.ret v,J,O)|some (_,J,O)=>eB f t r J O)=_
 rw[hb];dsimp only;rw[hf]
theorem d7s{f:Internal.S->aB->Mu->Option (F×aB×Mu)}{s:Internal.S}{r:List Internal.S}(h:f s J O=some (.brk,ρ',ai)):bE f (s::r) J O=some (.brk,ρ',ai):=by
 rw[BD,h]
theorem Qf{elt it:X}{own:List Nat}{vs ys:List V}(h1:cT (λx O=>ev Z n x J O) it O=some (vs,O))(h2:gf (ev Z n) (iP (ev Z n) elt) t ifs (λzz=>True) vs (J.filter λp=>!own.contains p.1) O=some (ys,ρ',O))(hz:ys.length<=big):ev Z (n+1) (.rP elt t it ifs own) J O=some (.lst ys,O):=by
 rw[NO,h1];show(gf (ev Z n) (iP (ev Z n) elt) t ifs (λzz=>True) vs (J.filter λp=>!own.contains p.1) O).bind _=_;rw[h2];exact if_pos hz
end
section
variable {R:List (List V)}
theorem d8w:∀g<8,item (.str oM) (.int (g:Nat))=some (.str [97+g]):=by
 intro k h;rcases(by decide:∀n<8,n=0∨n=1∨n=2∨n=3∨n=4∨n=5∨n=6∨n=7) k h with rfl|rfl|rfl|rfl|rfl|rfl|rfl|rfl<;>rfl
theorem d7e(k:Nat):(eH k [124]).flatten=eH k 124:=by
 induction k with
 |zero=>rfl
 |succ k ih=>rw[Ss,ki,ih];rfl
theorem e6c(hc:c<=100):cP .Mult (.str [124]) (.int ((c:Int)-1))=some (.str (eH (c-1) 124)):=by
 have h1:small ((c:Int)-1)=true:=decide_eq_true (ck (Int.natAbs_sub_le c 1) (ck (sO hc 1) (nb rfl)));have h2:((c:Int)-1).toNat=c-1:=Int.toNat_sub c 1;rw[zE,h1,h2,d7e,Ec];exact if_pos (decide_eq_true (aV (show 1*(c-1)<=1000 from aV (gY (xu _)) (KO (bz hc))) (nb rfl)))
theorem d7z(hr:ring.length<=8)(hc:∀c∈ring,c<=100)(h:J.lookup 192=some (.lst (ring.map nV))):ev gE (N+20) OC J O=some (.lst ((qW (rO ring)).map .str),O):=by
 have ht:cT (λx O=>ev gE (N+19) x J O) (.enum (.loc 192)) O=some (ring.zipIdx.map λp=>.tup [.int (p.2:Nat),nV p.1],O):=by
  rw[Bu,ak h];show some ((ring.map nV).zipIdx.map _,O)=_;rw[Sl,gk];rfl
 have two:∀(p:Nat×Nat) (J:aB),p∈ring.zipIdx->yY (ev gE (N+19)) (iP (ev gE (N+19)) (.gen (.loc 103) (.one 103) (.tup [(.sub (sX oM) (.loc 84)),(.bin .Mult (sX [124]) (.bin .Sub (.loc 9) i1))]) [])) (.many [84,9]) [] O (λzz=>True) (.tup [.int (p.2:Nat),nV p.1]) J ((yk (p.2,p.1-1)).map .str):=by
  intro p J hp;have h1:p.2<8:=fk (g5a hp) (by rw[Sk];exact hr);have h2:p.1<=100:=hc _ (g5o hp);have e1:cT (λx O=>ev gE (N+19) x (put 9 (nV p.1) (put 84 (.int (p.2:Nat)) J)) O) (.tup [(.sub (sX oM) (.loc 84)),(.bin .Mult (sX [124]) (.bin .Sub (.loc 9) i1))]) O=some ((yk (p.2,p.1-1)).map .str,O):=
   jd rfl (eW (aX (dU az (ak (gh dM (by decide))) (d8w _ h1)) (bf (aF az (aF (ak dM) az rfl) (e6c h2)))) (show 2<=big from nb rfl)) rfl
  obtain⟨ρ',e2,_⟩:=z8 (f:=ev gE (N+19)) (g:=iP (ev gE (N+19)) (.loc 103)) (t:=.one 103) (ifs:=[]) (O:=O) (h:=V.str) (ys:=λw=>[V.str w]) (I:=λzz=>True) (yk (p.2,p.1-1)) (put 9 (nV p.1) (put 84 (.int (p.2:Nat)) J)) trivial
   λa zz J zz=>.yes gy rfl (show(ev gE (N+19) (.loc 103) (put 103 (.str a) J) O).map (λp=>([p.1],put 103 (.str a) J,p.2))=_ by rw[ak dM];rfl) trivial
  refine .yes (bw:=ρ') rfl rfl ?_ trivial;show(cT (λx O=>ev gE (N+19) x (put 9 (nV p.1) (put 84 (.int (p.2:Nat)) J)) O) (.tup [(.sub (sX oM) (.loc 84)),(.bin .Mult (sX [124]) (.bin .Sub (.loc 9) i1))]) O).bind (λq=>gf (ev gE (N+19)) (iP (ev gE (N+19)) (.loc 103)) (.one 103) [] (λzz=>True) q.1 (put 9 (nV p.1) (put 84 (.int (p.2:Nat)) J)) q.2)=_;rw[e1];exact e2
 obtain⟨ρ',e,_⟩:=z8 ring.zipIdx (J.filter λp=>![42,84,9,103].contains p.1) trivial λp hp J zz=>two p J hp;have eq:(ring.zipIdx.flatMap λp=>(yk (p.2,p.1-1)).map V.str)=(qW (rO ring)).map .str:=by
  unfold qW rO;rw[Sy,List.flatMap_map]
 rw[eq]at e;refine Qf ht e ?_;rw[aW,zD];refine cQ ?_;unfold rO;rw[aW,JQ];exact bz (dc (iJ 2 hr))
theorem d0g(hR:AllP R)(hn:1<=ln){L:List (Nat×V)}(rD:L.lookup 88=some (.mut 5))(Ms:L.lookup 82=.none):∀(ws q:List (List Nat)) (J:aB),q.length+ws.length<=100->ay J L →
  ∃ρ',eB (λJ O=>exec gE (N+14) [yV (.loc 82)] J O) (.one 82) (ws.map .str) J (aU t ln q R)=some (.next,ρ',aU t ln (q++ws) R)/\ay ρ' L:=by
 intro ws;induction ws with
 |nil=>intro q J _ K;exact⟨J,by rw[gm];rfl,K⟩
 |cons w ws ih=>
  intro q J hz K;have hz:q.length+(ws.length+1)<=100:=hz;have K1:=K.put 82 (.str w);have e1:=Ic (N:=N) (t:=t) (w:=w) (x:=.loc 82) (q:=q) hR hn (cQ (by exact bz (lX hz))) ((K1.rest Ms) 88 _ rD) (ak dM);obtain⟨ρ',e,K3⟩:=ih (q++[w]) _ (by rw[cA,xA];exact AQ hz) (K1.rest Ms);rw[f5,List.singleton_append]at e;exact⟨ρ',(nL gy ((bq (f:=aQ gE (N+13)) e1).trans rfl)).trans e,K3⟩
theorem HJ{p:Nat×Nat}(h:AV p=true):p.1<8/\p.2<=100:=⟨bD.mp (aP h),bD.mp (aR h)⟩
structure Eb(s:Er):Prop where
 h:s.hand.1<8/\s.hand.2<=100
 w:s.word.1<8/\s.word.2<=100
 q:∀p∈s.queue,p.1<8/\p.2<=100
 z:s.queue.length<100
 c:s.cuts.length<100
theorem OP{s:Er}(h:EB s=true):Eb s:=
 ⟨HJ (aP h),HJ (aP (aR h)),λp hp=>HJ (cN.mp (aP (aR (aR h))) p hp),bD.mp (aP (aR (aR (aR h)))),bD.mp (aR (aR (aR (aR h))))⟩
noncomputable def eS(R:List (List V))(ring:List Nat)(s:Er):List (Nat×V):=eE (.mut (R.length+6)) (.lst (ring.map nV)) s.hand s.word
theorem e3w{s:Er}(z:s.cuts.length<100)(h2:2<=ring.length)(h8:ring.length<=8)(K:ay J (eS R ring s)):ev gE (N+5) (.cmp .Eq (.call 0 [(.loc 197)]) (.bin .Sub (.call 0 [(.loc 192)]) i2)) J (aU t ln q (R++[s.cuts.map bA]))=some (.bool (decide (s.cuts.length=ring.length-2)),aU t ln q (R++[s.cuts.map bA])):=by
 have l1:=Ie (Z:=gE) (n:=N+3) (x:=.loc 197) (λzz zz zz=>rfl) (ak (K 197 _ rfl)) (ID (t:=t) (ln:=ln) (q:=q) (R:=R) (l:=s.cuts.map bA)) (by rw[aW];exact cQ (fj z (nb rfl)));have l2:=CK (Z:=gE) (n:=N+2) (x:=.loc 192) (O:=aU t ln q (R++[s.cuts.map bA])) (λzz zz zz=>rfl) (ak (K 192 _ rfl)) (by rw[aW];exact cQ (by exact bz (dc h8)));rw[aW]at l1 l2;refine br l1 (v:=.int ((ring.length-2:Nat):Int)) (aF l2 az ?_) yH;show some (V.int ((ring.length:Int)-2))=_;rw[pQ h2];rfl
theorem c9f{s s1:Er}(hR:AllP R)(hn:1<=ln)(z:Eb s)(h1:Gz s=some s1)(K1:ay J (eS R ring s)) :
  ∃ρ',aQ gE (N+35) (.ite (.cmp .Eq (.sub (.loc 82) i1) (sX [])) Bm AU) J (aU t ln (qW s.queue) (R++[s.cuts.map bA]))=some (.next,ρ',aU t ln (qW s1.queue) (R++[s1.cuts.map bA]))/\ay ρ' (eS R ring s1):=by
 have c2:=e4a (N:=N+30) (O:=aU t ln (qW s.queue) (R++[s.cuts.map bA])) (p:=s.word) (K1 82 _ rfl);unfold Gz at h1;refine bZ h1 (λhw h1=>?_) λhw h1=>?_
 ·rw[decide_eq_true hw]at c2
  obtain⟨hand,word,queue,cuts⟩:=s;cases queue with
  |nil=>cases h1
  |cons b qs=>
   obtain rfl:=aD h1;have zb:=z.q b fW;have zq:qs.length+1<100:=z.z;obtain⟨ρ',e,K2⟩:=e2g (N:=N+2) (t:=t) (h:=hand) (w:=word) (b:=b) (qs:=qs) (cuts:=cuts) hR hn (by exact tH zq) z.c ⟨z.h.1,z.w.1,zb.1⟩ ⟨aV z.h.2 (nb rfl),aV zb.2 (nb rfl)⟩ K1;exact⟨ρ',(fc c2 rfl).trans e,K2⟩
 ·rw[decide_eq_false hw]at c2
  obtain⟨hand,word,queue,cuts⟩:=s;dsimp only at h1;cases hq:queue++[hand]with
  |nil=>rw[hq]at h1;cases h1
  |cons b qs=>
   rw[hq]at h1;obtain rfl:=aD h1;obtain⟨ρ',e,K2⟩:=Zu (N:=N) (t:=t) (h:=hand) (w:=word) (b:=b) (qs:=queue) (uZ:=qs) (cuts:=cuts) hR hn (fj z.z (nb rfl)) hq K1;exact⟨ρ',(fc c2 rfl).trans e,K2⟩
theorem d0w(hR:AllP R)(hn:1<=ln)(h2:2<=ring.length)(h8:ring.length<=8):∀(f:Nat) (s s':Er) (vs:List V) (J:aB),vs.length=f->F7 (ring.length-2) f s=some s'->ay J (eS R ring s) →
  ∃ρ',eB (λJ O=>exec gE (N+36) GZ J O) (.one 91) vs J (aU t ln (qW s.queue) (R++[s.cuts.map bA]))=some (.next,ρ',aU t ln (qW s'.queue) (R++[s'.cuts.map bA]))/\ay ρ' (eS R ring s')/\Eb s':=by
 intro f;induction f with
 |zero=>
  intro s s' vs J hv hr K;obtain rfl:=xD hv;refine aL hr λho hr=>?_;obtain rfl:=aD hr;exact⟨J,rfl,K,OP ho⟩
 |succ f ih=>
  intro s s' vs J hv hr K;obtain⟨v,vs,rfl⟩:∃v r,vs=v::r:=by
   cases vs with
   |nil=>cases hv
   |cons v r=>exact⟨v,r,rfl⟩
  refine aL hr λho hr=>?_;have z:=OP ho;have K1:ay (put 91 v J) (eS R ring s):=(K.put 91 v).rest rfl;have c1:=e3w (N:=N+30) (t:=t) (ln:=ln) (q:=qW s.queue) z.c h2 h8 K1;refine bZ hr (λhc hr=>?_) λhc hr=>aO hr λs1 h1 hr=>?_
  ·rw[decide_eq_true hc]at c1
   obtain rfl:=aD hr;exact⟨_,d4b gy (d7s (f:=aQ gE (N+35)) ((fc c1 rfl).trans rfl)),K1,z⟩
  ·rw[decide_eq_false hc]at c1
   have fin:(∃ρ',aQ gE (N+35) (.ite (.cmp .Eq (.sub (.loc 82) i1) (sX [])) Bm AU) (put 91 v J) (aU t ln (qW s.queue) (R++[s.cuts.map bA]))=some (.next,ρ',aU t ln (qW s1.queue) (R++[s1.cuts.map bA]))/\ay ρ' (eS R ring s1))->∃ρ',eB (λJ O=>exec gE (N+36) GZ J O) (.one 91) (v::vs) J (aU t ln (qW s.queue) (R++[s.cuts.map bA]))=some (.next,ρ',aU t ln (qW s'.queue) (R++[s'.cuts.map bA]))/\ay ρ' (eS R ring s')/\Eb s':=λhx=>by
    obtain⟨aY,e1,K2⟩:=hx;obtain⟨bw,e2,K3,z3⟩:=ih s1 s' vs aY (lR hv) hr K2;exact⟨bw,(nL gy ((bq (f:=aQ gE (N+35)) ((fc c1 rfl).trans rfl)).trans ((bq e1).trans rfl))).trans e2,K3,z3⟩
   exact fin (c9f (N:=N) hR hn z h1 K1)
end
section
variable {R:List (List V)}
theorem d8f:(aU t ln q (R++[l])).take (R.length+6)=aU t ln q R:=by
 rw[←CT];exact List.take_left' p8
theorem d9u(ring:List Nat):(rO ring).length=ring.length:=by unfold rO;rw[aW,JQ]
noncomputable def ML(s:Er):V:=.tup [.lst (s.cuts.map bA),.lst [nV s.hand.1,nV s.word.1]]
theorem c9o{s:Er}(hR:AllP R)(hn:1<=ln)(h8:ring.length<=8)(hc:∀c∈ring,c<=100)(he:yW ring=some s):cF gE zH wA (N+50) [.mut 5,.lst (ring.map nV)] (aU t ln [] R)=some (ML s,aU t ln (qW s.queue) R):=by
 have hb:=d9u ring;have hp:=λ(J:aB) (h:J.lookup 192=some (.lst (ring.map nV)))=>d7z (N:=N+28) (O:=aU t ln [] R) h8 hc h;unfold yW at he;generalize hbr:rO ring=B at *;induction B using aN with
 |nil=>exact ns he
 |cons h B=>
 induction B using aN with
 |nil=>exact ns he
 |cons w qs=>
  have hl:qs.length+1+1=ring.length:=hb;refine fF ([(88,V.mut 5),(192,V.lst (ring.map nV))]) λJ bH=>?_;have K:ay J [(88,.mut 5),(192,.lst (ring.map nV))]:=by rw[bH];exact ay.self
  obtain⟨aY,e1,K1⟩:=d0g (N:=N+34) (t:=t) (R:=R) hR hn (L:=[(88,.mut 5),(192,.lst (ring.map nV))]) rfl rfl (qW (h::w::qs)) [] J (by rw[zD];exact aV (gY (kZ _)) (bz (iJ 2 (Ex hl h8)))) K;rw[JN]at e1;have e2:ev gE (N+48) (.tup [rM,rM]) aY (aU t ln (qW (h::w::qs)) R)=some (.tup [eT h,eT w],aU t ln (qW qs) R):=
   eW (su (CC (N:=N+15) hR hn (by rw[lT];exact Ex hl (bz h8)) (K1 88 _ rfl)) (se (CC (N:=N+15) hR hn (bz (cy (Ex hl h8))) (K1 88 _ rfl)))) (show 2<=big from nb rfl)
  have K2:=(K1.put 196 (eT h)).put 82 (eT w);generalize oj:put 82 (eT w) (put 196 (eT h) aY)=bw at K2;have e3:ev gE (N+48) (.jD []) bw (aU t ln (qW qs) R)=some (.mut (R.length+6),aU t ln (qW qs) (R++[[]])):=by
   have:=wC (Z:=gE) (n:=N+47) (J:=bw) (O:=aU t ln (qW qs) R) zL (iV _);rw[p8,CT]at this;exact this
  have K3:=K2.put 197 (.mut (R.length+6));generalize EY:put 197 (V.mut (R.length+6)) bw=gq at K3;obtain⟨m7,e4,K4,z⟩:=d0w (N:=N+12) (t:=t) (ln:=ln) hR hn (aV (sN 2 qs.length) (gY hl)) h8 40 ⟨h,w,qs,[]⟩ s (tab 40 λk=>.int k) gq (PJ _ _) he (ay.cons (K3 88 _ rfl) (ay.cons (K3 192 _ rfl) (ay.cons (K3 197 _ rfl) (ay.cons (K3 196 _ rfl) (ay.cons (K3 82 _ rfl) ay.nil)))));have e5:ev gE (N+48) (.tup [(.loc 197),yR [196,82]]) m7 (aU t ln (qW s.queue) (R++[s.cuts.map bA]))=some (.tup [.mut (R.length+6),.lst [nV s.hand.1,nV s.word.1]],aU t ln (qW s.queue) (R++[s.cuts.map bA])):=
   eW (aX (ak (K4 197 _ rfl)) (bf (PA (N:=N+38) (is:=[196,82]) (ps:=[s.hand,s.word]) (aX (ak (K4 196 _ rfl)) (bf (ak (K4 82 _ rfl)))) (show 2<10 from nb rfl) λp hp=>by
    rcases bT.mp hp with rfl|hp
    ·exact z.h.1
    ·rw[bK.mp hp];exact z.w.1))) (show 2<=big from nb rfl)
  have e6:exec gE (N+49) wA J (aU t ln [] R)=some (.ret (.tup [.mut (R.length+6),.lst [nV s.hand.1,nV s.word.1]]),m7,aU t ln (qW s.queue) (R++[s.cuts.map bA])):=by
   refine(bq (f:=aQ gE (N+48)) ((nK (jd rfl (hp J (K 192 _ rfl)) rfl)).trans e1)).trans ?_;refine(bq (pB e2)).trans ?_;rw[oj];refine(bq (gX e3)).trans ?_;rw[EY];exact(bq ((nK (C6 (m:=40) az (nb rfl))).trans e4)).trans (j8 (sr e5))
  rw[bH]at e6;show gW gE (N+49) zH wA [.mut 5,.lst (ring.map nV)] (aU t ln [] R)=_;refine o6 (n:=N+49) rfl e6 (bS:=aU t ln (qW s.queue) R) ?_ ?_ ?_
  ·rw[p8];exact d8f
  ·rw[p8,←p8 (t:=t) (n:=ln) (q:=qW s.queue) (R:=R)];exact Hg hR
  ·show(nJ (aU t ln [] R).length _ [.mut (R.length+6),.lst [nV s.hand.1,nV s.word.1]]).map V.tup=_
   have f1:=Dt (m:=(aU t ln [] R).length) (k:=R.length+6) (gY p8) (ID (t:=t) (ln:=ln) (q:=qW s.queue) (R:=R) (l:=s.cuts.map bA)) (I7 _);rw[Wi,f1];rfl
end
noncomputable abbrev pT:=Nat×Nat
noncomputable def fV(p:pT):V:=.tup [.int (p.1:Nat),.int (p.2:Nat)]
noncomputable def dV{α:Type}(f:α->V)(m:List (Nat×α)):List (Int×V):=m.map λp=>((p.1:Int),f p.2)
theorem CR(f:α->V)(m:List (Nat×α))(k:Nat):(dV f m).lookup (k:Int)=(m.lookup k).map f:=by
 induction m with
 |nil=>rfl
 |cons p m ih=>
  show(((p.1:Int),f p.2)::dV f m).lookup (k:Int)=(SA k ((p.1,p.2)::m)).map f;rw[ek,ek];by_cases h:k=p.1
  ·rw[show((k:Int)==(p.1:Int))=true by rw[h];exact beq_self_eq_true _,show(k==p.1)=true by rw[h];exact beq_self_eq_true _];rfl
  ·rw[show((k:Int)==(p.1:Int))=false from beq_false_of_ne λq=>h (qS q),show(k==p.1)=false from beq_false_of_ne h];exact ih
variable {prs:List (Nat×pT)}
section
theorem Cv{l:List α}{x:α}:(l++[x])[l.length]?=some x:=by
 rw[fY (bV _),jy];rfl
theorem sd{a:pT}(h8:J.lookup 208=some (.mut O.length))(hi:J.lookup i=some (.int (k:Int)))(hk:prs.lookup k=some a)(hv:item (fV a) (.int (j:Int))=some v):ev g0 (N+4) (nD i j) J (O++[.dict (dV fV prs)])=some (v,O++[.dict (dV fV prs)]):=
 dU (u:=fV a) (CE (ak h8) Cv (ak hi) (by rw[CR,hk];rfl)) az hv
theorem f0(a:pT):item (fV a) (.int ((0:Nat):Int))=some (.int (a.1:Nat)):=rfl
theorem BK(a:pT):item (fV a) (.int ((1:Nat):Int))=some (.int (a.2:Nat)):=rfl
theorem d9h{L:List (Nat×V)}(h8:L.lookup 208=some (.mut O.length))(hL:L.lookup 129=.none/\L.lookup 7=.none/\L.lookup 117=.none):∀(ns:List Nd) (m m':List (Nat×pT)) (J:aB),Cf ns m=some m'->m.length+ns.length<100->ay J L →
  ∃ρ',eB (λJ O=>exec g0 (N+20) GB J O) (.many [129,7,117]) (ns.map bC) J (O++[.dict (dV fV m)])=some (.next,ρ',O++[.dict (dV fV m')])/\ay ρ' L:=by
 intro ns;induction ns with
 |nil=>intro m m' J h _ K;obtain rfl:=aD h;exact⟨J,rfl,K⟩
 |cons c ns ih=>
  intro m m' J h hz K;have hz:m.length+(ns.length+1)<100:=hz;have h:(match m.lookup c.1,m.lookup c.2.2 with
   |some a,some b=>Cf ns ((c.2.1,(a.1+b.1,a.2+b.2))::m)
   |_,_=>none)=some m':=h
  cases ha:m.lookup c.1 with
  |none=>rw[ha]at h;cases h
  |some a=>cases hb:m.lookup c.2.2 with
   |none=>rw[ha,hb]at h;cases h
   |some b=>
    rw[ha,hb]at h;have K1:=((K.put 129 (.int (c.1:Nat))).put 7 (.int (c.2.1:Nat))).put 117 (.int (c.2.2:Nat));have k8:(put 117 (V.int (c.2.2:Nat)) (put 7 (.int (c.2.1:Nat)) (put 129 (.int (c.1:Nat)) J))).lookup 208=some (.mut O.length):=gh (gh (gh (K 208 _ h8) (by decide)) (by decide)) (by decide);have e1:ev g0 (N+19) (.tup [Bv 0,Bv 1]) (put 117 (V.int (c.2.2:Nat)) (put 7 (.int (c.2.1:Nat)) (put 129 (.int (c.1:Nat)) J))) (O++[.dict (dV fV m)])=some (fV (a.1+b.1,a.2+b.2),O++[.dict (dV fV m)]):=
     eW (aX (aF (sd (N:=N+13) k8 (K1 129 _ rfl) ha (f0 a)) (sd (N:=N+13) k8 (K1 117 _ rfl) hb (f0 b)) rfl) (bf (aF (sd (N:=N+13) k8 (K1 129 _ rfl) ha (BK a)) (sd (N:=N+13) k8 (K1 117 _ rfl) hb (BK b)) rfl))) (show 2<=big from nb rfl)
    have e2:=Rk (Z:=g0) (n:=N+19) (i:=208) (k:=.loc 7) e1 k8 (ak (K1 7 _ rfl)) Cv (by unfold dV;rw[aW];exact cQ (by exact bz (lX hz)));rw[PN]at e2;obtain⟨ρ',e3,K2⟩:=ih ((c.2.1,(a.1+b.1,a.2+b.2))::m) m' _ h (by rw[lT];exact KU hz) (((K1.rest (by rw[qE,if_neg (by decide),qE,if_neg (by decide)];exact hL.2.2)).rest (by rw[qE,if_neg (by decide)];exact hL.2.1)).rest hL.1);refine⟨ρ',(nL (bu:=put 117 (V.int (c.2.2:Nat)) (put 7 (.int (c.2.1:Nat)) (put 129 (.int (c.1:Nat)) J))) rfl ((bq (f:=aQ g0 (N+19)) e2).trans rfl)).trans e3,K2⟩
noncomputable def kC(p:Nat×Nat):V:=.tup [.int (p.1:Nat),.int (p.2:Nat)]
noncomputable def jV(c:Nd):List Nat:=[c.1,c.2.1,c.2.2]
theorem d1j(hz:cuts.length<20)(h:J.lookup 197=some (.lst (cuts.map bA))):ev g0 (N+12) OL J O=some (.lst ((fP cuts).map kC),O):=by
 have inner:∀(c:Nd) (a:Nat) (J:aB),J.lookup 153=some (bA c)->J.lookup 169=some (.int (a:Int))->∃ρ',iP (ev g0 (N+11)) (.gen (.tup [(.loc 169),(.loc 204)]) (.one 204) (.loc 153) [(.cmp .NotEq (.loc 169) (.loc 204))]) J O=some (((jV c).filter λb=>decide (a≠b)).map λb=>kC (a,b),ρ',O)/\ρ'.lookup 153=some (bA c):=by
  intro c a J h1 h2;have e1:cT (λx O=>ev g0 (N+11) x J O) (.loc 153) O=some ((jV c).map nV,O):=jd rfl (ak h1) rfl;obtain⟨ρ',e2,k1,k2⟩:=z8 (f:=ev g0 (N+11)) (g:=iP (ev g0 (N+11)) (.tup [(.loc 169),(.loc 204)])) (t:=.one 204) (ifs:=[(.cmp .NotEq (.loc 169) (.loc 204))]) (O:=O) (h:=nV) (ys:=λb=>if a≠b then [kC (a,b)]else []) (I:=λJ=>J.lookup 153=some (bA c)/\J.lookup 169=some (.int (a:Int))) (jV c) J ⟨h1,h2⟩
   λb zz J hI=>by
    have t1:ev g0 (N+11) (.cmp .NotEq (.loc 169) (.loc 204)) (put 204 (nV b) J) O=some (.bool (!decide (a=b)),O):=br (u:=.int (a:Int)) (v:=.int (b:Int)) (ak (gh hI.2 (by decide))) (ak dM) ((NI _ _).trans (congrArg (λx=>some !x) (decide_eq_decide.mpr g6d)));by_cases hab:a=b
    ·rw[if_neg (not_not_intro hab)]
     refine .no gy (Ij (b:=false) (t1.trans (by rw[decide_eq_true hab];rfl))) ⟨gh hI.1 (by decide),gh hI.2 (by decide)⟩
    ·rw[if_pos hab]
     refine .yes gy (Ij (b:=true) (t1.trans (by rw[decide_eq_false hab];rfl))) (bw:=put 204 (nV b) J) ?_ ⟨gh hI.1 (by decide),gh hI.2 (by decide)⟩;show(ev g0 (N+11) (.tup [(.loc 169),(.loc 204)]) (put 204 (nV b) J) O).map (λp=>([p.1],put 204 (nV b) J,p.2))=_;rw[eW (aX (ak (gh hI.2 (by decide))) (bf (ak dM))) (show 2<=big from nb rfl)];rfl
  refine⟨ρ',?_,k1⟩;show(cT (λx O=>ev g0 (N+11) x J O) (.loc 153) O).bind (λq=>gf (ev g0 (N+11)) (iP (ev g0 (N+11)) (.tup [(.loc 169),(.loc 204)])) (.one 204) [(.cmp .NotEq (.loc 169) (.loc 204))] (λzz=>True) q.1 J q.2)=_;rw[e1];refine e2.trans ?_;rw[show((jV c).flatMap λb=>if a≠b then [kC (a,b)]else [])=((jV c).filter λb=>decide (a≠b)).map λb=>kC (a,b)from ?_];generalize jV c=l;induction l with
  |nil=>rfl
  |cons b l ih=>
   rw[JT,ih];by_cases hab:a=b
   ·rw[if_neg (not_not_intro hab),D7 (by simpa using hab)];rfl
   ·rw[if_pos hab,Aw (by simpa using hab)];rfl
 have mid:∀(c:Nd) (J:aB),J.lookup 153=some (bA c)->∃ρ',iP (ev g0 (N+11)) (.gen (.gen (.tup [(.loc 169),(.loc 204)]) (.one 204) (.loc 153) [(.cmp .NotEq (.loc 169) (.loc 204))]) (.one 169) (.loc 153) []) J O=some ((jV c).flatMap λa=>((jV c).filter λb=>decide (a≠b)).map λb=>kC (a,b),ρ',O):=by
  intro c J h1;have e1:cT (λx O=>ev g0 (N+11) x J O) (.loc 153) O=some ((jV c).map nV,O):=jd rfl (ak h1) rfl;obtain⟨ρ',e2,_⟩:=z8 (f:=ev g0 (N+11)) (g:=iP (ev g0 (N+11)) (.gen (.tup [(.loc 169),(.loc 204)]) (.one 204) (.loc 153) [(.cmp .NotEq (.loc 169) (.loc 204))])) (t:=.one 169) (ifs:=[]) (O:=O) (h:=nV) (ys:=λa=>((jV c).filter λb=>decide (a≠b)).map λb=>kC (a,b)) (I:=λJ=>J.lookup 153=some (bA c)) (jV c) J h1
   λa zz J hI=>by
    obtain⟨bw,e,h2⟩:=inner c a (put 169 (nV a) J) (gh hI (by decide)) dM;exact .yes gy rfl e h2
  refine⟨ρ',?_⟩;show(cT (λx O=>ev g0 (N+11) x J O) (.loc 153) O).bind (λq=>gf (ev g0 (N+11)) (iP (ev g0 (N+11)) (.gen (.tup [(.loc 169),(.loc 204)]) (.one 204) (.loc 153) [(.cmp .NotEq (.loc 169) (.loc 204))])) (.one 169) [] (λzz=>True) q.1 J q.2)=_;rw[e1];exact e2
 obtain⟨ρ',e,_⟩:=z8 (f:=ev g0 (N+11)) (g:=iP (ev g0 (N+11)) (.gen (.gen (.tup [(.loc 169),(.loc 204)]) (.one 204) (.loc 153) [(.cmp .NotEq (.loc 169) (.loc 204))]) (.one 169) (.loc 153) [])) (t:=.one 153) (ifs:=[]) (O:=O) (h:=bA) (ys:=λc=>(jV c).flatMap λa=>((jV c).filter λb=>decide (a≠b)).map λb=>kC (a,b)) (I:=λzz=>True) cuts (J.filter λp=>![42,153,169,204].contains p.1) trivial
  λc zz J zz=>by
   obtain⟨bw,e⟩:=mid c (put 153 (bA c) J) dM;exact .yes gy rfl e trivial
 have eq:(cuts.flatMap λc=>(jV c).flatMap λa=>((jV c).filter λb=>decide (a≠b)).map λb=>kC (a,b))=(fP cuts).map kC:=by
  unfold fP;rw[Sy];congr 1;funext c;rw[Sy];congr 1;funext a;rw[gk];rfl
 rw[eq]at e;refine Qf (jd rfl (ak h) rfl) e ?_;rw[aW];refine cQ ?_;have:∀l:List Nd,(fP l).length<=9*l.length:=by
  intro l;induction l with
  |nil=>exact bV _
  |cons c l ih=>
   have e:(fP (c::l)).length=(fP [c]).length+(fP l).length:=by
    have:fP ([c]++l)=fP [c]++fP l:=g5q ..;rw[show c::l=[c]++l from rfl,this,cA]
   have h9:(fP [c]).length<=9:=by
    have h3:∀a:Nat,(([c.1,c.2.1,c.2.2].filter λb=>decide (a≠b)).map λb=>(a,b)).length<=3:=λa=>by
     rw[aW];exact D4 _ _
    show(([c].flatMap λc=>[c.1,c.2.1,c.2.2].flatMap λa=>([c.1,c.2.1,c.2.2].filter λb=>decide (a≠b)).map λb=>(a,b))).length<=9;simp only[JT,List.flatMap_nil,gm,cA];exact iY (h3 c.1) (iY (h3 c.2.1) (h3 c.2.2))
   rw[e,lT,kg];exact iY ih h9
 exact ck (aV (this cuts) (iJ 9 (cy hz))) (nb rfl)
theorem Xh:∀n:Nat,n<10->o9 [.int 1,.int ((n:Int)+1)]=some ((sQ 1 n).map λ(k:Nat)=>V.int k):=by
 intro n h;rcases(by decide:∀n<10,n=0∨n=1∨n=2∨n=3∨n=4∨n=5∨n=6∨n=7∨n=8∨n=9) n h with rfl|rfl|rfl|rfl|rfl|rfl|rfl|rfl|rfl|rfl<;>rfl
noncomputable def vm(ring:List Nat)(uX:List (Nat×Nat))(kp m:Nat):List (Nat×V):=[(207,.lst (ring.map nV)),(202,.mut kp),(208,.mut m),(146,.lst (uX.map kC))]
structure xj(O:Mu)(kp:Nat)(cC:List (Nat×Nat))(cV:Nat->V):Prop where
 dict:O[kp]?=some (.dict (dV cV cC))
 eq:∀a b:Nat,a<3->b<3->cR .Eq (cV a) (cV b)=some (decide (a=b))
 own:∀a (O:Mu),bg O (cV a)=cV a
theorem e8t{x:X}{i:Int}(hc:∀(n:Nat) (args:List V) (O:Mu),Z.call n 37 args O=yJ args O)(h:ev Z n x J O=some (.int i,O)):ev Z (n+1) (.call 37 [x]) J O=some (.int (i.natAbs:Int),O):=by
 refine(cL (bf h)).trans ((hc _ _ _).trans ?_);show some (V.int (if i<0 then -i else i),O)=_;by_cases hi:i<0
 ·rw[if_pos hi,Int.ofNat_natAbs_of_nonpos (JW hi)]
 ·rw[if_neg hi,Int.natAbs_of_nonneg (i6.mp hi)]
theorem ZP{uX:List (Nat×Nat)}{a b:Nat}:cR .In (.tup [.int (a:Int),.int (b:Int)]) (.lst (uX.map kC))=some (decide ((a,b)∈uX)):=by
 have h:=(encInt.tup).g2v (nb rfl) (a:=[(a:Int),(b:Int)]) (l:=uX.map λp=>[(p.1:Int),(p.2:Int)]) (λzz zz=>trivial) λzz zz zz zz=>trivial;rw[gk]at h;refine h.trans (congrArg some (decide_eq_decide.mpr ⟨λh=>?_,λh=>ly.mpr ⟨_,h,rfl⟩⟩));obtain⟨p,hp,e⟩:=ly.mp h;have e1:=qS (fZ e).1;have e2:=qS (fZ (fZ e).2).1;rw[←e1,←e2];exact hp
theorem C7{c:Nd}:Bx i c=true↔i∈[c.1,c.2.1,c.2.2]:=by
 unfold Bx;simp
theorem d7d:F0 cuts i j=true↔(i,j)∈fP cuts:=by
 unfold F0 fP;rw[jm,List.any_eq_true,Sv];constructor
 ·rintro⟨h,c,hc,h2⟩
  rw[jm,C7,C7]at h2;refine⟨c,hc,Sv.mpr ⟨i,h2.1,ly.mpr ⟨j,Sw.mpr ⟨h2.2,decide_eq_true λq=>?_⟩,rfl⟩⟩⟩;rw[q,Ao]at h;exact nt h
 ·rintro⟨c,hc,h⟩
  obtain⟨a,ha,h⟩:=Sv.mp h;obtain⟨b,hb,e⟩:=ly.mp h;obtain⟨hb,hn⟩:=Sw.mp hb;have e1:a=i:=congrArg sG e;have e2:b=j:=congrArg DS e;rw[e1]at ha hn;rw[e2]at hb hn;refine⟨?_,c,hc,by rw[jm,C7,C7];exact⟨ha,hb⟩⟩;cases q:cU i j
  ·rfl
  ·exact absurd (jz q) (of_decide_eq_true hn)
end
structure Nc(prs:List (Nat×pT))(cuts:List Nd)(cC:List (Nat×Nat))(i j high:Nat)(a b:pT)(p q:Nat):Prop where
 ha:prs.lookup i=some a
 hb:prs.lookup j=some b
 hp:cC.lookup i=some p
 hq:cC.lookup j=some q
 h1:((high:Nat):Int)=((((a.1:Int)*b.2-(a.2:Int)*b.1).natAbs:Nat):Int)
 h2:((high:Nat):Int)=1↔(i,j)∈fP cuts
 h3:((high:Nat):Int).fmod 2=0↔p=q
 hz:p<3/\q<3
 hs:a.1<1000/\a.2<1000
theorem Oe{a:Bool}(h:eqB a b=true):a=b:=by cases a<;>cases b<;>first|rfl|exact nt h
theorem d6t(x y:Nat):((x:Int)-(y:Int)).natAbs=(x-y)+(y-x):=by
 rcases Nat.le_total y x with h|h
 ·rw[←pQ h,AA,xq h,Sk]
 ·rw[←Int.neg_sub,←pQ h,g6h,AA,xq h,kZ]
theorem Pd{high:Nat}(h:GS prs cuts cC i j high=true):∃a b p q,Nc prs cuts cC i j high a b p q:=by
 refine oK λG0 hG=>?_;unfold GS at h;cases h1:prs.lookup i with
 |none=>rw[h1]at h;exact nt h
 |some a=>cases h2:prs.lookup j with
  |none=>rw[h1,h2]at h;exact nt h
  |some b=>cases h3:cC.lookup i with
   |none=>rw[h1,h2,h3]at h;exact nt h
   |some p=>cases h4:cC.lookup j with
    |none=>rw[h1,h2,h3,h4]at h;exact nt h
    |some q=>
     rw[h1,h2,h3,h4]at h;have k1:=jz (aP h);have k2:=Oe (aP (aR h));have k3:=Oe (aP (aR (aR h)));have h:=aR (aR (aR h));refine hG ⟨a,b,p,q,h1,h2,h3,h4,?_,?_,?_,⟨bD.mp (aP h),bD.mp (aP (aR h))⟩,bD.mp (aP (aR (aR h))),bD.mp (aR (aR (aR h)))⟩
     ·rw[←xG,←xG,d6t,←k1]
     ·rw[←d7d,←k2]
      exact⟨λe=>by rw[show high=1 from qS e];rfl,λe=>by rw[jz e];rfl⟩
     ·have e:((high:Nat):Int).fmod 2=((high%2:Nat):Int):=GW high 2
      rw[e];exact⟨λe=>jz (by rw[←k3,show high%2=0 from qS e];rfl),λe=>by
       rw[e,Ao]at k3;rw[jz k3];rfl⟩
section
variable {uX:List (Nat×Nat)}{cV:Nat->V}
theorem d8u{a:Int}(h:a.natAbs<1000):small a=true:=decide_eq_true (fj h (nb rfl))
theorem zF{a b:Int}(h:small a=true):cP .Mult (.int a) (.int b)=some (.int (a*b)):=by rw[zA,h];rfl
theorem c9b(h:k<ring.length)(hz:ring.length<15):item (.lst (ring.map nV)) (.int (k:Nat))=some (nV (ring.getD k 0)):=DB (CL h) h hz
theorem e8b{Bk high:Nat}{low:Int}{a b:pT}{q:Nat}(hn:ring.length<10)(h0:0<ring.length)(P:xj (O++[.dict (dV fV prs)]) kp cC cV)(hj0:(i+Bk)%ring.length=j)(hc:Nc prs cuts cC i j high a b p q)(yx:ring.getD j 0<=100)
  (K:ay J ((178,.int (Bk:Int))::(69,.int (i:Int))::(209,.int low)::(179,.int ((high:Nat):Int))::vm ring (fP cuts) kp O.length)) :
  ∃ρ',exec g0 (N+30) Cb J (O++[.dict (dV fV prs)])=some (.next,ρ',O++[.dict (dV fV prs)])/\ay ρ' ((69,.int (i:Int))::(209,.int ((high:Nat):Int))::(179,.int (((ring.getD j 0:Nat):Int)*((high:Nat):Int)-low))::vm ring (fP cuts) kp O.length):=by
 have hj:j<ring.length:=hj0▸eF _ h0;have ln:∀{M:Nat},ev g0 (M+2) mq J (O++[.dict (dV fV prs)])=some (.int (ring.length:Nat),O++[.dict (dV fV prs)]):=λ{M}=>by
  have:=CK (Z:=g0) (n:=M+1) (x:=.loc 207) (O:=O++[.dict (dV fV prs)]) (λzz zz zz=>rfl) (ak (K 207 _ rfl)) (by rw[aW];exact cQ (by exact bz hn));rw[aW]at this;exact this
 have e1:ev g0 (N+29) (.bin .Mod (bO (.loc 69) (.loc 178)) mq) J (O++[.dict (dV fV prs)])=some (.int (((i+Bk)%ring.length:Nat):Int),O++[.dict (dV fV prs)]):=
  aF (u:=.int ((i+Bk:Nat):Int)) (aF (ak (K 69 _ rfl)) (ak (K 178 _ rfl)) rfl) (ln (M:=N+26)) (lM _ _ (iW h0))
 rw[hj0]at e1;have K1:=K.put 210 (.int (j:Int));generalize bH:put 210 (V.int (j:Int)) J=aY at K1;have c1:ev g0 (N+28) Hv aY (O++[.dict (dV fV prs)])=some (.lst [.int ((high:Nat):Int),.bool (decide (((high:Nat):Int)=1)),.bool (decide (((high:Nat):Int).fmod 2=0))],O++[.dict (dV fV prs)]):=
  lN (aX (ak (K1 179 _ rfl)) (aX (br (ak (K1 179 _ rfl)) az (BS _ _)) (bf (br (aF (ak (K1 179 _ rfl)) az rfl) az (BS _ _))))) (show 3<=big from nb rfl)
 have c2:ev g0 (N+28) EX aY (O++[.dict (dV fV prs)])=some (.lst [.int (((a.1:Int)*b.2-(a.2:Int)*b.1).natAbs:Int),.bool (decide ((i,j)∈fP cuts)),.bool (decide (p=q))],O++[.dict (dV fV prs)]):=by
  have x1:ev g0 (N+27) (.call 37 [(.bin .Sub (.bin .Mult (nD 69 0) (nD 210 1)) (.bin .Mult (nD 69 1) (nD 210 0)))]) aY (O++[.dict (dV fV prs)])=some (.int (((a.1:Int)*b.2-(a.2:Int)*b.1).natAbs:Int),O++[.dict (dV fV prs)]):=
   e8t (λzz zz zz=>rfl) (aF (aF (sd (N:=N+20) (K1 208 _ rfl) (K1 69 _ rfl) hc.ha (f0 a)) (sd (N:=N+20) (K1 208 _ rfl) (K1 210 _ rfl) hc.hb (BK b)) (zF (sD (fj hc.hs.1 (nb rfl))))) (aF (sd (N:=N+20) (K1 208 _ rfl) (K1 69 _ rfl) hc.ha (BK a)) (sd (N:=N+20) (K1 208 _ rfl) (K1 210 _ rfl) hc.hb (f0 b)) (zF (sD (fj hc.hs.2 (nb rfl))))) rfl)
  have x2:ev g0 (N+27) (.cmp .In (.tup [(.loc 69),(.loc 210)]) (.loc 146)) aY (O++[.dict (dV fV prs)])=some (.bool (decide ((i,j)∈fP cuts)),O++[.dict (dV fV prs)]):=
   br (eW (aX (ak (K1 69 _ rfl)) (bf (ak (K1 210 _ rfl)))) (show 2<=big from nb rfl)) (ak (K1 146 _ rfl)) ZP
  have x3:ev g0 (N+27) (.cmp .Eq (.sub (.loc 202) (.loc 69)) (.sub (.loc 202) (.loc 210))) aY (O++[.dict (dV fV prs)])=some (.bool (decide (p=q)),O++[.dict (dV fV prs)]):=
   br (CE (ak (K1 202 _ rfl)) P.dict (ak (K1 69 _ rfl)) (by rw[CR,hc.hp];rfl)) (CE (ak (K1 202 _ rfl)) P.dict (ak (K1 210 _ rfl)) (by rw[CR,hc.hq];rfl)) (by rw[P.own,P.own];exact P.eq p q hc.hz.1 hc.hz.2)
  exact lN (aX x1 (aX x2 (bf x3))) (show 3<=big from nb rfl)
 have c3:ev g0 (N+28+1) (.cmp .NotEq Hv EX) aY (O++[.dict (dV fV prs)])=some (.bool false,O++[.dict (dV fV prs)]):=by
  refine br c1 c2 ((ZZ.vF (a:=(((high:Nat):Int),decide (((high:Nat):Int)=1),decide (((high:Nat):Int).fmod 2=0))) (b:=((((a.1:Int)*b.2-(a.2:Int)*b.1).natAbs:Int),decide ((i,j)∈fP cuts),decide (p=q))) (nb rfl) trivial trivial).trans ?_);rw[←hc.h1,decide_eq_decide.mpr hc.h2,decide_eq_decide.mpr hc.h3,decide_eq_true rfl];rfl
 have e2:ev g0 (N+29) (.tup [(.loc 179),(.bin .Sub (.bin .Mult (.sub (.loc 207) (.loc 210)) (.loc 179)) (.loc 209))]) aY (O++[.dict (dV fV prs)])=some (.tup [.int ((high:Nat):Int),.int (((ring.getD j 0:Nat):Int)*((high:Nat):Int)-low)],O++[.dict (dV fV prs)]):=
  eW (aX (ak (K1 179 _ rfl)) (bf (aF (aF (dU (ak (K1 207 _ rfl)) (ak (K1 210 _ rfl)) (c9b hj (by exact bz hn))) (ak (K1 179 _ rfl)) (zF (d8u (by show ring.getD j 0<1000;exact bz (dc yx))))) (ak (K1 209 _ rfl)) rfl))) (show 2<=big from nb rfl)
 have K2:=(K1.put 209 (.int ((high:Nat):Int))).put 179 (.int (((ring.getD j 0:Nat):Int)*((high:Nat):Int)-low));refine⟨_,(bq (f:=aQ g0 (N+29)) (gX e1)).trans ?_,ay.cons (K2 69 _ rfl) (ay.cons (K2 209 _ rfl) (ay.cons (K2 179 _ rfl) (ay.cons (K2 207 _ rfl) (ay.cons (K2 202 _ rfl) (ay.cons (K2 208 _ rfl) (ay.cons (K2 146 _ rfl) ay.nil))))))⟩;rw[bH];exact d7 (bv:=false) c3 rfl ((bq (pB e2)).trans rfl)
theorem d7m(hn:ring.length<10)(h0:0<ring.length)(P:xj (O++[.dict (dV fV prs)]) kp cC cV):∀(js fs:List Nat) (low high:Nat) (J:aB),vq ring prs cuts cC i js low high=true->fs.map (λf=>(i+f)%ring.length)=js->ay J ((69,.int (i:Int))::(209,.int ((low:Nat):Int))::(179,.int ((high:Nat):Int))::vm ring (fP cuts) kp O.length) →
  ∃ρ',eB (λJ O=>exec g0 (N+30) Cb J O) (.one 178) (fs.map λ(k:Nat)=>V.int k) J (O++[.dict (dV fV prs)])=some (.next,ρ',O++[.dict (dV fV prs)])/\ay ρ' (vm ring (fP cuts) kp O.length):=by
 intro js;induction js with
 |nil=>
  intro fs low high J _ hf K;obtain rfl:=g5g.mp hf;exact⟨J,rfl,((K.rest rfl).rest rfl).rest rfl⟩
 |cons j js ih=>
  intro fs low high J h hf K;obtain⟨f,fs,rfl,hj,hf⟩:=List.map_eq_cons_iff.mp hf
  ·obtain⟨a,b,p,q,hc⟩:=Pd (aP h)
   have yx:ring.getD j 0<=100:=bD.mp (aP (aR h));obtain⟨aY,e1,K1⟩:=e8b (N:=N) hn h0 P hj hc yx (K.put 178 (.int (f:Int)));have h:=aR (aR h);induction js using aN with
   |nil=>
    obtain rfl:=g5g.mp hf;exact⟨aY,nL gy e1,((K1.rest rfl).rest rfl).rest rfl⟩
   |cons j2 js=>
    have hle:=bD.mp (aP h);rw[←xG,←pQ hle]at K1;obtain⟨bw,e2,K2⟩:=ih fs _ _ aY (aR h) hf K1;exact⟨bw,(nL gy e1).trans e2,K2⟩
theorem d6u:((dw 10).all λn=>(dw n).all λi=>decide (nA n i=(sQ 1 n).map λf=>(i+f)%n))=true:=by decide +kernel
theorem e2i(hn:n<10)(hi:i<n):(sQ 1 n).map (λf=>(i+f)%n)=nA n i:=(of_decide_eq_true (cN.mp (cN.mp d6u n (pM.mpr hn)) i (pM.mpr hi))).symm
theorem c7y(hn:ring.length<10)(h0:0<ring.length)(P:xj (O++[.dict (dV fV prs)]) kp cC cV):∀(l:List Nat) (J:aB),(∀i∈l,i<ring.length/\vq ring prs cuts cC i (nA ring.length i) 0 1=true)->ay J (vm ring (fP cuts) kp O.length) →
  ∃ρ',eB (λJ O=>exec g0 (N+32) GC J O) (.one 69) (l.map λ(k:Nat)=>V.int k) J (O++[.dict (dV fV prs)])=some (.next,ρ',O++[.dict (dV fV prs)])/\ay ρ' (vm ring (fP cuts) kp O.length):=by
 intro l;induction l with
 |nil=>intro J _ K;exact⟨J,rfl,K⟩
 |cons i l ih=>
  intro J h K;have K1:=((K.put 69 (.int (i:Int))).put 209 (.int 0)).put 179 (.int 1);generalize bH:put 179 (V.int 1) (put 209 (.int 0) (put 69 (.int (i:Int)) J))=aY at K1;have ln:ev g0 (N+30) mq aY (O++[.dict (dV fV prs)])=some (.int (ring.length:Nat),O++[.dict (dV fV prs)]):=by
   have:=CK (Z:=g0) (n:=N+29) (x:=.loc 207) (J:=aY) (O:=O++[.dict (dV fV prs)]) (λzz zz zz=>rfl) (ak (K1 207 _ rfl)) (by rw[aW];exact cQ (by exact bz hn));rw[aW]at this;exact this
  have e0:ev g0 (N+31) (.tup [i0,i1]) (put 69 (.int (i:Int)) J) (O++[.dict (dV fV prs)])=some (.tup [.int 0,.int 1],O++[.dict (dV fV prs)]):=eW (aX az (bf az)) (show 2<=big from nb rfl);have e1:cT (λx O=>ev g0 (N+31) x aY O) (.range [i1,bO mq i1]) (O++[.dict (dV fV prs)])=some ((sQ 1 ring.length).map λ(k:Nat)=>V.int k,O++[.dict (dV fV prs)]):=by
   rw[Gr,aX az (bf (aF ln az rfl))];show(o9 [.int 1,.int ((ring.length:Int)+1)]).map _=_;rw[Xh _ hn];rfl
  obtain⟨bw,e2,K2⟩:=d7m (N:=N+1) (i:=i) hn h0 P (nA ring.length i) (sQ 1 ring.length) 0 1 aY (h i fW).2 (e2i hn (h i fW).1) (ay.cons (K1 69 _ rfl) (ay.cons (K1 209 _ rfl) (ay.cons (K1 179 _ rfl) (((K1.rest rfl).rest rfl).rest rfl))));obtain⟨gq,e3,K3⟩:=ih bw (λi hi=>h i (fX _ hi)) K2;refine⟨gq,(nL gy (dY:=bw) ?_).trans e3,K3⟩;have e4:=pB (i:=209) (j:=179) e0;rw[bH]at e4;have e5:aQ g0 (N+31) (.for (.one 178) (.range [i1,bO mq i1]) Cb) aY (O++[.dict (dV fV prs)])=some (.next,bw,O++[.dict (dV fV prs)]):=(nK e1).trans e2;exact(bq (f:=aQ g0 (N+31)) e4).trans ((bq e5).trans rfl)
theorem c0z(hn:ring.length<10)(h2:2<=ring.length)(hN:nodes.length<8)(hC:cuts.length<20)(hp:B8 ring.length nodes=some prs)(hr:(dw ring.length).all (λi=>vq ring prs cuts cC i (nA ring.length i) 0 1)=true)(P:xj O kp cC cV)(ok:b9 O=true) :
  cF g0 zZ w5 (N+50) [.lst (ring.map nV),.lst (nodes.map bC),.lst (cuts.map bA),.mut kp] O=some (.bool true,O):=by
 have P1:xj (O++[.dict (dV fV prs)]) kp cC cV:=⟨Cw P.dict,P.eq,P.own⟩;refine fF ([(207,V.lst (ring.map nV)),(187,V.lst (nodes.map bC)),(197,V.lst (cuts.map bA)),(202,V.mut kp)]) λJ bH=>?_;have K:ay J [(207,.lst (ring.map nV)),(187,.lst (nodes.map bC)),(197,.lst (cuts.map bA)),(202,.mut kp)]:=by rw[bH];exact ay.self
 have ln:∀{M:Nat}{O:Mu}{J:aB},J.lookup 207=some (.lst (ring.map nV))->ev g0 (M+2) mq J O=some (.int (ring.length:Nat),O):=λ{M O J} h=>by
  have:=CK (Z:=g0) (n:=M+1) (x:=.loc 207) (J:=J) (O:=O) (λzz zz zz=>rfl) (ak h) (by rw[aW];exact cQ (by exact bz hn));rw[aW]at this;exact this
 have e1:ev g0 (N+48) (.q6 [i0,(.tup [i1,i0]),(.bin .Sub mq i1),(.tup [i0,i1])]) J O=some (.mut O.length,O++[.dict (dV fV [(0,(1,0)),(ring.length-1,(0,1))])]):=by
  rw[OO,aX az (aX (eW (aX az (bf az)) (show 2<=big from nb rfl)) (aX (aF (ln (M:=N+44) (K 207 _ rfl)) az rfl) (bf (eW (aX az (bf az)) (show 2<=big from nb rfl)))))];show(qz [.int 0,.tup [.int 1,.int 0],.int ((ring.length:Int)-1),.tup [.int 0,.int 1]]).map _=_;rw[show(ring.length:Int)-1=((ring.length-1:Nat):Int)from Ey (fk (nb rfl) h2)];have hne:([((ring.length-1:Nat):Int)]:List Int).contains 0=false:=by
   rw[g5t,beq_false_of_ne (show(0:Int)≠((ring.length-1:Nat):Int)from(g6c.mpr (Jy h2)).symm)];rfl
  show((if([((ring.length-1:Nat):Int)]:List Int).contains 0 then cZ else some [((0:Int),V.tup [.int 1,.int 0]),(((ring.length-1:Nat):Int),.tup [.int 0,.int 1])])).map _=_;rw[hne];rfl
 have K1:=K.put 208 (.mut O.length);generalize qc:put 208 (V.mut O.length) J=aY at K1;have e2:cT (λx O=>ev g0 (N+48) x aY O) (.slc (.loc 187) .none .none (some m1)) (O++[.dict (dV fV [(0,(1,0)),(ring.length-1,(0,1))])])=some (nodes.reverse.map bC,O++[.dict (dV fV [(0,(1,0)),(ring.length-1,(0,1))])]):=by
  have:=Ro (Z:=g0) (M:=N+47) (a:=.loc 187) (x:=m1) (J:=aY) (O:=O++[.dict (dV fV [(0,(1,0)),(ring.length-1,(0,1))])]) (ak (K1 187 _ rfl)) nC (by rw[aW];exact hN);rw[←JP]at this;exact jd rfl this rfl
 obtain⟨bw,e3,K2⟩:=d9h (N:=N+28) (O:=O) (L:=(208,.mut O.length)::[(207,.lst (ring.map nV)),(187,.lst (nodes.map bC)),(197,.lst (cuts.map bA)),(202,.mut kp)]) rfl ⟨rfl,rfl,rfl⟩ nodes.reverse _ prs aY hp (by rw[JR];show 2+_<100;exact kD hN) K1;have e4:=d1j (N:=N+36) (J:=bw) (O:=O++[.dict (dV fV prs)]) hC (K2 197 _ rfl);have K3:=K2.put 146 (.lst ((fP cuts).map kC));generalize EY:put 146 (V.lst ((fP cuts).map kC)) bw=gq at K3;obtain⟨m7,e5,K4⟩:=c7y (N:=N+16) (O:=O) hn (by exact cy h2) P1 (dw ring.length) gq (λi hi=>⟨pM.mp hi,cN.mp hr i hi⟩) (ay.cons (K3 207 _ rfl) (ay.cons (K3 202 _ rfl) (ay.cons (K3 208 _ rfl) (ay.cons (K3 146 _ rfl) ay.nil))));have e6:exec g0 (N+49) w5 J O=some (.ret (.bool true),m7,O++[.dict (dV fV prs)]):=by
  have s1:=gX (i:=208) e1;rw[qc]at s1;have s2:aQ g0 (N+48) (.for (.many [129,7,117]) (.slc (.loc 187) .none .none (some m1)) GB) aY _=_:=(nK e2).trans e3;have s3:=gX (i:=146) e4;rw[EY]at s3;have s4:aQ g0 (N+48) (.for (.one 69) (.range [mq]) GC) gq _=_:=(nK (C6 (ln (M:=N+46) (K3 207 _ rfl)) (by exact bz hn))).trans e5;exact(bq (f:=aQ g0 (N+48)) s1).trans ((bq s2).trans ((bq s3).trans ((bq s4).trans (j8 (sr az)))))
 rw[bH]at e6;show gW g0 (N+49) zZ w5 [.lst (ring.map nV),.lst (nodes.map bC),.lst (cuts.map bA),.mut kp] O=_;exact o6 (n:=N+49) rfl e6 (Sm ..) ok rfl
end
section
open Float64 (add sub mul div divmod cmp isZero)
noncomputable def yN(r g mx rc gc bc:UInt64):UInt64:=if ez r mx then sub bc gc else if ez g mx then sub (add f2 rc) bc else sub (add f4 gc) rc
noncomputable def yS(r g b mx rg s:UInt64)(out:UInt64->C3):Option C3:=
 (gR (sub mx r) rg).bind λrc=>(gR (sub mx g) rg).bind λgc=>(gR (sub mx b) rg).bind λbc=>some (out (dH (div (yN r g mx rc gc bc) f6)))
noncomputable def CP(r g b:UInt64):Option C3:=
 if ez (dm (dm r g) b) (cH (cH r g) b)then some (0,0,cH (cH r g) b)else
 (gR (sub (cH (cH r g) b) (dm (dm r g) b)) (cH (cH r g) b)).bind λs=>yS r g b (cH (cH r g) b) (sub (cH (cH r g) b) (dm (dm r g) b)) s λh=>(h,s,cH (cH r g) b)
noncomputable def wh(r g b:UInt64):Option C3:=
 if ez (dm (dm r g) b) (cH (cH r g) b)then some (0,div (add (cH (cH r g) b) (dm (dm r g) b)) f2,0)else
 (if oi (div (add (cH (cH r g) b) (dm (dm r g) b)) f2) fh then gR (sub (cH (cH r g) b) (dm (dm r g) b)) (add (cH (cH r g) b) (dm (dm r g) b))
  else gR (sub (cH (cH r g) b) (dm (dm r g) b)) (sub (sub f2 (cH (cH r g) b)) (dm (dm r g) b))).bind λs=>
 yS r g b (cH (cH r g) b) (sub (cH (cH r g) b) (dm (dm r g) b)) s λh=>(h,div (add (cH (cH r g) b) (dm (dm r g) b)) f2,s)
noncomputable def wo(h s v:UInt64):Option C3:=
 if ez s 0 then some (v,v,v)else if tu (mul h f6)=false∨small (mX pU (mul h f6))=false then .none else
 (λf p=>(λq t=>(λaj:Int=>if aj=0 then some (v,t,p)else if aj=1 then some (q,v,p)else if aj=2 then some (p,v,t)else if aj=3 then some (p,q,v)else if aj=4 then some (t,p,v)else if aj=5 then some (v,p,q)else cZ) ((mX pU (mul h f6)).fmod 6))
  (mul v (sub f1 (mul s f))) (mul v (sub f1 (mul s (sub f1 f)))))
  (sub (mul h f6) (jQ (mX pU (mul h f6)))) (mul v (sub f1 s))
section
theorem Un:3<=big:=nb rfl
theorem Ni(a:UInt64):gR a f6=some (div a f6):=by unfold gR;rw[z6];rfl
theorem Nj(a:UInt64):gR a f2=some (div a f2):=by unfold gR;rw[z2];rfl
theorem lG{a b c:X}{w:V}(h1:ev Z n a J O=some (u,O))(h2:ev Z n b J O=some (v,O))(h3:ev Z n c J O=some (w,O)):ev Z (n+1) (.tup [a,b,c]) J O=some (.tup [u,v,w],O):=eW (aX h1 (aX h2 (bf h3))) Un
theorem lK{a b c:UInt64}(h:gR a b=some c):cP .Div (.aq a) (.aq b)=some (.aq c):=by rw[YI,h];rfl
theorem lF{a b:UInt64}{c:Bool}(h:ez a b=c):cR .Eq (.aq a) (.aq b)=some c:=(Z3 a b).trans (congrArg some h)
theorem HG{a b:UInt64}{c:Bool}(h:oi a b=c):cR .LtE (.aq a) (.aq b)=some c:=(e8y a b).trans (congrArg some h)
noncomputable def WE:Internal.S:=.ite (.cmp .Eq (.loc 48) (.loc 51)) [.assign 60 (.bin .Sub (.loc 59) (.loc 58))] [.ite (.cmp .Eq (.loc 49) (.loc 51)) [.assign 60 (.bin .Sub (.bin .Add (.cst (.aq 4611686018427387904)) (.loc 57)) (.loc 59))] [.assign 60 (.bin .Sub (.bin .Add (.cst (.aq 4616189618054758400)) (.loc 58)) (.loc 57))]]
theorem PE{r g mx rc gc bc:UInt64}{rest:List Internal.S}{z:Option (F×aB×Mu)}(Lm:J.lookup 48=some (.aq r))(Ll:J.lookup 49=some (.aq g))(A3:J.lookup 51=some (.aq mx))(Lk:J.lookup 57=some (.aq rc))(Lj:J.lookup 58=some (.aq gc))(Li:J.lookup 59=some (.aq bc))
  (k:bE (aQ Z (n+8)) rest (put 60 (.aq (yN r g mx rc gc bc)) J) O=z):bE (aQ Z (n+8)) (WE::rest) J O=z:=by
 refine(bq ?_).trans k;unfold yN;induction e1:ez r mx using eo with
 |true=>exact(fc (br (ak Lm) (ak A3) (lF e1)) rfl).trans (cJ (aF (ak Li) (ak Lj) rfl) rfl)
 |false=>
  refine(fc (br (ak Lm) (ak A3) (lF e1)) rfl).trans ((bq ?_).trans rfl);induction e2:ez g mx using eo with
  |true=>exact(fc (br (ak Ll) (ak A3) (lF e2)) rfl).trans (cJ (aF (aF az (ak Lk) rfl) (ak Li) rfl) rfl)
  |false=>exact(fc (br (ak Ll) (ak A3) (lF e2)) rfl).trans (cJ (aF (aF az (ak Lj) rfl) (ak Lk) rfl) rfl)
theorem exc{x:Option (F×aB×Mu)}{a c:C3}(h:some a=some c)(k:∃ρ',x=some (.ret (vC a),ρ',O)):∃ρ',x=some (.ret (vC c),ρ',O):=aD h▸k
theorem b9y{r g b:UInt64}{c:C3}(h:CP r g b=some c)(ok:b9 O=true):cF g0 DF z9 (N+20) [.aq r,.aq g,.aq b] O=some (vC c,O):=by
 have key:∃ρ',bE (aQ g0 (N+18)) z9 [(48,.aq r),(49,.aq g),(50,.aq b)] O=some (.ret (vC c),ρ',O):=by
  have args:∀n:Nat,bU (λx O=>ev g0 (n+1) x [(48,.aq r),(49,.aq g),(50,.aq b)] O) [.loc 48,.loc 49,.loc 50] O=some ([.aq r,.aq g,.aq b],O):=λn=>aX (ak rfl) (aX (ak rfl) (bf (ak rfl)));have args2:∀(n:Nat) (v:V),bU (λx O=>ev g0 (n+1) x (put 51 v [(48,.aq r),(49,.aq g),(50,.aq b)]) O) [.loc 48,.loc 49,.loc 50] O=some ([.aq r,.aq g,.aq b],O):=λn v=>aX (ak rfl) (aX (ak rfl) (bf (ak rfl)));exact bZ h (λh0 h=>exc h ⟨_,cJ ((cL (args _)).trans rfl) (cJ ((cL (args2 _ _)).trans rfl) (cJ (aF (ak rfl) (ak rfl) (iQ _ _)) (cJ (ak rfl)
    (jZ (br (ak rfl) (ak rfl) (lF h0)) (fD (lG az az (ak rfl)))))))⟩)
   λh0 h=>aO h λs d0 h=>aO h λrc d1 h=>aO h λgc d2 h=>aO h λbc d3 h=>exc h ⟨_,cJ ((cL (args _)).trans rfl) (cJ ((cL (args2 _ _)).trans rfl) (cJ (aF (ak rfl) (ak rfl) (iQ _ _)) (cJ (ak rfl)
    (d7 (br (ak rfl) (ak rfl) (lF (jA.mpr h0))) rfl (cJ (aF (ak rfl) (ak rfl) (lK d0)) (cJ (aF (aF (ak rfl) (ak rfl) (iQ _ _)) (ak rfl) (lK d1)) (cJ (aF (aF (ak rfl) (ak rfl) (iQ _ _)) (ak rfl) (lK d2)) (cJ (aF (aF (ak rfl) (ak rfl) (iQ _ _)) (ak rfl) (lK d3))
    (PE rfl rfl rfl rfl rfl rfl (cJ (aF (aF (ak rfl) az (lK (Ni _))) az (HN _)) (fD (lG (ak rfl) (ak rfl) (ak rfl)))))))))))))⟩
 obtain⟨ρ',key⟩:=key;exact sE (v:=vC c) (ρ':=ρ') (by rfl) ok key rfl
end
end
section
open Float64 (add sub mul div divmod cmp isZero)
section
theorem e4f{f:Internal.S → aB → Mu → Option (F×aB×Mu)}{c:Bool}{a b:List Internal.S}{r:Option (F×aB×Mu)}(h1:c=true → bE f a J O=r)(h2:c=false → bE f b J O=r):bE f (if c then a else b) J O=r:=by
  cases c
  · exact h2 rfl
  · exact h1 rfl
set_option maxHeartbeats 1000000 in
theorem Rx{r g b:UInt64}{c:C3}(h:wh r g b=some c)(ok:b9 O=true):cF g0 DE Ab (N+20) [.aq r,.aq g,.aq b] O=some (vC c,O):=by
  have key:∃ρ',bE (aQ g0 (N+18)) Ab [(48,.aq r),(49,.aq g),(50,.aq b)] O=some (.ret (vC c),ρ',O):=by
    have args:∀n:Nat,bU (λx O=>ev g0 (n+1) x [(48,.aq r),(49,.aq g),(50,.aq b)] O) [.loc 48,.loc 49,.loc 50] O=some ([.aq r,.aq g,.aq b],O):=λn=>aX (ak rfl) (aX (ak rfl) (bf (ak rfl)));have args2:∀(n:Nat) (v:V),bU (λx O=>ev g0 (n+1) x (put 51 v [(48,.aq r),(49,.aq g),(50,.aq b)]) O) [.loc 48,.loc 49,.loc 50] O=some ([.aq r,.aq g,.aq b],O):=λn v=>aX (ak rfl) (aX (ak rfl) (bf (ak rfl)));exact bZ h (λh0 h=>exc h ⟨_,cJ ((cL (args _)).trans rfl) (cJ ((cL (args2 _ _)).trans rfl) (cJ (aF (ak rfl) (ak rfl) (yU _ _)) (cJ (aF (ak rfl) (ak rfl) (iQ _ _)) (cJ (aF (ak rfl) az (lK (Nj _)))
        (jZ (br (ak rfl) (ak rfl) (lF h0)) (fD (lG az (ak rfl) az)))))))⟩)
      λh0 h=>aO h λs d0 h=>aO h λrc d1 h=>aO h λgc d2 h=>aO h λbc d3 h=>exc h ⟨_,cJ ((cL (args _)).trans rfl) (cJ ((cL (args2 _ _)).trans rfl) (cJ (aF (ak rfl) (ak rfl) (yU _ _)) (cJ (aF (ak rfl) (ak rfl) (iQ _ _)) (cJ (aF (ak rfl) az (lK (Nj _)))
        (d7 (br (ak rfl) (ak rfl) (lF (jA.mpr h0))) rfl
        (d7 (br (ak rfl) az (HG rfl)) (e4f (λhl=>cJ (aF (ak rfl) (ak rfl) (lK ((if_pos hl).symm.trans d0))) rfl) λhl=>cJ (aF (ak rfl) (aF (aF az (ak rfl) (iQ _ _)) (ak rfl) (iQ _ _)) (lK ((if_neg (jA.mp hl)).symm.trans d0))) rfl)
        (cJ (aF (aF (ak rfl) (ak rfl) (iQ _ _)) (ak rfl) (lK d1)) (cJ (aF (aF (ak rfl) (ak rfl) (iQ _ _)) (ak rfl) (lK d2)) (cJ (aF (aF (ak rfl) (ak rfl) (iQ _ _)) (ak rfl) (lK d3))
        (PE rfl rfl rfl rfl rfl rfl (cJ (aF (aF (ak rfl) az (lK (Ni _))) az (HN _)) (fD (lG (ak rfl) (ak rfl) (ak rfl))))))))))))))⟩
  obtain⟨ρ',key⟩:=key;exact sE (v:=vC c) (ρ':=ρ') (by rfl) ok key rfl
theorem Ry{h l s:UInt64}(ok:b9 O=true):cF gV DG Ac (N+30) [.aq h,.aq l,.aq s] O=some (vC (mK dO h l s),O):=by
  have hv:∀m1 m2 x,gV.call (N+26) 64 [.aq m1,.aq m2,.aq x] O=some (.aq (pV dO m1 m2 x),O):=λm1 m2 x=>Z5 (N:=N+16) m1 m2 x ok;have tail:∀(J:aB) (m2:UInt64),J.lookup 60=some (.aq h) → J.lookup 55=some (.aq l) → J.lookup 62=some (.aq m2) → ∃ρ',bE (aQ gV (N+28)) [.assign 63 (.bin .Sub (.bin .Mult (.cst (.aq 4611686018427387904)) (.loc 55)) (.loc 62)),
      .ret (.tup [(.call 64 [(.loc 63),(.loc 62),(.bin .Add (.loc 60) (.jo 30))]),(.call 64 [(.loc 63),(.loc 62),(.loc 60)]),(.call 64 [(.loc 63),(.loc 62),(.bin .Sub (.loc 60) (.jo 30))])])] J O=some (.ret (vC (BV dO (sub (mul f2 l) m2) m2 h)),ρ',O):=λJ m2 Uo Up Lh=>by
    have EW:(put 63 (V.aq (sub (mul f2 l) m2)) J).lookup 60=some (.aq h):=by rw[gi,if_neg (by decide)];exact Uo
    have EV:(put 63 (V.aq (sub (mul f2 l) m2)) J).lookup 62=some (.aq m2):=by rw[gi,if_neg (by decide)];exact Lh
    have EU:(put 63 (V.aq (sub (mul f2 l) m2)) J).lookup 63=some (.aq (sub (mul f2 l) m2)):=by rw[gi,if_pos rfl]
    have MA:∀n J,ev gV (n+1) (.jo 30) J O=some (.aq dO.a,O):=λn J=>rfl;exact⟨_,cJ (aF (aF az (ak Up) (oU _ _)) (ak Lh) (iQ _ _)) (fD (lG ((cL (aX (ak EU) (aX (ak EV) (bf (aF (ak EW) (MA _ _) (yU _ _)))))).trans (hv _ _ _)) ((cL (aX (ak EU) (aX (ak EV) (bf (ak EW))))).trans (hv _ _ _)) ((cL (aX (ak EU) (aX (ak EV) (bf (aF (ak EW) (MA _ _) (iQ _ _)))))).trans (hv _ _ _))))⟩
  have key:∃ρ',bE (aQ gV (N+28)) Ac [(60,.aq h),(55,.aq l),(56,.aq s)] O=some (.ret (vC (mK dO h l s)),ρ',O):=by
    unfold mK;induction h0:ez s 0 using eo with
    |true=>exact⟨_,jZ (br (ak rfl) az (lF h0)) (fD (lG (ak rfl) (ak rfl) (ak rfl)))⟩
    |false=>induction h1:oi l fh using eo with
      |true=>
        obtain⟨ρ',e⟩:=tail (put 62 (.aq (mul l (add f1 s))) [(60,.aq h),(55,.aq l),(56,.aq s)]) _ rfl rfl rfl;exact⟨ρ',d7 (br (ak rfl) az (lF h0)) rfl (d7 (br (ak rfl) az (HG h1)) (cJ (aF (ak rfl) (aF az (ak rfl) (yU _ _)) (oU _ _)) rfl) e)⟩
      |false=>
        obtain⟨ρ',e⟩:=tail (put 62 (.aq (sub (add l s) (mul l s))) [(60,.aq h),(55,.aq l),(56,.aq s)]) _ rfl rfl rfl;exact⟨ρ',d7 (br (ak rfl) az (lF h0)) rfl (d7 (br (ak rfl) az (HG h1)) (cJ (aF (aF (ak rfl) (ak rfl) (yU _ _)) (aF (ak rfl) (ak rfl) (oU _ _)) (iQ _ _)) rfl) e)⟩
  obtain⟨ρ',key⟩:=key;exact sE (v:=vC (mK dO h l s)) (ρ':=ρ') (by rfl) ok key rfl
theorem MV(a:UInt64)(O:Mu)(h:tu a=true):t7 [.aq a] O=some (.int (mX pU a),O):=by
  unfold t7;simp only[h,if_true]
theorem e4t(a:UInt64)(n:Int)(h:small n=true):cP .Sub (.aq a) (.int n)=some (.aq (sub a (jQ n))):=by
  simp only[zA,CM,Cu,HO,Hw,HW,Cr,CJ,Ih,HZ,CO,Cy,zE,CA,h,if_true];rfl
theorem e8r(n:Int):cP .Mod (.int n) (.int 6)=some (.int (n.fmod 6)):=by
  simp only[zA,CM,Cu,HO,Hw,HW,Cr,CJ,Ih,HZ,CO,Cy,zE,CA];rfl
theorem ZK(a b:Int):cR .Eq (.int a) (.int b)=some (decide (a=b)):=rfl
theorem iu{a b:Int}{c:Bool}(h:decide (a=b)=c):cR .Eq (.int a) (.int b)=some c:=(ZK a b).trans (congrArg some h)
set_option maxHeartbeats 1000000 in
theorem Je{h s v:UInt64}{c:C3}(hc:wo h s v=some c)(ok:b9 O=true):cF g0 xd qU (N+20) [.aq h,.aq s,.aq v] O=some (vC c,O):=by
  have key:∃ρ',bE (aQ g0 (N+18)) qU [(60,.aq h),(56,.aq s),(67,.aq v)] O=some (.ret (vC c),ρ',O):=by
    refine bZ hc (λh0 hc=>exc hc ⟨_,jZ (br (ak rfl) az (lF h0)) (fD (lG (ak rfl) (ak rfl) (ak rfl)))⟩) λh0 hc=>jT hc λhn hc=>?_;have hf:tu (mul h f6)=true:=by
      cases q:tu (mul h f6)
      · exact absurd (.inl q) hn
      · rfl
    have hs:small (mX pU (mul h f6))=true:=by
      cases q:small (mX pU (mul h f6))
      · exact absurd (.inr q) hn
      · rfl
    have hi:∀n,g0.call n 5 [.aq (mul h f6)] O=some (.int (mX pU (mul h f6)),O):=λn=>MV (mul h f6) O hf;generalize mX pU (mul h f6)=I at hc hs hi;have bm:=e8r I;generalize I.fmod 6=aj at hc bm;have run:∀{q:Option (F×aB×Mu)},bE (aQ g0 (N+18)) (qU.drop 7) [(60,.aq h),(56,.aq s),(67,.aq v),(69,.int aj),(70,.aq (sub (mul h f6) (jQ I))),(71,.aq (mul v (sub f1 s))),(72,.aq (mul v (sub f1 (mul s (sub (mul h f6) (jQ I)))))),(73,.aq (mul v (sub f1 (mul s (sub f1 (sub (mul h f6) (jQ I)))))))] O=q → bE (aQ g0 (N+18)) qU [(60,.aq h),(56,.aq s),(67,.aq v)] O=q:=λk=>
      d7 (br (ak rfl) az (lF (jA.mpr h0))) rfl (cJ ((cL (bf (aF (ak rfl) az (oU _ _)))).trans (hi _)) (cJ (aF (aF (ak rfl) az (oU _ _)) (ak rfl) (e4t (mul h f6) I hs)) (cJ (aF (ak rfl) (aF az (ak rfl) (iQ _ _)) (oU _ _))
      (cJ (aF (ak rfl) (aF az (aF (ak rfl) (ak rfl) (oU _ _)) (iQ _ _)) (oU _ _)) (cJ (aF (ak rfl) (aF az (aF (ak rfl) (aF az (ak rfl) (iQ _ _)) (oU _ _)) (iQ _ _)) (oU _ _)) (cJ (aF (ak rfl) az bm) k))))))
    refine bZ hc (λe hc=>?_) λe0 hc=>bZ hc (λe hc=>?_) λe1 hc=>bZ hc (λe hc=>?_) λe2 hc=>bZ hc (λe hc=>?_) λe3 hc=>bZ hc (λe hc=>?_) λe4 hc=>bZ hc (λe hc=>?_) λe5 hc=>ns hc
    · exact exc hc ⟨_,run (jZ (br (ak rfl) az (iu (decide_eq_true e))) (fD (lG (ak rfl) (ak rfl) (ak rfl))))⟩
    · exact exc hc ⟨_,run (d7 (br (ak rfl) az (iu (decide_eq_false e0))) rfl (jZ (br (ak rfl) az (iu (decide_eq_true e))) (fD (lG (ak rfl) (ak rfl) (ak rfl)))))⟩
    · exact exc hc ⟨_,run (d7 (br (ak rfl) az (iu (decide_eq_false e0))) rfl (d7 (br (ak rfl) az (iu (decide_eq_false e1))) rfl (jZ (br (ak rfl) az (iu (decide_eq_true e))) (fD (lG (ak rfl) (ak rfl) (ak rfl))))))⟩
    · exact exc hc ⟨_,run (d7 (br (ak rfl) az (iu (decide_eq_false e0))) rfl (d7 (br (ak rfl) az (iu (decide_eq_false e1))) rfl (d7 (br (ak rfl) az (iu (decide_eq_false e2))) rfl (jZ (br (ak rfl) az (iu (decide_eq_true e))) (fD (lG (ak rfl) (ak rfl) (ak rfl)))))))⟩
    · exact exc hc ⟨_,run (d7 (br (ak rfl) az (iu (decide_eq_false e0))) rfl (d7 (br (ak rfl) az (iu (decide_eq_false e1))) rfl (d7 (br (ak rfl) az (iu (decide_eq_false e2))) rfl (d7 (br (ak rfl) az (iu (decide_eq_false e3))) rfl (jZ (br (ak rfl) az (iu (decide_eq_true e))) (fD (lG (ak rfl) (ak rfl) (ak rfl))))))))⟩
    · exact exc hc ⟨_,run (d7 (br (ak rfl) az (iu (decide_eq_false e0))) rfl (d7 (br (ak rfl) az (iu (decide_eq_false e1))) rfl (d7 (br (ak rfl) az (iu (decide_eq_false e2))) rfl (d7 (br (ak rfl) az (iu (decide_eq_false e3))) rfl (d7 (br (ak rfl) az (iu (decide_eq_false e4))) rfl (jZ (br (ak rfl) az (iu (decide_eq_true e))) (fD (lG (ak rfl) (ak rfl) (ak rfl)))))))))⟩
  obtain⟨ρ',key⟩:=key;exact sE (v:=vC c) (ρ':=ρ') (by rfl) ok key rfl
end
end
section
open Float64 (add sub mul div divmod cmp isZero)
noncomputable def qO(n d:Nat):Option UInt64:=if AD (xJ false n d)then .none else some (xJ false n d)
noncomputable def Cx(k:Nat)(x:UInt64):UInt64:=add (mul (jQ k) x) (jQ 1)
noncomputable def ud(k:Nat)(x:UInt64):Option Int:=if tu (Cx k x)then some ((mX pU (Cx k x)).fdiv 2)else .none
noncomputable def vp(x:UInt64):Bool:=(uT x 0==some .gt||uT x 0==some .eq)&&(uT x 1==some .lt||uT x 1==some .eq)
noncomputable abbrev Cl:=Nat×Nat×Nat
noncomputable def cD(c:Cl):V:=.lst [.int (c.1:Nat),.int (c.2.1:Nat),.int (c.2.2:Nat)]
noncomputable def bP(d:Cl)(k:Nat):Cl:=if k=0 then d else if k=1 then(d.2.2,d.1,d.2.1)else(d.2.1,d.2.2,d.1)
noncomputable def nu(a b:Cl):Cl:=(a.1+b.1,a.2.1+b.2.1,a.2.2+b.2.2)
def zj(k:Nat)(c:C3)(d:Cl):Prop:=ud k c.1=some (d.1:Int)/\ud k c.2.1=some (d.2.1:Int)/\ud k c.2.2=some (d.2.2:Int)
def vR(n:Nat)(d:Cl)(x:C3):Prop:=qO d.1 n=some x.1/\qO d.2.1 n=some x.2.1/\qO d.2.2 n=some x.2.2
noncomputable def vU:UInt64:=4602678819172646912
structure Bq(s v:UInt64)(Lb:C3)(m d:Cl)(e:Bool)(x t ag fr:C3):Prop where
 hx:vR 512 m x
 le:vp t.1=true
 ht:(if e then CP x.1 x.2.1 x.2.2 else wh x.1 x.2.1 x.2.2)=some t
 ha:(if e then wo t.1 t.2.1 t.2.2 else some (mK dO t.1 t.2.1 t.2.2))=some ag
 hf:(if e then wo (add t.1 vU) s v else some (mK dO (sub t.1 vU) Lb.2.1 Lb.2.2))=some fr
 fa:zj 1024 ag m
 ff:zj 512 fr d
section
theorem mh{a b:Nat}{x:UInt64}(hb:b≠0)(h:qO a b=some x):cP .Div (.int (a:Int)) (.int (b:Int))=some (.aq x):=by
 unfold qO at h;have h1:((b:Int) != 0)=true:=by simpa using hb
 have h2:(decide ((a:Int)<0) != decide ((b:Int)<0))=false:=by
  rw[decide_eq_false (i6.mpr (lB a)),decide_eq_false (i6.mpr (lB b))];rfl
 simp only[zA,CM,Cu,HO,Hw,HW,Cr,CJ,Ih,HZ,CO,Cy,zE,CA,h1,h2,AA];cases hi:AD (xJ false a b)
 ·rw[hi]at h
  simp only[S8,if_false,j9]at h;subst h;rfl
 ·rw[hi]at h
  simp at h
theorem Ox(args:List V)(O:Mu):gC.call n 68 args O=cF g0 xd qU n args O:=rfl
theorem ZD(args:List V)(O:Mu):gC.call n 66 args O=cF g0 DF z9 n args O:=rfl
theorem N7(args:List V)(O:Mu):gC.call n 47 args O=cF g0 DE Ab n args O:=rfl
theorem N6(args:List V)(O:Mu):gC.call n 61 args O=cF gV DG Ac n args O:=rfl
theorem Zz(args:List V)(O:Mu):gC.call n 5 args O=t7 args O:=rfl
theorem W8(c:C3):item (vC c) (.int 0)=some (.aq c.1):=rfl
theorem Wt(c:C3):item (vC c) (.int 1)=some (.aq c.2.1):=rfl
theorem WI(c:C3):item (vC c) (.int 2)=some (.aq c.2.2):=rfl
theorem e4o(k:Nat)(x:UInt64)(hk:k<2^60):cP .Mult (.int (k:Int)) (.aq x)=some (.aq (mul (jQ k) x)):=by
 rw[CO,show small (k:Int)=true from decide_eq_true hk];rfl
theorem e4h(x:UInt64):cP .Add (.aq x) (.int 1)=some (.aq (add x (jQ 1))):=rfl
theorem ZA(z:Int):cP .FloorDiv (.int z) (.int 2)=some (.int (z.fdiv 2)):=rfl
theorem d8e{a c:X}{x:UInt64}{z:Int}(h:ud k x=some z)(hk:k<2^60)(ha:ev gC (N+7) a J O=some (.int (k:Int),O))(hc:ev gC (N+7) c J O=some (.aq x,O)):ev gC (N+11) (.bin .FloorDiv (.call 5 [(.bin .Add (.bin .Mult a c) (.cst (.int 1)))]) (.cst (.int 2))) J O=some (.int z,O):=by
 refine aL h λhf h=>?_;obtain rfl:=aD h;exact aF ((cL (vs:=[.aq (Cx k x)]) (bf (aF (aF ha hc (e4o k x hk)) az (e4h _)))).trans ((Zz _ _).trans (MV _ _ hf))) az (ZA _)
theorem e6m:qO 1 2=some vU:=by decide +kernel
theorem O6:ev Z (n+2) ze J O=some (.aq vU,O):=aF az az (mh (a:=1) (b:=2) (by decide) e6m)
theorem CB{c:Cl}(h:J.lookup i=some (cD c)):ev Z (n+2) (cI i 0) J O=some (.int (c.1:Nat),O)/\ev Z (n+2) (cI i 1) J O=some (.int (c.2.1:Nat),O)/\ev Z (n+2) (cI i 2) J O=some (.int (c.2.2:Nat),O):=
 ⟨dU (u:=cD c) (ak h) az rfl,dU (u:=cD c) (ak h) az rfl,dU (u:=cD c) (ak h) az rfl⟩
theorem r6{c:C3}(h:J.lookup i=some (vC c)):ev Z (n+2) (cI i 0) J O=some (.aq c.1,O)/\ev Z (n+2) (cI i 1) J O=some (.aq c.2.1,O)/\ev Z (n+2) (cI i 2) J O=some (.aq c.2.2,O):=
 ⟨dU (u:=vC c) (ak h) az (W8 c),dU (u:=vC c) (ak h) az (Wt c),dU (u:=vC c) (ak h) az (WI c)⟩
theorem Ii{d:Cl}{x:C3}(hk:k≠0)(h:J.lookup i=some (cD d))(hx:vR k d x):bU (λx O=>ev Z (n+3) x J O) [l9 i 0 k,l9 i 1 k,l9 i 2 k] O=some ([.aq x.1,.aq x.2.1,.aq x.2.2],O):=
 aX (aF (CB h).1 az (mh hk hx.1)) (aX (aF (CB h).2.1 az (mh hk hx.2.1)) (bf (aF (CB h).2.2 az (mh hk hx.2.2))))
theorem OY{c:C3}(h:J.lookup i=some (vC c)):bU (λx O=>ev Z (n+2) x J O) [cI i 0,cI i 1,cI i 2] O=some ([.aq c.1,.aq c.2.1,.aq c.2.2],O):=
 aX (r6 h).1 (aX (r6 h).2.1 (bf (r6 h).2.2))
end
end
section
open PySem.Float64
noncomputable def bN(c:Bool)(a b:Nat):Nat:=@Bool.rec (λzz=>Nat) b a c
noncomputable def bB(c:Bool)(a b:Bool):Bool:=@Bool.rec (λzz=>Bool) b a c
theorem bX{c:Bool}(h:bB c b false=true):c=true/\b=true:=by cases c<;>first|exact nt h|exact⟨rfl,h⟩
noncomputable def A0(j:Nat):Nat->Nat->Nat:=@Nat.rec (λzz=>Nat->Nat->Nat) (λzz a=>a) (λj ih T a=>bN (bh (gH 2 (gH 2 j)) T) (ih (Al T (gH 2 j)) (mW a (gH 2 j))) (ih T a)) j
noncomputable def ES(T:Nat):Nat:=
 bN (bh (gH 2 1073) T) (bN (bh (gH 2 1074) T) (bN (bh (gH 2 1075) T) (bN (bh (gH 2 1107) T) (qN T) (A0 5 (Al T 1075) 1075)) 1074) 1073)
  (bN (bh (gH 2 1072) T) 1072 (bN (bh (gH 2 1071) T) 1071 (bN (bh (gH 2 818) T) (A0 8 (Al T 818) 818) (qN T))))
theorem e7e{l:Nat}(hd:0<d)(h:l*d<=n):l<=halfEven n d:=by
 have:l<=n / d:=(Sh hd).mpr h;unfold halfEven;dsimp only;split
 ·exact Se this
 ·exact this
theorem jK(k:Nat):0<2^k:=Nat.pow_pos (nb rfl)
theorem rR(a b T x y:Nat):bN (bh (gH 2 a) T) x y=if 2^a<=T then x else y:=by
 by_cases h:2^a<=T
 ·rw[if_pos h,show bh (gH 2 a) T=true from bD.mpr h];rfl
 ·rw[if_neg h,show bh (gH 2 a) T=false from jA.mpr λq=>h (bD.mp q)];rfl
theorem OD{K:Nat}(hd:0<d)(h1:2^K*d<=n)(h2:n<2^(K+1)*d):qN (n / d)=K:=by
 have a:2^K<=n / d:=(Sh hd).mpr h1;have hne:n / d≠0:=iW (fk (jK K) a);exact An (lq ((JF hne).mpr ((Sj hd).mpr h2))) ((JH hne).mpr a)
theorem Cp{T K:Nat}(h1:2^K<=T)(h2:¬2^(K+1)<=T):K=qN T:=by
 have:=OD (n:=T) (d:=1) (K:=K) (nb rfl) (by rw[D0];exact h1) (by rw[D0];exact uL h2);rw[Nat.div_one]at this;exact this.symm
theorem QK{T:Nat}(h:2^k<=T):k+qN (T / 2^k)=qN T:=by
 have hT:T≠0:=iW (fk (jK k) h);have hk:=(JH hT).mpr h;obtain⟨j,hj⟩:=Si hk;rw[←hj,OD (K:=j) (jK k)]
 ·rw[←lg,kg,hj];exact(JH hT).mp (bV _)
 ·rw[←lg,Aq,kg j,hj];exact(JF hT).mp (nR _)
theorem Y4(j:Nat):∀T a:Nat,0<T->T<2^2^j->A0 j T a=a+qN T:=by
 induction j with
 |zero=>
  intro T a h0 h1;rw[show T=1 from An (lq h1) h0];rfl
 |succ j ih=>
  intro T a h0 h1;refine(rR (2^j) 0 T _ _).trans ?_;by_cases h:2^2^j<=T
  ·rw[if_pos h]
   have e:Al T (gH 2 j)=T / 2^2^j:=g4c T (2^j);refine(ih _ _ ?_ ?_).trans ?_
   ·rw[e];exact Nat.div_pos h (jK _)
   ·rw[e];refine JI ?_
    rw[←lg,←Nat.two_mul,pJ,←Jz];exact h1
   ·rw[e]
    exact(nS a (2^j) _).trans (congrArg (a+·) (QK h))
  ·rw[if_neg h]
   exact ih T a h0 (uL h)
theorem Ow(k j:Nat){T:Nat}(h0:2^k<=T)(h1:¬2^(k+2^j)<=T):A0 j (Al T k) k=qN T:=by
 have e:Al T k=T / 2^k:=g4c T k;rw[e,Y4 j _ _ (Nat.div_pos h0 (jK _)) (JI (by rw[←lg];exact uL h1))];exact QK h0
theorem Z9(T:Nat):ES T=qN T:=by
 unfold ES;rw[rR 1073 0,rR 1074 0,rR 1075 0,rR 1107 0,rR 1072 0,rR 1071 0,rR 818 0];by_cases h3:2^1073<=T
 ·rw[if_pos h3]
  by_cases h4:2^1074<=T
  ·rw[if_pos h4]
   by_cases h5:2^1075<=T
   ·rw[if_pos h5]
    by_cases h6:2^1107<=T
    ·rw[if_pos h6]
    ·rw[if_neg h6];exact Ow 1075 5 h5 h6
   ·rw[if_neg h5];exact Cp h4 h5
  ·rw[if_neg h4];exact Cp h3 h4
 ·rw[if_neg h3]
  by_cases h2:2^1072<=T
  ·rw[if_pos h2];exact Cp h2 h3
  ·rw[if_neg h2]
   by_cases h1:2^1071<=T
   ·rw[if_pos h1];exact Cp h1 h2
   ·rw[if_neg h1]
    by_cases h0:2^818<=T
    ·rw[if_pos h0];exact Ow 818 8 h0 λq=>h1 (aV (DZ (nb rfl) (nb rfl)) q)
    ·rw[if_neg h0]
noncomputable def yI(N D:Nat):Nat:=Nat.sub (ES (xw N D)) 52
noncomputable def hfe(N D:Nat):Nat:=bN (bh (mW (qM 2 (JC N D)) (JC (xw N D) 2)) D) (xw N D) (Aj (xw N D))
noncomputable def Gn(N D e:Nat):Nat:=uK (hfe N (uK D e)) e
noncomputable def gD(N D:Nat):Nat:=Gn N D (yI N D)
theorem ZL(N D:Nat):hfe N D=halfEven N D:=by
 show bN (bh (2*(N%D)+N / D%2) D) (N / D) (N / D+1)=if(decide (2*(N%D)>D)||(2*(N%D)==D&&N / D%2==1))=true then N / D+1 else N / D
 generalize N / D=q;generalize N%D=r;have hc:(decide (2*r>D)||(2*r==D&&q%2==1))=true↔¬2*r+q%2<=D:=by
  rw[tB,jm,decide_eq_true_eq,beq_iff_eq,beq_iff_eq];omega
 by_cases h:2*r+q%2<=D
 ·rw[bD.mpr h,if_neg λz=>hc.mp z h];rfl
 ·rw[show bh (2*r+q%2) D=false from jA.mpr λz=>h (bD.mp z),if_pos (hc.mpr h)];rfl
theorem e3e{W b:Nat}(h:W<=c)(hb:c<b):dist W c<dist W b:=by
 unfold dist;rw[xq h,xq (aV h (cy hb)),kZ,kZ];exact Nat.sub_lt_sub_right h hb
theorem e2z{W a:Nat}(h:c<=W)(ha:a<c):dist W c<dist W a:=by
 unfold dist;rw[xq h,xq (aV (cy ha) h)];exact Nat.sub_lt_sub_left (fk ha h) ha
theorem NH{W D t u:Nat}(hD:0<D)(hlt:t<u)(hd:dist W (D*iU t)=dist W (D*iU u))(h1:t%2=0)(h2:u%2=0)(h:dist W (D*iU t)<=dist W (D*iU (t+1))):False:=by
 have a:D*iU t<D*iU (t+1):=JB (V_lt (nR t)) hD;have b:D*iU (t+1)<D*iU u:=JB (V_lt (g4k hlt λq=>by rw[←q,Nat.add_mod,h1]at h2;exact absurd h2 (by decide))) hD;rcases Nat.le_total W (D*iU (t+1))with w|w
 ·exact mV _ (ck (hd▸h) (e3e w b))
 ·exact mV _ (ck h (e2z w a))
theorem d5l{r:UInt64}{neg:Bool}{W D:Nat}(hD:0<D)(h:Right r neg W D)(hz:gD W D<2^2000):∃t,r=pack neg t/\t<infMag/\iU t=gD W D/\∀t',dist W (D*gD W D)<=dist W (D*iU t'):=by
 obtain⟨t,hr,hle,hov,hn⟩:=h;refine fF (yI W D) λe he=>?_;have yp:e=qN (W / D)-52:=by rw[he];exact congrArg (· - 52) (Z9 (W / D))
 have hB:0<D*2^e:=Nat.mul_pos hD (jK e);have hsh:∀x,uK x e=x*2^e:=λx=>g4d x e;have hX:gD W D=halfEven W (D*2^e)*2^e:=by
  show Gn W D (yI W D)=_;rw[←he];show uK (hfe W (uK D e)) e=_;rw[hsh,hsh,ZL]
 have up:W<2^53*(D*2^e):=by
  have h1:W / D<2^(e+53):=fk Nat.lt_log2_self (DZ (nb rfl) (dc (Nat.le_add_of_sub_le (gY yp.symm))));have h2:=(Sj hD).mp h1;rw[lg]at h2;rw[show 2^53*(D*2^e)=2^e*2^53*D by rw[pJ D,←pK,pJ (2^53)]];exact h2
 have lo:e=0∨2^52*(D*2^e)<=W:=by
  by_cases h0:e=0
  ·exact .inl h0
  ·refine .inr ?_
   have hne:W / D≠0:=λq=>by rw[q]at yp;exact h0 yp
   have h1:2^(e+52)<=W / D:=(JH hne).mp (Nat.add_le_of_le_sub (cy (Nat.lt_of_sub_ne_zero (yp▸h0))) (gY yp));have h2:=(Sh hD).mp h1;rw[lg]at h2;rw[show 2^52*(D*2^e)=2^e*2^52*D by rw[pJ D,←pK,pJ (2^52)]];exact h2
 have hmul:∀v,dist (W*2^e) (D*2^e*v)=2^e*dist W (D*v):=λv=>by
  rw[←dist_mul,pJ W,pJ D,pK]
 have near:=λt'=>nearest_core hB rfl up lo t';have q1:halfEven W (D*2^e)<=2^53:=aV (halfEven_le' _ _ hB) ((Sj hB).mpr up);have q2:2^52<=halfEven W (D*2^e)∨e=0:=lo.symm.imp (e7e hB) id;have hV:=V_at q1 q2;generalize halfEven W (D*2^e)=q at *;have Mi:gD W D=iU (e*2^52+q):=hX.trans hV.symm;have ht:t<infMag:=by
  refine g4k hle λq0=>?_;have h1:=hov.mp q0;have h2:2^52*2^e<=2^2000:=by
   rcases q2 with q2|q2
   ·exact cy (ck (g4f _ q2) (hX▸hz))
   ·rw[q2];decide +kernel
  have h3:2*W<D*(2^2*2^2000):=by
   have:2*W<2*(2^53*(D*2^e)):=JB up (nb rfl);refine fk this ?_;rw[show 2*(2^53*(D*2^e))=D*(2^2*(2^52*2^e)) by rw[←pK 2,←pK (2^2),R7 D]];exact iJ _ (iJ _ h2)
  exact absurd (ck h1 h3) (pI.mpr (iJ _ (by decide +kernel)))
 have near:∀t',dist W (D*iU (e*2^52+q))<=dist W (D*iU t')/\(iU t'≠iU (e*2^52+q)->dist W (D*iU (e*2^52+q))=dist W (D*iU t')->q%2=0):=λt'=>by
  have:=near t';rw[hmul,hmul,←hV]at this;exact⟨Nat.le_of_mul_le_mul_left this.1 (jK e),λa b=>this.2 a (congrArg (2^e * ·) b)⟩
 refine⟨t,hr,ht,?_,λt'=>Mi▸(near t').1⟩;rw[Mi];refine g6u λhne=>?_;have d1:=(hn ht (e*2^52+q)).1;have d2:=(near t).1;have dd:=An d1 d2;have p1:=(hn ht (e*2^52+q)).2 (Jx hne) dd;have p2:=(near t).2 hne dd.symm;have p3:(e*2^52+q)%2=0:=by rw[show e*2^52=2*(e*2^51)from(R7 2 e (2^51)).symm,g4h];exact p2
 rcases g4i t (e*2^52+q)with h|h|h
 ·exact NH hD h dd p1 p3 (hn ht _).1
 ·exact hne (congrArg iU h)
 ·exact NH hD h dd.symm p3 p1 (near _).1
end
section
open PySem PySem.Float64
noncomputable def bW:Nat:=gH 2 1074
theorem Pf:bW=2^1074:=rfl
noncomputable def gz(X Y:Nat):Nat:=gD (mW X Y) 1
noncomputable def cK(X Y:Nat):Nat:=gD (Nat.sub X Y) 1
noncomputable def fE(X Y:Nat):Nat:=gD (qM X Y) bW
noncomputable def iE(X Y:Nat):Nat:=gD (qM X bW) Y
noncomputable def fG(X:Nat):Nat:=gD (JC X bW) 1
noncomputable def rZ(n:Nat):Nat:=gD (qM n bW) 1
noncomputable def ja(X Y:Nat):Nat:=bN (bh X Y) Y X
noncomputable def jb(X Y:Nat):Nat:=bN (bh X Y) X Y
structure FX(i:Nat)(a:Bool)(x:UInt64)(X:Nat):Prop where
 at':∃m e,decode x=.fin a m e/\m*2^(e+1074).toNat=X
 lt:X<2^(1074+i)
theorem OV(W:Nat){D:Nat}:D*gD W D<=2*W:=by
 refine fF (yI W D) λe he=>?_;have hX:D*gD W D=D*2^e*hfe W (D*2^e):=by
  show D*Gn W D (yI W D)=_;rw[←he];show D*uK (hfe W (uK D e)) e=_;have hsh:∀x,uK x e=x*2^e:=λx=>g4d x e;rw[hsh,hsh,pJ (hfe _ _),pK]
 rw[hX];generalize D*2^e=B;have h0:=g4q W B;have key:hfe W B=W / B∨(hfe W B=W / B+1/\B<2*(W%B)+W / B%2):=by
  show bN (bh (2*(W%B)+W / B%2) B) (W / B) (W / B+1)=_∨_;by_cases h:2*(W%B)+W / B%2<=B
  ·exact .inl (by rw[bD.mpr h];rfl)
  ·exact .inr ⟨by show bN (bh (2*(W%B)+W / B%2) B) (W / B) (W / B+1)=_;rw[show bh (2*(W%B)+W / B%2) B=false from jA.mpr λz=>h (bD.mp z)];rfl,uL h⟩
 rcases key with k|⟨k,l⟩
 ·rw[k];exact aV (g4g W B) (g4o W (nb rfl))
 ·rw[k,Nat.mul_add,D0]
  have l:=lq (fk l (iX (lq (eF (W / B) (nb rfl))) _));exact aV (iY (g4o _ (nb rfl:0<2)) l) (gY (by rw[←Nat.mul_add,h0]))
section
variable {a:Bool}{x y r:UInt64}{X Y W D:Nat}
theorem Ot(h:n≠0):decide (sgn a n<0)=a:=by
 cases a
 ·exact decide_eq_false (i6.mpr (lB n))
 ·exact decide_eq_true (g6e (g6g.mpr (R6 h)))
theorem Oh(h:X<=Y):(X:Int)-Y = -((Y-X:Nat):Int):=by rw[pQ h,Int.neg_sub]
theorem Ov(h:X<=Y):-(X:Int)+Y=((Y-X:Nat):Int):=by rw[pQ h,g6b,xH]
theorem Jf{e g:Int}(h:g<=e)(hg:-((1074:Nat):Int)<=g):(e-g).toNat+(g+1074).toNat=(e+1074).toNat:=by
 rw[←g6a (Int.sub_nonneg_of_le h) (g6n hg 1074),←SY,Int.sub_add_cancel]
theorem FX.fin(h:FX i a x X):∃m e,decode x=.fin a m e/\m*2^(e+1074).toNat=X:=h.at'
theorem FX.val(h:FX i a x X):uI x=sgn a X:=h.at'.elim λzz y=>y.elim λzz z=>(val_eq z.1).trans (congrArg (sgn a) z.2)
theorem FX.abs(h:FX i a x X):(uI x).natAbs=X:=by rw[h.val,sgn_natAbs]
theorem FX.le(h:FX i a x X)(hij:i<=j):FX j a x X:=⟨h.at',fk h.lt (DZ (nb rfl) (iX hij _))⟩
theorem FX.Pu(hD:0<D)(h:Right r a W D)(hz:gD W D<2^(1074+i))(hi:i<=900):FX i a r (gD W D):=by
 obtain⟨t,rfl,ht,hV,_⟩:=d5l hD h (fk hz (DZ (nb rfl) (aV (iX hi _) (nb rfl))));obtain⟨m,e,h1,h2⟩:=decode_pack a ht;exact⟨⟨m,e,h1,h2.trans hV⟩,hz⟩
theorem FX.of(hD:0<D)(h:Right r a W D)(hW:W<D*2^(1074+i))(hi:i+1<=900):FX (i+1) a r (gD W D):=
 FX.Pu hD h (Nat.lt_of_mul_lt_mul_left (a:=D) (ck (OV W) (by
  rw[←nS,Jz,pJ _ 2,R7];exact JB hW (nb rfl)))) hi
theorem FX.mul(h1:FX i a x X)(h2:FX j b y Y)(hi:i+j+1<=900):FX (i+j+1) (a != b) (mul x y) (fE X Y):=by
 obtain⟨m,e,d1,_⟩:=h1.at';obtain⟨n,f,d2,_⟩:=h2.at';have:=mul_right d1 d2;rw[h1.abs,h2.abs]at this;refine FX.of (jK _) this ?_ hi;show X*Y<2^1074*2^(1074+(i+j));rw[←lg,show 1074+(1074+(i+j))=1074+i+(1074+j) by rw[Nat.add_add_add_comm,nS],lg];exact Nat.mul_lt_mul'' h1.lt h2.lt
theorem FX.div(h1:FX i a x X)(h2:FX j b y Y)(h0:Y≠0)(hz:iE X Y<2^(1074+k))(hk:k<=900):FX k (a != b) (div x y) (iE X Y):=by
 obtain⟨m,e,d1,_⟩:=h1.at';obtain⟨n,f,d2,e2⟩:=h2.at';have:=div_right d1 d2 (λq=>h0 (by rw[←e2,q,R5]));rw[h1.abs,h2.abs]at this;exact FX.Pu (R6 h0) this hz hk
theorem uC(a:Bool):FX i a (zero a) 0:=(decode_pack a (t:=0) (nb rfl)).elim λm y=>y.elim λe z=>⟨⟨m,e,z.1,z.2.trans V_zero⟩,jK _⟩
theorem Iq(D:Nat):gD 0 D=0:=by
 by_cases h:D=0
 ·subst h;decide +kernel
 ·exact(Nat.mul_eq_zero.mp (Nat.le_zero.mp (@OV 0 D))).resolve_left h
theorem FX.add(h1:FX i a x X)(h2:FX i a y Y)(hi:i+2<=900):FX (i+2) a (add x y) (gz X Y):=by
 obtain⟨m,e,d1,_⟩:=h1.at';obtain⟨n,f,d2,_⟩:=h2.at';have q:=add_right d1 d2;have hs:uI x+uI y=sgn a (X+Y):=by
  rw[h1.val,h2.val];cases a
  ·rfl
  ·exact(Int.neg_add (a:=X) (b:=Y)).symm
 rw[hs]at q;by_cases h0:X+Y=0
 ·rw[h0]at q
  have:=q.1 (by cases a<;>rfl);rw[this,Bool.and_self,show gz X Y=0 from(congrArg (gD · 1) h0).trans (Iq 1)];exact uC a
 ·have:=q.2 (λz=>h0 (by rw[←sgn_natAbs a (X+Y),z];rfl))
  rw[sgn_natAbs,Ot h0]at this;refine FX.of (i:=i+1) (nb rfl) this ?_ hi;rw[xu,←nS,Jz,Nat.mul_two];exact g4t h1.lt h2.lt
theorem FX.sub(h1:FX i false x X)(h2:FX j false y Y)(hle:Y<=X)(hi:i+1<=900):FX (i+1) false (sub x y) (cK X Y):=by
 obtain⟨m,e,d1,_⟩:=h1.at';obtain⟨n,f,d2,_⟩:=h2.at';have q:=sub_right d1 d2;rw[show uI x-uI y=((X-Y:Nat):Int) by rw[h1.val,h2.val];exact(pQ hle).symm]at q;by_cases h0:X-Y=0
 ·rw[h0]at q
  rw[q.1 rfl,show cK X Y=0 from(congrArg (gD · 1) h0).trans (Iq 1)];exact uC false
 ·have:=q.2 (λz=>h0 (qS z))
  rw[AA,show decide (((X-Y:Nat):Int)<0)=false from decide_eq_false (i6.mpr (lB _))]at this;refine FX.of (nb rfl) this ?_ hi;rw[xu];exact ck (lS _ _) h1.lt
theorem FX.sum{v:Int}{af:Nat}{c:UInt64}(q:(v=0->r=c)/\(v≠0->Right r (decide (v<0)) v.natAbs 1))(hv:v=sgn a af)(h0:af≠0)(hZ:af<2^(1074+i))(hi:i+1<=900):FX (i+1) a r (gD af 1):=by
 subst hv;have:=q.2 (λz=>h0 (by rw[←sgn_natAbs a af,z];rfl));rw[sgn_natAbs,Ot h0]at this;exact FX.of (nb rfl) this (by rw[xu];exact hZ) hi
theorem FX.Es(h1:FX i false x X)(h2:FX j false y Y)(hlt:X<Y)(hi:j+1<=900):FX (j+1) true (qJ x y) (cK Y X):=by
 obtain⟨m,e,d1,_⟩:=h1.at';obtain⟨n,f,d2,_⟩:=h2.at';exact FX.sum (sub_right d1 d2) (by rw[h1.val,h2.val];exact Oh (cy hlt)) (Jy hlt) (ck (lS _ _) h2.lt) hi
theorem FX.cmp(h1:FX i false x X)(h2:FX j false y Y):Jq x y=some (compare (X:Int) (Y:Int)):=by
 obtain⟨m,e,d1,_⟩:=h1.at';obtain⟨n,f,d2,_⟩:=h2.at';rw[cmp_right d1 d2,h1.val,h2.val];rfl
theorem uc(h:¬X<=Y):bh X Y=false:=jA.mpr λz=>h (bD.mp z)
theorem FX.xS(h1:FX i false x X)(h2:FX j false y Y){P:Prop}(k1:Jq x y=some .lt->X<Y->P)(k2:Jq x y=some .eq->X=Y->P)(k3:Jq x y=some .gt->Y<X->P):P:=by
 have c:=h1.cmp h2;rcases g4i X Y with h|h|h
 ·exact k1 (c.trans (congrArg some (SX.mpr (sZ.mpr h)))) h
 ·exact k2 (c.trans (congrArg some (g6m.mpr (congrArg Int.ofNat h)))) h
 ·exact k3 (c.trans (congrArg some (g6l.mpr (sZ.mpr h)))) h
theorem FX.ez(h1:FX i false x X)(h2:FX j false y Y):Internal.ez x y=cU X Y:=by
 unfold Internal.ez;refine h1.xS h2 (λc h=>?_) (λc h=>?_) (λc h=>?_)<;>rw[c]
 ·exact(jA.mpr λz=>jk h (jz z)).symm
 ·rw[h];exact(Ao Y).symm
 ·exact(jA.mpr λz=>iW h (jz z)).symm
theorem FX.oi(h1:FX i false x X)(h2:FX j false y Y):Internal.oi x y=bh X Y:=by
 unfold Internal.oi;refine h1.xS h2 (λc h=>?_) (λc h=>?_) (λc h=>?_)<;>rw[c]
 ·exact(bD.mpr (cy h)).symm
 ·exact(bD.mpr (gY h)).symm
 ·exact(uc (Am.mpr h)).symm
theorem FX.lD(h1:FX i false x X)(h2:FX j false y Y):Internal.lD x y=!Nat.ble Y X:=by
 unfold Internal.lD;refine h1.xS h2 (λc h=>?_) (λc h=>?_) (λc h=>?_)<;>rw[c]
 ·rw[uc (Am.mpr h)];rfl
 ·rw[bD.mpr (gY h.symm)];rfl
 ·rw[bD.mpr (cy h)];rfl
theorem FX.max(h1:FX i false x X)(h2:FX i false y Y):FX i false (cH x y) (ja X Y):=by
 unfold cH ja;refine h1.xS h2 (λc h=>?_) (λc h=>?_) (λc h=>?_)<;>rw[c]
 ·rw[bD.mpr (cy h)];exact h2
 ·rw[bD.mpr (gY h)];exact h▸h1
 ·rw[uc (Am.mpr h)];exact h1
theorem FX.min(h1:FX i false x X)(h2:FX i false y Y):FX i false (dm x y) (jb X Y):=by
 unfold dm jb;refine h2.xS h1 (λc h=>?_) (λc h=>?_) (λc h=>?_)<;>rw[c]
 ·rw[uc (Am.mpr h)];exact h2
 ·rw[bD.mpr (gY h.symm)];exact h1
 ·rw[bD.mpr (cy h)];exact h1
theorem FX.isZero(h:FX i a x X):Jp x=cU X 0:=by
 obtain⟨m,e,d,hX⟩:=h.at';unfold Jp;rw[d];by_cases h0:m=0
 ·rw[←hX,h0,R5];rfl
 ·have:X≠0:=hX▸Nat.mul_ne_zero h0 (iW (jK _))
  induction m using eG with
  |zero=>exact absurd rfl h0
  |succ m=>exact(jA.mpr λz=>this (jz z)).symm
theorem FX.finite(h:FX i a x X):g3h x=true:=by
 obtain⟨m,e,d,_⟩:=h.at';unfold g3h;rw[d]
theorem FX.toInt(h:FX i false x X):mX truncOf x=((X / bW:Nat):Int):=by
 obtain⟨m,e,d,hX⟩:=h.at';have he:=decode_ge d;unfold mX;rw[d];show(if e≥0 then(m:Int)*2^e.toNat else Int.fdiv m (2^(-e).toNat))=_;rw[Pf,←hX];by_cases h0:e≥0
 ·rw[if_pos h0,show(e+1074).toNat=e.toNat+1074 from g6a h0 (by decide),lg,←pK,Nat.mul_div_cancel _ (jK _)]
  rw[xG,SR];rfl
 ·rw[if_neg h0,show((2:Int)^(-e).toNat)=((2^(-e).toNat:Nat):Int)from(SR 2 _).symm,g6k _ (lB _),←Int.natCast_ediv]
  rw[show 2^1074=2^(-e).toNat*2^(e+1074).toNat by rw[←lg,←Int.zero_sub,Jf (JW (D9.mp h0)) he];rfl,Nat.mul_div_mul_right _ _ (jK _)]
theorem FX.EC(h:n<2^k)(hk:k+1<=900):FX (k+1) false (ofInt (n:Int)) (rZ n):=by
 have:=ofInt_right (n:Int);rw[AA,show decide ((n:Int)<0)=false from decide_eq_false (i6.mpr (lB _))]at this;refine FX.of (nb rfl) this ?_ hk;rw[xu,lg,pJ (2^1074)];exact g4e h (jK _)
theorem FX.frac(hd:0<d)(h:n<d*2^k)(hk:k+1<=900):FX (k+1) false (ofFrac false n d) (gD (qM n bW) d):=by
 refine FX.of hd (ofFrac_right hd (show n*2^1074*d=n*2^1074*d from rfl) hd) ?_ hk;rw[lg,pJ (2^1074),←pK];exact g4e h (jK _)
end
end
section
open PySem PySem.Float64
noncomputable def oN:Nat:=gH 2 1075
noncomputable def NV:Nat:=gH 2 1076
noncomputable def nE:Nat:=gH 2 1073
noncomputable def tY:Nat:=gH 2 1094
noncomputable def jX:Nat:=qM 6 (gH 2 1074)
noncomputable def EL(M:Nat):Nat:=bN (cU M 0) 0 (cK bW M)
section
variable {a:Bool}{x y r:UInt64}{X Y W D:Nat}
theorem FX.lit(t:Nat)(hx:pack a t=x)(ht:t<infMag)(hV:iU t=X)(hb:X<2^(1074+i)):FX i a x X:=
 (decode_pack a ht).elim λm y=>y.elim λe z=>⟨⟨m,e,hx▸z.1,z.2.trans hV⟩,hb⟩
theorem oh:FX 1 false f1 bW:=.lit 4607182418800017408 (by decide +kernel) (by decide +kernel) (by decide +kernel) (by decide +kernel)
theorem AN:FX 2 false f2 oN:=.lit 4611686018427387904 (by decide +kernel) (by decide +kernel) (by decide +kernel) (by decide +kernel)
theorem Xm:FX 3 false f4 NV:=.lit 4616189618054758400 (by decide +kernel) (by decide +kernel) (by decide +kernel) (by decide +kernel)
theorem zx:FX 3 false f6 jX:=.lit 4618441417868443648 (by decide +kernel) (by decide +kernel) (by decide +kernel) (by decide +kernel)
theorem wD:FX 1 false fh nE:=.lit 4602678819172646912 (by decide +kernel) (by decide +kernel) (by decide +kernel) (by decide +kernel)
theorem sj:FX i false 0 0:=(show zero false=0 by decide +kernel)▸uC false
theorem d0e:∀z<6,z=0∨z=1∨z=2∨z=3∨z=4∨z=5:=by decide
theorem c6q{e f:Int}(hx:decode x=.fin a m e)(hy:decode y=.fin b n f)(hn:n≠0):Right (fmod x y) a (m*2^(e+1074).toNat%(n*2^(f+1074).toNat)) 1:=by
 have he:=decode_ge hx;have hf:=decode_ge hy;refine fF (min e f) λg hg=>?_;have e3:-((1074:Nat):Int)<=g:=hg▸Int.le_min.mpr ⟨he,hf⟩;have e1:=Jf (hg▸Int.min_le_left e f) e3;have e2:=Jf (hg▸Int.min_le_right e f) e3;have hm:fmod x y=ofBin a (m*2^(e-g).toNat%(n*2^(f-g).toNat)) g:=by
  unfold fmod;rw[hx,hy];refine(if_neg (by simpa using hn)).trans ?_;rw[hg];rfl
 rw[hm,←e1,←e2,lg,lg,←pK,←pK,Nat.mul_mod_mul_right];unfold ofBin;exact ofFrac_right (shift_pos _ _ _ (nb rfl)) ((D0 _).trans (shift_one _ g 1074 e3)) (nb rfl)
theorem FX.MC(h:FX i a x X):FX 1 a (fmod x f1) (fG X):=by
 obtain⟨m,e,d,hX⟩:=h.at';obtain⟨n,f,d1,hN⟩:=oh.at';have h0:n≠0:=λq=>by rw[q,R5]at hN;exact absurd hN.symm (iW (jK 1074))
 have:=c6q d d1 h0;rw[hX,hN]at this;refine FX.of (i:=0) (nb rfl) this ?_ (nb rfl);rw[xu];exact eF _ (jK 1074)
theorem O8:dH x=if Jp (fmod x f1)then copysign (zero false) f1 else if lt f1 (zero false) != DP (fmod x f1) (zero false)then sF (fmod x f1) f1 else fmod x f1:=by
 unfold dH divmod;by_cases h1:Jp (fmod x f1)=true
 ·rw[if_pos h1];simp only[h1,if_true]
 ·rw[if_neg h1]
  by_cases h2:(lt f1 (zero false) != DP (fmod x f1) (zero false))=true
  ·rw[if_pos h2];simp only[h1,h2,if_true];rfl
  ·rw[if_neg h2];simp only[h1,h2];rfl
theorem Qm:copysign (zero false) f1=0:=by decide +kernel
theorem l1z:lt f1 (zero false)=false:=by decide +kernel
theorem FX.dH(h:FX i false x X):FX 1 false (Internal.dH x) (fG X):=by
 have hm:=h.MC;rw[O8,hm.isZero];by_cases h0:fG X=0
 ·rw[h0,Qm];exact sj
 ·rw[if_neg λz=>h0 (jz z),l1z]
  have:DP (fmod x f1) (zero false)=false:=(hm.lD (uC (i:=1) false)).trans rfl;rw[this];exact hm
theorem FX.tL(h:FX i true x X)(hle:fG X<=bW):FX 2 false (Internal.dH x) (EL (fG X)):=by
 have hm:=h.MC;rw[O8,hm.isZero];generalize fG X=M at *;by_cases h0:M=0
 ·subst h0;rw[Qm];exact sj
 ·have hb:cU M 0=false:=jA.mpr λz=>h0 (jz z)
  obtain⟨m,e,d,hX⟩:=hm.at';obtain⟨n,f,d1,hN⟩:=oh.at';obtain⟨z,g,d2,_⟩:=(uC (i:=1) false).at';have hl:DP (fmod x f1) (zero false)=true:=by
   unfold DP;rw[cmp_right d d2,hm.val,(uC (i:=1) false).val,show compare (sgn true M) (sgn false 0)=.lt from SX.mpr (g6e (g6g.mpr (R6 h0)))];rfl
  rw[hb,l1z,hl];show FX 2 false (sF (fmod x f1) f1) (bN (cU M 0) 0 (cK bW M));rw[hb];have q:=add_right d d1;rw[show uI (fmod x f1)+uI f1=((bW-M:Nat):Int) by rw[hm.val,oh.val];exact Ov hle]at q;show FX 2 false _ (cK bW M);by_cases hz:bW-M=0
  ·rw[hz]at q
   rw[q.1 rfl,show cK bW M=0 from(congrArg (gD · 1) hz).trans (Iq 1)];exact uC false
  ·have:=q.2 (λz=>hz (qS z))
   rw[AA,show decide (((bW-M:Nat):Int)<0)=false from decide_eq_false (i6.mpr (lB _))]at this;refine FX.of (i:=1) (nb rfl) this ?_ (nb rfl);rw[xu];exact ck (lS _ _) oh.lt
theorem FX.gR(h1:FX i a x X)(h2:FX j b y Y)(h0:Y≠0)(hz:iE X Y<2^(1074+k))(hk:k<=900):Internal.gR x y=some (pF x y)/\FX k (a != b) (pF x y) (iE X Y):=by
 refine⟨?_,h1.div h2 h0 hz hk⟩;unfold Internal.gR;rw[h2.isZero,if_neg λz=>h0 (jz z)]
end
inductive pP(i:Nat)(o:Option C3)(kk:Nat->Nat->Nat->Bool):Prop
 |mk (c:C3) (A B C:Nat) (h:o=some c) (h1:FX i false c.1 A) (h2:FX i false c.2.1 B) (h3:FX i false c.2.2 C) (e:kk A B C=true)
section
variable (kk:Nat->Nat->Nat->Bool)
noncomputable def Nt(v p q t i:Nat):Bool:=
 bB (cU i 0) (kk v t p) (bB (cU i 1) (kk q v p) (bB (cU i 2) (kk p v t) (bB (cU i 3) (kk p q v) (bB (cU i 4) (kk t p v) (kk v p q)))))
noncomputable def WD(s v i sf KJ:Nat):Bool:=
 bB (bh s bW) (bB (bh sf bW) (bB (bh KJ bW) (Nt kk v (fE v (cK bW s)) (fE v (cK bW sf)) (fE v (cK bW KJ)) (JC i 6)) false) false) false
noncomputable def Wl(s v i f:Nat):Bool:=bB (bh f bW) (WD kk s v i (fE s f) (fE s (cK bW f))) false
noncomputable def MZ(s v i h6 fi:Nat):Bool:=bB (bh fi h6) (Wl kk s v i (cK h6 fi)) false
noncomputable def Wv(s v h6 i:Nat):Bool:=MZ kk s v i h6 (rZ i)
noncomputable def MX(s v h6:Nat):Bool:=Wv kk s v h6 (xw h6 bW)
noncomputable def Br(h s v:Nat):Bool:=bB (cU s 0) (kk v v v) (MX kk s v (fE h jX))
end
theorem jv{c a:Bool}(h:bB c a b=true):(c=true/\a=true)∨(c=false/\b=true):=by cases c<;>first|exact .inr ⟨rfl,h⟩|exact .inl ⟨rfl,h⟩
section
theorem G3{h s v:UInt64}{H S W:Nat}(hh:FX 10 false h H)(hs:FX 3 false s S)(hv:FX 3 false v W)(e:Br kk H S W=true):pP 10 (wo h s v) kk:=by
 unfold wo;rw[hs.ez (sj (i:=1))];rcases jv e with⟨c,e⟩|⟨c,e⟩
 ·rw[c];exact⟨_,_,_,_,rfl,hv.le (nb rfl),hv.le (nb rfl),hv.le (nb rfl),e⟩
 rw[c];have h6:FX 14 false (g3g h f6) (fE H jX):=hh.mul zx (nb rfl);replace e:MX kk S W (fE H jX)=true:=e;generalize fE H jX=H6 at *;generalize g3g h f6=x6 at *;have hi:H6 / bW<2^14:=JI (by rw[Pf,←lg];exact h6.lt);rw[if_neg gP,h6.finite,h6.toInt,if_neg (by
  rintro(q|q)
  ·exact nt q.symm
  ·exact nt (q.symm.trans (sD (fj hi (nb rfl)))))]
 replace e:MZ kk S W (H6 / bW) H6 (rZ (H6 / bW))=true:=e;have hn:=FX.EC hi (nb rfl);generalize H6 / bW=i at *;obtain⟨c1,e⟩:=bX e;have hf:=h6.sub hn (bD.mp c1) (nb rfl);generalize cK H6 (rZ i)=F at *;generalize qJ x6 (ofInt (i:Int))=f at *;obtain⟨c2,e⟩:=bX e;have UK:=hs.mul hf (nb rfl);have V0:=oh.sub hf (bD.mp c2) (nb rfl);have UM:=hs.mul V0 (nb rfl);obtain⟨c3,e⟩:=bX e;obtain⟨c4,e⟩:=bX e;obtain⟨c5,e⟩:=bX e;have hp:=hv.mul (oh.sub hs (bD.mp c3) (nb rfl)) (nb rfl);have hq:=hv.mul (oh.sub UK (bD.mp c4) (nb rfl)) (nb rfl);have ht:=hv.mul (oh.sub UM (bD.mp c5) (nb rfl)) (nb rfl);generalize fE W (cK bW S)=P at *;generalize fE W (cK bW (fE S F))=Q at *;generalize fE W (cK bW (fE S (cK bW F)))=T at *;have hp:=hp.le (j:=10) (nb rfl);have hq:=hq.le (j:=10) (nb rfl);have ht:=ht.le (j:=10) (nb rfl);have hv:=hv.le (j:=10) (nb rfl);rw[show(i:Int).fmod 6=((i%6:Nat):Int)from GW i 6];replace e:Nt kk W P Q T (i%6)=true:=e;have hlt:i%6<6:=eF _ (nb rfl);generalize i%6=z at *;rcases d0e z hlt with rfl|rfl|rfl|rfl|rfl|rfl
 ·exact⟨_,_,_,_,rfl,hv,ht,hp,e⟩
 ·exact⟨_,_,_,_,rfl,hq,hv,hp,e⟩
 ·exact⟨_,_,_,_,rfl,hp,hv,ht,e⟩
 ·exact⟨_,_,_,_,rfl,hp,hq,hv,e⟩
 ·exact⟨_,_,_,_,rfl,ht,hp,hv,e⟩
 ·exact⟨_,_,_,_,rfl,hv,hp,hq,e⟩
end
end
section
open PySem PySem.Float64
section
variable (k:Nat->Bool)
noncomputable def qd(q:Nat):Bool:=bB (bh q tY) (k (fG q)) false
noncomputable def rC(M:Nat):Bool:=bB (bh M bW) (k (EL M)) false
noncomputable def VL(q:Nat):Bool:=bB (bh q tY) (rC k (fG q)) false
noncomputable def hP(z:Nat):Bool:=qd k (iE z jX)
noncomputable def hN(z:Nat):Bool:=VL k (iE z jX)
noncomputable def FJ(A B:Nat):Bool:=bB (bh B A) (hP k (cK A B)) false
noncomputable def MS(rc gc bc r g mx:Nat):Bool:=
 bB (cU r mx) (bB (bh gc bc) (hP k (cK bc gc)) (hN k (cK gc bc))) (bB (cU g mx) (FJ k (gz oN rc) bc) (FJ k (gz NV gc) rc))
noncomputable def XT(rc gc bc r g mx:Nat):Bool:=bB (bh rc bW) (bB (bh gc bW) (bB (bh bc bW) (MS k rc gc bc r g mx) false) false) false
noncomputable def Hh(r g b mx rg:Nat):Bool:=
 bB (cU rg 0) false (bB (bh r mx) (bB (bh g mx) (bB (bh b mx) (XT k (iE (cK mx r) rg) (iE (cK mx g) rg) (iE (cK mx b) rg) r g mx) false) false) false)
end
section
variable (kk:Nat->Nat->Nat->Bool)
noncomputable def V9(s v h:Nat):Bool:=kk h s v
noncomputable def W7(s l h:Nat):Bool:=kk h l s
noncomputable def W9(r g b mx rg s:Nat):Bool:=bB (bh s bW) (Hh (V9 kk s mx) r g b mx rg) false
noncomputable def M7(r g b mx mn:Nat):Bool:=bB (cU mn mx) (kk 0 0 mx) (bB (bh mn mx) (bB (cU mx 0) false (W9 kk r g b mx (cK mx mn) (iE (cK mx mn) mx))) false)
noncomputable def NF(r g b:Nat):Bool:=M7 kk r g b (ja (ja r g) b) (jb (jb r g) b)
noncomputable def Wm(r g b mx rg l s:Nat):Bool:=bB (bh s tY) (Hh (W7 kk s l) r g b mx rg) false
noncomputable def Gk(r g b mx rg l d:Nat):Bool:=bB (cU d 0) false (Wm kk r g b mx rg l (iE rg d))
noncomputable def Nb(r g b mx mn sm l:Nat):Bool:=
 bB (bh l tY) (bB (cU mn mx) (kk 0 l 0) (bB (bh mn mx) (bB (bh l nE) (Gk kk r g b mx (cK mx mn) l sm) (bB (bh mx oN) (bB (bh mn (cK oN mx)) (Gk kk r g b mx (cK mx mn) l (cK (cK oN mx) mn)) false) false)) false)) false
noncomputable def WV(r g b mx mn sm:Nat):Bool:=Nb kk r g b mx mn sm (iE sm oN)
noncomputable def Ww(r g b mx mn:Nat):Bool:=WV kk r g b mx mn (gz mx mn)
noncomputable def GP(r g b:Nat):Bool:=Ww kk r g b (ja (ja r g) b) (jb (jb r g) b)
end
theorem x9{a b:Nat}(h:cU a b=false):a≠b:=λq=>by rw[q,Ao]at h;exact nt h.symm
theorem zG{X:Nat}(h:bh X bW=true):X<2^(1074+1):=ck (bD.mp h) oh.lt
theorem Co{X:Nat}(h:bh X tY=true):X<2^(1074+21):=ck (bD.mp h) (by decide +kernel)
section
variable {k:Nat->Bool}{r g b mx rg s:UInt64}{R G B M af S:Nat}
theorem MG{z:UInt64}(h:FX 22 false z af)(e:hP k af=true):∃H,FX 2 false (Internal.dH (pF z f6)) H/\k H=true:=by
 obtain⟨c,e⟩:=bX (show bB (bh (iE af jX) tY) (k (fG (iE af jX))) false=true from e);exact⟨_,((h.div zx (by decide +kernel) (Co c) (nb rfl)).dH).le (nb rfl),e⟩
theorem WY{z:UInt64}(h:FX 22 true z af)(e:hN k af=true):∃H,FX 2 false (Internal.dH (pF z f6)) H/\k H=true:=by
 obtain⟨c,e⟩:=bX (show bB (bh (iE af jX) tY) (rC k (fG (iE af jX))) false=true from e);obtain⟨c2,e⟩:=bX (show bB (bh (fG (iE af jX)) bW) (k (EL (fG (iE af jX)))) false=true from e);exact⟨_,(h.div zx (by decide +kernel) (Co c) (nb rfl)).tL (bD.mp c2),e⟩
theorem M9{x y:UInt64}{A C:Nat}(h:FX 8 false x A)(h2:FX 8 false y C)(e:FJ k A C=true):∃H,FX 2 false (Internal.dH (pF (qJ x y) f6)) H/\k H=true:=by
 obtain⟨c,e⟩:=bX e;exact MG ((h.sub h2 (bD.mp c) (nb rfl)).le (nb rfl)) e
theorem Xv{rc gc bc:UInt64}{C1 C2 C3:Nat}(hr:FX 20 false r R)(hg:FX 20 false g G)(hm:FX 20 false mx M)(h1:FX 1 false rc C1)(h2:FX 1 false gc C2)(h3:FX 1 false bc C3)(e:MS k C1 C2 C3 R G M=true) :
  ∃H,FX 2 false (Internal.dH (pF (yN r g mx rc gc bc) f6)) H/\k H=true:=by
 unfold yN;rw[hr.ez hm,hg.ez hm];rcases jv e with⟨c,e⟩|⟨c,e⟩
 ·rw[c,if_pos rfl]
  rcases jv e with⟨c,e⟩|⟨c,e⟩
  ·exact MG ((h3.sub h2 (bD.mp c) (nb rfl)).le (nb rfl)) e
  ·exact WY ((h3.Es h2 (uL λq=>by rw[bD.mpr q]at c;exact nt c.symm) (nb rfl)).le (nb rfl)) e
 ·rw[c,if_neg gP]
  rcases jv e with⟨c,e⟩|⟨c,e⟩
  ·rw[c,if_pos rfl]
   exact M9 ((AN.add (h1.le (nb rfl)) (nb rfl)).le (nb rfl)) (h3.le (nb rfl)) e
  ·rw[c,if_neg gP]
   exact M9 ((Xm.add (h2.le (nb rfl)) (nb rfl)).le (nb rfl)) (h1.le (nb rfl)) e
theorem OF{out:UInt64->C3}(hr:FX 20 false r R)(hg:FX 20 false g G)(hb:FX 20 false b B)(hm:FX 20 false mx M)(lY:FX 21 false rg af)(e:Hh k R G B M af=true) :
  ∃h H,yS r g b mx rg s out=some (out h)/\FX 2 false h H/\k H=true:=by
 rcases jv e with⟨_,e⟩|⟨c0,e⟩
 ·exact nt e
 obtain⟨c1,e⟩:=bX e;obtain⟨c2,e⟩:=bX e;obtain⟨c3,e⟩:=bX e;obtain⟨c4,e⟩:=bX e;obtain⟨c5,e⟩:=bX e;obtain⟨c6,e⟩:=bX e;obtain⟨o1,d1⟩:=(hm.sub hr (bD.mp c1) (nb rfl)).gR lY (x9 c0) (zG c4) (nb rfl);obtain⟨o2,d2⟩:=(hm.sub hg (bD.mp c2) (nb rfl)).gR lY (x9 c0) (zG c5) (nb rfl);obtain⟨o3,d3⟩:=(hm.sub hb (bD.mp c3) (nb rfl)).gR lY (x9 c0) (zG c6) (nb rfl);obtain⟨H,h1,h2⟩:=Xv hr hg hm d1 d2 d3 e;refine⟨_,H,?_,h1,h2⟩;unfold yS;rw[o1,o2,o3];rfl
theorem d8o(hr:FX 20 false r R)(hg:FX 20 false g G)(hb:FX 20 false b B)(e:NF kk R G B=true):pP 20 (CP r g b) kk:=by
 have hM:=(hr.max hg).max hb;have hm:=(hr.min hg).min hb;replace e:M7 kk R G B (ja (ja R G) B) (jb (jb R G) B)=true:=e;unfold CP;generalize ja (ja R G) B=M at *;generalize jb (jb R G) B=N at *;generalize cH (cH r g) b=mx at *;generalize dm (dm r g) b=mn at *;rw[hm.ez hM];rcases jv e with⟨c,e⟩|⟨c,e⟩
 ·rw[c];exact⟨_,_,_,_,rfl,sj,sj,hM,e⟩
 rw[c,if_neg gP];obtain⟨c1,e⟩:=bX e;rcases jv e with⟨_,e⟩|⟨c2,e⟩
 ·exact nt e
 obtain⟨c3,e⟩:=bX e;have lY:=hM.sub hm (bD.mp c1) (nb rfl);obtain⟨o,d⟩:=lY.gR hM (x9 c2) (zG c3) (nb rfl);obtain⟨h,H,p,h1,h2⟩:=OF (s:=pF (qJ mx mn) mx) (out:=λh=>(h,pF (qJ mx mn) mx,mx)) hr hg hb hM lY e;exact⟨_,H,_,_,(congrArg (R4 · _) o).trans p,h1.le (nb rfl),d.le (nb rfl),hM,h2⟩
theorem OA{d l:UInt64}{D L:Nat}(hr:FX 20 false r R)(hg:FX 20 false g G)(hb:FX 20 false b B)(hM:FX 20 false mx M)(lY:FX 21 false rg af)(hl:FX 21 false l L)(hd:FX 30 false d D)(e:Gk kk R G B M af L D=true) :
  pP 21 ((Internal.gR rg d).bind λs=>yS r g b mx rg s λh=>(h,l,s)) kk:=by
 rcases jv e with⟨_,e⟩|⟨c2,e⟩
 ·exact nt e
 obtain⟨c3,e⟩:=bX e;obtain⟨o,q⟩:=lY.gR hd (x9 c2) (Co c3) (nb rfl);obtain⟨h,H,p,h1,h2⟩:=OF (s:=pF rg d) (out:=λh=>(h,l,pF rg d)) hr hg hb hM lY e;exact⟨_,H,_,_,(congrArg (R4 · _) o).trans p,h1.le (nb rfl),hl,q,h2⟩
theorem Qo(hr:FX 20 false r R)(hg:FX 20 false g G)(hb:FX 20 false b B)(e:GP kk R G B=true):pP 21 (wh r g b) kk:=by
 have hM:=(hr.max hg).max hb;have hm:=(hr.min hg).min hb;replace e:Nb kk R G B (ja (ja R G) B) (jb (jb R G) B) (gz (ja (ja R G) B) (jb (jb R G) B)) (iE (gz (ja (ja R G) B) (jb (jb R G) B)) oN)=true:=e;unfold wh;generalize ja (ja R G) B=M at *;generalize jb (jb R G) B=N at *;generalize cH (cH r g) b=mx at *;generalize dm (dm r g) b=mn at *;rw[hm.ez hM];obtain⟨c0,e⟩:=bX e;have hs:=hM.add hm (nb rfl);have hl:=hs.div AN (by decide +kernel) (Co c0) (nb rfl);generalize iE (gz M N) oN=L at *;generalize pF (sF mx mn) f2=l at *;rcases jv e with⟨c,e⟩|⟨c,e⟩
 ·rw[c];exact⟨_,_,_,_,rfl,sj,hl,sj,e⟩
 rw[c,if_neg gP];obtain⟨c1,e⟩:=bX e;have lY:=hM.sub hm (bD.mp c1) (nb rfl);rw[hl.oi wD];rcases jv e with⟨c2,e⟩|⟨c2,e⟩
 ·rw[c2,if_pos rfl]
  exact OA hr hg hb hM lY hl (hs.le (nb rfl)) e
 ·rw[c2,if_neg gP]
  obtain⟨c3,e⟩:=bX e;obtain⟨c4,e⟩:=bX e;exact OA hr hg hb hM lY hl (((AN.sub hM (bD.mp c3) (nb rfl)).sub hm (bD.mp c4) (nb rfl)).le (nb rfl)) e
end
end
section
open PySem PySem.Float64
noncomputable def jI:Nat:=qM 6004799503160661 (gH 2 1020)
noncomputable def HV:Nat:=qM 6004799503160661 (gH 2 1019)
noncomputable def CF:Nat:=qM 6004799503160661 (gH 2 1021)
theorem tF:FX 1 false dO.a jI:=.lit 4599676419421066581 (by decide +kernel) (by decide +kernel) (by decide +kernel) (by decide +kernel)
theorem d7n:FX 1 false dO.b HV:=.lit 4595172819793696085 (by decide +kernel) (by decide +kernel) (by decide +kernel) (by decide +kernel)
theorem Ku:FX 1 false dO.c CF:=.lit 4604180019048437077 (by decide +kernel) (by decide +kernel) (by decide +kernel) (by decide +kernel)
noncomputable def vX(m1 m2 d h:Nat):Nat:=
 bN (bh HV h) (bN (bh nE h) (bN (bh CF h) m1 (gz m1 (fE (fE d (cK CF h)) jX))) m2) (gz m1 (fE (fE d h) jX))
section
variable (kk:Nat->Nat->Nat->Bool)
noncomputable def V8(m1 m2 d h1 h2 h3:Nat):Bool:=kk (vX m1 m2 d h1) (vX m1 m2 d h2) (vX m1 m2 d h3)
noncomputable def WX(m2 h1 h2 h3 m1:Nat):Bool:=bB (bh m1 m2) (V8 kk m1 m2 (cK m2 m1) h1 h2 h3) false
noncomputable def Ga(l2 m2 h1 h2 h3:Nat):Bool:=bB (bh m2 l2) (WX kk m2 h1 h2 h3 (cK l2 m2)) false
noncomputable def Xw(l s h1 h2 h3:Nat):Bool:=bB (bh (fE l s) (gz l s)) (Ga kk (fE oN l) (cK (gz l s) (fE l s)) h1 h2 h3) false
noncomputable def MW(l s h1 h2 h3:Nat):Bool:=bB (cU s 0) (kk l l l) (bB (bh l nE) (Ga kk (fE oN l) (fE l (gz bW s)) h1 h2 h3) (Xw kk l s h1 h2 h3))
end
section
variable {m1 m2 i7 h l s:UInt64}{M1 M2 H1 H2 H3 L S:Nat}
theorem EG:(!false)=true:=rfl
theorem EE:¬(!true)=true:=nofun
theorem FU(a b:Nat):bN true a b=a:=rfl
theorem Gi(a b:Nat):bN false a b=b:=rfl
theorem En(h1:FX 10 false m1 M1)(h2:FX 10 false m2 M2)(hle:M1<=M2)(hh:FX 2 false (Internal.dH i7) H1):FX 20 false (pV dO m1 m2 i7) (vX M1 M2 (cK M2 M1) H1):=by
 unfold pV vX;rw[hh.lD d7n,hh.lD wD,hh.lD Ku];have hd:=h2.sub h1 hle (nb rfl);by_cases c1:HV<=H1
 ·rw[bD.mpr c1,FU,if_neg EE]
  by_cases c2:nE<=H1
  ·rw[bD.mpr c2,FU,if_neg EE]
   by_cases c3:CF<=H1
   ·rw[bD.mpr c3,FU,if_neg EE];exact h1.le (nb rfl)
   ·rw[uc c3,Gi,if_pos EG]
    exact(h1.le (j:=18) (nb rfl)).add ((hd.mul (Ku.sub hh (cy (uL c3)) (nb rfl)) (nb rfl)).mul zx (nb rfl)) (nb rfl)
  ·rw[uc c2,Gi,if_pos EG];exact h2.le (nb rfl)
 ·rw[uc c1,Gi,if_pos EG]
  exact(h1.le (j:=18) (nb rfl)).add ((hd.mul hh (nb rfl)).mul zx (nb rfl)) (nb rfl)
theorem OG{l2:UInt64}{L2:Nat}(a1:FX 2 false (Internal.dH (sF h dO.a)) H1)(a2:FX 2 false (Internal.dH h) H2)(a3:FX 2 false (Internal.dH (qJ h dO.a)) H3)(hl:FX 9 false l2 L2)(hm:FX 10 false m2 M2)(e:Ga kk L2 M2 H1 H2 H3=true) :
  pP 20 (some (BV dO (qJ l2 m2) m2 h)) kk:=by
 obtain⟨c1,e⟩:=bX e;obtain⟨c2,e⟩:=bX e;have h1:=hl.sub hm (bD.mp c1) (nb rfl);have hle:=bD.mp c2;exact⟨_,_,_,_,rfl,En h1 hm hle a1,En h1 hm hle a2,En h1 hm hle a3,e⟩
theorem B4(a1:FX 2 false (Internal.dH (sF h dO.a)) H1)(a2:FX 2 false (Internal.dH h) H2)(a3:FX 2 false (Internal.dH (qJ h dO.a)) H3)(hl:FX 3 false l L)(hs:FX 3 false s S)(e:MW kk L S H1 H2 H3=true) :
  pP 20 (some (mK dO h l s)) kk:=by
 unfold mK;rw[hs.ez (sj (i:=1)),hl.oi wD];have h2:=AN.mul hl (nb rfl);rcases jv e with⟨c,e⟩|⟨c,e⟩
 ·rw[c];exact⟨_,_,_,_,rfl,hl.le (nb rfl),hl.le (nb rfl),hl.le (nb rfl),e⟩
 rw[c,if_neg gP];rcases jv e with⟨c,e⟩|⟨c,e⟩
 ·rw[c,if_pos rfl]
  exact OG a1 a2 a3 (h2.le (nb rfl)) ((hl.mul ((oh.le (nb rfl)).add hs (nb rfl)) (nb rfl)).le (nb rfl)) e
 ·rw[c,if_neg gP]
  obtain⟨c,e⟩:=bX e;exact OG a1 a2 a3 (h2.le (nb rfl)) (((hl.add hs (nb rfl)).sub (hl.mul hs (nb rfl)) (bD.mp c) (nb rfl)).le (nb rfl)) e
end
noncomputable def B5(K X:Nat):Nat:=xw (xw (gz (fE (rZ K) X) (rZ 1)) bW) 2
theorem HQ{x:UInt64}{X K:Nat}(h:FX 21 false x X)(hk:K<2^12):ud K x=some ((B5 K X:Nat):Int):=by
 have:FX 37 false (Cx K x) (gz (fE (rZ K) X) (rZ 1)):=((FX.EC hk (nb rfl)).mul h (nb rfl)).add ((FX.EC (n:=1) (k:=1) (nb rfl) (nb rfl)).le (nb rfl)) (nb rfl);unfold ud;rw[this.finite,if_pos rfl,this.toInt];exact congrArg some (Nz _ 2)
theorem OM{x:UInt64}{X:Nat}(h:FX i false x X)(hle:X<=bW):vp x=true:=by
 obtain⟨m,e,d,_⟩:=h.at';unfold vp;rw[cmpInt_right d,cmpInt_right d,h.val];have a:(some (compare (sgn false X) (0*2^1074))==some Ordering.gt||some (compare (sgn false X) (0*2^1074))==some g3y)=true:=by
  rw[Int.zero_mul];rcases Nat.eq_zero_or_pos X with q|q
  ·rw[q];rfl
  ·rw[show compare (sgn false X) 0=.gt from g6l.mpr (sZ.mpr q)];rfl
 have b:(some (compare (sgn false X) (1*2^1074))==some Ordering.lt||some (compare (sgn false X) (1*2^1074))==some g3y)=true:=by
  rw[Int.one_mul,show(2:Int)^1074=(bW:Int)from(SR 2 1074).symm];rcases g4p hle with q|q
  ·rw[q,show compare (sgn false bW) (bW:Int)=.eq from g6m.mpr rfl];rfl
  ·rw[show compare (sgn false X) (bW:Int)=.lt from SX.mpr (sZ.mpr q)];rfl
 rw[a,b];rfl
noncomputable def fN(n d:Nat):Nat:=gD (qM n bW) d
theorem u0(hd:0<d)(h:n<d*2^k)(hk:k+1<=900):∃x,qO n d=some x/\FX (k+1) false x (fN n d):=by
 have f:=FX.frac hd h hk;refine⟨_,?_,f⟩;obtain⟨m,e,d1,_⟩:=f.at';unfold qO g7m;rw[d1];rfl
end
section
open PySem PySem.Float64
section
variable {x y:UInt64}{X Y:Nat}
theorem FX.zO(h1:FX i true x X)(h2:FX j false y Y)(hlt:Y<X)(hi:i+1<=900):FX (i+1) true (sF x y) (cK X Y):=by
 obtain⟨m,e,d1,_⟩:=h1.at';obtain⟨n,f,d2,_⟩:=h2.at';exact FX.sum (add_right d1 d2) (by rw[h1.val,h2.val,xH];exact Int.add_neg_eq_sub.trans (Oh (cy hlt))) (Jy hlt) (ck (lS _ _) h1.lt) hi
theorem FX.g3d(h1:FX i true x X)(h2:FX j false y Y)(hlt:X<Y)(hi:j+1<=900):FX (j+1) false (sF x y) (cK Y X):=by
 obtain⟨m,e,d1,_⟩:=h1.at';obtain⟨n,f,d2,_⟩:=h2.at';exact FX.sum (add_right d1 d2) (by rw[h1.val,h2.val];exact Ov (cy hlt)) (Jy hlt) (ck (lS _ _) h2.lt) hi
theorem FX.KA(h1:FX i true x X)(h2:FX i false y Y)(hp:0<X)(hi:i+2<=900):FX (i+2) true (qJ x y) (gz X Y):=by
 obtain⟨m,e,d1,_⟩:=h1.at';obtain⟨n,f,d2,_⟩:=h2.at';exact FX.sum (i:=i+1) (sub_right d1 d2) (by rw[h1.val,h2.val];exact(Int.neg_add (a:=X) (b:=Y)).symm) (iW (Nat.add_pos_left hp _)) (by
  rw[←nS,Jz,Nat.mul_two];exact g4t h1.lt h2.lt) hi
end
noncomputable def BH(kk:Nat->Nat->Nat->Bool)(l s a1 a2 a3:Nat):Bool:=MW kk l s a1 a2 a3
noncomputable def Wh(kk:Nat->Nat->Nat->Bool)(l s M a1 a2:Nat):Bool:=rC (BH kk l s a1 a2) (fG (gz M jI))
noncomputable def WG(kk:Nat->Nat->Nat->Bool)(l s M a1:Nat):Bool:=rC (Wh kk l s M a1) (fG M)
noncomputable def M5(kk:Nat->Nat->Nat->Bool)(l s M:Nat):Bool:=bB (bh (Aj jI) M) (rC (WG kk l s M) (fG (cK M jI))) false
theorem Zw{h l s:UInt64}{M L S:Nat}(hh:FX 10 true h M)(hl:FX 3 false l L)(hs:FX 3 false s S)(e:M5 kk L S M=true):pP 20 (some (mK dO h l s)) kk:=by
 obtain⟨c,e⟩:=bX e;have c:=bD.mp c;obtain⟨c1,e⟩:=bX e;obtain⟨c2,e⟩:=bX e;obtain⟨c3,e⟩:=bX e;exact B4 ((hh.zO tF c (nb rfl)).tL (bD.mp c1)) (hh.tL (bD.mp c2)) ((hh.KA (tF.le (nb rfl)) (ck (iV _) c) (nb rfl)).tL (bD.mp c3)) hl hs e
noncomputable def Ge(f:Nat->Bool)(a n:Nat):Bool:=@Nat.rec (λzz=>Bool) true (λk ih=>bB (f (mW a k)) ih false) n
theorem Pn{f:Nat->Bool}{a:Nat}(h:Ge f a n=true)(hk:k<n):f (a+k)=true:=by
 induction n with
 |zero=>exact absurd hk (nQ _)
 |succ n ih=>
  obtain⟨h1,h2⟩:=bX h;rcases g4p (lq hk)with q|q
  ·rw[q];exact h1
  ·exact ih h2 q
end
section
open Float64 (add sub mul div divmod cmp isZero)
section
theorem c5f{f:X->aB->Mu->Option (V×Mu)}{elt:X}{h1 h2 g:α->V}{P:Mu->Prop}{d:∀O,Decidable (P O)}(hP:P O)(hij:i≠j)(l:List α):∀J:aB,(∀a∈l,f elt (put j (h2 a) (put i (h1 a) J)) O=some (g a,O))->@mz f elt (.many [i,j]) [] P d (l.map λa=>.tup [h1 a,h2 a]) J O=some (l.map g,O):=by
 induction l with
 |nil=>intro J _;exact if_pos hP
 |cons a l ih=>
  intro J H;have e:=ih (put j (h2 a) (put i (h1 a) J)) λb hb=>by rw[Q0 hij];exact H b (fX _ hb)
  refine(if_pos hP).trans ?_;show(match (generalizing:=false) f elt (put j (h2 a) (put i (h1 a) J)) O with
    |.none=>cZ
    |some (y,O)=>match @mz f elt (.many [i,j]) [] P d (l.map λa=>.tup [h1 a,h2 a]) (put j (h2 a) (put i (h1 a) J)) O with
     |.none=>.none
     |some (ys,O)=>some (y::ys,O))=_
  rw[H a fW];dsimp only;rw[e];rfl
theorem d7o{l:List α}{a b elt:X}{own:List Nat}{h1 h2 g:α->V}(hij:i≠j)(hA:ev Z n a J O=some (.lst (l.map h1),O))(hB:ev Z n b J O=some (.lst (l.map h2),O))(hz:l.length<=big)
  (H:∀x∈l,ev Z n elt (put j (h2 x) (put i (h1 x) (J.filter λp=>!own.contains p.1))) (O++[.obj [] (-9)])=some (g x,O++[.obj [] (-9)])):ev Z (n+1) (.comp elt (.many [i,j]) (.zip a b) [] own) J O=some (.lst (l.map g),O++[.obj [] (-9)]):=by
 rw[Gy];show BP (ev Z n) elt (.many [i,j]) (.zip a b) [] J (J.filter λp=>!own.contains p.1) O=_;unfold BP vM NQ;rw[if_pos (show yG (.zip a b)=true from rfl)];dsimp only;rw[hA];dsimp only;rw[hB];dsimp only;rw[if_pos (by rw[aW,aW]),List.zip_map',gk];show(if _ then _ else _)=_;rw[if_pos (by show(List.map _ l).length<=big;rw[aW];exact hz)];rw[show(l.map ((λp:V×V=>V.tup [p.1,p.2])∘λx=>(h1 x,h2 x)))=l.map λx=>V.tup [h1 x,h2 x]from rfl,
  c5f (P:=λai=>ai[O.length]?=some (.obj [] (-9))) (h1:=h1) (h2:=h2) (g:=g) (by rw[fY (bV _),jy];rfl) hij l _ H]
 rfl
structure mZ(aS O:Mu)(d:Cl)(m:List (Nat×Nat)):Prop where
 base:O.take aS.length=aS
 dict:O[aS.length]?=some (.dict (dV (λk=>cD (bP d k)) m))
 ok:b9 O=true
theorem d6k(h:b9 O=true){k:Int}:b9 (O++[.obj [] k])=true:=by
 unfold b9 at *;rw[JV,jm];refine⟨cN.mpr λz hz=>?_,rfl⟩;have:=cN.mp h z hz;induction z using Internal.M.casesOn with
 |list l=>exact this
 |dict l=>exact this
 |obj is n=>exact cN.mpr λx hx=>decide_eq_true (fk (of_decide_eq_true (cN.mp this x hx)) (by rw[cA];exact gZ _ _))
theorem mZ.obj{d:Cl}{m:List (Nat×Nat)}(h:mZ aS O d m):mZ aS (O++[.obj [] (-9)]) d m where
 base:=by rw[JK (cy (cM.mp h.dict).1),h.base]
 dict:=Cw h.dict
 ok:=d6k h.ok
theorem Dq(f:Nat->V)(hf:∀k,plain (f k)=true)(m:List (Nat×Nat)):cY ((dV f m).map (·.2))=true:=by
 induction m with
 |nil=>rfl
 |cons p m ih=>show(plain (f p.2)&&cY ((dV f m).map (·.2)))=true;rw[hf,ih];rfl
theorem mZ.store{d:Cl}{m:List (Nat×Nat)}(h:mZ aS O d m)(k c:Nat):mZ aS (O.set aS.length (.dict (((k:Int),cD (bP d c))::dV (λk=>cD (bP d k)) m))) d ((k,c)::m) where
 base:=Dr (bV _) h.base
 dict:=o5 h.dict
 ok:=sA h.ok (Dq (λk=>cD (bP d k)) (λzz=>rfl) ((k,c)::m))
noncomputable def jE(c:Cl):List Nat:=[c.1,c.2.1,c.2.2]
theorem O5{t:C3}{d:Cl}(h:zj k t d)(hk:k<2^60)(hi:J.lookup i=some (vC t)):ev gC (N+12) (BY k i) J O=some (cD d,O):=by
 refine jL (vs:=[.aq t.1,.aq t.2.1,.aq t.2.2]) (jd rfl (ak hi) rfl) (show 3<=big from nb rfl) ?_;have one:∀{x:UInt64}{z:Int} (J:aB),ud k x=some z->ev gC (N+11) (.bin .FloorDiv (.call 5 [bO (.bin .Mult (.cst (.int k)) (.loc 103)) i1]) i2) (put 103 (.aq x) J) O=some (.int z,O):=λJ hx=>d8e hx hk az (ak dM);exact uH gy (one _ h.1) (uH gy (one _ h.2.1) (uH gy (one _ h.2.2) rfl))
theorem Yt(c:Cl):cR .NotEq (cD c) (cD c)=some false:=by
 have:=Gx.vF (nb rfl) (a:=(jE c).map λ(k:Nat)=>(k:Int)) (b:=(jE c).map λ(k:Nat)=>(k:Int)) (λzz zz=>trivial) (λzz zz=>trivial);rw[decide_eq_true rfl]at this;exact this
theorem Ym{t:C3}(hl:vp t.1=true)(h:J.lookup i=some (vC t)):ev Z (n+3) (.vG .LtE .LtE i0 (cI i 0) i1) J O=some (.bool true,O):=by
 unfold vp at hl;rw[jm]at hl;exact e7j az (r6 h).1 (congrArg some hl.1) az (congrArg some hl.2)
noncomputable def tK(s v:V)(lv:C3)(m:Nat):List (Nat×V):=[(97,s),(201,v),(98,vC lv),(202,.mut m)]
theorem e3y{s v:UInt64}{m d:Cl}{x t ag fr:C3}(hs:qO sh 4=some s)(hv:qO vl 4=some v)(T:Bq s v lv m d true x t ag fr)(K:ay J ((203,cD m)::tK (.int (sh:Nat)) (.int (vl:Nat)) lv k))(ok:b9 O=true) :
  bE (aQ gC (N+34)) Gf J O=some (.next,put 114 (vC fr) (put 205 (vC ag) (put 100 (vC t) J)),O):=by
 have e1:ev gC (N+34) (Bs 66) J O=some (vC t,O):=(cL (Ii (k:=512) (by decide) (K 203 _ rfl) T.hx)).trans ((ZD _ _).trans (b9y (N:=N+13) T.ht ok));have K1:=K.put 100 (vC t);have e2:ev gC (N+33) (Bp 68 100) (put 100 (vC t) J) O=some (vC ag,O):=(cL (OY (K1 100 _ rfl))).trans ((Ox _ _).trans (Je (N:=N+12) T.ha ok));have e3:ev gC (N+33) (.call 68 [bO (cI 100 0) ze,rS 97,rS 201]) (put 100 (vC t) J) O=some (vC fr,O):=
  (cL (aX (aF (r6 (K1 100 _ rfl)).1 O6 rfl) (aX (aF (ak (K1 97 _ rfl)) az (mh (b:=4) (by decide) hs)) (bf (aF (ak (K1 201 _ rfl)) az (mh (b:=4) (by decide) hv)))))).trans ((Ox _ _).trans (Je (N:=N+12) T.hf ok))
 have e4:=eW (aX e2 (bf e3)) (show 2<=big from nb rfl);exact(bq (gX e1)).trans ((bq (pB e4)).trans rfl)
theorem e7g{s v:UInt64}{m d:Cl}{x t ag fr:C3}(T:Bq s v lv m d false x t ag fr)(K:ay J ((203,cD m)::tK (.int (sh:Nat)) (.int (vl:Nat)) lv k))(ok:b9 O=true) :
  bE (aQ gC (N+34)) Gl J O=some (.next,put 114 (vC fr) (put 205 (vC ag) (put 100 (vC t) J)),O):=by
 have e1:ev gC (N+34) (Bs 47) J O=some (vC t,O):=(cL (Ii (k:=512) (by decide) (K 203 _ rfl) T.hx)).trans ((N7 _ _).trans (Rx (N:=N+13) T.ht ok));have K1:=K.put 100 (vC t);have ea:=aD T.ha;have ef:=aD T.hf;have e2:ev gC (N+33) (Bp 61 100) (put 100 (vC t) J) O=some (vC ag,O):=(cL (OY (K1 100 _ rfl))).trans ((N6 _ _).trans ((Ry (N:=N+2) ok).trans (by rw[ea])));have e3:ev gC (N+33) (.call 61 [(.bin .Sub (cI 100 0) ze),cI 98 1,cI 98 2]) (put 100 (vC t) J) O=some (vC fr,O):=
  (cL (aX (aF (r6 (K1 100 _ rfl)).1 O6 rfl) (aX (r6 (K1 98 _ rfl)).2.1 (bf (r6 (K1 98 _ rfl)).2.2)))).trans ((N6 _ _).trans ((Ry (N:=N+2) ok).trans (by rw[ef])))
 have e4:=eW (aX e2 (bf e3)) (show 2<=big from nb rfl);exact(bq (gX e1)).trans ((bq (pB e4)).trans rfl)
theorem Zh{d:Cl}{m:List (Nat×Nat)}{c:Nd}{a b:Nat}(P:mZ aS O d m)(h2:J.lookup 202=some (.mut aS.length))(h1:J.lookup 153=some (bA c))(ha:m.lookup c.1=some a)(hb:m.lookup c.2.2=some b) :
  ev gC (N+12) MO J O=some (cD (nu (bP d a) (bP d b)),O++[.obj [] (-9)]):=by
 have RI:∀(i j:Nat) (q:Nat),(cI 153 i=cI 153 i)->item (bA c) (.int (i:Nat))=some (.int (j:Nat))->m.lookup j=some q->ev gC (N+11) (.sub (.loc 202) (cI 153 i)) J O=some (cD (bP d q),O):=λi j q zz hi hq=>
  CE (ak h2) P.dict (dU (u:=bA c) (ak h1) az hi) (by rw[CR,hq];rfl)
 have e:=d7o (Z:=gC) (n:=N+11) (J:=J) (own:=[42,169,204]) (elt:=bO (.loc 169) (.loc 204)) (i:=169) (j:=204) (l:=[0,1,2]) (h1:=λk=>nV ((jE (bP d a)).getD k 0)) (h2:=λk=>nV ((jE (bP d b)).getD k 0)) (g:=λk=>nV ((jE (bP d a)).getD k 0+(jE (bP d b)).getD k 0)) (by decide) (RI 0 c.1 a rfl rfl ha) (RI 2 c.2.2 b rfl rfl hb) (show 3<=big from nb rfl)
  λk zz=>aF (ak (gh dM (by decide))) (ak dM) rfl
 exact e
end
end
section
open Float64 (add sub mul div divmod cmp isZero)
def zw(s v:UInt64)(lv:C3)(d:Cl):Prop:=∀(a b:Nat) (e:Bool),a<3->b<3->a≠b->∃x t ag fr,Bq s v lv (nu (bP d a) (bP d b)) (bP d (3-a-b)) e x t ag fr
section
theorem ZM{t ag:C3}{m:Cl}(hl:vp t.1=true)(fa:zj 1024 ag m)(h5:J.lookup 205=some (vC ag))(h3:J.lookup 203=some (cD m))(h0:J.lookup 100=some (vC t)):ev gC (N+14) F3 J O=some (.bool false,O):=
 ZG (p:=false) (q:=false) (br (O5 (N:=N) fa (nb rfl) h5) (ak h3) (Yt m)) (Xx (b:=true) (Ym (n:=N+9) hl h0))
theorem c5o{s v:UInt64}{d:Cl}{m:List (Nat×Nat)}{c:Nd}{a b:Nat}(hs:qO sh 4=some s)(hv:qO vl 4=some v)(HM:zw s v lv d)(P:mZ aS O d m)(hz:m.length<100)(ha:m.lookup c.1=some a)(hb:m.lookup c.2.2=some b)(h3:a<3/\b<3/\a≠b)
  (K:ay J ((153,bA c)::(111,.int (k:Nat))::tK (.int (sh:Nat)) (.int (vl:Nat)) lv aS.length)) :
  ∃ρ' ai,exec gC (N+36) BL J O=some (.next,ρ',ai)/\mZ aS ai d ((c.2.1,3-a-b)::m)/\ay ρ' (tK (.int (sh:Nat)) (.int (vl:Nat)) lv aS.length):=by
 have e1:=Zh (N:=N+23) P (K 202 _ rfl) (K 153 _ rfl) ha hb;have P1:=P.obj;have K1:=K.put 203 (cD (nu (bP d a) (bP d b)));generalize qc:put 203 (cD (nu (bP d a) (bP d b))) J=aY at K1;generalize O++[M.obj [] (-9)]=fy at *;have KM:ay aY ((203,cD (nu (bP d a) (bP d b)))::tK (.int (sh:Nat)) (.int (vl:Nat)) lv aS.length):=ay.cons (K1 203 _ rfl) (((K1.rest rfl).rest rfl).rest rfl);have c1:ev gC (N+35) (.cmp .Eq (.bin .Mod (.loc 111) i2) i0) aY fy=some (.bool (decide (k%2=0)),fy):=br (aF (ak (K1 111 _ rfl)) az (lM k 2 (by decide))) az (yH (m:=0));obtain⟨x,t,ag,fr,T⟩:=HM a b (decide (k%2=0)) h3.1 h3.2.1 h3.2.2;have e2:aQ gC (N+35) (.ite (.cmp .Eq (.bin .Mod (.loc 111) i2) i0) Gf Gl) aY fy=some (.next,put 114 (vC fr) (put 205 (vC ag) (put 100 (vC t) aY)),fy):=by
  refine(fc c1 rfl).trans ?_;revert T;generalize decide (k%2=0)=e;intro T;cases e with
  |true=>exact e3y (N:=N) hs hv T KM P1.ok
  |false=>exact e7g (N:=N) T KM P1.ok
 have le:=T.le;have fa:=T.fa;have ff:=T.ff;clear T;have K2:=((K1.put 100 (vC t)).put 205 (vC ag)).put 114 (vC fr);generalize put 114 (vC fr) (put 205 (vC ag) (put 100 (vC t) aY))=bw at *;have c2:ev gC (N+35) F3 bw fy=some (.bool false,fy):=ZM (N:=N+21) le fa (K2 205 _ rfl) (K2 203 _ rfl) (K2 100 _ rfl);have e3:=Rk (Z:=gC) (n:=N+35) (i:=202) (k:=cI 153 1) (e:=BY 512 114) (q:=((c.2.1:Nat):Int)) (O5 (N:=N+23) ff (nb rfl) (K2 114 _ rfl)) (K2 202 _ rfl) (dU (u:=bA c) (ak (K2 153 _ rfl)) az rfl) P1.dict (by unfold dV;rw[aW];exact cQ (by exact bz hz));refine⟨bw,_,(bq (f:=aQ gC (N+35)) (gX e1)).trans ?_,P1.store c.2.1 (3-a-b),ay.cons (K2 97 _ rfl) (ay.cons (K2 201 _ rfl) (ay.cons (K2 98 _ rfl) (ay.cons (K2 202 _ rfl) ay.nil)))⟩;rw[qc];exact(bq e2).trans (d7 (bv:=false) c2 rfl ((bq e3).trans rfl))
theorem c5l{s v:UInt64}{d:Cl}(hs:qO sh 4=some s)(hv:qO vl 4=some v)(HM:zw s v lv d):∀(cs:List Nd) (k:Nat) (m m':List (Nat×Nat)) (J:aB) (O:Mu),Cq cs m=some m'->m.length+cs.length<100->mZ aS O d m->ay J (tK (.int (sh:Nat)) (.int (vl:Nat)) lv aS.length) →
  ∃ρ' ai,eB (λJ O=>exec gC (N+36) BL J O) (.many [111,153]) ((cs.zipIdx k).map λp=>.tup [.int (p.2:Nat),bA p.1]) J O=some (.next,ρ',ai)/\mZ aS ai d m'/\ay ρ' (tK (.int (sh:Nat)) (.int (vl:Nat)) lv aS.length):=by
 intro cs;induction cs with
 |nil=>intro k m m' J O h _ P K;obtain rfl:=aD h;exact⟨J,O,rfl,P,K⟩
 |cons c cs ih=>
  intro k m m' J O h hz P K;have hz:m.length+(cs.length+1)<100:=hz;have h:(match m.lookup c.1,m.lookup c.2.2 with
   |some a,some b=>if a<3/\b<3/\a≠b then Cq cs ((c.2.1,3-a-b)::m)else none
   |_,_=>none)=some m':=h
  cases ha:m.lookup c.1 with
  |none=>rw[ha]at h;cases h
  |some a=>cases hb:m.lookup c.2.2 with
   |none=>rw[ha,hb]at h;cases h
   |some b=>
    rw[ha,hb]at h;refine aL h λh3 h=>?_;obtain⟨aY,fy,e1,P1,K1⟩:=c5o (N:=N) hs hv HM P (by exact lX hz) ha hb h3 ((K.put 111 (.int (k:Nat))).put 153 (bA c));obtain⟨bw,jB,e2,P2,K2⟩:=ih (k+1) _ m' aY fy h (by rw[lT];exact KU hz) P1 K1;exact⟨bw,jB,(nL (bu:=put 153 (bA c) (put 111 (.int (k:Nat)) J)) rfl e1).trans e2,P2,K2⟩
theorem QH(h:b9 O=true){l:List (Int×V)}(hl:cY (l.map (·.2))=true):b9 (O++[.dict l])=true:=by
 unfold b9 at *;rw[JV,jm];refine⟨cN.mpr λz hz=>?_,(Ec _).trans hl⟩;have:=cN.mp h z hz;induction z using Internal.M.casesOn with
 |list l=>exact this
 |dict l=>exact this
 |obj is n=>exact cN.mpr λx hx=>decide_eq_true (fk (of_decide_eq_true (cN.mp this x hx)) (by rw[cA];exact gZ _ _))
theorem d7u{l:List (Int×V)}(hl:(is.length==args.length)=true)(h:exec Z n ss (is.zip args) O=some (.ret (.mut O.length),bu,aE))(ht:aE.take O.length=O)(hok:b9 O=true)(hd:aE[O.length]?=some (.dict l))(hp:cY (l.map (·.2))=true):gW Z n is ss args O=some (.mut O.length,O++[.dict l]):=by
 unfold gW;rw[if_pos hl,h];dsimp only;rw[ht,if_pos (by exact hok)];have hf:iR O.length aE (.mut O.length)=.none:=by
  show(if O.length<O.length then some (V.mut O.length)else match aE[O.length]? with|some (.list l)=>if cY l then some (V.lst l)else .none|_=>.none)=_
  rw[if_neg (mV _),hd]
 rw[hf];show BQ O.length aE (.mut O.length)=_;unfold BQ;dsimp only;rw[hd];dsimp only;rw[if_pos ⟨bV _,hp⟩,ht]
theorem c0p{s v:UInt64}{x:C3}{d:Cl}{e0 e1:Nat}{m:List (Nat×Nat)}(hs:qO sh 4=some s)(hv:qO vl 4=some v)(hx:vR 256 d x)(hl:wh x.1 x.2.1 x.2.2=some lv)(HM:zw s v lv d)(hC:cuts.length<8)(hne:e0≠e1)(hp:CI cuts e0 e1=some m)(ok:b9 O=true) :
  cF gC zW w6 (N+50) [.lst (cuts.map bA),.lst [nV e0,nV e1],cD d,.int (sh:Nat),.int (vl:Nat)] O=some (.mut O.length,O++[.dict (dV (λk=>cD (bP d k)) m)]):=by
 refine fF ([(197,V.lst (cuts.map bA)),(200,V.lst [nV e0,nV e1]),(101,cD d),(97,V.int (sh:Nat)),(201,V.int (vl:Nat))]) λJ bH=>?_;have K:ay J [(197,.lst (cuts.map bA)),(200,.lst [nV e0,nV e1]),(101,cD d),(97,.int (sh:Nat)),(201,.int (vl:Nat))]:=by rw[bH];exact ay.self
 have a1:ev gC (N+48) (.call 47 [l9 101 0 256,l9 101 1 256,l9 101 2 256]) J O=some (vC lv,O):=(cL (Ii (k:=256) (by decide) (K 101 _ rfl) hx)).trans ((N7 _ _).trans (Rx (N:=N+27) hl ok));have K1:=K.put 98 (vC lv);generalize qc:put 98 (vC lv) J=aY at K1;have a2:ev gC (N+48) (.q6 [cI 200 0,(.loc 101),cI 200 1,(.lst [cI 101 2,cI 101 0,cI 101 1])]) aY O=some (.mut O.length,O++[.dict (dV (λk=>cD (bP d k)) [(e0,0),(e1,1)])]):=by
  have i1:=CB (Z:=gC) (n:=N+44) (O:=O) (K1 101 _ rfl);rw[OO,aX (dU (u:=.lst [nV e0,nV e1]) (ak (K1 200 _ rfl)) az rfl) (aX (ak (K1 101 _ rfl)) (aX (dU (u:=.lst [nV e0,nV e1]) (ak (K1 200 _ rfl)) az rfl) (bf (lN (aX i1.2.2 (aX i1.1 (bf i1.2.1))) (show 3<=big from nb rfl)))))];show(qz [nV e0,cD d,nV e1,cD (bP d 1)]).map _=_;have hc:([(e1:Int)]:List Int).contains (e0:Int)=false:=by
   rw[g5t,show((e0:Int)==(e1:Int))=false from beq_false_of_ne λq=>hne (qS q)];rfl
  show((if([(e1:Int)]:List Int).contains (e0:Int)then cZ else some [((e0:Int),cD d),((e1:Int),cD (bP d 1))])).map _=_;rw[hc];rfl
 have K2:=K1.put 202 (.mut O.length);generalize oj:put 202 (V.mut O.length) aY=bw at K2;have P:mZ O (O++[.dict (dV (λk=>cD (bP d k)) [(e0,0),(e1,1)])]) d [(e0,0),(e1,1)]:=⟨Sm ..,Cv,QH ok (Dq (λk=>cD (bP d k)) (λzz=>rfl) _)⟩;have a3:cT (λx O=>ev gC (N+48) x bw O) (.enum (.slc (.loc 197) .none .none (some m1))) (O++[.dict (dV (λk=>cD (bP d k)) [(e0,0),(e1,1)])])=some ((cuts.reverse.zipIdx 0).map λp=>.tup [.int (p.2:Nat),bA p.1],O++[.dict (dV (λk=>cD (bP d k)) [(e0,0),(e1,1)])]):=by
  have:=Ro (Z:=gC) (M:=N+47) (a:=.loc 197) (x:=m1) (J:=bw) (O:=O++[.dict (dV (λk=>cD (bP d k)) [(e0,0),(e1,1)])]) (ak (K2 197 _ rfl)) nC (by rw[aW];exact hC);rw[←JP]at this;rw[Bu,this];show some ((cuts.reverse.map bA).zipIdx.map _,_)=_;rw[Sl,gk];rfl
 obtain⟨gq,Td,a4,P3,K3⟩:=c5l (N:=N+12) hs hv HM cuts.reverse 0 _ m bw _ hp (by rw[JR];show 2+_<100;exact kD hC) P (ay.cons (K2 97 _ rfl) (ay.cons (K2 201 _ rfl) (ay.cons (K2 98 _ rfl) (ay.cons (K2 202 _ rfl) ay.nil))));have a5:exec gC (N+49) w6 J O=some (.ret (.mut O.length),gq,Td):=by
  have s1:=gX (i:=98) a1;rw[qc]at s1;have s2:=gX (i:=202) a2;rw[oj]at s2;have s3:aQ gC (N+48) (.for (.many [111,153]) (.enum (.slc (.loc 197) .none .none (some m1))) BL) bw _=_:=(nK a3).trans a4;exact(bq (f:=aQ gC (N+48)) s1).trans ((bq s2).trans ((bq s3).trans (j8 (sr (ak (K3 202 _ rfl))))))
 rw[bH]at a5;show gW gC (N+49) zW w6 [.lst (cuts.map bA),.lst [nV e0,nV e1],cD d,.int (sh:Nat),.int (vl:Nat)] O=_;exact d7u (n:=N+49) rfl a5 P3.base ok P3.dict (Dq (λk=>cD (bP d k)) (λzz=>rfl) _)
end
end
noncomputable def vj:List (List Nat):=[[10],[32],[9],[13,10,32]]
noncomputable def e7(d:Nat):List Nat:=vj.getD (d / 3%4) []
noncomputable def iw(l:List Nat)(c:Nat):List Nat:=if c∈l then [92,c]else [c]
noncomputable def dB(l w:List Nat):List Nat:=(w.map (iw l)).flatten
noncomputable def HU(w:List Nat):List Nat:=(w.map λc=>[92,c]).flatten
noncomputable def jF(w:List Nat):List Nat:=if(dB [92,32,10,9] w).head?=some 34 then [92]else []
noncomputable def fS(w:List Nat)(d:Nat):List Nat:=
 if d%3=0 then [34]++dB [34,92] w++[34]++(eH (d / 12%2) (e7 d)).flatten else
 if d%3=1 then HU w++e7 d else jF w++dB [92,32,10,9] w++e7 d
theorem Ir(l:List Nat)(c:Nat):1<=(iw l c).length/\(iw l c).length<=2:=by
 unfold iw;by_cases h:c∈l
 ·rw[if_pos h];exact⟨iA 1,bV 2⟩
 ·rw[if_neg h];exact⟨bV 1,iA 1⟩
theorem wM{f:Nat->List Nat}(h:∀c,(f c).length<=2)(w:List Nat):(w.map f).flatten.length<=2*w.length:=by
 induction w with
 |nil=>exact bV _
 |cons c w ih=>
  rw[fm,ki,cA,lT,JA,kg];exact iY ih (h c)
theorem EN(d:Nat):d%2<2:=eF _ (nb rfl)
theorem PC(d:Nat):(e7 d).length<=3:=(by decide:∀i<4,(vj.getD i []).length<=3) _ (eF _ (nb rfl))
theorem W3:∀c<128,DO ⟨([34,92]:List Nat).toArray⟩ ⟨([c]:List Nat).toArray⟩=decide (c∈[34,92]):=by decide +kernel
theorem WM:∀c<128,DO ⟨([92,32,10,9]:List Nat).toArray⟩ ⟨([c]:List Nat).toArray⟩=decide (c∈[92,32,10,9]):=by decide +kernel
section
theorem Pw{it elt:X}{l:List (List Nat)}(h:ev g0 (n+1) (.comp elt (.one 86) it [] [42,86]) J O=some (.lst (l.map .str),O))(hz:(l.map (·.length)).sum<=1000):ev g0 (n+2) (.bY 8 (sX []) [(.comp elt (.one 86) it [] [42,86])]) J O=some (.str l.flatten,O):=by
 refine(nI (u:=.str []) az rfl (se h)).trans ?_;show(match (generalizing:=false) r4 (l.map .str)with|some ts=>if(ts.map uO).sum+ts.length*0<=big then some (V.str (qm [] ts),O)else .none|.none=>.none)=_
 rw[Q7];refine(if_pos (aV hz B7)).trans ?_;rw[Q2]
theorem PZ{w:List Nat}(ha:∀c∈w,c<128)(h:J.lookup 82=some (.str w)):cT (λx O=>ev g0 (n+1) x J O) (.loc 82) O=some (w.map λc=>.str [c],O):=
 jd rfl (ak h) (if_pos (cN.mpr λc hc=>decide_eq_true (ha c hc)))
theorem Og{l w:List Nat}(hl:∀c<128,DO ⟨l.toArray⟩ ⟨([c]:List Nat).toArray⟩=decide (c∈l))(hw:w.length<=100)(ha:∀c∈w,c<128)(h:J.lookup 82=some (.str w)):ev g0 (N+8) (Bl l) J O=some (.str (dB l w),O):=by
 refine Pw (l:=w.map (iw l)) ?_ ?_
 ·rw[gk]
  refine jL (PZ (n:=N+5) ha h) (by rw[aW];exact aV hw (nb rfl)) (pA (h:=λc=>V.str [c]) (g:=λc=>V.str (iw l c)) w _ λc hc=>?_);have c1:ev g0 (N+5) (.cmp .In (.loc 86) (sX l)) (put 86 (.str [c]) (J.filter λp=>![42,86].contains p.1)) O=some (.bool (decide (c∈l)),O):=br (ak dM) az (congrArg some (hl c (ha c hc)));refine(v7 c1 rfl).trans ?_;unfold iw;by_cases hm:c∈l
  ·rw[decide_eq_true hm];exact(if_pos rfl).trans ((aF (n:=N+4) (u:=.str [92]) (v:=.str [c]) az (ak dM) (oH (x:=[92]) (y:=[c]) (show 2<=big from nb rfl))).trans (by rw[if_pos hm];rfl))
  ·rw[decide_eq_false hm];exact(if_neg gP).trans ((ak (n:=N+4) dM).trans (by rw[if_neg hm]))
 ·rw[←SD]
  exact aV (wM (f:=iw l) (λc=>(Ir l c).2) w) (aV (iJ 2 hw) (nb rfl))
theorem d7y{w:List Nat}(hw:w.length<=100)(ha:∀c∈w,c<128)(h:J.lookup 82=some (.str w)):ev g0 (N+8) ON J O=some (.str (HU w),O):=by
 refine Pw (l:=w.map λc=>[92,c]) ?_ ?_
 ·rw[gk]
  exact jL (PZ (n:=N+5) ha h) (by rw[aW];exact aV hw (nb rfl)) (pA (h:=λc=>V.str [c]) (g:=λc=>V.str [92,c]) w _ λc hc=>aF az (ak dM) (oH (show 2<=big from nb rfl)))
 ·rw[←SD]
  exact aV (wM (f:=λc=>[92,c]) (λc=>bV 2) w) (aV (iJ 2 hw) (nb rfl))
theorem Zm{l w:List Nat}(h:w≠[]):∃c r,dB l w=c::r:=by
 cases w with
 |nil=>exact absurd rfl h
 |cons a w=>
  unfold dB iw;rw[fm,ki];by_cases ha:a∈l
  ·rw[if_pos ha];exact⟨_,_,rfl⟩
  ·rw[if_neg ha];exact⟨_,_,rfl⟩
theorem b8n{w:List Nat}(hne:w≠[])(hw:w.length<=100)(ha:∀c∈w,c<128)(ok:b9 O=true):cF g0 xo pW (N+20) [.str w,.int (d:Int)] O=some (.str (fS w d),O):=by
 show gW g0 (N+19) xo pW [.str w,.int (d:Int)] O=_;refine fF (xo.zip [V.str w,.int (d:Int)]) λJ bH=>?_;have K:ay J [(82,.str w),(83,.int (d:Int))]:=by rw[bH];exact ay.self
 have hg:(vj.map V.str)[d / 3%4]?=some (.str (e7 d)):=by
  have h:d / 3%4<4:=eF _ (nb rfl);unfold e7;rw[pO,xC,qR (by exact h)];rfl
 have a1:ev g0 (N+18) (.sub (.lst [sX [10],sX [32],sX [9],sX [13,10,32]]) (.bin .Mod (.bin .FloorDiv (.loc 83) i3) i4)) J O=some (.str (e7 d),O):=
  dU (u:=.lst (vj.map .str)) rfl (aF (aF (ak (K 83 _ rfl)) az (r8 d 3 (by decide) (nb rfl))) az (lM (d / 3) 4 (by decide))) (IL hg (nb rfl))
 have K1:=K.put 84 (.str (e7 d));have gl:=PC d;have el:=λl:List Nat=>aV (wM (f:=iw l) (λc=>(Ir l c).2) w) (iJ 2 hw);have sl:=aV (wM (f:=λc=>[92,c]) (λc=>bV 2) w) (iJ 2 hw);have c:∀(k:Nat) (J:aB),J.lookup 83=some (.int (d:Int))->ev g0 (N+18) (.cmp .Eq FT (.cst (.int (k:Nat)))) J O=some (.bool (decide (d%3=k)),O):=λk J h=>br (aF (ak h) az (lM d 3 (by decide))) az yH;have fin:∀{ρ':aB}{v:List Nat},bE (aQ g0 (N+18)) pW J O=some (.ret (.str v),ρ',O)->gW g0 (N+19) xo pW [.str w,.int (d:Int)] O=some (.str v,O):=λ{ρ' v} h=>by
  rw[bH]at h;exact sE (v:=.str v) rfl ok h rfl
 have sq:∀{r:Option (F×aB×Mu)},bE (aQ g0 (N+18)) (pW.drop 1) (put 84 (.str (e7 d)) J) O=r->bE (aQ g0 (N+18)) pW J O=r:=λh=>cJ a1 h;generalize put 84 (V.str (e7 d)) J=aY at *;clear bH;unfold fS;by_cases h0:d%3=0
 ·rw[if_pos h0]
  refine fin (ρ':=aY) (sq (jZ (bv:=true) ((c 0 _ (K1 83 _ rfl)).trans (by rw[decide_eq_true h0])) (fD (aF (aF (aF az (Og (N:=N+6) W3 hw ha (K1 82 _ rfl)) (oH ?_)) az (oH ?_)) (aF (ak (K1 84 _ rfl)) (aF (aF (ak (K1 83 _ rfl)) az (r8 d 12 (by decide) (nb rfl))) az (lM (d / 12) 2 (by decide))) (Wy (EN _) (aV gl (nb rfl)))) (oH ?_)))))
  ·exact cQ (ck (iX (el [34,92]) 1) (nb rfl))
  ·rw[cA];exact cQ (ck (dc (iX (el [34,92]) 1)) (nb rfl))
  ·rw[cA,cA];exact cQ (ck (iY (dc (iX (el [34,92]) 1)) (aV (PI (EN (d / 12))) gl)) (nb rfl))
 ·rw[if_neg h0]
  have s1:∀{r:Option (F×aB×Mu)},bE (aQ g0 (N+18)) (pW.drop 2) aY O=r->bE (aQ g0 (N+18)) (pW.drop 1) aY O=r:=λh=>d7 (bv:=false) ((c 0 _ (K1 83 _ rfl)).trans (by rw[decide_eq_false h0])) rfl h;by_cases h1:d%3=1
  ·rw[if_pos h1]
   refine fin (ρ':=aY) (sq (s1 (jZ (bv:=true) ((c 1 _ (K1 83 _ rfl)).trans (by rw[decide_eq_true h1])) (fD (aF (d7y (N:=N+8) hw ha (K1 82 _ rfl)) (ak (K1 84 _ rfl)) (oH ?_))))));exact cQ (ck (iY sl gl) (nb rfl))
  ·rw[if_neg h1]
   have e2:ev g0 (N+18) (Bl [92,32,10,9]) aY O=some (.str (dB [92,32,10,9] w),O):=Og (N:=N+10) WM hw ha (K1 82 _ rfl);obtain⟨x,r,hx⟩:=Zm (l:=[92,32,10,9]) hne;have EZ:x<1114112:=by
    have hm:x∈dB [92,32,10,9] w:=by rw[hx];exact fW
    unfold dB at hm;obtain⟨p,hp,tN⟩:=gO.mp hm;obtain⟨y,hy,rfl⟩:=ly.mp hp;unfold iw at tN;have:=ha y hy;by_cases hq:y∈[92,32,10,9]
    ·rw[if_pos hq]at tN
     rcases bT.mp tN with rfl|tN
     ·exact nb rfl
     ·rw[bK.mp tN];exact bz this
    ·rw[if_neg hq]at tN
     rw[bK.mp tN];exact bz this
   have hz:(x::r).length<=200:=by rw[←hx];exact el _
   have K2:=K1.put 190 (.str (dB [92,32,10,9] w));have e3:ev g0 (N+15) (.cmp .Eq (.sub (.loc 190) i0) (sX [34])) (put 190 (.str (dB [92,32,10,9] w)) aY) O=some (.bool (decide ([x]=[34])),O):=by
    refine br (u:=.str [x]) (dU (ak (K2 190 _ rfl)) az ?_) az (encStr.Ck (nb rfl) (λc hc=>by rw[bK.mp hc];exact EZ) (λc hc=>by rw[bK.mp hc];exact nb rfl));rw[WA,hx];refine(if_pos (aV hz (nb rfl))).trans ?_;rw[show fz 0 (x::r).length=some 0 from CL (k:=0) (Ai _)];rfl
   have hp:jF w=if decide ([x]=[34])then [92]else []:=by
    unfold jF;rw[hx];show(if some x=some 34 then [92]else [])=_;by_cases h:x=34
    ·rw[h];rfl
    ·rw[if_neg (λq=>h (aD q)),decide_eq_false (λq=>h (fZ q).1)];rfl
   have pl:(jF w).length<=1:=by
    rw[hp];cases decide ([x]=[34])<;>exact nb rfl
   refine fin (ρ':=put 190 (.str (dB [92,32,10,9] w)) aY) (sq (s1 (d7 (bv:=false) ((c 1 _ (K1 83 _ rfl)).trans (by rw[decide_eq_false h1])) rfl (cJ e2 (fD (aF (aF (aF az e3 (w:=.str (jF w)) (by rw[hp];rfl)) (ak (K2 190 _ rfl)) (oH ?_)) (ak (K2 84 _ rfl)) (oH ?_)))))))
   ·exact cQ (ck (iY pl (el _)) (nb rfl))
   ·rw[cA];exact cQ (ck (iY (iY pl (el _)) gl) (nb rfl))
end
def goodW(w:List Nat):Prop:=w≠[]/\∀c∈w,c≠13/\c<128
theorem zQ{p:Nat->Bool}(hp:p 92=false){f:Nat->List Nat}:∀(w t tok:List Nat) (n:Int),(∀c∈w,f c=[92,c]∨f c=[c]/\p c=false/\c≠92)->∃n',dJ p ((w.map f).flatten++t) tok n=dJ p t (tok++w) n':=by
 intro w;induction w with
 |nil=>intro t tok n _;exact⟨n,by rw[gm];rfl⟩
 |cons c w ih=>
  intro t tok n h;rw[fm,ki,f5];rcases h c fW with q|⟨q,h1,h2⟩
  ·obtain⟨n',e⟩:=ih t (tok++[c]) (nl c (nl 92 n)) λe he=>h e (fX _ he)
   refine⟨n',?_⟩;rw[q];refine(wF hp c _ tok n).trans (e.trans ?_);rw[f5];rfl
  ·obtain⟨n',e⟩:=ih t (tok++[c]) (nl c n) λe he=>h e (fX _ he)
   refine⟨n',?_⟩;rw[q];refine(wU h1 h2 _ tok n).trans (e.trans ?_);rw[f5];rfl
theorem Pj{l:List Nat}{p:Nat->Bool}(h:c∉l->p c=false/\c≠92):iw l c=[92,c]∨iw l c=[c]/\p c=false/\c≠92:=by
 unfold iw;by_cases q:c∈l
 ·rw[if_pos q];exact .inl rfl
 ·rw[if_neg q];exact .inr ⟨rfl,h q⟩
theorem IQ(w t tok:List Nat)(n:Int):∃n',dJ vE (dB [34,92] w++t) tok n=dJ vE t (tok++w) n':=
 zQ rfl w t tok n λc hc=>Pj λh=>⟨beq_false_of_ne λq=>h (by rw[q];decide),λq=>h (by rw[q];decide)⟩
theorem Om(h:c∉[92,32,10,9])(V2:c≠13):fC c=false/\c≠92:=by
 have h1:c≠92:=λq=>h (by rw[q];decide);have h2:c≠32:=λq=>h (by rw[q];decide);have h3:c≠10:=λq=>h (by rw[q];decide);have h4:c≠9:=λq=>h (by rw[q];decide);refine⟨?_,h1⟩;unfold fC;rw[beq_false_of_ne h2,beq_false_of_ne h3,beq_false_of_ne h4,beq_false_of_ne V2];rfl
noncomputable def uh(w:List Nat)(d:Nat):List Nat:=if d%3=1 then HU w else jF w++dB [92,32,10,9] w
theorem Jc{w:List Nat}(hw:goodW w)(d:Nat)(t:List Nat)(n:Int):∃n',dK (uh w d++t) n=nq (dJ fC t w n'):=by
 obtain⟨hne,hg⟩:=hw;cases w with
 |nil=>exact absurd rfl hne
 |cons c w=>
  unfold uh;by_cases h1:d%3=1
  ·rw[if_pos h1]
   obtain⟨n',e⟩:=zQ (p:=fC) rfl (f:=λc=>[92,c]) (c::w) t [] n λc zz=>.inl rfl;exact⟨n',(uE (c:=92) rfl (by decide) _ _).trans (congrArg nq e)⟩
  ·rw[if_neg h1]
   have hr:∀x∈c::w,iw [92,32,10,9] x=[92,x]∨iw [92,32,10,9] x=[x]/\fC x=false/\x≠92:=λx hx=>Pj λh=>Om h (hg x hx).1;by_cases hc:c∈[92,32,10,9]
   ·have e0:dB [92,32,10,9] (c::w)=92::c::dB [92,32,10,9] w:=by
     unfold dB iw;rw[fm,ki,if_pos hc];rfl
    have hp:jF (c::w)=[]:=by unfold jF;rw[e0];rfl
    obtain⟨n',e⟩:=zQ (p:=fC) rfl (c::w) t [] n hr;rw[hp,JN];refine⟨n',?_⟩;have e1:dB [92,32,10,9] (c::w)++t=92::(c::dB [92,32,10,9] w++t):=by rw[e0];rfl
    rw[e1];refine(uE (c:=92) rfl (by decide) _ _).trans (congrArg nq ?_);rw[←e1];exact e
   ·have e0:dB [92,32,10,9] (c::w)=c::dB [92,32,10,9] w:=by
     unfold dB iw;rw[fm,ki,if_neg hc];rfl
    have hq:=Om hc (hg c fW).1;by_cases jU:c=34
    ·have hp:jF (c::w)=[92]:=by unfold jF;rw[e0,jU];rfl
     obtain⟨n',e⟩:=zQ (p:=fC) rfl (f:=iw [92,32,10,9]) w t [c] (nl c (nl 92 n)) λx hx=>hr x (fX _ hx);refine⟨n',?_⟩;rw[hp,e0];refine(uE (c:=92) rfl (by decide) _ _).trans (congrArg nq ((wF rfl c _ [] n).trans ?_));exact e
    ·have hp:jF (c::w)=[]:=by
      unfold jF;rw[e0];exact if_neg λq=>jU (aD q)
     obtain⟨n',e⟩:=zQ (p:=fC) rfl (c::w) t [] n hr;refine⟨n',?_⟩;rw[hp,JN];have e1:dB [92,32,10,9] (c::w)++t=c::(dB [92,32,10,9] w++t):=by rw[e0];rfl
     rw[e1];refine(uE hq.1 jU _ _).trans (congrArg nq ?_);rw[←e1];exact e
def mu(p:List Nat):Prop:=∀c∈p,fC c=true
theorem qw:mu []:=λc hc=>nomatch hc
theorem Wg:mu [10]:=λc hc=>by simp at hc;subst hc;rfl
theorem Wb:mu [10,32]:=λc hc=>by simp at hc;rcases hc with rfl|rfl<;>rfl
theorem Wq:mu [13,10]:=λc hc=>by simp at hc;rcases hc with rfl|rfl<;>rfl
theorem Rz:∀(p t:List Nat) (n:Int),mu p->∃n',dK (p++t) n=dK t n':=by
 intro z_;induction z_ with
 |nil=>
  intro t n _;exact⟨n,rfl⟩
 |cons c p ih=>
  intro t n h;obtain⟨n',e⟩:=ih t (nl c n) λd hd=>h d (by simp[hd]);exact⟨n',by rw[JU,Dl (h c (by simp)),e]⟩
theorem z0(d:Nat):e7 d=[10]∨e7 d=[32]∨e7 d=[9]∨e7 d=[13,10,32]:=by
 unfold e7 vj;have h:d / 3%4<4:=eF _ (nb rfl);exact(by decide:∀k,k<4->([[10],[32],[9],[13,10,32]]:List (List Nat)).getD k []=[10]∨([[10],[32],[9],[13,10,32]]:List (List Nat)).getD k []=[32]∨([[10],[32],[9],[13,10,32]]:List (List Nat)).getD k []=[9]∨([[10],[32],[9],[13,10,32]]:List (List Nat)).getD k []=[13,10,32]) _ h
theorem IY(d:Nat)(l:List Nat):(eH (d / 12%2) l).flatten=[]∨(eH (d / 12%2) l).flatten=l:=by
 have:=R9 (d / 12);rcases this with q|q<;>rw[q]<;>simp
theorem IU{w:List Nat}(h:d%3=0):fS w d=[34]++dB [34,92] w++[34]++(eH (d / 12%2) (e7 d)).flatten:=if_pos h
theorem IV{w:List Nat}(h:d%3≠0):fS w d=uh w d++e7 d:=by
 unfold fS uh;rw[if_neg h];by_cases h1:d%3=1
 ·rw[if_pos h1,if_pos h1]
 ·rw[if_neg h1,if_neg h1]
theorem b7c{w:List Nat}(h:goodW w)(d:Nat)(t:List Nat):∃p,mu p/\∀n,∃n',dK (fS w d++t) n=(w,p++t,n'):=by
 by_cases hq:d%3=0
 ·obtain⟨p,hp,e⟩:∃p,mu p/\(eH (d / 12%2) (e7 d)).flatten=p:=by
   refine⟨_,?_,rfl⟩;rcases IY d (e7 d)with q|q
   ·rw[q];intro c hc;cases hc
   ·rw[q]
    rcases z0 d with g|g|g|g<;>rw[g]<;>(intro c hc;simp at hc;rcases hc with rfl|rfl|rfl<;>rfl)
  refine⟨p,hp,λn=>?_⟩;obtain⟨n',e2⟩:=IQ w (34::(p++t)) [] (nl 34 n);refine⟨nl 34 n',?_⟩;rw[IU hq,e];have:([34]++dB [34,92] w++[34]++p++t)=34::(dB [34,92] w++(34::(p++t))):=by simp
  rw[this,wG,e2,sy (by rfl)];rfl
 ·obtain⟨g0,g1,e,Vi,Vh⟩:∃g0 g1,e7 d=g0::g1/\fC g0=true/\mu g1:=by
   rcases z0 d with g|g|g|g
   ·exact⟨10,[],g,rfl,qw⟩
   ·exact⟨32,[],g,rfl,qw⟩
   ·exact⟨9,[],g,rfl,qw⟩
   ·exact⟨13,[10,32],g,rfl,Wb⟩
  refine⟨g1,Vh,λn=>?_⟩;obtain⟨n',e2⟩:=Jc h d (g0::(g1++t)) n;refine⟨nl g0 n',?_⟩;rw[IV hq,e,f5,JU,e2,sy Vi];rfl
theorem d6m{w:List Nat}(h:goodW w)(d:Nat):∃p,mu p/\∀n,∃n',dK (fS w d).dropLast n=(w,p,n'):=by
 by_cases hq:d%3=0
 ·rw[IU hq]
  rcases IY d (e7 d)with q|q
  ·refine⟨[],qw,λn=>?_⟩
   obtain⟨n',e2⟩:=IQ w [] [] (nl 34 n);rw[gm]at e2;refine⟨n',?_⟩;rw[q,gm,sU];show dK (34::dB [34,92] w) n=_;rw[wG,e2];rfl
  ·rw[q]
   obtain⟨p,hp,e⟩:∃p,mu p/\([34]++dB [34,92] w++[34]++e7 d).dropLast=34::(dB [34,92] w++(34::p)):=by
    rcases z0 d with g|g|g|g
    ·exact⟨[],qw,by rw[g,sU];simp⟩
    ·exact⟨[],qw,by rw[g,sU];simp⟩
    ·exact⟨[],qw,by rw[g,sU];simp⟩
    ·refine⟨[13,10],Wq,?_⟩
     rw[g,show([34]++dB [34,92] w++[34]++[13,10,32])=([34]++dB [34,92] w++[34]++[13,10])++[32]from by simp,sU];simp
   refine⟨p,hp,λn=>?_⟩;obtain⟨n',e2⟩:=IQ w (34::p) [] (nl 34 n);refine⟨nl 34 n',?_⟩;rw[e,wG,e2,sy (by rfl)];rfl
 ·rw[IV hq]
  have one:∀x:Nat,e7 d=[x]->∃p,mu p/\∀n,∃n',dK (uh w d++e7 d).dropLast n=(w,p,n'):=λx g=>by
   refine⟨[],qw,λn=>?_⟩;obtain⟨n',e2⟩:=Jc h d [] n;rw[gm]at e2;refine⟨n',?_⟩;rw[g,sU,e2];rfl
  rcases z0 d with g|g|g|g
  ·exact one 10 g
  ·exact one 32 g
  ·exact one 9 g
  ·refine⟨[10],Wg,λn=>?_⟩
   obtain⟨n',e2⟩:=Jc h d [13,10] n;refine⟨nl 13 n',?_⟩;rw[g,show(uh w d++[13,10,32])=(uh w d++[13,10])++[32]from by simp,sU,e2,sy (by rfl)];rfl
noncomputable def iG:List (List Nat×Nat)->List Nat
 |[]=>[]
 |[x]=>(fS x.1 x.2).dropLast
 |x::y::r=>fS x.1 x.2++iG (y::r)
theorem c6h(w:List Nat)(d:Nat):fS w d≠[]:=by
 by_cases h:d%3=0
 ·rw[IU h];simp
 ·rw[IV h]
  rcases z0 d with g|g|g|g<;>rw[g]<;>simp
theorem Q3:∀l:List (List Nat×Nat),iG l=(l.map λx=>fS x.1 x.2).flatten.dropLast:=by
 intro z_;induction z_ with
 |nil=>
  exact rfl
 |cons x z_ ih=>induction z_ using aN with
  |nil=>
   exact(congrArg List.dropLast (gm (fS x.1 x.2))).symm
  |cons y r=>
   have ih:=ih;have hne:((y::r).map λx=>fS x.1 x.2).flatten≠[]:=by
    rw[fm,ki];intro q;exact c6h y.1 y.2 (Ax.mp q).1
   show fS x.1 x.2++iG (y::r)=_;rw[ih,fm (l:=y::r),ki,List.dropLast_append_of_ne_nil hne]
def b2i(l:List (List Nat×Nat))(t:List Nat):Prop:=∃p,mu p/\t=p++iG l
theorem c8e{w:List Nat}{r:List (List Nat×Nat)}(h:goodW w)(R:b2i ((w,d)::r) t)(n:Int):(dK t n).1=w/\b2i r (dK t n).2.1:=by
 obtain⟨p,hp,rfl⟩:=R;obtain⟨n',e⟩:=Rz p (iG ((w,d)::r)) n hp;rw[e];induction r using aN with
 |nil=>
  obtain⟨p',i8,hr⟩:=d6m h d;obtain⟨Ua,e2⟩:=hr n';rw[show iG [(w,d)]=(fS w d).dropLast from rfl,e2];exact⟨rfl,p',i8,(gm p').symm⟩
 |cons y r=>
  obtain⟨p',i8,hr⟩:=b7c h d (iG (y::r));obtain⟨Ua,e2⟩:=hr n';rw[show iG ((w,d)::y::r)=fS w d++iG (y::r)from rfl,e2];exact⟨rfl,p',i8,rfl⟩
theorem d5o(R:b2i [] t)(n:Int):(dK t n).1=[]/\(dK t n).2.1=[]:=by
 obtain⟨p,hp,rfl⟩:=R;obtain⟨n',e⟩:=Rz p (iG []) n hp;rw[e];exact⟨rfl,rfl⟩
noncomputable def c9(t:List Nat):Int:=(t.count 10:Nat)
theorem uF(c:Nat)(t:List Nat)(n:Int):nl c n+c9 t=n+c9 (c::t):=by
 unfold nl c9;by_cases h:c=10
 ·subst h;simp;rw[SY,xH 1]
 ·simp[h]
theorem Q6{p:Nat->Bool}(hp:p 92=false)(t tok:List Nat)(n:Int):(dJ p t tok n).2.2.1+c9 (dJ p t tok n).2.1=n+c9 t:=by
 refine C4 hp (P:=λt tok n=>(dJ p t tok n).2.2.1+c9 (dJ p t tok n).2.1=n+c9 t) (λzz zz=>rfl) ?_ ?_ ?_ ?_ t.length t tok n (bV _)<;>clear t tok n
 ·intro c t tok n hc;rw[sy hc];exact uF c t n
 ·intro tok n;rw[Dh hp];exact uF 92 [] n
 ·intro d t tok n ih;rw[wF hp,ih,uF,uF]
 ·intro c t tok n hc ir ih;rw[wU hc ir,ih,uF]
theorem RB:∀(t:List Nat) (n:Int),(dK t n).2.2+c9 (dK t n).2.1=n+c9 t:=by
 intro z_;induction z_ with
 |nil=>
  intro n;exact rfl
 |cons c t ih=>
  intro n;induction hw:fC c using eo with
  |true=>rw[Dl hw,ih,uF]
  |false=>
   by_cases jU:c=34
   ·subst jU;rw[wG];exact(Q6 rfl t [] (nl 34 n)).trans (uF 34 t n)
   ·rw[uE hw jU];exact Q6 rfl _ _ _
section
variable {n:Int}{R:List (List V)}
theorem c5i:∀(l:List (List Nat×Nat)) (t:List Nat) (n:Int),(∀p∈l,goodW p.1)->b2i l t->t.length<big->1<=n->(∀c∈t,c<1114112) →
  ∃t' n',b2i [] t'/\t'.length<big/\1<=n'/\(∀c∈t',c<1114112)/\n'+c9 t'=n+c9 t/\∀R:List (List V),(∀l∈R,cY l=true)->qj (aU t n [] R) (l.map (·.1)) (aU t' n' [] R):=by
 intro l;induction l with
 |nil=>exact λt n zz hr hb hn hc=>⟨t,n,hr,hb,hn,hc,rfl,λR zz=>.nil _⟩
 |cons z l ih=>
  obtain⟨w,d⟩:=z;intro t n hg hr hb hn hc;obtain⟨h1,h2⟩:=c8e (hg (w,d) (.head _)) hr n;have hs:=b5e t n;have hl:=RB t n;have hle:=hs.length_le;have hc2:∀c∈(dK t n).2.1,c<1114112:=λc h=>hc c (hs.subset h);have hn2:1<=(dK t n).2.2:=Int.le_of_add_le_add_right (hl▸Int.add_le_add hn (xF.mpr (hs.sublist.count_le _)));obtain⟨t',n',a1,a2,a3,a4,a5,a6⟩:=ih (dK t n).2.1 (dK t n).2.2 (λp hp=>hg p (.tail _ hp)) h2 (ck hle hb) hn2 hc2;refine⟨t',n',a1,a2,a3,a4,a5.trans hl,λR hR=>?_⟩;have s:=Qx hR hb hn hc (R:=R);rw[h1]at s;exact .cons s (a6 R hR)
end
noncomputable def uy(zs:List Int):List Nat:=(zs.take 60).map λz=>(z.fmod 1000000).toNat
noncomputable def PL(k n:Nat):List Nat:=sliceRange (gu (some (k:Int)) .none (some 4) n).1 (gu (some (k:Int)) .none (some 4) n).2.1 (gu (some (k:Int)) .none (some 4) n).2.2
noncomputable def zy(ns:List Nat)(k:Nat):List Nat:=(PL k ns.length).filterMap (ns[·]?)
noncomputable def kW(ns:List Nat)(k b:Nat):Nat:=b+(zy ns k).sum
noncomputable def vN(cs:List Nat):V:=.lst (cs.map λc=>V.int (c:Nat))
section
variable {zs:List Int}{ns:List Nat}{M:Nat}
theorem c4m(h:zs.length<=63):(uy zs).length<=60:=by
 unfold uy;rw[aW];exact g5i _ _
theorem e3x(hz:zs.length<=63)(h:J.lookup 119=some (.lst (zs.map .int))):ev Z (N+20) G2 J O=some (vN (uy zs),O):=by
 have h1:ev Z (N+19) (.slc (.loc 119) .none (some (.cst (.int 60))) .none) J O=some (.lst ((zs.map .int).take 60),O):=QE (ak h) az (Rb (l:=zs.map .int) 60 (by rw[aW];exact aV hz (nb rfl)));rw[←JO]at h1;have e:(uy zs).map (λc=>V.int (c:Nat))=(zs.take 60).map λz=>V.int (z.fmod 1000000):=by
  unfold uy;rw[gk];refine Sz λz zz=>?_;show V.int ((z.fmod 1000000).toNat:Int)=_;rw[g5z (Int.fmod_nonneg_of_pos z (by decide))]
 unfold vN;rw[e];refine jL (vs:=(zs.take 60).map .int) ?_ (by rw[aW];exact aV (g5i _ _) (nb rfl)) ?_
 ·exact jd rfl h1 rfl
 ·exact pA (h:=V.int) (g:=λz=>V.int (z.fmod 1000000)) (zs.take 60) _ λz zz=>aF (ak dM) (aF az az rfl) rfl
theorem d9c{k:Int}(hz:l.length<=big):slice (.lst l) (some k) .none (some 4)=some (.lst ((sliceRange (gu (some k) .none (some 4) l.length).1 (gu (some k) .none (some 4) l.length).2.1 (gu (some k) .none (some 4) l.length).2.2).filterMap (l[·]?))):=by
 unfold slice;exact(if_neg (by decide)).trans (if_pos hz)
theorem d3u{a x y:X}{k s:Int}(h:ev Z n a J O=some (.lst l,O))(hc:ev Z n x J O=some (.int k,O))(hy:ev Z n y J O=some (.int s,O))(hs:slice (.lst l) (some k) .none (some s)=some v):ev Z (n+1) (.slc a (some x) .none (some y)) J O=some (v,O):=
 uq h (qt hc) rfl (qt hy) rfl rfl rfl hs
theorem OT(l:List Nat):j5 (l.map λc=>V.int (c:Nat))=some (l.map λ(c:Nat)=>(c:Int))/\(l.map λ(c:Nat)=>(c:Int)).sum=((l.sum:Nat):Int):=by
 constructor
 ·have:=Rg (l.map λ(c:Nat)=>(c:Int))
  rw[gk]at this;exact this
 ·induction l with
  |nil=>rfl
  |cons a l ih=>rw[fm,g4y,ih];rfl
theorem e5z(hz:ns.length<=60)(hc:∀(n:Nat) (args:List V) (O:Mu),Z.call n 1 args O=yF args O)(h:J.lookup 120=some (vN ns)):ev Z (N+20) GV J O=some (vN [kW ns 0 4,kW ns 1 1234,kW ns 2 40,kW ns 3 1862],O):=by
 have one:∀(k b:Nat) (J:aB),J.lookup 120=some (vN ns)->ev Z (N+19) (.bin .Add (.loc 123) (.call 1 [(.slc (.loc 120) (some (.loc 111)) .none (some (.cst (.int 4))))])) (put 123 (.int b) (put 111 (.int k) J)) O=some (.int (kW ns k b:Nat),O):=λk b J h=>by
  have e1:ev Z (N+17) (.slc (.loc 120) (some (.loc 111)) .none (some (.cst (.int 4)))) (put 123 (.int b) (put 111 (.int k) J)) O=some (vN (zy ns k),O):=by
   refine d3u (l:=ns.map λc=>V.int (c:Nat)) (ak (gh (gh h (by decide)) (by decide))) (ak (gh dM (by decide))) az ((d9c (by rw[aW];exact aV hz (nb rfl))).trans ?_);rw[aW];unfold vN zy;rw[List.map_filterMap];refine congrArg (λf=>some (V.lst ((PL k ns.length).filterMap f))) (funext λi=>?_);rw[pO]
  refine aF (ak dM) (v:=.int ((zy ns k).sum:Nat)) ((cL (bf e1)).trans ((hc _ _ _).trans ?_)) rfl;show(j5 ((zy ns k).map λc=>V.int (c:Nat))).map _=_;rw[(OT _).1,←(OT _).2];rfl
 refine jL (vs:=[.tup [.int 0,.int 4],.tup [.int 1,.int 1234],.tup [.int 2,.int 40],.tup [.int 3,.int 1862]]) ?_ (show 4<=big from nb rfl) ?_
 ·have e1:ev Z (N+19) (.lst [i4,(.cst (.int 1234)),(.cst (.int 40)),(.cst (.int 1862))]) J O=some (.lst [.int 4,.int 1234,.int 40,.int 1862],O):=lN (aX az (aX az (aX az (bf az)))) (show 4<=big from nb rfl)
  rw[Bu,e1];rfl
 ·exact QW (i:=111) (j:=123) (h1:=λp:Nat×Nat=>V.int p.1) (h2:=λp:Nat×Nat=>V.int p.2) (g:=λp=>V.int (kW ns p.1 p.2:Nat)) (by decide) [(0,4),(1,1234),(2,40),(3,1862)] _ λp zz=>one p.1 p.2 _ ((w9 (own:=[42,111,123]) (i:=120) rfl J).trans h)
end
noncomputable def jq(ws:List (List Nat))(dr:Nat):List (List Nat×Nat):=ws.zipIdx.map λp=>(p.1,dr / (p.2+1))
theorem Il(ws:List (List Nat))(dr:Nat):(jq ws dr).map (·.1)=ws:=by
 unfold jq;rw[gk];exact List.zipIdx_map_fst 0 ws
theorem e3k(ws:List (List Nat))(dr:Nat):(jq ws dr).length=ws.length:=by unfold jq;rw[aW,JQ]
theorem c0d{w:List Nat}(d:Nat)(h:w.length<=3):(fS w d).length<=20:=by
 have hg:=PC d;have h2:=PI (x:=e7 d) (EN (d / 12));have h3:=λl:List Nat=>aV (wM (f:=iw l) (λc=>(Ir l c).2) w) (iJ 2 h);have h5:(jF w).length<=1:=by
  unfold jF;by_cases q:(dB [92,32,10,9] w).head?=some 34
  ·rw[if_pos q];exact bV 1
  ·rw[if_neg q];exact iV 1
 unfold fS;by_cases h0:d%3=0
 ·rw[if_pos h0];rw[cA,cA,cA];exact aV (iY (dc (iX (h3 [34,92]) 1)) (aV h2 hg)) (nb rfl)
 ·rw[if_neg h0]
  by_cases h1:d%3=1
  ·rw[if_pos h1];rw[cA];exact aV (iY (aV (wM (f:=λc=>[92,c]) (λc=>bV 2) w) (iJ 2 h)) hg) (nb rfl)
  ·rw[if_neg h1];rw[cA,cA];exact aV (iY (iY h5 (h3 _)) hg) (nb rfl)
theorem ZO(l:List (List Nat))(hl:∀w∈l,w.length<=k):(l.map (·.length)).sum<=k*l.length:=by
 induction l with
 |nil=>exact bV _
 |cons a l ih=>
  rw[fm,g4y,lT,JA,kg];exact iY (ih λw hw=>hl w (fX _ hw)) (hl a fW)
theorem w4{a b:List Nat}(ha:iy a)(hb:iy b):iy (a++b):=λc hc=>(ic.mp hc).elim (ha c) (hb c)
theorem Q4{f:Nat->List Nat}{w:List Nat}(h:∀c∈w,iy (f c)):iy (w.map f).flatten:=λc hc=>by
 obtain⟨m,hm,hc⟩:=gO.mp hc;obtain⟨x,hx,rfl⟩:=ly.mp hm;exact h x hx c hc
theorem QM(h:c<1114112):iy [92,c]:=λx hx=>by
 rcases bT.mp hx with rfl|hx
 ·exact nb rfl
 ·rw[bK.mp hx];exact h
theorem Dn(h:c<1114112):iy [c]:=λx hx=>by rw[bK.mp hx];exact h
theorem c6j{w:List Nat}(h:iy w)(d:Nat):iy (fS w d):=by
 have hg:iy (e7 d):=(by decide:∀i<4,∀c∈vj.getD i [],c<1114112) _ (eF _ (nb rfl));have he:∀l,iy (dB l w):=λl=>Q4 λc hc=>by
  unfold iw;by_cases q:c∈l
  ·rw[if_pos q];exact QM (h c hc)
  ·rw[if_neg q];exact Dn (h c hc)
 have hp:iy (jF w):=by
  unfold jF;by_cases q:(dB [92,32,10,9] w).head?=some 34
  ·rw[if_pos q];exact Dn (nb rfl)
  ·rw[if_neg q];exact λc hc=>nomatch hc
 unfold fS;by_cases h0:d%3=0
 ·rw[if_pos h0]
  refine w4 (w4 (w4 (Dn (nb rfl)) (he _)) (Dn (nb rfl))) ?_;rcases IY d (e7 d)with q|q
  ·rw[q];exact λc hc=>nomatch hc
  ·rw[q];exact hg
 ·rw[if_neg h0]
  by_cases h1:d%3=1
  ·rw[if_pos h1];exact w4 (Q4 λc hc=>QM (h c hc)) hg
  ·rw[if_neg h1];exact w4 (w4 hp (he _)) hg
theorem goodW.ok{w:List Nat}(h:goodW w):iy w:=λc hc=>fj (h.2 c hc).2 (nb rfl)
theorem O2{l:List (List Nat×Nat)}(h:∀p∈l,goodW p.1):iy (iG l):=by
 intro c hc;rw[Q3]at hc;obtain⟨w,hw,hcw⟩:=gO.mp (List.dropLast_subset _ hc);obtain⟨p,hp,rfl⟩:=ly.mp hw;exact c6j (h p hp).ok p.2 c hcw
section
variable {dr:Nat}
theorem e2f{ws:List (List Nat)}(h:∀w∈ws,w.length<=3)(hg:∀w∈ws,goodW w)(h5:ws.length<20)(h1:J.lookup 122=some (.int (dr:Int)))(h2:J.lookup 125=some (vS ws))(ok:b9 O=true) :
  ev gF (N+42) GD J O=some (.str (iG (jq ws dr)),O)/\(iG (jq ws dr)).length<=400:=by
 have hlen:(((jq ws dr).map λx=>fS x.1 x.2).map (·.length)).sum<=400:=by
  refine aV (ZO (k:=20) _ λw hw=>?_) ?_
  ·obtain⟨p,hp,rfl⟩:=ly.mp hw
   refine c0d p.2 (h p.1 ?_);rw[←Il ws dr];exact Su hp
  ·rw[aW,e3k]
   exact iJ 20 (cy h5)
 have e1:ev gF (N+40) (.comp (.call 81 [(.loc 82),(.bin .FloorDiv (.loc 122) nc)]) (.many [111,82]) (.enum (.loc 125)) [] [42,111,82]) J O=some (vS ((jq ws dr).map λx=>fS x.1 x.2),O):=by
  have e:vS ((jq ws dr).map λx=>fS x.1 x.2)=.lst (ws.zipIdx.map λp=>V.str (fS p.1 (dr / (p.2+1)))):=by
   unfold jq vS;rw[gk,gk];rfl
  rw[e];have e2:((ws.map V.str).zipIdx.map λp=>V.tup [.int (p.2:Nat),p.1])=ws.zipIdx.map λp=>V.tup [.int (p.2:Nat),.str p.1]:=by
   rw[Sl,gk];rfl
  refine jL (vs:=ws.zipIdx.map λp=>V.tup [.int (p.2:Nat),.str p.1]) ?_ (by rw[aW,JQ];exact aV (cy h5) (nb rfl)) ?_
  ·rw[Bu,ak h2]
   exact congrArg (λl=>some (l,O)) e2
  ·refine QW (i:=111) (j:=82) (h1:=λp:List Nat×Nat=>V.int (p.2:Nat)) (h2:=λp:List Nat×Nat=>V.str p.1) (by decide) ws.zipIdx _ λp hp=>?_
   have hw:p.1∈ws:=g5o hp;have hlt:p.2<ws.length:=fk (g5a hp) (gY (Sk _));refine(cL (vs:=[.str p.1,.int ((dr / (p.2+1):Nat):Int)]) (aA:=O) (aX (ak dM) (bf (aF (u:=.int (dr:Int)) (v:=.int ((p.2+1:Nat):Int)) (ak (gh (gh ((w9 (own:=[42,111,82]) rfl J).trans h1) (by decide)) (by decide))) (BX (gh dM (by decide))) (r8 dr (p.2+1) (uJ _) (by exact bz (ck hlt h5))))))).trans ?_;exact b8n (N:=N+18) (hg p.1 hw).1 (aV (h p.1 hw) (nb rfl)) (λc hc=>((hg p.1 hw).2 c hc).2) ok
 rw[Q3];generalize ((jq ws dr).map λx=>fS x.1 x.2)=l at hlen e1 ⊢;have hfl:l.flatten.length<=400:=by rw[SD];exact hlen
 refine⟨Rh (s:=l.flatten) ((nI az rfl (bf e1)).trans ?_) nC (QS (aV hfl (nb rfl))),?_⟩
 ·show(match (generalizing:=false) r4 (l.map .str)with|some ts=>if(ts.map uO).sum+ts.length*0<=big then some (V.str (qm [] ts),O)else .none|.none=>.none)=_
  rw[Q7];refine(if_pos (aV hlen (nb rfl))).trans ?_;rw[Q2]
 ·rw[g5l];exact aV (lS _ _) hfl
end
theorem c4i{ws:List (List Nat)}{dr:Nat}(hg:∀w∈ws,goodW w)(hz:(iG (jq ws dr)).length<=400):∃t ln,1<=ln/\(∀R:List (List V),AllP R->qj (aU (iG (jq ws dr)) 1 [] R) ws (aU t ln [] R))/\Tok (aU t ln [] []) 5 [] (aU [] (1+c9 (iG (jq ws dr))) [] []):=by
 have hf:=Il ws dr;generalize jq ws dr=l at hf hz ⊢;have hg:∀q∈l,goodW q.1:=λq hq=>hg q.1 (hf▸Su hq);obtain⟨t,ln,a1,a2,a3,a4,a5,a6⟩:=c5i l (iG l) 1 hg ⟨[],qw,rfl⟩ (ck hz (nb rfl)) (by decide) (O2 hg);have s:=Qx (R:=[]) (λzz h=>nomatch h) a2 a3 a4;have ll:=RB t ln;obtain⟨e1,e2⟩:=d5o a1 ln;rw[e2]at ll;rw[e1,e2,show(dK t ln).2.2=1+c9 (iG l)from(Int.add_zero _).symm.trans (ll.trans a5)]at s;rw[hf]at a6;exact⟨t,ln,a3,a6,s⟩
structure pC(w:Wd):Prop where
 kw:KW w.1 w.2
 good:goodW w.1
 len:w.1.length<=3
noncomputable def B6(w:List Nat):Bool:=!w.isEmpty&&(w.all λc=>c != 13&&decide (c<128))&&decide (w.length<=3)
theorem P0{w:List Nat}(h:B6 w=true):goodW w/\w.length<=3:=by
 unfold B6 at h;refine⟨⟨λq=>?_,λc hc=>?_⟩,of_decide_eq_true (aR h)⟩
 ·rw[q]at h;exact nt (aP (aP h))
 ·have:=cN.mp (aR (aP h)) c hc
  exact⟨bne_iff_ne.mp (aP this),of_decide_eq_true (aR this)⟩
theorem e4s:((dw 48).all λc=>B6 (sW c))=true:=by decide +kernel
noncomputable def lw(g i:Nat):List Nat:=if g%2=0 then [u7.getD i 0,97+g]else [97+g,u7.getD i 0]
theorem c8d:((dw 8).all λg=>(dw 8).all λi=>B6 (lw g i)&&(toks.lookup (lw g i)==.none))=true:=by decide +kernel
theorem e3a{s:Nat}(hs:s<2):pC (sW (l0 mk k s),s):=by
 have hx:=eF (mk / (k+1)) (show 0<24 from nb rfl);have hc:l0 mk k s<48:=AM hx hs;have:=P0 (cN.mp e4s _ (pM.mpr hc));exact⟨KW.sign hs hx,this.1,this.2⟩
theorem e3g{g:Nat}(hg:g<8):pC (vK mk g,2):=by
 have hx:=eF (mk / (g+3)) (show 0<8 from nb rfl);have h:=cN.mp (cN.mp c8d g (pM.mpr hg)) _ (pM.mpr hx);have e:lw g (mk / (g+3)%8)=vK mk g:=rfl;rw[e]at h;have:=P0 (aP h);exact⟨KW.leaf (eq_of_beq (aR h)) this.1.1 (aV this.2 (nb rfl)),this.1,this.2⟩
theorem Zr(mk:Nat):∀(ss:List Nat) (ws:List Wd),(∀s∈ss,s<2)->(∀w∈ws,pC w)->∀w∈jW mk ss ws,pC w:=by
 intro ss;induction ss with
 |nil=>exact λws zz h=>h
 |cons s ss ih=>
  intro ws hs h;refine ih (ws++[(sW (l0 mk ws.length s),s)]) (λs h=>hs s (fX _ h)) λw hw=>?_;rcases ic.mp hw with q|q
  ·exact h w q
  ·rw[bK.mp q];exact e3a (hs s fW)
theorem d1x(mk:Nat):∀(ss:List Nat) (ws:List Wd),(jW mk ss ws).map (·.2)=ws.map (·.2)++ss:=by
 intro ss;induction ss with
 |nil=>exact λws=>(gm _).symm
 |cons s ss ih=>
  intro ws;show(jW mk ss (ws++[(sW (l0 mk ws.length s),s)])).map (·.2)=_;rw[ih,ie,f5];rfl
theorem b9a(mk size g:Nat)(ws:List Wd):(oY mk size g ws).map (·.2)=ws.map (·.2)++if g<size then [2]else []:=by
 unfold oY;by_cases h:g<size
 ·rw[if_pos h,if_pos h,ie];rfl
 ·rw[if_neg h,if_neg h,gm]
theorem b9s(mk size:Nat)(nodes:List Nd):∀(j g:Nat) (ws:List Wd),(uw mk size nodes j g ws).map (·.2)=ws.map (·.2)++(sQ g j).flatMap λg=>iz nodes g++if g<size then [2]else []:=by
 intro j;induction j with
 |zero=>exact λg ws=>(gm _).symm
 |succ j ih=>
  intro g ws;show(uw mk size nodes j (g+1) _).map (·.2)=_;rw[ih,b9a,d1x,List.range'_succ,JT,f5,f5,f5]
theorem RG(mk size:Nat)(nodes:List Nd):(qq mk size nodes).map (·.2)=qy size nodes:=by
 unfold qq qy;rw[b9s,g5b];rfl
theorem d8s(hs:size<9):∀(j g:Nat) (ws:List Wd),(∀w∈ws,pC w)->∀w∈uw mk size nodes j g ws,pC w:=by
 intro j;induction j with
 |zero=>exact λg ws h=>h
 |succ j ih=>
  intro g ws h;refine ih (g+1) _ ?_;have h1:=Zr mk (iz nodes g) ws (QJ nodes g) h;intro w hw;unfold oY at hw;by_cases c:g<size
  ·rw[if_pos c]at hw
   rcases ic.mp hw with q|q
   ·exact h1 w q
   ·rw[bK.mp q];exact e3g (fk c (lq hs))
  ·rw[if_neg c]at hw;exact h1 w hw
theorem QN(hs:size<9):∀w∈qq mk size nodes,pC w:=d8s hs _ _ _ λzz h=>nomatch h
noncomputable def qf:Nat->Nat
 |0=>1
 |n+1=>(n+1)*qf n
theorem c9h:∀(c d:Nat) (row:List (Nat×Nat)),rV c row d=rV c row (d%qf c):=by
 intro c;induction c with
 |zero=>exact λd row=>rfl
 |succ c ih=>
  intro d row;have h1:d%qf (c+1)%(c+1)=d%(c+1):=Nat.mod_mod_of_dvd d (Nat.dvd_mul_right _ _);have h2:d%qf (c+1) / (c+1)=d / (c+1)%qf c:=Nat.mod_mul_right_div_self d (c+1) (qf c);show _::rV c (oV row (d%(c+1))) (d / (c+1))=_::rV c (oV row (d%qf (c+1)%(c+1))) (d%qf (c+1) / (c+1));rw[h1,h2,←ih]
theorem d1o(size d:Nat):mj size d=mj size (d%qf (size-1)):=c9h _ _ _
noncomputable def yb(p:Nd):List Int:=[(p.1:Int),(p.2.1:Int),(p.2.2:Int)]
noncomputable def ql(l:List Nd):Option (List Nd):=if 2<=l.length/\l.length<64 then(rH (rE (l.map yb)) (kas_sort l.length)).bind λp=>qi l p.toList else none
noncomputable def oE(e:Er):List Int:=(e.cuts.map λc=>(c.2.1:Int))++[(e.hand.1:Int),(e.word.1:Int)]
noncomputable def Yd(size:Nat)(ring:List Nat):Bool:=decide (ring.length=size+1)&&ring.all λc=>decide (c<=100)
noncomputable def O1(size:Nat)(nodes:List Nd)(ring:List Nat)(e:Er):Bool:=match CI e.cuts e.hand.1 e.word.1,B8 (size+1) nodes with
 |some cC,some prs=>(dw (size+1)).all λi=>vq ring prs e.cuts cC i (nA (size+1) i) 0 1
 |_,_=>false
noncomputable def MY(size:Nat)(nodes:List Nd)(ring:List Nat):Bool:=match yW ring with
 |some e=>decide (e.cuts.length<8)&&(decide (e.hand.1≠e.word.1)&&(decide (nB (oE e)=(dw (size+1)).map λ(k:Nat)=>(k:Int))&&O1 size nodes ring e))
 |none=>false
noncomputable def Nk(found nodes:List Nd):Bool:=match ql found,ql nodes with
 |some a,some b=>decide (a=b)
 |_,_=>false
noncomputable def vQ(size:Nat)(nodes:List Nd):Bool:=decide ((qy size nodes).length<20)&&(decide (0<nodes.length/\nodes.length<7)&&(match vo (qy size nodes) ⟨[0],[],[]⟩with
 |some s=>Nk s.found nodes&&(decide (0<s.found.length)&&(Yd size (oS s.counts)&&MY size nodes (oS s.counts)))
 |none=>false))
structure we(size:Nat)(nodes:List Nd)(s:Pl)(e:Er)(S:List Nd)(cC:List (Nat×Nat))(prs:List (Nat×pT)):Prop where
 kl:(qy size nodes).length<20
 nl:0<nodes.length/\nodes.length<7
 run:vo (qy size nodes) ⟨[0],[],[]⟩=some s
 fl:0<s.found.length
 s1:ql s.found=some S
 s2:ql nodes=some S
 rl:(oS s.counts).length=size+1
 rc:∀c∈oS s.counts,c<=100
 Z1:yW (oS s.counts)=some e
 cl:e.cuts.length<8
 ne:e.hand.1≠e.word.1
 mid:nB (oE e)=(dw (size+1)).map λ(k:Nat)=>(k:Int)
 UP:CI e.cuts e.hand.1 e.word.1=some cC
 UQ:B8 (size+1) nodes=some prs
 fr:((dw (size+1)).all λi=>vq (oS s.counts) prs e.cuts cC i (nA (size+1) i) 0 1)=true
theorem e5w(h:vQ size nodes=true):∃s e S cC prs,we size nodes s e S cC prs:=by
 refine oK λG0 hG=>?_;unfold vQ at h;have h1:=of_decide_eq_true (aP h);have h2:=of_decide_eq_true (aP (aR h));have h:=aR (aR h);cases hr:vo (qy size nodes) ⟨[0],[],[]⟩with
 |none=>rw[hr]at h;exact nt h
 |some s=>
  rw[hr]at h;dsimp only at h;have h3:=aP h;have h4:=of_decide_eq_true (aP (aR h));have h5:=aP (aR (aR h));have h:=aR (aR (aR h));unfold Nk at h3;cases ha:ql s.found with
  |none=>rw[ha]at h3;exact nt h3
  |some A=>cases hb:ql nodes with
   |none=>rw[ha,hb]at h3;exact nt h3
   |some B=>
    rw[ha,hb]at h3;dsimp only at h3;obtain rfl:=of_decide_eq_true h3;unfold MY at h;cases he:yW (oS s.counts)with
    |none=>rw[he]at h;exact nt h
    |some e=>
     rw[he]at h;dsimp only at h;have h6:=of_decide_eq_true (aP h);have h7:=of_decide_eq_true (aP (aR h));have h8:=of_decide_eq_true (aP (aR (aR h)));have h:=aR (aR (aR h));unfold O1 at h;cases hp:CI e.cuts e.hand.1 e.word.1 with
     |none=>rw[hp]at h;exact nt h
     |some cC=>cases hq:B8 (size+1) nodes with
      |none=>rw[hp,hq]at h;exact nt h
      |some prs=>
       rw[hp,hq]at h;exact hG ⟨s,e,A,cC,prs,h1,h2,hr,h4,ha,hb,of_decide_eq_true (aP h5),λc hc=>of_decide_eq_true (cN.mp (aR h5) c hc),he,h6,h7,h8,hp,hq,h⟩
theorem e6o(c:Nat)(l:List Nat):cnt c l=((l.count c:Nat):Int):=by
 induction l with
 |nil=>rfl
 |cons d l ih=>
  rw[cnt_cons,ih,List.count_cons];by_cases h:d=c
  ·subst h
   rw[if_pos rfl,if_pos (beq_self_eq_true d),xH];rfl
  ·rw[if_neg h,if_neg (bne_iff_ne.mpr h|> λq=>by simpa using h)]
   simp
section
variable {T:List Nat}
theorem e7f:∀l:List Nd,uu (l.map bC)=some (l.map yb):=by
 intro l;induction l with
 |nil=>rfl
 |cons a l ih=>
  show(uu (l.map bC)).map (yb a::·)=_;rw[ih];rfl
theorem d9g(f:α->β)(us:List α):∀p:List Nat,qi (us.map f) p=(qi us p).map (List.map f):=by
 intro p;induction p with
 |nil=>rfl
 |cons i p ih=>
  show((us.map f)[i]?).bind _=((us[i]?).bind _).map _;rw[pO];cases us[i]? with
  |none=>rfl
  |some x=>
   show(qi (us.map f) p).map (f x::·)=((qi us p).map (x::·)).map _;rw[ih,g3z,g3z];rfl
theorem e4u{l S:List Nd}(h:ql l=some S):rU (l.map bC)=some (S.map bC):=by
 unfold ql at h;refine aL h λhz h=>?_;obtain⟨p,hp,hq⟩:=R3.mp h;unfold rU;rw[e7f];dsimp only;rw[aW,if_pos hz,hp];dsimp only;rw[d9g,hq];rfl
theorem PR{x:X}{l S:List Nd}(h0:0<l.length)(h:ql l=some S)(hx:ev gF (n+1) x J O=some (.lst (l.map bC),O)):ev gF (n+2) (.call 2 [x]) J O=some (.lst (S.map bC),O):=by
 refine(cL (bf hx)).trans ?_;show((j5 (l.map bC)).elim (rU (l.map bC)) λns=>if(l.map bC).length<64 then some ((nB ns).map .int)else .none).map (λm=>(V.lst m,O))=_;have:j5 (l.map bC)=.none:=by
  cases l with
  |nil=>exact absurd h0 (mV 0)
  |cons a l=>rfl
 rw[this];show(rU (l.map bC)).map _=_;rw[e4u h];rfl
theorem YS(S:List Nd):cR .NotEq (.lst (S.map bC)) (.lst (S.map bC))=some false:=by
 have:=encInt.tup.list.vF (nb rfl) (a:=S.map yb) (b:=S.map yb) (λzz zz zz zz=>trivial) (λzz zz zz zz=>trivial);rw[decide_eq_true rfl,gk]at this;exact this
theorem Zn{ws:List (List Nat)}(h:∀w∈ws,iy w):cR .NotEq (vS ws) (vS ws)=some false:=by
 have:=encStr.list.vF (nb rfl) (a:=ws) (b:=ws) h h;rw[decide_eq_true rfl]at this;exact this
theorem e7s(hp:1<=1+c9 T)(rD:J.lookup 88=some (.mut 5))(V1:J.lookup 18=some (.str T)):ev gF (N+39) (.cmp .NotEq (.attr 26 (.loc 88)) (bO i1 (.bY 9 (.loc 18) [sX [10]]))) J (aU t (1+c9 T) [] [])=some (.bool false,aU t (1+c9 T) [] []):=by
 have a2:ev gF (N+37) (.bY 9 (.loc 18) [sX [10]]) J (aU t (1+c9 T) [] [])=some (.int (c9 T),aU t (1+c9 T) [] []):=by
  refine(nI (ak V1) rfl (bf az)).trans ?_;show vY (.str T) [.str [10]] _=_;have e:DN (txt T) (txt [10])=c9 T:=(count_is (txt T) 10).trans (e6o 10 T);rw[Wz,e]
 exact br (HY (ak rD) (if_pos hp)) (aF az a2 rfl) ((NI _ _).trans (by rw[decide_eq_true rfl];rfl))
end
section
variable {dr pt:Nat}{W:List Wd}
def rL(o:Option (F×aB×Mu)):Prop:=∃v rest,o=some (.ret (.bool true),v,.obj [2] (-5)::rest)
theorem jM{f:Internal.S->aB->Mu->Option (F×aB×Mu)}{s:Internal.S}{r:List Internal.S}(h:f s J O=some (.next,ρ',ai))(k:rL (bE f r ρ' ai)):rL (bE f (s::r) J O):=f7 (λzz=>f7 λzz e=>(bq h).trans e) k
theorem b6v{l:Nat}{e:X}{a b c d:V}(h:ev Z n e J O=some (.lst [a,b,c,d],O)):aQ Z n (.unpack [i,j,k,l] e) J O=some (.next,put l d (put k c (put j b (put i a J))),O):=by
 rw[Iv,h];rfl
theorem e5u(args:List V)(O:Mu):gF.call n 186 args O=cF g0 zJ wm n args O:=rfl
theorem e7b(args:List V)(O:Mu):gF.call n 188 args O=cF g0 zP wH n args O:=rfl
theorem e6s(args:List V)(O:Mu):gF.call n 191 args O=cF gK zK wz n args O:=rfl
theorem e3v(args:List V)(O:Mu):gF.call n 195 args O=cF gE zH wA n args O:=rfl
theorem e6l(args:List V)(O:Mu):gF.call n 199 args O=cF gC zW w6 n args O:=rfl
theorem e5r(args:List V)(O:Mu):gF.call n 206 args O=cF g0 zZ w5 n args O:=rfl
theorem e6h(args:List V)(O:Mu):gF.call n 68 args O=cF g0 xd qU n args O:=rfl
noncomputable def m8(W:List Wd):List (List Nat):=W.map (·.1)
theorem Cd(W:List Wd):wV W=(m8 W).map .str:=by unfold wV m8;rw[gk];rfl
theorem PY(hz:W.length<100)(h:J.lookup 125=some (.lst (wV W))):ev gF (N+3) zB J O=some (.lst (wV W++[.str []]),O):=by
 refine aF (ak h) (lN (bf az) (show 1<=big from nb rfl)) (rG (cQ ?_));unfold wV;rw[aW];show W.length+1<1000;exact bz (dc hz)
theorem d4t{N:Nat}{kj:Mu}{ws:List (List Nat)}(hf:∀u O,Z.find 22 u O=gE.find 22 u O)(hm:∀n u a O,Z.bY n 22 u a O=mF g0 nP nM n u a O)(h:qj O ws ai)(h2:Tok ai 5 [] kj):qj O (ws++[[]]) kj:=by
 induction h with
 |nil=>exact .cons h2 (.nil _)
 |cons ht _ ih=>exact .cons ht (ih h2)
theorem e4l{T:List Nat}{t:List Nat}{ln:Int}(hz:W.length<100)(h:qj O (m8 W++[[]]) ai)(K:ay J [(125,.lst (wV W)),(88,.mut 5)]):ev gF (N+40) (.comp tZ (.one 82) zB [] [42,82]) J O=some (.lst (wV W++[.str []]),ai):=by
 have hl:(wV W++[V.str []]).length=W.length+1:=by rw[cA];unfold wV;rw[aW];rfl
 have e:=YW (Z:=gF) (N:=N+8) (λzz zz=>rfl) (λzz zz zz zz=>rfl) h (wV W++[.str []]) (J.filter λp=>![42,82].contains p.1) (by rw[hl,cA];unfold m8;rw[aW];rfl) ((w9 (own:=[42,82]) rfl J).trans (K 88 _ rfl));refine jL (jd rfl (PY (N:=N+36) hz (K 125 _ rfl)) rfl) (cQ (by rw[hl];exact bz (dc hz))) ?_;rw[ie]at e;rw[Cd];rw[Cd]at e;exact e
theorem c4f{T:List Nat}(hz:T.length<=400)(h:J.lookup 18=some (.str T)):aQ gF (N+120) (.kG 88 (.call 34 [.loc 18])) J [.obj [] (-1)]=some (.next,put 88 (.mut 5) J,aU T 1 [] []):=by
 have e:ev gF (N+120) (.call 34 [.loc 18]) J [.obj [] (-1)]=some (.mut 3,[.obj [2] (-5),.list (chars T),.obj [] (-6),.obj [1,2] (-3)]):=by
  refine(cL (vs:=[.str T]) (bf (ak h))).trans ?_;show(if 11<=N+119 then(zV [.obj [] (-1)] T).map λp=>(V.mut p.1,p.2)else .none)=_;rw[if_pos (aV (nb rfl) (sN 119 N))];unfold zV;rw[if_pos (aV hz (nb rfl))];rfl
 rw[e5e,e];have h12:(gF.fB&&decide (12<=N+120))=true:=by
  rw[decide_eq_true (aV (nb rfl) (sN 120 N))];rfl
 rw[h12];rfl
noncomputable def X6:List Internal.S:=[.assign 124 (bO i4 (.bin .Mod (.loc 211) i4)),.assign 187 (.call 186 [(.loc 124),(.bin .FloorDiv (.loc 211) i4)]),.assign 125 (.call 188 [(.loc 124),(.loc 187),(.loc 180)]),.assign 18 GD,.kG 88 (.call 34 [(.loc 18)]),.assign 100 (.comp tZ (.one 82) zB [] [42,82])]
noncomputable def hE(W:List Wd)(nodes:List Nd)(T:List Nat)(size pt:Nat):List (Nat×V):=[(100,.lst (wV W++[.str []])),(88,.mut 5),(18,.str T),(125,.lst (wV W)),(187,.lst (nodes.map bC)),(124,.int (size:Nat)),(96,.int (pt:Nat))]
theorem e7u{r:List Internal.S}(hs:size=4+sh%4)(hn:nodes=mj size (sh / 4))(hW:W=qq mk size nodes)(hl:nodes.length<7)(hk:(qy size nodes).length<20)(K:ay J [(211,.int (sh:Nat)),(180,.int (mk:Nat)),(122,.int (dr:Nat)),(96,.int (pt:Nat))])
  (k:∀ρ' T,iy T->ay ρ' (hE W nodes T size pt)->rL (bE (aQ gF (N+120)) r ρ' (aU [] (1+c9 T) [] []))):rL (bE (aQ gF (N+120)) (X6++r) J [.obj [] (-1)]):=by
 have h4:sh%4<4:=eF _ (nb rfl);have s9:size<9:=hs▸kD h4;have e1:ev gF (N+120) (bO i4 (.bin .Mod (.loc 211) i4)) J [.obj [] (-1)]=some (.int (size:Nat),[.obj [] (-1)]):=by
  rw[hs];exact aF az (aF (ak (K 211 _ rfl)) az (lM sh 4 (by decide))) rfl
 obtain⟨aY,s1,k1⟩:=qA (i:=124) e1 K;have e2:ev gF (N+120) (.call 186 [(.loc 124),(.bin .FloorDiv (.loc 211) i4)]) aY [.obj [] (-1)]=some (.lst (nodes.map bC),[.obj [] (-1)]):=by
  rw[hn];exact(cL (aX (ak (k1 124 _ rfl)) (bf (aF (ak (k1 211 _ rfl)) az (r8 sh 4 (by decide) (nb rfl)))))).trans ((e5u _ _).trans (c9x (N:=N+89) (hs▸aV (nb rfl) (gZ 4 _)) s9 rfl))
 obtain⟨bw,s2,k2⟩:=qA (i:=187) e2 k1;have e3:ev gF (N+120) (.call 188 [(.loc 124),(.loc 187),(.loc 180)]) bw [.obj [] (-1)]=some (.lst (wV W),[.obj [] (-1)]):=by
  rw[hW];exact(cL (aX (ak (k2 124 _ rfl)) (aX (ak (k2 187 _ rfl)) (bf (ak (k2 180 _ rfl)))))).trans ((e7b _ _).trans (c5d (N:=N+79) s9 hl rfl))
 obtain⟨gq,s3,k3⟩:=qA (i:=125) e3 k2;have hok:∀w∈W,pC w:=by rw[hW];exact QN s9
 have hg:∀w∈m8 W,goodW w:=λw hw=>by
  obtain⟨p,hp,rfl⟩:=ly.mp hw;exact(hok p hp).good
 have hlen:W.length<20:=by
  have:=congrArg uO (RG mk size nodes);rw[←hW,aW]at this;exact this.symm▸hk
 obtain⟨e4,hz⟩:=e2f (N:=N+78) (dr:=dr) (J:=gq) (ws:=m8 W) (O:=[.obj [] (-1)]) (λw hw=>by
   obtain⟨p,hp,rfl⟩:=ly.mp hw;exact(hok p hp).len) hg (by unfold m8;rw[aW];exact hlen) (k3 122 _ rfl) ((k3 125 _ rfl).trans (by rw[Cd];rfl)) rfl
 obtain⟨t,ln,a1,a2,a3⟩:=c4i hg hz;have hT:iy (iG (jq (m8 W) dr)):=O2 λp hp=>hg p.1 (by
  rw[←Il (m8 W) dr];exact Su hp)
 generalize iG (jq (m8 W) dr)=T at *;obtain⟨m7,s4,k4⟩:=qA (i:=18) e4 k3;have s5:=c4f (N:=N) hz (k4 18 _ rfl);have k5:=k4.put 88 (.mut 5);have e6:=e4l (N:=N+80) (T:=T) (t:=t) (ln:=ln) (W:=W) (O:=aU T 1 [] []) (by exact bz hlen) (d4t (Z:=gF) (N:=N) (λzz zz=>rfl) (λzz zz zz zz=>rfl) (a2 [] λzz h=>nomatch h) a3) (ay.cons (k5 125 _ rfl) (ay.cons (k5 88 _ rfl) ay.nil));obtain⟨Tc,s6,k6⟩:=qA (i:=100) e6 k5;exact jM s1 (jM s2 (jM s3 (jM s4 (jM s5 (jM s6 (k Tc T hT (ay.cons (k6 100 _ rfl) (ay.cons (k6 88 _ rfl) (ay.cons (k6 18 _ rfl) (ay.cons (k6 125 _ rfl) (ay.cons (k6 187 _ rfl) (ay.cons (k6 124 _ rfl) (ay.cons (k6 96 _ rfl) ay.nil)))))))))))))
end
section
variable {pt:Nat}{W:List Wd}{S:List Nd}{s:Pl}{e:Er}{T:List Nat}
noncomputable def M4:List Internal.S:=[.unpack [207,194] (.call 191 [(.loc 100)]),.ite CH [.ret (.cst (.bool false))] [],.unpack [197,200] (.call 195 [(.loc 88),(.loc 207)]),.ite Cz [.ret (.cst (.bool false))] []]
theorem c4e:∀n:Nat,n<10->(pY 0 (n:Int) 1&&decide ((n:Int).toNat<=big))=true/\mP 0 (n:Int) 1=(dw n).map λ(k:Nat)=>V.int k:=by
 intro n h;rcases(by decide:∀n<10,n=0∨n=1∨n=2∨n=3∨n=4∨n=5∨n=6∨n=7∨n=8∨n=9) n h with rfl|rfl|rfl|rfl|rfl|rfl|rfl|rfl|rfl|rfl<;>exact⟨by decide +kernel,rfl⟩
theorem or3{x y z:X}(h1:ev Z n x J O=some (.bool false,O))(h2:ev Z n y J O=some (.bool false,O))(h3:ev Z n z J O=some (.bool false,O)):ev Z (n+1) (.or [x,y,z]) J O=some (.bool false,O):=by
 show p9 (λx O=>ev Z n x J O) [x,y,z] O=_;rw[Gh,h1];show p9 (λx O=>ev Z n x J O) [y,z] O=_;rw[Gh,h2];exact h3
theorem d0c(A:we size nodes s e S cC prs)(hW:W.length<100)(hok:∀w∈W,pC w)(hp:1<=1+c9 T)(K:ay J [(100,.lst (wV W++[.str []])),(88,.mut 5),(18,.str T),(125,.lst (wV W)),(187,.lst (nodes.map bC)),(194,.lst (s.found.map bC))]) :
  ev gF (N+40) CH J (aU [] (1+c9 T) [] [])=some (.bool false,aU [] (1+c9 T) [] []):=by
 refine or3 (br (ak (K 100 _ rfl)) (PY (N:=N+35) hW (K 125 _ rfl)) ?_) (e7s (N:=N) hp (K 88 _ rfl) (K 18 _ rfl)) (br (PR A.fl A.s1 (ak (K 194 _ rfl))) (PR A.nl.1 A.s2 (ak (K 187 _ rfl))) (YS S));have:(wV W++[V.str []])=(m8 W++[[]]).map .str:=by rw[ie,Cd];rfl
 rw[this];refine Zn λw hw=>?_;rcases ic.mp hw with q|q
 ·obtain⟨p,hp,rfl⟩:=ly.mp q
  exact(hok p hp).good.ok
 ·rw[bK.mp q];exact λc hc=>nomatch hc
theorem e2l(hC:e.cuts.length<8)(K:ay J [(197,.lst (e.cuts.map bA)),(200,.lst [nV e.hand.1,nV e.word.1])]):ev gF (N+12) (bO (.comp (cI 153 1) (.one 153) (.loc 197) [] [42,153]) (.loc 200)) J O=some (.lst ((oE e).map .int),O):=by
 have e1:ev gF (N+11) (.comp (cI 153 1) (.one 153) (.loc 197) [] [42,153]) J O=some (.lst (e.cuts.map λc=>nV c.2.1),O):=
  jL (jd rfl (ak (K 197 _ rfl)) rfl) (cQ (by rw[aW];exact bz hC)) (pA (h:=bA) (g:=λc=>nV c.2.1) _ _ λc zz=>dU (u:=bA c) (ak dM) az rfl)
 refine aF e1 (ak (K 200 _ rfl)) ((rG (cQ ?_)).trans ?_)
 ·rw[aW];exact Ez (d:=2) hC
 ·unfold oE
  rw[ie,gk];rfl
theorem c8m(A:we size nodes s e S cC prs)(hs:size<9)(K:ay J [(197,.lst (e.cuts.map bA)),(200,.lst [nV e.hand.1,nV e.word.1]),(124,.int (size:Nat))]):ev gF (N+40) Cz J O=some (.bool false,O):=by
 have hC:=A.cl;have e1:ev gF (N+39) (.call 2 [bO (.comp (cI 153 1) (.one 153) (.loc 197) [] [42,153]) (.loc 200)]) J O=some (.lst (((dw (size+1)).map λ(k:Nat)=>(k:Int)).map .int),O):=by
  refine(cL (bf (e2l (N:=N+26) hC (ay.cons (K 197 _ rfl) (ay.cons (K 200 _ rfl) ay.nil))))).trans ?_;show((j5 ((oE e).map .int)).elim (rU ((oE e).map .int)) λns=>if((oE e).map V.int).length<64 then some ((nB ns).map .int)else .none).map (λm=>(V.lst m,O))=_;rw[Rg];show(if((oE e).map V.int).length<64 then some ((nB (oE e)).map V.int)else .none).map (λm=>(V.lst m,O))=_;rw[if_pos (by unfold oE;rw[aW,cA,aW];exact Ez (d:=2) hC),A.mid];rfl
 have e2:ev gF (N+39) (.yc GQ) J O=some (.lst (((dw (size+1)).map λ(k:Nat)=>(k:Int)).map .int),O):=by
  have e3:ev gF (N+38) GQ J O=some (.int ((size+1:Nat):Int),O):=aF (ak (K 124 _ rfl)) az rfl;obtain⟨h1,h2⟩:=c4e (size+1) (by exact dc hs);rw[d7c,e3];dsimp only;rw[if_pos h1,h2,gk];rfl
 refine br e1 e2 ?_;have:=Gx.vF (nb rfl) (a:=(dw (size+1)).map λ(k:Nat)=>(k:Int)) (b:=(dw (size+1)).map λ(k:Nat)=>(k:Int)) (λzz zz=>trivial) (λzz zz=>trivial);rw[decide_eq_true rfl]at this;exact this
noncomputable def mE(nodes:List Nd)(s:Pl)(e:Er)(pt:Nat):List (Nat×V):=[(207,.lst ((oS s.counts).map nV)),(187,.lst (nodes.map bC)),(197,.lst (e.cuts.map bA)),(200,.lst [nV e.hand.1,nV e.word.1]),(96,.int (pt:Nat))]
theorem Zo{r:List Internal.S}(A:we size nodes s e S cC prs)(hs:size<8)(hW:W=qq mk size nodes)(hT:iy T)(K:ay J (hE W nodes T size pt))
  (k:∀ρ',ay ρ' (mE nodes s e pt)->rL (bE (aQ gF (N+120)) r ρ' (aU [] (1+c9 T) (qW e.queue) []))):rL (bE (aQ gF (N+120)) (M4++r) J (aU [] (1+c9 T) [] [])):=by
 have hpos:1<=1+c9 T:=g6j (lB _);have hok:∀w∈W,pC w:=by rw[hW];exact QN (by exact bz hs)
 have hkd:W.map (·.2)=qy size nodes:=by rw[hW];exact RG mk size nodes
 have hlen:W.length<20:=by
  have:=congrArg uO hkd;rw[aW]at this;exact ck (gY this) A.kl
 have T7:∀q,b9 (aU [] (1+c9 T) q [])=true:=λq=>Hg λzz h=>nomatch h;have e1:ev gF (N+120) (.call 191 [(.loc 100)]) J (aU [] (1+c9 T) [] [])=some (.tup [je s.counts,.lst (s.found.map bC)],aU [] (1+c9 T) [] []):=
  (cL (bf (ak (K 100 _ rfl)))).trans ((e6s _ _).trans (d2z (N:=N+79) (λw hw=>(hok w hw).kw) (by rw[hkd];exact A.run) (T7 [])))
 have s1:=pB (i:=207) (j:=194) e1;have k1:=(K.put 207 (je s.counts)).put 194 (.lst (s.found.map bC));generalize put 194 (.lst (s.found.map bC)) (put 207 (je s.counts) J)=aY at s1 k1;have e2:=d0c (N:=N+80) (W:=W) (J:=aY) A (by exact bz hlen) hok hpos (ay.cons (k1 100 _ rfl) (ay.cons (k1 88 _ rfl) (ay.cons (k1 18 _ rfl) (ay.cons (k1 125 _ rfl) (ay.cons (k1 187 _ rfl) (ay.cons (k1 194 _ rfl) ay.nil))))));have s2:aQ gF (N+120) (.ite CH [.ret (.cst (.bool false))] []) aY (aU [] (1+c9 T) [] [])=some (.next,aY,aU [] (1+c9 T) [] []):=by
  rw[yQ,e2];rfl
 have e3:ev gF (N+120) (.call 195 [(.loc 88),(.loc 207)]) aY (aU [] (1+c9 T) [] [])=some (ML e,aU [] (1+c9 T) (qW e.queue) []):=
  (cL (aX (ak (k1 88 _ rfl)) (bf (ak (k1 207 _ rfl))))).trans ((e3v _ _).trans (c9o (N:=N+69) (λzz h=>nomatch h) hpos (by rw[A.rl];exact hs) A.rc A.Z1))
 have s3:=pB (i:=197) (j:=200) e3;have k3:=(k1.put 197 (.lst (e.cuts.map bA))).put 200 (.lst [nV e.hand.1,nV e.word.1]);generalize put 200 (V.lst [nV e.hand.1,nV e.word.1]) (put 197 (.lst (e.cuts.map bA)) aY)=gq at s3 k3;have e4:=c8m (N:=N+80) (J:=gq) (O:=aU [] (1+c9 T) (qW e.queue) []) A (by exact bz hs) (ay.cons (k3 197 _ rfl) (ay.cons (k3 200 _ rfl) (ay.cons (k3 124 _ rfl) ay.nil)));have s4:aQ gF (N+120) (.ite Cz [.ret (.cst (.bool false))] []) gq (aU [] (1+c9 T) (qW e.queue) [])=some (.next,gq,aU [] (1+c9 T) (qW e.queue) []):=by
  rw[yQ,e4];rfl
 exact jM s1 (jM s2 (jM s3 (jM s4 (k gq (ay.cons (k3 207 _ rfl) (ay.cons (k3 187 _ rfl) (ay.cons (k3 197 _ rfl) (ay.cons (k3 200 _ rfl) (ay.cons (k3 96 _ rfl) ay.nil)))))))))
end
section
open Float64 (add sub mul div divmod cmp isZero)
noncomputable def iC(h c:Nat):Nat:=min ((3*h+96-c)%96) ((c+384-3*h)%96)
noncomputable def kO(sh vl w:Nat):Nat:=vl*(64-sh*min (w-16) 16)
noncomputable def kL(h sh vl:Nat):Cl:=(kO sh vl (iC h 0),kO sh vl (iC h 32),kO sh vl (iC h 64))
structure Gb(h sh vl:Nat)(d:Cl)(s v hf:UInt64)(lv x c:C3):Prop where
 hs:qO sh 4=some s
 hv:qO vl 4=some v
 hx:vR 256 d x
 hl:wh x.1 x.2.1 x.2.2=some lv
 mix:zw s v lv d
 hh:qO h 32=some hf
 hc:wo hf s v=some c
 eq:vZ [.aq c.1,.aq c.2.1,.aq c.2.2] [.aq x.1,.aq x.2.1,.aq x.2.2]=true
 hd:¬(d.1=d.2.1/\d.2.1=d.2.2)
noncomputable def yz(a b:Int):Int:=if b<a then b else a
theorem e2y:((dw 128).all λh=>[0,32,64].all λc=>decide (yz ((3*(h:Int)-(c:Nat)).fmod 96) (((c:Nat)-3*(h:Int)).fmod 96)=(iC h c:Int))&&decide (iC h c<=48))=true:=by decide +kernel
section
theorem N1{a b:X}{i j:Int}(hc:∀(n:Nat) (args:List V) (O:Mu),Z.call n 4 args O=Bt args O)(h1:ev Z n a J O=some (.int i,O))(h2:ev Z n b J O=some (.int j,O)):ev Z (n+1) (.call 4 [a,b]) J O=some (.int (yz i j),O):=
 (cL (aX h1 (bf h2))).trans ((hc _ _ _).trans rfl)
theorem Ze{a b:X}{i j:Int}(hc:∀(n:Nat) (args:List V) (O:Mu),Z.call n 3 args O=Bo args O)(h1:ev Z n a J O=some (.int i,O))(h2:ev Z n b J O=some (.int j,O)):ev Z (n+1) (.call 3 [a,b]) J O=some (.int (if j>i then j else i),O):=
 (cL (aX h1 (bf h2))).trans ((hc _ _ _).trans rfl)
theorem ZR{h:Nat}(hh:h<128)(VY:J.lookup 65=some (.int (h:Nat))):ev gF (N+12) Gj J O=some (.lst [nV (iC h 0),nV (iC h 32),nV (iC h 64)],O):=by
 have e:=jL (Z:=gF) (n:=N+11) (J:=J) (O:=O) (own:=[42,213]) (elt:=.call 4 [(.bin .Mod (.bin .Sub (.bin .Mult i3 (.loc 65)) (.loc 213)) (.cst (.int 96))),(.bin .Mod (.bin .Sub (.loc 213) (.bin .Mult i3 (.loc 65))) (.cst (.int 96)))]) (vs:=[0,32,64].map nV) (jd (v:=.tup [.int 0,.int 32,.int 64]) rfl (eW (aX az (aX az (bf az))) (show 3<=big from nb rfl)) rfl) (show 3<=big from nb rfl)
  (pA (i:=213) (h:=nV) (g:=λc=>nV (iC h c)) [0,32,64] _ λc hc=>by
   have hw:=cN.mp (cN.mp e2y h (pM.mpr hh)) c hc;have hl:∀{v:V},(put 213 v (J.filter λp=>![42,213].contains p.1)).lookup 65=some (.int (h:Nat)):=gh ((w9 (own:=[42,213]) rfl J).trans VY) (by decide);refine(N1 (λzz zz zz=>rfl) (aF (aF (aF az (ak hl) rfl) (ak dM) rfl) az rfl) (aF (aF (ak dM) (aF az (ak hl) rfl) rfl) az rfl)).trans ?_;exact congrArg (λz=>some (V.int z,O)) (of_decide_eq_true (aP hw)))
 exact e
theorem e4x{w:Nat}(hs:sh<=4):(vl:Int)*(64-(sh:Int)*yz (if(0:Int)>(w:Int)-16 then 0 else(w:Int)-16) 16)=(kO sh vl w:Int):=by
 have h1:(if(0:Int)>(w:Int)-16 then 0 else(w:Int)-16)=((w-16:Nat):Int):=by
  by_cases h:(0:Int)>(w:Int)-16
  ·rw[if_pos h,xq (xF.mp (JW (Int.lt_of_sub_neg h)))];rfl
  ·rw[if_neg h];exact(pQ (xF.mp (Int.le_of_sub_nonneg (i6.mp h)))).symm
 have h2:yz ((w-16:Nat):Int) 16=((min (w-16) 16:Nat):Int):=by
  unfold yz;by_cases h:(16:Int)<((w-16:Nat):Int)
  ·rw[if_pos h,Nat.min_eq_right (cy (sZ.mp h))];rfl
  ·rw[if_neg h,Sd (xF.mp (i6.mp h))]
 have h3:sh*min (w-16) 16<=64:=aV (R8 hs (Sa _ _)) (nb rfl);rw[h1,h2];unfold kO;rw[xG,pQ h3,xG];rfl
theorem Zf{ws:List Nat}(hs:sh<=4)(hv:vl<=4)(hz:ws.length<10)(K:ay J [(97,.int (sh:Nat)),(201,.int (vl:Nat)),(212,.lst (ws.map nV))]):ev gF (N+14) Gd J O=some (.lst (ws.map λw=>nV (kO sh vl w)),O):=by
 have K1:=K.own (own:=[42,214]) rfl;refine jL (jd rfl (ak (K 212 _ rfl)) rfl) (cQ (by rw[aW];exact bz hz)) (pA (h:=nV) (g:=λw=>nV (kO sh vl w)) ws _ λw zz=>?_);have K2:=K1.put 214 (nV w);refine(aF (ak (K2 201 _ rfl)) (aF az (aF (ak (K2 97 _ rfl)) (N1 (λzz zz zz=>rfl) (Ze (λzz zz zz=>rfl) (aF (ak dM) az rfl) az) az) (zF (sD (by exact bz (dc hs))))) rfl) (zF (sD (by exact bz (dc hv))))).trans ?_;exact congrArg (λz=>some (V.int z,O)) (e4x hs)
theorem l3{a b x y z:Nat}(h:[a,b,c]=[x,y,z]):a=x/\b=y/\c=z:=
 ⟨(fZ h).1,(fZ (fZ h).2).1,(fZ (fZ (fZ h).2).2).1⟩
theorem e8u{d:Cl}(h:¬(d.1=d.2.1/\d.2.1=d.2.2)):jE (bP d 0)≠jE (bP d 1)/\jE (bP d 0)≠jE (bP d 2)/\jE (bP d 1)≠jE (bP d 2):=by
 refine⟨λe=>?_,λe=>?_,λe=>?_⟩<;>obtain⟨h1,h2,h3⟩:=l3 e
 ·exact h ⟨h2.symm,h3.symm⟩
 ·exact h ⟨h1,h2⟩
 ·exact h ⟨h3.symm,h1.symm⟩
theorem e4z{d:Cl}(h:¬(d.1=d.2.1/\d.2.1=d.2.2))(a b:Nat)(ha:a<3)(hb:b<3):jE (bP d a)=jE (bP d b)↔a=b:=by
 refine⟨λe=>?_,λe=>by rw[e]⟩;obtain⟨n1,n2,n3⟩:=e8u h;rcases(by decide:∀k<3,k=0∨k=1∨k=2) a ha with rfl|rfl|rfl<;>rcases(by decide:∀k<3,k=0∨k=1∨k=2) b hb with rfl|rfl|rfl
 ·rfl
 ·exact absurd e n1
 ·exact absurd e n2
 ·exact absurd e.symm n1
 ·rfl
 ·exact absurd e n3
 ·exact absurd e.symm n2
 ·exact absurd e.symm n3
 ·rfl
theorem XW{d:Cl}(h:¬(d.1=d.2.1/\d.2.1=d.2.2))(a b:Nat)(ha:a<3)(hb:b<3):cR .Eq (cD (bP d a)) (cD (bP d b))=some (decide (a=b)):=by
 have e:=Gx.Ck (nb rfl) (a:=(jE (bP d a)).map λ(k:Nat)=>(k:Int)) (b:=(jE (bP d b)).map λ(k:Nat)=>(k:Int)) (λzz zz=>trivial) (λzz zz=>trivial);refine e.trans (congrArg some (decide_eq_decide.mpr ⟨λq=>(e4z h a b ha hb).mp ?_,λq=>by rw[q]⟩));exact(List.map_inj_right λx y h=>qS h).mp q
end
end
section
open Float64 (add sub mul div divmod cmp isZero)
section
variable {pt:Nat}{S:List Nd}{s:Pl}{e:Er}
noncomputable def Hj:List Internal.S:=[.unpack [65,97,201] (.tup [(.bin .Mod (.loc 96) (.cst (.int 128))),uz 128,uz 512]),.assign 212 Gj,.assign 101 Gd,.assign 202 (.call 199 [(.loc 197),(.loc 200),(.loc 101),(.loc 97),(.loc 201)]),.ret Nn]
theorem e2v{a b c:X}(h1:ev Z n a J O=some (.bool true,O))(h2:ev Z n b J O=some (.bool true,O))(h3:ev Z n c J O=some (.bool true,O)):ev Z (n+1) (.and [a,b,c]) J O=some (.bool true,O):=by
 show rF (λx O=>ev Z n x J O) _ O=_;rw[MI,h1];show rF (λx O=>ev Z n x J O) _ O=_;rw[MI,h2];exact h3
theorem ZJ(A:we size nodes s e S cC prs):cC≠[]:=by
 intro q;have h:=cN.mp A.fr 0 (pM.mpr (Ai _));have hl:(nA (size+1) 0).length=size+1:=by
  unfold nA;rw[cA,JS,sR,Au];rfl
 obtain⟨j,r,hj⟩:∃j r,nA (size+1) 0=j::r:=by
  cases ht:nA (size+1) 0 with
  |nil=>rw[ht]at hl;cases hl
  |cons j r=>exact⟨j,r,rfl⟩
 rw[hj]at h;obtain⟨a,b,p,q',hc⟩:=Pd (aP h);have:=hc.hp;rw[q]at this;exact nomatch this
theorem e9b{c x:C3}(h:vZ [.aq c.1,.aq c.2.1,.aq c.2.2] [.aq x.1,.aq x.2.1,.aq x.2.2]=true):cR .Eq (vC c) (vC x)=some true:=by
 show(eqv (vC c) (vC x)).elim (Bj (vC c) (vC x)) some=_;rw[show eqv (vC c) (vC x)=.none from rfl];show(if vZ [.aq c.1,.aq c.2.1,.aq c.2.2] [.aq x.1,.aq x.2.1,.aq x.2.2]then some true else .none)=_;rw[h];rfl
theorem d0v{d:Cl}{x:C3}(hx:vR 256 d x)(h:J.lookup 101=some (cD d)):ev gF (N+8) (.call 35 [(.comp (.bin .Div (.loc 103) (.cst (.int 256))) (.one 103) (.loc 101) [] [42,103])]) J O=some (vC x,O):=by
 have e1:ev gF (N+7) (.comp (.bin .Div (.loc 103) (.cst (.int 256))) (.one 103) (.loc 101) [] [42,103]) J O=some (.lst [.aq x.1,.aq x.2.1,.aq x.2.2],O):=
  jL (vs:=[.int (d.1:Nat),.int (d.2.1:Nat),.int (d.2.2:Nat)]) (jd rfl (ak h) rfl) (show 3<=big from nb rfl)
   (uH gy (aF (n:=N+5) (ak dM) az (mh (b:=256) (by decide) hx.1)) (uH gy (aF (n:=N+5) (ak dM) az (mh (b:=256) (by decide) hx.2.1)) (uH gy (aF (n:=N+5) (ak dM) az (mh (b:=256) (by decide) hx.2.2)) rfl)))
 exact(cL (bf e1)).trans rfl
theorem e6p{hf sf vf:UInt64}{x c:C3}(A:we size nodes s e S cC prs)(UL:4<=size)(hs:size<8)(hq:b9 O=true)(Fl:Gb (pt%128) (1+pt / 128%4) (1+pt / 512%4) (kL (pt%128) (1+pt / 128%4) (1+pt / 512%4)) sf vf hf lv x c)(K:ay J (mE nodes s e pt)){J8:Mu}(Ux:O=.obj [2] (-5)::J8):rL (bE (aQ gF (N+120)) Hj J O):=by
 have hh:pt%128<128:=eF _ (nb rfl);have h1:1+pt / 128%4<=4:=kD (lq (eF _ (nb rfl)));have h2:1+pt / 512%4<=4:=kD (lq (eF _ (nb rfl)));have px:∀(k:Nat),k≠0->k<2^60->ev gF (N+119) (uz (k:Nat)) J O=some (.int ((1+pt / k%4:Nat):Int),O):=λk hk hk2=>aF az (aF (aF (ak (K 96 _ rfl)) az (r8 pt k hk hk2)) az (lM _ 4 (by decide))) rfl;have e1:ev gF (N+120) (.tup [(.bin .Mod (.loc 96) (.cst (.int 128))),uz 128,uz 512]) J O=some (.tup [.int ((pt%128:Nat):Int),.int ((1+pt / 128%4:Nat):Int),.int ((1+pt / 512%4:Nat):Int)],O):=
  eW (aX (aF (ak (K 96 _ rfl)) az (lM pt 128 (by decide))) (aX (px 128 (by decide) (nb rfl)) (bf (px 512 (by decide) (nb rfl))))) (show 3<=big from nb rfl)
 have s1:=RD (i:=65) (j:=97) (k:=201) e1;have k1:=((K.put 65 (.int ((pt%128:Nat):Int))).put 97 (.int ((1+pt / 128%4:Nat):Int))).put 201 (.int ((1+pt / 512%4:Nat):Int));generalize put 201 (V.int ((1+pt / 512%4:Nat):Int)) (put 97 (.int ((1+pt / 128%4:Nat):Int)) (put 65 (.int ((pt%128:Nat):Int)) J))=aY at s1 k1;generalize pt%128=h at *;generalize 1+pt / 128%4=sh at *;generalize 1+pt / 512%4=vl at *;obtain⟨bw,s2,k2⟩:=qA (i:=212) (ZR (N:=N+108) (O:=O) hh (k1 65 _ rfl)) k1;obtain⟨gq,s3,k3⟩:=qA (i:=101) (Zf (N:=N+106) (O:=O) (ws:=[iC h 0,iC h 32,iC h 64]) h1 h2 (show 3<10 from nb rfl) (ay.cons (k2 97 _ rfl) (ay.cons (k2 201 _ rfl) (ay.cons (k2 212 _ rfl) ay.nil)))) k2;have Ut:gq.lookup 101=some (cD (kL h sh vl)):=k3 101 _ rfl;have hd:=Fl.hd;have e4:ev gF (N+120) (.call 199 [(.loc 197),(.loc 200),(.loc 101),(.loc 97),(.loc 201)]) gq O=some (.mut O.length,O++[.dict (dV (λk=>cD (bP (kL h sh vl) k)) cC)]):=
  (cL (aX (ak (k3 197 _ rfl)) (aX (ak (k3 200 _ rfl)) (aX (ak Ut) (aX (ak (k3 97 _ rfl)) (bf (ak (k3 201 _ rfl)))))))).trans ((e6l _ _).trans (c0p (N:=N+69) Fl.hs Fl.hv Fl.hx Fl.hl Fl.mix A.cl A.ne A.UP hq))
 obtain⟨m7,s4,k4⟩:=qA (i:=202) e4 k3;have K0:b9 (O++[.dict (dV (λk=>cD (bP (kL h sh vl) k)) cC)])=true:=QH hq (Dq (λk=>cD (bP (kL h sh vl) k)) (λzz=>rfl) _);have P:xj (O++[.dict (dV (λk=>cD (bP (kL h sh vl) k)) cC)]) O.length cC λk=>cD (bP (kL h sh vl) k):=⟨Cv,λa b ha hb=>XW hd a b ha hb,λa O=>rfl⟩;generalize hμ:O++[M.dict (dV (λk=>cD (bP (kL h sh vl) k)) cC)]=jB at *;have a1:ev gF (N+119) (.cmp .Eq (.call 68 [(.bin .Div (.loc 65) (.cst (.int 32))),rS 97,rS 201]) (.call 35 [(.comp (.bin .Div (.loc 103) (.cst (.int 256))) (.one 103) (.loc 101) [] [42,103])])) m7 jB=some (.bool true,jB):=
  br (u:=vC c) (v:=vC x) ((cL (aX (aF (ak (k4 65 _ rfl)) az (mh (b:=32) (by decide) Fl.hh)) (aX (aF (ak (k4 97 _ rfl)) az (mh (b:=4) (by decide) Fl.hs)) (bf (aF (ak (k4 201 _ rfl)) az (mh (b:=4) (by decide) Fl.hv)))))).trans ((e6h _ _).trans (Je (N:=N+97) Fl.hc K0))) (d0v (N:=N+110) Fl.hx (k4 101 _ rfl)) (e9b Fl.eq)
 have a2:ev gF (N+119) (.ya (.loc 202)) m7 jB=some (.bool true,jB):=by
  rw[YU,ak (k4 202 _ rfl)];show(oW jB (.mut O.length)).bind _=_;rw[show oW jB (.mut O.length)=some (dV (λk=>cD (bP (kL h sh vl) k)) cC) by unfold oW;dsimp only;rw[P.dict]];have:=ZJ A;cases hp:cC with
  |nil=>exact absurd hp this
  |cons p r=>rfl
 have a3:ev gF (N+119) (.call 206 [(.loc 207),(.loc 187),(.loc 197),(.loc 202)]) m7 jB=some (.bool true,jB):=
  (cL (aX (ak (k4 207 _ rfl)) (aX (ak (k4 187 _ rfl)) (aX (ak (k4 197 _ rfl)) (bf (ak (k4 202 _ rfl))))))).trans ((e5r _ _).trans (c0z (N:=N+68) (by rw[A.rl];exact bz (dc hs)) (by rw[A.rl];exact aV (nb rfl) (dc UL)) (by have:=A.nl.2;exact bz this) (by have:=A.cl;exact bz this) (by rw[A.rl];exact A.UQ) (by rw[A.rl];exact A.fr) P K0))
 refine jM s1 (jM s2 (jM s3 (jM s4 ⟨m7,J8++[.dict (dV (λk=>cD (bP (kL h sh vl) k)) cC)],(fD (e2v a1 a2 a3)).trans ?_⟩)));rw[←hμ,Ux];rfl
end
end
def Nu:Prop:=∀zs:List Int,zs.length<=63->∃n bu is rest,n<=500/\exec gF n HP [(119,.lst (zs.map .int))] [.obj [] (-1)]=some (.ret (.bool true),bu,.obj is (-5)::rest)
def H8:Prop:=∀size d:Nat,4<=size->size<8->vQ size (mj size d)=true
def IJ:Prop:=∀h a b:Nat,h<128->a<4->b<4->∃s v hf lv x c,Gb h (1+a) (1+b) (kL h (1+a) (1+b)) s v hf lv x c
theorem e8s(HT:H8)(HF:IJ){zs:List Int}(hz:zs.length<=63):rL (bE (aQ gF (N+120)) HP [(119,.lst (zs.map .int))] [.obj [] (-1)]):=by
 have k0:ay [(119,V.lst (zs.map .int))] [(119,V.lst (zs.map .int))]:=ay.self;have e1:ev gF (N+120) G2 [(119,.lst (zs.map .int))] [.obj [] (-1)]=some (vN (uy zs),[.obj [] (-1)]):=e3x (N:=N+100) hz rfl;have hns:=c4m hz;obtain⟨aY,s1,k1⟩:=qA (i:=120) e1 k0;generalize uy zs=ns at hns s1 k1;have e2:ev gF (N+120) GV aY [.obj [] (-1)]=some (vN [kW ns 0 4,kW ns 1 1234,kW ns 2 40,kW ns 3 1862],[.obj [] (-1)]):=e5z (N:=N+100) hns (λzz zz zz=>rfl) (k1 120 _ rfl);generalize kW ns 0 4=sh at e2;generalize kW ns 1 1234=mk at e2;generalize kW ns 2 40=dr at e2;generalize kW ns 3 1862=pt at e2;have s2:=b6v (i:=211) (j:=180) (k:=122) (l:=96) e2;have k2:=(((k1.put 211 (.int (sh:Int))).put 180 (.int (mk:Int))).put 122 (.int (dr:Int))).put 96 (.int (pt:Int));generalize put 96 (.int (pt:Int)) (put 122 (.int (dr:Int)) (put 180 (.int (mk:Int)) (put 211 (.int (sh:Int)) aY)))=bw at s2 k2;have h4:=eF sh (show 0<4 from nb rfl);obtain⟨s,e,S,cC,prs,A⟩:=e5w (HT (4+sh%4) (sh / 4) (by exact gZ _ _) (by exact kD h4));obtain⟨sf,vf,hf,lv,x,c,Fl⟩:=HF (pt%128) (pt / 128%4) (pt / 512%4) (eF _ (nb rfl)) (eF _ (nb rfl)) (eF _ (nb rfl));refine jM s1 (jM s2 (e7u (N:=N) (r:=M4++Hj) (size:=4+sh%4) (sh:=sh) (mk:=mk) (dr:=dr) (pt:=pt) (nodes:=mj (4+sh%4) (sh / 4)) (W:=qq mk (4+sh%4) (mj (4+sh%4) (sh / 4))) rfl rfl rfl A.nl.2 A.kl (ay.cons (k2 211 _ rfl) (ay.cons (k2 180 _ rfl) (ay.cons (k2 122 _ rfl) (ay.cons (k2 96 _ rfl) ay.nil)))) λgq T hT K3=>?_));refine Zo (N:=N) (r:=Hj) A (by exact kD h4) rfl hT K3 λm7 K4=>?_;exact e6p (N:=N) A (by exact gZ _ _) (by exact kD h4) (Hg λzz h=>nomatch h) Fl K4 rfl
theorem lawIs(HT:H8)(HF:IJ):Nu:=by
 intro zs hz;obtain⟨v,rest,e⟩:=e8s HT HF (N:=0) hz;exact⟨121,v,[2],rest,nb rfl,e⟩
section
open PySem PySem.Float64
theorem FX.cut{a:Bool}{x:UInt64}{X:Nat}(h:FX i a x X)(hle:bh X bW=true):FX 1 a x X:=⟨h.at',zG hle⟩
section
variable (kk:Nat->Nat->Nat->Bool)
noncomputable def F2(l s H:Nat):Bool:=bB (bh jI H) (BH kk l s (fG (gz H jI)) (fG H) (fG (cK H jI))) (rC (BH kk l s (fG (gz H jI)) (fG H)) (fG (cK jI H)))
noncomputable def X8(l s M a1 a2:Nat):Bool:=rC (BH kk l s a1 a2) (fG (gz M jI))
noncomputable def Nl(l s M:Nat):Bool:=bB (bh (Aj jI) M) (M5 kk l s M) (bB (bh (Aj M) jI) (bB (bh 1 M) (rC (X8 kk l s M (fG (cK jI M))) (fG M)) false) false)
end
section
variable {h l s:UInt64}{H M L S:Nat}
theorem Od(hh:FX 8 false h H)(hl:FX 3 false l L)(hs:FX 3 false s S)(e:F2 kk L S H=true):pP 20 (some (mK dO h l s)) kk:=by
 have a1:FX 2 false (Internal.dH (sF h dO.a)) (fG (gz H jI)):=((hh.add (tF.le (by decide)) (by decide)).dH).le (by decide);have a2:FX 2 false (Internal.dH h) (fG H):=hh.dH.le (by decide);rcases jv e with⟨c,e⟩|⟨c,e⟩
 ·exact B4 a1 a2 ((hh.sub tF (bD.mp c) (by decide)).dH.le (by decide)) hl hs e
 ·obtain⟨c3,e⟩:=bX e
  have hlt:H<jI:=uL λq=>by rw[bD.mpr q]at c;exact nt c.symm
  exact B4 a1 a2 ((hh.Es tF hlt (by decide)).tL (bD.mp c3)) hl hs e
theorem e7q(hh:FX 8 true h M)(hl:FX 3 false l L)(hs:FX 3 false s S)(e:Nl kk L S M=true):pP 20 (some (mK dO h l s)) kk:=by
 rcases jv e with⟨c,e⟩|⟨c,e⟩
 ·exact Zw (hh.le (by decide)) hl hs e
 ·obtain⟨c1,e⟩:=bX e
  have hlt:M<jI:=bD.mp c1;obtain⟨c0,e⟩:=bX e;obtain⟨c2,e⟩:=bX e;obtain⟨c3,e⟩:=bX e;exact B4 ((hh.g3d tF hlt (by decide)).dH.le (by decide)) (hh.tL (bD.mp c2)) ((hh.KA (tF.le (by decide)) (bD.mp c0) (by decide)).tL (bD.mp c3)) hl hs e
end
noncomputable def MP(A B C:Nat):Bool:=bB (bh A bW) (bB (bh B bW) (bh C bW) false) false
noncomputable def tW(K p q r A B C:Nat):Bool:=bB (cU (B5 K A) p) (bB (cU (B5 K B) q) (cU (B5 K C) r) false) false
noncomputable def Wo(S W m0 m1 m2 d0 d1 d2 A B C:Nat):Bool:=bB (MP A B C) (bB (Br (tW 1024 m0 m1 m2) A B C) (Br (tW 512 d0 d1 d2) (gz A nE) S W) false) false
noncomputable def WJ(L Q m0 m1 m2 d0 d1 d2 A B C:Nat):Bool:=bB (MP A B C) (bB (F2 (tW 1024 m0 m1 m2) B C A) (bB (bh nE A) (F2 (tW 512 d0 d1 d2) L Q (cK A nE)) (Nl (tW 512 d0 d1 d2) L Q (cK nE A))) false) false
noncomputable def BA(S W L Q m0 m1 m2 d0 d1 d2:Nat):Bool:=bB (NF (Wo S W m0 m1 m2 d0 d1 d2) (fN m0 512) (fN m1 512) (fN m2 512)) (GP (WJ L Q m0 m1 m2 d0 d1 d2) (fN m0 512) (fN m1 512) (fN m2 512)) false
theorem BW{t:C3}{A B C K q r:Nat}(h1:FX 21 false t.1 A)(h2:FX 21 false t.2.1 B)(h3:FX 21 false t.2.2 C)(hK:K<2^12)(e:tW K p q r A B C=true):zj K t (p,q,r):=by
 obtain⟨c0,e⟩:=bX e;obtain⟨c1,c2⟩:=bX e;refine⟨?_,?_,?_⟩
 ·rw[HQ h1 hK,jz c0]
 ·rw[HQ h2 hK,jz c1]
 ·rw[HQ h3 hK,jz c2]
theorem Pk{d:Cl}(hn:0<n)(h:d.1<n*2^1/\d.2.1<n*2^1/\d.2.2<n*2^1):∃x:C3,vR n d x/\FX 2 false x.1 (fN d.1 n)/\FX 2 false x.2.1 (fN d.2.1 n)/\FX 2 false x.2.2 (fN d.2.2 n):=by
 obtain⟨a,q1,f1⟩:=u0 (d:=n) (k:=1) hn h.1 (by decide);obtain⟨b,q2,f2⟩:=u0 (d:=n) (k:=1) hn h.2.1 (by decide);obtain⟨c,q3,f3⟩:=u0 (d:=n) (k:=1) hn h.2.2 (by decide);exact⟨(a,b,c),⟨q1,q2,q3⟩,f1,f2,f3⟩
theorem GN{s v:UInt64}{m d:Cl}{S W L Q:Nat}(hs:FX 3 false s S)(hv:FX 3 false v W)(hl:FX 3 false lv.2.1 L)(hq:FX 3 false lv.2.2 Q)(hm:m.1<1024/\m.2.1<1024/\m.2.2<1024)(e:BA S W L Q m.1 m.2.1 m.2.2 d.1 d.2.1 d.2.2=true)(b:Bool):∃x t ag fr,Bq s v lv m d b x t ag fr:=by
 obtain⟨e1,e2⟩:=bX e;obtain⟨x,hx,x1,x2,x3⟩:=Pk (n:=512) (d:=m) (by decide) hm;cases b with
 |true=>
  obtain⟨t,A,B,C,o,a1,a2,a3,e⟩:=d8o (x1.le (by decide)) (x2.le (by decide)) (x3.le (by decide)) e1;obtain⟨c,e⟩:=bX e;obtain⟨c1,c⟩:=bX c;obtain⟨c2,c3⟩:=bX c;obtain⟨e3,e4⟩:=bX e;have b1:=a1.cut c1;obtain⟨ag,A1,B1,C1,o1,p1,p2,p3,k1⟩:=G3 (b1.le (by decide)) ((a2.cut c2).le (by decide)) ((a3.cut c3).le (by decide)) e3;have hf:FX 3 false (sF t.1 vU) (gz A nE):=b1.add wD (by decide);obtain⟨fr,A2,B2,C2,o2,q1,q2,q3,k2⟩:=G3 (hf.le (by decide)) hs hv e4;exact⟨x,t,ag,fr,hx,OM b1 (bD.mp c1),o,o1,o2,BW (p1.le (by decide)) (p2.le (by decide)) (p3.le (by decide)) (by decide) k1,BW (q1.le (by decide)) (q2.le (by decide)) (q3.le (by decide)) (by decide) k2⟩
 |false=>
  obtain⟨t,A,B,C,o,a1,a2,a3,e⟩:=Qo (x1.le (by decide)) (x2.le (by decide)) (x3.le (by decide)) e2;obtain⟨c,e⟩:=bX e;obtain⟨c1,c⟩:=bX c;obtain⟨c2,c3⟩:=bX c;obtain⟨e3,e4⟩:=bX e;have b1:=a1.cut c1;obtain⟨ag,A1,B1,C1,o1,p1,p2,p3,k1⟩:=Od (b1.le (by decide)) ((a2.cut c2).le (by decide)) ((a3.cut c3).le (by decide)) e3;have fin:pP 20 (some (mK dO (qJ t.1 vU) lv.2.1 lv.2.2)) (tW 512 d.1 d.2.1 d.2.2):=by
   rcases jv e4 with⟨c4,e4⟩|⟨c4,e4⟩
   ·exact Od ((b1.sub wD (bD.mp c4) (by decide)).le (by decide)) hl hq e4
   ·have hlt:A<nE:=uL λq=>by rw[bD.mpr q]at c4;exact nt c4.symm
    exact e7q ((b1.Es wD hlt (by decide)).le (by decide)) hl hq e4
  obtain⟨fr,A2,B2,C2,o2,q1,q2,q3,k2⟩:=fin;exact⟨x,t,ag,fr,hx,OM b1 (bD.mp c1),o,o1,o2,BW (p1.le (by decide)) (p2.le (by decide)) (p3.le (by decide)) (by decide) k1,BW (q1.le (by decide)) (q2.le (by decide)) (q3.le (by decide)) (by decide) k2⟩
end
section
open PySem PySem.Float64
noncomputable def K9(S W d0 d1 d2 A B C:Nat):Bool:=bB (bh B bW) (bB (bh C bW)
 (bB (BA S W B C (mW d0 d2) (mW d1 d0) (mW d2 d1) d1 d2 d0)
 (bB (BA S W B C (mW d0 d1) (mW d1 d2) (mW d2 d0) d2 d0 d1)
 (BA S W B C (mW d2 d1) (mW d0 d2) (mW d1 d0) d0 d1 d2) false) false) false) false
noncomputable def M0(d0 d1 d2:Nat):Bool:=bB (cU d0 d1) (bB (cU d1 d2) false true) true
noncomputable def MN(S W d0 d1 d2:Nat):Bool:=bB (M0 d0 d1 d2) (GP (K9 S W d0 d1 d2) (fN d0 256) (fN d1 256) (fN d2 256)) false
noncomputable def W2(d0 d1 d2 A B C:Nat):Bool:=bB (cU A (fN d0 256)) (bB (cU B (fN d1 256)) (cU C (fN d2 256)) false) false
noncomputable def Nq(h S W d0 d1 d2:Nat):Bool:=Br (W2 d0 d1 d2) (fN h 32) S W
theorem Ws{s v:UInt64}{d:Cl}{S W A B C:Nat}(hs:FX 3 false s S)(hv:FX 3 false v W)(h2:FX 21 false lv.2.1 B)(h3:FX 21 false lv.2.2 C)(hd:d.1<=256/\d.2.1<=256/\d.2.2<=256)(e:K9 S W d.1 d.2.1 d.2.2 A B C=true):zw s v lv d:=by
 obtain⟨c1,e⟩:=bX e;obtain⟨c2,e⟩:=bX e;obtain⟨m1,e⟩:=bX e;obtain⟨m2,m3⟩:=bX e;have l2:FX 3 false lv.2.1 B:=(h2.cut c1).le (by decide);have l3:FX 3 false lv.2.2 C:=(h3.cut c2).le (by decide);obtain⟨d0,d1,d2⟩:=d;dsimp only at hd;have Lw:=GN (m:=nu (bP (d0,d1,d2) 0) (bP (d0,d1,d2) 1)) (d:=bP (d0,d1,d2) 2) hs hv l2 l3 ⟨by exact qh hd.1 hd.2.2,by exact qh hd.2.1 hd.1,by exact qh hd.2.2 hd.2.1⟩ m1;have Lv:=GN (m:=nu (bP (d0,d1,d2) 0) (bP (d0,d1,d2) 2)) (d:=bP (d0,d1,d2) 1) hs hv l2 l3 ⟨by exact qh hd.1 hd.2.1,by exact qh hd.2.1 hd.2.2,by exact qh hd.2.2 hd.1⟩ m2;have Lu:=GN (m:=nu (bP (d0,d1,d2) 1) (bP (d0,d1,d2) 2)) (d:=bP (d0,d1,d2) 0) hs hv l2 l3 ⟨by exact qh hd.2.2 hd.2.1,by exact qh hd.1 hd.2.2,by exact qh hd.2.1 hd.1⟩ m3;have HE:∀a b:Cl,nu a b=nu b a:=λa b=>by unfold nu;rw[kg a.1,kg a.2.1,kg a.2.2]
 intro a b e ha hb hab;rcases(by decide:∀k<3,k=0∨k=1∨k=2) a ha with rfl|rfl|rfl<;>rcases(by decide:∀k<3,k=0∨k=1∨k=2) b hb with rfl|rfl|rfl
 ·exact absurd rfl hab
 ·exact Lw e
 ·exact Lv e
 ·rw[HE];exact Lw e
 ·exact absurd rfl hab
 ·exact Lu e
 ·rw[HE];exact Lv e
 ·rw[HE];exact Lu e
 ·exact absurd rfl hab
theorem X0{d0 d1 d2:Nat}(h:M0 d0 d1 d2=true):¬(d0=d1/\d1=d2):=by
 rintro⟨h1,h2⟩;rcases jv h with⟨_,h⟩|⟨c,_⟩
 ·rcases jv h with⟨_,h⟩|⟨c,_⟩
  ·exact nt h
  ·rw[h2,Ao]at c;exact nt c.symm
 ·rw[h1,Ao]at c;exact nt c.symm
theorem YR{h:Nat}{d:Cl}(hh:h<128)(hs:sh<8)(hv:vl<8)(hd:d.1<=256/\d.2.1<=256/\d.2.2<=256)(e1:MN (fN sh 4) (fN vl 4) d.1 d.2.1 d.2.2=true)(e2:Nq h (fN sh 4) (fN vl 4) d.1 d.2.1 d.2.2=true):∃s v hf lv x c,Gb h sh vl d s v hf lv x c:=by
 obtain⟨s,q1,f1⟩:=u0 (d:=4) (n:=sh) (k:=1) (by decide) hs (by decide);obtain⟨v,q2,f2⟩:=u0 (d:=4) (n:=vl) (k:=1) (by decide) hv (by decide);obtain⟨hf,q3,f3⟩:=u0 (d:=32) (n:=h) (k:=3) (by decide) (fj hh (by decide)) (by decide);obtain⟨x,hx,x1,x2,x3⟩:=Pk (n:=256) (d:=d) (by decide) ⟨by exact bz (dc hd.1),by exact bz (dc hd.2.1),by exact bz (dc hd.2.2)⟩;have f1:=f1.le (j:=3) (by decide);have f2:=f2.le (j:=3) (by decide);obtain⟨g1,e1⟩:=bX e1;obtain⟨lv,A,B,C,o,a1,a2,a3,k1⟩:=Qo (x1.le (by decide)) (x2.le (by decide)) (x3.le (by decide)) e1;obtain⟨c,A',B',C',o2,b1,b2,b3,k2⟩:=G3 (f3.le (by decide)) f1 f2 e2;obtain⟨j1,k2⟩:=bX k2;obtain⟨j2,j3⟩:=bX k2;have t1:Internal.ez c.1 x.1=true:=(b1.ez x1).trans j1;have t2:Internal.ez c.2.1 x.2.1=true:=(b2.ez x2).trans j2;have t3:Internal.ez c.2.2 x.2.2=true:=(b3.ez x3).trans j3;refine⟨s,v,hf,lv,x,c,q1,q2,hx,o,Ws f1 f2 a2 a3 hd k1,q3,o2,?_,X0 g1⟩;show(Internal.ez c.1 x.1&&(Internal.ez c.2.1 x.2.1&&(Internal.ez c.2.2 x.2.2&&true)))=true;rw[t1,t2,t3];rfl
noncomputable def Xj(sh vl:Nat):Bool:=Ge (λh=>MN (fN sh 4) (fN vl 4) (kO sh vl (iC h 0)) (kO sh vl (iC h 32)) (kO sh vl (iC h 64))) 0 32
noncomputable def Xr(sh vl:Nat):Bool:=Ge (λh=>Nq h (fN sh 4) (fN vl 4) (kO sh vl (iC h 0)) (kO sh vl (iC h 32)) (kO sh vl (iC h 64))) 0 128
noncomputable def ju(sh vl:Nat):Bool:=bB (Xj sh vl) (Xr sh vl) false
theorem Yj:ju 1 1=true:=by decide +kernel
theorem Yq:ju 1 2=true:=by decide +kernel
theorem Xy:ju 1 3=true:=by decide +kernel
theorem YM:ju 1 4=true:=by decide +kernel
theorem XX:ju 2 1=true:=by decide +kernel
theorem XZ:ju 2 2=true:=by decide +kernel
theorem X7:ju 2 3=true:=by decide +kernel
theorem YT:ju 2 4=true:=by decide +kernel
theorem Yx:ju 3 1=true:=by decide +kernel
theorem Xq:ju 3 2=true:=by decide +kernel
theorem XD:ju 3 3=true:=by decide +kernel
theorem XS:ju 3 4=true:=by decide +kernel
theorem XI:ju 4 1=true:=by decide +kernel
theorem XM:ju 4 2=true:=by decide +kernel
theorem Yw:ju 4 3=true:=by decide +kernel
theorem Xu:ju 4 4=true:=by decide +kernel
theorem Z8{a b:Nat}(ha:a<4)(hb:b<4):ju (1+a) (1+b)=true:=by
 rcases(by decide:∀a<4,a=0∨a=1∨a=2∨a=3) a ha with rfl|rfl|rfl|rfl<;>rcases(by decide:∀b<4,b=0∨b=1∨b=2∨b=3) b hb with rfl|rfl|rfl|rfl
 ·exact Yj
 ·exact Yq
 ·exact Xy
 ·exact YM
 ·exact XX
 ·exact XZ
 ·exact X7
 ·exact YT
 ·exact Yx
 ·exact Xq
 ·exact XD
 ·exact XS
 ·exact XI
 ·exact XM
 ·exact Yw
 ·exact Xu
theorem e2e:((dw 128).all λh=>[0,32,64].all λc=>cU (iC h c) (iC (h%32) c))=true:=by decide +kernel
theorem e6a{h:Nat}(hh:h<128):kL h sh vl=kL (h%32) sh vl:=by
 have w:=λc hc=>jz (cN.mp (cN.mp e2e h (pM.mpr hh)) c hc);unfold kL;rw[w 0 (by decide),w 32 (by decide),w 64 (by decide)]
theorem HD{w:Nat}(hv:vl<=4):kO sh vl w<=256:=aV (R8 hv (lS 64 _)) (by decide)
theorem d7i:IJ:=by
 intro h a b hh ha hb;obtain⟨k1,k2⟩:=bX (Z8 ha hb);have e1:=Pn k1 (eF h (show 0<32 by decide));have e2:=Pn k2 hh;rw[kZ]at e1 e2;refine YR hh (by exact kD ha) (by exact kD hb) ⟨HD (by exact kD (lq hb)),HD (by exact kD (lq hb)),HD (by exact kD (lq hb))⟩ ?_ e2;rw[e6a hh];exact e1
end
noncomputable def d8(size a n:Nat):Bool:=(sQ a n).all λd=>vQ size (mj size d)
theorem ch4:d8 4 0 6=true:=by decide +kernel
theorem ch5:d8 5 0 24=true:=by decide +kernel
theorem XF:d8 6 0 40=true:=by decide +kernel
theorem Yb:d8 6 40 40=true:=by decide +kernel
theorem YL:d8 6 80 40=true:=by decide +kernel
theorem YG:d8 7 0 40=true:=by decide +kernel
theorem Yy:d8 7 40 40=true:=by decide +kernel
theorem Yl:d8 7 80 40=true:=by decide +kernel
theorem YE:d8 7 120 40=true:=by decide +kernel
theorem YF:d8 7 160 40=true:=by decide +kernel
theorem Yo:d8 7 200 40=true:=by decide +kernel
theorem YA:d8 7 240 40=true:=by decide +kernel
theorem X5:d8 7 280 40=true:=by decide +kernel
theorem XJ:d8 7 320 40=true:=by decide +kernel
theorem Yp:d8 7 360 40=true:=by decide +kernel
theorem Zg:d8 7 400 40=true:=by decide +kernel
theorem ZF:d8 7 440 40=true:=by decide +kernel
theorem Zx:d8 7 480 40=true:=by decide +kernel
theorem ZI:d8 7 520 40=true:=by decide +kernel
theorem Za:d8 7 560 40=true:=by decide +kernel
theorem YZ:d8 7 600 40=true:=by decide +kernel
theorem e8x:d8 7 640 40=true:=by decide +kernel
theorem Z7:d8 7 680 40=true:=by decide +kernel
theorem GI{a:Nat}(h:d8 size a n=true)(h1:a<=d)(h2:d<a+n):vQ size (mj size d)=true:=
 cN.mp h d (List.mem_range'_1.mpr ⟨h1,h2⟩)
theorem Ng{b:Nat}(H:∀k,k<b->d8 size (40*k) 40=true)(h:d<40*b):vQ size (mj size d)=true:=by
 have h1:=g4q d 40;have h2:=eF d (show 0<40 by decide);refine GI (H (d / 40) (JI h)) (g4g d 40) ?_;exact ck (gY h1.symm) (g4s h2 _)
theorem ig{p:Nat->Prop}(h:∀k,k<n->p k)(hn:p n):∀k,k<n+1->p k:=λk hk=>(Nat.lt_succ_iff_lt_or_eq.mp hk).elim (h k) λe=>e▸hn
theorem ch6:∀k,k<3->d8 6 (40*k) 40=true:=ig (ig (ig (λk h=>absurd h (nQ k)) XF) Yb) YL
theorem Xa:∀k,k<6->d8 7 (40*k) 40=true:=ig (ig (ig (ig (ig (ig (λk h=>absurd h (nQ k)) YG) Yy) Yl) YE) YF) Yo
theorem WR:∀k,k<6->d8 7 (40*(6+k)) 40=true:=ig (ig (ig (ig (ig (ig (λk h=>absurd h (nQ k)) YA) X5) XJ) Yp) Zg) ZF
theorem WQ:∀k,k<6->d8 7 (40*(12+k)) 40=true:=ig (ig (ig (ig (ig (ig (λk h=>absurd h (nQ k)) Zx) ZI) Za) YZ) e8x) Z7
theorem ch7(k:Nat)(h:k<18):d8 7 (40*k) 40=true:=by
 rcases JE k 6 with q|q
 ·exact Xa k q
 ·obtain⟨j,rfl⟩:=Si q
  have h:=g4l (show 6+j<6+12 from h);rcases JE j 6 with q|q
  ·exact WR j q
  ·obtain⟨i,rfl⟩:=Si q
   rw[←nS];exact WQ i (g4l (show 6+i<6+6 from h))
theorem WS(h4:4<=size)(h8:size<8):size=4∨size=5∨size=6∨size=7:=(by decide:∀k<8,4<=k->k=4∨k=5∨k=6∨k=7) size h8 h4
theorem e2s:H8:=by
 intro size d h4 h8;rw[d1o];rcases WS h4 h8 with rfl|rfl|rfl|rfl
 ·exact GI ch4 (iV _) (by rw[kZ];exact eF d (by decide))
 ·exact GI ch5 (iV _) (by rw[kZ];exact eF d (by decide))
 ·exact Ng ch6 (eF d (by decide))
 ·exact Ng ch7 (eF d (by decide))
section
set_option maxHeartbeats 4000000
noncomputable def PU(es:Array tw):Bool:=es.toList.all λe=>match e.key with|.str _ _=>true|_=>false
theorem c5b{es:Array tw}(h:PU es=true):StrKeys es:=by
 intro e he;have:=cN.mp h e (by simpa using he);induction hk:e.key using Jo with
 |str n t=>exact⟨n,t,rfl⟩
 |_=>rw[hk]at this;cases this
theorem Hl{es:Array tw}{ep:Nat}(X:K.In base)(hl:K.lookup a=some o)(hd:o.data=.dict es ep)(hk:PU es=true):base.Ns a (nsFind es):=
 ⟨o,es,ep,X a o hl,hd,c5b hk,λzz=>rfl⟩
theorem cl{t:Addr}(h:K.lookup a=some o)(hn:(a==t)=false:=by rfl):(K.filter λp=>p.1 != t).lookup a=some o:=by
 induction K with
 |nil=>exact h
 |cons p r ih=>
  rw[ek]at h;by_cases e:a=p.1
  ·rw[show(a==p.1)=true by rw[e];exact beq_self_eq_true _]at h
   have hp:(p.1 != t)=true:=by rw[←e,bne,hn];rfl
   rw[Aw (p:=λp:Addr×Obj=>p.1 != t) hp,ek,show(a==p.1)=true by rw[e];exact beq_self_eq_true _];exact h
  ·rw[show(a==p.1)=false from beq_false_of_ne e]at h
   by_cases hp:(p.1 != t)=true
   ·rw[Aw (p:=λp:Addr×Obj=>p.1 != t) hp,ek,show(a==p.1)=false from beq_false_of_ne e];exact ih h
   ·rw[D7 (p:=λp:Addr×Obj=>p.1 != t) hp];exact ih h
theorem Zd{t:Addr}(h:(K.filter λp=>p.1 != t).lookup a=some o):K.lookup a=some o/\a≠t:=by
 induction K with
 |nil=>cases h
 |cons p r ih=>
  by_cases hp:(p.1 != t)=true
  ·rw[Aw (p:=λp:Addr×Obj=>p.1 != t) hp,ek]at h
   by_cases e:a=p.1
   ·rw[show(a==p.1)=true by rw[e];exact beq_self_eq_true _]at h
    refine⟨?_,λq=>?_⟩
    ·rw[ek,show(a==p.1)=true by rw[e];exact beq_self_eq_true _];exact h
    ·rw[←e,q]at hp;simp at hp
   ·rw[show(a==p.1)=false from beq_false_of_ne e]at h
    obtain⟨h1,h2⟩:=ih h;exact⟨by rw[ek,show(a==p.1)=false from beq_false_of_ne e];exact h1,h2⟩
  ·rw[D7 (p:=λp:Addr×Obj=>p.1 != t) hp]at h
   obtain⟨h1,h2⟩:=ih h;have ht:p.1=t:=by simpa using hp
   exact⟨by rw[ek,show(a==p.1)=false from beq_false_of_ne λq=>h2 (q.trans ht)];exact h1,h2⟩
theorem Y6{c t:Addr}(X:K.In h):JZ (K.filter λp=>p.1 != t) (ghostOf h [(c,t)]):=λa o e=>by
 obtain⟨h1,h2⟩:=Zd e;exact ghost_ne (X a o h1) (by simpa using h2)
noncomputable def gQ:iZ where
 qual:=("_law_stream":Str)++".<locals>."++"<lambda>"
 params:={posonlyargs:=[],args:=[{arg:="size",annotation:=none,pos:={line:=218,col:=25,endLine:=218,endCol:=29}}],vararg:=none,kwonlyargs:=[],kw_defaults:=[],kwarg:=none,defaults:=[]}
 scope:={kind:=ScopeKind.function,names:=[("size",fU.local),("letters",qP)],isGenerator:=false,isCoroutine:=false}
 p1:={line:=218,col:=48,endLine:=218,endCol:=55}
 p2:={line:=218,col:=31,endLine:=218,endCol:=38}
 p3:={line:=218,col:=31,endLine:=218,endCol:=42}
 p4:={line:=218,col:=31,endLine:=218,endCol:=44}
 p5:={line:=218,col:=61,endLine:=218,endCol:=63}
 p6:={line:=218,col:=31,endLine:=218,endCol:=63}
 kd:=0
 m9:={line:=217,col:=13,endLine:=217,endCol:=25}
 pos:={line:=218,col:=18,endLine:=218,endCol:=63}
theorem Y7:ug gQ where
 bind:=λcl pm cdv ct v=>by kernel_rfl
 size:=by decide +kernel
 letters:=by decide +kernel
 x7:=by decide +kernel
 kind:=rfl
 coro:=rfl
 gen:=rfl
 line:=by decide +kernel
noncomputable def Oj(e:tw):Str:=match e.key with
 |.str x _=>x
 |_=>""
theorem e8c{P:Params}:∀{l:List tw},l.all (λe=>match e.key with|.str _ _=>true|_=>false)=true->l.map (·.hash)=l.map (λe=>nO.keyHash P (Oj e))->KeysLit P l:=by
 intro l;induction l with
 |nil=>exact λzz zz=>trivial
 |cons e l ih=>
  intro h1 h2;obtain⟨h3,h4⟩:=fZ h2;refine⟨?_,ih (aR h1) h4⟩;have h1:=aP h1;unfold Oj at h3;dsimp only at h1 h3;induction hk:e.key using Jo with
  |str x t=>rw[hk]at h3;exact⟨x,t,rfl,h3⟩
  |_=>rw[hk]at h1;exact nt h1
noncomputable def Np(v:ao)(x:Str):Bool:=match v with
 |.str y _=>y==x
 |_=>false
noncomputable def NG(v:ao)(x:Int):Bool:=match v with
 |.int y _=>y==x
 |_=>false
noncomputable def Hs(l:List tw)(D:List (List Nat×Int)):Bool:=l.length==D.length&&(l.zip D).all λp=>Np p.1.key (txt p.2.1)&&NG p.1.val p.2.2
theorem d9i{v:ao}(h:Np v x=true):∃t,v=.str x t:=by
 induction v using Jo with
 |str y t=>obtain rfl:=eq_of_beq (show(y==x)=true from h);exact⟨t,rfl⟩
 |_=>exact nt h
theorem d7h{v:ao}{x:Int}(h:NG v x=true):∃t,v=.int x t:=by
 induction v using Jo with
 |int y t=>obtain rfl:=eq_of_beq (show(y==x)=true from h);exact⟨t,rfl⟩
 |_=>exact nt h
section
theorem d1v(l:List tw):∀{D:List (List Nat×Int)},Hs l D=true->∃kvs,Pairs (strKind prog w) l kvs/\PyProof.V.FlatPairs Ju kvs (D.map λp=>(.str ⟨p.1.toArray⟩,.int p.2))/\kvs.map (·.1)=D.map λp=>txt p.1:=by
 induction l with
 |nil=>
  intro D h;induction D using aN with
  |nil=>exact⟨[],.nil,.nil,rfl⟩
  |cons d q=>exact nt h
 |cons e r ih=>
  intro D h;induction D using aN with
  |nil=>exact nt h
  |cons d q=>
   have h2:=aR h;obtain⟨kvs,a,b,c⟩:=ih (D:=q) (by unfold Hs;rw[show(r.length==q.length)=true from beq_iff_eq.mpr (lR (eq_of_beq (aP h)))];exact aR h2);obtain⟨t,hk⟩:=d9i (aP (aP h2));obtain⟨u,hv⟩:=d7h (aR (aP h2));exact⟨(txt d.1,e.val)::kvs,.cons (by rw[hk];exact strKind_is prog w _ t) rfl a,.cons (by rw[hv];exact g7s _ _) b,by rw[fm,fm,c]⟩
theorem d2f  {es:Array tw}  {D:List (List Nat×Int)} (X:K.In base) (lo:(a==sysModules)=false) (hl:K.lookup a=some ⟨.type "dict",none,.dict es n,#[]⟩) (hk:KeysLit w.params es.toList) (hc:Hs es.toList D=true) (hn:(D.map λp=>txt p.1).Nodup) :
  StrTab prog w base a (D.map λp=>(.str ⟨p.1.toArray⟩,.int p.2)):=by
 obtain⟨kvs,h1,h2,h3⟩:=d1v (prog:=prog) (w:=w) _ hc;refine TabAt.ofObj lo (X _ _ hl) ⟨es,n,⟨rfl,rfl,rfl⟩,rfl,λe he=>?_,h1,by rw[h3];exact hn⟩ h2;obtain⟨x,t,e1,e2⟩:=hk.all e (Array.mem_toList_iff.mpr he);exact⟨x,by rw[e1];exact strKind_is prog w x t,e2⟩
end
theorem c9k{m m':Str->Option ao}(x:h.Ns a m)(y:h.Ns a m'):m=m':=by
 obtain⟨o,es,ep,e1,e2,_,e3⟩:=x;obtain⟨o',es',Gv,f1,f2,_,f3⟩:=y;rw[e1]at f1;obtain rfl:=aD f1;rw[e2]at f2;cases f2;funext z;rw[←e3,←f3]
theorem b9t   (h:env.cells.lookup ("letters":Str)=some LC):closureFor gQ.scope env=pure [(("letters":Str),LC)]:=by
 refine(OJ (scope:=gQ.scope) (uP.mpr ⟨λq=>absurd q (by decide),uP.mpr ⟨λzz=>⟨LC,h⟩,g5p _⟩⟩)).trans (congrArg pure ?_);show [(("letters":Str),(env.cells.lookup ("letters":Str)).getD 0)]=_
 rw[h];rfl
section
theorem d5q(D:oQ base names is ss)(hbig:base.NoLimit)(ht:Z.ah=eO)(S:cj prog w Lx base Z)(LX:∀n,nF prog w Lx base Z n)
  (h:exec Z n ss (is.zip args) O=some (.ret v,bu,aE)) (hlen:is.length=args.length) {A:fu}{R:xe->aC->Prop}{s:aC}{as:List (List Addr)}{vals:List ao} (rm:Rm A s (n+1)) (g:GR Lx base O as s.heap) (ra:aJ s.heap as args vals)
  (hR:∀u cz hJ tk,GR Lx base aE cz hJ->Rep hJ cz v u->R (.ok (.ret u)) {s with heap:=hJ,toks:=tk}):codeAny (model prog w) A (.call (.ref D.a) ⟨vals,[]⟩) R s:=by
 have hok:=D.ok;unfold AW at hok;simp only[jm,g7d,decide_eq_true_eq]at hok;obtain⟨⟨⟨⟨⟨⟨⟨h1,h2⟩,h3⟩,h4⟩,h5⟩,h6⟩,h7⟩,h8⟩:=hok;have e8:D.fd.scope.kind=.function:=by simpa using h8
 obtain⟨mt,k,t⟩:=D.tr;have hi:bJ (nid eO) names=some is:=by simpa using h1
 have hl:names.length=vals.length:=by rw[ra.length,←hlen,wO hi]
 have bk:∀env s',1<=s'.toks->Rm (A.deeper env) s' n:=λenv s' ht=>⟨⟨rm.calm,by show A.depth+1+n<=900;exact AQ rm.depth,by show A.units+3+10*n<=9000;exact xX rm.units⟩,ht⟩;have hkn:∀x∈names,D.fd.scope.names.lookup x=some .local∨D.fd.scope.names.lookup x=some .cell:=λx hx=>by
  have:=cN.mp h3 x hx;simp only[tB,beq_iff_eq]at this;exact this
 have hfree:∀p∈D.fd.scope.names,p.2≠.free:=λp hp=>by
  have:=cN.mp h4 p hp;simpa using this
 refine DA rm.tk (by have:=rm.depth;show A.depth<1000;exact bz (lX this)) (g.keep _ _ D.at') D.data (hbig.keeps λb o e=>g.keep b o e) (D.code.keeps λb o e=>g.keep b o e) D.hbody (D.bind vals hl.symm) D.clos (λx hx=>?_) h6 h7 e8 λsI hpos x E=>?_
 ·rcases hkn x.1 (JL hx).1 with q|q
  ·exact .inl q
  ·exact .inr ⟨q,Af _ _ _ q⟩
 obtain⟨hY,dh,eI,hkeep⟩:=x.done;have gI:GR Lx base O as sI.heap/\Go as s.heap as sI.heap:=g.all λa o zz e=>x.toInCall.keep a o e;obtain⟨gI,aM⟩:=gI;have er:=CZ (ah:=eO) e8 D.glob D.built hfree h2 hi x hl g (ra.go aM);rw[eI];rw[eI]at gI er hpos;refine wQ S (by rw[ht];exact zI) LX n ss mt k D.body _ _ _ _ bu _ aE as _ (.ret v) _ (by rw[ht];exact t) (by rw[ht];exact Dw h5) ?_ (bk _ _ hpos) ⟨λzz q=>q,λzz q=>q,λzz q=>q⟩ (by rw[ht];exact er) gI h λfl cz hJ tk gJ bI gs fr=>?_
 ·show((D.fd.scope.kind==.module)&&_)=false
  rw[e8];rfl
 ·induction fl using mS<;>try exact fr.elim
  exact hR _ cz hJ tk gJ fr
end
section
noncomputable def kQ(o:Obj):FuncData:=match o.data with
 |.func fd=>fd
 |_=>default
noncomputable def HK(fd:qT):List Stmt:=match fd.body with
 |.stmts b=>b
 |_=>[]
noncomputable def Dd(o:Obj):Array Value:=match o.data with
 |.fields vs=>vs
 |_=>#[]
theorem I3(X:K.In base){e:ao}{q:Str}{c:Addr}{vs:Array ao}{t:RU}(he:e=.ref c)(ho:K.lookup c=some o)(hd:o.data=.fields vs)(hv:vs[1]?=some (.str q t)):base.CodeRec e q:=⟨c,o,vs,t,he,X c o ho,hd,hv⟩
theorem e6i{c:Addr}{oc:Obj}{t:RU}(X:K.In base)(h2:K.lookup c=some oc)(h4:fd.code=.ref c)(h5:oc.data=.fields (Dd oc))(h6:(Dd oc)[1]?=some (.str fd.qualname t)):base.CodeRec fd.code fd.qualname:=⟨c,oc,_,t,h4,X c oc h2,h5,h6⟩
theorem MU{l:List α}(h:l.length=2):∃a b,l=[a,b]:=by
 induction l using aN with
 |nil=>cases h
 |cons a r=>
  obtain⟨b,e⟩:=g5k.mp (lR h);exact⟨a,b,by rw[e]⟩
theorem F6{l:List α}(h:l.length=3):∃a b c,l=[a,b,c]:=by
 induction l using aN with
 |nil=>cases h
 |cons a r=>
  obtain⟨b,c,e⟩:=MU (lR h);exact⟨a,b,c,by rw[e]⟩
theorem rY(h:∀a,bindArgs fd ⟨[a],[]⟩=pure [(x,a)])(vals:List ao)(hv:vals.length=[x].length):bindArgs fd ⟨vals,[]⟩=pure ([x].zip vals):=by
 obtain⟨a,e⟩:=g5k.mp hv;rw[e];exact h a
theorem Ci{y:Str}(h:∀a b,bindArgs fd ⟨[a,b],[]⟩=pure [(x,a),(y,b)])(vals:List ao)(hv:vals.length=[x,y].length):bindArgs fd ⟨vals,[]⟩=pure ([x,y].zip vals):=by
 obtain⟨a,b,e⟩:=MU hv;rw[e];exact h a b
theorem vW{y z:Str}(h:∀a b c,bindArgs fd ⟨[a,b,c],[]⟩=pure [(x,a),(y,b),(z,c)])(vals:List ao)(hv:vals.length=[x,y,z].length):bindArgs fd ⟨vals,[]⟩=pure ([x,y,z].zip vals):=by
 obtain⟨a,b,c,e⟩:=F6 hv;rw[e];exact h a b c
theorem XU{y z u:Str}(h:∀a b c d,bindArgs fd ⟨[a,b,c,d],[]⟩=pure [(x,a),(y,b),(z,c),(u,d)])(vals:List ao)(hv:vals.length=[x,y,z,u].length):bindArgs fd ⟨vals,[]⟩=pure ([x,y,z,u].zip vals):=by
 induction vals using aN with
 |nil=>cases hv
 |cons a r=>
  obtain⟨b,c,d,e⟩:=F6 (lR hv);rw[e];exact h a b c d
theorem XY{y z u v:Str}(h:∀a b c d e,bindArgs fd ⟨[a,b,c,d,e],[]⟩=pure [(x,a),(y,b),(z,c),(u,d),(v,e)])(vals:List ao)(hv:vals.length=[x,y,z,u,v].length):bindArgs fd ⟨vals,[]⟩=pure ([x,y,z,u,v].zip vals):=by
 induction vals using aN with
 |nil=>cases hv
 |cons a r=>induction r using aN with
  |nil=>cases hv
  |cons b r=>
   obtain⟨c,d,e,q⟩:=F6 (lR (lR hv));rw[q];exact h a b c d e
def jf(base:Heap)(es:Str->Option ao)(x:Str)(names:List Str)(is:List Nat)(ss:List Internal.S):Prop:=∃D:oQ base names is ss,es x=some (.ref D.a)
theorem jg{c:Addr}{oc:Obj}{t:RU}(X:K.In base)(h1:K.lookup a=some o)(h2:K.lookup c=some oc)(h3:o.data=.func (kQ o))(h4:(kQ o).code=.ref c)(h5:oc.data=.fields (Dd oc))(h6:(Dd oc)[1]?=some (.str (kQ o).qualname t))
  (h7:(kQ o).body=.stmts (HK (kQ o))) (hg:(kQ o).globals=gx) (hb:(kQ o).builtins=i9) (hc:(kQ o).closure=[]) (h9:∀vals:List ao,vals.length=names.length->bindArgs (kQ o) ⟨vals,[]⟩=pure (names.zip vals)) (qe:AW eO (kQ o).scope names is=true) (h11:lW.ku eO mt 40 (kQ o).scope (HK (kQ o))=some ss) :
  ∃D:oQ base names is ss,D.a=a/\D.o=o:=
 ⟨{a:=a,o:=o,fd:=kQ o,body:=HK (kQ o),at':=X a o h1,data:=h3,code:=e6i X h2 h4 h5 h6,hbody:=h7,glob:=hg,built:=hb,clos:=hc,bind:=h9,ok:=qe,tr:=⟨mt,40,h11⟩},rfl,rfl⟩
theorem jN(D:∃D:oQ base names is ss,D.a=a/\D.o=o)(h:es x=some (.ref a)):jf base es x names is ss:=D.elim λD x=>⟨D,by rw[x.1];exact h⟩
theorem P4 {b:Addr}     (D:∃D:oQ base names is ss,D.a=a/\D.o=o) (h:a=b) (hc:o.cls=.type "function"):∃D:oQ base names is ss,D.a=b/\D.o.cls=.type "function":=D.imp λD x=>⟨x.1.trans h,by rw[x.2];exact hc⟩
end
structure NX(base:Heap)(es:Str->Option ao)(lb:LB base):Prop where
 hv:jf base es "_v" ["m1","m2","hue"] F8 F5
 h1:jf base es "hsv_to_rgb" ["h","s","v"] xd qU
 h2:jf base es "rgb_to_hsv" ["r","g","b"] DF z9
 h3:jf base es "rgb_to_hls" ["r","g","b"] DE Ab
 h4:jf base es "hls_to_rgb" ["h","l","s"] DG Ac
 h5:jf base es "ISEOF" ["x"] CX CV
 h6:jf base es "ISNONTERMINAL" ["x"] DJ DI
 h7:jf base es "ISTERMINAL" ["x"] xm Ad
 dg:∃D:oQ base ["self"] nP nM,D.a=lb.fg/\D.o.cls=.type "function"
 dp:∃D:oQ base ["self","token"] DT DH,D.a=lb.fp/\D.o.cls=.type "function"
 l1:jf base es "_law_written" ["word","number"] xo pW
 l2:jf base es "_law_tree" ["size","number"] zJ wm
 l3:jf base es "_law_words" ["size","nodes","number"] zP wH
 l4:jf base es "_law_pile" ["told"] zK wz
 l5:jf base es "_law_ears" ["lexer","counts"] zH wA
 l6:jf base es "_law_paints" ["cuts","ends","due","share","value"] zW w6
 l7:jf base es "_law_frieze" ["ring","nodes","cuts","paints"] zZ w5
 l8:jf base es "law" ["script"] Z6 HP
structure Hr(prog:jj)(w:ji)(base:Heap)(es:Str->Option ao) where
 lb:LB base
 nm:ua prog w base dO
 lex:wI prog w lb gQ 132 (gB dO)
 st:yK base gQ 132 eO 18 19 6
 AP:∃p q,st.rest=[.Return (some (.Name "stream" p)) q]
 AX:es "_law_stream" = some (.ref st.a)
 ds:NX base es lb
section
theorem Wu(Fa:Hr prog w base es)(NS:base.Ns gx es)(hbig:base.NoLimit)(hP:base.get? 132=none):cj prog w (bl Fa.lb gQ 132) base gF:=by
 have L:=Fa.lex;have S0:cj prog w (bl Fa.lb gQ 132) base g0:=W5 Fa.nm L;have LA:∀{Z:G},Z.ah=eO->cj prog w (bl Fa.lb gQ 132) base Z->∀n,nF prog w (bl Fa.lb gQ 132) base Z n:=λht S n=>PF L S (by rw[ht];exact zI) n;have add:∀{Z Γ':G}{names:List Str}{is:List Nat}{ss:List Internal.S}{x:Str} (D:jf base es x names is ss) (id:Nat),eO[id]?=some x->Z.ah=eO->Γ'.ah=eO->cj prog w (bl Fa.lb gQ 132) base Γ'->cj prog w (bl Fa.lb gQ 132) base Z->cj prog w (bl Fa.lb gQ 132) base (gv Z id (cF Γ' is ss)):=
  λhD id hid ht ht' S' S=>by
   obtain⟨D,hn⟩:=hD;refine P6 S (by rw[ht];exact hid) (qG NS hn) (.func D.a D.o _ D.at' D.data) λn args O r ai h=>?_;induction n using eG with
   |zero=>exact ns h
   |succ n=>exact Qs D hbig ht' S' (LA ht' S') h
 have zO:∀{Z:G}{names:List Str}{is:List Nat}{ss:List Internal.S} (D:oQ base names is ss) (id:Nat) (x:Str),eO[id]?=some x->Z.ah=eO->(∀u O,Z.find id u O=true->mC prog w (bl Fa.lb gQ 132) base x u O (.ref D.a))->cj prog w (bl Fa.lb gQ 132) base Z->cj prog w (bl Fa.lb gQ 132) base (vz Z id (mF g0 is ss)):=
  λ{Z}{names}{is}{ss} D id x hid ht hf S=>by
   refine⟨S.glob,S.range,S.list,S.enum,S.zip,S.sysm,S.booked,S.lE,S.call,λn m u args aS O r ai hfd h=>?_,S.attr⟩;simp only[vz]at h hfd;refine bZ h (λe h'=>?_) λzz h=>S.bY n m u args aS O r ai hfd h;clear h;subst e;induction n using eG with
   |zero=>exact ns h'
   |succ n=>exact⟨x,.ref D.a,by rw[show(vz Z m (mF g0 is ss)).ah=Z.ah from rfl,ht];exact hid,.func D.a D.o _ D.at' D.data,hf u aS hfd,Qs D hbig rfl S0 (LA rfl S0) h'⟩
 obtain⟨Dg,eg,cg⟩:=Fa.ds.dg;obtain⟨Dp,ep,cp⟩:=Fa.ds.dp;have ME:∀u O,o8 O u=true->mC prog w (bl Fa.lb gQ 132) base "get_token" u O (.ref Dg.a):=λu O h=>I8 L (.inr (.inl rfl)) (by rw[eg];exact Fa.lb.get) Dg.at' cg h
 have Xl:∀u O,o8 O u=true->mC prog w (bl Fa.lb gQ 132) base "push_token" u O (.ref Dp.a):=λu O h=>I8 L (.inr (.inr rfl)) (by rw[ep];exact Fa.lb.push) Dp.at' cp h
 have SV:=add (Z:=g0) Fa.ds.hv 64 (by decide +kernel) rfl rfl S0 S0;have SC:=add Fa.ds.h1 68 (by decide +kernel) rfl rfl S0 (add Fa.ds.h2 66 (by decide +kernel) rfl rfl S0 (add Fa.ds.h3 47 (by decide +kernel) rfl rfl S0 (add Fa.ds.h4 61 (by decide +kernel) rfl rfl SV S0)));have SK:=add Fa.ds.h5 46 (by decide +kernel) rfl rfl S0 (add Fa.ds.h6 45 (by decide +kernel) rfl rfl S0 (add Fa.ds.h7 43 (by decide +kernel) rfl rfl S0 S0));have SE:=zO Dp 23 "push_token" (by decide +kernel) rfl (λu O h=>Xl u O h) (zO Dg 22 "get_token" (by decide +kernel) rfl (λu O h=>ME u O h) S0)
 obtain⟨p1,q1,er⟩:=Fa.AP;have SS:cj prog w (bl Fa.lb gQ 132) base (gv g0 34 Py):=P6 S0 (by decide +kernel) (qG NS Fa.AX) (.func Fa.st.a _ _ Fa.st.at' Fa.st.data) λn args O r ai h=>by
  refine oK λG0 hG=>?_;generalize ha:args=args' at h;induction args' using aN with
  |nil=>exact ns h
  |cons v vs=>induction vs using aN with
   |cons _ _=>induction v using Internal.V.casesOn<;>exact ns h
   |nil=>induction v using Internal.V.casesOn with
    |str t=>
     subst ha;refine hG (aL h λhn h=>aZ h λp hm h=>pr h ?_);rintro rfl rfl;exact(d3s L.snd L.off L.nd hbig (λn t O hz=>by
      show zk 6 [.str t] O=_;rw[WL,Wn,if_pos hz]) Fa.st hP er hm).call.less hn
    |_=>exact ns h
 have S1:=add Fa.ds.l1 81 (by decide +kernel) rfl rfl S0 (add Fa.ds.l3 188 (by decide +kernel) rfl rfl S0 (add Fa.ds.l2 186 (by decide +kernel) rfl rfl S0 SS));have S2:=add Fa.ds.l5 195 (by decide +kernel) rfl rfl SE (add Fa.ds.l4 191 (by decide +kernel) rfl rfl SK S1);exact zO Dg 22 "get_token" (by decide +kernel) rfl (λu O h=>ME u O h) (add Fa.ds.h1 68 (by decide +kernel) rfl rfl S0 (add Fa.ds.l7 206 (by decide +kernel) rfl rfl S0 (add Fa.ds.l6 199 (by decide +kernel) rfl rfl SC S2)))
end
noncomputable def kN(K:Frag)(a:Addr):Str->Option Value:=match K.lookup a with
 |some ⟨_,_,.dict es _,_⟩=>nsFind es
 |_=>λzz=>none
noncomputable def vD(K:Frag):Str->Option Value:=kN K 3
theorem Ys   (X:K.In base) {N fg fp:Addr}{nm q:Str}{bs:List ao}{sn:List Str}{sub:List ao}{col:Option Bool}{dd:Option Addr}{k0 k1 k2 k3 k5:Option ao} (h1:K.lookup C=some (excClassObj nm q C N bs [.type "object"] true sn sub false col dd k0 k1 k2 k3 k5 "object.__new__")) (h2:base.Ns N (kN K N))
  (u5:kN K N "__getattribute__" = .none) (x8:kN K N "__getattr__" = .none) (xZ:kN K N "__setattr__" = .none) (o1:kN K N "lineno" = .none) (o2:kN K N "instream" = .none) (o3:kN K N "whitespace" = .none) (o4:kN K N "pushback" = .none)
  (read:kN K N "_read_char" = some (.ref fr)) (get:kN K N "get_token" = some (.ref fg)) (push:kN K N "push_token" = some (.ref fp)) (ini:kN K N "__init__" = some (.ref fi)) :
  ∃lb:LB base,lb.C=C/\lb.fr=fr/\lb.fg=fg/\lb.fp=fp/\lb.mN "__init__" = some (.ref fi)/\ClsAt base lb.C lb.N lb.mN:=
 ⟨{C:=C,N:=N,mN:=kN K N,cls:=.mk (X C _ h1),ns:=h2,u5:=u5,x8:=x8,xZ:=xZ,own:=λx h=>h.elim (λe=>e▸o1) λh=>h.elim (λe=>e▸o2) λh=>h.elim (λe=>e▸o3) λe=>e▸o4,fr:=fr,fg:=fg,fp:=fp,read:=read,get:=get,push:=push},rfl,rfl,rfl,rfl,ini,⟨⟨nm,q,bs,sn,sub,col,dd,k0,k1,k2,k3,k5,X C _ h1⟩,h2⟩⟩
section
variable {mb:Str->Option ao}
theorem kT (NS:base.Ns gx es) (hb:base.Ns i9 mb) (hbi:∀x:Str,x ≠ "__name__" -> mb x=bootBuiltins x) (x:Str) (v:ao) (hn:x ≠ "__name__") (h:es x=none) (hv:bootBuiltins x=some v):cO prog w base x v:=
 b8v NS h hb ((hbi x hn).trans hv)
noncomputable def YQ {lb:LB base} (NM:ua prog w base dO) (hbig:base.NoLimit) (rd:vt lb eO 16 17) (rc:rd.o.cls=.type "function") (iter:cO prog w base "iter" (.builtin "iter")) (kG:cO prog w base "_netrclex" (.ref lb.C)) (cls:ClsAt base lb.C lb.N lb.mN) (makes:Makes (model prog w) base lb.C) (init:ur lb):wI prog w lb gQ 132 (gB dO) where
 snd:=MH NM
 off:=rfl
 nd:=zI
 lam:=Y7
 nolimit:=hbig
 js:=16
 jc:=17
 rd:=rd
 Eu:=rc
 iter:=iter
 kG:=kG
 cls:=cls
 makes:=makes
 init:=init
end
theorem d5d     {lb:LB base} (NM:ua prog w base dO) (hbig:base.NoLimit) (rd:vt lb eO 16 17) (rc:rd.o.cls=.type "function") (iter:cO prog w base "iter" (.builtin "iter")) (kG:cO prog w base "_netrclex" (.ref lb.C)) (cls:ClsAt base lb.C lb.N lb.mN) (makes:Makes (model prog w) base lb.C) (init:ur lb)
  (st:yK base gQ 132 eO 18 19 6) (AP:∃p q,st.rest=[.Return (some (.Name "stream" p)) q]) (AX:es "_law_stream" = some (.ref st.a)) (ds:NX base es lb):Nonempty (Hr prog w base es):=
 ⟨{lb:=lb,nm:=NM,lex:=YQ NM hbig rd rc iter kG cls makes init,st:=st,AP:=AP,AX:=AX,ds:=ds}⟩
theorem d6v{sI:aC}{mb:Str->Option ao}{l fa:Addr}{zs:List Int}(HL:Nu)(KX:K.In sI.heap)(ht:1<=sI.toks)(hT:TabsAt [(136,132)] sI.heap)(hes:∀base,JZ (K.filter λp=>p.1 != 132) base->base.Ns gx (vD K))
  (Fa:∀base:Heap,JZ (K.filter λp=>p.1 != 132) base->base.Ns gx (vD K)->base.Ns i9 mb->base.NoLimit->base.BuiltinsAt (vD K) 132->Nonempty (Hr prog w base (vD K)))
  (hmg:sI.heap.Ns gx mg) (Vj:mg "law" = some (.ref fa)) (hmb:sI.heap.Ns i9 mb) (hbig:sI.heap.NoLimit)
  (hbm:∃bm ob,mg "__builtins__" = some (.ref bm)/\bm≠i9/\sI.heap.get? bm=some ob/\ob.cls=.type "module" /\ ob.dict=some i9/\ob.data=.plain)
  (hl:sI.heap.PlainList l vs.toArray) (hI:sY vs zs) (h63:zs.length<=63)
  (hR:∀h' tk,(∀b o,(ghostOf sI.heap [(136,132)]).get? b=some o->h'.get? b=some o)->GrownAll [(136,132)] h'->R (.ok (.ret (.bool true))) {sI with heap:=h',toks:=tk}) :
  codeAny (model prog w) callerA (.call (.ref fa) ⟨[.ref l],[]⟩) R sI:=by
 refine fF (ghostOf sI.heap [(136,132)]) λbase hbase=>?_;have X:JZ (K.filter λp=>p.1 != 132) base:=by rw[hbase];exact Y6 KX
 have NS:=hes base X;have ng:base.Ns gx mg:=by rw[hbase];exact ghost_ns hT hmg
 have nb:base.Ns i9 mb:=by rw[hbase];exact ghost_ns hT hmb
 have big:base.NoLimit:=by obtain⟨mc,a,r⟩:=hbig;exact⟨mc,by rw[hbase];exact ghost_ns hT a,r⟩
 have hP:base.get? 132=none:=by rw[hbase];exact hideAll_none _ (by simp)
 have rB:sI.heap.get? 132=some (tabObj #[]):=(hT (136,132) (by simp)).2;have NN:mg=vD K:=c9k ng NS;have hBA:base.BuiltinsAt (vD K) 132:=by
  obtain⟨bm,ob,b1,b2,b3,b4,b5,b6⟩:=hbm;refine⟨bm,ob,by rw[←NN];exact b1,b2,λq=>?_,λq=>?_,by rw[hbase];exact ghost_get hT b3 (λq=>by rw[q]at b4;cases b4),b4,b5,b6⟩
  ·obtain⟨o,es,ep,e,hd,_⟩:=hmg
   rw[q,e]at b3;cases b3;rw[hd]at b6;cases b6
  ·rw[q,rB]at b3;cases b3;cases b4
 obtain⟨Fa⟩:=Fa base X NS nb big hBA;have S:=Wu Fa NS big hP;have L:=Fa.lex;obtain⟨D,eD⟩:=Fa.ds.l8;obtain rfl:fa=D.a:=RQ.inj (aD ((NN▸Vj).symm.trans eD));obtain⟨n,bu,is,rest,hn,he⟩:=HL zs h63;have kp:∀b o,base.get? b=some o->sI.heap.get? b=some o:=λb o e=>by rw[hbase]at e;exact of_hideAll _ e
 have hfl:([[],[132]]:List (List Addr)).flatten=[132]:=rfl;have g:GR (bl Fa.lb gQ 132) base [.obj [] (-1)] [[],[132]] sI.heap:=by
  refine⟨kp,λa ha=>?_,by decide,λa ha=>?_,rfl,λk m aH hk ha=>?_⟩
  ·rw[hfl,bK]at ha;subst ha;exact hP
  ·rw[hfl,bK]at ha;subst ha;exact⟨_,rB⟩
  ·induction k using eG with
   |zero=>
    simp only[SI,j9]at hk;simp only[kZ,List.getElem?_cons_succ,SI,j9]at ha;subst hk;subst ha;exact⟨[],rfl,.inr (.inr (.inr (.inr (.inr (.inl ⟨.inl rfl,rfl,.inl ⟨rfl,rB⟩⟩)))))⟩
   |succ k=>simp at hk
 have U8:l≠132:=λq=>by obtain⟨m,e⟩:=hl;rw[q,rB]at e;cases e
 have ra:aJ sI.heap [[],[132]] [.lst (zs.map .int)] [.ref l]:=by
  refine aJ.cons ?_ .nil;exact⟨l,vs,rfl,by rw[hfl];simpa using U8,hl,QF hI⟩
 refine d5q D big rfl S (λn=>PF L S zI n) (n:=n) (args:=[.lst (zs.map .int)]) (O:=[.obj [] (-1)]) he rfl ⟨⟨rfl,?_,?_⟩,ht⟩ g ra λu cz hJ tk gJ rJ=>?_
 ·show 1+claimMargin+(n+1)<=900
  exact kD (b:=501) (d:=301) (dc hn)
 ·show 4+10*(n+1)<=9000
  exact aV (iX (iJ 10 (dc hn)) 4) (by decide)
 ·obtain rfl:=rJ
  refine hR hJ tk (λb o e=>gJ.keep b o (by rw[hbase];exact e)) ⟨?_,trivial⟩;obtain⟨_,_,_,hTb⟩:=Cn (O:=.obj is (-5)::rest) gJ rfl (.inr (.inr rfl));rcases hTb.2 with⟨z,_⟩|z|⟨_,c1,c2,_,e⟩
  ·exact absurd z (by decide)
  ·exact absurd z (by decide)
  ·exact⟨_,e⟩
theorem d8y{P:Params}{l:Addr}{d:WData}{xs:List WData}{its:List ao}(w:Well P h (.ref l) d)(hd:d=.list xs)(hl:h.IsList l its.toArray):h.PlainList l its.toArray:=by
 subst hd;cases w with
 |list e _=>
  obtain⟨o,e1,e2,n,e3⟩:=hl;obtain rfl:=aD (e.symm.trans e1);exact⟨0,by rw[e,(Data.seq.inj e3).1]⟩
end
end Mine.Internal
end
section
set_option tactic.hygienic true
open PySem PySem.W PySem.W.X PySem.W.ZRun PySem.Calls PyProof.Rows
set_option maxRecDepth 100000
set_option maxHeartbeats 8000000
namespace Mine
open Internal
theorem top.tw10008474027749305400 :0=0:=rfl
theorem top.tw10195997230039290492 :0=0:=rfl
theorem top.tw1040915598704419856 :0=0:=rfl
theorem top.tw10488563042584564730 :0=0:=rfl
theorem top.tw10548783162686979305 :0=0:=rfl
theorem top.tw1068965626710143233 :0=0:=rfl
theorem top.tw10783980745131425670 :0=0:=rfl
theorem top.tw10801874191123338550 :0=0:=rfl
theorem top.tw10864713392326063847 :0=0:=rfl
theorem top.tw10987319290404115282 :0=0:=rfl
theorem top.tw1108800333578037850 :0=0:=rfl
theorem top.tw11199532085631943738 :0=0:=rfl
theorem top.tw11199710921928265848 :0=0:=rfl
theorem top.tw11203750815551599093 :0=0:=rfl
theorem top.tw11240886729373846589 :0=0:=rfl
theorem top.tw1124271682379634556 :0=0:=rfl
theorem top.tw11334203419191126389 :0=0:=rfl
theorem top.tw1142415686869020238 :0=0:=rfl
theorem top.tw11443710868159068359 :0=0:=rfl
theorem top.tw11582926029173025856 :0=0:=rfl
theorem top.tw11845233108574324481 :0=0:=rfl
theorem top.tw1191978151413537409 :0=0:=rfl
theorem top.tw12105128591322288922 :0=0:=rfl
theorem top.tw12166907935582030026 :0=0:=rfl
theorem top.tw1291508964198565346 :0=0:=rfl
theorem top.tw1294077662247117797 :0=0:=rfl
theorem top.tw13001836021917841797 :0=0:=rfl
theorem top.tw13044034144603486326 :0=0:=rfl
theorem top.tw13068111086705522682 :0=0:=rfl
theorem top.tw13090165191389475591 :0=0:=rfl
theorem top.tw13290321428070320777 :0=0:=rfl
theorem top.tw13326734554550294991 :0=0:=rfl
theorem top.tw13420762306968818387 :0=0:=rfl
theorem top.tw13706816188851595723 :0=0:=rfl
theorem top.tw13802547742096326172 :0=0:=rfl
theorem top.tw14595759203376733496 :0=0:=rfl
theorem top.tw14632489290957082403 :0=0:=rfl
theorem top.tw146815374380898660 :0=0:=rfl
theorem top.tw14697636140705633519 :0=0:=rfl
theorem top.tw14724332232928298890 :0=0:=rfl
theorem top.tw14747140909534839006 :0=0:=rfl
theorem top.tw14762295962024373759 :0=0:=rfl
theorem top.tw15072432165864579477 :0=0:=rfl
theorem top.tw15095372191486117680 :0=0:=rfl
theorem top.tw15254643099363442306 :0=0:=rfl
theorem top.tw15918733279669447828 :0=0:=rfl
theorem top.tw16104615914030681952 :0=0:=rfl
theorem top.tw16166919048465981109 :0=0:=rfl
theorem top.tw1617357707322924660 :0=0:=rfl
theorem top.tw16415559393655328363 :0=0:=rfl
theorem top.tw16453443671601555132 :0=0:=rfl
theorem top.tw16550210197400561554 :0=0:=rfl
theorem top.tw16597617366809209970 :0=0:=rfl
theorem top.tw16623803187960699014 :0=0:=rfl
theorem top.tw16719718919923625709 :0=0:=rfl
theorem top.tw16800595933775061595 :0=0:=rfl
theorem top.tw1696047182447918800 :0=0:=rfl
theorem top.tw1706793611546318481 :0=0:=rfl
theorem top.tw17089494485692210459 :0=0:=rfl
theorem top.tw17290349736952317670 :0=0:=rfl
theorem top.tw17342085116792181814 :0=0:=rfl
theorem top.tw17469865338272021226 :0=0:=rfl
theorem top.tw17542608870123051758 :0=0:=rfl
theorem top.tw1754339480302792767 :0=0:=rfl
theorem top.tw17620759639134147866 :0=0:=rfl
theorem top.tw17795014544551873601 :0=0:=rfl
theorem top.tw17953984050398360512 :0=0:=rfl
theorem top.tw18063644159110109576 :0=0:=rfl
theorem top.tw18177719399980262173 :0=0:=rfl
theorem top.tw18237780215024852062 :0=0:=rfl
theorem top.tw18245740138792012028 :0=0:=rfl
theorem top.tw18289109515434150305 :0=0:=rfl
theorem top.tw18367679650794681301 :0=0:=rfl
theorem top.tw18371284783138465269 :0=0:=rfl
theorem top.tw1843344800811705456 :0=0:=rfl
theorem top.tw196536941598035525 :0=0:=rfl
theorem top.tw2036290113935019334 :0=0:=rfl
theorem top.tw2220570432770164149 :0=0:=rfl
theorem top.tw2377541652452675900 :0=0:=rfl
theorem top.tw2665807947273092163 :0=0:=rfl
theorem top.tw2683898200743741643 :0=0:=rfl
theorem top.tw2758071753971750899 :0=0:=rfl
theorem top.tw2847958352784047137 :0=0:=rfl
theorem top.tw2892436940230331567 :0=0:=rfl
theorem top.tw3195522803047326042 :0=0:=rfl
theorem top.tw3261557481417251176 :0=0:=rfl
theorem top.tw3422688185749166683 :0=0:=rfl
theorem top.tw3474246075231452896 :0=0:=rfl
theorem top.tw3584897518013459382 :0=0:=rfl
theorem top.tw3712731000106771831 :0=0:=rfl
theorem top.tw381845443943030031 :0=0:=rfl
theorem top.tw3976154599441133093 :0=0:=rfl
theorem top.tw4076138812419527698 :0=0:=rfl
theorem top.tw4526881389914513428 :0=0:=rfl
theorem top.tw4597200072644226624 :0=0:=rfl
theorem top.tw4784893810139332661 :0=0:=rfl
theorem top.tw4873603975901500873 :0=0:=rfl
theorem top.tw4940147422707163885 :0=0:=rfl
theorem top.tw501154541418245514 :0=0:=rfl
theorem top.tw5110870139050496196 :0=0:=rfl
theorem top.tw5225916559131626549 :0=0:=rfl
theorem top.tw526812654004687067 :0=0:=rfl
theorem top.tw552990697406614821 :0=0:=rfl
theorem top.tw5860347150701562758 :0=0:=rfl
theorem top.tw5915399644114372684 :0=0:=rfl
theorem top.tw6042063481754889096 :0=0:=rfl
theorem top.tw6176384092110617959 :0=0:=rfl
theorem top.tw6189502492464219833 :0=0:=rfl
theorem top.tw6211089042160764376 :0=0:=rfl
theorem top.tw6487610083215253720 :0=0:=rfl
theorem top.tw649594095290182367 :0=0:=rfl
theorem top.tw6505410396798821541 :0=0:=rfl
theorem top.tw6572447435987645144 :0=0:=rfl
theorem top.tw6624316729101989866 :0=0:=rfl
theorem top.tw6662652255960138227 :0=0:=rfl
theorem top.tw6930518751129746686 :0=0:=rfl
theorem top.tw7176136562356683428 :0=0:=rfl
theorem top.tw7198060816514059695 :0=0:=rfl
theorem top.tw7250933059871147345 :0=0:=rfl
theorem top.tw7386116660499605909 :0=0:=rfl
theorem top.tw7444641836354208208 :0=0:=rfl
theorem top.tw7537321990764116385 :0=0:=rfl
theorem top.tw76412952228603488 :0=0:=rfl
theorem top.tw7743179893348639699 :0=0:=rfl
theorem top.tw8025738503920905074 :0=0:=rfl
theorem top.tw8035271764110328214 :0=0:=rfl
theorem top.tw8140125068956082859 :0=0:=rfl
theorem top.tw8212240652046128837 :0=0:=rfl
theorem top.tw8237333600419904120 :0=0:=rfl
theorem top.tw8410488445778877200 :0=0:=rfl
theorem top.tw8472579005086612782 :0=0:=rfl
theorem top.tw8622502720953521162 :0=0:=rfl
theorem top.tw8657480035899644758 :0=0:=rfl
theorem top.tw8694864300669457046 :0=0:=rfl
theorem top.tw8729362747519067210 :0=0:=rfl
theorem top.tw887695700811335699 :0=0:=rfl
theorem top.tw9165953624949470791 :0=0:=rfl
theorem top.tw9166809390415177425 :0=0:=rfl
theorem top.tw9195894827357321740 :0=0:=rfl
theorem top.tw9233335307524088747 :0=0:=rfl
theorem top.tw9272544492142499777 :0=0:=rfl
theorem top.tw9442318146202087700 :0=0:=rfl
theorem top.tw9739860059890490050 :0=0:=rfl
theorem top.tw9743097575036673082 :0=0:=rfl
theorem top.tw9768079942903668216 :0=0:=rfl
theorem top.tw9843447840031818808 :0=0:=rfl
theorem top.tw9851269098105209369 :0=0:=rfl
theorem top.tw9919435345466941130 :0=0:=rfl
theorem top.tw9951221954081769418 :0=0:=rfl
theorem top.tw9953747333497923681 :0=0:=rfl
theorem top.tw9962302188120564619 :0=0:=rfl
set_option Elab.async true
theorem top:PySem.Challenge.rw_rs0174_01.Holds:=by
 w_on
 o_law
 z_head
 case hw=>w_witness2
 k_fill
 intro w s₀ s₁ mg mb G y fa o pm cd doc dV kV ho hd hcd hD hmg hg args vals as L hpre hlay hrd hwl hlo
 z_open y L KX ZH ZN ZT
 refine Ground.open G ?_
 intro T B D TE TW
 wrow_args hpre hlay hrd hwl hlo
 obtain⟨hat,hsz⟩:=script_at L
 have htk:=script_toks L ZT
 refine enter_call ?_
 have hT9:TabsAt [(136,132)] s₁.heap:=fun q hq=>by
  cases List.mem_singleton.mp hq
  exact⟨codeHd_of_K KX (by kernel_rfl),KX 132 _ rfl⟩
 refine kn_post hT9 (fun a x=>rfl) ?_
 refine d6v (lawIs e2s d7i) KX (Nat.le_trans (by decide) htk) hT9 (fun base X=>Hl X (a:=3) (cl rfl) rfl (by kernel_rfl)) (fun base X NS hb hbig hBA=>?facts) T.g hmg T.b T.nolimit T.bmain (d8y (by assumption) rfl (by assumption)) (by assumption) (by omega) fun h' tk hk hgr=>⟨⟨.inl ⟨.bool true,.bool true,[],rfl,fun zz=>rfl,ReadsW.bool _,by kernel_rfl,fun zz=>⟨List.nodup_nil,fun a ha=>by cases ha⟩⟩,hk,rfl,hg⟩,hgr⟩
 case facts=>
  obtain⟨lb,hC,hfr,hfg,hfp,hini,hcls⟩:=Ys (C:=52) (N:=51) (fr:=35) (fg:=42) (fp:=49) (fi:=28) X (cl rfl) (Hl X (a:=51) (cl rfl) rfl (by kernel_rfl)) (by kernel_rfl) (by kernel_rfl) (by kernel_rfl) (by kernel_rfl) (by kernel_rfl) (by kernel_rfl) (by kernel_rfl) (by kernel_rfl) (by kernel_rfl) (by kernel_rfl) (by kernel_rfl)
  have e94:base.get? 35=some _:=X 35 _ (cl rfl)
  obtain⟨rd,hrc⟩:∃ rd:vt lb eO 16 17,rd.o.cls=.type "function":=⟨{
    o:=_
    fd:=_
    p1:=_
    p2:=_
    p3:=_
    p4:=_
    p5:=_
    p6:=_
    p7:=_
    kd:=_
    rest:=_
    at':=(congrArg base.get? hfr).trans e94
    data:=rfl
    code:=I3 X rfl (c:=34) (cl rfl) rfl rfl
    body:=rfl
    line:=by kernel_rfl
    glob:=rfl
    built:=rfl
    clos:=rfl
    coro:=rfl
    gen:=rfl
    kind:=rfl
    bind:=fun vals h=>rY (fun a=>by kernel_rfl) vals h
    self:=by kernel_rfl
    ch:=by kernel_rfl
    ne:=by decide
    kself:=by kernel_rfl
    kch:=by kernel_rfl
    nofree:=by decide +kernel
    own:=Dw (by kernel_rfl)
    calm:=fun zz=>rfl
    tr:=⟨[],40,by kernel_rfl⟩},rfl⟩
  obtain⟨ini⟩:Nonempty (ur lb):=⟨{
    fi:=28
    o:=_
    fd:=_
    pos:=fun i=>[⟨5,8,5,12⟩,⟨5,8,5,19⟩,⟨5,22,5,23⟩,⟨5,8,5,23⟩,⟨6,8,6,12⟩,⟨6,8,6,21⟩,⟨6,24,6,26⟩,⟨6,8,6,26⟩,⟨7,8,7,12⟩,⟨7,8,7,23⟩,⟨7,26,7,35⟩,⟨7,8,7,35⟩,⟨8,8,8,12⟩,⟨8,8,8,21⟩,⟨8,24,8,26⟩,⟨8,8,8,26⟩].getD i ⟨0,0,0,0⟩
    kd:=fun zz=>0
    at':=X 28 _ (cl rfl)
    cls:=rfl
    data:=rfl
    code:=I3 X rfl (c:=27) (cl rfl) rfl rfl
    body:=by kernel_rfl
    clos:=rfl
    coro:=rfl
    gen:=rfl
    kind:=rfl
    bind:=fun a b=>by kernel_rfl
    kself:=by kernel_rfl
    kfp:=by kernel_rfl
    init:=hini}⟩
  obtain⟨st,hst,p,q,er⟩:∃ st:yK base gQ 132 eO 18 19 6,st.a=137∧∃ p q,st.rest=[.Return (some (.Name "stream" p)) q]:=⟨{
    a:=137
    o:=_
    fd:=_
    mg:=_
    s1:=_
    par0:=_
    b0:=_
    sc0:=_
    p1:=_
    p2:=_
    p3:=_
    q1:=_
    q2:=_
    rest:=_
    at':=X 137 _ (cl rfl)
    data:=rfl
    code:=I3 X rfl (c:=136) (cl rfl) rfl rfl
    head:=⟨136,rfl,codeHd_of_K X (by kernel_rfl)⟩
    body:=rfl
    src:=⟨fun zz=>rfl,fun zz=>rfl,fun zz=>rfl,fun env LC h=>b9t h,fun c1=>by rfl⟩
    glob:=rfl
    built:=rfl
    clos:=rfl
    coro:=rfl
    gen:=rfl
    kind:=rfl
    qual:=rfl
    bind:=fun vals h=>rY (fun a=>by kernel_rfl) vals h
    text:=by kernel_rfl
    letters:=by kernel_rfl
    stream:=by kernel_rfl
    ktext:=by kernel_rfl
    kletters:=by kernel_rfl
    kstream:=by kernel_rfl
    nofree:=by decide +kernel
    own:=Dw (by kernel_rfl)
    calm:=fun zz=>rfl
    tr:=⟨[],40,by kernel_rfl⟩
    ne:=by decide
    g:=NS
    b:=hBA},rfl,_,_,rfl⟩
  refine d5d (lb:=lb) {
    len:=kT NS hb T.builtins _ _ (by decide) (by kernel_rfl) (by kernel_rfl)
    sum:=kT NS hb T.builtins _ _ (by decide) (by kernel_rfl) (by kernel_rfl)
    sorted:=kT NS hb T.builtins _ _ (by decide) (by kernel_rfl) (by kernel_rfl)
    max:=kT NS hb T.builtins _ _ (by decide) (by kernel_rfl) (by kernel_rfl)
    min:=kT NS hb T.builtins _ _ (by decide) (by kernel_rfl) (by kernel_rfl)
    int:=kT NS hb T.builtins _ _ (by decide) (by kernel_rfl) (by kernel_rfl)
    list:=kT NS hb T.builtins _ _ (by decide) (by kernel_rfl) (by kernel_rfl)
    range:=kT NS hb T.builtins _ _ (by decide) (by kernel_rfl) (by kernel_rfl)
    enum:=kT NS hb T.builtins _ _ (by decide) (by kernel_rfl) (by kernel_rfl)
    zip:=kT NS hb T.builtins _ _ (by decide) (by kernel_rfl) (by kernel_rfl)
    tup:=kT NS hb T.builtins _ _ (by decide) (by kernel_rfl) (by kernel_rfl)
    abs:=kT NS hb T.builtins _ _ (by decide) (by kernel_rfl) (by kernel_rfl)
    chr:=kT NS hb T.builtins _ _ (by decide) (by kernel_rfl) (by kernel_rfl)
    sysm:=⟨_,X sysModules _ (cl rfl)⟩
    booked:=⟨_,Hl X (a:=2) (cl rfl) rfl (by kernel_rfl),by kernel_rfl⟩
    nt:=⟨_,qG NS rfl⟩
    eof:=⟨_,qG NS rfl⟩
    Ep:=⟨_,by decide,qG NS rfl⟩
    sixth:=⟨_,by decide,qG NS rfl⟩
    twothird:=⟨_,by decide,qG NS rfl⟩
    tok:=⟨92,qG NS (by kernel_rfl),d2f X (by decide) (cl rfl) (e8c (by kernel_rfl) (by kernel_rfl)) (by kernel_rfl) (by decide +kernel)⟩} hbig rd hrc (kT NS hb T.builtins _ _ (by decide) (by kernel_rfl) (by kernel_rfl)) (qG NS (by rw [hC];kernel_rfl)) hcls (by rw [hC];exact makes_of X (by kernel_rfl)) ini st ⟨p,q,er⟩ (by rw [hst];kernel_rfl)
   ⟨(jN (jg X (a:=77) (c:=76) (cl rfl) (cl rfl) rfl rfl rfl rfl rfl rfl rfl rfl (vW fun a b c=>by kernel_rfl) (by kernel_rfl) (mt:=[]) (by kernel_rfl)) (by kernel_rfl)),
   (jN (jg X (a:=91) (c:=90) (cl rfl) (cl rfl) rfl rfl rfl rfl rfl rfl rfl rfl (vW fun a b c=>by kernel_rfl) (by kernel_rfl) (mt:=[]) (by kernel_rfl)) (by kernel_rfl)),
   (jN (jg X (a:=84) (c:=83) (cl rfl) (cl rfl) rfl rfl rfl rfl rfl rfl rfl rfl (vW fun a b c=>by kernel_rfl) (by kernel_rfl) (mt:=[]) (by kernel_rfl)) (by kernel_rfl)),
   (jN (jg X (a:=63) (c:=62) (cl rfl) (cl rfl) rfl rfl rfl rfl rfl rfl rfl rfl (vW fun a b c=>by kernel_rfl) (by kernel_rfl) (mt:=[]) (by kernel_rfl)) (by kernel_rfl)),
   (jN (jg X (a:=70) (c:=69) (cl rfl) (cl rfl) rfl rfl rfl rfl rfl rfl rfl rfl (vW fun a b c=>by kernel_rfl) (by kernel_rfl) (mt:=[]) (by kernel_rfl)) (by kernel_rfl)),
   (jN (jg X (a:=115) (c:=114) (cl rfl) (cl rfl) rfl rfl rfl rfl rfl rfl rfl rfl (rY fun a=>by kernel_rfl) (by kernel_rfl) (mt:=[]) (by kernel_rfl)) (by kernel_rfl)),
   (jN (jg X (a:=108) (c:=107) (cl rfl) (cl rfl) rfl rfl rfl rfl rfl rfl rfl rfl (rY fun a=>by kernel_rfl) (by kernel_rfl) (mt:=[]) (by kernel_rfl)) (by kernel_rfl)),
   (jN (jg X (a:=101) (c:=100) (cl rfl) (cl rfl) rfl rfl rfl rfl rfl rfl rfl rfl (rY fun a=>by kernel_rfl) (by kernel_rfl) (mt:=[]) (by kernel_rfl)) (by kernel_rfl)),
   (P4 (jg X (a:=42) (c:=41) (cl rfl) (cl rfl) rfl rfl rfl rfl rfl rfl rfl rfl (rY fun a=>by kernel_rfl) (by kernel_rfl) (mt:=[]) (by kernel_rfl)) hfg.symm rfl),
   (P4 (jg X (a:=49) (c:=48) (cl rfl) (cl rfl) rfl rfl rfl rfl rfl rfl rfl rfl (Ci fun a b=>by kernel_rfl) (by kernel_rfl) (mt:=[]) (by kernel_rfl)) hfp.symm rfl),
   (jN (jg X (a:=130) (c:=129) (cl rfl) (cl rfl) rfl rfl rfl rfl rfl rfl rfl rfl (Ci fun a b=>by kernel_rfl) (by kernel_rfl) (mt:=[]) (by kernel_rfl)) (by kernel_rfl)),
   (jN (jg X (a:=120) (c:=119) (cl rfl) (cl rfl) rfl rfl rfl rfl rfl rfl rfl rfl (Ci fun a b=>by kernel_rfl) (by kernel_rfl) (mt:=["nodes"]) (by kernel_rfl)) (by kernel_rfl)),
   (jN (jg X (a:=125) (c:=124) (cl rfl) (cl rfl) rfl rfl rfl rfl rfl rfl rfl rfl (vW fun a b c=>by kernel_rfl) (by kernel_rfl) (mt:=["words"]) (by kernel_rfl)) (by kernel_rfl)),
   (jN (jg X (a:=142) (c:=141) (cl rfl) (cl rfl) rfl rfl rfl rfl rfl rfl rfl rfl (rY fun a=>by kernel_rfl) (by kernel_rfl) (mt:=["counts","pile","found"]) (by kernel_rfl)) (by kernel_rfl)),
   (jN (jg X (a:=147) (c:=146) (cl rfl) (cl rfl) rfl rfl rfl rfl rfl rfl rfl rfl (Ci fun a b=>by kernel_rfl) (by kernel_rfl) (mt:=["cuts"]) (by kernel_rfl)) (by kernel_rfl)),
   (jN (jg X (a:=152) (c:=151) (cl rfl) (cl rfl) rfl rfl rfl rfl rfl rfl rfl rfl (XY fun a b c d e=>by kernel_rfl) (by kernel_rfl) (mt:=["paints"]) (by kernel_rfl)) (by kernel_rfl)),
   (jN (jg X (a:=157) (c:=156) (cl rfl) (cl rfl) rfl rfl rfl rfl rfl rfl rfl rfl (XU fun a b c d=>by kernel_rfl) (by kernel_rfl) (mt:=["pairs"]) (by kernel_rfl)) (by kernel_rfl)),
   (jN (jg X (a:=162) (c:=161) (cl rfl) (cl rfl) rfl rfl rfl rfl rfl rfl rfl rfl (rY fun a=>by kernel_rfl) (by kernel_rfl) (mt:=[]) (by kernel_rfl)) (by kernel_rfl))⟩
set_option Elab.async false
end Mine
end
theorem PySem.Challenge.cw_rs0174_01_holds : PySem.Challenge.rw_rs0174_01.Holds :=
  Mine.top
