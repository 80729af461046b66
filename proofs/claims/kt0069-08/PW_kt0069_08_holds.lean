import PyProof.Rows.All
import Wide.All
import OpenK.AllK
import PyProof.LetGo
import PyProof.DictValues
import PyProof.DictWalks
import PyProof.IsiBase
import KE.KTryMore
import PyProof.ListCopy
import PyProof.FactsAll.str_8
import PyProof.IsInstance
import PyProof.AttrMissHeap
import PyProof.AutoListH
import Lean
import PySem.Challenge.RW_kt0069_08
set_option genSizeOf false
set_option genSizeOfSpec false
set_option genInjectivity false
set_option genCtorIdx false
set_option tactic.hygienic false
set_option bootstrap.genMatcherCode false
set_option linter.all false
set_option Elab.async false
set_option maxRecDepth 1000000
set_option maxHeartbeats 0
namespace Mine.Internal
open PySem renaming Shared → NL, wpAny_bind → NM, wpAny → NN, Value → NO, model → NP, Addr → NQ, PyData → NR, wpAny_mono → NS, wpAny_execs_cons → NT, wpAny_pure → NU, Stmt → NW, Keeps → NX, Around → N0, wpAny_execs_nil → N1, eval → N6, wpAny_holding → N8, Heap → N9, wpAny_Assign_stores → Oc, wpAny_standAt → Od, FuncData → Of, World → Og, wpAny_truthy_bool → Oi, Program → Ol, intKind → On, builtinLookup_eq_fast → Os, wpAny_assign_Name → Ot, Params → Ov, assign → Ox, exec → Oy, Comprehension → Oz, wpAny_isTrue_Compare1 → OA, execs → OG, isSubtype_type → OJ, sizeLine_eq → OK, valueAt → OM, typeLookup_type → OP, sysModules → OR, wpAny_field → OS, wpAny_Return_some → OV, Builtin → OX, interactive → OY, wpAny_Name → O0, wpAny_call → O1, codeAny → O3, sizeLine → O5, wpAny_callSpecial?_slot → O6, wpAny_newObj_type → O7, bindArgs → O8, wpAny_Constant_none → O9, clipAt → Pg, mainGlobals → Ph, NameKind → Pj, wpAny_Constant_int → Pl, Operator → Pm, wpAny_setField → Pq, wpAny_If → Pr, typeLookup → Pt, Call_method1 → Px, ExceptHandler → Pz, pyNext → PA, codeAny_whileLoop → PC, Spec → PD, assignEach → PE, codeAny_call_builtin → PF, cellsFrom → PG, getAttr → PI, wpAny_call_entry → PJ, wpAny_attempt → PN, wpAny_Constant_str → PO, wpAny_Expr → PP, DictEntry → PQ, isSubtype → PS, wpAny_of_eq → PT, holding → PY, standAt → PZ, checkBoundCall → P0, swapsWith → P9, treeTable → Qa, wpAny_rule → Qc, builtinsNs → Qd, wpAny_loadName_local → Qe, callEnvC → Qg, assignInOrder → Qi, callWith_type → Qj, pushCells_keeps → Qm, codeAny_builtin → Qn, wpAny_loadPart' → Qo, wpAny_List → Qt
open PySem.Heap renaming get?_push_of_some → NV, get?_push_size → NZ, lt_size → N3, ExtBut → Ou, get?_none_of_le → OL, size_push → ON, SameBut → OQ, get?_update_self → Py, HeldW → Qu
open LawfulBEq renaming eq_of_beq → NY
open PySem.Value renaming ref → N2, none → OB, isInt_shape → Qw
open PySem.Calls renaming spliced_nil → N4, spliced_cons → N7, evalArgs_plain → Oj, callWith_builtin → OD, callWith_function → PM
open PySem.PyData renaming eqv → Oa, int → Oo, canLayAll0 → OC, str → OE, bool → Pi, keyHash → PH, list → PU, depthAll → QC
open PySem.Heap.SameBut renaming update → Om
open PySem.DictEntry renaming mk → Oq
open PySem.NameKind renaming free → Ow, cell → OT
open ForInStep renaming yield → OF
open Option.some renaming inj → OH, injEq → PW
open PySem.W renaming emptyDict → OU, instObj → O4, dictOf → PL
open Ne renaming symm → OW
open PySem.Str renaming empty → OZ
open PyProof.Rows renaming IntsAre → Pa
open PySem.F renaming plainAttrs_list → Pn, slot_list_append → Qp, type_list_append → Qq
open Inhabited renaming default → Po
open PySem.Obj renaming data_mapFields → Pu, isFreed_of_fields → PX
open PySem.ScopeKind renaming function → Pw
open PySem.Txt renaming join → PK
open PySem.Around renaming under_plainId → Qh
open PySem.Manifest renaming signature? → Qk
open Array renaming getElem?_eq_getElem → Ql, toList_push → Qx, getElem?_eq_none → Qy
open PySem.Manifest.AttrKind renaming method → Qr
open Option renaming map → Qs, map_some → QB
open PySem.Builtin.Str renaming tableLookup → Qv
open PySem.Bind renaming lastOf → Qz
open Bool renaming or_false → QA
open PySem.Builtin.Int renaming intBits → QD
open PySem.Builtin.Dict_items renaming ownsTuple → QE
open Nat renaming le_trans → ae, le_max_right → aE, le_max_left → aT, lt_irrefl → bj, le_refl → bM, zero_le → cj, not_lt → fG, add_le_add_right → gv, zero_testBit → gM, le_of_eq → gZ, lt_of_le_of_lt → lM, ne_of_lt → nz, add_le_add_left → nZ, le_of_ble_eq_true → oC, le_succ → oF, zero_add → oR, lt_succ_of_lt → qW, lt_of_lt_of_le → uA, le_add_right → Bx, testBit_or → M5, add_assoc → M8, le_of_succ_le → M9, lt_pow_two_of_testBit → Nc, eq_of_testBit_eq → Nd, pow_le_pow_right → Nf, add_le_add → Nh, mul_le_mul_left → Nk, lt_succ_self → Nl, succ_le_succ → Np, testBit_two_pow → Nt, pos_of_ne_zero → Nu, le_antisymm → Nx, le_of_lt → NC, mul_le_mul_right → NF
open List renaming mem_cons → aa, length_map → af, mem_cons_self → ag, mem_singleton → ah, getD_eq_getElem?_getD → av, mem_cons_of_mem → ay, mem_of_getElem? → az, mem_append → aI, mem_map → aJ, map_cons → aQ, nodup_cons → bq, all_eq_true → bt, getElem?_eq_getElem → bw, length_append → cb, replicate → cg, getElem?_map → cu, mem_append_right → cG, mem_append_left → cQ, nodup_append → c7, map_append → c8, getElem?_eq_some_iff → dh, range → dj, mem_flatMap → dF, any_eq_true → dP, length_cons → dQ, map_map → fk, contains_iff_mem → gC, not_mem_nil → iJ, append_nil → iK, mem_range → jo, length_filter_le → j7, flatMap_append → lO, mem_filter → lQ, foldl_append → lT, mem_reverse → ot, map_congr_left → oA, filter_cons → oB, length_range → vl, size_toArray → vm, take_length → Bw, sum_cons → BA, append_assoc → BB, flatMap_cons → BJ, find?_cons → L8, getElem?_append_right → L9, length_take → Ma, mem_iff_getElem? → Mt, length_singleton → Mu, find?_eq_none → MZ, getElem_mem → M4, getElem?_eq_none → M6, mem_of_find?_eq_some → M7, getElem?_append_left → Na, getElem?_eq_none_iff → Nb, nodup_nil → Nj, filterMap_cons → Nm, filter_eq_self → Nq, length_drop → Nr, mem_filterMap → Nw, sum_append → Ny, length_set → Nz, take_add_one → NB, mem_of_mem_take → ND, lookup_cons → NG, forIn_cons → NJ, foldl_cons → NK
open Int renaming toNat_natCast → kg, natCast_nonneg → sT, fmod → vj, ofNat_inj → NH
open Bool renaming and_eq_true → e7, eq_iff_iff → lS, not_eq_true → qV, or_eq_true → sg, and_eq_true_iff → M0, not_eq_true' → M1, false_eq_true → Nv
open Option renaming map_eq_some_iff → M3, isSome_iff_exists → Ng, map_map → Ni
open Array renaming isEmpty_iff_size_eq_zero → vk, replicate → NA
theorem MY:false≠true:=Bool.false_ne_true
open PySem.Str (ofString)
section

theorem aj{A B:Prop}{P:Prop}(h:A/\B)(f:A->B->P):P:=f h.1 h.2
theorem cT{A B C:Prop}{P:Prop}(h:A/\B/\C)(f:A->B->C->P):P:=f h.1 h.2.1 h.2.2
theorem eQ{A B C D:Prop}{P:Prop}(h:A/\B/\C/\D)(f:A->B->C->D->P):P:=f h.1 h.2.1 h.2.2.1 h.2.2.2
theorem BH{A B C D E:Prop}{P:Prop}(h:A/\B/\C/\D/\E)(f:A->B->C->D->E->P):P:=f h.1 h.2.1 h.2.2.1 h.2.2.2.1 h.2.2.2.2
theorem g7{A B C D E F:Prop}{P:Prop}(h:A/\B/\C/\D/\E/\F)(f:A->B->C->D->E->F->P):P:=f h.1 h.2.1 h.2.2.1 h.2.2.2.1 h.2.2.2.2.1 h.2.2.2.2.2
theorem BI{A B C D E F H I:Prop}{P:Prop}(h:A/\B/\C/\D/\E/\F/\H/\I)(f:A->B->C->D->E->F->H->I->P):P:=f h.1 h.2.1 h.2.2.1 h.2.2.2.1 h.2.2.2.2.1 h.2.2.2.2.2.1 h.2.2.2.2.2.2.1 h.2.2.2.2.2.2.2
theorem lN{A B C D E F H I J K:Prop}{P:Prop}(h:A/\B/\C/\D/\E/\F/\H/\I/\J/\K)(f:A->B->C->D->E->F->H->I->J->K->P):P:=f h.1 h.2.1 h.2.2.1 h.2.2.2.1 h.2.2.2.2.1 h.2.2.2.2.2.1 h.2.2.2.2.2.2.1 h.2.2.2.2.2.2.2.1 h.2.2.2.2.2.2.2.2.1 h.2.2.2.2.2.2.2.2.2
theorem x11.{u1}{α:Sort u1}{A:α->Prop}{P:Prop}(h:∃x,A x)(f:∀x,A x->P):P:=h.elim fun x q=>f x q
theorem x12.{u1}{α:Sort u1}{A B:α->Prop}{P:Prop}(h:∃x,A x/\B x)(f:∀x,A x->B x->P):P:=h.elim fun x q=>f x q.1 q.2
theorem x13.{u1}{α:Sort u1}{A B C:α->Prop}{P:Prop}(h:∃x,A x/\B x/\C x)(f:∀x,A x->B x->C x->P):P:=h.elim fun x q=>f x q.1 q.2.1 q.2.2
theorem x14.{u1}{α:Sort u1}{A B C D:α->Prop}{P:Prop}(h:∃x,A x/\B x/\C x/\D x)(f:∀x,A x->B x->C x->D x->P):P:=h.elim fun x q=>f x q.1 q.2.1 q.2.2.1 q.2.2.2
theorem x16.{u1}{α:Sort u1}{A B C D E F:α->Prop}{P:Prop}(h:∃x,A x/\B x/\C x/\D x/\E x/\F x)(f:∀x,A x->B x->C x->D x->E x->F x->P):P:=h.elim fun x q=>f x q.1 q.2.1 q.2.2.1 q.2.2.2.1 q.2.2.2.2.1 q.2.2.2.2.2
theorem x17.{u1}{α:Sort u1}{A B C D E F H:α->Prop}{P:Prop}(h:∃x,A x/\B x/\C x/\D x/\E x/\F x/\H x)(f:∀x,A x->B x->C x->D x->E x->F x->H x->P):P:=h.elim fun x q=>f x q.1 q.2.1 q.2.2.1 q.2.2.2.1 q.2.2.2.2.1 q.2.2.2.2.2.1 q.2.2.2.2.2.2
theorem x21.{u1,u2}{α:Sort u1}{β:Sort u2}{A:α->β->Prop}{P:Prop}(h:∃x,∃y,A x y)(f:∀x y,A x y->P):P:=h.elim fun x q=>q.elim fun y q=>f x y q
theorem x22.{u1,u2}{α:Sort u1}{β:Sort u2}{A B:α->β->Prop}{P:Prop}(h:∃x,∃y,A x y/\B x y)(f:∀x y,A x y->B x y->P):P:=h.elim fun x q=>q.elim fun y q=>f x y q.1 q.2
theorem x23.{u1,u2}{α:Sort u1}{β:Sort u2}{A B C:α->β->Prop}{P:Prop}(h:∃x,∃y,A x y/\B x y/\C x y)(f:∀x y,A x y->B x y->C x y->P):P:=h.elim fun x q=>q.elim fun y q=>f x y q.1 q.2.1 q.2.2
theorem x24.{u1,u2}{α:Sort u1}{β:Sort u2}{A B C D:α->β->Prop}{P:Prop}(h:∃x,∃y,A x y/\B x y/\C x y/\D x y)(f:∀x y,A x y->B x y->C x y->D x y->P):P:=h.elim fun x q=>q.elim fun y q=>f x y q.1 q.2.1 q.2.2.1 q.2.2.2
theorem x26.{u1,u2}{α:Sort u1}{β:Sort u2}{A B C D E F:α->β->Prop}{P:Prop}(h:∃x,∃y,A x y/\B x y/\C x y/\D x y/\E x y/\F x y)(f:∀x y,A x y->B x y->C x y->D x y->E x y->F x y->P):P:=h.elim fun x q=>q.elim fun y q=>f x y q.1 q.2.1 q.2.2.1 q.2.2.2.1 q.2.2.2.2.1 q.2.2.2.2.2
theorem x31.{u1,u2,u3}{α:Sort u1}{β:Sort u2}{γ:Sort u3}{A:α->β->γ->Prop}{P:Prop}(h:∃x,∃y,∃z,A x y z)(f:∀x y z,A x y z->P):P:=h.elim fun x q=>q.elim fun y q=>q.elim fun z q=>f x y z q
theorem x32.{u1,u2,u3}{α:Sort u1}{β:Sort u2}{γ:Sort u3}{A B:α->β->γ->Prop}{P:Prop}(h:∃x,∃y,∃z,A x y z/\B x y z)(f:∀x y z,A x y z->B x y z->P):P:=h.elim fun x q=>q.elim fun y q=>q.elim fun z q=>f x y z q.1 q.2
theorem x33.{u1,u2,u3}{α:Sort u1}{β:Sort u2}{γ:Sort u3}{A B C:α->β->γ->Prop}{P:Prop}(h:∃x,∃y,∃z,A x y z/\B x y z/\C x y z)(f:∀x y z,A x y z->B x y z->C x y z->P):P:=h.elim fun x q=>q.elim fun y q=>q.elim fun z q=>f x y z q.1 q.2.1 q.2.2
theorem x34.{u1,u2,u3}{α:Sort u1}{β:Sort u2}{γ:Sort u3}{A B C D:α->β->γ->Prop}{P:Prop}(h:∃x,∃y,∃z,A x y z/\B x y z/\C x y z/\D x y z)(f:∀x y z,A x y z->B x y z->C x y z->D x y z->P):P:=h.elim fun x q=>q.elim fun y q=>q.elim fun z q=>f x y z q.1 q.2.1 q.2.2.1 q.2.2.2
theorem x35.{u1,u2,u3}{α:Sort u1}{β:Sort u2}{γ:Sort u3}{A B C D E:α->β->γ->Prop}{P:Prop}(h:∃x,∃y,∃z,A x y z/\B x y z/\C x y z/\D x y z/\E x y z)(f:∀x y z,A x y z->B x y z->C x y z->D x y z->E x y z->P):P:=h.elim fun x q=>q.elim fun y q=>q.elim fun z q=>f x y z q.1 q.2.1 q.2.2.1 q.2.2.2.1 q.2.2.2.2
theorem x36.{u1,u2,u3}{α:Sort u1}{β:Sort u2}{γ:Sort u3}{A B C D E F:α->β->γ->Prop}{P:Prop}(h:∃x,∃y,∃z,A x y z/\B x y z/\C x y z/\D x y z/\E x y z/\F x y z)(f:∀x y z,A x y z->B x y z->C x y z->D x y z->E x y z->F x y z->P):P:=h.elim fun x q=>q.elim fun y q=>q.elim fun z q=>f x y z q.1 q.2.1 q.2.2.1 q.2.2.2.1 q.2.2.2.2.1 q.2.2.2.2.2
theorem x41.{u1,u2,u3,u4}{α:Sort u1}{β:Sort u2}{γ:Sort u3}{δ:Sort u4}{A:α->β->γ->δ->Prop}{P:Prop}(h:∃x,∃y,∃z,∃w,A x y z w)(f:∀x y z w,A x y z w->P):P:=h.elim fun x q=>q.elim fun y q=>q.elim fun z q=>q.elim fun w q=>f x y z w q
theorem x42.{u1,u2,u3,u4}{α:Sort u1}{β:Sort u2}{γ:Sort u3}{δ:Sort u4}{A B:α->β->γ->δ->Prop}{P:Prop}(h:∃x,∃y,∃z,∃w,A x y z w/\B x y z w)(f:∀x y z w,A x y z w->B x y z w->P):P:=h.elim fun x q=>q.elim fun y q=>q.elim fun z q=>q.elim fun w q=>f x y z w q.1 q.2
theorem x55.{u1,u2,u3,u4,u5}{α:Sort u1}{β:Sort u2}{γ:Sort u3}{δ:Sort u4}{ε:Sort u5}{A B C D E:α->β->γ->δ->ε->Prop}{P:Prop}(h:∃x,∃y,∃z,∃w,∃u,A x y z w u/\B x y z w u/\C x y z w u/\D x y z w u/\E x y z w u)(f:∀x y z w u,A x y z w u->B x y z w u->C x y z w u->D x y z w u->E x y z w u->P):P:=h.elim fun x q=>q.elim fun y q=>q.elim fun z q=>q.elim fun w q=>q.elim fun u q=>f x y z w u q.1 q.2.1 q.2.2.1 q.2.2.2.1 q.2.2.2.2
theorem x59.{u1,u2,u3,u4,u5}{α:Sort u1}{β:Sort u2}{γ:Sort u3}{δ:Sort u4}{ε:Sort u5}{A B C D E F H I J:α->β->γ->δ->ε->Prop}{P:Prop}(h:∃x,∃y,∃z,∃w,∃u,A x y z w u/\B x y z w u/\C x y z w u/\D x y z w u/\E x y z w u/\F x y z w u/\H x y z w u/\I x y z w u/\J x y z w u)(f:∀x y z w u,A x y z w u->B x y z w u->C x y z w u->D x y z w u->E x y z w u->F x y z w u->H x y z w u->I x y z w u->J x y z w u->P):P:=h.elim fun x q=>q.elim fun y q=>q.elim fun z q=>q.elim fun w q=>q.elim fun u q=>f x y z w u q.1 q.2.1 q.2.2.1 q.2.2.2.1 q.2.2.2.2.1 q.2.2.2.2.2.1 q.2.2.2.2.2.2.1 q.2.2.2.2.2.2.2.1 q.2.2.2.2.2.2.2.2
end
section
open PySem PySem.W
noncomputable def cc:Ol:=PySem.Challenge.pw_kt0069_08
noncomputable abbrev sS(x:String):Str:=ofString x
set_option backward.match.sparseCases false in
noncomputable def bu(i:Nat):Arguments × List NW × Scope:=match cc.main.body[i]? with
 | some (.FunctionDef _ a b _ _ _ s _ _ _)=>(a,b,s)
 | _=>Po
set_option backward.match.sparseCases false in
noncomputable def md(i j:Nat):Arguments × List NW × Scope:=match cc.main.body[i]? with
 | some (.ClassDef _ _ _ b _ _ _ _ _ _ _)=>(match b[j]? with
  | some (.FunctionDef _ a b _ _ _ s _ _ _)=>(a,b,s)
  | _=>Po)
 | _=>Po
noncomputable def bU(n q:String)(x:Arguments × List NW × Scope)(m:String)(t c:Nat)(d:NO):Of:=.mk (sS n) (sS q) x.1 (.stmts x.2.1) x.2.2 3 [] d .none .none (.str (sS m) t) none (.ref c) .none 0
noncomputable def pl(l n:Nat):Pos:=⟨l / 1000 ^ (4 * n) % 1000,l / 1000 ^ (4 * n+1) % 1000,l / 1000 ^ (4 * n+2) % 1000,l / 1000 ^ (4 * n+3) % 1000⟩
noncomputable abbrev e0:Expr:=.Constant .none 0 Po
set_option backward.match.sparseCases false in
noncomputable def sP:NW->Expr × List NW × List NW × Option Expr × Expr
 | .If t b e _=>(t,b,e,none,e0)
 | .While t b e _=>(t,b,e,none,e0)
 | .For _ i b e _=>(i,b,e,none,e0)
 | .Assert t m _=>(t,[],[],m,e0)
 | .Assign (t::_) v _=>(v,[],[],none,t)
 | .Expr v _=>(v,[],[],none,e0)
 | _=>(e0,[],[],none,e0)
set_option backward.match.sparseCases false in
noncomputable def eP:Expr->List Expr × Expr × Nat × Scope
 | .Tuple es k _=>(es,e0,k,Po)
 | .Call _ as _ _=>(as,e0,0,Po)
 | .BoolOp _ es _=>(es,e0,0,Po)
 | .Compare l _ _ _=>([],l,0,Po)
 | .ListComp _ _ s _=>([],e0,0,s)
 | _=>([],e0,0,Po)
noncomputable def sB(b:List NW)(i:Nat):NW:=(b.drop i).headD (.Pass Po)
noncomputable def eA(b:List Expr)(i:Nat):Expr:=(b.drop i).headD e0
noncomputable def di(s:NW):Expr:=(sP s).1
noncomputable def eC(s:NW):List NW:=(sP s).2.1
noncomputable def ow(s:NW):List NW:=(sP s).2.2.1
noncomputable def vh(s:NW):Option Expr:=(sP s).2.2.2.1
noncomputable def oy(s:NW):Expr:=(sP s).2.2.2.2
noncomputable def lP(e:Expr):List Expr:=(eP e).1
noncomputable def oz(e:Expr):Nat:=(eP e).2.2.1
noncomputable def cL(e:Expr):Expr:=(eP e).2.1
noncomputable def vi(e:Expr):List Expr:=(eP e).1
noncomputable def cA(s:NW):Expr:=eA (lP (di s)) 0
noncomputable def BK(s:NW):Scope:=(eP (di s)).2.2.2
@[irreducible] noncomputable def TS:NQ:=154
@[irreducible] noncomputable def NI:NQ:=57
@[irreducible] noncomputable def fI:NQ:=53
@[irreducible] noncomputable def pN:NQ:=58
@[irreducible] noncomputable def pP:NQ:=59
@[irreducible] noncomputable def pS:NQ:=60
@[irreducible] noncomputable def oE:NQ:=97
@[irreducible] noncomputable def lR:NQ:=104
@[irreducible] noncomputable def fT:NQ:=90
@[irreducible] noncomputable def fF:NQ:=144
@[irreducible] noncomputable def fP:NQ:=109
@[irreducible] noncomputable def CE:NQ:=72
@[irreducible] noncomputable def oG:Of:=bU "__init__" "_NodeInfo.__init__" (md 5 1) "cpy313.graphlib" 289 52 .none
@[irreducible] noncomputable def bI:List NW:=(md 5 1).2.1
@[irreducible] noncomputable def g8:Of:=bU "_get_nodeinfo" "TopologicalSorter._get_nodeinfo" (md 7 1) "cpy313.graphlib" 289 96 .none
@[irreducible] noncomputable def bG:List NW:=(md 7 1).2.1
@[irreducible] noncomputable def iL:Of:=bU "add" "TopologicalSorter.add" (md 7 2) "cpy313.graphlib" 289 103 .none
@[irreducible] noncomputable def bA:List NW:=(md 7 2).2.1
@[irreducible] noncomputable def fdT:Of:=bU "__init__" "TopologicalSorter.__init__" (md 7 0) "cpy313.graphlib" 289 89 (.ref 83)
@[irreducible] noncomputable def bT:List NW:=(md 7 0).2.1
@[irreducible] noncomputable def g9:Of:=bU "_find_cycle" "TopologicalSorter._find_cycle" (md 7 8) "cpy313.graphlib" 289 143 .none
@[irreducible] noncomputable def bF:List NW:=(md 7 8).2.1
@[irreducible] noncomputable def iM:Of:=bU "prepare" "TopologicalSorter.prepare" (md 7 3) "cpy313.graphlib" 289 108 .none
@[irreducible] noncomputable def bP:List NW:=(md 7 3).2.1
@[irreducible] noncomputable def BL:Nat->Pos:=pl 28014008014028014026014023014008014012014008014030013008013030013029013026013008013012013008013024012008012024012020012017012008012012012008012
@[irreducible] noncomputable def BM:Nat->Pos:=pl 45026008024028024011024028024024024016024011024027023008023027023026023023023008023012023008023028022008022028022027022024022008022012022008022032021008021032021028021025021008021012021008021028020008020028020026020023020008020012020008020
@[irreducible] noncomputable def ch:Nat->Pos:=pl 21031008031021031015031060030008029060030012030060030045030059030055030054030045030042030036030033030012030032030028030027030012030016030012030056029011029056029052029047029012029047029022029046029042029041029022029037029022029026029022029018029012029
@[irreducible] noncomputable def hA:Nat->Pos:=pl 45040008038045040012040045040012040044040040040039040012040032040012040021040012040048039012039048039024039047039043039042039024039028039024039021039012039032038020038016038012038051037008037051037034037050037038037037037034037030037008037016037008037043036008036043036019036042036038036037036019036023036019036016036008036079035008034040034011034040034036034028034011034015034011034
@[irreducible] noncomputable def j9:Nat->Pos:=pl 60048008047060048012048060048018048059048054048052048029048051048031048028048018048016047011047034046008046034046016046032046016046020046016046013046008046094045008045094045028045093045073045093045092045088045073045074045073045069045045045067045045045060045045045049045045045041045040045035045029045030045029045025045008045012045008045063044008043040043011043040043036043028043011043015043011043
@[irreducible] noncomputable def BN:Nat->Pos:=pl 19119008119019119015119024097008097024097022097019097008097020096008096020096015096018096015096012096008096020095008095020095018095015095008095018094008094018094016094013094008094029093008093029093014093018093014093011093008093
@[irreducible] noncomputable def BO:Nat->Pos:=pl 25118008098025118012101022101018101024100012099024100016100027099015099027099023099019099015099023098020098016098012098
@[irreducible] noncomputable def jq:Nat->Pos:=pl 38109016102038109020109038109020109037109033109032109020109025109020109050108020108050108040108049108044108043108040108037108020108036108032108031108020108071107020107071107020107070107035107061107035107060107040107049107040107048107044107043107040107039107035107034107020107027107020107034106020106034106020106033106029106028106020106024106020106065104020103065104024104065104031104065104059104064104060104056104031104055104037104054104037104053104049104048104037104036104031104042103023103042103031103027103023103031102019102031102027102023102019102
@[irreducible] noncomputable def lU:Nat->Pos:=pl 25118016110025118020118037116020111037116020114037116024116037116024116035116024116031116024116052115024115052115028115051115040115049115040115045115040115039115028115040114027114029113024113044112024112044112031112042112031112041112039112041112040112038112031112028112024112027110022110
@[irreducible] noncomputable def qX:Nat->Pos:=pl 69136004132052133008133052133015133051133033133032133015133022133015133031132007132030132027132025132018132017132007132
@[irreducible] noncomputable def BP:Nat->Pos:=pl 14199004199014199011199017198004198026197004142024141004141024141011141008141004141020140004140020140010140013140010140007140004140012139004139012139010139007139004139
@[irreducible] noncomputable def BQ:Nat->Pos:=pl 26197008145026197008148026197008150026197012197026197012197015197012197030149012149030149012149015149012149017144008144009144008144018143008143009143008143
@[irreducible] noncomputable def BR:Nat->Pos:=pl 34223004207024203004203024203011203008203004203020202004202020202010202013202010202007202004202012201004201012201010201007201004201
@[irreducible] noncomputable def BS:Nat->Pos:=pl 14206004204014206008206014206013206009206008206019205008205019205008205011205008205038204010204038204020204038204034204
@[irreducible] noncomputable def oH:Nat->Pos:=pl 27226004226027226011226026226022226022226017226021226018226017226013226022225004225007225004225017224004224
@[irreducible] noncomputable def qY:Nat->Pos:=pl 46128004128046128011128045128041128039128034128033128011128038127004127038127012127037127034127032127028127026127023127022127012127009127004127019126004126019126011126017126011126008126004126
@[irreducible] noncomputable def BU:List NW:=eC (sB (md 7 2).2.1 0)
@[irreducible] noncomputable def BV:List NW:=eC (sB (md 7 0).2.1 4)
@[irreducible] noncomputable def BW:List NW:=eC (sB (md 7 3).2.1 0)
@[irreducible] noncomputable def qZ:Scope:=BK (sB (md 7 3).2.1 1)
noncomputable def oK:List NW:=(bu 13).2.1
noncomputable def hG:List NW:=(bu 15).2.1
noncomputable def kc:List NW:=eC (sB hG 3)
noncomputable def re:List NW:=ow (sB kc 2)
noncomputable def rf:List NW:=ow (sB re 0)
noncomputable def hH:List NW:=(bu 16).2.1
noncomputable def oM:NW:=sB hH 3
noncomputable def oN:List NW:=hH.drop 5
@[irreducible] noncomputable def BX:List NW:=(eC (sB oK 0)).drop 1
@[irreducible] noncomputable def BY:List NW:=ow (sB oK 0)
@[irreducible] noncomputable def BZ:List NW:=oK.drop 1
@[irreducible] noncomputable def rg:Expr:=di (sB kc 0)
@[irreducible] noncomputable def rh:Expr:=di (sB kc 1)
@[irreducible] noncomputable def vn:Expr:=di (sB kc 2)
@[irreducible] noncomputable def B0:List NW:=eC (sB kc 2)
@[irreducible] noncomputable def vo:Expr:=di (sB re 0)
@[irreducible] noncomputable def vq:Expr:=cA (sB (eC (sB re 0)) 0)
@[irreducible] noncomputable def vr:Expr:=di (sB rf 0)
@[irreducible] noncomputable def B1:List NW:=eC (sB rf 0)
@[irreducible] noncomputable def vt:Expr:=cA (sB (ow (sB rf 0)) 0)
@[irreducible] noncomputable def vu:List Expr:=lP (oy (sB hG 2))
@[irreducible] noncomputable def B3:Nat:=oz (oy (sB hG 2))
@[irreducible] noncomputable def ri:List Expr:=lP (di (sB hG 2))
@[irreducible] noncomputable def B5:Nat:=oz (di (sB hG 2))
@[irreducible] noncomputable def rj:Expr:=di (sB hG 3)
@[irreducible] noncomputable def vv:List NW:=kc
@[irreducible] noncomputable def rk:Expr:=di (sB hG 4)
@[irreducible] noncomputable def B6:Option Expr:=vh (sB hG 4)
@[irreducible] noncomputable def vw:List Expr:=lP (oy (sB hH 2))
@[irreducible] noncomputable def B7:Nat:=oz (oy (sB hH 2))
@[irreducible] noncomputable def rm:List Expr:=lP (di (sB hH 2))
@[irreducible] noncomputable def B8:Nat:=oz (di (sB hH 2))
@[irreducible] noncomputable def vx:NW:=oM
@[irreducible] noncomputable def rn:Expr:=di (sB hH 4)
@[irreducible] noncomputable def B9:List NW:=eC (sB hH 4)
@[irreducible] noncomputable def vy:List NW:=oN
@[irreducible] noncomputable def ro:Expr:=eA (vi (di oM)) 0
@[irreducible] noncomputable def vz:Expr:=cL (eA (vi (di oM)) 1)
@[irreducible] noncomputable def vA:Expr:=cA (sB (eC oM) 0)
@[irreducible] noncomputable def rq:Expr:=di (sB oN 0)
@[irreducible] noncomputable def Ca:Option Expr:=vh (sB oN 0)
@[irreducible] noncomputable def oO:Expr:=di (sB oN 1)
end
section
open PySem PySem.W PyProof.Rows PySem.Spec PySem.SeqAt
theorem a7{a b:Bool}{P:Prop}(h:(a&&b)=true)(k:a=true->b=true->P):P:=k (M0.mp h).1 (M0.mp h).2
theorem eD{a b c:Bool}{P:Prop}(h:(a&&b&&c)=true)(k:a=true->b=true->c=true->P):P:=a7 h fun x z=>a7 x fun x y=>k x y z
theorem fm{a b c d:Bool}{P:Prop}(h:(a&&b&&c&&d)=true)(k:a=true->b=true->c=true->d=true->P):P:=a7 h fun x z=>eD x fun x y w=>k x y w z
theorem hV{a b c d e:Bool}{P:Prop}(h:(a&&b&&c&&d&&e)=true)(k:a=true->b=true->c=true->d=true->e=true->P):P:=a7 h fun x z=>fm x fun x y w v=>k x y w v z
theorem oP{a b c d e f:Bool}{P:Prop}(h:(a&&b&&c&&d&&e&&f)=true)(k:a=true->b=true->c=true->d=true->e=true->f=true->P):P:=a7 h fun x z=>hV x fun x y w v u=>k x y w v u z
theorem oQ{a b c d e f g:Bool}{P:Prop}(h:(a&&b&&c&&d&&e&&f&&g)=true)(k:a=true->b=true->c=true->d=true->e=true->f=true->g=true->P):P:=eD h fun x y z=>hV x fun a b c d e=>k a b c d e y z
theorem vB{a b c d e f g h':Bool}{P:Prop}(h:(a&&b&&c&&d&&e&&f&&g&&h')=true)(k:a=true->b=true->c=true->d=true->e=true->f=true->g=true->h'=true->P):P:=a7 h fun x z=>oQ x fun a b c d e f g=>k a b c d e f g z
noncomputable def v1{α:Type}(l:List α)(f:α->Bool):Bool:=match l with | [x]=>f x | _=>false
theorem cU{α:Type}{l:List α}{f:α->Bool}{P:List α->Prop}(h:v1 l f=true)(k:∀x,f x=true->P [x]):P l:=match l,h with
 | [_],h=>k _ h
 | [],h=>absurd h MY
 | _::_::_,h=>absurd h MY
noncomputable def v0{α:Type}(l:List α)(b:Bool):Bool:=match l with | []=>b | _=>false
theorem eE{α:Type}{l:List α}{b:Bool}{P:List α->Prop}(h:v0 l b=true)(k:b=true->P []):P l:=match l,h with
 | [],h=>k h
 | _::_,h=>absurd h MY
noncomputable def vC{α:Type}(l:List α)(f:α->List α->Bool):Bool:=match l with | x::r=>f x r | _=>false
theorem cV{α:Type}{l:List α}{f:α->List α->Bool}{P:List α->Prop}(h:vC l f=true)(k:∀x r,f x r=true->P (x::r)):P l:=match l,h with
 | _::_,h=>k _ _ h
 | [],h=>absurd h MY
noncomputable def vO{α:Type}(l:Option α)(f:α->Bool):Bool:=match l with | some x=>f x | _=>false
theorem lV{α:Type}{l:Option α}{f:α->Bool}{P:Option α->Prop}(h:vO l f=true)(k:∀x,f x=true->P (some x)):P l:=match l,h with
 | some _,h=>k _ h
 | none,h=>absurd h MY
noncomputable def vN{α:Type}(l:Option α)(b:Bool):Bool:=match l with | none=>b | _=>false
theorem rr{α:Type}{l:Option α}{b:Bool}{P:Option α->Prop}(h:vN l b=true)(k:b=true->P none):P l:=match l,h with
 | none,h=>k h
 | some _,h=>absurd h MY
noncomputable def n1{α:Type}:α->Bool:=fun U=>false
theorem m1{α:Type}{P:α->Prop}:∀a,n1 a=true->P a:=fun U h=>absurd h MY
noncomputable def n2{α β:Type}:α->β->Bool:=fun U U=>false
theorem m2{α β:Type}{P:α->β->Prop}:∀a b,n2 a b=true->P a b:=fun U U h=>absurd h MY
noncomputable def n3{α β γ:Type}:α->β->γ->Bool:=fun U U U=>false
theorem m3{α β γ:Type}{P:α->β->γ->Prop}:∀a b c,n3 a b c=true->P a b c:=fun U U U h=>absurd h MY
noncomputable def n4{α β γ δ:Type}:α->β->γ->δ->Bool:=fun U U U U=>false
theorem m4{α β γ δ:Type}{P:α->β->γ->δ->Prop}:∀a b c d,n4 a b c d=true->P a b c d:=fun U U U U h=>absurd h MY
noncomputable def n5{α β γ δ ε:Type}:α->β->γ->δ->ε->Bool:=fun U U U U U=>false
theorem m5{α β γ δ ε:Type}{P:α->β->γ->δ->ε->Prop}:∀a b c d e,n5 a b c d e=true->P a b c d e:=fun U U U U U h=>absurd h MY
set_option backward.match.sparseCases false in
noncomputable def iN(e:NW)(f0:List Expr->Expr->Pos->Bool)(f1:Option Expr->Pos->Bool)(f2:Expr->Pos->Bool)(f3:Pos->Bool)(f4:Expr->List NW->List NW->Pos->Bool)(f5:Expr->Expr->List NW->List NW->Pos->Bool)(f6:Expr->List NW->List NW->Pos->Bool)(f7:List NW->List Pz->List NW->List NW->Pos->Bool):Bool:=match e with | .Assign t v p=>f0 t v p | .Return v p=>f1 v p | .Expr v p=>f2 v p | .Break p=>f3 p | .If t b o p=>f4 t b o p | .For t i b o p=>f5 t i b o p | .While t b o p=>f6 t b o p | .Try b hs o fb p=>f7 b hs o fb p | _=>false
theorem jr{P:NW->Prop}{e:NW}{f0:List Expr->Expr->Pos->Bool}{f1:Option Expr->Pos->Bool}{f2:Expr->Pos->Bool}{f3:Pos->Bool}{f4:Expr->List NW->List NW->Pos->Bool}{f5:Expr->Expr->List NW->List NW->Pos->Bool}{f6:Expr->List NW->List NW->Pos->Bool}{f7:List NW->List Pz->List NW->List NW->Pos->Bool}(h:iN e f0 f1 f2 f3 f4 f5 f6 f7=true)(k0:∀t v p,f0 t v p=true->P (.Assign t v p))(k1:∀v p,f1 v p=true->P (.Return v p))(k2:∀v p,f2 v p=true->P (.Expr v p))(k3:∀p,f3 p=true->P (.Break p))(k4:∀t b o p,f4 t b o p=true->P (.If t b o p))(k5:∀t i b o p,f5 t i b o p=true->P (.For t i b o p))(k6:∀t b o p,f6 t b o p=true->P (.While t b o p))(k7:∀b hs o fb p,f7 b hs o fb p=true->P (.Try b hs o fb p)):P e:=by
 cases e<;>first | (exact absurd h MY) | exact k0 _ _ _ h | exact k1 _ _ h | exact k2 _ _ h | exact k3 _ h | exact k4 _ _ _ _ h | exact k5 _ _ _ _ _ h | exact k6 _ _ _ _ h | exact k7 _ _ _ _ _ h
noncomputable def vD(e:NW)(f:List Expr->Expr->Pos->Bool):Bool:=iN e f n2 n2 n1 n4 n5 n4 n5
theorem Cb{P:NW->Prop}{e:NW}{f:List Expr->Expr->Pos->Bool}(h:vD e f=true)(k:∀t v p,f t v p=true->P (.Assign t v p)):P e :=
 jr h k m2 m2 m1 m4 m5 m4 m5
noncomputable def vE(e:NW)(f:Option Expr->Pos->Bool):Bool:=iN e n3 f n2 n1 n4 n5 n4 n5
theorem Cd{P:NW->Prop}{e:NW}{f:Option Expr->Pos->Bool}(h:vE e f=true)(k:∀v p,f v p=true->P (.Return v p)):P e :=
 jr h m3 k m2 m1 m4 m5 m4 m5
noncomputable def iO(e:NW)(f:Expr->Pos->Bool):Bool:=iN e n3 n2 f n1 n4 n5 n4 n5
theorem Ce{P:NW->Prop}{e:NW}{f:Expr->Pos->Bool}(h:iO e f=true)(k:∀v p,f v p=true->P (.Expr v p)):P e :=
 jr h m3 m2 k m1 m4 m5 m4 m5
noncomputable def oS(e:NW)(f:Expr->List NW->List NW->Pos->Bool):Bool:=iN e n3 n2 n2 n1 f n5 n4 n5
theorem vF{P:NW->Prop}{e:NW}{f:Expr->List NW->List NW->Pos->Bool}(h:oS e f=true)(k:∀t b o p,f t b o p=true->P (.If t b o p)):P e :=
 jr h m3 m2 m2 m1 k m5 m4 m5
noncomputable def vG(e:NW)(f:Expr->Expr->List NW->List NW->Pos->Bool):Bool:=iN e n3 n2 n2 n1 n4 f n4 n5
theorem Cf{P:NW->Prop}{e:NW}{f:Expr->Expr->List NW->List NW->Pos->Bool}(h:vG e f=true)(k:∀t i b o p,f t i b o p=true->P (.For t i b o p)):P e :=
 jr h m3 m2 m2 m1 m4 k m4 m5
noncomputable def vH(e:NW)(f:Expr->List NW->List NW->Pos->Bool):Bool:=iN e n3 n2 n2 n1 n4 n5 f n5
theorem Cg{P:NW->Prop}{e:NW}{f:Expr->List NW->List NW->Pos->Bool}(h:vH e f=true)(k:∀t b o p,f t b o p=true->P (.While t b o p)):P e :=
 jr h m3 m2 m2 m1 m4 m5 k m5
noncomputable def vI(e:NW)(f:List NW->List Pz->List NW->List NW->Pos->Bool):Bool:=iN e n3 n2 n2 n1 n4 n5 n4 f
theorem Ch{P:NW->Prop}{e:NW}{f:List NW->List Pz->List NW->List NW->Pos->Bool}(h:vI e f=true)(k:∀b hs o fb p,f b hs o fb p=true->P (.Try b hs o fb p)):P e :=
 jr h m3 m2 m2 m1 m4 m5 m4 k
set_option backward.match.sparseCases false in
noncomputable def dG(e:Expr)(f0:Str->Pos->Bool)(f1:Const->Nat->Pos->Bool)(f2:Expr->Pm->Expr->Pos->Bool)(f3:Expr->List CmpOp->List Expr->Pos->Bool)(f4:UnaryOp->Expr->Pos->Bool)(f5:BoolOp->List Expr->Pos->Bool)(f6:Expr->Expr->Expr->Pos->Bool)(f7:List Expr->Pos->Bool)(f8:List Expr->Nat->Pos->Bool)(f9:Expr->Expr->Pos->Bool)(f10:Option Expr->Option Expr->Option Expr->Pos->Bool)(f11:Expr->Str->Pos->Bool)(f12:Expr->List Expr->List Keyword->Pos->Bool)(f13:Expr->Pos->Bool)(f14:Expr->List Oz->Scope->Pos->Bool)(f15:List (Option Expr)->List Expr->Pos->Bool)(f16:Expr->Expr->List Oz->Scope->Pos->Bool):Bool:=match e with | .Name x p=>f0 x p | .Constant c n p=>f1 c n p | .BinOp l o r p=>f2 l o r p | .Compare l os rs p=>f3 l os rs p | .UnaryOp o x p=>f4 o x p | .BoolOp o xs p=>f5 o xs p | .IfExp t a b p=>f6 t a b p | .List xs p=>f7 xs p | .Tuple xs n p=>f8 xs n p | .Subscript a b p=>f9 a b p | .Slice l u s p=>f10 l u s p | .Attribute a b p=>f11 a b p | .Call g xs ks p=>f12 g xs ks p | .Starred a p=>f13 a p | .ListComp e gs sc p=>f14 e gs sc p | .Dict a b p=>f15 a b p | .DictComp a b g s p=>f16 a b g s p | _=>false
theorem dR{P:Expr->Prop}{e:Expr}{f0:Str->Pos->Bool}{f1:Const->Nat->Pos->Bool}{f2:Expr->Pm->Expr->Pos->Bool}{f3:Expr->List CmpOp->List Expr->Pos->Bool}{f4:UnaryOp->Expr->Pos->Bool}{f5:BoolOp->List Expr->Pos->Bool}{f6:Expr->Expr->Expr->Pos->Bool}{f7:List Expr->Pos->Bool}{f8:List Expr->Nat->Pos->Bool}{f9:Expr->Expr->Pos->Bool}{f10:Option Expr->Option Expr->Option Expr->Pos->Bool}{f11:Expr->Str->Pos->Bool}{f12:Expr->List Expr->List Keyword->Pos->Bool}{f13:Expr->Pos->Bool}{f14:Expr->List Oz->Scope->Pos->Bool}{f15:List (Option Expr)->List Expr->Pos->Bool}{f16:Expr->Expr->List Oz->Scope->Pos->Bool}(h:dG e f0 f1 f2 f3 f4 f5 f6 f7 f8 f9 f10 f11 f12 f13 f14 f15 f16=true)(k0:∀x p,f0 x p=true->P (.Name x p))(k1:∀c n p,f1 c n p=true->P (.Constant c n p))(k2:∀l o r p,f2 l o r p=true->P (.BinOp l o r p))(k3:∀l os rs p,f3 l os rs p=true->P (.Compare l os rs p))(k4:∀o x p,f4 o x p=true->P (.UnaryOp o x p))(k5:∀o xs p,f5 o xs p=true->P (.BoolOp o xs p))(k6:∀t a b p,f6 t a b p=true->P (.IfExp t a b p))(k7:∀xs p,f7 xs p=true->P (.List xs p))(k8:∀xs n p,f8 xs n p=true->P (.Tuple xs n p))(k9:∀a b p,f9 a b p=true->P (.Subscript a b p))(k10:∀l u s p,f10 l u s p=true->P (.Slice l u s p))(k11:∀a b p,f11 a b p=true->P (.Attribute a b p))(k12:∀g xs ks p,f12 g xs ks p=true->P (.Call g xs ks p))(k13:∀a p,f13 a p=true->P (.Starred a p))(k14:∀e gs sc p,f14 e gs sc p=true->P (.ListComp e gs sc p))(k15:∀a b p,f15 a b p=true->P (.Dict a b p))(k16:∀a b g s p,f16 a b g s p=true->P (.DictComp a b g s p)):P e:=by
 cases e<;>first | (exact absurd h MY) | exact k0 _ _ h | exact k1 _ _ _ h | exact k2 _ _ _ _ h | exact k3 _ _ _ _ h | exact k4 _ _ _ h | exact k5 _ _ _ h | exact k6 _ _ _ _ h | exact k7 _ _ h | exact k8 _ _ _ h | exact k9 _ _ _ h | exact k10 _ _ _ _ h | exact k11 _ _ _ h | exact k12 _ _ _ _ h | exact k13 _ _ h | exact k14 _ _ _ _ h | exact k15 _ _ _ h | exact k16 _ _ _ _ _ h
noncomputable def bv(e:Expr)(f:Str->Pos->Bool):Bool:=dG e f n3 n4 n4 n3 n3 n4 n2 n3 n3 n4 n3 n4 n2 n4 n3 n5
theorem cP{P:Expr->Prop}{e:Expr}{f:Str->Pos->Bool}(h:bv e f=true)(k:∀x p,f x p=true->P (.Name x p)):P e :=
 dR h k m3 m4 m4 m3 m3 m4 m2 m3 m3 m4 m3 m4 m2 m4 m3 m5
noncomputable def oU(e:Expr)(f:Const->Nat->Pos->Bool):Bool:=dG e n2 f n4 n4 n3 n3 n4 n2 n3 n3 n4 n3 n4 n2 n4 n3 n5
theorem oV{P:Expr->Prop}{e:Expr}{f:Const->Nat->Pos->Bool}(h:oU e f=true)(k:∀c n p,f c n p=true->P (.Constant c n p)):P e :=
 dR h m2 k m4 m4 m3 m3 m4 m2 m3 m3 m4 m3 m4 m2 m4 m3 m5
noncomputable def rt(e:Expr)(f:Expr->Pm->Expr->Pos->Bool):Bool:=dG e n2 n3 f n4 n3 n3 n4 n2 n3 n3 n4 n3 n4 n2 n4 n3 n5
theorem rB{P:Expr->Prop}{e:Expr}{f:Expr->Pm->Expr->Pos->Bool}(h:rt e f=true)(k:∀l o r p,f l o r p=true->P (.BinOp l o r p)):P e :=
 dR h m2 m3 k m4 m3 m3 m4 m2 m3 m3 m4 m3 m4 m2 m4 m3 m5
noncomputable def vJ(e:Expr)(f:Expr->List CmpOp->List Expr->Pos->Bool):Bool:=dG e n2 n3 n4 f n3 n3 n4 n2 n3 n3 n4 n3 n4 n2 n4 n3 n5
theorem Ci{P:Expr->Prop}{e:Expr}{f:Expr->List CmpOp->List Expr->Pos->Bool}(h:vJ e f=true)(k:∀l os rs p,f l os rs p=true->P (.Compare l os rs p)):P e :=
 dR h m2 m3 m4 k m3 m3 m4 m2 m3 m3 m4 m3 m4 m2 m4 m3 m5
noncomputable def rC(e:Expr)(f:UnaryOp->Expr->Pos->Bool):Bool:=dG e n2 n3 n4 n4 f n3 n4 n2 n3 n3 n4 n3 n4 n2 n4 n3 n5
theorem vK{P:Expr->Prop}{e:Expr}{f:UnaryOp->Expr->Pos->Bool}(h:rC e f=true)(k:∀o x p,f o x p=true->P (.UnaryOp o x p)):P e :=
 dR h m2 m3 m4 m4 k m3 m4 m2 m3 m3 m4 m3 m4 m2 m4 m3 m5
noncomputable def rD(e:Expr)(f:BoolOp->List Expr->Pos->Bool):Bool:=dG e n2 n3 n4 n4 n3 f n4 n2 n3 n3 n4 n3 n4 n2 n4 n3 n5
theorem rE{P:Expr->Prop}{e:Expr}{f:BoolOp->List Expr->Pos->Bool}(h:rD e f=true)(k:∀o xs p,f o xs p=true->P (.BoolOp o xs p)):P e :=
 dR h m2 m3 m4 m4 m3 k m4 m2 m3 m3 m4 m3 m4 m2 m4 m3 m5
noncomputable def vL(e:Expr)(f:Expr->Expr->Expr->Pos->Bool):Bool:=dG e n2 n3 n4 n4 n3 n3 f n2 n3 n3 n4 n3 n4 n2 n4 n3 n5
theorem vM{P:Expr->Prop}{e:Expr}{f:Expr->Expr->Expr->Pos->Bool}(h:vL e f=true)(k:∀t a b p,f t a b p=true->P (.IfExp t a b p)):P e :=
 dR h m2 m3 m4 m4 m3 m3 k m2 m3 m3 m4 m3 m4 m2 m4 m3 m5
noncomputable def vP(e:Expr)(f:List Expr->Pos->Bool):Bool:=dG e n2 n3 n4 n4 n3 n3 n4 f n3 n3 n4 n3 n4 n2 n4 n3 n5
theorem oW{P:Expr->Prop}{e:Expr}{f:List Expr->Pos->Bool}(h:vP e f=true)(k:∀xs p,f xs p=true->P (.List xs p)):P e :=
 dR h m2 m3 m4 m4 m3 m3 m4 k m3 m3 m4 m3 m4 m2 m4 m3 m5
noncomputable def iP(e:Expr)(f:List Expr->Nat->Pos->Bool):Bool:=dG e n2 n3 n4 n4 n3 n3 n4 n2 f n3 n4 n3 n4 n2 n4 n3 n5
theorem lW{P:Expr->Prop}{e:Expr}{f:List Expr->Nat->Pos->Bool}(h:iP e f=true)(k:∀xs n p,f xs n p=true->P (.Tuple xs n p)):P e :=
 dR h m2 m3 m4 m4 m3 m3 m4 m2 k m3 m4 m3 m4 m2 m4 m3 m5
noncomputable def lX(e:Expr)(f:Expr->Expr->Pos->Bool):Bool:=dG e n2 n3 n4 n4 n3 n3 n4 n2 n3 f n4 n3 n4 n2 n4 n3 n5
theorem kh{P:Expr->Prop}{e:Expr}{f:Expr->Expr->Pos->Bool}(h:lX e f=true)(k:∀a b p,f a b p=true->P (.Subscript a b p)):P e :=
 dR h m2 m3 m4 m4 m3 m3 m4 m2 m3 k m4 m3 m4 m2 m4 m3 m5
noncomputable def vQ(e:Expr)(f:Option Expr->Option Expr->Option Expr->Pos->Bool):Bool:=dG e n2 n3 n4 n4 n3 n3 n4 n2 n3 n3 f n3 n4 n2 n4 n3 n5
theorem Cj{P:Expr->Prop}{e:Expr}{f:Option Expr->Option Expr->Option Expr->Pos->Bool}(h:vQ e f=true)(k:∀l u s p,f l u s p=true->P (.Slice l u s p)):P e :=
 dR h m2 m3 m4 m4 m3 m3 m4 m2 m3 m3 k m3 m4 m2 m4 m3 m5
noncomputable def rF(e:Expr)(f:Expr->Str->Pos->Bool):Bool:=dG e n2 n3 n4 n4 n3 n3 n4 n2 n3 n3 n4 f n4 n2 n4 n3 n5
theorem vR{P:Expr->Prop}{e:Expr}{f:Expr->Str->Pos->Bool}(h:rF e f=true)(k:∀a b p,f a b p=true->P (.Attribute a b p)):P e :=
 dR h m2 m3 m4 m4 m3 m3 m4 m2 m3 m3 m4 k m4 m2 m4 m3 m5
noncomputable def vS(e:Expr)(f:Expr->List Expr->List Keyword->Pos->Bool):Bool:=dG e n2 n3 n4 n4 n3 n3 n4 n2 n3 n3 n4 n3 f n2 n4 n3 n5
theorem Cl{P:Expr->Prop}{e:Expr}{f:Expr->List Expr->List Keyword->Pos->Bool}(h:vS e f=true)(k:∀g xs ks p,f g xs ks p=true->P (.Call g xs ks p)):P e :=
 dR h m2 m3 m4 m4 m3 m3 m4 m2 m3 m3 m4 m3 k m2 m4 m3 m5
noncomputable def vT(e:Expr)(f:List (Option Expr)->List Expr->Pos->Bool):Bool:=dG e n2 n3 n4 n4 n3 n3 n4 n2 n3 n3 n4 n3 n4 n2 n4 f n5
theorem Cm{P:Expr->Prop}{e:Expr}{f:List (Option Expr)->List Expr->Pos->Bool}(h:vT e f=true)(k:∀a b p,f a b p=true->P (.Dict a b p)):P e :=
 dR h m2 m3 m4 m4 m3 m3 m4 m2 m3 m3 m4 m3 m4 m2 m4 k m5
noncomputable def vU(e:Expr)(f:Expr->Expr->List Oz->Scope->Pos->Bool):Bool:=dG e n2 n3 n4 n4 n3 n3 n4 n2 n3 n3 n4 n3 n4 n2 n4 n3 f
theorem Cn{P:Expr->Prop}{e:Expr}{f:Expr->Expr->List Oz->Scope->Pos->Bool}(h:vU e f=true)(k:∀a b g s p,f a b g s p=true->P (.DictComp a b g s p)):P e :=
 dR h m2 m3 m4 m4 m3 m3 m4 m2 m3 m3 m4 m3 m4 m2 m4 m3 k
noncomputable def vV(e:Expr)(f:Expr->List Oz->Scope->Pos->Bool):Bool:=dG e n2 n3 n4 n4 n3 n3 n4 n2 n3 n3 n4 n3 n4 n2 f n3 n5
theorem vW{P:Expr->Prop}{e:Expr}{f:Expr->List Oz->Scope->Pos->Bool}(h:vV e f=true)(k:∀e gs sc p,f e gs sc p=true->P (.ListComp e gs sc p)):P e :=
 dR h m2 m3 m4 m4 m3 m3 m4 m2 m3 m3 m4 m3 m4 m2 k m3 m5
noncomputable def eF(e:NW)(f:Expr->Expr->Pos->Bool):Bool:=vD e fun t v p=>v1 t fun t=>f t v p
theorem rG{P:NW->Prop}{e:NW}{f:Expr->Expr->Pos->Bool}(h:eF e f=true)(k:∀t v p,f t v p=true->P (.Assign [t] v p)):P e :=
 Cb h fun U v p h=>cU (P:=fun t=>P (.Assign t v p)) h fun t h=>k t v p h
noncomputable def lY(e:NW)(f:Expr->Pos->Bool):Bool:=vE e fun v p=>vO v fun v=>f v p
theorem oX{P:NW->Prop}{e:NW}{f:Expr->Pos->Bool}(h:lY e f=true)(k:∀v p,f v p=true->P (.Return (some v) p)):P e :=
 Cd h fun U p h=>lV (P:=fun v=>P (.Return v p)) h fun v h=>k v p h
noncomputable def lZ(e:NW)(f:Expr->Expr->List NW->Pos->Bool):Bool:=vG e fun t i b o p=>v0 o (f t i b p)
theorem vX{P:NW->Prop}{e:NW}{f:Expr->Expr->List NW->Pos->Bool}(h:lZ e f=true)(k:∀t i b p,f t i b p=true->P (.For t i b [] p)):P e :=
 Cf h fun t i b U p h=>eE (P:=fun o=>P (.For t i b o p)) h fun h=>k t i b p h
noncomputable def rH(e:NW)(f:Expr->List NW->Pos->Bool):Bool:=vH e fun t b o p=>v0 o (f t b p)
theorem Co{P:NW->Prop}{e:NW}{f:Expr->List NW->Pos->Bool}(h:rH e f=true)(k:∀t b p,f t b p=true->P (.While t b [] p)):P e :=
 Cg h fun t b U p h=>eE (P:=fun o=>P (.While t b o p)) h fun h=>k t b p h
noncomputable def oY(e:Expr)(f:Expr->CmpOp->Expr->Pos->Bool):Bool:=vJ e fun l os rs p=>v1 os fun o=>v1 rs fun r=>f l o r p
theorem oZ{P:Expr->Prop}{e:Expr}{f:Expr->CmpOp->Expr->Pos->Bool}(h:oY e f=true)(k:∀l o r p,f l o r p=true->P (.Compare l [o] [r] p)):P e :=
 Ci h fun l U U p h=>cU (P:=fun os=>P (.Compare l os _ p)) h fun o h=>cU (P:=fun rs=>P (.Compare l [o] rs p)) h fun r h=>k l o r p h
noncomputable def rI(e:Expr)(f:Expr->Pos->Bool):Bool:=rC e fun o x p=>o==.Not&&f x p
theorem rJ{P:Expr->Prop}{e:Expr}{f:Expr->Pos->Bool}(h:rI e f=true)(k:∀x p,f x p=true->P (.UnaryOp .Not x p)):P e :=
 vK h fun o x p h=>a7 h fun ho h=>(NY ho)▸k x p h
noncomputable def vY(e:Expr)(f:Expr->Expr->Pos->Bool):Bool:=rD e fun o l p=>o==.And&&vC l fun x r=>v1 r fun y=>f x y p
theorem Cp{P:Expr->Prop}{e:Expr}{f:Expr->Expr->Pos->Bool}(h:vY e f=true)(k:∀x y p,f x y p=true->P (.BoolOp .And [x,y] p)):P e :=
 rE h fun o U p h=>a7 h fun ho h=>(NY ho)▸cV (P:=fun l=>P (.BoolOp .And l p)) h fun x U h=>cU (P:=fun r=>P (.BoolOp .And (x::r) p)) h fun y h=>k x y p h
noncomputable def o4(e:Expr)(f:Expr->List Expr->Pos->Bool):Bool:=vS e fun g xs ks p=>v0 ks (f g xs p)
theorem rL{P:Expr->Prop}{e:Expr}{f:Expr->List Expr->Pos->Bool}(h:o4 e f=true)(k:∀g xs p,f g xs p=true->P (.Call g xs [] p)):P e :=
 Cl h fun g xs U p h=>eE (P:=fun ks=>P (.Call g xs ks p)) h fun h=>k g xs p h
noncomputable def jt(e:Expr)(f:Str->Pos->List Expr->Pos->Bool):Bool:=o4 e fun g xs p=>bv g fun x xp=>f x xp xs p
theorem kj{P:Expr->Prop}{e:Expr}{f:Str->Pos->List Expr->Pos->Bool}(h:jt e f=true)(k:∀x xp xs p,f x xp xs p=true->P (.Call (.Name x xp) xs [] p)):P e :=
 rL h fun U xs p h=>cP (P:=fun g=>P (.Call g xs [] p)) h fun x xp h=>k x xp xs p h
noncomputable def o5(e:Expr)(f:Str->Expr->Bool):Bool:=jt e fun g U xs U=>v1 xs fun x=>f g x
theorem l7{P:Expr->Prop}{e:Expr}{f:Str->Expr->Bool}(h:o5 e f=true)(k:∀g gp x p,f g x=true->P (.Call (.Name g gp) [x] [] p)):P e :=
 kj h fun g gp U p h=>cU (P:=fun xs=>P (.Call (.Name g gp) xs [] p)) h fun x h=>k g gp x p h
noncomputable def vZ(e:Expr)(f:Expr->Str->Pos->Expr->Pos->Bool):Bool:=o4 e fun g xs p=>rF g fun o m ap=>v1 xs fun x=>f o m ap x p
theorem v3{P:Expr->Prop}{e:Expr}{f:Expr->Str->Pos->Expr->Pos->Bool}(h:vZ e f=true)(k:∀o m ap x p,f o m ap x p=true->P (.Call (.Attribute o m ap) [x] [] p)):P e :=
 rL h fun U xs p h=>vR (P:=fun g=>P (.Call g xs [] p)) h fun o m ap h=>cU (P:=fun xs=>P (.Call (.Attribute o m ap) xs [] p)) h fun x h=>k o m ap x p h
noncomputable def hW(e:Expr)(f:Str->Pos->Str->Pos->List Expr->Pos->Bool):Bool:=o4 e fun g xs p=>rF g fun o m ap=>bv o fun x xp=>f x xp m ap xs p
theorem v4{P:Expr->Prop}{e:Expr}{f:Str->Pos->Str->Pos->List Expr->Pos->Bool}(h:hW e f=true)(k:∀x xp m ap xs p,f x xp m ap xs p=true->P (.Call (.Attribute (.Name x xp) m ap) xs [] p)):P e :=
 rL h fun U xs p h=>vR (P:=fun g=>P (.Call g xs [] p)) h fun o m ap h=>cP (P:=fun o=>P (.Call (.Attribute o m ap) xs [] p)) h fun x xp h=>k x xp m ap xs p h
noncomputable def v5(e:Pz)(f:Str->Pos->Expr->Pos->Pos->Bool):Bool:=match e with
 | .ExceptHandler t n b hp=>vO t fun t=>vN n (bv t fun x xp=>v1 b fun r=>lY r fun v rp=>f x xp v rp hp)
theorem Cq{P:Pz->Prop}{e:Pz}{f:Str->Pos->Expr->Pos->Pos->Bool}(h:v5 e f=true)(k:∀x xp v rp hp,f x xp v rp hp=true->P (.ExceptHandler (some (.Name x xp)) none [.Return (some v) rp] hp)):P e:=match e,h with
 | .ExceptHandler _ n b hp,h=>lV (P:=fun t=>P (.ExceptHandler t n b hp)) h fun U h=>rr (P:=fun n=>P (.ExceptHandler _ n b hp)) h fun h=>cP (P:=fun t=>P (.ExceptHandler (some t) none b hp)) h fun x xp h =>
  cU (P:=fun b=>P (.ExceptHandler (some (.Name x xp)) none b hp)) h fun U h=>oX (P:=fun r=>P (.ExceptHandler (some (.Name x xp)) none [r] hp)) h fun v rp h=>k x xp v rp hp h
noncomputable def l9(e:NW)(f:List NW->Str->Pos->Expr->Pos->Pos->Pos->Bool):Bool:=vI e fun b hs o fb p=>v0 o (v0 fb (v1 hs fun hd=>v5 hd fun x xp v rp hp=>f b x xp v rp hp p))
theorem v8{P:NW->Prop}{e:NW}{f:List NW->Str->Pos->Expr->Pos->Pos->Pos->Bool}(h:l9 e f=true)(k:∀b x xp v rp hp p,f b x xp v rp hp p=true->P (.Try b [.ExceptHandler (some (.Name x xp)) none [.Return (some v) rp] hp] [] [] p)):P e :=
 Ch h fun b hs U fb p h=>eE (P:=fun o=>P (.Try b hs o fb p)) h fun h=>eE (P:=fun fb=>P (.Try b hs [] fb p)) h fun h=>cU (P:=fun hs=>P (.Try b hs [] [] p)) h fun U h =>
  Cq (P:=fun hd=>P (.Try b [hd] [] [] p)) h fun x xp v rp hp h=>k b x xp v rp hp p h
theorem kn{P:NW->Prop}{st:NW}{f:Str->Pos->Expr->Pos->Bool}(h:(eF st fun t v p=>bv t fun x xp=>f x xp v p)=true)(k:∀x xp v p,f x xp v p=true->P (.Assign [.Name x xp] v p)):P st :=
 rG h fun U v p h=>cP (P:=fun t=>P (.Assign [t] v p)) h fun x xp h=>k x xp v p h
theorem Cr{P:NW->Prop}{st:NW}{f:List Expr->Nat->Pos->Expr->Pos->Bool}(h:(eF st fun t v p=>iP t fun ts n tp=>f ts n tp v p)=true)(k:∀ts n tp v p,f ts n tp v p=true->P (.Assign [.Tuple ts n tp] v p)):P st :=
 rG h fun U v p h=>lW (P:=fun t=>P (.Assign [t] v p)) h fun ts n tp h=>k ts n tp v p h
theorem Cs{P:NW->Prop}{st:NW}{f:List Expr->List Expr->Bool}(h:(eF st fun t v U=>iP t fun ts U U=>iP v fun vs U U=>f ts vs)=true)(k:∀ts n tp vs m vp p,f ts vs=true->P (.Assign [.Tuple ts n tp] (.Tuple vs m vp) p)):P st :=
 Cr h fun ts n tp U p h=>lW (P:=fun v=>P (.Assign [.Tuple ts n tp] v p)) h fun vs m vp h=>k ts n tp vs m vp p h
theorem v9{P:NW->Prop}{st:NW}{f:Str->Str->List Expr->Bool}(h:(eF st fun t v U=>bv t fun x U=>jt v fun g U xs U=>f x g xs)=true)(k:∀x xp g gp xs cp p,f x g xs=true->P (.Assign [.Name x xp] (.Call (.Name g gp) xs [] cp) p)):P st :=
 kn h fun x xp U p h=>kj (P:=fun v=>P (.Assign [.Name x xp] v p)) h fun g gp xs cp h=>k x xp g gp xs cp p h
theorem o6{P:NW->Prop}{st:NW}{f:Str->Str->Pos->List Expr->Pos->Bool}(h:(iO st fun c U=>hW c fun x U m ap xs cp=>f x m ap xs cp)=true)(k:∀x xp m ap xs cp p,f x m ap xs cp=true->P (.Expr (.Call (.Attribute (.Name x xp) m ap) xs [] cp) p)):P st :=
 Ce h fun U p h=>v4 (P:=fun v=>P (.Expr v p)) h fun x xp m ap xs cp h=>k x xp m ap xs cp p h
theorem Ct{P:NW->Prop}{st:NW}{f:Str->Expr->Str->Str->Pos->Pos->Bool}
 (h:(l9 st fun b ce U v U U U=>v1 b fun t=>iO t fun c U=>hW c fun x U m ap xs cp=>v0 xs (f ce v x m ap cp))=true)
 (k:∀x xp m ap cp ep ce cep v rp hp tp,f ce v x m ap cp=true->P (.Try [.Expr (.Call (.Attribute (.Name x xp) m ap) [] [] cp) ep] [.ExceptHandler (some (.Name ce cep)) none [.Return (some v) rp] hp] [] [] tp)):P st :=
 v8 h fun U ce cep v rp hp tp h=>cU (P:=fun b=>P (.Try b [.ExceptHandler (some (.Name ce cep)) none [.Return (some v) rp] hp] [] [] tp)) h fun U h =>
  o6 (P:=fun t=>P (.Try [t] [.ExceptHandler (some (.Name ce cep)) none [.Return (some v) rp] hp] [] [] tp)) (f:=fun x m ap xs cp=>v0 xs (f ce v x m ap cp)) h fun x xp m ap U cp ep h =>
   eE (P:=fun xs=>P (.Try [.Expr (.Call (.Attribute (.Name x xp) m ap) xs [] cp) ep] [.ExceptHandler (some (.Name ce cep)) none [.Return (some v) rp] hp] [] [] tp)) h fun h=>k x xp m ap cp ep ce cep v rp hp tp h
noncomputable def ju(x:Str)(xp:Pos)(v:Expr)(rp hp:Pos):List Pz:=[.ExceptHandler (some (.Name x xp)) none [.Return (some v) rp] hp]
theorem Cu{P:NW->Prop}{st:NW}{f:Str->Expr->Str->Pos->Expr->Str->Str->Pos->Str->Pos->Bool}
 (h:(l9 st fun b ve U v U U U=>v1 b fun fo=>lZ fo fun t iter fb U=>bv t fun el ep=>v1 fb fun c=>iO c fun c U=>hW c fun x U m ap xs cp=>v1 xs fun a=>bv a fun el2 U=>f ve v el ep iter x m ap el2 cp)=true)
 (k:∀el ep iter x xp m ap el2 elp cp exp fp ve vep v rp hp tp,f ve v el ep iter x m ap el2 cp=true ->
  P (.Try [.For (.Name el ep) iter [.Expr (.Call (.Attribute (.Name x xp) m ap) [.Name el2 elp] [] cp) exp] [] fp] [.ExceptHandler (some (.Name ve vep)) none [.Return (some v) rp] hp] [] [] tp)):P st :=
 v8 h fun U ve vep v rp hp tp h=>by
  exact cU (P:=fun b=>P (.Try b (ju ve vep v rp hp) [] [] tp)) h fun U h=>vX (P:=fun t=>P (.Try [t] (ju ve vep v rp hp) [] [] tp)) h fun U iter U fp h=>cP (P:=fun t=>P (.Try [.For t iter _ [] fp] (ju ve vep v rp hp) [] [] tp)) h fun el ep h =>
   cU (P:=fun fb=>P (.Try [.For (.Name el ep) iter fb [] fp] (ju ve vep v rp hp) [] [] tp)) h fun U h=>o6 (P:=fun c=>P (.Try [.For (.Name el ep) iter [c] [] fp] (ju ve vep v rp hp) [] [] tp)) (f:=fun x m ap xs cp=>v1 xs fun a=>bv a fun el2 U=>f ve v el ep iter x m ap el2 cp) h fun x xp m ap U cp exp h =>
    cU (P:=fun xs=>P (.Try [.For (.Name el ep) iter [.Expr (.Call (.Attribute (.Name x xp) m ap) xs [] cp) exp] [] fp] (ju ve vep v rp hp) [] [] tp)) h fun U h =>
     cP (P:=fun a=>P (.Try [.For (.Name el ep) iter [.Expr (.Call (.Attribute (.Name x xp) m ap) [a] [] cp) exp] [] fp] (ju ve vep v rp hp) [] [] tp)) h fun el2 elp h=>k el ep iter x xp m ap el2 elp cp exp fp ve vep v rp hp tp h
section
theorem bk(s:NL):NX s s:=⟨s.heap,s.toks,rfl,fun U U e=>e⟩
theorem ar(s:NL)(t:Nat):NX s { s with toks:=t }:=⟨s.heap,t,rfl,fun U U e=>e⟩
theorem aO(x:NX a b)(y:NX b c):NX a c:=by
 refine x22 x fun h t e2 k=>?_;subst e2
 refine x22 y fun h' t' e2 k'=>?_;subst e2
 exact⟨h',t',rfl,fun b o e=>k' b o (k b o e)⟩
theorem ai(x:NX a b):∀c o,a.heap.get? c=some o->b.heap.get? c=some o:=by
 refine x22 x fun h t e2 k=>?_;subst e2;exact k
theorem bz{t:Nat}(o:Obj):NX s { s with heap:=s.heap.push o,toks:=t }:=⟨_,t,rfl,fun U U e=>NV _ e⟩
noncomputable def iv:NO->Int
 | .int i _=>i
 | _=>0
inductive DObj(o:Obj)(l:List (Int × Int)):Prop where
 | mk (p:Ol) (w:Og) (kv:List (Int × NO)) (h:o.IsDictOf (On p w) kv) (v:∀q∈kv,∃t,q.2=.int (iv q.2) t) (e:l=kv.map fun q=>(q.1,iv q.2)):DObj o l
noncomputable def eG(h:N9)(a:NQ)(l:List (Int × Int)):Prop:=(a==OR)=false/\∃o,h.get? a=some o/\DObj o l
theorem eG.at(x:eG h a l)(k:∀o,h.get? a=some o->h'.get? a=some o):eG h' a l:=⟨x.1,x12 x.2 fun o e r=>⟨o,k o e,r⟩⟩
noncomputable abbrev dD(l:List (Int × Int)):List (NR × NR):=l.map fun q=>(.int q.1,.int q.2)
section
mutual
inductive Rep(O:NQ->Prop)(h:N9):NO->NR->Prop
 | none:Rep O h .none .none
 | bool (b:Bool):Rep O h (.bool b) (.bool b)
 | int (i:Int) (t:Tok):Rep O h (.int i t) (.int i)
 | str (x:Str) (t:Tok):Rep O h (.str x t) (.str x)
 | list {a:NQ} {vs:Array NO} {n:Nat} {ds:List NR}:¬O a->IsL h a vs n->RepL O h vs.toList ds->Rep O h (.ref a) (.list ds)
 | tuple {a:NQ} {vs:Array NO} {n:Nat} {ds:List NR}:¬O a->IsT h a vs n->RepL O h vs.toList ds->Rep O h (.ref a) (.tuple ds)
 | dict {a:NQ} {l:List (Int × Int)}:¬O a->eG h a l->Rep O h (.ref a) (.dict (dD l))
inductive RepL(O:NQ->Prop)(h:N9):List NO->List NR->Prop
 | nil:RepL O h [] []
 | cons {v:NO} {vs:List NO} {d:NR} {ds:List NR}:Rep O h v d->RepL O h vs ds->RepL O h (v::vs) (d::ds)
end
end
section
variable{prog:Ol}{w:Og}{O O':NQ->Prop}{h h':N9}
theorem Cv(h:Pairs (On p w) es kv):Pairs (On p' w') es kv:=by
 induction h with
 | nil=>exact .nil
 | cons h1 h2 U ih=>exact .cons h1 h2 ih
inductive DictV(prog:Ol)(w:Og)(h:N9)(a:NQ)(l:List (Int × Int)):Prop where
 | mk (kv:List (Int × NO)) (d:h.DictOf (On prog w) a kv) (v:∀q∈kv,∃t,q.2=.int (iv q.2) t) (e:l=kv.map fun q=>(q.1,iv q.2)):DictV prog w h a l
theorem eG.dict(x:eG h a l):DictV prog w h a l:=by
 refine x12 x.2 fun o ho z=>?_
 obtain⟨p,w',kv,⟨es,ep,h1,h2,h3,h4,h5⟩,hv,e⟩:=z
 exact⟨kv,Heap.dictOf_iff.mpr ⟨o,ho,es,ep,h1,h2,h3,Cv h4,h5⟩,hv,e⟩
theorem eG.of(hs:(a==OR)=false)(d:h.DictOf (On prog w) a kv)(v:∀q∈kv,∃t,q.2=.int (iv q.2) t):eG h a (kv.map fun q=>(q.1,iv q.2)) :=
 ⟨hs,x12 (Heap.dictOf_iff.mp d) fun o ho r=>⟨o,ho,prog,w,kv,r,v,rfl⟩⟩
theorem fn(hk:∀o,h.get? a=some o->h'.get? a=some o)(x:h.DictOf (On prog w) a kvs):h'.DictOf (On prog w) a kvs:=by
 refine x12 (Heap.dictOf_iff.mp x) fun o ho r=>?_
 exact Heap.dictOf_iff.mpr ⟨o,hk o ho,r⟩
theorem Rep.mono(hk:∀b o,¬O b->h.get? b=some o->h'.get? b=some o)(hO:∀b o,h.get? b=some o->O' b->O b)(r:Rep O h v d):Rep O' h' v d :=
 Rep.rec (motive_1:=fun v d U=>Rep O' h' v d) (motive_2:=fun vs ds U=>RepL O' h' vs ds) .none .bool .int .str (fun n ho U l=>.list (fun q=>n (hO _ _ ho q)) (hk _ _ n ho) l) (fun n ho U l=>.tuple (fun q=>n (hO _ _ ho q)) (hk _ _ n ho) l) (fun n x=>.dict (fun q=>x12 x.2 fun o ho U=>n (hO _ o ho q)) (x.at fun o=>hk _ o n)) .nil (fun U U r l=>.cons r l) r
theorem RepL.mono(hk:∀b o,¬O b->h.get? b=some o->h'.get? b=some o)(hO:∀b o,h.get? b=some o->O' b->O b)(r:RepL O h vs ds):RepL O' h' vs ds :=
 RepL.rec (motive_1:=fun v d U=>Rep O' h' v d) (motive_2:=fun vs ds U=>RepL O' h' vs ds) .none .bool .int .str (fun n ho U l=>.list (fun q=>n (hO _ _ ho q)) (hk _ _ n ho) l) (fun n ho U l=>.tuple (fun q=>n (hO _ _ ho q)) (hk _ _ n ho) l) (fun n x=>.dict (fun q=>x12 x.2 fun o ho U=>n (hO _ o ho q)) (x.at fun o=>hk _ o n)) .nil (fun U U r l=>.cons r l) r
theorem Rep.keeps(k:NX s s')(r:Rep O s.heap v d):Rep O s'.heap v d:=r.mono (fun b o U e=>ai k b o e) fun U U U q=>q
theorem RepL.keeps(k:NX s s')(r:RepL O s.heap v d):RepL O s'.heap v d:=r.mono (fun b o U e=>ai k b o e) fun U U U q=>q
theorem Rep.weak(hO:∀b,O' b->O b)(r:Rep O h v d):Rep O' h v d:=r.mono (fun U U U e=>e) fun b U U q=>hO b q
theorem RepL.length(r:RepL O h vs ds):vs.length=ds.length:=by
 induction vs generalizing ds with
 | nil=>cases r;rfl
 | cons v vs ih=>cases r with | cons _ l=>rw[dQ,dQ,ih l]
theorem RepL.append(r:RepL O h vs ds)(q:RepL O h ws es):RepL O h (vs++ws) (ds++es):=by
 induction vs generalizing ds with
 | nil=>cases r;exact q
 | cons v vs ih=>cases r with | cons a l=>exact .cons a (ih l)
theorem RepL.get{vs:List NO}{ds:List NR}(r:RepL O h vs ds){i:Nat}(hv:vs[i]? = some v):∃d,ds[i]? = some d/\Rep O h v d:=by
 induction vs generalizing ds i with
 | nil=>simp at hv
 | cons u vs ih =>
  cases r with
  | cons a l =>
   cases i with
   | zero=>simp at hv;subst hv;exact⟨_,rfl,a⟩
   | succ i=>simp at hv;simpa using ih l hv
theorem RepL.getD{vs:List NO}{ds:List NR}(r:RepL O h vs ds){i:Nat}{d:NR}(hd:ds[i]? = some d):∃v,vs[i]? = some v/\Rep O h v d:=by
 induction vs generalizing ds i with
 | nil=>cases r;cases hd
 | cons u vs ih =>
  cases r with
  | cons a l =>
   cases i with
   | zero=>simp at hd;subst hd;exact⟨_,rfl,a⟩
   | succ i=>simp at hd;simpa using ih l hd
theorem RepL.take(r:RepL O h vs ds)(n:Nat):RepL O h (vs.take n) (ds.take n):=by
 induction vs generalizing ds n with
 | nil=>cases r;simpa using RepL.nil
 | cons u vs ih =>
  cases r with
  | cons a l=>cases n with | zero=>simpa using RepL.nil | succ n=>simpa using RepL.cons a (ih l n)
theorem RepL.drop(r:RepL O h vs ds)(n:Nat):RepL O h (vs.drop n) (ds.drop n):=by
 induction vs generalizing ds n with
 | nil=>cases r;simpa using RepL.nil
 | cons u vs ih =>
  cases r with
  | cons a l=>cases n with | zero=>simpa using RepL.cons a l | succ n=>simpa using ih l n
mutual
noncomputable def kq:NR->Bool
 | .none | .bool _ | .int _ | .str _=>true
 | .list ds | .tuple ds=>kz ds
 | .dict _=>false
noncomputable def kz:List NR->Bool
 | []=>true
 | d::ds=>kq d&&kz ds
end
mutual
theorem iQ:∀d:NR,d.canLay0=true->kq d=true
 | .none,_ | .bool _,_ | .int _,_ | .str _,_=>rfl
 | .list ds,h=>iR ds h
 | .tuple ds,h=>iR ds h
 | .dict _,h=>by simp[PyData.canLay0]at h
theorem iR:∀ds:List NR,OC ds=true->kz ds=true
 | [],_=>rfl
 | d::ds,h=>by
  have h:(d.canLay0&&OC ds)=true:=h
  exact a7 h fun h1 h2=>(congrArg (·&&_) (iQ d h1)).trans (iR ds h2)
end
theorem RepL.reads(r:RepL O h vs ds):kz ds=true->∃as,ReadsAll h vs ds as :=
 RepL.rec (motive_1:=fun v d U=>kq d=true->∃as,Reads h v d as) (motive_2:=fun vs ds U=>kz ds=true->∃as,ReadsAll h vs ds as) (fun U=>⟨_,.none⟩) (fun b U=>⟨_,.bool b⟩) (fun i t U=>⟨_,.int i t⟩) (fun x t U=>⟨_,.str x t⟩)
  (fun U ho U l q=>(l q).elim fun as r=>⟨_,.list ho rfl rfl r⟩) (fun U ho U l q=>(l q).elim fun as r=>⟨_,.tuple ho rfl rfl r⟩) (fun U U h=>absurd h MY) (fun U=>⟨_,.nil⟩)
  (fun U U r l q=>have q:=M0.mp q;(r q.1).elim fun as a=>(l q.2).elim fun bs b=>⟨_,.cons a b⟩) r
theorem Rep.reads(r:Rep O h v d)(hd:kq d=true):∃as,Reads h v d as:=by
 have:=RepL.reads (.cons r .nil) (show(kq d&&true)=true by rw[hd];rfl)
 refine x11 this fun as q=>?_
 cases q with | cons a _=>exact⟨_,a⟩
end
end
noncomputable abbrev PV(O:NQ->Prop)(s:NL)(d:NR):NO->NL->Prop:=fun v s'=>NX s s'/\Rep O s'.heap v d
noncomputable abbrev PB(s:NL)(b:Bool):Bool->NL->Prop:=fun r s'=>r=b/\NX s s'
noncomputable def rM(op:Pm)(a b:Int):Int:=match op with
 | .Add=>a+b
 | .Sub=>a - b
 | .Mult=>a * b
 | .FloorDiv=>Int.fdiv a b
 | .Mod=>vj a b
 | .Pow=>a ^ b.toNat
 | .BitAnd=>Builtin.bitAnd a b
 | .BitOr=>Builtin.bitOr a b
 | .BitXor=>Builtin.bitXor a b
 | _=>0
noncomputable def o7(op:Pm)(a b:Int):Prop:=match op with
 | .Add | .Sub | .BitAnd | .BitOr | .BitXor=>True
 | .Mult=>(-65536<=a/\a<=65536)\/(-65536<=b/\b<=65536)
 | .FloorDiv=>0<b/\b<=1000000
 | .Mod=>b≠0
 | .Pow=>2<=a/\a<=64/\0<=b/\b<=64
 | _=>False
noncomputable def fq(op:Pm)(x y:NR):NR:=match x with
 | .int a=>(match y with | .int b=>.int (rM op a b) | _=>.none)
 | .str a=>(match y with | .str b=>.str (a++b) | _=>.none)
 | .list a=>(match y with | .list b=>.list (a++b) | _=>.none)
 | _=>.none
noncomputable def o8(op:Pm)(x y:NR):Prop:=match x with
 | .int a=>(match y with | .int b=>o7 op a b | _=>False)
 | .str a=>(match y with | .str b=>op=.Add/\a.length+b.length<=16777216 | _=>False)
 | .list a=>(match y with | .list b=>op=.Add/\a.length+b.length<=16777216 | _=>False)
 | _=>False
section
variable{prog:Ol}{w:Og}{A:N0}{E:NO->NL->Prop}{s:NL}{O:NQ->Prop}{va vb:NO}{da db:NR}
theorem cD{vs:Array NO}:vs.toList.length=vs.size:=by simp
theorem wa{a:Int}{k:Nat}(h : -(k:Int)<=a/\a<=k):a.natAbs<=k:=by
 cases a with
 | ofNat n=>exact Int.ofNat_le.mp h.2
 | negSucc n=>exact Int.ofNat_le.mp (Int.neg_le_neg_iff.mp h.1)
theorem wb(h:n<2 ^ k)(hk:0<k):n.log2<k:=by
 cases n with
 | zero=>exact hk
 | succ n=>exact(Nat.log2_lt (Nat.succ_ne_zero n)).mpr h
theorem wc{a:Int}(h : -65536<=a/\a<=65536):QD a<=64:=by
 unfold QD
 split
 ·exact cj _
 ·exact ae (wb (k:=17) (lM (wa (k:=65536) h) (by decide)) (by decide)) (by decide)
theorem RepL.pushO(o:Obj)(r:RepL O s.heap vs ds):RepL O (s.heap.push o) vs ds :=
 r.mono (fun U U U e=>NV _ e) fun U U U q=>q
theorem hY(r:Rep O s.heap v (.int a)):∃t,v=.int a t:=by
 cases r with | int a t=>exact⟨t,rfl⟩
theorem Cw:∀m:Fin 65,∀n:Fin 65,Builtin.Int.intTooBig (((QD (m.1:Int):Nat):Int) * (n.1:Int))=false:=by decide +kernel
theorem Cx{m n:Nat}{t u:Tok}(h2:2<=m)(h:m<65)(h1:n<65):NN (NP prog w) A (binaryOp .Pow (.int m t) (.int n u)) (PV O s (.int ((m:Int) ^ n))) E s:=by
 refine AutoIntOpsIf.pow ?_
 rw[if_pos (sT n)]
 cases n with
 | zero=>exact⟨ar _ _,.int _ _⟩
 | succ n =>
  match m,h2 with
  | m+2,_ =>
   show if Builtin.Int.intTooBig _=true then _ else _
   rw[Cw ⟨m+2,h⟩ ⟨n+1,h1⟩]
   exact⟨ar _ _,.int _ _⟩
theorem Cy(h:0<b)(h1:b<=1000000):Builtin.divisionGoesByPylong a b=false:=by
 unfold Builtin.divisionGoesByPylong
 have l:=wb (k:=20) (lM (wa (a:=b) (k:=1000000) ⟨Int.le_trans (by decide) (Int.le_of_lt h),h1⟩) (by decide)) (by decide)
 rw[Bool.and_eq_false_iff]
 refine .inl (decide_eq_false (fG.mpr ?_))
 show(if(b==0)=true then 0 else b.natAbs.log2 / 30+1)<=300
 rw[if_neg (fun e=>Int.ne_of_gt h (NY e))]
 exact ae (gv (Nat.div_le_div_right (NC l)) 1) (by decide)
theorem wd{op:Pm}{a b:Int}{t u:Tok}(hp:o7 op a b):NN (NP prog w) A (binaryOp op (.int a t) (.int b u)) (PV O s (.int (rM op a b))) E s:=by
 cases op<;>first | exact hp.elim | skip
 ·exact add_int ⟨ar _ _,.int _ _⟩
 ·exact sub_int ⟨ar _ _,.int _ _⟩
 ·exact mul_int ⟨ar _ _,.int _ _⟩ (hp.elim (fun h=>.of_left (wc h)) fun h=>.of_right (wc h))
 ·exact mod_int' hp ⟨ar _ _,.int _ _⟩
 ·obtain⟨p1,p2,p3,p4⟩:=hp
  match a,b,p1,p2,p3,p4 with
  | .ofNat m,.ofNat n,p1,p2,p3,p4=>exact Cx (Int.ofNat_le.mp p1) (Nat.lt_succ_of_le (Int.ofNat_le.mp p2)) (Nat.lt_succ_of_le (Int.ofNat_le.mp p4))
 ·exact or_int ⟨ar _ _,.int _ _⟩
 ·exact xor_int ⟨ar _ _,.int _ _⟩
 ·exact and_int ⟨ar _ _,.int _ _⟩
 ·exact floordiv_int (Int.ne_of_gt hp.1) ⟨ar _ _,.int _ _⟩ (.inl (Cy hp.1 hp.2))
theorem Cz{op:Pm}{P:NR->NR->NR->Prop}(hp:o8 op da db)(ki:∀a b,o7 op a b->P (.int a) (.int b) (.int (rM op a b)))
 (ks:∀a b,op=.Add->a.length+b.length<=16777216->P (.str a) (.str b) (.str (a++b))) (kl:∀a b,op=.Add->a.length+b.length<=16777216->P (.list a) (.list b) (.list (a++b))):P da db (fq op da db):=by
 cases da<;>first | exact hp.elim | skip
 ·cases db<;>first | exact hp.elim | exact ki _ _ hp
 ·cases db<;>first | exact hp.elim | exact ks _ _ hp.1 hp.2
 ·cases db<;>first | exact hp.elim | exact kl _ _ hp.1 hp.2
theorem we(hO:∀b,O b->b<s.heap.objs.size)(ra:Rep O s.heap va da)(rb:Rep O s.heap vb db)(hp:o8 op da db) :
 NN (NP prog w) A (binaryOp op va vb) (PV O s (fq op da db)) E s:=by
 revert ra rb
 refine Cz (P:=fun da db d=>Rep O s.heap va da->Rep O s.heap vb db->NN (NP prog w) A (binaryOp op va vb) (PV O s d) E s) hp (fun a b h ra rb=>?_) (fun a b e h ra rb=>?_) fun a b e h ra rb=>?_
 ·refine x11 (hY ra) fun t e1=>?_;subst e1
  refine x11 (hY rb) fun u e1=>?_;subst e1
  exact wd h
 ·cases ra;cases rb;cases e
  exact add_str (fun t' tk=>⟨ar _ _,.str _ _⟩) h
 ·cases e
  cases ra with
  | list na ha la =>
   cases rb with
   | list nb hb lb =>
    have e1:=la.length
    have e2:=lb.length
    rw[cD]at e1 e2
    refine P.add_list ha hb ⟨bz _,.list (n:=0) (fun q=>bj _ (hO _ q)) (IsL.new _ _) ?_⟩ (by rw[e1,e2];exact h)
    simpa using(la.append lb).pushO _
end
noncomputable def bV(d:NR):Prop:=d.canLay0=true/\d.depth<=32
noncomputable def ma(x:NR):NR->Bool
 | .list ds=>ds.any fun y=>Oa y x
 | .tuple ds=>ds.any fun y=>Oa y x
 | .str y=>match x with | .str z=>!(Builtin.Str.occurrences y z 0 y.length 1).isEmpty | _=>false
 | _=>false
noncomputable def rN(x:NR):NR->Prop
 | .list ds=>bV x/\OC ds=true
 | .tuple ds=>bV x/\OC ds=true
 | .str _=>match x with | .str _=>True | _=>False
 | _=>False
noncomputable def iS:CmpOp->NR->NR->Bool
 | .Eq,a,b=>Oa a b
 | .NotEq,a,b=>!Oa a b
 | .Lt,.int a,.int b=>decide (a<b)
 | .LtE,.int a,.int b=>decide (a<=b)
 | .Gt,.int a,.int b=>decide (a > b)
 | .GtE,.int a,.int b=>decide (a ≥ b)
 | .Is,.bool a,.bool b=>a==b
 | .IsNot,.bool a,.bool b=>!(a==b)
 | .In,a,b=>ma a b
 | .NotIn,a,b=>!ma a b
 | _,_,_=>false
noncomputable def mc:CmpOp->NR->NR->Prop
 | .Eq,a,b=>bV a/\bV b
 | .NotEq,a,b=>bV a/\bV b
 | .Lt,.int _,.int _=>True
 | .Gt,.int _,.int _=>True
 | .Is,.bool _,.bool _=>True
 | .IsNot,.bool _,.bool _=>True
 | .In,a,b=>rN a b
 | .NotIn,a,b=>rN a b
 | _,_,_=>False
noncomputable def a8(O:NQ->Prop)(h:N9)(v:NO)(d:NR):Prop :=
 Rep O h v d\/(∃a vs n ds,v=.ref a/\d=.list ds/\IsL h a vs n/\RepL O h vs.toList ds)
section
variable{prog:Ol}{w:Og}{A:N0}{E:NO->NL->Prop}{s:NL}{O:NQ->Prop}{va vb:NO}{da db:NR}
theorem a8.of(r:Rep O h v d):a8 O h v d:=.inl r
theorem a8.listIs(r:a8 O h v (.list ds)):∃a vs n,v=.ref a/\IsL h a vs n/\RepL O h vs.toList ds:=by
 rcases r with r | ⟨a,vs,n,ds',e,e',h1,h2⟩
 ·cases r with | list n h l=>exact⟨_,_,_,rfl,h,l⟩
 ·cases e';exact⟨a,vs,n,e,h1,h2⟩
theorem a8.keeps(k:NX s s')(r:a8 O s.heap v d):a8 O s'.heap v d:=by
 rcases r with r | ⟨a,vs,n,ds',e,e',h1,h2⟩
 ·exact .inl (r.keeps k)
 ·exact .inr ⟨a,vs,n,ds',e,e',ai k _ _ h1,h2.keeps k⟩
theorem a8.reads(r:a8 O h v d)(hd:kq d=true):∃as,Reads h v d as:=by
 rcases r with r | ⟨a,vs,n,ds',e,e',h1,h2⟩
 ·exact r.reads hd
 ·subst e e'
  replace hd:kz _=true:=hd
  refine x11 (h2.reads hd) fun as q=>?_
  exact⟨_,.list h1 rfl rfl q⟩
theorem a8.intIs(r:a8 O h v (.int i)):∃t,v=.int i t:=by
 rcases r with r | ⟨a,vs,n,ds',e,e',h1,h2⟩
 ·cases r;exact⟨_,rfl⟩
 ·cases e'
theorem a8.strIs(r:a8 O h v (.str i)):∃t,v=.str i t:=by
 rcases r with r | ⟨a,vs,n,ds',e,e',h1,h2⟩
 ·cases r;exact⟨_,rfl⟩
 ·cases e'
theorem a8.boolIs(r:a8 O h v (.bool i)):v=.bool i:=by
 rcases r with r | ⟨a,vs,n,ds',e,e',h1,h2⟩
 ·cases r;rfl
 ·cases e'
theorem a8.tupIs(r:a8 O h v (.tuple ds)):∃a vs n,v=.ref a/\IsT h a vs n/\RepL O h vs.toList ds:=by
 rcases r with r | ⟨a,vs,n,ds',e,e',h1,h2⟩
 ·cases r with | tuple n h l=>exact⟨_,_,_,rfl,h,l⟩
 ·cases e'
theorem a8.dicIs(r:a8 O h v (.dict ds)):∃a l,v=.ref a/\ds=dD l/\eG h a l/\¬O a:=by
 rcases r with r | ⟨a,vs,n,ds',e,e',h1,h2⟩
 ·cases r with | dict n x=>exact⟨_,_,rfl,rfl,x,n⟩
 ·cases e'
theorem wg(a b:Bool):(Value.bool a==Value.bool b)=(a==b):=by cases a<;>cases b<;>rfl
theorem me(h:bV x)(hu:A.units+100<cLine):A.units+1+min n x.depth<cLine:=by
 have:=h.2
 have h2:min n x.depth<=x.depth:=Nat.min_le_right _ _
 lia
theorem rO(hu:A.units+100<cLine)(ra:a8 O s.heap va da)(rb:a8 O s.heap vb db)(hp:mc op da db) :
 NN (NP prog w) A (compareOp op va vb) (fun v s'=>v=.bool (iS op da db)/\NX s s') E s:=by
 have eqs:∀ {a b:NR},bV a->bV b->a8 O s.heap va a->a8 O s.heap vb b->∃as bs,Reads s.heap va a as/\Reads s.heap vb b bs/\shaped a=true/\shaped b=true:=by
  intro a b ha hb r1 r2
  refine x11 (r1.reads (iQ _ ha.1)) fun as q1=>?_
  refine x11 (r2.reads (iQ _ hb.1)) fun bs q2=>?_
  refine⟨as,bs,q1,q2,?_,?_⟩
  ·have:=ha.2
   simp only[shaped,ha.1,Bool.true_and,decide_eq_true_eq];lia
  ·have:=hb.2
   simp only[shaped,hb.1,Bool.true_and,decide_eq_true_eq];lia
 cases op
 case Eq =>
  refine x24 (eqs hp.1 hp.2 ra rb) fun as bs q1 q2 h1 h2=>?_
  exact eq_dataH q1 q2 h1 h2 (by lia) ⟨rfl,bk _⟩
 case NotEq =>
  refine x24 (eqs hp.1 hp.2 ra rb) fun as bs q1 q2 h1 h2=>?_
  exact ne_dataH q1 q2 h1 h2 (by lia) ⟨rfl,bk _⟩
 case In =>
  cases db<;>first | exact hp.elim | skip
  ·cases da<;>first | exact hp.elim | skip
   refine x11 ra.strIs fun t e1=>?_;subst e1
   refine x11 rb.strIs fun u e1=>?_;subst e1
   exact P.in_str ⟨rfl,bk _⟩
  ·refine x11 (ra.reads (iQ _ hp.1.1)) fun as q1=>?_
   refine x11 (rb.reads (iR _ hp.2)) fun bs q2=>?_
   exact in_list_reads q2 q1 hp.2 hp.1.1 (me hp.1 hu) ⟨rfl,bk _⟩
  ·refine x11 (ra.reads (iQ _ hp.1.1)) fun as q1=>?_
   refine x11 (rb.reads (iR _ hp.2)) fun bs q2=>?_
   exact in_tuple_reads q2 q1 hp.2 hp.1.1 (me hp.1 hu) ⟨rfl,bk _⟩
 case NotIn =>
  cases db<;>first | exact hp.elim | skip
  ·cases da<;>first | exact hp.elim | skip
   refine x11 ra.strIs fun t e1=>?_;subst e1
   refine x11 rb.strIs fun u e1=>?_;subst e1
   exact P.notIn_str ⟨rfl,bk _⟩
  ·refine x11 (ra.reads (iQ _ hp.1.1)) fun as q1=>?_
   refine x11 (rb.reads (iR _ hp.2)) fun bs q2=>?_
   exact notIn_list_reads q2 q1 hp.2 hp.1.1 (me hp.1 hu) ⟨rfl,bk _⟩
  ·refine x11 (ra.reads (iQ _ hp.1.1)) fun as q1=>?_
   refine x11 (rb.reads (iR _ hp.2)) fun bs q2=>?_
   exact notIn_tuple_reads q2 q1 hp.2 hp.1.1 (me hp.1 hu) ⟨rfl,bk _⟩
 case Lt =>
  obtain⟨i,j,rfl,rfl⟩:∃i j,da=.int i/\db=.int j:=by
   cases da<;>first | exact hp.elim | skip
   cases db<;>first | exact hp.elim | exact⟨_,_,rfl,rfl⟩
  refine x11 ra.intIs fun t e1=>?_;subst e1
  refine x11 rb.intIs fun u e1=>?_;subst e1
  exact lt_int ⟨rfl,bk _⟩
 case LtE=>exact hp.elim
 case Gt =>
  obtain⟨i,j,rfl,rfl⟩:∃i j,da=.int i/\db=.int j:=by
   cases da<;>first | exact hp.elim | skip
   cases db<;>first | exact hp.elim | exact⟨_,_,rfl,rfl⟩
  refine x11 ra.intIs fun t e1=>?_;subst e1
  refine x11 rb.intIs fun u e1=>?_;subst e1
  exact gt_int ⟨rfl,bk _⟩
 case GtE=>exact hp.elim
 case Is =>
  obtain⟨i,j,rfl,rfl⟩:∃i j,da=.bool i/\db=.bool j:=by
   cases da<;>first | exact hp.elim | skip
   cases db<;>first | exact hp.elim | exact⟨_,_,rfl,rfl⟩
  have e1:=ra.boolIs
  have e2:=rb.boolIs
  subst e1 e2
  exact wpAny_is_plain rfl ⟨by rw[wg];rfl,bk _⟩
 case IsNot =>
  obtain⟨i,j,rfl,rfl⟩:∃i j,da=.bool i/\db=.bool j:=by
   cases da<;>first | exact hp.elim | skip
   cases db<;>first | exact hp.elim | exact⟨_,_,rfl,rfl⟩
  have e1:=ra.boolIs
  have e2:=rb.boolIs
  subst e1 e2
  exact wpAny_isNot_plain rfl ⟨by rw[wg];rfl,bk _⟩
end
noncomputable def iT:NR->Nat
 | .list ds=>ds.length
 | .tuple ds=>ds.length
 | .str x=>x.length
 | .dict kvs=>kvs.length
 | _=>0
noncomputable def bW(i:Int)(n:Nat):Nat:=if i<0 then(i+n).toNat else i.toNat
noncomputable def fs(i:Int)(n:Nat):Prop:=-1000000000<=i/\i<=1000000000/\-(n:Int)<=i/\i<n
theorem wh(h3 : -(n:Int)<=i)(h0:i<0):0<=i+n/\i+n<n :=
 ⟨Int.add_left_neg (n:Int)▸Int.add_le_add_right h3 n,Int.lt_of_lt_of_le (Int.add_lt_add_right h0 n) (Int.le_of_eq (Int.zero_add _))⟩
theorem rP(h:fs i n):bW i n<n:=by
 unfold bW
 by_cases h0:i<0
 ·rw[if_pos h0];exact(wh h.2.2.1 h0).elim fun a b=>(Int.toNat_lt a).mpr b
 ·rw[if_neg h0];exact(Int.toNat_lt (Int.not_lt.mp h0)).mpr h.2.2.2
theorem mh(h:fs i n) : -(2 ^ 63)<=i/\i<2 ^ 63:=⟨Int.le_trans (by decide) h.1,Int.lt_of_le_of_lt h.2.1 (by decide)⟩
theorem wi(h:fs i n):seqIndex? i n=some (bW i n):=by
 unfold seqIndex? bW
 by_cases h0:i<0
 ·simp only[h0,if_true]
  rw[if_pos (by simp only[e7,decide_eq_true_eq];exact wh h.2.2.1 h0)]
 ·simp only[h0,if_false]
  rw[if_pos (by simp only[e7,decide_eq_true_eq];exact⟨Int.not_lt.mp h0,h.2.2.2⟩)]
noncomputable def fM(l:List (NR × NR))(i:Int):Option NR:=(l.find? fun p=>Oa p.1 (.int i)).map (·.2)
noncomputable def jv(x y:NR):NR:=match y with
 | .int i=>(match x with
  | .dict l=>(fM l i).getD .none
  | .list ds=>ds.getD (bW i ds.length) .none
  | .tuple ds=>ds.getD (bW i ds.length) .none
  | .str x=>.str ⟨#[x.cps.getD (bW i x.length) 0]⟩
  | _=>.none)
 | _=>.none
noncomputable def o9(x y:NR):Prop:=match y with
 | .int i=>(match x with
  | .dict l=>(fM l i).isSome=true
  | .list ds=>fs i ds.length
  | .tuple ds=>fs i ds.length
  | .str x=>fs i x.length
  | _=>False)
 | _=>False
theorem wj{da db:NR}{P:NR->NR->NR->Prop}(hp:o9 da db)(k1:∀x i,fs i x.length->P (.str x) (.int i) (.str ⟨#[x.cps.getD (bW i x.length) 0]⟩))
 (k2:∀ds i,fs i ds.length->P (.list ds) (.int i) (ds.getD (bW i ds.length) .none)) (k3:∀ds i,fs i ds.length->P (.tuple ds) (.int i) (ds.getD (bW i ds.length) .none)) (k4:∀l i,(fM l i).isSome=true->P (.dict l) (.int i) ((fM l i).getD .none)):P da db (jv da db):=by
 cases db<;>first | exact hp.elim | skip
 cases da<;>first | exact hp.elim | exact k1 _ _ hp | exact k2 _ _ hp | exact k3 _ _ hp | exact k4 _ _ hp
noncomputable def part:NR->Option Int
 | .int i=>some i
 | _=>none
noncomputable def fQ{α:Type}(xs:List α)(lo hi:NR):List α :=
 (xs.drop ((part lo).elim 0 (Pg xs.length))).take ((part hi).elim xs.length (Pg xs.length) - (part lo).elim 0 (Pg xs.length))
noncomputable def jw(d lo hi:NR):NR:=match d with
 | .list ds=>.list (fQ ds lo hi)
 | .str x=>.str ⟨(fQ x.cps.toList lo hi).toArray⟩
 | _=>.none
noncomputable def mi:NR->Bool
 | .int _=>true
 | .none=>true
 | _=>false
noncomputable def rQ(d lo hi:NR):Prop:=match d with
 | .list ds=>ds.length<=16777216/\mi lo=true/\mi hi=true
 | .str x=>x.length<=16777216/\mi lo=true/\mi hi=true
 | _=>False
section
variable{prog:Ol}{w:Og}{A:N0}{E:NO->NL->Prop}{s:NL}{O:NQ->Prop}{va vb vc:NO}{da db dc:NR}
theorem CA{ds:List NR}{k:Nat}{d:NR}(h:ds[k]? = some d):ds.getD k .none=d:=by
 rw[av,h];rfl
theorem CB:fM (dD (kv.map fun q=>(q.1,iv q.2))) i=(OM kv i).map fun v=>.int (iv v):=by
 unfold fM OM
 induction kv with
 | nil=>rfl
 | cons q r ih =>
  have e:Oa (.int q.1) (.int i)=(q.1==i):=rfl
  show Qs _ (List.find? _ ((Oo q.1,Oo (iv q.2))::dD (r.map fun q=>(q.1,iv q.2))))=_
  rw[L8,L8]
  show Qs _ (match Oa (.int q.1) (.int i)with | true=>_ | false=>_)=_
  by_cases h:q.1=i
  ·rw[e,beq_iff_eq.mpr h,decide_eq_true h];rfl
  ·rw[e,beq_eq_false_iff_ne.mpr h,decide_eq_false h];exact ih
theorem wk{kv:List (Int × NO)}{i:Int}(h:OM kv i=some v):∃q∈kv,q.2=v:=by
 unfold OM at h
 refine x12 (M3.mp h) fun q h1 h2=>⟨q,M7 h1,h2⟩
theorem mj:(On prog w).is i (.int i t)=true:=beq_self_eq_true i
theorem CC(ra:a8 O s.heap va da)(rb:Rep O s.heap vb db)(hp:o9 da db) :
 NN (NP prog w) A (getItem va vb) (fun v s'=>NX s s'/\Rep O s'.heap v (jv da db)) E s:=by
 revert ra rb
 refine wj (P:=fun da db d=>a8 O s.heap va da->Rep O s.heap vb db->NN (NP prog w) A (getItem va vb) (fun v s'=>NX s s'/\Rep O s'.heap v d) E s) hp (fun x i hp ra rb=>?_) (fun ds i hp ra rb=>?_) (fun ds i hp ra rb=>?_) fun l i hp ra rb=>?_
 ·cases rb with | int i t=>?_
  refine x11 ra.strIs fun u e1=>?_;subst e1
  have h1:=hp.1
  have h2:=hp.2.1
  have hlt:=rP hp
  have hlt':bW i x.length<x.cps.size:=hlt
  refine P.getItem_str (c:=x.cps.getD (bW i x.length) 0) (by simp;exact mh hp) ?_ ?_
  ·rw[wi hp]
   show x.cps[bW i x.length]? = _
   rw[Array.getD_eq_getD_getElem?,Ql hlt'];rfl
  ·exact⟨ar _ _,.str _ _⟩
 ·cases rb with | int i t=>?_
  refine x33 ra.listIs fun a vs n e3 h l=>?_;subst e3
  have e:=l.length
  rw[cD]at e
  refine x12 (l.getD (i:=bW i ds.length) (d:=ds.getD (bW i ds.length) .none) (by rw[av,bw (rP hp)];rfl)) fun v hv r=>?_
  have hv':vs[bW i ds.length]? = some v:=by simpa using hv
  refine eQ hp fun h1 h2 h3 h4=>?_
  by_cases h0:i<0
  ·refine wpAny_getItem_list_neg h.isList h0 (by rw[e];exact h3) (mh hp).1 (x:=v) ?_ ⟨bk _,r⟩
   rw[e];unfold bW at hv';rwa [if_pos h0]at hv'
  ·refine wpAny_getItem_list h.isList (Int.not_lt.mp h0) (mh hp).2 (x:=v) ?_ ⟨bk _,r⟩
   unfold bW at hv';rwa [if_neg h0]at hv'
 ·cases rb with | int i t=>?_
  refine x33 ra.tupIs fun a vs n e3 h l=>?_;subst e3
  have e:=l.length
  rw[cD]at e
  refine x12 (l.getD (i:=bW i ds.length) (d:=ds.getD (bW i ds.length) .none) (by rw[av,bw (rP hp)];rfl)) fun v hv r=>?_
  have hv':vs[bW i ds.length]? = some v:=by simpa using hv
  have h1:=hp.1
  have h2:=hp.2.1
  exact P.getItem_tuple h (mh hp).1 (mh hp).2 (by rw[e];exact wi hp) hv' ⟨bk _,r⟩
 ·cases rb with | int i t=>?_
  refine x24 ra.dicIs fun a l' e1 e2 x U=>?_;subst e1;subst e2
  obtain⟨kv,d,hv,e⟩:=x.dict (prog:=prog) (w:=w)
  subst e
  rw[CB]at hp ⊢
  cases hq:OM kv i with
  | none=>rw[hq]at hp;exact absurd hp MY
  | some v =>
   refine wpAny_getItem_of mj d.mapOf hq ⟨ar _ _,?_⟩
   refine x12 (wk hq) fun q h1 h2=>x11 (hv q h1) fun t e=>?_
   rw[h2]at e
   show Rep O s.heap v (.int (iv v))
   rw[e];exact .int _ _
theorem RepL.cut(l:RepL O h vs ds)(lo hi:NR):RepL O h (fQ vs lo hi) (fQ ds lo hi):=by
 unfold fQ
 rw[l.length]
 exact(l.drop _).take _
theorem pb(r:Rep O s.heap v d)(h:mi d=true):IsPart v (part d)/\∃p:Option (Int × Tok),v=partValue p/\part d=p.map (·.1):=by
 cases d<;>first | exact absurd h MY | skip
 ·cases r;exact⟨.none,none,rfl,rfl⟩
 ·cases r with | int i t=>exact⟨.int _ _,some (_,t),rfl,rfl⟩
theorem ml(n k:Nat):Pg n (k:Int)=min k n :=
 congrArg Int.toNat ((congrArg (fun z=>max (0:Int) (min z (n:Int))) (if_neg (Int.not_lt.mpr (sT k)))).trans ((congrArg (max (0:Int)) (Lean.Omega.Int.ofNat_min k n).symm).trans (Int.max_eq_right (sT _))))
theorem wl(n:Nat)(i:Int):Pg n i<=n :=
 Int.toNat_le.mpr (Int.max_le.mpr ⟨sT n,Int.min_le_right ..⟩)
theorem CD(lo hi:Option Int)(n:Nat):Builtin.Str.strSliceIndices lo hi 1 n=(dj (hi.elim n (Pg n) - lo.elim 0 (Pg n))).map (lo.elim 0 (Pg n) + ·):=by
 rw[<- sliceRange_one]
 cases lo<;>cases hi<;>simp[Builtin.Str.strSliceIndices,clipAt_cast]
theorem CF(x:Str)(lo hi:Option Int) :
 Txt.slice x lo hi=⟨((x.cps.toList.drop (lo.elim 0 (Pg x.length))).take (hi.elim x.length (Pg x.length) - lo.elim 0 (Pg x.length))).toArray⟩:=by
 have ha:lo.elim 0 (Pg x.length)<=x.length:=by cases lo<;>simp[wl]
 have hb:hi.elim x.length (Pg x.length)<=x.length:=by cases hi<;>simp[wl]
 unfold Txt.slice
 rw[CD,pick_run]
 split
 ·rename_i h
  simp only[af,vl,beq_self_eq_true,Bool.true_and,beq_iff_eq]at h
  by_cases hn:x.length=0
  ·obtain⟨c⟩:=x
   have:c.size=0:=hn
   have:c=#[]:=Array.eq_empty_of_size_eq_zero this
   subst this;simp
  ·have h2:hi.elim x.length (Pg x.length)=x.length:=Nx hb (ae (gZ h.symm) (Nat.sub_le ..))
   have h1:lo.elim 0 (Pg x.length)=0:=Nat.eq_zero_of_not_pos fun q=>bj _ (uA (Nat.sub_lt (Nu hn) q) (gZ (h.symm.trans (by rw[h2]))))
   rw[h1,h2]
   obtain⟨c⟩:=x
   show _=Str.mk _
   congr 1
   have:c.toList.length=(Str.mk c).length:=by simp[Str.length]
   rw[List.drop_zero,Nat.sub_zero,<- this,Bw]
 ·rfl
set_option tactic.hygienic true in
theorem wm{sl:NQ}(hO:∀b,O b->b<s.heap.objs.size)(ra:a8 O s.heap va da)(rb:Rep O s.heap vb db)(rc:Rep O s.heap vc dc)
 (hs:s.heap.get? sl=some { cls:=.type "slice",data:=.fields #[vb,vc,.none] }) (hp:rQ da db dc) :
 NN (NP prog w) A (getItem va (.ref sl)) (fun v s'=>NX s s'/\Rep O s'.heap v (jw da db dc)) E s:=by
 cases da<;>first | exact False.elim hp | skip
 ·rename_i x
  refine x11 ra.strIs fun u e1=>?_;subst e1
  obtain⟨_,p,rfl,e1⟩:=pb rb hp.2.1
  obtain⟨_,q,rfl,e2⟩:=pb rc hp.2.2
  have hsl:s.heap.IsSlice sl p q none:=⟨_,hs,rfl,rfl⟩
  refine wpAny_getItem_str_slice hsl rfl ?_
  refine post_val_or_str ⟨ae (Txt.slice_le x _ _) hp.1,fun t' k=>⟨ar _ _,?_⟩⟩
  have:jw (.str x) db dc=.str (Txt.slice x (p.map (·.1)) (q.map (·.1))):=by
   rw[CF,<- e1,<- e2]
   have e:x.cps.toList.length=x.length:=by simp[Str.length]
   show OE ⟨(fQ x.cps.toList db dc).toArray⟩=_
   unfold fQ;rw[e]
  rw[this];exact .str _ _
 ·rename_i ds
  refine x33 ra.listIs fun a vs n e3 h l=>?_;subst e3
  have e:=l.length
  rw[cD]at e
  refine wpAny_getItem_list_slice h.isList (lo:=part db) (hi:=part dc) (st:=none) ⟨_,hs,rfl,rfl⟩ (pb rb hp.2.1).1 (pb rc hp.2.2).1 .none (by simp) ?_ (by rw[e];exact hp.1)
  refine⟨bz _,.list (n:=0) (fun q=>bj _ (hO _ q)) (IsL.new _ _) ?_⟩
  rw[slicePick_plain]
  have:=(l.cut db dc).pushO (s:=s) { cls:=.type "list",data:=.seq (slicePick vs (part db) (part dc) none) }
  simpa[fQ,slicePick_plain]using this
end
noncomputable def aZ(A:N0)(h:N9):Prop:=A.handled=none\/∃e o vs,A.handled=some (.ref e)/\h.get? e=some o/\o.data=.fields vs/\vs[2]? = some .none
theorem aZ.keeps(x:aZ A s.heap)(k:NX s s'):aZ A s'.heap:=by
 rcases x with x | ⟨e,o,vs,h1,h2,r⟩
 ·exact .inl x
 ·exact .inr ⟨e,o,vs,h1,ai k _ _ h2,r⟩
theorem aZ.mono(x:aZ A h)(k:∀b o,h.get? b=some o->h'.get? b=some o):aZ A h':=by
 rcases x with x | ⟨e,o,vs,h1,h2,r⟩
 ·exact .inl x
 ·exact .inr ⟨e,o,vs,h1,k _ _ h2,r⟩
theorem CG:entryFor table "proto.unchain" = some OX.«proto.unchain»:=entryFor_of_fast (by kernel_rfl)
section
variable{α:Type}{prog:Ol}{w:Og}{A:N0}{E:NO->NL->Prop}{s:NL}
theorem CH{id:String}{args:Args}{b:OX}{R:Result->NL->Prop}(hb:entryFor table id=some b)
 (h:NN (NP prog w) (A.under (.builtin id args)) (b args)
  (fun fin s'=>match fin with | .done f=>R (.ok f) s' | .again c'=>c'.quiet=true/\O3 (NP prog w) A c' R s') (fun e s'=>R (.error e) s') s) :
 O3 (NP prog w) A (.builtin id args) R s:=by
 refine codeAny_of_tree ?_
 show NN _ _ (match entryFor table id with | some b=>b args | none=>unsupported ((withoutEnding? id "#data").getD id)) _ _ s
 rw[hb];exact h
theorem CJ{e e₀:NQ}(h1:s.heap.get? e₀=some o)(h2:o.data=.fields vs)(h3:vs[2]? = some .none)(h:Q .none s) :
 NN (NP prog w) A (runValue (.builtin "proto.unchain" ⟨[.ref e,.ref e₀,.ref e₀,.bool false],[]⟩)) Q E s:=by
 refine wpAny_runValue (CH CG ?_)
 unfold OX.«proto.unchain»
 dsimp only
 refine NM (OS h1 h2 h3 ?_)
 rw[if_pos (show(OB==OB)=true from rfl)]
 exact NU h
theorem wn{Q:α->NL->Prop}(hh:aZ A s.heap)(he:s.heap.get? e=some oe)(hd:oe.data=.fields ve)(hsz:2<ve.size)
 (hne:∀e₀,A.handled=some (.ref e₀)->e₀≠e)
 (h:∀h' o' ve',OQ e s.heap h'->h'.get? e=some o'->o'.cls=oe.cls->o'.data=.fields ve'->ve'.size=ve.size->(∀i,i≠2->ve'[i]? = ve[i]?)->E (.ref e) { s with heap:=h' }) :
 NN (NP prog w) A (raiseNew (.ref e):Sem α) Q E s:=by
 unfold raiseNew
 refine NM (wpAny_handled ?_)
 rcases hh with hh | ⟨e₀,o,vs,hh,h1,h2,h3⟩
 ·rw[hh]
  refine NM (NU (wpAny_throw ?_))
  exact h s.heap oe ve (.refl ..) he rfl hd rfl fun U U=>rfl
 ·rw[hh]
  have hne':(N2 e₀ != N2 e)=true:=by
   have:=hne e₀ hh
   rw[bne_iff_ne];intro q;cases q;exact this rfl
  dsimp only
  rw[if_pos hne']
  refine NM (N8 (CJ h1 h2 h3 (NM ?_)))
  unfold updateField
  refine NM (wpAny_load he ?_)
  rw[hd]
  dsimp only
  rw[if_pos hsz]
  refine wpAny_update he (wpAny_throw ?_)
  refine h _ _ _ (Om ..) (Py _ he (PX (Pu hd _))) (Obj.cls_mapFields ..) (Pu hd _) (by simp) fun i hi=>?_
  rw[Array.getElem?_setIfInBounds]
  rw[if_neg (OW hi)]
theorem kA{Q0:α->NL->Prop}(hh:aZ A' s.heap)(h:∀h',(∀b o,s.heap.get? b=some o->h'.get? b=some o)->R none { s with heap:=h' }) :
 NN (NP prog w) A' (newExc (.type "StopIteration") [] >>= fun e=>(raiseNew e:Sem α)) Q0
  (fun e s'=>NN (NP prog w) A (do if <- isInstance e (.type "StopIteration")then pure (none:Option NO)else throw e) R E s') s:=by
 refine NM ?_
 simp only[newExc,newTuple]
 refine NM (O7 ?_ (by size_fits))
 refine NM (m:=firstArgMember _ _) (PT (a:=OB) (by first | rfl | (simp only[firstArgMember];rfl)) ?_)
 refine O7 ?_ (by size_fits)
 refine wn (hh.mono fun b o e=>NV _ (NV _ e)) (NZ _ rfl) rfl (by simp;lia) ?_ ?_
 ·intro e₀ he q
  rcases hh with hh | ⟨e1,o,vs,hh,h1,_⟩
  ·rw[hh]at he;cases he
  ·rw[hh]at he;cases he
   rw[ON]at q
   exact nz (qW (N3 h1)) q
 ·intro h' o' ve' hs ho hc hd hz _
  refine NM (wpAny_isInstance (T:= "StopIteration") (b:=true) ⟨_,ho,hc⟩ isSubtype_stop ?_)
  refine NU (h h' fun b o e=>?_)
  refine(hs.2 b ?_).trans (NV _ (NV _ e))
  rw[ON]
  exact nz (qW (N3 e))
theorem aZ.upd(x:aZ A h)(hne:∀e,A.handled=some (.ref e)->e≠a):aZ A (h.update a f):=by
 rcases x with x | ⟨e,o,vs,h1,h2,r⟩
 ·exact .inl x
 ·exact .inr ⟨e,o,vs,h1,(Heap.get?_update_other h f (OW (hne e h1))).trans h2,r⟩
noncomputable def hfp(A:N0):List NQ:=match A.handled with
 | some (.ref e)=>[e]
 | _=>[]
theorem mo(h:a∉hfp A):∀e,A.handled=some (.ref e)->e≠a:=by
 intro e he q
 apply h
 unfold hfp
 rw[he]
 simp[q]
theorem aZ.frame(x:aZ A h)(k:∀b∈hfp A,∀o,h.get? b=some o->h'.get? b=some o):aZ A h':=by
 rcases x with x | ⟨e,o,vs,h1,h2,r⟩
 ·exact .inl x
 ·exact .inr ⟨e,o,vs,h1,k e (by unfold hfp;rw[h1];simp) o h2,r⟩
theorem aZ.at(x:aZ A h)(hne:a∉hfp A)(k:Ou a h h'):aZ A h' :=
 x.frame fun b hb o e=>k b o (fun q=>hne (q▸hb)) e
theorem CK{it l:NQ}{i:Nat}{items:Array NO}{Q:Option NO->NL->Prop}(hh:aZ A s.heap)(hne:it∉hfp A)
 (hit:s.heap.IsListIter it l i) (hl:s.heap.IsList l items) (hx:items[i]? = none)
 (hQ:∀h',Ou it s.heap h'->Q none { s with heap:=h' }):NN (NP prog w) A (PA (.ref it)) Q E s:=by
 refine x13 (id hit) fun o ho hc hd=>?_
 obtain⟨ol,hol,_,nl,hdl⟩:=hl
 unfold PA
 refine NM (PN (O6 (name:=ofString "__next__") hit.typeIs slot_listiter_next
  (PJ slot_listiter_next hit.typeIs entry_listiter_next ?_ (args_listiter_next _))))
 show NN _ _ (field (.ref it) 0 >>= _) _ _ s
 refine NM (OS ho hd (x:=.ref l) rfl ?_)
 show NN _ _ (if(N2 l==OB)=true then _ else _) _ _ s
 rw[if_neg (show ¬((N2 l==OB)=true)from MY)]
 show NN _ _ (field (.ref it) 1 >>= _) _ _ s
 refine NM (OS ho hd (x:=.int i 0) rfl ?_)
 show NN _ _ (seqItems? (.ref l) >>= _) _ _ s
 refine NM (wpAny_seqItems hol hdl ?_)
 simp only[kg,hx]
 refine NM (Qc (NM (Pq ho hd (by simp) ?_)))
 exact kA (A':=A.in1) (hh.upd (mo hne)) fun h' hk=>hQ h' fun b o hb e=>hk b o ((Om ..).extBut b o hb e)
theorem CL{it l:NQ}{i:Nat}{items:Array NO}{Q:Option NO->NL->Prop}(hh:aZ A s.heap)(hne:it∉hfp A)
 (hit:s.heap.IsTupleIter it l i) (hl:s.heap.IsTuple l items) (hx:items[i]? = none)
 (hQ:∀h',Ou it s.heap h'->Q none { s with heap:=h' }):NN (NP prog w) A (PA (.ref it)) Q E s:=by
 refine x13 (id hit) fun o ho hc hd=>?_
 obtain⟨ol,hol,_,nl,hdl⟩:=hl
 unfold PA
 refine NM (PN (O6 (name:=ofString "__next__") hit.typeIs F.slot_tuple_iterator_next
  (PJ F.slot_tuple_iterator_next hit.typeIs F.entry_tuple_iterator_next ?_ (F.args_tuple_iterator_next_1 _))))
 show NN _ _ (field (.ref it) 0 >>= _) _ _ s
 refine NM (OS ho hd (x:=.ref l) rfl ?_)
 show NN _ _ (if(N2 l==OB)=true then _ else _) _ _ s
 rw[if_neg (show ¬((N2 l==OB)=true)from MY)]
 show NN _ _ (field (.ref it) 1 >>= _) _ _ s
 refine NM (OS ho hd (x:=.int i 0) rfl ?_)
 show NN _ _ (seqItems? (.ref l) >>= _) _ _ s
 refine NM (wpAny_seqItems hol hdl ?_)
 simp only[kg,hx]
 refine NM (Qc (NM (Pq ho hd (by simp) ?_)))
 exact kA (A':=A.in1) (hh.upd (mo hne)) fun h' hk=>hQ h' fun b o hb e=>hk b o ((Om ..).extBut b o hb e)
theorem CM{it:NQ}{x left step:Int}{Q:Option NO->NL->Prop}(hh:aZ A s.heap)(hit:IsRangeIter s.heap it x left step)(hleft:left<=0)
 (hQ:∀h',Ou it s.heap h'->Q none { s with heap:=h' }):NN (NP prog w) A (PA (.ref it)) Q E s:=by
 have hT:s.TypeIs (.ref it) "range_iterator":=⟨_,hit,rfl⟩
 unfold PA
 refine NM (PN (O6 (name:=ofString "__next__") hT F.slot_range_iterator_next
  (PJ F.slot_range_iterator_next hT F.entry_range_iterator_next ?_ (F.args_range_iterator_next_1 _))))
 show NN _ _ (field (.ref it) 0 >>= _) _ _ s
 refine NM (OS hit rfl (x:=rawInt x) rfl ?_)
 show NN _ _ (field (.ref it) 1 >>= _) _ _ s
 refine NM (OS hit rfl (x:=rawInt left) rfl ?_)
 show NN _ _ (field (.ref it) 2 >>= _) _ _ s
 refine NM (OS hit rfl (x:=rawInt step) rfl ?_)
 show NN _ _ (if left<=0 then _ else _) _ _ s
 rw[if_pos hleft]
 refine NM (Qc ?_)
 refine NM ?_
 exact kA (A':=A.in1) hh fun h' hk=>hQ h' fun b o U e=>hk b o e
theorem CN{x:Str}{t:Tok}{i:Nat}{Q:Option NO->NL->Prop}(hh:aZ A s.heap)(hne:it∉hfp A)
 (hit:s.heap.IsStrIter it "str_ascii_iterator" x t i) (hx:x.cps[i]? = none)
 (hQ:∀h',Ou it s.heap h'->Q none { s with heap:=h' }):NN (NP prog w) A (PA (.ref it)) Q E s:=by
 refine x13 (id hit) fun o ho hc hd=>?_
 unfold PA
 refine NM (PN (O6 (name:=ofString "__next__") hit.typeIs F.slot_str_ascii_iterator_next
  (PJ F.slot_str_ascii_iterator_next hit.typeIs F.entry_str_ascii_iterator_next ?_ (F.args_str_ascii_iterator_next_1 _))))
 show NN _ _ (field (.ref it) 0 >>= _) _ _ s
 refine NM (OS ho hd (x:=.str x t) rfl ?_)
 show NN _ _ (field (.ref it) 1 >>= _) _ _ s
 refine NM (OS ho hd (x:=.int i 0) rfl ?_)
 simp only[kg,hx]
 refine NM (Qc (NM (Pq ho hd (by simp) (NM (wpAny_letGo ?_)))))
 exact kA (A':=A.in1) (hh.upd (mo hne)) fun h' hk=>hQ h' fun b o hb e=>hk b o ((Om ..).extBut b o hb e)
end
section
variable{prog:Ol}{w:Og}{A:N0}{E:NO->NL->Prop}{s:NL}{O:NQ->Prop}
theorem CO{h h':N9}{a l:NQ}{i:Nat}(x:h.IsListIter a l i)(e:∀o,h.get? a=some o->h'.get? a=some o):h'.IsListIter a l i :=
 x.elim fun o ζ=>ζ.elim fun ho r=>⟨o,e _ ho,r⟩
theorem wo{h h':N9}{a:NQ}{its:Array NO}(x:h.IsList a its)(e:∀o,h.get? a=some o->h'.get? a=some o):h'.IsList a its :=
 x.elim fun o ζ=>ζ.elim fun ho r=>⟨o,e _ ho,r⟩
theorem pc{h h':N9}{a:NQ}{its:Array NO}(x:h.IsTuple a its)(e:∀o,h.get? a=some o->h'.get? a=some o):h'.IsTuple a its :=
 x.elim fun o ζ=>ζ.elim fun ho r=>⟨o,e _ ho,r⟩
theorem CP{h h':N9}{a l:NQ}{i:Nat}(x:h.IsTupleIter a l i)(e:∀o,h.get? a=some o->h'.get? a=some o):h'.IsTupleIter a l i :=
 x.elim fun o ζ=>ζ.elim fun ho r=>⟨o,e _ ho,r⟩
theorem CQ{h h':N9}{a:NQ}{T:String}{x:Str}{t:Tok}{i:Nat}(y:h.IsStrIter a T x t i)(e:∀o,h.get? a=some o->h'.get? a=some o):h'.IsStrIter a T x t i :=
 y.elim fun o ζ=>ζ.elim fun ho r=>⟨o,e _ ho,r⟩
theorem CR(I ax:NQ)(hne:ax≠I)(hI:I∉hfp A)(items:Array NO) :
 Walks prog w A I (I::ax::hfp A) [I] items.size (fun i v=>items[i]? = some v) (fun i h=>(h.IsListIter I ax i/\h.IsList ax items)/\aZ A h) where
 sub:=fun b hb=>by simp at hb;simp[hb]
 frame:=fun U U U st hk=>⟨⟨CO st.1.1 fun o e=>hk I (by simp) o e,wo st.1.2 fun o e=>hk ax (by simp) o e⟩,st.2.frame fun b hb o e=>hk b (by simp[hb]) o e⟩
 item:=fun i s Q E hi st hQ=>by
  refine wpAny_pyNext_list_item st.1.1 st.1.2 (x:=items[i]) (by simp[hi]) fun h' hit' hs'=>?_
  exact hQ _ h' s.toks (by simp[hi]) ⟨⟨hit',wo st.1.2 fun o e=>hs'.extBut _ _ hne e⟩,st.2.at hI hs'.extBut⟩ fun b o hb e=>hs'.extBut b o (fun h=>hb (by simp[h])) e
 done:=fun s Q E st hQ=>CK st.2 hI st.1.1 st.1.2 (by simp) fun h' he'=>hQ h' s.toks fun b o hb e=>he' b o (fun h=>hb (by simp[h])) e
 self:=fun U U U U st hQ=>wpAny_pyIter_listiter st.1.1 hQ
theorem wp(I ax:NQ)(hne:ax≠I)(hI:I∉hfp A)(items:Array NO) :
 Walks prog w A I (I::ax::hfp A) [I] items.size (fun i v=>items[i]? = some v) (fun i h=>(h.IsTupleIter I ax i/\h.IsTuple ax items)/\aZ A h) where
 sub:=fun b hb=>by simp at hb;simp[hb]
 frame:=fun U U U st hk=>⟨⟨CP st.1.1 fun o e=>hk I (by simp) o e,pc st.1.2 fun o e=>hk ax (by simp) o e⟩,st.2.frame fun b hb o e=>hk b (by simp[hb]) o e⟩
 item:=fun i s Q E hi st hQ=>by
  refine wpAny_pyNext_tuple_item st.1.1 st.1.2 (x:=items[i]) (by simp[hi]) fun h' hit' hs'=>?_
  exact hQ _ h' s.toks (by simp[hi]) ⟨⟨hit',pc st.1.2 fun o e=>hs'.extBut _ _ hne e⟩,st.2.at hI hs'.extBut⟩ fun b o hb e=>hs'.extBut b o (fun h=>hb (by simp[h])) e
 done:=fun s Q E st hQ=>CL st.2 hI st.1.1 st.1.2 (by simp) fun h' he'=>hQ h' s.toks fun b o hb e=>he' b o (fun h=>hb (by simp[h])) e
 self:=fun U U U U st hQ=>wpAny_pyIter_tupleiter st.1.1 hQ
theorem CS(I:NQ)(hI:I∉hfp A)(a:Int)(n:Nat) :
 Walks prog w A I (I::hfp A) [I] n (fun i v=>∃t,v=.int (a+i) t) (fun i h=>IsRangeIter h I (a+(i:Nat)) ((n:Int) - (i:Nat)) 1/\aZ A h) where
 sub:=fun b hb=>by simp at hb;simp[hb]
 frame:=fun U U U st hk=>⟨hk I ag _ st.1,st.2.frame fun b hb o e=>hk b (by simp[hb]) o e⟩
 item:=fun i s Q E hi st hQ=>by
  refine wpAny_pyNext_range_item st.1 (by lia) fun h' hit' hs'=>?_
  refine hQ _ h' _ ⟨_,rfl⟩ ⟨?_,st.2.at hI hs'.extBut⟩ fun b o hb e=>hs'.extBut b o (fun h=>hb (by simp[h])) e
  have e1:a+((i+1:Nat):Int)=a+(i:Int)+1:=(Int.add_assoc a i 1).symm
  have e2:(n:Int) - ((i+1:Nat):Int)=(n:Int) - (i:Int) - 1:=Int.sub_sub (n:Int) i 1 |>.symm
  rw[e1,e2];exact hit'
 done:=fun s Q E st hQ=>CM st.2 st.1 (by lia) fun h' he'=>hQ h' s.toks fun b o hb e=>he' b o (fun h=>hb (by simp[h])) e
 self:=fun U U U U st hQ=>wpAny_pyIter_rangeiter st.1 hQ
theorem CT(I:NQ)(hI:I∉hfp A)(x:Str)(t:Tok) :
 Walks prog w A I (I::hfp A) [I] x.cps.size (SignAt x) (fun i h=>h.IsStrIter I "str_ascii_iterator" x t i/\aZ A h) where
 sub:=fun b hb=>by simp at hb;simp[hb]
 frame:=fun U U U st hk=>⟨CQ st.1 fun o e=>hk I ag o e,st.2.frame fun b hb o e=>hk b (by simp[hb]) o e⟩
 item:=fun i s Q E hi st hQ=>by
  refine wpAny_pyNext_ascii_item st.1 (c:=x.cps[i]) (by simp[hi]) fun h' hit' hs'=>?_
  exact hQ _ h' (s.toks+1) ⟨_,_,by simp[hi],rfl⟩ ⟨hit',st.2.at hI hs'.extBut⟩ fun b o hb e=>hs'.extBut b o (fun h=>hb (by simp[h])) e
 done:=fun s Q E st hQ=>CN st.2 hI st.1 (by simp) fun h' he'=>hQ h' s.toks fun b o hb e=>he' b o (fun h=>hb (by simp[h])) e
 self:=fun U U U U st hQ=>wpAny_pyIter_striter_ascii st.1 hQ
noncomputable def jx(T:String):Bool:=!(["enumerate", "zip", "dict_itemiterator", "dict_reverseitemiterator", "odict_iterator", "itertools.zip_longest", "itertools.pairwise"].contains T)
set_option tactic.hygienic true in
theorem pd{M:Model}{target:Expr}{v:NO}(ho:s.heap.get? I=some o)(hc:o.cls=.type T)(hT:jx T=true)(h:Q () s) :
 NN M A (letOwnedTupleGo target (.ref I) v) Q E s:=by
 have key:NN M A (do
  let(.ref r,.ref a):=(N2 I,v) | return
  let o <- load r
  match o.cls,o.data with
  | .type n,.fields vs =>
   if["enumerate", "zip", "dict_itemiterator", "dict_reverseitemiterator", "odict_iterator", "itertools.zip_longest", "itertools.pairwise"].contains n&&vs[0]? == some (rawInt a)then
    rule "for.unpacks-the-owned-tuple"
    updateField r 0 .none
  | _,_=>pure ()) Q E s:=by
  cases v
  case ref a =>
   refine NM (wpAny_load ho ?_)
   obtain⟨c,d,dt,sl⟩:=o
   dsimp only at hc
   subst hc
   unfold jx at hT
   rw[M1]at hT
   cases dt
   case fields vs =>
    dsimp only
    rw[hT,Bool.false_and,if_neg MY]
    exact NU h
   all_goals exact NU h
  all_goals exact NU h
 unfold letOwnedTupleGo
 cases target<;>first | exact key | exact NU h
inductive ItIs(prog:Ol)(w:Og)(A:N0)(O:NQ->Prop)(F:Prop)(h₀:N9)(h:N9)(it:NO)(ds:List NR):Prop where
 | mk (I:NQ) (fp wr:List NQ) (P:Nat->NO->Prop) (St:Nat->N9->Prop) (e:it=.ref I) (W:Walks prog w A I fp wr ds.length P St) (st:St 0 h) (fe:∀b∈fp,∃o,h.get? b=some o) (wr':wr=[I]/\h₀.get? I=none) (fO:F->∀b∈fp,¬O b)
  (jx:∀i h',St i h'->∃o T,h'.get? I=some o/\o.cls=.type T/\jx T=true) (mem:I∈fp)
  (item:∀i v,P i v->∃d,ds[i]? = some d/\∀h',(∀b o,¬O b->h₀.get? b=some o->h'.get? b=some o)->Rep O h' v d):ItIs prog w A O F h₀ h it ds
theorem wq{h₀:N9}{I:NQ}{wr:List NQ}(h:wr=[I]/\h₀.get? I=none):∀b∈wr,h₀.get? b=none:=fun b hb=>by
 rw[h.1]at hb
 rw[ah.mp hb];exact h.2
structure Okay(A:N0)(O:NQ->Prop)(s:NL):Prop where
 hok:aZ A s.heap
 hno:∀b∈hfp A,¬O b
 obs:∀b,O b->∃o,s.heap.get? b=some o
theorem Okay.ob(ok:Okay A O s):∀b,O b->b<s.heap.objs.size:=fun b hb=>(ok.obs b hb).elim fun U h=>N3 h
theorem aZ.there(x:aZ A h):∀b∈hfp A,∃o,h.get? b=some o:=by
 intro b hb
 rcases x with x | ⟨e,o,vs,h1,h2,_⟩
 ·unfold hfp at hb;rw[x]at hb;cases hb
 ·unfold hfp at hb;rw[h1]at hb
  rw[ah.mp hb];exact⟨o,h2⟩
theorem Okay.hlt(ok:Okay A O s):∀b∈hfp A,b<s.heap.objs.size:=fun b hb=>(ok.hok.there b hb).elim fun U h=>N3 h
theorem Okay.keeps(ok:Okay A O s)(k:NX s s'):Okay A O s':=⟨ok.hok.keeps k,ok.hno,fun b hb=>(ok.obs b hb).elim fun o h=>⟨o,ai k _ _ h⟩⟩
theorem rR{Q:NO->NL->Prop}(ok:Okay A O s)(r:a8 O s.heap v (.list ds))
 (h:∀it s',NX s s'->ItIs prog w A O (Rep O s.heap v (.list ds)) s.heap s'.heap it ds->Q it s'):NN (NP prog w) A (pyIter v) Q E s:=by
 refine x33 r.listIs fun a vs n e3 hl l=>?_;subst e3
 have e:=l.length
 rw[cD]at e
 refine wpAny_pyIter_list hl.isList (h _ _ (bz _) ?_)
 have ha:=N3 hl
 have hI:s.heap.objs.size∉hfp A:=fun q=>bj _ (ok.hlt _ q)
 have W:=CR (prog:=prog) (w:=w) (A:=A) s.heap.objs.size a (nz ha) hI vs
 rw[e]at W
 refine⟨_,_,_,_,_,rfl,W,⟨⟨⟨_,NZ _ rfl,rfl,rfl⟩,hl.isList.push _⟩,ok.hok.mono fun b o e=>NV _ e⟩,?_,?_,?_,?_,?_,?_⟩
 ·intro b hb
  rcases aa.mp hb with rfl | hb
  ·exact⟨_,NZ _ rfl⟩
  rcases aa.mp hb with rfl | hb
  ·exact⟨_,NV _ hl⟩
  ·refine x11 (ok.hok.there _ hb) fun o e=>?_
   exact⟨o,NV _ e⟩
 ·exact⟨rfl,OL (bM _)⟩
 ·intro hr b hb
  rcases aa.mp hb with rfl | hb
  ·exact fun q=>bj _ (ok.ob _ q)
  rcases aa.mp hb with rfl | hb
  ·cases hr with | list nn _ _=>exact nn
  ·exact ok.hno _ hb
 ·rintro i h' ⟨⟨⟨o,ho,hc,_⟩,_⟩,_⟩
  exact⟨o,_,ho,hc,by decide⟩
 ·exact ag
 ·intro i x hx
  refine x12 (l.get (i:=i) (v:=x) (by simpa using hx)) fun d hd r=>?_
  exact⟨d,hd,fun h' hk=>r.mono hk fun U U U q=>q⟩
theorem rS{Q:NO->NL->Prop}(ok:Okay A O s)(r:a8 O s.heap v (.tuple ds))
 (h:∀it s',NX s s'->ItIs prog w A O (Rep O s.heap v (.tuple ds)) s.heap s'.heap it ds->Q it s'):NN (NP prog w) A (pyIter v) Q E s:=by
 refine x33 r.tupIs fun a vs n e3 hl l=>?_;subst e3
 have e:=l.length
 rw[cD]at e
 have hlT:s.heap.IsTuple a vs:=⟨_,hl,rfl,n,rfl⟩
 refine wpAny_pyIter_tuple hlT (h _ _ (bz _) ?_)
 have ha:=N3 hl
 have hI:s.heap.objs.size∉hfp A:=fun q=>bj _ (ok.hlt _ q)
 have W:=wp (prog:=prog) (w:=w) (A:=A) s.heap.objs.size a (nz ha) hI vs
 rw[e]at W
 refine⟨_,_,_,_,_,rfl,W,⟨⟨⟨_,NZ _ rfl,rfl,rfl⟩,pc hlT fun o e=>NV _ e⟩,ok.hok.mono fun b o e=>NV _ e⟩,?_,?_,?_,?_,?_,?_⟩
 ·intro b hb
  rcases aa.mp hb with rfl | hb
  ·exact⟨_,NZ _ rfl⟩
  rcases aa.mp hb with rfl | hb
  ·exact⟨_,NV _ hl⟩
  ·refine x11 (ok.hok.there _ hb) fun o e=>?_
   exact⟨o,NV _ e⟩
 ·exact⟨rfl,OL (bM _)⟩
 ·intro hr b hb
  rcases aa.mp hb with rfl | hb
  ·exact fun q=>bj _ (ok.ob _ q)
  rcases aa.mp hb with rfl | hb
  ·cases hr with | tuple nn _ _=>exact nn
  ·exact ok.hno _ hb
 ·rintro i h' ⟨⟨⟨o,ho,hc,_⟩,_⟩,_⟩
  exact⟨o,_,ho,hc,by decide⟩
 ·exact ag
 ·intro i x hx
  refine x12 (l.get (i:=i) (v:=x) (by simpa using hx)) fun d hd r=>?_
  exact⟨d,hd,fun h' hk=>r.mono hk fun U U U q=>q⟩
section
variable{K:Type}[DecidableEq K]{knd:KeyKind prog w K}
theorem CU{Q:Option NO->NL->Prop}(hh:aZ A s.heap)(hne:it∉hfp A)(hit:s.heap.IsKeyIter it d i kvs.length ep)
 (hm:s.heap.DictAt knd d kvs ep) (hx:kvs[i]? = none)
 (hQ:∀h',Ou it s.heap h'->Q none { s with heap:=h' }):NN (NP prog w) A (PA (.ref it)) Q E s:=by
 refine x13 (id hit) fun o ho hc hd=>?_
 refine x26 (id hm) fun od es hod hcd hdd hk hp hn=>?_
 have hT:s.TypeIs (.ref it) "dict_keyiterator":=⟨o,ho,hc⟩
 unfold PA
 refine NM (PN (O6 (name:=ofString "__next__") hT F.slot_dict_keyiterator_next
  (PJ F.slot_dict_keyiterator_next hT F.entry_dict_keyiterator_next ?_ (F.args_dict_keyiterator_next_1 _))))
 refine NM (NU ?_)
 refine NM ?_
 refine NM ?_
 first | refine NM (wpAny_typeNameOfWhole_keyiter hT (NU ?_)) | refine NM (wpAny_typeNameOf_keyiter hT (NU ?_))
 refine NM (wpAny_fieldsOf ho hd ?_)
 have hown:QE "dict_keyiterator" = false:=by decide
 rw[hown]
 show NN _ _ (if(N2 d==OB)=true then _ else _) _ _ s
 rw[if_neg (show ¬((N2 d==OB)=true)from MY)]
 refine NM (NU ?_)
 refine NM (wpAny_dictEntries hod hdd ?_)
 have hsz:es.size=kvs.length:=by rw[<- hp.length];simp
 rw[if_neg (by rw[hsz];simp)]
 refine NM (NU ?_)
 refine NM (wpAny_dictEpoch hod hdd ?_)
 rw[if_neg (by simp)]
 refine NU ?_
 have hge:es.size<=i:=by rw[hsz];simpa using hx
 dsimp only
 rw[if_neg (show ¬((i:Int)<0)from Int.not_lt.mpr (sT i)),kg,Qy hge]
 refine NM ?_
 first | refine NM (wpAny_typeNameOfWhole_keyiter hT (NU ?_)) | refine NM (wpAny_typeNameOf_keyiter hT (NU ?_))
 show NN _ _ (setField (.ref it) 0 .none >>= _) _ _ s
 refine NM (Pq ho hd (by simp) ?_)
 exact kA (A':=A.in1) (hh.upd (mo hne)) fun h' hk=>hQ h' fun b o hb e=>hk b o ((Om ..).extBut b o hb e)
theorem CV{h h':N9}{a d:NQ}{i n ep:Nat}(x:h.IsKeyIter a d i n ep)(e:∀o,h.get? a=some o->h'.get? a=some o):h'.IsKeyIter a d i n ep :=
 x.elim fun o ζ=>ζ.elim fun ho r=>⟨o,e _ ho,r⟩
theorem mq{h h':N9}{d:NQ}{kvs:List (K × NO)}{ep:Nat}(x:h.DictAt knd d kvs ep)(e:∀o,h.get? d=some o->h'.get? d=some o):h'.DictAt knd d kvs ep :=
 x.elim fun o ζ=>ζ.elim fun es ζ=>ζ.elim fun ho r=>⟨o,es,e _ ho,r⟩
theorem rT(I d:NQ)(hne:d≠I)(hI:I∉hfp A)(kvs:List (K × NO))(ep:Nat) :
 Walks prog w A I (I::d::hfp A) [I] kvs.length (fun i v=>∃q,kvs[i]? = some q/\knd.is q.1 v=true) (fun i h=>(h.IsKeyIter I d i kvs.length ep/\h.DictAt knd d kvs ep)/\aZ A h) where
 sub:=fun b hb=>by simp at hb;simp[hb]
 frame:=fun U U U st hk=>⟨⟨CV st.1.1 fun o e=>hk I (by simp) o e,mq st.1.2 fun o e=>hk d (by simp) o e⟩,st.2.frame fun b hb o e=>hk b (by simp[hb]) o e⟩
 item:=fun i s Q E hi st hQ=>by
  refine wpAny_pyNext_dict_item st.1.1 st.1.2 (k:=(kvs[i]).1) (v:=(kvs[i]).2) (by simp[hi]) fun key h' hkey hit' hs'=>?_
  exact hQ _ h' s.toks ⟨kvs[i],by simp[hi],hkey⟩ ⟨⟨hit',mq st.1.2 fun o e=>hs'.extBut _ _ hne e⟩,st.2.at hI hs'.extBut⟩ fun b o hb e=>hs'.extBut b o (fun h=>hb (by simp[h])) e
 done:=fun s Q E st hQ=>CU st.2 hI st.1.1 st.1.2 (by simp) fun h' he'=>hQ h' s.toks fun b o hb e=>he' b o (fun h=>hb (by simp[h])) e
 self:=fun U U U U st hQ=>wpAny_pyIter_keyiter st.1.1 hQ
end
theorem CW{Q:NO->NL->Prop}(ok:Okay A O s)(r:a8 O s.heap v (.dict ds))
 (h:∀it s',NX s s'->ItIs prog w A O True s.heap s'.heap it (ds.map (·.1))->Q it s'):NN (NP prog w) A (pyIter v) Q E s:=by
 refine x24 r.dicIs fun a l e1 e2 x na=>?_;subst e1;subst e2
 obtain⟨kv,d,hv,e⟩:=x.dict (prog:=prog) (w:=w)
 subst e
 refine x11 d.dictAt fun ep d=>?_
 have ha:=d.lt_size
 have hI:s.heap.objs.size∉hfp A:=fun q=>bj _ (ok.hlt _ q)
 refine wpAny_pyIter_dict x.1 d (h _ _ (bz _) ?_)
 have W:=rT (prog:=prog) (w:=w) (A:=A) (knd:=On prog w) s.heap.objs.size a (nz ha) hI kv ep
 have el:kv.length=((dD (kv.map fun q=>(q.1,iv q.2))).map (·.1)).length:=by rw[af,af,af]
 have W':Walks prog w A s.heap.objs.size (s.heap.objs.size::a::hfp A) [s.heap.objs.size] ((dD (kv.map fun q=>(q.1,iv q.2))).map (·.1)).length (fun i v=>∃q,kv[i]? = some q/\(On prog w).is q.1 v=true)
  (fun i h=>(h.IsKeyIter s.heap.objs.size a i kv.length ep/\h.DictAt (On prog w) a kv ep)/\aZ A h):=by rw[<- el];exact W
 refine⟨_,_,_,_,_,rfl,W',⟨⟨⟨_,NZ _ rfl,rfl,rfl⟩,d.push _⟩,ok.hok.mono fun b o e=>NV _ e⟩,?_,⟨rfl,OL (bM _)⟩,?_,?_,ag,?_⟩
 ·intro b hb
  rcases aa.mp hb with rfl | hb
  ·exact⟨_,NZ _ rfl⟩
  rcases aa.mp hb with rfl | hb
  ·exact x12 x.2 fun o e U=>⟨o,NV _ e⟩
  ·exact x11 (ok.hok.there _ hb) fun o e=>⟨o,NV _ e⟩
 ·intro U b hb
  rcases aa.mp hb with rfl | hb
  ·exact fun q=>bj _ (ok.ob _ q)
  rcases aa.mp hb with rfl | hb
  ·exact na
  ·exact ok.hno _ hb
 ·rintro i h' ⟨⟨⟨o,ho,hc,_⟩,_⟩,_⟩
  exact⟨o,_,ho,hc,by decide⟩
 ·rintro i v ⟨q,hq,hk⟩
  refine x11 (Qw hk) fun t e=>?_;subst e
  refine⟨.int q.1,?_,fun U U=>.int _ _⟩
  rw[cu,cu,cu,hq];rfl
noncomputable def mr(x:Str):List NR:=x.cps.toList.map fun c=>.str ⟨#[c]⟩
theorem CX{t:Tok}{Q:NO->NL->Prop}(ok:Okay A O s)(hx:x.cps.all (· < 128)=true)
 (h:∀it s',NX s s'->ItIs prog w A O True s.heap s'.heap it (mr x)->Q it s'):NN (NP prog w) A (pyIter (.str x t)) Q E s:=by
 refine wpAny_pyIter_ascii hx (h _ _ (bz _) ?_)
 have hI:s.heap.objs.size∉hfp A:=fun q=>bj _ (ok.hlt _ q)
 have W:=CT (prog:=prog) (w:=w) (A:=A) s.heap.objs.size hI x t
 have e:x.cps.size=(mr x).length:=by simp[mr]
 rw[e]at W
 refine⟨_,_,_,_,_,rfl,W,⟨⟨_,NZ _ rfl,rfl,rfl⟩,ok.hok.mono fun b o e=>NV _ e⟩,?_,?_,?_,?_,?_,?_⟩
 ·intro b hb
  rcases aa.mp hb with rfl | hb
  ·exact⟨_,NZ _ rfl⟩
  ·refine x11 (ok.hok.there _ hb) fun o e=>?_
   exact⟨o,NV _ e⟩
 ·exact⟨rfl,OL (bM _)⟩
 ·intro _ b hb
  rcases aa.mp hb with rfl | hb
  ·exact fun q=>bj _ (ok.ob _ q)
  ·exact ok.hno _ hb
 ·rintro i h' ⟨⟨o,ho,hc,_⟩,_⟩
  exact⟨o,_,ho,hc,by decide⟩
 ·exact ag
 ·rintro i _ ⟨c,u,hc,rfl⟩
  exact⟨.str ⟨#[c]⟩,by simp[mr,hc],fun U U=>.str _ _⟩
noncomputable def iU(a:Int)(n:Nat):List NR:=(dj n).map fun i:Nat=>.int (a+(i:Int))
theorem CY{Q:NO->NL->Prop}(ok:Okay A O s)(hr:IsRange s.heap r a b 1 t u v)(ha : -1000000000<=a/\a<=1000000000)(hb : -1000000000<=b/\b<=1000000000)
 (h:∀it s',NX s s'->ItIs prog w A O True s.heap s'.heap it (iU a (b - a).toNat)->Q it s'):NN (NP prog w) A (pyIter (.ref r)) Q E s:=by
 refine wpAny_pyIter_range hr (small_one (Int.le_trans (by decide:(-(2 ^ 62):Int)<=-1000000000) ha.1) (Int.lt_of_le_of_lt ha.2 (by decide:(1000000000:Int)<2 ^ 62)) (Int.le_trans (by decide:(-(2 ^ 62):Int)<=-1000000000) hb.1) (Int.lt_of_le_of_lt hb.2 (by decide:(1000000000:Int)<2 ^ 62))) (h _ _ (bz _) ?_)
 have hI:s.heap.objs.size∉hfp A:=fun q=>bj _ (ok.hlt _ q)
 have W:=(CS (prog:=prog) (w:=w) (A:=A) s.heap.objs.size hI a (b - a).toNat).bound
 have e:(b - a).toNat=(iU a (b - a).toNat).length:=by simp[iU]
 have e2:Builtin.Range.rangeSize a b 1=(((b - a).toNat:Nat):Int) - ((0:Nat):Int):=by
  rw[rangeSize_one];split<;>lia
 rw[e2]
 have W':Walks prog w A s.heap.objs.size (s.heap.objs.size::hfp A) [s.heap.objs.size] (iU a (b - a).toNat).length (fun i v=>i<(b - a).toNat/\∃t,v=.int (a+i) t)
  (fun i h=>IsRangeIter h s.heap.objs.size (a+(i:Nat)) (((b - a).toNat:Int) - (i:Nat)) 1/\aZ A h):=by rw[<- e];exact W
 refine⟨_,_,_,_,_,rfl,W',⟨?_,ok.hok.mono fun b o e=>NV _ e⟩,?_,?_,?_,?_,?_,?_⟩
 ·have:a+((0:Nat):Int)=a:=Int.add_zero a
  rw[this]
  exact NZ _ rfl
 ·intro b hb
  rcases aa.mp hb with rfl | hb
  ·exact⟨_,NZ _ rfl⟩
  ·refine x11 (ok.hok.there _ hb) fun o e=>?_
   exact⟨o,NV _ e⟩
 ·exact⟨rfl,OL (bM _)⟩
 ·intro _ b hb
  rcases aa.mp hb with rfl | hb
  ·exact fun q=>bj _ (ok.ob _ q)
  ·exact ok.hno _ hb
 ·rintro i h' ⟨hi,_⟩
  exact⟨_,_,hi,rfl,by decide⟩
 ·exact ag
 ·rintro i _ ⟨hi,t,rfl⟩
  exact⟨.int (a+i),by simp[iU,hi],fun U U=>.int _ _⟩
end
noncomputable def bi:NR->Int
 | .int i=>i
 | _=>0
noncomputable def dm:NR->Str
 | .str x=>x
 | _=>OZ
noncomputable def cW:NR->List NR
 | .list ds=>ds
 | .tuple ds=>ds
 | _=>[]
noncomputable def isInt:NR->Bool
 | .int _=>true
 | _=>false
noncomputable def isStr:NR->Bool
 | .str _=>true
 | _=>false
section
variable{prog:Ol}{w:Og}{A:N0}{E:NO->NL->Prop}{s:NL}{O:NQ->Prop}{va vb vc:NO}{da db dc:NR}
noncomputable def rU:NR->Prop
 | .list ds=>ds.length<=16777216
 | .tuple ds=>ds.length<=16777216
 | .str x=>x.length<=16777216
 | _=>False
theorem wt(ra:a8 O s.heap va da)(hp:rU da):NN (NP prog w) A (call (.builtin "len") [va]) (PV O s (.int (iT da))) E s:=by
 cases da<;>first | exact False.elim hp | change _<=_ at hp
 ·refine x11 ra.strIs fun u e1=>?_;subst e1
  exact P.len_str (by lia) ⟨ar _ _,.int _ _⟩
 ·refine x33 ra.listIs fun a vs n e3 h l=>?_;subst e3
  have e:=l.length
  rw[cD]at e
  refine len_list h.isList (by rw[e];lia) ⟨ar _ _,?_⟩
  rw[e];exact .int _ _
 ·refine x33 ra.tupIs fun a vs n e3 h l=>?_;subst e3
  have e:=l.length
  rw[cD]at e
  refine P.len_tuple h (by rw[e];lia) ⟨ar _ _,?_⟩
  rw[e];exact .int _ _
theorem Okay.in1(ok:Okay A O s):Okay A.in1 O s:=⟨ok.hok,ok.hno,ok.obs⟩
noncomputable def rV(ds:List NR):Prop:=ds.length<=1000000/\∀d∈ds,isInt d=true/\-1000000000000<=bi d/\bi d<=1000000000000
theorem wu{val:Nat->Int}{n:Nat}(h:∀i,i<n->-1000000000000<=val i/\val i<=1000000000000):∀j,j<=n->-1000000000000 * (j:Int)<=preSum val j/\preSum val j<=1000000000000 * (j:Int)
 | 0,_=>by simp[preSum]
 | j+1,hj=>by
  have:=wu h j (by lia)
  have h2:=h j (by lia)
  simp only[preSum]
  push_cast
  lia
theorem wv(ds:List NR):∀j,j<=ds.length->preSum (fun i=>bi (ds.getD i .none)) j=((ds.take j).map bi).sum
 | 0,_=>by simp[preSum]
 | j+1,hj=>by
  rw[preSum,wv ds j (by lia),NB,c8,Ny]
  have:ds[j]? = some (ds.getD j .none):=by rw[av,bw (by lia)];rfl
  rw[this];simp
theorem CZ{ds:List NR}(hp:∀d∈ds,isInt d=true){i:Nat}{d:NR}(h:ds[i]? = some d):d=.int (bi (ds.getD i .none)):=by
 rw[CA h]
 have:=hp d (az h)
 cases d<;>first | exact absurd this MY | skip
 rfl
theorem hZ(r:Rep O h v (.int i)):∃t,v=.int i t:=by cases r;exact⟨_,rfl⟩
theorem wx{wr:List NQ}{tk:Nat}(k:NX s s')(hwr:∀b∈wr,s.heap.get? b=none)(hk:∀b o,b∉wr->s'.heap.get? b=some o->h'.get? b=some o) :
 NX s { s' with heap:=h',toks:=tk }:=by
 obtain⟨h1,t1,rfl,k⟩:=k
 exact⟨h',tk,rfl,fun b o e=>hk b o (fun q=>by rw[hwr b q]at e;cases e) (k b o e)⟩
theorem Da(ok:Okay A O s)(ra:a8 O s.heap va (.list ds))(hp:rV ds) :
 NN (NP prog w) A (call (.builtin "sum") [va]) (PV O s (.int (ds.map bi).sum)) E s:=by
 refine call_sum_walk (rR ok.in1 ra fun it s' k hi=>?_)
 obtain⟨I,fp,wr,P,St,rfl,W,hst,hfp,hwr,_,_,_,hit⟩:=hi
 replace hwr:=wq hwr
 replace hfp:∀b∈fp,b<s'.heap.objs.size:=fun b hb=>(hfp b hb).elim fun U e=>N3 e
 have hb:∀i,i<ds.length->-1000000000000<=bi (ds.getD i .none)/\bi (ds.getD i .none)<=1000000000000:=fun i hi=>by
  have:=(hp.2 (ds.getD i .none) (by rw[av,bw hi];exact M4 hi)).2
  exact this
 refine⟨I,fp,wr,ds.length,P,St,fun i=>bi (ds.getD i .none),rfl,W,hst,hfp,fun i v hv=>?_,fun j hj=>?_,fun h' tk t' hk=>?_⟩
 ·refine x12 (hit i v hv) fun d hd r=>?_
  have:=r s'.heap fun b o U e=>ai k b o e
  rw[CZ (fun d hd=>(hp.2 d hd).1) hd]at this
  exact hZ this
 ·have h1:=hb j hj
  have h2:=wu hb (j+1) hj
  have h3:=hp.1
  unfold InLong
  refine⟨by dsimp only;lia,?_⟩
  push_cast at h2
  lia
 ·rw[wv ds _ (bM _),Bw]
  exact⟨wx k hwr hk,.int _ _⟩
theorem Okay.push(ok:Okay A O s)(o:Obj)(t:Nat):Okay A O { s with heap:=s.heap.push o,toks:=t } :=
 ok.keeps (bz _)
theorem Db:∀ {vs:List NO} {ds:List NR},RepL O h vs ds->(∀d∈ds,isStr d=true)->StrsAre vs (ds.map dm):=fun{vs ds}=>by
 induction ds generalizing vs with
 | nil=>exact fun r hp=>by cases r;exact .nil
 | cons d ds ih =>
  intro r hp
  cases r with
  | cons r l =>
   have h1:=hp _ ag
   have h2:=ih l fun d hd=>hp d (ay _ hd)
   cases d<;>first | exact absurd h1 MY | skip
   cases r with | str x t=>exact .cons _ _ h2
noncomputable def mt(x:Str)(ds:List NR):Prop:=(∀d∈ds,isStr d=true)/\((ds.map dm).map (·.length)).sum+(ds.map dm).length * x.length<=16777216
theorem Dc{t:Tok}(ra:a8 O s.heap va (.list ds))(hp:mt x ds) :
 NN (NP prog w) A (call (.builtin "str.join") [.str x t,va]) (PV O s (.str (PK x (ds.map dm)))) E s:=by
 refine x33 ra.listIs fun a vs n e3 h l=>?_;subst e3
 exact join_list h.isList (Db l hp.1) hp.2 fun t' k=>⟨ar _ _,.str _ _⟩
end
set_option genCtorIdx false
structure Srt where
 nodes:List (Int × Int × List Int)
 ready:Option (List Int)
 passed:Int
 finished:Int
inductive SV where
 | un
 | dat (d:NR)
 | own (d:NR)
 | sor (g:Srt)
 | val (v:NO)
 | dic (l:List (Int × Int))
noncomputable def SV.ctorIdx(t:SV):Nat:=SV.casesOn t 0 (fun U=>1) (fun U=>2) (fun U=>3) (fun U=>4) (fun U=>5)
noncomputable def SV.data:SV->NR
 | .dat d=>d
 | .own d=>d
 | .dic l=>.dict (dD l)
 | _=>.none
noncomputable def SV.ok:Bool->SV->Prop
 | _,.dat _=>True
 | true,.own _=>True
 | _,_=>False
structure FEntry where
 name:Str
 k:Nat
 pre:List NR->Prop
 val:List NR->NR
noncomputable def FEntry.nope:FEntry:=⟨OZ,0,fun U=>False,fun U=>.none⟩
inductive IX where
 | var (i:Nat)
 | lit (d:NR)
 | bin (op:Pm) (a b:IX)
 | cmp (op:CmpOp) (a b:IX)
 | neg (a:IX)
 | inv (a:IX)
 | bop (o:Bool) (es:IX)
 | ite (c a b:IX)
 | list (es:IX)
 | tup (es:IX)
 | sub (a i:IX)
 | slice (a lo hi:IX)
 | call (f:Nat) (es:IX)
 | len (a:IX)
 | sum (a:IX)
 | join (a b:IX)
 | comp (n:Nat) (tup:Bool) (slots:List Nat) (it ifs rest:IX)
 | gen (tup:Bool) (slots:List Nat) (it ifs rest:IX)
 | emit (e:IX)
 | range1 (a:IX)
 | seq (e:IX)
 | nil
 | cons (a b:IX)
noncomputable def IX.ctorIdx(t:IX):Nat:=IX.casesOn t (fun U=>0) (fun U=>1) (fun U U U=>2) (fun U U U=>3) (fun U=>4) (fun U=>5) (fun U U=>6) (fun U U U=>7) (fun U=>8) (fun U=>9) (fun U U=>10) (fun U U U=>11) (fun U U=>12) (fun U=>13) (fun U=>14) (fun U U=>15) (fun U U U U U U=>16) (fun U U U U U=>17) (fun U=>18) (fun U=>19) (fun U=>20) 21 (fun U U=>22)
noncomputable def aq:NR->Bool
 | .bool b=>b
 | _=>false
noncomputable def ec:NR->Bool
 | .bool _=>true
 | _=>false
noncomputable def fR:List SV->List Nat->List NR->List SV
 | ρ,i::is,d::ds=>fR (ρ.set i (.dat d)) is ds
 | ρ,_,_=>ρ
noncomputable def ao(tup:Bool)(slots:List Nat)(d:NR)(ρ:List SV):List SV :=
 if tup then fR ρ slots (cW d)else fR ρ slots [d]
noncomputable def mu:NR->Bool
 | .list _=>true
 | .tuple _=>true
 | _=>false
noncomputable def bindP(tup:Bool)(slots:List Nat)(d:NR):Prop :=
 if tup then mu d=true/\(cW d).length=slots.length else slots.length=1
noncomputable def items:NR->List NR
 | .list ds=>ds
 | .tuple ds=>ds
 | .str x=>mr x
 | .dict l=>l.map (·.1)
 | _=>[]
noncomputable def wy:NR->Prop
 | .list _=>True
 | .tuple _=>True
 | .str x=>x.cps.all (· < 128)=true
 | .dict _=>True
 | _=>False
noncomputable def rW:NR->Prop
 | .int i=>-1000000000<=i/\i<=1000000000
 | _=>False
set_option backward.match.sparseCases false in
noncomputable def eR:IX->Bool
 | .nil=>true
 | _=>false
noncomputable def ib(o:Bool):BoolOp:=if o=true then .Or else .And
section
variable(Φ:List FEntry)
set_option backward.match.sparseCases false in
mutual
noncomputable def den:IX->List SV->NR
 | .var i,ρ=>(ρ.getD i .un).data
 | .lit d,_=>d
 | .bin op a b,ρ=>fq op (den a ρ) (den b ρ)
 | .cmp op a b,ρ=>.bool (iS op (den a ρ) (den b ρ))
 | .neg a,ρ=>.int (-(bi (den a ρ)))
 | .inv a,ρ=>.bool (!aq (den a ρ))
 | .bop o es,ρ=>fS o es ρ
 | .ite c a b,ρ=>if aq (den c ρ)then den a ρ else den b ρ
 | .list es,ρ=>.list (bL es ρ)
 | .tup es,ρ=>.tuple (bL es ρ)
 | .sub a i,ρ=>jv (den a ρ) (den i ρ)
 | .slice a lo hi,ρ=>jw (den a ρ) (dS lo ρ) (dS hi ρ)
 | .call f es,ρ=>(Φ.getD f .nope).val (bL es ρ)
 | .len a,ρ=>.int (iT (den a ρ))
 | .sum a,ρ=>.int ((cW (den a ρ)).map bi).sum
 | .join a b,ρ=>.str (PK (dm (den a ρ)) ((cW (den b ρ)).map dm))
 | .comp n tup slots it ifs rest,ρ=>.list ((bX it ρ).flatMap fun d =>
  if dH ifs (ao tup slots d (ρ++cg n .un))then ft rest (ao tup slots d (ρ++cg n .un))else[])
 | _,_=>.none
noncomputable def fS(o:Bool):IX->List SV->NR
 | .cons a b,ρ=>if eR b=true then den a ρ else if aq (den a ρ)=o then .bool o else fS o b ρ
 | _,_=>.none
noncomputable def dS:IX->List SV->NR
 | .cons a .nil,ρ=>den a ρ
 | _,_=>.none
noncomputable def bL:IX->List SV->List NR
 | .cons a b,ρ=>den a ρ::bL b ρ
 | _,_=>[]
noncomputable def dH:IX->List SV->Bool
 | .cons a b,ρ=>aq (den a ρ)&&dH b ρ
 | _,_=>true
noncomputable def bX:IX->List SV->List NR
 | .range1 a,ρ=>iU 0 (bi (den a ρ) - 0).toNat
 | .seq e,ρ=>items (den e ρ)
 | _,_=>[]
noncomputable def ft:IX->List SV->List NR
 | .gen tup slots it ifs rest,ρ=>(bX it ρ).flatMap fun d =>
  if dH ifs (ao tup slots d ρ)then ft rest (ao tup slots d ρ)else[]
 | .emit e,ρ=>[den e ρ]
 | _,_=>[]
end
set_option backward.match.sparseCases false in
mutual
noncomputable def pre:IX->Bool->List SV->Prop
 | .var i,t,ρ=>SV.ok t (ρ.getD i .un)
 | .lit _,_,_=>True
 | .bin op a b,_,ρ=>pre a false ρ/\pre b false ρ/\o8 op (den Φ a ρ) (den Φ b ρ)
 | .cmp op a b,_,ρ=>pre a true ρ/\pre b true ρ/\mc op (den Φ a ρ) (den Φ b ρ)
 | .neg a,_,ρ=>pre a false ρ/\isInt (den Φ a ρ)=true
 | .inv a,_,ρ=>pre a false ρ/\ec (den Φ a ρ)=true
 | .bop o es,_,ρ=>mv o es ρ
 | .ite c a b,_,ρ=>pre c false ρ/\ec (den Φ c ρ)=true/\(aq (den Φ c ρ)=true->pre a false ρ)/\(aq (den Φ c ρ)=false->pre b false ρ)
 | .list es,_,ρ=>eH es ρ/\(bL Φ es ρ).length<=16777216
 | .tup es,_,ρ=>eH es ρ/\(bL Φ es ρ).length<=16777216
 | .sub a i,_,ρ=>pre a true ρ/\pre i false ρ/\o9 (den Φ a ρ) (den Φ i ρ)
 | .slice a lo hi,_,ρ=>pre a true ρ/\pg lo ρ/\pg hi ρ/\rQ (den Φ a ρ) (dS Φ lo ρ) (dS Φ hi ρ)
 | .call f es,_,ρ=>eH es ρ/\(Φ.getD f .nope).pre (bL Φ es ρ)
 | .len a,_,ρ=>pre a true ρ/\rU (den Φ a ρ)
 | .sum a,_,ρ=>pre a true ρ/\(∃ds,den Φ a ρ=.list ds/\rV ds)
 | .join a b,_,ρ=>pre a false ρ/\pre b true ρ/\isStr (den Φ a ρ)=true/\(∃ds,den Φ b ρ=.list ds/\mt (dm (den Φ a ρ)) ds)
 | .comp n tup slots it ifs rest,_,ρ=>gw it true ρ/\(∀d∈bX Φ it ρ,bindP tup slots d/\kB ifs (ao tup slots d (ρ++cg n .un)) /\
  (dH Φ ifs (ao tup slots d (ρ++cg n .un))=true->mw rest (ao tup slots d (ρ++cg n .un)))) /\
  ((bX Φ it ρ).flatMap fun d=>if dH Φ ifs (ao tup slots d (ρ++cg n .un))then ft Φ rest (ao tup slots d (ρ++cg n .un))else[]).length<=16000000
 | _,_,_=>False
noncomputable def mv(o:Bool):IX->List SV->Prop
 | .cons a b,ρ=>pre a false ρ/\(eR b=false->ec (den Φ a ρ)=true/\(aq (den Φ a ρ)=!o->mv o b ρ))
 | _,_=>False
noncomputable def pg:IX->List SV->Prop
 | .cons a .nil,ρ=>pre a false ρ
 | .nil,_=>True
 | _,_=>False
noncomputable def eH:IX->List SV->Prop
 | .cons a b,ρ=>pre a false ρ/\eH b ρ
 | .nil,_=>True
 | _,_=>False
noncomputable def kB:IX->List SV->Prop
 | .cons a b,ρ=>pre a false ρ/\ec (den Φ a ρ)=true/\(aq (den Φ a ρ)=true->kB b ρ)
 | .nil,_=>True
 | _,_=>False
noncomputable def gw:IX->Bool->List SV->Prop
 | .range1 a,_,ρ=>pre a false ρ/\rW (den Φ a ρ)
 | .seq e,t,ρ=>pre e t ρ/\wy (den Φ e ρ)
 | _,_,_=>False
noncomputable def mw:IX->List SV->Prop
 | .gen tup slots it ifs rest,ρ=>gw it false ρ/\(∀d∈bX Φ it ρ,bindP tup slots d/\kB ifs (ao tup slots d ρ) /\
  (dH Φ ifs (ao tup slots d ρ)=true->mw rest (ao tup slots d ρ)))
 | .emit e,ρ=>pre e false ρ
 | _,_=>False
end
set_option backward.match.sparseCases false in
noncomputable def kx:IX->Nat
 | .bin _ a b=>max (kx a) (kx b)
 | .cmp _ a b=>max (kx a) (kx b)
 | .neg a=>kx a
 | .inv a=>kx a
 | .bop _ a=>kx a
 | .ite a b c=>max (kx a) (max (kx b) (kx c))
 | .list a=>kx a
 | .tup a=>kx a
 | .sub a b=>max (kx a) (kx b)
 | .slice a b c=>max (kx a) (max (kx b) (kx c))
 | .call f es=>max (kx es) ((Φ.getD f .nope).k+1)
 | .len a=>kx a
 | .sum a=>kx a
 | .join a b=>max (kx a) (kx b)
 | .comp _ _ _ a b c=>max (kx a) (max (kx b) (kx c))+1
 | .gen _ _ a b c=>max (kx a) (max (kx b) (kx c))+1
 | .emit a=>kx a
 | .range1 a=>kx a
 | .seq a=>kx a
 | .cons a b=>max (kx a) (kx b)
 | _=>0
end
noncomputable def ph(c:Const)(d:NR):Bool:=match c with
 | .none=>(match d with | .none=>true | _=>false)
 | .bool a=>(match d with | .bool b=>a==b | _=>false)
 | .int a=>(match d with | .int b=>a==b | _=>false)
 | .str a=>(match d with | .str b=>a==b | _=>false)
 | _=>false
noncomputable def bO(sc:Scope)(x:Str):Bool:=sc.names.lookup x==some NameKind.globalImplicit
noncomputable def cE(sc scope:Scope):Scope :=
 { scope with names:=scope.names.map fun p=>if(p.2==Ow&&sc.kind==Pw&&sc.names.lookup p.1==some OT)then(p.1,OT)else p }
set_option backward.match.sparseCases false in
noncomputable def Dd:Expr->List Str
 | .Name x _=>[x]
 | _=>[]
set_option backward.match.sparseCases false in
noncomputable def De:Expr->List Str
 | .Name x _=>[x]
 | .Tuple es _ _=>es.flatMap Dd
 | _=>[]
noncomputable def fU(gens:List Oz):List Str:=gens.flatMap fun g=>De g.target
noncomputable def cX(scope:Scope)(Rc:List (Option Str))(vars:List Str):List (Option Str) :=
 (Rc.map fun x=>x.bind fun y=>if scope.names.lookup y==some Ow then some y else none)++vars.map some
noncomputable def aW(sc:Scope)(x:Str):Bool:=sc.names.lookup x==some .local||sc.names.lookup x==some .cell
noncomputable def dT(sc:Scope)(Rc:List (Option Str)):List Nat->List Expr->Bool
 | [],[]=>true
 | i::is,e::es=>(bv e fun x U=>Rc[i]? == some (some x)&&aW sc x)&&dT sc Rc is es
 | _,_=>false
noncomputable def fV(tup:Bool)(slots:List Nat)(sc:Scope)(Rc:List (Option Str))(e:Expr):Bool :=
 if tup=true then iP e fun ts U U=>dT sc Rc slots ts else v1 slots fun i=>bv e fun x U=>Rc[i]? == some (some x)&&aW sc x
set_option backward.match.sparseCases false in
noncomputable def wz:Expr->Bool
 | .Call ..=>false
 | _=>true
set_option backward.match.sparseCases false in
noncomputable def fW:Expr->Bool
 | .Set ..=>false
 | _=>true
set_option backward.match.sparseCases false in
noncomputable def gx:IX->List Nat
 | .gen _ slots _ _ rest=>slots++gx rest
 | _=>[]
noncomputable def mx(sc scope:Scope)(vars:List Str):Bool :=
 scope.kind==Pw&&decide (scope.names.map (·.1)).Nodup&&decide vars.Nodup &&
 (scope.names.all fun p=>p.2 != Ow||((sc.names.lookup p.1==some OT||sc.names.lookup p.1==some Ow)&&p.1 != ofString "__classdict__")) &&
 (vars.all fun x=>scope.names.lookup x==some NameKind.local||scope.names.lookup x==some OT)
section
variable(Φ:List FEntry)
mutual
noncomputable def chk:IX->Scope->List (Option Str)->Expr->Bool
 | .var i,_,Rc,e=>bv e fun x U=>Rc[i]? == some (some x)&&x != ofString "__debug__"
 | .lit d,_,_,e=>oU e fun c U U=>ph c d
 | .bin op a b,sc,Rc,e=>rt e fun l o r U=>o==op&&chk a sc Rc l&&chk b sc Rc r
 | .cmp op a b,sc,Rc,e=>oY e fun l o r U=>o==op&&chk a sc Rc l&&chk b sc Rc r&&!behindInMarks o r
 | .neg a,sc,Rc,e=>rC e fun o x U=>o==.USub&&chk a sc Rc x
 | .inv a,sc,Rc,e=>rI e fun x U=>chk a sc Rc x
 | .bop o es,sc,Rc,e=>rD e fun p xs U=>p==ib o&&ca es sc Rc xs
 | .ite c a b,sc,Rc,e=>vL e fun t x y U=>chk c sc Rc t&&chk a sc Rc x&&chk b sc Rc y
 | .list es,sc,Rc,e=>vP e fun xs U=>ca es sc Rc xs
 | .tup es,sc,Rc,e=>iP e fun xs U U=>ca es sc Rc xs
 | .sub a i,sc,Rc,e=>lX e fun v s U=>chk a sc Rc v&&chk i sc Rc s
 | .slice a lo hi,sc,Rc,e=>lX e fun v s U=>vQ s fun l u st U=>vN st (chk a sc Rc v&&jy lo sc Rc l&&jy hi sc Rc u)
 | .call f es,sc,Rc,e=>jt e fun g U args U=>(Φ.getD f .nope).name==g&&g != ofString "__debug__"&&decide (f<Φ.length)&&bO sc g&&ca es sc Rc args
 | .len a,sc,Rc,e=>o5 e fun g x=>g==ofString "len"&&bO sc g&&chk a sc Rc x
 | .sum a,sc,Rc,e=>o5 e fun g x=>g==ofString "sum"&&bO sc g&&chk a sc Rc x
 | .join a b,sc,Rc,e=>vZ e fun o m ap x p=>m==ofString "join"&&wz o&&ap.endLine==p.line&&chk a sc Rc o&&chk b sc Rc x
 | .comp n tup slots it ifs rest,sc,Rc,e=>vV e fun elt gens scope U=>vC gens fun g gs =>
  g.is_async==0&&fW g.iter&&eS it sc Rc g.iter&&mx sc scope (fU (g::gs)) &&
  n==(fU (g::gs)).length&&decide (slots++gx rest).Nodup&&((slots++gx rest).all fun i=>decide (Rc.length<=i)) &&
  (fV tup slots (cE sc scope) (cX scope Rc (fU (g::gs))) g.target&&ca ifs (cE sc scope) (cX scope Rc (fU (g::gs))) g.ifs &&
  gy rest (cE sc scope) (cX scope Rc (fU (g::gs))) gs elt)
 | _,_,_,_=>false
noncomputable def jy:IX->Scope->List (Option Str)->Option Expr->Bool
 | .cons a b,sc,Rc,e=>eR b&&vO e fun x=>chk a sc Rc x
 | .nil,_,_,e=>vN e true
 | _,_,_,_=>false
noncomputable def ca:IX->Scope->List (Option Str)->List Expr->Bool
 | .cons a b,sc,Rc,es=>vC es fun e r=>chk a sc Rc e&&ca b sc Rc r
 | .nil,_,_,es=>v0 es true
 | _,_,_,_=>false
noncomputable def eS:IX->Scope->List (Option Str)->Expr->Bool
 | .range1 a,sc,Rc,e=>o5 e fun g x=>g==ofString "range"&&bO sc g&&chk a sc Rc x
 | .seq a,sc,Rc,e=>chk a sc Rc e
 | _,_,_,_=>false
noncomputable def gy:IX->Scope->List (Option Str)->List Oz->Expr->Bool
 | .gen tup slots it ifs rest,sc,Rc,gs,elt=>vC gs fun g gs=>g.is_async==0&&fW g.iter&&eS it sc Rc g.iter&&fV tup slots sc Rc g.target&&ca ifs sc Rc g.ifs&&gy rest sc Rc gs elt
 | .emit e,sc,Rc,gs,elt=>v0 gs (chk e sc Rc elt)
 | _,_,_,_,_=>false
end
end
structure Glo where
 prog:Ol
 w:Og
 mg:Str->Option NO
 mb:Str->Option NO
 K:Frag
 hB:N9
 SR:Srt->(NQ->Prop)->N9->NO->Prop
structure Glo.Base(G:Glo)(O:NQ->Prop)(h:N9):Prop where
 kp:∀b o,G.hB.get? b=some o->h.get? b=some o
 off:∀b,O b->G.hB.get? b=none
theorem Glo.Base.keeps{G:Glo}(B:G.Base O s.heap)(k:NX s s'):G.Base O s'.heap :=
 ⟨fun b o e=>ai k b o (B.kp b o e),B.off⟩
noncomputable def dU:List (Str × NO):=[(ofString "len",.builtin "len"),(ofString "sum",.builtin "sum"),(ofString "min",.builtin "min"),(ofString "max",.builtin "max"),(ofString "range",.type "range"),
 (ofString "set",.type "set"),(ofString "iter",.builtin "iter"),(ofString "StopIteration",.type "StopIteration"),(ofString "ValueError",.type "ValueError"),(ofString "list",.type "list"),(ofString "tuple",.type "tuple"),
 (ofString "object",.type "object"),(ofString "isinstance",.builtin "isinstance"),(ofString "str",.type "str"),(ofString "bool",.type "bool"),(ofString "enumerate",.type "enumerate")]
theorem Df:dU.all (fun p=>!(p.1==ofString "__debug__"))=true:=by decide +kernel
structure Glo.Wf(G:Glo):Prop where
 g:G.hB.Ns Ph G.mg
 b:G.hB.Ns Qd G.mb
 lim:G.hB.NoLimit
 K:G.K.In G.hB
 srf:∀g S (h h':N9) v,G.SR g S h v->(∀b o,S b->h.get? b=some o->h'.get? b=some o)->(∀b o,G.hB.get? b=some o->h.get? b=some o)->(∀b o,G.hB.get? b=some o->h'.get? b=some o)->G.SR g S h' v
 bn:∀p∈dU,G.mg p.1=none/\G.mb p.1=some p.2
structure EnvOk(Re:Env)(sc:Scope):Prop where
 scope:Re.scope=sc
 kind:sc.kind=.function
 globals:Re.globals=Ph
 builtins:Re.builtins=Qd
 noclass:∀x,sc.names.lookup x=some .free->(x==ofString "__classdict__")=false
 inj:∀x y c,Re.cells.lookup x=some c->Re.cells.lookup y=some c->x=y
 clk:∀x c,Re.cells.lookup x=some c->sc.names.lookup x=some .cell\/sc.names.lookup x=some .free
structure FrameV(Re:Env)(h:N9)(val:Str->Option NO):Prop where
 loc:∃m,h.Ns Re.locals m/\∀x,Re.kindOf x=some .local->m x=val x
 cel:∀x,(Re.kindOf x=some .cell\/Re.kindOf x=some .free)->∃c,Re.cells.lookup x=some c/\h.IsCell c (val x)
theorem FrameV.keeps(F:FrameV Re h val)(k:∀b o,h.get? b=some o->h'.get? b=some o):FrameV Re h' val :=
 ⟨F.loc.elim fun m ζ=>ζ.elim fun h1 h2=>⟨m,h1.keeps k,h2⟩,fun x hx=>(F.cel x hx).elim fun c ζ=>ζ.elim fun h1 h2=>⟨c,h1,h2.keeps k⟩⟩
structure CtxOk(sc:Scope)(Rc:List (Option Str)):Prop where
 inj:∀(i j:Nat) (x:Str),Rc[i]? = some (some x)->Rc[j]? = some (some x)->i=j
 kd:∀(i:Nat) (x:Str),Rc[i]? = some (some x)->sc.names.lookup x=some .local\/sc.names.lookup x=some .cell\/sc.names.lookup x=some .free
noncomputable def ba(Re:Env)(b:NQ):Prop:=b=Re.locals\/(@LT.lt Nat _ Re.locals b/\∃x,Re.kindOf x=some .cell/\Re.cells.lookup x=some b)
noncomputable def aS(Re:Env)(b:NQ):Prop:=b=Re.locals\/∃x,Re.cells.lookup x=some b
theorem ba.store(h:ba Re b):aS Re b:=h.imp id fun h=>h.elim fun U ζ=>ζ.elim fun x ζ=>ζ.elim fun U e=>⟨x,e⟩
noncomputable def br(Re:Env)(Rc:List (Option Str))(i:Nat):Prop:=∀x c,Rc[i]? = some (some x)->Re.kindOf x=some .cell->Re.cells.lookup x=some c->@LT.lt Nat _ Re.locals c
inductive OwnRep(O:NQ->Prop)(ω:NQ->Option Nat)(h:N9)(i:Nat)(v:Option NO)(d:NR):Prop where
 | mk (a:NQ) (vs:Array NO) (n:Nat) (ds:List NR) (e1:v=some (.ref a)) (e2:ω a=some i) (e3:d=.list ds) (h1:IsL h a vs n) (h2:RepL O h vs.toList ds):OwnRep O ω h i v d
noncomputable def cF(G:Glo)(O:NQ->Prop)(ω:NQ->Option Nat)(h:N9)(i:Nat)(v:Option NO):SV->Prop
 | .dat d=>∃u,v=some u/\Rep O h u d
 | .own d=>OwnRep O ω h i v d
 | .sor g=>∃u S,v=some u/\G.SR g S h u/\∀b,S b->ω b=some i
 | .val u=>v=some u
 | .dic l=>∃a,v=some (.ref a)/\ω a=some i/\eG h a l
 | .un=>True
noncomputable def gz(G:Glo)(O:NQ->Prop)(ω:NQ->Option Nat)(h:N9)(Rc:List (Option Str))(ρ:List SV)(val:Str->Option NO):Prop :=
 ∀(i:Nat) (x:Str),Rc[i]? = some (some x)->cF G O ω h i (val x) (ρ.getD i .un)
noncomputable def aK(n:Nat)(A:N0):Prop:=A.depth+3 * n+60<=990/\A.units+16 * n+300<9900
theorem aK.le(r:aK n A)(h:m<=n):aK m A:=⟨ae (gv (nZ (Nk 3 h) _) 60) r.1,lM (gv (nZ (Nk 16 h) _) 300) r.2⟩
theorem wA(j:Nat)(hj:j<=k)(h:m+1<=n):d+j+k * m+c<=d+k * n+c :=
 gv (by rw[M8,Nat.add_comm j];exact nZ (ae (nZ hj _) (Nk k h)) d) c
theorem aK.deeper(r:aK n A)(h:m+1<=n):aK m (A.deeper Re):=⟨ae (wA 1 (by decide) h) r.1,lM (wA 3 (by decide) h) r.2⟩
theorem aK.fits(r:aK n A)(h:k<=60):A.depth+k<1000 :=
 lM (Nh (Bx _ (3 * n)) h) (lM r.1 (by decide))
theorem my{d n a b m:Nat}(h:d+n<m)(e:a+b<=n):d+a+b<m:=lM (M8 d a b▸nZ e d) h
theorem pi{d n m:Nat}(h:d+n<m):d<m:=lM (Bx ..) h
theorem aK.units(r:aK n A):A.units+100<cLine :=
 lM (Nh (Bx _ (16 * n)) (by decide:100<=300)) r.2
inductive Vars(G:Glo)(Re:Env)(O:NQ->Prop)(ω:NQ->Option Nat)(h:N9)(Rc:List (Option Str))(ρ:List SV):Prop where
 | mk (val:Str->Option NO) (F:FrameV Re h val) (V:gz G O ω h Rc ρ val):Vars G Re O ω h Rc ρ
structure Cond(G:Glo)(Re:Env)(sc:Scope)(Rc:List (Option Str))(A:N0)(O:NQ->Prop)(ω:NQ->Option Nat)(ρ:List SV)(s:NL):Prop where
 eo:EnvOk Re sc
 co:CtxOk sc Rc
 len:ρ.length=Rc.length
 ok:Okay A O s
 base:G.Base O s.heap
 fr:∀b,ba Re b->O b
 fc:∀x c,Re.cells.lookup x=some c->O c
 om:∀b i,ω b=some i->O b/\¬aS Re b
 vars:Vars G Re O ω s.heap Rc ρ
theorem cF.at(wf:G.Wf)(B:G.Base O h)(hk:∀b o,(ω b=some i\/¬O b)->h.get? b=some o->h'.get? b=some o)(r:cF G O ω h i v x):cF G O ω h' i v x:=by
 cases x with
 | dat d=>refine x12 r fun u e r=>?_;exact⟨u,e,r.mono (fun b o n e=>hk b o (.inr n) e) fun U U U q=>q⟩
 | own d=>obtain⟨a,vs,n,ds,e1,e2,e3,h1,h2⟩:=r;exact⟨a,vs,n,ds,e1,e2,e3,hk _ _ (.inl e2) h1,h2.mono (fun b o n e=>hk b o (.inr n) e) fun U U U q=>q⟩
 | un=>trivial
 | val u=>exact r
 | dic l=>exact x13 r fun a e1 e2 r=>⟨a,e1,e2,r.at fun o=>hk a o (.inl e2)⟩
 | sor g=>
  refine x23 r fun u S e r hS=>?_
  exact⟨u,S,e,wf.srf g S h h' u r (fun b o q e=>hk b o (.inl (hS b q)) e) (fun b o q=>B.kp b o q) fun b o q=>hk b o (.inr fun z=>by rw[B.off b z]at q;cases q) (B.kp b o q),hS⟩
theorem cF.keeps(wf:G.Wf)(B:G.Base O s.heap)(k:NX s s')(r:cF G O ω s.heap i v x):cF G O ω s'.heap i v x :=
 r.at wf B fun b o U e=>ai k b o e
theorem Cond.keeps(wf:G.Wf)(C:Cond G Re sc Rc A O ω ρ s)(k:NX s s'):Cond G Re sc Rc A O ω ρ s' :=
 ⟨C.eo,C.co,C.len,C.ok.keeps k,C.base.keeps k,C.fr,C.fc,C.om,let⟨val,F,V⟩:=C.vars;⟨val,F.keeps (ai k),fun i x h=>(V i x h).keeps wf C.base k⟩⟩
theorem Cond.store_O(C:Cond G Re sc Rc A O ω ρ s)(h:aS Re b):O b:=by
 rcases h with rfl | ⟨x,h⟩
 ·exact C.fr _ (.inl rfl)
 ·exact C.fc x b h
noncomputable def aM(G:Glo)(F:FEntry):Prop:=∃a o fd,G.mg F.name=some (.ref a)/\G.K.lookup a=some o/\o.data=.func fd /\
 ∀(A:N0) (s:NL) (O:NQ->Prop) (vs:List NO) (ds:List NR) (E:NO->NL->Prop),aK F.k A->Okay A O s->G.Base O s.heap->RepL O s.heap vs ds->F.pre ds ->
  NN (NP G.prog G.w) A (call (.ref a) vs) (PV O s (F.val ds)) E s
section
variable{G:Glo}{Re:Env}{sc:Scope}{Rc:List (Option Str)}{A:N0}{O:NQ->Prop}{ρ:List SV}{s:NL}{E:NO->NL->Prop}
theorem EnvOk.kindOf(e:EnvOk Re sc)(x:Str):Re.kindOf x=sc.names.lookup x:=by unfold Env.kindOf;rw[e.scope]
theorem EnvOk.kindS(e:EnvOk Re sc):Re.scope.kind=.function:=by rw[e.scope];exact e.kind
theorem eU{Q:NO->NL->Prop}(e:EnvOk Re sc)(F:FrameV Re s.heap val)(hv:val x=some v)
 (hk:sc.names.lookup x=some .local\/sc.names.lookup x=some .cell\/sc.names.lookup x=some .free) (h:Q v s):NN (NP G.prog G.w) A (loadName Re x) Q E s:=by
 rcases hk with hk | hk | hk
 ·refine x12 F.loc fun m hn hm=>?_
  exact Qe e.kindS ((e.kindOf x).trans hk) hn ((hm x ((e.kindOf x).trans hk)).trans hv) h
 ·refine x12 (F.cel x (.inl ((e.kindOf x).trans hk))) fun c h1 h2=>?_
  exact wpAny_loadName_cell e.kindS ((e.kindOf x).trans hk) h1 (hv▸h2) h
 ·refine x12 (F.cel x (.inr ((e.kindOf x).trans hk))) fun c h1 h2=>?_
  exact wpAny_loadName_free e.kindS ((e.kindOf x).trans hk) h1 (hv▸h2) h (e.noclass x hk)
theorem ic{p:Pos}(wf:G.Wf)(e:EnvOk Re sc)(B:G.Base O s.heap)(hx:bO sc x=true)(hd:(x==ofString "__debug__")=false) (hv:G.mg x=some v) (h:Q v s) :
 NN (NP G.prog G.w) A (N6 (.Name x p) Re) Q E s:=by
 refine Calls.Name_function_global e.kindS ((e.kindOf x).trans (by unfold bO at hx;exact NY hx)) (Calls.loadGlobal_global ?_ hv h) hd
 rw[e.globals];exact wf.g.keeps B.kp
theorem ie{p:Pos}(wf:G.Wf)(e:EnvOk Re sc)(B:G.Base O s.heap)(hx:bO sc x=true)(hm:(x,v)∈dU)(h:Q v s) :
 NN (NP G.prog G.w) A (N6 (.Name x p) Re) Q E s:=by
 have hb:=wf.bn _ hm
 refine Calls.Name_function_global e.kindS ((e.kindOf x).trans (by unfold bO at hx;exact NY hx)) (Calls.loadGlobal_builtin (mg:=G.mg) (mb:=G.mb) ?_ hb.1 ?_ hb.2 h) ?_
 ·rw[e.globals];exact wf.g.keeps B.kp
 ·rw[e.builtins];exact wf.b.keeps B.kp
 ·have:=bt.mp Df _ hm
  simpa using this
set_option backward.match.sparseCases false in
noncomputable def fu:Expr->Bool
 | .Starred ..=>false
 | _=>true
theorem gA(e:IX)(h:chk Φ e sc Rc ast=true):fu ast=true:=by
 cases ast<;>first | rfl | (cases e<;>exact absurd h MY)
theorem wB(h:fu a=true):starEach (a::as) Re=(false,N6 a Re)::starEach as Re:=by
 cases a<;>first | rfl | exact absurd h MY
theorem ig:∀(as:List Expr),(∀a∈as,fu a=true)->starEach as Re=as.map fun a=>(false,N6 a Re)
 | [],_=>rfl
 | a::as,h=>(wB (h a ag)).trans (congrArg (_::·) (ig as fun b hb=>h b (ay _ hb)))
theorem jz(pos:Pos)(as:List Expr):backTo pos (as.map fun a=>(false,N6 a Re))=as.map fun a=>(false,N6 a Re):=by
 unfold backTo
 rw[fk]
 rfl
theorem gB(as:List Expr):(as.map fun a=>(false,N6 a Re)).any (·.1)=false:=by
 rw[List.any_map];simp
theorem ii{M:Model}{f:NO}{as:List Expr}{Q:Args->NL->Prop}(h:NN M A (spliced (as.map fun a=>(false,N6 a Re))) (fun vs s'=>Q ⟨vs,[]⟩ s') E s) :
 NN M A (evalArgs f true (as.map fun a=>(false,N6 a Re)) []) Q E s:=by
 cases as with
 | nil =>
  unfold evalArgs
  show NN M A (spliced [] >>= _) Q E s
  refine NM (NS h (fun vs s' h'=>?_) fun U U x=>x)
  refine N8 ?_
  exact NM (NU (NM (NU (NU h'))))
 | cons a as=>exact Oj h
end
inductive KM(M:NQ->Prop)(s s':NL):Prop where
 | mk (h':N9) (t:Nat) (e:s'={ s with heap:=h',toks:=t }) (k:∀b o,¬M b->s.heap.get? b=some o->h'.get? b=some o) (th:∀b o,s.heap.get? b=some o->∃o',h'.get? b=some o'):KM M s s'
section
variable{M M':NQ->Prop}{s s' s'' s₀:NL}
theorem KM.of(k:NX s s'):KM M s s':=by
 obtain⟨h,t,rfl,k⟩:=k
 exact⟨h,t,rfl,fun b o U e=>k b o e,fun b o e=>⟨o,k b o e⟩⟩
theorem KM.trans(x:KM M s s')(y:KM M s' s''):KM M s s'':=by
 obtain⟨h,t,rfl,k,e⟩:=x
 obtain⟨h',t',rfl,k',e'⟩:=y
 exact⟨h',t',rfl,fun b o n q=>k' b o n (k b o n q),fun b o q=>(e b o q).elim fun o' q'=>e' b o' q'⟩
theorem KM.mono(x:KM M s s')(h:∀b,M b->M' b):KM M' s s':=by
 obtain⟨h',t,rfl,k,e⟩:=x
 exact⟨h',t,rfl,fun b o n q=>k b o (fun z=>n (h b z)) q,e⟩
theorem KM.get(x:KM M s s'):∀b o,¬M b->s.heap.get? b=some o->s'.heap.get? b=some o:=by
 obtain⟨h',t,rfl,k,e⟩:=x;exact k
theorem KM.there(x:KM M s s'):∀b o,s.heap.get? b=some o->∃o',s'.heap.get? b=some o':=by
 obtain⟨h',t,rfl,k,e⟩:=x;exact e
theorem KM.keeps(k0:NX s₀ s)(x:KM M s s')(hM:∀b,M b->s₀.heap.get? b=none):NX s₀ s':=by
 refine x22 k0 fun h t e2 k=>?_;subst e2
 obtain⟨h',t',rfl,k',_⟩:=x
 exact⟨h',t',rfl,fun b o e=>k' b o (fun z=>by rw[hM b z]at e;cases e) (k b o e)⟩
theorem KM.chg{t:Nat}(hs:Ou a s.heap h')(ha:∃o,h'.get? a=some o)(hM:M a):KM M s { s with heap:=h',toks:=t } :=
 ⟨h',t,rfl,fun b o n e=>hs b o (fun q=>n (q▸hM)) e,fun b o e=>if q:b=a then q▸ha else⟨o,hs b o q e⟩⟩
theorem Okay.km(ok:Okay A O s)(k:KM M s s')(hM:∀b,M b->O b):Okay A O s' :=
 ⟨ok.hok.frame fun b hb o e=>k.get b o (fun z=>ok.hno b hb (hM b z)) e,ok.hno,fun b hb=>(ok.obs b hb).elim fun o e=>k.there b o e⟩
theorem Glo.Base.km{G:Glo}(B:G.Base O s.heap)(k:KM M s s')(hM:∀b,M b->O b):G.Base O s'.heap :=
 ⟨fun b o e=>k.get b o (fun z=>by rw[B.off b (hM b z)]at e;cases e) (B.kp b o e),B.off⟩
theorem RepL.km(r:RepL O s.heap v d)(k:KM M s s')(hM:∀b,M b->O b):RepL O s'.heap v d :=
 r.mono (fun b o n e=>k.get b o (fun z=>n (hM b z)) e) fun U U U q=>q
end
theorem Dg(x:h.Ns a m)(y:IsL h a vs n):False:=by
 refine x33 x fun o es ep e d U=>?_
 rw[y]at e;cases e;cases d
theorem Dh(x:h.IsCell a v)(y:IsL h a vs n):False:=by
 refine x12 x fun o e d=>?_
 rw[y]at e;cases e;cases d
theorem rX{h:N9}{a:NQ}{m:Str->Option NO}{v:Option NO}(x:h.Ns a m)(y:h.IsCell a v):False:=by
 refine x33 x fun o es ep e d U=>?_
 refine x12 y fun o' e' d'=>?_
 rw[e]at e';cases e';rw[d]at d';cases d'
theorem jA{h h':N9}{c:NQ}{v:Option NO}(x:h.IsCell c v)(e:∀o,h.get? c=some o->h'.get? c=some o):h'.IsCell c v:=x.elim fun o ζ=>ζ.elim fun ho hd=>⟨o,e o ho,hd⟩
theorem mz{ρ:List SV}{i j:Nat}{x:SV}(h:i≠j):(ρ.set i x).getD j .un=ρ.getD j .un:=by
 rw[av,av,List.getElem?_set_ne h]
theorem dq{ρ:List SV}{i j:Nat}{x:SV}:(ρ.set i x).getD j .un=if i=j/\i<ρ.length then x else ρ.getD j .un:=by
 rw[av,av,List.getElem?_set]
 by_cases h:i=j
 ·subst h
  by_cases h2:i<ρ.length
  ·simp[h2]
  ·simp[h2]
 ·simp[h]
theorem FrameV.off(F:FrameV Re h val)(hn:¬aS Re a)(hs:Ou a h h'):FrameV Re h' val :=
 ⟨F.loc.elim fun m ζ=>ζ.elim fun h1 h2=>⟨m,h1.at' fun o e=>hs _ o (fun q=>hn (.inl q.symm)) e,h2⟩,
  fun x hx=>(F.cel x hx).elim fun c ζ=>ζ.elim fun h1 h2=>⟨c,h1,jA h2 fun o e=>hs _ o (fun q=>hn (.inr ⟨x,q▸h1⟩)) e⟩⟩
theorem FrameV.chg(F:FrameV Re h val)(hl:IsL h a vs n)(hs:Ou a h h'):FrameV Re h' val :=
 ⟨F.loc.elim fun m ζ=>ζ.elim fun h1 h2=>⟨m,h1.at' fun o e=>hs _ o (fun q=>Dg (q▸h1) hl) e,h2⟩,
  fun x hx=>(F.cel x hx).elim fun c ζ=>ζ.elim fun h1 h2=>⟨c,h1,jA h2 fun o e=>hs _ o (fun q=>Dh (q▸h2) hl) e⟩⟩
section
variable{G:Glo}{Re:Env}{sc:Scope}{Rc:List (Option Str)}{A:N0}{O:NQ->Prop}{ω:NQ->Option Nat}{ρ:List SV}{s:NL}{E:NO->NL->Prop}
theorem Cond.frame(C:Cond G Re sc Rc A O ω ρ s)(k:KM M s s')(hM:∀b,M b->O b)(hl:ρ'.length=ρ.length)(F:FrameV Re s'.heap val)(V:gz G O ω s'.heap Rc ρ' val):Cond G Re sc Rc A O ω ρ' s' :=
 ⟨C.eo,C.co,hl.trans C.len,C.ok.km k hM,C.base.km k hM,C.fr,C.fc,C.om,val,F,V⟩
theorem Di(h:aW sc x=true):sc.names.lookup x=some .local\/sc.names.lookup x=some .cell :=
 (Bool.or_eq_true_iff.mp h).imp NY NY
theorem dW{i:Nat}{x:Str}{v:NO}{y:SV}{Q:Unit->NL->Prop}(wf:G.Wf)(hs:br Re Rc i)(C:Cond G Re sc Rc A O ω ρ s)(hi:Rc[i]? = some (some x))
 (hk:aW sc x=true) (r:cF G O ω s.heap i (some v) y)
 (h:∀s',KM (ba Re) s s'->Cond G Re sc Rc A O ω (ρ.set i y) s'->Q () s'):NN (NP G.prog G.w) A (storeName Re x v) Q E s:=by
 have hk:=Di hk
 obtain⟨val,F,V⟩:=C.vars
 have vs:∀s',KM (ba Re) s s'->gz G O ω s'.heap Rc (ρ.set i y) (fun z=>if z=x then some v else val z):=by
  intro s' k j z hz
  rw[dq]
  show cF G O ω s'.heap j (if z=x then some v else val z) _
  have at':∀(j:Nat) (b:NQ) (o:Obj),(ω b=some j\/¬O b)->s.heap.get? b=some o->s'.heap.get? b=some o:=fun j b o hb e=>k.get b o (fun q=>by
   rcases hb with hb | hb
   ·exact(C.om b j hb).2 q.store
   ·exact hb (C.fr b q)) e
  by_cases h:i=j
  ·subst h
   have:z=x:=by rw[hi]at hz;cases hz;rfl
   subst this
   rw[if_pos rfl]
   split
   ·exact r.at wf C.base (at' i)
   ·rename_i h2
    have:ρ.getD i .un=.un:=by
     rw[av,M6 (by simpa using h2)];rfl
    rw[this];trivial
  ·have:z≠x:=fun q=>h (C.co.inj i j x hi (q▸hz))
   rw[if_neg this,if_neg (fun z=>h z.1)]
   exact(V j z hz).at wf C.base (at' j)
 rcases hk with hk | hk
 ·have hk':=(C.eo.kindOf x).trans hk
  refine x12 F.loc fun m hn hm=>?_
  refine wpAny_storeName_local hk' hn (fun h' hn' hs'=>?_) (by rw[C.eo.kindS];rfl)
  have k:KM (ba Re) s { s with heap:=h',toks:=s.toks+1 }:=KM.chg hs'.extBut (hn'.elim fun o ζ=>ζ.elim fun U ζ=>ζ.elim fun U ζ=>ζ.elim fun e U=>⟨o,e⟩) (.inl rfl)
  refine h _ k (C.frame k C.fr (val:=fun z=>if z=x then some v else val z) (by simp) ⟨⟨_,hn',fun y hy=>?_⟩,fun y hy=>?_⟩ (vs _ k))
  ·by_cases q:y=x
   ·simp[q]
   ·simp only[q,if_false];exact hm y hy
  ·refine x12 (F.cel y hy) fun c h1 h2=>?_
   have:y≠x:=fun q=>by subst q;rw[hk']at hy;rcases hy with hy | hy<;>cases hy
   rw[if_neg this]
   exact⟨c,h1,h2.sameBut hs' fun q=>rX hn (q▸h2)⟩
 ·have hk':=(C.eo.kindOf x).trans hk
  refine x12 (F.cel x (.inl hk')) fun c hc hv=>?_
  refine wpAny_storeName_cell C.eo.kindS hk' hc hv fun h' hc' hs'=>?_
  have k:KM (ba Re) s { s with heap:=h' }:=KM.chg hs'.extBut (hc'.elim fun o ζ=>ζ.elim fun e U=>⟨o,e⟩) (.inr ⟨hs x c hi hk' hc,x,hk',hc⟩)
  refine h _ k (C.frame k C.fr (val:=fun z=>if z=x then some v else val z) (by simp) ⟨?_,fun y hy=>?_⟩ (vs _ k))
  ·refine x12 F.loc fun m hn hm=>?_
   refine⟨m,hn.sameBut hs' fun q=>rX hn (q▸hv),fun y hy=>?_⟩
   have:y≠x:=fun q=>by subst q;rw[hk']at hy;cases hy
   rw[if_neg this];exact hm y hy
  ·refine x12 (F.cel y hy) fun c' h1 h2=>?_
   by_cases q:y=x
   ·subst q
    rw[hc]at h1;cases h1
    rw[if_pos rfl];exact⟨_,hc,hc'⟩
   ·rw[if_neg q]
    exact⟨c',h1,h2.sameBut hs' fun z=>q (C.eo.inj y x c (z▸h1) hc)⟩
theorem Cond.weak(C:Cond G Re sc Rc A O ω ρ s)(hl:ρ'.length=ρ.length)(h:∀i,ρ'.getD i .un=.un\/ρ'.getD i .un=ρ.getD i .un):Cond G Re sc Rc A O ω ρ' s :=
 ⟨C.eo,C.co,hl.trans C.len,C.ok,C.base,C.fr,C.fc,C.om,let⟨val,F,V⟩:=C.vars;⟨val,F,fun i x e=>by
  rcases h i with q | q
  ·rw[q];trivial
  ·rw[q];exact V i x e⟩⟩
end
section
variable{prog:Ol}{w:Og}{A:N0}{E:NO->NL->Prop}{O:NQ->Prop}
theorem rY{I:NQ}{fp wr:List NQ}{n:Nat}{P:Nat->NO->Prop}{St:Nat->N9->Prop}(W:Walks prog w A I fp wr n P St) :
 ∀(m i:Nat) (s:NL) (Q:List NO->NL->Prop),St i s.heap->i+m<=n ->
  (∀vs h' t,vs.length=m->(∀(j:Nat) (v:NO),vs[j]? = some v->P (i+j) v)->St (i+m) h'->(∀b o,b∉wr->s.heap.get? b=some o->h'.get? b=some o)->Q vs { s with heap:=h',toks:=t }) ->
  NN (NP prog w) A (draw (.ref I) m) Q E s
 | 0,i,s,Q,st,_,h=>by
  show NN _ _ (pure []) Q E s
  exact NU (h [] s.heap s.toks rfl (by simp) st fun U U U e=>e)
 | m+1,i,s,Q,st,hle,h=>by
  show NN _ _ (PA (.ref I) >>= _) Q E s
  refine NM (W.item i _ _ _ (by lia) st fun v h₁ t₁ hp st₁ k₁=>?_)
  refine NM (N8 (rY W m (i+1) _ _ st₁ (by lia) fun vs h₂ t₂ hl hv st₂ k₂=>NU ?_))
  refine h (v::vs) h₂ t₂ (by simp[hl]) (fun j u hj=>?_) (by rw[show i+(m+1)=i+1+m by lia];exact st₂) fun b o hb e=>k₂ b o hb (k₁ b o hb e)
  cases j with
  | zero=>simp at hj;subst hj;exact hp
  | succ j=>simp at hj;rw[show i+(j+1)=i+1+j by lia];exact hv j u hj
theorem Dj(hl:vs.length=ds.length)(hp:∀(j:Nat) (v:NO),vs[j]? = some v->∃d,ds[j]? = some d/\Rep O h v d):RepL O h vs ds:=by
 induction vs generalizing ds with
 | nil =>
  cases ds with
  | nil=>exact .nil
  | cons d ds=>cases hl
 | cons v vs ih =>
  cases ds with
  | nil=>cases hl
  | cons d ds =>
   refine x12 (hp 0 v rfl) fun d' e r=>?_
   cases e
   exact .cons r (ih (Nat.succ.inj hl) fun j u hj=>hp (j+1) u hj)
theorem wC(hlen:(cW d).length=n)(k:NX s s')(hi:ItIs prog w A O F s.heap s'.heap it (cW d))(h:∀vs s',NX s s'->RepL O s'.heap vs (cW d)->Q vs s') :
 NN (NP prog w) A (do
  let items <- PY [it] (draw it n)
  if items.length<n then
   rule "unpack.too-few";raiseError "ValueError" s!"not enough values to unpack (expected {n}, got {items.length})"
  if(<- PY items (PA it)).isSome then
   rule "unpack.too-many";raiseError "ValueError" s!"too many values to unpack (expected {n})"
  return items) Q E s':=by
 obtain⟨I,fp,wr,P,St,rfl,W,hst,hfp,hwr,_,_,_,hit⟩:=hi
 replace hwr:=wq hwr
 refine NM (N8 (rY W n 0 _ _ hst (gZ ((oR n).trans hlen.symm)) fun vs h₁ t₁ hl hv st₁ k₁=>?_))
 rw[if_neg (fG.mpr (gZ hl.symm))]
 rw[oR,<- hlen]at st₁
 refine NM (N8 (W.done _ _ _ st₁ fun h₂ t₂ k₂=>?_))
 rw[show(Option.isSome (none:Option NO))=false from rfl,if_neg MY]
 have kk:NX s { s' with heap:=h₂,toks:=t₂ }:=wx k hwr fun b o hb e=>k₂ b o hb (k₁ b o hb e)
 refine NU (h vs _ kk ?_)
 refine Dj (hl.trans hlen.symm) fun j u hj=>?_
 refine x12 (hit (0+j) u (hv j u hj)) fun d e r=>?_
 rw[oR]at e
 exact⟨d,e,r _ fun b o U e=>ai kk b o e⟩
theorem Dl{Q:List NO->NL->Prop}(ok:Okay A O s)(r:Rep O s.heap v d)(hd:mu d=true)(hn:(cW d).length=n)
 (h:∀vs s',NX s s'->RepL O s'.heap vs (cW d)->Q vs s'):NN (NP prog w) A (unpackItems v n none) Q E s:=by
 unfold unpackItems
 cases d<;>first | exact absurd hd MY | skip
 ·refine x33 (a8.of r).listIs fun a vs m e hl U=>?_;subst e
  refine NM ?_
  unfold notIterableAtAll
  refine NM (wpAny_specialOf hl.isList.typeIs slot_list_iter.lookup (NU ?_))
  rw[if_neg MY]
  exact NM (N8 (rR ok (.of r) fun it s' k hi=>wC hn k hi h))
 ·refine x33 (a8.of r).tupIs fun a vs m e hl U=>?_;subst e
  refine NM ?_
  unfold notIterableAtAll
  refine NM (wpAny_specialOf (show s.heap.IsTuple a vs from⟨_,hl,rfl,m,rfl⟩).typeIs F.slot_tuple_iter.lookup (NU ?_))
  rw[if_neg MY]
  exact NM (N8 (rS ok (.of r) fun it s' k hi=>wC hn k hi h))
end
section
variable{G:Glo}{Re:Env}{sc:Scope}{Rc:List (Option Str)}{A:N0}{O:NQ->Prop}{ω:NQ->Option Nat}{s:NL}{E:NO->NL->Prop}
theorem ij{p:Pos}{Q:Unit->NL->Prop}(wf:G.Wf)(hs:br Re Rc i)(C:Cond G Re sc Rc A O ω ρ s)(hi:Rc[i]? = some (some x))(hk:aW sc x=true)(r:Rep O s.heap v d)
 (h:∀s',KM (ba Re) s s'->Cond G Re sc Rc A O ω (ρ.set i (.dat d)) s'->Q () s'):NN (NP G.prog G.w) A (Ox (.Name x p) Re v) Q E s :=
 Ot (dW (y:=.dat d) wf hs C hi hk ⟨v,rfl,r⟩ h)
theorem rZ:∀(slots:List Nat) (es:List Expr),dT sc Rc slots es=true->(PE es Re).length=slots.length/\(PE es Re).findIdx? (·.1)=none
 | [],[],_=>⟨rfl,rfl⟩
 | [],_::_,h=>absurd h MY
 | _::_,[],h=>absurd h MY
 | i::is,e::es,h=>a7 (show((bv e fun x U=>Rc[i]? == some (some x)&&aW sc x)&&dT sc Rc is es)=true from h) fun h1 h2=>by
  refine aj (rZ is es h2) fun h3 h4=>?_
  refine cP (P:=fun e=>(PE (e::es) Re).length=(i::is).length/\(PE (e::es) Re).findIdx? (·.1)=none) h1 fun x p U=>⟨congrArg (· + 1) h3,?_⟩
  show List.findIdx? _ (_::PE es Re)=_
  rw[List.findIdx?_cons,h4];rfl
theorem Dm(wf:G.Wf){slots:List Nat}{es:List Expr}{vs:List NO}{ds:List NR}{ρ:List SV}{s:NL}{Q:Unit->NL->Prop}(hst:∀i∈slots,br Re Rc i)(hc:dT sc Rc slots es=true)(C:Cond G Re sc Rc A O ω ρ s)(r:RepL O s.heap vs ds)(hl:ds.length=slots.length)
 (h:∀s',KM (ba Re) s s'->Cond G Re sc Rc A O ω (fR ρ slots ds) s'->Q () s'):NN (NP G.prog G.w) A (Qi ((PE es Re).map (·.2)) vs) Q E s:=by
 induction slots generalizing es vs ds ρ s with
 | nil =>
  cases ds with
  | nil =>
   cases es with
   | nil=>cases r;exact NU (h s (KM.of (bk s)) C)
   | cons e es=>exact absurd hc MY
  | cons d ds=>cases hl
 | cons i slots ih =>
  cases es with
  | nil=>exact absurd hc MY
  | cons e es =>
   cases ds with
   | nil=>cases hl
   | cons d ds =>
    refine a7 (show((bv e fun x U=>Rc[i]? == some (some x)&&aW sc x)&&dT sc Rc slots es)=true from hc) fun h1 h2=>?_
    cases r with
    | cons r1 r2 =>
     refine cP (P:=fun e=>NN (NP G.prog G.w) A (Qi ((PE (e::es) Re).map (·.2)) _) Q E s) h1 fun x p h1=>?_
     refine a7 h1 fun h1 h3=>?_
     show NN _ _ (PY _ (Ox (.Name x p) Re _) >>= fun U=>Qi ((PE es Re).map (·.2)) _) Q E s
     refine NM (N8 (ij wf (hst i ag) C (NY h1) h3 r1 fun s' k C'=>?_))
     exact ih (fun j hj=>hst j (ay _ hj)) h2 C' (r2.km k C.fr) (Nat.succ.inj hl) fun s'' k' C''=>h s'' (k.trans k') C''
theorem Dn{ρ:List SV}{slots:List Nat}{ts:List Expr}{k:Nat}{p:Pos}{v:NO}{d:NR}{Q:Unit->NL->Prop}(wf:G.Wf)(hst:∀i∈slots,br Re Rc i)(hc:dT sc Rc slots ts=true)(C:Cond G Re sc Rc A O ω ρ s)(r:Rep O s.heap v d)(hb:mu d=true/\(cW d).length=slots.length)
 (h:∀s',KM (ba Re) s s'->Cond G Re sc Rc A O ω (fR ρ slots (cW d)) s'->Q () s'):NN (NP G.prog G.w) A (Ox (.Tuple ts k p) Re v) Q E s:=by
 rw[arm_assign_Tuple]
 refine NM (Od ?_)
 unfold unpack
 refine aj (rZ (Re:=Re) slots ts hc) fun h1 h2=>?_
 rw[h1,h2]
 refine NM (N8 (Dl C.ok r hb.1 hb.2 fun vs s' k' rl=>?_))
 exact Dm wf hst hc (C.keeps wf k') rl hb.2 fun s'' k'' C''=>h s'' ((KM.of k').trans k'') C''
theorem wD{ρ:List SV}{tup:Bool}{slots:List Nat}{tgt:Expr}{v:NO}{d:NR}{Q:Unit->NL->Prop}(wf:G.Wf)(hst:∀i∈slots,br Re Rc i)(hc:fV tup slots sc Rc tgt=true)(C:Cond G Re sc Rc A O ω ρ s)(r:Rep O s.heap v d)(hb:bindP tup slots d)
 (h:∀s',KM (ba Re) s s'->Cond G Re sc Rc A O ω (ao tup slots d ρ) s'->Q () s'):NN (NP G.prog G.w) A (Ox tgt Re v) Q E s:=by
 cases tup with
 | true=>exact lW (P:=fun tgt=>NN (NP G.prog G.w) A (Ox tgt Re v) Q E s) hc fun ts k p hc=>Dn wf hst hc C r hb h
 | false =>
  refine cU (P:=fun slots=>(∀i∈slots,br Re Rc i)->(∀s',KM (ba Re) s s'->Cond G Re sc Rc A O ω (ao false slots d ρ) s'->Q () s')->NN (NP G.prog G.w) A (Ox tgt Re v) Q E s) hc (fun i hc hst h=>?_) hst h
  refine cP (P:=fun tgt=>NN (NP G.prog G.w) A (Ox tgt Re v) Q E s) hc fun x p hc=>?_
  exact a7 hc fun h1 h2=>ij wf (hst i ag) C (NY h1) h2 r fun s' k C'=>h s' k C'
end
noncomputable def jB(elt:Expr)(gens:List Oz)(scope:Scope)(pos:Pos)(depth:Nat)(acc:NO)(Re:Env)(k:Sem Fin):Sem Fin :=
 match gens[depth+1]? with
 | some g'=>do
  let x <- N6 g'.iter Re
  PZ g'.iter.pos
  let x <- foldedSetIterable g'.iter Re x
  let _ <- runOwn (.compStart (.ListComp elt gens scope pos) (depth+1) (<- PY [x] (pyIter x)) acc Re) Re
  k
 | none=>((N6 elt Re >>= fun x=>call (.builtin "list.append") [acc,x] >>= fun U=>pure ()):Sem Unit) >>= fun U=>k
noncomputable def iV(gens:List Oz):Bool:=gens.all fun g=>g.is_async==0
theorem Do{elt tgt iter:Expr}{scope:Scope}{pos:Pos}{it acc:NO}{Re:Env}(hz:iV gens=true)(hg:gens[depth]? = some ⟨tgt,iter,ifs,0⟩) :
 compTurn (.ListComp elt gens scope pos) depth it acc Re=(do
  PZ iter.pos
  match <- PA it with
  | none=>pure (.done .next)
  | some v =>
   letOwnedTupleGo tgt it v
   Ox tgt Re v
   let mut ok:=true
   for c in ifs do
    if ok then ok <- isTrue c Re (N6 c Re)
   if ok then
    jB elt gens scope pos depth acc Re (again (.compLoop (.ListComp elt gens scope pos) depth it acc Re))
   else again (.compLoop (.ListComp elt gens scope pos) depth it acc Re)):=by
 unfold compTurn jB
 dsimp only
 rw[hg]
 dsimp only
 cases h:gens[depth+1]? with
 | none=>rfl
 | some g =>
  have:g.is_async=0:=by
   have:=bt.mp hz g (az h)
   simpa using this
  obtain⟨a,b,c,d⟩:=g
  dsimp only at this
  subst this
  rfl
section
variable{prog:Ol}{w:Og}{A:N0}{E:NO->NL->Prop}{R:Result->NL->Prop}{s:NL}
theorem wE{elt:Expr}{scope:Scope}{pos:Pos}{it acc:NO}{Re:Env}(hg:gens[depth]? = some ⟨tgt,iter,ifs,0⟩)
 (h0:O3 (NP prog w) A (.compLoop (.ListComp elt gens scope pos) depth it acc Re) R s)
 (h:∀E,NN (NP prog w) A (pyIter it) (fun it' s'=>O3 (NP prog w) A (.compLoop (.ListComp elt gens scope pos) depth it' acc Re) R s') E s) :
 O3 (NP prog w) A (.compStart (.ListComp elt gens scope pos) depth it acc Re) R s:=by
 refine codeAny_of_tree ?_
 show NN _ A ((compStart (.ListComp elt gens scope pos) depth it acc Re).onRaise (fun x=>do noteFrame x Re;PZ theWindowsPlace)) _ _ s
 refine wpAny_notedAt ?_
 unfold compStart
 have hc:(clausesOf (.ListComp elt gens scope pos))[depth]? = some ⟨tgt,iter,ifs,0⟩:=hg
 rw[hc]
 show NN _ _ (ask >>= _) _ _ s
 refine NM (wpAny_askSetting (wpAny_ite ?_))
 split
 ·exact NM (NU (NU (And.intro rfl h0)))
 ·refine NM (Qc ?_)
  show NN _ _ (PZ iter.pos >>= _) _ _ s
  exact NM (Od (NM (NS (h _) (fun it' s' h'=>NU (And.intro rfl h')) fun U U x=>x)))
end
noncomputable def MS(Re:Env)(D:NQ)(b:NQ):Prop:=ba Re b\/b=D
inductive AccIs(G:Glo)(O:NQ->Prop)(D:NQ)(h:N9)(ds:List NR):Prop where
 | mk (vs:Array NO) (n:Nat) (l:IsL h D vs n) (r:RepL O h vs.toList ds):AccIs G O D h ds
section
variable{G:Glo}{Re:Env}{sc:Scope}{Rc:List (Option Str)}{A:N0}{O O':NQ->Prop}{ω:NQ->Option Nat}{ρ:List SV}{s s' s₀ s₁:NL}{E:NO->NL->Prop}{D:NQ}{ds:List NR}
theorem AccIs.km(a:AccIs G O D s.heap ds)(k:KM M s s')(hD:¬M D)(hM:∀b,M b->O b):AccIs G O D s'.heap ds :=
 let⟨vs,n,h1,h2⟩:=a;⟨vs,n,k.get _ _ hD h1,h2.km k hM⟩
theorem AccIs.keeps(a:AccIs G O D s.heap ds)(k:NX s s'):AccIs G O D s'.heap ds :=
 let⟨vs,n,h1,h2⟩:=a;⟨vs,n,ai k _ _ h1,h2.keeps k⟩
theorem AccIs.grow(a:AccIs G O D s.heap ds)(k:NX s s')(hO:∀b,O' b->O b\/s.heap.get? b=none):AccIs G O' D s'.heap ds :=
 let⟨vs,n,h1,h2⟩:=a
 ⟨vs,n,ai k _ _ h1,h2.mono (fun b o U e=>ai k b o e) fun b o e q=>(hO b q).elim id fun z=>by rw[z]at e;cases e⟩
theorem cF.grow(r:cF G O ω h i v x)(wf:G.Wf)(B:G.Base O h)(hk:∀b o,h.get? b=some o->h'.get? b=some o)(hO:∀b,O' b->O b\/h.get? b=none):cF G O' ω h' i v x:=by
 have hO':∀b o,h.get? b=some o->O' b->O b:=fun b o e q=>(hO b q).elim id fun z=>by rw[z]at e;cases e
 cases x with
 | dat d=>refine x12 r fun u e r=>?_;exact⟨u,e,r.mono (fun b o U e=>hk b o e) hO'⟩
 | own d=>obtain⟨a,vs,n,ds,e1,e2,e3,h1,h2⟩:=r;exact⟨a,vs,n,ds,e1,e2,e3,hk _ _ h1,h2.mono (fun b o U e=>hk b o e) hO'⟩
 | un=>trivial
 | val u=>exact r
 | dic l=>exact x13 r fun a e1 e2 r=>⟨a,e1,e2,r.at fun o=>hk a o⟩
 | sor g =>
  refine x23 r fun u S e r hS=>?_
  exact⟨u,S,e,wf.srf g S h h' u r (fun b o q e=>hk b o e) (fun b o q=>B.kp b o q) fun b o q=>hk b o (B.kp b o q),hS⟩
theorem Cond.grow(wf:G.Wf)(C:Cond G Re sc Rc A O ω ρ s)(k:NX s s')(hO:∀b,O b->O' b)(hO':∀b,O' b->O b\/s.heap.get? b=none)(ht:∀b,O' b->∃o,s'.heap.get? b=some o):Cond G Re sc Rc A O' ω ρ s' :=
 ⟨C.eo,C.co,C.len,⟨C.ok.hok.keeps k,fun b hb q=>(hO' b q).elim (C.ok.hno b hb) fun z=>by(refine x11 (C.ok.hok.there b hb) fun o e=>?_;rw[z]at e;cases e),ht⟩,
  ⟨(C.base.keeps k).kp,fun b q=>(hO' b q).elim (C.base.off b) fun z=>by
   cases e:G.hB.get? b with
   | none=>rfl
   | some o=>rw[C.base.kp b o e]at z;cases z⟩,
  fun b q=>hO b (C.fr b q),fun x c e=>hO c (C.fc x c e),fun b i e=>⟨hO b (C.om b i e).1,(C.om b i e).2⟩,
  let⟨val,F,V⟩:=C.vars;⟨val,F.keeps (ai k),fun i x e=>(V i x e).grow wf C.base (ai k) hO'⟩⟩
theorem Cond.side(wf:G.Wf)(C:Cond G Re sc Rc A O' ω ρ s)(hω:∀b i,ω b=some i->O b)(hfr:∀b,ba Re b->O b)(hfc:∀x c,Re.cells.lookup x=some c->O c)(hI:∀b,V b->¬O b)(hI':∀b,V b->O' b)
 (k:KM V s s'):Cond G Re sc Rc A O' ω ρ s':=by
 obtain⟨val,F,W⟩:=C.vars
 refine C.frame k hI' (val:=val) rfl ⟨?_,fun x hx=>?_⟩ fun i x e=>(W i x e).at wf C.base fun b o hb e=>k.get b o (fun q=>?_) e
 ·refine x12 F.loc fun m h1 h2=>?_
  exact⟨m,h1.at' fun o e=>k.get _ o (fun q=>hI _ q (hfr _ (.inl rfl))) e,h2⟩
 ·refine x12 (F.cel x hx) fun c h1 h2=>?_
  exact⟨c,h1,jA h2 fun o e=>k.get _ o (fun q=>hI _ q (hfc x c h1)) e⟩
 ·exact hb.elim (fun hb=>hI b q (hω b i hb)) fun hb=>hb (hI' b q)
theorem Cond.shrink{V:NQ->Prop}{h':N9}{t:Nat}(wf:G.Wf)(C:Cond G Re sc Rc A O' ω ρ s)(hO:∀b,O b->O' b)(hω:∀b i,ω b=some i->O b)(hfr:∀b,ba Re b->O b)(hfc:∀x c,Re.cells.lookup x=some c->O c)(hI:∀b,V b->¬O b)(hI':∀b,V b->O' b)(hIh:∀b,V b->b∉hfp A)
 (hk:∀b o,¬V b->s.heap.get? b=some o->h'.get? b=some o):Cond G Re sc Rc A O ω ρ { s with heap:=h',toks:=t }:=by
 obtain⟨val,F,W⟩:=C.vars
 refine⟨C.eo,C.co,C.len,⟨C.ok.hok.frame fun b hb o e=>hk b o (fun q=>hIh b q hb) e,fun b hb q=>C.ok.hno b hb (hO b q),fun b q=>?_⟩,⟨fun b o e=>hk b o (fun q=>?_) (C.base.kp b o e),fun b q=>C.base.off b (hO b q)⟩,hfr,hfc,fun b i e=>⟨hω b i e,(C.om b i e).2⟩,val,⟨?_,fun x hx=>?_⟩,fun i x e=>?_⟩
 ·refine x11 (C.ok.obs b (hO b q)) fun o e=>?_
  exact⟨o,hk b o (fun z=>hI b z q) e⟩
 ·rw[C.base.off b (hI' b q)]at e;cases e
 ·refine x12 F.loc fun m h1 h2=>?_
  exact⟨m,h1.at' fun o e=>hk _ o (fun q=>hI _ q (hfr _ (.inl rfl))) e,h2⟩
 ·refine x12 (F.cel x hx) fun c h1 h2=>?_
  exact⟨c,h1,jA h2 fun o e=>hk _ o (fun q=>hI _ q (hfc x c h1)) e⟩
 ·have r:=W i x e
  have hkk:∀b o,¬O' b->s.heap.get? b=some o->h'.get? b=some o:=fun b o n e=>hk b o (fun q=>n (hI' b q)) e
  have hww:∀b o,O b->s.heap.get? b=some o->O b:=fun b o q U=>q
  generalize ρ.getD i .un=y at r
  cases y with
  | dat d=>refine x12 r fun u e r=>?_;exact⟨u,e,(r.mono hkk fun U U U q=>q).weak hO⟩
  | own d =>
   obtain⟨a,vs,n,ds,e1,e2,e3,h1,h2⟩:=r
   exact⟨a,vs,n,ds,e1,e2,e3,hk _ _ (fun q=>hI _ q (hω a i e2)) h1,h2.mono hkk fun b o U q=>hO b q⟩
  | un=>trivial
  | val u=>exact r
  | dic l=>exact x13 r fun a e1 e2 r=>⟨a,e1,e2,r.at fun o=>hk a o fun q=>hI a q (hω a i e2)⟩
  | sor g =>
   refine x23 r fun u S e r hS=>?_
   refine⟨u,S,e,wf.srf g S s.heap h' u r (fun b o q e=>hk b o (fun z=>hI b z (hω b i (hS b q))) e) (fun b o q=>C.base.kp b o q) (fun b o q=>hk b o (fun z=>?_) (C.base.kp b o q)),hS⟩
   rw[C.base.off b (hI' b z)]at q;cases q
theorem wF:∀(slots:List Nat) (ds:List NR) (ρ:List SV) (i:Nat),i∉slots->(fR ρ slots ds).getD i .un=ρ.getD i .un
 | [],_,_,_,_=>rfl
 | _::_,[],_,_,_=>rfl
 | j::js,d::ds,ρ,i,h=>by
  rw[show fR ρ (j::js) (d::ds)=fR (ρ.set j (.dat d)) js ds from rfl,wF js ds _ i fun q=>h (ay _ q),dq]
  rw[if_neg fun z=>h (by rw[<- z.1];exact ag)]
theorem r0{tup:Bool}{slots:List Nat}{d:NR}{i:Nat}(h:i∉slots):(ao tup slots d ρ).getD i .un=ρ.getD i .un:=by
 unfold ao;split<;>exact wF _ _ _ _ h
theorem wG:∀(slots:List Nat) (ds:List NR) (ρ:List SV),(fR ρ slots ds).length=ρ.length
 | [],_,_=>rfl
 | _::_,[],_=>rfl
 | j::js,d::ds,ρ=>by rw[show fR ρ (j::js) (d::ds)=fR (ρ.set j (.dat d)) js ds from rfl,wG js ds];exact Nz
theorem Dp{tup:Bool}{slots:List Nat}{d:NR}:(ao tup slots d ρ).length=ρ.length:=by
 unfold ao;split<;>exact wG _ _ _
theorem wH{Q:NO->NL->Prop}(a:AccIs G O D s.heap ds)(hD:O D)(r:Rep O s.heap v d)(hl:ds.length<=16777216)
 (h:∀h',OQ D s.heap h'->AccIs G O D h' (ds++[d])->(∃vs n,IsL s.heap D vs n)->Q .none { s with heap:=h' }):NN (NP G.prog G.w) A (call (.builtin "list.append") [.ref D,v]) Q E s:=by
 obtain⟨vs,n,h1,h2⟩:=a
 have e:=h2.length
 rw[cD]at e
 refine append_at h1 (fun h' hs hD'=>h h' hs ⟨_,_,hD',?_⟩ ⟨vs,n,h1⟩) (by show vs.size<=O5;rw[e];exact hl)
 rw[Qx]
 have hk:∀b o,¬O b->s.heap.get? b=some o->h'.get? b=some o:=fun b o n e=>hs.extBut b o (fun q=>n (q▸hD)) e
 exact(h2.mono hk fun U U U q=>q).append (.cons (r.mono hk fun U U U q=>q) .nil)
inductive KI(M V:NQ->Prop)(s s':NL):Prop where
 | mk (h':N9) (t:Nat) (e:s'={ s with heap:=h',toks:=t }) (k:∀b o,¬M b->¬V b->s.heap.get? b=some o->h'.get? b=some o) (th:∀b o,¬V b->s.heap.get? b=some o->∃o',h'.get? b=some o'):KI M V s s'
theorem KI.km(k0:NX s₀ s)(hI:∀b,V b->s₀.heap.get? b=none)(k:KI M V s s'):KM M s₀ s':=by
 refine x22 k0 fun h1 t1 e2 g01=>?_;subst e2
 obtain⟨h2,t2,rfl,g12,th12⟩:=k
 have ne:∀b o,s₀.heap.get? b=some o->¬V b:=fun b o e q=>by rw[hI b q]at e;cases e
 exact⟨h2,t2,rfl,fun b o n e=>g12 b o n (ne b o e) (g01 b o e),fun b o e=>th12 b o (ne b o e) (g01 b o e)⟩
structure LoopSrc(prog:Ol)(w:Og)(A:N0)(tgt:Expr)(I:NQ)(V:NQ->Prop)(fp:List NQ)(n:Nat)(St:Nat->N9->Prop)(Pv:Nat->NO->N9->N9->Prop):Prop where
 frame:∀i h h',St i h->(∀b∈fp,∀o,h.get? b=some o->h'.get? b=some o)->St i h'
 item:∀i s (Q:Option NO->NL->Prop) E,i<n->St i s.heap->(∀v h₁ t,(∀(Q':Unit->NL->Prop) E',(∀h',St (i+1) h'->(∀b o,¬V b->s.heap.get? b=some o->h'.get? b=some o)->(∀b,V b->∃o,h'.get? b=some o)->Pv i v s.heap h'->Q' () { s with heap:=h',toks:=t }) ->
  NN (NP prog w) A (letOwnedTupleGo tgt (.ref I) v) Q' E' { s with heap:=h₁,toks:=t })->Q (some v) { s with heap:=h₁,toks:=t })->NN (NP prog w) A (PA (.ref I)) Q E s
 done:∀s (Q:Option NO->NL->Prop) E,St n s.heap->(∀h' t,(∀b o,¬V b->s.heap.get? b=some o->h'.get? b=some o)->Q none { s with heap:=h',toks:=t })->NN (NP prog w) A (PA (.ref I)) Q E s
 self:∀s (Q:NO->NL->Prop) E,St 0 s.heap->Q (.ref I) s->NN (NP prog w) A (pyIter (.ref I)) Q E s
theorem LoopSrc.of{prog:Ol}{w:Og}{tgt:Expr}{I:NQ}{fp:List NQ}{n:Nat}{St:Nat->N9->Prop}{P X:Nat->NO->Prop}(W:Walks prog w A I fp [I] n P St)(htame:∀i h',St i h'->∃o T,h'.get? I=some o/\o.cls=.type T/\jx T=true)(hit:∀i v,P i v->X i v) :
 LoopSrc prog w A tgt I (· = I) fp n St fun i v U U=>X i v where
 frame:=W.frame
 item:=fun i s Q E hi st h=>W.item i s Q E hi st fun v h' t hP st' hk=>h v h' t fun Q' E' h2=>by
  refine x23 (htame (i+1) h' st') fun oI TI hoI hcI htI=>?_
  exact pd hoI hcI htI (h2 h' st' (fun b o n e=>hk b o (by simpa using n) e) (fun b q=>q▸⟨oI,hoI⟩) (hit i v hP))
 done:=fun s Q E st h=>W.done s Q E st fun h' t hk=>h h' t fun b o n e=>hk b o (by simpa using n) e
 self:=fun s Q E st h=>W.self 0 s Q E st h
inductive ItG(prog:Ol)(w:Og)(A:N0)(tgt:Expr)(n:Nat)(Pv:Nat->NO->N9->N9->Prop)(h₀ h:N9)(it:NO):Prop where
 | mk (I:NQ) (V:NQ->Prop) (fp:List NQ) (St:Nat->N9->Prop) (e:it=.ref I) (W:LoopSrc prog w A tgt I V fp n St Pv) (st:St 0 h) (fe:∀b∈fp,∃o,h.get? b=some o) (sub:∀b,V b->b∈fp) (new:∀b,V b->h₀.get? b=none):ItG prog w A tgt n Pv h₀ h it
structure CI(G:Glo)(Re:Env)(sc:Scope)(Rc:List (Option Str))(A:N0)(O':NQ->Prop)(ω:NQ->Option Nat)(ρ:List SV)(D:NQ)(V:NQ->Prop)(s₁:NL)(St:N9->Prop)(ds:List NR)(s:NL):Prop where
 st:St s.heap
 C:Cond G Re sc Rc A O' ω ρ s
 a:AccIs G O' D s.heap ds
 k:KM (fun b=>MS Re D b\/V b) s₁ s
theorem wJ{α:Type}{elt tgt iter:Expr}{tests:List Expr}{gens:List Oz}{scope:Scope}{pos:Pos}{depth:Nat}{its:List α}{I:NQ}{V:NQ->Prop}{fp:List NQ}{St:Nat->N9->Prop}{Pv:Nat->NO->N9->N9->Prop}{R:Result->NL->Prop}
 {ρ':α->List SV} {T:α->Bool} {f:α->List NR} {Mh:NQ->Prop} {h₀:N9} (wf:G.Wf) (hz:iV gens=true) (hg:gens[depth]? = some ⟨tgt,iter,tests,0⟩)
 (C:Cond G Re sc Rc A (fun b=>O b\/V b) ω ρ s₁) (hω:∀b i,ω b=some i->O b) (hfr:∀b,ba Re b->O b) (hfc:∀x c,Re.cells.lookup x=some c->O c) (hnI:∀b,V b->¬O b)
 (hD:O D) (hDF:¬ba Re D) (acc:AccIs G (fun b=>O b\/V b) D s₁.heap ds)
 (W:LoopSrc G.prog G.w A tgt I V fp its.length St Pv) (hst:St 0 s₁.heap) (hfM:∀b∈fp,¬MS Re D b)
 (hM0:∀b o,h₀.get? b=some o->MS Re D b\/V b->Mh b) (k0:∀b o,¬Mh b->h₀.get? b=some o->s₁.heap.get? b=some o)
 (hρ:∀d∈its,(ρ' d).length=ρ.length/\∀j,ρ.getD j .un=.un\/ρ.getD j .un=(ρ' d).getD j .un)
 (hasg:∀i v h s,Pv i v h s.heap->(∀b,O b\/V b->∃o,h.get? b=some o)->(∀b o,¬Mh b->h₀.get? b=some o->s.heap.get? b=some o)->Cond G Re sc Rc A (fun b=>O b\/V b) ω ρ s ->
  ∃d,its[i]? = some d/\∀(Q:Unit->NL->Prop) E,(∀s',KM (ba Re) s s'->Cond G Re sc Rc A (fun b=>O b\/V b) ω (ρ' d) s'->Q () s')->NN (NP G.prog G.w) A (Ox tgt Re v) Q E s)
 (htest:∀d∈its,∀O' s E,(∀b o,¬Mh b->h₀.get? b=some o->s.heap.get? b=some o)->Cond G Re sc Rc A O' ω (ρ' d) s ->
  NN (NP G.prog G.w) A (forIn tests true fun c r=>if r=true then do let ok <- isTrue c Re (N6 c Re);pure (OF ok)else pure (OF r)) (fun b s'=>b=T d/\NX s s') E s)
 (hbody:∀d∈its,T d=true->∀O' ds' s k Q E,(∀b o,¬Mh b->h₀.get? b=some o->s.heap.get? b=some o)->Cond G Re sc Rc A O' ω (ρ' d) s->O' D->AccIs G O' D s.heap ds'->ds'.length+(f d).length<=16777216 ->
  (∀s',KM (MS Re D) s s'->Cond G Re sc Rc A O' ω (ρ' d) s'->AccIs G O' D s'.heap (ds'++f d)->NN (NP G.prog G.w) A k Q E s') ->
  NN (NP G.prog G.w) A (jB elt gens scope pos depth (.ref D) Re k) Q E s)
 (hlen:ds.length+(its.flatMap fun d=>if T d=true then f d else[]).length<=16777216)
 (hR:∀s',KI (MS Re D) V s₁ s'->Cond G Re sc Rc A O ω ρ s'->AccIs G O D s'.heap (ds++its.flatMap fun d=>if T d=true then f d else[])->R (.ok .next) s') :
 O3 (NP G.prog G.w) A (.compLoop (.ListComp elt gens scope pos) depth (.ref I) (.ref D) Re) R s₁:=by
 have hIf:∀b,V b->b∉hfp A:=fun b h q=>C.ok.hno b q (.inr h)
 have hDI:¬V D:=fun q=>hnI D q hD
 have hMO:∀b,MS Re D b->O b:=fun b q=>q.elim (hfr b) fun z=>z▸hD
 generalize hg':(fun d=>if T d=true then f d else[])=g at hlen hR
 refine codeAny_loop rfl (fun n s=>∃i,i<=its.length/\n=its.length+1 - i/\CI G Re sc Rc A (fun b=>O b\/V b) ω ρ D V s₁ (St i) (ds++(its.take i).flatMap g) s) ?_ (its.length+1) ⟨0,cj _,rfl,hst,C,by simpa using acc,KM.of (bk _)⟩
 rintro n s ⟨i,hi,rfl,hst,C1,a1,k1⟩
 show NN _ A ((compTurn (.ListComp elt gens scope pos) depth (.ref I) (.ref D) Re).onRaise (fun x=>do noteFrame x Re;theTreesLotGoes x)) _ _ s
 refine wpAny_noted ?_
 rw[Do hz hg]
 by_cases hlt:i<its.length
 ·refine NM (Od (NM (W.item i _ _ _ hlt hst fun v h₁ t₂ hgo=>?_)))
  refine NM (hgo _ _ fun h₂ hst₂ hk₂ hV₂ hP=>?_)
  have k2:KM V s { s with heap:=h₂,toks:=t₂ }:=⟨h₂,t₂,rfl,hk₂,fun b o e=>Classical.byCases (fun q:V b=>hV₂ b q) fun q=>⟨o,hk₂ b o q e⟩⟩
  have C2:=C1.side wf hω hfr hfc hnI (fun b q=>.inr q) k2
  have kept:∀b o,¬Mh b->h₀.get? b=some o->h₂.get? b=some o:=fun b o n e=>k2.get b o (fun q=>n (hM0 b o e (.inr q))) (k1.get b o (fun q=>n (hM0 b o e q)) (k0 b o n e))
  refine x12 (hasg i v _ { s with heap:=h₂,toks:=t₂ } hP C1.ok.obs kept C2) fun d hd hq=>?_
  have hmem:d∈its:=az hd
  have a2:AccIs G (fun b=>O b\/V b) D h₂ (ds++(its.take i).flatMap g):=a1.km k2 hDI fun b q=>.inr q
  refine NM (hq _ _ fun s3 k3 C3=>?_)
  have kept3:∀b o,¬Mh b->h₀.get? b=some o->s3.heap.get? b=some o:=fun b o n e=>k3.get b o (fun q=>n (hM0 b o e (.inl (.inl q)))) (kept b o n e)
  have a3:=a2.km k3 hDF fun b q=>.inl (hfr b q)
  refine NM (NS (htest d hmem _ s3 _ kept3 C3) (fun b s4 h4=>?_) fun U U x=>x)
  refine aj h4 fun e0 k4=>?_;subst e0
  have C4:=C3.keeps wf k4
  have a4:=a3.keeps k4
  have e1:its.take (i+1)=its.take i++[d]:=by rw[NB,hd];rfl
  have e2:(its.take (i+1)).flatMap g=(its.take i).flatMap g++g d:=by rw[e1,lO];simp
  have fin:∀s5,KM (MS Re D) s4 s5->Cond G Re sc Rc A (fun b=>O b\/V b) ω (ρ' d) s5->AccIs G (fun b=>O b\/V b) D s5.heap (ds++(its.take i).flatMap g++g d) ->
   ∃m,m<its.length+1 - i/\∃i,i<=its.length/\m=its.length+1 - i/\CI G Re sc Rc A (fun b=>O b\/V b) ω ρ D V s₁ (St i) (ds++(its.take i).flatMap g) s5:=by
   intro s5 k5 C5 a5
   refine⟨its.length+1 - (i+1),Nat.sub_lt_sub_left (qW hlt) (Nl i),i+1,hlt,rfl,?_,C5.weak (hρ d hmem).1.symm (hρ d hmem).2,by rw[e2,<- BB];exact a5,?_⟩
   ·refine W.frame _ _ _ hst₂ fun b hb o e=>?_
    exact k5.get b o (hfM b hb) (ai k4 b o (k3.get b o (fun q=>hfM b hb (.inl q)) e))
   ·exact((k1.trans (k2.mono fun b q=>.inr q)).trans ((k3.mono fun b q=>.inl (.inl q)).trans (KM.of k4))).trans (k5.mono fun b q=>.inl q)
  cases hT:T d with
  | false =>
   rw[if_neg MY]
   have hgd:g d=[]:=by rw[<- hg'];simp[hT]
   exact NU ⟨rfl,fin s4 (KM.of (bk _)) C4 (by rw[hgd,iK];exact a4)⟩
  | true =>
   rw[if_pos rfl]
   have hgd:g d=f d:=by rw[<- hg'];simp[hT]
   refine hbody d hmem hT _ _ s4 _ _ _ (fun b o n e=>ai k4 b o (kept3 b o n e)) C4 (.inl hD) a4 ?_ fun s5 k5 C5 a5=>NU ⟨rfl,fin s5 k5 C5 (by rw[hgd];exact a5)⟩
   have:((its.take (i+1)).flatMap g).length<=(its.flatMap g).length:=by
    conv=>rhs;rw[<- List.take_append_drop (i+1) its,lO,cb]
    exact Bx ..
   rw[e2,hgd,cb]at this
   rw[cb];exact ae (gZ (M8 ..)) (ae (nZ this _) hlen)
 ·have hin:i=its.length:=Nx hi (fG.mp hlt)
  subst hin
  refine NM (Od (NM (W.done _ _ _ hst fun h₂ t₂ hk=>NU ?_)))
  obtain⟨h2,t2,e12,g12,th12⟩:=k1
  subst e12
  refine hR _ ⟨h₂,t₂,rfl,fun b o n nI e=>?_,fun b o nI e=>?_⟩ (C1.shrink wf (fun b q=>.inl q) hω hfr hfc hnI (fun b q=>.inr q) hIf hk) ?_
  ·exact hk b o nI (g12 b o (fun q=>q.elim n nI) e)
  ·refine x11 (th12 b o e) fun o' e'=>?_
   exact⟨o',hk b o' nI e'⟩
  ·rw[Bw]at a1
   obtain⟨vs,n,l1,l2⟩:=a1
   exact⟨vs,n,hk _ _ hDI l1,l2.mono (fun b o n e=>hk b o (fun q=>n (.inr q)) e) fun b o U q=>.inl q⟩
theorem wK{Oh:NQ->Prop}{tgt:Expr}{tup:Bool}{slots:List Nat}{its:List NR}{h₀:N9}{i:Nat}{v:NO}(wf:G.Wf)(hsto:∀i∈slots,br Re Rc i)(htgt:fV tup slots sc Rc tgt=true)(hb:∀d∈its,bindP tup slots d)
 (hO1:∀b o,h₀.get? b=some o->O' b->Oh b) (hit:∃d,its[i]? = some d/\∀h',(∀b o,¬Oh b->h₀.get? b=some o->h'.get? b=some o)->Rep Oh h' v d)
 (kept:∀b o,¬Oh b->h₀.get? b=some o->s.heap.get? b=some o) (C:Cond G Re sc Rc A O' ω ρ s) :
 ∃d,its[i]? = some d/\∀(Q:Unit->NL->Prop) E,(∀s',KM (ba Re) s s'->Cond G Re sc Rc A O' ω (ao tup slots d ρ) s'->Q () s')->NN (NP G.prog G.w) A (Ox tgt Re v) Q E s:=by
 refine x12 hit fun d hd rd=>⟨d,hd,fun Q E h=>?_⟩
 exact wD wf hsto htgt C ((rd h₀ fun U U U e=>e).mono kept fun b o e q=>hO1 b o e q) (hb d (az hd)) h
theorem wL{tup:Bool}{slots:List Nat}{d:NR}(hsl:∀i∈slots,ρ.getD i .un=.un):(ao tup slots d ρ).length=ρ.length/\∀j,ρ.getD j .un=.un\/ρ.getD j .un=(ao tup slots d ρ).getD j .un :=
 ⟨Dp,fun j=>if q:j∈slots then .inl (hsl j q)else .inr (r0 q).symm⟩
end
noncomputable def cY:Nat->List (Str × Pj)->List (Str × NQ)
 | _,[]=>[]
 | n,(x,k)::r=>if k==.cell then(x,n)::cY (n+1) r else cY n r
theorem mB:cY n ((x,k)::r)=if k==.cell then(x,n)::cY (n+1) r else cY n r:=rfl
theorem ik:∀(names:List (Str × Pj)) (n:Nat) (acc:List (Str × NQ)),PG n names acc=(cY n names).reverse++acc
 | [],_,_=>rfl
 | (x,k)::r,n,acc=>by
  unfold PG;rw[mB]
  split
  ·rw[ik r,List.reverse_cons,BB];rfl
  ·exact ik r n acc
noncomputable def clo(cells:List (Str × NQ)):List (Str × Pj)->List (Str × NQ)
 | []=>[]
 | (x,k)::r=>if k==.free then(x,(cells.lookup x).getD 0)::clo cells r else clo cells r
theorem pj:clo cells ((x,k)::r)=if k==.free then(x,(cells.lookup x).getD 0)::clo cells r else clo cells r:=rfl
theorem wM(h:∀p∈scope.names,p.2=.free->(Re.cells.lookup p.1).isSome=true):closureFor scope Re=pure (clo Re.cells scope.names).reverse:=by
 have key:∀(names:List (Str × Pj)) (acc:List (Str × NQ)),(∀p∈names,p.2=.free->(Re.cells.lookup p.1).isSome=true) ->
  (forIn names acc fun x cs=>match x with | (name,kind)=>if(kind==Ow)=true then do let a <- cellOf Re name;pure (OF ((name,a)::cs))else pure (OF cs):Sem (List (Str × NQ)))=pure ((clo Re.cells names).reverse++acc):=by
  intro names
  induction names with
  | nil=>intro acc _;rfl
  | cons p r ih =>
   intro acc h
   obtain⟨x,k⟩:=p
   have hr:=fun p hp=>h p (ay _ hp)
   rw[NJ]
   by_cases hk:(k==Ow)=true
   ·have:=h (x,k) ag (by simpa using hk)
    refine x11 (Ng.mp this) fun c hc=>?_
    dsimp only at hc
    have hce:cellOf Re x=pure c:=by unfold cellOf;rw[hc]
    simp only[hk,if_true]
    rw[pj]
    rw[if_pos hk,hce,pure_bind,pure_bind]
    dsimp only
    rw[ih _ hr,hc,List.reverse_cons,BB];rfl
   ·simp only[qV]at hk
    simp only[hk,Nv,if_false,pure_bind]
    rw[pj]
    simp only[hk,Nv,if_false]
    exact ih acc hr
 unfold closureFor
 have:=key scope.names [] h
 rw[iK]at this
 simp only[bind_pure]
 exact this
theorem kC{α:Type}:∀ {l:List (Str × α)} {x:Str} {c:α},(l.map (·.1)).Nodup->(x,c)∈l->l.lookup x=some c:=fun{l}=>by
 induction l with
 | nil=>exact fun _ hm=>nomatch hm
 | cons p r ih =>
  intro x c hn hm
  obtain⟨y,d⟩:=p
  rw[aQ,bq]at hn
  rw[NG]
  rcases aa.mp hm with e | hm'
  ·cases e;simp
  ·have:(x==y)=false:=by
    rw[beq_eq_false_iff_ne];intro q
    exact hn.1 (aJ.mpr ⟨_,hm',q⟩)
   rw[this];exact ih hn.2 hm'
theorem jC{α:Type}:∀ {l:List (Str × α)} {x:Str} {c:α},(x,c)∈l->∃c',l.lookup x=some c':=fun{l}=>by
 induction l with
 | nil=>exact fun hm=>nomatch hm
 | cons p r ih =>
  intro x c hm
  obtain⟨y,d⟩:=p
  rw[NG]
  by_cases h:(x==y)=true
  ·rw[h];exact⟨_,rfl⟩
  ·simp only[qV]at h
   rw[h]
   rcases aa.mp hm with e | hm
   ·cases e;simp at h
   ·exact ih hm
theorem fv:∀ {names:List (Str × Pj)} {n:Nat} {x:Str} {c:NQ},(x,c)∈cY n names->@LE.le Nat _ n c/\(x,OT)∈names
 | (y,k)::r,n,x,c,h=>by
  rw[mB]at h
  split at h
  ·rename_i hk
   rcases aa.mp h with e | h
   ·cases e
    have:k=.cell:=by simpa using hk
    subst this
    exact⟨bM _,ag⟩
   ·have:=fv h
    exact⟨M9 this.1,ay _ this.2⟩
  ·have:=fv h
   exact⟨this.1,ay _ this.2⟩
theorem Dq:∀ {names:List (Str × Pj)} {n:Nat} {x y:Str} {c:NQ},(x,c)∈cY n names->(y,c)∈cY n names->x=y:=fun{names}=>by
 induction names with
 | nil=>exact fun h=>nomatch h
 | cons p r ih =>
  intro n x y c h1 h2
  obtain⟨z,k⟩:=p
  rw[mB]at h1 h2
  split at h1
  ·rename_i hk
   rw[if_pos hk]at h2
   rcases aa.mp h1 with e1 | q1<;>rcases aa.mp h2 with e2 | q2
   ·cases e1;cases e2;rfl
   ·cases e1;exact absurd (fv q2).1 (Nat.not_succ_le_self _)
   ·cases e2;exact absurd (fv q1).1 (Nat.not_succ_le_self _)
   ·exact ih q1 q2
  ·rename_i hk
   rw[if_neg hk]at h2
   exact ih h1 h2
theorem iW:∀ {names:List (Str × Pj)} {n:Nat} {x:Str},(x,OT)∈names->∃c,(x,c)∈cY n names
 | (y,k)::r,n,x,h=>by
  rw[mB]
  rcases aa.mp h with e | h
  ·cases e
   simp
  ·split
   ·refine x11 (iW (n:=n+1) h) fun c hc=>?_
    exact⟨c,ay _ hc⟩
   ·exact iW h
theorem wN:∀(names:List (Str × Pj)) (h:N9) (x:Str) (c:NQ),(x,c)∈cY h.objs.size names->(pushCells h names).IsCell c none:=fun names=>by
 induction names with
 | nil=>exact fun _ _ _ hm=>nomatch hm
 | cons p r ih =>
  intro h x c hm
  obtain⟨y,k⟩:=p
  rw[mB]at hm
  unfold pushCells
  split
  ·rename_i hk
   rw[if_pos hk]at hm
   rcases aa.mp hm with e | hm
   ·cases e
    exact⟨_,Qm r _ _ _ (NZ _ rfl),rfl⟩
   ·exact ih _ x c (by rw[ON];exact hm)
  ·rename_i hk
   rw[if_neg hk]at hm
   exact ih h x c hm
theorem mC:∀ {names:List (Str × Pj)} {x:Str} {c:NQ},(x,c)∈clo cells names->(x,Ow)∈names/\c=(cells.lookup x).getD 0
 | (y,k)::r,x,c,h=>by
  rw[pj]at h
  split at h
  ·rename_i hk
   rcases aa.mp h with e | h
   ·cases e
    have:k=.free:=by simpa using hk
    subst this
    exact⟨ag,rfl⟩
   ·exact⟨ay _ (mC h).1,(mC h).2⟩
  ·exact⟨ay _ (mC h).1,(mC h).2⟩
theorem Dr:∀ {names:List (Str × Pj)} {x:Str},(x,Ow)∈names->∃c,(x,c)∈clo cells names:=fun{names}=>by
 induction names with
 | nil=>exact fun h=>nomatch h
 | cons p r ih =>
  intro x h
  obtain⟨y,k⟩:=p
  rw[pj]
  rcases aa.mp h with e | h
  ·cases e;simp
  ·split
   ·refine x11 (ih h) fun c hc=>?_
    exact⟨c,ay _ hc⟩
   ·exact ih h
theorem Ds(hnd:(names.map (·.1)).Nodup)(hfree:∀x,(x,Ow)∈names->∃c,cells.lookup x=some c/\@LT.lt Nat _ c n)
 (hinj:∀x y c,cells.lookup x=some c->cells.lookup y=some c->x=y) :
 (∀x,names.lookup x=some .free->∃c,(PG n names (clo cells names).reverse).lookup x=some c/\cells.lookup x=some c) /\
 (∀x,names.lookup x=some .cell->∃c,(PG n names (clo cells names).reverse).lookup x=some c/\(x,c)∈cY n names) /\
 (∀x c,(PG n names (clo cells names).reverse).lookup x=some c->(x,c)∈cY n names\/(cells.lookup x=some c/\@LT.lt Nat _ c n/\(x,Ow)∈names)) /\
 (∀x y c,(PG n names (clo cells names).reverse).lookup x=some c->(PG n names (clo cells names).reverse).lookup y=some c->x=y):=by
 rw[ik]
 have hcl:∀x c,(x,c)∈(cY n names).reverse++(clo cells names).reverse->(x,c)∈cY n names\/(cells.lookup x=some c/\@LT.lt Nat _ c n/\(x,Ow)∈names):=by
  intro x c h
  rcases aI.mp h with h | h
  ·exact .inl (ot.mp h)
  ·refine aj (mC (ot.mp h)) fun h1 h2=>?_
   refine x12 (hfree x h1) fun c' e l=>?_
   rw[e]at h2
   subst h2
   exact .inr ⟨e,l,h1⟩
 refine⟨fun x hx=>?_,fun x hx=>?_,fun x c h=>?_,fun x y c h1 h2=>?_⟩
 ·have hm:=mem_of_lookup hx
  refine x11 (Dr (cells:=cells) hm) fun c hc=>?_
  refine x11 (jC (cG (cY n names).reverse (ot.mpr hc))) fun c' hc'=>?_
  refine⟨c',hc',?_⟩
  rcases hcl x c' (mem_of_lookup hc')with h | h
  ·have:=kC hnd (fv h).2
   rw[hx]at this;cases this
  ·exact h.1
 ·have hm:=mem_of_lookup hx
  refine x11 (iW (n:=n) hm) fun c hc=>?_
  refine x11 (jC (cQ (clo cells names).reverse (ot.mpr hc))) fun c' hc'=>?_
  refine⟨c',hc',?_⟩
  rcases hcl x c' (mem_of_lookup hc')with h | h
  ·exact h
  ·have:=kC hnd h.2.2
   rw[hx]at this;cases this
 ·rcases hcl x c (mem_of_lookup h)with h | h
  ·exact .inl h
  ·exact .inr h
 ·rcases hcl x c (mem_of_lookup h1)with h1 | h1<;>rcases hcl y c (mem_of_lookup h2)with h2 | h2
  ·exact Dq h1 h2
  ·exact absurd (fv h1).1 (Nat.not_le_of_lt h2.2.1)
  ·exact absurd (fv h2).1 (Nat.not_le_of_lt h1.2.1)
  ·exact hinj x y c h1.1 h2.1
theorem wO(F:Str × Pj->Str × Pj)(hF:∀p,(F p).1=p.1):∀(l:List (Str × Pj)) (x:Str),(l.map F).lookup x=(l.lookup x).map fun k=>(F (x,k)).2
 | [],_=>rfl
 | (y,k)::r,x=>by
  have h1:=hF (y,k)
  rw[aQ]
  rw[show F (y,k)=((F (y,k)).1,(F (y,k)).2)from rfl,h1,NG,NG]
  dsimp only
  by_cases h:(x==y)=true
  ·rw[h]
   have:x=y:=by simpa using h
   subst this;rfl
  ·simp only[qV]at h
   rw[h];exact wO F hF r x
theorem pn(sc scope:Scope)(x:Str):(cE sc scope).names.lookup x=(scope.names.lookup x).map fun k=>if(k==Ow&&sc.kind==Pw&&sc.names.lookup x==some OT)=true then OT else k:=by
 unfold cE
 rw[wO _ (fun p=>by split<;>rfl)]
 congr 1
 funext k
 split<;>rfl
theorem mD(h:(cX scope Rc vars)[i]? = some (some x)):(Rc[i]? = some (some x)/\scope.names.lookup x=some .free)\/(Rc.length<=i/\vars[i - Rc.length]? = some x):=by
 unfold cX at h
 by_cases hi:i<Rc.length
 ·rw[Na (by simpa using hi),cu]at h
  left
  cases e:Rc[i]? with
  | none=>rw[e]at h;simp at h
  | some o =>
   rw[e]at h
   cases o with
   | none=>simp at h
   | some y =>
    simp only[QB,Option.bind_some]at h
    by_cases hb:(scope.names.lookup y==some Ow)=true
    ·rw[if_pos hb]at h
     simp only[PW]at h
     subst h
     exact⟨rfl,by simpa using hb⟩
    ·rw[if_neg hb]at h;simp at h
 ·right
  rw[L9 (by simpa using hi),cu]at h
  simp only[af]at h
  refine⟨by lia,?_⟩
  cases e:vars[i - Rc.length]? with
  | none=>rw[e]at h;simp at h
  | some y=>rw[e]at h;simpa using h
theorem Dt:(cX scope Rc vars).length=Rc.length+vars.length:=by unfold cX;simp
theorem wP{l:List Str}{i j:Nat}{x:Str}(hn:l.Nodup)(h1:l[i]? = some x)(h2:l[j]? = some x):i=j :=
 x11 (dh.mp h1) fun l1 e1=>x11 (dh.mp h2) fun l2 e2=>(List.getElem_inj hn).mp (e1.trans e2.symm)
structure SOk(sc scope:Scope)(vars:List Str):Prop where
 kind:scope.kind=.function
 nd:(scope.names.map (·.1)).Nodup
 vnd:vars.Nodup
 free:∀x,(x,Ow)∈scope.names->(sc.names.lookup x=some .cell\/sc.names.lookup x=some .free)/\(x==ofString "__classdict__")=false
 var:∀x∈vars,scope.names.lookup x=some .local\/scope.names.lookup x=some .cell
theorem SOk.of(h:mx sc scope vars=true):SOk sc scope vars:=by
 unfold mx at h
 simp only[e7,decide_eq_true_eq,beq_iff_eq,bt,sg,bne_iff_ne,ne_eq]at h
 refine aj h fun z0 h5=>?_;refine aj z0 fun z0 h4=>?_;refine aj z0 fun z0 h3=>?_;obtain⟨h1,h2⟩:=z0
 refine⟨h1,h2,h3,fun x hx=>?_,h5⟩
 rcases h4 _ hx with q | ⟨q1,q2⟩
 ·exact absurd rfl q
 ·exact⟨q1,by simpa using q2⟩
section
variable{G:Glo}{Re:Env}{sc:Scope}{Rc:List (Option Str)}{A:N0}{O O':NQ->Prop}{ω:NQ->Option Nat}{ρ:List SV}{s s' s₀ s₁ s₂:NL}{E:NO->NL->Prop}{D:NQ}{ds:List NR}
noncomputable def jD(scope:Scope)(C:NQ)(Re:Env):Env:=compEnvC scope (PG (C+1) scope.names (clo Re.cells scope.names).reverse) C Re
theorem wQ{vars:List Str}{C:NQ}{t:Nat}(wf:G.Wf)(K:Cond G Re sc Rc A O ω ρ s₁)(so:SOk sc scope vars)(hC:C=h₃.objs.size)(k:NX s₁ { s₁ with heap:=h₃,toks:=t })
 (hO:∀b,O b->O' b) (hO2:∀b,O' b->O b\/s₁.heap.get? b=none) (hO3:∀b,O' b->∃o,(pushCells (h₃.push { cls:=.type "dict",data:=.dict #[] }) scope.names).get? b=some o) (hOC:O' C) (hOn:∀x c,(x,c)∈cY (C+1) scope.names->O' c) :
 Cond G (jD scope C Re) (cE sc scope) (cX scope Rc vars) A O' ω (ρ++cg vars.length .un) { s₁ with heap:=pushCells (h₃.push { cls:=.type "dict",data:=.dict #[] }) scope.names,toks:=t } /\
 ∀i,Rc.length<=i->br (jD scope C Re) (cX scope Rc vars) i:=by
 subst hC
 generalize hh4:pushCells (h₃.push { cls:=.type "dict",data:=.dict #[] }) scope.names=h₄ at hO3 ⊢
 have hk4:∀b o,h₃.get? b=some o->h₄.get? b=some o:=fun b o e=>hh4▸Qm _ _ b o (NV _ e)
 have k4:NX s₁ { s₁ with heap:=h₄,toks:=t }:=⟨h₄,t,rfl,fun b o e=>hk4 b o (ai k b o e)⟩
 have lt3:∀b o,s₁.heap.get? b=some o->b<h₃.objs.size:=fun b o e=>N3 (ai k b o e)
 have gr:=K.grow wf k4 hO hO2 hO3
 obtain⟨val,F,V⟩:=K.vars
 have cellAt:∀x,(x,Ow)∈scope.names->∃c,Re.cells.lookup x=some c/\s₁.heap.IsCell c (val x):=fun x hx =>
  F.cel x ((so.free x hx).1.imp (fun q=>(K.eo.kindOf x).trans q) fun q=>(K.eo.kindOf x).trans q)
 obtain⟨c1,c2,c3,c4⟩:=Ds (names:=scope.names) (cells:=Re.cells) (n:=h₃.objs.size+1) so.nd (fun x hx=>by
  obtain⟨c,e,o,q,_⟩:=cellAt x hx
  exact⟨c,e,qW (lt3 c o q)⟩) K.eo.inj
 have hsc:relabel scope Re=cE sc scope:=by
  unfold relabel cE
  rw[K.eo.scope]
  congr 1
  refine oA fun p U=>?_
  obtain⟨n,kd⟩:=p
  show(if(kd==Ow&&sc.kind==Pw&&Re.kindOf n==some OT)=true then _ else _)=_
  rw[K.eo.kindOf n]
 have kindOf:∀x,(jD scope h₃.objs.size Re).kindOf x=(cE sc scope).names.lookup x:=fun x=>by rw[<- hsc];rfl
 have look:∀x kd,(cE sc scope).names.lookup x=some kd->∃k0,scope.names.lookup x=some k0/\(kd=k0\/(k0=.free/\kd=.cell)):=fun x kd h=>by
  rw[pn]at h
  cases e:scope.names.lookup x with
  | none=>rw[e]at h;cases h
  | some k0 =>
   rw[e]at h
   simp only[QB,PW]at h
   refine⟨k0,rfl,?_⟩
   split at h
   ·rename_i hc
    simp only[e7,beq_iff_eq]at hc
    exact .inr ⟨hc.1.1,h.symm⟩
   ·exact .inl h.symm
 have keep:∀x,scope.names.lookup x=some .local\/scope.names.lookup x=some .cell->(cE sc scope).names.lookup x=scope.names.lookup x:=fun x h=>by
  rw[pn]
  rcases h with h | h<;>rw[h]<;>rfl
 have hlocals:(jD scope h₃.objs.size Re).locals=h₃.objs.size:=rfl
 have hns:h₄.Ns h₃.objs.size (fun U=>none):=hh4▸(Heap.Ns.new h₃ (.type "dict")).keeps (Qm _ _)
 have hcells:∀x c,(x,c)∈cY (h₃.objs.size+1) scope.names->h₄.IsCell c none:=fun x c hm=>hh4▸wN _ _ x c (by rw[ON];exact hm)
 refine⟨⟨⟨hsc,by show(cE sc scope).kind=_;exact so.kind,K.eo.globals,K.eo.builtins,fun x hx=>?_,fun x y c h1 h2=>c4 x y c h1 h2,fun x c h=>?_⟩,⟨fun i j x h1 h2=>?_,fun i x h=>?_⟩,by rw[Dt,cb,List.length_replicate,K.len],gr.ok,gr.base,fun b hb=>?_,fun x c h=>?_,fun b i e=>⟨hO b (K.om b i e).1,fun hb=>?_⟩,
  fun x=>if scope.names.lookup x=some .free then val x else none,⟨⟨_,hns,fun x hx=>?_⟩,fun x hx=>?_⟩,fun i x h=>?_⟩,fun i hi x c h1 h2 h3=>?_⟩
 ·refine x12 (look x _ hx) fun k0 e q=>?_
  rcases q with rfl | ⟨rfl,q⟩
  ·exact(so.free x (mem_of_lookup e)).2
  ·cases q
 ·rcases c3 x c h with h | h
  ·left
   have:=kC so.nd (fv h).2
   rw[keep x (.inr this)];exact this
  ·have:=kC so.nd h.2.2
   rw[pn,this]
   simp only[QB,PW]
   split
   ·exact .inl rfl
   ·exact .inr rfl
 ·rcases mD h1 with⟨a1,b1⟩ | ⟨a1,b1⟩<;>rcases mD h2 with⟨a2,b2⟩ | ⟨a2,b2⟩
  ·exact K.co.inj i j x a1 a2
  ·rcases so.var x (az b2)with q | q<;>rw[b1]at q<;>cases q
  ·rcases so.var x (az b1)with q | q<;>rw[b2]at q<;>cases q
  ·refine x11 (dh.mp b1) fun l1 e1=>?_
   refine x11 (dh.mp b2) fun l2 e2=>?_
   have:=wP so.vnd b1 b2
   lia
 ·rcases mD h with⟨a1,b1⟩ | ⟨a1,b1⟩
  ·right
   rw[pn,b1]
   simp only[QB,PW]
   split
   ·exact .inl rfl
   ·exact .inr rfl
  ·rcases so.var x (az b1)with q | q
   ·left;rw[keep x (.inl q)];exact q
   ·right;left;rw[keep x (.inr q)];exact q
 ·rcases hb with rfl | ⟨_,x,_,h⟩
  ·exact hOC
  ·rcases c3 x b h with h | h
   ·exact hOn x b h
   ·exact hO b (K.fc x b h.1)
 ·rcases c3 x c h with h | h
  ·exact hOn x c h
  ·exact hO c (K.fc x c h.1)
 ·refine x11 (K.ok.obs b (K.om b i e).1) fun o q=>?_
  have hl:=lt3 b o q
  rcases hb with rfl | ⟨x,h⟩
  ·exact bj _ hl
  ·rcases c3 x b h with h | h
   ·exact fG.mpr (M9 (fv h).1) hl
   ·exact(K.om b i e).2 (.inr ⟨x,h.1⟩)
 ·rw[kindOf]at hx
  refine x12 (look x _ hx) fun k0 e q=>?_
  rcases q with rfl | ⟨_,q⟩
  ·rw[e];simp
  ·cases q
 ·simp only[kindOf]at hx
  have hx':scope.names.lookup x=some .cell\/scope.names.lookup x=some .free:=by
   rcases hx with hx | hx
   ·refine x12 (look x _ hx) fun k0 e q=>?_
    rcases q with rfl | ⟨rfl,q⟩
    ·exact .inl e
    ·exact .inr e
   ·refine x12 (look x _ hx) fun k0 e q=>?_
    rcases q with rfl | ⟨rfl,q⟩
    ·exact .inr e
    ·cases q
  rcases hx' with hx' | hx'
  ·refine x12 (c2 x hx') fun c e1 e2=>?_
   refine⟨c,e1,?_⟩
   rw[hx',if_neg (by decide)]
   exact hcells x c e2
  ·refine x12 (c1 x hx') fun c e1 e2=>?_
   refine⟨c,e1,?_⟩
   rw[hx',if_pos rfl]
   refine x12 (cellAt x (mem_of_lookup hx')) fun c' e3 e4=>?_
   rw[e2]at e3;cases e3
   exact e4.keeps (ai k4)
 ·dsimp only
  rcases mD h with⟨a1,b1⟩ | ⟨a1,b1⟩
  ·rw[b1,if_pos rfl]
   have hi:i<ρ.length:=by rw[K.len];exact(dh.mp a1).1
   have:(ρ++cg vars.length SV.un).getD i .un=ρ.getD i .un:=by
    rw[av,av,Na hi]
   rw[this]
   exact(V i x a1).grow wf K.base (ai k4) hO2
  ·have:(ρ++cg vars.length SV.un).getD i .un=.un:=by
    rw[av,L9 (by rw[K.len];exact a1),List.getElem?_replicate]
    split<;>rfl
   rw[this];trivial
 ·rw[kindOf]at h2
  rcases mD h1 with⟨a1,b1⟩ | ⟨a1,b1⟩
  ·exact absurd (dh.mp a1).1 (by lia)
  ·have:scope.names.lookup x=some .cell:=by
    rcases so.var x (az b1)with q | q
    ·rw[keep x (.inl q),q]at h2;cases h2
    ·exact q
   refine x12 (c2 x this) fun c' e1 e2=>?_
   have h3':(PG (h₃.objs.size+1) scope.names (clo Re.cells scope.names).reverse).lookup x=some c:=h3
   rw[e1]at h3';cases h3'
   exact(fv e2).1
theorem pp(h:fW e=true):foldedSetIterable e Re x=pure x:=by
 cases e<;>first | rfl | exact absurd h MY
theorem Du{M:Model}{scope:Scope}{globals:NQ}{cl:List (Str × NQ)}{qual:Str}{Q:Env->NL->Prop}
 (h:Q (newEnv scope s.heap.objs.size globals (PG (s.heap.objs.size+1) scope.names cl) qual none .none (some Re) Qd) { s with heap:=pushCells (s.heap.push { cls:=.type "dict",data:=.dict #[] }) scope.names }) :
 NN M A (newFunctionEnv scope globals cl [] qual none .none (some Re)) Q E s:=by
 simp only[newFunctionEnv,Option.isSome_some,if_true]
 refine NM (wpAny_alloc ?_)
 refine NM (wpAny_layCells _ (fun name kind cells=>by cases hkc:kind==OT<;>simp) _ _ _ _ ?_)
 rw[show({ s with heap:=s.heap.push { cls:=.type "dict",data:=.dict #[] } }:NL).heap.objs.size=s.heap.objs.size+1 from ON ..]
 rw[List.forIn_nil]
 exact NM (NU (NU h))
theorem ItIs.toG{tgt:Expr}(x:ItIs prog w A O F h₀ h it ds) :
 ItG prog w A tgt ds.length (fun i v U U=>∃d,ds[i]? = some d/\∀h',(∀b o,¬O b->h₀.get? b=some o->h'.get? b=some o)->Rep O h' v d) h₀ h it:=by
 obtain⟨I,fp,wr,P,St,rfl,W,hst,hfp,⟨rfl,hI⟩,_,htame,hIfp,hit⟩:=x
 exact⟨I,_,fp,St,rfl,LoopSrc.of W htame hit,hst,hfp,fun b q=>q▸hIfp,fun b q=>q▸hI⟩
theorem wR{α:Type}{use:Option (NO->Sem Unit)}{pos':Pos}{Q:NO->NL->Prop}{elt tgt iter:Expr}{tests:List Expr}{gs:List Oz}{scope:Scope}{pos:Pos}{its:List α}{vars:List Str}{ρ':α->List SV}{T:α->Bool}{f:α->List NR}
 (wf:G.Wf) (K:Cond G Re sc Rc A O ω ρ s) (hz:iV (⟨tgt,iter,tests,0⟩::gs)=true) (hns:fW iter=true) (so:SOk sc scope vars)
 (hI:∀E,NN (NP G.prog G.w) A (N6 iter Re) (fun x s₁=>NX s s₁/\∀E,NN (NP G.prog G.w) A (pyIter x) (fun it s₂=>NX s₁ s₂/\∃Pv,ItG G.prog G.w A tgt its.length Pv s₁.heap s₂.heap it /\
  ∀O',(∀b o,s₁.heap.get? b=some o->O' b->O b)->∀Re i v h s,(∀i,Rc.length<=i->br Re (cX scope Rc vars) i)->Pv i v h s.heap->(∀b,O' b->∃o,h.get? b=some o)->(∀b o,s₁.heap.get? b=some o->s.heap.get? b=some o) ->
   Cond G Re (cE sc scope) (cX scope Rc vars) A O' ω (ρ++cg vars.length .un) s ->
   ∃d,its[i]? = some d/\∀(Q:Unit->NL->Prop) E,(∀s',KM (ba Re) s s'->Cond G Re (cE sc scope) (cX scope Rc vars) A O' ω (ρ' d) s'->Q () s')->NN (NP G.prog G.w) A (Ox tgt Re v) Q E s) E s₁) E s)
 (hρ:∀d∈its,(ρ' d).length=(ρ++cg vars.length SV.un).length/\∀j,(ρ++cg vars.length SV.un).getD j .un=.un\/(ρ++cg vars.length SV.un).getD j .un=(ρ' d).getD j .un)
 (htest:∀d∈its,∀env' O' s' E,(∀b o,s.heap.get? b=some o->s'.heap.get? b=some o)->Cond G env' (cE sc scope) (cX scope Rc vars) A O' ω (ρ' d) s' ->
  NN (NP G.prog G.w) A (forIn tests true fun c r=>if r=true then do let ok <- isTrue c env' (N6 c env');pure (OF ok)else pure (OF r)) (fun b s''=>b=T d/\NX s' s'') E s')
 (hbody:∀d∈its,T d=true->∀env' D O' ds' s₁ k Q E,(∀i,Rc.length<=i->br env' (cX scope Rc vars) i)->(∀b o,s.heap.get? b=some o->s₁.heap.get? b=some o)->Cond G env' (cE sc scope) (cX scope Rc vars) A O' ω (ρ' d) s₁ ->
  O' D->¬ba env' D->(∀i,ω D≠some i)->AccIs G O' D s₁.heap ds'->ds'.length+(f d).length<=16777216 ->
  (∀s',KM (MS env' D) s₁ s'->Cond G env' (cE sc scope) (cX scope Rc vars) A O' ω (ρ' d) s'->AccIs G O' D s'.heap (ds'++f d)->NN (NP G.prog G.w) A k Q E s') ->
  NN (NP G.prog G.w) A (jB elt (⟨tgt,iter,tests,0⟩::gs) scope pos 0 (.ref D) env' k) Q E s₁)
 (hlen:(its.flatMap fun d=>if T d=true then f d else[]).length<=16777216)
 (hfin:∀(D C:NQ) s' m,NX s s'->s.heap.get? C=none->s.heap.get? D=none->D≠C->s'.heap.Ns C m->Rep (fun b=>O b\/b=C) s'.heap (.ref D) (.list (its.flatMap fun d=>if T d=true then f d else[]))->compPost (NP G.prog G.w) A E use Q (.ref D) C (.ok .next) s') :
 NN (NP G.prog G.w) A (comprehension (.ListComp elt (⟨tgt,iter,tests,0⟩::gs) scope pos) scope Re pos' (newList []) false (N6 iter Re) use) Q E s:=by
 have hclos:closureFor scope Re=pure (clo Re.cells scope.names).reverse:=wM fun p hp hk=>by
  obtain⟨val,F,V⟩:=K.vars
  obtain⟨x,kd⟩:=p
  dsimp only at hk;subst hk
  refine x12 (F.cel x ((so.free x hp).1.imp (fun q=>(K.eo.kindOf x).trans q) fun q=>(K.eo.kindOf x).trans q)) fun c e U=>?_
  exact Ng.mpr ⟨c,e⟩
 refine wpAny_comprehension_free (use:=use) (g:=⟨tgt,iter,tests,0⟩) (gs:=gs) rfl (fun x=>pp hns) hclos so.kind (fun x hx hl=>by
  obtain⟨y,kd⟩:=x
  dsimp only at hl ⊢;subst hl
  exact kC so.nd hx) (NS (hI E) (fun x s₁ h₁=>?_) fun U U e=>e)
 refine aj h₁ fun k01 h₁=>?_
 refine NS (h₁ E) (fun it s₂ h₂=>?_) fun U U e=>e
 obtain⟨k12,Pv,⟨I,Vs,fp,St,rfl,W,hst,hfp,hsub,hnw⟩,hasg⟩:=h₂
 have K1:=K.keeps wf k01
 refine O7 (Du ?_) (by size_fits)
 refine x22 k12 fun h2 t2 e2 g12=>?_;subst e2
 dsimp only at hst hfp ⊢
 have hfp':=hfp
 replace hfp:∀b∈fp,b<h2.objs.size:=fun b hb=>(hfp b hb).elim fun U e=>N3 e
 generalize hh3:h2.push { cls:=.type "list",dict:=none,data:=.seq ([]:List NO).toArray }=h3
 have hsz3:h3.objs.size=h2.objs.size+1:=by rw[<- hh3,ON]
 have g23:∀b o,h2.get? b=some o->h3.get? b=some o:=fun b o e=>hh3▸NV _ e
 have hD3:IsL h3 h2.objs.size #[] 0:=hh3▸NZ _ rfl
 generalize hh4:pushCells (h3.push { cls:=.type "dict",data:=.dict #[] }) scope.names=h4
 have g34:∀b o,h3.get? b=some o->h4.get? b=some o:=fun b o e=>hh4▸Qm _ _ b o (NV _ e)
 have g14:∀b o,s₁.heap.get? b=some o->h4.get? b=some o:=fun b o e=>g34 b o (g23 b o (g12 b o e))
 have old:∀b o,s₁.heap.get? b=some o->b<h2.objs.size:=fun b o e=>N3 (g12 b o e)
 have fresh:∀b,@LE.le Nat _ h2.objs.size b->s₁.heap.get? b=none:=fun b hb=>by
  cases e:s₁.heap.get? b with
  | none=>rfl
  | some o=>exact absurd (old b o e) (fG.mpr hb)
 let Ob:NQ->Prop:=fun b=>O b\/b=h2.objs.size\/b=h3.objs.size\/∃x,(x,b)∈cY (h3.objs.size+1) scope.names
 have hOb:∀b,Ob b->O b\/@LE.le Nat _ h2.objs.size b:=fun b q=>by
  rcases q with q | rfl | rfl | ⟨x,q⟩
  ·exact .inl q
  ·exact .inr (bM _)
  ·exact .inr (by rw[hsz3];exact oF _)
  ·have:=(fv q).1
   rw[hsz3]at this
   exact .inr (M9 (M9 this))
 have hOb4:∀b,Ob b->∃o,h4.get? b=some o:=fun b q=>by
  rcases q with q | rfl | rfl | ⟨x,q⟩
  ·refine x11 (K1.ok.obs b q) fun o e=>?_;exact⟨o,g14 b o e⟩
  ·exact⟨_,g34 _ _ hD3⟩
  ·exact⟨_,hh4▸Qm _ _ _ _ (NZ _ rfl)⟩
  ·refine x12 (wN scope.names (h3.push { cls:=.type "dict",data:=.dict #[] }) x b (by rw[ON];exact q)) fun o e U=>?_
   exact⟨o,hh4▸e⟩
 have hnI:∀b,Vs b->¬Ob b:=fun b z q=>by
  rcases hOb b q with q | q
  ·refine x11 (K1.ok.obs b q) fun o e=>?_;rw[hnw b z]at e;cases e
  ·exact fG.mpr q (hfp b (hsub b z))
 have hfp4:∀b,Vs b->∃o,h4.get? b=some o:=fun b z=>(hfp' b (hsub b z)).elim fun o e=>⟨o,g34 _ _ (g23 _ _ e)⟩
 have k13:NX s₁ { s₁ with heap:=h3,toks:=t2 }:=⟨h3,t2,rfl,fun b o e=>g23 b o (g12 b o e)⟩
 have C0:=wQ (O':=Ob) (h₃:=h3) (t:=t2) wf K1 so rfl k13 (fun b q=>.inl q) (fun b q=>(hOb b q).imp id (fresh b)) (by rw[hh4];exact hOb4) (.inr (.inr (.inl rfl))) fun x c q=>.inr (.inr (.inr ⟨x,q⟩))
 have C1:=wQ (O':=fun b=>Ob b\/Vs b) (h₃:=h3) (t:=t2) wf K1 so rfl k13 (fun b q=>.inl (.inl q)) (fun b q=>q.elim (fun q=>(hOb b q).imp id (fresh b)) fun q=>.inr (hnw b q)) (fun b q=>by
  rw[hh4]
  exact q.elim (hOb4 b) (hfp4 b)) (.inl (.inr (.inr (.inl rfl)))) fun x c q=>.inl (.inr (.inr (.inr ⟨x,q⟩)))
 rw[hh4]at C0 C1
 have hMSge:∀b,MS (jD scope h3.objs.size Re) h2.objs.size b->@LE.le Nat _ h2.objs.size b:=fun b q=>by
  rcases q with(rfl | ⟨q,_⟩) | rfl
  ·show @LE.le Nat _ h2.objs.size h3.objs.size;rw[hsz3];exact oF _
  ·have q : @LT.lt Nat _ h3.objs.size b:=q
   rw[hsz3]at q;exact M9 (NC q)
  ·exact bM _
 have hDF:¬ba (jD scope h3.objs.size Re) h2.objs.size:=fun q=>by
  rcases q with q | ⟨q,_⟩
  ·have q:h2.objs.size=h3.objs.size:=q
   rw[hsz3]at q;exact nz (Nl _) q
  ·have q : @LT.lt Nat _ h3.objs.size h2.objs.size:=q
   rw[hsz3]at q;exact fG.mpr (oF _) q
 have hDw:∀i,ω h2.objs.size≠some i:=fun i e=>by
  refine x11 (K1.ok.obs _ (K1.om _ i e).1) fun o q=>?_
  exact bj _ (old _ o q)
 have loop:O3 (NP G.prog G.w) A (.compLoop (.ListComp elt (⟨tgt,iter,tests,0⟩::gs) scope pos) 0 (.ref I) (.ref h2.objs.size) (jD scope h3.objs.size Re))
  (compPost (NP G.prog G.w) A E use Q (.ref h2.objs.size) h3.objs.size) { s₁ with heap:=h4,toks:=t2 }:=by
  refine wJ (O:=Ob) (Mh:=fun U=>False) (h₀:=s₁.heap) (ds:=[]) wf hz rfl C1.1 (fun b i e=>(C0.1.om b i e).1) C0.1.fr C0.1.fc hnI (.inr (.inl rfl)) hDF ⟨#[],0,g34 _ _ hD3,.nil⟩
   W (W.frame _ _ _ hst fun b U o e=>g34 b o (g23 b o e)) (fun b hb q=>fG.mpr (hMSge b q) (hfp b hb))
   (fun b o e q=>q.elim (fun z=>fG.mpr (hMSge b z) (old b o e)) fun z=>by rw[hnw b z]at e;cases e) (fun b o U e=>g14 b o e) hρ
   (fun i v h s hP hO' kept C=>hasg _ (fun b o e q=>q.elim (fun q=>(hOb b q).elim id fun z=>absurd (old b o e) (fG.mpr z)) fun z=>by rw[hnw b z]at e;cases e) _ i v h s C1.2 hP hO' (fun b o e=>kept b o id e) C)
   (fun d hd O' s E g C=>htest d hd _ O' s E (fun b o e=>g b o id (ai k01 b o e)) C) (fun d hd hT O' ds' s k Q E g C hD a hl hk=>hbody d hd hT _ _ O' ds' s k Q E C1.2 (fun b o e=>g b o id (ai k01 b o e)) C hD hDF hDw a hl hk) (by simpa using hlen) ?_
  intro s' ki C a
  obtain⟨val,F,V⟩:=C.vars
  refine x12 F.loc fun m hm U=>?_
  obtain⟨vs,n,l1,l2⟩:=a
  obtain⟨h5,t5,rfl,g45,_⟩:=ki
  have hDC:h2.objs.size≠h3.objs.size:=by rw[hsz3];exact nz (Nl _)
  have kk:NX s₁ { s₁ with heap:=h5,toks:=t5 }:=⟨h5,t5,rfl,fun b o e=>by
   have hb:=old b o e
   refine g45 b o (fun q=>fG.mpr (hMSge b q) hb) (fun q=>?_) (g14 b o e)
   rw[hnw b q]at e;cases e⟩
  refine hfin h2.objs.size h3.objs.size _ m (aO k01 kk) ?_ ?_ hDC hm (.list (n:=n) (fun q=>?_) l1 ?_)
  ·cases e:s.heap.get? h3.objs.size with
   | none=>rfl
   | some o =>
    have:=old _ o (ai k01 _ o e)
    rw[hsz3]at this
    exact absurd this (fG.mpr (oF _))
  ·cases e:s.heap.get? h2.objs.size with
   | none=>rfl
   | some o=>exact absurd (old _ o (ai k01 _ o e)) (bj _)
  ·rcases q with q | q
   ·refine x11 (K1.ok.obs _ q) fun o e=>?_
    exact bj _ (old _ o e)
   ·exact hDC q
  ·rw[List.nil_append]at l2
   exact l2.mono (fun b o n e=>e) fun b o U q=>q.elim .inl fun q=>.inr (.inr (.inl q))
 exact wE rfl loop fun E=>W.self _ _ _ (W.frame _ _ _ hst fun b U o e=>g34 b o (g23 b o e)) loop
theorem Dv(k:NX s s')(hC:s.heap.get? C=none)(hm:s'.heap.Ns C m)(r:Rep (fun b=>O b\/b=C) s'.heap (.ref D) d)(hQ:∀v s',PV O s d v s'->Q v s') :
 compPost (NP G.prog G.w) A E none Q (.ref D) C (.ok .next) s':=by
 refine⟨m,hm,fun h' hs'=>hQ _ _ ⟨?_,r.mono (fun b o n e=>hs'.extBut b o (fun q=>n (.inr q)) e) fun b o U q=>.inl q⟩⟩
 refine x22 k fun h1 t1 e2 g=>?_;subst e2
 exact⟨h',t1,rfl,fun b o e=>hs'.extBut b o (fun q=>by rw[q,hC]at e;cases e) (g b o e)⟩
theorem Dw{use:NO->Sem Unit}{Q:NO->NL->Prop}{D C:NQ}{d:NR}{ρ':List SV}(wf:G.Wf)(K:Cond G Re sc Rc A O ω ρ s)(k:NX s s')(hC:s.heap.get? C=none)(hm:s'.heap.Ns C m)
 (r:Rep (fun b=>O b\/b=C) s'.heap (.ref D) d)
 (huse:∀O' v s' E Q',Cond G Re sc Rc A O' ω ρ s'->Rep O' s'.heap v d->(∀s'',KM (ba Re) s' s''->Cond G Re sc Rc A O' ω ρ' s''->Q' () s'')->NN (NP G.prog G.w) A (use v) Q' E s')
 (hQ:∀s',KM (ba Re) s s'->Cond G Re sc Rc A O ω ρ' s'->Q .none s') :
 compPost (NP G.prog G.w) A E (some use) Q (.ref D) C (.ok .next) s':=by
 have hCO:¬O C:=fun q=>by refine x11 (K.ok.obs C q) fun o e=>?_;rw[hC]at e;cases e
 have K':Cond G Re sc Rc A (fun b=>O b\/b=C) ω ρ s':=K.grow wf k (fun b q=>.inl q) (fun b q=>by
  rcases q with q | rfl
  ·exact .inl q
  ·exact .inr hC) fun b q=>by
  rcases q with q | rfl
  ·refine x11 (K.ok.obs b q) fun o e=>?_;exact⟨o,ai k b o e⟩
  ·refine x32 hm fun o U U e U=>?_;exact⟨o,e⟩
 show NN _ A (use (.ref D)) _ E s'
 refine huse _ _ s' _ _ K' r fun s'' ku K''=>?_
 have hCF:¬ba Re C:=fun q=>hCO (K.fr C q)
 refine x33 hm fun o es ep e hd hr=>?_
 refine⟨m,⟨o,es,ep,ku.get _ o hCF e,hd,hr⟩,fun h' hs'=>?_⟩
 have hk:∀b o,b≠C->s''.heap.get? b=some o->h'.get? b=some o:=fun b o n e=>hs'.extBut b o n e
 refine hQ _ ?_ ((K''.shrink (V:=(· = C)) (t:=s''.toks) wf (fun b q=>.inl q) (fun b i e=>(K.om b i e).1) K.fr K.fc (fun b q=>q▸hCO) (fun b q=>.inr q) (fun b z q=>?_) hk))
 ·refine x22 k fun h1 t1 e2 g1=>?_;subst e2
  obtain⟨h2,t2,rfl,g2,th2⟩:=ku
  have ne:∀b o,s.heap.get? b=some o->b≠C:=fun b o e q=>by rw[q,hC]at e;cases e
  exact⟨h',t2,rfl,fun b o n e=>hk b o (ne b o e) (g2 b o n (g1 b o e)),fun b o e=>by
   refine x11 (th2 b o (g1 b o e)) fun o' e'=>?_
   exact⟨o',hk b o' (ne b o e) e'⟩⟩
 ·refine x11 (K.ok.hok.there b q) fun o e=>?_
  rw[z,hC]at e;cases e
end
noncomputable def iX(t:Bool)(O:NQ->Prop)(h:N9)(v:NO)(d:NR):Prop:=if t=true then a8 O h v d else Rep O h v d
theorem iX.of(r:Rep O h v d):iX t O h v d:=by
 unfold iX;split
 ·exact .of r
 ·exact r
theorem iX.tt(r:iX true O h v d):a8 O h v d:=r
theorem iX.ff(r:iX false O h v d):Rep O h v d:=r
noncomputable abbrev ck(t:Bool)(O:NQ->Prop)(s:NL)(d:NR):NO->NL->Prop:=fun v s'=>NX s s'/\iX t O s'.heap v d
section
variable(G:Glo)(Φ:List FEntry)
noncomputable def aV(e:IX):Prop:=∀sc Rc ast t Re A O ω ρ s E,chk Φ e sc Rc ast=true->Cond G Re sc Rc A O ω ρ s->aK (kx Φ e) A->pre Φ e t ρ->NN (NP G.prog G.w) A (N6 ast Re) (ck t O s (den Φ e ρ)) E s
noncomputable def du(e:IX):Prop:=∀sc Rc ast Re A O ω ρ s E,chk Φ e sc Rc ast=true->Cond G Re sc Rc A O ω ρ s->aK (kx Φ e) A->pre Φ e false ρ->ec (den Φ e ρ)=true->NN (NP G.prog G.w) A (isTrue ast Re (N6 ast Re)) (PB s (aq (den Φ e ρ))) E s
noncomputable def iY(e:IX):Prop:=∀sc Rc asts Re A O ω ρ s E,ca Φ e sc Rc asts=true->Cond G Re sc Rc A O ω ρ s->aK (kx Φ e) A->eH Φ e ρ->NN (NP G.prog G.w) A (spliced (asts.map fun a=>(false,N6 a Re))) (fun vs s'=>NX s s'/\RepL O s'.heap vs (bL Φ e ρ)) E s
noncomputable def kD(e:IX):Prop:=∀sc Rc oe Re A O ω ρ s E,jy Φ e sc Rc oe=true->Cond G Re sc Rc A O ω ρ s->aK (kx Φ e) A->pg Φ e ρ->NN (NP G.prog G.w) A (evalPart oe Re) (PV O s (dS Φ e ρ)) E s
noncomputable def mE(e:IX):Prop:=∀o sc Rc asts Re A O ω ρ s E pos,ca Φ e sc Rc asts=true->Cond G Re sc Rc A O ω ρ s->aK (kx Φ e) A->mv Φ o e ρ->NN (NP G.prog G.w) A (boolOp pos (ib o) (evalEach asts Re)) (PV O s (fS Φ o e ρ)) E s
noncomputable def mG(e:IX):Prop:=∀o sc Rc asts Re A O ω ρ s E,ca Φ e sc Rc asts=true->Cond G Re sc Rc A O ω ρ s->aK (kx Φ e) A->mv Φ o e ρ->ec (fS Φ o e ρ)=true->NN (NP G.prog G.w) A (allTrue (ib o) asts Re) (PB s (aq (fS Φ o e ρ))) E s
noncomputable def iZ(e:IX):Prop:=∀sc Rc asts Re A O ω ρ s E,ca Φ e sc Rc asts=true->Cond G Re sc Rc A O ω ρ s->aK (kx Φ e) A->kB Φ e ρ ->
 NN (NP G.prog G.w) A (forIn asts true fun c r=>if r=true then do let ok <- isTrue c Re (N6 c Re);pure (OF ok)else pure (OF r)) (fun b s'=>b=dH Φ e ρ/\NX s s') E s
noncomputable def gD(e:IX):Prop:=∀sc Rc ast t Re A O ω ρ s E,eS Φ e sc Rc ast=true->Cond G Re sc Rc A O ω ρ s->aK (kx Φ e) A->gw Φ e t ρ ->
 NN (NP G.prog G.w) A (N6 ast Re) (fun x s₁=>NX s s₁/\∀E,NN (NP G.prog G.w) A (pyIter x) (fun it s₂=>NX s₁ s₂/\ItIs G.prog G.w A O (t=false) s₁.heap s₂.heap it (bX Φ e ρ)) E s₁) E s
noncomputable def i0(e:IX):Prop:=∀sc Rc elt gens scope pos depth Re A O ω ρ s E D ds k Q,gy Φ e sc Rc (gens.drop (depth+1)) elt=true->iV gens=true->Cond G Re sc Rc A O ω ρ s->O D->¬ba Re D->(∀i,ω D≠some i)->(∀i∈gx e,ρ.getD i .un=.un/\br Re Rc i)->(gx e).Nodup ->
 aK (kx Φ e) A->mw Φ e ρ->AccIs G O D s.heap ds->ds.length+(ft Φ e ρ).length<=16777216 ->
 (∀s',KM (MS Re D) s s'->Cond G Re sc Rc A O ω ρ s'->AccIs G O D s'.heap (ds++ft Φ e ρ)->NN (NP G.prog G.w) A k Q E s') ->
 NN (NP G.prog G.w) A (jB elt gens scope pos depth (.ref D) Re k) Q E s
structure Snd(e:IX):Prop where
 ev:aV G Φ e
 tst:du G Φ e
 ls:iY G Φ e
 op:kD G Φ e
 bo:mE G Φ e
 boT:mG G Φ e
 ts:iZ G Φ e
 it:gD G Φ e
 gn:i0 G Φ e
end
section
variable{G:Glo}{Φ:List FEntry}
theorem r8(h:∀sc Rc asts,ca Φ e sc Rc asts=false):iY G Φ e/\mE G Φ e/\mG G Φ e/\iZ G Φ e :=
 ⟨fun sc Rc asts U U U U U U U hc=>(MY ((h sc Rc asts).symm.trans hc)).elim,fun U sc Rc asts U U U U U U U U hc=>(MY ((h sc Rc asts).symm.trans hc)).elim,fun U sc Rc asts U U U U U U U hc=>(MY ((h sc Rc asts).symm.trans hc)).elim,fun sc Rc asts U U U U U U U hc=>(MY ((h sc Rc asts).symm.trans hc)).elim⟩
theorem r9(h:∀sc Rc oe,jy Φ e sc Rc oe=false):kD G Φ e:=fun sc Rc oe U U U U U U U hc=>(MY ((h sc Rc oe).symm.trans hc)).elim
theorem pq(h:∀sc Rc gs elt,gy Φ e sc Rc gs elt=false):i0 G Φ e:=fun sc Rc elt gens U U depth U U U U U U U U U U U hc=>(MY ((h sc Rc (gens.drop (depth+1)) elt).symm.trans hc)).elim
theorem pr(h:∀sc Rc ast,eS Φ e sc Rc ast=false):gD G Φ e:=fun sc Rc ast U U U U U U U U hc=>(MY ((h sc Rc ast).symm.trans hc)).elim
theorem i4(h:∀sc Rc ast,chk Φ e sc Rc ast=false):aV G Φ e/\du G Φ e :=
 ⟨fun sc Rc ast U U U U U U U U hc=>(MY ((h sc Rc ast).symm.trans hc)).elim,fun sc Rc ast U U U U U U U hc=>(MY ((h sc Rc ast).symm.trans hc)).elim⟩
set_option backward.match.sparseCases false in
noncomputable def dI:Expr->Bool
 | .UnaryOp .Not ..=>false
 | .BoolOp ..=>false
 | .IfExp ..=>false
 | .Compare ..=>false
 | _=>true
set_option tactic.hygienic true in
theorem kF(h:dI ast=true):isTrue ast Re whole=(do let v <- whole;PZ ast.pos;PY [v] (truthy v)):=by
 cases ast<;>first | rfl | exact absurd h MY | skip
 rename_i op x p
 cases op<;>first | rfl | exact absurd h MY
theorem mH(r:Rep O h v d)(hb:ec d=true):v=.bool (aq d):=by
 cases d<;>first | exact absurd hb MY | skip
 cases r;rfl
theorem Dx(h:aV G Φ e)(hp:∀sc Rc ast,chk Φ e sc Rc ast=true->dI ast=true):du G Φ e:=by
 intro sc Rc ast Re A O ω ρ s E hc C R hpre hb
 rw[kF (hp _ _ _ hc)]
 refine NM (NS (h sc Rc ast false Re A O ω ρ s E hc C R hpre) (fun v s' hv=>NM (Od (N8 ?_))) fun U U x=>x)
 rw[mH hv.2.ff hb]
 exact Oi ⟨rfl,hv.1⟩
theorem Dy(h:∀ρ,ec (den Φ e ρ)=false):du G Φ e:=by
 intro sc Rc ast Re A O ω ρ s E hc C R hpre hb
 rw[h]at hb;cases hb
theorem ck.of(k:NX s s₁)(h:PV O s₁ d v s'):ck t O s d v s':=⟨aO k h.1,.of h.2⟩
theorem pt{prog:Ol}{w:Og}{A:N0}{E:NO->NL->Prop}{s:NL}{base:Expr}{o r:NO}{Q:Unit->NL->Prop}(h:Q () s):NN (NP prog w) A (letTemporaryGo base o r) Q E s:=wpAny_letTemporaryGo h
end
section
variable{G:Glo}{Φ:List FEntry}
theorem Dz(i:Nat):aV G Φ (.var i):=by
 intro sc Rc ast t Re A O ω ρ s E hc C R hp
 refine cP (P:=fun ast=>NN (NP G.prog G.w) A (N6 ast Re) (ck t O s (den Φ (.var i) ρ)) E s) hc fun x p hc=>?_
 replace hc:Rc[i]? = some (some x)/\x≠ofString "__debug__":=a7 hc fun h1 h2=>⟨NY h1,bne_iff_ne.mp h2⟩
 obtain⟨val,F,V⟩:=C.vars
 have hv:=V i x hc.1
 refine O0 ?_ (by simpa using hc.2)
 replace hp:SV.ok t (ρ.getD i .un):=hp
 have hden:den Φ (.var i) ρ=(ρ.getD i .un).data:=rfl
 rw[hden]
 generalize ρ.getD i .un=y at hp hv
 cases y with
 | dat d =>
  refine x12 hv fun u e r=>?_
  exact eU C.eo F e (C.co.kd i x hc.1) ⟨bk s,.of r⟩
 | own d =>
  cases t<;>first | exact hp.elim | skip
  obtain⟨a,vs,n,ds,e1,e2,e3,h1,h2⟩:=hv
  exact eU C.eo F e1 (C.co.kd i x hc.1) ⟨bk s,.inr ⟨a,vs,n,ds,rfl,e3,h1,h2⟩⟩
 | un=>cases t<;>first | exact hp.elim | skip
 | val u=>cases t<;>first | exact hp.elim | skip
 | dic l=>cases t<;>first | exact hp.elim | skip
 | sor g=>cases t<;>first | exact hp.elim | skip
theorem se(h:ph c d=true)(hQ:∀v s',NX s s'->(∀(O:NQ->Prop) h',Rep O h' v d)->Q v s'):NN (NP G.prog G.w) A (N6 (.Constant c k p) Re) Q E s:=by
 cases c<;>first | (exact absurd h MY) | skip
 ·cases d<;>first | (exact absurd h MY) | skip
  exact O9 (hQ _ _ (bk s) fun U U=>.none)
 ·cases d<;>first | (exact absurd h MY) | skip
  cases NY h;exact wpAny_Constant_bool (hQ _ _ (bk s) fun U U=>.bool _)
 ·cases d<;>first | (exact absurd h MY) | skip
  cases NY h;exact Pl (hQ _ _ (ar s _) fun U U=>.int _ _)
 ·cases d<;>first | (exact absurd h MY) | skip
  cases NY h;exact PO (hQ _ _ (ar s _) fun U U=>.str _ _)
theorem DA(d:NR):aV G Φ (.lit d):=by
 intro sc Rc ast t Re A O ω ρ s E hc C R hp
 exact oV (P:=fun ast=>NN (NP G.prog G.w) A (N6 ast Re) (ck t O s (den Φ (.lit d) ρ)) E s) hc fun c k p h=>se h fun v s' k r=>⟨k,.of (r _ _)⟩
theorem DB(op:Pm)(a b:IX)(ha:aV G Φ a)(hb:aV G Φ b)(wf:G.Wf):aV G Φ (.bin op a b):=by
 intro sc Rc ast t Re A O ω ρ s E hc C R hp
 refine rB (P:=fun ast=>NN (NP G.prog G.w) A (N6 ast Re) (ck t O s (den Φ (.bin op a b) ρ)) E s) hc fun l o r p hc=>?_
 refine eD hc fun ho c1 c2=>?_
 cases NY ho
 refine wpAny_BinOp (NS (ha sc Rc l false Re A O ω ρ s E c1 C (R.le (aT _ _)) hp.1) (fun v s₁ h₁=>?_) fun U U x=>x)
 have C1:=C.keeps wf h₁.1
 refine NS (hb sc Rc r false Re A O ω ρ s₁ E c2 C1 (R.le (aE _ _)) hp.2.1) (fun u s₂ h₂=>?_) fun U U x=>x
 have C2:=C1.keeps wf h₂.1
 exact NS (we C2.ok.ob (h₁.2.ff.keeps h₂.1) h₂.2.ff hp.2.2) (fun v s₃ h₃=>.of (aO h₁.1 h₂.1) h₃) fun U U x=>x
theorem DC(op:CmpOp)(a b:IX)(ha:aV G Φ a)(hb:aV G Φ b)(wf:G.Wf):aV G Φ (.cmp op a b)/\du G Φ (.cmp op a b):=by
 constructor
 ·intro sc Rc ast t Re A O ω ρ s E hc C R hp
  refine oZ (P:=fun ast=>NN (NP G.prog G.w) A (N6 ast Re) (ck t O s (den Φ (.cmp op a b) ρ)) E s) hc fun l o r p hc=>?_
  refine fm hc fun ho c1 c2 c3=>?_
  cases NY ho
  replace c3:behindInMarks op r=false:=by rw[M1]at c3;exact c3
  have hu:=R.units
  refine wpAny_Compare1 (NS (ha sc Rc l true Re A O ω ρ s E c1 C (R.le (aT _ _)) hp.1) (fun v s₁ h₁=>?_) fun U U x=>x) c3
  have C1:=C.keeps wf h₁.1
  refine NS (hb sc Rc r true Re A O ω ρ s₁ E c2 C1 (R.le (aE _ _)) hp.2.1) (fun u s₂ h₂=>?_) fun U U x=>x
  refine NS (rO hu (h₁.2.tt.keeps h₂.1) h₂.2.tt hp.2.2) (fun v s₃ h₃=>?_) fun U U x=>x
  refine aj h₃ fun e0 k3=>?_;subst e0
  exact⟨aO (aO h₁.1 h₂.1) k3,.of (.bool _)⟩
 ·intro sc Rc ast Re A O ω ρ s E hc C R hp _
  refine oZ (P:=fun ast=>NN (NP G.prog G.w) A (isTrue ast Re (N6 ast Re)) (PB s (aq (den Φ (.cmp op a b) ρ))) E s) hc fun l o r p hc=>?_
  refine fm hc fun ho c1 c2 c3=>?_
  cases NY ho
  replace c3:behindInMarks op r=false:=by rw[M1]at c3;exact c3
  have hu:=R.units
  refine OA (NS (ha sc Rc l true Re A O ω ρ s E c1 C (R.le (aT _ _)) hp.1) (fun v s₁ h₁=>?_) fun U U x=>x) c3
  have C1:=C.keeps wf h₁.1
  refine NS (hb sc Rc r true Re A O ω ρ s₁ E c2 C1 (R.le (aE _ _)) hp.2.1) (fun u s₂ h₂=>?_) fun U U x=>x
  refine NS (rO hu (h₁.2.tt.keeps h₂.1) h₂.2.tt hp.2.2) (fun v s₃ h₃=>?_) fun U U x=>x
  refine aj h₃ fun e0 k3=>?_;subst e0
  exact Oi ⟨rfl,aO (aO h₁.1 h₂.1) k3⟩
theorem DD(a:IX)(ha:aV G Φ a):aV G Φ (.neg a):=by
 intro sc Rc ast t Re A O ω ρ s E hc C R hp
 refine vK (P:=fun ast=>NN (NP G.prog G.w) A (N6 ast Re) (ck t O s (den Φ (.neg a) ρ)) E s) hc fun op x p hc=>?_
 refine a7 hc fun ho hc=>?_
 cases NY ho
 refine wpAny_UnaryOp (NS (ha sc Rc x false Re A O ω ρ s E hc C R hp.1) (fun v s₁ h₁=>?_) fun U U x=>x)
 replace hp:pre Φ a false ρ/\isInt (den Φ a ρ)=true:=hp
 have hden:den Φ (.neg a) ρ=.int (-(bi (den Φ a ρ))):=rfl
 rw[hden]
 have h2:=h₁.2.ff
 cases e:den Φ a ρ<;>rw[e]at hp h2<;>first | (exact absurd hp.2 MY) | skip
 cases h2
 exact P.neg_int ⟨aO h₁.1 (ar _ _),.of (.int _ _)⟩
theorem DE(a:IX)(ha:aV G Φ a)(ta:du G Φ a):aV G Φ (.inv a)/\du G Φ (.inv a):=by
 constructor
 ·intro sc Rc ast t Re A O ω ρ s E hc C R hp
  refine rJ (P:=fun ast=>NN (NP G.prog G.w) A (N6 ast Re) (ck t O s (den Φ (.inv a) ρ)) E s) hc fun x p hc=>?_
  refine wpAny_UnaryOp (NS (ha sc Rc x false Re A O ω ρ s E hc C R hp.1) (fun v s₁ h₁=>?_) fun U U x=>x)
  rw[mH h₁.2.ff hp.2]
  exact not_of (Oi ⟨h₁.1,.of (.bool _)⟩)
 ·intro sc Rc ast Re A O ω ρ s E hc C R hp _
  refine rJ (P:=fun ast=>NN (NP G.prog G.w) A (isTrue ast Re (N6 ast Re)) (PB s (aq (den Φ (.inv a) ρ))) E s) hc fun x p hc=>?_
  show NN _ _ (isTrue x Re (N6 x Re) >>= fun b=>pure (!b)) _ _ s
  refine NM (NS (ta sc Rc x Re A O ω ρ s E hc C R hp.1 hp.2) (fun b s₁ h₁=>?_) fun U U x=>x)
  exact NU ⟨by rw[h₁.1];rfl,h₁.2⟩
theorem DF(c a b:IX)(tc:du G Φ c)(ha:aV G Φ a)(hb:aV G Φ b)(ta:du G Φ a)(tb:du G Φ b)(wf:G.Wf):aV G Φ (.ite c a b)/\du G Φ (.ite c a b):=by
 constructor
 ·intro sc Rc ast t Re A O ω ρ s E hc C R hp
  refine vM (P:=fun ast=>NN (NP G.prog G.w) A (N6 ast Re) (ck t O s (den Φ (.ite c a b) ρ)) E s) hc fun x y z p hc=>?_
  refine eD hc fun c1 c2 c3=>?_
  refine wpAny_IfExp (NS (tc sc Rc x Re A O ω ρ s E c1 C (R.le (aT _ _)) hp.1 hp.2.1) (fun q s₁ h₁=>?_) fun U U x=>x)
  refine aj h₁ fun e0 k1=>?_;subst e0
  have C1:=C.keeps wf k1
  have hden:den Φ (.ite c a b) ρ=if aq (den Φ c ρ)then den Φ a ρ else den Φ b ρ:=rfl
  rw[hden]
  cases ht:aq (den Φ c ρ)with
  | true =>
   rw[if_pos rfl]
   exact NS (ha sc Rc y false Re A O ω ρ s₁ E c2 C1 (R.le (ae (aT _ _) (aE _ _))) (hp.2.2.1 ht)) (fun v s₂ h₂=>⟨aO k1 h₂.1,.of h₂.2.ff⟩) fun U U x=>x
  | false =>
   rw[if_neg MY]
   exact NS (hb sc Rc z false Re A O ω ρ s₁ E c3 C1 (R.le (ae (aE _ _) (aE _ _))) (hp.2.2.2 ht)) (fun v s₂ h₂=>⟨aO k1 h₂.1,.of h₂.2.ff⟩) fun U U x=>x
 ·intro sc Rc ast Re A O ω ρ s E hc C R hp hb'
  refine vM (P:=fun ast=>NN (NP G.prog G.w) A (isTrue ast Re (N6 ast Re)) (PB s (aq (den Φ (.ite c a b) ρ))) E s) hc fun x y z p hc=>?_
  refine eD hc fun c1 c2 c3=>?_
  have hden:den Φ (.ite c a b) ρ=if aq (den Φ c ρ)then den Φ a ρ else den Φ b ρ:=rfl
  rw[hden]at hb' ⊢
  show NN _ _ (isTrue x Re (N6 x Re) >>= fun q=>if q=true then isTrue y Re (N6 y Re)else isTrue z Re (N6 z Re)) _ _ s
  refine NM (NS (tc sc Rc x Re A O ω ρ s E c1 C (R.le (aT _ _)) hp.1 hp.2.1) (fun q s₁ h₁=>?_) fun U U x=>x)
  refine aj h₁ fun e0 k1=>?_;subst e0
  have C1:=C.keeps wf k1
  cases ht:aq (den Φ c ρ)with
  | true =>
   rw[ht]at hb'
   rw[if_pos rfl]at hb' ⊢
   exact NS (ta sc Rc y Re A O ω ρ s₁ E c2 C1 (R.le (ae (aT _ _) (aE _ _))) (hp.2.2.1 ht) hb') (fun v s₂ h₂=>⟨h₂.1,aO k1 h₂.2⟩) fun U U x=>x
  | false =>
   rw[ht]at hb'
   rw[if_neg MY]at hb' ⊢
   exact NS (tb sc Rc z Re A O ω ρ s₁ E c3 C1 (R.le (ae (aE _ _) (aE _ _))) (hp.2.2.2 ht) hb') (fun v s₂ h₂=>⟨h₂.1,aO k1 h₂.2⟩) fun U U x=>x
theorem jE(e:IX):∀ {sc:Scope} {Rc:List (Option Str)} {asts:List Expr},ca Φ e sc Rc asts=true->∀a∈asts,fu a=true:=by
 induction e with
 | cons a b _ ihb =>
  intro sc Rc asts h
  refine cV (P:=fun asts=>∀a∈asts,fu a=true) h fun x r h=>?_
  refine a7 h fun h1 h2 y hy=>?_
  rcases aa.mp hy with rfl | hy
  ·exact gA a h1
  ·exact ihb h2 y hy
 | nil =>
  intro sc Rc asts h
  exact eE (P:=fun asts=>∀a∈asts,fu a=true) h fun U a ha=>nomatch ha
 | _=>intro sc Rc asts h;exact absurd h MY
theorem DG(es:IX)(h:iY G Φ es)(wf:G.Wf):aV G Φ (.list es):=by
 intro sc Rc ast t Re A O ω ρ s E hc C R hp
 refine oW (P:=fun ast=>NN (NP G.prog G.w) A (N6 ast Re) (ck t O s (den Φ (.list es) ρ)) E s) hc fun xs p hc=>?_
 refine Qt ?_
 rw[ig _ (jE es hc),jz]
 refine NS (h sc Rc xs Re A O ω ρ s E hc C R hp.1) (fun vs s₁ h₁=>?_) fun U U x=>x
 have hl:vs.length<=16777216:=by rw[h₁.2.length];exact hp.2
 have C1:=C.keeps wf h₁.1
 refine⟨hl,aO h₁.1 (bz _),.of (.list (n:=0) (fun q=>bj _ (C1.ok.ob _ q)) (IsL.new _ _) (by simpa using h₁.2.pushO _))⟩
theorem DH(es:IX)(h:iY G Φ es)(wf:G.Wf):aV G Φ (.tup es):=by
 intro sc Rc ast t Re A O ω ρ s E hc C R hp
 refine lW (P:=fun ast=>NN (NP G.prog G.w) A (N6 ast Re) (ck t O s (den Φ (.tup es) ρ)) E s) hc fun xs x1 p hc=>?_
 refine wpAny_Tuple ?_
 rw[ig _ (jE es hc),jz]
 refine NS (h sc Rc xs Re A O ω ρ s E hc C R hp.1) (fun vs s₁ h₁=>?_) fun U U x=>x
 have hl:vs.length<=16777216:=by rw[h₁.2.length];exact hp.2
 have C1:=C.keeps wf h₁.1
 refine⟨hl,aO h₁.1 (bz _),.of (.tuple (n:=0) (fun q=>bj _ (C1.ok.ob _ q)) (IsT.new _ _) (by simpa using h₁.2.pushO _))⟩
set_option tactic.hygienic true in
theorem jF{A:N0}{E:NO->NL->Prop}{s:NL}{Re:Env}{value slice:Expr}{pos:Pos}{Q:NO->NL->Prop}
 (h:NN (NP G.prog G.w) A (N6 value Re) (fun o s₁=>NN (NP G.prog G.w) A (N6 slice Re) (fun i s₂=>∃T id,Pt (.type T) "__getitem__" = pure (some (.builtin id))/\s₂.TypeIs o T/\NN (NP G.prog G.w) A (getItem o i) Q E s₂) E s₁) E s) :
 NN (NP G.prog G.w) A (N6 (.Subscript value slice pos) Re) Q E s:=by
 rw[eval_Subscript]
 refine NM (NS h (fun o s₁ h₁=>NM (N8 (NS h₁ (fun i s₂ h₂=>NM (Od ?_)) fun U U x=>x))) fun U U x=>x)
 refine x23 h₂ fun T id hl hT hg=>?_
 have fin:∀vs,NN (NP G.prog G.w) A (operate vs (getItem o i)) (fun r s₃=>NN (NP G.prog G.w) A (letTemporaryGo value o r >>= fun U=>pure r) Q E s₃) E s₂:=fun vs =>
  wpAny_operating (NS hg (fun r s₃ h₃=>NM (pt (NU h₃))) fun U U x=>x)
 have sub:NN (NP G.prog G.w) A (subscripted slice false o i) (fun r s₃=>NN (NP G.prog G.w) A (letTemporaryGo value o r >>= fun U=>pure r) Q E s₃) E s₂:=by
  cases slice<;>first | exact fin [o,i] | skip
  rename_i l u st p
  cases st
  ·exact fin [i,o]
  ·exact fin [o,i]
 refine NM ?_
 rw[getitemInPython_of_ne hT.not_modules]
 refine NM (wpAny_specialOf hT hl ?_)
 exact NU (NM sub)
noncomputable def wS:NR->Bool
 | .dict _=>true
 | _=>false
theorem wT{O:NQ->Prop}{s:NL}{v:NO}{d:NR}(r:a8 O s.heap v d)(h:mu d=true\/isStr d=true\/wS d=true):∃T id,Pt (.type T) "__getitem__" = pure (some (.builtin id))/\s.TypeIs v T:=by
 cases d<;>first | exact absurd h (fun q=>q.elim MY fun q=>q.elim MY MY) | skip
 ·refine x11 r.strIs fun t e1=>?_;subst e1
  exact⟨_,_,F.slot_str_getitem.lookup,typeIs_str _ _ _⟩
 ·refine x33 r.listIs fun a vs n e3 hl U=>?_;subst e3
  exact⟨_,_,F.slot_list_getitem.lookup,hl.isList.typeIs⟩
 ·refine x33 r.tupIs fun a vs n e3 hl U=>?_;subst e3
  exact⟨_,_,F.slot_tuple_getitem.lookup,(show s.heap.IsTuple a vs from⟨_,hl,rfl,n,rfl⟩).typeIs⟩
 ·refine x24 r.dicIs fun a l e1 e2 x U=>?_;subst e1
  refine x12 x.2 fun o ho z=>?_
  obtain⟨p,w',kv,d,hv,e⟩:=z
  exact⟨_,_,slot_dict_getitem.lookup,(Heap.dictOf_iff.mpr ⟨o,ho,d⟩).typeIs⟩
theorem DI(a i:IX)(ha:aV G Φ a)(hi:aV G Φ i)(wf:G.Wf):aV G Φ (.sub a i):=by
 intro sc Rc ast t Re A O ω ρ s E hc C R hp
 refine kh (P:=fun ast=>NN (NP G.prog G.w) A (N6 ast Re) (ck t O s (den Φ (.sub a i) ρ)) E s) hc fun x y p hc=>?_
 refine a7 hc fun c1 c2=>?_
 refine jF (NS (ha sc Rc x true Re A O ω ρ s E c1 C (R.le (aT _ _)) hp.1) (fun v s₁ h₁=>?_) fun U U x=>x)
 have C1:=C.keeps wf h₁.1
 refine NS (hi sc Rc y false Re A O ω ρ s₁ E c2 C1 (R.le (aE _ _)) hp.2.1) (fun u s₂ h₂=>?_) fun U U x=>x
 have r:=h₁.2.tt.keeps h₂.1
 refine x22 (wT r (wj (P:=fun x U U=>mu x=true\/isStr x=true\/wS x=true) hp.2.2 (fun U U U=>.inr (.inl rfl)) (fun U U U=>.inl rfl) (fun U U U=>.inl rfl) (fun U U U=>.inr (.inr rfl)))) fun T id hl hT=>?_
 exact⟨T,id,hl,hT,NS (CC r h₂.2.ff hp.2.2) (fun v s₃ h₃=>.of (aO h₁.1 h₂.1) h₃) fun U U x=>x⟩
theorem DJ(a lo hi:IX)(ha:aV G Φ a)(hlo:kD G Φ lo)(hhi:kD G Φ hi)(wf:G.Wf):aV G Φ (.slice a lo hi):=by
 intro sc Rc ast t Re A O ω ρ s E hc C R hp
 refine kh (P:=fun ast=>NN (NP G.prog G.w) A (N6 ast Re) (ck t O s (den Φ (.slice a lo hi) ρ)) E s) hc fun x sl p hc=>?_
 refine Cj (P:=fun sl=>NN (NP G.prog G.w) A (N6 (.Subscript x sl p) Re) (ck t O s (den Φ (.slice a lo hi) ρ)) E s) hc fun l u st p1 hc=>?_
 refine rr (P:=fun st=>NN (NP G.prog G.w) A (N6 (.Subscript x (.Slice l u st p1) p) Re) (ck t O s (den Φ (.slice a lo hi) ρ)) E s) hc fun hc=>?_
 refine eD hc fun c1 c2 c3=>?_
 refine jF (NS (ha sc Rc x true Re A O ω ρ s E c1 C (R.le (aT _ _)) hp.1) (fun v s₁ h₁=>?_) fun U U x=>x)
 have C1:=C.keeps wf h₁.1
 refine wpAny_Slice (NS (hlo sc Rc l Re A O ω ρ s₁ E c2 C1 (R.le (ae (aT _ _) (aE _ _))) hp.2.1) (fun v₁ s₂ h₂=>?_) fun U U x=>x)
 have C2:=C1.keeps wf h₂.1
 refine NS (hhi sc Rc u Re A O ω ρ s₂ E c3 C2 (R.le (ae (aE _ _) (aE _ _))) hp.2.2.1) (fun v₂ s₃ h₃=>?_) fun U U x=>x
 have C3:=C2.keeps wf h₃.1
 rw[evalPart_none]
 refine NU ?_
 have kp:NX s₃ { s₃ with heap:=s₃.heap.push { cls:=.type "slice",data:=.fields #[v₁,v₂,.none] } }:=bz _
 have r:=(((h₁.2.tt).keeps h₂.1).keeps h₃.1).keeps kp
 obtain⟨T,id,hl,hT⟩:=wT r (by
  have:=hp.2.2.2
  cases e:den Φ a ρ<;>rw[e]at this<;>first | exact this.elim | exact .inl rfl | exact .inr (.inl rfl))
 refine⟨T,id,hl,hT,NS (wm (C3.keeps wf kp).ok.ob r ((h₂.2.keeps h₃.1).keeps kp) (h₃.2.keeps kp) (NZ _ rfl) hp.2.2.2) (fun v s₄ h₄=>?_) fun U U x=>x⟩
 exact .of (aO (aO (aO h₁.1 h₂.1) h₃.1) kp) h₄
theorem DK(a b:IX)(ha:aV G Φ a)(hb:iY G Φ b)(wf:G.Wf):iY G Φ (.cons a b):=by
 intro sc Rc asts Re A O ω ρ s E hc C R hp
 refine cV (P:=fun asts=>NN (NP G.prog G.w) A (spliced (asts.map fun a=>(false,N6 a Re))) (fun vs s'=>NX s s'/\RepL O s'.heap vs (bL Φ (.cons a b) ρ)) E s) hc fun x r hc=>?_
 refine a7 hc fun c1 c2=>?_
 refine N7 (NS (ha sc Rc x false Re A O ω ρ s E c1 C (R.le (aT _ _)) hp.1) (fun v s₁ h₁=>?_) fun U U x=>x)
 refine NS (hb sc Rc r Re A O ω ρ s₁ E c2 (C.keeps wf h₁.1) (R.le (aE _ _)) hp.2) (fun vs s₂ h₂=>?_) fun U U x=>x
 exact⟨aO h₁.1 h₂.1,.cons (h₁.2.ff.keeps h₂.1) h₂.2⟩
theorem DL:iY G Φ .nil:=by
 intro sc Rc asts Re A O ω ρ s E hc C R hp
 exact eE (P:=fun asts=>NN (NP G.prog G.w) A (spliced (asts.map fun a=>(false,N6 a Re))) (fun vs s'=>NX s s'/\RepL O s'.heap vs (bL Φ .nil ρ)) E s) hc fun U=>N4 ⟨bk s,.nil⟩
theorem DM:kD G Φ .nil:=by
 intro sc Rc oe Re A O ω ρ s E hc C R hp
 refine rr (P:=fun oe=>NN (NP G.prog G.w) A (evalPart oe Re) (PV O s (dS Φ .nil ρ)) E s) hc fun U=>?_
 rw[evalPart_none];exact NU ⟨bk s,.none⟩
theorem DO(a b:IX)(ha:aV G Φ a):kD G Φ (.cons a b):=by
 intro sc Rc oe Re A O ω ρ s E hc C R hp
 refine a7 hc fun hn hc=>?_
 cases b<;>first | (exact absurd hn MY) | skip
 refine lV (P:=fun oe=>NN (NP G.prog G.w) A (evalPart oe Re) (PV O s (dS Φ (.cons a .nil) ρ)) E s) hc fun x hc=>?_
 rw[evalPart_some]
 exact NS (ha sc Rc x false Re A O ω ρ s E hc C (R.le (aT _ _)) hp) (fun v s₁ h₁=>⟨h₁.1,h₁.2.ff⟩) fun U U x=>x
end
section
variable{G:Glo}{Φ:List FEntry}
theorem wU(h:ca Φ b sc Rc r=true):(eR b=true/\r=[])\/(eR b=false/\∃y z,r=y::z):=by
 cases b<;>first | exact absurd h MY | skip
 ·exact eE (P:=fun r=>(eR .nil=true/\r=[])\/(eR .nil=false/\∃y z,r=y::z)) h fun U=>.inl ⟨rfl,rfl⟩
 ·exact cV (P:=fun r=>(eR (.cons _ _)=true/\r=[])\/(eR (.cons _ _)=false/\∃y z,r=y::z)) h fun y z U=>.inr ⟨rfl,y,z,rfl⟩
theorem DP(a b:IX)(ha:aV G Φ a)(hb:mE G Φ b)(wf:G.Wf):mE G Φ (.cons a b):=by
 intro o sc Rc asts Re A O ω ρ s E pos hc C R hp
 have hd:fS Φ o (.cons a b) ρ=if eR b=true then den Φ a ρ else if aq (den Φ a ρ)=o then .bool o else fS Φ o b ρ:=rfl
 rw[hd]
 generalize hQ:PV O s (if eR b=true then den Φ a ρ else if aq (den Φ a ρ)=o then .bool o else fS Φ o b ρ)=Q
 refine cV (P:=fun asts=>NN (NP G.prog G.w) A (boolOp pos (ib o) (evalEach asts Re)) Q E s) hc fun x r hc=>?_
 refine a7 hc fun c1 c2=>?_
 have hx:∀Q:NO->NL->Prop,(∀v s',ck false O s (den Φ a ρ) v s'->Q v s')->NN (NP G.prog G.w) A (N6 x Re) Q E s:=fun Q h=>NS (ha sc Rc x false Re A O ω ρ s E c1 C (R.le (aT _ _)) hp.1) h fun U U x=>x
 rcases wU c2 with⟨hn,rfl⟩ | ⟨hn,y,z,rfl⟩
 ·rw[if_pos hn]at hQ
  subst hQ
  exact hx _ fun v s₁ h₁=>⟨h₁.1,h₁.2.ff⟩
 ·rw[hn,if_neg MY]at hQ
  show NN (NP G.prog G.w) A (N6 x Re >>= fun v=>PZ pos >>= fun U=>PY [v] (truthy v) >>= fun t=>(match ib o,t with | .And,false=>pure v | .Or,true=>pure v | _,_=>boolOp pos (ib o) (evalEach (y::z) Re))) Q E s
  refine NM (hx _ fun v s₁ h₁=>?_)
  cases mH h₁.2.ff (hp.2 hn).1
  refine NM (Od (NM (N8 (Oi ?_))))
  by_cases ht:aq (den Φ a ρ)=o
  ·rw[if_pos ht]at hQ
   subst hQ
   rw[ht]
   cases o<;>exact NU ⟨h₁.1,.bool _⟩
  ·rw[if_neg ht]at hQ
   have ht:aq (den Φ a ρ)=!o:=Bool.eq_not.mpr ht
   subst hQ
   rw[ht]
   have hb:=NS (hb o sc Rc (y::z) Re A O ω ρ s₁ E pos c2 (C.keeps wf h₁.1) (R.le (aE _ _)) ((hp.2 hn).2 ht)) (fun v s₂ h₂=>(⟨aO h₁.1 h₂.1,h₂.2⟩:PV O s _ v s₂)) fun U U x=>x
   cases o<;>exact hb
theorem DQ(a b:IX)(ta:du G Φ a)(tb:mG G Φ b)(wf:G.Wf):mG G Φ (.cons a b):=by
 intro o sc Rc asts Re A O ω ρ s E hc C R hp hbool
 have hd:fS Φ o (.cons a b) ρ=if eR b=true then den Φ a ρ else if aq (den Φ a ρ)=o then .bool o else fS Φ o b ρ:=rfl
 rw[hd]at hbool ⊢
 generalize hQ:PB s (aq (if eR b=true then den Φ a ρ else if aq (den Φ a ρ)=o then .bool o else fS Φ o b ρ))=Q
 refine cV (P:=fun asts=>NN (NP G.prog G.w) A (allTrue (ib o) asts Re) Q E s) hc fun x r hc=>?_
 refine a7 hc fun c1 c2=>?_
 have hx:ec (den Φ a ρ)=true->∀Q:Bool->NL->Prop,(∀v s',PB s (aq (den Φ a ρ)) v s'->Q v s')->NN (NP G.prog G.w) A (isTrue x Re (N6 x Re)) Q E s:=fun hb Q h=>NS (ta sc Rc x Re A O ω ρ s E c1 C (R.le (aT _ _)) hp.1 hb) h fun U U x=>x
 show NN (NP G.prog G.w) A (isTrue x Re (N6 x Re) >>= fun t=>(match ib o,t with | .And,false=>pure false | .Or,true=>pure true | _,_=>allTrue (ib o) r Re)) Q E s
 rcases wU c2 with⟨hn,rfl⟩ | ⟨hn,y,z,rfl⟩
 ·rw[if_pos hn]at hQ hbool
  subst hQ
  refine NM (hx hbool _ fun t s₁ h₁=>?_)
  refine aj h₁ fun e0 k1=>?_;subst e0
  cases o<;>cases aq (den Φ a ρ)<;>exact NU ⟨rfl,k1⟩
 ·rw[hn,if_neg MY]at hQ hbool
  refine NM (hx (hp.2 hn).1 _ fun t s₁ h₁=>?_)
  refine aj h₁ fun e0 k1=>?_;subst e0
  by_cases ht:aq (den Φ a ρ)=o
  ·rw[if_pos ht]at hQ
   subst hQ
   rw[ht]
   cases o<;>exact NU ⟨rfl,k1⟩
  ·rw[if_neg ht]at hQ hbool
   have ht:aq (den Φ a ρ)=!o:=Bool.eq_not.mpr ht
   subst hQ
   rw[ht]
   have hb:=NS (tb o sc Rc (y::z) Re A O ω ρ s₁ E c2 (C.keeps wf k1) (R.le (aE _ _)) ((hp.2 hn).2 ht) hbool) (fun v s₂ h₂=>(⟨h₂.1,aO k1 h₂.2⟩:PB s _ v s₂)) fun U U x=>x
   cases o<;>exact hb
theorem DR(o:Bool)(es:IX)(h:mE G Φ es)(t:mG G Φ es):aV G Φ (.bop o es)/\du G Φ (.bop o es):=by
 constructor
 ·intro sc Rc ast t Re A O ω ρ s E hc C R hp
  refine rE (P:=fun ast=>NN (NP G.prog G.w) A (N6 ast Re) (ck t O s (den Φ (.bop o es) ρ)) E s) hc fun op xs p hc=>?_
  refine a7 hc fun ho h2=>?_
  cases NY ho
  rw[arm_eval_BoolOp]
  exact NS (h o sc Rc xs Re A O ω ρ s E p h2 C R hp) (fun v s₁ h₁=>⟨h₁.1,.of h₁.2⟩) fun U U x=>x
 ·intro sc Rc ast Re A O ω ρ s E hc C R hp hb
  refine rE (P:=fun ast=>NN (NP G.prog G.w) A (isTrue ast Re (N6 ast Re)) (PB s (aq (den Φ (.bop o es) ρ))) E s) hc fun op xs p hc=>?_
  refine a7 hc fun ho h2=>?_
  cases NY ho
  exact t o sc Rc xs Re A O ω ρ s E h2 C R hp hb
theorem DS:iZ G Φ .nil:=by
 intro sc Rc asts Re A O ω ρ s E hc C R hp
 exact eE (P:=fun asts=>NN (NP G.prog G.w) A (forIn asts true fun c r=>if r=true then do let ok <- isTrue c Re (N6 c Re);pure (OF ok)else pure (OF r)) (fun b s'=>b=dH Φ .nil ρ/\NX s s') E s) hc fun U=>NU ⟨rfl,bk s⟩
theorem wV{prog:Ol}{w:Og}{A:N0}{E:NO->NL->Prop}{Re:Env}(h:Q false s):∀asts:List Expr,
 NN (NP prog w) A (forIn asts false fun c r=>if r=true then do let ok <- isTrue c Re (N6 c Re);pure (OF ok)else pure (OF r)) Q E s
 | []=>NU h
 | x::r=>by
  rw[NJ]
  rw[if_neg MY]
  exact NM (NU (wV h r))
theorem DT(a b:IX)(ta:du G Φ a)(hb:iZ G Φ b)(wf:G.Wf):iZ G Φ (.cons a b):=by
 intro sc Rc asts Re A O ω ρ s E hc C R hp
 have hd:dH Φ (.cons a b) ρ=(aq (den Φ a ρ)&&dH Φ b ρ):=rfl
 rw[hd]
 refine cV (P:=fun asts=>NN (NP G.prog G.w) A (forIn asts true fun c r=>if r=true then do let ok <- isTrue c Re (N6 c Re);pure (OF ok)else pure (OF r)) (fun b' s'=>b'=(aq (den Φ a ρ)&&dH Φ b ρ)/\NX s s') E s) hc fun x r hc=>?_
 refine a7 hc fun c1 c2=>?_
 rw[NJ,if_pos rfl]
 refine NM (NM (NS (ta sc Rc x Re A O ω ρ s E c1 C (R.le (aT _ _)) hp.1 hp.2.1) (fun t s₁ h₁=>NU ?_) fun U U x=>x))
 refine aj h₁ fun e0 k1=>?_;subst e0
 cases ht:aq (den Φ a ρ)with
 | false=>exact wV ⟨rfl,k1⟩ r
 | true =>
  exact NS (hb sc Rc r Re A O ω ρ s₁ E c2 (C.keeps wf k1) (R.le (aE _ _)) (hp.2.2 ht)) (fun b s₂ h₂=>⟨by rw[h₂.1];rfl,aO k1 h₂.2⟩) fun U U x=>x
theorem ItIs.mono(x:ItIs prog w A O F h₀ h it ds)(hF:F'->F):ItIs prog w A O F' h₀ h it ds:=by
 obtain⟨I,fp,wr,P,St,e,W,hst,hfp,hwr,hf,r1,r2,r3⟩:=x
 exact⟨I,fp,wr,P,St,e,W,hst,hfp,hwr,fun z=>hf (hF z),r1,r2,r3⟩
theorem DU(e:IX)(h:aV G Φ e)(wf:G.Wf):gD G Φ (.seq e):=by
 intro sc Rc ast t Re A O ω ρ s E hc C R hp
 replace hc:chk Φ e sc Rc ast=true:=hc
 refine NS (h sc Rc ast t Re A O ω ρ s E hc C R hp.1) (fun x s₁ h₁=>⟨h₁.1,fun E=>?_⟩) fun U U x=>x
 have C1:=C.keeps wf h₁.1
 rw[show bX Φ (.seq e) ρ=items (den Φ e ρ)from rfl]
 have hr:a8 O s₁.heap x (den Φ e ρ):=by
  cases t
  ·exact .of h₁.2
  ·exact h₁.2
 have hp2:=hp.2
 cases hd:den Φ e ρ<;>rw[hd]at hp2<;>first | exact hp2.elim | skip
 ·rename_i y
  rw[hd]at hr
  refine x11 hr.strIs fun u e1=>?_;subst e1
  exact CX C1.ok hp2 fun it s' k hi=>⟨k,hi.mono fun U=>trivial⟩
 ·rw[hd]at hr
  refine rR C1.ok hr fun it s' k hi=>⟨k,hi.mono fun z=>?_⟩
  subst z;exact hd▸h₁.2
 ·rw[hd]at hr
  refine rS C1.ok hr fun it s' k hi=>⟨k,hi.mono fun z=>?_⟩
  subst z;exact hd▸h₁.2
 ·rw[hd]at hr
  exact CW C1.ok hr fun it s' k hi=>⟨k,hi.mono fun U=>trivial⟩
theorem DV(h:rW d):d=.int (bi d)/\-1000000000<=bi d/\bi d<=1000000000:=by
 cases d<;>first | exact h.elim | exact⟨rfl,h⟩
theorem eh{A:N0}{E:NO->NL->Prop}{s:NL}{Re:Env}{g:Str}{np pos:Pos}{Q:NO->NL->Prop}(hs:∀a∈as,fu a=true)
 (h:NN (NP G.prog G.w) A (N6 (.Name g np) Re) (fun f s₁=>NN (NP G.prog G.w) A (callWith pos f [] (as.map fun a=>(false,N6 a Re)) []) Q E s₁) E s) :
 NN (NP G.prog G.w) A (N6 (.Call (.Name g np) as [] pos) Re) Q E s:=by
 show NN _ A (do callWith pos (<- N6 (.Name g np) Re) [] (backTo pos (starEach as Re)) (backToKw pos (keywordEach [] Re))) Q E s
 rw[ig _ hs,jz]
 exact NM h
theorem DW:(ofString "range",Value.type "range")∈dU:=az (i:=4) (by kernel_rfl)
theorem wW:(ofString "len",Value.builtin "len")∈dU:=az (i:=0) (by kernel_rfl)
theorem DX:(ofString "sum",Value.builtin "sum")∈dU:=az (i:=1) (by kernel_rfl)
theorem DY(a:IX)(ha:aV G Φ a)(wf:G.Wf):gD G Φ (.range1 a):=by
 intro sc Rc ast t Re A O ω ρ s E hc C R hp
 refine l7 (P:=fun ast=>NN (NP G.prog G.w) A (N6 ast Re) (fun x s₁=>NX s s₁/\∀E,NN (NP G.prog G.w) A (pyIter x) (fun it s₂=>NX s₁ s₂/\ItIs G.prog G.w A O (t=false) s₁.heap s₂.heap it (bX Φ (.range1 a) ρ)) E s₁) E s) hc fun g np x pos hc=>?_
 refine eD hc fun hgn hg hx=>?_
 cases NY hgn
 refine eh (fun a' ha'=>by rw[ah.mp ha'];exact gA a hx) (ie wf C.eo C.base hg DW ?_)
 refine Qj (gB _) (Oj (N7 (NS (ha sc Rc x false Re A O ω ρ s E hx C R hp.1) (fun v s₁ h₁=>N4 ?_) fun U U x=>x)))
 refine cT (DV hp.2) fun e l1 l2=>?_
 have hr:=h₁.2.ff
 rw[e]at hr
 refine x11 (hZ hr) fun u e1=>?_;subst e1
 refine call_range_1 ⟨aO h₁.1 (bz _),fun E=>?_⟩
 rw[show bX Φ (.range1 a) ρ=iU 0 (bi (den Φ a ρ) - 0).toNat from rfl]
 exact CY ((C.keeps wf h₁.1).ok.push _ _) (IsRange.new _ _ _ _ _ _ _) (by lia) ⟨l1,l2⟩ fun it s' k hi=>⟨k,hi.mono fun U=>trivial⟩
end
section
variable{G:Glo}{Φ:List FEntry}
theorem DZ(f:Nat)(es:IX)(h:iY G Φ es)(wf:G.Wf)(hF:∀F∈Φ,aM G F):aV G Φ (.call f es):=by
 intro sc Rc ast t Re A O ω ρ s E hc C R hp
 refine kj (P:=fun ast=>NN (NP G.prog G.w) A (N6 ast Re) (ck t O s (den Φ (.call f es) ρ)) E s) hc fun g np args pos hc=>?_
 refine hV hc fun hn hd hl hg ha=>?_
 have hn:=NY hn
 have hd:=bne_iff_ne.mp hd
 have hl:=of_decide_eq_true hl
 have hmem:Φ.getD f .nope∈Φ:=by
  rw[av,bw hl]
  exact M4 hl
 refine x34 (hF _ hmem) fun a o fd e1 e2 e3 ct=>?_
 refine eh (jE es ha) (ic wf C.eo C.base hg (by simpa using hd) (hn▸e1) ?_)
 refine PM (o:=o) (fd:=fd) (ii (NS (h sc Rc args Re A O ω ρ s E ha C (R.le (aT _ _)) hp.1) (fun vs s₁ h₁=>?_) fun U U x=>x))
 have C1:=C.keeps wf h₁.1
 refine⟨⟨C1.base.kp a o (wf.K a o e2),e3⟩,?_⟩
 exact NS (ct A s₁ O vs _ E (R.le (ae (oF _) (aE _ _))) C1.ok C1.base h₁.2 hp.2) (fun v s₂ h₂=>.of h₁.1 h₂) fun U U x=>x
theorem sf{id:String}{A:N0}{E:NO->NL->Prop}{s:NL}{Re:Env}{sc:Scope}{Rc:List (Option Str)}{O:NQ->Prop}{ω:NQ->Option Nat}{ρ:List SV}{g:Str}{np pos:Pos}{x:Expr}{Q:NO->NL->Prop}(wf:G.Wf)
 (C:Cond G Re sc Rc A O ω ρ s) (hs:fu x=true) (hg:bO sc g=true) (hm:(g,Value.builtin id)∈dU)
 (h:NN (NP G.prog G.w) A (N6 x Re) (fun v s₁=>NN (NP G.prog G.w) A (call (.builtin id) [v]) Q E s₁) E s) :
 NN (NP G.prog G.w) A (N6 (.Call (.Name g np) [x] [] pos) Re) Q E s:=by
 refine eh (fun a' ha'=>by rw[ah.mp ha'];exact hs) (ie wf C.eo C.base hg hm ?_)
 exact OD (gB _) (Oj (N7 (NS h (fun v s₁ h₁=>N4 h₁) fun U U x=>x)))
theorem D1(a:IX)(ha:aV G Φ a)(wf:G.Wf):aV G Φ (.len a):=by
 intro sc Rc ast t Re A O ω ρ s E hc C R hp
 refine l7 (P:=fun ast=>NN (NP G.prog G.w) A (N6 ast Re) (ck t O s (den Φ (.len a) ρ)) E s) hc fun g np x pos hc=>?_
 refine eD hc fun hgn hg hx=>?_
 cases NY hgn
 exact sf wf C (gA a hx) hg wW (NS (ha sc Rc _ true Re A O ω ρ s E hx C R hp.1) (fun v s₁ h₁=>NS (wt h₁.2.tt hp.2) (fun u s₂ h₂=>.of h₁.1 h₂) fun U U x=>x) fun U U x=>x)
theorem D4(a:IX)(ha:aV G Φ a)(wf:G.Wf):aV G Φ (.sum a):=by
 intro sc Rc ast t Re A O ω ρ s E hc C R hp
 refine l7 (P:=fun ast=>NN (NP G.prog G.w) A (N6 ast Re) (ck t O s (den Φ (.sum a) ρ)) E s) hc fun g np x pos hc=>?_
 refine eD hc fun hgn hg hx=>?_
 cases NY hgn
 obtain⟨hp1,ds,e,hp2⟩:=hp
 refine sf wf C (gA a hx) hg DX (NS (ha sc Rc _ true Re A O ω ρ s E hx C R hp1) (fun v s₁ h₁=>?_) fun U U x=>x)
 have r:=h₁.2.tt
 rw[show den Φ (.sum a) ρ=.int ((cW (den Φ a ρ)).map bi).sum from rfl]
 rw[e]at r ⊢
 exact NS (Da (C.keeps wf h₁.1).ok r hp2) (fun u s₂ h₂=>.of h₁.1 h₂) fun U U x=>x
theorem D5(h:isStr d=true):d=.str (dm d):=by cases d<;>first | exact absurd h MY | rfl
theorem D6(h:wz o=true):attributeBase o m Re whole=whole:=by
 cases o<;>first | rfl | exact absurd h MY
theorem il(h:fu x=true):starEach [x] Re=[(false,N6 x Re)]:=ig _ fun a ha=>by rw[ah.mp ha];exact h
theorem D7(a b:IX)(ha:aV G Φ a)(hb:aV G Φ b)(wf:G.Wf):aV G Φ (.join a b):=by
 intro sc Rc ast t Re A O ω ρ s E hc C R hp
 refine v3 (P:=fun ast=>NN (NP G.prog G.w) A (N6 ast Re) (ck t O s (den Φ (.join a b) ρ)) E s) hc fun o m ap x pos hc=>?_
 refine hV hc fun hm hn hl ho hx=>?_
 cases NY hm
 obtain⟨hp1,hp2,hp3,ds,e,hp4⟩:=hp
 refine Px (D6 hn) (il (gA b hx)) hl (NS (ha sc Rc o false Re A O ω ρ s E ho C (R.le (aT _ _)) hp1) (fun v s₁ h₁=>?_) fun U U x=>x)
 have r:=h₁.2.ff
 have C1:=C.keeps wf h₁.1
 rw[show den Φ (.join a b) ρ=.str (PK (dm (den Φ a ρ)) ((cW (den Φ b ρ)).map dm))from rfl]
 rw[D5 hp3]at r
 cases r with
 | str _ tk =>
  refine⟨"str", "str.join",F.plainAttrs_str,F.slot_str_join,F.type_str_join,typeIs_str _ _ _,(fun U e=>nomatch e),?_⟩
  refine OD rfl (Oj (N7 (NS (hb sc Rc x true Re A O ω ρ s₁ E hx C1 (R.le (aE _ _)) hp2) (fun u s₂ h₂=>N4 ?_) fun U U x=>x)))
  have r2:=h₂.2.tt
  rw[e]at r2 ⊢
  exact NS (Dc r2 hp4) (fun u s₃ h₃=>.of (aO h₁.1 h₂.1) h₃) fun U U x=>x
end
section
variable{G:Glo}{Φ:List FEntry}
theorem Cond.append{Re:Env}{sc:Scope}{Rc:List (Option Str)}{A:N0}{O:NQ->Prop}{ω:NQ->Option Nat}{ρ:List SV}{s:NL}{D:NQ}{h':N9}{vs:Array NO}{n:Nat}{ds:List NR}
 (wf:G.Wf) (C:Cond G Re sc Rc A O ω ρ s) (hD:O D) (hDw:∀i,ω D≠some i) (hl:IsL s.heap D vs n) (hs:OQ D s.heap h') (a:AccIs G O D h' ds):KM (· = D) s { s with heap:=h' }/\Cond G Re sc Rc A O ω ρ { s with heap:=h' }:=by
 have k:KM (· = D) s { s with heap:=h' }:=by
  obtain⟨vs',n',e,_⟩:=a
  exact KM.chg (t:=s.toks) hs.extBut ⟨_,e⟩ rfl
 refine⟨k,?_⟩
 obtain⟨val,F,V⟩:=C.vars
 refine C.frame k (fun b q=>q▸hD) rfl (F.chg hl hs.extBut) fun i x e=>(V i x e).at wf C.base fun b o hb e=>hs.extBut b o (fun q=>?_) e
 rcases hb with hb | hb
 ·exact hDw i (q▸hb)
 ·exact hb (q▸hD)
theorem D8(e:IX)(h:aV G Φ e)(wf:G.Wf):i0 G Φ (.emit e):=by
 intro sc Rc elt gens scope pos depth Re A O ω ρ s E D ds k Q hc hz C hD hDF hDw hsl hnd R hp acc hlen hk
 generalize hg:gens.drop (depth+1)=gs0 at hc
 cases gs0<;>first | (exact absurd hc MY) | skip
 replace hc:chk Φ e sc Rc elt=true:=hc
 have hg':gens[depth+1]? = none:=by
  rw[Nb]
  exact List.drop_eq_nil_iff.mp hg
 unfold jB
 rw[hg']
 dsimp only
 refine NM (NM (NS (h sc Rc elt false Re A O ω ρ s E hc C R hp) (fun v s₁ h₁=>NM ?_) fun U U x=>x))
 have C1:=C.keeps wf h₁.1
 refine wH (acc.keeps h₁.1) hD h₁.2.ff (by lia) fun h' hs a hl=>?_
 refine x21 hl fun vs n hl=>?_
 refine aj (C1.append wf hD hDw hl hs a) fun k2 C2=>?_
 exact NU (hk _ ((KM.of h₁.1).trans (k2.mono fun b q=>.inr q)) C2 a)
set_option tactic.hygienic true in
theorem D9(tup:Bool)(slots:List Nat)(it ifs rest:IX)(hi:gD G Φ it)(hts:iZ G Φ ifs)(hr:i0 G Φ rest)(wf:G.Wf):i0 G Φ (.gen tup slots it ifs rest):=by
 intro sc Rc elt gens scope pos depth Re A O ω ρ s E D ds k Q hc hz C hD hDF hDw hsl hnd R hp acc hlen hk
 generalize hg:gens.drop (depth+1)=gs0 at hc
 cases gs0<;>first | (exact absurd hc MY) | skip
 rename_i g0 gs
 obtain⟨tgt,iter,tests,asy⟩:=g0
 replace hc:(asy==0&&fW iter&&eS Φ it sc Rc iter&&fV tup slots sc Rc tgt&&ca Φ ifs sc Rc tests&&gy Φ rest sc Rc gs elt)=true:=hc
 refine oP hc fun h1 hns hci hct hcl hcg=>?_
 cases NY h1
 have hg1:gens[depth+1]? = some ⟨tgt,iter,tests,0⟩:=by
  rw[<- List.head?_drop,hg];rfl
 have hg2:gens.drop (depth+1+1)=gs:=by
  rw[<- List.drop_drop,hg];rfl
 rw[show gx (.gen tup slots it ifs rest)=slots++gx rest from rfl]at hsl hnd
 simp only[aI]at hsl
 have hdG:ft Φ (.gen tup slots it ifs rest) ρ=(bX Φ it ρ).flatMap fun d=>if dH Φ ifs (ao tup slots d ρ)=true then ft Φ rest (ao tup slots d ρ)else[]:=rfl
 rw[hdG]at hlen hk
 have R1:aK (max (kx Φ it) (max (kx Φ ifs) (kx Φ rest))) A:=R.le (oF _)
 unfold jB
 rw[hg1]
 dsimp only
 refine NM (NS (hi sc Rc iter false Re A O ω ρ s E hci C (R1.le (aT _ _)) hp.1) (fun x s₁ h₁=>?_) fun U U x=>x)
 refine aj h₁ fun k01 h₁=>?_
 refine NM (Od (NM (PT (pp hns) (NM (N8 (NS (h₁ E) (fun itv s₂ h₂=>?_) fun U U x=>x))))))
 obtain⟨k12,I,fp,wr,P,St,rfl,W,hst,hfp,⟨rfl,hI₁⟩,hf,htame,hIfp,hit⟩:=h₂
 have C1:=C.keeps wf k01
 have hnI:¬O I:=fun q=>by refine x11 (C1.ok.obs I q) fun o e=>?_;rw[hI₁]at e;cases e
 have C2:Cond G Re sc Rc A (fun b=>O b\/b=I) ω ρ s₂:=C1.grow wf k12 (fun b q=>.inl q) (fun b q=>by
  rcases q with q | rfl
  ·exact .inl q
  ·exact .inr hI₁) fun b q=>by
  rcases q with q | rfl
  ·refine x11 (C1.ok.obs b q) fun o e=>?_;exact⟨o,ai k12 b o e⟩
  ·refine x22 (htame 0 _ hst) fun o U e U=>?_;exact⟨o,e⟩
 have a2:AccIs G (fun b=>O b\/b=I) D s₂.heap ds:=(acc.keeps k01).grow k12 fun b q=>by
  rcases q with q | rfl
  ·exact .inl q
  ·exact .inr hI₁
 have loop:O3 (NP G.prog G.w) A (.compLoop (.ListComp elt gens scope pos) (depth+1) (.ref I) (.ref D) Re)
  (fun r s'=>match r with | .ok f=>NN (NP G.prog G.w) A k Q E s' | .error e=>cameBackBy (NP G.prog G.w) A Re E e s') s₂:=by
  refine wJ (O:=O) (Mh:=O) (h₀:=s₁.heap) (ρ':=fun d=>ao tup slots d ρ) (T:=fun d=>dH Φ ifs (ao tup slots d ρ)) (f:=fun d=>ft Φ rest (ao tup slots d ρ)) wf hz hg1 C2 (fun b i e=>(C.om b i e).1) C.fr C.fc (fun b q=>q▸hnI) hD hDF a2 (LoopSrc.of W htame hit) hst
   (fun b hb q=>hf rfl b hb (q.elim (C.fr b) fun z=>z▸hD)) (fun b o e q=>q.elim (fun q=>q.elim (C.fr b) fun z=>z▸hD) fun q=>by
    rw[q,hI₁]at e;cases e) (fun b o U e=>ai k12 b o e) (fun d U=>wL fun i hi=>(hsl i (.inl hi)).1)
   (fun i v h s hP U kept C=>wK wf (fun i hi=>(hsl i (.inl hi)).2) hct (fun d hd=>(hp.2 d hd).1) (fun b o e q=>q.elim id fun q=>by
    rw[q,hI₁]at e;cases e) hP kept C)
   (fun d hd O' s E U C=>hts sc Rc tests Re A O' ω _ s E hcl C (R1.le (ae (aT _ _) (aE _ _))) (hp.2 d hd).2.1)
   (fun d hd hT O' ds' s k Q E U C hD a hl hk=>?_) hlen ?_
  ·refine hr sc Rc elt gens scope pos (depth+1) Re A O' ω _ s E D ds' k Q (hg2▸hcg) hz C hD hDF hDw (fun i hi=>⟨?_,(hsl i (.inr hi)).2⟩) (c7.mp hnd).2.1 (R1.le (ae (aE _ _) (aE _ _))) ((hp.2 d hd).2.2 hT) a hl hk
   rw[r0 fun q=>(c7.mp hnd).2.2 i q i hi rfl]
   exact(hsl i (.inr hi)).1
  ·intro s' ki C' a'
   exact hk s' ((KM.of k01).trans (ki.km (V:=(· = I)) k12 fun b q=>q▸hI₁)) C' a'
 exact NM (wpAny_runOwn (wE hg1 loop fun E=>W.self 0 _ _ _ hst loop))
set_option tactic.hygienic true in
theorem Ea(e:IX):∀ {sc:Scope} {Rc:List (Option Str)} {gs:List Oz} {elt:Expr},gy Φ e sc Rc gs elt=true->iV gs=true:=by
 induction e with
 | gen tup slots it ifs rest _ _ ih =>
  intro sc Rc gs elt h
  cases gs<;>first | (exact absurd h MY) | skip
  rename_i g0 gs
  obtain⟨tgt,iter,tests,asy⟩:=g0
  replace h:(asy==0&&fW iter&&eS Φ it sc Rc iter&&fV tup slots sc Rc tgt&&ca Φ ifs sc Rc tests&&gy Φ rest sc Rc gs elt)=true:=h
  refine oP h fun h1 hns hci hct hcl hcg=>?_
  cases NY h1
  have:=ih hcg
  unfold iV at this ⊢
  simp[List.all_cons,this]
 | emit e _ =>
  intro sc Rc gs elt h
  cases gs<;>first | (exact absurd h MY) | rfl
 | _=>intro sc Rc gs elt h;exact absurd h MY
theorem wX{use:Option (NO->Sem Unit)}{pos':Pos}{Q:NO->NL->Prop}{n:Nat}{tup:Bool}{slots:List Nat}{it ifs rest:IX}{sc:Scope}{Rc:List (Option Str)}{Re:Env}{A:N0}{O:NQ->Prop}{ω:NQ->Option Nat}{ρ:List SV}{s:NL}{E:NO->NL->Prop}
 {elt:Expr} {g:Oz} {gs:List Oz} {scope:Scope} {pos:Pos} {t:Bool} (hi:gD G Φ it) (hts:iZ G Φ ifs) (hr:i0 G Φ rest) (wf:G.Wf) (hc:chk Φ (.comp n tup slots it ifs rest) sc Rc (.ListComp elt (g::gs) scope pos)=true)
 (C:Cond G Re sc Rc A O ω ρ s) (R:aK (kx Φ (.comp n tup slots it ifs rest)) A) (hp:pre Φ (.comp n tup slots it ifs rest) t ρ)
 (hfin:∀(D C:NQ) s' m,NX s s'->s.heap.get? C=none->D≠C->s'.heap.Ns C m->Rep (fun b=>O b\/b=C) s'.heap (.ref D) (den Φ (.comp n tup slots it ifs rest) ρ)->compPost (NP G.prog G.w) A E use Q (.ref D) C (.ok .next) s') :
 NN (NP G.prog G.w) A (comprehension (.ListComp elt (g::gs) scope pos) scope Re pos' (newList []) (firstAsync (g::gs)) (firstIter (g::gs) Re) use) Q E s:=by
 obtain⟨tgt,iter,tests,asy⟩:=g
 replace hc:(asy==0&&fW iter&&eS Φ it sc Rc iter&&mx sc scope (fU (⟨tgt,iter,tests,asy⟩::gs)) &&
  n==(fU (⟨tgt,iter,tests,asy⟩::gs)).length&&decide (slots++gx rest).Nodup&&((slots++gx rest).all fun i=>decide (Rc.length<=i)) &&
  (fV tup slots (cE sc scope) (cX scope Rc (fU (⟨tgt,iter,tests,asy⟩::gs))) tgt&&ca Φ ifs (cE sc scope) (cX scope Rc (fU (⟨tgt,iter,tests,asy⟩::gs))) tests &&
  gy Φ rest (cE sc scope) (cX scope Rc (fU (⟨tgt,iter,tests,asy⟩::gs))) gs elt))=true:=hc
 refine vB hc fun h1 hns hci hso h5 hnd hle h8=>?_
 refine eD h8 fun hct hcl hcg=>?_
 clear hc h8
 cases NY h1
 cases NY h5
 have hnd:=of_decide_eq_true hnd
 have hle:∀i∈slots++gx rest,Rc.length<=i:=fun i hi=>of_decide_eq_true (bt.mp hle i hi)
 have R1:aK (max (kx Φ it) (max (kx Φ ifs) (kx Φ rest))) A:=R.le (oF _)
 have so:=SOk.of hso
 have hasy:iV (⟨tgt,iter,tests,0⟩::gs)=true:=by
  have:=Ea rest hcg
  unfold iV at this ⊢
  simp[List.all_cons,this]
 clear hso h1 h5
 generalize hv:fU (⟨tgt,iter,tests,0⟩::gs)=vars at *
 have unAt:∀i,Rc.length<=i->(ρ++cg vars.length SV.un).getD i .un=.un:=fun i hi=>by
  rw[av,L9 (by rw[C.len];exact hi),List.getElem?_replicate]
  split<;>rfl
 refine wR (its:=bX Φ it ρ) (ρ':=fun d=>ao tup slots d (ρ++cg vars.length SV.un)) (T:=fun d=>dH Φ ifs (ao tup slots d (ρ++cg vars.length SV.un))) (f:=fun d=>ft Φ rest (ao tup slots d (ρ++cg vars.length SV.un)))
  wf C hasy hns so (fun E=>NS (hi sc Rc iter true Re A O ω ρ s E hci C (R1.le (aT _ _)) hp.1) (fun x s₁ h₁=>⟨h₁.1,fun E=>NS (h₁.2 E) (fun it s₂ h₂=>⟨h₂.1,_,h₂.2.toG,fun O' hO' Re i v h s hsto hP U kept K=>wK wf (fun i q=>hsto i (hle i (cQ _ q))) hct (fun d hd=>(hp.2.1 d hd).1) hO' hP (fun b o U e=>kept b o e) K⟩) fun U U e=>e⟩) fun U U e=>e)
  (fun d U=>wL fun i q=>unAt i (hle i (cQ _ q)))
  (fun d hd env' O' s E U K=>hts _ _ tests env' A O' ω _ s E hcl K (R1.le (ae (aT _ _) (aE _ _))) (hp.2.1 d hd).2.1)
  (fun d hd hT env' D O' ds' s k Q E hsto U K hD hDF hDw a hl hk=>?_) (ae hp.2.2 (by decide)) fun D C s' m h1 h2 U h3 h4 r=>hfin D C s' m h1 h2 h3 h4 r
 refine hr _ _ elt _ scope pos 0 env' A O' ω _ s E D ds' k Q hcg hasy K hD hDF hDw (fun i hi=>⟨?_,hsto i (hle i (cG _ hi))⟩) (c7.mp hnd).2.1 (R1.le (ae (aE _ _) (aE _ _)))
  ((hp.2.1 d hd).2.2 hT) a hl hk
 rw[r0 fun q=>(c7.mp hnd).2.2 i q i hi rfl]
 exact unAt i (hle i (cG _ hi))
theorem Ec(n:Nat)(tup:Bool)(slots:List Nat)(it ifs rest:IX)(hi:gD G Φ it)(hts:iZ G Φ ifs)(hr:i0 G Φ rest)(wf:G.Wf):aV G Φ (.comp n tup slots it ifs rest):=by
 intro sc Rc ast t Re A O ω ρ s E hc C R hp
 revert hc
 refine fun hc=>vW (P:=fun ast=>chk Φ (.comp n tup slots it ifs rest) sc Rc ast=true->NN (NP G.prog G.w) A (N6 ast Re) (ck t O s (den Φ (.comp n tup slots it ifs rest) ρ)) E s) hc (fun elt gens scope pos U hc=>?_) hc
 cases gens with
 | nil=>exact absurd hc MY
 | cons g gs =>
  rw[eval_ListComp]
  refine wX hi hts hr wf hc C R hp fun D C s' m k hC hDC hm r=>?_
  exact Dv k hC hm r fun v s' h=>⟨h.1,.of h.2⟩
end
section
variable{G:Glo}{Φ:List FEntry}
theorem Snd.ofE(h:aV G Φ e/\du G Φ e)(h1:∀sc Rc asts,ca Φ e sc Rc asts=false)(h2:∀sc Rc oe,jy Φ e sc Rc oe=false)(h3:∀sc Rc ast,eS Φ e sc Rc ast=false)
 (h4:∀sc Rc gs elt,gy Φ e sc Rc gs elt=false):Snd G Φ e :=
 let⟨a1,a2,a3,a6⟩:=r8 (G:=G) h1
 ⟨h.1,h.2,a1,r9 h2,a2,a3,a6,pr h3,pq h4⟩
theorem Snd.ofI(h:gD G Φ e)(h0:∀sc Rc ast,chk Φ e sc Rc ast=false)(h1:∀sc Rc asts,ca Φ e sc Rc asts=false)(h2:∀sc Rc oe,jy Φ e sc Rc oe=false)
 (h4:∀sc Rc gs elt,gy Φ e sc Rc gs elt=false):Snd G Φ e :=
 let⟨a1,a2,a3,a6⟩:=r8 (G:=G) h1
 ⟨(i4 h0).1,(i4 h0).2,a1,r9 h2,a2,a3,a6,h,pq h4⟩
theorem Snd.ofG(h:i0 G Φ e)(h0:∀sc Rc ast,chk Φ e sc Rc ast=false)(h1:∀sc Rc asts,ca Φ e sc Rc asts=false)(h2:∀sc Rc oe,jy Φ e sc Rc oe=false)
 (h3:∀sc Rc ast,eS Φ e sc Rc ast=false):Snd G Φ e :=
 let⟨a1,a2,a3,a6⟩:=r8 (G:=G) h1
 ⟨(i4 h0).1,(i4 h0).2,a1,r9 h2,a2,a3,a6,pr h3,h⟩
theorem Ed:∀sc Rc ast,chk Φ (.var i) sc Rc ast=true->dI ast=true:=by
 intro sc Rc ast h;exact cP (P:=fun ast=>dI ast=true) h fun U U U=>rfl
theorem fx(h:∀sc Rc ast,chk Φ e sc Rc ast=true->dI ast=true)(hv:aV G Φ e):aV G Φ e/\du G Φ e:=⟨hv,Dx hv h⟩
theorem snd(wf:G.Wf)(hF:∀F∈Φ,aM G F):∀e:IX,Snd G Φ e:=by
 intro e
 induction e with
 | var i=>refine .ofE (fx Ed (Dz i)) ?_ ?_ ?_ ?_<;>(intros;rfl)
 | lit d=>refine .ofE (fx (fun U U U h=>oV (P:=fun ast=>dI ast=true) h fun U U U U=>rfl) (DA d)) ?_ ?_ ?_ ?_<;>(intros;rfl)
 | bin op a b iha ihb=>refine .ofE (fx (fun U U U h=>rB (P:=fun ast=>dI ast=true) h fun U U U U U=>rfl) (DB op a b iha.ev ihb.ev wf)) ?_ ?_ ?_ ?_<;>(intros;rfl)
 | cmp op a b iha ihb=>refine .ofE (DC op a b iha.ev ihb.ev wf) ?_ ?_ ?_ ?_<;>(intros;rfl)
 | neg a iha=>refine .ofE ⟨DD a iha.ev,Dy fun ρ=>rfl⟩ ?_ ?_ ?_ ?_<;>(intros;rfl)
 | inv a iha=>refine .ofE (DE a iha.ev iha.tst) ?_ ?_ ?_ ?_<;>(intros;rfl)
 | bop o es ih=>refine .ofE (DR o es ih.bo ih.boT) ?_ ?_ ?_ ?_<;>(intros;rfl)
 | ite c a b ihc iha ihb=>refine .ofE (DF c a b ihc.tst iha.ev ihb.ev iha.tst ihb.tst wf) ?_ ?_ ?_ ?_<;>(intros;rfl)
 | list es ih=>refine .ofE (fx (fun U U U h=>oW (P:=fun ast=>dI ast=true) h fun U U U=>rfl) (DG es ih.ls wf)) ?_ ?_ ?_ ?_<;>(intros;rfl)
 | tup es ih=>refine .ofE (fx (fun U U U h=>lW (P:=fun ast=>dI ast=true) h fun U U U U=>rfl) (DH es ih.ls wf)) ?_ ?_ ?_ ?_<;>(intros;rfl)
 | sub a i iha ihi=>refine .ofE (fx (fun U U U h=>kh (P:=fun ast=>dI ast=true) h fun U U U U=>rfl) (DI a i iha.ev ihi.ev wf)) ?_ ?_ ?_ ?_<;>(intros;rfl)
 | slice a lo hi iha ihl ihh=>refine .ofE (fx (fun U U U h=>kh (P:=fun ast=>dI ast=true) h fun U U U U=>rfl) (DJ a lo hi iha.ev ihl.op ihh.op wf)) ?_ ?_ ?_ ?_<;>(intros;rfl)
 | call f es ih=>refine .ofE (fx (fun U U U h=>kj (P:=fun ast=>dI ast=true) h fun U U U U U=>rfl) (DZ f es ih.ls wf hF)) ?_ ?_ ?_ ?_<;>(intros;rfl)
 | len a iha=>refine .ofE (fx (fun U U U h=>l7 (P:=fun ast=>dI ast=true) h fun U U U U U=>rfl) (D1 a iha.ev wf)) ?_ ?_ ?_ ?_<;>(intros;rfl)
 | sum a iha=>refine .ofE (fx (fun U U U h=>l7 (P:=fun ast=>dI ast=true) h fun U U U U U=>rfl) (D4 a iha.ev wf)) ?_ ?_ ?_ ?_<;>(intros;rfl)
 | join a b iha ihb=>refine .ofE (fx (fun U U U h=>v3 (P:=fun ast=>dI ast=true) h fun U U U U U U=>rfl) (D7 a b iha.ev ihb.ev wf)) ?_ ?_ ?_ ?_<;>(intros;rfl)
 | comp n tup slots it ifs rest ihi iht ihr=>refine .ofE (fx (fun U U U h=>vW (P:=fun ast=>dI ast=true) h fun U U U U U=>rfl) (Ec n tup slots it ifs rest ihi.it iht.ts ihr.gn wf)) ?_ ?_ ?_ ?_<;>(intros;rfl)
 | gen tup slots it ifs rest ihi iht ihr=>refine .ofG (D9 tup slots it ifs rest ihi.it iht.ts ihr.gn wf) ?_ ?_ ?_ ?_<;>(intros;rfl)
 | emit e ih=>refine .ofG (D8 e ih.ev wf) ?_ ?_ ?_ ?_<;>(intros;rfl)
 | range1 a iha=>refine .ofI (DY a iha.ev wf) ?_ ?_ ?_ ?_<;>(intros;rfl)
 | seq e ih=>refine .ofI (DU e ih.ev wf) ?_ ?_ ?_ ?_<;>(intros;rfl)
 | nil =>
  have h0:∀sc Rc ast,chk Φ .nil sc Rc ast=false:=fun U U U=>rfl
  exact⟨(i4 h0).1,(i4 h0).2,DL,DM,fun U U U U U U U U U U U U U U U hp=>False.elim hp,fun U U U U U U U U U U U U U U hp U=>False.elim hp,DS,pr (fun U U U=>rfl),pq (fun U U U U=>rfl)⟩
 | cons a b iha ihb =>
  have h0:∀sc Rc ast,chk Φ (.cons a b) sc Rc ast=false:=fun U U U=>rfl
  exact⟨(i4 h0).1,(i4 h0).2,DK a b iha.ev ihb.ls wf,DO a b iha.ev,DP a b iha.ev ihb.bo wf,DQ a b iha.tst ihb.boT wf,DT a b iha.tst ihb.ts wf,pr (fun U U U=>rfl),pq (fun U U U U=>rfl)⟩
end
set_option genCtorIdx false
inductive Fl where
 | next
 | brk
 | ret (d:NR)
noncomputable def Fl.ctorIdx(t:Fl):Nat:=Fl.casesOn t 0 1 (fun U=>2)
noncomputable def kG(G:Glo)(O:NQ->Prop)(h:N9):Fl->Flow->Prop
 | .next,fl=>fl=.next
 | .brk,fl=>fl=.brk
 | .ret d,fl=>∃v,fl=.ret v/\Rep O h v d
noncomputable def al(A:N0)(b:NQ):Prop:=∃l,A.frames=some l/\b∈l.filterMap (·.frame)
noncomputable def Fz(X:Bool)(A:N0)(b:NQ):Prop:=X=true/\al A b
inductive KS(F M:NQ->Prop)(s s':NL):Prop where
 | mk (h':N9) (t:Nat) (e:s'={ s with heap:=h',toks:=t }) (k:∀b o,¬M b->s.heap.get? b=some o->∃sl,h'.get? b=some { o with slots:=sl }/\(¬F b->sl=o.slots)) (th:∀b o,s.heap.get? b=some o->∃o',h'.get? b=some o'):KS F M s s'
section
variable{F F' M M':NQ->Prop}{s s' s'' s₀:NL}
theorem KS.of(k:KM M s s'):KS F M s s':=by
 obtain⟨h,t,rfl,k,e⟩:=k
 exact⟨h,t,rfl,fun b o n q=>⟨o.slots,k b o n q,fun U=>rfl⟩,e⟩
theorem KS.km(k:KS (fun U=>False) M s s'):KM M s s':=by
 obtain⟨h,t,rfl,k,e⟩:=k
 exact⟨h,t,rfl,fun b o n q=>by
  refine x12 (k b o n q) fun sl q1 q2=>?_
  rw[q1,q2 id],e⟩
theorem KS.get(x:KS F M s s'):∀b o,¬M b->¬F b->s.heap.get? b=some o->s'.heap.get? b=some o:=by
 obtain⟨h',t,rfl,k,e⟩:=x
 intro b o n nf q
 refine x12 (k b o n q) fun sl q1 q2=>?_
 rw[q1,q2 nf]
theorem KS.slot(x:KS F M s s'):∀b o,¬M b->s.heap.get? b=some o->∃sl,s'.heap.get? b=some { o with slots:=sl }:=by
 obtain⟨h',t,rfl,k,e⟩:=x
 intro b o n q
 refine x12 (k b o n q) fun sl q1 q2=>?_
 exact⟨sl,q1⟩
theorem KS.there(x:KS F M s s'):∀b o,s.heap.get? b=some o->∃o',s'.heap.get? b=some o':=by
 obtain⟨h',t,rfl,k,e⟩:=x;exact e
theorem KS.back(x:KS F M s s')(h:s'.heap.get? b=none):s.heap.get? b=none:=by
 cases e:s.heap.get? b with
 | none=>rfl
 | some o=>refine x11 (x.there b o e) fun o' e'=>?_;rw[h]at e';cases e'
theorem KS.mono(x:KS F M s s')(hM:∀b,M b->M' b)(hF:∀b,F b->F' b):KS F' M' s s':=by
 obtain⟨h',t,rfl,k,e⟩:=x
 exact⟨h',t,rfl,fun b o n q=>(k b o (fun z=>n (hM b z)) q).elim fun sl ζ=>ζ.elim fun q1 q2=>⟨sl,q1,fun z=>q2 fun y=>z (hF b y)⟩,e⟩
theorem KS.trans(x:KS F M s s')(y:KS F M s' s''):KS F M s s'':=by
 obtain⟨h,t,rfl,k,e⟩:=x
 obtain⟨h',t',rfl,k',e'⟩:=y
 refine⟨h',t',rfl,fun b o n q=>?_,fun b o q=>(e b o q).elim fun o' q'=>e' b o' q'⟩
 refine x12 (k b o n q) fun sl q1 q2=>?_
 refine x12 (k' b _ n q1) fun sl' q1' q2'=>?_
 exact⟨sl',q1',fun nf=>by rw[q2' nf,<- q2 nf]⟩
theorem KS.trans'(x:KS F M s s')(y:KS F N s' s'')(h:∀b,N b->M b\/s.heap.get? b=none):KS F M s s'':=by
 obtain⟨h1,t,rfl,k,e⟩:=x
 obtain⟨h',t',rfl,k',e'⟩:=y
 refine⟨h',t',rfl,fun b o n q=>?_,fun b o q=>(e b o q).elim fun o' q'=>e' b o' q'⟩
 refine x12 (k b o n q) fun sl q1 q2=>?_
 obtain⟨sl',q1',q2'⟩:=k' b _ (fun z=>by
  rcases h b z with z | z
  ·exact n z
  ·rw[z]at q;cases q) q1
 exact⟨sl',q1',fun nf=>by rw[q2' nf,<- q2 nf]⟩
end
noncomputable def MO(Re:Env)(ω:NQ->Option Nat)(b:NQ):Prop:=ba Re b\/∃i,ω b=some i
structure Step(F:NQ->Prop)(Re:Env)(O:NQ->Prop)(ω:NQ->Option Nat)(s:NL)(O':NQ->Prop)(ω':NQ->Option Nat)(s':NL):Prop where
 km:KS F (MO Re ω) s s'
 o1:∀b,O b->(∀i,ω b≠some i)->O' b
 o2:∀b,O' b->O b\/s.heap.get? b=none
 w2:∀b i,ω' b=some i->ω b=some i\/s.heap.get? b=none
section
variable{F:NQ->Prop}{Re:Env}{O O' O'':NQ->Prop}{ω ω' ω'':NQ->Option Nat}{s s' s'':NL}
theorem jG(k:KM M s s')(h:s'.heap.get? b=none):s.heap.get? b=none:=by
 cases e:s.heap.get? b with
 | none=>rfl
 | some o=>refine x11 (k.there b o e) fun o' e'=>?_;rw[h]at e';cases e'
theorem Step.refl(F:NQ->Prop)(Re:Env)(O:NQ->Prop)(ω:NQ->Option Nat)(s:NL):Step F Re O ω s O ω s:=⟨KS.of (KM.of (bk s)),fun U h U=>h,fun U h=>.inl h,fun U U h=>.inl h⟩
theorem Step.keeps(k:NX s s'):Step F Re O ω s O ω s':=⟨KS.of (KM.of k),fun U h U=>h,fun U h=>.inl h,fun U U h=>.inl h⟩
theorem Step.frame(k:KM (ba Re) s s'):Step F Re O ω s O ω s':=⟨KS.of (k.mono fun U q=>.inl q),fun U h U=>h,fun U h=>.inl h,fun U U h=>.inl h⟩
theorem Step.trans(hob:∀b,O b->∃o,s.heap.get? b=some o)(x:Step F Re O ω s O' ω' s')(y:Step F Re O' ω' s' O'' ω'' s''):Step F Re O ω s O'' ω'' s'' where
 km:=x.km.trans' y.km fun b z=>by
  rcases z with z | ⟨i,z⟩
  ·exact .inl (.inl z)
  ·rcases x.w2 b i z with z | z
   ·exact .inl (.inr ⟨i,z⟩)
   ·exact .inr z
 o1:=fun b h n=>y.o1 b (x.o1 b h n) fun i z=>by
  rcases x.w2 b i z with z | z
  ·exact n i z
  ·refine x11 (hob b h) fun o e=>?_;rw[z]at e;cases e
 o2:=fun b h=>by
  rcases y.o2 b h with h | h
  ·exact x.o2 b h
  ·exact .inr (x.km.back h)
 w2:=fun b i h=>by
  rcases y.w2 b i h with h | h
  ·exact x.w2 b i h
  ·exact .inr (x.km.back h)
end
noncomputable def i5(l:List Env)(h:N9):Prop:=∀e∈l,e.scope.kind≠.module/\∃L o es n,e.frame=some L/\h.get? L=some o/\o.data=.dict es n
structure FX(A:N0)(O:NQ->Prop)(ω:NQ->Option Nat)(s:NL):Prop where
 fr:∃l,A.frames=some l/\i5 l s.heap
 fo:∀b,al A b->O b
 fw:∀b i,ω b=some i->¬al A b
 hn:A.handled=none
section
variable{A:N0}{F:NQ->Prop}{O O':NQ->Prop}{ω ω':NQ->Option Nat}{s s':NL}
theorem FX.dict(x:FX A O ω s)(hb:al A b):∃o es n,s.heap.get? b=some o/\o.data=.dict es n:=by
 refine x12 x.fr fun l e hl=>?_
 refine x12 hb fun l' e' hb=>?_
 rw[e]at e';cases e'
 refine x12 (Nw.mp hb) fun v hv hf=>?_
 obtain⟨_,L,o,es,n,h1,h2,h3⟩:=hl v hv
 rw[h1]at hf;cases hf
 exact⟨o,es,n,h2,h3⟩
theorem FX.keeps(x:FX A O ω s)(k:NX s s'):FX A O ω s' :=
 ⟨x.fr.elim fun l ζ=>ζ.elim fun e hl=>⟨l,e,fun v hv=>(hl v hv).elim fun h1 ζ=>ζ.elim fun L ζ=>ζ.elim fun o ζ=>ζ.elim fun es ζ=>ζ.elim fun n ζ=>ζ.elim fun h2 ζ=>ζ.elim fun h3 h4=>⟨h1,L,o,es,n,h2,ai k _ _ h3,h4⟩⟩,x.fo,x.fw,x.hn⟩
theorem FX.by(x:FX A O ω s)(k:KS F M s s')(hd:∀b,M b->al A b->∃o es n,s'.heap.get? b=some o/\o.data=.dict es n)(ho:∀b,al A b->O' b)(hw:∀b i,ω' b=some i->¬al A b):FX A O' ω' s':=by
 refine x12 x.fr fun l e hl=>?_
 refine⟨⟨l,e,fun v hv=>?_⟩,ho,hw,x.hn⟩
 obtain⟨h1,L,o,es,n,h2,h3,h4⟩:=hl v hv
 have hL:al A L:=⟨l,e,Nw.mpr ⟨v,hv,h2⟩⟩
 by_cases hM:M L
 ·refine x32 (hd L hM hL) fun o' es' n' q1 q2=>?_
  exact⟨h1,L,o',es',n',h2,q1,q2⟩
 ·refine x11 (k.slot L o hM h3) fun sl q=>?_
  exact⟨h1,L,_,es,n,h2,q,h4⟩
theorem FX.step(x:FX A O ω s)(C:Cond G Re sc Rc A O ω ρ s)(S:Step F Re O ω s O' ω' s')(C':Cond G Re sc Rc A O' ω' ρ' s'):FX A O' ω' s':=by
 refine x.by S.km (fun b hM hb=>?_) (fun b hb=>S.o1 b (x.fo b hb) fun i q=>x.fw b i q hb) fun b i q hb=>?_
 ·rcases hM with hM | ⟨i,hM⟩
  ·refine x32 (x.dict hb) fun o es n h1 h2=>?_
   rcases hM with rfl | ⟨_,y,hk,hc⟩
   ·obtain⟨_,F',_⟩:=C'.vars
    refine x12 F'.loc fun m z1 U=>?_;refine x33 z1 fun o' es' ep q1 q2 U=>?_
    exact⟨o',es',ep,q1,q2⟩
   ·obtain⟨_,F',_⟩:=C.vars
    obtain⟨c,e1,o',q1,q2⟩:=F'.cel y (.inl hk)
    rw[hc]at e1;cases e1
    rw[h1]at q1;cases q1;rw[h2]at q2;cases q2
  ·exact absurd hb (x.fw b i hM)
 ·rcases S.w2 b i q with q | q
  ·exact x.fw b i q hb
  ·refine x32 (x.dict hb) fun o es n h1 U=>?_
   rw[q]at h1;cases h1
end
structure FXE(Re:Env)(A:N0)(O:NQ->Prop)(ω:NQ->Option Nat)(s:NL):Prop extends FX A O ω s where
 top:∃outer,A.frames=some (Re::outer)
 ef:Re.frame=some Re.locals
theorem FXE.keeps(x:FXE Re A O ω s)(k:NX s s'):FXE Re A O ω s':=⟨x.toFX.keeps k,x.top,x.ef⟩
theorem FXE.step(x:FXE Re A O ω s)(C:Cond G Re sc Rc A O ω ρ s)(S:Step F Re O ω s O' ω' s')(C':Cond G Re sc Rc A O' ω' ρ' s'):FXE Re A O' ω' s' :=
 ⟨x.toFX.step C S C',x.top,x.ef⟩
structure Prim where
 chk:Scope->List (Option Str)->NW->Bool
 k:Nat
 pre:List SV->Prop
 den:List SV->Fl × List SV
inductive SX where
 | skip
 | prim (p:Prim) (r:SX)
 | frz (i:Nat) (r:SX)
 | ite (c:IX) (a b r:SX)
 | for (tup:Bool) (slots:List Nat) (it:IX) (body r:SX)
 | whl (n:Nat) (c:IX) (body r:SX)
noncomputable def SX.ctorIdx(t:SX):Nat:=SX.casesOn t 0 (fun U U=>1) (fun U U=>2) (fun U U U U=>3) (fun U U U U U=>4) (fun U U U U=>5)
noncomputable def eV(x:Fl × List SV)(k:List SV->Fl × List SV):Fl × List SV:=match x with
 | (.next,ρ)=>k ρ
 | (f,ρ)=>(f,ρ)
noncomputable def bQ(f:NR->List SV->Fl × List SV):List NR->List SV->Fl × List SV
 | [],ρ=>(.next,ρ)
 | d::ds,ρ=>match f d ρ with
  | (.next,ρ')=>bQ f ds ρ'
  | (.brk,ρ')=>(.next,ρ')
  | (.ret v,ρ')=>(.ret v,ρ')
theorem mI:bQ f (d::ds) ρ=match f d ρ with
 | (.next,ρ')=>bQ f ds ρ'
 | (.brk,ρ')=>(.next,ρ')
 | (.ret v,ρ')=>(.ret v,ρ'):=rfl
noncomputable def fX(P:NR->List SV->Prop)(f:NR->List SV->Fl × List SV):List NR->List SV->Prop
 | [],_=>True
 | d::ds,ρ=>P d ρ/\match f d ρ with
  | (.next,ρ')=>fX P f ds ρ'
  | _=>True
theorem pu:fX P f (d::ds) ρ=(P d ρ/\match f d ρ with
 | (.next,ρ')=>fX P f ds ρ'
 | _=>True):=rfl
noncomputable def gE(c:List SV->Bool)(f:List SV->Fl × List SV):Nat->List SV->Fl × List SV
 | 0,ρ=>(.next,ρ)
 | n+1,ρ=>if c ρ=true then match f ρ with
  | (.next,ρ')=>gE c f n ρ'
  | (.brk,ρ')=>(.next,ρ')
  | (.ret v,ρ')=>(.ret v,ρ')
  else(.next,ρ)
noncomputable def pv(Pc Pb:List SV->Prop)(c:List SV->Bool)(f:List SV->Fl × List SV):Nat->List SV->Prop
 | 0,_=>False
 | n+1,ρ=>Pc ρ/\(c ρ=true->Pb ρ/\match f ρ with
  | (.next,ρ')=>pv Pc Pb c f n ρ'
  | _=>True)
noncomputable def kH:SV->Prop
 | .own _=>True
 | _=>False
section
variable(Φ:List FEntry)
noncomputable def au:SX->List SV->Fl × List SV
 | .skip,ρ=>(.next,ρ)
 | .prim p r,ρ=>eV (p.den ρ) (au r)
 | .frz i r,ρ=>au r (ρ.set i (.dat (ρ.getD i .un).data))
 | .ite c a b r,ρ=>eV (if aq (den Φ c ρ)=true then au a ρ else au b ρ) (au r)
 | .for tup slots it body r,ρ=>eV (bQ (fun d ρ=>au body (ao tup slots d ρ)) (bX Φ it ρ) ρ) (au r)
 | .whl n c body r,ρ=>eV (gE (fun ρ=>aq (den Φ c ρ)) (au body) n ρ) (au r)
noncomputable def bf:SX->List SV->Prop
 | .skip,_=>True
 | .prim p r,ρ=>p.pre ρ/\∀ρ',p.den ρ=(.next,ρ')->bf r ρ'
 | .frz i r,ρ=>kH (ρ.getD i .un)/\bf r (ρ.set i (.dat (ρ.getD i .un).data))
 | .ite c a b r,ρ=>pre Φ c false ρ/\ec (den Φ c ρ)=true/\(aq (den Φ c ρ)=true->bf a ρ)/\(aq (den Φ c ρ)=false->bf b ρ) /\
  ∀ρ',(if aq (den Φ c ρ)=true then au Φ a ρ else au Φ b ρ)=(.next,ρ')->bf r ρ'
 | .for tup slots it body r,ρ=>gw Φ it false ρ/\fX (fun d ρ=>bindP tup slots d/\bf body (ao tup slots d ρ)) (fun d ρ=>au Φ body (ao tup slots d ρ)) (bX Φ it ρ) ρ /\
  ∀ρ',bQ (fun d ρ=>au Φ body (ao tup slots d ρ)) (bX Φ it ρ) ρ=(.next,ρ')->bf r ρ'
 | .whl n c body r,ρ=>pv (fun ρ=>pre Φ c false ρ/\ec (den Φ c ρ)=true) (bf body) (fun ρ=>aq (den Φ c ρ)) (au Φ body) n ρ /\
  ∀ρ',gE (fun ρ=>aq (den Φ c ρ)) (au Φ body) n ρ=(.next,ρ')->bf r ρ'
noncomputable def kS:SX->Nat
 | .skip=>0
 | .prim p r=>max p.k (kS r)
 | .frz _ r=>kS r
 | .ite c a b r=>max (kx Φ c) (max (kS a) (max (kS b) (kS r)))
 | .for _ _ it body r=>max (kx Φ it) (max (kS body) (kS r))
 | .whl _ c body r=>max (kx Φ c) (max (kS body) (kS r))
noncomputable def cf:SX->Scope->List (Option Str)->List NW->Bool
 | .skip,_,_,st=>v0 st true
 | .prim p r,sc,Rc,st=>vC st fun x rest=>p.chk sc Rc x&&cf r sc Rc rest
 | .frz _ r,sc,Rc,st=>cf r sc Rc st
 | .ite c a b r,sc,Rc,st=>vC st fun x rest=>oS x fun test body orelse U=>chk Φ c sc Rc test&&cf a sc Rc body&&cf b sc Rc orelse&&cf r sc Rc rest
 | .for tup slots it body r,sc,Rc,st=>vC st fun x rest=>lZ x fun target iter bd U=>fW iter&&eS Φ it sc Rc iter&&fV tup slots sc Rc target&&cf body sc Rc bd&&cf r sc Rc rest
 | .whl _ c body r,sc,Rc,st=>vC st fun x rest=>rH x fun test bd U=>chk Φ c sc Rc test&&cf body sc Rc bd&&cf r sc Rc rest
end
section
variable(G:Glo)(Φ:List FEntry)
noncomputable def cZ(X:Bool)(p:Prim):Prop:=∀sc Rc st Re A O ω ρ s E Q,p.chk sc Rc st=true->(∀i,br Re Rc i)->Cond G Re sc Rc A O ω ρ s->(X=true->FXE Re A O ω s)->aK p.k A->p.pre ρ ->
 (∀O' ω' s' fl,Step (Fz X A) Re O ω s O' ω' s'->Cond G Re sc Rc A O' ω' (p.den ρ).2 s'->kG G O' s'.heap (p.den ρ).1 fl->Q fl s')->NN (NP G.prog G.w) A (Oy st Re) Q E s
noncomputable def dX(X:Bool):SX->Prop
 | .skip=>True
 | .prim p r=>cZ G X p/\dX X r
 | .frz _ r=>dX X r
 | .ite _ a b r=>dX X a/\dX X b/\dX X r
 | .for _ _ _ body r=>dX X body/\dX X r
 | .whl _ _ body r=>dX X body/\dX X r
noncomputable def dJ(X:Bool)(S:SX):Prop:=∀sc Rc st Re A O ω ρ s E Q,cf Φ S sc Rc st=true->(∀i,br Re Rc i)->Cond G Re sc Rc A O ω ρ s->(X=true->FXE Re A O ω s)->aK (kS Φ S) A->bf Φ S ρ ->
 (∀O' ω' s' fl,Step (Fz X A) Re O ω s O' ω' s'->Cond G Re sc Rc A O' ω' (au Φ S ρ).2 s'->kG G O' s'.heap (au Φ S ρ).1 fl->Q fl s')->NN (NP G.prog G.w) A (OG st Re) Q E s
end
section
variable{G:Glo}{Φ:List FEntry}{Re:Env}{sc:Scope}{Rc:List (Option Str)}{A:N0}{O O' O'':NQ->Prop}{ω ω':NQ->Option Nat}{ρ:List SV}{s s' s'':NL}{E:NO->NL->Prop}
theorem Step.side{t:Nat}(x:Step F Re O ω s O' ω' s')(hob:∀b,O b->∃o,s.heap.get? b=some o)(hI:s.heap.get? I=none)(h1:∀b,O' b->b≠I->O'' b)(h2:∀b,O'' b->O' b)(hk:∀b o,b≠I->s'.heap.get? b=some o->h'.get? b=some o) :
 Step F Re O ω s O'' ω' { s' with heap:=h',toks:=t } where
 km:=by
  obtain⟨h,t',rfl,k,e⟩:=id x.km
  have ne:∀b o,s.heap.get? b=some o->b≠I:=fun b o e q=>by rw[q,hI]at e;cases e
  exact⟨h',t,rfl,fun b o n q=>(k b o n q).elim fun sl ζ=>ζ.elim fun q1 q2=>⟨sl,hk b _ (ne b o q) q1,q2⟩,fun b o q=>(e b o q).elim fun o' q'=>⟨o',hk b o' (ne b o q) q'⟩⟩
 o1:=fun b h n=>h1 b (x.o1 b h n) fun q=>by
  refine x11 (hob b h) fun o e=>?_
  rw[q,hI]at e;cases e
 o2:=fun b h=>x.o2 b (h2 b h)
 w2:=x.w2
theorem pw(ihr:dJ G Φ X r){x:Fl × List SV}{st:NW}{Q:Flow->NL->Prop}(C:Cond G Re sc Rc A O ω ρ s)(hsto:∀i,br Re Rc i)(hX:X=true->FXE Re A O ω s)(hcr:cf Φ r sc Rc rest=true)(R:aK (kS Φ r) A)
 (hpr:∀ρ',x=(.next,ρ')->bf Φ r ρ')
 (h:∀Q',(∀O' ω' s' fl,Step (Fz X A) Re O ω s O' ω' s'->Cond G Re sc Rc A O' ω' x.2 s'->kG G O' s'.heap x.1 fl->Q' fl s')->NN (NP G.prog G.w) A (Oy st Re) Q' E s)
 (hQ:∀O' ω' s' fl,Step (Fz X A) Re O ω s O' ω' s'->Cond G Re sc Rc A O' ω' (eV x (au Φ r)).2 s'->kG G O' s'.heap (eV x (au Φ r)).1 fl->Q fl s'):NN (NP G.prog G.w) A (OG (st::rest) Re) Q E s:=by
 refine NT (h _ fun O' ω' s' fl hs C' hf=>?_)
 obtain⟨f,ρ'⟩:=x
 cases f with
 | next =>
  cases hf
  exact ihr sc Rc rest Re A O' ω' ρ' s' E Q hcr hsto C' (fun q=>(hX q).step C hs C') R (hpr ρ' rfl) fun O'' ω'' s'' fl hs' C'' hf'=>hQ O'' ω'' s'' fl (hs.trans C.ok.obs hs') C'' hf'
 | brk =>
  cases hf
  exact hQ O' ω' s' .brk hs C' rfl
 | ret d =>
  refine x12 hf fun v e1 hr=>?_;subst e1
  exact hQ O' ω' s' (.ret v) hs C' ⟨v,rfl,hr⟩
theorem Ee:dJ G Φ X .skip:=by
 intro sc Rc st Re A O ω ρ s E Q hc hsto C hX R hp hQ
 exact eE (P:=fun st=>NN (NP G.prog G.w) A (OG st Re) Q E s) (b:=true) hc fun U=>N1 (hQ O ω s .next (Step.refl ..) C rfl)
theorem Eg(p:Prim)(r:SX)(hp':cZ G X p)(ihr:dJ G Φ X r):dJ G Φ X (.prim p r):=by
 intro sc Rc st Re A O ω ρ s E Q hc hsto C hX R hp hQ
 refine cV (P:=fun st=>NN (NP G.prog G.w) A (OG st Re) Q E s) (f:=fun x rest=>p.chk sc Rc x&&cf Φ r sc Rc rest) hc fun x rest hc=>?_
 refine a7 hc fun c1 c2=>?_
 exact pw ihr C hsto hX c2 (R.le (aE _ _)) hp.2 (fun Q' h=>hp' sc Rc x Re A O ω ρ s E Q' c1 hsto C hX (R.le (aT _ _)) hp.1 h) hQ
theorem wY:(ρ.set i x).length=ρ.length:=by simp
theorem wZ{d:NR}(C:Cond G Re sc Rc A O ω ρ s)(F:FrameV Re s.heap val)(V:gz G O ω s.heap Rc ρ val)(hx':Rc[i]? = some (some x))(hi:i<ρ.length)(e1:val x=some (.ref a))(e2:ω a=some i)
 (r:Rep (fun b=>O b/\b≠a) s.heap (.ref a) d):∃O' ω',(∀F,Step F Re O ω s O' ω' s)/\Cond G Re sc Rc A O' ω' (ρ.set i (.dat d)) s:=by
 have hm:=C.om a i e2
 refine⟨fun b=>O b/\b≠a,fun b=>if b=a then none else ω b,fun F=>⟨KS.of (KM.of (bk s)),fun b h n=>⟨h,fun q=>n i (q▸e2)⟩,fun b h=>.inl h.1,fun b j h=>?_⟩,⟨C.eo,C.co,by rw[wY];exact C.len,⟨C.ok.hok,fun b hb q=>C.ok.hno b hb q.1,fun b q=>C.ok.obs b q.1⟩,⟨C.base.kp,fun b q=>C.base.off b q.1⟩,
  fun b q=>⟨C.fr b q,fun z=>hm.2 (z▸q.store)⟩,fun y c e=>⟨C.fc y c e,fun z=>hm.2 (.inr ⟨y,z▸e⟩)⟩,fun b j h=>?_,val,F,fun j y hy=>?_⟩⟩
 ·split at h
  ·cases h
  ·exact .inl h
 ·split at h
  ·cases h
  ·rename_i hne
   exact⟨⟨(C.om b j h).1,hne⟩,(C.om b j h).2⟩
 ·rw[dq]
  by_cases q:i=j
  ·subst q
   rw[if_pos ⟨rfl,hi⟩]
   have:y=x:=by rw[hx']at hy;cases hy;rfl
   subst this
   exact⟨.ref a,e1,r⟩
  ·rw[if_neg fun z=>q z.1]
   replace r:=V j y hy
   generalize ρ.getD j .un=z at r
   cases z with
   | dat d=>refine x12 r fun u e r=>?_;exact⟨u,e,r.weak fun b q=>q.1⟩
   | own d =>
    obtain⟨a',vs',n',ds',f1,f2,f3,g1,g2⟩:=r
    refine⟨a',vs',n',ds',f1,?_,f3,g1,g2.mono (fun U U U e=>e) fun b o U q=>q.1⟩
    show(if a'=a then none else ω a')=some j
    by_cases z:a'=a
    ·rw[z,e2]at f2;cases f2;exact absurd rfl q
    ·rw[if_neg z];exact f2
   | un=>trivial
   | val u=>exact r
   | dic l =>
    refine x13 r fun a' f1 f2 f3=>⟨a',f1,?_,f3⟩
    show(if a'=a then none else ω a')=some j
    by_cases z:a'=a
    ·rw[z,e2]at f2;cases f2;exact absurd rfl q
    ·rw[if_neg z];exact f2
   | sor g =>
    refine x23 r fun u S f1 f2 f3=>?_
    refine⟨u,S,f1,f2,fun b hb=>?_⟩
    show(if b=a then none else ω b)=some j
    by_cases z:b=a
    ·have:=f3 b hb
     rw[z,e2]at this;cases this;exact absurd rfl q
    ·rw[if_neg z];exact f3 b hb
theorem Eh(h:ρ.getD i .un=y)(n:y≠.un):i<ρ.length:=by
 by_cases q:i<ρ.length
 ·exact q
 ·rw[av,M6 (by simpa using q)]at h;exact absurd h.symm n
theorem Ei(wf:G.Wf)(C:Cond G Re sc Rc A O ω ρ s)(ho:kH (ρ.getD i .un)):∃O' ω',(∀F,Step F Re O ω s O' ω' s)/\Cond G Re sc Rc A O' ω' (ρ.set i (.dat (ρ.getD i .un).data)) s:=by
 obtain⟨val,F,V⟩:=C.vars
 cases hx:ρ.getD i .un with
 | own d =>
  have hi:i<ρ.length:=by
   by_cases q:i<ρ.length
   ·exact q
   ·rw[av,M6 (by simpa using q)]at hx;cases hx
  by_cases hct:∃x,Rc[i]? = some (some x)
  ·refine x11 hct fun x hx'=>?_
   have hv:=V i x hx'
   rw[hx]at hv
   obtain⟨a,vs,n,ds,e1,e2,e3,h1,h2⟩:=hv
   subst e3
   exact wZ C F V hx' hi e1 e2 (.list (fun q=>q.2 rfl) h1 (h2.mono (fun U U U e=>e) fun b o U q=>q.1))
  ·refine⟨O,ω,fun F=>Step.refl ..,⟨C.eo,C.co,by rw[wY];exact C.len,C.ok,C.base,C.fr,C.fc,C.om,val,F,fun j y hy=>?_⟩⟩
   have hne:¬(i=j/\i<ρ.length):=fun z=>hct ⟨y,by rw[z.1];exact hy⟩
   rw[dq,if_neg hne]
   exact V j y hy
 | un=>rw[hx]at ho;exact ho.elim
 | val d=>rw[hx]at ho;exact ho.elim
 | dat d=>rw[hx]at ho;exact ho.elim
 | sor g=>rw[hx]at ho;exact ho.elim
 | dic l=>rw[hx]at ho;exact ho.elim
end
section
variable{G:Glo}{Φ:List FEntry}
theorem Ej(i:Nat)(r:SX)(wf:G.Wf)(ihr:dJ G Φ X r):dJ G Φ X (.frz i r):=by
 intro sc Rc st Re A O ω ρ s E Q hc hsto C hX R hp hQ
 refine x22 (Ei wf C hp.1) fun O' ω' hs C'=>?_
 exact ihr sc Rc st Re A O' ω' _ s E Q hc hsto C' (fun q=>(hX q).step C (hs (Fz X A)) C') R hp.2 fun O'' ω'' s'' fl hs' C'' hf=>hQ O'' ω'' s'' fl ((hs _).trans C.ok.obs hs') C'' hf
theorem Ek(c:IX)(a b r:SX)(wf:G.Wf)(ihc:du G Φ c)(iha:dJ G Φ X a)(ihb:dJ G Φ X b)(ihr:dJ G Φ X r):dJ G Φ X (.ite c a b r):=by
 intro sc Rc st Re A O ω ρ s E Q hc hsto C hX R hp hQ
 refine cV (P:=fun st=>NN (NP G.prog G.w) A (OG st Re) Q E s) (f:=fun x rest=>oS x fun test body orelse U=>chk Φ c sc Rc test&&cf Φ a sc Rc body&&cf Φ b sc Rc orelse&&cf Φ r sc Rc rest) hc fun x rest hc=>?_
 refine vF (P:=fun x=>NN (NP G.prog G.w) A (OG (x::rest) Re) Q E s) hc fun test body orelse pos hc=>?_
 refine fm hc fun c1 c2 c3 c4=>?_
 replace R:aK (max (kx Φ c) (max (kS Φ a) (max (kS Φ b) (kS Φ r)))) A:=R
 refine pw (x:=if aq (den Φ c ρ)=true then au Φ a ρ else au Φ b ρ) ihr C hsto hX c4 (R.le (ae (ae (aE _ _) (aE _ _)) (aE _ _))) hp.2.2.2.2 (fun Q' h=>?_) hQ
 refine Pr (NS (ihc sc Rc test Re A O ω ρ s E c1 C (R.le (aT _ _)) hp.1 hp.2.1) (fun t s₁ h₁=>?_) fun U U x=>x)
 refine aj h₁ fun e0 k1=>?_;subst e0
 have C1:=C.keeps wf k1
 cases ht:aq (den Φ c ρ)with
 | true =>
  rw[ht]at h
  rw[if_pos rfl]at h ⊢
  exact iha sc Rc body Re A O ω ρ s₁ E Q' c2 hsto C1 (fun q=>(hX q).keeps k1) (R.le (ae (aT _ _) (aE _ _))) (hp.2.2.1 ht) fun O' ω' s' fl hs C' hf=>h O' ω' s' fl ((Step.keeps k1).trans C.ok.obs hs) C' hf
 | false =>
  rw[ht]at h
  rw[if_neg MY]at h ⊢
  exact ihb sc Rc orelse Re A O ω ρ s₁ E Q' c3 hsto C1 (fun q=>(hX q).keeps k1) (R.le (ae (ae (aT _ _) (aE _ _)) (aE _ _))) (hp.2.2.2.1 ht) fun O' ω' s' fl hs C' hf=>h O' ω' s' fl ((Step.keeps k1).trans C.ok.obs hs) C' hf
inductive WInv(X:Bool)(G:Glo)(Re:Env)(sc:Scope)(Rc:List (Option Str))(A:N0)(O:NQ->Prop)(ω:NQ->Option Nat)(s:NL)(F:Nat->List SV->Prop)(m:Nat)(sk:NL):Prop where
 | mk (ρk:List SV) (Ok:NQ->Prop) (ωk:NQ->Option Nat) (h:F m ρk) (st:Step (Fz X A) Re O ω s Ok ωk sk) (C:Cond G Re sc Rc A Ok ωk ρk sk):WInv X G Re sc Rc A O ω s F m sk
theorem El:gE c f (n+1) ρ=if c ρ=true then(match f ρ with | (.next,ρ')=>gE c f n ρ' | (.brk,ρ')=>(.next,ρ') | (.ret v,ρ')=>(.ret v,ρ'))else(.next,ρ):=rfl
theorem Em(n:Nat)(c:IX)(body r:SX)(wf:G.Wf)(ihc:du G Φ c)(ihb:dJ G Φ X body)(ihr:dJ G Φ X r):dJ G Φ X (.whl n c body r):=by
 intro sc Rc st Re A O ω ρ s E Q hc hsto C hX R hp hQ
 refine cV (P:=fun st=>NN (NP G.prog G.w) A (OG st Re) Q E s) (f:=fun x rest=>rH x fun test bd U=>chk Φ c sc Rc test&&cf Φ body sc Rc bd&&cf Φ r sc Rc rest) hc fun x rest hc=>?_
 refine Co (P:=fun x=>NN (NP G.prog G.w) A (OG (x::rest) Re) Q E s) hc fun test bd pos hc=>?_
 refine eD hc fun c1 c2 c3=>?_
 replace R:aK (max (kx Φ c) (max (kS Φ body) (kS Φ r))) A:=R
 refine pw (x:=gE (fun ρ=>aq (den Φ c ρ)) (au Φ body) n ρ) ihr C hsto hX c3 (R.le (ae (aE _ _) (aE _ _))) hp.2 (fun Q' h=>?_) hQ
 generalize hF:(fun m ρk=>pv (fun ρ=>pre Φ c false ρ/\ec (den Φ c ρ)=true) (bf Φ body) (fun ρ=>aq (den Φ c ρ)) (au Φ body) m ρk/\gE (fun ρ=>aq (den Φ c ρ)) (au Φ body) n ρ=gE (fun ρ=>aq (den Φ c ρ)) (au Φ body) m ρk)=F
 refine wpAny_While (PC (WInv X G Re sc Rc A O ω s F) ?_ n ⟨ρ,O,ω,hF▸⟨hp.1,rfl⟩,Step.refl ..,C⟩)
 rintro m sk ⟨ρk,Ok,ωk,hw,hst,Ck⟩
 rw[<- hF]at hw
 refine aj hw fun hw he=>?_
 cases m with
 | zero=>exact hw.elim
 | succ m =>
  refine NS (ihc sc Rc test Re A Ok ωk ρk sk _ c1 Ck (R.le (aT _ _)) hw.1.1 hw.1.2) (fun t s₁ h₁=>?_) fun U U x=>x
  refine aj h₁ fun e0 k1=>?_;subst e0
  have C1:=Ck.keeps wf k1
  have hst1:=hst.trans C.ok.obs (Step.keeps k1)
  replace he:=he.trans (El ..)
  cases ht:aq (den Φ c ρk)with
  | true =>
   rw[if_pos ht]at he
   rw[if_pos rfl]
   refine aj (hw.2 ht) fun hpb hnx=>?_
   refine ihb sc Rc bd Re A Ok ωk ρk s₁ _ _ c2 hsto C1 (fun q=>(hX q).step C hst1 C1) (R.le (ae (aT _ _) (aE _ _))) hpb fun O' ω' s' fl hs C' hf=>?_
   have hs':=hst1.trans C.ok.obs hs
   clear hw hpb
   generalize au Φ body ρk=x at C' hf he hnx
   obtain⟨f,ρ'⟩:=x
   cases f with
   | next =>
    cases hf
    exact⟨m,Nl _,ρ',O',ω',hF▸⟨hnx,he⟩,hs',C'⟩
   | brk =>
    cases hf
    exact h O' ω' s' .next hs' (by rw[he];exact C') (by rw[he];rfl)
   | ret d =>
    refine x12 hf fun v e1 hr=>?_;subst e1
    exact h O' ω' s' (.ret v) hs' (by rw[he];exact C') (by rw[he];exact⟨v,rfl,hr⟩)
  | false =>
   rw[if_neg (by rw[ht];exact MY)]at he
   rw[if_neg MY]
   exact N1 (h Ok ωk s₁ .next hst1 (by rw[he];exact C1) (by rw[he];rfl))
structure FLoc(O:NQ->Prop)(s₁:NL)(I:NQ)(fp:List NQ)(O':NQ->Prop)(ω':NQ->Option Nat)(sk:NL):Prop where
 oI:O' I
 kp:∀b o,¬O b->s₁.heap.get? b=some o->sk.heap.get? b=some o
 fe:∀b∈fp,∃o,sk.heap.get? b=some o
 fO:∀b∈fp,b≠I->¬O' b
 wI:∀j,ω' I≠some j
 OO:∀b o,s₁.heap.get? b=some o->O' b->O b
theorem FLoc.next{M O Ok O':NQ->Prop}{ωk ω':NQ->Option Nat}{s₁ sk s2 s':NL}(L:FLoc O s₁ I fp Ok ωk sk)(hI₁:s₁.heap.get? I=none)
 (hk2:∀b o,b≠I->sk.heap.get? b=some o->s2.heap.get? b=some o) (hoI:∃o,s2.heap.get? I=some o) (hM:∀b,M b->Ok b/\b≠I) (kk:∀b o,¬M b->s2.heap.get? b=some o->s'.heap.get? b=some o)
 (o1:O' I) (o2:∀b,O' b->Ok b\/s2.heap.get? b=none) (w':∀j,ω' I=some j->ωk I=some j\/s2.heap.get? I=none):FLoc O s₁ I fp O' ω' s'/\∀b∈fp,∀o,s2.heap.get? b=some o->s'.heap.get? b=some o:=by
 have back:∀b o,s2.heap.get? b=some o->s2.heap.get? b≠none:=fun b o e q=>by rw[q]at e;cases e
 have fe2:∀b∈fp,∃o,s2.heap.get? b=some o:=fun b hb=>if q:b=I then q▸hoI else(L.fe b hb).elim fun o e=>⟨o,hk2 b o q e⟩
 have keep:∀b∈fp,∀o,s2.heap.get? b=some o->s'.heap.get? b=some o:=fun b hb o e=>kk b o (fun q=>L.fO b hb (hM b q).2 (hM b q).1) e
 have kp2:∀b o,¬O b->s₁.heap.get? b=some o->s2.heap.get? b=some o:=fun b o n e=>hk2 b o (fun q=>by rw[q,hI₁]at e;cases e) (L.kp b o n e)
 refine⟨⟨o1,fun b o n e=>kk b o (fun q=>n (L.OO b o e (hM b q).1)) (kp2 b o n e),fun b hb=>(fe2 b hb).elim fun o e=>⟨o,keep b hb o e⟩,fun b hb n q=>?_,fun j q=>?_,fun b o e q=>?_⟩,keep⟩
 ·exact(o2 b q).elim (L.fO b hb n) fun z=>(fe2 b hb).elim fun o e=>back b o e z
 ·exact(w' j q).elim (L.wI j) fun z=>hoI.elim fun o e=>back I o e z
 ·exact(o2 b q).elim (L.OO b o e) fun z=>Classical.byContradiction fun hn=>back b o (kp2 b o hn e) z
structure FInv(X:Bool)(G:Glo)(Re:Env)(sc:Scope)(Rc:List (Option Str))(A:N0)(O:NQ->Prop)(ω:NQ->Option Nat)(s s₁:NL)(I:NQ)(fp:List NQ)(F:List NR->List SV->Prop)(rest:List NR)(ρk:List SV)(Ok:NQ->Prop)(ωk:NQ->Option Nat)(sk:NL):Prop where
 loc:FLoc O s₁ I fp Ok ωk sk
 st:Step (Fz X A) Re O ω s Ok ωk sk
 C:Cond G Re sc Rc A Ok ωk ρk sk
 fr:F rest ρk
theorem w3{X:Bool}{tup:Bool}{slots:List Nat}{f:NR->List SV->Fl × List SV}{PB:NR->List SV->Prop}(wf:G.Wf)(ihi:gD G Φ it){sc:Scope}{Rc:List (Option Str)}{target iter:Expr}{bd:List NW}{pos:Pos}{Re:Env}{A:N0}{O:NQ->Prop}{ω:NQ->Option Nat}{ρ:List SV}{s:NL}{E:NO->NL->Prop}{Q':Flow->NL->Prop}
 (hns:fW iter=true) (hci:eS Φ it sc Rc iter=true) (hct:fV tup slots sc Rc target=true) (hsto:∀i,br Re Rc i) (C:Cond G Re sc Rc A O ω ρ s) (hX:X=true->FXE Re A O ω s) (R:aK (kx Φ it) A) (hp:gw Φ it false ρ) (hfor:fX (fun d ρ=>bindP tup slots d/\PB d ρ) f (bX Φ it ρ) ρ)
 (ihb:∀d ρk l Ok ωk sk Q,PB d ρk->bQ f (bX Φ it ρ) ρ=bQ f (d::l) ρk->Step (Fz X A) Re O ω s Ok ωk sk->Cond G Re sc Rc A Ok ωk (ao tup slots d ρk) sk->(∀O' ω' s' fl,Step (Fz X A) Re Ok ωk sk O' ω' s'->Cond G Re sc Rc A O' ω' (f d ρk).2 s'->kG G O' s'.heap (f d ρk).1 fl->Q fl s')->NN (NP G.prog G.w) A (OG bd Re) Q (notedBy (NP G.prog G.w) A Re (cameBackBy (NP G.prog G.w) A Re E)) sk)
 (h:∀O' ω' s' fl,Step (Fz X A) Re O ω s O' ω' s'->Cond G Re sc Rc A O' ω' (bQ f (bX Φ it ρ) ρ).2 s'->kG G O' s'.heap (bQ f (bX Φ it ρ) ρ).1 fl->Q' fl s') :
 NN (NP G.prog G.w) A (Oy (.For target iter bd [] pos) Re) Q' E s:=by
 refine wpAny_For (NS (ihi sc Rc iter false Re A O ω ρ s E hci C R hp) (fun x s₁ h₁=>?_) fun U U x=>x) (fun x=>pp hns)
 refine aj h₁ fun k01 h₁=>?_
 refine NS (h₁ E) (fun itv s₂ h₂=>?_) fun U U x=>x
 obtain⟨k12,I,fp,wr,P,St,rfl,W,hst,hfq,⟨rfl,hI₁⟩,hf,htame,hIfp,hit⟩:=h₂
 have hI₀:s.heap.get? I=none:=jG (M:=fun U=>False) (KM.of k01) hI₁
 have C1:=C.keeps wf k01
 have hnI:¬O I:=fun q=>by refine x11 (C1.ok.obs I q) fun o e=>?_;rw[hI₁]at e;cases e
 have hIf:I∉hfp A:=fun q=>by refine x11 (C1.ok.hok.there I q) fun o e=>?_;rw[hI₁]at e;cases e
 have C2:Cond G Re sc Rc A (fun b=>O b\/b=I) ω ρ s₂:=C1.grow wf k12 (fun b q=>.inl q) (fun b q=>by
  rcases q with q | rfl
  ·exact .inl q
  ·exact .inr hI₁) fun b q=>by
  rcases q with q | rfl
  ·refine x11 (C1.ok.obs b q) fun o e=>?_;exact⟨o,ai k12 b o e⟩
  ·refine x22 (htame 0 _ hst) fun o U e U=>?_;exact⟨o,e⟩
 have st2:Step (Fz X A) Re O ω s (fun b=>O b\/b=I) ω s₂:=⟨KS.of (KM.of (aO k01 k12)),fun b q U=>.inl q,fun b q=>by
  rcases q with q | rfl
  ·exact .inl q
  ·exact .inr hI₀,fun b i q=>.inl q⟩
 have wI:∀j,ω I≠some j:=fun j q=>hnI (C.om I j q).1
 generalize hits:bX Φ it ρ=its at *
 generalize hF:(fun rest ρk=>fX (fun d ρ=>bindP tup slots d/\PB d ρ) f rest ρk/\bQ f its ρ=bQ f rest ρk)=F
 refine codeAny_forLoop_any (fun n sk=>∃i ρk O' ω',i<=its.length/\n=its.length+1 - i/\St i sk.heap/\FInv X G Re sc Rc A O ω s s₁ I fp F (its.drop i) ρk O' ω' sk) ?_ (its.length+1)
  ⟨0,ρ,_,ω,cj _,rfl,hst,⟨.inr rfl,fun b o U e=>ai k12 b o e,hfq,fun b hb n q=>q.elim (hf rfl b hb) n,wI,fun b o e q=>by
   rcases q with q | rfl
   ·exact q
   ·rw[hI₁]at e;cases e⟩,st2,C2,by rw[<- hF,List.drop_zero];exact⟨hfor,rfl⟩⟩
 rintro n sk ⟨i,ρk,Ok,ωk,hi,rfl,hst,inv⟩
 have Ck:=inv.C
 have hFI:∀b,ba Re b->Ok b/\b≠I:=fun b q=>⟨Ck.fr b q,fun z=>hnI (z▸C.fr b q)⟩
 have hCI:∀x c,Re.cells.lookup x=some c->Ok c/\c≠I:=fun x c e=>⟨Ck.fc x c e,fun z=>hnI (z▸C.fc x c e)⟩
 have hWI:∀b j,ωk b=some j->Ok b/\b≠I:=fun b j e=>⟨(Ck.om b j e).1,fun z=>inv.loc.wI j (z▸e)⟩
 have hfr:=inv.fr
 rw[<- hF]at hfr
 by_cases hlt:i<its.length
 ·refine W.item i _ _ _ hlt hst fun v h₂ t₂ hP hst₂ hk₂=>?_
  refine x23 (htame (i+1) h₂ hst₂) fun oI TI hoI hcI htI=>?_
  refine pd hoI hcI htI ?_
  have hk2:∀b o,b≠I->sk.heap.get? b=some o->h₂.get? b=some o:=fun b o n e=>hk₂ b o (by simpa using n) e
  have k2:KM (· = I) sk { sk with heap:=h₂,toks:=t₂ }:=⟨h₂,t₂,rfl,fun b o n e=>hk2 b o n e,fun b o e=>if q:b=I then q▸⟨oI,hoI⟩else⟨o,hk2 b o q e⟩⟩
  have C2:=Ck.side (V:=(· = I)) (O:=fun b=>Ok b/\b≠I) wf hWI hFI hCI (fun b z q=>q.2 z) (fun b q=>q▸inv.loc.oI) k2
  have S2:=inv.st.side (O'':=Ok) (t:=t₂) C.ok.obs hI₀ (fun b q U=>q) (fun b q=>q) hk2
  refine x12 (hit i v hP) fun d hd rd=>?_
  have rd':Rep Ok h₂ v d:=(rd s₁.heap fun U U U e=>e).mono (fun b o n e=>hk2 b o (fun q=>by rw[q,hI₁]at e;cases e) (inv.loc.kp b o n e)) inv.loc.OO
  have hdrop:its.drop i=d::its.drop (i+1):=by
   rw[List.drop_eq_getElem_cons hlt]
   congr 1
   exact OH ((bw hlt).symm.trans hd)
  rw[hdrop]at hfr
  refine wD wf (fun j U=>hsto j) hct C2 rd' hfr.1.1.1 fun s3 k3 C3=>?_
  have S3:=S2.trans C.ok.obs (Step.frame k3)
  refine ihb d ρk _ Ok ωk s3 _ hfr.1.1.2 hfr.2 S3 C3 fun O' ω' s' fl hs C' hfl=>?_
  have S4:=S3.trans C.ok.obs hs
  refine aj hfr fun z0 hfe=>?_;refine aj z0 fun U hb3=>?_
  replace hfe:bQ f its ρ=(match f d ρk with | (.next,ρ')=>bQ f (its.drop (i+1)) ρ' | (.brk,ρ')=>(.next,ρ') | (.ret v,ρ')=>(.ret v,ρ')):=hfe
  generalize f d ρk=x at C' hfl hfe hb3
  obtain⟨g,ρ'⟩:=x
  cases g with
  | next =>
   cases hfl
   have hFz:∀b,Fz X A b->O b/\b≠I:=fun b q=>⟨(hX q.1).fo b q.2,fun z=>by
    refine x32 ((hX q.1).dict q.2) fun o U U e U=>?_
    rw[z,hI₀]at e;cases e⟩
   have nb:∀b,s3.heap.get? b=none->h₂.get? b=none:=fun b e=>jG k3 e
   have nx:=inv.loc.next (M:=fun b=>MO Re ωk b\/Fz X A b) hI₁ (s2:={ sk with heap:=h₂,toks:=t₂ }) hk2 ⟨oI,hoI⟩ (fun b q=>q.elim (fun q=>q.elim (hFI b) fun ζ=>ζ.elim fun j q=>hWI b j q) fun q=>⟨((hX q.1).step C S3 C3).fo b q.2,(hFz b q).2⟩)
    (fun b o n e=>hs.km.get b o (fun q=>n (.inl q)) (fun q=>n (.inr q)) (k3.get b o (fun q=>n (.inl (.inl q))) e)) (hs.o1 I inv.loc.oI inv.loc.wI) (fun b q=>(hs.o2 b q).imp id (nb b)) fun j q=>(hs.w2 I j q).imp id (nb I)
   exact⟨its.length+1 - (i+1),by lia,i+1,ρ',O',ω',hlt,rfl,W.frame _ _ _ hst₂ fun b hb o e=>nx.2 b hb o e,nx.1,S4,C',by rw[<- hF];exact⟨hb3,hfe⟩⟩
  | brk =>
   cases hfl
   exact h O' ω' s' .next S4 (by rw[hfe];exact C') (by rw[hfe];rfl)
  | ret d =>
   refine x12 hfl fun v e1 hr=>?_;subst e1
   exact h O' ω' s' (.ret v) S4 (by rw[hfe];exact C') (by rw[hfe];exact⟨v,rfl,hr⟩)
 ·have hin:i=its.length:=Nx hi (fG.mp hlt)
  subst hin
  refine W.done _ _ _ hst fun h₂ t₂ hk₂=>N1 ?_
  have hk:∀b o,b≠I->sk.heap.get? b=some o->h₂.get? b=some o:=fun b o n e=>hk₂ b o (by simpa using n) e
  have hfe:=hfr.2
  rw[List.drop_length]at hfe
  refine h (fun b=>Ok b/\b≠I) ωk _ .next (inv.st.side C.ok.obs hI₀ (fun b q n=>⟨q,n⟩) (fun b q=>q.1) hk) ?_ (by rw[hfe];rfl)
  rw[hfe]
  exact Ck.shrink (V:=(· = I)) wf (fun b q=>q.1) hWI hFI hCI (fun b z q=>q.2 z) (fun b q=>q▸inv.loc.oI) (fun b q=>q▸hIf) hk
theorem En(tup:Bool)(slots:List Nat)(it:IX)(body r:SX)(wf:G.Wf)(ihi:gD G Φ it)(ihb:dJ G Φ X body)(ihr:dJ G Φ X r):dJ G Φ X (.for tup slots it body r):=by
 intro sc Rc st Re A O ω ρ s E Q hc hsto C hX R hp hQ
 refine cV (P:=fun st=>NN (NP G.prog G.w) A (OG st Re) Q E s) (f:=fun x rest=>lZ x fun target iter bd U=>fW iter&&eS Φ it sc Rc iter&&fV tup slots sc Rc target&&cf Φ body sc Rc bd&&cf Φ r sc Rc rest) hc fun x rest hc=>?_
 refine vX (P:=fun x=>NN (NP G.prog G.w) A (OG (x::rest) Re) Q E s) hc fun target iter bd pos hc=>?_
 refine hV hc fun hns hci hct hcb hcr=>?_
 replace R:aK (max (kx Φ it) (max (kS Φ body) (kS Φ r))) A:=R
 refine pw (x:=bQ (fun d ρ=>au Φ body (ao tup slots d ρ)) (bX Φ it ρ) ρ) ihr C hsto hX hcr (R.le (ae (aE _ _) (aE _ _))) hp.2.2 (fun Q' h=>?_) hQ
 exact w3 (PB:=fun d ρ=>bf Φ body (ao tup slots d ρ)) wf ihi hns hci hct hsto C hX (R.le (aT _ _)) hp.1 hp.2.1 (fun d ρk l Ok ωk sk Q hP U hst Ck hn=>ihb sc Rc bd Re A Ok ωk _ sk _ Q hcb hsto Ck (fun q=>(hX q).step C hst Ck) (R.le (ae (aT _ _) (aE _ _))) hP hn) h
theorem py(wf:G.Wf)(hF:∀F∈Φ,aM G F):∀S:SX,dX G X S->dJ G Φ X S:=by
 intro S
 have e:=snd wf hF
 induction S with
 | skip=>intro _;exact Ee
 | prim p r ih=>intro h;exact Eg p r h.1 (ih h.2)
 | frz i r ih=>intro h;exact Ej i r wf (ih h)
 | ite c a b r iha ihb ihr=>intro h;exact Ek c a b r wf (e c).tst (iha h.1) (ihb h.2.1) (ihr h.2.2)
 | «for» tup slots it body r ihb ihr=>intro h;exact En tup slots it body r wf (e it).it (ihb h.1) (ihr h.2)
 | whl n c body r ihb ihr=>intro h;exact Em n c body r wf (e c).tst (ihb h.1) (ihr h.2)
end
section
variable{G:Glo}{Φ:List FEntry}
set_option tactic.hygienic true in
theorem Eo{Re:Env}{sc:Scope}{Rc:List (Option Str)}{A:N0}{O:NQ->Prop}{ω:NQ->Option Nat}{ρ ρ':List SV}{s:NL}{E:NO->NL->Prop}{e:IX}{ast:Expr}{use:NO->Sem Unit}{Q:Unit->NL->Prop}(wf:G.Wf)(hF:∀F∈Φ,aM G F)
 (hl:∃elt gens scope pos,ast=.ListComp elt gens scope pos) (hc:chk Φ e sc Rc ast=true) (C:Cond G Re sc Rc A O ω ρ s) (R:aK (kx Φ e) A) (hp:pre Φ e false ρ)
 (huse:∀O' v s' E Q',Cond G Re sc Rc A O' ω ρ s'->Rep O' s'.heap v (den Φ e ρ)->(∀s'',KM (ba Re) s' s''->Cond G Re sc Rc A O' ω ρ' s''->Q' () s'')->NN (NP G.prog G.w) A (use v) Q' E s')
 (hQ:∀s',KM (ba Re) s s'->Cond G Re sc Rc A O ω ρ' s'->Q () s'):NN (NP G.prog G.w) A (evalThenUse ast Re use) Q E s:=by
 refine x41 hl fun elt gens scope pos e4=>?_;subst e4
 cases e<;>first | (exact absurd hc MY) | skip
 rename_i n tup slots it ifs rest
 cases gens with
 | nil=>exact absurd hc MY
 | cons g gs =>
  show NN _ A (comprehension (.ListComp elt (g::gs) scope pos) scope Re _ (newList []) (firstAsync (g::gs)) (firstIter (g::gs) Re) (some use) >>= fun U=>pure ()) Q E s
  exact NM (wX (snd wf hF it).it (snd wf hF ifs).ts (snd wf hF rest).gn wf hc C R hp fun D C' s' m k hC hDC hm r=>Dw wf C k hC hm r huse fun s' k C'=>NU (hQ s' k C'))
set_option backward.match.sparseCases false in
noncomputable def w4:Expr->Bool
 | .SetComp ..=>false
 | .DictComp ..=>false
 | _=>true
set_option tactic.hygienic true in
theorem Ep{x:Str}{p:Pos}{line:Nat}{Re:Env}(hv:w4 v=true) :
 (P9 v (some (.Name x p)) line Re=pure false)\/(P9 v (some (.Name x p)) line Re=pure true/\∃a b c d,v=.ListComp a b c d):=by
 cases v<;>first | exact .inl rfl | exact absurd hv MY | skip
 rename_i a b c d
 have h:∃r:Bool,P9 (.ListComp a b c d) (some (.Name x p)) line Re=pure r:=⟨Re.blockKind==.function&&Re.kindOf x==some .local&&p.line==(Expr.ListComp a b c d).pos.line&&!(c.names.any fun(n,k)=>n==x&&(k==.local||k==.cell)),rfl⟩
 refine x11 h fun r h=>?_
 cases r with
 | false=>exact .inl h
 | true=>exact .inr ⟨h,_,_,_,_,rfl⟩
noncomputable def cn(Φ:List FEntry)(i:Nat)(e:IX):Prim where
 chk sc Rc st:=eF st fun t v U=>bv t fun x U=>Rc[i]? == some (some x)&&aW sc x&&w4 v&&chk Φ e sc Rc v
 k:=kx Φ e
 pre ρ:=pre Φ e false ρ
 den ρ:=(.next,ρ.set i (.dat (den Φ e ρ)))
theorem cH(i:Nat)(e:IX)(wf:G.Wf)(hF:∀F∈Φ,aM G F):cZ G X (cn Φ i e):=by
 intro sc Rc st Re A O ω ρ s E Q hc hsto C hX R hp hQ
 refine kn (P:=fun st=>NN (NP G.prog G.w) A (Oy st Re) Q E s) hc fun x p v pos hc=>?_
 refine fm hc fun hi hk hsd hv=>?_
 have hi:=NY hi
 have plain:P9 v (some (.Name x p)) pos.line Re=pure false->NN (NP G.prog G.w) A (Oy (.Assign [.Name x p] v pos) Re) Q E s:=by
  intro hsw
  refine Oc (NS ((snd wf hF e).ev sc Rc v false Re A O ω ρ s E hv C R hp) (fun u s₁ h₁=>?_) fun U U x=>x) hsw rfl
  have C1:=C.keeps wf h₁.1
  show NN _ A (Ox (.Name x p) Re u) _ _ s₁
  exact ij wf (hsto i) C1 hi hk h₁.2.ff fun s' k C'=>hQ O ω s' .next ((Step.keeps h₁.1).trans C.ok.obs (Step.frame k)) C' rfl
 rcases Ep (x:=x) (p:=p) (line:=pos.line) (Re:=Re) hsd with h | ⟨h,h'⟩
 ·exact plain h
 ·rw[exec_Assign_arm]
  refine NM (Od ?_)
  rw[show swapsWithSole [.Name x p] v pos.line Re=pure true from h]
  refine NM (NU ?_)
  rw[if_pos rfl]
  refine NM (Eo (ρ':=ρ.set i (.dat (den Φ e ρ))) wf hF h' hv C R hp (fun O' u s' E Q' C' r hq=>?_) fun s' k C'=>NU (hQ O ω s' .next (Step.frame k) C' rfl))
  show NN _ A (Ox (.Name x p) Re u) _ _ s'
  exact ij wf (hsto i) C' hi hk r hq
noncomputable def eW(Φ:List FEntry)(e:IX):Prim where
 chk sc Rc st:=lY st fun v U=>chk Φ e sc Rc v
 k:=kx Φ e
 pre ρ:=pre Φ e false ρ
 den ρ:=(.ret (den Φ e ρ),ρ)
theorem gF(e:IX)(wf:G.Wf)(hF:∀F∈Φ,aM G F):cZ G X (eW Φ e):=by
 intro sc Rc st Re A O ω ρ s E Q hc hsto C hX R hp hQ
 refine oX (P:=fun st=>NN (NP G.prog G.w) A (Oy st Re) Q E s) hc fun v pos hc=>?_
 show NN _ A (PZ pos >>= fun U=>N6 v Re >>= fun u=>pure (.ret u)) Q E s
 refine NM (Od (NM (NS ((snd wf hF e).ev sc Rc v false Re A O ω ρ s E hc C R hp) (fun u s₁ h₁=>NU ?_) fun U U x=>x)))
 exact hQ O ω s₁ (.ret u) (Step.keeps h₁.1) (C.keeps wf h₁.1) ⟨u,rfl,h₁.2.ff⟩
end
section
variable{prog:Ol}{w:Og}{A:N0}{E:NO->NL->Prop}{s:NL}
end
section
variable{G:Glo}{Φ:List FEntry}
theorem sh{Ff:NQ->Prop}{Re:Env}{sc:Scope}{Rc:List (Option Str)}{A:N0}{O:NQ->Prop}{ω:NQ->Option Nat}{ρ:List SV}{s:NL}{i:Nat}{x:Str}{a:NQ}{h':N9}{val:Str->Option NO}{y:SV}
 (wf:G.Wf) (C:Cond G Re sc Rc A O ω ρ s) (F:FrameV Re s.heap val) (V:gz G O ω s.heap Rc ρ val) (hi:Rc[i]? = some (some x)) (hil:i<ρ.length) (hv:val x=some (.ref a)) (hw:ω a=some i)
 (hl':∃o,h'.get? a=some o) (hr':cF G O ω h' i (some (.ref a)) y) (hs:OQ a s.heap h') :
 Step Ff Re O ω s O ω { s with heap:=h' }/\Cond G Re sc Rc A O ω (ρ.set i y) { s with heap:=h' }:=by
 have hO:=(C.om a i hw).1
 have k:KM (· = a) s { s with heap:=h' }:=KM.chg (t:=s.toks) hs.extBut hl' rfl
 refine⟨⟨KS.of (k.mono fun b q=>.inr ⟨i,q▸hw⟩),fun U h U=>h,fun U h=>.inl h,fun U U h=>.inl h⟩,C.frame k (fun b q=>q▸hO) (by simp) (F.off (C.om a i hw).2 hs.extBut) fun j y hy=>?_⟩
 rw[dq]
 by_cases q:i=j
 ·subst q
  rw[if_pos ⟨rfl,hil⟩]
  have:y=x:=by rw[hi]at hy;cases hy;rfl
  subst this
  rw[hv];exact hr'
 ·rw[if_neg fun z=>q z.1]
  refine(V j y hy).at wf C.base fun b o hb e=>hs.extBut b o (fun z=>?_) e
  rcases hb with hb | hb
  ·rw[z,hw]at hb;cases hb;exact q rfl
  ·exact hb (z▸hO)
noncomputable def ei:SV->List NR
 | .own d=>cW d
 | _=>[]
inductive OwnVar(G:Glo)(Re:Env)(Rc:List (Option Str))(O:NQ->Prop)(ω:NQ->Option Nat)(ρ:List SV)(s:NL)(i:Nat)(x:Str):Prop where
 | mk (val:Str->Option NO) (a:NQ) (vs:Array NO) (n:Nat) (F:FrameV Re s.heap val) (V:gz G O ω s.heap Rc ρ val) (hv:val x=some (.ref a)) (hw:ω a=some i) (hL:IsL s.heap a vs n) (hR:RepL O s.heap vs.toList (ei (ρ.getD i .un))) (hi:i<ρ.length):OwnVar G Re Rc O ω ρ s i x
theorem si(C:Cond G Re sc Rc A O ω ρ s)(hi:Rc[i]? = some (some x))(ho:kH (ρ.getD i .un)) :
 OwnVar G Re Rc O ω ρ s i x:=by
 obtain⟨val,F,V⟩:=C.vars
 have hv:=V i x hi
 cases hx:ρ.getD i .un with
 | own d =>
  rw[hx]at hv
  obtain⟨a,vs,n,ds,e1,e2,rfl,h1,h2⟩:=hv
  refine⟨val,a,vs,n,F,V,e1,e2,h1,by rw[hx];exact h2,?_⟩
  by_cases q:i<ρ.length
  ·exact q
  ·rw[av,M6 (by simpa using q)]at hx;cases hx
 | un=>rw[hx]at ho;exact ho.elim
 | val d=>rw[hx]at ho;exact ho.elim
 | dat d=>rw[hx]at ho;exact ho.elim
 | sor g=>rw[hx]at ho;exact ho.elim
 | dic l=>rw[hx]at ho;exact ho.elim
noncomputable def gG(Φ:List FEntry)(i:Nat)(e:IX):Prim where
 chk sc Rc st:=iO st fun c U=>hW c fun x U m ap as p=>v1 as fun a=>m==ofString "append"&&ap.endLine==p.line&&Rc[i]? == some (some x)&&x != ofString "__debug__"&&chk Φ e sc Rc a
 k:=kx Φ e
 pre ρ:=kH (ρ.getD i .un)/\pre Φ e false ρ/\(ei (ρ.getD i .un)).length<=16777216
 den ρ:=(.next,ρ.set i (.own (.list (ei (ρ.getD i .un)++[den Φ e ρ]))))
theorem pz(i:Nat)(e:IX)(wf:G.Wf)(hF:∀F∈Φ,aM G F):cZ G X (gG Φ i e):=by
 intro sc Rc st Re A O ω ρ s E Q hc hsto C hX R hp hQ
 refine o6 (P:=fun st=>NN (NP G.prog G.w) A (Oy st Re) Q E s) (f:=fun x m ap as p=>v1 as fun a=>m==ofString "append"&&ap.endLine==p.line&&Rc[i]? == some (some x)&&x != ofString "__debug__"&&chk Φ e sc Rc a) hc fun x px m ap as p pos hc=>?_
 refine cU (P:=fun as=>NN (NP G.prog G.w) A (Oy (.Expr (.Call (.Attribute (.Name x px) m ap) as [] p) pos) Re) Q E s) hc fun a hc=>?_
 refine hV hc fun hm hl hi hd ha=>?_
 cases NY hm
 have hi:=NY hi
 have hd:=bne_iff_ne.mp hd
 refine cT hp fun ho hpe hlen=>?_
 obtain⟨val,l,vs,n,Fv,V,hv,hw,hL,hR,hil⟩:=si C hi ho
 have hint:OY Re=false:=by unfold OY;rw[C.eo.kindS];rfl
 refine PP ?_ hint rfl
 refine Px rfl (il (gA e ha)) hl (O0 (eU C.eo Fv hv (C.co.kd i x hi) ?_) (by simpa using hd))
 refine⟨"list", "list.append",Pn,Qp,Qq,hL.isList.typeIs,(fun b e=>by cases e;exact⟨_,hL,rfl⟩),?_⟩
 refine OD rfl (Oj (N7 (NS ((snd wf hF e).ev sc Rc a false Re A O ω ρ s E ha C R hpe) (fun u s₁ h₁=>N4 ?_) fun U U x=>x)))
 have C1:=C.keeps wf h₁.1
 have F1:=Fv.keeps (ai h₁.1)
 have V1:gz G O ω s₁.heap Rc ρ val:=fun j y hy=>(V j y hy).keeps wf C.base h₁.1
 have hL1:=ai h₁.1 _ _ hL
 have hR1:=hR.keeps h₁.1
 have hsz:=hR1.length
 rw[cD]at hsz
 refine append_at hL1 (fun h' hs hD'=>?_) (by show vs.size<=O5;rw[hsz];exact hlen)
 have hO:=(C1.om l i hw).1
 have hk:∀b o,¬O b->s₁.heap.get? b=some o->h'.get? b=some o:=fun b o nO e=>hs.extBut b o (fun q=>nO (q▸hO)) e
 obtain⟨S',C'⟩:=sh (y:=.own (.list (ei (ρ.getD i .un)++[den Φ e ρ]))) wf C1 F1 V1 hi hil hv hw ⟨_,hD'⟩ ⟨l,_,_,_,rfl,hw,rfl,hD',by
  rw[Qx]
  exact(hR1.mono hk fun U U U q=>q).append (.cons (h₁.2.ff.mono hk fun U U U q=>q) .nil)⟩ hs
 exact hQ O ω _ .next ((Step.keeps h₁.1).trans C.ok.obs S') C' rfl
end
structure Grow(O:NQ->Prop)(ω:NQ->Option Nat)(s:NL)(O':NQ->Prop)(ω':NQ->Option Nat)(s':NL):Prop where
 kp:NX s s'
 oo:∀b,O b->O' b
 o2:∀b,O' b->O b\/s.heap.get? b=none
 ww:∀b i,ω b=some i->ω' b=some i
 w2:∀b i,ω' b=some i->ω b=some i\/s.heap.get? b=none
theorem Grow.step(g:Grow O ω s O' ω' s'):Step Ff Re O ω s O' ω' s':=⟨KS.of (KM.of g.kp),fun b h U=>g.oo b h,g.o2,g.w2⟩
theorem Grow.of(k:NX s s'):Grow O ω s O ω s':=⟨k,fun U h=>h,fun U h=>.inl h,fun U U h=>h,fun U U h=>.inl h⟩
theorem im(k:NX s s')(h:s'.heap.get? b=none):s.heap.get? b=none:=jG (M:=fun U=>False) (KM.of k) h
theorem Grow.trans(x:Grow O ω s O' ω' s')(y:Grow O' ω' s' O'' ω'' s''):Grow O ω s O'' ω'' s'' :=
 ⟨aO x.kp y.kp,fun b h=>y.oo b (x.oo b h),fun b h=>(y.o2 b h).elim (x.o2 b) fun q=>.inr (im x.kp q),fun b i h=>y.ww b i (x.ww b i h),fun b i h=>(y.w2 b i h).elim (x.w2 b i) fun q=>.inr (im x.kp q)⟩
section
variable{G:Glo}{Φ:List FEntry}{Re:Env}{sc:Scope}{Rc:List (Option Str)}{A:N0}{O O':NQ->Prop}{ω ω':NQ->Option Nat}{ρ:List SV}{s s':NL}{E:NO->NL->Prop}
theorem Grow.rep(g:Grow O ω s O' ω' s')(wf:G.Wf)(B:G.Base O s.heap)(r:cF G O ω s.heap i v y):cF G O' ω' s'.heap i v y:=by
 have hO:∀b o,s.heap.get? b=some o->O' b->O b:=fun b o e q=>(g.o2 b q).elim id fun z=>by rw[z]at e;cases e
 cases y with
 | dat d=>refine x12 r fun u e r=>?_;exact⟨u,e,r.mono (fun b o U e=>ai g.kp b o e) hO⟩
 | own d=>obtain⟨a,vs,n,ds,e1,e2,e3,h1,h2⟩:=r;exact⟨a,vs,n,ds,e1,g.ww a i e2,e3,ai g.kp _ _ h1,h2.mono (fun b o U e=>ai g.kp b o e) hO⟩
 | un=>trivial
 | val u=>exact r
 | dic l=>exact x13 r fun a e1 e2 r=>⟨a,e1,g.ww a i e2,r.at fun o=>ai g.kp a o⟩
 | sor x =>
  refine x23 r fun u S e r hS=>?_
  exact⟨u,S,e,wf.srf x S s.heap s'.heap u r (fun b o U e=>ai g.kp b o e) (fun b o q=>B.kp b o q) (fun b o q=>ai g.kp b o (B.kp b o q)),fun b q=>g.ww b i (hS b q)⟩
theorem w5{i:Nat}(wf:G.Wf)(C:Cond G Re sc Rc A O ω ρ s)(k:NX s s')(ha:s.heap.get? a=none)(o1:∀b,O b->O' b)(o2:∀b,O' b->O b\/s.heap.get? b=none)(o3:∀b,O' b->∃o,s'.heap.get? b=some o)(oa:O' a) :
 Grow O ω s O' (fun b=>if b=a then some i else ω b) s'/\Cond G Re sc Rc A O' (fun b=>if b=a then some i else ω b) ρ s':=by
 have hne:∀b o,s.heap.get? b=some o->b≠a:=fun b o e q=>by rw[q,ha]at e;cases e
 have hw:∀b j,ω b=some j->b≠a:=fun b j e=>by
  refine x11 (C.ok.obs b (C.om b j e).1) fun o q=>?_
  exact hne b o q
 have g:Grow O ω s O' (fun b=>if b=a then some i else ω b) s':=⟨k,o1,o2,fun b j h=>by
  rw[if_neg (hw b j h)];exact h,fun b j h=>by
  by_cases q:b=a
  ·exact .inr (q▸ha)
  ·rw[if_neg q]at h;exact .inl h⟩
 refine⟨g,?_⟩
 have C':=C.grow wf k g.oo g.o2 o3
 obtain⟨val,F,V⟩:=C.vars
 refine⟨C'.eo,C'.co,C'.len,C'.ok,C'.base,C'.fr,C'.fc,fun b j h=>?_,val,F.keeps (ai k),fun j y hy=>g.rep wf C.base (V j y hy)⟩
 by_cases q:b=a
 ·refine⟨q▸oa,fun z=>?_⟩
  have:=C.store_O z
  refine x11 (C.ok.obs b this) fun o e=>?_
  exact hne b o e q
 ·rw[if_neg q]at h
  exact⟨o1 b (C.om b j h).1,(C.om b j h).2⟩
theorem w6{i:Nat}(wf:G.Wf)(C:Cond G Re sc Rc A O ω ρ s)(k:NX s s')(ha:s.heap.get? a=none)(ha':∃o,s'.heap.get? a=some o) :
 Grow O ω s (fun b=>O b\/b=a) (fun b=>if b=a then some i else ω b) s'/\Cond G Re sc Rc A (fun b=>O b\/b=a) (fun b=>if b=a then some i else ω b) ρ s' :=
 w5 wf C k ha (fun b h=>.inl h) (fun b h=>h.imp id fun e=>by rw[e];exact ha) (fun b q=>q.elim (fun q=>x11 (C.ok.obs b q) fun o e=>⟨o,ai k b o e⟩) fun q=>by rw[q];exact ha') (.inr rfl)
inductive OwnPost(G:Glo)(Re:Env)(sc:Scope)(Rc:List (Option Str))(A:N0)(O:NQ->Prop)(ω:NQ->Option Nat)(ρ:List SV)(s:NL)(i:Nat)(y:SV)(v:NO)(s':NL):Prop where
 | mk (O':NQ->Prop) (ω':NQ->Option Nat) (g:Grow O ω s O' ω' s') (C:Cond G Re sc Rc A O' ω' ρ s') (r:cF G O' ω' s'.heap i (some v) y):OwnPost G Re sc Rc A O ω ρ s i y v s'
set_option backward.match.sparseCases false in
noncomputable def kI:IX->Bool
 | .list _=>true
 | _=>false
theorem w7(h:kI e=true):∃es,e=.list es:=by
 cases e<;>first | (exact absurd h MY) | exact⟨_,rfl⟩
theorem w8{i:Nat}(wf:G.Wf)(hF:∀F∈Φ,aM G F)(hl:kI e=true)(hc:chk Φ e sc Rc ast=true)(C:Cond G Re sc Rc A O ω ρ s)(R:aK (kx Φ e) A)(hp:pre Φ e false ρ) :
 NN (NP G.prog G.w) A (N6 ast Re) (OwnPost G Re sc Rc A O ω ρ s i (.own (den Φ e ρ))) E s:=by
 refine x11 (w7 hl) fun es e1=>?_;subst e1
 refine oW (P:=fun ast=>NN (NP G.prog G.w) A (N6 ast Re) (OwnPost G Re sc Rc A O ω ρ s i (.own (den Φ (.list es) ρ))) E s) hc fun xs p hc=>?_
 replace R:aK (kx Φ es) A:=R
 replace hp:eH Φ es ρ/\(bL Φ es ρ).length<=16777216:=hp
 refine Qt ?_
 rw[ig _ (jE es hc),jz]
 refine NS ((snd wf hF es).ls sc Rc xs Re A O ω ρ s E hc C R hp.1) (fun vs s₁ h₁=>?_) fun U U x=>x
 have hl:vs.length<=16777216:=by rw[h₁.2.length];exact hp.2
 have C1:=C.keeps wf h₁.1
 have hnone:s₁.heap.get? s₁.heap.objs.size=none:=OL (bM _)
 refine aj (w6 (i:=i) wf C1 (bz { cls:=.type "list",data:=.seq vs.toArray } (t:=s₁.toks)) hnone ⟨_,NZ _ rfl⟩) fun g C2=>?_
 refine⟨hl,_,_,(Grow.of h₁.1).trans g,C2,s₁.heap.objs.size,vs.toArray,0,bL Φ es ρ,rfl,if_pos rfl,rfl,IsL.new _ _,?_⟩
 have:vs.toArray.toList=vs:=rfl
 rw[this]
 exact h₁.2.mono (fun b o U e=>NV _ e) fun b o e q=>by
  rcases q with q | rfl
  ·exact q
  ·rw[hnone]at e;cases e
noncomputable def pA(p:Bool × IX)(ρ:List SV):SV:=if p.1=true then .own (den Φ p.2 ρ)else .dat (den Φ p.2 ρ)
noncomputable def kJ(Φ:List FEntry):List (Bool × IX)->Scope->List (Option Str)->List Expr->Bool
 | [],_,_,[]=>true
 | p::es,sc,Rc,x::xs=>(!p.1||kI p.2)&&chk Φ p.2 sc Rc x&&kJ Φ es sc Rc xs
 | _,_,_,_=>false
noncomputable def sj(Φ:List FEntry):List (Bool × IX)->Nat
 | []=>0
 | p::es=>max (kx Φ p.2) (sj Φ es)
noncomputable def sq(Φ:List FEntry):List (Bool × IX)->List SV->Prop
 | [],_=>True
 | p::es,ρ=>pre Φ p.2 false ρ/\sq Φ es ρ
noncomputable def fY(G:Glo)(O:NQ->Prop)(ω:NQ->Option Nat)(h:N9):List Nat->List NO->List SV->Prop
 | i::is,v::vs,y::ys=>cF G O ω h i (some v) y/\fY G O ω h is vs ys
 | [],[],[]=>True
 | _,_,_=>False
inductive OwnsPost(G:Glo)(Re:Env)(sc:Scope)(Rc:List (Option Str))(A:N0)(O:NQ->Prop)(ω:NQ->Option Nat)(ρ:List SV)(s:NL)(is:List Nat)(ys:List SV)(vs:List NO)(s':NL):Prop where
 | mk (O':NQ->Prop) (ω':NQ->Option Nat) (g:Grow O ω s O' ω' s') (C:Cond G Re sc Rc A O' ω' ρ s') (r:fY G O' ω' s'.heap is vs ys):OwnsPost G Re sc Rc A O ω ρ s is ys vs s'
theorem Er(wf:G.Wf)(hF:∀F∈Φ,aM G F)(es:List (Bool × IX))(slots:List Nat)(xs:List Expr)(O:NQ->Prop)(ω:NQ->Option Nat)(s:NL)(hc:kJ Φ es sc Rc xs=true)(hl:slots.length=es.length)(C:Cond G Re sc Rc A O ω ρ s)(R:aK (sj Φ es) A)(hp:sq Φ es ρ) :
 NN (NP G.prog G.w) A (spliced (xs.map fun a=>(false,N6 a Re))) (OwnsPost G Re sc Rc A O ω ρ s slots (es.map fun p=>pA (Φ:=Φ) p ρ)) E s:=by
 induction es generalizing slots xs O ω s with
 | nil =>
  cases slots with
  | nil =>
   cases xs with
   | nil=>exact N4 ⟨O,ω,Grow.of (bk s),C,trivial⟩
   | cons x xs=>exact absurd hc MY
  | cons i slots=>cases hl
 | cons p es ih =>
  cases slots with
  | nil=>cases hl
  | cons i slots =>
   cases xs with
   | nil=>exact absurd hc MY
   | cons x xs =>
    obtain⟨o,e⟩:=p
    refine eD (show((!o||kI e)&&chk Φ e sc Rc x&&kJ Φ es sc Rc xs)=true from hc) fun c1 c2 c3=>?_
    have head:NN (NP G.prog G.w) A (N6 x Re) (OwnPost G Re sc Rc A O ω ρ s i (pA (Φ:=Φ) (o,e) ρ)) E s:=by
     unfold pA
     cases o with
     | true=>exact w8 wf hF c1 c2 C (R.le (aT _ _)) hp.1
     | false=>exact NS ((snd wf hF e).ev sc Rc x false Re A O ω ρ s E c2 C (R.le (aT _ _)) hp.1) (fun v s₁ h₁=>⟨O,ω,Grow.of h₁.1,C.keeps wf h₁.1,v,rfl,h₁.2.ff⟩) fun U U x=>x
    refine N7 (NS head (fun v s₁ h₁=>?_) fun U U x=>x)
    obtain⟨O₁,ω₁,g₁,C₁,r₁⟩:=h₁
    refine NS (ih slots xs O₁ ω₁ s₁ c3 (Nat.succ.inj hl) C₁ (R.le (aE _ _)) hp.2) (fun vs s₂ h₂=>?_) fun U U x=>x
    obtain⟨O₂,ω₂,g₂,C₂,r₂⟩:=h₂
    exact⟨O₂,ω₂,g₁.trans g₂,C₂,g₂.rep wf C₁.base r₁,r₂⟩
noncomputable def em(ρ:List SV)(l:List (Nat × SV)):List SV:=l.foldl (fun ρ p=>ρ.set p.1 p.2) ρ
theorem w9:∀(l:List (Nat × SV)) (ρ:List SV) (i:Nat) (x:SV),i∉l.map (·.1)->(em ρ l).set i x=em (ρ.set i x) l
 | [],_,_,_,_=>rfl
 | p::l,ρ,i,x,h=>by
  simp only[aQ,aa,not_or]at h
  show(em (ρ.set p.1 p.2) l).set i x=em ((ρ.set i x).set p.1 p.2) l
  rw[w9 l _ i x h.2,List.set_comm _ _ h.1]
theorem Es(ρ:List SV)(l m:List (Nat × SV)):em ρ (l++m)=em (em ρ l) m:=lT
theorem xa:∀(l:List (Nat × SV)) (ρ:List SV),(l.map (·.1)).Nodup->em ρ l.reverse=em ρ l
 | [],_,_=>rfl
 | p::l,ρ,h=>by
  simp only[aQ,bq]at h
  rw[List.reverse_cons,Es,xa l ρ h.2]
  exact w9 l ρ p.1 p.2 h.1
structure ST where
 f:NO->Sem Unit
 i:Nat
 x:Str
 v:NO
 y:SV
theorem xb(wf:G.Wf)(hsto:∀i,br Re Rc i)(l:List ST)(ρ:List SV)(s:NL)(Q:Unit->NL->Prop)(hl:∀q∈l,Rc[q.i]? = some (some q.x)/\aW sc q.x=true/\cF G O ω s.heap q.i (some q.v) q.y /\
 ∀(v:NO) (s:NL) (Q:Unit->NL->Prop) (E:NO->NL->Prop),NN (NP G.prog G.w) A (storeName Re q.x v) Q E s->NN (NP G.prog G.w) A (q.f v) Q E s)
 (C:Cond G Re sc Rc A O ω ρ s) (h:∀s',KM (ba Re) s s'->Cond G Re sc Rc A O ω (em ρ (l.map fun q=>(q.i,q.y))) s'->Q () s'):NN (NP G.prog G.w) A (Qi (l.map (·.f)) (l.map (·.v))) Q E s:=by
 induction l generalizing ρ s with
 | nil=>exact NU (h s (KM.of (bk s)) C)
 | cons q l ih =>
  refine eQ (hl q ag) fun h1 h2 h3 h4=>?_
  show NN _ A (PY _ (q.f q.v) >>= fun U=>Qi (l.map (·.f)) (l.map (·.v))) Q E s
  refine NM (N8 (h4 _ _ _ _ (dW wf (hsto q.i) C h1 h2 h3 fun s₁ k C₁=>?_)))
  refine ih _ s₁ (fun q' hq'=>?_) C₁ fun s₂ k₂ C₂=>h s₂ (k.trans k₂) C₂
  refine eQ (hl q' (ay _ hq')) fun g1 g2 g3 g4=>?_
  refine⟨g1,g2,g3.at wf C.base fun b o hb e=>k.get b o (fun z=>?_) e,g4⟩
  rcases hb with hb | hb
  ·exact(C.om b _ hb).2 z.store
  ·exact hb (C.fr b z)
theorem xc(ok:Okay A O s)(ht:IsT s.heap t vs m)(hn:vs.size=n)(h:∀s',NX s s'->Q vs.toList s'):NN (NP G.prog G.w) A (unpackItems (.ref t) n none) Q E s:=by
 have hT:s.heap.IsTuple t vs:=⟨_,ht,rfl,m,rfl⟩
 have hlt:=N3 ht
 have hI:s.heap.objs.size∉hfp A:=fun q=>bj _ (ok.hlt _ q)
 have W:=wp (prog:=G.prog) (w:=G.w) (A:=A) s.heap.objs.size t (nz hlt) hI vs
 unfold unpackItems
 refine NM ?_
 unfold notIterableAtAll
 refine NM (wpAny_specialOf hT.typeIs F.slot_tuple_iter.lookup (NU ?_))
 rw[if_neg MY]
 refine NM (N8 (wpAny_pyIter_tuple hT ?_))
 have hst:(Heap.IsTupleIter (s.heap.push { cls:=.type "tuple_iterator",data:=.fields #[.ref t,.int 0 0] }) s.heap.objs.size t 0/\(s.heap.push { cls:=.type "tuple_iterator",data:=.fields #[.ref t,.int 0 0] }).IsTuple t vs)/\aZ A (s.heap.push { cls:=.type "tuple_iterator",data:=.fields #[.ref t,.int 0 0] }) :=
  ⟨⟨⟨_,NZ _ rfl,rfl,rfl⟩,pc hT fun o e=>NV _ e⟩,ok.hok.mono fun b o e=>NV _ e⟩
 refine NM (N8 (rY W n 0 _ _ hst (by lia) fun ws h₁ t₁ hl hv st₁ k₁=>?_))
 rw[if_neg (by lia)]
 rw[oR,<- hn]at st₁
 refine NM (N8 (W.done _ _ _ st₁ fun h₂ t₂ k₂=>?_))
 simp only[Option.isSome_none,Nv,if_false]
 have e:ws=vs.toList:=by
  refine List.ext_getElem (by rw[hl,cD,hn]) fun j h1 h2=>?_
  have:=hv j ws[j] (bw h1)
  rw[oR]at this
  have h3:j<vs.size:=by rw[hn,<- hl];exact h1
  rw[Ql h3]at this
  simpa using(OH this).symm
 refine NU (e▸h _ ⟨h₂,t₂,rfl,fun b o e=>?_⟩)
 have hb:b∉[s.heap.objs.size]:=fun q=>by
  rw[ah.mp q]at e
  exact bj _ (N3 e)
 exact k₂ b o hb (k₁ b o hb (NV _ e))
end
noncomputable def kK:Expr->Str
 | .Name x _=>x
 | _=>OZ
theorem xe(hg:∀e y,g e=some y->y=kK e):∀(ts:List Expr),(ts.filterMap g).length=ts.length->ts.filterMap g=ts.map kK
 | [],_=>rfl
 | e::r,h=>by
  have hle:(r.filterMap g).length<=r.length:=List.length_filterMap_le _ r
  rw[Nm]at h ⊢
  cases ho:g e with
  | none =>
   rw[ho]at h
   simp only[dQ]at h
   lia
  | some y =>
   rw[ho]at h
   simp only[dQ]at h
   dsimp only
   rw[xe hg r (by lia),hg e y ho];rfl
noncomputable def jH(vs:List Expr):Bool:=!(vs.all (constantsAlone 8))||vs.all (foldedForSure 8)
theorem Et{y:Str}{P:Prop}(h:(none:Option Str)=some y):P:=nomatch h
noncomputable def ss(L:List Str)(r:Sem (Option (List Str))):Prop:=r=pure none\/r=pure (some L)
theorem pB(h:c=false->ss L b):ss L (if c=true then pure none else b):=by
 cases c with
 | true=>exact .inl rfl
 | false=>exact h rfl
theorem Eu{ts vs:List Expr}{k k':Nat}{p p':Pos}{Re:Env}(h:jH vs=true) :
 ss (ts.map kK) (swappedStores [.Tuple ts k p] (.Tuple vs k' p') Re):=by
 unfold swappedStores
 dsimp only
 refine pB fun U=>pB fun U=>pB fun hn=>pB fun hf=>?_
 have hc:(vs.all (constantsAlone 8))=false:=by
  unfold jH at h
  rw[hf]at h
  simpa using h
 rw[hc,if_neg MY]
 right
 replace hn:=bne_eq_false_iff_eq.mp (Bool.or_eq_false_iff.mp hn).1
 show(pure (some _):Sem _)=_
 congr 2
 refine xe (fun e y h=>?_) ts hn
 cases e<;>first | exact Et h | skip
 dsimp only at h
 split at h
 ·cases h;rfl
 ·cases h
section
variable{G:Glo}{Φ:List FEntry}
noncomputable def kL(Φ:List FEntry)(slots:List Nat)(es:List (Bool × IX)):Prim where
 chk sc Rc st:=eF st fun t v U=>iP t fun ts U U=>iP v fun vs U U=>dT sc Rc slots ts&&kJ Φ es sc Rc vs&&jH vs&&decide slots.Nodup&&decide (slots.length=es.length)
 k:=sj Φ es
 pre ρ:=sq Φ es ρ/\es.length<=16777216
 den ρ:=(.next,em ρ (slots.zip (es.map fun p=>pA (Φ:=Φ) p ρ)))
structure MkST(G:Glo)(Re:Env)(sc:Scope)(Rc:List (Option Str))(A:N0)(O:NQ->Prop)(ω:NQ->Option Nat)(h:N9)(sw:Bool)(slots:List Nat)(ts:List Expr)(vs:List NO)(ys:List SV)(l:List ST):Prop where
 f:l.map (·.f)=if sw=true then(ts.map kK).map fun n=>bindName Re n else(PE ts Re).map (·.2)
 v:l.map (·.v)=vs
 z:l.map (fun q=>(q.i,q.y))=slots.zip ys
 lv:vs.length=slots.length
 lt:ts.length=slots.length
 ok:∀q∈l,Rc[q.i]? = some (some q.x)/\aW sc q.x=true/\cF G O ω h q.i (some q.v) q.y /\
  ∀(v:NO) (s:NL) (Q:Unit->NL->Prop) (E:NO->NL->Prop),NN (NP G.prog G.w) A (storeName Re q.x v) Q E s->NN (NP G.prog G.w) A (q.f v) Q E s
theorem mJ(sw:Bool):∀ {slots:List Nat} {ts:List Expr} {vs:List NO} {ys:List SV},dT sc Rc slots ts=true->fY G O ω h slots vs ys->∃l,MkST G Re sc Rc A O ω h sw slots ts vs ys l
 | [],[],[],[],_,_=>⟨[],by cases sw<;>rfl,rfl,rfl,rfl,rfl,fun q hq=>nomatch hq⟩
 | [],_::_,_,_,hc,_=>absurd hc MY
 | _::_,[],_,_,hc,_=>absurd hc MY
 | [],[],_::_,_,_,hv=>hv.elim
 | [],[],[],_::_,_,hv=>hv.elim
 | _::_,_::_,[],_,_,hv=>hv.elim
 | _::_,_::_,_::_,[],_,hv=>hv.elim
 | i::is,t::ts,v::vs,y::ys,hc,hv=>by
  have hx:∃x p,t=.Name x p/\Rc[i]? = some (some x)/\aW sc x=true/\dT sc Rc is ts=true:=by
   refine a7 (show((bv t fun x U=>Rc[i]? == some (some x)&&aW sc x)&&dT sc Rc is ts)=true from hc) fun h1 h2=>?_
   exact cP (P:=fun t=>∃x p,t=.Name x p/\Rc[i]? = some (some x)/\aW sc x=true/\dT sc Rc is ts=true) h1 fun x p h=>a7 h fun h3 h4=>⟨_,_,rfl,NY h3,h4,h2⟩
  refine x24 hx fun x p e2 h1 h2 h3=>?_;subst e2
  refine x11 (mJ (Re:=Re) (A:=A) sw h3 hv.2) fun l m=>?_
  refine⟨⟨if sw=true then fun v=>bindName Re x v else Ox (.Name x p) Re,i,x,v,y⟩::l,?_,congrArg (v::·) m.v,congrArg ((i,y)::·) m.z,congrArg (· + 1) m.lv,congrArg (· + 1) m.lt,fun q hq=>?_⟩
  ·have:=m.f
   cases sw<;>exact congrArg (_::·) this
  ·rcases aa.mp hq with rfl | hq
   ·refine⟨h1,h2,hv.1,fun u s Q E h=>?_⟩
    cases sw with
    | true=>exact wpAny_bindName h
    | false=>exact Ot h
   ·exact m.ok q hq
theorem fY.keeps(wf:G.Wf)(B:G.Base O s.heap)(k:NX s s'):∀ {slots:List Nat} {vs:List NO} {ys:List SV},fY G O ω s.heap slots vs ys->fY G O ω s'.heap slots vs ys
 | [],[],[],h=>h
 | i::is,v::vs,y::ys,h=>⟨h.1.keeps wf B k,fY.keeps wf B k h.2⟩
 | [],_::_,_,h=>h.elim
 | [],[],_::_,h=>h.elim
 | _::_,[],_,h=>h.elim
 | _::_,_::_,[],h=>h.elim
theorem xf:∀(es:List (Bool × IX)) {sc:Scope} {Rc:List (Option Str)} {xs:List Expr},kJ Φ es sc Rc xs=true->∀a∈xs,fu a=true
 | [],_,_,[],_,a,h=>nomatch h
 | [],_,_,x::xs,h,_,_=>absurd h MY
 | _::_,_,_,[],h,_,_=>absurd h MY
 | p::es,_,_,x::xs,h,a,ha=>by
  replace h:((!p.1||kI p.2)&&chk Φ p.2 _ _ x&&kJ Φ es _ _ xs)=true:=h
  simp only[e7]at h
  rcases aa.mp ha with rfl | ha
  ·exact gA p.2 h.1.2
  ·exact xf es h.2 a ha
theorem xg{sc:Scope}{A:N0}{ρ:List SV}{s:NL}{E:NO->NL->Prop}{slots:List Nat}{ts vs:List Expr}{k k':Nat}{p p' pos:Pos}{Q:Flow->NL->Prop}(wf:G.Wf)(hsto:∀i,br Re Rc i)
 (hn:dT sc Rc slots ts=true) (hst:∀a∈vs,fu a=true) (hsafe:jH vs=true) (hnd:slots.Nodup)
 (hev:NN (NP G.prog G.w) A (spliced (vs.map fun a=>(false,N6 a Re))) (fun us s₁=>∃O₁ ω₁ ys,slots.length=ys.length/\us.length<=16777216/\Cond G Re sc Rc A O₁ ω₁ ρ s₁/\fY G O₁ ω₁ s₁.heap slots us ys /\
  ∀s',KM (ba Re) s₁ s'->Cond G Re sc Rc A O₁ ω₁ (em ρ (slots.zip ys)) s'->Q .next s') E s):NN (NP G.prog G.w) A (Oy (.Assign [.Tuple ts k p] (.Tuple vs k' p') pos) Re) Q E s:=by
 rw[exec_Assign_arm]
 refine NM (Od ?_)
 rw[show swapsWithSole [.Tuple ts k p] (.Tuple vs k' p') pos.line Re=pure false from rfl]
 refine NM (NU ?_)
 rw[if_neg MY]
 refine NM (wpAny_Tuple ?_)
 rw[ig _ hst,jz]
 refine NS hev (fun us s₁ h₁=>?_) fun U U x=>x
 refine x35 h₁ fun O₁ ω₁ ys hlen hsz C₁ r₁ hQ=>?_
 have hul:us.length=slots.length:=(mJ (A:=A) (Re:=Re) true hn r₁).elim fun U m=>m.lv
 refine⟨hsz,?_⟩
 have kt:NX s₁ { s₁ with heap:=s₁.heap.push { cls:=.type "tuple",data:=.seq us.toArray } }:=bz _
 have hT:IsT (s₁.heap.push { cls:=.type "tuple",data:=.seq us.toArray }) s₁.heap.objs.size us.toArray 0:=IsT.new _ _
 generalize hs2:({ s₁ with heap:=s₁.heap.push { cls:=.type "tuple",data:=.seq us.toArray } }:NL)=s₂ at kt
 rw[show s₁.heap.push { cls:=.type "tuple",data:=.seq us.toArray }=s₂.heap from by rw[<- hs2]]at hT
 generalize s₁.heap.objs.size=t at hT ⊢
 clear hs2
 have C₂:=C₁.keeps wf kt
 have fin:∀(sw rv:Bool) s₃,NX s₂ s₃->∀(T:List (NO->Sem Unit)),
  T=(if rv=true then List.reverse else id) (if sw=true then(ts.map kK).map fun n=>bindName Re n else(PE ts Re).map (·.2))->NN (NP G.prog G.w) A (Qi T ((if rv=true then List.reverse else id) us)) (fun U s'=>Q .next s') E s₃:=by
  intro sw rv s₃ k3 T hT
  have C₃:=C₂.keeps wf k3
  have K:=aO kt k3
  refine x11 (mJ (Re:=Re) (A:=A) sw hn (r₁.keeps wf C₁.base K)) fun l m=>?_
  rw[<- m.f]at hT
  subst hT
  cases rv with
  | false =>
   have:=xb (E:=E) (A:=A) wf hsto l ρ s₃ (fun U s'=>Q .next s') m.ok C₃ fun s' k C'=>hQ s' ((KM.of K).trans k) (m.z▸C')
   rw[m.v]at this;exact this
  | true =>
   have hmap:((slots.zip ys).map (·.1)).Nodup:=by rw[List.map_fst_zip (gZ hlen)];exact hnd
   have:=xb (E:=E) (A:=A) wf hsto l.reverse ρ s₃ (fun U s'=>Q .next s') (fun q hq=>m.ok q (ot.mp hq)) C₃ fun s' k C'=>hQ s' ((KM.of K).trans k) (by
    rw[List.map_reverse,m.z,xa _ _ hmap]at C';exact C')
   rw[List.map_reverse (f:=ST.v),List.map_reverse (f:=ST.f),m.v]at this;exact this
 have hsz2:us.toArray.size=slots.length:=by rw[vm];exact hul
 rcases Eu (ts:=ts) (k:=k) (p:=p) (k':=k') (p':=p') (Re:=Re) hsafe with hs | hs
 ·rw[hs]
  refine NM (NU ?_)
  show NN _ A (assignAll (.ref t) [Ox (.Tuple ts k p) Re] >>= fun U=>pure Flow.next) _ _ _
  refine NM ?_
  show NN _ A (Ox (.Tuple ts k p) Re (.ref t)) _ _ _
  refine aj (rZ (Re:=Re) slots ts hn) fun h1 h2=>?_
  rw[arm_assign_Tuple]
  refine NM (Od ?_)
  unfold unpack
  rw[h1,h2]
  refine NM (N8 (xc C₂.ok hT hsz2 fun s₃ k3=>?_))
  exact NS (fin false false s₃ k3 _ rfl) (fun U U q=>NU q) fun U U x=>x
 ·rw[hs]
  refine NM (NU ?_)
  unfold assignStores
  refine NM (Qc ?_)
  have hl2:(ts.map kK).length=slots.length:=by rw[af];exact(mJ (A:=A) (Re:=Re) true hn r₁).elim fun U m=>m.lt
  rw[hl2]
  refine NM (xc C₂.ok hT hsz2 fun s₃ k3=>?_)
  exact NM (NS (fin true true s₃ k3 _ (List.map_reverse ..)) (fun U U q=>NU q) fun U U x=>x)
theorem pC(slots:List Nat)(es:List (Bool × IX))(wf:G.Wf)(hF:∀F∈Φ,aM G F):cZ G X (kL Φ slots es):=by
 intro sc Rc st Re A O ω ρ s E Q hc hsto C hX R hp hQ
 refine Cs (P:=fun st=>NN (NP G.prog G.w) A (Oy st Re) Q E s) hc fun ts k p vs k' p' pos hc=>?_
 refine hV hc fun hn he hsafe hnd hlen=>?_
 have hlen:=of_decide_eq_true hlen
 refine xg (ρ:=ρ) wf hsto hn (xf es he) hsafe (of_decide_eq_true hnd) (NS (Er wf hF es slots vs O ω s he hlen C R hp.1) (fun us s₁ h₁=>?_) fun U U x=>x)
 obtain⟨O₁,ω₁,g₁,C₁,r₁⟩:=h₁
 refine⟨O₁,ω₁,_,by rw[af];exact hlen,?_,C₁,r₁,fun s' k C'=>hQ O₁ ω₁ s' .next ((g₁.step (Ff:=Fz X A) (Re:=Re)).trans C.ok.obs (Step.frame k)) C' rfl⟩
 exact(mJ (A:=A) (Re:=Re) true hn r₁).elim fun U m=>by rw[m.lv,hlen];exact hp.2
noncomputable def xh(Φ:List FEntry)(i:Nat)(e:IX):Prim where
 chk sc Rc st:=eF st fun t v U=>bv t fun x U=>Rc[i]? == some (some x)&&aW sc x&&kI e&&chk Φ e sc Rc v
 k:=kx Φ e
 pre ρ:=pre Φ e false ρ
 den ρ:=(.next,ρ.set i (.own (den Φ e ρ)))
theorem Ev(i:Nat)(e:IX)(wf:G.Wf)(hF:∀F∈Φ,aM G F):cZ G X (xh Φ i e):=by
 intro sc Rc st Re A O ω ρ s E Q hc hsto C hX R hp hQ
 refine kn (P:=fun st=>NN (NP G.prog G.w) A (Oy st Re) Q E s) hc fun x p v pos hc=>?_
 refine fm hc fun hi hk hl hv=>?_
 have hi:=NY hi
 have hsw:swapsWithSole [.Name x p] v pos.line Re=pure false:=by
  refine x11 (w7 hl) fun es e1=>?_;subst e1
  exact oW (P:=fun v=>swapsWithSole [.Name x p] v pos.line Re=pure false) hv fun U U U=>rfl
 refine Oc (NS (w8 (i:=i) wf hF hl hv C R hp) (fun u s₁ h₁=>?_) fun U U x=>x) hsw rfl
 obtain⟨O₁,ω₁,g₁,C₁,r₁⟩:=h₁
 show NN _ A (Ox (.Name x p) Re u) _ _ s₁
 exact Ot (dW wf (hsto i) C₁ hi hk r₁ fun s' k C'=>hQ O₁ ω₁ s' .next ((g₁.step (Re:=Re)).trans C.ok.obs (Step.frame k)) C' rfl)
end
theorem jI{α:Type}{P:α->Prop}{a:α}(h:P a):∀y∈[a],P y:=fun y q=>ah.mp q▸h
theorem io{α:Type}{P:α->Prop}{a:α}{l:List α}(h:P a)(k:∀y∈l,P y):∀y∈a::l,P y:=fun y q=>(aa.mp q).elim (fun e=>e▸h) (k y)
theorem Ew{α:Type}{P:α->Prop}{a b c d:α}(h1:P a)(h2:P b)(h3:P c)(h4:P d):∀y∈[a,b,c,d],P y:=io h1 (io h2 (io h3 (jI h4)))
theorem Ex{a b c d:Nat}(h1:a<b)(h2:b<c)(h3:c<d):[a,b,c,d].Nodup :=
 bq.mpr ⟨fun q=>io (P:=fun y=>a<y) h1 (io (Nat.lt_trans h1 h2) (jI (Nat.lt_trans (Nat.lt_trans h1 h2) h3))) a q |> bj a,bq.mpr ⟨fun q=>io (P:=fun y=>b<y) h2 (jI (Nat.lt_trans h2 h3)) b q |> bj b,bq.mpr ⟨fun q=>jI (P:=fun y=>c<y) h3 c q |> bj c,bq.mpr ⟨fun z=>(nomatch z),.nil⟩⟩⟩⟩
theorem Ey{a b c:Nat}(h1:a≠b)(h2:a≠c)(h3:b≠c):[a,b,c].Nodup :=
 bq.mpr ⟨fun q=>io (P:=fun y=>a≠y) h1 (jI h2) a q rfl,bq.mpr ⟨fun q=>jI (P:=fun y=>b≠y) h3 b q rfl,bq.mpr ⟨fun z=>(nomatch z),.nil⟩⟩⟩
theorem bH{x:Str}{l:List Str}(h:l.contains x=true):x∈l:=gC.mp h
theorem sv{α β:Type}{P:α->β->Prop}{a:α}{b:β}(h:P a b):∀(i:Nat) v y,[a][i]? = some v->[b][i]? = some y->P v y:=fun i v y hv hy=>by
 cases i with
 | zero=>cases hv;cases hy;exact h
 | succ i=>cases hv
theorem xi{α β:Type}{P:α->β->Prop}{a:α}{b:β}{as:List α}{bs:List β}(h:P a b)(k:∀(i:Nat) v y,as[i]? = some v->bs[i]? = some y->P v y):∀(i:Nat) v y,(a::as)[i]? = some v->(b::bs)[i]? = some y->P v y:=fun i v y hv hy=>by
 cases i with
 | zero=>cases hv;cases hy;exact h
 | succ i=>exact k i v y hv hy
theorem mK{α β:Type}{P:α->β->Prop}{a a':α}{b b':β}(h:P a b)(h':P a' b'):∀(i:Nat) v y,[a,a'][i]? = some v->[b,b'][i]? = some y->P v y:=xi h (sv h')
theorem xj{α β:Type}{P:α->β->Prop}{a a' a2:α}{b b' b2:β}(h:P a b)(h':P a' b')(h2:P a2 b2):∀(i:Nat) v y,[a,a',a2][i]? = some v->[b,b',b2][i]? = some y->P v y:=xi h (mK h' h2)
theorem xk{kindOf:Str->Option Pj}:∀(binds:List (Str × NO)) (m cm:Str->Option NO) (x:Str),x∉binds.map (·.1)->bindL kindOf binds m x=m x/\bindC kindOf binds cm x=cm x
 | [],_,_,_,_=>⟨rfl,rfl⟩
 | (n,v)::r,m,cm,x,h=>by
  simp only[aQ,aa,not_or]at h
  unfold bindL bindC
  refine aj (xk (kindOf:=kindOf) r (if kindOf n=some .local then fun y=>if y=n then some v else m y else m) (if kindOf n=some .local then cm else fun y=>if y=n then some v else cm y) x h.2) fun h1 h2=>?_
  rw[h1,h2]
  split
  ·exact⟨if_neg h.1,rfl⟩
  ·exact⟨rfl,if_neg h.1⟩
theorem Ez{kindOf:Str->Option Pj}:∀(binds:List (Str × NO)) (m cm:Str->Option NO) (x:Str) (v:NO),(binds.map (·.1)).Nodup->(x,v)∈binds ->
 (kindOf x=some .local->bindL kindOf binds m x=some v)/\(kindOf x≠some .local->bindC kindOf binds cm x=some v):=fun binds=>by
 induction binds with
 | nil=>exact fun _ _ _ _ _ hm=>nomatch hm
 | cons p r ih =>
  intro m cm x v hn hm
  obtain⟨n,u⟩:=p
  rw[aQ,bq]at hn
  unfold bindL bindC
  rcases aa.mp hm with e | hm
  ·cases e
   have h:=fun m cm=>xk (kindOf:=kindOf) r m cm _ hn.1
   constructor
   ·intro hk;rw[(h _ cm).1,if_pos hk];simp
   ·intro hk;rw[(h m _).2,if_neg hk];simp
  ·exact ih _ _ x v hn.2 hm
structure FnSc(sc:Scope)(names vars:List Str):Prop where
 kind:sc.kind=.function
 co:sc.isCoroutine=false
 gen:sc.isGenerator=false
 nd:(sc.names.map (·.1)).Nodup
 vnd:vars.Nodup
 nofree:∀x,(x,Ow)∉sc.names
 var:∀x∈vars,sc.names.lookup x=some .local\/sc.names.lookup x=some .cell
 pfx:vars.take names.length=names
theorem FnSc.st(h:FnSc sc names vars)(hx:x∈vars):aW sc x=true:=(h.var x hx).elim (fun q=>by unfold aW;rw[q];rfl) fun q=>by unfold aW;rw[q];rfl
noncomputable def sx(sc:Scope)(names vars:List Str):Bool :=
 sc.kind==Pw&&!sc.isCoroutine&&!sc.isGenerator&&decide (sc.names.map (·.1)).Nodup&&decide vars.Nodup&&(sc.names.all fun p=>p.2 != Ow)&&(vars.all fun x=>sc.names.lookup x==some NameKind.local||sc.names.lookup x==some OT)&&vars.take names.length==names
theorem FnSc.of(h:sx sc names vars=true):FnSc sc names vars:=by
 unfold sx at h
 simp only[e7,decide_eq_true_eq,beq_iff_eq,bt,sg,bne_iff_ne,ne_eq,M1]at h
 refine aj h fun z0 h8=>?_;refine aj z0 fun z0 h7=>?_;refine aj z0 fun z0 h6=>?_;obtain⟨⟨⟨⟨h1,h2⟩,h3⟩,h4⟩,h5⟩:=z0
 exact⟨h1,h2,h3,h4,h5,fun x hx=>h6 _ hx rfl,h7,h8⟩
theorem EA:∀ {names:List Str} {i:Nat} {x:Str} {v:NO},names[i]? = some x->vs[i]? = some v->(x,v)∈names.zip vs:=by
 intro names i x v h1 h2
 have:(names.zip vs)[i]? = some (x,v):=by rw[List.getElem?_zip_eq_some];exact⟨h1,h2⟩
 exact az this
noncomputable def cw(vars:List Str)(ys:List SV):List SV:=ys++cg (vars.length - ys.length) .un
noncomputable def bg(vars:List Str)(ds:List NR):List SV:=cw vars (ds.map .dat)
noncomputable def eX(G:Glo)(O:NQ->Prop)(h:N9)(v:NO)(y:SV):Prop:=(∃d,y=.dat d/\Rep O h v d)\/y=.val v
section
variable{G:Glo}{Φ:List FEntry}
theorem pD{A:N0}{s s₁:NL}{O:NQ->Prop}{a:NQ}{vs:List NO}{ys:List SV}(sc:FnSc fd.scope names vars)(hg:fd.globals=Ph)(hb:fd.builtins=Qd)
 (ok:Okay A O s) (B:G.Base O s.heap) (r:∀(i:Nat) (v:NO) (y:SV),vs[i]? = some v->ys[i]? = some y->eX G O s.heap v y) (hvl:vs.length=names.length) (hl:ys.length=names.length)
 (x:InCallC s (Qg fd s.heap.objs.size a).locals (bindL (Qg fd s.heap.objs.size a).kindOf (names.zip vs) fun U=>none) (Qg fd s.heap.objs.size a).cells
  (bindC (Qg fd s.heap.objs.size a).kindOf (names.zip vs) fun U=>none) s₁) :
 ∃O',(∀b,O b->O' b)/\(∀b,O' b->O b\/s.heap.get? b=none)/\(∀b,aS (Qg fd s.heap.objs.size a) b->s.heap.get? b=none)/\(∀i,br (Qg fd s.heap.objs.size a) (vars.map some) i)/\Cond G (Qg fd s.heap.objs.size a) fd.scope (vars.map some) (A.deeper (Qg fd s.heap.objs.size a)) O' (fun U=>none) (cw vars ys) s₁/\NX s s₁:=by
 generalize henv:Qg fd s.heap.objs.size a=Re at x
 have hLv:Re.locals=s.heap.objs.size:=by rw[<- henv];rfl
 have hcells:Re.cells=PG (s.heap.objs.size+1) fd.scope.names []:=by rw[<- henv];rfl
 have hsc:Re.scope=fd.scope:=by rw[<- henv];rfl
 have hko:∀y,Re.kindOf y=fd.scope.names.lookup y:=fun y=>by unfold Env.kindOf;rw[hsc]
 have hnle:names.length<=vars.length:=by
  have:=congrArg List.length sc.pfx
  rw[Ma]at this
  exact ae (gZ this.symm) (Nat.min_le_right ..)
 have hnn:names.Nodup:=by rw[<- sc.pfx];exact sc.vnd.sublist (List.take_sublist _ _)
 have hzip:((names.zip vs).map (·.1))=names:=List.map_fst_zip (by rw[hvl];exact bM _)
 have k:NX s s₁:=by
  refine x21 x.toInCall.same fun h t e2=>?_;subst e2
  exact⟨h,t,rfl,x.toInCall.keep⟩
 have fresh:∀b,@LE.le Nat _ s.heap.objs.size b->s.heap.get? b=none:=fun b hb=>by
  cases e:s.heap.get? b with
  | none=>rfl
  | some o=>exact absurd (N3 e) (fG.mpr hb)
 have hcn:∀y c,Re.cells.lookup y=some c->(y,OT)∈fd.scope.names/\@LT.lt Nat _ s.heap.objs.size c:=fun y c e=>by
  rw[hcells,ik,iK]at e
  have:=fv (ot.mp (mem_of_lookup e))
  exact⟨this.2,this.1⟩
 have hck:∀y,fd.scope.names.lookup y=some .cell->∃c,Re.cells.lookup y=some c:=fun y e=>by
  refine x11 (iW (n:=s.heap.objs.size+1) (mem_of_lookup e)) fun c hc=>?_
  refine x11 (jC (ot.mpr hc)) fun c' hc'=>?_
  rw[hcells,ik,iK]
  exact⟨c',hc'⟩
 let O':NQ->Prop:=fun b=>O b\/b=Re.locals\/∃y,Re.cells.lookup y=some b
 have hO2:∀b,O' b->O b\/s.heap.get? b=none:=fun b q=>by
  rcases q with q | rfl | ⟨y,q⟩
  ·exact .inl q
  ·exact .inr (fresh _ (by rw[hLv];exact bM _))
  ·exact .inr (fresh _ (NC (hcn y b q).2))
 have hO3:∀b,O' b->∃o,s₁.heap.get? b=some o:=fun b q=>by
  rcases q with q | rfl | ⟨y,q⟩
  ·refine x11 (ok.obs b q) fun o e=>?_;exact⟨o,ai k b o e⟩
  ·refine x32 x.toInCall.ns fun o U U e U=>?_;exact⟨o,e⟩
  ·refine x12 (x.cell y b q) fun o e U=>?_;exact⟨o,e⟩
 have hFs:∀b,ba Re b->b=Re.locals\/∃y,Re.cells.lookup y=some b:=fun b q=>by
  rcases q with q | ⟨_,y,_,q⟩
  ·exact .inl q
  ·exact .inr ⟨y,q⟩
 refine⟨O',fun b q=>.inl q,hO2,fun b q=>?_,fun i y c h1 h2 h3=>?_,⟨⟨hsc,sc.kind,by rw[<- henv];exact hg,by rw[<- henv];exact hb,fun y hy=>absurd (mem_of_lookup hy) (sc.nofree y),fun y z c h1 h2=>name_of_addr x.apart (mem_of_lookup h1) (mem_of_lookup h2),fun y c e=>.inl (kC sc.nd (hcn y c e).1)⟩,
  ⟨fun i j y h1 h2=>?_,fun i y h=>?_⟩,?_,⟨(ok.hok.mono (ai k):aZ A s₁.heap),fun b hb q=>?_,hO3⟩,⟨fun b o e=>ai k b o (B.kp b o e),fun b q=>?_⟩,fun b q=>.inr (hFs b q),fun y c e=>.inr (.inr ⟨y,e⟩),fun b i e=>by simp at e,
  fun y=>if Re.kindOf y=some .local then bindL Re.kindOf (names.zip vs) (fun U=>none) y else bindC Re.kindOf (names.zip vs) (fun U=>none) y,⟨⟨_,x.toInCall.ns,fun y hy=>?_⟩,fun y hy=>?_⟩,fun i y hy=>?_⟩,k⟩
 ·rcases q with rfl | ⟨y,q⟩
  ·exact fresh _ (by rw[hLv];exact bM _)
  ·exact fresh _ (NC (hcn y b q).2)
 ·rw[hLv];exact(hcn y c h3).2
 ·rw[cu]at h1 h2
  have f:∀i:Nat,Qs some vars[i]? = some (some y)->vars[i]? = some y:=fun i h=>by
   cases e:vars[i]? with
   | none=>rw[e]at h;cases h
   | some z=>rw[e]at h;simpa using h
  exact wP sc.vnd (f i h1) (f j h2)
 ·rw[cu]at h
  have:y∈vars:=by
   cases e:vars[i]? with
   | none=>rw[e]at h;cases h
   | some z=>rw[e]at h;simp at h;subst h;exact az e
  rcases sc.var y this with q | q
  ·exact .inl q
  ·exact .inr (.inl q)
 ·simp only[cw,cb,af,List.length_replicate];exact Nat.add_sub_cancel' (hl▸hnle)
 ·rcases hO2 b q with q | q
  ·exact ok.hno b hb q
  ·refine x11 (ok.hok.there b hb) fun o e=>?_
   rw[q]at e;cases e
 ·rcases hO2 b q with q | q
  ·exact B.off b q
  ·cases e:G.hB.get? b with
   | none=>rfl
   | some o=>rw[B.kp b o e]at q;cases q
 ·rw[if_pos hy]
 ·have hy':fd.scope.names.lookup y=some .cell:=by
   rw[hko]at hy
   rcases hy with hy | hy
   ·exact hy
   ·exact absurd (mem_of_lookup hy) (sc.nofree y)
  refine x11 (hck y hy') fun c hc=>?_
  refine⟨c,hc,?_⟩
  rw[if_neg (by rw[hko,hy'];decide)]
  exact x.cell y c hc
 ·rw[cu]at hy
  have hyv:vars[i]? = some y:=by
   cases e:vars[i]? with
   | none=>rw[e]at hy;cases hy
   | some z=>rw[e]at hy;simpa using hy
  by_cases hi:i<names.length
  ·have hyn:names[i]? = some y:=by
    rw[<- sc.pfx,List.getElem?_take_of_lt hi];exact hyv
   obtain⟨y',hd⟩:∃y',ys[i]? = some y':=⟨_,bw (hl.symm▸hi)⟩
   obtain⟨v,hv⟩:∃v,vs[i]? = some v:=⟨_,bw (hvl.symm▸hi)⟩
   have rv:=r i v y' hv hd
   have hm:=Ez (kindOf:=Re.kindOf) (names.zip vs) (fun U=>none) (fun U=>none) y v (by rw[hzip];exact hnn) (EA hyn hv)
   have hval:(if Re.kindOf y=some .local then bindL Re.kindOf (names.zip vs) (fun U=>none) y else bindC Re.kindOf (names.zip vs) (fun U=>none) y)=some v:=by
    split
    ·rename_i h;exact hm.1 h
    ·rename_i h;exact hm.2 h
   have hrho:(cw vars ys).getD i .un=y':=by
    unfold cw
    rw[av,Na (hl.symm▸hi),hd];rfl
   rw[hrho]
   rcases rv with⟨d,rfl,rv⟩ | rfl
   ·refine⟨v,hval,rv.mono (fun b o U e=>ai k b o e) fun b o e q=>?_⟩
    rcases hO2 b q with q | q
    ·exact q
    ·rw[q]at e;cases e
   ·exact hval
  ·have hrho:(cw vars ys).getD i .un=.un:=by
    unfold cw
    rw[av,L9 (hl▸fG.mp hi),List.getElem?_replicate]
    split<;>rfl
   rw[hrho];trivial
theorem pE(r:RepL O h vs ds):∀(i:Nat) (v:NO) (y:SV),vs[i]? = some v->(ds.map SV.dat)[i]? = some y->eX G O h v y:=by
 intro i v y hv hy
 rw[cu]at hy
 refine x12 (r.get hv) fun d hd rd=>?_
 rw[hd]at hy
 cases hy
 exact .inl ⟨d,rfl,rd⟩
theorem EB(wf:G.Wf)(hF:∀F∈Φ,aM G F)(S:SX)(hP:dX G false S)(F:FEntry){a:NQ}{o:Obj}{fd:Of}{body:List NW}{names vars:List Str}
 (e1:G.mg F.name=some (.ref a)) (e2:G.K.lookup a=some o) (hd:o.data=.func fd) (hbody:fd.body=.stmts body) (hclo:fd.closure=[]) (hg:fd.globals=Ph) (hb:fd.builtins=Qd)
 (hcode:G.hB.CodeRec fd.code fd.qualname) (sc:FnSc fd.scope names vars)
 (hbind:∀vs:List NO,vs.length=names.length->O8 fd ⟨vs,[]⟩=pure (names.zip vs))
 (hchk:cf Φ S fd.scope (vars.map some) body=true) (hk:kS Φ S+1<=F.k)
 (hpre:∀ds,F.pre ds->ds.length=names.length/\bf Φ S (bg vars ds)/\(au Φ S (bg vars ds)).1=.ret (F.val ds)):aM G F:=by
 refine⟨a,o,fd,e1,e2,hd,fun A s O vs ds E R ok B r hp=>?_⟩
 refine cT (hpre ds hp) fun h1 h2 h3=>?_
 have hvl:vs.length=names.length:=by rw[r.length,h1]
 have hnn:names.Nodup:=by rw[<- sc.pfx];exact sc.vnd.sublist (List.take_sublist _ _)
 have hsub:∀y∈names,y∈vars:=fun y hy=>by rw[<- sc.pfx]at hy;exact ND hy
 refine O1 (codeAny_call_cells (binds:=names.zip vs) (show A.depth<1000 from R.fits (cj _)) (B.kp a o (wf.K a o e2)) hd (wf.lim.keeps B.kp) (hcode.keeps B.kp) hbody (hbind vs hvl) hclo (fun x hx=>?_) (fun s₁ x=>?_) sc.co sc.gen sc.kind)
 ·have hm:x.1∈names:=by
   obtain⟨y,v⟩:=x
   exact(List.of_mem_zip hx).1
  rcases sc.var x.1 (hsub _ hm)with q | q
  ·exact .inl q
  ·refine .inr ⟨q,?_⟩
   refine x11 (iW (n:=s.heap.objs.size+1) (mem_of_lookup q)) fun c hc=>?_
   refine x11 (jC (ot.mpr hc)) fun c' hc'=>?_
   rw[ik,iK,hc'];rfl
 ·refine x16 (pD (G:=G) (A:=A) (ys:=ds.map .dat) sc hg hb ok B (pE r) hvl (by simp[h1]) x) fun O' hO U hFs hsto C k=>?_
  refine py wf hF S hP fd.scope (vars.map some) body _ _ O' _ _ s₁ _ _ hchk hsto C (fun q=>by cases q) (R.deeper hk) h2 fun O'' ω'' s' fl st C' hf=>?_
  rw[show(au Φ S (cw vars (ds.map SV.dat))).1=.ret (F.val ds)from h3]at hf
  refine x12 hf fun v e1 rv=>?_;subst e1
  have hnw:∀b,MO (Qg fd s.heap.objs.size a) (fun U=>none) b->s.heap.get? b=none:=fun b q=>by
   rcases q with q | ⟨i,q⟩
   ·exact hFs b q.store
   ·cases q
  exact⟨((st.km.mono (fun U q=>q) (fun U q=>Bool.noConfusion q.1)).km).keeps k hnw,rv.weak fun b q=>st.o1 b (hO b q) fun i z=>by cases z⟩
structure FnInfo(G:Glo)(a:NQ)(fd:Of)(body:List NW)(names vars:List Str):Prop where
 at_:∃o,G.K.lookup a=some o/\o.data=.func fd
 hbody:fd.body=.stmts body
 hclo:fd.closure=[]
 hg:fd.globals=Ph
 hb:fd.builtins=Qd
 hcode:G.hB.CodeRec fd.code fd.qualname
 sc:FnSc fd.scope names vars
theorem kM{vs:List NO}{ys:List SV}{args:List NO}{A:N0}{s:NL}{O:NQ->Prop}{R:Result->NL->Prop}(wf:G.Wf)(FI:FnInfo G a fd body names vars)
 (ok:Okay A O s) (B:G.Base O s.heap) (hr:∀(i:Nat) (v:NO) (y:SV),vs[i]? = some v->ys[i]? = some y->eX G O s.heap v y) (hvl:vs.length=names.length) (hyl:ys.length=names.length) (hroom:A.depth<1000)
 (hbind:O8 fd ⟨args,[]⟩=pure (names.zip vs))
 (h:∀Re O' s₁,NX s s₁->(∀b,O b->O' b)->(∀b,O' b->O b\/s.heap.get? b=none)->(∀b,aS Re b->s.heap.get? b=none)->(∀i,br Re (vars.map some) i)->Cond G Re fd.scope (vars.map some) (A.deeper Re) O' (fun U=>none) (cw vars ys) s₁ ->
  ∀E Qf,(∀v s',R (.ok (.ret v)) s'->Qf (.ret v) s')->(∀s',R (.ok (.ret .none)) s'->Qf .next s')->NN (NP G.prog G.w) (A.deeper Re) (OG body Re) Qf E s₁) :
 O3 (NP G.prog G.w) A (.call (.ref a) ⟨args,[]⟩) R s:=by
 refine x12 FI.at_ fun o e2 hd=>?_
 have sc:=FI.sc
 have hsub:∀y∈names,y∈vars:=fun y hy=>by rw[<- sc.pfx]at hy;exact ND hy
 refine codeAny_call_cells (binds:=names.zip vs) (by show A.depth<1000;exact hroom) (B.kp a o (wf.K a o e2)) hd (wf.lim.keeps B.kp) (FI.hcode.keeps B.kp) FI.hbody hbind FI.hclo (fun x hx=>?_) (fun s₁ x=>?_) sc.co sc.gen sc.kind
 ·have hm:x.1∈names:=by
   obtain⟨y,v⟩:=x
   exact(List.of_mem_zip hx).1
  rcases sc.var x.1 (hsub _ hm)with q | q
  ·exact .inl q
  ·refine .inr ⟨q,?_⟩
   refine x11 (iW (n:=s.heap.objs.size+1) (mem_of_lookup q)) fun c hc=>?_
   refine x11 (jC (ot.mpr hc)) fun c' hc'=>?_
   rw[ik,iK,hc'];rfl
 ·refine x16 (pD (G:=G) (A:=A) (ys:=ys) sc FI.hg FI.hb ok B hr hvl hyl x) fun O' hO hO2 hSt hsto C k=>?_
  exact h _ O' s₁ k hO hO2 hSt hsto C _ _ (fun U U q=>q) fun U q=>q
end
end
section
open PySem PySem.W PyProof.Rows PySem.Spec PySem.SeqAt PySem.Calls Builtin Builtin.ObjectAttr Builtin.Getset_descriptor
section
variable{prog:Ol}{w:Og}{A:N0}{E:NO->NL->Prop}{R:Result->NL->Prop}{s:NL}{K:Frag}{x C dx:NQ}{es:List PQ}{n:Nat}{name:Str}{v:NO}
theorem xl{h:N9}{a:NQ}{o:Obj}{f:Obj->Obj}(e:h.get? a=some o)(hf:(f o).isFreed=false):(h.update a f).get? a=some (f o):=Py _ e hf
set_option tactic.hygienic true in
theorem EC{ox:Obj}{tk:Tok}(X:K.In s.heap)(I:InstAt s.heap x ox C (some (PL es n)))(hd:ox.dict=some dx)(hp:plainOver K C=true)(ht:takerIn K C name=some none)(hh:(clsIn K C).any (·.hasDict)=true)
 (hl:(getL name es).isSome=true) (hz:es.length<=999)
 (h:∀h',OQ dx s.heap h'->h'.get? dx=some (PL (putL name (PH w.params name) (.str name s.toks) v es) (putN name es n))->R (.ok (.ret .none)) { s with heap:=h',toks:=s.toks+1 }) :
 O3 (NP prog w) A (.call (.builtin "object.__setattr__") ⟨[.ref x,.str name tk,v],[]⟩) R s:=by
 refine osa_open X I hp ht fun b=>?_
 refine x12 (any_some hh) fun cd hc hd'=>?_
 have D:s.heap.get? dx=some (PL es n):=by
  have:=I.dict
  rw[hd]at this
  exact this
 have e:=putName_dict name (PH w.params name) (.str name s.toks) v es n
 have D':(s.heap.update dx (Obj.putName name (PH w.params name) (.str name s.toks) v)).get? dx=some (PL (putL name (PH w.params name) (.str name s.toks) v es) (putN name es n)):=by
  rw[xl D (by rw[e];rfl),e]
 obtain⟨hx,hcl,hn,-⟩:=I
 obtain⟨oc,odi,oda,osl⟩:=ox
 dsimp only at hcl hd
 subst hcl hd
 refine NM (NU (NM (NM (wpAny_loadPart hx (NM ((looks_clsIn X hc).here ?_))))))
 rw[hd']
 refine NU (a:=some dx) (NM (NU (NM ?_)))
 unfold nsSet
 refine NM (NM (wpAny_askSetting (NU (NM (wpAny_mkText (NM (wpAny_loadPart D ?_)))))))
 dsimp only[PL]
 have c:(!(es.toArray).any (·.key.isStr name)&&(es.toArray).any (·.refKey))=false:=by
  rw[<- Array.any_toList,<- Array.any_toList]
  unfold getL at hl
  split at hl
  ·rename_i en he
   rw[dP.mpr ⟨en,M7 he,List.find?_some he⟩];rfl
  ·split at hl
   ·cases hl
   ·rename_i z;rw[qV]at z
    show(_&&es.any (·.refKey))=false
    rw[z,Bool.and_false]
 rw[aRefKeyMayBeTheName_at,c]
 refine wpAny_updatePart D ?_
 have len:∀(hsh:Int) (key v:NO) (es:List PQ),(putL name hsh key v es).length<=es.length+1:=by
  intro hsh key v es
  induction es with
  | nil=>exact bM _
  | cons e r ih =>
   unfold putL
   split
   ·simp
   ·simpa using ih
 refine NM (wpAny_lookBehind D' (pastItsLine_dict (by
  have:=len (PH w.params name) (.str name s.toks) v es
  rw[vm,OK];lia)) ?_)
 exact NU (h _ (Om ..) D')
theorem xm{Q:Unit->NL->Prop}(X:K.In s.heap)(I:InstAt s.heap x ox C (some (PL es n)))(hd:ox.dict=some dx)
 (hs:findIn K (.ref C) "__setattr__" = some (some (.builtin "object.__setattr__"))) (hp:plainOver K C=true) (ht:takerIn K C name=some none) (hh:(clsIn K C).any (·.hasDict)=true)
 (hl:(getL name es).isSome=true) (hz:es.length<=999)
 (h:∀h',OQ dx s.heap h'->h'.get? dx=some (PL (putL name (PH w.params name) (.str name (s.toks+1)) v es) (putN name es n))->Q () { s with heap:=h',toks:=s.toks+2 }) :
 NN (NP prog w) A (setAttr (.ref x) name v) Q E s :=
 set_plain X I hs (EC (s:={ s with toks:=s.toks+1 }) X I hd hp ht hh hl hz fun h' h1 h2=>h h' h1 h2)
theorem ED{ox:Obj}{od:Option Obj}{p i:Nat}(X:K.In s.heap)(I:InstAt s.heap x ox C od)(hp:slotIn K p C=some i)(hi:i<1000)
 (hf:({ ox with slots:=(ox.slots++NA (i+1 - ox.slots.size) none).setIfInBounds i (some v) }:Obj).isFreed=false)
 (h:∀h',OQ x s.heap h'->h'.get? x=some { ox with slots:=(ox.slots++NA (i+1 - ox.slots.size) none).setIfInBounds i (some v) }->R (.ok (.ret .none)) { s with heap:=h' }) :
 O3 (NP prog w) A (.call (.builtin "member_descriptor.__set__") ⟨[.ref p,.ref x,v],[]⟩) R s:=by
 obtain⟨n,tn,owner,behind,tb,d,sl,cd,ho,hc,hm,hb,rfl⟩:=slot_of X hp
 have D':=xl (f:=fun o=>{ o with slots:=(o.slots++NA (cd.slotNames.length - 1 - behind.toNat+1 - o.slots.size) none).setIfInBounds (cd.slotNames.length - 1 - behind.toNat) (some v) }) I.at_ hf
 obtain⟨hh,g,dr,t,os⟩:=s
 have L0:=I.type (M:=NP prog w)
 have L1:=looks_mroIn (M:=NP prog w) X hm
 have L2:Looks (NP prog w) hh (Slots.slotNamesOf (.ref C)) cd.slotNames:=(looks_clsIn X hc).andThen .now
 have hx:=I.at_
 dsimp only at ho hx L0 L1
 have f0:=looks_field (M:=NP prog w) ho 0 (v:=.str n tn) rfl
 have f1:=looks_field (M:=NP prog w) ho 1 (v:=owner) rfl
 have f3:=looks_field (M:=NP prog w) ho 3 (v:=.builtin "proto.slot#set") rfl
 have f4:=looks_field (M:=NP prog w) ho 4 (v:=.int behind tb) rfl
 refine PF KF.slot_mset.plain KF.entry_mset (KF.slot_mset.check _ _ _ _ _ _ _ _ ⟨_,ho,rfl⟩ (KF.args_mset _ _ _) ?_)
 unfold OX.«member_descriptor.__set__» descrSet descrStoreThrough descrCheckInstance descrNameAndClass isInstance
 have f5:Looks (NP prog w) hh (descrItself (.ref p)) [.ref p]:=((Looks.ld (part:=none) ho).andThen .now).andThen (Looks.of_pure (by kernel_rfl))
 repeat lk
 refine⟨Code.quiet_builtin _ (by decide +kernel),Qn KF.entry_slotset ?_⟩
 unfold OX.«proto.slot#set» Slots.target
 repeat lk
 rw[if_neg hb]
 refine NU (NM ?_)
 unfold setSlotAt
 dsimp only
 rw[if_neg (by rw[OK];lia)]
 exact wpAny_updatePart hx (NU (h _ (Om ..) D'))
theorem xo{p i:Nat}{Q:Unit->NL->Prop}(X:K.In s.heap)(I:InstAt s.heap x ox C od)
 (hs:findIn K (.ref C) "__setattr__" = some (some (.builtin "object.__setattr__"))) (hp:plainOver K C=true) (ht:takerIn K C name=some (some (.ref p))) (hT:typeIn K (.ref p)=some (.type "member_descriptor")) (hi:slotIn K p C=some i) (hz:i<1000)
 (hf:({ ox with slots:=(ox.slots++NA (i+1 - ox.slots.size) none).setIfInBounds i (some v) }:Obj).isFreed=false)
 (h:∀h',OQ x s.heap h'->h'.get? x=some { ox with slots:=(ox.slots++NA (i+1 - ox.slots.size) none).setIfInBounds i (some v) }->Q () { s with heap:=h',toks:=s.toks+1 }) :
 NN (NP prog w) A (setAttr (.ref x) name v) Q E s :=
 set_plain X I hs (osa_descr (s:={ s with toks:=s.toks+1 }) KF.slot_mset X I hp ht hT (ED (s:={ s with toks:=s.toks+1 }) X I hi hz hf fun h' h1 h2=>h h' h1 h2))
theorem EE{expr:Bool}{Q:NO->NL->Prop}{attr:Option NO}(X:K.In s.heap)(I:InstAt s.heap x ox C (some (PL es n)))(hg:plainGet K C name=true)(hh:hasDictIn K C=true)
 (ha:findIn K (.ref C) name=some attr) (hn:noGet K attr=true) (hl:getL name es=some (some v)) (hv:handedIn v=true) (h:Q v { s with toks:=s.toks+1 }) :
 NN (NP prog w) A (PI (.ref x) name expr) Q E s :=
 get_value X I (plainGet_of hg).1 (findObj_own hh ha hn hl) hv h
theorem sy{expr:Bool}{p i:Nat}{Q:NO->NL->Prop}(X:K.In s.heap)(I:InstAt s.heap x ox C (some od))(hg:plainGet K C name=true)(hc:isClsIn K C=true)
 (ha:findIn K (.ref C) name=some (some (.ref p))) (hn:specialIn K (.ref p) "__get__" = some (some (.builtin "member_descriptor.__get__"))) (ht:takesIn K (.ref p)=some true) (hp:slotIn K p C=some i)
 (hv:(ox.slots[i]?).join=some v) (hh:handedIn v=true) (h:Q v { s with toks:=s.toks+1 }):NN (NP prog w) A (PI (.ref x) name expr) Q E s :=
 get_bind X I (plainGet_of hg).1 (findObj_data hc ha hn ht) (plainGet_of hg).2 (O1 (slot_get (s:={ s with toks:=s.toks+1 }) X I hp hv (handed_on hh h)))
end
end
section
open PySem PySem.W PyProof.Rows PySem.Spec PySem.SeqAt PySem.Calls
noncomputable def pF:List Str:=[ofString "_node2info",ofString "_ready_nodes",ofString "_npassedout",ofString "_nfinished"]
noncomputable def eI(K:Frag)(TS:NQ):Bool :=
 makesIn K TS&&hasDictIn K TS&&findIn K (.ref TS) "__setattr__" == some (some (.builtin "object.__setattr__"))&&plainOver K TS &&
 pF.all fun nm=>plainGet K TS nm&&findIn K (.ref TS) nm==some none&&takerIn K TS nm==some none
noncomputable def fy(K:Frag)(NI:NQ):Bool :=
 makesIn K NI&&findIn K (.ref NI) "__setattr__" == some (some (.builtin "object.__setattr__"))&&plainOver K NI&&isClsIn K NI
noncomputable def dK(K:Frag)(NI:NQ)(nm:Str)(p i:Nat):Bool :=
 plainGet K NI nm&&findIn K (.ref NI) nm==some (some (.ref p))&&specialIn K (.ref p) "__get__" == some (some (.builtin "member_descriptor.__get__"))&&takesIn K (.ref p)==some true&&slotIn K p NI==some i &&
 takerIn K NI nm==some (some (.ref p))&&typeIn K (.ref p)==some (.type "member_descriptor")
noncomputable def kN(K:Frag)(TS:NQ)(nm:Str)(f:NQ):Bool:=plainGet K TS nm&&findIn K (.ref TS) nm==some (some (.ref f))&&isFn K (.ref f)&&keepIn K (.ref f)&&fnIn K f
structure NInf where
 key:Int
 a:NQ
 dx:NQ
 sl:NQ
 np:Int
 su:List Int
structure SLay where
 x:NQ
 dx:NQ
 n2i:NQ
 inf:List NInf
 rd:Option (NQ × List Int)
 po:Int
 fi:Int
noncomputable def SLay.rdv(L:SLay):NO:=match L.rd with
 | some (r,_)=>.ref r
 | none=>.none
noncomputable def SLay.infAs(L:SLay):List NQ:=L.inf.flatMap fun f=>[f.a,f.dx,f.sl]
noncomputable def SLay.rdAs(L:SLay):List NQ:=match L.rd with
 | some (r,_)=>[r]
 | none=>[]
noncomputable def SLay.addrs(L:SLay):List NQ:=L.x::L.dx::L.n2i::(L.infAs++L.rdAs)
noncomputable def jJ(h1 h2 h3 h4:Int)(t1 t2 t3 t4 t5 t6:Tok)(n2i:NQ)(rdv:NO)(po fi:Int):List PQ :=
 [⟨h1,.str (ofString "_node2info") t1,.ref n2i⟩,⟨h2,.str (ofString "_ready_nodes") t2,rdv⟩,⟨h3,.str (ofString "_npassedout") t3,.int po t5⟩,⟨h4,.str (ofString "_nfinished") t4,.int fi t6⟩]
noncomputable def jK(NI:NQ)(f:NInf)(t1 t2:Tok):Obj:={ cls:=.ref NI,dict:=some f.dx,data:=.plain,slots:=#[some (.int f.key t1),some (.int f.np t2),some (.ref f.sl)] }
structure SorAt(prog:Ol)(w:Og)(L:SLay)(h:N9):Prop where
 inst:h.get? L.x=some (O4 TS L.dx)
 dict:∃h1 h2 h3 h4 t1 t2 t3 t4 t5 t6 n,h.get? L.dx=some (PL (jJ h1 h2 h3 h4 t1 t2 t3 t4 t5 t6 L.n2i L.rdv L.po L.fi) n)
 n2i:h.DictOf (On prog w) L.n2i (L.inf.map fun f=>(f.key,.ref f.a))
 info:∀f∈L.inf,(∃t1 t2,h.get? f.a=some (jK NI f t1 t2))/\h.get? f.dx=some OU/\∃vs n,IsL h f.sl vs n/\Pa vs.toList f.su
 rdy:∀r l,L.rd=some (r,l)->∃vs n,IsL h r vs n/\Pa vs.toList l
 nd:L.addrs.Nodup
section
variable{prog:Ol}{w:Og}{L:SLay}{h h':N9}
theorem SLay.m0:L.x∈L.addrs:=.head _
theorem SLay.m1:L.dx∈L.addrs:=.tail _ (.head _)
theorem SLay.m2:L.n2i∈L.addrs:=.tail _ (.tail _ (.head _))
theorem sz(hf:f∈L.inf):f.a∈L.infAs/\f.dx∈L.infAs/\f.sl∈L.infAs :=
 ⟨dF.mpr ⟨f,hf,by simp⟩,dF.mpr ⟨f,hf,by simp⟩,dF.mpr ⟨f,hf,by simp⟩⟩
theorem mL(hf:f∈L.inf):f.a∈L.addrs/\f.dx∈L.addrs/\f.sl∈L.addrs:=by
 have:=sz hf
 simp only[SLay.addrs,aa,aI]
 exact⟨.inr (.inr (.inr (.inl this.1))),.inr (.inr (.inr (.inl this.2.1))),.inr (.inr (.inr (.inl this.2.2)))⟩
theorem EF(e:L.rd=some (r,l)):r∈L.addrs:=by
 simp only[SLay.addrs,aa,aI]
 exact .inr (.inr (.inr (.inr (by simp[SLay.rdAs,e]))))
theorem SorAt.keeps(S:SorAt prog w L h)(hk:∀b o,b∈L.addrs->h.get? b=some o->h'.get? b=some o):SorAt prog w L h' where
 inst:=hk _ _ SLay.m0 S.inst
 dict:=by
  obtain⟨h1,h2,h3,h4,t1,t2,t3,t4,t5,t6,n,e⟩:=S.dict
  exact⟨h1,h2,h3,h4,t1,t2,t3,t4,t5,t6,n,hk _ _ SLay.m1 e⟩
 n2i:=fn (fun o e=>hk _ o SLay.m2 e) S.n2i
 info:=fun f hf=>by
  obtain⟨⟨t1,t2,e⟩,e2,vs,n,hl,hi⟩:=S.info f hf
  exact⟨⟨t1,t2,hk _ _ (mL hf).1 e⟩,hk _ _ (mL hf).2.1 e2,vs,n,hk _ _ (mL hf).2.2 hl,hi⟩
 rdy:=fun r l e=>by
  refine x22 (S.rdy r l e) fun vs n hl hi=>?_
  exact⟨vs,n,hk _ _ (EF e) hl,hi⟩
 nd:=S.nd
set_option tactic.hygienic true in
theorem SorAt.there(S:SorAt prog w L h)(hb:b∈L.addrs):∃o,h.get? b=some o:=by
 simp only[SLay.addrs,aa,aI]at hb
 rcases hb with rfl | rfl | rfl | hb | hb
 ·exact⟨_,S.inst⟩
 ·obtain⟨h1,h2,h3,h4,t1,t2,t3,t4,t5,t6,n,e⟩:=S.dict;exact⟨_,e⟩
 ·refine x12 (Heap.dictOf_iff.mp S.n2i) fun o e U=>?_;exact⟨o,e⟩
 ·refine x12 (dF.mp hb) fun f hf hb=>?_
  obtain⟨⟨t1,t2,e⟩,e2,vs,n,hl,_⟩:=S.info f hf
  simp only[aa,iJ,or_false]at hb
  rcases hb with rfl | rfl | rfl
  ·exact⟨_,e⟩
  ·exact⟨_,e2⟩
  ·exact⟨_,hl⟩
 ·unfold SLay.rdAs at hb
  split at hb
  ·rename_i r l e
   refine x22 (S.rdy r l e) fun vs n hl U=>?_
   rw[ah.mp hb];exact⟨_,hl⟩
  ·cases hb
structure SNe(L:SLay):Prop where
 xd:L.x≠L.dx
 xn:L.x≠L.n2i
 dn:L.dx≠L.n2i
 ix:∀c∈L.infAs,c≠L.x/\c≠L.dx/\c≠L.n2i
 rx:∀c∈L.rdAs,c≠L.x/\c≠L.dx/\c≠L.n2i
 ir:∀c∈L.infAs,∀d∈L.rdAs,c≠d
 ind:L.infAs.Nodup
 rnd:L.rdAs.Nodup
theorem SLay.ne_iff:L.addrs.Nodup↔SNe L:=by
 simp only[SLay.addrs,bq,aa,aI,not_or,c7]
 constructor
 ·rintro ⟨⟨a1,a2,a3,a4⟩,⟨b1,b2,b3⟩,⟨c1,c2⟩,d1,d2,d3⟩
  exact⟨a1,a2,b1,fun c h=>⟨fun q=>a3 (q▸h),fun q=>b2 (q▸h),fun q=>c1 (q▸h)⟩,fun c h=>⟨fun q=>a4 (q▸h),fun q=>b3 (q▸h),fun q=>c2 (q▸h)⟩,d3,d1,d2⟩
 ·rintro ⟨a,b,c,d,e,f,g,i⟩
  exact⟨⟨a,b,fun q=>(d _ q).1 rfl,fun q=>(e _ q).1 rfl⟩,⟨c,fun q=>(d _ q).2.1 rfl,fun q=>(e _ q).2.1 rfl⟩,⟨fun q=>(d _ q).2.2 rfl,fun q=>(e _ q).2.2 rfl⟩,g,i,f⟩
theorem EG:handedIn L.rdv=true:=by
 obtain⟨x,dx,n2i,inf,rd,po,fi⟩:=L
 cases rd with
 | none=>rfl
 | some p=>rfl
theorem SorAt.instAt(S:SorAt prog w L h):∃h1 h2 h3 h4 t1 t2 t3 t4 t5 t6 n,h.get? L.dx=some (PL (jJ h1 h2 h3 h4 t1 t2 t3 t4 t5 t6 L.n2i L.rdv L.po L.fi) n) /\
 InstAt h L.x (O4 TS L.dx) TS (some (PL (jJ h1 h2 h3 h4 t1 t2 t3 t4 t5 t6 L.n2i L.rdv L.po L.fi) n)):=by
 obtain⟨h1,h2,h3,h4,t1,t2,t3,t4,t5,t6,n,e⟩:=S.dict
 exact⟨h1,h2,h3,h4,t1,t2,t3,t4,t5,t6,n,e,S.inst,rfl,rfl,e⟩
end
section
variable{prog:Ol}{w:Og}{A:N0}{E:NO->NL->Prop}{s:NL}{K:Frag}{L:SLay}{expr:Bool}
theorem sA(hc:eI K TS=true)(hn:nm∈pF):plainGet K TS nm=true/\findIn K (.ref TS) nm=some none/\takerIn K TS nm=some none/\hasDictIn K TS=true/\findIn K (.ref TS) "__setattr__" = some (some (.builtin "object.__setattr__"))/\plainOver K TS=true:=by
 unfold eI at hc
 simp only[e7,beq_iff_eq,bt]at hc
 refine aj hc fun z0 h5=>?_;refine aj z0 fun z0 h4=>?_;refine aj z0 fun z0 h3=>?_;obtain⟨h1,h2⟩:=z0
 have:=h5 nm hn
 exact⟨this.1.1,this.1.2,this.2,h2,h3,h4⟩
theorem EH:noGet K none=true:=rfl
theorem xq{Q:NO->NL->Prop}(X:K.In s.heap)(hc:eI K TS=true)(S:SorAt prog w L s.heap)(hn:nm∈pF)(hv:handedIn v=true)
 (hl:∀h1 h2 h3 h4 t1 t2 t3 t4 t5 t6,getL nm (jJ h1 h2 h3 h4 t1 t2 t3 t4 t5 t6 L.n2i L.rdv L.po L.fi)=some (some v)) (h:Q v { s with toks:=s.toks+1 }):NN (NP prog w) A (PI (.ref L.x) nm expr) Q E s:=by
 obtain⟨h1,h2,h3,h4,t1,t2,t3,t4,t5,t6,n,e,I⟩:=S.instAt
 refine g7 (sA hc hn) fun f1 f2 f3 f4 f5 f6=>?_
 exact EE X I f1 f4 f2 EH (hl ..) hv h
theorem pG(X:K.In s.heap)(hc:eI K TS=true)(S:SorAt prog w L s.heap)(h:Q (.ref L.n2i) { s with toks:=s.toks+1 }):NN (NP prog w) A (PI (.ref L.x) (ofString "_node2info") expr) Q E s :=
 xq X hc S (bH (by kernel_rfl)) rfl (fun U U U U U U U U U U=>rfl) h
theorem xr(X:K.In s.heap)(hc:eI K TS=true)(S:SorAt prog w L s.heap)(h:Q L.rdv { s with toks:=s.toks+1 }):NN (NP prog w) A (PI (.ref L.x) (ofString "_ready_nodes") expr) Q E s :=
 xq X hc S (bH (by kernel_rfl)) EG (fun U U U U U U U U U U=>rfl) h
theorem SorAt.dxd(S:SorAt prog w L h)(hx:L'.x=L.x)(hd:L'.dx=L.dx)(hn:L'.n2i=L.n2i)(hi:L'.inf=L.inf)(hs:Ou L.dx h h')
 (hdict:∃h1 h2 h3 h4 t1 t2 t3 t4 t5 t6 n,h'.get? L.dx=some (PL (jJ h1 h2 h3 h4 t1 t2 t3 t4 t5 t6 L.n2i L'.rdv L'.po L'.fi) n)) (hr:∀r l,L'.rd=some (r,l)->∃vs n,IsL h' r vs n/\Pa vs.toList l) (nd:L'.addrs.Nodup):SorAt prog w L' h':=by
 have ne:=SLay.ne_iff.mp S.nd
 refine⟨by rw[hx,hd];exact hs _ _ ne.xd S.inst,by rw[hd,hn];exact hdict,by rw[hn,hi];exact fn (fun o e=>hs _ o (OW ne.dn) e) S.n2i,fun f hf=>?_,hr,nd⟩
 rw[hi]at hf
 obtain⟨⟨t1,t2,e⟩,e2,vs,n,hl,hii⟩:=S.info f hf
 have m:=sz hf
 exact⟨⟨t1,t2,hs _ _ (ne.ix _ m.1).2.1 e⟩,hs _ _ (ne.ix _ m.2.1).2.1 e2,vs,n,hs _ _ (ne.ix _ m.2.2).2.1 hl,hii⟩
theorem EI{Q:Unit->NL->Prop}(X:K.In s.heap)(hc:eI K TS=true)(S:SorAt prog w L s.heap)(hr:∃vs n,IsL s.heap r vs n/\Pa vs.toList l)(hnew:r∉L.x::L.dx::L.n2i::L.infAs)
 (h:∀h',OQ L.dx s.heap h'->SorAt prog w { L with rd:=some (r,l) } h'->Q () { s with heap:=h',toks:=s.toks+2 }):NN (NP prog w) A (setAttr (.ref L.x) (ofString "_ready_nodes") (.ref r)) Q E s:=by
 obtain⟨h1,h2,h3,h4,t1,t2,t3,t4,t5,t6,n,e,I⟩:=S.instAt
 refine g7 (sA (nm:=ofString "_ready_nodes") hc (bH (by kernel_rfl))) fun f1 f2 f3 f4 f5 f6=>?_
 simp only[aa,not_or]at hnew
 refine xm X I rfl f5 f6 f3 f4 rfl (by simp[jJ]) fun h' hs hd=>h h' hs (S.dxd rfl rfl rfl rfl hs.extBut ⟨h1,h2,h3,h4,t1,t2,t3,t4,t5,t6,_,hd⟩ (fun r' l' e'=>?_) (SLay.ne_iff.mpr ?_))
 ·cases e'
  refine x22 hr fun vs n hl hi=>?_
  exact⟨vs,n,hs.extBut _ _ hnew.2.1 hl,hi⟩
 ·have ne:=SLay.ne_iff.mp S.nd
  refine⟨ne.xd,ne.xn,ne.dn,ne.ix,fun c hc=>?_,fun c hc d hd=>?_,ne.ind,by simp[SLay.rdAs]⟩
  ·simp only[SLay.rdAs,ah]at hc
   subst hc;exact⟨hnew.1,hnew.2.1,hnew.2.2.1⟩
  ·simp only[SLay.rdAs,ah]at hd
   subst hd;exact fun q=>hnew.2.2.2 (q▸hc)
theorem mM(hn:fy K NI=true)(hs:dK K NI nm p i=true):plainGet K NI nm=true/\isClsIn K NI=true/\findIn K (.ref NI) nm=some (some (.ref p))/\specialIn K (.ref p) "__get__" = some (some (.builtin "member_descriptor.__get__")) /\
 takesIn K (.ref p)=some true/\slotIn K p NI=some i/\takerIn K NI nm=some (some (.ref p))/\typeIn K (.ref p)=some (.type "member_descriptor")/\findIn K (.ref NI) "__setattr__" = some (some (.builtin "object.__setattr__"))/\plainOver K NI=true:=by
 unfold fy at hn
 unfold dK at hs
 simp only[e7,beq_iff_eq]at hn hs
 refine aj hn fun z0 a4=>?_;refine aj z0 fun z0 a3=>?_;refine aj z0 fun a1 a2=>?_
 refine aj hs fun z0 b7=>?_;refine aj z0 fun z0 b6=>?_;refine aj z0 fun z0 b5=>?_;obtain⟨⟨⟨b1,b2⟩,b3⟩,b4⟩:=z0
 exact⟨b1,a4,b2,b3,b4,b5,b6,b7,a2,a3⟩
theorem SorAt.infAt(S:SorAt prog w L h)(hf:f∈L.inf):∃t1 t2,h.get? f.a=some (jK NI f t1 t2)/\InstAt h f.a (jK NI f t1 t2) NI (some OU):=by
 refine cT (S.info f hf) fun z0 e2 U=>?_;refine x21 z0 fun t1 t2 e=>?_
 exact⟨t1,t2,e,e,rfl,rfl,e2⟩
theorem xt{Q:NO->NL->Prop}(X:K.In s.heap)(hn:fy K NI=true)(hs:dK K NI (ofString "npredecessors") p 1=true) (S:SorAt prog w L s.heap) (hf:f∈L.inf)
 (h:∀t,Q (.int f.np t) { s with toks:=s.toks+1 }):NN (NP prog w) A (PI (.ref f.a) (ofString "npredecessors") expr) Q E s:=by
 refine x22 (S.infAt hf) fun t1 t2 e I=>?_
 refine lN (mM hn hs) fun b1 a4 b2 b3 b4 b5 b6 b7 a2 a3=>?_
 exact sy X I b1 a4 b2 b3 b4 b5 rfl rfl (h t2)
theorem EJ{Q:NO->NL->Prop}(X:K.In s.heap)(hn:fy K NI=true)(hs:dK K NI (ofString "node") p 0=true) (S:SorAt prog w L s.heap) (hf:f∈L.inf)
 (h:∀t,Q (.int f.key t) { s with toks:=s.toks+1 }):NN (NP prog w) A (PI (.ref f.a) (ofString "node") expr) Q E s:=by
 refine x22 (S.infAt hf) fun t1 t2 e I=>?_
 refine lN (mM hn hs) fun b1 a4 b2 b3 b4 b5 b6 b7 a2 a3=>?_
 exact sy X I b1 a4 b2 b3 b4 b5 rfl rfl (h t1)
theorem xu{Q:NO->NL->Prop}(X:K.In s.heap)(hn:fy K NI=true)(hs:dK K NI (ofString "successors") p 2=true) (S:SorAt prog w L s.heap) (hf:f∈L.inf)
 (h:Q (.ref f.sl) { s with toks:=s.toks+1 }):NN (NP prog w) A (PI (.ref f.a) (ofString "successors") expr) Q E s:=by
 refine x22 (S.infAt hf) fun t1 t2 e I=>?_
 refine lN (mM hn hs) fun b1 a4 b2 b3 b4 b5 b6 b7 a2 a3=>?_
 exact sy X I b1 a4 b2 b3 b4 b5 rfl rfl h
end
noncomputable def aY(f:NInf):List NQ:=[f.a,f.dx,f.sl]
theorem xv{inf:List NInf}:∀ {i j:Nat} {f g:NInf},(inf.flatMap aY).Nodup->inf[i]? = some f->inf[j]? = some g->i≠j->∀c∈aY f,c∉aY g:=by
 induction inf with
 | nil=>intro i j f g _ h;cases h
 | cons e r ih =>
  intro i j f g hn h1 h2 hij c hc hd
  rw[BJ,c7]at hn
  cases i with
  | zero =>
   simp at h1;subst h1
   cases j with
   | zero=>exact hij rfl
   | succ j =>
    simp at h2
    exact hn.2.2 c hc c (dF.mpr ⟨g,az h2,hd⟩) rfl
  | succ i =>
   simp at h1
   cases j with
   | zero =>
    simp at h2;subst h2
    exact hn.2.2 c hd c (dF.mpr ⟨f,az h1,hc⟩) rfl
   | succ j =>
    simp at h2
    exact ih hn.2.1 h1 h2 (by lia) c hc hd
theorem xw{inf:List NInf}{f:NInf}(hn:(inf.flatMap aY).Nodup)(hf:f∈inf):(aY f).Nodup:=by
 induction inf with
 | nil=>cases hf
 | cons e r ih =>
  rw[BJ,c7]at hn
  rcases aa.mp hf with rfl | hf
  ·exact hn.1
  ·exact ih hn.2.1 hf
theorem xx{β:Type}{g:NInf->β}{f f':NInf}:∀ {inf:List NInf} {k:Nat},inf[k]? = some f->g f'=g f->(inf.set k f').map g=inf.map g
 | e::r,0,h,e'=>by simp at h;subst h;simp[e']
 | e::r,k+1,h,e'=>by
  simp at h
  simp[xx h e']
theorem sC(e:aY f'=aY f):∀ {inf:List NInf} {k:Nat},inf[k]? = some f->(inf.set k f').flatMap aY=inf.flatMap aY
 | g::r,0,h=>by simp at h;subst h;simp[e]
 | g::r,k+1,h=>by
  simp at h
  simp[sC e h]
theorem EK{inf:List NInf}{k:Nat}{f' g:NInf}(h:g∈inf.set k f'):g=f'\/∃j,j≠k/\inf[j]? = some g:=by
 refine x11 (Mt.mp h) fun j hj=>?_
 rw[List.getElem?_set]at hj
 split at hj
 ·split at hj
  ·left;exact(OH hj).symm
  ·cases hj
 ·rename_i hne;exact .inr ⟨j,fun q=>hne q.symm,hj⟩
section
variable{prog:Ol}{w:Og}{A:N0}{E:NO->NL->Prop}{s:NL}{K:Frag}{L:SLay}{expr:Bool}{h h':N9}
noncomputable def SLay.upd(L:SLay)(k:Nat)(f':NInf):SLay:={ L with inf:=L.inf.set k f' }
theorem SorAt.inf_upd{k:Nat}{f f':NInf}{c:NQ}(S:SorAt prog w L h)(hk:L.inf[k]? = some f)(e1:f'.key=f.key)(e2:aY f'=aY f)(hc:c∈aY f)(hs:Ou c h h')
 (hf:(∃t1 t2,h'.get? f'.a=some (jK NI f' t1 t2))/\h'.get? f'.dx=some OU/\∃vs n,IsL h' f'.sl vs n/\Pa vs.toList f'.su):SorAt prog w (L.upd k f') h':=by
 have ne:=SLay.ne_iff.mp S.nd
 have hm:f∈L.inf:=az hk
 have hci:c∈L.infAs:=dF.mpr ⟨f,hm,hc⟩
 have hx:=ne.ix c hci
 have ea:f'.a=f.a:=by simp only[aY,List.cons.injEq]at e2;exact e2.1
 have hinfAs:(L.upd k f').infAs=L.infAs:=sC e2 hk
 refine⟨hs _ _ hx.1.symm S.inst,?_,?_,fun g hg=>?_,fun r l e=>?_,?_⟩
 ·obtain⟨h1,h2,h3,h4,t1,t2,t3,t4,t5,t6,n,e⟩:=S.dict
  exact⟨h1,h2,h3,h4,t1,t2,t3,t4,t5,t6,n,hs _ _ hx.2.1.symm e⟩
 ·have:(L.upd k f').inf.map (fun f=>(f.key,N2 f.a))=L.inf.map fun f=>(f.key,N2 f.a):=xx hk (by rw[e1,ea])
  rw[this]
  exact fn (fun o e=>hs _ o hx.2.2.symm e) S.n2i
 ·rcases EK hg with rfl | ⟨j,hj,hg⟩
  ·exact hf
  ·have hgm:g∈L.inf:=az hg
   obtain⟨⟨t1,t2,e⟩,e2,vs,n,hl,hi⟩:=S.info g hgm
   have ap:∀d∈aY g,d≠c:=fun d hd q=>xv ne.ind hg hk hj d hd (q▸hc)
   exact⟨⟨t1,t2,hs _ _ (ap _ (by simp[aY])) e⟩,hs _ _ (ap _ (by simp[aY])) e2,vs,n,hs _ _ (ap _ (by simp[aY])) hl,hi⟩
 ·refine x22 (S.rdy r l e) fun vs n hl hi=>?_
  exact⟨vs,n,hs _ _ (fun q=>ne.ir c hci r (by simp[SLay.rdAs,(show L.rd=some (r,l)from e)]) q.symm) hl,hi⟩
 ·rw[SLay.ne_iff]
  refine⟨ne.xd,ne.xn,ne.dn,by rw[hinfAs];exact ne.ix,ne.rx,by rw[hinfAs];exact ne.ir,by rw[hinfAs];exact ne.ind,ne.rnd⟩
theorem EL{m:Int}{t:Tok}{Q:Unit->NL->Prop}(X:K.In s.heap)(hn:fy K NI=true)(hs:dK K NI (ofString "npredecessors") p 1=true) (S:SorAt prog w L s.heap) (hk:L.inf[k]? = some f)
 (h:∀h',OQ f.a s.heap h'->SorAt prog w (L.upd k { f with np:=m }) h'->Q () { s with heap:=h',toks:=s.toks+1 }):NN (NP prog w) A (setAttr (.ref f.a) (ofString "npredecessors") (.int m t)) Q E s:=by
 have hm:f∈L.inf:=az hk
 refine x22 (S.infAt hm) fun t1 t2 e I=>?_
 refine lN (mM hn hs) fun b1 a4 b2 b3 b4 b5 b6 b7 a2 a3=>?_
 obtain⟨_,e2,vs,n,hl,hi⟩:=S.info f hm
 have ne:=SLay.ne_iff.mp S.nd
 have nd:=xw ne.ind hm
 simp only[aY,bq,aa,iJ,or_false,not_or]at nd
 refine xo X I a2 a3 b6 b7 b5 (by decide) rfl fun h' hsb hd=>h h' hsb (S.inf_upd hk rfl rfl (by simp[aY]) hsb.extBut ⟨⟨t1,t,?_⟩,hsb.extBut _ _ (fun q=>nd.1.1 q.symm) e2,vs,n,hsb.extBut _ _ (fun q=>nd.1.2 q.symm) hl,hi⟩)
 rw[hd]
 simp[jK]
theorem xy{vs:Array NO}{is:List Int}{i:Int}{t:Tok}(h:Pa vs.toList is):Pa (vs.push (.int i t)).toList (is++[i]):=by
 rw[Qx]
 generalize vs.toList=l at h
 induction h with
 | nil=>exact .cons _ _ .nil
 | cons x t' _ ih=>exact .cons _ _ ih
theorem IntsAre.len(h:Pa vs is):vs.length=is.length:=by
 induction h with
 | nil=>rfl
 | cons _ _ _ ih=>simp[ih]
theorem EM{i:Int}{t:Tok}{Q:NO->NL->Prop}(S:SorAt prog w L s.heap)(hk:L.inf[k]? = some f)(hz:f.su.length<=16777216)
 (h:∀h',OQ f.sl s.heap h'->SorAt prog w (L.upd k { f with su:=f.su++[i] }) h'->Q .none { s with heap:=h' }):NN (NP prog w) A (call (.builtin "list.append") [.ref f.sl,.int i t]) Q E s:=by
 have hm:f∈L.inf:=az hk
 obtain⟨⟨t1,t2,e⟩,e2,vs,n,hl,hi⟩:=S.info f hm
 have ne:=SLay.ne_iff.mp S.nd
 have nd:=xw ne.ind hm
 simp only[aY,bq,aa,iJ,or_false,not_or]at nd
 have hsz:=IntsAre.len hi
 rw[cD]at hsz
 refine append_at hl (fun h' hs hD=>h h' hs (S.inf_upd hk rfl rfl (c:=f.sl) (by simp[aY]) hs.extBut ⟨⟨t1,t2,hs.extBut _ _ (fun q=>nd.1.2 q) e⟩,hs.extBut _ _ (fun q=>nd.2.1 q) e2,_,_,hD,xy hi⟩)) (by show vs.size<=O5;rw[hsz];exact hz)
noncomputable def SLay.add(L:SLay)(f:NInf):SLay:={ L with inf:=L.inf++[f] }
theorem SorAt.add(S:SorAt prog w L h)(hs:Ou L.n2i h h')(hn:h'.DictOf (On prog w) L.n2i ((L.inf++[f]).map fun f=>(f.key,.ref f.a)))
 (hf:(∃t1 t2,h'.get? f.a=some (jK NI f t1 t2))/\h'.get? f.dx=some OU/\∃vs n,IsL h' f.sl vs n/\Pa vs.toList f.su) (hnew:∀c∈aY f,c∉L.addrs) (hnd:(aY f).Nodup):SorAt prog w (L.add f) h':=by
 have ne:=SLay.ne_iff.mp S.nd
 have hinf:(L.add f).infAs=L.infAs++aY f:=by simp[SLay.add,SLay.infAs,aY]
 have hout:∀c∈aY f,c≠L.x/\c≠L.dx/\c≠L.n2i/\c∉L.infAs/\c∉L.rdAs:=fun c hc=>by
  have:=hnew c hc
  simp only[SLay.addrs,aa,aI,not_or]at this
  exact⟨this.1,this.2.1,this.2.2.1,this.2.2.2.1,this.2.2.2.2⟩
 refine⟨hs _ _ ne.xn S.inst,?_,hn,fun g hg=>?_,fun r l e=>?_,?_⟩
 ·obtain⟨h1,h2,h3,h4,t1,t2,t3,t4,t5,t6,n,e⟩:=S.dict
  exact⟨h1,h2,h3,h4,t1,t2,t3,t4,t5,t6,n,hs _ _ ne.dn e⟩
 ·rcases aI.mp hg with hg | hg
  ·obtain⟨⟨t1,t2,e⟩,e2,vs,n,hl,hi⟩:=S.info g hg
   have m:=sz hg
   exact⟨⟨t1,t2,hs _ _ (ne.ix _ m.1).2.2 e⟩,hs _ _ (ne.ix _ m.2.1).2.2 e2,vs,n,hs _ _ (ne.ix _ m.2.2).2.2 hl,hi⟩
  ·rw[ah.mp hg];exact hf
 ·refine x22 (S.rdy r l e) fun vs n hl hi=>?_
  exact⟨vs,n,hs _ _ (ne.rx r (by simp[SLay.rdAs,(show L.rd=some (r,l)from e)])).2.2 hl,hi⟩
 ·rw[SLay.ne_iff]
  refine⟨ne.xd,ne.xn,ne.dn,fun c hc=>?_,ne.rx,fun c hc d hd=>?_,?_,ne.rnd⟩
  ·rw[hinf]at hc
   rcases aI.mp hc with hc | hc
   ·exact ne.ix c hc
   ·have:=hout c hc;exact⟨this.1,this.2.1,this.2.2.1⟩
  ·rw[hinf]at hc
   rcases aI.mp hc with hc | hc
   ·exact ne.ir c hc d hd
   ·exact fun q=>(hout c hc).2.2.2.2 (q▸hd)
  ·rw[hinf,c7]
   exact⟨ne.ind,hnd,fun c hc d hd q=>(hout d hd).2.2.2.1 (q▸hc)⟩
end
section
variable{G:Glo}{Re:Env}{sc:Scope}{Rc:List (Option Str)}{A:N0}{O:NQ->Prop}{ω:NQ->Option Nat}{ρ:List SV}{s s':NL}{E:NO->NL->Prop}{K:Frag}
theorem fZ(C:Cond G Re sc Rc A O ω ρ s)(hi:Rc[i]? = some (some x))(hd:(x==ofString "__debug__")=false) (hy:ρ.getD i .un=.val v) (h:Q v s):NN (NP G.prog G.w) A (N6 (.Name x p) Re) Q E s:=by
 obtain⟨val,F,V⟩:=C.vars
 have:=V i x hi
 rw[hy]at this
 exact O0 (eU C.eo F this (C.co.kd i x hi) h) hd
theorem dL(C:Cond G Re sc Rc A O ω ρ s)(hi:Rc[i]? = some (some x))(hd:(x==ofString "__debug__")=false) (hy:ρ.getD i .un=.dat d) (h:∀v,Rep O s.heap v d->Q v s):NN (NP G.prog G.w) A (N6 (.Name x p) Re) Q E s:=by
 obtain⟨val,F,V⟩:=C.vars
 have:=V i x hi
 rw[hy]at this
 refine x12 this fun u e r=>?_
 exact O0 (eU C.eo F e (C.co.kd i x hi) (h u r)) hd
theorem Cond.outer(wf:G.Wf)(C:Cond G Re sc Rc A O (fun U=>none) ρ s)(k:KM M s s')(hM:∀b,M b->O b)(hS:∀b,M b->¬aS Re b):Cond G Re sc Rc A O (fun U=>none) ρ s':=by
 obtain⟨val,F,V⟩:=C.vars
 refine C.frame k hM rfl (val:=val) ⟨?_,fun x hx=>?_⟩ fun i x e=>(V i x e).at wf C.base fun b o hb e=>k.get b o (fun q=>?_) e
 ·refine x12 F.loc fun m h1 h2=>?_
  exact⟨m,h1.at' fun o e=>k.get _ o (fun q=>hS _ q (.inl rfl)) e,h2⟩
 ·refine x12 (F.cel x hx) fun c h1 h2=>?_
  exact⟨c,h1,jA h2 fun o e=>k.get _ o (fun q=>hS _ q (.inr ⟨x,h1⟩)) e⟩
 ·rcases hb with hb | hb
  ·cases hb
  ·exact hb (hM b q)
theorem gH{x nm:Str}{p ap:Pos}{Q:NO->NL->Prop}(C:Cond G Re sc Rc A O ω ρ s)(hi:Rc[i]? = some (some x))(hd:(x==ofString "__debug__")=false) (hy:ρ.getD i .un=.val v)
 (h:NN (NP G.prog G.w) A (PI v nm true) Q E s):NN (NP G.prog G.w) A (N6 (.Attribute (.Name x p) nm ap) Re) Q E s:=by
 show NN _ A (N6 (.Name x p) Re >>= fun o=>PZ ap.atName >>= fun U=>PY [o] (PI o nm true) >>= fun r=>letTemporaryGo (.Name x p) o r >>= fun U=>pure r) Q E s
 refine NM (fZ C hi hd hy (NM (Od (NM (N8 (NS h (fun r s' q=>?_) fun U U e=>e))))))
 exact NM (pt (NU q))
theorem Glo.Base.inK(wf:G.Wf)(B:G.Base O h):G.K.In h:=fun a o e=>B.kp a o (wf.K a o e)
noncomputable def aA:Str:=ofString "self"
noncomputable def aw:Str:=ofString "node"
noncomputable def xz(P:Nat->Pos):List NW:=[.Assign [.Attribute (.Name aA (P 0)) (ofString "node") (P 1)] (.Name aw (P 2)) (P 3),.Assign [.Attribute (.Name aA (P 4)) (ofString "npredecessors") (P 5)] (.Constant (.int 0) 0 (P 6)) (P 7),.Assign [.Attribute (.Name aA (P 8)) (ofString "successors") (P 9)] (.List [] (P 10)) (P 11)]
inductive isNIInit(b:List NW):Prop where
 | mk (h1:b=xz BL):isNIInit b
structure NiInfo(G:Glo)(fd:Of)(body:List NW):Prop where
 ni:fy G.K NI=true
 sN:dK G.K NI (ofString "node") pN 0=true
 sP:dK G.K NI (ofString "npredecessors") pP 1=true
 sS:dK G.K NI (ofString "successors") pS 2=true
 init:findIn G.K (.ref NI) "__init__" = some (some (.ref fI))
 isfn:typeIn G.K (.ref fI)=some (.type "function")
 FI:FnInfo G fI fd body [aA,aw] [aA,aw]
 bind:∀u v,O8 fd ⟨[u,v],[]⟩=pure ([aA,aw].zip [u,v])
 bd:isNIInit body
theorem i6{Q:Flow->NL->Prop}(hve:P9 ve (some (.Attribute (.Name x p) nm ap)) pos.line Re=pure false)(hi:Rc[i]? = some (some x))(hd:(x==ofString "__debug__")=false) (hy:ρ.getD i .un=.val v)
 (h:NN (NP G.prog G.w) A (N6 ve Re) (fun u s₁=>Cond G Re sc Rc A O ω ρ s₁/\NN (NP G.prog G.w) A (setAttr v nm u) (fun U=>Q .next) E s₁) E s):NN (NP G.prog G.w) A (Oy (.Assign [.Attribute (.Name x p) nm ap] ve pos) Re) Q E s :=
 plainObj_wpAny_Assign_Attribute (NS h (fun u s₁ h₁=>fZ h₁.1 hi hd hy h₁.2) fun U U e=>e) hve
theorem sD{v:NO}{sl:Array (Option NO)}{Q:Unit->NL->Prop}(wf:G.Wf)(hn:fy G.K NI=true)(hs:dK G.K NI nm p i=true)(C:Cond G Re sc Rc A O (fun U=>none) ρ s)(hx:s.heap.get? x=some { O4 NI dx with slots:=sl })(hdx:s.heap.get? dx=some OU)
 (hxd:x≠dx) (hxO:O x) (hxS:¬aS Re x) (hi:sl.size=i) (hi3:i<1000)
 (h:∀s',KM (· = x) s s'->Cond G Re sc Rc A O (fun U=>none) ρ s'->s'.heap.get? x=some { O4 NI dx with slots:=sl.push (some v) }->s'.heap.get? dx=some OU->Q () s'):NN (NP G.prog G.w) A (setAttr (.ref x) nm v) Q E s:=by
 refine lN (mM hn hs) fun b1 a4 b2 b3 b4 b5 b6 b7 a2 a3=>?_
 have I:InstAt s.heap x { O4 NI dx with slots:=sl } NI (some OU):=⟨hx,rfl,rfl,hdx⟩
 have hsl:(sl++NA (i+1 - sl.size) none).setIfInBounds i (some v)=sl.push (some v):=by
  rw[hi,show i+1 - i=1 by lia]
  subst hi
  apply Array.ext'
  simp
 refine xo (C.base.inK wf) I a2 a3 b6 b7 b5 hi3 rfl fun h' hsb hd=>?_
 have hd':h'.get? x=some { O4 NI dx with slots:=sl.push (some v) }:=by rw[hd];dsimp only;rw[hsl]
 have k:KM (· = x) s { s with heap:=h',toks:=s.toks+1 }:=KM.chg hsb.extBut ⟨_,hd'⟩ rfl
 exact h _ k (C.outer wf k (fun b q=>q▸hxO) fun b q=>q▸hxS) hd' (hsb.extBut _ _ (OW hxd) hdx)
theorem EN{k:Int}{t:Tok}(wf:G.Wf)(N:NiInfo G fd body)(ok:Okay A O s)(B:G.Base O s.heap)(hroom:A.depth+10<1000) :
 NN (NP G.prog G.w) A (call (.ref NI) [.int k t]) (fun v s'=>∃a dx sl t1 t2,v=.ref a/\NX s s'/\s.heap.get? a=none/\s.heap.get? dx=none/\s.heap.get? sl=none/\[a,dx,sl].Nodup /\
  s'.heap.get? a=some (jK NI ⟨k,a,dx,sl,0,[]⟩ t1 t2)/\s'.heap.get? dx=some OU/\IsL s'.heap sl #[] 0) E s:=by
 have X:=B.inK wf
 obtain⟨h,g,d,tk,os⟩:=s
 have hmk:makesIn G.K NI=true:=by
  have:=N.ni;unfold fy at this;simp only[e7]at this;exact this.1.1.1
 refine O1 (make_core (makes_of X hmk) (looks_findIn X N.init) (fun self=>bind_fn X self N.isfn) (.inl rfl) ?_)
 generalize hx:h.objs.size+1=x
 have hdx:((h.push OU).push (O4 NI h.objs.size)).get? h.objs.size=some OU:=NV _ (NZ _ rfl)
 have hxx:((h.push OU).push (O4 NI h.objs.size)).get? x=some (O4 NI h.objs.size):=by
  have:((h.push OU).push (O4 NI h.objs.size)).get? (h.push OU).objs.size=some (O4 NI h.objs.size):=NZ _ rfl
  rw[ON]at this
  rw[<- hx];exact this
 generalize hdd:h.objs.size=dx at hdx hxx hx ⊢
 generalize hh2:(h.push OU).push (O4 NI dx)=h2 at hdx hxx ⊢
 have hxd:x≠dx:=by rw[<- hx];exact Nat.succ_ne_self _
 have k02:NX ⟨h,g,d,tk,os⟩ ⟨h2,g,d,tk,os⟩:=⟨h2,tk,rfl,fun b o e=>hh2▸NV _ (NV _ e)⟩
 have fresh:∀b,@LE.le Nat _ dx b->h.get? b=none:=fun b hb=>by
  cases e:h.get? b with
  | none=>rfl
  | some o=>have:=N3 e;rw[hdd]at this;exact absurd this (fG.mpr hb)
 have hx0:h.get? x=none:=fresh x (by rw[<- hx];exact oF _)
 have hd0:h.get? dx=none:=fresh dx (bM _)
 have sz2:dx<h2.objs.size/\x<h2.objs.size:=⟨N3 hdx,N3 hxx⟩
 have ok2:Okay A (fun b=>O b\/b=x) ⟨h2,g,d,tk,os⟩:=⟨ok.hok.keeps k02,fun b hb q=>q.elim (ok.hno b hb) (fun z=>by
  refine x11 (ok.hok.there b hb) fun o e=>?_
  rw[z]at e
  have e':h.get? x=some o:=e
  rw[hx0]at e';cases e'),fun b q=>by
  rcases q with q | rfl
  ·refine x11 (ok.obs b q) fun o e=>?_;exact⟨o,ai k02 b o e⟩
  ·exact⟨_,hxx⟩⟩
 have B2:G.Base (fun b=>O b\/b=x) h2:=⟨fun b o e=>ai k02 b o (B.kp b o e),fun b q=>by
  rcases q with q | rfl
  ·exact B.off b q
  ·cases e:G.hB.get? b with
   | none=>rfl
   | some o=>have:h.get? b=some o:=B.kp b o e;rw[hx0]at this;cases this⟩
 refine kM (s:=⟨h2,g,d,tk,os⟩) (O:=fun b=>O b\/b=x) (vs:=[.ref x,.int k t]) (ys:=[.val (.ref x),.dat (.int k)]) (A:=A.under (.builtin "type.__call__" ⟨[.ref NI,.int k t],[]⟩)) wf N.FI ⟨ok2.hok,ok2.hno,ok2.obs⟩ B2 (fun i v y hv hy=>?_) rfl rfl ?_ (N.bind _ _) fun Re O' s₁ k1 hO hO2 hSt hsto C E' Qf hret hnx=>?_
 ·exact mK (P:=eX G _ _) (.inr rfl) (.inl ⟨_,rfl,.int _ _⟩) i v y hv hy
 ·rw[depth_under_kw];lia
 ·have bd:=N.bd
  obtain⟨hb⟩:=bd
  rw[hb]
  unfold xz
  ·skip
   have hxs:¬aS Re x:=fun q=>by have:=hSt x q;rw[show(⟨h2,g,d,tk,os⟩:NL).heap.get? x=h2.get? x from rfl,hxx]at this;cases this
   have hxO:O' x:=hO x (.inr rfl)
   have hself:([aA,aw].map some)[0]? = some (some aA):=rfl
   have hnode:([aA,aw].map some)[1]? = some (some aw):=rfl
   have hr0:(cw [aA,aw] [.val (.ref x),.dat (.int k)]).getD 0 .un=.val (.ref x):=rfl
   have hr1:(cw [aA,aw] [.val (.ref x),.dat (.int k)]).getD 1 .un=.dat (.int k):=rfl
   have db1:(aA==ofString "__debug__")=false:=by decide +kernel
   have db2:(aw==ofString "__debug__")=false:=by decide +kernel
   refine NT (i6 rfl hself db1 hr0 (dL C hnode db2 hr1 fun v rv=>⟨C,?_⟩))
   refine x11 (hZ rv) fun t1 e1=>?_;subst e1
   refine sD wf N.ni N.sN C (sl:=#[]) (ai k1 _ _ hxx) (ai k1 _ _ hdx) hxd hxO hxs rfl (by decide) fun s₂ k2 C2 hx2 hd2=>?_
   refine NT (i6 rfl hself db1 hr0 (Pl ⟨C2.keeps wf (ar _ _),?_⟩))
   refine sD wf N.ni N.sP (C2.keeps wf (ar _ _)) hx2 hd2 hxd hxO hxs rfl (by decide) fun s₃ k3 C3 hx3 hd3=>?_
   refine NT (i6 rfl hself db1 hr0 (Qt (N4 ⟨cj _,C3.keeps wf (bz _),?_⟩)))
   have kl:NX s₃ { s₃ with heap:=s₃.heap.push { cls:=.type "list",data:=.seq ([]:List NO).toArray } }:=bz _
   refine sD wf N.ni N.sS (C3.keeps wf kl) (ai kl _ _ hx3) (ai kl _ _ hd3) hxd hxO hxs rfl (by decide) fun s₄ k4 C4 hx4 hd4=>?_
   refine N1 (hnx _ ⟨rfl,?_⟩)
   have kk:∀b o,b≠x->h2.get? b=some o->s₃.heap.get? b=some o:=fun b o n e=>k3.get b o n (k2.get b o n (ai k1 b o e))
   have hsl:IsL s₄.heap s₃.heap.objs.size #[] 0:=k4.get _ _ (fun q=>by
    have:=N3 hx3
    rw[q]at this;exact bj _ this) (IsL.new _ _)
   have k2':NX ⟨h,g,d,tk,os⟩ s₂:=KM.keeps (aO k02 k1) k2 fun b q=>by
    have q:b=x:=q
    rw[q];exact hx0
   have k3':NX ⟨h,g,d,tk,os⟩ s₃:=KM.keeps (aO k2' (ar _ _)) k3 fun b q=>by
    have q:b=x:=q
    rw[q];exact hx0
   have k4':NX ⟨h,g,d,tk,os⟩ s₄:=KM.keeps (aO k3' kl) k4 fun b q=>by
    have q:b=x:=q
    rw[q];exact hx0
   have hs0:h.get? s₃.heap.objs.size=none:=by
    cases e:h.get? s₃.heap.objs.size with
    | none=>rfl
    | some o=>exact absurd (N3 (ai k3' _ _ e)) (bj _)
   have hxs3:x≠s₃.heap.objs.size:=nz (N3 hx3)
   have hds3:dx≠s₃.heap.objs.size:=nz (N3 hd3)
   exact⟨x,dx,s₃.heap.objs.size,_,_,rfl,k4',hx0,hd0,hs0,by simp[hxd,hxs3,hds3],hx4,hd4,hsl⟩
end
noncomputable def c0:Str:=ofString "result"
noncomputable def kO:Str:=ofString "_node2info"
noncomputable def xA(P:Nat->Pos):List NW:=[.If (.Compare (.NamedExpr (.Name c0 (P 0)) (.Call (.Attribute (.Attribute (.Name aA (P 1)) kO (P 2)) (ofString "get") (P 3)) [.Name aw (P 4)] [] (P 5)) (P 6)) [.Is] [.Constant .none 0 (P 7)] (P 8))
 [.Assign [.Subscript (.Attribute (.Name aA (P 9)) kO (P 10)) (.Name aw (P 11)) (P 12),.Name c0 (P 13)] (.Call (.Name (ofString "_NodeInfo") (P 14)) [.Name aw (P 15)] [] (P 16)) (P 17)] [] (P 18),
 .Return (some (.Name c0 (P 19))) (P 20)]
inductive isGetInfo(b:List NW):Prop where
 | mk (h1:b=xA ch) (h2:((ch 3).endLine==(ch 5).line)=true):isGetInfo b
noncomputable abbrev Gr:=List (Int × Int × List Int)
noncomputable def SLay.gr(L:SLay):Gr:=L.inf.map fun f=>(f.key,f.np,f.su)
noncomputable def cy(k:Int)(g:Gr):Gr:=if g.any (fun p=>p.1==k)then g else g++[(k,0,[])]
structure LSame(L L':SLay):Prop where
 x:L'.x=L.x
 dx:L'.dx=L.dx
 n2i:L'.n2i=L.n2i
 rd:L'.rd=L.rd
 po:L'.po=L.po
 fi:L'.fi=L.fi
theorem LSame.refl(L:SLay):LSame L L:=⟨rfl,rfl,rfl,rfl,rfl,rfl⟩
theorem LSame.trans(x:LSame a b)(y:LSame b c):LSame a c:=⟨y.x.trans x.x,y.dx.trans x.dx,y.n2i.trans x.n2i,y.rd.trans x.rd,y.po.trans x.po,y.fi.trans x.fi⟩
structure SI(G:Glo):Prop where
 ts:eI G.K TS=true
 N:NiInfo G oG bI
 ni:G.mg (ofString "_NodeInfo")=some (.ref NI)
 keepN:keepIn G.K (.ref NI)=true
 get:kN G.K TS (ofString "_get_nodeinfo") oE=true
 FG:FnInfo G oE g8 bG [aA,aw] [aA,aw,c0]
 bindG:∀u v,O8 g8 ⟨[u,v],[]⟩=pure ([aA,aw].zip [u,v])
 bdG:isGetInfo bG
 glG:bO g8.scope (ofString "_NodeInfo")=true
 sys:∃o,G.hB.get? OR=some o
section
variable{G:Glo}{A:N0}{O:NQ->Prop}{s:NL}{E:NO->NL->Prop}{L:SLay}
noncomputable abbrev ga(inf:List NInf):List (Int × NO):=inf.map fun f=>(f.key,.ref f.a)
noncomputable abbrev mO(inf:List NInf):Gr:=inf.map fun f=>(f.key,f.np,f.su)
theorem EO:(∃(j:Nat) (f:NInf),inf[j]? = some f/\f.key=k/\OM (ga inf) k=some (.ref f.a)/\(mO inf).any (fun p=>p.1==k)=true) \/
 (OM (ga inf) k=none/\(mO inf).any (fun p=>p.1==k)=false/\∀v:NO,stored (ga inf) k v=ga inf++[(k,v)]):=by
 induction inf with
 | nil=>right;exact⟨rfl,rfl,fun v=>rfl⟩
 | cons e r ih =>
  have ek:ga (e::r)=(e.key,.ref e.a)::ga r:=rfl
  have eg:mO (e::r)=(e.key,e.np,e.su)::mO r:=rfl
  by_cases h:e.key=k
  ·left
   refine⟨0,e,rfl,h,?_,?_⟩
   ·simp[OM,h]
   ·simp[h]
  ·rcases ih with⟨j,f,h1,h2,h3,h4⟩ | ⟨h1,h2,h3⟩
   ·left
    refine⟨j+1,f,by simpa using h1,h2,?_,?_⟩
    ·unfold OM at h3 ⊢
     rw[ek,L8]
     simp only[h,decide_false]
     exact h3
    ·rw[eg,List.any_cons,h4,Bool.or_true]
   ·right
    refine⟨?_,?_,fun v=>?_⟩
    ·unfold OM at h1 ⊢
     rw[ek,L8]
     simp only[h,decide_false]
     exact h1
    ·rw[eg,List.any_cons,h2];simp[h]
    ·have:=h3 v
     unfold stored at this ⊢
     by_cases q:((ga r).any fun kv=>decide (kv.1=k))=true
     ·rw[if_pos q]at this
      have:=congrArg List.length this
      simp at this
     ·rw[ek,List.any_cons]
      simp only[h,decide_false,Bool.false_or]
      rw[if_neg q]
structure GotInfo(G:Glo)(L:SLay)(s:NL)(k:Int)(v:NO)(s':NL)(L':SLay)(j:Nat)(f:NInf):Prop where
 val:v=.ref f.a
 at_:L'.inf[j]? = some f
 key:f.key=k
 sor:SorAt G.prog G.w L' s'.heap
 same:LSame L L'
 gr:L'.gr=cy k L.gr
 km:KM (·∈L.addrs) s s'
 new:∀b∈L'.addrs,b∈L.addrs\/s.heap.get? b=none
 len:L'.inf.length<=L.inf.length+1
theorem xB(h:b∈(L.add f).addrs):b∈L.addrs\/b∈aY f:=by
 have hinf:(L.add f).infAs=L.infAs++aY f:=by simp[SLay.add,SLay.infAs,aY]
 simp only[SLay.addrs,aa,aI,hinf]at h ⊢
 rcases h with h | h | h | (h | h) | h
 ·exact .inl (.inl h)
 ·exact .inl (.inr (.inl h))
 ·exact .inl (.inr (.inr (.inl h)))
 ·exact .inl (.inr (.inr (.inr (.inl h))))
 ·exact .inr h
 ·exact .inl (.inr (.inr (.inr (.inr h))))
theorem KM.thenFresh(x:KM M s s')(y:KM N s' s'')(h:∀b,N b->s.heap.get? b=none):KM M s s'':=by
 obtain⟨h1,t1,rfl,k1,e1⟩:=x
 obtain⟨h2,t2,rfl,k2,e2⟩:=y
 exact⟨h2,t2,rfl,fun b o n e=>k2 b o (fun q=>by rw[h b q]at e;cases e) (k1 b o n e),fun b o e=>(e1 b o e).elim fun o' e'=>e2 b o' e'⟩
theorem eK(S:SorAt G.prog G.w L s.heap)(k:NX s s'):SorAt G.prog G.w L s'.heap:=S.keeps fun b o U e=>ai k b o e
noncomputable abbrev jL:List (Option Str):=[aA,aw,c0].map some
theorem EP{O':NQ->Prop}{s₃:NL}{k:Int}{Q:Flow->NL->Prop}(wf:G.Wf)(I:SI G)(hglG:bO sc (ofString "_NodeInfo")=true) (hstor:aW sc c0=true) (hsto:br Re jL 2) (hroom:A.depth+10<1000) (hsz:L.inf.length<=10000)
 (db1:(aA==ofString "__debug__")=false) (db2:(aw==ofString "__debug__")=false) (S:SorAt G.prog G.w L s.heap) (k13:NX s s₃) (hSt:∀b,aS Re b->s.heap.get? b=none) (S3:SorAt G.prog G.w L s₃.heap) (hOO:∀b∈L.addrs,O' b) (hFS:∀b∈L.addrs,¬aS Re b)
 (C3:Cond G Re sc jL A O' (fun U=>none) [.val (.ref L.x),.dat (.int k),.val .none] s₃) (h2:(mO L.inf).any (fun p=>p.1==k)=false) (h3:∀v:NO,stored (ga L.inf) k v=ga L.inf++[(k,v)])
 (h:∀v s' L' j f,Cond G Re sc jL A O' (fun U=>none) [.val (.ref L.x),.dat (.int k),.val v] s'->GotInfo G L s k v s' L' j f->Q .next s') :
 NN (NP G.prog G.w) A (OG [.Assign [.Subscript (.Attribute (.Name aA (ch 9)) kO (ch 10)) (.Name aw (ch 11)) (ch 12),.Name c0 (ch 13)] (.Call (.Name (ofString "_NodeInfo") (ch 14)) [.Name aw (ch 15)] [] (ch 16)) (ch 17)] Re) Q E s₃:=by
 refine NT (wpAny_Assign_two ?_)
 refine eh (fun a ha=>by rw[ah.mp ha];rfl) (ic wf C3.eo C3.base hglG (by decide +kernel) I.ni ?_)
 refine callWith_of (P:=fun h=>G.K.In h) (gB (Re:=Re) [.Name aw (ch 15)]▸rfl) (keeps_K I.keepN) (Oj (N7 (dL C3 ((rfl:jL[1]? = some (some aw))) db2 rfl fun v rv=>N4 ⟨C3.base.inK wf,?_⟩)))
 refine x11 (hZ rv) fun t' e1=>?_;subst e1
 refine NS (EN wf I.N C3.ok C3.base hroom) (fun v s₄ h4=>?_) fun U U e=>e
 refine x59 h4 fun a dx sl t1 t2 e5 k4 f1 f2 f3 nd o1 o2 o3=>?_;subst e5
 have C4:=C3.keeps wf k4
 have S4:=eK S3 k4
 have k14:=aO k13 k4
 show NN _ _ (PY [.ref a] (N6 (.Attribute (.Name aA (ch 9)) kO (ch 10)) Re) >>= fun ov=>PY [.ref a,ov] (N6 (.Name aw (ch 11)) Re) >>= fun iv=>PZ (ch 12) >>= fun U=>PY [.ref a,ov,iv] (setItem ov iv (.ref a)) >>= fun U=>release [.ref a,ov,iv] []) _ _ s₄
 refine NM (N8 (gH C4 ((rfl:jL[0]? = some (some aA))) db1 rfl (pG (C4.base.inK wf) I.ts S4 ?_)))
 have C5:=C4.keeps wf (ar s₄ (s₄.toks+1))
 refine NM (N8 (dL C5 ((rfl:jL[1]? = some (some aw))) db2 rfl fun v rv=>?_))
 refine x11 (hZ rv) fun t'' e1=>?_;subst e1
 have S5:SorAt G.prog G.w L ({ s₄ with toks:=s₄.toks+1 }:NL).heap:=S4
 refine NM (Od (NM (N8 (wpAny_setItem_pairs (intKind_is _ _ _ _) S5.n2i (fun h' hm hs=>wpAny_release ?_) (by rw[af,OK];lia)))))
 rw[show stored (L.inf.map fun f=>(f.key,N2 f.a)) k (.ref a)=_ from h3 (.ref a)]at hm
 have notin:∀c,s.heap.get? c=none->c∉L.addrs:=fun c e hc=>by
  refine x11 (S.there hc) fun o q=>?_
  rw[e]at q;cases q
 have none1:∀c,s₃.heap.get? c=none->s.heap.get? c=none:=fun c e=>im k13 e
 have hn2:L.n2i∈L.addrs:=SLay.m2
 have ne:∀c,s₃.heap.get? c=none->c≠L.n2i:=fun c e q=>notin c (none1 c e) (q▸hn2)
 have S6:SorAt G.prog G.w (L.add ⟨k,a,dx,sl,0,[]⟩) h':=S4.add hs.extBut (by rw[c8];exact hm)
  ⟨⟨t1,t2,hs.extBut _ _ (ne a f1) o1⟩,hs.extBut _ _ (ne dx f2) o2,#[],0,hs.extBut _ _ (ne sl f3) o3,.nil⟩
  (fun c hc=>by
   simp only[aY,aa,iJ,or_false]at hc
   rcases hc with rfl | rfl | rfl
   ·exact notin _ (none1 _ f1)
   ·exact notin _ (none1 _ f2)
   ·exact notin _ (none1 _ f3)) nd
 have km6:KM (· = L.n2i) s₄ { s₄ with heap:=h',toks:=s₄.toks+1+1 }:=by
  refine x12 (Heap.dictOf_iff.mp hm) fun o e U=>?_
  exact KM.chg hs.extBut ⟨o,e⟩ rfl
 have C6:=C4.outer wf km6 (fun b q=>q▸hOO _ hn2) fun b q=>q▸hFS _ hn2
 refine Ot (dW (y:=.val (.ref a)) wf hsto C6 (rfl:jL[2]? = some (some c0)) hstor (show some (N2 a)=some (.ref a)from rfl) fun s₇ k7 C7=>?_)
 show NN _ _ (OG [] Re) _ _ _
 refine N1 (h _ s₇ (L.add ⟨k,a,dx,sl,0,[]⟩) L.inf.length ⟨k,a,dx,sl,0,[]⟩ C7 ⟨rfl,by simp[SLay.add],rfl,?_,⟨rfl,rfl,rfl,rfl,rfl,rfl⟩,?_,?_,fun b hb=>?_,by simp[SLay.add]⟩)
 ·refine S6.keeps fun b o hb e=>k7.get b o (fun q=>?_) e
  rcases xB hb with hb | hb
  ·exact hFS b hb q.store
  ·refine x11 (C3.ok.obs b (C3.store_O q.store)) fun o e=>?_
   simp only[aY,aa,iJ,or_false]at hb
   rcases hb with rfl | rfl | rfl
   ·rw[f1]at e;cases e
   ·rw[f2]at e;cases e
   ·rw[f3]at e;cases e
 ·unfold cy
  rw[show L.gr.any (fun p=>p.1==k)=false from h2]
  simp[SLay.add,SLay.gr]
 ·exact((KM.of k14).trans (km6.mono fun b q=>q▸hn2)).thenFresh k7 fun b q=>hSt b q.store
 ·rcases xB hb with hb | hb
  ·exact .inl hb
  ·right
   simp only[aY,aa,iJ,or_false]at hb
   rcases hb with rfl | rfl | rfl
   ·exact none1 _ f1
   ·exact none1 _ f2
   ·exact none1 _ f3
theorem EQ{k:Int}{t:Tok}(wf:G.Wf)(I:SI G)(ok:Okay A O s)(B:G.Base O s.heap)(hO:∀b∈L.addrs,O b)(S:SorAt G.prog G.w L s.heap)(hroom:A.depth+20<1000)(hsz:L.inf.length<=10000) :
 NN (NP G.prog G.w) A (call (.ref oE) [.ref L.x,.int k t]) (fun v s'=>∃L' j f,GotInfo G L s k v s' L' j f) E s:=by
 refine O1 (kM (s:=s) (O:=O) (vs:=[.ref L.x,.int k t]) (ys:=[.val (.ref L.x),.dat (.int k)]) wf I.FG ok B (fun i v y hv hy=>?_) rfl rfl (pi hroom) (I.bindG _ _) fun Re O' s₁ k1 hO1 hO2 hSt hsto C E' Qf hret hnx=>?_)
 ·exact mK (P:=eX G _ _) (.inr rfl) (.inl ⟨_,rfl,.int _ _⟩) i v y hv hy
 have bd:=I.bdG
 obtain⟨hb,hline⟩:=bd
 rw[hb]
 unfold xA
 have X1:=C.base.inK wf
 have S1:=eK S k1
 have hctx:∀(i:Nat) (x:Str),[aA,aw,c0][i]? = some x->([aA,aw,c0].map some)[i]? = some (some x):=fun i x e=>by rw[cu,e];rfl
 have db1:(aA==ofString "__debug__")=false:=by decide +kernel
 have db2:(aw==ofString "__debug__")=false:=by decide +kernel
 have db3:(c0==ofString "__debug__")=false:=by decide +kernel
 have hstor:aW g8.scope c0=true:=I.FG.sc.st (.tail _ (.tail _ (.head _)))
 have hFS:∀b∈L.addrs,¬aS Re b:=fun b hb q=>by
  refine x11 (S.there hb) fun o e=>?_
  rw[hSt b q]at e;cases e
 have hOO:∀b∈L.addrs,O' b:=fun b hb=>hO1 b (hO b hb)
 have fin:∀(v:NO) (s₃:NL) (L':SLay) (j:Nat) (f:NInf) (E:NO->NL->Prop),Cond G Re g8.scope ([aA,aw,c0].map some) (A.deeper Re) O' (fun U=>none) [.val (.ref L.x),.dat (.int k),.val v] s₃->GotInfo G L s k v s₃ L' j f ->
  NN (NP G.prog G.w) (A.deeper Re) (OG [.Return (some (.Name c0 (ch 19))) (ch 20)] Re) Qf E' s₃:=by
  intro v s₃ L' j f E C3 GI
  refine NT (OV (fZ C3 (hctx 2 c0 rfl) db3 rfl ?_))
  exact hret _ _ ⟨L',j,f,GI⟩
 have stv:∀(v:NO) (s₂:NL) (ρ:List SV) (Q:Unit->NL->Prop) (E:NO->NL->Prop) (p:Pos),Cond G Re g8.scope ([aA,aw,c0].map some) (A.deeper Re) O' (fun U=>none) ρ s₂->(∀s₃,KM (ba Re) s₂ s₃->Cond G Re g8.scope ([aA,aw,c0].map some) (A.deeper Re) O' (fun U=>none) (ρ.set 2 (.val v)) s₃->Q () s₃) ->
  NN (NP G.prog G.w) (A.deeper Re) (Ox (.Name c0 p) Re v) Q E s₂:=fun v s₂ ρ Q E p C h=>Ot (dW (y:=.val v) wf (hsto 2) C (hctx 2 c0 rfl) hstor (show some v=some v from rfl) h)
 have n2iO:=S.n2i
 have hsm:(L.n2i==OR)=false:=by
  rw[beq_eq_false_iff_ne]
  intro q
  refine x11 I.sys fun o e=>?_
  have:=B.off L.n2i (hO L.n2i (by first | exact SLay.m2 | exact SLay.m1 | exact SLay.m0))
  rw[q,e]at this;cases this
 have nd2:∀(s:NL) (S:SorAt G.prog G.w L s.heap),(∀a,N2 L.n2i=.ref a->∃ob,s.heap.get? a=some ob/\ob.dict=none):=fun s S a e=>by
  cases e
  refine x33 S.n2i fun o es ep ho hc U=>?_
  exact⟨o,ho,hc.2.1⟩
 have getcall:∀(Q:NO->NL->Prop) (E:NO->NL->Prop),Q ((OM (ga L.inf) k).getD .none) { s₁ with toks:=s₁.toks+1+1 } ->
  NN (NP G.prog G.w) (A.deeper Re) (N6 (.Call (.Attribute (.Attribute (.Name aA (ch 1)) kO (ch 2)) (ofString "get") (ch 3)) [.Name aw (ch 4)] [] (ch 5)) Re) Q E s₁:=by
  intro Q E hq
  refine Px rfl (il rfl) hline (gH C (hctx 0 aA rfl) db1 rfl (pG X1 I.ts S1 ?_))
  have S2:SorAt G.prog G.w L ({ s₁ with toks:=s₁.toks+1 }:NL).heap:=S1
  refine⟨"dict", "dict.get",F.plainAttrs_dict,F.slot_dict_get,F.type_dict_get,S2.n2i.typeIs,nd2 _ S2,wpAny_dict_get1 (knd:=On G.prog G.w) (d:=L.n2i) hsm (dL (C.keeps wf (ar _ _)) (hctx 1 aw rfl) db2 rfl fun v rv=>?_)⟩
  refine x11 (hZ rv) fun t' e1=>?_;subst e1
  exact⟨k,OM (ga L.inf),intKind_is _ _ _ _,S2.n2i.mapOf,hq⟩
 refine NT (Pr (OA ?_ rfl))
 rw[arm_eval_NamedExpr]
 refine NM (getcall _ _ (NM (N8 (stv _ _ _ _ _ _ (C.keeps wf (ar _ _)) fun s₃ k3 C3=>NU (O9 (is_none ?_))))))
 have S3:SorAt G.prog G.w L s₃.heap:=(eK (s:=s₁) (s':={ s₁ with toks:=s₁.toks+1+1 }) S1 (ar _ _)).keeps fun b o hb e=>k3.get b o (fun q=>hFS b hb q.store) e
 have k13:NX s s₃:=KM.keeps (aO k1 (ar s₁ (s₁.toks+1+1))) k3 fun b q=>hSt b q.store
 rcases EO (inf:=L.inf) (k:=k)with⟨j,f,h1,h2,h3,h4⟩ | ⟨h1,h2,h3⟩
 ·rw[h3]at C3 ⊢
  refine Oi ?_
  show NN _ _ (OG [] Re) _ _ _
  refine N1 (fin _ s₃ L j f E C3 ⟨rfl,h1,h2,S3,LSame.refl L,?_,KM.of k13,fun b hb=>.inl hb,oF _⟩)
  unfold cy
  rw[show L.gr.any (fun p=>p.1==k)=true from h4];rfl
 ·rw[h1]at C3 ⊢
  refine Oi ?_
  show NN _ _ (OG [_] Re) _ _ _
  exact EP wf I I.glG hstor (hsto 2) (my hroom (by decide):A.depth+1+10<1000) hsz db1 db2 S k13 hSt S3 hOO hFS C3 h2 h3 fun v s' L' j f C' GI=>fin v s' L' j f E C' GI
end
section
variable{G:Glo}
theorem xC{vs:List NO}{ys:List SV}{args:List NO}{A:N0}{s s':NL}{O:NQ->Prop}{R:Result->NL->Prop}(wf:G.Wf)(FI:FnInfo G a fd body names vars)
 (B₀:G.Base O s.heap) (ok:Okay A O s') (B:G.Base O s'.heap) (hr:∀(i:Nat) (v:NO) (y:SV),vs[i]? = some v->ys[i]? = some y->eX G O s'.heap v y) (hvl:vs.length=names.length) (hyl:ys.length=names.length) (hroom:A.depth<1000)
 (hbind:∀(A:N0) (Q:List (Str × NO)->NL->Prop) (E:NO->NL->Prop),Q (names.zip vs) s'->NN (NP G.prog G.w) A (O8 fd ⟨args,[]⟩) Q E s)
 (h:∀Re O' s₁,NX s' s₁->(∀b,O b->O' b)->(∀b,O' b->O b\/s'.heap.get? b=none)->(∀b,aS Re b->s'.heap.get? b=none)->(∀i,br Re (vars.map some) i)->Cond G Re fd.scope (vars.map some) (A.deeper Re) O' (fun U=>none) (cw vars ys) s₁ ->
  ∀E Qf,(∀v s',R (.ok (.ret v)) s'->Qf (.ret v) s')->(∀s',R (.ok (.ret .none)) s'->Qf .next s')->NN (NP G.prog G.w) (A.deeper Re) (OG body Re) Qf E s₁) :
 O3 (NP G.prog G.w) A (.call (.ref a) ⟨args,[]⟩) R s:=by
 refine x12 FI.at_ fun o e2 hd=>?_
 have sc:=FI.sc
 have hsub:∀y∈names,y∈vars:=fun y hy=>by rw[<- sc.pfx]at hy;exact ND hy
 refine codeAny_call_function (by show A.depth<1000;exact hroom) (B₀.kp a o (wf.K a o e2)) hd sc.co sc.gen FI.hbody (FI.hcode.keeps B₀.kp) (hbind _ _ _ ?_)
 rw[FI.hclo]
 refine wpAny_newFunctionEnv_cells sc.kind (fun x hx=>?_) fun Re he s₁ x=>?_
 ·have hm:x.1∈names:=by
   obtain⟨y,v⟩:=x
   exact(List.of_mem_zip hx).1
  rcases sc.var x.1 (hsub _ hm)with q | q
  ·exact .inl q
  ·refine .inr ⟨q,?_⟩
   refine x11 (iW (n:=s'.heap.objs.size+1) (mem_of_lookup q)) fun c hc=>?_
   refine x11 (jC (ot.mpr hc)) fun c' hc'=>?_
   rw[ik,iK,hc'];rfl
 ·subst he
  refine⟨(wf.lim.keeps B.kp).keeps x.toInCall.keep,codeAny_func ?_⟩
  refine x16 (pD (G:=G) (A:=A) (ys:=ys) (a:=a) sc FI.hg FI.hb ok B hr hvl hyl x) fun O' hO hO2 hSt hsto C k=>?_
  exact h _ O' s₁ k hO hO2 hSt hsto C _ _ (fun U U q=>q) fun U q=>q
noncomputable def ip(k m:Int)(g:Gr):Gr:=g.map fun p=>if p.1=k then(p.1,p.2.1+m,p.2.2)else p
noncomputable def fA(p k:Int)(g:Gr):Gr:=g.map fun q=>if q.1=p then(q.1,q.2.1,q.2.2++[k])else q
noncomputable def jM(k:Int)(ps:List Int)(g:Gr):Gr:=ps.foldl (fun g p=>fA p k (cy p g)) (ip k ps.length (cy k g))
theorem SorAt.keys(S:SorAt G.prog G.w L h):(L.inf.map (·.key)).Nodup:=by
 refine x36 S.n2i fun o es ep ho hc hd hk hp hn=>?_
 rw[fk]at hn
 exact hn
theorem xD{β:Type}(g:NInf->β)(u:NInf->β):∀ {inf:List NInf} {j:Nat} {f f':NInf},(inf.map (·.key)).Nodup->inf[j]? = some f->u f=g f'->(inf.set j f').map g=inf.map fun e=>if e.key=f.key then u e else g e:=fun{inf}=>by
 induction inf with
 | nil=>exact fun _ h=>nomatch h
 | cons e r ih =>
  intro j f f' hn h hu
  rw[aQ,bq]at hn
  cases j with
  | zero =>
   cases h
   rw[List.set_cons_zero,aQ,aQ,if_pos rfl,hu]
   congr 1
   exact oA fun q hq=>by rw[if_neg fun z=>hn.1 (aJ.mpr ⟨q,hq,z⟩)]
  | succ j =>
   rw[List.set_cons_succ,aQ,aQ,ih hn.2 h hu,if_neg fun z=>hn.1 (aJ.mpr ⟨f,az h,z.symm⟩)]
theorem ER{L:SLay}{j:Nat}{f:NInf}{m:Int}(hn:(L.inf.map (·.key)).Nodup)(h:L.inf[j]? = some f):(L.upd j { f with np:=f.np+m }).gr=ip f.key m L.gr:=by
 unfold SLay.upd SLay.gr ip
 rw[xD (fun f=>(f.key,f.np,f.su)) (fun f=>(f.key,f.np+m,f.su)) hn h rfl,fk]
 refine oA fun e U=>?_
 simp only[Function.comp]
theorem xE{L:SLay}{j:Nat}{f:NInf}{k:Int}(hn:(L.inf.map (·.key)).Nodup)(h:L.inf[j]? = some f):(L.upd j { f with su:=f.su++[k] }).gr=fA f.key k L.gr:=by
 unfold SLay.upd SLay.gr fA
 rw[xD (fun f=>(f.key,f.np,f.su)) (fun f=>(f.key,f.np,f.su++[k])) hn h rfl,fk]
 refine oA fun e U=>?_
 simp only[Function.comp]
theorem xF{L:SLay}{j:Nat}{f f':NInf}(h:L.inf[j]? = some f)(e:aY f'=aY f):(L.upd j f').addrs=L.addrs:=by
 have hi:(L.upd j f').infAs=L.infAs:=sC e h
 simp only[SLay.addrs,hi];rfl
end
noncomputable def i7:Str:=ofString "predecessors"
noncomputable def mQ:Str:=ofString "nodeinfo"
noncomputable def pH:Str:=ofString "pred"
noncomputable def mR:Str:=ofString "pred_info"
noncomputable def kP:List Str:=[aA,aw,i7,mQ,pH,mR]
noncomputable def xG(P:Nat->Pos)(u1:List NW):List NW:=[.If (.Compare (.Attribute (.Name aA (P 0)) (ofString "_ready_nodes") (P 1)) [.IsNot] [.Constant .none 0 (P 2)] (P 3)) u1 [] (P 4),
 .Assign [.Name mQ (P 5)] (.Call (.Attribute (.Name aA (P 6)) (ofString "_get_nodeinfo") (P 7)) [.Name aw (P 8)] [] (P 9)) (P 10),
 .AugAssign (.Attribute (.Name mQ (P 11)) (ofString "npredecessors") (P 12)) .Add (.Call (.Name (ofString "len") (P 13)) [.Name i7 (P 14)] [] (P 15)) (P 16),
 .For (.Name pH (P 17)) (.Name i7 (P 18)) [.Assign [.Name mR (P 19)] (.Call (.Attribute (.Name aA (P 20)) (ofString "_get_nodeinfo") (P 21)) [.Name pH (P 22)] [] (P 23)) (P 24),
  .Expr (.Call (.Attribute (.Attribute (.Name mR (P 25)) (ofString "successors") (P 26)) (ofString "append") (P 27)) [.Name aw (P 28)] [] (P 29)) (P 30)] [] (P 31)]
inductive isAdd(b:List NW):Prop where
 | mk (h1:b=xG hA BU) (h2:((hA 7).endLine==(hA 9).line)=true) (h3:((hA 21).endLine==(hA 23).line)=true) (h4:((hA 27).endLine==(hA 29).line)=true):isAdd b
structure SA(G:Glo):Prop extends SI G where
 FA:FnInfo G lR iL bA [aA,aw,i7] kP
 bindA:∀u v ps,ps.length<=8->O8 iL ⟨u::v::ps,[]⟩=(newTuple ps >>= fun t=>pure ([aA,aw,i7].zip [u,v,t]))
 bdA:isAdd bA
 glA:bO iL.scope (ofString "len")=true
section
variable{G:Glo}{A:N0}{O:NQ->Prop}{s:NL}{E:NO->NL->Prop}{L:SLay}
theorem pI{Re:Env}{o:Expr}{apos pos:Pos}{args:List Expr}{Q:NO->NL->Prop}(wf:G.Wf)(mf:kN G.K TS name f=true)(hnm:∀(L:SLay) h1 h2 h3 h4 t1 t2 t3 t4 t5 t6,getL name (jJ h1 h2 h3 h4 t1 t2 t3 t4 t5 t6 L.n2i L.rdv L.po L.fi)=some none)
 (hbase:attributeBase o name Re (N6 o Re)=N6 o Re) (hs:∀a∈args,fu a=true) (hfew:args.length<29) (hline:(apos.endLine==pos.line)=true)
 (h:NN (NP G.prog G.w) A (N6 o Re) (fun ov s₁=>∃L O,ov=.ref L.x/\G.Base O s₁.heap/\SorAt G.prog G.w L s₁.heap /\
  NN (NP G.prog G.w) A (spliced (args.map fun a=>(false,N6 a Re))) (fun vs s₂=>(∃O,G.Base O s₂.heap)/\NN (NP G.prog G.w) A (call (.ref f) (.ref L.x::vs)) Q E s₂) E s₁) E s) :
 NN (NP G.prog G.w) A (N6 (.Call (.Attribute o name apos) args [] pos) Re) Q E s:=by
 unfold kN at mf
 simp only[e7,beq_iff_eq]at mf
 refine aj mf fun z0 m5=>?_;refine aj z0 fun z0 m4=>?_;refine aj z0 fun z0 m3=>?_;obtain⟨m1,m2⟩:=z0
 refine aj (plainGet_of m1) fun m6 m7=>?_
 rw[arm_eval_Call,hbase]
 refine NM (NS h (fun ov s₁ h₁=>?_) fun U U e=>e)
 refine x24 h₁ fun L O e2 B S hc=>?_;subst e2
 obtain⟨h1,h2,h3,h4,t1,t2,t3,t4,t5,t6,n,e,IA⟩:=S.instAt
 refine NM (Od ?_)
 have hform:methodCallForm (args.length+([]:List Keyword).length) (backTo pos (starEach args Re)) (backToKw pos (keywordEach [] Re))=true:=by
  rw[ig _ hs,jz]
  unfold methodCallForm
  simp only[List.all_map,Function.comp,e7,decide_eq_true_eq]
  refine⟨⟨by simp,rfl⟩,?_⟩
  simp only[List.length_nil,Nat.add_zero]
  have:(backToKw pos (keywordEach [] Re)).isEmpty=true:=rfl
  rw[this];simp;lia
 have hpos:methodCallPos true o Re apos pos=pure pos:=by unfold methodCallPos;simp[hline]
 unfold methodCall
 rw[hform]
 refine NM (N8 (method_fn (B.inK wf) IA m6 m7 m2 (beq_iff_eq.mp m3) ?_ ?_))
 ·show(lookIn name (PL _ n)).map _=_
  rw[lookIn_dict,hnm];rfl
 ·refine NM (PT hpos ?_)
  rw[ig _ hs,jz]
  refine callWith_of (P:=fun h=>G.K.In h) (by rw[gB];rfl) (keeps_K m4) (ii (NS hc (fun vs s₂ h₂=>⟨h₂.1.elim fun U B=>B.inK wf,h₂.2⟩) fun U U e=>e))
theorem xH{i j:Nat}{x y:Str}{k:Int}{p ap q cp:Pos}{Q:NO->NL->Prop}(wf:G.Wf)(I:SI G)(C:Cond G Re sc Rc A O (fun U=>none) ρ s)
 (hO:∀b∈L.addrs,O b) (S:SorAt G.prog G.w L s.heap) (hroom:A.depth+20<1000) (hsz:L.inf.length<=10000) (hx:Rc[i]? = some (some x)) (hy:Rc[j]? = some (some y)) (dx:(x==ofString "__debug__")=false) (dy:(y==ofString "__debug__")=false)
 (rx:ρ.getD i .un=.val (.ref L.x)) (ry:ρ.getD j .un=.dat (.int k)) (hline:(ap.endLine==cp.line)=true)
 (h:∀v s' L' n f,GotInfo G L s k v s' L' n f->Q v s'):NN (NP G.prog G.w) A (N6 (.Call (.Attribute (.Name x p) (ofString "_get_nodeinfo") ap) [.Name y q] [] cp) Re) Q E s:=by
 refine pI wf I.get (fun U U U U U U U U U U U=>rfl) rfl (fun a ha=>by rw[ah.mp ha];rfl) (by simp) hline (fZ C hx dx rx ⟨L,O,rfl,C.base,S,?_⟩)
 refine N7 (dL C hy dy ry fun v rv=>N4 ⟨⟨O,C.base⟩,?_⟩)
 refine x11 (hZ rv) fun t' e1=>?_;subst e1
 exact NS (EQ wf I C.ok C.base hO S hroom hsz) (fun v s' h'=>by
  refine x31 h' fun L' n f GI=>?_
  exact h v s' L' n f GI) fun U U e=>e
end
section
variable{G:Glo}{Re:Env}{sc:Scope}{Rc:List (Option Str)}{A:N0}{O O':NQ->Prop}{ρ:List SV}{s s':NL}{E:NO->NL->Prop}
theorem Cond.outerGrow(wf:G.Wf)(C:Cond G Re sc Rc A O (fun U=>none) ρ s)(k:KM M s s')(hM:∀b,M b->O b)(hS:∀b,M b->¬aS Re b)(h1:∀b,O b->O' b)(h2:∀b,O' b->O b\/s.heap.get? b=none)(h3:∀b,O' b->∃o,s'.heap.get? b=some o) :
 Cond G Re sc Rc A O' (fun U=>none) ρ s':=by
 have C':=C.outer wf k hM hS
 obtain⟨val,F,V⟩:=C.vars
 have F':FrameV Re s'.heap val:=by
  refine⟨?_,fun x hx=>?_⟩
  ·refine x12 F.loc fun m h1 h2=>?_
   exact⟨m,h1.at' fun o e=>k.get _ o (fun q=>hS _ q (.inl rfl)) e,h2⟩
  ·refine x12 (F.cel x hx) fun c h1 h2=>?_
   exact⟨c,h1,jA h2 fun o e=>k.get _ o (fun q=>hS _ q (.inr ⟨x,h1⟩)) e⟩
 refine⟨C'.eo,C'.co,C'.len,⟨C'.ok.hok,fun b hb q=>?_,h3⟩,⟨C'.base.kp,fun b q=>?_⟩,fun b q=>h1 b (C.fr b q),fun x c e=>h1 c (C.fc x c e),fun b i e=>(by cases e),val,F',fun i x e=>?_⟩
 ·rcases h2 b q with q | q
  ·exact C.ok.hno b hb q
  ·refine x11 (C.ok.hok.there b hb) fun o e=>?_
   rw[q]at e;cases e
 ·rcases h2 b q with q | q
  ·exact C.base.off b q
  ·cases e:G.hB.get? b with
   | none=>rfl
   | some o=>rw[C.base.kp b o e]at q;cases q
 ·have r:=V i x e
  have hk:∀b o,¬O b->s.heap.get? b=some o->s'.heap.get? b=some o:=fun b o n e=>k.get b o (fun q=>n (hM b q)) e
  have hO:∀b o,s.heap.get? b=some o->O' b->O b:=fun b o e q=>(h2 b q).elim id fun z=>by rw[z]at e;cases e
  generalize ρ.getD i .un=y at r
  cases y with
  | dat d=>refine x12 r fun u e r=>?_;exact⟨u,e,r.mono hk hO⟩
  | own d=>obtain⟨a,vs,n,ds,e1,e2,_⟩:=r;cases e2
  | un=>trivial
  | val u=>exact r
  | dic l=>exact x13 r fun a e1 e2 U=>nomatch e2
  | sor g =>
   refine x23 r fun u S e r hS=>?_
   refine⟨u,S,e,wf.srf g S s.heap s'.heap u r (fun b o q U=>by cases hS b q) (fun b o q=>C.base.kp b o q) (fun b o q=>C'.base.kp b o q),hS⟩
structure FP(G:Glo)(Re:Env)(sc:Scope)(Rc:List (Option Str))(A:N0)(s₀:NL)(L₀:SLay)(O:NQ->Prop)(ρ:List SV)(s:NL)(L:SLay):Prop where
 C:Cond G Re sc Rc A O (fun U=>none) ρ s
 S:SorAt G.prog G.w L s.heap
 hO:∀b∈L.addrs,O b
 hS:∀b∈L.addrs,¬aS Re b
 same:LSame L₀ L
 km:KM (fun b=>b∈L₀.addrs\/aS Re b) s₀ s
 new:∀b∈L.addrs,b∈L₀.addrs\/s₀.heap.get? b=none
variable{s₀:NL}{L₀ L L':SLay}
theorem FP.keeps(wf:G.Wf)(P:FP G Re sc Rc A s₀ L₀ O ρ s L)(k:NX s s'):FP G Re sc Rc A s₀ L₀ O ρ s' L :=
 ⟨P.C.keeps wf k,eK P.S k,P.hO,P.hS,P.same,P.km.trans (KM.of k),P.new⟩
theorem FP.store{p:Pos}{Q:Unit->NL->Prop}(wf:G.Wf)(hsto:∀i,br Re Rc i)(P:FP G Re sc Rc A s₀ L₀ O ρ s L)(hi:Rc[i]? = some (some x))(hk:aW sc x=true)(r:cF G O (fun U=>none) s.heap i (some v) y)
 (h:∀s',FP G Re sc Rc A s₀ L₀ O (ρ.set i y) s' L->Q () s'):NN (NP G.prog G.w) A (Ox (.Name x p) Re v) Q E s :=
 Ot (dW wf (hsto i) P.C hi hk r fun s' k C'=>h s' ⟨C',P.S.keeps fun b o hb e=>k.get b o (fun q=>P.hS b hb q.store) e,P.hO,P.hS,P.same,P.km.trans (k.mono fun b q=>.inr q.store),P.new⟩)
theorem FP.got(wf:G.Wf)(P:FP G Re sc Rc A s₀ L₀ O ρ s L)(g:GotInfo G L s k v s' L' j f):FP G Re sc Rc A s₀ L₀ (fun b=>O b\/b∈L'.addrs) ρ s' L':=by
 have hnone:∀b,s.heap.get? b=none->s₀.heap.get? b=none:=fun b e=>jG P.km e
 refine⟨P.C.outerGrow wf g.km P.hO P.hS (fun b q=>.inl q) (fun b q=>?_) (fun b q=>?_),g.sor,fun b q=>.inr q,fun b q z=>?_,P.same.trans g.same,?_,fun b q=>?_⟩
 ·rcases q with q | q
  ·exact .inl q
  ·exact(g.new b q).imp (P.hO b) id
 ·rcases q with q | q
  ·refine x11 (P.C.ok.obs b q) fun o e=>?_
   exact g.km.there b o e
  ·exact g.sor.there q
 ·rcases g.new b q with q | q
  ·exact P.hS b q z
  ·refine x11 (P.C.ok.obs b (P.C.store_O z)) fun o e=>?_
   rw[q]at e;cases e
 ·obtain⟨h1,t1,rfl,k1,e1⟩:=id P.km
  obtain⟨h2,t2,rfl,k2,e2⟩:=id g.km
  refine⟨h2,t2,rfl,fun b o n e=>k2 b o (fun q=>?_) (k1 b o n e),fun b o e=>(e1 b o e).elim fun o' e'=>e2 b o' e'⟩
  rcases P.new b q with q | q
  ·exact n (.inl q)
  ·rw[q]at e;cases e
 ·rcases g.new b q with q | q
  ·exact P.new b q
  ·exact .inr (hnone b q)
theorem FP.upd{t:Nat}(wf:G.Wf)(P:FP G Re sc Rc A s₀ L₀ O ρ s L)(hc:c∈L.addrs)(hs:Ou c s.heap h')(S':SorAt G.prog G.w L' h')(ha:L'.addrs=L.addrs)(hsm:LSame L L'):FP G Re sc Rc A s₀ L₀ O ρ { s with heap:=h',toks:=t } L':=by
 have hc':∃o,h'.get? c=some o:=S'.there (ha▸hc)
 have k:KM (· = c) s { s with heap:=h',toks:=t }:=KM.chg hs hc' rfl
 refine⟨P.C.outer wf k (fun b q=>q▸P.hO c hc) fun b q=>q▸P.hS c hc,S',ha▸P.hO,ha▸P.hS,P.same.trans hsm,?_,ha▸P.new⟩
 obtain⟨h1,t1,rfl,k1,e1⟩:=id P.km
 obtain⟨h2,t2,e,k2,e2⟩:=k
 cases e
 refine⟨h',t,rfl,fun b o n e=>k2 b o (fun q=>?_) (k1 b o n e),fun b o e=>(e1 b o e).elim fun o' e'=>e2 b o' e'⟩
 have q:b=c:=q
 rcases P.new b (q▸hc)with q | q
 ·exact n (.inl q)
 ·rw[q]at e;cases e
theorem FP.rebase(P:FP G Re sc Rc A s₀ L₀ O ρ s L):FP G Re sc Rc A s L O ρ s L:=⟨P.C,P.S,P.hO,P.hS,LSame.refl L,KM.of (bk s),fun b q=>.inl q⟩
theorem FP.comp(P:FP G Re sc Rc A s₀ L₀ O₁ ρ₁ s₁ L₁)(P':FP G Re sc Rc A s₁ L₁ O ρ s L):FP G Re sc Rc A s₀ L₀ O ρ s L:=by
 refine⟨P'.C,P'.S,P'.hO,P'.hS,P.same.trans P'.same,?_,fun b q=>?_⟩
 ·obtain⟨h1,t1,rfl,k1,e1⟩:=id P.km
  obtain⟨h2,t2,rfl,k2,e2⟩:=id P'.km
  refine⟨h2,t2,rfl,fun b o n e=>k2 b o (fun q=>?_) (k1 b o n e),fun b o e=>(e1 b o e).elim fun o' e'=>e2 b o' e'⟩
  rcases q with q | q
  ·rcases P.new b q with q | q
   ·exact n (.inl q)
   ·rw[q]at e;cases e
  ·exact n (.inr q)
 ·rcases P'.new b q with q | q
  ·exact P.new b q
  ·exact .inr (jG P.km q)
end
section
variable{G:Glo}{Re:Env}{sc:Scope}{Rc:List (Option Str)}{A:N0}{O O':NQ->Prop}{ρ:List SV}{s s' s₁ s₂:NL}{E:NO->NL->Prop}{s₀:NL}{L₀ L L':SLay}
theorem FP.grow(wf:G.Wf)(P:FP G Re sc Rc A s₀ L₀ O ρ s L)(k:NX s s')(h1:∀b,O b->O' b)(h2:∀b,O' b->O b\/s.heap.get? b=none)(h3:∀b,O' b->∃o,s'.heap.get? b=some o):FP G Re sc Rc A s₀ L₀ O' ρ s' L :=
 ⟨P.C.grow wf k h1 h2 h3,eK P.S k,fun b q=>h1 b (P.hO b q),P.hS,P.same,P.km.trans (KM.of k),P.new⟩
theorem FP.side(wf:G.Wf)(P:FP G Re sc Rc A s₀ L₀ O ρ s L)(hI:O I)(hL:I∉L.addrs)(hS:¬aS Re I)(h0:s₀.heap.get? I=none)(k:KM (· = I) s s'):FP G Re sc Rc A s₀ L₀ O ρ s' L :=
 ⟨P.C.outer wf k (fun b q=>q▸hI) (fun b q=>q▸hS),P.S.keeps fun b o hb e=>k.get b o (fun q=>hL (q▸hb)) e,P.hO,P.hS,P.same,P.km.thenFresh k (fun b q=>q▸h0),P.new⟩
inductive FPI(G:Glo)(Re:Env)(sc:Scope)(Rc:List (Option Str))(A:N0)(s₀:NL)(L₀:SLay)(O:NQ->Prop)(s₁:NL)(I:NQ)(fp:List NQ)(len:Nat)(St:Nat->N9->Prop)(RP:List SV->Prop)(J:Nat->SLay->Prop)(n:Nat)(sk:NL):Prop where
 | mk (j:Nat) (Ok:NQ->Prop) (ρk:List SV) (Lk:SLay) (hj:j<=len) (hn:n=len+1 - j) (hst:St j sk.heap) (hIL:I∉Lk.addrs) (loc:FLoc O s₁ I fp Ok (fun U=>none) sk) (hRP:RP ρk) (hJ:J j Lk) (P:FP G Re sc Rc A s₀ L₀ Ok ρk sk Lk) :
  FPI G Re sc Rc A s₀ L₀ O s₁ I fp len St RP J n sk
theorem ES{body:List NW}{i:Nat}{x:Str}{p:Pos}{R:Result->NL->Prop}(wf:G.Wf)(P:FP G Re sc Rc A s₀ L₀ O ρ s₁ L)(k12:NX s₁ s₂)(hi:ItIs G.prog G.w A O True s₁.heap s₂.heap it its)
 (hsto:∀i,br Re Rc i) (hx:Rc[i]? = some (some x)) (hk:aW sc x=true) (RP:List SV->Prop) (J:Nat->SLay->Prop) (hRP:RP ρ) (hJ:J 0 L) (hset:∀ρ y,RP ρ->RP (ρ.set i y)) (hil:i<ρ.length)
 (step:∀n d O' L' ρ' s (Q:Flow->NL->Prop) E,its[n]? = some d->FP G Re sc Rc A s L' O' ρ' s L'->RP ρ'->ρ'.getD i .un=.dat d->J n L' ->
  (∀s' O'' L'' ρ'',FP G Re sc Rc A s L' O'' ρ'' s' L''->(∀b,O' b->O'' b)->(∀b,O'' b->O' b\/s.heap.get? b=none)->RP ρ''->J (n+1) L''->Q .next s')->NN (NP G.prog G.w) A (OG body Re) Q E s)
 (hR:∀s' O' L' ρ',FP G Re sc Rc A s₀ L₀ O' ρ' s' L'->RP ρ'->J its.length L'->R (.ok .next) s'):O3 (NP G.prog G.w) A (.forLoop (.Name x p) it body [] Re) R s₂:=by
 obtain⟨I,fp,wr,Pv,St,rfl,W,hst,hfq,⟨rfl,hI₁⟩,hf,htame,hIfp,hit⟩:=hi
 have hI₀:s₀.heap.get? I=none:=jG P.km hI₁
 have hnI:¬O I:=fun q=>by refine x11 (P.C.ok.obs I q) fun o e=>?_;rw[hI₁]at e;cases e
 have hIf:I∉hfp A:=fun q=>by refine x11 (P.C.ok.hok.there I q) fun o e=>?_;rw[hI₁]at e;cases e
 have hIS:¬aS Re I:=fun q=>hnI (P.C.store_O q)
 have P2:FP G Re sc Rc A s₀ L₀ (fun b=>O b\/b=I) ρ s₂ L:=P.grow wf k12 (fun b q=>.inl q) (fun b q=>by
  rcases q with q | rfl
  ·exact .inl q
  ·exact .inr hI₁) fun b q=>by
  rcases q with q | rfl
  ·refine x11 (P.C.ok.obs b q) fun o e=>?_;exact⟨o,ai k12 b o e⟩
  ·refine x22 (htame 0 _ hst) fun o U e U=>?_;exact⟨o,e⟩
 refine codeAny_forLoop_any (FPI G Re sc Rc A s₀ L₀ O s₁ I fp its.length St RP J) ?_ (its.length+1)
  ⟨0,_,ρ,L,cj _,rfl,hst,fun q=>hnI (P.hO I q),⟨.inr rfl,fun b o U e=>ai k12 b o e,hfq,fun b hb n q=>q.elim (hf trivial b hb) n,fun j q=>(nomatch q),fun b o e q=>by
   rcases q with q | rfl
   ·exact q
   ·rw[hI₁]at e;cases e⟩,hRP,hJ,P2⟩
 rintro n sk ⟨j,Ok,ρk,Lk,hj,rfl,hst,hIL,loc,hRPk,hJk,Pk⟩
 by_cases hlt:j<its.length
 ·refine W.item j _ _ _ hlt hst fun v h₂ t₂ hP hst₂ hk₂=>?_
  refine x23 (htame (j+1) h₂ hst₂) fun oI TI hoI hcI htI=>?_
  refine pd hoI hcI htI ?_
  have hk2:∀b o,b≠I->sk.heap.get? b=some o->h₂.get? b=some o:=fun b o n e=>hk₂ b o (by simpa using n) e
  have k2:KM (· = I) sk { sk with heap:=h₂,toks:=t₂ }:=⟨h₂,t₂,rfl,fun b o n e=>hk2 b o n e,fun b o e=>if q:b=I then q▸⟨oI,hoI⟩else⟨o,hk2 b o q e⟩⟩
  have P2:=Pk.side wf loc.oI hIL hIS hI₀ k2
  refine x12 (hit j v hP) fun d hd rd=>?_
  have rd':Rep Ok h₂ v d:=(rd s₁.heap fun U U U e=>e).mono (fun b o n e=>hk2 b o (fun q=>by rw[q,hI₁]at e;cases e) (loc.kp b o n e)) loc.OO
  refine Ot (dW (y:=.dat d) wf (hsto i) P2.C hx hk ⟨v,rfl,rd'⟩ fun s3 k3 C3=>?_)
  have P3:FP G Re sc Rc A s₀ L₀ Ok (ρk.set i (.dat d)) s3 Lk:=⟨C3,P2.S.keeps fun b o hb e=>k3.get b o (fun q=>P2.hS b hb q.store) e,P2.hO,P2.hS,P2.same,P2.km.trans (k3.mono fun b q=>.inr q.store),P2.new⟩
  refine step j d Ok Lk _ s3 _ _ hd P3.rebase (hset _ _ hRPk) (by rw[dq,if_pos ⟨rfl,by rw[Pk.C.len,<- P.C.len];exact hil⟩]) hJk fun s' O'' L'' ρ'' P' hO1 hO2 hRP' hJ'=>?_
  have hS:∀b,aS Re b->Ok b/\b≠I:=fun b q=>⟨Pk.C.store_O q,fun z=>hIS (z▸q)⟩
  have nb:∀b,s3.heap.get? b=none->h₂.get? b=none:=fun b e=>jG k3 e
  have nx:=loc.next (M:=fun b=>b∈Lk.addrs\/aS Re b) (ω':=fun U=>none) hI₁ (s2:={ sk with heap:=h₂,toks:=t₂ }) hk2 ⟨oI,hoI⟩ (fun b q=>q.elim (fun q=>⟨Pk.hO b q,fun z=>hIL (z▸q)⟩) (hS b))
   (fun b o n e=>P'.km.get b o n (k3.get b o (fun q=>n (.inr q.store)) e)) (hO1 I loc.oI) (fun b q=>(hO2 b q).imp id (nb b)) fun j q=>nomatch q
  refine⟨its.length+1 - (j+1),by lia,j+1,O'',ρ'',L'',hlt,rfl,W.frame _ _ _ hst₂ fun b hb o e=>nx.2 b hb o e,fun q=>?_,nx.1,hRP',hJ',P3.comp P'⟩
  rcases P'.new I q with q | q
  ·exact hIL q
  ·have:=nb I q
   rw[hoI]at this;cases this
 ·have hin:j=its.length:=Nx hj (fG.mp hlt)
  subst hin
  refine W.done _ _ _ hst fun h₂ t₂ hk₂=>N1 ?_
  have hk:∀b o,b≠I->sk.heap.get? b=some o->h₂.get? b=some o:=fun b o n e=>hk₂ b o (by simpa using n) e
  have hSne:∀b,aS Re b->Ok b/\b≠I:=fun b q=>⟨Pk.C.store_O q,fun z=>hIS (z▸q)⟩
  refine hR _ (fun b=>Ok b/\b≠I) Lk ρk ⟨Pk.C.shrink (V:=(· = I)) wf (fun b q=>q.1) (fun b i e=>by cases e) (fun b q=>hSne b q.store) (fun x c e=>hSne c (.inr ⟨x,e⟩)) (fun b z q=>q.2 z) (fun b q=>q▸loc.oI) (fun b q=>q▸hIf) hk,Pk.S.keeps fun b o hb e=>hk b o (fun q=>hIL (q▸hb)) e,fun b q=>⟨Pk.hO b q,fun z=>hIL (z▸q)⟩,Pk.hS,Pk.same,?_,Pk.new⟩ hRPk hJk
  obtain⟨h1,t1,rfl,k1,e1⟩:=id Pk.km
  have ne:∀b o,s₀.heap.get? b=some o->b≠I:=fun b o e q=>by rw[q,hI₀]at e;cases e
  exact⟨h₂,t₂,rfl,fun b o n e=>hk b o (ne b o e) (k1 b o n e),fun b o e=>(e1 b o e).elim fun o' e'=>⟨o',hk b o' (ne b o e) e'⟩⟩
end
section
variable{G:Glo}{A:N0}{O:NQ->Prop}{s:NL}{E:NO->NL->Prop}{L:SLay}
theorem xI:∀ {ps:List NO} {pk:List Int},Pa ps pk->RepL O h ps (pk.map Oo):=fun q=>by
 induction q with
 | nil=>exact .nil
 | cons x t r ih=>exact .cons (.int _ _) ih
noncomputable def gs(g:Gr)(m:Nat):Prop:=g.length<=9980+m/\∀q∈g,q.2.2.length<=999980+m
theorem xJ(h:gs g m):gs (cy k g) (m+1):=by
 unfold cy
 split
 ·exact⟨by have:=h.1;lia,fun q hq=>by have:=h.2 q hq;lia⟩
 ·refine⟨by rw[cb];have:=h.1;simp;lia,fun q hq=>?_⟩
  rcases aI.mp hq with hq | hq
  ·have:=h.2 q hq;lia
  ·rw[ah.mp hq];simp
theorem ET(h:gs g m):gs (ip k z g) m:=by
 unfold ip
 refine⟨by rw[af];exact h.1,fun q hq=>?_⟩
 refine x12 (aJ.mp hq) fun p hp e2=>?_;subst e2
 have:=h.2 p hp
 split<;>simpa using this
theorem EU(h:gs g m):gs (fA p k g) (m+1):=by
 unfold fA
 refine⟨by rw[af];have:=h.1;lia,fun q hq=>?_⟩
 refine x12 (aJ.mp hq) fun e he e2=>?_;subst e2
 have:=h.2 e he
 split
 ·simp;lia
 ·lia
theorem xK(h:gs L.gr m):L.inf.length<=9980+m/\∀f∈L.inf,f.su.length<=999980+m :=
 ⟨by have:=h.1;unfold SLay.gr at this;rwa [af]at this,fun f hf=>h.2 (f.key,f.np,f.su) (aJ.mpr ⟨f,hf,rfl⟩)⟩
theorem eY{i:Nat}{x:Str}(e:kP[i]? = some x):(kP.map some)[i]? = some (some x):=by rw[cu,e];rfl
theorem EV{k:Int}{t:Tok}{ps:List NO}{pk:List Int}(wf:G.Wf)(I:SA G)(ok:Okay A O s)(B:G.Base O s.heap)(hO:∀b∈L.addrs,O b)(S:SorAt G.prog G.w L s.heap)(hrd:L.rd=none)
 (hps:Pa ps pk) (hlen:ps.length<=8) (hroom:A.depth+30<1000) (hsz:L.inf.length+20<=10000) (hsu:∀f∈L.inf,f.su.length+20<=1000000) :
 O3 (NP G.prog G.w) A (.call (.ref lR) ⟨.ref L.x::.int k t::ps,[]⟩) (fun r s'=>match r with | .ok (.ret v)=>(v=.none/\∃L',SorAt G.prog G.w L' s'.heap/\LSame L L'/\L'.gr=jM k pk L.gr/\KM (·∈L.addrs) s s'/\∀b∈L'.addrs,b∈L.addrs\/s.heap.get? b=none) | .ok _=>False | .error e=>E e s') s:=by
 have k0:NX s { s with heap:=s.heap.push { cls:=.type "tuple",data:=.seq ps.toArray } }:=bz _
 generalize hs':({ s with heap:=s.heap.push { cls:=.type "tuple",data:=.seq ps.toArray } }:NL)=s' at k0
 have hT:IsT s'.heap s.heap.objs.size ps.toArray 0:=by rw[<- hs'];exact IsT.new _ _
 have ok':=ok.keeps k0
 have B':=B.keeps k0
 have S':=eK S k0
 have hnT:¬O s.heap.objs.size:=fun q=>bj _ (ok.ob _ q)
 have hpl:=IntsAre.len hps
 have hrep:Rep O s'.heap (.ref s.heap.objs.size) (.tuple (pk.map .int)):=.tuple hnT hT (by
  have:ps.toArray.toList=ps:=rfl
  rw[this];exact xI hps)
 refine xC (s:=s) (s':=s') (O:=O) (vs:=[.ref L.x,.int k t,.ref s.heap.objs.size]) (ys:=[.val (.ref L.x),.dat (.int k),.dat (.tuple (pk.map .int))]) wf I.FA B ok' B' (fun i v y hv hy=>?_) rfl rfl (pi hroom) (fun A Q E h=>?_) fun Re O' s₁ k1 hO1 hO2 hSt hsto C E' Qf hret hnx=>?_
 ·exact xj (P:=eX G _ _) (.inr rfl) (.inl ⟨_,rfl,.int _ _⟩) (.inl ⟨_,rfl,hrep⟩) i v y hv hy
 ·rw[I.bindA _ _ ps hlen]
  refine NM (O7 (NU (hs'▸h)) (by show ps.toArray.size<=O5;rw[vm,OK];lia))
 have bd:=I.bdA
 obtain⟨hb,hl1,hl2,hl3⟩:=bd
 rw[hb]
 unfold xG
 have d1:(aA==ofString "__debug__")=false:=by decide +kernel
 have d2:(aw==ofString "__debug__")=false:=by decide +kernel
 have d3:(i7==ofString "__debug__")=false:=by decide +kernel
 have d4:(mQ==ofString "__debug__")=false:=by decide +kernel
 have d5:(pH==ofString "__debug__")=false:=by decide +kernel
 have d6:(mR==ofString "__debug__")=false:=by decide +kernel
 have stor_of':∀x∈kP,aW iL.scope x=true:=fun x hx=>I.FA.sc.st hx
 have hOO:∀b∈L.addrs,O' b:=fun b hb=>hO1 b (hO b hb)
 have hFS:∀b∈L.addrs,¬aS Re b:=fun b hb q=>by
  refine x11 (S'.there hb) fun o e=>?_
  rw[hSt b q]at e;cases e
 have P1:FP G Re iL.scope (kP.map some) (A.deeper Re) s' L O' (cw kP [.val (.ref L.x),.dat (.int k),.dat (.tuple (pk.map .int))]) s₁ L:=⟨C,eK S' k1,hOO,hFS,LSame.refl L,KM.of k1,fun b q=>.inl q⟩
 have hint:OY Re=false:=by unfold OY;rw[C.eo.kindS];rfl
 -- if self._ready_nodes is not None
 refine NT (Pr (OA (gH P1.C (eY (i:=0) rfl) d1 rfl (xr (P1.C.base.inK wf) I.ts P1.S (O9 (isNot_none ?_)))) rfl))
 have hrv:L.rdv=.none:=by unfold SLay.rdv;rw[hrd]
 rw[hrv]
 refine Oi ?_
 show NN _ _ (OG [] Re) _ _ _
 refine N1 ?_
 have P2:=P1.keeps wf (ar s₁ (s₁.toks+1))
 have g0:gs L.gr 0:=⟨by unfold SLay.gr;rw[af];lia,fun q hq=>by
  refine x12 (aJ.mp hq) fun f hf e2=>?_;subst e2
  have:=hsu f hf
  simp only;lia⟩
 -- nodeinfo=self._get_nodeinfo(node)
 refine NT (Oc (xH wf I.toSI P2.C P2.hO P2.S (my hroom (by decide):A.depth+1+20<1000) (by lia) (eY (i:=0) rfl) (eY (i:=1) rfl) d1 d2 rfl rfl hl1 fun v s₂ L1 j f GI=>?_) rfl rfl)
 show NN _ _ (Ox (.Name mQ (hA 5)) Re v) _ _ s₂
 obtain⟨rfl,hj,hkey,hgr⟩:v=.ref f.a/\L1.inf[j]? = some f/\f.key=k/\L1.gr=cy k L.gr:=⟨GI.val,GI.at_,GI.key,GI.gr⟩
 refine(P2.got wf GI).store (y:=.val (.ref f.a)) wf hsto (eY (i:=3) rfl) (stor_of' _ (bH (by kernel_rfl))) rfl fun s₃ P4=>?_
 have hfm:f∈L1.inf:=az hj
 -- nodeinfo.npredecessors += len(predecessors)
 refine NT (wpAny_AugAssign_AttributeAny (fZ P4.C (eY (i:=3) rfl) d4 rfl (xt (P4.C.base.inK wf) I.N.ni I.N.sP P4.S hfm fun tn=>?_)))
 have P5:=P4.keeps wf (ar s₃ (s₃.toks+1))
 refine sf wf P5.C rfl I.glA wW (dL P5.C (eY (i:=2) rfl) d3 rfl fun u ru=>NS (wt (.of ru) (by show(pk.map Oo).length<=16777216;rw[af];lia)) (fun w' s₄ h4=>?_) fun U U e=>e)
 refine x11 (hZ h4.2) fun tl e1=>?_;subst e1
 have P6:=P5.keeps wf h4.1
 have P7:=P6.keeps wf (ar s₄ (s₄.toks+1))
 refine iadd_int (EL (k:=j) (f:=f) (P7.C.base.inK wf) I.N.ni I.N.sP P7.S hj fun h' hsb S8=>?_)
 have P8:=P7.upd (t:=s₄.toks+1+1) wf ((mL hfm).1) hsb.extBut S8 (xF hj rfl) ⟨rfl,rfl,rfl,rfl,rfl,rfl⟩
 have hlenD:((iT (PyData.tuple (pk.map Oo)):Nat):Int)=(pk.length:Int):=congrArg Int.ofNat (af ..)
 have hg8:(L1.upd j { f with np:=f.np+(iT (PyData.tuple (pk.map Oo)):Nat) }).gr=ip k pk.length (cy k L.gr):=by
  rw[ER P7.S.keys hj,hkey,hgr,hlenD]
 generalize hL2:L1.upd j { f with np:=f.np+(iT (PyData.tuple (pk.map Oo)):Nat) }=L2 at P8 hg8
 have hx2:L2.x=L.x:=P8.same.x
 have dz:∀(n:Nat) (d:NR),(pk.map Oo)[n]? = some d->∃z,pk[n]? = some z/\d=.int z:=fun n d e=>by
  rw[cu]at e
  cases q:pk[n]? with
  | none=>rw[q]at e;cases e
  | some z=>rw[q]at e;exact⟨z,rfl,(OH e).symm⟩
 -- for pred in predecessors
 refine NT (wpAny_For (dL P8.C (eY (i:=2) rfl) d3 rfl fun v rv=>rS P8.C.ok (.of rv) fun it s₉ k9 hi=>?_) fun U=>rfl)
 refine ES wf P8 k9 (hi.mono fun U=>rv) hsto (eY (i:=4) rfl) (stor_of' _ (bH (by kernel_rfl))) (fun ρ=>ρ.getD 0 .un=.val (.ref L.x)/\ρ.getD 1 .un=.dat (.int k))
  (fun n L'=>L'.x=L.x/\L'.gr=(pk.take n).foldl (fun g p=>fA p k (cy p g)) (ip k pk.length (cy k L.gr))/\gs L'.gr (1+2 * n)) ⟨rfl,rfl⟩ ⟨hx2,by simpa using hg8,by rw[hg8];exact ET (xJ g0)⟩
  (fun ρ y h=>⟨(mz (by decide)).trans h.1,(mz (by decide)).trans h.2⟩) (by rw[P8.C.len];decide) (fun n d Ob Lb ρb sb Qb Eb hd Pb hRP hdat hJ hk=>?_) (fun s' Oe Le ρe Pe hRPe hJe=>?_)
 ·refine x12 (dz n d hd) fun z hz e2=>?_;subst e2
  refine cT hJ fun hxb hgb hsb=>?_
  have hn8:n<8:=by
   have:=(dh.mp hz).1
   lia
  have hib:=xK hsb
  refine NT (Oc (xH wf I.toSI Pb.C Pb.hO Pb.S (my hroom (by decide):A.depth+1+20<1000) (by lia) (eY (i:=0) rfl) (eY (i:=4) rfl) d1 d5 (by rw[hxb];exact hRP.1) hdat hl2 fun v sc' Lc jc fc GI=>?_) rfl rfl)
  show NN _ _ (Ox (.Name mR (hA 19)) Re v) _ _ sc'
  obtain⟨rfl,hjc,hkeyc,hgrc⟩:v=.ref fc.a/\Lc.inf[jc]? = some fc/\fc.key=z/\Lc.gr=cy z Lb.gr:=⟨GI.val,GI.at_,GI.key,GI.gr⟩
  have hxc:Lc.x=Lb.x:=GI.same.x
  refine(Pb.got wf GI).store (y:=.val (.ref fc.a)) wf hsto (eY (i:=5) rfl) (stor_of' _ (bH (by kernel_rfl))) rfl fun sd Pd=>?_
  have hfmc:fc∈Lc.inf:=az hjc
  have hlenb:5<ρb.length:=by rw[Pb.C.len];decide
  have hgsc:gs Lc.gr (1+2 * n+1):=by rw[hgrc];exact xJ hsb
  refine NT (PP ?_ hint rfl)
  refine Px rfl (il rfl) hl3 (gH Pd.C (eY (i:=5) rfl) d6 (by rw[dq,if_pos ⟨rfl,hlenb⟩]) (xu (Pd.C.base.inK wf) I.N.ni I.N.sS Pd.S hfmc ?_))
  have Pe:=Pd.keeps wf (ar sd (sd.toks+1))
  obtain⟨_,_,vsl,nsl,hlsl,_⟩:=Pe.S.info fc hfmc
  refine⟨"list", "list.append",Pn,Qp,Qq,hlsl.isList.typeIs,(fun b e=>by cases e;exact⟨_,hlsl,rfl⟩),?_⟩
  refine OD rfl (Oj (N7 (dL Pe.C (eY (i:=1) rfl) d2 ((mz (by decide)).trans hRP.2) fun u ru=>N4 ?_)))
  refine x11 (hZ ru) fun tu e1=>?_;subst e1
  refine EM Pe.S hjc (by have:=(xK hgsc).2 fc hfmc;lia) fun h' hsb' Sf=>?_
  refine N1 ?_
  have Pf:=Pe.upd (t:=sd.toks+1) wf ((mL hfmc).2.2) hsb'.extBut Sf (xF hjc rfl) ⟨rfl,rfl,rfl,rfl,rfl,rfl⟩
  refine hk _ _ _ _ Pf (fun b q=>.inl q) (fun b q=>?_) ⟨(mz (by decide)).trans hRP.1,(mz (by decide)).trans hRP.2⟩ ⟨by show Lc.x=_;rw[hxc,hxb],?_,?_⟩
  ·rcases q with q | q
   ·exact .inl q
   ·exact(GI.new b q).imp (Pb.hO b) id
  ·rw[xE Pe.S.keys hjc,hkeyc,hgrc,hgb,NB,hz,Option.toList_some,lT]
   rfl
  ·rw[xE Pe.S.keys hjc,show 1+2 * (n+1)=1+2 * n+1+1 by lia]
   exact EU hgsc
 ·refine cT hJe fun hxe hge U=>?_
  show NN _ _ (OG [] Re) _ _ _
  refine N1 (hnx _ ⟨rfl,Le,Pe.S,Pe.same,?_,?_,fun b hb=>?_⟩)
  ·rw[hge,af,Bw];rfl
  ·have k2:KM (fun b=>b∈L.addrs\/aS Re b) s s':=(KM.of k0).trans Pe.km
   obtain⟨h1,t1,rfl,k3,e3⟩:=k2
   exact⟨h1,t1,rfl,fun b o nb e=>k3 b o (fun q=>q.elim nb fun q=>by rw[im k0 (hSt b q)]at e;cases e) e,e3⟩
  ·exact(Pe.new b hb).imp id fun q=>im k0 q
end
noncomputable def jN:Str:=ofString "graph"
noncomputable def mS:List Str:=[aA,jN,aw,i7]
noncomputable def xL(P:Nat->Pos)(u1:List NW):List NW:=[.Assign [.Attribute (.Name aA (P 0)) (ofString "_node2info") (P 1)] (.Dict [] [] (P 2)) (P 3),.Assign [.Attribute (.Name aA (P 4)) (ofString "_ready_nodes") (P 5)] (.Constant .none 0 (P 6)) (P 7),.Assign [.Attribute (.Name aA (P 8)) (ofString "_npassedout") (P 9)] (.Constant (.int 0) 0 (P 10)) (P 11),.Assign [.Attribute (.Name aA (P 12)) (ofString "_nfinished") (P 13)] (.Constant (.int 0) 0 (P 14)) (P 15),
 .If (.Compare (.Name jN (P 16)) [.IsNot] [.Constant .none 0 (P 17)] (P 18)) u1 [] (P 19)]
inductive isTSInit(b:List NW):Prop where
 | mk (h1:b=xL BM BV):isTSInit b
structure TInfo(G:Glo)(fd:Of)(body:List NW):Prop where
 ts:eI G.K TS=true
 init:findIn G.K (.ref TS) "__init__" = some (some (.ref fT))
 isfn:typeIn G.K (.ref fT)=some (.type "function")
 FI:FnInfo G fT fd body [aA,jN] mS
 bind:∀(s:NL),G.K.In s.heap->∀v,BindsTo s fd ⟨[v],[]⟩ ([aA,jN].zip [v,.none])
 bd:isTSInit body
section
variable{G:Glo}{Re:Env}{sc:Scope}{Rc:List (Option Str)}{A:N0}{O:NQ->Prop}{ρ:List SV}{s s':NL}{E:NO->NL->Prop}
theorem EW(nm:Str)(hsh:Int)(key v:NO)(es:List PQ):(putL nm hsh key v es).length<=es.length+1:=by
 induction es with
 | nil=>exact bM _
 | cons e r ih =>
  unfold putL
  split
  ·simp
  ·simpa using ih
theorem kQ(m:Nat)(h:es.length<=m):(putL nm hsh key v es).length<=m+1 :=
 ae (EW ..) (Np h)
theorem pJ{v:NO}{Q:Unit->NL->Prop}(wf:G.Wf)(hc:eI G.K TS=true)(hn:nm∈pF)(C:Cond G Re sc Rc A O (fun U=>none) ρ s)(hx:s.heap.get? x=some (O4 TS dx))(hdx:s.heap.get? dx=some (PL es n))
 (hxd:x≠dx) (hdO:O dx) (hdS:¬aS Re dx) (hl:(getL nm es).isSome=true) (hz:es.length<=999)
 (h:∀s' hs tk m,KM (· = dx) s s'->Cond G Re sc Rc A O (fun U=>none) ρ s'->s'.heap.get? x=some (O4 TS dx)->s'.heap.get? dx=some (PL (putL nm hs (.str nm tk) v es) m)->Q () s'):NN (NP G.prog G.w) A (setAttr (.ref x) nm v) Q E s:=by
 refine g7 (sA hc hn) fun f1 f2 f3 f4 f5 f6=>?_
 have I:InstAt s.heap x (O4 TS dx) TS (some (PL es n)):=⟨hx,rfl,rfl,hdx⟩
 refine xm (C.base.inK wf) I rfl f5 f6 f3 f4 hl hz fun h' hsb hd=>?_
 have k:KM (· = dx) s { s with heap:=h',toks:=s.toks+2 }:=KM.chg hsb.extBut ⟨_,hd⟩ rfl
 exact h _ _ _ _ k (C.outer wf k (fun b q=>q▸hdO) fun b q=>q▸hdS) (hsb.extBut _ _ hxd hx) hd
theorem EY(wf:G.Wf)(N:TInfo G fd body)(ok:Okay A O s)(B:G.Base O s.heap)(hroom:A.depth+10<1000) :
 NN (NP G.prog G.w) A (call (.ref TS) []) (fun v s'=>∃L,v=.ref L.x/\NX s s'/\(∀b∈L.addrs,s.heap.get? b=none)/\SorAt G.prog G.w L s'.heap/\L.inf=[]/\L.rd=none/\L.po=0/\L.fi=0) E s:=by
 have X:=B.inK wf
 obtain⟨h,g,d,tk,os⟩:=s
 have hmk:makesIn G.K TS=true:=by
  have:=N.ts;unfold eI at this;simp only[e7]at this;exact this.1.1.1.1
 refine O1 (make_core (makes_of X hmk) (looks_findIn X N.init) (fun self=>bind_fn X self N.isfn) (.inl rfl) ?_)
 generalize hx:h.objs.size+1=x
 have hdx:((h.push OU).push (O4 TS h.objs.size)).get? h.objs.size=some OU:=NV _ (NZ _ rfl)
 have hxx:((h.push OU).push (O4 TS h.objs.size)).get? x=some (O4 TS h.objs.size):=by
  have:((h.push OU).push (O4 TS h.objs.size)).get? (h.push OU).objs.size=some (O4 TS h.objs.size):=NZ _ rfl
  rw[ON]at this
  rw[<- hx];exact this
 generalize hdd:h.objs.size=dx at hdx hxx hx ⊢
 generalize hh2:(h.push OU).push (O4 TS dx)=h2 at hdx hxx ⊢
 have hxd:x≠dx:=by rw[<- hx];exact Nat.succ_ne_self _
 have k02:NX ⟨h,g,d,tk,os⟩ ⟨h2,g,d,tk,os⟩:=⟨h2,tk,rfl,fun b o e=>hh2▸NV _ (NV _ e)⟩
 have fresh:∀b,@LE.le Nat _ dx b->h.get? b=none:=fun b hb=>by
  cases e:h.get? b with
  | none=>rfl
  | some o=>have:=N3 e;rw[hdd]at this;exact absurd this (fG.mpr hb)
 have hx0:h.get? x=none:=fresh x (by rw[<- hx];exact oF _)
 have hd0:h.get? dx=none:=fresh dx (bM _)
 have ok2:Okay A (fun b=>O b\/b=dx) ⟨h2,g,d,tk,os⟩:=⟨ok.hok.keeps k02,fun b hb q=>q.elim (ok.hno b hb) (fun z=>by
  refine x11 (ok.hok.there b hb) fun o e=>?_
  rw[z]at e
  have e':h.get? dx=some o:=e
  rw[hd0]at e';cases e'),fun b q=>by
  rcases q with q | rfl
  ·refine x11 (ok.obs b q) fun o e=>?_;exact⟨o,ai k02 b o e⟩
  ·exact⟨_,hdx⟩⟩
 have B2:G.Base (fun b=>O b\/b=dx) h2:=⟨fun b o e=>ai k02 b o (B.kp b o e),fun b q=>by
  rcases q with q | rfl
  ·exact B.off b q
  ·cases e:G.hB.get? b with
   | none=>rfl
   | some o=>have:h.get? b=some o:=B.kp b o e;rw[hd0]at this;cases this⟩
 refine xC (s:=⟨h2,g,d,tk,os⟩) (s':=⟨h2,g,d,tk,os⟩) (O:=fun b=>O b\/b=dx) (vs:=[.ref x,.none]) (ys:=[.val (.ref x),.dat .none]) (A:=A.under (.builtin "type.__call__" ⟨[.ref TS],[]⟩)) wf N.FI B2 ⟨ok2.hok,ok2.hno,ok2.obs⟩ B2 (fun i v y hv hy=>?_) rfl rfl ?_ (fun A Q E q=>N.bind ⟨h2,g,d,tk,os⟩ (B2.inK wf) (.ref x) _ A E Q q) fun Re O' s₁ k1 hO hO2 hSt hsto C E' Qf hret hnx=>?_
 ·exact mK (P:=eX G _ _) (.inr rfl) (.inl ⟨_,rfl,.none⟩) i v y hv hy
 ·rw[depth_under_kw];lia
 ·have bd:=N.bd
  obtain⟨hb⟩:=bd
  rw[hb]
  unfold xL
  have hds:¬aS Re dx:=fun q=>by have:=hSt dx q;rw[show(⟨h2,g,d,tk,os⟩:NL).heap.get? dx=h2.get? dx from rfl,hdx]at this;cases this
  have hdO:O' dx:=hO dx (.inr rfl)
  have hself:(mS.map some)[0]? = some (some aA):=rfl
  have hgr:(mS.map some)[1]? = some (some jN):=rfl
  have db1:(aA==ofString "__debug__")=false:=by decide +kernel
  have db2:(jN==ofString "__debug__")=false:=by decide +kernel
  have hr0:(cw mS [.val (.ref x),.dat .none]).getD 0 .un=.val (.ref x):=rfl
  have hr1:(cw mS [.val (.ref x),.dat .none]).getD 1 .un=.dat .none:=rfl
  have kf:∀ {s s':NL},NX ⟨h,g,d,tk,os⟩ s->KM (· = dx) s s'->NX ⟨h,g,d,tk,os⟩ s':=fun a b=>KM.keeps a b fun c q=>by
   have q:c=dx:=q
   rw[q];exact hd0
  have k01:=aO k02 k1
  refine NT (i6 (sc:=fd.scope) (O:=O') (ω:=fun U=>none) rfl hself db1 hr0 ?_)
  rw[eval_Dict_empty]
  refine NM (Od ?_)
  unfold newDict
  refine O7 ?_ (by size_fits)
  have kd:NX s₁ { s₁ with heap:=s₁.heap.push { cls:=.type "dict",data:=.dict #[] } }:=bz _
  refine⟨C.keeps wf kd,pJ wf N.ts (bH (by kernel_rfl)) (C.keeps wf kd) (ai kd _ _ (ai k1 _ _ hxx)) (es:=[]) (n:=0) (ai kd _ _ (ai k1 _ _ hdx)) hxd hdO hds rfl (by decide) fun s₂ hs1 tk1 m1 k2 C2 hx2 hd2=>?_⟩
  have hn2:s₁.heap.objs.size≠dx:=fun q=>by
   have:=N3 (ai k1 _ _ hdx)
   rw[<- q]at this;exact bj _ this
  have hn2x:s₁.heap.objs.size≠x:=fun q=>by
   have:=N3 (ai k1 _ _ hxx)
   rw[<- q]at this;exact bj _ this
  have hD1:({ s₁ with heap:=s₁.heap.push { cls:=.type "dict",data:=.dict #[] } }:NL).heap.DictOf (On G.prog G.w) s₁.heap.objs.size []:=Heap.DictOf.new _
  have hD2:s₂.heap.DictOf (On G.prog G.w) s₁.heap.objs.size []:=fn (fun o e=>k2.get _ o hn2 e) hD1
  have n20:h.get? s₁.heap.objs.size=none:=by
   cases e:h.get? s₁.heap.objs.size with
   | none=>rfl
   | some o=>exact absurd (N3 (ai k01 _ _ e)) (bj _)
  refine NT (i6 rfl hself db1 hr0 (O9 ⟨C2,pJ wf N.ts (bH (by kernel_rfl)) C2 hx2 hd2 hxd hdO hds rfl (ae (kQ 0 (cj 0)) (by decide)) fun s₃ hs2 tk2 m2 k3 C3 hx3 hd3=>?_⟩))
  refine NT (i6 rfl hself db1 hr0 (Pl ⟨C3.keeps wf (ar _ _),pJ wf N.ts (bH (by kernel_rfl)) (C3.keeps wf (ar _ _)) hx3 hd3 hxd hdO hds rfl (ae (kQ 1 (kQ 0 (cj 0))) (by decide)) fun s₄ hs3 j4 m3 k4 C4 hx4 hd4=>?_⟩))
  refine NT (i6 rfl hself db1 hr0 (Pl ⟨C4.keeps wf (ar _ _),pJ wf N.ts (bH (by kernel_rfl)) (C4.keeps wf (ar _ _)) hx4 hd4 hxd hdO hds rfl (ae (kQ 2 (kQ 1 (kQ 0 (cj 0)))) (by decide)) fun s₅ hs4 tk4 m4 k5 C5 hx5 hd5=>?_⟩))
  refine NT (Pr (OA (dL C5 hgr db2 hr1 fun v rv=>O9 ?_) rfl))
  have hv:v=.none:=by cases rv;rfl
  subst hv
  refine isNot_none (Oi ?_)
  show NN _ _ (OG [] Re) _ _ _
  refine N1 (N1 (hnx _ ⟨rfl,?_⟩))
  have K2:=kf (aO k01 kd) k2
  have K3:=kf K2 k3
  have K4:=kf (aO K3 (ar _ _)) k4
  have K5:=kf (aO K4 (ar _ _)) k5
  have hD5:s₅.heap.DictOf (On G.prog G.w) s₁.heap.objs.size []:=fn (fun o e=>k5.get _ o hn2 (k4.get _ o hn2 (k3.get _ o hn2 e))) hD2
  refine⟨⟨x,dx,s₁.heap.objs.size,[],none,0,0⟩,rfl,K5,fun b hb=>?_,⟨hx5,⟨_,_,_,_,_,_,_,_,_,_,_,hd5⟩,hD5,fun f hf=>(nomatch hf),fun r l e=>(nomatch e),?_⟩,rfl,rfl,rfl,rfl⟩
  ·exact io (P:=fun b=>h.get? b=none) hx0 (io hd0 (jI n20)) b hb
  ·exact Ey hxd (OW hn2x) (OW hn2)
end
inductive ItRaw(prog:Ol)(w:Og)(A:N0)(h₁ h₂:N9)(it:NO)(its:List NO):Prop where
 | mk (I:NQ) (fp wr:List NQ) (P:Nat->NO->Prop) (St:Nat->N9->Prop) (e:it=.ref I) (W:Walks prog w A I fp wr its.length P St) (st:St 0 h₂) (fe:∀b∈fp,∃o,h₂.get? b=some o) (wr':wr=[I]/\h₁.get? I=none)
  (jx:∀i h',St i h'->∃o T,h'.get? I=some o/\o.cls=.type T/\jx T=true) (mem:I∈fp) (item:∀i v,P i v->its[i]? = some v):ItRaw prog w A h₁ h₂ it its
theorem EZ{ρ:List SV}{i j:Nat}{y:SV}(h:j≠i):(ρ.set i y).getD j .un=ρ.getD j .un:=by
 rw[av,av,List.getElem?_set_ne (OW h)]
section
variable{G:Glo}{Re:Env}{sc:Scope}{Rc:List (Option Str)}{A:N0}{O O':NQ->Prop}{ω:NQ->Option Nat}{ρ:List SV}{s s' s₀ s₁ s₂:NL}{E:NO->NL->Prop}{D:NQ}{ds:List NR}
theorem ItRaw.toG(x:ItRaw G.prog G.w A h₀ h it its):ItG G.prog G.w A tgt its.length (fun i v U U=>its[i]? = some v) h₀ h it:=by
 obtain⟨I,fp,wr,P,St,rfl,W,hst,hfp,⟨rfl,hI⟩,htame,hIfp,hit⟩:=x
 exact⟨I,_,fp,St,rfl,LoopSrc.of W htame hit,hst,hfp,fun b q=>q▸hIfp,fun b q=>q▸hI⟩
end
section
variable{prog:Ol}{w:Og}{K:Type}[DecidableEq K]{knd:KeyKind prog w K}{A:N0}{E:NO->NL->Prop}{s:NL}
theorem E0{Q:Option NO->NL->Prop}(hh:aZ A s.heap)(hne:it∉hfp A)(hit:s.heap.IsValIter it d i kvs.length ep)
 (hm:s.heap.DictAt knd d kvs ep) (hx:kvs[i]? = none)
 (hQ:∀h',Ou it s.heap h'->Q none { s with heap:=h' }):NN (NP prog w) A (PA (.ref it)) Q E s:=by
 refine x13 (id hit) fun o ho hc hd=>?_
 refine x26 (id hm) fun od es hod hcd hdd hk hp hn=>?_
 have hT:s.TypeIs (.ref it) "dict_valueiterator":=⟨o,ho,hc⟩
 unfold PA
 refine NM (PN (O6 (name:=ofString "__next__") hT F.slot_dict_valueiterator_next
  (PJ F.slot_dict_valueiterator_next hT F.entry_dict_valueiterator_next ?_ (F.args_dict_valueiterator_next_1 _))))
 refine NM (NU ?_)
 refine NM ?_
 refine NM ?_
 first | refine NM (wpAny_typeNameOfWhole_valiter hT (NU ?_)) | refine NM (wpAny_typeNameOf_valiter hT (NU ?_))
 refine NM (wpAny_fieldsOf ho hd ?_)
 have hown:QE "dict_valueiterator" = false:=by decide
 rw[hown]
 show NN _ _ (if(N2 d==OB)=true then _ else _) _ _ s
 rw[if_neg (show ¬((N2 d==OB)=true)from MY)]
 refine NM (NU ?_)
 refine NM (wpAny_dictEntries hod hdd ?_)
 have hsz:es.size=kvs.length:=by rw[<- hp.length];simp
 rw[if_neg (by rw[hsz];simp)]
 refine NM (NU ?_)
 refine NM (wpAny_dictEpoch hod hdd ?_)
 rw[if_neg (by simp)]
 refine NU ?_
 have hge:es.size<=i:=by rw[hsz];simpa using hx
 dsimp only
 rw[if_neg (show ¬((i:Int)<0)from Int.not_lt.mpr (sT i)),kg,Qy hge]
 refine NM ?_
 first | refine NM (wpAny_typeNameOfWhole_valiter hT (NU ?_)) | refine NM (wpAny_typeNameOf_valiter hT (NU ?_))
 show NN _ _ (setField (.ref it) 0 .none >>= _) _ _ s
 refine NM (Pq ho hd (by simp) ?_)
 exact kA (A':=A.in1) (hh.upd (mo hne)) fun h' hk=>hQ h' fun b o hb e=>hk b o ((Om ..).extBut b o hb e)
theorem E1{h h':N9}{a d:NQ}{i n ep:Nat}(x:h.IsValIter a d i n ep)(e:∀o,h.get? a=some o->h'.get? a=some o):h'.IsValIter a d i n ep :=
 x.elim fun o ζ=>ζ.elim fun ho r=>⟨o,e _ ho,r⟩
theorem E2(I d:NQ)(hne:d≠I)(hI:I∉hfp A)(kvs:List (K × NO))(ep:Nat) :
 Walks prog w A I (I::d::hfp A) [I] (kvs.map (·.2)).length (fun i v=>(kvs.map (·.2))[i]? = some v) (fun i h=>(h.IsValIter I d i kvs.length ep/\h.DictAt knd d kvs ep)/\aZ A h) where
 sub:=fun b hb=>by simp at hb;simp[hb]
 frame:=fun U U U st hk=>⟨⟨E1 st.1.1 fun o e=>hk I (by simp) o e,mq st.1.2 fun o e=>hk d (by simp) o e⟩,st.2.frame fun b hb o e=>hk b (by simp[hb]) o e⟩
 item:=fun i s Q E hi st hQ=>by
  rw[af]at hi
  refine wpAny_pyNext_values_item st.1.1 st.1.2 (k:=(kvs[i]).1) (v:=(kvs[i]).2) (by simp[hi]) fun h' hit' hs'=>?_
  exact hQ _ h' s.toks (by simp[hi]) ⟨⟨hit',mq st.1.2 fun o e=>hs'.extBut _ _ hne e⟩,st.2.at hI hs'.extBut⟩ fun b o hb e=>hs'.extBut b o (fun h=>hb (by simp[h])) e
 done:=fun s Q E st hQ=>E0 st.2 hI st.1.1 st.1.2 (by simp) fun h' he'=>hQ h' s.toks fun b o hb e=>he' b o (fun h=>hb (by simp[h])) e
 self:=fun U U U U st hQ=>wpAny_pyIter_valiter st.1.1 hQ
end
section
variable{G:Glo}{Re:Env}{sc:Scope}{Rc:List (Option Str)}{A:N0}{O:NQ->Prop}{ρ:List SV}{s:NL}{E:NO->NL->Prop}{L:SLay}
theorem E4{i:Nat}{x:Str}{p1 p2 ap cp:Pos}(wf:G.Wf)(hc:eI G.K TS=true)(hsys:∃o,G.hB.get? OR=some o)(C:Cond G Re sc Rc A O (fun U=>none) ρ s)(S:SorAt G.prog G.w L s.heap)(hO:∀b∈L.addrs,O b)
 (hi:Rc[i]? = some (some x)) (hd:(x==ofString "__debug__")=false) (hy:ρ.getD i .un=.val (.ref L.x)) (hl:(ap.endLine==cp.line)=true) (E:NO->NL->Prop) :
 NN (NP G.prog G.w) A (N6 (.Call (.Attribute (.Attribute (.Name x p1) (ofString "_node2info") p2) (ofString "values") ap) [] [] cp) Re)
  (fun x s₁=>NX s s₁/\∀E,NN (NP G.prog G.w) A (pyIter x) (fun it s₂=>NX s₁ s₂/\ItRaw G.prog G.w A s₁.heap s₂.heap it (L.inf.map fun f=>.ref f.a)) E s₁) E s:=by
 have hsm:(L.n2i==OR)=false:=by
  rw[beq_eq_false_iff_ne]
  intro q
  refine x11 hsys fun o e=>?_
  have:=C.base.off L.n2i (hO L.n2i (by first | exact SLay.m2 | exact SLay.m1 | exact SLay.m0))
  rw[q,e]at this;cases this
 refine Call_method0 rfl hl (gH C hi hd hy (pG (C.base.inK wf) hc S ?_))
 have S2:SorAt G.prog G.w L ({ s with toks:=s.toks+1 }:NL).heap:=S
 have nd2:∀a,N2 L.n2i=.ref a->∃ob,s.heap.get? a=some ob/\ob.dict=none:=fun a e=>by
  cases e
  refine x33 S.n2i fun o es ep ho hc U=>?_
  exact⟨o,ho,hc.2.1⟩
 refine⟨"dict", "dict.values",F.plainAttrs_dict,F.slot_dict_values,F.type_dict_values,S2.n2i.typeIs,nd2,?_⟩
 refine method_meetsIn F.slot_dict_values F.entry_dict_values rfl (PySem.evalArgs_none ⟨rfl,S2.n2i.typeIs,F.args_dict_values_1 _,_,meets_dict_values (On G.prog G.w) L.n2i hsm,⟨_,S2.n2i⟩,?_⟩)
 have k:NX s { s with heap:=s.heap.push { cls:=.type "dict_values",data:=.fields #[.ref L.n2i] },toks:=s.toks+1 }:=aO (ar s (s.toks+1)) (bz (s:={ s with toks:=s.toks+1 }) _)
 refine⟨k,fun E=>?_⟩
 have S3:=eK S k
 refine x11 S3.n2i.dictAt fun ep hat=>?_
 refine wpAny_pyIter_values ⟨_,NZ _ rfl,rfl,rfl⟩ hat ⟨bz _,?_⟩
 have hmap:(L.inf.map fun f=>N2 f.a)=(L.inf.map fun f=>(f.key,N2 f.a)).map (·.2):=by rw[fk];rfl
 rw[hmap]
 have hI:s.heap.objs.size+1∉hfp A:=fun q=>by
  refine x11 (C.ok.hok.there _ q) fun o e=>?_
  exact absurd (N3 e) (fG.mpr (oF _))
 have hn2:L.n2i<s.heap.objs.size:=by
  refine x32 S.n2i fun o es ep ho U=>?_
  exact N3 ho
 have hz:(s.heap.push { cls:=.type "dict_values",data:=.fields #[.ref L.n2i] }).objs.size=s.heap.objs.size+1:=ON ..
 dsimp only
 generalize hN:(s.heap.push { cls:=.type "dict_values",data:=.fields #[.ref L.n2i] }).objs.size=N at hz ⊢
 have hIt:((s.heap.push { cls:=.type "dict_values",data:=.fields #[.ref L.n2i] }).push { cls:=.type "dict_valueiterator",data:=.fields #[.ref L.n2i,.int 0 0,.int (L.inf.map fun f=>(f.key,N2 f.a)).length 0,.int ep 0] }).get? N
  = some { cls:=.type "dict_valueiterator",data:=.fields #[.ref L.n2i,.int 0 0,.int (L.inf.map fun f=>(f.key,N2 f.a)).length 0,.int ep 0] }:=hN▸NZ _ rfl
 have hfr:(s.heap.push { cls:=.type "dict_values",data:=.fields #[.ref L.n2i] }).get? N=none:=by
  cases e:(s.heap.push { cls:=.type "dict_values",data:=.fields #[.ref L.n2i] }).get? N with
  | none=>rfl
  | some o=>exact absurd (N3 e) (by rw[hN];exact bj _)
 have hup:∀b o,s.heap.get? b=some o->((s.heap.push { cls:=.type "dict_values",data:=.fields #[.ref L.n2i] }).push { cls:=.type "dict_valueiterator",data:=.fields #[.ref L.n2i,.int 0 0,.int (L.inf.map fun f=>(f.key,N2 f.a)).length 0,.int ep 0] }).get? b=some o :=
  fun b o e=>NV _ (NV _ e)
 refine⟨N,_,_,_,_,rfl,E2 (knd:=On G.prog G.w) _ L.n2i (by rw[hz];exact nz (qW hn2)) (by rw[hz];exact hI) _ ep,⟨⟨⟨_,hIt,rfl,rfl⟩,hat.push _⟩,C.ok.hok.mono hup⟩,fun b hb=>?_,⟨rfl,hfr⟩,fun i h' q=>?_,by simp,fun i v e=>e⟩
 ·simp only[aa]at hb
  rcases hb with rfl | rfl | hb
  ·exact⟨_,hIt⟩
  ·refine x32 S.n2i fun o es ep ho U=>?_
   exact⟨o,hup _ _ ho⟩
  ·refine x11 (C.ok.hok.there b hb) fun o e=>?_
   exact⟨o,hup _ _ e⟩
 ·refine aj q fun z0 U=>?_;refine aj z0 fun z0 U=>?_;refine x13 z0 fun o e c U=>?_
  exact⟨o,_,e,c,by decide⟩
end
namespace B
theorem slot_li_ga:Slot "list_iterator" "__getattribute__" "object.__getattribute__" :=
 .of (owner:= "object") (n:= "__getattribute__") (by rw[OP,Os];kernel_rfl) (by decide +kernel) (by decide +kernel) (by decide +kernel)
  (by first | exact .inl (by decide +kernel) | exact .inr (by decide +kernel)) (by rw[OJ];kernel_rfl)
theorem entry_o_ga:entryFor table "object.__getattribute__" = some OX.«object.__getattribute__»:=entryFor_of_tree (by kernel_rfl)
theorem args_o_ga(a b:NO):argsOk "object.__getattribute__" ⟨[a,b],[]⟩:=by unfold argsOk;kernel_rfl
theorem lk_li_next:Pt (.type "list_iterator") "__next__" = pure (some (.builtin "list_iterator.__next__")):=by rw[OP,Os];kernel_rfl
theorem slot_wd_get:Slot "wrapper_descriptor" "__get__" "wrapper_descriptor.__get__" :=
 .of (owner:= "wrapper_descriptor") (n:= "__get__") (by rw[OP,Os];kernel_rfl) (by decide +kernel) (by decide +kernel) (by decide +kernel)
  (by first | exact .inl (by decide +kernel) | exact .inr (by decide +kernel)) (by rw[OJ];kernel_rfl)
theorem no_wd_set:Pt (.type "wrapper_descriptor") "__set__" = pure none:=by rw[OP,Os];kernel_rfl
theorem no_wd_del:Pt (.type "wrapper_descriptor") "__delete__" = pure none:=by rw[OP,Os];kernel_rfl
theorem entry_wd_get:entryFor table "wrapper_descriptor.__get__" = some OX.«wrapper_descriptor.__get__»:=entryFor_of_tree (by kernel_rfl)
theorem args_wd_get(a b c:NO):argsOk "wrapper_descriptor.__get__" ⟨[a,b,c],[]⟩:=by unfold argsOk;kernel_rfl
theorem typeOf_li_next:typeOf (.builtin "list_iterator.__next__")=pure (.type "wrapper_descriptor"):=by kernel_rfl
theorem sub_li_owner:PS (.type "list_iterator") (.type (".".intercalate ("list_iterator.__next__".cutAt '.').dropLast))=pure true:=by
 have e0 : "list_iterator.__next__".cutAt '.'=["list_iterator", "__next__"]:=by first | rfl | decide +kernel
 rw[e0,OJ];kernel_rfl
theorem li_getattr_none:Pt (.type "list_iterator") "__getattr__" = pure none:=by rw[OP,Os];kernel_rfl
end B
section
variable{prog:Ol}{w:Og}{A:N0}{E:NO->NL->Prop}{h:N9}{g:Array GenState}{d:Drawn}{t:Nat}{os:OsState}{a:NQ}{o:Obj}
noncomputable def cI(T id:String)(a:NQ):Obj:={ cls:=.type T,data:=.fields #[.builtin id,.ref a] }
theorem E5(hx:h.get? a=some o)(hc:o.cls=.type "list_iterator") (hq:R (.ok (.ret (.ref h.objs.size))) ⟨h.push (cI "method-wrapper" "list_iterator.__next__" a),g,d,t,os⟩) :
 O3 (NP prog w) A (.call (.builtin "wrapper_descriptor.__get__") ⟨[.builtin "list_iterator.__next__",.ref a,.type "list_iterator"],[]⟩) R ⟨h,g,d,t,os⟩:=by
 have hT:(⟨h,g,d,t,os⟩:NL).TypeIs (.ref a) "list_iterator":=⟨_,hx,hc⟩
 have hT5:(⟨h,g,d,t,os⟩:NL).TypeIs (.builtin "list_iterator.__next__") "wrapper_descriptor":=B.typeOf_li_next
 have f8:=B.sub_li_owner
 refine PF B.slot_wd_get.plain B.entry_wd_get (B.slot_wd_get.check _ _ _ _ _ _ _ _ hT5 (B.args_wd_get _ _ _) ?_)
 repeat (any_goals (first | assumption | wp_step))
theorem E6{tk:Tok}{vs:Array NO}{Q:Fin->NL->Prop}(hx:h.get? a=some { cls:=.type "list_iterator",data:=.fields vs }) (hq:Q (.done (.ret (.ref h.objs.size))) ⟨h.push (cI "method-wrapper" "list_iterator.__next__" a),g,d,t,os⟩) :
 NN (NP prog w) A (OX.«object.__getattribute__» ⟨[.ref a,.str "__next__" tk],[]⟩) Q E ⟨h,g,d,t,os⟩:=by
 have hT:(⟨h,g,d,t,os⟩:NL).TypeIs (.ref a) "list_iterator":=⟨_,hx,rfl⟩
 have hT5:(⟨h,g,d,t,os⟩:NL).TypeIs (.builtin "list_iterator.__next__") "wrapper_descriptor":=B.typeOf_li_next
 have f4:=B.lk_li_next
 have f5:=B.typeOf_li_next
 have f6:=B.slot_wd_get.lookup
 have f7:=B.no_wd_set
 have f8:=B.no_wd_del
 repeat (any_goals (first | assumption | wp_step))
 refine E5 hx rfl ?_
 repeat (any_goals (first | assumption | wp_step))
theorem E7{tk:Tok}{vs:Array NO}{R:Result->NL->Prop}(hx:h.get? a=some { cls:=.type "list_iterator",data:=.fields vs }) (hq:R (.ok (.ret (.ref h.objs.size))) ⟨h.push (cI "method-wrapper" "list_iterator.__next__" a),g,d,t,os⟩) :
 O3 (NP prog w) A (.call (.builtin "object.__getattribute__") ⟨[.ref a,.str "__next__" tk],[]⟩) R ⟨h,g,d,t,os⟩ :=
 PF B.slot_li_ga.plain B.entry_o_ga (B.slot_li_ga.check _ _ _ _ _ _ _ _ (show(⟨h,g,d,t,os⟩:NL).TypeIs (.ref a) "list_iterator" from⟨_,hx,rfl⟩) (B.args_o_ga _ _) (E6 hx hq))
theorem E8{vs:Array NO}{Q:NO->NL->Prop}(hx:h.get? a=some { cls:=.type "list_iterator",data:=.fields vs }) (hq:Q (.ref h.objs.size) ⟨h.push (cI "method-wrapper" "list_iterator.__next__" a),g,d,t+1,os⟩) :
 NN (NP prog w) A (PI (.ref a) "__next__" true) Q E ⟨h,g,d,t,os⟩:=by
 have hT:∀tk',(⟨h,g,d,tk',os⟩:NL).TypeIs (.ref a) "list_iterator":=fun U=>⟨_,hx,rfl⟩
 have f2:=B.slot_li_ga.lookup
 have f3:=B.slot_li_ga.bind (.ref a)
 have f5:=B.li_getattr_none
 unfold PI getAttrBy
 repeat (any_goals (first | assumption | exact hT _ | wp_step))
 refine E7 hx ?_
 repeat (any_goals (first | assumption | exact hT _ | wp_step))
noncomputable def E9(Q:NO->NL->Prop):PySem.Fin->NL->Prop
 | .done (.ret v),s=>Q v s
 | _,_=>False
theorem xM{m:NQ}{id:String}{rest:List NO}{b:OX}{Q:NO->NL->Prop}(hm:s.heap.get? m=some (cI "method-wrapper" id a)) (hk:builtinKind id=some .slot) (hb:entryFor table id=some b) (hq:plainId id=true) (ha:argsOk id ⟨.ref a::rest,[]⟩)
 (h:NN (NP prog w) A.in1 (b ⟨.ref a::rest,[]⟩) (E9 Q) E s):NN (NP prog w) A (call (.ref m) rest) Q E s:=by
 refine O1 (codeAny_of_tree ?_)
 show NN _ A.in1 (load m >>= _) _ _ s
 refine NM (wpAny_load hm ?_)
 show NN _ A.in1 (P0 id ⟨.ref a::rest,[]⟩ >>= fun U=>again (.builtin id ⟨.ref a::rest,[]⟩)) _ _ s
 have hcb:P0 id ⟨.ref a::rest,[]⟩=pure ():=by
  unfold P0
  rw[hk]
  unfold argsOk at ha
  cases hs:Qk id with
  | none=>rfl
  | some sig =>
   rw[hs]at ha
   exact ha
 rw[hcb]
 refine NM (NU (NU ⟨plainId_quiet hq _,Qn hb ?_⟩))
 rw[Qh hq]
 refine NS h (fun fin s' h'=>?_) fun U U e=>e
 cases fin with
 | done f=>cases f<;>first | exact h' | exact h'.elim
 | again c=>exact h'.elim
theorem B.kind_next:builtinKind "list_iterator.__next__" = some .slot:=by kernel_rfl
theorem B.plain_next:plainId "list_iterator.__next__" = true:=by decide +kernel
noncomputable def cz(sl:NQ)(i:Nat):Obj:={ cls:=.type "list_iterator",data:=.fields #[.ref sl,.int i 0] }
theorem Fa{m it l:NQ}{i:Nat}{items:Array NO}{Q:NO->NL->Prop}(hm:s.heap.get? m=some (cI "method-wrapper" "list_iterator.__next__" it)) (hit:s.heap.get? it=some (cz l i)) (hl:s.heap.IsList l items) (hx:items[i]? = some x)
 (hQ:∀h',h'.get? it=some (cz l (i+1))->OQ it s.heap h'->Q x { s with heap:=h' }):NN (NP prog w) A (call (.ref m) []) Q E s:=by
 obtain⟨ol,hol,_,nl,hdl⟩:=hl
 refine xM hm B.kind_next entry_listiter_next B.plain_next (args_listiter_next _) ?_
 show NN _ _ (field (.ref it) 0 >>= _) _ _ s
 refine NM (OS hit rfl (x:=.ref l) rfl ?_)
 show NN _ _ (if(N2 l==OB)=true then _ else _) _ _ s
 rw[if_neg (show ¬((N2 l==OB)=true)from MY)]
 show NN _ _ (field (.ref it) 1 >>= _) _ _ s
 refine NM (OS hit rfl (x:=.int i 0) rfl ?_)
 show NN _ _ (seqItems? (.ref l) >>= _) _ _ s
 refine NM (wpAny_seqItems hol hdl ?_)
 simp only[kg,hx]
 refine NM (Pq hit rfl (by simp) (NU (hQ _ ?_ (Om ..))))
 rw[Py _ hit (PX (Pu rfl _))]
 simp[cz,Obj.mapFields,rawInt]
noncomputable def Fb(h h':N9)(it e:NQ):Prop:=(∀b o,b≠it->h.get? b=some o->h'.get? b=some o)/\(∃o,h'.get? it=some o)/\h.get? e=none/\∃oe ve a0,h'.get? e=some oe/\oe.cls=.type "StopIteration"/\oe.data=.fields ve/\ve[0]? = some a0/\ve[1]? = some .none
theorem Fc{m it l:NQ}{i:Nat}{items:Array NO}{Q:NO->NL->Prop}(hh:aZ A s.heap)(hne:it∉hfp A)(hm:s.heap.get? m=some (cI "method-wrapper" "list_iterator.__next__" it)) (hit:s.heap.get? it=some (cz l i)) (hl:s.heap.IsList l items) (hx:items[i]? = none)
 (hE:∀h' e,Fb s.heap h' it e->E (.ref e) { s with heap:=h' }):NN (NP prog w) A (call (.ref m) []) Q E s:=by
 obtain⟨ol,hol,_,nl,hdl⟩:=hl
 refine xM hm B.kind_next entry_listiter_next B.plain_next (args_listiter_next _) ?_
 show NN _ _ (field (.ref it) 0 >>= _) _ _ s
 refine NM (OS hit rfl (x:=.ref l) rfl ?_)
 show NN _ _ (if(N2 l==OB)=true then _ else _) _ _ s
 rw[if_neg (show ¬((N2 l==OB)=true)from MY)]
 show NN _ _ (field (.ref it) 1 >>= _) _ _ s
 refine NM (OS hit rfl (x:=.int i 0) rfl ?_)
 show NN _ _ (seqItems? (.ref l) >>= _) _ _ s
 refine NM (wpAny_seqItems hol hdl ?_)
 simp only[kg,hx]
 refine NM (Qc (NM (Pq hit rfl (by simp) ?_)))
 have hit':=Py (Obj.mapFields (·.setIfInBounds 0 OB)) hit (PX (Pu rfl _))
 generalize hh1:s.heap.update it (Obj.mapFields (·.setIfInBounds 0 OB))=h1 at hit' ⊢
 have hsb:OQ it s.heap h1:=hh1▸Om ..
 have hh':aZ A h1:=hh.at hne hsb.extBut
 show NN _ _ (newExc (.type "StopIteration") [] >>= _) _ _ _
 refine NM ?_
 simp only[newExc,newTuple]
 refine NM (O7 ?_ (by size_fits))
 refine NM (m:=firstArgMember _ _) (PT (a:=OB) (by first | rfl | (simp only[firstArgMember];rfl)) ?_)
 refine O7 ?_ (by size_fits)
 have hup:∀b o,h1.get? b=some o->((h1.push { cls:=.type "tuple",data:=.seq ([]:List NO).toArray }).push { cls:=.type "StopIteration",data:=.fields #[.ref h1.objs.size,.none,.none,.none,.bool false,.none,.none] }).get? b=some o:=fun b o e=>NV _ (NV _ e)
 refine wn (A:=A.in1) (hh'.mono fun b o e=>NV _ (NV _ e)) (NZ _ rfl) rfl (by simp;lia) ?_ ?_
 ·intro e₀ he q
  rcases hh' with hh | ⟨e1,o,vs,hh,h1',_⟩
  ·rw[show A.in1.handled=A.handled from rfl,hh]at he;cases he
  ·rw[show A.in1.handled=A.handled from rfl,hh]at he;cases he
   rw[ON]at q
   exact nz (qW (N3 h1')) q
 ·intro h' o' ve' hs ho hc hd hz hv
  rw[ON]at hs ho ⊢
  have up:∀b o,h1.get? b=some o->h'.get? b=some o:=fun b o e=>by
   have hb:=N3 e
   rw[hs.2 b (nz (qW hb))]
   exact NV _ (NV _ e)
  refine hE h' _ ⟨fun b o n e=>up b o (hsb.extBut b o n e),⟨_,up _ _ hit'⟩,?_,o',ve',.ref h1.objs.size,ho,hc,hd,?_,?_⟩
  ·have hsz:h1.objs.size=s.heap.objs.size:=hsb.1
   rw[hsz]
   cases e:s.heap.get? (s.heap.objs.size+1)with
   | none=>rfl
   | some o=>exact absurd (N3 e) (fG.mpr (oF _))
  ·rw[hv 0 (by decide)];rfl
  ·rw[hv 1 (by decide)];rfl
end
noncomputable def eL(B:N9)(l:List Env)(a:NQ)(cls:NO)(h:N9):Prop :=
 B.StaysIn h/\B.get? a=none/\h.FunFrames B l/\((∃oe vs a0,h.get? a=some oe/\oe.cls=cls/\oe.data=.fields vs/\vs[0]? = some a0/\vs[1]? = some .none)\/∃a0,h.TracedW B a cls a0)
theorem xN:∀ {l:List Env},i5 l h->(∀b∈l.filterMap (·.frame),B.get? b=none)->h.FunFrames B l
 | [],_,_=>trivial
 | Re::r,x,y=>by
  obtain⟨hk,L,o,es,n,h1,h2,h3⟩:=x Re ag
  exact⟨hk,⟨L,o,h1,y L (by rw[Nm,h1];exact ag),h2,fun vs q=>by rw[h3]at q;cases q⟩,
   xN (fun e he=>x e (ay _ he)) fun b hb=>y b (by rw[Nm,h1];exact ay _ hb)⟩
theorem eL.there(x:eL B l a cls h):∃o,h.get? a=some o/\o.cls=cls:=by
 obtain⟨_,_,_,⟨oe,vs,a0,h1,h2,_⟩ | ⟨a0,oe,vs,T,oT,ts,h1,h2,_⟩⟩:=x
 ·exact⟨oe,h1,h2⟩
 ·exact⟨oe,h1,h2.1⟩
theorem eL.of(x:Heap.FlyingW B l a cls a0 h):eL B l a cls h:=⟨x.1,x.2.1,x.2.2.1,.inr ⟨a0,x.2.2.2⟩⟩
section
variable{M:Model}{A:N0}{E:NO->NL->Prop}{s:NL}{Re:Env}{outer:List Env}{L a:NQ}{cls:NO}{B:N9}
theorem sE{Q:Unit->NL->Prop}(hfr:A.frames=some (Re::outer))(hf:Re.frame=some L)(T:eL B (Re::outer) a cls s.heap)
 (hQ:∀h' a0,Qu B (Re::outer) a cls a0 L h'->s.heap.UpToSlots h'->Q () { s with heap:=h' }):NN M A (noteFrame (.ref a) Re) Q E s:=by
 obtain⟨t1,t2,t3,⟨oe,vs,a0,h1,h2,h3,h4,h5⟩ | ⟨a0,ht⟩⟩:=T
 ·subst h2
  unfold noteFrame
  simp only[hf]
  refine NM (OS h1 h3 h5 ?_)
  rw[if_neg (by decide)]
  refine wpAny_entryW hfr t3 hf h1 t1 t2 h3 (Array.getElem?_eq_some_iff.mp h5).1 h4 fun h' ζ=>ζ.elim fun n1 ζ=>ζ.elim fun n2 ζ=>ζ.elim fun n3 n4=>hQ h' a0 ⟨n1,t2,n2,n3⟩ n4
 ·exact wpAny_looks_onW hfr hf ⟨t1,t2,t3,ht⟩ fun h' hh hu=>hQ h' a0 hh hu
theorem Fd{Q:Unit->NL->Prop}(hfr:A.frames=some (Re::outer))(hf:Re.frame=some L)(T:eL B (Re::outer) a cls s.heap)
 (hQ:∀h',eL B outer a cls h'->s.heap.UpToSlots h'->Q () { s with heap:=h' }):NN M A (leaving Re (.ref a)) Q E s:=by
 obtain⟨t1,t2,t3,⟨oe,vs,a0,h1,h2,h3,h4,h5⟩ | ⟨a0,ht⟩⟩:=T
 ·subst h2
  refine wpAny_leaving_firstW hfr t3 hf h1 t1 t2 h3 h5 h4 fun h' ζ=>ζ.elim fun n1 ζ=>ζ.elim fun n2 ζ=>ζ.elim fun n3 n4=>hQ h' (.of (a0:=a0) ⟨n1,t2,n2.2.2,n3⟩) n4
 ·exact wpAny_leaves_onW hfr hf ⟨t1,t2,t3,ht⟩ fun h' hh hu=>hQ h' (.of hh) hu
end
section
variable{prog:Ol}{w:Og}{A:N0}{E:NO->NL->Prop}{s:NL}{Re:Env}{outer:List Env}{L:NQ}
theorem xO{body suite:List NW}{b₀:NW}{x:Str}{xp hp tp:Pos}{c:NO}{Q:Flow->NL->Prop}(hfr:A.frames=some (Re::outer))(hf:Re.frame=some L)
 (h:NN (NP prog w) A (OG body Re) Q (fun e s₁=>∃a B cls,e=.ref a/\eL B (Re::outer) a cls s₁.heap /\
  ∀h₂,B.StaysIn h₂->s₁.heap.UpToSlots h₂->(∃o,h₂.get? a=some o/\o.cls=cls)->∀E,
   NN (NP prog w) (A.mark (some (.ref a))) (N6 (.Name x xp) Re) (fun v s₃=>v=c/\s₃={ s₁ with heap:=h₂ } /\
    (∀(Q:Bool->NL->Prop) E,Q true { s₁ with heap:=h₂ }->NN (NP prog w) (A.mark (some (.ref a))) (excMatches (.ref a) c) Q E { s₁ with heap:=h₂ }) /\
    ∀h₄,B.StaysIn h₄->s₁.heap.UpToSlots h₄->eL B (Re::outer) a cls h₄->∀E,NN (NP prog w) (A.mark (some (.ref a))) (OG (b₀::suite) Re) Q E { s₁ with heap:=h₄ }) E { s₁ with heap:=h₂ }) s)
 (hn:∀s',Q .next s'->Q .next s') :
 NN (NP prog w) A (Oy (.Try body [.ExceptHandler (some (.Name x xp)) none (b₀::suite) hp] [] [] tp) Re) Q E s:=by
 refine wpAny_Try_except (NS h (fun f s₁ h₁=>?_) fun e s₁ h₁=>?_)
 ·cases f<;>first | exact h₁ | exact N1 h₁
 ·refine x33 h₁ fun a B cls e3 T k=>?_;subst e3
  refine sE hfr hf T fun h₁' a0 hh hu=>?_
  refine wpAny_landsW hh fun h₂ hfl hu₂=>?_
  have u2:=hu.trans hu₂
  refine wpAny_handleBy_cons (codeAny_handlers_test (NS (k h₂ hfl.1 u2 hfl.there _) (fun v s₃ h₃=>?_) fun U U e=>e)) (by intro q;cases q)
  refine eQ h₃ fun e0 e1 hm hs=>?_;subst e0;subst e1
  refine hm _ _ ?_
  refine codeAny_handlers_suite ?_
  refine lands_againW hfl fun h₄ hfl₄ hu₄=>?_
  exact hs h₄ hfl₄.1 (u2.trans hu₄) (.of hfl₄) _
end
structure LF(Re:Env)(sc:Scope)(Rc:List (Option Str))(ρ:List SV)(h:N9):Prop where
 eo:EnvOk Re sc
 co:CtxOk sc Rc
 len:ρ.length=Rc.length
 vars:∃val,FrameV Re h val/\∀(i:Nat) (x:Str) (v:NO),Rc[i]? = some (some x)->ρ.getD i .un=.val v->val x=some v
theorem Fe{h h':N9}{a:NQ}{m:Str->Option NO}(x:h.Ns a m)(k:∀o,h.get? a=some o->∃sl,h'.get? a=some { o with slots:=sl }):h'.Ns a m:=by
 refine x33 x fun o es ep h1 h2 h3=>?_
 refine x11 (k o h1) fun sl h4=>?_
 exact⟨_,es,ep,h4,h2,h3⟩
theorem Fg{h h':N9}{c:NQ}{v:Option NO}(x:h.IsCell c v)(k:∀o,h.get? c=some o->∃sl,h'.get? c=some { o with slots:=sl }):h'.IsCell c v:=by
 refine x12 x fun o h1 h2=>?_
 refine x11 (k o h1) fun sl h4=>?_
 exact⟨_,h4,h2⟩
theorem FrameV.slots{Re:Env}{h h':N9}{val:Str->Option NO}(F:FrameV Re h val)(k:∀b o,aS Re b->h.get? b=some o->∃sl,h'.get? b=some { o with slots:=sl }):FrameV Re h' val :=
 ⟨F.loc.elim fun m ζ=>ζ.elim fun h1 h2=>⟨m,Fe h1 fun o e=>k _ o (.inl rfl) e,h2⟩,fun x hx=>(F.cel x hx).elim fun c ζ=>ζ.elim fun h1 h2=>⟨c,h1,Fg h2 fun o e=>k _ o (.inr ⟨x,h1⟩) e⟩⟩
section
variable{prog:Ol}{w:Og}{Re:Env}{sc:Scope}{Rc:List (Option Str)}{A:N0}{ρ:List SV}{s:NL}{E:NO->NL->Prop}{h h':N9}
theorem LF.by(F:LF Re sc Rc ρ h)(k:∀b o,aS Re b->h.get? b=some o->∃sl,h'.get? b=some { o with slots:=sl }):LF Re sc Rc ρ h' :=
 ⟨F.eo,F.co,F.len,F.vars.elim fun val ζ=>ζ.elim fun f v=>⟨val,f.slots k,v⟩⟩
theorem LF.keeps(F:LF Re sc Rc ρ s.heap)(k:NX s s'):LF Re sc Rc ρ s'.heap:=F.by fun b o U e=>⟨o.slots,ai k b o e⟩
theorem LF.of(C:Cond G Re sc Rc A O ω ρ s):LF Re sc Rc ρ s.heap :=
 ⟨C.eo,C.co,C.len,let⟨val,f,v⟩:=C.vars;⟨val,f,fun i x u h1 h2=>by
  have:=v i x h1
  rw[h2]at this;exact this⟩⟩
theorem LF.ld(F:LF Re sc Rc ρ s.heap)(hi:Rc[i]? = some (some x))(hd:(x==ofString "__debug__")=false) (hy:ρ.getD i .un=.val v) (h:Q v s):NN (NP prog w) A (N6 (.Name x p) Re) Q E s:=by
 refine x12 F.vars fun val f V=>?_
 have hv:=V i x v hi hy
 refine O0 ?_ hd
 rcases F.co.kd i x hi with hk | hk | hk
 ·refine x12 f.loc fun m hn hm=>?_
  exact Qe F.eo.kindS ((F.eo.kindOf x).trans hk) hn ((hm x ((F.eo.kindOf x).trans hk)).trans hv) h
 ·refine x12 (f.cel x (.inl ((F.eo.kindOf x).trans hk))) fun c h1 h2=>?_
  exact wpAny_loadName_cell F.eo.kindS ((F.eo.kindOf x).trans hk) h1 (hv▸h2) h
 ·refine x12 (f.cel x (.inr ((F.eo.kindOf x).trans hk))) fun c h1 h2=>?_
  exact wpAny_loadName_free F.eo.kindS ((F.eo.kindOf x).trans hk) h1 (hv▸h2) h (F.eo.noclass x hk)
theorem LF.st{v:NO}{Q:Unit->NL->Prop}(F:LF Re sc Rc ρ s.heap)(hi:Rc[i]? = some (some x))(hk:sc.names.lookup x=some .local)
 (h:∀s',KM (· = Re.locals) s s'->LF Re sc Rc (ρ.set i (.val v)) s'.heap->Q () s'):NN (NP prog w) A (storeName Re x v) Q E s:=by
 refine x12 F.vars fun val f V=>?_
 have hk':=(F.eo.kindOf x).trans hk
 refine x12 f.loc fun m hn hm=>?_
 refine wpAny_storeName_local hk' hn (fun h' hn' hs'=>?_) (by rw[F.eo.kindS];rfl)
 have k:KM (· = Re.locals) s { s with heap:=h',toks:=s.toks+1 }:=KM.chg hs'.extBut (hn'.elim fun o ζ=>ζ.elim fun U ζ=>ζ.elim fun U ζ=>ζ.elim fun e U=>⟨o,e⟩) rfl
 refine h _ k ⟨F.eo,F.co,by simp[F.len],fun y=>if y=x then some v else val y,⟨⟨_,hn',fun y hy=>?_⟩,fun y hy=>?_⟩,fun j y u h1 h2=>?_⟩
 ·by_cases q:y=x
  ·simp[q]
  ·simp only[q,if_false];exact hm y hy
 ·refine x12 (f.cel y hy) fun c h1 h2=>?_
  have:y≠x:=fun q=>by subst q;rw[hk']at hy;rcases hy with hy | hy<;>cases hy
  rw[if_neg this]
  exact⟨c,h1,h2.sameBut hs' fun q=>rX hn (q▸h2)⟩
 ·rw[dq]at h2
  by_cases q:i=j
  ·subst q
   have:y=x:=by rw[hi]at h1;cases h1;rfl
   subst this
   have hl:i<ρ.length:=by rw[F.len];exact(dh.mp h1).1
   rw[if_pos ⟨rfl,hl⟩]at h2
   cases h2
   simp
  ·have:y≠x:=fun z=>q (F.co.inj i j x hi (z▸h1))
   rw[if_neg fun z=>q z.1]at h2
   simp only[this,if_false]
   exact V j y u h1 h2
theorem LF.sto{p:Pos}{v:NO}{Q:Unit->NL->Prop}(F:LF Re sc Rc ρ s.heap)(hi:Rc[i]? = some (some x))(hk:sc.names.lookup x=some .local)
 (h:∀s',KM (· = Re.locals) s s'->LF Re sc Rc (ρ.set i (.val v)) s'.heap->Q () s'):NN (NP prog w) A (Ox (.Name x p) Re v) Q E s :=
 Ot (F.st hi hk h)
end
structure Ent where
 m:NQ
 it:NQ
 sl:NQ
 pos:Nat
structure FCD where
 a1:NQ
 a2:NQ
 a3:NQ
 a4:NQ
 ks:List Int
 ms:List NQ
 es:List Ent
 sn:List Int
 ns:List (Int × Int)
 xs:List (NQ × Obj):=[]
noncomputable def bB(e:Ent):List NQ:=[e.m,e.it]
noncomputable def FCD.addrs(D:FCD):List NQ:=D.a1::D.a2::D.a3::D.a4::D.es.flatMap bB
theorem FCD.m1{D:FCD}:D.a1∈D.addrs:=.head _
theorem FCD.m2{D:FCD}:D.a2∈D.addrs:=.tail _ (.head _)
theorem FCD.m3{D:FCD}:D.a3∈D.addrs:=.tail _ (.tail _ (.head _))
theorem FCD.m4{D:FCD}:D.a4∈D.addrs:=.tail _ (.tail _ (.tail _ (.head _)))
theorem pK(D:FCD)(e:Ent):({ D with es:=D.es++[e] }:FCD).addrs=D.addrs++bB e :=
 congrArg (fun l=>D.a1::D.a2::D.a3::D.a4::l) (lO ..)
theorem xP(h:b∈(FCD.mk a1 a2 a3 a4 ks ms es sn ns xs).addrs):b∈(FCD.mk a1 a2 a3 a4 ks' ms' (es++[e]) sn' ns' xs').addrs :=
 (pK ⟨a1,a2,a3,a4,ks',ms',es,sn',ns',xs'⟩ e).symm▸cQ (bB e) h
theorem sF{D:FCD}{es:List Ent}{e:Ent}{i:Nat}(he:D.es=es++[e]):({ D with es:=es++[{ e with pos:=i }] }:FCD).addrs=D.addrs:=by
 unfold FCD.addrs
 rw[he]
 show _::_::_::_::(es++[_]).flatMap bB=_
 rw[lO,lO];rfl
theorem sG{b:NQ}{e:Ent}{P:Prop}(h:b∈bB e)(h1:b=e.m->P)(h2:b=e.it->P):P:=(aa.mp h).elim h1 fun q=>h2 (ah.mp q)
inductive Prs:List (Int × NO)->List (Int × Int)->Prop
 | nil:Prs [] []
 | cons (k i:Int) (t:Tok) {a b}:Prs a b->Prs ((k,.int i t)::a) ((k,i)::b)
theorem Prs.fst:∀ {a:List (Int × NO)} {b:List (Int × Int)},Prs a b->a.map (·.1)=b.map (·.1):=fun q=>by
 induction q with
 | nil=>rfl
 | cons k i t r ih=>exact congrArg (List.cons k) ih
theorem Prs.len(h:Prs a b):a.length=b.length:=by
 have:=congrArg List.length h.fst
 simpa using this
theorem Prs.snoc(q:Prs a b):Prs (a++[(k,.int i t)]) (b++[(k,i)]):=by
 induction q with
 | nil=>exact .cons k i t .nil
 | cons k' i' t' r ih=>exact .cons k' i' t' ih
theorem Prs.at:∀ {a:List (Int × NO)} {b:List (Int × Int)} {i:Int},Prs a b->(b.find? fun p=>p.1=k)=some (k,i)->∃t,OM a k=some (.int i t):=fun{a b i} q=>by
 induction q with
 | nil=>exact fun h=>nomatch h
 | cons k' i' t' r ih =>
  intro h
  unfold OM
  rw[L8]at h ⊢
  by_cases q:k'=k
  ·simp only[q,decide_true]at h ⊢
   cases h
   exact⟨t',rfl⟩
  ·simp only[q,decide_false]at h ⊢
   exact ih h
theorem Prs.filt(z:Prs a b):Prs (a.filter fun p=>decide (p.1≠k)) (b.filter fun p=>decide (p.1≠k)):=by
 induction z with
 | nil=>exact .nil
 | cons k' i' t' r ih =>
  rw[oB,oB]
  by_cases q:k'=k
  ·rw[if_neg (by rw[decide_eq_false fun z=>z q];exact MY),if_neg (by rw[decide_eq_false fun z=>z q];exact MY)];exact ih
  ·rw[if_pos (decide_eq_true q),if_pos (decide_eq_true q)];exact .cons k' i' t' ih
structure FC(prog:Ol)(w:Og)(D:FCD)(h:N9):Prop where
 stk:∃vs n,IsL h D.a1 vs n/\Pa vs.toList D.ks
 its:∃n,IsL h D.a2 (D.ms.map N2).toArray n
 seen:∃n,h.SetOf (On prog w) D.a3 (fun k=>decide (k∈D.sn)) n/\n<=D.sn.length
 n2s:∃kvs,h.DictOf (On prog w) D.a4 kvs/\Prs kvs D.ns
 ent:∀e∈D.es,h.get? e.m=some (cI "method-wrapper" "list_iterator.__next__" e.it)/\h.get? e.it=some (cz e.sl e.pos)
 nd:D.addrs.Nodup
 ext:∀p∈D.xs,h.get? p.1=some p.2
 ap:∀p∈D.xs,p.1∉D.addrs
theorem kR{prog:Ol}{w:Og}{h h':N9}{a:NQ}{S:Int->Bool}{n:Nat}(x:h.SetOf (On prog w) a S n)(e:∀o,h.get? a=some o->h'.get? a=some o):h'.SetOf (On prog w) a S n :=
 x.elim fun o ζ=>ζ.elim fun es ζ=>ζ.elim fun ep ζ=>ζ.elim fun t ζ=>ζ.elim fun h1 r=>⟨o,es,ep,t,e o h1,r⟩
section
variable{prog:Ol}{w:Og}{D D':FCD}{h h':N9}
theorem mT(he:e∈D.es):e.m∈D.addrs/\e.it∈D.addrs:=by
 have:∀c∈bB e,c∈D.es.flatMap bB:=fun c hc=>dF.mpr ⟨e,he,hc⟩
 simp only[FCD.addrs,aa]
 exact⟨.inr (.inr (.inr (.inr (this _ (by simp[bB]))))),.inr (.inr (.inr (.inr (this _ (by simp[bB])))))⟩
theorem FC.there(x:FC prog w D h)(hc:c∈D.addrs):∃o,h.get? c=some o:=by
 simp only[FCD.addrs,aa]at hc
 rcases hc with rfl | rfl | rfl | rfl | hc
 ·refine x22 x.stk fun vs n e U=>?_;exact⟨_,e⟩
 ·refine x11 x.its fun n e=>?_;exact⟨_,e⟩
 ·refine x12 x.seen fun n z1 U=>?_;refine x42 z1 fun o U U U e U=>?_;exact⟨o,e⟩
 ·refine x12 x.n2s fun kvs z1 U=>?_;refine x32 z1 fun o U U e U=>?_;exact⟨o,e⟩
 ·refine x12 (dF.mp hc) fun f hf hc=>?_
  refine aj (x.ent f hf) fun e1 e2=>?_
  simp only[bB,aa,iJ,or_false]at hc
  rcases hc with rfl | rfl
  ·exact⟨_,e1⟩
  ·exact⟨_,e2⟩
noncomputable def FCD.all(D:FCD):List NQ:=D.addrs++D.xs.map (·.1)
theorem FCD.all_l(h:c∈D.addrs):c∈D.all:=cQ _ h
theorem FCD.all_r(h:p∈D.xs):p.1∈D.all:=cG _ (aJ.mpr ⟨p,h,rfl⟩)
theorem FC.keeps(x:FC prog w D h)(k':∀b o,b∈D.all->h.get? b=some o->h'.get? b=some o):FC prog w D h' :=
 have k:∀b o,b∈D.addrs->h.get? b=some o->h'.get? b=some o:=fun b o q=>k' b o (FCD.all_l q)
{
 stk:=let⟨vs,n,e,r⟩:=x.stk;⟨vs,n,k _ _ (by first | exact FCD.m1 | exact FCD.m2 | exact FCD.m3 | exact FCD.m4) e,r⟩
 its:=let⟨n,e⟩:=x.its;⟨n,k _ _ (by first | exact FCD.m1 | exact FCD.m2 | exact FCD.m3 | exact FCD.m4) e⟩
 seen:=let⟨n,e,r⟩:=x.seen;⟨n,kR e fun o q=>k _ o (by first | exact FCD.m1 | exact FCD.m2 | exact FCD.m3 | exact FCD.m4) q,r⟩
 n2s:=let⟨kvs,e,r⟩:=x.n2s;⟨kvs,fn (fun o q=>k _ o (by first | exact FCD.m1 | exact FCD.m2 | exact FCD.m3 | exact FCD.m4) q) e,r⟩
 ent:=fun e he=>⟨k _ _ (mT he).1 (x.ent e he).1,k _ _ (mT he).2 (x.ent e he).2⟩
 nd:=x.nd
 ext:=fun p hp=>k' _ _ (FCD.all_r hp) (x.ext p hp)
 ap:=x.ap }
theorem FCD.ne(h:D.addrs.Nodup):(D.a1≠D.a2/\D.a1≠D.a3/\D.a1≠D.a4/\D.a2≠D.a3/\D.a2≠D.a4/\D.a3≠D.a4)/\(∀c∈D.es.flatMap bB,c≠D.a1/\c≠D.a2/\c≠D.a3/\c≠D.a4)/\(D.es.flatMap bB).Nodup:=by
 simp only[FCD.addrs,bq,aa,not_or]at h
 refine BH h fun z0 z1 z2 n10 n11=>?_;refine eQ z0 fun n1 n2 n3 n4=>?_;refine cT z1 fun n5 n6 n7=>?_;refine aj z2 fun n8 n9=>?_
 exact⟨⟨n1,n2,n3,n5,n6,n8⟩,fun c hc=>⟨fun q=>n4 (q▸hc),fun q=>n7 (q▸hc),fun q=>n9 (q▸hc),fun q=>n10 (q▸hc)⟩,n11⟩
theorem gI(he:e∈D.es):e.m∈D.es.flatMap bB/\e.it∈D.es.flatMap bB :=
 ⟨dF.mpr ⟨e,he,by simp[bB]⟩,dF.mpr ⟨e,he,by simp[bB]⟩⟩
theorem FC.upd1{ks:List Int}(x:FC prog w D h)(s:Ou D.a1 h h')(y:∃vs n,IsL h' D.a1 vs n/\Pa vs.toList ks):FC prog w { D with ks:=ks } h':=by
 refine cT (FCD.ne x.nd) fun z0 nn U=>?_;refine g7 z0 fun n1 n2 n3 n5 n6 n8=>?_
 exact⟨y,x.its.elim fun n e=>⟨n,s _ _ (OW n1) e⟩,x.seen.elim fun n ζ=>ζ.elim fun e r=>⟨n,kR e fun o q=>s _ o (OW n2) q,r⟩,x.n2s.elim fun kvs ζ=>ζ.elim fun e r=>⟨kvs,fn (fun o q=>s _ o (OW n3) q) e,r⟩,
  fun e he=>⟨s _ _ (nn _ (gI he).1).1 (x.ent e he).1,s _ _ (nn _ (gI he).2).1 (x.ent e he).2⟩,x.nd,fun p hp=>s _ _ (fun q=>x.ap p hp (q▸by first | exact FCD.m1 | exact FCD.m2 | exact FCD.m3 | exact FCD.m4)) (x.ext p hp),x.ap⟩
theorem FC.upd2(x:FC prog w D h)(s:Ou D.a2 h h')(y:∃n,IsL h' D.a2 (ms.map N2).toArray n):FC prog w { D with ms:=ms } h':=by
 refine cT (FCD.ne x.nd) fun z0 nn U=>?_;refine g7 z0 fun n1 n2 n3 n5 n6 n8=>?_
 exact⟨x.stk.elim fun vs ζ=>ζ.elim fun n ζ=>ζ.elim fun e r=>⟨vs,n,s _ _ n1 e,r⟩,y,x.seen.elim fun n ζ=>ζ.elim fun e r=>⟨n,kR e fun o q=>s _ o (OW n5) q,r⟩,x.n2s.elim fun kvs ζ=>ζ.elim fun e r=>⟨kvs,fn (fun o q=>s _ o (OW n6) q) e,r⟩,
  fun e he=>⟨s _ _ (nn _ (gI he).1).2.1 (x.ent e he).1,s _ _ (nn _ (gI he).2).2.1 (x.ent e he).2⟩,x.nd,fun p hp=>s _ _ (fun q=>x.ap p hp (q▸by first | exact FCD.m1 | exact FCD.m2 | exact FCD.m3 | exact FCD.m4)) (x.ext p hp),x.ap⟩
theorem FC.upd3(x:FC prog w D h)(s:Ou D.a3 h h')(y:∃n,h'.SetOf (On prog w) D.a3 (fun k=>decide (k∈sn)) n/\n<=sn.length):FC prog w { D with sn:=sn } h':=by
 refine cT (FCD.ne x.nd) fun z0 nn U=>?_;refine g7 z0 fun n1 n2 n3 n5 n6 n8=>?_
 exact⟨x.stk.elim fun vs ζ=>ζ.elim fun n ζ=>ζ.elim fun e r=>⟨vs,n,s _ _ n2 e,r⟩,x.its.elim fun n e=>⟨n,s _ _ n5 e⟩,y,x.n2s.elim fun kvs ζ=>ζ.elim fun e r=>⟨kvs,fn (fun o q=>s _ o (OW n8) q) e,r⟩,
  fun e he=>⟨s _ _ (nn _ (gI he).1).2.2.1 (x.ent e he).1,s _ _ (nn _ (gI he).2).2.2.1 (x.ent e he).2⟩,x.nd,fun p hp=>s _ _ (fun q=>x.ap p hp (q▸by first | exact FCD.m1 | exact FCD.m2 | exact FCD.m3 | exact FCD.m4)) (x.ext p hp),x.ap⟩
theorem FC.upd4(x:FC prog w D h)(s:Ou D.a4 h h')(y:∃kvs,h'.DictOf (On prog w) D.a4 kvs/\Prs kvs ns):FC prog w { D with ns:=ns } h':=by
 refine cT (FCD.ne x.nd) fun z0 nn U=>?_;refine g7 z0 fun n1 n2 n3 n5 n6 n8=>?_
 exact⟨x.stk.elim fun vs ζ=>ζ.elim fun n ζ=>ζ.elim fun e r=>⟨vs,n,s _ _ n3 e,r⟩,x.its.elim fun n e=>⟨n,s _ _ n6 e⟩,x.seen.elim fun n ζ=>ζ.elim fun e r=>⟨n,kR e fun o q=>s _ o n8 q,r⟩,y,
  fun e he=>⟨s _ _ (nn _ (gI he).1).2.2.2 (x.ent e he).1,s _ _ (nn _ (gI he).2).2.2.2 (x.ent e he).2⟩,x.nd,fun p hp=>s _ _ (fun q=>x.ap p hp (q▸by first | exact FCD.m1 | exact FCD.m2 | exact FCD.m3 | exact FCD.m4)) (x.ext p hp),x.ap⟩
theorem FC.addE(x:FC prog w D h)(h1:h.get? e.m=some (cI "method-wrapper" "list_iterator.__next__" e.it)) (h2:h.get? e.it=some (cz e.sl e.pos)) (hn:e.m≠e.it) (hm:e.m∉D.addrs) (hi:e.it∉D.addrs) (hx:∀p∈D.xs,p.1≠e.m/\p.1≠e.it) :
 FC prog w { D with es:=D.es++[e] } h:=by
 refine⟨x.stk,x.its,x.seen,x.n2s,fun f hf=>?_,?_,x.ext,fun p hp q=>?_⟩
 rotate_left 2
 ·rw[pK]at q
  exact(aI.mp q).elim (x.ap p hp) fun q=>sG q (hx p hp).1 (hx p hp).2
 ·rcases aI.mp hf with hf | hf
  ·exact x.ent f hf
  ·rw[ah.mp hf];exact⟨h1,h2⟩
 ·rw[pK]
  refine c7.mpr ⟨x.nd,?_,fun c hc d hd q=>sG hd (fun z=>hm (z▸q▸hc)) fun z=>hi (z▸q▸hc)⟩
  exact bq.mpr ⟨fun z=>hn (ah.mp z),bq.mpr ⟨fun z=>(nomatch z),.nil⟩⟩
theorem xQ(h:((es++[e]).flatMap bB).Nodup)(hf:f∈es):f.m≠e.m/\f.m≠e.it/\f.it≠e.m/\f.it≠e.it:=by
 rw[lO,c7]at h
 refine cT h fun U U h3=>?_
 have m:∀c∈bB f,c∈es.flatMap bB:=fun c hc=>dF.mpr ⟨f,hf,hc⟩
 exact⟨h3 _ (m _ (by simp[bB])) _ (by simp[bB]),h3 _ (m _ (by simp[bB])) _ (by simp[bB]),h3 _ (m _ (by simp[bB])) _ (by simp[bB]),h3 _ (m _ (by simp[bB])) _ (by simp[bB])⟩
theorem FC.nextE(x:FC prog w D h)(he:D.es=es++[e])(s:Ou e.it h h')(h2:h'.get? e.it=some (cz e.sl (e.pos+1))):FC prog w { D with es:=es++[{ e with pos:=e.pos+1 }] } h':=by
 refine cT (FCD.ne x.nd) fun z0 nn nd=>?_;refine g7 z0 fun n1 n2 n3 n5 n6 n8=>?_
 have hm:e∈D.es:=by rw[he];simp
 have nn':=nn _ (gI hm).2
 have hem:e.m≠e.it:=by
  rw[he,lO,c7]at nd
  have:=nd.2.1
  simp[bB]at this;exact this
 refine⟨x.stk.elim fun vs ζ=>ζ.elim fun n ζ=>ζ.elim fun e r=>⟨vs,n,s _ _ (OW nn'.1) e,r⟩,x.its.elim fun n e=>⟨n,s _ _ (OW nn'.2.1) e⟩,x.seen.elim fun n ζ=>ζ.elim fun e r=>⟨n,kR e fun o q=>s _ o (OW nn'.2.2.1) q,r⟩,x.n2s.elim fun kvs ζ=>ζ.elim fun e r=>⟨kvs,fn (fun o q=>s _ o (OW nn'.2.2.2) q) e,r⟩,fun f hf=>?_,?_,fun p hp=>s _ _ (fun q=>x.ap p hp (q▸(mT hm).2)) (x.ext p hp),fun p hp q=>x.ap p hp ?_⟩
 ·rcases aI.mp hf with hf | hf
  ·refine eQ (xQ (he▸nd) hf) fun q1 q2 q3 q4=>?_
   have:=x.ent f (by rw[he];exact cQ _ hf)
   exact⟨s _ _ q2 this.1,s _ _ q4 this.2⟩
  ·rw[ah.mp hf]
   exact⟨s _ _ hem (x.ent e hm).1,h2⟩
 ·have:({ D with es:=es++[{ e with pos:=e.pos+1 }] }:FCD).addrs=D.addrs:=sF he
  rw[this];exact x.nd
 ·have:({ D with es:=es++[{ e with pos:=e.pos+1 }] }:FCD).addrs=D.addrs:=sF he
  rw[this]at q;exact q
theorem FC.stopE(x:FC prog w D h)(he:D.es=es++[e])(s:Ou e.it h h'):FC prog w { D with es:=es } h':=by
 refine cT (FCD.ne x.nd) fun z0 nn nd=>?_;refine g7 z0 fun n1 n2 n3 n5 n6 n8=>?_
 have hm:e∈D.es:=by rw[he];simp
 have nn':=nn _ (gI hm).2
 refine⟨x.stk.elim fun vs ζ=>ζ.elim fun n ζ=>ζ.elim fun e r=>⟨vs,n,s _ _ (OW nn'.1) e,r⟩,x.its.elim fun n e=>⟨n,s _ _ (OW nn'.2.1) e⟩,x.seen.elim fun n ζ=>ζ.elim fun e r=>⟨n,kR e fun o q=>s _ o (OW nn'.2.2.1) q,r⟩,x.n2s.elim fun kvs ζ=>ζ.elim fun e r=>⟨kvs,fn (fun o q=>s _ o (OW nn'.2.2.2) q) e,r⟩,fun f hf=>?_,?_,fun p hp=>s _ _ (fun q=>x.ap p hp (q▸(mT hm).2)) (x.ext p hp),fun p hp q=>x.ap p hp ?_⟩
 ·refine eQ (xQ (he▸nd) hf) fun q1 q2 q3 q4=>?_
  have:=x.ent f (by rw[he];exact cQ _ hf)
  exact⟨s _ _ q2 this.1,s _ _ q4 this.2⟩
 ·have hs:({ D with es:=es }:FCD).addrs.Sublist D.addrs:=by
   simp only[FCD.addrs,he,lO]
   exact((((List.sublist_append_left _ _).cons_cons _).cons_cons _).cons_cons _).cons_cons _
  exact x.nd.sublist hs
 ·have hs:({ D with es:=es }:FCD).addrs.Sublist D.addrs:=by
   simp only[FCD.addrs,he,lO]
   exact((((List.sublist_append_left _ _).cons_cons _).cons_cons _).cons_cons _).cons_cons _
  exact hs.subset q
end
noncomputable def iq:Str:=ofString "n2i"
noncomputable def eZ:Str:=ofString "stack"
noncomputable def iu:Str:=ofString "itstack"
noncomputable def i8:Str:=ofString "seen"
noncomputable def gK:Str:=ofString "node2stacki"
noncomputable def iw:List Str:=[aA,iq,eZ,iu,i8,gK,aw]
noncomputable def jO:List (Option Str):=iw.map some
theorem Fh:iw.all (fun x=>!(x==ofString "__debug__"))=true:=by decide +kernel
theorem sH{i:Nat}{x:Str}(e:iw[i]? = some x):jO[i]? = some (some x):=by rw[jO,cu,e];rfl
structure FE(G:Glo)(L:SLay)(Re:Env)(sc:Scope)(A:N0)(outer:List Env)(s₁:NL):Prop where
 wf:G.Wf
 ts:eI G.K TS=true
 ni:fy G.K NI=true
 sS:dK G.K NI (ofString "successors") pS 2=true
 sys:∃o,G.hB.get? OR=some o
 hfr:A.frames=some (Re::outer)
 hL:Re.frame=some Re.locals
 frs:i5 (Re::outer) s₁.heap
 hok:aZ A s₁.heap
 hfp:∀b∈hfp A,¬al A b
 S:SorAt G.prog G.w L s₁.heap
 hS:∀b∈L.addrs,¬al A b
 B:∀b o,G.hB.get? b=some o->s₁.heap.get? b=some o
 hB:∀b,al A b->G.hB.get? b=none
 hBL:G.hB.get? L.n2i=none
 sto:∀b,aS Re b->∃o,s₁.heap.get? b=some o
 eo:EnvOk Re sc
 gl:∀x∈[ofString "set",ofString "iter",ofString "len",ofString "StopIteration"],bO sc x=true
 loc:∀x∈iw,sc.names.lookup x=some .local
 clo:∀f∈L.inf,∀n∈f.su,∃f'∈L.inf,f'.key=n
 sm:L.inf.length<=1000
 room:A.depth+20<1000
noncomputable def kU(L:SLay)(D:FCD)(y:SV):List SV:=[.val (.ref L.x),.val (.ref L.n2i),.val (.ref D.a1),.val (.ref D.a2),.val (.ref D.a3),.val (.ref D.a4),y]
structure FI(G:Glo)(L:SLay)(Re:Env)(sc:Scope)(A:N0)(s₁:NL)(D:FCD)(y:SV)(s:NL):Prop where
 lf:LF Re sc jO (kU L D y) s.heap
 fc:FC G.prog G.w D s.heap
 ks:KS (al A) (· = Re.locals) s₁ s
 new:∀c∈D.all,s₁.heap.get? c=none
section
variable{G:Glo}{L:SLay}{Re:Env}{sc:Scope}{A A':N0}{outer:List Env}{s₁ s s':NL}{D D':FCD}{y y':SV}{E:NO->NL->Prop}
theorem FE.own(e:FE G L Re sc A outer s₁):al A Re.locals:=⟨_,e.hfr,Nw.mpr ⟨Re,ag,e.hL⟩⟩
theorem FE.fdict(e:FE G L Re sc A outer s₁)(hb:al A b):∃o,s₁.heap.get? b=some o:=by
 refine x12 hb fun l e1 h=>?_
 rw[e.hfr]at e1;cases e1
 refine x12 (Nw.mp h) fun v hv hf=>?_
 obtain⟨_,L',o,es,n,h1,h2,h3⟩:=e.frs v hv
 rw[h1]at hf;cases hf
 exact⟨o,h2⟩
theorem FI.get(e:FE G L Re sc A outer s₁)(I:FI G L Re sc A s₁ D y s):∀b o,¬al A b->s₁.heap.get? b=some o->s.heap.get? b=some o :=
 fun b o n q=>I.ks.get b o (fun z=>n (z▸e.own)) n q
theorem FI.S(e:FE G L Re sc A outer s₁)(I:FI G L Re sc A s₁ D y s):SorAt G.prog G.w L s.heap:=e.S.keeps fun b o hb q=>I.get e b o (e.hS b hb) q
theorem FI.kp(e:FE G L Re sc A outer s₁)(I:FI G L Re sc A s₁ D y s):∀b o,G.hB.get? b=some o->s.heap.get? b=some o :=
 fun b o q=>I.get e b o (fun z=>by rw[e.hB b z]at q;cases q) (e.B b o q)
theorem FI.inK(e:FE G L Re sc A outer s₁)(I:FI G L Re sc A s₁ D y s):G.K.In s.heap:=fun a o q=>I.kp e a o (e.wf.K a o q)
theorem FI.base(e:FE G L Re sc A outer s₁)(I:FI G L Re sc A s₁ D y s):G.Base (fun U=>False) s.heap:=⟨I.kp e,fun U q=>q.elim⟩
theorem FI.hok(e:FE G L Re sc A outer s₁)(I:FI G L Re sc A s₁ D y s):aZ A s.heap:=e.hok.frame fun b hb o q=>I.get e b o (e.hfp b hb) q
theorem FI.notS(e:FE G L Re sc A outer s₁)(I:FI G L Re sc A s₁ D y s)(hc:c∈D.all):¬aS Re c:=fun q=>by
 refine x11 (e.sto c q) fun o h=>?_
 rw[I.new c hc]at h;cases h
theorem FI.notF(e:FE G L Re sc A outer s₁)(I:FI G L Re sc A s₁ D y s)(hc:c∈D.all):¬al A c:=fun q=>by
 refine x11 (e.fdict q) fun o h=>?_
 rw[I.new c hc]at h;cases h
theorem FI.keeps(I:FI G L Re sc A s₁ D y s)(k:NX s s'):FI G L Re sc A s₁ D y s' :=
 ⟨I.lf.keeps k,I.fc.keeps fun b o U q=>ai k b o q,I.ks.trans (KS.of (KM.of k)),I.new⟩
theorem FI.chg{t:Nat}(e:FE G L Re sc A outer s₁)(I:FI G L Re sc A s₁ D y s)(hc:c∈D.addrs)(k:Ou c s.heap h')(ho:∃o,h'.get? c=some o)(fc:FC G.prog G.w D' h')(hr:kU L D' y=kU L D y)(hx:D'.xs=D.xs)
 (hn:∀b∈D'.addrs,b∈D.addrs\/s.heap.get? b=none):FI G L Re sc A s₁ D' y { s with heap:=h',toks:=t }:=by
 refine⟨by rw[hr];exact I.lf.by fun b o hb q=>⟨o.slots,k b o (fun z=>I.notS e (FCD.all_l hc) (z▸hb)) q⟩,fc,I.ks.trans' (KS.of (KM.chg (M:=(· = c)) k ho rfl)) fun b hb=>?_,fun b hb=>?_⟩
 ·have hb:b=c:=hb
  exact .inr (hb▸I.new c (FCD.all_l hc))
 ·rcases aI.mp hb with hb | hb
  ·rcases hn b hb with h | h
   ·exact I.new b (FCD.all_l h)
   ·exact I.ks.back h
  ·rw[hx]at hb
   exact I.new b (cG _ hb)
theorem FI.sto{i:Nat}{x:Str}{p:Pos}{Q:Unit->NL->Prop}(e:FE G L Re sc A outer s₁)(I:FI G L Re sc A s₁ D y s)(hi:iw[i]? = some x)(hr:(kU L D y).set i (.val v)=kU L D' y')(hD:D'=D)
 (h:∀s',FI G L Re sc A s₁ D' y' s'->Q () s'):NN (NP G.prog G.w) A' (Ox (.Name x p) Re v) Q E s:=by
 subst hD
 refine I.lf.sto (sH hi) (e.loc x (az hi)) fun s' k l=>h s' ⟨by rw[<- hr];exact l,I.fc.keeps fun b o hb q=>k.get b o (fun z=>I.notS e hb (z▸.inl rfl)) q,I.ks.trans (KS.of k),I.new⟩
theorem FI.ld{i:Nat}{x:Str}(I:FI G L Re sc A s₁ D y s)(hi:iw[i]? = some x)(hy:(kU L D y).getD i .un=.val v)(h:Q v s):NN (NP G.prog G.w) A' (N6 (.Name x p) Re) Q E s:=by
 refine I.lf.ld (sH hi) ?_ hy h
 have:=bt.mp Fh x (az hi)
 simpa using this
theorem FE.ld_bi{p:Pos}(e:FE G L Re sc A outer s₁)(I:FI G L Re sc A s₁ D y s)(hx:x∈[ofString "set",ofString "iter",ofString "len",ofString "StopIteration"]) (hm:(x,v)∈dU) (h:Q v s) :
 NN (NP G.prog G.w) A' (N6 (.Name x p) Re) Q E s:=ie e.wf e.eo (I.base e) (e.gl x hx) hm h
theorem FE.hint(e:FE G L Re sc A outer s₁):OY Re=false:=by unfold OY;rw[e.eo.kindS];rfl
theorem jP:(On G.prog G.w).is k (.int k t)=true:=intKind_is _ _ _ _
theorem xR:(Value.int k t).scannable=true:=rfl
theorem xS(I:FI G L Re sc A s₁ D y s)(h:∀s',FI G L Re sc A s₁ D y s'->Q (.bool (decide (k∈D.sn))) s'):NN (NP G.prog G.w) A' (compareOp .In (.int k t) (.ref D.a3)) Q E s:=by
 refine x12 I.fc.seen fun n hS U=>?_
 exact wpAny_inSet_of jP xR hS (h _ (I.keeps (ar _ _)))
theorem FE.notSys(e:FE G L Re sc A outer s₁)(I:FI G L Re sc A s₁ D y s)(hc:c∈D.all):(c==OR)=false:=by
 rw[beq_eq_false_iff_ne]
 intro q
 refine x11 e.sys fun o h=>?_
 have:=e.B _ _ h
 rw[<- q,I.new c hc]at this;cases this
theorem Fi{ns:List (Int × Int)}{k:Int}(h:k∈ns.map (·.1)):∃i,(ns.find? fun p=>p.1=k)=some (k,i):=by
 cases e:ns.find? fun p=>p.1=k with
 | none =>
  refine x12 (aJ.mp h) fun p hp e2=>?_;subst e2
  have:=MZ.mp e p hp
  simp at this
 | some p =>
  have:=List.find?_some e
  obtain⟨a,b⟩:=p
  simp at this;subst this
  exact⟨b,rfl⟩
theorem xT{ns:List (Int × Int)}{k:Int}(h:k∉ns.map (·.1)):(ns.find? fun p=>p.1=k)=none:=by
 rw[MZ]
 intro p hp q
 exact h (aJ.mpr ⟨p,hp,by simpa using q⟩)
theorem Fj(p:Prs kvs ns)(h:k∉ns.map (·.1)):OM kvs k=none:=by
 unfold OM
 rw[MZ.mpr]
 ·rfl
 ·intro q hq z
  apply h
  rw[<- p.fst]
  exact aJ.mpr ⟨q,hq,by simpa using z⟩
theorem Fm{k:Int}{t:Tok}(e:FE G L Re sc A outer s₁)(I:FI G L Re sc A s₁ D y s)(h:∀s',FI G L Re sc A s₁ D y s'->Q (.bool (decide (k∈D.ns.map (·.1)))) s'):NN (NP G.prog G.w) A' (compareOp .In (.int k t) (.ref D.a4)) Q E s:=by
 refine x12 I.fc.n2s fun kvs hD hp=>?_
 refine wpAny_in_of jP (e.notSys I (FCD.all_l (by first | exact FCD.m1 | exact FCD.m2 | exact FCD.m3 | exact FCD.m4))) hD.mapOf ?_
 have hv:(OM kvs k).isSome=decide (k∈D.ns.map (·.1)):=by
  by_cases q:k∈D.ns.map (·.1)
  ·refine x11 (Fi q) fun i hi=>?_
   refine x11 (hp.at hi) fun t ht=>?_
   rw[ht];simp only[q,decide_true];rfl
  ·rw[Fj hp q];simp only[q,decide_false];rfl
 rw[hv]
 exact h _ (I.keeps (ar _ _))
theorem Fn{p1 p2 p3 ap cp:Pos}{Q:Flow->NL->Prop}(e:FE G L Re sc A outer s₁)(I:FI G L Re sc A s₁ D (.val (.int k t)) s)(hl:(ap.endLine==cp.line)=true)(hn:k∉D.sn)(hz:D.sn.length<=2000)
 (h:∀s',FI G L Re sc A s₁ { D with sn:=D.sn++[k] } (.val (.int k t)) s'->Q .next s'):NN (NP G.prog G.w) A (Oy (.Expr (.Call (.Attribute (.Name i8 p1) (ofString "add") ap) [.Name aw p2] [] cp) p3) Re) Q E s:=by
 refine PP ?_ e.hint rfl
 refine x12 I.fc.seen fun n hS hle=>?_
 refine Px rfl (il rfl) hl (I.ld (i:=4) rfl rfl ?_)
 refine⟨"set", "set.add",F.plainAttrs_set,F.slot_set_add,F.type_set_add,hS.typeIs,hS.noDict,?_⟩
 refine OD rfl (Oj (N7 (I.ld (i:=6) rfl rfl (N4 ?_))))
 refine call_set_add jP xR hS (by show n+1<4096;lia) fun h' hs hS'=>h _ ?_
 refine I.chg e (by first | exact FCD.m1 | exact FCD.m2 | exact FCD.m3 | exact FCD.m4) hs.extBut (hS'.elim fun o ζ=>ζ.elim fun U ζ=>ζ.elim fun U ζ=>ζ.elim fun U ζ=>ζ.elim fun q U=>⟨o,q⟩) (I.fc.upd3 hs.extBut ⟨if decide (k∈D.sn)=true then n else n+1,?_,?_⟩) rfl rfl fun b hb=>.inl hb
 ·have:(fun k'=>decide (k'∈D.sn++[k]))=fun k'=>(decide (k'∈D.sn)||decide (k'=k)):=by
   funext k'
   simp[aI]
  rw[this];exact hS'
 ·simp only[hn,decide_false,Nv,if_false,cb,dQ,List.length_nil];lia
theorem Fo(hn:(L.inf.map (·.key)).Nodup)(hf:f∈L.inf):OM (L.inf.map fun f=>(f.key,N2 f.a)) f.key=some (.ref f.a):=by
 generalize L.inf=l at hn hf
 induction l with
 | nil=>cases hf
 | cons e r ih =>
  rw[aQ,bq]at hn
  unfold OM
  rw[aQ,L8]
  rcases aa.mp hf with rfl | hf
  ·simp
  ·have:e.key≠f.key:=fun q=>hn.1 (aJ.mpr ⟨f,hf,q.symm⟩)
   simp only[this,decide_false]
   exact ih hn.2 hf
theorem Fp{p1 p2 p3 p4 p5 p6 p7 p8 p9 ap cp:Pos}{Q:Flow->NL->Prop}(e:FE G L Re sc A outer s₁)(I:FI G L Re sc A s₁ D (.val (.int f.key t)) s)(hl:(ap.endLine==cp.line)=true)(hf:f∈L.inf)(hz:D.ms.length<=2000)
 (h:∀s' m it,FI G L Re sc A s₁ { D with ms:=D.ms++[m],es:=D.es++[⟨m,it,f.sl,0⟩] } (.val (.int f.key t)) s'->Q .next s') :
 NN (NP G.prog G.w) A (Oy (.Expr (.Call (.Attribute (.Name iu p1) (ofString "append") ap) [.Attribute (.Call (.Name (ofString "iter") p2) [.Attribute (.Subscript (.Name iq p3) (.Name aw p4) p5) (ofString "successors") p6] [] p7) (ofString "__next__") p8] [] cp) p9) Re) Q E s:=by
 refine PP ?_ e.hint rfl
 refine x11 I.fc.its fun n hI=>?_
 refine Px rfl (il rfl) hl (I.ld (i:=3) rfl rfl ?_)
 refine⟨"list", "list.append",Pn,Qp,Qq,hI.isList.typeIs,(fun b e=>by cases e;exact⟨_,hI,rfl⟩),?_⟩
 refine OD rfl (Oj (N7 ?_))
 rw[arm_eval_Attribute]
 refine NM ?_
 show NN _ A (N6 (.Call (.Name (ofString "iter") p2) [.Attribute (.Subscript (.Name iq p3) (.Name aw p4) p5) (ofString "successors") p6] [] p7) Re) _ _ s
 refine eh (fun a ha=>by rw[ah.mp ha];rfl) (e.ld_bi I (by simp) (v:=.builtin "iter") (az (i:=6) (by kernel_rfl)) ?_)
 refine OD (gB _) (Oj (N7 ?_))
 rw[arm_eval_Attribute]
 refine NM ?_
 show NN _ A (N6 (.Subscript (.Name iq p3) (.Name aw p4) p5) Re) _ _ s
 have S0:=I.S e
 refine jF (I.ld (i:=1) rfl rfl (I.ld (i:=6) rfl rfl ⟨"dict",_,slot_dict_getitem.lookup,S0.n2i.typeIs,wpAny_getItem_of jP S0.n2i.mapOf (Fo S0.keys hf) ?_⟩))
 have I1:=I.keeps (ar s (s.toks+1))
 refine NM (Od (NM (N8 (xu (I1.inK e) e.ni e.sS (I1.S e) hf ?_))))
 have I2:=I1.keeps (ar _ (s.toks+1+1))
 refine NM (pt (NU (N4 ?_)))
 obtain⟨_,_,vsl,nsl,hsl,_⟩:=(I2.S e).info f hf
 refine call_function_entry (by decide +kernel) (by decide +kernel) kdk_entry_iter (kdk_args_iter _) ?_
 unfold OX.«iter»
 refine NM (m:=someArgs "iter" 1 2 _) (PT (a:=[N2 f.sl]) (by first | rfl | kernel_rfl!) ?_)
 show NN _ _ (pyIter (.ref f.sl) >>= _) _ _ _
 refine NM (wpAny_pyIter_list hsl.isList ?_)
 refine NU ⟨_,rfl,?_⟩
 generalize hs3:({ s with toks:=s.toks+1+1 }:NL)=s3 at I2
 have e3:s.heap=s3.heap:=by rw[<- hs3]
 show NN _ _ (PZ p8.atName >>= _) _ _ { s3 with heap:=s3.heap.push (cz f.sl 0) }
 have I3:FI G L Re sc A s₁ D (.val (.int f.key t)) { s3 with heap:=s3.heap.push (cz f.sl 0) }:=I2.keeps (bz _)
 refine NM (Od (NM (N8 ?_)))
 refine E8 (a:=s3.heap.objs.size) (vs:=#[.ref f.sl,.int 0 0]) (NZ _ rfl) ?_
 refine NM (pt (NU (N4 ?_)))
 have hz4:(s3.heap.push (cz f.sl 0)).objs.size=s3.heap.objs.size+1:=ON ..
 have I4:FI G L Re sc A s₁ D (.val (.int f.key t)) { s3 with heap:=(s3.heap.push (cz f.sl 0)).push (cI "method-wrapper" "list_iterator.__next__" s3.heap.objs.size),toks:=s3.toks+1 } :=
  I3.keeps (bz _)
 have hxs:∀p∈D.xs,p.1≠(s3.heap.push (cz f.sl 0)).objs.size/\p.1≠s3.heap.objs.size:=fun p hp=>by
  have:=N3 (I2.fc.ext p hp)
  exact⟨by rw[hz4];exact nz (qW this),nz this⟩
 have fr:∀c∈D.addrs,c<s3.heap.objs.size:=fun c hc=>(I2.fc.there hc).elim fun o q=>N3 q
 have hm:(s3.heap.push (cz f.sl 0)).objs.size∉D.addrs:=fun q=>by
  have:=fr _ q
  rw[hz4]at this
  exact absurd this (fG.mpr (oF _))
 have hi:s3.heap.objs.size∉D.addrs:=fun q=>bj _ (fr _ q)
 have qR:=I4.fc.addE (hx:=hxs) (e:=⟨(s3.heap.push (cz f.sl 0)).objs.size,s3.heap.objs.size,f.sl,0⟩) (NZ _ rfl) (NV _ (NZ _ rfl)) (by rw[hz4];exact Nat.succ_ne_self _) hm hi
 have fresh1:∀b,@LE.le Nat _ s3.heap.objs.size b->s₁.heap.get? b=none:=fun b hb=>I2.ks.back (by
  cases q:s3.heap.get? b with
  | none=>rfl
  | some o=>exact absurd (N3 q) (fG.mpr hb))
 refine x11 I4.fc.its fun n5 hI5=>?_
 have hfin:n5=n5:=rfl
 refine append_at hI5 (fun h' hs hD=>h _ (s3.heap.push (cz f.sl 0)).objs.size s3.heap.objs.size ?_) (by rw[vm,af];show D.ms.length<=O5;rw[OK];lia)
 have up:=qR.upd2 (ms:=D.ms++[(s3.heap.push (cz f.sl 0)).objs.size]) hs.extBut ⟨n5+1,by
  have q:((D.ms.map N2).toArray.push (.ref (s3.heap.push (cz f.sl 0)).objs.size))=((D.ms++[(s3.heap.push (cz f.sl 0)).objs.size]).map N2).toArray:=by simp
  rw[<- q];exact hD⟩
 refine(⟨I4.lf.by fun b o hb q=>⟨o.slots,hs.extBut b o (fun z=>?_) q⟩,up,I4.ks.trans' (KS.of (KM.chg (M:=(· = D.a2)) hs.extBut ⟨_,hD⟩ rfl)) fun b hb=>?_,fun b hb=>?_⟩:FI G L Re sc A s₁ { D with ms:=D.ms++[(s3.heap.push (cz f.sl 0)).objs.size],es:=D.es++[⟨(s3.heap.push (cz f.sl 0)).objs.size,s3.heap.objs.size,f.sl,0⟩] } (.val (.int f.key t)) { s3 with heap:=h',toks:=s3.toks+1 })
 ·exact I.notS e (c:=D.a2) (FCD.all_l (by first | exact FCD.m1 | exact FCD.m2 | exact FCD.m3 | exact FCD.m4)) (z▸hb)
 ·have hb:b=D.a2:=hb
  exact .inr (hb▸I.new _ (FCD.all_l (by first | exact FCD.m1 | exact FCD.m2 | exact FCD.m3 | exact FCD.m4)))
 ·rcases aI.mp hb with hb | hb
  rotate_left
  ·exact I.new b (cG _ hb)
  have hb:b∈({ D with es:=D.es++[⟨(s3.heap.push (cz f.sl 0)).objs.size,s3.heap.objs.size,f.sl,0⟩] }:FCD).addrs:=hb
  rw[pK]at hb
  refine(aI.mp hb).elim (fun q=>I.new b (FCD.all_l q)) fun q=>sG q (fun q=>?_) fun q=>?_
  ·rw[q,hz4];exact fresh1 _ (oF _)
  ·rw[q];exact fresh1 _ (bM _)
end
section
variable{G:Glo}{L:SLay}{Re:Env}{sc:Scope}{A A':N0}{outer:List Env}{s₁ s s':NL}{D D':FCD}{y y':SV}{E:NO->NL->Prop}
theorem Fq{p1 p2 p3 p4 p5 p6 p7:Pos}{Q:Flow->NL->Prop}(e:FE G L Re sc A outer s₁)(I:FI G L Re sc A s₁ D (.val (.int k t)) s)(hn:k∉D.ns.map (·.1))(hz:D.ns.length<=2000)(hz2:D.ks.length<=2000)
 (h:∀s',FI G L Re sc A s₁ { D with ns:=D.ns++[(k,(D.ks.length:Int))] } (.val (.int k t)) s'->Q .next s') :
 NN (NP G.prog G.w) A (Oy (.Assign [.Subscript (.Name gK p1) (.Name aw p2) p3] (.Call (.Name (ofString "len") p4) [.Name eZ p5] [] p6) p7) Re) Q E s:=by
 refine wpAny_Assign_Subscript ?_ rfl
 refine x22 I.fc.stk fun vs n hK hi=>?_
 have hlen:vs.size=D.ks.length:=by rw[<- cD];exact IntsAre.len hi
 refine eh (fun a ha=>by rw[ah.mp ha];rfl) (e.ld_bi I (by simp) (v:=.builtin "len") (az (i:=0) (by kernel_rfl)) ?_)
 refine OD (gB _) (Oj (N7 (I.ld (i:=2) rfl rfl (N4 ?_))))
 refine len_list hK.isList (by rw[hlen];lia) ?_
 have I1:=I.keeps (ar s (s.toks+1+1))
 refine I1.ld (i:=5) rfl rfl ?_
 refine I1.ld (i:=6) rfl rfl ?_
 refine x12 I1.fc.n2s fun kvs hD hp=>?_
 refine wpAny_setItem_pairs jP hD (fun h' hm hs=>h _ ?_) (by rw[hp.len,OK];lia)
 have hst:stored kvs k (.int vs.size (s.toks+1))=kvs++[(k,.int vs.size (s.toks+1))]:=by
  unfold stored
  rw[if_neg]
  intro q
  apply hn
  refine x12 (dP.mp q) fun p hpm hq=>?_
  rw[<- hp.fst]
  exact aJ.mpr ⟨p,hpm,by simpa using hq⟩
 rw[hst]at hm
 refine I1.chg e (c:=D.a4) (by first | exact FCD.m1 | exact FCD.m2 | exact FCD.m3 | exact FCD.m4) hs.extBut (hm.elim fun o ζ=>ζ.elim fun U ζ=>ζ.elim fun U ζ=>ζ.elim fun q U=>⟨o,q⟩) (I1.fc.upd4 hs.extBut ⟨_,hm,?_⟩) rfl rfl fun b hb=>.inl hb
 rw[<- hlen];exact hp.snoc
theorem Fr{p1 p2 p3 ap cp:Pos}{Q:Flow->NL->Prop}(e:FE G L Re sc A outer s₁)(I:FI G L Re sc A s₁ D (.val (.int k t)) s)(hl:(ap.endLine==cp.line)=true)(hz:D.ks.length<=2000)
 (h:∀s',FI G L Re sc A s₁ { D with ks:=D.ks++[k] } (.val (.int k t)) s'->Q .next s') :
 NN (NP G.prog G.w) A (Oy (.Expr (.Call (.Attribute (.Name eZ p1) (ofString "append") ap) [.Name aw p2] [] cp) p3) Re) Q E s:=by
 refine PP ?_ e.hint rfl
 refine x22 I.fc.stk fun vs n hK hi=>?_
 have hlen:vs.size=D.ks.length:=by rw[<- cD];exact IntsAre.len hi
 refine Px rfl (il rfl) hl (I.ld (i:=2) rfl rfl ?_)
 refine⟨"list", "list.append",Pn,Qp,Qq,hK.isList.typeIs,(fun b e=>by cases e;exact⟨_,hK,rfl⟩),?_⟩
 refine OD rfl (Oj (N7 (I.ld (i:=6) rfl rfl (N4 ?_))))
 refine append_at hK (fun h' hs hD=>h _ ?_) (by show vs.size<=O5;rw[hlen,OK];lia)
 exact I.chg (t:=s.toks) e (c:=D.a1) (by first | exact FCD.m1 | exact FCD.m2 | exact FCD.m3 | exact FCD.m4) hs.extBut ⟨_,hD⟩ (I.fc.upd1 hs.extBut ⟨_,_,hD,xy hi⟩) rfl rfl fun b hb=>.inl hb
theorem Fs(h:Pa vs (is++[k])):∃us t,vs=us++[.int k t]/\Pa us is:=by
 induction is generalizing vs with
 | nil =>
  cases h with
  | cons x t r=>cases r;exact⟨[],t,rfl,.nil⟩
 | cons i is ih =>
  cases h with
  | cons x t r =>
   refine x22 (ih r) fun us t' e2 hu=>?_;subst e2
   exact⟨_,t',rfl,.cons _ _ hu⟩
theorem xU(us:List NO)(v:NO):(us++[v]).toArray.eraseIdxIfInBounds ((us++[v]).toArray.size - 1)=us.toArray:=by
 apply Array.ext'
 simp
 rw[List.eraseIdx_append_of_length_le (bM _)];simp
theorem Ft{p1 ap cp:Pos}{Q:NO->NL->Prop}(e:FE G L Re sc A outer s₁)(I:FI G L Re sc A s₁ D y s)(hl:(ap.endLine==cp.line)=true)(hk:D.ks=ks++[k])(hz:D.ks.length<=2000)
 (h:∀s' t,FI G L Re sc A s₁ { D with ks:=ks } y s'->Q (.int k t) s') :
 NN (NP G.prog G.w) A' (N6 (.Call (.Attribute (.Name eZ p1) (ofString "pop") ap) [] [] cp) Re) Q E s:=by
 refine x22 I.fc.stk fun vs n hK hi=>?_
 have hlen:vs.size=D.ks.length:=by rw[<- cD];exact IntsAre.len hi
 rw[hk]at hi
 refine x22 (Fs hi) fun us t hv hu=>?_
 have hvs:vs=(us++[Value.int k t]).toArray:=by rw[<- hv]
 subst hvs
 refine Call_method0 rfl hl (I.ld (i:=2) rfl rfl ?_)
 refine⟨"list", "list.pop",Pn,F.slot_list_pop,F.type_list_pop,hK.isList.typeIs,(fun b e=>by cases e;exact⟨_,hK,rfl⟩),?_⟩
 refine method_meets F.slot_list_pop F.entry_list_pop rfl (PySem.evalArgs_none ⟨rfl,hK.isList.typeIs,F.args_list_pop_1 _,_,PySem.MeetsSeq.list_pop_last D.a1 _ n (.int k t) (by simp) (by rw[hlen,OK];lia),hK,?_⟩)
 have hu':=IsL.update hK (fun xs=>xs.eraseIdxIfInBounds ((us++[Value.int k t]).toArray.size - 1))
 refine h _ t (I.chg (t:=s.toks) e (c:=D.a1) (by first | exact FCD.m1 | exact FCD.m2 | exact FCD.m3 | exact FCD.m4) (Om ..).extBut ⟨_,hu'⟩ (I.fc.upd1 (Om ..).extBut ⟨_,_,hu',?_⟩) rfl rfl fun b hb=>.inl hb)
 rw[xU]
 simpa using hu
theorem Fu{p1 p2 ap cp:Pos}{Q:Flow->NL->Prop}(e:FE G L Re sc A outer s₁)(I:FI G L Re sc A s₁ D y s)(hl:(ap.endLine==cp.line)=true)(hk:D.ms=ms++[m])(hz:D.ms.length<=2000)
 (h:∀s',FI G L Re sc A s₁ { D with ms:=ms } y s'->Q .next s') :
 NN (NP G.prog G.w) A' (Oy (.Expr (.Call (.Attribute (.Name iu p1) (ofString "pop") ap) [] [] cp) p2) Re) Q E s:=by
 refine wpAny_Expr_any ?_ e.hint rfl
 refine x11 I.fc.its fun n hK=>?_
 have hv:(D.ms.map N2).toArray=(ms.map N2++[N2 m]).toArray:=by rw[hk];simp
 rw[hv]at hK
 refine Call_method0 rfl hl (I.ld (i:=3) rfl rfl ?_)
 refine⟨"list", "list.pop",Pn,F.slot_list_pop,F.type_list_pop,hK.isList.typeIs,(fun b e=>by cases e;exact⟨_,hK,rfl⟩),?_⟩
 refine method_meets F.slot_list_pop F.entry_list_pop rfl (PySem.evalArgs_none ⟨rfl,hK.isList.typeIs,F.args_list_pop_1 _,_,PySem.MeetsSeq.list_pop_last D.a2 _ n (.ref m) (by simp) (by
  rw[vm,cb,af,OK]
  have:=hz
  rw[hk,cb]at this
  simp at this ⊢;lia),hK,?_⟩)
 have hu':=IsL.update hK (fun xs=>xs.eraseIdxIfInBounds ((ms.map N2++[N2 m]).toArray.size - 1))
 rw[xU]at hu'
 exact h _ (I.chg (t:=s.toks) e (c:=D.a2) (by first | exact FCD.m1 | exact FCD.m2 | exact FCD.m3 | exact FCD.m4) (Om ..).extBut ⟨_,hu'⟩ (I.fc.upd2 (Om ..).extBut ⟨_,hu'⟩) rfl rfl fun b hb=>.inl hb)
end
noncomputable def aL(g:Gr)(k:Int):List Int:=match g.find? (fun p=>p.1=k)with
 | some p=>p.2.2
 | none=>[]
noncomputable def cJ(g:Gr):List (Int × Nat)->List (Int × Nat) × Option Int
 | []=>([],none)
 | (k,i)::r=>match(aL g k)[i]? with
  | some n=>((k,i+1)::r,some n)
  | none=>cJ g r
theorem i9:cJ g ((k,i)::r)=match(aL g k)[i]? with
 | some n=>((k,i+1)::r,some n)
 | none=>cJ g r:=rfl
noncomputable def dv(st:List (Int × Nat)):List Int:=(st.map (·.1)).reverse
noncomputable def iy(st:List (Int × Nat))(k:Int):List Int:=(dv st).drop ((dv st).idxOf k)++[k]
noncomputable def eq(g:Gr):Nat->Int->List (Int × Nat)->List Int->Option (List Int ⊕ List Int)
 | 0,_,_,_=>none
 | n+1,k,st,sn=>if k∈sn/\k∈dv st then some (.inl (iy st k))else
  match cJ g (if k∈sn then st else(k,0)::st)with
  | (_,none)=>some (.inr (if k∈sn then sn else sn++[k]))
  | (st',some k')=>eq g n k' st' (if k∈sn then sn else sn++[k])
theorem mU{g:Gr}{n:Nat}{k:Int}{st:List (Int × Nat)}{sn:List Int}:eq g (n+1) k st sn=if k∈sn/\k∈dv st then some (.inl (iy st k))else
 match cJ g (if k∈sn then st else(k,0)::st)with
 | (_,none)=>some (.inr (if k∈sn then sn else sn++[k]))
 | (st',some k')=>eq g n k' st' (if k∈sn then sn else sn++[k]):=rfl
noncomputable def fB(g:Gr)(N:Nat):List Int->List Int->Option (Option (List Int))
 | [],_=>some none
 | k::ks,sn=>if k∈sn then fB g N ks sn else match eq g N k [] sn with
  | none=>none
  | some (.inl c)=>some (some c)
  | some (.inr sn')=>fB g N ks sn'
theorem mV{g:Gr}{N:Nat}{k:Int}{ks sn:List Int}:fB g N (k::ks) sn=if k∈sn then fB g N ks sn else match eq g N k [] sn with
 | none=>none
 | some (.inl c)=>some (some c)
 | some (.inr sn')=>fB g N ks sn':=rfl
noncomputable def kW(g:Gr)(N:Nat):Option (Option (List Int)):=fB g N (g.map (·.1)) []
inductive Stk(L:SLay):List (Int × Nat)->List Int->List Ent->List (Int × Int)->Prop
 | nil:Stk L [] [] [] []
 | cons {st ks es ns i e f}:Stk L st ks es ns->f∈L.inf->e.sl=f.sl->e.pos=i->Stk L ((f.key,i)::st) (ks++[f.key]) (es++[e]) (ns++[(f.key,(st.length:Int))])
section
variable{L:SLay}{st:List (Int × Nat)}{ks:List Int}{es:List Ent}{ns:List (Int × Int)}
theorem Stk.eqK(x:Stk L st ks es ns):ks=dv st:=by
 induction x with
 | nil=>rfl
 | cons _ _ _ _ ih=>simp[dv,ih]
theorem Stk.eqN(x:Stk L st ks es ns):ns.map (·.1)=ks:=by
 induction x with
 | nil=>rfl
 | cons _ _ _ _ ih=>simp[ih]
theorem Stk.len(x:Stk L st ks es ns):ks.length=st.length/\es.length=st.length/\ns.length=st.length:=by
 induction x with
 | nil=>exact⟨rfl,rfl,rfl⟩
 | cons _ _ _ _ ih=>simp[ih]
theorem Stk.find(x:Stk L st ks es ns)(h:k∈ks):(ns.find? fun p=>p.1=k)=some (k,(ks.idxOf k:Int)):=by
 induction x with
 | nil=>cases h
 | @cons st ks es ns i e f x' hf h1 h2 ih =>
  rw[List.find?_append]
  by_cases q:k∈ks
  ·rw[ih q,List.idxOf_append,if_pos q];rfl
  ·have hk:k=f.key:=by
    rcases aI.mp h with h | h
    ·exact absurd h q
    ·simpa using h
   subst hk
   rw[xT (by rw[x'.eqN];exact q),List.idxOf_append,if_neg q]
   simp[x'.len.1]
theorem Stk.mem(x:Stk L st ks es ns)(h:k∈ks):∃f∈L.inf,f.key=k:=by
 induction x with
 | nil=>cases h
 | @cons st ks es ns i e f x' hf h1 h2 ih =>
  rcases aI.mp h with h | h
  ·exact ih h
  ·exact⟨f,hf,by simpa using Eq.symm (by simpa using h)⟩
end
theorem xV{L:SLay}{f:NInf}(hn:(L.inf.map (·.key)).Nodup)(hf:f∈L.inf):aL L.gr f.key=f.su:=by
 unfold aL SLay.gr
 generalize L.inf=l at hn hf
 induction l with
 | nil=>cases hf
 | cons e r ih =>
  rw[aQ,bq]at hn
  rw[aQ,L8]
  rcases aa.mp hf with rfl | hf
  ·simp
  ·have:e.key≠f.key:=fun q=>hn.1 (aJ.mpr ⟨f,hf,q.symm⟩)
   simp only[this,decide_false]
   exact ih hn.2 hf
structure FSt(G:Glo)(L:SLay)(Re:Env)(sc:Scope)(A:N0)(s₁:NL)(D:FCD)(st:List (Int × Nat))(sn:List Int)(y:SV)(s:NL):Prop where
 I:FI G L Re sc A s₁ D y s
 stk:Stk L st D.ks D.es D.ns
 ms:D.ms=D.es.map (·.m)
 esn:D.sn=sn
 snl:sn.length<=L.inf.length
 nd:sn.Nodup
 sub:∀k∈sn,∃f∈L.inf,f.key=k
 kin:∀k∈D.ks,k∈sn
 knd:D.ks.Nodup
section
variable{G:Glo}{L:SLay}{Re:Env}{sc:Scope}{A A':N0}{outer:List Env}{s₁ s s':NL}{D D':FCD}{y y':SV}{E:NO->NL->Prop}{st:List (Int × Nat)}{sn:List Int}
theorem pL:∀ {a b:List Int},a.Nodup->(∀k∈a,k∈b)->a.length<=b.length
 | [],_,_,_=>cj _
 | x::r,b,hn,h=>by
  rw[bq]at hn
  have h1:=pL (a:=r) (b:=b.erase x) hn.2 fun k hk=>(List.mem_erase_of_ne (fun(q:k=x)=>hn.1 (q▸hk))).mpr (h k (ay _ hk))
  have hx:=h x ag
  rw[List.length_erase_of_mem hx]at h1
  have:=List.length_pos_of_mem hx
  rw[dQ];lia
theorem FSt.kl(F:FSt G L Re sc A s₁ D st sn y s):D.ks.length<=L.inf.length:=by
 have:=pL F.knd F.kin
 have:=F.snl
 lia
theorem Fw{p1 p2 p3 p4 p5 p6 p7 p8 p9 p10 p11 p12 p13 p14 p15 p16 p17 p18 p19 p20 p21 p22 ap1 cp1 ap2 cp2 ap3 cp3:Pos}{Q:Flow->NL->Prop}(e:FE G L Re sc A outer s₁)(F:FSt G L Re sc A s₁ D st sn (.val (.int f.key t)) s)(hf:f∈L.inf)(hn:f.key∉sn)
 (hl1:(ap1.endLine==cp1.line)=true) (hl2:(ap2.endLine==cp2.line)=true) (hl3:(ap3.endLine==cp3.line)=true)
 (h:∀s' D',FSt G L Re sc A s₁ D' ((f.key,0)::st) (sn++[f.key]) (.val (.int f.key t)) s'->D'.xs=D.xs->Q .next s') :
 NN (NP G.prog G.w) A (OG [.Expr (.Call (.Attribute (.Name i8 p1) (ofString "add") ap1) [.Name aw p2] [] cp1) p3,
  .Expr (.Call (.Attribute (.Name iu p4) (ofString "append") ap2) [.Attribute (.Call (.Name (ofString "iter") p5) [.Attribute (.Subscript (.Name iq p6) (.Name aw p7) p8) (ofString "successors") p9] [] p10) (ofString "__next__") p11] [] cp2) p12,
  .Assign [.Subscript (.Name gK p13) (.Name aw p14) p15] (.Call (.Name (ofString "len") p16) [.Name eZ p17] [] p18) p19,
  .Expr (.Call (.Attribute (.Name eZ p20) (ofString "append") ap3) [.Name aw p21] [] cp3) p22] Re) Q E s:=by
 have hsm:=e.sm
 have hkl:=F.kl
 have hsl:=F.snl
 have hln:=F.stk.len
 have hsn:f.key∉D.sn:=by rw[F.esn];exact hn
 have hkn:f.key∉D.ks:=fun q=>hn (F.kin _ q)
 have hnn:f.key∉D.ns.map (·.1):=by rw[F.stk.eqN];exact hkn
 have hml:D.ms.length=D.ks.length:=by rw[F.ms,af,hln.2.1,hln.1]
 refine NT (Fn e F.I hl1 hsn (by rw[F.esn];lia) fun s2 I2=>?_)
 refine NT (Fp e I2 hl2 hf (by show D.ms.length<=2000;lia) fun s3 m it I3=>?_)
 refine NT (Fq e I3 hnn (by show D.ns.length<=2000;lia) (by show D.ks.length<=2000;lia) fun s4 I4=>?_)
 refine NT (Fr e I4 hl3 (by show D.ks.length<=2000;lia) fun s5 I5=>N1 ?_)
 have hnd:(sn++[f.key]).Nodup:=by
  rw[c7]
  exact⟨F.nd,by simp,fun a ha b hb q=>hn (by rw[ah.mp hb]at q;exact q▸ha)⟩
 have hsub:∀k∈sn++[f.key],∃f∈L.inf,f.key=k:=fun k hk=>by
  rcases aI.mp hk with hk | hk
  ·exact F.sub k hk
  ·exact⟨f,hf,by simpa using Eq.symm (by simpa using hk)⟩
 refine h s5 _ ⟨I5,?_,?_,?_,?_,hnd,hsub,?_,?_⟩ rfl
 ·have:=F.stk.cons (e:=⟨m,it,f.sl,0⟩) hf rfl rfl
  rw[<- hln.1]at this;exact this
 ·simp[F.ms]
 ·simp[F.esn]
 ·have:=pL (b:=L.inf.map (·.key)) hnd fun k hk=>(hsub k hk).elim fun f ζ=>ζ.elim fun h1 h2=>aJ.mpr ⟨f,h1,h2⟩
  rw[af]at this;exact this
 ·intro k hk
  rcases aI.mp hk with hk | hk
  ·exact cQ _ (F.kin k hk)
  ·exact cG _ hk
 ·show(D.ks++[f.key]).Nodup
  rw[c7]
  exact⟨F.knd,by simp,fun a ha b hb q=>hkn (by rw[ah.mp hb]at q;exact q▸ha)⟩
end
theorem Fx:PS (.type "StopIteration") (.type "BaseException")=pure true:=by rw[OJ];kernel_rfl
theorem Fy:PS (.type ((Manifest.find? "StopIteration").elim "type" fun x=>x.metatype)) (.type "tuple")=pure false:=by
 have e:(Manifest.find? "StopIteration").elim "type" (fun x=>x.metatype) = "type":=by decide +kernel
 rw[e,OJ];kernel_rfl
noncomputable def pM(A:N0)(a:NQ)(h h₂:N9):Prop:=(∀b o,b≠a->h.get? b=some o->∃sl,h₂.get? b=some { o with slots:=sl }/\(¬al A b->sl=o.slots))/\∃o,h₂.get? a=some o
theorem pM.get(x:pM A a h h₂):∀b o,b≠a->¬al A b->h.get? b=some o->h₂.get? b=some o:=fun b o n nf e=>by
 refine x12 (x.1 b o n e) fun sl q1 q2=>?_
 rw[q1,q2 nf]
noncomputable def gL(l:List Env)(a:NQ)(h:N9):N9:=hideAll h (a::l.filterMap (·.frame))
theorem sI(e:h.get? b=some o)(n:b≠a)(nf:b∉l.filterMap (·.frame)):(gL l a h).get? b=some o :=
 hideAll_get _ e fun q=>(aa.mp q).elim n nf
theorem sJ(fr:i5 l h)(x:∃oe vs a0,h.get? a=some oe/\oe.cls=cls/\oe.data=.fields vs/\vs[0]? = some a0/\vs[1]? = some .none):eL (gL l a h) l a cls h :=
 ⟨fun b o e=>of_hideAll _ e,hideAll_none _ ag,xN fr fun b hb=>hideAll_none _ (ay _ hb),.inl x⟩
theorem sK{A:N0}{l:List Env}{a:NQ}{h h₂ B:N9}(hfr:A.frames=some l)(fr:i5 l h)(hB:∀b o,b≠a->¬al A b->h.get? b=some o->B.get? b=some o)(k:B.StaysIn h₂)(u:h.UpToSlots h₂)(ha:∃o,h₂.get? a=some o):pM A a h h₂:=by
 refine⟨fun b o n e=>?_,ha⟩
 by_cases q:al A b
 ·refine x12 q fun l' e' hb=>?_
  have q:al A b:=⟨l',e',hb⟩
  rw[hfr]at e';cases e'
  refine x12 (Nw.mp hb) fun v hv hf=>?_
  obtain⟨_,L',o',es,m,h1,h2,h3⟩:=fr v hv
  rw[h1]at hf;cases hf
  rw[h2]at e;cases e
  obtain⟨sl,q'⟩:=u b o h2 fun vs z=>by rw[h3]at z;cases z
  exact⟨sl,q',fun z=>absurd q z⟩
 ·exact⟨o.slots,k b o (hB b o n q e),fun U=>rfl⟩
section
variable{G:Glo}{L:SLay}{Re:Env}{sc:Scope}{A A':N0}{outer:List Env}{s₁ s s':NL}{D D':FCD}{y y':SV}{E:NO->NL->Prop}{st:List (Int × Nat)}{sn:List Int}
theorem FI.noted(e:FE G L Re sc A outer s₁)(I:FI G L Re sc A s₁ D y s)(x:pM A a s.heap h₂)(ha:s₁.heap.get? a=none)(hd:a∉D.all):FI G L Re sc A s₁ D y { s with heap:=h₂ }:=by
 refine⟨I.lf.by fun b o hb q=>?_,I.fc.keeps fun b o hb q=>x.get b o (fun z=>hd (z▸hb)) (I.notF e hb) q,?_,I.new⟩
 ·refine x12 (x.1 b o (fun z=>by obtain⟨o',q'⟩:=e.sto b hb;rw[z,ha]at q';cases q') q) fun sl q1 U=>?_
  exact⟨sl,q1⟩
 ·refine I.ks.trans' (F:=al A) (N:=(· = a)) ⟨h₂,s.toks,rfl,fun b o n q=>x.1 b o n q,fun b o q=>?_⟩ fun b hb=>?_
  ·by_cases z:b=a
   ·exact z▸x.2
   ·obtain⟨sl,q1,_⟩:=x.1 b o z q;exact⟨_,q1⟩
  ·have hb:b=a:=hb
   exact .inr (hb▸ha)
theorem FI.frs(e:FE G L Re sc A outer s₁)(I:FI G L Re sc A s₁ D y s):i5 (Re::outer) s.heap:=by
 intro v hv
 obtain⟨h1,L',o,es,n,h2,h3,h4⟩:=e.frs v hv
 by_cases q:L'=Re.locals
 ·subst q
  obtain⟨val,f,_⟩:=I.lf.vars
  obtain⟨m,⟨o',es',ep,q1,q2,_⟩,_⟩:=f.loc
  exact⟨h1,_,o',es',ep,h2,q1,q2⟩
 ·obtain⟨sl,q'⟩:=I.ks.slot L' o q h3
  exact⟨h1,L',_,es,n,h2,q',h4⟩
theorem FB{p1 p2 p3 p4 ap cp:Pos}{Q:Flow->NL->Prop}(e:FE G L Re sc A outer s₁)(I:FI G L Re sc A s₁ D y s)(hl:(ap.endLine==cp.line)=true)(hk:D.ks=ks++[k])(hn:D.ns=ns++[(k,i)])(hkn:k∉ns.map (·.1))(hz:D.ks.length<=2000)(hz2:D.ns.length<=2000)
 (h:∀s',FI G L Re sc A s₁ { D with ks:=ks,ns:=ns } y s'->Q .next s') :
 NN (NP G.prog G.w) A' (Oy (.Delete [.Subscript (.Name gK p1) (.Call (.Attribute (.Name eZ p2) (ofString "pop") ap) [] [] cp) p3] p4) Re) Q E s:=by
 refine wpAny_Delete (wpAny_deleteEach_cons (wpAny_delete_Subscript (I.ld (i:=5) rfl rfl ?_)))
 refine Ft e I hl hk hz fun s2 t I2=>?_
 obtain⟨kvs,hD,hp⟩:=I2.fc.n2s
 have hfk:(D.ns.find? fun p=>p.1=k)=some (k,i):=by
  rw[hn,List.find?_append,xT hkn];simp
 obtain⟨tv,hv⟩:=hp.at (k:=k) hfk
 refine wpAny_delItem_slot hD.typeIs (by decide) F.slot_dict_delitem ?_
 refine call_meetsIn F.slot_dict_delitem hD.typeIs F.entry_dict_delitem (F.args_dict_delitem_2 _ _) (meets_dict_delitem_pairs (On G.prog G.w) D.a4 jP) ⟨kvs,hD,by rw[hp.len,OK];exact ae hz2 (by decide),by rw[hv];rfl,fun h' hm hs=>?_⟩
 refine wpAny_deleteEach_nil (h _ ?_)
 refine I2.chg e (c:=D.a4) (by first | exact FCD.m1 | exact FCD.m2 | exact FCD.m3 | exact FCD.m4) hs.extBut (hm.elim fun o ζ=>ζ.elim fun U ζ=>ζ.elim fun U ζ=>ζ.elim fun q U=>⟨o,q⟩) (I2.fc.upd4 hs.extBut ⟨_,hm,?_⟩) rfl rfl fun b hb=>.inl hb
 have h1:=hp.filt (k:=k)
 have h2:(D.ns.filter fun p=>decide (p.1≠k))=ns:=by
  rw[hn,List.filter_append]
  have:ns.filter (fun p=>decide (p.1≠k))=ns:=Nq.mpr fun p hpm=>by
   simp only[ne_eq,decide_not,M1,decide_eq_false_iff_not]
   exact fun q=>hkn (aJ.mpr ⟨p,hpm,q⟩)
  rw[this];simp
 have h3:Prs (kvs.filter fun p=>decide (p.1≠k)) (D.ns.filter fun p=>decide (p.1≠k)):=h1
 rw[h2]at h3
 exact h3
theorem FD{m a:NQ}{id:String}(hm:s.heap.get? m=some (cI "method-wrapper" id a)) (h:NN (NP G.prog G.w) A (call (.ref m) []) Q E s):NN (NP G.prog G.w) A (callWith pos (.ref m) [] [] []) Q E s:=by
 unfold callWith
 refine NM (N8 (ii (as:=[]) (Re:=Po) (N4 ?_)))
 refine NM (Od ?_)
 refine NM (NM ?_)
 refine NM (wpAny_load hm (NU ?_))
 show NN _ _ (pure Keeper.machine) _ _ s
 refine NU ?_
 refine NM (NS h (fun v s' h'=>NM (N8 (wpAny_point (NU h')))) fun U U x=>x)
end
theorem FH{vs:List NO}{is:List Int}{i:Nat}{k:Int}(h:Pa vs is)(hk:is[i]? = some k):∃t,vs[i]? = some (.int k t):=by
 induction h generalizing i with
 | nil=>simp at hk
 | cons x t r ih =>
  cases i with
  | zero=>simp at hk;subst hk;exact⟨t,rfl⟩
  | succ i=>simp at hk;simpa using ih hk
theorem FJ{vs:List NO}{is:List Int}{i:Nat}(h:Pa vs is)(hk:is[i]? = none):vs[i]? = none:=by
 rw[Nb]at hk ⊢
 rw[IntsAre.len h];exact hk
noncomputable def FK(P:Nat->Pos):NW:=.If (.Compare (.Name aw (P 3)) [.In] [.Name gK (P 4)] (P 5)) [.Return (some (.BinOp (.Subscript (.Name eZ (P 6)) (.Slice (some (.Subscript (.Name gK (P 7)) (.Name aw (P 8)) (P 9))) none none (P 10)) (P 11)) .Add (.List [.Name aw (P 12)] (P 13)) (P 14))) (P 15)] [] (P 16)
noncomputable def FL(P:Nat->Pos):NW:=.Expr (.Call (.Attribute (.Name i8 (P 17)) (ofString "add") (P 18)) [.Name aw (P 19)] [] (P 20)) (P 21)
noncomputable def FM(P:Nat->Pos):NW:=.Expr (.Call (.Attribute (.Name iu (P 22)) (ofString "append") (P 23)) [.Attribute (.Call (.Name (ofString "iter") (P 24)) [.Attribute (.Subscript (.Name iq (P 25)) (.Name aw (P 26)) (P 27)) (ofString "successors") (P 28)] [] (P 29)) (ofString "__next__") (P 30)] [] (P 31)) (P 32)
noncomputable def FN(P:Nat->Pos):NW:=.Assign [.Subscript (.Name gK (P 33)) (.Name aw (P 34)) (P 35)] (.Call (.Name (ofString "len") (P 36)) [.Name eZ (P 37)] [] (P 38)) (P 39)
noncomputable def FO(P:Nat->Pos):NW:=.Expr (.Call (.Attribute (.Name eZ (P 40)) (ofString "append") (P 41)) [.Name aw (P 42)] [] (P 43)) (P 44)
noncomputable def xW(P:Nat->Pos):NW:=.If (.Compare (.Name aw (P 0)) [.In] [.Name i8 (P 1)] (P 2)) [FK P] [FL P,FM P,FN P,FO P] (P 45)
inductive isFIf(b:NW):Prop where
 | mk (h1:b=xW jq) (h2:((jq 18).endLine==(jq 20).line)=true) (h3:((jq 23).endLine==(jq 31).line)=true) (h4:((jq 41).endLine==(jq 43).line)=true):isFIf b
noncomputable def xX(P:Nat->Pos):Expr:=.Call (.Subscript (.Name iu (P 2)) (.UnaryOp .USub (.Constant (.int 1) 0 (P 3)) (P 4)) (P 5)) [] [] (P 6)
noncomputable def FQ(P:Nat->Pos):NW:=.Delete [.Subscript (.Name gK (P 10)) (.Call (.Attribute (.Name eZ (P 11)) (ofString "pop") (P 12)) [] [] (P 13)) (P 14)] (P 15)
noncomputable def FR(P:Nat->Pos):NW:=.Expr (.Call (.Attribute (.Name iu (P 16)) (ofString "pop") (P 17)) [] [] (P 18)) (P 19)
noncomputable def xY(P:Nat->Pos):NW:=.Try [.Assign [.Name aw (P 1)] (xX P) (P 7),.Break (P 8)]
 [.ExceptHandler (some (.Name (ofString "StopIteration") (P 9))) none [FQ P,FR P] (P 20)] [] [] (P 21)
noncomputable def xZ(P:Nat->Pos):NW:=.While (.Name eZ (P 0)) [xY P] [.Break (P 22)] (P 23)
inductive isFW(b:NW):Prop where
 | mk (h1:b=xZ lU) (h2:((lU 12).endLine==(lU 13).line)=true) (h3:((lU 17).endLine==(lU 18).line)=true):isFW b
noncomputable def x0(P:Nat->Pos)(st1:NW)(st2:NW):NW:=.For (.Name aw (P 0)) (.Name iq (P 1)) [
 .If (.Compare (.Name aw (P 2)) [.In] [.Name i8 (P 3)] (P 4)) [.Continue (P 5)] [] (P 6),
 .While (.Constant (.bool true) 0 (P 7)) [st1,st2] [] (P 8)]
 [] (P 9)
inductive isFFor(b:NW):Prop where
 | mk (st1:NW) (st2:NW) (h1:b=x0 BO st1 st2) (h2:isFIf st1) (h3:isFW st2):isFFor b
section
variable{G:Glo}{L:SLay}{Re:Env}{sc:Scope}{A A':N0}{outer:List Env}{s₁ s s':NL}{D D':FCD}{y y':SV}{E:NO->NL->Prop}{st:List (Int × Nat)}{sn:List Int}
theorem FS{k:Int}{i:Nat}{Pp:Nat->Pos}{Q:Flow->NL->Prop}(e:FE G L Re sc A outer s₁)(F:FSt G L Re sc A s₁ D ((k,i)::st) sn y s)(hy:∃v,y=.val v)
 (hl4:((Pp 12).endLine==(Pp 13).line)=true) (hl5:((Pp 17).endLine==(Pp 18).line)=true)
 (h1:∀k' s' D' t,(aL L.gr k)[i]? = some k'->FSt G L Re sc A s₁ D' ((k,i+1)::st) sn (.val (.int k' t)) s'->D'.xs=D.xs->Q .brk s')
 (h2:∀s' D',(aL L.gr k)[i]? = none->FSt G L Re sc A s₁ D' st sn y s'->D'.xs=D.xs->Q .next s') :
 NN (NP G.prog G.w) A (Oy (xY Pp) Re) Q E s:=by
 obtain⟨I,hst,hms,hsn,hsl,hsnd,hsub,hkin,hknd⟩:=F
 have hsm:=e.sm
 have hkl:D.ks.length<=L.inf.length:=by have:=pL hknd hkin;lia
 obtain⟨a1,a2,a3,a4,ks,ms,es,sn',ns,xs⟩:=D
 dsimp only at hst hms hsn hkin hknd hkl
 cases hst with
 | @cons _ ks es ns _ en f hst hf hsl₀ hpos =>
 have hln:=hst.len
 have hS:=I.S e
 have hsucc:aL L.gr f.key=f.su:=xV hS.keys hf
 rw[hsucc]at h1 h2
 rw[cb,Mu]at hkl
 have hmm:ms=es.map (·.m)++[en.m]:=by rw[hms];simp
 refine x11 I.fc.its fun n2 hI2=>?_
 have hent:=I.fc.ent en (cG _ (.head _))
 obtain⟨_,_,vsl,nsl,hsl',hint⟩:=hS.info f hf
 rw[hsl₀]at hent
 have hkn:f.key∉ns.map (·.1):=by
  rw[hst.eqN]
  intro q
  rw[c7]at hknd
  exact hknd.2.2 _ q f.key ag rfl
 have call:∀(Q:NO->NL->Prop) (E:NO->NL->Prop),NN (NP G.prog G.w) A (call (.ref en.m) []) Q E { s with toks:=s.toks+1+1 } ->
  NN (NP G.prog G.w) A (N6 (xX Pp) Re) Q E s:=by
  intro Q E hq
  show NN _ A (do callWith (Pp 6) (<- N6 (.Subscript (.Name iu (Pp 2)) (.UnaryOp .USub (.Constant (.int 1) 0 (Pp 3)) (Pp 4)) (Pp 5)) Re) [] (backTo (Pp 6) (starEach [] Re)) (backToKw (Pp 6) (keywordEach [] Re))) Q E s
  refine NM ?_
  refine jF (I.ld (i:=3) rfl rfl ?_)
  refine wpAny_UnaryOp (Pl ?_)
  refine P.neg_int ⟨"list",_,F.slot_list_getitem.lookup,hI2.isList.typeIs,?_⟩
  refine wpAny_getItem_list_neg hI2.isList (by decide) (by rw[vm,af,hmm,cb,Mu];lia) (by decide) (x:=.ref en.m) ?_ ?_
  ·have hx:(-1+((List.map N2 ms).toArray.size:Int)).toNat=es.length:=by
    rw[vm,af,hmm,cb,Mu,af];lia
   show(List.map N2 ms).toArray[(-1+((List.map N2 ms).toArray.size:Int)).toNat]? = _
   rw[hx,hmm]
   simp
  ·exact FD hent.1 hq
 have I2:=I.keeps (ar s (s.toks+1+1))
 have hit:s.heap.get? en.it=some (cz f.sl i):=by rw[<- hpos];exact hent.2
 have hinA:en.it∈(FCD.mk a1 a2 a3 a4 (ks++[f.key]) ms (es++[en]) sn' (ns++[(f.key,(st.length:Int))]) xs).addrs:=(mT (cG _ (.head _))).2
 refine x11 hy fun v e1=>?_;subst e1
 refine xO (c:=.type "StopIteration") e.hfr e.hL ?_ fun U q=>q
 cases hc:f.su[i]? with
 | some k' =>
  refine x11 (FH hint hc) fun t ht=>?_
  refine NT (Oc (call _ _ (Fa hent.1 hit hsl'.isList (by simpa using ht) fun h' hi' hs=>?_)) rfl rfl)
  have I3:FI G L Re sc A s₁ ⟨a1,a2,a3,a4,ks++[f.key],ms,es++[{ en with pos:=i+1 }],sn',ns++[(f.key,(st.length:Int))],xs⟩ (.val v) { s with heap:=h',toks:=s.toks+1+1 }:=by
   have fc:=I2.fc.nextE (h':=h') rfl hs.extBut (by rw[hi',hsl₀,hpos])
   rw[hpos]at fc
   refine I.chg (t:=s.toks+1+1) e hinA hs.extBut ⟨_,hi'⟩ fc rfl rfl fun b hb=>.inl (sF (D:=⟨a1,a2,a3,a4,ks++[f.key],ms,es++[en],sn',ns++[(f.key,(st.length:Int))],xs⟩) rfl▸hb)
  show NN _ _ (Ox (.Name aw (Pp 1)) Re (.int k' t)) _ _ _
  refine I3.sto (i:=6) e rfl rfl rfl fun s4 I4=>NT (wpAny_Break ?_)
  refine h1 k' s4 _ t hc ⟨I4,hst.cons hf hsl₀ rfl,?_,hsn,hsl,hsnd,hsub,hkin,hknd⟩ rfl
  show ms=_
  rw[hmm];simp
 | none =>
  have hne:en.it∉hfp A:=fun q=>by
   refine x11 (e.hok.there _ q) fun o ho=>?_
   rw[I.new _ (FCD.all_l hinA)]at ho;cases ho
  refine NT (Oc (call _ _ (Fc (I2.hok e) hne hent.1 hit hsl'.isList (by have:=FJ hint hc;simpa using this) fun h' ea hN=>?_)) rfl rfl)
  refine eQ hN fun n1 n2' n3 n4=>?_
  have hea1:s₁.heap.get? ea=none:=I.ks.back n3
  have fc:=I2.fc.stopE (h':=h') (es:=es) rfl fun b o n q=>n1 b o n q
  have I3:FI G L Re sc A s₁ ⟨a1,a2,a3,a4,ks++[f.key],ms,es,sn',ns++[(f.key,(st.length:Int))],xs⟩ (.val v) { s with heap:=h',toks:=s.toks+1+1 }:=by
   refine I.chg (t:=s.toks+1+1) e hinA (fun b o n q=>n1 b o n q) n2' fc rfl rfl fun b hb=>.inl (xP hb)
  have hfrs:=I3.frs e
  have had:ea∉(FCD.mk a1 a2 a3 a4 (ks++[f.key]) ms es sn' (ns++[(f.key,(st.length:Int))]) xs).all:=fun q=>by
   rcases aI.mp q with q | q
   ·have q':ea∈(FCD.mk a1 a2 a3 a4 (ks++[f.key]) ms (es++[en]) sn' (ns++[(f.key,(st.length:Int))]) xs).addrs:=xP q
    refine x11 (I.fc.there q') fun o ho=>?_
    rw[n3]at ho;cases ho
   ·refine x12 (aJ.mp q) fun p hp e2=>?_;subst e2
    have:=I.fc.ext p hp
    rw[n3]at this;cases this
  refine x35 n4 fun oe ve a0 x1 x2 x3 x4 x5=>?_
  refine⟨ea,gL (Re::outer) ea h',.type "StopIteration",rfl,sJ hfrs ⟨oe,ve,a0,x1,x2,x3,x4,x5⟩,fun h₂ k2 u2 th E=>?_⟩
  have nb:∀b o,b≠ea->¬al A b->h'.get? b=some o->(gL (Re::outer) ea h').get? b=some o:=fun b o n nf q=>sI q n fun z=>nf ⟨_,e.hfr,z⟩
  have I4:FI G L Re sc A s₁ _ (.val v) { s with heap:=h₂,toks:=s.toks+1+1 }:=I3.noted (s:={ s with heap:=h',toks:=s.toks+1+1 }) e (sK e.hfr hfrs nb k2 u2 (th.imp fun U q=>q.1)) hea1 had
  refine e.ld_bi I4 (by simp) (v:=.type "StopIteration") (az (i:=7) (by kernel_rfl)) ⟨rfl,rfl,fun Q E hq=>?_,fun h₄ k4 u4 T4 E=>?_⟩
  ·refine x12 th fun o ho hoc=>?_
   exact wpAny_excMatches_type (X:= "StopIteration") (T:= "StopIteration") (b:=true) ⟨o,ho,hoc⟩ Fx Fy isSubtype_stop hq
  have I5:FI G L Re sc A s₁ _ (.val v) { s with heap:=h₄,toks:=s.toks+1+1 }:=I3.noted (s:={ s with heap:=h',toks:=s.toks+1+1 }) e (sK e.hfr hfrs nb k4 u4 (T4.there.imp fun U q=>q.1)) hea1 had
  refine NT (FB e I5 hl4 rfl rfl hkn (by show(ks++[f.key]).length<=2000;simp;lia) (by show(ns++[(f.key,(st.length:Int))]).length<=2000;simp;lia) fun s6 I6=>?_)
  refine NT (Fu e I6 hl5 hmm (by show ms.length<=2000;rw[hmm];simp;lia) fun s7 I7=>N1 ?_)
  rw[c7]at hknd
  exact h2 s7 _ hc ⟨I7,hst,rfl,hsn,hsl,hsnd,hsub,fun k hk=>hkin k (cQ _ hk),hknd.1⟩ rfl
end
noncomputable abbrev No:NQ->Prop:=fun U=>False
theorem FT{ds:List NR}{i:Nat}(h:i<=ds.length):fQ ds (.int i) .none=ds.drop i:=by
 have hc:Pg ds.length (i:Int)=i:=(ml _ i).trans (Nat.min_eq_left h)
 unfold fQ
 simp only[part,Option.elim,hc]
 rw[List.take_of_length_le (by rw[Nr];exact bM _)]
theorem sL:∀ {vs:List NO} {c:List Int},RepL O h vs (c.map Oo)->Pa vs c:=fun{vs c}=>by
 induction c generalizing vs with
 | nil=>intro r;cases r;exact .nil
 | cons k c ih =>
  intro r
  cases r with
  | cons a l =>
   cases a
   exact .cons _ _ (ih l)
section
variable{G:Glo}{L:SLay}{Re:Env}{sc:Scope}{A A':N0}{outer:List Env}{s₁ s s':NL}{D D':FCD}{y y':SV}{E:NO->NL->Prop}{st:List (Int × Nat)}{sn:List Int}
inductive AdI(G:Glo)(L:SLay)(Re:Env)(sc:Scope)(A:N0)(s₁:NL)(xs:List (NQ × Obj))(st:List (Int × Nat))(sn:List Int)(y:SV)(m:Nat)(sk:NL):Prop where
 | mk (Dk:FCD) (st0:List (Int × Nat)) (hm:m=st0.length) (ha:cJ L.gr st0=cJ L.gr st) (hx:Dk.xs=xs) (F:FSt G L Re sc A s₁ Dk st0 sn y sk):AdI G L Re sc A s₁ xs st sn y m sk
theorem FU{Pp:Nat->Pos}{Q:Flow->NL->Prop}(e:FE G L Re sc A outer s₁)(F:FSt G L Re sc A s₁ D st sn y s)(hy:∃v,y=.val v)
 (hl4:((Pp 12).endLine==(Pp 13).line)=true) (hl5:((Pp 17).endLine==(Pp 18).line)=true)
 (h1:∀k' st' s' D' t,cJ L.gr st=(st',some k')->FSt G L Re sc A s₁ D' st' sn (.val (.int k' t)) s'->D'.xs=D.xs->Q .next s')
 (h2:∀s' D',(cJ L.gr st).2=none->FSt G L Re sc A s₁ D' [] sn y s'->D'.xs=D.xs->Q .brk s') :
 NN (NP G.prog G.w) A (Oy (xZ Pp) Re) Q E s:=by
 refine wpAny_While (PC (AdI G L Re sc A s₁ D.xs st sn y) ?_ st.length ⟨D,st,rfl,rfl,rfl,F⟩)
 rintro m sk ⟨Dk,st0,rfl,ha,hxk,Fk⟩
 rw[kF rfl]
 refine x22 Fk.I.fc.stk fun vs n hK hi=>?_
 have hlen:vs.size=Dk.ks.length:=by rw[<- cD];exact IntsAre.len hi
 have hkl:=Fk.kl
 have hsm:=e.sm
 refine NM (Fk.I.ld (i:=2) rfl rfl (NM (Od (N8 (wpAny_truthy_list hK.isList (by lia) ?_)))))
 have I2:=Fk.I.keeps (ar sk (sk.toks+1+1))
 have F2:FSt G L Re sc A s₁ Dk st0 sn y { sk with toks:=sk.toks+1+1 }:=⟨I2,Fk.stk,Fk.ms,Fk.esn,Fk.snl,Fk.nd,Fk.sub,Fk.kin,Fk.knd⟩
 have hks:=Fk.stk.len.1
 cases st0 with
 | nil =>
  have:vs.isEmpty=true:=by
   rw[vk,hlen,hks];rfl
  rw[this]
  rw[if_neg (by decide)]
  refine NT (wpAny_Break (h2 _ Dk ?_ F2 hxk))
  rw[<- ha];rfl
 | cons p r =>
  obtain⟨k,i⟩:=p
  have:vs.isEmpty=false:=by
   cases q:vs.isEmpty with
   | false=>rfl
   | true =>
    rw[vk,hlen,hks]at q
    simp at q
  rw[this]
  rw[if_pos (by decide)]
  refine NT (FS e F2 hy hl4 hl5 (fun k' s' D' t hc F' hx'=>?_) fun s' D' hc F' hx'=>N1 ?_)
  ·refine h1 k' ((k,i+1)::r) s' D' t ?_ F' (hx'.trans hxk)
   rw[<- ha]
   rw[i9,hc]
  ·refine⟨r.length,by simp,D',r,rfl,?_,hx'.trans hxk,F'⟩
   rw[<- ha]
   rw[i9,hc]
theorem FV{k:Int}{t:Tok}{Pp:Nat->Pos}{Q:Flow->NL->Prop}
 (e:FE G L Re sc A outer s₁) (F:FSt G L Re sc A s₁ D st sn (.val (.int k t)) s) (hk:∃f∈L.inf,f.key=k)
 (hl1:((Pp 18).endLine==(Pp 20).line)=true) (hl2:((Pp 23).endLine==(Pp 31).line)=true) (hl3:((Pp 41).endLine==(Pp 43).line)=true)
 {O:NQ->Prop} (hO:∀b,O b->∃o,s₁.heap.get? b=some o)
 (h1:k∈sn->k∈dv st->∀v s',FI G L Re sc A s₁ D (.val (.int k t)) s'->Rep O s'.heap v (.list ((iy st k).map .int))->Q (.ret v) s')
 (h2:¬(k∈sn/\k∈dv st)->∀s' D',FSt G L Re sc A s₁ D' (if k∈sn then st else(k,0)::st) (if k∈sn then sn else sn++[k]) (.val (.int k t)) s'->D'.xs=D.xs->Q .next s') :
 NN (NP G.prog G.w) A (Oy (xW Pp) Re) Q E s:=by
 have I:=F.I
 have hkl:=F.kl
 have hsm:=e.sm
 have mk:∀ {s'},FI G L Re sc A s₁ D (.val (.int k t)) s'->FSt G L Re sc A s₁ D st sn (.val (.int k t)) s':=fun I=>⟨I,F.stk,F.ms,F.esn,F.snl,F.nd,F.sub,F.kin,F.knd⟩
 refine Pr (OA (I.ld (i:=6) rfl rfl (I.ld (i:=4) rfl rfl (xS I fun s2 I2=>Oi ?_))) rfl)
 rw[F.esn]
 by_cases hs:k∈sn
 ·rw[decide_eq_true hs]
  show NN _ _ (OG [_] Re) _ _ s2
  refine NT (Pr (OA (I2.ld (i:=6) rfl rfl (I2.ld (i:=5) rfl rfl (Fm e I2 fun s3 I3=>Oi ?_))) rfl))
  rw[F.stk.eqN,F.stk.eqK]
  by_cases hq:k∈dv st
  ·rw[decide_eq_true hq]
   show NN _ _ (OG [_] Re) _ _ s3
   have hmem:k∈D.ks:=by rw[F.stk.eqK];exact hq
   refine x12 I3.fc.n2s fun kvs hD hp=>?_
   refine x11 (hp.at (F.stk.find hmem)) fun ti hv=>?_
   refine NT (OV (wpAny_BinOp ?_))
   refine x22 I3.fc.stk fun vs n hK hi=>?_
   have obs:∀ {s'},FI G L Re sc A s₁ D (.val (.int k t)) s'->∀b,O b->b<s'.heap.objs.size:=fun I b q=>(hO b q).elim fun o e=>(I.ks.there b o e).elim fun o' e'=>N3 e'
   have rK:∀ {s'},NX s3 s'->a8 O s'.heap (.ref D.a1) (.list (D.ks.map .int)):=fun kp=>.inr ⟨_,_,_,_,rfl,rfl,ai kp _ _ hK,xI hi⟩
   have hrange:D.ks.idxOf k<=D.ks.length:=List.idxOf_le_length
   refine jF (I3.ld (i:=2) rfl rfl ?_)
   refine wpAny_Slice ?_
   show NN _ A (N6 (.Subscript (.Name gK (Pp 7)) (.Name aw (Pp 8)) (Pp 9)) Re) _ _ s3
   refine jF (I3.ld (i:=5) rfl rfl (I3.ld (i:=6) rfl rfl ⟨"dict",_,slot_dict_getitem.lookup,hD.typeIs,wpAny_getItem_of jP hD.mapOf hv ?_⟩))
   show NN _ _ (pure OB) _ _ _
   refine NU ?_
   show NN _ _ (pure OB) _ _ _
   refine NU ?_
   have kp1:NX s3 { s3 with heap:=s3.heap.push { cls:=.type "slice",data:=.fields #[.int (D.ks.idxOf k:Int) ti,.none,.none] },toks:=s3.toks+1 }:=bz _
   have I4:=I3.keeps kp1
   refine⟨"list",_,PySem.F.slot_list_getitem.lookup,⟨_,ai kp1 _ _ hK,rfl⟩,NS (wm (O:=O) (obs I4) (rK kp1) (.int _ _) .none (NZ _ rfl) ⟨by rw[af];lia,rfl,rfl⟩) (fun v s5 h5=>?_) fun U U x=>x⟩
   have I5:=I4.keeps h5.1
   refine Qt (N7 (I5.ld (i:=6) rfl rfl (N4 ⟨by show 1<=16777216;decide,?_⟩)))
   have kp2:NX s5 { s5 with heap:=s5.heap.push { cls:=.type "list",data:=.seq [Value.int k t].toArray } }:=bz _
   have I6:=I5.keeps kp2
   have r6:Rep O (s5.heap.push { cls:=.type "list",data:=.seq [Value.int k t].toArray }) (.ref s5.heap.objs.size) (.list [.int k]):=.list (n:=0) (fun q=>bj _ (obs I5 _ q)) (IsL.new _ _) (.cons (.int _ _) .nil)
   have hsl:jw (.list (D.ks.map .int)) (.int (D.ks.idxOf k:Int)) .none=.list ((D.ks.drop (D.ks.idxOf k)).map .int):=by
    show PU (fQ _ _ _)=_
    rw[FT (by rw[af];exact hrange),List.map_drop]
   rw[hsl]at h5
   refine NS (we (O:=O) (op:=.Add) (obs I6) (h5.2.keeps kp2) r6 ⟨rfl,by rw[af,Nr];show _+1<=_;lia⟩) (fun v' s7 h7=>?_) fun U U x=>x
   have I7:=I6.keeps h7.1
   refine aj h7 fun k7 r7=>?_
   have r7:Rep O s7.heap v' (.list ((iy st k).map .int)):=by
    have:fq .Add (.list ((D.ks.drop (D.ks.idxOf k)).map .int)) (.list [.int k])=.list ((iy st k).map .int):=by
     show PU (((D.ks.drop (D.ks.idxOf k)).map .int)++[.int k])=_
     simp only[iy,<- F.stk.eqK,c8,aQ,List.map_nil]
    rw[<- this];exact r7
   exact h1 hs hq v' s7 I7 r7
  ·rw[decide_eq_false hq]
   show NN _ _ (OG [] Re) _ _ s3
   refine N1 (N1 (h2 (fun z=>hq z.2) s3 D ?_ rfl))
   rw[if_pos hs,if_pos hs]
   exact mk I3
 ·rw[decide_eq_false hs]
  show NN _ _ (OG [_,_,_,_] Re) _ _ s2
  refine x12 hk fun f hf e2=>?_;subst e2
  refine Fw e (mk I2) hf hs hl1 hl2 hl3 fun s' D' F' hx'=>h2 (fun z=>hs z.1) s' D' ?_ hx'
  rw[if_neg hs,if_neg hs]
  exact F'
end
section
variable{G:Glo}{L:SLay}{Re:Env}{sc:Scope}{A A':N0}{outer:List Env}{s₁ s s':NL}{D D':FCD}{y y':SV}{E:NO->NL->Prop}{st:List (Int × Nat)}{sn:List Int}
theorem x6(e:FE G L Re sc A outer s₁):∀(st:List (Int × Nat)),(∀k∈st.map (·.1),∃f∈L.inf,f.key=k)->∀st' k',cJ L.gr st=(st',some k')->∃f∈L.inf,f.key=k'
 | [],_,st',k',h=>nomatch h
 | (k,i)::r,hk,st',k',h=>by
  rw[i9]at h
  refine x12 (hk k (by simp)) fun f hf hfk=>?_
  have hs:aL L.gr k=f.su:=hfk▸xV e.S.keys hf
  cases hc:(aL L.gr k)[i]? with
  | some n =>
   rw[hc]at h
   simp only[Prod.mk.injEq,PW]at h
   refine aj h fun U e1=>?_;subst e1
   rw[hs]at hc
   exact e.clo f hf n (az hc)
  | none =>
   rw[hc]at h
   exact x6 e r (fun k hk'=>hk k (by simp only[aQ,aa];exact .inr hk')) st' k' h
theorem FW{Q:Flow->NL->Prop}(hS:isFIf st1)(e:FE G L Re sc A outer s₁)(F:FSt G L Re sc A s₁ D st sn (.val (.int k t)) s)(hk:∃f∈L.inf,f.key=k)(hO:∀b,O b->∃o,s₁.heap.get? b=some o)
 (h1:k∈sn->k∈dv st->∀v s',FI G L Re sc A s₁ D (.val (.int k t)) s'->Rep O s'.heap v (.list ((iy st k).map .int))->Q (.ret v) s')
 (h2:¬(k∈sn/\k∈dv st)->∀s' D',FSt G L Re sc A s₁ D' (if k∈sn then st else(k,0)::st) (if k∈sn then sn else sn++[k]) (.val (.int k t)) s'->D'.xs=D.xs->Q .next s'):NN (NP G.prog G.w) A (Oy st1 Re) Q E s:=by
 obtain⟨rfl,hl1,hl2,hl3⟩:=hS
 exact FV e F hk hl1 hl2 hl3 hO h1 h2
theorem FY{Q:Flow->NL->Prop}(hS:isFW st2)(e:FE G L Re sc A outer s₁)(F:FSt G L Re sc A s₁ D st sn y s)(hy:∃v,y=.val v)
 (h1:∀k' st' s' D' t,cJ L.gr st=(st',some k')->FSt G L Re sc A s₁ D' st' sn (.val (.int k' t)) s'->D'.xs=D.xs->Q .next s')
 (h2:∀s' D',(cJ L.gr st).2=none->FSt G L Re sc A s₁ D' [] sn y s'->D'.xs=D.xs->Q .brk s'):NN (NP G.prog G.w) A (Oy st2 Re) Q E s:=by
 obtain⟨rfl,hl4,hl5⟩:=hS
 exact FU e F hy hl4 hl5 h1 h2
inductive WhI(G:Glo)(L:SLay)(Re:Env)(sc:Scope)(A:N0)(s₁:NL)(xs:List (NQ × Obj))(r:List Int ⊕ List Int)(m:Nat)(sk:NL):Prop where
 | mk (Dk:FCD) (stk:List (Int × Nat)) (snk:List Int) (k:Int) (t:Tok) (hx:Dk.xs=xs) (F:FSt G L Re sc A s₁ Dk stk snk (.val (.int k t)) sk) (hk:∃f∈L.inf,f.key=k) (hf:eq L.gr m k stk snk=some r):WhI G L Re sc A s₁ xs r m sk
theorem FZ{k:Int}{t:Tok}{N:Nat}{r:List Int ⊕ List Int}{st1 st2:NW}{w1 w2:Pos}{Q:Flow->NL->Prop}
 (e:FE G L Re sc A outer s₁) (F:FSt G L Re sc A s₁ D [] sn (.val (.int k t)) s) (hk:∃f∈L.inf,f.key=k)
 (hS1:isFIf st1) (hS2:isFW st2)
 {O:NQ->Prop} (hO:∀b,O b->∃o,s₁.heap.get? b=some o) (hr:eq L.gr N k [] sn=some r)
 (h1:∀c v s' D' y',r=.inl c->FI G L Re sc A s₁ D' y' s'->Rep O s'.heap v (.list (c.map .int))->Q (.ret v) s')
 (h2:∀sn' s' D' v',r=.inr sn'->FSt G L Re sc A s₁ D' [] sn' (.val v') s'->D'.xs=D.xs->Q .next s') :
 NN (NP G.prog G.w) A (Oy (.While (.Constant (.bool true) 0 w1) [st1,st2] [] w2) Re) Q E s:=by
 refine wpAny_While (PC (WhI G L Re sc A s₁ D.xs r) ?_ N ⟨D,[],sn,k,t,rfl,F,hk,hr⟩)
 rintro m sk ⟨Dk,stk,snk,k,t,hxk,Fk,hk,hm⟩
 rw[kF rfl]
 refine NM (wpAny_Constant_bool (NM (Od (N8 (Oi ?_)))))
 rw[if_pos rfl]
 cases m with
 | zero=>cases hm
 | succ m =>
  rw[mU]at hm
  refine NT (FW hS1 e Fk hk hO (fun hs hq v s' I' rv=>?_) fun hnq s2 D2 F2 hx2=>?_)
  ·rw[if_pos ⟨hs,hq⟩]at hm
   exact h1 _ v s' _ _ (OH hm).symm I' rv
  ·rw[if_neg hnq]at hm
   have hkeys:∀k'∈(if k∈snk then stk else(k,0)::stk).map (·.1),∃f∈L.inf,f.key=k':=fun k' hk'=>F2.stk.mem (by rw[F2.stk.eqK];unfold dv;exact ot.mpr hk')
   refine NT (FY hS2 e F2 ⟨_,rfl⟩ (fun k' st' s3 D3 t3 ha F3 hx3=>?_) fun s3 D3 ha F3 hx3=>?_)
   ·rw[ha]at hm
    exact N1 ⟨m,Nl _,D3,st',_,k',t3,(hx3.trans hx2).trans hxk,F3,x6 e _ hkeys _ _ ha,hm⟩
   ·generalize hx:cJ L.gr (if k∈snk then stk else(k,0)::stk)=x at hm ha
    obtain⟨x1,x2⟩:=x
    cases ha
    exact h2 _ s3 D3 _ (OH hm).symm F3 ((hx3.trans hx2).trans hxk)
theorem FC.chgX(x:FC prog w D h)(hx:D.xs=[(I0,o)])(s:Ou I0 h h')(ho:h'.get? I0=some o'):FC prog w { D with xs:=[(I0,o')] } h':=by
 have ha:=x.ap (I0,o) (by rw[hx];simp)
 have y:FC prog w { D with xs:=[] } h:=⟨x.stk,x.its,x.seen,x.n2s,x.ent,x.nd,(fun p hp=>nomatch hp),(fun p hp=>nomatch hp)⟩
 have z:=y.keeps (h':=h') fun b o hb q=>s b o (fun z=>by
  rcases aI.mp hb with hb | hb
  ·exact ha (z▸hb)
  ·cases hb) q
 exact⟨z.stk,z.its,z.seen,z.n2s,z.ent,z.nd,fun p hp=>by rw[ah.mp hp];exact ho,fun p hp=>by rw[ah.mp hp];exact ha⟩
theorem FC.setX(x:FC prog w D h)(ho:h.get? I0=some o)(ha:I0∉D.addrs):FC prog w { D with xs:=[(I0,o)] } h :=
 ⟨x.stk,x.its,x.seen,x.n2s,x.ent,x.nd,fun p hp=>by rw[ah.mp hp];exact ho,fun p hp=>by rw[ah.mp hp];exact ha⟩
theorem FC.noX(x:FC prog w D h):FC prog w { D with xs:=[] } h :=
 ⟨x.stk,x.its,x.seen,x.n2s,x.ent,x.nd,(fun p hp=>nomatch hp),(fun p hp=>nomatch hp)⟩
end
section
variable{G:Glo}{L:SLay}{Re:Env}{sc:Scope}{A A':N0}{outer:List Env}{s₁ s s':NL}{D D':FCD}{y y':SV}{E:NO->NL->Prop}{st:List (Int × Nat)}{sn:List Int}
theorem FI.chgX{t:Nat}(e:FE G L Re sc A outer s₁)(I:FI G L Re sc A s₁ D y s)(hx:D.xs=[(I0,o)])(k:Ou I0 s.heap h')(ho:h'.get? I0=some o'):FI G L Re sc A s₁ { D with xs:=[(I0,o')] } y { s with heap:=h',toks:=t }:=by
 have hm:I0∈D.all:=FCD.all_r (p:=(I0,o)) (by rw[hx];simp)
 refine⟨I.lf.by fun b o hb q=>⟨o.slots,k b o (fun z=>I.notS e hm (z▸hb)) q⟩,I.fc.chgX hx k ho,I.ks.trans' (KS.of (KM.chg (M:=(· = I0)) k ⟨_,ho⟩ rfl)) fun b hb=>?_,fun b hb=>?_⟩
 ·have hb:b=I0:=hb
  exact .inr (hb▸I.new _ hm)
 ·rcases aI.mp hb with hb | hb
  ·exact I.new b (FCD.all_l hb)
  ·have:b=I0:=by simpa using hb
   exact this▸I.new _ hm
inductive ForI(G:Glo)(L:SLay)(Re:Env)(sc:Scope)(A:N0)(s₁:NL)(I0:NQ)(ep N:Nat)(r:Option (List Int))(n:Nat)(sk:NL):Prop where
 | mk (i:Nat) (Dk:FCD) (snk:List Int) (yk:SV) (o:Obj) (hi:i<=L.inf.length) (hn:n=L.inf.length+1 - i) (F:FSt G L Re sc A s₁ Dk [] snk yk sk) (hx:Dk.xs=[(I0,o)])
  (hk:sk.heap.IsKeyIter I0 L.n2i i (L.inf.map fun f=>(f.key,N2 f.a)).length ep) (hf:fB L.gr N ((L.inf.map (·.key)).drop i) snk=some r):ForI G L Re sc A s₁ I0 ep N r n sk
theorem F0{N:Nat}{r:Option (List Int)}{Pp:Nat->Pos}{st1 st2:NW}{Q:Flow->NL->Prop}
 (e:FE G L Re sc A outer s₁) (F:FSt G L Re sc A s₁ D [] [] y s) (hxs:D.xs=[])
 (hS1:isFIf st1) (hS2:isFW st2)
 {O:NQ->Prop} (hO:∀b,O b->∃o,s₁.heap.get? b=some o) (hr:fB L.gr N (L.inf.map (·.key)) []=some r)
 (h1:∀c v s' D' y',r=some c->FI G L Re sc A s₁ D' y' s'->Rep O s'.heap v (.list (c.map .int))->Q (.ret v) s')
 (h2:∀s' D' y',r=none->FI G L Re sc A s₁ D' y' s'->Q .next s') :
 NN (NP G.prog G.w) A (Oy (x0 Pp st1 st2) Re) Q E s:=by
 have S0:=F.I.S e
 refine x11 S0.n2i.dictAt fun ep hat=>?_
 have hsys:(L.n2i==OR)=false:=by
  rw[beq_eq_false_iff_ne]
  intro q
  refine x11 e.sys fun o h=>?_
  rw[<- q,e.hBL]at h;cases h
 have hkv:(L.inf.map fun f=>(f.key,N2 f.a)).length=L.inf.length:=af ..
 refine wpAny_For (F.I.ld (i:=1) rfl rfl (wpAny_pyIter_dict (knd:=On G.prog G.w) hsys hat ?_)) fun U=>rfl
 generalize hio:({ cls:=.type "dict_keyiterator",data:=.fields #[.ref L.n2i,.int 0 0,.int (L.inf.map fun f=>(f.key,N2 f.a)).length 0,.int ep 0] }:Obj)=o0
 have J:=F.I.keeps (bz (t:=s.toks) o0)
 have hnd0:s.heap.objs.size∉D.addrs:=fun q=>by
  refine x11 (F.I.fc.there q) fun o ho=>?_
  exact bj _ (N3 ho)
 have hnew0:s₁.heap.get? s.heap.objs.size=none:=F.I.ks.back (by
  cases q:s.heap.get? s.heap.objs.size with
  | none=>rfl
  | some o=>exact absurd (N3 q) (bj _))
 have hget0:(s.heap.push o0).get? s.heap.objs.size=some o0:=NZ _ (by rw[<- hio];rfl)
 generalize hI0:s.heap.objs.size=I0 at hnd0 hnew0 hget0 ⊢
 have I1:FI G L Re sc A s₁ { D with xs:=[(I0,o0)] } y { s with heap:=s.heap.push o0 }:=⟨J.lf,J.fc.setX hget0 hnd0,J.ks,fun b hb=>by
  rcases aI.mp hb with hb | hb
  ·exact J.new b (FCD.all_l hb)
  ·have:b=I0:=by simpa using hb
   exact this▸hnew0⟩
 have hIf:I0∉hfp A:=fun q=>by
  refine x11 (e.hok.there I0 q) fun o ho=>?_
  rw[hnew0]at ho;cases ho
 have hnI:L.n2i≠I0:=fun q=>by
  refine x11 (e.S.there (show L.n2i∈L.addrs from SLay.m2)) fun o ho=>?_
  rw[q,hnew0]at ho;cases ho
 have W:=rT (prog:=G.prog) (w:=G.w) (knd:=On G.prog G.w) (A:=A) I0 L.n2i hnI hIf (L.inf.map fun f=>(f.key,N2 f.a)) ep
 have hatS:∀ {sk D y},FI G L Re sc A s₁ D y sk->sk.heap.DictAt (On G.prog G.w) L.n2i (L.inf.map fun f=>(f.key,N2 f.a)) ep:=fun I=>by
  have hs1:s₁.heap.DictAt (On G.prog G.w) L.n2i (L.inf.map fun f=>(f.key,N2 f.a)) ep:=by
   refine x32 e.S.n2i.dictAt fun ep' o1 es1 b1 b2=>?_
   have:=F.I.get e _ _ (e.hS L.n2i (by first | exact SLay.m2 | exact SLay.m1 | exact SLay.m0)) b1
   refine x24 (id hat) fun o2 es2 c1 c2 c3 c4=>?_
   rw[this]at c1;cases c1
   exact⟨o1,es2,b1,c2,c3,c4⟩
  exact mq hs1 fun o q=>I.get e _ o (e.hS L.n2i (by first | exact SLay.m2 | exact SLay.m1 | exact SLay.m0)) q
 refine codeAny_forLoop_any (ForI G L Re sc A s₁ I0 ep N r) ?_ (L.inf.length+1)
  ⟨0,{ D with xs:=[(I0,o0)] },[],y,o0,cj _,rfl,⟨I1,F.stk,F.ms,F.esn,F.snl,F.nd,F.sub,F.kin,F.knd⟩,rfl,⟨o0,hget0,by rw[<- hio],by rw[<- hio];rfl⟩,by rw[List.drop_zero];exact hr⟩
 rintro n sk ⟨i,Dk,snk,yk,ok,hi,rfl,Fk,hx,hki,hfc⟩
 have hok:=Fk.I.hok e
 have hoI:=Fk.I.fc.ext (I0,ok) (by rw[hx];simp)
 by_cases hlt:i<L.inf.length
 ·refine W.item i _ _ _ (by rw[hkv];exact hlt) ⟨⟨hki,hatS Fk.I⟩,hok⟩ fun v h₂ t₂ hP hst₂ hk₂=>?_
  have hk2:Ou I0 sk.heap h₂:=fun b o n q=>hk₂ b o (by simpa using n) q
  refine aj hst₂ fun z0 U=>?_;refine aj z0 fun hki2 U=>?_
  refine x13 (id hki2) fun o2 ho2 hc2 hd2=>?_
  refine pd ho2 hc2 (by decide) ?_
  refine x12 hP fun q hq1 hq2=>?_
  refine x11 (Qw hq2) fun t e1=>?_;subst e1
  have I3:=Fk.I.chgX (t:=t₂) e hx hk2 ho2
  have hfi:∃f,L.inf[i]? = some f/\q=(f.key,.ref f.a):=by
   rw[cu]at hq1
   cases z:L.inf[i]? with
   | none=>rw[z]at hq1;cases hq1
   | some f=>rw[z]at hq1;exact⟨f,rfl,(OH hq1).symm⟩
  refine x12 hfi fun f hf e2=>?_;subst e2
  have hfm:f∈L.inf:=az hf
  have hdrop:(L.inf.map (·.key)).drop i=f.key::(L.inf.map (·.key)).drop (i+1):=by
   rw[List.drop_eq_getElem_cons (by rw[af];exact hlt)]
   congr 1
   have:(L.inf.map (·.key))[i]? = some f.key:=by rw[cu,hf];rfl
   exact OH ((bw _).symm.trans this)
  rw[hdrop]at hfc
  rw[mV]at hfc
  refine I3.sto (i:=6) e rfl rfl rfl fun s4 I4=>?_
  have hki4:∀ {sk D y},FI G L Re sc A s₁ D y sk->D.xs=[(I0,o2)]->sk.heap.IsKeyIter I0 L.n2i (i+1) (L.inf.map fun f=>(f.key,N2 f.a)).length ep:=fun I hx=>⟨o2,I.fc.ext (I0,o2) (by rw[hx];simp),hc2,hd2⟩
  have F4:∀ {s5},FI G L Re sc A s₁ { Dk with xs:=[(I0,o2)] } (.val (.int f.key t)) s5->FSt G L Re sc A s₁ { Dk with xs:=[(I0,o2)] } [] snk (.val (.int f.key t)) s5:=fun I=>⟨I,Fk.stk,Fk.ms,Fk.esn,Fk.snl,Fk.nd,Fk.sub,Fk.kin,Fk.knd⟩
  refine NT (Pr (OA (I4.ld (i:=6) rfl rfl (I4.ld (i:=4) rfl rfl (xS I4 fun s5 I5=>Oi ?_))) rfl))
  have hesn:({ Dk with xs:=[(I0,o2)] }:FCD).sn=snk:=Fk.esn
  rw[hesn]
  by_cases hs:f.key∈snk
  ·rw[if_pos hs]at hfc
   simp only[hs,decide_true]
   show NN _ _ (OG [_] Re) _ _ s5
   refine NT (wpAny_Continue ?_)
   exact⟨L.inf.length+1 - (i+1),by omega,i+1,_,snk,_,o2,hlt,rfl,F4 I5,rfl,hki4 I5 rfl,hfc⟩
  ·rw[if_neg hs]at hfc
   simp only[hs,decide_false]
   show NN _ _ (OG [] Re) _ _ s5
   refine N1 ?_
   cases hw:eq L.gr N f.key [] snk with
   | none=>rw[hw]at hfc;cases hfc
   | some rw' =>
    rw[hw]at hfc
    refine NT (FZ e (F4 I5) ⟨f,hfm,rfl⟩ hS1 hS2 hO hw (fun c v s' D' y' hc I' rv=>?_) fun sn' s' D' v' hc F' hx'=>N1 ?_)
    ·subst hc
     exact h1 c v s' D' y' (OH hfc).symm I' rv
    ·subst hc
     exact⟨L.inf.length+1 - (i+1),by omega,i+1,D',sn',_,o2,hlt,rfl,F',hx',hki4 F'.I hx',hfc⟩
 ·have hin:i=L.inf.length:=Nx hi (fG.mp hlt)
  subst hin
  refine W.done _ _ _ (by rw[<- hkv]at hki;exact⟨⟨hki,hatS Fk.I⟩,hok⟩) fun h₂ t₂ hk₂=>N1 ?_
  have hk:∀b o,b≠I0->sk.heap.get? b=some o->h₂.get? b=some o:=fun b o n q=>hk₂ b o (by simpa using n) q
  have hr0:r=none:=by
   rw[List.drop_eq_nil_of_le (by rw[af];exact bM _)]at hfc
   exact(OH hfc).symm
  refine h2 _ { Dk with xs:=[] } yk hr0 ⟨Fk.I.lf.by fun b o hb q=>⟨o.slots,hk b o (fun z=>?_) q⟩,Fk.I.fc.noX.keeps fun b o hb q=>hk b o (fun z=>?_) q,?_,fun b hb=>?_⟩
  ·refine x11 (e.sto b hb) fun o' q'=>?_
   rw[z,hnew0]at q';cases q'
  ·rcases aI.mp hb with hb | hb
   ·exact Fk.I.fc.ap (I0,ok) (by rw[hx];simp) (z▸hb)
   ·cases hb
  ·obtain⟨h3,t3,e3,k3,th3⟩:=Fk.I.ks
   subst e3
   have ne:∀b o,s₁.heap.get? b=some o->b≠I0:=fun b o q z=>by rw[z,hnew0]at q;cases q
   exact⟨h₂,t₂,rfl,fun b o n q=>(k3 b o n q).elim fun sl ζ=>ζ.elim fun q1 q2=>⟨sl,hk b _ (ne b o q) q1,q2⟩,fun b o q=>(th3 b o q).elim fun o' q1=>⟨o',hk b _ (ne b o q) q1⟩⟩
  ·rcases aI.mp hb with hb | hb
   ·exact Fk.I.new b (FCD.all_l hb)
   ·cases hb
end
noncomputable def x7(P:Nat->Pos)(st:NW):List NW:=[.Assign [.Name iq (P 0)] (.Attribute (.Name aA (P 1)) kO (P 2)) (P 3),
 .Assign [.Name eZ (P 4)] (.List [] (P 5)) (P 6),
 .Assign [.Name iu (P 7)] (.List [] (P 8)) (P 9),
 .Assign [.Name i8 (P 10)] (.Call (.Name (ofString "set") (P 11)) [] [] (P 12)) (P 13),
 .Assign [.Name gK (P 14)] (.Dict [] [] (P 15)) (P 16),
 st,
 .Return (some (.Constant .none 0 (P 17))) (P 18)]
inductive isFind(b:List NW):Prop where
 | mk (st:NW) (h1:b=x7 BN st) (h2:isFFor st):isFind b
noncomputable def mW:Option (List Int)->NR
 | none=>.none
 | some c=>.list (c.map .int)
section
variable{G:Glo}
theorem sM{vs:List NO}{ys:List SV}{args:List NO}{A:N0}{s:NL}{O:NQ->Prop}{R:Result->NL->Prop}(wf:G.Wf)(FI:FnInfo G a fd body names vars)
 (ok:Okay A O s) (B:G.Base O s.heap) (hr:∀(i:Nat) (v:NO) (y:SV),vs[i]? = some v->ys[i]? = some y->eX G O s.heap v y) (hvl:vs.length=names.length) (hyl:ys.length=names.length) (hroom:A.depth<1000)
 (hbind:O8 fd ⟨args,[]⟩=pure (names.zip vs))
 (h:∀Re O' s₁,Re.frame=some Re.locals->NX s s₁->(∀b,O b->O' b)->(∀b,O' b->O b\/s.heap.get? b=none)->(∀b,aS Re b->s.heap.get? b=none)->(∀i,br Re (vars.map some) i)->Cond G Re fd.scope (vars.map some) (A.deeper Re) O' (fun U=>none) (cw vars ys) s₁ ->
  ∀Qf Ef,(∀v s',R (.ok (.ret v)) s'->Qf (.ret v) s')->(∀s',R (.ok (.ret .none)) s'->Qf .next s')->(∀e s',NN (NP G.prog G.w) (A.deeper Re) (leaving Re e) (fun U s''=>R (.error e) s'') (fun e' s''=>R (.error e') s'') s'->Ef e s') ->
  NN (NP G.prog G.w) (A.deeper Re) (OG body Re) Qf Ef s₁) :
 O3 (NP G.prog G.w) A (.call (.ref a) ⟨args,[]⟩) R s:=by
 refine x12 FI.at_ fun o e2 hd=>?_
 have sc:=FI.sc
 have hsub:∀y∈names,y∈vars:=fun y hy=>by rw[<- sc.pfx]at hy;exact ND hy
 refine codeAny_call_cells (binds:=names.zip vs) (by show A.depth<1000;exact hroom) (B.kp a o (wf.K a o e2)) hd (wf.lim.keeps B.kp) (FI.hcode.keeps B.kp) FI.hbody hbind FI.hclo (fun x hx=>?_) (fun s₁ x=>?_) sc.co sc.gen sc.kind
 ·have hm:x.1∈names:=by
   obtain⟨y,v⟩:=x
   exact(List.of_mem_zip hx).1
  rcases sc.var x.1 (hsub _ hm)with q | q
  ·exact .inl q
  ·refine .inr ⟨q,?_⟩
   refine x11 (iW (n:=s.heap.objs.size+1) (mem_of_lookup q)) fun c hc=>?_
   refine x11 (jC (ot.mpr hc)) fun c' hc'=>?_
   rw[ik,iK,hc'];rfl
 ·refine x16 (pD (G:=G) (A:=A) (ys:=ys) sc FI.hg FI.hb ok B hr hvl hyl x) fun O' hO hO2 hSt hsto C k=>?_
  exact h _ O' s₁ rfl k hO hO2 hSt hsto C _ _ (fun U U q=>q) (fun U q=>q) fun U U q=>q
structure FInfo(G:Glo):Prop where
 ts:eI G.K TS=true
 ni:fy G.K NI=true
 sS:dK G.K NI (ofString "successors") pS 2=true
 FF:FnInfo G fF g9 bF [aA] iw
 bind:∀u,O8 g9 ⟨[u],[]⟩=pure ([aA].zip [u])
 bd:isFind bF
 gl:([ofString "set",ofString "iter",ofString "len",ofString "StopIteration"].all fun x=>bO g9.scope x)=true
 loc:(iw.all fun x=>g9.scope.names.lookup x==some NameKind.local)=true
 sys:∃o,G.hB.get? OR=some o
variable{L:SLay}{A:N0}{O:NQ->Prop}{s:NL}{E:NO->NL->Prop}
theorem sO{v:Expr}{p pos:Pos}{o:Obj}{t:Nat}{Q:Flow->NL->Prop}(F:LF Re sc jO ρ s.heap)(hi:iw[i]? = some x)(hk:sc.names.lookup x=some .local)
 (hev:∀Q,Q (.ref s.heap.objs.size) { s with heap:=s.heap.push o,toks:=t }->NN (NP G.prog G.w) A (N6 v Re) Q E s) (hsw:P9 v (some (.Name x p)) pos.line Re=pure false) (hss:swappedStores [.Name x p] v Re=pure none) (hf:o.isFreed=false)
 (h:∀s',LF Re sc jO (ρ.set i (.val (.ref s.heap.objs.size))) s'.heap->KS (al A) (· = Re.locals) s s'->s'.heap.get? s.heap.objs.size=some o->(∀b o,b≠Re.locals->s.heap.get? b=some o->s'.heap.get? b=some o)->Q .next s') :
 NN (NP G.prog G.w) A (Oy (.Assign [.Name x p] v pos) Re) Q E s:=by
 refine Oc (hev _ ?_) hsw hss
 have kp:NX s { s with heap:=s.heap.push o,toks:=t }:=bz _
 show NN _ _ (Ox (.Name x p) Re (.ref s.heap.objs.size)) _ _ _
 have hne:s.heap.objs.size≠Re.locals:=fun q=>by
  refine x12 F.vars fun val f U=>?_
  refine x12 f.loc fun m z1 U=>?_;refine x32 z1 fun o' U U e U=>?_
  have:=N3 e
  rw[<- q]at this;exact bj _ this
 refine(F.keeps kp).sto (s:={ s with heap:=s.heap.push o,toks:=t }) (sH hi) hk fun s' k l=>h s' l ((KS.of (KM.of kp)).trans (KS.of k)) (k.get _ _ hne (NZ _ hf)) fun b o n q=>k.get b o n (ai kp b o q)
theorem F5{N:Nat}{r:Option (List Int)}(wf:G.Wf)(I:FInfo G)(ok:Okay A O s)(B:G.Base O s.heap)(X:FX { A with handled:=none } O (fun U=>none) s)(S:SorAt G.prog G.w L s.heap)(hLF:∀b∈L.addrs,¬al A b)(hLB:G.hB.get? L.n2i=none)
 (clo:∀f∈L.inf,∀n∈f.su,∃f'∈L.inf,f'.key=n) (sm:L.inf.length<=1000) (hroom:A.depth+30<1000) (hr:kW L.gr N=some r) :
 NN (NP G.prog G.w) A (call (.ref fF) [.ref L.x]) (fun v s'=>KS (al A) No s s'/\Rep O s'.heap v (mW r)) E s:=by
 refine O1 (sM (s:=s) (O:=O) (vs:=[.ref L.x]) (ys:=[.val (.ref L.x)]) wf I.FF ok B (fun i v y hv hy=>?_) rfl rfl (pi hroom) (I.bind _) fun Re O' s₁ hL k1 hO1 hO2 hSt hsto C Qf Ef hret hnx hex=>?_)
 ·exact sv (P:=eX G _ _) (.inr rfl) i v y hv hy
 refine x12 X.fr fun outer hfo hfrs=>?_
 have hfo:A.frames=some outer:=hfo
 have hfr:(A.deeper Re).frames=some (Re::outer):=by show A.frames.map (Re::·)=_;rw[hfo];rfl
 have hF':∀b,al (A.deeper Re) b->b=Re.locals\/al A b:=fun b ζ=>ζ.elim fun l ζ=>ζ.elim fun e hb=>by
  rw[hfr]at e;cases e
  rw[Nm,hL]at hb
  rcases aa.mp hb with q | q
  ·exact .inl q
  ·exact .inr ⟨outer,hfo,q⟩
 have hlocS:aS Re Re.locals:=.inl rfl
 have hF0:∀b,al (A.deeper Re) b->O' b:=fun b q=>(hF' b q).elim (fun z=>z▸C.fr _ (.inl rfl)) fun z=>hO1 b (X.fo b z)
 have L0:=LF.of C
 have hlocD:∃o es n,s₁.heap.get? Re.locals=some o/\o.data=.dict es n:=by
  refine x12 L0.vars fun val f U=>?_
  refine x12 f.loc fun m z1 U=>?_;refine x33 z1 fun o es ep q1 q2 U=>?_
  exact⟨o,es,ep,q1,q2⟩
 have e:FE G L Re g9.scope (A.deeper Re) outer s₁:=by
  refine⟨wf,I.ts,I.ni,I.sS,I.sys,hfr,hL,fun v hv=>?_,C.ok.hok,fun b hb q=>C.ok.hno b hb (hF0 b q),eK S k1,fun b hb q=>?_,C.base.kp,fun b q=>C.base.off b (hF0 b q),hLB,fun b q=>C.ok.obs b (C.store_O q),C.eo,fun x hx=>bt.mp I.gl x hx,fun x hx=>by simpa using bt.mp I.loc x hx,clo,sm,(my hroom (by decide):A.depth+1+20<1000)⟩
  ·rcases aa.mp hv with rfl | hv
   ·refine x32 hlocD fun o es n q1 q2=>?_
    exact⟨by rw[C.eo.kindS];decide,_,o,es,n,hL,q1,q2⟩
   ·obtain⟨h1,L',o,es,n,h2,h3,h4⟩:=hfrs v hv
    exact⟨h1,L',o,es,n,h2,ai k1 _ _ h3,h4⟩
  ·rcases hF' b q with z | z
   ·refine x11 (S.there hb) fun o q'=>?_
    rw[z,hSt _ hlocS]at q';cases q'
   ·exact hLF b hb z
 have loc:=e.loc
 have kfin:∀ {s'},KS (al (A.deeper Re)) (· = Re.locals) s₁ s'->KS (al A) No s s':=fun k=>by
  obtain⟨h1,t1,rfl,k1⟩:=k1
  obtain⟨h2,t2,rfl,k2,th2⟩:=k
  have ne:∀b o,s.heap.get? b=some o->b≠Re.locals:=fun b o q z=>by rw[z,hSt _ hlocS]at q;cases q
  refine⟨h2,t2,rfl,fun b o U q=>?_,fun b o q=>th2 b o (k1 b o q)⟩
  obtain⟨sl,q1,q2⟩:=k2 b o (ne b o q) (k1 b o q)
  exact⟨sl,q1,fun z=>q2 fun y=>(hF' b y).elim (fun w=>ne b o q w) z⟩
 obtain⟨st,hb4,hst⟩:=I.bd
 rw[hb4]
 unfold x7
 obtain⟨st1,st2,rfl,hst1,hst2⟩:=hst
 have hself:jO[0]? = some (some aA):=rfl
 have d0:(aA==ofString "__debug__")=false:=by decide +kernel
 -- n2i=self._node2info
 refine NT (Oc (gH C hself d0 rfl (pG (C.base.inK wf) I.ts (eK S k1) ?_)) rfl rfl)
 have C1:=C.keeps wf (ar s₁ (s₁.toks+1))
 show NN _ _ (Ox (.Name iq _) Re (.ref L.n2i)) _ _ _
 refine(LF.of C1).sto (s:={ s₁ with toks:=s₁.toks+1 }) (i:=1) rfl (loc _ (bH (by kernel_rfl))) fun s2 k2 l2=>?_
 have K2:KS (al (A.deeper Re)) (· = Re.locals) s₁ s2:=(KS.of (KM.of (ar s₁ (s₁.toks+1)))).trans (KS.of k2)
 have B2:∀b o,G.hB.get? b=some o->s2.heap.get? b=some o:=fun b o q=>K2.get b o (fun z=>by rw[z,C.base.off _ (C.fr _ (.inl rfl))]at q;cases q) (fun z=>by rw[C.base.off _ (hF0 b z)]at q;cases q) (C.base.kp b o q)
 -- stack=[],itstack=[]
 refine NT (sO (A:=A.deeper Re) (i:=2) (t:=s2.toks) (o:={ cls:=.type "list",data:=.seq ([]:List NO).toArray }) l2 rfl (loc _ (bH (by kernel_rfl))) (fun Q h=>Qt (N4 ⟨cj _,h⟩)) rfl rfl rfl fun s3 l3 K3 g3 e3=>?_)
 refine NT (sO (A:=A.deeper Re) (i:=3) (t:=s3.toks) (o:={ cls:=.type "list",data:=.seq ([]:List NO).toArray }) l3 rfl (loc _ (bH (by kernel_rfl))) (fun Q h=>Qt (N4 ⟨cj _,h⟩)) rfl rfl rfl fun s4 l4 K4 g4 e4=>?_)
 have K14:=(K2.trans K3).trans K4
 have B4:G.Base No s4.heap:=⟨fun b o q=>K14.get b o (fun z=>by rw[z,C.base.off _ (C.fr _ (.inl rfl))]at q;cases q) (fun z=>by rw[C.base.off _ (hF0 b z)]at q;cases q) (C.base.kp b o q),fun U q=>q.elim⟩
 -- seen=set()
 refine NT (Oc (eh (fun a ha=>nomatch ha) (ie wf C.eo B4 (e.gl _ ag) (v:=.type "set") (az (i:=5) (by kernel_rfl)) (Qj (gB _) (ii (as:=[]) (Re:=Re) (N4 (call_set_0 fun led=>?_)))))) rfl rfl)
 have kp4:NX s4 { s4 with heap:=s4.heap.push { cls:=.type "set",dict:=none,data:=.set #[] 0 (.fresh 0 0 led) } }:=bz _
 have locl:∀ {s:NL} {ρ},LF Re g9.scope jO ρ s.heap->s.heap.objs.size≠Re.locals:=fun F q=>by
  refine x12 F.vars fun val f U=>?_
  refine x12 f.loc fun m z1 U=>?_;refine x32 z1 fun o' U U e U=>?_
  have:=N3 e
  rw[<- q]at this;exact bj _ this
 show NN _ _ (Ox (.Name i8 _) Re (.ref s4.heap.objs.size)) _ _ _
 refine(l4.keeps kp4).sto (s:={ s4 with heap:=s4.heap.push { cls:=.type "set",dict:=none,data:=.set #[] 0 (.fresh 0 0 led) } }) (i:=4) rfl (loc _ (bH (by kernel_rfl))) fun s5 k5 l5=>?_
 have g5:=k5.get _ _ (locl l4) (NZ s4.heap (o:={ cls:=.type "set",dict:=none,data:=.set #[] 0 (.fresh 0 0 led) }) rfl)
 have e5:∀b o,b≠Re.locals->s4.heap.get? b=some o->s5.heap.get? b=some o:=fun b o n q=>k5.get b o n (ai kp4 b o q)
 have K15:=K14.trans ((KS.of (KM.of kp4)).trans (KS.of k5))
 -- node2stacki={}
 refine NT (sO (A:=A.deeper Re) (i:=5) (t:=s5.toks) (o:={ cls:=.type "dict",data:=.dict #[] }) l5 rfl (loc _ (bH (by kernel_rfl))) (fun Q h=>?_) rfl rfl rfl fun s6 l6 K6 g6 e6=>?_)
 ·rw[eval_Dict_empty]
  refine NM (Od ?_)
  unfold newDict
  exact O7 h (by size_fits)
 have K16:=K15.trans K6
 have n2:=locl l2
 have n3:=locl l3
 have n4:=locl l4
 have n5:=locl l5
 have g3':=e6 _ _ n2 (e5 _ _ n2 (e4 _ _ n2 g3))
 have g4':=e6 _ _ n3 (e5 _ _ n3 g4)
 have g5':=e6 _ _ n4 g5
 have lt1:s2.heap.objs.size<s3.heap.objs.size:=N3 g3
 have lt2:s3.heap.objs.size<s4.heap.objs.size:=N3 g4
 have lt3:s4.heap.objs.size<s5.heap.objs.size:=N3 g5
 have none_size:∀h:N9,h.get? h.objs.size=none:=fun h=>by
  cases q:h.get? h.objs.size with
  | none=>rfl
  | some o=>exact absurd (N3 q) (bj _)
 have hset:s6.heap.SetOf (On G.prog G.w) s4.heap.objs.size (fun k=>decide (k∈([]:List Int))) 0 :=
  ⟨_,#[],0,.fresh 0 0 led,g5',⟨rfl,rfl,rfl⟩,rfl,(fun e he=>nomatch he),(fun k=>by simp),by decide,(by cases led<;>decide),rfl⟩
 have hdict:s6.heap.DictOf (On G.prog G.w) s5.heap.objs.size []:=fn (h:=s5.heap.push { cls:=.type "dict",data:=.dict #[] }) (fun o q=>by
  rw[NZ _ rfl]at q;cases q;exact g6) (Heap.DictOf.new _)
 have fc:FC G.prog G.w ⟨s2.heap.objs.size,s3.heap.objs.size,s4.heap.objs.size,s5.heap.objs.size,[],[],[],[],[],[]⟩ s6.heap:=by
  refine⟨⟨#[],0,g3',.nil⟩,⟨0,g4'⟩,⟨0,hset,bM _⟩,⟨[],hdict,.nil⟩,fun e he=>(nomatch he),?_,fun p hp=>(nomatch hp),fun p hp=>(nomatch hp)⟩
  show[s2.heap.objs.size,s3.heap.objs.size,s4.heap.objs.size,s5.heap.objs.size].Nodup
  exact Ex lt1 lt2 lt3
 have J:FI G L Re g9.scope (A.deeper Re) s₁ ⟨s2.heap.objs.size,s3.heap.objs.size,s4.heap.objs.size,s5.heap.objs.size,[],[],[],[],[],[]⟩ .un s6:=by
  refine⟨l6,fc,K16,fun c hc=>?_⟩
  exact Ew (P:=fun c=>s₁.heap.get? c=none) (K2.back (none_size _)) ((K2.trans K3).back (none_size _)) (K14.back (none_size _)) (K15.back (none_size _)) c hc
 have hob:∀b,O' b->∃o,s₁.heap.get? b=some o:=C.ok.obs
 have hg:L.gr.map (·.1)=L.inf.map (·.key):=by simp[SLay.gr]
 unfold kW at hr
 rw[hg]at hr
 refine NT (F0 e ⟨J,.nil,rfl,rfl,cj _,.nil,fun k hk=>(nomatch hk),fun k hk=>(nomatch hk),.nil⟩ rfl hst1 hst2 hob hr (fun c v s' D' y' hc I' rv=>?_) fun s' D' y' hc I'=>?_)
 ·subst hc
  exact hret _ _ ⟨kfin I'.ks,rv.weak hO1⟩
 ·subst hc
  exact NT (OV (O9 (hret _ _ ⟨kfin I'.ks,.none⟩)))
end
noncomputable def ja:Str:=ofString "cycle"
noncomputable def nI:Str:=ofString "i"
noncomputable def mX:List Str:=[aA,ja]
noncomputable def x8(P:Nat->Pos)(u1:List NW)(scope:Scope)(msg:Str):List NW:=[.If (.Compare (.Attribute (.Name aA (P 0)) (ofString "_ready_nodes") (P 1)) [.IsNot] [.Constant .none 0 (P 2)] (P 3)) u1 [] (P 4),
 .Assign [.Attribute (.Name aA (P 5)) (ofString "_ready_nodes") (P 6)] (.ListComp (.Attribute (.Name nI (P 7)) (ofString "node") (P 8)) [⟨.Name nI (P 9),.Call (.Attribute (.Attribute (.Name aA (P 10)) (ofString "_node2info") (P 11)) (ofString "values") (P 12)) [] [] (P 13),[.Compare (.Attribute (.Name nI (P 14)) (ofString "npredecessors") (P 15)) [.Eq] [.Constant (.int 0) 0 (P 16)] (P 17)],0⟩] scope (P 18)) (P 19),
 .Assign [.Name ja (P 20)] (.Call (.Attribute (.Name aA (P 21)) (ofString "_find_cycle") (P 22)) [] [] (P 23)) (P 24),
 .If (.Name ja (P 25)) [.Raise (some (.Call (.Name (ofString "CycleError") (P 26)) [.JoinedStr [.Constant (.str msg) 0 (P 27)] (P 28),.Name ja (P 29)] [] (P 30))) none (P 31)] [] (P 32)]
inductive isPrepare(sc:Scope)(b:List NW):Prop where
 | mk (msg:Str) (h1:b=x8 j9 BW qZ msg) (h2:((j9 12).endLine==(j9 13).line)=true) (h3:((j9 22).endLine==(j9 23).line)=true) (h4:mx sc qZ [nI]=true) (h5:aW (cE sc qZ) nI=true):isPrepare sc b
noncomputable def sQ(d:Data)(f:ClassData->Bool):Bool:=match d with | .cls cd=>f cd | _=>false
theorem F7{P:Data->Prop}{d:Data}{f:ClassData->Bool}(h:sQ d f=true)(k:∀cd,f cd=true->P (.cls cd)):P d:=by
 cases d<;>first | exact absurd h MY | exact k _ h
noncomputable def sR(l:List NO)(f:NQ->List NO->Bool):Bool:=vC l fun v r=>match v with | .ref a=>f a r | _=>false
theorem F8{P:List NO->Prop}{l:List NO}{f:NQ->List NO->Bool}(h:sR l f=true)(k:∀a r,f a r=true->P (.ref a::r)):P l :=
 cV h fun v r h=>by cases v<;>first | exact absurd h MY | exact k _ _ h
noncomputable def v6(l:List (Option NO))(f:String->Bool):Bool:=vC l fun U l=>vC l fun U l=>vC l fun U l=>vC l fun U l=>vC l fun b l=>vC l fun U l=>v0 l (vO b fun v=>match v with | .builtin n=>f n | _=>false)
theorem F9{P:List (Option NO)->Prop}{l:List (Option NO)}{f:String->Bool}(h:v6 l f=true)(k:∀a b c d n e,f n=true->P [a,b,c,d,some (.builtin n),e]):P l :=
 cV h fun a l h=>cV (P:=fun l=>P (a::l)) h fun b l h=>cV (P:=fun l=>P (a::b::l)) h fun c l h=>cV (P:=fun l=>P (a::b::c::l)) h fun d l h=>cV (P:=fun l=>P (a::b::c::d::l)) h fun n l h =>
  cV (P:=fun l=>P (a::b::c::d::n::l)) h fun e l h=>eE (P:=fun l=>P (a::b::c::d::n::e::l)) h fun h=>lV (P:=fun n=>P [a,b,c,d,n,e]) h fun v h=>by
   cases v<;>first | exact absurd h MY | exact k a b c d _ e h
noncomputable def sU(K:Frag)(C:NQ)(bmB:List NO)(newId:String):Bool:=(K.lookup C).elim false fun o =>
 decide (o.cls=.type "type")&&sQ o.data fun cd=>sR cd.mro fun C' bm=>v6 o.slots.toList fun n=>C'==C&&n==newId&&!cd.hasDel&&tailIn K bmB bm&&nsOkIn K cd.ns&&nsIn K cd.ns "__init__" == some none
structure PInfo(G:Glo):Prop extends FInfo G where
 sN:dK G.K NI (ofString "node") pN 0=true
 sP:dK G.K NI (ofString "npredecessors") pP 1=true
 mF:kN G.K TS (ofString "_find_cycle") fF=true
 FP:FnInfo G fP iM bP [aA] mX
 bindP:∀u,O8 iM ⟨[u],[]⟩=pure ([aA].zip [u])
 bdP:isPrepare iM.scope bP
 glP:bO iM.scope (ofString "CycleError")=true
 ce:G.mg (ofString "CycleError")=some (.ref CE)
 exc:sU G.K CE [.type "ValueError",.type "Exception",.type "BaseException",.type "object"] "ValueError.__new__" = true
inductive ExObj(h:N9)(C:NQ)(bmB:List NO)(newId:String):Prop where
 | mk (bm:List NO) (N:NQ) (nm qn:Str) (bs:List NO) (hdct:Bool) (sn:List Str) (sub:List NO) (ab:Bool) (col:Option Bool) (dd:Option NQ) (k0 k1 k2 k3 k5:Option NO) (mN:Str->Option NO)
  (e:h.get? C=some (excClassObj nm qn C N bs bm hdct sn sub ab col dd k0 k1 k2 k3 k5 newId)) (n:h.Ns N mN) (i:mN "__init__" = none) (t:OwnTail h bmB bm):ExObj h C bmB newId
theorem Ga{K:Frag}{C:NQ}{bmB:List NO}{newId:String}(X:K.In h)(q:sU K C bmB newId=true):ExObj h C bmB newId:=by
 unfold sU at q
 cases ho:K.lookup C with
 | none=>rw[ho]at q;exact absurd q MY
 | some o =>
  rw[ho]at q
  replace q:(decide (o.cls=.type "type")&&sQ o.data fun cd=>sR cd.mro fun C' bm=>v6 o.slots.toList fun n=>C'==C&&n==newId&&!cd.hasDel&&tailIn K bmB bm&&nsOkIn K cd.ns&&nsIn K cd.ns "__init__" == some none)=true:=q
  refine a7 q fun h1 q=>?_
  obtain⟨cls,dd,data,sl⟩:=o
  cases of_decide_eq_true h1
  replace ho:=X _ _ ho
  revert ho
  refine F7 (P:=fun d=>h.get? C=some ⟨.type "type",dd,d,sl⟩->ExObj h C bmB newId) q fun cd q ho=>?_
  obtain⟨nm,bs,mro,ns,qn,hd,sn,sub,ab,col,del⟩:=cd
  revert ho
  refine F8 (P:=fun mro=>h.get? C=some ⟨.type "type",dd,.cls ⟨nm,bs,mro,ns,qn,hd,sn,sub,ab,col,del⟩,sl⟩->ExObj h C bmB newId) q fun C' bm q ho=>?_
  obtain⟨sl⟩:=sl
  revert ho
  refine F9 (P:=fun sl=>h.get? C=some ⟨.type "type",dd,.cls ⟨nm,bs,.ref C'::bm,ns,qn,hd,sn,sub,ab,col,del⟩,⟨sl⟩⟩->ExObj h C bmB newId) q fun k0 k1 k2 k3 n k5 q ho=>?_
  refine oP q fun q1 q2 q3 q4 q5 q6=>?_
  cases NY q1
  cases NY q2
  cases del with
  | true=>exact absurd q3 MY
  | false=>exact⟨bm,ns,nm,qn,bs,hd,sn,sub,ab,col,dd,k0,k1,k2,k3,k5,_,ho,.of_isNs (isNs_of_in X q5),nsMap_none_of_in X q5 (NY q6),tail_of_in X q4⟩
theorem x9:∀ {n:Nat} {k:Int} {st:List (Int × Nat)} {sn c:List Int},eq g n k st sn=some (.inl c)->c≠[]
 | 0,_,_,_,_,h=>by cases h
 | n+1,k,st,sn,c,h=>by
  rw[mU]at h
  split at h
  ·cases h
   unfold iy
   simp
  ·split at h
   ·cases h
   ·exact x9 h
theorem sV:∀ {ks sn:List Int} {c:List Int},fB g N ks sn=some (some c)->c≠[]
 | [],_,_,h=>by cases h
 | k::ks,sn,c,h=>by
  rw[mV]at h
  split at h
  ·exact sV h
  ·split at h
   ·cases h
   ·rename_i c' hw
    cases h
    exact x9 hw
   ·exact sV h
section
variable{G:Glo}{Re:Env}{sc:Scope}{Rc:List (Option Str)}{A:N0}{O:NQ->Prop}{ω:NQ->Option Nat}{ρ:List SV}{s s':NL}
theorem Cond.ks(wf:G.Wf)(C:Cond G Re sc Rc A O ω ρ s)(k:KS (al A) No s s')(fo:∀b,al A b->O b)(fw:∀b i,ω b=some i->¬al A b):Cond G Re sc Rc A O ω ρ s':=by
 have kk:∀b o,¬O b->s.heap.get? b=some o->s'.heap.get? b=some o:=fun b o n e=>k.get b o id (fun q=>n (fo b q)) e
 obtain⟨val,F,V⟩:=C.vars
 refine⟨C.eo,C.co,C.len,⟨C.ok.hok.frame fun b hb o e=>kk b o (C.ok.hno b hb) e,C.ok.hno,fun b hb=>(C.ok.obs b hb).elim fun o e=>k.there b o e⟩,⟨fun b o e=>kk b o (fun q=>by rw[C.base.off b q]at e;cases e) (C.base.kp b o e),C.base.off⟩,C.fr,C.fc,C.om,val,F.slots fun b o U e=>k.slot b o id e,fun i x e=>?_⟩
 exact(V i x e).at wf C.base fun b o hb q=>by
  rcases hb with hb | hb
  ·exact k.get b o id (fw b i hb) q
  ·exact kk b o hb q
theorem FX.ks(x:FX A O ω s)(k:KS F No s s'):FX A O ω s':=x.by k (fun b q=>q.elim) x.fo x.fw
end
theorem ya{inf:List NInf}(hn:(inf.flatMap aY).Nodup){f g:NInf}(hf:f∈inf)(hg:g∈inf)(e:f.a=g.a):f=g:=by
 refine x11 (Mt.mp hf) fun i hi=>?_
 refine x11 (Mt.mp hg) fun j hj=>?_
 by_cases q:i=j
 ·subst q;rw[hi]at hj;exact OH hj
 ·exact absurd (show f.a∈aY g by rw[e];simp[aY]) (xv hn hi hj q f.a (by simp[aY]))
noncomputable def cM(inf:List NInf):List Int:=(inf.filter fun f=>f.np==0).map (·.key)
noncomputable def mY(inf:List NInf)(v:NO):Bool:=inf.any fun f=>(N2 f.a==v)&&f.np==0
noncomputable def mZ(inf:List NInf)(v:NO):List NR:=((inf.filter fun f=>N2 f.a==v).map fun f=>Oo f.key).take 1
theorem yb{inf:List NInf}(hn:(inf.flatMap aY).Nodup){f:NInf}(hf:f∈inf):mY inf (.ref f.a)=(f.np==0):=by
 unfold mY
 cases h:f.np==0 with
 | true=>exact dP.mpr ⟨f,hf,by simp[h]⟩
 | false =>
  rw[List.any_eq_false]
  intro g hg q
  simp only[e7,beq_iff_eq,Value.ref.injEq]at q
  have:=ya hn hg hf q.1
  subst this
  simp[q.2]at h
theorem yc(hn:(inf.flatMap aY).Nodup)(hf:f∈inf):mZ inf (.ref f.a)=[.int f.key]:=by
 unfold mZ
 have:∀g∈inf.filter (fun g=>N2 g.a==N2 f.a),g=f:=fun g hg=>by
  rw[lQ]at hg
  exact ya hn hg.1 hf (by simpa using hg.2)
 cases h:inf.filter (fun g=>N2 g.a==N2 f.a)with
 | nil =>
  have:f∈inf.filter (fun g=>N2 g.a==N2 f.a):=lQ.mpr ⟨hf,by simp⟩
  rw[h]at this;cases this
 | cons g r =>
  rw[this g (by rw[h];exact ag)]
  rfl
theorem yd(hn:(inf.flatMap aY).Nodup):((inf.map fun f=>N2 f.a).flatMap fun d=>if mY inf d=true then mZ inf d else[])=(cM inf).map Oo:=by
 have key:∀l:List NInf,(∀f∈l,f∈inf)->((l.map fun f=>N2 f.a).flatMap fun d=>if mY inf d=true then mZ inf d else[])=(cM l).map Oo:=by
  intro l
  induction l with
  | nil=>intro _;rfl
  | cons f r ih =>
   intro h
   have hf:=h f ag
   rw[aQ,BJ,ih fun g hg=>h g (ay _ hg),yb hn hf,yc hn hf]
   unfold cM
   rw[oB]
   cases f.np==0<;>simp
 exact key inf fun U h=>h
theorem sW{L:SLay}{D:NQ}{l:List Int}{b:NQ}(h:b∈({ L with rd:=some (D,l) }:SLay).addrs):b∈L.addrs\/b=D:=by
 simp only[SLay.addrs,SLay.rdAs,aa,aI,iJ,or_false]at h ⊢
 rcases h with h | h | h | h | h
 ·exact .inl (.inl h)
 ·exact .inl (.inr (.inl h))
 ·exact .inl (.inr (.inr (.inl h)))
 ·exact .inl (.inr (.inr (.inr (.inl h))))
 ·exact .inr h
theorem ye{L:SLay}{D:NQ}{l:List Int}{b:NQ}(hrd:L.rd=none)(h:b∈L.addrs):b∈({ L with rd:=some (D,l) }:SLay).addrs:=by
 simp only[SLay.addrs,SLay.rdAs,hrd,aa,aI,iJ,or_false]at h ⊢
 rcases h with h | h | h | h
 ·exact .inl h
 ·exact .inr (.inl h)
 ·exact .inr (.inr (.inl h))
 ·exact .inr (.inr (.inr (.inl h)))
section
variable{A:N0}{O:NQ->Prop}{ω:NQ->Option Nat}{s:NL}
theorem KS.noted{L:List NQ}{h₂ B:N9}{s₁:NL}{t:Nat}(X:FX A O ω s)(k:KS (al A) (·∈L) s s₁)(sB:∀b o,¬al A b->b∉L->s.heap.get? b=some o->B.get? b=some o)(hL:∀b∈L,∃o,B.get? b=some o)(st:B.StaysIn h₂)(u:s₁.heap.UpToSlots h₂):KS (al A) (·∈L) s { s₁ with heap:=h₂,toks:=t }:=by
 obtain⟨h9,t9,rfl,p1,p2⟩:=k
 have slot:∀b o,b∉L->s.heap.get? b=some o->∃sl,h₂.get? b=some { o with slots:=sl }/\(¬al A b->sl=o.slots):=fun b o n q=>by
  by_cases z:al A b
  ·refine x12 (p1 b o n q) fun sl r1 U=>?_
   refine x32 (X.dict z) fun o' es m' w1 w2=>?_
   rw[q]at w1;cases w1
   obtain⟨sl',r3⟩:=u b _ r1 fun vs y=>by
    have y:o.data=.fields vs:=y
    rw[w2]at y;cases y
   exact⟨sl',r3,fun y=>absurd z y⟩
  ·exact⟨o.slots,st b o (sB b o z n q),fun U=>rfl⟩
 refine⟨h₂,t,rfl,slot,fun b o q=>?_⟩
 by_cases n:b∈L
 ·refine x11 (hL b n) fun o' q'=>?_
  exact⟨o',st b o' q'⟩
 ·refine x12 (slot b o n q) fun sl q' U=>?_
  exact⟨_,q'⟩
end
section
variable{G:Glo}{L:SLay}{A:N0}{O:NQ->Prop}{s:NL}
theorem FX.deeper(X:FX A O (fun U=>none) s)(k:NX s s₁)(C:Cond G Re sc Rc (A.deeper Re) O' (fun U=>none) ρ s₁)(hL:Re.frame=some Re.locals)(hO:∀b,O b->O' b) :
 FX (A.deeper Re) O' (fun U=>none) s₁/\(∀b,al (A.deeper Re) b->b=Re.locals\/al A b)/\∃outer,A.frames=some outer/\(A.deeper Re).frames=some (Re::outer):=by
 refine x12 X.fr fun outer hfo hfrs=>?_
 have hfr:(A.deeper Re).frames=some (Re::outer):=by show A.frames.map (Re::·)=_;rw[hfo];rfl
 have hF':∀b,al (A.deeper Re) b->b=Re.locals\/al A b:=fun b ζ=>ζ.elim fun l ζ=>ζ.elim fun e hb=>by
  rw[hfr]at e;cases e
  rw[Nm,hL]at hb
  rcases aa.mp hb with q | q
  ·exact .inl q
  ·exact .inr ⟨outer,hfo,q⟩
 refine⟨⟨⟨_,hfr,fun v hv=>?_⟩,fun b q=>(hF' b q).elim (fun z=>z▸C.fr _ (.inl rfl)) fun z=>hO b (X.fo b z),fun b i q=>(nomatch q),X.hn⟩,hF',outer,hfo,hfr⟩
 rcases aa.mp hv with rfl | hv
 ·obtain⟨val,f,_⟩:=C.vars
  refine x12 f.loc fun m z1 U=>?_;refine x33 z1 fun o es ep q1 q2 U=>?_
  exact⟨by rw[C.eo.kindS];decide,_,o,es,ep,hL,q1,q2⟩
 ·obtain⟨h1,L',o,es,n,h2,h3,h4⟩:=hfrs v hv
  exact⟨h1,L',o,es,n,h2,ai k _ _ h3,h4⟩
theorem Gb{N:Nat}{r:Option (List Int)}(wf:G.Wf)(I:PInfo G)(ok:Okay A O s)(B:G.Base O s.heap)(X:FX A O (fun U=>none) s)(S:SorAt G.prog G.w L s.heap)(hrd:L.rd=none)(hO:∀b∈L.addrs,O b)(hLF:∀b∈L.addrs,¬al A b)
 (clo:∀f∈L.inf,∀n∈f.su,∃f'∈L.inf,f'.key=n) (sm:L.inf.length<=1000) (hroom:A.depth+40<1000) (hh:A.handled=none) (hr:kW L.gr N=some r) (hcl:∀c,r=some c->c.length<=100000)
 {Q:NO->NL->Prop} {E:NO->NL->Prop} (hQ:r=none->∀s' rA,s.heap.get? rA=none->SorAt G.prog G.w { L with rd:=some (rA,cM L.inf) } s'.heap->KS (al A) (·∈L.addrs) s s'->Q .none s')
 (hE:r≠none->∀s' a B rA,eL B (A.frames.getD []) a (.ref CE) s'.heap->s.heap.get? a=none->s.heap.get? rA=none->SorAt G.prog G.w { L with rd:=some (rA,cM L.inf) } B ->
  (∀b o,¬al A b->b∉L.addrs->s.heap.get? b=some o->B.get? b=some o)->KS (al A) (·∈L.addrs) s s'->E (.ref a) s') :
 NN (NP G.prog G.w) A (call (.ref fP) [.ref L.x]) Q E s:=by
 refine O1 (sM (s:=s) (O:=O) (vs:=[.ref L.x]) (ys:=[.val (.ref L.x)]) wf I.FP ok B (fun i v y hv hy=>?_) rfl rfl (pi hroom) (I.bindP _) fun Re O' s₁ hL k1 hO1 hO2 hSt hsto C Qf Ef hret hnx hex=>?_)
 ·exact sv (P:=eX G _ _) (.inr rfl) i v y hv hy
 have bd:=I.bdP
 obtain⟨msg,hb,hl1,hl2,hso,hsi⟩:=bd
 rw[hb]
 unfold x8
 have d0:(aA==ofString "__debug__")=false:=by decide +kernel
 have d1:(ja==ofString "__debug__")=false:=by decide +kernel
 have d2:(nI==ofString "__debug__")=false:=by decide +kernel
 have hself:(mX.map some)[0]? = some (some aA):=rfl
 have hcyc:(mX.map some)[1]? = some (some ja):=rfl
 have S1:=eK S k1
 have hOO:∀b∈L.addrs,O' b:=fun b hb=>hO1 b (hO b hb)
 have hFS:∀b∈L.addrs,¬aS Re b:=fun b hb q=>by
  refine x11 (S.there hb) fun o e=>?_
  rw[hSt b q]at e;cases e
 have hstor:aW iM.scope ja=true:=I.FP.sc.st (bH (by kernel_rfl))
 -- if self._ready_nodes is not None
 refine NT (Pr (OA (gH C hself d0 rfl (xr (C.base.inK wf) I.ts S1 (O9 (isNot_none ?_)))) rfl))
 have hrv:L.rdv=.none:=by unfold SLay.rdv;rw[hrd]
 rw[hrv]
 refine Oi ?_
 show NN _ _ (OG [] Re) _ _ _
 refine N1 ?_
 have C2:=C.keeps wf (ar s₁ (s₁.toks+1))
 have S2:SorAt G.prog G.w L ({ s₁ with toks:=s₁.toks+1 }:NL).heap:=S1
 generalize hs2:({ s₁ with toks:=s₁.toks+1 }:NL)=s₂ at C2 S2 ⊢
 have k2:NX s₁ s₂:=hs2▸ar _ _
 have nd:=(SLay.ne_iff.mp S.nd).ind
 have so:=SOk.of hso
 have hlenR:(cM L.inf).length<=L.inf.length:=by unfold cM;rw[af];exact j7 _ _
 -- self._ready_nodes=[..]
 refine NT (i6 (sc:=iM.scope) (O:=O') (ω:=fun U=>none) (ρ:=cw mX [.val (.ref L.x)]) (v:=.ref L.x) rfl hself d0 rfl ?_)
 rw[eval_ListComp]
 refine wR (vars:=[nI]) (its:=L.inf.map fun f=>.ref f.a) (ρ':=fun v=>(cw mX [.val (.ref L.x)]++cg 1 SV.un).set 2 (.val v)) (T:=mY L.inf) (f:=mZ L.inf) wf C2 rfl rfl so
  (fun E=>NS (E4 wf I.ts I.sys C2 S2 hOO hself d0 rfl hl1 E) (fun x s₁ h₁=>⟨h₁.1,fun E=>NS (h₁.2 E) (fun it s₂ h₂=>⟨h₂.1,_,h₂.2.toG,fun O' U Re i v h s hsto hP U U K=>⟨v,hP,fun Q E h=>Ot (dW (y:=.val v) wf (hsto 2 (by decide)) K rfl hsi rfl h)⟩⟩) fun U U e=>e⟩) fun U U e=>e)
  (fun v U=>⟨Nz ..,fun j=>if q:j=2 then .inl (q▸rfl)else .inr (EZ q).symm⟩) (fun v hv env' O2 s3 E3 g3 C3=>?_) (fun v hv hT env' D O2 ds' s3 k Q3 E3 hsto3 g3 C3 hD hDF hDw acc hl3 hk=>?_) ?_ ?_
 ·refine x12 (aJ.mp hv) fun f hf e2=>?_;subst e2
  have S3:SorAt G.prog G.w L s3.heap:=S2.keeps fun b o U q=>g3 b o q
  rw[NJ]
  rw[if_pos rfl]
  refine NM (NM ?_)
  refine OA (gH C3 (i:=2) rfl d2 rfl (xt (C3.base.inK wf) I.ni I.sP S3 hf fun t=>Pl ?_)) rfl
  refine P.eq_int (Oi ?_)
  refine NU ?_
  have kk:NX s3 { s3 with toks:=s3.toks+1+1 }:=ar _ _
  rw[yb nd hf]
  show NN _ _ (forIn [] (f.np==0) _) _ _ _
  rw[List.forIn_nil]
  exact NU ⟨rfl,kk⟩
 ·refine x12 (aJ.mp hv) fun f hf e2=>?_;subst e2
  have S3:SorAt G.prog G.w L s3.heap:=S2.keeps fun b o U q=>g3 b o q
  rw[yc nd hf]at hl3 hk
  show NN _ _ ((N6 (.Attribute (.Name nI _) (ofString "node") _) env' >>= fun x=>call (.builtin "list.append") [.ref D,x] >>= fun U=>pure ()) >>= fun U=>k) _ _ s3
  refine NM (NM (gH C3 (i:=2) rfl d2 rfl (EJ (C3.base.inK wf) I.ni I.sN S3 hf fun t=>NM ?_)))
  have kk:NX s3 { s3 with toks:=s3.toks+1 }:=ar _ _
  have C4:=C3.keeps wf kk
  refine wH (acc.keeps kk) hD (.int _ _) (by simp at hl3;lia) fun h' hs a hl=>?_
  refine x21 hl fun vs n hl=>?_
  refine aj (C4.append wf hD hDw hl hs a) fun k2' C5=>?_
  exact NU (hk _ ((KM.of kk).trans (k2'.mono fun b q=>.inr q)) C5 a)
 ·rw[yd nd,af];lia
 ·intro D Cc s3 m k3 hCn hDn hDC hns hrep
  rw[yd nd]at hrep
  refine⟨m,hns,fun h' hs'=>?_⟩
  have k4:NX s₂ { s3 with heap:=h' }:=by
   refine x22 k3 fun h1 t1 e2 g=>?_;subst e2
   exact⟨h',t1,rfl,fun b o q=>hs'.extBut b o (fun z=>by rw[z,hCn]at q;cases q) (g b o q)⟩
  have C4:=C2.keeps wf k4
  have S4:=eK S2 k4
  obtain⟨hDO,vsD,nD,hLD,hiD⟩:¬O' D/\∃vs n,IsL h' D vs n/\Pa vs.toList (cM L.inf):=by
   cases hrep with
   | list hn hl hr=>exact⟨fun q=>hn (.inl q),_,_,hs'.extBut _ _ hDC hl,sL hr⟩
  refine⟨C4,?_⟩
  have hDL:D∉L.addrs:=fun q=>hDO (hOO D q)
  have hnewD:D∉L.x::L.dx::L.n2i::L.infAs:=fun q=>hDL (by
   simp only[SLay.addrs,aa,aI]at q ⊢
   rcases q with q | q | q | q
   ·exact .inl q
   ·exact .inr (.inl q)
   ·exact .inr (.inr (.inl q))
   ·exact .inr (.inr (.inr (.inl q))))
  refine EI (C4.base.inK wf) I.ts S4 ⟨vsD,nD,hLD,hiD⟩ hnewD fun h5 hs5 S5=>?_
  have hdxL:L.dx∈L.addrs:=SLay.m1
  have km5:KM (· = L.dx) { s3 with heap:=h' } { s3 with heap:=h5,toks:=s3.toks+2 }:=by
   obtain⟨q1,q2,q3,q4,q5,q6,q7,q8,q9,q10,q11,q12⟩:=S5.dict
   exact KM.chg hs5.extBut ⟨_,q12⟩ rfl
  have C5:=C4.outer wf km5 (fun b q=>q▸hOO _ hdxL) fun b q=>q▸hFS _ hdxL
  obtain⟨X1,hF',outer,hfo,hfr⟩:=X.deeper k1 C hL hO1
  have X5:FX (A.deeper Re) O' (fun U=>none) { s3 with heap:=h5,toks:=s3.toks+2 }:=by
   refine((X1.keeps k2).keeps k4).by (F:=No) (M:=(· = L.dx)) (KS.of km5) (fun b hb hf=>?_) X1.fo fun b i q=>nomatch q
   have hb:b=L.dx:=hb
   subst hb
   rcases hF' _ hf with q | q
   ·exact absurd (show aS Re L.dx by rw[q];exact .inl rfl) (hFS _ hdxL)
   ·exact absurd q (hLF _ hdxL)
  have ks1:NX s s₂:=aO k1 k2
  have hDs:s.heap.get? D=none:=im ks1 hDn
  have hDF:¬al (A.deeper Re) D:=fun q=>hDO (X1.fo D q)
  have hLF':∀b∈L.addrs,¬al (A.deeper Re) b:=fun b hb q=>(hF' b q).elim (fun z=>hFS b hb (z▸.inl rfl)) (hLF b hb)
  have hL3:∀b∈({ L with rd:=some (D,cM L.inf) }:SLay).addrs,¬al (A.deeper Re) b:=fun b hb q=>(sW hb).elim (fun z=>hLF' b z q) fun z=>hDF (z▸q)
  generalize hs5':({ s3 with heap:=h5,toks:=s3.toks+2 }:NL)=s5 at C5 X5 km5
  have S5':SorAt G.prog G.w { L with rd:=some (D,cM L.inf) } s5.heap:=hs5'▸S5
  -- cycle=self._find_cycle()
  refine NT (Oc (pI wf I.mF (fun U U U U U U U U U U U=>rfl) rfl (fun a ha=>nomatch ha) (by decide) hl2 (fZ C5 hself d0 rfl ⟨{ L with rd:=some (D,cM L.inf) },O',rfl,C5.base,S5',N4 ⟨⟨O',C5.base⟩,?_⟩⟩)) rfl rfl)
  refine NS (F5 wf I.toFInfo C5.ok C5.base ⟨X5.fr,X5.fo,X5.fw,rfl⟩ S5' hL3 (C5.base.off _ (hOO _ (by first | exact SLay.m2 | exact SLay.m1 | exact SLay.m0))) clo sm (my hroom (by decide):A.depth+1+30<1000) hr) (fun v s6 h6=>?_) fun U U e=>e
  refine aj h6 fun k6 hv=>?_
  have C6:=C5.ks wf k6 X5.fo fun b i q=>nomatch q
  have X6:=X5.ks k6
  have S6:SorAt G.prog G.w { L with rd:=some (D,cM L.inf) } s6.heap:=S5'.keeps fun b o hb q=>k6.get b o id (hL3 b hb) q
  have rv:Rep O' s6.heap v (mW r):=hv
  show NN _ _ (Ox (.Name ja _) Re v) _ _ s6
  refine Ot (dW (y:=.dat (mW r)) wf (hsto 1) C6 hcyc hstor ⟨v,rfl,rv⟩ fun s7 k7 C7=>?_)
  have S7:SorAt G.prog G.w { L with rd:=some (D,cM L.inf) } s7.heap:=S6.keeps fun b o hb q=>k7.get b o (fun z=>(sW hb).elim (fun y=>hFS b y z.store) fun y=>hDO (y▸C6.fr b z)) q
  -- what is left behind
  have K7:KS (al (A.deeper Re)) (fun b=>b∈L.addrs\/aS Re b) s s7:=by
   have a1:KS (al (A.deeper Re)) (fun b=>b∈L.addrs\/aS Re b) s s5:=((KS.of (KM.of ks1)).trans (KS.of (KM.of k4))).trans (KS.of (km5.mono fun b q=>.inl (by have q:b=L.dx:=q;exact q▸hdxL)))
   exact(a1.trans (k6.mono (fun U q=>q.elim) fun U q=>q)).trans (KS.of (k7.mono fun b q=>.inr q.store))
  have Kfin:KS (al A) (·∈L.addrs) s s7:=by
   obtain⟨h9,t9,rfl,q1,q2⟩:=K7
   refine⟨h9,t9,rfl,fun b o n q=>?_,q2⟩
   have ns:¬aS Re b:=fun z=>by rw[hSt b z]at q;cases q
   refine x12 (q1 b o (fun z=>z.elim n ns) q) fun sl q3 q4=>?_
   exact⟨sl,q3,fun z=>q4 fun y=>(hF' b y).elim (fun w=>ns (w▸.inl rfl)) z⟩
  refine NT (Pr ?_)
  rw[kF rfl]
  refine NM (dL (d:=mW r) C7 hcyc d1 (by rfl) fun v7 rv7=>NM (Od (N8 ?_)))
  cases r with
  | none =>
   cases rv7
   refine truthy_none ?_
   show NN _ _ (OG [] Re) _ _ s7
   exact N1 (N1 (hnx _ (hQ rfl _ D hDs S7 Kfin)))
  | some c =>
   have hc:c≠[]:=sV hr
   cases rv7 with
   | @list aC vsC nC dsC hnC hlC hrC =>
   have hi:=sL hrC
   have hsz:vsC.size=c.length:=by rw[<- cD];exact IntsAre.len hi
   refine wpAny_truthy_list hlC.isList (by have:=hcl c rfl;lia) ?_
   have hne:vsC.isEmpty=false:=by
    cases q:vsC.isEmpty with
    | false=>rfl
    | true =>
     rw[vk,hsz]at q
     exact absurd (List.length_eq_zero_iff.mp q) hc
   rw[hne]
   show NN _ _ (OG [_] Re) _ _ _
   have k8:NX s7 { s7 with toks:=s7.toks+1+1 }:=ar _ _
   have C8:=C7.keeps wf k8
   have X7:=X6.step (F:=No) (Re:=Re) C6 (Step.frame k7) C7
   have X8:=X7.keeps k8
   have S8:=eK S7 k8
   obtain⟨tl,Nn,nm,qn,bs,hdct,sn,sub,ab,col,dd,q0,q1,q2,q3,q5,mN,hC,hN,hni,T⟩:=Ga (C8.base.inK wf) I.exc
   refine NT (wpAny_Raise_call_subU (C:=CE) (nm:=nm) (q:=qn) (N:=Nn) (bs:=bs) (bm:=tl) (hdct:=hdct) (sn:=sn) (sub:=sub) (ab:=ab) (col:=col) (dd:=dd) (k0:=q0) (k1:=q1) (k2:=q2) (k3:=q3) (k5:=q5)
    F.excBase_ValueError (by decide +kernel) F.excBase_ValueError (mN:=mN) (T.hasType (by decide +kernel)) hh rfl hni (ic wf C8.eo C8.base I.glP (by decide +kernel) I.ce ⟨rfl,?_⟩))
   refine Oj (N7 (JoinedStr_one (pos:=j9 28) (PO ?_)))
   have k9:NX { s7 with toks:=s7.toks+1+1 } { s7 with toks:=s7.toks+1+1+1 }:=ar { s7 with toks:=s7.toks+1+1 } (s7.toks+1+1+1)
   have C9:=C8.keeps wf k9
   refine N7 (dL (d:=mW (some c)) C9 hcyc d1 rfl fun u ru=>N4 ⟨rfl,by show 2<=O5;rw[OK];decide,ai k9 _ _ hC,hN.keeps (ai k9),T.keeps (ai k9),fun h' e hm=>?_⟩)
   -- it leaves
   have up:∀b o,s7.heap.get? b=some o->h'.get? b=some o:=fun b o q=>hm.keeps b o q
   have hen:s7.heap.get? e=none:=hm.new
   refine x13 hm.there fun te he1 U U=>?_
   have hes:s.heap.get? e=none:=K7.back hen
   refine x12 X8.fr fun l8 hl8 fr8=>?_
   rw[hfr]at hl8
   cases hl8
   have frh:i5 (Re::outer) h':=fun v hv=>(fr8 v hv).elim fun h1 ζ=>ζ.elim fun L' ζ=>ζ.elim fun o ζ=>ζ.elim fun es ζ=>ζ.elim fun n ζ=>ζ.elim fun h2 ζ=>ζ.elim fun h3 h4=>⟨h1,L',o,es,n,h2,up _ _ h3,h4⟩
   refine hex _ _ (Fd (s:={ s7 with heap:=h',toks:=s7.toks+1+1+1 }) hfr hL (sJ frh ⟨_,_,_,he1,rfl,rfl,rfl,rfl⟩) fun h2 T2 u2=>?_)
   have nu:∀b o,b≠e->¬al (A.deeper Re) b->s7.heap.get? b=some o->(gL (Re::outer) e h').get? b=some o:=fun b o n nf q=>sI (up b o q) n fun z=>nf ⟨_,hfr,z⟩
   have SB:SorAt G.prog G.w { L with rd:=some (D,cM L.inf) } (gL (Re::outer) e h'):=S7.keeps fun b o hb q=>nu b o (fun z=>by rw[z,hen]at q;cases q) (hL3 b hb) q
   have nF:∀b o,¬al A b->s.heap.get? b=some o->¬al (A.deeper Re) b:=fun b o n q z=>(hF' b z).elim (fun w=>by rw[w,hSt _ (.inl rfl)]at q;cases q) n
   have sB:∀b o,¬al A b->b∉L.addrs->s.heap.get? b=some o->(gL (Re::outer) e h').get? b=some o:=fun b o n nL q =>
    nu b o (fun z=>by rw[z,hes]at q;cases q) (nF b o n q) (Kfin.get b o nL n q)
   exact hE (fun z=>nomatch z) _ e _ D (by rw[hfo];exact T2) hes hDs SB sB (KS.noted (s₁:=s7) X Kfin sB (fun b n=>SB.there (ye hrd n)) T2.1 ((Heap.UpToSlots.of_keeps up).trans u2))
end
end
section
open PySem PySem.W PyProof.Rows PySem.Spec PySem.SeqAt
set_option genCtorIdx false
noncomputable def gb(G:Glo)(F:FEntry):Prop:=∃a o fd,G.mg F.name=some (.ref a)/\G.K.lookup a=some o/\o.data=.func fd /\
 ∀(A:N0) (s:NL) (O:NQ->Prop) (vs:List NO) (ds:List NR) (E:NO->NL->Prop),aK F.k A->Okay A O s->G.Base O s.heap->FX A O (fun U=>none) s->RepL O s.heap vs ds->F.pre ds ->
  NN (NP G.prog G.w) A (call (.ref a) vs) (fun v s'=>KS (al A) No s s'/\Rep O s'.heap v (F.val ds)) E s
inductive EX where
 | ix (e:IX)
 | rc (f:Nat) (es:IX)
 | and (a b:EX)
 | cmp (op:CmpOp) (a b:EX)
noncomputable def EX.ctorIdx(t:EX):Nat:=EX.casesOn t (fun U=>0) (fun U U=>1) (fun U U=>2) (fun U U U=>3)
inductive TX where
 | cmp (op:CmpOp) (a b:EX)
 | tr (f:Nat) (es:IX)
noncomputable def TX.ctorIdx(t:TX):Nat:=TX.casesOn t (fun U U U=>0) (fun U U=>1)
section
variable(Ψ Φ:List FEntry)
noncomputable def bC:EX->List SV->NR
 | .ix e,ρ=>den Φ e ρ
 | .rc f es,ρ=>(Ψ.getD f .nope).val (bL Φ es ρ)
 | .and a b,ρ=>if aq (bC a ρ)then bC b ρ else .bool false
 | .cmp op a b,ρ=>.bool (iS op (bC a ρ) (bC b ρ))
noncomputable def gc:EX->List SV->Prop
 | .ix e,ρ=>pre Φ e false ρ
 | .rc f es,ρ=>eH Φ es ρ/\(Ψ.getD f .nope).pre (bL Φ es ρ)
 | .and a b,ρ=>gc a ρ/\ec (bC Ψ Φ a ρ)=true/\(aq (bC Ψ Φ a ρ)=true->gc b ρ)
 | .cmp op a b,ρ=>gc a ρ/\gc b ρ/\mc op (bC Ψ Φ a ρ) (bC Ψ Φ b ρ)
noncomputable def kE:EX->Nat
 | .ix e=>kx Φ e
 | .rc f es=>max (kx Φ es) ((Ψ.getD f .nope).k+1)
 | .and a b=>max (kE a) (kE b)
 | .cmp _ a b=>max (kE a) (kE b)
noncomputable def fC:EX->Scope->List (Option Str)->Expr->Bool
 | .ix e,sc,Rc,ast=>chk Φ e sc Rc ast
 | .rc f es,sc,Rc,e=>jt e fun g U args U=>(Ψ.getD f .nope).name==g&&g != ofString "__debug__"&&decide (f<Ψ.length)&&bO sc g&&ca Φ es sc Rc args
 | .and a b,sc,Rc,e=>vY e fun x y U=>fC a sc Rc x&&fC b sc Rc y
 | .cmp op a b,sc,Rc,e=>oY e fun l o r U=>o==op&&fC a sc Rc l&&fC b sc Rc r&&!behindInMarks o r
noncomputable def gN:TX->List SV->Bool
 | .cmp op a b,ρ=>iS op (bC Ψ Φ a ρ) (bC Ψ Φ b ρ)
 | .tr f es,ρ=>aq (bC Ψ Φ (.rc f es) ρ)
noncomputable def sX:TX->List SV->Prop
 | .cmp op a b,ρ=>gc Ψ Φ a ρ/\gc Ψ Φ b ρ/\mc op (bC Ψ Φ a ρ) (bC Ψ Φ b ρ)
 | .tr f es,ρ=>gc Ψ Φ (.rc f es) ρ/\ec (bC Ψ Φ (.rc f es) ρ)=true
noncomputable def kT:TX->Nat
 | .cmp _ a b=>max (kE Ψ Φ a) (kE Ψ Φ b)
 | .tr f es=>kE Ψ Φ (.rc f es)
noncomputable def yf:TX->Scope->List (Option Str)->Expr->Bool
 | .cmp op a b,sc,Rc,e=>oY e fun l o r U=>o==op&&fC Ψ Φ a sc Rc l&&fC Ψ Φ b sc Rc r&&!behindInMarks o r
 | .tr f es,sc,Rc,e=>fC Ψ Φ (.rc f es) sc Rc e
end
section
variable{G:Glo}{Ψ Φ:List FEntry}
theorem Rep.ks(k:KS (al A) No s s')(fo:∀b,al A b->O b)(r:Rep O s.heap v d):Rep O s'.heap v d :=
 r.mono (fun b o n e=>k.get b o id (fun q=>n (fo b q)) e) fun U U U q=>q
theorem FX.w0(X:FX A O ω s):FX A O (fun U=>none) s:=⟨X.fr,X.fo,fun b i q=>(nomatch q),X.hn⟩
variable(G Ψ Φ)in
noncomputable def pO(e:EX):Prop:=∀sc Rc ast Re A O ω ρ s E,fC Ψ Φ e sc Rc ast=true->Cond G Re sc Rc A O ω ρ s->FX A O ω s->aK (kE Ψ Φ e) A->gc Ψ Φ e ρ ->
 NN (NP G.prog G.w) A (N6 ast Re) (fun v s'=>KS (al A) No s s'/\Rep O s'.heap v (bC Ψ Φ e ρ)) E s
theorem yg(wf:G.Wf)(hF:∀F∈Φ,aM G F)(hR:∀F∈Ψ,gb G F)(f:Nat)(es:IX):pO G Ψ Φ (.rc f es):=by
 intro sc Rc ast Re A O ω ρ s E hc C X R hp
 refine kj (P:=fun ast=>NN (NP G.prog G.w) A (N6 ast Re) (fun v s'=>KS (al A) No s s'/\Rep O s'.heap v (bC Ψ Φ (.rc f es) ρ)) E s) hc fun g np args pos hc=>?_
 refine hV hc fun hn hd hl hg ha=>?_
 have hl:=of_decide_eq_true hl
 have hmem:Ψ.getD f .nope∈Ψ:=by
  rw[av,bw hl]
  exact M4 hl
 refine x34 (hR _ hmem) fun a o fd e1 e2 e3 ct=>?_
 refine eh (jE es ha) (ic wf C.eo C.base hg (by simpa using bne_iff_ne.mp hd) (NY hn▸e1) ?_)
 refine PM (o:=o) (fd:=fd) (ii (NS ((snd wf hF es).ls sc Rc args Re A O ω ρ s E ha C (R.le (aT _ _)) hp.1) (fun vs s₁ h₁=>?_) fun U U x=>x))
 have C1:=C.keeps wf h₁.1
 refine⟨⟨C1.base.kp a o (wf.K a o e2),e3⟩,?_⟩
 exact NS (ct A s₁ O vs _ E (R.le (ae (oF _) (aE _ _))) C1.ok C1.base (X.keeps h₁.1).w0 h₁.2 hp.2) (fun v s₂ h₂=>⟨(KS.of (KM.of h₁.1)).trans h₂.1,h₂.2⟩) fun U U x=>x
theorem yh(iha:pO G Ψ Φ a)(ihb:pO G Ψ Φ b){E:NO->NL->Prop}(wf:G.Wf)(c1:fC Ψ Φ a sc Rc l=true)(c2:fC Ψ Φ b sc Rc r=true)(C:Cond G Re sc Rc A O ω ρ s)(X:FX A O ω s)(R:aK (kE Ψ Φ (.cmp op a b)) A)(hp:gc Ψ Φ (.cmp op a b) ρ)(hQ:∀s',KS (al A) No s s'->Q (.bool (iS op (bC Ψ Φ a ρ) (bC Ψ Φ b ρ))) s') :
 NN (NP G.prog G.w) A (N6 l Re) (fun v s₁=>NN (NP G.prog G.w) A (N6 r Re) (fun u s₂=>NN (NP G.prog G.w) A (compareOp op v u) Q E s₂) E s₁) E s:=by
 refine NS (iha sc Rc l Re A O ω ρ s E c1 C X (R.le (aT _ _)) hp.1) (fun v s₁ h₁=>?_) fun U U x=>x
 refine NS (ihb sc Rc r Re A O ω ρ s₁ E c2 (C.ks wf h₁.1 X.fo X.fw) (X.ks h₁.1) (R.le (aE _ _)) hp.2.1) (fun u s₂ h₂=>?_) fun U U x=>x
 refine NS (rO R.units (.of (h₁.2.ks h₂.1 X.fo)) (.of h₂.2) hp.2.2) (fun v s₃ h₃=>?_) fun U U x=>x
 refine aj h₃ fun e0 k3=>?_;subst e0
 exact hQ s₃ ((h₁.1.trans h₂.1).trans (KS.of (KM.of k3)))
theorem sY(wf:G.Wf)(hF:∀F∈Φ,aM G F)(hR:∀F∈Ψ,gb G F):∀e:EX,pO G Ψ Φ e:=by
 intro e
 induction e with
 | ix e =>
  intro sc Rc ast Re A O ω ρ s E hc C X R hp
  exact NS ((snd wf hF e).ev sc Rc ast false Re A O ω ρ s E hc C R hp) (fun v s' h=>⟨KS.of (KM.of h.1),h.2.ff⟩) fun U U x=>x
 | rc f es=>exact yg wf hF hR f es
 | and a b iha ihb =>
  intro sc Rc ast Re A O ω ρ s E hc C X R hp
  refine Cp (P:=fun ast=>NN (NP G.prog G.w) A (N6 ast Re) (fun v s'=>KS (al A) No s s'/\Rep O s'.heap v (bC Ψ Φ (.and a b) ρ)) E s) hc fun x y p hc=>?_
  refine a7 hc fun c1 c2=>?_
  rw[arm_eval_BoolOp]
  show NN _ _ (N6 x Re >>= fun v=>PZ p >>= fun U=>PY [v] (truthy v) >>= fun t=>(match BoolOp.And,t with | .And,false=>pure v | .Or,true=>pure v | _,_=>boolOp p .And (evalEach [y] Re))) _ _ s
  refine NM (NS (iha sc Rc x Re A O ω ρ s E c1 C X (R.le (aT _ _)) hp.1) (fun v s₁ h₁=>?_) fun U U x=>x)
  cases mH h₁.2 hp.2.1
  refine NM (Od (NM (N8 (Oi ?_))))
  rw[show bC Ψ Φ (.and a b) ρ=if aq (bC Ψ Φ a ρ)=true then bC Ψ Φ b ρ else .bool false from rfl]
  cases ht:aq (bC Ψ Φ a ρ)with
  | false=>exact NU ⟨h₁.1,.bool _⟩
  | true =>
   show NN _ _ (N6 y Re) _ _ s₁
   exact NS (ihb sc Rc y Re A O ω ρ s₁ E c2 (C.ks wf h₁.1 X.fo X.fw) (X.ks h₁.1) (R.le (aE _ _)) (hp.2.2 ht)) (fun v s₂ h₂=>⟨h₁.1.trans h₂.1,h₂.2⟩) fun U U x=>x
 | cmp op a b iha ihb =>
  intro sc Rc ast Re A O ω ρ s E hc C X R hp
  refine oZ (P:=fun ast=>NN (NP G.prog G.w) A (N6 ast Re) (fun v s'=>KS (al A) No s s'/\Rep O s'.heap v (bC Ψ Φ (.cmp op a b) ρ)) E s) hc fun l o r p hc=>?_
  refine fm hc fun ho c1 c2 c3=>?_
  cases NY ho
  exact wpAny_Compare1 (yh iha ihb wf c1 c2 C X R hp fun s' k=>⟨k,.bool _⟩) (M1 _▸c3)
theorem Gc(wf:G.Wf)(hF:∀F∈Φ,aM G F)(hR:∀F∈Ψ,gb G F)(e:TX):∀sc Rc ast Re A O ω ρ s E,yf Ψ Φ e sc Rc ast=true->Cond G Re sc Rc A O ω ρ s->FX A O ω s->aK (kT Ψ Φ e) A->sX Ψ Φ e ρ ->
 NN (NP G.prog G.w) A (isTrue ast Re (N6 ast Re)) (fun b s'=>b=gN Ψ Φ e ρ/\KS (al A) No s s') E s:=by
 intro sc Rc ast Re A O ω ρ s E hc C X R hp
 cases e with
 | cmp op a b =>
  refine oZ (P:=fun ast=>NN (NP G.prog G.w) A (isTrue ast Re (N6 ast Re)) (fun r s'=>r=gN Ψ Φ (.cmp op a b) ρ/\KS (al A) No s s') E s) hc fun l o r p hc=>?_
  refine fm hc fun ho c1 c2 c3=>?_
  cases NY ho
  exact OA (yh (sY wf hF hR a) (sY wf hF hR b) wf c1 c2 C X R hp fun s' k=>Oi ⟨rfl,k⟩) (M1 _▸c3)
 | tr f es =>
  replace hc:fC Ψ Φ (.rc f es) sc Rc ast=true:=hc
  rw[kF (kj (P:=fun ast=>dI ast=true) hc fun U U U U U=>rfl)]
  refine NM (NS (yg wf hF hR f es sc Rc ast Re A O ω ρ s E hc C X R hp.1) (fun v s₁ h₁=>NM (Od (N8 ?_))) fun U U x=>x)
  rw[mH h₁.2 hp.2]
  exact Oi ⟨rfl,h₁.1⟩
end
theorem Step.ks(k:KS (al A) No s s'):Step (Fz true A) Re O ω s O ω s' :=
 ⟨k.mono (fun U q=>q.elim) fun U q=>⟨rfl,q⟩,fun U h U=>h,fun U h=>.inl h,fun U U h=>.inl h⟩
set_option backward.match.sparseCases false in
noncomputable def pQ:Expr->Bool
 | .ListComp ..=>false
 | .SetComp ..=>false
 | .DictComp ..=>false
 | _=>true
section
variable{G:Glo}{Ψ Φ:List FEntry}
noncomputable def sZ(Ψ Φ:List FEntry)(e:EX):Prim where
 chk sc Rc st:=lY st fun v U=>fC Ψ Φ e sc Rc v
 k:=kE Ψ Φ e
 pre ρ:=gc Ψ Φ e ρ
 den ρ:=(.ret (bC Ψ Φ e ρ),ρ)
theorem Gd(e:EX)(wf:G.Wf)(hF:∀F∈Φ,aM G F)(hR:∀F∈Ψ,gb G F):cZ G true (sZ Ψ Φ e):=by
 intro sc Rc st Re A O ω ρ s E Q hc hsto C hX R hp hQ
 refine oX (P:=fun st=>NN (NP G.prog G.w) A (Oy st Re) Q E s) hc fun v pos hc=>?_
 have X:=(hX rfl).toFX
 show NN _ A (PZ pos >>= fun U=>N6 v Re >>= fun u=>pure (.ret u)) Q E s
 refine NM (Od (NM (NS (sY wf hF hR e sc Rc v Re A O ω ρ s E hc C X R hp) (fun u s₁ h₁=>NU ?_) fun U U x=>x)))
 exact hQ O ω s₁ (.ret u) (Step.ks h₁.1) (C.ks wf h₁.1 X.fo X.fw) ⟨u,rfl,h₁.2⟩
noncomputable def jQ(Ψ Φ:List FEntry)(c:TX)(a b:SX):Prim where
 chk sc Rc st:=oS st fun test body orelse U=>yf Ψ Φ c sc Rc test&&cf Φ a sc Rc body&&cf Φ b sc Rc orelse
 k:=max (kT Ψ Φ c) (max (kS Φ a) (kS Φ b))
 pre ρ:=sX Ψ Φ c ρ/\(gN Ψ Φ c ρ=true->bf Φ a ρ)/\(gN Ψ Φ c ρ=false->bf Φ b ρ)
 den ρ:=if gN Ψ Φ c ρ=true then au Φ a ρ else au Φ b ρ
theorem yi(c:TX)(a b:SX)(wf:G.Wf)(hF:∀F∈Φ,aM G F)(hR:∀F∈Ψ,gb G F)(ha:dX G true a)(hb:dX G true b):cZ G true (jQ Ψ Φ c a b):=by
 intro sc Rc st Re A O ω ρ s E Q hc hsto C hX R hp hQ
 dsimp only[jQ]at hQ
 refine vF (P:=fun st=>NN (NP G.prog G.w) A (Oy st Re) Q E s) hc fun test body orelse pos hc=>?_
 refine eD hc fun c1 c2 c3=>?_
 have X:=(hX rfl).toFX
 refine Pr (NS (Gc wf hF hR c sc Rc test Re A O ω ρ s E c1 C X (R.le (aT _ _)) hp.1) (fun t s₁ h₁=>?_) fun U U x=>x)
 refine aj h₁ fun e0 k1=>?_;subst e0
 have C1:=C.ks wf k1 X.fo X.fw
 have X1:true=true->FXE Re A O ω s₁:=fun U=>⟨X.ks k1,(hX rfl).top,(hX rfl).ef⟩
 cases ht:gN Ψ Φ c ρ with
 | true =>
  rw[if_pos ht]at hQ
  exact py wf hF a ha sc Rc body Re A O ω ρ s₁ E Q c2 hsto C1 X1 (R.le (ae (aT _ _) (aE _ _))) (hp.2.1 ht) fun O' ω' s' fl hs C' hf=>hQ O' ω' s' fl ((Step.ks k1).trans C.ok.obs hs) C' hf
 | false =>
  rw[if_neg (by rw[ht];exact MY)]at hQ
  exact py wf hF b hb sc Rc orelse Re A O ω ρ s₁ E Q c3 hsto C1 X1 (R.le (ae (aE _ _) (aE _ _))) (hp.2.2 ht) fun O' ω' s' fl hs C' hf=>hQ O' ω' s' fl ((Step.ks k1).trans C.ok.obs hs) C' hf
theorem Ge(wf:G.Wf)(hF:∀F∈Φ,aM G F)(S:SX)(hP:dX G true S)(F:FEntry){a:NQ}{fd:Of}{body:List NW}{names vars:List Str}
 (e1:G.mg F.name=some (.ref a)) (FI:FnInfo G a fd body names vars)
 (hbind:∀vs:List NO,vs.length=names.length->O8 fd ⟨vs,[]⟩=pure (names.zip vs))
 (hchk:cf Φ S fd.scope (vars.map some) body=true) (hk:kS Φ S+1<=F.k)
 (hpre:∀ds,F.pre ds->ds.length=names.length/\bf Φ S (bg vars ds)/\(au Φ S (bg vars ds)).1=.ret (F.val ds)):gb G F:=by
 refine x12 FI.at_ fun o e2 hd=>?_
 refine⟨a,o,fd,e1,e2,hd,fun A s O vs ds E R ok B X r hp=>?_⟩
 refine cT (hpre ds hp) fun h1 h2 h3=>?_
 have hvl:vs.length=names.length:=by rw[r.length,h1]
 refine O1 (sM (s:=s) (O:=O) (ys:=ds.map .dat) wf FI ok B (pE r) hvl (by simp[h1]) (R.fits (cj _)) (hbind vs hvl) fun Re O' s₁ hL k1 hO1 hO2 hSt hsto C Qf Ef hret hnx hex=>?_)
 obtain⟨X1,hF',outer,_,hfr⟩:=X.deeper k1 C hL hO1
 refine py wf hF S hP fd.scope (vars.map some) body _ _ O' _ _ s₁ _ _ hchk hsto C (fun U=>⟨X1,⟨outer,hfr⟩,hL⟩) (R.deeper hk) h2 fun O'' ω'' s' fl st C' hf=>?_
 rw[show(au Φ S (cw vars (ds.map SV.dat))).1=.ret (F.val ds)from h3]at hf
 refine x12 hf fun v e1 rv=>?_;subst e1
 refine hret _ _ ⟨?_,rv.weak fun b q=>st.o1 b (hO1 b q) fun i z=>by cases z⟩
 obtain⟨h2,t2,rfl,k2,th2⟩:=st.km
 obtain⟨h1,t1,rfl,k1⟩:=k1
 refine⟨h2,t2,rfl,fun b o U q=>?_,fun b o q=>th2 b o (k1 b o q)⟩
 have ns:¬aS Re b:=fun z=>by rw[hSt b z]at q;cases q
 obtain⟨sl,q1,q2⟩:=k2 b o (fun z=>z.elim (fun z=>ns z.store) fun ζ=>ζ.elim fun i z=>by cases z) (k1 b o q)
 exact⟨sl,q1,fun z=>q2 fun y=>(hF' b y.2).elim (fun w=>ns (w▸.inl rfl)) z⟩
end
end
section
open PySem PySem.W PyProof.Rows PySem.Spec PySem.SeqAt PySem.Calls
noncomputable def pR(prog:Ol)(w:Og)(g:Srt)(S:NQ->Prop)(h:N9)(v:NO):Prop :=
 ∃L:SLay,v=.ref L.x/\SorAt prog w L h/\(∀b,S b↔b∈L.addrs)/\L.gr=g.nodes/\L.rd.map (·.2)=g.ready/\L.po=g.passed/\L.fi=g.finished
theorem Gf{prog:Ol}{w:Og}{g:Srt}{S:NQ->Prop}{h h':N9}{v:NO}(r:pR prog w g S h v)(k:∀b o,S b->h.get? b=some o->h'.get? b=some o):pR prog w g S h' v:=by
 refine x14 r fun L e S1 hS r=>?_
 exact⟨L,e,S1.keeps fun b o hb q=>k b o ((hS b).mpr hb) q,hS,r⟩
noncomputable def td:Str:=ofString "TopologicalSorter"
noncomputable def tg:Str:=ofString "add"
noncomputable def yj:Str:=ofString "prepare"
noncomputable def Gg:Str:=ofString "CycleError"
structure SorG(G:Glo):Prop where
 sr:∀g S h v,G.SR g S h v↔pR G.prog G.w g S h v
 T:TInfo G fdT bT
 A:SA G
 P:PInfo G
 gT:G.mg td=some (.ref TS)
 kT:keepIn G.K (.ref TS)=true
 mA:kN G.K TS tg lR=true
 mP:kN G.K TS yj fP=true
 ce:exmOne G.K (.ref CE) (.ref CE)=some true
section
variable{G:Glo}{Φ:List FEntry}{Re:Env}{sc:Scope}{Rc:List (Option Str)}{A:N0}{O:NQ->Prop}{ω:NQ->Option Nat}{ρ:List SV}{s s':NL}{E:NO->NL->Prop}
theorem yl{F F':NQ->Prop}{S S':NQ->Prop}{g':Srt}(wf:G.Wf)(C:Cond G Re sc Rc A O ω ρ s)(Fv:FrameV Re s.heap val)(V:gz G O ω s.heap Rc ρ val)(hx:Rc[i]? = some (some x))(hv:val x=some u)
 (k:KS F S s s') (fo:∀b,F b->O b) (fw:∀b i,ω b=some i->¬F b) (hF:∀b,F b->F' b) (hS:∀b,S b->ω b=some i) (hS':∀b,S' b->S b\/s.heap.get? b=none) (h3:∀b,S' b->∃o,s'.heap.get? b=some o) (r:G.SR g' S' s'.heap u) :
 ∃O' ω',Step F' Re O ω s O' ω' s'/\Cond G Re sc Rc A O' ω' (ρ.set i (.sor g')) s':=by
 classical
 have hnone:∀b,S' b->¬S b->s.heap.get? b=none:=fun b q n=>(hS' b q).elim (fun z=>absurd z n) id
 have hw:∀b j,ω b=some j->(if S' b then some i else ω b)=some j:=fun b j e=>by
  by_cases q:S' b
  ·rw[if_pos q]
   rcases hS' b q with z | z
   ·rw[hS b z]at e;exact e
   ·refine x11 (C.ok.obs b (C.om b j e).1) fun o e'=>?_
    rw[z]at e';cases e'
  ·rw[if_neg q];exact e
 have hO:∀b o,s.heap.get? b=some o->(O b\/S' b)->O b:=fun b o e q=>by
  rcases q with q | q
  ·exact q
  ·rcases hS' b q with z | z
   ·exact(C.om b i (hS b z)).1
   ·rw[z]at e;cases e
 have kk:∀b o,¬O b->s.heap.get? b=some o->s'.heap.get? b=some o:=fun b o n e=>k.get b o (fun q=>n (C.om b i (hS b q)).1) (fun q=>n (fo b q)) e
 have kw:∀b o j,j≠i->ω b=some j->s.heap.get? b=some o->s'.heap.get? b=some o:=fun b o j n e q=>k.get b o (fun z=>by rw[hS b z]at e;cases e;exact n rfl) (fw b j e) q
 refine⟨fun b=>O b\/S' b,fun b=>if S' b then some i else ω b,⟨k.mono (fun b q=>.inr ⟨i,hS b q⟩) hF,fun b q U=>.inl q,fun b q=>?_,fun b j e=>?_⟩,C.eo,C.co,by rw[Nz];exact C.len,⟨C.ok.hok.frame fun b hb o e=>kk b o (C.ok.hno b hb) e,fun b hb q=>?_,fun b q=>?_⟩,
  ⟨fun b o e=>kk b o (fun q=>by rw[C.base.off b q]at e;cases e) (C.base.kp b o e),fun b q=>?_⟩,fun b q=>.inl (C.fr b q),fun y c e=>.inl (C.fc y c e),fun b j e=>?_,val,Fv.slots fun b o hb e=>k.slot b o (fun q=>(C.om b i (hS b q)).2 hb) e,fun j y hy=>?_⟩
 ·rcases q with q | q
  ·exact .inl q
  ·rcases hS' b q with z | z
   ·exact .inl (C.om b i (hS b z)).1
   ·exact .inr z
 ·by_cases q:S' b
  ·rcases hS' b q with z | z
   ·simp only[q,if_true]at e
    exact .inl (by rw[hS b z,e])
   ·exact .inr z
  ·simp only[q,if_false]at e;exact .inl e
 ·refine x11 (C.ok.hok.there b hb) fun o e=>?_
  exact C.ok.hno b hb (hO b o e q)
 ·rcases q with q | q
  ·refine x11 (C.ok.obs b q) fun o e=>?_;exact k.there b o e
  ·exact h3 b q
 ·rcases q with q | q
  ·exact C.base.off b q
  ·cases e:G.hB.get? b with
   | none=>rfl
   | some o=>rw[<- e];exact C.base.off b (hO b o (C.base.kp b o e) (.inr q))
 ·by_cases q:S' b
  ·simp only[q,if_true]at e
   cases e
   refine⟨.inr q,fun z=>?_⟩
   rcases hS' b q with y | y
   ·exact(C.om b i (hS b y)).2 z
   ·refine x11 (C.ok.obs b (C.store_O z)) fun o e'=>?_
    rw[y]at e';cases e'
  ·simp only[q,if_false]at e
   exact⟨.inl (C.om b j e).1,(C.om b j e).2⟩
 ·rw[dq]
  by_cases h:i=j
  ·subst h
   have:y=x:=by rw[hx]at hy;cases hy;rfl
   subst this
   split
   ·exact⟨u,S',hv,r,fun b q=>if_pos q⟩
   ·rename_i h2
    have:ρ.getD i .un=.un:=by
     rw[av,M6 (by simpa using h2)];rfl
    rw[this];trivial
  ·rw[if_neg (fun z=>h z.1)]
   have hj:j≠i:=fun q=>h q.symm
   have hr:=V j y hy
   generalize ρ.getD j .un=z at hr ⊢
   cases z with
   | dat d=>refine x12 hr fun u' e r=>?_;exact⟨u',e,r.mono kk hO⟩
   | own d =>
    obtain⟨a,vs,n,ds,e1,e2,e3,h1,h2⟩:=hr
    exact⟨a,vs,n,ds,e1,hw a j e2,e3,kw a _ j hj e2 h1,h2.mono kk hO⟩
   | un=>trivial
   | val u'=>exact hr
   | dic l=>exact x13 hr fun a e1 e2 r=>⟨a,e1,hw a j e2,r.at fun o=>kw a o j hj e2⟩
   | sor g =>
    refine x23 hr fun u' T e r hT=>?_
    exact⟨u',T,e,wf.srf g T s.heap s'.heap u' r (fun b o q e=>kw b o j hj (hT b q) e) (fun b o q=>C.base.kp b o q) (fun b o q=>kk b o (fun z=>by rw[C.base.off b z]at q;cases q) (C.base.kp b o q)),fun b q=>hw b j (hT b q)⟩
noncomputable def kX(x:Str):Bool:=x != ofString "__debug__"
noncomputable def ym:Srt:=⟨[],none,0,0⟩
noncomputable def tj(i:Nat):Prim where
 chk sc Rc st:=eF st fun t v U=>bv t fun x U=>jt v fun g U as U=>v0 as (Rc[i]? == some (some x)&&aW sc x&&g==td&&bO sc g)
 k:=0
 pre _:=True
 den ρ:=(.next,ρ.set i (.sor ym))
theorem Gh(i:Nat)(wf:G.Wf)(I:SorG G):cZ G X (tj i):=by
 intro sc Rc st Re A O ω ρ s E Q hc hsto C hX R hp hQ
 refine v9 (P:=fun st=>NN (NP G.prog G.w) A (Oy st Re) Q E s) (f:=fun x g as=>v0 as (Rc[i]? == some (some x)&&aW sc x&&g==td&&bO sc g)) hc fun x p g gp as cp pos hc=>?_
 refine eE (P:=fun as=>NN (NP G.prog G.w) A (Oy (.Assign [.Name x p] (.Call (.Name g gp) as [] cp) pos) Re) Q E s) hc fun hc=>?_
 refine fm hc fun hi hk hgn hg=>?_
 cases NY hgn
 have hi:=NY hi
 refine Oc (eh (fun a ha=>nomatch ha) (ic wf C.eo C.base hg (by decide +kernel) I.gT ?_)) rfl rfl
 refine callWith_of (P:=fun h=>G.K.In h) rfl (keeps_K I.kT) (ii (as:=[]) (Re:=Re) (N4 ⟨C.base.inK wf,?_⟩))
 refine NS (EY wf I.T C.ok C.base (by have:=R.1;lia)) (fun v s₁ h₁=>?_) fun U U e=>e
 obtain⟨L,rfl,k1,hnew,S1,e1,e2,e3,e4⟩:=h₁
 have C1:=C.keeps wf k1
 -- the new addresses are the slot's
 show NN _ A (Ox (.Name x p) Re (.ref L.x)) _ _ s₁
 have hOn:∀b∈L.addrs,¬O b:=fun b hb q=>by
  refine x11 (C.ok.obs b q) fun o e=>?_
  rw[hnew b hb]at e;cases e
 classical
 have hgr:Grow O ω s (fun b=>O b\/b∈L.addrs) (fun b=>if b∈L.addrs then some i else ω b) s₁:=⟨k1,fun b h=>.inl h,fun b h=>h.imp id fun q=>hnew b q,fun b j h=>by
  rw[if_neg fun q=>hOn b q (C.om b j h).1];exact h,fun b j h=>by
  by_cases q:b∈L.addrs
  ·exact .inr (hnew b q)
  ·rw[if_neg q]at h;exact .inl h⟩
 have C2':=C.grow wf k1 hgr.oo hgr.o2 (fun b q=>q.elim (fun q=>by refine x11 (C.ok.obs b q) fun o e=>?_;exact⟨o,ai k1 b o e⟩) fun q=>S1.there q)
 have C2:Cond G Re sc Rc A (fun b=>O b\/b∈L.addrs) (fun b=>if b∈L.addrs then some i else ω b) ρ s₁:=by
  obtain⟨val,F,V⟩:=C.vars
  refine⟨C2'.eo,C2'.co,C2'.len,C2'.ok,C2'.base,C2'.fr,C2'.fc,fun b j h=>?_,val,F.keeps (ai k1),fun j y hy=>hgr.rep wf C.base (V j y hy)⟩
  by_cases q:b∈L.addrs
  ·exact⟨.inr q,fun z=>hOn b q (C.store_O z)⟩
  ·rw[if_neg q]at h
   exact⟨.inl (C.om b j h).1,(C.om b j h).2⟩
 refine Ot (dW (y:=.sor ym) wf (hsto i) C2 hi hk ⟨_,(·∈L.addrs),rfl,(I.sr _ _ _ _).mpr ⟨L,rfl,S1,fun b=>Iff.rfl,?_,?_,e3,e4⟩,fun b q=>if_pos q⟩ fun s' k C'=>hQ _ _ s' .next (hgr.step.trans C.ok.obs (Step.frame k)) C' rfl)
 ·unfold SLay.gr;rw[e1];rfl
 ·rw[e2];rfl
noncomputable def tm(y:SV)(ds:List NR):SV:=match y,ds with
 | .sor g,.int k::ds=>.sor { g with nodes:=jM k (ds.map bi) g.nodes }
 | _,_=>.un
noncomputable def yn(y:SV)(ds:List NR):Prop:=∃g k pk,y=.sor g/\ds=.int k::List.map Oo pk/\pk.length<=8/\g.ready=none/\g.nodes.length+20<=10000/\∀q∈g.nodes,q.2.2.length+20<=1000000
theorem Gi{X:Bool}{i:Nat}{x:Str}{val:Str->Option NO}{vs:List NO}{ds:List NR}{u:NO}{T:NQ->Prop}{g:Srt}{Q:NO->NL->Prop}(wf:G.Wf)(I:SorG G)
 (C:Cond G Re sc Rc A O ω ρ s) (Fv:FrameV Re s.heap val) (V:gz G O ω s.heap Rc ρ val) (hx:Rc[i]? = some (some x)) (hv:val x=some u) (hy:ρ.getD i .un=.sor g) {L:SLay} (hu:u=.ref L.x) (S:SorAt G.prog G.w L s.heap) (hT:∀b,T b↔b∈L.addrs) (hg:L.gr=g.nodes) (hr:L.rd.map (·.2)=g.ready) (hpo:L.po=g.passed) (hfi:L.fi=g.finished)
 (hω:∀b,T b->ω b=some i) (R:aK 0 A) (hp:yn (.sor g) ds) (rv:RepL O s.heap vs ds)
 (hQ:∀O' ω' s',Step (Fz X A) Re O ω s O' ω' s'->Cond G Re sc Rc A O' ω' (ρ.set i (tm (.sor g) ds)) s'->Q .none s'):O3 (NP G.prog G.w) A (.call (.ref lR) ⟨.ref L.x::vs,[]⟩) (fun r s'=>match r with | .ok (.ret v)=>Q v s' | .ok _=>False | .error e=>E e s') s:=by
 refine x36 hp fun g' k pk e1 e4 hlen hrd hsz hsu=>?_;subst e4
 cases e1
 cases rv with
 | @cons v _ vs _ r1 r2 =>
 cases r1 with
 | int _ t =>
 have hps:=sL r2
 have hrd':L.rd=none:=by
  cases q:L.rd with
  | none=>rfl
  | some z=>rw[q,hrd]at hr;cases hr
 have hOL:∀b∈L.addrs,O b:=fun b hb=>(C.om b i (hω b ((hT b).mpr hb))).1
 have hgl:L.inf.length=g.nodes.length:=by rw[<- hg];simp[SLay.gr]
 refine codeAny_mono (EV (E:=E) wf I.A C.ok C.base hOL S hrd' hps (by rw[IntsAre.len hps];exact hlen) (by have:=R.1;lia) (by lia) (fun f hf=>hsu (f.key,f.np,f.su) (by rw[<- hg];exact aJ.mpr ⟨f,hf,rfl⟩))) fun r s₁ h₁=>?_
 rcases r with e | f
 ·exact h₁
 rcases f with _ | _ | _ | v<;>first | exact h₁.elim | skip
 obtain⟨rfl,L',S',hsame,hgr,km,hnew⟩:=h₁
 have hpk:(pk.map Oo).map bi=pk:=by
  rw[fk];exact List.map_id pk
 have hsr:G.SR { g with nodes:=jM k ((pk.map Oo).map bi) g.nodes } (·∈L'.addrs) s₁.heap u :=
  (I.sr _ _ _ _).mpr ⟨L',by rw[hu,hsame.x],S',fun b=>Iff.rfl,by rw[hgr,hpk,hg],by rw[hsame.rd,hr],by rw[hsame.po,hpo],by rw[hsame.fi,hfi]⟩
 refine x22 (yl (F:=fun U=>False) (F':=Fz X A) (i:=i) wf C Fv V hx hv (KS.of (km.mono fun b q=>(hT b).mpr q)) (fun U q=>q.elim) (fun U U U q=>q) (fun U q=>q.elim) hω (fun b q=>(hnew b q).imp (hT b).mpr id) (fun b q=>S'.there q) hsr) fun O' ω' st C'=>?_
 exact hQ O' ω' s₁ st C'
noncomputable def pT(Φ:List FEntry)(i:Nat)(es:IX):Prim where
 chk sc Rc st:=iO st fun c U=>hW c fun x U nm ap as cp=>Rc[i]? == some (some x)&&kX x&&nm==tg&&ca Φ es sc Rc as&&decide (as.length<29)&&ap.endLine==cp.line
 k:=kx Φ es
 pre ρ:=eH Φ es ρ/\yn (ρ.getD i .un) (bL Φ es ρ)
 den ρ:=(.next,ρ.set i (tm (ρ.getD i .un) (bL Φ es ρ)))
theorem Gj(i:Nat)(es:IX)(wf:G.Wf)(hF:∀F∈Φ,aM G F)(I:SorG G):cZ G X (pT Φ i es):=by
 intro sc Rc st Re A O ω ρ s E Q hc hsto C hX R hp hQ
 dsimp only[pT]at hp hQ
 refine o6 (P:=fun st=>NN (NP G.prog G.w) A (Oy st Re) Q E s) (f:=fun x nm ap as cp=>Rc[i]? == some (some x)&&kX x&&nm==tg&&ca Φ es sc Rc as&&decide (as.length<29)&&ap.endLine==cp.line) hc fun x xp nm ap as cp pos hc=>?_
 refine oP hc fun hi hd hnm ha hfew hline=>?_
 have hi:=NY hi
 cases NY hnm
 refine aj hp fun hp1 hp2=>?_
 obtain⟨g,hg⟩:∃g,ρ.getD i .un=.sor g:=by refine x32 hp2 fun g U U e U=>?_;exact⟨g,e⟩
 rw[hg]at hp2 hQ
 obtain⟨val,Fv,V⟩:=C.vars
 have hvr:=V i x hi
 rw[hg]at hvr
 refine x23 hvr fun u T hv hsr hω=>?_
 refine x17 ((I.sr _ _ _ _).mp hsr) fun L hu S hT h1 h2 h3 h4=>?_
 have hint:OY Re=false:=by unfold OY;rw[C.eo.kindS];rfl
 refine PP (pI wf I.mA (fun U U U U U U U U U U U=>rfl) rfl (jE es ha) (of_decide_eq_true hfew) hline (O0 (eU C.eo Fv hv (C.co.kd i x hi) ?_) (by simpa using bne_iff_ne.mp hd))) hint rfl
 refine⟨L,O,hu,C.base,S,NS ((snd wf hF es).ls sc Rc as Re A O ω ρ s E ha C R hp1) (fun vs s₁ h₁=>?_) fun U U e=>e⟩
 have C1:=C.keeps wf h₁.1
 refine⟨⟨O,C1.base⟩,?_⟩
 exact O1 (Gi (X:=X) (g:=g) (u:=u) (T:=T) (x:=x) (i:=i) wf I C1 (Fv.keeps (ai h₁.1)) (fun j y hy=>(V j y hy).keeps wf C.base h₁.1) hi hv hg hu (eK S h₁.1) hT h1 h2 h3 h4 hω (R.le (cj _)) hp2 h₁.2 fun O' ω' s' st C'=>hQ O' ω' s' .next ((Step.keeps h₁.1).trans C.ok.obs st) C' rfl)
end
noncomputable def pU(g:Gr):Nat:=(g.length+2) * (g.foldl (fun m q=>m+q.2.2.length) 0+g.length+4)+10
noncomputable def pV(g:Gr):Option (Option (List Int)):=kW g (pU g)
noncomputable def gd(g:Gr):Bool:=match pV g with
 | some none=>false
 | _=>true
noncomputable def pW(g:Gr):List Int:=(g.filter fun q=>q.2.1==0).map (·.1)
noncomputable def Gk(g:Gr):Prop:=∀q∈g,∀n∈q.2.2,∃q'∈g,q'.1=n
noncomputable def to(g:Gr):Prop:=Gk g/\g.length<=1000/\∃r,pV g=some r/\∀c,r=some c->c.length<=100000
theorem Gl(L:SLay):cM L.inf=pW L.gr:=by
 unfold cM pW SLay.gr
 induction L.inf with
 | nil=>rfl
 | cons f r ih =>
  simp only[oB,aQ]
  split<;>simp[ih]
noncomputable def tq(e:Expr)(d:NR):Bool:=oU e fun c U U=>ph c d
theorem yo{G:Glo}{A:N0}{Re:Env}{E:NO->NL->Prop}(h:tq e d=true)(hQ:∀v s',NX s s'->(∀O:NQ->Prop,(∀b,O b->∃o,s.heap.get? b=some o)->Rep O s'.heap v d)->Q v s') :
 NN (NP G.prog G.w) A (N6 e Re) Q E s :=
 oV (P:=fun e=>NN (NP G.prog G.w) A (N6 e Re) Q E s) h fun c k p h=>se h fun v s' k r=>hQ v s' k fun O U=>r O _
section
variable{G:Glo}{Φ:List FEntry}{Re:Env}{sc:Scope}{Rc:List (Option Str)}{A:N0}{O:NQ->Prop}{ω:NQ->Option Nat}{ρ:List SV}{s s':NL}{E:NO->NL->Prop}
noncomputable def m8(y:SV):SV:=match y with
 | .sor g=>.sor { g with ready:=some (pW g.nodes) }
 | _=>.un
noncomputable def pX(y:SV):Bool:=match y with
 | .sor g=>gd g.nodes
 | _=>true
noncomputable def kY(i:Nat)(K:NR):Prim where
 chk sc Rc st:=l9 st fun b ce U v U U U=>v1 b fun t=>iO t fun c U=>hW c fun x U nm ap as cp=>v0 as (
  Rc[i]? == some (some x)&&kX x&&nm==yj&&ap.endLine==cp.line&&ce==Gg&&bO sc ce&&tq v K)
 k:=0
 pre ρ:=∃g,ρ.getD i .un=.sor g/\g.ready=none/\to g.nodes
 den ρ:=(if pX (ρ.getD i .un)=true then .ret K else .next,ρ.set i (m8 (ρ.getD i .un)))
theorem Gm(i:Nat)(K:NR)(wf:G.Wf)(I:SorG G):cZ G true (kY i K):=by
 intro sc Rc st Re A O ω ρ s E Q hc hsto C hX R hp hQ
 dsimp only[kY]at hp hQ
 refine Ct (P:=fun st=>NN (NP G.prog G.w) A (Oy st Re) Q E s) hc fun x xp nm ap cp ep ce cep v rp hpos tp hc=>?_
 refine oQ hc fun hi hd hnm hline hce hg hK=>?_
 have hi:=NY hi
 have hline:=NY hline
 have hd:=bne_iff_ne.mp hd
 cases NY hnm
 cases NY hce
 obtain⟨g,hy,hrd,hclo,hsm,r,hr,hcl⟩:=hp
 rw[hy]at hQ
 have X:=hX rfl
 refine x11 X.top fun outer hfr=>?_
 have X:=X.toFX
 obtain⟨val,Fv,V⟩:=C.vars
 have hvr:=V i x hi
 rw[hy]at hvr
 refine x23 hvr fun u T hv hsr hω=>?_
 refine x17 ((I.sr _ _ _ _).mp hsr) fun L hu S hT h1 h2 h3 h4=>?_
 have hrd':L.rd=none:=by
  cases q:L.rd with
  | none=>rfl
  | some z=>rw[q,hrd]at h2;cases h2
 have hOL:∀b∈L.addrs,O b:=fun b hb=>(C.om b i (hω b ((hT b).mpr hb))).1
 have hLF:∀b∈L.addrs,¬al A b:=fun b hb=>X.fw b i (hω b ((hT b).mpr hb))
 have hint:OY Re=false:=by unfold OY;rw[C.eo.kindS];rfl
 have clo:∀f∈L.inf,∀n∈f.su,∃f'∈L.inf,f'.key=n:=fun f hf n hn=>by
  refine x12 (hclo (f.key,f.np,f.su) (by rw[<- h1];exact aJ.mpr ⟨f,hf,rfl⟩) n hn) fun q' hq' e=>?_
  rw[<- h1]at hq'
  refine x12 (aJ.mp hq') fun f' hf' e2=>?_;subst e2
  exact⟨f',hf',e⟩
 have hlen:L.inf.length<=1000:=by rw[<- h1]at hsm;simpa[SLay.gr]using hsm
 have hr':kW L.gr (pU g.nodes)=some r:=by rw[h1];exact hr
 have hcy:pX (.sor g)=r.isSome:=by
  unfold pX gd
  dsimp only
  rw[hr]
  cases r<;>rfl
 have hrg:cM L.inf=pW g.nodes:=by rw[Gl,h1]
 -- the slot at the end
 have fin:∀(rA:NQ) (s₁:NL),s.heap.get? rA=none->SorAt G.prog G.w { L with rd:=some (rA,cM L.inf) } s₁.heap->KS (al A) (·∈L.addrs) s s₁ ->
  ∃O' ω',Step (Fz true A) Re O ω s O' ω' s₁/\Cond G Re sc Rc A O' ω' (ρ.set i (m8 (.sor g))) s₁:=fun rA s₁ hn S' k =>
  yl (F:=al A) (F':=Fz true A) (i:=i) (S':=(·∈({ L with rd:=some (rA,cM L.inf) }:SLay).addrs)) wf C Fv V hi hv (k.mono (fun b q=>(hT b).mpr q) fun U q=>q) X.fo X.fw (fun b q=>⟨rfl,q⟩) hω (fun b q=>(sW (L:=L) q).elim (fun z=>.inl ((hT b).mpr z)) fun z=>.inr (by rw[z];exact hn)) (fun b q=>S'.there q) ((I.sr _ _ _ _).mpr ⟨{ L with rd:=some (rA,cM L.inf) },hu,S',fun b=>Iff.rfl,h1,by rw[<- hrg];rfl,h3,h4⟩)
 refine xO (c:=.ref CE) hfr (hX rfl).ef ?_ fun U q=>q
 refine NT (PP (pI (f:=fP) wf I.mP (fun U U U U U U U U U U U=>rfl) rfl (fun a ha=>nomatch ha) (by decide) (by simpa using hline) (O0 (eU C.eo Fv hv (C.co.kd i x hi) ⟨L,O,hu,C.base,S,N4 ⟨⟨O,C.base⟩,?_⟩⟩) (by simpa using hd))) hint rfl)
 refine Gb wf I.P C.ok C.base X.w0 S hrd' hOL hLF clo hlen (R.fits (by decide)) X.hn hr' hcl (fun hr0 s₁ rA hrA S' k=>?_) fun hne s₁ a B rA T2 hes hrA SB sB k=>?_
 ·subst hr0
  refine x22 (fin rA s₁ hrA S' k) fun O' ω' st C'=>?_
  refine N1 (hQ O' ω' s₁ .next st C' ?_)
  rw[hcy];rfl
 ·rw[show A.frames.getD []=Re::outer from by rw[hfr];rfl]at T2
  have hLB:∀b∈L.addrs,∃o,B.get? b=some o:=fun b n=>SB.there (ye hrd' n)
  have inh:∀h₂,B.StaysIn h₂->G.Base O h₂:=fun h₂ st=>⟨fun b o q=>st b o (sB b o (fun z=>by rw[C.base.off b (X.fo b z)]at q;cases q) (fun z=>by rw[C.base.off b (hOL b z)]at q;cases q) (C.base.kp b o q)),C.base.off⟩
  refine⟨a,B,.ref CE,rfl,T2,fun h₂ st2 u2 th E=>?_⟩
  refine ic (s:={ s₁ with heap:=h₂ }) wf C.eo (inh h₂ st2) hg (by decide +kernel) I.P.ce ⟨rfl,rfl,fun Q E hq=>?_,fun h₄ st4 u4 T4 E=>?_⟩
  ·refine x12 th fun o ho hoc=>?_
   have LT:Looks (NP G.prog G.w) h₂ (typeOf (.ref a)) (.ref CE):=hoc▸(Looks.ld ho).andThen .now
   exact(exm_one ((inh h₂ st2).inK wf) LT I.ce).here hq
  ·refine NT (OV (yo (s:={ s₁ with heap:=h₄ }) hK fun u' s₅ k5 hrep=>?_))
   have K4:=KS.noted (t:=s₁.toks) X k sB hLB st4 u4
   have S4:SorAt G.prog G.w { L with rd:=some (rA,cM L.inf) } ({ s₁ with heap:=h₄ }:NL).heap:=SB.keeps fun b o U q=>st4 b o q
   refine x22 (fin rA { s₁ with heap:=h₄ } hrA S4 K4) fun O' ω' st' C'=>?_
   refine hQ O' ω' s₅ (.ret u') (st'.trans C.ok.obs (Step.keeps k5)) (C'.keeps wf k5) ?_
   have hsome:r.isSome=true:=by
    cases r with
    | none=>exact absurd rfl hne
    | some _=>rfl
   rw[hcy,hsome]
   exact⟨u',rfl,hrep O' C'.ok.obs⟩
end
end
section
open PySem PySem.W PyProof.Rows PySem.Spec PySem.SeqAt PySem.Calls PySem.MeetsSeq
open AutoSeq1 (wpAny_loadPart')
theorem Gn(l:NQ)(items:Array NO)(n:Nat)(x:NO)(e:NO->Bool)(hs1:items.size<=O5)(k:Nat) :
 ∀i:Nat,i+k=items.size->Meets (OX.«list.remove.loop» ⟨[.ref l,x,rawInt i],[]⟩)
  (fun A R s=>s.heap.get? l=some { cls:=.type "list",dict:=none,data:=.seq items n,slots:=#[] }/\(∀y,y∈items->EqAt A.in1 s y x (e y)) /\
   (∀j,(items.toList.drop i).findIdx? e=some j->R (.ok (.ret .none)) { s with heap:=s.heap.update l (Obj.mapSeq fun xs=>xs.eraseIdxIfInBounds (i+j)) })/\((items.toList.drop i).findIdx? e=none->raisesNew "ValueError" A R s)):=by
 induction k with
 | zero =>
  intro i hk prog w A R s h
  obtain⟨hp,g,d,tk,os⟩:=s;refine eQ h fun hl he h1 h2=>?_
  wp_walk using Qo hl
  rw[show items[((i:Nat):Int).toNat]? = none from Qy (gZ hk.symm)]
  wp_walk
  have h:=h2 (by rw[List.drop_eq_nil_of_le (show items.toList.length<=i from gZ hk.symm)];rfl)
  exact_raiseError plainExc_ValueError h.1 h.2
 | succ k ih =>
  intro i hk prog w A R s h
  obtain⟨hp,g,d,tk,os⟩:=s;refine eQ h fun hl he h1 h2=>?_
  have hlt:i<items.size:=hk▸Nat.lt_add_of_pos_right (Nat.succ_pos k)
  have hd:items.toList.drop i=items[i]::items.toList.drop (i+1):=List.drop_eq_getElem_cons (l:=items.toList) hlt
  rw[hd,List.findIdx?_cons]at h1 h2
  wp_walk using Qo hl
  rw[show items[((i:Nat):Int).toNat]? = some items[i]from Ql hlt]
  refine NM (he _ (Array.getElem_mem hlt) prog w _ _ ?_)
  generalize e items[i]=b at h1 h2 ⊢
  cases b with
  | true =>
   have hz':(items.eraseIdxIfInBounds i).size<=O5+1:=ae (size_erased items _) (Nat.le_succ_of_le hs1)
   wp_walk using(wpAny_updateSeq hl rfl (hz:=hs1) (_hz':=hz')),Qo hl
   exact h1 0 rfl
  | false =>
   wp_walk
   rw[show((i:Int)+1)=((i+1:Nat):Int)from rfl]
   exact⟨plainId_quiet plain_remove_loop _,Qn entry_remove_loop (by
    rw[Qh plain_remove_loop _]
    exact ih (i+1) ((Nat.succ_add i k).trans hk) prog w A R _ ⟨hl,he,fun j q=>by rw[Nat.succ_add];exact h1 (j+1) (by rw[q];rfl),fun q=>h2 (by rw[q];rfl)⟩)⟩
theorem Go(l:NQ)(items:Array NO)(n:Nat)(x:NO)(e:NO->Bool)(hs1:items.size<=O5) :
 Meets (OX.«list.remove» ⟨[.ref l,x],[]⟩)
  (fun A R s=>s.heap.get? l=some { cls:=.type "list",dict:=none,data:=.seq items n,slots:=#[] }/\(∀y,y∈items->EqAt A.in1 s y x (e y)) /\
   (∀j,items.toList.findIdx? e=some j->R (.ok (.ret .none)) { s with heap:=s.heap.update l (Obj.mapSeq fun xs=>xs.eraseIdxIfInBounds j) })/\(items.toList.findIdx? e=none->raisesNew "ValueError" A R s)):=by
 intro prog w A R s h
 obtain⟨hp,g,d,tk,os⟩:=s;refine eQ h fun hl he h1 h2=>?_
 wp_walk using Qo hl
 exact⟨plainId_quiet plain_remove_loop _,Qn entry_remove_loop (by
  rw[Qh plain_remove_loop _]
  exact Gn l items n x e hs1 _ 0 (oR _) prog w A R _ ⟨hl,he,fun j q=>by rw[oR];exact h1 j q,h2⟩)⟩
noncomputable def c5(x:NR):List NR->Option (List NR)
 | []=>none
 | y::r=>if Oa y x then some r else(c5 x r).map (y::·)
theorem yq:c5 x (y::r)=if Oa y x then some r else(c5 x r).map (y::·):=rfl
theorem ty:∀ds:List NR,c5 x ds=(ds.findIdx? fun y=>Oa y x).map ds.eraseIdx
 | []=>rfl
 | y::l=>by
  rw[yq,ty l,List.findIdx?_cons]
  cases Oa y x with
  | true=>rfl
  | false=>cases l.findIdx? fun y=>Oa y x<;>rfl
section
variable{prog:Ol}{w:Og}{A:N0}{E:NO->NL->Prop}{s:NL}{O:NQ->Prop}
theorem yr:∀ {vs:List NO} {ds:List NR} (j:Nat),RepL O h vs ds->RepL O h (vs.eraseIdx j) (ds.eraseIdx j)
 | _,_,_,.nil=>by simpa using .nil
 | _,_,0,.cons _ l=>l
 | _,_,j+1,.cons a l=>.cons a (yr j l)
theorem Gq{l:NQ}{vs:Array NO}{n:Nat}{ds:List NR}{d:NR}{pos:Pos}{x:Sem NO}{Q:NO->NL->Prop}(hu:A.units+100<cLine)(hh:A.handled=none)
 (h:NN (NP prog w) A x (fun v s₁=>IsL s₁.heap l vs n/\RepL O s₁.heap vs.toList ds/\Rep O s₁.heap v d/\bV d/\OC ds=true/\vs.size<=O5 /\
  (∀r,c5 d ds=some r->∀h' vs' m,IsL h' l vs' m->OQ l s₁.heap h'->(∀(O':NQ->Prop) h'',RepL O' h'' vs.toList ds->RepL O' h'' vs'.toList r)->Q .none { s₁ with heap:=h' }) /\
  (c5 d ds=none->∀h' tk e,Heap.NewExc s₁.heap h' e "ValueError"->E (.ref e) { s₁ with heap:=h',toks:=tk })) E s) :
 NN (NP prog w) A (callWith pos (.builtin "list.remove") [.ref l] [(false,x)] []) Q E s:=by
 refine seqMethod1_meets F.slot_list_remove F.entry_list_remove (NS h (fun v s₁ h₁=>?_) fun U U e=>e)
 refine BI h₁ fun hl rl rv hd hds hz hyes hno=>?_
 refine⟨⟨_,hl,rfl⟩,F.args_list_remove_2 _ _,?_⟩
 refine x11 (rl.reads (iR _ hds)) fun as ra=>?_
 refine x11 (rv.reads (iQ _ hd.1)) fun bs rb=>?_
 have heq:=items_eqAt (A:=A) ra rb hds hd.1 (me hd hu)
 have hmap:=readsAll_map ds _ _ hds ra
 have hf:vs.toList.findIdx? (fun y=>Oa (readOf s₁.heap y) d)=ds.findIdx? fun y=>Oa y d:=by rw[<- hmap,List.findIdx?_map];rfl
 rw[ty,<- hf]at hyes hno
 refine⟨_,Go l vs n v (fun y=>Oa (readOf s₁.heap y) d) hz,hl,heq,fun j hr=>?_,fun hr=>⟨hh,hno (by rw[hr];rfl)⟩⟩
 refine hyes _ (by rw[hr];rfl) _ _ _ (IsL.update hl _) (Om ..) fun O' h'' r'=>?_
 have he:(vs.eraseIdxIfInBounds j).toList=vs.toList.eraseIdx j:=by
  unfold Array.eraseIdxIfInBounds
  split
  ·exact Array.toList_eraseIdx ..
  ·rename_i q
   exact(List.eraseIdx_of_length_le (fG.mp q)).symm
 rw[he]
 exact yr j r'
end
end
section
open PySem PySem.W PyProof.Rows PySem.Spec PySem.SeqAt PySem.Calls
section
variable{M:Model}{A:N0}{E:NO->NL->Prop}{s:NL}{Re:Env}{outer:List Env}{L a:NQ}{cls:NO}{B:N9}
noncomputable def tz(B:N9)(l:List Env)(a:NQ)(cls:NO)(L:NQ)(h:N9):Prop:=eL B l a cls h\/∃a0,Qu B l a cls a0 L h
theorem Gs{Q:Unit->NL->Prop}(hfr:A.frames=some (Re::outer))(hf:Re.frame=some L)(T:tz B (Re::outer) a cls L s.heap)
 (hQ:∀h' a0,Qu B (Re::outer) a cls a0 L h'->s.heap.UpToSlots h'->Q () { s with heap:=h' }):NN M A (noteFrame (.ref a) Re) Q E s:=by
 rcases T with T | ⟨a0,hh⟩
 ·exact sE hfr hf T hQ
 ·exact wpAny_noteFrame_againW hf hh.2.2.2 (hQ s.heap a0 hh (.refl _))
theorem Gu(hh:Qu B l a cls a0 L s.heap)(hQ:∀h',Qu B l a cls a0 L h'->s.heap.UpToSlots h'->Q () { s with heap:=h' }):NN M A (setFlight (.ref a) (some L)) Q E s:=by
 obtain⟨hkb,hbe,hl,oe,vs,T,oT,ts,he,hcls,hd,h1,hnT,hTe,hT,hdT,h3⟩:=hh
 have hsz3:3<ts.size:=(Array.getElem?_eq_some_iff.mp h3).1
 have other:∀b,b≠T->(s.heap.update T (Obj.mapFields (·.setIfInBounds 3 ((some L:Option NQ).elim OB fun f=>rawInt f)))).get? b=s.heap.get? b :=
  fun b hb=>Heap.get?_update_other _ _ (OW hb)
 have noRecord:∀b o,s.heap.get? b=some o->(∀vs,o.data≠.fields vs)->b≠T:=fun b o hb hnf q=>by
  rw[q,hT]at hb;injection hb with hb;subst hb;exact hnf ts hdT
 unfold setFlight
 refine NM (OS he hd h1 ?_)
 rw[if_pos (show(N2 T != OB)=true from rfl)]
 refine Pq hT hdT hsz3 (hQ _ ⟨fun b o hbo=>(other b fun q=>by rw[q,hnT]at hbo;cases hbo).trans (hkb b o hbo),hbe,
  hl.of_keeps fun b o hb hnf=>⟨o,(other b (noRecord b o hb hnf)).trans hb,rfl⟩,?_⟩ fun b o hb hnf=>⟨o.slots,(other b (noRecord b o hb hnf)).trans hb⟩)
 exact⟨oe,vs,T,_,_,(other a (OW hTe)).trans he,hcls,hd,h1,hnT,hTe,Py _ hT (PX (Pu hdT _)),Pu hdT _,by simp[hsz3]⟩
theorem Gv(hf:Re.frame=some L)(hh:Qu B l a cls a0 L s.heap)(hQ:∀h',Qu B l a cls a0 L h'->s.heap.UpToSlots h'->E (.ref a) { s with heap:=h' }):cameBackBy M A Re E (.ref a) s:=by
 unfold cameBackBy
 refine x55 (id hh.2.2.2) fun oe vs T oT ts he hcls hd h1 U=>?_
 refine NM (OS he hd h1 ?_)
 rw[if_neg (show ¬((N2 T==OB)=true)from by simp)]
 rw[hf]
 exact Gu hh hQ
theorem Gw(hfr:A.frames=some (Re::outer))(hf:Re.frame=some L)(T:eL B (Re::outer) a cls s.heap)(hQ:∀h',tz B (Re::outer) a cls L h'->s.heap.UpToSlots h'->E (.ref a) { s with heap:=h' }):notedBy M A Re (cameBackBy M A Re E) (.ref a) s:=by
 unfold notedBy
 refine sE hfr hf T fun h' a0 hh hu=>?_
 exact Gv (s:={ s with heap:=h' }) hf hh fun h'' hh' hu'=>hQ h'' (.inr ⟨a0,hh'⟩) (hu.trans hu')
end
section
variable{prog:Ol}{w:Og}{A:N0}{E:NO->NL->Prop}{s:NL}{Re:Env}{outer:List Env}{L:NQ}
theorem Gx{body suite:List NW}{b₀:NW}{x:Str}{xp hp tp:Pos}{c:NO}{Q:Flow->NL->Prop}(hfr:A.frames=some (Re::outer))(hf:Re.frame=some L)
 (h:NN (NP prog w) A (OG body Re) Q (fun e s₁=>∃a B cls,e=.ref a/\tz B (Re::outer) a cls L s₁.heap /\
  ∀h₂,B.StaysIn h₂->s₁.heap.UpToSlots h₂->(∃o,h₂.get? a=some o/\o.cls=cls)->∀E,
   NN (NP prog w) (A.mark (some (.ref a))) (N6 (.Name x xp) Re) (fun v s₃=>v=c/\s₃={ s₁ with heap:=h₂ } /\
    (∀(Q:Bool->NL->Prop) E,Q true { s₁ with heap:=h₂ }->NN (NP prog w) (A.mark (some (.ref a))) (excMatches (.ref a) c) Q E { s₁ with heap:=h₂ }) /\
    ∀h₄,B.StaysIn h₄->s₁.heap.UpToSlots h₄->eL B (Re::outer) a cls h₄->∀E,NN (NP prog w) (A.mark (some (.ref a))) (OG (b₀::suite) Re) Q E { s₁ with heap:=h₄ }) E { s₁ with heap:=h₂ }) s) :
 NN (NP prog w) A (Oy (.Try body [.ExceptHandler (some (.Name x xp)) none (b₀::suite) hp] [] [] tp) Re) Q E s:=by
 refine wpAny_Try_except (NS h (fun f s₁ h₁=>?_) fun e s₁ h₁=>?_)
 ·cases f<;>first | exact h₁ | exact N1 h₁
 ·refine x33 h₁ fun a B cls e3 T k=>?_;subst e3
  refine Gs hfr hf T fun h₁' a0 hh hu=>?_
  refine wpAny_landsW hh fun h₂ hfl hu₂=>?_
  have u2:=hu.trans hu₂
  refine wpAny_handleBy_cons (codeAny_handlers_test (NS (k h₂ hfl.1 u2 hfl.there _) (fun v s₃ h₃=>?_) fun U U e=>e)) (by intro q;cases q)
  refine eQ h₃ fun e0 e1 hm hs=>?_;subst e0;subst e1
  refine hm _ _ ?_
  refine codeAny_handlers_suite ?_
  refine lands_againW hfl fun h₄ hfl₄ hu₄=>?_
  exact hs h₄ hfl₄.1 (u2.trans hu₄) (.of hfl₄) _
end
section
variable{G:Glo}{Φ:List FEntry}
theorem Gy:PS (.type "ValueError") (.type "BaseException")=pure true:=by rw[OJ];kernel_rfl
theorem Gz:PS (.type ((Manifest.find? "ValueError").elim "type" fun x=>x.metatype)) (.type "tuple")=pure false:=by
 have e:(Manifest.find? "ValueError").elim "type" (fun x=>x.metatype) = "type":=by decide +kernel
 rw[e,OJ];kernel_rfl
theorem GA:PS (.type "ValueError") (.type "ValueError")=pure true:=by rw[OJ];kernel_rfl
noncomputable def dY(i j:Nat)(K:NR)(d:NR)(ρ:List SV):Fl × List SV:=match c5 d (ei (ρ.getD i .un))with
 | some r=>(.next,(ao false [j] d ρ).set i (.own (.list r)))
 | none=>(.ret K,ao false [j] d ρ)
noncomputable def tA(i:Nat)(d:NR)(ρ:List SV):Prop:=kH (ρ.getD i .un)/\bV d/\OC (ei (ρ.getD i .un))=true/\(ei (ρ.getD i .un)).length<=16777216
noncomputable def GB:Str:=ofString "ValueError"
noncomputable def GC:Str:=ofString "remove"
noncomputable def tB(Φ:List FEntry)(i j:Nat)(it:IX)(K:NR):Prim where
 chk sc Rc st:=l9 st fun b ve U v U U U=>v1 b fun f=>lZ f fun t iter fb U=>bv t fun el ep=>v1 fb fun c=>iO c fun c U=>hW c fun x U m ap as cp=>v1 as fun a=>bv a fun el2 U =>
  Rc[i]? == some (some x)&&kX x&&m==GC&&ap.endLine==cp.line&&Rc[j]? == some (some el)&&kX el&&el2==el&&i != j&&ve==GB&&bO sc ve&&tq v K &&
  fW iter&&eS Φ it sc Rc iter&&fV false [j] sc Rc (.Name el ep)
 k:=kx Φ it
 pre ρ:=gw Φ it false ρ/\j<ρ.length/\fX (fun d ρ=>bindP false [j] d/\tA i d ρ) (dY i j K) (bX Φ it ρ) ρ
 den ρ:=bQ (dY i j K) (bX Φ it ρ) ρ
theorem tC:ao false [j] d ρ=ρ.set j (.dat d):=rfl
theorem GD(i j:Nat)(it:IX)(K:NR)(wf:G.Wf)(hF:∀F∈Φ,aM G F):cZ G true (tB Φ i j it K):=by
 intro sc Rc st Re A O ω ρ s E Q hc hsto C hX R hp hQ
 dsimp only[tB]at hp hQ R
 refine Cu (P:=fun st=>NN (NP G.prog G.w) A (Oy st Re) Q E s) hc fun el ep iter x xp m ap el2 elp cp exp fp ve vep v rp hpos tp hc=>?_
 refine oQ hc fun hc hve hg hK hns hci hct=>?_
 refine vB hc fun hi hd hm hline hj hdj hel2 hij=>?_
 have hi:=NY hi
 have hline:=NY hline
 have hj:=NY hj
 have hd:=bne_iff_ne.mp hd
 have hdj:=bne_iff_ne.mp hdj
 have hij:=bne_iff_ne.mp hij
 cases NY hve
 cases NY hm
 cases NY hel2
 refine cT hp fun hpI hjl hfp=>?_
 refine x11 ((hX rfl).top) fun outer hfr=>?_
 have hint:OY Re=false:=by unfold OY;rw[C.eo.kindS];rfl
 refine Gx (c:=.type "ValueError") hfr (hX rfl).ef ?_
 refine NT ?_
 refine w3 (X:=true) (f:=dY i j K) (PB:=tA i) wf (snd wf hF it).it hns hci hct hsto C hX R hpI hfp (fun d ρk l Ok ωk sk Q' hP hrest hst Ck hn=>?_) fun O' ω' s' fl st' C' hf=>?_
 rotate_left
 ·generalize bQ (dY i j K) (bX Φ it ρ) ρ=z at C' hf hQ
  obtain⟨fz,ρz⟩:=z
  cases fz with
  | next=>cases hf;exact N1 (hQ O' ω' s' .next st' C' rfl)
  | brk=>cases hf;exact hQ O' ω' s' .brk st' C' rfl
  | ret dz=>refine x12 hf fun u e1 ru=>?_;subst e1;exact hQ O' ω' s' (.ret u) st' C' ⟨u,rfl,ru⟩
 refine eQ hP fun ho hdd hlay hlen=>?_
 have hjk:j<ρk.length:=by
  have e1:=Ck.len
  have e2:=C.len
  rw[tC,Nz]at e1
  omega
 have hown:(ao false [j] d ρk).getD i .un=ρk.getD i .un:=by
  rw[tC,dq,if_neg fun q=>hij q.1.symm]
 have hel:(ao false [j] d ρk).getD j .un=.dat d:=by
  rw[tC,dq,if_pos ⟨rfl,hjk⟩]
 have hrho:ρk.set j (.dat d)=ao false [j] d ρk:=rfl
 obtain⟨val,a,vs,n,Fv,V,hv,hw,hL,hR,hil⟩:=si Ck hi (by rw[hown];exact ho)
 rw[hown]at hR
 have Xk:=(hX rfl).step C hst Ck
 have hu:A.units+100<cLine:=R.units
 have hsz:vs.size=(ei (ρk.getD i .un)).length:=by rw[<- cD];exact hR.length
 refine NT (PP ?_ hint rfl)
 refine Px rfl (il rfl) (by simpa using hline) (O0 (eU Ck.eo Fv hv (Ck.co.kd i x hi) ?_) (by simpa using hd))
 refine⟨"list", "list.remove",Pn,F.slot_list_remove,F.type_list_remove,hL.isList.typeIs,(fun b e=>by cases e;exact⟨_,hL,rfl⟩),?_⟩
 refine Gq (O:=Ok) (d:=d) (ds:=ei (ρk.getD i .un)) (vs:=vs) (n:=n) hu Xk.hn (dL Ck hj (by simpa using hdj) hel fun u ru=>⟨hL,hR,ru,hdd,hlay,by rw[hsz,OK];omega,fun r hr h' vs' m hl' hs hrep=>?_,fun hr h' tk e hN=>?_⟩)
 ·have hk:∀b o,¬Ok b->sk.heap.get? b=some o->h'.get? b=some o:=fun b o nO q=>hs.extBut b o (fun z=>nO (z▸(Ck.om a i hw).1)) q
  refine aj (sh (Ff:=Fz true A) (y:=.own (.list r)) wf Ck Fv V hi hil hv hw ⟨_,hl'⟩ ⟨_,_,_,_,rfl,hw,rfl,hl',hrep _ _ (hR.mono hk fun U U U q=>q)⟩ hs) fun S' C'=>?_
  refine N1 (hn Ok ωk _ .next S' ?_ ?_)
  ·unfold dY;rw[hr];exact C'
  ·unfold dY;rw[hr];rfl
 ·obtain⟨n1,n2,ob,t0,n3,n4,n5⟩:=hN
  refine x12 Xk.fr fun l0 hl0 fr0=>?_
  rw[hfr]at hl0
  cases hl0
  have frh:i5 (Re::outer) h':=fun v hv=>(fr0 v hv).elim fun h1 ζ=>ζ.elim fun L' ζ=>ζ.elim fun o ζ=>ζ.elim fun es ζ=>ζ.elim fun n ζ=>ζ.elim fun h2 ζ=>ζ.elim fun h3 h4=>⟨h1,L',o,es,n,h2,n1 _ _ h3,h4⟩
  have nb:∀b o,b≠e->¬al A b->h'.get? b=some o->(gL (Re::outer) e h').get? b=some o:=fun b o n nf q=>sI q n fun z=>nf ⟨_,hfr,z⟩
  refine Gw (s:={ sk with heap:=h',toks:=tk }) hfr (hX rfl).ef (sJ frh ⟨ob,_,t0,n3,n4,n5,rfl,rfl⟩) fun h₁ T1 u1=>?_
  refine⟨e,gL (Re::outer) e h',.type "ValueError",rfl,T1,fun h₂ k2 u2 th E=>?_⟩
  have u2:h'.UpToSlots h₂:=u1.trans u2
  have note:∀h₂,(gL (Re::outer) e h').StaysIn h₂->h'.UpToSlots h₂->(∃o,h₂.get? e=some o)->KS (al A) No sk { sk with heap:=h₂,toks:=tk }:=fun h₂ k2 u2 th=>by
   have N:=sK hfr frh nb k2 u2 th
   refine⟨h₂,tk,rfl,fun b o U q=>?_,fun b o q=>?_⟩
   ·exact N.1 b o (fun z=>by rw[z,n2]at q;cases q) (n1 b o q)
   ·refine x12 (N.1 b o (fun z=>by rw[z,n2]at q;cases q) (n1 b o q)) fun sl q' U=>?_
    exact⟨_,q'⟩
  have C2:=Ck.ks wf (note h₂ k2 u2 (th.imp fun U q=>q.1)) Xk.fo Xk.fw
  refine ie (s:={ sk with heap:=h₂,toks:=tk }) wf C2.eo C2.base hg (v:=.type "ValueError") (az (i:=8) (by kernel_rfl)) ⟨rfl,rfl,fun Q E hq=>?_,fun h₄ k4 u4 T4 E=>?_⟩
  ·refine x12 th fun o ho hoc=>?_
   exact wpAny_excMatches_type (X:= "ValueError") (T:= "ValueError") (b:=true) ⟨o,ho,hoc⟩ Gy Gz GA hq
  ·have u4:h'.UpToSlots h₄:=u1.trans u4
   have K4:=note h₄ k4 u4 (T4.there.imp fun U q=>q.1)
   have C4:=Ck.ks wf K4 Xk.fo Xk.fw
   refine NT (OV (yo (s:={ sk with heap:=h₄,toks:=tk }) hK fun u' s₅ k5 hrep=>?_))
   have hden:bQ (dY i j K) (bX Φ it ρ) ρ=(.ret K,ao false [j] d ρk):=by
    rw[hrest]
    rw[mI]
    unfold dY
    rw[hr]
   rw[hden]at hQ
   exact hQ Ok ωk s₅ (.ret u') ((hst.trans C.ok.obs (Step.ks K4)).trans C.ok.obs (Step.keeps k5)) (C4.keeps wf k5) ⟨u',rfl,hrep Ok C4.ok.obs⟩
end
end
section
open PySem PySem.W PyProof.Rows PySem.Spec PySem.SeqAt PySem.Calls PySem.MeetsSeq
section
variable{G:Glo}{Φ:List FEntry}
noncomputable def tD:Str:=ofString "list"
noncomputable def tF(Φ:List FEntry)(i:Nat)(e:IX):Prim where
 chk sc Rc st:=eF st fun t v U=>bv t fun x U=>jt v fun g U as U=>v1 as fun a=>Rc[i]? == some (some x)&&aW sc x&&g==tD&&bO sc g&&chk Φ e sc Rc a
 k:=kx Φ e
 pre ρ:=pre Φ e false ρ/\∃ds,den Φ e ρ=.list ds/\ds.length<=16777216
 den ρ:=(.next,ρ.set i (.own (den Φ e ρ)))
theorem GE(i:Nat)(e:IX)(wf:G.Wf)(hF:∀F∈Φ,aM G F):cZ G X (tF Φ i e):=by
 intro sc Rc st Re A O ω ρ s E Q hc hsto C hX R hp hQ
 dsimp only[tF]at hp hQ
 refine v9 (P:=fun st=>NN (NP G.prog G.w) A (Oy st Re) Q E s) (f:=fun x g as=>v1 as fun a=>Rc[i]? == some (some x)&&aW sc x&&g==tD&&bO sc g&&chk Φ e sc Rc a) hc fun x p g gp as cp pos hc=>?_
 refine cU (P:=fun as=>NN (NP G.prog G.w) A (Oy (.Assign [.Name x p] (.Call (.Name g gp) as [] cp) pos) Re) Q E s) hc fun a hc=>?_
 refine hV hc fun hi hk hgn hg ha=>?_
 cases NY hgn
 have hi:=NY hi
 obtain⟨hp1,ds,hds,hlen⟩:=hp
 refine Oc (eh (fun y hy=>by rw[ah.mp hy];exact gA e ha) (ie wf C.eo C.base hg (v:=.type "list") (by simp[dU,tD]) ?_)) rfl rfl
 refine Qj (gB _) (Oj (N7 (NS ((snd wf hF e).ev sc Rc a false Re A O ω ρ s E ha C R hp1) (fun v s₁ h₁=>N4 ?_) fun U U x=>x)))
 have C1:=C.keeps wf h₁.1
 have rv:=h₁.2.ff
 rw[hds]at rv hQ
 cases rv with
 | @list aR vs n _ hno hl rl =>
 have hsz:vs.size=ds.length:=by rw[<- cD];exact rl.length
 refine call_list_seq aR (.inl rfl) hl rfl rfl (fun h' c' hk' hnew=>?_) (by rw[hsz,OK];omega)
 have k2:NX s₁ { s₁ with heap:=h' }:=⟨h',s₁.toks,rfl,hk'⟩
 have hnone:s₁.heap.get? s₁.heap.objs.size=none:=OL (bM _)
 refine aj (w6 (i:=i) wf C1 k2 hnone ⟨_,hnew⟩) fun gr C2=>?_
 show NN _ A (Ox (.Name x p) Re (.ref s₁.heap.objs.size)) _ _ _
 have hr:cF G (fun b=>O b\/b=s₁.heap.objs.size) (fun b=>if b=s₁.heap.objs.size then some i else ω b) h' i (some (.ref s₁.heap.objs.size)) (.own (.list ds)) :=
  ⟨_,vs,c',ds,rfl,if_pos rfl,rfl,hnew,rl.mono (fun b o U q=>hk' b o q) fun b o q z=>z.elim id fun z=>by rw[z,hnone]at q;cases q⟩
 exact Ot (dW wf (hsto i) C2 hi hk hr fun s' k C'=>hQ _ _ s' .next (((Step.keeps h₁.1).trans C.ok.obs gr.step).trans C.ok.obs (Step.frame k)) C' rfl)
noncomputable def tG(i:Nat):Prim where
 chk sc Rc st:=lY st fun v U=>rI v fun n U=>bv n fun x U=>Rc[i]? == some (some x)&&kX x
 k:=0
 pre ρ:=kH (ρ.getD i .un)/\(ei (ρ.getD i .un)).length<=16777216
 den ρ:=(.ret (.bool (ei (ρ.getD i .un)).isEmpty),ρ)
theorem GF(i:Nat)(wf:G.Wf):cZ G X (tG i):=by
 intro sc Rc st Re A O ω ρ s E Q hc hsto C hX R hp hQ
 dsimp only[tG]at hp hQ
 refine oX (P:=fun st=>NN (NP G.prog G.w) A (Oy st Re) Q E s) hc fun U rp hc=>?_
 refine rJ (P:=fun e=>NN (NP G.prog G.w) A (Oy (.Return (some e) rp) Re) Q E s) hc fun U up hc=>?_
 refine cP (P:=fun e=>NN (NP G.prog G.w) A (Oy (.Return (some (.UnaryOp .Not e up)) rp) Re) Q E s) hc fun x xp hc=>?_
 refine a7 hc fun hi hd=>?_
 have hi:=NY hi
 have hd:=bne_iff_ne.mp hd
 obtain⟨val,a,vs,n,Fv,V,hv,hw,hL,hR,hil⟩:=si C hi hp.1
 have hsz:vs.size=(ei (ρ.getD i .un)).length:=by rw[<- cD];exact hR.length
 refine OV (wpAny_UnaryOp (O0 (eU C.eo Fv hv (C.co.kd i x hi) ?_) (by simpa using hd)))
 refine not_of (wpAny_truthy_list hL.isList (by lia) ?_)
 have he:(!(!vs.isEmpty))=(ei (ρ.getD i .un)).isEmpty:=by
  rw[Bool.not_not]
  cases hq:ei (ρ.getD i .un)with
  | nil =>
   rw[hq]at hsz
   exact vk.mpr hsz
  | cons d r =>
   rw[hq]at hsz
   cases hz:vs.isEmpty with
   | false=>rfl
   | true=>rw[vk]at hz;rw[hz]at hsz;cases hsz
 rw[he]
 exact hQ O ω _ (.ret _) (Step.keeps (ar s (s.toks+1+1))) (C.keeps wf (ar s (s.toks+1+1))) ⟨_,rfl,.bool _⟩
end
noncomputable def bh:List NR->List NR->List NR
 | acc,[]=>acc
 | acc,d::ds=>bh (if acc.any (fun y=>Oa y d)then acc else acc++[d]) ds
theorem tH:bh acc (d::ds)=bh (if acc.any (fun y=>Oa y d)then acc else acc++[d]) ds:=rfl
noncomputable def gO:List NR->List NR->Option (List NR)
 | [],t=>some t
 | x::xs,t=>(c5 x t).bind (gO xs)
theorem tI:gO (x::xs) t=(c5 x t).bind (gO xs):=rfl
noncomputable def m9(a b:List NR):Bool:=match gO a b with
 | some []=>true
 | _=>false
noncomputable def jR(l:List NR):Prop:=l.length<=1000000/\∀d∈l,bV d
theorem tJ:∀ {l:List NR},(∀d∈l,bV d)->OC l=true
 | [],_=>rfl
 | d::l,h=>by
  unfold OC
  rw[(h d ag).1,tJ fun x hx=>h x (ay _ hx)];rfl
noncomputable def ge:FEntry:=⟨ofString "_deduplicate_unhashable",1,fun ds=>∃l,ds=[.list l]/\jR l,fun ds=>.list (bh [] (cW (ds.getD 0 .none)))⟩
noncomputable def tK:SX:=.prim (xh [] 1 (.list .nil)) (.for false [2] (.seq (.var 0)) (.ite (.cmp .NotIn (.var 2) (.var 1)) (.prim (gG [] 1 (.var 2)) .skip) .skip .skip) (.frz 1 (.prim (eW [] (.var 1)) .skip)))
noncomputable def kZ:FEntry:=⟨ofString "_compare_args_orderless",3,fun ds=>∃a b,ds=[.list a,.list b]/\jR a/\jR b,fun ds=>.bool (m9 (bh [] (cW (ds.getD 0 .none))) (bh [] (cW (ds.getD 1 .none))))⟩
noncomputable def tL:SX:=.prim (cn [ge] 2 (.call 0 (.cons (.var 0) .nil))) (.prim (cn [ge] 3 (.call 0 (.cons (.var 1) .nil))) (.prim (tF [ge] 4 (.var 3)) (.prim (tB [ge] 4 5 (.seq (.var 2)) (.bool false)) (.prim (tG 4) .skip))))
theorem yt:∀(ds acc:List NR),(bh acc ds).length<=acc.length+ds.length
 | [],acc=>Bx _ _
 | d::ds,acc=>by
  rw[tH]
  refine ae (yt ds _) ?_
  split
  ·simp only[dQ];lia
  ·simp only[cb,dQ,List.length_nil];lia
theorem yu:∀(ds acc:List NR) (x:NR),x∈bh acc ds->x∈acc\/x∈ds
 | [],acc,x,h=>.inl h
 | d::ds,acc,x,h=>by
  rw[tH]at h
  rcases yu ds _ x h with h | h
  ·split at h
   ·exact .inl h
   ·rcases aI.mp h with h | h
    ·exact .inl h
    ·exact .inr (aa.mpr (.inl (ah.mp h)))
  ·exact .inr (ay _ h)
theorem yv(h:jR l):jR (bh [] l) :=
 ⟨ae (yt l []) (by simpa using h.1),fun d hd=>h.2 d ((yu l [] d hd).elim (fun q=>by cases q) id)⟩
noncomputable def tM(d:NR)(ρ:List SV):Fl × List SV:=au [] (.ite (.cmp .NotIn (.var 2) (.var 1)) (.prim (gG [] 1 (.var 2)) .skip) .skip .skip) (ao false [2] d ρ)
theorem yw(d:NR)(acc:List NR)(x z:SV):tM d [x,.own (.list acc),z]=(.next,[x,.own (.list (if acc.any (fun y=>Oa y d)then acc else acc++[d])),.dat d]):=by
 show eV (if(!(acc.any fun y=>Oa y d))=true then _ else _) _=_
 cases hq:acc.any fun y=>Oa y d<;>rfl
theorem yx:∀(ds acc:List NR) (x z:SV),∃z',bQ tM ds [x,.own (.list acc),z]=(.next,[x,.own (.list (bh acc ds)),z'])
 | [],acc,x,z=>⟨z,rfl⟩
 | d::ds,acc,x,z=>by
  rw[mI]
  rw[yw]
  exact yx ds _ x (.dat d)
theorem yy:∀(ds acc:List NR) (x z:SV),(∀d∈ds,bV d)->(∀d∈acc,bV d)->acc.length+ds.length<=1000000 ->
 fX (fun d ρ=>bindP false [2] d/\bf [] (.ite (.cmp .NotIn (.var 2) (.var 1)) (.prim (gG [] 1 (.var 2)) .skip) .skip .skip) (ao false [2] d ρ)) tM ds [x,.own (.list acc),z]
 | [],_,_,_,_,_,_=>trivial
 | d::ds,acc,x,z,h1,h2,h3=>by
  have hd:=h1 d ag
  have hl:=tJ h2
  simp only[dQ]at h3
  rw[pu]
  rw[yw]
  refine⟨⟨rfl,?_⟩,yy ds _ x (.dat d) (fun y hy=>h1 y (ay _ hy)) (fun y hy=>?_) ?_⟩
  ·refine⟨⟨trivial,trivial,hd,hl⟩,rfl,fun U=>⟨⟨trivial,trivial,?_⟩,fun U U=>trivial⟩,fun U=>trivial,fun U U=>trivial⟩
   show acc.length<=_
   lia
  ·split at hy
   ·exact h2 y hy
   ·rcases aI.mp hy with hy | hy
    ·exact h2 y hy
    ·rw[ah.mp hy];exact hd
  ·split
   ·lia
   ·simp only[cb,dQ,List.length_nil];lia
noncomputable def nc:List Str:=[ofString "unhashable_params",ofString "new_unhashable",ofString "t"]
theorem GG(ds:List NR)(h:ge.pre ds):ds.length=1/\bf [] tK (bg nc ds)/\(au [] tK (bg nc ds)).1=.ret (ge.val ds):=by
 refine x12 h fun l e1 hl=>?_;subst e1
 have e:bg nc [.list l]=[.dat (.list l),.un,.un]:=rfl
 rw[e]
 refine x11 (yx l [] (.dat (.list l)) .un) fun z' hz=>?_
 have hfor:bQ (fun d ρ=>au [] (.ite (.cmp .NotIn (.var 2) (.var 1)) (.prim (gG [] 1 (.var 2)) .skip) .skip .skip) (ao false [2] d ρ)) l [.dat (.list l),.own (.list []),.un]=_:=hz
 refine⟨rfl,?_,?_⟩
 ·refine⟨⟨trivial,cj _⟩,fun ρ' hρ=>?_⟩
  cases hρ
  refine⟨⟨trivial,trivial⟩,yy l [] _ _ hl.2 (fun d hd=>by cases hd) (by simpa using hl.1),fun ρ' hρ=>?_⟩
  have hρ:bQ _ l [.dat (.list l),.own (.list []),.un]=(.next,ρ'):=hρ
  rw[hfor]at hρ
  cases hρ
  exact⟨trivial,trivial,fun U U=>trivial⟩
 ·show(eV (bQ _ l [.dat (.list l),.own (.list []),.un]) _).1=_
  rw[hfor]
  rfl
noncomputable def ng:List Str:=[ofString "first_args",ofString "second_args",ofString "first_unhashable",ofString "second_unhashable",ofString "t",ofString "elem"]
theorem yz:∀(xs t:List NR) (a b c d z:SV),∃t' z',bQ (dY 4 5 (.bool false)) xs [a,b,c,d,.own (.list t),z]=(match gO xs t with | some _=>.next | none=>.ret (.bool false),[a,b,c,d,.own (.list t'),z'])/\∀r,gO xs t=some r->t'=r
 | [],t,a,b,c,d,z=>⟨t,z,rfl,fun r h=>by cases h;rfl⟩
 | x::xs,t,a,b,c,d,z=>by
  rw[mI]
  have e:dY 4 5 (.bool false) x [a,b,c,d,.own (.list t),z]=(match c5 x t with | some r=>(.next,[a,b,c,d,.own (.list r),.dat x]) | none=>(.ret (.bool false),[a,b,c,d,.own (.list t),.dat x])):=by
   unfold dY
   show(match c5 x t with | some r=>_ | none=>_)=_
   cases c5 x t<;>rfl
  rw[e]
  rw[tI]
  cases hr:c5 x t with
  | none=>exact⟨t,.dat x,rfl,fun r h=>by cases h⟩
  | some r=>exact yz xs r a b c d (.dat x)
theorem yA(h:c5 x t=some r):(∀y∈r,y∈t)/\r.length<=t.length:=by
 rw[ty]at h
 refine x12 (M3.mp h) fun j _ q=>?_;subst q
 exact⟨fun y hy=>List.mem_of_mem_eraseIdx hy,List.Sublist.length_le (List.eraseIdx_sublist ..)⟩
theorem yB:∀(xs t:List NR) (a b c d z:SV),(∀x∈xs,bV x)->jR t->fX (fun d ρ=>bindP false [5] d/\tA 4 d ρ) (dY 4 5 (.bool false)) xs [a,b,c,d,.own (.list t),z]
 | [],_,_,_,_,_,_,_,_=>trivial
 | x::xs,t,a,b,c,d,z,hx,ht=>by
  rw[pu]
  refine⟨⟨rfl,trivial,hx x ag,tJ ht.2,?_⟩,?_⟩
  ·show t.length<=_;have:=ht.1;lia
  ·have e:dY 4 5 (.bool false) x [a,b,c,d,.own (.list t),z]=(match c5 x t with | some r=>(.next,[a,b,c,d,.own (.list r),.dat x]) | none=>(.ret (.bool false),[a,b,c,d,.own (.list t),.dat x])):=by
    unfold dY
    show(match c5 x t with | some r=>_ | none=>_)=_
    cases c5 x t<;>rfl
   rw[e]
   cases hr:c5 x t with
   | none=>trivial
   | some r =>
    have:=yA hr
    exact yB xs r a b c d (.dat x) (fun y hy=>hx y (ay _ hy)) ⟨ae this.2 ht.1,fun y hy=>ht.2 y (this.1 y hy)⟩
theorem GH(ds:List NR)(h:kZ.pre ds):ds.length=2/\bf [ge] tL (bg ng ds)/\(au [ge] tL (bg ng ds)).1=.ret (kZ.val ds):=by
 refine x23 h fun a b e2 ha hb=>?_;subst e2
 have e:bg ng [.list a,.list b]=[.dat (.list a),.dat (.list b),.un,.un,.un,.un]:=rfl
 rw[e]
 have la:=yv ha
 have lb:=yv hb
 refine x22 (yz (bh [] a) (bh [] b) (.dat (.list a)) (.dat (.list b)) (.dat (.list (bh [] a))) (.dat (.list (bh [] b))) .un) fun t' z' hz ht'=>?_
 refine⟨rfl,⟨⟨⟨trivial,trivial⟩,a,rfl,ha⟩,fun ρ1 h1=>?_⟩,?_⟩
 ·cases h1
  refine⟨⟨⟨trivial,trivial⟩,b,rfl,hb⟩,fun ρ1 h1=>?_⟩
  cases h1
  refine⟨⟨trivial,_,rfl,ae lb.1 (by decide)⟩,fun ρ1 h1=>?_⟩
  cases h1
  refine⟨⟨⟨trivial,trivial⟩,by show 5<6;decide,yB (bh [] a) (bh [] b) _ _ _ _ _ la.2 lb⟩,fun ρ1 h1=>?_⟩
  have h1:bQ (dY 4 5 (.bool false)) (bh [] a) [.dat (.list a),.dat (.list b),.dat (.list (bh [] a)),.dat (.list (bh [] b)),.own (.list (bh [] b)),.un]=(.next,ρ1):=h1
  rw[hz]at h1
  cases hr:gO (bh [] a) (bh [] b)with
  | none=>rw[hr]at h1;cases h1
  | some r =>
   rw[hr]at h1
   cases h1
   refine⟨⟨trivial,?_⟩,fun U U=>trivial⟩
   have:=ht' r hr
   subst this
   have hlen:∀(xs t r:List NR),gO xs t=some r->r.length<=t.length:=fun xs=>by
    induction xs with
    | nil=>intro t r h;cases h;exact bM _
    | cons x xs ih =>
     intro t r h
     rw[tI]at h
     refine x12 (Option.bind_eq_some_iff.mp h) fun q hq h=>?_
     exact ae (ih q r h) (yA hq).2
   show t'.length<=_
   have:=hlen _ _ _ hr
   have:=lb.1
   lia
 ·show(eV (bQ (dY 4 5 (.bool false)) (bh [] a) [.dat (.list a),.dat (.list b),.dat (.list (bh [] a)),.dat (.list (bh [] b)),.own (.list (bh [] b)),.un]) _).1=.ret (.bool (m9 (bh [] a) (bh [] b)))
  rw[hz]
  unfold m9
  cases hr:gO (bh [] a) (bh [] b)with
  | none=>rfl
  | some r =>
   have:=ht' r hr
   subst this
   cases t'<;>rfl
section
variable{prog:Ol}{w:Og}{A:N0}{E:NO->NL->Prop}{h:N9}{g:Array GenState}{dr:Drawn}{tk:Nat}{os:OsState}
theorem yC{d:NQ}{f:Int->Option NO}{c:Nat}{x:Str}{t:Tok}{Q:Builtin.Str.Mapped->NL->Prop}(hm:h.IntMap d f)(hf:f c=some (.str x t))(hq:Q (.text x) ⟨h,g,dr,tk+1+1,os⟩) :
 NN (NP prog w) A (Qv (.ref d) c) Q E ⟨h,g,dr,tk,os⟩:=by
 unfold Qv
 refine NM (PN (NM (wpAny_mkInt ?_)))
 refine wpAny_getItem_intMap (s:=⟨h,g,dr,tk+1,os⟩) hm hf ?_
 show NN _ _ (asInt? (.str x t) >>= _) _ _ _
 refine NM (m:=asInt? (.str x t)) (PT (a:=none) (by first | rfl | kernel_rfl) ?_)
 refine NM (m:=asStr? (.str x t)) (PT (a:=some x) (by first | rfl | kernel_rfl) ?_)
 exact NU hq
theorem GJ{d:NQ}{f:Int->Option NO}{c:Nat}{x:Str}{t u:Tok}{R:Result->NL->Prop}(hc:c<128)(hx:x.length=2)(hm:h.IntMap d f)(hf:f c=some (.str x t))(hq:R (.ok (.ret (.str x (tk+4)))) ⟨h,g,dr,tk+5,os⟩) :
 NN (NP prog w) A.in1 (OX.«str.translate» ⟨[.str ⟨#[c]⟩ u,.ref d],[]⟩) (fun fin s'=>match fin with | .done f=>R (.ok f) s' | .again c'=>c'.quiet=true/\O3 (NP prog w) A c' R s') (fun e s'=>R (.error e) s') ⟨h,g,dr,tk,os⟩:=by
 unfold OX.«str.translate»
 refine NM (m:=Builtin.Str.strOneArg "translate" ⟨[.str ⟨#[c]⟩ u,.ref d],[]⟩) (PT (a:=(.str ⟨#[c]⟩ u,⟨#[c]⟩,.ref d)) (by first | rfl | kernel_rfl) ?_)
 dsimp only
 have h0:¬((({ cps:=#[c] }:Str).length==0)=true):=by show ¬((1==0)=true);decide
 have hall:(#[c].all fun x=>decide (x<128))=true:=by simp[hc]
 rw[if_neg h0,hall,<- Array.forIn_toList]
 have tl0:¬(Builtin.Str.tooLong 0=true):=by decide
 have hne:(x.length==1&&x.cps.all fun x=>decide (x<128))=false:=by rw[hx];rfl
 refine NM ?_
 show NN _ _ (forIn [c] _ _) _ _ _
 rw[NJ]
 refine NM ?_
 rw[if_neg tl0,if_pos rfl]
 show NN _ _ (Qv (.ref d) c >>= _) _ _ _
 refine NM (yC hm hf ?_)
 dsimp only
 rw[hne,if_neg MY]
 refine NM (NU ?_)
 dsimp only
 refine NM (Qc ?_)
 refine NM (yC hm hf ?_)
 dsimp only
 refine NU ?_
 dsimp only
 rw[List.forIn_nil]
 refine NU ?_
 dsimp only
 have tl2:¬(Builtin.Str.tooLong (0+x.length)=true):=by rw[hx];decide
 rw[if_neg tl2]
 have hcat:(⟨([x].reverse.foldl (fun acc p=>acc++p.cps) #[])⟩:Str)=x:=by
  show(⟨#[]++x.cps⟩:Str)=x
  rw[Array.empty_append]
 rw[hcat]
 unfold retStr
 refine NM (wpAny_mkStr ?_ (by rw[hx,OK];decide))
 exact NU hq
end
noncomputable def iz:Str:=ofString "pattern"
noncomputable def GK:Str:=ofString "translate"
noncomputable def tN:Str:=ofString "_special_chars_map"
noncomputable def yD:Str:=ofString "isinstance"
noncomputable def yE:Str:=ofString "str"
noncomputable def yF(P:Nat->Pos)(u1:List NW)(u2:List NW)(u3:List NW):List NW:=.If (.Call (.Name yD (P 0)) [.Name iz (P 1),.Name yE (P 2)] [] (P 3)) (.Return (some (.Call (.Attribute (.Name iz (P 4)) GK (P 5)) [.Name tN (P 6)] [] (P 7))) (P 8)::u1) u2 (P 9)::u3
inductive isEsc(sc:Scope)(b:List NW):Prop where
 | mk (h1:b=yF qX BX BY BZ) (h2:((qX 5).endLine==(qX 7).line)=true) (h3:bO sc yD=true) (h4:bO sc yE=true) (h5:bO sc tN=true):isEsc sc b
noncomputable def jb(c:Nat):Str:=⟨#[92,c]⟩
noncomputable def pY:List Nat:=[43,45,46]
noncomputable def bR:FEntry:=⟨ofString "escape",1,fun ds=>∃c∈pY,ds=[.str ⟨#[c]⟩],fun ds=>.str (jb ((dm (ds.getD 0 .none)).cps.getD 0 0))⟩
section
variable{G:Glo}
structure EscInfo(G:Glo)(a scm:NQ)(fd:Of)(body:List NW)(f:Int->Option NO):Prop where
 nm:G.mg bR.name=some (.ref a)
 FI:FnInfo G a fd body [iz] [iz]
 bind:∀vs:List NO,vs.length=1->O8 fd ⟨vs,[]⟩=pure ([iz].zip vs)
 bd:isEsc fd.scope body
 gs:G.mg tN=some (.ref scm)
 mp:G.hB.IntMap scm f
 at_:∀c∈pY,∃t,f (c:Int)=some (.str (jb c) t)
theorem GL:PS (.type "str") (.type "str")=pure true:=by rw[OJ];kernel_rfl
theorem GM:typeOf (.type "str")=pure (.type "type"):=by kernel_rfl
theorem GN{h h':N9}{d:NQ}{f:Int->Option NO}(m:h.IntMap d f)(k:∀b o,h.get? b=some o->h'.get? b=some o):h'.IntMap d f :=
 m.elim fun o ζ=>ζ.elim fun es ζ=>ζ.elim fun ep ζ=>ζ.elim fun ho r=>⟨o,es,ep,k _ _ ho,r⟩
theorem GO{a scm:NQ}{fd:Of}{body:List NW}{f:Int->Option NO}(wf:G.Wf)(I:EscInfo G a scm fd body f):aM G bR:=by
 refine x12 I.FI.at_ fun o e2 hd=>?_
 refine⟨a,o,fd,I.nm,e2,hd,fun A s O vs ds E R ok B r hp=>?_⟩
 refine x12 hp fun c hc e2=>?_;subst e2
 have hvl:vs.length=1:=by rw[r.length];rfl
 refine O1 (kM (s:=s) (O:=O) (ys:=[.dat (.str ⟨#[c]⟩)]) wf I.FI ok B (pE r) hvl rfl (R.fits (cj _)) (I.bind vs hvl) fun Re O' s₁ k1 hO1 hO2 hSt hsto C E' Qf hret hnx=>?_)
 have bd:=I.bd
 obtain⟨hb,b3,b1,b2,b4⟩:=bd
 rw[hb]
 unfold yF
 have hctx:([iz].map some)[0]? = some (some iz):=rfl
 have hdb:(iz==ofString "__debug__")=false:=by decide +kernel
 have hrho:(cw [iz] [SV.dat (.str ⟨#[c]⟩)]).getD 0 .un=.dat (.str ⟨#[c]⟩):=rfl
 refine x11 (I.at_ c hc) fun t ht=>?_
 refine NT (Pr ?_)
 rw[kF rfl]
 refine NM (eh (fun y hy=>by simp only[aa,iJ,or_false]at hy;rcases hy with rfl | rfl<;>rfl) (ie wf C.eo C.base b1 (v:=.builtin "isinstance") (az (i:=12) (by kernel_rfl)) ?_))
 refine OD (gB _) (Oj (N7 (dL C hctx hdb hrho fun v rv=>N7 (ie wf C.eo C.base b2 (v:=.type "str") (az (i:=13) (by kernel_rfl)) (N4 ?_)))))
 cases rv with
 | str _ u =>
 refine call_isinstance (isinstance_true GM GL) ⟨typeIs_str _ _ _,?_⟩
 refine NM (Od (N8 (Oi ?_)))
 refine NT (OV ?_)
 refine Px rfl (il rfl) (by simpa using b3) (dL C hctx hdb hrho fun v rv=>?_)
 cases rv with
 | str _ u =>
 refine⟨"str", "str.translate",F.plainAttrs_str,F.slot_str_translate,F.type_str_translate,typeIs_str _ _ _,(fun b e=>by cases e),?_⟩
 have hmp:s₁.heap.IntMap scm f:=GN I.mp C.base.kp
 refine seqMethod1_meets F.slot_str_translate F.entry_str_translate (ic wf C.eo C.base b4 (by decide +kernel) I.gs ⟨typeIs_str _ _ _,F.args_str_translate_2 _ _,(fun U R s'=>s'.heap.IntMap scm f/\R (.ok (.ret (.str (jb c) (s'.toks+4)))) { s' with toks:=s'.toks+5 }),fun prog w A R s' h=>?_,hmp,?_⟩)
 ·obtain⟨hh,g,dr,tk,os⟩:=s'
  exact GJ (f:=f) (x:=jb c) (t:=t) (by simp[pY]at hc;lia) rfl h.1 ht h.2
 ·refine hret _ _ ⟨aO k1 (ar s₁ (s₁.toks+5)),?_⟩
  have:bR.val [.str ⟨#[c]⟩]=.str (jb c):=rfl
  rw[this]
  exact .str _ _
end
end
section
open PySem PySem.W PyProof.Rows PySem.Spec PySem.SeqAt PySem.Calls
namespace B
theorem lk_l_append:Pt (.type "list") "append" = pure (some (.builtin "list.append")):=by rw[OP,Os];kernel_rfl
theorem slot_md_get:Slot "method_descriptor" "__get__" "method_descriptor.__get__" :=
 .of (owner:= "method_descriptor") (n:= "__get__") (by rw[OP,Os];kernel_rfl) (by decide +kernel) (by decide +kernel) (by decide +kernel)
  (by first | exact .inl (by decide +kernel) | exact .inr (by decide +kernel)) (by rw[OJ];kernel_rfl)
theorem no_md_set:Pt (.type "method_descriptor") "__set__" = pure none:=by rw[OP,Os];kernel_rfl
theorem no_md_del:Pt (.type "method_descriptor") "__delete__" = pure none:=by rw[OP,Os];kernel_rfl
theorem entry_md_get:entryFor table "method_descriptor.__get__" = some OX.«method_descriptor.__get__»:=entryFor_of_tree (by kernel_rfl)
theorem args_md_get(a b c:NO):argsOk "method_descriptor.__get__" ⟨[a,b,c],[]⟩:=by unfold argsOk;kernel_rfl
theorem typeOf_l_append:typeOf (.builtin "list.append")=pure (.type "method_descriptor"):=by kernel_rfl
theorem sub_l_owner:PS (.type "list") (.type (".".intercalate ("list.append".cutAt '.').dropLast))=pure true:=by
 have e0 : "list.append".cutAt '.'=["list", "append"]:=by first | rfl | decide +kernel
 rw[e0,OJ];kernel_rfl
theorem MX:Pt (.type "list") "__getattr__" = pure none:=by rw[OP,Os];kernel_rfl
end B
section
variable{prog:Ol}{w:Og}{A:N0}{E:NO->NL->Prop}{h:N9}{g:Array GenState}{d:Drawn}{t:Nat}{os:OsState}{a:NQ}{o:Obj}
theorem GP(hx:h.get? a=some o)(hc:o.cls=.type "list") (hq:R (.ok (.ret (.ref h.objs.size))) ⟨h.push (cI "builtin_function_or_method" "list.append" a),g,d,t,os⟩) :
 O3 (NP prog w) A (.call (.builtin "method_descriptor.__get__") ⟨[.builtin "list.append",.ref a,.type "list"],[]⟩) R ⟨h,g,d,t,os⟩:=by
 have hT:(⟨h,g,d,t,os⟩:NL).TypeIs (.ref a) "list":=⟨_,hx,hc⟩
 have hT5:(⟨h,g,d,t,os⟩:NL).TypeIs (.builtin "list.append") "method_descriptor":=B.typeOf_l_append
 have f8:=B.sub_l_owner
 refine PF B.slot_md_get.plain B.entry_md_get (B.slot_md_get.check _ _ _ _ _ _ _ _ hT5 (B.args_md_get _ _ _) ?_)
 repeat (any_goals (first | assumption | wp_step))
theorem GQ{tk:Tok}{vs:Array NO}{n:Nat}{Q:Fin->NL->Prop}(hx:h.get? a=some { cls:=.type "list",data:=.seq vs n }) (hq:Q (.done (.ret (.ref h.objs.size))) ⟨h.push (cI "builtin_function_or_method" "list.append" a),g,d,t,os⟩) :
 NN (NP prog w) A (OX.«object.__getattribute__» ⟨[.ref a,.str "append" tk],[]⟩) Q E ⟨h,g,d,t,os⟩:=by
 have hT:(⟨h,g,d,t,os⟩:NL).TypeIs (.ref a) "list":=⟨_,hx,rfl⟩
 have hT5:(⟨h,g,d,t,os⟩:NL).TypeIs (.builtin "list.append") "method_descriptor":=B.typeOf_l_append
 have f4:=B.lk_l_append
 have f5:=B.typeOf_l_append
 have f6:=B.slot_md_get.lookup
 have f7:=B.no_md_set
 have f8:=B.no_md_del
 repeat (any_goals (first | assumption | wp_step))
 refine GP hx rfl ?_
 repeat (any_goals (first | assumption | wp_step))
theorem GR{tk:Tok}{vs:Array NO}{n:Nat}{R:Result->NL->Prop}(hx:h.get? a=some { cls:=.type "list",data:=.seq vs n }) (hq:R (.ok (.ret (.ref h.objs.size))) ⟨h.push (cI "builtin_function_or_method" "list.append" a),g,d,t,os⟩) :
 O3 (NP prog w) A (.call (.builtin "list.__getattribute__") ⟨[.ref a,.str "append" tk],[]⟩) R ⟨h,g,d,t,os⟩ :=
 PF F.slot_list_getattribute.plain am_entry_list_getattribute (F.slot_list_getattribute.check _ _ _ _ _ _ _ _ (show(⟨h,g,d,t,os⟩:NL).TypeIs (.ref a) "list" from⟨_,hx,rfl⟩) (F.args_list_getattribute_2 _ _) (GQ hx hq))
theorem GS{vs:Array NO}{n:Nat}{Q:NO->NL->Prop}(hx:h.get? a=some { cls:=.type "list",data:=.seq vs n }) (hq:Q (.ref h.objs.size) ⟨h.push (cI "builtin_function_or_method" "list.append" a),g,d,t+1,os⟩) :
 NN (NP prog w) A (PI (.ref a) "append" true) Q E ⟨h,g,d,t,os⟩:=by
 have hT:∀tk',(⟨h,g,d,tk',os⟩:NL).TypeIs (.ref a) "list":=fun U=>⟨_,hx,rfl⟩
 have f2:=F.slot_list_getattribute.lookup
 have f3:=F.slot_list_getattribute.bind (.ref a)
 have f5:=am_list_getattr_none
 unfold PI getAttrBy
 repeat (any_goals (first | assumption | exact hT _ | wp_step))
 refine GR hx ?_
 repeat (any_goals (first | assumption | exact hT _ | wp_step))
end
namespace B
theorem kind_append:builtinKind "list.append" = some .method:=by kernel_rfl
theorem plain_append:plainId "list.append" = true:=by decide +kernel
theorem sig_append:∃sig,Qk "list.append" = some sig:=by
 have h:(Qk "list.append").isSome=true:=by decide +kernel
 exact Ng.mp h
theorem no_va:Manifest.varargsMethods.contains "list.append" = false:=by decide +kernel
theorem sub_l_mod:PS (.type "list") (.type "module")=pure false:=by rw[OJ];kernel_rfl
theorem sub_l_type:PS (.type "list") (.type "type")=pure false:=by rw[OJ];kernel_rfl
end B
section
variable{prog:Ol}{w:Og}{A:N0}{E:NO->NL->Prop}{h:N9}{g:Array GenState}{d:Drawn}{t:Nat}{os:OsState}{a:NQ}
theorem GT{vs:Array NO}{n:Nat}{v:NO}{Q:Unit->NL->Prop}(hx:h.get? a=some { cls:=.type "list",data:=.seq vs n }) (hq:Q () ⟨h,g,d,t,os⟩):NN (NP prog w) A (P0 "list.append" ⟨[.ref a,v],[]⟩) Q E ⟨h,g,d,t,os⟩:=by
 have hT:(⟨h,g,d,t,os⟩:NL).TypeIs (.ref a) "list":=⟨_,hx,rfl⟩
 have f1:=B.sub_l_mod
 have f2:=B.sub_l_type
 refine x11 B.sig_append fun sig hs=>?_
 unfold P0
 rw[hs,B.kind_append]
 dsimp only
 rw[B.no_va]
 rw[if_neg (show ¬((Qr != Qr&&Qr != Manifest.AttrKind.classMethod)=true)from by decide)]
 have key:(match Qk "list.append" with | some sig=>Bind.checkArgs "list.append" { sig with full:=toString (Qz "list")++toString "."++toString (Qz "list.append") } ⟨[.ref a,v],[]⟩ | none=>pure ())=pure ():=by kernel_rfl
 rw[hs]at key
 dsimp only at key
 have tail:NN (NP prog w) A (Bind.checkArgs "list.append" { sig with full:=toString (Qz "list")++toString "."++toString (Qz "list.append") } ⟨[.ref a,v],[]⟩) Q E ⟨h,g,d,t,os⟩:=by rw[key];exact NU hq
 generalize hrest:Bind.checkArgs "list.append" { sig with full:=toString (Qz "list")++toString "."++toString (Qz "list.append") } ⟨[.ref a,v],[]⟩=rest at tail
 repeat (any_goals (first | assumption | wp_step))
theorem GU{v:NO}{Q:NO->NL->Prop}(hm:s.heap.get? m=some (cI "builtin_function_or_method" "list.append" l)) (hl:IsL s.heap l vs n) (hz:vs.size<=O5)
 (hQ:∀h' n',IsL h' l (vs.push v) n'->OQ l s.heap h'->Q .none { s with heap:=h' }):NN (NP prog w) A (call (.ref m) [v]) Q E s:=by
 refine O1 (codeAny_of_tree ?_)
 show NN _ A.in1 (load m >>= _) _ _ s
 refine NM (wpAny_load hm ?_)
 show NN _ A.in1 (P0 "list.append" ⟨[.ref l,v],[]⟩ >>= fun U=>again (.builtin "list.append" ⟨[.ref l,v],[]⟩)) _ _ s
 refine NM (GT hl ?_)
 refine NU ⟨plainId_quiet B.plain_append _,Qn F.entry_list_append ?_⟩
 rw[Qh B.plain_append]
 refine PySem.AutoListH.list_append_list_val_0 l vs n v hz prog w A (fun r s'=>match r with | .ok (.ret v)=>Q v s' | .ok _=>False | .error e=>E e s') s ⟨hl,?_⟩
 exact hQ _ _ (IsL.update hl _) (Om ..)
theorem GV(hm:h.get? m=some (cI "builtin_function_or_method" "list.append" l)):Looks M h (keeperOf (.ref m)) .machine:=(Looks.ld (part:=none) hm).andThen .now
theorem GW{pos:Pos}{s:NL}{Q:NO->NL->Prop}(h:NN (NP prog w) A x (fun v s₁=>s₁.heap.get? m=some (cI "builtin_function_or_method" "list.append" l)/\∃vs n,IsL s₁.heap l vs n/\vs.size<=O5 /\
 ∀h' n',IsL h' l (vs.push v) n'->OQ l s₁.heap h'->Q .none { s₁ with heap:=h' }) E s):NN (NP prog w) A (callWith pos (.ref m) [] [(false,x)] []) Q E s:=by
 refine callWith_of (P:=fun h=>h.get? m=some (cI "builtin_function_or_method" "list.append" l)) rfl (fun h hp=>⟨.machine,.inr (.inl rfl),GV hp⟩) (Oj (N7 (NS h (fun v s₁ h₁=>N4 ?_) fun U U e=>e)))
 obtain⟨hm,vs,n,hl,hz,hq⟩:=h₁
 exact⟨hm,GU hm hl hz hq⟩
end
inductive StrsAre:List NO->List Str->Prop where
 | nil:StrsAre [] []
 | cons {x:Str} {t:Tok} {vs:List NO} {xs:List Str} (r:StrsAre vs xs):StrsAre (.str x t::vs) (x::xs)
theorem StrsAre.snoc(q:StrsAre vs xs):StrsAre (vs++[.str y u]) (xs++[y]):=by
 induction q with
 | nil=>exact .cons .nil
 | cons r ih=>exact .cons ih
theorem StrsAre.len:∀ {vs:List NO} {xs:List Str},StrsAre vs xs->vs.length=xs.length:=fun q=>by
 induction q with
 | nil=>rfl
 | cons r ih=>exact congrArg Nat.succ ih
theorem StrsAre.rep:∀ {vs:List NO} {xs:List Str},StrsAre vs xs->RepL O h vs (xs.map OE):=fun q=>by
 induction q with
 | nil=>exact .nil
 | cons r ih=>exact .cons (.str _ _) ih
section
variable{G:Glo}{Φ:List FEntry}
structure TI(G:Glo)(Re:Env)(sc:Scope)(Rc:List (Option Str))(A:N0)(ir ia:Nat)(a m:NQ)(s₀:NL)(O:NQ->Prop)(ρ:List SV)(xs:List Str)(s:NL):Prop where
 C:Cond G Re sc Rc A O (fun U=>none) ρ s
 oa:O a
 sa:¬aS Re a
 hr:ρ.getD ir .un=.val (.ref a)
 ha:ρ.getD ia .un=.val (.ref m)
 om:¬O m
 hm:s.heap.get? m=some (cI "builtin_function_or_method" "list.append" a)
 hl:∃arr n,IsL s.heap a arr n/\StrsAre arr.toList xs
 km:KM (fun b=>aS Re b\/b=a) s₀ s
 na:s₀.heap.get? a=none
variable{Re:Env}{sc:Scope}{Rc:List (Option Str)}{A:N0}{ir ia:Nat}{a m:NQ}{s₀ s s':NL}{O:NQ->Prop}{ρ:List SV}{xs:List Str}{E:NO->NL->Prop}
theorem TI.keeps(wf:G.Wf)(I:TI G Re sc Rc A ir ia a m s₀ O ρ xs s)(k:NX s s'):TI G Re sc Rc A ir ia a m s₀ O ρ xs s' :=
 ⟨I.C.keeps wf k,I.oa,I.sa,I.hr,I.ha,I.om,ai k _ _ I.hm,I.hl.elim fun arr ζ=>ζ.elim fun n ζ=>ζ.elim fun h r=>⟨arr,n,ai k _ _ h,r⟩,I.km.trans (KM.of k),I.na⟩
theorem TI.frame(I:TI G Re sc Rc A ir ia a m s₀ O ρ xs s)(k:KM (ba Re) s s')(C':Cond G Re sc Rc A O (fun U=>none) ρ' s')(e1:ρ'.getD ir .un=.val (.ref a))(e2:ρ'.getD ia .un=.val (.ref m)):TI G Re sc Rc A ir ia a m s₀ O ρ' xs s' :=
 ⟨C',I.oa,I.sa,e1,e2,I.om,k.get _ _ (fun q=>I.om (I.C.fr _ q)) I.hm,I.hl.elim fun arr ζ=>ζ.elim fun n ζ=>ζ.elim fun h r=>⟨arr,n,k.get _ _ (fun q=>I.sa q.store) h,r⟩,I.km.trans (k.mono fun b q=>.inl q.store),I.na⟩
theorem TI.asg{Q:Flow->NL->Prop}(wf:G.Wf)(hF:∀F∈Φ,aM G F)(hsto:∀i,br Re Rc i)(I:TI G Re sc Rc A ir ia a m s₀ O ρ xs s)(hi:Rc[i]? = some (some x))(hk:aW sc x=true)(hc:chk Φ e sc Rc v=true)(hsw:P9 v (some (.Name x p)) pos.line Re=pure false)(R:aK (kx Φ e) A)(hp:pre Φ e false ρ)(h1:i≠ir)(h2:i≠ia)
 (h:∀s',TI G Re sc Rc A ir ia a m s₀ O (ρ.set i (.dat (den Φ e ρ))) xs s'->Q .next s'):NN (NP G.prog G.w) A (Oy (.Assign [.Name x p] v pos) Re) Q E s:=by
 refine Oc (NS ((snd wf hF e).ev sc Rc v false Re A O _ ρ s E hc I.C R hp) (fun u s₁ h₁=>?_) fun U U x=>x) hsw rfl
 have I1:=I.keeps wf h₁.1
 show NN _ A (Ox (.Name x p) Re u) _ _ s₁
 exact ij wf (hsto i) I1.C hi hk h₁.2.ff fun s' k C'=>h s' (I1.frame k C' (by rw[dq,if_neg fun q=>h1 q.1];exact I.hr) (by rw[dq,if_neg fun q=>h2 q.1];exact I.ha))
theorem TI.add{np cp pos:Pos}{Q:Flow->NL->Prop}(wf:G.Wf)(hF:∀F∈Φ,aM G F)(I:TI G Re sc Rc A ir ia a m s₀ O ρ xs s)(hi:Rc[ia]? = some (some x))(hd:(x==ofString "__debug__")=false) (hc:chk Φ e sc Rc v=true) (R:aK (kx Φ e) A) (hp:pre Φ e false ρ) (hy:den Φ e ρ=.str y) (hz:xs.length<=1000)
 (h:∀s',TI G Re sc Rc A ir ia a m s₀ O ρ (xs++[y]) s'->Q .next s'):NN (NP G.prog G.w) A (Oy (.Expr (.Call (.Name x np) [v] [] cp) pos) Re) Q E s:=by
 have hint:OY Re=false:=by unfold OY;rw[I.C.eo.kindS];rfl
 refine PP (eh (fun b hb=>by rw[ah.mp hb];exact gA e hc) (fZ I.C hi hd I.ha ?_)) hint rfl
 refine GW (l:=a) (NS ((snd wf hF e).ev sc Rc v false Re A O _ ρ s E hc I.C R hp) (fun u s₁ h₁=>?_) fun U U x=>x)
 have I1:=I.keeps wf h₁.1
 refine x22 I1.hl fun arr n hl hs=>?_
 have rv:=h₁.2.ff
 rw[hy]at rv
 cases rv with
 | str _ t =>
 have hlen:arr.size=xs.length:=by rw[<- cD];exact hs.len
 refine⟨I1.hm,arr,n,hl,by rw[hlen,OK];lia,fun h' n' hl' hsb=>?_⟩
 have k:KM (· = a) s₁ { s₁ with heap:=h' }:=KM.chg (t:=s₁.toks) hsb.extBut ⟨_,hl'⟩ rfl
 have C':=I1.C.outer wf k (fun b q=>q▸I1.oa) fun b q=>q▸I1.sa
 refine h _ ⟨C',I1.oa,I1.sa,I1.hr,I1.ha,I1.om,k.get _ _ (fun q=>I1.om (q▸I1.oa)) I1.hm,⟨_,n',hl',by rw[Qx];exact hs.snoc⟩,I1.km.trans (k.mono fun b q=>.inr q),I1.na⟩
end
section
variable{G:Glo}{Φ:List FEntry}
theorem fY.of{O:NQ->Prop}{ω:NQ->Option Nat}{h:N9}{slots:List Nat}{vs:List NO}{ds:List NR}(hl:slots.length=ds.length)(r:RepL O h vs ds):fY G O ω h slots vs (ds.map .dat):=by
 induction ds generalizing slots vs with
 | nil =>
  cases r
  cases slots with
  | nil=>trivial
  | cons i l=>cases hl
 | cons d ds ih =>
  cases slots with
  | nil=>cases hl
  | cons i l =>
   cases r with
   | cons r l=>exact⟨⟨_,rfl,r⟩,ih (Nat.succ.inj hl) l⟩
theorem yG{Re:Env}{sc:Scope}{Rc:List (Option Str)}{A:N0}{O:NQ->Prop}{ω:NQ->Option Nat}{ρ:List SV}{s:NL}{E:NO->NL->Prop}{slots:List Nat}{es:IX}{ts vs:List Expr}{k k':Nat}{p p' pos:Pos}{Q:Flow->NL->Prop}(wf:G.Wf)(hF:∀F∈Φ,aM G F)
 (hn:dT sc Rc slots ts=true) (he:ca Φ es sc Rc vs=true) (hsafe:jH vs=true) (hnd:slots.Nodup) (hlen:slots.length=(bL Φ es ρ).length) (hsz:(bL Φ es ρ).length<=16777216) (hsto:∀i,br Re Rc i) (C:Cond G Re sc Rc A O ω ρ s) (R:aK (kx Φ es) A) (hp:eH Φ es ρ)
 (hQ:∀s',KM (ba Re) s s'->Cond G Re sc Rc A O ω (em ρ (slots.zip ((bL Φ es ρ).map .dat))) s'->Q .next s'):NN (NP G.prog G.w) A (Oy (.Assign [.Tuple ts k p] (.Tuple vs k' p') pos) Re) Q E s:=by
 refine xg (ρ:=ρ) wf hsto hn (jE es he) hsafe hnd (NS ((snd wf hF es).ls sc Rc vs Re A O ω ρ s E he C R hp) (fun us s₁ h₁=>?_) fun U U x=>x)
 exact⟨O,ω,_,by rw[af];exact hlen,h₁.2.length.symm▸hsz,C.keeps wf h₁.1,fY.of hlen h₁.2,fun s' k C'=>hQ s' ((KM.of h₁.1).trans k) C'⟩
end
noncomputable def et:Str:=ofString "res"
noncomputable def fD:Str:=ofString "add"
noncomputable def tO:Str:=ofString "append"
section
variable{G:Glo}{Φ:List FEntry}{Re:Env}{sc:Scope}{Rc:List (Option Str)}{A:N0}{ir ia:Nat}{s:NL}{O:NQ->Prop}{ρ:List SV}{E:NO->NL->Prop}
theorem TI.start{p1 p2 p3 p4 p5 q1 q2:Pos}{rest:List NW}{Q:Flow->NL->Prop}(wf:G.Wf)(hsto:∀i,br Re Rc i)(C:Cond G Re sc Rc A O (fun U=>none) ρ s)(hr:Rc[ir]? = some (some et))(ha:Rc[ia]? = some (some fD))(kr:aW sc et=true)(ka:aW sc fD=true)(hne:ir≠ia)(lr:ir<ρ.length)(la:ia<ρ.length)
 (h:∀a m O' s',TI G Re sc Rc A ir ia a m s O' ((ρ.set ir (.val (.ref a))).set ia (.val (.ref m))) [] s'->(∀b,O b->O' b)->(∀b,O' b->O b\/s.heap.get? b=none)->NN (NP G.prog G.w) A (OG rest Re) Q E s') :
 NN (NP G.prog G.w) A (OG (.Assign [.Name et p1] (.List [] p2) q1::.Assign [.Name fD p3] (.Attribute (.Name et p4) tO p5) q2::rest) Re) Q E s:=by
 have kt:NX s { s with heap:=s.heap.push { cls:=.type "list",data:=.seq ([]:List NO).toArray } }:=bz _
 have hnone:s.heap.get? s.heap.objs.size=none:=OL (bM _)
 generalize hae:s.heap.objs.size=a at hnone
 have hla:IsL (s.heap.push { cls:=.type "list",data:=.seq ([]:List NO).toArray }) a #[] 0:=hae▸IsL.new _ _
 refine NT (Oc (Qt (N4 ⟨cj _,?_⟩)) rfl rfl)
 rw[hae]
 generalize hs1:({ s with heap:=s.heap.push { cls:=.type "list",data:=.seq ([]:List NO).toArray } }:NL)=s1 at kt
 have hla:IsL s1.heap a #[] 0:=by rw[<- hs1];exact hla
 have C1:Cond G Re sc Rc A (fun b=>O b\/b=a) (fun U=>none) ρ s1:=C.grow wf kt (fun b q=>.inl q) (fun b q=>q.elim .inl fun z=>.inr (z▸hnone)) fun b q=>q.elim (fun q=>(C.ok.obs b q).elim fun o e=>⟨o,ai kt b o e⟩) fun z=>⟨_,z▸hla⟩
 have hsa:¬aS Re a:=fun q=>by refine x11 (C.ok.obs a (C.store_O q)) fun o e=>?_;rw[hnone]at e;cases e
 show NN _ A (Ox (.Name et p1) Re (.ref a)) _ _ s1
 refine Ot (dW (y:=.val (.ref a)) wf (hsto ir) C1 hr kr rfl fun s2 k2 C2=>?_)
 have hla2:IsL s2.heap a #[] 0:=k2.get _ _ (fun q=>hsa q.store) hla
 have hg1:(ρ.set ir (.val (.ref a))).getD ir .un=.val (.ref a):=by rw[dq,if_pos ⟨rfl,lr⟩]
 refine NT (Oc (gH C2 hr (by decide +kernel) hg1 ?_) rfl rfl)
 obtain⟨hh,g,d,t,os⟩:=s2
 refine GS hla2 ?_
 have k3:NX ⟨hh,g,d,t,os⟩ ⟨hh.push (cI "builtin_function_or_method" "list.append" a),g,d,t+1,os⟩:=bz _
 have hmn:hh.get? hh.objs.size=none:=OL (bM _)
 have C3:=C2.keeps wf k3
 have hom:¬(O hh.objs.size\/hh.objs.size=a):=fun q=>by refine x11 (C2.ok.obs _ q) fun o e=>?_;rw[hmn]at e;cases e
 show NN _ A (Ox (.Name fD p3) Re (.ref hh.objs.size)) _ _ _
 refine Ot (dW (y:=.val (.ref hh.objs.size)) wf (hsto ia) C3 ha ka rfl fun s4 k4 C4=>?_)
 refine h a hh.objs.size (fun b=>O b\/b=a) s4 ⟨C4,.inr rfl,hsa,?_,?_,hom,k4.get _ _ (fun q=>hom (C3.fr _ q)) (NZ _ rfl),⟨#[],0,k4.get _ _ (fun q=>hsa q.store) (ai k3 _ _ hla2),.nil⟩,?_,hnone⟩ (fun b q=>.inl q) fun b q=>q.elim .inl fun z=>.inr (z▸hnone)
 ·rw[dq,if_neg fun q=>hne q.1.symm];exact hg1
 ·rw[dq,if_pos ⟨rfl,by rw[Nz];exact la⟩]
 ·exact(((KM.of kt).trans (k2.mono fun b q=>.inl q.store)).trans (KM.of k3)).trans (k4.mono fun b q=>.inl q.store)
end
noncomputable def jS:Str:=ofString "pat"
noncomputable def eM:Str:=ofString "STAR"
noncomputable def tP:Str:=ofString "QUESTION_MARK"
noncomputable def jd:Str:=ofString "i"
noncomputable def yH:Str:=ofString "n"
noncomputable def yI:Str:=ofString "c"
noncomputable def jT:List Str:=[jS,eM,tP,et,fD,jd,yH,yI]
noncomputable def bY:List (Option Str):=jT.map some
noncomputable def yJ:IX:=.sub (.var 0) (.var 5)
noncomputable def GX:IX:=.bin .Add (.var 5) (.lit (.int 1))
noncomputable def tQ:IX:=.cmp .Lt (.var 5) (.var 6)
noncomputable def yK:IX:=.cmp .Eq (.var 5) (.var 6)
noncomputable def lc(c:Nat):IX:=.cmp .Eq (.var 7) (.lit (.str ⟨#[c]⟩))
noncomputable def GY:IX:=.call 0 (.cons (.var 7) .nil)
noncomputable def tR:IX:=.cons (.lit (.int 0)) (.cons (.len (.var 0)) .nil)
noncomputable def yL(P:Nat->Pos)(v1:Expr)(v2:Expr)(t1:Expr)(u1:List NW)(t2:Expr)(g1:Expr)(t3:Expr)(u2:List NW)(g2:Expr):List NW:=[.Assign [.Name yI (P 0)] v1 (P 1),.Assign [.Name jd (P 2)] v2 (P 3),.If t1 u1 [.If t2 [.Expr (.Call (.Name fD (P 4)) [g1] [] (P 5)) (P 6)] [.If t3 u2 [.Expr (.Call (.Name fD (P 7)) [g2] [] (P 8)) (P 9)] (P 10)] (P 11)] (P 12)]
inductive isTBody(sc:Scope)(b:List NW):Prop where
 | mk (h1:b=yL BQ rg rh vn B0 vo vq vr B1 vt) (h2:chk [bR] yJ sc bY rg=true) (h3:pQ rg=true) (h4:chk [bR] GX sc bY rh=true) (h5:pQ rh=true) (h6:chk [bR] (lc 42) sc bY vn=true) (h7:chk [bR] (lc 63) sc bY vo=true) (h8:chk [bR] (lc 91) sc bY vr=true) (h9:chk [bR] (.var 2) sc bY vq=true) (h10:chk [bR] GY sc bY vt=true):isTBody sc b
noncomputable def yM(P:Nat->Pos)(ts:List Expr)(k1:Nat)(vs:List Expr)(k2:Nat)(t1:Expr)(body:List NW)(t2:Expr)(msg:Option Expr):List NW:=[.Assign [.Name et (P 0)] (.List [] (P 1)) (P 2),.Assign [.Name fD (P 3)] (.Attribute (.Name et (P 4)) tO (P 5)) (P 6),.Assign [.Tuple ts k1 (P 7)] (.Tuple vs k2 (P 8)) (P 9),.While t1 body [] (P 10),.Assert t2 msg (P 11),.Return (some (.Name et (P 12))) (P 13)]
inductive isTrans(sc:Scope)(b:List NW):Prop where
 | mk (h1:b=yM BP vu B3 ri B5 rj vv rk B6) (h2:dT sc bY [5,6] vu=true) (h3:ca [bR] tR sc bY ri=true) (h4:jH ri=true) (h5:chk [bR] tQ sc bY rj=true) (h6:isTBody sc vv) (h7:chk [bR] yK sc bY rk=true):isTrans sc b
noncomputable def gP:List Nat:=[43,45,46,63]
noncomputable def fE(q:Str)(c:Nat):Str:=if c=63 then q else jb c
noncomputable def gf(star:NO)(a m:NQ)(q:Str)(cs:List Nat)(i:Nat)(c:SV):List SV:=[.dat (.str ⟨cs.toArray⟩),.val star,.dat (.str q),.val (.ref a),.val (.ref m),.dat (.int i),.dat (.int cs.length),c]
theorem tS(h:pQ v=true):P9 v (some (.Name x p)) line Re=pure false:=by
 cases v<;>first | rfl | cases h
theorem pZ(i:Int):bV (.int i):=⟨rfl,by simp[PyData.depth]⟩
theorem yN:∀c∈[42,43,45,46,63,91],bV (.str ⟨#[c]⟩):=by
 intro c hc
 simp at hc
 rcases hc with rfl | rfl | rfl | rfl | rfl | rfl<;>exact⟨by decide +kernel,by decide +kernel⟩
section
variable{G:Glo}
structure TrInfo(G:Glo)(a:NQ)(fd:Of)(body:List NW):Prop where
 FI:FnInfo G a fd body [jS,eM,tP] jT
 bind:∀vs:List NO,vs.length=3->O8 fd ⟨vs,[]⟩=pure ([jS,eM,tP].zip vs)
 bd:isTrans fd.scope body
theorem GZ{s₁ s:NL}{O2:NQ->Prop}{E:NO->NL->Prop}{Q:Flow->NL->Prop}{star:NO}{a m:NQ}{q:Str}{cs:List Nat}{c:SV}{xs:List Str}{body:List NW}(wf:G.Wf)(hF:∀F∈[bR],aM G F)(hsto:∀i,br Re bY i)(st:∀x∈jT,aW sc x=true)(Rd:aK 2 A)
 (hb:isTBody sc body) (hlen:cs.length<=100) (hcs:∀c∈cs,c∈gP) (hlt:i<cs.length) (I4:TI G Re sc bY A 3 4 a m s₁ O2 (gf star a m q cs i c) xs s) (hxs:xs.length=i)
 (h:∀s',TI G Re sc bY A 3 4 a m s₁ O2 (gf star a m q cs (i+1) (.dat (.str ⟨#[cs[i]]⟩))) (xs++[fE q cs[i]]) s'->Q .next s'):NN (NP G.prog G.w) A (OG body Re) Q E s:=by
 have hctx:∀(i:Nat) (x:Str),jT[i]? = some x->bY[i]? = some (some x):=fun i x h=>by unfold bY;rw[cu,h];rfl
 obtain⟨hb2,d1,d2,d3,d4,d5,d6,d7,d8,d9⟩:=hb
 subst hb2
 unfold yL
 have hci:cs[i]∈gP:=hcs _ (M4 hlt)
 generalize hcv:cs[i]=cv at hci h
 have hsub:den [bR] yJ (gf star a m q cs i c)=.str ⟨#[cv]⟩:=by
  show jv (.str ⟨cs.toArray⟩) (.int i)=_
  show OE ⟨#[cs.toArray.getD (bW (i:Int) (⟨cs.toArray⟩:Str).length) 0]⟩=_
  have h0:bW (i:Int) (⟨cs.toArray⟩:Str).length=i:=by unfold bW;rw[if_neg (by lia)];simp
  rw[h0]
  have:cs.toArray.getD i 0=cv:=by
   rw[<- hcv];simp[hlt]
  show OE ⟨#[cs.toArray.getD i 0]⟩=_
  rw[this]
 refine NT (I4.asg (Φ:=[bR]) wf hF hsto (hctx 7 _ rfl) (st _ (bH (by kernel_rfl))) d1 (tS d2) (Rd.le (by decide)) ⟨trivial,trivial,?_⟩ (by decide) (by decide) fun s5 I5=>?_)
 ·show fs (i:Int) (⟨cs.toArray⟩:Str).length
  have:(⟨cs.toArray⟩:Str).length=cs.length:=by show cs.toArray.size=_;simp
  rw[this]
  exact⟨by lia,by lia,by lia,by lia⟩
 rw[hsub]at I5
 have I5:TI G Re sc bY A 3 4 a m s₁ O2 (gf star a m q cs i (.dat (.str ⟨#[cv]⟩))) xs s5:=I5
 refine NT (I5.asg (Φ:=[bR]) wf hF hsto (hctx 5 _ rfl) (st _ (bH (by kernel_rfl))) d3 (tS d4) (Rd.le (by decide)) ⟨trivial,trivial,trivial⟩ (by decide) (by decide) fun s6 I6=>?_)
 have I6:TI G Re sc bY A 3 4 a m s₁ O2 (gf star a m q cs (i+1) (.dat (.str ⟨#[cv]⟩))) xs s6:=I6
 have hxl:xs.length<=1000:=by rw[hxs];lia
 have tst:∀(k:Nat) (tx:Expr) (s':NL) (Q:Bool->NL->Prop) (E:NO->NL->Prop),k∈[42,63,91]->chk [bR] (lc k) sc bY tx=true->TI G Re sc bY A 3 4 a m s₁ O2 (gf star a m q cs (i+1) (.dat (.str ⟨#[cv]⟩))) xs s' ->
  (∀s'',TI G Re sc bY A 3 4 a m s₁ O2 (gf star a m q cs (i+1) (.dat (.str ⟨#[cv]⟩))) xs s''->Q ((⟨#[cv]⟩:Str)==⟨#[k]⟩) s'')->NN (NP G.prog G.w) A (isTrue tx Re (N6 tx Re)) Q E s':=fun k tx s' Q E hk hc J h=>by
  refine NS ((snd wf hF (lc k)).tst sc bY tx Re _ O2 _ _ s' E hc J.C (Rd.le (by show(0:Nat)<=2;decide)) ⟨trivial,trivial,yN cv (by simp[gP]at hci;rcases hci with rfl | rfl | rfl | rfl<;>decide),yN k (by simp at hk;rcases hk with rfl | rfl | rfl<;>decide)⟩ rfl) (fun b s'' hb=>?_) fun U U x=>x
  refine aj hb fun e0 kb=>?_;subst e0
  have he:aq (den [bR] (lc k) (gf star a m q cs (i+1) (.dat (.str ⟨#[cv]⟩))))=((⟨#[cv]⟩:Str)==⟨#[k]⟩):=by
   show Oa (.str ⟨#[cv]⟩) (.str ⟨#[k]⟩)=_
   simp[Oa]
  rw[he]
  exact h s'' (J.keeps wf kb)
 refine NT (Pr (tst 42 _ _ _ _ (by decide) d5 I6 fun s7 I7=>?_))
 have e42:((⟨#[cv]⟩:Str)==⟨#[42]⟩)=false:=by simp[gP]at hci;rcases hci with rfl | rfl | rfl | rfl<;>decide
 rw[e42,if_neg MY]
 refine NT (Pr (tst 63 _ _ _ _ (by decide) d6 I7 fun s8 I8=>?_))
 by_cases h63:cv=63
 ·subst h63
  rw[show((⟨#[63]⟩:Str)==⟨#[63]⟩)=true from by decide,if_pos rfl]
  refine NT (I8.add (Φ:=[bR]) wf hF (hctx 4 _ rfl) (by decide +kernel) d8 (Rd.le (by decide)) trivial rfl hxl fun s9 I9=>N1 (N1 (N1 (h s9 I9))))
 ·have e63:((⟨#[cv]⟩:Str)==⟨#[63]⟩)=false:=by simp[gP]at hci;rcases hci with rfl | rfl | rfl | rfl<;>first | decide | exact absurd rfl h63
  rw[e63,if_neg MY]
  refine NT (Pr (tst 91 _ _ _ _ (by decide) d7 I8 fun s9 I9=>?_))
  have e91:((⟨#[cv]⟩:Str)==⟨#[91]⟩)=false:=by simp[gP]at hci;rcases hci with rfl | rfl | rfl | rfl<;>decide
  rw[e91,if_neg MY]
  have hcs':cv∈pY:=by simp[gP]at hci;rcases hci with rfl | rfl | rfl | rfl<;>first | decide | exact absurd rfl h63
  have hpt:fE q cv=jb cv:=if_neg h63
  rw[hpt]at h
  refine NT (I9.add (Φ:=[bR]) (y:=jb cv) wf hF (hctx 4 _ rfl) (by decide +kernel) d9 (Rd.le (by decide)) ⟨⟨trivial,trivial⟩,cv,hcs',rfl⟩ rfl hxl fun s10 I10=>N1 (N1 (N1 (N1 (h s10 I10)))))
theorem G0{fT:NQ}{fd:Of}{body:List NW}{E:NO->NL->Prop}{star:NO}{t u:Tok}{q:Str}{cs:List Nat}(wf:G.Wf)(hE:aM G bR)(I:TrInfo G fT fd body)(R:aK 3 A)(ok:Okay A O s)(B:G.Base O s.heap)(hcs:∀c∈cs,c∈gP)(hlen:cs.length<=100) :
 NN (NP G.prog G.w) A (call (.ref fT) [.str ⟨cs.toArray⟩ t,star,.str q u]) (PV O s (.list (cs.map fun c=>.str (fE q c)))) E s:=by
 have hF:∀F∈[bR],aM G F:=fun F h=>by rw[ah.mp h];exact hE
 refine O1 (kM (s:=s) (O:=O) (vs:=[.str ⟨cs.toArray⟩ t,star,.str q u]) (ys:=[.dat (.str ⟨cs.toArray⟩),.val star,.dat (.str q)]) wf I.FI ok B (fun i v y hv hy=>?_) rfl rfl (R.fits (cj _)) (I.bind _ rfl) fun Re O' s₁ k1 hO1 hO2 hSt hsto C E' Qf hret hnx=>?_)
 ·exact xj (P:=eX G _ _) (.inl ⟨_,rfl,.str _ _⟩) (.inr rfl) (.inl ⟨_,rfl,.str _ _⟩) i v y hv hy
 have Rd:aK 2 (A.deeper Re):=(R.deeper (bM _))
 have bd:=I.bd
 obtain⟨hb,b1,b2,b3,b4,b5,b6⟩:=bd
 rw[hb]
 unfold yM
 have st:∀x∈jT,aW fd.scope x=true:=fun x hx=>I.FI.sc.st hx
 have hctx:∀(i:Nat) (x:Str),jT[i]? = some x->bY[i]? = some (some x):=fun i x h=>by unfold bY;rw[cu,h];rfl
 refine TI.start (ir:=3) (ia:=4) wf hsto C (hctx 3 _ rfl) (hctx 4 _ rfl) (st _ (bH (by kernel_rfl))) (st _ (bH (by kernel_rfl))) (by decide) (by show 3<8;decide) (by show 4<8;decide) fun a m O2 s2 I2 hO3 hO4=>?_
 have hρ:((cw jT [SV.dat (.str ⟨cs.toArray⟩),.val star,.dat (.str q)]).set 3 (.val (.ref a))).set 4 (.val (.ref m))=[.dat (.str ⟨cs.toArray⟩),.val star,.dat (.str q),.val (.ref a),.val (.ref m),.un,.un,.un]:=rfl
 rw[hρ]at I2
 refine NT (yG (Φ:=[bR]) (es:=tR) wf hF b1 b2 b3 (by decide) rfl (by show 2<=16777216;decide) hsto I2.C (Rd.le (by decide)) ⟨trivial,⟨trivial,by show(⟨cs.toArray⟩:Str).length<=_;show cs.toArray.size<=_;simp;lia⟩,trivial⟩ fun s3 k3 C3=>?_)
 have hρ3:em [.dat (.str ⟨cs.toArray⟩),.val star,.dat (.str q),.val (.ref a),.val (.ref m),.un,.un,.un] ([5,6].zip ((bL [bR] tR [.dat (.str ⟨cs.toArray⟩),.val star,.dat (.str q),.val (.ref a),.val (.ref m),.un,.un,.un]).map SV.dat))=gf star a m q cs 0 .un:=by
  show[SV.dat (.str ⟨cs.toArray⟩),.val star,.dat (.str q),.val (.ref a),.val (.ref m),.dat (.int 0),.dat (.int (iT (.str ⟨cs.toArray⟩))),.un]=_
  have:iT (.str ⟨cs.toArray⟩)=cs.length:=by show cs.toArray.size=_;simp
  rw[this];rfl
 rw[hρ3]at C3
 have I3:=I2.frame k3 C3 rfl rfl
 -- the loop
 refine NT (wpAny_While (PC (fun mm sk=>∃i c,i<=cs.length/\mm=cs.length - i/\TI G Re fd.scope bY (A.deeper Re) 3 4 a m s₁ O2 (gf star a m q cs i c) ((cs.take i).map (fE q)) sk) ?_ cs.length ⟨0,.un,cj _,rfl,I3⟩))
 rintro mm sk ⟨i,c,hi,rfl,Ik⟩
 refine NS ((snd wf hF tQ).tst fd.scope bY rj Re _ O2 _ _ sk _ b4 Ik.C (Rd.le (by decide)) ⟨trivial,trivial,trivial⟩ rfl) (fun tt s4 h4=>?_) fun U U x=>x
 refine aj h4 fun e0 k4=>?_;subst e0
 have I4:=Ik.keeps wf k4
 have htr:aq (den [bR] tQ (gf star a m q cs i c))=decide ((i:Int)<(cs.length:Int)):=rfl
 rw[htr]
 by_cases hlt:i<cs.length
 ·rw[if_pos (by simpa using hlt)]
  refine GZ wf hF hsto (fun x hx=>st x hx) Rd b5 hlen hcs hlt I4 (by rw[af,Ma];lia) fun s' J=>?_
  refine⟨cs.length - (i+1),by lia,i+1,.dat (.str ⟨#[cs[i]]⟩),hlt,rfl,?_⟩
  have:cs.take (i+1)=cs.take i++[cs[i]]:=by rw[List.take_succ,bw hlt];rfl
  rw[this,c8]
  exact J
 ·have hie:i=cs.length:=by lia
  subst hie
  rw[if_neg (by simp)]
  refine N1 ?_
  have hall:(cs.take cs.length).map (fE q)=cs.map (fE q):=by rw[Bw]
  rw[hall]at I4
  -- assert i==n
  refine NT (wpAny_Assert_holds (NS ((snd wf hF yK).tst fd.scope bY rk Re _ O2 _ _ s4 _ b6 I4.C (Rd.le (by decide)) ⟨trivial,trivial,pZ _,pZ _⟩ rfl) (fun tt s5 h5=>?_) fun U U x=>x))
  refine aj h5 fun e0 k5=>?_;subst e0
  have I5:=I4.keeps wf k5
  refine⟨?_,?_⟩
  ·show Oa (.int (cs.length:Int)) (.int (cs.length:Int))=true
   simp[Oa]
  refine NT (OV (fZ I5.C (hctx 3 _ rfl) (by decide +kernel) I5.hr ?_))
  refine x22 I5.hl fun arr n hl hs=>?_
  have hsa:∀b o,s.heap.get? b=some o->¬(aS Re b\/b=a):=fun b o e z=>by
   rcases z with z | z
   ·rw[hSt b z]at e;cases e
   ·have:=im k1 I5.na
    rw[z,this]at e;cases e
  obtain⟨h9,t9,rfl,p1,p2⟩:=I5.km
  refine x22 k1 fun h1 t1' e2 q1=>?_;subst e2
  refine hret _ _ ⟨⟨h9,t9,rfl,fun b o e=>p1 b o (hsa b o e) (q1 b o e)⟩,?_⟩
  have hn:=im (s:=s) ⟨h1,t1',rfl,q1⟩ I5.na
  have:=Rep.list (O:=O) (fun z=>by refine x11 (ok.obs a z) fun o e=>?_;rw[hn]at e;cases e) hl hs.rep
  rw[fk]at this
  exact this
end
section
variable{G:Glo}{Re:Env}{sc:Scope}{Rc:List (Option Str)}{A:N0}{ir ia:Nat}{a m:NQ}{s₀ s s':NL}{O:NQ->Prop}{ρ:List SV}{xs:List Str}{E:NO->NL->Prop}
theorem TI.free(wf:G.Wf)(I:TI G Re sc Rc A ir ia a m s₀ O ρ xs s):Cond G Re sc Rc A (fun b=>O b/\b≠a) (fun U=>none) (ρ.set ir (.dat (.list (xs.map .str)))) s:=by
 refine x22 I.hl fun arr n hl hs=>?_
 have C:=I.C
 obtain⟨val,F,V⟩:=C.vars
 refine⟨C.eo,C.co,by rw[Nz];exact C.len,⟨C.ok.hok,fun b hb q=>C.ok.hno b hb q.1,fun b q=>C.ok.obs b q.1⟩,⟨C.base.kp,fun b q=>C.base.off b q.1⟩,fun b q=>⟨C.fr b q,fun z=>I.sa (z▸q.store)⟩,fun x c e=>⟨C.fc x c e,fun z=>I.sa (.inr ⟨x,z▸e⟩)⟩,fun b i e=>(by cases e),val,F,fun j x hx=>?_⟩
 have hv:=V j x hx
 rw[dq]
 split
 ·rename_i q
  refine aj q fun e0 U=>?_;subst e0
  rw[I.hr]at hv
  exact⟨.ref a,hv,.list (fun q=>q.2 rfl) hl hs.rep⟩
 ·cases hy:ρ.getD j .un with
  | un=>trivial
  | val u=>rw[hy]at hv;exact hv
  | dic l=>rw[hy]at hv;exact x13 hv fun a e1 e2 U=>nomatch e2
  | dat d =>
   rw[hy]at hv
   refine x12 hv fun u e r=>?_
   exact⟨u,e,r.weak fun b q=>q.1⟩
  | own d =>
   rw[hy]at hv
   obtain⟨_,_,_,_,_,e2,_⟩:=hv
   cases e2
  | sor g =>
   rw[hy]at hv
   refine x23 hv fun u S e r hS=>?_
   exact⟨u,S,e,r,hS⟩
end
noncomputable def tT:Str:=ofString "inp"
noncomputable def gQ:List Str:=[tT,eM,et,fD,jd,yH]
noncomputable def bx:List (Option Str):=gQ.map some
noncomputable def jU:IX:=.sub (.var 0) (.var 4)
noncomputable def nh:IX:=.cmp .Lt (.var 4) (.var 5)
noncomputable def yO:IX:=.cmp .Eq (.var 4) (.var 5)
noncomputable def tU:IX:=.cons (.lit (.int 0)) (.cons (.len (.var 0)) .nil)
noncomputable def tV:IX:=.join (.lit (.str OZ)) (.var 2)
noncomputable def je:Str:=ofString "(?s:"
noncomputable def nj:Str:=ofString ")\\Z"
noncomputable def G1(P:Nat->Pos)(t1:Expr)(l1:Expr)(g1:Expr):NW:=.While (.BoolOp .And [t1,.Compare l1 [.IsNot] [.Name eM (P 0)] (P 1)] (P 2)) [.Expr (.Call (.Name fD (P 3)) [g1] [] (P 4)) (P 5),.AugAssign (.Name jd (P 6)) .Add (.Constant (.int 1) 0 (P 7)) (P 8)] [] (P 9)
inductive isJWhile(sc:Scope)(b:NW):Prop where
 | mk (h1:b=G1 BS ro vz vA) (h2:chk [] nh sc bx ro=true) (h3:chk [] jU sc bx vz=true) (h4:chk [] jU sc bx vA=true):isJWhile sc b
noncomputable def G2(P:Nat->Pos)(t2:Expr)(msg:Option Expr)(v1:Expr):List NW:=[.Assert t2 msg (P 0),.Assign [.Name et (P 1)] v1 (P 2),.Return (some (.JoinedStr [.Constant (.str je) 0 (P 3),.FormattedValue (.Name et (P 4)) (-1) none (P 5),.Constant (.str nj) 0 (P 6)] (P 7))) (P 8)]
inductive isJEnd(sc:Scope)(b:List NW):Prop where
 | mk (h1:b=G2 oH rq Ca oO) (h2:chk [] yO sc bx rq=true) (h3:chk [] tV sc bx oO=true) (h4:pQ oO=true):isJEnd sc b
noncomputable def yP(P:Nat->Pos)(ts:List Expr)(k1:Nat)(vs:List Expr)(k2:Nat)(w1:NW)(t2:Expr)(u1:List NW)(rest:List NW):List NW:=.Assign [.Name et (P 0)] (.List [] (P 1)) (P 2)::.Assign [.Name fD (P 3)] (.Attribute (.Name et (P 4)) tO (P 5)) (P 6)::.Assign [.Tuple ts k1 (P 7)] (.Tuple vs k2 (P 8)) (P 9)::w1::.While t2 u1 [] (P 10)::rest
inductive isJoin(sc:Scope)(b:List NW):Prop where
 | mk (h1:b=yP BR vw B7 rm B8 vx rn B9 vy) (h2:dT sc bx [4,5] vw=true) (h3:ca [] tU sc bx rm=true) (h4:jH rm=true) (h5:isJWhile sc vx) (h6:chk [] nh sc bx rn=true) (h7:isJEnd sc vy):isJoin sc b
noncomputable def eu(st a m:NQ)(xs:List Str)(i:Nat):List SV:=[.dat (.list (xs.map .str)),.val (.ref st),.val (.ref a),.val (.ref m),.dat (.int i),.dat (.int xs.length)]
noncomputable def nq(xs:List Str):Str:=je++PK OZ xs++nj
theorem G3(h:Q (.bool true) s):NN (NP prog w) A (compareOp .IsNot (.str x t) (.ref b)) Q E s:=by
 show NN _ A (do return .bool (!(<- isSame (.str x t) (.ref b)))) Q E s
 rw[show isSame (.str x t) (.ref b)=pure false from rfl]
 exact NM (NU (NU h))
section
variable{G:Glo}
structure JnInfo(G:Glo)(a:NQ)(fd:Of)(body:List NW):Prop where
 FI:FnInfo G a fd body [tT,eM] gQ
 bind:∀vs:List NO,vs.length=2->O8 fd ⟨vs,[]⟩=pure ([tT,eM].zip vs)
 bd:isJoin fd.scope body
theorem bl:∀F∈([]:List FEntry),aM G F:=fun F h=>nomatch h
theorem tW:∀ys:List Str,(∀x∈ys,x.length<=10)->(ys.map (·.length)).sum<=10 * ys.length
 | [],_=>cj _
 | y::r,h=>by
  have h1:=h y ag
  have h2:=tW r fun x hx=>h x (ay _ hx)
  simp only[aQ,BA,dQ];lia
theorem yQ(hx:∀x∈xs,x.length<=10)(hlen:xs.length<=100):(PK OZ xs).length<=2000:=by
 have h1:=tW xs hx
 show(Builtin.Str.glued OZ xs).length<=2000
 rw[StrLaws.glued_eq_join]
 refine ae (StrLaws.join_length_le OZ xs) ?_
 have h0:Str.empty.length=0:=rfl
 rw[h0];lia
theorem G4(h:y.length<=2000):(je++y++nj).length<=O5/\(je++y).length<=O5/\je.length<=O5:=by
 have h1:je.length=4:=by decide +kernel
 have h2:nj.length=3:=by decide +kernel
 rw[strLen_append,strLen_append,OK,h1,h2]
 exact⟨by lia,by lia,by lia⟩
theorem p0(y:Str):OZ++y=y:=by show(⟨#[]++y.cps⟩:Str)=y;rw[Array.empty_append]
theorem jV{i:Nat}{x:Str}(h:gQ[i]? = some x):bx[i]? = some (some x):=by unfold bx;rw[cu,h];rfl
theorem yR(hlt:i<xs.length):den [] jU (eu star a m xs i)=.str xs[i]:=by
 show(xs.map OE).getD (bW (i:Int) (xs.map OE).length) .none=_
 have h0:bW (i:Int) (xs.map OE).length=i:=by unfold bW;rw[if_neg (by lia)];simp
 rw[h0,av,cu,bw hlt];rfl
theorem yS(hl:xs.length<=100)(hlt:i<xs.length):pre [] jU false (eu star a m xs i):=by
 refine⟨trivial,trivial,?_⟩
 show fs (i:Int) (xs.map OE).length
 rw[af]
 exact⟨by lia,by lia,by lia,by lia⟩
theorem G6{s₁ s:NL}{O2:NQ->Prop}{E:NO->NL->Prop}{star a m:NQ}{xs:List Str}{l1:Expr}{p1 p2:Pos}{i:Nat}(wf:G.Wf)(hsto:∀i,br Re bx i)(st:∀x∈gQ,aW sc x=true)(Rd:aK 2 A)(hlen:xs.length<=100)(hlt:i<xs.length)(d2:chk [] jU sc bx l1=true)
 (I4:TI G Re sc bx A 2 3 a m s₁ O2 (eu star a m xs i) (xs.take i) s) {Q:Bool->NL->Prop} (h:∀s',TI G Re sc bx A 2 3 a m s₁ O2 (eu star a m xs i) (xs.take i) s'->Q true s') :
 NN (NP G.prog G.w) A (isTrue (.Compare l1 [.IsNot] [.Name eM p1] p2) Re (N6 (.Compare l1 [.IsNot] [.Name eM p1] p2) Re)) Q E s:=by
 refine OA (NS ((snd wf bl jU).ev sc bx l1 false Re _ O2 _ _ s _ d2 I4.C (Rd.le (by decide)) (yS hlen hlt)) (fun u s5 h5=>?_) fun U U x=>x) rfl
 have I5:=I4.keeps wf h5.1
 have ru:=h5.2.ff
 rw[yR hlt]at ru
 cases ru with
 | str _ t=>exact fZ I5.C (jV (i:=1) rfl) (by decide +kernel) rfl (G3 (Oi (h _ (I5.keeps wf (ar _ _)))))
theorem G7{s₁ s:NL}{O2:NQ->Prop}{E:NO->NL->Prop}{Q:Flow->NL->Prop}{star a m:NQ}{xs:List Str}{g1:Expr}{p3 p4 p5 p6 p7 p8:Pos}{i:Nat}(wf:G.Wf)(hsto:∀i,br Re bx i)(st:∀x∈gQ,aW sc x=true)(Rd:aK 2 A)(hlen:xs.length<=100)(hlt:i<xs.length)(d3:chk [] jU sc bx g1=true)
 (I5:TI G Re sc bx A 2 3 a m s₁ O2 (eu star a m xs i) (xs.take i) s) (h:∀s',TI G Re sc bx A 2 3 a m s₁ O2 (eu star a m xs (i+1)) (xs.take (i+1)) s'->Q .next s') :
 NN (NP G.prog G.w) A (OG [.Expr (.Call (.Name fD p3) [g1] [] p4) p5,.AugAssign (.Name jd p6) .Add (.Constant (.int 1) 0 p7) p8] Re) Q E s:=by
 have hxl:(xs.take i).length<=1000:=by rw[Ma];lia
 refine NT (I5.add (Φ:=[]) (y:=xs[i]) wf bl (jV (i:=3) rfl) (by decide +kernel) d3 (Rd.le (by decide)) (yS hlen hlt) (yR hlt) hxl fun s6 I6=>?_)
 obtain⟨val,F6,V6⟩:=I6.C.vars
 have h4i:=V6 4 jd (jV (i:=4) rfl)
 obtain⟨ui,hui,rui⟩:∃u,val jd=some u/\Rep O2 s6.heap u (.int i):=h4i
 cases rui with
 | int _ ti =>
 refine NT (wpAny_AugAssign_Name (eU I6.C.eo F6 hui (I6.C.co.kd 4 jd (jV (i:=4) rfl)) (Pl (iadd_int ?_))))
 have k7:NX s6 { s6 with toks:=s6.toks+1+1 }:=ar _ _
 have I7:=I6.keeps wf k7
 refine dW wf (hsto 4) I7.C (jV (i:=4) rfl) (st _ (bH (by kernel_rfl))) (y:=.dat (.int ((i:Int)+1))) ⟨_,rfl,.int _ _⟩ fun s8 k8 C8=>N1 (h s8 ?_)
 have I8:=I7.frame k8 C8 rfl rfl
 have:xs.take (i+1)=xs.take i++[xs[i]]:=by rw[List.take_succ,bw hlt];rfl
 rw[this]
 exact I8
theorem G8{s₁ s:NL}{O2:NQ->Prop}{E:NO->NL->Prop}{Q:Flow->NL->Prop}{star a m:NQ}(wf:G.Wf)(hsto:∀i,br Re bx i)(st:∀x∈gQ,aW sc x=true)(Rd:aK 2 A)(hlen:xs.length<=100)(hw:isJWhile sc w1)
 (I3:TI G Re sc bx A 2 3 a m s₁ O2 (eu star a m xs 0) [] s) (h:∀s',TI G Re sc bx A 2 3 a m s₁ O2 (eu star a m xs xs.length) xs s'->Q .next s'):NN (NP G.prog G.w) A (Oy w1 Re) Q E s:=by
 obtain⟨rfl,d1,d2,d3⟩:=hw
 refine wpAny_While (PC (fun mm sk=>∃i,i<=xs.length/\mm=xs.length - i/\TI G Re sc bx A 2 3 a m s₁ O2 (eu star a m xs i) (xs.take i) sk) ?_ xs.length ⟨0,cj _,rfl,I3⟩)
 rintro mm sk ⟨i,hi,rfl,Ik⟩
 refine wpAny_isTrue_BoolOp (wpAny_allTrue_And_cons ?_)
 refine NS ((snd wf bl nh).tst sc bx ro Re _ O2 _ _ sk _ d1 Ik.C (Rd.le (by decide)) ⟨trivial,trivial,trivial⟩ rfl) (fun tt s4 h4=>?_) fun U U x=>x
 refine aj h4 fun e0 k4=>?_;subst e0
 have I4:=Ik.keeps wf k4
 rw[show aq (den [] nh (eu star a m xs i))=decide ((i:Int)<(xs.length:Int))from rfl]
 by_cases hlt:i<xs.length
 ·rw[if_pos (decide_eq_true (Int.ofNat_lt.mpr hlt))]
  refine wpAny_allTrue_And_cons (G6 wf hsto st Rd hlen hlt d2 I4 fun s5 I5=>?_)
  rw[if_pos rfl]
  refine wpAny_allTrue_And_nil ?_
  rw[if_pos rfl]
  exact G7 wf hsto st Rd hlen hlt d3 I5 fun s' J=>⟨xs.length - (i+1),by omega,i+1,hlt,rfl,J⟩
 ·have hie:i=xs.length:=Nx hi (fG.mp hlt)
  subst hie
  rw[if_neg (by simp),if_neg MY]
  rw[Bw]at I4
  exact N1 (h _ I4)
theorem G9{s₁ s:NL}{O2:NQ->Prop}{E:NO->NL->Prop}{Q:Flow->NL->Prop}{star a m:NQ}(wf:G.Wf)(hsto:∀i,br Re bx i)(st:∀x∈gQ,aW sc x=true)(Rd:aK 2 A)(hlen:xs.length<=100)(hx:∀x∈xs,x.length<=10)(he:isJEnd sc rest)
 (I4:TI G Re sc bx A 2 3 a m s₁ O2 (eu star a m xs xs.length) xs s) (h:∀t s',KM (fun b=>aS Re b\/b=a) s₁ s'->Q (.ret (.str (nq xs) t)) s'):NN (NP G.prog G.w) A (OG rest Re) Q E s:=by
 obtain⟨rfl,e1,e2,e3⟩:=he
 have hf:=G4 (yQ hx hlen)
 refine NT (wpAny_Assert_holds (NS ((snd wf bl yO).tst sc bx rq Re _ O2 _ _ s _ e1 I4.C (Rd.le (by decide)) ⟨trivial,trivial,pZ _,pZ _⟩ rfl) (fun tt s6 h6=>?_) fun U U x=>x))
 refine aj h6 fun e0 k6=>?_;subst e0
 have I6:=I4.keeps wf k6
 refine⟨?_,?_⟩
 ·show Oa (.int (xs.length:Int)) (.int (xs.length:Int))=true
  simp[Oa]
 have C6:=I6.free wf
 have hmap:(xs.map OE).map dm=xs:=by rw[fk];exact List.map_id xs
 have hjp:mt OZ (xs.map .str):=by
  refine⟨fun d hd=>?_,?_⟩
  ·refine x12 (aJ.mp hd) fun x U e2=>?_;subst e2;rfl
  ·rw[hmap]
   have:=tW xs hx
   show _+xs.length * 0<=_
   lia
 refine NT (Oc (NS ((snd wf bl tV).ev sc bx oO false Re _ _ _ _ s6 _ e2 C6 (Rd.le (by decide)) ⟨trivial,trivial,rfl,_,rfl,hjp⟩) (fun u s7 h7=>?_) fun U U x=>x) (tS (line:=(oH 2).line) e3) rfl)
 have C7:=C6.keeps wf h7.1
 have hj:den [] tV ((eu star a m xs xs.length).set 2 (.dat (.list (xs.map .str))))=.str (PK OZ xs):=by
  show OE (PK OZ ((xs.map OE).map dm))=_
  rw[hmap]
 have r7:=h7.2.ff
 rw[hj]at r7
 show NN _ _ (Ox (.Name et (oH 1)) Re u) _ _ s7
 refine ij wf (hsto 2) C7 (jV (i:=2) rfl) (st _ (bH (by kernel_rfl))) r7 fun s8 k8 C8=>?_
 refine NT (OV (wpAny_JoinedStr ?_))
 have hg2:((((eu star a m xs xs.length).set 2 (.dat (.list (xs.map .str)))).set 2 (.dat (.str (PK OZ xs)))).getD 2 .un)=.dat (.str (PK OZ xs)):=rfl
 have km8:KM (fun b=>aS Re b\/b=a) s₁ s8:=(I6.km.trans (KM.of h7.1)).trans (k8.mono fun b q=>.inl q.store)
 refine PO ⟨_,_,rfl,by rw[p0];exact hf.2.2,?_⟩
 have C9:=C8.keeps wf (ar s8 (s8.toks+1))
 refine wpAny_FormattedValue_plain (dL C9 (jV (i:=2) rfl) (by decide +kernel) hg2 fun w rw'=>?_)
 cases rw' with
 | str _ tw =>
 have fin:∀(s':NL) (tk:Tok),NX s8 s'->∃y t,(Value.str (PK OZ xs) tk)=.str y t/\(OZ++je++y).length<=O5/\Joins (NP G.prog G.w) A E [N6 (.Constant (.str nj) 0 (oH 6)) Re] (OZ++je++y) (fun out s₁=>out.length<=O5/\Q (Flow.ret (.str out s₁.toks)) { s₁ with toks:=s₁.toks+1 }) s':=fun s' tk kk=>by
  refine⟨_,_,rfl,by rw[p0];exact hf.2.1,?_⟩
  refine PO ⟨_,_,rfl,by rw[p0];exact hf.1,?_⟩
  rw[p0]
  exact⟨hf.1,h _ _ (km8.trans (KM.of (aO kk (ar s' (s'.toks+1+1)))))⟩
 exact wpAny_formatField_str (fin _ _ (ar s8 (s8.toks+1))) (fin _ _ (ar s8 (s8.toks+1+1))) (ae (yQ hx hlen) (by rw[OK];decide))
theorem Ha{E:NO->NL->Prop}{star:NQ}(wf:G.Wf)(I:JnInfo G fJ fd body)(R:aK 3 A)(ok:Okay A O s)(B:G.Base O s.heap)(rv:Rep O s.heap v (.list (xs.map .str)))(hlen:xs.length<=100)(hx:∀x∈xs,x.length<=10) :
 NN (NP G.prog G.w) A (call (.ref fJ) [v,.ref star]) (PV O s (.str (nq xs))) E s:=by
 have hF:∀F∈([]:List FEntry),aM G F:=fun F h=>nomatch h
 refine O1 (kM (s:=s) (O:=O) (vs:=[v,.ref star]) (ys:=[.dat (.list (xs.map .str)),.val (.ref star)]) wf I.FI ok B (fun i u y hv hy=>?_) rfl rfl (R.fits (cj _)) (I.bind _ rfl) fun Re O' s₁ k1 hO1 hO2 hSt hsto C E' Qf hret hnx=>?_)
 ·exact mK (P:=eX G _ _) (.inl ⟨_,rfl,rv⟩) (.inr rfl) i u y hv hy
 have Rd:aK 2 (A.deeper Re):=(R.deeper (bM _))
 have bd:=I.bd
 obtain⟨hb,b1,b2,b3,hw,b5,he⟩:=bd
 rw[hb]
 unfold yP
 have st:∀x∈gQ,aW fd.scope x=true:=fun x hx=>I.FI.sc.st hx
 have hctx:∀(i:Nat) (x:Str),gQ[i]? = some x->bx[i]? = some (some x):=fun i x h=>by unfold bx;rw[cu,h];rfl
 refine TI.start (ir:=2) (ia:=3) wf hsto C (hctx 2 _ rfl) (hctx 3 _ rfl) (st _ (bH (by kernel_rfl))) (st _ (bH (by kernel_rfl))) (by decide) (by show 2<6;decide) (by show 3<6;decide) fun a m O2 s2 I2 hO3 hO4=>?_
 have hρ:((cw gQ [SV.dat (.list (xs.map .str)),.val (.ref star)]).set 2 (.val (.ref a))).set 3 (.val (.ref m))=[.dat (.list (xs.map .str)),.val (.ref star),.val (.ref a),.val (.ref m),.un,.un]:=rfl
 rw[hρ]at I2
 refine NT (yG (Φ:=[]) (es:=tU) wf hF b1 b2 b3 (by decide) rfl (by show 2<=16777216;decide) hsto I2.C (Rd.le (by decide)) ⟨trivial,⟨trivial,by show(xs.map OE).length<=_;rw[af];lia⟩,trivial⟩ fun s3 k3 C3=>?_)
 have hρ3:em [.dat (.list (xs.map .str)),.val (.ref star),.val (.ref a),.val (.ref m),.un,.un] ([4,5].zip ((bL [] tU [.dat (.list (xs.map .str)),.val (.ref star),.val (.ref a),.val (.ref m),.un,.un]).map SV.dat))=eu star a m xs 0:=by
  show[SV.dat (.list (xs.map .str)),.val (.ref star),.val (.ref a),.val (.ref m),.dat (.int 0),.dat (.int ((xs.map OE).length:Nat))]=_
  rw[af];rfl
 rw[hρ3]at C3
 have I3:=I2.frame k3 C3 rfl rfl
 refine NT (G8 wf hsto st Rd hlen hw I3 fun s4 I4=>?_)
 -- the second loop ends at once
 refine NT (wpAny_While (PC (fun U sk=>TI G Re fd.scope bx (A.deeper Re) 2 3 a m s₁ O2 (eu star a m xs xs.length) xs sk) (fun mm sk Ik=>?_) 0 I4))
 refine NS ((snd wf hF nh).tst fd.scope bx rn Re _ O2 _ _ sk _ b5 Ik.C (Rd.le (by decide)) ⟨trivial,trivial,trivial⟩ rfl) (fun tt s5 h5=>?_) fun U U x=>x
 refine aj h5 fun e0 k5=>?_;subst e0
 have I5:=Ik.keeps wf k5
 rw[if_neg (by show ¬(decide ((xs.length:Int)<(xs.length:Int))=true);simp)]
 refine N1 ?_
 refine G9 wf hsto st Rd hlen hx he I5 fun tk s' km=>hret _ _ ⟨?_,.str _ _⟩
 have hna:=I5.na
 obtain⟨h9,t9,rfl,p1,p2⟩:=km
 have hsa:∀b o,s.heap.get? b=some o->¬(aS Re b\/b=a):=fun b o e z=>by
  rcases z with z | z
  ·rw[hSt b z]at e;cases e
  ·have:=im k1 hna
   rw[z,this]at e;cases e
 refine x22 k1 fun h1 t1' e2 q1=>?_;subst e2
 exact⟨h9,t9,rfl,fun b o e=>p1 b o (hsa b o e) (q1 b o e)⟩
end
namespace B
theorem yT:mroOf (.type "object")=pure [.type "object"]:=by rw[mroOf_type];kernel_rfl
theorem Hb:Pt (.type "object") "__new__" = pure (some (.builtin "object.__new__")):=by rw[OP,Os];kernel_rfl
theorem Hc:Slot "object" "__init__" "object.__init__" :=
 .of (owner:= "object") (n:= "__init__") (by rw[OP,Os];kernel_rfl) (by decide +kernel) (by decide +kernel) (by decide +kernel)
  (by first | exact .inl (by decide +kernel) | exact .inr (by decide +kernel)) (by rw[OJ];kernel_rfl)
theorem called_object:TypeCalled "object" "object.__new__" "object.__init__" :=
 ⟨by decide +kernel,by decide +kernel,⟨_,_,yT⟩,madeBy_type yT Hb (by decide +kernel),by decide +kernel,by rw[OJ];kernel_rfl,Hc⟩
theorem typeCall_object_0:checkTypeCall "object" ⟨[],[]⟩=pure ():=by kernel_rfl
theorem newCall_object_0:checkBuiltinCall "object.__new__" ⟨[.type "object"],[]⟩=pure ():=by kernel_rfl
theorem args_object_init_1(a:NO):argsOk "object.__init__" ⟨[a],[]⟩:=by unfold argsOk;kernel_rfl
theorem entry_object_new:entryFor table "object.__new__" = some OX.«object.__new__»:=entryFor_of_tree (by kernel_rfl)
theorem hasDict_object:typeHasDict (.type "object")=false:=by decide +kernel
end B
theorem Hd:Meets (OX.«object.__new__» ⟨[.type "object"],[]⟩) (fun U R s=>R (.ok (.ret (.ref s.heap.objs.size))) { s with heap:=s.heap.push { cls:=.type "object",data:=.plain } }) :=
 .of_wp fun prog w A R s h=>by
  obtain⟨hp,g,d,tk,os⟩:=s
  have f1:=B.called_object.made
  have f2:=B.hasDict_object
  unfold OX.«object.__new__»
  repeat (any_goals (first | assumption | wp_step))
  exact⟨_,rfl,h⟩
section
variable{prog:Ol}{w:Og}{A:N0}{E:NO->NL->Prop}{s:NL}
theorem He(h:Q (.ref s.heap.objs.size) { s with heap:=s.heap.push { cls:=.type "object",data:=.plain } }):NN (NP prog w) A (call (.type "object") []) Q E s:=by
 refine callType_meets (Q₁:=fun obj s₁=>obj=.ref s.heap.objs.size/\s₁={ s with heap:=s.heap.push { cls:=.type "object",data:=.plain } }) B.called_object B.typeCall_object_0 B.newCall_object_0 B.entry_object_new F.entry_object_init Hd ⟨rfl,rfl⟩ fun obj s₁ h₁=>?_
 refine aj h₁ fun e0 e1=>?_;subst e0;subst e1
 refine⟨⟨_,NZ _ rfl,rfl⟩,B.args_object_init_1 _,(fun U R s=>R (.ok (.ret .none)) s),fun prog w A R s hs=>NU hs,rfl,h⟩
end
noncomputable def yU:Str:=ofString "translate"
noncomputable def qa:Str:=ofString "parts"
noncomputable def yV:Str:=ofString "object"
noncomputable def tX:Str:=ofString "_translate"
noncomputable def tY:Str:=ofString "_join_translated_parts"
noncomputable def nr:List Str:=[jS,eM,qa]
noncomputable def qb:List (Option Str):=nr.map some
noncomputable def lg:Str:=⟨#[46]⟩
noncomputable def yW(P:Nat->Pos):List NW:=[.Assign [.Name eM (P 0)] (.Call (.Name yV (P 1)) [] [] (P 2)) (P 3),.Assign [.Name qa (P 4)] (.Call (.Name tX (P 5)) [.Name jS (P 6),.Name eM (P 7),.Constant (.str lg) 0 (P 8)] [] (P 9)) (P 10),.Return (some (.Call (.Name tY (P 11)) [.Name qa (P 12),.Name eM (P 13)] [] (P 14))) (P 15)]
inductive isTr(sc:Scope)(b:List NW):Prop where
 | mk (h1:b=yW qY) (h2:bO sc yV=true) (h3:bO sc tX=true) (h4:bO sc tY=true):isTr sc b
noncomputable def bD:FEntry:=⟨yU,5,fun ds=>∃cs:List Nat,ds=[.str ⟨cs.toArray⟩]/\(∀c∈cs,c∈gP)/\cs.length<=100,fun ds=>.str (nq ((dm (ds.getD 0 .none)).cps.toList.map (fE lg)))⟩
section
variable{G:Glo}
structure TInfoF(G:Glo)(fN fT fJ:NQ)(fdN fdT fdJ:Of)(bN bT bJ:List NW):Prop where
 nm:G.mg yU=some (.ref fN)
 FI:FnInfo G fN fdN bN [jS] nr
 bind:∀vs:List NO,vs.length=1->O8 fdN ⟨vs,[]⟩=pure ([jS].zip vs)
 bd:isTr fdN.scope bN
 gT:G.mg tX=some (.ref fT)
 gJ:G.mg tY=some (.ref fJ)
 T:TrInfo G fT fdT bT
 J:JnInfo G fJ fdJ bJ
theorem Hf{fT:NQ}{fdT:Of}{bT:List NW}(wf:G.Wf)(hE:aM G bR)(I:TInfoF G fN fT fJ fdN fdT fdJ bN bT bJ):aM G bD:=by
 refine x12 I.FI.at_ fun o e2 hd=>?_
 refine⟨fN,o,fdN,I.nm,e2,hd,fun A s O vs ds E R ok B r hp=>?_⟩
 refine x13 hp fun cs e1 hcs hlen=>?_;subst e1
 have hvl:vs.length=1:=by rw[r.length];rfl
 refine O1 (kM (s:=s) (O:=O) (ys:=[.dat (.str ⟨cs.toArray⟩)]) wf I.FI ok B (pE r) hvl rfl (R.fits (cj _)) (I.bind vs hvl) fun Re O' s₁ k1 hO1 hO2 hSt hsto C E' Qf hret hnx=>?_)
 have Rd:aK 3 (A.deeper Re):=R.deeper (by decide)
 have bd:=I.bd
 obtain⟨hb,b1,b2,b3⟩:=bd
 rw[hb]
 unfold yW
 have st:∀x∈nr,aW fdN.scope x=true:=fun x hx=>I.FI.sc.st hx
 have hctx:∀(i:Nat) (x:Str),nr[i]? = some x->qb[i]? = some (some x):=fun i x h=>by unfold qb;rw[cu,h];rfl
 -- STAR=object()
 refine NT (Oc (eh (fun a ha=>nomatch ha) (ie wf C.eo C.base b1 (v:=.type "object") (az (i:=11) (by kernel_rfl)) (Qj (gB _) (ii (as:=[]) (Re:=Re) (N4 (He ?_)))))) rfl rfl)
 have k2:NX s₁ { s₁ with heap:=s₁.heap.push { cls:=.type "object",data:=.plain } }:=bz _
 have C2:=C.keeps wf k2
 show NN _ _ (Ox (.Name eM (qY 0)) Re (.ref s₁.heap.objs.size)) _ _ _
 refine Ot (dW (y:=.val (.ref s₁.heap.objs.size)) wf (hsto 1) C2 (hctx 1 _ rfl) (st _ (bH (by kernel_rfl))) rfl fun s3 k3 C3=>?_)
 generalize s₁.heap.objs.size=star at C3
 have C3:Cond G Re fdN.scope qb (A.deeper Re) O' (fun U=>none) [.dat (.str ⟨cs.toArray⟩),.val (.ref star),.un] s3:=C3
 -- parts=_translate(pat,STAR,'.')
 have dbg:∀x∈nr,(x==ofString "__debug__")=false:=by decide +kernel
 refine x12 I.T.FI.at_ fun oT eT hdT=>?_
 refine x12 I.J.FI.at_ fun oJ eJ hdJ=>?_
 refine NT (Oc (eh (fun a ha=>by simp only[aa,iJ,or_false]at ha;rcases ha with rfl | rfl | rfl<;>rfl) (ic wf C3.eo C3.base b2 (by decide +kernel) I.gT ?_)) rfl rfl)
 refine PM (o:=oT) (fd:=fdT) (ii (N7 (dL C3 (hctx 0 _ rfl) (dbg _ (bH (by kernel_rfl))) rfl fun v rv=>N7 (fZ C3 (hctx 1 _ rfl) (dbg _ (bH (by kernel_rfl))) rfl (N7 (PO (N4 ?_)))))))
 cases rv with
 | str _ t =>
 have C4:=C3.keeps wf (ar s3 (s3.toks+1))
 refine⟨⟨C4.base.kp fT oT (wf.K fT oT eT),hdT⟩,?_⟩
 refine NS (G0 wf hE I.T Rd C4.ok C4.base hcs hlen) (fun v s5 h5=>?_) fun U U e=>e
 have C5:=C4.keeps wf h5.1
 show NN _ _ (Ox (.Name qa (qY 4)) Re v) _ _ s5
 refine ij wf (hsto 2) C5 (hctx 2 _ rfl) (st _ (bH (by kernel_rfl))) h5.2 fun s6 k6 C6=>?_
 have C6:Cond G Re fdN.scope qb (A.deeper Re) O' (fun U=>none) [.dat (.str ⟨cs.toArray⟩),.val (.ref star),.dat (.list (cs.map fun c=>.str (fE lg c)))] s6:=C6
 -- the rest
 refine NT (OV (eh (fun a ha=>by simp only[aa,iJ,or_false]at ha;rcases ha with rfl | rfl<;>rfl) (ic wf C6.eo C6.base b3 (by decide +kernel) I.gJ ?_)))
 refine PM (o:=oJ) (fd:=fdJ) (ii (N7 (dL C6 (hctx 2 _ rfl) (dbg _ (bH (by kernel_rfl))) rfl fun v rv=>N7 (fZ C6 (hctx 1 _ rfl) (dbg _ (bH (by kernel_rfl))) rfl (N4 ?_)))))
 refine⟨⟨C6.base.kp fJ oJ (wf.K fJ oJ eJ),hdJ⟩,?_⟩
 have rv':Rep O' s6.heap v (.list ((cs.map (fE lg)).map .str)):=by rw[fk];exact rv
 refine NS (Ha wf I.J Rd C6.ok C6.base rv' (by rw[af];exact hlen) (fun x hx=>?_)) (fun v s7 h7=>?_) fun U U e=>e
 ·refine x12 (aJ.mp hx) fun c U e2=>?_;subst e2
  unfold fE
  split
  ·decide
  ·show 2<=10;decide
 ·have km:KM (aS Re) s₁ s7:=(((((KM.of k2).trans (k3.mono fun b q=>q.store)).trans (KM.of (ar s3 (s3.toks+1)))).trans (KM.of h5.1)).trans (k6.mono fun b q=>q.store)).trans (KM.of h7.1)
  refine hret _ _ ⟨?_,?_⟩
  ·obtain⟨h9,t9,rfl,p1,p2⟩:=km
   refine x22 k1 fun h1 t1' e2 q1=>?_;subst e2
   exact⟨h9,t9,rfl,fun b o e=>p1 b o (fun z=>by rw[hSt b z]at e;cases e) (q1 b o e)⟩
  ·have hval:bD.val [.str ⟨cs.toArray⟩]=.str (nq (cs.map (fE lg))):=by
    show OE (nq (cs.toArray.toList.map (fE lg)))=_
    simp
   rw[hval]
   exact h7.2.weak hO1
end
end
section

inductive Topo(g:Gr):List Int->Prop where
 | nil:Topo g []
 | snoc {L:List Int} {k:Int} (t:Topo g L) (h:∀n∈aL g k,n∈L):Topo g (L++[k])
noncomputable def gR(g:Gr)(L:List Int):List (Int × Nat)->Int->Prop
 | [],_=>True
 | p::r,k=>∃i,p.2=i+1/\(aL g p.1)[i]? = some k/\(∀j,j<i->∀n,(aL g p.1)[j]? = some n->n∈L)/\gR g L r p.1
noncomputable def qc(g:Gr)(L:List Int):List (Int × Nat)->Prop
 | []=>True
 | p::r=>(∀j,j<p.2->∀n,(aL g p.1)[j]? = some n->n∈L)/\gR g L r p.1
section
variable{g:Gr}
theorem gR.mono(h:∀x∈L,x∈L'):∀ {st:List (Int × Nat)} {k:Int},gR g L st k->gR g L' st k:=fun{st}=>by
 induction st with
 | nil=>exact fun _=>trivial
 | cons p r ih=>exact fun z=>z.elim fun i z=>⟨i,z.1,z.2.1,fun j hj n hn=>h n (z.2.2.1 j hj n hn),ih z.2.2.2⟩
theorem gR.rdy{L:List Int}{st:List (Int × Nat)}{k:Int}(h:gR g L st k)(hk:k∈L):qc g L st:=by
 cases st with
 | nil=>trivial
 | cons p r =>
  refine x14 h fun i e h1 h2 h3=>?_
  refine⟨fun j hj n hn=>?_,h3⟩
  by_cases q:j=i
  ·rw[q,h1]at hn;exact OH hn▸hk
  ·exact h2 j (Nat.lt_of_le_of_ne (Nat.le_of_lt_succ (uA hj (gZ e))) q) n hn
theorem yX:∀(st:List (Int × Nat)) (L:List Int) (st':List (Int × Nat)) (k':Int),Topo g L->qc g L st->cJ g st=(st',some k') ->
 ∃L',Topo g L'/\gR g L' st' k'/\(∀x,x∈L\/x∈st.map (·.1)↔x∈L'\/x∈st'.map (·.1))/\∃p,k'∈aL g p
 | [],_,_,_,_,_,h=>nomatch h
 | (p,i)::r,L,st',k',t,hr,h=>by
  rw[i9]at h
  cases hc:(aL g p)[i]? with
  | some n =>
   rw[hc]at h
   cases h
   exact⟨L,t,⟨i,rfl,hc,hr.1,hr.2⟩,fun x=>Iff.rfl,p,az hc⟩
  | none =>
   rw[hc]at h
   have hall:∀n∈aL g p,n∈L:=fun n hn=>by
    refine x11 (Mt.mp hn) fun j hj=>?_
    have:j<i:=uA (dh.mp hj).1 (Nb.mp hc)
    exact hr.1 j this n hj
   have t2:=t.snoc hall
   refine x14 (yX r (L++[p]) st' k' t2 ((hr.2.mono fun x hx=>cQ _ hx).rdy (by simp)) h) fun L' a b c d=>?_
   refine⟨L',a,b,fun x=>?_,d⟩
   rw[<- c x]
   simp only[aQ,aa,aI,iJ,or_false]
   constructor
   ·rintro (h | h | h)
    ·exact .inl (.inl h)
    ·exact .inl (.inr h)
    ·exact .inr h
   ·rintro ((h | h) | h)
    ·exact .inl h
    ·exact .inr (.inl h)
    ·exact .inr (.inr h)
theorem yY:∀(st:List (Int × Nat)) (L:List Int),Topo g L->qc g L st->(cJ g st).2=none->∃L',Topo g L'/\∀x,x∈L\/x∈st.map (·.1)↔x∈L'
 | [],L,t,_,_=>⟨L,t,fun x=>by simp⟩
 | (p,i)::r,L,t,hr,h=>by
  rw[i9]at h
  cases hc:(aL g p)[i]? with
  | some n=>rw[hc]at h;cases h
  | none =>
   rw[hc]at h
   have hall:∀n∈aL g p,n∈L:=fun n hn=>by
    refine x11 (Mt.mp hn) fun j hj=>?_
    have:j<i:=uA (dh.mp hj).1 (Nb.mp hc)
    exact hr.1 j this n hj
   refine x12 (yY r (L++[p]) (t.snoc hall) ((hr.2.mono fun x hx=>cQ _ hx).rdy (by simp)) h) fun L' a c=>?_
   refine⟨L',a,fun x=>?_⟩
   rw[<- c x]
   simp only[aQ,aa,aI,iJ,or_false]
   constructor
   ·rintro (h | h | h)
    ·exact .inl (.inl h)
    ·exact .inl (.inr h)
    ·exact .inr h
   ·rintro ((h | h) | h)
    ·exact .inl h
    ·exact .inr (.inl h)
    ·exact .inr (.inr h)
noncomputable def yZ(g:Gr)(C:List Int):Prop:=C≠[]/\∀z∈C,∃y∈C,z∈aL g y
theorem Hg:∀(st:List (Int × Nat)) (k:Int),gR g L st k->x∈st.map (·.1)->∃C:List Int,x∈C/\(∃y∈C,k∈aL g y)/\∀z∈C,z=x\/∃y∈C,z∈aL g y:=fun st=>by
 induction st with
 | nil=>exact fun _ _ hx=>nomatch hx
 | cons p r ih =>
  intro k z hx
  refine z.elim fun i z=>?_
  have h1:=z.2.1
  have h3:=z.2.2.2
  have hk:=az h1
  by_cases q:x=p.1
  ·exact⟨[p.1],by simp[q],⟨p.1,by simp,hk⟩,fun z hz=>.inl (by simp at hz;rw[hz,q])⟩
  ·have hx':x∈r.map (·.1):=by simpa[q]using hx
   refine x13 (ih p.1 h3 hx') fun C c1 z2 c4=>?_;refine x12 z2 fun y c2 c3=>?_
   refine⟨p.1::C,by simp[c1],⟨p.1,by simp,hk⟩,fun z hz=>?_⟩
   rcases aa.mp hz with rfl | hz
   ·exact .inr ⟨y,by simp[c2],c3⟩
   ·exact(c4 z hz).imp id fun ζ=>ζ.elim fun y ζ=>ζ.elim fun a b=>⟨y,by simp[a],b⟩
theorem y0{st:List (Int × Nat)}{x:Int}:x∈dv st↔x∈st.map (·.1):=by simp[dv]
theorem y1:∀(n:Nat) (k:Int) (st:List (Int × Nat)) (sn L:List Int) (r:List Int ⊕ List Int),Topo g L->gR g L st k->(∀x,x∈sn↔x∈L\/x∈st.map (·.1))->eq g n k st sn=some r ->
 (∃c C,r=.inl c/\yZ g C)\/∃sn' L',r=.inr sn'/\Topo g L'/\(∀x,x∈sn'↔x∈L')/\k∈L'/\∀x∈sn,x∈L'
 | 0,_,_,_,_,_,_,_,_,h=>nomatch h
 | n+1,k,st,sn,L,r,t,hs,he,h=>by
  rw[mU]at h
  by_cases hq:k∈sn/\k∈dv st
  ·rw[if_pos hq]at h
   cases h
   refine x13 (Hg st k hs (y0.mp hq.2)) fun C c1 c2 c3=>?_
   exact .inl ⟨_,C,rfl,⟨fun e=>(by rw[e]at c1;cases c1),fun z hz=>(c3 z hz).elim (fun q=>q▸c2) id⟩⟩
  ·rw[if_neg hq]at h
   have hst:qc g L (if k∈sn then st else(k,0)::st)/\∀x,x∈(if k∈sn then sn else sn++[k])↔x∈L\/x∈(if k∈sn then st else(k,0)::st).map (·.1):=by
    by_cases hk:k∈sn
    ·rw[if_pos hk,if_pos hk]
     exact⟨hs.rdy (((he k).mp hk).resolve_right fun q=>hq ⟨hk,y0.mpr q⟩),he⟩
    ·rw[if_neg hk,if_neg hk]
     refine⟨⟨fun j hj=>absurd hj (Nat.not_lt_zero _),hs⟩,fun x=>?_⟩
     rw[aI,he x,aQ,aa,aa]
     simp only[iJ,or_false]
     constructor
     ·rintro ((h | h) | h)
      ·exact .inl h
      ·exact .inr (.inr h)
      ·exact .inr (.inl h)
     ·rintro (h | h | h)
      ·exact .inl (.inl h)
      ·exact .inr h
      ·exact .inl (.inr h)
   have hsub:∀x,x=k\/x∈sn->x∈(if k∈sn then sn else sn++[k]):=fun x hx=>by
    by_cases hk:k∈sn
    ·rw[if_pos hk];exact hx.elim (fun q=>q▸hk) id
    ·rw[if_neg hk];exact hx.elim (fun q=>by simp[q]) fun q=>cQ _ q
   generalize (if k∈sn then st else(k,0)::st)=st1 at h hst
   generalize (if k∈sn then sn else sn++[k])=sn1 at h hst hsub
   generalize ha:cJ g st1=a at h
   obtain⟨st',o⟩:=a
   cases o with
   | none =>
    cases h
    refine x12 (yY st1 L t hst.1 (by rw[ha])) fun L' t' e'=>?_
    have e2:∀x,x∈sn1↔x∈L':=fun x=>(hst.2 x).trans (e' x)
    exact .inr ⟨sn1,L',rfl,t',e2,(e2 k).mp (hsub k (.inl rfl)),fun x hx=>(e2 x).mp (hsub x (.inr hx))⟩
   | some k' =>
    refine x14 (yX st1 L st' k' t hst.1 ha) fun L' t' hs' e' U=>?_
    rcases y1 n k' st' sn1 L' r t' hs' (fun x=>(hst.2 x).trans (e' x)) h with q | ⟨sn',L'',r1,r2,r3,r4,r5⟩
    ·exact .inl q
    ·exact .inr ⟨sn',L'',r1,r2,r3,r5 k (hsub k (.inl rfl)),fun x hx=>r5 x (hsub x (.inr hx))⟩
theorem qd(N:Nat):∀(ks sn L:List Int) (r:Option (List Int)),Topo g L->(∀x,x∈sn↔x∈L)->fB g N ks sn=some r ->
 (r≠none/\∃C,yZ g C)\/r=none/\∃L',Topo g L'/\(∀x∈ks,x∈L')/\∀x∈sn,x∈L'
 | [],sn,L,r,t,he,h=>by cases h;exact .inr ⟨rfl,L,t,fun x hx=>(nomatch hx),fun x hx=>(he x).mp hx⟩
 | k::ks,sn,L,r,t,he,h=>by
  rw[mV]at h
  by_cases hk:k∈sn
  ·rw[if_pos hk]at h
   refine(qd N ks sn L r t he h).imp id fun ζ=>ζ.elim fun a ζ=>ζ.elim fun L' ζ=>ζ.elim fun b ζ=>ζ.elim fun c d=>⟨a,L',b,fun x hx=>?_,d⟩
   exact(aa.mp hx).elim (fun q=>q▸d k hk) (c x)
  ·rw[if_neg hk]at h
   cases hw:eq g N k [] sn with
   | none=>rw[hw]at h;cases h
   | some w =>
    rw[hw]at h
    rcases y1 N k [] sn L w t trivial (fun x=>by rw[he x];simp) hw with⟨c,C,rfl,hC⟩ | ⟨sn',L',rfl,r2,r3,r4,r5⟩
    ·cases h;exact .inl ⟨fun q=>(nomatch q),C,hC⟩
    ·refine(qd N ks sn' L' r r2 r3 h).imp id fun ζ=>ζ.elim fun a ζ=>ζ.elim fun L'' ζ=>ζ.elim fun b ζ=>ζ.elim fun c d=>⟨a,L'',b,fun x hx=>?_,fun x hx=>d x ((r3 x).mpr (r5 x hx))⟩
     exact(aa.mp hx).elim (fun q=>q▸d k ((r3 k).mpr r4)) (c x)
noncomputable def lh(g:Gr)(st:List (Int × Nat)):Nat:=(st.map fun p=>(aL g p.1).length - p.2).sum
noncomputable def dM(g:Gr)(ks sn:List Int):Nat:=((ks.filter fun k=>!sn.contains k).map fun k=>(aL g k).length+1).sum
theorem Hh{a i S:Nat}(h:i<a):a - (i+1)+S+1<=a - i+S :=
 ae (gZ (Nat.add_right_comm ..)) (gv (gZ (Nat.succ_pred_eq_of_pos (Nat.sub_pos_of_lt h))) S)
theorem y2:∀(st st':List (Int × Nat)) (k':Int),cJ g st=(st',some k')->lh g st'+1<=lh g st
 | [],_,_,h=>nomatch h
 | (p,i)::r,st',k',h=>by
  rw[i9]at h
  cases hc:(aL g p)[i]? with
  | some n =>
   rw[hc]at h
   cases h
   exact Hh (dh.mp hc).1
  | none =>
   rw[hc]at h
   exact ae (y2 r st' k' h) (Nat.le_add_left ..)
theorem y3(hs:k∉sn):∀(ks:List Int),dM g ks (sn++[k])<=dM g ks sn/\(k∈ks->dM g ks (sn++[k])+(aL g k).length+1<=dM g ks sn)
 | []=>⟨bM _,fun h=>(nomatch h)⟩
 | x::ks=>by
  refine aj (y3 hs ks) fun i1 i2=>?_
  have key:∀(l:List Int),dM g (x::ks) l=(if l.contains x then 0 else(aL g x).length+1)+dM g ks l:=fun l=>by
   unfold dM
   rw[oB]
   cases hq:l.contains x<;>simp
  rw[key,key]
  by_cases q:x=k
  ·subst q
   have h1:(sn++[x]).contains x=true:=by simp
   have h2:sn.contains x=false:=by simpa using hs
   rw[h1,h2]
   simp only[if_true,Nv,if_false]
   rw[oR]
   exact⟨ae i1 (Nat.le_add_left ..),fun U=>ae (gv i1 ((aL g x).length+1)) (gZ (Nat.add_comm ..))⟩
  ·have h1:(sn++[k]).contains x=sn.contains x:=by simp[q]
   rw[h1]
   exact⟨nZ i1 _,fun h=>ae (gZ (M8 _ _ ((aL g k).length+1))) (nZ (i2 ((aa.mp h).resolve_left fun z=>q z.symm)) _)⟩
theorem y4{ks:List Int}(hcl:∀p,∀n∈aL g p,n∈ks):∀(n:Nat) (k:Int) (st:List (Int × Nat)) (sn:List Int),k∈ks->dM g ks sn+lh g st<n->(eq g n k st sn).isSome=true
 | 0,_,_,_,_,h=>absurd h (Nat.not_lt_zero _)
 | n+1,k,st,sn,hk,h=>by
  rw[mU]
  by_cases hq:k∈sn/\k∈dv st
  ·rw[if_pos hq];rfl
  ·rw[if_neg hq]
   have hle:dM g ks (if k∈sn then sn else sn++[k])+lh g (if k∈sn then st else(k,0)::st)<=dM g ks sn+lh g st:=by
    by_cases hs:k∈sn
    ·rw[if_pos hs,if_pos hs];exact bM _
    ·rw[if_neg hs,if_neg hs]
     exact ae (gZ (M8 _ _ (lh g st)).symm) (gv (M9 ((y3 (g:=g) hs ks).2 hk)) _)
   generalize (if k∈sn then st else(k,0)::st)=st1 at hle ⊢
   generalize (if k∈sn then sn else sn++[k])=sn1 at hle ⊢
   generalize ha:cJ g st1=a
   obtain⟨st',o⟩:=a
   cases o with
   | none=>rfl
   | some k' =>
    have hk':k'∈ks:=by
     have:∀(st:List (Int × Nat)),cJ g st=(st',some k')->∃p,k'∈aL g p:=fun st=>by
      induction st with
      | nil=>intro h;cases h
      | cons p r ih =>
       intro h
       obtain⟨p,i⟩:=p
       rw[i9]at h
       cases hc:(aL g p)[i]? with
       | some m=>rw[hc]at h;cases h;exact⟨p,az hc⟩
       | none=>rw[hc]at h;exact ih h
     refine x11 (this st1 ha) fun p hp=>?_
     exact hcl p k' hp
    exact y4 hcl n k' st' sn1 hk' (ae (nZ (y2 st1 st' k' ha) _) (ae hle (Nat.le_of_lt_succ h)))
theorem tZ(hcl:∀p,∀n∈aL g p,n∈ks0)(hN:dM g ks0 []<N):∀(ks sn:List Int),(∀k∈ks,k∈ks0)->(fB g N ks sn).isSome=true
 | [],_,_=>rfl
 | k::ks,sn,hk=>by
  rw[mV]
  by_cases hs:k∈sn
  ·rw[if_pos hs];exact tZ hcl hN ks sn fun x hx=>hk x (ay _ hx)
  ·rw[if_neg hs]
   have hun:∀(l:List Int),dM g l sn<=dM g l []:=fun l=>by
    induction l with
    | nil=>exact bM _
    | cons x l ih =>
     unfold dM at ih ⊢
     rw[oB,oB]
     cases sn.contains x with
     | true=>exact ae ih (Nat.le_add_left ..)
     | false=>exact nZ ih _
   have:=y4 hcl N k [] sn (hk k ag) (lM (hun ks0) hN)
   cases hw:eq g N k [] sn with
   | none=>rw[hw]at this;cases this
   | some w =>
    cases w with
    | inl c=>rfl
    | inr sn'=>exact tZ hcl hN ks sn' fun x hx=>hk x (ay _ hx)
theorem y5:∀(n:Nat) (k:Int) (st:List (Int × Nat)) (sn c:List Int),eq g n k st sn=some (.inl c)->c.length<=st.length+n
 | 0,_,_,_,_,h=>nomatch h
 | n+1,k,st,sn,c,h=>by
  rw[mU]at h
  by_cases hq:k∈sn/\k∈dv st
  ·rw[if_pos hq]at h
   cases h
   simp only[iy,dv,cb,Nr,List.length_reverse,af,Mu]
   exact Nh (Nat.sub_le ..) (Np (cj n))
  ·rw[if_neg hq]at h
   have hl:(if k∈sn then st else(k,0)::st).length<=st.length+1:=by split<;>simp
   generalize (if k∈sn then st else(k,0)::st)=st1 at h hl
   generalize (if k∈sn then sn else sn++[k])=sn1 at h
   generalize ha:cJ g st1=a at h
   obtain⟨st',o⟩:=a
   have hl2:∀(st st':List (Int × Nat)) (o:Option Int),cJ g st=(st',o)->st'.length<=st.length:=fun st=>by
    induction st with
    | nil=>intro st' o h;cases h;exact bM _
    | cons p r ih =>
     intro st' o h
     obtain⟨p,i⟩:=p
     rw[i9]at h
     cases hc:(aL g p)[i]? with
     | some m=>rw[hc]at h;cases h;exact bM _
     | none=>rw[hc]at h;exact ae (ih st' o h) (oF _)
   have h2:=hl2 st1 st' o ha
   cases o with
   | none=>cases h
   | some k'=>exact ae (y5 n k' st' sn1 c h) (ae (gv (ae h2 hl) n) (gZ (Nat.succ_add ..)))
theorem t7:∀(ks sn c:List Int),fB g N ks sn=some (some c)->c.length<=N
 | [],_,_,h=>nomatch h
 | k::ks,sn,c,h=>by
  rw[mV]at h
  by_cases hs:k∈sn
  ·rw[if_pos hs]at h;exact t7 ks sn c h
  ·rw[if_neg hs]at h
   cases hw:eq g N k [] sn with
   | none=>rw[hw]at h;cases h
   | some w =>
    rw[hw]at h
    cases w with
    | inl d=>cases h;simpa using y5 N k [] sn _ hw
    | inr sn'=>exact t7 ks sn' c h
end
end
section
open PySem PySem.W PyProof.Rows PySem.Spec PySem.SeqAt PySem.Calls
section
variable{G:Glo}{Φ:List FEntry}{Re:Env}{sc:Scope}{Rc:List (Option Str)}{A:N0}{O:NQ->Prop}{ω:NQ->Option Nat}{ρ:List SV}{s s':NL}{E:NO->NL->Prop}
theorem y6(hs:∃o,G.hB.get? OR=some o)(B:G.Base O h)(hn:h.get? n=none):(n==OR)=false :=
 x11 hs fun o e=>beq_eq_false_iff_ne.mpr fun q=>by rw[q,B.kp _ o e]at hn;cases hn
noncomputable def t8(Φ:List FEntry)(i:Nat)(k v:IX):Prim where
 chk sc Rc st:=eF st fun t e U=>bv t fun x U=>vT e fun ks vs U=>v1 ks fun ko=>vO ko fun ke=>v1 vs fun ve=>Rc[i]? == some (some x)&&aW sc x&&chk Φ k sc Rc ke&&chk Φ v sc Rc ve
 k:=max (kx Φ k) (kx Φ v)
 pre ρ:=pre Φ k false ρ/\pre Φ v false ρ/\∃a b,den Φ k ρ=.int a/\den Φ v ρ=.int b
 den ρ:=(.next,ρ.set i (.dat (.dict [(den Φ k ρ,den Φ v ρ)])))
theorem Hi(i:Nat)(k v:IX)(wf:G.Wf)(hsys:∃o,G.hB.get? OR=some o)(hF:∀F∈Φ,aM G F):cZ G X (t8 Φ i k v):=by
 intro sc Rc st Re A O ω ρ s E Q hc hsto C hX R hp hQ
 dsimp only[t8]at hp hQ
 refine kn (P:=fun st=>NN (NP G.prog G.w) A (Oy st Re) Q E s) hc fun x p e pos hc=>?_
 refine Cm (P:=fun e=>NN (NP G.prog G.w) A (Oy (.Assign [.Name x p] e pos) Re) Q E s) hc fun ks vs dp hc=>?_
 refine cU (P:=fun ks=>NN (NP G.prog G.w) A (Oy (.Assign [.Name x p] (.Dict ks vs dp) pos) Re) Q E s) hc fun ko hc=>?_
 refine lV (P:=fun ko=>NN (NP G.prog G.w) A (Oy (.Assign [.Name x p] (.Dict [ko] vs dp) pos) Re) Q E s) hc fun ke hc=>?_
 refine cU (P:=fun vs=>NN (NP G.prog G.w) A (Oy (.Assign [.Name x p] (.Dict [some ke] vs dp) pos) Re) Q E s) hc fun ve hc=>?_
 refine fm hc fun hi hk c1 c2=>?_
 have hi:=NY hi
 obtain⟨p1,p2,a,b,ea,eb⟩:=hp
 have k0:NX s { s with heap:=s.heap.push { cls:=.type "dict",data:=.dict #[] } }:=bz _
 have hD:Heap.DictOf (On G.prog G.w) (s.heap.push { cls:=.type "dict",data:=.dict #[] }) s.heap.objs.size []:=Heap.DictOf.new s.heap
 have hO:¬O s.heap.objs.size:=fun q=>bj _ (C.ok.ob _ q)
 have hns:=y6 hsys C.base (OL (bM s.heap.objs.size))
 refine Oc ?_ rfl rfl
 refine wpAny_Dict_walk (knd:=On G.prog G.w) rfl rfl (fun q=>nomatch q) (oC rfl) (pairTrees_cons_walk ?_)
 generalize hs0:({ s with heap:=s.heap.push { cls:=.type "dict",data:=.dict #[] } }:NL)=s0 at k0 ⊢
 have hD0:Heap.DictOf (On G.prog G.w) s0.heap s.heap.objs.size []:=by rw[<- hs0];exact hD
 have C0:=C.keeps wf k0
 refine NS ((snd wf hF k).ev sc Rc ke false Re A O ω ρ s0 E c1 C0 (R.le (aT _ _)) p1) (fun u s₁ h₁=>?_) fun U U x=>x
 have C1:=C0.keeps wf h₁.1
 refine NS ((snd wf hF v).ev sc Rc ve false Re A O ω ρ s₁ E c2 C1 (R.le (aE _ _)) p2) (fun y s₂ h₂=>pairTrees_nil_walk ?_) fun U U x=>x
 have r1:=h₁.2.ff
 have r2:=h₂.2.ff
 rw[ea]at r1
 rw[eb]at r2
 refine x11 (hY r1) fun t1 e1=>?_;subst e1
 refine x11 (hY r2) fun t2 e2=>?_;subst e2
 have k2:NX s s₂:=aO k0 (aO h₁.1 h₂.1)
 refine⟨[(a,.int b t2)],⟨mj,rfl,trivial⟩,hD0.keep fun b o e=>ai h₂.1 b o (ai h₁.1 b o e),fun h' hd hs=>?_⟩
 have k3:NX s { s₂ with heap:=h',toks:=s₂.toks+1 }:=by
  refine x22 k2 fun h2 t2 e g=>?_
  subst e
  exact⟨h',_,rfl,fun b o q=>hs.extBut b o (fun z=>bj _ (by rw[z]at q;exact N3 q)) (g b o q)⟩
 show NN _ A (Ox (.Name x p) Re (.ref s.heap.objs.size)) _ _ _
 refine ij wf (hsto i) (C.keeps wf k3) hi hk ?_ fun s' k C'=>hQ O ω s' .next ((Step.keeps k3).trans C.ok.obs (Step.frame k)) C' rfl
 rw[ea,eb]
 exact .dict (l:=[(a,b)]) hO (eG.of hns hd fun q hq=>by rw[ah.mp hq];exact⟨t2,rfl⟩)
noncomputable abbrev gg:Str:=ofString "part"
noncomputable abbrev bK:Str:=ofString "odds"
noncomputable def gS:List (Str × Pj):=[(ofString ".0",.local),(gg,.local),(bK,.free)]
noncomputable def Hj(sc:Scope)(Rc:List (Option Str))(i j:Nat)(y:Str)(yp dp:Pos)(x1 x2 x3 d1 d2:Str)(a:Int)(scope:Scope):Bool :=
 decide (a=0/\scope.kind=.function/\scope.names=gS/\Rc[i]? = some (some y)/\sc.names.lookup y=some .local/\(gS.any fun(n,k)=>n==y&&(k==.local||k==.cell))=false/\Rc[j]? = some (some bK)/\x1=gg/\x2=gg/\x3=gg/\d1=bK/\d2=bK/\yp.line=dp.line/\sc.names.lookup bK=some .cell)
noncomputable def jf(y:Str)(yp:Pos)(ke ve:Expr)(gs:List Oz)(scope:Scope)(dp pos:Pos):NW:=.Assign [.Name y yp] (.DictComp ke ve gs scope dp) pos
noncomputable def qe:SV->SV
 | .dat (.dict l)=>.dic (l.map fun q=>(bi q.1,bi q.2))
 | _=>.un
noncomputable def nt(i j:Nat):Prim where
 chk sc Rc st:=eF st fun t e U=>bv t fun y yp=>vU e fun ke ve gs scope dp=>bv ke fun x1 U=>lX ve fun o sl U=>bv o fun d1 U=>bv sl fun x2 U=>v1 gs fun g=>bv g.target fun x3 U=>bv g.iter fun d2 U=>v0 g.ifs (Hj sc Rc i j y yp dp x1 x2 x3 d1 d2 g.is_async scope)
 k:=0
 pre ρ:=∃l,ρ.getD j .un=.dat (.dict l)/\l.length<=1000000
 den ρ:=(.next,ρ.set i (qe (ρ.getD j .un)))
theorem y7(l:List (Int × Int)):(dD l).map (fun q=>(bi q.1,bi q.2))=l:=by
 rw[fk];exact List.map_id l
theorem y8{kv:List (Int × NO)}{q:Int × NO}(n:(kv.map (·.1)).Nodup)(h:q∈kv):OM kv q.1=some q.2:=by
 unfold OM
 induction kv with
 | nil=>exact nomatch h
 | cons p r ih =>
  rw[aQ]at n
  refine aj (bq.mp n) fun n1 n2=>?_
  rw[L8]
  by_cases e:p.1=q.1
  ·rw[decide_eq_true e]
   rcases aa.mp h with h | h
   ·rw[h];rfl
   ·exact absurd (aJ.mpr ⟨q,h,rfl⟩) (e▸n1)
  ·rw[decide_eq_false e]
   rcases aa.mp h with h | h
   ·exact absurd (by rw[h]) e
   ·exact ih n2 h
theorem Hk{kv:List (Int × NO)}{k:Int}(h:k∉kv.map (·.1)):stored kv k v=kv++[(k,v)]:=by
 unfold stored
 rw[if_neg]
 intro q
 refine x12 (dP.mp q) fun p h1 h2=>h ?_
 exact aJ.mpr ⟨p,h1,of_decide_eq_true h2⟩
theorem Hl{kv:List (Int × NO)}(n:(kv.map (·.1)).Nodup){vs:List NO}{kvs:List (Int × NO)}(h:StoredAll (fun v k=>Value.isInt k v=true) (fun v z=>∃k t,v=.int k t/\OM kv k=some z) vs kvs)
 (hP:∀(j:Nat) (v:NO),vs[j]? = some v->∃q:Int × NO,kv[j]? = some q/\Value.isInt q.1 v=true):kvs=kv.take vs.length:=by
 induction h with
 | nil=>rfl
 | @snoc l kvs v k y h1 hk hv ih =>
  have e:=ih fun j u hj=>hP j u (by rw[Na (dh.mp hj).1];exact hj)
  obtain⟨q,hq,hi⟩:=hP l.length v (by rw[L9 (bM _),Nat.sub_self];rfl)
  refine x11 (Qw hi) fun t e1=>?_
  subst e1
  obtain⟨k2,t2,e2,h2⟩:=hv
  cases e2
  have ek:k=q.1:=Value.isInt_inj _ _ _ hk hi
  subst ek
  have hm:=az hq
  rw[y8 n hm]at h2
  cases h2
  rw[e,Hk,cb,Mu,NB,hq]
  ·rfl
  ·intro z
   refine x12 (aJ.mp z) fun p hp e=>?_
   refine x11 (Mt.mp hp) fun a ha=>?_
   have hlt:a<l.length:=by
    rcases Nat.lt_or_ge a l.length with h | h
    ·exact h
    ·rw[List.getElem?_take_eq_none h]at ha;cases ha
   rw[List.getElem?_take_of_lt hlt]at ha
   have i1:(kv.map (·.1))[a]? = some q.1:=by rw[cu,ha];exact congrArg some e
   have i2:(kv.map (·.1))[l.length]? = some q.1:=by rw[cu,hq];rfl
   obtain⟨l1,e3⟩:=dh.mp i1
   obtain⟨l2,e4⟩:=dh.mp i2
   exact absurd ((List.getElem_inj n).mp (e3.trans e4.symm)) (nz hlt)
theorem Hm:(∀y∈gS,y.2≠.cell)/\(∀x∈gS,x.2=.local->gS.lookup x.1=some .local)/\gS.lookup gg=some .local/\(∀p∈gS,p.2=.free->p.1=bK)/\(gg==ofString "__debug__")=false/\(bK==ofString "__debug__")=false:=by decide +kernel
theorem y9{h:N9}{o:Obj}{b:NQ}(e:(h.push o).get? b=none):h.get? b=none:=by
 cases q:h.get? b with
 | none=>rfl
 | some o=>rw[NV _ q]at e;cases e
noncomputable def qf(p1 p2 p3 p4 p5 p6:Pos)(scope:Scope)(dp:Pos):Expr:=.DictComp (.Name gg p1) (.Subscript (.Name bK p3) (.Name gg p4) p2) [⟨.Name gg p5,.Name bK p6,[],0⟩] scope dp
structure DcC(sc:Scope)(Rc:List (Option Str))(i j:Nat)(y:Str)(yp dp:Pos)(scope:Scope):Prop where
 hk:scope.kind=.function
 hn:scope.names=gS
 hi:Rc[i]? = some (some y)
 hy:sc.names.lookup y=some .local
 hyn:(gS.any fun(n,k)=>n==y&&(k==.local||k==.cell))=false
 hj:Rc[j]? = some (some bK)
 hline:yp.line=dp.line
 ho:sc.names.lookup bK=some .cell
inductive DcSh(sc:Scope)(Rc:List (Option Str))(i j:Nat):NW->Prop where
 | mk (y:Str) (yp p1 p2 p3 p4 p5 p6:Pos) (scope:Scope) (dp pos:Pos) (c:DcC sc Rc i j y yp dp scope):DcSh sc Rc i j (.Assign [.Name y yp] (qf p1 p2 p3 p4 p5 p6 scope dp) pos)
theorem Hn{i j:Nat}{st:NW}(hc:(nt i j).chk sc Rc st=true):DcSh sc Rc i j st:=by
 refine kn (P:=DcSh sc Rc i j) hc fun y yp e pos hc=>?_
 refine Cn (P:=fun e=>DcSh sc Rc i j (.Assign [.Name y yp] e pos)) hc fun ke ve gs scope dp hc=>?_
 refine cP (P:=fun ke=>DcSh sc Rc i j (jf y yp ke ve gs scope dp pos)) hc fun x1 p1 hc=>?_
 refine kh (P:=fun ve=>DcSh sc Rc i j (jf y yp (.Name x1 p1) ve gs scope dp pos)) hc fun o sl p2 hc=>?_
 refine cP (P:=fun o=>DcSh sc Rc i j (jf y yp (.Name x1 p1) (.Subscript o sl p2) gs scope dp pos)) hc fun d1 p3 hc=>?_
 refine cP (P:=fun sl=>DcSh sc Rc i j (jf y yp (.Name x1 p1) (.Subscript (.Name d1 p3) sl p2) gs scope dp pos)) hc fun x2 p4 hc=>?_
 refine cU (P:=fun gs=>DcSh sc Rc i j (jf y yp (.Name x1 p1) (.Subscript (.Name d1 p3) (.Name x2 p4) p2) gs scope dp pos)) hc fun g hc=>?_
 obtain⟨tgt,iter,ifs,asy⟩:=g
 refine cP (P:=fun tgt=>DcSh sc Rc i j (jf y yp (.Name x1 p1) (.Subscript (.Name d1 p3) (.Name x2 p4) p2) [⟨tgt,iter,ifs,asy⟩] scope dp pos)) hc fun x3 p5 hc=>?_
 refine cP (P:=fun iter=>DcSh sc Rc i j (jf y yp (.Name x1 p1) (.Subscript (.Name d1 p3) (.Name x2 p4) p2) [⟨.Name x3 p5,iter,ifs,asy⟩] scope dp pos)) hc fun d2 p6 hc=>?_
 refine eE (P:=fun ifs=>DcSh sc Rc i j (jf y yp (.Name x1 p1) (.Subscript (.Name d1 p3) (.Name x2 p4) p2) [⟨.Name x3 p5,.Name d2 p6,ifs,asy⟩] scope dp pos)) hc fun hc=>?_
 obtain⟨e1,hk,hn,hi,hy,hyn,hj,e2,e3,e4,e5,e6,hline,ho⟩:=of_decide_eq_true hc
 subst e1 e2 e3 e4 e5 e6
 exact⟨y,yp,p1,p2,p3,p4,p5,p6,scope,dp,pos,⟨hk,hn,hi,hy,hyn,hj,hline,ho⟩⟩
theorem za(e:s.heap.get? b=some o):b∉[s.heap.objs.size]:=fun q=>by rw[ah.mp q]at e;exact bj _ (N3 e)
theorem Ho{scope:Scope}{p1 p2 p3 p4 p5 p6 dp pos:Pos}{u:NO->Sem Unit}{Q:NO->NL->Prop}{a c:NQ}{kv:List (Int × NO)}{ep:Nat}(eo:EnvOk Re sc)(ok:Okay A O s)(hk:scope.kind=.function)(hn:scope.names=gS)(ho:sc.names.lookup bK=some .cell)
 (hc1:Re.cells.lookup bK=some c) (hc2:s.heap.IsCell c (some (.ref a))) (hld:∀ {Q:NO->NL->Prop},Q (.ref a) s->NN (NP G.prog G.w) A (loadName Re bK) Q E s) (x1:(a==OR)=false) (dA:s.heap.DictAt (On G.prog G.w) a kv ep) (d:s.heap.DictOf (On G.prog G.w) a kv) (hlen:kv.length<=1000000)
 (hfin:∀D C' h' tk m',(∀b o,s.heap.get? b=some o->h'.get? b=some o)->s.heap.get? D=none->s.heap.get? C'=none->D≠C'->h'.Ns C' m'->h'.DictOf (On G.prog G.w) D kv->compPost (NP G.prog G.w) A E (some u) Q (.ref D) C' (.ok .next) { s with heap:=h',toks:=tk }) :
 NN (NP G.prog G.w) A (comprehension (qf p1 p2 p3 p4 p5 p6 scope dp) scope Re pos newDict false (N6 (.Name bK p6) Re) (some u)) Q E s:=by
 obtain⟨z1,z2,z3,z4,z5,z6⟩:=Hm
 have hclos:closureFor scope Re=pure [(bK,c)]:=by
  rw[wM fun p hp hk=>by rw[hn]at hp;rw[z4 p hp hk,hc1];rfl,hn]
  show pure [(bK,(Re.cells.lookup bK).getD 0)]=_
  rw[hc1];rfl
 refine wpAny_comprehension_free rfl (fun x=>pp rfl) hclos hk (hn▸z2) ?_
 refine O0 (hld ?_) z6
 refine wpAny_pyIter_dict x1 dA ?_
 have ha:=dA.lt_size
 have hI:s.heap.objs.size∉hfp A:=fun q=>bj _ (ok.hlt _ q)
 have kinR:∀C',(compEnvC scope [(bK,c)] C' Re).kindOf gg=some .local:=fun U=>lookup_relabel_local (by rw[hn];exact z3)
 have kinO:∀C',(compEnvC scope [(bK,c)] C' Re).kindOf bK=some .cell:=fun U=>by
  show List.lookup bK (scope.names.map _)=_
  rw[hn]
  show List.lookup bK [(ofString ".0",NameKind.local),(gg,NameKind.local),if(Re.scope.kind==Pw&&Re.kindOf bK==some OT)=true then(bK,OT)else(bK,Ow)]=_
  rw[eo.kindS,eo.kindOf,ho];decide +kernel
 refine comp_block_walkCD (knd:=On G.prog G.w) (RR:=fun acc C=>compPost (NP G.prog G.w) A E (some u) Q acc C)
  (rT (A:=A) (knd:=On G.prog G.w) s.heap.objs.size a (nz ha) hI kv ep) (by rw[OK];exact ae hlen (by decide)) (fun U=>true) (fun v k=>Value.isInt k v=true) (fun v z=>∃k t,v=.int k t/\OM kv k=some z)
  (hn▸z1) hk (by rw[hn];exact z3) ⟨⟨⟨_,NZ _ rfl,rfl,rfl⟩,dA.push _⟩,ok.hok.mono fun b o e=>NV _ e⟩ ?_ ⟨?_,?_,?_⟩ ?_
 ·intro b hb
  show @LT.lt Nat _ b (s.heap.push _).objs.size
  rw[ON]
  rcases aa.mp hb with rfl | hb
  ·exact Nl _
  rcases aa.mp hb with rfl | hb
  ·exact qW ha
  ·exact qW (ok.hlt _ hb)
 ·intro C' i' v s₃ m₃ E' hP hn3 hm hk3
  rw[List.forIn_nil]
  exact NU ⟨rfl,bk _⟩
 ·intro C' i' v s₃ m₃ E' hP U hn3 hm hk3
  refine x12 hP fun q hq hi'=>?_
  exact O0 (Qe hk (kinR C') hn3 hm ⟨⟨q.1,hi',hi'⟩,bk _⟩) z5
 ·intro C' i' v s₃ m₃ E' hP U hn3 hm hk3
  refine x12 hP fun q hq hi'=>?_
  refine x11 (Qw hi') fun t e=>?_
  subst e
  have up:∀b o,s.heap.get? b=some o->s₃.heap.get? b=some o:=fun b o e=>hk3 b o (za e) (NV _ e)
  refine jF (O0 (wpAny_loadName_cell hk (kinO C') (show List.lookup bK [(bK,c)]=some c by rw[NG,beq_self_eq_true]) (jA hc2 fun o e=>up _ o e) ?_) z6)
  refine O0 (Qe hk (kinR C') hn3 hm ?_) z5
  have hvq:=y8 dA.nodup (az hq)
  have d3:=d.keep up
  exact⟨_,_,slot_dict_getitem.lookup,d3.typeIs,wpAny_getItem_of mj d3.mapOf hvq ⟨⟨_,_,rfl,hvq⟩,ar _ _⟩⟩
 ·intro D C' h' tk m' kvs vs hD hC hDC hnC hdD hvl hP hF hk'
  have ekv:=Hl dA.nodup ((Nq.mpr fun U U=>rfl:vs.filter (fun U=>true)=vs)▸hF) hP
  rw[hvl,Bw]at ekv
  subst ekv
  exact hfin D C' h' tk m' (fun b o e=>hk' b o (za e) (NV _ e)) (y9 hD) (y9 hC) hDC hnC hdD
theorem Hp{yp:Pos}{D C':NQ}{h':N9}{tk:Nat}{m':Str->Option NO}{Q:Flow->NL->Prop}{F:NQ->Prop}(wf:G.Wf)(hsys:∃o,G.hB.get? OR=some o)(C:Cond G Re sc Rc A O ω ρ s)(hsto:br Re Rc i)(hi:Rc[i]? = some (some y))(hks:aW sc y=true)(hkv:∀q∈kv,∃t,q.2=.int (iv q.2) t)
 (up:∀b o,s.heap.get? b=some o->h'.get? b=some o) (hDs:s.heap.get? D=none) (hCs:s.heap.get? C'=none) (hDC:D≠C') (hnC:h'.Ns C' m') (hdD:h'.DictOf (On G.prog G.w) D kv)
 (hQ:∀O' ω' s',Step F Re O ω s O' ω' s'->Cond G Re sc Rc A O' ω' (ρ.set i (.dic (kv.map fun q=>(q.1,iv q.2)))) s'->Q .next s') :
 compPost (NP G.prog G.w) A E (some (Ox (.Name y yp) Re)) (fun U s'=>Q .next s') (.ref D) C' (.ok .next) { s with heap:=h',toks:=tk }:=by
 have k3:NX s { s with heap:=h',toks:=tk }:=⟨h',tk,rfl,up⟩
 have hnO:∀b,s.heap.get? b=none->¬O b:=fun b e q=>x11 (C.ok.obs b q) fun o e'=>by rw[e]at e';cases e'
 refine x12 (Heap.dictOf_iff.mp hdD) fun o' ho' U=>?_
 refine aj (w5 (i:=i) (O':=fun b=>(O b\/b=D)\/b=C') wf C k3 hDs (fun b q=>.inl (.inl q)) (fun b q=>by
  rcases q with(q | q) | q
  ·exact .inl q
  ·exact .inr (q▸hDs)
  ·exact .inr (q▸hCs)) (fun b q=>by
  rcases q with(q | q) | q
  ·exact x11 (C.ok.obs b q) fun o e=>⟨o,up b o e⟩
  ·exact⟨_,q▸ho'⟩
  ·exact x33 hnC fun o U U e U U=>⟨o,q▸e⟩) (.inl (.inr rfl))) fun gr C1=>?_
 show NN _ A (Ox (.Name y yp) Re (.ref D)) _ E _
 refine Ot (dW (y:=.dic (kv.map fun q=>(q.1,iv q.2))) wf hsto C1 hi hks ⟨D,rfl,if_pos rfl,eG.of (y6 hsys C.base hDs) hdD hkv⟩ fun s'' ku C2=>?_)
 have hCF:¬ba Re C':=fun q=>hnO C' hCs (C.fr C' q)
 have hCO:¬(O C'\/C'=D):=fun q=>q.elim (hnO C' hCs) fun e=>hDC e.symm
 refine x33 hnC fun o es ep e hd hr=>?_
 refine⟨m',⟨o,es,ep,ku.get _ o hCF e,hd,hr⟩,fun h'' hs''=>?_⟩
 have hw:∀b j',(if b=D then some i else ω b)=some j'->O b\/b=D:=fun b j' q=>by
  by_cases z:b=D
  ·exact .inr z
  ·rw[if_neg z]at q;exact .inl (C.om b j' q).1
 obtain⟨h2,t2,e2,g2,th2⟩:=ku
 subst e2
 have ne:∀b o,s.heap.get? b=some o->b≠C':=fun b o e q=>by rw[q,hCs]at e;cases e
 refine hQ (fun b=>O b\/b=D) (fun b=>if b=D then some i else ω b) _ ⟨KS.of ⟨h'',t2,rfl,fun b o n e=>hs''.extBut b o (ne b o e) (g2 b o (fun q=>n (.inl q)) (up b o e)),fun b o e=>x11 (th2 b o (up b o e)) fun o' e'=>⟨o',hs''.extBut b o' (ne b o e) e'⟩⟩,fun b q U=>.inl q,fun b q=>q.imp id fun z=>by rw[z];exact hDs,fun b j' q=>?_⟩ ?_
 ·by_cases z:b=D
  ·exact .inr (z▸hDs)
  ·rw[if_neg z]at q;exact .inl q
 ·exact C2.shrink (V:=(· = C')) wf (fun b q=>.inl q) hw (fun b q=>.inl (C.fr b q)) (fun x c e=>.inl (C.fc x c e)) (fun b q=>q▸hCO) (fun b q=>.inr q) (fun b z q=>x11 (C.ok.hok.there b q) fun o e=>by rw[z,hCs]at e;cases e) hs''.extBut
theorem Hq(i j:Nat)(wf:G.Wf)(hsys:∃o,G.hB.get? OR=some o):cZ G X (nt i j):=by
 intro sc Rc st Re A O ω ρ s E Q hc hsto C hX R hp hQ
 obtain⟨y,yp,p1,p2,p3,p4,p5,p6,scope,dp,pos,hk,hn,hi,hy,hyn,hj,hline,ho⟩:=Hn hc
 dsimp only[nt]at hp hQ
 obtain⟨D0,hl,hlen⟩:=hp
 rw[hl]at hQ
 obtain⟨val,F,V⟩:=C.vars
 have hv:=V j _ hj
 rw[hl]at hv
 obtain⟨u,hu,r⟩:=hv
 cases r with
 | @dict a l' na x =>
 rw[show qe (.dat (.dict (dD l')))=.dic l' from congrArg SV.dic (y7 l')]at hQ
 obtain⟨kv,d,hkv,e⟩:=x.dict (prog:=G.prog) (w:=G.w)
 subst e
 refine x11 d.dictAt fun ep dA=>?_
 obtain⟨c,hc1,hc2⟩:=F.cel bK (.inl ((C.eo.kindOf _).trans ho))
 rw[hu]at hc2
 have hsw:P9 (qf p1 p2 p3 p4 p5 p6 scope dp) (some (.Name y yp)) pos.line Re=pure true:=by
  show(pure (Re.blockKind==.function&&Re.kindOf y==some .local&&yp.line==dp.line&&!(scope.names.any fun(n,k)=>n==y&&(k==.local||k==.cell))):Sem Bool)=pure true
  unfold Env.blockKind
  rw[hn,hyn,C.eo.kindOf y,hy,hline,C.eo.kindS,show(dp.line==dp.line)=true from beq_self_eq_true _];rfl
 rw[exec_Assign_Name_used _ _ _ _ hsw]
 refine NM (Od (NM ?_))
 show NN _ A (comprehension (qf p1 p2 p3 p4 p5 p6 scope dp) scope Re _ newDict false (N6 (.Name bK p6) Re) (some (Ox (.Name y yp) Re)) >>= fun U=>pure ()) _ _ s
 refine NM (NS (Ho (Q:=fun U s'=>Q .next s') C.eo C.ok hk hn ho hc1 hc2 (fun h=>eU C.eo F hu (.inr (.inl ho)) h) x.1 dA d (by rw[af,af]at hlen;exact hlen) fun D C' h' tk m' up hDs hCs hDC hnC hdD=>?_) (fun U s' hq=>NU (NU hq)) fun U U e=>e)
 exact Hp wf hsys C (hsto i) hi (by unfold aW;rw[hy];rfl) hkv up hDs hCs hDC hnC hdD fun O' ω' s' st C'=>hQ O' ω' s' .next st C' rfl
noncomputable def li(l:List (Int × Int))(k:Int):Int:=((l.find? fun q=>q.1=k).map (·.2)).getD 0
noncomputable def lj(l:List (Int × Int))(k v:Int):List (Int × Int):=if l.any (fun q=>q.1=k)then l.map (fun q=>if q.1=k then(q.1,v)else q)else l++[(k,v)]
noncomputable def zb:SV->Int->Int->SV
 | .dic l,k,v=>.dic (lj l k (li l k - v))
 | _,_,_=>.un
theorem Hr(hv:∀q∈kv,∃t,q.2=.int (iv q.2) t)(t:Tok):∃t',(OM kv k).getD (.int 0 t)=.int (li (kv.map fun q=>(q.1,iv q.2)) k) t':=by
 have e:(((kv.map fun q=>(q.1,iv q.2)).find? fun q=>q.1=k).map (·.2))=(OM kv k).map iv:=by
  unfold OM
  rw[List.find?_map,Ni,Ni];rfl
 unfold li
 rw[e]
 cases hq:OM kv k with
 | none=>exact⟨t,rfl⟩
 | some v =>
  refine x12 (wk hq) fun q h1 h2=>x11 (hv q h1) fun t e=>?_
  rw[h2]at e
  exact⟨t,e⟩
theorem Hs:((stored kv k (.int b t)).map fun q=>(q.1,iv q.2))=lj (kv.map fun q=>(q.1,iv q.2)) k b:=by
 unfold stored lj
 rw[List.any_map]
 show _=if(kv.any fun q=>decide (q.1=k))=true then _ else _
 split
 ·rw[fk,fk]
  refine oA fun q U=>?_
  show(fun q:Int × NO=>(q.1,iv q.2)) (if q.1=k then(q.1,.int b t)else q)=if q.1=k then(q.1,b)else(q.1,iv q.2)
  split<;>rfl
 ·rw[c8];rfl
theorem Ht{kv:List (Int × NO)}{k b:Int}{t:Tok}(hv:∀q∈kv,∃t,q.2=.int (iv q.2) t):∀q∈stored kv k (.int b t),∃t,q.2=.int (iv q.2) t:=by
 unfold stored
 intro q hq
 split at hq
 ·refine x12 (aJ.mp hq) fun p hp e=>?_
  split at e
  ·rw[<- e];exact⟨t,rfl⟩
  ·rw[<- e];exact hv p hp
 ·rcases aI.mp hq with h | h
  ·exact hv q h
  ·rw[ah.mp h];exact⟨t,rfl⟩
inductive DicVar(G:Glo)(Re:Env)(Rc:List (Option Str))(O:NQ->Prop)(ω:NQ->Option Nat)(ρ:List SV)(s:NL)(i:Nat)(x:Str)(l:List (Int × Int)):Prop where
 | mk (val:Str->Option NO) (a:NQ) (F:FrameV Re s.heap val) (V:gz G O ω s.heap Rc ρ val) (hv:val x=some (.ref a)) (hw:ω a=some i) (D:eG s.heap a l) (hi:i<ρ.length):DicVar G Re Rc O ω ρ s i x l
theorem zc(C:Cond G Re sc Rc A O ω ρ s)(hi:Rc[i]? = some (some x))(hl:ρ.getD i .un=.dic l):DicVar G Re Rc O ω ρ s i x l:=by
 obtain⟨val,F,V⟩:=C.vars
 have hv:=V i x hi
 rw[hl]at hv
 exact x13 hv fun a e1 e2 D=>⟨val,a,F,V,e1,e2,D,Eh hl fun q=>nomatch q⟩
noncomputable def qg(Φ:List FEntry)(i:Nat)(e f:IX):Prim where
 chk sc Rc st:=eF st fun t v U=>lX t fun o sl U=>bv o fun x U=>rt v fun lf op r U=>hW lf fun x2 U m ap as cp=>vC as fun a1 as'=>v1 as' fun a2=>oU a2 fun c U U =>
  (op==.Sub&&m==ofString "get"&&ap.endLine==cp.line&&Rc[i]? == some (some x)&&x2==x&&x != ofString "__debug__"&&ph c (.int 0))&&(chk Φ e sc Rc sl&&chk Φ e sc Rc a1&&chk Φ f sc Rc r)
 k:=max (kx Φ e) (kx Φ f)
 pre ρ:=(∃l,ρ.getD i .un=.dic l/\l.length<=1000000)/\pre Φ e false ρ/\pre Φ f false ρ/\∃a b,den Φ e ρ=.int a/\den Φ f ρ=.int b
 den ρ:=(.next,ρ.set i (zb (ρ.getD i .un) (bi (den Φ e ρ)) (bi (den Φ f ρ))))
theorem Hu(i:Nat)(e f:IX)(wf:G.Wf)(hF:∀F∈Φ,aM G F):cZ G X (qg Φ i e f):=by
 intro sc Rc st Re A O ω ρ s E Q hc hsto C hX R hp hQ
 dsimp only[qg]at hp hQ
 refine rG (P:=fun st=>NN (NP G.prog G.w) A (Oy st Re) Q E s) hc fun t v pos hc=>?_
 refine kh (P:=fun t=>NN (NP G.prog G.w) A (Oy (.Assign [t] v pos) Re) Q E s) hc fun o sl sp hc=>?_
 refine cP (P:=fun o=>NN (NP G.prog G.w) A (Oy (.Assign [.Subscript o sl sp] v pos) Re) Q E s) hc fun x px hc=>?_
 refine rB (P:=fun v=>NN (NP G.prog G.w) A (Oy (.Assign [.Subscript (.Name x px) sl sp] v pos) Re) Q E s) hc fun lf op r bp hc=>?_
 refine v4 (P:=fun lf=>NN (NP G.prog G.w) A (Oy (.Assign [.Subscript (.Name x px) sl sp] (.BinOp lf op r bp) pos) Re) Q E s) hc fun x2 p2 m ap as cp hc=>?_
 refine cV (P:=fun as=>NN (NP G.prog G.w) A (Oy (.Assign [.Subscript (.Name x px) sl sp] (.BinOp (.Call (.Attribute (.Name x2 p2) m ap) as [] cp) op r bp) pos) Re) Q E s) hc fun a1 as' hc=>?_
 refine cU (P:=fun as'=>NN (NP G.prog G.w) A (Oy (.Assign [.Subscript (.Name x px) sl sp] (.BinOp (.Call (.Attribute (.Name x2 p2) m ap) (a1::as') [] cp) op r bp) pos) Re) Q E s) hc fun a2 hc=>?_
 refine oV (P:=fun a2=>NN (NP G.prog G.w) A (Oy (.Assign [.Subscript (.Name x px) sl sp] (.BinOp (.Call (.Attribute (.Name x2 p2) m ap) [a1,a2] [] cp) op r bp) pos) Re) Q E s) hc fun c n p3 hc=>?_
 refine a7 hc fun ha hb=>oQ ha fun hop hm hline hi hx2 hd hc0=>eD hb fun c1 c2 c3=>?_
 cases NY hop
 cases NY hm
 cases NY hx2
 have hi:=NY hi
 have hd:(x==ofString "__debug__")=false:=by simpa using bne_iff_ne.mp hd
 obtain⟨⟨l,hl,hlen⟩,pe,pf,ke,kf,ee,ef⟩:=hp
 rw[hl,ee,ef]at hQ
 obtain⟨val,a,Fv,V,hv,hw,D,hil⟩:=zc C hi hl
 have ld:∀ {s':NL} {p:Pos} {Q:NO->NL->Prop},NX s s'->Q (.ref a) s'->NN (NP G.prog G.w) A (N6 (.Name x p) Re) Q E s':=fun k h=>O0 (eU C.eo (Fv.keeps (ai k)) hv (C.co.kd i x hi) h) hd
 have D':∀ {s':NL},NX s s'->DictV G.prog G.w s'.heap a l:=fun k=>(D.at fun o e=>ai k a o e).dict
 refine wpAny_Assign_Subscript ?_ rfl
 refine wpAny_BinOp ?_
 have hs:starEach [a1,.Constant c n p3] Re=[(false,N6 a1 Re),(false,N6 (.Constant c n p3) Re)]:=by rw[wB (gA e c2)];rfl
 refine wpAny_Call_method_lateS rfl (by rw[hs];rfl) hline (ld (bk s) ?_)
 rw[hs]
 obtain⟨kv,d,hkv,el⟩:=D' (bk s)
 refine⟨"dict", "dict.get",F.plainAttrs_dict,F.slot_dict_get,F.type_dict_get,d.typeIs,fun b eb=>by
  cases eb
  exact x12 (Heap.dictOf_iff.mp d) fun o ho r=>⟨o,ho,r.elim fun es r=>r.elim fun ep r=>r.1.2.1⟩,?_⟩
 refine wpAny_dict_get2 (knd:=On G.prog G.w) D.1 ?_
 refine NS ((snd wf hF e).ev sc Rc a1 false Re A O ω ρ s E c2 C (R.le (aT _ _)) pe) (fun u s₁ h₁=>?_) fun U U x=>x
 have r1:=h₁.2.ff
 rw[ee]at r1
 refine x11 (hY r1) fun t1 e1=>?_;subst e1
 show NN _ A (N6 (.Constant c n p3) Re) _ E s₁
 refine se (k:=n) (p:=p3) hc0 fun z s₂ k2 hz=>?_
 have rz:=hz (fun U=>False) s₂.heap
 refine x11 (hY rz) fun t2 e2=>?_;subst e2
 have k02:=aO h₁.1 k2
 refine⟨ke,OM kv,mj,(d.keep fun b o e=>ai k02 b o e).mapOf,?_⟩
 subst el
 refine x11 (Hr (k:=ke) hkv t2) fun t3 e3=>?_
 rw[e3]
 have k3:NX s { s₂ with toks:=s₂.toks+1 }:=aO k02 (ar _ _)
 refine NS ((snd wf hF f).ev sc Rc r false Re A O ω ρ _ E c3 (C.keeps wf k3) (R.le (aE _ _)) pf) (fun w s₄ h₄=>?_) fun U U x=>x
 have r4:=h₄.2.ff
 rw[ef]at r4
 refine x11 (hY r4) fun t4 e4=>?_;subst e4
 refine NS (wd (O:=O) (op:=.Sub) trivial) (fun w s₅ h₅=>?_) fun U U x=>x
 refine x11 (hY h₅.2) fun t5 e5=>?_;subst e5
 have k5:=aO k3 (aO h₄.1 h₅.1)
 refine ld k5 ?_
 refine NS ((snd wf hF e).ev sc Rc sl false Re A O ω ρ _ E c1 (C.keeps wf k5) (R.le (aT _ _)) pe) (fun w s₆ h₆=>?_) fun U U x=>x
 have r6:=h₆.2.ff
 rw[ee]at r6
 refine x11 (hY r6) fun t6 e6=>?_;subst e6
 have k6:=aO k5 h₆.1
 have C6:=C.keeps wf k6
 have d6:=d.keep fun b o e=>ai k6 b o e
 refine wpAny_setItem_pairs mj d6 (fun h' hd' hs'=>?_) (by rw[af]at hlen;rw[OK];lia)
 have hD':=eG.of (prog:=G.prog) (w:=G.w) D.1 hd' (Ht hkv)
 rw[Hs]at hD'
 have kt:NX s₆ { s₆ with toks:=s₆.toks+1 }:=ar _ _
 refine aj (sh (Ff:=Fz X A) (s:={ s₆ with toks:=s₆.toks+1 }) (i:=i) (x:=x) (y:=.dic (lj (kv.map fun q=>(q.1,iv q.2)) ke (li (kv.map fun q=>(q.1,iv q.2)) ke - kf))) wf (C6.keeps wf kt) ((Fv.keeps (ai k6)).keeps (ai kt)) (fun j y hy=>((V j y hy).keeps wf C.base k6).keeps wf C6.base kt) hi hil hv hw (x12 hD'.2 fun o e U=>⟨o,e⟩) ⟨a,rfl,hw,hD'⟩ hs') fun S' C'=>?_
 exact hQ O ω _ .next ((Step.keeps (aO k6 kt)).trans C.ok.obs S') C' rfl
noncomputable def qh(j i:Nat):Prim where
 chk sc Rc st:=eF st fun t v U=>bv t fun x U=>bv v fun y U=>Rc[j]? == some (some x)&&aW sc x&&Rc[i]? == some (some y)&&y != ofString "__debug__"
 k:=0
 pre ρ:=∃l,ρ.getD i .un=.dic l
 den ρ:=(.next,(ρ.set i (.dat (ρ.getD i .un).data)).set j (.dat (ρ.getD i .un).data))
theorem Hv(j i:Nat)(wf:G.Wf):cZ G X (qh j i):=by
 intro sc Rc st Re A O ω ρ s E Q hc hsto C hX R hp hQ
 dsimp only[qh]at hp hQ
 refine kn (P:=fun st=>NN (NP G.prog G.w) A (Oy st Re) Q E s) hc fun x p v pos hc=>?_
 refine cP (P:=fun v=>NN (NP G.prog G.w) A (Oy (.Assign [.Name x p] v pos) Re) Q E s) hc fun y p2 hc=>?_
 refine fm hc fun hj hk hi hd=>?_
 have hi:=NY hi
 have hd:(y==ofString "__debug__")=false:=by simpa using bne_iff_ne.mp hd
 refine x11 hp fun l hl=>?_
 rw[hl]at hQ
 obtain⟨val,a,Fv,V,hv,hw,D,hil⟩:=zc C hi hl
 obtain⟨O',ω',S1,C1⟩:=wZ (d:=.dict (dD l)) C Fv V hi hil hv hw (.dict (fun q=>q.2 rfl) D)
 have hg:(ρ.set i (.dat (.dict (dD l)))).getD i .un=.dat (.dict (dD l)):=by rw[dq,if_pos ⟨rfl,hil⟩]
 obtain⟨val2,F2,V2⟩:=C1.vars
 have hv2:=V2 i y hi
 rw[hg]at hv2
 refine x12 hv2 fun u e r=>?_
 refine Oc (O0 (eU C1.eo F2 e (C1.co.kd i y hi) ?_) hd) rfl rfl
 show NN _ A (Ox (.Name x p) Re u) _ _ s
 exact ij wf (hsto j) C1 (NY hj) hk r fun s' k C'=>hQ O' ω' s' .next ((S1 _).trans C.ok.obs (Step.frame k)) C' rfl
end
end
section
open PySem PySem.W PyProof.Rows
noncomputable abbrev SB(P:Prop):={b:Bool // b=true->P}
section
variable{P Q:Prop}
noncomputable def SB.and(x:SB P)(y:SB Q):SB (P/\Q):=⟨x.1&&y.1,fun h=>a7 h fun a b=>⟨x.2 a,y.2 b⟩⟩
noncomputable def SB.no:SB P:=⟨false,fun h=>nomatch h⟩
noncomputable def SB.tt(h:P):SB P:=⟨true,fun U=>h⟩
noncomputable def SB.dec[Decidable P]:SB P:=⟨decide P,of_decide_eq_true⟩
noncomputable def SB.imp{b c:Bool}(x:SB P):SB (b=c->P):=⟨if b=c then x.1 else true,fun h e=>x.2 ((if_pos e).symm.trans h)⟩
noncomputable def SB.all{α:Type}{P:α->Prop}(f:∀x,SB (P x))(xs:List α):SB (∀x∈xs,P x):=⟨xs.all fun x=>(f x).1,fun h x hx=>(f x).2 (bt.mp h x hx)⟩
end
noncomputable def Hw(t:Bool):(x:SV)->SB (SV.ok t x)
 | .dat _=>⟨true,fun U=>by cases t<;>trivial⟩
 | .own _=>match t with
  | true=>.tt trivial
  | false=>.no
 | _=>.no
noncomputable def Hx(op:Pm)(a b:Int):SB (o7 op a b):=match op with
 | .Add | .Sub | .BitAnd | .BitOr | .BitXor=>.tt trivial
 | .FloorDiv=>(SB.dec (P:=0<b/\b<=1000000))
 | .Mult=>(SB.dec (P:=(-65536<=a/\a<=65536)\/(-65536<=b/\b<=65536)))
 | .Mod=>(SB.dec (P:=b≠0))
 | .Pow=>(SB.dec (P:=2<=a/\a<=64/\0<=b/\b<=64))
 | _=>.no
noncomputable def zd[Decidable b](op:Pm):SB (op=.Add/\b):=match op with
 | .Add=>SB.and (.tt rfl) .dec
 | _=>.no
noncomputable def Hy(op:Pm)(x y:NR):SB (o8 op x y):=match x,y with
 | .int a,.int b=>Hx op a b
 | .str _,.str _=>zd op
 | .list _,.list _=>zd op
 | _,_=>.no
noncomputable def ll(d:NR):SB (bV d):=SB.dec (P:=_/\_)
noncomputable def nu(x:NR):(y:NR)->SB (rN x y)
 | .list _=>SB.and (ll x) .dec
 | .tuple _=>SB.and (ll x) .dec
 | .str _=>match x with
  | .str _=>.tt trivial
  | _=>.no
 | _=>.no
noncomputable def Hz(op:CmpOp)(x y:NR):SB (mc op x y):=match op with
 | .Eq=>SB.and (ll x) (ll y)
 | .NotEq=>SB.and (ll x) (ll y)
 | .In=>nu x y
 | .NotIn=>nu x y
 | .Lt=>match x,y with
  | .int _,.int _=>.tt trivial
  | _,_=>.no
 | .Gt=>match x,y with
  | .int _,.int _=>.tt trivial
  | _,_=>.no
 | .IsNot=>match x,y with
  | .bool _,.bool _=>.tt trivial
  | _,_=>.no
 | _=>.no
noncomputable def ua(i:Int)(n:Nat):SB (fs i n):=SB.dec (P:=_/\_)
noncomputable def HA(x:NR):(y:NR)->SB (o9 x y)
 | .int i=>match x with
  | .list ds=>ua i ds.length
  | .tuple ds=>ua i ds.length
  | .str x=>ua i x.length
  | _=>.no
 | _=>.no
noncomputable def HB(d lo hi:NR):SB (rQ d lo hi):=match d with
 | .list _=>SB.dec (P:=_/\_)
 | .str _=>SB.dec (P:=_/\_)
 | _=>.no
noncomputable def HC:(d:NR)->SB (rU d)
 | .list ds=>SB.dec (P:=ds.length<=_)
 | .tuple ds=>SB.dec (P:=ds.length<=_)
 | .str x=>SB.dec (P:=x.length<=_)
 | _=>.no
noncomputable def HD:(d:NR)->SB (∃ds,d=.list ds/\rV ds)
 | .list ds=>⟨decide (ds.length<=1000000/\∀d∈ds,isInt d=true/\-1000000000000<=bi d/\bi d<=1000000000000),fun h=>have q:=of_decide_eq_true h;⟨ds,rfl,q⟩⟩
 | _=>.no
noncomputable def ub(x:Str):(d:NR)->SB (∃ds,d=.list ds/\mt x ds)
 | .list ds=>⟨decide ((∀d∈ds,isStr d=true)/\((ds.map dm).map (·.length)).sum+(ds.map dm).length * x.length<=16777216),fun h=>have q:=of_decide_eq_true h;⟨ds,rfl,q⟩⟩
 | _=>.no
noncomputable def HE:(d:NR)->SB (wy d)
 | .list _=>.tt trivial
 | .tuple _=>.tt trivial
 | .str x=>SB.dec (P:=_=true)
 | _=>.no
noncomputable def HG:(d:NR)->SB (rW d)
 | .int _=>SB.dec (P:=_/\_)
 | _=>.no
noncomputable def ze(tup:Bool)(slots:List Nat)(d:NR):SB (bindP tup slots d):=match tup with
 | true=>SB.dec (P:=_/\_)
 | false=>SB.dec (P:=slots.length=1)
section
variable{Φ:List FEntry}
set_option backward.match.sparseCases false in
mutual
noncomputable def bS:(e:IX)->(t:Bool)->(ρ:List SV)->SB (pre Φ e t ρ)
 | .var i,t,ρ=>Hw t (ρ.getD i .un)
 | .lit _,_,_=>.tt trivial
 | .bin op a b,_,ρ=>.and (bS a false ρ) (.and (bS b false ρ) (Hy op _ _))
 | .cmp op a b,_,ρ=>.and (bS a true ρ) (.and (bS b true ρ) (Hz op _ _))
 | .neg a,_,ρ=>.and (bS a false ρ) .dec
 | .bop o es,_,ρ=>zf o es ρ
 | .ite c a b,_,ρ=>.and (bS c false ρ) (.and .dec (.and (.imp (bS a false ρ)) (.imp (bS b false ρ))))
 | .list es,_,ρ=>.and (uc es ρ) .dec
 | .tup es,_,ρ=>.and (uc es ρ) .dec
 | .sub a i,_,ρ=>.and (bS a true ρ) (.and (bS i false ρ) (HA _ _))
 | .slice a lo hi,_,ρ=>.and (bS a true ρ) (.and (zg lo ρ) (.and (zg hi ρ) (HB _ _ _)))
 | .len a,_,ρ=>.and (bS a true ρ) (HC _)
 | .sum a,_,ρ=>.and (bS a true ρ) (HD _)
 | .join a b,_,ρ=>.and (bS a false ρ) (.and (bS b true ρ) (.and .dec (ub _ _)))
 | .comp n tup slots it ifs rest,_,ρ=>.and (ue it true ρ) (.and (.all (fun d=>.and (ze tup slots d) (.and (ud ifs _) (.imp (zh rest _)))) _) .dec)
 | _,_,_=>.no
noncomputable def zf(o:Bool):(e:IX)->(ρ:List SV)->SB (mv Φ o e ρ)
 | .cons a b,ρ=>.and (bS a false ρ) (.imp (.and .dec (.imp (zf o b ρ))))
 | _,_=>.no
noncomputable def zg:(e:IX)->(ρ:List SV)->SB (pg Φ e ρ)
 | .cons a .nil,ρ=>bS a false ρ
 | .nil,_=>.tt trivial
 | _,_=>.no
noncomputable def uc:(e:IX)->(ρ:List SV)->SB (eH Φ e ρ)
 | .cons a b,ρ=>.and (bS a false ρ) (uc b ρ)
 | .nil,_=>.tt trivial
 | _,_=>.no
noncomputable def ud:(e:IX)->(ρ:List SV)->SB (kB Φ e ρ)
 | .cons a b,ρ=>.and (bS a false ρ) (.and .dec (.imp (ud b ρ)))
 | .nil,_=>.tt trivial
 | _,_=>.no
noncomputable def ue:(e:IX)->(t:Bool)->(ρ:List SV)->SB (gw Φ e t ρ)
 | .range1 a,_,ρ=>.and (bS a false ρ) (HG _)
 | .seq e,t,ρ=>.and (bS e t ρ) (HE _)
 | _,_,_=>.no
noncomputable def zh:(e:IX)->(ρ:List SV)->SB (mw Φ e ρ)
 | .gen tup slots it ifs rest,ρ=>.and (ue it false ρ) (.all (fun d=>.and (ze tup slots d) (.and (ud ifs _) (.imp (zh rest _)))) _)
 | .emit e,ρ=>bS e false ρ
 | _,_=>.no
end
end
theorem cC:∀ {e:IX},pre Φ e false ρ->pre Φ e true ρ:=by
 intro e h
 cases e<;>first | exact h | skip
 revert h
 show SV.ok false _->SV.ok true _
 cases ρ.getD _ .un<;>intro h<;>first | exact h.elim | trivial
noncomputable def Ok(Φ:List FEntry)(e:IX)(ρ:List SV)(d:NR):Prop:=pre Φ e false ρ/\den Φ e ρ=d
theorem uf{e:IX}{ρ:List SV}{d:NR}(h:((bS (Φ:=Φ) e false ρ).1,den Φ e ρ)=(true,d)):Ok Φ e ρ d :=
 ⟨(bS e false ρ).2 (congrArg Prod.fst h),congrArg Prod.snd h⟩
theorem nv{Φ:List FEntry}{α:Type}{e:IX}{xs:List α}{r:α->List SV}{f:α->NR}(h:xs.map (fun x=>((bS (Φ:=Φ) e false (r x)).1,den Φ e (r x)))=xs.map fun x=>(true,f x)):∀x∈xs,Ok Φ e (r x) (f x) :=
 fun x hx=>uf (List.map_inj_left.mp h x hx)
noncomputable def zi:Fl->NR
 | .ret d=>d
 | _=>.none
section
variable{Φ:List FEntry}{p:Prim}{r:SX}{ρ ρ1:List SV}{d:NR}
end
noncomputable def iD(n:Nat):NR:=.int n
noncomputable def LD(l:List Nat):NR:=.list (l.map iD)
noncomputable def iA(g:Gr)(p:Int):Prop:=∃q∈g,q.1=p
structure GI(R:Int->Int->Prop)(m l:Nat)(g:Gr):Prop where
 len:g.length<=m
 sl:∀q∈g,q.2.2.length<=l
 e1:∀q∈g,∀n∈q.2.2,R q.1 n
structure UpG(R:Int->Int->Prop)(a b:Nat)(g g':Gr):Prop where
 gi:∀m l,GI R m l g->GI R (m+a) (l+b) g'
 su:∀p n,n∈aL g p->n∈aL g' p
 ky:∀p,iA g p->iA g' p
section
variable{R:Int->Int->Prop}{g g' g'':Gr}{a b c d:Nat}
theorem UpG.trans(x:UpG R a b g g')(y:UpG R c d g' g''):UpG R (a+c) (b+d) g g'' :=
 ⟨fun m l h=>M8 m a c▸M8 l b d▸y.gi _ _ (x.gi _ _ h),fun p n h=>y.su p n (x.su p n h),fun p h=>y.ky p (x.ky p h)⟩
theorem zj(hf:∀q,(f q).1=q.1)(p:Int):aL (g.map f) p=match g.find? fun q=>q.1=p with | some q=>(f q).2.2 | none=>[]:=by
 unfold aL
 rw[List.find?_map,show((fun q:Int × Int × List Int=>decide (q.1=p)) ∘ f)=fun q=>decide (q.1=p)from funext fun q=>by show decide ((f q).1=p)=_;rw[hf]]
 cases g.find? fun q=>q.1=p<;>rfl
theorem HH(hf:∀q,(f q).1=q.1)(h:iA g p):iA (g.map f) p :=
 h.elim fun q ζ=>ζ.elim fun h1 h2=>⟨f q,List.mem_map_of_mem h1,(hf q).trans h2⟩
theorem zk(hf:∀q,(f q).1=q.1)(hs:∀q,∃l,(f q).2.2=q.2.2++l/\l.length<=a/\∀n∈l,R q.1 n):UpG R 0 a g (g.map f) where
 gi m l h:=⟨by rw[af];exact h.len,fun q hq=>by
  refine x12 (aJ.mp hq) fun q' h1 e2=>?_;subst e2
  refine x13 (hs q') fun l e hl U=>?_
  rw[e,cb];exact Nh (h.sl q' h1) hl,fun q hq n hn=>by
  refine x12 (aJ.mp hq) fun q' h1 e2=>?_;subst e2
  refine x13 (hs q') fun l e U hr=>?_
  rw[e]at hn
  rw[hf]
  exact(aI.mp hn).elim (h.e1 q' h1 n) (hr n)⟩
 su p n h:=by
  rw[zj hf]
  unfold aL at h
  cases e:g.find? fun q=>q.1=p with
  | none=>rw[e]at h;exact h
  | some q=>
   rw[e]at h
   refine x12 (hs q) fun l e' U=>?_
   show n∈(f q).2.2
   rw[e'];exact cQ _ h
 ky p h:=HH hf h
theorem zl(k:Int):UpG R 1 0 g (cy k g)/\iA (cy k g) k:=by
 unfold cy
 by_cases h:(g.any fun p=>p.1==k)=true
 ·rw[if_pos h]
  refine x12 (dP.mp h) fun q h1 h2=>?_
  exact⟨⟨fun m l h=>⟨Nat.le_succ_of_le h.len,h.sl,h.e1⟩,fun U U h=>h,fun U h=>h⟩,q,h1,NY h2⟩
 ·rw[if_neg h]
  refine⟨⟨fun m l h=>⟨by rw[cb];exact Np h.len,fun q hq=>?_,fun q hq=>?_⟩,fun p n h=>?_,fun p ζ=>ζ.elim fun q ζ=>ζ.elim fun h1 h2=>⟨q,cQ _ h1,h2⟩⟩,(k,0,[]),cG _ (ah.mpr rfl),rfl⟩
  ·rcases aI.mp hq with hq | hq
   ·exact h.sl q hq
   ·rw[ah.mp hq];exact cj _
  ·rcases aI.mp hq with hq | hq
   ·exact h.e1 q hq
   ·rw[ah.mp hq];exact fun n hn=>nomatch hn
  ·unfold aL at h ⊢
   rw[List.find?_append]
   cases e:g.find? fun q=>q.1=p with
   | none=>rw[e]at h;exact nomatch h
   | some q=>rw[e]at h;exact h
theorem HI(hR:R p k)(hk:iA g p):UpG R 0 1 g (fA p k g)/\k∈aL (fA p k g) p:=by
 have hf:∀q:Int × Int × List Int,(if q.1=p then(q.1,q.2.1,q.2.2++[k])else q).1=q.1:=fun q=>by split<;>rfl
 refine⟨zk hf fun q=>?_,?_⟩
 ·split
  ·rename_i e;exact⟨[k],rfl,bM _,fun n hn=>by rw[ah.mp hn,e];exact hR⟩
  ·exact⟨[],(iK _).symm,cj _,fun n hn=>nomatch hn⟩
 ·unfold fA
  rw[zj hf]
  refine x12 hk fun q h1 h2=>?_
  cases e:g.find? fun q=>q.1=p with
  | none=>exact absurd (decide_eq_true h2) (MZ.mp e q h1)
  | some q' =>
   have:=List.find?_some e
   have:=of_decide_eq_true this
   dsimp only
   rw[if_pos this];exact cG _ (ah.mpr rfl)
theorem zm:∀(ps:List Int) (g:Gr),(∀p∈ps,R p k)->UpG R ps.length ps.length g (ps.foldl (fun g p=>fA p k (cy p g)) g)/\∀p∈ps,k∈aL (ps.foldl (fun g p=>fA p k (cy p g)) g) p
 | [],g,_=>⟨⟨fun U U h=>h,fun U U h=>h,fun U h=>h⟩,fun p h=>nomatch h⟩
 | p::ps,g,h=>by
  have h1:=zl (R:=R) (g:=g) p
  have h2:=HI (g:=cy p g) (h p ag) h1.2
  have h3:=zm ps (fA p k (cy p g)) fun q hq=>h q (ay _ hq)
  refine⟨?_,fun q hq=>(aa.mp hq).elim (fun e=>e▸h3.1.su _ _ h2.2) (h3.2 q)⟩
  have:=(h1.1.trans h2.1).trans h3.1
  rw[show(p::ps).length=1+ps.length from Nat.add_comm ..]
  rw[oR]at this
  exact this
theorem HJ(h:∀p∈ps,R p k)(hl:ps.length<=3):UpG R 4 3 g (jM k ps g)/\iA (jM k ps g) k/\∀p∈ps,k∈aL (jM k ps g) p:=by
 have h1:=zl (R:=R) (g:=g) k
 have hf:∀q:Int × Int × List Int,(if q.1=k then(q.1,q.2.1+(ps.length:Int),q.2.2)else q).1=q.1:=fun q=>by split<;>rfl
 have h2:UpG R 0 0 (cy k g) (ip k ps.length (cy k g)):=zk hf fun q=>⟨[],by split<;>exact(iK _).symm,bM _,fun n hn=>nomatch hn⟩
 have h3:=zm (R:=R) ps (ip k ps.length (cy k g)) h
 have h4:=(h1.1.trans h2).trans h3.1
 exact⟨⟨fun m l q=>let r:=h4.gi m l q;⟨ae r.len (by lia),fun x hx=>ae (r.sl x hx) (by lia),r.e1⟩,h4.su,h4.ky⟩,h3.1.ky _ (h2.ky _ h1.2),h3.2⟩
end
theorem qi{α:Type}{f:α->Nat}{B:Nat}:∀ {l:List α},(∀x∈l,f x<=B)->(l.map f).sum<=l.length * B
 | [],_=>cj _
 | x::l,h=>by
  have h1:=h x ag
  have h2:=qi (l:=l) fun y hy=>h y (ay _ hy)
  rw[aQ,BA,dQ,Nat.succ_mul,Nat.add_comm]
  exact Nh h2 h1
noncomputable def jW(g:Gr):Nat:=g.foldl (fun m q=>m+q.2.2.length) 0
theorem zn(g:Gr):jW g=(g.map fun q=>q.2.2.length).sum:=by
 have:∀(g:Gr) (m:Nat),g.foldl (fun m q=>m+q.2.2.length) m=m+(g.map fun q=>q.2.2.length).sum:=fun g=>by
  induction g with
  | nil=>intro m;rfl
  | cons q g ih=>intro m;rw[NK,ih,aQ,BA,M8]
 rw[jW,this,oR]
theorem zo{α:Type}{f:α->Nat}{x:α}:∀ {l:List α},x∈l->f x<=(l.map f).sum
 | y::l,h=>by
  rw[aQ,BA]
  rcases aa.mp h with rfl | h
  ·exact Bx _ _
  ·exact ae (zo h) (Nat.le_add_left _ _)
theorem zp(h:n∈aL g p):∃q∈g,q.1=p/\n∈q.2.2:=by
 unfold aL at h
 cases e:g.find? fun q=>q.1=p with
 | none=>rw[e]at h;exact nomatch h
 | some q=>rw[e]at h;have:=List.find?_some e;exact⟨q,M7 e,of_decide_eq_true this,h⟩
theorem HK(g:Gr)(p:Int):(aL g p).length<=jW g:=by
 unfold aL
 cases e:g.find? fun q=>q.1=p with
 | none=>exact cj _
 | some q=>rw[zn];exact zo (f:=fun q:Int × Int × List Int=>q.2.2.length) (M7 e)
noncomputable abbrev lm:=Int × List Int
noncomputable def ew(g:Gr)(r:lm):Gr:=jM r.1 r.2 g
noncomputable def zq(rows:List lm):Prop:=rows.length<=8/\∀r∈rows,r.2.length<=3
noncomputable def RR(rows:List lm)(p n:Int):Prop:=∃r∈rows,r.1=n/\p∈r.2
theorem zr:∀(rows:List lm) (g:Gr),(∀r∈rows,r.2.length<=3/\∀p∈r.2,R p r.1) ->
 UpG R (4 * rows.length) (3 * rows.length) g (rows.foldl ew g)/\∀r∈rows,iA (rows.foldl ew g) r.1/\∀p∈r.2,r.1∈aL (rows.foldl ew g) p
 | [],g,_=>⟨⟨fun U U h=>h,fun U U h=>h,fun U h=>h⟩,fun r h=>nomatch h⟩
 | r::rows,g,h=>by
  have h1:=HJ (g:=g) (h r ag).2 (h r ag).1
  have h2:=zr rows (ew g r) fun r hr=>h r (ay _ hr)
  refine⟨?_,fun r' hr=>?_⟩
  ·have:=h1.1.trans h2.1
   rw[show 4 * (r::rows).length=4+4 * rows.length from Nat.add_comm ..,show 3 * (r::rows).length=3+3 * rows.length from Nat.add_comm ..]
   exact this
  ·rcases aa.mp hr with rfl | hr
   ·exact⟨h2.1.ky _ h1.2.1,fun p hp=>h2.1.su _ _ (h1.2.2 p hp)⟩
   ·exact h2.2 r' hr
theorem HL(t:Topo g L):∀y∈L,∀x∈aL g y,x∈L:=by
 induction t with
 | nil=>exact fun y h=>nomatch h
 | snoc t h ih =>
  intro y hy x hx
  rcases aI.mp hy with hy | hy
  ·exact cQ _ (ih y hy x hx)
  ·rw[ah.mp hy]at hx;exact cQ _ (h x hx)
theorem HM{g:Gr}{L:List Int}(t:Topo g L){C:Int->Prop}(hC:∀x,C x->∃y,C y/\x∈aL g y):(∀x,C x->x∈L)->∀x,¬C x:=by
 induction t with
 | nil=>exact fun h x hx=>nomatch h x hx
 | @snoc L k t h ih =>
  refine fun hL=>ih fun x hx=>?_
  refine x12 (hC x hx) fun y hy hxy=>?_
  rcases aI.mp (hL y hy)with q | q
  ·exact HL t y q x hxy
  ·rw[ah.mp q]at hxy;exact h x hxy
section
variable{rows:List lm}(h:zq rows)
include h
theorem nw:GI (RR rows) 32 24 (rows.foldl ew [])/\∀r∈rows,iA (rows.foldl ew []) r.1/\∀p∈r.2,r.1∈aL (rows.foldl ew []) p:=by
 have u:=zr (R:=RR rows) rows [] fun r hr=>⟨h.2 r hr,fun p hp=>⟨r,hr,rfl,hp⟩⟩
 have z:=u.1.gi 0 0 ⟨bM _,fun q hq=>(nomatch hq),fun q hq=>nomatch hq⟩
 have h8:=h.1
 exact⟨⟨ae z.len (ae (gZ (oR _)) (Nk 4 h8)),fun q hq=>ae (z.sl q hq) (ae (gZ (oR _)) (Nk 3 h8)),z.e1⟩,u.2⟩
theorem HN(p n:Int)(hn:n∈aL (rows.foldl ew []) p):n∈(rows.foldl ew []).map (·.1):=by
 have u:=nw h
 refine x13 (zp hn) fun q h1 U h3=>?_
 refine x13 (u.1.e1 q h1 n h3) fun r r1 r2 U=>?_
 refine x12 ((u.2 r r1).1) fun q' a b=>?_
 exact aJ.mpr ⟨q',a,b.trans r2⟩
theorem ug:to (rows.foldl ew []):=by
 have u:=nw h
 have hk:=HN h
 generalize rows.foldl ew []=g at u hk
 have ht:jW g<=768:=by
  rw[zn]
  exact ae (qi u.1.sl) (NF 24 u.1.len)
 have hf:pU g=(g.length+2) * (jW g+g.length+4)+10:=rfl
 have hN:dM g (g.map (·.1)) []<pU g:=by
  have e:dM g (g.map (·.1)) []<=g.length * (jW g+1):=by
   unfold dM
   refine ae (qi (B:=jW g+1) fun x U=>Np (HK g x)) (NF _ ?_)
   exact ae (j7 ..) (by rw[af];exact bM _)
  exact lM e (lM (Nat.mul_le_mul (Bx _ 2) (Nh (Bx ..) (by decide:1<=4))) (Nat.lt_add_of_pos_right (by decide:0<10)))
 have hs:=tZ hk hN (g.map (·.1)) [] fun k q=>q
 refine⟨fun q hq n hn=>?_,ae u.1.len (by decide),?_⟩
 ·refine x13 (u.1.e1 q hq n hn) fun r r1 r2 U=>?_
  refine x12 ((u.2 r r1).1) fun q' a b=>?_
  exact⟨q',a,b.trans r2⟩
 ·cases e:pV g with
  | none=>unfold pV kW at e;rw[e]at hs;cases hs
  | some r=>
   refine⟨r,rfl,fun c hc=>ae (t7 _ _ c (by rw[hc]at e;exact e)) ?_⟩
   exact ae (gv (Nat.mul_le_mul (gv u.1.len 2) (gv (Nh ht u.1.len) 4)) 10) (by decide)
theorem HO(hc:gd (rows.foldl ew [])=false){C:Int->Prop}(hC:∀x,C x->∃r∈rows,r.1=x/\∃p∈r.2,C p):∀x,¬C x:=by
 have u:=nw h
 obtain⟨_,_,r,hr,_⟩:=ug h
 have e:r=none:=by
  unfold gd at hc
  rw[hr]at hc
  cases r with
  | none=>rfl
  | some c=>cases hc
 subst e
 rcases qd _ _ [] [] _ .nil (fun x=>Iff.rfl) hr with⟨q,_⟩ | ⟨_,L,t,hL,_⟩
 ·exact absurd rfl q
 ·refine HM t (fun x cx=>?_) fun x cx=>?_
  ·refine x13 (hC x cx) fun r hr e z=>x12 z fun p hp cp=>?_
   exact⟨p,cp,e▸(u.2 r hr).2 p hp⟩
  ·refine x13 (hC x cx) fun r hr e z=>x12 ((u.2 r hr).1) fun q a b=>?_
   exact hL x (aJ.mpr ⟨q,a,b.trans e⟩)
theorem HP(hc:gd (rows.foldl ew [])=true):∃C:List Int,C≠[]/\∀x∈C,∃r∈rows,r.1=x/\∃p∈r.2,p∈C:=by
 have u:=nw h
 obtain⟨_,_,r,hr,_⟩:=ug h
 rcases qd _ _ [] [] _ .nil (fun x=>Iff.rfl) hr with⟨_,C,hC⟩ | ⟨e,_⟩
 ·refine⟨C,hC.1,fun x hx=>?_⟩
  refine x12 (hC.2 x hx) fun y hy hxy=>?_
  refine x13 (zp hxy) fun q h1 h2 h3=>?_
  refine x13 (u.1.e1 q h1 x h3) fun r r1 r2 r3=>?_
  exact⟨r,r1,r2,y,h2▸r3,hy⟩
 ·subst e
  unfold gd at hc
  rw[hr]at hc
  cases hc
end
section
variable{Φ:List FEntry}{ρ:List SV}
noncomputable def e8(Φ:List FEntry)(it:IX)(ρ:List SV)(l:List NR):Prop:=gw Φ it false ρ/\bX Φ it ρ=l
theorem HQ(h:gw Φ it false ρ):gw Φ it true ρ:=by
 cases it<;>first | exact h | exact⟨cC h.1,h.2⟩
theorem gh(h:Ok Φ e ρ (.list ds)):e8 Φ (.seq e) ρ ds :=
 ⟨⟨h.1,by rw[h.2];trivial⟩,by show items (den Φ e ρ)=ds;rw[h.2];rfl⟩
theorem zs{k:Nat}(hk:k<=1000000):e8 Φ (.range1 (.lit (.int k))) ρ ((dj k).map iD) :=
 ⟨⟨trivial,by show -1000000000<=(k:Int)/\(k:Int)<=1000000000;lia⟩,by
  show(dj ((k:Int) - 0).toNat).map (fun i:Nat=>Oo (0+(i:Int)))=_
  rw[Int.sub_zero,kg]
  exact oA fun i U=>congrArg Oo (Int.zero_add _)⟩
noncomputable def qj(Φ:List FEntry)(ifs:IX)(ρ:List SV)(b:Bool):Prop:=kB Φ ifs ρ/\dH Φ ifs ρ=b
noncomputable def qk(Φ:List FEntry)(e:IX)(ρ:List SV)(l:List NR):Prop:=mw Φ e ρ/\ft Φ e ρ=l
theorem uh:qj Φ .nil ρ true:=⟨trivial,rfl⟩
theorem uj(h:Ok Φ q ρ (.bool b)):qj Φ (.cons q .nil) ρ b :=
 ⟨⟨h.1,by rw[h.2];rfl,fun U=>trivial⟩,by show(aq (den Φ q ρ)&&true)=b;rw[h.2,Bool.and_true];rfl⟩
theorem ql(h:Ok Φ e ρ d):qk Φ (.emit e) ρ [d]:=⟨h.1,congrArg (·::[]) h.2⟩
theorem uk{α:Type}{F:NR->List NR}{g:α->NR}{f:α->List NR}:∀ {xs:List α},(∀x∈xs,F (g x)=f x)->(xs.map g).flatMap F=xs.flatMap f
 | [],_=>rfl
 | x::xs,h=>by rw[aQ,BJ,BJ,uk fun y hy=>h y (ay _ hy),h x ag]
section
variable{α:Type}{n:Nat}{tup:Bool}{slots:List Nat}{it ifs rest:IX}{xs:List α}{g f:α->NR}{c:α->Bool}{F:α->List NR}
theorem qm(hi:e8 Φ it ρ (xs.map g))(hb:∀x∈xs,bindP tup slots (g x))(ht:∀x∈xs,qj Φ ifs (ao tup slots (g x) (ρ++cg n .un)) (c x))
 (hr:∀x∈xs,c x=true->qk Φ rest (ao tup slots (g x) (ρ++cg n .un)) (F x)) (hl:(xs.flatMap fun x=>if c x=true then F x else[]).length<=16000000) :
 Ok Φ (.comp n tup slots it ifs rest) ρ (.list (xs.flatMap fun x=>if c x=true then F x else[])):=by
 have key:((bX Φ it ρ).flatMap fun d=>if dH Φ ifs (ao tup slots d (ρ++cg n .un))=true then ft Φ rest (ao tup slots d (ρ++cg n .un))else[])=xs.flatMap fun x=>if c x=true then F x else[]:=by
  rw[hi.2]
  refine uk fun x hx=>?_
  rw[(ht x hx).2]
  cases hc:c x with
  | false=>rfl
  | true=>exact(hr x hx hc).2
 refine⟨⟨HQ hi.1,fun d hd=>?_,?_⟩,congrArg PU key⟩
 ·rw[hi.2]at hd
  refine x12 (aJ.mp hd) fun x hx e2=>?_;subst e2
  refine⟨hb x hx,(ht x hx).1,fun h=>?_⟩
  rw[(ht x hx).2]at h
  exact(hr x hx h).1
 ·rw[key];exact hl
theorem zt(hi:e8 Φ it ρ (xs.map g))(hb:∀x∈xs,bindP tup slots (g x))(ht:∀x∈xs,qj Φ ifs (ao tup slots (g x) ρ) (c x))(hr:∀x∈xs,c x=true->qk Φ rest (ao tup slots (g x) ρ) (F x)) :
 qk Φ (.gen tup slots it ifs rest) ρ (xs.flatMap fun x=>if c x=true then F x else[]):=by
 refine⟨⟨hi.1,fun d hd=>?_⟩,?_⟩
 ·rw[hi.2]at hd
  refine x12 (aJ.mp hd) fun x hx e2=>?_;subst e2
  refine⟨hb x hx,(ht x hx).1,fun h=>?_⟩
  rw[(ht x hx).2]at h
  exact(hr x hx h).1
 ·show((bX Φ it ρ).flatMap fun d=>if dH Φ ifs (ao tup slots d ρ)=true then ft Φ rest (ao tup slots d ρ)else[])=_
  rw[hi.2]
  refine uk fun x hx=>?_
  rw[(ht x hx).2]
  cases hc:c x with
  | false=>rfl
  | true=>exact(hr x hx hc).2
theorem ln:∀xs:List α,(xs.flatMap fun x=>if c x=true then[f x]else[])=(xs.filter c).map f
 | []=>rfl
 | x::xs=>by
  rw[BJ,ln xs,oB]
  cases c x<;>rfl
theorem zu{q e:IX}(hi:e8 Φ it ρ (xs.map g))(hb:∀x∈xs,bindP tup slots (g x))(hq:∀x∈xs,Ok Φ q (ao tup slots (g x) (ρ++cg n .un)) (.bool (c x)))
 (he:∀x∈xs,c x=true->Ok Φ e (ao tup slots (g x) (ρ++cg n .un)) (f x)) (hl:xs.length<=16000000):Ok Φ (.comp n tup slots it (.cons q .nil) (.emit e)) ρ (.list ((xs.filter c).map f)):=by
 rw[<- ln]
 exact qm hi hb (fun x hx=>uj (hq x hx)) (fun x hx hc=>ql (he x hx hc)) (by rw[ln,af];exact ae (j7 ..) hl)
theorem zv(hi:e8 Φ it ρ (xs.map g))(hb:∀x∈xs,bindP tup slots (g x))(he:∀x∈xs,Ok Φ e (ao tup slots (g x) (ρ++cg n .un)) (f x))(hl:xs.length<=16000000):Ok Φ (.comp n tup slots it .nil (.emit e)) ρ (.list (xs.map f)):=by
 have:=qm (c:=fun U=>true) (F:=fun x=>[f x]) (rest:=.emit e) hi hb (fun x U=>uh) (fun x hx U=>ql (he x hx))
 rw[ln,Nq.mpr fun U U=>rfl,af]at this
 exact this hl
theorem qo{slot:Nat}{q e:IX}(hi:e8 Φ it ρ (xs.map g))
 (hq:∀x∈xs,Ok Φ q (ao false [slot] (g x) (ρ++cg n .un)) (.bool (c x))) (he:∀x∈xs,c x=true->Ok Φ e (ao false [slot] (g x) (ρ++cg n .un)) (f x)) (hl:xs.length<=16000000) :
 Ok Φ (.comp n false [slot] it (.cons q .nil) (.emit e)) ρ (.list ((xs.filter c).map f)):=zu hi (fun U U=>rfl) hq he hl
theorem HR{slot:Nat}{e:IX}(hi:e8 Φ it ρ (xs.map g))
 (he:∀x∈xs,Ok Φ e (ao false [slot] (g x) (ρ++cg n .un)) (f x)) (hl:xs.length<=16000000) :
 Ok Φ (.comp n false [slot] it .nil (.emit e)) ρ (.list (xs.map f)):=zv hi (fun U U=>rfl) he hl
end
noncomputable def aB(Φ:List FEntry)(S:SX)(ρ:List SV)(fl:Fl)(R:List SV->Prop):Prop:=bf Φ S ρ/\∃ρ',au Φ S ρ=(fl,ρ')/\R ρ'
variable{fl:Fl}{R:List SV->Prop}{r:SX}
theorem dN(h:R ρ):aB Φ .skip ρ .next R:=⟨trivial,ρ,rfl,h⟩
theorem eN(hp:p.pre ρ)(hd:p.den ρ=(.next,ρ1))(h:aB Φ r ρ1 fl R):aB Φ (.prim p r) ρ fl R:=by
 obtain⟨h1,ρ',h2,h3⟩:=h
 exact⟨⟨hp,fun ρ2 e=>by rw[hd]at e;cases e;exact h1⟩,ρ',by show eV (p.den ρ) (au Φ r)=_;rw[hd];exact h2,h3⟩
theorem c6(h:Ok Φ e ρ d)(k:aB Φ r (ρ.set i (.dat d)) fl R):aB Φ (.prim (cn Φ i e) r) ρ fl R :=
 eN h.1 (by show(Fl.next,ρ.set i (.dat (den Φ e ρ)))=_;rw[h.2]) k
theorem lp(h:Ok Φ e ρ d)(hR:∀ρ,R ρ):aB Φ (.prim (eW Φ e) r) ρ (.ret d) R :=
 ⟨⟨h.1,fun ρ2 e=>nomatch e⟩,ρ,by show(Fl.ret (den Φ e ρ),ρ)=_;rw[h.2],hR _⟩
theorem qp{S:SX}(hx:x=(.next,ρ1))(h:aB Φ r ρ1 fl R):(∀ρ',x=(.next,ρ')->bf Φ r ρ')/\∃ρ',eV x (au Φ r)=(fl,ρ')/\R ρ':=by
 subst hx
 obtain⟨h1,ρ',h2,h3⟩:=h
 exact⟨fun ρ2 e=>by cases e;exact h1,ρ',h2,h3⟩
theorem ul(hc:Ok Φ c ρ (.bool t))(ha:t=true->aB Φ a ρ .next R1)(hb:t=false->aB Φ b ρ .next R1)(k:∀ρ1,R1 ρ1->aB Φ r ρ1 fl R):aB Φ (.ite c a b r) ρ fl R:=by
 have ht:aq (den Φ c ρ)=t:=by rw[hc.2];rfl
 have hx:∃ρ1,(if aq (den Φ c ρ)=true then au Φ a ρ else au Φ b ρ)=(.next,ρ1)/\R1 ρ1:=by
  rw[ht]
  cases t with
  | true=>exact(ha rfl).2
  | false=>exact(hb rfl).2
 refine x12 hx fun ρ1 e1 h1=>?_
 refine aj (qp (S:=a) e1 (k ρ1 h1)) fun k1 k2=>?_
 exact⟨⟨hc.1,by rw[hc.2];rfl,fun q=>(ha (ht.symm.trans q)).1,fun q=>(hb (ht.symm.trans q)).1,k1⟩,k2⟩
end
section
variable{Ψ Φ:List FEntry}{ρ:List SV}{fl:Fl}{R:List SV->Prop}{r:SX}
theorem HS{n i:Nat}{body:SX}{g:Nat->NR}{Inv:Nat->List SV->Prop}(hi:e8 Φ it ρ ((dj n).map g))(h0:Inv 0 ρ)
 (hb:∀k ρ,k<n->Inv k ρ->aB Φ body (ao false [i] (g k) ρ) .next (Inv (k+1))\/∃d,fl=.ret d/\aB Φ body (ao false [i] (g k) ρ) (.ret d) R)
 (k:∀ρ1,Inv n ρ1->aB Φ r ρ1 fl R):aB Φ (.for false [i] it body r) ρ fl R:=by
 have key:∀(m k:Nat) (ρ:List SV),k+m=n->Inv k ρ ->
  fX (fun d ρ=>bindP false [i] d/\bf Φ body (ao false [i] d ρ)) (fun d ρ=>au Φ body (ao false [i] d ρ)) ((List.range' k m).map g) ρ /\
  ((∃ρ',bQ (fun d ρ=>au Φ body (ao false [i] d ρ)) ((List.range' k m).map g) ρ=(.next,ρ')/\Inv n ρ')\/∃d,fl=.ret d/\∃ρ',bQ (fun d ρ=>au Φ body (ao false [i] d ρ)) ((List.range' k m).map g) ρ=(.ret d,ρ')/\R ρ'):=by
  intro m
  induction m with
  | zero=>exact fun k ρ e h=>⟨trivial,.inl ⟨ρ,rfl,e▸h⟩⟩
  | succ m ih =>
   intro k ρ e h
   rw[List.range'_succ,aQ,pu,mI]
   rcases hb k ρ (by lia) h with⟨p,ρ',q,h'⟩ | ⟨d,ed,p,ρ',q,h'⟩
   ·rw[q]
    have:=ih (k+1) ρ' (by lia) h'
    exact⟨⟨⟨rfl,p⟩,this.1⟩,this.2⟩
   ·rw[q]
    exact⟨⟨⟨rfl,p⟩,trivial⟩,.inr ⟨d,ed,ρ',rfl,h'⟩⟩
 refine aj (key n 0 ρ (oR n) h0) fun k1 k2=>?_
 rw[<- List.range_eq_range',<- hi.2]at k1 k2
 rcases k2 with⟨ρ',e,h'⟩ | ⟨d,ed,ρ',e,h'⟩
 ·refine aj (qp (S:=body) e (k ρ' h')) fun m1 m2=>?_
  exact⟨⟨hi.1,k1,m1⟩,m2⟩
 ·subst ed
  refine⟨⟨hi.1,k1,fun ρ2 q=>?_⟩,ρ',?_,h'⟩
  ·rw[e]at q;cases q
  ·show eV (bQ _ _ _) _=_
   rw[e];rfl
theorem HT(hc:Ok Φ c ρ (.bool false))(k:aB Φ r ρ fl R):aB Φ (.ite c a .skip r) ρ fl R :=
 ul (R1:=fun ρ1=>ρ1=ρ) hc (fun h=>nomatch h) (fun U=>dN rfl) fun ρ1 e=>e▸k
noncomputable def jg(Ψ Φ:List FEntry)(e:EX)(ρ:List SV)(d:NR):Prop:=gc Ψ Φ e ρ/\bC Ψ Φ e ρ=d
theorem qq(hl:eH Φ es ρ/\bL Φ es ρ=ds)(hp:(Ψ.getD f .nope).pre ds)(hv:(Ψ.getD f .nope).val ds=d):jg Ψ Φ (.rc f es) ρ d :=
 ⟨⟨hl.1,hl.2▸hp⟩,by show(Ψ.getD f .nope).val (bL Φ es ρ)=d;rw[hl.2];exact hv⟩
theorem HU(hc:sX Ψ Φ c ρ)(ht:gN Ψ Φ c ρ=false)(k:aB Φ r ρ fl R):aB Φ (.prim (jQ Ψ Φ c a .skip) r) ρ fl R:=by
 refine eN (ρ1:=ρ) ⟨hc,fun h=>absurd (ht.symm.trans h) MY,fun U=>trivial⟩ ?_ k
 show(if gN Ψ Φ c ρ=true then au Φ a ρ else au Φ .skip ρ)=_
 rw[ht];rfl
theorem HV(h:jg Ψ Φ e ρ (.bool true))(k:aB Φ r ρ fl R):aB Φ (.prim (jQ Ψ Φ (.cmp .IsNot e (.ix (.lit (.bool true)))) a .skip) r) ρ fl R :=
 HU ⟨h.1,trivial,by rw[h.2];trivial⟩ (by show iS .IsNot (bC Ψ Φ e ρ) (.bool true)=_;rw[h.2];rfl) k
theorem zw(h0:ρ.getD i .un=.own (.list l))(hl:l.length<=16777216)(h:Ok Φ e ρ d)(hD : .list (l++[d])=D)(k:aB Φ r (ρ.set i (.own D)) fl R):aB Φ (.prim (gG Φ i e) r) ρ fl R :=
 eN ⟨by rw[h0];trivial,h.1,by rw[h0];exact hl⟩ (by show(Fl.next,ρ.set i (.own (.list (ei (ρ.getD i .un)++[den Φ e ρ]))))=_;rw[h0,h.2,<- hD];rfl) k
theorem HW(h:Ok Φ e ρ d)(h':Ok Φ f ρ d')(k:aB Φ r ((ρ.set i (.dat d)).set j (.dat d')) fl R):aB Φ (.prim (kL Φ [i,j] [(false,e),(false,f)]) r) ρ fl R :=
 eN ⟨⟨h.1,h'.1,trivial⟩,oC rfl⟩ (by show(Fl.next,(ρ.set i (.dat (den Φ e ρ))).set j (.dat (den Φ f ρ)))=_;rw[h.2,h'.2]) k
end
section
variable{α:Type}[BEq α]
noncomputable def iB(x:α):List α->Option (List α)
 | []=>none
 | y::r=>if(y==x)=true then some r else(iB x r).map (y::·)
theorem um{x y:α}{r:List α}:iB x (y::r)=if(y==x)=true then some r else(iB x r).map (y::·):=rfl
noncomputable def dZ:List α->List α->List α
 | acc,[]=>acc
 | acc,d::ds=>dZ (if(acc.any fun y=>y==d)=true then acc else acc++[d]) ds
theorem zx{acc ds:List α}{d:α}:dZ acc (d::ds)=dZ (if(acc.any fun y=>y==d)=true then acc else acc++[d]) ds:=rfl
noncomputable def iC:List α->List α->Option (List α)
 | [],t=>some t
 | x::xs,t=>(iB x t).bind (iC xs)
theorem uo{x:α}{xs t:List α}:iC (x::xs) t=(iB x t).bind (iC xs):=rfl
noncomputable def jX(a b:List α):Bool:=match iC (dZ [] a) (dZ [] b)with
 | some []=>true
 | _=>false
variable{g:α->NR}(hg:∀x y,Oa (g x) (g y)=(x==y))
include hg
theorem zy(x:α):∀l:List α,c5 (g x) (l.map g)=(iB x l).map (List.map g)
 | []=>rfl
 | y::l=>by
  rw[aQ,yq,um,hg,zy x l]
  cases y==x
  ·show Qs _ (Qs _ _)=Qs _ (Qs _ _);rw[Ni,Ni];rfl
  ·rfl
theorem zz:∀(l t:List α),gO (l.map g) (t.map g)=(iC l t).map (List.map g)
 | [],_=>rfl
 | x::l,t=>by
  rw[aQ,tI,uo,zy hg]
  cases iB x t with
  | none=>rfl
  | some r=>exact zz l r
theorem qr:∀(l acc:List α),bh (acc.map g) (l.map g)=(dZ acc l).map g
 | [],_=>rfl
 | x::l,acc=>by
  rw[aQ,tH,zx,List.any_map,show((fun y=>Oa y (g x)) ∘ g)=fun y=>y==x from funext fun y=>hg y x]
  cases acc.any fun y=>y==x
  ·exact(congrArg (fun z=>bh z _) (by rw[c8];rfl)).trans (qr l (acc++[x]))
  ·exact qr l acc
theorem zA(a b:List α):kZ.val [.list (a.map g),.list (b.map g)]=.bool (jX a b):=by
 show Pi (m9 (bh [] (a.map g)) (bh [] (b.map g)))=_
 rw[show bh [] (a.map g)=(dZ [] a).map g from qr hg a [],show bh [] (b.map g)=(dZ [] b).map g from qr hg b []]
 unfold m9 jX
 rw[zz hg]
 cases iC (dZ [] a) (dZ [] b)with
 | none=>rfl
 | some l=>cases l<;>rfl
end
theorem qs{α:Type}{f:α->NR}{k:Nat}:∀ {l:List α},(∀x∈l,(f x).canLay0=true/\(f x).depth<=k)->OC (l.map f)=true/\QC (l.map f)<=k
 | [],_=>⟨rfl,cj _⟩
 | x::l,h=>by
  have h1:=h x ag
  have h2:=qs (l:=l) fun y hy=>h y (ay _ hy)
  rw[aQ,OC,QC,h1.1,h2.1]
  exact⟨rfl,Nat.max_le.mpr ⟨h1.2,h2.2⟩⟩
theorem zB(l:List Nat):OC (l.map iD)=true/\QC (l.map iD)<=0:=qs fun U U=>⟨rfl,bM _⟩
theorem HX(h:OC ds=true/\QC ds<=k)(hk:k<=31):bV (.list ds):=⟨h.1,Np (ae h.2 hk)⟩
theorem ny(i:Int):bV (.int i):=⟨rfl,cj _⟩
theorem HY{α:Type}{f:Nat->α}{n k:Nat}{d:α}(h:k<n):((dj n).map f).getD k d=f k:=by
 rw[av,cu,List.getElem?_range h];rfl
theorem zC(x y:Nat):Oa (iD x) (iD y)=(x==y):=by
 show(((x:Int))==((y:Int)))=(x==y)
 rw[lS,beq_iff_eq,beq_iff_eq];exact NH
section
variable{Φ:List FEntry}{ρ:List SV}{a b:IX}
theorem HZ(ha:pre Φ a true ρ/\den Φ a ρ=.list ds)(hi:Ok Φ b ρ (iD k))(hk:k<ds.length)(h6:ds.length<=1000000)(hd:ds.getD k .none=d):Ok Φ (.sub a b) ρ d:=by
 refine⟨⟨ha.1,hi.1,?_⟩,?_⟩
 ·rw[ha.2,hi.2]
  show -1000000000<=(k:Int)/\(k:Int)<=1000000000/\-(ds.length:Int)<=k/\(k:Int)<ds.length
  lia
 ·show jv (den Φ a ρ) (den Φ b ρ)=d
  rw[ha.2,hi.2,<- hd]
  show ds.getD (if(k:Int)<0 then _ else(k:Int).toNat) _=_
  rw[if_neg (by lia),kg]
theorem uq(ha:Ok Φ a ρ (.list ds))(hi:Ok Φ b ρ (iD k))(hk:k<ds.length)(h6:ds.length<=1000000)(hd:ds.getD k .none=d):Ok Φ (.sub a b) ρ d:=HZ ⟨cC ha.1,ha.2⟩ hi hk h6 hd
theorem jh(ha:Ok Φ a ρ (.list ds))(h:ds.length<=16777216):Ok Φ (.len a) ρ (iD ds.length):=by
 refine⟨⟨cC ha.1,by rw[ha.2];exact h⟩,?_⟩
 show Oo (iT (den Φ a ρ))=_
 rw[ha.2];rfl
theorem ur(ha:Ok Φ a ρ (.list xs))(hb:Ok Φ b ρ (.list ys))(h:xs.length+ys.length<=16777216):Ok Φ (.bin .Add a b) ρ (.list (xs++ys)):=by
 refine⟨⟨ha.1,hb.1,by rw[ha.2,hb.2];exact⟨rfl,h⟩⟩,?_⟩
 show fq .Add (den Φ a ρ) (den Φ b ρ)=_
 rw[ha.2,hb.2];rfl
theorem jY(hl:eH Φ es ρ/\bL Φ es ρ=ds)(hp:(Φ.getD f .nope).pre ds)(hv:(Φ.getD f .nope).val ds=d):Ok Φ (.call f es) ρ d :=
 ⟨⟨hl.1,hl.2▸hp⟩,by show(Φ.getD f .nope).val (bL Φ es ρ)=d;rw[hl.2];exact hv⟩
theorem jZ(ha:Ok Φ a ρ d):eH Φ (.cons a .nil) ρ/\bL Φ (.cons a .nil) ρ=[d]:=⟨⟨ha.1,trivial⟩,congrArg (·::[]) ha.2⟩
theorem lq(ha:Ok Φ a ρ d)(hb:Ok Φ b ρ d'):eH Φ (.cons a (.cons b .nil)) ρ/\bL Φ (.cons a (.cons b .nil)) ρ=[d,d']:=⟨⟨ha.1,hb.1,trivial⟩,by show[den Φ a ρ,den Φ b ρ]=_;rw[ha.2,hb.2]⟩
end
theorem H0{ds:List NR}{k:Nat}(ha:Ok Φ a ρ (.list ds))(h:ds.length<=16777216):Ok Φ (.slice a .nil (.cons (.lit (.int k)) .nil)) ρ (.list (ds.take k)):=by
 refine⟨⟨cC ha.1,trivial,trivial,by rw[ha.2];exact⟨h,rfl,rfl⟩⟩,?_⟩
 show jw (den Φ a ρ) .none (.int k)=_
 rw[ha.2]
 show PU ((ds.drop 0).take (Pg ds.length (k:Int) - 0))=_
 rw[ml,Nat.sub_zero,List.drop_zero,<- List.take_eq_take_min]
theorem ut{α β:Type}{f g:α->List β}:∀ {l:List α},(∀x∈l,f x=g x)->l.flatMap f=l.flatMap g
 | [],_=>rfl
 | x::l,h=>by rw[BJ,BJ,h x ag,ut fun y hy=>h y (ay _ hy)]
section
variable{α:Type}[BEq α][LawfulBEq α]
theorem zD:∀ {t:List α},x∈t->∃r,iB x t=some r/\(∀y,y∈t↔y=x\/y∈r)/\(t.Nodup->r.Nodup/\x∉r)
 | y::t,h=>by
  rw[um]
  by_cases q:(y==x)=true
  ·rw[if_pos q]
   cases NY q
   exact⟨t,rfl,fun z=>aa,fun n=>let c:=bq.mp n;⟨c.2,c.1⟩⟩
  ·rw[if_neg q]
   have hx:x∈t:=(aa.mp h).resolve_left fun e=>q (beq_iff_eq.mpr e.symm)
   refine x13 (zD hx) fun r e h1 h2=>?_
   refine⟨y::r,by rw[e];rfl,fun z=>?_,fun n=>?_⟩
   ·rw[aa,aa,h1 z];exact or_left_comm
   ·refine aj (bq.mp n) fun c1 c2=>?_
    refine aj (h2 c2) fun d1 d2=>?_
    exact⟨bq.mpr ⟨fun z=>c1 ((h1 y).mpr (.inr z)),d1⟩,fun z=>(aa.mp z).elim (fun e=>q (beq_iff_eq.mpr e.symm)) d2⟩
theorem zE:∀ {t:List α},x∉t->iB x t=none
 | [],_=>rfl
 | y::t,h=>by
  rw[um]
  rw[if_neg fun q:(y==x)=true=>h (aa.mpr (.inl (NY q).symm)),zE fun z=>h (ay _ z)];rfl
theorem zF:∀ {l t:List α},l.Nodup->t.Nodup->(iC l t=some []↔∀x,x∈l↔x∈t)
 | [],t,_,_=>⟨fun h=>by cases h;exact fun x=>Iff.rfl,fun h=>congrArg some (List.eq_nil_iff_forall_not_mem.mpr fun x hx=>nomatch (h x).mpr hx)⟩
 | x::l,t,hl,ht=>by
  refine aj (bq.mp hl) fun c1 c2=>?_
  by_cases hx:x∈t
  ·refine x13 (zD hx) fun r e h1 h2=>?_
   refine aj (h2 ht) fun d1 d2=>?_
   rw[uo]
   rw[e]
   refine(zF c2 d1).trans ⟨fun h y=>?_,fun h y=>?_⟩
   ·rw[aa,h1 y,h y]
   ·have:=h y
    rw[aa,h1 y]at this
    exact⟨fun q=>(this.mp (.inr q)).resolve_left fun z=>c1 (z▸q),fun q=>(this.mpr (.inr q)).resolve_left fun z=>d2 (z▸q)⟩
  ·rw[uo]
   rw[zE hx]
   exact⟨fun h=>(nomatch h),fun h=>absurd ((h x).mp ag) hx⟩
theorem qt:∀(l acc:List α),acc.Nodup->(dZ acc l).Nodup/\∀x,x∈dZ acc l↔x∈acc\/x∈l
 | [],acc,h=>⟨h,fun x=>(or_iff_left fun z=>nomatch z).symm⟩
 | d::l,acc,h=>by
  rw[zx]
  by_cases q:(acc.any fun y=>y==d)=true
  ·rw[if_pos q]
   refine x12 (dP.mp q) fun y h1 h2=>?_
   cases NY h2
   refine aj (qt l acc h) fun a b=>?_
   refine⟨a,fun x=>(b x).trans ?_⟩
   rw[aa]
   exact⟨fun z=>z.imp id .inr,fun z=>z.elim .inl fun z=>z.elim (fun e=>.inl (e▸h1)) .inr⟩
  ·rw[if_neg q]
   have hd:d∉acc:=fun z=>q (dP.mpr ⟨d,z,beq_self_eq_true d⟩)
   refine aj (qt l (acc++[d]) (c7.mpr ⟨h,bq.mpr ⟨fun z=>(nomatch z),Nj⟩,fun x hx y hy e=>hd (by rw[<- ah.mp hy,<- e];exact hx)⟩)) fun a b=>?_
   refine⟨a,fun x=>(b x).trans ?_⟩
   rw[aI,ah,aa];exact or_assoc
theorem zG{a b:List α}:jX a b=true↔∀x,x∈a↔x∈b:=by
 have ha:=qt a [] Nj
 have hb:=qt b [] Nj
 have key:=zF ha.1 hb.1
 have e:jX a b=true↔iC (dZ [] a) (dZ [] b)=some []:=by
  unfold jX
  cases iC (dZ [] a) (dZ [] b)with
  | none=>exact⟨fun h=>(nomatch h),fun h=>nomatch h⟩
  | some l=>cases l with
   | nil=>exact⟨fun U=>rfl,fun U=>rfl⟩
   | cons=>exact⟨fun h=>(nomatch h),fun h=>nomatch h⟩
 rw[e,key]
 refine forall_congr' fun x=>?_
 rw[ha.2 x,hb.2 x]
 simp
end
noncomputable def j0(l:List Nat):Nat:=l.foldr (fun x c=>Nat.lor (Nat.pow 2 x) c) 0
theorem gU(x:Nat):∀l:List Nat,(j0 l).testBit x=true↔x∈l
 | []=>by show Nat.testBit 0 x=true↔_;rw[gM];exact⟨fun h=>(nomatch h),fun h=>nomatch h⟩
 | y::l=>by
  show(2 ^ y ||| j0 l).testBit x=true↔_
  rw[M5,sg,gU x l,Nt,decide_eq_true_eq,aa,eq_comm]
section
variable{S:Nat->List Nat}{N:Nat}
end
end
section

noncomputable def aU(c d:Nat):Bool:=(d &&& c)==c
theorem e9:aU c d=true↔∀i,c.testBit i=true->d.testBit i=true:=by
 unfold aU
 rw[beq_iff_eq]
 refine⟨fun h i hi=>?_,fun h=>Nd fun i=>?_⟩
 ·have:(d &&& c).testBit i=c.testBit i:=congrArg (·.testBit i) h
  rw[Nat.testBit_and,hi,Bool.and_true]at this;exact this
 ·rw[Nat.testBit_and]
  cases e:c.testBit i with
  | false=>exact Bool.and_false _
  | true=>rw[h i e];rfl
theorem uu:aU (a ||| c) d=(aU a d&&aU c d):=by
 rw[lS,e7,e9,e9,e9]
 refine⟨fun h=>⟨fun i hi=>h i (by rw[M5,hi];rfl),fun i hi=>h i (by rw[M5,hi,Bool.or_true])⟩,fun h i hi=>?_⟩
 rw[M5,sg]at hi
 exact hi.elim (h.1 i) (h.2 i)
noncomputable abbrev DN:=List (Nat × Int)
noncomputable def aD(l:DN):List Nat:=l.map (·.1)
noncomputable def ex(l:DN)(k:Nat)(v:Int):DN:=if l.any (fun q=>q.1=k)then l.map (fun q=>if q.1=k then(q.1,v)else q)else l++[(k,v)]
noncomputable def a9(l:DN)(k:Nat):Int:=((l.find? fun q=>q.1=k).map (·.2)).getD 0
theorem zH(h:k∉aD l1):a9 (l1++(k,u)::l2) k=u:=by
 unfold a9
 rw[List.find?_append,MZ.mpr fun q hq e=>h (aJ.mpr ⟨q,hq,of_decide_eq_true e⟩),L8]
 show((none.or (match decide (k=k)with | true=>_ | false=>_)).map _).getD 0=u
 rw[decide_eq_true rfl];rfl
theorem H1(h:k∉aD l):a9 l k=0:=by
 unfold a9
 rw[MZ.mpr fun q hq e=>h (aJ.mpr ⟨q,hq,of_decide_eq_true e⟩)];rfl
theorem zI(h:k∉aD l):ex l k v=l++[(k,v)] :=
 if_neg fun q=>x12 (dP.mp q) fun p h1 h2=>h (aJ.mpr ⟨p,h1,of_decide_eq_true h2⟩)
theorem zJ(h:k∉aD l):l.map (fun q=>if q.1=k then(q.1,v)else q)=l:=by
 induction l with
 | nil=>rfl
 | cons q l ih=>rw[aQ,ih fun z=>h (ay _ z),if_neg fun e=>h (aa.mpr (.inl e.symm))]
inductive Spl(l:DN)(k:Nat):Prop where
 | mk (l1 l2:DN) (u:Int) (e:l=l1++(k,u)::l2) (h:∀v,ex l k v=l1++(k,v)::l2) (hv:a9 l k=u):Spl l k
theorem uv(n:(aD l).Nodup)(h:k∈aD l):Spl l k:=by
 refine x12 (aJ.mp h) fun q hq e=>?_
 refine x21 (List.append_of_mem hq) fun l1 l2 e2=>?_
 obtain⟨a,u⟩:=q
 dsimp only at e
 subst e
 subst e2
 unfold aD at n
 rw[c8,aQ]at n
 refine cT (c7.mp n) fun n1 n2 n3=>?_
 have h1:a∉aD l1:=fun z=>n3 a z a ag rfl
 have h2:a∉aD l2:=(bq.mp n2).1
 refine⟨l1,l2,u,rfl,fun v=>?_,zH h1⟩
 unfold ex
 rw[if_pos (dP.mpr ⟨_,hq,decide_eq_true rfl⟩),c8,aQ,if_pos rfl,zJ h1,zJ h2]
theorem H2(n:(aD l).Nodup):(aD (ex l k v)).Nodup/\∀x,x∈aD (ex l k v)↔x∈aD l\/x=k:=by
 by_cases h:k∈aD l
 ·obtain⟨l1,l2,u,e,hp,hv⟩:=uv n h
  have ek:aD (ex l k v)=aD l:=by rw[hp,e];unfold aD;rw[c8,c8];rfl
  rw[ek]
  exact⟨n,fun x=>⟨.inl,fun z=>z.elim id fun e=>e▸h⟩⟩
 ·rw[zI h]
  unfold aD
  rw[c8]
  exact⟨c7.mpr ⟨n,bq.mpr ⟨fun z=>(nomatch z),Nj⟩,fun x hx y hy e=>h (by rw[<- (ah.mp hy:y=k),<- e];exact hx)⟩,fun x=>by rw[aI];exact or_congr Iff.rfl ah⟩
noncomputable def SD(l:DN)(D:Nat):Int:=(l.map fun q=>if aU q.1 D=true then q.2 else 0).sum
theorem uw(a b:DN)(D:Nat):SD (a++b) D=SD a D+SD b D:=by unfold SD;rw[c8,Ny]
theorem qu(q:Nat × Int)(b:DN)(D:Nat):SD (q::b) D=(if aU q.1 D=true then q.2 else 0)+SD b D:=by unfold SD;rw[aQ,BA]
theorem H3(n:(aD l).Nodup)(D:Nat):SD (ex l k (a9 l k - v)) D=SD l D - if aU k D=true then v else 0:=by
 by_cases h:k∈aD l
 ·obtain⟨l1,l2,u,e,hp,hv⟩:=uv n h
  rw[hp,hv,e,uw,uw,qu,qu]
  dsimp only
  split<;>lia
 ·rw[zI h,H1 h,uw,qu]
  dsimp only
  rw[show SD [] D=0 from rfl]
  split<;>lia
noncomputable def iE(c:Nat)(o:DN):DN:=(aD o).foldl (fun w p=>ex w (p ||| c) (a9 w (p ||| c) - a9 o p)) o
noncomputable def bZ(cs:List Nat):DN:=cs.foldl (fun o c=>iE c o) [(0,-1)]
theorem H4(n:(aD o).Nodup)(h:q∈o):a9 o q.1=q.2:=by
 obtain⟨l1,l2,e⟩:=List.append_of_mem h
 subst e
 unfold aD at n
 rw[c8,aQ]at n
 exact zH fun z=>(c7.mp n).2.2 q.1 z q.1 ag rfl
theorem zK(n:(aD o).Nodup)(D:Nat):((aD o).map fun p=>if aU p D=true then a9 o p else 0).sum=SD o D:=by
 unfold SD aD
 rw[fk]
 exact congrArg List.sum (oA fun q hq=>by show(if aU q.1 D=true then a9 o q.1 else 0)=_;rw[H4 n hq])
structure FoldO(o w w':DN)(c:Nat)(ps:List Nat):Prop where
 nd:(aD w').Nodup
 ky:∀x,x∈aD w'↔x∈aD w\/∃p∈ps,x=p ||| c
 s:∀D,SD w' D=SD w D - (ps.map fun p=>if aU (p ||| c) D=true then a9 o p else 0).sum
theorem ux(o:DN)(c:Nat):∀(ps:List Nat) (w:DN),(aD w).Nodup->FoldO o w (ps.foldl (fun w p=>ex w (p ||| c) (a9 w (p ||| c) - a9 o p)) w) c ps
 | [],w,n=>⟨n,fun x=>⟨.inl,fun z=>z.elim id fun⟨p,h,_⟩=>nomatch h⟩,fun D=>(Int.sub_zero _).symm⟩
 | p::ps,w,n=>by
  have k:=H2 (k:=p ||| c) (v:=a9 w (p ||| c) - a9 o p) n
  have f:=ux o c ps _ k.1
  refine⟨f.nd,fun x=>?_,fun D=>?_⟩
  ·rw[NK,f.ky x,k.2 x]
   refine⟨fun h=>?_,fun h=>?_⟩
   ·rcases h with(h | h) | ⟨q,hq,e⟩
    ·exact .inl h
    ·exact .inr ⟨p,ag,h⟩
    ·exact .inr ⟨q,ay _ hq,e⟩
   ·rcases h with h | ⟨q,hq,e⟩
    ·exact .inl (.inl h)
    ·rcases aa.mp hq with rfl | hq
     ·exact .inl (.inr e)
     ·exact .inr ⟨q,hq,e⟩
  ·rw[NK,f.s D,H3 n,aQ,BA];lia
structure OI(cs:List Nat)(o:DN):Prop where
 nd:(aD o).Nodup
 s:∀D,SD o D=if(cs.any fun c=>aU c D)=true then 0 else -1
 cov:∀m∈aD o,∀i,m.testBit i=true->∃c∈cs,aU c m=true/\c.testBit i=true
 z:0∈aD o
 un:cs.foldl (· ||| ·) 0∈aD o
theorem qv{α:Type}{f:α->Int}:∀ {l:List α},(∀x∈l,f x=0)->(l.map f).sum=0
 | [],_=>rfl
 | x::l,h=>by rw[aQ,BA,h x ag,qv fun y hy=>h y (ay _ hy)];rfl
theorem OI.step{cs:List Nat}{o:DN}{c:Nat}(h:OI cs o):OI (cs++[c]) (iE c o):=by
 have f:=ux o c (aD o) o h.nd
 refine⟨f.nd,fun D=>?_,fun m hm i hi=>?_,(f.ky 0).mpr (.inl h.z),?_⟩
 ·rw[show SD (iE c o) D=_ from f.s D,List.any_append,List.any_cons,List.any_nil,QA]
  cases hc:aU c D with
  | false =>
   rw[qv fun p U=>by rw[uu,hc,Bool.and_false];rfl,QA,h.s D];lia
  | true =>
   rw[show((aD o).map fun p=>if aU (p ||| c) D=true then a9 o p else 0)=(aD o).map fun p=>if aU p D=true then a9 o p else 0 from oA fun p U=>by rw[uu,hc,Bool.and_true],
    zK h.nd,Bool.or_true,if_pos rfl];lia
 ·rcases(f.ky m).mp hm with hm | ⟨p,hp,e⟩
  ·exact x13 (h.cov m hm i hi) fun c' h1 h2 h3=>⟨c',cQ _ h1,h2,h3⟩
  ·subst e
   rw[M5,sg]at hi
   have up:∀a,aU a p=true\/a=c->aU a (p ||| c)=true:=fun a z=>e9.mpr fun i hi=>by
    rw[M5]
    rcases z with z | z
    ·rw[e9.mp z i hi];rfl
    ·rw[<- z,hi,Bool.or_true]
   rcases hi with hi | hi
   ·exact x13 (h.cov p hp i hi) fun c' h1 h2 h3=>⟨c',cQ _ h1,up c' (.inl h2),h3⟩
   ·exact⟨c,cG _ (ah.mpr rfl),up c (.inr rfl),hi⟩
 ·rw[lT]
  exact(f.ky _).mpr (.inr ⟨_,h.un,rfl⟩)
theorem OI.run:∀(cs done:List Nat) (o:DN),OI done o->OI (done++cs) (cs.foldl (fun o c=>iE c o) o)
 | [],done,o,h=>by rw[iK];exact h
 | c::cs,done,o,h=>by
  have:=OI.run cs (done++[c]) (iE c o) h.step
  rw[BB]at this;exact this
theorem ji(cs:List Nat):OI cs (bZ cs):=by
 refine OI.run cs [] [(0,-1)] ⟨bq.mpr ⟨fun z=>(nomatch z),Nj⟩,fun D=>?_,fun m hm i hi=>?_,ag,ag⟩
 ·show(if aU 0 D=true then(-1:Int)else 0)+0 = -1
  rw[e9.mpr fun i hi=>by rw[gM]at hi;cases hi];rfl
 ·rw[ah.mp hm,gM]at hi;cases hi
noncomputable def pm(n:Nat):Int:=if n % 2=0 then 1 else -1
theorem H5(n:Nat):pm (n+1) = -pm n:=by
 unfold pm
 rcases Nat.mod_two_eq_zero_or_one n with h | h
 ·rw[if_pos h,if_neg (by lia)]
 ·rw[if_pos (show(n+1) % 2=0 by lia),if_neg (show ¬n % 2=0 by lia)];rfl
noncomputable def b0:List Nat->(Nat->Int)->Nat->Int
 | [],F,a=>F a
 | b::bs,F,a=>b0 bs F a - b0 bs F (a ||| 2 ^ b)
theorem c9:b0 (b::bs) F a=b0 bs F a - b0 bs F (a ||| 2 ^ b):=rfl
theorem H6:∀(bs:List Nat) (a:Nat),b0 bs (fun D=>F D+G D) a=b0 bs F a+b0 bs G a:=fun bs=>by
 induction bs with
 | nil=>exact fun a=>rfl
 | cons b bs ih=>intro a;rw[c9,c9,c9,ih,ih];lia
theorem H7:∀(bs:List Nat) (a:Nat),b0 bs (fun U=>0) a=0:=fun bs=>by
 induction bs with
 | nil=>exact fun a=>rfl
 | cons b bs ih=>intro a;rw[c9,ih,ih];rfl
theorem zL(bs:List Nat)(a:Nat):∀o:DN,b0 bs (SD o) a=(o.map fun q=>b0 bs (fun D=>if aU q.1 D=true then q.2 else 0) a).sum
 | []=>H7 bs a
 | q::o=>by
  rw[aQ,BA,<- zL bs a o,<- H6]
  exact congrArg (b0 bs · a) (funext fun D=>qu q o D)
theorem gj:(a ||| 2 ^ b).testBit i=(a.testBit i||decide (b=i)):=by rw[M5,Nt]
open Classical in
theorem H8{p:Nat}{v:Int}:∀(bs:List Nat) (a:Nat),bs.Nodup->(∀b∈bs,a.testBit b=false) ->
 b0 bs (fun D=>if aU p D=true then v else 0) a=if(∀b∈bs,p.testBit b=true)/\(∀i,p.testBit i=true->i∈bs\/a.testBit i=true)then pm bs.length * v else 0:=fun bs=>by
 induction bs with
 | nil =>
  intro a U U
  show(if aU p a=true then v else 0)=_
  by_cases h:aU p a=true
  ·rw[if_pos h,if_pos ⟨fun b hb=>(nomatch hb),fun i hi=>.inr (e9.mp h i hi)⟩];exact(Int.one_mul v).symm
  ·rw[if_neg h,if_neg fun z=>h (e9.mpr fun i hi=>(z.2 i hi).resolve_left fun q=>nomatch q)]
 | cons b bs ih =>
  intro a n ha
  refine aj (bq.mp n) fun n1 n2=>?_
  have hb:a.testBit b=false:=ha b ag
  rw[c9,ih a n2 fun c hc=>ha c (ay _ hc),ih (a ||| 2 ^ b) n2 fun c hc=>by rw[gj,ha c (ay _ hc),decide_eq_false fun e:b=c=>n1 (e▸hc)];rfl]
  cases hp:p.testBit b with
  | true =>
   rw[if_neg fun z=>(z.2 b hp).elim n1 fun q=>by rw[hb]at q;cases q]
   have e:((∀c∈b::bs,p.testBit c=true)/\∀i,p.testBit i=true->i∈b::bs\/a.testBit i=true)↔((∀c∈bs,p.testBit c=true)/\∀i,p.testBit i=true->i∈bs\/(a ||| 2 ^ b).testBit i=true):=by
    refine⟨fun z=>⟨fun c hc=>z.1 c (ay _ hc),fun i hi=>?_⟩,fun z=>⟨fun c hc=>?_,fun i hi=>?_⟩⟩
    ·rw[gj,sg]
     rcases z.2 i hi with h | h
     ·rcases aa.mp h with h | h
      ·exact .inr (.inr (decide_eq_true h.symm))
      ·exact .inl h
     ·exact .inr (.inl h)
    ·rcases aa.mp hc with rfl | hc
     ·exact hp
     ·exact z.1 c hc
    ·rcases z.2 i hi with h | h
     ·exact .inl (ay _ h)
     ·rw[gj,sg]at h
      exact h.elim .inr fun h=>.inl (aa.mpr (.inl (of_decide_eq_true h).symm))
   by_cases h:(∀c∈bs,p.testBit c=true)/\∀i,p.testBit i=true->i∈bs\/(a ||| 2 ^ b).testBit i=true
   ·rw[if_pos h,if_pos (e.mpr h),dQ,H5,Int.neg_mul];lia
   ·rw[if_neg h,if_neg fun z=>h (e.mp z)];rfl
  | false =>
   rw[if_neg (show ¬((∀c∈b::bs,p.testBit c=true)/\_)from fun z=>by have:=z.1 b ag;rw[hp]at this;cases this)]
   have e:((∀c∈bs,p.testBit c=true)/\∀i,p.testBit i=true->i∈bs\/a.testBit i=true)↔((∀c∈bs,p.testBit c=true)/\∀i,p.testBit i=true->i∈bs\/(a ||| 2 ^ b).testBit i=true):=by
    refine and_congr Iff.rfl (forall_congr' fun i=>?_)
    by_cases q:b=i
    ·subst q;exact⟨fun U hi=>(by rw[hp]at hi;cases hi),fun U hi=>by rw[hp]at hi;cases hi⟩
    ·rw[gj,decide_eq_false q,QA]
   by_cases h:(∀c∈bs,p.testBit c=true)/\∀i,p.testBit i=true->i∈bs\/a.testBit i=true
   ·rw[if_pos h,if_pos (e.mp h)];exact Int.sub_self _
   ·rw[if_neg h,if_neg fun z=>h (e.mpr z)];rfl
noncomputable def de(n m:Nat):List Nat:=(dj n).filter fun b=>m.testBit b
theorem zM(n m:Nat):(de n m).Nodup:=List.nodup_range.sublist List.filter_sublist
theorem j1:b∈de n m↔b<n/\m.testBit b=true:=by unfold de;rw[lQ,jo]
theorem H9{α:Type}{f:α->Int}{x:α}:∀ {l1 l2:List α},(∀y∈l1++l2,f y=0)->((l1++x::l2).map f).sum=f x:=fun{l1 l2} h=>by
 rw[c8,aQ,Ny,BA,qv fun y hy=>h y (cQ _ hy),qv fun y hy=>h y (cG _ hy)];lia
theorem Ia{o:DN}{n m:Nat}(nd:(aD o).Nodup)(hm:m∈aD o)(hn:∀i,m.testBit i=true->i<n):b0 (de n m) (SD o) 0=pm (de n m).length * a9 o m:=by
 classical
 obtain⟨l1,l2,u,e,U,hv⟩:=uv nd hm
 rw[zL,hv]
 have key:∀q:Nat × Int,b0 (de n m) (fun D=>if aU q.1 D=true then q.2 else 0) 0=if q.1=m then pm (de n m).length * q.2 else 0:=fun q=>by
  rw[H8 _ 0 (zM n m) fun b U=>gM b]
  by_cases h:q.1=m
  ·rw[if_pos h,if_pos ⟨fun b hb=>by rw[h];exact(j1.mp hb).2,fun i hi=>.inl (j1.mpr ⟨hn i (h▸hi),h▸hi⟩)⟩]
  ·rw[if_neg h,if_neg fun z=>h (Nd fun i=>?_)]
   rw[lS]
   refine⟨fun hi=>(z.2 i hi).elim (fun q=>(j1.mp q).2) fun q=>(by rw[gM]at q;cases q),fun hi=>z.1 i (j1.mpr ⟨hn i hi,hi⟩)⟩
 rw[show(fun q:Nat × Int=>b0 (de n m) (fun D=>if aU q.1 D=true then q.2 else 0) 0)=fun q=>if q.1=m then pm (de n m).length * q.2 else 0 from funext key,e,H9 fun y hy=>?_]
 ·exact if_pos rfl
 ·refine if_neg fun z=>?_
  rw[e]at nd
  unfold aD at nd
  rw[c8,aQ]at nd
  refine cT (c7.mp nd) fun n1 n2 n3=>?_
  rcases aI.mp hy with h | h
  ·exact n3 y.1 (aJ.mpr ⟨y,h,rfl⟩) m ag z
  ·exact(bq.mp n2).1 (z▸aJ.mpr ⟨y,h,rfl⟩)
theorem uy:∀ {ks:List Nat},k∈ks->∀a,b0 ks G (a ||| 2 ^ k)=0
 | j::r,h,a=>by
  rw[c9]
  by_cases e:j=k
  ·subst e
   rw[Nat.or_assoc,Nat.or_self];exact Int.sub_self _
  ·have h:=(aa.mp h).resolve_left fun q=>e q.symm
   rw[uy h a,Nat.or_assoc,Nat.or_comm (2 ^ k),<- Nat.or_assoc,uy h];rfl
theorem Ib{G:Nat->Int}{ks ls:List Nat}(h:ks.Perm ls):∀a,b0 ks G a=b0 ls G a:=by
 induction h with
 | nil=>exact fun a=>rfl
 | cons x U ih=>intro a;rw[c9,c9,ih,ih]
 | swap x y l=>intro a;rw[c9,c9,c9,c9,c9,c9,Nat.or_assoc,Nat.or_comm (2 ^ y),<- Nat.or_assoc];lia
 | trans U U i j=>intro a;rw[i,j]
noncomputable def jj(ks:List Nat):List Nat:=ks.foldr (fun k r=>if k∈r then r else k::r) []
theorem Ic:jj (k::r)=if k∈jj r then jj r else k::jj r:=rfl
theorem zN:∀ks:List Nat,(jj ks).Nodup/\(∀k,k∈jj ks↔k∈ks)/\∀a,b0 ks G a=b0 (jj ks) G a:=fun ks=>by
 induction ks with
 | nil=>exact⟨Nj,fun k=>Iff.rfl,fun a=>rfl⟩
 | cons k r ih =>
  obtain⟨h1,h2,h3⟩:=ih
  rw[Ic]
  by_cases h:k∈jj r
  ·rw[if_pos h]
   refine⟨h1,fun j=>?_,fun a=>?_⟩
   ·rw[h2,aa]
    exact⟨.inr,fun z=>z.elim (fun e=>e▸(h2 k).mp h) id⟩
   ·rw[c9,uy ((h2 k).mp h) a,h3];exact Int.sub_zero _
  ·rw[if_neg h]
   refine⟨bq.mpr ⟨h,h1⟩,fun j=>?_,fun a=>?_⟩
   ·rw[aa,aa,h2]
   ·rw[c9,c9,h3,h3]
theorem Id{G:Nat->Int}{ks ls:List Nat}(h:∀k,k∈ks↔k∈ls)(a:Nat):b0 ks G a=b0 ls G a:=by
 obtain⟨a1,a2,a3⟩:=zN (G:=G) ks
 obtain⟨b1,b2,b3⟩:=zN (G:=G) ls
 rw[a3,b3]
 exact Ib ((List.perm_ext_iff_of_nodup a1 b1).mpr fun k=>by rw[a2,b2,h]) a
noncomputable def cq(x:Nat):Nat:=[0,0,0,1,1,2,2].getD x 0
noncomputable def df(x:Nat):Nat:=[1,2,3,2,3,1,3].getD x 0
noncomputable def ey:List (List Nat):=[[2],[0,4],[1,6],[0,3,6],[1,5,4]]
noncomputable def uz(T:Nat):Bool:=ey.any fun ks=>ks.all fun k=>T.testBit k
noncomputable def Gp(T:Nat):Int:=if uz T=true then 0 else -1
noncomputable def bE(K:List Nat):Bool:=!(K.contains 3&&K.contains 5)
noncomputable def gV(K:List Nat):Nat:=((dj 4).filter fun p=>K.any fun k=>cq k==p||df k==p).length
noncomputable def aF(R:List Nat)(m:Nat):List Nat:=(de R.length m).map fun b=>R.getD b 9
noncomputable def gk(R:List Nat)(k:Nat):List Nat:=(dj R.length).filter fun p=>R.getD p 9==k
noncomputable def aN(R:List Nat):List Nat:=ey.flatMap fun ks=>ks.foldl (fun ms k=>ms.flatMap fun m=>(gk R k).map fun p=>m+2 ^ p) [0]
noncomputable def cK(T:Nat):List Nat:=(dj 7).filter fun k=>T.testBit k
noncomputable def zO(T:Nat):Bool:=(dj 7).all fun k=>!T.testBit k||ey.any fun ks=>ks.contains k&&ks.all fun j=>T.testBit j
theorem Ie:∀T<128,zO T=true->b0 (cK T) Gp 0=if bE (cK T)=true then -pm (gV (cK T))else 0:=by decide +kernel
theorem Ig{K L:List Nat}(h:∀k,k∈K↔k∈L)(f:Nat->Bool):K.any f=L.any f:=by
 rw[lS,dP,dP]
 exact exists_congr fun k=>and_congr (h k) Iff.rfl
theorem Ih{K L:List Nat}(h:∀k,k∈K↔k∈L):gV K=gV L:=congrArg List.length (List.filter_congr fun p U=>Ig h _)
theorem zP{K L:List Nat}(h:∀k,k∈K↔k∈L)(j:Nat):K.contains j=L.contains j:=by
 rw[lS,gC,gC];exact h j
theorem Ii(h:∀k,k∈K↔k∈L):bE K=bE L:=by unfold bE;rw[zP h,zP h]
theorem Ij(h7:∀k∈K,k<7)(hc:∀k∈K,∃ks∈ey,k∈ks/\∀j∈ks,j∈K):b0 K Gp 0=if bE K=true then -pm (gV K)else 0:=by
 have hs:∀k,k∈K↔k∈cK (j0 K):=fun k=>by
  unfold cK
  rw[lQ,jo,gU]
  exact⟨fun h=>⟨h7 k h,h⟩,fun h=>h.2⟩
 have hT:j0 K<128:=Nc (n:=7) _ fun i hi=>by
  rw[<- qV,gU]
  exact fun q=>fG.mpr hi (h7 i q)
 have hv:zO (j0 K)=true:=bt.mpr fun k U=>by
  cases e:(j0 K).testBit k with
  | false=>rfl
  | true =>
   refine x13 (hc k ((gU k K).mp e)) fun ks h1 h2 h3=>?_
   exact dP.mpr ⟨ks,h1,M0.mpr ⟨gC.mpr h2,bt.mpr fun j hj=>(gU j K).mpr (h3 j hj)⟩⟩
 rw[Id hs,Ii hs,Ih hs]
 exact Ie _ hT hv
noncomputable def cR(K:List Nat):Int:=2 * vj ((K.length:Int) - (gV K:Int)) 2 - 1
theorem zQ(a b:Nat):2 * vj ((a:Int) - (b:Int)) 2 - 1 = -(pm a * pm b):=by
 have e:vj ((a:Int) - (b:Int)) 2=((a:Int) - (b:Int)) % 2:=Int.fmod_eq_emod_of_nonneg _ (by decide)
 rw[e]
 unfold pm
 rcases Nat.mod_two_eq_zero_or_one a with h | h<;>rcases Nat.mod_two_eq_zero_or_one b with g | g<;>rw[h,g]
 ·rw[show((a:Int) - b) % 2=0 by omega];rfl
 ·rw[show((a:Int) - b) % 2=1 by omega];rfl
 ·rw[show((a:Int) - b) % 2=1 by omega];rfl
 ·rw[show((a:Int) - b) % 2=0 by omega];rfl
theorem Il(n:Nat):pm n * pm n=1:=by unfold pm;split<;>rfl
section
variable{R:List Nat}
theorem fa:k∈aF R D↔∃b,b<R.length/\D.testBit b=true/\R.getD b 9=k:=by
 unfold aF
 rw[aJ]
 exact exists_congr fun b=>by rw[j1];exact and_assoc
noncomputable def iF(R:List Nat)(D:Nat):Nat:=j0 (aF R D)
theorem Im(hb:b<R.length):iF R (D ||| 2 ^ b)=iF R D ||| 2 ^ (R.getD b 9):=by
 refine Nd fun k=>?_
 rw[lS,gj,sg,decide_eq_true_eq]
 unfold iF
 rw[gU,gU,fa,fa]
 refine⟨fun⟨i,h1,h2,h3⟩=>?_,fun h=>?_⟩
 ·rw[gj,sg,decide_eq_true_eq]at h2
  rcases h2 with h2 | h2
  ·exact .inl ⟨i,h1,h2,h3⟩
  ·subst h2;exact .inr h3
 ·rcases h with⟨i,h1,h2,h3⟩ | h
  ·exact⟨i,h1,by rw[gj,h2];rfl,h3⟩
  ·exact⟨b,hb,by rw[gj,decide_eq_true rfl,Bool.or_true],h⟩
theorem Io:∀(bs:List Nat) (a:Nat),(∀b∈bs,b<R.length)->b0 bs (fun D=>G (iF R D)) a=b0 (bs.map fun b=>R.getD b 9) G (iF R a):=fun bs=>by
 induction bs with
 | nil=>exact fun a U=>rfl
 | cons b bs ih =>
  intro a h
  have hb:=fun c hc=>h c (ay _ hc)
  rw[aQ,c9,c9,ih a hb,ih _ hb,Im (h b ag)]
inductive CoI(R ks:List Nat)(m:Nat):Prop where
 | mk (ps:List Nat) (e:ps.map (fun p=>R.getD p 9)=ks) (lt:∀p∈ps,p<R.length) (b:∀i,m.testBit i=true↔i∈ps):CoI R ks m
theorem Ip:∀m<64,∀p<6,m.testBit p=false->m+2 ^ p=m ||| 2 ^ p:=by decide +kernel
theorem CoI.add{ks:List Nat}{m p:Nat}(h6:R.length<=6)(c:CoI R ks m)(hp:p<R.length)(hk:R.getD p 9∉ks):m+2 ^ p=m ||| 2 ^ p/\CoI R (ks++[R.getD p 9]) (m+2 ^ p):=by
 obtain⟨ps,e,lt,b⟩:=c
 have np:p∉ps:=fun q=>hk (e▸aJ.mpr ⟨p,q,rfl⟩)
 have hm:m<64:=Nc (n:=6) _ fun i hi=>by
  rw[<- qV,b]
  exact fun q=>fG.mpr hi (uA (lt i q) h6)
 have e2:=Ip m hm p (uA hp h6) (by rw[<- qV,b];exact np)
 refine⟨e2,ps++[p],by rw[c8,e];rfl,fun q hq=>(aI.mp hq).elim (lt q) fun z=>by rw[ah.mp z];exact hp,fun i=>?_⟩
 rw[e2,gj,sg,b,decide_eq_true_eq,aI,ah,eq_comm]
theorem zR:p∈gk R k↔p<R.length/\R.getD p 9=k:=by unfold gk;rw[lQ,jo,beq_iff_eq]
theorem zS(h6:R.length<=6):∀(ks done ms:List Nat),(∀m∈ms,CoI R done m)->(done++ks).Nodup->∀m∈ks.foldl (fun ms k=>ms.flatMap fun m=>(gk R k).map fun p=>m+2 ^ p) ms,CoI R (done++ks) m
 | [],done,ms,h,_,m,hm=>by rw[iK];exact h m hm
 | k::ks,done,ms,h,n,m,hm=>by
  have hk:k∉done:=fun q=>(c7.mp n).2.2 k q k ag rfl
  have:=zS h6 ks (done++[k]) _ (fun m' hm'=>by
   refine x12 (dF.mp hm') fun m0 h0 h1=>x12 (aJ.mp h1) fun p hp e=>?_
   subst e
   refine aj (zR.mp hp) fun p1 p2=>?_
   have:=((h m0 h0).add h6 p1 (p2▸hk)).2
   rw[p2]at this;exact this) (by rw[BB];exact n) m hm
  rw[BB]at this;exact this
theorem zT(h6:R.length<=6):∀(ks done ms:List Nat),(∃m∈ms,CoI R done m/\aU m D=true)->(done++ks).Nodup->(∀k∈ks,k∈aF R D)->∃m∈ks.foldl (fun ms k=>ms.flatMap fun m=>(gk R k).map fun p=>m+2 ^ p) ms,aU m D=true
 | [],done,ms,h,_,_=>x13 h fun m h1 U h3=>⟨m,h1,h3⟩
 | k::ks,done,ms,h,n,hk=>by
  have nk:k∉done:=fun q=>(c7.mp n).2.2 k q k ag rfl
  refine x13 h fun m h1 h2 h3=>?_
  refine x13 (fa.mp (hk k ag)) fun p p1 p2 p3=>?_
  have ad:=h2.add h6 p1 (p3▸nk)
  rw[p3]at ad
  refine zT h6 ks (done++[k]) _ ⟨m+2 ^ p,dF.mpr ⟨m,h1,aJ.mpr ⟨p,zR.mpr ⟨p1,p3⟩,rfl⟩⟩,ad.2,?_⟩ (by rw[BB];exact n) fun j hj=>hk j (ay _ hj)
  rw[ad.1,uu,h3,e9.mpr fun i hi=>by rw[Nt]at hi;rw[<- of_decide_eq_true hi];exact p2];rfl
theorem uB:∀ks∈ey,ks.Nodup/\ks≠[]:=by decide
theorem CoI.nil:CoI R [] 0:=⟨[],rfl,fun p h=>(nomatch h),fun i=>by rw[gM];exact⟨fun h=>(nomatch h),fun h=>nomatch h⟩⟩
theorem qw(h6:R.length<=6)(h:c∈aN R):∃ks∈ey,CoI R ks c :=
 x12 (dF.mp h) fun ks h1 h2=>⟨ks,h1,zS h6 ks [] [0] (fun m hm=>by rw[ah.mp hm];exact .nil) (uB ks h1).1 c h2⟩
theorem Iq(h6:R.length<=6)(D:Nat):((aN R).any fun c=>aU c D)=uz (iF R D):=by
 rw[lS,dP]
 unfold uz
 rw[dP]
 refine⟨fun h=>x12 h fun c h1 h2=>x12 (qw h6 h1) fun ks k1 k2=>⟨ks,k1,bt.mpr fun k hk=>?_⟩,fun h=>x12 h fun ks k1 k2=>?_⟩
 ·obtain⟨ps,e,lt,b⟩:=k2
  rw[<- e]at hk
  refine x12 (aJ.mp hk) fun p hp ep=>?_
  exact(gU k _).mpr (fa.mpr ⟨p,lt p hp,e9.mp h2 p ((b p).mpr hp),ep⟩)
 ·refine x12 (zT h6 (D:=D) ks [] [0] ⟨0,ag,.nil,e9.mpr fun i hi=>by rw[gM]at hi;cases hi⟩ (uB ks k1).1 fun k hk=>(gU k _).mp (bt.mp k2 k hk)) fun m m1 m2=>?_
  exact⟨m,dF.mpr ⟨ks,k1,m1⟩,m2⟩
theorem Ir(h6:R.length<=6)(hm:m∈aD (bZ (aN R)))(hi:m.testBit i=true):i<R.length:=by
 refine x13 ((ji _).cov m hm i hi) fun c h1 U h3=>x12 (qw h6 h1) fun ks U k2=>?_
 obtain⟨ps,e,lt,b⟩:=k2
 exact lt i ((b i).mp h3)
theorem uC(h6:R.length<=6)(h7:∀k∈R,k<7)(hm:m∈aD (bZ (aN R))):a9 (bZ (aN R)) m=if bE (aF R m)=true then cR (aF R m)else 0:=by
 have I:=ji (aN R)
 have h1:=Ia (n:=R.length) I.nd hm fun i hi=>Ir h6 hm hi
 have h2:SD (bZ (aN R))=fun D=>Gp (iF R D):=funext fun D=>by rw[I.s D,Iq h6];rfl
 rw[h2,Io _ 0 fun b hb=>(j1.mp hb).1]at h1
 have h0:iF R 0=0:=Nd fun k=>by
  rw[gM,<- qV]
  unfold iF
  rw[gU,fa]
  exact fun q=>x13 q fun b U q U=>by rw[gM]at q;cases q
 have h3:=Ij (K:=aF R m) (fun k hk=>x13 (fa.mp hk) fun b b1 U e=>by
  rw[<- e,av,bw b1];exact h7 _ (M4 b1)) fun k hk=>x13 (fa.mp hk) fun b b1 b2 e=>by
  refine x13 (I.cov m hm b b2) fun c c1 c2 c3=>x12 (qw h6 c1) fun ks k1 k2=>?_
  obtain⟨ps,e2,lt,bb⟩:=k2
  refine⟨ks,k1,by rw[<- e2,<- e];exact aJ.mpr ⟨b,(bb b).mp c3,rfl⟩,fun j hj=>?_⟩
  rw[<- e2]at hj
  refine x12 (aJ.mp hj) fun p hp ep=>?_
  exact fa.mpr ⟨p,lt p hp,e9.mp c2 p ((bb p).mpr hp),ep⟩
 rw[h0,show(de R.length m).map (fun b=>R.getD b 9)=aF R m from rfl,h3]at h1
 have h4:a9 (bZ (aN R)) m=pm (de R.length m).length * (pm (de R.length m).length * a9 (bZ (aN R)) m):=by rw[<- Int.mul_assoc,Il,Int.one_mul]
 rw[h4,<- h1]
 have hl:(de R.length m).length=(aF R m).length:=(af _).symm
 rw[hl]
 split
 ·unfold cR
  rw[zQ,Int.mul_neg]
 ·exact Int.mul_zero _
end
noncomputable def b8(R:List Nat):List Nat:=(aD (bZ (aN R))).filter fun m=>decide (0<m)
noncomputable def cN(R:List Nat):List Nat:=(b8 R).filter fun m=>bE (aF R m)
theorem uD{α:Type}{f:α->Int}{c:α->Bool}:∀l:List α,((l.filter c).map f).sum=(l.map fun x=>if c x=true then f x else 0).sum
 | []=>rfl
 | x::l=>by
  rw[oB,aQ,BA,<- uD l]
  cases c x
  ·exact(Int.zero_add _).symm
  ·rfl
theorem qx:∀(l:List Nat) (a:Nat),(l.foldl (· ||| ·) a).testBit i=true↔a.testBit i=true\/∃m∈l,m.testBit i=true
 | [],a=>⟨.inl,fun h=>h.elim id fun z=>x12 z fun U h U=>nomatch h⟩
 | m::l,a=>by
  rw[NK,qx l (a ||| m),M5,sg]
  refine⟨fun h=>?_,fun h=>?_⟩
  ·rcases h with(h | h) | ⟨n,h1,h2⟩
   ·exact .inl h
   ·exact .inr ⟨m,ag,h⟩
   ·exact .inr ⟨n,ay _ h1,h2⟩
  ·rcases h with h | ⟨n,h1,h2⟩
   ·exact .inl (.inl h)
   ·rcases aa.mp h1 with rfl | h1
    ·exact .inl (.inr h2)
    ·exact .inr ⟨n,h1,h2⟩
section
variable{R:List Nat}(h6:R.length<=6)(h7:∀k∈R,k<7)
include h6
theorem qy(h:k∈aF R D)(hm:∀i,D.testBit i=true->m.testBit i=true):k∈aF R m :=
 x13 (fa.mp h) fun b h1 h2 h3=>fa.mpr ⟨b,h1,hm b h2,h3⟩
theorem qz:bE K=false↔3∈K/\5∈K:=by
 unfold bE
 rw[Bool.not_eq_false',e7,gC,gC]
theorem It:((b8 R).all fun m=>bE (aF R m))=bE (aF R ((b8 R).foldl (· ||| ·) 0)):=by
 have I:=ji (aN R)
 cases e:bE (aF R ((b8 R).foldl (· ||| ·) 0))with
 | true =>
  refine bt.mpr fun m hm=>?_
  cases q:bE (aF R m)with
  | true=>rfl
  | false =>
   refine aj ((qz h6).mp q) fun q3 q5=>?_
   have up:∀i,m.testBit i=true->((b8 R).foldl (· ||| ·) 0).testBit i=true:=fun i hi=>(qx _ 0).mpr (.inr ⟨m,hm,hi⟩)
   rw[(qz h6).mpr ⟨qy h6 q3 up,qy h6 q5 up⟩]at e;cases e
 | false =>
  refine aj ((qz h6).mp e) fun q3 q5=>?_
  have up:∀i,((b8 R).foldl (· ||| ·) 0).testBit i=true->((aN R).foldl (· ||| ·) 0).testBit i=true:=fun i hi=>by
   rcases(qx _ 0).mp hi with z | ⟨m,hm,hi⟩
   ·rw[gM]at z;cases z
   ·exact x13 (I.cov m (lQ.mp hm).1 i hi) fun c c1 U c3=>(qx _ 0).mpr (.inr ⟨c,c1,c3⟩)
  have hU:(aN R).foldl (· ||| ·) 0∈b8 R:=by
   refine lQ.mpr ⟨I.un,decide_eq_true (Nu fun z=>?_)⟩
   refine x13 (fa.mp q3) fun b U b2 U=>?_
   have:=up b b2
   rw[z,gM]at this;cases this
  rw[<- qV,bt]
  intro z
  have:=z _ hU
  rw[(qz h6).mpr ⟨qy h6 q3 up,qy h6 q5 up⟩]at this;cases this
include h7
theorem Iu(D:Nat):((cN R).map fun m=>if aU m D=true then cR (aF R m)else 0).sum=if((aN R).any fun c=>aU c D)=true then 1 else 0:=by
 have I:=ji (aN R)
 have hs:=zK I.nd D
 rw[I.s D]at hs
 have e0:a9 (bZ (aN R)) 0 = -1:=by
  rw[uC h6 h7 I.z]
  have:aF R 0=[]:=List.eq_nil_iff_forall_not_mem.mpr fun k hk=>x13 (fa.mp hk) fun b U q U=>by rw[gM]at q;cases q
  rw[this];rfl
 have hrl:((cN R).map fun m=>if aU m D=true then cR (aF R m)else 0).sum=((b8 R).map fun p=>if aU p D=true then a9 (bZ (aN R)) p else 0).sum:=by
  unfold cN
  rw[uD]
  refine congrArg List.sum (oA fun m hm=>?_)
  rw[uC h6 h7 (lQ.mp hm).1]
  cases bE (aF R m)<;>cases aU m D<;>rfl
 rw[hrl]
 obtain⟨l1,l2,e⟩:=List.append_of_mem I.z
 have nd:=I.nd
 unfold b8
 rw[e]at hs nd ⊢
 refine cT (c7.mp nd) fun n1 n2 n3=>?_
 have f1:l1.filter (fun m=>decide (0<m))=l1:=Nq.mpr fun m hm=>decide_eq_true (Nu fun z=>n3 m hm 0 ag z)
 have f2:l2.filter (fun m=>decide (0<m))=l2:=Nq.mpr fun m hm=>decide_eq_true (Nu fun z=>(bq.mp n2).1 (z▸hm))
 rw[List.filter_append,oB,f1,f2,decide_eq_false (bj 0),if_neg MY,c8,Ny]
 rw[c8,Ny,aQ,BA,e0,show aU 0 D=true from e9.mpr fun i hi=>(by rw[gM]at hi;cases hi),if_pos rfl]at hs
 revert hs
 split<;>intro hs<;>lia
end
end
section
open PySem PySem.W PyProof.Rows
section
variable{Φ:List FEntry}{ρ:List SV}{a b c:IX}{fl:Fl}{R:List SV->Prop}{r:SX}
theorem ak(h:ρ.getD i .un=.dat d):Ok Φ (.var i) ρ d:=⟨by show SV.ok false _;rw[h];trivial,by show SV.data _=d;rw[h];rfl⟩
theorem iG:Ok Φ (.lit (.int n)) ρ (.int n):=⟨trivial,rfl⟩
theorem nA(ha:Ok Φ a ρ (.int x))(hb:Ok Φ b ρ (.int y)):Ok Φ (.bin .Add a b) ρ (.int (x+y)):=by
 refine⟨⟨ha.1,hb.1,by rw[ha.2,hb.2];trivial⟩,?_⟩
 show fq .Add (den Φ a ρ) (den Φ b ρ)=_
 rw[ha.2,hb.2];rfl
theorem zU(ha:Ok Φ a ρ (.int x))(hb:Ok Φ b ρ (.int y))(h : -65536<=x/\x<=65536):Ok Φ (.bin .Mult a b) ρ (.int (x * y)):=by
 refine⟨⟨ha.1,hb.1,by rw[ha.2,hb.2];exact .inl h⟩,?_⟩
 show fq .Mult (den Φ a ρ) (den Φ b ρ)=_
 rw[ha.2,hb.2];rfl
theorem zV(ha:Ok Φ a ρ (.int x))(hb:Ok Φ b ρ (.int y)):Ok Φ (.cmp .Eq a b) ρ (.bool (x==y)):=by
 refine⟨⟨cC ha.1,cC hb.1,by rw[ha.2,hb.2];exact⟨ny _,ny _⟩⟩,?_⟩
 show Pi (Oa (den Φ a ρ) (den Φ b ρ))=_
 rw[ha.2,hb.2];rfl
theorem zW(ha:Ok Φ a ρ (.int x))(hb:Ok Φ b ρ (.int y)):Ok Φ (.cmp .Gt a b) ρ (.bool (decide (x > y))):=by
 refine⟨⟨cC ha.1,cC hb.1,by rw[ha.2,hb.2];trivial⟩,?_⟩
 show Pi (iS .Gt (den Φ a ρ) (den Φ b ρ))=_
 rw[ha.2,hb.2];rfl
theorem zX(ha:Ok Φ a ρ d)(hb:Ok Φ b ρ d'):Ok Φ (.list (.cons a (.cons b .nil))) ρ (.list [d,d']) :=
 ⟨⟨⟨ha.1,hb.1,trivial⟩,by show 2<=_;decide⟩,by show PU [den Φ a ρ,den Φ b ρ]=_;rw[ha.2,hb.2]⟩
theorem nB(ha:Ok Φ a ρ (iD k))(hk:k<=1000000):e8 Φ (.range1 a) ρ ((dj k).map iD):=by
 refine⟨⟨ha.1,by rw[ha.2];show -1000000000<=(k:Int)/\(k:Int)<=1000000000;lia⟩,?_⟩
 show iU 0 (bi (den Φ a ρ) - 0).toNat=_
 rw[ha.2]
 exact(zs (Φ:=Φ) (ρ:=ρ) hk).2
theorem j2{α:Type}{tup:Bool}{slots:List Nat}{it:IX}{body:SX}{xs:List α}{g:α->NR}{Inv:List α->List SV->Prop}(hi:e8 Φ it ρ (xs.map g))(hs:∀x∈xs,bindP tup slots (g x))(h0:Inv [] ρ)
 (hb:∀l x r ρ,xs=l++x::r->Inv l ρ->aB Φ body (ao tup slots (g x) ρ) .next (Inv (l++[x]))) (k:∀ρ1,Inv xs ρ1->aB Φ r ρ1 fl R):aB Φ (.for tup slots it body r) ρ fl R:=by
 have key:∀(ys l:List α) (ρ:List SV),l++ys=xs->Inv l ρ ->
  fX (fun d ρ=>bindP tup slots d/\bf Φ body (ao tup slots d ρ)) (fun d ρ=>au Φ body (ao tup slots d ρ)) (ys.map g) ρ /\
  ∃ρ',bQ (fun d ρ=>au Φ body (ao tup slots d ρ)) (ys.map g) ρ=(.next,ρ')/\Inv xs ρ':=by
  intro ys
  induction ys with
  | nil=>exact fun l ρ e h=>⟨trivial,ρ,rfl,by rw[<- e,iK];exact h⟩
  | cons y ys ih =>
   intro l ρ e h
   have hy:y∈xs:=e▸cG _ ag
   rw[aQ,pu,mI]
   obtain⟨p,ρ',q,h'⟩:=hb l y ys ρ e.symm h
   rw[q]
   have:=ih (l++[y]) ρ' (by rw[BB];exact e) h'
   exact⟨⟨⟨hs y hy,p⟩,this.1⟩,this.2⟩
 refine aj (key xs [] ρ rfl h0) fun k1 k2=>?_
 rw[<- hi.2]at k1 k2
 refine x12 k2 fun ρ' e h'=>?_
 refine aj (qp (S:=body) e (k ρ' h')) fun m1 m2=>?_
 exact⟨⟨hi.1,k1,m1⟩,m2⟩
theorem zY{α:Type}{tup:Bool}{slots:List Nat}{it:IX}{body:SX}{xs:List α}{g:α->NR}{Inv:List α->List SV->Prop}(hi:e8 Φ it ρ (xs.map g))(hs:∀x∈xs,bindP tup slots (g x))(h0:Inv [] ρ)
 (hb:∀l x ρ,x∈xs->l.length<xs.length->Inv l ρ->aB Φ body (ao tup slots (g x) ρ) .next (Inv (l++[x]))) (k:∀ρ1,Inv xs ρ1->aB Φ r ρ1 fl R):aB Φ (.for tup slots it body r) ρ fl R :=
 j2 hi hs h0 (fun l x r ρ e h=>hb l x ρ (e▸cG _ ag) (by rw[e,cb];exact Nat.lt_add_of_pos_right (Nat.succ_pos _)) h) k
theorem zZ(ha:Ok Φ a ρ d)(hb:Ok Φ b ρ e)(h1:bV d)(h2:bV e):Ok Φ (.cmp .Eq a b) ρ (.bool (Oa d e)):=by
 refine⟨⟨cC ha.1,cC hb.1,by rw[ha.2,hb.2];exact⟨h1,h2⟩⟩,?_⟩
 show Pi (Oa (den Φ a ρ) (den Φ b ρ))=_
 rw[ha.2,hb.2]
theorem uE(ha:Ok Φ a ρ (.int x))(hb:Ok Φ b ρ (.int y)):Ok Φ (.bin .Sub a b) ρ (.int (x - y)):=by
 refine⟨⟨ha.1,hb.1,by rw[ha.2,hb.2];trivial⟩,?_⟩
 show fq .Sub (den Φ a ρ) (den Φ b ρ)=_
 rw[ha.2,hb.2];rfl
theorem z7(ha:Ok Φ a ρ (.int x))(hb:Ok Φ b ρ (.int y))(h:y≠0):Ok Φ (.bin .Mod a b) ρ (.int (vj x y)):=by
 refine⟨⟨ha.1,hb.1,by rw[ha.2,hb.2];exact h⟩,?_⟩
 show fq .Mod (den Φ a ρ) (den Φ b ρ)=_
 rw[ha.2,hb.2];rfl
theorem lu(hb:Ok Φ b ρ (iD k))(h:k<=64):Ok Φ (.bin .Pow (.lit (.int 2)) b) ρ (iD (2 ^ k)):=by
 refine⟨⟨trivial,hb.1,by rw[hb.2];exact⟨by decide,by decide,sT k,Int.ofNat_le.mpr h⟩⟩,?_⟩
 show fq .Pow (.int 2) (den Φ b ρ)=_
 rw[hb.2]
 show Oo ((2:Int) ^ ((k:Int).toNat))=.int ((2 ^ k:Nat):Int)
 rw[kg,Int.natCast_pow];rfl
theorem Iv(x y:Nat):Builtin.bitOr (x:Int) (y:Int)=((x ||| y:Nat):Int):=by
 have e:=nat_or_add_and x y
 rw[bitOr_and,bitAnd_pp (sT x) (sT y),kg,kg];lia
theorem qA(ha:Ok Φ a ρ (iD x))(hb:Ok Φ b ρ (iD y)):Ok Φ (.bin .BitOr a b) ρ (iD (x ||| y)):=by
 refine⟨⟨ha.1,hb.1,by rw[ha.2,hb.2];trivial⟩,?_⟩
 show fq .BitOr (den Φ a ρ) (den Φ b ρ)=_
 rw[ha.2,hb.2]
 exact congrArg Oo (Iv x y)
theorem z8(ha:Ok Φ a ρ (iD x))(hb:Ok Φ b ρ (iD y)):Ok Φ (.bin .BitAnd a b) ρ (iD (x &&& y)):=by
 refine⟨⟨ha.1,hb.1,by rw[ha.2,hb.2];trivial⟩,?_⟩
 show fq .BitAnd (den Φ a ρ) (den Φ b ρ)=_
 rw[ha.2,hb.2];rfl
theorem Iw:decide (((m &&& 2 ^ k:Nat):Int) > 0)=m.testBit k:=by
 rw[lS,decide_eq_true_eq]
 refine⟨fun h=>?_,fun h=>?_⟩
 ·rw[<- Bool.not_eq_false]
  intro e
  have:m &&& 2 ^ k=0:=Nd fun i=>by
   rw[Nat.testBit_and,Nt,gM]
   by_cases q:k=i
   ·subst q;rw[e];rfl
   ·rw[decide_eq_false q,Bool.and_false]
  rw[this]at h;exact absurd h (by decide)
 ·refine Int.natCast_pos.mpr (Nu fun z=>?_)
  have:=congrArg (·.testBit k) z
  rw[Nat.testBit_and,Nt,h,decide_eq_true rfl,gM]at this
  cases this
theorem uF(ha:Ok Φ a ρ (iD m))(hb:Ok Φ b ρ (iD k))(h:k<=64):Ok Φ (.cmp .Gt (.bin .BitAnd a (.bin .Pow (.lit (.int 2)) b)) (.lit (.int 0))) ρ (.bool (m.testBit k)):=by
 rw[<- Iw]
 exact zW (z8 ha (lu hb h)) iG
end
noncomputable def gW(n:Str)(k:Nat)(Φ:List FEntry)(S:SX)(V:List Str)(P:List NR->Prop):FEntry:=⟨n,k,P,fun ds=>zi (au Φ S (bg V ds)).1⟩
theorem jk{n:Str}{k:Nat}{Φ:List FEntry}{S:SX}{V:List Str}{P:List NR->Prop}{ds:List NR}{d:NR}(h:aB Φ S (bg V ds) (.ret d) fun U=>True):(gW n k Φ S V P).val ds=d:=by
 obtain⟨_,ρ',e,_⟩:=h
 show zi (au Φ S (bg V ds)).1=d
 rw[e];rfl
theorem j3{n:Str}{k m:Nat}{Φ:List FEntry}{S:SX}{V:List Str}{P:List NR->Prop}(h:∀ds,P ds->ds.length=m/\∃d,aB Φ S (bg V ds) (.ret d) fun U=>True)(ds:List NR)(hd:(gW n k Φ S V P).pre ds) :
 ds.length=m/\bf Φ S (bg V ds)/\(au Φ S (bg V ds)).1=.ret ((gW n k Φ S V P).val ds):=by
 obtain⟨h1,d,h2⟩:=h ds hd
 rw[jk h2]
 obtain⟨h3,ρ',e,_⟩:=h2
 exact⟨h1,h3,by rw[e]⟩
section
variable{Φ:List FEntry}{ρ:List SV}{r:SX}{fl:Fl}{R:List SV->Prop}
theorem Ix(h0:ρ.getD i .un=.sor ⟨g,none,0,0⟩)(hg:g.length<=32/\∀q∈g,q.2.2.length<=24)(ha:Ok Φ a ρ (.int x))(hb:Ok Φ b ρ (.int y))(k:aB Φ r (ρ.set i (.sor ⟨ew g (x,[y]),none,0,0⟩)) fl R):aB Φ (.prim (pT Φ i (.cons a (.cons b .nil))) r) ρ fl R:=by
 have e:bL Φ (.cons a (.cons b .nil)) ρ=[.int x,.int y]:=(lq ha hb).2
 refine eN ⟨(lq ha hb).1,?_⟩ ?_ k
 ·rw[e,h0]
  exact⟨⟨g,none,0,0⟩,x,[y],rfl,rfl,oC rfl,rfl,ae (gv hg.1 20) (by decide),fun q hq=>ae (gv (hg.2 q hq) 20) (by decide)⟩
 ·show(Fl.next,ρ.set i (tm (ρ.getD i .un) (bL Φ (.cons a (.cons b .nil)) ρ)))=_
  rw[e,h0];rfl
theorem Iy(h0:ρ.getD i .un=.sor ⟨g,none,0,0⟩)(hg:to g)(hR:∀ρ,R ρ):aB Φ (.prim (kY i d) (.prim (eW Φ (.lit e)) .skip)) ρ (.ret (if gd g=true then d else e)) R:=by
 have q:(kY i d).den ρ=(if gd g=true then .ret d else .next,ρ.set i (m8 (.sor ⟨g,none,0,0⟩))):=by
  show(if pX (ρ.getD i .un)=true then _ else _,ρ.set i (m8 (ρ.getD i .un)))=_
  rw[h0];rfl
 refine⟨⟨⟨_,h0,rfl,hg⟩,fun ρ' U=>⟨trivial,fun U U=>trivial⟩⟩,ρ.set i (m8 (.sor ⟨g,none,0,0⟩)),?_,hR _⟩
 show eV ((kY i d).den ρ) _=_
 rw[q]
 cases gd g<;>rfl
end
noncomputable def z9:IX:=(.list (.cons (.list (.cons (.lit (.int 0)) (.cons (.lit (.int 1)) .nil))) (.cons (.list (.cons (.lit (.int 0)) (.cons (.lit (.int 2)) .nil))) (.cons (.list (.cons (.lit (.int 0)) (.cons (.lit (.int 3)) .nil))) (.cons (.list (.cons (.lit (.int 1)) (.cons (.lit (.int 2)) .nil))) (.cons (.list (.cons (.lit (.int 1)) (.cons (.lit (.int 3)) .nil))) (.cons (.list (.cons (.lit (.int 2)) (.cons (.lit (.int 1)) .nil))) (.cons (.list (.cons (.lit (.int 2)) (.cons (.lit (.int 3)) .nil))) .nil))))))))
noncomputable def Aa:IX:=(.cmp .NotIn (.sub (.var 1) (.bin .Mod (.var 4) (.lit (.int 7)))) (.var 2))
noncomputable def Iz:SX:=(.prim (gG [] 2 (.sub (.var 1) (.bin .Mod (.var 4) (.lit (.int 7))))) .skip)
noncomputable def IB:SX:=(.prim (cn [] 3 (.lit (.bool true))) .skip)
noncomputable def IC:SX:=(.prim (gG [] 2 (.sub (.var 1) (.bin .Mod (.var 4) (.lit (.int 7))))) IB)
noncomputable def ID:SX:=(.ite (.inv (.var 3)) IC .skip .skip)
noncomputable def IE:SX:=(.ite Aa Iz ID .skip)
noncomputable def IF:SX:=(.prim (eW [] (.var 2)) .skip)
noncomputable def IG:SX:=(.for false [4] (.seq (.var 0)) IE (.frz 2 IF))
noncomputable def IH:SX:=(.prim (kL [] [1,2,3] [(false,z9),(true,(.list .nil)),(false,(.lit (.bool false)))]) IG)
noncomputable def nE:List Str:=[sS "numbers",sS "kinds",sS "roads",sS "double",sS "x"]
noncomputable def nG:SX:=IH
theorem Ab(h:(!b)=true):b=false:=by cases b<;>first | rfl | cases h
theorem Ac(h:(!b)=false):b=true:=by cases b<;>first | rfl | cases h
noncomputable def KD(x:Nat):NR:=LD [cq x,df x]
theorem uG:∀x<7,∀y<7,Oa (KD x) (KD y)=(x==y):=by decide +kernel
theorem uH(x:Nat):(KD x).canLay0=true/\(KD x).depth<=1:=have h:=zB [cq x,df x];⟨h.1,Np h.2⟩
theorem II{R:List Nat}(h:∀k∈R,k<7){k:Nat}(hk:k<7):((R.map KD).any fun y=>Oa y (KD k))=R.contains k:=by
 rw[List.any_map,lS,dP,gC]
 refine⟨fun q=>x12 q fun x h1 h2=>?_,fun q=>⟨k,q,(uG k hk k hk).trans (beq_self_eq_true k)⟩⟩
 have h2:Oa (KD x) (KD k)=true:=h2
 rw[uG x (h x h1) k hk]at h2
 rw[<- NY h2];exact h1
theorem Ad(h:ρ.getD i .un=.own d)(k:aB Φ r (ρ.set i (.dat d)) fl R):aB Φ (.frz i r) ρ fl R:=by
 have e:(ρ.getD i .un).data=d:=by rw[h];rfl
 refine⟨⟨by rw[h];trivial,by rw[e];exact k.1⟩,?_⟩
 show ∃ρ',au Φ r (ρ.set i (.dat (ρ.getD i .un).data))=_/\_
 rw[e];exact k.2
noncomputable def gm(s:List Nat × Bool)(x:Int):List Nat × Bool :=
 if s.1.contains (vj x 7).toNat=true then(if s.2=true then s else(s.1++[(vj x 7).toNat],true))else(s.1++[(vj x 7).toNat],s.2)
noncomputable def b9(xs:List Int):List Nat × Bool:=xs.foldl gm ([],false)
noncomputable def lw(xs:List Int):List Nat:=(b9 xs).1
theorem uI(l:List Int)(x:Int):b9 (l++[x])=gm (b9 l) x:=lT
theorem uJ(x:Int):((vj x 7).toNat:Int)=vj x 7/\(vj x 7).toNat<7:=by
 have h1:=Int.fmod_nonneg_of_pos x (b:=7) (by decide)
 have h2:=Int.fmod_lt_of_pos x (b:=7) (by decide)
 exact⟨Int.toNat_of_nonneg h1,by lia⟩
theorem uK:∀(xs:List Int) (s:List Nat × Bool),(∀k∈s.1,k<7)->(∀k∈(xs.foldl gm s).1,k<7)/\(xs.foldl gm s).1.length<=s.1.length+xs.length
 | [],s,h=>⟨h,bM _⟩
 | x::xs,s,h=>by
  have h1:(∀k∈(gm s x).1,k<7)/\(gm s x).1.length<=s.1.length+1:=by
   have ap:(∀k∈s.1++[(vj x 7).toNat],k<7)/\(s.1++[(vj x 7).toNat]).length<=s.1.length+1 :=
    ⟨fun k hk=>(aI.mp hk).elim (h k) fun z=>by rw[ah.mp z];exact(uJ x).2,gZ cb⟩
   unfold gm
   split
   ·split
    ·exact⟨h,oF _⟩
    ·exact ap
   ·exact ap
  have h2:=uK xs (gm s x) h1.1
  exact⟨h2.1,ae h2.2 (by rw[dQ];have:=h1.2;lia)⟩
theorem IJ(xs:List Int):(∀k∈lw xs,k<7)/\(lw xs).length<=xs.length:=have h:=uK xs ([],false) fun k hk=>(nomatch hk);⟨h.1,ae h.2 (gZ (oR _))⟩
noncomputable def IK:NR:=.list ((dj 7).map KD)
noncomputable abbrev gX(xs:List Int)(s:List Nat × Bool)(z:SV):List SV:=[.dat (.list (xs.map .int)),.dat IK,.own (.list (s.1.map KD)),.dat (.bool s.2),z]
section
variable{a b c e:SV}
theorem Ae{xs:List Int}(hl:xs.length<=100):aB [] nG [.dat (.list (xs.map .int)),a,b,c,e] (.ret (.list ((lw xs).map KD))) fun U=>True:=by
 refine eN (ρ1:=gX xs ([],false) e) ⟨⟨(bS z9 false _).2 rfl,⟨trivial,cj _⟩,trivial,trivial⟩,oC rfl⟩ rfl ?_
 refine zY (xs:=xs) (g:=Oo) (Inv:=fun l ρ=>l.length<=100->∃z,ρ=gX xs (b9 l) z) (gh (ak rfl)) (fun x U=>rfl) (fun U=>⟨_,rfl⟩) (fun l x ρ hx hll h=>?_) fun ρ h=>?_
 ·refine x11 (h (ae (NC hll) hl)) fun z e1=>?_
  subst e1
  have hR:(∀k∈(b9 l).1,k<7)/\(b9 l).1.length<=0+l.length:=uK l ([],false) fun k hk=>(nomatch hk)
  have hlen:(b9 l).1.length<=100:=ae hR.2 (by show 0+l.length<=100;lia)
  have hk7:=(uJ x).2
  have hm:Ok [] (.bin .Mod (.var 4) (.lit (.int 7))) (gX xs (b9 l) (.dat (.int x))) (iD (vj x 7).toNat):=by
   rw[show iD (vj x 7).toNat=.int (vj x 7)from congrArg Oo (uJ x).1]
   exact z7 (ak rfl) iG (by decide)
  have hk:=uq (Φ:=[]) (a:=.var 1) (ds:=(dj 7).map KD) (ak rfl) hm (by rw[af,vl];exact hk7) (by decide) (HY hk7)
  have hq:Ok [] Aa (gX xs (b9 l) (.dat (.int x))) (.bool (!(b9 l).1.contains (vj x 7).toNat)):=by
   refine⟨⟨cC hk.1,trivial,by rw[hk.2];exact⟨HX (zB _) (cj _),(qs fun k U=>uH k).1⟩⟩,?_⟩
   show Pi (!ma (den [] _ _) (.list ((b9 l).1.map KD)))=_
   rw[hk.2,<- II hR.1 hk7];rfl
  have app:∀ {fl:Fl} {r:SX} {R:List SV->Prop},aB [] r (gX xs ((b9 l).1++[(vj x 7).toNat],(b9 l).2) (.dat (.int x))) fl R->aB [] (.prim (gG [] 2 (.sub (.var 1) (.bin .Mod (.var 4) (.lit (.int 7))))) r) (gX xs (b9 l) (.dat (.int x))) fl R:=fun k =>
   zw (l:=(b9 l).1.map KD) rfl (by rw[af];lia) hk (by rw[c8];rfl) k
  have fin:∀ {s:List Nat × Bool},b9 (l++[x])=s->((l++[x]).length<=100->∃z,gX xs s (.dat (.int x))=gX xs (b9 (l++[x])) z):=fun e U=>⟨.dat (.int x),by rw[e]⟩
  refine ul (R1:=fun ρ=>(l++[x]).length<=100->∃z,ρ=gX xs (b9 (l++[x])) z) hq (fun ht=>?_) (fun ht=>?_) fun ρ1 h=>dN h
  ·exact app (dN (fin (s:=((b9 l).1++[(vj x 7).toNat],(b9 l).2)) (by rw[uI,gm,if_neg (by rw[Ab ht];exact MY)])))
  ·have ht:(b9 l).1.contains (vj x 7).toNat=true:=Ac ht
   refine ul (R1:=fun ρ=>(l++[x]).length<=100->∃z,ρ=gX xs (b9 (l++[x])) z) (t:=!(b9 l).2) ⟨⟨trivial,rfl⟩,rfl⟩ (fun hd=>?_) (fun hd=>?_) fun ρ1 h=>dN h
   ·have hd:(b9 l).2=false:=Ab hd
    exact app (c6 (d:=.bool true) ⟨trivial,rfl⟩ (dN (fin (s:=((b9 l).1++[(vj x 7).toNat],true)) (by rw[uI,gm,if_pos ht,if_neg (by rw[hd];exact MY)]))))
   ·have hd:(b9 l).2=true:=Ac hd
    exact dN (fin (s:=b9 l) (by rw[uI,gm,if_pos ht,if_pos hd]))
 ·refine x11 (h hl) fun z e1=>?_
  subst e1
  exact Ad rfl (lp (ak rfl) fun U=>trivial)
end
noncomputable def IL(ds:List NR):Prop:=∃xs:List Int,xs.length<=100/\ds=[.list (xs.map .int)]
noncomputable def lx:FEntry:=gW (sS "_law_roads") 2 [] nG nE IL
theorem IM:∀ds,lx.pre ds->ds.length=1/\bf [] nG (bg nE ds)/\(au [] nG (bg nE ds)).1=.ret (lx.val ds) :=
 j3 fun ds h=>x12 h fun xs hl e=>by subst e;exact⟨rfl,_,Ae hl⟩
theorem IN(hl:xs.length<=100):lx.val [.list (xs.map .int)]=.list ((lw xs).map KD):=jk (Ae hl)
noncomputable def Af:IX:=(.slice (.var 2) (.cons (.var 4) .nil) (.cons (.bin .Add (.var 4) (.lit (.int 2))) .nil))
noncomputable def uL:IX:=(.cmp .Eq (.sub (.var 0) (.var 6)) Af)
noncomputable def qD:IX:=(.len (.var 0))
noncomputable def Ag:IX:=(.comp 2 false [5] (.seq (.var 3)) .nil (.gen false [6] (.range1 qD) (.cons uL .nil) (.emit (.bin .Add (.var 5) (.bin .Pow (.lit (.int 2)) (.var 6))))))
noncomputable def IO:SX:=(.prim (cn [] 3 Ag) .skip)
noncomputable def IP:SX:=(.prim (cn [] 1 (.bin .Add (.var 1) (.var 3))) .skip)
noncomputable def Ah:IX:=(.len (.var 2))
noncomputable def IQ:SX:=(.for false [4] (.range1 (.bin .Sub Ah (.lit (.int 1)))) IO IP)
noncomputable def IR:SX:=(.prim (cn [] 3 (.list (.cons (.lit (.int 0)) .nil))) IQ)
noncomputable def IS:SX:=(.prim (eW [] (.var 1)) .skip)
noncomputable def IT:IX:=(.list (.cons (.lit (.int 0)) (.cons (.lit (.int 2)) (.cons (.lit (.int 1)) (.cons (.lit (.int 3)) .nil)))))
noncomputable def IU:IX:=(.list (.cons (.lit (.int 0)) (.cons (.lit (.int 1)) (.cons (.lit (.int 2)) (.cons (.lit (.int 3)) .nil)))))
noncomputable def IV:IX:=(.list (.cons (.lit (.int 0)) (.cons (.lit (.int 2)) (.cons (.lit (.int 3)) .nil))))
noncomputable def IW:IX:=(.list (.cons (.lit (.int 0)) (.cons (.lit (.int 1)) (.cons (.lit (.int 3)) .nil))))
noncomputable def IY:IX:=(.list (.cons (.list (.cons (.lit (.int 0)) (.cons (.lit (.int 3)) .nil))) (.cons IW (.cons IV (.cons IU (.cons IT .nil))))))
noncomputable def IZ:SX:=(.for false [2] (.seq IY) IR IS)
noncomputable def Ja:SX:=(.prim (cn [] 1 (.list .nil)) IZ)
noncomputable def nH:List Str:=[sS "roads",sS "courses",sS "row",sS "masks",sS "t"]
noncomputable def nJ:SX:=Ja
theorem Ai{α:Type}{f:α->NR}{l:List α}{k:Nat}{x:α}(h:k<l.length):(l.map f).getD k .none=f (l.getD k x):=by
 rw[av,cu,av,bw h];rfl
theorem jl{α β:Type}{f:α->List β}{B:Nat}{l:List α}(h:∀x∈l,(f x).length<=B):(l.flatMap f).length<=l.length * B:=by
 rw[List.length_flatMap];exact qi h
noncomputable def eO(ks:List Nat):NR:=LD (cq (ks.getD 0 9)::ks.map df)
noncomputable abbrev ly(R:List Nat)(ms:List Nat)(k:Nat):List Nat:=ms.flatMap fun m=>(gk R k).map fun p=>m+2 ^ p
noncomputable def dg(R ks:List Nat):List Nat:=ks.foldl (ly R) [0]
noncomputable def Aj:List (List Nat × Nat):=ey.flatMap fun ks=>(dj ks.length).map fun t=>(ks,t)
theorem Jb{ks:List Nat}{t:Nat}(h:ks∈ey)(ht:t<ks.length):(ks,t)∈Aj:=dF.mpr ⟨ks,h,aJ.mpr ⟨t,jo.mpr ht,rfl⟩⟩
theorem qE:∀ks∈ey,ks.length<=3/\∀t<ks.length,ks.getD t 9<7:=by decide
noncomputable abbrev iH(R cs:List Nat)(x y z:SV):List SV:=[.dat (.list (R.map KD)),.dat (LD cs),x,y,z]
section
variable{a b c e f:SV}{R cs ks ms:List Nat}{t:Nat}
theorem Jc:∀x∈Aj,Ok [] Af [a,b,.dat (eO x.1),c,.dat (iD x.2),e,f] (KD (x.1.getD x.2 9)):=nv (by kernel_rfl)
variable(h6:R.length<=6)
include h6
theorem Ak(k:Nat):(gk R k).length<=6:=by
 unfold gk
 exact ae (j7 ..) (by rw[vl];exact h6)
theorem Al:∀(ks ms:List Nat),(ks.foldl (ly R) ms).length<=ms.length * 6 ^ ks.length
 | [],ms=>gZ (Nat.mul_one _).symm
 | k::ks,ms=>by
  refine ae (Al ks (ly R ms k)) ?_
  have:=jl (l:=ms) (f:=fun m=>(gk R k).map fun p=>m+2 ^ p) (B:=6) fun m U=>by rw[af];exact Ak h6 k
  rw[dQ,Nat.pow_succ,Nat.mul_comm (6 ^ ks.length),<- Nat.mul_assoc]
  exact NF _ this
theorem qF{ks:List Nat}(h:ks.length<=3):(dg R ks).length<=216:=ae (Al h6 ks [0]) (by rw[Mu,Nat.one_mul];exact ae (Nf (by decide) h) (by decide))
theorem Jd(h7:∀k∈R,k<7)(hks:ks∈ey)(ht:t<ks.length)(hm:ms.length<=1000):Ok [] Ag (iH R cs (.dat (eO ks)) (.dat (LD ms)) (.dat (iD t))) (LD (ly R ms (ks.getD t 9))):=by
 have hk7:=(qE ks hks).2 t ht
 have hl:Ok [] qD (iH R cs (.dat (eO ks)) (.dat (LD ms)) (.dat (iD t))++[SV.un,SV.un]) (iD R.length):=by
  have:=jh (Φ:=[]) (ρ:=iH R cs (.dat (eO ks)) (.dat (LD ms)) (.dat (iD t))++[SV.un,SV.un]) (a:=.var 0) (ds:=R.map KD) (ak rfl) (by rw[af];lia)
  rw[af]at this;exact this
 have h:=qm (Φ:=[]) (ρ:=iH R cs (.dat (eO ks)) (.dat (LD ms)) (.dat (iD t))) (n:=2) (tup:=false) (slots:=[5]) (it:=.seq (.var 3)) (ifs:=.nil) (rest:=.gen false [6] (.range1 qD) (.cons uL .nil) (.emit (.bin .Add (.var 5) (.bin .Pow (.lit (.int 2)) (.var 6)))))
  (xs:=ms) (g:=iD) (c:=fun U=>true) (F:=fun m=>(gk R (ks.getD t 9)).map fun p=>iD (m+2 ^ p)) (gh (ak rfl)) (fun U U=>rfl) (fun U U=>uh) (fun m U U=>?_) ?_
 ·have e2:(ms.flatMap fun m=>if true=true then(gk R (ks.getD t 9)).map fun p=>iD (m+2 ^ p)else[])=(ly R ms (ks.getD t 9)).map iD:=by
   rw[List.map_flatMap]
   exact ut fun m U=>by rw[if_pos rfl,fk];rfl
  rw[e2]at h
  exact h
 ·have hg:=zt (Φ:=[]) (ρ:=[.dat (.list (R.map KD)),.dat (LD cs),.dat (eO ks),.dat (LD ms),.dat (iD t),.dat (iD m),.un]) (tup:=false) (slots:=[6]) (it:=.range1 qD) (ifs:=.cons uL .nil) (rest:=.emit (.bin .Add (.var 5) (.bin .Pow (.lit (.int 2)) (.var 6))))
   (xs:=dj R.length) (g:=iD) (c:=fun p=>R.getD p 9==ks.getD t 9) (F:=fun p=>[iD (m+2 ^ p)]) (nB ?_ (by lia)) (fun U U=>rfl) (fun p hp=>uj ?_) fun p hp U=>ql ?_
  ·rw[ln]at hg;exact hg
  ·have:=jh (Φ:=[]) (ρ:=[.dat (.list (R.map KD)),.dat (LD cs),.dat (eO ks),.dat (LD ms),.dat (iD t),.dat (iD m),.un]) (a:=.var 0) (ds:=R.map KD) (ak rfl) (by rw[af];lia)
   rw[af]at this;exact this
  ·have hp:=jo.mp hp
   have hs:=uq (Φ:=[]) (ρ:=[.dat (.list (R.map KD)),.dat (LD cs),.dat (eO ks),.dat (LD ms),.dat (iD t),.dat (iD m),.dat (iD p)]) (a:=.var 0) (b:=.var 6) (ds:=R.map KD) (ak rfl) (ak rfl) (by rw[af];exact hp) (by rw[af];lia) (Ai (x:=9) hp)
   have h0:=Jc (a:=.dat (.list (R.map KD))) (b:=.dat (LD cs)) (c:=.dat (LD ms)) (e:=.dat (iD m)) (f:=.dat (iD p)) (ks,t) (Jb hks ht)
   have hr:R.getD p 9<7:=by rw[av,bw hp];exact h7 _ (M4 hp)
   have dk:∀k,bV (KD k):=fun k=>⟨(uH k).1,ae (uH k).2 (by decide)⟩
   have:=zZ hs h0 (dk _) (dk _)
   rw[uG _ hr _ hk7]at this;exact this
  ·exact nA (x:=(m:Int)) (y:=((2 ^ p:Nat):Int)) (ak rfl) (lu (ak rfl) (by have:=jo.mp hp;lia))
 ·refine ae (jl (B:=6) fun m U=>?_) (by lia)
  rw[if_pos rfl,af];exact Ak h6 _
theorem Am(h7:∀k∈R,k<7):aB [] nJ [.dat (.list (R.map KD)),a,b,c,e] (.ret (LD (aN R))) fun U=>True:=by
 refine c6 (Φ:=[]) (d:=LD []) ⟨⟨trivial,cj _⟩,rfl⟩ ?_
 refine zY (xs:=ey) (g:=eO) (Inv:=fun l ρ=>l.length<=5->∃x y z,ρ=iH R (l.flatMap (dg R)) x y z/\∀k∈l,k∈ey) (gh (uf (by kernel_rfl))) (fun x U=>rfl) (fun U=>⟨_,_,_,rfl,fun k h=>nomatch h⟩) (fun l ks ρ hks hl h=>?_) fun ρ h=>?_
 ·refine x31 (h (NC hl)) fun x y z h=>?_
  refine aj h fun e1 hin=>?_
  subst e1
  have r3:=qE ks hks
  refine c6 (d:=LD [0]) (uf (by kernel_rfl)) ?_
  have hlen:Ok [] (.bin .Sub Ah (.lit (.int 1))) (iH R (l.flatMap (dg R)) (.dat (eO ks)) (.dat (LD [0])) z) (iD ks.length):=by
   have h1:=jh (Φ:=[]) (ρ:=iH R (l.flatMap (dg R)) (.dat (eO ks)) (.dat (LD [0])) z) (a:=.var 2) (ds:=(cq (ks.getD 0 9)::ks.map df).map iD) (ak rfl) (by rw[af,dQ,af];lia)
   have h2:=uE h1 (iG (n:=1))
   rw[af,dQ,af]at h2
   rw[show iD ks.length=.int (((ks.length+1:Nat):Int) - 1)from congrArg Oo (by lia)]
   exact h2
  refine HS (n:=ks.length) (g:=iD) (Inv:=fun j ρ=>∃z,ρ=iH R (l.flatMap (dg R)) (.dat (eO ks)) (.dat (LD (dg R (ks.take j)))) z) (nB hlen (by lia)) ⟨z,rfl⟩ (fun j ρ hj h=>.inl ?_) fun ρ h=>?_
  ·refine x11 h fun z e1=>?_
   subst e1
   refine c6 (Jd h6 h7 hks hj (ae (qF h6 (by rw[Ma];lia)) (by decide))) (dN ⟨.dat (iD j),?_⟩)
   have:dg R (ks.take (j+1))=ly R (dg R (ks.take j)) (ks.getD j 9):=by
    unfold dg
    rw[NB,lT,av,bw hj];rfl
   rw[this];rfl
  ·refine x11 h fun z e1=>?_
   subst e1
   rw[Bw]
   refine c6 (d:=LD ((l++[ks]).flatMap (dg R))) ?_ (dN fun U=>⟨.dat (eO ks),.dat (LD (dg R ks)),z,rfl,fun k hk=>(aI.mp hk).elim (hin k) fun q=>by rw[ah.mp q];exact hks⟩)
   have hc:=ur (Φ:=[]) (ρ:=iH R (l.flatMap (dg R)) (.dat (eO ks)) (.dat (LD (dg R ks))) z) (a:=.var 1) (b:=.var 3) (xs:=(l.flatMap (dg R)).map iD) (ys:=(dg R ks).map iD) (ak rfl) (ak rfl) (by
    rw[af,af]
    have h1:=jl (l:=l) (f:=dg R) (B:=216) fun k hk=>qF h6 (qE k (hin k hk)).1
    have h2:=qF h6 r3.1
    have h3:ey.length=5:=rfl
    lia)
   rw[lO,show[ks].flatMap (dg R)=dg R ks from iK _]
   unfold LD
   rw[c8];exact hc
 ·refine x31 (h (by decide)) fun x y z h=>?_
  refine aj h fun e1 U=>?_
  subst e1
  exact lp (ak rfl) fun U=>trivial
end
noncomputable def Je(ds:List NR):Prop:=∃R:List Nat,R.length<=6/\(∀k∈R,k<7)/\ds=[.list (R.map KD)]
noncomputable def lz:FEntry:=gW (sS "_law_courses") 3 [] nJ nH Je
theorem Jf:∀ds,lz.pre ds->ds.length=1/\bf [] nJ (bg nH ds)/\(au [] nJ (bg nH ds)).1=.ret (lz.val ds) :=
 j3 fun ds h=>x13 h fun R h6 h7 e=>by subst e;exact⟨rfl,_,Am h6 h7⟩
theorem Jg(h6:R.length<=6)(h7:∀k∈R,k<7):lz.val [.list (R.map KD)]=LD (aN R):=jk (Am h6 h7)
theorem An(h6:R.length<=6):(aN R).length<=1080:=jl (l:=ey) (f:=dg R) (B:=216) fun k hk=>qF h6 (qE k hk).1
noncomputable def Jh:SX:=(.prim (qg [] 3 (.bin .BitOr (.var 4) (.var 2)) (.sub (.var 1) (.var 4))) .skip)
noncomputable def Ji:SX:=(.prim (qh 1 3) .skip)
noncomputable def Jj:SX:=(.for false [4] (.seq (.var 1)) Jh Ji)
noncomputable def Jk:SX:=(.prim (nt 3 1) Jj)
noncomputable def Jl:SX:=(.prim (eW [] (.var 1)) .skip)
noncomputable def Jm:SX:=(.for false [2] (.seq (.var 0)) Jk Jl)
noncomputable def Jn:SX:=(.prim (t8 [] 1 (.lit (.int 0)) (.neg (.lit (.int 1)))) Jm)
noncomputable def nK:List Str:=[sS "courses",sS "odds",sS "course",sS "wider",sS "part"]
noncomputable def nM:SX:=Jn
noncomputable def oL(o:DN):List (Int × Int):=o.map fun q=>((q.1:Int),q.2)
noncomputable def oD(o:DN):NR:=.dict (dD (oL o))
theorem Ao{a k:Nat}:decide ((a:Int)=(k:Int))=decide (a=k):=by
 rw[lS,decide_eq_true_eq,decide_eq_true_eq];exact NH
theorem Jo{w:DN}{k:Nat}:li (oL w) k=a9 w k:=by
 unfold li a9 oL
 rw[List.find?_map,Ni,show((fun q:Int × Int=>decide (q.1=(k:Int))) ∘ fun q:Nat × Int=>((q.1:Int),q.2))=fun q=>decide (q.1=k)from funext fun q=>Ao];rfl
theorem Jp{w:DN}{k:Nat}{v:Int}:lj (oL w) k v=oL (ex w k v):=by
 unfold lj ex oL
 rw[List.any_map,show((fun q:Int × Int=>decide (q.1=(k:Int))) ∘ fun q:Nat × Int=>((q.1:Int),q.2))=fun q=>decide (q.1=k)from funext fun q=>Ao]
 split
 ·rw[fk,fk]
  refine oA fun q U=>?_
  show(if(q.1:Int)=(k:Int)then((q.1:Int),v)else((q.1:Int),q.2))=(fun q:Nat × Int=>((q.1:Int),q.2)) (if q.1=k then(q.1,v)else q)
  by_cases h:q.1=k
  ·rw[if_pos h,if_pos (congrArg Nat.cast h)]
  ·rw[if_neg h,if_neg fun z=>h (NH.mp z)]
 ·rw[c8];rfl
theorem Ap(h:p∈aD o):fM (dD (oL o)) p=some (.int (a9 o p)):=by
 have e:fM (dD (oL o)) p=(o.find? fun q=>decide (q.1=p)).map fun q=>.int q.2:=by
  unfold fM oL
  rw[List.find?_map,List.find?_map,Ni,Ni]
  rw[show((fun q:NR × NR=>Oa q.1 (.int p)) ∘ (fun q:Int × Int=>(Oo q.1,Oo q.2))) ∘ (fun q:Nat × Int=>((q.1:Int),q.2))=fun q=>decide (q.1=p)from funext fun q=>by
   show((q.1:Int)==(p:Int))=decide (q.1=p)
   rw[lS,beq_iff_eq,decide_eq_true_eq];exact NH];rfl
 rw[e]
 unfold a9
 cases q:o.find? fun q=>decide (q.1=p)with
 | none =>
  refine x12 (aJ.mp h) fun r hr er=>?_
  exact absurd (decide_eq_true er) (MZ.mp q r hr)
 | some r=>rfl
section
variable{Φ:List FEntry}{ρ:List SV}{a b:IX}{o:DN}
theorem Aq(ha:Ok Φ a ρ (oD o))(hb:Ok Φ b ρ (iD p))(h:p∈aD o):Ok Φ (.sub a b) ρ (.int (a9 o p)):=by
 refine⟨⟨cC ha.1,hb.1,?_⟩,?_⟩
 ·rw[ha.2,hb.2]
  show(fM (dD (oL o)) p).isSome=true
  rw[Ap h];rfl
 ·show jv (den Φ a ρ) (den Φ b ρ)=_
  rw[ha.2,hb.2]
  show(fM (dD (oL o)) p).getD .none=_
  rw[Ap h];rfl
theorem Jq(h0:ρ.getD i .un=.dic (oL w))(hl:(oL w).length<=1000000)(ha:Ok Φ a ρ (iD k))(hb:Ok Φ b ρ (.int v))(K:aB Φ r (ρ.set i (.dic (oL (ex w k (a9 w k - v))))) fl R):aB Φ (.prim (qg Φ i a b) r) ρ fl R:=by
 refine eN ⟨⟨_,h0,hl⟩,ha.1,hb.1,_,_,ha.2,hb.2⟩ ?_ K
 show(Fl.next,ρ.set i (zb (ρ.getD i .un) (bi (den Φ a ρ)) (bi (den Φ b ρ))))=_
 rw[h0,ha.2,hb.2,<- Jp,<- Jo];rfl
theorem Ar(ha:Ok Φ a ρ (oD o)):e8 Φ (.seq a) ρ ((aD o).map iD):=by
 refine⟨⟨ha.1,by rw[ha.2];trivial⟩,?_⟩
 show items (den Φ a ρ)=_
 rw[ha.2]
 show(dD (oL o)).map (·.1)=_
 unfold oL aD
 rw[fk,fk,fk];rfl
end
theorem uM(h:∀c∈cs,c<64)(hm:m∈aD (bZ cs)):m<64 :=
 Nc (n:=6) _ fun i hi=>by
  rw[<- qV]
  intro q
  refine x13 ((ji cs).cov m hm i q) fun c h1 U h3=>?_
  rw[Nat.testBit_lt_two_pow (uA (h c h1) (Nf (n:=2) (by decide) hi))]at h3;cases h3
theorem qG(n:(aD o).Nodup)(h:∀m∈aD o,m<64):(oL o).length<=64:=by
 have:=List.Nodup.length_le_of_subset n (l₂:=dj 64) fun m hm=>jo.mpr (h m hm)
 unfold aD at this
 rw[af,vl]at this
 unfold oL
 rw[af];exact this
theorem Jr:qe (.dat (oD o))=.dic (oL o):=congrArg SV.dic (y7 _)
noncomputable abbrev jm(cs:List Nat)(o:DN)(x y z:SV):List SV:=[.dat (LD cs),.dat (oD o),x,y,z]
theorem Js(cs:List Nat)(c:Nat):bZ (cs++[c])=iE c (bZ cs):=lT
section
variable{a b c e:SV}{cs:List Nat}
theorem As(h64:∀c∈cs,c<64):aB [] nM [.dat (LD cs),a,b,c,e] (.ret (oD (bZ cs))) fun U=>True:=by
 refine eN (ρ1:=jm cs [(0,-1)] b c e) ⟨trivial,⟨trivial,rfl⟩,0,-1,rfl,rfl⟩ rfl ?_
 refine j2 (xs:=cs) (g:=iD) (Inv:=fun l ρ=>∃x y z,ρ=jm cs (bZ l) x y z) (gh (ak rfl)) (fun x U=>rfl) ⟨_,_,_,rfl⟩ (fun l c r ρ ecs h=>?_) fun ρ h=>?_
 ·have hc64:c<64:=h64 c (ecs▸cG _ ag)
  have hl64:∀c'∈l,c' < 64:=fun c' q=>h64 c' (ecs▸cQ _ q)
  refine x31 h fun x y z e1=>?_
  subst e1
  have nd:=(ji l).nd
  have k64:∀m∈aD (bZ l),m<64:=fun m hm=>uM hl64 hm
  generalize hgo:bZ l=o at nd k64 ⊢
  refine eN (p:=nt 3 1) (ρ1:=jm cs o (.dat (iD c)) (.dic (oL o)) z) ⟨_,rfl,by rw[af];exact ae (qG nd k64) (by decide)⟩ (by
   show(Fl.next,jm cs o (.dat (iD c)) (qe (.dat (oD o))) z)=_
   rw[Jr]) ?_
  refine j2 (xs:=aD o) (g:=iD) (Inv:=fun ps ρ=>∃z,ρ=jm cs o (.dat (iD c)) (.dic (oL (ps.foldl (fun w p=>ex w (p ||| c) (a9 w (p ||| c) - a9 o p)) o))) z) (Ar (ak rfl)) (fun x U=>rfl) ⟨z,rfl⟩ (fun ps p r' ρ eps h=>?_) fun ρ h=>?_
  ·have hp:p∈aD o:=eps▸cG _ ag
   have hps:∀q∈ps,q∈aD o:=fun q hq=>eps▸cQ _ hq
   refine x11 h fun z e1=>?_
   subst e1
   have f:=ux o c ps o nd
   have fl:∀m∈aD (ps.foldl (fun w p=>ex w (p ||| c) (a9 w (p ||| c) - a9 o p)) o),m<64:=fun m hm=>by
    rcases(f.ky m).mp hm with q | ⟨p',q,e⟩
    ·exact k64 m q
    ·rw[e];exact Nat.or_lt_two_pow (n:=6) (k64 p' (hps p' q)) hc64
   have l64:=qG f.nd fl
   rw[lT]
   generalize hgw:ps.foldl (fun w p=>ex w (p ||| c) (a9 w (p ||| c) - a9 o p)) o=w at l64 ⊢
   have hor:Ok [] (.bin .BitOr (.var 4) (.var 2)) (jm cs o (.dat (iD c)) (.dic (oL w)) (.dat (iD p))) (iD (p ||| c)):=qA (ak rfl) (ak rfl)
   have hsu:Ok [] (.sub (.var 1) (.var 4)) (jm cs o (.dat (iD c)) (.dic (oL w)) (.dat (iD p))) (.int (a9 o p)):=Aq (ak rfl) (ak rfl) hp
   exact Jq rfl (ae l64 (by decide)) hor hsu (dN ⟨.dat (iD p),rfl⟩)
  ·refine x11 h fun z e1=>?_
   subst e1
   refine eN (p:=qh 1 3) (ρ1:=jm cs (iE c o) (.dat (iD c)) (.dat (oD (iE c o))) z) ⟨_,rfl⟩ rfl (dN ⟨.dat (iD c),.dat (oD (iE c o)),z,?_⟩)
   rw[Js,hgo]
 ·refine x31 h fun x y z e1=>?_
  subst e1
  exact lp (ak rfl) fun U=>trivial
end
noncomputable def Jt(ds:List NR):Prop:=∃cs:List Nat,(∀c∈cs,c<64)/\ds=[LD cs]
noncomputable def lA:FEntry:=gW (sS "_law_odds") 3 [] nM nK Jt
theorem Ju:∀ds,lA.pre ds->ds.length=1/\bf [] nM (bg nK ds)/\(au [] nM (bg nK ds)).1=.ret (lA.val ds) :=
 j3 fun ds h=>x12 h fun cs h64 e=>by subst e;exact⟨rfl,_,As h64⟩
theorem Jv(h64:∀c∈cs,c<64):lA.val [LD cs]=oD (bZ cs):=jk (As h64)
noncomputable def At:IX:=(.cmp .Gt (.bin .BitAnd (.var 1) (.bin .Pow (.lit (.int 2)) (.var 2))) (.lit (.int 0)))
noncomputable def Au:IX:=(.len (.var 0))
noncomputable def Jw:IX:=(.comp 1 false [2] (.range1 Au) (.cons At .nil) (.emit (.sub (.var 0) (.var 2))))
noncomputable def Jx:SX:=(.prim (eW [] Jw) .skip)
noncomputable def nN:List Str:=[sS "roads",sS "part"]
noncomputable def nP:SX:=Jx
noncomputable def Jy:IX:=(.bin .BitOr (.bin .BitOr (.var 1) (.bin .Pow (.lit (.int 2)) (.var 2))) (.bin .Pow (.lit (.int 2)) (.var 3)))
noncomputable def Jz:SX:=(.prim (cn [] 1 Jy) .skip)
noncomputable def Av:IX:=(.cmp .Gt (.bin .BitAnd (.var 1) (.bin .Pow (.lit (.int 2)) (.var 4))) (.lit (.int 0)))
noncomputable def JA:IX:=(.comp 1 false [4] (.range1 (.lit (.int 4))) (.cons Av .nil) (.emit (.var 4)))
noncomputable def JB:IX:=(.len JA)
noncomputable def JC:SX:=(.prim (eW [] JB) .skip)
noncomputable def JD:SX:=(.for true [2,3] (.seq (.var 0)) Jz JC)
noncomputable def JE:SX:=(.prim (cn [] 1 (.lit (.int 0))) JD)
noncomputable def nQ:List Str:=[sS "told",sS "seen",sS "tail",sS "head"]
noncomputable def nR:SX:=JE
noncomputable def JF:SX:=(.prim (pT [] 1 (.cons (.var 3) (.cons (.var 2) .nil))) .skip)
noncomputable def JG:SX:=(.prim (eW [] (.lit (.bool true))) .skip)
noncomputable def JH:SX:=(.prim (kY 1 (.bool false)) JG)
noncomputable def JI:SX:=(.for true [2,3] (.seq (.var 0)) JF JH)
noncomputable def JJ:SX:=(.prim (tj 1) JI)
noncomputable def nS:List Str:=[sS "told",sS "sorter",sS "tail",sS "head"]
noncomputable def nT:SX:=JJ
section
variable{a b c e:SV}{R K:List Nat}
theorem Aw(h6:R.length<=6)(m:Nat):aB [] nP [.dat (.list (R.map KD)),.dat (iD m)] (.ret (.list ((aF R m).map KD))) fun U=>True:=by
 have hl:=jh (Φ:=[]) (ρ:=[.dat (.list (R.map KD)),.dat (iD m)]) (a:=.var 0) (ds:=R.map KD) (ak rfl) (by rw[af];lia)
 rw[af]at hl
 have h:=qo (Φ:=[]) (ρ:=[.dat (.list (R.map KD)),.dat (iD m)]) (n:=1) (slot:=2) (it:=.range1 Au) (q:=At) (e:=.sub (.var 0) (.var 2)) (xs:=dj R.length) (g:=iD) (c:=fun k=>m.testBit k) (f:=fun k=>KD (R.getD k 9)) (nB hl (by lia))
  (fun k hk=>uF (ak rfl) (ak rfl) (by have:=jo.mp hk;lia)) (fun k hk U=>uq (ds:=R.map KD) (ak rfl) (ak rfl) (by rw[af];exact jo.mp hk) (by rw[af];lia) (Ai (jo.mp hk))) (by rw[vl];lia)
 refine lp ?_ fun U=>trivial
 unfold aF de
 rw[fk];exact h
noncomputable def gY(K:List Nat)(s:Nat):Nat:=K.foldl (fun s k=>s ||| 2 ^ cq k ||| 2 ^ df k) s
theorem Ax:∀(K:List Nat) (s:Nat),(gY K s).testBit p=(s.testBit p||K.any fun k=>cq k==p||df k==p)
 | [],s=>(QA _).symm
 | k::K,s=>by
  rw[show gY (k::K) s=gY K (s ||| 2 ^ cq k ||| 2 ^ df k)from rfl,Ax K,gj,gj,List.any_cons,Bool.or_assoc,Bool.or_assoc,<- Bool.or_assoc (decide _)];rfl
theorem k7:∀k<7,cq k<=3/\df k<=3/\1<=df k/\(cq k≠0->(df k=1->k=5/\cq k=2)/\(df k=2->k=3/\cq k=1)/\(cq k=1\/cq k=2)):=by decide
theorem Ay(h7:∀k∈K,k<7):aB [] nR [.dat (.list (K.map KD)),a,b,c] (.ret (iD (gV K))) fun U=>True:=by
 refine c6 (d:=iD 0) ⟨trivial,rfl⟩ ?_
 refine j2 (xs:=K) (g:=KD) (Inv:=fun l ρ=>∃x y,ρ=[.dat (.list (K.map KD)),.dat (iD (gY l 0)),x,y]) (gh (ak rfl)) (fun x U=>⟨rfl,rfl⟩) ⟨_,_,rfl⟩ (fun l k r ρ e h=>?_) fun ρ h=>?_
 ·refine x21 h fun x y e1=>?_
  subst e1
  have hk:=k7 k (h7 k (e▸cG _ ag))
  refine c6 (d:=iD (gY l 0 ||| 2 ^ cq k ||| 2 ^ df k)) (qA (qA (ak rfl) (lu (ak rfl) (by lia))) (lu (ak rfl) (by lia))) (dN ⟨.dat (iD (cq k)),.dat (iD (df k)),?_⟩)
  unfold gY
  rw[lT];rfl
 ·refine x21 h fun x y e1=>?_
  subst e1
  have h:=qo (Φ:=[]) (ρ:=[.dat (.list (K.map KD)),.dat (iD (gY K 0)),x,y]) (n:=1) (slot:=4) (it:=.range1 (.lit (.int 4))) (q:=Av) (e:=.var 4) (xs:=dj 4) (g:=iD) (c:=fun p=>(gY K 0).testBit p) (f:=iD) (zs (k:=4) (by decide))
   (fun p hp=>uF (ak rfl) (ak rfl) (by have:=jo.mp hp;lia)) (fun p hp U=>ak rfl) (by decide)
  have hl:((dj 4).filter fun p=>(gY K 0).testBit p).length<=4:=ae (j7 ..) (by decide)
  have h2:=jh h (by rw[af];lia)
  rw[af]at h2
  refine lp ?_ fun U=>trivial
  have e:gV K=((dj 4).filter fun p=>(gY K 0).testBit p).length:=by
   unfold gV
   refine congrArg List.length (List.filter_congr fun p U=>?_)
   rw[Ax,gM];rfl
  rw[e];exact h2
noncomputable def qH(k:Nat):lm:=((df k:Int),[(cq k:Int)])
noncomputable def lB(K:List Nat):Gr:=(K.map qH).foldl ew []
theorem qI(h8:K.length<=8):zq (K.map qH):=⟨by rw[af];exact h8,fun r hr=>x12 (aJ.mp hr) fun k U e=>by rw[<- e];exact(by decide:1<=3)⟩
theorem JK(h8:K.length<=8)(h7:∀k∈K,k<7):gd (lB K)=!bE K:=by
 cases e:gd (lB K)with
 | false =>
  cases q:bE K with
  | true=>rfl
  | false =>
   unfold bE at q
   rw[Bool.not_eq_false',e7,gC,gC]at q
   refine absurd (.inl rfl) (HO (qI h8) e (C:=fun x=>x=1\/x=2) (fun x hx=>?_) 1)
   rcases hx with rfl | rfl
   ·exact⟨qH 5,aJ.mpr ⟨5,q.2,rfl⟩,rfl,2,ag,.inr rfl⟩
   ·exact⟨qH 3,aJ.mpr ⟨3,q.1,rfl⟩,rfl,1,ag,.inl rfl⟩
 | true =>
  refine x12 (HP (qI h8) e) fun C hC hcl=>?_
  have st:∀x∈C,∃k∈K,(df k:Int)=x/\(cq k:Int)∈C:=fun x hx=>by
   refine x13 (hcl x hx) fun r hr e z=>x12 (aJ.mp hr) fun k hk ek=>x12 z fun p hp hpC=>?_
   subst ek
   exact⟨k,hk,e,by rw[<- (ah.mp hp:p=(cq k:Int))];exact hpC⟩
  have st2:∀x∈C,∃k∈K,(df k:Int)=x/\(cq k:Int)∈C/\cq k≠0:=fun x hx=>by
   refine x13 (st x hx) fun k hk e hC=>⟨k,hk,e,hC,fun z=>?_⟩
   refine x13 (st _ hC) fun j hj ej U=>?_
   have:=(k7 j (h7 j hj)).2.2.1
   rw[z]at ej
   lia
  have one:(1:Int)∈C->5∈K/\(2:Int)∈C:=fun h=>by
   refine x14 (st2 1 h) fun k hk e hC n=>?_
   have:=((k7 k (h7 k hk)).2.2.2 n).1 (by lia)
   refine⟨this.1▸hk,?_⟩
   rw[this.2]at hC;exact hC
  have bB:(2:Int)∈C->3∈K/\(1:Int)∈C:=fun h=>by
   refine x14 (st2 2 h) fun k hk e hC n=>?_
   have:=((k7 k (h7 k hk)).2.2.2 n).2.1 (by lia)
   refine⟨this.1▸hk,?_⟩
   rw[this.2]at hC;exact hC
  have both:3∈K/\5∈K:=by
   obtain⟨x,hx⟩:=List.exists_mem_of_ne_nil C hC
   refine x14 (st2 x hx) fun k hk e hC n=>?_
   rcases((k7 k (h7 k hk)).2.2.2 n).2.2 with q | q
   ·rw[q]at hC
    have h1:=one hC
    exact⟨(bB h1.2).1,h1.1⟩
   ·rw[q]at hC
    have h1:=bB hC
    exact⟨h1.1,(one h1.2).1⟩
  unfold bE
  rw[gC.mpr both.1,gC.mpr both.2];rfl
theorem Az(h8:K.length<=8)(h7:∀k∈K,k<7):aB [] nT [.dat (.list (K.map KD)),a,b,c] (.ret (.bool (bE K))) fun U=>True:=by
 refine eN (p:=tj 1) (ρ1:=[.dat (.list (K.map KD)),.sor ⟨lB [],none,0,0⟩,b,c]) trivial rfl ?_
 refine j2 (xs:=K) (g:=KD) (Inv:=fun l ρ=>∃x y,ρ=[.dat (.list (K.map KD)),.sor ⟨lB l,none,0,0⟩,x,y]) (gh (ak rfl)) (fun x U=>⟨rfl,rfl⟩) ⟨_,_,rfl⟩ (fun l k r ρ e h=>?_) fun ρ h=>?_
 ·refine x21 h fun x y e1=>?_
  subst e1
  have hu:=(nw (qI (K:=l) (by rw[e,cb]at h8;lia))).1
  refine Ix (x:=(df k:Int)) (y:=(cq k:Int)) rfl ⟨hu.len,hu.sl⟩ (ak rfl) (ak rfl) (dN ⟨.dat (iD (cq k)),.dat (iD (df k)),?_⟩)
  unfold lB
  rw[c8,lT];rfl
 ·refine x21 h fun x y e1=>?_
  subst e1
  have:=Iy (Φ:=[]) (i:=1) (d:=.bool false) (e:=.bool true) (R:=fun U=>True) (ρ:=[.dat (.list (K.map KD)),.sor ⟨lB K,none,0,0⟩,x,y]) rfl (ug (qI h8)) fun U=>trivial
  rw[JK h8 h7,show(if(!bE K)=true then Pi false else .bool true)=.bool (bE K)from by cases bE K<;>rfl]at this
  exact this
end
noncomputable def JL(ds:List NR):Prop:=∃(R:List Nat) (m:Nat),R.length<=6/\ds=[.list (R.map KD),iD m]
noncomputable def lC:FEntry:=gW (sS "_law_told") 2 [] nP nN JL
theorem JM:∀ds,lC.pre ds->ds.length=2/\bf [] nP (bg nN ds)/\(au [] nP (bg nN ds)).1=.ret (lC.val ds) :=
 j3 fun ds h=>x22 h fun R m h6 e=>by subst e;exact⟨rfl,_,Aw h6 m⟩
theorem AA(h6:R.length<=6)(m:Nat):lC.val [.list (R.map KD),iD m]=.list ((aF R m).map KD):=jk (Aw h6 m)
noncomputable def AB(ds:List NR):Prop:=∃K:List Nat,K.length<=8/\(∀k∈K,k<7)/\ds=[.list (K.map KD)]
noncomputable def lD:FEntry:=gW (sS "_law_places") 2 [] nR nQ AB
theorem JN:∀ds,lD.pre ds->ds.length=1/\bf [] nR (bg nQ ds)/\(au [] nR (bg nQ ds)).1=.ret (lD.val ds) :=
 j3 fun ds h=>x13 h fun K h8 h7 e=>by subst e;exact⟨rfl,_,Ay h7⟩
theorem JO{K:List Nat}(h7:∀k∈K,k<7):lD.val [.list (K.map KD)]=iD (gV K):=jk (Ay h7)
noncomputable def lE:FEntry:=gW (sS "_law_ringless") 4 [] nT nS AB
theorem JP:∀ds,lE.pre ds->ds.length=1/\bf [] nT (bg nS ds)/\(au [] nT (bg nS ds)).1=.ret (lE.val ds) :=
 j3 fun ds h=>x13 h fun K h8 h7 e=>by subst e;exact⟨rfl,_,Az h8 h7⟩
theorem AC{K:List Nat}(h8:K.length<=8)(h7:∀k∈K,k<7):lE.val [.list (K.map KD)]=.bool (bE K):=jk (Az h8 h7)
noncomputable def JQ:IX:=(.call 0 (.cons (.var 0) .nil))
noncomputable def JR:IX:=(.len (.var 0))
noncomputable def JS:IX:=(.cmp .Eq (.var 3) JR)
noncomputable def JT:IX:=(.cmp .Eq (.slice (.var 1) (.cons (.neg (.lit (.int 3))) .nil) .nil) (.lit (.str (sS ")\\Z"))))
noncomputable def JU:IX:=(.cmp .Eq (.slice (.var 1) .nil (.cons (.lit (.int 4)) .nil)) (.lit (.str (sS "(?s:"))))
noncomputable def uN:IX:=(.bop false (.cons JU (.cons JT (.cons JS .nil))))
noncomputable def JV:IX:=(.ite uN (.var 2) (.list .nil))
noncomputable def JW:SX:=(.prim (eW [bD] JV) .skip)
noncomputable def JX:IX:=(.len (.var 1))
noncomputable def uO:IX:=(.cmp .Lt (.var 4) (.bin .Sub JX (.lit (.int 3))))
noncomputable def uP:IX:=(.cmp .Eq (.sub (.var 1) (.var 4)) (.lit (.str (sS "\\"))))
noncomputable def AD:IX:=(.ite uP (.lit (.int 2)) (.lit (.int 1)))
noncomputable def uQ:IX:=(.bin .Add (.var 6) (.bin .Mult (.var 7) (.bin .Pow (.lit (.int 2)) (.var 3))))
noncomputable def JY:IX:=(.slice (.var 1) (.cons (.var 4) .nil) (.cons (.bin .Add (.var 4) (.var 5)) .nil))
noncomputable def JZ:IX:=(.list (.cons (.lit (.str (sS "\\-"))) (.cons (.lit (.str (sS "\\+"))) .nil)))
noncomputable def uR:IX:=(.tup (.cons (.lit (.str (sS "."))) (.cons (.sub JZ (.var 7)) .nil)))
noncomputable def qJ:IX:=(.cmp .In JY uR)
noncomputable def J0:IX:=(.comp 2 false [6] (.seq (.var 2)) .nil (.gen false [7] (.seq (.tup (.cons (.lit (.int 0)) (.cons (.lit (.int 1)) .nil)))) (.cons qJ .nil) (.emit uQ)))
noncomputable def J1:SX:=(.prim (kL [bD] [3,4] [(false,(.bin .Add (.var 3) (.lit (.int 1)))),(false,(.bin .Add (.var 4) (.var 5)))]) .skip)
noncomputable def J2:SX:=(.prim (cn [bD] 2 J0) J1)
noncomputable def J3:SX:=(.prim (cn [bD] 5 AD) J2)
noncomputable def J4:SX:=(.whl 64 uO J3 JW)
noncomputable def J5:SX:=(.prim (kL [bD] [1,2,3,4] [(false,JQ),(false,(.list (.cons (.lit (.int 0)) .nil))),(false,(.lit (.int 0))),(false,(.lit (.int 4)))]) J4)
noncomputable def nU:List Str:=[sS "pattern",sS "text",sS "days",sS "t",sS "k",sS "size"]
noncomputable def nV:SX:=J5
theorem J6{fl:Fl}{R:List SV->Prop}{r body:SX}{N:Nat}{Inv:Nat->List SV->Prop}(h0:Inv 0 ρ)(hN:N<64)(hb:∀k ρ,k<N->Inv k ρ->Ok Φ c ρ (.bool true)/\aB Φ body ρ .next (Inv (k+1)))
 (he:∀ρ,Inv N ρ->Ok Φ c ρ (.bool false)/\aB Φ r ρ fl R):aB Φ (.whl 64 c body r) ρ fl R:=by
 have key:∀(j n k:Nat) (ρ:List SV),k+j=N->j<n->Inv k ρ->pv (fun ρ=>pre Φ c false ρ/\ec (den Φ c ρ)=true) (bf Φ body) (fun ρ=>aq (den Φ c ρ)) (au Φ body) n ρ /\
  ∃ρ',gE (fun ρ=>aq (den Φ c ρ)) (au Φ body) n ρ=(.next,ρ')/\Inv N ρ':=by
  intro j
  induction j with
  | zero =>
   intro n k ρ e hn h
   cases n with
   | zero=>exact absurd hn (bj 0)
   | succ n =>
    have hk:k=N:=e
    subst hk
    have hc:=(he ρ h).1
    have ht:aq (den Φ c ρ)=false:=by rw[hc.2];rfl
    refine⟨⟨⟨hc.1,by rw[hc.2];rfl⟩,fun q=>?_⟩,ρ,if_neg fun q=>?_,h⟩
    ·have q:aq (den Φ c ρ)=true:=q
     rw[ht]at q;cases q
    ·have q:aq (den Φ c ρ)=true:=q
     rw[ht]at q;cases q
  | succ j ih =>
   intro n k ρ e hn h
   cases n with
   | zero=>exact absurd hn (Nat.not_lt_zero _)
   | succ n =>
    obtain⟨hc,hp,ρ1,hd,h1⟩:=hb k ρ (by lia) h
    have ht:aq (den Φ c ρ)=true:=by rw[hc.2];rfl
    obtain⟨i1,ρ2,i2,i3⟩:=ih n (k+1) ρ1 (by lia) (Nat.lt_of_succ_lt_succ hn) h1
    refine⟨⟨⟨hc.1,by rw[hc.2];rfl⟩,fun U=>⟨hp,by rw[hd];exact i1⟩⟩,ρ2,?_,i3⟩
    show(if aq (den Φ c ρ)=true then(match au Φ body ρ with | (.next,ρ')=>gE _ _ n ρ' | (.brk,ρ')=>(.next,ρ') | (.ret v,ρ')=>(.ret v,ρ'))else(Fl.next,ρ))=_
    rw[if_pos ht,hd];exact i2
 obtain⟨k1,ρ',k2,k3⟩:=key N 64 0 ρ (oR N) hN h0
 obtain⟨m1,m2⟩:=qp (S:=body) k2 (he ρ' k3).2
 exact⟨⟨k1,m1⟩,m2⟩
noncomputable def go(n m:Nat):NR:=.str ⟨((dj n).map fun k=>if m.testBit k=true then 43 else 63).toArray⟩
noncomputable def fH(m t:Nat):List Nat:=if m.testBit t=true then[92,43]else[46]
noncomputable def gq(n m:Nat):List Nat:=[40,63,115,58]++(dj n).flatMap (fH m)++[41,92,90]
noncomputable def AE(n m:Nat):NR:=.str ⟨(gq n m).toArray⟩
noncomputable def dO(m t:Nat):Nat:=if m.testBit t=true then 2 else 1
noncomputable def ez(m t:Nat):Nat:=((dj t).map (dO m)).sum+4
noncomputable def fg(m t:Nat):List Nat:=if m.testBit t=true then[1]else[0,1]
noncomputable def bc(n m:Nat):List Nat:=(dj n).foldl (fun ds t=>ds.flatMap fun d=>(fg m t).map fun b=>d+b * 2 ^ t) [0]
noncomputable def dw:List (Nat × Nat):=(dj 7).flatMap fun n=>((dj (2 ^ n)).filter fun m=>Nat.ble 1 (de n m).length&&Nat.ble (de n m).length 3).map fun m=>(n,m)
noncomputable def j4:List (Nat × Nat × Nat):=dw.flatMap fun q=>(dj q.1).map fun t=>(q.1,q.2,t)
theorem J7(h:(n,m)∈dw)(ht:t<n):(n,m,t)∈j4:=dF.mpr ⟨(n,m),h,aJ.mpr ⟨t,jo.mpr ht,rfl⟩⟩
theorem J8:∀q∈dw,bD.val [go q.1 q.2]=AE q.1 q.2:=List.map_inj_left.mp (by kernel_rfl)
noncomputable def AF:(ds:List NR)->SB (bD.pre ds)
 | [.str ⟨a⟩]=>⟨(a.toList.all fun c=>gP.any fun d=>Nat.beq d c)&&Nat.ble a.size 100,fun h=>a7 h fun h1 h2=>⟨a.toList,rfl,fun c hc=>x12 (dP.mp (bt.mp h1 c hc)) fun d hd e=>Nat.eq_of_beq_eq_true e▸hd,oC h2⟩⟩
 | _=>.no
theorem J9:∀q∈dw,bD.pre [go q.1 q.2]:=fun q hq=>(AF _).2 (bt.mp (show(dw.all fun q=>(AF [go q.1 q.2]).1)=true by kernel_rfl) q hq)
noncomputable abbrev fh(n m t:Nat)(x z:SV):List SV:=[.dat (go n m),.dat (AE n m),x,.dat (iD t),.dat (iD (ez m t)),z]
theorem Ka:(j4.all fun q=>Nat.beq ((gq q.1 q.2.1).getD (ez q.2.1 q.2.2) 0) ((fH q.2.1 q.2.2).getD 0 0)&&((gq q.1 q.2.1).drop (ez q.2.1 q.2.2)).take (dO q.2.1 q.2.2)==fH q.2.1 q.2.2&&Nat.ble (ez q.2.1 q.2.2+4) (gq q.1 q.2.1).length&&Nat.ble (gq q.1 q.2.1).length 100)=true:=by kernel_rfl
theorem Kb{L:List Nat}{k:Nat}:L.toArray.getD k 0=L.getD k 0:=by
 rw[Array.getD_eq_getD_getElem?,List.getElem?_toArray,av]
section
variable{Φ:List FEntry}{ρ:List SV}{a b c:IX}{L:List Nat}
theorem Kc{k:Nat}(ha:Ok Φ a ρ (.str ⟨L.toArray⟩))(hb:Ok Φ b ρ (iD k))(hk:k<L.length)(hl:L.length<=1000):Ok Φ (.sub a b) ρ (.str ⟨#[L.getD k 0]⟩):=by
 refine⟨⟨cC ha.1,hb.1,?_⟩,?_⟩
 ·rw[ha.2,hb.2]
  show -1000000000<=(k:Int)/\(k:Int)<=1000000000/\-((L.toArray.size:Nat):Int)<=k/\(k:Int)<(L.toArray.size:Nat)
  rw[vm];lia
 ·show jv (den Φ a ρ) (den Φ b ρ)=_
  rw[ha.2,hb.2]
  show OE ⟨#[L.toArray.getD (if(k:Int)<0 then _ else(k:Int).toNat) 0]⟩=_
  rw[if_neg (by lia),kg,Kb]
theorem Kd(ha:Ok Φ a ρ (.str ⟨L.toArray⟩))(hb:Ok Φ b ρ (iD i))(hc:Ok Φ c ρ (iD (i+j)))(hl:i+j<=L.length/\L.length<=1000):Ok Φ (.slice a (.cons b .nil) (.cons c .nil)) ρ (.str ⟨((L.drop i).take j).toArray⟩):=by
 refine⟨⟨cC ha.1,hb.1,hc.1,?_⟩,?_⟩
 ·rw[ha.2,show dS Φ (.cons b .nil) ρ=_ from hb.2,show dS Φ (.cons c .nil) ρ=_ from hc.2]
  exact⟨by show L.toArray.size<=_;rw[vm];lia,rfl,rfl⟩
 ·show jw (den Φ a ρ) (dS Φ (.cons b .nil) ρ) (dS Φ (.cons c .nil) ρ)=_
  rw[ha.2,show dS Φ (.cons b .nil) ρ=_ from hb.2,show dS Φ (.cons c .nil) ρ=_ from hc.2]
  show OE ⟨((L.drop (Pg L.length (i:Int))).take (Pg L.length ((i+j:Nat):Int) - Pg L.length (i:Int))).toArray⟩=_
  rw[ml,ml,Nat.min_eq_left (ae (Bx i j) hl.1),Nat.min_eq_left hl.1,Nat.add_sub_cancel_left]
theorem AG(m t:Nat):bV (.str ⟨(fH m t).toArray⟩)/\bV (.str ⟨#[(fH m t).getD 0 0]⟩):=by unfold fH;cases m.testBit t<;>exact⟨⟨by decide +kernel,cj _⟩,by decide +kernel,cj _⟩
theorem Ke(ha:Ok Φ a ρ d)(hb:Ok Φ b ρ (.tuple ds))(h1:bV d)(h2:OC ds=true):Ok Φ (.cmp .In a b) ρ (.bool (ds.any fun y=>Oa y d)):=by
 refine⟨⟨cC ha.1,cC hb.1,by rw[ha.2,hb.2];exact⟨h1,h2⟩⟩,?_⟩
 show Pi (ma (den Φ a ρ) (den Φ b ρ))=_
 rw[ha.2,hb.2];rfl
end
theorem AH(h:(n,m,t)∈j4):(gq n m).getD (ez m t) 0=(fH m t).getD 0 0/\((gq n m).drop (ez m t)).take (dO m t)=fH m t/\ez m t+4<=(gq n m).length/\(gq n m).length<=100 :=
 fm (bt.mp Ka _ h) fun h1 h2 h3 h4=>⟨Nat.eq_of_beq_eq_true h1,NY h2,oC h3,oC h4⟩
noncomputable def qK(b:Nat):List NR:=[.str ⟨#[46]⟩,.str ⟨#[92,if b=0 then 45 else 43]⟩]
section
variable{x z a b:SV}{n m t:Nat}
theorem Kf:∀q∈j4,Ok [bD] uO (fh q.1 q.2.1 q.2.2 x z) (.bool true):=nv (by kernel_rfl)
theorem Kg(h:(n,m,t)∈j4):Ok [bD] AD (fh n m t x z) (iD (dO m t)):=by
 obtain⟨h1,h2,h3,h4⟩:=AH h
 have hs:=Kc (Φ:=[bD]) (ρ:=fh n m t x z) (a:=.var 1) (b:=.var 4) (L:=gq n m) (k:=ez m t) (ak rfl) (ak rfl) (by lia) (by lia)
 have hq:Ok [bD] uP (fh n m t x z) (.bool (m.testBit t)):=by
  rw[h1]at hs
  have:=zZ (b:=.lit (.str (sS "\\"))) (e:=.str (sS "\\")) hs ⟨trivial,rfl⟩ (AG m t).2 ⟨by decide +kernel,cj _⟩
  rw[show Oa (.str ⟨#[(fH m t).getD 0 0]⟩) (.str (sS "\\"))=m.testBit t by unfold fH;cases m.testBit t<;>decide +kernel]at this
  exact this
 refine⟨⟨hq.1,by rw[hq.2];rfl,fun U=>trivial,fun U=>trivial⟩,?_⟩
 show(if aq (den [bD] uP _)=true then Oo 2 else .int 1)=_
 rw[hq.2]
 unfold dO
 cases m.testBit t<;>rfl
theorem Kh:∀b∈[0,1],Ok [bD] uR [x,z,a,c,d,e,f,.dat (iD b)] (.tuple (qK b)):=nv (by kernel_rfl)
theorem Ki (h : (n, m, t) ∈ j4) {b : Nat} (hb : b ∈ [0, 1]) : Ok [bD] qJ (fh n m t x (.dat (iD (dO m t))) ++ [a, .dat (iD b)]) (.bool ((fg m t).contains b)) := by
  obtain ⟨h1, h2, h3, h4⟩ := AH h
  have hz : dO m t ≤ 2 := by unfold dO; split <;> decide
  have hs := Kd (Φ := [bD]) (ρ := fh n m t x (.dat (iD (dO m t))) ++ [a, .dat (iD b)]) (a := .var 1) (b := .var 4) (c := .bin .Add (.var 4) (.var 5)) (L := gq n m) (i := ez m t) (j := dO m t) (ak rfl) (ak rfl) (nA (x := (ez m t : Int)) (y := (dO m t : Int)) (ak rfl) (ak rfl)) (by lia)
  rw [h2] at hs
  have hl : Ok [bD] uR (fh n m t x (.dat (iD (dO m t))) ++ [a, .dat (iD b)]) (.tuple (qK b)) := Kh b hb
  have := Ke hs hl (AG m t).1 ((aa.mp hb).elim (fun e => e ▸ by decide +kernel) fun e => ah.mp e ▸ by decide +kernel)
  rw [show ((qK b).any fun y => Oa y (.str ⟨(fH m t).toArray⟩)) = (fg m t).contains b by
    unfold fH fg qK
    rcases aa.mp hb with rfl | hb
    · cases m.testBit t <;> decide +kernel
    · rw [ah.mp hb]; cases m.testBit t <;> decide +kernel] at this
  exact this
theorem Kj:∀q∈dw,Ok [bD] uO (fh q.1 q.2 q.1 x z) (.bool false):=nv (by kernel_rfl)
theorem Kk:∀q∈dw,Ok [bD] uN (fh q.1 q.2 q.1 x z) (.bool true):=nv (by kernel_rfl)
theorem Kl(m t:Nat):ez m (t+1)=ez m t+dO m t:=by unfold ez;rw[List.range_succ,c8,Ny,List.map_singleton,List.sum_singleton];lia
theorem qL(m:Nat):∀n,((dj n).foldl (fun ds t=>ds.flatMap fun d=>(fg m t).map fun b=>d+b * 2 ^ t) [0]).length<=2 ^ n:=fun n=>by
 induction n with
 | zero=>exact bM _
 | succ n ih =>
  rw[List.range_succ,lT,Nat.pow_succ]
  refine ae (jl (B:=2) fun d U=>?_) (NF 2 ih)
  rw[af];unfold fg;split<;>decide
theorem AI{n m:Nat}(h:(n,m)∈dw)(hn:n<=6):aB [bD] nV [.dat (go n m),a,b,x,z,.un] (.ret (LD (bc n m))) fun U=>True:=by
 have hv:=J8 (n,m) h
 refine eN (ρ1:=fh n m 0 (.dat (LD [0])) .un) ⟨⟨⟨⟨trivial,trivial⟩,J9 (n,m) h⟩,(bS (.list (.cons (.lit (.int 0)) .nil)) false _).2 rfl,trivial,trivial,trivial⟩,oC rfl⟩ (by
  show(Fl.next,[SV.dat (go n m),SV.dat (bD.val [go n m]),SV.dat (LD [0]),SV.dat (iD 0),SV.dat (iD 4),SV.un])=_
  rw[hv];rfl) ?_
 refine J6 (N:=n) (Inv:=fun t ρ=>∃z,ρ=fh n m t (.dat (LD (bc t m))) z) ⟨.un,rfl⟩ (by lia) (fun t ρ ht h1=>?_) fun ρ h1=>?_
 ·refine x11 h1 fun z e1=>?_
  subst e1
  have h3:=J7 h ht
  refine⟨Kf (n,m,t) h3,c6 (Kg h3) ?_⟩
  have hl:(bc t m).length<=64:=ae (qL m t) (ae (Nf (by decide) (ae (NC ht) hn)) (by decide))
  refine c6 (d:=LD (bc (t+1) m)) ?_ ?_
  ·have hc:=qm (Φ:=[bD]) (ρ:=fh n m t (.dat (LD (bc t m))) (.dat (iD (dO m t)))) (n:=2) (tup:=false) (slots:=[6]) (it:=.seq (.var 2)) (ifs:=.nil) (rest:=.gen false [7] (.seq (.tup (.cons (.lit (.int 0)) (.cons (.lit (.int 1)) .nil)))) (.cons qJ .nil) (.emit uQ))
    (xs:=bc t m) (g:=iD) (c:=fun U=>true) (F:=fun d=>(fg m t).map fun b=>iD (d+b * 2 ^ t)) (gh (ak rfl)) (fun U U=>rfl) (fun U U=>uh) (fun d U U=>?_) ?_
   ·have e2:((bc t m).flatMap fun d=>if true=true then(fg m t).map fun b=>iD (d+b * 2 ^ t)else[])=(bc (t+1) m).map iD:=by
     unfold bc
     rw[List.range_succ,lT,NK,List.foldl_nil,List.map_flatMap]
     exact ut fun d U=>by rw[if_pos rfl,fk];rfl
    rw[e2]at hc
    exact hc
   ·have hg:=zt (Φ:=[bD]) (ρ:=fh n m t (.dat (LD (bc t m))) (.dat (iD (dO m t)))++[SV.dat (iD d),SV.un]) (tup:=false) (slots:=[7]) (it:=.seq (.tup (.cons (.lit (.int 0)) (.cons (.lit (.int 1)) .nil)))) (ifs:=.cons qJ .nil) (rest:=.emit uQ)
     (xs:=[0,1]) (g:=iD) (c:=fun b=>(fg m t).contains b) (F:=fun b=>[iD (d+b * 2 ^ t)]) ⟨(ue _ _ _).2 rfl,rfl⟩ (fun U U=>rfl) (fun b hb=>uj (Ki (x:=.dat (LD (bc t m))) (a:=.dat (iD d)) h3 hb)) fun b hb U=>ql ?_
    ·rw[ln,show([0,1].filter fun b=>(fg m t).contains b)=fg m t by unfold fg;split<;>rfl]at hg
     exact hg
    ·refine nA (x:=(d:Int)) (y:=((b * 2 ^ t:Nat):Int)) (ak rfl) ?_
     rw[Int.natCast_mul]
     refine zU (x:=(b:Int)) (y:=((2 ^ t:Nat):Int)) (ak rfl) (lu (ak rfl) (by lia)) ?_
     have:∀b∈[0,1],-65536<=(b:Int)/\(b:Int)<=65536:=by decide
     rcases aa.mp hb with rfl | hb
     ·decide
     ·rw[ah.mp hb];decide
   ·refine ae (jl (B:=2) fun d U=>?_) (by lia)
    rw[if_pos rfl,af];unfold fg;split<;>decide
  ·refine HW (d:=iD (t+1)) (d':=iD (ez m (t+1))) (nA (x:=(t:Int)) (ak rfl) iG) ?_ (dN ⟨.dat (iD (dO m t)),rfl⟩)
   rw[Kl]
   exact nA (x:=(ez m t:Int)) (y:=(dO m t:Int)) (ak rfl) (ak rfl)
 ·refine x11 h1 fun z e1=>?_
  subst e1
  refine⟨Kj (n,m) h,lp (d:=LD (bc n m)) ?_ fun U=>trivial⟩
  have hb:=Kk (x:=.dat (LD (bc n m))) (z:=z) (n,m) h
  refine⟨⟨hb.1,by rw[hb.2];rfl,fun U=>trivial,fun q=>by rw[hb.2]at q;cases q⟩,?_⟩
  show(if aq (den [bD] uN _)=true then _ else _)=_
  rw[hb.2];rfl
end
noncomputable def Km(ds:List NR):Prop:=∃n m,(n,m)∈dw/\n<=6/\ds=[go n m]
noncomputable def lF:FEntry:=gW (sS "_law_taken") 8 [bD] nV nU Km
theorem Kn:∀ds,lF.pre ds->ds.length=1/\bf [bD] nV (bg nU ds)/\(au [bD] nV (bg nU ds)).1=.ret (lF.val ds) :=
 j3 fun ds h=>x23 h fun n m h1 h2 e=>by subst e;exact⟨rfl,_,AI h1 h2⟩
theorem Ko(h:(n,m)∈dw)(hn:n<=6):lF.val [go n m]=LD (bc n m):=jk (AI h hn)
theorem Kp:(dw.all fun q=>(dj 64).all fun d=>(bc q.1 q.2).contains d==(Nat.blt d (2 ^ q.1)&&aU q.2 d))=true:=by kernel_rfl
noncomputable def aG:List FEntry:=[lx,lz,lA,lC,lD,lF]
noncomputable def iI:List FEntry:=[kZ,lE]
noncomputable def uS:IX:=(.list (.cons (.lit (.int 4)) (.cons (.lit (.int 0)) (.cons (.lit (.int 1)) (.cons (.lit (.int 3)) (.cons (.lit (.int 5)) (.cons (.lit (.int 6)) .nil)))))))
noncomputable def Kq:IX:=(.len (.slice (.var 0) .nil (.cons (.lit (.int 6)) .nil)))
noncomputable def AJ:IX:=(.bin .Add (.slice (.var 0) .nil (.cons (.lit (.int 6)) .nil)) (.slice uS (.cons Kq .nil) .nil))
noncomputable def Kr:IX:=(.call 0 (.cons AJ .nil))
noncomputable def Ks:IX:=(.call 1 (.cons (.var 1) .nil))
noncomputable def Kt:IX:=(.call 2 (.cons (.var 2) .nil))
noncomputable def AK:IX:=(.cmp .Gt (.var 13) (.lit (.int 0)))
noncomputable def Ku:IX:=(.comp 1 false [13] (.seq (.var 3)) (.cons AK .nil) (.emit (.var 13)))
noncomputable def Kv:IX:=(.call 3 (.cons (.var 1) (.cons (.var 7) .nil)))
noncomputable def Kw:IX:=(.len (.var 8))
noncomputable def AL:IX:=(.call 4 (.cons (.var 8) .nil))
noncomputable def AM:IX:=(.bin .Mult (.lit (.int 2)) (.bin .Mod (.bin .Sub Kw AL) (.lit (.int 2))))
noncomputable def Kx:SX:=(.prim (gG aG 5 (.list (.cons (.var 7) (.cons (.var 9) .nil)))) .skip)
noncomputable def uT:IX:=(.cmp .In (.list (.cons (.var 7) (.cons (.var 9) .nil))) (.var 5))
noncomputable def AN:IX:=(.ite uT (.var 9) (.lit (.int 0)))
noncomputable def AO:IX:=(.cmp .NotEq (.sub (.var 3) (.var 7)) AN)
noncomputable def Ky:SX:=(.prim (eW aG (.lit (.bool false))) .skip)
noncomputable def Kz:SX:=(.prim (cn aG 6 (.bin .BitOr (.var 6) (.var 7))) .skip)
noncomputable def KA:SX:=(.ite AO Ky .skip Kz)
noncomputable def KB:SX:=(.prim (jQ iI aG (.tr 1 (.cons (.var 8) .nil)) Kx .skip) KA)
noncomputable def KC:SX:=(.prim (cn aG 9 (.bin .Sub AM (.lit (.int 1)))) KB)
noncomputable def AP:SX:=(.prim (cn aG 8 Kv) KC)
noncomputable def AQ:IX:=(.cmp .Eq (.bin .BitAnd (.var 13) (.var 14)) (.var 14))
noncomputable def AR:IX:=(.comp 2 true [14,15] (.seq (.var 5)) (.cons AQ .nil) (.emit (.var 15)))
noncomputable def KG:IX:=(.sum AR)
noncomputable def AS:IX:=(.cmp .Eq KG (.lit (.int 1)))
noncomputable def nW:IX:=(.len (.var 1))
noncomputable def AT:IX:=(.comp 1 false [13] (.range1 (.bin .Pow (.lit (.int 2)) nW)) (.cons AS .nil) (.emit (.var 13)))
noncomputable def KH:IX:=(.bin .BitAnd (.var 12) (.bin .Pow (.lit (.int 2)) (.var 13)))
noncomputable def uU:IX:=(.cmp .Gt KH (.lit (.int 0)))
noncomputable def AU:IX:=(.ite uU (.lit (.str (sS "+"))) (.lit (.str (sS "?"))))
noncomputable def uV:IX:=(.comp 1 false [13] (.range1 nW) .nil (.emit AU))
noncomputable def AV:IX:=(.join (.lit (.str (sS ""))) uV)
noncomputable def uW:IX:=(.call 5 (.cons AV .nil))
noncomputable def AW:SX:=(.prim (cn aG 11 (.bin .Add (.var 11) uW)) .skip)
noncomputable def KJ:SX:=(.prim (eW aG (.lit (.bool false))) .skip)
noncomputable def uX:IX:=(.comp 2 true [13,14] (.seq (.var 5)) .nil (.emit (.var 13)))
noncomputable def AX:IX:=(.call 3 (.cons (.var 1) (.cons (.var 6) .nil)))
noncomputable def KK:SX:=(.prim (sZ iI aG (.cmp .Is (.rc 0 (.cons uX (.cons (.var 4) .nil))) (.rc 1 (.cons AX .nil)))) .skip)
noncomputable def KN:SX:=(.prim (jQ iI aG (.cmp .IsNot (.rc 0 (.cons (.var 11) (.cons (.var 10) .nil))) (.ix (.lit (.bool true)))) KJ .skip) KK)
noncomputable def KO:SX:=(.for false [12] (.seq (.var 2)) AW KN)
noncomputable def KP:SX:=(.prim (cn aG 11 (.list .nil)) KO)
noncomputable def AY:SX:=(.prim (cn aG 10 AT) KP)
noncomputable def KQ:SX:=(.for false [7] (.seq (.var 4)) AP (.frz 5 AY))
noncomputable def KR:SX:=(.prim (kL aG [5,6] [(true,(.list .nil)),(false,(.lit (.int 0)))]) KQ)
noncomputable def KT:SX:=(.prim (cn aG 4 Ku) KR)
noncomputable def KU:SX:=(.prim (cn aG 3 Kt) KT)
noncomputable def KV:SX:=(.prim (cn aG 2 Ks) KU)
noncomputable def KW:SX:=(.prim (cn aG 1 Kr) KV)
noncomputable def qM:List Str:=[sS "script",sS "roads",sS "courses",sS "odds",sS "parts",sS "ringless",sS "whole",sS "part",sS "told",sS "sign",sS "passed",sS "taken",sS "course"]
noncomputable def nX:SX:=KW
section
variable{Ψ Φ:List FEntry}{ρ:List SV}{r:SX}{fl:Fl}{R:List SV->Prop}
theorem KX(h:jg Ψ Φ e ρ d)(hR:∀ρ,R ρ):aB Φ (.prim (sZ Ψ Φ e) r) ρ (.ret d) R :=
 ⟨⟨h.1,fun ρ2 e=>nomatch e⟩,ρ,by show(Fl.ret (bC Ψ Φ e ρ),ρ)=_;rw[h.2],hR _⟩
theorem KY(ha:jg Ψ Φ a ρ (.bool x))(hb:jg Ψ Φ b ρ (.bool y)):jg Ψ Φ (.cmp .Is a b) ρ (.bool (x==y)):=by
 refine⟨⟨ha.1,hb.1,by rw[ha.2,hb.2];trivial⟩,?_⟩
 show Pi (iS .Is (bC Ψ Φ a ρ) (bC Ψ Φ b ρ))=_
 rw[ha.2,hb.2];rfl
theorem KZ(h:jg Ψ Φ (.rc f es) ρ (.bool t))(ha:t=true->aB Φ a ρ .next R1)(hb:t=false->aB Φ b ρ .next R1)(k:∀ρ1,R1 ρ1->aB Φ r ρ1 fl R) :
 aB Φ (.prim (jQ Ψ Φ (.tr f es) a b) r) ρ fl R:=by
 have ht:gN Ψ Φ (.tr f es) ρ=t:=by show aq (bC Ψ Φ (.rc f es) ρ)=t;rw[h.2];rfl
 have hx:∃ρ1,(if gN Ψ Φ (.tr f es) ρ=true then au Φ a ρ else au Φ b ρ)=(.next,ρ1)/\R1 ρ1:=by
  rw[ht]
  cases t with
  | true=>exact(ha rfl).2
  | false=>exact(hb rfl).2
 refine x12 hx fun ρ1 e1 h1=>?_
 exact eN ⟨⟨h.1,by rw[h.2];rfl⟩,fun q=>(ha (ht.symm.trans q)).1,fun q=>(hb (ht.symm.trans q)).1⟩ e1 (k ρ1 h1)
variable{a b:IX}
theorem K0(ha:Ok Φ a ρ (.list ds))(hb:Ok Φ b ρ (iD k))(hk:k<=ds.length)(hl:ds.length<=1000):Ok Φ (.slice a (.cons b .nil) .nil) ρ (.list (ds.drop k)):=by
 refine⟨⟨cC ha.1,hb.1,trivial,?_⟩,?_⟩
 ·rw[ha.2,show dS Φ (.cons b .nil) ρ=_ from hb.2]
  exact⟨ae hl (by decide),rfl,rfl⟩
 ·show jw (den Φ a ρ) (dS Φ (.cons b .nil) ρ) .none=_
  rw[ha.2,show dS Φ (.cons b .nil) ρ=_ from hb.2]
  show PU ((ds.drop (Pg ds.length (k:Int))).take (ds.length - Pg ds.length (k:Int)))=_
  rw[ml,Nat.min_eq_left hk,<- Nr,Bw]
theorem K8{l:List Int}(ha:Ok Φ a ρ (.list (l.map .int)))(hl:l.length<=1000000)(hb:∀i∈l,-1000000000000<=i/\i<=1000000000000):Ok Φ (.sum a) ρ (.int l.sum):=by
 refine⟨⟨cC ha.1,_,ha.2,by rw[af];exact hl,fun d hd=>x12 (aJ.mp hd) fun i hi e=>by rw[<- e];exact⟨rfl,hb i hi⟩⟩,?_⟩
 show Oo ((cW (den Φ a ρ)).map bi).sum=_
 rw[ha.2]
 show Oo ((l.map .int).map bi).sum=_
 rw[fk,show(bi ∘ Oo)=id from rfl,List.map_id]
theorem K9(ha:Ok Φ a ρ (.int i))(hb:Ok Φ b ρ (.int j)):Ok Φ (.cmp .NotEq a b) ρ (.bool !(i==j)):=by
 refine⟨⟨cC ha.1,cC hb.1,by rw[ha.2,hb.2];exact⟨ny _,ny _⟩⟩,?_⟩
 show Pi (!Oa (den Φ a ρ) (den Φ b ρ))=_
 rw[ha.2,hb.2];rfl
end
noncomputable def X6(xs:List Int):List Int:=xs.take 6++[4,0,1,3,5,6].drop (xs.take 6).length
theorem AZ(xs:List Int):(X6 xs).length=6:=by
 unfold X6
 rw[cb,Nr,Ma]
 show min 6 xs.length+(6 - min 6 xs.length)=6
 lia
theorem La(hl:xs.length<=63)(h:ρ.getD 0 .un=.dat (.list (xs.map .int))):Ok aG AJ ρ (.list ((X6 xs).map .int)):=by
 have h1:=H0 (Φ:=aG) (k:=6) (ak h) (by rw[af];lia)
 rw[<- List.map_take]at h1
 have h2:=jh h1 (by rw[af,Ma];lia)
 rw[af]at h2
 have h3:Ok aG uS ρ (.list (([4,0,1,3,5,6]:List Int).map .int)):=⟨(bS uS false ρ).2 rfl,rfl⟩
 have h4:=K0 h3 h2 (by rw[Ma];show min 6 xs.length<=6;lia) (by decide)
 have h5:=ur h1 h4 (by rw[af,Ma,Nr];show min 6 xs.length+(6 - _)<=_;lia)
 rw[<- List.map_drop,<- c8]at h5
 exact h5
noncomputable def PR(R:List Nat)(m:Nat):NR:=.list [iD m,.int (cR (aF R m))]
noncomputable abbrev lv(R:List Nat)(s q w x y z pa tk co:SV):List SV:=[s,.dat (.list (R.map KD)),.dat (LD (aN R)),.dat (oD (bZ (aN R))),.dat (LD (b8 R)),q,w,x,y,z,pa,tk,co]
theorem Ld:Oa (PR R n) (PR R m)=(n==m):=by
 have e:Oa (PR R n) (PR R m)=(((n:Int)==(m:Int))&&((cR (aF R n)==cR (aF R m))&&true)):=rfl
 rw[e]
 by_cases h:n=m
 ·subst h;rw[beq_self_eq_true,beq_self_eq_true,beq_self_eq_true];rfl
 ·rw[beq_eq_false_iff_ne.mpr h,beq_eq_false_iff_ne.mpr fun z=>h (NH.mp z)];rfl
theorem uY(R:List Nat)(m:Nat):(PR R m).canLay0=true/\(PR R m).depth<=1:=⟨rfl,bM 1⟩
section
variable{R:List Nat}(h6:R.length<=6)(h7:∀k∈R,k<7){s q w x y z pa tk co:SV}{fl:Fl}
include h6
theorem lG(m:Nat):(aF R m).length<=8:=by
 unfold aF de
 rw[af]
 exact ae (j7 ..) (by rw[vl];lia)
theorem j5:∀c∈aN R,c<64/\(R.length,c)∈dw:=fun c hc=>by
 refine x12 (qw h6 hc) fun ks k1 k2=>?_
 obtain⟨ps,e,lt,b⟩:=k2
 have hn:c<2 ^ R.length:=Nc _ fun i hi=>by
  rw[<- qV,b]
  exact fun q=>fG.mpr hi (lt i q)
 refine⟨uA hn (Nf (n:=2) (by decide) h6),?_⟩
 have nd:ps.Nodup:=by
  have:=(uB ks k1).1
  rw[<- e]at this
  exact(List.pairwise_map.mp this).imp fun h z=>h (congrArg (fun p=>R.getD p 9) z)
 have hp:(de R.length c).length=ks.length:=by
  rw[<- e,af]
  exact((List.perm_ext_iff_of_nodup (zM _ _) nd).mpr fun i=>by
   rw[j1,b]
   exact⟨fun h=>h.2,fun h=>⟨lt i h,h⟩⟩).length_eq
 have h13:∀ks∈ey,(Nat.ble 1 ks.length&&Nat.ble ks.length 3)=true:=by decide
 refine dF.mpr ⟨R.length,jo.mpr (by lia),aJ.mpr ⟨c,lQ.mpr ⟨jo.mpr hn,?_⟩,rfl⟩⟩
 rw[hp];exact h13 ks k1
theorem uZ:(b8 R).Nodup/\(b8 R).length<=64/\∀m∈b8 R,m∈aD (bZ (aN R)):=by
 have nd:=(ji (aN R)).nd
 have l64:=qG nd fun m hm=>uM (fun c hc=>(j5 h6 c hc).1) hm
 unfold oL at l64
 rw[af]at l64
 refine⟨nd.sublist List.filter_sublist,ae (j7 ..) (by unfold aD;rw[af];exact l64),fun m hm=>(lQ.mp hm).1⟩
include h7
theorem lH(m:Nat):∀k∈aF R m,k<7:=fun k hk=>x13 (fa.mp hk) fun b b1 U e=>by
 rw[<- e,av,bw b1];exact h7 _ (M4 b1)
theorem Lf(m:Nat):Ok aG (.bin .Sub AM (.lit (.int 1))) (lv R s q w x (.dat (.list ((aF R m).map KD))) z pa tk co) (.int (cR (aF R m))):=by
 have hl:=jh (Φ:=aG) (ρ:=lv R s q w x (.dat (.list ((aF R m).map KD))) z pa tk co) (a:=.var 8) (ds:=(aF R m).map KD) (ak rfl) (by rw[af];exact ae (lG h6 m) (by decide))
 rw[af]at hl
 have hp:Ok aG AL (lv R s q w x (.dat (.list ((aF R m).map KD))) z pa tk co) (iD (gV (aF R m))):=jY (jZ (ak rfl)) ⟨_,lG h6 m,lH h6 h7 m,rfl⟩ (JO (lH h6 h7 m))
 exact uE (zU iG (z7 (uE hl hp) iG (by decide)) (by decide)) iG
noncomputable def dB(R l:List Nat):List NR:=(l.filter fun m=>bE (aF R m)).map (PR R)
theorem Lg(hm:m∈aD (bZ (aN R)))(hn:m∉l)(hl:l.length<=1000){y:SV} :
 Ok aG AO (lv R s (.own (.list (dB R (l++[m])))) w (.dat (iD m)) y (.dat (.int (cR (aF R m)))) pa tk co) (.bool false):=by
 have h1:Ok aG (.sub (.var 3) (.var 7)) (lv R s (.own (.list (dB R (l++[m])))) w (.dat (iD m)) y (.dat (.int (cR (aF R m)))) pa tk co) (.int (a9 (bZ (aN R)) m)):=Aq (ak rfl) (ak rfl) hm
 have h2:Ok aG uT (lv R s (.own (.list (dB R (l++[m])))) w (.dat (iD m)) y (.dat (.int (cR (aF R m)))) pa tk co) (.bool (bE (aF R m))):=by
  have hp:Ok aG (.list (.cons (.var 7) (.cons (.var 9) .nil))) (lv R s (.own (.list (dB R (l++[m])))) w (.dat (iD m)) y (.dat (.int (cR (aF R m)))) pa tk co) (PR R m):=zX (ak rfl) (ak rfl)
  refine⟨⟨cC hp.1,trivial,by rw[hp.2];exact⟨⟨(uY R m).1,ae (uY R m).2 (by decide)⟩,(qs fun k U=>uY R k).1⟩⟩,?_⟩
  show Pi (ma (den aG _ _) (.list (dB R (l++[m]))))=_
  rw[hp.2]
  show Pi ((dB R (l++[m])).any fun y=>Oa y (PR R m))=_
  unfold dB
  rw[List.any_map,show((fun y=>Oa y (PR R m)) ∘ PR R)=fun n=>n==m from funext fun n=>Ld,List.filter_append,List.any_append,oB]
  rw[show((l.filter fun m=>bE (aF R m)).any fun n=>n==m)=false from List.any_eq_false.mpr fun n hq z=>hn (NY z▸(lQ.mp hq).1)]
  cases bE (aF R m)
  ·rfl
  ·show Pi (false||((m==m)||false))=_
   rw[beq_self_eq_true];rfl
 have h3:Ok aG AN (lv R s (.own (.list (dB R (l++[m])))) w (.dat (iD m)) y (.dat (.int (cR (aF R m)))) pa tk co) (.int (a9 (bZ (aN R)) m)):=by
  refine⟨⟨h2.1,by rw[h2.2];rfl,fun U=>trivial,fun U=>trivial⟩,?_⟩
  show(if aq (den aG uT _)=true then Oo (cR (aF R m))else .int 0)=_
  rw[h2.2,uC h6 h7 hm]
  cases bE (aF R m)<;>rfl
 have h4:=K9 h1 h3
 rw[beq_self_eq_true]at h4
 exact h4
theorem Lh{S:SX}(k:∀x y z,aB aG S (lv R s (.own (.list (dB R (b8 R)))) (.dat (iD ((b8 R).foldl (· ||| ·) 0))) x y z pa tk co) fl fun U=>True):aB aG (.for false [7] (.seq (.var 4)) AP S) (lv R s (.own (.list [])) (.dat (iD 0)) x y z pa tk co) fl fun U=>True:=by
 have P:=uZ h6
 refine j2 (xs:=b8 R) (g:=iD) (Inv:=fun l ρ=>∃x y z,ρ=lv R s (.own (.list (dB R l))) (.dat (iD (l.foldl (· ||| ·) 0))) x y z pa tk co) (gh (ak rfl)) (fun x U=>rfl) ⟨x,y,z,rfl⟩ (fun l m r ρ e h=>?_) fun ρ h=>x31 h fun x y z e=>e▸k x y z
 refine x31 h fun x y z e1=>?_
 subst e1
 have hm:m∈b8 R:=e▸cG _ ag
 have hn:m∉l:=fun q=>(c7.mp (e▸P.1)).2.2 m q m ag rfl
 have hll:l.length<=1000:=by
  have:=P.2.1
  rw[e,cb]at this;lia
 refine c6 (d:=.list ((aF R m).map KD)) (jY (lq (ak rfl) (ak rfl)) ⟨R,m,h6,rfl⟩ (AA h6 m)) ?_
 refine c6 (Lf h6 h7 m) ?_
 have hr:jg iI aG (.rc 1 (.cons (.var 8) .nil)) (lv R s (.own (.list (dB R l))) (.dat (iD (l.foldl (· ||| ·) 0))) (.dat (iD m)) (.dat (.list ((aF R m).map KD))) (.dat (.int (cR (aF R m)))) pa tk co) (.bool (bE (aF R m))) :=
  qq (jZ (ak rfl)) ⟨_,lG h6 m,lH h6 h7 m,rfl⟩ (AC (lG h6 m) (lH h6 h7 m))
 have fl1:∀b,bE (aF R m)=b->dB R (l++[m])=dB R l++if b=true then[PR R m]else[]:=fun b hb=>by
  unfold dB
  rw[List.filter_append,c8,oB,hb]
  cases b<;>rfl
 refine KZ (R1:=fun ρ=>ρ=lv R s (.own (.list (dB R (l++[m])))) (.dat (iD (l.foldl (· ||| ·) 0))) (.dat (iD m)) (.dat (.list ((aF R m).map KD))) (.dat (.int (cR (aF R m)))) pa tk co) hr (fun ht=>?_) (fun hf=>?_) fun ρ1 e1=>?_
 ·refine zw (l:=dB R l) (d:=PR R m) rfl ?_ (zX (ak rfl) (ak rfl)) (congrArg PU (fl1 true ht).symm) (dN rfl)
  unfold dB
  rw[af]
  exact ae (j7 ..) (ae hll (by decide))
 ·refine dN ?_
  rw[fl1 false hf,if_neg MY,iK];rfl
 ·subst e1
  refine HT (Lg h6 h7 (P.2.2 m hm) hn hll) ?_
  refine c6 (d:=iD ((l++[m]).foldl (· ||| ·) 0)) ?_ (dN ⟨_,_,_,rfl⟩)
  rw[lT]
  exact qA (ak rfl) (ak rfl)
end
theorem qN{l:List Nat}(h:l.length<=1000000):jR (l.map iD):=⟨by rwa [af],fun d hd=>x12 (aJ.mp hd) fun n U e=>by rw[<- e];exact ny _⟩
theorem Li(a b:Nat):((a:Int)==(b:Int))=(a==b):=by rw[lS,beq_iff_eq,beq_iff_eq];exact NH
noncomputable def lI(c k:Nat):NR:=.str ⟨#[if c.testBit k=true then 43 else 63]⟩
theorem Lj:∀q∈dw,OE (PK (sS "") (((dj q.1).map (lI q.2)).map dm))=go q.1 q.2:=List.map_inj_left.mp (by kernel_rfl)
theorem Ll:∀q∈dw,∃ds,PU ((dj q.1).map (lI q.2))=.list ds/\mt (sS "") ds:=fun q hq=>(ub _ _).2 (bt.mp (show(dw.all fun q=>(ub (sS "") (.list ((dj q.1).map (lI q.2)))).1)=true by kernel_rfl) q hq)
theorem Lm:(dw.all fun q=>(bc q.1 q.2).all fun d=>Nat.blt d 64)=true:=by kernel_rfl
theorem A0(h:(n,m)∈dw):d∈bc n m↔d<64/\d<2 ^ n/\aU m d=true:=by
 have h1:=bt.mp (bt.mp Lm _ h)
 have h2:=bt.mp (bt.mp Kp _ h)
 have key:d<64->(d∈bc n m↔d<2 ^ n/\aU m d=true):=fun hd=>by
  have:=NY (h2 d (jo.mpr hd))
  rw[<- gC,show(bc n m).contains d=_ from this,e7]
  exact and_congr (Iff.of_eq Nat.blt_eq) Iff.rfl
 exact⟨fun q=>have hd:=Nat.blt_eq.mp (h1 d q);⟨hd,(key hd).mp q⟩,fun q=>(key q.1).mpr q.2⟩
section
variable{R:List Nat}(h6:R.length<=6)(h7:∀k∈R,k<7){s q w x y z pa tk co:SV}{fl:Fl}{ρ:List SV}
include h6
theorem qO:(cN R).length<=64/\dB R (b8 R)=(cN R).map (PR R):=⟨ae (j7 ..) (uZ h6).2.1,rfl⟩
theorem A1(h:ρ.getD 1 .un=.dat (.list (R.map KD))):Ok aG nW ρ (iD R.length):=by
 have hl:=jh (Φ:=aG) (ak h) (by rw[af];lia)
 rw[af]at hl;exact hl
theorem j6:2 ^ R.length<=64:=ae (Nf (by decide) h6) (by decide)
theorem Ln:Ok aG uX (lv R s (.dat (.list ((cN R).map (PR R)))) w x y z pa tk co) (LD (cN R)) :=
 zv (n:=2) (tup:=true) (slots:=[13,14]) (it:=.seq (.var 5)) (e:=.var 13) (xs:=cN R) (g:=PR R) (f:=iD) (gh (ak rfl)) (fun U U=>⟨rfl,rfl⟩) (fun m hm=>ak rfl) (ae (qO h6).1 (by decide))
theorem Lo(hc:(R.length,c)∈dw):Ok aG AV (lv R s q w x y z pa tk (.dat (iD c))) (go R.length c):=by
 have h:Ok aG uV (lv R s q w x y z pa tk (.dat (iD c))) (.list ((dj R.length).map (lI c))) :=
  HR (n:=1) (slot:=13) (it:=.range1 nW) (e:=AU) (xs:=dj R.length) (g:=iD) (f:=lI c) (nB (A1 h6 rfl) (by lia)) (fun k hk=>by
   have hb:Ok aG uU (ao false [13] (iD k) (lv R s q w x y z pa tk (.dat (iD c))++cg 1 .un)) (.bool (c.testBit k)):=uF (ak rfl) (ak rfl) (by have:=jo.mp hk;lia)
   refine⟨⟨hb.1,by rw[hb.2];rfl,fun U=>trivial,fun U=>trivial⟩,?_⟩
   show(if aq (den aG uU _)=true then OE (sS "+")else .str (sS "?"))=_
   rw[hb.2]
   unfold lI
   cases c.testBit k
   ·exact congrArg OE (show sS "?" = ⟨#[63]⟩by decide +kernel)
   ·exact congrArg OE (show sS "+" = ⟨#[43]⟩by decide +kernel)) (by rw[vl];lia)
 refine⟨⟨trivial,cC h.1,rfl,by rw[h.2];exact Ll _ hc⟩,?_⟩
 show OE (PK (sS "") ((cW (den aG uV _)).map dm))=_
 rw[h.2];exact Lj _ hc
theorem Lp{S:SX}(k:∀co,aB aG S (lv R s q w x y z pa (.dat (LD ((aN R).flatMap (bc R.length)))) co) fl fun U=>True):aB aG (.for false [12] (.seq (.var 2)) AW S) (lv R s q w x y z pa (.dat (LD [])) co) fl fun U=>True:=by
 refine j2 (xs:=aN R) (g:=iD) (Inv:=fun l ρ=>∃co,ρ=lv R s q w x y z pa (.dat (LD (l.flatMap (bc R.length)))) co) (gh (ak rfl)) (fun x U=>rfl) ⟨co,rfl⟩ (fun l c r ρ e h=>?_) fun ρ h=>x11 h fun co e=>e▸k co
 refine x11 h fun co e1=>?_
 subst e1
 have hc:=(j5 h6 c (e▸cG _ ag)).2
 have tl:∀c∈l,(bc R.length c).length<=64:=fun c U=>ae (qL c R.length) (j6 h6)
 have hl:l.length<=1080:=by
  have:=An h6
  rw[e,cb]at this;lia
 have hcall:Ok aG uW (lv R s q w x y z pa (.dat (LD (l.flatMap (bc R.length)))) (.dat (iD c))) (LD (bc R.length c)):=jY (jZ (Lo h6 hc)) ⟨_,_,hc,h6,rfl⟩ (Ko hc h6)
 have hcat:=ur (Φ:=aG) (ρ:=lv R s q w x y z pa (.dat (LD (l.flatMap (bc R.length)))) (.dat (iD c))) (a:=.var 11) (b:=uW) (xs:=(l.flatMap (bc R.length)).map iD) (ys:=(bc R.length c).map iD) (ak rfl) hcall (by
  rw[af,af]
  have h1:=jl tl
  have h2:(bc R.length c).length<=64:=ae (qL c R.length) (j6 h6)
  lia)
 refine c6 (d:=LD ((l++[c]).flatMap (bc R.length))) ?_ (dN ⟨.dat (iD c),rfl⟩)
 rw[lO,show[c].flatMap (bc R.length)=bc R.length c from iK _]
 unfold LD
 rw[c8];exact hcat
noncomputable def jn(R:List Nat):List Nat:=(dj (2 ^ R.length)).filter fun D=>(aN R).any fun c=>aU c D
theorem Lq:jX ((aN R).flatMap (bc R.length)) (jn R)=true:=zG.mpr fun x=>by
 unfold jn
 rw[dF,lQ,jo,dP]
 refine⟨fun h=>x12 h fun c c1 c2=>?_,fun h=>x12 h.2 fun c c1 c2=>⟨c,c1,(A0 (j5 h6 c c1).2).mpr ⟨uA h.1 (j6 h6),h.1,c2⟩⟩⟩
 have:=(A0 (j5 h6 c c1).2).mp c2
 exact⟨this.2.1,c,c1,this.2.2⟩
theorem Lr:jX (cN R) (b8 R)=bE (aF R ((b8 R).foldl (· ||| ·) 0)):=by
 rw[<- It h6,lS,zG,bt]
 unfold cN
 exact⟨fun h m hm=>(lQ.mp ((h m).mpr hm)).2,fun h x=>by rw[lQ];exact⟨fun q=>q.1,fun q=>⟨q,h x q⟩⟩⟩
include h7
theorem Ls:Ok aG AT (lv R s (.dat (.list ((cN R).map (PR R)))) w x y z pa tk co) (LD (jn R)):=by
 refine qo (n:=1) (slot:=13) (it:=.range1 (.bin .Pow (.lit (.int 2)) nW)) (q:=AS) (e:=.var 13) (xs:=dj (2 ^ R.length)) (g:=iD) (c:=fun D=>(aN R).any fun c=>aU c D) (f:=iD) (nB (lu (A1 h6 rfl) (by lia)) (ae (j6 h6) (by decide))) (fun D U=>?_) (fun D U U=>ak rfl) (by rw[vl];exact ae (j6 h6) (by decide))
 have hc:Ok aG AR (lv R s (.dat (.list ((cN R).map (PR R)))) w x y z pa tk co++[.dat (iD D)]) (.list ((((cN R).filter fun m=>aU m D).map fun m=>cR (aF R m)).map .int)):=by
  rw[fk]
  exact zu (n:=2) (tup:=true) (slots:=[14,15]) (it:=.seq (.var 5)) (q:=AQ) (e:=.var 15) (xs:=cN R) (g:=PR R) (c:=fun m=>aU m D) (gh (ak rfl)) (fun U U=>⟨rfl,rfl⟩) (fun m hm=>by
   have:=zV (Φ:=aG) (ρ:=lv R s (.dat (.list ((cN R).map (PR R)))) w x y z pa tk co++[.dat (iD D),.dat (iD m),.dat (.int (cR (aF R m)))]) (a:=.bin .BitAnd (.var 13) (.var 14)) (b:=.var 14) (x:=((D &&& m:Nat):Int)) (y:=(m:Int)) (z8 (x:=D) (y:=m) (ak rfl) (ak rfl)) (ak rfl)
   rw[Li]at this;exact this) (fun m hm U=>ak rfl) (ae (qO h6).1 (by decide))
 have sb:∀i∈((cN R).filter fun m=>aU m D).map fun m=>cR (aF R m),-1000000000000<=i/\i<=1000000000000:=fun i hi=>x12 (aJ.mp hi) fun m U e=>by
  rw[<- e];unfold cR;rw[zQ];unfold pm
  split<;>split<;>decide
 have hs:=K8 hc (by rw[af];exact ae (j7 ..) (ae (qO h6).1 (by decide))) sb
 have he:=zV hs (iG (n:=1))
 rw[uD,Iu h6 h7 D]at he
 rw[show((if((aN R).any fun c=>aU c D)=true then(1:Int)else 0)==1)=(aN R).any fun c=>aU c D by cases(aN R).any fun c=>aU c D<;>rfl]at he
 exact he
end
theorem Lu{xs:List Int}(hl:xs.length<=63):aB aG nX [.dat (.list (xs.map .int)),.un,.un,.un,.un,.un,.un,.un,.un,.un,.un,.un,.un] (.ret (.bool true)) fun U=>True:=by
 have r:=IJ (X6 xs)
 have h6:(lw (X6 xs)).length<=6:=AZ xs▸r.2
 have h7:=r.1
 have hX:(X6 xs).length<=100:=by rw[AZ];decide
 generalize hR:lw (X6 xs)=R at h6 h7
 generalize hs:SV.dat (.list (xs.map .int))=s
 refine c6 (d:=.list (R.map KD)) (jY (jZ (La hl (by rw[<- hs];rfl))) ⟨_,hX,rfl⟩ (by rw[<- hR];exact IN hX)) ?_
 refine c6 (d:=LD (aN R)) (jY (jZ (ak rfl)) ⟨R,h6,h7,rfl⟩ (Jg h6 h7)) ?_
 refine c6 (d:=oD (bZ (aN R))) (jY (jZ (ak rfl)) ⟨_,fun c hc=>(j5 h6 c hc).1,rfl⟩ (Jv fun c hc=>(j5 h6 c hc).1)) ?_
 have k64:(aD (bZ (aN R))).length<=64:=by
  have:=qG (ji (aN R)).nd fun m hm=>uM (fun c hc=>(j5 h6 c hc).1) hm
  unfold oL at this
  unfold aD
  rw[af]at this ⊢;exact this
 refine c6 (d:=LD (b8 R)) (qo (n:=1) (slot:=13) (it:=.seq (.var 3)) (q:=AK) (e:=.var 13) (xs:=aD (bZ (aN R))) (g:=iD) (c:=fun m=>decide (0<m)) (f:=iD) (Ar (ak rfl)) (fun m hm=>by
  have:=zW (Φ:=aG) (ρ:=[s,.dat (.list (R.map KD)),.dat (LD (aN R)),.dat (oD (bZ (aN R))),.un,.un,.un,.un,.un,.un,.un,.un,.un,.dat (iD m)]) (a:=.var 13) (x:=(m:Int)) (ak rfl) (iG (n:=0))
  rw[show decide ((m:Int) > 0)=decide (0<m)by rw[lS,decide_eq_true_eq,decide_eq_true_eq];exact Int.natCast_pos]at this
  exact this) (fun m hm U=>ak rfl) (ae k64 (by decide))) ?_
 refine eN (ρ1:=lv R s (.own (.list [])) (.dat (iD 0)) .un .un .un .un .un .un) ⟨⟨⟨trivial,cj _⟩,trivial,trivial⟩,oC rfl⟩ rfl ?_
 refine Lh h6 h7 fun x y z=>?_
 refine Ad rfl ?_
 show aB aG AY (lv R s (.dat (.list ((cN R).map (PR R)))) (.dat (iD ((b8 R).foldl (· ||| ·) 0))) x y z .un .un .un) _ _
 refine c6 (Ls h6 h7) ?_
 refine c6 (d:=LD []) ⟨⟨trivial,cj _⟩,rfl⟩ ?_
 refine Lp h6 fun co=>?_
 have hps:(jn R).length<=64:=ae (j7 ..) (by rw[vl];exact j6 h6)
 have htk:((aN R).flatMap (bc R.length)).length<=1000000:=by
  have h1:=jl (l:=aN R) (f:=bc R.length) (B:=64) fun c U=>ae (qL c R.length) (j6 h6)
  have h2:=An h6
  lia
 refine HV (Ψ:=iI) ?_ ?_
 ·have:=qq (Ψ:=iI) (Φ:=aG) (ρ:=lv R s (.dat (.list ((cN R).map (PR R)))) (.dat (iD ((b8 R).foldl (· ||| ·) 0))) x y z (.dat (LD (jn R))) (.dat (LD ((aN R).flatMap (bc R.length)))) co) (f:=0) (es:=.cons (.var 11) (.cons (.var 10) .nil)) (lq (ak rfl) (ak rfl)) ⟨_,_,rfl,qN htk,qN (ae hps (by decide))⟩ (zA zC ((aN R).flatMap (bc R.length)) (jn R))
  rw[Lq h6]at this;exact this
 ·refine KX (d:=.bool true) ?_ fun U=>trivial
  have h1:=qq (Ψ:=iI) (Φ:=aG) (ρ:=lv R s (.dat (.list ((cN R).map (PR R)))) (.dat (iD ((b8 R).foldl (· ||| ·) 0))) x y z (.dat (LD (jn R))) (.dat (LD ((aN R).flatMap (bc R.length)))) co) (f:=0) (es:=.cons uX (.cons (.var 4) .nil)) (lq (Ln h6) (ak rfl)) ⟨_,_,rfl,qN (ae (qO h6).1 (by decide)),qN (ae (uZ h6).2.1 (by decide))⟩ (zA zC (cN R) (b8 R))
  have h2:=qq (Ψ:=iI) (Φ:=aG) (ρ:=lv R s (.dat (.list ((cN R).map (PR R)))) (.dat (iD ((b8 R).foldl (· ||| ·) 0))) x y z (.dat (LD (jn R))) (.dat (LD ((aN R).flatMap (bc R.length)))) co) (f:=1) (es:=.cons AX .nil) (ds:=[.list ((aF R ((b8 R).foldl (· ||| ·) 0)).map KD)]) (jZ (jY (lq (ak rfl) (ak rfl)) ⟨R,_,h6,rfl⟩ (AA h6 _))) ⟨_,lG h6 _,lH h6 h7 _,rfl⟩ (AC (lG h6 _) (lH h6 h7 _))
  have h3:=KY h1 h2
  rw[Lr h6,beq_self_eq_true]at h3
  exact h3
theorem Lv(xs:List Int)(hl:xs.length<=63):bf aG nX (bg qM [.list (xs.map .int)])/\(au aG nX (bg qM [.list (xs.map .int)])).1=.ret (.bool true):=by
 obtain⟨h1,ρ',e,_⟩:=Lu hl
 exact⟨h1,by
  show(au aG nX [.dat (.list (xs.map .int)),.un,.un,.un,.un,.un,.un,.un,.un,.un,.un,.un,.un]).1=_
  rw[e]⟩
noncomputable abbrev dE(P:Ov)(x:Str)(k:Nat)(v:NO):PQ:=.mk (PH P x) (.str x k) v
noncomputable def Lw(P:Ov):Obj:=(.mk (.type "dict") none (.dict #[(dE P (sS "builtins") 162 (.ref 4)),(dE P (sS "__main__") 163 (.ref 5)),(dE P (sS "_sre") 244 (.ref 12))] 3) #[])
noncomputable def Lx(P:Ov):Obj:=(.mk .none none (.dict #[(dE P (sS "\x69mport.loaded._sre") 183 (.bool true)),(dE P (sS "class._frozen_importlib.BuiltinImporter") 185 (.ref 14)),(dE P (sS "watched.\x69mport") 206 (.ref 18)),(dE P (sS "class._frozen_importlib.ModuleSpec") 216 (.ref 22)),(dE P (sS "sys.modules.booked-epoch") 245 (.int 3 0)),(dE P (sS "\x69mport.later-laid._sre") 270 (.bool true)),(dE P (sS "watched.library") 272 (.ref 27)),(dE P (sS "watched.library-objects") 0 (.str (sS "\x0c") 0)),(dE P (sS "watched.library-deep._sre") 273 (.str ⟨#[4,0,0,11,4,0,0,11,4,0,0,3,4,0,0,11,8,4,100,105,99,116,2]⟩ 0))] 9) #[])
noncomputable def Ly(P:Ov):Obj:=(.mk (.type "dict") none (.dict #[(dE P (sS "__name__") 165 (.str (sS "__main__") 164)),(dE P (sS "__doc__") 166 .none),(dE P (sS "__package__") 167 .none),(dE P (sS "__loader__") 168 (.builtin "__main__.__loader__#opaque")),(dE P (sS "__spec__") 169 .none),(dE P (sS "__annotations__") 170 (.ref 6)),(dE P (sS "__builtins__") 171 (.ref 4)),(dE P (sS "__file__") 173 (.str (sS "/claim/cut.py") 172)),(dE P (sS "__cached__") 174 .none),(dE P (sS "_sre") 275 (.ref 12))] 10) #[])
noncomputable def Lz(P:Ov):Obj:=(.mk (.type "dict") none (.dict #[(dE P (sS "__name__") 247 (.str (sS "_sre") 246)),(dE P (sS "__doc__") 248 .none),(dE P (sS "__package__") 250 (.str (sS "") 249)),(dE P (sS "__loader__") 251 (.builtin "off-the-table:_sre.__loader__:shared#opaque")),(dE P (sS "__spec__") 252 (.builtin "off-the-table:_sre.__spec__:shared#opaque")),(dE P (sS "compile") 253 (.builtin "_sre.compile")),(dE P (sS "template") 254 (.builtin "off-the-table:_sre.template:shared#opaque")),(dE P (sS "getcodesize") 255 (.builtin "off-the-table:_sre.getcodesize:shared#opaque")),(dE P (sS "ascii_iscased") 256 (.builtin "off-the-table:_sre.ascii_iscased:shared#opaque")),(dE P (sS "unicode_iscased") 257 (.builtin "off-the-table:_sre.unicode_iscased:shared#opaque")),(dE P (sS "ascii_tolower") 258 (.builtin "off-the-table:_sre.ascii_tolower:shared#opaque")),(dE P (sS "unicode_tolower") 259 (.builtin "off-the-table:_sre.unicode_tolower:shared#opaque")),(dE P (sS "MAGIC") 261 (.int 20230612 260)),(dE P (sS "CODESIZE") 263 (.int 4 262)),(dE P (sS "MAXREPEAT") 265 (.int 4294967295 264)),(dE P (sS "MAXGROUPS") 267 (.int 1073741823 266)),(dE P (sS "copyright") 269 (.str (sS " SRE 2.2.2 Copyright (c) 1997-2002 by Secret Labs AB ") 268))] 17) #[])
noncomputable def LA(P:Ov):Obj:=(.mk (.type "module") (some 11) .plain #[])
noncomputable def LG(P:Ov):Obj:=(.mk (.type "dict") none (.dict #[(dE P (sS "__module__") 189 (.str (sS "_frozen_importlib") 186)),(dE P (sS "__firstlineno__") 190 (.int 971 187)),(dE P (sS "__doc__") 191 (.builtin "_frozen_importlib.BuiltinImporter.__doc__:str#opaque")),(dE P (sS "_ORIGIN") 192 (.str (sS "built-in") 188)),(dE P (sS "find_spec") 193 (.builtin "_frozen_importlib.BuiltinImporter.find_spec#opaque")),(dE P (sS "create_module") 194 (.builtin "_frozen_importlib.BuiltinImporter.create_module#opaque")),(dE P (sS "exec_module") 195 (.builtin "_frozen_importlib.BuiltinImporter.exec_module#opaque")),(dE P (sS "get_code") 196 (.builtin "_frozen_importlib.BuiltinImporter.get_code#opaque")),(dE P (sS "get_source") 197 (.builtin "_frozen_importlib.BuiltinImporter.get_source#opaque")),(dE P (sS "is_package") 198 (.builtin "_frozen_importlib.BuiltinImporter.is_package#opaque")),(dE P (sS "load_module") 199 (.builtin "_frozen_importlib.BuiltinImporter.load_module#opaque")),(dE P (sS "__static_attributes__") 200 (.ref 15)),(dE P (sS "__dict__") 202 (.ref 16)),(dE P (sS "__weakref__") 204 (.ref 17))] 14) #[])
noncomputable def LH(P:Ov):Obj:=(.mk (.type "type") none (.cls (ClassData.mk (sS "BuiltinImporter") [(.type "object")] [(.ref 14),(.type "object")] 13 (sS "BuiltinImporter") true [] [] false none false)) #[])
noncomputable def LI(P:Ov):Obj:=(.mk (.type "tuple") none (.seq #[] 0) #[])
noncomputable def LJ(P:Ov):Obj:=(.mk (.type "getset_descriptor") none (.fields #[(.str (sS "__dict__") 201),(.ref 14),(.builtin "function.__dict__"),(.builtin "function.__dict__#set")]) #[])
noncomputable def LK(P:Ov):Obj:=(.mk (.type "getset_descriptor") none (.fields #[(.str (sS "__weakref__") 203),(.ref 14),(.builtin "ExceptionGroup.__weakref__"),.none]) #[])
noncomputable def LL(P:Ov):Obj:=(.mk .none none (.seq #[(.int 13 0),(.str ⟨#[6,189,10,95,95,109,111,100,117,108,101,95,95,6,186,17,95,102,114,111,122,101,110,95,105,109,112,111,114,116,108,105,98,6,190,15,95,95,102,105,114,115,116,108,105,110,101,110,111,95,95,4,187,0,971,6,191,7,95,95,100,111,99,95,95,9,52,95,102,114,111,122,101,110,95,105,109,112,111,114,116,108,105,98,46,66,117,105,108,116,105,110,73,109,112,111,114,116,101,114,46,95,95,100,111,99,95,95,58,115,116,114,35,111,112,97,113,117,101,6,192,7,95,79,82,73,71,73,78,6,188,8,98,117,105,108,116,45,105,110,6,193,9,102,105,110,100,95,115,112,101,99,9,50,95,102,114,111,122,101,110,95,105,109,112,111,114,116,108,105,98,46,66,117,105,108,116,105,110,73,109,112,111,114,116,101,114,46,102,105,110,100,95,115,112,101,99,35,111,112,97,113,117,101,6,194,13,99,114,101,97,116,101,95,109,111,100,117,108,101,9,54,95,102,114,111,122,101,110,95,105,109,112,111,114,116,108,105,98,46,66,117,105,108,116,105,110,73,109,112,111,114,116,101,114,46,99,114,101,97,116,101,95,109,111,100,117,108,101,35,111,112,97,113,117,101,6,195,11,101,120,101,99,95,109,111,100,117,108,101,9,52,95,102,114,111,122,101,110,95,105,109,112,111,114,116,108,105,98,46,66,117,105,108,116,105,110,73,109,112,111,114,116,101,114,46,101,120,101,99,95,109,111,100,117,108,101,35,111,112,97,113,117,101,6,196,8,103,101,116,95,99,111,100,101,9,49,95,102,114,111,122,101,110,95,105,109,112,111,114,116,108,105,98,46,66,117,105,108,116,105,110,73,109,112,111,114,116,101,114,46,103,101,116,95,99,111,100,101,35,111,112,97,113,117,101,6,197,10,103,101,116,95,115,111,117,114,99,101,9,51,95,102,114,111,122,101,110,95,105,109,112,111,114,116,108,105,98,46,66,117,105,108,116,105,110,73,109,112,111,114,116,101,114,46,103,101,116,95,115,111,117,114,99,101,35,111,112,97,113,117,101,6,198,10,105,115,95,112,97,99,107,97,103,101,9,51,95,102,114,111,122,101,110,95,105,109,112,111,114,116,108,105,98,46,66,117,105,108,116,105,110,73,109,112,111,114,116,101,114,46,105,115,95,112,97,99,107,97,103,101,35,111,112,97,113,117,101,6,199,11,108,111,97,100,95,109,111,100,117,108,101,9,52,95,102,114,111,122,101,110,95,105,109,112,111,114,116,108,105,98,46,66,117,105,108,116,105,110,73,109,112,111,114,116,101,114,46,108,111,97,100,95,109,111,100,117,108,101,35,111,112,97,113,117,101,6,200,21,95,95,115,116,97,116,105,99,95,97,116,116,114,105,98,117,116,101,115,95,95,4,0,0,15,6,202,8,95,95,100,105,99,116,95,95,4,0,0,16,6,204,11,95,95,119,101,97,107,114,101,102,95,95,4,0,0,17]⟩ 0),(.bool true),(.bool true),(.str (sS "") 205),(.int 21 0),(.str ⟨#[6,227,10,95,95,109,111,100,117,108,101,95,95,6,217,17,95,102,114,111,122,101,110,95,105,109,112,111,114,116,108,105,98,6,228,15,95,95,102,105,114,115,116,108,105,110,101,110,111,95,95,4,218,0,562,6,229,7,95,95,100,111,99,95,95,9,47,95,102,114,111,122,101,110,95,105,109,112,111,114,116,108,105,98,46,77,111,100,117,108,101,83,112,101,99,46,95,95,100,111,99,95,95,58,115,116,114,35,111,112,97,113,117,101,6,230,8,95,95,105,110,105,116,95,95,9,44,95,102,114,111,122,101,110,95,105,109,112,111,114,116,108,105,98,46,77,111,100,117,108,101,83,112,101,99,46,95,95,105,110,105,116,95,95,35,111,112,97,113,117,101,6,231,8,95,95,114,101,112,114,95,95,9,44,95,102,114,111,122,101,110,95,105,109,112,111,114,116,108,105,98,46,77,111,100,117,108,101,83,112,101,99,46,95,95,114,101,112,114,95,95,35,111,112,97,113,117,101,6,232,6,95,95,101,113,95,95,9,42,95,102,114,111,122,101,110,95,105,109,112,111,114,116,108,105,98,46,77,111,100,117,108,101,83,112,101,99,46,95,95,101,113,95,95,35,111,112,97,113,117,101,6,233,6,99,97,99,104,101,100,9,42,95,102,114,111,122,101,110,95,105,109,112,111,114,116,108,105,98,46,77,111,100,117,108,101,83,112,101,99,46,99,97,99,104,101,100,35,111,112,97,113,117,101,6,234,6,112,97,114,101,110,116,9,42,95,102,114,111,122,101,110,95,105,109,112,111,114,116,108,105,98,46,77,111,100,117,108,101,83,112,101,99,46,112,97,114,101,110,116,35,111,112,97,113,117,101,6,235,12,104,97,115,95,108,111,99,97,116,105,111,110,9,48,95,102,114,111,122,101,110,95,105,109,112,111,114,116,108,105,98,46,77,111,100,117,108,101,83,112,101,99,46,104,97,115,95,108,111,99,97,116,105,111,110,35,111,112,97,113,117,101,6,236,21,95,95,115,116,97,116,105,99,95,97,116,116,114,105,98,117,116,101,115,95,95,4,0,0,23,6,238,8,95,95,100,105,99,116,95,95,4,0,0,24,6,240,11,95,95,119,101,97,107,114,101,102,95,95,4,0,0,25,6,241,8,95,95,104,97,115,104,95,95,0]⟩ 0),(.bool true),(.bool true),(.str (sS "") 242)] 1) #[])
noncomputable def LM(P:Ov):Obj:=(.mk (.type "list") none (.seq #[] 0) #[])
noncomputable def LN(P:Ov):Obj:=(.mk (.type "dict") none (.dict #[(dE P (sS "name") 208 (.str (sS "_sre") 207)),(dE P (sS "loader") 209 (.ref 14)),(dE P (sS "origin") 210 (.str (sS "built-in") 184)),(dE P (sS "loader_state") 211 .none),(dE P (sS "submodule_search_locations") 212 .none),(dE P (sS "_uninitialized_submodules") 213 (.ref 19)),(dE P (sS "_set_fileattr") 214 (.bool false)),(dE P (sS "_cached") 215 .none),(dE P (sS "_initializing") 243 (.bool false))] 9) #[])
noncomputable def LO(P:Ov):Obj:=(.mk (.type "dict") none (.dict #[(dE P (sS "__module__") 227 (.str (sS "_frozen_importlib") 217)),(dE P (sS "__firstlineno__") 228 (.int 562 218)),(dE P (sS "__doc__") 229 (.builtin "_frozen_importlib.ModuleSpec.__doc__:str#opaque")),(dE P (sS "__init__") 230 (.builtin "_frozen_importlib.ModuleSpec.__init__#opaque")),(dE P (sS "__repr__") 231 (.builtin "_frozen_importlib.ModuleSpec.__repr__#opaque")),(dE P (sS "__eq__") 232 (.builtin "_frozen_importlib.ModuleSpec.__eq__#opaque")),(dE P (sS "cached") 233 (.builtin "_frozen_importlib.ModuleSpec.cached#opaque")),(dE P (sS "parent") 234 (.builtin "_frozen_importlib.ModuleSpec.parent#opaque")),(dE P (sS "has_location") 235 (.builtin "_frozen_importlib.ModuleSpec.has_location#opaque")),(dE P (sS "__static_attributes__") 236 (.ref 23)),(dE P (sS "__dict__") 238 (.ref 24)),(dE P (sS "__weakref__") 240 (.ref 25)),(dE P (sS "__hash__") 241 .none)] 13) #[])
noncomputable def LP(P:Ov):Obj:=(.mk (.type "type") none (.cls (ClassData.mk (sS "ModuleSpec") [(.type "object")] [(.ref 22),(.type "object")] 21 (sS "ModuleSpec") true [] [] false none false)) #[])
noncomputable def LQ(P:Ov):Obj:=(.mk (.type "tuple") none (.seq #[(.str (sS "_cached") 219),(.str (sS "_set_fileattr") 220),(.str (sS "_uninitialized_submodules") 221),(.str (sS "loader") 222),(.str (sS "loader_state") 223),(.str (sS "name") 224),(.str (sS "origin") 225),(.str (sS "submodule_search_locations") 226)] 0) #[])
noncomputable def LR(P:Ov):Obj:=(.mk (.type "getset_descriptor") none (.fields #[(.str (sS "__dict__") 237),(.ref 22),(.builtin "function.__dict__"),(.builtin "function.__dict__#set")]) #[])
noncomputable def LS(P:Ov):Obj:=(.mk (.type "getset_descriptor") none (.fields #[(.str (sS "__weakref__") 239),(.ref 22),(.builtin "ExceptionGroup.__weakref__"),.none]) #[])
noncomputable def LU(P:Ov):Obj:=(.mk (.ref 22) (some 20) .plain #[])
noncomputable def LV(P:Ov):Obj:=(.mk .none none (.seq #[(.int 11 0),(.str (Str.mk #[6,247,8,95,95,110,97,109,101,95,95,6,246,4,95,115,114,101,6,248,7,95,95,100,111,99,95,95,0,6,250,11,95,95,112,97,99,107,97,103,101,95,95,6,249,0,6,251,10,95,95,108,111,97,100,101,114,95,95,4,0,0,14,6,252,8,95,95,115,112,101,99,95,95,4,0,0,26,6,253,7,99,111,109,112,105,108,101,9,12,95,115,114,101,46,99,111,109,112,105,108,101,6,254,8,116,101,109,112,108,97,116,101,9,13,95,115,114,101,46,116,101,109,112,108,97,116,101,6,255,11,103,101,116,99,111,100,101,115,105,122,101,9,16,95,115,114,101,46,103,101,116,99,111,100,101,115,105,122,101,6,256,13,97,115,99,105,105,95,105,115,99,97,115,101,100,9,18,95,115,114,101,46,97,115,99,105,105,95,105,115,99,97,115,101,100,6,257,15,117,110,105,99,111,100,101,95,105,115,99,97,115,101,100,9,20,95,115,114,101,46,117,110,105,99,111,100,101,95,105,115,99,97,115,101,100,6,258,13,97,115,99,105,105,95,116,111,108,111,119,101,114,9,18,95,115,114,101,46,97,115,99,105,105,95,116,111,108,111,119,101,114,6,259,15,117,110,105,99,111,100,101,95,116,111,108,111,119,101,114,9,20,95,115,114,101,46,117,110,105,99,111,100,101,95,116,111,108,111,119,101,114,6,261,5,77,65,71,73,67,4,260,0,20230612,6,263,8,67,79,68,69,83,73,90,69,4,262,0,4,6,265,9,77,65,88,82,69,80,69,65,84,4,264,0,4294967295,6,267,9,77,65,88,71,82,79,85,80,83,4,266,0,1073741823,6,269,9,99,111,112,121,114,105,103,104,116,6,268,53,32,83,82,69,32,50,46,50,46,50,32,67,111,112,121,114,105,103,104,116,32,40,99,41,32,49,57,57,55,45,50,48,48,50,32,98,121,32,83,101,99,114,101,116,32,76,97,98,115,32,65,66,32]) 0),(.bool true),(.bool false),(.str (sS "_sre") 271)] 0) #[])
noncomputable def L0(P:Ov):List Obj:=[boot_o_0 P,Lw P,Lx P,Ly P,boot_o_4 P,boot_o_5 P,boot_o_6 P,boot_o_7 P,boot_o_8 P,boot_o_9 P,boot_o_10 P,Lz P,LA P,LG P,LH P,LI P,LJ P,LK P,LL P,LM P,LN P,LO P,LP P,LQ P,LR P,LS P,LU P,LV P]
noncomputable def u0{α:Type}:List α->List α
 | []=>[]
 | [x]=>[x]
 | x::_::l=>x::u0 l
noncomputable def nY:Nat->List Obj->BT
 | 0,_=>.nil
 | _,[]=>.nil
 | n+1,x::l=>.node x (nY n (u0 l)) (nY n (u0 l.tail))
noncomputable def lf:Life:=.mk [] [] [] 0 [] [] false #[] [] 0 false false false 0 [2000,10,10] false 0 true [] [] 0 false
noncomputable def fj(P:Ov)(os:OsState):SharedT:=⟨nY 6 (L0 P),28,lf,#[],{},276,os⟩
noncomputable abbrev tf:List Frame:=[topFrame Po]
theorem LW(w:Og):(fencedOpening Qa cc w 6000).map (fun s=>(s.heap,s.gens,s.drawn,s.toks))=some ((fj w.params {}).abs.heap,#[],{},276):=by kernel_rfl
noncomputable def n0(tb:String->Option OX)(p:Ol)(w:Og)(n₀:Nat)(ann:Option NO):Nat->SharedT->Thread->Option SharedT
 | 0,_,_=>none
 | n+1,s,t=>match through t with
  | true=>some s
  | false=>match stepOk n₀ ann t with
   | false=>none
   | true=>match stepT (denote tb) p w s t with
    | some (s',t')=>n0 tb p w n₀ ann n s' t'
    | none=>none
theorem LX:n0 tb p w n₀ ann (n+1) s t=match through t with
 | true=>some s
 | false=>match stepOk n₀ ann t with
  | false=>none
  | true=>match stepT (denote tb) p w s t with
   | some (s',t')=>n0 tb p w n₀ ann n s' t'
   | none=>none:=rfl
theorem LY:∀ {n:Nat} {s s':SharedT} {t:Thread},n0 tb p w n₀ ann n s t=some s'->topRun tb p w n₀ ann n s.abs t=some s'.abs:=fun{n}=>by
 induction n with
 | zero=>exact fun h=>nomatch h
 | succ n ih =>
  intro s s' t h
  rw[LX]at h
  unfold topRun
  cases ht:through t with
  | true=>rw[ht]at h;cases h;rfl
  | false =>
   rw[ht]at h
   cases hk:stepOk n₀ ann t with
   | false=>rw[hk]at h;cases h
   | true =>
    rw[hk]at h
    cases hs:stepT (denote tb) p w s t with
    | none=>rw[hs]at h;cases h
    | some r=>obtain⟨s₂,t₂⟩:=r;rw[hs]at h;dsimp only;rw[stepT_spec hs];exact ih h
noncomputable def og:Ol:=view cc [0,1,3,4,5,6,7,9,10,12,13,15,16,18,19,21,22,23,24,25,26,27,28]
noncomputable def oh:List Str:=[ofString "_twin_re_1",ofString "_special_chars_map",ofString "_NodeInfo"]
noncomputable def fo(f:Of):Obj:=.mk (.type "function") none (.func f) #[]
noncomputable def A2(P:Ov):Obj:=(.mk (.type "type") none (.cls (.mk (sS "_NodeInfo") [(.type "object")] [(.ref 57),(.type "object")] 56 (sS "_NodeInfo") false [(sS "node"),(sS "npredecessors"),(sS "successors")] [] false none false)) #[none,none,(some (.str (sS "_NodeInfo") 297)),(some (.str (sS "_NodeInfo") 305)),(some (.builtin "object.__new__")),(some (.bool false))])
noncomputable def A3(P:Ov):Obj:=(.mk (.type "dict") none (.dict #[(dE P (sS "__module__") 304 (.str (sS "cpy313.graphlib") 289)),(dE P (sS "__firstlineno__") 308 (.int 8 307)),(dE P (sS "__slots__") 312 (.ref 46)),(dE P (sS "__init__") 320 (.ref 53)),(dE P (sS "__static_attributes__") 324 (.ref 54)),(dE P (sS "node") 326 (.ref 58)),(dE P (sS "npredecessors") 328 (.ref 59)),(dE P (sS "successors") 330 (.ref 60)),(dE P (sS "__doc__") 331 .none)] 5) #[])
noncomputable def A4(P:Ov):Obj:=(.mk (.type "type") none (.cls (.mk (sS "TopologicalSorter") [(.type "object")] [(.ref 154),(.type "object")] 153 (sS "TopologicalSorter") true [] [] false none false)) #[none,none,(some (.str (sS "TopologicalSorter") 352)),(some (.str (sS "TopologicalSorter") 360)),(some (.builtin "object.__new__")),(some (.bool true))])
noncomputable def A6(P:Ov):Obj:=(.mk (.type "dict") none (.dict #[(dE P (sS "__module__") 359 (.str (sS "cpy313.graphlib") 289)),(dE P (sS "__firstlineno__") 363 (.int 17 362)),(dE P (sS "__init__") 373 (.ref 90)),(dE P (sS "_get_nodeinfo") 382 (.ref 97)),(dE P (sS "add") 394 (.ref 104)),(dE P (sS "prepare") 400 (.ref 109)),(dE P (sS "get_ready") 410 (.ref 116)),(dE P (sS "is_active") 417 (.ref 123)),(dE P (sS "__bool__") 424 (.ref 130)),(dE P (sS "done") 438 (.ref 137)),(dE P (sS "_find_cycle") 451 (.ref 144)),(dE P (sS "static_order") 458 (.ref 151)),(dE P (sS "__static_attributes__") 463 (.ref 152)),(dE P (sS "__dict__") 465 (.ref 155)),(dE P (sS "__weakref__") 467 (.ref 156)),(dE P (sS "__doc__") 468 .none)] 4) #[])
noncomputable def A7(P:Ov):Obj:=(.mk (.type "type") none (.cls (.mk (sS "CycleError") [(.type "ValueError")] [(.ref 72),(.type "ValueError"),(.type "Exception"),(.type "BaseException"),(.type "object")] 71 (sS "CycleError") true [] [] false none false)) #[(some (.ref 63)),none,(some (.str (sS "CycleError") 334)),(some (.str (sS "CycleError") 342)),(some (.builtin "ValueError.__new__")),(some (.bool true))])
noncomputable def A8(P:Ov):Obj:=(.mk (.type "dict") none (.dict #[(dE P (sS "__module__") 341 (.str (sS "cpy313.graphlib") 289)),(dE P (sS "__firstlineno__") 345 (.int 15 344)),(dE P (sS "__static_attributes__") 346 (.ref 70)),(dE P (sS "__weakref__") 348 (.ref 73)),(dE P (sS "__doc__") 349 .none)] 3) #[])
noncomputable def A9(P:Ov):Obj:=(.mk (.type "member_descriptor") none (.fields #[(.str (sS "node") 325),(.ref 57),(.builtin "proto.slot"),(.builtin "proto.slot#set"),(.int 2 0)]) #[])
noncomputable def Ba(P:Ov):Obj:=(.mk (.type "member_descriptor") none (.fields #[(.str (sS "npredecessors") 327),(.ref 57),(.builtin "proto.slot"),(.builtin "proto.slot#set"),(.int 1 0)]) #[])
noncomputable def Bb(P:Ov):Obj:=(.mk (.type "member_descriptor") none (.fields #[(.str (sS "successors") 329),(.ref 57),(.builtin "proto.slot"),(.builtin "proto.slot#set"),(.int 0 0)]) #[])
noncomputable def oi(P:Ov):Obj:=(.mk (.type "dict") none (.dict #[(Oq 40 (.int 40 523) (.str (sS "\\(") 527)),(Oq 41 (.int 41 529) (.str (sS "\\)") 533)),(Oq 91 (.int 91 535) (.str (sS "\\[") 539)),(Oq 93 (.int 93 541) (.str (sS "\\]") 545)),(Oq 123 (.int 123 547) (.str (sS "\\{") 551)),(Oq 125 (.int 125 553) (.str (sS "\\}") 557)),(Oq 63 (.int 63 559) (.str (sS "\\?") 563)),(Oq 42 (.int 42 565) (.str (sS "\\*") 569)),(Oq 43 (.int 43 571) (.str (sS "\\+") 575)),(Oq 45 (.int 45 577) (.str (sS "\\-") 581)),(Oq 124 (.int 124 583) (.str (sS "\\|") 587)),(Oq 94 (.int 94 589) (.str (sS "\\^") 593)),(Oq 36 (.int 36 595) (.str (sS "\\$") 599)),(Oq 92 (.int 92 601) (.str (sS "\\\\") 605)),(Oq 46 (.int 46 607) (.str (sS "\\.") 611)),(Oq 38 (.int 38 613) (.str (sS "\\&") 617)),(Oq 126 (.int 126 619) (.str (sS "\\~") 623)),(Oq 35 (.int 35 625) (.str (sS "\\#") 629)),(Oq 32 (.int 32 631) (.str (sS "\\ ") 635)),(Oq 9 (.int 9 637) (.str (sS "\\\t") 641)),(Oq 10 (.int 10 643) (.str (sS "\\\n") 647)),(Oq 13 (.int 13 649) (.str (sS "\\\x0d") 653)),(Oq 11 (.int 11 655) (.str (sS "\\\x0b") 659)),(Oq 12 (.int 12 661) (.str (sS "\\\x0c") 665))] 24) #[])
noncomputable def qP(P:Ov):Obj:=(.mk (.type "tuple") none (.seq #[.none] 0) #[])
noncomputable def Bc:Of:=bU "_deduplicate_unhashable" "_deduplicate_unhashable" (bu 18) "cpy313.typing" 709 202 .none
noncomputable def Bd:Of:=bU "_compare_args_orderless" "_compare_args_orderless" (bu 19) "cpy313.typing" 709 209 .none
noncomputable def u6:Of:=bU "translate" "translate" (bu 10) "cpy313.fnmatch" 471 169 .none
noncomputable def Be:Of:=bU "escape" "escape" (bu 13) "re" 520 181 .none
noncomputable def Bf:Of:=bU "_translate" "_translate" (bu 15) "cpy313.fnmatch" 675 188 .none
noncomputable def Bg:Of:=bU "_join_translated_parts" "_join_translated_parts" (bu 16) "cpy313.fnmatch" 675 195 .none
noncomputable def Bh:Of:=bU "_law_roads" "_law_roads" (bu 21) "law_kt0069_08" 732 216 .none
noncomputable def Bi:Of:=bU "_law_courses" "_law_courses" (bu 22) "law_kt0069_08" 732 221 .none
noncomputable def Bj:Of:=bU "_law_odds" "_law_odds" (bu 23) "law_kt0069_08" 732 226 .none
noncomputable def Bk:Of:=bU "_law_told" "_law_told" (bu 24) "law_kt0069_08" 732 231 .none
noncomputable def Bl:Of:=bU "_law_places" "_law_places" (bu 25) "law_kt0069_08" 732 236 .none
noncomputable def Bm:Of:=bU "_law_ringless" "_law_ringless" (bu 26) "law_kt0069_08" 732 243 .none
noncomputable def Bn:Of:=bU "_law_taken" "_law_taken" (bu 27) "law_kt0069_08" 732 248 .none
noncomputable def Bo:Of:=bU "law" "law" (bu 28) "law_kt0069_08" 732 253 .none
noncomputable def KL(P:Ov):Frag:=[(203,fo Bc),(210,fo Bd),(170,fo u6),(182,fo Be),(189,fo Bf),(196,fo Bg),(fI,fo oG),(fT,fo fdT),(oE,fo g8),(lR,fo iL),(fP,fo iM),(fF,fo g9),(217,fo Bh),(222,fo Bi),(227,fo Bj),(232,fo Bk),(237,fo Bl),(244,fo Bm),(249,fo Bn),(254,fo Bo),(NI,A2 P),(56,A3 P),(TS,A4 P),(153,A6 P),(CE,A7 P),(71,A8 P),(pN,A9 P),(pP,Ba P),(pS,Bb P),(172,oi P),(83,qP P)]
noncomputable def qQ:List (NQ × Str):=[(202,sS "_deduplicate_unhashable"),(209,sS "_compare_args_orderless"),(169,sS "translate"),(181,sS "escape"),(188,sS "_translate"),(195,sS "_join_translated_parts"),(52,sS "_NodeInfo.__init__"),(89,sS "TopologicalSorter.__init__"),(96,sS "TopologicalSorter._get_nodeinfo"),(103,sS "TopologicalSorter.add"),(108,sS "TopologicalSorter.prepare"),(143,sS "TopologicalSorter._find_cycle"),(216,sS "_law_roads"),(221,sS "_law_courses"),(226,sS "_law_odds"),(231,sS "_law_told"),(236,sS "_law_places"),(243,sS "_law_ringless"),(248,sS "_law_taken"),(253,sS "law")]
noncomputable def oj:List (Str × NQ):=[(sS "_deduplicate_unhashable",203),(sS "_compare_args_orderless",210),(sS "translate",170),(sS "escape",182),(sS "_translate",189),(sS "_join_translated_parts",196),(sS "_special_chars_map",172),(sS "_NodeInfo",NI),(sS "CycleError",CE),(sS "TopologicalSorter",TS),(sS "_law_roads",217),(sS "_law_courses",222),(sS "_law_odds",227),(sS "_law_told",232),(sS "_law_places",237),(sS "_law_ringless",244),(sS "_law_taken",249),(sS "law",254)]
structure HF(w:Og)(mg mb:Str->Option NO)(h:N9):Prop where
 g:h.Ns Ph mg
 b:h.Ns Qd mb
 lim:h.NoLimit
 K:(KL w.params).In h
 bn:∀p∈dU,mg p.1=none/\mb p.1=some p.2
 gl:∀p∈oj,mg p.1=some (.ref p.2)
 cd:∀p∈qQ,h.CodeRec (.ref p.1) p.2
 sys:∃o,h.get? OR=some o
noncomputable def G5(w:Og)(mg mb:Str->Option NO)(h:N9):Glo:=⟨cc,w,mg,mb,KL w.params,h,pR cc w⟩
noncomputable def Bp(a:NQ):NO->Bool
 | .ref b=>Nat.beq b a
 | _=>false
theorem LZ{a:NQ}{v:NO}(q:Bp a v=true):v=.ref a:=by
 cases v<;>first | exact absurd q MY | exact congrArg N2 (Nat.eq_of_beq_eq_true q)
theorem gt{α β:Type}{a a':α}{b b':β}(h:(a,b)=(a',b')):a=a'/\b=b':=⟨congrArg Prod.fst h,congrArg Prod.snd h⟩
section
variable{w:Og}{mg mb:Str->Option NO}{h:N9}(H:HF w mg mb h)
include H
theorem aH:(G5 w mg mb h).Wf where
 g:=H.g
 b:=H.b
 lim:=H.lim
 K:=H.K
 srf g S h h' v r k _ _:=Gf r k
 bn:=H.bn
theorem fi{a:NQ}{fd:Of}{b:List NW}{names vars:List Str}(hl:(KL w.params).lookup a=some (fo fd))(hx:(fd.body,fd.closure,fd.globals,fd.builtins)=(.stmts b,[],Ph,Qd))
 (hc:(qQ.any fun p=>Bp p.1 fd.code&&fd.qualname==p.2)=true) (sc:sx fd.scope names vars=true):FnInfo (G5 w mg mb h) a fd b names vars where
 at_:=⟨_,hl,rfl⟩
 hbody:=(gt hx).1
 hclo:=(gt (gt hx).2).1
 hg:=(gt (gt (gt hx).2).2).1
 hb:=(gt (gt (gt hx).2).2).2
 hcode:=by
  refine x12 (dP.mp hc) fun p hp q=>a7 q fun q1 q2=>?_
  rw[LZ q1,NY q2];exact H.cd p hp
 sc:=FnSc.of sc
end
theorem L4:dU.map (fun p=>bootBuiltins p.1)=dU.map fun p=>some p.2:=by kernel_rfl
section
variable(P:Ov)
theorem u7:eI (KL P) TS=true:=by kernel_rfl
theorem Bq:fy (KL P) NI=true:=by kernel_rfl
theorem Br:dK (KL P) NI (sS "node") pN 0=true:=by kernel_rfl
theorem Bs:dK (KL P) NI (sS "npredecessors") pP 1=true:=by kernel_rfl
theorem qR:dK (KL P) NI (sS "successors") pS 2=true:=by kernel_rfl
end
theorem L5(u v:NO)(ps:List NO)(h:ps.length<=8):O8 iL ⟨u::v::ps,[]⟩=(newTuple ps >>= fun t=>pure ([aA,aw,i7].zip [u,v,t])):=by
 rcases ps with _ | ⟨_,_ | ⟨_,_ | ⟨_,_ | ⟨_,_ | ⟨_,_ | ⟨_,_ | ⟨_,_ | ⟨_,_ | ⟨_,l⟩⟩⟩⟩⟩⟩⟩⟩⟩
 all_goals first | kernel_rfl | exact absurd h (Nat.not_le_of_gt (Nat.le_add_left 9 l.length))
noncomputable def L6:Of:=bU "__init__" "TopologicalSorter.__init__" (md 7 0) "cpy313.graphlib" 289 89 (.ref 83)
theorem L7{K:Frag}{P:Ov}(s:NL)(hK:K.In s.heap)(h:K.lookup 83=some (qP P))(v:NO):BindsTo s fdT ⟨[v],[]⟩ ([aA,jN].zip [v,.none]):=by
 rw[show fdT=L6 by kernel_rfl]
 exact .of_defaults (T:=83) (o:=qP P) (items:=#[.none]) (n:=0) rfl (hK 83 _ h) rfl rfl rfl
section
variable{w:Og}{mg mb:Str->Option NO}{h:N9}(H:HF w mg mb h)
include H
theorem N5:NiInfo (G5 w mg mb h) oG bI where
 ni:=Bq _
 sN:=Br _
 sP:=Bs _
 sS:=qR _
 init:=by kernel_rfl
 isfn:=by kernel_rfl
 FI:=fi H (by kernel_rfl) (by kernel_rfl) (by kernel_rfl) (by kernel_rfl)
 bind u v:=by kernel_rfl
 bd:=⟨by kernel_rfl⟩
theorem I5:SI (G5 w mg mb h) where
 ts:=u7 _
 N:=N5 H
 ni:=H.gl (sS "_NodeInfo",NI) (by decide +kernel)
 keepN:=by kernel_rfl
 get:=by kernel_rfl
 FG:=fi H (by kernel_rfl) (by kernel_rfl) (by kernel_rfl) (by kernel_rfl)
 bindG u v:=by kernel_rfl
 bdG:=⟨by kernel_rfl,by kernel_rfl⟩
 glG:=by kernel_rfl
 sys:=H.sys
theorem A5:SA (G5 w mg mb h) where
 toSI:=I5 H
 FA:=fi H (by kernel_rfl) (by kernel_rfl) (by kernel_rfl) (by kernel_rfl)
 bindA:=L5
 bdA:=⟨by kernel_rfl,by kernel_rfl,by kernel_rfl,by kernel_rfl⟩
 glA:=by kernel_rfl
theorem T5:TInfo (G5 w mg mb h) fdT bT where
 ts:=u7 _
 init:=by kernel_rfl
 isfn:=by kernel_rfl
 FI:=fi H (by kernel_rfl) (by kernel_rfl) (by kernel_rfl) (by kernel_rfl)
 bind s hK v:=L7 s hK (P:=w.params) (by kernel_rfl) v
 bd:=⟨by kernel_rfl⟩
theorem Mb:FInfo (G5 w mg mb h) where
 ts:=u7 _
 ni:=Bq _
 sS:=qR _
 FF:=fi H (by kernel_rfl) (by kernel_rfl) (by kernel_rfl) (by kernel_rfl)
 bind u:=by kernel_rfl
 bd:=⟨sB bF 5,by kernel_rfl,sB (eC (sB (eC (sB bF 5)) 1)) 0,sB (eC (sB (eC (sB bF 5)) 1)) 1,by kernel_rfl,⟨by kernel_rfl,by kernel_rfl,by kernel_rfl,by kernel_rfl⟩,⟨by kernel_rfl,by kernel_rfl,by kernel_rfl⟩⟩
 gl:=by kernel_rfl
 loc:=by kernel_rfl
 sys:=H.sys
end
noncomputable def ent(o:Obj):Array PQ:=match o.data with | .dict es _=>es | _=>#[]
theorem u8(e:vs.length=n+1):∃a r,vs=a::r/\r.length=n:=by
 cases vs with
 | nil=>exact Nat.noConfusion e
 | cons a r=>exact⟨a,r,rfl,Nat.succ.inj e⟩
theorem gu{α:Type}{f g:List NO->α}(h:∀a,f [a]=g [a])(vs:List NO)(e:vs.length=1):f vs=g vs :=
 x22 (u8 e) fun a r e1 e2=>by rw[e1,List.length_eq_zero_iff.mp e2];exact h a
theorem qS{α:Type}{f g:List NO->α}(h:∀a b,f [a,b]=g [a,b])(vs:List NO)(e:vs.length=2):f vs=g vs :=
 x22 (u8 e) fun a r e1 e2=>e1▸gu (f:=fun r=>f (a::r)) (g:=fun r=>g (a::r)) (h a) r e2
theorem Mc{α:Type}{f g:List NO->α}(h:∀a b c,f [a,b,c]=g [a,b,c])(vs:List NO)(e:vs.length=3):f vs=g vs :=
 x22 (u8 e) fun a r e1 e2=>e1▸qS (f:=fun r=>f (a::r)) (g:=fun r=>g (a::r)) (h a) r e2
section
variable{w:Og}{mg mb:Str->Option NO}{h:N9}(H:HF w mg mb h)
include H
theorem Md:PInfo (G5 w mg mb h) where
 toFInfo:=Mb H
 sN:=Br _
 sP:=Bs _
 mF:=by kernel_rfl
 FP:=fi H (by kernel_rfl) (by kernel_rfl) (by kernel_rfl) (by kernel_rfl)
 bindP u:=by kernel_rfl
 bdP:=⟨sS "nodes are in a cycle",by kernel_rfl,by kernel_rfl,by kernel_rfl,by kernel_rfl,by kernel_rfl⟩
 glP:=by kernel_rfl
 ce:=H.gl (sS "CycleError",CE) (by decide +kernel)
 exc:=by kernel_rfl
theorem S5:SorG (G5 w mg mb h) where
 sr _ _ _ _:=Iff.rfl
 T:=T5 H
 A:=A5 H
 P:=Md H
 gT:=H.gl (sS "TopologicalSorter",TS) (by decide +kernel)
 kT:=by kernel_rfl
 mA:=by kernel_rfl
 mP:=by kernel_rfl
 ce:=by kernel_rfl
theorem Me:aM (G5 w mg mb h) bR:=GO (a:=182) (fd:=Be) (body:=oK) (scm:=172) (f:=fun k=>findBy Value.isInt (ent (oi w.params)) k) (aH H) {
 nm:=H.gl (sS "escape",182) (by decide +kernel)
 FI:=fi H (by kernel_rfl) (by kernel_rfl) (by kernel_rfl) (by kernel_rfl)
 bind:=gu fun a=>by kernel_rfl
 bd:=⟨by kernel_rfl,by kernel_rfl,by kernel_rfl,by kernel_rfl,by kernel_rfl⟩
 gs:=H.gl (sS "_special_chars_map",172) (by decide +kernel)
 mp:=⟨oi w.params,_,_,H.K 172 _ (by kernel_rfl),rfl,rfl,fun e he=>by
  have:((ent (oi w.params)).toList.all fun e=>match e.key with | .int k _=>decide (e.hash=hashInt k) | _=>false)=true:=by kernel_rfl
  have:=bt.mp this e (Array.mem_toList_iff.mpr he)
  revert this
  cases e.key<;>intro this<;>first | exact absurd this MY | exact⟨_,_,rfl,of_decide_eq_true this⟩,fun k=>rfl⟩
 at_:=fun c hc=>by
  rcases aa.mp hc with rfl | hc
  ·exact⟨575,by kernel_rfl⟩
  ·rcases aa.mp hc with rfl | hc
   ·exact⟨581,by kernel_rfl⟩
   ·rw[ah.mp hc];exact⟨611,by kernel_rfl⟩ }
theorem Mf : aM (G5 w mg mb h) bD := Hf (aH H) (Me H) (fT := 189) (fJ := 196) (fN := 170) (fdN := u6) (bN := (bu 10).2.1) (fdT := Bf) (fdJ := Bg) (bT := hG) (bJ := hH) {
  nm := H.gl (sS "translate", 170) (by decide +kernel)
  FI := fi H (by kernel_rfl) (by kernel_rfl) (by kernel_rfl) (by kernel_rfl)
  bind := gu fun a => by kernel_rfl
  bd := ⟨by kernel_rfl, by kernel_rfl, by kernel_rfl, by kernel_rfl⟩
  gT := H.gl (sS "_translate", 189) (by decide +kernel)
  gJ := H.gl (sS "_join_translated_parts", 196) (by decide +kernel)
  T := { FI := fi H (by kernel_rfl) (by kernel_rfl) (by kernel_rfl) (by kernel_rfl)
         bind := Mc fun a b c => by kernel_rfl
         bd := ⟨by kernel_rfl, by kernel_rfl, by kernel_rfl, by kernel_rfl, by kernel_rfl,
           ⟨by kernel_rfl, by kernel_rfl, by kernel_rfl, by kernel_rfl, by kernel_rfl, by kernel_rfl, by kernel_rfl, by kernel_rfl, by kernel_rfl, by kernel_rfl⟩, by kernel_rfl⟩ }
  J := { FI := fi H (by kernel_rfl) (by kernel_rfl) (by kernel_rfl) (by kernel_rfl)
         bind := qS fun a b => by kernel_rfl
         bd := ⟨by kernel_rfl, by kernel_rfl, by kernel_rfl, by kernel_rfl,
           ⟨by kernel_rfl, by kernel_rfl, by kernel_rfl, by kernel_rfl⟩, by kernel_rfl, ⟨by kernel_rfl, by kernel_rfl, by kernel_rfl, by kernel_rfl⟩⟩ } }
end
section
variable{w:Og}{mg mb:Str->Option NO}{h:N9}(H:HF w mg mb h)
include H
theorem j8(S:SX)(F:FEntry)(a:NQ)(fd:Of)(b:List NW)(names vars:List Str)(hF:∀F∈Φ,aM (G5 w mg mb h) F)(hP:dX (G5 w mg mb h) false S)(hm:(F.name,a)∈oj)
 (I:FnInfo (G5 w mg mb h) a fd b names vars) (hbind:∀vs:List NO,vs.length=names.length->O8 fd ⟨vs,[]⟩=pure (names.zip vs))
 (hchk:cf Φ S fd.scope (vars.map some) b=true) (hk:kS Φ S+1<=F.k)
 (hpre:∀ds,F.pre ds->ds.length=names.length/\bf Φ S (bg vars ds)/\(au Φ S (bg vars ds)).1=.ret (F.val ds)):aM (G5 w mg mb h) F :=
 x12 I.at_ fun U q1 q2=>EB (aH H) hF S hP F (H.gl _ hm) q1 q2 I.hbody I.hclo I.hg I.hb I.hcode I.sc hbind hchk hk hpre
theorem u9(S:SX)(F:FEntry)(a:NQ)(fd:Of)(b:List NW)(names vars:List Str)(hF:∀F∈Φ,aM (G5 w mg mb h) F)(hP:dX (G5 w mg mb h) true S)(hm:(F.name,a)∈oj)
 (I:FnInfo (G5 w mg mb h) a fd b names vars) (hbind:∀vs:List NO,vs.length=names.length->O8 fd ⟨vs,[]⟩=pure (names.zip vs))
 (hchk:cf Φ S fd.scope (vars.map some) b=true) (hk:kS Φ S+1<=F.k)
 (hpre:∀ds,F.pre ds->ds.length=names.length/\bf Φ S (bg vars ds)/\(au Φ S (bg vars ds)).1=.ret (F.val ds)):gb (G5 w mg mb h) F :=
 Ge (aH H) hF S hP F (H.gl _ hm) I hbind hchk hk hpre
theorem Mg:aM (G5 w mg mb h) ge:=j8 H tK ge 203 Bc (bu 18).2.1 (nc.take 1) nc bl ⟨Ev _ _ (aH H) bl,⟨⟨pz _ _ (aH H) bl,trivial⟩,trivial,trivial⟩,gF _ (aH H) bl,trivial⟩ (by decide +kernel) (fi H (by kernel_rfl) (by kernel_rfl) (by kernel_rfl) (by kernel_rfl)) (gu fun a=>by kernel_rfl) (by kernel_rfl) (by decide +kernel) GG
theorem on:∀F∈[ge],aM (G5 w mg mb h) F:=fun F hF=>by rw[ah.mp hF];exact Mg H
theorem lJ:∀F∈[bD],aM (G5 w mg mb h) F:=fun F hF=>by rw[ah.mp hF];exact Mf H
theorem Mi:gb (G5 w mg mb h) kZ:=u9 H tL kZ 210 Bd (bu 19).2.1 (ng.take 2) ng (on H) ⟨cH _ _ (aH H) (on H),cH _ _ (aH H) (on H),GE _ _ (aH H) (on H),GD _ _ _ _ (aH H) (on H),GF _ (aH H),trivial⟩ (by decide +kernel) (fi H (by kernel_rfl) (by kernel_rfl) (by kernel_rfl) (by kernel_rfl)) (qS fun a b=>by kernel_rfl) (by kernel_rfl) (by decide +kernel) GH
theorem Mj:aM (G5 w mg mb h) lx:=j8 H nG lx 217 Bh (bu 21).2.1 (nE.take 1) nE bl ⟨pC _ _ (aH H) bl,⟨⟨⟨pz _ _ (aH H) bl,trivial⟩,⟨⟨pz _ _ (aH H) bl,⟨cH _ _ (aH H) bl,trivial⟩⟩,trivial,trivial⟩,trivial⟩,⟨gF _ (aH H) bl,trivial⟩⟩⟩ (by decide +kernel) (fi H (by kernel_rfl) (by kernel_rfl) (by kernel_rfl) (by kernel_rfl)) (gu fun a=>by kernel_rfl) (by kernel_rfl) (by decide +kernel) IM
theorem Mk:aM (G5 w mg mb h) lz:=j8 H nJ lz 222 Bi (bu 22).2.1 (nH.take 1) nH bl ⟨cH _ _ (aH H) bl,⟨⟨cH _ _ (aH H) bl,⟨⟨cH _ _ (aH H) bl,trivial⟩,⟨cH _ _ (aH H) bl,trivial⟩⟩⟩,⟨gF _ (aH H) bl,trivial⟩⟩⟩ (by decide +kernel) (fi H (by kernel_rfl) (by kernel_rfl) (by kernel_rfl) (by kernel_rfl)) (gu fun a=>by kernel_rfl) (by kernel_rfl) (by decide +kernel) Jf
theorem Ml:aM (G5 w mg mb h) lA:=j8 H nM lA 227 Bj (bu 23).2.1 (nK.take 1) nK bl ⟨Hi _ _ _ (aH H) H.sys bl,⟨⟨Hq _ _ (aH H) H.sys,⟨⟨Hu _ _ _ (aH H) bl,trivial⟩,⟨Hv _ _ (aH H),trivial⟩⟩⟩,⟨gF _ (aH H) bl,trivial⟩⟩⟩ (by decide +kernel) (fi H (by kernel_rfl) (by kernel_rfl) (by kernel_rfl) (by kernel_rfl)) (gu fun a=>by kernel_rfl) (by kernel_rfl) (by decide +kernel) Ju
theorem Mm:aM (G5 w mg mb h) lC:=j8 H nP lC 232 Bk (bu 24).2.1 (nN.take 2) nN bl ⟨gF _ (aH H) bl,trivial⟩ (by decide +kernel) (fi H (by kernel_rfl) (by kernel_rfl) (by kernel_rfl) (by kernel_rfl)) (qS fun a b=>by kernel_rfl) (by kernel_rfl) (by decide +kernel) JM
theorem Mn:aM (G5 w mg mb h) lD:=j8 H nR lD 237 Bl (bu 25).2.1 (nQ.take 1) nQ bl ⟨cH _ _ (aH H) bl,⟨⟨cH _ _ (aH H) bl,trivial⟩,⟨gF _ (aH H) bl,trivial⟩⟩⟩ (by decide +kernel) (fi H (by kernel_rfl) (by kernel_rfl) (by kernel_rfl) (by kernel_rfl)) (gu fun a=>by kernel_rfl) (by kernel_rfl) (by decide +kernel) JN
theorem Mo:gb (G5 w mg mb h) lE:=u9 H nT lE 244 Bm (bu 26).2.1 (nS.take 1) nS bl ⟨Gh _ (aH H) (S5 H),⟨⟨Gj _ _ (aH H) bl (S5 H),trivial⟩,⟨Gm _ _ (aH H) (S5 H),⟨gF _ (aH H) bl,trivial⟩⟩⟩⟩ (by decide +kernel) (fi H (by kernel_rfl) (by kernel_rfl) (by kernel_rfl) (by kernel_rfl)) (gu fun a=>by kernel_rfl) (by kernel_rfl) (by decide +kernel) JP
theorem Mp:aM (G5 w mg mb h) lF:=j8 H nV lF 249 Bn (bu 27).2.1 (nU.take 1) nU (lJ H) ⟨pC _ _ (aH H) (lJ H),⟨⟨cH _ _ (aH H) (lJ H),⟨cH _ _ (aH H) (lJ H),⟨pC _ _ (aH H) (lJ H),trivial⟩⟩⟩,⟨gF _ (aH H) (lJ H),trivial⟩⟩⟩ (by decide +kernel) (fi H (by kernel_rfl) (by kernel_rfl) (by kernel_rfl) (by kernel_rfl)) (gu fun a=>by kernel_rfl) (by kernel_rfl) (by decide +kernel) Kn
end
noncomputable def Bt:FEntry:=⟨sS "law",20,fun ds=>∃xs:List Int,xs.length<=63/\ds=[.list (xs.map .int)],fun U=>.bool true⟩
section
variable{w:Og}{mg mb:Str->Option NO}{h:N9}(H:HF w mg mb h)
include H
theorem dC:∀F∈aG,aM (G5 w mg mb h) F:=fun F hF=>by
 rcases aa.mp hF with rfl | hF
 ·exact Mj H
 rcases aa.mp hF with rfl | hF
 ·exact Mk H
 rcases aa.mp hF with rfl | hF
 ·exact Ml H
 rcases aa.mp hF with rfl | hF
 ·exact Mm H
 rcases aa.mp hF with rfl | hF
 ·exact Mn H
 rw[ah.mp hF];exact Mp H
theorem vd:∀F∈iI,gb (G5 w mg mb h) F:=fun F hF=>by
 rcases aa.mp hF with rfl | hF
 ·exact Mi H
 rw[ah.mp hF];exact Mo H
theorem Mq:gb (G5 w mg mb h) Bt:=u9 H nX Bt 254 Bo (bu 28).2.1 (qM.take 1) qM (dC H)
 ⟨cH _ _ (aH H) (dC H),⟨cH _ _ (aH H) (dC H),⟨cH _ _ (aH H) (dC H),⟨cH _ _ (aH H) (dC H),⟨pC _ _ (aH H) (dC H),⟨⟨cH _ _ (aH H) (dC H),⟨cH _ _ (aH H) (dC H),⟨yi _ _ _ (aH H) (dC H) (vd H) ⟨pz _ _ (aH H) (dC H),trivial⟩ trivial,⟨⟨gF _ (aH H) (dC H),trivial⟩,trivial,⟨cH _ _ (aH H) (dC H),trivial⟩⟩⟩⟩⟩,⟨cH _ _ (aH H) (dC H),⟨cH _ _ (aH H) (dC H),⟨⟨cH _ _ (aH H) (dC H),trivial⟩,⟨yi _ _ _ (aH H) (dC H) (vd H) ⟨gF _ (aH H) (dC H),trivial⟩ trivial,⟨Gd _ (aH H) (dC H) (vd H),trivial⟩⟩⟩⟩⟩⟩⟩⟩⟩⟩⟩
 (by decide +kernel) (fi H (by kernel_rfl) (by kernel_rfl) (by kernel_rfl) (by kernel_rfl)) (gu fun a=>by kernel_rfl) (by kernel_rfl) (by decide +kernel)
 fun ds ζ=>ζ.elim fun xs ζ=>ζ.elim fun hl e=>by subst e;exact⟨rfl,Lv xs hl⟩
end
noncomputable def aP(x:String)(n:Nat):NO:=.str (sS x) n
noncomputable def aX(P:Ov)(x:String)(n:Nat)(v:NO):PQ:=dE P (sS x) n v
noncomputable def lK(l:List NO):Obj:=.mk .none none (.fields l.toArray) #[]
noncomputable def cS(c:NO)(l:List NO):Obj:=.mk c none (.fields l.toArray) #[]
noncomputable def oq(l:List PQ)(n:Nat):Obj:=.mk (.type "dict") none (.dict l.toArray n) #[]
noncomputable def jp(l:List NO):Obj:=.mk (.type "tuple") none (.seq l.toArray 0) #[]
noncomputable def tE:Obj:=jp []
noncomputable def Mr(l:List Int):List NO:=l.map fun i=>.int i 0
noncomputable def Bu:Nat->List Int->List NO
 | _,[]=>[]
 | n,i::l=>.int i n::Bu (n+1) l
noncomputable def Bv:Nat->List String->List NO
 | _,[]=>[]
 | n,x::l=>aP x n::Bv (n+1) l
noncomputable def cO(a t e line argc fl:Nat)(l:List NO)(fd:Of):Obj:=cS (.type "code") ([.str fd.name t,.str fd.qualname (t+1),aP "/claim/cut.py" (t+2),.int line 0,.int argc 0,.int 0 0,.int 0 0,.int fl 0,.ref a,.bool true,.int 276 0,.ref (a+1),.none]++l++[.int (t+3+e) 0,.int line 0,aP "/claim/cut.py" (t+4+e)])
noncomputable def fN(fd:Of):Obj:=.mk .none none (.func { fd with globals:=0,defaults:=.none,pyModule:=.none,code:=.none }) #[]
noncomputable def fK(a t line argc fl:Nat)(ns:List String)(fd:Of):List Obj:=[tE,lK [],jp (Bv (t+3) ns),tE,fN fd,cO a t ns.length line argc fl [.ref (a+2),.ref (a+3),.ref (a+4)] fd,fo fd]
noncomputable def Ms(a t line argc fl:Nat)(fd:Of):List Obj:=[tE,lK [],fN fd,cO a t 0 line argc fl [.none,.none,.ref (a+2)] fd,fo fd]
noncomputable def b3(P:Ov):List PQ:=[(aX P "__name__" 165 (aP "re" 520)),(aX P "__doc__" 166 .none),(aX P "__package__" 167 .none),(aX P "__loader__" 168 (.builtin "__main__.__loader__#opaque")),(aX P "__spec__" 169 .none),(aX P "__annotations__" 170 (.ref 6)),(aX P "__builtins__" 171 (.ref 4)),(aX P "__file__" 173 (aP "/claim/cut.py" 172)),(aX P "__cached__" 174 .none),(aX P "_sre" 275 (.ref 12)),(aX P "_wall" 288 (.ref 38)),(aX P "_NODE_OUT" 293 (.int (-1) 292)),(aX P "_NODE_DONE" 296 (.int (-2) 295)),(aX P "_NodeInfo" 333 (.ref 57)),(aX P "CycleError" 351 (.ref 72)),(aX P "TopologicalSorter" 470 (.ref 154)),(aX P "_twin_re_1" 510 (.ref 163)),(aX P "translate" 519 (.ref 170))]
noncomputable def LB(P:Ov):List Obj:=[tE,lK [(.int 2 0),(.int 0 0),(.ref 37),(.int 8 0),(.int 0 0),(.ref 44),(.int 15 0),(.int 0 0),(.ref 68),(.int 17 0),(.int 0 0),(.ref 81),(.int 125 0),(.int 0 0),(.ref 169)],cS (.type "code") [(aP "<module>" 277),(aP "<module>" 278),(aP "/claim/cut.py" 279),(.int 1 0),(.int 0 0),(.int 0 0),(.int 0 0),(.int 0 0),(.ref 28),(.bool false),(.int 276 0),(.ref 29),.none,.none,.none,.none,(.int 280 0),(.int 1 0),(aP "/claim/cut.py" 281)],(.mk (.type "frame") none .plain #[(some (.ref 30)),(some (.ref 3)),(some (.ref 3)),none,(some (aP "__main__" 164)),none,(some (.ref 0))])]++fK 32 282 2 1 3 ["k"] (bU "_wall" "_wall" (bu 1) "__main__" 164 37 .none)++[tE,cS (.type "builtin_function_or_method") [(.builtin "type.__prepare__"),(.type "type")],oq [(aX P "__module__" 304 (aP "cpy313.graphlib" 289)),(aX P "__qualname__" 306 (aP "_NodeInfo" 305)),(aX P "__firstlineno__" 308 (.int 8 307)),(aX P "__slots__" 312 (.ref 46)),(aX P "__init__" 320 (.ref 53)),(aX P "__static_attributes__" 324 (.ref 54))] 6,tE,lK [(.int 11 0),(.int 4 0),(.ref 52)],cS (.type "code") [(aP "_NodeInfo" 299),(aP "_NodeInfo" 300),(aP "/claim/cut.py" 301),(.int 8 0),(.int 0 0),(.int 0 0),(.int 0 0),(.int 0 0),(.ref 42),(.bool false),(.int 276 0),(.ref 43),.none,.none,.none,.none,(.int 302 0),(.int 8 0),(aP "/claim/cut.py" 303)],(.mk (.type "frame") none .plain #[(some (.ref 44)),(some (.ref 3)),(some (.ref 41)),none,(some (aP "cpy313.graphlib" 289)),none,(some (.ref 0))]),jp [(aP "node" 309),(aP "npredecessors" 310),(aP "successors" 311)]]++fK 47 313 11 2 3 ["self", "node"] oG++[jp [(aP "node" 321),(aP "npredecessors" 322),(aP "successors" 323)],(.mk (.type "list") none (.seq #[(aP "node" 309),(aP "npredecessors" 310),(aP "successors" 311)] 1) #[]),A3 P,A2 P,A9 P,Ba P,Bb P,cS (.type "super") [(.ref 57),(.ref 57),(.ref 57)],cS (.type "builtin_function_or_method") [(.builtin "object.__init_subclass__"),(.ref 57)],jp [(.type "ValueError")],cS (.type "builtin_function_or_method") [(.builtin "type.__prepare__"),(.type "type")],oq [(aX P "__module__" 341 (aP "cpy313.graphlib" 289)),(aX P "__qualname__" 343 (aP "CycleError" 342)),(aX P "__firstlineno__" 345 (.int 15 344)),(aX P "__static_attributes__" 346 (.ref 70))] 4,tE,lK [],cS (.type "code") [(aP "CycleError" 336),(aP "CycleError" 337),(aP "/claim/cut.py" 338),(.int 15 0),(.int 0 0),(.int 0 0),(.int 0 0),(.int 0 0),(.ref 66),(.bool false),(.int 276 0),(.ref 67),.none,.none,.none,.none,(.int 339 0),(.int 15 0),(aP "/claim/cut.py" 340)],(.mk (.type "frame") none .plain #[(some (.ref 68)),(some (.ref 3)),(some (.ref 65)),none,(some (aP "cpy313.graphlib" 289)),none,(some (.ref 0))]),tE,A8 P,A7 P,cS (.type "getset_descriptor") [(aP "__weakref__" 347),(.ref 72),(.builtin "ExceptionGroup.__weakref__"),.none],cS (.type "super") [(.ref 72),(.ref 72),(.ref 72)],cS (.type "builtin_function_or_method") [(.builtin "object.__init_subclass__"),(.ref 72)],tE,cS (.type "builtin_function_or_method") [(.builtin "type.__prepare__"),(.type "type")],oq [(aX P "__module__" 359 (aP "cpy313.graphlib" 289)),(aX P "__qualname__" 361 (aP "TopologicalSorter" 360)),(aX P "__firstlineno__" 363 (.int 17 362)),(aX P "__init__" 373 (.ref 90)),(aX P "_get_nodeinfo" 382 (.ref 97)),(aX P "add" 394 (.ref 104)),(aX P "prepare" 400 (.ref 109)),(aX P "get_ready" 410 (.ref 116)),(aX P "is_active" 417 (.ref 123)),(aX P "__bool__" 424 (.ref 130)),(aX P "done" 438 (.ref 137)),(aX P "_find_cycle" 451 (.ref 144)),(aX P "static_order" 458 (.ref 151)),(aX P "__static_attributes__" 463 (.ref 152))] 14,tE,lK [(.int 19 0),(.int 4 0),(.ref 89),(.int 28 0),(.int 4 0),(.ref 96),(.int 33 0),(.int 4 0),(.ref 103),(.int 42 0),(.int 4 0),(.ref 108),(.int 50 0),(.int 4 0),(.ref 115),(.int 61 0),(.int 4 0),(.ref 122),(.int 66 0),(.int 4 0),(.ref 129),(.int 69 0),(.int 4 0),(.ref 136),(.int 92 0),(.int 4 0),(.ref 143),(.int 121 0),(.int 4 0),(.ref 150)],cS (.type "code") [(aP "TopologicalSorter" 354),(aP "TopologicalSorter" 355),(aP "/claim/cut.py" 356),(.int 17 0),(.int 0 0),(.int 0 0),(.int 0 0),(.int 0 0),(.ref 79),(.bool false),(.int 276 0),(.ref 80),.none,.none,.none,.none,(.int 357 0),(.int 17 0),(aP "/claim/cut.py" 358)],(.mk (.type "frame") none .plain #[(some (.ref 81)),(some (.ref 3)),(some (.ref 78)),none,(some (aP "cpy313.graphlib" 289)),none,(some (.ref 0))]),qP P]++fK 84 364 19 2 3 ["self", "graph", "node", "predecessors"] fdT++fK 91 374 28 2 3 ["self", "node", "result"] g8++fK 98 383 33 2 7 ["self", "node", "predecessors", "nodeinfo", "pred", "pred_info"] iL++Ms 105 395 42 1 3 iM++fK 110 401 50 1 3 ["self", "result", "n2i", "node"] (bU "get_ready" "TopologicalSorter.get_ready" (md 7 4) "cpy313.graphlib" 289 115 .none)++fK 117 411 61 1 3 ["self"] (bU "is_active" "TopologicalSorter.is_active" (md 7 5) "cpy313.graphlib" 289 122 .none)++fK 124 418 66 1 3 ["self"] (bU "__bool__" "TopologicalSorter.__bool__" (md 7 6) "cpy313.graphlib" 289 129 .none)++fK 131 425 69 1 7 ["self", "nodes", "n2i", "node", "nodeinfo", "stat", "successor", "successor_info"] (bU "done" "TopologicalSorter.done" (md 7 7) "cpy313.graphlib" 289 136 .none)++fK 138 439 92 1 3 ["self", "n2i", "stack", "itstack", "seen", "node2stacki", "node"] g9++fK 145 452 121 1 3 ["self"] (bU "static_order" "TopologicalSorter.static_order" (md 7 9) "cpy313.graphlib" 289 150 .none)++[jp [(aP "_nfinished" 459),(aP "_node2info" 460),(aP "_npassedout" 461),(aP "_ready_nodes" 462)],A6 P,A4 P,cS (.type "getset_descriptor") [(aP "__dict__" 464),(.ref 154),(.builtin "function.__dict__"),(.builtin "function.__dict__#set")],cS (.type "getset_descriptor") [(aP "__weakref__" 466),(.ref 154),(.builtin "ExceptionGroup.__weakref__"),.none],cS (.type "super") [(.ref 154),(.ref 154),(.ref 154)],cS (.type "builtin_function_or_method") [(.builtin "object.__init_subclass__"),(.ref 154)],(.mk (.type "list") none (.seq (Bu 476 [14,14,4,1,1,9,0,64,0,1342177280,0,0,0,0,0,17,0,13,11,9,0,64,0,1342177280,0,0,0,0,0,17,1,1]).toArray 0) #[]),oq [] 0,jp [.none,.none],jp (Mr [14,14,4,1,1,9,0,64,0,1342177280,0,0,0,0,0,17,0,13,11,9,0,64,0,1342177280,0,0,0,0,0,17,1,1]),cS (.type "re.Pattern") [(aP "([&~|])" 474),(.int 32 509),(.int 1 0),.none,.none,(.ref 162),(.int 0 0)]]++fK 164 511 125 1 3 ["pat", "STAR", "parts"] u6
noncomputable def LC(P:Ov):List Obj:=[cS (.type "bytes_iterator") [.none,(.int 24 0)],oi P,(.mk (.type "dict") none (.dict #[] 2) #[]),tE,cS (.type "StopIteration") [(.ref 174),.none,.none,.none,(.bool false),.none]]
noncomputable def L3(P:Ov)(l:List PQ)(n:Nat)(k:List Obj):List Obj:=(L0 P).take 3++oq (b3 P++l) n::((L0 P).drop 4++(LB P++k))
noncomputable def By(P:Ov)(os:OsState):SharedT:=⟨nY 9 (L3 P [] 18 []),171,lf,#[],{},522,os⟩
noncomputable def Bz(P:Ov)(os:OsState):SharedT:=⟨nY 9 (L3 P [(aX P "_special_chars_map" 667 (.ref 172))] 19 (LC P)),176,lf,#[],{},668,os⟩
noncomputable def eB:Env:={ scope:=cc.main.scope,locals:=mainNs,globals:=mainNs,cells:=[],code:=.ref 30,frame:=some 31 }
noncomputable def cB:Code:=.body (behindTheImports cc) eB
noncomputable def qB:Pos:=⟨129,0,129,8⟩
noncomputable def qC:Pos:=⟨130,0,130,18⟩
noncomputable def bd:List NW:=behindTheImports cc
noncomputable def ou(tb:String->Option OX)(p:Ol)(w:Og)(n₀:Nat)(ann:Option NO):Nat->SharedT->Thread->Option (SharedT × Thread)
 | 0,s,t=>some (s,t)
 | n+1,s,t=>match through t with
  | true=>none
  | false=>match stepOk n₀ ann t with
   | false=>none
   | true=>match stepT (denote tb) p w s t with
    | some (s',t')=>ou tb p w n₀ ann n s' t'
    | none=>none
theorem Mv:ou tb p w n₀ ann (n+1) s t=match through t with
 | true=>none
 | false=>match stepOk n₀ ann t with
  | false=>none
  | true=>match stepT (denote tb) p w s t with
   | some (s',t')=>ou tb p w n₀ ann n s' t'
   | none=>none:=rfl
theorem Mw:∀ {n:Nat} {s s':SharedT} {t t':Thread},ou tb p w n₀ ann n s t=some (s',t')->topGo tb p w n₀ ann n s.abs t=some (s'.abs,t'):=fun{n}=>by
 induction n with
 | zero=>intro s s' t t' h;cases h;rfl
 | succ n ih =>
  intro s s' t t' h
  rw[Mv]at h
  unfold topGo
  cases ht:through t with
  | true=>rw[ht]at h;cases h
  | false =>
   rw[ht]at h
   cases hk:stepOk n₀ ann t with
   | false=>rw[hk]at h;cases h
   | true =>
    rw[hk]at h
    cases hs:stepT (denote tb) p w s t with
    | none=>rw[hs]at h;cases h
    | some r=>obtain⟨s₂,t₂⟩:=r;rw[hs]at h;dsimp only;rw[stepT_spec hs];exact ih h
noncomputable abbrev lL:Option NO:=some (.ref 6)
noncomputable def Mx(w:Og)(S:SharedT):Option (Thread × (Flow × Code × Pos) × (Flow × SharedT × Code × Pos)) :=
 (ou Qa cc w 28 lL 12 S (topStub cc)).bind fun x=>(segRunT Qa cc w 28 lL 1 1 x.1 (blockOf bd eB cB Po tf)).bind fun y =>
  (segRunT Qa cc w 28 lL 1 1400 y.2.1 (piecesOf (bd.take 11) eB cB y.2.2.2 tf)).map fun z=>(x.2,(y.1,y.2.2.1,y.2.2.2),z)
theorem My(w:Og):(fun os=>Mx w (fj w.params os))=fun os=>some (⟨denote Qa cB,cB,Po,tf⟩,(.next,cB,Po),(.next,By w.params os,cB,qB)):=by kernel_rfl
noncomputable def fL(w:Og):Prop:=(fun os=>segRunT Qa cc w 28 lL 1 1400 (By w.params os) (piecesOf ((bd.drop 11).take 1) eB cB qB tf))=fun os=>some (.next,Bz w.params os,cB,qC)
theorem Mz(w:Og):fL ((w.withFollow "comprehension-iter-twice" false).withFollow "special-get-raises" false):=by unfold fL;kernel_rfl
theorem MA(w:Og):fL ((w.withFollow "comprehension-iter-twice" false).withFollow "special-get-raises" true):=by unfold fL;kernel_rfl
theorem MB(w:Og):fL ((w.withFollow "comprehension-iter-twice" true).withFollow "special-get-raises" false):=by unfold fL;kernel_rfl
theorem MC(w:Og):fL ((w.withFollow "comprehension-iter-twice" true).withFollow "special-get-raises" true):=by unfold fL;kernel_rfl
theorem MD(w:Og):fL w:=byRow2 "special-get-raises" (P:=fL) (fun w=>byRow2 "comprehension-iter-twice" (P:=fun w=>fL (w.withFollow "special-get-raises" false)) Mz MB w) (fun w=>byRow2 "comprehension-iter-twice" (P:=fun w=>fL (w.withFollow "special-get-raises" true)) MA MC w) w
noncomputable def strIs(x:Str):Option NO->Bool
 | some (.str y _)=>y==x
 | _=>false
noncomputable def vf(h:N9)(p:NQ × Str):Bool:=match h.get? p.1 with
 | some o=>(match o.data with | .fields vs=>strIs p.2 vs[1]? | _=>false)
 | none=>false
noncomputable def BC(a:NQ):Option NO->Bool
 | some (.ref b)=>b==a
 | _=>false
noncomputable def qT(s:NL):Bool:=(dU.all fun p=>(s.heap.nsMap Ph p.1).isNone)&&((oj.all fun p=>BC p.2 (s.heap.nsMap Ph p.1))&&((qQ.all (vf s.heap))&&(s.heap.get? OR).isSome))
structure XP5(mg:Str->Option NO)(h:N9):Prop where
 bn:∀p∈dU,mg p.1=none
 gl:∀p∈oj,mg p.1=some (.ref p.2)
 cd:∀p∈qQ,h.CodeRec (.ref p.1) p.2
 sys:∃o,h.get? OR=some o
set_option tactic.hygienic true in
theorem ME(q:vf h p=true):h.CodeRec (.ref p.1) p.2:=by
 unfold vf at q
 cases e:h.get? p.1 with
 | none=>rw[e]at q;cases q
 | some o =>
  rw[e]at q
  obtain⟨c,d,dt,sl⟩:=o
  cases dt<;>first | exact absurd q MY | skip
  rename_i vs
  replace q:strIs p.2 vs[1]? = true:=q
  cases e2:vs[1]? with
  | none=>rw[e2]at q;cases q
  | some v =>
   rw[e2]at q
   cases v<;>first | exact absurd q MY | exact⟨_,_,vs,_,rfl,e,rfl,e2.trans (by rw[NY q])⟩
theorem MF(q:BC a v=true):v=some (.ref a):=by
 cases v with
 | none=>cases q
 | some v=>cases v<;>first | exact absurd q MY | rw[NY q]
theorem MG(s:NL)(q:qT s=true):XP5 (s.heap.nsMap Ph) s.heap:=by
 unfold qT at q
 refine a7 q fun h1 q=>a7 q fun h2 q=>a7 q fun h3 h4=>⟨fun p hp=>Option.isNone_iff_eq_none.mp (bt.mp h1 p hp),fun p hp=>MF (bt.mp h2 p hp),fun p hp=>ME (bt.mp h3 p hp),Ng.mp h4⟩
theorem MH(mg:Str->Option NO)(h h':N9)(x:XP5 mg h)(k:∀b o,h.get? b=some o->h'.get? b=some o):XP5 mg h' :=
 ⟨x.bn,x.gl,fun p hp=>(x.cd p hp).keeps k,let⟨o,e⟩:=x.sys;⟨o,k _ _ e⟩⟩
noncomputable def BD:List NQ:=[203,210,170,182,189,196,53,90,97,104,109,144,217,222,227,232,237,244,249,254,57,56,154,153,72,71,58,59,60,172,83]
noncomputable def vg(s:NL):List (Option Obj):=BD.map s.heap.get?
noncomputable def qU(w:Og):List (Option Obj):=(KL w.params).map fun p=>some p.2
noncomputable def BE(w:Og)(h:N9):Prop:=(KL w.params).In h
theorem MI(w:Og)(s:NL)(e:vg s=qU w):BE w s.heap:=Frag.in_of (as:=BD) (by kernel_rfl) e
noncomputable def BF(h0:N9)(s:NL):=((staticsOk (importedModules cc.main.body) h0 s.heap&&namesBound cc s.heap&&gensDone s&&laidKept h0 s.heap),openSeen og oh (importedModules cc.main.body) qT true s,vg s)
theorem MJ(w:Og):(fun os=>(n0 Qa cc w 28 lL 2000 (Bz w.params os) (restOf (bd.drop 12) eB cB qC tf)).map fun s=>BF (fj w.params os).abs.heap s.abs)=fun U=>some (true,openGood og oh,qU w):=by kernel_rfl
theorem MK(w:Og)(os:OsState):∃r:NL,topRun Qa cc w 28 lL 4813 (fj w.params os).abs (topStub cc)=some r/\BF (fj w.params os).abs.heap r=(true,openGood og oh,qU w):=by
 refine x12 (M3.mp (congrFun (MJ w) os)) fun s1 e1 k1=>?_
 refine⟨s1.abs,?_,k1⟩
 refine x12 (Option.bind_eq_some_iff.mp (congrFun (My w) os)) fun z0 e2 h2=>?_;obtain⟨sa,ta⟩:=z0
 refine x12 (Option.bind_eq_some_iff.mp h2) fun z0 e3 h3=>?_;obtain⟨f3,sb,c3,q3⟩:=z0
 refine x12 (M3.mp h3) fun z e4 h4=>?_
 cases h4
 have k:=piece_app (segRun_of (congrFun (MD w) os)) (LY e1)
 rw[show(bd.drop 11).take 1++bd.drop 12=bd.drop 11 from(congrArg _ (List.drop_drop ..).symm).trans (List.take_append_drop 1 _)]at k
 have k4:=piece_app (q:=Po) (segRun_of e4) k
 rw[show bd.take 11++bd.drop 11=bd from List.take_append_drop 11 _]at k4
 exact go_top (n:=12) (Mw e2) (piece_block (n:=1) (segRun_of e3) k4)
theorem ML:LeftO cc og oh qT vg qU 6000 true:=fun w=>by
 refine x12 (M3.mp (LW w)) fun z0 e e'=>?_;obtain⟨h,gs,d,k,os⟩:=z0
 cases e'
 refine x12 (MK w os) fun r h1 h2=>?_
 refine aj (gt h2) fun l1 l2=>?_
 refine aj (gt l2) fun l2 l3=>?_
 have r1:=topRun_mono 1187 _ _ _ _ h1
 have t:topFrom Qa cc w 6000 (fj w.params os).abs=some r:=by
  unfold topFrom
  rw[show((fj w.params os).abs.heap.isNs Ph&&(fj w.params os).abs.gens.size==0)=true by kernel_rfl,show(fj w.params os).abs.heap.objs.size=28 by kernel_rfl,show(fj w.params os).abs.heap.nsMap Ph "__annotations__" = some (.ref 6)by kernel_rfl]
  dsimp only
  rw[r1]
  show(match staticsOk (importedModules cc.main.body) (fj w.params os).abs.heap r.heap&&namesBound cc r.heap&&gensDone r&&laidKept (fj w.params os).abs.heap r.heap with | true=>some r | false=>none)=_
  rw[l1]
 unfold openEnds
 rw[e.trans (show _=some (fj w.params os).abs from rfl),Option.bind_some,t]
 exact congrArg some (Prod.ext l2 l3)
noncomputable def d5:DefRec:=⟨sS "law",(bu 28).1,(bu 28).2.1,(bu 28).2.2,⟨293,0,313,118⟩⟩
theorem MM:∀ {xs:List WData},WShape.hasItems R xs .int=true->∃l:List Int,xs=l.map .int:=fun{xs}=>by
 induction xs with
 | nil=>exact fun _=>⟨[],rfl⟩
 | cons x xs ih =>
  intro h
  unfold WShape.hasItems at h
  refine a7 h fun h1 h2=>?_
  refine x11 (ih h2) fun l e1=>?_;subst e1
  cases x<;>first | exact absurd h1 MY | exact⟨_::l,rfl⟩
set_option tactic.hygienic true in
theorem MN(h:PySem.Challenge.rw_kt0069_08.row.toRowW.claim.pre args=true):∃l:List Int,args=[.list (l.map .int)]/\l.length<=63:=by
 refine a7 (show(WShape.hasAll [] args [.list .int]&&_)=true from h) fun h1 h2=>?_
 match args,h1 with
 | [],h1=>exact absurd h1 MY
 | _::_::_,h1=>exact absurd (M0.mp h1).2 MY
 | [x],h1 =>
  replace h1:=(M0.mp h1).1
  cases x<;>first | exact absurd h1 MY | skip
  rename_i xs
  refine x11 (MM ((QA _).symm.trans (show(WShape.hasItems [] xs .int||false)=true from h1))) fun l e1=>?_;subst e1
  refine⟨l,rfl,Nat.le_of_not_lt fun q=>?_⟩
  rw[<- af (f:=WData.int)]at q
  generalize l.map WData.int=xs at h2 q
  have e:less? (.int 63) (.int xs.length)=some true:=by
   show some (decide ((63:Int)<xs.length))=some true
   rw[decide_eq_true (by lia)]
  have:WTm.value [] PySem.Challenge.rw_kt0069_08.row.pre { args:=[.list xs] }=some (.bool false):=by
   have v1:WTm.value [] (.lt (.lit (.int 63)) (.len (.arg 0))) { args:=[.list xs] }=some (.bool true):=by
    show(less? (.int 63) (.int xs.length)).map WData.bool=_
    rw[e];rfl
   show WTm.value [] (.and (.not (.lt (.lit (.int 63)) (.len (.arg 0)))) (.lit (.bool true))) { args:=[.list xs] }=_
   have v2:WTm.value [] (.not (.lt (.lit (.int 63)) (.len (.arg 0)))) { args:=[.list xs] }=some (.bool false):=by rw[WTm.value,v1];rfl
   rw[WTm.value,v2]
  revert h2
  show(match WTm.value [] PySem.Challenge.rw_kt0069_08.row.pre { args:=[.list xs] }with | some (.bool true)=>true | _=>false)=true->False
  rw[this]
  exact fun h=>nomatch h
theorem MP:∀ {l:List Int} {vs:List NO},WellAll P h vs (l.map .int)->RepL (fun U=>False) h vs (l.map .int):=fun{l}=>by
 induction l with
 | nil=>intro vs r;cases r;exact .nil
 | cons i l ih =>
  intro vs r
  cases r with
  | cons a b=>cases a;exact .cons (.int _ _) (ih b)
theorem MQ(p:Str × NO)(hp:p∈dU):p.1≠ofString "__name__":=fun q=>by
 have:(dU.all fun p=>!(p.1==ofString "__name__"))=true:=by decide +kernel
 have:=bt.mp this p hp
 rw[q,beq_self_eq_true]at this
 exact absurd this MY
theorem BG(b:NQ):al callerA b->False:=fun⟨l,e,hb⟩=>(nomatch (OH e▸hb:b∈([]:List Env).filterMap (·.frame)))
theorem MR{T:Prop}(r:WellAll P h vs [.list xs])(k:∀a us,vs=[.ref a]->h.get? a=some { cls:=.type "list",data:=.seq us.toArray }->WellAll P h us xs->T):T:=by
 cases r with
 | cons r1 r2 =>
  cases r2
  cases r1 with
  | list h1 h4=>exact k _ _ rfl h1 h4
theorem MT{w:Og}{mg mb:Str->Option NO}(H:HF w mg mb s.heap){vs:List NO}{l:List Int}(hw:WellAll w.params s.heap vs [.list (l.map .int)])(hl:l.length<=63){a:NQ}(ha:mg (sS "law")=some (.ref a)) {Q:NO->NL->Prop} {E:NO->NL->Prop}
 (hQ:∀v s',KS (al callerA) No s s'->Rep (fun _=>False) s'.heap v (.bool true)->Q v s'):NN (NP cc w) callerA (call (.ref a) vs) Q E s :=
 (Mq H).elim fun a' z=>z.elim fun o' z=>z.elim fun fd z=>z.elim fun e1 z=>z.elim fun _ z=>z.elim fun _ run=>by
  rw[Value.ref.inj (OH (ha.symm.trans e1))]
  refine MR hw fun b us e2 h1 h4=>?_
  rw[e2]
  exact NS (run callerA s (fun _=>False) _ [.list (l.map .int)] E ⟨by decide +kernel,by decide +kernel⟩ ⟨.inl rfl,fun b hb=>(nomatch hb),fun b hb=>hb.elim⟩ ⟨fun b o e=>e,fun b hb=>hb.elim⟩
   ⟨⟨[],rfl,fun e he=>nomatch he⟩,BG,fun b i q=>(nomatch q),rfl⟩ (.cons (.list (fun q=>q) h1 (MP h4)) .nil) ⟨l,hl,rfl⟩) (fun v s' h=>hQ v s' h.1 h.2) fun _ _ h=>h
theorem MU{w:Og}{cl:Str->Option NQ}{mn:ExcName->Option NO}{l:List Int}(hg:s.gens=#[])(h:KS (al callerA) No s s')(r:Rep (fun _=>False) s'.heap v (.bool true)) :
 GoodWG PySem.Challenge.rw_kt0069_08.row.toRowW.claim cl mn [.list (l.map .int)] s (.ok (.ret v)) s':=by
 refine⟨.inl ⟨v,.bool true,[],rfl,fun _=>rfl,?_,by kernel_rfl,fun _=>⟨Nj,fun a ha=>(nomatch ha)⟩⟩,.of_keep fun b o e=>h.get b o (fun z=>z) (BG b) e,?_,?_⟩
 ·cases r;exact .bool true
 ·cases h;subst_vars;rfl
 ·cases h;subst_vars;exact .of_eq hg
theorem MV:WalkO og oh XP5 BE PySem.Challenge.rw_kt0069_08.row.toRowW d5 [] fun f vs=>PySem.call f vs :=
 fun w s₀ s₁ mg mb G Y a o pm cd doc dV kV ho hd hcd hD hmg hg args vals as hpre hlay hrd hwl hlo=>x12 (MN hpre) fun l e hl =>
  MT ⟨G.T.g,G.T.b,G.T.nolimit,Y,fun p hp=>⟨G.X.bn p hp,(G.T.builtins p.1 (MQ p hp)).trans (List.map_inj_left.mp L4 p hp)⟩,G.X.gl,G.X.cd,G.X.sys⟩ (e▸hwl) hl hmg fun v s' h r=>e▸MU (w:=w) hg h r
theorem MW:PySem.Challenge.rw_kt0069_08.wellSaid=true:=by kernel_rfl
theorem main5:PySem.Challenge.rw_kt0069_08.Holds :=
 holds_law MW fun said=>holds_open ML MI (fun U U U y k=>y.keeps k) MG MH (d:=d5) (kwd:=[]) (by kernel_rfl) (by kernel_rfl) (by kernel_rfl) (fun s U=>recFacts_of (by kernel_rfl)) (by kernel_rfl) said (by kernel_rfl) ⟨rfl,rfl,rfl,rfl,rfl,by kernel_rfl⟩ ⟨[.list []],by kernel_rfl,by kernel_rfl⟩ MV
end
end Mine.Internal
theorem PySem.Challenge.cw_kt0069_08_holds : PySem.Challenge.rw_kt0069_08.Holds :=
  Mine.Internal.main5
