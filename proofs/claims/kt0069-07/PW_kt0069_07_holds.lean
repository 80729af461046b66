import PyProof.Rows.All
import Wide.All
import OpenK.AllK
import PyProof.LetGo
import PyProof.DictValues
import PyProof.DictWalks
import PyProof.IsiBase
import KE.KTryMore
import PyProof.ListCopy
import PyProof.FactsAll.str_8
import PyProof.IsInstance
import PyProof.AttrMissHeap
import PyProof.AutoListH
import Lean
import PySem.Challenge.RW_kt0069_07
set_option genSizeOf false
set_option genSizeOfSpec false
set_option genInjectivity false
set_option genCtorIdx false
set_option tactic.hygienic false
set_option bootstrap.genMatcherCode false
set_option linter.all false
set_option Elab.async false
set_option maxRecDepth 1000000
set_option maxHeartbeats 0
namespace Mine.Internal
open PySem renaming wpAny_bind → PK, Shared → PL, wpAny → PM, Value → PN, model → PO, Addr → PP, PyData → PQ, wpAny_mono → PR, wpAny_execs_cons → PS, wpAny_pure → PU, Stmt → PW, Keeps → PY, Around → P0, wpAny_execs_nil → Qa, eval → Qg, wpAny_holding → Qj, Heap → Qk, wpAny_standAt → Ql, FuncData → Qm, wpAny_Assign_stores → Qn, wpAny_truthy_bool → Qp, World → Qq, Program → Qs, Params → Qu, builtinLookup_eq_fast → Qv, wpAny_assign_Name → Qx, wpAny_isTrue_Compare1 → QA, execs → QG, isSubtype_type → QI, assign → QJ, Comprehension → QK, typeLookup_type → QL, wpAny_field → QO, sizeLine_eq → QP, Builtin → QQ, wpAny_Return_some → QS, intKind → QU, codeAny → QW, NameKind → QY, interactive → Q1, wpAny_newObj_type → Q2, wpAny_call → Q5, sizeLine → Q7, wpAny_callSpecial?_slot → Q8, bindArgs → Q9, wpAny_Constant_none → Ra, mainGlobals → Rc, wpAny_Constant_int → Re, Operator → Rf, wpAny_setField → Rj, wpAny_If → Rk, typeLookup → Rl, sysModules → Rn, Call_method1 → Rp, pushCells_keeps → Rr, ExceptHandler → Rt, clipAt → Ru, codeAny_whileLoop → Rv, assignEach → Rw, codeAny_call_builtin → Rx, cellsFrom → Ry, getAttr → RA, valueAt → RB, wpAny_call_entry → RC, callWith_type → RE, wpAny_attempt → RG, Spec → RI, wpAny_Name → RK, wpAny_Constant_str → RM, wpAny_Expr → RN, DictEntry → RO, isSubtype → RQ, wpAny_of_eq → RS, holding → RW, standAt → RX, checkBoundCall → RY, swapsWith → RZ, treeTable → R0, wpAny_rule → R2, builtinsNs → R3, callEnvC → R4, assignInOrder → R6, codeAny_builtin → R9, wpAny_loadPart' → Sa, pushCells → Sd, wpAny_List → Si
open PySem.Heap renaming get?_push_of_some → PX, get?_push_size → PZ, lt_size → Qe, ExtBut → Qy, size_push → QF, SameBut → QM, get?_none_of_le → QX, get?_update_self → Rq, HeldW → Sj
open LawfulBEq renaming eq_of_beq → P9
open PySem.Calls renaming spliced_nil → Qc, spliced_cons → Qh, evalArgs_plain → Qo, callWith_builtin → QD, callWith_function → RF
open PySem.Value renaming ref → Qd, none → QB
open PySem.PyData renaming eqv → Qi, canLayAll0 → QC, str → QN, int → QT, bool → QV, keyHash → Rz, list → RT, depthAll → Sb
open PySem.Heap.SameBut renaming update → Qr
open PySem.DictEntry renaming mk → Qt
open ForInStep renaming yield → Qw
open PySem.NameKind renaming free → Qz, cell → QZ
open Ne renaming symm → QE
open Option.some renaming inj → QH, injEq → RU
open PySem.W renaming emptyDict → QR, instObj → Q6, dictOf → RD, SharedT → RH
open PySem.Str renaming empty → Q4
open PyProof.Rows renaming IntsAre → Rb
open PySem.Txt renaming join → Rg
open PySem.F renaming plainAttrs_list → Rh, slot_list_append → Se, type_list_append → Sg
open Inhabited renaming default → Ri
open PySem.Obj renaming data_mapFields → Ro, isFreed_of_fields → RV
open PySem.ScopeKind renaming function → RJ
open PySem.Around renaming under_plainId → R5
open PySem.Manifest renaming signature? → R7
open Array renaming getElem?_eq_getElem → R8, toList_push → Sl, getElem?_eq_none → Sm
open PySem.Manifest.AttrKind renaming method → Sh
open PySem.Builtin.Str renaming tableLookup → Sk
open PySem.Bind renaming lastOf → Sn
open Bool renaming not_eq_true → So
open Option renaming map_some → Sp
open PySem.Builtin.Int renaming intBits → Sq
open PySem.Builtin.Dict_items renaming ownsTuple → Sr
open Nat renaming le_trans → aa, le_max_right → ao, le_max_left → aH, le_refl → aN, lt_irrefl → bl, zero_le → bx, beq → bD, lor → cE, le_of_eq → cH, not_lt → c5, add_le_add_right → dG, ne_of_lt → dT, lt_succ_of_lt → ei, lt_of_le_of_lt → eZ, add_le_add_left → fa, le_succ → fV, le_of_ble_eq_true → gV, blt → iP, land → j5, zero_add → kh, eq_of_beq_eq_true → lN, testBit → lP, le_of_succ_le → lX, le_of_lt_succ → oz, lt_of_lt_of_le → oN, le_add_right → oO, add_le_add → oP, add_assoc → o5, lt_succ_self → qN, succ_le_succ → qO, add → wg, le_antisymm → BN, mul → CK, mul_le_mul_left → M8, le_of_lt → Os, add_comm → OK, exists_testBit_of_ne_zero → Pw, shiftRight → PA, mul_le_mul_right → PD, pow_le_pow_right → PE, beq_eq → PG, mul_assoc → PH
open List renaming mem_cons → ae, length_map → ag, range → ah, mem_singleton → ai, getD_eq_getElem?_getD → aj, mem_cons_self → ak, mem_cons_of_mem → ar, mem_append → au, mem_range → aw, mem_map → aD, mem_of_getElem? → aG, length_filter_le → aV, map_cons → a9, replicate → ba, length_append → bj, getElem?_eq_getElem → br, all_eq_true → bC, getElem?_map → bK, mem_flatMap → bW, not_mem_nil → cu, mem_filter → cW, nodup_cons → c6, mem_append_left → c8, nodup_append → de, filter_cons → dv, flatMap_append → dB, append_nil → dC, length_cons → dU, any_eq_true → eH, map_congr_left → fx, getElem?_eq_some_iff → fU, mem_append_right → gz, getElem?_append_right → gD, map_map → hH, mem_reverse → iQ, flatMap_cons → j4, length_range → lU, map_append → oG, size_toArray → oR, filter_congr → tJ, getElem?_replicate → vE, take_length → wh, nodup_nil → wi, mem_iff_getElem? → Ac, length_singleton → BL, append_assoc → CD, getElem?_eq_none_iff → CF, map_inj_left → CJ, rec → CU, filterMap_cons → Oq, mem_filterMap → OL, length_set → Pm, any_cons → Pq, length_nil → Pr, filter_map → Pu, getElem?_eq_none → Px, take_append_drop → Py, mem_of_mem_take → PC, getElem_mem → PF, forIn_cons → PI, find?_cons → PJ
open Int renaming toNat_natCast → lV, natCast_nonneg → rI
open Bool renaming rec → cD, and_eq_true → di, eq_iff_iff → e7, not_eq_true' → jx, and_eq_true_iff → sV, false_eq_true → wj, or_eq_true → Pn, eq_false_iff → Pz
open Option renaming isSome_iff_exists → rJ, map_eq_some_iff → Pt
open Array renaming isEmpty_iff_size_eq_zero → lS, replicate → Po
theorem Pl:false≠true:=Bool.false_ne_true
open PySem.Str (ofString)
section

theorem al{A B:Prop}{P:Prop}(h:A/\B)(f:A->B->P):P:=f h.1 h.2
theorem dl{A B C:Prop}{P:Prop}(h:A/\B/\C)(f:A->B->C->P):P:=f h.1 h.2.1 h.2.2
theorem e8{A B C D:Prop}{P:Prop}(h:A/\B/\C/\D)(f:A->B->C->D->P):P:=f h.1 h.2.1 h.2.2.1 h.2.2.2
theorem CR{A B C D E:Prop}{P:Prop}(h:A/\B/\C/\D/\E)(f:A->B->C->D->E->P):P:=f h.1 h.2.1 h.2.2.1 h.2.2.2.1 h.2.2.2.2
theorem gE{A B C D E F:Prop}{P:Prop}(h:A/\B/\C/\D/\E/\F)(f:A->B->C->D->E->F->P):P:=f h.1 h.2.1 h.2.2.1 h.2.2.2.1 h.2.2.2.2.1 h.2.2.2.2.2
theorem CS{A B C D E F H I:Prop}{P:Prop}(h:A/\B/\C/\D/\E/\F/\H/\I)(f:A->B->C->D->E->F->H->I->P):P:=f h.1 h.2.1 h.2.2.1 h.2.2.2.1 h.2.2.2.2.1 h.2.2.2.2.2.1 h.2.2.2.2.2.2.1 h.2.2.2.2.2.2.2
theorem lO{A B C D E F H I J K:Prop}{P:Prop}(h:A/\B/\C/\D/\E/\F/\H/\I/\J/\K)(f:A->B->C->D->E->F->H->I->J->K->P):P:=f h.1 h.2.1 h.2.2.1 h.2.2.2.1 h.2.2.2.2.1 h.2.2.2.2.2.1 h.2.2.2.2.2.2.1 h.2.2.2.2.2.2.2.1 h.2.2.2.2.2.2.2.2.1 h.2.2.2.2.2.2.2.2.2
theorem x11.{u1}{α:Sort u1}{A:α->Prop}{P:Prop}(h:∃x,A x)(f:∀x,A x->P):P:=h.elim fun x q=>f x q
theorem x12.{u1}{α:Sort u1}{A B:α->Prop}{P:Prop}(h:∃x,A x/\B x)(f:∀x,A x->B x->P):P:=h.elim fun x q=>f x q.1 q.2
theorem x13.{u1}{α:Sort u1}{A B C:α->Prop}{P:Prop}(h:∃x,A x/\B x/\C x)(f:∀x,A x->B x->C x->P):P:=h.elim fun x q=>f x q.1 q.2.1 q.2.2
theorem x14.{u1}{α:Sort u1}{A B C D:α->Prop}{P:Prop}(h:∃x,A x/\B x/\C x/\D x)(f:∀x,A x->B x->C x->D x->P):P:=h.elim fun x q=>f x q.1 q.2.1 q.2.2.1 q.2.2.2
theorem x16.{u1}{α:Sort u1}{A B C D E F:α->Prop}{P:Prop}(h:∃x,A x/\B x/\C x/\D x/\E x/\F x)(f:∀x,A x->B x->C x->D x->E x->F x->P):P:=h.elim fun x q=>f x q.1 q.2.1 q.2.2.1 q.2.2.2.1 q.2.2.2.2.1 q.2.2.2.2.2
theorem x17.{u1}{α:Sort u1}{A B C D E F H:α->Prop}{P:Prop}(h:∃x,A x/\B x/\C x/\D x/\E x/\F x/\H x)(f:∀x,A x->B x->C x->D x->E x->F x->H x->P):P:=h.elim fun x q=>f x q.1 q.2.1 q.2.2.1 q.2.2.2.1 q.2.2.2.2.1 q.2.2.2.2.2.1 q.2.2.2.2.2.2
theorem x21.{u1,u2}{α:Sort u1}{β:Sort u2}{A:α->β->Prop}{P:Prop}(h:∃x,∃y,A x y)(f:∀x y,A x y->P):P:=h.elim fun x q=>q.elim fun y q=>f x y q
theorem x22.{u1,u2}{α:Sort u1}{β:Sort u2}{A B:α->β->Prop}{P:Prop}(h:∃x,∃y,A x y/\B x y)(f:∀x y,A x y->B x y->P):P:=h.elim fun x q=>q.elim fun y q=>f x y q.1 q.2
theorem x23.{u1,u2}{α:Sort u1}{β:Sort u2}{A B C:α->β->Prop}{P:Prop}(h:∃x,∃y,A x y/\B x y/\C x y)(f:∀x y,A x y->B x y->C x y->P):P:=h.elim fun x q=>q.elim fun y q=>f x y q.1 q.2.1 q.2.2
theorem x24.{u1,u2}{α:Sort u1}{β:Sort u2}{A B C D:α->β->Prop}{P:Prop}(h:∃x,∃y,A x y/\B x y/\C x y/\D x y)(f:∀x y,A x y->B x y->C x y->D x y->P):P:=h.elim fun x q=>q.elim fun y q=>f x y q.1 q.2.1 q.2.2.1 q.2.2.2
theorem x26.{u1,u2}{α:Sort u1}{β:Sort u2}{A B C D E F:α->β->Prop}{P:Prop}(h:∃x,∃y,A x y/\B x y/\C x y/\D x y/\E x y/\F x y)(f:∀x y,A x y->B x y->C x y->D x y->E x y->F x y->P):P:=h.elim fun x q=>q.elim fun y q=>f x y q.1 q.2.1 q.2.2.1 q.2.2.2.1 q.2.2.2.2.1 q.2.2.2.2.2
theorem x31.{u1,u2,u3}{α:Sort u1}{β:Sort u2}{γ:Sort u3}{A:α->β->γ->Prop}{P:Prop}(h:∃x,∃y,∃z,A x y z)(f:∀x y z,A x y z->P):P:=h.elim fun x q=>q.elim fun y q=>q.elim fun z q=>f x y z q
theorem x32.{u1,u2,u3}{α:Sort u1}{β:Sort u2}{γ:Sort u3}{A B:α->β->γ->Prop}{P:Prop}(h:∃x,∃y,∃z,A x y z/\B x y z)(f:∀x y z,A x y z->B x y z->P):P:=h.elim fun x q=>q.elim fun y q=>q.elim fun z q=>f x y z q.1 q.2
theorem x33.{u1,u2,u3}{α:Sort u1}{β:Sort u2}{γ:Sort u3}{A B C:α->β->γ->Prop}{P:Prop}(h:∃x,∃y,∃z,A x y z/\B x y z/\C x y z)(f:∀x y z,A x y z->B x y z->C x y z->P):P:=h.elim fun x q=>q.elim fun y q=>q.elim fun z q=>f x y z q.1 q.2.1 q.2.2
theorem x34.{u1,u2,u3}{α:Sort u1}{β:Sort u2}{γ:Sort u3}{A B C D:α->β->γ->Prop}{P:Prop}(h:∃x,∃y,∃z,A x y z/\B x y z/\C x y z/\D x y z)(f:∀x y z,A x y z->B x y z->C x y z->D x y z->P):P:=h.elim fun x q=>q.elim fun y q=>q.elim fun z q=>f x y z q.1 q.2.1 q.2.2.1 q.2.2.2
theorem x35.{u1,u2,u3}{α:Sort u1}{β:Sort u2}{γ:Sort u3}{A B C D E:α->β->γ->Prop}{P:Prop}(h:∃x,∃y,∃z,A x y z/\B x y z/\C x y z/\D x y z/\E x y z)(f:∀x y z,A x y z->B x y z->C x y z->D x y z->E x y z->P):P:=h.elim fun x q=>q.elim fun y q=>q.elim fun z q=>f x y z q.1 q.2.1 q.2.2.1 q.2.2.2.1 q.2.2.2.2
theorem x36.{u1,u2,u3}{α:Sort u1}{β:Sort u2}{γ:Sort u3}{A B C D E F:α->β->γ->Prop}{P:Prop}(h:∃x,∃y,∃z,A x y z/\B x y z/\C x y z/\D x y z/\E x y z/\F x y z)(f:∀x y z,A x y z->B x y z->C x y z->D x y z->E x y z->F x y z->P):P:=h.elim fun x q=>q.elim fun y q=>q.elim fun z q=>f x y z q.1 q.2.1 q.2.2.1 q.2.2.2.1 q.2.2.2.2.1 q.2.2.2.2.2
theorem x41.{u1,u2,u3,u4}{α:Sort u1}{β:Sort u2}{γ:Sort u3}{δ:Sort u4}{A:α->β->γ->δ->Prop}{P:Prop}(h:∃x,∃y,∃z,∃w,A x y z w)(f:∀x y z w,A x y z w->P):P:=h.elim fun x q=>q.elim fun y q=>q.elim fun z q=>q.elim fun w q=>f x y z w q
theorem x42.{u1,u2,u3,u4}{α:Sort u1}{β:Sort u2}{γ:Sort u3}{δ:Sort u4}{A B:α->β->γ->δ->Prop}{P:Prop}(h:∃x,∃y,∃z,∃w,A x y z w/\B x y z w)(f:∀x y z w,A x y z w->B x y z w->P):P:=h.elim fun x q=>q.elim fun y q=>q.elim fun z q=>q.elim fun w q=>f x y z w q.1 q.2
theorem x55.{u1,u2,u3,u4,u5}{α:Sort u1}{β:Sort u2}{γ:Sort u3}{δ:Sort u4}{ε:Sort u5}{A B C D E:α->β->γ->δ->ε->Prop}{P:Prop}(h:∃x,∃y,∃z,∃w,∃u,A x y z w u/\B x y z w u/\C x y z w u/\D x y z w u/\E x y z w u)(f:∀x y z w u,A x y z w u->B x y z w u->C x y z w u->D x y z w u->E x y z w u->P):P:=h.elim fun x q=>q.elim fun y q=>q.elim fun z q=>q.elim fun w q=>q.elim fun u q=>f x y z w u q.1 q.2.1 q.2.2.1 q.2.2.2.1 q.2.2.2.2
theorem x59.{u1,u2,u3,u4,u5}{α:Sort u1}{β:Sort u2}{γ:Sort u3}{δ:Sort u4}{ε:Sort u5}{A B C D E F H I J:α->β->γ->δ->ε->Prop}{P:Prop}(h:∃x,∃y,∃z,∃w,∃u,A x y z w u/\B x y z w u/\C x y z w u/\D x y z w u/\E x y z w u/\F x y z w u/\H x y z w u/\I x y z w u/\J x y z w u)(f:∀x y z w u,A x y z w u->B x y z w u->C x y z w u->D x y z w u->E x y z w u->F x y z w u->H x y z w u->I x y z w u->J x y z w u->P):P:=h.elim fun x q=>q.elim fun y q=>q.elim fun z q=>q.elim fun w q=>q.elim fun u q=>f x y z w u q.1 q.2.1 q.2.2.1 q.2.2.2.1 q.2.2.2.2.1 q.2.2.2.2.2.1 q.2.2.2.2.2.2.1 q.2.2.2.2.2.2.2.1 q.2.2.2.2.2.2.2.2
end
section
open PySem PySem.W
noncomputable def ck:Qs:=PySem.Challenge.pw_kt0069_07
noncomputable abbrev sS(x:String):Str:=ofString x
set_option backward.match.sparseCases false in
noncomputable def bp(i:Nat):Arguments × List PW × Scope:=match ck.main.body[i]? with
 | some (.FunctionDef _ a b _ _ _ s _ _ _)=>(a,b,s)
 | _=>Ri
set_option backward.match.sparseCases false in
noncomputable def md(i j:Nat):Arguments × List PW × Scope:=match ck.main.body[i]? with
 | some (.ClassDef _ _ _ b _ _ _ _ _ _ _)=>(match b[j]? with
  | some (.FunctionDef _ a b _ _ _ s _ _ _)=>(a,b,s)
  | _=>Ri)
 | _=>Ri
noncomputable def bX(n q:String)(x:Arguments × List PW × Scope)(m:String)(t c:Nat)(d:PN):Qm:=.mk (sS n) (sS q) x.1 (.stmts x.2.1) x.2.2 3 [] d .none .none (.str (sS m) t) none (.ref c) .none 0
noncomputable def pl(l n:Nat):Pos:=⟨l / 1000 ^ (4 * n) % 1000,l / 1000 ^ (4 * n+1) % 1000,l / 1000 ^ (4 * n+2) % 1000,l / 1000 ^ (4 * n+3) % 1000⟩
noncomputable abbrev e0:Expr:=.Constant .none 0 Ri
set_option backward.match.sparseCases false in
noncomputable def sP:PW->Expr × List PW × List PW × Option Expr × Expr
 | .If t b e _=>(t,b,e,none,e0)
 | .While t b e _=>(t,b,e,none,e0)
 | .For _ i b e _=>(i,b,e,none,e0)
 | .Assert t m _=>(t,[],[],m,e0)
 | .Assign (t::_) v _=>(v,[],[],none,t)
 | .Expr v _=>(v,[],[],none,e0)
 | _=>(e0,[],[],none,e0)
set_option backward.match.sparseCases false in
noncomputable def eP:Expr->List Expr × Expr × Nat × Scope
 | .Tuple es k _=>(es,e0,k,Ri)
 | .Call _ as _ _=>(as,e0,0,Ri)
 | .BoolOp _ es _=>(es,e0,0,Ri)
 | .Compare l _ _ _=>([],l,0,Ri)
 | .ListComp _ _ s _=>([],e0,0,s)
 | _=>([],e0,0,Ri)
noncomputable def sB(b:List PW)(i:Nat):PW:=(b.drop i).headD (.Pass Ri)
noncomputable def eA(b:List Expr)(i:Nat):Expr:=(b.drop i).headD e0
noncomputable def du(s:PW):Expr:=(sP s).1
noncomputable def eG(s:PW):List PW:=(sP s).2.1
noncomputable def oK(s:PW):List PW:=(sP s).2.2.1
noncomputable def wd(s:PW):Option Expr:=(sP s).2.2.2.1
noncomputable def oL(s:PW):Expr:=(sP s).2.2.2.2
noncomputable def lQ(e:Expr):List Expr:=(eP e).1
noncomputable def oM(e:Expr):Nat:=(eP e).2.2.1
noncomputable def cL(e:Expr):Expr:=(eP e).2.1
noncomputable def we(e:Expr):List Expr:=(eP e).1
noncomputable def cA(s:PW):Expr:=eA (lQ (du s)) 0
noncomputable def CV(s:PW):Scope:=(eP (du s)).2.2.2
@[irreducible] noncomputable def TS:PP:=154
@[irreducible] noncomputable def NI:PP:=57
@[irreducible] noncomputable def fI:PP:=53
@[irreducible] noncomputable def pN:PP:=58
@[irreducible] noncomputable def pP:PP:=59
@[irreducible] noncomputable def pS:PP:=60
@[irreducible] noncomputable def oQ:PP:=97
@[irreducible] noncomputable def lT:PP:=104
@[irreducible] noncomputable def fT:PP:=90
@[irreducible] noncomputable def fF:PP:=144
@[irreducible] noncomputable def fP:PP:=109
@[irreducible] noncomputable def CE:PP:=72
@[irreducible] noncomputable def oS:Qm:=bX "__init__" "_NodeInfo.__init__" (md 5 1) "cpy313.graphlib" 289 52 .none
@[irreducible] noncomputable def bI:List PW:=(md 5 1).2.1
@[irreducible] noncomputable def hV:Qm:=bX "_get_nodeinfo" "TopologicalSorter._get_nodeinfo" (md 7 1) "cpy313.graphlib" 289 96 .none
@[irreducible] noncomputable def bG:List PW:=(md 7 1).2.1
@[irreducible] noncomputable def iR:Qm:=bX "add" "TopologicalSorter.add" (md 7 2) "cpy313.graphlib" 289 103 .none
@[irreducible] noncomputable def bA:List PW:=(md 7 2).2.1
@[irreducible] noncomputable def fdT:Qm:=bX "__init__" "TopologicalSorter.__init__" (md 7 0) "cpy313.graphlib" 289 89 (.ref 83)
@[irreducible] noncomputable def bT:List PW:=(md 7 0).2.1
@[irreducible] noncomputable def hW:Qm:=bX "_find_cycle" "TopologicalSorter._find_cycle" (md 7 8) "cpy313.graphlib" 289 143 .none
@[irreducible] noncomputable def bF:List PW:=(md 7 8).2.1
@[irreducible] noncomputable def iS:Qm:=bX "prepare" "TopologicalSorter.prepare" (md 7 3) "cpy313.graphlib" 289 108 .none
@[irreducible] noncomputable def bP:List PW:=(md 7 3).2.1
@[irreducible] noncomputable def CW:Nat->Pos:=pl 28014008014028014026014023014008014012014008014030013008013030013029013026013008013012013008013024012008012024012020012017012008012012012008012
@[irreducible] noncomputable def CX:Nat->Pos:=pl 45026008024028024011024028024024024016024011024027023008023027023026023023023008023012023008023028022008022028022027022024022008022012022008022032021008021032021028021025021008021012021008021028020008020028020026020023020008020012020008020
@[irreducible] noncomputable def cw:Nat->Pos:=pl 21031008031021031015031060030008029060030012030060030045030059030055030054030045030042030036030033030012030032030028030027030012030016030012030056029011029056029052029047029012029047029022029046029042029041029022029037029022029026029022029018029012029
@[irreducible] noncomputable def hY:Nat->Pos:=pl 45040008038045040012040045040012040044040040040039040012040032040012040021040012040048039012039048039024039047039043039042039024039028039024039021039012039032038020038016038012038051037008037051037034037050037038037037037034037030037008037016037008037043036008036043036019036042036038036037036019036023036019036016036008036079035008034040034011034040034036034028034011034015034011034
@[irreducible] noncomputable def kj:Nat->Pos:=pl 60048008047060048012048060048018048059048054048052048029048051048031048028048018048016047011047034046008046034046016046032046016046020046016046013046008046094045008045094045028045093045073045093045092045088045073045074045073045069045045045067045045045060045045045049045045045041045040045035045029045030045029045025045008045012045008045063044008043040043011043040043036043028043011043015043011043
@[irreducible] noncomputable def CY:Nat->Pos:=pl 19119008119019119015119024097008097024097022097019097008097020096008096020096015096018096015096012096008096020095008095020095018095015095008095018094008094018094016094013094008094029093008093029093014093018093014093011093008093
@[irreducible] noncomputable def CZ:Nat->Pos:=pl 25118008098025118012101022101018101024100012099024100016100027099015099027099023099019099015099023098020098016098012098
@[irreducible] noncomputable def jA:Nat->Pos:=pl 38109016102038109020109038109020109037109033109032109020109025109020109050108020108050108040108049108044108043108040108037108020108036108032108031108020108071107020107071107020107070107035107061107035107060107040107049107040107048107044107043107040107039107035107034107020107027107020107034106020106034106020106033106029106028106020106024106020106065104020103065104024104065104031104065104059104064104060104056104031104055104037104054104037104053104049104048104037104036104031104042103023103042103031103027103023103031102019102031102027102023102019102
@[irreducible] noncomputable def lW:Nat->Pos:=pl 25118016110025118020118037116020111037116020114037116024116037116024116035116024116031116024116052115024115052115028115051115040115049115040115045115040115039115028115040114027114029113024113044112024112044112031112042112031112041112039112041112040112038112031112028112024112027110022110
@[irreducible] noncomputable def rL:Nat->Pos:=pl 69136004132052133008133052133015133051133033133032133015133022133015133031132007132030132027132025132018132017132007132
@[irreducible] noncomputable def Da:Nat->Pos:=pl 14199004199014199011199017198004198026197004142024141004141024141011141008141004141020140004140020140010140013140010140007140004140012139004139012139010139007139004139
@[irreducible] noncomputable def Db:Nat->Pos:=pl 26197008145026197008148026197008150026197012197026197012197015197012197030149012149030149012149015149012149017144008144009144008144018143008143009143008143
@[irreducible] noncomputable def Dc:Nat->Pos:=pl 34223004207024203004203024203011203008203004203020202004202020202010202013202010202007202004202012201004201012201010201007201004201
@[irreducible] noncomputable def Dd:Nat->Pos:=pl 14206004204014206008206014206013206009206008206019205008205019205008205011205008205038204010204038204020204038204034204
@[irreducible] noncomputable def oU:Nat->Pos:=pl 27226004226027226011226026226022226022226017226021226018226017226013226022225004225007225004225017224004224
@[irreducible] noncomputable def rM:Nat->Pos:=pl 46128004128046128011128045128041128039128034128033128011128038127004127038127012127037127034127032127028127026127023127022127012127009127004127019126004126019126011126017126011126008126004126
@[irreducible] noncomputable def De:List PW:=eG (sB (md 7 2).2.1 0)
@[irreducible] noncomputable def Df:List PW:=eG (sB (md 7 0).2.1 4)
@[irreducible] noncomputable def Dg:List PW:=eG (sB (md 7 3).2.1 0)
@[irreducible] noncomputable def rN:Scope:=CV (sB (md 7 3).2.1 1)
noncomputable def oV:List PW:=(bp 13).2.1
noncomputable def hZ:List PW:=(bp 15).2.1
noncomputable def kn:List PW:=eG (sB hZ 3)
noncomputable def rO:List PW:=oK (sB kn 2)
noncomputable def rP:List PW:=oK (sB rO 0)
noncomputable def ib:List PW:=(bp 16).2.1
noncomputable def oW:PW:=sB ib 3
noncomputable def oX:List PW:=ib.drop 5
@[irreducible] noncomputable def Dh:List PW:=(eG (sB oV 0)).drop 1
@[irreducible] noncomputable def Di:List PW:=oK (sB oV 0)
@[irreducible] noncomputable def Dj:List PW:=oV.drop 1
@[irreducible] noncomputable def rQ:Expr:=du (sB kn 0)
@[irreducible] noncomputable def rR:Expr:=du (sB kn 1)
@[irreducible] noncomputable def wk:Expr:=du (sB kn 2)
@[irreducible] noncomputable def Dl:List PW:=eG (sB kn 2)
@[irreducible] noncomputable def wl:Expr:=du (sB rO 0)
@[irreducible] noncomputable def wm:Expr:=cA (sB (eG (sB rO 0)) 0)
@[irreducible] noncomputable def wn:Expr:=du (sB rP 0)
@[irreducible] noncomputable def Dm:List PW:=eG (sB rP 0)
@[irreducible] noncomputable def wo:Expr:=cA (sB (oK (sB rP 0)) 0)
@[irreducible] noncomputable def wp:List Expr:=lQ (oL (sB hZ 2))
@[irreducible] noncomputable def Dn:Nat:=oM (oL (sB hZ 2))
@[irreducible] noncomputable def rS:List Expr:=lQ (du (sB hZ 2))
@[irreducible] noncomputable def Do:Nat:=oM (du (sB hZ 2))
@[irreducible] noncomputable def rT:Expr:=du (sB hZ 3)
@[irreducible] noncomputable def wq:List PW:=kn
@[irreducible] noncomputable def rU:Expr:=du (sB hZ 4)
@[irreducible] noncomputable def Dp:Option Expr:=wd (sB hZ 4)
@[irreducible] noncomputable def wt:List Expr:=lQ (oL (sB ib 2))
@[irreducible] noncomputable def Dq:Nat:=oM (oL (sB ib 2))
@[irreducible] noncomputable def rV:List Expr:=lQ (du (sB ib 2))
@[irreducible] noncomputable def Dr:Nat:=oM (du (sB ib 2))
@[irreducible] noncomputable def wu:PW:=oW
@[irreducible] noncomputable def rW:Expr:=du (sB ib 4)
@[irreducible] noncomputable def Ds:List PW:=eG (sB ib 4)
@[irreducible] noncomputable def wv:List PW:=oX
@[irreducible] noncomputable def rX:Expr:=eA (we (du oW)) 0
@[irreducible] noncomputable def wx:Expr:=cL (eA (we (du oW)) 1)
@[irreducible] noncomputable def wy:Expr:=cA (sB (eG oW) 0)
@[irreducible] noncomputable def rY:Expr:=du (sB oX 0)
@[irreducible] noncomputable def Dt:Option Expr:=wd (sB oX 0)
@[irreducible] noncomputable def oY:Expr:=du (sB oX 1)
end
section
open PySem PySem.W PyProof.Rows PySem.Spec PySem.SeqAt
theorem aP{a b:Bool}{P:Prop}(h:(a&&b)=true)(k:a=true->b=true->P):P:=k (sV.mp h).1 (sV.mp h).2
theorem eh{a b c:Bool}{P:Prop}(h:(a&&b&&c)=true)(k:a=true->b=true->c=true->P):P:=aP h fun x z=>aP x fun x y=>k x y z
theorem gF{a b c d:Bool}{P:Prop}(h:(a&&b&&c&&d)=true)(k:a=true->b=true->c=true->d=true->P):P:=aP h fun x z=>eh x fun x y w=>k x y w z
theorem ic{a b c d e:Bool}{P:Prop}(h:(a&&b&&c&&d&&e)=true)(k:a=true->b=true->c=true->d=true->e=true->P):P:=aP h fun x z=>gF x fun x y w v=>k x y w v z
theorem oZ{a b c d e f:Bool}{P:Prop}(h:(a&&b&&c&&d&&e&&f)=true)(k:a=true->b=true->c=true->d=true->e=true->f=true->P):P:=aP h fun x z=>ic x fun x y w v u=>k x y w v u z
theorem rZ{a b c d e f g:Bool}{P:Prop}(h:(a&&b&&c&&d&&e&&f&&g)=true)(k:a=true->b=true->c=true->d=true->e=true->f=true->g=true->P):P:=eh h fun x y z=>ic x fun a b c d e=>k a b c d e y z
theorem wz{a b c d e f g h':Bool}{P:Prop}(h:(a&&b&&c&&d&&e&&f&&g&&h')=true)(k:a=true->b=true->c=true->d=true->e=true->f=true->g=true->h'=true->P):P:=aP h fun x z=>rZ x fun a b c d e f g=>k a b c d e f g z
noncomputable def v1{α:Type}(l:List α)(f:α->Bool):Bool:=match l with | [x]=>f x | _=>false
theorem dW{α:Type}{l:List α}{f:α->Bool}{P:List α->Prop}(h:v1 l f=true)(k:∀x,f x=true->P [x]):P l:=match l,h with
 | [_],h=>k _ h
 | [],h=>absurd h Pl
 | _::_::_,h=>absurd h Pl
noncomputable def v0{α:Type}(l:List α)(b:Bool):Bool:=match l with | []=>b | _=>false
theorem e9{α:Type}{l:List α}{b:Bool}{P:List α->Prop}(h:v0 l b=true)(k:b=true->P []):P l:=match l,h with
 | [],h=>k h
 | _::_,h=>absurd h Pl
noncomputable def vC{α:Type}(l:List α)(f:α->List α->Bool):Bool:=match l with | x::r=>f x r | _=>false
theorem dm{α:Type}{l:List α}{f:α->List α->Bool}{P:List α->Prop}(h:vC l f=true)(k:∀x r,f x r=true->P (x::r)):P l:=match l,h with
 | _::_,h=>k _ _ h
 | [],h=>absurd h Pl
noncomputable def vO{α:Type}(l:Option α)(f:α->Bool):Bool:=match l with | some x=>f x | _=>false
theorem o4{α:Type}{l:Option α}{f:α->Bool}{P:Option α->Prop}(h:vO l f=true)(k:∀x,f x=true->P (some x)):P l:=match l,h with
 | some _,h=>k _ h
 | none,h=>absurd h Pl
noncomputable def vN{α:Type}(l:Option α)(b:Bool):Bool:=match l with | none=>b | _=>false
theorem r0{α:Type}{l:Option α}{b:Bool}{P:Option α->Prop}(h:vN l b=true)(k:b=true->P none):P l:=match l,h with
 | none,h=>k h
 | some _,h=>absurd h Pl
noncomputable def n1{α:Type}:α->Bool:=fun U=>false
theorem m1{α:Type}{P:α->Prop}:∀a,n1 a=true->P a:=fun U h=>absurd h Pl
noncomputable def n2{α β:Type}:α->β->Bool:=fun U U=>false
theorem m2{α β:Type}{P:α->β->Prop}:∀a b,n2 a b=true->P a b:=fun U U h=>absurd h Pl
noncomputable def n3{α β γ:Type}:α->β->γ->Bool:=fun U U U=>false
theorem m3{α β γ:Type}{P:α->β->γ->Prop}:∀a b c,n3 a b c=true->P a b c:=fun U U U h=>absurd h Pl
noncomputable def n4{α β γ δ:Type}:α->β->γ->δ->Bool:=fun U U U U=>false
theorem m4{α β γ δ:Type}{P:α->β->γ->δ->Prop}:∀a b c d,n4 a b c d=true->P a b c d:=fun U U U U h=>absurd h Pl
noncomputable def n5{α β γ δ ε:Type}:α->β->γ->δ->ε->Bool:=fun U U U U U=>false
theorem m5{α β γ δ ε:Type}{P:α->β->γ->δ->ε->Prop}:∀a b c d e,n5 a b c d e=true->P a b c d e:=fun U U U U U h=>absurd h Pl
set_option backward.match.sparseCases false in
noncomputable def iT(e:PW)(f0:List Expr->Expr->Pos->Bool)(f1:Option Expr->Pos->Bool)(f2:Expr->Pos->Bool)(f3:Pos->Bool)(f4:Expr->List PW->List PW->Pos->Bool)(f5:Expr->Expr->List PW->List PW->Pos->Bool)(f6:Expr->List PW->List PW->Pos->Bool)(f7:List PW->List Rt->List PW->List PW->Pos->Bool):Bool:=match e with | .Assign t v p=>f0 t v p | .Return v p=>f1 v p | .Expr v p=>f2 v p | .Break p=>f3 p | .If t b o p=>f4 t b o p | .For t i b o p=>f5 t i b o p | .While t b o p=>f6 t b o p | .Try b hs o fb p=>f7 b hs o fb p | _=>false
theorem jB{P:PW->Prop}{e:PW}{f0:List Expr->Expr->Pos->Bool}{f1:Option Expr->Pos->Bool}{f2:Expr->Pos->Bool}{f3:Pos->Bool}{f4:Expr->List PW->List PW->Pos->Bool}{f5:Expr->Expr->List PW->List PW->Pos->Bool}{f6:Expr->List PW->List PW->Pos->Bool}{f7:List PW->List Rt->List PW->List PW->Pos->Bool}(h:iT e f0 f1 f2 f3 f4 f5 f6 f7=true)(k0:∀t v p,f0 t v p=true->P (.Assign t v p))(k1:∀v p,f1 v p=true->P (.Return v p))(k2:∀v p,f2 v p=true->P (.Expr v p))(k3:∀p,f3 p=true->P (.Break p))(k4:∀t b o p,f4 t b o p=true->P (.If t b o p))(k5:∀t i b o p,f5 t i b o p=true->P (.For t i b o p))(k6:∀t b o p,f6 t b o p=true->P (.While t b o p))(k7:∀b hs o fb p,f7 b hs o fb p=true->P (.Try b hs o fb p)):P e:=by
 cases e<;>first | (exact absurd h Pl) | exact k0 _ _ _ h | exact k1 _ _ h | exact k2 _ _ h | exact k3 _ h | exact k4 _ _ _ _ h | exact k5 _ _ _ _ _ h | exact k6 _ _ _ _ h | exact k7 _ _ _ _ _ h
noncomputable def wB(e:PW)(f:List Expr->Expr->Pos->Bool):Bool:=iT e f n2 n2 n1 n4 n5 n4 n5
theorem Du{P:PW->Prop}{e:PW}{f:List Expr->Expr->Pos->Bool}(h:wB e f=true)(k:∀t v p,f t v p=true->P (.Assign t v p)):P e :=
 jB h k m2 m2 m1 m4 m5 m4 m5
noncomputable def wC(e:PW)(f:Option Expr->Pos->Bool):Bool:=iT e n3 f n2 n1 n4 n5 n4 n5
theorem Dv{P:PW->Prop}{e:PW}{f:Option Expr->Pos->Bool}(h:wC e f=true)(k:∀v p,f v p=true->P (.Return v p)):P e :=
 jB h m3 k m2 m1 m4 m5 m4 m5
noncomputable def iU(e:PW)(f:Expr->Pos->Bool):Bool:=iT e n3 n2 f n1 n4 n5 n4 n5
theorem Dw{P:PW->Prop}{e:PW}{f:Expr->Pos->Bool}(h:iU e f=true)(k:∀v p,f v p=true->P (.Expr v p)):P e :=
 jB h m3 m2 k m1 m4 m5 m4 m5
noncomputable def o6(e:PW)(f:Expr->List PW->List PW->Pos->Bool):Bool:=iT e n3 n2 n2 n1 f n5 n4 n5
theorem wD{P:PW->Prop}{e:PW}{f:Expr->List PW->List PW->Pos->Bool}(h:o6 e f=true)(k:∀t b o p,f t b o p=true->P (.If t b o p)):P e :=
 jB h m3 m2 m2 m1 k m5 m4 m5
noncomputable def wE(e:PW)(f:Expr->Expr->List PW->List PW->Pos->Bool):Bool:=iT e n3 n2 n2 n1 n4 f n4 n5
theorem Dx{P:PW->Prop}{e:PW}{f:Expr->Expr->List PW->List PW->Pos->Bool}(h:wE e f=true)(k:∀t i b o p,f t i b o p=true->P (.For t i b o p)):P e :=
 jB h m3 m2 m2 m1 m4 k m4 m5
noncomputable def wG(e:PW)(f:Expr->List PW->List PW->Pos->Bool):Bool:=iT e n3 n2 n2 n1 n4 n5 f n5
theorem Dy{P:PW->Prop}{e:PW}{f:Expr->List PW->List PW->Pos->Bool}(h:wG e f=true)(k:∀t b o p,f t b o p=true->P (.While t b o p)):P e :=
 jB h m3 m2 m2 m1 m4 m5 k m5
noncomputable def wH(e:PW)(f:List PW->List Rt->List PW->List PW->Pos->Bool):Bool:=iT e n3 n2 n2 n1 n4 n5 n4 f
theorem Dz{P:PW->Prop}{e:PW}{f:List PW->List Rt->List PW->List PW->Pos->Bool}(h:wH e f=true)(k:∀b hs o fb p,f b hs o fb p=true->P (.Try b hs o fb p)):P e :=
 jB h m3 m2 m2 m1 m4 m5 m4 k
set_option backward.match.sparseCases false in
noncomputable def ej(e:Expr)(f0:Str->Pos->Bool)(f1:Const->Nat->Pos->Bool)(f2:Expr->Rf->Expr->Pos->Bool)(f3:Expr->List CmpOp->List Expr->Pos->Bool)(f4:UnaryOp->Expr->Pos->Bool)(f5:BoolOp->List Expr->Pos->Bool)(f6:Expr->Expr->Expr->Pos->Bool)(f7:List Expr->Pos->Bool)(f8:List Expr->Nat->Pos->Bool)(f9:Expr->Expr->Pos->Bool)(f10:Option Expr->Option Expr->Option Expr->Pos->Bool)(f11:Expr->Str->Pos->Bool)(f12:Expr->List Expr->List Keyword->Pos->Bool)(f13:Expr->Pos->Bool)(f14:Expr->List QK->Scope->Pos->Bool):Bool:=match e with | .Name x p=>f0 x p | .Constant c n p=>f1 c n p | .BinOp l o r p=>f2 l o r p | .Compare l os rs p=>f3 l os rs p | .UnaryOp o x p=>f4 o x p | .BoolOp o xs p=>f5 o xs p | .IfExp t a b p=>f6 t a b p | .List xs p=>f7 xs p | .Tuple xs n p=>f8 xs n p | .Subscript a b p=>f9 a b p | .Slice l u s p=>f10 l u s p | .Attribute a b p=>f11 a b p | .Call g xs ks p=>f12 g xs ks p | .Starred a p=>f13 a p | .ListComp e gs sc p=>f14 e gs sc p | _=>false
theorem eI{P:Expr->Prop}{e:Expr}{f0:Str->Pos->Bool}{f1:Const->Nat->Pos->Bool}{f2:Expr->Rf->Expr->Pos->Bool}{f3:Expr->List CmpOp->List Expr->Pos->Bool}{f4:UnaryOp->Expr->Pos->Bool}{f5:BoolOp->List Expr->Pos->Bool}{f6:Expr->Expr->Expr->Pos->Bool}{f7:List Expr->Pos->Bool}{f8:List Expr->Nat->Pos->Bool}{f9:Expr->Expr->Pos->Bool}{f10:Option Expr->Option Expr->Option Expr->Pos->Bool}{f11:Expr->Str->Pos->Bool}{f12:Expr->List Expr->List Keyword->Pos->Bool}{f13:Expr->Pos->Bool}{f14:Expr->List QK->Scope->Pos->Bool}(h:ej e f0 f1 f2 f3 f4 f5 f6 f7 f8 f9 f10 f11 f12 f13 f14=true)(k0:∀x p,f0 x p=true->P (.Name x p))(k1:∀c n p,f1 c n p=true->P (.Constant c n p))(k2:∀l o r p,f2 l o r p=true->P (.BinOp l o r p))(k3:∀l os rs p,f3 l os rs p=true->P (.Compare l os rs p))(k4:∀o x p,f4 o x p=true->P (.UnaryOp o x p))(k5:∀o xs p,f5 o xs p=true->P (.BoolOp o xs p))(k6:∀t a b p,f6 t a b p=true->P (.IfExp t a b p))(k7:∀xs p,f7 xs p=true->P (.List xs p))(k8:∀xs n p,f8 xs n p=true->P (.Tuple xs n p))(k9:∀a b p,f9 a b p=true->P (.Subscript a b p))(k10:∀l u s p,f10 l u s p=true->P (.Slice l u s p))(k11:∀a b p,f11 a b p=true->P (.Attribute a b p))(k12:∀g xs ks p,f12 g xs ks p=true->P (.Call g xs ks p))(k13:∀a p,f13 a p=true->P (.Starred a p))(k14:∀e gs sc p,f14 e gs sc p=true->P (.ListComp e gs sc p)):P e:=by
 cases e<;>first | (exact absurd h Pl) | exact k0 _ _ h | exact k1 _ _ _ h | exact k2 _ _ _ _ h | exact k3 _ _ _ _ h | exact k4 _ _ _ h | exact k5 _ _ _ h | exact k6 _ _ _ _ h | exact k7 _ _ h | exact k8 _ _ _ h | exact k9 _ _ _ h | exact k10 _ _ _ _ h | exact k11 _ _ _ h | exact k12 _ _ _ _ h | exact k13 _ _ h | exact k14 _ _ _ _ h
noncomputable def cI(e:Expr)(f:Str->Pos->Bool):Bool:=ej e f n3 n4 n4 n3 n3 n4 n2 n3 n3 n4 n3 n4 n2 n4
theorem fg{P:Expr->Prop}{e:Expr}{f:Str->Pos->Bool}(h:cI e f=true)(k:∀x p,f x p=true->P (.Name x p)):P e :=
 eI h k m3 m4 m4 m3 m3 m4 m2 m3 m3 m4 m3 m4 m2 m4
noncomputable def r8(e:Expr)(f:Const->Nat->Pos->Bool):Bool:=ej e n2 f n4 n4 n3 n3 n4 n2 n3 n3 n4 n3 n4 n2 n4
theorem r9{P:Expr->Prop}{e:Expr}{f:Const->Nat->Pos->Bool}(h:r8 e f=true)(k:∀c n p,f c n p=true->P (.Constant c n p)):P e :=
 eI h m2 k m4 m4 m3 m3 m4 m2 m3 m3 m4 m3 m4 m2 m4
noncomputable def wJ(e:Expr)(f:Expr->Rf->Expr->Pos->Bool):Bool:=ej e n2 n3 f n4 n3 n3 n4 n2 n3 n3 n4 n3 n4 n2 n4
theorem wK{P:Expr->Prop}{e:Expr}{f:Expr->Rf->Expr->Pos->Bool}(h:wJ e f=true)(k:∀l o r p,f l o r p=true->P (.BinOp l o r p)):P e :=
 eI h m2 m3 k m4 m3 m3 m4 m2 m3 m3 m4 m3 m4 m2 m4
noncomputable def wL(e:Expr)(f:Expr->List CmpOp->List Expr->Pos->Bool):Bool:=ej e n2 n3 n4 f n3 n3 n4 n2 n3 n3 n4 n3 n4 n2 n4
theorem DA{P:Expr->Prop}{e:Expr}{f:Expr->List CmpOp->List Expr->Pos->Bool}(h:wL e f=true)(k:∀l os rs p,f l os rs p=true->P (.Compare l os rs p)):P e :=
 eI h m2 m3 m4 k m3 m3 m4 m2 m3 m3 m4 m3 m4 m2 m4
noncomputable def se(e:Expr)(f:UnaryOp->Expr->Pos->Bool):Bool:=ej e n2 n3 n4 n4 f n3 n4 n2 n3 n3 n4 n3 n4 n2 n4
theorem wM{P:Expr->Prop}{e:Expr}{f:UnaryOp->Expr->Pos->Bool}(h:se e f=true)(k:∀o x p,f o x p=true->P (.UnaryOp o x p)):P e :=
 eI h m2 m3 m4 m4 k m3 m4 m2 m3 m3 m4 m3 m4 m2 m4
noncomputable def sf(e:Expr)(f:BoolOp->List Expr->Pos->Bool):Bool:=ej e n2 n3 n4 n4 n3 f n4 n2 n3 n3 n4 n3 n4 n2 n4
theorem sh{P:Expr->Prop}{e:Expr}{f:BoolOp->List Expr->Pos->Bool}(h:sf e f=true)(k:∀o xs p,f o xs p=true->P (.BoolOp o xs p)):P e :=
 eI h m2 m3 m4 m4 m3 k m4 m2 m3 m3 m4 m3 m4 m2 m4
noncomputable def wN(e:Expr)(f:Expr->Expr->Expr->Pos->Bool):Bool:=ej e n2 n3 n4 n4 n3 n3 f n2 n3 n3 n4 n3 n4 n2 n4
theorem wO{P:Expr->Prop}{e:Expr}{f:Expr->Expr->Expr->Pos->Bool}(h:wN e f=true)(k:∀t a b p,f t a b p=true->P (.IfExp t a b p)):P e :=
 eI h m2 m3 m4 m4 m3 m3 k m2 m3 m3 m4 m3 m4 m2 m4
noncomputable def wP(e:Expr)(f:List Expr->Pos->Bool):Bool:=ej e n2 n3 n4 n4 n3 n3 n4 f n3 n3 n4 n3 n4 n2 n4
theorem o7{P:Expr->Prop}{e:Expr}{f:List Expr->Pos->Bool}(h:wP e f=true)(k:∀xs p,f xs p=true->P (.List xs p)):P e :=
 eI h m2 m3 m4 m4 m3 m3 m4 k m3 m3 m4 m3 m4 m2 m4
noncomputable def ie(e:Expr)(f:List Expr->Nat->Pos->Bool):Bool:=ej e n2 n3 n4 n4 n3 n3 n4 n2 f n3 n4 n3 n4 n2 n4
theorem lY{P:Expr->Prop}{e:Expr}{f:List Expr->Nat->Pos->Bool}(h:ie e f=true)(k:∀xs n p,f xs n p=true->P (.Tuple xs n p)):P e :=
 eI h m2 m3 m4 m4 m3 m3 m4 m2 k m3 m4 m3 m4 m2 m4
noncomputable def si(e:Expr)(f:Expr->Expr->Pos->Bool):Bool:=ej e n2 n3 n4 n4 n3 n3 n4 n2 n3 f n4 n3 n4 n2 n4
theorem o8{P:Expr->Prop}{e:Expr}{f:Expr->Expr->Pos->Bool}(h:si e f=true)(k:∀a b p,f a b p=true->P (.Subscript a b p)):P e :=
 eI h m2 m3 m4 m4 m3 m3 m4 m2 m3 k m4 m3 m4 m2 m4
noncomputable def wQ(e:Expr)(f:Option Expr->Option Expr->Option Expr->Pos->Bool):Bool:=ej e n2 n3 n4 n4 n3 n3 n4 n2 n3 n3 f n3 n4 n2 n4
theorem DB{P:Expr->Prop}{e:Expr}{f:Option Expr->Option Expr->Option Expr->Pos->Bool}(h:wQ e f=true)(k:∀l u s p,f l u s p=true->P (.Slice l u s p)):P e :=
 eI h m2 m3 m4 m4 m3 m3 m4 m2 m3 m3 k m3 m4 m2 m4
noncomputable def sj(e:Expr)(f:Expr->Str->Pos->Bool):Bool:=ej e n2 n3 n4 n4 n3 n3 n4 n2 n3 n3 n4 f n4 n2 n4
theorem wR{P:Expr->Prop}{e:Expr}{f:Expr->Str->Pos->Bool}(h:sj e f=true)(k:∀a b p,f a b p=true->P (.Attribute a b p)):P e :=
 eI h m2 m3 m4 m4 m3 m3 m4 m2 m3 m3 m4 k m4 m2 m4
noncomputable def wS(e:Expr)(f:Expr->List Expr->List Keyword->Pos->Bool):Bool:=ej e n2 n3 n4 n4 n3 n3 n4 n2 n3 n3 n4 n3 f n2 n4
theorem DC{P:Expr->Prop}{e:Expr}{f:Expr->List Expr->List Keyword->Pos->Bool}(h:wS e f=true)(k:∀g xs ks p,f g xs ks p=true->P (.Call g xs ks p)):P e :=
 eI h m2 m3 m4 m4 m3 m3 m4 m2 m3 m3 m4 m3 k m2 m4
noncomputable def wT(e:Expr)(f:Expr->List QK->Scope->Pos->Bool):Bool:=ej e n2 n3 n4 n4 n3 n3 n4 n2 n3 n3 n4 n3 n4 n2 f
theorem wU{P:Expr->Prop}{e:Expr}{f:Expr->List QK->Scope->Pos->Bool}(h:wT e f=true)(k:∀e gs sc p,f e gs sc p=true->P (.ListComp e gs sc p)):P e :=
 eI h m2 m3 m4 m4 m3 m3 m4 m2 m3 m3 m4 m3 m4 m2 k
noncomputable def gb(e:PW)(f:Expr->Expr->Pos->Bool):Bool:=wB e fun t v p=>v1 t fun t=>f t v p
theorem wV{P:PW->Prop}{e:PW}{f:Expr->Expr->Pos->Bool}(h:gb e f=true)(k:∀t v p,f t v p=true->P (.Assign [t] v p)):P e :=
 Du h fun U v p h=>dW (P:=fun t=>P (.Assign t v p)) h fun t h=>k t v p h
noncomputable def lZ(e:PW)(f:Expr->Pos->Bool):Bool:=wC e fun v p=>vO v fun v=>f v p
theorem o9{P:PW->Prop}{e:PW}{f:Expr->Pos->Bool}(h:lZ e f=true)(k:∀v p,f v p=true->P (.Return (some v) p)):P e :=
 Dv h fun U p h=>o4 (P:=fun v=>P (.Return v p)) h fun v h=>k v p h
noncomputable def l7(e:PW)(f:Expr->Expr->List PW->Pos->Bool):Bool:=wE e fun t i b o p=>v0 o (f t i b p)
theorem wW{P:PW->Prop}{e:PW}{f:Expr->Expr->List PW->Pos->Bool}(h:l7 e f=true)(k:∀t i b p,f t i b p=true->P (.For t i b [] p)):P e :=
 Dx h fun t i b U p h=>e9 (P:=fun o=>P (.For t i b o p)) h fun h=>k t i b p h
noncomputable def sp(e:PW)(f:Expr->List PW->Pos->Bool):Bool:=wG e fun t b o p=>v0 o (f t b p)
theorem DD{P:PW->Prop}{e:PW}{f:Expr->List PW->Pos->Bool}(h:sp e f=true)(k:∀t b p,f t b p=true->P (.While t b [] p)):P e :=
 Dy h fun t b U p h=>e9 (P:=fun o=>P (.While t b o p)) h fun h=>k t b p h
noncomputable def pa(e:Expr)(f:Expr->CmpOp->Expr->Pos->Bool):Bool:=wL e fun l os rs p=>v1 os fun o=>v1 rs fun r=>f l o r p
theorem pe{P:Expr->Prop}{e:Expr}{f:Expr->CmpOp->Expr->Pos->Bool}(h:pa e f=true)(k:∀l o r p,f l o r p=true->P (.Compare l [o] [r] p)):P e :=
 DA h fun l U U p h=>dW (P:=fun os=>P (.Compare l os _ p)) h fun o h=>dW (P:=fun rs=>P (.Compare l [o] rs p)) h fun r h=>k l o r p h
noncomputable def pf(e:Expr)(f:Expr->Pos->Bool):Bool:=se e fun o x p=>o==.Not&&f x p
theorem pg{P:Expr->Prop}{e:Expr}{f:Expr->Pos->Bool}(h:pf e f=true)(k:∀x p,f x p=true->P (.UnaryOp .Not x p)):P e :=
 wM h fun o x p h=>aP h fun ho h=>(P9 ho)▸k x p h
noncomputable def wX(e:Expr)(f:Expr->Expr->Pos->Bool):Bool:=sf e fun o l p=>o==.And&&vC l fun x r=>v1 r fun y=>f x y p
theorem DE{P:Expr->Prop}{e:Expr}{f:Expr->Expr->Pos->Bool}(h:wX e f=true)(k:∀x y p,f x y p=true->P (.BoolOp .And [x,y] p)):P e :=
 sh h fun o U p h=>aP h fun ho h=>(P9 ho)▸dm (P:=fun l=>P (.BoolOp .And l p)) h fun x U h=>dW (P:=fun r=>P (.BoolOp .And (x::r) p)) h fun y h=>k x y p h
noncomputable def ph(e:Expr)(f:Expr->List Expr->Pos->Bool):Bool:=wS e fun g xs ks p=>v0 ks (f g xs p)
theorem sq{P:Expr->Prop}{e:Expr}{f:Expr->List Expr->Pos->Bool}(h:ph e f=true)(k:∀g xs p,f g xs p=true->P (.Call g xs [] p)):P e :=
 DC h fun g xs U p h=>e9 (P:=fun ks=>P (.Call g xs ks p)) h fun h=>k g xs p h
noncomputable def iV(e:Expr)(f:Str->Pos->List Expr->Pos->Bool):Bool:=ph e fun g xs p=>cI g fun x xp=>f x xp xs p
theorem jC{P:Expr->Prop}{e:Expr}{f:Str->Pos->List Expr->Pos->Bool}(h:iV e f=true)(k:∀x xp xs p,f x xp xs p=true->P (.Call (.Name x xp) xs [] p)):P e :=
 sq h fun U xs p h=>fg (P:=fun g=>P (.Call g xs [] p)) h fun x xp h=>k x xp xs p h
noncomputable def pi(e:Expr)(f:Str->Expr->Bool):Bool:=iV e fun g U xs U=>v1 xs fun x=>f g x
theorem l9{P:Expr->Prop}{e:Expr}{f:Str->Expr->Bool}(h:pi e f=true)(k:∀g gp x p,f g x=true->P (.Call (.Name g gp) [x] [] p)):P e :=
 jC h fun g gp U p h=>dW (P:=fun xs=>P (.Call (.Name g gp) xs [] p)) h fun x h=>k g gp x p h
noncomputable def wY(e:Expr)(f:Str->Expr->Expr->Bool):Bool:=iV e fun g U xs U=>vC xs fun x r=>v1 r fun y=>f g x y
theorem DF{P:Expr->Prop}{e:Expr}{f:Str->Expr->Expr->Bool}(h:wY e f=true)(k:∀g gp x y p,f g x y=true->P (.Call (.Name g gp) [x,y] [] p)):P e :=
 jC h fun g gp U p h=>dm (P:=fun xs=>P (.Call (.Name g gp) xs [] p)) h fun x U h=>dW (P:=fun r=>P (.Call (.Name g gp) (x::r) [] p)) h fun y h=>k g gp x y p h
noncomputable def wZ(e:Expr)(f:Expr->Str->Pos->Expr->Pos->Bool):Bool:=ph e fun g xs p=>sj g fun o m ap=>v1 xs fun x=>f o m ap x p
theorem w3{P:Expr->Prop}{e:Expr}{f:Expr->Str->Pos->Expr->Pos->Bool}(h:wZ e f=true)(k:∀o m ap x p,f o m ap x p=true->P (.Call (.Attribute o m ap) [x] [] p)):P e :=
 sq h fun U xs p h=>wR (P:=fun g=>P (.Call g xs [] p)) h fun o m ap h=>dW (P:=fun xs=>P (.Call (.Attribute o m ap) xs [] p)) h fun x h=>k o m ap x p h
noncomputable def iW(e:Expr)(f:Str->Pos->Str->Pos->List Expr->Pos->Bool):Bool:=ph e fun g xs p=>sj g fun o m ap=>cI o fun x xp=>f x xp m ap xs p
theorem DG{P:Expr->Prop}{e:Expr}{f:Str->Pos->Str->Pos->List Expr->Pos->Bool}(h:iW e f=true)(k:∀x xp m ap xs p,f x xp m ap xs p=true->P (.Call (.Attribute (.Name x xp) m ap) xs [] p)):P e :=
 sq h fun U xs p h=>wR (P:=fun g=>P (.Call g xs [] p)) h fun o m ap h=>fg (P:=fun o=>P (.Call (.Attribute o m ap) xs [] p)) h fun x xp h=>k x xp m ap xs p h
noncomputable def w4(e:Rt)(f:Str->Pos->Expr->Pos->Pos->Bool):Bool:=match e with
 | .ExceptHandler t n b hp=>vO t fun t=>vN n (cI t fun x xp=>v1 b fun r=>lZ r fun v rp=>f x xp v rp hp)
theorem DH{P:Rt->Prop}{e:Rt}{f:Str->Pos->Expr->Pos->Pos->Bool}(h:w4 e f=true)(k:∀x xp v rp hp,f x xp v rp hp=true->P (.ExceptHandler (some (.Name x xp)) none [.Return (some v) rp] hp)):P e:=match e,h with
 | .ExceptHandler _ n b hp,h=>o4 (P:=fun t=>P (.ExceptHandler t n b hp)) h fun U h=>r0 (P:=fun n=>P (.ExceptHandler _ n b hp)) h fun h=>fg (P:=fun t=>P (.ExceptHandler (some t) none b hp)) h fun x xp h =>
  dW (P:=fun b=>P (.ExceptHandler (some (.Name x xp)) none b hp)) h fun U h=>o9 (P:=fun r=>P (.ExceptHandler (some (.Name x xp)) none [r] hp)) h fun v rp h=>k x xp v rp hp h
noncomputable def ma(e:PW)(f:List PW->Str->Pos->Expr->Pos->Pos->Pos->Bool):Bool:=wH e fun b hs o fb p=>v0 o (v0 fb (v1 hs fun hd=>w4 hd fun x xp v rp hp=>f b x xp v rp hp p))
theorem w5{P:PW->Prop}{e:PW}{f:List PW->Str->Pos->Expr->Pos->Pos->Pos->Bool}(h:ma e f=true)(k:∀b x xp v rp hp p,f b x xp v rp hp p=true->P (.Try b [.ExceptHandler (some (.Name x xp)) none [.Return (some v) rp] hp] [] [] p)):P e :=
 Dz h fun b hs U fb p h=>e9 (P:=fun o=>P (.Try b hs o fb p)) h fun h=>e9 (P:=fun fb=>P (.Try b hs [] fb p)) h fun h=>dW (P:=fun hs=>P (.Try b hs [] [] p)) h fun U h =>
  DH (P:=fun hd=>P (.Try b [hd] [] [] p)) h fun x xp v rp hp h=>k b x xp v rp hp p h
theorem ss{P:PW->Prop}{st:PW}{f:Str->Pos->Expr->Pos->Bool}(h:(gb st fun t v p=>cI t fun x xp=>f x xp v p)=true)(k:∀x xp v p,f x xp v p=true->P (.Assign [.Name x xp] v p)):P st :=
 wV h fun U v p h=>fg (P:=fun t=>P (.Assign [t] v p)) h fun x xp h=>k x xp v p h
theorem w6{P:PW->Prop}{st:PW}{f:List Expr->Nat->Pos->Expr->Pos->Bool}(h:(gb st fun t v p=>ie t fun ts n tp=>f ts n tp v p)=true)(k:∀ts n tp v p,f ts n tp v p=true->P (.Assign [.Tuple ts n tp] v p)):P st :=
 wV h fun U v p h=>lY (P:=fun t=>P (.Assign [t] v p)) h fun ts n tp h=>k ts n tp v p h
theorem DI{P:PW->Prop}{st:PW}{f:List Expr->List Expr->Bool}(h:(gb st fun t v U=>ie t fun ts U U=>ie v fun vs U U=>f ts vs)=true)(k:∀ts n tp vs m vp p,f ts vs=true->P (.Assign [.Tuple ts n tp] (.Tuple vs m vp) p)):P st :=
 w6 h fun ts n tp U p h=>lY (P:=fun v=>P (.Assign [.Tuple ts n tp] v p)) h fun vs m vp h=>k ts n tp vs m vp p h
theorem w7{P:PW->Prop}{st:PW}{f:Str->Str->List Expr->Bool}(h:(gb st fun t v U=>cI t fun x U=>iV v fun g U xs U=>f x g xs)=true)(k:∀x xp g gp xs cp p,f x g xs=true->P (.Assign [.Name x xp] (.Call (.Name g gp) xs [] cp) p)):P st :=
 ss h fun x xp U p h=>jC (P:=fun v=>P (.Assign [.Name x xp] v p)) h fun g gp xs cp h=>k x xp g gp xs cp p h
theorem pj{P:PW->Prop}{st:PW}{f:Str->Str->Pos->List Expr->Pos->Bool}(h:(iU st fun c U=>iW c fun x U m ap xs cp=>f x m ap xs cp)=true)(k:∀x xp m ap xs cp p,f x m ap xs cp=true->P (.Expr (.Call (.Attribute (.Name x xp) m ap) xs [] cp) p)):P st :=
 Dw h fun U p h=>DG (P:=fun v=>P (.Expr v p)) h fun x xp m ap xs cp h=>k x xp m ap xs cp p h
theorem DJ{P:PW->Prop}{st:PW}{f:Str->Expr->Str->Str->Pos->Pos->Bool}
 (h:(ma st fun b ce U v U U U=>v1 b fun t=>iU t fun c U=>iW c fun x U m ap xs cp=>v0 xs (f ce v x m ap cp))=true)
 (k:∀x xp m ap cp ep ce cep v rp hp tp,f ce v x m ap cp=true->P (.Try [.Expr (.Call (.Attribute (.Name x xp) m ap) [] [] cp) ep] [.ExceptHandler (some (.Name ce cep)) none [.Return (some v) rp] hp] [] [] tp)):P st :=
 w5 h fun U ce cep v rp hp tp h=>dW (P:=fun b=>P (.Try b [.ExceptHandler (some (.Name ce cep)) none [.Return (some v) rp] hp] [] [] tp)) h fun U h =>
  pj (P:=fun t=>P (.Try [t] [.ExceptHandler (some (.Name ce cep)) none [.Return (some v) rp] hp] [] [] tp)) (f:=fun x m ap xs cp=>v0 xs (f ce v x m ap cp)) h fun x xp m ap U cp ep h =>
   e9 (P:=fun xs=>P (.Try [.Expr (.Call (.Attribute (.Name x xp) m ap) xs [] cp) ep] [.ExceptHandler (some (.Name ce cep)) none [.Return (some v) rp] hp] [] [] tp)) h fun h=>k x xp m ap cp ep ce cep v rp hp tp h
noncomputable def jD(x:Str)(xp:Pos)(v:Expr)(rp hp:Pos):List Rt:=[.ExceptHandler (some (.Name x xp)) none [.Return (some v) rp] hp]
theorem DK{P:PW->Prop}{st:PW}{f:Str->Expr->Str->Pos->Expr->Str->Str->Pos->Str->Pos->Bool}
 (h:(ma st fun b ve U v U U U=>v1 b fun fo=>l7 fo fun t iter fb U=>cI t fun el ep=>v1 fb fun c=>iU c fun c U=>iW c fun x U m ap xs cp=>v1 xs fun a=>cI a fun el2 U=>f ve v el ep iter x m ap el2 cp)=true)
 (k:∀el ep iter x xp m ap el2 elp cp exp fp ve vep v rp hp tp,f ve v el ep iter x m ap el2 cp=true ->
  P (.Try [.For (.Name el ep) iter [.Expr (.Call (.Attribute (.Name x xp) m ap) [.Name el2 elp] [] cp) exp] [] fp] [.ExceptHandler (some (.Name ve vep)) none [.Return (some v) rp] hp] [] [] tp)):P st :=
 w5 h fun U ve vep v rp hp tp h=>by
  exact dW (P:=fun b=>P (.Try b (jD ve vep v rp hp) [] [] tp)) h fun U h=>wW (P:=fun t=>P (.Try [t] (jD ve vep v rp hp) [] [] tp)) h fun U iter U fp h=>fg (P:=fun t=>P (.Try [.For t iter _ [] fp] (jD ve vep v rp hp) [] [] tp)) h fun el ep h =>
   dW (P:=fun fb=>P (.Try [.For (.Name el ep) iter fb [] fp] (jD ve vep v rp hp) [] [] tp)) h fun U h=>pj (P:=fun c=>P (.Try [.For (.Name el ep) iter [c] [] fp] (jD ve vep v rp hp) [] [] tp)) (f:=fun x m ap xs cp=>v1 xs fun a=>cI a fun el2 U=>f ve v el ep iter x m ap el2 cp) h fun x xp m ap U cp exp h =>
    dW (P:=fun xs=>P (.Try [.For (.Name el ep) iter [.Expr (.Call (.Attribute (.Name x xp) m ap) xs [] cp) exp] [] fp] (jD ve vep v rp hp) [] [] tp)) h fun U h =>
     fg (P:=fun a=>P (.Try [.For (.Name el ep) iter [.Expr (.Call (.Attribute (.Name x xp) m ap) [a] [] cp) exp] [] fp] (jD ve vep v rp hp) [] [] tp)) h fun el2 elp h=>k el ep iter x xp m ap el2 elp cp exp fp ve vep v rp hp tp h
section
theorem bz(s:PL):PY s s:=⟨s.heap,s.toks,rfl,fun U U e=>e⟩
theorem ay(s:PL)(t:Nat):PY s { s with toks:=t }:=⟨s.heap,t,rfl,fun U U e=>e⟩
theorem aX(x:PY a b)(y:PY b c):PY a c:=by
 refine x22 x fun h t e2 k=>?_;subst e2
 refine x22 y fun h' t' e2 k'=>?_;subst e2
 exact⟨h',t',rfl,fun b o e=>k' b o (k b o e)⟩
theorem am(x:PY a b):∀c o,a.heap.get? c=some o->b.heap.get? c=some o:=by
 refine x22 x fun h t e2 k=>?_;subst e2;exact k
theorem bL{t:Nat}(o:Obj):PY s { s with heap:=s.heap.push o,toks:=t }:=⟨_,t,rfl,fun U U e=>PX _ e⟩
section
mutual
inductive Rep(O:PP->Prop)(h:Qk):PN->PQ->Prop
 | none:Rep O h .none .none
 | bool (b:Bool):Rep O h (.bool b) (.bool b)
 | int (i:Int) (t:Tok):Rep O h (.int i t) (.int i)
 | str (x:Str) (t:Tok):Rep O h (.str x t) (.str x)
 | list {a:PP} {vs:Array PN} {n:Nat} {ds:List PQ}:¬O a->IsL h a vs n->RepL O h vs.toList ds->Rep O h (.ref a) (.list ds)
 | tuple {a:PP} {vs:Array PN} {n:Nat} {ds:List PQ}:¬O a->IsT h a vs n->RepL O h vs.toList ds->Rep O h (.ref a) (.tuple ds)
inductive RepL(O:PP->Prop)(h:Qk):List PN->List PQ->Prop
 | nil:RepL O h [] []
 | cons {v:PN} {vs:List PN} {d:PQ} {ds:List PQ}:Rep O h v d->RepL O h vs ds->RepL O h (v::vs) (d::ds)
end
end
section
variable{prog:Qs}{w:Qq}{O O':PP->Prop}{h h':Qk}
theorem fy(hk:∀o,h.get? a=some o->h'.get? a=some o)(x:h.DictOf (QU prog w) a kvs):h'.DictOf (QU prog w) a kvs:=by
 refine x12 (Heap.dictOf_iff.mp x) fun o ho r=>?_
 exact Heap.dictOf_iff.mpr ⟨o,hk o ho,r⟩
theorem Rep.mono(hk:∀b o,¬O b->h.get? b=some o->h'.get? b=some o)(hO:∀b o,h.get? b=some o->O' b->O b)(r:Rep O h v d):Rep O' h' v d :=
 Rep.rec (motive_1:=fun v d U=>Rep O' h' v d) (motive_2:=fun vs ds U=>RepL O' h' vs ds) .none .bool .int .str (fun n ho U l=>.list (fun q=>n (hO _ _ ho q)) (hk _ _ n ho) l) (fun n ho U l=>.tuple (fun q=>n (hO _ _ ho q)) (hk _ _ n ho) l) .nil (fun U U r l=>.cons r l) r
theorem RepL.mono(hk:∀b o,¬O b->h.get? b=some o->h'.get? b=some o)(hO:∀b o,h.get? b=some o->O' b->O b)(r:RepL O h vs ds):RepL O' h' vs ds :=
 RepL.rec (motive_1:=fun v d U=>Rep O' h' v d) (motive_2:=fun vs ds U=>RepL O' h' vs ds) .none .bool .int .str (fun n ho U l=>.list (fun q=>n (hO _ _ ho q)) (hk _ _ n ho) l) (fun n ho U l=>.tuple (fun q=>n (hO _ _ ho q)) (hk _ _ n ho) l) .nil (fun U U r l=>.cons r l) r
theorem Rep.keeps(k:PY s s')(r:Rep O s.heap v d):Rep O s'.heap v d:=r.mono (fun b o U e=>am k b o e) fun U U U q=>q
theorem RepL.keeps(k:PY s s')(r:RepL O s.heap v d):RepL O s'.heap v d:=r.mono (fun b o U e=>am k b o e) fun U U U q=>q
theorem Rep.weak(hO:∀b,O' b->O b)(r:Rep O h v d):Rep O' h v d:=r.mono (fun U U U e=>e) fun b U U q=>hO b q
theorem RepL.length(r:RepL O h vs ds):vs.length=ds.length:=by
 induction vs generalizing ds with
 | nil=>cases r;rfl
 | cons v vs ih=>cases r with | cons _ l=>rw[dU,dU,ih l]
theorem RepL.append(r:RepL O h vs ds)(q:RepL O h ws es):RepL O h (vs++ws) (ds++es):=by
 induction vs generalizing ds with
 | nil=>cases r;exact q
 | cons v vs ih=>cases r with | cons a l=>exact .cons a (ih l)
theorem RepL.get{vs:List PN}{ds:List PQ}(r:RepL O h vs ds){i:Nat}(hv:vs[i]? = some v):∃d,ds[i]? = some d/\Rep O h v d:=by
 induction vs generalizing ds i with
 | nil=>simp at hv
 | cons u vs ih =>
  cases r with
  | cons a l =>
   cases i with
   | zero=>simp at hv;subst hv;exact⟨_,rfl,a⟩
   | succ i=>simp at hv;simpa using ih l hv
theorem RepL.getD{vs:List PN}{ds:List PQ}(r:RepL O h vs ds){i:Nat}{d:PQ}(hd:ds[i]? = some d):∃v,vs[i]? = some v/\Rep O h v d:=by
 induction vs generalizing ds i with
 | nil=>cases r;cases hd
 | cons u vs ih =>
  cases r with
  | cons a l =>
   cases i with
   | zero=>simp at hd;subst hd;exact⟨_,rfl,a⟩
   | succ i=>simp at hd;simpa using ih l hd
theorem RepL.take(r:RepL O h vs ds)(n:Nat):RepL O h (vs.take n) (ds.take n):=by
 induction vs generalizing ds n with
 | nil=>cases r;simpa using RepL.nil
 | cons u vs ih =>
  cases r with
  | cons a l=>cases n with | zero=>simpa using RepL.nil | succ n=>simpa using RepL.cons a (ih l n)
theorem RepL.drop(r:RepL O h vs ds)(n:Nat):RepL O h (vs.drop n) (ds.drop n):=by
 induction vs generalizing ds n with
 | nil=>cases r;simpa using RepL.nil
 | cons u vs ih =>
  cases r with
  | cons a l=>cases n with | zero=>simpa using RepL.cons a l | succ n=>simpa using ih l n
mutual
noncomputable def ko:PQ->Bool
 | .none | .bool _ | .int _ | .str _=>true
 | .list ds | .tuple ds=>kq ds
 | .dict _=>false
noncomputable def kq:List PQ->Bool
 | []=>true
 | d::ds=>ko d&&kq ds
end
mutual
theorem iX:∀d:PQ,d.canLay0=true->ko d=true
 | .none,_ | .bool _,_ | .int _,_ | .str _,_=>rfl
 | .list ds,h=>iY ds h
 | .tuple ds,h=>iY ds h
 | .dict _,h=>by simp[PyData.canLay0]at h
theorem iY:∀ds:List PQ,QC ds=true->kq ds=true
 | [],_=>rfl
 | d::ds,h=>by
  have h:(d.canLay0&&QC ds)=true:=h
  exact aP h fun h1 h2=>(congrArg (·&&_) (iX d h1)).trans (iY ds h2)
end
theorem RepL.reads(r:RepL O h vs ds):kq ds=true->∃as,ReadsAll h vs ds as :=
 RepL.rec (motive_1:=fun v d U=>ko d=true->∃as,Reads h v d as) (motive_2:=fun vs ds U=>kq ds=true->∃as,ReadsAll h vs ds as) (fun U=>⟨_,.none⟩) (fun b U=>⟨_,.bool b⟩) (fun i t U=>⟨_,.int i t⟩) (fun x t U=>⟨_,.str x t⟩)
  (fun U ho U l q=>(l q).elim fun as r=>⟨_,.list ho rfl rfl r⟩) (fun U ho U l q=>(l q).elim fun as r=>⟨_,.tuple ho rfl rfl r⟩) (fun U=>⟨_,.nil⟩)
  (fun U U r l q=>have q:=sV.mp q;(r q.1).elim fun as a=>(l q.2).elim fun bs b=>⟨_,.cons a b⟩) r
theorem Rep.reads(r:Rep O h v d)(hd:ko d=true):∃as,Reads h v d as:=by
 have:=RepL.reads (.cons r .nil) (show(ko d&&true)=true by rw[hd];rfl)
 refine x11 this fun as q=>?_
 cases q with | cons a _=>exact⟨_,a⟩
end
end
noncomputable abbrev PV(O:PP->Prop)(s:PL)(d:PQ):PN->PL->Prop:=fun v s'=>PY s s'/\Rep O s'.heap v d
noncomputable abbrev PB(s:PL)(b:Bool):Bool->PL->Prop:=fun r s'=>r=b/\PY s s'
noncomputable def sv(op:Rf)(a b:Int):Int:=match op with
 | .Add=>a+b
 | .Sub=>a - b
 | .Mult=>a * b
 | .FloorDiv=>Int.fdiv a b
 | .Mod=>Int.fmod a b
 | .Pow=>a ^ b.toNat
 | .BitAnd=>Builtin.bitAnd a b
 | .BitOr=>Builtin.bitOr a b
 | .BitXor=>Builtin.bitXor a b
 | _=>0
noncomputable def pn(op:Rf)(a b:Int):Prop:=match op with
 | .Add | .Sub | .BitAnd | .BitOr | .BitXor=>True
 | .Mult=>(-65536<=a/\a<=65536)\/(-65536<=b/\b<=65536)
 | .FloorDiv=>0<b/\b<=1000000
 | .Mod=>b≠0
 | .Pow=>2<=a/\a<=64/\0<=b/\b<=64
 | _=>False
noncomputable def iZ(op:Rf)(x y:PQ):PQ:=match x with
 | .int a=>(match y with | .int b=>.int (sv op a b) | _=>.none)
 | .str a=>(match y with | .str b=>.str (a++b) | _=>.none)
 | .list a=>(match y with | .list b=>.list (a++b) | _=>.none)
 | _=>.none
noncomputable def pp(op:Rf)(x y:PQ):Prop:=match x with
 | .int a=>(match y with | .int b=>pn op a b | _=>False)
 | .str a=>(match y with | .str b=>op=.Add/\a.length+b.length<=16777216 | _=>False)
 | .list a=>(match y with | .list b=>op=.Add/\a.length+b.length<=16777216 | _=>False)
 | _=>False
section
variable{prog:Qs}{w:Qq}{A:P0}{E:PN->PL->Prop}{s:PL}{O:PP->Prop}{va vb:PN}{da db:PQ}
theorem cQ{vs:Array PN}:vs.toList.length=vs.size:=by simp
theorem w8{a:Int}{k:Nat}(h : -(k:Int)<=a/\a<=k):a.natAbs<=k:=by
 cases a with
 | ofNat n=>exact Int.ofNat_le.mp h.2
 | negSucc n=>exact Int.ofNat_le.mp (Int.neg_le_neg_iff.mp h.1)
theorem xa(h:n<2 ^ k)(hk:0<k):n.log2<k:=by
 cases n with
 | zero=>exact hk
 | succ n=>exact(Nat.log2_lt (Nat.succ_ne_zero n)).mpr h
theorem xb{a:Int}(h : -65536<=a/\a<=65536):Sq a<=64:=by
 unfold Sq
 split
 ·exact bx _
 ·exact aa (xa (k:=17) (eZ (w8 (k:=65536) h) (by decide)) (by decide)) (by decide)
theorem RepL.pushO(o:Obj)(r:RepL O s.heap vs ds):RepL O (s.heap.push o) vs ds :=
 r.mono (fun U U U e=>PX _ e) fun U U U q=>q
theorem xc(r:Rep O s.heap v (.int a)):∃t,v=.int a t:=by
 cases r with | int a t=>exact⟨t,rfl⟩
theorem DL:∀m:Fin 65,∀n:Fin 65,Builtin.Int.intTooBig (((Sq (m.1:Int):Nat):Int) * (n.1:Int))=false:=by decide +kernel
theorem DM{m n:Nat}{t u:Tok}(h2:2<=m)(h:m<65)(h1:n<65):PM (PO prog w) A (binaryOp .Pow (.int m t) (.int n u)) (PV O s (.int ((m:Int) ^ n))) E s:=by
 refine AutoIntOpsIf.pow ?_
 rw[if_pos (rI n)]
 cases n with
 | zero=>exact⟨ay _ _,.int _ _⟩
 | succ n =>
  match m,h2 with
  | m+2,_ =>
   show if Builtin.Int.intTooBig _=true then _ else _
   rw[DL ⟨m+2,h⟩ ⟨n+1,h1⟩]
   exact⟨ay _ _,.int _ _⟩
theorem DN(h:0<b)(h1:b<=1000000):Builtin.divisionGoesByPylong a b=false:=by
 unfold Builtin.divisionGoesByPylong
 have l:=xa (k:=20) (eZ (w8 (a:=b) (k:=1000000) ⟨Int.le_trans (by decide) (Int.le_of_lt h),h1⟩) (by decide)) (by decide)
 rw[Bool.and_eq_false_iff]
 refine .inl (decide_eq_false (c5.mpr ?_))
 show(if(b==0)=true then 0 else b.natAbs.log2 / 30+1)<=300
 rw[if_neg (fun e=>Int.ne_of_gt h (P9 e))]
 exact aa (dG (Nat.div_le_div_right (Os l)) 1) (by decide)
theorem DO{op:Rf}{a b:Int}{t u:Tok}(hp:pn op a b):PM (PO prog w) A (binaryOp op (.int a t) (.int b u)) (PV O s (.int (sv op a b))) E s:=by
 cases op<;>first | exact hp.elim | skip
 ·exact add_int ⟨ay _ _,.int _ _⟩
 ·exact sub_int ⟨ay _ _,.int _ _⟩
 ·exact mul_int ⟨ay _ _,.int _ _⟩ (hp.elim (fun h=>.of_left (xb h)) fun h=>.of_right (xb h))
 ·exact mod_int' hp ⟨ay _ _,.int _ _⟩
 ·obtain⟨p1,p2,p3,p4⟩:=hp
  match a,b,p1,p2,p3,p4 with
  | .ofNat m,.ofNat n,p1,p2,p3,p4=>exact DM (Int.ofNat_le.mp p1) (Nat.lt_succ_of_le (Int.ofNat_le.mp p2)) (Nat.lt_succ_of_le (Int.ofNat_le.mp p4))
 ·exact or_int ⟨ay _ _,.int _ _⟩
 ·exact xor_int ⟨ay _ _,.int _ _⟩
 ·exact and_int ⟨ay _ _,.int _ _⟩
 ·exact floordiv_int (Int.ne_of_gt hp.1) ⟨ay _ _,.int _ _⟩ (.inl (DN hp.1 hp.2))
theorem DP{op:Rf}{P:PQ->PQ->PQ->Prop}(hp:pp op da db)(ki:∀a b,pn op a b->P (.int a) (.int b) (.int (sv op a b)))
 (ks:∀a b,op=.Add->a.length+b.length<=16777216->P (.str a) (.str b) (.str (a++b))) (kl:∀a b,op=.Add->a.length+b.length<=16777216->P (.list a) (.list b) (.list (a++b))):P da db (iZ op da db):=by
 cases da<;>first | exact hp.elim | skip
 ·cases db<;>first | exact hp.elim | exact ki _ _ hp
 ·cases db<;>first | exact hp.elim | exact ks _ _ hp.1 hp.2
 ·cases db<;>first | exact hp.elim | exact kl _ _ hp.1 hp.2
theorem xe(hO:∀b,O b->b<s.heap.objs.size)(ra:Rep O s.heap va da)(rb:Rep O s.heap vb db)(hp:pp op da db) :
 PM (PO prog w) A (binaryOp op va vb) (PV O s (iZ op da db)) E s:=by
 revert ra rb
 refine DP (P:=fun da db d=>Rep O s.heap va da->Rep O s.heap vb db->PM (PO prog w) A (binaryOp op va vb) (PV O s d) E s) hp (fun a b h ra rb=>?_) (fun a b e h ra rb=>?_) fun a b e h ra rb=>?_
 ·refine x11 (xc ra) fun t e1=>?_;subst e1
  refine x11 (xc rb) fun u e1=>?_;subst e1
  exact DO h
 ·cases ra;cases rb;cases e
  exact add_str (fun t' tk=>⟨ay _ _,.str _ _⟩) h
 ·cases e
  cases ra with
  | list na ha la =>
   cases rb with
   | list nb hb lb =>
    have e1:=la.length
    have e2:=lb.length
    rw[cQ]at e1 e2
    refine P.add_list ha hb ⟨bL _,.list (n:=0) (fun q=>bl _ (hO _ q)) (IsL.new _ _) ?_⟩ (by rw[e1,e2];exact h)
    simpa using(la.append lb).pushO _
end
noncomputable def cy(d:PQ):Prop:=d.canLay0=true/\d.depth<=32
noncomputable def mc(x:PQ):PQ->Bool
 | .list ds=>ds.any fun y=>Qi y x
 | .tuple ds=>ds.any fun y=>Qi y x
 | .str y=>match x with | .str z=>!(Builtin.Str.occurrences y z 0 y.length 1).isEmpty | _=>false
 | _=>false
noncomputable def sx(x:PQ):PQ->Prop
 | .list ds=>cy x/\QC ds=true
 | .tuple ds=>cy x/\QC ds=true
 | .str _=>match x with | .str _=>True | _=>False
 | _=>False
noncomputable def i3:CmpOp->PQ->PQ->Bool
 | .Eq,a,b=>Qi a b
 | .NotEq,a,b=>!Qi a b
 | .Lt,.int a,.int b=>decide (a<b)
 | .LtE,.int a,.int b=>decide (a<=b)
 | .Gt,.int a,.int b=>decide (a > b)
 | .GtE,.int a,.int b=>decide (a ≥ b)
 | .Is,.bool a,.bool b=>a==b
 | .IsNot,.bool a,.bool b=>!(a==b)
 | .In,a,b=>mc a b
 | .NotIn,a,b=>!mc a b
 | _,_,_=>false
noncomputable def me:CmpOp->PQ->PQ->Prop
 | .Eq,a,b=>cy a/\cy b
 | .NotEq,a,b=>cy a/\cy b
 | .Lt,.int _,.int _=>True
 | .Gt,.int _,.int _=>True
 | .Is,.bool _,.bool _=>True
 | .IsNot,.bool _,.bool _=>True
 | .In,a,b=>sx a b
 | .NotIn,a,b=>sx a b
 | _,_,_=>False
noncomputable def bg(O:PP->Prop)(h:Qk)(v:PN)(d:PQ):Prop :=
 Rep O h v d\/(∃a vs n ds,v=.ref a/\d=.list ds/\IsL h a vs n/\RepL O h vs.toList ds)
section
variable{prog:Qs}{w:Qq}{A:P0}{E:PN->PL->Prop}{s:PL}{O:PP->Prop}{va vb:PN}{da db:PQ}
theorem bg.of(r:Rep O h v d):bg O h v d:=.inl r
theorem bg.listIs(r:bg O h v (.list ds)):∃a vs n,v=.ref a/\IsL h a vs n/\RepL O h vs.toList ds:=by
 rcases r with r | ⟨a,vs,n,ds',e,e',h1,h2⟩
 ·cases r with | list n h l=>exact⟨_,_,_,rfl,h,l⟩
 ·cases e';exact⟨a,vs,n,e,h1,h2⟩
theorem bg.keeps(k:PY s s')(r:bg O s.heap v d):bg O s'.heap v d:=by
 rcases r with r | ⟨a,vs,n,ds',e,e',h1,h2⟩
 ·exact .inl (r.keeps k)
 ·exact .inr ⟨a,vs,n,ds',e,e',am k _ _ h1,h2.keeps k⟩
theorem bg.reads(r:bg O h v d)(hd:ko d=true):∃as,Reads h v d as:=by
 rcases r with r | ⟨a,vs,n,ds',e,e',h1,h2⟩
 ·exact r.reads hd
 ·subst e e'
  replace hd:kq _=true:=hd
  refine x11 (h2.reads hd) fun as q=>?_
  exact⟨_,.list h1 rfl rfl q⟩
theorem bg.intIs(r:bg O h v (.int i)):∃t,v=.int i t:=by
 rcases r with r | ⟨a,vs,n,ds',e,e',h1,h2⟩
 ·cases r;exact⟨_,rfl⟩
 ·cases e'
theorem bg.strIs(r:bg O h v (.str i)):∃t,v=.str i t:=by
 rcases r with r | ⟨a,vs,n,ds',e,e',h1,h2⟩
 ·cases r;exact⟨_,rfl⟩
 ·cases e'
theorem bg.boolIs(r:bg O h v (.bool i)):v=.bool i:=by
 rcases r with r | ⟨a,vs,n,ds',e,e',h1,h2⟩
 ·cases r;rfl
 ·cases e'
theorem bg.tupIs(r:bg O h v (.tuple ds)):∃a vs n,v=.ref a/\IsT h a vs n/\RepL O h vs.toList ds:=by
 rcases r with r | ⟨a,vs,n,ds',e,e',h1,h2⟩
 ·cases r with | tuple n h l=>exact⟨_,_,_,rfl,h,l⟩
 ·cases e'
theorem xf(a b:Bool):(Value.bool a==Value.bool b)=(a==b):=by cases a<;>cases b<;>rfl
theorem mh(h:cy x)(hu:A.units+100<cLine):A.units+1+min n x.depth<cLine:=by
 have:=h.2
 have h2:min n x.depth<=x.depth:=Nat.min_le_right _ _
 lia
theorem sy(hu:A.units+100<cLine)(ra:bg O s.heap va da)(rb:bg O s.heap vb db)(hp:me op da db) :
 PM (PO prog w) A (compareOp op va vb) (fun v s'=>v=.bool (i3 op da db)/\PY s s') E s:=by
 have eqs:∀ {a b:PQ},cy a->cy b->bg O s.heap va a->bg O s.heap vb b->∃as bs,Reads s.heap va a as/\Reads s.heap vb b bs/\shaped a=true/\shaped b=true:=by
  intro a b ha hb r1 r2
  refine x11 (r1.reads (iX _ ha.1)) fun as q1=>?_
  refine x11 (r2.reads (iX _ hb.1)) fun bs q2=>?_
  refine⟨as,bs,q1,q2,?_,?_⟩
  ·have:=ha.2
   simp only[shaped,ha.1,Bool.true_and,decide_eq_true_eq];lia
  ·have:=hb.2
   simp only[shaped,hb.1,Bool.true_and,decide_eq_true_eq];lia
 cases op
 case Eq =>
  refine x24 (eqs hp.1 hp.2 ra rb) fun as bs q1 q2 h1 h2=>?_
  exact eq_dataH q1 q2 h1 h2 (by lia) ⟨rfl,bz _⟩
 case NotEq =>
  refine x24 (eqs hp.1 hp.2 ra rb) fun as bs q1 q2 h1 h2=>?_
  exact ne_dataH q1 q2 h1 h2 (by lia) ⟨rfl,bz _⟩
 case In =>
  cases db<;>first | exact hp.elim | skip
  ·cases da<;>first | exact hp.elim | skip
   refine x11 ra.strIs fun t e1=>?_;subst e1
   refine x11 rb.strIs fun u e1=>?_;subst e1
   exact P.in_str ⟨rfl,bz _⟩
  ·refine x11 (ra.reads (iX _ hp.1.1)) fun as q1=>?_
   refine x11 (rb.reads (iY _ hp.2)) fun bs q2=>?_
   exact in_list_reads q2 q1 hp.2 hp.1.1 (mh hp.1 hu) ⟨rfl,bz _⟩
  ·refine x11 (ra.reads (iX _ hp.1.1)) fun as q1=>?_
   refine x11 (rb.reads (iY _ hp.2)) fun bs q2=>?_
   exact in_tuple_reads q2 q1 hp.2 hp.1.1 (mh hp.1 hu) ⟨rfl,bz _⟩
 case NotIn =>
  cases db<;>first | exact hp.elim | skip
  ·cases da<;>first | exact hp.elim | skip
   refine x11 ra.strIs fun t e1=>?_;subst e1
   refine x11 rb.strIs fun u e1=>?_;subst e1
   exact P.notIn_str ⟨rfl,bz _⟩
  ·refine x11 (ra.reads (iX _ hp.1.1)) fun as q1=>?_
   refine x11 (rb.reads (iY _ hp.2)) fun bs q2=>?_
   exact notIn_list_reads q2 q1 hp.2 hp.1.1 (mh hp.1 hu) ⟨rfl,bz _⟩
  ·refine x11 (ra.reads (iX _ hp.1.1)) fun as q1=>?_
   refine x11 (rb.reads (iY _ hp.2)) fun bs q2=>?_
   exact notIn_tuple_reads q2 q1 hp.2 hp.1.1 (mh hp.1 hu) ⟨rfl,bz _⟩
 case Lt =>
  obtain⟨i,j,rfl,rfl⟩:∃i j,da=.int i/\db=.int j:=by
   cases da<;>first | exact hp.elim | skip
   cases db<;>first | exact hp.elim | exact⟨_,_,rfl,rfl⟩
  refine x11 ra.intIs fun t e1=>?_;subst e1
  refine x11 rb.intIs fun u e1=>?_;subst e1
  exact lt_int ⟨rfl,bz _⟩
 case LtE=>exact hp.elim
 case Gt =>
  obtain⟨i,j,rfl,rfl⟩:∃i j,da=.int i/\db=.int j:=by
   cases da<;>first | exact hp.elim | skip
   cases db<;>first | exact hp.elim | exact⟨_,_,rfl,rfl⟩
  refine x11 ra.intIs fun t e1=>?_;subst e1
  refine x11 rb.intIs fun u e1=>?_;subst e1
  exact gt_int ⟨rfl,bz _⟩
 case GtE=>exact hp.elim
 case Is =>
  obtain⟨i,j,rfl,rfl⟩:∃i j,da=.bool i/\db=.bool j:=by
   cases da<;>first | exact hp.elim | skip
   cases db<;>first | exact hp.elim | exact⟨_,_,rfl,rfl⟩
  have e1:=ra.boolIs
  have e2:=rb.boolIs
  subst e1 e2
  exact wpAny_is_plain rfl ⟨by rw[xf];rfl,bz _⟩
 case IsNot =>
  obtain⟨i,j,rfl,rfl⟩:∃i j,da=.bool i/\db=.bool j:=by
   cases da<;>first | exact hp.elim | skip
   cases db<;>first | exact hp.elim | exact⟨_,_,rfl,rfl⟩
  have e1:=ra.boolIs
  have e2:=rb.boolIs
  subst e1 e2
  exact wpAny_isNot_plain rfl ⟨by rw[xf];rfl,bz _⟩
end
noncomputable def i4:PQ->Nat
 | .list ds=>ds.length
 | .tuple ds=>ds.length
 | .str x=>x.length
 | .dict kvs=>kvs.length
 | _=>0
noncomputable def ca(i:Int)(n:Nat):Nat:=if i<0 then(i+n).toNat else i.toNat
noncomputable def fA(i:Int)(n:Nat):Prop:=-1000000000<=i/\i<=1000000000/\-(n:Int)<=i/\i<n
theorem xg(h3 : -(n:Int)<=i)(h0:i<0):0<=i+n/\i+n<n :=
 ⟨Int.add_left_neg (n:Int)▸Int.add_le_add_right h3 n,Int.lt_of_lt_of_le (Int.add_lt_add_right h0 n) (Int.le_of_eq (Int.zero_add _))⟩
theorem sz(h:fA i n):ca i n<n:=by
 unfold ca
 by_cases h0:i<0
 ·rw[if_pos h0];exact(xg h.2.2.1 h0).elim fun a b=>(Int.toNat_lt a).mpr b
 ·rw[if_neg h0];exact(Int.toNat_lt (Int.not_lt.mp h0)).mpr h.2.2.2
theorem mi(h:fA i n) : -(2 ^ 63)<=i/\i<2 ^ 63:=⟨Int.le_trans (by decide) h.1,Int.lt_of_le_of_lt h.2.1 (by decide)⟩
theorem xh(h:fA i n):seqIndex? i n=some (ca i n):=by
 unfold seqIndex? ca
 by_cases h0:i<0
 ·simp only[h0,if_true]
  rw[if_pos (by simp only[di,decide_eq_true_eq];exact xg h.2.2.1 h0)]
 ·simp only[h0,if_false]
  rw[if_pos (by simp only[di,decide_eq_true_eq];exact⟨Int.not_lt.mp h0,h.2.2.2⟩)]
noncomputable def mj(x y:PQ):PQ:=match y with
 | .int i=>(match x with
  | .list ds=>ds.getD (ca i ds.length) .none
  | .tuple ds=>ds.getD (ca i ds.length) .none
  | .str x=>.str ⟨#[x.cps.getD (ca i x.length) 0]⟩
  | _=>.none)
 | _=>.none
noncomputable def pq(x y:PQ):Prop:=match y with
 | .int i=>(match x with
  | .list ds=>fA i ds.length
  | .tuple ds=>fA i ds.length
  | .str x=>fA i x.length
  | _=>False)
 | _=>False
theorem xi{da db:PQ}{P:PQ->PQ->PQ->Prop}(hp:pq da db)(k1:∀x i,fA i x.length->P (.str x) (.int i) (.str ⟨#[x.cps.getD (ca i x.length) 0]⟩))
 (k2:∀ds i,fA i ds.length->P (.list ds) (.int i) (ds.getD (ca i ds.length) .none)) (k3:∀ds i,fA i ds.length->P (.tuple ds) (.int i) (ds.getD (ca i ds.length) .none)):P da db (mj da db):=by
 cases db<;>first | exact hp.elim | skip
 cases da<;>first | exact hp.elim | exact k1 _ _ hp | exact k2 _ _ hp | exact k3 _ _ hp
noncomputable def part:PQ->Option Int
 | .int i=>some i
 | _=>none
noncomputable def gc{α:Type}(xs:List α)(lo hi:PQ):List α :=
 (xs.drop ((part lo).elim 0 (Ru xs.length))).take ((part hi).elim xs.length (Ru xs.length) - (part lo).elim 0 (Ru xs.length))
noncomputable def kz(d lo hi:PQ):PQ:=match d with
 | .list ds=>.list (gc ds lo hi)
 | .str x=>.str ⟨(gc x.cps.toList lo hi).toArray⟩
 | _=>.none
noncomputable def ml:PQ->Bool
 | .int _=>true
 | .none=>true
 | _=>false
noncomputable def sA(d lo hi:PQ):Prop:=match d with
 | .list ds=>ds.length<=16777216/\ml lo=true/\ml hi=true
 | .str x=>x.length<=16777216/\ml lo=true/\ml hi=true
 | _=>False
section
variable{prog:Qs}{w:Qq}{A:P0}{E:PN->PL->Prop}{s:PL}{O:PP->Prop}{va vb vc:PN}{da db dc:PQ}
theorem DQ{ds:List PQ}{k:Nat}{d:PQ}(h:ds[k]? = some d):ds.getD k .none=d:=by
 rw[aj,h];rfl
theorem DR(ra:bg O s.heap va da)(rb:Rep O s.heap vb db)(hp:pq da db) :
 PM (PO prog w) A (getItem va vb) (fun v s'=>PY s s'/\Rep O s'.heap v (mj da db)) E s:=by
 revert ra rb
 refine xi (P:=fun da db d=>bg O s.heap va da->Rep O s.heap vb db->PM (PO prog w) A (getItem va vb) (fun v s'=>PY s s'/\Rep O s'.heap v d) E s) hp (fun x i hp ra rb=>?_) (fun ds i hp ra rb=>?_) fun ds i hp ra rb=>?_
 ·cases rb with | int i t=>?_
  refine x11 ra.strIs fun u e1=>?_;subst e1
  have h1:=hp.1
  have h2:=hp.2.1
  have hlt:=sz hp
  have hlt':ca i x.length<x.cps.size:=hlt
  refine P.getItem_str (c:=x.cps.getD (ca i x.length) 0) (by simp;exact mi hp) ?_ ?_
  ·rw[xh hp]
   show x.cps[ca i x.length]? = _
   rw[Array.getD_eq_getD_getElem?,R8 hlt'];rfl
  ·exact⟨ay _ _,.str _ _⟩
 ·cases rb with | int i t=>?_
  refine x33 ra.listIs fun a vs n e3 h l=>?_;subst e3
  have e:=l.length
  rw[cQ]at e
  refine x12 (l.getD (i:=ca i ds.length) (d:=ds.getD (ca i ds.length) .none) (by rw[aj,br (sz hp)];rfl)) fun v hv r=>?_
  have hv':vs[ca i ds.length]? = some v:=by simpa using hv
  refine e8 hp fun h1 h2 h3 h4=>?_
  by_cases h0:i<0
  ·refine wpAny_getItem_list_neg h.isList h0 (by rw[e];exact h3) (mi hp).1 (x:=v) ?_ ⟨bz _,r⟩
   rw[e];unfold ca at hv';rwa [if_pos h0]at hv'
  ·refine wpAny_getItem_list h.isList (Int.not_lt.mp h0) (mi hp).2 (x:=v) ?_ ⟨bz _,r⟩
   unfold ca at hv';rwa [if_neg h0]at hv'
 ·cases rb with | int i t=>?_
  refine x33 ra.tupIs fun a vs n e3 h l=>?_;subst e3
  have e:=l.length
  rw[cQ]at e
  refine x12 (l.getD (i:=ca i ds.length) (d:=ds.getD (ca i ds.length) .none) (by rw[aj,br (sz hp)];rfl)) fun v hv r=>?_
  have hv':vs[ca i ds.length]? = some v:=by simpa using hv
  have h1:=hp.1
  have h2:=hp.2.1
  exact P.getItem_tuple h (mi hp).1 (mi hp).2 (by rw[e];exact xh hp) hv' ⟨bz _,r⟩
theorem RepL.cut(l:RepL O h vs ds)(lo hi:PQ):RepL O h (gc vs lo hi) (gc ds lo hi):=by
 unfold gc
 rw[l.length]
 exact(l.drop _).take _
theorem pr(r:Rep O s.heap v d)(h:ml d=true):IsPart v (part d)/\∃p:Option (Int × Tok),v=partValue p/\part d=p.map (·.1):=by
 cases d<;>first | exact absurd h Pl | skip
 ·cases r;exact⟨.none,none,rfl,rfl⟩
 ·cases r with | int i t=>exact⟨.int _ _,some (_,t),rfl,rfl⟩
theorem xj(n k:Nat):Ru n (k:Int)=min k n :=
 congrArg Int.toNat ((congrArg (fun z=>max (0:Int) (min z (n:Int))) (if_neg (Int.not_lt.mpr (rI k)))).trans ((congrArg (max (0:Int)) (Lean.Omega.Int.ofNat_min k n).symm).trans (Int.max_eq_right (rI _))))
theorem xk(n:Nat)(i:Int):Ru n i<=n :=
 Int.toNat_le.mpr (Int.max_le.mpr ⟨rI n,Int.min_le_right ..⟩)
theorem DS(lo hi:Option Int)(n:Nat):Builtin.Str.strSliceIndices lo hi 1 n=(ah (hi.elim n (Ru n) - lo.elim 0 (Ru n))).map (lo.elim 0 (Ru n) + ·):=by
 rw[<- sliceRange_one]
 cases lo<;>cases hi<;>simp[Builtin.Str.strSliceIndices,clipAt_cast]
theorem DT(x:Str)(lo hi:Option Int) :
 Txt.slice x lo hi=⟨((x.cps.toList.drop (lo.elim 0 (Ru x.length))).take (hi.elim x.length (Ru x.length) - lo.elim 0 (Ru x.length))).toArray⟩:=by
 have ha:lo.elim 0 (Ru x.length)<=x.length:=by cases lo<;>simp[xk]
 have hb:hi.elim x.length (Ru x.length)<=x.length:=by cases hi<;>simp[xk]
 unfold Txt.slice
 rw[DS,pick_run]
 split
 ·rename_i h
  simp only[ag,lU,beq_self_eq_true,Bool.true_and,beq_iff_eq]at h
  by_cases hn:x.length=0
  ·obtain⟨c⟩:=x
   have:c.size=0:=hn
   have:c=#[]:=Array.eq_empty_of_size_eq_zero this
   subst this;simp
  ·have h2:hi.elim x.length (Ru x.length)=x.length:=BN hb (aa (cH h.symm) (Nat.sub_le ..))
   have h1:lo.elim 0 (Ru x.length)=0:=Nat.eq_zero_of_not_pos fun q=>bl _ (oN (Nat.sub_lt (Nat.pos_of_ne_zero hn) q) (cH (h.symm.trans (by rw[h2]))))
   rw[h1,h2]
   obtain⟨c⟩:=x
   show _=Str.mk _
   congr 1
   have:c.toList.length=(Str.mk c).length:=by simp[Str.length]
   rw[List.drop_zero,Nat.sub_zero,<- this,wh]
 ·rfl
set_option tactic.hygienic true in
theorem xl{sl:PP}(hO:∀b,O b->b<s.heap.objs.size)(ra:bg O s.heap va da)(rb:Rep O s.heap vb db)(rc:Rep O s.heap vc dc)
 (hs:s.heap.get? sl=some { cls:=.type "slice",data:=.fields #[vb,vc,.none] }) (hp:sA da db dc) :
 PM (PO prog w) A (getItem va (.ref sl)) (fun v s'=>PY s s'/\Rep O s'.heap v (kz da db dc)) E s:=by
 cases da<;>first | exact False.elim hp | skip
 ·rename_i x
  refine x11 ra.strIs fun u e1=>?_;subst e1
  obtain⟨_,p,rfl,e1⟩:=pr rb hp.2.1
  obtain⟨_,q,rfl,e2⟩:=pr rc hp.2.2
  have hsl:s.heap.IsSlice sl p q none:=⟨_,hs,rfl,rfl⟩
  refine wpAny_getItem_str_slice hsl rfl ?_
  refine post_val_or_str ⟨aa (Txt.slice_le x _ _) hp.1,fun t' k=>⟨ay _ _,?_⟩⟩
  have:kz (.str x) db dc=.str (Txt.slice x (p.map (·.1)) (q.map (·.1))):=by
   rw[DT,<- e1,<- e2]
   have e:x.cps.toList.length=x.length:=by simp[Str.length]
   show QN ⟨(gc x.cps.toList db dc).toArray⟩=_
   unfold gc;rw[e]
  rw[this];exact .str _ _
 ·rename_i ds
  refine x33 ra.listIs fun a vs n e3 h l=>?_;subst e3
  have e:=l.length
  rw[cQ]at e
  refine wpAny_getItem_list_slice h.isList (lo:=part db) (hi:=part dc) (st:=none) ⟨_,hs,rfl,rfl⟩ (pr rb hp.2.1).1 (pr rc hp.2.2).1 .none (by simp) ?_ (by rw[e];exact hp.1)
  refine⟨bL _,.list (n:=0) (fun q=>bl _ (hO _ q)) (IsL.new _ _) ?_⟩
  rw[slicePick_plain]
  have:=(l.cut db dc).pushO (s:=s) { cls:=.type "list",data:=.seq (slicePick vs (part db) (part dc) none) }
  simpa[gc,slicePick_plain]using this
end
noncomputable def a8(A:P0)(h:Qk):Prop:=A.handled=none\/∃e o vs,A.handled=some (.ref e)/\h.get? e=some o/\o.data=.fields vs/\vs[2]? = some .none
theorem a8.keeps(x:a8 A s.heap)(k:PY s s'):a8 A s'.heap:=by
 rcases x with x | ⟨e,o,vs,h1,h2,r⟩
 ·exact .inl x
 ·exact .inr ⟨e,o,vs,h1,am k _ _ h2,r⟩
theorem a8.mono(x:a8 A h)(k:∀b o,h.get? b=some o->h'.get? b=some o):a8 A h':=by
 rcases x with x | ⟨e,o,vs,h1,h2,r⟩
 ·exact .inl x
 ·exact .inr ⟨e,o,vs,h1,k _ _ h2,r⟩
theorem DU:entryFor table "proto.unchain" = some QQ.«proto.unchain»:=entryFor_of_fast (by kernel_rfl)
section
variable{α:Type}{prog:Qs}{w:Qq}{A:P0}{E:PN->PL->Prop}{s:PL}
theorem DV{id:String}{args:Args}{b:QQ}{R:Result->PL->Prop}(hb:entryFor table id=some b)
 (h:PM (PO prog w) (A.under (.builtin id args)) (b args)
  (fun fin s'=>match fin with | .done f=>R (.ok f) s' | .again c'=>c'.quiet=true/\QW (PO prog w) A c' R s') (fun e s'=>R (.error e) s') s) :
 QW (PO prog w) A (.builtin id args) R s:=by
 refine codeAny_of_tree ?_
 show PM _ _ (match entryFor table id with | some b=>b args | none=>unsupported ((withoutEnding? id "#data").getD id)) _ _ s
 rw[hb];exact h
theorem DW{e e₀:PP}(h1:s.heap.get? e₀=some o)(h2:o.data=.fields vs)(h3:vs[2]? = some .none)(h:Q .none s) :
 PM (PO prog w) A (runValue (.builtin "proto.unchain" ⟨[.ref e,.ref e₀,.ref e₀,.bool false],[]⟩)) Q E s:=by
 refine wpAny_runValue (DV DU ?_)
 unfold QQ.«proto.unchain»
 dsimp only
 refine PK (QO h1 h2 h3 ?_)
 rw[if_pos (show(QB==QB)=true from rfl)]
 exact PU h
theorem xm{Q:α->PL->Prop}(hh:a8 A s.heap)(he:s.heap.get? e=some oe)(hd:oe.data=.fields ve)(hsz:2<ve.size)
 (hne:∀e₀,A.handled=some (.ref e₀)->e₀≠e)
 (h:∀h' o' ve',QM e s.heap h'->h'.get? e=some o'->o'.cls=oe.cls->o'.data=.fields ve'->ve'.size=ve.size->(∀i,i≠2->ve'[i]? = ve[i]?)->E (.ref e) { s with heap:=h' }) :
 PM (PO prog w) A (raiseNew (.ref e):Sem α) Q E s:=by
 unfold raiseNew
 refine PK (wpAny_handled ?_)
 rcases hh with hh | ⟨e₀,o,vs,hh,h1,h2,h3⟩
 ·rw[hh]
  refine PK (PU (wpAny_throw ?_))
  exact h s.heap oe ve (.refl ..) he rfl hd rfl fun U U=>rfl
 ·rw[hh]
  have hne':(Qd e₀ != Qd e)=true:=by
   have:=hne e₀ hh
   rw[bne_iff_ne];intro q;cases q;exact this rfl
  dsimp only
  rw[if_pos hne']
  refine PK (Qj (DW h1 h2 h3 (PK ?_)))
  unfold updateField
  refine PK (wpAny_load he ?_)
  rw[hd]
  dsimp only
  rw[if_pos hsz]
  refine wpAny_update he (wpAny_throw ?_)
  refine h _ _ _ (Qr ..) (Rq _ he (RV (Ro hd _))) (Obj.cls_mapFields ..) (Ro hd _) (by simp) fun i hi=>?_
  rw[Array.getElem?_setIfInBounds]
  rw[if_neg (QE hi)]
theorem kA{Q0:α->PL->Prop}(hh:a8 A' s.heap)(h:∀h',(∀b o,s.heap.get? b=some o->h'.get? b=some o)->R none { s with heap:=h' }) :
 PM (PO prog w) A' (newExc (.type "StopIteration") [] >>= fun e=>(raiseNew e:Sem α)) Q0
  (fun e s'=>PM (PO prog w) A (do if <- isInstance e (.type "StopIteration")then pure (none:Option PN)else throw e) R E s') s:=by
 refine PK ?_
 simp only[newExc,newTuple]
 refine PK (Q2 ?_ (by size_fits))
 refine PK (m:=firstArgMember _ _) (RS (a:=QB) (by first | rfl | (simp only[firstArgMember];rfl)) ?_)
 refine Q2 ?_ (by size_fits)
 refine xm (hh.mono fun b o e=>PX _ (PX _ e)) (PZ _ rfl) rfl (by simp;lia) ?_ ?_
 ·intro e₀ he q
  rcases hh with hh | ⟨e1,o,vs,hh,h1,_⟩
  ·rw[hh]at he;cases he
  ·rw[hh]at he;cases he
   rw[QF]at q
   exact dT (ei (Qe h1)) q
 ·intro h' o' ve' hs ho hc hd hz _
  refine PK (wpAny_isInstance (T:= "StopIteration") (b:=true) ⟨_,ho,hc⟩ isSubtype_stop ?_)
  refine PU (h h' fun b o e=>?_)
  refine(hs.2 b ?_).trans (PX _ (PX _ e))
  rw[QF]
  exact dT (ei (Qe e))
theorem a8.upd(x:a8 A h)(hne:∀e,A.handled=some (.ref e)->e≠a):a8 A (h.update a f):=by
 rcases x with x | ⟨e,o,vs,h1,h2,r⟩
 ·exact .inl x
 ·exact .inr ⟨e,o,vs,h1,(Heap.get?_update_other h f (QE (hne e h1))).trans h2,r⟩
noncomputable def hfp(A:P0):List PP:=match A.handled with
 | some (.ref e)=>[e]
 | _=>[]
theorem mo(h:a∉hfp A):∀e,A.handled=some (.ref e)->e≠a:=by
 intro e he q
 apply h
 unfold hfp
 rw[he]
 simp[q]
theorem a8.frame(x:a8 A h)(k:∀b∈hfp A,∀o,h.get? b=some o->h'.get? b=some o):a8 A h':=by
 rcases x with x | ⟨e,o,vs,h1,h2,r⟩
 ·exact .inl x
 ·exact .inr ⟨e,o,vs,h1,k e (by unfold hfp;rw[h1];simp) o h2,r⟩
theorem a8.at(x:a8 A h)(hne:a∉hfp A)(k:Qy a h h'):a8 A h' :=
 x.frame fun b hb o e=>k b o (fun q=>hne (q▸hb)) e
theorem DX{it l:PP}{i:Nat}{items:Array PN}{Q:Option PN->PL->Prop}(hh:a8 A s.heap)(hne:it∉hfp A)
 (hit:s.heap.IsListIter it l i) (hl:s.heap.IsList l items) (hx:items[i]? = none)
 (hQ:∀h',Qy it s.heap h'->Q none { s with heap:=h' }):PM (PO prog w) A (pyNext (.ref it)) Q E s:=by
 refine x13 (id hit) fun o ho hc hd=>?_
 obtain⟨ol,hol,_,nl,hdl⟩:=hl
 unfold pyNext
 refine PK (RG (Q8 (name:=ofString "__next__") hit.typeIs slot_listiter_next
  (RC slot_listiter_next hit.typeIs entry_listiter_next ?_ (args_listiter_next _))))
 show PM _ _ (field (.ref it) 0 >>= _) _ _ s
 refine PK (QO ho hd (x:=.ref l) rfl ?_)
 show PM _ _ (if(Qd l==QB)=true then _ else _) _ _ s
 rw[if_neg (show ¬((Qd l==QB)=true)from Pl)]
 show PM _ _ (field (.ref it) 1 >>= _) _ _ s
 refine PK (QO ho hd (x:=.int i 0) rfl ?_)
 show PM _ _ (seqItems? (.ref l) >>= _) _ _ s
 refine PK (wpAny_seqItems hol hdl ?_)
 simp only[lV,hx]
 refine PK (R2 (PK (Rj ho hd (by simp) ?_)))
 exact kA (A':=A.in1) (hh.upd (mo hne)) fun h' hk=>hQ h' fun b o hb e=>hk b o ((Qr ..).extBut b o hb e)
theorem DY{it l:PP}{i:Nat}{items:Array PN}{Q:Option PN->PL->Prop}(hh:a8 A s.heap)(hne:it∉hfp A)
 (hit:s.heap.IsTupleIter it l i) (hl:s.heap.IsTuple l items) (hx:items[i]? = none)
 (hQ:∀h',Qy it s.heap h'->Q none { s with heap:=h' }):PM (PO prog w) A (pyNext (.ref it)) Q E s:=by
 refine x13 (id hit) fun o ho hc hd=>?_
 obtain⟨ol,hol,_,nl,hdl⟩:=hl
 unfold pyNext
 refine PK (RG (Q8 (name:=ofString "__next__") hit.typeIs F.slot_tuple_iterator_next
  (RC F.slot_tuple_iterator_next hit.typeIs F.entry_tuple_iterator_next ?_ (F.args_tuple_iterator_next_1 _))))
 show PM _ _ (field (.ref it) 0 >>= _) _ _ s
 refine PK (QO ho hd (x:=.ref l) rfl ?_)
 show PM _ _ (if(Qd l==QB)=true then _ else _) _ _ s
 rw[if_neg (show ¬((Qd l==QB)=true)from Pl)]
 show PM _ _ (field (.ref it) 1 >>= _) _ _ s
 refine PK (QO ho hd (x:=.int i 0) rfl ?_)
 show PM _ _ (seqItems? (.ref l) >>= _) _ _ s
 refine PK (wpAny_seqItems hol hdl ?_)
 simp only[lV,hx]
 refine PK (R2 (PK (Rj ho hd (by simp) ?_)))
 exact kA (A':=A.in1) (hh.upd (mo hne)) fun h' hk=>hQ h' fun b o hb e=>hk b o ((Qr ..).extBut b o hb e)
theorem DZ{it:PP}{x left step:Int}{Q:Option PN->PL->Prop}(hh:a8 A s.heap)(hit:IsRangeIter s.heap it x left step)(hleft:left<=0)
 (hQ:∀h',Qy it s.heap h'->Q none { s with heap:=h' }):PM (PO prog w) A (pyNext (.ref it)) Q E s:=by
 have hT:s.TypeIs (.ref it) "range_iterator":=⟨_,hit,rfl⟩
 unfold pyNext
 refine PK (RG (Q8 (name:=ofString "__next__") hT F.slot_range_iterator_next
  (RC F.slot_range_iterator_next hT F.entry_range_iterator_next ?_ (F.args_range_iterator_next_1 _))))
 show PM _ _ (field (.ref it) 0 >>= _) _ _ s
 refine PK (QO hit rfl (x:=rawInt x) rfl ?_)
 show PM _ _ (field (.ref it) 1 >>= _) _ _ s
 refine PK (QO hit rfl (x:=rawInt left) rfl ?_)
 show PM _ _ (field (.ref it) 2 >>= _) _ _ s
 refine PK (QO hit rfl (x:=rawInt step) rfl ?_)
 show PM _ _ (if left<=0 then _ else _) _ _ s
 rw[if_pos hleft]
 refine PK (R2 ?_)
 refine PK ?_
 exact kA (A':=A.in1) hh fun h' hk=>hQ h' fun b o U e=>hk b o e
theorem D0{x:Str}{t:Tok}{i:Nat}{Q:Option PN->PL->Prop}(hh:a8 A s.heap)(hne:it∉hfp A)
 (hit:s.heap.IsStrIter it "str_ascii_iterator" x t i) (hx:x.cps[i]? = none)
 (hQ:∀h',Qy it s.heap h'->Q none { s with heap:=h' }):PM (PO prog w) A (pyNext (.ref it)) Q E s:=by
 refine x13 (id hit) fun o ho hc hd=>?_
 unfold pyNext
 refine PK (RG (Q8 (name:=ofString "__next__") hit.typeIs F.slot_str_ascii_iterator_next
  (RC F.slot_str_ascii_iterator_next hit.typeIs F.entry_str_ascii_iterator_next ?_ (F.args_str_ascii_iterator_next_1 _))))
 show PM _ _ (field (.ref it) 0 >>= _) _ _ s
 refine PK (QO ho hd (x:=.str x t) rfl ?_)
 show PM _ _ (field (.ref it) 1 >>= _) _ _ s
 refine PK (QO ho hd (x:=.int i 0) rfl ?_)
 simp only[lV,hx]
 refine PK (R2 (PK (Rj ho hd (by simp) (PK (wpAny_letGo ?_)))))
 exact kA (A':=A.in1) (hh.upd (mo hne)) fun h' hk=>hQ h' fun b o hb e=>hk b o ((Qr ..).extBut b o hb e)
end
section
variable{prog:Qs}{w:Qq}{A:P0}{E:PN->PL->Prop}{s:PL}{O:PP->Prop}
theorem D1{h h':Qk}{a l:PP}{i:Nat}(x:h.IsListIter a l i)(e:∀o,h.get? a=some o->h'.get? a=some o):h'.IsListIter a l i :=
 x.elim fun o ζ=>ζ.elim fun ho r=>⟨o,e _ ho,r⟩
theorem xo{h h':Qk}{a:PP}{its:Array PN}(x:h.IsList a its)(e:∀o,h.get? a=some o->h'.get? a=some o):h'.IsList a its :=
 x.elim fun o ζ=>ζ.elim fun ho r=>⟨o,e _ ho,r⟩
theorem pt{h h':Qk}{a:PP}{its:Array PN}(x:h.IsTuple a its)(e:∀o,h.get? a=some o->h'.get? a=some o):h'.IsTuple a its :=
 x.elim fun o ζ=>ζ.elim fun ho r=>⟨o,e _ ho,r⟩
theorem D4{h h':Qk}{a l:PP}{i:Nat}(x:h.IsTupleIter a l i)(e:∀o,h.get? a=some o->h'.get? a=some o):h'.IsTupleIter a l i :=
 x.elim fun o ζ=>ζ.elim fun ho r=>⟨o,e _ ho,r⟩
theorem D5{h h':Qk}{a:PP}{T:String}{x:Str}{t:Tok}{i:Nat}(y:h.IsStrIter a T x t i)(e:∀o,h.get? a=some o->h'.get? a=some o):h'.IsStrIter a T x t i :=
 y.elim fun o ζ=>ζ.elim fun ho r=>⟨o,e _ ho,r⟩
theorem D6(I ax:PP)(hne:ax≠I)(hI:I∉hfp A)(items:Array PN) :
 Walks prog w A I (I::ax::hfp A) [I] items.size (fun i v=>items[i]? = some v) (fun i h=>(h.IsListIter I ax i/\h.IsList ax items)/\a8 A h) where
 sub:=fun b hb=>by simp at hb;simp[hb]
 frame:=fun U U U st hk=>⟨⟨D1 st.1.1 fun o e=>hk I (by simp) o e,xo st.1.2 fun o e=>hk ax (by simp) o e⟩,st.2.frame fun b hb o e=>hk b (by simp[hb]) o e⟩
 item:=fun i s Q E hi st hQ=>by
  refine wpAny_pyNext_list_item st.1.1 st.1.2 (x:=items[i]) (by simp[hi]) fun h' hit' hs'=>?_
  exact hQ _ h' s.toks (by simp[hi]) ⟨⟨hit',xo st.1.2 fun o e=>hs'.extBut _ _ hne e⟩,st.2.at hI hs'.extBut⟩ fun b o hb e=>hs'.extBut b o (fun h=>hb (by simp[h])) e
 done:=fun s Q E st hQ=>DX st.2 hI st.1.1 st.1.2 (by simp) fun h' he'=>hQ h' s.toks fun b o hb e=>he' b o (fun h=>hb (by simp[h])) e
 self:=fun U U U U st hQ=>wpAny_pyIter_listiter st.1.1 hQ
theorem xq(I ax:PP)(hne:ax≠I)(hI:I∉hfp A)(items:Array PN) :
 Walks prog w A I (I::ax::hfp A) [I] items.size (fun i v=>items[i]? = some v) (fun i h=>(h.IsTupleIter I ax i/\h.IsTuple ax items)/\a8 A h) where
 sub:=fun b hb=>by simp at hb;simp[hb]
 frame:=fun U U U st hk=>⟨⟨D4 st.1.1 fun o e=>hk I (by simp) o e,pt st.1.2 fun o e=>hk ax (by simp) o e⟩,st.2.frame fun b hb o e=>hk b (by simp[hb]) o e⟩
 item:=fun i s Q E hi st hQ=>by
  refine wpAny_pyNext_tuple_item st.1.1 st.1.2 (x:=items[i]) (by simp[hi]) fun h' hit' hs'=>?_
  exact hQ _ h' s.toks (by simp[hi]) ⟨⟨hit',pt st.1.2 fun o e=>hs'.extBut _ _ hne e⟩,st.2.at hI hs'.extBut⟩ fun b o hb e=>hs'.extBut b o (fun h=>hb (by simp[h])) e
 done:=fun s Q E st hQ=>DY st.2 hI st.1.1 st.1.2 (by simp) fun h' he'=>hQ h' s.toks fun b o hb e=>he' b o (fun h=>hb (by simp[h])) e
 self:=fun U U U U st hQ=>wpAny_pyIter_tupleiter st.1.1 hQ
theorem D7(I:PP)(hI:I∉hfp A)(a:Int)(n:Nat) :
 Walks prog w A I (I::hfp A) [I] n (fun i v=>∃t,v=.int (a+i) t) (fun i h=>IsRangeIter h I (a+(i:Nat)) ((n:Int) - (i:Nat)) 1/\a8 A h) where
 sub:=fun b hb=>by simp at hb;simp[hb]
 frame:=fun U U U st hk=>⟨hk I ak _ st.1,st.2.frame fun b hb o e=>hk b (by simp[hb]) o e⟩
 item:=fun i s Q E hi st hQ=>by
  refine wpAny_pyNext_range_item st.1 (by lia) fun h' hit' hs'=>?_
  refine hQ _ h' _ ⟨_,rfl⟩ ⟨?_,st.2.at hI hs'.extBut⟩ fun b o hb e=>hs'.extBut b o (fun h=>hb (by simp[h])) e
  have e1:a+((i+1:Nat):Int)=a+(i:Int)+1:=(Int.add_assoc a i 1).symm
  have e2:(n:Int) - ((i+1:Nat):Int)=(n:Int) - (i:Int) - 1:=Int.sub_sub (n:Int) i 1 |>.symm
  rw[e1,e2];exact hit'
 done:=fun s Q E st hQ=>DZ st.2 st.1 (by lia) fun h' he'=>hQ h' s.toks fun b o hb e=>he' b o (fun h=>hb (by simp[h])) e
 self:=fun U U U U st hQ=>wpAny_pyIter_rangeiter st.1 hQ
theorem D8(I:PP)(hI:I∉hfp A)(x:Str)(t:Tok) :
 Walks prog w A I (I::hfp A) [I] x.cps.size (SignAt x) (fun i h=>h.IsStrIter I "str_ascii_iterator" x t i/\a8 A h) where
 sub:=fun b hb=>by simp at hb;simp[hb]
 frame:=fun U U U st hk=>⟨D5 st.1 fun o e=>hk I ak o e,st.2.frame fun b hb o e=>hk b (by simp[hb]) o e⟩
 item:=fun i s Q E hi st hQ=>by
  refine wpAny_pyNext_ascii_item st.1 (c:=x.cps[i]) (by simp[hi]) fun h' hit' hs'=>?_
  exact hQ _ h' (s.toks+1) ⟨_,_,by simp[hi],rfl⟩ ⟨hit',st.2.at hI hs'.extBut⟩ fun b o hb e=>hs'.extBut b o (fun h=>hb (by simp[h])) e
 done:=fun s Q E st hQ=>D0 st.2 hI st.1 (by simp) fun h' he'=>hQ h' s.toks fun b o hb e=>he' b o (fun h=>hb (by simp[h])) e
 self:=fun U U U U st hQ=>wpAny_pyIter_striter_ascii st.1 hQ
noncomputable def i5(T:String):Bool:=!(["enumerate", "zip", "dict_itemiterator", "dict_reverseitemiterator", "odict_iterator", "itertools.zip_longest", "itertools.pairwise"].contains T)
set_option tactic.hygienic true in
theorem mq{M:Model}{target:Expr}{v:PN}(ho:s.heap.get? I=some o)(hc:o.cls=.type T)(hT:i5 T=true)(h:Q () s) :
 PM M A (letOwnedTupleGo target (.ref I) v) Q E s:=by
 have key:PM M A (do
  let(.ref r,.ref a):=(Qd I,v) | return
  let o <- load r
  match o.cls,o.data with
  | .type n,.fields vs =>
   if["enumerate", "zip", "dict_itemiterator", "dict_reverseitemiterator", "odict_iterator", "itertools.zip_longest", "itertools.pairwise"].contains n&&vs[0]? == some (rawInt a)then
    rule "for.unpacks-the-owned-tuple"
    updateField r 0 .none
  | _,_=>pure ()) Q E s:=by
  cases v
  case ref a =>
   refine PK (wpAny_load ho ?_)
   obtain⟨c,d,dt,sl⟩:=o
   dsimp only at hc
   subst hc
   unfold i5 at hT
   rw[jx]at hT
   cases dt
   case fields vs =>
    dsimp only
    rw[hT,Bool.false_and,if_neg Pl]
    exact PU h
   all_goals exact PU h
  all_goals exact PU h
 unfold letOwnedTupleGo
 cases target<;>first | exact key | exact PU h
inductive ItIs(prog:Qs)(w:Qq)(A:P0)(O:PP->Prop)(F:Prop)(h₀:Qk)(h:Qk)(it:PN)(ds:List PQ):Prop where
 | mk (I:PP) (fp wr:List PP) (P:Nat->PN->Prop) (St:Nat->Qk->Prop) (e:it=.ref I) (W:Walks prog w A I fp wr ds.length P St) (st:St 0 h) (fe:∀b∈fp,∃o,h.get? b=some o) (wr':wr=[I]/\h₀.get? I=none) (fO:F->∀b∈fp,¬O b)
  (i5:∀i h',St i h'->∃o T,h'.get? I=some o/\o.cls=.type T/\i5 T=true) (mem:I∈fp)
  (item:∀i v,P i v->∃d,ds[i]? = some d/\∀h',(∀b o,¬O b->h₀.get? b=some o->h'.get? b=some o)->Rep O h' v d):ItIs prog w A O F h₀ h it ds
theorem xr{h₀:Qk}{I:PP}{wr:List PP}(h:wr=[I]/\h₀.get? I=none):∀b∈wr,h₀.get? b=none:=fun b hb=>by
 rw[h.1]at hb
 rw[ai.mp hb];exact h.2
structure Okay(A:P0)(O:PP->Prop)(s:PL):Prop where
 hok:a8 A s.heap
 hno:∀b∈hfp A,¬O b
 obs:∀b,O b->∃o,s.heap.get? b=some o
theorem Okay.ob(ok:Okay A O s):∀b,O b->b<s.heap.objs.size:=fun b hb=>(ok.obs b hb).elim fun U h=>Qe h
theorem a8.there(x:a8 A h):∀b∈hfp A,∃o,h.get? b=some o:=by
 intro b hb
 rcases x with x | ⟨e,o,vs,h1,h2,_⟩
 ·unfold hfp at hb;rw[x]at hb;cases hb
 ·unfold hfp at hb;rw[h1]at hb
  rw[ai.mp hb];exact⟨o,h2⟩
theorem Okay.hlt(ok:Okay A O s):∀b∈hfp A,b<s.heap.objs.size:=fun b hb=>(ok.hok.there b hb).elim fun U h=>Qe h
theorem Okay.keeps(ok:Okay A O s)(k:PY s s'):Okay A O s':=⟨ok.hok.keeps k,ok.hno,fun b hb=>(ok.obs b hb).elim fun o h=>⟨o,am k _ _ h⟩⟩
theorem sC{Q:PN->PL->Prop}(ok:Okay A O s)(r:bg O s.heap v (.list ds))
 (h:∀it s',PY s s'->ItIs prog w A O (Rep O s.heap v (.list ds)) s.heap s'.heap it ds->Q it s'):PM (PO prog w) A (pyIter v) Q E s:=by
 refine x33 r.listIs fun a vs n e3 hl l=>?_;subst e3
 have e:=l.length
 rw[cQ]at e
 refine wpAny_pyIter_list hl.isList (h _ _ (bL _) ?_)
 have ha:=Qe hl
 have hI:s.heap.objs.size∉hfp A:=fun q=>bl _ (ok.hlt _ q)
 have W:=D6 (prog:=prog) (w:=w) (A:=A) s.heap.objs.size a (dT ha) hI vs
 rw[e]at W
 refine⟨_,_,_,_,_,rfl,W,⟨⟨⟨_,PZ _ rfl,rfl,rfl⟩,hl.isList.push _⟩,ok.hok.mono fun b o e=>PX _ e⟩,?_,?_,?_,?_,?_,?_⟩
 ·intro b hb
  rcases ae.mp hb with rfl | hb
  ·exact⟨_,PZ _ rfl⟩
  rcases ae.mp hb with rfl | hb
  ·exact⟨_,PX _ hl⟩
  ·refine x11 (ok.hok.there _ hb) fun o e=>?_
   exact⟨o,PX _ e⟩
 ·exact⟨rfl,QX (aN _)⟩
 ·intro hr b hb
  rcases ae.mp hb with rfl | hb
  ·exact fun q=>bl _ (ok.ob _ q)
  rcases ae.mp hb with rfl | hb
  ·cases hr with | list nn _ _=>exact nn
  ·exact ok.hno _ hb
 ·rintro i h' ⟨⟨⟨o,ho,hc,_⟩,_⟩,_⟩
  exact⟨o,_,ho,hc,by decide⟩
 ·exact ak
 ·intro i x hx
  refine x12 (l.get (i:=i) (v:=x) (by simpa using hx)) fun d hd r=>?_
  exact⟨d,hd,fun h' hk=>r.mono hk fun U U U q=>q⟩
theorem sD{Q:PN->PL->Prop}(ok:Okay A O s)(r:bg O s.heap v (.tuple ds))
 (h:∀it s',PY s s'->ItIs prog w A O (Rep O s.heap v (.tuple ds)) s.heap s'.heap it ds->Q it s'):PM (PO prog w) A (pyIter v) Q E s:=by
 refine x33 r.tupIs fun a vs n e3 hl l=>?_;subst e3
 have e:=l.length
 rw[cQ]at e
 have hlT:s.heap.IsTuple a vs:=⟨_,hl,rfl,n,rfl⟩
 refine wpAny_pyIter_tuple hlT (h _ _ (bL _) ?_)
 have ha:=Qe hl
 have hI:s.heap.objs.size∉hfp A:=fun q=>bl _ (ok.hlt _ q)
 have W:=xq (prog:=prog) (w:=w) (A:=A) s.heap.objs.size a (dT ha) hI vs
 rw[e]at W
 refine⟨_,_,_,_,_,rfl,W,⟨⟨⟨_,PZ _ rfl,rfl,rfl⟩,pt hlT fun o e=>PX _ e⟩,ok.hok.mono fun b o e=>PX _ e⟩,?_,?_,?_,?_,?_,?_⟩
 ·intro b hb
  rcases ae.mp hb with rfl | hb
  ·exact⟨_,PZ _ rfl⟩
  rcases ae.mp hb with rfl | hb
  ·exact⟨_,PX _ hl⟩
  ·refine x11 (ok.hok.there _ hb) fun o e=>?_
   exact⟨o,PX _ e⟩
 ·exact⟨rfl,QX (aN _)⟩
 ·intro hr b hb
  rcases ae.mp hb with rfl | hb
  ·exact fun q=>bl _ (ok.ob _ q)
  rcases ae.mp hb with rfl | hb
  ·cases hr with | tuple nn _ _=>exact nn
  ·exact ok.hno _ hb
 ·rintro i h' ⟨⟨⟨o,ho,hc,_⟩,_⟩,_⟩
  exact⟨o,_,ho,hc,by decide⟩
 ·exact ak
 ·intro i x hx
  refine x12 (l.get (i:=i) (v:=x) (by simpa using hx)) fun d hd r=>?_
  exact⟨d,hd,fun h' hk=>r.mono hk fun U U U q=>q⟩
noncomputable def mr(x:Str):List PQ:=x.cps.toList.map fun c=>.str ⟨#[c]⟩
theorem D9{t:Tok}{Q:PN->PL->Prop}(ok:Okay A O s)(hx:x.cps.all (· < 128)=true)
 (h:∀it s',PY s s'->ItIs prog w A O True s.heap s'.heap it (mr x)->Q it s'):PM (PO prog w) A (pyIter (.str x t)) Q E s:=by
 refine wpAny_pyIter_ascii hx (h _ _ (bL _) ?_)
 have hI:s.heap.objs.size∉hfp A:=fun q=>bl _ (ok.hlt _ q)
 have W:=D8 (prog:=prog) (w:=w) (A:=A) s.heap.objs.size hI x t
 have e:x.cps.size=(mr x).length:=by simp[mr]
 rw[e]at W
 refine⟨_,_,_,_,_,rfl,W,⟨⟨_,PZ _ rfl,rfl,rfl⟩,ok.hok.mono fun b o e=>PX _ e⟩,?_,?_,?_,?_,?_,?_⟩
 ·intro b hb
  rcases ae.mp hb with rfl | hb
  ·exact⟨_,PZ _ rfl⟩
  ·refine x11 (ok.hok.there _ hb) fun o e=>?_
   exact⟨o,PX _ e⟩
 ·exact⟨rfl,QX (aN _)⟩
 ·intro _ b hb
  rcases ae.mp hb with rfl | hb
  ·exact fun q=>bl _ (ok.ob _ q)
  ·exact ok.hno _ hb
 ·rintro i h' ⟨⟨o,ho,hc,_⟩,_⟩
  exact⟨o,_,ho,hc,by decide⟩
 ·exact ak
 ·rintro i _ ⟨c,u,hc,rfl⟩
  exact⟨.str ⟨#[c]⟩,by simp[mr,hc],fun U U=>.str _ _⟩
noncomputable def gG(a:Int)(n:Nat):List PQ:=(ah n).map fun i:Nat=>.int (a+(i:Int))
theorem xt{Q:PN->PL->Prop}(ok:Okay A O s)(hr:IsRange s.heap r a b 1 t u v)(ha : -1000000000<=a/\a<=1000000000)(hb : -1000000000<=b/\b<=1000000000)
 (h:∀it s',PY s s'->ItIs prog w A O True s.heap s'.heap it (gG a (b - a).toNat)->Q it s'):PM (PO prog w) A (pyIter (.ref r)) Q E s:=by
 refine wpAny_pyIter_range hr (small_one (Int.le_trans (by decide:(-(2 ^ 62):Int)<=-1000000000) ha.1) (Int.lt_of_le_of_lt ha.2 (by decide:(1000000000:Int)<2 ^ 62)) (Int.le_trans (by decide:(-(2 ^ 62):Int)<=-1000000000) hb.1) (Int.lt_of_le_of_lt hb.2 (by decide:(1000000000:Int)<2 ^ 62))) (h _ _ (bL _) ?_)
 have hI:s.heap.objs.size∉hfp A:=fun q=>bl _ (ok.hlt _ q)
 have W:=(D7 (prog:=prog) (w:=w) (A:=A) s.heap.objs.size hI a (b - a).toNat).bound
 have e:(b - a).toNat=(gG a (b - a).toNat).length:=by simp[gG]
 have e2:Builtin.Range.rangeSize a b 1=(((b - a).toNat:Nat):Int) - ((0:Nat):Int):=by
  rw[rangeSize_one];split<;>lia
 rw[e2]
 have W':Walks prog w A s.heap.objs.size (s.heap.objs.size::hfp A) [s.heap.objs.size] (gG a (b - a).toNat).length (fun i v=>i<(b - a).toNat/\∃t,v=.int (a+i) t)
  (fun i h=>IsRangeIter h s.heap.objs.size (a+(i:Nat)) (((b - a).toNat:Int) - (i:Nat)) 1/\a8 A h):=by rw[<- e];exact W
 refine⟨_,_,_,_,_,rfl,W',⟨?_,ok.hok.mono fun b o e=>PX _ e⟩,?_,?_,?_,?_,?_,?_⟩
 ·have:a+((0:Nat):Int)=a:=Int.add_zero a
  rw[this]
  exact PZ _ rfl
 ·intro b hb
  rcases ae.mp hb with rfl | hb
  ·exact⟨_,PZ _ rfl⟩
  ·refine x11 (ok.hok.there _ hb) fun o e=>?_
   exact⟨o,PX _ e⟩
 ·exact⟨rfl,QX (aN _)⟩
 ·intro _ b hb
  rcases ae.mp hb with rfl | hb
  ·exact fun q=>bl _ (ok.ob _ q)
  ·exact ok.hno _ hb
 ·rintro i h' ⟨hi,_⟩
  exact⟨_,_,hi,rfl,by decide⟩
 ·exact ak
 ·rintro i _ ⟨hi,t,rfl⟩
  exact⟨.int (a+i),by simp[gG,hi],fun U U=>.int _ _⟩
end
noncomputable def bM:PQ->Int
 | .int i=>i
 | _=>0
noncomputable def cJ:PQ->Str
 | .str x=>x
 | _=>Q4
noncomputable def cz:PQ->List PQ
 | .list ds=>ds
 | .tuple ds=>ds
 | _=>[]
noncomputable def isInt:PQ->Bool
 | .int _=>true
 | _=>false
noncomputable def isStr:PQ->Bool
 | .str _=>true
 | _=>false
section
variable{prog:Qs}{w:Qq}{A:P0}{E:PN->PL->Prop}{s:PL}{O:PP->Prop}{va vb vc:PN}{da db dc:PQ}
noncomputable def sE:PQ->Prop
 | .list ds=>ds.length<=16777216
 | .tuple ds=>ds.length<=16777216
 | .str x=>x.length<=16777216
 | _=>False
theorem xu(ra:bg O s.heap va da)(hp:sE da):PM (PO prog w) A (call (.builtin "len") [va]) (PV O s (.int (i4 da))) E s:=by
 cases da<;>first | exact False.elim hp | change _<=_ at hp
 ·refine x11 ra.strIs fun u e1=>?_;subst e1
  exact P.len_str (by lia) ⟨ay _ _,.int _ _⟩
 ·refine x33 ra.listIs fun a vs n e3 h l=>?_;subst e3
  have e:=l.length
  rw[cQ]at e
  refine len_list h.isList (by rw[e];lia) ⟨ay _ _,?_⟩
  rw[e];exact .int _ _
 ·refine x33 ra.tupIs fun a vs n e3 h l=>?_;subst e3
  have e:=l.length
  rw[cQ]at e
  refine P.len_tuple h (by rw[e];lia) ⟨ay _ _,?_⟩
  rw[e];exact .int _ _
theorem Okay.in1(ok:Okay A O s):Okay A.in1 O s:=⟨ok.hok,ok.hno,ok.obs⟩
noncomputable def sF(ds:List PQ):Prop:=ds.length<=1000000/\∀d∈ds,isInt d=true/\-1000000000000<=bM d/\bM d<=1000000000000
theorem xv{val:Nat->Int}{n:Nat}(h:∀i,i<n->-1000000000000<=val i/\val i<=1000000000000):∀j,j<=n->-1000000000000 * (j:Int)<=preSum val j/\preSum val j<=1000000000000 * (j:Int)
 | 0,_=>by simp[preSum]
 | j+1,hj=>by
  have:=xv h j (by lia)
  have h2:=h j (by lia)
  simp only[preSum]
  push_cast
  lia
theorem xw(ds:List PQ):∀j,j<=ds.length->preSum (fun i=>bM (ds.getD i .none)) j=((ds.take j).map bM).sum
 | 0,_=>by simp[preSum]
 | j+1,hj=>by
  rw[preSum,xw ds j (by lia),List.take_add_one,oG,List.sum_append]
  have:ds[j]? = some (ds.getD j .none):=by rw[aj,br (by lia)];rfl
  rw[this];simp
theorem Ea{ds:List PQ}(hp:∀d∈ds,isInt d=true){i:Nat}{d:PQ}(h:ds[i]? = some d):d=.int (bM (ds.getD i .none)):=by
 rw[DQ h]
 have:=hp d (aG h)
 cases d<;>first | exact absurd this Pl | skip
 rfl
theorem gd{h:Qk}{v:PN}{i:Int}(r:Rep O h v (.int i)):∃t,v=.int i t:=by cases r;exact⟨_,rfl⟩
theorem xx{s s':PL}{wr:List PP}{h':Qk}{tk:Nat}(k:PY s s')(hwr:∀b∈wr,s.heap.get? b=none)(hk:∀b o,b∉wr->s'.heap.get? b=some o->h'.get? b=some o) :
 PY s { s' with heap:=h',toks:=tk }:=by
 obtain⟨h1,t1,rfl,k⟩:=k
 exact⟨h',tk,rfl,fun b o e=>hk b o (fun q=>by rw[hwr b q]at e;cases e) (k b o e)⟩
theorem Ec{ds:List PQ}(ok:Okay A O s)(ra:bg O s.heap va (.list ds))(hp:sF ds) :
 PM (PO prog w) A (call (.builtin "sum") [va]) (PV O s (.int (ds.map bM).sum)) E s:=by
 refine call_sum_walk (sC ok.in1 ra fun it s' k hi=>?_)
 obtain⟨I,fp,wr,P,St,rfl,W,hst,hfp,hwr,_,_,_,hit⟩:=hi
 replace hwr:=xr hwr
 replace hfp:∀b∈fp,b<s'.heap.objs.size:=fun b hb=>(hfp b hb).elim fun U e=>Qe e
 have hb:∀i,i<ds.length->-1000000000000<=bM (ds.getD i .none)/\bM (ds.getD i .none)<=1000000000000:=fun i hi=>by
  have:=(hp.2 (ds.getD i .none) (by rw[aj,br hi];exact PF hi)).2
  exact this
 refine⟨I,fp,wr,ds.length,P,St,fun i=>bM (ds.getD i .none),rfl,W,hst,hfp,fun i v hv=>?_,fun j hj=>?_,fun h' tk t' hk=>?_⟩
 ·refine x12 (hit i v hv) fun d hd r=>?_
  have:=r s'.heap fun b o U e=>am k b o e
  rw[Ea (fun d hd=>(hp.2 d hd).1) hd]at this
  exact gd this
 ·have h1:=hb j hj
  have h2:=xv hb (j+1) hj
  have h3:=hp.1
  unfold InLong
  refine⟨by dsimp only;lia,?_⟩
  push_cast at h2
  lia
 ·rw[xw ds _ (aN _),wh]
  exact⟨xx k hwr hk,.int _ _⟩
theorem Okay.push(ok:Okay A O s)(o:Obj)(t:Nat):Okay A O { s with heap:=s.heap.push o,toks:=t } :=
 ok.keeps (bL _)
theorem Ed{h:Qk}:∀ {vs:List PN} {ds:List PQ},RepL O h vs ds->(∀d∈ds,isStr d=true)->StrsAre vs (ds.map cJ):=fun{vs ds}=>by
 induction ds generalizing vs with
 | nil=>exact fun r hp=>by cases r;exact .nil
 | cons d ds ih =>
  intro r hp
  cases r with
  | cons r l =>
   have h1:=hp _ ak
   have h2:=ih l fun d hd=>hp d (ar _ hd)
   cases d<;>first | exact absurd h1 Pl | skip
   cases r with | str x t=>exact .cons _ _ h2
noncomputable def pu(x:Str)(ds:List PQ):Prop:=(∀d∈ds,isStr d=true)/\((ds.map cJ).map (·.length)).sum+(ds.map cJ).length * x.length<=16777216
theorem Ee{x:Str}{t:Tok}{ds:List PQ}(ra:bg O s.heap va (.list ds))(hp:pu x ds) :
 PM (PO prog w) A (call (.builtin "str.join") [.str x t,va]) (PV O s (.str (Rg x (ds.map cJ)))) E s:=by
 refine x33 ra.listIs fun a vs n e3 h l=>?_;subst e3
 exact join_list h.isList (Ed l hp.1) hp.2 fun t' k=>⟨ay _ _,.str _ _⟩
end
set_option genCtorIdx false
structure Srt where
 nodes:List (Int × Int × List Int)
 ready:Option (List Int)
 passed:Int
 finished:Int
inductive SV where
 | un
 | dat (d:PQ)
 | own (d:PQ)
 | sor (g:Srt)
 | val (v:PN)
noncomputable def SV.ctorIdx(t:SV):Nat:=SV.casesOn t 0 (fun U=>1) (fun U=>2) (fun U=>3) (fun U=>4)
noncomputable def SV.data:SV->PQ
 | .dat d=>d
 | .own d=>d
 | _=>.none
noncomputable def SV.ok:Bool->SV->Prop
 | _,.dat _=>True
 | true,.own _=>True
 | _,_=>False
structure FEntry where
 name:Str
 k:Nat
 pre:List PQ->Prop
 val:List PQ->PQ
noncomputable def FEntry.nope:FEntry:=⟨Q4,0,fun U=>False,fun U=>.none⟩
inductive IX where
 | var (i:Nat)
 | lit (d:PQ)
 | bin (op:Rf) (a b:IX)
 | cmp (op:CmpOp) (a b:IX)
 | neg (a:IX)
 | inv (a:IX)
 | bop (o:Bool) (es:IX)
 | ite (c a b:IX)
 | list (es:IX)
 | tup (es:IX)
 | sub (a i:IX)
 | slice (a lo hi:IX)
 | call (f:Nat) (es:IX)
 | len (a:IX)
 | sum (a:IX)
 | join (a b:IX)
 | comp (n:Nat) (tup:Bool) (slots:List Nat) (it ifs rest:IX)
 | gen (tup:Bool) (slots:List Nat) (it ifs rest:IX)
 | emit (e:IX)
 | range1 (a:IX)
 | range2 (a b:IX)
 | seq (e:IX)
 | nil
 | cons (a b:IX)
noncomputable def IX.ctorIdx(t:IX):Nat:=IX.casesOn t (fun U=>0) (fun U=>1) (fun U U U=>2) (fun U U U=>3) (fun U=>4) (fun U=>5) (fun U U=>6) (fun U U U=>7) (fun U=>8) (fun U=>9) (fun U U=>10) (fun U U U=>11) (fun U U=>12) (fun U=>13) (fun U=>14) (fun U U=>15) (fun U U U U U U=>16) (fun U U U U U=>17) (fun U=>18) (fun U=>19) (fun U U=>20) (fun U=>21) 22 (fun U U=>23)
noncomputable def aA:PQ->Bool
 | .bool b=>b
 | _=>false
noncomputable def eK:PQ->Bool
 | .bool _=>true
 | _=>false
noncomputable def eL:List SV->List Nat->List PQ->List SV
 | ρ,i::is,d::ds=>eL (ρ.set i (.dat d)) is ds
 | ρ,_,_=>ρ
noncomputable def aq(tup:Bool)(slots:List Nat)(d:PQ)(ρ:List SV):List SV :=
 if tup then eL ρ slots (cz d)else eL ρ slots [d]
noncomputable def jE:PQ->Bool
 | .list _=>true
 | .tuple _=>true
 | _=>false
noncomputable def bindP(tup:Bool)(slots:List Nat)(d:PQ):Prop :=
 if tup then jE d=true/\(cz d).length=slots.length else slots.length=1
noncomputable def items:PQ->List PQ
 | .list ds=>ds
 | .tuple ds=>ds
 | .str x=>mr x
 | _=>[]
noncomputable def xy:PQ->Prop
 | .list _=>True
 | .tuple _=>True
 | .str x=>x.cps.all (· < 128)=true
 | _=>False
noncomputable def mt:PQ->Prop
 | .int i=>-1000000000<=i/\i<=1000000000
 | _=>False
set_option backward.match.sparseCases false in
noncomputable def em:IX->Bool
 | .nil=>true
 | _=>false
noncomputable def ig(o:Bool):BoolOp:=if o=true then .Or else .And
section
variable(Φ:List FEntry)
set_option backward.match.sparseCases false in
mutual
noncomputable def den:IX->List SV->PQ
 | .var i,ρ=>(ρ.getD i .un).data
 | .lit d,_=>d
 | .bin op a b,ρ=>iZ op (den a ρ) (den b ρ)
 | .cmp op a b,ρ=>.bool (i3 op (den a ρ) (den b ρ))
 | .neg a,ρ=>.int (-(bM (den a ρ)))
 | .inv a,ρ=>.bool (!aA (den a ρ))
 | .bop o es,ρ=>fh o es ρ
 | .ite c a b,ρ=>if aA (den c ρ)then den a ρ else den b ρ
 | .list es,ρ=>.list (bE es ρ)
 | .tup es,ρ=>.tuple (bE es ρ)
 | .sub a i,ρ=>mj (den a ρ) (den i ρ)
 | .slice a lo hi,ρ=>kz (den a ρ) (gH lo ρ) (gH hi ρ)
 | .call f es,ρ=>(Φ.getD f .nope).val (bE es ρ)
 | .len a,ρ=>.int (i4 (den a ρ))
 | .sum a,ρ=>.int ((cz (den a ρ)).map bM).sum
 | .join a b,ρ=>.str (Rg (cJ (den a ρ)) ((cz (den b ρ)).map cJ))
 | .comp n tup slots it ifs rest,ρ=>.list ((bS it ρ).flatMap fun d =>
  if dH ifs (aq tup slots d (ρ++ba n .un))then fB rest (aq tup slots d (ρ++ba n .un))else[])
 | _,_=>.none
noncomputable def fh(o:Bool):IX->List SV->PQ
 | .cons a b,ρ=>if em b=true then den a ρ else if aA (den a ρ)=o then .bool o else fh o b ρ
 | _,_=>.none
noncomputable def gH:IX->List SV->PQ
 | .cons a .nil,ρ=>den a ρ
 | _,_=>.none
noncomputable def bE:IX->List SV->List PQ
 | .cons a b,ρ=>den a ρ::bE b ρ
 | _,_=>[]
noncomputable def dH:IX->List SV->Bool
 | .cons a b,ρ=>aA (den a ρ)&&dH b ρ
 | _,_=>true
noncomputable def bS:IX->List SV->List PQ
 | .range1 a,ρ=>gG 0 (bM (den a ρ) - 0).toNat
 | .range2 a b,ρ=>gG (bM (den a ρ)) (bM (den b ρ) - bM (den a ρ)).toNat
 | .seq e,ρ=>items (den e ρ)
 | _,_=>[]
noncomputable def fB:IX->List SV->List PQ
 | .gen tup slots it ifs rest,ρ=>(bS it ρ).flatMap fun d =>
  if dH ifs (aq tup slots d ρ)then fB rest (aq tup slots d ρ)else[]
 | .emit e,ρ=>[den e ρ]
 | _,_=>[]
end
set_option backward.match.sparseCases false in
mutual
noncomputable def pre:IX->Bool->List SV->Prop
 | .var i,t,ρ=>SV.ok t (ρ.getD i .un)
 | .lit _,_,_=>True
 | .bin op a b,_,ρ=>pre a false ρ/\pre b false ρ/\pp op (den Φ a ρ) (den Φ b ρ)
 | .cmp op a b,_,ρ=>pre a true ρ/\pre b true ρ/\me op (den Φ a ρ) (den Φ b ρ)
 | .neg a,_,ρ=>pre a false ρ/\isInt (den Φ a ρ)=true
 | .inv a,_,ρ=>pre a false ρ/\eK (den Φ a ρ)=true
 | .bop o es,_,ρ=>mu o es ρ
 | .ite c a b,_,ρ=>pre c false ρ/\eK (den Φ c ρ)=true/\(aA (den Φ c ρ)=true->pre a false ρ)/\(aA (den Φ c ρ)=false->pre b false ρ)
 | .list es,_,ρ=>dX es ρ/\(bE Φ es ρ).length<=16777216
 | .tup es,_,ρ=>dX es ρ/\(bE Φ es ρ).length<=16777216
 | .sub a i,_,ρ=>pre a true ρ/\pre i false ρ/\pq (den Φ a ρ) (den Φ i ρ)
 | .slice a lo hi,_,ρ=>pre a true ρ/\pv lo ρ/\pv hi ρ/\sA (den Φ a ρ) (gH Φ lo ρ) (gH Φ hi ρ)
 | .call f es,_,ρ=>dX es ρ/\(Φ.getD f .nope).pre (bE Φ es ρ)
 | .len a,_,ρ=>pre a true ρ/\sE (den Φ a ρ)
 | .sum a,_,ρ=>pre a true ρ/\(∃ds,den Φ a ρ=.list ds/\sF ds)
 | .join a b,_,ρ=>pre a false ρ/\pre b true ρ/\isStr (den Φ a ρ)=true/\(∃ds,den Φ b ρ=.list ds/\pu (cJ (den Φ a ρ)) ds)
 | .comp n tup slots it ifs rest,_,ρ=>gI it true ρ/\(∀d∈bS Φ it ρ,bindP tup slots d/\kB ifs (aq tup slots d (ρ++ba n .un)) /\
  (dH Φ ifs (aq tup slots d (ρ++ba n .un))=true->mv rest (aq tup slots d (ρ++ba n .un)))) /\
  ((bS Φ it ρ).flatMap fun d=>if dH Φ ifs (aq tup slots d (ρ++ba n .un))then fB Φ rest (aq tup slots d (ρ++ba n .un))else[]).length<=16000000
 | _,_,_=>False
noncomputable def mu(o:Bool):IX->List SV->Prop
 | .cons a b,ρ=>pre a false ρ/\(em b=false->eK (den Φ a ρ)=true/\(aA (den Φ a ρ)=!o->mu o b ρ))
 | _,_=>False
noncomputable def pv:IX->List SV->Prop
 | .cons a .nil,ρ=>pre a false ρ
 | .nil,_=>True
 | _,_=>False
noncomputable def dX:IX->List SV->Prop
 | .cons a b,ρ=>pre a false ρ/\dX b ρ
 | .nil,_=>True
 | _,_=>False
noncomputable def kB:IX->List SV->Prop
 | .cons a b,ρ=>pre a false ρ/\eK (den Φ a ρ)=true/\(aA (den Φ a ρ)=true->kB b ρ)
 | .nil,_=>True
 | _,_=>False
noncomputable def gI:IX->Bool->List SV->Prop
 | .range1 a,_,ρ=>pre a false ρ/\mt (den Φ a ρ)
 | .range2 a b,_,ρ=>pre a false ρ/\pre b false ρ/\mt (den Φ a ρ)/\mt (den Φ b ρ)
 | .seq e,t,ρ=>pre e t ρ/\xy (den Φ e ρ)
 | _,_,_=>False
noncomputable def mv:IX->List SV->Prop
 | .gen tup slots it ifs rest,ρ=>gI it false ρ/\(∀d∈bS Φ it ρ,bindP tup slots d/\kB ifs (aq tup slots d ρ) /\
  (dH Φ ifs (aq tup slots d ρ)=true->mv rest (aq tup slots d ρ)))
 | .emit e,ρ=>pre e false ρ
 | _,_=>False
end
set_option backward.match.sparseCases false in
noncomputable def kx:IX->Nat
 | .bin _ a b=>max (kx a) (kx b)
 | .cmp _ a b=>max (kx a) (kx b)
 | .neg a=>kx a
 | .inv a=>kx a
 | .bop _ a=>kx a
 | .ite a b c=>max (kx a) (max (kx b) (kx c))
 | .list a=>kx a
 | .tup a=>kx a
 | .sub a b=>max (kx a) (kx b)
 | .slice a b c=>max (kx a) (max (kx b) (kx c))
 | .call f es=>max (kx es) ((Φ.getD f .nope).k+1)
 | .len a=>kx a
 | .sum a=>kx a
 | .join a b=>max (kx a) (kx b)
 | .comp _ _ _ a b c=>max (kx a) (max (kx b) (kx c))+1
 | .gen _ _ a b c=>max (kx a) (max (kx b) (kx c))+1
 | .emit a=>kx a
 | .range1 a=>kx a
 | .range2 a b=>max (kx a) (kx b)
 | .seq a=>kx a
 | .cons a b=>max (kx a) (kx b)
 | _=>0
end
noncomputable def sG(c:Const)(d:PQ):Bool:=match c with
 | .none=>(match d with | .none=>true | _=>false)
 | .bool a=>(match d with | .bool b=>a==b | _=>false)
 | .int a=>(match d with | .int b=>a==b | _=>false)
 | .str a=>(match d with | .str b=>a==b | _=>false)
 | _=>false
noncomputable def bU(sc:Scope)(x:Str):Bool:=sc.names.lookup x==some NameKind.globalImplicit
noncomputable def cC(sc scope:Scope):Scope :=
 { scope with names:=scope.names.map fun p=>if(p.2==Qz&&sc.kind==RJ&&sc.names.lookup p.1==some QZ)then(p.1,QZ)else p }
set_option backward.match.sparseCases false in
noncomputable def Eg:Expr->List Str
 | .Name x _=>[x]
 | _=>[]
set_option backward.match.sparseCases false in
noncomputable def Eh:Expr->List Str
 | .Name x _=>[x]
 | .Tuple es _ _=>es.flatMap Eg
 | _=>[]
noncomputable def ge(gens:List QK):List Str:=gens.flatMap fun g=>Eh g.target
noncomputable def cK(scope:Scope)(ctx:List (Option Str))(vars:List Str):List (Option Str) :=
 (ctx.map fun x=>x.bind fun y=>if scope.names.lookup y==some Qz then some y else none)++vars.map some
noncomputable def aT(sc:Scope)(x:Str):Bool:=sc.names.lookup x==some .local||sc.names.lookup x==some .cell
noncomputable def dI(sc:Scope)(ctx:List (Option Str)):List Nat->List Expr->Bool
 | [],[]=>true
 | i::is,e::es=>(cI e fun x U=>ctx[i]? == some (some x)&&aT sc x)&&dI sc ctx is es
 | _,_=>false
noncomputable def fC(tup:Bool)(slots:List Nat)(sc:Scope)(ctx:List (Option Str))(e:Expr):Bool :=
 if tup=true then ie e fun ts U U=>dI sc ctx slots ts else v1 slots fun i=>cI e fun x U=>ctx[i]? == some (some x)&&aT sc x
set_option backward.match.sparseCases false in
noncomputable def xz:Expr->Bool
 | .Call ..=>false
 | _=>true
set_option backward.match.sparseCases false in
noncomputable def fD:Expr->Bool
 | .Set ..=>false
 | _=>true
set_option backward.match.sparseCases false in
noncomputable def gK:IX->List Nat
 | .gen _ slots _ _ rest=>slots++gK rest
 | _=>[]
noncomputable def mw(sc scope:Scope)(vars:List Str):Bool :=
 scope.kind==RJ&&decide (scope.names.map (·.1)).Nodup&&decide vars.Nodup &&
 (scope.names.all fun p=>p.2 != Qz||((sc.names.lookup p.1==some QZ||sc.names.lookup p.1==some Qz)&&p.1 != ofString "__classdict__")) &&
 (vars.all fun x=>scope.names.lookup x==some NameKind.local||scope.names.lookup x==some QZ)
section
variable(Φ:List FEntry)
mutual
noncomputable def chk:IX->Scope->List (Option Str)->Expr->Bool
 | .var i,_,ctx,e=>cI e fun x U=>ctx[i]? == some (some x)&&x != ofString "__debug__"
 | .lit d,_,_,e=>r8 e fun c U U=>sG c d
 | .bin op a b,sc,ctx,e=>wJ e fun l o r U=>o==op&&chk a sc ctx l&&chk b sc ctx r
 | .cmp op a b,sc,ctx,e=>pa e fun l o r U=>o==op&&chk a sc ctx l&&chk b sc ctx r&&!behindInMarks o r
 | .neg a,sc,ctx,e=>se e fun o x U=>o==.USub&&chk a sc ctx x
 | .inv a,sc,ctx,e=>pf e fun x U=>chk a sc ctx x
 | .bop o es,sc,ctx,e=>sf e fun p xs U=>p==ig o&&cj es sc ctx xs
 | .ite c a b,sc,ctx,e=>wN e fun t x y U=>chk c sc ctx t&&chk a sc ctx x&&chk b sc ctx y
 | .list es,sc,ctx,e=>wP e fun xs U=>cj es sc ctx xs
 | .tup es,sc,ctx,e=>ie e fun xs U U=>cj es sc ctx xs
 | .sub a i,sc,ctx,e=>si e fun v s U=>chk a sc ctx v&&chk i sc ctx s
 | .slice a lo hi,sc,ctx,e=>si e fun v s U=>wQ s fun l u st U=>vN st (chk a sc ctx v&&jF lo sc ctx l&&jF hi sc ctx u)
 | .call f es,sc,ctx,e=>iV e fun g U args U=>(Φ.getD f .nope).name==g&&g != ofString "__debug__"&&decide (f<Φ.length)&&bU sc g&&cj es sc ctx args
 | .len a,sc,ctx,e=>pi e fun g x=>g==ofString "len"&&bU sc g&&chk a sc ctx x
 | .sum a,sc,ctx,e=>pi e fun g x=>g==ofString "sum"&&bU sc g&&chk a sc ctx x
 | .join a b,sc,ctx,e=>wZ e fun o m ap x p=>m==ofString "join"&&xz o&&ap.endLine==p.line&&chk a sc ctx o&&chk b sc ctx x
 | .comp n tup slots it ifs rest,sc,ctx,e=>wT e fun elt gens scope U=>vC gens fun g gs =>
  g.is_async==0&&fD g.iter&&fj it sc ctx g.iter&&mw sc scope (ge (g::gs)) &&
  n==(ge (g::gs)).length&&decide (slots++gK rest).Nodup&&((slots++gK rest).all fun i=>decide (ctx.length<=i)) &&
  (fC tup slots (cC sc scope) (cK scope ctx (ge (g::gs))) g.target&&cj ifs (cC sc scope) (cK scope ctx (ge (g::gs))) g.ifs &&
  gL rest (cC sc scope) (cK scope ctx (ge (g::gs))) gs elt)
 | _,_,_,_=>false
noncomputable def jF:IX->Scope->List (Option Str)->Option Expr->Bool
 | .cons a b,sc,ctx,e=>em b&&vO e fun x=>chk a sc ctx x
 | .nil,_,_,e=>vN e true
 | _,_,_,_=>false
noncomputable def cj:IX->Scope->List (Option Str)->List Expr->Bool
 | .cons a b,sc,ctx,es=>vC es fun e r=>chk a sc ctx e&&cj b sc ctx r
 | .nil,_,_,es=>v0 es true
 | _,_,_,_=>false
noncomputable def fj:IX->Scope->List (Option Str)->Expr->Bool
 | .range1 a,sc,ctx,e=>pi e fun g x=>g==ofString "range"&&bU sc g&&chk a sc ctx x
 | .range2 a b,sc,ctx,e=>wY e fun g x y=>g==ofString "range"&&bU sc g&&chk a sc ctx x&&chk b sc ctx y
 | .seq a,sc,ctx,e=>chk a sc ctx e
 | _,_,_,_=>false
noncomputable def gL:IX->Scope->List (Option Str)->List QK->Expr->Bool
 | .gen tup slots it ifs rest,sc,ctx,gs,elt=>vC gs fun g gs=>g.is_async==0&&fD g.iter&&fj it sc ctx g.iter&&fC tup slots sc ctx g.target&&cj ifs sc ctx g.ifs&&gL rest sc ctx gs elt
 | .emit e,sc,ctx,gs,elt=>v0 gs (chk e sc ctx elt)
 | _,_,_,_,_=>false
end
end
structure Glo where
 prog:Qs
 w:Qq
 mg:Str->Option PN
 mb:Str->Option PN
 K:Frag
 hB:Qk
 SR:Srt->(PP->Prop)->Qk->PN->Prop
structure Glo.Base(G:Glo)(O:PP->Prop)(h:Qk):Prop where
 kp:∀b o,G.hB.get? b=some o->h.get? b=some o
 off:∀b,O b->G.hB.get? b=none
theorem Glo.Base.keeps{G:Glo}(B:G.Base O s.heap)(k:PY s s'):G.Base O s'.heap :=
 ⟨fun b o e=>am k b o (B.kp b o e),B.off⟩
noncomputable def cb:List (Str × PN):=[(ofString "len",.builtin "len"),(ofString "sum",.builtin "sum"),(ofString "min",.builtin "min"),(ofString "max",.builtin "max"),(ofString "range",.type "range"),
 (ofString "set",.type "set"),(ofString "iter",.builtin "iter"),(ofString "StopIteration",.type "StopIteration"),(ofString "ValueError",.type "ValueError"),(ofString "list",.type "list"),(ofString "tuple",.type "tuple"),
 (ofString "object",.type "object"),(ofString "isinstance",.builtin "isinstance"),(ofString "str",.type "str"),(ofString "bool",.type "bool"),(ofString "enumerate",.type "enumerate")]
theorem Ei:cb.all (fun p=>!(p.1==ofString "__debug__"))=true:=by decide +kernel
structure Glo.Wf(G:Glo):Prop where
 g:G.hB.Ns Rc G.mg
 b:G.hB.Ns R3 G.mb
 lim:G.hB.NoLimit
 K:G.K.In G.hB
 srf:∀g S (h h':Qk) v,G.SR g S h v->(∀b o,S b->h.get? b=some o->h'.get? b=some o)->(∀b o,G.hB.get? b=some o->h.get? b=some o)->(∀b o,G.hB.get? b=some o->h'.get? b=some o)->G.SR g S h' v
 bn:∀p∈cb,G.mg p.1=none/\G.mb p.1=some p.2
structure EnvOk(env:Env)(sc:Scope):Prop where
 scope:env.scope=sc
 kind:sc.kind=.function
 globals:env.globals=Rc
 builtins:env.builtins=R3
 noclass:∀x,sc.names.lookup x=some .free->(x==ofString "__classdict__")=false
 inj:∀x y c,env.cells.lookup x=some c->env.cells.lookup y=some c->x=y
 clk:∀x c,env.cells.lookup x=some c->sc.names.lookup x=some .cell\/sc.names.lookup x=some .free
structure FrameV(env:Env)(h:Qk)(val:Str->Option PN):Prop where
 loc:∃m,h.Ns env.locals m/\∀x,env.kindOf x=some .local->m x=val x
 cel:∀x,(env.kindOf x=some .cell\/env.kindOf x=some .free)->∃c,env.cells.lookup x=some c/\h.IsCell c (val x)
theorem FrameV.keeps(F:FrameV env h val)(k:∀b o,h.get? b=some o->h'.get? b=some o):FrameV env h' val :=
 ⟨F.loc.elim fun m ζ=>ζ.elim fun h1 h2=>⟨m,h1.keeps k,h2⟩,fun x hx=>(F.cel x hx).elim fun c ζ=>ζ.elim fun h1 h2=>⟨c,h1,h2.keeps k⟩⟩
structure CtxOk(sc:Scope)(ctx:List (Option Str)):Prop where
 inj:∀(i j:Nat) (x:Str),ctx[i]? = some (some x)->ctx[j]? = some (some x)->i=j
 kd:∀(i:Nat) (x:Str),ctx[i]? = some (some x)->sc.names.lookup x=some .local\/sc.names.lookup x=some .cell\/sc.names.lookup x=some .free
noncomputable def bb(env:Env)(b:PP):Prop:=b=env.locals\/(@LT.lt Nat _ env.locals b/\∃x,env.kindOf x=some .cell/\env.cells.lookup x=some b)
noncomputable def aU(env:Env)(b:PP):Prop:=b=env.locals\/∃x,env.cells.lookup x=some b
theorem bb.store(h:bb env b):aU env b:=h.imp id fun h=>h.elim fun U ζ=>ζ.elim fun x ζ=>ζ.elim fun U e=>⟨x,e⟩
noncomputable def bu(env:Env)(ctx:List (Option Str))(i:Nat):Prop:=∀x c,ctx[i]? = some (some x)->env.kindOf x=some .cell->env.cells.lookup x=some c->@LT.lt Nat _ env.locals c
inductive OwnRep(O:PP->Prop)(ω:PP->Option Nat)(h:Qk)(i:Nat)(v:Option PN)(d:PQ):Prop where
 | mk (a:PP) (vs:Array PN) (n:Nat) (ds:List PQ) (e1:v=some (.ref a)) (e2:ω a=some i) (e3:d=.list ds) (h1:IsL h a vs n) (h2:RepL O h vs.toList ds):OwnRep O ω h i v d
noncomputable def c7(G:Glo)(O:PP->Prop)(ω:PP->Option Nat)(h:Qk)(i:Nat)(v:Option PN):SV->Prop
 | .dat d=>∃u,v=some u/\Rep O h u d
 | .own d=>OwnRep O ω h i v d
 | .sor g=>∃u S,v=some u/\G.SR g S h u/\∀b,S b->ω b=some i
 | .val u=>v=some u
 | .un=>True
noncomputable def i6(G:Glo)(O:PP->Prop)(ω:PP->Option Nat)(h:Qk)(ctx:List (Option Str))(ρ:List SV)(val:Str->Option PN):Prop :=
 ∀(i:Nat) (x:Str),ctx[i]? = some (some x)->c7 G O ω h i (val x) (ρ.getD i .un)
noncomputable def aI(n:Nat)(A:P0):Prop:=A.depth+3 * n+60<=990/\A.units+16 * n+300<9900
theorem aI.le(r:aI n A)(h:m<=n):aI m A:=⟨aa (dG (fa (M8 3 h) _) 60) r.1,eZ (dG (fa (M8 16 h) _) 300) r.2⟩
theorem xA(j:Nat)(hj:j<=k)(h:m+1<=n):d+j+k * m+c<=d+k * n+c :=
 dG (by rw[o5,OK j];exact fa (aa (fa hj _) (M8 k h)) d) c
theorem aI.deeper(r:aI n A)(h:m+1<=n):aI m (A.deeper env):=⟨aa (xA 1 (by decide) h) r.1,eZ (xA 3 (by decide) h) r.2⟩
theorem aI.fits(r:aI n A)(h:k<=60):A.depth+k<1000 :=
 eZ (oP (oO _ (3 * n)) h) (eZ r.1 (by decide))
theorem mx{d n a b m:Nat}(h:d+n<m)(e:a+b<=n):d+a+b<m:=eZ (o5 d a b▸fa e d) h
theorem pw{d n m:Nat}(h:d+n<m):d<m:=eZ (oO ..) h
theorem aI.units(r:aI n A):A.units+100<cLine :=
 eZ (oP (oO _ (16 * n)) (by decide:100<=300)) r.2
inductive Vars(G:Glo)(env:Env)(O:PP->Prop)(ω:PP->Option Nat)(h:Qk)(ctx:List (Option Str))(ρ:List SV):Prop where
 | mk (val:Str->Option PN) (F:FrameV env h val) (V:i6 G O ω h ctx ρ val):Vars G env O ω h ctx ρ
structure Cond(G:Glo)(env:Env)(sc:Scope)(ctx:List (Option Str))(A:P0)(O:PP->Prop)(ω:PP->Option Nat)(ρ:List SV)(s:PL):Prop where
 eo:EnvOk env sc
 co:CtxOk sc ctx
 len:ρ.length=ctx.length
 ok:Okay A O s
 base:G.Base O s.heap
 fr:∀b,bb env b->O b
 fc:∀x c,env.cells.lookup x=some c->O c
 om:∀b i,ω b=some i->O b/\¬aU env b
 vars:Vars G env O ω s.heap ctx ρ
theorem c7.at(wf:G.Wf)(B:G.Base O h)(hk:∀b o,(ω b=some i\/¬O b)->h.get? b=some o->h'.get? b=some o)(r:c7 G O ω h i v x):c7 G O ω h' i v x:=by
 cases x with
 | dat d=>refine x12 r fun u e r=>?_;exact⟨u,e,r.mono (fun b o n e=>hk b o (.inr n) e) fun U U U q=>q⟩
 | own d=>obtain⟨a,vs,n,ds,e1,e2,e3,h1,h2⟩:=r;exact⟨a,vs,n,ds,e1,e2,e3,hk _ _ (.inl e2) h1,h2.mono (fun b o n e=>hk b o (.inr n) e) fun U U U q=>q⟩
 | un=>trivial
 | val u=>exact r
 | sor g=>
  refine x23 r fun u S e r hS=>?_
  exact⟨u,S,e,wf.srf g S h h' u r (fun b o q e=>hk b o (.inl (hS b q)) e) (fun b o q=>B.kp b o q) fun b o q=>hk b o (.inr fun z=>by rw[B.off b z]at q;cases q) (B.kp b o q),hS⟩
theorem c7.keeps(wf:G.Wf)(B:G.Base O s.heap)(k:PY s s')(r:c7 G O ω s.heap i v x):c7 G O ω s'.heap i v x :=
 r.at wf B fun b o U e=>am k b o e
theorem Cond.keeps(wf:G.Wf)(C:Cond G env sc ctx A O ω ρ s)(k:PY s s'):Cond G env sc ctx A O ω ρ s' :=
 ⟨C.eo,C.co,C.len,C.ok.keeps k,C.base.keeps k,C.fr,C.fc,C.om,let⟨val,F,V⟩:=C.vars;⟨val,F.keeps (am k),fun i x h=>(V i x h).keeps wf C.base k⟩⟩
theorem Cond.store_O(C:Cond G env sc ctx A O ω ρ s)(h:aU env b):O b:=by
 rcases h with rfl | ⟨x,h⟩
 ·exact C.fr _ (.inl rfl)
 ·exact C.fc x b h
noncomputable def aK(G:Glo)(F:FEntry):Prop:=∃a o fd,G.mg F.name=some (.ref a)/\G.K.lookup a=some o/\o.data=.func fd /\
 ∀(A:P0) (s:PL) (O:PP->Prop) (vs:List PN) (ds:List PQ) (E:PN->PL->Prop),aI F.k A->Okay A O s->G.Base O s.heap->RepL O s.heap vs ds->F.pre ds ->
  PM (PO G.prog G.w) A (call (.ref a) vs) (PV O s (F.val ds)) E s
section
variable{G:Glo}{env:Env}{sc:Scope}{ctx:List (Option Str)}{A:P0}{O:PP->Prop}{ρ:List SV}{s:PL}{E:PN->PL->Prop}
theorem EnvOk.kindOf(e:EnvOk env sc)(x:Str):env.kindOf x=sc.names.lookup x:=by unfold Env.kindOf;rw[e.scope]
theorem EnvOk.kindS(e:EnvOk env sc):env.scope.kind=.function:=by rw[e.scope];exact e.kind
theorem gM{Q:PN->PL->Prop}(e:EnvOk env sc)(F:FrameV env s.heap val)(hv:val x=some v)
 (hk:sc.names.lookup x=some .local\/sc.names.lookup x=some .cell\/sc.names.lookup x=some .free) (h:Q v s):PM (PO G.prog G.w) A (loadName env x) Q E s:=by
 rcases hk with hk | hk | hk
 ·refine x12 F.loc fun m hn hm=>?_
  exact wpAny_loadName_local e.kindS ((e.kindOf x).trans hk) hn ((hm x ((e.kindOf x).trans hk)).trans hv) h
 ·refine x12 (F.cel x (.inl ((e.kindOf x).trans hk))) fun c h1 h2=>?_
  exact wpAny_loadName_cell e.kindS ((e.kindOf x).trans hk) h1 (hv▸h2) h
 ·refine x12 (F.cel x (.inr ((e.kindOf x).trans hk))) fun c h1 h2=>?_
  exact wpAny_loadName_free e.kindS ((e.kindOf x).trans hk) h1 (hv▸h2) h (e.noclass x hk)
theorem ii{p:Pos}(wf:G.Wf)(e:EnvOk env sc)(B:G.Base O s.heap)(hx:bU sc x=true)(hd:(x==ofString "__debug__")=false) (hv:G.mg x=some v) (h:Q v s) :
 PM (PO G.prog G.w) A (Qg (.Name x p) env) Q E s:=by
 refine Calls.Name_function_global e.kindS ((e.kindOf x).trans (by unfold bU at hx;exact P9 hx)) (Calls.loadGlobal_global ?_ hv h) hd
 rw[e.globals];exact wf.g.keeps B.kp
theorem gN{p:Pos}(wf:G.Wf)(e:EnvOk env sc)(B:G.Base O s.heap)(hx:bU sc x=true)(hm:(x,v)∈cb)(h:Q v s) :
 PM (PO G.prog G.w) A (Qg (.Name x p) env) Q E s:=by
 have hb:=wf.bn _ hm
 refine Calls.Name_function_global e.kindS ((e.kindOf x).trans (by unfold bU at hx;exact P9 hx)) (Calls.loadGlobal_builtin (mg:=G.mg) (mb:=G.mb) ?_ hb.1 ?_ hb.2 h) ?_
 ·rw[e.globals];exact wf.g.keeps B.kp
 ·rw[e.builtins];exact wf.b.keeps B.kp
 ·have:=bC.mp Ei _ hm
  simpa using this
set_option backward.match.sparseCases false in
noncomputable def fE:Expr->Bool
 | .Starred ..=>false
 | _=>true
theorem gf(e:IX)(h:chk Φ e sc ctx ast=true):fE ast=true:=by
 cases ast<;>first | rfl | (cases e<;>exact absurd h Pl)
theorem Ej(h:fE a=true):starEach (a::as) env=(false,Qg a env)::starEach as env:=by
 cases a<;>first | rfl | exact absurd h Pl
theorem ij:∀(as:List Expr),(∀a∈as,fE a=true)->starEach as env=as.map fun a=>(false,Qg a env)
 | [],_=>rfl
 | a::as,h=>(Ej (h a ak)).trans (congrArg (_::·) (ij as fun b hb=>h b (ar _ hb)))
theorem jG(pos:Pos)(as:List Expr):backTo pos (as.map fun a=>(false,Qg a env))=as.map fun a=>(false,Qg a env):=by
 unfold backTo
 rw[hH]
 rfl
theorem gg(as:List Expr):(as.map fun a=>(false,Qg a env)).any (·.1)=false:=by
 rw[List.any_map];simp
theorem ik{M:Model}{f:PN}{as:List Expr}{Q:Args->PL->Prop}(h:PM M A (spliced (as.map fun a=>(false,Qg a env))) (fun vs s'=>Q ⟨vs,[]⟩ s') E s) :
 PM M A (evalArgs f true (as.map fun a=>(false,Qg a env)) []) Q E s:=by
 cases as with
 | nil =>
  unfold evalArgs
  show PM M A (spliced [] >>= _) Q E s
  refine PK (PR h (fun vs s' h'=>?_) fun U U x=>x)
  refine Qj ?_
  exact PK (PU (PK (PU (PU h'))))
 | cons a as=>exact Qo h
end
inductive KM(M:PP->Prop)(s s':PL):Prop where
 | mk (h':Qk) (t:Nat) (e:s'={ s with heap:=h',toks:=t }) (k:∀b o,¬M b->s.heap.get? b=some o->h'.get? b=some o) (th:∀b o,s.heap.get? b=some o->∃o',h'.get? b=some o'):KM M s s'
section
variable{M M':PP->Prop}{s s' s'' s₀:PL}
theorem KM.of(k:PY s s'):KM M s s':=by
 obtain⟨h,t,rfl,k⟩:=k
 exact⟨h,t,rfl,fun b o U e=>k b o e,fun b o e=>⟨o,k b o e⟩⟩
theorem KM.trans(x:KM M s s')(y:KM M s' s''):KM M s s'':=by
 obtain⟨h,t,rfl,k,e⟩:=x
 obtain⟨h',t',rfl,k',e'⟩:=y
 exact⟨h',t',rfl,fun b o n q=>k' b o n (k b o n q),fun b o q=>(e b o q).elim fun o' q'=>e' b o' q'⟩
theorem KM.mono(x:KM M s s')(h:∀b,M b->M' b):KM M' s s':=by
 obtain⟨h',t,rfl,k,e⟩:=x
 exact⟨h',t,rfl,fun b o n q=>k b o (fun z=>n (h b z)) q,e⟩
theorem KM.get(x:KM M s s'):∀b o,¬M b->s.heap.get? b=some o->s'.heap.get? b=some o:=by
 obtain⟨h',t,rfl,k,e⟩:=x;exact k
theorem KM.there(x:KM M s s'):∀b o,s.heap.get? b=some o->∃o',s'.heap.get? b=some o':=by
 obtain⟨h',t,rfl,k,e⟩:=x;exact e
theorem KM.keeps(k0:PY s₀ s)(x:KM M s s')(hM:∀b,M b->s₀.heap.get? b=none):PY s₀ s':=by
 refine x22 k0 fun h t e2 k=>?_;subst e2
 obtain⟨h',t',rfl,k',_⟩:=x
 exact⟨h',t',rfl,fun b o e=>k' b o (fun z=>by rw[hM b z]at e;cases e) (k b o e)⟩
theorem KM.chg{t:Nat}(hs:Qy a s.heap h')(ha:∃o,h'.get? a=some o)(hM:M a):KM M s { s with heap:=h',toks:=t } :=
 ⟨h',t,rfl,fun b o n e=>hs b o (fun q=>n (q▸hM)) e,fun b o e=>if q:b=a then q▸ha else⟨o,hs b o q e⟩⟩
theorem Okay.km(ok:Okay A O s)(k:KM M s s')(hM:∀b,M b->O b):Okay A O s' :=
 ⟨ok.hok.frame fun b hb o e=>k.get b o (fun z=>ok.hno b hb (hM b z)) e,ok.hno,fun b hb=>(ok.obs b hb).elim fun o e=>k.there b o e⟩
theorem Glo.Base.km{G:Glo}(B:G.Base O s.heap)(k:KM M s s')(hM:∀b,M b->O b):G.Base O s'.heap :=
 ⟨fun b o e=>k.get b o (fun z=>by rw[B.off b (hM b z)]at e;cases e) (B.kp b o e),B.off⟩
theorem RepL.km(r:RepL O s.heap v d)(k:KM M s s')(hM:∀b,M b->O b):RepL O s'.heap v d :=
 r.mono (fun b o n e=>k.get b o (fun z=>n (hM b z)) e) fun U U U q=>q
end
theorem Ek(x:h.Ns a m)(y:IsL h a vs n):False:=by
 refine x33 x fun o es ep e d U=>?_
 rw[y]at e;cases e;cases d
theorem xB(x:h.IsCell a v)(y:IsL h a vs n):False:=by
 refine x12 x fun o e d=>?_
 rw[y]at e;cases e;cases d
theorem sH{h:Qk}{a:PP}{m:Str->Option PN}{v:Option PN}(x:h.Ns a m)(y:h.IsCell a v):False:=by
 refine x33 x fun o es ep e d U=>?_
 refine x12 y fun o' e' d'=>?_
 rw[e]at e';cases e';rw[d]at d';cases d'
theorem my{h h':Qk}{c:PP}{v:Option PN}(x:h.IsCell c v)(e:∀o,h.get? c=some o->h'.get? c=some o):h'.IsCell c v:=x.elim fun o ζ=>ζ.elim fun ho hd=>⟨o,e o ho,hd⟩
theorem mz{ρ:List SV}{i j:Nat}{x:SV}(h:i≠j):(ρ.set i x).getD j .un=ρ.getD j .un:=by
 rw[aj,aj,List.getElem?_set_ne h]
theorem dJ{ρ:List SV}{i j:Nat}{x:SV}:(ρ.set i x).getD j .un=if i=j/\i<ρ.length then x else ρ.getD j .un:=by
 rw[aj,aj,List.getElem?_set]
 by_cases h:i=j
 ·subst h
  by_cases h2:i<ρ.length
  ·simp[h2]
  ·simp[h2]
 ·simp[h]
theorem FrameV.chg(F:FrameV env h val)(hl:IsL h a vs n)(hs:Qy a h h'):FrameV env h' val :=
 ⟨F.loc.elim fun m ζ=>ζ.elim fun h1 h2=>⟨m,h1.at' fun o e=>hs _ o (fun q=>Ek (q▸h1) hl) e,h2⟩,
  fun x hx=>(F.cel x hx).elim fun c ζ=>ζ.elim fun h1 h2=>⟨c,h1,my h2 fun o e=>hs _ o (fun q=>xB (q▸h2) hl) e⟩⟩
section
variable{G:Glo}{env:Env}{sc:Scope}{ctx:List (Option Str)}{A:P0}{O:PP->Prop}{ω:PP->Option Nat}{ρ:List SV}{s:PL}{E:PN->PL->Prop}
theorem Cond.frame(C:Cond G env sc ctx A O ω ρ s)(k:KM M s s')(hM:∀b,M b->O b)(hl:ρ'.length=ρ.length)(F:FrameV env s'.heap val)(V:i6 G O ω s'.heap ctx ρ' val):Cond G env sc ctx A O ω ρ' s' :=
 ⟨C.eo,C.co,hl.trans C.len,C.ok.km k hM,C.base.km k hM,C.fr,C.fc,C.om,val,F,V⟩
theorem El(h:aT sc x=true):sc.names.lookup x=some .local\/sc.names.lookup x=some .cell :=
 (Bool.or_eq_true_iff.mp h).imp P9 P9
theorem eq{i:Nat}{x:Str}{v:PN}{y:SV}{Q:Unit->PL->Prop}(wf:G.Wf)(hs:bu env ctx i)(C:Cond G env sc ctx A O ω ρ s)(hi:ctx[i]? = some (some x))
 (hk:aT sc x=true) (r:c7 G O ω s.heap i (some v) y)
 (h:∀s',KM (bb env) s s'->Cond G env sc ctx A O ω (ρ.set i y) s'->Q () s'):PM (PO G.prog G.w) A (storeName env x v) Q E s:=by
 have hk:=El hk
 obtain⟨val,F,V⟩:=C.vars
 have vs:∀s',KM (bb env) s s'->i6 G O ω s'.heap ctx (ρ.set i y) (fun z=>if z=x then some v else val z):=by
  intro s' k j z hz
  rw[dJ]
  show c7 G O ω s'.heap j (if z=x then some v else val z) _
  have at':∀(j:Nat) (b:PP) (o:Obj),(ω b=some j\/¬O b)->s.heap.get? b=some o->s'.heap.get? b=some o:=fun j b o hb e=>k.get b o (fun q=>by
   rcases hb with hb | hb
   ·exact(C.om b j hb).2 q.store
   ·exact hb (C.fr b q)) e
  by_cases h:i=j
  ·subst h
   have:z=x:=by rw[hi]at hz;cases hz;rfl
   subst this
   rw[if_pos rfl]
   split
   ·exact r.at wf C.base (at' i)
   ·rename_i h2
    have:ρ.getD i .un=.un:=by
     rw[aj,Px (by simpa using h2)];rfl
    rw[this];trivial
  ·have:z≠x:=fun q=>h (C.co.inj i j x hi (q▸hz))
   rw[if_neg this,if_neg (fun z=>h z.1)]
   exact(V j z hz).at wf C.base (at' j)
 rcases hk with hk | hk
 ·have hk':=(C.eo.kindOf x).trans hk
  refine x12 F.loc fun m hn hm=>?_
  refine wpAny_storeName_local hk' hn (fun h' hn' hs'=>?_) (by rw[C.eo.kindS];rfl)
  have k:KM (bb env) s { s with heap:=h',toks:=s.toks+1 }:=KM.chg hs'.extBut (hn'.elim fun o ζ=>ζ.elim fun U ζ=>ζ.elim fun U ζ=>ζ.elim fun e U=>⟨o,e⟩) (.inl rfl)
  refine h _ k (C.frame k C.fr (val:=fun z=>if z=x then some v else val z) (by simp) ⟨⟨_,hn',fun y hy=>?_⟩,fun y hy=>?_⟩ (vs _ k))
  ·by_cases q:y=x
   ·simp[q]
   ·simp only[q,if_false];exact hm y hy
  ·refine x12 (F.cel y hy) fun c h1 h2=>?_
   have:y≠x:=fun q=>by subst q;rw[hk']at hy;rcases hy with hy | hy<;>cases hy
   rw[if_neg this]
   exact⟨c,h1,h2.sameBut hs' fun q=>sH hn (q▸h2)⟩
 ·have hk':=(C.eo.kindOf x).trans hk
  refine x12 (F.cel x (.inl hk')) fun c hc hv=>?_
  refine wpAny_storeName_cell C.eo.kindS hk' hc hv fun h' hc' hs'=>?_
  have k:KM (bb env) s { s with heap:=h' }:=KM.chg hs'.extBut (hc'.elim fun o ζ=>ζ.elim fun e U=>⟨o,e⟩) (.inr ⟨hs x c hi hk' hc,x,hk',hc⟩)
  refine h _ k (C.frame k C.fr (val:=fun z=>if z=x then some v else val z) (by simp) ⟨?_,fun y hy=>?_⟩ (vs _ k))
  ·refine x12 F.loc fun m hn hm=>?_
   refine⟨m,hn.sameBut hs' fun q=>sH hn (q▸hv),fun y hy=>?_⟩
   have:y≠x:=fun q=>by subst q;rw[hk']at hy;cases hy
   rw[if_neg this];exact hm y hy
  ·refine x12 (F.cel y hy) fun c' h1 h2=>?_
   by_cases q:y=x
   ·subst q
    rw[hc]at h1;cases h1
    rw[if_pos rfl];exact⟨_,hc,hc'⟩
   ·rw[if_neg q]
    exact⟨c',h1,h2.sameBut hs' fun z=>q (C.eo.inj y x c (z▸h1) hc)⟩
theorem Cond.weak(C:Cond G env sc ctx A O ω ρ s)(hl:ρ'.length=ρ.length)(h:∀i,ρ'.getD i .un=.un\/ρ'.getD i .un=ρ.getD i .un):Cond G env sc ctx A O ω ρ' s :=
 ⟨C.eo,C.co,hl.trans C.len,C.ok,C.base,C.fr,C.fc,C.om,let⟨val,F,V⟩:=C.vars;⟨val,F,fun i x e=>by
  rcases h i with q | q
  ·rw[q];trivial
  ·rw[q];exact V i x e⟩⟩
end
section
variable{prog:Qs}{w:Qq}{A:P0}{E:PN->PL->Prop}{O:PP->Prop}
theorem sI{I:PP}{fp wr:List PP}{n:Nat}{P:Nat->PN->Prop}{St:Nat->Qk->Prop}(W:Walks prog w A I fp wr n P St) :
 ∀(m i:Nat) (s:PL) (Q:List PN->PL->Prop),St i s.heap->i+m<=n ->
  (∀vs h' t,vs.length=m->(∀(j:Nat) (v:PN),vs[j]? = some v->P (i+j) v)->St (i+m) h'->(∀b o,b∉wr->s.heap.get? b=some o->h'.get? b=some o)->Q vs { s with heap:=h',toks:=t }) ->
  PM (PO prog w) A (draw (.ref I) m) Q E s
 | 0,i,s,Q,st,_,h=>by
  show PM _ _ (pure []) Q E s
  exact PU (h [] s.heap s.toks rfl (by simp) st fun U U U e=>e)
 | m+1,i,s,Q,st,hle,h=>by
  show PM _ _ (pyNext (.ref I) >>= _) Q E s
  refine PK (W.item i _ _ _ (by lia) st fun v h₁ t₁ hp st₁ k₁=>?_)
  refine PK (Qj (sI W m (i+1) _ _ st₁ (by lia) fun vs h₂ t₂ hl hv st₂ k₂=>PU ?_))
  refine h (v::vs) h₂ t₂ (by simp[hl]) (fun j u hj=>?_) (by rw[show i+(m+1)=i+1+m by lia];exact st₂) fun b o hb e=>k₂ b o hb (k₁ b o hb e)
  cases j with
  | zero=>simp at hj;subst hj;exact hp
  | succ j=>simp at hj;rw[show i+(j+1)=i+1+j by lia];exact hv j u hj
theorem xC:∀ {vs:List PN} {ds:List PQ},vs.length=ds.length->(∀(j:Nat) (v:PN),vs[j]? = some v->∃d,ds[j]? = some d/\Rep O h v d)->RepL O h vs ds
 | [],[],_,_=>.nil
 | [],_::_,hl,_=>nomatch hl
 | _::_,[],hl,_=>nomatch hl
 | v::vs,d::ds,hl,hp=>by
  refine x12 (hp 0 v rfl) fun d' e r=>?_
  cases e
  exact .cons r (xC (Nat.succ.inj hl) fun j u hj=>hp (j+1) u hj)
theorem xD(hlen:(cz d).length=n)(k:PY s s')(hi:ItIs prog w A O F s.heap s'.heap it (cz d))(h:∀vs s',PY s s'->RepL O s'.heap vs (cz d)->Q vs s') :
 PM (PO prog w) A (do
  let items <- RW [it] (draw it n)
  if items.length<n then
   rule "unpack.too-few";raiseError "ValueError" s!"not enough values to unpack (expected {n}, got {items.length})"
  if(<- RW items (pyNext it)).isSome then
   rule "unpack.too-many";raiseError "ValueError" s!"too many values to unpack (expected {n})"
  return items) Q E s':=by
 obtain⟨I,fp,wr,P,St,rfl,W,hst,hfp,hwr,_,_,_,hit⟩:=hi
 replace hwr:=xr hwr
 refine PK (Qj (sI W n 0 _ _ hst (cH ((kh n).trans hlen.symm)) fun vs h₁ t₁ hl hv st₁ k₁=>?_))
 rw[if_neg (c5.mpr (cH hl.symm))]
 rw[kh,<- hlen]at st₁
 refine PK (Qj (W.done _ _ _ st₁ fun h₂ t₂ k₂=>?_))
 rw[show(Option.isSome (none:Option PN))=false from rfl,if_neg Pl]
 have kk:PY s { s' with heap:=h₂,toks:=t₂ }:=xx k hwr fun b o hb e=>k₂ b o hb (k₁ b o hb e)
 refine PU (h vs _ kk ?_)
 refine xC (hl.trans hlen.symm) fun j u hj=>?_
 refine x12 (hit (0+j) u (hv j u hj)) fun d e r=>?_
 rw[kh]at e
 exact⟨d,e,r _ fun b o U e=>am kk b o e⟩
theorem Em{Q:List PN->PL->Prop}(ok:Okay A O s)(r:Rep O s.heap v d)(hd:jE d=true)(hn:(cz d).length=n)
 (h:∀vs s',PY s s'->RepL O s'.heap vs (cz d)->Q vs s'):PM (PO prog w) A (unpackItems v n none) Q E s:=by
 unfold unpackItems
 cases d<;>first | exact absurd hd Pl | skip
 ·refine x33 (bg.of r).listIs fun a vs m e hl U=>?_;subst e
  refine PK ?_
  unfold notIterableAtAll
  refine PK (wpAny_specialOf hl.isList.typeIs slot_list_iter.lookup (PU ?_))
  rw[if_neg Pl]
  exact PK (Qj (sC ok (.of r) fun it s' k hi=>xD hn k hi h))
 ·refine x33 (bg.of r).tupIs fun a vs m e hl U=>?_;subst e
  refine PK ?_
  unfold notIterableAtAll
  refine PK (wpAny_specialOf (show s.heap.IsTuple a vs from⟨_,hl,rfl,m,rfl⟩).typeIs F.slot_tuple_iter.lookup (PU ?_))
  rw[if_neg Pl]
  exact PK (Qj (sD ok (.of r) fun it s' k hi=>xD hn k hi h))
end
section
variable{G:Glo}{env:Env}{sc:Scope}{ctx:List (Option Str)}{A:P0}{O:PP->Prop}{ω:PP->Option Nat}{s:PL}{E:PN->PL->Prop}
theorem jH{p:Pos}{Q:Unit->PL->Prop}(wf:G.Wf)(hs:bu env ctx i)(C:Cond G env sc ctx A O ω ρ s)(hi:ctx[i]? = some (some x))(hk:aT sc x=true)(r:Rep O s.heap v d)
 (h:∀s',KM (bb env) s s'->Cond G env sc ctx A O ω (ρ.set i (.dat d)) s'->Q () s'):PM (PO G.prog G.w) A (QJ (.Name x p) env v) Q E s :=
 Qx (eq (y:=.dat d) wf hs C hi hk ⟨v,rfl,r⟩ h)
theorem sJ:∀(slots:List Nat) (es:List Expr),dI sc ctx slots es=true->(Rw es env).length=slots.length/\(Rw es env).findIdx? (·.1)=none
 | [],[],_=>⟨rfl,rfl⟩
 | [],_::_,h=>absurd h Pl
 | _::_,[],h=>absurd h Pl
 | i::is,e::es,h=>aP (show((cI e fun x U=>ctx[i]? == some (some x)&&aT sc x)&&dI sc ctx is es)=true from h) fun h1 h2=>by
  refine al (sJ is es h2) fun h3 h4=>?_
  refine fg (P:=fun e=>(Rw (e::es) env).length=(i::is).length/\(Rw (e::es) env).findIdx? (·.1)=none) h1 fun x p U=>⟨congrArg (· + 1) h3,?_⟩
  show List.findIdx? _ (_::Rw es env)=_
  rw[List.findIdx?_cons,h4];rfl
theorem xE(wf:G.Wf):∀ {slots:List Nat} {es:List Expr} {vs:List PN} {ds:List PQ} {ρ:List SV} {s:PL} {Q:Unit->PL->Prop},(∀i∈slots,bu env ctx i)->dI sc ctx slots es=true->Cond G env sc ctx A O ω ρ s->RepL O s.heap vs ds->ds.length=slots.length ->
 (∀s',KM (bb env) s s'->Cond G env sc ctx A O ω (eL ρ slots ds) s'->Q () s')->PM (PO G.prog G.w) A (R6 ((Rw es env).map (·.2)) vs) Q E s
 | [],[],_,[],_,s,_,_,_,C,r,_,h=>by cases r;exact PU (h s (KM.of (bz s)) C)
 | [],_::_,_,_,_,_,_,_,hc,_,_,_,_=>absurd hc Pl
 | _::_,[],_,_,_,_,_,_,hc,_,_,_,_=>absurd hc Pl
 | [],[],_,_::_,_,_,_,_,_,_,_,hl,_=>nomatch hl
 | _::_,_::_,_,[],_,_,_,_,_,_,_,hl,_=>nomatch hl
 | i::slots,e::es,_,d::ds,ρ,s,Q,hst,hc,C,r,hl,h=>by
  refine aP (show((cI e fun x U=>ctx[i]? == some (some x)&&aT sc x)&&dI sc ctx slots es)=true from hc) fun h1 h2=>?_
  cases r with
  | cons r1 r2 =>
   refine fg (P:=fun e=>PM (PO G.prog G.w) A (R6 ((Rw (e::es) env).map (·.2)) _) Q E s) h1 fun x p h1=>?_
   refine aP h1 fun h1 h3=>?_
   show PM _ _ (RW _ (QJ (.Name x p) env _) >>= fun U=>R6 ((Rw es env).map (·.2)) _) Q E s
   refine PK (Qj (jH wf (hst i ak) C (P9 h1) h3 r1 fun s' k C'=>?_))
   exact xE wf (fun j hj=>hst j (ar _ hj)) h2 C' (r2.km k C.fr) (Nat.succ.inj hl) fun s'' k' C''=>h s'' (k.trans k') C''
theorem xF{ρ:List SV}{slots:List Nat}{ts:List Expr}{k:Nat}{p:Pos}{v:PN}{d:PQ}{Q:Unit->PL->Prop}(wf:G.Wf)(hst:∀i∈slots,bu env ctx i)(hc:dI sc ctx slots ts=true)(C:Cond G env sc ctx A O ω ρ s)(r:Rep O s.heap v d)(hb:jE d=true/\(cz d).length=slots.length)
 (h:∀s',KM (bb env) s s'->Cond G env sc ctx A O ω (eL ρ slots (cz d)) s'->Q () s'):PM (PO G.prog G.w) A (QJ (.Tuple ts k p) env v) Q E s:=by
 rw[arm_assign_Tuple]
 refine PK (Ql ?_)
 unfold unpack
 refine al (sJ (env:=env) slots ts hc) fun h1 h2=>?_
 rw[h1,h2]
 refine PK (Qj (Em C.ok r hb.1 hb.2 fun vs s' k' rl=>?_))
 exact xE wf hst hc (C.keeps wf k') rl hb.2 fun s'' k'' C''=>h s'' ((KM.of k').trans k'') C''
theorem xG{ρ:List SV}{tup:Bool}{slots:List Nat}{tgt:Expr}{v:PN}{d:PQ}{Q:Unit->PL->Prop}(wf:G.Wf)(hst:∀i∈slots,bu env ctx i)(hc:fC tup slots sc ctx tgt=true)(C:Cond G env sc ctx A O ω ρ s)(r:Rep O s.heap v d)(hb:bindP tup slots d)
 (h:∀s',KM (bb env) s s'->Cond G env sc ctx A O ω (aq tup slots d ρ) s'->Q () s'):PM (PO G.prog G.w) A (QJ tgt env v) Q E s:=by
 cases tup with
 | true=>exact lY (P:=fun tgt=>PM (PO G.prog G.w) A (QJ tgt env v) Q E s) hc fun ts k p hc=>xF wf hst hc C r hb h
 | false =>
  refine dW (P:=fun slots=>(∀i∈slots,bu env ctx i)->(∀s',KM (bb env) s s'->Cond G env sc ctx A O ω (aq false slots d ρ) s'->Q () s')->PM (PO G.prog G.w) A (QJ tgt env v) Q E s) hc (fun i hc hst h=>?_) hst h
  refine fg (P:=fun tgt=>PM (PO G.prog G.w) A (QJ tgt env v) Q E s) hc fun x p hc=>?_
  exact aP hc fun h1 h2=>jH wf (hst i ak) C (P9 h1) h2 r fun s' k C'=>h s' k C'
end
noncomputable def il(elt:Expr)(gens:List QK)(scope:Scope)(pos:Pos)(depth:Nat)(acc:PN)(env:Env)(k:Sem Fin):Sem Fin :=
 match gens[depth+1]? with
 | some g'=>do
  let x <- Qg g'.iter env
  RX g'.iter.pos
  let x <- foldedSetIterable g'.iter env x
  let _ <- runOwn (.compStart (.ListComp elt gens scope pos) (depth+1) (<- RW [x] (pyIter x)) acc env) env
  k
 | none=>((Qg elt env >>= fun x=>call (.builtin "list.append") [acc,x] >>= fun U=>pure ()):Sem Unit) >>= fun U=>k
noncomputable def gO(gens:List QK):Bool:=gens.all fun g=>g.is_async==0
theorem xH{elt tgt iter:Expr}{scope:Scope}{pos:Pos}{it acc:PN}{env:Env}(hz:gO gens=true)(hg:gens[depth]? = some ⟨tgt,iter,ifs,0⟩) :
 compTurn (.ListComp elt gens scope pos) depth it acc env=(do
  RX iter.pos
  match <- pyNext it with
  | none=>pure (.done .next)
  | some v =>
   letOwnedTupleGo tgt it v
   QJ tgt env v
   let mut ok:=true
   for c in ifs do
    if ok then ok <- isTrue c env (Qg c env)
   if ok then
    il elt gens scope pos depth acc env (again (.compLoop (.ListComp elt gens scope pos) depth it acc env))
   else again (.compLoop (.ListComp elt gens scope pos) depth it acc env)):=by
 unfold compTurn il
 dsimp only
 rw[hg]
 dsimp only
 cases h:gens[depth+1]? with
 | none=>rfl
 | some g =>
  have:g.is_async=0:=by
   have:=bC.mp hz g (aG h)
   simpa using this
  obtain⟨a,b,c,d⟩:=g
  dsimp only at this
  subst this
  rfl
section
variable{prog:Qs}{w:Qq}{A:P0}{E:PN->PL->Prop}{R:Result->PL->Prop}{s:PL}
theorem sK{elt:Expr}{scope:Scope}{pos:Pos}{it acc:PN}{env:Env}(hg:gens[depth]? = some ⟨tgt,iter,ifs,0⟩)
 (h0:QW (PO prog w) A (.compLoop (.ListComp elt gens scope pos) depth it acc env) R s)
 (h:∀E,PM (PO prog w) A (pyIter it) (fun it' s'=>QW (PO prog w) A (.compLoop (.ListComp elt gens scope pos) depth it' acc env) R s') E s) :
 QW (PO prog w) A (.compStart (.ListComp elt gens scope pos) depth it acc env) R s:=by
 refine codeAny_of_tree ?_
 show PM _ A ((compStart (.ListComp elt gens scope pos) depth it acc env).onRaise (fun x=>do noteFrame x env;RX theWindowsPlace)) _ _ s
 refine wpAny_notedAt ?_
 unfold compStart
 have hc:(clausesOf (.ListComp elt gens scope pos))[depth]? = some ⟨tgt,iter,ifs,0⟩:=hg
 rw[hc]
 show PM _ _ (ask >>= _) _ _ s
 refine PK (wpAny_askSetting (wpAny_ite ?_))
 split
 ·exact PK (PU (PU (And.intro rfl h0)))
 ·refine PK (R2 ?_)
  show PM _ _ (RX iter.pos >>= _) _ _ s
  exact PK (Ql (PK (PR (h _) (fun it' s' h'=>PU (And.intro rfl h')) fun U U x=>x)))
end
noncomputable def MS(env:Env)(D:PP)(b:PP):Prop:=bb env b\/b=D
inductive AccIs(G:Glo)(O:PP->Prop)(D:PP)(h:Qk)(ds:List PQ):Prop where
 | mk (vs:Array PN) (n:Nat) (l:IsL h D vs n) (r:RepL O h vs.toList ds):AccIs G O D h ds
section
variable{G:Glo}{env:Env}{sc:Scope}{ctx:List (Option Str)}{A:P0}{O O':PP->Prop}{ω:PP->Option Nat}{ρ:List SV}{s s' s₀ s₁:PL}{E:PN->PL->Prop}{D:PP}{ds:List PQ}
theorem AccIs.km(a:AccIs G O D s.heap ds)(k:KM M s s')(hD:¬M D)(hM:∀b,M b->O b):AccIs G O D s'.heap ds :=
 let⟨vs,n,h1,h2⟩:=a;⟨vs,n,k.get _ _ hD h1,h2.km k hM⟩
theorem AccIs.keeps(a:AccIs G O D s.heap ds)(k:PY s s'):AccIs G O D s'.heap ds :=
 let⟨vs,n,h1,h2⟩:=a;⟨vs,n,am k _ _ h1,h2.keeps k⟩
theorem AccIs.grow(a:AccIs G O D s.heap ds)(k:PY s s')(hO:∀b,O' b->O b\/s.heap.get? b=none):AccIs G O' D s'.heap ds :=
 let⟨vs,n,h1,h2⟩:=a
 ⟨vs,n,am k _ _ h1,h2.mono (fun b o U e=>am k b o e) fun b o e q=>(hO b q).elim id fun z=>by rw[z]at e;cases e⟩
theorem c7.grow(r:c7 G O ω h i v x)(wf:G.Wf)(B:G.Base O h)(hk:∀b o,h.get? b=some o->h'.get? b=some o)(hO:∀b,O' b->O b\/h.get? b=none):c7 G O' ω h' i v x:=by
 have hO':∀b o,h.get? b=some o->O' b->O b:=fun b o e q=>(hO b q).elim id fun z=>by rw[z]at e;cases e
 cases x with
 | dat d=>refine x12 r fun u e r=>?_;exact⟨u,e,r.mono (fun b o U e=>hk b o e) hO'⟩
 | own d=>obtain⟨a,vs,n,ds,e1,e2,e3,h1,h2⟩:=r;exact⟨a,vs,n,ds,e1,e2,e3,hk _ _ h1,h2.mono (fun b o U e=>hk b o e) hO'⟩
 | un=>trivial
 | val u=>exact r
 | sor g =>
  refine x23 r fun u S e r hS=>?_
  exact⟨u,S,e,wf.srf g S h h' u r (fun b o q e=>hk b o e) (fun b o q=>B.kp b o q) fun b o q=>hk b o (B.kp b o q),hS⟩
theorem Cond.grow(wf:G.Wf)(C:Cond G env sc ctx A O ω ρ s)(k:PY s s')(hO:∀b,O b->O' b)(hO':∀b,O' b->O b\/s.heap.get? b=none)(ht:∀b,O' b->∃o,s'.heap.get? b=some o):Cond G env sc ctx A O' ω ρ s' :=
 ⟨C.eo,C.co,C.len,⟨C.ok.hok.keeps k,fun b hb q=>(hO' b q).elim (C.ok.hno b hb) fun z=>by(refine x11 (C.ok.hok.there b hb) fun o e=>?_;rw[z]at e;cases e),ht⟩,
  ⟨(C.base.keeps k).kp,fun b q=>(hO' b q).elim (C.base.off b) fun z=>by
   cases e:G.hB.get? b with
   | none=>rfl
   | some o=>rw[C.base.kp b o e]at z;cases z⟩,
  fun b q=>hO b (C.fr b q),fun x c e=>hO c (C.fc x c e),fun b i e=>⟨hO b (C.om b i e).1,(C.om b i e).2⟩,
  let⟨val,F,V⟩:=C.vars;⟨val,F.keeps (am k),fun i x e=>(V i x e).grow wf C.base (am k) hO'⟩⟩
theorem Cond.side(wf:G.Wf)(C:Cond G env sc ctx A O' ω ρ s)(hω:∀b i,ω b=some i->O b)(hfr:∀b,bb env b->O b)(hfc:∀x c,env.cells.lookup x=some c->O c)(hI:¬O I)(hI':O' I)
 (k:KM (· = I) s s'):Cond G env sc ctx A O' ω ρ s':=by
 have hM:∀b,b=I->O' b:=fun b q=>q▸hI'
 obtain⟨val,F,V⟩:=C.vars
 refine C.frame k hM (val:=val) rfl ⟨?_,fun x hx=>?_⟩ fun i x e=>(V i x e).at wf C.base fun b o hb e=>k.get b o (fun q=>?_) e
 ·refine x12 F.loc fun m h1 h2=>?_
  exact⟨m,h1.at' fun o e=>k.get _ o (fun q=>hI (q▸hfr _ (.inl rfl))) e,h2⟩
 ·refine x12 (F.cel x hx) fun c h1 h2=>?_
  exact⟨c,h1,my h2 fun o e=>k.get _ o (fun q=>hI (q▸hfc x c h1)) e⟩
 ·have q:b=I:=q
  rcases hb with hb | hb
  ·exact hI (q▸hω b i hb)
  ·exact hb (q▸hI')
theorem Cond.shrink{h':Qk}{t:Nat}(wf:G.Wf)(C:Cond G env sc ctx A O' ω ρ s)(hO:∀b,O b->O' b)(hω:∀b i,ω b=some i->O b)(hfr:∀b,bb env b->O b)(hfc:∀x c,env.cells.lookup x=some c->O c)(hI:¬O I)(hI':O' I)(hIh:I∉hfp A)
 (hk:∀b o,b≠I->s.heap.get? b=some o->h'.get? b=some o):Cond G env sc ctx A O ω ρ { s with heap:=h',toks:=t }:=by
 obtain⟨val,F,V⟩:=C.vars
 refine⟨C.eo,C.co,C.len,⟨C.ok.hok.frame fun b hb o e=>hk b o (fun q=>hIh (q▸hb)) e,fun b hb q=>C.ok.hno b hb (hO b q),fun b q=>?_⟩,⟨fun b o e=>hk b o (fun q=>?_) (C.base.kp b o e),fun b q=>C.base.off b (hO b q)⟩,hfr,hfc,fun b i e=>⟨hω b i e,(C.om b i e).2⟩,val,⟨?_,fun x hx=>?_⟩,fun i x e=>?_⟩
 ·refine x11 (C.ok.obs b (hO b q)) fun o e=>?_
  exact⟨o,hk b o (fun z=>hI (z▸q)) e⟩
 ·rw[q,C.base.off I hI']at e;cases e
 ·refine x12 F.loc fun m h1 h2=>?_
  exact⟨m,h1.at' fun o e=>hk _ o (fun q=>hI (q▸hfr _ (.inl rfl))) e,h2⟩
 ·refine x12 (F.cel x hx) fun c h1 h2=>?_
  exact⟨c,h1,my h2 fun o e=>hk _ o (fun q=>hI (q▸hfc x c h1)) e⟩
 ·have r:=V i x e
  have hkk:∀b o,¬O' b->s.heap.get? b=some o->h'.get? b=some o:=fun b o n e=>hk b o (fun q=>n (q▸hI')) e
  have hww:∀b o,O b->s.heap.get? b=some o->O b:=fun b o q U=>q
  generalize ρ.getD i .un=y at r
  cases y with
  | dat d=>refine x12 r fun u e r=>?_;exact⟨u,e,(r.mono hkk fun U U U q=>q).weak hO⟩
  | own d =>
   obtain⟨a,vs,n,ds,e1,e2,e3,h1,h2⟩:=r
   exact⟨a,vs,n,ds,e1,e2,e3,hk _ _ (fun q=>hI (q▸hω a i e2)) h1,h2.mono hkk fun b o U q=>hO b q⟩
  | un=>trivial
  | val u=>exact r
  | sor g =>
   refine x23 r fun u S e r hS=>?_
   refine⟨u,S,e,wf.srf g S s.heap h' u r (fun b o q e=>hk b o (fun z=>hI (z▸hω b i (hS b q))) e) (fun b o q=>C.base.kp b o q) (fun b o q=>hk b o (fun z=>?_) (C.base.kp b o q)),hS⟩
   rw[z,C.base.off I hI']at q;cases q
theorem xI:∀(slots:List Nat) (ds:List PQ) (ρ:List SV) (i:Nat),i∉slots->(eL ρ slots ds).getD i .un=ρ.getD i .un
 | [],_,_,_,_=>rfl
 | _::_,[],_,_,_=>rfl
 | j::js,d::ds,ρ,i,h=>by
  rw[show eL ρ (j::js) (d::ds)=eL (ρ.set j (.dat d)) js ds from rfl,xI js ds _ i fun q=>h (ar _ q),dJ]
  rw[if_neg fun z=>h (by rw[<- z.1];exact ak)]
theorem sL{tup:Bool}{slots:List Nat}{d:PQ}{i:Nat}(h:i∉slots):(aq tup slots d ρ).getD i .un=ρ.getD i .un:=by
 unfold aq;split<;>exact xI _ _ _ _ h
theorem xJ:∀(slots:List Nat) (ds:List PQ) (ρ:List SV),(eL ρ slots ds).length=ρ.length
 | [],_,_=>rfl
 | _::_,[],_=>rfl
 | j::js,d::ds,ρ=>by rw[show eL ρ (j::js) (d::ds)=eL (ρ.set j (.dat d)) js ds from rfl,xJ js ds];exact Pm
theorem En{tup:Bool}{slots:List Nat}{d:PQ}:(aq tup slots d ρ).length=ρ.length:=by
 unfold aq;split<;>exact xJ _ _ _
theorem xK{Q:PN->PL->Prop}(a:AccIs G O D s.heap ds)(hD:O D)(r:Rep O s.heap v d)(hl:ds.length<=16777216)
 (h:∀h',QM D s.heap h'->AccIs G O D h' (ds++[d])->(∃vs n,IsL s.heap D vs n)->Q .none { s with heap:=h' }):PM (PO G.prog G.w) A (call (.builtin "list.append") [.ref D,v]) Q E s:=by
 obtain⟨vs,n,h1,h2⟩:=a
 have e:=h2.length
 rw[cQ]at e
 refine append_at h1 (fun h' hs hD'=>h h' hs ⟨_,_,hD',?_⟩ ⟨vs,n,h1⟩) (by show vs.size<=Q7;rw[e];exact hl)
 rw[Sl]
 have hk:∀b o,¬O b->s.heap.get? b=some o->h'.get? b=some o:=fun b o n e=>hs.extBut b o (fun q=>n (q▸hD)) e
 exact(h2.mono hk fun U U U q=>q).append (.cons (r.mono hk fun U U U q=>q) .nil)
inductive KI(M:PP->Prop)(I:PP)(s s':PL):Prop where
 | mk (h':Qk) (t:Nat) (e:s'={ s with heap:=h',toks:=t }) (k:∀b o,¬M b->b≠I->s.heap.get? b=some o->h'.get? b=some o) (th:∀b o,b≠I->s.heap.get? b=some o->∃o',h'.get? b=some o'):KI M I s s'
theorem KI.km(k0:PY s₀ s)(hI:s₀.heap.get? I=none)(k:KI M I s s'):KM M s₀ s':=by
 refine x22 k0 fun h1 t1 e2 g01=>?_;subst e2
 obtain⟨h2,t2,rfl,g12,th12⟩:=k
 have ne:∀b o,s₀.heap.get? b=some o->b≠I:=fun b o e q=>by rw[q,hI]at e;cases e
 exact⟨h2,t2,rfl,fun b o n e=>g12 b o n (ne b o e) (g01 b o e),fun b o e=>th12 b o (ne b o e) (g01 b o e)⟩
structure CI(G:Glo)(env:Env)(sc:Scope)(ctx:List (Option Str))(A:P0)(O':PP->Prop)(ω:PP->Option Nat)(ρ:List SV)(D I:PP)(s₁:PL)(St:Qk->Prop)(ds:List PQ)(s:PL):Prop where
 st:St s.heap
 C:Cond G env sc ctx A O' ω ρ s
 a:AccIs G O' D s.heap ds
 k:KM (fun b=>MS env D b\/b=I) s₁ s
theorem xL{elt tgt iter:Expr}{tests:List Expr}{gens:List QK}{scope:Scope}{pos:Pos}{depth:Nat}{its:List PQ}{I:PP}{fp wr:List PP}{P:Nat->PN->Prop}{St:Nat->Qk->Prop}{R:Result->PL->Prop}{tup:Bool}{slots:List Nat}
 {T:PQ->Bool} {f:PQ->List PQ} {Oh:PP->Prop} {h₀:Qk} (wf:G.Wf) (hz:gO gens=true) (hg:gens[depth]? = some ⟨tgt,iter,tests,0⟩)
 (C:Cond G env sc ctx A (fun b=>O b\/b=I) ω ρ s₁) (hω:∀b i,ω b=some i->O b) (hfr:∀b,bb env b->O b) (hfc:∀x c,env.cells.lookup x=some c->O c) (hnI:¬O I)
 (hD:O D) (hDF:¬bb env D) (acc:AccIs G (fun b=>O b\/b=I) D s₁.heap ds)
 (W:Walks G.prog G.w A I fp wr its.length P St) (hst:St 0 s₁.heap) (hfM:∀b∈fp,¬MS env D b) (hwr:wr=[I])
 (htame:∀i h',St i h'->∃o T,h'.get? I=some o/\o.cls=.type T/\i5 T=true)
 (hO1:∀b o,h₀.get? b=some o->(O b\/b=I)->Oh b) (k0:∀b o,¬Oh b->h₀.get? b=some o->s₁.heap.get? b=some o)
 (hit:∀i v,P i v->∃d,its[i]? = some d/\∀h',(∀b o,¬Oh b->h₀.get? b=some o->h'.get? b=some o)->Rep Oh h' v d)
 (hsl:∀i∈slots,ρ.getD i .un=.un) (hsto:∀i∈slots,bu env ctx i) (htgt:fC tup slots sc ctx tgt=true) (hb:∀d∈its,bindP tup slots d)
 (htest:∀d∈its,∀O' s E,Cond G env sc ctx A O' ω (aq tup slots d ρ) s ->
  PM (PO G.prog G.w) A (forIn tests true fun c r=>if r=true then do let ok <- isTrue c env (Qg c env);pure (Qw ok)else pure (Qw r)) (fun b s'=>b=T d/\PY s s') E s)
 (hbody:∀d∈its,T d=true->∀O' ds' s k Q E,Cond G env sc ctx A O' ω (aq tup slots d ρ) s->O' D->AccIs G O' D s.heap ds'->ds'.length+(f d).length<=16777216 ->
  (∀s',KM (MS env D) s s'->Cond G env sc ctx A O' ω (aq tup slots d ρ) s'->AccIs G O' D s'.heap (ds'++f d)->PM (PO G.prog G.w) A k Q E s') ->
  PM (PO G.prog G.w) A (il elt gens scope pos depth (.ref D) env k) Q E s)
 (hlen:ds.length+(its.flatMap fun d=>if T d=true then f d else[]).length<=16777216)
 (hR:∀s',KI (MS env D) I s₁ s'->Cond G env sc ctx A O ω ρ s'->AccIs G O D s'.heap (ds++its.flatMap fun d=>if T d=true then f d else[])->R (.ok .next) s') :
 QW (PO G.prog G.w) A (.compLoop (.ListComp elt gens scope pos) depth (.ref I) (.ref D) env) R s₁:=by
 subst hwr
 have hIf:I∉hfp A:=fun q=>C.ok.hno I q (.inr rfl)
 have hDI:D≠I:=fun q=>hnI (q▸hD)
 have hMO:∀b,MS env D b->O b:=fun b q=>q.elim (hfr b) fun z=>z▸hD
 generalize hg':(fun d=>if T d=true then f d else[])=g at hlen hR
 refine codeAny_loop rfl (fun n s=>∃i,i<=its.length/\n=its.length+1 - i/\CI G env sc ctx A (fun b=>O b\/b=I) ω ρ D I s₁ (St i) (ds++(its.take i).flatMap g) s) ?_ (its.length+1) ⟨0,bx _,rfl,hst,C,by simpa using acc,KM.of (bz _)⟩
 rintro n s ⟨i,hi,rfl,hst,C1,a1,k1⟩
 show PM _ A ((compTurn (.ListComp elt gens scope pos) depth (.ref I) (.ref D) env).onRaise (fun x=>do noteFrame x env;theTreesLotGoes x)) _ _ s
 refine wpAny_noted ?_
 rw[xH hz hg]
 by_cases hlt:i<its.length
 ·refine PK (Ql (PK (W.item i _ _ _ hlt hst fun v h₂ t₂ hP hst₂ hk₂=>?_)))
  refine x23 (htame (i+1) h₂ hst₂) fun oI TI hoI hcI htI=>?_
  refine PK (mq hoI hcI htI ?_)
  have k2:KM (· = I) s { s with heap:=h₂,toks:=t₂ }:=⟨h₂,t₂,rfl,fun b o n e=>hk₂ b o (by simpa using n) e,fun b o e=>if q:b=I then q▸⟨oI,hoI⟩else⟨o,hk₂ b o (by simpa using q) e⟩⟩
  have C2:=C1.side wf hω hfr hfc hnI (.inr rfl) k2
  refine x12 (hit i v hP) fun d hd rd=>?_
  have hmem:d∈its:=aG hd
  have kept:∀b o,¬Oh b->h₀.get? b=some o->h₂.get? b=some o:=fun b o n e=>by
   have n1:¬(O b\/b=I):=fun q=>n (hO1 b o e q)
   exact hk₂ b o (by simpa using fun q=>n1 (.inr q)) (k1.get b o (fun q=>q.elim (fun z=>n1 (.inl (hMO b z))) fun z=>n1 (.inr z)) (k0 b o n e))
  have rd':Rep (fun b=>O b\/b=I) h₂ v d:=(rd h₀ fun U U U e=>e).mono kept fun b o e q=>hO1 b o e q
  have a2:AccIs G (fun b=>O b\/b=I) D h₂ (ds++(its.take i).flatMap g):=a1.km k2 hDI fun b q=>.inr q
  refine PK (xG wf hsto htgt C2 rd' (hb d hmem) fun s3 k3 C3=>?_)
  have a3:=a2.km k3 hDF fun b q=>.inl (hfr b q)
  refine PK (PR (htest d hmem _ s3 _ C3) (fun b s4 h4=>?_) fun U U x=>x)
  refine al h4 fun e0 k4=>?_;subst e0
  have C4:=C3.keeps wf k4
  have a4:=a3.keeps k4
  have e1:its.take (i+1)=its.take i++[d]:=by rw[List.take_add_one,hd];rfl
  have e2:(its.take (i+1)).flatMap g=(its.take i).flatMap g++g d:=by rw[e1,dB];simp
  have hwk:∀j,ρ.getD j .un=.un\/ρ.getD j .un=(aq tup slots d ρ).getD j .un:=fun j=>if q:j∈slots then .inl (hsl j q)else .inr (sL q).symm
  have fin:∀s5,KM (MS env D) s4 s5->Cond G env sc ctx A (fun b=>O b\/b=I) ω (aq tup slots d ρ) s5->AccIs G (fun b=>O b\/b=I) D s5.heap (ds++(its.take i).flatMap g++g d) ->
   ∃m,m<its.length+1 - i/\∃i,i<=its.length/\m=its.length+1 - i/\CI G env sc ctx A (fun b=>O b\/b=I) ω ρ D I s₁ (St i) (ds++(its.take i).flatMap g) s5:=by
   intro s5 k5 C5 a5
   refine⟨its.length+1 - (i+1),Nat.sub_lt_sub_left (ei hlt) (qN i),i+1,hlt,rfl,?_,C5.weak En.symm hwk,by rw[e2,<- CD];exact a5,?_⟩
   ·refine W.frame _ _ _ hst₂ fun b hb o e=>?_
    exact k5.get b o (hfM b hb) (am k4 b o (k3.get b o (fun q=>hfM b hb (.inl q)) e))
   ·exact((k1.trans (k2.mono fun b q=>.inr q)).trans ((k3.mono fun b q=>.inl (.inl q)).trans (KM.of k4))).trans (k5.mono fun b q=>.inl q)
  cases hT:T d with
  | false =>
   rw[if_neg Pl]
   have hgd:g d=[]:=by rw[<- hg'];simp[hT]
   exact PU ⟨rfl,fin s4 (KM.of (bz _)) C4 (by rw[hgd,dC];exact a4)⟩
  | true =>
   rw[if_pos rfl]
   have hgd:g d=f d:=by rw[<- hg'];simp[hT]
   refine hbody d hmem hT _ _ s4 _ _ _ C4 (.inl hD) a4 ?_ fun s5 k5 C5 a5=>PU ⟨rfl,fin s5 k5 C5 (by rw[hgd];exact a5)⟩
   have:((its.take (i+1)).flatMap g).length<=(its.flatMap g).length:=by
    conv=>rhs;rw[<- Py (i+1) its,dB,bj]
    exact oO ..
   rw[e2,hgd,bj]at this
   rw[bj];exact aa (cH (o5 ..)) (aa (fa this _) hlen)
 ·have hin:i=its.length:=BN hi (c5.mp hlt)
  subst hin
  refine PK (Ql (PK (W.done _ _ _ hst fun h₂ t₂ hk₂=>PU ?_)))
  have hk:∀b o,b≠I->s.heap.get? b=some o->h₂.get? b=some o:=fun b o n e=>hk₂ b o (by simpa using n) e
  obtain⟨h2,t2,e12,g12,th12⟩:=k1
  subst e12
  refine hR _ ⟨h₂,t₂,rfl,fun b o n nI e=>?_,fun b o nI e=>?_⟩ (C1.shrink wf (fun b q=>.inl q) hω hfr hfc hnI (.inr rfl) hIf hk) ?_
  ·exact hk b o nI (g12 b o (fun q=>q.elim n nI) e)
  ·refine x11 (th12 b o e) fun o' e'=>?_
   exact⟨o',hk b o' nI e'⟩
  ·rw[wh]at a1
   obtain⟨vs,n,l1,l2⟩:=a1
   exact⟨vs,n,hk _ _ hDI l1,l2.mono (fun b o n e=>hk b o (fun q=>n (.inr q)) e) fun b o U q=>.inl q⟩
end
noncomputable def c9:Nat->List (Str × QY)->List (Str × PP)
 | _,[]=>[]
 | n,(x,k)::r=>if k==.cell then(x,n)::c9 (n+1) r else c9 n r
theorem mB{n:Nat}{x:Str}{k:QY}{r:List (Str × QY)}:c9 n ((x,k)::r)=if k==.cell then(x,n)::c9 (n+1) r else c9 n r:=rfl
theorem im:∀(names:List (Str × QY)) (n:Nat) (acc:List (Str × PP)),Ry n names acc=(c9 n names).reverse++acc
 | [],_,_=>rfl
 | (x,k)::r,n,acc=>by
  unfold Ry;rw[mB]
  split
  ·rw[im r,List.reverse_cons,CD];rfl
  ·exact im r n acc
noncomputable def clo(cells:List (Str × PP)):List (Str × QY)->List (Str × PP)
 | []=>[]
 | (x,k)::r=>if k==.free then(x,(cells.lookup x).getD 0)::clo cells r else clo cells r
theorem py{cells:List (Str × PP)}{x:Str}{k:QY}{r:List (Str × QY)}:clo cells ((x,k)::r)=if k==.free then(x,(cells.lookup x).getD 0)::clo cells r else clo cells r:=rfl
theorem xM{scope:Scope}{env:Env}(h:∀p∈scope.names,p.2=.free->(env.cells.lookup p.1).isSome=true):closureFor scope env=pure (clo env.cells scope.names).reverse:=by
 have key:∀(names:List (Str × QY)) (acc:List (Str × PP)),(∀p∈names,p.2=.free->(env.cells.lookup p.1).isSome=true) ->
  (forIn names acc fun x cs=>match x with | (name,kind)=>if(kind==Qz)=true then do let a <- cellOf env name;pure (Qw ((name,a)::cs))else pure (Qw cs):Sem (List (Str × PP)))=pure ((clo env.cells names).reverse++acc):=by
  intro names
  induction names with
  | nil=>intro acc _;rfl
  | cons p r ih =>
   intro acc h
   obtain⟨x,k⟩:=p
   have hr:=fun p hp=>h p (ar _ hp)
   rw[PI]
   by_cases hk:(k==Qz)=true
   ·have:=h (x,k) ak (by simpa using hk)
    refine x11 (rJ.mp this) fun c hc=>?_
    dsimp only at hc
    have hce:cellOf env x=pure c:=by unfold cellOf;rw[hc]
    simp only[hk,if_true]
    rw[py]
    rw[if_pos hk,hce,pure_bind,pure_bind]
    dsimp only
    rw[ih _ hr,hc,List.reverse_cons,CD];rfl
   ·simp only[So]at hk
    simp only[hk,wj,if_false,pure_bind]
    rw[py]
    simp only[hk,wj,if_false]
    exact ih acc hr
 unfold closureFor
 have:=key scope.names [] h
 rw[dC]at this
 simp only[bind_pure]
 exact this
theorem jI{α:Type}:∀ {l:List (Str × α)} {x:Str} {c:α},(l.map (·.1)).Nodup->(x,c)∈l->l.lookup x=some c:=fun{l}=>by
 induction l with
 | nil=>exact fun _ hm=>nomatch hm
 | cons p r ih =>
  intro x c hn hm
  obtain⟨y,d⟩:=p
  rw[a9,c6]at hn
  rw[List.lookup_cons]
  rcases ae.mp hm with e | hm'
  ·cases e;simp
  ·have:(x==y)=false:=by
    rw[beq_eq_false_iff_ne];intro q
    exact hn.1 (aD.mpr ⟨_,hm',q⟩)
   rw[this];exact ih hn.2 hm'
theorem jJ{α:Type}:∀ {l:List (Str × α)} {x:Str} {c:α},(x,c)∈l->∃c',l.lookup x=some c':=fun{l}=>by
 induction l with
 | nil=>exact fun hm=>nomatch hm
 | cons p r ih =>
  intro x c hm
  obtain⟨y,d⟩:=p
  rw[List.lookup_cons]
  by_cases h:(x==y)=true
  ·rw[h];exact⟨_,rfl⟩
  ·simp only[So]at h
   rw[h]
   rcases ae.mp hm with e | hm
   ·cases e;simp at h
   ·exact ih hm
theorem fk:∀ {names:List (Str × QY)} {n:Nat} {x:Str} {c:PP},(x,c)∈c9 n names->@LE.le Nat _ n c/\(x,QZ)∈names
 | (y,k)::r,n,x,c,h=>by
  rw[mB]at h
  split at h
  ·rename_i hk
   rcases ae.mp h with e | h
   ·cases e
    have:k=.cell:=by simpa using hk
    subst this
    exact⟨aN _,ak⟩
   ·have:=fk h
    exact⟨lX this.1,ar _ this.2⟩
  ·have:=fk h
   exact⟨this.1,ar _ this.2⟩
theorem Eo:∀ {names:List (Str × QY)} {n:Nat} {x y:Str} {c:PP},(x,c)∈c9 n names->(y,c)∈c9 n names->x=y:=fun{names}=>by
 induction names with
 | nil=>exact fun h=>nomatch h
 | cons p r ih =>
  intro n x y c h1 h2
  obtain⟨z,k⟩:=p
  rw[mB]at h1 h2
  split at h1
  ·rename_i hk
   rw[if_pos hk]at h2
   rcases ae.mp h1 with e1 | q1<;>rcases ae.mp h2 with e2 | q2
   ·cases e1;cases e2;rfl
   ·cases e1;exact absurd (fk q2).1 (Nat.not_succ_le_self _)
   ·cases e2;exact absurd (fk q1).1 (Nat.not_succ_le_self _)
   ·exact ih q1 q2
  ·rename_i hk
   rw[if_neg hk]at h2
   exact ih h1 h2
theorem i7:∀ {names:List (Str × QY)} {n:Nat} {x:Str},(x,QZ)∈names->∃c,(x,c)∈c9 n names
 | (y,k)::r,n,x,h=>by
  rw[mB]
  rcases ae.mp h with e | h
  ·cases e
   simp
  ·split
   ·refine x11 (i7 (n:=n+1) h) fun c hc=>?_
    exact⟨c,ar _ hc⟩
   ·exact i7 h
theorem sM:∀(names:List (Str × QY)) (h:Qk) (x:Str) (c:PP),(x,c)∈c9 h.objs.size names->(Sd h names).IsCell c none:=fun names=>by
 induction names with
 | nil=>exact fun _ _ _ hm=>nomatch hm
 | cons p r ih =>
  intro h x c hm
  obtain⟨y,k⟩:=p
  rw[mB]at hm
  unfold Sd
  split
  ·rename_i hk
   rw[if_pos hk]at hm
   rcases ae.mp hm with e | hm
   ·cases e
    exact⟨_,Rr r _ _ _ (PZ _ rfl),rfl⟩
   ·exact ih _ x c (by rw[QF];exact hm)
  ·rename_i hk
   rw[if_neg hk]at hm
   exact ih h x c hm
theorem mC{cells:List (Str × PP)}:∀ {names:List (Str × QY)} {x:Str} {c:PP},(x,c)∈clo cells names->(x,Qz)∈names/\c=(cells.lookup x).getD 0
 | (y,k)::r,x,c,h=>by
  rw[py]at h
  split at h
  ·rename_i hk
   rcases ae.mp h with e | h
   ·cases e
    have:k=.free:=by simpa using hk
    subst this
    exact⟨ak,rfl⟩
   ·exact⟨ar _ (mC h).1,(mC h).2⟩
  ·exact⟨ar _ (mC h).1,(mC h).2⟩
theorem Ep{cells:List (Str × PP)}:∀ {names:List (Str × QY)} {x:Str},(x,Qz)∈names->∃c,(x,c)∈clo cells names:=fun{names}=>by
 induction names with
 | nil=>exact fun h=>nomatch h
 | cons p r ih =>
  intro x h
  obtain⟨y,k⟩:=p
  rw[py]
  rcases ae.mp h with e | h
  ·cases e;simp
  ·split
   ·refine x11 (ih h) fun c hc=>?_
    exact⟨c,ar _ hc⟩
   ·exact ih h
theorem Er{names:List (Str × QY)}{cells:List (Str × PP)}{n:Nat}(hnd:(names.map (·.1)).Nodup)(hfree:∀x,(x,Qz)∈names->∃c,cells.lookup x=some c/\@LT.lt Nat _ c n)
 (hinj:∀x y c,cells.lookup x=some c->cells.lookup y=some c->x=y) :
 (∀x,names.lookup x=some .free->∃c,(Ry n names (clo cells names).reverse).lookup x=some c/\cells.lookup x=some c) /\
 (∀x,names.lookup x=some .cell->∃c,(Ry n names (clo cells names).reverse).lookup x=some c/\(x,c)∈c9 n names) /\
 (∀x c,(Ry n names (clo cells names).reverse).lookup x=some c->(x,c)∈c9 n names\/(cells.lookup x=some c/\@LT.lt Nat _ c n/\(x,Qz)∈names)) /\
 (∀x y c,(Ry n names (clo cells names).reverse).lookup x=some c->(Ry n names (clo cells names).reverse).lookup y=some c->x=y):=by
 rw[im]
 have hcl:∀x c,(x,c)∈(c9 n names).reverse++(clo cells names).reverse->(x,c)∈c9 n names\/(cells.lookup x=some c/\@LT.lt Nat _ c n/\(x,Qz)∈names):=by
  intro x c h
  rcases au.mp h with h | h
  ·exact .inl (iQ.mp h)
  ·refine al (mC (iQ.mp h)) fun h1 h2=>?_
   refine x12 (hfree x h1) fun c' e l=>?_
   rw[e]at h2
   subst h2
   exact .inr ⟨e,l,h1⟩
 refine⟨fun x hx=>?_,fun x hx=>?_,fun x c h=>?_,fun x y c h1 h2=>?_⟩
 ·have hm:=mem_of_lookup hx
  refine x11 (Ep (cells:=cells) hm) fun c hc=>?_
  refine x11 (jJ (gz (c9 n names).reverse (iQ.mpr hc))) fun c' hc'=>?_
  refine⟨c',hc',?_⟩
  rcases hcl x c' (mem_of_lookup hc')with h | h
  ·have:=jI hnd (fk h).2
   rw[hx]at this;cases this
  ·exact h.1
 ·have hm:=mem_of_lookup hx
  refine x11 (i7 (n:=n) hm) fun c hc=>?_
  refine x11 (jJ (c8 (clo cells names).reverse (iQ.mpr hc))) fun c' hc'=>?_
  refine⟨c',hc',?_⟩
  rcases hcl x c' (mem_of_lookup hc')with h | h
  ·exact h
  ·have:=jI hnd h.2.2
   rw[hx]at this;cases this
 ·rcases hcl x c (mem_of_lookup h)with h | h
  ·exact .inl h
  ·exact .inr h
 ·rcases hcl x c (mem_of_lookup h1)with h1 | h1<;>rcases hcl y c (mem_of_lookup h2)with h2 | h2
  ·exact Eo h1 h2
  ·exact absurd (fk h1).1 (Nat.not_le_of_lt h2.2.1)
  ·exact absurd (fk h2).1 (Nat.not_le_of_lt h1.2.1)
  ·exact hinj x y c h1.1 h2.1
theorem xN(F:Str × QY->Str × QY)(hF:∀p,(F p).1=p.1):∀(l:List (Str × QY)) (x:Str),(l.map F).lookup x=(l.lookup x).map fun k=>(F (x,k)).2
 | [],_=>rfl
 | (y,k)::r,x=>by
  have h1:=hF (y,k)
  rw[a9]
  rw[show F (y,k)=((F (y,k)).1,(F (y,k)).2)from rfl,h1,List.lookup_cons,List.lookup_cons]
  dsimp only
  by_cases h:(x==y)=true
  ·rw[h]
   have:x=y:=by simpa using h
   subst this;rfl
  ·simp only[So]at h
   rw[h];exact xN F hF r x
theorem pz(sc scope:Scope)(x:Str):(cC sc scope).names.lookup x=(scope.names.lookup x).map fun k=>if(k==Qz&&sc.kind==RJ&&sc.names.lookup x==some QZ)=true then QZ else k:=by
 unfold cC
 rw[xN _ (fun p=>by split<;>rfl)]
 congr 1
 funext k
 split<;>rfl
theorem mD(h:(cK scope ctx vars)[i]? = some (some x)):(ctx[i]? = some (some x)/\scope.names.lookup x=some .free)\/(ctx.length<=i/\vars[i - ctx.length]? = some x):=by
 unfold cK at h
 by_cases hi:i<ctx.length
 ·rw[List.getElem?_append_left (by simpa using hi),bK]at h
  left
  cases e:ctx[i]? with
  | none=>rw[e]at h;simp at h
  | some o =>
   rw[e]at h
   cases o with
   | none=>simp at h
   | some y =>
    simp only[Sp,Option.bind_some]at h
    by_cases hb:(scope.names.lookup y==some Qz)=true
    ·rw[if_pos hb]at h
     simp only[RU]at h
     subst h
     exact⟨rfl,by simpa using hb⟩
    ·rw[if_neg hb]at h;simp at h
 ·right
  rw[gD (by simpa using hi),bK]at h
  simp only[ag]at h
  refine⟨by lia,?_⟩
  cases e:vars[i - ctx.length]? with
  | none=>rw[e]at h;simp at h
  | some y=>rw[e]at h;simpa using h
theorem Es:(cK scope ctx vars).length=ctx.length+vars.length:=by unfold cK;simp
theorem sO:∀ {l:List Str} {i j:Nat} {x:Str},l.Nodup->l[i]? = some x->l[j]? = some x->i=j
 | y::r,0,0,_,_,_,_=>rfl
 | y::r,0,j+1,x,hn,h1,h2=>by
  simp at h1 h2;subst h1
  exact absurd (aG h2) (c6.mp hn).1
 | y::r,i+1,0,x,hn,h1,h2=>by
  simp at h1 h2;subst h2
  exact absurd (aG h1) (c6.mp hn).1
 | y::r,i+1,j+1,x,hn,h1,h2=>by
  simp at h1 h2
  rw[sO (c6.mp hn).2 h1 h2]
structure SOk(sc scope:Scope)(vars:List Str):Prop where
 kind:scope.kind=.function
 nd:(scope.names.map (·.1)).Nodup
 vnd:vars.Nodup
 free:∀x,(x,Qz)∈scope.names->(sc.names.lookup x=some .cell\/sc.names.lookup x=some .free)/\(x==ofString "__classdict__")=false
 var:∀x∈vars,scope.names.lookup x=some .local\/scope.names.lookup x=some .cell
theorem SOk.of(h:mw sc scope vars=true):SOk sc scope vars:=by
 unfold mw at h
 simp only[di,decide_eq_true_eq,beq_iff_eq,bC,Pn,bne_iff_ne,ne_eq]at h
 refine al h fun z0 h5=>?_;refine al z0 fun z0 h4=>?_;refine al z0 fun z0 h3=>?_;obtain⟨h1,h2⟩:=z0
 refine⟨h1,h2,h3,fun x hx=>?_,h5⟩
 rcases h4 _ hx with q | ⟨q1,q2⟩
 ·exact absurd rfl q
 ·exact⟨q1,by simpa using q2⟩
section
variable{G:Glo}{env:Env}{sc:Scope}{ctx:List (Option Str)}{A:P0}{O O':PP->Prop}{ω:PP->Option Nat}{ρ:List SV}{s s' s₀ s₁ s₂:PL}{E:PN->PL->Prop}{D:PP}{ds:List PQ}
noncomputable def gP(scope:Scope)(C:PP)(env:Env):Env:=compEnvC scope (Ry (C+1) scope.names (clo env.cells scope.names).reverse) C env
theorem pA{t:Nat}(wf:G.Wf)(K:Cond G env sc ctx A O ω ρ s₁)(so:SOk sc scope vars)(hC:C=h₃.objs.size)(k:PY s₁ { s₁ with heap:=h₃,toks:=t })
 (hO:∀b,O b->O' b) (hO2:∀b,O' b->O b\/s₁.heap.get? b=none) (hO3:∀b,O' b->∃o,(Sd (h₃.push { cls:=.type "dict",data:=.dict #[] }) scope.names).get? b=some o) (hOC:O' C) (hOn:∀x c,(x,c)∈c9 (C+1) scope.names->O' c) :
 Cond G (gP scope C env) (cC sc scope) (cK scope ctx vars) A O' ω (ρ++ba vars.length .un) { s₁ with heap:=Sd (h₃.push { cls:=.type "dict",data:=.dict #[] }) scope.names,toks:=t } /\
 ∀i,ctx.length<=i->bu (gP scope C env) (cK scope ctx vars) i:=by
 subst hC
 generalize hh4:Sd (h₃.push { cls:=.type "dict",data:=.dict #[] }) scope.names=h₄ at hO3 ⊢
 have hk4:∀b o,h₃.get? b=some o->h₄.get? b=some o:=fun b o e=>hh4▸Rr _ _ b o (PX _ e)
 have k4:PY s₁ { s₁ with heap:=h₄,toks:=t }:=⟨h₄,t,rfl,fun b o e=>hk4 b o (am k b o e)⟩
 have lt3:∀b o,s₁.heap.get? b=some o->b<h₃.objs.size:=fun b o e=>Qe (am k b o e)
 have gr:=K.grow wf k4 hO hO2 hO3
 obtain⟨val,F,V⟩:=K.vars
 have cellAt:∀x,(x,Qz)∈scope.names->∃c,env.cells.lookup x=some c/\s₁.heap.IsCell c (val x):=fun x hx =>
  F.cel x ((so.free x hx).1.imp (fun q=>(K.eo.kindOf x).trans q) fun q=>(K.eo.kindOf x).trans q)
 obtain⟨c1,c2,c3,c4⟩:=Er (names:=scope.names) (cells:=env.cells) (n:=h₃.objs.size+1) so.nd (fun x hx=>by
  obtain⟨c,e,o,q,_⟩:=cellAt x hx
  exact⟨c,e,ei (lt3 c o q)⟩) K.eo.inj
 have hsc:relabel scope env=cC sc scope:=by
  unfold relabel cC
  rw[K.eo.scope]
  congr 1
  refine fx fun p U=>?_
  obtain⟨n,kd⟩:=p
  show(if(kd==Qz&&sc.kind==RJ&&env.kindOf n==some QZ)=true then _ else _)=_
  rw[K.eo.kindOf n]
 have kindOf:∀x,(gP scope h₃.objs.size env).kindOf x=(cC sc scope).names.lookup x:=fun x=>by rw[<- hsc];rfl
 have look:∀x kd,(cC sc scope).names.lookup x=some kd->∃k0,scope.names.lookup x=some k0/\(kd=k0\/(k0=.free/\kd=.cell)):=fun x kd h=>by
  rw[pz]at h
  cases e:scope.names.lookup x with
  | none=>rw[e]at h;cases h
  | some k0 =>
   rw[e]at h
   simp only[Sp,RU]at h
   refine⟨k0,rfl,?_⟩
   split at h
   ·rename_i hc
    simp only[di,beq_iff_eq]at hc
    exact .inr ⟨hc.1.1,h.symm⟩
   ·exact .inl h.symm
 have keep:∀x,scope.names.lookup x=some .local\/scope.names.lookup x=some .cell->(cC sc scope).names.lookup x=scope.names.lookup x:=fun x h=>by
  rw[pz]
  rcases h with h | h<;>rw[h]<;>rfl
 have hlocals:(gP scope h₃.objs.size env).locals=h₃.objs.size:=rfl
 have hns:h₄.Ns h₃.objs.size (fun U=>none):=hh4▸(Heap.Ns.new h₃ (.type "dict")).keeps (Rr _ _)
 have hcells:∀x c,(x,c)∈c9 (h₃.objs.size+1) scope.names->h₄.IsCell c none:=fun x c hm=>hh4▸sM _ _ x c (by rw[QF];exact hm)
 refine⟨⟨⟨hsc,by show(cC sc scope).kind=_;exact so.kind,K.eo.globals,K.eo.builtins,fun x hx=>?_,fun x y c h1 h2=>c4 x y c h1 h2,fun x c h=>?_⟩,⟨fun i j x h1 h2=>?_,fun i x h=>?_⟩,by rw[Es,bj,List.length_replicate,K.len],gr.ok,gr.base,fun b hb=>?_,fun x c h=>?_,fun b i e=>⟨hO b (K.om b i e).1,fun hb=>?_⟩,
  fun x=>if scope.names.lookup x=some .free then val x else none,⟨⟨_,hns,fun x hx=>?_⟩,fun x hx=>?_⟩,fun i x h=>?_⟩,fun i hi x c h1 h2 h3=>?_⟩
 ·refine x12 (look x _ hx) fun k0 e q=>?_
  rcases q with rfl | ⟨rfl,q⟩
  ·exact(so.free x (mem_of_lookup e)).2
  ·cases q
 ·rcases c3 x c h with h | h
  ·left
   have:=jI so.nd (fk h).2
   rw[keep x (.inr this)];exact this
  ·have:=jI so.nd h.2.2
   rw[pz,this]
   simp only[Sp,RU]
   split
   ·exact .inl rfl
   ·exact .inr rfl
 ·rcases mD h1 with⟨a1,b1⟩ | ⟨a1,b1⟩<;>rcases mD h2 with⟨a2,b2⟩ | ⟨a2,b2⟩
  ·exact K.co.inj i j x a1 a2
  ·rcases so.var x (aG b2)with q | q<;>rw[b1]at q<;>cases q
  ·rcases so.var x (aG b1)with q | q<;>rw[b2]at q<;>cases q
  ·refine x11 (fU.mp b1) fun l1 e1=>?_
   refine x11 (fU.mp b2) fun l2 e2=>?_
   have:=sO so.vnd b1 b2
   lia
 ·rcases mD h with⟨a1,b1⟩ | ⟨a1,b1⟩
  ·right
   rw[pz,b1]
   simp only[Sp,RU]
   split
   ·exact .inl rfl
   ·exact .inr rfl
  ·rcases so.var x (aG b1)with q | q
   ·left;rw[keep x (.inl q)];exact q
   ·right;left;rw[keep x (.inr q)];exact q
 ·rcases hb with rfl | ⟨_,x,_,h⟩
  ·exact hOC
  ·rcases c3 x b h with h | h
   ·exact hOn x b h
   ·exact hO b (K.fc x b h.1)
 ·rcases c3 x c h with h | h
  ·exact hOn x c h
  ·exact hO c (K.fc x c h.1)
 ·refine x11 (K.ok.obs b (K.om b i e).1) fun o q=>?_
  have hl:=lt3 b o q
  rcases hb with rfl | ⟨x,h⟩
  ·exact bl _ hl
  ·rcases c3 x b h with h | h
   ·exact c5.mpr (lX (fk h).1) hl
   ·exact(K.om b i e).2 (.inr ⟨x,h.1⟩)
 ·rw[kindOf]at hx
  refine x12 (look x _ hx) fun k0 e q=>?_
  rcases q with rfl | ⟨_,q⟩
  ·rw[e];simp
  ·cases q
 ·simp only[kindOf]at hx
  have hx':scope.names.lookup x=some .cell\/scope.names.lookup x=some .free:=by
   rcases hx with hx | hx
   ·refine x12 (look x _ hx) fun k0 e q=>?_
    rcases q with rfl | ⟨rfl,q⟩
    ·exact .inl e
    ·exact .inr e
   ·refine x12 (look x _ hx) fun k0 e q=>?_
    rcases q with rfl | ⟨rfl,q⟩
    ·exact .inr e
    ·cases q
  rcases hx' with hx' | hx'
  ·refine x12 (c2 x hx') fun c e1 e2=>?_
   refine⟨c,e1,?_⟩
   rw[hx',if_neg (by decide)]
   exact hcells x c e2
  ·refine x12 (c1 x hx') fun c e1 e2=>?_
   refine⟨c,e1,?_⟩
   rw[hx',if_pos rfl]
   refine x12 (cellAt x (mem_of_lookup hx')) fun c' e3 e4=>?_
   rw[e2]at e3;cases e3
   exact e4.keeps (am k4)
 ·dsimp only
  rcases mD h with⟨a1,b1⟩ | ⟨a1,b1⟩
  ·rw[b1,if_pos rfl]
   have hi:i<ρ.length:=by rw[K.len];exact(fU.mp a1).1
   have:(ρ++ba vars.length SV.un).getD i .un=ρ.getD i .un:=by
    rw[aj,aj,List.getElem?_append_left hi]
   rw[this]
   exact(V i x a1).grow wf K.base (am k4) hO2
  ·have:(ρ++ba vars.length SV.un).getD i .un=.un:=by
    rw[aj,gD (by rw[K.len];exact a1),vE]
    split<;>rfl
   rw[this];trivial
 ·rw[kindOf]at h2
  rcases mD h1 with⟨a1,b1⟩ | ⟨a1,b1⟩
  ·exact absurd (fU.mp a1).1 (by lia)
  ·have:scope.names.lookup x=some .cell:=by
    rcases so.var x (aG b1)with q | q
    ·rw[keep x (.inl q),q]at h2;cases h2
    ·exact q
   refine x12 (c2 x this) fun c' e1 e2=>?_
   have h3':(Ry (h₃.objs.size+1) scope.names (clo env.cells scope.names).reverse).lookup x=some c:=h3
   rw[e1]at h3';cases h3'
   exact(fk e2).1
theorem pB(h:fD e=true):foldedSetIterable e env x=pure x:=by
 cases e<;>first | rfl | exact absurd h Pl
theorem xO{M:Model}{scope:Scope}{globals:PP}{cl:List (Str × PP)}{qual:Str}{Q:Env->PL->Prop}
 (h:Q (newEnv scope s.heap.objs.size globals (Ry (s.heap.objs.size+1) scope.names cl) qual none .none (some env) R3) { s with heap:=Sd (s.heap.push { cls:=.type "dict",data:=.dict #[] }) scope.names }) :
 PM M A (newFunctionEnv scope globals cl [] qual none .none (some env)) Q E s:=by
 simp only[newFunctionEnv,Option.isSome_some,if_true]
 refine PK (wpAny_alloc ?_)
 refine PK (wpAny_layCells _ (fun name kind cells=>by cases hkc:kind==QZ<;>simp) _ _ _ _ ?_)
 rw[show({ s with heap:=s.heap.push { cls:=.type "dict",data:=.dict #[] } }:PL).heap.objs.size=s.heap.objs.size+1 from QF ..]
 rw[List.forIn_nil]
 exact PK (PU (PU h))
theorem Et{use:Option (PN->Sem Unit)}{pos':Pos}{Q:PN->PL->Prop}{elt tgt iter:Expr}{tests:List Expr}{gs:List QK}{scope:Scope}{pos:Pos}{tup:Bool}{slots:List Nat}{its:List PQ}{F:Prop}{vars:List Str}{T:PQ->Bool}{f:PQ->List PQ}
 (wf:G.Wf) (K:Cond G env sc ctx A O ω ρ s) (hz:gO (⟨tgt,iter,tests,0⟩::gs)=true) (hns:fD iter=true) (so:SOk sc scope vars)
 (hI:∀E,PM (PO G.prog G.w) A (Qg iter env) (fun x s₁=>PY s s₁/\∀E,PM (PO G.prog G.w) A (pyIter x) (fun it s₂=>PY s₁ s₂/\ItIs G.prog G.w A O F s₁.heap s₂.heap it its) E s₁) E s)
 (hnew:∀i∈slots,ctx.length<=i) (htgt:fC tup slots (cC sc scope) (cK scope ctx vars) tgt=true) (hb:∀d∈its,bindP tup slots d)
 (htest:∀d∈its,∀env' O' s E,Cond G env' (cC sc scope) (cK scope ctx vars) A O' ω (aq tup slots d (ρ++ba vars.length .un)) s ->
  PM (PO G.prog G.w) A (forIn tests true fun c r=>if r=true then do let ok <- isTrue c env' (Qg c env');pure (Qw ok)else pure (Qw r)) (fun b s'=>b=T d/\PY s s') E s)
 (hbody:∀d∈its,T d=true->∀env' D O' ds' s k Q E,(∀i,ctx.length<=i->bu env' (cK scope ctx vars) i)->Cond G env' (cC sc scope) (cK scope ctx vars) A O' ω (aq tup slots d (ρ++ba vars.length .un)) s ->
  O' D->¬bb env' D->(∀i,ω D≠some i)->AccIs G O' D s.heap ds'->ds'.length+(f d).length<=16777216 ->
  (∀s',KM (MS env' D) s s'->Cond G env' (cC sc scope) (cK scope ctx vars) A O' ω (aq tup slots d (ρ++ba vars.length .un)) s'->AccIs G O' D s'.heap (ds'++f d)->PM (PO G.prog G.w) A k Q E s') ->
  PM (PO G.prog G.w) A (il elt (⟨tgt,iter,tests,0⟩::gs) scope pos 0 (.ref D) env' k) Q E s)
 (hlen:(its.flatMap fun d=>if T d=true then f d else[]).length<=16777216)
 (hfin:∀(D C:PP) s' m,PY s s'->s.heap.get? C=none->D≠C->s'.heap.Ns C m->Rep (fun b=>O b\/b=C) s'.heap (.ref D) (.list (its.flatMap fun d=>if T d=true then f d else[]))->compPost (PO G.prog G.w) A E use Q (.ref D) C (.ok .next) s') :
 PM (PO G.prog G.w) A (comprehension (.ListComp elt (⟨tgt,iter,tests,0⟩::gs) scope pos) scope env pos' (newList []) false (Qg iter env) use) Q E s:=by
 have hclos:closureFor scope env=pure (clo env.cells scope.names).reverse:=xM fun p hp hk=>by
  obtain⟨val,F,V⟩:=K.vars
  obtain⟨x,kd⟩:=p
  dsimp only at hk;subst hk
  refine x12 (F.cel x ((so.free x hp).1.imp (fun q=>(K.eo.kindOf x).trans q) fun q=>(K.eo.kindOf x).trans q)) fun c e U=>?_
  exact rJ.mpr ⟨c,e⟩
 refine wpAny_comprehension_free (use:=use) (g:=⟨tgt,iter,tests,0⟩) (gs:=gs) rfl (fun x=>pB hns) hclos so.kind (fun x hx hl=>by
  obtain⟨y,kd⟩:=x
  dsimp only at hl ⊢;subst hl
  exact jI so.nd hx) (PR (hI E) (fun x s₁ h₁=>?_) fun U U e=>e)
 refine al h₁ fun k01 h₁=>?_
 refine PR (h₁ E) (fun it s₂ h₂=>?_) fun U U e=>e
 obtain⟨k12,I,fp,wr,P,St,rfl,W,hst,hfp,hwr,_,htame,hIfp,hit⟩:=h₂
 have K1:=K.keeps wf k01
 refine Q2 (xO ?_) (by size_fits)
 refine x22 k12 fun h2 t2 e2 g12=>?_;subst e2
 dsimp only at hst hfp htame hit ⊢
 replace hfp:∀b∈fp,b<h2.objs.size:=fun b hb=>(hfp b hb).elim fun U e=>Qe e
 have hIlt:I<h2.objs.size:=hfp I hIfp
 generalize hh3:h2.push { cls:=.type "list",dict:=none,data:=.seq ([]:List PN).toArray }=h3
 have hsz3:h3.objs.size=h2.objs.size+1:=by rw[<- hh3,QF]
 have g23:∀b o,h2.get? b=some o->h3.get? b=some o:=fun b o e=>hh3▸PX _ e
 have hD3:IsL h3 h2.objs.size #[] 0:=hh3▸PZ _ rfl
 generalize hh4:Sd (h3.push { cls:=.type "dict",data:=.dict #[] }) scope.names=h4
 have g34:∀b o,h3.get? b=some o->h4.get? b=some o:=fun b o e=>hh4▸Rr _ _ b o (PX _ e)
 have g14:∀b o,s₁.heap.get? b=some o->h4.get? b=some o:=fun b o e=>g34 b o (g23 b o (g12 b o e))
 have old:∀b o,s₁.heap.get? b=some o->b<h2.objs.size:=fun b o e=>Qe (g12 b o e)
 have fresh:∀b,@LE.le Nat _ h2.objs.size b->s₁.heap.get? b=none:=fun b hb=>by
  cases e:s₁.heap.get? b with
  | none=>rfl
  | some o=>exact absurd (old b o e) (c5.mpr hb)
 let Ob:PP->Prop:=fun b=>O b\/b=h2.objs.size\/b=h3.objs.size\/∃x,(x,b)∈c9 (h3.objs.size+1) scope.names
 have hOb:∀b,Ob b->O b\/@LE.le Nat _ h2.objs.size b:=fun b q=>by
  rcases q with q | rfl | rfl | ⟨x,q⟩
  ·exact .inl q
  ·exact .inr (aN _)
  ·exact .inr (by rw[hsz3];exact fV _)
  ·have:=(fk q).1
   rw[hsz3]at this
   exact .inr (lX (lX this))
 have hOb4:∀b,Ob b->∃o,h4.get? b=some o:=fun b q=>by
  rcases q with q | rfl | rfl | ⟨x,q⟩
  ·refine x11 (K1.ok.obs b q) fun o e=>?_;exact⟨o,g14 b o e⟩
  ·exact⟨_,g34 _ _ hD3⟩
  ·exact⟨_,hh4▸Rr _ _ _ _ (PZ _ rfl)⟩
  ·refine x12 (sM scope.names (h3.push { cls:=.type "dict",data:=.dict #[] }) x b (by rw[QF];exact q)) fun o e U=>?_
   exact⟨o,hh4▸e⟩
 have hnI:¬Ob I:=fun q=>by
  rcases hOb I q with q | q
  ·refine x11 (K1.ok.obs I q) fun o e=>?_;rw[hwr.2]at e;cases e
  ·exact c5.mpr q hIlt
 have k13:PY s₁ { s₁ with heap:=h3,toks:=t2 }:=⟨h3,t2,rfl,fun b o e=>g23 b o (g12 b o e)⟩
 have C0:=pA (O':=Ob) (h₃:=h3) (t:=t2) wf K1 so rfl k13 (fun b q=>.inl q) (fun b q=>(hOb b q).imp id (fresh b)) (by rw[hh4];exact hOb4) (.inr (.inr (.inl rfl))) fun x c q=>.inr (.inr (.inr ⟨x,q⟩))
 have C1:=pA (O':=fun b=>Ob b\/b=I) (h₃:=h3) (t:=t2) wf K1 so rfl k13 (fun b q=>.inl (.inl q)) (fun b q=>by
  rcases q with q | rfl
  ·exact(hOb b q).imp id (fresh b)
  ·exact .inr hwr.2) (fun b q=>by
  rw[hh4]
  rcases q with q | rfl
  ·exact hOb4 b q
  ·refine x22 (htame 0 _ hst) fun o T e U=>?_
   exact⟨o,g34 _ _ (g23 _ _ e)⟩) (.inl (.inr (.inr (.inl rfl)))) fun x c q=>.inl (.inr (.inr (.inr ⟨x,q⟩)))
 rw[hh4]at C0 C1
 have hMSge:∀b,MS (gP scope h3.objs.size env) h2.objs.size b->@LE.le Nat _ h2.objs.size b:=fun b q=>by
  rcases q with(rfl | ⟨q,_⟩) | rfl
  ·show @LE.le Nat _ h2.objs.size h3.objs.size;rw[hsz3];exact fV _
  ·have q : @LT.lt Nat _ h3.objs.size b:=q
   rw[hsz3]at q;exact lX (Os q)
  ·exact aN _
 have hDF:¬bb (gP scope h3.objs.size env) h2.objs.size:=fun q=>by
  rcases q with q | ⟨q,_⟩
  ·have q:h2.objs.size=h3.objs.size:=q
   rw[hsz3]at q;exact dT (qN _) q
  ·have q : @LT.lt Nat _ h3.objs.size h2.objs.size:=q
   rw[hsz3]at q;exact c5.mpr (fV _) q
 have hDw:∀i,ω h2.objs.size≠some i:=fun i e=>by
  refine x11 (K1.ok.obs _ (K1.om _ i e).1) fun o q=>?_
  exact bl _ (old _ o q)
 have unAt:∀i,ctx.length<=i->(ρ++ba vars.length SV.un).getD i .un=.un:=fun i hi=>by
  rw[aj,gD (by rw[K.len];exact hi),vE]
  split<;>rfl
 have loop:QW (PO G.prog G.w) A (.compLoop (.ListComp elt (⟨tgt,iter,tests,0⟩::gs) scope pos) 0 (.ref I) (.ref h2.objs.size) (gP scope h3.objs.size env))
  (compPost (PO G.prog G.w) A E use Q (.ref h2.objs.size) h3.objs.size) { s₁ with heap:=h4,toks:=t2 }:=by
  refine xL (O:=Ob) (Oh:=O) (h₀:=s₁.heap) (ds:=[]) wf hz rfl C1.1 (fun b i e=>(C0.1.om b i e).1) C0.1.fr C0.1.fc hnI (.inr (.inl rfl)) hDF ⟨#[],0,g34 _ _ hD3,.nil⟩
   W (W.frame _ _ _ hst fun b U o e=>g34 b o (g23 b o e)) (fun b hb q=>c5.mpr (hMSge b q) (hfp b hb)) hwr.1 htame
   (fun b o e q=>by
    rcases q with q | rfl
    ·exact(hOb b q).elim id fun z=>absurd (old b o e) (c5.mpr z)
    ·rw[hwr.2]at e;cases e) (fun b o U e=>g14 b o e) hit (fun i hi=>unAt i (hnew i hi)) (fun i hi=>C0.2 i (hnew i hi)) htgt hb
   (fun d hd O' s E C=>htest d hd _ O' s E C) (fun d hd hT O' ds' s k Q E C hD a hl hk=>hbody d hd hT _ _ O' ds' s k Q E C0.2 C hD hDF hDw a hl hk) (by simpa using hlen) ?_
  intro s' ki C a
  obtain⟨val,F,V⟩:=C.vars
  refine x12 F.loc fun m hm U=>?_
  obtain⟨vs,n,l1,l2⟩:=a
  obtain⟨h5,t5,rfl,g45,_⟩:=ki
  have hDC:h2.objs.size≠h3.objs.size:=by rw[hsz3];exact dT (qN _)
  have kk:PY s₁ { s₁ with heap:=h5,toks:=t5 }:=⟨h5,t5,rfl,fun b o e=>by
   have hb:=old b o e
   refine g45 b o (fun q=>c5.mpr (hMSge b q) hb) (fun q=>?_) (g14 b o e)
   rw[q,hwr.2]at e;cases e⟩
  refine hfin h2.objs.size h3.objs.size _ m (aX k01 kk) ?_ hDC hm (.list (n:=n) (fun q=>?_) l1 ?_)
  ·cases e:s.heap.get? h3.objs.size with
   | none=>rfl
   | some o =>
    have:=old _ o (am k01 _ o e)
    rw[hsz3]at this
    exact absurd this (c5.mpr (fV _))
  ·rcases q with q | q
   ·refine x11 (K1.ok.obs _ q) fun o e=>?_
    exact bl _ (old _ o e)
   ·exact hDC q
  ·rw[List.nil_append]at l2
   exact l2.mono (fun b o n e=>e) fun b o U q=>q.elim .inl fun q=>.inr (.inr (.inl q))
 exact sK rfl loop fun E=>W.self 0 _ _ _ (W.frame _ _ _ hst fun b U o e=>g34 b o (g23 b o e)) loop
theorem Eu(k:PY s s')(hC:s.heap.get? C=none)(hm:s'.heap.Ns C m)(r:Rep (fun b=>O b\/b=C) s'.heap (.ref D) d)(hQ:∀v s',PV O s d v s'->Q v s') :
 compPost (PO G.prog G.w) A E none Q (.ref D) C (.ok .next) s':=by
 refine⟨m,hm,fun h' hs'=>hQ _ _ ⟨?_,r.mono (fun b o n e=>hs'.extBut b o (fun q=>n (.inr q)) e) fun b o U q=>.inl q⟩⟩
 refine x22 k fun h1 t1 e2 g=>?_;subst e2
 exact⟨h',t1,rfl,fun b o e=>hs'.extBut b o (fun q=>by rw[q,hC]at e;cases e) (g b o e)⟩
theorem Ev{use:PN->Sem Unit}{Q:PN->PL->Prop}{D C:PP}{d:PQ}{ρ':List SV}(wf:G.Wf)(K:Cond G env sc ctx A O ω ρ s)(k:PY s s')(hC:s.heap.get? C=none)(hm:s'.heap.Ns C m)
 (r:Rep (fun b=>O b\/b=C) s'.heap (.ref D) d)
 (huse:∀O' v s' E Q',Cond G env sc ctx A O' ω ρ s'->Rep O' s'.heap v d->(∀s'',KM (bb env) s' s''->Cond G env sc ctx A O' ω ρ' s''->Q' () s'')->PM (PO G.prog G.w) A (use v) Q' E s')
 (hQ:∀s',KM (bb env) s s'->Cond G env sc ctx A O ω ρ' s'->Q .none s') :
 compPost (PO G.prog G.w) A E (some use) Q (.ref D) C (.ok .next) s':=by
 have hCO:¬O C:=fun q=>by refine x11 (K.ok.obs C q) fun o e=>?_;rw[hC]at e;cases e
 have K':Cond G env sc ctx A (fun b=>O b\/b=C) ω ρ s':=K.grow wf k (fun b q=>.inl q) (fun b q=>by
  rcases q with q | rfl
  ·exact .inl q
  ·exact .inr hC) fun b q=>by
  rcases q with q | rfl
  ·refine x11 (K.ok.obs b q) fun o e=>?_;exact⟨o,am k b o e⟩
  ·refine x32 hm fun o U U e U=>?_;exact⟨o,e⟩
 show PM _ A (use (.ref D)) _ E s'
 refine huse _ _ s' _ _ K' r fun s'' ku K''=>?_
 have hCF:¬bb env C:=fun q=>hCO (K.fr C q)
 refine x33 hm fun o es ep e hd hr=>?_
 refine⟨m,⟨o,es,ep,ku.get _ o hCF e,hd,hr⟩,fun h' hs'=>?_⟩
 have hk:∀b o,b≠C->s''.heap.get? b=some o->h'.get? b=some o:=fun b o n e=>hs'.extBut b o n e
 refine hQ _ ?_ ((K''.shrink (t:=s''.toks) wf (fun b q=>.inl q) (fun b i e=>(K.om b i e).1) K.fr K.fc hCO (.inr rfl) (fun q=>?_) hk))
 ·refine x22 k fun h1 t1 e2 g1=>?_;subst e2
  obtain⟨h2,t2,rfl,g2,th2⟩:=ku
  have ne:∀b o,s.heap.get? b=some o->b≠C:=fun b o e q=>by rw[q,hC]at e;cases e
  exact⟨h',t2,rfl,fun b o n e=>hk b o (ne b o e) (g2 b o n (g1 b o e)),fun b o e=>by
   refine x11 (th2 b o (g1 b o e)) fun o' e'=>?_
   exact⟨o',hk b o' (ne b o e) e'⟩⟩
 ·refine x11 (K.ok.hok.there C q) fun o e=>?_
  rw[hC]at e;cases e
end
noncomputable def i8(t:Bool)(O:PP->Prop)(h:Qk)(v:PN)(d:PQ):Prop:=if t=true then bg O h v d else Rep O h v d
theorem i8.of(r:Rep O h v d):i8 t O h v d:=by
 unfold i8;split
 ·exact .of r
 ·exact r
theorem i8.tt(r:i8 true O h v d):bg O h v d:=r
theorem i8.ff(r:i8 false O h v d):Rep O h v d:=r
noncomputable abbrev cF(t:Bool)(O:PP->Prop)(s:PL)(d:PQ):PN->PL->Prop:=fun v s'=>PY s s'/\i8 t O s'.heap v d
section
variable(G:Glo)(Φ:List FEntry)
noncomputable def aQ(e:IX):Prop:=∀sc ctx ast t env A O ω ρ s E,chk Φ e sc ctx ast=true->Cond G env sc ctx A O ω ρ s->aI (kx Φ e) A->pre Φ e t ρ->PM (PO G.prog G.w) A (Qg ast env) (cF t O s (den Φ e ρ)) E s
noncomputable def dw(e:IX):Prop:=∀sc ctx ast env A O ω ρ s E,chk Φ e sc ctx ast=true->Cond G env sc ctx A O ω ρ s->aI (kx Φ e) A->pre Φ e false ρ->eK (den Φ e ρ)=true->PM (PO G.prog G.w) A (isTrue ast env (Qg ast env)) (PB s (aA (den Φ e ρ))) E s
noncomputable def i9(e:IX):Prop:=∀sc ctx asts env A O ω ρ s E,cj Φ e sc ctx asts=true->Cond G env sc ctx A O ω ρ s->aI (kx Φ e) A->dX Φ e ρ->PM (PO G.prog G.w) A (spliced (asts.map fun a=>(false,Qg a env))) (fun vs s'=>PY s s'/\RepL O s'.heap vs (bE Φ e ρ)) E s
noncomputable def kC(e:IX):Prop:=∀sc ctx oe env A O ω ρ s E,jF Φ e sc ctx oe=true->Cond G env sc ctx A O ω ρ s->aI (kx Φ e) A->pv Φ e ρ->PM (PO G.prog G.w) A (evalPart oe env) (PV O s (gH Φ e ρ)) E s
noncomputable def mE(e:IX):Prop:=∀o sc ctx asts env A O ω ρ s E pos,cj Φ e sc ctx asts=true->Cond G env sc ctx A O ω ρ s->aI (kx Φ e) A->mu Φ o e ρ->PM (PO G.prog G.w) A (boolOp pos (ig o) (evalEach asts env)) (PV O s (fh Φ o e ρ)) E s
noncomputable def mG(e:IX):Prop:=∀o sc ctx asts env A O ω ρ s E,cj Φ e sc ctx asts=true->Cond G env sc ctx A O ω ρ s->aI (kx Φ e) A->mu Φ o e ρ->eK (fh Φ o e ρ)=true->PM (PO G.prog G.w) A (allTrue (ig o) asts env) (PB s (aA (fh Φ o e ρ))) E s
noncomputable def ja(e:IX):Prop:=∀sc ctx asts env A O ω ρ s E,cj Φ e sc ctx asts=true->Cond G env sc ctx A O ω ρ s->aI (kx Φ e) A->kB Φ e ρ ->
 PM (PO G.prog G.w) A (forIn asts true fun c r=>if r=true then do let ok <- isTrue c env (Qg c env);pure (Qw ok)else pure (Qw r)) (fun b s'=>b=dH Φ e ρ/\PY s s') E s
noncomputable def gh(e:IX):Prop:=∀sc ctx ast t env A O ω ρ s E,fj Φ e sc ctx ast=true->Cond G env sc ctx A O ω ρ s->aI (kx Φ e) A->gI Φ e t ρ ->
 PM (PO G.prog G.w) A (Qg ast env) (fun x s₁=>PY s s₁/\∀E,PM (PO G.prog G.w) A (pyIter x) (fun it s₂=>PY s₁ s₂/\ItIs G.prog G.w A O (t=false) s₁.heap s₂.heap it (bS Φ e ρ)) E s₁) E s
noncomputable def jb(e:IX):Prop:=∀sc ctx elt gens scope pos depth env A O ω ρ s E D ds k Q,gL Φ e sc ctx (gens.drop (depth+1)) elt=true->gO gens=true->Cond G env sc ctx A O ω ρ s->O D->¬bb env D->(∀i,ω D≠some i)->(∀i∈gK e,ρ.getD i .un=.un/\bu env ctx i)->(gK e).Nodup ->
 aI (kx Φ e) A->mv Φ e ρ->AccIs G O D s.heap ds->ds.length+(fB Φ e ρ).length<=16777216 ->
 (∀s',KM (MS env D) s s'->Cond G env sc ctx A O ω ρ s'->AccIs G O D s'.heap (ds++fB Φ e ρ)->PM (PO G.prog G.w) A k Q E s') ->
 PM (PO G.prog G.w) A (il elt gens scope pos depth (.ref D) env k) Q E s
structure Snd(e:IX):Prop where
 ev:aQ G Φ e
 tst:dw G Φ e
 ls:i9 G Φ e
 op:kC G Φ e
 bo:mE G Φ e
 boT:mG G Φ e
 ts:ja G Φ e
 it:gh G Φ e
 gn:jb G Φ e
end
section
variable{G:Glo}{Φ:List FEntry}
theorem sQ(h:∀sc ctx asts,cj Φ e sc ctx asts=false):i9 G Φ e/\mE G Φ e/\mG G Φ e/\ja G Φ e :=
 ⟨fun sc ctx asts U U U U U U U hc=>(Pl ((h sc ctx asts).symm.trans hc)).elim,fun U sc ctx asts U U U U U U U U hc=>(Pl ((h sc ctx asts).symm.trans hc)).elim,fun U sc ctx asts U U U U U U U hc=>(Pl ((h sc ctx asts).symm.trans hc)).elim,fun sc ctx asts U U U U U U U hc=>(Pl ((h sc ctx asts).symm.trans hc)).elim⟩
theorem sR(h:∀sc ctx oe,jF Φ e sc ctx oe=false):kC G Φ e:=fun sc ctx oe U U U U U U U hc=>(Pl ((h sc ctx oe).symm.trans hc)).elim
theorem pC(h:∀sc ctx gs elt,gL Φ e sc ctx gs elt=false):jb G Φ e:=fun sc ctx elt gens U U depth U U U U U U U U U U U hc=>(Pl ((h sc ctx (gens.drop (depth+1)) elt).symm.trans hc)).elim
theorem pD(h:∀sc ctx ast,fj Φ e sc ctx ast=false):gh G Φ e:=fun sc ctx ast U U U U U U U U hc=>(Pl ((h sc ctx ast).symm.trans hc)).elim
theorem jd(h:∀sc ctx ast,chk Φ e sc ctx ast=false):aQ G Φ e/\dw G Φ e :=
 ⟨fun sc ctx ast U U U U U U U U hc=>(Pl ((h sc ctx ast).symm.trans hc)).elim,fun sc ctx ast U U U U U U U hc=>(Pl ((h sc ctx ast).symm.trans hc)).elim⟩
set_option backward.match.sparseCases false in
noncomputable def dK:Expr->Bool
 | .UnaryOp .Not ..=>false
 | .BoolOp ..=>false
 | .IfExp ..=>false
 | .Compare ..=>false
 | _=>true
set_option tactic.hygienic true in
theorem kD(h:dK ast=true):isTrue ast env whole=(do let v <- whole;RX ast.pos;RW [v] (truthy v)):=by
 cases ast<;>first | rfl | exact absurd h Pl | skip
 rename_i op x p
 cases op<;>first | rfl | exact absurd h Pl
theorem mH(r:Rep O h v d)(hb:eK d=true):v=.bool (aA d):=by
 cases d<;>first | exact absurd hb Pl | skip
 cases r;rfl
theorem Ew(h:aQ G Φ e)(hp:∀sc ctx ast,chk Φ e sc ctx ast=true->dK ast=true):dw G Φ e:=by
 intro sc ctx ast env A O ω ρ s E hc C R hpre hb
 rw[kD (hp _ _ _ hc)]
 refine PK (PR (h sc ctx ast false env A O ω ρ s E hc C R hpre) (fun v s' hv=>PK (Ql (Qj ?_))) fun U U x=>x)
 rw[mH hv.2.ff hb]
 exact Qp ⟨rfl,hv.1⟩
theorem Ex(h:∀ρ,eK (den Φ e ρ)=false):dw G Φ e:=by
 intro sc ctx ast env A O ω ρ s E hc C R hpre hb
 rw[h]at hb;cases hb
theorem cF.of(k:PY s s₁)(h:PV O s₁ d v s'):cF t O s d v s':=⟨aX k h.1,.of h.2⟩
theorem pE{prog:Qs}{w:Qq}{A:P0}{E:PN->PL->Prop}{s:PL}{base:Expr}{o r:PN}{Q:Unit->PL->Prop}(h:Q () s):PM (PO prog w) A (letTemporaryGo base o r) Q E s:=wpAny_letTemporaryGo h
end
section
variable{G:Glo}{Φ:List FEntry}
theorem Ey(i:Nat):aQ G Φ (.var i):=by
 intro sc ctx ast t env A O ω ρ s E hc C R hp
 refine fg (P:=fun ast=>PM (PO G.prog G.w) A (Qg ast env) (cF t O s (den Φ (.var i) ρ)) E s) hc fun x p hc=>?_
 replace hc:ctx[i]? = some (some x)/\x≠ofString "__debug__":=aP hc fun h1 h2=>⟨P9 h1,bne_iff_ne.mp h2⟩
 obtain⟨val,F,V⟩:=C.vars
 have hv:=V i x hc.1
 refine RK ?_ (by simpa using hc.2)
 replace hp:SV.ok t (ρ.getD i .un):=hp
 have hden:den Φ (.var i) ρ=(ρ.getD i .un).data:=rfl
 rw[hden]
 generalize ρ.getD i .un=y at hp hv
 cases y with
 | dat d =>
  refine x12 hv fun u e r=>?_
  exact gM C.eo F e (C.co.kd i x hc.1) ⟨bz s,.of r⟩
 | own d =>
  cases t<;>first | exact hp.elim | skip
  obtain⟨a,vs,n,ds,e1,e2,e3,h1,h2⟩:=hv
  exact gM C.eo F e1 (C.co.kd i x hc.1) ⟨bz s,.inr ⟨a,vs,n,ds,rfl,e3,h1,h2⟩⟩
 | un=>cases t<;>first | exact hp.elim | skip
 | val u=>cases t<;>first | exact hp.elim | skip
 | sor g=>cases t<;>first | exact hp.elim | skip
theorem xP(h:sG c d=true)(hQ:∀v s',PY s s'->(∀(O:PP->Prop) h',Rep O h' v d)->Q v s'):PM (PO G.prog G.w) A (Qg (.Constant c k p) env) Q E s:=by
 cases c<;>first | (exact absurd h Pl) | skip
 ·cases d<;>first | (exact absurd h Pl) | skip
  exact Ra (hQ _ _ (bz s) fun U U=>.none)
 ·cases d<;>first | (exact absurd h Pl) | skip
  cases P9 h;exact wpAny_Constant_bool (hQ _ _ (bz s) fun U U=>.bool _)
 ·cases d<;>first | (exact absurd h Pl) | skip
  cases P9 h;exact Re (hQ _ _ (ay s _) fun U U=>.int _ _)
 ·cases d<;>first | (exact absurd h Pl) | skip
  cases P9 h;exact RM (hQ _ _ (ay s _) fun U U=>.str _ _)
theorem Ez(d:PQ):aQ G Φ (.lit d):=by
 intro sc ctx ast t env A O ω ρ s E hc C R hp
 exact r9 (P:=fun ast=>PM (PO G.prog G.w) A (Qg ast env) (cF t O s (den Φ (.lit d) ρ)) E s) hc fun c k p h=>xP h fun v s' k r=>⟨k,.of (r _ _)⟩
theorem EA(op:Rf)(a b:IX)(ha:aQ G Φ a)(hb:aQ G Φ b)(wf:G.Wf):aQ G Φ (.bin op a b):=by
 intro sc ctx ast t env A O ω ρ s E hc C R hp
 refine wK (P:=fun ast=>PM (PO G.prog G.w) A (Qg ast env) (cF t O s (den Φ (.bin op a b) ρ)) E s) hc fun l o r p hc=>?_
 refine eh hc fun ho c1 c2=>?_
 cases P9 ho
 refine wpAny_BinOp (PR (ha sc ctx l false env A O ω ρ s E c1 C (R.le (aH _ _)) hp.1) (fun v s₁ h₁=>?_) fun U U x=>x)
 have C1:=C.keeps wf h₁.1
 refine PR (hb sc ctx r false env A O ω ρ s₁ E c2 C1 (R.le (ao _ _)) hp.2.1) (fun u s₂ h₂=>?_) fun U U x=>x
 have C2:=C1.keeps wf h₂.1
 exact PR (xe C2.ok.ob (h₁.2.ff.keeps h₂.1) h₂.2.ff hp.2.2) (fun v s₃ h₃=>.of (aX h₁.1 h₂.1) h₃) fun U U x=>x
theorem EB(op:CmpOp)(a b:IX)(ha:aQ G Φ a)(hb:aQ G Φ b)(wf:G.Wf):aQ G Φ (.cmp op a b)/\dw G Φ (.cmp op a b):=by
 constructor
 ·intro sc ctx ast t env A O ω ρ s E hc C R hp
  refine pe (P:=fun ast=>PM (PO G.prog G.w) A (Qg ast env) (cF t O s (den Φ (.cmp op a b) ρ)) E s) hc fun l o r p hc=>?_
  refine gF hc fun ho c1 c2 c3=>?_
  cases P9 ho
  replace c3:behindInMarks op r=false:=by rw[jx]at c3;exact c3
  have hu:=R.units
  refine wpAny_Compare1 (PR (ha sc ctx l true env A O ω ρ s E c1 C (R.le (aH _ _)) hp.1) (fun v s₁ h₁=>?_) fun U U x=>x) c3
  have C1:=C.keeps wf h₁.1
  refine PR (hb sc ctx r true env A O ω ρ s₁ E c2 C1 (R.le (ao _ _)) hp.2.1) (fun u s₂ h₂=>?_) fun U U x=>x
  refine PR (sy hu (h₁.2.tt.keeps h₂.1) h₂.2.tt hp.2.2) (fun v s₃ h₃=>?_) fun U U x=>x
  refine al h₃ fun e0 k3=>?_;subst e0
  exact⟨aX (aX h₁.1 h₂.1) k3,.of (.bool _)⟩
 ·intro sc ctx ast env A O ω ρ s E hc C R hp _
  refine pe (P:=fun ast=>PM (PO G.prog G.w) A (isTrue ast env (Qg ast env)) (PB s (aA (den Φ (.cmp op a b) ρ))) E s) hc fun l o r p hc=>?_
  refine gF hc fun ho c1 c2 c3=>?_
  cases P9 ho
  replace c3:behindInMarks op r=false:=by rw[jx]at c3;exact c3
  have hu:=R.units
  refine QA (PR (ha sc ctx l true env A O ω ρ s E c1 C (R.le (aH _ _)) hp.1) (fun v s₁ h₁=>?_) fun U U x=>x) c3
  have C1:=C.keeps wf h₁.1
  refine PR (hb sc ctx r true env A O ω ρ s₁ E c2 C1 (R.le (ao _ _)) hp.2.1) (fun u s₂ h₂=>?_) fun U U x=>x
  refine PR (sy hu (h₁.2.tt.keeps h₂.1) h₂.2.tt hp.2.2) (fun v s₃ h₃=>?_) fun U U x=>x
  refine al h₃ fun e0 k3=>?_;subst e0
  exact Qp ⟨rfl,aX (aX h₁.1 h₂.1) k3⟩
theorem EC(a:IX)(ha:aQ G Φ a):aQ G Φ (.neg a):=by
 intro sc ctx ast t env A O ω ρ s E hc C R hp
 refine wM (P:=fun ast=>PM (PO G.prog G.w) A (Qg ast env) (cF t O s (den Φ (.neg a) ρ)) E s) hc fun op x p hc=>?_
 refine aP hc fun ho hc=>?_
 cases P9 ho
 refine wpAny_UnaryOp (PR (ha sc ctx x false env A O ω ρ s E hc C R hp.1) (fun v s₁ h₁=>?_) fun U U x=>x)
 replace hp:pre Φ a false ρ/\isInt (den Φ a ρ)=true:=hp
 have hden:den Φ (.neg a) ρ=.int (-(bM (den Φ a ρ))):=rfl
 rw[hden]
 have h2:=h₁.2.ff
 cases e:den Φ a ρ<;>rw[e]at hp h2<;>first | (exact absurd hp.2 Pl) | skip
 cases h2
 exact P.neg_int ⟨aX h₁.1 (ay _ _),.of (.int _ _)⟩
theorem EE(a:IX)(ha:aQ G Φ a)(ta:dw G Φ a):aQ G Φ (.inv a)/\dw G Φ (.inv a):=by
 constructor
 ·intro sc ctx ast t env A O ω ρ s E hc C R hp
  refine pg (P:=fun ast=>PM (PO G.prog G.w) A (Qg ast env) (cF t O s (den Φ (.inv a) ρ)) E s) hc fun x p hc=>?_
  refine wpAny_UnaryOp (PR (ha sc ctx x false env A O ω ρ s E hc C R hp.1) (fun v s₁ h₁=>?_) fun U U x=>x)
  rw[mH h₁.2.ff hp.2]
  exact not_of (Qp ⟨h₁.1,.of (.bool _)⟩)
 ·intro sc ctx ast env A O ω ρ s E hc C R hp _
  refine pg (P:=fun ast=>PM (PO G.prog G.w) A (isTrue ast env (Qg ast env)) (PB s (aA (den Φ (.inv a) ρ))) E s) hc fun x p hc=>?_
  show PM _ _ (isTrue x env (Qg x env) >>= fun b=>pure (!b)) _ _ s
  refine PK (PR (ta sc ctx x env A O ω ρ s E hc C R hp.1 hp.2) (fun b s₁ h₁=>?_) fun U U x=>x)
  exact PU ⟨by rw[h₁.1];rfl,h₁.2⟩
theorem EF(c a b:IX)(tc:dw G Φ c)(ha:aQ G Φ a)(hb:aQ G Φ b)(ta:dw G Φ a)(tb:dw G Φ b)(wf:G.Wf):aQ G Φ (.ite c a b)/\dw G Φ (.ite c a b):=by
 constructor
 ·intro sc ctx ast t env A O ω ρ s E hc C R hp
  refine wO (P:=fun ast=>PM (PO G.prog G.w) A (Qg ast env) (cF t O s (den Φ (.ite c a b) ρ)) E s) hc fun x y z p hc=>?_
  refine eh hc fun c1 c2 c3=>?_
  refine wpAny_IfExp (PR (tc sc ctx x env A O ω ρ s E c1 C (R.le (aH _ _)) hp.1 hp.2.1) (fun q s₁ h₁=>?_) fun U U x=>x)
  refine al h₁ fun e0 k1=>?_;subst e0
  have C1:=C.keeps wf k1
  have hden:den Φ (.ite c a b) ρ=if aA (den Φ c ρ)then den Φ a ρ else den Φ b ρ:=rfl
  rw[hden]
  cases ht:aA (den Φ c ρ)with
  | true =>
   rw[if_pos rfl]
   exact PR (ha sc ctx y false env A O ω ρ s₁ E c2 C1 (R.le (aa (aH _ _) (ao _ _))) (hp.2.2.1 ht)) (fun v s₂ h₂=>⟨aX k1 h₂.1,.of h₂.2.ff⟩) fun U U x=>x
  | false =>
   rw[if_neg Pl]
   exact PR (hb sc ctx z false env A O ω ρ s₁ E c3 C1 (R.le (aa (ao _ _) (ao _ _))) (hp.2.2.2 ht)) (fun v s₂ h₂=>⟨aX k1 h₂.1,.of h₂.2.ff⟩) fun U U x=>x
 ·intro sc ctx ast env A O ω ρ s E hc C R hp hb'
  refine wO (P:=fun ast=>PM (PO G.prog G.w) A (isTrue ast env (Qg ast env)) (PB s (aA (den Φ (.ite c a b) ρ))) E s) hc fun x y z p hc=>?_
  refine eh hc fun c1 c2 c3=>?_
  have hden:den Φ (.ite c a b) ρ=if aA (den Φ c ρ)then den Φ a ρ else den Φ b ρ:=rfl
  rw[hden]at hb' ⊢
  show PM _ _ (isTrue x env (Qg x env) >>= fun q=>if q=true then isTrue y env (Qg y env)else isTrue z env (Qg z env)) _ _ s
  refine PK (PR (tc sc ctx x env A O ω ρ s E c1 C (R.le (aH _ _)) hp.1 hp.2.1) (fun q s₁ h₁=>?_) fun U U x=>x)
  refine al h₁ fun e0 k1=>?_;subst e0
  have C1:=C.keeps wf k1
  cases ht:aA (den Φ c ρ)with
  | true =>
   rw[ht]at hb'
   rw[if_pos rfl]at hb' ⊢
   exact PR (ta sc ctx y env A O ω ρ s₁ E c2 C1 (R.le (aa (aH _ _) (ao _ _))) (hp.2.2.1 ht) hb') (fun v s₂ h₂=>⟨h₂.1,aX k1 h₂.2⟩) fun U U x=>x
  | false =>
   rw[ht]at hb'
   rw[if_neg Pl]at hb' ⊢
   exact PR (tb sc ctx z env A O ω ρ s₁ E c3 C1 (R.le (aa (ao _ _) (ao _ _))) (hp.2.2.2 ht) hb') (fun v s₂ h₂=>⟨h₂.1,aX k1 h₂.2⟩) fun U U x=>x
theorem jK(e:IX):∀ {sc:Scope} {ctx:List (Option Str)} {asts:List Expr},cj Φ e sc ctx asts=true->∀a∈asts,fE a=true:=by
 induction e with
 | cons a b _ ihb =>
  intro sc ctx asts h
  refine dm (P:=fun asts=>∀a∈asts,fE a=true) h fun x r h=>?_
  refine aP h fun h1 h2 y hy=>?_
  rcases ae.mp hy with rfl | hy
  ·exact gf a h1
  ·exact ihb h2 y hy
 | nil =>
  intro sc ctx asts h
  exact e9 (P:=fun asts=>∀a∈asts,fE a=true) h fun U a ha=>nomatch ha
 | _=>intro sc ctx asts h;exact absurd h Pl
theorem EG(es:IX)(h:i9 G Φ es)(wf:G.Wf):aQ G Φ (.list es):=by
 intro sc ctx ast t env A O ω ρ s E hc C R hp
 refine o7 (P:=fun ast=>PM (PO G.prog G.w) A (Qg ast env) (cF t O s (den Φ (.list es) ρ)) E s) hc fun xs p hc=>?_
 refine Si ?_
 rw[ij _ (jK es hc),jG]
 refine PR (h sc ctx xs env A O ω ρ s E hc C R hp.1) (fun vs s₁ h₁=>?_) fun U U x=>x
 have hl:vs.length<=16777216:=by rw[h₁.2.length];exact hp.2
 have C1:=C.keeps wf h₁.1
 refine⟨hl,aX h₁.1 (bL _),.of (.list (n:=0) (fun q=>bl _ (C1.ok.ob _ q)) (IsL.new _ _) (by simpa using h₁.2.pushO _))⟩
theorem EH(es:IX)(h:i9 G Φ es)(wf:G.Wf):aQ G Φ (.tup es):=by
 intro sc ctx ast t env A O ω ρ s E hc C R hp
 refine lY (P:=fun ast=>PM (PO G.prog G.w) A (Qg ast env) (cF t O s (den Φ (.tup es) ρ)) E s) hc fun xs x1 p hc=>?_
 refine wpAny_Tuple ?_
 rw[ij _ (jK es hc),jG]
 refine PR (h sc ctx xs env A O ω ρ s E hc C R hp.1) (fun vs s₁ h₁=>?_) fun U U x=>x
 have hl:vs.length<=16777216:=by rw[h₁.2.length];exact hp.2
 have C1:=C.keeps wf h₁.1
 refine⟨hl,aX h₁.1 (bL _),.of (.tuple (n:=0) (fun q=>bl _ (C1.ok.ob _ q)) (IsT.new _ _) (by simpa using h₁.2.pushO _))⟩
set_option tactic.hygienic true in
theorem kF{A:P0}{E:PN->PL->Prop}{s:PL}{env:Env}{value slice:Expr}{pos:Pos}{Q:PN->PL->Prop}
 (h:PM (PO G.prog G.w) A (Qg value env) (fun o s₁=>PM (PO G.prog G.w) A (Qg slice env) (fun i s₂=>∃T id,Rl (.type T) "__getitem__" = pure (some (.builtin id))/\s₂.TypeIs o T/\PM (PO G.prog G.w) A (getItem o i) Q E s₂) E s₁) E s) :
 PM (PO G.prog G.w) A (Qg (.Subscript value slice pos) env) Q E s:=by
 rw[eval_Subscript]
 refine PK (PR h (fun o s₁ h₁=>PK (Qj (PR h₁ (fun i s₂ h₂=>PK (Ql ?_)) fun U U x=>x))) fun U U x=>x)
 refine x23 h₂ fun T id hl hT hg=>?_
 have fin:∀vs,PM (PO G.prog G.w) A (operate vs (getItem o i)) (fun r s₃=>PM (PO G.prog G.w) A (letTemporaryGo value o r >>= fun U=>pure r) Q E s₃) E s₂:=fun vs =>
  wpAny_operating (PR hg (fun r s₃ h₃=>PK (pE (PU h₃))) fun U U x=>x)
 have sub:PM (PO G.prog G.w) A (subscripted slice false o i) (fun r s₃=>PM (PO G.prog G.w) A (letTemporaryGo value o r >>= fun U=>pure r) Q E s₃) E s₂:=by
  cases slice<;>first | exact fin [o,i] | skip
  rename_i l u st p
  cases st
  ·exact fin [i,o]
  ·exact fin [o,i]
 refine PK ?_
 rw[getitemInPython_of_ne hT.not_modules]
 refine PK (wpAny_specialOf hT hl ?_)
 exact PU (PK sub)
theorem xQ{O:PP->Prop}{s:PL}{v:PN}{d:PQ}(r:bg O s.heap v d)(h:jE d=true\/isStr d=true):∃T id,Rl (.type T) "__getitem__" = pure (some (.builtin id))/\s.TypeIs v T:=by
 cases d<;>first | exact absurd h (fun q=>q.elim Pl Pl) | skip
 ·refine x11 r.strIs fun t e1=>?_;subst e1
  exact⟨_,_,F.slot_str_getitem.lookup,typeIs_str _ _ _⟩
 ·refine x33 r.listIs fun a vs n e3 hl U=>?_;subst e3
  exact⟨_,_,F.slot_list_getitem.lookup,hl.isList.typeIs⟩
 ·refine x33 r.tupIs fun a vs n e3 hl U=>?_;subst e3
  exact⟨_,_,F.slot_tuple_getitem.lookup,(show s.heap.IsTuple a vs from⟨_,hl,rfl,n,rfl⟩).typeIs⟩
theorem EI(a i:IX)(ha:aQ G Φ a)(hi:aQ G Φ i)(wf:G.Wf):aQ G Φ (.sub a i):=by
 intro sc ctx ast t env A O ω ρ s E hc C R hp
 refine o8 (P:=fun ast=>PM (PO G.prog G.w) A (Qg ast env) (cF t O s (den Φ (.sub a i) ρ)) E s) hc fun x y p hc=>?_
 refine aP hc fun c1 c2=>?_
 refine kF (PR (ha sc ctx x true env A O ω ρ s E c1 C (R.le (aH _ _)) hp.1) (fun v s₁ h₁=>?_) fun U U x=>x)
 have C1:=C.keeps wf h₁.1
 refine PR (hi sc ctx y false env A O ω ρ s₁ E c2 C1 (R.le (ao _ _)) hp.2.1) (fun u s₂ h₂=>?_) fun U U x=>x
 have r:=h₁.2.tt.keeps h₂.1
 refine x22 (xQ r (xi (P:=fun x U U=>jE x=true\/isStr x=true) hp.2.2 (fun U U U=>.inr rfl) (fun U U U=>.inl rfl) (fun U U U=>.inl rfl))) fun T id hl hT=>?_
 exact⟨T,id,hl,hT,PR (DR r h₂.2.ff hp.2.2) (fun v s₃ h₃=>.of (aX h₁.1 h₂.1) h₃) fun U U x=>x⟩
theorem EJ(a lo hi:IX)(ha:aQ G Φ a)(hlo:kC G Φ lo)(hhi:kC G Φ hi)(wf:G.Wf):aQ G Φ (.slice a lo hi):=by
 intro sc ctx ast t env A O ω ρ s E hc C R hp
 refine o8 (P:=fun ast=>PM (PO G.prog G.w) A (Qg ast env) (cF t O s (den Φ (.slice a lo hi) ρ)) E s) hc fun x sl p hc=>?_
 refine DB (P:=fun sl=>PM (PO G.prog G.w) A (Qg (.Subscript x sl p) env) (cF t O s (den Φ (.slice a lo hi) ρ)) E s) hc fun l u st p1 hc=>?_
 refine r0 (P:=fun st=>PM (PO G.prog G.w) A (Qg (.Subscript x (.Slice l u st p1) p) env) (cF t O s (den Φ (.slice a lo hi) ρ)) E s) hc fun hc=>?_
 refine eh hc fun c1 c2 c3=>?_
 refine kF (PR (ha sc ctx x true env A O ω ρ s E c1 C (R.le (aH _ _)) hp.1) (fun v s₁ h₁=>?_) fun U U x=>x)
 have C1:=C.keeps wf h₁.1
 refine wpAny_Slice (PR (hlo sc ctx l env A O ω ρ s₁ E c2 C1 (R.le (aa (aH _ _) (ao _ _))) hp.2.1) (fun v₁ s₂ h₂=>?_) fun U U x=>x)
 have C2:=C1.keeps wf h₂.1
 refine PR (hhi sc ctx u env A O ω ρ s₂ E c3 C2 (R.le (aa (ao _ _) (ao _ _))) hp.2.2.1) (fun v₂ s₃ h₃=>?_) fun U U x=>x
 have C3:=C2.keeps wf h₃.1
 rw[evalPart_none]
 refine PU ?_
 have kp:PY s₃ { s₃ with heap:=s₃.heap.push { cls:=.type "slice",data:=.fields #[v₁,v₂,.none] } }:=bL _
 have r:=(((h₁.2.tt).keeps h₂.1).keeps h₃.1).keeps kp
 obtain⟨T,id,hl,hT⟩:=xQ r (by
  have:=hp.2.2.2
  cases e:den Φ a ρ<;>rw[e]at this<;>first | exact this.elim | exact .inl rfl | exact .inr rfl)
 refine⟨T,id,hl,hT,PR (xl (C3.keeps wf kp).ok.ob r ((h₂.2.keeps h₃.1).keeps kp) (h₃.2.keeps kp) (PZ _ rfl) hp.2.2.2) (fun v s₄ h₄=>?_) fun U U x=>x⟩
 exact .of (aX (aX (aX h₁.1 h₂.1) h₃.1) kp) h₄
theorem EK(a b:IX)(ha:aQ G Φ a)(hb:i9 G Φ b)(wf:G.Wf):i9 G Φ (.cons a b):=by
 intro sc ctx asts env A O ω ρ s E hc C R hp
 refine dm (P:=fun asts=>PM (PO G.prog G.w) A (spliced (asts.map fun a=>(false,Qg a env))) (fun vs s'=>PY s s'/\RepL O s'.heap vs (bE Φ (.cons a b) ρ)) E s) hc fun x r hc=>?_
 refine aP hc fun c1 c2=>?_
 refine Qh (PR (ha sc ctx x false env A O ω ρ s E c1 C (R.le (aH _ _)) hp.1) (fun v s₁ h₁=>?_) fun U U x=>x)
 refine PR (hb sc ctx r env A O ω ρ s₁ E c2 (C.keeps wf h₁.1) (R.le (ao _ _)) hp.2) (fun vs s₂ h₂=>?_) fun U U x=>x
 exact⟨aX h₁.1 h₂.1,.cons (h₁.2.ff.keeps h₂.1) h₂.2⟩
theorem EL:i9 G Φ .nil:=by
 intro sc ctx asts env A O ω ρ s E hc C R hp
 exact e9 (P:=fun asts=>PM (PO G.prog G.w) A (spliced (asts.map fun a=>(false,Qg a env))) (fun vs s'=>PY s s'/\RepL O s'.heap vs (bE Φ .nil ρ)) E s) hc fun U=>Qc ⟨bz s,.nil⟩
theorem EM:kC G Φ .nil:=by
 intro sc ctx oe env A O ω ρ s E hc C R hp
 refine r0 (P:=fun oe=>PM (PO G.prog G.w) A (evalPart oe env) (PV O s (gH Φ .nil ρ)) E s) hc fun U=>?_
 rw[evalPart_none];exact PU ⟨bz s,.none⟩
theorem EN(a b:IX)(ha:aQ G Φ a):kC G Φ (.cons a b):=by
 intro sc ctx oe env A O ω ρ s E hc C R hp
 refine aP hc fun hn hc=>?_
 cases b<;>first | (exact absurd hn Pl) | skip
 refine o4 (P:=fun oe=>PM (PO G.prog G.w) A (evalPart oe env) (PV O s (gH Φ (.cons a .nil) ρ)) E s) hc fun x hc=>?_
 rw[evalPart_some]
 exact PR (ha sc ctx x false env A O ω ρ s E hc C (R.le (aH _ _)) hp) (fun v s₁ h₁=>⟨h₁.1,h₁.2.ff⟩) fun U U x=>x
end
section
variable{G:Glo}{Φ:List FEntry}
theorem xR(h:cj Φ b sc ctx r=true):(em b=true/\r=[])\/(em b=false/\∃y z,r=y::z):=by
 cases b<;>first | exact absurd h Pl | skip
 ·exact e9 (P:=fun r=>(em .nil=true/\r=[])\/(em .nil=false/\∃y z,r=y::z)) h fun U=>.inl ⟨rfl,rfl⟩
 ·exact dm (P:=fun r=>(em (.cons _ _)=true/\r=[])\/(em (.cons _ _)=false/\∃y z,r=y::z)) h fun y z U=>.inr ⟨rfl,y,z,rfl⟩
theorem EO(a b:IX)(ha:aQ G Φ a)(hb:mE G Φ b)(wf:G.Wf):mE G Φ (.cons a b):=by
 intro o sc ctx asts env A O ω ρ s E pos hc C R hp
 have hd:fh Φ o (.cons a b) ρ=if em b=true then den Φ a ρ else if aA (den Φ a ρ)=o then .bool o else fh Φ o b ρ:=rfl
 rw[hd]
 generalize hQ:PV O s (if em b=true then den Φ a ρ else if aA (den Φ a ρ)=o then .bool o else fh Φ o b ρ)=Q
 refine dm (P:=fun asts=>PM (PO G.prog G.w) A (boolOp pos (ig o) (evalEach asts env)) Q E s) hc fun x r hc=>?_
 refine aP hc fun c1 c2=>?_
 have hx:∀Q:PN->PL->Prop,(∀v s',cF false O s (den Φ a ρ) v s'->Q v s')->PM (PO G.prog G.w) A (Qg x env) Q E s:=fun Q h=>PR (ha sc ctx x false env A O ω ρ s E c1 C (R.le (aH _ _)) hp.1) h fun U U x=>x
 rcases xR c2 with⟨hn,rfl⟩ | ⟨hn,y,z,rfl⟩
 ·rw[if_pos hn]at hQ
  subst hQ
  exact hx _ fun v s₁ h₁=>⟨h₁.1,h₁.2.ff⟩
 ·rw[hn,if_neg Pl]at hQ
  show PM (PO G.prog G.w) A (Qg x env >>= fun v=>RX pos >>= fun U=>RW [v] (truthy v) >>= fun t=>(match ig o,t with | .And,false=>pure v | .Or,true=>pure v | _,_=>boolOp pos (ig o) (evalEach (y::z) env))) Q E s
  refine PK (hx _ fun v s₁ h₁=>?_)
  cases mH h₁.2.ff (hp.2 hn).1
  refine PK (Ql (PK (Qj (Qp ?_))))
  by_cases ht:aA (den Φ a ρ)=o
  ·rw[if_pos ht]at hQ
   subst hQ
   rw[ht]
   cases o<;>exact PU ⟨h₁.1,.bool _⟩
  ·rw[if_neg ht]at hQ
   have ht:aA (den Φ a ρ)=!o:=Bool.eq_not.mpr ht
   subst hQ
   rw[ht]
   have hb:=PR (hb o sc ctx (y::z) env A O ω ρ s₁ E pos c2 (C.keeps wf h₁.1) (R.le (ao _ _)) ((hp.2 hn).2 ht)) (fun v s₂ h₂=>(⟨aX h₁.1 h₂.1,h₂.2⟩:PV O s _ v s₂)) fun U U x=>x
   cases o<;>exact hb
theorem EP(a b:IX)(ta:dw G Φ a)(tb:mG G Φ b)(wf:G.Wf):mG G Φ (.cons a b):=by
 intro o sc ctx asts env A O ω ρ s E hc C R hp hbool
 have hd:fh Φ o (.cons a b) ρ=if em b=true then den Φ a ρ else if aA (den Φ a ρ)=o then .bool o else fh Φ o b ρ:=rfl
 rw[hd]at hbool ⊢
 generalize hQ:PB s (aA (if em b=true then den Φ a ρ else if aA (den Φ a ρ)=o then .bool o else fh Φ o b ρ))=Q
 refine dm (P:=fun asts=>PM (PO G.prog G.w) A (allTrue (ig o) asts env) Q E s) hc fun x r hc=>?_
 refine aP hc fun c1 c2=>?_
 have hx:eK (den Φ a ρ)=true->∀Q:Bool->PL->Prop,(∀v s',PB s (aA (den Φ a ρ)) v s'->Q v s')->PM (PO G.prog G.w) A (isTrue x env (Qg x env)) Q E s:=fun hb Q h=>PR (ta sc ctx x env A O ω ρ s E c1 C (R.le (aH _ _)) hp.1 hb) h fun U U x=>x
 show PM (PO G.prog G.w) A (isTrue x env (Qg x env) >>= fun t=>(match ig o,t with | .And,false=>pure false | .Or,true=>pure true | _,_=>allTrue (ig o) r env)) Q E s
 rcases xR c2 with⟨hn,rfl⟩ | ⟨hn,y,z,rfl⟩
 ·rw[if_pos hn]at hQ hbool
  subst hQ
  refine PK (hx hbool _ fun t s₁ h₁=>?_)
  refine al h₁ fun e0 k1=>?_;subst e0
  cases o<;>cases aA (den Φ a ρ)<;>exact PU ⟨rfl,k1⟩
 ·rw[hn,if_neg Pl]at hQ hbool
  refine PK (hx (hp.2 hn).1 _ fun t s₁ h₁=>?_)
  refine al h₁ fun e0 k1=>?_;subst e0
  by_cases ht:aA (den Φ a ρ)=o
  ·rw[if_pos ht]at hQ
   subst hQ
   rw[ht]
   cases o<;>exact PU ⟨rfl,k1⟩
  ·rw[if_neg ht]at hQ hbool
   have ht:aA (den Φ a ρ)=!o:=Bool.eq_not.mpr ht
   subst hQ
   rw[ht]
   have hb:=PR (tb o sc ctx (y::z) env A O ω ρ s₁ E c2 (C.keeps wf k1) (R.le (ao _ _)) ((hp.2 hn).2 ht) hbool) (fun v s₂ h₂=>(⟨h₂.1,aX k1 h₂.2⟩:PB s _ v s₂)) fun U U x=>x
   cases o<;>exact hb
theorem EQ(o:Bool)(es:IX)(h:mE G Φ es)(t:mG G Φ es):aQ G Φ (.bop o es)/\dw G Φ (.bop o es):=by
 constructor
 ·intro sc ctx ast t env A O ω ρ s E hc C R hp
  refine sh (P:=fun ast=>PM (PO G.prog G.w) A (Qg ast env) (cF t O s (den Φ (.bop o es) ρ)) E s) hc fun op xs p hc=>?_
  refine aP hc fun ho h2=>?_
  cases P9 ho
  rw[arm_eval_BoolOp]
  exact PR (h o sc ctx xs env A O ω ρ s E p h2 C R hp) (fun v s₁ h₁=>⟨h₁.1,.of h₁.2⟩) fun U U x=>x
 ·intro sc ctx ast env A O ω ρ s E hc C R hp hb
  refine sh (P:=fun ast=>PM (PO G.prog G.w) A (isTrue ast env (Qg ast env)) (PB s (aA (den Φ (.bop o es) ρ))) E s) hc fun op xs p hc=>?_
  refine aP hc fun ho h2=>?_
  cases P9 ho
  exact t o sc ctx xs env A O ω ρ s E h2 C R hp hb
theorem ER:ja G Φ .nil:=by
 intro sc ctx asts env A O ω ρ s E hc C R hp
 exact e9 (P:=fun asts=>PM (PO G.prog G.w) A (forIn asts true fun c r=>if r=true then do let ok <- isTrue c env (Qg c env);pure (Qw ok)else pure (Qw r)) (fun b s'=>b=dH Φ .nil ρ/\PY s s') E s) hc fun U=>PU ⟨rfl,bz s⟩
theorem xS{prog:Qs}{w:Qq}{A:P0}{E:PN->PL->Prop}{env:Env}(h:Q false s):∀asts:List Expr,
 PM (PO prog w) A (forIn asts false fun c r=>if r=true then do let ok <- isTrue c env (Qg c env);pure (Qw ok)else pure (Qw r)) Q E s
 | []=>PU h
 | x::r=>by
  rw[PI]
  rw[if_neg Pl]
  exact PK (PU (xS h r))
theorem ES(a b:IX)(ta:dw G Φ a)(hb:ja G Φ b)(wf:G.Wf):ja G Φ (.cons a b):=by
 intro sc ctx asts env A O ω ρ s E hc C R hp
 have hd:dH Φ (.cons a b) ρ=(aA (den Φ a ρ)&&dH Φ b ρ):=rfl
 rw[hd]
 refine dm (P:=fun asts=>PM (PO G.prog G.w) A (forIn asts true fun c r=>if r=true then do let ok <- isTrue c env (Qg c env);pure (Qw ok)else pure (Qw r)) (fun b' s'=>b'=(aA (den Φ a ρ)&&dH Φ b ρ)/\PY s s') E s) hc fun x r hc=>?_
 refine aP hc fun c1 c2=>?_
 rw[PI,if_pos rfl]
 refine PK (PK (PR (ta sc ctx x env A O ω ρ s E c1 C (R.le (aH _ _)) hp.1 hp.2.1) (fun t s₁ h₁=>PU ?_) fun U U x=>x))
 refine al h₁ fun e0 k1=>?_;subst e0
 cases ht:aA (den Φ a ρ)with
 | false=>exact xS ⟨rfl,k1⟩ r
 | true =>
  exact PR (hb sc ctx r env A O ω ρ s₁ E c2 (C.keeps wf k1) (R.le (ao _ _)) (hp.2.2 ht)) (fun b s₂ h₂=>⟨by rw[h₂.1];rfl,aX k1 h₂.2⟩) fun U U x=>x
theorem ItIs.mono(x:ItIs prog w A O F h₀ h it ds)(hF:F'->F):ItIs prog w A O F' h₀ h it ds:=by
 obtain⟨I,fp,wr,P,St,e,W,hst,hfp,hwr,hf,r1,r2,r3⟩:=x
 exact⟨I,fp,wr,P,St,e,W,hst,hfp,hwr,fun z=>hf (hF z),r1,r2,r3⟩
theorem ET(e:IX)(h:aQ G Φ e)(wf:G.Wf):gh G Φ (.seq e):=by
 intro sc ctx ast t env A O ω ρ s E hc C R hp
 replace hc:chk Φ e sc ctx ast=true:=hc
 refine PR (h sc ctx ast t env A O ω ρ s E hc C R hp.1) (fun x s₁ h₁=>⟨h₁.1,fun E=>?_⟩) fun U U x=>x
 have C1:=C.keeps wf h₁.1
 rw[show bS Φ (.seq e) ρ=items (den Φ e ρ)from rfl]
 have hr:bg O s₁.heap x (den Φ e ρ):=by
  cases t
  ·exact .of h₁.2
  ·exact h₁.2
 have hp2:=hp.2
 cases hd:den Φ e ρ<;>rw[hd]at hp2<;>first | exact hp2.elim | skip
 ·rename_i y
  rw[hd]at hr
  refine x11 hr.strIs fun u e1=>?_;subst e1
  exact D9 C1.ok hp2 fun it s' k hi=>⟨k,hi.mono fun U=>trivial⟩
 ·rw[hd]at hr
  refine sC C1.ok hr fun it s' k hi=>⟨k,hi.mono fun z=>?_⟩
  subst z;exact hd▸h₁.2
 ·rw[hd]at hr
  refine sD C1.ok hr fun it s' k hi=>⟨k,hi.mono fun z=>?_⟩
  subst z;exact hd▸h₁.2
theorem sT(h:mt d):d=.int (bM d)/\-1000000000<=bM d/\bM d<=1000000000:=by
 cases d<;>first | exact h.elim | exact⟨rfl,h⟩
theorem dY{A:P0}{E:PN->PL->Prop}{s:PL}{env:Env}{g:Str}{np pos:Pos}{Q:PN->PL->Prop}(hs:∀a∈as,fE a=true)
 (h:PM (PO G.prog G.w) A (Qg (.Name g np) env) (fun f s₁=>PM (PO G.prog G.w) A (callWith pos f [] (as.map fun a=>(false,Qg a env)) []) Q E s₁) E s) :
 PM (PO G.prog G.w) A (Qg (.Call (.Name g np) as [] pos) env) Q E s:=by
 show PM _ A (do callWith pos (<- Qg (.Name g np) env) [] (backTo pos (starEach as env)) (backToKw pos (keywordEach [] env))) Q E s
 rw[ij _ hs,jG]
 exact PK h
theorem xT:(ofString "range",Value.type "range")∈cb:=by simp[cb]
theorem xU:(ofString "len",Value.builtin "len")∈cb:=by simp[cb]
theorem EU:(ofString "sum",Value.builtin "sum")∈cb:=by simp[cb]
theorem EV(a:IX)(ha:aQ G Φ a)(wf:G.Wf):gh G Φ (.range1 a):=by
 intro sc ctx ast t env A O ω ρ s E hc C R hp
 refine l9 (P:=fun ast=>PM (PO G.prog G.w) A (Qg ast env) (fun x s₁=>PY s s₁/\∀E,PM (PO G.prog G.w) A (pyIter x) (fun it s₂=>PY s₁ s₂/\ItIs G.prog G.w A O (t=false) s₁.heap s₂.heap it (bS Φ (.range1 a) ρ)) E s₁) E s) hc fun g np x pos hc=>?_
 refine eh hc fun hgn hg hx=>?_
 cases P9 hgn
 refine dY (fun a' ha'=>by rw[ai.mp ha'];exact gf a hx) (gN wf C.eo C.base hg xT ?_)
 refine RE (gg _) (Qo (Qh (PR (ha sc ctx x false env A O ω ρ s E hx C R hp.1) (fun v s₁ h₁=>Qc ?_) fun U U x=>x)))
 refine dl (sT hp.2) fun e l1 l2=>?_
 have hr:=h₁.2.ff
 rw[e]at hr
 refine x11 (gd hr) fun u e1=>?_;subst e1
 refine call_range_1 ⟨aX h₁.1 (bL _),fun E=>?_⟩
 rw[show bS Φ (.range1 a) ρ=gG 0 (bM (den Φ a ρ) - 0).toNat from rfl]
 exact xt ((C.keeps wf h₁.1).ok.push _ _) (IsRange.new _ _ _ _ _ _ _) (by lia) ⟨l1,l2⟩ fun it s' k hi=>⟨k,hi.mono fun U=>trivial⟩
theorem EW(a b:IX)(ha:aQ G Φ a)(hb:aQ G Φ b)(wf:G.Wf):gh G Φ (.range2 a b):=by
 intro sc ctx ast t env A O ω ρ s E hc C R hp
 refine DF (P:=fun ast=>PM (PO G.prog G.w) A (Qg ast env) (fun x s₁=>PY s s₁/\∀E,PM (PO G.prog G.w) A (pyIter x) (fun it s₂=>PY s₁ s₂/\ItIs G.prog G.w A O (t=false) s₁.heap s₂.heap it (bS Φ (.range2 a b) ρ)) E s₁) E s) hc fun g np x y pos hc=>?_
 refine gF hc fun hgn hg hx hy=>?_
 cases P9 hgn
 refine dY (fun a' ha'=>by
  rcases ae.mp ha' with rfl | ha'
  ·exact gf a hx
  ·rw[ai.mp ha'];exact gf b hy) (gN wf C.eo C.base hg xT ?_)
 refine RE (gg _) (Qo (Qh (PR (ha sc ctx x false env A O ω ρ s E hx C (R.le (aH _ _)) hp.1) (fun v s₁ h₁=>Qh ?_) fun U U x=>x)))
 have C1:=C.keeps wf h₁.1
 refine PR (hb sc ctx y false env A O ω ρ s₁ E hy C1 (R.le (ao _ _)) hp.2.1) (fun v₂ s₂ h₂=>Qc ?_) fun U U x=>x
 refine dl (sT hp.2.2.1) fun e l1 l2=>?_
 refine dl (sT hp.2.2.2) fun e' l1' l2'=>?_
 have hr:=h₁.2.ff
 rw[e]at hr
 refine x11 (gd hr) fun u e1=>?_;subst e1
 have hr':=h₂.2.ff
 rw[e']at hr'
 refine x11 (gd hr') fun u' e1=>?_;subst e1
 refine call_range_2 ⟨aX (aX h₁.1 h₂.1) (bL _),fun E=>?_⟩
 rw[show bS Φ (.range2 a b) ρ=gG (bM (den Φ a ρ)) (bM (den Φ b ρ) - bM (den Φ a ρ)).toNat from rfl]
 exact xt ((C1.keeps wf h₂.1).ok.push _ _) (IsRange.new _ _ _ _ _ _ _) ⟨l1,l2⟩ ⟨l1',l2'⟩ fun it s' k hi=>⟨k,hi.mono fun U=>trivial⟩
end
section
variable{G:Glo}{Φ:List FEntry}
theorem EY(f:Nat)(es:IX)(h:i9 G Φ es)(wf:G.Wf)(hF:∀F∈Φ,aK G F):aQ G Φ (.call f es):=by
 intro sc ctx ast t env A O ω ρ s E hc C R hp
 refine jC (P:=fun ast=>PM (PO G.prog G.w) A (Qg ast env) (cF t O s (den Φ (.call f es) ρ)) E s) hc fun g np args pos hc=>?_
 refine ic hc fun hn hd hl hg ha=>?_
 have hn:=P9 hn
 have hd:=bne_iff_ne.mp hd
 have hl:=of_decide_eq_true hl
 have hmem:Φ.getD f .nope∈Φ:=by
  rw[aj,br hl]
  exact PF hl
 refine x34 (hF _ hmem) fun a o fd e1 e2 e3 ct=>?_
 refine dY (jK es ha) (ii wf C.eo C.base hg (by simpa using hd) (hn▸e1) ?_)
 refine RF (o:=o) (fd:=fd) (ik (PR (h sc ctx args env A O ω ρ s E ha C (R.le (aH _ _)) hp.1) (fun vs s₁ h₁=>?_) fun U U x=>x))
 have C1:=C.keeps wf h₁.1
 refine⟨⟨C1.base.kp a o (wf.K a o e2),e3⟩,?_⟩
 exact PR (ct A s₁ O vs _ E (R.le (aa (fV _) (ao _ _))) C1.ok C1.base h₁.2 hp.2) (fun v s₂ h₂=>.of h₁.1 h₂) fun U U x=>x
theorem sU{id:String}{A:P0}{E:PN->PL->Prop}{s:PL}{env:Env}{sc:Scope}{ctx:List (Option Str)}{O:PP->Prop}{ω:PP->Option Nat}{ρ:List SV}{g:Str}{np pos:Pos}{x:Expr}{Q:PN->PL->Prop}(wf:G.Wf)
 (C:Cond G env sc ctx A O ω ρ s) (hs:fE x=true) (hg:bU sc g=true) (hm:(g,Value.builtin id)∈cb)
 (h:PM (PO G.prog G.w) A (Qg x env) (fun v s₁=>PM (PO G.prog G.w) A (call (.builtin id) [v]) Q E s₁) E s) :
 PM (PO G.prog G.w) A (Qg (.Call (.Name g np) [x] [] pos) env) Q E s:=by
 refine dY (fun a' ha'=>by rw[ai.mp ha'];exact hs) (gN wf C.eo C.base hg hm ?_)
 exact QD (gg _) (Qo (Qh (PR h (fun v s₁ h₁=>Qc h₁) fun U U x=>x)))
theorem EZ(a:IX)(ha:aQ G Φ a)(wf:G.Wf):aQ G Φ (.len a):=by
 intro sc ctx ast t env A O ω ρ s E hc C R hp
 refine l9 (P:=fun ast=>PM (PO G.prog G.w) A (Qg ast env) (cF t O s (den Φ (.len a) ρ)) E s) hc fun g np x pos hc=>?_
 refine eh hc fun hgn hg hx=>?_
 cases P9 hgn
 exact sU wf C (gf a hx) hg xU (PR (ha sc ctx _ true env A O ω ρ s E hx C R hp.1) (fun v s₁ h₁=>PR (xu h₁.2.tt hp.2) (fun u s₂ h₂=>.of h₁.1 h₂) fun U U x=>x) fun U U x=>x)
theorem E0(a:IX)(ha:aQ G Φ a)(wf:G.Wf):aQ G Φ (.sum a):=by
 intro sc ctx ast t env A O ω ρ s E hc C R hp
 refine l9 (P:=fun ast=>PM (PO G.prog G.w) A (Qg ast env) (cF t O s (den Φ (.sum a) ρ)) E s) hc fun g np x pos hc=>?_
 refine eh hc fun hgn hg hx=>?_
 cases P9 hgn
 obtain⟨hp1,ds,e,hp2⟩:=hp
 refine sU wf C (gf a hx) hg EU (PR (ha sc ctx _ true env A O ω ρ s E hx C R hp1) (fun v s₁ h₁=>?_) fun U U x=>x)
 have r:=h₁.2.tt
 rw[show den Φ (.sum a) ρ=.int ((cz (den Φ a ρ)).map bM).sum from rfl]
 rw[e]at r ⊢
 exact PR (Ec (C.keeps wf h₁.1).ok r hp2) (fun u s₂ h₂=>.of h₁.1 h₂) fun U U x=>x
theorem E1(h:isStr d=true):d=.str (cJ d):=by cases d<;>first | exact absurd h Pl | rfl
theorem E2(h:xz o=true):attributeBase o m env whole=whole:=by
 cases o<;>first | rfl | exact absurd h Pl
theorem io(h:fE x=true):starEach [x] env=[(false,Qg x env)]:=ij _ fun a ha=>by rw[ai.mp ha];exact h
theorem E4(a b:IX)(ha:aQ G Φ a)(hb:aQ G Φ b)(wf:G.Wf):aQ G Φ (.join a b):=by
 intro sc ctx ast t env A O ω ρ s E hc C R hp
 refine w3 (P:=fun ast=>PM (PO G.prog G.w) A (Qg ast env) (cF t O s (den Φ (.join a b) ρ)) E s) hc fun o m ap x pos hc=>?_
 refine ic hc fun hm hn hl ho hx=>?_
 cases P9 hm
 obtain⟨hp1,hp2,hp3,ds,e,hp4⟩:=hp
 refine Rp (E2 hn) (io (gf b hx)) hl (PR (ha sc ctx o false env A O ω ρ s E ho C (R.le (aH _ _)) hp1) (fun v s₁ h₁=>?_) fun U U x=>x)
 have r:=h₁.2.ff
 have C1:=C.keeps wf h₁.1
 rw[show den Φ (.join a b) ρ=.str (Rg (cJ (den Φ a ρ)) ((cz (den Φ b ρ)).map cJ))from rfl]
 rw[E1 hp3]at r
 cases r with
 | str _ tk =>
  refine⟨"str", "str.join",F.plainAttrs_str,F.slot_str_join,F.type_str_join,typeIs_str _ _ _,(fun U e=>nomatch e),?_⟩
  refine QD rfl (Qo (Qh (PR (hb sc ctx x true env A O ω ρ s₁ E hx C1 (R.le (ao _ _)) hp2) (fun u s₂ h₂=>Qc ?_) fun U U x=>x)))
  have r2:=h₂.2.tt
  rw[e]at r2 ⊢
  exact PR (Ee r2 hp4) (fun u s₃ h₃=>.of (aX h₁.1 h₂.1) h₃) fun U U x=>x
end
section
variable{G:Glo}{Φ:List FEntry}
theorem Cond.append{env:Env}{sc:Scope}{ctx:List (Option Str)}{A:P0}{O:PP->Prop}{ω:PP->Option Nat}{ρ:List SV}{s:PL}{D:PP}{h':Qk}{vs:Array PN}{n:Nat}{ds:List PQ}
 (wf:G.Wf) (C:Cond G env sc ctx A O ω ρ s) (hD:O D) (hDw:∀i,ω D≠some i) (hl:IsL s.heap D vs n) (hs:QM D s.heap h') (a:AccIs G O D h' ds):KM (· = D) s { s with heap:=h' }/\Cond G env sc ctx A O ω ρ { s with heap:=h' }:=by
 have k:KM (· = D) s { s with heap:=h' }:=by
  obtain⟨vs',n',e,_⟩:=a
  exact KM.chg (t:=s.toks) hs.extBut ⟨_,e⟩ rfl
 refine⟨k,?_⟩
 obtain⟨val,F,V⟩:=C.vars
 refine C.frame k (fun b q=>q▸hD) rfl (F.chg hl hs.extBut) fun i x e=>(V i x e).at wf C.base fun b o hb e=>hs.extBut b o (fun q=>?_) e
 rcases hb with hb | hb
 ·exact hDw i (q▸hb)
 ·exact hb (q▸hD)
theorem E5(e:IX)(h:aQ G Φ e)(wf:G.Wf):jb G Φ (.emit e):=by
 intro sc ctx elt gens scope pos depth env A O ω ρ s E D ds k Q hc hz C hD hDF hDw hsl hnd R hp acc hlen hk
 generalize hg:gens.drop (depth+1)=gs0 at hc
 cases gs0<;>first | (exact absurd hc Pl) | skip
 replace hc:chk Φ e sc ctx elt=true:=hc
 have hg':gens[depth+1]? = none:=by
  rw[CF]
  exact List.drop_eq_nil_iff.mp hg
 unfold il
 rw[hg']
 dsimp only
 refine PK (PK (PR (h sc ctx elt false env A O ω ρ s E hc C R hp) (fun v s₁ h₁=>PK ?_) fun U U x=>x))
 have C1:=C.keeps wf h₁.1
 refine xK (acc.keeps h₁.1) hD h₁.2.ff (by lia) fun h' hs a hl=>?_
 refine x21 hl fun vs n hl=>?_
 refine al (C1.append wf hD hDw hl hs a) fun k2 C2=>?_
 exact PU (hk _ ((KM.of h₁.1).trans (k2.mono fun b q=>.inr q)) C2 a)
set_option tactic.hygienic true in
theorem E6(tup:Bool)(slots:List Nat)(it ifs rest:IX)(hi:gh G Φ it)(hts:ja G Φ ifs)(hr:jb G Φ rest)(wf:G.Wf):jb G Φ (.gen tup slots it ifs rest):=by
 intro sc ctx elt gens scope pos depth env A O ω ρ s E D ds k Q hc hz C hD hDF hDw hsl hnd R hp acc hlen hk
 generalize hg:gens.drop (depth+1)=gs0 at hc
 cases gs0<;>first | (exact absurd hc Pl) | skip
 rename_i g0 gs
 obtain⟨tgt,iter,tests,asy⟩:=g0
 replace hc:(asy==0&&fD iter&&fj Φ it sc ctx iter&&fC tup slots sc ctx tgt&&cj Φ ifs sc ctx tests&&gL Φ rest sc ctx gs elt)=true:=hc
 refine oZ hc fun h1 hns hci hct hcl hcg=>?_
 cases P9 h1
 have hg1:gens[depth+1]? = some ⟨tgt,iter,tests,0⟩:=by
  rw[<- List.head?_drop,hg];rfl
 have hg2:gens.drop (depth+1+1)=gs:=by
  rw[<- List.drop_drop,hg];rfl
 rw[show gK (.gen tup slots it ifs rest)=slots++gK rest from rfl]at hsl hnd
 simp only[au]at hsl
 have hdG:fB Φ (.gen tup slots it ifs rest) ρ=(bS Φ it ρ).flatMap fun d=>if dH Φ ifs (aq tup slots d ρ)=true then fB Φ rest (aq tup slots d ρ)else[]:=rfl
 rw[hdG]at hlen hk
 have R1:aI (max (kx Φ it) (max (kx Φ ifs) (kx Φ rest))) A:=R.le (fV _)
 unfold il
 rw[hg1]
 dsimp only
 refine PK (PR (hi sc ctx iter false env A O ω ρ s E hci C (R1.le (aH _ _)) hp.1) (fun x s₁ h₁=>?_) fun U U x=>x)
 refine al h₁ fun k01 h₁=>?_
 refine PK (Ql (PK (RS (pB hns) (PK (Qj (PR (h₁ E) (fun itv s₂ h₂=>?_) fun U U x=>x))))))
 obtain⟨k12,I,fp,wr,P,St,rfl,W,hst,hfp,hwr,hf,htame,hIfp,hit⟩:=h₂
 have C1:=C.keeps wf k01
 have hnI:¬O I:=fun q=>by refine x11 (C1.ok.obs I q) fun o e=>?_;rw[hwr.2]at e;cases e
 have C2:Cond G env sc ctx A (fun b=>O b\/b=I) ω ρ s₂:=C1.grow wf k12 (fun b q=>.inl q) (fun b q=>by
  rcases q with q | rfl
  ·exact .inl q
  ·exact .inr hwr.2) fun b q=>by
  rcases q with q | rfl
  ·refine x11 (C1.ok.obs b q) fun o e=>?_;exact⟨o,am k12 b o e⟩
  ·refine x22 (htame 0 _ hst) fun o U e U=>?_;exact⟨o,e⟩
 have a2:AccIs G (fun b=>O b\/b=I) D s₂.heap ds:=(acc.keeps k01).grow k12 fun b q=>by
  rcases q with q | rfl
  ·exact .inl q
  ·exact .inr hwr.2
 have loop:QW (PO G.prog G.w) A (.compLoop (.ListComp elt gens scope pos) (depth+1) (.ref I) (.ref D) env)
  (fun r s'=>match r with | .ok f=>PM (PO G.prog G.w) A k Q E s' | .error e=>cameBackBy (PO G.prog G.w) A env E e s') s₂:=by
  refine xL (O:=O) (Oh:=O) (h₀:=s₁.heap) (T:=fun d=>dH Φ ifs (aq tup slots d ρ)) (f:=fun d=>fB Φ rest (aq tup slots d ρ)) wf hz hg1 C2 (fun b i e=>(C.om b i e).1) C.fr C.fc hnI hD hDF a2 W hst
   (fun b hb q=>hf rfl b hb (q.elim (C.fr b) fun z=>z▸hD)) hwr.1 htame (fun b o e q=>by
    rcases q with q | rfl
    ·exact q
    ·rw[hwr.2]at e;cases e) (fun b o U e=>am k12 b o e) hit (fun i hi=>(hsl i (.inl hi)).1) (fun i hi=>(hsl i (.inl hi)).2) hct (fun d hd=>(hp.2 d hd).1)
   (fun d hd O' s E C=>hts sc ctx tests env A O' ω _ s E hcl C (R1.le (aa (aH _ _) (ao _ _))) (hp.2 d hd).2.1)
   (fun d hd hT O' ds' s k Q E C hD a hl hk=>?_) hlen ?_
  ·refine hr sc ctx elt gens scope pos (depth+1) env A O' ω _ s E D ds' k Q (hg2▸hcg) hz C hD hDF hDw (fun i hi=>⟨?_,(hsl i (.inr hi)).2⟩) (de.mp hnd).2.1 (R1.le (aa (ao _ _) (ao _ _))) ((hp.2 d hd).2.2 hT) a hl hk
   rw[sL fun q=>(de.mp hnd).2.2 i q i hi rfl]
   exact(hsl i (.inr hi)).1
  ·intro s' ki C' a'
   exact hk s' ((KM.of k01).trans (ki.km k12 hwr.2)) C' a'
 exact PK (wpAny_runOwn (sK hg1 loop fun E=>W.self 0 _ _ _ hst loop))
set_option tactic.hygienic true in
theorem E7(e:IX):∀ {sc:Scope} {ctx:List (Option Str)} {gs:List QK} {elt:Expr},gL Φ e sc ctx gs elt=true->gO gs=true:=by
 induction e with
 | gen tup slots it ifs rest _ _ ih =>
  intro sc ctx gs elt h
  cases gs<;>first | (exact absurd h Pl) | skip
  rename_i g0 gs
  obtain⟨tgt,iter,tests,asy⟩:=g0
  replace h:(asy==0&&fD iter&&fj Φ it sc ctx iter&&fC tup slots sc ctx tgt&&cj Φ ifs sc ctx tests&&gL Φ rest sc ctx gs elt)=true:=h
  refine oZ h fun h1 hns hci hct hcl hcg=>?_
  cases P9 h1
  have:=ih hcg
  unfold gO at this ⊢
  simp[List.all_cons,this]
 | emit e _ =>
  intro sc ctx gs elt h
  cases gs<;>first | (exact absurd h Pl) | rfl
 | _=>intro sc ctx gs elt h;exact absurd h Pl
theorem xV{use:Option (PN->Sem Unit)}{pos':Pos}{Q:PN->PL->Prop}{n:Nat}{tup:Bool}{slots:List Nat}{it ifs rest:IX}{sc:Scope}{ctx:List (Option Str)}{env:Env}{A:P0}{O:PP->Prop}{ω:PP->Option Nat}{ρ:List SV}{s:PL}{E:PN->PL->Prop}
 {elt:Expr} {g:QK} {gs:List QK} {scope:Scope} {pos:Pos} {t:Bool} (hi:gh G Φ it) (hts:ja G Φ ifs) (hr:jb G Φ rest) (wf:G.Wf) (hc:chk Φ (.comp n tup slots it ifs rest) sc ctx (.ListComp elt (g::gs) scope pos)=true)
 (C:Cond G env sc ctx A O ω ρ s) (R:aI (kx Φ (.comp n tup slots it ifs rest)) A) (hp:pre Φ (.comp n tup slots it ifs rest) t ρ)
 (hfin:∀(D C:PP) s' m,PY s s'->s.heap.get? C=none->D≠C->s'.heap.Ns C m->Rep (fun b=>O b\/b=C) s'.heap (.ref D) (den Φ (.comp n tup slots it ifs rest) ρ)->compPost (PO G.prog G.w) A E use Q (.ref D) C (.ok .next) s') :
 PM (PO G.prog G.w) A (comprehension (.ListComp elt (g::gs) scope pos) scope env pos' (newList []) (firstAsync (g::gs)) (firstIter (g::gs) env) use) Q E s:=by
 obtain⟨tgt,iter,tests,asy⟩:=g
 replace hc:(asy==0&&fD iter&&fj Φ it sc ctx iter&&mw sc scope (ge (⟨tgt,iter,tests,asy⟩::gs)) &&
  n==(ge (⟨tgt,iter,tests,asy⟩::gs)).length&&decide (slots++gK rest).Nodup&&((slots++gK rest).all fun i=>decide (ctx.length<=i)) &&
  (fC tup slots (cC sc scope) (cK scope ctx (ge (⟨tgt,iter,tests,asy⟩::gs))) tgt&&cj Φ ifs (cC sc scope) (cK scope ctx (ge (⟨tgt,iter,tests,asy⟩::gs))) tests &&
  gL Φ rest (cC sc scope) (cK scope ctx (ge (⟨tgt,iter,tests,asy⟩::gs))) gs elt))=true:=hc
 refine wz hc fun h1 hns hci hso h5 hnd hle h8=>?_
 refine eh h8 fun hct hcl hcg=>?_
 clear hc h8
 cases P9 h1
 cases P9 h5
 have hnd:=of_decide_eq_true hnd
 have hle:∀i∈slots++gK rest,ctx.length<=i:=fun i hi=>of_decide_eq_true (bC.mp hle i hi)
 have R1:aI (max (kx Φ it) (max (kx Φ ifs) (kx Φ rest))) A:=R.le (fV _)
 have so:=SOk.of hso
 have hasy:gO (⟨tgt,iter,tests,0⟩::gs)=true:=by
  have:=E7 rest hcg
  unfold gO at this ⊢
  simp[List.all_cons,this]
 clear hso h1 h5
 generalize hv:ge (⟨tgt,iter,tests,0⟩::gs)=vars at *
 refine Et (its:=bS Φ it ρ) (F:=(true=false)) (T:=fun d=>dH Φ ifs (aq tup slots d (ρ++ba vars.length SV.un))) (f:=fun d=>fB Φ rest (aq tup slots d (ρ++ba vars.length SV.un)))
  wf C hasy hns so (fun E=>hi sc ctx iter true env A O ω ρ s E hci C (R1.le (aH _ _)) hp.1) (fun i q=>hle i (c8 _ q)) hct (fun d hd=>(hp.2.1 d hd).1)
  (fun d hd env' O' s E K=>hts _ _ tests env' A O' ω _ s E hcl K (R1.le (aa (aH _ _) (ao _ _))) (hp.2.1 d hd).2.1)
  (fun d hd hT env' D O' ds' s k Q E hsto K hD hDF hDw a hl hk=>?_) (aa hp.2.2 (by decide)) fun D C s' m h1 h2 h3 h4 r=>hfin D C s' m h1 h2 h3 h4 r
 refine hr _ _ elt _ scope pos 0 env' A O' ω _ s E D ds' k Q hcg hasy K hD hDF hDw (fun i hi=>⟨?_,hsto i (hle i (gz _ hi))⟩) (de.mp hnd).2.1 (R1.le (aa (ao _ _) (ao _ _)))
  ((hp.2.1 d hd).2.2 hT) a hl hk
 rw[sL fun q=>(de.mp hnd).2.2 i q i hi rfl]
 have:=hle i (gz _ hi)
 rw[aj,gD (by rw[C.len];exact this),vE]
 split<;>rfl
theorem E8(n:Nat)(tup:Bool)(slots:List Nat)(it ifs rest:IX)(hi:gh G Φ it)(hts:ja G Φ ifs)(hr:jb G Φ rest)(wf:G.Wf):aQ G Φ (.comp n tup slots it ifs rest):=by
 intro sc ctx ast t env A O ω ρ s E hc C R hp
 revert hc
 refine fun hc=>wU (P:=fun ast=>chk Φ (.comp n tup slots it ifs rest) sc ctx ast=true->PM (PO G.prog G.w) A (Qg ast env) (cF t O s (den Φ (.comp n tup slots it ifs rest) ρ)) E s) hc (fun elt gens scope pos U hc=>?_) hc
 cases gens with
 | nil=>exact absurd hc Pl
 | cons g gs =>
  rw[eval_ListComp]
  refine xV hi hts hr wf hc C R hp fun D C s' m k hC hDC hm r=>?_
  exact Eu k hC hm r fun v s' h=>⟨h.1,.of h.2⟩
end
section
variable{G:Glo}{Φ:List FEntry}
theorem Snd.ofE(h:aQ G Φ e/\dw G Φ e)(h1:∀sc ctx asts,cj Φ e sc ctx asts=false)(h2:∀sc ctx oe,jF Φ e sc ctx oe=false)(h3:∀sc ctx ast,fj Φ e sc ctx ast=false)
 (h4:∀sc ctx gs elt,gL Φ e sc ctx gs elt=false):Snd G Φ e :=
 let⟨a1,a2,a3,a6⟩:=sQ (G:=G) h1
 ⟨h.1,h.2,a1,sR h2,a2,a3,a6,pD h3,pC h4⟩
theorem Snd.ofI(h:gh G Φ e)(h0:∀sc ctx ast,chk Φ e sc ctx ast=false)(h1:∀sc ctx asts,cj Φ e sc ctx asts=false)(h2:∀sc ctx oe,jF Φ e sc ctx oe=false)
 (h4:∀sc ctx gs elt,gL Φ e sc ctx gs elt=false):Snd G Φ e :=
 let⟨a1,a2,a3,a6⟩:=sQ (G:=G) h1
 ⟨(jd h0).1,(jd h0).2,a1,sR h2,a2,a3,a6,h,pC h4⟩
theorem Snd.ofG(h:jb G Φ e)(h0:∀sc ctx ast,chk Φ e sc ctx ast=false)(h1:∀sc ctx asts,cj Φ e sc ctx asts=false)(h2:∀sc ctx oe,jF Φ e sc ctx oe=false)
 (h3:∀sc ctx ast,fj Φ e sc ctx ast=false):Snd G Φ e :=
 let⟨a1,a2,a3,a6⟩:=sQ (G:=G) h1
 ⟨(jd h0).1,(jd h0).2,a1,sR h2,a2,a3,a6,pD h3,h⟩
theorem E9:∀sc ctx ast,chk Φ (.var i) sc ctx ast=true->dK ast=true:=by
 intro sc ctx ast h;exact fg (P:=fun ast=>dK ast=true) h fun U U U=>rfl
theorem fG(h:∀sc ctx ast,chk Φ e sc ctx ast=true->dK ast=true)(hv:aQ G Φ e):aQ G Φ e/\dw G Φ e:=⟨hv,Ew hv h⟩
theorem snd(wf:G.Wf)(hF:∀F∈Φ,aK G F):∀e:IX,Snd G Φ e:=by
 intro e
 induction e with
 | var i=>refine .ofE (fG E9 (Ey i)) ?_ ?_ ?_ ?_<;>(intros;rfl)
 | lit d=>refine .ofE (fG (fun U U U h=>r9 (P:=fun ast=>dK ast=true) h fun U U U U=>rfl) (Ez d)) ?_ ?_ ?_ ?_<;>(intros;rfl)
 | bin op a b iha ihb=>refine .ofE (fG (fun U U U h=>wK (P:=fun ast=>dK ast=true) h fun U U U U U=>rfl) (EA op a b iha.ev ihb.ev wf)) ?_ ?_ ?_ ?_<;>(intros;rfl)
 | cmp op a b iha ihb=>refine .ofE (EB op a b iha.ev ihb.ev wf) ?_ ?_ ?_ ?_<;>(intros;rfl)
 | neg a iha=>refine .ofE ⟨EC a iha.ev,Ex fun ρ=>rfl⟩ ?_ ?_ ?_ ?_<;>(intros;rfl)
 | inv a iha=>refine .ofE (EE a iha.ev iha.tst) ?_ ?_ ?_ ?_<;>(intros;rfl)
 | bop o es ih=>refine .ofE (EQ o es ih.bo ih.boT) ?_ ?_ ?_ ?_<;>(intros;rfl)
 | ite c a b ihc iha ihb=>refine .ofE (EF c a b ihc.tst iha.ev ihb.ev iha.tst ihb.tst wf) ?_ ?_ ?_ ?_<;>(intros;rfl)
 | list es ih=>refine .ofE (fG (fun U U U h=>o7 (P:=fun ast=>dK ast=true) h fun U U U=>rfl) (EG es ih.ls wf)) ?_ ?_ ?_ ?_<;>(intros;rfl)
 | tup es ih=>refine .ofE (fG (fun U U U h=>lY (P:=fun ast=>dK ast=true) h fun U U U U=>rfl) (EH es ih.ls wf)) ?_ ?_ ?_ ?_<;>(intros;rfl)
 | sub a i iha ihi=>refine .ofE (fG (fun U U U h=>o8 (P:=fun ast=>dK ast=true) h fun U U U U=>rfl) (EI a i iha.ev ihi.ev wf)) ?_ ?_ ?_ ?_<;>(intros;rfl)
 | slice a lo hi iha ihl ihh=>refine .ofE (fG (fun U U U h=>o8 (P:=fun ast=>dK ast=true) h fun U U U U=>rfl) (EJ a lo hi iha.ev ihl.op ihh.op wf)) ?_ ?_ ?_ ?_<;>(intros;rfl)
 | call f es ih=>refine .ofE (fG (fun U U U h=>jC (P:=fun ast=>dK ast=true) h fun U U U U U=>rfl) (EY f es ih.ls wf hF)) ?_ ?_ ?_ ?_<;>(intros;rfl)
 | len a iha=>refine .ofE (fG (fun U U U h=>l9 (P:=fun ast=>dK ast=true) h fun U U U U U=>rfl) (EZ a iha.ev wf)) ?_ ?_ ?_ ?_<;>(intros;rfl)
 | sum a iha=>refine .ofE (fG (fun U U U h=>l9 (P:=fun ast=>dK ast=true) h fun U U U U U=>rfl) (E0 a iha.ev wf)) ?_ ?_ ?_ ?_<;>(intros;rfl)
 | join a b iha ihb=>refine .ofE (fG (fun U U U h=>w3 (P:=fun ast=>dK ast=true) h fun U U U U U U=>rfl) (E4 a b iha.ev ihb.ev wf)) ?_ ?_ ?_ ?_<;>(intros;rfl)
 | comp n tup slots it ifs rest ihi iht ihr=>refine .ofE (fG (fun U U U h=>wU (P:=fun ast=>dK ast=true) h fun U U U U U=>rfl) (E8 n tup slots it ifs rest ihi.it iht.ts ihr.gn wf)) ?_ ?_ ?_ ?_<;>(intros;rfl)
 | gen tup slots it ifs rest ihi iht ihr=>refine .ofG (E6 tup slots it ifs rest ihi.it iht.ts ihr.gn wf) ?_ ?_ ?_ ?_<;>(intros;rfl)
 | emit e ih=>refine .ofG (E5 e ih.ev wf) ?_ ?_ ?_ ?_<;>(intros;rfl)
 | range1 a iha=>refine .ofI (EV a iha.ev wf) ?_ ?_ ?_ ?_<;>(intros;rfl)
 | range2 a b iha ihb=>refine .ofI (EW a b iha.ev ihb.ev wf) ?_ ?_ ?_ ?_<;>(intros;rfl)
 | seq e ih=>refine .ofI (ET e ih.ev wf) ?_ ?_ ?_ ?_<;>(intros;rfl)
 | nil =>
  have h0:∀sc ctx ast,chk Φ .nil sc ctx ast=false:=fun U U U=>rfl
  exact⟨(jd h0).1,(jd h0).2,EL,EM,fun U U U U U U U U U U U U U U U hp=>False.elim hp,fun U U U U U U U U U U U U U U hp U=>False.elim hp,ER,pD (fun U U U=>rfl),pC (fun U U U U=>rfl)⟩
 | cons a b iha ihb =>
  have h0:∀sc ctx ast,chk Φ (.cons a b) sc ctx ast=false:=fun U U U=>rfl
  exact⟨(jd h0).1,(jd h0).2,EK a b iha.ev ihb.ls wf,EN a b iha.ev,EO a b iha.ev ihb.bo wf,EP a b iha.tst ihb.boT wf,ES a b iha.tst ihb.ts wf,pD (fun U U U=>rfl),pC (fun U U U U=>rfl)⟩
end
set_option genCtorIdx false
inductive Fl where
 | next
 | brk
 | ret (d:PQ)
noncomputable def Fl.ctorIdx(t:Fl):Nat:=Fl.casesOn t 0 1 (fun U=>2)
noncomputable def kG(G:Glo)(O:PP->Prop)(h:Qk):Fl->Flow->Prop
 | .next,fl=>fl=.next
 | .brk,fl=>fl=.brk
 | .ret d,fl=>∃v,fl=.ret v/\Rep O h v d
noncomputable def an(A:P0)(b:PP):Prop:=∃l,A.frames=some l/\b∈l.filterMap (·.frame)
noncomputable def Fz(X:Bool)(A:P0)(b:PP):Prop:=X=true/\an A b
inductive KS(F M:PP->Prop)(s s':PL):Prop where
 | mk (h':Qk) (t:Nat) (e:s'={ s with heap:=h',toks:=t }) (k:∀b o,¬M b->s.heap.get? b=some o->∃sl,h'.get? b=some { o with slots:=sl }/\(¬F b->sl=o.slots)) (th:∀b o,s.heap.get? b=some o->∃o',h'.get? b=some o'):KS F M s s'
section
variable{F F' M M':PP->Prop}{s s' s'' s₀:PL}
theorem KS.of(k:KM M s s'):KS F M s s':=by
 obtain⟨h,t,rfl,k,e⟩:=k
 exact⟨h,t,rfl,fun b o n q=>⟨o.slots,k b o n q,fun U=>rfl⟩,e⟩
theorem KS.km(k:KS (fun U=>False) M s s'):KM M s s':=by
 obtain⟨h,t,rfl,k,e⟩:=k
 exact⟨h,t,rfl,fun b o n q=>by
  refine x12 (k b o n q) fun sl q1 q2=>?_
  rw[q1,q2 id],e⟩
theorem KS.get(x:KS F M s s'):∀b o,¬M b->¬F b->s.heap.get? b=some o->s'.heap.get? b=some o:=by
 obtain⟨h',t,rfl,k,e⟩:=x
 intro b o n nf q
 refine x12 (k b o n q) fun sl q1 q2=>?_
 rw[q1,q2 nf]
theorem KS.slot(x:KS F M s s'):∀b o,¬M b->s.heap.get? b=some o->∃sl,s'.heap.get? b=some { o with slots:=sl }:=by
 obtain⟨h',t,rfl,k,e⟩:=x
 intro b o n q
 refine x12 (k b o n q) fun sl q1 q2=>?_
 exact⟨sl,q1⟩
theorem KS.there(x:KS F M s s'):∀b o,s.heap.get? b=some o->∃o',s'.heap.get? b=some o':=by
 obtain⟨h',t,rfl,k,e⟩:=x;exact e
theorem KS.back(x:KS F M s s')(h:s'.heap.get? b=none):s.heap.get? b=none:=by
 cases e:s.heap.get? b with
 | none=>rfl
 | some o=>refine x11 (x.there b o e) fun o' e'=>?_;rw[h]at e';cases e'
theorem KS.mono(x:KS F M s s')(hM:∀b,M b->M' b)(hF:∀b,F b->F' b):KS F' M' s s':=by
 obtain⟨h',t,rfl,k,e⟩:=x
 exact⟨h',t,rfl,fun b o n q=>(k b o (fun z=>n (hM b z)) q).elim fun sl ζ=>ζ.elim fun q1 q2=>⟨sl,q1,fun z=>q2 fun y=>z (hF b y)⟩,e⟩
theorem KS.trans(x:KS F M s s')(y:KS F M s' s''):KS F M s s'':=by
 obtain⟨h,t,rfl,k,e⟩:=x
 obtain⟨h',t',rfl,k',e'⟩:=y
 refine⟨h',t',rfl,fun b o n q=>?_,fun b o q=>(e b o q).elim fun o' q'=>e' b o' q'⟩
 refine x12 (k b o n q) fun sl q1 q2=>?_
 refine x12 (k' b _ n q1) fun sl' q1' q2'=>?_
 exact⟨sl',q1',fun nf=>by rw[q2' nf,<- q2 nf]⟩
theorem KS.trans'(x:KS F M s s')(y:KS F N s' s'')(h:∀b,N b->M b\/s.heap.get? b=none):KS F M s s'':=by
 obtain⟨h1,t,rfl,k,e⟩:=x
 obtain⟨h',t',rfl,k',e'⟩:=y
 refine⟨h',t',rfl,fun b o n q=>?_,fun b o q=>(e b o q).elim fun o' q'=>e' b o' q'⟩
 refine x12 (k b o n q) fun sl q1 q2=>?_
 obtain⟨sl',q1',q2'⟩:=k' b _ (fun z=>by
  rcases h b z with z | z
  ·exact n z
  ·rw[z]at q;cases q) q1
 exact⟨sl',q1',fun nf=>by rw[q2' nf,<- q2 nf]⟩
end
noncomputable def MO(env:Env)(ω:PP->Option Nat)(b:PP):Prop:=bb env b\/∃i,ω b=some i
structure Step(F:PP->Prop)(env:Env)(O:PP->Prop)(ω:PP->Option Nat)(s:PL)(O':PP->Prop)(ω':PP->Option Nat)(s':PL):Prop where
 km:KS F (MO env ω) s s'
 o1:∀b,O b->(∀i,ω b≠some i)->O' b
 o2:∀b,O' b->O b\/s.heap.get? b=none
 w2:∀b i,ω' b=some i->ω b=some i\/s.heap.get? b=none
section
variable{F:PP->Prop}{env:Env}{O O' O'':PP->Prop}{ω ω' ω'':PP->Option Nat}{s s' s'':PL}
theorem jL(k:KM M s s')(h:s'.heap.get? b=none):s.heap.get? b=none:=by
 cases e:s.heap.get? b with
 | none=>rfl
 | some o=>refine x11 (k.there b o e) fun o' e'=>?_;rw[h]at e';cases e'
theorem Step.refl(F:PP->Prop)(env:Env)(O:PP->Prop)(ω:PP->Option Nat)(s:PL):Step F env O ω s O ω s:=⟨KS.of (KM.of (bz s)),fun U h U=>h,fun U h=>.inl h,fun U U h=>.inl h⟩
theorem Step.keeps(k:PY s s'):Step F env O ω s O ω s':=⟨KS.of (KM.of k),fun U h U=>h,fun U h=>.inl h,fun U U h=>.inl h⟩
theorem Step.frame(k:KM (bb env) s s'):Step F env O ω s O ω s':=⟨KS.of (k.mono fun U q=>.inl q),fun U h U=>h,fun U h=>.inl h,fun U U h=>.inl h⟩
theorem Step.trans(hob:∀b,O b->∃o,s.heap.get? b=some o)(x:Step F env O ω s O' ω' s')(y:Step F env O' ω' s' O'' ω'' s''):Step F env O ω s O'' ω'' s'' where
 km:=x.km.trans' y.km fun b z=>by
  rcases z with z | ⟨i,z⟩
  ·exact .inl (.inl z)
  ·rcases x.w2 b i z with z | z
   ·exact .inl (.inr ⟨i,z⟩)
   ·exact .inr z
 o1:=fun b h n=>y.o1 b (x.o1 b h n) fun i z=>by
  rcases x.w2 b i z with z | z
  ·exact n i z
  ·refine x11 (hob b h) fun o e=>?_;rw[z]at e;cases e
 o2:=fun b h=>by
  rcases y.o2 b h with h | h
  ·exact x.o2 b h
  ·exact .inr (x.km.back h)
 w2:=fun b i h=>by
  rcases y.w2 b i h with h | h
  ·exact x.w2 b i h
  ·exact .inr (x.km.back h)
end
noncomputable def je(l:List Env)(h:Qk):Prop:=∀e∈l,e.scope.kind≠.module/\∃L o es n,e.frame=some L/\h.get? L=some o/\o.data=.dict es n
structure FX(A:P0)(O:PP->Prop)(ω:PP->Option Nat)(s:PL):Prop where
 fr:∃l,A.frames=some l/\je l s.heap
 fo:∀b,an A b->O b
 fw:∀b i,ω b=some i->¬an A b
 hn:A.handled=none
section
variable{A:P0}{F:PP->Prop}{O O':PP->Prop}{ω ω':PP->Option Nat}{s s':PL}
theorem FX.dict(x:FX A O ω s)(hb:an A b):∃o es n,s.heap.get? b=some o/\o.data=.dict es n:=by
 refine x12 x.fr fun l e hl=>?_
 refine x12 hb fun l' e' hb=>?_
 rw[e]at e';cases e'
 refine x12 (OL.mp hb) fun v hv hf=>?_
 obtain⟨_,L,o,es,n,h1,h2,h3⟩:=hl v hv
 rw[h1]at hf;cases hf
 exact⟨o,es,n,h2,h3⟩
theorem FX.keeps(x:FX A O ω s)(k:PY s s'):FX A O ω s' :=
 ⟨x.fr.elim fun l ζ=>ζ.elim fun e hl=>⟨l,e,fun v hv=>(hl v hv).elim fun h1 ζ=>ζ.elim fun L ζ=>ζ.elim fun o ζ=>ζ.elim fun es ζ=>ζ.elim fun n ζ=>ζ.elim fun h2 ζ=>ζ.elim fun h3 h4=>⟨h1,L,o,es,n,h2,am k _ _ h3,h4⟩⟩,x.fo,x.fw,x.hn⟩
theorem FX.by(x:FX A O ω s)(k:KS F M s s')(hd:∀b,M b->an A b->∃o es n,s'.heap.get? b=some o/\o.data=.dict es n)(ho:∀b,an A b->O' b)(hw:∀b i,ω' b=some i->¬an A b):FX A O' ω' s':=by
 refine x12 x.fr fun l e hl=>?_
 refine⟨⟨l,e,fun v hv=>?_⟩,ho,hw,x.hn⟩
 obtain⟨h1,L,o,es,n,h2,h3,h4⟩:=hl v hv
 have hL:an A L:=⟨l,e,OL.mpr ⟨v,hv,h2⟩⟩
 by_cases hM:M L
 ·refine x32 (hd L hM hL) fun o' es' n' q1 q2=>?_
  exact⟨h1,L,o',es',n',h2,q1,q2⟩
 ·refine x11 (k.slot L o hM h3) fun sl q=>?_
  exact⟨h1,L,_,es,n,h2,q,h4⟩
theorem FX.step(x:FX A O ω s)(C:Cond G env sc ctx A O ω ρ s)(S:Step F env O ω s O' ω' s')(C':Cond G env sc ctx A O' ω' ρ' s'):FX A O' ω' s':=by
 refine x.by S.km (fun b hM hb=>?_) (fun b hb=>S.o1 b (x.fo b hb) fun i q=>x.fw b i q hb) fun b i q hb=>?_
 ·rcases hM with hM | ⟨i,hM⟩
  ·refine x32 (x.dict hb) fun o es n h1 h2=>?_
   rcases hM with rfl | ⟨_,y,hk,hc⟩
   ·obtain⟨_,F',_⟩:=C'.vars
    refine x12 F'.loc fun m z1 U=>?_;refine x33 z1 fun o' es' ep q1 q2 U=>?_
    exact⟨o',es',ep,q1,q2⟩
   ·obtain⟨_,F',_⟩:=C.vars
    obtain⟨c,e1,o',q1,q2⟩:=F'.cel y (.inl hk)
    rw[hc]at e1;cases e1
    rw[h1]at q1;cases q1;rw[h2]at q2;cases q2
  ·exact absurd hb (x.fw b i hM)
 ·rcases S.w2 b i q with q | q
  ·exact x.fw b i q hb
  ·refine x32 (x.dict hb) fun o es n h1 U=>?_
   rw[q]at h1;cases h1
end
structure FXE(env:Env)(A:P0)(O:PP->Prop)(ω:PP->Option Nat)(s:PL):Prop extends FX A O ω s where
 top:∃outer,A.frames=some (env::outer)
 ef:env.frame=some env.locals
theorem FXE.keeps(x:FXE env A O ω s)(k:PY s s'):FXE env A O ω s':=⟨x.toFX.keeps k,x.top,x.ef⟩
theorem FXE.step(x:FXE env A O ω s)(C:Cond G env sc ctx A O ω ρ s)(S:Step F env O ω s O' ω' s')(C':Cond G env sc ctx A O' ω' ρ' s'):FXE env A O' ω' s' :=
 ⟨x.toFX.step C S C',x.top,x.ef⟩
structure Prim where
 chk:Scope->List (Option Str)->PW->Bool
 k:Nat
 pre:List SV->Prop
 den:List SV->Fl × List SV
inductive SX where
 | skip
 | prim (p:Prim) (r:SX)
 | frz (i:Nat) (r:SX)
 | ite (c:IX) (a b r:SX)
 | for (tup:Bool) (slots:List Nat) (it:IX) (body r:SX)
 | whl (n:Nat) (c:IX) (body r:SX)
noncomputable def SX.ctorIdx(t:SX):Nat:=SX.casesOn t 0 (fun U U=>1) (fun U U=>2) (fun U U U U=>3) (fun U U U U U=>4) (fun U U U U=>5)
noncomputable def fm(x:Fl × List SV)(k:List SV->Fl × List SV):Fl × List SV:=match x with
 | (.next,ρ)=>k ρ
 | (f,ρ)=>(f,ρ)
noncomputable def bY(f:PQ->List SV->Fl × List SV):List PQ->List SV->Fl × List SV
 | [],ρ=>(.next,ρ)
 | d::ds,ρ=>match f d ρ with
  | (.next,ρ')=>bY f ds ρ'
  | (.brk,ρ')=>(.next,ρ')
  | (.ret v,ρ')=>(.ret v,ρ')
theorem mI:bY f (d::ds) ρ=match f d ρ with
 | (.next,ρ')=>bY f ds ρ'
 | (.brk,ρ')=>(.next,ρ')
 | (.ret v,ρ')=>(.ret v,ρ'):=rfl
noncomputable def gj(P:PQ->List SV->Prop)(f:PQ->List SV->Fl × List SV):List PQ->List SV->Prop
 | [],_=>True
 | d::ds,ρ=>P d ρ/\match f d ρ with
  | (.next,ρ')=>gj P f ds ρ'
  | _=>True
theorem pF:gj P f (d::ds) ρ=(P d ρ/\match f d ρ with
 | (.next,ρ')=>gj P f ds ρ'
 | _=>True):=rfl
noncomputable def ip(c:List SV->Bool)(f:List SV->Fl × List SV):Nat->List SV->Fl × List SV
 | 0,ρ=>(.next,ρ)
 | n+1,ρ=>if c ρ=true then match f ρ with
  | (.next,ρ')=>ip c f n ρ'
  | (.brk,ρ')=>(.next,ρ')
  | (.ret v,ρ')=>(.ret v,ρ')
  else(.next,ρ)
noncomputable def pG(Pc Pb:List SV->Prop)(c:List SV->Bool)(f:List SV->Fl × List SV):Nat->List SV->Prop
 | 0,_=>False
 | n+1,ρ=>Pc ρ/\(c ρ=true->Pb ρ/\match f ρ with
  | (.next,ρ')=>pG Pc Pb c f n ρ'
  | _=>True)
noncomputable def kH:SV->Prop
 | .own _=>True
 | _=>False
section
variable(Φ:List FEntry)
noncomputable def av:SX->List SV->Fl × List SV
 | .skip,ρ=>(.next,ρ)
 | .prim p r,ρ=>fm (p.den ρ) (av r)
 | .frz i r,ρ=>av r (ρ.set i (.dat (ρ.getD i .un).data))
 | .ite c a b r,ρ=>fm (if aA (den Φ c ρ)=true then av a ρ else av b ρ) (av r)
 | .for tup slots it body r,ρ=>fm (bY (fun d ρ=>av body (aq tup slots d ρ)) (bS Φ it ρ) ρ) (av r)
 | .whl n c body r,ρ=>fm (ip (fun ρ=>aA (den Φ c ρ)) (av body) n ρ) (av r)
noncomputable def aM:SX->List SV->Prop
 | .skip,_=>True
 | .prim p r,ρ=>p.pre ρ/\∀ρ',p.den ρ=(.next,ρ')->aM r ρ'
 | .frz i r,ρ=>kH (ρ.getD i .un)/\aM r (ρ.set i (.dat (ρ.getD i .un).data))
 | .ite c a b r,ρ=>pre Φ c false ρ/\eK (den Φ c ρ)=true/\(aA (den Φ c ρ)=true->aM a ρ)/\(aA (den Φ c ρ)=false->aM b ρ) /\
  ∀ρ',(if aA (den Φ c ρ)=true then av Φ a ρ else av Φ b ρ)=(.next,ρ')->aM r ρ'
 | .for tup slots it body r,ρ=>gI Φ it false ρ/\gj (fun d ρ=>bindP tup slots d/\aM body (aq tup slots d ρ)) (fun d ρ=>av Φ body (aq tup slots d ρ)) (bS Φ it ρ) ρ /\
  ∀ρ',bY (fun d ρ=>av Φ body (aq tup slots d ρ)) (bS Φ it ρ) ρ=(.next,ρ')->aM r ρ'
 | .whl n c body r,ρ=>pG (fun ρ=>pre Φ c false ρ/\eK (den Φ c ρ)=true) (aM body) (fun ρ=>aA (den Φ c ρ)) (av Φ body) n ρ /\
  ∀ρ',ip (fun ρ=>aA (den Φ c ρ)) (av Φ body) n ρ=(.next,ρ')->aM r ρ'
noncomputable def kS:SX->Nat
 | .skip=>0
 | .prim p r=>max p.k (kS r)
 | .frz _ r=>kS r
 | .ite c a b r=>max (kx Φ c) (max (kS a) (max (kS b) (kS r)))
 | .for _ _ it body r=>max (kx Φ it) (max (kS body) (kS r))
 | .whl _ c body r=>max (kx Φ c) (max (kS body) (kS r))
noncomputable def cn:SX->Scope->List (Option Str)->List PW->Bool
 | .skip,_,_,st=>v0 st true
 | .prim p r,sc,ctx,st=>vC st fun x rest=>p.chk sc ctx x&&cn r sc ctx rest
 | .frz _ r,sc,ctx,st=>cn r sc ctx st
 | .ite c a b r,sc,ctx,st=>vC st fun x rest=>o6 x fun test body orelse U=>chk Φ c sc ctx test&&cn a sc ctx body&&cn b sc ctx orelse&&cn r sc ctx rest
 | .for tup slots it body r,sc,ctx,st=>vC st fun x rest=>l7 x fun target iter bd U=>fD iter&&fj Φ it sc ctx iter&&fC tup slots sc ctx target&&cn body sc ctx bd&&cn r sc ctx rest
 | .whl _ c body r,sc,ctx,st=>vC st fun x rest=>sp x fun test bd U=>chk Φ c sc ctx test&&cn body sc ctx bd&&cn r sc ctx rest
end
section
variable(G:Glo)(Φ:List FEntry)
noncomputable def dZ(X:Bool)(p:Prim):Prop:=∀sc ctx st env A O ω ρ s E Q,p.chk sc ctx st=true->(∀i,bu env ctx i)->Cond G env sc ctx A O ω ρ s->(X=true->FXE env A O ω s)->aI p.k A->p.pre ρ ->
 (∀O' ω' s' fl,Step (Fz X A) env O ω s O' ω' s'->Cond G env sc ctx A O' ω' (p.den ρ).2 s'->kG G O' s'.heap (p.den ρ).1 fl->Q fl s')->PM (PO G.prog G.w) A (exec st env) Q E s
noncomputable def eb(X:Bool):SX->Prop
 | .skip=>True
 | .prim p r=>dZ G X p/\eb X r
 | .frz _ r=>eb X r
 | .ite _ a b r=>eb X a/\eb X b/\eb X r
 | .for _ _ _ body r=>eb X body/\eb X r
 | .whl _ _ body r=>eb X body/\eb X r
noncomputable def dL(X:Bool)(S:SX):Prop:=∀sc ctx st env A O ω ρ s E Q,cn Φ S sc ctx st=true->(∀i,bu env ctx i)->Cond G env sc ctx A O ω ρ s->(X=true->FXE env A O ω s)->aI (kS Φ S) A->aM Φ S ρ ->
 (∀O' ω' s' fl,Step (Fz X A) env O ω s O' ω' s'->Cond G env sc ctx A O' ω' (av Φ S ρ).2 s'->kG G O' s'.heap (av Φ S ρ).1 fl->Q fl s')->PM (PO G.prog G.w) A (QG st env) Q E s
end
section
variable{G:Glo}{Φ:List FEntry}{env:Env}{sc:Scope}{ctx:List (Option Str)}{A:P0}{O O' O'':PP->Prop}{ω ω':PP->Option Nat}{ρ:List SV}{s s' s'':PL}{E:PN->PL->Prop}
theorem Step.side{t:Nat}(x:Step F env O ω s O' ω' s')(hob:∀b,O b->∃o,s.heap.get? b=some o)(hI:s.heap.get? I=none)(h1:∀b,O' b->b≠I->O'' b)(h2:∀b,O'' b->O' b)(hk:∀b o,b≠I->s'.heap.get? b=some o->h'.get? b=some o) :
 Step F env O ω s O'' ω' { s' with heap:=h',toks:=t } where
 km:=by
  obtain⟨h,t',rfl,k,e⟩:=id x.km
  have ne:∀b o,s.heap.get? b=some o->b≠I:=fun b o e q=>by rw[q,hI]at e;cases e
  exact⟨h',t,rfl,fun b o n q=>(k b o n q).elim fun sl ζ=>ζ.elim fun q1 q2=>⟨sl,hk b _ (ne b o q) q1,q2⟩,fun b o q=>(e b o q).elim fun o' q'=>⟨o',hk b o' (ne b o q) q'⟩⟩
 o1:=fun b h n=>h1 b (x.o1 b h n) fun q=>by
  refine x11 (hob b h) fun o e=>?_
  rw[q,hI]at e;cases e
 o2:=fun b h=>x.o2 b (h2 b h)
 w2:=x.w2
theorem pH(ihr:dL G Φ X r){x:Fl × List SV}{st:PW}{Q:Flow->PL->Prop}(C:Cond G env sc ctx A O ω ρ s)(hsto:∀i,bu env ctx i)(hX:X=true->FXE env A O ω s)(hcr:cn Φ r sc ctx rest=true)(R:aI (kS Φ r) A)
 (hpr:∀ρ',x=(.next,ρ')->aM Φ r ρ')
 (h:∀Q',(∀O' ω' s' fl,Step (Fz X A) env O ω s O' ω' s'->Cond G env sc ctx A O' ω' x.2 s'->kG G O' s'.heap x.1 fl->Q' fl s')->PM (PO G.prog G.w) A (exec st env) Q' E s)
 (hQ:∀O' ω' s' fl,Step (Fz X A) env O ω s O' ω' s'->Cond G env sc ctx A O' ω' (fm x (av Φ r)).2 s'->kG G O' s'.heap (fm x (av Φ r)).1 fl->Q fl s'):PM (PO G.prog G.w) A (QG (st::rest) env) Q E s:=by
 refine PS (h _ fun O' ω' s' fl hs C' hf=>?_)
 obtain⟨f,ρ'⟩:=x
 cases f with
 | next =>
  cases hf
  exact ihr sc ctx rest env A O' ω' ρ' s' E Q hcr hsto C' (fun q=>(hX q).step C hs C') R (hpr ρ' rfl) fun O'' ω'' s'' fl hs' C'' hf'=>hQ O'' ω'' s'' fl (hs.trans C.ok.obs hs') C'' hf'
 | brk =>
  cases hf
  exact hQ O' ω' s' .brk hs C' rfl
 | ret d =>
  refine x12 hf fun v e1 hr=>?_;subst e1
  exact hQ O' ω' s' (.ret v) hs C' ⟨v,rfl,hr⟩
theorem Fa:dL G Φ X .skip:=by
 intro sc ctx st env A O ω ρ s E Q hc hsto C hX R hp hQ
 exact e9 (P:=fun st=>PM (PO G.prog G.w) A (QG st env) Q E s) (b:=true) hc fun U=>Qa (hQ O ω s .next (Step.refl ..) C rfl)
theorem Fb(p:Prim)(r:SX)(hp':dZ G X p)(ihr:dL G Φ X r):dL G Φ X (.prim p r):=by
 intro sc ctx st env A O ω ρ s E Q hc hsto C hX R hp hQ
 refine dm (P:=fun st=>PM (PO G.prog G.w) A (QG st env) Q E s) (f:=fun x rest=>p.chk sc ctx x&&cn Φ r sc ctx rest) hc fun x rest hc=>?_
 refine aP hc fun c1 c2=>?_
 exact pH ihr C hsto hX c2 (R.le (ao _ _)) hp.2 (fun Q' h=>hp' sc ctx x env A O ω ρ s E Q' c1 hsto C hX (R.le (aH _ _)) hp.1 h) hQ
theorem xW:(ρ.set i x).length=ρ.length:=by simp
theorem Fc(wf:G.Wf)(C:Cond G env sc ctx A O ω ρ s)(ho:kH (ρ.getD i .un)):∃O' ω',(∀F,Step F env O ω s O' ω' s)/\Cond G env sc ctx A O' ω' (ρ.set i (.dat (ρ.getD i .un).data)) s:=by
 obtain⟨val,F,V⟩:=C.vars
 cases hx:ρ.getD i .un with
 | own d =>
  have hi:i<ρ.length:=by
   by_cases q:i<ρ.length
   ·exact q
   ·rw[aj,Px (by simpa using q)]at hx;cases hx
  by_cases hct:∃x,ctx[i]? = some (some x)
  ·refine x11 hct fun x hx'=>?_
   have hv:=V i x hx'
   rw[hx]at hv
   obtain⟨a,vs,n,ds,e1,e2,e3,h1,h2⟩:=hv
   have hm:=C.om a i e2
   refine⟨fun b=>O b/\b≠a,fun b=>if b=a then none else ω b,fun F=>⟨KS.of (KM.of (bz s)),fun b h n=>⟨h,fun q=>n i (q▸e2)⟩,fun b h=>.inl h.1,fun b j h=>?_⟩,⟨C.eo,C.co,by rw[xW];exact C.len,⟨C.ok.hok,fun b hb q=>C.ok.hno b hb q.1,fun b q=>C.ok.obs b q.1⟩,⟨C.base.kp,fun b q=>C.base.off b q.1⟩,
    fun b q=>⟨C.fr b q,fun z=>hm.2 (z▸q.store)⟩,fun y c e=>⟨C.fc y c e,fun z=>?_⟩,fun b j h=>?_,val,F,fun j y hy=>?_⟩⟩
   ·split at h
    ·cases h
    ·exact .inl h
   ·-- a cell is no list
    refine x12 (F.cel y ((C.eo.clk y c e).imp (fun q=>(C.eo.kindOf y).trans q) fun q=>(C.eo.kindOf y).trans q)) fun c' q1 q2=>?_
    rw[e]at q1;cases q1
    exact xB (z▸q2) h1
   ·split at h
    ·cases h
    ·rename_i hne
     exact⟨⟨(C.om b j h).1,hne⟩,(C.om b j h).2⟩
   ·rw[dJ]
    by_cases q:i=j
    ·subst q
     rw[if_pos ⟨rfl,hi⟩]
     have:y=x:=by rw[hx']at hy;cases hy;rfl
     subst this
     refine⟨.ref a,e1,?_⟩
     show Rep _ _ _ d
     rw[e3]
     exact .list (fun q=>q.2 rfl) h1 (h2.mono (fun U U U e=>e) fun b o U q=>q.1)
    ·rw[if_neg fun z=>q z.1]
     have r:=V j y hy
     generalize ρ.getD j .un=z at r
     cases z with
     | dat d=>refine x12 r fun u e r=>?_;exact⟨u,e,r.weak fun b q=>q.1⟩
     | own d =>
      obtain⟨a',vs',n',ds',f1,f2,f3,g1,g2⟩:=r
      refine⟨a',vs',n',ds',f1,?_,f3,g1,g2.mono (fun U U U e=>e) fun b o U q=>q.1⟩
      show(if a'=a then none else ω a')=some j
      by_cases z:a'=a
      ·rw[z,e2]at f2;cases f2;exact absurd rfl q
      ·rw[if_neg z];exact f2
     | un=>trivial
     | val u=>exact r
     | sor g =>
      refine x23 r fun u S f1 f2 f3=>?_
      refine⟨u,S,f1,f2,fun b hb=>?_⟩
      show(if b=a then none else ω b)=some j
      by_cases z:b=a
      ·have:=f3 b hb
       rw[z,e2]at this;cases this;exact absurd rfl q
      ·rw[if_neg z];exact f3 b hb
  ·refine⟨O,ω,fun F=>Step.refl ..,⟨C.eo,C.co,by rw[xW];exact C.len,C.ok,C.base,C.fr,C.fc,C.om,val,F,fun j y hy=>?_⟩⟩
   have hne:¬(i=j/\i<ρ.length):=fun z=>hct ⟨y,by rw[z.1];exact hy⟩
   rw[dJ,if_neg hne]
   exact V j y hy
 | un=>rw[hx]at ho;exact ho.elim
 | val d=>rw[hx]at ho;exact ho.elim
 | dat d=>rw[hx]at ho;exact ho.elim
 | sor g=>rw[hx]at ho;exact ho.elim
end
section
variable{G:Glo}{Φ:List FEntry}
theorem Fd(i:Nat)(r:SX)(wf:G.Wf)(ihr:dL G Φ X r):dL G Φ X (.frz i r):=by
 intro sc ctx st env A O ω ρ s E Q hc hsto C hX R hp hQ
 refine x22 (Fc wf C hp.1) fun O' ω' hs C'=>?_
 exact ihr sc ctx st env A O' ω' _ s E Q hc hsto C' (fun q=>(hX q).step C (hs (Fz X A)) C') R hp.2 fun O'' ω'' s'' fl hs' C'' hf=>hQ O'' ω'' s'' fl ((hs _).trans C.ok.obs hs') C'' hf
theorem Fe(c:IX)(a b r:SX)(wf:G.Wf)(ihc:dw G Φ c)(iha:dL G Φ X a)(ihb:dL G Φ X b)(ihr:dL G Φ X r):dL G Φ X (.ite c a b r):=by
 intro sc ctx st env A O ω ρ s E Q hc hsto C hX R hp hQ
 refine dm (P:=fun st=>PM (PO G.prog G.w) A (QG st env) Q E s) (f:=fun x rest=>o6 x fun test body orelse U=>chk Φ c sc ctx test&&cn Φ a sc ctx body&&cn Φ b sc ctx orelse&&cn Φ r sc ctx rest) hc fun x rest hc=>?_
 refine wD (P:=fun x=>PM (PO G.prog G.w) A (QG (x::rest) env) Q E s) hc fun test body orelse pos hc=>?_
 refine gF hc fun c1 c2 c3 c4=>?_
 replace R:aI (max (kx Φ c) (max (kS Φ a) (max (kS Φ b) (kS Φ r)))) A:=R
 refine pH (x:=if aA (den Φ c ρ)=true then av Φ a ρ else av Φ b ρ) ihr C hsto hX c4 (R.le (aa (aa (ao _ _) (ao _ _)) (ao _ _))) hp.2.2.2.2 (fun Q' h=>?_) hQ
 refine Rk (PR (ihc sc ctx test env A O ω ρ s E c1 C (R.le (aH _ _)) hp.1 hp.2.1) (fun t s₁ h₁=>?_) fun U U x=>x)
 refine al h₁ fun e0 k1=>?_;subst e0
 have C1:=C.keeps wf k1
 cases ht:aA (den Φ c ρ)with
 | true =>
  rw[ht]at h
  rw[if_pos rfl]at h ⊢
  exact iha sc ctx body env A O ω ρ s₁ E Q' c2 hsto C1 (fun q=>(hX q).keeps k1) (R.le (aa (aH _ _) (ao _ _))) (hp.2.2.1 ht) fun O' ω' s' fl hs C' hf=>h O' ω' s' fl ((Step.keeps k1).trans C.ok.obs hs) C' hf
 | false =>
  rw[ht]at h
  rw[if_neg Pl]at h ⊢
  exact ihb sc ctx orelse env A O ω ρ s₁ E Q' c3 hsto C1 (fun q=>(hX q).keeps k1) (R.le (aa (aa (aH _ _) (ao _ _)) (ao _ _))) (hp.2.2.2.1 ht) fun O' ω' s' fl hs C' hf=>h O' ω' s' fl ((Step.keeps k1).trans C.ok.obs hs) C' hf
inductive WInv(X:Bool)(G:Glo)(env:Env)(sc:Scope)(ctx:List (Option Str))(A:P0)(O:PP->Prop)(ω:PP->Option Nat)(s:PL)(F:Nat->List SV->Prop)(m:Nat)(sk:PL):Prop where
 | mk (ρk:List SV) (Ok:PP->Prop) (ωk:PP->Option Nat) (h:F m ρk) (st:Step (Fz X A) env O ω s Ok ωk sk) (C:Cond G env sc ctx A Ok ωk ρk sk):WInv X G env sc ctx A O ω s F m sk
theorem Fg:ip c f (n+1) ρ=if c ρ=true then(match f ρ with | (.next,ρ')=>ip c f n ρ' | (.brk,ρ')=>(.next,ρ') | (.ret v,ρ')=>(.ret v,ρ'))else(.next,ρ):=rfl
theorem Fh(n:Nat)(c:IX)(body r:SX)(wf:G.Wf)(ihc:dw G Φ c)(ihb:dL G Φ X body)(ihr:dL G Φ X r):dL G Φ X (.whl n c body r):=by
 intro sc ctx st env A O ω ρ s E Q hc hsto C hX R hp hQ
 refine dm (P:=fun st=>PM (PO G.prog G.w) A (QG st env) Q E s) (f:=fun x rest=>sp x fun test bd U=>chk Φ c sc ctx test&&cn Φ body sc ctx bd&&cn Φ r sc ctx rest) hc fun x rest hc=>?_
 refine DD (P:=fun x=>PM (PO G.prog G.w) A (QG (x::rest) env) Q E s) hc fun test bd pos hc=>?_
 refine eh hc fun c1 c2 c3=>?_
 replace R:aI (max (kx Φ c) (max (kS Φ body) (kS Φ r))) A:=R
 refine pH (x:=ip (fun ρ=>aA (den Φ c ρ)) (av Φ body) n ρ) ihr C hsto hX c3 (R.le (aa (ao _ _) (ao _ _))) hp.2 (fun Q' h=>?_) hQ
 generalize hF:(fun m ρk=>pG (fun ρ=>pre Φ c false ρ/\eK (den Φ c ρ)=true) (aM Φ body) (fun ρ=>aA (den Φ c ρ)) (av Φ body) m ρk/\ip (fun ρ=>aA (den Φ c ρ)) (av Φ body) n ρ=ip (fun ρ=>aA (den Φ c ρ)) (av Φ body) m ρk)=F
 refine wpAny_While (Rv (WInv X G env sc ctx A O ω s F) ?_ n ⟨ρ,O,ω,hF▸⟨hp.1,rfl⟩,Step.refl ..,C⟩)
 rintro m sk ⟨ρk,Ok,ωk,hw,hst,Ck⟩
 rw[<- hF]at hw
 refine al hw fun hw he=>?_
 cases m with
 | zero=>exact hw.elim
 | succ m =>
  refine PR (ihc sc ctx test env A Ok ωk ρk sk _ c1 Ck (R.le (aH _ _)) hw.1.1 hw.1.2) (fun t s₁ h₁=>?_) fun U U x=>x
  refine al h₁ fun e0 k1=>?_;subst e0
  have C1:=Ck.keeps wf k1
  have hst1:=hst.trans C.ok.obs (Step.keeps k1)
  replace he:=he.trans (Fg ..)
  cases ht:aA (den Φ c ρk)with
  | true =>
   rw[if_pos ht]at he
   rw[if_pos rfl]
   refine al (hw.2 ht) fun hpb hnx=>?_
   refine ihb sc ctx bd env A Ok ωk ρk s₁ _ _ c2 hsto C1 (fun q=>(hX q).step C hst1 C1) (R.le (aa (aH _ _) (ao _ _))) hpb fun O' ω' s' fl hs C' hf=>?_
   have hs':=hst1.trans C.ok.obs hs
   clear hw hpb
   generalize av Φ body ρk=x at C' hf he hnx
   obtain⟨f,ρ'⟩:=x
   cases f with
   | next =>
    cases hf
    exact⟨m,qN _,ρ',O',ω',hF▸⟨hnx,he⟩,hs',C'⟩
   | brk =>
    cases hf
    exact h O' ω' s' .next hs' (by rw[he];exact C') (by rw[he];rfl)
   | ret d =>
    refine x12 hf fun v e1 hr=>?_;subst e1
    exact h O' ω' s' (.ret v) hs' (by rw[he];exact C') (by rw[he];exact⟨v,rfl,hr⟩)
  | false =>
   rw[if_neg (by rw[ht];exact Pl)]at he
   rw[if_neg Pl]
   exact Qa (h Ok ωk s₁ .next hst1 (by rw[he];exact C1) (by rw[he];rfl))
structure FLoc(O:PP->Prop)(s₁:PL)(I:PP)(fp:List PP)(O':PP->Prop)(ω':PP->Option Nat)(sk:PL):Prop where
 oI:O' I
 kp:∀b o,¬O b->s₁.heap.get? b=some o->sk.heap.get? b=some o
 fe:∀b∈fp,∃o,sk.heap.get? b=some o
 fO:∀b∈fp,b≠I->¬O' b
 wI:∀j,ω' I≠some j
 OO:∀b o,s₁.heap.get? b=some o->O' b->O b
theorem FLoc.next{M O Ok O':PP->Prop}{ωk ω':PP->Option Nat}{s₁ sk s2 s':PL}(L:FLoc O s₁ I fp Ok ωk sk)(hI₁:s₁.heap.get? I=none)
 (hk2:∀b o,b≠I->sk.heap.get? b=some o->s2.heap.get? b=some o) (hoI:∃o,s2.heap.get? I=some o) (hM:∀b,M b->Ok b/\b≠I) (kk:∀b o,¬M b->s2.heap.get? b=some o->s'.heap.get? b=some o)
 (o1:O' I) (o2:∀b,O' b->Ok b\/s2.heap.get? b=none) (w':∀j,ω' I=some j->ωk I=some j\/s2.heap.get? I=none):FLoc O s₁ I fp O' ω' s'/\∀b∈fp,∀o,s2.heap.get? b=some o->s'.heap.get? b=some o:=by
 have back:∀b o,s2.heap.get? b=some o->s2.heap.get? b≠none:=fun b o e q=>by rw[q]at e;cases e
 have fe2:∀b∈fp,∃o,s2.heap.get? b=some o:=fun b hb=>if q:b=I then q▸hoI else(L.fe b hb).elim fun o e=>⟨o,hk2 b o q e⟩
 have keep:∀b∈fp,∀o,s2.heap.get? b=some o->s'.heap.get? b=some o:=fun b hb o e=>kk b o (fun q=>L.fO b hb (hM b q).2 (hM b q).1) e
 have kp2:∀b o,¬O b->s₁.heap.get? b=some o->s2.heap.get? b=some o:=fun b o n e=>hk2 b o (fun q=>by rw[q,hI₁]at e;cases e) (L.kp b o n e)
 refine⟨⟨o1,fun b o n e=>kk b o (fun q=>n (L.OO b o e (hM b q).1)) (kp2 b o n e),fun b hb=>(fe2 b hb).elim fun o e=>⟨o,keep b hb o e⟩,fun b hb n q=>?_,fun j q=>?_,fun b o e q=>?_⟩,keep⟩
 ·exact(o2 b q).elim (L.fO b hb n) fun z=>(fe2 b hb).elim fun o e=>back b o e z
 ·exact(w' j q).elim (L.wI j) fun z=>hoI.elim fun o e=>back I o e z
 ·exact(o2 b q).elim (L.OO b o e) fun z=>Classical.byContradiction fun hn=>back b o (kp2 b o hn e) z
structure FInv(X:Bool)(G:Glo)(env:Env)(sc:Scope)(ctx:List (Option Str))(A:P0)(O:PP->Prop)(ω:PP->Option Nat)(s s₁:PL)(I:PP)(fp:List PP)(F:List PQ->List SV->Prop)(rest:List PQ)(ρk:List SV)(Ok:PP->Prop)(ωk:PP->Option Nat)(sk:PL):Prop where
 loc:FLoc O s₁ I fp Ok ωk sk
 st:Step (Fz X A) env O ω s Ok ωk sk
 C:Cond G env sc ctx A Ok ωk ρk sk
 fr:F rest ρk
theorem xX{X:Bool}{tup:Bool}{slots:List Nat}{f:PQ->List SV->Fl × List SV}{PB:PQ->List SV->Prop}(wf:G.Wf)(ihi:gh G Φ it){sc:Scope}{ctx:List (Option Str)}{target iter:Expr}{bd:List PW}{pos:Pos}{env:Env}{A:P0}{O:PP->Prop}{ω:PP->Option Nat}{ρ:List SV}{s:PL}{E:PN->PL->Prop}{Q':Flow->PL->Prop}
 (hns:fD iter=true) (hci:fj Φ it sc ctx iter=true) (hct:fC tup slots sc ctx target=true) (hsto:∀i,bu env ctx i) (C:Cond G env sc ctx A O ω ρ s) (hX:X=true->FXE env A O ω s) (R:aI (kx Φ it) A) (hp:gI Φ it false ρ) (hfor:gj (fun d ρ=>bindP tup slots d/\PB d ρ) f (bS Φ it ρ) ρ)
 (ihb:∀d ρk l Ok ωk sk Q,PB d ρk->bY f (bS Φ it ρ) ρ=bY f (d::l) ρk->Step (Fz X A) env O ω s Ok ωk sk->Cond G env sc ctx A Ok ωk (aq tup slots d ρk) sk->(∀O' ω' s' fl,Step (Fz X A) env Ok ωk sk O' ω' s'->Cond G env sc ctx A O' ω' (f d ρk).2 s'->kG G O' s'.heap (f d ρk).1 fl->Q fl s')->PM (PO G.prog G.w) A (QG bd env) Q (notedBy (PO G.prog G.w) A env (cameBackBy (PO G.prog G.w) A env E)) sk)
 (h:∀O' ω' s' fl,Step (Fz X A) env O ω s O' ω' s'->Cond G env sc ctx A O' ω' (bY f (bS Φ it ρ) ρ).2 s'->kG G O' s'.heap (bY f (bS Φ it ρ) ρ).1 fl->Q' fl s') :
 PM (PO G.prog G.w) A (exec (.For target iter bd [] pos) env) Q' E s:=by
 refine wpAny_For (PR (ihi sc ctx iter false env A O ω ρ s E hci C R hp) (fun x s₁ h₁=>?_) fun U U x=>x) (fun x=>pB hns)
 refine al h₁ fun k01 h₁=>?_
 refine PR (h₁ E) (fun itv s₂ h₂=>?_) fun U U x=>x
 obtain⟨k12,I,fp,wr,P,St,rfl,W,hst,hfq,⟨rfl,hI₁⟩,hf,htame,hIfp,hit⟩:=h₂
 have hI₀:s.heap.get? I=none:=jL (M:=fun U=>False) (KM.of k01) hI₁
 have C1:=C.keeps wf k01
 have hnI:¬O I:=fun q=>by refine x11 (C1.ok.obs I q) fun o e=>?_;rw[hI₁]at e;cases e
 have hIf:I∉hfp A:=fun q=>by refine x11 (C1.ok.hok.there I q) fun o e=>?_;rw[hI₁]at e;cases e
 have C2:Cond G env sc ctx A (fun b=>O b\/b=I) ω ρ s₂:=C1.grow wf k12 (fun b q=>.inl q) (fun b q=>by
  rcases q with q | rfl
  ·exact .inl q
  ·exact .inr hI₁) fun b q=>by
  rcases q with q | rfl
  ·refine x11 (C1.ok.obs b q) fun o e=>?_;exact⟨o,am k12 b o e⟩
  ·refine x22 (htame 0 _ hst) fun o U e U=>?_;exact⟨o,e⟩
 have st2:Step (Fz X A) env O ω s (fun b=>O b\/b=I) ω s₂:=⟨KS.of (KM.of (aX k01 k12)),fun b q U=>.inl q,fun b q=>by
  rcases q with q | rfl
  ·exact .inl q
  ·exact .inr hI₀,fun b i q=>.inl q⟩
 have wI:∀j,ω I≠some j:=fun j q=>hnI (C.om I j q).1
 generalize hits:bS Φ it ρ=its at *
 generalize hF:(fun rest ρk=>gj (fun d ρ=>bindP tup slots d/\PB d ρ) f rest ρk/\bY f its ρ=bY f rest ρk)=F
 refine codeAny_forLoop_any (fun n sk=>∃i ρk O' ω',i<=its.length/\n=its.length+1 - i/\St i sk.heap/\FInv X G env sc ctx A O ω s s₁ I fp F (its.drop i) ρk O' ω' sk) ?_ (its.length+1)
  ⟨0,ρ,_,ω,bx _,rfl,hst,⟨.inr rfl,fun b o U e=>am k12 b o e,hfq,fun b hb n q=>q.elim (hf rfl b hb) n,wI,fun b o e q=>by
   rcases q with q | rfl
   ·exact q
   ·rw[hI₁]at e;cases e⟩,st2,C2,by rw[<- hF,List.drop_zero];exact⟨hfor,rfl⟩⟩
 rintro n sk ⟨i,ρk,Ok,ωk,hi,rfl,hst,inv⟩
 have Ck:=inv.C
 have hFI:∀b,bb env b->Ok b/\b≠I:=fun b q=>⟨Ck.fr b q,fun z=>hnI (z▸C.fr b q)⟩
 have hCI:∀x c,env.cells.lookup x=some c->Ok c/\c≠I:=fun x c e=>⟨Ck.fc x c e,fun z=>hnI (z▸C.fc x c e)⟩
 have hWI:∀b j,ωk b=some j->Ok b/\b≠I:=fun b j e=>⟨(Ck.om b j e).1,fun z=>inv.loc.wI j (z▸e)⟩
 have hfr:=inv.fr
 rw[<- hF]at hfr
 by_cases hlt:i<its.length
 ·refine W.item i _ _ _ hlt hst fun v h₂ t₂ hP hst₂ hk₂=>?_
  refine x23 (htame (i+1) h₂ hst₂) fun oI TI hoI hcI htI=>?_
  refine mq hoI hcI htI ?_
  have hk2:∀b o,b≠I->sk.heap.get? b=some o->h₂.get? b=some o:=fun b o n e=>hk₂ b o (by simpa using n) e
  have k2:KM (· = I) sk { sk with heap:=h₂,toks:=t₂ }:=⟨h₂,t₂,rfl,fun b o n e=>hk2 b o n e,fun b o e=>if q:b=I then q▸⟨oI,hoI⟩else⟨o,hk2 b o q e⟩⟩
  have C2:=Ck.side (O:=fun b=>Ok b/\b≠I) wf hWI hFI hCI (fun q=>q.2 rfl) inv.loc.oI k2
  have S2:=inv.st.side (O'':=Ok) (t:=t₂) C.ok.obs hI₀ (fun b q U=>q) (fun b q=>q) hk2
  refine x12 (hit i v hP) fun d hd rd=>?_
  have rd':Rep Ok h₂ v d:=(rd s₁.heap fun U U U e=>e).mono (fun b o n e=>hk2 b o (fun q=>by rw[q,hI₁]at e;cases e) (inv.loc.kp b o n e)) inv.loc.OO
  have hdrop:its.drop i=d::its.drop (i+1):=by
   rw[List.drop_eq_getElem_cons hlt]
   congr 1
   exact QH ((br hlt).symm.trans hd)
  rw[hdrop]at hfr
  refine xG wf (fun j U=>hsto j) hct C2 rd' hfr.1.1.1 fun s3 k3 C3=>?_
  have S3:=S2.trans C.ok.obs (Step.frame k3)
  refine ihb d ρk _ Ok ωk s3 _ hfr.1.1.2 hfr.2 S3 C3 fun O' ω' s' fl hs C' hfl=>?_
  have S4:=S3.trans C.ok.obs hs
  refine al hfr fun z0 hfe=>?_;refine al z0 fun U hb3=>?_
  replace hfe:bY f its ρ=(match f d ρk with | (.next,ρ')=>bY f (its.drop (i+1)) ρ' | (.brk,ρ')=>(.next,ρ') | (.ret v,ρ')=>(.ret v,ρ')):=hfe
  generalize f d ρk=x at C' hfl hfe hb3
  obtain⟨g,ρ'⟩:=x
  cases g with
  | next =>
   cases hfl
   have hFz:∀b,Fz X A b->O b/\b≠I:=fun b q=>⟨(hX q.1).fo b q.2,fun z=>by
    refine x32 ((hX q.1).dict q.2) fun o U U e U=>?_
    rw[z,hI₀]at e;cases e⟩
   have nb:∀b,s3.heap.get? b=none->h₂.get? b=none:=fun b e=>jL k3 e
   have nx:=inv.loc.next (M:=fun b=>MO env ωk b\/Fz X A b) hI₁ (s2:={ sk with heap:=h₂,toks:=t₂ }) hk2 ⟨oI,hoI⟩ (fun b q=>q.elim (fun q=>q.elim (hFI b) fun ζ=>ζ.elim fun j q=>hWI b j q) fun q=>⟨((hX q.1).step C S3 C3).fo b q.2,(hFz b q).2⟩)
    (fun b o n e=>hs.km.get b o (fun q=>n (.inl q)) (fun q=>n (.inr q)) (k3.get b o (fun q=>n (.inl (.inl q))) e)) (hs.o1 I inv.loc.oI inv.loc.wI) (fun b q=>(hs.o2 b q).imp id (nb b)) fun j q=>(hs.w2 I j q).imp id (nb I)
   exact⟨its.length+1 - (i+1),by lia,i+1,ρ',O',ω',hlt,rfl,W.frame _ _ _ hst₂ fun b hb o e=>nx.2 b hb o e,nx.1,S4,C',by rw[<- hF];exact⟨hb3,hfe⟩⟩
  | brk =>
   cases hfl
   exact h O' ω' s' .next S4 (by rw[hfe];exact C') (by rw[hfe];rfl)
  | ret d =>
   refine x12 hfl fun v e1 hr=>?_;subst e1
   exact h O' ω' s' (.ret v) S4 (by rw[hfe];exact C') (by rw[hfe];exact⟨v,rfl,hr⟩)
 ·have hin:i=its.length:=BN hi (c5.mp hlt)
  subst hin
  refine W.done _ _ _ hst fun h₂ t₂ hk₂=>Qa ?_
  have hk:∀b o,b≠I->sk.heap.get? b=some o->h₂.get? b=some o:=fun b o n e=>hk₂ b o (by simpa using n) e
  have hfe:=hfr.2
  rw[List.drop_length]at hfe
  refine h (fun b=>Ok b/\b≠I) ωk _ .next (inv.st.side C.ok.obs hI₀ (fun b q n=>⟨q,n⟩) (fun b q=>q.1) hk) ?_ (by rw[hfe];rfl)
  rw[hfe]
  exact Ck.shrink wf (fun b q=>q.1) hWI hFI hCI (fun q=>q.2 rfl) inv.loc.oI hIf hk
theorem Fi(tup:Bool)(slots:List Nat)(it:IX)(body r:SX)(wf:G.Wf)(ihi:gh G Φ it)(ihb:dL G Φ X body)(ihr:dL G Φ X r):dL G Φ X (.for tup slots it body r):=by
 intro sc ctx st env A O ω ρ s E Q hc hsto C hX R hp hQ
 refine dm (P:=fun st=>PM (PO G.prog G.w) A (QG st env) Q E s) (f:=fun x rest=>l7 x fun target iter bd U=>fD iter&&fj Φ it sc ctx iter&&fC tup slots sc ctx target&&cn Φ body sc ctx bd&&cn Φ r sc ctx rest) hc fun x rest hc=>?_
 refine wW (P:=fun x=>PM (PO G.prog G.w) A (QG (x::rest) env) Q E s) hc fun target iter bd pos hc=>?_
 refine ic hc fun hns hci hct hcb hcr=>?_
 replace R:aI (max (kx Φ it) (max (kS Φ body) (kS Φ r))) A:=R
 refine pH (x:=bY (fun d ρ=>av Φ body (aq tup slots d ρ)) (bS Φ it ρ) ρ) ihr C hsto hX hcr (R.le (aa (ao _ _) (ao _ _))) hp.2.2 (fun Q' h=>?_) hQ
 exact xX (PB:=fun d ρ=>aM Φ body (aq tup slots d ρ)) wf ihi hns hci hct hsto C hX (R.le (aH _ _)) hp.1 hp.2.1 (fun d ρk l Ok ωk sk Q hP U hst Ck hn=>ihb sc ctx bd env A Ok ωk _ sk _ Q hcb hsto Ck (fun q=>(hX q).step C hst Ck) (R.le (aa (aH _ _) (ao _ _))) hP hn) h
theorem pI(wf:G.Wf)(hF:∀F∈Φ,aK G F):∀S:SX,eb G X S->dL G Φ X S:=by
 intro S
 have e:=snd wf hF
 induction S with
 | skip=>intro _;exact Fa
 | prim p r ih=>intro h;exact Fb p r h.1 (ih h.2)
 | frz i r ih=>intro h;exact Fd i r wf (ih h)
 | ite c a b r iha ihb ihr=>intro h;exact Fe c a b r wf (e c).tst (iha h.1) (ihb h.2.1) (ihr h.2.2)
 | «for» tup slots it body r ihb ihr=>intro h;exact Fi tup slots it body r wf (e it).it (ihb h.1) (ihr h.2)
 | whl n c body r ihb ihr=>intro h;exact Fh n c body r wf (e c).tst (ihb h.1) (ihr h.2)
end
section
variable{G:Glo}{Φ:List FEntry}
set_option tactic.hygienic true in
theorem Fj{env:Env}{sc:Scope}{ctx:List (Option Str)}{A:P0}{O:PP->Prop}{ω:PP->Option Nat}{ρ ρ':List SV}{s:PL}{E:PN->PL->Prop}{e:IX}{ast:Expr}{use:PN->Sem Unit}{Q:Unit->PL->Prop}(wf:G.Wf)(hF:∀F∈Φ,aK G F)
 (hl:∃elt gens scope pos,ast=.ListComp elt gens scope pos) (hc:chk Φ e sc ctx ast=true) (C:Cond G env sc ctx A O ω ρ s) (R:aI (kx Φ e) A) (hp:pre Φ e false ρ)
 (huse:∀O' v s' E Q',Cond G env sc ctx A O' ω ρ s'->Rep O' s'.heap v (den Φ e ρ)->(∀s'',KM (bb env) s' s''->Cond G env sc ctx A O' ω ρ' s''->Q' () s'')->PM (PO G.prog G.w) A (use v) Q' E s')
 (hQ:∀s',KM (bb env) s s'->Cond G env sc ctx A O ω ρ' s'->Q () s'):PM (PO G.prog G.w) A (evalThenUse ast env use) Q E s:=by
 refine x41 hl fun elt gens scope pos e4=>?_;subst e4
 cases e<;>first | (exact absurd hc Pl) | skip
 rename_i n tup slots it ifs rest
 cases gens with
 | nil=>exact absurd hc Pl
 | cons g gs =>
  show PM _ A (comprehension (.ListComp elt (g::gs) scope pos) scope env _ (newList []) (firstAsync (g::gs)) (firstIter (g::gs) env) (some use) >>= fun U=>pure ()) Q E s
  exact PK (xV (snd wf hF it).it (snd wf hF ifs).ts (snd wf hF rest).gn wf hc C R hp fun D C' s' m k hC hDC hm r=>Ev wf C k hC hm r huse fun s' k C'=>PU (hQ s' k C'))
set_option backward.match.sparseCases false in
noncomputable def xY:Expr->Bool
 | .SetComp ..=>false
 | .DictComp ..=>false
 | _=>true
set_option tactic.hygienic true in
theorem Fm{x:Str}{p:Pos}{line:Nat}{env:Env}(hv:xY v=true) :
 (RZ v (some (.Name x p)) line env=pure false)\/(RZ v (some (.Name x p)) line env=pure true/\∃a b c d,v=.ListComp a b c d):=by
 cases v<;>first | exact .inl rfl | exact absurd hv Pl | skip
 rename_i a b c d
 have h:∃r:Bool,RZ (.ListComp a b c d) (some (.Name x p)) line env=pure r:=⟨env.blockKind==.function&&env.kindOf x==some .local&&p.line==(Expr.ListComp a b c d).pos.line&&!(c.names.any fun(n,k)=>n==x&&(k==.local||k==.cell)),rfl⟩
 refine x11 h fun r h=>?_
 cases r with
 | false=>exact .inl h
 | true=>exact .inr ⟨h,_,_,_,_,rfl⟩
noncomputable def cf(Φ:List FEntry)(i:Nat)(e:IX):Prim where
 chk sc ctx st:=gb st fun t v U=>cI t fun x U=>ctx[i]? == some (some x)&&aT sc x&&xY v&&chk Φ e sc ctx v
 k:=kx Φ e
 pre ρ:=pre Φ e false ρ
 den ρ:=(.next,ρ.set i (.dat (den Φ e ρ)))
theorem cq(i:Nat)(e:IX)(wf:G.Wf)(hF:∀F∈Φ,aK G F):dZ G X (cf Φ i e):=by
 intro sc ctx st env A O ω ρ s E Q hc hsto C hX R hp hQ
 refine ss (P:=fun st=>PM (PO G.prog G.w) A (exec st env) Q E s) hc fun x p v pos hc=>?_
 refine gF hc fun hi hk hsd hv=>?_
 have hi:=P9 hi
 have plain:RZ v (some (.Name x p)) pos.line env=pure false->PM (PO G.prog G.w) A (exec (.Assign [.Name x p] v pos) env) Q E s:=by
  intro hsw
  refine Qn (PR ((snd wf hF e).ev sc ctx v false env A O ω ρ s E hv C R hp) (fun u s₁ h₁=>?_) fun U U x=>x) hsw rfl
  have C1:=C.keeps wf h₁.1
  show PM _ A (QJ (.Name x p) env u) _ _ s₁
  exact jH wf (hsto i) C1 hi hk h₁.2.ff fun s' k C'=>hQ O ω s' .next ((Step.keeps h₁.1).trans C.ok.obs (Step.frame k)) C' rfl
 rcases Fm (x:=x) (p:=p) (line:=pos.line) (env:=env) hsd with h | ⟨h,h'⟩
 ·exact plain h
 ·rw[exec_Assign_arm]
  refine PK (Ql ?_)
  rw[show swapsWithSole [.Name x p] v pos.line env=pure true from h]
  refine PK (PU ?_)
  rw[if_pos rfl]
  refine PK (Fj (ρ':=ρ.set i (.dat (den Φ e ρ))) wf hF h' hv C R hp (fun O' u s' E Q' C' r hq=>?_) fun s' k C'=>PU (hQ O ω s' .next (Step.frame k) C' rfl))
  show PM _ A (QJ (.Name x p) env u) _ _ s'
  exact jH wf (hsto i) C' hi hk r hq
set_option backward.match.sparseCases false in
noncomputable def Fn:Expr->Bool
 | .Tuple ..=>false
 | _=>true
noncomputable def mJ(Φ:List FEntry)(slots:List Nat)(e:IX):Prim where
 chk sc ctx st:=gb st fun t v U=>ie t fun ts U U=>Fn v&&dI sc ctx slots ts&&chk Φ e sc ctx v
 k:=kx Φ e
 pre ρ:=pre Φ e false ρ/\jE (den Φ e ρ)=true/\(cz (den Φ e ρ)).length=slots.length
 den ρ:=(.next,eL ρ slots (cz (den Φ e ρ)))
theorem sW(slots:List Nat)(e:IX)(wf:G.Wf)(hF:∀F∈Φ,aK G F):dZ G X (mJ Φ slots e):=by
 intro sc ctx st env A O ω ρ s E Q hc hsto C hX R hp hQ
 refine w6 (P:=fun st=>PM (PO G.prog G.w) A (exec st env) Q E s) hc fun ts k p v pos hc=>?_
 refine eh hc fun hn ht hv=>?_
 have hsw:swapsWithSole [.Tuple ts k p] v pos.line env=pure false:=by
  show RZ v (some (.Tuple ts k p)) pos.line env=pure false
  cases v<;>rfl
 have hst:swappedStores [.Tuple ts k p] v env=pure none:=by
  cases v<;>first | rfl | exact absurd hn Pl
 refine Qn (PR ((snd wf hF e).ev sc ctx v false env A O ω ρ s E hv C R hp.1) (fun u s₁ h₁=>?_) fun U U x=>x) hsw hst
 show PM _ A (QJ (.Tuple ts k p) env u) _ _ s₁
 exact xF wf (fun j U=>hsto j) ht (C.keeps wf h₁.1) h₁.2.ff hp.2 fun s' k C'=>hQ O ω s' .next ((Step.keeps h₁.1).trans C.ok.obs (Step.frame k)) C' rfl
noncomputable def et(Φ:List FEntry)(e:IX):Prim where
 chk sc ctx st:=lZ st fun v U=>chk Φ e sc ctx v
 k:=kx Φ e
 pre ρ:=pre Φ e false ρ
 den ρ:=(.ret (den Φ e ρ),ρ)
theorem fH(e:IX)(wf:G.Wf)(hF:∀F∈Φ,aK G F):dZ G X (et Φ e):=by
 intro sc ctx st env A O ω ρ s E Q hc hsto C hX R hp hQ
 refine o9 (P:=fun st=>PM (PO G.prog G.w) A (exec st env) Q E s) hc fun v pos hc=>?_
 show PM _ A (RX pos >>= fun U=>Qg v env >>= fun u=>pure (.ret u)) Q E s
 refine PK (Ql (PK (PR ((snd wf hF e).ev sc ctx v false env A O ω ρ s E hc C R hp) (fun u s₁ h₁=>PU ?_) fun U U x=>x)))
 exact hQ O ω s₁ (.ret u) (Step.keeps h₁.1) (C.keeps wf h₁.1) ⟨u,rfl,h₁.2.ff⟩
end
section
variable{prog:Qs}{w:Qq}{A:P0}{E:PN->PL->Prop}{s:PL}
end
section
variable{G:Glo}{Φ:List FEntry}
theorem xZ{Ff:PP->Prop}{env:Env}{sc:Scope}{ctx:List (Option Str)}{A:P0}{O:PP->Prop}{ω:PP->Option Nat}{ρ:List SV}{s:PL}{i:Nat}{x:Str}{a:PP}{vs vs':Array PN}{n n':Nat}{ds':List PQ}{h':Qk}{val:Str->Option PN}
 (wf:G.Wf) (C:Cond G env sc ctx A O ω ρ s) (F:FrameV env s.heap val) (V:i6 G O ω s.heap ctx ρ val) (hi:ctx[i]? = some (some x)) (hil:i<ρ.length) (hv:val x=some (.ref a)) (hw:ω a=some i) (hl:IsL s.heap a vs n)
 (hl':IsL h' a vs' n') (hr':RepL O h' vs'.toList ds') (hs:QM a s.heap h') :
 Step Ff env O ω s O ω { s with heap:=h' }/\Cond G env sc ctx A O ω (ρ.set i (.own (.list ds'))) { s with heap:=h' }:=by
 have hO:=(C.om a i hw).1
 have k:KM (· = a) s { s with heap:=h' }:=KM.chg (t:=s.toks) hs.extBut ⟨_,hl'⟩ rfl
 refine⟨⟨KS.of (k.mono fun b q=>.inr ⟨i,q▸hw⟩),fun U h U=>h,fun U h=>.inl h,fun U U h=>.inl h⟩,C.frame k (fun b q=>q▸hO) (by simp) (F.chg hl hs.extBut) fun j y hy=>?_⟩
 rw[dJ]
 by_cases q:i=j
 ·subst q
  rw[if_pos ⟨rfl,hil⟩]
  have:y=x:=by rw[hi]at hy;cases hy;rfl
  subst this
  exact⟨a,vs',n',ds',hv,hw,rfl,hl',hr'⟩
 ·rw[if_neg fun z=>q z.1]
  refine(V j y hy).at wf C.base fun b o hb e=>hs.extBut b o (fun z=>?_) e
  rcases hb with hb | hb
  ·rw[z,hw]at hb;cases hb;exact q rfl
  ·exact hb (z▸hO)
noncomputable def eu:SV->List PQ
 | .own d=>cz d
 | _=>[]
inductive OwnVar(G:Glo)(env:Env)(ctx:List (Option Str))(O:PP->Prop)(ω:PP->Option Nat)(ρ:List SV)(s:PL)(i:Nat)(x:Str):Prop where
 | mk (val:Str->Option PN) (a:PP) (vs:Array PN) (n:Nat) (F:FrameV env s.heap val) (V:i6 G O ω s.heap ctx ρ val) (hv:val x=some (.ref a)) (hw:ω a=some i) (hL:IsL s.heap a vs n) (hR:RepL O s.heap vs.toList (eu (ρ.getD i .un))) (hi:i<ρ.length):OwnVar G env ctx O ω ρ s i x
theorem sX(C:Cond G env sc ctx A O ω ρ s)(hi:ctx[i]? = some (some x))(ho:kH (ρ.getD i .un)) :
 OwnVar G env ctx O ω ρ s i x:=by
 obtain⟨val,F,V⟩:=C.vars
 have hv:=V i x hi
 cases hx:ρ.getD i .un with
 | own d =>
  rw[hx]at hv
  obtain⟨a,vs,n,ds,e1,e2,rfl,h1,h2⟩:=hv
  refine⟨val,a,vs,n,F,V,e1,e2,h1,by rw[hx];exact h2,?_⟩
  by_cases q:i<ρ.length
  ·exact q
  ·rw[aj,Px (by simpa using q)]at hx;cases hx
 | un=>rw[hx]at ho;exact ho.elim
 | val d=>rw[hx]at ho;exact ho.elim
 | dat d=>rw[hx]at ho;exact ho.elim
 | sor g=>rw[hx]at ho;exact ho.elim
noncomputable def jM(Φ:List FEntry)(i:Nat)(e:IX):Prim where
 chk sc ctx st:=iU st fun c U=>iW c fun x U m ap as p=>v1 as fun a=>m==ofString "append"&&ap.endLine==p.line&&ctx[i]? == some (some x)&&x != ofString "__debug__"&&chk Φ e sc ctx a
 k:=kx Φ e
 pre ρ:=kH (ρ.getD i .un)/\pre Φ e false ρ/\(eu (ρ.getD i .un)).length<=16777216
 den ρ:=(.next,ρ.set i (.own (.list (eu (ρ.getD i .un)++[den Φ e ρ]))))
theorem x6(i:Nat)(e:IX)(wf:G.Wf)(hF:∀F∈Φ,aK G F):dZ G X (jM Φ i e):=by
 intro sc ctx st env A O ω ρ s E Q hc hsto C hX R hp hQ
 refine pj (P:=fun st=>PM (PO G.prog G.w) A (exec st env) Q E s) (f:=fun x m ap as p=>v1 as fun a=>m==ofString "append"&&ap.endLine==p.line&&ctx[i]? == some (some x)&&x != ofString "__debug__"&&chk Φ e sc ctx a) hc fun x px m ap as p pos hc=>?_
 refine dW (P:=fun as=>PM (PO G.prog G.w) A (exec (.Expr (.Call (.Attribute (.Name x px) m ap) as [] p) pos) env) Q E s) hc fun a hc=>?_
 refine ic hc fun hm hl hi hd ha=>?_
 cases P9 hm
 have hi:=P9 hi
 have hd:=bne_iff_ne.mp hd
 refine dl hp fun ho hpe hlen=>?_
 obtain⟨val,l,vs,n,Fv,V,hv,hw,hL,hR,hil⟩:=sX C hi ho
 have hint:Q1 env=false:=by unfold Q1;rw[C.eo.kindS];rfl
 refine RN ?_ hint rfl
 refine Rp rfl (io (gf e ha)) hl (RK (gM C.eo Fv hv (C.co.kd i x hi) ?_) (by simpa using hd))
 refine⟨"list", "list.append",Rh,Se,Sg,hL.isList.typeIs,(fun b e=>by cases e;exact⟨_,hL,rfl⟩),?_⟩
 refine QD rfl (Qo (Qh (PR ((snd wf hF e).ev sc ctx a false env A O ω ρ s E ha C R hpe) (fun u s₁ h₁=>Qc ?_) fun U U x=>x)))
 have C1:=C.keeps wf h₁.1
 have F1:=Fv.keeps (am h₁.1)
 have V1:i6 G O ω s₁.heap ctx ρ val:=fun j y hy=>(V j y hy).keeps wf C.base h₁.1
 have hL1:=am h₁.1 _ _ hL
 have hR1:=hR.keeps h₁.1
 have hsz:=hR1.length
 rw[cQ]at hsz
 refine append_at hL1 (fun h' hs hD'=>?_) (by show vs.size<=Q7;rw[hsz];exact hlen)
 have hO:=(C1.om l i hw).1
 have hk:∀b o,¬O b->s₁.heap.get? b=some o->h'.get? b=some o:=fun b o nO e=>hs.extBut b o (fun q=>nO (q▸hO)) e
 obtain⟨S',C'⟩:=xZ wf C1 F1 V1 hi hil hv hw hL1 hD' (ds':=eu (ρ.getD i .un)++[den Φ e ρ]) (by
  rw[Sl]
  exact(hR1.mono hk fun U U U q=>q).append (.cons (h₁.2.ff.mono hk fun U U U q=>q) .nil)) hs
 exact hQ O ω _ .next ((Step.keeps h₁.1).trans C.ok.obs S') C' rfl
end
structure Grow(O:PP->Prop)(ω:PP->Option Nat)(s:PL)(O':PP->Prop)(ω':PP->Option Nat)(s':PL):Prop where
 kp:PY s s'
 oo:∀b,O b->O' b
 o2:∀b,O' b->O b\/s.heap.get? b=none
 ww:∀b i,ω b=some i->ω' b=some i
 w2:∀b i,ω' b=some i->ω b=some i\/s.heap.get? b=none
theorem Grow.step(g:Grow O ω s O' ω' s'):Step Ff env O ω s O' ω' s':=⟨KS.of (KM.of g.kp),fun b h U=>g.oo b h,g.o2,g.w2⟩
theorem Grow.of(k:PY s s'):Grow O ω s O ω s':=⟨k,fun U h=>h,fun U h=>.inl h,fun U U h=>h,fun U U h=>.inl h⟩
theorem iq(k:PY s s')(h:s'.heap.get? b=none):s.heap.get? b=none:=jL (M:=fun U=>False) (KM.of k) h
theorem Grow.trans(x:Grow O ω s O' ω' s')(y:Grow O' ω' s' O'' ω'' s''):Grow O ω s O'' ω'' s'' :=
 ⟨aX x.kp y.kp,fun b h=>y.oo b (x.oo b h),fun b h=>(y.o2 b h).elim (x.o2 b) fun q=>.inr (iq x.kp q),fun b i h=>y.ww b i (x.ww b i h),fun b i h=>(y.w2 b i h).elim (x.w2 b i) fun q=>.inr (iq x.kp q)⟩
section
variable{G:Glo}{Φ:List FEntry}{env:Env}{sc:Scope}{ctx:List (Option Str)}{A:P0}{O O':PP->Prop}{ω ω':PP->Option Nat}{ρ:List SV}{s s':PL}{E:PN->PL->Prop}
theorem Grow.rep(g:Grow O ω s O' ω' s')(wf:G.Wf)(B:G.Base O s.heap)(r:c7 G O ω s.heap i v y):c7 G O' ω' s'.heap i v y:=by
 have hO:∀b o,s.heap.get? b=some o->O' b->O b:=fun b o e q=>(g.o2 b q).elim id fun z=>by rw[z]at e;cases e
 cases y with
 | dat d=>refine x12 r fun u e r=>?_;exact⟨u,e,r.mono (fun b o U e=>am g.kp b o e) hO⟩
 | own d=>obtain⟨a,vs,n,ds,e1,e2,e3,h1,h2⟩:=r;exact⟨a,vs,n,ds,e1,g.ww a i e2,e3,am g.kp _ _ h1,h2.mono (fun b o U e=>am g.kp b o e) hO⟩
 | un=>trivial
 | val u=>exact r
 | sor x =>
  refine x23 r fun u S e r hS=>?_
  exact⟨u,S,e,wf.srf x S s.heap s'.heap u r (fun b o U e=>am g.kp b o e) (fun b o q=>B.kp b o q) (fun b o q=>am g.kp b o (B.kp b o q)),fun b q=>g.ww b i (hS b q)⟩
theorem x7{i:Nat}(wf:G.Wf)(C:Cond G env sc ctx A O ω ρ s)(k:PY s s')(ha:s.heap.get? a=none)(ha':∃o,s'.heap.get? a=some o) :
 Grow O ω s (fun b=>O b\/b=a) (fun b=>if b=a then some i else ω b) s'/\Cond G env sc ctx A (fun b=>O b\/b=a) (fun b=>if b=a then some i else ω b) ρ s':=by
 have hne:∀b o,s.heap.get? b=some o->b≠a:=fun b o e q=>by rw[q,ha]at e;cases e
 have hw:∀b j,ω b=some j->b≠a:=fun b j e=>by
  refine x11 (C.ok.obs b (C.om b j e).1) fun o q=>?_
  exact hne b o q
 have g:Grow O ω s (fun b=>O b\/b=a) (fun b=>if b=a then some i else ω b) s':=⟨k,fun b h=>.inl h,fun b h=>by
  rcases h with h | rfl
  ·exact .inl h
  ·exact .inr ha,(fun b j h=>by
   rw[if_neg (hw b j h)];exact h),fun b j h=>by
   by_cases q:b=a
   ·exact .inr (q▸ha)
   ·rw[if_neg q]at h;exact .inl h⟩
 refine⟨g,?_⟩
 have C':=C.grow wf k g.oo g.o2 (fun b q=>by
  rcases q with q | rfl
  ·refine x11 (C.ok.obs b q) fun o e=>?_;exact⟨o,am k b o e⟩
  ·exact ha')
 obtain⟨val,F,V⟩:=C.vars
 refine⟨C'.eo,C'.co,C'.len,C'.ok,C'.base,C'.fr,C'.fc,fun b j h=>?_,val,F.keeps (am k),fun j y hy=>g.rep wf C.base (V j y hy)⟩
 by_cases q:b=a
 ·refine⟨.inr q,fun z=>?_⟩
  have:=C.store_O z
  refine x11 (C.ok.obs b this) fun o e=>?_
  exact hne b o e q
 ·rw[if_neg q]at h
  exact⟨.inl (C.om b j h).1,(C.om b j h).2⟩
inductive OwnPost(G:Glo)(env:Env)(sc:Scope)(ctx:List (Option Str))(A:P0)(O:PP->Prop)(ω:PP->Option Nat)(ρ:List SV)(s:PL)(i:Nat)(y:SV)(v:PN)(s':PL):Prop where
 | mk (O':PP->Prop) (ω':PP->Option Nat) (g:Grow O ω s O' ω' s') (C:Cond G env sc ctx A O' ω' ρ s') (r:c7 G O' ω' s'.heap i (some v) y):OwnPost G env sc ctx A O ω ρ s i y v s'
set_option backward.match.sparseCases false in
noncomputable def kI:IX->Bool
 | .list _=>true
 | _=>false
theorem x8(h:kI e=true):∃es,e=.list es:=by
 cases e<;>first | (exact absurd h Pl) | exact⟨_,rfl⟩
theorem x9{i:Nat}(wf:G.Wf)(hF:∀F∈Φ,aK G F)(hl:kI e=true)(hc:chk Φ e sc ctx ast=true)(C:Cond G env sc ctx A O ω ρ s)(R:aI (kx Φ e) A)(hp:pre Φ e false ρ) :
 PM (PO G.prog G.w) A (Qg ast env) (OwnPost G env sc ctx A O ω ρ s i (.own (den Φ e ρ))) E s:=by
 refine x11 (x8 hl) fun es e1=>?_;subst e1
 refine o7 (P:=fun ast=>PM (PO G.prog G.w) A (Qg ast env) (OwnPost G env sc ctx A O ω ρ s i (.own (den Φ (.list es) ρ))) E s) hc fun xs p hc=>?_
 replace R:aI (kx Φ es) A:=R
 replace hp:dX Φ es ρ/\(bE Φ es ρ).length<=16777216:=hp
 refine Si ?_
 rw[ij _ (jK es hc),jG]
 refine PR ((snd wf hF es).ls sc ctx xs env A O ω ρ s E hc C R hp.1) (fun vs s₁ h₁=>?_) fun U U x=>x
 have hl:vs.length<=16777216:=by rw[h₁.2.length];exact hp.2
 have C1:=C.keeps wf h₁.1
 have hnone:s₁.heap.get? s₁.heap.objs.size=none:=QX (aN _)
 refine al (x7 (i:=i) wf C1 (bL { cls:=.type "list",data:=.seq vs.toArray } (t:=s₁.toks)) hnone ⟨_,PZ _ rfl⟩) fun g C2=>?_
 refine⟨hl,_,_,(Grow.of h₁.1).trans g,C2,s₁.heap.objs.size,vs.toArray,0,bE Φ es ρ,rfl,if_pos rfl,rfl,IsL.new _ _,?_⟩
 have:vs.toArray.toList=vs:=rfl
 rw[this]
 exact h₁.2.mono (fun b o U e=>PX _ e) fun b o e q=>by
  rcases q with q | rfl
  ·exact q
  ·rw[hnone]at e;cases e
noncomputable def pJ(p:Bool × IX)(ρ:List SV):SV:=if p.1=true then .own (den Φ p.2 ρ)else .dat (den Φ p.2 ρ)
noncomputable def kJ(Φ:List FEntry):List (Bool × IX)->Scope->List (Option Str)->List Expr->Bool
 | [],_,_,[]=>true
 | p::es,sc,ctx,x::xs=>(!p.1||kI p.2)&&chk Φ p.2 sc ctx x&&kJ Φ es sc ctx xs
 | _,_,_,_=>false
noncomputable def sY(Φ:List FEntry):List (Bool × IX)->Nat
 | []=>0
 | p::es=>max (kx Φ p.2) (sY Φ es)
noncomputable def sZ(Φ:List FEntry):List (Bool × IX)->List SV->Prop
 | [],_=>True
 | p::es,ρ=>pre Φ p.2 false ρ/\sZ Φ es ρ
noncomputable def fK(G:Glo)(O:PP->Prop)(ω:PP->Option Nat)(h:Qk):List Nat->List PN->List SV->Prop
 | i::is,v::vs,y::ys=>c7 G O ω h i (some v) y/\fK G O ω h is vs ys
 | [],[],[]=>True
 | _,_,_=>False
inductive OwnsPost(G:Glo)(env:Env)(sc:Scope)(ctx:List (Option Str))(A:P0)(O:PP->Prop)(ω:PP->Option Nat)(ρ:List SV)(s:PL)(is:List Nat)(ys:List SV)(vs:List PN)(s':PL):Prop where
 | mk (O':PP->Prop) (ω':PP->Option Nat) (g:Grow O ω s O' ω' s') (C:Cond G env sc ctx A O' ω' ρ s') (r:fK G O' ω' s'.heap is vs ys):OwnsPost G env sc ctx A O ω ρ s is ys vs s'
theorem ya(wf:G.Wf)(hF:∀F∈Φ,aK G F):∀(es:List (Bool × IX)) (slots:List Nat) (xs:List Expr) (O:PP->Prop) (ω:PP->Option Nat) (s:PL),kJ Φ es sc ctx xs=true->slots.length=es.length->Cond G env sc ctx A O ω ρ s->aI (sY Φ es) A->sZ Φ es ρ ->
 PM (PO G.prog G.w) A (spliced (xs.map fun a=>(false,Qg a env))) (OwnsPost G env sc ctx A O ω ρ s slots (es.map fun p=>pJ (Φ:=Φ) p ρ)) E s
 | [],[],[],O,ω,s,_,_,C,_,_=>Qc ⟨O,ω,Grow.of (bz s),C,trivial⟩
 | [],[],x::xs,_,_,_,hc,_,_,_,_=>absurd hc Pl
 | [],_::_,_,_,_,_,_,hl,_,_,_=>nomatch hl
 | _::_,[],_,_,_,_,_,hl,_,_,_=>nomatch hl
 | _::_,_::_,[],_,_,_,hc,_,_,_,_=>absurd hc Pl
 | (o,e)::es,i::slots,x::xs,O,ω,s,hc,hl,C,R,hp=>by
  replace hc:((!o||kI e)&&chk Φ e sc ctx x&&kJ Φ es sc ctx xs)=true:=hc
  simp only[di,Pn,jx]at hc
  have head:PM (PO G.prog G.w) A (Qg x env) (OwnPost G env sc ctx A O ω ρ s i (pJ (Φ:=Φ) (o,e) ρ)) E s:=by
   unfold pJ
   cases o with
   | true=>exact x9 wf hF (hc.1.1.elim (fun q=>by cases q) id) hc.1.2 C (R.le (aH _ _)) hp.1
   | false=>exact PR ((snd wf hF e).ev sc ctx x false env A O ω ρ s E hc.1.2 C (R.le (aH _ _)) hp.1) (fun v s₁ h₁=>⟨O,ω,Grow.of h₁.1,C.keeps wf h₁.1,v,rfl,h₁.2.ff⟩) fun U U x=>x
  refine Qh (PR head (fun v s₁ h₁=>?_) fun U U x=>x)
  obtain⟨O₁,ω₁,g₁,C₁,r₁⟩:=h₁
  refine PR (ya wf hF es slots xs O₁ ω₁ s₁ hc.2 (by simpa using hl) C₁ (R.le (ao _ _)) hp.2) (fun vs s₂ h₂=>?_) fun U U x=>x
  obtain⟨O₂,ω₂,g₂,C₂,r₂⟩:=h₂
  exact⟨O₂,ω₂,g₁.trans g₂,C₂,g₂.rep wf C₁.base r₁,r₂⟩
noncomputable def ew(ρ:List SV)(l:List (Nat × SV)):List SV:=l.foldl (fun ρ p=>ρ.set p.1 p.2) ρ
theorem yb:∀(l:List (Nat × SV)) (ρ:List SV) (i:Nat) (x:SV),i∉l.map (·.1)->(ew ρ l).set i x=ew (ρ.set i x) l
 | [],_,_,_,_=>rfl
 | p::l,ρ,i,x,h=>by
  simp only[a9,ae,not_or]at h
  show(ew (ρ.set p.1 p.2) l).set i x=ew ((ρ.set i x).set p.1 p.2) l
  rw[yb l _ i x h.2,List.set_comm _ _ h.1]
theorem Fo(ρ:List SV)(l m:List (Nat × SV)):ew ρ (l++m)=ew (ew ρ l) m:=List.foldl_append
theorem yc:∀(l:List (Nat × SV)) (ρ:List SV),(l.map (·.1)).Nodup->ew ρ l.reverse=ew ρ l
 | [],_,_=>rfl
 | p::l,ρ,h=>by
  simp only[a9,c6]at h
  rw[List.reverse_cons,Fo,yc l ρ h.2]
  exact yb l ρ p.1 p.2 h.1
structure ST where
 f:PN->Sem Unit
 i:Nat
 x:Str
 v:PN
 y:SV
theorem s0(wf:G.Wf)(hsto:∀i,bu env ctx i):∀(l:List ST) (ρ:List SV) (s:PL) (Q:Unit->PL->Prop),(∀q∈l,ctx[q.i]? = some (some q.x)/\aT sc q.x=true/\c7 G O ω s.heap q.i (some q.v) q.y /\
 ∀(v:PN) (s:PL) (Q:Unit->PL->Prop) (E:PN->PL->Prop),PM (PO G.prog G.w) A (storeName env q.x v) Q E s->PM (PO G.prog G.w) A (q.f v) Q E s) ->
 Cond G env sc ctx A O ω ρ s->(∀s',KM (bb env) s s'->Cond G env sc ctx A O ω (ew ρ (l.map fun q=>(q.i,q.y))) s'->Q () s')->PM (PO G.prog G.w) A (R6 (l.map (·.f)) (l.map (·.v))) Q E s
 | [],ρ,s,Q,_,C,h=>PU (h s (KM.of (bz s)) C)
 | q::l,ρ,s,Q,hl,C,h=>by
  refine e8 (hl q ak) fun h1 h2 h3 h4=>?_
  show PM _ A (RW _ (q.f q.v) >>= fun U=>R6 (l.map (·.f)) (l.map (·.v))) Q E s
  refine PK (Qj (h4 _ _ _ _ (eq wf (hsto q.i) C h1 h2 h3 fun s₁ k C₁=>?_)))
  refine s0 wf hsto l _ s₁ Q (fun q' hq'=>?_) C₁ fun s₂ k₂ C₂=>h s₂ (k.trans k₂) C₂
  refine e8 (hl q' (ar _ hq')) fun g1 g2 g3 g4=>?_
  refine⟨g1,g2,g3.at wf C.base fun b o hb e=>k.get b o (fun z=>?_) e,g4⟩
  rcases hb with hb | hb
  ·exact(C.om b _ hb).2 z.store
  ·exact hb (C.fr b z)
theorem yd(ok:Okay A O s)(ht:IsT s.heap t vs m)(hn:vs.size=n)(h:∀s',PY s s'->Q vs.toList s'):PM (PO G.prog G.w) A (unpackItems (.ref t) n none) Q E s:=by
 have hT:s.heap.IsTuple t vs:=⟨_,ht,rfl,m,rfl⟩
 have hlt:=Qe ht
 have hI:s.heap.objs.size∉hfp A:=fun q=>bl _ (ok.hlt _ q)
 have W:=xq (prog:=G.prog) (w:=G.w) (A:=A) s.heap.objs.size t (dT hlt) hI vs
 unfold unpackItems
 refine PK ?_
 unfold notIterableAtAll
 refine PK (wpAny_specialOf hT.typeIs F.slot_tuple_iter.lookup (PU ?_))
 rw[if_neg Pl]
 refine PK (Qj (wpAny_pyIter_tuple hT ?_))
 have hst:(Heap.IsTupleIter (s.heap.push { cls:=.type "tuple_iterator",data:=.fields #[.ref t,.int 0 0] }) s.heap.objs.size t 0/\(s.heap.push { cls:=.type "tuple_iterator",data:=.fields #[.ref t,.int 0 0] }).IsTuple t vs)/\a8 A (s.heap.push { cls:=.type "tuple_iterator",data:=.fields #[.ref t,.int 0 0] }) :=
  ⟨⟨⟨_,PZ _ rfl,rfl,rfl⟩,pt hT fun o e=>PX _ e⟩,ok.hok.mono fun b o e=>PX _ e⟩
 refine PK (Qj (sI W n 0 _ _ hst (by lia) fun ws h₁ t₁ hl hv st₁ k₁=>?_))
 rw[if_neg (by lia)]
 rw[kh,<- hn]at st₁
 refine PK (Qj (W.done _ _ _ st₁ fun h₂ t₂ k₂=>?_))
 simp only[Option.isSome_none,wj,if_false]
 have e:ws=vs.toList:=by
  refine List.ext_getElem (by rw[hl,cQ,hn]) fun j h1 h2=>?_
  have:=hv j ws[j] (br h1)
  rw[kh]at this
  have h3:j<vs.size:=by rw[hn,<- hl];exact h1
  rw[R8 h3]at this
  simpa using(QH this).symm
 refine PU (e▸h _ ⟨h₂,t₂,rfl,fun b o e=>?_⟩)
 have hb:b∉[s.heap.objs.size]:=fun q=>by
  rw[ai.mp q]at e
  exact bl _ (Qe e)
 exact k₂ b o hb (k₁ b o hb (PX _ e))
end
noncomputable def kK:Expr->Str
 | .Name x _=>x
 | _=>Q4
theorem ye(hg:∀e y,g e=some y->y=kK e):∀(ts:List Expr),(ts.filterMap g).length=ts.length->ts.filterMap g=ts.map kK
 | [],_=>rfl
 | e::r,h=>by
  have hle:(r.filterMap g).length<=r.length:=List.length_filterMap_le _ r
  rw[Oq]at h ⊢
  cases ho:g e with
  | none =>
   rw[ho]at h
   simp only[dU]at h
   lia
  | some y =>
   rw[ho]at h
   simp only[dU]at h
   dsimp only
   rw[ye hg r (by lia),hg e y ho];rfl
noncomputable def jN(vs:List Expr):Bool:=!(vs.all (constantsAlone 8))||vs.all (foldedForSure 8)
theorem Fp{y:Str}{P:Prop}(h:(none:Option Str)=some y):P:=nomatch h
noncomputable def td(L:List Str)(r:Sem (Option (List Str))):Prop:=r=pure none\/r=pure (some L)
theorem pK(h:c=false->td L b):td L (if c=true then pure none else b):=by
 cases c with
 | true=>exact .inl rfl
 | false=>exact h rfl
theorem Fq{ts vs:List Expr}{k k':Nat}{p p':Pos}{env:Env}(h:jN vs=true) :
 td (ts.map kK) (swappedStores [.Tuple ts k p] (.Tuple vs k' p') env):=by
 unfold swappedStores
 dsimp only
 refine pK fun U=>pK fun U=>pK fun hn=>pK fun hf=>?_
 have hc:(vs.all (constantsAlone 8))=false:=by
  unfold jN at h
  rw[hf]at h
  simpa using h
 rw[hc,if_neg Pl]
 right
 replace hn:=bne_eq_false_iff_eq.mp (Bool.or_eq_false_iff.mp hn).1
 show(pure (some _):Sem _)=_
 congr 2
 refine ye (fun e y h=>?_) ts hn
 cases e<;>first | exact Fp h | skip
 dsimp only at h
 split at h
 ·cases h;rfl
 ·cases h
section
variable{G:Glo}{Φ:List FEntry}
noncomputable def yf(Φ:List FEntry)(slots:List Nat)(es:List (Bool × IX)):Prim where
 chk sc ctx st:=gb st fun t v U=>ie t fun ts U U=>ie v fun vs U U=>dI sc ctx slots ts&&kJ Φ es sc ctx vs&&jN vs&&decide slots.Nodup&&decide (slots.length=es.length)
 k:=sY Φ es
 pre ρ:=sZ Φ es ρ/\es.length<=16777216
 den ρ:=(.next,ew ρ (slots.zip (es.map fun p=>pJ (Φ:=Φ) p ρ)))
structure MkST(G:Glo)(env:Env)(sc:Scope)(ctx:List (Option Str))(A:P0)(O:PP->Prop)(ω:PP->Option Nat)(h:Qk)(sw:Bool)(slots:List Nat)(ts:List Expr)(vs:List PN)(ys:List SV)(l:List ST):Prop where
 f:l.map (·.f)=if sw=true then(ts.map kK).map fun n=>bindName env n else(Rw ts env).map (·.2)
 v:l.map (·.v)=vs
 z:l.map (fun q=>(q.i,q.y))=slots.zip ys
 lv:vs.length=slots.length
 lt:ts.length=slots.length
 ok:∀q∈l,ctx[q.i]? = some (some q.x)/\aT sc q.x=true/\c7 G O ω h q.i (some q.v) q.y /\
  ∀(v:PN) (s:PL) (Q:Unit->PL->Prop) (E:PN->PL->Prop),PM (PO G.prog G.w) A (storeName env q.x v) Q E s->PM (PO G.prog G.w) A (q.f v) Q E s
theorem mK(sw:Bool):∀ {slots:List Nat} {ts:List Expr} {vs:List PN} {ys:List SV},dI sc ctx slots ts=true->fK G O ω h slots vs ys->∃l,MkST G env sc ctx A O ω h sw slots ts vs ys l
 | [],[],[],[],_,_=>⟨[],by cases sw<;>rfl,rfl,rfl,rfl,rfl,fun q hq=>nomatch hq⟩
 | [],_::_,_,_,hc,_=>absurd hc Pl
 | _::_,[],_,_,hc,_=>absurd hc Pl
 | [],[],_::_,_,_,hv=>hv.elim
 | [],[],[],_::_,_,hv=>hv.elim
 | _::_,_::_,[],_,_,hv=>hv.elim
 | _::_,_::_,_::_,[],_,hv=>hv.elim
 | i::is,t::ts,v::vs,y::ys,hc,hv=>by
  have hx:∃x p,t=.Name x p/\ctx[i]? = some (some x)/\aT sc x=true/\dI sc ctx is ts=true:=by
   refine aP (show((cI t fun x U=>ctx[i]? == some (some x)&&aT sc x)&&dI sc ctx is ts)=true from hc) fun h1 h2=>?_
   exact fg (P:=fun t=>∃x p,t=.Name x p/\ctx[i]? = some (some x)/\aT sc x=true/\dI sc ctx is ts=true) h1 fun x p h=>aP h fun h3 h4=>⟨_,_,rfl,P9 h3,h4,h2⟩
  refine x24 hx fun x p e2 h1 h2 h3=>?_;subst e2
  refine x11 (mK (env:=env) (A:=A) sw h3 hv.2) fun l m=>?_
  refine⟨⟨if sw=true then fun v=>bindName env x v else QJ (.Name x p) env,i,x,v,y⟩::l,?_,congrArg (v::·) m.v,congrArg ((i,y)::·) m.z,congrArg (· + 1) m.lv,congrArg (· + 1) m.lt,fun q hq=>?_⟩
  ·have:=m.f
   cases sw<;>exact congrArg (_::·) this
  ·rcases ae.mp hq with rfl | hq
   ·refine⟨h1,h2,hv.1,fun u s Q E h=>?_⟩
    cases sw with
    | true=>exact wpAny_bindName h
    | false=>exact Qx h
   ·exact m.ok q hq
theorem fK.keeps(wf:G.Wf)(B:G.Base O s.heap)(k:PY s s'):∀ {slots:List Nat} {vs:List PN} {ys:List SV},fK G O ω s.heap slots vs ys->fK G O ω s'.heap slots vs ys
 | [],[],[],h=>h
 | i::is,v::vs,y::ys,h=>⟨h.1.keeps wf B k,fK.keeps wf B k h.2⟩
 | [],_::_,_,h=>h.elim
 | [],[],_::_,h=>h.elim
 | _::_,[],_,h=>h.elim
 | _::_,_::_,[],h=>h.elim
theorem yg:∀(es:List (Bool × IX)) {sc:Scope} {ctx:List (Option Str)} {xs:List Expr},kJ Φ es sc ctx xs=true->∀a∈xs,fE a=true
 | [],_,_,[],_,a,h=>nomatch h
 | [],_,_,x::xs,h,_,_=>absurd h Pl
 | _::_,_,_,[],h,_,_=>absurd h Pl
 | p::es,_,_,x::xs,h,a,ha=>by
  replace h:((!p.1||kI p.2)&&chk Φ p.2 _ _ x&&kJ Φ es _ _ xs)=true:=h
  simp only[di]at h
  rcases ae.mp ha with rfl | ha
  ·exact gf p.2 h.1.2
  ·exact yg es h.2 a ha
theorem yh{sc:Scope}{A:P0}{ρ:List SV}{s:PL}{E:PN->PL->Prop}{slots:List Nat}{ts vs:List Expr}{k k':Nat}{p p' pos:Pos}{Q:Flow->PL->Prop}(wf:G.Wf)(hsto:∀i,bu env ctx i)
 (hn:dI sc ctx slots ts=true) (hst:∀a∈vs,fE a=true) (hsafe:jN vs=true) (hnd:slots.Nodup)
 (hev:PM (PO G.prog G.w) A (spliced (vs.map fun a=>(false,Qg a env))) (fun us s₁=>∃O₁ ω₁ ys,slots.length=ys.length/\us.length<=16777216/\Cond G env sc ctx A O₁ ω₁ ρ s₁/\fK G O₁ ω₁ s₁.heap slots us ys /\
  ∀s',KM (bb env) s₁ s'->Cond G env sc ctx A O₁ ω₁ (ew ρ (slots.zip ys)) s'->Q .next s') E s):PM (PO G.prog G.w) A (exec (.Assign [.Tuple ts k p] (.Tuple vs k' p') pos) env) Q E s:=by
 rw[exec_Assign_arm]
 refine PK (Ql ?_)
 rw[show swapsWithSole [.Tuple ts k p] (.Tuple vs k' p') pos.line env=pure false from rfl]
 refine PK (PU ?_)
 rw[if_neg Pl]
 refine PK (wpAny_Tuple ?_)
 rw[ij _ hst,jG]
 refine PR hev (fun us s₁ h₁=>?_) fun U U x=>x
 refine x35 h₁ fun O₁ ω₁ ys hlen hsz C₁ r₁ hQ=>?_
 have hul:us.length=slots.length:=(mK (A:=A) (env:=env) true hn r₁).elim fun U m=>m.lv
 refine⟨hsz,?_⟩
 have kt:PY s₁ { s₁ with heap:=s₁.heap.push { cls:=.type "tuple",data:=.seq us.toArray } }:=bL _
 have hT:IsT (s₁.heap.push { cls:=.type "tuple",data:=.seq us.toArray }) s₁.heap.objs.size us.toArray 0:=IsT.new _ _
 generalize hs2:({ s₁ with heap:=s₁.heap.push { cls:=.type "tuple",data:=.seq us.toArray } }:PL)=s₂ at kt
 rw[show s₁.heap.push { cls:=.type "tuple",data:=.seq us.toArray }=s₂.heap from by rw[<- hs2]]at hT
 generalize s₁.heap.objs.size=t at hT ⊢
 clear hs2
 have C₂:=C₁.keeps wf kt
 have fin:∀(sw rv:Bool) s₃,PY s₂ s₃->∀(T:List (PN->Sem Unit)),
  T=(if rv=true then List.reverse else id) (if sw=true then(ts.map kK).map fun n=>bindName env n else(Rw ts env).map (·.2))->PM (PO G.prog G.w) A (R6 T ((if rv=true then List.reverse else id) us)) (fun U s'=>Q .next s') E s₃:=by
  intro sw rv s₃ k3 T hT
  have C₃:=C₂.keeps wf k3
  have K:=aX kt k3
  refine x11 (mK (env:=env) (A:=A) sw hn (r₁.keeps wf C₁.base K)) fun l m=>?_
  rw[<- m.f]at hT
  subst hT
  cases rv with
  | false =>
   have:=s0 (E:=E) (A:=A) wf hsto l ρ s₃ (fun U s'=>Q .next s') m.ok C₃ fun s' k C'=>hQ s' ((KM.of K).trans k) (m.z▸C')
   rw[m.v]at this;exact this
  | true =>
   have hmap:((slots.zip ys).map (·.1)).Nodup:=by rw[List.map_fst_zip (cH hlen)];exact hnd
   have:=s0 (E:=E) (A:=A) wf hsto l.reverse ρ s₃ (fun U s'=>Q .next s') (fun q hq=>m.ok q (iQ.mp hq)) C₃ fun s' k C'=>hQ s' ((KM.of K).trans k) (by
    rw[List.map_reverse,m.z,yc _ _ hmap]at C';exact C')
   rw[List.map_reverse (f:=ST.v),List.map_reverse (f:=ST.f),m.v]at this;exact this
 have hsz2:us.toArray.size=slots.length:=by rw[oR];exact hul
 rcases Fq (ts:=ts) (k:=k) (p:=p) (k':=k') (p':=p') (env:=env) hsafe with hs | hs
 ·rw[hs]
  refine PK (PU ?_)
  show PM _ A (assignAll (.ref t) [QJ (.Tuple ts k p) env] >>= fun U=>pure Flow.next) _ _ _
  refine PK ?_
  show PM _ A (QJ (.Tuple ts k p) env (.ref t)) _ _ _
  refine al (sJ (env:=env) slots ts hn) fun h1 h2=>?_
  rw[arm_assign_Tuple]
  refine PK (Ql ?_)
  unfold unpack
  rw[h1,h2]
  refine PK (Qj (yd C₂.ok hT hsz2 fun s₃ k3=>?_))
  exact PR (fin false false s₃ k3 _ rfl) (fun U U q=>PU q) fun U U x=>x
 ·rw[hs]
  refine PK (PU ?_)
  unfold assignStores
  refine PK (R2 ?_)
  have hl2:(ts.map kK).length=slots.length:=by rw[ag];exact(mK (A:=A) (env:=env) true hn r₁).elim fun U m=>m.lt
  rw[hl2]
  refine PK (yd C₂.ok hT hsz2 fun s₃ k3=>?_)
  exact PK (PR (fin true true s₃ k3 _ (List.map_reverse ..)) (fun U U q=>PU q) fun U U x=>x)
theorem Fr(slots:List Nat)(es:List (Bool × IX))(wf:G.Wf)(hF:∀F∈Φ,aK G F):dZ G X (yf Φ slots es):=by
 intro sc ctx st env A O ω ρ s E Q hc hsto C hX R hp hQ
 refine DI (P:=fun st=>PM (PO G.prog G.w) A (exec st env) Q E s) hc fun ts k p vs k' p' pos hc=>?_
 refine ic hc fun hn he hsafe hnd hlen=>?_
 have hlen:=of_decide_eq_true hlen
 refine yh (ρ:=ρ) wf hsto hn (yg es he) hsafe (of_decide_eq_true hnd) (PR (ya wf hF es slots vs O ω s he hlen C R hp.1) (fun us s₁ h₁=>?_) fun U U x=>x)
 obtain⟨O₁,ω₁,g₁,C₁,r₁⟩:=h₁
 refine⟨O₁,ω₁,_,by rw[ag];exact hlen,?_,C₁,r₁,fun s' k C'=>hQ O₁ ω₁ s' .next ((g₁.step (Ff:=Fz X A) (env:=env)).trans C.ok.obs (Step.frame k)) C' rfl⟩
 exact(mK (A:=A) (env:=env) true hn r₁).elim fun U m=>by rw[m.lv,hlen];exact hp.2
noncomputable def pL(Φ:List FEntry)(i:Nat)(e:IX):Prim where
 chk sc ctx st:=gb st fun t v U=>cI t fun x U=>ctx[i]? == some (some x)&&aT sc x&&kI e&&chk Φ e sc ctx v
 k:=kx Φ e
 pre ρ:=pre Φ e false ρ
 den ρ:=(.next,ρ.set i (.own (den Φ e ρ)))
theorem yi(i:Nat)(e:IX)(wf:G.Wf)(hF:∀F∈Φ,aK G F):dZ G X (pL Φ i e):=by
 intro sc ctx st env A O ω ρ s E Q hc hsto C hX R hp hQ
 refine ss (P:=fun st=>PM (PO G.prog G.w) A (exec st env) Q E s) hc fun x p v pos hc=>?_
 refine gF hc fun hi hk hl hv=>?_
 have hi:=P9 hi
 have hsw:swapsWithSole [.Name x p] v pos.line env=pure false:=by
  refine x11 (x8 hl) fun es e1=>?_;subst e1
  exact o7 (P:=fun v=>swapsWithSole [.Name x p] v pos.line env=pure false) hv fun U U U=>rfl
 refine Qn (PR (x9 (i:=i) wf hF hl hv C R hp) (fun u s₁ h₁=>?_) fun U U x=>x) hsw rfl
 obtain⟨O₁,ω₁,g₁,C₁,r₁⟩:=h₁
 show PM _ A (QJ (.Name x p) env u) _ _ s₁
 exact Qx (eq wf (hsto i) C₁ hi hk r₁ fun s' k C'=>hQ O₁ ω₁ s' .next ((g₁.step (env:=env)).trans C.ok.obs (Step.frame k)) C' rfl)
end
theorem yj{kindOf:Str->Option QY}:∀(binds:List (Str × PN)) (m cm:Str->Option PN) (x:Str),x∉binds.map (·.1)->bindL kindOf binds m x=m x/\bindC kindOf binds cm x=cm x
 | [],_,_,_,_=>⟨rfl,rfl⟩
 | (n,v)::r,m,cm,x,h=>by
  simp only[a9,ae,not_or]at h
  unfold bindL bindC
  refine al (yj (kindOf:=kindOf) r (if kindOf n=some .local then fun y=>if y=n then some v else m y else m) (if kindOf n=some .local then cm else fun y=>if y=n then some v else cm y) x h.2) fun h1 h2=>?_
  rw[h1,h2]
  split
  ·exact⟨if_neg h.1,rfl⟩
  ·exact⟨rfl,if_neg h.1⟩
theorem Fs{kindOf:Str->Option QY}:∀(binds:List (Str × PN)) (m cm:Str->Option PN) (x:Str) (v:PN),(binds.map (·.1)).Nodup->(x,v)∈binds ->
 (kindOf x=some .local->bindL kindOf binds m x=some v)/\(kindOf x≠some .local->bindC kindOf binds cm x=some v):=fun binds=>by
 induction binds with
 | nil=>exact fun _ _ _ _ _ hm=>nomatch hm
 | cons p r ih =>
  intro m cm x v hn hm
  obtain⟨n,u⟩:=p
  rw[a9,c6]at hn
  unfold bindL bindC
  rcases ae.mp hm with e | hm
  ·cases e
   have h:=fun m cm=>yj (kindOf:=kindOf) r m cm _ hn.1
   constructor
   ·intro hk;rw[(h _ cm).1,if_pos hk];simp
   ·intro hk;rw[(h m _).2,if_neg hk];simp
  ·exact ih _ _ x v hn.2 hm
structure FnSc(sc:Scope)(names vars:List Str):Prop where
 kind:sc.kind=.function
 co:sc.isCoroutine=false
 gen:sc.isGenerator=false
 nd:(sc.names.map (·.1)).Nodup
 vnd:vars.Nodup
 nofree:∀x,(x,Qz)∉sc.names
 var:∀x∈vars,sc.names.lookup x=some .local\/sc.names.lookup x=some .cell
 pfx:vars.take names.length=names
noncomputable def tg(sc:Scope)(names vars:List Str):Bool :=
 sc.kind==RJ&&!sc.isCoroutine&&!sc.isGenerator&&decide (sc.names.map (·.1)).Nodup&&decide vars.Nodup&&(sc.names.all fun p=>p.2 != Qz)&&(vars.all fun x=>sc.names.lookup x==some NameKind.local||sc.names.lookup x==some QZ)&&vars.take names.length==names
theorem FnSc.of{sc:Scope}{names vars:List Str}(h:tg sc names vars=true):FnSc sc names vars:=by
 unfold tg at h
 simp only[di,decide_eq_true_eq,beq_iff_eq,bC,Pn,bne_iff_ne,ne_eq,jx]at h
 refine al h fun z0 h8=>?_;refine al z0 fun z0 h7=>?_;refine al z0 fun z0 h6=>?_;obtain⟨⟨⟨⟨h1,h2⟩,h3⟩,h4⟩,h5⟩:=z0
 exact⟨h1,h2,h3,h4,h5,fun x hx=>h6 _ hx rfl,h7,h8⟩
theorem Ft{vs:List PN}:∀ {names:List Str} {i:Nat} {x:Str} {v:PN},names[i]? = some x->vs[i]? = some v->(x,v)∈names.zip vs:=by
 intro names i x v h1 h2
 have:(names.zip vs)[i]? = some (x,v):=by rw[List.getElem?_zip_eq_some];exact⟨h1,h2⟩
 exact aG this
noncomputable def cR(vars:List Str)(ys:List SV):List SV:=ys++ba (vars.length - ys.length) .un
noncomputable def aS(vars:List Str)(ds:List PQ):List SV:=cR vars (ds.map .dat)
noncomputable def mL(G:Glo)(O:PP->Prop)(h:Qk)(v:PN)(y:SV):Prop:=(∃d,y=.dat d/\Rep O h v d)\/y=.val v
section
variable{G:Glo}{Φ:List FEntry}
theorem pM{A:P0}{s s₁:PL}{O:PP->Prop}{fd:Qm}{a:PP}{names vars:List Str}{vs:List PN}{ys:List SV}(sc:FnSc fd.scope names vars)(hg:fd.globals=Rc)(hb:fd.builtins=R3)
 (ok:Okay A O s) (B:G.Base O s.heap) (r:∀(i:Nat) (v:PN) (y:SV),vs[i]? = some v->ys[i]? = some y->mL G O s.heap v y) (hvl:vs.length=names.length) (hl:ys.length=names.length)
 (x:InCallC s (R4 fd s.heap.objs.size a).locals (bindL (R4 fd s.heap.objs.size a).kindOf (names.zip vs) fun U=>none) (R4 fd s.heap.objs.size a).cells
  (bindC (R4 fd s.heap.objs.size a).kindOf (names.zip vs) fun U=>none) s₁) :
 ∃O',(∀b,O b->O' b)/\(∀b,O' b->O b\/s.heap.get? b=none)/\(∀b,aU (R4 fd s.heap.objs.size a) b->s.heap.get? b=none)/\(∀i,bu (R4 fd s.heap.objs.size a) (vars.map some) i)/\Cond G (R4 fd s.heap.objs.size a) fd.scope (vars.map some) (A.deeper (R4 fd s.heap.objs.size a)) O' (fun U=>none) (cR vars ys) s₁/\PY s s₁:=by
 generalize henv:R4 fd s.heap.objs.size a=env at x
 have hLv:env.locals=s.heap.objs.size:=by rw[<- henv];rfl
 have hcells:env.cells=Ry (s.heap.objs.size+1) fd.scope.names []:=by rw[<- henv];rfl
 have hsc:env.scope=fd.scope:=by rw[<- henv];rfl
 have hko:∀y,env.kindOf y=fd.scope.names.lookup y:=fun y=>by unfold Env.kindOf;rw[hsc]
 have hnle:names.length<=vars.length:=by
  have:=congrArg List.length sc.pfx
  rw[List.length_take]at this
  exact aa (cH this.symm) (Nat.min_le_right ..)
 have hnn:names.Nodup:=by rw[<- sc.pfx];exact sc.vnd.sublist (List.take_sublist _ _)
 have hzip:((names.zip vs).map (·.1))=names:=List.map_fst_zip (by rw[hvl];exact aN _)
 have k:PY s s₁:=by
  refine x21 x.toInCall.same fun h t e2=>?_;subst e2
  exact⟨h,t,rfl,x.toInCall.keep⟩
 have fresh:∀b,@LE.le Nat _ s.heap.objs.size b->s.heap.get? b=none:=fun b hb=>by
  cases e:s.heap.get? b with
  | none=>rfl
  | some o=>exact absurd (Qe e) (c5.mpr hb)
 have hcn:∀y c,env.cells.lookup y=some c->(y,QZ)∈fd.scope.names/\@LT.lt Nat _ s.heap.objs.size c:=fun y c e=>by
  rw[hcells,im,dC]at e
  have:=fk (iQ.mp (mem_of_lookup e))
  exact⟨this.2,this.1⟩
 have hck:∀y,fd.scope.names.lookup y=some .cell->∃c,env.cells.lookup y=some c:=fun y e=>by
  refine x11 (i7 (n:=s.heap.objs.size+1) (mem_of_lookup e)) fun c hc=>?_
  refine x11 (jJ (iQ.mpr hc)) fun c' hc'=>?_
  rw[hcells,im,dC]
  exact⟨c',hc'⟩
 let O':PP->Prop:=fun b=>O b\/b=env.locals\/∃y,env.cells.lookup y=some b
 have hO2:∀b,O' b->O b\/s.heap.get? b=none:=fun b q=>by
  rcases q with q | rfl | ⟨y,q⟩
  ·exact .inl q
  ·exact .inr (fresh _ (by rw[hLv];exact aN _))
  ·exact .inr (fresh _ (Os (hcn y b q).2))
 have hO3:∀b,O' b->∃o,s₁.heap.get? b=some o:=fun b q=>by
  rcases q with q | rfl | ⟨y,q⟩
  ·refine x11 (ok.obs b q) fun o e=>?_;exact⟨o,am k b o e⟩
  ·refine x32 x.toInCall.ns fun o U U e U=>?_;exact⟨o,e⟩
  ·refine x12 (x.cell y b q) fun o e U=>?_;exact⟨o,e⟩
 have hFs:∀b,bb env b->b=env.locals\/∃y,env.cells.lookup y=some b:=fun b q=>by
  rcases q with q | ⟨_,y,_,q⟩
  ·exact .inl q
  ·exact .inr ⟨y,q⟩
 refine⟨O',fun b q=>.inl q,hO2,fun b q=>?_,fun i y c h1 h2 h3=>?_,⟨⟨hsc,sc.kind,by rw[<- henv];exact hg,by rw[<- henv];exact hb,fun y hy=>absurd (mem_of_lookup hy) (sc.nofree y),fun y z c h1 h2=>name_of_addr x.apart (mem_of_lookup h1) (mem_of_lookup h2),fun y c e=>.inl (jI sc.nd (hcn y c e).1)⟩,
  ⟨fun i j y h1 h2=>?_,fun i y h=>?_⟩,?_,⟨(ok.hok.mono (am k):a8 A s₁.heap),fun b hb q=>?_,hO3⟩,⟨fun b o e=>am k b o (B.kp b o e),fun b q=>?_⟩,fun b q=>.inr (hFs b q),fun y c e=>.inr (.inr ⟨y,e⟩),fun b i e=>by simp at e,
  fun y=>if env.kindOf y=some .local then bindL env.kindOf (names.zip vs) (fun U=>none) y else bindC env.kindOf (names.zip vs) (fun U=>none) y,⟨⟨_,x.toInCall.ns,fun y hy=>?_⟩,fun y hy=>?_⟩,fun i y hy=>?_⟩,k⟩
 ·rcases q with rfl | ⟨y,q⟩
  ·exact fresh _ (by rw[hLv];exact aN _)
  ·exact fresh _ (Os (hcn y b q).2)
 ·rw[hLv];exact(hcn y c h3).2
 ·rw[bK]at h1 h2
  have f:∀i:Nat,Option.map some vars[i]? = some (some y)->vars[i]? = some y:=fun i h=>by
   cases e:vars[i]? with
   | none=>rw[e]at h;cases h
   | some z=>rw[e]at h;simpa using h
  exact sO sc.vnd (f i h1) (f j h2)
 ·rw[bK]at h
  have:y∈vars:=by
   cases e:vars[i]? with
   | none=>rw[e]at h;cases h
   | some z=>rw[e]at h;simp at h;subst h;exact aG e
  rcases sc.var y this with q | q
  ·exact .inl q
  ·exact .inr (.inl q)
 ·simp only[cR,bj,ag,List.length_replicate];exact Nat.add_sub_cancel' (hl▸hnle)
 ·rcases hO2 b q with q | q
  ·exact ok.hno b hb q
  ·refine x11 (ok.hok.there b hb) fun o e=>?_
   rw[q]at e;cases e
 ·rcases hO2 b q with q | q
  ·exact B.off b q
  ·cases e:G.hB.get? b with
   | none=>rfl
   | some o=>rw[B.kp b o e]at q;cases q
 ·rw[if_pos hy]
 ·have hy':fd.scope.names.lookup y=some .cell:=by
   rw[hko]at hy
   rcases hy with hy | hy
   ·exact hy
   ·exact absurd (mem_of_lookup hy) (sc.nofree y)
  refine x11 (hck y hy') fun c hc=>?_
  refine⟨c,hc,?_⟩
  rw[if_neg (by rw[hko,hy'];decide)]
  exact x.cell y c hc
 ·rw[bK]at hy
  have hyv:vars[i]? = some y:=by
   cases e:vars[i]? with
   | none=>rw[e]at hy;cases hy
   | some z=>rw[e]at hy;simpa using hy
  by_cases hi:i<names.length
  ·have hyn:names[i]? = some y:=by
    rw[<- sc.pfx,List.getElem?_take_of_lt hi];exact hyv
   obtain⟨y',hd⟩:∃y',ys[i]? = some y':=⟨_,br (hl.symm▸hi)⟩
   obtain⟨v,hv⟩:∃v,vs[i]? = some v:=⟨_,br (hvl.symm▸hi)⟩
   have rv:=r i v y' hv hd
   have hm:=Fs (kindOf:=env.kindOf) (names.zip vs) (fun U=>none) (fun U=>none) y v (by rw[hzip];exact hnn) (Ft hyn hv)
   have hval:(if env.kindOf y=some .local then bindL env.kindOf (names.zip vs) (fun U=>none) y else bindC env.kindOf (names.zip vs) (fun U=>none) y)=some v:=by
    split
    ·rename_i h;exact hm.1 h
    ·rename_i h;exact hm.2 h
   have hrho:(cR vars ys).getD i .un=y':=by
    unfold cR
    rw[aj,List.getElem?_append_left (hl.symm▸hi),hd];rfl
   rw[hrho]
   rcases rv with⟨d,rfl,rv⟩ | rfl
   ·refine⟨v,hval,rv.mono (fun b o U e=>am k b o e) fun b o e q=>?_⟩
    rcases hO2 b q with q | q
    ·exact q
    ·rw[q]at e;cases e
   ·exact hval
  ·have hrho:(cR vars ys).getD i .un=.un:=by
    unfold cR
    rw[aj,gD (hl▸c5.mp hi),vE]
    split<;>rfl
   rw[hrho];trivial
theorem pO{O:PP->Prop}{h:Qk}{vs:List PN}{ds:List PQ}(r:RepL O h vs ds):∀(i:Nat) (v:PN) (y:SV),vs[i]? = some v->(ds.map SV.dat)[i]? = some y->mL G O h v y:=by
 intro i v y hv hy
 rw[bK]at hy
 refine x12 (r.get hv) fun d hd rd=>?_
 rw[hd]at hy
 cases hy
 exact .inl ⟨d,rfl,rd⟩
theorem Fu(wf:G.Wf)(hF:∀F∈Φ,aK G F)(S:SX)(hP:eb G false S)(F:FEntry){a:PP}{o:Obj}{fd:Qm}{body:List PW}{names vars:List Str}
 (e1:G.mg F.name=some (.ref a)) (e2:G.K.lookup a=some o) (hd:o.data=.func fd) (hbody:fd.body=.stmts body) (hclo:fd.closure=[]) (hg:fd.globals=Rc) (hb:fd.builtins=R3)
 (hcode:G.hB.CodeRec fd.code fd.qualname) (sc:FnSc fd.scope names vars)
 (hbind:∀vs:List PN,vs.length=names.length->Q9 fd ⟨vs,[]⟩=pure (names.zip vs))
 (hchk:cn Φ S fd.scope (vars.map some) body=true) (hk:kS Φ S+1<=F.k)
 (hpre:∀ds,F.pre ds->ds.length=names.length/\aM Φ S (aS vars ds)/\(av Φ S (aS vars ds)).1=.ret (F.val ds)):aK G F:=by
 refine⟨a,o,fd,e1,e2,hd,fun A s O vs ds E R ok B r hp=>?_⟩
 refine dl (hpre ds hp) fun h1 h2 h3=>?_
 have hvl:vs.length=names.length:=by rw[r.length,h1]
 have hnn:names.Nodup:=by rw[<- sc.pfx];exact sc.vnd.sublist (List.take_sublist _ _)
 have hsub:∀y∈names,y∈vars:=fun y hy=>by rw[<- sc.pfx]at hy;exact PC hy
 refine Q5 (codeAny_call_cells (binds:=names.zip vs) (show A.depth<1000 from R.fits (bx _)) (B.kp a o (wf.K a o e2)) hd (wf.lim.keeps B.kp) (hcode.keeps B.kp) hbody (hbind vs hvl) hclo (fun x hx=>?_) (fun s₁ x=>?_) sc.co sc.gen sc.kind)
 ·have hm:x.1∈names:=by
   obtain⟨y,v⟩:=x
   exact(List.of_mem_zip hx).1
  rcases sc.var x.1 (hsub _ hm)with q | q
  ·exact .inl q
  ·refine .inr ⟨q,?_⟩
   refine x11 (i7 (n:=s.heap.objs.size+1) (mem_of_lookup q)) fun c hc=>?_
   refine x11 (jJ (iQ.mpr hc)) fun c' hc'=>?_
   rw[im,dC,hc'];rfl
 ·refine x16 (pM (G:=G) (A:=A) (ys:=ds.map .dat) sc hg hb ok B (pO r) hvl (by simp[h1]) x) fun O' hO U hFs hsto C k=>?_
  refine pI wf hF S hP fd.scope (vars.map some) body _ _ O' _ _ s₁ _ _ hchk hsto C (fun q=>by cases q) (R.deeper hk) h2 fun O'' ω'' s' fl st C' hf=>?_
  rw[show(av Φ S (cR vars (ds.map SV.dat))).1=.ret (F.val ds)from h3]at hf
  refine x12 hf fun v e1 rv=>?_;subst e1
  have hnw:∀b,MO (R4 fd s.heap.objs.size a) (fun U=>none) b->s.heap.get? b=none:=fun b q=>by
   rcases q with q | ⟨i,q⟩
   ·exact hFs b q.store
   ·cases q
  exact⟨((st.km.mono (fun U q=>q) (fun U q=>Bool.noConfusion q.1)).km).keeps k hnw,rv.weak fun b q=>st.o1 b (hO b q) fun i z=>by cases z⟩
structure FnInfo(G:Glo)(a:PP)(fd:Qm)(body:List PW)(names vars:List Str):Prop where
 at_:∃o,G.K.lookup a=some o/\o.data=.func fd
 hbody:fd.body=.stmts body
 hclo:fd.closure=[]
 hg:fd.globals=Rc
 hb:fd.builtins=R3
 hcode:G.hB.CodeRec fd.code fd.qualname
 sc:FnSc fd.scope names vars
theorem kL{a:PP}{fd:Qm}{body:List PW}{names vars:List Str}{vs:List PN}{ys:List SV}{args:List PN}{A:P0}{s:PL}{O:PP->Prop}{R:Result->PL->Prop}(wf:G.Wf)(FI:FnInfo G a fd body names vars)
 (ok:Okay A O s) (B:G.Base O s.heap) (hr:∀(i:Nat) (v:PN) (y:SV),vs[i]? = some v->ys[i]? = some y->mL G O s.heap v y) (hvl:vs.length=names.length) (hyl:ys.length=names.length) (hroom:A.depth<1000)
 (hbind:Q9 fd ⟨args,[]⟩=pure (names.zip vs))
 (h:∀env O' s₁,PY s s₁->(∀b,O b->O' b)->(∀b,O' b->O b\/s.heap.get? b=none)->(∀b,aU env b->s.heap.get? b=none)->(∀i,bu env (vars.map some) i)->Cond G env fd.scope (vars.map some) (A.deeper env) O' (fun U=>none) (cR vars ys) s₁ ->
  ∀E Qf,(∀v s',R (.ok (.ret v)) s'->Qf (.ret v) s')->(∀s',R (.ok (.ret .none)) s'->Qf .next s')->PM (PO G.prog G.w) (A.deeper env) (QG body env) Qf E s₁) :
 QW (PO G.prog G.w) A (.call (.ref a) ⟨args,[]⟩) R s:=by
 refine x12 FI.at_ fun o e2 hd=>?_
 have sc:=FI.sc
 have hsub:∀y∈names,y∈vars:=fun y hy=>by rw[<- sc.pfx]at hy;exact PC hy
 refine codeAny_call_cells (binds:=names.zip vs) (by show A.depth<1000;exact hroom) (B.kp a o (wf.K a o e2)) hd (wf.lim.keeps B.kp) (FI.hcode.keeps B.kp) FI.hbody hbind FI.hclo (fun x hx=>?_) (fun s₁ x=>?_) sc.co sc.gen sc.kind
 ·have hm:x.1∈names:=by
   obtain⟨y,v⟩:=x
   exact(List.of_mem_zip hx).1
  rcases sc.var x.1 (hsub _ hm)with q | q
  ·exact .inl q
  ·refine .inr ⟨q,?_⟩
   refine x11 (i7 (n:=s.heap.objs.size+1) (mem_of_lookup q)) fun c hc=>?_
   refine x11 (jJ (iQ.mpr hc)) fun c' hc'=>?_
   rw[im,dC,hc'];rfl
 ·refine x16 (pM (G:=G) (A:=A) (ys:=ys) sc FI.hg FI.hb ok B hr hvl hyl x) fun O' hO hO2 hSt hsto C k=>?_
  exact h _ O' s₁ k hO hO2 hSt hsto C _ _ (fun U U q=>q) fun U q=>q
end
end
section
open PySem PySem.W PyProof.Rows PySem.Spec PySem.SeqAt PySem.Calls Builtin Builtin.ObjectAttr Builtin.Getset_descriptor
section
variable{prog:Qs}{w:Qq}{A:P0}{E:PN->PL->Prop}{R:Result->PL->Prop}{s:PL}{K:Frag}{x C dx:PP}{es:List RO}{n:Nat}{name:Str}{v:PN}
theorem yl{h:Qk}{a:PP}{o:Obj}{f:Obj->Obj}(e:h.get? a=some o)(hf:(f o).isFreed=false):(h.update a f).get? a=some (f o):=Rq _ e hf
set_option tactic.hygienic true in
theorem Fw{ox:Obj}{tk:Tok}(X:K.In s.heap)(I:InstAt s.heap x ox C (some (RD es n)))(hd:ox.dict=some dx)(hp:plainOver K C=true)(ht:takerIn K C name=some none)(hh:(clsIn K C).any (·.hasDict)=true)
 (hl:(getL name es).isSome=true) (hz:es.length<=999)
 (h:∀h',QM dx s.heap h'->h'.get? dx=some (RD (putL name (Rz w.params name) (.str name s.toks) v es) (putN name es n))->R (.ok (.ret .none)) { s with heap:=h',toks:=s.toks+1 }) :
 QW (PO prog w) A (.call (.builtin "object.__setattr__") ⟨[.ref x,.str name tk,v],[]⟩) R s:=by
 refine osa_open X I hp ht fun b=>?_
 refine x12 (any_some hh) fun cd hc hd'=>?_
 have D:s.heap.get? dx=some (RD es n):=by
  have:=I.dict
  rw[hd]at this
  exact this
 have e:=putName_dict name (Rz w.params name) (.str name s.toks) v es n
 have D':(s.heap.update dx (Obj.putName name (Rz w.params name) (.str name s.toks) v)).get? dx=some (RD (putL name (Rz w.params name) (.str name s.toks) v es) (putN name es n)):=by
  rw[yl D (by rw[e];rfl),e]
 obtain⟨hx,hcl,hn,-⟩:=I
 obtain⟨oc,odi,oda,osl⟩:=ox
 dsimp only at hcl hd
 subst hcl hd
 refine PK (PU (PK (PK (wpAny_loadPart hx (PK ((looks_clsIn X hc).here ?_))))))
 rw[hd']
 refine PU (a:=some dx) (PK (PU (PK ?_)))
 unfold nsSet
 refine PK (PK (wpAny_askSetting (PU (PK (wpAny_mkText (PK (wpAny_loadPart D ?_)))))))
 dsimp only[RD]
 have c:(!(es.toArray).any (·.key.isStr name)&&(es.toArray).any (·.refKey))=false:=by
  rw[<- Array.any_toList,<- Array.any_toList]
  unfold getL at hl
  split at hl
  ·rename_i en he
   rw[eH.mpr ⟨en,List.mem_of_find?_eq_some he,List.find?_some he⟩];rfl
  ·split at hl
   ·cases hl
   ·rename_i z;rw[So]at z
    show(_&&es.any (·.refKey))=false
    rw[z,Bool.and_false]
 rw[aRefKeyMayBeTheName_at,c]
 refine wpAny_updatePart D ?_
 have len:∀(hsh:Int) (key v:PN) (es:List RO),(putL name hsh key v es).length<=es.length+1:=by
  intro hsh key v es
  induction es with
  | nil=>exact aN _
  | cons e r ih =>
   unfold putL
   split
   ·simp
   ·simpa using ih
 refine PK (wpAny_lookBehind D' (pastItsLine_dict (by
  have:=len (Rz w.params name) (.str name s.toks) v es
  rw[oR,QP];lia)) ?_)
 exact PU (h _ (Qr ..) D')
theorem ym{Q:Unit->PL->Prop}(X:K.In s.heap)(I:InstAt s.heap x ox C (some (RD es n)))(hd:ox.dict=some dx)
 (hs:findIn K (.ref C) "__setattr__" = some (some (.builtin "object.__setattr__"))) (hp:plainOver K C=true) (ht:takerIn K C name=some none) (hh:(clsIn K C).any (·.hasDict)=true)
 (hl:(getL name es).isSome=true) (hz:es.length<=999)
 (h:∀h',QM dx s.heap h'->h'.get? dx=some (RD (putL name (Rz w.params name) (.str name (s.toks+1)) v es) (putN name es n))->Q () { s with heap:=h',toks:=s.toks+2 }) :
 PM (PO prog w) A (setAttr (.ref x) name v) Q E s :=
 set_plain X I hs (Fw (s:={ s with toks:=s.toks+1 }) X I hd hp ht hh hl hz fun h' h1 h2=>h h' h1 h2)
theorem Fx{ox:Obj}{od:Option Obj}{p i:Nat}(X:K.In s.heap)(I:InstAt s.heap x ox C od)(hp:slotIn K p C=some i)(hi:i<1000)
 (hf:({ ox with slots:=(ox.slots++Po (i+1 - ox.slots.size) none).setIfInBounds i (some v) }:Obj).isFreed=false)
 (h:∀h',QM x s.heap h'->h'.get? x=some { ox with slots:=(ox.slots++Po (i+1 - ox.slots.size) none).setIfInBounds i (some v) }->R (.ok (.ret .none)) { s with heap:=h' }) :
 QW (PO prog w) A (.call (.builtin "member_descriptor.__set__") ⟨[.ref p,.ref x,v],[]⟩) R s:=by
 obtain⟨n,tn,owner,behind,tb,d,sl,cd,ho,hc,hm,hb,rfl⟩:=slot_of X hp
 have D':=yl (f:=fun o=>{ o with slots:=(o.slots++Po (cd.slotNames.length - 1 - behind.toNat+1 - o.slots.size) none).setIfInBounds (cd.slotNames.length - 1 - behind.toNat) (some v) }) I.at_ hf
 obtain⟨hh,g,dr,t,os⟩:=s
 have L0:=I.type (M:=PO prog w)
 have L1:=looks_mroIn (M:=PO prog w) X hm
 have L2:Looks (PO prog w) hh (Slots.slotNamesOf (.ref C)) cd.slotNames:=(looks_clsIn X hc).andThen .now
 have hx:=I.at_
 dsimp only at ho hx L0 L1
 have f0:=looks_field (M:=PO prog w) ho 0 (v:=.str n tn) rfl
 have f1:=looks_field (M:=PO prog w) ho 1 (v:=owner) rfl
 have f3:=looks_field (M:=PO prog w) ho 3 (v:=.builtin "proto.slot#set") rfl
 have f4:=looks_field (M:=PO prog w) ho 4 (v:=.int behind tb) rfl
 refine Rx KF.slot_mset.plain KF.entry_mset (KF.slot_mset.check _ _ _ _ _ _ _ _ ⟨_,ho,rfl⟩ (KF.args_mset _ _ _) ?_)
 unfold QQ.«member_descriptor.__set__» descrSet descrStoreThrough descrCheckInstance descrNameAndClass isInstance
 have f5:Looks (PO prog w) hh (descrItself (.ref p)) [.ref p]:=((Looks.ld (part:=none) ho).andThen .now).andThen (Looks.of_pure (by kernel_rfl))
 repeat lk
 refine⟨Code.quiet_builtin _ (by decide +kernel),R9 KF.entry_slotset ?_⟩
 unfold QQ.«proto.slot#set» Slots.target
 repeat lk
 rw[if_neg hb]
 refine PU (PK ?_)
 unfold setSlotAt
 dsimp only
 rw[if_neg (by rw[QP];lia)]
 exact wpAny_updatePart hx (PU (h _ (Qr ..) D'))
theorem yn{p i:Nat}{Q:Unit->PL->Prop}(X:K.In s.heap)(I:InstAt s.heap x ox C od)
 (hs:findIn K (.ref C) "__setattr__" = some (some (.builtin "object.__setattr__"))) (hp:plainOver K C=true) (ht:takerIn K C name=some (some (.ref p))) (hT:typeIn K (.ref p)=some (.type "member_descriptor")) (hi:slotIn K p C=some i) (hz:i<1000)
 (hf:({ ox with slots:=(ox.slots++Po (i+1 - ox.slots.size) none).setIfInBounds i (some v) }:Obj).isFreed=false)
 (h:∀h',QM x s.heap h'->h'.get? x=some { ox with slots:=(ox.slots++Po (i+1 - ox.slots.size) none).setIfInBounds i (some v) }->Q () { s with heap:=h',toks:=s.toks+1 }) :
 PM (PO prog w) A (setAttr (.ref x) name v) Q E s :=
 set_plain X I hs (osa_descr (s:={ s with toks:=s.toks+1 }) KF.slot_mset X I hp ht hT (Fx (s:={ s with toks:=s.toks+1 }) X I hi hz hf fun h' h1 h2=>h h' h1 h2))
theorem Fy{expr:Bool}{Q:PN->PL->Prop}{attr:Option PN}(X:K.In s.heap)(I:InstAt s.heap x ox C (some (RD es n)))(hg:plainGet K C name=true)(hh:hasDictIn K C=true)
 (ha:findIn K (.ref C) name=some attr) (hn:noGet K attr=true) (hl:getL name es=some (some v)) (hv:handedIn v=true) (h:Q v { s with toks:=s.toks+1 }) :
 PM (PO prog w) A (RA (.ref x) name expr) Q E s :=
 get_value X I (plainGet_of hg).1 (findObj_own hh ha hn hl) hv h
theorem tj{expr:Bool}{p i:Nat}{Q:PN->PL->Prop}(X:K.In s.heap)(I:InstAt s.heap x ox C (some od))(hg:plainGet K C name=true)(hc:isClsIn K C=true)
 (ha:findIn K (.ref C) name=some (some (.ref p))) (hn:specialIn K (.ref p) "__get__" = some (some (.builtin "member_descriptor.__get__"))) (ht:takesIn K (.ref p)=some true) (hp:slotIn K p C=some i)
 (hv:(ox.slots[i]?).join=some v) (hh:handedIn v=true) (h:Q v { s with toks:=s.toks+1 }):PM (PO prog w) A (RA (.ref x) name expr) Q E s :=
 get_bind X I (plainGet_of hg).1 (findObj_data hc ha hn ht) (plainGet_of hg).2 (Q5 (slot_get (s:={ s with toks:=s.toks+1 }) X I hp hv (handed_on hh h)))
end
end
section
open PySem PySem.W PyProof.Rows PySem.Spec PySem.SeqAt PySem.Calls
noncomputable def gk:List Str:=[ofString "_node2info",ofString "_ready_nodes",ofString "_npassedout",ofString "_nfinished"]
noncomputable def eM(K:Frag)(TS:PP):Bool :=
 makesIn K TS&&hasDictIn K TS&&findIn K (.ref TS) "__setattr__" == some (some (.builtin "object.__setattr__"))&&plainOver K TS &&
 gk.all fun nm=>plainGet K TS nm&&findIn K (.ref TS) nm==some none&&takerIn K TS nm==some none
noncomputable def fL(K:Frag)(NI:PP):Bool :=
 makesIn K NI&&findIn K (.ref NI) "__setattr__" == some (some (.builtin "object.__setattr__"))&&plainOver K NI&&isClsIn K NI
noncomputable def dM(K:Frag)(NI:PP)(nm:Str)(p i:Nat):Bool :=
 plainGet K NI nm&&findIn K (.ref NI) nm==some (some (.ref p))&&specialIn K (.ref p) "__get__" == some (some (.builtin "member_descriptor.__get__"))&&takesIn K (.ref p)==some true&&slotIn K p NI==some i &&
 takerIn K NI nm==some (some (.ref p))&&typeIn K (.ref p)==some (.type "member_descriptor")
noncomputable def kM(K:Frag)(TS:PP)(nm:Str)(f:PP):Bool:=plainGet K TS nm&&findIn K (.ref TS) nm==some (some (.ref f))&&isFn K (.ref f)&&keepIn K (.ref f)&&fnIn K f
structure NInf where
 key:Int
 a:PP
 dx:PP
 sl:PP
 np:Int
 su:List Int
structure SLay where
 x:PP
 dx:PP
 n2i:PP
 inf:List NInf
 rd:Option (PP × List Int)
 po:Int
 fi:Int
noncomputable def SLay.rdv(L:SLay):PN:=match L.rd with
 | some (r,_)=>.ref r
 | none=>.none
noncomputable def SLay.infAs(L:SLay):List PP:=L.inf.flatMap fun f=>[f.a,f.dx,f.sl]
noncomputable def SLay.rdAs(L:SLay):List PP:=match L.rd with
 | some (r,_)=>[r]
 | none=>[]
noncomputable def SLay.addrs(L:SLay):List PP:=L.x::L.dx::L.n2i::(L.infAs++L.rdAs)
noncomputable def jO(h1 h2 h3 h4:Int)(t1 t2 t3 t4 t5 t6:Tok)(n2i:PP)(rdv:PN)(po fi:Int):List RO :=
 [⟨h1,.str (ofString "_node2info") t1,.ref n2i⟩,⟨h2,.str (ofString "_ready_nodes") t2,rdv⟩,⟨h3,.str (ofString "_npassedout") t3,.int po t5⟩,⟨h4,.str (ofString "_nfinished") t4,.int fi t6⟩]
noncomputable def jP(NI:PP)(f:NInf)(t1 t2:Tok):Obj:={ cls:=.ref NI,dict:=some f.dx,data:=.plain,slots:=#[some (.int f.key t1),some (.int f.np t2),some (.ref f.sl)] }
structure SorAt(prog:Qs)(w:Qq)(L:SLay)(h:Qk):Prop where
 inst:h.get? L.x=some (Q6 TS L.dx)
 dict:∃h1 h2 h3 h4 t1 t2 t3 t4 t5 t6 n,h.get? L.dx=some (RD (jO h1 h2 h3 h4 t1 t2 t3 t4 t5 t6 L.n2i L.rdv L.po L.fi) n)
 n2i:h.DictOf (QU prog w) L.n2i (L.inf.map fun f=>(f.key,.ref f.a))
 info:∀f∈L.inf,(∃t1 t2,h.get? f.a=some (jP NI f t1 t2))/\h.get? f.dx=some QR/\∃vs n,IsL h f.sl vs n/\Rb vs.toList f.su
 rdy:∀r l,L.rd=some (r,l)->∃vs n,IsL h r vs n/\Rb vs.toList l
 nd:L.addrs.Nodup
section
variable{prog:Qs}{w:Qq}{L:SLay}{h h':Qk}
theorem tm(hf:f∈L.inf):f.a∈L.infAs/\f.dx∈L.infAs/\f.sl∈L.infAs :=
 ⟨bW.mpr ⟨f,hf,by simp⟩,bW.mpr ⟨f,hf,by simp⟩,bW.mpr ⟨f,hf,by simp⟩⟩
theorem mM(hf:f∈L.inf):f.a∈L.addrs/\f.dx∈L.addrs/\f.sl∈L.addrs:=by
 have:=tm hf
 simp only[SLay.addrs,ae,au]
 exact⟨.inr (.inr (.inr (.inl this.1))),.inr (.inr (.inr (.inl this.2.1))),.inr (.inr (.inr (.inl this.2.2)))⟩
theorem FB(e:L.rd=some (r,l)):r∈L.addrs:=by
 simp only[SLay.addrs,ae,au]
 exact .inr (.inr (.inr (.inr (by simp[SLay.rdAs,e]))))
theorem SorAt.keeps(S:SorAt prog w L h)(hk:∀b o,b∈L.addrs->h.get? b=some o->h'.get? b=some o):SorAt prog w L h' where
 inst:=hk _ _ (by simp[SLay.addrs]) S.inst
 dict:=by
  obtain⟨h1,h2,h3,h4,t1,t2,t3,t4,t5,t6,n,e⟩:=S.dict
  exact⟨h1,h2,h3,h4,t1,t2,t3,t4,t5,t6,n,hk _ _ (by simp[SLay.addrs]) e⟩
 n2i:=fy (fun o e=>hk _ o (by simp[SLay.addrs]) e) S.n2i
 info:=fun f hf=>by
  obtain⟨⟨t1,t2,e⟩,e2,vs,n,hl,hi⟩:=S.info f hf
  exact⟨⟨t1,t2,hk _ _ (mM hf).1 e⟩,hk _ _ (mM hf).2.1 e2,vs,n,hk _ _ (mM hf).2.2 hl,hi⟩
 rdy:=fun r l e=>by
  refine x22 (S.rdy r l e) fun vs n hl hi=>?_
  exact⟨vs,n,hk _ _ (FB e) hl,hi⟩
 nd:=S.nd
set_option tactic.hygienic true in
theorem SorAt.there(S:SorAt prog w L h)(hb:b∈L.addrs):∃o,h.get? b=some o:=by
 simp only[SLay.addrs,ae,au]at hb
 rcases hb with rfl | rfl | rfl | hb | hb
 ·exact⟨_,S.inst⟩
 ·obtain⟨h1,h2,h3,h4,t1,t2,t3,t4,t5,t6,n,e⟩:=S.dict;exact⟨_,e⟩
 ·refine x12 (Heap.dictOf_iff.mp S.n2i) fun o e U=>?_;exact⟨o,e⟩
 ·refine x12 (bW.mp hb) fun f hf hb=>?_
  obtain⟨⟨t1,t2,e⟩,e2,vs,n,hl,_⟩:=S.info f hf
  simp only[ae,cu,or_false]at hb
  rcases hb with rfl | rfl | rfl
  ·exact⟨_,e⟩
  ·exact⟨_,e2⟩
  ·exact⟨_,hl⟩
 ·unfold SLay.rdAs at hb
  split at hb
  ·rename_i r l e
   refine x22 (S.rdy r l e) fun vs n hl U=>?_
   rw[ai.mp hb];exact⟨_,hl⟩
  ·cases hb
structure SNe(L:SLay):Prop where
 xd:L.x≠L.dx
 xn:L.x≠L.n2i
 dn:L.dx≠L.n2i
 ix:∀c∈L.infAs,c≠L.x/\c≠L.dx/\c≠L.n2i
 rx:∀c∈L.rdAs,c≠L.x/\c≠L.dx/\c≠L.n2i
 ir:∀c∈L.infAs,∀d∈L.rdAs,c≠d
 ind:L.infAs.Nodup
 rnd:L.rdAs.Nodup
theorem SLay.ne_iff:L.addrs.Nodup↔SNe L:=by
 simp only[SLay.addrs,c6,ae,au,not_or,de]
 constructor
 ·rintro ⟨⟨a1,a2,a3,a4⟩,⟨b1,b2,b3⟩,⟨c1,c2⟩,d1,d2,d3⟩
  exact⟨a1,a2,b1,fun c h=>⟨fun q=>a3 (q▸h),fun q=>b2 (q▸h),fun q=>c1 (q▸h)⟩,fun c h=>⟨fun q=>a4 (q▸h),fun q=>b3 (q▸h),fun q=>c2 (q▸h)⟩,d3,d1,d2⟩
 ·rintro ⟨a,b,c,d,e,f,g,i⟩
  exact⟨⟨a,b,fun q=>(d _ q).1 rfl,fun q=>(e _ q).1 rfl⟩,⟨c,fun q=>(d _ q).2.1 rfl,fun q=>(e _ q).2.1 rfl⟩,⟨fun q=>(d _ q).2.2 rfl,fun q=>(e _ q).2.2 rfl⟩,g,i,f⟩
theorem FD:handedIn L.rdv=true:=by
 obtain⟨x,dx,n2i,inf,rd,po,fi⟩:=L
 cases rd with
 | none=>rfl
 | some p=>rfl
theorem SorAt.instAt(S:SorAt prog w L h):∃h1 h2 h3 h4 t1 t2 t3 t4 t5 t6 n,h.get? L.dx=some (RD (jO h1 h2 h3 h4 t1 t2 t3 t4 t5 t6 L.n2i L.rdv L.po L.fi) n) /\
 InstAt h L.x (Q6 TS L.dx) TS (some (RD (jO h1 h2 h3 h4 t1 t2 t3 t4 t5 t6 L.n2i L.rdv L.po L.fi) n)):=by
 obtain⟨h1,h2,h3,h4,t1,t2,t3,t4,t5,t6,n,e⟩:=S.dict
 exact⟨h1,h2,h3,h4,t1,t2,t3,t4,t5,t6,n,e,S.inst,rfl,rfl,e⟩
end
section
variable{prog:Qs}{w:Qq}{A:P0}{E:PN->PL->Prop}{s:PL}{K:Frag}{L:SLay}{expr:Bool}
theorem to(hc:eM K TS=true)(hn:nm∈gk):plainGet K TS nm=true/\findIn K (.ref TS) nm=some none/\takerIn K TS nm=some none/\hasDictIn K TS=true/\findIn K (.ref TS) "__setattr__" = some (some (.builtin "object.__setattr__"))/\plainOver K TS=true:=by
 unfold eM at hc
 simp only[di,beq_iff_eq,bC]at hc
 refine al hc fun z0 h5=>?_;refine al z0 fun z0 h4=>?_;refine al z0 fun z0 h3=>?_;obtain⟨h1,h2⟩:=z0
 have:=h5 nm hn
 exact⟨this.1.1,this.1.2,this.2,h2,h3,h4⟩
theorem FH:noGet K none=true:=rfl
theorem yo{Q:PN->PL->Prop}(X:K.In s.heap)(hc:eM K TS=true)(S:SorAt prog w L s.heap)(hn:nm∈gk)(hv:handedIn v=true)
 (hl:∀h1 h2 h3 h4 t1 t2 t3 t4 t5 t6,getL nm (jO h1 h2 h3 h4 t1 t2 t3 t4 t5 t6 L.n2i L.rdv L.po L.fi)=some (some v)) (h:Q v { s with toks:=s.toks+1 }):PM (PO prog w) A (RA (.ref L.x) nm expr) Q E s:=by
 obtain⟨h1,h2,h3,h4,t1,t2,t3,t4,t5,t6,n,e,I⟩:=S.instAt
 refine gE (to hc hn) fun f1 f2 f3 f4 f5 f6=>?_
 exact Fy X I f1 f4 f2 FH (hl ..) hv h
theorem pQ(X:K.In s.heap)(hc:eM K TS=true)(S:SorAt prog w L s.heap)(h:Q (.ref L.n2i) { s with toks:=s.toks+1 }):PM (PO prog w) A (RA (.ref L.x) (ofString "_node2info") expr) Q E s :=
 yo X hc S (by simp[gk]) rfl (fun U U U U U U U U U U=>rfl) h
theorem yp(X:K.In s.heap)(hc:eM K TS=true)(S:SorAt prog w L s.heap)(h:Q L.rdv { s with toks:=s.toks+1 }):PM (PO prog w) A (RA (.ref L.x) (ofString "_ready_nodes") expr) Q E s :=
 yo X hc S (by simp[gk]) FD (fun U U U U U U U U U U=>rfl) h
theorem SorAt.dxd(S:SorAt prog w L h)(hx:L'.x=L.x)(hd:L'.dx=L.dx)(hn:L'.n2i=L.n2i)(hi:L'.inf=L.inf)(hs:Qy L.dx h h')
 (hdict:∃h1 h2 h3 h4 t1 t2 t3 t4 t5 t6 n,h'.get? L.dx=some (RD (jO h1 h2 h3 h4 t1 t2 t3 t4 t5 t6 L.n2i L'.rdv L'.po L'.fi) n)) (hr:∀r l,L'.rd=some (r,l)->∃vs n,IsL h' r vs n/\Rb vs.toList l) (nd:L'.addrs.Nodup):SorAt prog w L' h':=by
 have ne:=SLay.ne_iff.mp S.nd
 refine⟨by rw[hx,hd];exact hs _ _ ne.xd S.inst,by rw[hd,hn];exact hdict,by rw[hn,hi];exact fy (fun o e=>hs _ o (QE ne.dn) e) S.n2i,fun f hf=>?_,hr,nd⟩
 rw[hi]at hf
 obtain⟨⟨t1,t2,e⟩,e2,vs,n,hl,hii⟩:=S.info f hf
 have m:=tm hf
 exact⟨⟨t1,t2,hs _ _ (ne.ix _ m.1).2.1 e⟩,hs _ _ (ne.ix _ m.2.1).2.1 e2,vs,n,hs _ _ (ne.ix _ m.2.2).2.1 hl,hii⟩
theorem FJ{Q:Unit->PL->Prop}(X:K.In s.heap)(hc:eM K TS=true)(S:SorAt prog w L s.heap)(hr:∃vs n,IsL s.heap r vs n/\Rb vs.toList l)(hnew:r∉L.x::L.dx::L.n2i::L.infAs)
 (h:∀h',QM L.dx s.heap h'->SorAt prog w { L with rd:=some (r,l) } h'->Q () { s with heap:=h',toks:=s.toks+2 }):PM (PO prog w) A (setAttr (.ref L.x) (ofString "_ready_nodes") (.ref r)) Q E s:=by
 obtain⟨h1,h2,h3,h4,t1,t2,t3,t4,t5,t6,n,e,I⟩:=S.instAt
 refine gE (to (nm:=ofString "_ready_nodes") hc (by simp[gk])) fun f1 f2 f3 f4 f5 f6=>?_
 simp only[ae,not_or]at hnew
 refine ym X I rfl f5 f6 f3 f4 rfl (by simp[jO]) fun h' hs hd=>h h' hs (S.dxd rfl rfl rfl rfl hs.extBut ⟨h1,h2,h3,h4,t1,t2,t3,t4,t5,t6,_,hd⟩ (fun r' l' e'=>?_) (SLay.ne_iff.mpr ?_))
 ·cases e'
  refine x22 hr fun vs n hl hi=>?_
  exact⟨vs,n,hs.extBut _ _ hnew.2.1 hl,hi⟩
 ·have ne:=SLay.ne_iff.mp S.nd
  refine⟨ne.xd,ne.xn,ne.dn,ne.ix,fun c hc=>?_,fun c hc d hd=>?_,ne.ind,by simp[SLay.rdAs]⟩
  ·simp only[SLay.rdAs,ai]at hc
   subst hc;exact⟨hnew.1,hnew.2.1,hnew.2.2.1⟩
  ·simp only[SLay.rdAs,ai]at hd
   subst hd;exact fun q=>hnew.2.2.2 (q▸hc)
theorem mO(hn:fL K NI=true)(hs:dM K NI nm p i=true):plainGet K NI nm=true/\isClsIn K NI=true/\findIn K (.ref NI) nm=some (some (.ref p))/\specialIn K (.ref p) "__get__" = some (some (.builtin "member_descriptor.__get__")) /\
 takesIn K (.ref p)=some true/\slotIn K p NI=some i/\takerIn K NI nm=some (some (.ref p))/\typeIn K (.ref p)=some (.type "member_descriptor")/\findIn K (.ref NI) "__setattr__" = some (some (.builtin "object.__setattr__"))/\plainOver K NI=true:=by
 unfold fL at hn
 unfold dM at hs
 simp only[di,beq_iff_eq]at hn hs
 refine al hn fun z0 a4=>?_;refine al z0 fun z0 a3=>?_;refine al z0 fun a1 a2=>?_
 refine al hs fun z0 b7=>?_;refine al z0 fun z0 b6=>?_;refine al z0 fun z0 b5=>?_;obtain⟨⟨⟨b1,b2⟩,b3⟩,b4⟩:=z0
 exact⟨b1,a4,b2,b3,b4,b5,b6,b7,a2,a3⟩
theorem SorAt.infAt(S:SorAt prog w L h)(hf:f∈L.inf):∃t1 t2,h.get? f.a=some (jP NI f t1 t2)/\InstAt h f.a (jP NI f t1 t2) NI (some QR):=by
 refine dl (S.info f hf) fun z0 e2 U=>?_;refine x21 z0 fun t1 t2 e=>?_
 exact⟨t1,t2,e,e,rfl,rfl,e2⟩
theorem yq{Q:PN->PL->Prop}(X:K.In s.heap)(hn:fL K NI=true)(hs:dM K NI (ofString "npredecessors") p 1=true) (S:SorAt prog w L s.heap) (hf:f∈L.inf)
 (h:∀t,Q (.int f.np t) { s with toks:=s.toks+1 }):PM (PO prog w) A (RA (.ref f.a) (ofString "npredecessors") expr) Q E s:=by
 refine x22 (S.infAt hf) fun t1 t2 e I=>?_
 refine lO (mO hn hs) fun b1 a4 b2 b3 b4 b5 b6 b7 a2 a3=>?_
 exact tj X I b1 a4 b2 b3 b4 b5 rfl rfl (h t2)
theorem FK{Q:PN->PL->Prop}(X:K.In s.heap)(hn:fL K NI=true)(hs:dM K NI (ofString "node") p 0=true) (S:SorAt prog w L s.heap) (hf:f∈L.inf)
 (h:∀t,Q (.int f.key t) { s with toks:=s.toks+1 }):PM (PO prog w) A (RA (.ref f.a) (ofString "node") expr) Q E s:=by
 refine x22 (S.infAt hf) fun t1 t2 e I=>?_
 refine lO (mO hn hs) fun b1 a4 b2 b3 b4 b5 b6 b7 a2 a3=>?_
 exact tj X I b1 a4 b2 b3 b4 b5 rfl rfl (h t1)
theorem yr{Q:PN->PL->Prop}(X:K.In s.heap)(hn:fL K NI=true)(hs:dM K NI (ofString "successors") p 2=true) (S:SorAt prog w L s.heap) (hf:f∈L.inf)
 (h:Q (.ref f.sl) { s with toks:=s.toks+1 }):PM (PO prog w) A (RA (.ref f.a) (ofString "successors") expr) Q E s:=by
 refine x22 (S.infAt hf) fun t1 t2 e I=>?_
 refine lO (mO hn hs) fun b1 a4 b2 b3 b4 b5 b6 b7 a2 a3=>?_
 exact tj X I b1 a4 b2 b3 b4 b5 rfl rfl h
end
noncomputable def a7(f:NInf):List PP:=[f.a,f.dx,f.sl]
theorem yt{inf:List NInf}:∀ {i j:Nat} {f g:NInf},(inf.flatMap a7).Nodup->inf[i]? = some f->inf[j]? = some g->i≠j->∀c∈a7 f,c∉a7 g:=by
 induction inf with
 | nil=>intro i j f g _ h;cases h
 | cons e r ih =>
  intro i j f g hn h1 h2 hij c hc hd
  rw[j4,de]at hn
  cases i with
  | zero =>
   simp at h1;subst h1
   cases j with
   | zero=>exact hij rfl
   | succ j =>
    simp at h2
    exact hn.2.2 c hc c (bW.mpr ⟨g,aG h2,hd⟩) rfl
  | succ i =>
   simp at h1
   cases j with
   | zero =>
    simp at h2;subst h2
    exact hn.2.2 c hd c (bW.mpr ⟨f,aG h1,hc⟩) rfl
   | succ j =>
    simp at h2
    exact ih hn.2.1 h1 h2 (by lia) c hc hd
theorem yu{inf:List NInf}{f:NInf}(hn:(inf.flatMap a7).Nodup)(hf:f∈inf):(a7 f).Nodup:=by
 induction inf with
 | nil=>cases hf
 | cons e r ih =>
  rw[j4,de]at hn
  rcases ae.mp hf with rfl | hf
  ·exact hn.1
  ·exact ih hn.2.1 hf
theorem yv{β:Type}{g:NInf->β}{f f':NInf}:∀ {inf:List NInf} {k:Nat},inf[k]? = some f->g f'=g f->(inf.set k f').map g=inf.map g
 | e::r,0,h,e'=>by simp at h;subst h;simp[e']
 | e::r,k+1,h,e'=>by
  simp at h
  simp[yv h e']
theorem tq(e:a7 f'=a7 f):∀ {inf:List NInf} {k:Nat},inf[k]? = some f->(inf.set k f').flatMap a7=inf.flatMap a7
 | g::r,0,h=>by simp at h;subst h;simp[e]
 | g::r,k+1,h=>by
  simp at h
  simp[tq e h]
theorem FL{inf:List NInf}{k:Nat}{f' g:NInf}(h:g∈inf.set k f'):g=f'\/∃j,j≠k/\inf[j]? = some g:=by
 refine x11 (Ac.mp h) fun j hj=>?_
 rw[List.getElem?_set]at hj
 split at hj
 ·split at hj
  ·left;exact(QH hj).symm
  ·cases hj
 ·rename_i hne;exact .inr ⟨j,fun q=>hne q.symm,hj⟩
section
variable{prog:Qs}{w:Qq}{A:P0}{E:PN->PL->Prop}{s:PL}{K:Frag}{L:SLay}{expr:Bool}{h h':Qk}
noncomputable def SLay.upd(L:SLay)(k:Nat)(f':NInf):SLay:={ L with inf:=L.inf.set k f' }
theorem SorAt.inf_upd{k:Nat}{f f':NInf}{c:PP}(S:SorAt prog w L h)(hk:L.inf[k]? = some f)(e1:f'.key=f.key)(e2:a7 f'=a7 f)(hc:c∈a7 f)(hs:Qy c h h')
 (hf:(∃t1 t2,h'.get? f'.a=some (jP NI f' t1 t2))/\h'.get? f'.dx=some QR/\∃vs n,IsL h' f'.sl vs n/\Rb vs.toList f'.su):SorAt prog w (L.upd k f') h':=by
 have ne:=SLay.ne_iff.mp S.nd
 have hm:f∈L.inf:=aG hk
 have hci:c∈L.infAs:=bW.mpr ⟨f,hm,hc⟩
 have hx:=ne.ix c hci
 have ea:f'.a=f.a:=by simp only[a7,List.cons.injEq]at e2;exact e2.1
 have hinfAs:(L.upd k f').infAs=L.infAs:=tq e2 hk
 refine⟨hs _ _ hx.1.symm S.inst,?_,?_,fun g hg=>?_,fun r l e=>?_,?_⟩
 ·obtain⟨h1,h2,h3,h4,t1,t2,t3,t4,t5,t6,n,e⟩:=S.dict
  exact⟨h1,h2,h3,h4,t1,t2,t3,t4,t5,t6,n,hs _ _ hx.2.1.symm e⟩
 ·have:(L.upd k f').inf.map (fun f=>(f.key,Qd f.a))=L.inf.map fun f=>(f.key,Qd f.a):=yv hk (by rw[e1,ea])
  rw[this]
  exact fy (fun o e=>hs _ o hx.2.2.symm e) S.n2i
 ·rcases FL hg with rfl | ⟨j,hj,hg⟩
  ·exact hf
  ·have hgm:g∈L.inf:=aG hg
   obtain⟨⟨t1,t2,e⟩,e2,vs,n,hl,hi⟩:=S.info g hgm
   have ap:∀d∈a7 g,d≠c:=fun d hd q=>yt ne.ind hg hk hj d hd (q▸hc)
   exact⟨⟨t1,t2,hs _ _ (ap _ (by simp[a7])) e⟩,hs _ _ (ap _ (by simp[a7])) e2,vs,n,hs _ _ (ap _ (by simp[a7])) hl,hi⟩
 ·refine x22 (S.rdy r l e) fun vs n hl hi=>?_
  exact⟨vs,n,hs _ _ (fun q=>ne.ir c hci r (by simp[SLay.rdAs,(show L.rd=some (r,l)from e)]) q.symm) hl,hi⟩
 ·rw[SLay.ne_iff]
  refine⟨ne.xd,ne.xn,ne.dn,by rw[hinfAs];exact ne.ix,ne.rx,by rw[hinfAs];exact ne.ir,by rw[hinfAs];exact ne.ind,ne.rnd⟩
theorem FM{m:Int}{t:Tok}{Q:Unit->PL->Prop}(X:K.In s.heap)(hn:fL K NI=true)(hs:dM K NI (ofString "npredecessors") p 1=true) (S:SorAt prog w L s.heap) (hk:L.inf[k]? = some f)
 (h:∀h',QM f.a s.heap h'->SorAt prog w (L.upd k { f with np:=m }) h'->Q () { s with heap:=h',toks:=s.toks+1 }):PM (PO prog w) A (setAttr (.ref f.a) (ofString "npredecessors") (.int m t)) Q E s:=by
 have hm:f∈L.inf:=aG hk
 refine x22 (S.infAt hm) fun t1 t2 e I=>?_
 refine lO (mO hn hs) fun b1 a4 b2 b3 b4 b5 b6 b7 a2 a3=>?_
 obtain⟨_,e2,vs,n,hl,hi⟩:=S.info f hm
 have ne:=SLay.ne_iff.mp S.nd
 have nd:=yu ne.ind hm
 simp only[a7,c6,ae,cu,or_false,not_or]at nd
 refine yn X I a2 a3 b6 b7 b5 (by decide) rfl fun h' hsb hd=>h h' hsb (S.inf_upd hk rfl rfl (by simp[a7]) hsb.extBut ⟨⟨t1,t,?_⟩,hsb.extBut _ _ (fun q=>nd.1.1 q.symm) e2,vs,n,hsb.extBut _ _ (fun q=>nd.1.2 q.symm) hl,hi⟩)
 rw[hd]
 simp[jP]
theorem yw{vs:Array PN}{is:List Int}{i:Int}{t:Tok}(h:Rb vs.toList is):Rb (vs.push (.int i t)).toList (is++[i]):=by
 rw[Sl]
 generalize vs.toList=l at h
 induction h with
 | nil=>exact .cons _ _ .nil
 | cons x t' _ ih=>exact .cons _ _ ih
theorem IntsAre.len(h:Rb vs is):vs.length=is.length:=by
 induction h with
 | nil=>rfl
 | cons _ _ _ ih=>simp[ih]
theorem FN{i:Int}{t:Tok}{Q:PN->PL->Prop}(S:SorAt prog w L s.heap)(hk:L.inf[k]? = some f)(hz:f.su.length<=16777216)
 (h:∀h',QM f.sl s.heap h'->SorAt prog w (L.upd k { f with su:=f.su++[i] }) h'->Q .none { s with heap:=h' }):PM (PO prog w) A (call (.builtin "list.append") [.ref f.sl,.int i t]) Q E s:=by
 have hm:f∈L.inf:=aG hk
 obtain⟨⟨t1,t2,e⟩,e2,vs,n,hl,hi⟩:=S.info f hm
 have ne:=SLay.ne_iff.mp S.nd
 have nd:=yu ne.ind hm
 simp only[a7,c6,ae,cu,or_false,not_or]at nd
 have hsz:=IntsAre.len hi
 rw[cQ]at hsz
 refine append_at hl (fun h' hs hD=>h h' hs (S.inf_upd hk rfl rfl (c:=f.sl) (by simp[a7]) hs.extBut ⟨⟨t1,t2,hs.extBut _ _ (fun q=>nd.1.2 q) e⟩,hs.extBut _ _ (fun q=>nd.2.1 q) e2,_,_,hD,yw hi⟩)) (by show vs.size<=Q7;rw[hsz];exact hz)
noncomputable def SLay.add(L:SLay)(f:NInf):SLay:={ L with inf:=L.inf++[f] }
theorem SorAt.add(S:SorAt prog w L h)(hs:Qy L.n2i h h')(hn:h'.DictOf (QU prog w) L.n2i ((L.inf++[f]).map fun f=>(f.key,.ref f.a)))
 (hf:(∃t1 t2,h'.get? f.a=some (jP NI f t1 t2))/\h'.get? f.dx=some QR/\∃vs n,IsL h' f.sl vs n/\Rb vs.toList f.su) (hnew:∀c∈a7 f,c∉L.addrs) (hnd:(a7 f).Nodup):SorAt prog w (L.add f) h':=by
 have ne:=SLay.ne_iff.mp S.nd
 have hinf:(L.add f).infAs=L.infAs++a7 f:=by simp[SLay.add,SLay.infAs,a7]
 have hout:∀c∈a7 f,c≠L.x/\c≠L.dx/\c≠L.n2i/\c∉L.infAs/\c∉L.rdAs:=fun c hc=>by
  have:=hnew c hc
  simp only[SLay.addrs,ae,au,not_or]at this
  exact⟨this.1,this.2.1,this.2.2.1,this.2.2.2.1,this.2.2.2.2⟩
 refine⟨hs _ _ ne.xn S.inst,?_,hn,fun g hg=>?_,fun r l e=>?_,?_⟩
 ·obtain⟨h1,h2,h3,h4,t1,t2,t3,t4,t5,t6,n,e⟩:=S.dict
  exact⟨h1,h2,h3,h4,t1,t2,t3,t4,t5,t6,n,hs _ _ ne.dn e⟩
 ·rcases au.mp hg with hg | hg
  ·obtain⟨⟨t1,t2,e⟩,e2,vs,n,hl,hi⟩:=S.info g hg
   have m:=tm hg
   exact⟨⟨t1,t2,hs _ _ (ne.ix _ m.1).2.2 e⟩,hs _ _ (ne.ix _ m.2.1).2.2 e2,vs,n,hs _ _ (ne.ix _ m.2.2).2.2 hl,hi⟩
  ·rw[ai.mp hg];exact hf
 ·refine x22 (S.rdy r l e) fun vs n hl hi=>?_
  exact⟨vs,n,hs _ _ (ne.rx r (by simp[SLay.rdAs,(show L.rd=some (r,l)from e)])).2.2 hl,hi⟩
 ·rw[SLay.ne_iff]
  refine⟨ne.xd,ne.xn,ne.dn,fun c hc=>?_,ne.rx,fun c hc d hd=>?_,?_,ne.rnd⟩
  ·rw[hinf]at hc
   rcases au.mp hc with hc | hc
   ·exact ne.ix c hc
   ·have:=hout c hc;exact⟨this.1,this.2.1,this.2.2.1⟩
  ·rw[hinf]at hc
   rcases au.mp hc with hc | hc
   ·exact ne.ir c hc d hd
   ·exact fun q=>(hout c hc).2.2.2.2 (q▸hd)
  ·rw[hinf,de]
   exact⟨ne.ind,hnd,fun c hc d hd q=>(hout d hd).2.2.2.1 (q▸hc)⟩
end
section
variable{G:Glo}{env:Env}{sc:Scope}{ctx:List (Option Str)}{A:P0}{O:PP->Prop}{ω:PP->Option Nat}{ρ:List SV}{s s':PL}{E:PN->PL->Prop}{K:Frag}
theorem gm(C:Cond G env sc ctx A O ω ρ s)(hi:ctx[i]? = some (some x))(hd:(x==ofString "__debug__")=false) (hy:ρ.getD i .un=.val v) (h:Q v s):PM (PO G.prog G.w) A (Qg (.Name x p) env) Q E s:=by
 obtain⟨val,F,V⟩:=C.vars
 have:=V i x hi
 rw[hy]at this
 exact RK (gM C.eo F this (C.co.kd i x hi) h) hd
theorem dN(C:Cond G env sc ctx A O ω ρ s)(hi:ctx[i]? = some (some x))(hd:(x==ofString "__debug__")=false) (hy:ρ.getD i .un=.dat d) (h:∀v,Rep O s.heap v d->Q v s):PM (PO G.prog G.w) A (Qg (.Name x p) env) Q E s:=by
 obtain⟨val,F,V⟩:=C.vars
 have:=V i x hi
 rw[hy]at this
 refine x12 this fun u e r=>?_
 exact RK (gM C.eo F e (C.co.kd i x hi) (h u r)) hd
theorem Cond.outer(wf:G.Wf)(C:Cond G env sc ctx A O (fun U=>none) ρ s)(k:KM M s s')(hM:∀b,M b->O b)(hS:∀b,M b->¬aU env b):Cond G env sc ctx A O (fun U=>none) ρ s':=by
 obtain⟨val,F,V⟩:=C.vars
 refine C.frame k hM rfl (val:=val) ⟨?_,fun x hx=>?_⟩ fun i x e=>(V i x e).at wf C.base fun b o hb e=>k.get b o (fun q=>?_) e
 ·refine x12 F.loc fun m h1 h2=>?_
  exact⟨m,h1.at' fun o e=>k.get _ o (fun q=>hS _ q (.inl rfl)) e,h2⟩
 ·refine x12 (F.cel x hx) fun c h1 h2=>?_
  exact⟨c,h1,my h2 fun o e=>k.get _ o (fun q=>hS _ q (.inr ⟨x,h1⟩)) e⟩
 ·rcases hb with hb | hb
  ·cases hb
  ·exact hb (hM b q)
theorem gQ{x nm:Str}{p ap:Pos}{Q:PN->PL->Prop}(C:Cond G env sc ctx A O ω ρ s)(hi:ctx[i]? = some (some x))(hd:(x==ofString "__debug__")=false) (hy:ρ.getD i .un=.val v)
 (h:PM (PO G.prog G.w) A (RA v nm true) Q E s):PM (PO G.prog G.w) A (Qg (.Attribute (.Name x p) nm ap) env) Q E s:=by
 show PM _ A (Qg (.Name x p) env >>= fun o=>RX ap.atName >>= fun U=>RW [o] (RA o nm true) >>= fun r=>letTemporaryGo (.Name x p) o r >>= fun U=>pure r) Q E s
 refine PK (gm C hi hd hy (PK (Ql (PK (Qj (PR h (fun r s' q=>?_) fun U U e=>e))))))
 exact PK (pE (PU q))
theorem Glo.Base.inK(wf:G.Wf)(B:G.Base O h):G.K.In h:=fun a o e=>B.kp a o (wf.K a o e)
noncomputable def aB:Str:=ofString "self"
noncomputable def az:Str:=ofString "node"
noncomputable def yx(P:Nat->Pos):List PW:=[.Assign [.Attribute (.Name aB (P 0)) (ofString "node") (P 1)] (.Name az (P 2)) (P 3),.Assign [.Attribute (.Name aB (P 4)) (ofString "npredecessors") (P 5)] (.Constant (.int 0) 0 (P 6)) (P 7),.Assign [.Attribute (.Name aB (P 8)) (ofString "successors") (P 9)] (.List [] (P 10)) (P 11)]
inductive isNIInit(b:List PW):Prop where
 | mk (h1:b=yx CW):isNIInit b
structure NiInfo(G:Glo)(fd:Qm)(body:List PW):Prop where
 ni:fL G.K NI=true
 sN:dM G.K NI (ofString "node") pN 0=true
 sP:dM G.K NI (ofString "npredecessors") pP 1=true
 sS:dM G.K NI (ofString "successors") pS 2=true
 init:findIn G.K (.ref NI) "__init__" = some (some (.ref fI))
 isfn:typeIn G.K (.ref fI)=some (.type "function")
 FI:FnInfo G fI fd body [aB,az] [aB,az]
 bind:∀u v,Q9 fd ⟨[u,v],[]⟩=pure ([aB,az].zip [u,v])
 bd:isNIInit body
theorem jf{Q:Flow->PL->Prop}(hve:RZ ve (some (.Attribute (.Name x p) nm ap)) pos.line env=pure false)(hi:ctx[i]? = some (some x))(hd:(x==ofString "__debug__")=false) (hy:ρ.getD i .un=.val v)
 (h:PM (PO G.prog G.w) A (Qg ve env) (fun u s₁=>Cond G env sc ctx A O ω ρ s₁/\PM (PO G.prog G.w) A (setAttr v nm u) (fun U=>Q .next) E s₁) E s):PM (PO G.prog G.w) A (exec (.Assign [.Attribute (.Name x p) nm ap] ve pos) env) Q E s :=
 plainObj_wpAny_Assign_Attribute (PR h (fun u s₁ h₁=>gm h₁.1 hi hd hy h₁.2) fun U U e=>e) hve
theorem tr{v:PN}{sl:Array (Option PN)}{Q:Unit->PL->Prop}(wf:G.Wf)(hn:fL G.K NI=true)(hs:dM G.K NI nm p i=true)(C:Cond G env sc ctx A O (fun U=>none) ρ s)(hx:s.heap.get? x=some { Q6 NI dx with slots:=sl })(hdx:s.heap.get? dx=some QR)
 (hxd:x≠dx) (hxO:O x) (hxS:¬aU env x) (hi:sl.size=i) (hi3:i<1000)
 (h:∀s',KM (· = x) s s'->Cond G env sc ctx A O (fun U=>none) ρ s'->s'.heap.get? x=some { Q6 NI dx with slots:=sl.push (some v) }->s'.heap.get? dx=some QR->Q () s'):PM (PO G.prog G.w) A (setAttr (.ref x) nm v) Q E s:=by
 refine lO (mO hn hs) fun b1 a4 b2 b3 b4 b5 b6 b7 a2 a3=>?_
 have I:InstAt s.heap x { Q6 NI dx with slots:=sl } NI (some QR):=⟨hx,rfl,rfl,hdx⟩
 have hsl:(sl++Po (i+1 - sl.size) none).setIfInBounds i (some v)=sl.push (some v):=by
  rw[hi,show i+1 - i=1 by lia]
  subst hi
  apply Array.ext'
  simp
 refine yn (C.base.inK wf) I a2 a3 b6 b7 b5 hi3 rfl fun h' hsb hd=>?_
 have hd':h'.get? x=some { Q6 NI dx with slots:=sl.push (some v) }:=by rw[hd];dsimp only;rw[hsl]
 have k:KM (· = x) s { s with heap:=h',toks:=s.toks+1 }:=KM.chg hsb.extBut ⟨_,hd'⟩ rfl
 exact h _ k (C.outer wf k (fun b q=>q▸hxO) fun b q=>q▸hxS) hd' (hsb.extBut _ _ (QE hxd) hdx)
theorem FO{k:Int}{t:Tok}(wf:G.Wf)(N:NiInfo G fd body)(ok:Okay A O s)(B:G.Base O s.heap)(hroom:A.depth+10<1000) :
 PM (PO G.prog G.w) A (call (.ref NI) [.int k t]) (fun v s'=>∃a dx sl t1 t2,v=.ref a/\PY s s'/\s.heap.get? a=none/\s.heap.get? dx=none/\s.heap.get? sl=none/\[a,dx,sl].Nodup /\
  s'.heap.get? a=some (jP NI ⟨k,a,dx,sl,0,[]⟩ t1 t2)/\s'.heap.get? dx=some QR/\IsL s'.heap sl #[] 0) E s:=by
 have X:=B.inK wf
 obtain⟨h,g,d,tk,os⟩:=s
 have hmk:makesIn G.K NI=true:=by
  have:=N.ni;unfold fL at this;simp only[di]at this;exact this.1.1.1
 refine Q5 (make_core (makes_of X hmk) (looks_findIn X N.init) (fun self=>bind_fn X self N.isfn) (.inl rfl) ?_)
 generalize hx:h.objs.size+1=x
 have hdx:((h.push QR).push (Q6 NI h.objs.size)).get? h.objs.size=some QR:=PX _ (PZ _ rfl)
 have hxx:((h.push QR).push (Q6 NI h.objs.size)).get? x=some (Q6 NI h.objs.size):=by
  have:((h.push QR).push (Q6 NI h.objs.size)).get? (h.push QR).objs.size=some (Q6 NI h.objs.size):=PZ _ rfl
  rw[QF]at this
  rw[<- hx];exact this
 generalize hdd:h.objs.size=dx at hdx hxx hx ⊢
 generalize hh2:(h.push QR).push (Q6 NI dx)=h2 at hdx hxx ⊢
 have hxd:x≠dx:=by rw[<- hx];exact Nat.succ_ne_self _
 have k02:PY ⟨h,g,d,tk,os⟩ ⟨h2,g,d,tk,os⟩:=⟨h2,tk,rfl,fun b o e=>hh2▸PX _ (PX _ e)⟩
 have fresh:∀b,@LE.le Nat _ dx b->h.get? b=none:=fun b hb=>by
  cases e:h.get? b with
  | none=>rfl
  | some o=>have:=Qe e;rw[hdd]at this;exact absurd this (c5.mpr hb)
 have hx0:h.get? x=none:=fresh x (by rw[<- hx];exact fV _)
 have hd0:h.get? dx=none:=fresh dx (aN _)
 have sz2:dx<h2.objs.size/\x<h2.objs.size:=⟨Qe hdx,Qe hxx⟩
 have ok2:Okay A (fun b=>O b\/b=x) ⟨h2,g,d,tk,os⟩:=⟨ok.hok.keeps k02,fun b hb q=>q.elim (ok.hno b hb) (fun z=>by
  refine x11 (ok.hok.there b hb) fun o e=>?_
  rw[z]at e
  have e':h.get? x=some o:=e
  rw[hx0]at e';cases e'),fun b q=>by
  rcases q with q | rfl
  ·refine x11 (ok.obs b q) fun o e=>?_;exact⟨o,am k02 b o e⟩
  ·exact⟨_,hxx⟩⟩
 have B2:G.Base (fun b=>O b\/b=x) h2:=⟨fun b o e=>am k02 b o (B.kp b o e),fun b q=>by
  rcases q with q | rfl
  ·exact B.off b q
  ·cases e:G.hB.get? b with
   | none=>rfl
   | some o=>have:h.get? b=some o:=B.kp b o e;rw[hx0]at this;cases this⟩
 refine kL (s:=⟨h2,g,d,tk,os⟩) (O:=fun b=>O b\/b=x) (vs:=[.ref x,.int k t]) (ys:=[.val (.ref x),.dat (.int k)]) (A:=A.under (.builtin "type.__call__" ⟨[.ref NI,.int k t],[]⟩)) wf N.FI ⟨ok2.hok,ok2.hno,ok2.obs⟩ B2 (fun i v y hv hy=>?_) rfl rfl ?_ (N.bind _ _) fun env O' s₁ k1 hO hO2 hSt hsto C E' Qf hret hnx=>?_
 ·match i with
  | 0=>simp at hv hy;subst hv hy;exact .inr rfl
  | 1=>simp at hv hy;subst hv hy;exact .inl ⟨_,rfl,.int _ _⟩
  | n+2=>simp at hv
 ·rw[depth_under_kw];lia
 ·have bd:=N.bd
  obtain⟨hb⟩:=bd
  rw[hb]
  unfold yx
  ·skip
   have hxs:¬aU env x:=fun q=>by have:=hSt x q;rw[show(⟨h2,g,d,tk,os⟩:PL).heap.get? x=h2.get? x from rfl,hxx]at this;cases this
   have hxO:O' x:=hO x (.inr rfl)
   have hself:([aB,az].map some)[0]? = some (some aB):=rfl
   have hnode:([aB,az].map some)[1]? = some (some az):=rfl
   have hr0:(cR [aB,az] [.val (.ref x),.dat (.int k)]).getD 0 .un=.val (.ref x):=rfl
   have hr1:(cR [aB,az] [.val (.ref x),.dat (.int k)]).getD 1 .un=.dat (.int k):=rfl
   have db1:(aB==ofString "__debug__")=false:=by decide +kernel
   have db2:(az==ofString "__debug__")=false:=by decide +kernel
   refine PS (jf rfl hself db1 hr0 (dN C hnode db2 hr1 fun v rv=>⟨C,?_⟩))
   refine x11 (gd rv) fun t1 e1=>?_;subst e1
   refine tr wf N.ni N.sN C (sl:=#[]) (am k1 _ _ hxx) (am k1 _ _ hdx) hxd hxO hxs rfl (by decide) fun s₂ k2 C2 hx2 hd2=>?_
   refine PS (jf rfl hself db1 hr0 (Re ⟨C2.keeps wf (ay _ _),?_⟩))
   refine tr wf N.ni N.sP (C2.keeps wf (ay _ _)) hx2 hd2 hxd hxO hxs rfl (by decide) fun s₃ k3 C3 hx3 hd3=>?_
   refine PS (jf rfl hself db1 hr0 (Si (Qc ⟨bx _,C3.keeps wf (bL _),?_⟩)))
   have kl:PY s₃ { s₃ with heap:=s₃.heap.push { cls:=.type "list",data:=.seq ([]:List PN).toArray } }:=bL _
   refine tr wf N.ni N.sS (C3.keeps wf kl) (am kl _ _ hx3) (am kl _ _ hd3) hxd hxO hxs rfl (by decide) fun s₄ k4 C4 hx4 hd4=>?_
   refine Qa (hnx _ ⟨rfl,?_⟩)
   have kk:∀b o,b≠x->h2.get? b=some o->s₃.heap.get? b=some o:=fun b o n e=>k3.get b o n (k2.get b o n (am k1 b o e))
   have hsl:IsL s₄.heap s₃.heap.objs.size #[] 0:=k4.get _ _ (fun q=>by
    have:=Qe hx3
    rw[q]at this;exact bl _ this) (IsL.new _ _)
   have k2':PY ⟨h,g,d,tk,os⟩ s₂:=KM.keeps (aX k02 k1) k2 fun b q=>by
    have q:b=x:=q
    rw[q];exact hx0
   have k3':PY ⟨h,g,d,tk,os⟩ s₃:=KM.keeps (aX k2' (ay _ _)) k3 fun b q=>by
    have q:b=x:=q
    rw[q];exact hx0
   have k4':PY ⟨h,g,d,tk,os⟩ s₄:=KM.keeps (aX k3' kl) k4 fun b q=>by
    have q:b=x:=q
    rw[q];exact hx0
   have hs0:h.get? s₃.heap.objs.size=none:=by
    cases e:h.get? s₃.heap.objs.size with
    | none=>rfl
    | some o=>exact absurd (Qe (am k3' _ _ e)) (bl _)
   have hxs3:x≠s₃.heap.objs.size:=dT (Qe hx3)
   have hds3:dx≠s₃.heap.objs.size:=dT (Qe hd3)
   exact⟨x,dx,s₃.heap.objs.size,_,_,rfl,k4',hx0,hd0,hs0,by simp[hxd,hxs3,hds3],hx4,hd4,hsl⟩
end
noncomputable def df:Str:=ofString "result"
noncomputable def kN:Str:=ofString "_node2info"
noncomputable def yy(P:Nat->Pos):List PW:=[.If (.Compare (.NamedExpr (.Name df (P 0)) (.Call (.Attribute (.Attribute (.Name aB (P 1)) kN (P 2)) (ofString "get") (P 3)) [.Name az (P 4)] [] (P 5)) (P 6)) [.Is] [.Constant .none 0 (P 7)] (P 8))
 [.Assign [.Subscript (.Attribute (.Name aB (P 9)) kN (P 10)) (.Name az (P 11)) (P 12),.Name df (P 13)] (.Call (.Name (ofString "_NodeInfo") (P 14)) [.Name az (P 15)] [] (P 16)) (P 17)] [] (P 18),
 .Return (some (.Name df (P 19))) (P 20)]
inductive isGetInfo(b:List PW):Prop where
 | mk (h1:b=yy cw) (h2:((cw 3).endLine==(cw 5).line)=true):isGetInfo b
noncomputable abbrev Gr:=List (Int × Int × List Int)
noncomputable def SLay.gr(L:SLay):Gr:=L.inf.map fun f=>(f.key,f.np,f.su)
noncomputable def cM(k:Int)(g:Gr):Gr:=if g.any (fun p=>p.1==k)then g else g++[(k,0,[])]
structure LSame(L L':SLay):Prop where
 x:L'.x=L.x
 dx:L'.dx=L.dx
 n2i:L'.n2i=L.n2i
 rd:L'.rd=L.rd
 po:L'.po=L.po
 fi:L'.fi=L.fi
theorem LSame.refl(L:SLay):LSame L L:=⟨rfl,rfl,rfl,rfl,rfl,rfl⟩
theorem LSame.trans(x:LSame a b)(y:LSame b c):LSame a c:=⟨y.x.trans x.x,y.dx.trans x.dx,y.n2i.trans x.n2i,y.rd.trans x.rd,y.po.trans x.po,y.fi.trans x.fi⟩
structure SI(G:Glo):Prop where
 ts:eM G.K TS=true
 N:NiInfo G oS bI
 ni:G.mg (ofString "_NodeInfo")=some (.ref NI)
 keepN:keepIn G.K (.ref NI)=true
 get:kM G.K TS (ofString "_get_nodeinfo") oQ=true
 FG:FnInfo G oQ hV bG [aB,az] [aB,az,df]
 bindG:∀u v,Q9 hV ⟨[u,v],[]⟩=pure ([aB,az].zip [u,v])
 bdG:isGetInfo bG
 glG:bU hV.scope (ofString "_NodeInfo")=true
 sys:∃o,G.hB.get? Rn=some o
section
variable{G:Glo}{A:P0}{O:PP->Prop}{s:PL}{E:PN->PL->Prop}{L:SLay}
noncomputable abbrev go(inf:List NInf):List (Int × PN):=inf.map fun f=>(f.key,.ref f.a)
noncomputable abbrev mQ(inf:List NInf):Gr:=inf.map fun f=>(f.key,f.np,f.su)
theorem FQ:(∃(j:Nat) (f:NInf),inf[j]? = some f/\f.key=k/\RB (go inf) k=some (.ref f.a)/\(mQ inf).any (fun p=>p.1==k)=true) \/
 (RB (go inf) k=none/\(mQ inf).any (fun p=>p.1==k)=false/\∀v:PN,stored (go inf) k v=go inf++[(k,v)]):=by
 induction inf with
 | nil=>right;exact⟨rfl,rfl,fun v=>rfl⟩
 | cons e r ih =>
  have ek:go (e::r)=(e.key,.ref e.a)::go r:=rfl
  have eg:mQ (e::r)=(e.key,e.np,e.su)::mQ r:=rfl
  by_cases h:e.key=k
  ·left
   refine⟨0,e,rfl,h,?_,?_⟩
   ·simp[RB,h]
   ·simp[h]
  ·rcases ih with⟨j,f,h1,h2,h3,h4⟩ | ⟨h1,h2,h3⟩
   ·left
    refine⟨j+1,f,by simpa using h1,h2,?_,?_⟩
    ·unfold RB at h3 ⊢
     rw[ek,PJ]
     simp only[h,decide_false]
     exact h3
    ·rw[eg,Pq,h4,Bool.or_true]
   ·right
    refine⟨?_,?_,fun v=>?_⟩
    ·unfold RB at h1 ⊢
     rw[ek,PJ]
     simp only[h,decide_false]
     exact h1
    ·rw[eg,Pq,h2];simp[h]
    ·have:=h3 v
     unfold stored at this ⊢
     by_cases q:((go r).any fun kv=>decide (kv.1=k))=true
     ·rw[if_pos q]at this
      have:=congrArg List.length this
      simp at this
     ·rw[ek,Pq]
      simp only[h,decide_false,Bool.false_or]
      rw[if_neg q]
structure GotInfo(G:Glo)(L:SLay)(s:PL)(k:Int)(v:PN)(s':PL)(L':SLay)(j:Nat)(f:NInf):Prop where
 val:v=.ref f.a
 at_:L'.inf[j]? = some f
 key:f.key=k
 sor:SorAt G.prog G.w L' s'.heap
 same:LSame L L'
 gr:L'.gr=cM k L.gr
 km:KM (·∈L.addrs) s s'
 new:∀b∈L'.addrs,b∈L.addrs\/s.heap.get? b=none
 len:L'.inf.length<=L.inf.length+1
theorem yz(h:b∈(L.add f).addrs):b∈L.addrs\/b∈a7 f:=by
 have hinf:(L.add f).infAs=L.infAs++a7 f:=by simp[SLay.add,SLay.infAs,a7]
 simp only[SLay.addrs,ae,au,hinf]at h ⊢
 rcases h with h | h | h | (h | h) | h
 ·exact .inl (.inl h)
 ·exact .inl (.inr (.inl h))
 ·exact .inl (.inr (.inr (.inl h)))
 ·exact .inl (.inr (.inr (.inr (.inl h))))
 ·exact .inr h
 ·exact .inl (.inr (.inr (.inr (.inr h))))
theorem KM.thenFresh(x:KM M s s')(y:KM N s' s'')(h:∀b,N b->s.heap.get? b=none):KM M s s'':=by
 obtain⟨h1,t1,rfl,k1,e1⟩:=x
 obtain⟨h2,t2,rfl,k2,e2⟩:=y
 exact⟨h2,t2,rfl,fun b o n e=>k2 b o (fun q=>by rw[h b q]at e;cases e) (k1 b o n e),fun b o e=>(e1 b o e).elim fun o' e'=>e2 b o' e'⟩
theorem eN(S:SorAt G.prog G.w L s.heap)(k:PY s s'):SorAt G.prog G.w L s'.heap:=S.keeps fun b o U e=>am k b o e
noncomputable abbrev jQ:List (Option Str):=[aB,az,df].map some
theorem FR{O':PP->Prop}{s₃:PL}{k:Int}{Q:Flow->PL->Prop}(wf:G.Wf)(I:SI G)(hglG:bU sc (ofString "_NodeInfo")=true) (hstor:aT sc df=true) (hsto:bu env jQ 2) (hroom:A.depth+10<1000) (hsz:L.inf.length<=10000)
 (db1:(aB==ofString "__debug__")=false) (db2:(az==ofString "__debug__")=false) (S:SorAt G.prog G.w L s.heap) (k13:PY s s₃) (hSt:∀b,aU env b->s.heap.get? b=none) (S3:SorAt G.prog G.w L s₃.heap) (hOO:∀b∈L.addrs,O' b) (hFS:∀b∈L.addrs,¬aU env b)
 (C3:Cond G env sc jQ A O' (fun U=>none) [.val (.ref L.x),.dat (.int k),.val .none] s₃) (h2:(mQ L.inf).any (fun p=>p.1==k)=false) (h3:∀v:PN,stored (go L.inf) k v=go L.inf++[(k,v)])
 (h:∀v s' L' j f,Cond G env sc jQ A O' (fun U=>none) [.val (.ref L.x),.dat (.int k),.val v] s'->GotInfo G L s k v s' L' j f->Q .next s') :
 PM (PO G.prog G.w) A (QG [.Assign [.Subscript (.Attribute (.Name aB (cw 9)) kN (cw 10)) (.Name az (cw 11)) (cw 12),.Name df (cw 13)] (.Call (.Name (ofString "_NodeInfo") (cw 14)) [.Name az (cw 15)] [] (cw 16)) (cw 17)] env) Q E s₃:=by
 refine PS (wpAny_Assign_two ?_)
 refine dY (fun a ha=>by rw[ai.mp ha];rfl) (ii wf C3.eo C3.base hglG (by decide +kernel) I.ni ?_)
 refine callWith_of (P:=fun h=>G.K.In h) (gg (env:=env) [.Name az (cw 15)]▸rfl) (keeps_K I.keepN) (Qo (Qh (dN C3 ((rfl:jQ[1]? = some (some az))) db2 rfl fun v rv=>Qc ⟨C3.base.inK wf,?_⟩)))
 refine x11 (gd rv) fun t' e1=>?_;subst e1
 refine PR (FO wf I.N C3.ok C3.base hroom) (fun v s₄ h4=>?_) fun U U e=>e
 refine x59 h4 fun a dx sl t1 t2 e5 k4 f1 f2 f3 nd o1 o2 o3=>?_;subst e5
 have C4:=C3.keeps wf k4
 have S4:=eN S3 k4
 have k14:=aX k13 k4
 show PM _ _ (RW [.ref a] (Qg (.Attribute (.Name aB (cw 9)) kN (cw 10)) env) >>= fun ov=>RW [.ref a,ov] (Qg (.Name az (cw 11)) env) >>= fun iv=>RX (cw 12) >>= fun U=>RW [.ref a,ov,iv] (setItem ov iv (.ref a)) >>= fun U=>release [.ref a,ov,iv] []) _ _ s₄
 refine PK (Qj (gQ C4 ((rfl:jQ[0]? = some (some aB))) db1 rfl (pQ (C4.base.inK wf) I.ts S4 ?_)))
 have C5:=C4.keeps wf (ay s₄ (s₄.toks+1))
 refine PK (Qj (dN C5 ((rfl:jQ[1]? = some (some az))) db2 rfl fun v rv=>?_))
 refine x11 (gd rv) fun t'' e1=>?_;subst e1
 have S5:SorAt G.prog G.w L ({ s₄ with toks:=s₄.toks+1 }:PL).heap:=S4
 refine PK (Ql (PK (Qj (wpAny_setItem_pairs (intKind_is _ _ _ _) S5.n2i (fun h' hm hs=>wpAny_release ?_) (by rw[ag,QP];lia)))))
 rw[show stored (L.inf.map fun f=>(f.key,Qd f.a)) k (.ref a)=_ from h3 (.ref a)]at hm
 have notin:∀c,s.heap.get? c=none->c∉L.addrs:=fun c e hc=>by
  refine x11 (S.there hc) fun o q=>?_
  rw[e]at q;cases q
 have none1:∀c,s₃.heap.get? c=none->s.heap.get? c=none:=fun c e=>iq k13 e
 have hn2:L.n2i∈L.addrs:=by simp[SLay.addrs]
 have ne:∀c,s₃.heap.get? c=none->c≠L.n2i:=fun c e q=>notin c (none1 c e) (q▸hn2)
 have S6:SorAt G.prog G.w (L.add ⟨k,a,dx,sl,0,[]⟩) h':=S4.add hs.extBut (by rw[oG];exact hm)
  ⟨⟨t1,t2,hs.extBut _ _ (ne a f1) o1⟩,hs.extBut _ _ (ne dx f2) o2,#[],0,hs.extBut _ _ (ne sl f3) o3,.nil⟩
  (fun c hc=>by
   simp only[a7,ae,cu,or_false]at hc
   rcases hc with rfl | rfl | rfl
   ·exact notin _ (none1 _ f1)
   ·exact notin _ (none1 _ f2)
   ·exact notin _ (none1 _ f3)) nd
 have km6:KM (· = L.n2i) s₄ { s₄ with heap:=h',toks:=s₄.toks+1+1 }:=by
  refine x12 (Heap.dictOf_iff.mp hm) fun o e U=>?_
  exact KM.chg hs.extBut ⟨o,e⟩ rfl
 have C6:=C4.outer wf km6 (fun b q=>q▸hOO _ hn2) fun b q=>q▸hFS _ hn2
 refine Qx (eq (y:=.val (.ref a)) wf hsto C6 (rfl:jQ[2]? = some (some df)) hstor (show some (Qd a)=some (.ref a)from rfl) fun s₇ k7 C7=>?_)
 show PM _ _ (QG [] env) _ _ _
 refine Qa (h _ s₇ (L.add ⟨k,a,dx,sl,0,[]⟩) L.inf.length ⟨k,a,dx,sl,0,[]⟩ C7 ⟨rfl,by simp[SLay.add],rfl,?_,⟨rfl,rfl,rfl,rfl,rfl,rfl⟩,?_,?_,fun b hb=>?_,by simp[SLay.add]⟩)
 ·refine S6.keeps fun b o hb e=>k7.get b o (fun q=>?_) e
  rcases yz hb with hb | hb
  ·exact hFS b hb q.store
  ·refine x11 (C3.ok.obs b (C3.store_O q.store)) fun o e=>?_
   simp only[a7,ae,cu,or_false]at hb
   rcases hb with rfl | rfl | rfl
   ·rw[f1]at e;cases e
   ·rw[f2]at e;cases e
   ·rw[f3]at e;cases e
 ·unfold cM
  rw[show L.gr.any (fun p=>p.1==k)=false from h2]
  simp[SLay.add,SLay.gr]
 ·exact((KM.of k14).trans (km6.mono fun b q=>q▸hn2)).thenFresh k7 fun b q=>hSt b q.store
 ·rcases yz hb with hb | hb
  ·exact .inl hb
  ·right
   simp only[a7,ae,cu,or_false]at hb
   rcases hb with rfl | rfl | rfl
   ·exact none1 _ f1
   ·exact none1 _ f2
   ·exact none1 _ f3
theorem FS{k:Int}{t:Tok}(wf:G.Wf)(I:SI G)(ok:Okay A O s)(B:G.Base O s.heap)(hO:∀b∈L.addrs,O b)(S:SorAt G.prog G.w L s.heap)(hroom:A.depth+20<1000)(hsz:L.inf.length<=10000) :
 PM (PO G.prog G.w) A (call (.ref oQ) [.ref L.x,.int k t]) (fun v s'=>∃L' j f,GotInfo G L s k v s' L' j f) E s:=by
 refine Q5 (kL (s:=s) (O:=O) (vs:=[.ref L.x,.int k t]) (ys:=[.val (.ref L.x),.dat (.int k)]) wf I.FG ok B (fun i v y hv hy=>?_) rfl rfl (pw hroom) (I.bindG _ _) fun env O' s₁ k1 hO1 hO2 hSt hsto C E' Qf hret hnx=>?_)
 ·match i with
  | 0=>simp at hv hy;subst hv hy;exact .inr rfl
  | 1=>simp at hv hy;subst hv hy;exact .inl ⟨_,rfl,.int _ _⟩
  | n+2=>simp at hv
 have bd:=I.bdG
 obtain⟨hb,hline⟩:=bd
 rw[hb]
 unfold yy
 have X1:=C.base.inK wf
 have S1:=eN S k1
 have hctx:∀(i:Nat) (x:Str),[aB,az,df][i]? = some x->([aB,az,df].map some)[i]? = some (some x):=fun i x e=>by rw[bK,e];rfl
 have db1:(aB==ofString "__debug__")=false:=by decide +kernel
 have db2:(az==ofString "__debug__")=false:=by decide +kernel
 have db3:(df==ofString "__debug__")=false:=by decide +kernel
 have hstor:aT hV.scope df=true:=by
  rcases I.FG.sc.var df (by simp)with q | q<;>simp[aT,q]
 have hFS:∀b∈L.addrs,¬aU env b:=fun b hb q=>by
  refine x11 (S.there hb) fun o e=>?_
  rw[hSt b q]at e;cases e
 have hOO:∀b∈L.addrs,O' b:=fun b hb=>hO1 b (hO b hb)
 have fin:∀(v:PN) (s₃:PL) (L':SLay) (j:Nat) (f:NInf) (E:PN->PL->Prop),Cond G env hV.scope ([aB,az,df].map some) (A.deeper env) O' (fun U=>none) [.val (.ref L.x),.dat (.int k),.val v] s₃->GotInfo G L s k v s₃ L' j f ->
  PM (PO G.prog G.w) (A.deeper env) (QG [.Return (some (.Name df (cw 19))) (cw 20)] env) Qf E' s₃:=by
  intro v s₃ L' j f E C3 GI
  refine PS (QS (gm C3 (hctx 2 df rfl) db3 rfl ?_))
  exact hret _ _ ⟨L',j,f,GI⟩
 have stv:∀(v:PN) (s₂:PL) (ρ:List SV) (Q:Unit->PL->Prop) (E:PN->PL->Prop) (p:Pos),Cond G env hV.scope ([aB,az,df].map some) (A.deeper env) O' (fun U=>none) ρ s₂->(∀s₃,KM (bb env) s₂ s₃->Cond G env hV.scope ([aB,az,df].map some) (A.deeper env) O' (fun U=>none) (ρ.set 2 (.val v)) s₃->Q () s₃) ->
  PM (PO G.prog G.w) (A.deeper env) (QJ (.Name df p) env v) Q E s₂:=fun v s₂ ρ Q E p C h=>Qx (eq (y:=.val v) wf (hsto 2) C (hctx 2 df rfl) hstor (show some v=some v from rfl) h)
 have n2iO:=S.n2i
 have hsm:(L.n2i==Rn)=false:=by
  rw[beq_eq_false_iff_ne]
  intro q
  refine x11 I.sys fun o e=>?_
  have:=B.off L.n2i (hO L.n2i (by simp[SLay.addrs]))
  rw[q,e]at this;cases this
 have nd2:∀(s:PL) (S:SorAt G.prog G.w L s.heap),(∀a,Qd L.n2i=.ref a->∃ob,s.heap.get? a=some ob/\ob.dict=none):=fun s S a e=>by
  cases e
  refine x33 S.n2i fun o es ep ho hc U=>?_
  exact⟨o,ho,hc.2.1⟩
 have getcall:∀(Q:PN->PL->Prop) (E:PN->PL->Prop),Q ((RB (go L.inf) k).getD .none) { s₁ with toks:=s₁.toks+1+1 } ->
  PM (PO G.prog G.w) (A.deeper env) (Qg (.Call (.Attribute (.Attribute (.Name aB (cw 1)) kN (cw 2)) (ofString "get") (cw 3)) [.Name az (cw 4)] [] (cw 5)) env) Q E s₁:=by
  intro Q E hq
  refine Rp rfl (io rfl) hline (gQ C (hctx 0 aB rfl) db1 rfl (pQ X1 I.ts S1 ?_))
  have S2:SorAt G.prog G.w L ({ s₁ with toks:=s₁.toks+1 }:PL).heap:=S1
  refine⟨"dict", "dict.get",F.plainAttrs_dict,F.slot_dict_get,F.type_dict_get,S2.n2i.typeIs,nd2 _ S2,wpAny_dict_get1 (knd:=QU G.prog G.w) (d:=L.n2i) hsm (dN (C.keeps wf (ay _ _)) (hctx 1 az rfl) db2 rfl fun v rv=>?_)⟩
  refine x11 (gd rv) fun t' e1=>?_;subst e1
  exact⟨k,RB (go L.inf),intKind_is _ _ _ _,S2.n2i.mapOf,hq⟩
 refine PS (Rk (QA ?_ rfl))
 rw[arm_eval_NamedExpr]
 refine PK (getcall _ _ (PK (Qj (stv _ _ _ _ _ _ (C.keeps wf (ay _ _)) fun s₃ k3 C3=>PU (Ra (is_none ?_))))))
 have S3:SorAt G.prog G.w L s₃.heap:=(eN (s:=s₁) (s':={ s₁ with toks:=s₁.toks+1+1 }) S1 (ay _ _)).keeps fun b o hb e=>k3.get b o (fun q=>hFS b hb q.store) e
 have k13:PY s s₃:=KM.keeps (aX k1 (ay s₁ (s₁.toks+1+1))) k3 fun b q=>hSt b q.store
 rcases FQ (inf:=L.inf) (k:=k)with⟨j,f,h1,h2,h3,h4⟩ | ⟨h1,h2,h3⟩
 ·rw[h3]at C3 ⊢
  refine Qp ?_
  show PM _ _ (QG [] env) _ _ _
  refine Qa (fin _ s₃ L j f E C3 ⟨rfl,h1,h2,S3,LSame.refl L,?_,KM.of k13,fun b hb=>.inl hb,fV _⟩)
  unfold cM
  rw[show L.gr.any (fun p=>p.1==k)=true from h4];rfl
 ·rw[h1]at C3 ⊢
  refine Qp ?_
  show PM _ _ (QG [_] env) _ _ _
  exact FR wf I I.glG hstor (hsto 2) (mx hroom (by decide):A.depth+1+10<1000) hsz db1 db2 S k13 hSt S3 hOO hFS C3 h2 h3 fun v s' L' j f C' GI=>fin v s' L' j f E C' GI
end
section
variable{G:Glo}
theorem yA{a:PP}{fd:Qm}{body:List PW}{names vars:List Str}{vs:List PN}{ys:List SV}{args:List PN}{A:P0}{s s':PL}{O:PP->Prop}{R:Result->PL->Prop}(wf:G.Wf)(FI:FnInfo G a fd body names vars)
 (B₀:G.Base O s.heap) (ok:Okay A O s') (B:G.Base O s'.heap) (hr:∀(i:Nat) (v:PN) (y:SV),vs[i]? = some v->ys[i]? = some y->mL G O s'.heap v y) (hvl:vs.length=names.length) (hyl:ys.length=names.length) (hroom:A.depth<1000)
 (hbind:∀(A:P0) (Q:List (Str × PN)->PL->Prop) (E:PN->PL->Prop),Q (names.zip vs) s'->PM (PO G.prog G.w) A (Q9 fd ⟨args,[]⟩) Q E s)
 (h:∀env O' s₁,PY s' s₁->(∀b,O b->O' b)->(∀b,O' b->O b\/s'.heap.get? b=none)->(∀b,aU env b->s'.heap.get? b=none)->(∀i,bu env (vars.map some) i)->Cond G env fd.scope (vars.map some) (A.deeper env) O' (fun U=>none) (cR vars ys) s₁ ->
  ∀E Qf,(∀v s',R (.ok (.ret v)) s'->Qf (.ret v) s')->(∀s',R (.ok (.ret .none)) s'->Qf .next s')->PM (PO G.prog G.w) (A.deeper env) (QG body env) Qf E s₁) :
 QW (PO G.prog G.w) A (.call (.ref a) ⟨args,[]⟩) R s:=by
 refine x12 FI.at_ fun o e2 hd=>?_
 have sc:=FI.sc
 have hsub:∀y∈names,y∈vars:=fun y hy=>by rw[<- sc.pfx]at hy;exact PC hy
 refine codeAny_call_function (by show A.depth<1000;exact hroom) (B₀.kp a o (wf.K a o e2)) hd sc.co sc.gen FI.hbody (FI.hcode.keeps B₀.kp) (hbind _ _ _ ?_)
 rw[FI.hclo]
 refine wpAny_newFunctionEnv_cells sc.kind (fun x hx=>?_) fun env he s₁ x=>?_
 ·have hm:x.1∈names:=by
   obtain⟨y,v⟩:=x
   exact(List.of_mem_zip hx).1
  rcases sc.var x.1 (hsub _ hm)with q | q
  ·exact .inl q
  ·refine .inr ⟨q,?_⟩
   refine x11 (i7 (n:=s'.heap.objs.size+1) (mem_of_lookup q)) fun c hc=>?_
   refine x11 (jJ (iQ.mpr hc)) fun c' hc'=>?_
   rw[im,dC,hc'];rfl
 ·subst he
  refine⟨(wf.lim.keeps B.kp).keeps x.toInCall.keep,codeAny_func ?_⟩
  refine x16 (pM (G:=G) (A:=A) (ys:=ys) (a:=a) sc FI.hg FI.hb ok B hr hvl hyl x) fun O' hO hO2 hSt hsto C k=>?_
  exact h _ O' s₁ k hO hO2 hSt hsto C _ _ (fun U U q=>q) fun U q=>q
noncomputable def iu(k m:Int)(g:Gr):Gr:=g.map fun p=>if p.1=k then(p.1,p.2.1+m,p.2.2)else p
noncomputable def fM(p k:Int)(g:Gr):Gr:=g.map fun q=>if q.1=p then(q.1,q.2.1,q.2.2++[k])else q
noncomputable def jR(k:Int)(ps:List Int)(g:Gr):Gr:=ps.foldl (fun g p=>fM p k (cM p g)) (iu k ps.length (cM k g))
theorem SorAt.keys{L:SLay}{h:Qk}(S:SorAt G.prog G.w L h):(L.inf.map (·.key)).Nodup:=by
 refine x36 S.n2i fun o es ep ho hc hd hk hp hn=>?_
 rw[hH]at hn
 exact hn
theorem yB{β:Type}(g:NInf->β)(u:NInf->β):∀ {inf:List NInf} {j:Nat} {f f':NInf},(inf.map (·.key)).Nodup->inf[j]? = some f->u f=g f'->(inf.set j f').map g=inf.map fun e=>if e.key=f.key then u e else g e:=fun{inf}=>by
 induction inf with
 | nil=>exact fun _ h=>nomatch h
 | cons e r ih =>
  intro j f f' hn h hu
  rw[a9,c6]at hn
  cases j with
  | zero =>
   cases h
   rw[List.set_cons_zero,a9,a9,if_pos rfl,hu]
   congr 1
   exact fx fun q hq=>by rw[if_neg fun z=>hn.1 (aD.mpr ⟨q,hq,z⟩)]
  | succ j =>
   rw[List.set_cons_succ,a9,a9,ih hn.2 h hu,if_neg fun z=>hn.1 (aD.mpr ⟨f,aG h,z.symm⟩)]
theorem FT{L:SLay}{j:Nat}{f:NInf}{m:Int}(hn:(L.inf.map (·.key)).Nodup)(h:L.inf[j]? = some f):(L.upd j { f with np:=f.np+m }).gr=iu f.key m L.gr:=by
 unfold SLay.upd SLay.gr iu
 rw[yB (fun f=>(f.key,f.np,f.su)) (fun f=>(f.key,f.np+m,f.su)) hn h rfl,hH]
 refine fx fun e U=>?_
 simp only[Function.comp]
theorem yC{L:SLay}{j:Nat}{f:NInf}{k:Int}(hn:(L.inf.map (·.key)).Nodup)(h:L.inf[j]? = some f):(L.upd j { f with su:=f.su++[k] }).gr=fM f.key k L.gr:=by
 unfold SLay.upd SLay.gr fM
 rw[yB (fun f=>(f.key,f.np,f.su)) (fun f=>(f.key,f.np,f.su++[k])) hn h rfl,hH]
 refine fx fun e U=>?_
 simp only[Function.comp]
theorem yD{L:SLay}{j:Nat}{f f':NInf}(h:L.inf[j]? = some f)(e:a7 f'=a7 f):(L.upd j f').addrs=L.addrs:=by
 have hi:(L.upd j f').infAs=L.infAs:=tq e h
 simp only[SLay.addrs,hi];rfl
end
noncomputable def jg:Str:=ofString "predecessors"
noncomputable def mR:Str:=ofString "nodeinfo"
noncomputable def pR:Str:=ofString "pred"
noncomputable def mS:Str:=ofString "pred_info"
noncomputable def iw:List Str:=[aB,az,jg,mR,pR,mS]
noncomputable def yE(P:Nat->Pos)(u1:List PW):List PW:=[.If (.Compare (.Attribute (.Name aB (P 0)) (ofString "_ready_nodes") (P 1)) [.IsNot] [.Constant .none 0 (P 2)] (P 3)) u1 [] (P 4),
 .Assign [.Name mR (P 5)] (.Call (.Attribute (.Name aB (P 6)) (ofString "_get_nodeinfo") (P 7)) [.Name az (P 8)] [] (P 9)) (P 10),
 .AugAssign (.Attribute (.Name mR (P 11)) (ofString "npredecessors") (P 12)) .Add (.Call (.Name (ofString "len") (P 13)) [.Name jg (P 14)] [] (P 15)) (P 16),
 .For (.Name pR (P 17)) (.Name jg (P 18)) [.Assign [.Name mS (P 19)] (.Call (.Attribute (.Name aB (P 20)) (ofString "_get_nodeinfo") (P 21)) [.Name pR (P 22)] [] (P 23)) (P 24),
  .Expr (.Call (.Attribute (.Attribute (.Name mS (P 25)) (ofString "successors") (P 26)) (ofString "append") (P 27)) [.Name az (P 28)] [] (P 29)) (P 30)] [] (P 31)]
inductive isAdd(b:List PW):Prop where
 | mk (h1:b=yE hY De) (h2:((hY 7).endLine==(hY 9).line)=true) (h3:((hY 21).endLine==(hY 23).line)=true) (h4:((hY 27).endLine==(hY 29).line)=true):isAdd b
structure SA(G:Glo):Prop extends SI G where
 FA:FnInfo G lT iR bA [aB,az,jg] iw
 bindA:∀u v ps,ps.length<=8->Q9 iR ⟨u::v::ps,[]⟩=(newTuple ps >>= fun t=>pure ([aB,az,jg].zip [u,v,t]))
 bdA:isAdd bA
 glA:bU iR.scope (ofString "len")=true
section
variable{G:Glo}{A:P0}{O:PP->Prop}{s:PL}{E:PN->PL->Prop}{L:SLay}
theorem pT{env:Env}{o:Expr}{apos pos:Pos}{args:List Expr}{Q:PN->PL->Prop}(wf:G.Wf)(mf:kM G.K TS name f=true)(hnm:∀(L:SLay) h1 h2 h3 h4 t1 t2 t3 t4 t5 t6,getL name (jO h1 h2 h3 h4 t1 t2 t3 t4 t5 t6 L.n2i L.rdv L.po L.fi)=some none)
 (hbase:attributeBase o name env (Qg o env)=Qg o env) (hs:∀a∈args,fE a=true) (hfew:args.length<29) (hline:(apos.endLine==pos.line)=true)
 (h:PM (PO G.prog G.w) A (Qg o env) (fun ov s₁=>∃L O,ov=.ref L.x/\G.Base O s₁.heap/\SorAt G.prog G.w L s₁.heap /\
  PM (PO G.prog G.w) A (spliced (args.map fun a=>(false,Qg a env))) (fun vs s₂=>(∃O,G.Base O s₂.heap)/\PM (PO G.prog G.w) A (call (.ref f) (.ref L.x::vs)) Q E s₂) E s₁) E s) :
 PM (PO G.prog G.w) A (Qg (.Call (.Attribute o name apos) args [] pos) env) Q E s:=by
 unfold kM at mf
 simp only[di,beq_iff_eq]at mf
 refine al mf fun z0 m5=>?_;refine al z0 fun z0 m4=>?_;refine al z0 fun z0 m3=>?_;obtain⟨m1,m2⟩:=z0
 refine al (plainGet_of m1) fun m6 m7=>?_
 rw[arm_eval_Call,hbase]
 refine PK (PR h (fun ov s₁ h₁=>?_) fun U U e=>e)
 refine x24 h₁ fun L O e2 B S hc=>?_;subst e2
 obtain⟨h1,h2,h3,h4,t1,t2,t3,t4,t5,t6,n,e,IA⟩:=S.instAt
 refine PK (Ql ?_)
 have hform:methodCallForm (args.length+([]:List Keyword).length) (backTo pos (starEach args env)) (backToKw pos (keywordEach [] env))=true:=by
  rw[ij _ hs,jG]
  unfold methodCallForm
  simp only[List.all_map,Function.comp,di,decide_eq_true_eq]
  refine⟨⟨by simp,rfl⟩,?_⟩
  simp only[Pr,Nat.add_zero]
  have:(backToKw pos (keywordEach [] env)).isEmpty=true:=rfl
  rw[this];simp;lia
 have hpos:methodCallPos true o env apos pos=pure pos:=by unfold methodCallPos;simp[hline]
 unfold methodCall
 rw[hform]
 refine PK (Qj (method_fn (B.inK wf) IA m6 m7 m2 (beq_iff_eq.mp m3) ?_ ?_))
 ·show(lookIn name (RD _ n)).map _=_
  rw[lookIn_dict,hnm];rfl
 ·refine PK (RS hpos ?_)
  rw[ij _ hs,jG]
  refine callWith_of (P:=fun h=>G.K.In h) (by rw[gg];rfl) (keeps_K m4) (ik (PR hc (fun vs s₂ h₂=>⟨h₂.1.elim fun U B=>B.inK wf,h₂.2⟩) fun U U e=>e))
theorem yF{i j:Nat}{x y:Str}{k:Int}{p ap q cp:Pos}{Q:PN->PL->Prop}(wf:G.Wf)(I:SI G)(C:Cond G env sc ctx A O (fun U=>none) ρ s)
 (hO:∀b∈L.addrs,O b) (S:SorAt G.prog G.w L s.heap) (hroom:A.depth+20<1000) (hsz:L.inf.length<=10000) (hx:ctx[i]? = some (some x)) (hy:ctx[j]? = some (some y)) (dx:(x==ofString "__debug__")=false) (dy:(y==ofString "__debug__")=false)
 (rx:ρ.getD i .un=.val (.ref L.x)) (ry:ρ.getD j .un=.dat (.int k)) (hline:(ap.endLine==cp.line)=true)
 (h:∀v s' L' n f,GotInfo G L s k v s' L' n f->Q v s'):PM (PO G.prog G.w) A (Qg (.Call (.Attribute (.Name x p) (ofString "_get_nodeinfo") ap) [.Name y q] [] cp) env) Q E s:=by
 refine pT wf I.get (fun U U U U U U U U U U U=>rfl) rfl (fun a ha=>by rw[ai.mp ha];rfl) (by simp) hline (gm C hx dx rx ⟨L,O,rfl,C.base,S,?_⟩)
 refine Qh (dN C hy dy ry fun v rv=>Qc ⟨⟨O,C.base⟩,?_⟩)
 refine x11 (gd rv) fun t' e1=>?_;subst e1
 exact PR (FS wf I C.ok C.base hO S hroom hsz) (fun v s' h'=>by
  refine x31 h' fun L' n f GI=>?_
  exact h v s' L' n f GI) fun U U e=>e
end
section
variable{G:Glo}{env:Env}{sc:Scope}{ctx:List (Option Str)}{A:P0}{O O':PP->Prop}{ρ:List SV}{s s':PL}{E:PN->PL->Prop}
theorem Cond.outerGrow(wf:G.Wf)(C:Cond G env sc ctx A O (fun U=>none) ρ s)(k:KM M s s')(hM:∀b,M b->O b)(hS:∀b,M b->¬aU env b)(h1:∀b,O b->O' b)(h2:∀b,O' b->O b\/s.heap.get? b=none)(h3:∀b,O' b->∃o,s'.heap.get? b=some o) :
 Cond G env sc ctx A O' (fun U=>none) ρ s':=by
 have C':=C.outer wf k hM hS
 obtain⟨val,F,V⟩:=C.vars
 have F':FrameV env s'.heap val:=by
  refine⟨?_,fun x hx=>?_⟩
  ·refine x12 F.loc fun m h1 h2=>?_
   exact⟨m,h1.at' fun o e=>k.get _ o (fun q=>hS _ q (.inl rfl)) e,h2⟩
  ·refine x12 (F.cel x hx) fun c h1 h2=>?_
   exact⟨c,h1,my h2 fun o e=>k.get _ o (fun q=>hS _ q (.inr ⟨x,h1⟩)) e⟩
 refine⟨C'.eo,C'.co,C'.len,⟨C'.ok.hok,fun b hb q=>?_,h3⟩,⟨C'.base.kp,fun b q=>?_⟩,fun b q=>h1 b (C.fr b q),fun x c e=>h1 c (C.fc x c e),fun b i e=>(by cases e),val,F',fun i x e=>?_⟩
 ·rcases h2 b q with q | q
  ·exact C.ok.hno b hb q
  ·refine x11 (C.ok.hok.there b hb) fun o e=>?_
   rw[q]at e;cases e
 ·rcases h2 b q with q | q
  ·exact C.base.off b q
  ·cases e:G.hB.get? b with
   | none=>rfl
   | some o=>rw[C.base.kp b o e]at q;cases q
 ·have r:=V i x e
  have hk:∀b o,¬O b->s.heap.get? b=some o->s'.heap.get? b=some o:=fun b o n e=>k.get b o (fun q=>n (hM b q)) e
  have hO:∀b o,s.heap.get? b=some o->O' b->O b:=fun b o e q=>(h2 b q).elim id fun z=>by rw[z]at e;cases e
  generalize ρ.getD i .un=y at r
  cases y with
  | dat d=>refine x12 r fun u e r=>?_;exact⟨u,e,r.mono hk hO⟩
  | own d=>obtain⟨a,vs,n,ds,e1,e2,_⟩:=r;cases e2
  | un=>trivial
  | val u=>exact r
  | sor g =>
   refine x23 r fun u S e r hS=>?_
   refine⟨u,S,e,wf.srf g S s.heap s'.heap u r (fun b o q U=>by cases hS b q) (fun b o q=>C.base.kp b o q) (fun b o q=>C'.base.kp b o q),hS⟩
structure FP(G:Glo)(env:Env)(sc:Scope)(ctx:List (Option Str))(A:P0)(s₀:PL)(L₀:SLay)(O:PP->Prop)(ρ:List SV)(s:PL)(L:SLay):Prop where
 C:Cond G env sc ctx A O (fun U=>none) ρ s
 S:SorAt G.prog G.w L s.heap
 hO:∀b∈L.addrs,O b
 hS:∀b∈L.addrs,¬aU env b
 same:LSame L₀ L
 km:KM (fun b=>b∈L₀.addrs\/aU env b) s₀ s
 new:∀b∈L.addrs,b∈L₀.addrs\/s₀.heap.get? b=none
variable{s₀:PL}{L₀ L L':SLay}
theorem FP.keeps(wf:G.Wf)(P:FP G env sc ctx A s₀ L₀ O ρ s L)(k:PY s s'):FP G env sc ctx A s₀ L₀ O ρ s' L :=
 ⟨P.C.keeps wf k,eN P.S k,P.hO,P.hS,P.same,P.km.trans (KM.of k),P.new⟩
theorem FP.store{p:Pos}{Q:Unit->PL->Prop}(wf:G.Wf)(hsto:∀i,bu env ctx i)(P:FP G env sc ctx A s₀ L₀ O ρ s L)(hi:ctx[i]? = some (some x))(hk:aT sc x=true)(r:c7 G O (fun U=>none) s.heap i (some v) y)
 (h:∀s',FP G env sc ctx A s₀ L₀ O (ρ.set i y) s' L->Q () s'):PM (PO G.prog G.w) A (QJ (.Name x p) env v) Q E s :=
 Qx (eq wf (hsto i) P.C hi hk r fun s' k C'=>h s' ⟨C',P.S.keeps fun b o hb e=>k.get b o (fun q=>P.hS b hb q.store) e,P.hO,P.hS,P.same,P.km.trans (k.mono fun b q=>.inr q.store),P.new⟩)
theorem FP.got(wf:G.Wf)(P:FP G env sc ctx A s₀ L₀ O ρ s L)(g:GotInfo G L s k v s' L' j f):FP G env sc ctx A s₀ L₀ (fun b=>O b\/b∈L'.addrs) ρ s' L':=by
 have hnone:∀b,s.heap.get? b=none->s₀.heap.get? b=none:=fun b e=>jL P.km e
 refine⟨P.C.outerGrow wf g.km P.hO P.hS (fun b q=>.inl q) (fun b q=>?_) (fun b q=>?_),g.sor,fun b q=>.inr q,fun b q z=>?_,P.same.trans g.same,?_,fun b q=>?_⟩
 ·rcases q with q | q
  ·exact .inl q
  ·exact(g.new b q).imp (P.hO b) id
 ·rcases q with q | q
  ·refine x11 (P.C.ok.obs b q) fun o e=>?_
   exact g.km.there b o e
  ·exact g.sor.there q
 ·rcases g.new b q with q | q
  ·exact P.hS b q z
  ·refine x11 (P.C.ok.obs b (P.C.store_O z)) fun o e=>?_
   rw[q]at e;cases e
 ·obtain⟨h1,t1,rfl,k1,e1⟩:=id P.km
  obtain⟨h2,t2,rfl,k2,e2⟩:=id g.km
  refine⟨h2,t2,rfl,fun b o n e=>k2 b o (fun q=>?_) (k1 b o n e),fun b o e=>(e1 b o e).elim fun o' e'=>e2 b o' e'⟩
  rcases P.new b q with q | q
  ·exact n (.inl q)
  ·rw[q]at e;cases e
 ·rcases g.new b q with q | q
  ·exact P.new b q
  ·exact .inr (hnone b q)
theorem FP.upd{t:Nat}(wf:G.Wf)(P:FP G env sc ctx A s₀ L₀ O ρ s L)(hc:c∈L.addrs)(hs:Qy c s.heap h')(S':SorAt G.prog G.w L' h')(ha:L'.addrs=L.addrs)(hsm:LSame L L'):FP G env sc ctx A s₀ L₀ O ρ { s with heap:=h',toks:=t } L':=by
 have hc':∃o,h'.get? c=some o:=S'.there (ha▸hc)
 have k:KM (· = c) s { s with heap:=h',toks:=t }:=KM.chg hs hc' rfl
 refine⟨P.C.outer wf k (fun b q=>q▸P.hO c hc) fun b q=>q▸P.hS c hc,S',ha▸P.hO,ha▸P.hS,P.same.trans hsm,?_,ha▸P.new⟩
 obtain⟨h1,t1,rfl,k1,e1⟩:=id P.km
 obtain⟨h2,t2,e,k2,e2⟩:=k
 cases e
 refine⟨h',t,rfl,fun b o n e=>k2 b o (fun q=>?_) (k1 b o n e),fun b o e=>(e1 b o e).elim fun o' e'=>e2 b o' e'⟩
 have q:b=c:=q
 rcases P.new b (q▸hc)with q | q
 ·exact n (.inl q)
 ·rw[q]at e;cases e
theorem FP.rebase(P:FP G env sc ctx A s₀ L₀ O ρ s L):FP G env sc ctx A s L O ρ s L:=⟨P.C,P.S,P.hO,P.hS,LSame.refl L,KM.of (bz s),fun b q=>.inl q⟩
theorem FP.comp(P:FP G env sc ctx A s₀ L₀ O₁ ρ₁ s₁ L₁)(P':FP G env sc ctx A s₁ L₁ O ρ s L):FP G env sc ctx A s₀ L₀ O ρ s L:=by
 refine⟨P'.C,P'.S,P'.hO,P'.hS,P.same.trans P'.same,?_,fun b q=>?_⟩
 ·obtain⟨h1,t1,rfl,k1,e1⟩:=id P.km
  obtain⟨h2,t2,rfl,k2,e2⟩:=id P'.km
  refine⟨h2,t2,rfl,fun b o n e=>k2 b o (fun q=>?_) (k1 b o n e),fun b o e=>(e1 b o e).elim fun o' e'=>e2 b o' e'⟩
  rcases q with q | q
  ·rcases P.new b q with q | q
   ·exact n (.inl q)
   ·rw[q]at e;cases e
  ·exact n (.inr q)
 ·rcases P'.new b q with q | q
  ·exact P.new b q
  ·exact .inr (jL P.km q)
end
section
variable{G:Glo}{env:Env}{sc:Scope}{ctx:List (Option Str)}{A:P0}{O O':PP->Prop}{ρ:List SV}{s s' s₁ s₂:PL}{E:PN->PL->Prop}{s₀:PL}{L₀ L L':SLay}
theorem FP.grow(wf:G.Wf)(P:FP G env sc ctx A s₀ L₀ O ρ s L)(k:PY s s')(h1:∀b,O b->O' b)(h2:∀b,O' b->O b\/s.heap.get? b=none)(h3:∀b,O' b->∃o,s'.heap.get? b=some o):FP G env sc ctx A s₀ L₀ O' ρ s' L :=
 ⟨P.C.grow wf k h1 h2 h3,eN P.S k,fun b q=>h1 b (P.hO b q),P.hS,P.same,P.km.trans (KM.of k),P.new⟩
theorem FP.side(wf:G.Wf)(P:FP G env sc ctx A s₀ L₀ O ρ s L)(hI:O I)(hL:I∉L.addrs)(hS:¬aU env I)(h0:s₀.heap.get? I=none)(k:KM (· = I) s s'):FP G env sc ctx A s₀ L₀ O ρ s' L :=
 ⟨P.C.outer wf k (fun b q=>q▸hI) (fun b q=>q▸hS),P.S.keeps fun b o hb e=>k.get b o (fun q=>hL (q▸hb)) e,P.hO,P.hS,P.same,P.km.thenFresh k (fun b q=>q▸h0),P.new⟩
inductive FPI(G:Glo)(env:Env)(sc:Scope)(ctx:List (Option Str))(A:P0)(s₀:PL)(L₀:SLay)(O:PP->Prop)(s₁:PL)(I:PP)(fp:List PP)(len:Nat)(St:Nat->Qk->Prop)(RP:List SV->Prop)(J:Nat->SLay->Prop)(n:Nat)(sk:PL):Prop where
 | mk (j:Nat) (Ok:PP->Prop) (ρk:List SV) (Lk:SLay) (hj:j<=len) (hn:n=len+1 - j) (hst:St j sk.heap) (hIL:I∉Lk.addrs) (loc:FLoc O s₁ I fp Ok (fun U=>none) sk) (hRP:RP ρk) (hJ:J j Lk) (P:FP G env sc ctx A s₀ L₀ Ok ρk sk Lk) :
  FPI G env sc ctx A s₀ L₀ O s₁ I fp len St RP J n sk
theorem FU{body:List PW}{i:Nat}{x:Str}{p:Pos}{R:Result->PL->Prop}(wf:G.Wf)(P:FP G env sc ctx A s₀ L₀ O ρ s₁ L)(k12:PY s₁ s₂)(hi:ItIs G.prog G.w A O True s₁.heap s₂.heap it its)
 (hsto:∀i,bu env ctx i) (hx:ctx[i]? = some (some x)) (hk:aT sc x=true) (RP:List SV->Prop) (J:Nat->SLay->Prop) (hRP:RP ρ) (hJ:J 0 L) (hset:∀ρ y,RP ρ->RP (ρ.set i y)) (hil:i<ρ.length)
 (step:∀n d O' L' ρ' s (Q:Flow->PL->Prop) E,its[n]? = some d->FP G env sc ctx A s L' O' ρ' s L'->RP ρ'->ρ'.getD i .un=.dat d->J n L' ->
  (∀s' O'' L'' ρ'',FP G env sc ctx A s L' O'' ρ'' s' L''->(∀b,O' b->O'' b)->(∀b,O'' b->O' b\/s.heap.get? b=none)->RP ρ''->J (n+1) L''->Q .next s')->PM (PO G.prog G.w) A (QG body env) Q E s)
 (hR:∀s' O' L' ρ',FP G env sc ctx A s₀ L₀ O' ρ' s' L'->RP ρ'->J its.length L'->R (.ok .next) s'):QW (PO G.prog G.w) A (.forLoop (.Name x p) it body [] env) R s₂:=by
 obtain⟨I,fp,wr,Pv,St,rfl,W,hst,hfq,⟨rfl,hI₁⟩,hf,htame,hIfp,hit⟩:=hi
 have hI₀:s₀.heap.get? I=none:=jL P.km hI₁
 have hnI:¬O I:=fun q=>by refine x11 (P.C.ok.obs I q) fun o e=>?_;rw[hI₁]at e;cases e
 have hIf:I∉hfp A:=fun q=>by refine x11 (P.C.ok.hok.there I q) fun o e=>?_;rw[hI₁]at e;cases e
 have hIS:¬aU env I:=fun q=>hnI (P.C.store_O q)
 have P2:FP G env sc ctx A s₀ L₀ (fun b=>O b\/b=I) ρ s₂ L:=P.grow wf k12 (fun b q=>.inl q) (fun b q=>by
  rcases q with q | rfl
  ·exact .inl q
  ·exact .inr hI₁) fun b q=>by
  rcases q with q | rfl
  ·refine x11 (P.C.ok.obs b q) fun o e=>?_;exact⟨o,am k12 b o e⟩
  ·refine x22 (htame 0 _ hst) fun o U e U=>?_;exact⟨o,e⟩
 refine codeAny_forLoop_any (FPI G env sc ctx A s₀ L₀ O s₁ I fp its.length St RP J) ?_ (its.length+1)
  ⟨0,_,ρ,L,bx _,rfl,hst,fun q=>hnI (P.hO I q),⟨.inr rfl,fun b o U e=>am k12 b o e,hfq,fun b hb n q=>q.elim (hf trivial b hb) n,fun j q=>(nomatch q),fun b o e q=>by
   rcases q with q | rfl
   ·exact q
   ·rw[hI₁]at e;cases e⟩,hRP,hJ,P2⟩
 rintro n sk ⟨j,Ok,ρk,Lk,hj,rfl,hst,hIL,loc,hRPk,hJk,Pk⟩
 by_cases hlt:j<its.length
 ·refine W.item j _ _ _ hlt hst fun v h₂ t₂ hP hst₂ hk₂=>?_
  refine x23 (htame (j+1) h₂ hst₂) fun oI TI hoI hcI htI=>?_
  refine mq hoI hcI htI ?_
  have hk2:∀b o,b≠I->sk.heap.get? b=some o->h₂.get? b=some o:=fun b o n e=>hk₂ b o (by simpa using n) e
  have k2:KM (· = I) sk { sk with heap:=h₂,toks:=t₂ }:=⟨h₂,t₂,rfl,fun b o n e=>hk2 b o n e,fun b o e=>if q:b=I then q▸⟨oI,hoI⟩else⟨o,hk2 b o q e⟩⟩
  have P2:=Pk.side wf loc.oI hIL hIS hI₀ k2
  refine x12 (hit j v hP) fun d hd rd=>?_
  have rd':Rep Ok h₂ v d:=(rd s₁.heap fun U U U e=>e).mono (fun b o n e=>hk2 b o (fun q=>by rw[q,hI₁]at e;cases e) (loc.kp b o n e)) loc.OO
  refine Qx (eq (y:=.dat d) wf (hsto i) P2.C hx hk ⟨v,rfl,rd'⟩ fun s3 k3 C3=>?_)
  have P3:FP G env sc ctx A s₀ L₀ Ok (ρk.set i (.dat d)) s3 Lk:=⟨C3,P2.S.keeps fun b o hb e=>k3.get b o (fun q=>P2.hS b hb q.store) e,P2.hO,P2.hS,P2.same,P2.km.trans (k3.mono fun b q=>.inr q.store),P2.new⟩
  refine step j d Ok Lk _ s3 _ _ hd P3.rebase (hset _ _ hRPk) (by rw[dJ,if_pos ⟨rfl,by rw[Pk.C.len,<- P.C.len];exact hil⟩]) hJk fun s' O'' L'' ρ'' P' hO1 hO2 hRP' hJ'=>?_
  have hS:∀b,aU env b->Ok b/\b≠I:=fun b q=>⟨Pk.C.store_O q,fun z=>hIS (z▸q)⟩
  have nb:∀b,s3.heap.get? b=none->h₂.get? b=none:=fun b e=>jL k3 e
  have nx:=loc.next (M:=fun b=>b∈Lk.addrs\/aU env b) (ω':=fun U=>none) hI₁ (s2:={ sk with heap:=h₂,toks:=t₂ }) hk2 ⟨oI,hoI⟩ (fun b q=>q.elim (fun q=>⟨Pk.hO b q,fun z=>hIL (z▸q)⟩) (hS b))
   (fun b o n e=>P'.km.get b o n (k3.get b o (fun q=>n (.inr q.store)) e)) (hO1 I loc.oI) (fun b q=>(hO2 b q).imp id (nb b)) fun j q=>nomatch q
  refine⟨its.length+1 - (j+1),by lia,j+1,O'',ρ'',L'',hlt,rfl,W.frame _ _ _ hst₂ fun b hb o e=>nx.2 b hb o e,fun q=>?_,nx.1,hRP',hJ',P3.comp P'⟩
  rcases P'.new I q with q | q
  ·exact hIL q
  ·have:=nb I q
   rw[hoI]at this;cases this
 ·have hin:j=its.length:=BN hj (c5.mp hlt)
  subst hin
  refine W.done _ _ _ hst fun h₂ t₂ hk₂=>Qa ?_
  have hk:∀b o,b≠I->sk.heap.get? b=some o->h₂.get? b=some o:=fun b o n e=>hk₂ b o (by simpa using n) e
  have hSne:∀b,aU env b->Ok b/\b≠I:=fun b q=>⟨Pk.C.store_O q,fun z=>hIS (z▸q)⟩
  refine hR _ (fun b=>Ok b/\b≠I) Lk ρk ⟨Pk.C.shrink wf (fun b q=>q.1) (fun b i e=>by cases e) (fun b q=>hSne b q.store) (fun x c e=>hSne c (.inr ⟨x,e⟩)) (fun q=>q.2 rfl) loc.oI hIf hk,Pk.S.keeps fun b o hb e=>hk b o (fun q=>hIL (q▸hb)) e,fun b q=>⟨Pk.hO b q,fun z=>hIL (z▸q)⟩,Pk.hS,Pk.same,?_,Pk.new⟩ hRPk hJk
  obtain⟨h1,t1,rfl,k1,e1⟩:=id Pk.km
  have ne:∀b o,s₀.heap.get? b=some o->b≠I:=fun b o e q=>by rw[q,hI₀]at e;cases e
  exact⟨h₂,t₂,rfl,fun b o n e=>hk b o (ne b o e) (k1 b o n e),fun b o e=>(e1 b o e).elim fun o' e'=>⟨o',hk b o' (ne b o e) e'⟩⟩
end
section
variable{G:Glo}{A:P0}{O:PP->Prop}{s:PL}{E:PN->PL->Prop}{L:SLay}
theorem yG{O:PP->Prop}{h:Qk}:∀ {ps:List PN} {pk:List Int},Rb ps pk->RepL O h ps (pk.map QT):=fun q=>by
 induction q with
 | nil=>exact .nil
 | cons x t r ih=>exact .cons (.int _ _) ih
noncomputable def gs(g:Gr)(m:Nat):Prop:=g.length<=9980+m/\∀q∈g,q.2.2.length<=999980+m
theorem yH{g:Gr}{m:Nat}{k:Int}(h:gs g m):gs (cM k g) (m+1):=by
 unfold cM
 split
 ·exact⟨by have:=h.1;lia,fun q hq=>by have:=h.2 q hq;lia⟩
 ·refine⟨by rw[bj];have:=h.1;simp;lia,fun q hq=>?_⟩
  rcases au.mp hq with hq | hq
  ·have:=h.2 q hq;lia
  ·rw[ai.mp hq];simp
theorem FV{g:Gr}{m:Nat}{k z:Int}(h:gs g m):gs (iu k z g) m:=by
 unfold iu
 refine⟨by rw[ag];exact h.1,fun q hq=>?_⟩
 refine x12 (aD.mp hq) fun p hp e2=>?_;subst e2
 have:=h.2 p hp
 split<;>simpa using this
theorem FW{g:Gr}{m:Nat}{p k:Int}(h:gs g m):gs (fM p k g) (m+1):=by
 unfold fM
 refine⟨by rw[ag];have:=h.1;lia,fun q hq=>?_⟩
 refine x12 (aD.mp hq) fun e he e2=>?_;subst e2
 have:=h.2 e he
 split
 ·simp;lia
 ·lia
theorem yI{L:SLay}{m:Nat}(h:gs L.gr m):L.inf.length<=9980+m/\∀f∈L.inf,f.su.length<=999980+m :=
 ⟨by have:=h.1;unfold SLay.gr at this;rwa [ag]at this,fun f hf=>h.2 (f.key,f.np,f.su) (aD.mpr ⟨f,hf,rfl⟩)⟩
theorem fn{i:Nat}{x:Str}(e:iw[i]? = some x):(iw.map some)[i]? = some (some x):=by rw[bK,e];rfl
theorem FY{k:Int}{t:Tok}{ps:List PN}{pk:List Int}(wf:G.Wf)(I:SA G)(ok:Okay A O s)(B:G.Base O s.heap)(hO:∀b∈L.addrs,O b)(S:SorAt G.prog G.w L s.heap)(hrd:L.rd=none)
 (hps:Rb ps pk) (hlen:ps.length<=8) (hroom:A.depth+30<1000) (hsz:L.inf.length+20<=10000) (hsu:∀f∈L.inf,f.su.length+20<=1000000) :
 QW (PO G.prog G.w) A (.call (.ref lT) ⟨.ref L.x::.int k t::ps,[]⟩) (fun r s'=>match r with | .ok (.ret v)=>(v=.none/\∃L',SorAt G.prog G.w L' s'.heap/\LSame L L'/\L'.gr=jR k pk L.gr/\KM (·∈L.addrs) s s'/\∀b∈L'.addrs,b∈L.addrs\/s.heap.get? b=none) | .ok _=>False | .error e=>E e s') s:=by
 have k0:PY s { s with heap:=s.heap.push { cls:=.type "tuple",data:=.seq ps.toArray } }:=bL _
 generalize hs':({ s with heap:=s.heap.push { cls:=.type "tuple",data:=.seq ps.toArray } }:PL)=s' at k0
 have hT:IsT s'.heap s.heap.objs.size ps.toArray 0:=by rw[<- hs'];exact IsT.new _ _
 have ok':=ok.keeps k0
 have B':=B.keeps k0
 have S':=eN S k0
 have hnT:¬O s.heap.objs.size:=fun q=>bl _ (ok.ob _ q)
 have hpl:=IntsAre.len hps
 have hrep:Rep O s'.heap (.ref s.heap.objs.size) (.tuple (pk.map .int)):=.tuple hnT hT (by
  have:ps.toArray.toList=ps:=rfl
  rw[this];exact yG hps)
 refine yA (s:=s) (s':=s') (O:=O) (vs:=[.ref L.x,.int k t,.ref s.heap.objs.size]) (ys:=[.val (.ref L.x),.dat (.int k),.dat (.tuple (pk.map .int))]) wf I.FA B ok' B' (fun i v y hv hy=>?_) rfl rfl (pw hroom) (fun A Q E h=>?_) fun env O' s₁ k1 hO1 hO2 hSt hsto C E' Qf hret hnx=>?_
 ·match i with
  | 0=>simp at hv hy;subst hv hy;exact .inr rfl
  | 1=>simp at hv hy;subst hv hy;exact .inl ⟨_,rfl,.int _ _⟩
  | 2=>simp at hv hy;subst hv hy;exact .inl ⟨_,rfl,hrep⟩
  | n+3=>simp at hv
 ·rw[I.bindA _ _ ps hlen]
  refine PK (Q2 (PU (hs'▸h)) (by show ps.toArray.size<=Q7;rw[oR,QP];lia))
 have bd:=I.bdA
 obtain⟨hb,hl1,hl2,hl3⟩:=bd
 rw[hb]
 unfold yE
 have d1:(aB==ofString "__debug__")=false:=by decide +kernel
 have d2:(az==ofString "__debug__")=false:=by decide +kernel
 have d3:(jg==ofString "__debug__")=false:=by decide +kernel
 have d4:(mR==ofString "__debug__")=false:=by decide +kernel
 have d5:(pR==ofString "__debug__")=false:=by decide +kernel
 have d6:(mS==ofString "__debug__")=false:=by decide +kernel
 have stor_of':∀x∈iw,aT iR.scope x=true:=fun x hx=>by rcases I.FA.sc.var x hx with q | q<;>simp[aT,q]
 have hOO:∀b∈L.addrs,O' b:=fun b hb=>hO1 b (hO b hb)
 have hFS:∀b∈L.addrs,¬aU env b:=fun b hb q=>by
  refine x11 (S'.there hb) fun o e=>?_
  rw[hSt b q]at e;cases e
 have P1:FP G env iR.scope (iw.map some) (A.deeper env) s' L O' (cR iw [.val (.ref L.x),.dat (.int k),.dat (.tuple (pk.map .int))]) s₁ L:=⟨C,eN S' k1,hOO,hFS,LSame.refl L,KM.of k1,fun b q=>.inl q⟩
 have hint:Q1 env=false:=by unfold Q1;rw[C.eo.kindS];rfl
 -- if self._ready_nodes is not None
 refine PS (Rk (QA (gQ P1.C (fn (i:=0) rfl) d1 rfl (yp (P1.C.base.inK wf) I.ts P1.S (Ra (isNot_none ?_)))) rfl))
 have hrv:L.rdv=.none:=by unfold SLay.rdv;rw[hrd]
 rw[hrv]
 refine Qp ?_
 show PM _ _ (QG [] env) _ _ _
 refine Qa ?_
 have P2:=P1.keeps wf (ay s₁ (s₁.toks+1))
 have g0:gs L.gr 0:=⟨by unfold SLay.gr;rw[ag];lia,fun q hq=>by
  refine x12 (aD.mp hq) fun f hf e2=>?_;subst e2
  have:=hsu f hf
  simp only;lia⟩
 -- nodeinfo=self._get_nodeinfo(node)
 refine PS (Qn (yF wf I.toSI P2.C P2.hO P2.S (mx hroom (by decide):A.depth+1+20<1000) (by lia) (fn (i:=0) rfl) (fn (i:=1) rfl) d1 d2 rfl rfl hl1 fun v s₂ L1 j f GI=>?_) rfl rfl)
 show PM _ _ (QJ (.Name mR (hY 5)) env v) _ _ s₂
 obtain⟨rfl,hj,hkey,hgr⟩:v=.ref f.a/\L1.inf[j]? = some f/\f.key=k/\L1.gr=cM k L.gr:=⟨GI.val,GI.at_,GI.key,GI.gr⟩
 refine(P2.got wf GI).store (y:=.val (.ref f.a)) wf hsto (fn (i:=3) rfl) (stor_of' _ (by simp[iw])) rfl fun s₃ P4=>?_
 have hfm:f∈L1.inf:=aG hj
 -- nodeinfo.npredecessors += len(predecessors)
 refine PS (wpAny_AugAssign_AttributeAny (gm P4.C (fn (i:=3) rfl) d4 rfl (yq (P4.C.base.inK wf) I.N.ni I.N.sP P4.S hfm fun tn=>?_)))
 have P5:=P4.keeps wf (ay s₃ (s₃.toks+1))
 refine sU wf P5.C rfl I.glA xU (dN P5.C (fn (i:=2) rfl) d3 rfl fun u ru=>PR (xu (.of ru) (by show(pk.map QT).length<=16777216;rw[ag];lia)) (fun w' s₄ h4=>?_) fun U U e=>e)
 refine x11 (gd h4.2) fun tl e1=>?_;subst e1
 have P6:=P5.keeps wf h4.1
 have P7:=P6.keeps wf (ay s₄ (s₄.toks+1))
 refine iadd_int (FM (k:=j) (f:=f) (P7.C.base.inK wf) I.N.ni I.N.sP P7.S hj fun h' hsb S8=>?_)
 have P8:=P7.upd (t:=s₄.toks+1+1) wf ((mM hfm).1) hsb.extBut S8 (yD hj rfl) ⟨rfl,rfl,rfl,rfl,rfl,rfl⟩
 have hlenD:((i4 (PyData.tuple (pk.map QT)):Nat):Int)=(pk.length:Int):=congrArg Int.ofNat (ag ..)
 have hg8:(L1.upd j { f with np:=f.np+(i4 (PyData.tuple (pk.map QT)):Nat) }).gr=iu k pk.length (cM k L.gr):=by
  rw[FT P7.S.keys hj,hkey,hgr,hlenD]
 generalize hL2:L1.upd j { f with np:=f.np+(i4 (PyData.tuple (pk.map QT)):Nat) }=L2 at P8 hg8
 have hx2:L2.x=L.x:=P8.same.x
 have dz:∀(n:Nat) (d:PQ),(pk.map QT)[n]? = some d->∃z,pk[n]? = some z/\d=.int z:=fun n d e=>by
  rw[bK]at e
  cases q:pk[n]? with
  | none=>rw[q]at e;cases e
  | some z=>rw[q]at e;exact⟨z,rfl,(QH e).symm⟩
 -- for pred in predecessors
 refine PS (wpAny_For (dN P8.C (fn (i:=2) rfl) d3 rfl fun v rv=>sD P8.C.ok (.of rv) fun it s₉ k9 hi=>?_) fun U=>rfl)
 refine FU wf P8 k9 (hi.mono fun U=>rv) hsto (fn (i:=4) rfl) (stor_of' _ (by simp[iw])) (fun ρ=>ρ.getD 0 .un=.val (.ref L.x)/\ρ.getD 1 .un=.dat (.int k))
  (fun n L'=>L'.x=L.x/\L'.gr=(pk.take n).foldl (fun g p=>fM p k (cM p g)) (iu k pk.length (cM k L.gr))/\gs L'.gr (1+2 * n)) ⟨rfl,rfl⟩ ⟨hx2,by simpa using hg8,by rw[hg8];exact FV (yH g0)⟩
  (fun ρ y h=>⟨(mz (by decide)).trans h.1,(mz (by decide)).trans h.2⟩) (by rw[P8.C.len];decide) (fun n d Ob Lb ρb sb Qb Eb hd Pb hRP hdat hJ hk=>?_) (fun s' Oe Le ρe Pe hRPe hJe=>?_)
 ·refine x12 (dz n d hd) fun z hz e2=>?_;subst e2
  refine dl hJ fun hxb hgb hsb=>?_
  have hn8:n<8:=by
   have:=(fU.mp hz).1
   lia
  have hib:=yI hsb
  refine PS (Qn (yF wf I.toSI Pb.C Pb.hO Pb.S (mx hroom (by decide):A.depth+1+20<1000) (by lia) (fn (i:=0) rfl) (fn (i:=4) rfl) d1 d5 (by rw[hxb];exact hRP.1) hdat hl2 fun v sc' Lc jc fc GI=>?_) rfl rfl)
  show PM _ _ (QJ (.Name mS (hY 19)) env v) _ _ sc'
  obtain⟨rfl,hjc,hkeyc,hgrc⟩:v=.ref fc.a/\Lc.inf[jc]? = some fc/\fc.key=z/\Lc.gr=cM z Lb.gr:=⟨GI.val,GI.at_,GI.key,GI.gr⟩
  have hxc:Lc.x=Lb.x:=GI.same.x
  refine(Pb.got wf GI).store (y:=.val (.ref fc.a)) wf hsto (fn (i:=5) rfl) (stor_of' _ (by simp[iw])) rfl fun sd Pd=>?_
  have hfmc:fc∈Lc.inf:=aG hjc
  have hlenb:5<ρb.length:=by rw[Pb.C.len];decide
  have hgsc:gs Lc.gr (1+2 * n+1):=by rw[hgrc];exact yH hsb
  refine PS (RN ?_ hint rfl)
  refine Rp rfl (io rfl) hl3 (gQ Pd.C (fn (i:=5) rfl) d6 (by rw[dJ,if_pos ⟨rfl,hlenb⟩]) (yr (Pd.C.base.inK wf) I.N.ni I.N.sS Pd.S hfmc ?_))
  have Pe:=Pd.keeps wf (ay sd (sd.toks+1))
  obtain⟨_,_,vsl,nsl,hlsl,_⟩:=Pe.S.info fc hfmc
  refine⟨"list", "list.append",Rh,Se,Sg,hlsl.isList.typeIs,(fun b e=>by cases e;exact⟨_,hlsl,rfl⟩),?_⟩
  refine QD rfl (Qo (Qh (dN Pe.C (fn (i:=1) rfl) d2 ((mz (by decide)).trans hRP.2) fun u ru=>Qc ?_)))
  refine x11 (gd ru) fun tu e1=>?_;subst e1
  refine FN Pe.S hjc (by have:=(yI hgsc).2 fc hfmc;lia) fun h' hsb' Sf=>?_
  refine Qa ?_
  have Pf:=Pe.upd (t:=sd.toks+1) wf ((mM hfmc).2.2) hsb'.extBut Sf (yD hjc rfl) ⟨rfl,rfl,rfl,rfl,rfl,rfl⟩
  refine hk _ _ _ _ Pf (fun b q=>.inl q) (fun b q=>?_) ⟨(mz (by decide)).trans hRP.1,(mz (by decide)).trans hRP.2⟩ ⟨by show Lc.x=_;rw[hxc,hxb],?_,?_⟩
  ·rcases q with q | q
   ·exact .inl q
   ·exact(GI.new b q).imp (Pb.hO b) id
  ·rw[yC Pe.S.keys hjc,hkeyc,hgrc,hgb,List.take_add_one,hz,Option.toList_some,List.foldl_append]
   rfl
  ·rw[yC Pe.S.keys hjc,show 1+2 * (n+1)=1+2 * n+1+1 by lia]
   exact FW hgsc
 ·refine dl hJe fun hxe hge U=>?_
  show PM _ _ (QG [] env) _ _ _
  refine Qa (hnx _ ⟨rfl,Le,Pe.S,Pe.same,?_,?_,fun b hb=>?_⟩)
  ·rw[hge,ag,wh];rfl
  ·have k2:KM (fun b=>b∈L.addrs\/aU env b) s s':=(KM.of k0).trans Pe.km
   obtain⟨h1,t1,rfl,k3,e3⟩:=k2
   exact⟨h1,t1,rfl,fun b o nb e=>k3 b o (fun q=>q.elim nb fun q=>by rw[iq k0 (hSt b q)]at e;cases e) e,e3⟩
  ·exact(Pe.new b hb).imp id fun q=>iq k0 q
end
noncomputable def jS:Str:=ofString "graph"
noncomputable def mT:List Str:=[aB,jS,az,jg]
noncomputable def yJ(P:Nat->Pos)(u1:List PW):List PW:=[.Assign [.Attribute (.Name aB (P 0)) (ofString "_node2info") (P 1)] (.Dict [] [] (P 2)) (P 3),.Assign [.Attribute (.Name aB (P 4)) (ofString "_ready_nodes") (P 5)] (.Constant .none 0 (P 6)) (P 7),.Assign [.Attribute (.Name aB (P 8)) (ofString "_npassedout") (P 9)] (.Constant (.int 0) 0 (P 10)) (P 11),.Assign [.Attribute (.Name aB (P 12)) (ofString "_nfinished") (P 13)] (.Constant (.int 0) 0 (P 14)) (P 15),
 .If (.Compare (.Name jS (P 16)) [.IsNot] [.Constant .none 0 (P 17)] (P 18)) u1 [] (P 19)]
inductive isTSInit(b:List PW):Prop where
 | mk (h1:b=yJ CX Df):isTSInit b
structure TInfo(G:Glo)(fd:Qm)(body:List PW):Prop where
 ts:eM G.K TS=true
 init:findIn G.K (.ref TS) "__init__" = some (some (.ref fT))
 isfn:typeIn G.K (.ref fT)=some (.type "function")
 FI:FnInfo G fT fd body [aB,jS] mT
 bind:∀(s:PL),G.K.In s.heap->∀v,BindsTo s fd ⟨[v],[]⟩ ([aB,jS].zip [v,.none])
 bd:isTSInit body
section
variable{G:Glo}{env:Env}{sc:Scope}{ctx:List (Option Str)}{A:P0}{O:PP->Prop}{ρ:List SV}{s s':PL}{E:PN->PL->Prop}
theorem FZ(nm:Str)(hsh:Int)(key v:PN)(es:List RO):(putL nm hsh key v es).length<=es.length+1:=by
 induction es with
 | nil=>exact aN _
 | cons e r ih =>
  unfold putL
  split
  ·simp
  ·simpa using ih
theorem kO(m:Nat)(h:es.length<=m):(putL nm hsh key v es).length<=m+1 :=
 aa (FZ ..) (qO h)
theorem pU{v:PN}{Q:Unit->PL->Prop}(wf:G.Wf)(hc:eM G.K TS=true)(hn:nm∈gk)(C:Cond G env sc ctx A O (fun U=>none) ρ s)(hx:s.heap.get? x=some (Q6 TS dx))(hdx:s.heap.get? dx=some (RD es n))
 (hxd:x≠dx) (hdO:O dx) (hdS:¬aU env dx) (hl:(getL nm es).isSome=true) (hz:es.length<=999)
 (h:∀s' hs tk m,KM (· = dx) s s'->Cond G env sc ctx A O (fun U=>none) ρ s'->s'.heap.get? x=some (Q6 TS dx)->s'.heap.get? dx=some (RD (putL nm hs (.str nm tk) v es) m)->Q () s'):PM (PO G.prog G.w) A (setAttr (.ref x) nm v) Q E s:=by
 refine gE (to hc hn) fun f1 f2 f3 f4 f5 f6=>?_
 have I:InstAt s.heap x (Q6 TS dx) TS (some (RD es n)):=⟨hx,rfl,rfl,hdx⟩
 refine ym (C.base.inK wf) I rfl f5 f6 f3 f4 hl hz fun h' hsb hd=>?_
 have k:KM (· = dx) s { s with heap:=h',toks:=s.toks+2 }:=KM.chg hsb.extBut ⟨_,hd⟩ rfl
 exact h _ _ _ _ k (C.outer wf k (fun b q=>q▸hdO) fun b q=>q▸hdS) (hsb.extBut _ _ hxd hx) hd
theorem F0(wf:G.Wf)(N:TInfo G fd body)(ok:Okay A O s)(B:G.Base O s.heap)(hroom:A.depth+10<1000) :
 PM (PO G.prog G.w) A (call (.ref TS) []) (fun v s'=>∃L,v=.ref L.x/\PY s s'/\(∀b∈L.addrs,s.heap.get? b=none)/\SorAt G.prog G.w L s'.heap/\L.inf=[]/\L.rd=none/\L.po=0/\L.fi=0) E s:=by
 have X:=B.inK wf
 obtain⟨h,g,d,tk,os⟩:=s
 have hmk:makesIn G.K TS=true:=by
  have:=N.ts;unfold eM at this;simp only[di]at this;exact this.1.1.1.1
 refine Q5 (make_core (makes_of X hmk) (looks_findIn X N.init) (fun self=>bind_fn X self N.isfn) (.inl rfl) ?_)
 generalize hx:h.objs.size+1=x
 have hdx:((h.push QR).push (Q6 TS h.objs.size)).get? h.objs.size=some QR:=PX _ (PZ _ rfl)
 have hxx:((h.push QR).push (Q6 TS h.objs.size)).get? x=some (Q6 TS h.objs.size):=by
  have:((h.push QR).push (Q6 TS h.objs.size)).get? (h.push QR).objs.size=some (Q6 TS h.objs.size):=PZ _ rfl
  rw[QF]at this
  rw[<- hx];exact this
 generalize hdd:h.objs.size=dx at hdx hxx hx ⊢
 generalize hh2:(h.push QR).push (Q6 TS dx)=h2 at hdx hxx ⊢
 have hxd:x≠dx:=by rw[<- hx];exact Nat.succ_ne_self _
 have k02:PY ⟨h,g,d,tk,os⟩ ⟨h2,g,d,tk,os⟩:=⟨h2,tk,rfl,fun b o e=>hh2▸PX _ (PX _ e)⟩
 have fresh:∀b,@LE.le Nat _ dx b->h.get? b=none:=fun b hb=>by
  cases e:h.get? b with
  | none=>rfl
  | some o=>have:=Qe e;rw[hdd]at this;exact absurd this (c5.mpr hb)
 have hx0:h.get? x=none:=fresh x (by rw[<- hx];exact fV _)
 have hd0:h.get? dx=none:=fresh dx (aN _)
 have ok2:Okay A (fun b=>O b\/b=dx) ⟨h2,g,d,tk,os⟩:=⟨ok.hok.keeps k02,fun b hb q=>q.elim (ok.hno b hb) (fun z=>by
  refine x11 (ok.hok.there b hb) fun o e=>?_
  rw[z]at e
  have e':h.get? dx=some o:=e
  rw[hd0]at e';cases e'),fun b q=>by
  rcases q with q | rfl
  ·refine x11 (ok.obs b q) fun o e=>?_;exact⟨o,am k02 b o e⟩
  ·exact⟨_,hdx⟩⟩
 have B2:G.Base (fun b=>O b\/b=dx) h2:=⟨fun b o e=>am k02 b o (B.kp b o e),fun b q=>by
  rcases q with q | rfl
  ·exact B.off b q
  ·cases e:G.hB.get? b with
   | none=>rfl
   | some o=>have:h.get? b=some o:=B.kp b o e;rw[hd0]at this;cases this⟩
 refine yA (s:=⟨h2,g,d,tk,os⟩) (s':=⟨h2,g,d,tk,os⟩) (O:=fun b=>O b\/b=dx) (vs:=[.ref x,.none]) (ys:=[.val (.ref x),.dat .none]) (A:=A.under (.builtin "type.__call__" ⟨[.ref TS],[]⟩)) wf N.FI B2 ⟨ok2.hok,ok2.hno,ok2.obs⟩ B2 (fun i v y hv hy=>?_) rfl rfl ?_ (fun A Q E q=>N.bind ⟨h2,g,d,tk,os⟩ (B2.inK wf) (.ref x) _ A E Q q) fun env O' s₁ k1 hO hO2 hSt hsto C E' Qf hret hnx=>?_
 ·match i with
  | 0=>simp at hv hy;subst hv hy;exact .inr rfl
  | 1=>simp at hv hy;subst hv hy;exact .inl ⟨_,rfl,.none⟩
  | n+2=>simp at hv
 ·rw[depth_under_kw];lia
 ·have bd:=N.bd
  obtain⟨hb⟩:=bd
  rw[hb]
  unfold yJ
  have hds:¬aU env dx:=fun q=>by have:=hSt dx q;rw[show(⟨h2,g,d,tk,os⟩:PL).heap.get? dx=h2.get? dx from rfl,hdx]at this;cases this
  have hdO:O' dx:=hO dx (.inr rfl)
  have hself:(mT.map some)[0]? = some (some aB):=rfl
  have hgr:(mT.map some)[1]? = some (some jS):=rfl
  have db1:(aB==ofString "__debug__")=false:=by decide +kernel
  have db2:(jS==ofString "__debug__")=false:=by decide +kernel
  have hr0:(cR mT [.val (.ref x),.dat .none]).getD 0 .un=.val (.ref x):=rfl
  have hr1:(cR mT [.val (.ref x),.dat .none]).getD 1 .un=.dat .none:=rfl
  have kf:∀ {s s':PL},PY ⟨h,g,d,tk,os⟩ s->KM (· = dx) s s'->PY ⟨h,g,d,tk,os⟩ s':=fun a b=>KM.keeps a b fun c q=>by
   have q:c=dx:=q
   rw[q];exact hd0
  have k01:=aX k02 k1
  refine PS (jf (sc:=fd.scope) (O:=O') (ω:=fun U=>none) rfl hself db1 hr0 ?_)
  rw[eval_Dict_empty]
  refine PK (Ql ?_)
  unfold newDict
  refine Q2 ?_ (by size_fits)
  have kd:PY s₁ { s₁ with heap:=s₁.heap.push { cls:=.type "dict",data:=.dict #[] } }:=bL _
  refine⟨C.keeps wf kd,pU wf N.ts (by simp[gk]) (C.keeps wf kd) (am kd _ _ (am k1 _ _ hxx)) (es:=[]) (n:=0) (am kd _ _ (am k1 _ _ hdx)) hxd hdO hds rfl (by decide) fun s₂ hs1 tk1 m1 k2 C2 hx2 hd2=>?_⟩
  have hn2:s₁.heap.objs.size≠dx:=fun q=>by
   have:=Qe (am k1 _ _ hdx)
   rw[<- q]at this;exact bl _ this
  have hn2x:s₁.heap.objs.size≠x:=fun q=>by
   have:=Qe (am k1 _ _ hxx)
   rw[<- q]at this;exact bl _ this
  have hD1:({ s₁ with heap:=s₁.heap.push { cls:=.type "dict",data:=.dict #[] } }:PL).heap.DictOf (QU G.prog G.w) s₁.heap.objs.size []:=Heap.DictOf.new _
  have hD2:s₂.heap.DictOf (QU G.prog G.w) s₁.heap.objs.size []:=fy (fun o e=>k2.get _ o hn2 e) hD1
  have n20:h.get? s₁.heap.objs.size=none:=by
   cases e:h.get? s₁.heap.objs.size with
   | none=>rfl
   | some o=>exact absurd (Qe (am k01 _ _ e)) (bl _)
  refine PS (jf rfl hself db1 hr0 (Ra ⟨C2,pU wf N.ts (by simp[gk]) C2 hx2 hd2 hxd hdO hds rfl (aa (kO 0 (bx 0)) (by decide)) fun s₃ hs2 tk2 m2 k3 C3 hx3 hd3=>?_⟩))
  refine PS (jf rfl hself db1 hr0 (Re ⟨C3.keeps wf (ay _ _),pU wf N.ts (by simp[gk]) (C3.keeps wf (ay _ _)) hx3 hd3 hxd hdO hds rfl (aa (kO 1 (kO 0 (bx 0))) (by decide)) fun s₄ hs3 tk3 m3 k4 C4 hx4 hd4=>?_⟩))
  refine PS (jf rfl hself db1 hr0 (Re ⟨C4.keeps wf (ay _ _),pU wf N.ts (by simp[gk]) (C4.keeps wf (ay _ _)) hx4 hd4 hxd hdO hds rfl (aa (kO 2 (kO 1 (kO 0 (bx 0)))) (by decide)) fun s₅ hs4 tk4 m4 k5 C5 hx5 hd5=>?_⟩))
  refine PS (Rk (QA (dN C5 hgr db2 hr1 fun v rv=>Ra ?_) rfl))
  have hv:v=.none:=by cases rv;rfl
  subst hv
  refine isNot_none (Qp ?_)
  show PM _ _ (QG [] env) _ _ _
  refine Qa (Qa (hnx _ ⟨rfl,?_⟩))
  have K2:=kf (aX k01 kd) k2
  have K3:=kf K2 k3
  have K4:=kf (aX K3 (ay _ _)) k4
  have K5:=kf (aX K4 (ay _ _)) k5
  have hD5:s₅.heap.DictOf (QU G.prog G.w) s₁.heap.objs.size []:=fy (fun o e=>k5.get _ o hn2 (k4.get _ o hn2 (k3.get _ o hn2 e))) hD2
  refine⟨⟨x,dx,s₁.heap.objs.size,[],none,0,0⟩,rfl,K5,fun b hb=>?_,⟨hx5,⟨_,_,_,_,_,_,_,_,_,_,_,hd5⟩,hD5,fun f hf=>by simp at hf,fun r l e=>by simp at e,?_⟩,rfl,rfl,rfl,rfl⟩
  ·simp only[SLay.addrs,SLay.infAs,SLay.rdAs,List.flatMap_nil,dC,ae,cu,or_false]at hb
   rcases hb with rfl | rfl | rfl
   ·exact hx0
   ·exact hd0
   ·exact n20
  ·simp[SLay.addrs,SLay.infAs,SLay.rdAs,hxd,QE hn2,QE hn2x]
end
inductive ItRaw(prog:Qs)(w:Qq)(A:P0)(h₁ h₂:Qk)(it:PN)(its:List PN):Prop where
 | mk (I:PP) (fp wr:List PP) (P:Nat->PN->Prop) (St:Nat->Qk->Prop) (e:it=.ref I) (W:Walks prog w A I fp wr its.length P St) (st:St 0 h₂) (fe:∀b∈fp,∃o,h₂.get? b=some o) (wr':wr=[I]/\h₁.get? I=none)
  (i5:∀i h',St i h'->∃o T,h'.get? I=some o/\o.cls=.type T/\i5 T=true) (mem:I∈fp) (item:∀i v,P i v->its[i]? = some v):ItRaw prog w A h₁ h₂ it its
theorem F5{ρ:List SV}{i j:Nat}{y:SV}(h:j≠i):(ρ.set i y).getD j .un=ρ.getD j .un:=by
 rw[aj,aj,List.getElem?_set_ne (QE h)]
section
variable{G:Glo}{env:Env}{sc:Scope}{ctx:List (Option Str)}{A:P0}{O O':PP->Prop}{ω:PP->Option Nat}{ρ:List SV}{s s' s₀ s₁ s₂:PL}{E:PN->PL->Prop}{D:PP}{ds:List PQ}
theorem F7{elt iter:Expr}{tests:List Expr}{gens:List QK}{scope:Scope}{pos:Pos}{depth:Nat}{its:List PN}{I:PP}{fp wr:List PP}{P:Nat->PN->Prop}{St:Nat->Qk->Prop}{R:Result->PL->Prop}{i0:Nat}{x0:Str}{p0:Pos}
 {T:PN->Bool} {f:PN->List PQ} (wf:G.Wf) (hz:gO gens=true) (hg:gens[depth]? = some ⟨.Name x0 p0,iter,tests,0⟩)
 (C:Cond G env sc ctx A (fun b=>O b\/b=I) ω ρ s₁) (hω:∀b i,ω b=some i->O b) (hfr:∀b,bb env b->O b) (hfc:∀x c,env.cells.lookup x=some c->O c) (hnI:¬O I)
 (hD:O D) (hDF:¬bb env D) (acc:AccIs G (fun b=>O b\/b=I) D s₁.heap ds)
 (W:Walks G.prog G.w A I fp wr its.length P St) (hst:St 0 s₁.heap) (hfM:∀b∈fp,¬MS env D b) (hwr:wr=[I])
 (htame:∀i h',St i h'->∃o T,h'.get? I=some o/\o.cls=.type T/\i5 T=true)
 (hit:∀i v,P i v->its[i]? = some v) {h₀:Qk} (k0:∀b o,h₀.get? b=some o->s₁.heap.get? b=some o) (hM0:∀b,MS env D b\/b=I->h₀.get? b=none)
 (hsl:ρ.getD i0 .un=.un) (hsto:bu env ctx i0) (htgt:ctx[i0]? = some (some x0)) (hkx:aT sc x0=true)
 (htest:∀d∈its,∀O' s E,(∀b o,h₀.get? b=some o->s.heap.get? b=some o)->Cond G env sc ctx A O' ω (ρ.set i0 (.val d)) s ->
  PM (PO G.prog G.w) A (forIn tests true fun c r=>if r=true then do let ok <- isTrue c env (Qg c env);pure (Qw ok)else pure (Qw r)) (fun b s'=>b=T d/\PY s s') E s)
 (hbody:∀d∈its,T d=true->∀O' ds' s k Q E,(∀b o,h₀.get? b=some o->s.heap.get? b=some o)->Cond G env sc ctx A O' ω (ρ.set i0 (.val d)) s->O' D->AccIs G O' D s.heap ds'->ds'.length+(f d).length<=16777216 ->
  (∀s',KM (MS env D) s s'->Cond G env sc ctx A O' ω (ρ.set i0 (.val d)) s'->AccIs G O' D s'.heap (ds'++f d)->PM (PO G.prog G.w) A k Q E s') ->
  PM (PO G.prog G.w) A (il elt gens scope pos depth (.ref D) env k) Q E s)
 (hlen:ds.length+(its.flatMap fun d=>if T d=true then f d else[]).length<=16777216)
 (hR:∀s',KI (MS env D) I s₁ s'->Cond G env sc ctx A O ω ρ s'->AccIs G O D s'.heap (ds++its.flatMap fun d=>if T d=true then f d else[])->R (.ok .next) s') :
 QW (PO G.prog G.w) A (.compLoop (.ListComp elt gens scope pos) depth (.ref I) (.ref D) env) R s₁:=by
 subst hwr
 have hIf:I∉hfp A:=fun q=>C.ok.hno I q (.inr rfl)
 have hDI:D≠I:=fun q=>hnI (q▸hD)
 have hMO:∀b,MS env D b->O b:=fun b q=>q.elim (hfr b) fun z=>z▸hD
 generalize hg':(fun d=>if T d=true then f d else[])=g at hlen hR
 refine codeAny_loop rfl (fun n s=>∃i,i<=its.length/\n=its.length+1 - i/\St i s.heap/\Cond G env sc ctx A (fun b=>O b\/b=I) ω ρ s/\AccIs G (fun b=>O b\/b=I) D s.heap (ds++(its.take i).flatMap g) /\
  KM (fun b=>MS env D b\/b=I) s₁ s) ?_ (its.length+1) ⟨0,bx _,rfl,hst,C,by simpa using acc,KM.of (bz _)⟩
 rintro n s ⟨i,hi,rfl,hst,C1,a1,k1⟩
 show PM _ A ((compTurn (.ListComp elt gens scope pos) depth (.ref I) (.ref D) env).onRaise (fun x=>do noteFrame x env;theTreesLotGoes x)) _ _ s
 refine wpAny_noted ?_
 rw[xH hz hg]
 by_cases hlt:i<its.length
 ·refine PK (Ql (PK (W.item i _ _ _ hlt hst fun v h₂ t₂ hP hst₂ hk₂=>?_)))
  refine x23 (htame (i+1) h₂ hst₂) fun oI TI hoI hcI htI=>?_
  refine PK (mq hoI hcI htI ?_)
  have k2:KM (· = I) s { s with heap:=h₂,toks:=t₂ }:=⟨h₂,t₂,rfl,fun b o n e=>hk₂ b o (by simpa using n) e,fun b o e=>if q:b=I then q▸⟨oI,hoI⟩else⟨o,hk₂ b o (by simpa using q) e⟩⟩
  have C2:=C1.side wf hω hfr hfc hnI (.inr rfl) k2
  have hd:=hit i v hP
  have hmem:v∈its:=aG hd
  have a2:AccIs G (fun b=>O b\/b=I) D h₂ (ds++(its.take i).flatMap g):=a1.km k2 hDI fun b q=>.inr q
  refine PK (Qx (eq (y:=.val v) wf hsto C2 htgt hkx rfl fun s3 k3 C3=>?_))
  have ne0:∀b o,h₀.get? b=some o->¬(MS env D b\/b=I):=fun b o e q=>by rw[hM0 b q]at e;cases e
  have g3:∀b o,h₀.get? b=some o->s3.heap.get? b=some o:=fun b o e=>k3.get b o (fun q=>ne0 b o e (.inl (.inl q))) (k2.get b o (fun q=>ne0 b o e (.inr q)) (k1.get b o (ne0 b o e) (k0 b o e)))
  have a3:=a2.km k3 hDF fun b q=>.inl (hfr b q)
  refine PK (PR (htest v hmem _ s3 _ g3 C3) (fun b s4 h4=>?_) fun U U x=>x)
  refine al h4 fun e0 k4=>?_;subst e0
  have C4:=C3.keeps wf k4
  have a4:=a3.keeps k4
  have e1:its.take (i+1)=its.take i++[v]:=by rw[List.take_add_one,hd];rfl
  have e2:(its.take (i+1)).flatMap g=(its.take i).flatMap g++g v:=by rw[e1,dB];simp
  have hwk:∀j,ρ.getD j .un=.un\/ρ.getD j .un=(ρ.set i0 (.val v)).getD j .un:=fun j=>if q:j=i0 then .inl (q▸hsl)else .inr (F5 q).symm
  have fin:∀s5,KM (MS env D) s4 s5->Cond G env sc ctx A (fun b=>O b\/b=I) ω (ρ.set i0 (.val v)) s5->AccIs G (fun b=>O b\/b=I) D s5.heap (ds++(its.take i).flatMap g++g v) ->
   ∃m,m<its.length+1 - i/\∃i,i<=its.length/\m=its.length+1 - i/\St i s5.heap/\Cond G env sc ctx A (fun b=>O b\/b=I) ω ρ s5/\AccIs G (fun b=>O b\/b=I) D s5.heap (ds++(its.take i).flatMap g)/\KM (fun b=>MS env D b\/b=I) s₁ s5:=by
   intro s5 k5 C5 a5
   refine⟨its.length+1 - (i+1),Nat.sub_lt_sub_left (ei hlt) (qN i),i+1,hlt,rfl,?_,C5.weak (Pm ..).symm hwk,by rw[e2,<- CD];exact a5,?_⟩
   ·refine W.frame _ _ _ hst₂ fun b hb o e=>?_
    exact k5.get b o (hfM b hb) (am k4 b o (k3.get b o (fun q=>hfM b hb (.inl q)) e))
   ·exact((k1.trans (k2.mono fun b q=>.inr q)).trans ((k3.mono fun b q=>.inl (.inl q)).trans (KM.of k4))).trans (k5.mono fun b q=>.inl q)
  cases hT:T v with
  | false =>
   rw[if_neg Pl]
   have hgd:g v=[]:=by rw[<- hg'];simp[hT]
   exact PU ⟨rfl,fin s4 (KM.of (bz _)) C4 (by rw[hgd,dC];exact a4)⟩
  | true =>
   rw[if_pos rfl]
   have hgd:g v=f v:=by rw[<- hg'];simp[hT]
   refine hbody v hmem hT _ _ s4 _ _ _ (fun b o e=>am k4 b o (g3 b o e)) C4 (.inl hD) a4 ?_ fun s5 k5 C5 a5=>PU ⟨rfl,fin s5 k5 C5 (by rw[hgd];exact a5)⟩
   have:((its.take (i+1)).flatMap g).length<=(its.flatMap g).length:=by
    conv=>rhs;rw[<- Py (i+1) its,dB,bj]
    exact oO ..
   rw[e2,hgd,bj]at this
   rw[bj];exact aa (cH (o5 ..)) (aa (fa this _) hlen)
 ·have hin:i=its.length:=BN hi (c5.mp hlt)
  subst hin
  refine PK (Ql (PK (W.done _ _ _ hst fun h₂ t₂ hk₂=>PU ?_)))
  have hk:∀b o,b≠I->s.heap.get? b=some o->h₂.get? b=some o:=fun b o n e=>hk₂ b o (by simpa using n) e
  obtain⟨h2,t2,e12,g12,th12⟩:=k1
  subst e12
  refine hR _ ⟨h₂,t₂,rfl,fun b o n nI e=>?_,fun b o nI e=>?_⟩ (C1.shrink wf (fun b q=>.inl q) hω hfr hfc hnI (.inr rfl) hIf hk) ?_
  ·exact hk b o nI (g12 b o (fun q=>q.elim n nI) e)
  ·refine x11 (th12 b o e) fun o' e'=>?_
   exact⟨o',hk b o' nI e'⟩
  ·rw[wh]at a1
   obtain⟨vs,n,l1,l2⟩:=a1
   exact⟨vs,n,hk _ _ hDI l1,l2.mono (fun b o n e=>hk b o (fun q=>n (.inr q)) e) fun b o U q=>.inl q⟩
theorem F8{use:Option (PN->Sem Unit)}{pos':Pos}{Q:PN->PL->Prop}{elt iter:Expr}{tests:List Expr}{gs:List QK}{scope:Scope}{pos:Pos}{i0:Nat}{x0:Str}{p0:Pos}{its:List PN}{vars:List Str}{T:PN->Bool}{f:PN->List PQ}
 (wf:G.Wf) (K:Cond G env sc ctx A O ω ρ s₀) (hz:gO (⟨.Name x0 p0,iter,tests,0⟩::gs)=true) (hns:fD iter=true) (so:SOk sc scope vars)
 (hI:∀E,PM (PO G.prog G.w) A (Qg iter env) (fun x s₁=>PY s₀ s₁/\∀E,PM (PO G.prog G.w) A (pyIter x) (fun it s₂=>PY s₁ s₂/\ItRaw G.prog G.w A s₁.heap s₂.heap it its) E s₁) E s₀)
 (hnew:ctx.length<=i0) (htgt:(cK scope ctx vars)[i0]? = some (some x0)) (hkx:aT (cC sc scope) x0=true)
 (htest:∀d∈its,∀env' O' s E,(∀b o,s₀.heap.get? b=some o->s.heap.get? b=some o)->Cond G env' (cC sc scope) (cK scope ctx vars) A O' ω ((ρ++ba vars.length SV.un).set i0 (.val d)) s ->
  PM (PO G.prog G.w) A (forIn tests true fun c r=>if r=true then do let ok <- isTrue c env' (Qg c env');pure (Qw ok)else pure (Qw r)) (fun b s'=>b=T d/\PY s s') E s)
 (hbody:∀d∈its,T d=true->∀env' D O' ds' s k Q E,(∀i,ctx.length<=i->bu env' (cK scope ctx vars) i)->(∀b o,s₀.heap.get? b=some o->s.heap.get? b=some o)->Cond G env' (cC sc scope) (cK scope ctx vars) A O' ω ((ρ++ba vars.length SV.un).set i0 (.val d)) s ->
  O' D->¬bb env' D->(∀i,ω D≠some i)->AccIs G O' D s.heap ds'->ds'.length+(f d).length<=16777216 ->
  (∀s',KM (MS env' D) s s'->Cond G env' (cC sc scope) (cK scope ctx vars) A O' ω ((ρ++ba vars.length SV.un).set i0 (.val d)) s'->AccIs G O' D s'.heap (ds'++f d)->PM (PO G.prog G.w) A k Q E s') ->
  PM (PO G.prog G.w) A (il elt (⟨.Name x0 p0,iter,tests,0⟩::gs) scope pos 0 (.ref D) env' k) Q E s)
 (hlen:(its.flatMap fun d=>if T d=true then f d else[]).length<=16777216)
 (hfin:∀(D C:PP) s' m,PY s₀ s'->s₀.heap.get? C=none->s₀.heap.get? D=none->D≠C->s'.heap.Ns C m->Rep (fun b=>O b\/b=C) s'.heap (.ref D) (.list (its.flatMap fun d=>if T d=true then f d else[]))->compPost (PO G.prog G.w) A E use Q (.ref D) C (.ok .next) s') :
 PM (PO G.prog G.w) A (comprehension (.ListComp elt (⟨.Name x0 p0,iter,tests,0⟩::gs) scope pos) scope env pos' (newList []) false (Qg iter env) use) Q E s₀:=by
 have hclos:closureFor scope env=pure (clo env.cells scope.names).reverse:=xM fun p hp hk=>by
  obtain⟨val,F,V⟩:=K.vars
  obtain⟨x,kd⟩:=p
  dsimp only at hk;subst hk
  refine x12 (F.cel x ((so.free x hp).1.imp (fun q=>(K.eo.kindOf x).trans q) fun q=>(K.eo.kindOf x).trans q)) fun c e U=>?_
  exact rJ.mpr ⟨c,e⟩
 refine wpAny_comprehension_free (use:=use) (g:=⟨.Name x0 p0,iter,tests,0⟩) (gs:=gs) rfl (fun x=>pB hns) hclos so.kind (fun x hx hl=>by
  obtain⟨y,kd⟩:=x
  dsimp only at hl ⊢;subst hl
  exact jI so.nd hx) (PR (hI E) (fun x s₁ h₁=>?_) fun U U e=>e)
 refine al h₁ fun k01 h₁=>?_
 refine PR (h₁ E) (fun it s₂ h₂=>?_) fun U U e=>e
 obtain⟨k12,I,fp,wr,P,St,rfl,W,hst,hfp,hwr,htame,hIfp,hit⟩:=h₂
 have K1:=K.keeps wf k01
 refine Q2 (xO ?_) (by size_fits)
 refine x22 k12 fun h2 t2 e2 g12=>?_;subst e2
 dsimp only at hst hfp htame hit ⊢
 replace hfp:∀b∈fp,b<h2.objs.size:=fun b hb=>(hfp b hb).elim fun U e=>Qe e
 have hIlt:I<h2.objs.size:=hfp I hIfp
 generalize hh3:h2.push { cls:=.type "list",dict:=none,data:=.seq ([]:List PN).toArray }=h3
 have hsz3:h3.objs.size=h2.objs.size+1:=by rw[<- hh3,QF]
 have g23:∀b o,h2.get? b=some o->h3.get? b=some o:=fun b o e=>hh3▸PX _ e
 have hD3:IsL h3 h2.objs.size #[] 0:=hh3▸PZ _ rfl
 generalize hh4:Sd (h3.push { cls:=.type "dict",data:=.dict #[] }) scope.names=h4
 have g34:∀b o,h3.get? b=some o->h4.get? b=some o:=fun b o e=>hh4▸Rr _ _ b o (PX _ e)
 have g14:∀b o,s₁.heap.get? b=some o->h4.get? b=some o:=fun b o e=>g34 b o (g23 b o (g12 b o e))
 have old:∀b o,s₁.heap.get? b=some o->b<h2.objs.size:=fun b o e=>Qe (g12 b o e)
 have fresh:∀b,@LE.le Nat _ h2.objs.size b->s₁.heap.get? b=none:=fun b hb=>by
  cases e:s₁.heap.get? b with
  | none=>rfl
  | some o=>exact absurd (old b o e) (c5.mpr hb)
 let Ob:PP->Prop:=fun b=>O b\/b=h2.objs.size\/b=h3.objs.size\/∃x,(x,b)∈c9 (h3.objs.size+1) scope.names
 have hOb:∀b,Ob b->O b\/@LE.le Nat _ h2.objs.size b:=fun b q=>by
  rcases q with q | rfl | rfl | ⟨x,q⟩
  ·exact .inl q
  ·exact .inr (aN _)
  ·exact .inr (by rw[hsz3];exact fV _)
  ·have:=(fk q).1
   rw[hsz3]at this
   exact .inr (lX (lX this))
 have hOb4:∀b,Ob b->∃o,h4.get? b=some o:=fun b q=>by
  rcases q with q | rfl | rfl | ⟨x,q⟩
  ·refine x11 (K1.ok.obs b q) fun o e=>?_;exact⟨o,g14 b o e⟩
  ·exact⟨_,g34 _ _ hD3⟩
  ·exact⟨_,hh4▸Rr _ _ _ _ (PZ _ rfl)⟩
  ·refine x12 (sM scope.names (h3.push { cls:=.type "dict",data:=.dict #[] }) x b (by rw[QF];exact q)) fun o e U=>?_
   exact⟨o,hh4▸e⟩
 have hnI:¬Ob I:=fun q=>by
  rcases hOb I q with q | q
  ·refine x11 (K1.ok.obs I q) fun o e=>?_;rw[hwr.2]at e;cases e
  ·exact c5.mpr q hIlt
 have k13:PY s₁ { s₁ with heap:=h3,toks:=t2 }:=⟨h3,t2,rfl,fun b o e=>g23 b o (g12 b o e)⟩
 have C0:=pA (O':=Ob) (h₃:=h3) (t:=t2) wf K1 so rfl k13 (fun b q=>.inl q) (fun b q=>(hOb b q).imp id (fresh b)) (by rw[hh4];exact hOb4) (.inr (.inr (.inl rfl))) fun x c q=>.inr (.inr (.inr ⟨x,q⟩))
 have C1:=pA (O':=fun b=>Ob b\/b=I) (h₃:=h3) (t:=t2) wf K1 so rfl k13 (fun b q=>.inl (.inl q)) (fun b q=>by
  rcases q with q | rfl
  ·exact(hOb b q).imp id (fresh b)
  ·exact .inr hwr.2) (fun b q=>by
  rw[hh4]
  rcases q with q | rfl
  ·exact hOb4 b q
  ·refine x22 (htame 0 _ hst) fun o T e U=>?_
   exact⟨o,g34 _ _ (g23 _ _ e)⟩) (.inl (.inr (.inr (.inl rfl)))) fun x c q=>.inl (.inr (.inr (.inr ⟨x,q⟩)))
 rw[hh4]at C0 C1
 have hMSge:∀b,MS (gP scope h3.objs.size env) h2.objs.size b->@LE.le Nat _ h2.objs.size b:=fun b q=>by
  rcases q with(rfl | ⟨q,_⟩) | rfl
  ·show @LE.le Nat _ h2.objs.size h3.objs.size;rw[hsz3];exact fV _
  ·have q : @LT.lt Nat _ h3.objs.size b:=q
   rw[hsz3]at q;exact lX (Os q)
  ·exact aN _
 have hDF:¬bb (gP scope h3.objs.size env) h2.objs.size:=fun q=>by
  rcases q with q | ⟨q,_⟩
  ·have q:h2.objs.size=h3.objs.size:=q
   rw[hsz3]at q;exact dT (qN _) q
  ·have q : @LT.lt Nat _ h3.objs.size h2.objs.size:=q
   rw[hsz3]at q;exact c5.mpr (fV _) q
 have hDw:∀i,ω h2.objs.size≠some i:=fun i e=>by
  refine x11 (K1.ok.obs _ (K1.om _ i e).1) fun o q=>?_
  exact bl _ (old _ o q)
 have unAt:∀i,ctx.length<=i->(ρ++ba vars.length SV.un).getD i .un=.un:=fun i hi=>by
  rw[aj,gD (by rw[K.len];exact hi),vE]
  split<;>rfl
 have loop:QW (PO G.prog G.w) A (.compLoop (.ListComp elt (⟨.Name x0 p0,iter,tests,0⟩::gs) scope pos) 0 (.ref I) (.ref h2.objs.size) (gP scope h3.objs.size env))
  (compPost (PO G.prog G.w) A E use Q (.ref h2.objs.size) h3.objs.size) { s₁ with heap:=h4,toks:=t2 }:=by
  refine F7 (O:=Ob) (ds:=[]) wf hz rfl C1.1 (fun b i e=>(C0.1.om b i e).1) C0.1.fr C0.1.fc hnI (.inr (.inl rfl)) hDF ⟨#[],0,g34 _ _ hD3,.nil⟩
   W (W.frame _ _ _ hst fun b U o e=>g34 b o (g23 b o e)) (fun b hb q=>c5.mpr (hMSge b q) (hfp b hb)) hwr.1 htame
   hit (h₀:=s₁.heap) g14 (fun b q=>q.elim (fun z=>fresh b (hMSge b z)) fun z=>z▸hwr.2) (unAt i0 hnew) (C0.2 i0 hnew) htgt hkx
   (fun d hd O' s E g C=>htest d hd _ O' s E (fun b o e=>g b o (am k01 b o e)) C) (fun d hd hT O' ds' s k Q E g C hD a hl hk=>hbody d hd hT _ _ O' ds' s k Q E C0.2 (fun b o e=>g b o (am k01 b o e)) C hD hDF hDw a hl hk) (by simpa using hlen) ?_
  intro s' ki C a
  obtain⟨val,F,V⟩:=C.vars
  refine x12 F.loc fun m hm U=>?_
  obtain⟨vs,n,l1,l2⟩:=a
  obtain⟨h5,t5,rfl,g45,_⟩:=ki
  have hDC:h2.objs.size≠h3.objs.size:=by rw[hsz3];exact dT (qN _)
  have kk:PY s₁ { s₁ with heap:=h5,toks:=t5 }:=⟨h5,t5,rfl,fun b o e=>by
   have hb:=old b o e
   refine g45 b o (fun q=>c5.mpr (hMSge b q) hb) (fun q=>?_) (g14 b o e)
   rw[q,hwr.2]at e;cases e⟩
  refine hfin h2.objs.size h3.objs.size _ m (aX k01 kk) ?_ ?_ hDC hm (.list (n:=n) (fun q=>?_) l1 ?_)
  ·cases e:s₀.heap.get? h3.objs.size with
   | none=>rfl
   | some o =>
    have:=old _ o (am k01 _ o e)
    rw[hsz3]at this
    exact absurd this (c5.mpr (fV _))
  ·cases e:s₀.heap.get? h2.objs.size with
   | none=>rfl
   | some o=>exact absurd (old _ o (am k01 _ o e)) (bl _)
  ·rcases q with q | q
   ·refine x11 (K1.ok.obs _ q) fun o e=>?_
    exact bl _ (old _ o e)
   ·exact hDC q
  ·rw[List.nil_append]at l2
   exact l2.mono (fun b o n e=>e) fun b o U q=>q.elim .inl fun q=>.inr (.inr (.inl q))
 exact sK rfl loop fun E=>W.self 0 _ _ _ (W.frame _ _ _ hst fun b U o e=>g34 b o (g23 b o e)) loop
end
section
variable{prog:Qs}{w:Qq}{K:Type}[DecidableEq K]{knd:KeyKind prog w K}{A:P0}{E:PN->PL->Prop}{s:PL}
theorem F9{Q:Option PN->PL->Prop}(hh:a8 A s.heap)(hne:it∉hfp A)(hit:s.heap.IsValIter it d i kvs.length ep)
 (hm:s.heap.DictAt knd d kvs ep) (hx:kvs[i]? = none)
 (hQ:∀h',Qy it s.heap h'->Q none { s with heap:=h' }):PM (PO prog w) A (pyNext (.ref it)) Q E s:=by
 refine x13 (id hit) fun o ho hc hd=>?_
 refine x26 (id hm) fun od es hod hcd hdd hk hp hn=>?_
 have hT:s.TypeIs (.ref it) "dict_valueiterator":=⟨o,ho,hc⟩
 unfold pyNext
 refine PK (RG (Q8 (name:=ofString "__next__") hT F.slot_dict_valueiterator_next
  (RC F.slot_dict_valueiterator_next hT F.entry_dict_valueiterator_next ?_ (F.args_dict_valueiterator_next_1 _))))
 refine PK (PU ?_)
 refine PK ?_
 refine PK ?_
 first | refine PK (wpAny_typeNameOfWhole_valiter hT (PU ?_)) | refine PK (wpAny_typeNameOf_valiter hT (PU ?_))
 refine PK (wpAny_fieldsOf ho hd ?_)
 have hown:Sr "dict_valueiterator" = false:=by decide
 rw[hown]
 show PM _ _ (if(Qd d==QB)=true then _ else _) _ _ s
 rw[if_neg (show ¬((Qd d==QB)=true)from Pl)]
 refine PK (PU ?_)
 refine PK (wpAny_dictEntries hod hdd ?_)
 have hsz:es.size=kvs.length:=by rw[<- hp.length];simp
 rw[if_neg (by rw[hsz];simp)]
 refine PK (PU ?_)
 refine PK (wpAny_dictEpoch hod hdd ?_)
 rw[if_neg (by simp)]
 refine PU ?_
 have hge:es.size<=i:=by rw[hsz];simpa using hx
 dsimp only
 rw[if_neg (show ¬((i:Int)<0)from Int.not_lt.mpr (rI i)),lV,Sm hge]
 refine PK ?_
 first | refine PK (wpAny_typeNameOfWhole_valiter hT (PU ?_)) | refine PK (wpAny_typeNameOf_valiter hT (PU ?_))
 show PM _ _ (setField (.ref it) 0 .none >>= _) _ _ s
 refine PK (Rj ho hd (by simp) ?_)
 exact kA (A':=A.in1) (hh.upd (mo hne)) fun h' hk=>hQ h' fun b o hb e=>hk b o ((Qr ..).extBut b o hb e)
theorem Ga{Q:Option PN->PL->Prop}(hh:a8 A s.heap)(hne:it∉hfp A)(hit:s.heap.IsKeyIter it d i kvs.length ep)
 (hm:s.heap.DictAt knd d kvs ep) (hx:kvs[i]? = none)
 (hQ:∀h',Qy it s.heap h'->Q none { s with heap:=h' }):PM (PO prog w) A (pyNext (.ref it)) Q E s:=by
 refine x13 (id hit) fun o ho hc hd=>?_
 refine x26 (id hm) fun od es hod hcd hdd hk hp hn=>?_
 have hT:s.TypeIs (.ref it) "dict_keyiterator":=⟨o,ho,hc⟩
 unfold pyNext
 refine PK (RG (Q8 (name:=ofString "__next__") hT F.slot_dict_keyiterator_next
  (RC F.slot_dict_keyiterator_next hT F.entry_dict_keyiterator_next ?_ (F.args_dict_keyiterator_next_1 _))))
 refine PK (PU ?_)
 refine PK ?_
 refine PK ?_
 first | refine PK (wpAny_typeNameOfWhole_keyiter hT (PU ?_)) | refine PK (wpAny_typeNameOf_keyiter hT (PU ?_))
 refine PK (wpAny_fieldsOf ho hd ?_)
 have hown:Sr "dict_keyiterator" = false:=by decide
 rw[hown]
 show PM _ _ (if(Qd d==QB)=true then _ else _) _ _ s
 rw[if_neg (show ¬((Qd d==QB)=true)from Pl)]
 refine PK (PU ?_)
 refine PK (wpAny_dictEntries hod hdd ?_)
 have hsz:es.size=kvs.length:=by rw[<- hp.length];simp
 rw[if_neg (by rw[hsz];simp)]
 refine PK (PU ?_)
 refine PK (wpAny_dictEpoch hod hdd ?_)
 rw[if_neg (by simp)]
 refine PU ?_
 have hge:es.size<=i:=by rw[hsz];simpa using hx
 dsimp only
 rw[if_neg (show ¬((i:Int)<0)from Int.not_lt.mpr (rI i)),lV,Sm hge]
 refine PK ?_
 first | refine PK (wpAny_typeNameOfWhole_keyiter hT (PU ?_)) | refine PK (wpAny_typeNameOf_keyiter hT (PU ?_))
 show PM _ _ (setField (.ref it) 0 .none >>= _) _ _ s
 refine PK (Rj ho hd (by simp) ?_)
 exact kA (A':=A.in1) (hh.upd (mo hne)) fun h' hk=>hQ h' fun b o hb e=>hk b o ((Qr ..).extBut b o hb e)
theorem Gb{h h':Qk}{a d:PP}{i n ep:Nat}(x:h.IsValIter a d i n ep)(e:∀o,h.get? a=some o->h'.get? a=some o):h'.IsValIter a d i n ep :=
 x.elim fun o ζ=>ζ.elim fun ho r=>⟨o,e _ ho,r⟩
theorem Gc{h h':Qk}{a d:PP}{i n ep:Nat}(x:h.IsKeyIter a d i n ep)(e:∀o,h.get? a=some o->h'.get? a=some o):h'.IsKeyIter a d i n ep :=
 x.elim fun o ζ=>ζ.elim fun ho r=>⟨o,e _ ho,r⟩
theorem mU{h h':Qk}{d:PP}{kvs:List (K × PN)}{ep:Nat}(x:h.DictAt knd d kvs ep)(e:∀o,h.get? d=some o->h'.get? d=some o):h'.DictAt knd d kvs ep :=
 x.elim fun o ζ=>ζ.elim fun es ζ=>ζ.elim fun ho r=>⟨o,es,e _ ho,r⟩
theorem Ge(I d:PP)(hne:d≠I)(hI:I∉hfp A)(kvs:List (K × PN))(ep:Nat) :
 Walks prog w A I (I::d::hfp A) [I] (kvs.map (·.2)).length (fun i v=>(kvs.map (·.2))[i]? = some v) (fun i h=>(h.IsValIter I d i kvs.length ep/\h.DictAt knd d kvs ep)/\a8 A h) where
 sub:=fun b hb=>by simp at hb;simp[hb]
 frame:=fun U U U st hk=>⟨⟨Gb st.1.1 fun o e=>hk I (by simp) o e,mU st.1.2 fun o e=>hk d (by simp) o e⟩,st.2.frame fun b hb o e=>hk b (by simp[hb]) o e⟩
 item:=fun i s Q E hi st hQ=>by
  rw[ag]at hi
  refine wpAny_pyNext_values_item st.1.1 st.1.2 (k:=(kvs[i]).1) (v:=(kvs[i]).2) (by simp[hi]) fun h' hit' hs'=>?_
  exact hQ _ h' s.toks (by simp[hi]) ⟨⟨hit',mU st.1.2 fun o e=>hs'.extBut _ _ hne e⟩,st.2.at hI hs'.extBut⟩ fun b o hb e=>hs'.extBut b o (fun h=>hb (by simp[h])) e
 done:=fun s Q E st hQ=>F9 st.2 hI st.1.1 st.1.2 (by simp) fun h' he'=>hQ h' s.toks fun b o hb e=>he' b o (fun h=>hb (by simp[h])) e
 self:=fun U U U U st hQ=>wpAny_pyIter_valiter st.1.1 hQ
theorem Gf(I d:PP)(hne:d≠I)(hI:I∉hfp A)(kvs:List (K × PN))(ep:Nat) :
 Walks prog w A I (I::d::hfp A) [I] kvs.length (fun i v=>∃q,kvs[i]? = some q/\knd.is q.1 v=true) (fun i h=>(h.IsKeyIter I d i kvs.length ep/\h.DictAt knd d kvs ep)/\a8 A h) where
 sub:=fun b hb=>by simp at hb;simp[hb]
 frame:=fun U U U st hk=>⟨⟨Gc st.1.1 fun o e=>hk I (by simp) o e,mU st.1.2 fun o e=>hk d (by simp) o e⟩,st.2.frame fun b hb o e=>hk b (by simp[hb]) o e⟩
 item:=fun i s Q E hi st hQ=>by
  refine wpAny_pyNext_dict_item st.1.1 st.1.2 (k:=(kvs[i]).1) (v:=(kvs[i]).2) (by simp[hi]) fun key h' hkey hit' hs'=>?_
  exact hQ _ h' s.toks ⟨kvs[i],by simp[hi],hkey⟩ ⟨⟨hit',mU st.1.2 fun o e=>hs'.extBut _ _ hne e⟩,st.2.at hI hs'.extBut⟩ fun b o hb e=>hs'.extBut b o (fun h=>hb (by simp[h])) e
 done:=fun s Q E st hQ=>Ga st.2 hI st.1.1 st.1.2 (by simp) fun h' he'=>hQ h' s.toks fun b o hb e=>he' b o (fun h=>hb (by simp[h])) e
 self:=fun U U U U st hQ=>wpAny_pyIter_keyiter st.1.1 hQ
end
section
variable{G:Glo}{env:Env}{sc:Scope}{ctx:List (Option Str)}{A:P0}{O:PP->Prop}{ρ:List SV}{s:PL}{E:PN->PL->Prop}{L:SLay}
theorem Gg{i:Nat}{x:Str}{p1 p2 ap cp:Pos}(wf:G.Wf)(hc:eM G.K TS=true)(hsys:∃o,G.hB.get? Rn=some o)(C:Cond G env sc ctx A O (fun U=>none) ρ s)(S:SorAt G.prog G.w L s.heap)(hO:∀b∈L.addrs,O b)
 (hi:ctx[i]? = some (some x)) (hd:(x==ofString "__debug__")=false) (hy:ρ.getD i .un=.val (.ref L.x)) (hl:(ap.endLine==cp.line)=true) (E:PN->PL->Prop) :
 PM (PO G.prog G.w) A (Qg (.Call (.Attribute (.Attribute (.Name x p1) (ofString "_node2info") p2) (ofString "values") ap) [] [] cp) env)
  (fun x s₁=>PY s s₁/\∀E,PM (PO G.prog G.w) A (pyIter x) (fun it s₂=>PY s₁ s₂/\ItRaw G.prog G.w A s₁.heap s₂.heap it (L.inf.map fun f=>.ref f.a)) E s₁) E s:=by
 have hsm:(L.n2i==Rn)=false:=by
  rw[beq_eq_false_iff_ne]
  intro q
  refine x11 hsys fun o e=>?_
  have:=C.base.off L.n2i (hO L.n2i (by simp[SLay.addrs]))
  rw[q,e]at this;cases this
 refine Call_method0 rfl hl (gQ C hi hd hy (pQ (C.base.inK wf) hc S ?_))
 have S2:SorAt G.prog G.w L ({ s with toks:=s.toks+1 }:PL).heap:=S
 have nd2:∀a,Qd L.n2i=.ref a->∃ob,s.heap.get? a=some ob/\ob.dict=none:=fun a e=>by
  cases e
  refine x33 S.n2i fun o es ep ho hc U=>?_
  exact⟨o,ho,hc.2.1⟩
 refine⟨"dict", "dict.values",F.plainAttrs_dict,F.slot_dict_values,F.type_dict_values,S2.n2i.typeIs,nd2,?_⟩
 refine method_meetsIn F.slot_dict_values F.entry_dict_values rfl (PySem.evalArgs_none ⟨rfl,S2.n2i.typeIs,F.args_dict_values_1 _,_,meets_dict_values (QU G.prog G.w) L.n2i hsm,⟨_,S2.n2i⟩,?_⟩)
 have k:PY s { s with heap:=s.heap.push { cls:=.type "dict_values",data:=.fields #[.ref L.n2i] },toks:=s.toks+1 }:=aX (ay s (s.toks+1)) (bL (s:={ s with toks:=s.toks+1 }) _)
 refine⟨k,fun E=>?_⟩
 have S3:=eN S k
 refine x11 S3.n2i.dictAt fun ep hat=>?_
 refine wpAny_pyIter_values ⟨_,PZ _ rfl,rfl,rfl⟩ hat ⟨bL _,?_⟩
 have hmap:(L.inf.map fun f=>Qd f.a)=(L.inf.map fun f=>(f.key,Qd f.a)).map (·.2):=by rw[hH];rfl
 rw[hmap]
 have hI:s.heap.objs.size+1∉hfp A:=fun q=>by
  refine x11 (C.ok.hok.there _ q) fun o e=>?_
  exact absurd (Qe e) (c5.mpr (fV _))
 have hn2:L.n2i<s.heap.objs.size:=by
  refine x32 S.n2i fun o es ep ho U=>?_
  exact Qe ho
 have hz:(s.heap.push { cls:=.type "dict_values",data:=.fields #[.ref L.n2i] }).objs.size=s.heap.objs.size+1:=QF ..
 dsimp only
 generalize hN:(s.heap.push { cls:=.type "dict_values",data:=.fields #[.ref L.n2i] }).objs.size=N at hz ⊢
 have hIt:((s.heap.push { cls:=.type "dict_values",data:=.fields #[.ref L.n2i] }).push { cls:=.type "dict_valueiterator",data:=.fields #[.ref L.n2i,.int 0 0,.int (L.inf.map fun f=>(f.key,Qd f.a)).length 0,.int ep 0] }).get? N
  = some { cls:=.type "dict_valueiterator",data:=.fields #[.ref L.n2i,.int 0 0,.int (L.inf.map fun f=>(f.key,Qd f.a)).length 0,.int ep 0] }:=hN▸PZ _ rfl
 have hfr:(s.heap.push { cls:=.type "dict_values",data:=.fields #[.ref L.n2i] }).get? N=none:=by
  cases e:(s.heap.push { cls:=.type "dict_values",data:=.fields #[.ref L.n2i] }).get? N with
  | none=>rfl
  | some o=>exact absurd (Qe e) (by rw[hN];exact bl _)
 have hup:∀b o,s.heap.get? b=some o->((s.heap.push { cls:=.type "dict_values",data:=.fields #[.ref L.n2i] }).push { cls:=.type "dict_valueiterator",data:=.fields #[.ref L.n2i,.int 0 0,.int (L.inf.map fun f=>(f.key,Qd f.a)).length 0,.int ep 0] }).get? b=some o :=
  fun b o e=>PX _ (PX _ e)
 refine⟨N,_,_,_,_,rfl,Ge (knd:=QU G.prog G.w) _ L.n2i (by rw[hz];exact dT (ei hn2)) (by rw[hz];exact hI) _ ep,⟨⟨⟨_,hIt,rfl,rfl⟩,hat.push _⟩,C.ok.hok.mono hup⟩,fun b hb=>?_,⟨rfl,hfr⟩,fun i h' q=>?_,by simp,fun i v e=>e⟩
 ·simp only[ae]at hb
  rcases hb with rfl | rfl | hb
  ·exact⟨_,hIt⟩
  ·refine x32 S.n2i fun o es ep ho U=>?_
   exact⟨o,hup _ _ ho⟩
  ·refine x11 (C.ok.hok.there b hb) fun o e=>?_
   exact⟨o,hup _ _ e⟩
 ·refine al q fun z0 U=>?_;refine al z0 fun z0 U=>?_;refine x13 z0 fun o e c U=>?_
  exact⟨o,_,e,c,by decide⟩
end
namespace B
theorem slot_li_ga:Slot "list_iterator" "__getattribute__" "object.__getattribute__" :=
 .of (owner:= "object") (n:= "__getattribute__") (by rw[QL,Qv];kernel_rfl) (by decide +kernel) (by decide +kernel) (by decide +kernel)
  (by first | exact .inl (by decide +kernel) | exact .inr (by decide +kernel)) (by rw[QI];kernel_rfl)
theorem entry_o_ga:entryFor table "object.__getattribute__" = some QQ.«object.__getattribute__»:=entryFor_of_tree (by kernel_rfl)
theorem args_o_ga(a b:PN):argsOk "object.__getattribute__" ⟨[a,b],[]⟩:=by unfold argsOk;kernel_rfl
theorem lk_li_next:Rl (.type "list_iterator") "__next__" = pure (some (.builtin "list_iterator.__next__")):=by rw[QL,Qv];kernel_rfl
theorem slot_wd_get:Slot "wrapper_descriptor" "__get__" "wrapper_descriptor.__get__" :=
 .of (owner:= "wrapper_descriptor") (n:= "__get__") (by rw[QL,Qv];kernel_rfl) (by decide +kernel) (by decide +kernel) (by decide +kernel)
  (by first | exact .inl (by decide +kernel) | exact .inr (by decide +kernel)) (by rw[QI];kernel_rfl)
theorem no_wd_set:Rl (.type "wrapper_descriptor") "__set__" = pure none:=by rw[QL,Qv];kernel_rfl
theorem no_wd_del:Rl (.type "wrapper_descriptor") "__delete__" = pure none:=by rw[QL,Qv];kernel_rfl
theorem entry_wd_get:entryFor table "wrapper_descriptor.__get__" = some QQ.«wrapper_descriptor.__get__»:=entryFor_of_tree (by kernel_rfl)
theorem args_wd_get(a b c:PN):argsOk "wrapper_descriptor.__get__" ⟨[a,b,c],[]⟩:=by unfold argsOk;kernel_rfl
theorem typeOf_li_next:typeOf (.builtin "list_iterator.__next__")=pure (.type "wrapper_descriptor"):=by kernel_rfl
theorem sub_li_owner:RQ (.type "list_iterator") (.type (".".intercalate ("list_iterator.__next__".cutAt '.').dropLast))=pure true:=by
 have e0 : "list_iterator.__next__".cutAt '.'=["list_iterator", "__next__"]:=by first | rfl | decide +kernel
 rw[e0,QI];kernel_rfl
theorem li_getattr_none:Rl (.type "list_iterator") "__getattr__" = pure none:=by rw[QL,Qv];kernel_rfl
end B
section
variable{prog:Qs}{w:Qq}{A:P0}{E:PN->PL->Prop}{h:Qk}{g:Array GenState}{d:Drawn}{t:Nat}{os:OsState}{a:PP}{o:Obj}
noncomputable def cS(T id:String)(a:PP):Obj:={ cls:=.type T,data:=.fields #[.builtin id,.ref a] }
theorem Gh(hx:h.get? a=some o)(hc:o.cls=.type "list_iterator") (hq:R (.ok (.ret (.ref h.objs.size))) ⟨h.push (cS "method-wrapper" "list_iterator.__next__" a),g,d,t,os⟩) :
 QW (PO prog w) A (.call (.builtin "wrapper_descriptor.__get__") ⟨[.builtin "list_iterator.__next__",.ref a,.type "list_iterator"],[]⟩) R ⟨h,g,d,t,os⟩:=by
 have hT:(⟨h,g,d,t,os⟩:PL).TypeIs (.ref a) "list_iterator":=⟨_,hx,hc⟩
 have hT5:(⟨h,g,d,t,os⟩:PL).TypeIs (.builtin "list_iterator.__next__") "wrapper_descriptor":=B.typeOf_li_next
 have f8:=B.sub_li_owner
 refine Rx B.slot_wd_get.plain B.entry_wd_get (B.slot_wd_get.check _ _ _ _ _ _ _ _ hT5 (B.args_wd_get _ _ _) ?_)
 repeat (any_goals (first | assumption | wp_step))
theorem Gi{tk:Tok}{vs:Array PN}{Q:Fin->PL->Prop}(hx:h.get? a=some { cls:=.type "list_iterator",data:=.fields vs }) (hq:Q (.done (.ret (.ref h.objs.size))) ⟨h.push (cS "method-wrapper" "list_iterator.__next__" a),g,d,t,os⟩) :
 PM (PO prog w) A (QQ.«object.__getattribute__» ⟨[.ref a,.str "__next__" tk],[]⟩) Q E ⟨h,g,d,t,os⟩:=by
 have hT:(⟨h,g,d,t,os⟩:PL).TypeIs (.ref a) "list_iterator":=⟨_,hx,rfl⟩
 have hT5:(⟨h,g,d,t,os⟩:PL).TypeIs (.builtin "list_iterator.__next__") "wrapper_descriptor":=B.typeOf_li_next
 have f4:=B.lk_li_next
 have f5:=B.typeOf_li_next
 have f6:=B.slot_wd_get.lookup
 have f7:=B.no_wd_set
 have f8:=B.no_wd_del
 repeat (any_goals (first | assumption | wp_step))
 refine Gh hx rfl ?_
 repeat (any_goals (first | assumption | wp_step))
theorem Gj{tk:Tok}{vs:Array PN}{R:Result->PL->Prop}(hx:h.get? a=some { cls:=.type "list_iterator",data:=.fields vs }) (hq:R (.ok (.ret (.ref h.objs.size))) ⟨h.push (cS "method-wrapper" "list_iterator.__next__" a),g,d,t,os⟩) :
 QW (PO prog w) A (.call (.builtin "object.__getattribute__") ⟨[.ref a,.str "__next__" tk],[]⟩) R ⟨h,g,d,t,os⟩ :=
 Rx B.slot_li_ga.plain B.entry_o_ga (B.slot_li_ga.check _ _ _ _ _ _ _ _ (show(⟨h,g,d,t,os⟩:PL).TypeIs (.ref a) "list_iterator" from⟨_,hx,rfl⟩) (B.args_o_ga _ _) (Gi hx hq))
theorem Gk{vs:Array PN}{Q:PN->PL->Prop}(hx:h.get? a=some { cls:=.type "list_iterator",data:=.fields vs }) (hq:Q (.ref h.objs.size) ⟨h.push (cS "method-wrapper" "list_iterator.__next__" a),g,d,t+1,os⟩) :
 PM (PO prog w) A (RA (.ref a) "__next__" true) Q E ⟨h,g,d,t,os⟩:=by
 have hT:∀tk',(⟨h,g,d,tk',os⟩:PL).TypeIs (.ref a) "list_iterator":=fun U=>⟨_,hx,rfl⟩
 have f2:=B.slot_li_ga.lookup
 have f3:=B.slot_li_ga.bind (.ref a)
 have f5:=B.li_getattr_none
 unfold RA getAttrBy
 repeat (any_goals (first | assumption | exact hT _ | wp_step))
 refine Gj hx ?_
 repeat (any_goals (first | assumption | exact hT _ | wp_step))
noncomputable def Gl(Q:PN->PL->Prop):PySem.Fin->PL->Prop
 | .done (.ret v),s=>Q v s
 | _,_=>False
theorem yK{m:PP}{id:String}{rest:List PN}{b:QQ}{Q:PN->PL->Prop}(hm:s.heap.get? m=some (cS "method-wrapper" id a)) (hk:builtinKind id=some .slot) (hb:entryFor table id=some b) (hq:plainId id=true) (ha:argsOk id ⟨.ref a::rest,[]⟩)
 (h:PM (PO prog w) A.in1 (b ⟨.ref a::rest,[]⟩) (Gl Q) E s):PM (PO prog w) A (call (.ref m) rest) Q E s:=by
 refine Q5 (codeAny_of_tree ?_)
 show PM _ A.in1 (load m >>= _) _ _ s
 refine PK (wpAny_load hm ?_)
 show PM _ A.in1 (RY id ⟨.ref a::rest,[]⟩ >>= fun U=>again (.builtin id ⟨.ref a::rest,[]⟩)) _ _ s
 have hcb:RY id ⟨.ref a::rest,[]⟩=pure ():=by
  unfold RY
  rw[hk]
  unfold argsOk at ha
  cases hs:R7 id with
  | none=>rfl
  | some sig =>
   rw[hs]at ha
   exact ha
 rw[hcb]
 refine PK (PU (PU ⟨plainId_quiet hq _,R9 hb ?_⟩))
 rw[R5 hq]
 refine PR h (fun fin s' h'=>?_) fun U U e=>e
 cases fin with
 | done f=>cases f<;>first | exact h' | exact h'.elim
 | again c=>exact h'.elim
theorem B.kind_next:builtinKind "list_iterator.__next__" = some .slot:=by kernel_rfl
theorem B.plain_next:plainId "list_iterator.__next__" = true:=by decide +kernel
noncomputable def cU(sl:PP)(i:Nat):Obj:={ cls:=.type "list_iterator",data:=.fields #[.ref sl,.int i 0] }
theorem Gm{m it l:PP}{i:Nat}{items:Array PN}{Q:PN->PL->Prop}(hm:s.heap.get? m=some (cS "method-wrapper" "list_iterator.__next__" it)) (hit:s.heap.get? it=some (cU l i)) (hl:s.heap.IsList l items) (hx:items[i]? = some x)
 (hQ:∀h',h'.get? it=some (cU l (i+1))->QM it s.heap h'->Q x { s with heap:=h' }):PM (PO prog w) A (call (.ref m) []) Q E s:=by
 obtain⟨ol,hol,_,nl,hdl⟩:=hl
 refine yK hm B.kind_next entry_listiter_next B.plain_next (args_listiter_next _) ?_
 show PM _ _ (field (.ref it) 0 >>= _) _ _ s
 refine PK (QO hit rfl (x:=.ref l) rfl ?_)
 show PM _ _ (if(Qd l==QB)=true then _ else _) _ _ s
 rw[if_neg (show ¬((Qd l==QB)=true)from Pl)]
 show PM _ _ (field (.ref it) 1 >>= _) _ _ s
 refine PK (QO hit rfl (x:=.int i 0) rfl ?_)
 show PM _ _ (seqItems? (.ref l) >>= _) _ _ s
 refine PK (wpAny_seqItems hol hdl ?_)
 simp only[lV,hx]
 refine PK (Rj hit rfl (by simp) (PU (hQ _ ?_ (Qr ..))))
 rw[Rq _ hit (RV (Ro rfl _))]
 simp[cU,Obj.mapFields,rawInt]
noncomputable def Gn(h h':Qk)(it e:PP):Prop:=(∀b o,b≠it->h.get? b=some o->h'.get? b=some o)/\(∃o,h'.get? it=some o)/\h.get? e=none/\∃oe ve a0,h'.get? e=some oe/\oe.cls=.type "StopIteration"/\oe.data=.fields ve/\ve[0]? = some a0/\ve[1]? = some .none
theorem Go{m it l:PP}{i:Nat}{items:Array PN}{Q:PN->PL->Prop}(hh:a8 A s.heap)(hne:it∉hfp A)(hm:s.heap.get? m=some (cS "method-wrapper" "list_iterator.__next__" it)) (hit:s.heap.get? it=some (cU l i)) (hl:s.heap.IsList l items) (hx:items[i]? = none)
 (hE:∀h' e,Gn s.heap h' it e->E (.ref e) { s with heap:=h' }):PM (PO prog w) A (call (.ref m) []) Q E s:=by
 obtain⟨ol,hol,_,nl,hdl⟩:=hl
 refine yK hm B.kind_next entry_listiter_next B.plain_next (args_listiter_next _) ?_
 show PM _ _ (field (.ref it) 0 >>= _) _ _ s
 refine PK (QO hit rfl (x:=.ref l) rfl ?_)
 show PM _ _ (if(Qd l==QB)=true then _ else _) _ _ s
 rw[if_neg (show ¬((Qd l==QB)=true)from Pl)]
 show PM _ _ (field (.ref it) 1 >>= _) _ _ s
 refine PK (QO hit rfl (x:=.int i 0) rfl ?_)
 show PM _ _ (seqItems? (.ref l) >>= _) _ _ s
 refine PK (wpAny_seqItems hol hdl ?_)
 simp only[lV,hx]
 refine PK (R2 (PK (Rj hit rfl (by simp) ?_)))
 have hit':=Rq (Obj.mapFields (·.setIfInBounds 0 QB)) hit (RV (Ro rfl _))
 generalize hh1:s.heap.update it (Obj.mapFields (·.setIfInBounds 0 QB))=h1 at hit' ⊢
 have hsb:QM it s.heap h1:=hh1▸Qr ..
 have hh':a8 A h1:=hh.at hne hsb.extBut
 show PM _ _ (newExc (.type "StopIteration") [] >>= _) _ _ _
 refine PK ?_
 simp only[newExc,newTuple]
 refine PK (Q2 ?_ (by size_fits))
 refine PK (m:=firstArgMember _ _) (RS (a:=QB) (by first | rfl | (simp only[firstArgMember];rfl)) ?_)
 refine Q2 ?_ (by size_fits)
 have hup:∀b o,h1.get? b=some o->((h1.push { cls:=.type "tuple",data:=.seq ([]:List PN).toArray }).push { cls:=.type "StopIteration",data:=.fields #[.ref h1.objs.size,.none,.none,.none,.bool false,.none,.none] }).get? b=some o:=fun b o e=>PX _ (PX _ e)
 refine xm (A:=A.in1) (hh'.mono fun b o e=>PX _ (PX _ e)) (PZ _ rfl) rfl (by simp;lia) ?_ ?_
 ·intro e₀ he q
  rcases hh' with hh | ⟨e1,o,vs,hh,h1',_⟩
  ·rw[show A.in1.handled=A.handled from rfl,hh]at he;cases he
  ·rw[show A.in1.handled=A.handled from rfl,hh]at he;cases he
   rw[QF]at q
   exact dT (ei (Qe h1')) q
 ·intro h' o' ve' hs ho hc hd hz hv
  rw[QF]at hs ho ⊢
  have up:∀b o,h1.get? b=some o->h'.get? b=some o:=fun b o e=>by
   have hb:=Qe e
   rw[hs.2 b (dT (ei hb))]
   exact PX _ (PX _ e)
  refine hE h' _ ⟨fun b o n e=>up b o (hsb.extBut b o n e),⟨_,up _ _ hit'⟩,?_,o',ve',.ref h1.objs.size,ho,hc,hd,?_,?_⟩
  ·have hsz:h1.objs.size=s.heap.objs.size:=hsb.1
   rw[hsz]
   cases e:s.heap.get? (s.heap.objs.size+1)with
   | none=>rfl
   | some o=>exact absurd (Qe e) (c5.mpr (fV _))
  ·rw[hv 0 (by decide)];rfl
  ·rw[hv 1 (by decide)];rfl
end
noncomputable def eO(B:Qk)(l:List Env)(a:PP)(cls:PN)(h:Qk):Prop :=
 B.StaysIn h/\B.get? a=none/\h.FunFrames B l/\((∃oe vs a0,h.get? a=some oe/\oe.cls=cls/\oe.data=.fields vs/\vs[0]? = some a0/\vs[1]? = some .none)\/∃a0,h.TracedW B a cls a0)
theorem yL:∀ {l:List Env},je l h->(∀b∈l.filterMap (·.frame),B.get? b=none)->h.FunFrames B l
 | [],_,_=>trivial
 | env::r,x,y=>by
  obtain⟨hk,L,o,es,n,h1,h2,h3⟩:=x env ak
  exact⟨hk,⟨L,o,h1,y L (by rw[Oq,h1];exact ak),h2,fun vs q=>by rw[h3]at q;cases q⟩,
   yL (fun e he=>x e (ar _ he)) fun b hb=>y b (by rw[Oq,h1];exact ar _ hb)⟩
theorem eO.there(x:eO B l a cls h):∃o,h.get? a=some o/\o.cls=cls:=by
 obtain⟨_,_,_,⟨oe,vs,a0,h1,h2,_⟩ | ⟨a0,oe,vs,T,oT,ts,h1,h2,_⟩⟩:=x
 ·exact⟨oe,h1,h2⟩
 ·exact⟨oe,h1,h2.1⟩
theorem eO.of(x:Heap.FlyingW B l a cls a0 h):eO B l a cls h:=⟨x.1,x.2.1,x.2.2.1,.inr ⟨a0,x.2.2.2⟩⟩
section
variable{M:Model}{A:P0}{E:PN->PL->Prop}{s:PL}{env:Env}{outer:List Env}{L a:PP}{cls:PN}{B:Qk}
theorem ty{Q:Unit->PL->Prop}(hfr:A.frames=some (env::outer))(hf:env.frame=some L)(T:eO B (env::outer) a cls s.heap)
 (hQ:∀h' a0,Sj B (env::outer) a cls a0 L h'->s.heap.UpToSlots h'->Q () { s with heap:=h' }):PM M A (noteFrame (.ref a) env) Q E s:=by
 obtain⟨t1,t2,t3,⟨oe,vs,a0,h1,h2,h3,h4,h5⟩ | ⟨a0,ht⟩⟩:=T
 ·subst h2
  unfold noteFrame
  simp only[hf]
  refine PK (QO h1 h3 h5 ?_)
  rw[if_neg (by decide)]
  refine wpAny_entryW hfr t3 hf h1 t1 t2 h3 (Array.getElem?_eq_some_iff.mp h5).1 h4 fun h' ζ=>ζ.elim fun n1 ζ=>ζ.elim fun n2 ζ=>ζ.elim fun n3 n4=>hQ h' a0 ⟨n1,t2,n2,n3⟩ n4
 ·exact wpAny_looks_onW hfr hf ⟨t1,t2,t3,ht⟩ fun h' hh hu=>hQ h' a0 hh hu
theorem Gp{Q:Unit->PL->Prop}(hfr:A.frames=some (env::outer))(hf:env.frame=some L)(T:eO B (env::outer) a cls s.heap)
 (hQ:∀h',eO B outer a cls h'->s.heap.UpToSlots h'->Q () { s with heap:=h' }):PM M A (leaving env (.ref a)) Q E s:=by
 obtain⟨t1,t2,t3,⟨oe,vs,a0,h1,h2,h3,h4,h5⟩ | ⟨a0,ht⟩⟩:=T
 ·subst h2
  refine wpAny_leaving_firstW hfr t3 hf h1 t1 t2 h3 h5 h4 fun h' ζ=>ζ.elim fun n1 ζ=>ζ.elim fun n2 ζ=>ζ.elim fun n3 n4=>hQ h' (.of (a0:=a0) ⟨n1,t2,n2.2.2,n3⟩) n4
 ·exact wpAny_leaves_onW hfr hf ⟨t1,t2,t3,ht⟩ fun h' hh hu=>hQ h' (.of hh) hu
end
section
variable{prog:Qs}{w:Qq}{A:P0}{E:PN->PL->Prop}{s:PL}{env:Env}{outer:List Env}{L:PP}
theorem yM{body suite:List PW}{b₀:PW}{x:Str}{xp hp tp:Pos}{c:PN}{Q:Flow->PL->Prop}(hfr:A.frames=some (env::outer))(hf:env.frame=some L)
 (h:PM (PO prog w) A (QG body env) Q (fun e s₁=>∃a B cls,e=.ref a/\eO B (env::outer) a cls s₁.heap /\
  ∀h₂,B.StaysIn h₂->s₁.heap.UpToSlots h₂->(∃o,h₂.get? a=some o/\o.cls=cls)->∀E,
   PM (PO prog w) (A.mark (some (.ref a))) (Qg (.Name x xp) env) (fun v s₃=>v=c/\s₃={ s₁ with heap:=h₂ } /\
    (∀(Q:Bool->PL->Prop) E,Q true { s₁ with heap:=h₂ }->PM (PO prog w) (A.mark (some (.ref a))) (excMatches (.ref a) c) Q E { s₁ with heap:=h₂ }) /\
    ∀h₄,B.StaysIn h₄->s₁.heap.UpToSlots h₄->eO B (env::outer) a cls h₄->∀E,PM (PO prog w) (A.mark (some (.ref a))) (QG (b₀::suite) env) Q E { s₁ with heap:=h₄ }) E { s₁ with heap:=h₂ }) s)
 (hn:∀s',Q .next s'->Q .next s') :
 PM (PO prog w) A (exec (.Try body [.ExceptHandler (some (.Name x xp)) none (b₀::suite) hp] [] [] tp) env) Q E s:=by
 refine wpAny_Try_except (PR h (fun f s₁ h₁=>?_) fun e s₁ h₁=>?_)
 ·cases f<;>first | exact h₁ | exact Qa h₁
 ·refine x33 h₁ fun a B cls e3 T k=>?_;subst e3
  refine ty hfr hf T fun h₁' a0 hh hu=>?_
  refine wpAny_landsW hh fun h₂ hfl hu₂=>?_
  have u2:=hu.trans hu₂
  refine wpAny_handleBy_cons (codeAny_handlers_test (PR (k h₂ hfl.1 u2 hfl.there _) (fun v s₃ h₃=>?_) fun U U e=>e)) (by intro q;cases q)
  refine e8 h₃ fun e0 e1 hm hs=>?_;subst e0;subst e1
  refine hm _ _ ?_
  refine codeAny_handlers_suite ?_
  refine lands_againW hfl fun h₄ hfl₄ hu₄=>?_
  exact hs h₄ hfl₄.1 (u2.trans hu₄) (.of hfl₄) _
end
structure LF(env:Env)(sc:Scope)(ctx:List (Option Str))(ρ:List SV)(h:Qk):Prop where
 eo:EnvOk env sc
 co:CtxOk sc ctx
 len:ρ.length=ctx.length
 vars:∃val,FrameV env h val/\∀(i:Nat) (x:Str) (v:PN),ctx[i]? = some (some x)->ρ.getD i .un=.val v->val x=some v
theorem Gq{h h':Qk}{a:PP}{m:Str->Option PN}(x:h.Ns a m)(k:∀o,h.get? a=some o->∃sl,h'.get? a=some { o with slots:=sl }):h'.Ns a m:=by
 refine x33 x fun o es ep h1 h2 h3=>?_
 refine x11 (k o h1) fun sl h4=>?_
 exact⟨_,es,ep,h4,h2,h3⟩
theorem Gs{h h':Qk}{c:PP}{v:Option PN}(x:h.IsCell c v)(k:∀o,h.get? c=some o->∃sl,h'.get? c=some { o with slots:=sl }):h'.IsCell c v:=by
 refine x12 x fun o h1 h2=>?_
 refine x11 (k o h1) fun sl h4=>?_
 exact⟨_,h4,h2⟩
theorem FrameV.slots{env:Env}{h h':Qk}{val:Str->Option PN}(F:FrameV env h val)(k:∀b o,aU env b->h.get? b=some o->∃sl,h'.get? b=some { o with slots:=sl }):FrameV env h' val :=
 ⟨F.loc.elim fun m ζ=>ζ.elim fun h1 h2=>⟨m,Gq h1 fun o e=>k _ o (.inl rfl) e,h2⟩,fun x hx=>(F.cel x hx).elim fun c ζ=>ζ.elim fun h1 h2=>⟨c,h1,Gs h2 fun o e=>k _ o (.inr ⟨x,h1⟩) e⟩⟩
section
variable{prog:Qs}{w:Qq}{env:Env}{sc:Scope}{ctx:List (Option Str)}{A:P0}{ρ:List SV}{s:PL}{E:PN->PL->Prop}{h h':Qk}
theorem LF.by(F:LF env sc ctx ρ h)(k:∀b o,aU env b->h.get? b=some o->∃sl,h'.get? b=some { o with slots:=sl }):LF env sc ctx ρ h' :=
 ⟨F.eo,F.co,F.len,F.vars.elim fun val ζ=>ζ.elim fun f v=>⟨val,f.slots k,v⟩⟩
theorem LF.keeps{s s':PL}(F:LF env sc ctx ρ s.heap)(k:PY s s'):LF env sc ctx ρ s'.heap:=F.by fun b o U e=>⟨o.slots,am k b o e⟩
theorem LF.of{G:Glo}{O:PP->Prop}{ω:PP->Option Nat}(C:Cond G env sc ctx A O ω ρ s):LF env sc ctx ρ s.heap :=
 ⟨C.eo,C.co,C.len,let⟨val,f,v⟩:=C.vars;⟨val,f,fun i x u h1 h2=>by
  have:=v i x h1
  rw[h2]at this;exact this⟩⟩
theorem LF.ld{i:Nat}{x:Str}{p:Pos}{v:PN}{Q:PN->PL->Prop}(F:LF env sc ctx ρ s.heap)(hi:ctx[i]? = some (some x))(hd:(x==ofString "__debug__")=false) (hy:ρ.getD i .un=.val v) (h:Q v s):PM (PO prog w) A (Qg (.Name x p) env) Q E s:=by
 refine x12 F.vars fun val f V=>?_
 have hv:=V i x v hi hy
 refine RK ?_ hd
 rcases F.co.kd i x hi with hk | hk | hk
 ·refine x12 f.loc fun m hn hm=>?_
  exact wpAny_loadName_local F.eo.kindS ((F.eo.kindOf x).trans hk) hn ((hm x ((F.eo.kindOf x).trans hk)).trans hv) h
 ·refine x12 (f.cel x (.inl ((F.eo.kindOf x).trans hk))) fun c h1 h2=>?_
  exact wpAny_loadName_cell F.eo.kindS ((F.eo.kindOf x).trans hk) h1 (hv▸h2) h
 ·refine x12 (f.cel x (.inr ((F.eo.kindOf x).trans hk))) fun c h1 h2=>?_
  exact wpAny_loadName_free F.eo.kindS ((F.eo.kindOf x).trans hk) h1 (hv▸h2) h (F.eo.noclass x hk)
theorem LF.st{i:Nat}{x:Str}{v:PN}{Q:Unit->PL->Prop}(F:LF env sc ctx ρ s.heap)(hi:ctx[i]? = some (some x))(hk:sc.names.lookup x=some .local)
 (h:∀s',KM (· = env.locals) s s'->LF env sc ctx (ρ.set i (.val v)) s'.heap->Q () s'):PM (PO prog w) A (storeName env x v) Q E s:=by
 refine x12 F.vars fun val f V=>?_
 have hk':=(F.eo.kindOf x).trans hk
 refine x12 f.loc fun m hn hm=>?_
 refine wpAny_storeName_local hk' hn (fun h' hn' hs'=>?_) (by rw[F.eo.kindS];rfl)
 have k:KM (· = env.locals) s { s with heap:=h',toks:=s.toks+1 }:=KM.chg hs'.extBut (hn'.elim fun o ζ=>ζ.elim fun U ζ=>ζ.elim fun U ζ=>ζ.elim fun e U=>⟨o,e⟩) rfl
 refine h _ k ⟨F.eo,F.co,by simp[F.len],fun y=>if y=x then some v else val y,⟨⟨_,hn',fun y hy=>?_⟩,fun y hy=>?_⟩,fun j y u h1 h2=>?_⟩
 ·by_cases q:y=x
  ·simp[q]
  ·simp only[q,if_false];exact hm y hy
 ·refine x12 (f.cel y hy) fun c h1 h2=>?_
  have:y≠x:=fun q=>by subst q;rw[hk']at hy;rcases hy with hy | hy<;>cases hy
  rw[if_neg this]
  exact⟨c,h1,h2.sameBut hs' fun q=>sH hn (q▸h2)⟩
 ·rw[dJ]at h2
  by_cases q:i=j
  ·subst q
   have:y=x:=by rw[hi]at h1;cases h1;rfl
   subst this
   have hl:i<ρ.length:=by rw[F.len];exact(fU.mp h1).1
   rw[if_pos ⟨rfl,hl⟩]at h2
   cases h2
   simp
  ·have:y≠x:=fun z=>q (F.co.inj i j x hi (z▸h1))
   rw[if_neg fun z=>q z.1]at h2
   simp only[this,if_false]
   exact V j y u h1 h2
theorem LF.sto{i:Nat}{x:Str}{p:Pos}{v:PN}{Q:Unit->PL->Prop}(F:LF env sc ctx ρ s.heap)(hi:ctx[i]? = some (some x))(hk:sc.names.lookup x=some .local)
 (h:∀s',KM (· = env.locals) s s'->LF env sc ctx (ρ.set i (.val v)) s'.heap->Q () s'):PM (PO prog w) A (QJ (.Name x p) env v) Q E s :=
 Qx (F.st hi hk h)
end
structure Ent where
 m:PP
 it:PP
 sl:PP
 pos:Nat
structure FCD where
 a1:PP
 a2:PP
 a3:PP
 a4:PP
 ks:List Int
 ms:List PP
 es:List Ent
 sn:List Int
 ns:List (Int × Int)
 xs:List (PP × Obj):=[]
noncomputable def bO(e:Ent):List PP:=[e.m,e.it]
noncomputable def FCD.addrs(D:FCD):List PP:=D.a1::D.a2::D.a3::D.a4::D.es.flatMap bO
inductive Prs:List (Int × PN)->List (Int × Int)->Prop
 | nil:Prs [] []
 | cons (k i:Int) (t:Tok) {a b}:Prs a b->Prs ((k,.int i t)::a) ((k,i)::b)
theorem Prs.fst:∀ {a:List (Int × PN)} {b:List (Int × Int)},Prs a b->a.map (·.1)=b.map (·.1):=fun q=>by
 induction q with
 | nil=>rfl
 | cons k i t r ih=>exact congrArg (List.cons k) ih
theorem Prs.len{a:List (Int × PN)}{b:List (Int × Int)}(h:Prs a b):a.length=b.length:=by
 have:=congrArg List.length h.fst
 simpa using this
theorem Prs.snoc{k i:Int}{t:Tok}:∀ {a:List (Int × PN)} {b:List (Int × Int)},Prs a b->Prs (a++[(k,.int i t)]) (b++[(k,i)])
 | _,_,.nil=>.cons k i t .nil
 | _,_,.cons k' i' t' r=>.cons k' i' t' r.snoc
theorem Prs.at{k:Int}:∀ {a:List (Int × PN)} {b:List (Int × Int)} {i:Int},Prs a b->(b.find? fun p=>p.1=k)=some (k,i)->∃t,RB a k=some (.int i t):=fun{a b i} q=>by
 induction q with
 | nil=>exact fun h=>nomatch h
 | cons k' i' t' r ih =>
  intro h
  unfold RB
  rw[PJ]at h ⊢
  by_cases q:k'=k
  ·simp only[q,decide_true]at h ⊢
   cases h
   exact⟨t',rfl⟩
  ·simp only[q,decide_false]at h ⊢
   exact ih h
theorem Prs.filt{k:Int}:∀ {a:List (Int × PN)} {b:List (Int × Int)},Prs a b->Prs (a.filter fun p=>decide (p.1≠k)) (b.filter fun p=>decide (p.1≠k))
 | _,_,.nil=>.nil
 | _,_,.cons k' i' t' r=>by
  rw[dv,dv]
  by_cases q:k'=k
  ·simp only[q,ne_eq,not_true,decide_false,wj,if_false];exact r.filt
  ·simp only[ne_eq,q,not_false_iff,decide_true,if_true];exact .cons k' i' t' r.filt
structure FC(prog:Qs)(w:Qq)(D:FCD)(h:Qk):Prop where
 stk:∃vs n,IsL h D.a1 vs n/\Rb vs.toList D.ks
 its:∃n,IsL h D.a2 (D.ms.map Qd).toArray n
 seen:∃n,h.SetOf (QU prog w) D.a3 (fun k=>decide (k∈D.sn)) n/\n<=D.sn.length
 n2s:∃kvs,h.DictOf (QU prog w) D.a4 kvs/\Prs kvs D.ns
 ent:∀e∈D.es,h.get? e.m=some (cS "method-wrapper" "list_iterator.__next__" e.it)/\h.get? e.it=some (cU e.sl e.pos)
 nd:D.addrs.Nodup
 ext:∀p∈D.xs,h.get? p.1=some p.2
 ap:∀p∈D.xs,p.1∉D.addrs
theorem kP{prog:Qs}{w:Qq}{h h':Qk}{a:PP}{S:Int->Bool}{n:Nat}(x:h.SetOf (QU prog w) a S n)(e:∀o,h.get? a=some o->h'.get? a=some o):h'.SetOf (QU prog w) a S n :=
 x.elim fun o ζ=>ζ.elim fun es ζ=>ζ.elim fun ep ζ=>ζ.elim fun t ζ=>ζ.elim fun h1 r=>⟨o,es,ep,t,e o h1,r⟩
section
variable{prog:Qs}{w:Qq}{D D':FCD}{h h':Qk}
theorem mV{e:Ent}(he:e∈D.es):e.m∈D.addrs/\e.it∈D.addrs:=by
 have:∀c∈bO e,c∈D.es.flatMap bO:=fun c hc=>bW.mpr ⟨e,he,hc⟩
 simp only[FCD.addrs,ae]
 exact⟨.inr (.inr (.inr (.inr (this _ (by simp[bO]))))),.inr (.inr (.inr (.inr (this _ (by simp[bO])))))⟩
theorem FC.there(x:FC prog w D h){c:PP}(hc:c∈D.addrs):∃o,h.get? c=some o:=by
 simp only[FCD.addrs,ae]at hc
 rcases hc with rfl | rfl | rfl | rfl | hc
 ·refine x22 x.stk fun vs n e U=>?_;exact⟨_,e⟩
 ·refine x11 x.its fun n e=>?_;exact⟨_,e⟩
 ·refine x12 x.seen fun n z1 U=>?_;refine x42 z1 fun o U U U e U=>?_;exact⟨o,e⟩
 ·refine x12 x.n2s fun kvs z1 U=>?_;refine x32 z1 fun o U U e U=>?_;exact⟨o,e⟩
 ·refine x12 (bW.mp hc) fun f hf hc=>?_
  refine al (x.ent f hf) fun e1 e2=>?_
  simp only[bO,ae,cu,or_false]at hc
  rcases hc with rfl | rfl
  ·exact⟨_,e1⟩
  ·exact⟨_,e2⟩
noncomputable def FCD.all(D:FCD):List PP:=D.addrs++D.xs.map (·.1)
theorem FCD.all_l{D:FCD}{c:PP}(h:c∈D.addrs):c∈D.all:=c8 _ h
theorem FCD.all_r{D:FCD}{p:PP × Obj}(h:p∈D.xs):p.1∈D.all:=gz _ (aD.mpr ⟨p,h,rfl⟩)
theorem FC.keeps(x:FC prog w D h)(k':∀b o,b∈D.all->h.get? b=some o->h'.get? b=some o):FC prog w D h' :=
 have k:∀b o,b∈D.addrs->h.get? b=some o->h'.get? b=some o:=fun b o q=>k' b o (FCD.all_l q)
{
 stk:=let⟨vs,n,e,r⟩:=x.stk;⟨vs,n,k _ _ (by simp[FCD.addrs]) e,r⟩
 its:=let⟨n,e⟩:=x.its;⟨n,k _ _ (by simp[FCD.addrs]) e⟩
 seen:=let⟨n,e,r⟩:=x.seen;⟨n,kP e fun o q=>k _ o (by simp[FCD.addrs]) q,r⟩
 n2s:=let⟨kvs,e,r⟩:=x.n2s;⟨kvs,fy (fun o q=>k _ o (by simp[FCD.addrs]) q) e,r⟩
 ent:=fun e he=>⟨k _ _ (mV he).1 (x.ent e he).1,k _ _ (mV he).2 (x.ent e he).2⟩
 nd:=x.nd
 ext:=fun p hp=>k' _ _ (FCD.all_r hp) (x.ext p hp)
 ap:=x.ap }
theorem FCD.ne{D:FCD}(h:D.addrs.Nodup):(D.a1≠D.a2/\D.a1≠D.a3/\D.a1≠D.a4/\D.a2≠D.a3/\D.a2≠D.a4/\D.a3≠D.a4)/\(∀c∈D.es.flatMap bO,c≠D.a1/\c≠D.a2/\c≠D.a3/\c≠D.a4)/\(D.es.flatMap bO).Nodup:=by
 simp only[FCD.addrs,c6,ae,not_or]at h
 refine CR h fun z0 z1 z2 n10 n11=>?_;refine e8 z0 fun n1 n2 n3 n4=>?_;refine dl z1 fun n5 n6 n7=>?_;refine al z2 fun n8 n9=>?_
 exact⟨⟨n1,n2,n3,n5,n6,n8⟩,fun c hc=>⟨fun q=>n4 (q▸hc),fun q=>n7 (q▸hc),fun q=>n9 (q▸hc),fun q=>n10 (q▸hc)⟩,n11⟩
theorem gR{e:Ent}(he:e∈D.es):e.m∈D.es.flatMap bO/\e.it∈D.es.flatMap bO :=
 ⟨bW.mpr ⟨e,he,by simp[bO]⟩,bW.mpr ⟨e,he,by simp[bO]⟩⟩
theorem FC.upd1{ks:List Int}(x:FC prog w D h)(s:Qy D.a1 h h')(y:∃vs n,IsL h' D.a1 vs n/\Rb vs.toList ks):FC prog w { D with ks:=ks } h':=by
 refine dl (FCD.ne x.nd) fun z0 nn U=>?_;refine gE z0 fun n1 n2 n3 n5 n6 n8=>?_
 exact⟨y,x.its.elim fun n e=>⟨n,s _ _ (QE n1) e⟩,x.seen.elim fun n ζ=>ζ.elim fun e r=>⟨n,kP e fun o q=>s _ o (QE n2) q,r⟩,x.n2s.elim fun kvs ζ=>ζ.elim fun e r=>⟨kvs,fy (fun o q=>s _ o (QE n3) q) e,r⟩,
  fun e he=>⟨s _ _ (nn _ (gR he).1).1 (x.ent e he).1,s _ _ (nn _ (gR he).2).1 (x.ent e he).2⟩,x.nd,fun p hp=>s _ _ (fun q=>x.ap p hp (q▸by simp[FCD.addrs])) (x.ext p hp),x.ap⟩
theorem FC.upd2{ms:List PP}(x:FC prog w D h)(s:Qy D.a2 h h')(y:∃n,IsL h' D.a2 (ms.map Qd).toArray n):FC prog w { D with ms:=ms } h':=by
 refine dl (FCD.ne x.nd) fun z0 nn U=>?_;refine gE z0 fun n1 n2 n3 n5 n6 n8=>?_
 exact⟨x.stk.elim fun vs ζ=>ζ.elim fun n ζ=>ζ.elim fun e r=>⟨vs,n,s _ _ n1 e,r⟩,y,x.seen.elim fun n ζ=>ζ.elim fun e r=>⟨n,kP e fun o q=>s _ o (QE n5) q,r⟩,x.n2s.elim fun kvs ζ=>ζ.elim fun e r=>⟨kvs,fy (fun o q=>s _ o (QE n6) q) e,r⟩,
  fun e he=>⟨s _ _ (nn _ (gR he).1).2.1 (x.ent e he).1,s _ _ (nn _ (gR he).2).2.1 (x.ent e he).2⟩,x.nd,fun p hp=>s _ _ (fun q=>x.ap p hp (q▸by simp[FCD.addrs])) (x.ext p hp),x.ap⟩
theorem FC.upd3{sn:List Int}(x:FC prog w D h)(s:Qy D.a3 h h')(y:∃n,h'.SetOf (QU prog w) D.a3 (fun k=>decide (k∈sn)) n/\n<=sn.length):FC prog w { D with sn:=sn } h':=by
 refine dl (FCD.ne x.nd) fun z0 nn U=>?_;refine gE z0 fun n1 n2 n3 n5 n6 n8=>?_
 exact⟨x.stk.elim fun vs ζ=>ζ.elim fun n ζ=>ζ.elim fun e r=>⟨vs,n,s _ _ n2 e,r⟩,x.its.elim fun n e=>⟨n,s _ _ n5 e⟩,y,x.n2s.elim fun kvs ζ=>ζ.elim fun e r=>⟨kvs,fy (fun o q=>s _ o (QE n8) q) e,r⟩,
  fun e he=>⟨s _ _ (nn _ (gR he).1).2.2.1 (x.ent e he).1,s _ _ (nn _ (gR he).2).2.2.1 (x.ent e he).2⟩,x.nd,fun p hp=>s _ _ (fun q=>x.ap p hp (q▸by simp[FCD.addrs])) (x.ext p hp),x.ap⟩
theorem FC.upd4{ns:List (Int × Int)}(x:FC prog w D h)(s:Qy D.a4 h h')(y:∃kvs,h'.DictOf (QU prog w) D.a4 kvs/\Prs kvs ns):FC prog w { D with ns:=ns } h':=by
 refine dl (FCD.ne x.nd) fun z0 nn U=>?_;refine gE z0 fun n1 n2 n3 n5 n6 n8=>?_
 exact⟨x.stk.elim fun vs ζ=>ζ.elim fun n ζ=>ζ.elim fun e r=>⟨vs,n,s _ _ n3 e,r⟩,x.its.elim fun n e=>⟨n,s _ _ n6 e⟩,x.seen.elim fun n ζ=>ζ.elim fun e r=>⟨n,kP e fun o q=>s _ o n8 q,r⟩,y,
  fun e he=>⟨s _ _ (nn _ (gR he).1).2.2.2 (x.ent e he).1,s _ _ (nn _ (gR he).2).2.2.2 (x.ent e he).2⟩,x.nd,fun p hp=>s _ _ (fun q=>x.ap p hp (q▸by simp[FCD.addrs])) (x.ext p hp),x.ap⟩
theorem FC.addE{e:Ent}(x:FC prog w D h)(h1:h.get? e.m=some (cS "method-wrapper" "list_iterator.__next__" e.it)) (h2:h.get? e.it=some (cU e.sl e.pos)) (hn:e.m≠e.it) (hm:e.m∉D.addrs) (hi:e.it∉D.addrs) (hx:∀p∈D.xs,p.1≠e.m/\p.1≠e.it) :
 FC prog w { D with es:=D.es++[e] } h:=by
 refine⟨x.stk,x.its,x.seen,x.n2s,fun f hf=>?_,?_,x.ext,fun p hp q=>?_⟩
 rotate_left 2
 ·have h0:=x.ap p hp
  simp only[FCD.addrs,dB,j4,List.flatMap_nil,dC,ae,au,bO,cu,or_false,not_or]at q h0
  rcases q with q | q | q | q | q | q | q
  ·exact h0.1 q
  ·exact h0.2.1 q
  ·exact h0.2.2.1 q
  ·exact h0.2.2.2.1 q
  ·exact h0.2.2.2.2 q
  ·exact(hx p hp).1 q
  ·exact(hx p hp).2 q
 ·rcases au.mp hf with hf | hf
  ·exact x.ent f hf
  ·rw[ai.mp hf];exact⟨h1,h2⟩
 ·refine dl (FCD.ne x.nd) fun z0 nn nd=>?_;refine gE z0 fun n1 n2 n3 n5 n6 n8=>?_
  simp only[FCD.addrs,ae,not_or]at hm hi
  simp only[FCD.addrs,dB,j4,List.flatMap_nil,dC,bO,c6,ae,au,cu,or_false,not_or]
  refine⟨⟨n1,n2,n3,fun q=>(nn _ q).1 rfl,QE hm.1,QE hi.1⟩,⟨n5,n6,fun q=>(nn _ q).2.1 rfl,QE hm.2.1,QE hi.2.1⟩,⟨n8,fun q=>(nn _ q).2.2.1 rfl,QE hm.2.2.1,QE hi.2.2.1⟩,⟨fun q=>(nn _ q).2.2.2 rfl,QE hm.2.2.2.1,QE hi.2.2.2.1⟩,?_⟩
  rw[de]
  refine⟨nd,by simp[hn],fun c hc d hd q=>?_⟩
  simp only[ae,cu,or_false]at hd
  rcases hd with rfl | rfl
  ·exact hm.2.2.2.2 (q▸hc)
  ·exact hi.2.2.2.2 (q▸hc)
theorem yN{es:List Ent}{e f:Ent}(h:((es++[e]).flatMap bO).Nodup)(hf:f∈es):f.m≠e.m/\f.m≠e.it/\f.it≠e.m/\f.it≠e.it:=by
 rw[dB,de]at h
 refine dl h fun U U h3=>?_
 have m:∀c∈bO f,c∈es.flatMap bO:=fun c hc=>bW.mpr ⟨f,hf,hc⟩
 exact⟨h3 _ (m _ (by simp[bO])) _ (by simp[bO]),h3 _ (m _ (by simp[bO])) _ (by simp[bO]),h3 _ (m _ (by simp[bO])) _ (by simp[bO]),h3 _ (m _ (by simp[bO])) _ (by simp[bO])⟩
theorem FC.nextE{es:List Ent}{e:Ent}(x:FC prog w D h)(he:D.es=es++[e])(s:Qy e.it h h')(h2:h'.get? e.it=some (cU e.sl (e.pos+1))):FC prog w { D with es:=es++[{ e with pos:=e.pos+1 }] } h':=by
 refine dl (FCD.ne x.nd) fun z0 nn nd=>?_;refine gE z0 fun n1 n2 n3 n5 n6 n8=>?_
 have hm:e∈D.es:=by rw[he];simp
 have nn':=nn _ (gR hm).2
 have hem:e.m≠e.it:=by
  rw[he,dB,de]at nd
  have:=nd.2.1
  simp[bO]at this;exact this
 refine⟨x.stk.elim fun vs ζ=>ζ.elim fun n ζ=>ζ.elim fun e r=>⟨vs,n,s _ _ (QE nn'.1) e,r⟩,x.its.elim fun n e=>⟨n,s _ _ (QE nn'.2.1) e⟩,x.seen.elim fun n ζ=>ζ.elim fun e r=>⟨n,kP e fun o q=>s _ o (QE nn'.2.2.1) q,r⟩,x.n2s.elim fun kvs ζ=>ζ.elim fun e r=>⟨kvs,fy (fun o q=>s _ o (QE nn'.2.2.2) q) e,r⟩,fun f hf=>?_,?_,fun p hp=>s _ _ (fun q=>x.ap p hp (q▸(mV hm).2)) (x.ext p hp),fun p hp q=>x.ap p hp ?_⟩
 ·rcases au.mp hf with hf | hf
  ·refine e8 (yN (he▸nd) hf) fun q1 q2 q3 q4=>?_
   have:=x.ent f (by rw[he];exact c8 _ hf)
   exact⟨s _ _ q2 this.1,s _ _ q4 this.2⟩
  ·rw[ai.mp hf]
   exact⟨s _ _ hem (x.ent e hm).1,h2⟩
 ·have:({ D with es:=es++[{ e with pos:=e.pos+1 }] }:FCD).addrs=D.addrs:=by simp[FCD.addrs,he,bO]
  rw[this];exact x.nd
 ·have:({ D with es:=es++[{ e with pos:=e.pos+1 }] }:FCD).addrs=D.addrs:=by simp[FCD.addrs,he,bO]
  rw[this]at q;exact q
theorem FC.stopE{es:List Ent}{e:Ent}(x:FC prog w D h)(he:D.es=es++[e])(s:Qy e.it h h'):FC prog w { D with es:=es } h':=by
 refine dl (FCD.ne x.nd) fun z0 nn nd=>?_;refine gE z0 fun n1 n2 n3 n5 n6 n8=>?_
 have hm:e∈D.es:=by rw[he];simp
 have nn':=nn _ (gR hm).2
 refine⟨x.stk.elim fun vs ζ=>ζ.elim fun n ζ=>ζ.elim fun e r=>⟨vs,n,s _ _ (QE nn'.1) e,r⟩,x.its.elim fun n e=>⟨n,s _ _ (QE nn'.2.1) e⟩,x.seen.elim fun n ζ=>ζ.elim fun e r=>⟨n,kP e fun o q=>s _ o (QE nn'.2.2.1) q,r⟩,x.n2s.elim fun kvs ζ=>ζ.elim fun e r=>⟨kvs,fy (fun o q=>s _ o (QE nn'.2.2.2) q) e,r⟩,fun f hf=>?_,?_,fun p hp=>s _ _ (fun q=>x.ap p hp (q▸(mV hm).2)) (x.ext p hp),fun p hp q=>x.ap p hp ?_⟩
 ·refine e8 (yN (he▸nd) hf) fun q1 q2 q3 q4=>?_
  have:=x.ent f (by rw[he];exact c8 _ hf)
  exact⟨s _ _ q2 this.1,s _ _ q4 this.2⟩
 ·have hs:({ D with es:=es }:FCD).addrs.Sublist D.addrs:=by
   simp only[FCD.addrs,he,dB]
   exact((((List.sublist_append_left _ _).cons_cons _).cons_cons _).cons_cons _).cons_cons _
  exact x.nd.sublist hs
 ·have hs:({ D with es:=es }:FCD).addrs.Sublist D.addrs:=by
   simp only[FCD.addrs,he,dB]
   exact((((List.sublist_append_left _ _).cons_cons _).cons_cons _).cons_cons _).cons_cons _
  exact hs.subset q
end
noncomputable def iy:Str:=ofString "n2i"
noncomputable def fq:Str:=ofString "stack"
noncomputable def iz:Str:=ofString "itstack"
noncomputable def jh:Str:=ofString "seen"
noncomputable def gS:Str:=ofString "node2stacki"
noncomputable def eQ:List Str:=[aB,iy,fq,iz,jh,gS,az]
noncomputable def jT:List (Option Str):=eQ.map some
theorem Gu:eQ.all (fun x=>!(x==ofString "__debug__"))=true:=by decide +kernel
theorem tz{i:Nat}{x:Str}(e:eQ[i]? = some x):jT[i]? = some (some x):=by rw[jT,bK,e];rfl
structure FE(G:Glo)(L:SLay)(env:Env)(sc:Scope)(A:P0)(outer:List Env)(s₁:PL):Prop where
 wf:G.Wf
 ts:eM G.K TS=true
 ni:fL G.K NI=true
 sS:dM G.K NI (ofString "successors") pS 2=true
 sys:∃o,G.hB.get? Rn=some o
 hfr:A.frames=some (env::outer)
 hL:env.frame=some env.locals
 frs:je (env::outer) s₁.heap
 hok:a8 A s₁.heap
 hfp:∀b∈hfp A,¬an A b
 S:SorAt G.prog G.w L s₁.heap
 hS:∀b∈L.addrs,¬an A b
 B:∀b o,G.hB.get? b=some o->s₁.heap.get? b=some o
 hB:∀b,an A b->G.hB.get? b=none
 hBL:G.hB.get? L.n2i=none
 sto:∀b,aU env b->∃o,s₁.heap.get? b=some o
 eo:EnvOk env sc
 gl:∀x∈[ofString "set",ofString "iter",ofString "len",ofString "StopIteration"],bU sc x=true
 loc:∀x∈eQ,sc.names.lookup x=some .local
 clo:∀f∈L.inf,∀n∈f.su,∃f'∈L.inf,f'.key=n
 sm:L.inf.length<=1000
 room:A.depth+20<1000
noncomputable def kQ(L:SLay)(D:FCD)(y:SV):List SV:=[.val (.ref L.x),.val (.ref L.n2i),.val (.ref D.a1),.val (.ref D.a2),.val (.ref D.a3),.val (.ref D.a4),y]
structure FI(G:Glo)(L:SLay)(env:Env)(sc:Scope)(A:P0)(s₁:PL)(D:FCD)(y:SV)(s:PL):Prop where
 lf:LF env sc jT (kQ L D y) s.heap
 fc:FC G.prog G.w D s.heap
 ks:KS (an A) (· = env.locals) s₁ s
 new:∀c∈D.all,s₁.heap.get? c=none
section
variable{G:Glo}{L:SLay}{env:Env}{sc:Scope}{A A':P0}{outer:List Env}{s₁ s s':PL}{D D':FCD}{y y':SV}{E:PN->PL->Prop}
theorem FE.own(e:FE G L env sc A outer s₁):an A env.locals:=⟨_,e.hfr,OL.mpr ⟨env,ak,e.hL⟩⟩
theorem FE.fdict(e:FE G L env sc A outer s₁)(hb:an A b):∃o,s₁.heap.get? b=some o:=by
 refine x12 hb fun l e1 h=>?_
 rw[e.hfr]at e1;cases e1
 refine x12 (OL.mp h) fun v hv hf=>?_
 obtain⟨_,L',o,es,n,h1,h2,h3⟩:=e.frs v hv
 rw[h1]at hf;cases hf
 exact⟨o,h2⟩
theorem FI.get(e:FE G L env sc A outer s₁)(I:FI G L env sc A s₁ D y s):∀b o,¬an A b->s₁.heap.get? b=some o->s.heap.get? b=some o :=
 fun b o n q=>I.ks.get b o (fun z=>n (z▸e.own)) n q
theorem FI.S(e:FE G L env sc A outer s₁)(I:FI G L env sc A s₁ D y s):SorAt G.prog G.w L s.heap:=e.S.keeps fun b o hb q=>I.get e b o (e.hS b hb) q
theorem FI.kp(e:FE G L env sc A outer s₁)(I:FI G L env sc A s₁ D y s):∀b o,G.hB.get? b=some o->s.heap.get? b=some o :=
 fun b o q=>I.get e b o (fun z=>by rw[e.hB b z]at q;cases q) (e.B b o q)
theorem FI.inK(e:FE G L env sc A outer s₁)(I:FI G L env sc A s₁ D y s):G.K.In s.heap:=fun a o q=>I.kp e a o (e.wf.K a o q)
theorem FI.base(e:FE G L env sc A outer s₁)(I:FI G L env sc A s₁ D y s):G.Base (fun U=>False) s.heap:=⟨I.kp e,fun U q=>q.elim⟩
theorem FI.hok(e:FE G L env sc A outer s₁)(I:FI G L env sc A s₁ D y s):a8 A s.heap:=e.hok.frame fun b hb o q=>I.get e b o (e.hfp b hb) q
theorem FI.notS(e:FE G L env sc A outer s₁)(I:FI G L env sc A s₁ D y s)(hc:c∈D.all):¬aU env c:=fun q=>by
 refine x11 (e.sto c q) fun o h=>?_
 rw[I.new c hc]at h;cases h
theorem FI.notF(e:FE G L env sc A outer s₁)(I:FI G L env sc A s₁ D y s)(hc:c∈D.all):¬an A c:=fun q=>by
 refine x11 (e.fdict q) fun o h=>?_
 rw[I.new c hc]at h;cases h
theorem FI.keeps(I:FI G L env sc A s₁ D y s)(k:PY s s'):FI G L env sc A s₁ D y s' :=
 ⟨I.lf.keeps k,I.fc.keeps fun b o U q=>am k b o q,I.ks.trans (KS.of (KM.of k)),I.new⟩
theorem FI.chg{t:Nat}(e:FE G L env sc A outer s₁)(I:FI G L env sc A s₁ D y s)(hc:c∈D.addrs)(k:Qy c s.heap h')(ho:∃o,h'.get? c=some o)(fc:FC G.prog G.w D' h')(hr:kQ L D' y=kQ L D y)(hx:D'.xs=D.xs)
 (hn:∀b∈D'.addrs,b∈D.addrs\/s.heap.get? b=none):FI G L env sc A s₁ D' y { s with heap:=h',toks:=t }:=by
 refine⟨by rw[hr];exact I.lf.by fun b o hb q=>⟨o.slots,k b o (fun z=>I.notS e (FCD.all_l hc) (z▸hb)) q⟩,fc,I.ks.trans' (KS.of (KM.chg (M:=(· = c)) k ho rfl)) fun b hb=>?_,fun b hb=>?_⟩
 ·have hb:b=c:=hb
  exact .inr (hb▸I.new c (FCD.all_l hc))
 ·rcases au.mp hb with hb | hb
  ·rcases hn b hb with h | h
   ·exact I.new b (FCD.all_l h)
   ·exact I.ks.back h
  ·rw[hx]at hb
   exact I.new b (gz _ hb)
theorem FI.sto{i:Nat}{x:Str}{p:Pos}{Q:Unit->PL->Prop}(e:FE G L env sc A outer s₁)(I:FI G L env sc A s₁ D y s)(hi:eQ[i]? = some x)(hr:(kQ L D y).set i (.val v)=kQ L D' y')(hD:D'=D)
 (h:∀s',FI G L env sc A s₁ D' y' s'->Q () s'):PM (PO G.prog G.w) A' (QJ (.Name x p) env v) Q E s:=by
 subst hD
 refine I.lf.sto (tz hi) (e.loc x (aG hi)) fun s' k l=>h s' ⟨by rw[<- hr];exact l,I.fc.keeps fun b o hb q=>k.get b o (fun z=>I.notS e hb (z▸.inl rfl)) q,I.ks.trans (KS.of k),I.new⟩
theorem FI.ld{i:Nat}{x:Str}(I:FI G L env sc A s₁ D y s)(hi:eQ[i]? = some x)(hy:(kQ L D y).getD i .un=.val v)(h:Q v s):PM (PO G.prog G.w) A' (Qg (.Name x p) env) Q E s:=by
 refine I.lf.ld (tz hi) ?_ hy h
 have:=bC.mp Gu x (aG hi)
 simpa using this
theorem FE.ld_bi{p:Pos}(e:FE G L env sc A outer s₁)(I:FI G L env sc A s₁ D y s)(hx:x∈[ofString "set",ofString "iter",ofString "len",ofString "StopIteration"]) (hm:(x,v)∈cb) (h:Q v s) :
 PM (PO G.prog G.w) A' (Qg (.Name x p) env) Q E s:=gN e.wf e.eo (I.base e) (e.gl x hx) hm h
theorem FE.hint(e:FE G L env sc A outer s₁):Q1 env=false:=by unfold Q1;rw[e.eo.kindS];rfl
theorem jU:(QU G.prog G.w).is k (.int k t)=true:=intKind_is _ _ _ _
theorem yO:(Value.int k t).scannable=true:=rfl
theorem yP(I:FI G L env sc A s₁ D y s)(h:∀s',FI G L env sc A s₁ D y s'->Q (.bool (decide (k∈D.sn))) s'):PM (PO G.prog G.w) A' (compareOp .In (.int k t) (.ref D.a3)) Q E s:=by
 refine x12 I.fc.seen fun n hS U=>?_
 exact wpAny_inSet_of jU yO hS (h _ (I.keeps (ay _ _)))
theorem FE.notSys(e:FE G L env sc A outer s₁)(I:FI G L env sc A s₁ D y s)(hc:c∈D.all):(c==Rn)=false:=by
 rw[beq_eq_false_iff_ne]
 intro q
 refine x11 e.sys fun o h=>?_
 have:=e.B _ _ h
 rw[<- q,I.new c hc]at this;cases this
theorem Gv{ns:List (Int × Int)}{k:Int}(h:k∈ns.map (·.1)):∃i,(ns.find? fun p=>p.1=k)=some (k,i):=by
 cases e:ns.find? fun p=>p.1=k with
 | none =>
  refine x12 (aD.mp h) fun p hp e2=>?_;subst e2
  have:=List.find?_eq_none.mp e p hp
  simp at this
 | some p =>
  have:=List.find?_some e
  obtain⟨a,b⟩:=p
  simp at this;subst this
  exact⟨b,rfl⟩
theorem yQ{ns:List (Int × Int)}{k:Int}(h:k∉ns.map (·.1)):(ns.find? fun p=>p.1=k)=none:=by
 rw[List.find?_eq_none]
 intro p hp q
 exact h (aD.mpr ⟨p,hp,by simpa using q⟩)
theorem Gw(p:Prs kvs ns)(h:k∉ns.map (·.1)):RB kvs k=none:=by
 unfold RB
 rw[List.find?_eq_none.mpr]
 ·rfl
 ·intro q hq z
  apply h
  rw[<- p.fst]
  exact aD.mpr ⟨q,hq,by simpa using z⟩
theorem Gx{k:Int}{t:Tok}(e:FE G L env sc A outer s₁)(I:FI G L env sc A s₁ D y s)(h:∀s',FI G L env sc A s₁ D y s'->Q (.bool (decide (k∈D.ns.map (·.1)))) s'):PM (PO G.prog G.w) A' (compareOp .In (.int k t) (.ref D.a4)) Q E s:=by
 refine x12 I.fc.n2s fun kvs hD hp=>?_
 refine wpAny_in_of jU (e.notSys I (FCD.all_l (by simp[FCD.addrs]))) hD.mapOf ?_
 have hv:(RB kvs k).isSome=decide (k∈D.ns.map (·.1)):=by
  by_cases q:k∈D.ns.map (·.1)
  ·refine x11 (Gv q) fun i hi=>?_
   refine x11 (hp.at hi) fun t ht=>?_
   rw[ht];simp only[q,decide_true];rfl
  ·rw[Gw hp q];simp only[q,decide_false];rfl
 rw[hv]
 exact h _ (I.keeps (ay _ _))
theorem Gy{p1 p2 p3 ap cp:Pos}{Q:Flow->PL->Prop}(e:FE G L env sc A outer s₁)(I:FI G L env sc A s₁ D (.val (.int k t)) s)(hl:(ap.endLine==cp.line)=true)(hn:k∉D.sn)(hz:D.sn.length<=2000)
 (h:∀s',FI G L env sc A s₁ { D with sn:=D.sn++[k] } (.val (.int k t)) s'->Q .next s'):PM (PO G.prog G.w) A (exec (.Expr (.Call (.Attribute (.Name jh p1) (ofString "add") ap) [.Name az p2] [] cp) p3) env) Q E s:=by
 refine RN ?_ e.hint rfl
 refine x12 I.fc.seen fun n hS hle=>?_
 refine Rp rfl (io rfl) hl (I.ld (i:=4) rfl rfl ?_)
 refine⟨"set", "set.add",F.plainAttrs_set,F.slot_set_add,F.type_set_add,hS.typeIs,hS.noDict,?_⟩
 refine QD rfl (Qo (Qh (I.ld (i:=6) rfl rfl (Qc ?_))))
 refine call_set_add jU yO hS (by show n+1<4096;lia) fun h' hs hS'=>h _ ?_
 refine I.chg e (by simp[FCD.addrs]) hs.extBut (hS'.elim fun o ζ=>ζ.elim fun U ζ=>ζ.elim fun U ζ=>ζ.elim fun U ζ=>ζ.elim fun q U=>⟨o,q⟩) (I.fc.upd3 hs.extBut ⟨if decide (k∈D.sn)=true then n else n+1,?_,?_⟩) rfl rfl fun b hb=>.inl hb
 ·have:(fun k'=>decide (k'∈D.sn++[k]))=fun k'=>(decide (k'∈D.sn)||decide (k'=k)):=by
   funext k'
   simp[au]
  rw[this];exact hS'
 ·simp only[hn,decide_false,wj,if_false,bj,dU,Pr];lia
theorem Gz(hn:(L.inf.map (·.key)).Nodup)(hf:f∈L.inf):RB (L.inf.map fun f=>(f.key,Qd f.a)) f.key=some (.ref f.a):=by
 generalize L.inf=l at hn hf
 induction l with
 | nil=>cases hf
 | cons e r ih =>
  rw[a9,c6]at hn
  unfold RB
  rw[a9,PJ]
  rcases ae.mp hf with rfl | hf
  ·simp
  ·have:e.key≠f.key:=fun q=>hn.1 (aD.mpr ⟨f,hf,q.symm⟩)
   simp only[this,decide_false]
   exact ih hn.2 hf
theorem GA{p1 p2 p3 p4 p5 p6 p7 p8 p9 ap cp:Pos}{Q:Flow->PL->Prop}(e:FE G L env sc A outer s₁)(I:FI G L env sc A s₁ D (.val (.int f.key t)) s)(hl:(ap.endLine==cp.line)=true)(hf:f∈L.inf)(hz:D.ms.length<=2000)
 (h:∀s' m it,FI G L env sc A s₁ { D with ms:=D.ms++[m],es:=D.es++[⟨m,it,f.sl,0⟩] } (.val (.int f.key t)) s'->Q .next s') :
 PM (PO G.prog G.w) A (exec (.Expr (.Call (.Attribute (.Name iz p1) (ofString "append") ap) [.Attribute (.Call (.Name (ofString "iter") p2) [.Attribute (.Subscript (.Name iy p3) (.Name az p4) p5) (ofString "successors") p6] [] p7) (ofString "__next__") p8] [] cp) p9) env) Q E s:=by
 refine RN ?_ e.hint rfl
 refine x11 I.fc.its fun n hI=>?_
 refine Rp rfl (io rfl) hl (I.ld (i:=3) rfl rfl ?_)
 refine⟨"list", "list.append",Rh,Se,Sg,hI.isList.typeIs,(fun b e=>by cases e;exact⟨_,hI,rfl⟩),?_⟩
 refine QD rfl (Qo (Qh ?_))
 rw[arm_eval_Attribute]
 refine PK ?_
 show PM _ A (Qg (.Call (.Name (ofString "iter") p2) [.Attribute (.Subscript (.Name iy p3) (.Name az p4) p5) (ofString "successors") p6] [] p7) env) _ _ s
 refine dY (fun a ha=>by rw[ai.mp ha];rfl) (e.ld_bi I (by simp) (v:=.builtin "iter") (by simp[cb]) ?_)
 refine QD (gg _) (Qo (Qh ?_))
 rw[arm_eval_Attribute]
 refine PK ?_
 show PM _ A (Qg (.Subscript (.Name iy p3) (.Name az p4) p5) env) _ _ s
 have S0:=I.S e
 refine kF (I.ld (i:=1) rfl rfl (I.ld (i:=6) rfl rfl ⟨"dict",_,slot_dict_getitem.lookup,S0.n2i.typeIs,wpAny_getItem_of jU S0.n2i.mapOf (Gz S0.keys hf) ?_⟩))
 have I1:=I.keeps (ay s (s.toks+1))
 refine PK (Ql (PK (Qj (yr (I1.inK e) e.ni e.sS (I1.S e) hf ?_))))
 have I2:=I1.keeps (ay _ (s.toks+1+1))
 refine PK (pE (PU (Qc ?_)))
 obtain⟨_,_,vsl,nsl,hsl,_⟩:=(I2.S e).info f hf
 refine call_function_entry (by decide +kernel) (by decide +kernel) kdk_entry_iter (kdk_args_iter _) ?_
 unfold QQ.«iter»
 refine PK (m:=someArgs "iter" 1 2 _) (RS (a:=[Qd f.sl]) (by first | rfl | kernel_rfl!) ?_)
 show PM _ _ (pyIter (.ref f.sl) >>= _) _ _ _
 refine PK (wpAny_pyIter_list hsl.isList ?_)
 refine PU ⟨_,rfl,?_⟩
 generalize hs3:({ s with toks:=s.toks+1+1 }:PL)=s3 at I2
 have e3:s.heap=s3.heap:=by rw[<- hs3]
 show PM _ _ (RX p8.atName >>= _) _ _ { s3 with heap:=s3.heap.push (cU f.sl 0) }
 have I3:FI G L env sc A s₁ D (.val (.int f.key t)) { s3 with heap:=s3.heap.push (cU f.sl 0) }:=I2.keeps (bL _)
 refine PK (Ql (PK (Qj ?_)))
 refine Gk (a:=s3.heap.objs.size) (vs:=#[.ref f.sl,.int 0 0]) (PZ _ rfl) ?_
 refine PK (pE (PU (Qc ?_)))
 have hz4:(s3.heap.push (cU f.sl 0)).objs.size=s3.heap.objs.size+1:=QF ..
 have I4:FI G L env sc A s₁ D (.val (.int f.key t)) { s3 with heap:=(s3.heap.push (cU f.sl 0)).push (cS "method-wrapper" "list_iterator.__next__" s3.heap.objs.size),toks:=s3.toks+1 } :=
  I3.keeps (bL _)
 have hxs:∀p∈D.xs,p.1≠(s3.heap.push (cU f.sl 0)).objs.size/\p.1≠s3.heap.objs.size:=fun p hp=>by
  have:=Qe (I2.fc.ext p hp)
  exact⟨by rw[hz4];exact dT (ei this),dT this⟩
 have fr:∀c∈D.addrs,c<s3.heap.objs.size:=fun c hc=>(I2.fc.there hc).elim fun o q=>Qe q
 have hm:(s3.heap.push (cU f.sl 0)).objs.size∉D.addrs:=fun q=>by
  have:=fr _ q
  rw[hz4]at this
  exact absurd this (c5.mpr (fV _))
 have hi:s3.heap.objs.size∉D.addrs:=fun q=>bl _ (fr _ q)
 have rE:=I4.fc.addE (hx:=hxs) (e:=⟨(s3.heap.push (cU f.sl 0)).objs.size,s3.heap.objs.size,f.sl,0⟩) (PZ _ rfl) (PX _ (PZ _ rfl)) (by rw[hz4];exact Nat.succ_ne_self _) hm hi
 have fresh1:∀b,@LE.le Nat _ s3.heap.objs.size b->s₁.heap.get? b=none:=fun b hb=>I2.ks.back (by
  cases q:s3.heap.get? b with
  | none=>rfl
  | some o=>exact absurd (Qe q) (c5.mpr hb))
 refine x11 I4.fc.its fun n5 hI5=>?_
 have hfin:n5=n5:=rfl
 refine append_at hI5 (fun h' hs hD=>h _ (s3.heap.push (cU f.sl 0)).objs.size s3.heap.objs.size ?_) (by rw[oR,ag];show D.ms.length<=Q7;rw[QP];lia)
 have up:=rE.upd2 (ms:=D.ms++[(s3.heap.push (cU f.sl 0)).objs.size]) hs.extBut ⟨n5+1,by
  have q:((D.ms.map Qd).toArray.push (.ref (s3.heap.push (cU f.sl 0)).objs.size))=((D.ms++[(s3.heap.push (cU f.sl 0)).objs.size]).map Qd).toArray:=by simp
  rw[<- q];exact hD⟩
 refine(⟨I4.lf.by fun b o hb q=>⟨o.slots,hs.extBut b o (fun z=>?_) q⟩,up,I4.ks.trans' (KS.of (KM.chg (M:=(· = D.a2)) hs.extBut ⟨_,hD⟩ rfl)) fun b hb=>?_,fun b hb=>?_⟩:FI G L env sc A s₁ { D with ms:=D.ms++[(s3.heap.push (cU f.sl 0)).objs.size],es:=D.es++[⟨(s3.heap.push (cU f.sl 0)).objs.size,s3.heap.objs.size,f.sl,0⟩] } (.val (.int f.key t)) { s3 with heap:=h',toks:=s3.toks+1 })
 ·exact I.notS e (c:=D.a2) (FCD.all_l (by simp[FCD.addrs])) (z▸hb)
 ·have hb:b=D.a2:=hb
  exact .inr (hb▸I.new _ (FCD.all_l (by simp[FCD.addrs])))
 ·rcases au.mp hb with hb | hb
  rotate_left
  ·exact I.new b (gz _ hb)
  simp only[FCD.addrs,dB,ae,au,j4,List.flatMap_nil,dC,bO,cu,or_false]at hb
  have old:b∈D.addrs->s₁.heap.get? b=none:=fun q=>I.new b (FCD.all_l q)
  rcases hb with q | q | q | q | q | q | q
  ·exact old (by simp[FCD.addrs,q])
  ·exact old (by simp[FCD.addrs,q])
  ·exact old (by simp[FCD.addrs,q])
  ·exact old (by simp[FCD.addrs,q])
  ·exact old (by simp only[FCD.addrs,ae];exact .inr (.inr (.inr (.inr q))))
  ·rw[q,hz4];exact fresh1 _ (fV _)
  ·rw[q];exact fresh1 _ (aN _)
end
section
variable{G:Glo}{L:SLay}{env:Env}{sc:Scope}{A A':P0}{outer:List Env}{s₁ s s':PL}{D D':FCD}{y y':SV}{E:PN->PL->Prop}
theorem GB{p1 p2 p3 p4 p5 p6 p7:Pos}{Q:Flow->PL->Prop}(e:FE G L env sc A outer s₁)(I:FI G L env sc A s₁ D (.val (.int k t)) s)(hn:k∉D.ns.map (·.1))(hz:D.ns.length<=2000)(hz2:D.ks.length<=2000)
 (h:∀s',FI G L env sc A s₁ { D with ns:=D.ns++[(k,(D.ks.length:Int))] } (.val (.int k t)) s'->Q .next s') :
 PM (PO G.prog G.w) A (exec (.Assign [.Subscript (.Name gS p1) (.Name az p2) p3] (.Call (.Name (ofString "len") p4) [.Name fq p5] [] p6) p7) env) Q E s:=by
 refine wpAny_Assign_Subscript ?_ rfl
 refine x22 I.fc.stk fun vs n hK hi=>?_
 have hlen:vs.size=D.ks.length:=by rw[<- cQ];exact IntsAre.len hi
 refine dY (fun a ha=>by rw[ai.mp ha];rfl) (e.ld_bi I (by simp) (v:=.builtin "len") (by simp[cb]) ?_)
 refine QD (gg _) (Qo (Qh (I.ld (i:=2) rfl rfl (Qc ?_))))
 refine len_list hK.isList (by rw[hlen];lia) ?_
 have I1:=I.keeps (ay s (s.toks+1+1))
 refine I1.ld (i:=5) rfl rfl ?_
 refine I1.ld (i:=6) rfl rfl ?_
 refine x12 I1.fc.n2s fun kvs hD hp=>?_
 refine wpAny_setItem_pairs jU hD (fun h' hm hs=>h _ ?_) (by rw[hp.len,QP];lia)
 have hst:stored kvs k (.int vs.size (s.toks+1))=kvs++[(k,.int vs.size (s.toks+1))]:=by
  unfold stored
  rw[if_neg]
  intro q
  apply hn
  refine x12 (eH.mp q) fun p hpm hq=>?_
  rw[<- hp.fst]
  exact aD.mpr ⟨p,hpm,by simpa using hq⟩
 rw[hst]at hm
 refine I1.chg e (c:=D.a4) (by simp[FCD.addrs]) hs.extBut (hm.elim fun o ζ=>ζ.elim fun U ζ=>ζ.elim fun U ζ=>ζ.elim fun q U=>⟨o,q⟩) (I1.fc.upd4 hs.extBut ⟨_,hm,?_⟩) rfl rfl fun b hb=>.inl hb
 rw[<- hlen];exact hp.snoc
theorem GC{p1 p2 p3 ap cp:Pos}{Q:Flow->PL->Prop}(e:FE G L env sc A outer s₁)(I:FI G L env sc A s₁ D (.val (.int k t)) s)(hl:(ap.endLine==cp.line)=true)(hz:D.ks.length<=2000)
 (h:∀s',FI G L env sc A s₁ { D with ks:=D.ks++[k] } (.val (.int k t)) s'->Q .next s') :
 PM (PO G.prog G.w) A (exec (.Expr (.Call (.Attribute (.Name fq p1) (ofString "append") ap) [.Name az p2] [] cp) p3) env) Q E s:=by
 refine RN ?_ e.hint rfl
 refine x22 I.fc.stk fun vs n hK hi=>?_
 have hlen:vs.size=D.ks.length:=by rw[<- cQ];exact IntsAre.len hi
 refine Rp rfl (io rfl) hl (I.ld (i:=2) rfl rfl ?_)
 refine⟨"list", "list.append",Rh,Se,Sg,hK.isList.typeIs,(fun b e=>by cases e;exact⟨_,hK,rfl⟩),?_⟩
 refine QD rfl (Qo (Qh (I.ld (i:=6) rfl rfl (Qc ?_))))
 refine append_at hK (fun h' hs hD=>h _ ?_) (by show vs.size<=Q7;rw[hlen,QP];lia)
 exact I.chg (t:=s.toks) e (c:=D.a1) (by simp[FCD.addrs]) hs.extBut ⟨_,hD⟩ (I.fc.upd1 hs.extBut ⟨_,_,hD,yw hi⟩) rfl rfl fun b hb=>.inl hb
theorem GD(h:Rb vs (is++[k])):∃us t,vs=us++[.int k t]/\Rb us is:=by
 induction is generalizing vs with
 | nil =>
  cases h with
  | cons x t r=>cases r;exact⟨[],t,rfl,.nil⟩
 | cons i is ih =>
  cases h with
  | cons x t r =>
   refine x22 (ih r) fun us t' e2 hu=>?_;subst e2
   exact⟨_,t',rfl,.cons _ _ hu⟩
theorem yR(us:List PN)(v:PN):(us++[v]).toArray.eraseIdxIfInBounds ((us++[v]).toArray.size - 1)=us.toArray:=by
 apply Array.ext'
 simp
 rw[List.eraseIdx_append_of_length_le (aN _)];simp
theorem GE{k:Int}{ks:List Int}{p1 ap cp:Pos}{Q:PN->PL->Prop}(e:FE G L env sc A outer s₁)(I:FI G L env sc A s₁ D y s)(hl:(ap.endLine==cp.line)=true)(hk:D.ks=ks++[k])(hz:D.ks.length<=2000)
 (h:∀s' t,FI G L env sc A s₁ { D with ks:=ks } y s'->Q (.int k t) s') :
 PM (PO G.prog G.w) A' (Qg (.Call (.Attribute (.Name fq p1) (ofString "pop") ap) [] [] cp) env) Q E s:=by
 refine x22 I.fc.stk fun vs n hK hi=>?_
 have hlen:vs.size=D.ks.length:=by rw[<- cQ];exact IntsAre.len hi
 rw[hk]at hi
 refine x22 (GD hi) fun us t hv hu=>?_
 have hvs:vs=(us++[Value.int k t]).toArray:=by rw[<- hv]
 subst hvs
 refine Call_method0 rfl hl (I.ld (i:=2) rfl rfl ?_)
 refine⟨"list", "list.pop",Rh,F.slot_list_pop,F.type_list_pop,hK.isList.typeIs,(fun b e=>by cases e;exact⟨_,hK,rfl⟩),?_⟩
 refine method_meets F.slot_list_pop F.entry_list_pop rfl (PySem.evalArgs_none ⟨rfl,hK.isList.typeIs,F.args_list_pop_1 _,_,PySem.MeetsSeq.list_pop_last D.a1 _ n (.int k t) (by simp) (by rw[hlen,QP];lia),hK,?_⟩)
 have hu':=IsL.update hK (fun xs=>xs.eraseIdxIfInBounds ((us++[Value.int k t]).toArray.size - 1))
 refine h _ t (I.chg (t:=s.toks) e (c:=D.a1) (by simp[FCD.addrs]) (Qr ..).extBut ⟨_,hu'⟩ (I.fc.upd1 (Qr ..).extBut ⟨_,_,hu',?_⟩) rfl rfl fun b hb=>.inl hb)
 rw[yR]
 simpa using hu
theorem GF{p1 p2 ap cp:Pos}{Q:Flow->PL->Prop}(e:FE G L env sc A outer s₁)(I:FI G L env sc A s₁ D y s)(hl:(ap.endLine==cp.line)=true)(hk:D.ms=ms++[m])(hz:D.ms.length<=2000)
 (h:∀s',FI G L env sc A s₁ { D with ms:=ms } y s'->Q .next s') :
 PM (PO G.prog G.w) A' (exec (.Expr (.Call (.Attribute (.Name iz p1) (ofString "pop") ap) [] [] cp) p2) env) Q E s:=by
 refine wpAny_Expr_any ?_ e.hint rfl
 refine x11 I.fc.its fun n hK=>?_
 have hv:(D.ms.map Qd).toArray=(ms.map Qd++[Qd m]).toArray:=by rw[hk];simp
 rw[hv]at hK
 refine Call_method0 rfl hl (I.ld (i:=3) rfl rfl ?_)
 refine⟨"list", "list.pop",Rh,F.slot_list_pop,F.type_list_pop,hK.isList.typeIs,(fun b e=>by cases e;exact⟨_,hK,rfl⟩),?_⟩
 refine method_meets F.slot_list_pop F.entry_list_pop rfl (PySem.evalArgs_none ⟨rfl,hK.isList.typeIs,F.args_list_pop_1 _,_,PySem.MeetsSeq.list_pop_last D.a2 _ n (.ref m) (by simp) (by
  rw[oR,bj,ag,QP]
  have:=hz
  rw[hk,bj]at this
  simp at this ⊢;lia),hK,?_⟩)
 have hu':=IsL.update hK (fun xs=>xs.eraseIdxIfInBounds ((ms.map Qd++[Qd m]).toArray.size - 1))
 rw[yR]at hu'
 exact h _ (I.chg (t:=s.toks) e (c:=D.a2) (by simp[FCD.addrs]) (Qr ..).extBut ⟨_,hu'⟩ (I.fc.upd2 (Qr ..).extBut ⟨_,hu'⟩) rfl rfl fun b hb=>.inl hb)
end
noncomputable def aJ(g:Gr)(k:Int):List Int:=match g.find? (fun p=>p.1=k)with
 | some p=>p.2.2
 | none=>[]
noncomputable def cV(g:Gr):List (Int × Nat)->List (Int × Nat) × Option Int
 | []=>([],none)
 | (k,i)::r=>match(aJ g k)[i]? with
  | some n=>((k,i+1)::r,some n)
  | none=>cV g r
theorem ji:cV g ((k,i)::r)=match(aJ g k)[i]? with
 | some n=>((k,i+1)::r,some n)
 | none=>cV g r:=rfl
noncomputable def dA(st:List (Int × Nat)):List Int:=(st.map (·.1)).reverse
noncomputable def iA(st:List (Int × Nat))(k:Int):List Int:=(dA st).drop ((dA st).idxOf k)++[k]
noncomputable def ex(g:Gr):Nat->Int->List (Int × Nat)->List Int->Option (List Int ⊕ List Int)
 | 0,_,_,_=>none
 | n+1,k,st,sn=>if k∈sn/\k∈dA st then some (.inl (iA st k))else
  match cV g (if k∈sn then st else(k,0)::st)with
  | (_,none)=>some (.inr (if k∈sn then sn else sn++[k]))
  | (st',some k')=>ex g n k' st' (if k∈sn then sn else sn++[k])
theorem mW{g:Gr}{n:Nat}{k:Int}{st:List (Int × Nat)}{sn:List Int}:ex g (n+1) k st sn=if k∈sn/\k∈dA st then some (.inl (iA st k))else
 match cV g (if k∈sn then st else(k,0)::st)with
 | (_,none)=>some (.inr (if k∈sn then sn else sn++[k]))
 | (st',some k')=>ex g n k' st' (if k∈sn then sn else sn++[k]):=rfl
noncomputable def fQ(g:Gr)(N:Nat):List Int->List Int->Option (Option (List Int))
 | [],_=>some none
 | k::ks,sn=>if k∈sn then fQ g N ks sn else match ex g N k [] sn with
  | none=>none
  | some (.inl c)=>some (some c)
  | some (.inr sn')=>fQ g N ks sn'
theorem mX{g:Gr}{N:Nat}{k:Int}{ks sn:List Int}:fQ g N (k::ks) sn=if k∈sn then fQ g N ks sn else match ex g N k [] sn with
 | none=>none
 | some (.inl c)=>some (some c)
 | some (.inr sn')=>fQ g N ks sn':=rfl
noncomputable def kR(g:Gr)(N:Nat):Option (Option (List Int)):=fQ g N (g.map (·.1)) []
inductive Stk(L:SLay):List (Int × Nat)->List Int->List Ent->List (Int × Int)->Prop
 | nil:Stk L [] [] [] []
 | cons {st ks es ns i e f}:Stk L st ks es ns->f∈L.inf->e.sl=f.sl->e.pos=i->Stk L ((f.key,i)::st) (ks++[f.key]) (es++[e]) (ns++[(f.key,(st.length:Int))])
section
variable{L:SLay}{st:List (Int × Nat)}{ks:List Int}{es:List Ent}{ns:List (Int × Int)}
theorem Stk.eqK(x:Stk L st ks es ns):ks=dA st:=by
 induction x with
 | nil=>rfl
 | cons _ _ _ _ ih=>simp[dA,ih]
theorem Stk.eqN(x:Stk L st ks es ns):ns.map (·.1)=ks:=by
 induction x with
 | nil=>rfl
 | cons _ _ _ _ ih=>simp[ih]
theorem Stk.len(x:Stk L st ks es ns):ks.length=st.length/\es.length=st.length/\ns.length=st.length:=by
 induction x with
 | nil=>exact⟨rfl,rfl,rfl⟩
 | cons _ _ _ _ ih=>simp[ih]
theorem Stk.find(x:Stk L st ks es ns)(h:k∈ks):(ns.find? fun p=>p.1=k)=some (k,(ks.idxOf k:Int)):=by
 induction x with
 | nil=>cases h
 | @cons st ks es ns i e f x' hf h1 h2 ih =>
  rw[List.find?_append]
  by_cases q:k∈ks
  ·rw[ih q,List.idxOf_append,if_pos q];rfl
  ·have hk:k=f.key:=by
    rcases au.mp h with h | h
    ·exact absurd h q
    ·simpa using h
   subst hk
   rw[yQ (by rw[x'.eqN];exact q),List.idxOf_append,if_neg q]
   simp[x'.len.1]
theorem Stk.mem(x:Stk L st ks es ns)(h:k∈ks):∃f∈L.inf,f.key=k:=by
 induction x with
 | nil=>cases h
 | @cons st ks es ns i e f x' hf h1 h2 ih =>
  rcases au.mp h with h | h
  ·exact ih h
  ·exact⟨f,hf,by simpa using Eq.symm (by simpa using h)⟩
end
theorem yS{L:SLay}{f:NInf}(hn:(L.inf.map (·.key)).Nodup)(hf:f∈L.inf):aJ L.gr f.key=f.su:=by
 unfold aJ SLay.gr
 generalize L.inf=l at hn hf
 induction l with
 | nil=>cases hf
 | cons e r ih =>
  rw[a9,c6]at hn
  rw[a9,PJ]
  rcases ae.mp hf with rfl | hf
  ·simp
  ·have:e.key≠f.key:=fun q=>hn.1 (aD.mpr ⟨f,hf,q.symm⟩)
   simp only[this,decide_false]
   exact ih hn.2 hf
structure FSt(G:Glo)(L:SLay)(env:Env)(sc:Scope)(A:P0)(s₁:PL)(D:FCD)(st:List (Int × Nat))(sn:List Int)(y:SV)(s:PL):Prop where
 I:FI G L env sc A s₁ D y s
 stk:Stk L st D.ks D.es D.ns
 ms:D.ms=D.es.map (·.m)
 esn:D.sn=sn
 snl:sn.length<=L.inf.length
 nd:sn.Nodup
 sub:∀k∈sn,∃f∈L.inf,f.key=k
 kin:∀k∈D.ks,k∈sn
 knd:D.ks.Nodup
section
variable{G:Glo}{L:SLay}{env:Env}{sc:Scope}{A A':P0}{outer:List Env}{s₁ s s':PL}{D D':FCD}{y y':SV}{E:PN->PL->Prop}{st:List (Int × Nat)}{sn:List Int}
theorem pV:∀ {a b:List Int},a.Nodup->(∀k∈a,k∈b)->a.length<=b.length
 | [],_,_,_=>bx _
 | x::r,b,hn,h=>by
  rw[c6]at hn
  have h1:=pV (a:=r) (b:=b.erase x) hn.2 fun k hk=>(List.mem_erase_of_ne (fun(q:k=x)=>hn.1 (q▸hk))).mpr (h k (ar _ hk))
  have hx:=h x ak
  rw[List.length_erase_of_mem hx]at h1
  have:=List.length_pos_of_mem hx
  rw[dU];lia
theorem FSt.kl(F:FSt G L env sc A s₁ D st sn y s):D.ks.length<=L.inf.length:=by
 have:=pV F.knd F.kin
 have:=F.snl
 lia
theorem GG{p1 p2 p3 p4 p5 p6 p7 p8 p9 p10 p11 p12 p13 p14 p15 p16 p17 p18 p19 p20 p21 p22 ap1 cp1 ap2 cp2 ap3 cp3:Pos}{Q:Flow->PL->Prop}(e:FE G L env sc A outer s₁)(F:FSt G L env sc A s₁ D st sn (.val (.int f.key t)) s)(hf:f∈L.inf)(hn:f.key∉sn)
 (hl1:(ap1.endLine==cp1.line)=true) (hl2:(ap2.endLine==cp2.line)=true) (hl3:(ap3.endLine==cp3.line)=true)
 (h:∀s' D',FSt G L env sc A s₁ D' ((f.key,0)::st) (sn++[f.key]) (.val (.int f.key t)) s'->D'.xs=D.xs->Q .next s') :
 PM (PO G.prog G.w) A (QG [.Expr (.Call (.Attribute (.Name jh p1) (ofString "add") ap1) [.Name az p2] [] cp1) p3,
  .Expr (.Call (.Attribute (.Name iz p4) (ofString "append") ap2) [.Attribute (.Call (.Name (ofString "iter") p5) [.Attribute (.Subscript (.Name iy p6) (.Name az p7) p8) (ofString "successors") p9] [] p10) (ofString "__next__") p11] [] cp2) p12,
  .Assign [.Subscript (.Name gS p13) (.Name az p14) p15] (.Call (.Name (ofString "len") p16) [.Name fq p17] [] p18) p19,
  .Expr (.Call (.Attribute (.Name fq p20) (ofString "append") ap3) [.Name az p21] [] cp3) p22] env) Q E s:=by
 have hsm:=e.sm
 have hkl:=F.kl
 have hsl:=F.snl
 have hln:=F.stk.len
 have hsn:f.key∉D.sn:=by rw[F.esn];exact hn
 have hkn:f.key∉D.ks:=fun q=>hn (F.kin _ q)
 have hnn:f.key∉D.ns.map (·.1):=by rw[F.stk.eqN];exact hkn
 have hml:D.ms.length=D.ks.length:=by rw[F.ms,ag,hln.2.1,hln.1]
 refine PS (Gy e F.I hl1 hsn (by rw[F.esn];lia) fun s2 I2=>?_)
 refine PS (GA e I2 hl2 hf (by show D.ms.length<=2000;lia) fun s3 m it I3=>?_)
 refine PS (GB e I3 hnn (by show D.ns.length<=2000;lia) (by show D.ks.length<=2000;lia) fun s4 I4=>?_)
 refine PS (GC e I4 hl3 (by show D.ks.length<=2000;lia) fun s5 I5=>Qa ?_)
 have hnd:(sn++[f.key]).Nodup:=by
  rw[de]
  exact⟨F.nd,by simp,fun a ha b hb q=>hn (by rw[ai.mp hb]at q;exact q▸ha)⟩
 have hsub:∀k∈sn++[f.key],∃f∈L.inf,f.key=k:=fun k hk=>by
  rcases au.mp hk with hk | hk
  ·exact F.sub k hk
  ·exact⟨f,hf,by simpa using Eq.symm (by simpa using hk)⟩
 refine h s5 _ ⟨I5,?_,?_,?_,?_,hnd,hsub,?_,?_⟩ rfl
 ·have:=F.stk.cons (e:=⟨m,it,f.sl,0⟩) hf rfl rfl
  rw[<- hln.1]at this;exact this
 ·simp[F.ms]
 ·simp[F.esn]
 ·have:=pV (b:=L.inf.map (·.key)) hnd fun k hk=>(hsub k hk).elim fun f ζ=>ζ.elim fun h1 h2=>aD.mpr ⟨f,h1,h2⟩
  rw[ag]at this;exact this
 ·intro k hk
  rcases au.mp hk with hk | hk
  ·exact c8 _ (F.kin k hk)
  ·exact gz _ hk
 ·show(D.ks++[f.key]).Nodup
  rw[de]
  exact⟨F.knd,by simp,fun a ha b hb q=>hkn (by rw[ai.mp hb]at q;exact q▸ha)⟩
end
theorem GH:RQ (.type "StopIteration") (.type "BaseException")=pure true:=by rw[QI];kernel_rfl
theorem GJ:RQ (.type ((Manifest.find? "StopIteration").elim "type" fun x=>x.metatype)) (.type "tuple")=pure false:=by
 have e:(Manifest.find? "StopIteration").elim "type" (fun x=>x.metatype) = "type":=by decide +kernel
 rw[e,QI];kernel_rfl
noncomputable def pW(A:P0)(a:PP)(h h₂:Qk):Prop:=(∀b o,b≠a->h.get? b=some o->∃sl,h₂.get? b=some { o with slots:=sl }/\(¬an A b->sl=o.slots))/\∃o,h₂.get? a=some o
theorem pW.get(x:pW A a h h₂):∀b o,b≠a->¬an A b->h.get? b=some o->h₂.get? b=some o:=fun b o n nf e=>by
 refine x12 (x.1 b o n e) fun sl q1 q2=>?_
 rw[q1,q2 nf]
noncomputable def gU(l:List Env)(a:PP)(h:Qk):Qk:=hideAll h (a::l.filterMap (·.frame))
theorem tA(e:h.get? b=some o)(n:b≠a)(nf:b∉l.filterMap (·.frame)):(gU l a h).get? b=some o :=
 hideAll_get _ e fun q=>(ae.mp q).elim n nf
theorem tB(fr:je l h)(x:∃oe vs a0,h.get? a=some oe/\oe.cls=cls/\oe.data=.fields vs/\vs[0]? = some a0/\vs[1]? = some .none):eO (gU l a h) l a cls h :=
 ⟨fun b o e=>of_hideAll _ e,hideAll_none _ ak,yL fr fun b hb=>hideAll_none _ (ar _ hb),.inl x⟩
theorem tC{A:P0}{l:List Env}{a:PP}{h h₂ B:Qk}(hfr:A.frames=some l)(fr:je l h)(hB:∀b o,b≠a->¬an A b->h.get? b=some o->B.get? b=some o)(k:B.StaysIn h₂)(u:h.UpToSlots h₂)(ha:∃o,h₂.get? a=some o):pW A a h h₂:=by
 refine⟨fun b o n e=>?_,ha⟩
 by_cases q:an A b
 ·refine x12 q fun l' e' hb=>?_
  have q:an A b:=⟨l',e',hb⟩
  rw[hfr]at e';cases e'
  refine x12 (OL.mp hb) fun v hv hf=>?_
  obtain⟨_,L',o',es,m,h1,h2,h3⟩:=fr v hv
  rw[h1]at hf;cases hf
  rw[h2]at e;cases e
  obtain⟨sl,q'⟩:=u b o h2 fun vs z=>by rw[h3]at z;cases z
  exact⟨sl,q',fun z=>absurd q z⟩
 ·exact⟨o.slots,k b o (hB b o n q e),fun U=>rfl⟩
section
variable{G:Glo}{L:SLay}{env:Env}{sc:Scope}{A A':P0}{outer:List Env}{s₁ s s':PL}{D D':FCD}{y y':SV}{E:PN->PL->Prop}{st:List (Int × Nat)}{sn:List Int}
theorem FI.noted(e:FE G L env sc A outer s₁)(I:FI G L env sc A s₁ D y s)(x:pW A a s.heap h₂)(ha:s₁.heap.get? a=none)(hd:a∉D.all):FI G L env sc A s₁ D y { s with heap:=h₂ }:=by
 refine⟨I.lf.by fun b o hb q=>?_,I.fc.keeps fun b o hb q=>x.get b o (fun z=>hd (z▸hb)) (I.notF e hb) q,?_,I.new⟩
 ·refine x12 (x.1 b o (fun z=>by obtain⟨o',q'⟩:=e.sto b hb;rw[z,ha]at q';cases q') q) fun sl q1 U=>?_
  exact⟨sl,q1⟩
 ·refine I.ks.trans' (F:=an A) (N:=(· = a)) ⟨h₂,s.toks,rfl,fun b o n q=>x.1 b o n q,fun b o q=>?_⟩ fun b hb=>?_
  ·by_cases z:b=a
   ·exact z▸x.2
   ·obtain⟨sl,q1,_⟩:=x.1 b o z q;exact⟨_,q1⟩
  ·have hb:b=a:=hb
   exact .inr (hb▸ha)
theorem FI.frs(e:FE G L env sc A outer s₁)(I:FI G L env sc A s₁ D y s):je (env::outer) s.heap:=by
 intro v hv
 obtain⟨h1,L',o,es,n,h2,h3,h4⟩:=e.frs v hv
 by_cases q:L'=env.locals
 ·subst q
  obtain⟨val,f,_⟩:=I.lf.vars
  obtain⟨m,⟨o',es',ep,q1,q2,_⟩,_⟩:=f.loc
  exact⟨h1,_,o',es',ep,h2,q1,q2⟩
 ·obtain⟨sl,q'⟩:=I.ks.slot L' o q h3
  exact⟨h1,L',_,es,n,h2,q',h4⟩
theorem GK{k:Int}{ks:List Int}{ns:List (Int × Int)}{i:Int}{p1 p2 p3 p4 ap cp:Pos}{Q:Flow->PL->Prop}(e:FE G L env sc A outer s₁)(I:FI G L env sc A s₁ D y s)(hl:(ap.endLine==cp.line)=true)(hk:D.ks=ks++[k])(hn:D.ns=ns++[(k,i)])(hkn:k∉ns.map (·.1))(hz:D.ks.length<=2000)(hz2:D.ns.length<=2000)
 (h:∀s',FI G L env sc A s₁ { D with ks:=ks,ns:=ns } y s'->Q .next s') :
 PM (PO G.prog G.w) A' (exec (.Delete [.Subscript (.Name gS p1) (.Call (.Attribute (.Name fq p2) (ofString "pop") ap) [] [] cp) p3] p4) env) Q E s:=by
 refine wpAny_Delete (wpAny_deleteEach_cons (wpAny_delete_Subscript (I.ld (i:=5) rfl rfl ?_)))
 refine GE e I hl hk hz fun s2 t I2=>?_
 obtain⟨kvs,hD,hp⟩:=I2.fc.n2s
 have hfk:(D.ns.find? fun p=>p.1=k)=some (k,i):=by
  rw[hn,List.find?_append,yQ hkn];simp
 obtain⟨tv,hv⟩:=hp.at (k:=k) hfk
 refine wpAny_delItem_slot hD.typeIs (by decide) F.slot_dict_delitem ?_
 refine call_meetsIn F.slot_dict_delitem hD.typeIs F.entry_dict_delitem (F.args_dict_delitem_2 _ _) (meets_dict_delitem_pairs (QU G.prog G.w) D.a4 jU) ⟨kvs,hD,by rw[hp.len,QP];exact aa hz2 (by decide),by rw[hv];rfl,fun h' hm hs=>?_⟩
 refine wpAny_deleteEach_nil (h _ ?_)
 refine I2.chg e (c:=D.a4) (by simp[FCD.addrs]) hs.extBut (hm.elim fun o ζ=>ζ.elim fun U ζ=>ζ.elim fun U ζ=>ζ.elim fun q U=>⟨o,q⟩) (I2.fc.upd4 hs.extBut ⟨_,hm,?_⟩) rfl rfl fun b hb=>.inl hb
 have h1:=hp.filt (k:=k)
 have h2:(D.ns.filter fun p=>decide (p.1≠k))=ns:=by
  rw[hn,List.filter_append]
  have:ns.filter (fun p=>decide (p.1≠k))=ns:=List.filter_eq_self.mpr fun p hpm=>by
   simp only[ne_eq,decide_not,jx,decide_eq_false_iff_not]
   exact fun q=>hkn (aD.mpr ⟨p,hpm,q⟩)
  rw[this];simp
 have h3:Prs (kvs.filter fun p=>decide (p.1≠k)) (D.ns.filter fun p=>decide (p.1≠k)):=h1
 rw[h2]at h3
 exact h3
theorem GL{m a:PP}{id:String}(hm:s.heap.get? m=some (cS "method-wrapper" id a)) (h:PM (PO G.prog G.w) A (call (.ref m) []) Q E s):PM (PO G.prog G.w) A (callWith pos (.ref m) [] [] []) Q E s:=by
 unfold callWith
 refine PK (Qj (ik (as:=[]) (env:=Ri) (Qc ?_)))
 refine PK (Ql ?_)
 refine PK (PK ?_)
 refine PK (wpAny_load hm (PU ?_))
 show PM _ _ (pure Keeper.machine) _ _ s
 refine PU ?_
 refine PK (PR h (fun v s' h'=>PK (Qj (wpAny_point (PU h')))) fun U U x=>x)
end
theorem GM{vs:List PN}{is:List Int}{i:Nat}{k:Int}(h:Rb vs is)(hk:is[i]? = some k):∃t,vs[i]? = some (.int k t):=by
 induction h generalizing i with
 | nil=>simp at hk
 | cons x t r ih =>
  cases i with
  | zero=>simp at hk;subst hk;exact⟨t,rfl⟩
  | succ i=>simp at hk;simpa using ih hk
theorem GN{vs:List PN}{is:List Int}{i:Nat}(h:Rb vs is)(hk:is[i]? = none):vs[i]? = none:=by
 rw[CF]at hk ⊢
 rw[IntsAre.len h];exact hk
noncomputable def GO(P:Nat->Pos):PW:=.If (.Compare (.Name az (P 3)) [.In] [.Name gS (P 4)] (P 5)) [.Return (some (.BinOp (.Subscript (.Name fq (P 6)) (.Slice (some (.Subscript (.Name gS (P 7)) (.Name az (P 8)) (P 9))) none none (P 10)) (P 11)) .Add (.List [.Name az (P 12)] (P 13)) (P 14))) (P 15)] [] (P 16)
noncomputable def GP(P:Nat->Pos):PW:=.Expr (.Call (.Attribute (.Name jh (P 17)) (ofString "add") (P 18)) [.Name az (P 19)] [] (P 20)) (P 21)
noncomputable def GQ(P:Nat->Pos):PW:=.Expr (.Call (.Attribute (.Name iz (P 22)) (ofString "append") (P 23)) [.Attribute (.Call (.Name (ofString "iter") (P 24)) [.Attribute (.Subscript (.Name iy (P 25)) (.Name az (P 26)) (P 27)) (ofString "successors") (P 28)] [] (P 29)) (ofString "__next__") (P 30)] [] (P 31)) (P 32)
noncomputable def GR(P:Nat->Pos):PW:=.Assign [.Subscript (.Name gS (P 33)) (.Name az (P 34)) (P 35)] (.Call (.Name (ofString "len") (P 36)) [.Name fq (P 37)] [] (P 38)) (P 39)
noncomputable def GS(P:Nat->Pos):PW:=.Expr (.Call (.Attribute (.Name fq (P 40)) (ofString "append") (P 41)) [.Name az (P 42)] [] (P 43)) (P 44)
noncomputable def yT(P:Nat->Pos):PW:=.If (.Compare (.Name az (P 0)) [.In] [.Name jh (P 1)] (P 2)) [GO P] [GP P,GQ P,GR P,GS P] (P 45)
inductive isFIf(b:PW):Prop where
 | mk (h1:b=yT jA) (h2:((jA 18).endLine==(jA 20).line)=true) (h3:((jA 23).endLine==(jA 31).line)=true) (h4:((jA 41).endLine==(jA 43).line)=true):isFIf b
noncomputable def yU(P:Nat->Pos):Expr:=.Call (.Subscript (.Name iz (P 2)) (.UnaryOp .USub (.Constant (.int 1) 0 (P 3)) (P 4)) (P 5)) [] [] (P 6)
noncomputable def GT(P:Nat->Pos):PW:=.Delete [.Subscript (.Name gS (P 10)) (.Call (.Attribute (.Name fq (P 11)) (ofString "pop") (P 12)) [] [] (P 13)) (P 14)] (P 15)
noncomputable def GU(P:Nat->Pos):PW:=.Expr (.Call (.Attribute (.Name iz (P 16)) (ofString "pop") (P 17)) [] [] (P 18)) (P 19)
noncomputable def yV(P:Nat->Pos):PW:=.Try [.Assign [.Name az (P 1)] (yU P) (P 7),.Break (P 8)]
 [.ExceptHandler (some (.Name (ofString "StopIteration") (P 9))) none [GT P,GU P] (P 20)] [] [] (P 21)
noncomputable def yW(P:Nat->Pos):PW:=.While (.Name fq (P 0)) [yV P] [.Break (P 22)] (P 23)
inductive isFW(b:PW):Prop where
 | mk (h1:b=yW lW) (h2:((lW 12).endLine==(lW 13).line)=true) (h3:((lW 17).endLine==(lW 18).line)=true):isFW b
noncomputable def yX(P:Nat->Pos)(st1:PW)(st2:PW):PW:=.For (.Name az (P 0)) (.Name iy (P 1)) [
 .If (.Compare (.Name az (P 2)) [.In] [.Name jh (P 3)] (P 4)) [.Continue (P 5)] [] (P 6),
 .While (.Constant (.bool true) 0 (P 7)) [st1,st2] [] (P 8)]
 [] (P 9)
inductive isFFor(b:PW):Prop where
 | mk (st1:PW) (st2:PW) (h1:b=yX CZ st1 st2) (h2:isFIf st1) (h3:isFW st2):isFFor b
section
variable{G:Glo}{L:SLay}{env:Env}{sc:Scope}{A A':P0}{outer:List Env}{s₁ s s':PL}{D D':FCD}{y y':SV}{E:PN->PL->Prop}{st:List (Int × Nat)}{sn:List Int}
theorem GV{k:Int}{i:Nat}{Pp:Nat->Pos}{Q:Flow->PL->Prop}(e:FE G L env sc A outer s₁)(F:FSt G L env sc A s₁ D ((k,i)::st) sn y s)(hy:∃v,y=.val v)
 (hl4:((Pp 12).endLine==(Pp 13).line)=true) (hl5:((Pp 17).endLine==(Pp 18).line)=true)
 (h1:∀k' s' D' t,(aJ L.gr k)[i]? = some k'->FSt G L env sc A s₁ D' ((k,i+1)::st) sn (.val (.int k' t)) s'->D'.xs=D.xs->Q .brk s')
 (h2:∀s' D',(aJ L.gr k)[i]? = none->FSt G L env sc A s₁ D' st sn y s'->D'.xs=D.xs->Q .next s') :
 PM (PO G.prog G.w) A (exec (yV Pp) env) Q E s:=by
 obtain⟨I,hst,hms,hsn,hsl,hsnd,hsub,hkin,hknd⟩:=F
 have hsm:=e.sm
 have hkl:D.ks.length<=L.inf.length:=by have:=pV hknd hkin;lia
 obtain⟨a1,a2,a3,a4,ks,ms,es,sn',ns,xs⟩:=D
 dsimp only at hst hms hsn hkin hknd hkl
 cases hst with
 | @cons _ ks es ns _ en f hst hf hsl₀ hpos =>
 have hln:=hst.len
 have hS:=I.S e
 have hsucc:aJ L.gr f.key=f.su:=yS hS.keys hf
 rw[hsucc]at h1 h2
 rw[bj,BL]at hkl
 have hmm:ms=es.map (·.m)++[en.m]:=by rw[hms];simp
 refine x11 I.fc.its fun n2 hI2=>?_
 have hent:=I.fc.ent en (by simp)
 obtain⟨_,_,vsl,nsl,hsl',hint⟩:=hS.info f hf
 rw[hsl₀]at hent
 have hkn:f.key∉ns.map (·.1):=by
  rw[hst.eqN]
  intro q
  rw[de]at hknd
  exact hknd.2.2 _ q f.key ak rfl
 have call:∀(Q:PN->PL->Prop) (E:PN->PL->Prop),PM (PO G.prog G.w) A (call (.ref en.m) []) Q E { s with toks:=s.toks+1+1 } ->
  PM (PO G.prog G.w) A (Qg (yU Pp) env) Q E s:=by
  intro Q E hq
  show PM _ A (do callWith (Pp 6) (<- Qg (.Subscript (.Name iz (Pp 2)) (.UnaryOp .USub (.Constant (.int 1) 0 (Pp 3)) (Pp 4)) (Pp 5)) env) [] (backTo (Pp 6) (starEach [] env)) (backToKw (Pp 6) (keywordEach [] env))) Q E s
  refine PK ?_
  refine kF (I.ld (i:=3) rfl rfl ?_)
  refine wpAny_UnaryOp (Re ?_)
  refine P.neg_int ⟨"list",_,F.slot_list_getitem.lookup,hI2.isList.typeIs,?_⟩
  refine wpAny_getItem_list_neg hI2.isList (by decide) (by rw[oR,ag,hmm,bj,BL];lia) (by decide) (x:=.ref en.m) ?_ ?_
  ·have hx:(-1+((List.map Qd ms).toArray.size:Int)).toNat=es.length:=by
    rw[oR,ag,hmm,bj,BL,ag];lia
   show(List.map Qd ms).toArray[(-1+((List.map Qd ms).toArray.size:Int)).toNat]? = _
   rw[hx,hmm]
   simp
  ·exact GL hent.1 hq
 have I2:=I.keeps (ay s (s.toks+1+1))
 have hit:s.heap.get? en.it=some (cU f.sl i):=by rw[<- hpos];exact hent.2
 have hinA:en.it∈(FCD.mk a1 a2 a3 a4 (ks++[f.key]) ms (es++[en]) sn' (ns++[(f.key,(st.length:Int))]) xs).addrs:=(mV (by simp)).2
 refine x11 hy fun v e1=>?_;subst e1
 refine yM (c:=.type "StopIteration") e.hfr e.hL ?_ fun U q=>q
 cases hc:f.su[i]? with
 | some k' =>
  refine x11 (GM hint hc) fun t ht=>?_
  refine PS (Qn (call _ _ (Gm hent.1 hit hsl'.isList (by simpa using ht) fun h' hi' hs=>?_)) rfl rfl)
  have I3:FI G L env sc A s₁ ⟨a1,a2,a3,a4,ks++[f.key],ms,es++[{ en with pos:=i+1 }],sn',ns++[(f.key,(st.length:Int))],xs⟩ (.val v) { s with heap:=h',toks:=s.toks+1+1 }:=by
   have fc:=I2.fc.nextE (h':=h') rfl hs.extBut (by rw[hi',hsl₀,hpos])
   rw[hpos]at fc
   refine I.chg (t:=s.toks+1+1) e hinA hs.extBut ⟨_,hi'⟩ fc rfl rfl fun b hb=>.inl ?_
   simpa[FCD.addrs,bO]using hb
  show PM _ _ (QJ (.Name az (Pp 1)) env (.int k' t)) _ _ _
  refine I3.sto (i:=6) e rfl rfl rfl fun s4 I4=>PS (wpAny_Break ?_)
  refine h1 k' s4 _ t hc ⟨I4,hst.cons hf hsl₀ rfl,?_,hsn,hsl,hsnd,hsub,hkin,hknd⟩ rfl
  show ms=_
  rw[hmm];simp
 | none =>
  have hne:en.it∉hfp A:=fun q=>by
   refine x11 (e.hok.there _ q) fun o ho=>?_
   rw[I.new _ (FCD.all_l hinA)]at ho;cases ho
  refine PS (Qn (call _ _ (Go (I2.hok e) hne hent.1 hit hsl'.isList (by have:=GN hint hc;simpa using this) fun h' ea hN=>?_)) rfl rfl)
  refine e8 hN fun n1 n2' n3 n4=>?_
  have hea1:s₁.heap.get? ea=none:=I.ks.back n3
  have fc:=I2.fc.stopE (h':=h') (es:=es) rfl fun b o n q=>n1 b o n q
  have I3:FI G L env sc A s₁ ⟨a1,a2,a3,a4,ks++[f.key],ms,es,sn',ns++[(f.key,(st.length:Int))],xs⟩ (.val v) { s with heap:=h',toks:=s.toks+1+1 }:=by
   refine I.chg (t:=s.toks+1+1) e hinA (fun b o n q=>n1 b o n q) n2' fc rfl rfl fun b hb=>.inl ?_
   simp only[FCD.addrs,dB,ae,au]at hb ⊢
   rcases hb with q | q | q | q | q
   ·exact .inl q
   ·exact .inr (.inl q)
   ·exact .inr (.inr (.inl q))
   ·exact .inr (.inr (.inr (.inl q)))
   ·exact .inr (.inr (.inr (.inr (.inl q))))
  have hfrs:=I3.frs e
  have had:ea∉(FCD.mk a1 a2 a3 a4 (ks++[f.key]) ms es sn' (ns++[(f.key,(st.length:Int))]) xs).all:=fun q=>by
   rcases au.mp q with q | q
   ·have q':ea∈(FCD.mk a1 a2 a3 a4 (ks++[f.key]) ms (es++[en]) sn' (ns++[(f.key,(st.length:Int))]) xs).addrs:=by
     simp only[FCD.addrs,dB,ae,au]at q ⊢
     rcases q with q | q | q | q | q
     ·exact .inl q
     ·exact .inr (.inl q)
     ·exact .inr (.inr (.inl q))
     ·exact .inr (.inr (.inr (.inl q)))
     ·exact .inr (.inr (.inr (.inr (.inl q))))
    refine x11 (I.fc.there q') fun o ho=>?_
    rw[n3]at ho;cases ho
   ·refine x12 (aD.mp q) fun p hp e2=>?_;subst e2
    have:=I.fc.ext p hp
    rw[n3]at this;cases this
  refine x35 n4 fun oe ve a0 x1 x2 x3 x4 x5=>?_
  refine⟨ea,gU (env::outer) ea h',.type "StopIteration",rfl,tB hfrs ⟨oe,ve,a0,x1,x2,x3,x4,x5⟩,fun h₂ k2 u2 th E=>?_⟩
  have nb:∀b o,b≠ea->¬an A b->h'.get? b=some o->(gU (env::outer) ea h').get? b=some o:=fun b o n nf q=>tA q n fun z=>nf ⟨_,e.hfr,z⟩
  have I4:FI G L env sc A s₁ _ (.val v) { s with heap:=h₂,toks:=s.toks+1+1 }:=I3.noted (s:={ s with heap:=h',toks:=s.toks+1+1 }) e (tC e.hfr hfrs nb k2 u2 (th.imp fun U q=>q.1)) hea1 had
  refine e.ld_bi I4 (by simp) (v:=.type "StopIteration") (by simp[cb]) ⟨rfl,rfl,fun Q E hq=>?_,fun h₄ k4 u4 T4 E=>?_⟩
  ·refine x12 th fun o ho hoc=>?_
   exact wpAny_excMatches_type (X:= "StopIteration") (T:= "StopIteration") (b:=true) ⟨o,ho,hoc⟩ GH GJ isSubtype_stop hq
  have I5:FI G L env sc A s₁ _ (.val v) { s with heap:=h₄,toks:=s.toks+1+1 }:=I3.noted (s:={ s with heap:=h',toks:=s.toks+1+1 }) e (tC e.hfr hfrs nb k4 u4 (T4.there.imp fun U q=>q.1)) hea1 had
  refine PS (GK e I5 hl4 rfl rfl hkn (by show(ks++[f.key]).length<=2000;simp;lia) (by show(ns++[(f.key,(st.length:Int))]).length<=2000;simp;lia) fun s6 I6=>?_)
  refine PS (GF e I6 hl5 hmm (by show ms.length<=2000;rw[hmm];simp;lia) fun s7 I7=>Qa ?_)
  rw[de]at hknd
  exact h2 s7 _ hc ⟨I7,hst,rfl,hsn,hsl,hsnd,hsub,fun k hk=>hkin k (c8 _ hk),hknd.1⟩ rfl
end
noncomputable abbrev No:PP->Prop:=fun U=>False
theorem GW{ds:List PQ}{i:Nat}(h:i<=ds.length):gc ds (.int i) .none=ds.drop i:=by
 have hc:Ru ds.length (i:Int)=i:=(xj _ i).trans (Nat.min_eq_left h)
 unfold gc
 simp only[part,Option.elim,hc]
 rw[List.take_of_length_le (by rw[List.length_drop];exact aN _)]
theorem tD{O:PP->Prop}{h:Qk}:∀ {vs:List PN} {c:List Int},RepL O h vs (c.map QT)->Rb vs c:=fun{vs c}=>by
 induction c generalizing vs with
 | nil=>intro r;cases r;exact .nil
 | cons k c ih =>
  intro r
  cases r with
  | cons a l =>
   cases a
   exact .cons _ _ (ih l)
section
variable{G:Glo}{L:SLay}{env:Env}{sc:Scope}{A A':P0}{outer:List Env}{s₁ s s':PL}{D D':FCD}{y y':SV}{E:PN->PL->Prop}{st:List (Int × Nat)}{sn:List Int}
inductive AdI(G:Glo)(L:SLay)(env:Env)(sc:Scope)(A:P0)(s₁:PL)(xs:List (PP × Obj))(st:List (Int × Nat))(sn:List Int)(y:SV)(m:Nat)(sk:PL):Prop where
 | mk (Dk:FCD) (st0:List (Int × Nat)) (hm:m=st0.length) (ha:cV L.gr st0=cV L.gr st) (hx:Dk.xs=xs) (F:FSt G L env sc A s₁ Dk st0 sn y sk):AdI G L env sc A s₁ xs st sn y m sk
theorem GX{Pp:Nat->Pos}{Q:Flow->PL->Prop}(e:FE G L env sc A outer s₁)(F:FSt G L env sc A s₁ D st sn y s)(hy:∃v,y=.val v)
 (hl4:((Pp 12).endLine==(Pp 13).line)=true) (hl5:((Pp 17).endLine==(Pp 18).line)=true)
 (h1:∀k' st' s' D' t,cV L.gr st=(st',some k')->FSt G L env sc A s₁ D' st' sn (.val (.int k' t)) s'->D'.xs=D.xs->Q .next s')
 (h2:∀s' D',(cV L.gr st).2=none->FSt G L env sc A s₁ D' [] sn y s'->D'.xs=D.xs->Q .brk s') :
 PM (PO G.prog G.w) A (exec (yW Pp) env) Q E s:=by
 refine wpAny_While (Rv (AdI G L env sc A s₁ D.xs st sn y) ?_ st.length ⟨D,st,rfl,rfl,rfl,F⟩)
 rintro m sk ⟨Dk,st0,rfl,ha,hxk,Fk⟩
 rw[kD rfl]
 refine x22 Fk.I.fc.stk fun vs n hK hi=>?_
 have hlen:vs.size=Dk.ks.length:=by rw[<- cQ];exact IntsAre.len hi
 have hkl:=Fk.kl
 have hsm:=e.sm
 refine PK (Fk.I.ld (i:=2) rfl rfl (PK (Ql (Qj (wpAny_truthy_list hK.isList (by lia) ?_)))))
 have I2:=Fk.I.keeps (ay sk (sk.toks+1+1))
 have F2:FSt G L env sc A s₁ Dk st0 sn y { sk with toks:=sk.toks+1+1 }:=⟨I2,Fk.stk,Fk.ms,Fk.esn,Fk.snl,Fk.nd,Fk.sub,Fk.kin,Fk.knd⟩
 have hks:=Fk.stk.len.1
 cases st0 with
 | nil =>
  have:vs.isEmpty=true:=by
   rw[lS,hlen,hks];rfl
  rw[this]
  rw[if_neg (by decide)]
  refine PS (wpAny_Break (h2 _ Dk ?_ F2 hxk))
  rw[<- ha];rfl
 | cons p r =>
  obtain⟨k,i⟩:=p
  have:vs.isEmpty=false:=by
   cases q:vs.isEmpty with
   | false=>rfl
   | true =>
    rw[lS,hlen,hks]at q
    simp at q
  rw[this]
  rw[if_pos (by decide)]
  refine PS (GV e F2 hy hl4 hl5 (fun k' s' D' t hc F' hx'=>?_) fun s' D' hc F' hx'=>Qa ?_)
  ·refine h1 k' ((k,i+1)::r) s' D' t ?_ F' (hx'.trans hxk)
   rw[<- ha]
   rw[ji,hc]
  ·refine⟨r.length,by simp,D',r,rfl,?_,hx'.trans hxk,F'⟩
   rw[<- ha]
   rw[ji,hc]
theorem GY{k:Int}{t:Tok}{Pp:Nat->Pos}{Q:Flow->PL->Prop}
 (e:FE G L env sc A outer s₁) (F:FSt G L env sc A s₁ D st sn (.val (.int k t)) s) (hk:∃f∈L.inf,f.key=k)
 (hl1:((Pp 18).endLine==(Pp 20).line)=true) (hl2:((Pp 23).endLine==(Pp 31).line)=true) (hl3:((Pp 41).endLine==(Pp 43).line)=true)
 {O:PP->Prop} (hO:∀b,O b->∃o,s₁.heap.get? b=some o)
 (h1:k∈sn->k∈dA st->∀v s',FI G L env sc A s₁ D (.val (.int k t)) s'->Rep O s'.heap v (.list ((iA st k).map .int))->Q (.ret v) s')
 (h2:¬(k∈sn/\k∈dA st)->∀s' D',FSt G L env sc A s₁ D' (if k∈sn then st else(k,0)::st) (if k∈sn then sn else sn++[k]) (.val (.int k t)) s'->D'.xs=D.xs->Q .next s') :
 PM (PO G.prog G.w) A (exec (yT Pp) env) Q E s:=by
 have I:=F.I
 have hkl:=F.kl
 have hsm:=e.sm
 have mk:∀ {s'},FI G L env sc A s₁ D (.val (.int k t)) s'->FSt G L env sc A s₁ D st sn (.val (.int k t)) s':=fun I=>⟨I,F.stk,F.ms,F.esn,F.snl,F.nd,F.sub,F.kin,F.knd⟩
 refine Rk (QA (I.ld (i:=6) rfl rfl (I.ld (i:=4) rfl rfl (yP I fun s2 I2=>Qp ?_))) rfl)
 rw[F.esn]
 by_cases hs:k∈sn
 ·rw[decide_eq_true hs]
  show PM _ _ (QG [_] env) _ _ s2
  refine PS (Rk (QA (I2.ld (i:=6) rfl rfl (I2.ld (i:=5) rfl rfl (Gx e I2 fun s3 I3=>Qp ?_))) rfl))
  rw[F.stk.eqN,F.stk.eqK]
  by_cases hq:k∈dA st
  ·rw[decide_eq_true hq]
   show PM _ _ (QG [_] env) _ _ s3
   have hmem:k∈D.ks:=by rw[F.stk.eqK];exact hq
   refine x12 I3.fc.n2s fun kvs hD hp=>?_
   refine x11 (hp.at (F.stk.find hmem)) fun ti hv=>?_
   refine PS (QS (wpAny_BinOp ?_))
   refine x22 I3.fc.stk fun vs n hK hi=>?_
   have obs:∀ {s'},FI G L env sc A s₁ D (.val (.int k t)) s'->∀b,O b->b<s'.heap.objs.size:=fun I b q=>(hO b q).elim fun o e=>(I.ks.there b o e).elim fun o' e'=>Qe e'
   have rK:∀ {s'},PY s3 s'->bg O s'.heap (.ref D.a1) (.list (D.ks.map .int)):=fun kp=>.inr ⟨_,_,_,_,rfl,rfl,am kp _ _ hK,yG hi⟩
   have hrange:D.ks.idxOf k<=D.ks.length:=List.idxOf_le_length
   refine kF (I3.ld (i:=2) rfl rfl ?_)
   refine wpAny_Slice ?_
   show PM _ A (Qg (.Subscript (.Name gS (Pp 7)) (.Name az (Pp 8)) (Pp 9)) env) _ _ s3
   refine kF (I3.ld (i:=5) rfl rfl (I3.ld (i:=6) rfl rfl ⟨"dict",_,slot_dict_getitem.lookup,hD.typeIs,wpAny_getItem_of jU hD.mapOf hv ?_⟩))
   show PM _ _ (pure QB) _ _ _
   refine PU ?_
   show PM _ _ (pure QB) _ _ _
   refine PU ?_
   have kp1:PY s3 { s3 with heap:=s3.heap.push { cls:=.type "slice",data:=.fields #[.int (D.ks.idxOf k:Int) ti,.none,.none] },toks:=s3.toks+1 }:=bL _
   have I4:=I3.keeps kp1
   refine⟨"list",_,PySem.F.slot_list_getitem.lookup,⟨_,am kp1 _ _ hK,rfl⟩,PR (xl (O:=O) (obs I4) (rK kp1) (.int _ _) .none (PZ _ rfl) ⟨by rw[ag];lia,rfl,rfl⟩) (fun v s5 h5=>?_) fun U U x=>x⟩
   have I5:=I4.keeps h5.1
   refine Si (Qh (I5.ld (i:=6) rfl rfl (Qc ⟨by show 1<=16777216;decide,?_⟩)))
   have kp2:PY s5 { s5 with heap:=s5.heap.push { cls:=.type "list",data:=.seq [Value.int k t].toArray } }:=bL _
   have I6:=I5.keeps kp2
   have r6:Rep O (s5.heap.push { cls:=.type "list",data:=.seq [Value.int k t].toArray }) (.ref s5.heap.objs.size) (.list [.int k]):=.list (n:=0) (fun q=>bl _ (obs I5 _ q)) (IsL.new _ _) (.cons (.int _ _) .nil)
   have hsl:kz (.list (D.ks.map .int)) (.int (D.ks.idxOf k:Int)) .none=.list ((D.ks.drop (D.ks.idxOf k)).map .int):=by
    show RT (gc _ _ _)=_
    rw[GW (by rw[ag];exact hrange),List.map_drop]
   rw[hsl]at h5
   refine PR (xe (O:=O) (op:=.Add) (obs I6) (h5.2.keeps kp2) r6 ⟨rfl,by rw[ag,List.length_drop];show _+1<=_;lia⟩) (fun v' s7 h7=>?_) fun U U x=>x
   have I7:=I6.keeps h7.1
   refine al h7 fun k7 r7=>?_
   have r7:Rep O s7.heap v' (.list ((iA st k).map .int)):=by
    have:iZ .Add (.list ((D.ks.drop (D.ks.idxOf k)).map .int)) (.list [.int k])=.list ((iA st k).map .int):=by
     show RT (((D.ks.drop (D.ks.idxOf k)).map .int)++[.int k])=_
     simp only[iA,<- F.stk.eqK,oG,a9,List.map_nil]
    rw[<- this];exact r7
   exact h1 hs hq v' s7 I7 r7
  ·rw[decide_eq_false hq]
   show PM _ _ (QG [] env) _ _ s3
   refine Qa (Qa (h2 (fun z=>hq z.2) s3 D ?_ rfl))
   rw[if_pos hs,if_pos hs]
   exact mk I3
 ·rw[decide_eq_false hs]
  show PM _ _ (QG [_,_,_,_] env) _ _ s2
  refine x12 hk fun f hf e2=>?_;subst e2
  refine GG e (mk I2) hf hs hl1 hl2 hl3 fun s' D' F' hx'=>h2 (fun z=>hs z.1) s' D' ?_ hx'
  rw[if_neg hs,if_neg hs]
  exact F'
end
section
variable{G:Glo}{L:SLay}{env:Env}{sc:Scope}{A A':P0}{outer:List Env}{s₁ s s':PL}{D D':FCD}{y y':SV}{E:PN->PL->Prop}{st:List (Int × Nat)}{sn:List Int}
theorem yY(e:FE G L env sc A outer s₁):∀(st:List (Int × Nat)),(∀k∈st.map (·.1),∃f∈L.inf,f.key=k)->∀st' k',cV L.gr st=(st',some k')->∃f∈L.inf,f.key=k'
 | [],_,st',k',h=>nomatch h
 | (k,i)::r,hk,st',k',h=>by
  rw[ji]at h
  refine x12 (hk k (by simp)) fun f hf hfk=>?_
  have hs:aJ L.gr k=f.su:=hfk▸yS e.S.keys hf
  cases hc:(aJ L.gr k)[i]? with
  | some n =>
   rw[hc]at h
   simp only[Prod.mk.injEq,RU]at h
   refine al h fun U e1=>?_;subst e1
   rw[hs]at hc
   exact e.clo f hf n (aG hc)
  | none =>
   rw[hc]at h
   exact yY e r (fun k hk'=>hk k (by simp only[a9,ae];exact .inr hk')) st' k' h
theorem GZ{Q:Flow->PL->Prop}(hS:isFIf st1)(e:FE G L env sc A outer s₁)(F:FSt G L env sc A s₁ D st sn (.val (.int k t)) s)(hk:∃f∈L.inf,f.key=k)(hO:∀b,O b->∃o,s₁.heap.get? b=some o)
 (h1:k∈sn->k∈dA st->∀v s',FI G L env sc A s₁ D (.val (.int k t)) s'->Rep O s'.heap v (.list ((iA st k).map .int))->Q (.ret v) s')
 (h2:¬(k∈sn/\k∈dA st)->∀s' D',FSt G L env sc A s₁ D' (if k∈sn then st else(k,0)::st) (if k∈sn then sn else sn++[k]) (.val (.int k t)) s'->D'.xs=D.xs->Q .next s'):PM (PO G.prog G.w) A (exec st1 env) Q E s:=by
 obtain⟨rfl,hl1,hl2,hl3⟩:=hS
 exact GY e F hk hl1 hl2 hl3 hO h1 h2
theorem G0{Q:Flow->PL->Prop}(hS:isFW st2)(e:FE G L env sc A outer s₁)(F:FSt G L env sc A s₁ D st sn y s)(hy:∃v,y=.val v)
 (h1:∀k' st' s' D' t,cV L.gr st=(st',some k')->FSt G L env sc A s₁ D' st' sn (.val (.int k' t)) s'->D'.xs=D.xs->Q .next s')
 (h2:∀s' D',(cV L.gr st).2=none->FSt G L env sc A s₁ D' [] sn y s'->D'.xs=D.xs->Q .brk s'):PM (PO G.prog G.w) A (exec st2 env) Q E s:=by
 obtain⟨rfl,hl4,hl5⟩:=hS
 exact GX e F hy hl4 hl5 h1 h2
inductive WhI(G:Glo)(L:SLay)(env:Env)(sc:Scope)(A:P0)(s₁:PL)(xs:List (PP × Obj))(r:List Int ⊕ List Int)(m:Nat)(sk:PL):Prop where
 | mk (Dk:FCD) (stk:List (Int × Nat)) (snk:List Int) (k:Int) (t:Tok) (hx:Dk.xs=xs) (F:FSt G L env sc A s₁ Dk stk snk (.val (.int k t)) sk) (hk:∃f∈L.inf,f.key=k) (hf:ex L.gr m k stk snk=some r):WhI G L env sc A s₁ xs r m sk
theorem G1{k:Int}{t:Tok}{N:Nat}{r:List Int ⊕ List Int}{st1 st2:PW}{w1 w2:Pos}{Q:Flow->PL->Prop}
 (e:FE G L env sc A outer s₁) (F:FSt G L env sc A s₁ D [] sn (.val (.int k t)) s) (hk:∃f∈L.inf,f.key=k)
 (hS1:isFIf st1) (hS2:isFW st2)
 {O:PP->Prop} (hO:∀b,O b->∃o,s₁.heap.get? b=some o) (hr:ex L.gr N k [] sn=some r)
 (h1:∀c v s' D' y',r=.inl c->FI G L env sc A s₁ D' y' s'->Rep O s'.heap v (.list (c.map .int))->Q (.ret v) s')
 (h2:∀sn' s' D' v',r=.inr sn'->FSt G L env sc A s₁ D' [] sn' (.val v') s'->D'.xs=D.xs->Q .next s') :
 PM (PO G.prog G.w) A (exec (.While (.Constant (.bool true) 0 w1) [st1,st2] [] w2) env) Q E s:=by
 refine wpAny_While (Rv (WhI G L env sc A s₁ D.xs r) ?_ N ⟨D,[],sn,k,t,rfl,F,hk,hr⟩)
 rintro m sk ⟨Dk,stk,snk,k,t,hxk,Fk,hk,hm⟩
 rw[kD rfl]
 refine PK (wpAny_Constant_bool (PK (Ql (Qj (Qp ?_)))))
 rw[if_pos rfl]
 cases m with
 | zero=>cases hm
 | succ m =>
  rw[mW]at hm
  refine PS (GZ hS1 e Fk hk hO (fun hs hq v s' I' rv=>?_) fun hnq s2 D2 F2 hx2=>?_)
  ·rw[if_pos ⟨hs,hq⟩]at hm
   exact h1 _ v s' _ _ (QH hm).symm I' rv
  ·rw[if_neg hnq]at hm
   have hkeys:∀k'∈(if k∈snk then stk else(k,0)::stk).map (·.1),∃f∈L.inf,f.key=k':=fun k' hk'=>F2.stk.mem (by rw[F2.stk.eqK];unfold dA;exact iQ.mpr hk')
   refine PS (G0 hS2 e F2 ⟨_,rfl⟩ (fun k' st' s3 D3 t3 ha F3 hx3=>?_) fun s3 D3 ha F3 hx3=>?_)
   ·rw[ha]at hm
    exact Qa ⟨m,qN _,D3,st',_,k',t3,(hx3.trans hx2).trans hxk,F3,yY e _ hkeys _ _ ha,hm⟩
   ·generalize hx:cV L.gr (if k∈snk then stk else(k,0)::stk)=x at hm ha
    obtain⟨x1,x2⟩:=x
    cases ha
    exact h2 _ s3 D3 _ (QH hm).symm F3 ((hx3.trans hx2).trans hxk)
theorem FC.chgX(x:FC prog w D h)(hx:D.xs=[(I0,o)])(s:Qy I0 h h')(ho:h'.get? I0=some o'):FC prog w { D with xs:=[(I0,o')] } h':=by
 have ha:=x.ap (I0,o) (by rw[hx];simp)
 have y:FC prog w { D with xs:=[] } h:=⟨x.stk,x.its,x.seen,x.n2s,x.ent,x.nd,(fun p hp=>nomatch hp),(fun p hp=>nomatch hp)⟩
 have z:=y.keeps (h':=h') fun b o hb q=>s b o (fun z=>by
  rcases au.mp hb with hb | hb
  ·exact ha (z▸hb)
  ·cases hb) q
 exact⟨z.stk,z.its,z.seen,z.n2s,z.ent,z.nd,fun p hp=>by rw[ai.mp hp];exact ho,fun p hp=>by rw[ai.mp hp];exact ha⟩
theorem FC.setX(x:FC prog w D h)(ho:h.get? I0=some o)(ha:I0∉D.addrs):FC prog w { D with xs:=[(I0,o)] } h :=
 ⟨x.stk,x.its,x.seen,x.n2s,x.ent,x.nd,fun p hp=>by rw[ai.mp hp];exact ho,fun p hp=>by rw[ai.mp hp];exact ha⟩
theorem FC.noX(x:FC prog w D h):FC prog w { D with xs:=[] } h :=
 ⟨x.stk,x.its,x.seen,x.n2s,x.ent,x.nd,(fun p hp=>nomatch hp),(fun p hp=>nomatch hp)⟩
end
section
variable{G:Glo}{L:SLay}{env:Env}{sc:Scope}{A A':P0}{outer:List Env}{s₁ s s':PL}{D D':FCD}{y y':SV}{E:PN->PL->Prop}{st:List (Int × Nat)}{sn:List Int}
theorem FI.chgX{t:Nat}(e:FE G L env sc A outer s₁)(I:FI G L env sc A s₁ D y s)(hx:D.xs=[(I0,o)])(k:Qy I0 s.heap h')(ho:h'.get? I0=some o'):FI G L env sc A s₁ { D with xs:=[(I0,o')] } y { s with heap:=h',toks:=t }:=by
 have hm:I0∈D.all:=FCD.all_r (p:=(I0,o)) (by rw[hx];simp)
 refine⟨I.lf.by fun b o hb q=>⟨o.slots,k b o (fun z=>I.notS e hm (z▸hb)) q⟩,I.fc.chgX hx k ho,I.ks.trans' (KS.of (KM.chg (M:=(· = I0)) k ⟨_,ho⟩ rfl)) fun b hb=>?_,fun b hb=>?_⟩
 ·have hb:b=I0:=hb
  exact .inr (hb▸I.new _ hm)
 ·rcases au.mp hb with hb | hb
  ·exact I.new b (FCD.all_l hb)
  ·have:b=I0:=by simpa using hb
   exact this▸I.new _ hm
inductive ForI(G:Glo)(L:SLay)(env:Env)(sc:Scope)(A:P0)(s₁:PL)(I0:PP)(ep N:Nat)(r:Option (List Int))(n:Nat)(sk:PL):Prop where
 | mk (i:Nat) (Dk:FCD) (snk:List Int) (yk:SV) (o:Obj) (hi:i<=L.inf.length) (hn:n=L.inf.length+1 - i) (F:FSt G L env sc A s₁ Dk [] snk yk sk) (hx:Dk.xs=[(I0,o)])
  (hk:sk.heap.IsKeyIter I0 L.n2i i (L.inf.map fun f=>(f.key,Qd f.a)).length ep) (hf:fQ L.gr N ((L.inf.map (·.key)).drop i) snk=some r):ForI G L env sc A s₁ I0 ep N r n sk
theorem G2{N:Nat}{r:Option (List Int)}{Pp:Nat->Pos}{st1 st2:PW}{Q:Flow->PL->Prop}
 (e:FE G L env sc A outer s₁) (F:FSt G L env sc A s₁ D [] [] y s) (hxs:D.xs=[])
 (hS1:isFIf st1) (hS2:isFW st2)
 {O:PP->Prop} (hO:∀b,O b->∃o,s₁.heap.get? b=some o) (hr:fQ L.gr N (L.inf.map (·.key)) []=some r)
 (h1:∀c v s' D' y',r=some c->FI G L env sc A s₁ D' y' s'->Rep O s'.heap v (.list (c.map .int))->Q (.ret v) s')
 (h2:∀s' D' y',r=none->FI G L env sc A s₁ D' y' s'->Q .next s') :
 PM (PO G.prog G.w) A (exec (yX Pp st1 st2) env) Q E s:=by
 have S0:=F.I.S e
 refine x11 S0.n2i.dictAt fun ep hat=>?_
 have hsys:(L.n2i==Rn)=false:=by
  rw[beq_eq_false_iff_ne]
  intro q
  refine x11 e.sys fun o h=>?_
  rw[<- q,e.hBL]at h;cases h
 have hkv:(L.inf.map fun f=>(f.key,Qd f.a)).length=L.inf.length:=ag ..
 refine wpAny_For (F.I.ld (i:=1) rfl rfl (wpAny_pyIter_dict (knd:=QU G.prog G.w) hsys hat ?_)) fun U=>rfl
 generalize hio:({ cls:=.type "dict_keyiterator",data:=.fields #[.ref L.n2i,.int 0 0,.int (L.inf.map fun f=>(f.key,Qd f.a)).length 0,.int ep 0] }:Obj)=o0
 have J:=F.I.keeps (bL (t:=s.toks) o0)
 have hnd0:s.heap.objs.size∉D.addrs:=fun q=>by
  refine x11 (F.I.fc.there q) fun o ho=>?_
  exact bl _ (Qe ho)
 have hnew0:s₁.heap.get? s.heap.objs.size=none:=F.I.ks.back (by
  cases q:s.heap.get? s.heap.objs.size with
  | none=>rfl
  | some o=>exact absurd (Qe q) (bl _))
 have hget0:(s.heap.push o0).get? s.heap.objs.size=some o0:=PZ _ (by rw[<- hio];rfl)
 generalize hI0:s.heap.objs.size=I0 at hnd0 hnew0 hget0 ⊢
 have I1:FI G L env sc A s₁ { D with xs:=[(I0,o0)] } y { s with heap:=s.heap.push o0 }:=⟨J.lf,J.fc.setX hget0 hnd0,J.ks,fun b hb=>by
  rcases au.mp hb with hb | hb
  ·exact J.new b (FCD.all_l hb)
  ·have:b=I0:=by simpa using hb
   exact this▸hnew0⟩
 have hIf:I0∉hfp A:=fun q=>by
  refine x11 (e.hok.there I0 q) fun o ho=>?_
  rw[hnew0]at ho;cases ho
 have hnI:L.n2i≠I0:=fun q=>by
  refine x11 (e.S.there (show L.n2i∈L.addrs by simp[SLay.addrs])) fun o ho=>?_
  rw[q,hnew0]at ho;cases ho
 have W:=Gf (prog:=G.prog) (w:=G.w) (knd:=QU G.prog G.w) (A:=A) I0 L.n2i hnI hIf (L.inf.map fun f=>(f.key,Qd f.a)) ep
 have hatS:∀ {sk D y},FI G L env sc A s₁ D y sk->sk.heap.DictAt (QU G.prog G.w) L.n2i (L.inf.map fun f=>(f.key,Qd f.a)) ep:=fun I=>by
  have hs1:s₁.heap.DictAt (QU G.prog G.w) L.n2i (L.inf.map fun f=>(f.key,Qd f.a)) ep:=by
   refine x32 e.S.n2i.dictAt fun ep' o1 es1 b1 b2=>?_
   have:=F.I.get e _ _ (e.hS L.n2i (by simp[SLay.addrs])) b1
   refine x24 (id hat) fun o2 es2 c1 c2 c3 c4=>?_
   rw[this]at c1;cases c1
   exact⟨o1,es2,b1,c2,c3,c4⟩
  exact mU hs1 fun o q=>I.get e _ o (e.hS L.n2i (by simp[SLay.addrs])) q
 refine codeAny_forLoop_any (ForI G L env sc A s₁ I0 ep N r) ?_ (L.inf.length+1)
  ⟨0,{ D with xs:=[(I0,o0)] },[],y,o0,bx _,rfl,⟨I1,F.stk,F.ms,F.esn,F.snl,F.nd,F.sub,F.kin,F.knd⟩,rfl,⟨o0,hget0,by rw[<- hio],by rw[<- hio];rfl⟩,by rw[List.drop_zero];exact hr⟩
 rintro n sk ⟨i,Dk,snk,yk,ok,hi,rfl,Fk,hx,hki,hfc⟩
 have hok:=Fk.I.hok e
 have hoI:=Fk.I.fc.ext (I0,ok) (by rw[hx];simp)
 by_cases hlt:i<L.inf.length
 ·refine W.item i _ _ _ (by rw[hkv];exact hlt) ⟨⟨hki,hatS Fk.I⟩,hok⟩ fun v h₂ t₂ hP hst₂ hk₂=>?_
  have hk2:Qy I0 sk.heap h₂:=fun b o n q=>hk₂ b o (by simpa using n) q
  refine al hst₂ fun z0 U=>?_;refine al z0 fun hki2 U=>?_
  refine x13 (id hki2) fun o2 ho2 hc2 hd2=>?_
  refine mq ho2 hc2 (by decide) ?_
  refine x12 hP fun q hq1 hq2=>?_
  refine x11 (Value.isInt_shape hq2) fun t e1=>?_;subst e1
  have I3:=Fk.I.chgX (t:=t₂) e hx hk2 ho2
  have hfi:∃f,L.inf[i]? = some f/\q=(f.key,.ref f.a):=by
   rw[bK]at hq1
   cases z:L.inf[i]? with
   | none=>rw[z]at hq1;cases hq1
   | some f=>rw[z]at hq1;exact⟨f,rfl,(QH hq1).symm⟩
  refine x12 hfi fun f hf e2=>?_;subst e2
  have hfm:f∈L.inf:=aG hf
  have hdrop:(L.inf.map (·.key)).drop i=f.key::(L.inf.map (·.key)).drop (i+1):=by
   rw[List.drop_eq_getElem_cons (by rw[ag];exact hlt)]
   congr 1
   have:(L.inf.map (·.key))[i]? = some f.key:=by rw[bK,hf];rfl
   exact QH ((br _).symm.trans this)
  rw[hdrop]at hfc
  rw[mX]at hfc
  refine I3.sto (i:=6) e rfl rfl rfl fun s4 I4=>?_
  have hki4:∀ {sk D y},FI G L env sc A s₁ D y sk->D.xs=[(I0,o2)]->sk.heap.IsKeyIter I0 L.n2i (i+1) (L.inf.map fun f=>(f.key,Qd f.a)).length ep:=fun I hx=>⟨o2,I.fc.ext (I0,o2) (by rw[hx];simp),hc2,hd2⟩
  have F4:∀ {s5},FI G L env sc A s₁ { Dk with xs:=[(I0,o2)] } (.val (.int f.key t)) s5->FSt G L env sc A s₁ { Dk with xs:=[(I0,o2)] } [] snk (.val (.int f.key t)) s5:=fun I=>⟨I,Fk.stk,Fk.ms,Fk.esn,Fk.snl,Fk.nd,Fk.sub,Fk.kin,Fk.knd⟩
  refine PS (Rk (QA (I4.ld (i:=6) rfl rfl (I4.ld (i:=4) rfl rfl (yP I4 fun s5 I5=>Qp ?_))) rfl))
  have hesn:({ Dk with xs:=[(I0,o2)] }:FCD).sn=snk:=Fk.esn
  rw[hesn]
  by_cases hs:f.key∈snk
  ·rw[if_pos hs]at hfc
   simp only[hs,decide_true]
   show PM _ _ (QG [_] env) _ _ s5
   refine PS (wpAny_Continue ?_)
   exact⟨L.inf.length+1 - (i+1),by omega,i+1,_,snk,_,o2,hlt,rfl,F4 I5,rfl,hki4 I5 rfl,hfc⟩
  ·rw[if_neg hs]at hfc
   simp only[hs,decide_false]
   show PM _ _ (QG [] env) _ _ s5
   refine Qa ?_
   cases hw:ex L.gr N f.key [] snk with
   | none=>rw[hw]at hfc;cases hfc
   | some rw' =>
    rw[hw]at hfc
    refine PS (G1 e (F4 I5) ⟨f,hfm,rfl⟩ hS1 hS2 hO hw (fun c v s' D' y' hc I' rv=>?_) fun sn' s' D' v' hc F' hx'=>Qa ?_)
    ·subst hc
     exact h1 c v s' D' y' (QH hfc).symm I' rv
    ·subst hc
     exact⟨L.inf.length+1 - (i+1),by omega,i+1,D',sn',_,o2,hlt,rfl,F',hx',hki4 F'.I hx',hfc⟩
 ·have hin:i=L.inf.length:=BN hi (c5.mp hlt)
  subst hin
  refine W.done _ _ _ (by rw[<- hkv]at hki;exact⟨⟨hki,hatS Fk.I⟩,hok⟩) fun h₂ t₂ hk₂=>Qa ?_
  have hk:∀b o,b≠I0->sk.heap.get? b=some o->h₂.get? b=some o:=fun b o n q=>hk₂ b o (by simpa using n) q
  have hr0:r=none:=by
   rw[List.drop_eq_nil_of_le (by rw[ag];exact aN _)]at hfc
   exact(QH hfc).symm
  refine h2 _ { Dk with xs:=[] } yk hr0 ⟨Fk.I.lf.by fun b o hb q=>⟨o.slots,hk b o (fun z=>?_) q⟩,Fk.I.fc.noX.keeps fun b o hb q=>hk b o (fun z=>?_) q,?_,fun b hb=>?_⟩
  ·refine x11 (e.sto b hb) fun o' q'=>?_
   rw[z,hnew0]at q';cases q'
  ·rcases au.mp hb with hb | hb
   ·exact Fk.I.fc.ap (I0,ok) (by rw[hx];simp) (z▸hb)
   ·cases hb
  ·obtain⟨h3,t3,e3,k3,th3⟩:=Fk.I.ks
   subst e3
   have ne:∀b o,s₁.heap.get? b=some o->b≠I0:=fun b o q z=>by rw[z,hnew0]at q;cases q
   exact⟨h₂,t₂,rfl,fun b o n q=>(k3 b o n q).elim fun sl ζ=>ζ.elim fun q1 q2=>⟨sl,hk b _ (ne b o q) q1,q2⟩,fun b o q=>(th3 b o q).elim fun o' q1=>⟨o',hk b _ (ne b o q) q1⟩⟩
  ·rcases au.mp hb with hb | hb
   ·exact Fk.I.new b (FCD.all_l hb)
   ·cases hb
end
noncomputable def yZ(P:Nat->Pos)(st:PW):List PW:=[.Assign [.Name iy (P 0)] (.Attribute (.Name aB (P 1)) kN (P 2)) (P 3),
 .Assign [.Name fq (P 4)] (.List [] (P 5)) (P 6),
 .Assign [.Name iz (P 7)] (.List [] (P 8)) (P 9),
 .Assign [.Name jh (P 10)] (.Call (.Name (ofString "set") (P 11)) [] [] (P 12)) (P 13),
 .Assign [.Name gS (P 14)] (.Dict [] [] (P 15)) (P 16),
 st,
 .Return (some (.Constant .none 0 (P 17))) (P 18)]
inductive isFind(b:List PW):Prop where
 | mk (st:PW) (h1:b=yZ CY st) (h2:isFFor st):isFind b
noncomputable def mY:Option (List Int)->PQ
 | none=>.none
 | some c=>.list (c.map .int)
section
variable{G:Glo}
theorem tF{vs:List PN}{ys:List SV}{args:List PN}{A:P0}{s:PL}{O:PP->Prop}{R:Result->PL->Prop}(wf:G.Wf)(FI:FnInfo G a fd body names vars)
 (ok:Okay A O s) (B:G.Base O s.heap) (hr:∀(i:Nat) (v:PN) (y:SV),vs[i]? = some v->ys[i]? = some y->mL G O s.heap v y) (hvl:vs.length=names.length) (hyl:ys.length=names.length) (hroom:A.depth<1000)
 (hbind:Q9 fd ⟨args,[]⟩=pure (names.zip vs))
 (h:∀env O' s₁,env.frame=some env.locals->PY s s₁->(∀b,O b->O' b)->(∀b,O' b->O b\/s.heap.get? b=none)->(∀b,aU env b->s.heap.get? b=none)->(∀i,bu env (vars.map some) i)->Cond G env fd.scope (vars.map some) (A.deeper env) O' (fun U=>none) (cR vars ys) s₁ ->
  ∀Qf Ef,(∀v s',R (.ok (.ret v)) s'->Qf (.ret v) s')->(∀s',R (.ok (.ret .none)) s'->Qf .next s')->(∀e s',PM (PO G.prog G.w) (A.deeper env) (leaving env e) (fun U s''=>R (.error e) s'') (fun e' s''=>R (.error e') s'') s'->Ef e s') ->
  PM (PO G.prog G.w) (A.deeper env) (QG body env) Qf Ef s₁) :
 QW (PO G.prog G.w) A (.call (.ref a) ⟨args,[]⟩) R s:=by
 refine x12 FI.at_ fun o e2 hd=>?_
 have sc:=FI.sc
 have hsub:∀y∈names,y∈vars:=fun y hy=>by rw[<- sc.pfx]at hy;exact PC hy
 refine codeAny_call_cells (binds:=names.zip vs) (by show A.depth<1000;exact hroom) (B.kp a o (wf.K a o e2)) hd (wf.lim.keeps B.kp) (FI.hcode.keeps B.kp) FI.hbody hbind FI.hclo (fun x hx=>?_) (fun s₁ x=>?_) sc.co sc.gen sc.kind
 ·have hm:x.1∈names:=by
   obtain⟨y,v⟩:=x
   exact(List.of_mem_zip hx).1
  rcases sc.var x.1 (hsub _ hm)with q | q
  ·exact .inl q
  ·refine .inr ⟨q,?_⟩
   refine x11 (i7 (n:=s.heap.objs.size+1) (mem_of_lookup q)) fun c hc=>?_
   refine x11 (jJ (iQ.mpr hc)) fun c' hc'=>?_
   rw[im,dC,hc'];rfl
 ·refine x16 (pM (G:=G) (A:=A) (ys:=ys) sc FI.hg FI.hb ok B hr hvl hyl x) fun O' hO hO2 hSt hsto C k=>?_
  exact h _ O' s₁ rfl k hO hO2 hSt hsto C _ _ (fun U U q=>q) (fun U q=>q) fun U U q=>q
structure FInfo(G:Glo):Prop where
 ts:eM G.K TS=true
 ni:fL G.K NI=true
 sS:dM G.K NI (ofString "successors") pS 2=true
 FF:FnInfo G fF hW bF [aB] eQ
 bind:∀u,Q9 hW ⟨[u],[]⟩=pure ([aB].zip [u])
 bd:isFind bF
 gl:([ofString "set",ofString "iter",ofString "len",ofString "StopIteration"].all fun x=>bU hW.scope x)=true
 loc:(eQ.all fun x=>hW.scope.names.lookup x==some NameKind.local)=true
 sys:∃o,G.hB.get? Rn=some o
variable{L:SLay}{A:P0}{O:PP->Prop}{s:PL}{E:PN->PL->Prop}
theorem tG{v:Expr}{p pos:Pos}{o:Obj}{t:Nat}{Q:Flow->PL->Prop}(F:LF env sc jT ρ s.heap)(hi:eQ[i]? = some x)(hk:sc.names.lookup x=some .local)
 (hev:∀Q,Q (.ref s.heap.objs.size) { s with heap:=s.heap.push o,toks:=t }->PM (PO G.prog G.w) A (Qg v env) Q E s) (hsw:RZ v (some (.Name x p)) pos.line env=pure false) (hss:swappedStores [.Name x p] v env=pure none) (hf:o.isFreed=false)
 (h:∀s',LF env sc jT (ρ.set i (.val (.ref s.heap.objs.size))) s'.heap->KS (an A) (· = env.locals) s s'->s'.heap.get? s.heap.objs.size=some o->(∀b o,b≠env.locals->s.heap.get? b=some o->s'.heap.get? b=some o)->Q .next s') :
 PM (PO G.prog G.w) A (exec (.Assign [.Name x p] v pos) env) Q E s:=by
 refine Qn (hev _ ?_) hsw hss
 have kp:PY s { s with heap:=s.heap.push o,toks:=t }:=bL _
 show PM _ _ (QJ (.Name x p) env (.ref s.heap.objs.size)) _ _ _
 have hne:s.heap.objs.size≠env.locals:=fun q=>by
  refine x12 F.vars fun val f U=>?_
  refine x12 f.loc fun m z1 U=>?_;refine x32 z1 fun o' U U e U=>?_
  have:=Qe e
  rw[<- q]at this;exact bl _ this
 refine(F.keeps kp).sto (s:={ s with heap:=s.heap.push o,toks:=t }) (tz hi) hk fun s' k l=>h s' l ((KS.of (KM.of kp)).trans (KS.of k)) (k.get _ _ hne (PZ _ hf)) fun b o n q=>k.get b o n (am kp b o q)
theorem G3{N:Nat}{r:Option (List Int)}(wf:G.Wf)(I:FInfo G)(ok:Okay A O s)(B:G.Base O s.heap)(X:FX { A with handled:=none } O (fun U=>none) s)(S:SorAt G.prog G.w L s.heap)(hLF:∀b∈L.addrs,¬an A b)(hLB:G.hB.get? L.n2i=none)
 (clo:∀f∈L.inf,∀n∈f.su,∃f'∈L.inf,f'.key=n) (sm:L.inf.length<=1000) (hroom:A.depth+30<1000) (hr:kR L.gr N=some r) :
 PM (PO G.prog G.w) A (call (.ref fF) [.ref L.x]) (fun v s'=>KS (an A) No s s'/\Rep O s'.heap v (mY r)) E s:=by
 refine Q5 (tF (s:=s) (O:=O) (vs:=[.ref L.x]) (ys:=[.val (.ref L.x)]) wf I.FF ok B (fun i v y hv hy=>?_) rfl rfl (pw hroom) (I.bind _) fun env O' s₁ hL k1 hO1 hO2 hSt hsto C Qf Ef hret hnx hex=>?_)
 ·match i with
  | 0=>simp at hv hy;subst hv hy;exact .inr rfl
  | n+1=>simp at hv
 refine x12 X.fr fun outer hfo hfrs=>?_
 have hfo:A.frames=some outer:=hfo
 have hfr:(A.deeper env).frames=some (env::outer):=by show A.frames.map (env::·)=_;rw[hfo];rfl
 have hF':∀b,an (A.deeper env) b->b=env.locals\/an A b:=fun b ζ=>ζ.elim fun l ζ=>ζ.elim fun e hb=>by
  rw[hfr]at e;cases e
  rw[Oq,hL]at hb
  rcases ae.mp hb with q | q
  ·exact .inl q
  ·exact .inr ⟨outer,hfo,q⟩
 have hlocS:aU env env.locals:=.inl rfl
 have hF0:∀b,an (A.deeper env) b->O' b:=fun b q=>(hF' b q).elim (fun z=>z▸C.fr _ (.inl rfl)) fun z=>hO1 b (X.fo b z)
 have L0:=LF.of C
 have hlocD:∃o es n,s₁.heap.get? env.locals=some o/\o.data=.dict es n:=by
  refine x12 L0.vars fun val f U=>?_
  refine x12 f.loc fun m z1 U=>?_;refine x33 z1 fun o es ep q1 q2 U=>?_
  exact⟨o,es,ep,q1,q2⟩
 have e:FE G L env hW.scope (A.deeper env) outer s₁:=by
  refine⟨wf,I.ts,I.ni,I.sS,I.sys,hfr,hL,fun v hv=>?_,C.ok.hok,fun b hb q=>C.ok.hno b hb (hF0 b q),eN S k1,fun b hb q=>?_,C.base.kp,fun b q=>C.base.off b (hF0 b q),hLB,fun b q=>C.ok.obs b (C.store_O q),C.eo,fun x hx=>bC.mp I.gl x hx,fun x hx=>by simpa using bC.mp I.loc x hx,clo,sm,(mx hroom (by decide):A.depth+1+20<1000)⟩
  ·rcases ae.mp hv with rfl | hv
   ·refine x32 hlocD fun o es n q1 q2=>?_
    exact⟨by rw[C.eo.kindS];decide,_,o,es,n,hL,q1,q2⟩
   ·obtain⟨h1,L',o,es,n,h2,h3,h4⟩:=hfrs v hv
    exact⟨h1,L',o,es,n,h2,am k1 _ _ h3,h4⟩
  ·rcases hF' b q with z | z
   ·refine x11 (S.there hb) fun o q'=>?_
    rw[z,hSt _ hlocS]at q';cases q'
   ·exact hLF b hb z
 have loc:=e.loc
 have kfin:∀ {s'},KS (an (A.deeper env)) (· = env.locals) s₁ s'->KS (an A) No s s':=fun k=>by
  obtain⟨h1,t1,rfl,k1⟩:=k1
  obtain⟨h2,t2,rfl,k2,th2⟩:=k
  have ne:∀b o,s.heap.get? b=some o->b≠env.locals:=fun b o q z=>by rw[z,hSt _ hlocS]at q;cases q
  refine⟨h2,t2,rfl,fun b o U q=>?_,fun b o q=>th2 b o (k1 b o q)⟩
  obtain⟨sl,q1,q2⟩:=k2 b o (ne b o q) (k1 b o q)
  exact⟨sl,q1,fun z=>q2 fun y=>(hF' b y).elim (fun w=>ne b o q w) z⟩
 obtain⟨st,hb4,hst⟩:=I.bd
 rw[hb4]
 unfold yZ
 obtain⟨st1,st2,rfl,hst1,hst2⟩:=hst
 have hself:jT[0]? = some (some aB):=rfl
 have d0:(aB==ofString "__debug__")=false:=by decide +kernel
 -- n2i=self._node2info
 refine PS (Qn (gQ C hself d0 rfl (pQ (C.base.inK wf) I.ts (eN S k1) ?_)) rfl rfl)
 have C1:=C.keeps wf (ay s₁ (s₁.toks+1))
 show PM _ _ (QJ (.Name iy _) env (.ref L.n2i)) _ _ _
 refine(LF.of C1).sto (s:={ s₁ with toks:=s₁.toks+1 }) (i:=1) rfl (loc _ (by simp[eQ])) fun s2 k2 l2=>?_
 have K2:KS (an (A.deeper env)) (· = env.locals) s₁ s2:=(KS.of (KM.of (ay s₁ (s₁.toks+1)))).trans (KS.of k2)
 have B2:∀b o,G.hB.get? b=some o->s2.heap.get? b=some o:=fun b o q=>K2.get b o (fun z=>by rw[z,C.base.off _ (C.fr _ (.inl rfl))]at q;cases q) (fun z=>by rw[C.base.off _ (hF0 b z)]at q;cases q) (C.base.kp b o q)
 -- stack=[],itstack=[]
 refine PS (tG (A:=A.deeper env) (i:=2) (t:=s2.toks) (o:={ cls:=.type "list",data:=.seq ([]:List PN).toArray }) l2 rfl (loc _ (by simp[eQ])) (fun Q h=>Si (Qc ⟨bx _,h⟩)) rfl rfl rfl fun s3 l3 K3 g3 e3=>?_)
 refine PS (tG (A:=A.deeper env) (i:=3) (t:=s3.toks) (o:={ cls:=.type "list",data:=.seq ([]:List PN).toArray }) l3 rfl (loc _ (by simp[eQ])) (fun Q h=>Si (Qc ⟨bx _,h⟩)) rfl rfl rfl fun s4 l4 K4 g4 e4=>?_)
 have K14:=(K2.trans K3).trans K4
 have B4:G.Base No s4.heap:=⟨fun b o q=>K14.get b o (fun z=>by rw[z,C.base.off _ (C.fr _ (.inl rfl))]at q;cases q) (fun z=>by rw[C.base.off _ (hF0 b z)]at q;cases q) (C.base.kp b o q),fun U q=>q.elim⟩
 -- seen=set()
 refine PS (Qn (dY (fun a ha=>nomatch ha) (gN wf C.eo B4 (e.gl _ ak) (v:=.type "set") (by simp[cb]) (RE (gg _) (ik (as:=[]) (env:=env) (Qc (call_set_0 fun led=>?_)))))) rfl rfl)
 have kp4:PY s4 { s4 with heap:=s4.heap.push { cls:=.type "set",dict:=none,data:=.set #[] 0 (.fresh 0 0 led) } }:=bL _
 have locl:∀ {s:PL} {ρ},LF env hW.scope jT ρ s.heap->s.heap.objs.size≠env.locals:=fun F q=>by
  refine x12 F.vars fun val f U=>?_
  refine x12 f.loc fun m z1 U=>?_;refine x32 z1 fun o' U U e U=>?_
  have:=Qe e
  rw[<- q]at this;exact bl _ this
 show PM _ _ (QJ (.Name jh _) env (.ref s4.heap.objs.size)) _ _ _
 refine(l4.keeps kp4).sto (s:={ s4 with heap:=s4.heap.push { cls:=.type "set",dict:=none,data:=.set #[] 0 (.fresh 0 0 led) } }) (i:=4) rfl (loc _ (by simp[eQ])) fun s5 k5 l5=>?_
 have g5:=k5.get _ _ (locl l4) (PZ s4.heap (o:={ cls:=.type "set",dict:=none,data:=.set #[] 0 (.fresh 0 0 led) }) rfl)
 have e5:∀b o,b≠env.locals->s4.heap.get? b=some o->s5.heap.get? b=some o:=fun b o n q=>k5.get b o n (am kp4 b o q)
 have K15:=K14.trans ((KS.of (KM.of kp4)).trans (KS.of k5))
 -- node2stacki={}
 refine PS (tG (A:=A.deeper env) (i:=5) (t:=s5.toks) (o:={ cls:=.type "dict",data:=.dict #[] }) l5 rfl (loc _ (by simp[eQ])) (fun Q h=>?_) rfl rfl rfl fun s6 l6 K6 g6 e6=>?_)
 ·rw[eval_Dict_empty]
  refine PK (Ql ?_)
  unfold newDict
  exact Q2 h (by size_fits)
 have K16:=K15.trans K6
 have n2:=locl l2
 have n3:=locl l3
 have n4:=locl l4
 have n5:=locl l5
 have g3':=e6 _ _ n2 (e5 _ _ n2 (e4 _ _ n2 g3))
 have g4':=e6 _ _ n3 (e5 _ _ n3 g4)
 have g5':=e6 _ _ n4 g5
 have lt1:s2.heap.objs.size<s3.heap.objs.size:=Qe g3
 have lt2:s3.heap.objs.size<s4.heap.objs.size:=Qe g4
 have lt3:s4.heap.objs.size<s5.heap.objs.size:=Qe g5
 have none_size:∀h:Qk,h.get? h.objs.size=none:=fun h=>by
  cases q:h.get? h.objs.size with
  | none=>rfl
  | some o=>exact absurd (Qe q) (bl _)
 have hset:s6.heap.SetOf (QU G.prog G.w) s4.heap.objs.size (fun k=>decide (k∈([]:List Int))) 0 :=
  ⟨_,#[],0,.fresh 0 0 led,g5',⟨rfl,rfl,rfl⟩,rfl,(fun e he=>nomatch he),(fun k=>by simp),by decide,(by cases led<;>decide),rfl⟩
 have hdict:s6.heap.DictOf (QU G.prog G.w) s5.heap.objs.size []:=fy (h:=s5.heap.push { cls:=.type "dict",data:=.dict #[] }) (fun o q=>by
  rw[PZ _ rfl]at q;cases q;exact g6) (Heap.DictOf.new _)
 have fc:FC G.prog G.w ⟨s2.heap.objs.size,s3.heap.objs.size,s4.heap.objs.size,s5.heap.objs.size,[],[],[],[],[],[]⟩ s6.heap:=by
  refine⟨⟨#[],0,g3',.nil⟩,⟨0,g4'⟩,⟨0,hset,aN _⟩,⟨[],hdict,.nil⟩,fun e he=>(nomatch he),?_,fun p hp=>(nomatch hp),fun p hp=>(nomatch hp)⟩
  show[s2.heap.objs.size,s3.heap.objs.size,s4.heap.objs.size,s5.heap.objs.size].Nodup
  have q1:s2.heap.objs.size≠s3.heap.objs.size:=dT lt1
  have q2:s2.heap.objs.size≠s4.heap.objs.size:=dT (Nat.lt_trans lt1 lt2)
  have q3:s2.heap.objs.size≠s5.heap.objs.size:=dT (Nat.lt_trans (Nat.lt_trans lt1 lt2) lt3)
  have q4:s3.heap.objs.size≠s4.heap.objs.size:=dT lt2
  have q5:s3.heap.objs.size≠s5.heap.objs.size:=dT (Nat.lt_trans lt2 lt3)
  have q6:s4.heap.objs.size≠s5.heap.objs.size:=dT lt3
  simp[q1,q2,q3,q4,q5,q6]
 have J:FI G L env hW.scope (A.deeper env) s₁ ⟨s2.heap.objs.size,s3.heap.objs.size,s4.heap.objs.size,s5.heap.objs.size,[],[],[],[],[],[]⟩ .un s6:=by
  refine⟨l6,fc,K16,fun c hc=>?_⟩
  have hc:c∈[s2.heap.objs.size,s3.heap.objs.size,s4.heap.objs.size,s5.heap.objs.size]:=by simpa[FCD.all,FCD.addrs]using hc
  simp only[ae,cu,or_false]at hc
  rcases hc with rfl | rfl | rfl | rfl
  ·exact K2.back (none_size _)
  ·exact(K2.trans K3).back (none_size _)
  ·exact K14.back (none_size _)
  ·exact K15.back (none_size _)
 have hob:∀b,O' b->∃o,s₁.heap.get? b=some o:=C.ok.obs
 have hg:L.gr.map (·.1)=L.inf.map (·.key):=by simp[SLay.gr]
 unfold kR at hr
 rw[hg]at hr
 refine PS (G2 e ⟨J,.nil,rfl,rfl,bx _,.nil,fun k hk=>(nomatch hk),fun k hk=>(nomatch hk),.nil⟩ rfl hst1 hst2 hob hr (fun c v s' D' y' hc I' rv=>?_) fun s' D' y' hc I'=>?_)
 ·subst hc
  exact hret _ _ ⟨kfin I'.ks,rv.weak hO1⟩
 ·subst hc
  exact PS (QS (Ra (hret _ _ ⟨kfin I'.ks,.none⟩)))
end
noncomputable def iB:Str:=ofString "cycle"
noncomputable def nI:Str:=ofString "i"
noncomputable def mZ:List Str:=[aB,iB]
noncomputable def y0(P:Nat->Pos)(u1:List PW)(scope:Scope)(msg:Str):List PW:=[.If (.Compare (.Attribute (.Name aB (P 0)) (ofString "_ready_nodes") (P 1)) [.IsNot] [.Constant .none 0 (P 2)] (P 3)) u1 [] (P 4),
 .Assign [.Attribute (.Name aB (P 5)) (ofString "_ready_nodes") (P 6)] (.ListComp (.Attribute (.Name nI (P 7)) (ofString "node") (P 8)) [⟨.Name nI (P 9),.Call (.Attribute (.Attribute (.Name aB (P 10)) (ofString "_node2info") (P 11)) (ofString "values") (P 12)) [] [] (P 13),[.Compare (.Attribute (.Name nI (P 14)) (ofString "npredecessors") (P 15)) [.Eq] [.Constant (.int 0) 0 (P 16)] (P 17)],0⟩] scope (P 18)) (P 19),
 .Assign [.Name iB (P 20)] (.Call (.Attribute (.Name aB (P 21)) (ofString "_find_cycle") (P 22)) [] [] (P 23)) (P 24),
 .If (.Name iB (P 25)) [.Raise (some (.Call (.Name (ofString "CycleError") (P 26)) [.JoinedStr [.Constant (.str msg) 0 (P 27)] (P 28),.Name iB (P 29)] [] (P 30))) none (P 31)] [] (P 32)]
inductive isPrepare(sc:Scope)(b:List PW):Prop where
 | mk (msg:Str) (h1:b=y0 kj Dg rN msg) (h2:((kj 12).endLine==(kj 13).line)=true) (h3:((kj 22).endLine==(kj 23).line)=true) (h4:mw sc rN [nI]=true) (h5:aT (cC sc rN) nI=true):isPrepare sc b
noncomputable def tH(d:Data)(f:ClassData->Bool):Bool:=match d with | .cls cd=>f cd | _=>false
theorem G4{P:Data->Prop}{d:Data}{f:ClassData->Bool}(h:tH d f=true)(k:∀cd,f cd=true->P (.cls cd)):P d:=by
 cases d<;>first | exact absurd h Pl | exact k _ h
noncomputable def tI(l:List PN)(f:PP->List PN->Bool):Bool:=vC l fun v r=>match v with | .ref a=>f a r | _=>false
theorem G6{P:List PN->Prop}{l:List PN}{f:PP->List PN->Bool}(h:tI l f=true)(k:∀a r,f a r=true->P (.ref a::r)):P l :=
 dm h fun v r h=>by cases v<;>first | exact absurd h Pl | exact k _ _ h
noncomputable def v6(l:List (Option PN))(f:String->Bool):Bool:=vC l fun U l=>vC l fun U l=>vC l fun U l=>vC l fun U l=>vC l fun b l=>vC l fun U l=>v0 l (vO b fun v=>match v with | .builtin n=>f n | _=>false)
theorem G7{P:List (Option PN)->Prop}{l:List (Option PN)}{f:String->Bool}(h:v6 l f=true)(k:∀a b c d n e,f n=true->P [a,b,c,d,some (.builtin n),e]):P l :=
 dm h fun a l h=>dm (P:=fun l=>P (a::l)) h fun b l h=>dm (P:=fun l=>P (a::b::l)) h fun c l h=>dm (P:=fun l=>P (a::b::c::l)) h fun d l h=>dm (P:=fun l=>P (a::b::c::d::l)) h fun n l h =>
  dm (P:=fun l=>P (a::b::c::d::n::l)) h fun e l h=>e9 (P:=fun l=>P (a::b::c::d::n::e::l)) h fun h=>o4 (P:=fun n=>P [a,b,c,d,n,e]) h fun v h=>by
   cases v<;>first | exact absurd h Pl | exact k a b c d _ e h
noncomputable def tK(K:Frag)(C:PP)(bmB:List PN)(newId:String):Bool:=(K.lookup C).elim false fun o =>
 decide (o.cls=.type "type")&&tH o.data fun cd=>tI cd.mro fun C' bm=>v6 o.slots.toList fun n=>C'==C&&n==newId&&!cd.hasDel&&tailIn K bmB bm&&nsOkIn K cd.ns&&nsIn K cd.ns "__init__" == some none
structure PInfo(G:Glo):Prop extends FInfo G where
 sN:dM G.K NI (ofString "node") pN 0=true
 sP:dM G.K NI (ofString "npredecessors") pP 1=true
 mF:kM G.K TS (ofString "_find_cycle") fF=true
 FP:FnInfo G fP iS bP [aB] mZ
 bindP:∀u,Q9 iS ⟨[u],[]⟩=pure ([aB].zip [u])
 bdP:isPrepare iS.scope bP
 glP:bU iS.scope (ofString "CycleError")=true
 ce:G.mg (ofString "CycleError")=some (.ref CE)
 exc:tK G.K CE [.type "ValueError",.type "Exception",.type "BaseException",.type "object"] "ValueError.__new__" = true
inductive ExObj(h:Qk)(C:PP)(bmB:List PN)(newId:String):Prop where
 | mk (bm:List PN) (N:PP) (nm qn:Str) (bs:List PN) (hdct:Bool) (sn:List Str) (sub:List PN) (ab:Bool) (col:Option Bool) (dd:Option PP) (k0 k1 k2 k3 k5:Option PN) (mN:Str->Option PN)
  (e:h.get? C=some (excClassObj nm qn C N bs bm hdct sn sub ab col dd k0 k1 k2 k3 k5 newId)) (n:h.Ns N mN) (i:mN "__init__" = none) (t:OwnTail h bmB bm):ExObj h C bmB newId
theorem G8{K:Frag}{C:PP}{bmB:List PN}{newId:String}(X:K.In h)(q:tK K C bmB newId=true):ExObj h C bmB newId:=by
 unfold tK at q
 cases ho:K.lookup C with
 | none=>rw[ho]at q;exact absurd q Pl
 | some o =>
  rw[ho]at q
  replace q:(decide (o.cls=.type "type")&&tH o.data fun cd=>tI cd.mro fun C' bm=>v6 o.slots.toList fun n=>C'==C&&n==newId&&!cd.hasDel&&tailIn K bmB bm&&nsOkIn K cd.ns&&nsIn K cd.ns "__init__" == some none)=true:=q
  refine aP q fun h1 q=>?_
  obtain⟨cls,dd,data,sl⟩:=o
  cases of_decide_eq_true h1
  replace ho:=X _ _ ho
  revert ho
  refine G4 (P:=fun d=>h.get? C=some ⟨.type "type",dd,d,sl⟩->ExObj h C bmB newId) q fun cd q ho=>?_
  obtain⟨nm,bs,mro,ns,qn,hd,sn,sub,ab,col,del⟩:=cd
  revert ho
  refine G6 (P:=fun mro=>h.get? C=some ⟨.type "type",dd,.cls ⟨nm,bs,mro,ns,qn,hd,sn,sub,ab,col,del⟩,sl⟩->ExObj h C bmB newId) q fun C' bm q ho=>?_
  obtain⟨sl⟩:=sl
  revert ho
  refine G7 (P:=fun sl=>h.get? C=some ⟨.type "type",dd,.cls ⟨nm,bs,.ref C'::bm,ns,qn,hd,sn,sub,ab,col,del⟩,⟨sl⟩⟩->ExObj h C bmB newId) q fun k0 k1 k2 k3 n k5 q ho=>?_
  refine oZ q fun q1 q2 q3 q4 q5 q6=>?_
  cases P9 q1
  cases P9 q2
  cases del with
  | true=>exact absurd q3 Pl
  | false=>exact⟨bm,ns,nm,qn,bs,hd,sn,sub,ab,col,dd,k0,k1,k2,k3,k5,_,ho,.of_isNs (isNs_of_in X q5),nsMap_none_of_in X q5 (P9 q6),tail_of_in X q4⟩
theorem y1:∀ {n:Nat} {k:Int} {st:List (Int × Nat)} {sn c:List Int},ex g n k st sn=some (.inl c)->c≠[]
 | 0,_,_,_,_,h=>by cases h
 | n+1,k,st,sn,c,h=>by
  rw[mW]at h
  split at h
  ·cases h
   unfold iA
   simp
  ·split at h
   ·cases h
   ·exact y1 h
theorem tL:∀ {ks sn:List Int} {c:List Int},fQ g N ks sn=some (some c)->c≠[]
 | [],_,_,h=>by cases h
 | k::ks,sn,c,h=>by
  rw[mX]at h
  split at h
  ·exact tL h
  ·split at h
   ·cases h
   ·rename_i c' hw
    cases h
    exact y1 hw
   ·exact tL h
section
variable{G:Glo}{env:Env}{sc:Scope}{ctx:List (Option Str)}{A:P0}{O:PP->Prop}{ω:PP->Option Nat}{ρ:List SV}{s s':PL}
theorem Cond.ks(wf:G.Wf)(C:Cond G env sc ctx A O ω ρ s)(k:KS (an A) No s s')(fo:∀b,an A b->O b)(fw:∀b i,ω b=some i->¬an A b):Cond G env sc ctx A O ω ρ s':=by
 have kk:∀b o,¬O b->s.heap.get? b=some o->s'.heap.get? b=some o:=fun b o n e=>k.get b o id (fun q=>n (fo b q)) e
 obtain⟨val,F,V⟩:=C.vars
 refine⟨C.eo,C.co,C.len,⟨C.ok.hok.frame fun b hb o e=>kk b o (C.ok.hno b hb) e,C.ok.hno,fun b hb=>(C.ok.obs b hb).elim fun o e=>k.there b o e⟩,⟨fun b o e=>kk b o (fun q=>by rw[C.base.off b q]at e;cases e) (C.base.kp b o e),C.base.off⟩,C.fr,C.fc,C.om,val,F.slots fun b o U e=>k.slot b o id e,fun i x e=>?_⟩
 exact(V i x e).at wf C.base fun b o hb q=>by
  rcases hb with hb | hb
  ·exact k.get b o id (fw b i hb) q
  ·exact kk b o hb q
theorem FX.ks(x:FX A O ω s)(k:KS F No s s'):FX A O ω s':=x.by k (fun b q=>q.elim) x.fo x.fw
end
theorem y2{inf:List NInf}(hn:(inf.flatMap a7).Nodup){f g:NInf}(hf:f∈inf)(hg:g∈inf)(e:f.a=g.a):f=g:=by
 refine x11 (Ac.mp hf) fun i hi=>?_
 refine x11 (Ac.mp hg) fun j hj=>?_
 by_cases q:i=j
 ·subst q;rw[hi]at hj;exact QH hj
 ·exact absurd (show f.a∈a7 g by rw[e];simp[a7]) (yt hn hi hj q f.a (by simp[a7]))
noncomputable def cX(inf:List NInf):List Int:=(inf.filter fun f=>f.np==0).map (·.key)
noncomputable def m0(inf:List NInf)(v:PN):Bool:=inf.any fun f=>(Qd f.a==v)&&f.np==0
noncomputable def m8(inf:List NInf)(v:PN):List PQ:=((inf.filter fun f=>Qd f.a==v).map fun f=>QT f.key).take 1
theorem y3{inf:List NInf}(hn:(inf.flatMap a7).Nodup){f:NInf}(hf:f∈inf):m0 inf (.ref f.a)=(f.np==0):=by
 unfold m0
 cases h:f.np==0 with
 | true=>exact eH.mpr ⟨f,hf,by simp[h]⟩
 | false =>
  rw[List.any_eq_false]
  intro g hg q
  simp only[di,beq_iff_eq,Value.ref.injEq]at q
  have:=y2 hn hg hf q.1
  subst this
  simp[q.2]at h
theorem y4(hn:(inf.flatMap a7).Nodup)(hf:f∈inf):m8 inf (.ref f.a)=[.int f.key]:=by
 unfold m8
 have:∀g∈inf.filter (fun g=>Qd g.a==Qd f.a),g=f:=fun g hg=>by
  rw[cW]at hg
  exact y2 hn hg.1 hf (by simpa using hg.2)
 cases h:inf.filter (fun g=>Qd g.a==Qd f.a)with
 | nil =>
  have:f∈inf.filter (fun g=>Qd g.a==Qd f.a):=cW.mpr ⟨hf,by simp⟩
  rw[h]at this;cases this
 | cons g r =>
  rw[this g (by rw[h];exact ak)]
  rfl
theorem y5(hn:(inf.flatMap a7).Nodup):((inf.map fun f=>Qd f.a).flatMap fun d=>if m0 inf d=true then m8 inf d else[])=(cX inf).map QT:=by
 have key:∀l:List NInf,(∀f∈l,f∈inf)->((l.map fun f=>Qd f.a).flatMap fun d=>if m0 inf d=true then m8 inf d else[])=(cX l).map QT:=by
  intro l
  induction l with
  | nil=>intro _;rfl
  | cons f r ih =>
   intro h
   have hf:=h f ak
   rw[a9,j4,ih fun g hg=>h g (ar _ hg),y3 hn hf,y4 hn hf]
   unfold cX
   rw[dv]
   cases f.np==0<;>simp
 exact key inf fun U h=>h
theorem tM{L:SLay}{D:PP}{l:List Int}{b:PP}(h:b∈({ L with rd:=some (D,l) }:SLay).addrs):b∈L.addrs\/b=D:=by
 simp only[SLay.addrs,SLay.rdAs,ae,au,cu,or_false]at h ⊢
 rcases h with h | h | h | h | h
 ·exact .inl (.inl h)
 ·exact .inl (.inr (.inl h))
 ·exact .inl (.inr (.inr (.inl h)))
 ·exact .inl (.inr (.inr (.inr (.inl h))))
 ·exact .inr h
theorem y6{L:SLay}{D:PP}{l:List Int}{b:PP}(hrd:L.rd=none)(h:b∈L.addrs):b∈({ L with rd:=some (D,l) }:SLay).addrs:=by
 simp only[SLay.addrs,SLay.rdAs,hrd,ae,au,cu,or_false]at h ⊢
 rcases h with h | h | h | h
 ·exact .inl h
 ·exact .inr (.inl h)
 ·exact .inr (.inr (.inl h))
 ·exact .inr (.inr (.inr (.inl h)))
section
variable{A:P0}{O:PP->Prop}{ω:PP->Option Nat}{s:PL}
theorem KS.noted{L:List PP}{h₂ B:Qk}{s₁:PL}{t:Nat}(X:FX A O ω s)(k:KS (an A) (·∈L) s s₁)(sB:∀b o,¬an A b->b∉L->s.heap.get? b=some o->B.get? b=some o)(hL:∀b∈L,∃o,B.get? b=some o)(st:B.StaysIn h₂)(u:s₁.heap.UpToSlots h₂):KS (an A) (·∈L) s { s₁ with heap:=h₂,toks:=t }:=by
 obtain⟨h9,t9,rfl,p1,p2⟩:=k
 have slot:∀b o,b∉L->s.heap.get? b=some o->∃sl,h₂.get? b=some { o with slots:=sl }/\(¬an A b->sl=o.slots):=fun b o n q=>by
  by_cases z:an A b
  ·refine x12 (p1 b o n q) fun sl r1 U=>?_
   refine x32 (X.dict z) fun o' es m' w1 w2=>?_
   rw[q]at w1;cases w1
   obtain⟨sl',r3⟩:=u b _ r1 fun vs y=>by
    have y:o.data=.fields vs:=y
    rw[w2]at y;cases y
   exact⟨sl',r3,fun y=>absurd z y⟩
  ·exact⟨o.slots,st b o (sB b o z n q),fun U=>rfl⟩
 refine⟨h₂,t,rfl,slot,fun b o q=>?_⟩
 by_cases n:b∈L
 ·refine x11 (hL b n) fun o' q'=>?_
  exact⟨o',st b o' q'⟩
 ·refine x12 (slot b o n q) fun sl q' U=>?_
  exact⟨_,q'⟩
end
section
variable{G:Glo}{L:SLay}{A:P0}{O:PP->Prop}{s:PL}
theorem FX.deeper(X:FX A O (fun U=>none) s)(k:PY s s₁)(C:Cond G env sc ctx (A.deeper env) O' (fun U=>none) ρ s₁)(hL:env.frame=some env.locals)(hO:∀b,O b->O' b) :
 FX (A.deeper env) O' (fun U=>none) s₁/\(∀b,an (A.deeper env) b->b=env.locals\/an A b)/\∃outer,A.frames=some outer/\(A.deeper env).frames=some (env::outer):=by
 refine x12 X.fr fun outer hfo hfrs=>?_
 have hfr:(A.deeper env).frames=some (env::outer):=by show A.frames.map (env::·)=_;rw[hfo];rfl
 have hF':∀b,an (A.deeper env) b->b=env.locals\/an A b:=fun b ζ=>ζ.elim fun l ζ=>ζ.elim fun e hb=>by
  rw[hfr]at e;cases e
  rw[Oq,hL]at hb
  rcases ae.mp hb with q | q
  ·exact .inl q
  ·exact .inr ⟨outer,hfo,q⟩
 refine⟨⟨⟨_,hfr,fun v hv=>?_⟩,fun b q=>(hF' b q).elim (fun z=>z▸C.fr _ (.inl rfl)) fun z=>hO b (X.fo b z),fun b i q=>(nomatch q),X.hn⟩,hF',outer,hfo,hfr⟩
 rcases ae.mp hv with rfl | hv
 ·obtain⟨val,f,_⟩:=C.vars
  refine x12 f.loc fun m z1 U=>?_;refine x33 z1 fun o es ep q1 q2 U=>?_
  exact⟨by rw[C.eo.kindS];decide,_,o,es,ep,hL,q1,q2⟩
 ·obtain⟨h1,L',o,es,n,h2,h3,h4⟩:=hfrs v hv
  exact⟨h1,L',o,es,n,h2,am k _ _ h3,h4⟩
theorem G9{N:Nat}{r:Option (List Int)}(wf:G.Wf)(I:PInfo G)(ok:Okay A O s)(B:G.Base O s.heap)(X:FX A O (fun U=>none) s)(S:SorAt G.prog G.w L s.heap)(hrd:L.rd=none)(hO:∀b∈L.addrs,O b)(hLF:∀b∈L.addrs,¬an A b)
 (clo:∀f∈L.inf,∀n∈f.su,∃f'∈L.inf,f'.key=n) (sm:L.inf.length<=1000) (hroom:A.depth+40<1000) (hh:A.handled=none) (hr:kR L.gr N=some r) (hcl:∀c,r=some c->c.length<=100000)
 {Q:PN->PL->Prop} {E:PN->PL->Prop} (hQ:r=none->∀s' rA,s.heap.get? rA=none->SorAt G.prog G.w { L with rd:=some (rA,cX L.inf) } s'.heap->KS (an A) (·∈L.addrs) s s'->Q .none s')
 (hE:r≠none->∀s' a B rA,eO B (A.frames.getD []) a (.ref CE) s'.heap->s.heap.get? a=none->s.heap.get? rA=none->SorAt G.prog G.w { L with rd:=some (rA,cX L.inf) } B ->
  (∀b o,¬an A b->b∉L.addrs->s.heap.get? b=some o->B.get? b=some o)->KS (an A) (·∈L.addrs) s s'->E (.ref a) s') :
 PM (PO G.prog G.w) A (call (.ref fP) [.ref L.x]) Q E s:=by
 refine Q5 (tF (s:=s) (O:=O) (vs:=[.ref L.x]) (ys:=[.val (.ref L.x)]) wf I.FP ok B (fun i v y hv hy=>?_) rfl rfl (pw hroom) (I.bindP _) fun env O' s₁ hL k1 hO1 hO2 hSt hsto C Qf Ef hret hnx hex=>?_)
 ·match i with
  | 0=>simp at hv hy;subst hv hy;exact .inr rfl
  | n+1=>simp at hv
 have bd:=I.bdP
 obtain⟨msg,hb,hl1,hl2,hso,hsi⟩:=bd
 rw[hb]
 unfold y0
 have d0:(aB==ofString "__debug__")=false:=by decide +kernel
 have d1:(iB==ofString "__debug__")=false:=by decide +kernel
 have d2:(nI==ofString "__debug__")=false:=by decide +kernel
 have hself:(mZ.map some)[0]? = some (some aB):=rfl
 have hcyc:(mZ.map some)[1]? = some (some iB):=rfl
 have S1:=eN S k1
 have hOO:∀b∈L.addrs,O' b:=fun b hb=>hO1 b (hO b hb)
 have hFS:∀b∈L.addrs,¬aU env b:=fun b hb q=>by
  refine x11 (S.there hb) fun o e=>?_
  rw[hSt b q]at e;cases e
 have hstor:aT iS.scope iB=true:=by
  rcases I.FP.sc.var iB (by simp[mZ])with q | q<;>simp[aT,q]
 -- if self._ready_nodes is not None
 refine PS (Rk (QA (gQ C hself d0 rfl (yp (C.base.inK wf) I.ts S1 (Ra (isNot_none ?_)))) rfl))
 have hrv:L.rdv=.none:=by unfold SLay.rdv;rw[hrd]
 rw[hrv]
 refine Qp ?_
 show PM _ _ (QG [] env) _ _ _
 refine Qa ?_
 have C2:=C.keeps wf (ay s₁ (s₁.toks+1))
 have S2:SorAt G.prog G.w L ({ s₁ with toks:=s₁.toks+1 }:PL).heap:=S1
 generalize hs2:({ s₁ with toks:=s₁.toks+1 }:PL)=s₂ at C2 S2 ⊢
 have k2:PY s₁ s₂:=hs2▸ay _ _
 have nd:=(SLay.ne_iff.mp S.nd).ind
 have so:=SOk.of hso
 have hlenR:(cX L.inf).length<=L.inf.length:=by unfold cX;rw[ag];exact aV _ _
 -- self._ready_nodes=[..]
 refine PS (jf (sc:=iS.scope) (O:=O') (ω:=fun U=>none) (ρ:=cR mZ [.val (.ref L.x)]) (v:=.ref L.x) rfl hself d0 rfl ?_)
 rw[eval_ListComp]
 refine F8 (i0:=2) (vars:=[nI]) (its:=L.inf.map fun f=>.ref f.a) (T:=m0 L.inf) (f:=m8 L.inf) wf C2 rfl rfl so (fun E=>Gg wf I.ts I.sys C2 S2 hOO hself d0 rfl hl1 E) (by decide) rfl hsi (fun v hv env' O2 s3 E3 g3 C3=>?_) (fun v hv hT env' D O2 ds' s3 k Q3 E3 hsto3 g3 C3 hD hDF hDw acc hl3 hk=>?_) ?_ ?_
 ·refine x12 (aD.mp hv) fun f hf e2=>?_;subst e2
  have S3:SorAt G.prog G.w L s3.heap:=S2.keeps fun b o U q=>g3 b o q
  rw[PI]
  rw[if_pos rfl]
  refine PK (PK ?_)
  refine QA (gQ C3 (i:=2) rfl d2 rfl (yq (C3.base.inK wf) I.ni I.sP S3 hf fun t=>Re ?_)) rfl
  refine P.eq_int (Qp ?_)
  refine PU ?_
  have kk:PY s3 { s3 with toks:=s3.toks+1+1 }:=ay _ _
  rw[y3 nd hf]
  show PM _ _ (forIn [] (f.np==0) _) _ _ _
  rw[List.forIn_nil]
  exact PU ⟨rfl,kk⟩
 ·refine x12 (aD.mp hv) fun f hf e2=>?_;subst e2
  have S3:SorAt G.prog G.w L s3.heap:=S2.keeps fun b o U q=>g3 b o q
  rw[y4 nd hf]at hl3 hk
  show PM _ _ ((Qg (.Attribute (.Name nI _) (ofString "node") _) env' >>= fun x=>call (.builtin "list.append") [.ref D,x] >>= fun U=>pure ()) >>= fun U=>k) _ _ s3
  refine PK (PK (gQ C3 (i:=2) rfl d2 rfl (FK (C3.base.inK wf) I.ni I.sN S3 hf fun t=>PK ?_)))
  have kk:PY s3 { s3 with toks:=s3.toks+1 }:=ay _ _
  have C4:=C3.keeps wf kk
  refine xK (acc.keeps kk) hD (.int _ _) (by simp at hl3;lia) fun h' hs a hl=>?_
  refine x21 hl fun vs n hl=>?_
  refine al (C4.append wf hD hDw hl hs a) fun k2' C5=>?_
  exact PU (hk _ ((KM.of kk).trans (k2'.mono fun b q=>.inr q)) C5 a)
 ·rw[y5 nd,ag];lia
 ·intro D Cc s3 m k3 hCn hDn hDC hns hrep
  rw[y5 nd]at hrep
  refine⟨m,hns,fun h' hs'=>?_⟩
  have k4:PY s₂ { s3 with heap:=h' }:=by
   refine x22 k3 fun h1 t1 e2 g=>?_;subst e2
   exact⟨h',t1,rfl,fun b o q=>hs'.extBut b o (fun z=>by rw[z,hCn]at q;cases q) (g b o q)⟩
  have C4:=C2.keeps wf k4
  have S4:=eN S2 k4
  obtain⟨hDO,vsD,nD,hLD,hiD⟩:¬O' D/\∃vs n,IsL h' D vs n/\Rb vs.toList (cX L.inf):=by
   cases hrep with
   | list hn hl hr=>exact⟨fun q=>hn (.inl q),_,_,hs'.extBut _ _ hDC hl,tD hr⟩
  refine⟨C4,?_⟩
  have hDL:D∉L.addrs:=fun q=>hDO (hOO D q)
  have hnewD:D∉L.x::L.dx::L.n2i::L.infAs:=fun q=>hDL (by
   simp only[SLay.addrs,ae,au]at q ⊢
   rcases q with q | q | q | q
   ·exact .inl q
   ·exact .inr (.inl q)
   ·exact .inr (.inr (.inl q))
   ·exact .inr (.inr (.inr (.inl q))))
  refine FJ (C4.base.inK wf) I.ts S4 ⟨vsD,nD,hLD,hiD⟩ hnewD fun h5 hs5 S5=>?_
  have hdxL:L.dx∈L.addrs:=by simp[SLay.addrs]
  have km5:KM (· = L.dx) { s3 with heap:=h' } { s3 with heap:=h5,toks:=s3.toks+2 }:=by
   obtain⟨q1,q2,q3,q4,q5,q6,q7,q8,q9,q10,q11,q12⟩:=S5.dict
   exact KM.chg hs5.extBut ⟨_,q12⟩ rfl
  have C5:=C4.outer wf km5 (fun b q=>q▸hOO _ hdxL) fun b q=>q▸hFS _ hdxL
  obtain⟨X1,hF',outer,hfo,hfr⟩:=X.deeper k1 C hL hO1
  have X5:FX (A.deeper env) O' (fun U=>none) { s3 with heap:=h5,toks:=s3.toks+2 }:=by
   refine((X1.keeps k2).keeps k4).by (F:=No) (M:=(· = L.dx)) (KS.of km5) (fun b hb hf=>?_) X1.fo fun b i q=>nomatch q
   have hb:b=L.dx:=hb
   subst hb
   rcases hF' _ hf with q | q
   ·exact absurd (show aU env L.dx by rw[q];exact .inl rfl) (hFS _ hdxL)
   ·exact absurd q (hLF _ hdxL)
  have ks1:PY s s₂:=aX k1 k2
  have hDs:s.heap.get? D=none:=iq ks1 hDn
  have hDF:¬an (A.deeper env) D:=fun q=>hDO (X1.fo D q)
  have hLF':∀b∈L.addrs,¬an (A.deeper env) b:=fun b hb q=>(hF' b q).elim (fun z=>hFS b hb (z▸.inl rfl)) (hLF b hb)
  have hL3:∀b∈({ L with rd:=some (D,cX L.inf) }:SLay).addrs,¬an (A.deeper env) b:=fun b hb q=>(tM hb).elim (fun z=>hLF' b z q) fun z=>hDF (z▸q)
  generalize hs5':({ s3 with heap:=h5,toks:=s3.toks+2 }:PL)=s5 at C5 X5 km5
  have S5':SorAt G.prog G.w { L with rd:=some (D,cX L.inf) } s5.heap:=hs5'▸S5
  -- cycle=self._find_cycle()
  refine PS (Qn (pT wf I.mF (fun U U U U U U U U U U U=>rfl) rfl (fun a ha=>nomatch ha) (by decide) hl2 (gm C5 hself d0 rfl ⟨{ L with rd:=some (D,cX L.inf) },O',rfl,C5.base,S5',Qc ⟨⟨O',C5.base⟩,?_⟩⟩)) rfl rfl)
  refine PR (G3 wf I.toFInfo C5.ok C5.base ⟨X5.fr,X5.fo,X5.fw,rfl⟩ S5' hL3 (C5.base.off _ (hOO _ (by simp[SLay.addrs]))) clo sm (mx hroom (by decide):A.depth+1+30<1000) hr) (fun v s6 h6=>?_) fun U U e=>e
  refine al h6 fun k6 hv=>?_
  have C6:=C5.ks wf k6 X5.fo fun b i q=>nomatch q
  have X6:=X5.ks k6
  have S6:SorAt G.prog G.w { L with rd:=some (D,cX L.inf) } s6.heap:=S5'.keeps fun b o hb q=>k6.get b o id (hL3 b hb) q
  have rv:Rep O' s6.heap v (mY r):=hv
  show PM _ _ (QJ (.Name iB _) env v) _ _ s6
  refine Qx (eq (y:=.dat (mY r)) wf (hsto 1) C6 hcyc hstor ⟨v,rfl,rv⟩ fun s7 k7 C7=>?_)
  have S7:SorAt G.prog G.w { L with rd:=some (D,cX L.inf) } s7.heap:=S6.keeps fun b o hb q=>k7.get b o (fun z=>(tM hb).elim (fun y=>hFS b y z.store) fun y=>hDO (y▸C6.fr b z)) q
  -- what is left behind
  have K7:KS (an (A.deeper env)) (fun b=>b∈L.addrs\/aU env b) s s7:=by
   have a1:KS (an (A.deeper env)) (fun b=>b∈L.addrs\/aU env b) s s5:=((KS.of (KM.of ks1)).trans (KS.of (KM.of k4))).trans (KS.of (km5.mono fun b q=>.inl (by have q:b=L.dx:=q;exact q▸hdxL)))
   exact(a1.trans (k6.mono (fun U q=>q.elim) fun U q=>q)).trans (KS.of (k7.mono fun b q=>.inr q.store))
  have Kfin:KS (an A) (·∈L.addrs) s s7:=by
   obtain⟨h9,t9,rfl,q1,q2⟩:=K7
   refine⟨h9,t9,rfl,fun b o n q=>?_,q2⟩
   have ns:¬aU env b:=fun z=>by rw[hSt b z]at q;cases q
   refine x12 (q1 b o (fun z=>z.elim n ns) q) fun sl q3 q4=>?_
   exact⟨sl,q3,fun z=>q4 fun y=>(hF' b y).elim (fun w=>ns (w▸.inl rfl)) z⟩
  refine PS (Rk ?_)
  rw[kD rfl]
  refine PK (dN (d:=mY r) C7 hcyc d1 (by rfl) fun v7 rv7=>PK (Ql (Qj ?_)))
  cases r with
  | none =>
   cases rv7
   refine truthy_none ?_
   show PM _ _ (QG [] env) _ _ s7
   exact Qa (Qa (hnx _ (hQ rfl _ D hDs S7 Kfin)))
  | some c =>
   have hc:c≠[]:=tL hr
   cases rv7 with
   | @list aC vsC nC dsC hnC hlC hrC =>
   have hi:=tD hrC
   have hsz:vsC.size=c.length:=by rw[<- cQ];exact IntsAre.len hi
   refine wpAny_truthy_list hlC.isList (by have:=hcl c rfl;lia) ?_
   have hne:vsC.isEmpty=false:=by
    cases q:vsC.isEmpty with
    | false=>rfl
    | true =>
     rw[lS,hsz]at q
     exact absurd (List.length_eq_zero_iff.mp q) hc
   rw[hne]
   show PM _ _ (QG [_] env) _ _ _
   have k8:PY s7 { s7 with toks:=s7.toks+1+1 }:=ay _ _
   have C8:=C7.keeps wf k8
   have X7:=X6.step (F:=No) (env:=env) C6 (Step.frame k7) C7
   have X8:=X7.keeps k8
   have S8:=eN S7 k8
   obtain⟨tl,Nn,nm,qn,bs,hdct,sn,sub,ab,col,dd,q0,q1,q2,q3,q5,mN,hC,hN,hni,T⟩:=G8 (C8.base.inK wf) I.exc
   refine PS (wpAny_Raise_call_subU (C:=CE) (nm:=nm) (q:=qn) (N:=Nn) (bs:=bs) (bm:=tl) (hdct:=hdct) (sn:=sn) (sub:=sub) (ab:=ab) (col:=col) (dd:=dd) (k0:=q0) (k1:=q1) (k2:=q2) (k3:=q3) (k5:=q5)
    F.excBase_ValueError (by decide +kernel) F.excBase_ValueError (mN:=mN) (T.hasType (by decide +kernel)) hh rfl hni (ii wf C8.eo C8.base I.glP (by decide +kernel) I.ce ⟨rfl,?_⟩))
   refine Qo (Qh (JoinedStr_one (pos:=kj 28) (RM ?_)))
   have k9:PY { s7 with toks:=s7.toks+1+1 } { s7 with toks:=s7.toks+1+1+1 }:=ay { s7 with toks:=s7.toks+1+1 } (s7.toks+1+1+1)
   have C9:=C8.keeps wf k9
   refine Qh (dN (d:=mY (some c)) C9 hcyc d1 rfl fun u ru=>Qc ⟨rfl,by show 2<=Q7;rw[QP];decide,am k9 _ _ hC,hN.keeps (am k9),T.keeps (am k9),fun h' e hm=>?_⟩)
   -- it leaves
   have up:∀b o,s7.heap.get? b=some o->h'.get? b=some o:=fun b o q=>hm.keeps b o q
   have hen:s7.heap.get? e=none:=hm.new
   refine x13 hm.there fun te he1 U U=>?_
   have hes:s.heap.get? e=none:=K7.back hen
   refine x12 X8.fr fun l8 hl8 fr8=>?_
   rw[hfr]at hl8
   cases hl8
   have frh:je (env::outer) h':=fun v hv=>(fr8 v hv).elim fun h1 ζ=>ζ.elim fun L' ζ=>ζ.elim fun o ζ=>ζ.elim fun es ζ=>ζ.elim fun n ζ=>ζ.elim fun h2 ζ=>ζ.elim fun h3 h4=>⟨h1,L',o,es,n,h2,up _ _ h3,h4⟩
   refine hex _ _ (Gp (s:={ s7 with heap:=h',toks:=s7.toks+1+1+1 }) hfr hL (tB frh ⟨_,_,_,he1,rfl,rfl,rfl,rfl⟩) fun h2 T2 u2=>?_)
   have nt:∀b o,b≠e->¬an (A.deeper env) b->s7.heap.get? b=some o->(gU (env::outer) e h').get? b=some o:=fun b o n nf q=>tA (up b o q) n fun z=>nf ⟨_,hfr,z⟩
   have SB:SorAt G.prog G.w { L with rd:=some (D,cX L.inf) } (gU (env::outer) e h'):=S7.keeps fun b o hb q=>nt b o (fun z=>by rw[z,hen]at q;cases q) (hL3 b hb) q
   have nF:∀b o,¬an A b->s.heap.get? b=some o->¬an (A.deeper env) b:=fun b o n q z=>(hF' b z).elim (fun w=>by rw[w,hSt _ (.inl rfl)]at q;cases q) n
   have sB:∀b o,¬an A b->b∉L.addrs->s.heap.get? b=some o->(gU (env::outer) e h').get? b=some o:=fun b o n nL q =>
    nt b o (fun z=>by rw[z,hes]at q;cases q) (nF b o n q) (Kfin.get b o nL n q)
   exact hE (fun z=>nomatch z) _ e _ D (by rw[hfo];exact T2) hes hDs SB sB (KS.noted (s₁:=s7) X Kfin sB (fun b n=>SB.there (y6 hrd n)) T2.1 ((Heap.UpToSlots.of_keeps up).trans u2))
end
end
section
open PySem PySem.W PyProof.Rows PySem.Spec PySem.SeqAt
set_option genCtorIdx false
noncomputable def gq(G:Glo)(F:FEntry):Prop:=∃a o fd,G.mg F.name=some (.ref a)/\G.K.lookup a=some o/\o.data=.func fd /\
 ∀(A:P0) (s:PL) (O:PP->Prop) (vs:List PN) (ds:List PQ) (E:PN->PL->Prop),aI F.k A->Okay A O s->G.Base O s.heap->FX A O (fun U=>none) s->RepL O s.heap vs ds->F.pre ds ->
  PM (PO G.prog G.w) A (call (.ref a) vs) (fun v s'=>KS (an A) No s s'/\Rep O s'.heap v (F.val ds)) E s
inductive EX where
 | ix (e:IX)
 | rc (f:Nat) (es:IX)
 | and (a b:EX)
 | cmp (op:CmpOp) (a b:EX)
noncomputable def EX.ctorIdx(t:EX):Nat:=EX.casesOn t (fun U=>0) (fun U U=>1) (fun U U=>2) (fun U U U=>3)
inductive TX where
 | cmp (op:CmpOp) (a b:EX)
 | inv (f:Nat) (es:IX)
noncomputable def TX.ctorIdx(t:TX):Nat:=TX.casesOn t (fun U U U=>0) (fun U U=>1)
section
variable(Ψ Φ:List FEntry)
noncomputable def bv:EX->List SV->PQ
 | .ix e,ρ=>den Φ e ρ
 | .rc f es,ρ=>(Ψ.getD f .nope).val (bE Φ es ρ)
 | .and a b,ρ=>if aA (bv a ρ)then bv b ρ else .bool false
 | .cmp op a b,ρ=>.bool (i3 op (bv a ρ) (bv b ρ))
noncomputable def gt:EX->List SV->Prop
 | .ix e,ρ=>pre Φ e false ρ
 | .rc f es,ρ=>dX Φ es ρ/\(Ψ.getD f .nope).pre (bE Φ es ρ)
 | .and a b,ρ=>gt a ρ/\eK (bv Ψ Φ a ρ)=true/\(aA (bv Ψ Φ a ρ)=true->gt b ρ)
 | .cmp op a b,ρ=>gt a ρ/\gt b ρ/\me op (bv Ψ Φ a ρ) (bv Ψ Φ b ρ)
noncomputable def kE:EX->Nat
 | .ix e=>kx Φ e
 | .rc f es=>max (kx Φ es) ((Ψ.getD f .nope).k+1)
 | .and a b=>max (kE a) (kE b)
 | .cmp _ a b=>max (kE a) (kE b)
noncomputable def gu:EX->Scope->List (Option Str)->Expr->Bool
 | .ix e,sc,ctx,ast=>chk Φ e sc ctx ast
 | .rc f es,sc,ctx,e=>iV e fun g U args U=>(Ψ.getD f .nope).name==g&&g != ofString "__debug__"&&decide (f<Ψ.length)&&bU sc g&&cj Φ es sc ctx args
 | .and a b,sc,ctx,e=>wX e fun x y U=>gu a sc ctx x&&gu b sc ctx y
 | .cmp op a b,sc,ctx,e=>pa e fun l o r U=>o==op&&gu a sc ctx l&&gu b sc ctx r&&!behindInMarks o r
noncomputable def iC:TX->List SV->Bool
 | .cmp op a b,ρ=>i3 op (bv Ψ Φ a ρ) (bv Ψ Φ b ρ)
 | .inv f es,ρ=>!aA (bv Ψ Φ (.rc f es) ρ)
noncomputable def tN:TX->List SV->Prop
 | .cmp op a b,ρ=>gt Ψ Φ a ρ/\gt Ψ Φ b ρ/\me op (bv Ψ Φ a ρ) (bv Ψ Φ b ρ)
 | .inv f es,ρ=>gt Ψ Φ (.rc f es) ρ/\eK (bv Ψ Φ (.rc f es) ρ)=true
noncomputable def kT:TX->Nat
 | .cmp _ a b=>max (kE Ψ Φ a) (kE Ψ Φ b)
 | .inv f es=>kE Ψ Φ (.rc f es)
noncomputable def y7:TX->Scope->List (Option Str)->Expr->Bool
 | .cmp op a b,sc,ctx,e=>pa e fun l o r U=>o==op&&gu Ψ Φ a sc ctx l&&gu Ψ Φ b sc ctx r&&!behindInMarks o r
 | .inv f es,sc,ctx,e=>pf e fun x U=>gu Ψ Φ (.rc f es) sc ctx x
end
section
variable{G:Glo}{Ψ Φ:List FEntry}
theorem Rep.ks(k:KS (an A) No s s')(fo:∀b,an A b->O b)(r:Rep O s.heap v d):Rep O s'.heap v d :=
 r.mono (fun b o n e=>k.get b o id (fun q=>n (fo b q)) e) fun U U U q=>q
theorem FX.w0(X:FX A O ω s):FX A O (fun U=>none) s:=⟨X.fr,X.fo,fun b i q=>(nomatch q),X.hn⟩
variable(G Ψ Φ)in
noncomputable def pX(e:EX):Prop:=∀sc ctx ast env A O ω ρ s E,gu Ψ Φ e sc ctx ast=true->Cond G env sc ctx A O ω ρ s->FX A O ω s->aI (kE Ψ Φ e) A->gt Ψ Φ e ρ ->
 PM (PO G.prog G.w) A (Qg ast env) (fun v s'=>KS (an A) No s s'/\Rep O s'.heap v (bv Ψ Φ e ρ)) E s
theorem y8(wf:G.Wf)(hF:∀F∈Φ,aK G F)(hR:∀F∈Ψ,gq G F)(f:Nat)(es:IX):pX G Ψ Φ (.rc f es):=by
 intro sc ctx ast env A O ω ρ s E hc C X R hp
 refine jC (P:=fun ast=>PM (PO G.prog G.w) A (Qg ast env) (fun v s'=>KS (an A) No s s'/\Rep O s'.heap v (bv Ψ Φ (.rc f es) ρ)) E s) hc fun g np args pos hc=>?_
 refine ic hc fun hn hd hl hg ha=>?_
 have hl:=of_decide_eq_true hl
 have hmem:Ψ.getD f .nope∈Ψ:=by
  rw[aj,br hl]
  exact PF hl
 refine x34 (hR _ hmem) fun a o fd e1 e2 e3 ct=>?_
 refine dY (jK es ha) (ii wf C.eo C.base hg (by simpa using bne_iff_ne.mp hd) (P9 hn▸e1) ?_)
 refine RF (o:=o) (fd:=fd) (ik (PR ((snd wf hF es).ls sc ctx args env A O ω ρ s E ha C (R.le (aH _ _)) hp.1) (fun vs s₁ h₁=>?_) fun U U x=>x))
 have C1:=C.keeps wf h₁.1
 refine⟨⟨C1.base.kp a o (wf.K a o e2),e3⟩,?_⟩
 exact PR (ct A s₁ O vs _ E (R.le (aa (fV _) (ao _ _))) C1.ok C1.base (X.keeps h₁.1).w0 h₁.2 hp.2) (fun v s₂ h₂=>⟨(KS.of (KM.of h₁.1)).trans h₂.1,h₂.2⟩) fun U U x=>x
theorem y9(iha:pX G Ψ Φ a)(ihb:pX G Ψ Φ b){E:PN->PL->Prop}(wf:G.Wf)(c1:gu Ψ Φ a sc ctx l=true)(c2:gu Ψ Φ b sc ctx r=true)(C:Cond G env sc ctx A O ω ρ s)(X:FX A O ω s)(R:aI (kE Ψ Φ (.cmp op a b)) A)(hp:gt Ψ Φ (.cmp op a b) ρ)(hQ:∀s',KS (an A) No s s'->Q (.bool (i3 op (bv Ψ Φ a ρ) (bv Ψ Φ b ρ))) s') :
 PM (PO G.prog G.w) A (Qg l env) (fun v s₁=>PM (PO G.prog G.w) A (Qg r env) (fun u s₂=>PM (PO G.prog G.w) A (compareOp op v u) Q E s₂) E s₁) E s:=by
 refine PR (iha sc ctx l env A O ω ρ s E c1 C X (R.le (aH _ _)) hp.1) (fun v s₁ h₁=>?_) fun U U x=>x
 refine PR (ihb sc ctx r env A O ω ρ s₁ E c2 (C.ks wf h₁.1 X.fo X.fw) (X.ks h₁.1) (R.le (ao _ _)) hp.2.1) (fun u s₂ h₂=>?_) fun U U x=>x
 refine PR (sy R.units (.of (h₁.2.ks h₂.1 X.fo)) (.of h₂.2) hp.2.2) (fun v s₃ h₃=>?_) fun U U x=>x
 refine al h₃ fun e0 k3=>?_;subst e0
 exact hQ s₃ ((h₁.1.trans h₂.1).trans (KS.of (KM.of k3)))
theorem tO(wf:G.Wf)(hF:∀F∈Φ,aK G F)(hR:∀F∈Ψ,gq G F):∀e:EX,pX G Ψ Φ e:=by
 intro e
 induction e with
 | ix e =>
  intro sc ctx ast env A O ω ρ s E hc C X R hp
  exact PR ((snd wf hF e).ev sc ctx ast false env A O ω ρ s E hc C R hp) (fun v s' h=>⟨KS.of (KM.of h.1),h.2.ff⟩) fun U U x=>x
 | rc f es=>exact y8 wf hF hR f es
 | and a b iha ihb =>
  intro sc ctx ast env A O ω ρ s E hc C X R hp
  refine DE (P:=fun ast=>PM (PO G.prog G.w) A (Qg ast env) (fun v s'=>KS (an A) No s s'/\Rep O s'.heap v (bv Ψ Φ (.and a b) ρ)) E s) hc fun x y p hc=>?_
  refine aP hc fun c1 c2=>?_
  rw[arm_eval_BoolOp]
  show PM _ _ (Qg x env >>= fun v=>RX p >>= fun U=>RW [v] (truthy v) >>= fun t=>(match BoolOp.And,t with | .And,false=>pure v | .Or,true=>pure v | _,_=>boolOp p .And (evalEach [y] env))) _ _ s
  refine PK (PR (iha sc ctx x env A O ω ρ s E c1 C X (R.le (aH _ _)) hp.1) (fun v s₁ h₁=>?_) fun U U x=>x)
  cases mH h₁.2 hp.2.1
  refine PK (Ql (PK (Qj (Qp ?_))))
  rw[show bv Ψ Φ (.and a b) ρ=if aA (bv Ψ Φ a ρ)=true then bv Ψ Φ b ρ else .bool false from rfl]
  cases ht:aA (bv Ψ Φ a ρ)with
  | false=>exact PU ⟨h₁.1,.bool _⟩
  | true =>
   show PM _ _ (Qg y env) _ _ s₁
   exact PR (ihb sc ctx y env A O ω ρ s₁ E c2 (C.ks wf h₁.1 X.fo X.fw) (X.ks h₁.1) (R.le (ao _ _)) (hp.2.2 ht)) (fun v s₂ h₂=>⟨h₁.1.trans h₂.1,h₂.2⟩) fun U U x=>x
 | cmp op a b iha ihb =>
  intro sc ctx ast env A O ω ρ s E hc C X R hp
  refine pe (P:=fun ast=>PM (PO G.prog G.w) A (Qg ast env) (fun v s'=>KS (an A) No s s'/\Rep O s'.heap v (bv Ψ Φ (.cmp op a b) ρ)) E s) hc fun l o r p hc=>?_
  refine gF hc fun ho c1 c2 c3=>?_
  cases P9 ho
  exact wpAny_Compare1 (y9 iha ihb wf c1 c2 C X R hp fun s' k=>⟨k,.bool _⟩) (jx _▸c3)
theorem Ha(wf:G.Wf)(hF:∀F∈Φ,aK G F)(hR:∀F∈Ψ,gq G F)(e:TX):∀sc ctx ast env A O ω ρ s E,y7 Ψ Φ e sc ctx ast=true->Cond G env sc ctx A O ω ρ s->FX A O ω s->aI (kT Ψ Φ e) A->tN Ψ Φ e ρ ->
 PM (PO G.prog G.w) A (isTrue ast env (Qg ast env)) (fun b s'=>b=iC Ψ Φ e ρ/\KS (an A) No s s') E s:=by
 intro sc ctx ast env A O ω ρ s E hc C X R hp
 cases e with
 | cmp op a b =>
  refine pe (P:=fun ast=>PM (PO G.prog G.w) A (isTrue ast env (Qg ast env)) (fun r s'=>r=iC Ψ Φ (.cmp op a b) ρ/\KS (an A) No s s') E s) hc fun l o r p hc=>?_
  refine gF hc fun ho c1 c2 c3=>?_
  cases P9 ho
  exact QA (y9 (tO wf hF hR a) (tO wf hF hR b) wf c1 c2 C X R hp fun s' k=>Qp ⟨rfl,k⟩) (jx _▸c3)
 | inv f es =>
  refine pg (P:=fun ast=>PM (PO G.prog G.w) A (isTrue ast env (Qg ast env)) (fun r s'=>r=iC Ψ Φ (.inv f es) ρ/\KS (an A) No s s') E s) hc fun x p hc=>?_
  show PM _ _ (isTrue x env (Qg x env) >>= fun b=>pure (!b)) _ _ s
  rw[kD (jC (P:=fun ast=>dK ast=true) hc fun U U U U U=>rfl)]
  refine PK (PK (PR (y8 wf hF hR f es sc ctx x env A O ω ρ s E hc C X R hp.1) (fun v s₁ h₁=>PK (Ql (Qj ?_))) fun U U x=>x))
  rw[mH h₁.2 hp.2]
  exact Qp (PU ⟨rfl,h₁.1⟩)
end
theorem Step.ks(k:KS (an A) No s s'):Step (Fz true A) env O ω s O ω s' :=
 ⟨k.mono (fun U q=>q.elim) fun U q=>⟨rfl,q⟩,fun U h U=>h,fun U h=>.inl h,fun U U h=>.inl h⟩
set_option backward.match.sparseCases false in
noncomputable def pY:Expr->Bool
 | .ListComp ..=>false
 | .SetComp ..=>false
 | .DictComp ..=>false
 | _=>true
section
variable{G:Glo}{Ψ Φ:List FEntry}
noncomputable def tP(Ψ Φ:List FEntry)(e:EX):Prim where
 chk sc ctx st:=lZ st fun v U=>gu Ψ Φ e sc ctx v
 k:=kE Ψ Φ e
 pre ρ:=gt Ψ Φ e ρ
 den ρ:=(.ret (bv Ψ Φ e ρ),ρ)
theorem Hb(e:EX)(wf:G.Wf)(hF:∀F∈Φ,aK G F)(hR:∀F∈Ψ,gq G F):dZ G true (tP Ψ Φ e):=by
 intro sc ctx st env A O ω ρ s E Q hc hsto C hX R hp hQ
 refine o9 (P:=fun st=>PM (PO G.prog G.w) A (exec st env) Q E s) hc fun v pos hc=>?_
 have X:=(hX rfl).toFX
 show PM _ A (RX pos >>= fun U=>Qg v env >>= fun u=>pure (.ret u)) Q E s
 refine PK (Ql (PK (PR (tO wf hF hR e sc ctx v env A O ω ρ s E hc C X R hp) (fun u s₁ h₁=>PU ?_) fun U U x=>x)))
 exact hQ O ω s₁ (.ret u) (Step.ks h₁.1) (C.ks wf h₁.1 X.fo X.fw) ⟨u,rfl,h₁.2⟩
noncomputable def kU(Ψ Φ:List FEntry)(c:TX)(a b:SX):Prim where
 chk sc ctx st:=o6 st fun test body orelse U=>y7 Ψ Φ c sc ctx test&&cn Φ a sc ctx body&&cn Φ b sc ctx orelse
 k:=max (kT Ψ Φ c) (max (kS Φ a) (kS Φ b))
 pre ρ:=tN Ψ Φ c ρ/\(iC Ψ Φ c ρ=true->aM Φ a ρ)/\(iC Ψ Φ c ρ=false->aM Φ b ρ)
 den ρ:=if iC Ψ Φ c ρ=true then av Φ a ρ else av Φ b ρ
theorem za(c:TX)(a b:SX)(wf:G.Wf)(hF:∀F∈Φ,aK G F)(hR:∀F∈Ψ,gq G F)(ha:eb G true a)(hb:eb G true b):dZ G true (kU Ψ Φ c a b):=by
 intro sc ctx st env A O ω ρ s E Q hc hsto C hX R hp hQ
 dsimp only[kU]at hQ
 refine wD (P:=fun st=>PM (PO G.prog G.w) A (exec st env) Q E s) hc fun test body orelse pos hc=>?_
 refine eh hc fun c1 c2 c3=>?_
 have X:=(hX rfl).toFX
 refine Rk (PR (Ha wf hF hR c sc ctx test env A O ω ρ s E c1 C X (R.le (aH _ _)) hp.1) (fun t s₁ h₁=>?_) fun U U x=>x)
 refine al h₁ fun e0 k1=>?_;subst e0
 have C1:=C.ks wf k1 X.fo X.fw
 have X1:true=true->FXE env A O ω s₁:=fun U=>⟨X.ks k1,(hX rfl).top,(hX rfl).ef⟩
 cases ht:iC Ψ Φ c ρ with
 | true =>
  rw[if_pos ht]at hQ
  exact pI wf hF a ha sc ctx body env A O ω ρ s₁ E Q c2 hsto C1 X1 (R.le (aa (aH _ _) (ao _ _))) (hp.2.1 ht) fun O' ω' s' fl hs C' hf=>hQ O' ω' s' fl ((Step.ks k1).trans C.ok.obs hs) C' hf
 | false =>
  rw[if_neg (by rw[ht];exact Pl)]at hQ
  exact pI wf hF b hb sc ctx orelse env A O ω ρ s₁ E Q c3 hsto C1 X1 (R.le (aa (ao _ _) (ao _ _))) (hp.2.2 ht) fun O' ω' s' fl hs C' hf=>hQ O' ω' s' fl ((Step.ks k1).trans C.ok.obs hs) C' hf
theorem Hc(wf:G.Wf)(hF:∀F∈Φ,aK G F)(S:SX)(hP:eb G true S)(F:FEntry){a:PP}{fd:Qm}{body:List PW}{names vars:List Str}
 (e1:G.mg F.name=some (.ref a)) (FI:FnInfo G a fd body names vars)
 (hbind:∀vs:List PN,vs.length=names.length->Q9 fd ⟨vs,[]⟩=pure (names.zip vs))
 (hchk:cn Φ S fd.scope (vars.map some) body=true) (hk:kS Φ S+1<=F.k)
 (hpre:∀ds,F.pre ds->ds.length=names.length/\aM Φ S (aS vars ds)/\(av Φ S (aS vars ds)).1=.ret (F.val ds)):gq G F:=by
 refine x12 FI.at_ fun o e2 hd=>?_
 refine⟨a,o,fd,e1,e2,hd,fun A s O vs ds E R ok B X r hp=>?_⟩
 refine dl (hpre ds hp) fun h1 h2 h3=>?_
 have hvl:vs.length=names.length:=by rw[r.length,h1]
 refine Q5 (tF (s:=s) (O:=O) (ys:=ds.map .dat) wf FI ok B (pO r) hvl (by simp[h1]) (R.fits (bx _)) (hbind vs hvl) fun env O' s₁ hL k1 hO1 hO2 hSt hsto C Qf Ef hret hnx hex=>?_)
 obtain⟨X1,hF',outer,_,hfr⟩:=X.deeper k1 C hL hO1
 refine pI wf hF S hP fd.scope (vars.map some) body _ _ O' _ _ s₁ _ _ hchk hsto C (fun U=>⟨X1,⟨outer,hfr⟩,hL⟩) (R.deeper hk) h2 fun O'' ω'' s' fl st C' hf=>?_
 rw[show(av Φ S (cR vars (ds.map SV.dat))).1=.ret (F.val ds)from h3]at hf
 refine x12 hf fun v e1 rv=>?_;subst e1
 refine hret _ _ ⟨?_,rv.weak fun b q=>st.o1 b (hO1 b q) fun i z=>by cases z⟩
 obtain⟨h2,t2,rfl,k2,th2⟩:=st.km
 obtain⟨h1,t1,rfl,k1⟩:=k1
 refine⟨h2,t2,rfl,fun b o U q=>?_,fun b o q=>th2 b o (k1 b o q)⟩
 have ns:¬aU env b:=fun z=>by rw[hSt b z]at q;cases q
 obtain⟨sl,q1,q2⟩:=k2 b o (fun z=>z.elim (fun z=>ns z.store) fun ζ=>ζ.elim fun i z=>by cases z) (k1 b o q)
 exact⟨sl,q1,fun z=>q2 fun y=>(hF' b y.2).elim (fun w=>ns (w▸.inl rfl)) z⟩
end
end
section
open PySem PySem.W PyProof.Rows PySem.Spec PySem.SeqAt PySem.Calls
noncomputable def pZ(prog:Qs)(w:Qq)(g:Srt)(S:PP->Prop)(h:Qk)(v:PN):Prop :=
 ∃L:SLay,v=.ref L.x/\SorAt prog w L h/\(∀b,S b↔b∈L.addrs)/\L.gr=g.nodes/\L.rd.map (·.2)=g.ready/\L.po=g.passed/\L.fi=g.finished
theorem Hd{prog:Qs}{w:Qq}{g:Srt}{S:PP->Prop}{h h':Qk}{v:PN}(r:pZ prog w g S h v)(k:∀b o,S b->h.get? b=some o->h'.get? b=some o):pZ prog w g S h' v:=by
 refine x14 r fun L e S1 hS r=>?_
 exact⟨L,e,S1.keeps fun b o hb q=>k b o ((hS b).mpr hb) q,hS,r⟩
noncomputable def tQ:Str:=ofString "TopologicalSorter"
noncomputable def tR:Str:=ofString "add"
noncomputable def zb:Str:=ofString "prepare"
noncomputable def He:Str:=ofString "CycleError"
structure SorG(G:Glo):Prop where
 sr:∀g S h v,G.SR g S h v↔pZ G.prog G.w g S h v
 T:TInfo G fdT bT
 A:SA G
 P:PInfo G
 gT:G.mg tQ=some (.ref TS)
 kT:keepIn G.K (.ref TS)=true
 mA:kM G.K TS tR lT=true
 mP:kM G.K TS zb fP=true
 ce:exmOne G.K (.ref CE) (.ref CE)=some true
section
variable{G:Glo}{Φ:List FEntry}{env:Env}{sc:Scope}{ctx:List (Option Str)}{A:P0}{O:PP->Prop}{ω:PP->Option Nat}{ρ:List SV}{s s':PL}{E:PN->PL->Prop}
theorem zc{F F':PP->Prop}{S S':PP->Prop}{g':Srt}(wf:G.Wf)(C:Cond G env sc ctx A O ω ρ s)(Fv:FrameV env s.heap val)(V:i6 G O ω s.heap ctx ρ val)(hx:ctx[i]? = some (some x))(hv:val x=some u)
 (k:KS F S s s') (fo:∀b,F b->O b) (fw:∀b i,ω b=some i->¬F b) (hF:∀b,F b->F' b) (hS:∀b,S b->ω b=some i) (hS':∀b,S' b->S b\/s.heap.get? b=none) (h3:∀b,S' b->∃o,s'.heap.get? b=some o) (r:G.SR g' S' s'.heap u) :
 ∃O' ω',Step F' env O ω s O' ω' s'/\Cond G env sc ctx A O' ω' (ρ.set i (.sor g')) s':=by
 classical
 have hnone:∀b,S' b->¬S b->s.heap.get? b=none:=fun b q n=>(hS' b q).elim (fun z=>absurd z n) id
 have hw:∀b j,ω b=some j->(if S' b then some i else ω b)=some j:=fun b j e=>by
  by_cases q:S' b
  ·rw[if_pos q]
   rcases hS' b q with z | z
   ·rw[hS b z]at e;exact e
   ·refine x11 (C.ok.obs b (C.om b j e).1) fun o e'=>?_
    rw[z]at e';cases e'
  ·rw[if_neg q];exact e
 have hO:∀b o,s.heap.get? b=some o->(O b\/S' b)->O b:=fun b o e q=>by
  rcases q with q | q
  ·exact q
  ·rcases hS' b q with z | z
   ·exact(C.om b i (hS b z)).1
   ·rw[z]at e;cases e
 have kk:∀b o,¬O b->s.heap.get? b=some o->s'.heap.get? b=some o:=fun b o n e=>k.get b o (fun q=>n (C.om b i (hS b q)).1) (fun q=>n (fo b q)) e
 have kw:∀b o j,j≠i->ω b=some j->s.heap.get? b=some o->s'.heap.get? b=some o:=fun b o j n e q=>k.get b o (fun z=>by rw[hS b z]at e;cases e;exact n rfl) (fw b j e) q
 refine⟨fun b=>O b\/S' b,fun b=>if S' b then some i else ω b,⟨k.mono (fun b q=>.inr ⟨i,hS b q⟩) hF,fun b q U=>.inl q,fun b q=>?_,fun b j e=>?_⟩,C.eo,C.co,by rw[Pm];exact C.len,⟨C.ok.hok.frame fun b hb o e=>kk b o (C.ok.hno b hb) e,fun b hb q=>?_,fun b q=>?_⟩,
  ⟨fun b o e=>kk b o (fun q=>by rw[C.base.off b q]at e;cases e) (C.base.kp b o e),fun b q=>?_⟩,fun b q=>.inl (C.fr b q),fun y c e=>.inl (C.fc y c e),fun b j e=>?_,val,Fv.slots fun b o hb e=>k.slot b o (fun q=>(C.om b i (hS b q)).2 hb) e,fun j y hy=>?_⟩
 ·rcases q with q | q
  ·exact .inl q
  ·rcases hS' b q with z | z
   ·exact .inl (C.om b i (hS b z)).1
   ·exact .inr z
 ·by_cases q:S' b
  ·rcases hS' b q with z | z
   ·simp only[q,if_true]at e
    exact .inl (by rw[hS b z,e])
   ·exact .inr z
  ·simp only[q,if_false]at e;exact .inl e
 ·refine x11 (C.ok.hok.there b hb) fun o e=>?_
  exact C.ok.hno b hb (hO b o e q)
 ·rcases q with q | q
  ·refine x11 (C.ok.obs b q) fun o e=>?_;exact k.there b o e
  ·exact h3 b q
 ·rcases q with q | q
  ·exact C.base.off b q
  ·cases e:G.hB.get? b with
   | none=>rfl
   | some o=>rw[<- e];exact C.base.off b (hO b o (C.base.kp b o e) (.inr q))
 ·by_cases q:S' b
  ·simp only[q,if_true]at e
   cases e
   refine⟨.inr q,fun z=>?_⟩
   rcases hS' b q with y | y
   ·exact(C.om b i (hS b y)).2 z
   ·refine x11 (C.ok.obs b (C.store_O z)) fun o e'=>?_
    rw[y]at e';cases e'
  ·simp only[q,if_false]at e
   exact⟨.inl (C.om b j e).1,(C.om b j e).2⟩
 ·rw[dJ]
  by_cases h:i=j
  ·subst h
   have:y=x:=by rw[hx]at hy;cases hy;rfl
   subst this
   split
   ·exact⟨u,S',hv,r,fun b q=>if_pos q⟩
   ·rename_i h2
    have:ρ.getD i .un=.un:=by
     rw[aj,Px (by simpa using h2)];rfl
    rw[this];trivial
  ·rw[if_neg (fun z=>h z.1)]
   have hj:j≠i:=fun q=>h q.symm
   have hr:=V j y hy
   generalize ρ.getD j .un=z at hr ⊢
   cases z with
   | dat d=>refine x12 hr fun u' e r=>?_;exact⟨u',e,r.mono kk hO⟩
   | own d =>
    obtain⟨a,vs,n,ds,e1,e2,e3,h1,h2⟩:=hr
    exact⟨a,vs,n,ds,e1,hw a j e2,e3,kw a _ j hj e2 h1,h2.mono kk hO⟩
   | un=>trivial
   | val u'=>exact hr
   | sor g =>
    refine x23 hr fun u' T e r hT=>?_
    exact⟨u',T,e,wf.srf g T s.heap s'.heap u' r (fun b o q e=>kw b o j hj (hT b q) e) (fun b o q=>C.base.kp b o q) (fun b o q=>kk b o (fun z=>by rw[C.base.off b z]at q;cases q) (C.base.kp b o q)),fun b q=>hw b j (hT b q)⟩
noncomputable def kW(x:Str):Bool:=x != ofString "__debug__"
noncomputable def zd:Srt:=⟨[],none,0,0⟩
noncomputable def tS(i:Nat):Prim where
 chk sc ctx st:=gb st fun t v U=>cI t fun x U=>iV v fun g U as U=>v0 as (ctx[i]? == some (some x)&&aT sc x&&g==tQ&&bU sc g)
 k:=0
 pre _:=True
 den ρ:=(.next,ρ.set i (.sor zd))
theorem Hf(i:Nat)(wf:G.Wf)(I:SorG G):dZ G X (tS i):=by
 intro sc ctx st env A O ω ρ s E Q hc hsto C hX R hp hQ
 refine w7 (P:=fun st=>PM (PO G.prog G.w) A (exec st env) Q E s) (f:=fun x g as=>v0 as (ctx[i]? == some (some x)&&aT sc x&&g==tQ&&bU sc g)) hc fun x p g gp as cp pos hc=>?_
 refine e9 (P:=fun as=>PM (PO G.prog G.w) A (exec (.Assign [.Name x p] (.Call (.Name g gp) as [] cp) pos) env) Q E s) hc fun hc=>?_
 refine gF hc fun hi hk hgn hg=>?_
 cases P9 hgn
 have hi:=P9 hi
 refine Qn (dY (fun a ha=>nomatch ha) (ii wf C.eo C.base hg (by decide +kernel) I.gT ?_)) rfl rfl
 refine callWith_of (P:=fun h=>G.K.In h) rfl (keeps_K I.kT) (ik (as:=[]) (env:=env) (Qc ⟨C.base.inK wf,?_⟩))
 refine PR (F0 wf I.T C.ok C.base (by have:=R.1;lia)) (fun v s₁ h₁=>?_) fun U U e=>e
 obtain⟨L,rfl,k1,hnew,S1,e1,e2,e3,e4⟩:=h₁
 have C1:=C.keeps wf k1
 -- the new addresses are the slot's
 show PM _ A (QJ (.Name x p) env (.ref L.x)) _ _ s₁
 have hOn:∀b∈L.addrs,¬O b:=fun b hb q=>by
  refine x11 (C.ok.obs b q) fun o e=>?_
  rw[hnew b hb]at e;cases e
 classical
 have hgr:Grow O ω s (fun b=>O b\/b∈L.addrs) (fun b=>if b∈L.addrs then some i else ω b) s₁:=⟨k1,fun b h=>.inl h,fun b h=>h.imp id fun q=>hnew b q,fun b j h=>by
  rw[if_neg fun q=>hOn b q (C.om b j h).1];exact h,fun b j h=>by
  by_cases q:b∈L.addrs
  ·exact .inr (hnew b q)
  ·rw[if_neg q]at h;exact .inl h⟩
 have C2':=C.grow wf k1 hgr.oo hgr.o2 (fun b q=>q.elim (fun q=>by refine x11 (C.ok.obs b q) fun o e=>?_;exact⟨o,am k1 b o e⟩) fun q=>S1.there q)
 have C2:Cond G env sc ctx A (fun b=>O b\/b∈L.addrs) (fun b=>if b∈L.addrs then some i else ω b) ρ s₁:=by
  obtain⟨val,F,V⟩:=C.vars
  refine⟨C2'.eo,C2'.co,C2'.len,C2'.ok,C2'.base,C2'.fr,C2'.fc,fun b j h=>?_,val,F.keeps (am k1),fun j y hy=>hgr.rep wf C.base (V j y hy)⟩
  by_cases q:b∈L.addrs
  ·exact⟨.inr q,fun z=>hOn b q (C.store_O z)⟩
  ·rw[if_neg q]at h
   exact⟨.inl (C.om b j h).1,(C.om b j h).2⟩
 refine Qx (eq (y:=.sor zd) wf (hsto i) C2 hi hk ⟨_,(·∈L.addrs),rfl,(I.sr _ _ _ _).mpr ⟨L,rfl,S1,fun b=>Iff.rfl,?_,?_,e3,e4⟩,fun b q=>if_pos q⟩ fun s' k C'=>hQ _ _ s' .next (hgr.step.trans C.ok.obs (Step.frame k)) C' rfl)
 ·unfold SLay.gr;rw[e1];rfl
 ·rw[e2];rfl
noncomputable def tT(y:SV)(ds:List PQ):SV:=match y,ds with
 | .sor g,.int k::ds=>.sor { g with nodes:=jR k (ds.map bM) g.nodes }
 | _,_=>.un
noncomputable def ze(y:SV)(ds:List PQ):Prop:=∃g k pk,y=.sor g/\ds=.int k::List.map QT pk/\pk.length<=8/\g.ready=none/\g.nodes.length+20<=10000/\∀q∈g.nodes,q.2.2.length+20<=1000000
theorem Hg{X:Bool}{i:Nat}{x:Str}{val:Str->Option PN}{vs:List PN}{ds:List PQ}{u:PN}{T:PP->Prop}{g:Srt}{Q:PN->PL->Prop}(wf:G.Wf)(I:SorG G)
 (C:Cond G env sc ctx A O ω ρ s) (Fv:FrameV env s.heap val) (V:i6 G O ω s.heap ctx ρ val) (hx:ctx[i]? = some (some x)) (hv:val x=some u) (hy:ρ.getD i .un=.sor g) {L:SLay} (hu:u=.ref L.x) (S:SorAt G.prog G.w L s.heap) (hT:∀b,T b↔b∈L.addrs) (hg:L.gr=g.nodes) (hr:L.rd.map (·.2)=g.ready) (hpo:L.po=g.passed) (hfi:L.fi=g.finished)
 (hω:∀b,T b->ω b=some i) (R:aI 0 A) (hp:ze (.sor g) ds) (rv:RepL O s.heap vs ds)
 (hQ:∀O' ω' s',Step (Fz X A) env O ω s O' ω' s'->Cond G env sc ctx A O' ω' (ρ.set i (tT (.sor g) ds)) s'->Q .none s'):QW (PO G.prog G.w) A (.call (.ref lT) ⟨.ref L.x::vs,[]⟩) (fun r s'=>match r with | .ok (.ret v)=>Q v s' | .ok _=>False | .error e=>E e s') s:=by
 refine x36 hp fun g' k pk e1 e4 hlen hrd hsz hsu=>?_;subst e4
 cases e1
 cases rv with
 | @cons v _ vs _ r1 r2 =>
 cases r1 with
 | int _ t =>
 have hps:=tD r2
 have hrd':L.rd=none:=by
  cases q:L.rd with
  | none=>rfl
  | some z=>rw[q,hrd]at hr;cases hr
 have hOL:∀b∈L.addrs,O b:=fun b hb=>(C.om b i (hω b ((hT b).mpr hb))).1
 have hgl:L.inf.length=g.nodes.length:=by rw[<- hg];simp[SLay.gr]
 refine codeAny_mono (FY (E:=E) wf I.A C.ok C.base hOL S hrd' hps (by rw[IntsAre.len hps];exact hlen) (by have:=R.1;lia) (by lia) (fun f hf=>hsu (f.key,f.np,f.su) (by rw[<- hg];exact aD.mpr ⟨f,hf,rfl⟩))) fun r s₁ h₁=>?_
 rcases r with e | f
 ·exact h₁
 rcases f with _ | _ | _ | v<;>first | exact h₁.elim | skip
 obtain⟨rfl,L',S',hsame,hgr,km,hnew⟩:=h₁
 have hpk:(pk.map QT).map bM=pk:=by
  rw[hH];exact List.map_id pk
 have hsr:G.SR { g with nodes:=jR k ((pk.map QT).map bM) g.nodes } (·∈L'.addrs) s₁.heap u :=
  (I.sr _ _ _ _).mpr ⟨L',by rw[hu,hsame.x],S',fun b=>Iff.rfl,by rw[hgr,hpk,hg],by rw[hsame.rd,hr],by rw[hsame.po,hpo],by rw[hsame.fi,hfi]⟩
 refine x22 (zc (F:=fun U=>False) (F':=Fz X A) (i:=i) wf C Fv V hx hv (KS.of (km.mono fun b q=>(hT b).mpr q)) (fun U q=>q.elim) (fun U U U q=>q) (fun U q=>q.elim) hω (fun b q=>(hnew b q).imp (hT b).mpr id) (fun b q=>S'.there q) hsr) fun O' ω' st C'=>?_
 exact hQ O' ω' s₁ st C'
noncomputable def m9(Φ:List FEntry)(i:Nat)(es:IX):Prim where
 chk sc ctx st:=iU st fun c U=>iW c fun x U nm ap as cp=>ctx[i]? == some (some x)&&kW x&&nm==tR&&cj Φ es sc ctx as&&decide (as.length<29)&&ap.endLine==cp.line
 k:=kx Φ es
 pre ρ:=dX Φ es ρ/\ze (ρ.getD i .un) (bE Φ es ρ)
 den ρ:=(.next,ρ.set i (tT (ρ.getD i .un) (bE Φ es ρ)))
theorem zf(i:Nat)(es:IX)(wf:G.Wf)(hF:∀F∈Φ,aK G F)(I:SorG G):dZ G X (m9 Φ i es):=by
 intro sc ctx st env A O ω ρ s E Q hc hsto C hX R hp hQ
 dsimp only[m9]at hp hQ
 refine pj (P:=fun st=>PM (PO G.prog G.w) A (exec st env) Q E s) (f:=fun x nm ap as cp=>ctx[i]? == some (some x)&&kW x&&nm==tR&&cj Φ es sc ctx as&&decide (as.length<29)&&ap.endLine==cp.line) hc fun x xp nm ap as cp pos hc=>?_
 refine oZ hc fun hi hd hnm ha hfew hline=>?_
 have hi:=P9 hi
 cases P9 hnm
 refine al hp fun hp1 hp2=>?_
 obtain⟨g,hg⟩:∃g,ρ.getD i .un=.sor g:=by refine x32 hp2 fun g U U e U=>?_;exact⟨g,e⟩
 rw[hg]at hp2 hQ
 obtain⟨val,Fv,V⟩:=C.vars
 have hvr:=V i x hi
 rw[hg]at hvr
 refine x23 hvr fun u T hv hsr hω=>?_
 refine x17 ((I.sr _ _ _ _).mp hsr) fun L hu S hT h1 h2 h3 h4=>?_
 have hint:Q1 env=false:=by unfold Q1;rw[C.eo.kindS];rfl
 refine RN (pT wf I.mA (fun U U U U U U U U U U U=>rfl) rfl (jK es ha) (of_decide_eq_true hfew) hline (RK (gM C.eo Fv hv (C.co.kd i x hi) ?_) (by simpa using bne_iff_ne.mp hd))) hint rfl
 refine⟨L,O,hu,C.base,S,PR ((snd wf hF es).ls sc ctx as env A O ω ρ s E ha C R hp1) (fun vs s₁ h₁=>?_) fun U U e=>e⟩
 have C1:=C.keeps wf h₁.1
 refine⟨⟨O,C1.base⟩,?_⟩
 exact Q5 (Hg (X:=X) (g:=g) (u:=u) (T:=T) (x:=x) (i:=i) wf I C1 (Fv.keeps (am h₁.1)) (fun j y hy=>(V j y hy).keeps wf C.base h₁.1) hi hv hg hu (eN S h₁.1) hT h1 h2 h3 h4 hω (R.le (bx _)) hp2 h₁.2 fun O' ω' s' st C'=>hQ O' ω' s' .next ((Step.keeps h₁.1).trans C.ok.obs st) C' rfl)
end
noncomputable def qa(g:Gr):Nat:=(g.length+2) * (g.foldl (fun m q=>m+q.2.2.length) 0+g.length+4)+10
noncomputable def qb(g:Gr):Option (Option (List Int)):=kR g (qa g)
noncomputable def dp(g:Gr):Bool:=match qb g with
 | some none=>false
 | _=>true
noncomputable def qc(g:Gr):List Int:=(g.filter fun q=>q.2.1==0).map (·.1)
noncomputable def Hh(g:Gr):Prop:=∀q∈g,∀n∈q.2.2,∃q'∈g,q'.1=n
noncomputable def tU(g:Gr):Prop:=Hh g/\g.length<=1000/\∃r,qb g=some r/\∀c,r=some c->c.length<=100000
theorem Hi(L:SLay):cX L.inf=qc L.gr:=by
 unfold cX qc SLay.gr
 induction L.inf with
 | nil=>rfl
 | cons f r ih =>
  simp only[dv,a9]
  split<;>simp[ih]
noncomputable def tV(e:Expr)(d:PQ):Bool:=r8 e fun c U U=>sG c d
theorem zg{G:Glo}{A:P0}{env:Env}{E:PN->PL->Prop}(h:tV e d=true)(hQ:∀v s',PY s s'->(∀O:PP->Prop,(∀b,O b->∃o,s.heap.get? b=some o)->Rep O s'.heap v d)->Q v s') :
 PM (PO G.prog G.w) A (Qg e env) Q E s :=
 r9 (P:=fun e=>PM (PO G.prog G.w) A (Qg e env) Q E s) h fun c k p h=>xP h fun v s' k r=>hQ v s' k fun O U=>r O _
section
variable{G:Glo}{Φ:List FEntry}{env:Env}{sc:Scope}{ctx:List (Option Str)}{A:P0}{O:PP->Prop}{ω:PP->Option Nat}{ρ:List SV}{s s':PL}{E:PN->PL->Prop}
noncomputable def nc(y:SV):SV:=match y with
 | .sor g=>.sor { g with ready:=some (qc g.nodes) }
 | _=>.un
noncomputable def qd(y:SV):Bool:=match y with
 | .sor g=>dp g.nodes
 | _=>true
noncomputable def kX(i:Nat)(K:PQ):Prim where
 chk sc ctx st:=ma st fun b ce U v U U U=>v1 b fun t=>iU t fun c U=>iW c fun x U nm ap as cp=>v0 as (
  ctx[i]? == some (some x)&&kW x&&nm==zb&&ap.endLine==cp.line&&ce==He&&bU sc ce&&tV v K)
 k:=0
 pre ρ:=∃g,ρ.getD i .un=.sor g/\g.ready=none/\tU g.nodes
 den ρ:=(if qd (ρ.getD i .un)=true then .ret K else .next,ρ.set i (nc (ρ.getD i .un)))
theorem Hj(i:Nat)(K:PQ)(wf:G.Wf)(I:SorG G):dZ G true (kX i K):=by
 intro sc ctx st env A O ω ρ s E Q hc hsto C hX R hp hQ
 dsimp only[kX]at hp hQ
 refine DJ (P:=fun st=>PM (PO G.prog G.w) A (exec st env) Q E s) hc fun x xp nm ap cp ep ce cep v rp hpos tp hc=>?_
 refine rZ hc fun hi hd hnm hline hce hg hK=>?_
 have hi:=P9 hi
 have hline:=P9 hline
 have hd:=bne_iff_ne.mp hd
 cases P9 hnm
 cases P9 hce
 obtain⟨g,hy,hrd,hclo,hsm,r,hr,hcl⟩:=hp
 rw[hy]at hQ
 have X:=hX rfl
 refine x11 X.top fun outer hfr=>?_
 have X:=X.toFX
 obtain⟨val,Fv,V⟩:=C.vars
 have hvr:=V i x hi
 rw[hy]at hvr
 refine x23 hvr fun u T hv hsr hω=>?_
 refine x17 ((I.sr _ _ _ _).mp hsr) fun L hu S hT h1 h2 h3 h4=>?_
 have hrd':L.rd=none:=by
  cases q:L.rd with
  | none=>rfl
  | some z=>rw[q,hrd]at h2;cases h2
 have hOL:∀b∈L.addrs,O b:=fun b hb=>(C.om b i (hω b ((hT b).mpr hb))).1
 have hLF:∀b∈L.addrs,¬an A b:=fun b hb=>X.fw b i (hω b ((hT b).mpr hb))
 have hint:Q1 env=false:=by unfold Q1;rw[C.eo.kindS];rfl
 have clo:∀f∈L.inf,∀n∈f.su,∃f'∈L.inf,f'.key=n:=fun f hf n hn=>by
  refine x12 (hclo (f.key,f.np,f.su) (by rw[<- h1];exact aD.mpr ⟨f,hf,rfl⟩) n hn) fun q' hq' e=>?_
  rw[<- h1]at hq'
  refine x12 (aD.mp hq') fun f' hf' e2=>?_;subst e2
  exact⟨f',hf',e⟩
 have hlen:L.inf.length<=1000:=by rw[<- h1]at hsm;simpa[SLay.gr]using hsm
 have hr':kR L.gr (qa g.nodes)=some r:=by rw[h1];exact hr
 have hcy:qd (.sor g)=r.isSome:=by
  unfold qd dp
  dsimp only
  rw[hr]
  cases r<;>rfl
 have hrg:cX L.inf=qc g.nodes:=by rw[Hi,h1]
 -- the slot at the end
 have fin:∀(rA:PP) (s₁:PL),s.heap.get? rA=none->SorAt G.prog G.w { L with rd:=some (rA,cX L.inf) } s₁.heap->KS (an A) (·∈L.addrs) s s₁ ->
  ∃O' ω',Step (Fz true A) env O ω s O' ω' s₁/\Cond G env sc ctx A O' ω' (ρ.set i (nc (.sor g))) s₁:=fun rA s₁ hn S' k =>
  zc (F:=an A) (F':=Fz true A) (i:=i) (S':=(·∈({ L with rd:=some (rA,cX L.inf) }:SLay).addrs)) wf C Fv V hi hv (k.mono (fun b q=>(hT b).mpr q) fun U q=>q) X.fo X.fw (fun b q=>⟨rfl,q⟩) hω (fun b q=>(tM (L:=L) q).elim (fun z=>.inl ((hT b).mpr z)) fun z=>.inr (by rw[z];exact hn)) (fun b q=>S'.there q) ((I.sr _ _ _ _).mpr ⟨{ L with rd:=some (rA,cX L.inf) },hu,S',fun b=>Iff.rfl,h1,by rw[<- hrg];rfl,h3,h4⟩)
 refine yM (c:=.ref CE) hfr (hX rfl).ef ?_ fun U q=>q
 refine PS (RN (pT (f:=fP) wf I.mP (fun U U U U U U U U U U U=>rfl) rfl (fun a ha=>nomatch ha) (by decide) (by simpa using hline) (RK (gM C.eo Fv hv (C.co.kd i x hi) ⟨L,O,hu,C.base,S,Qc ⟨⟨O,C.base⟩,?_⟩⟩) (by simpa using hd))) hint rfl)
 refine G9 wf I.P C.ok C.base X.w0 S hrd' hOL hLF clo hlen (R.fits (by decide)) X.hn hr' hcl (fun hr0 s₁ rA hrA S' k=>?_) fun hne s₁ a B rA T2 hes hrA SB sB k=>?_
 ·subst hr0
  refine x22 (fin rA s₁ hrA S' k) fun O' ω' st C'=>?_
  refine Qa (hQ O' ω' s₁ .next st C' ?_)
  rw[hcy];rfl
 ·rw[show A.frames.getD []=env::outer from by rw[hfr];rfl]at T2
  have hLB:∀b∈L.addrs,∃o,B.get? b=some o:=fun b n=>SB.there (y6 hrd' n)
  have inh:∀h₂,B.StaysIn h₂->G.Base O h₂:=fun h₂ st=>⟨fun b o q=>st b o (sB b o (fun z=>by rw[C.base.off b (X.fo b z)]at q;cases q) (fun z=>by rw[C.base.off b (hOL b z)]at q;cases q) (C.base.kp b o q)),C.base.off⟩
  refine⟨a,B,.ref CE,rfl,T2,fun h₂ st2 u2 th E=>?_⟩
  refine ii (s:={ s₁ with heap:=h₂ }) wf C.eo (inh h₂ st2) hg (by decide +kernel) I.P.ce ⟨rfl,rfl,fun Q E hq=>?_,fun h₄ st4 u4 T4 E=>?_⟩
  ·refine x12 th fun o ho hoc=>?_
   have LT:Looks (PO G.prog G.w) h₂ (typeOf (.ref a)) (.ref CE):=hoc▸(Looks.ld ho).andThen .now
   exact(exm_one ((inh h₂ st2).inK wf) LT I.ce).here hq
  ·refine PS (QS (zg (s:={ s₁ with heap:=h₄ }) hK fun u' s₅ k5 hrep=>?_))
   have K4:=KS.noted (t:=s₁.toks) X k sB hLB st4 u4
   have S4:SorAt G.prog G.w { L with rd:=some (rA,cX L.inf) } ({ s₁ with heap:=h₄ }:PL).heap:=SB.keeps fun b o U q=>st4 b o q
   refine x22 (fin rA { s₁ with heap:=h₄ } hrA S4 K4) fun O' ω' st' C'=>?_
   refine hQ O' ω' s₅ (.ret u') (st'.trans C.ok.obs (Step.keeps k5)) (C'.keeps wf k5) ?_
   have hsome:r.isSome=true:=by
    cases r with
    | none=>exact absurd rfl hne
    | some _=>rfl
   rw[hcy,hsome]
   exact⟨u',rfl,hrep O' C'.ok.obs⟩
end
end
section
open PySem PySem.W PyProof.Rows PySem.Spec PySem.SeqAt PySem.Calls PySem.MeetsSeq
open AutoSeq1 (wpAny_loadPart')
theorem Hk(l:PP)(items:Array PN)(n:Nat)(x:PN)(e:PN->Bool)(hs1:items.size<=Q7)(k:Nat) :
 ∀i:Nat,i+k=items.size->Meets (QQ.«list.remove.loop» ⟨[.ref l,x,rawInt i],[]⟩)
  (fun A R s=>s.heap.get? l=some { cls:=.type "list",dict:=none,data:=.seq items n,slots:=#[] }/\(∀y,y∈items->EqAt A.in1 s y x (e y)) /\
   (∀j,(items.toList.drop i).findIdx? e=some j->R (.ok (.ret .none)) { s with heap:=s.heap.update l (Obj.mapSeq fun xs=>xs.eraseIdxIfInBounds (i+j)) })/\((items.toList.drop i).findIdx? e=none->raisesNew "ValueError" A R s)):=by
 induction k with
 | zero =>
  intro i hk prog w A R s h
  obtain⟨hp,g,d,tk,os⟩:=s;refine e8 h fun hl he h1 h2=>?_
  wp_walk using Sa hl
  rw[show items[((i:Nat):Int).toNat]? = none from Sm (cH hk.symm)]
  wp_walk
  have h:=h2 (by rw[List.drop_eq_nil_of_le (show items.toList.length<=i from cH hk.symm)];rfl)
  exact_raiseError plainExc_ValueError h.1 h.2
 | succ k ih =>
  intro i hk prog w A R s h
  obtain⟨hp,g,d,tk,os⟩:=s;refine e8 h fun hl he h1 h2=>?_
  have hlt:i<items.size:=hk▸Nat.lt_add_of_pos_right (Nat.succ_pos k)
  have hd:items.toList.drop i=items[i]::items.toList.drop (i+1):=List.drop_eq_getElem_cons (l:=items.toList) hlt
  rw[hd,List.findIdx?_cons]at h1 h2
  wp_walk using Sa hl
  rw[show items[((i:Nat):Int).toNat]? = some items[i]from R8 hlt]
  refine PK (he _ (Array.getElem_mem hlt) prog w _ _ ?_)
  generalize e items[i]=b at h1 h2 ⊢
  cases b with
  | true =>
   have hz':(items.eraseIdxIfInBounds i).size<=Q7+1:=aa (size_erased items _) (Nat.le_succ_of_le hs1)
   wp_walk using(wpAny_updateSeq hl rfl (hz:=hs1) (_hz':=hz')),Sa hl
   exact h1 0 rfl
  | false =>
   wp_walk
   rw[show((i:Int)+1)=((i+1:Nat):Int)from rfl]
   exact⟨plainId_quiet plain_remove_loop _,R9 entry_remove_loop (by
    rw[R5 plain_remove_loop _]
    exact ih (i+1) ((Nat.succ_add i k).trans hk) prog w A R _ ⟨hl,he,fun j q=>by rw[Nat.succ_add];exact h1 (j+1) (by rw[q];rfl),fun q=>h2 (by rw[q];rfl)⟩)⟩
theorem Hl(l:PP)(items:Array PN)(n:Nat)(x:PN)(e:PN->Bool)(hs1:items.size<=Q7) :
 Meets (QQ.«list.remove» ⟨[.ref l,x],[]⟩)
  (fun A R s=>s.heap.get? l=some { cls:=.type "list",dict:=none,data:=.seq items n,slots:=#[] }/\(∀y,y∈items->EqAt A.in1 s y x (e y)) /\
   (∀j,items.toList.findIdx? e=some j->R (.ok (.ret .none)) { s with heap:=s.heap.update l (Obj.mapSeq fun xs=>xs.eraseIdxIfInBounds j) })/\(items.toList.findIdx? e=none->raisesNew "ValueError" A R s)):=by
 intro prog w A R s h
 obtain⟨hp,g,d,tk,os⟩:=s;refine e8 h fun hl he h1 h2=>?_
 wp_walk using Sa hl
 exact⟨plainId_quiet plain_remove_loop _,R9 entry_remove_loop (by
  rw[R5 plain_remove_loop _]
  exact Hk l items n x e hs1 _ 0 (kh _) prog w A R _ ⟨hl,he,fun j q=>by rw[kh];exact h1 j q,h2⟩)⟩
noncomputable def dq(x:PQ):List PQ->Option (List PQ)
 | []=>none
 | y::r=>if Qi y x then some r else(dq x r).map (y::·)
theorem zh:dq x (y::r)=if Qi y x then some r else(dq x r).map (y::·):=rfl
theorem tW:∀ds:List PQ,dq x ds=(ds.findIdx? fun y=>Qi y x).map ds.eraseIdx
 | []=>rfl
 | y::l=>by
  rw[zh,tW l,List.findIdx?_cons]
  cases Qi y x with
  | true=>rfl
  | false=>cases l.findIdx? fun y=>Qi y x<;>rfl
section
variable{prog:Qs}{w:Qq}{A:P0}{E:PN->PL->Prop}{s:PL}{O:PP->Prop}
theorem zi:∀ {vs:List PN} {ds:List PQ} (j:Nat),RepL O h vs ds->RepL O h (vs.eraseIdx j) (ds.eraseIdx j)
 | _,_,_,.nil=>by simpa using .nil
 | _,_,0,.cons _ l=>l
 | _,_,j+1,.cons a l=>.cons a (zi j l)
theorem Hm{l:PP}{vs:Array PN}{n:Nat}{ds:List PQ}{d:PQ}{pos:Pos}{x:Sem PN}{Q:PN->PL->Prop}(hu:A.units+100<cLine)(hh:A.handled=none)
 (h:PM (PO prog w) A x (fun v s₁=>IsL s₁.heap l vs n/\RepL O s₁.heap vs.toList ds/\Rep O s₁.heap v d/\cy d/\QC ds=true/\vs.size<=Q7 /\
  (∀r,dq d ds=some r->∀h' vs' m,IsL h' l vs' m->QM l s₁.heap h'->(∀(O':PP->Prop) h'',RepL O' h'' vs.toList ds->RepL O' h'' vs'.toList r)->Q .none { s₁ with heap:=h' }) /\
  (dq d ds=none->∀h' tk e,Heap.NewExc s₁.heap h' e "ValueError"->E (.ref e) { s₁ with heap:=h',toks:=tk })) E s) :
 PM (PO prog w) A (callWith pos (.builtin "list.remove") [.ref l] [(false,x)] []) Q E s:=by
 refine seqMethod1_meets F.slot_list_remove F.entry_list_remove (PR h (fun v s₁ h₁=>?_) fun U U e=>e)
 refine CS h₁ fun hl rl rv hd hds hz hyes hno=>?_
 refine⟨⟨_,hl,rfl⟩,F.args_list_remove_2 _ _,?_⟩
 refine x11 (rl.reads (iY _ hds)) fun as ra=>?_
 refine x11 (rv.reads (iX _ hd.1)) fun bs rb=>?_
 have heq:=items_eqAt (A:=A) ra rb hds hd.1 (mh hd hu)
 have hmap:=readsAll_map ds _ _ hds ra
 have hf:vs.toList.findIdx? (fun y=>Qi (readOf s₁.heap y) d)=ds.findIdx? fun y=>Qi y d:=by rw[<- hmap,List.findIdx?_map];rfl
 rw[tW,<- hf]at hyes hno
 refine⟨_,Hl l vs n v (fun y=>Qi (readOf s₁.heap y) d) hz,hl,heq,fun j hr=>?_,fun hr=>⟨hh,hno (by rw[hr];rfl)⟩⟩
 refine hyes _ (by rw[hr];rfl) _ _ _ (IsL.update hl _) (Qr ..) fun O' h'' r'=>?_
 have he:(vs.eraseIdxIfInBounds j).toList=vs.toList.eraseIdx j:=by
  unfold Array.eraseIdxIfInBounds
  split
  ·exact Array.toList_eraseIdx ..
  ·rename_i q
   exact(List.eraseIdx_of_length_le (c5.mp q)).symm
 rw[he]
 exact zi j r'
end
end
section
open PySem PySem.W PyProof.Rows PySem.Spec PySem.SeqAt PySem.Calls
section
variable{M:Model}{A:P0}{E:PN->PL->Prop}{s:PL}{env:Env}{outer:List Env}{L a:PP}{cls:PN}{B:Qk}
noncomputable def tX(B:Qk)(l:List Env)(a:PP)(cls:PN)(L:PP)(h:Qk):Prop:=eO B l a cls h\/∃a0,Sj B l a cls a0 L h
theorem Hn{Q:Unit->PL->Prop}(hfr:A.frames=some (env::outer))(hf:env.frame=some L)(T:tX B (env::outer) a cls L s.heap)
 (hQ:∀h' a0,Sj B (env::outer) a cls a0 L h'->s.heap.UpToSlots h'->Q () { s with heap:=h' }):PM M A (noteFrame (.ref a) env) Q E s:=by
 rcases T with T | ⟨a0,hh⟩
 ·exact ty hfr hf T hQ
 ·exact wpAny_noteFrame_againW hf hh.2.2.2 (hQ s.heap a0 hh (.refl _))
theorem Ho(hh:Sj B l a cls a0 L s.heap)(hQ:∀h',Sj B l a cls a0 L h'->s.heap.UpToSlots h'->Q () { s with heap:=h' }):PM M A (setFlight (.ref a) (some L)) Q E s:=by
 obtain⟨hkb,hbe,hl,oe,vs,T,oT,ts,he,hcls,hd,h1,hnT,hTe,hT,hdT,h3⟩:=hh
 have hsz3:3<ts.size:=(Array.getElem?_eq_some_iff.mp h3).1
 have other:∀b,b≠T->(s.heap.update T (Obj.mapFields (·.setIfInBounds 3 ((some L:Option PP).elim QB fun f=>rawInt f)))).get? b=s.heap.get? b :=
  fun b hb=>Heap.get?_update_other _ _ (QE hb)
 have noRecord:∀b o,s.heap.get? b=some o->(∀vs,o.data≠.fields vs)->b≠T:=fun b o hb hnf q=>by
  rw[q,hT]at hb;injection hb with hb;subst hb;exact hnf ts hdT
 unfold setFlight
 refine PK (QO he hd h1 ?_)
 rw[if_pos (show(Qd T != QB)=true from rfl)]
 refine Rj hT hdT hsz3 (hQ _ ⟨fun b o hbo=>(other b fun q=>by rw[q,hnT]at hbo;cases hbo).trans (hkb b o hbo),hbe,
  hl.of_keeps fun b o hb hnf=>⟨o,(other b (noRecord b o hb hnf)).trans hb,rfl⟩,?_⟩ fun b o hb hnf=>⟨o.slots,(other b (noRecord b o hb hnf)).trans hb⟩)
 exact⟨oe,vs,T,_,_,(other a (QE hTe)).trans he,hcls,hd,h1,hnT,hTe,Rq _ hT (RV (Ro hdT _)),Ro hdT _,by simp[hsz3]⟩
theorem Hp(hf:env.frame=some L)(hh:Sj B l a cls a0 L s.heap)(hQ:∀h',Sj B l a cls a0 L h'->s.heap.UpToSlots h'->E (.ref a) { s with heap:=h' }):cameBackBy M A env E (.ref a) s:=by
 unfold cameBackBy
 refine x55 (id hh.2.2.2) fun oe vs T oT ts he hcls hd h1 U=>?_
 refine PK (QO he hd h1 ?_)
 rw[if_neg (show ¬((Qd T==QB)=true)from by simp)]
 rw[hf]
 exact Ho hh hQ
theorem Hq(hfr:A.frames=some (env::outer))(hf:env.frame=some L)(T:eO B (env::outer) a cls s.heap)(hQ:∀h',tX B (env::outer) a cls L h'->s.heap.UpToSlots h'->E (.ref a) { s with heap:=h' }):notedBy M A env (cameBackBy M A env E) (.ref a) s:=by
 unfold notedBy
 refine ty hfr hf T fun h' a0 hh hu=>?_
 exact Hp (s:={ s with heap:=h' }) hf hh fun h'' hh' hu'=>hQ h'' (.inr ⟨a0,hh'⟩) (hu.trans hu')
end
section
variable{prog:Qs}{w:Qq}{A:P0}{E:PN->PL->Prop}{s:PL}{env:Env}{outer:List Env}{L:PP}
theorem Hr{body suite:List PW}{b₀:PW}{x:Str}{xp hp tp:Pos}{c:PN}{Q:Flow->PL->Prop}(hfr:A.frames=some (env::outer))(hf:env.frame=some L)
 (h:PM (PO prog w) A (QG body env) Q (fun e s₁=>∃a B cls,e=.ref a/\tX B (env::outer) a cls L s₁.heap /\
  ∀h₂,B.StaysIn h₂->s₁.heap.UpToSlots h₂->(∃o,h₂.get? a=some o/\o.cls=cls)->∀E,
   PM (PO prog w) (A.mark (some (.ref a))) (Qg (.Name x xp) env) (fun v s₃=>v=c/\s₃={ s₁ with heap:=h₂ } /\
    (∀(Q:Bool->PL->Prop) E,Q true { s₁ with heap:=h₂ }->PM (PO prog w) (A.mark (some (.ref a))) (excMatches (.ref a) c) Q E { s₁ with heap:=h₂ }) /\
    ∀h₄,B.StaysIn h₄->s₁.heap.UpToSlots h₄->eO B (env::outer) a cls h₄->∀E,PM (PO prog w) (A.mark (some (.ref a))) (QG (b₀::suite) env) Q E { s₁ with heap:=h₄ }) E { s₁ with heap:=h₂ }) s) :
 PM (PO prog w) A (exec (.Try body [.ExceptHandler (some (.Name x xp)) none (b₀::suite) hp] [] [] tp) env) Q E s:=by
 refine wpAny_Try_except (PR h (fun f s₁ h₁=>?_) fun e s₁ h₁=>?_)
 ·cases f<;>first | exact h₁ | exact Qa h₁
 ·refine x33 h₁ fun a B cls e3 T k=>?_;subst e3
  refine Hn hfr hf T fun h₁' a0 hh hu=>?_
  refine wpAny_landsW hh fun h₂ hfl hu₂=>?_
  have u2:=hu.trans hu₂
  refine wpAny_handleBy_cons (codeAny_handlers_test (PR (k h₂ hfl.1 u2 hfl.there _) (fun v s₃ h₃=>?_) fun U U e=>e)) (by intro q;cases q)
  refine e8 h₃ fun e0 e1 hm hs=>?_;subst e0;subst e1
  refine hm _ _ ?_
  refine codeAny_handlers_suite ?_
  refine lands_againW hfl fun h₄ hfl₄ hu₄=>?_
  exact hs h₄ hfl₄.1 (u2.trans hu₄) (.of hfl₄) _
end
section
variable{G:Glo}{Φ:List FEntry}
theorem Hs:RQ (.type "ValueError") (.type "BaseException")=pure true:=by rw[QI];kernel_rfl
theorem Ht:RQ (.type ((Manifest.find? "ValueError").elim "type" fun x=>x.metatype)) (.type "tuple")=pure false:=by
 have e:(Manifest.find? "ValueError").elim "type" (fun x=>x.metatype) = "type":=by decide +kernel
 rw[e,QI];kernel_rfl
theorem Hu:RQ (.type "ValueError") (.type "ValueError")=pure true:=by rw[QI];kernel_rfl
noncomputable def ec(i j:Nat)(K:PQ)(d:PQ)(ρ:List SV):Fl × List SV:=match dq d (eu (ρ.getD i .un))with
 | some r=>(.next,(aq false [j] d ρ).set i (.own (.list r)))
 | none=>(.ret K,aq false [j] d ρ)
noncomputable def tY(i:Nat)(d:PQ)(ρ:List SV):Prop:=kH (ρ.getD i .un)/\cy d/\QC (eu (ρ.getD i .un))=true/\(eu (ρ.getD i .un)).length<=16777216
noncomputable def zj:Str:=ofString "ValueError"
noncomputable def Hv:Str:=ofString "remove"
noncomputable def tZ(Φ:List FEntry)(i j:Nat)(it:IX)(K:PQ):Prim where
 chk sc ctx st:=ma st fun b ve U v U U U=>v1 b fun f=>l7 f fun t iter fb U=>cI t fun el ep=>v1 fb fun c=>iU c fun c U=>iW c fun x U m ap as cp=>v1 as fun a=>cI a fun el2 U =>
  ctx[i]? == some (some x)&&kW x&&m==Hv&&ap.endLine==cp.line&&ctx[j]? == some (some el)&&kW el&&el2==el&&i != j&&ve==zj&&bU sc ve&&tV v K &&
  fD iter&&fj Φ it sc ctx iter&&fC false [j] sc ctx (.Name el ep)
 k:=kx Φ it
 pre ρ:=gI Φ it false ρ/\j<ρ.length/\gj (fun d ρ=>bindP false [j] d/\tY i d ρ) (ec i j K) (bS Φ it ρ) ρ
 den ρ:=bY (ec i j K) (bS Φ it ρ) ρ
theorem t7:aq false [j] d ρ=ρ.set j (.dat d):=rfl
theorem Hw(i j:Nat)(it:IX)(K:PQ)(wf:G.Wf)(hF:∀F∈Φ,aK G F):dZ G true (tZ Φ i j it K):=by
 intro sc ctx st env A O ω ρ s E Q hc hsto C hX R hp hQ
 dsimp only[tZ]at hp hQ R
 refine DK (P:=fun st=>PM (PO G.prog G.w) A (exec st env) Q E s) hc fun el ep iter x xp m ap el2 elp cp exp fp ve vep v rp hpos tp hc=>?_
 refine rZ hc fun hc hve hg hK hns hci hct=>?_
 refine wz hc fun hi hd hm hline hj hdj hel2 hij=>?_
 have hi:=P9 hi
 have hline:=P9 hline
 have hj:=P9 hj
 have hd:=bne_iff_ne.mp hd
 have hdj:=bne_iff_ne.mp hdj
 have hij:=bne_iff_ne.mp hij
 cases P9 hve
 cases P9 hm
 cases P9 hel2
 refine dl hp fun hpI hjl hfp=>?_
 refine x11 ((hX rfl).top) fun outer hfr=>?_
 have hint:Q1 env=false:=by unfold Q1;rw[C.eo.kindS];rfl
 refine Hr (c:=.type "ValueError") hfr (hX rfl).ef ?_
 refine PS ?_
 refine xX (X:=true) (f:=ec i j K) (PB:=tY i) wf (snd wf hF it).it hns hci hct hsto C hX R hpI hfp (fun d ρk l Ok ωk sk Q' hP hrest hst Ck hn=>?_) fun O' ω' s' fl st' C' hf=>?_
 rotate_left
 ·generalize bY (ec i j K) (bS Φ it ρ) ρ=z at C' hf hQ
  obtain⟨fz,ρz⟩:=z
  cases fz with
  | next=>cases hf;exact Qa (hQ O' ω' s' .next st' C' rfl)
  | brk=>cases hf;exact hQ O' ω' s' .brk st' C' rfl
  | ret dz=>refine x12 hf fun u e1 ru=>?_;subst e1;exact hQ O' ω' s' (.ret u) st' C' ⟨u,rfl,ru⟩
 refine e8 hP fun ho hdd hlay hlen=>?_
 have hjk:j<ρk.length:=by
  have e1:=Ck.len
  have e2:=C.len
  rw[t7,Pm]at e1
  omega
 have hown:(aq false [j] d ρk).getD i .un=ρk.getD i .un:=by
  rw[t7,dJ,if_neg fun q=>hij q.1.symm]
 have hel:(aq false [j] d ρk).getD j .un=.dat d:=by
  rw[t7,dJ,if_pos ⟨rfl,hjk⟩]
 have hrho:ρk.set j (.dat d)=aq false [j] d ρk:=rfl
 obtain⟨val,a,vs,n,Fv,V,hv,hw,hL,hR,hil⟩:=sX Ck hi (by rw[hown];exact ho)
 rw[hown]at hR
 have Xk:=(hX rfl).step C hst Ck
 have hu:A.units+100<cLine:=R.units
 have hsz:vs.size=(eu (ρk.getD i .un)).length:=by rw[<- cQ];exact hR.length
 refine PS (RN ?_ hint rfl)
 refine Rp rfl (io rfl) (by simpa using hline) (RK (gM Ck.eo Fv hv (Ck.co.kd i x hi) ?_) (by simpa using hd))
 refine⟨"list", "list.remove",Rh,F.slot_list_remove,F.type_list_remove,hL.isList.typeIs,(fun b e=>by cases e;exact⟨_,hL,rfl⟩),?_⟩
 refine Hm (O:=Ok) (d:=d) (ds:=eu (ρk.getD i .un)) (vs:=vs) (n:=n) hu Xk.hn (dN Ck hj (by simpa using hdj) hel fun u ru=>⟨hL,hR,ru,hdd,hlay,by rw[hsz,QP];omega,fun r hr h' vs' m hl' hs hrep=>?_,fun hr h' tk e hN=>?_⟩)
 ·have hk:∀b o,¬Ok b->sk.heap.get? b=some o->h'.get? b=some o:=fun b o nO q=>hs.extBut b o (fun z=>nO (z▸(Ck.om a i hw).1)) q
  refine al (xZ (Ff:=Fz true A) wf Ck Fv V hi hil hv hw hL hl' (hrep _ _ (hR.mono hk fun U U U q=>q)) hs) fun S' C'=>?_
  refine Qa (hn Ok ωk _ .next S' ?_ ?_)
  ·unfold ec;rw[hr];exact C'
  ·unfold ec;rw[hr];rfl
 ·obtain⟨n1,n2,ob,t0,n3,n4,n5⟩:=hN
  refine x12 Xk.fr fun l0 hl0 fr0=>?_
  rw[hfr]at hl0
  cases hl0
  have frh:je (env::outer) h':=fun v hv=>(fr0 v hv).elim fun h1 ζ=>ζ.elim fun L' ζ=>ζ.elim fun o ζ=>ζ.elim fun es ζ=>ζ.elim fun n ζ=>ζ.elim fun h2 ζ=>ζ.elim fun h3 h4=>⟨h1,L',o,es,n,h2,n1 _ _ h3,h4⟩
  have nb:∀b o,b≠e->¬an A b->h'.get? b=some o->(gU (env::outer) e h').get? b=some o:=fun b o n nf q=>tA q n fun z=>nf ⟨_,hfr,z⟩
  refine Hq (s:={ sk with heap:=h',toks:=tk }) hfr (hX rfl).ef (tB frh ⟨ob,_,t0,n3,n4,n5,rfl,rfl⟩) fun h₁ T1 u1=>?_
  refine⟨e,gU (env::outer) e h',.type "ValueError",rfl,T1,fun h₂ k2 u2 th E=>?_⟩
  have u2:h'.UpToSlots h₂:=u1.trans u2
  have note:∀h₂,(gU (env::outer) e h').StaysIn h₂->h'.UpToSlots h₂->(∃o,h₂.get? e=some o)->KS (an A) No sk { sk with heap:=h₂,toks:=tk }:=fun h₂ k2 u2 th=>by
   have N:=tC hfr frh nb k2 u2 th
   refine⟨h₂,tk,rfl,fun b o U q=>?_,fun b o q=>?_⟩
   ·exact N.1 b o (fun z=>by rw[z,n2]at q;cases q) (n1 b o q)
   ·refine x12 (N.1 b o (fun z=>by rw[z,n2]at q;cases q) (n1 b o q)) fun sl q' U=>?_
    exact⟨_,q'⟩
  have C2:=Ck.ks wf (note h₂ k2 u2 (th.imp fun U q=>q.1)) Xk.fo Xk.fw
  refine gN (s:={ sk with heap:=h₂,toks:=tk }) wf C2.eo C2.base hg (v:=.type "ValueError") (by simp[cb,zj]) ⟨rfl,rfl,fun Q E hq=>?_,fun h₄ k4 u4 T4 E=>?_⟩
  ·refine x12 th fun o ho hoc=>?_
   exact wpAny_excMatches_type (X:= "ValueError") (T:= "ValueError") (b:=true) ⟨o,ho,hoc⟩ Hs Ht Hu hq
  ·have u4:h'.UpToSlots h₄:=u1.trans u4
   have K4:=note h₄ k4 u4 (T4.there.imp fun U q=>q.1)
   have C4:=Ck.ks wf K4 Xk.fo Xk.fw
   refine PS (QS (zg (s:={ sk with heap:=h₄,toks:=tk }) hK fun u' s₅ k5 hrep=>?_))
   have hden:bY (ec i j K) (bS Φ it ρ) ρ=(.ret K,aq false [j] d ρk):=by
    rw[hrest]
    rw[mI]
    unfold ec
    rw[hr]
   rw[hden]at hQ
   exact hQ Ok ωk s₅ (.ret u') ((hst.trans C.ok.obs (Step.ks K4)).trans C.ok.obs (Step.keeps k5)) (C4.keeps wf k5) ⟨u',rfl,hrep Ok C4.ok.obs⟩
end
end
section
open PySem PySem.W PyProof.Rows PySem.Spec PySem.SeqAt PySem.Calls PySem.MeetsSeq
section
variable{G:Glo}{Φ:List FEntry}
noncomputable def t8:Str:=ofString "list"
noncomputable def ua(Φ:List FEntry)(i:Nat)(e:IX):Prim where
 chk sc ctx st:=gb st fun t v U=>cI t fun x U=>iV v fun g U as U=>v1 as fun a=>ctx[i]? == some (some x)&&aT sc x&&g==t8&&bU sc g&&chk Φ e sc ctx a
 k:=kx Φ e
 pre ρ:=pre Φ e false ρ/\∃ds,den Φ e ρ=.list ds/\ds.length<=16777216
 den ρ:=(.next,ρ.set i (.own (den Φ e ρ)))
theorem Hx(i:Nat)(e:IX)(wf:G.Wf)(hF:∀F∈Φ,aK G F):dZ G X (ua Φ i e):=by
 intro sc ctx st env A O ω ρ s E Q hc hsto C hX R hp hQ
 dsimp only[ua]at hp hQ
 refine w7 (P:=fun st=>PM (PO G.prog G.w) A (exec st env) Q E s) (f:=fun x g as=>v1 as fun a=>ctx[i]? == some (some x)&&aT sc x&&g==t8&&bU sc g&&chk Φ e sc ctx a) hc fun x p g gp as cp pos hc=>?_
 refine dW (P:=fun as=>PM (PO G.prog G.w) A (exec (.Assign [.Name x p] (.Call (.Name g gp) as [] cp) pos) env) Q E s) hc fun a hc=>?_
 refine ic hc fun hi hk hgn hg ha=>?_
 cases P9 hgn
 have hi:=P9 hi
 obtain⟨hp1,ds,hds,hlen⟩:=hp
 refine Qn (dY (fun y hy=>by rw[ai.mp hy];exact gf e ha) (gN wf C.eo C.base hg (v:=.type "list") (by simp[cb,t8]) ?_)) rfl rfl
 refine RE (gg _) (Qo (Qh (PR ((snd wf hF e).ev sc ctx a false env A O ω ρ s E ha C R hp1) (fun v s₁ h₁=>Qc ?_) fun U U x=>x)))
 have C1:=C.keeps wf h₁.1
 have rv:=h₁.2.ff
 rw[hds]at rv hQ
 cases rv with
 | @list aR vs n _ hno hl rl =>
 have hsz:vs.size=ds.length:=by rw[<- cQ];exact rl.length
 refine call_list_seq aR (.inl rfl) hl rfl rfl (fun h' c' hk' hnew=>?_) (by rw[hsz,QP];omega)
 have k2:PY s₁ { s₁ with heap:=h' }:=⟨h',s₁.toks,rfl,hk'⟩
 have hnone:s₁.heap.get? s₁.heap.objs.size=none:=QX (aN _)
 refine al (x7 (i:=i) wf C1 k2 hnone ⟨_,hnew⟩) fun gr C2=>?_
 show PM _ A (QJ (.Name x p) env (.ref s₁.heap.objs.size)) _ _ _
 have hr:c7 G (fun b=>O b\/b=s₁.heap.objs.size) (fun b=>if b=s₁.heap.objs.size then some i else ω b) h' i (some (.ref s₁.heap.objs.size)) (.own (.list ds)) :=
  ⟨_,vs,c',ds,rfl,if_pos rfl,rfl,hnew,rl.mono (fun b o U q=>hk' b o q) fun b o q z=>z.elim id fun z=>by rw[z,hnone]at q;cases q⟩
 exact Qx (eq wf (hsto i) C2 hi hk hr fun s' k C'=>hQ _ _ s' .next (((Step.keeps h₁.1).trans C.ok.obs gr.step).trans C.ok.obs (Step.frame k)) C' rfl)
noncomputable def ub(i:Nat):Prim where
 chk sc ctx st:=lZ st fun v U=>pf v fun n U=>cI n fun x U=>ctx[i]? == some (some x)&&kW x
 k:=0
 pre ρ:=kH (ρ.getD i .un)/\(eu (ρ.getD i .un)).length<=16777216
 den ρ:=(.ret (.bool (eu (ρ.getD i .un)).isEmpty),ρ)
theorem Hy(i:Nat)(wf:G.Wf):dZ G X (ub i):=by
 intro sc ctx st env A O ω ρ s E Q hc hsto C hX R hp hQ
 dsimp only[ub]at hp hQ
 refine o9 (P:=fun st=>PM (PO G.prog G.w) A (exec st env) Q E s) hc fun U rp hc=>?_
 refine pg (P:=fun e=>PM (PO G.prog G.w) A (exec (.Return (some e) rp) env) Q E s) hc fun U up hc=>?_
 refine fg (P:=fun e=>PM (PO G.prog G.w) A (exec (.Return (some (.UnaryOp .Not e up)) rp) env) Q E s) hc fun x xp hc=>?_
 refine aP hc fun hi hd=>?_
 have hi:=P9 hi
 have hd:=bne_iff_ne.mp hd
 obtain⟨val,a,vs,n,Fv,V,hv,hw,hL,hR,hil⟩:=sX C hi hp.1
 have hsz:vs.size=(eu (ρ.getD i .un)).length:=by rw[<- cQ];exact hR.length
 refine QS (wpAny_UnaryOp (RK (gM C.eo Fv hv (C.co.kd i x hi) ?_) (by simpa using hd)))
 refine not_of (wpAny_truthy_list hL.isList (by lia) ?_)
 have he:(!(!vs.isEmpty))=(eu (ρ.getD i .un)).isEmpty:=by
  rw[Bool.not_not]
  cases hq:eu (ρ.getD i .un)with
  | nil =>
   rw[hq]at hsz
   exact lS.mpr hsz
  | cons d r =>
   rw[hq]at hsz
   cases hz:vs.isEmpty with
   | false=>rfl
   | true=>rw[lS]at hz;rw[hz]at hsz;cases hsz
 rw[he]
 exact hQ O ω _ (.ret _) (Step.keeps (ay s (s.toks+1+1))) (C.keeps wf (ay s (s.toks+1+1))) ⟨_,rfl,.bool _⟩
end
noncomputable def bh:List PQ->List PQ->List PQ
 | acc,[]=>acc
 | acc,d::ds=>bh (if acc.any (fun y=>Qi y d)then acc else acc++[d]) ds
theorem uc:bh acc (d::ds)=bh (if acc.any (fun y=>Qi y d)then acc else acc++[d]) ds:=rfl
noncomputable def gW:List PQ->List PQ->Option (List PQ)
 | [],t=>some t
 | x::xs,t=>(dq x t).bind (gW xs)
theorem ud:gW (x::xs) t=(dq x t).bind (gW xs):=rfl
noncomputable def ng(a b:List PQ):Bool:=match gW a b with
 | some []=>true
 | _=>false
noncomputable def jV(l:List PQ):Prop:=l.length<=1000000/\∀d∈l,cy d
theorem ue:∀ {l:List PQ},(∀d∈l,cy d)->QC l=true
 | [],_=>rfl
 | d::l,h=>by
  unfold QC
  rw[(h d ak).1,ue fun x hx=>h x (ar _ hx)];rfl
noncomputable def bw:FEntry:=⟨ofString "_deduplicate_unhashable",1,fun ds=>∃l,ds=[.list l]/\jV l,fun ds=>.list (bh [] (cz (ds.getD 0 .none)))⟩
noncomputable def uf:SX:=.prim (pL [] 1 (.list .nil)) (.for false [2] (.seq (.var 0)) (.ite (.cmp .NotIn (.var 2) (.var 1)) (.prim (jM [] 1 (.var 2)) .skip) .skip .skip) (.frz 1 (.prim (et [] (.var 1)) .skip)))
noncomputable def kY:FEntry:=⟨ofString "_compare_args_orderless",3,fun ds=>∃a b,ds=[.list a,.list b]/\jV a/\jV b,fun ds=>.bool (ng (bh [] (cz (ds.getD 0 .none))) (bh [] (cz (ds.getD 1 .none))))⟩
noncomputable def ug:SX:=.prim (cf [bw] 2 (.call 0 (.cons (.var 0) .nil))) (.prim (cf [bw] 3 (.call 0 (.cons (.var 1) .nil))) (.prim (ua [bw] 4 (.var 3)) (.prim (tZ [bw] 4 5 (.seq (.var 2)) (.bool false)) (.prim (ub 4) .skip))))
theorem zk:∀(ds acc:List PQ),(bh acc ds).length<=acc.length+ds.length
 | [],acc=>oO _ _
 | d::ds,acc=>by
  rw[uc]
  refine aa (zk ds _) ?_
  split
  ·simp only[dU];lia
  ·simp only[bj,dU,Pr];lia
theorem zl:∀(ds acc:List PQ) (x:PQ),x∈bh acc ds->x∈acc\/x∈ds
 | [],acc,x,h=>.inl h
 | d::ds,acc,x,h=>by
  rw[uc]at h
  rcases zl ds _ x h with h | h
  ·split at h
   ·exact .inl h
   ·rcases au.mp h with h | h
    ·exact .inl h
    ·exact .inr (ae.mpr (.inl (ai.mp h)))
  ·exact .inr (ar _ h)
theorem zm(h:jV l):jV (bh [] l) :=
 ⟨aa (zk l []) (by simpa using h.1),fun d hd=>h.2 d ((zl l [] d hd).elim (fun q=>by cases q) id)⟩
noncomputable def uh(d:PQ)(ρ:List SV):Fl × List SV:=av [] (.ite (.cmp .NotIn (.var 2) (.var 1)) (.prim (jM [] 1 (.var 2)) .skip) .skip .skip) (aq false [2] d ρ)
theorem zn(d:PQ)(acc:List PQ)(x z:SV):uh d [x,.own (.list acc),z]=(.next,[x,.own (.list (if acc.any (fun y=>Qi y d)then acc else acc++[d])),.dat d]):=by
 show fm (if(!(acc.any fun y=>Qi y d))=true then _ else _) _=_
 cases hq:acc.any fun y=>Qi y d<;>rfl
theorem zo:∀(ds acc:List PQ) (x z:SV),∃z',bY uh ds [x,.own (.list acc),z]=(.next,[x,.own (.list (bh acc ds)),z'])
 | [],acc,x,z=>⟨z,rfl⟩
 | d::ds,acc,x,z=>by
  rw[mI]
  rw[zn]
  exact zo ds _ x (.dat d)
theorem zp:∀(ds acc:List PQ) (x z:SV),(∀d∈ds,cy d)->(∀d∈acc,cy d)->acc.length+ds.length<=1000000 ->
 gj (fun d ρ=>bindP false [2] d/\aM [] (.ite (.cmp .NotIn (.var 2) (.var 1)) (.prim (jM [] 1 (.var 2)) .skip) .skip .skip) (aq false [2] d ρ)) uh ds [x,.own (.list acc),z]
 | [],_,_,_,_,_,_=>trivial
 | d::ds,acc,x,z,h1,h2,h3=>by
  have hd:=h1 d ak
  have hl:=ue h2
  simp only[dU]at h3
  rw[pF]
  rw[zn]
  refine⟨⟨rfl,?_⟩,zp ds _ x (.dat d) (fun y hy=>h1 y (ar _ hy)) (fun y hy=>?_) ?_⟩
  ·refine⟨⟨trivial,trivial,hd,hl⟩,rfl,fun U=>⟨⟨trivial,trivial,?_⟩,fun U U=>trivial⟩,fun U=>trivial,fun U U=>trivial⟩
   show acc.length<=_
   lia
  ·split at hy
   ·exact h2 y hy
   ·rcases au.mp hy with hy | hy
    ·exact h2 y hy
    ·rw[ai.mp hy];exact hd
  ·split
   ·lia
   ·simp only[bj,dU,Pr];lia
noncomputable def nh:List Str:=[ofString "unhashable_params",ofString "new_unhashable",ofString "t"]
theorem Hz(ds:List PQ)(h:bw.pre ds):ds.length=1/\aM [] uf (aS nh ds)/\(av [] uf (aS nh ds)).1=.ret (bw.val ds):=by
 refine x12 h fun l e1 hl=>?_;subst e1
 have e:aS nh [.list l]=[.dat (.list l),.un,.un]:=rfl
 rw[e]
 refine x11 (zo l [] (.dat (.list l)) .un) fun z' hz=>?_
 have hfor:bY (fun d ρ=>av [] (.ite (.cmp .NotIn (.var 2) (.var 1)) (.prim (jM [] 1 (.var 2)) .skip) .skip .skip) (aq false [2] d ρ)) l [.dat (.list l),.own (.list []),.un]=_:=hz
 refine⟨rfl,?_,?_⟩
 ·refine⟨⟨trivial,bx _⟩,fun ρ' hρ=>?_⟩
  cases hρ
  refine⟨⟨trivial,trivial⟩,zp l [] _ _ hl.2 (fun d hd=>by cases hd) (by simpa using hl.1),fun ρ' hρ=>?_⟩
  have hρ:bY _ l [.dat (.list l),.own (.list []),.un]=(.next,ρ'):=hρ
  rw[hfor]at hρ
  cases hρ
  exact⟨trivial,trivial,fun U U=>trivial⟩
 ·show(fm (bY _ l [.dat (.list l),.own (.list []),.un]) _).1=_
  rw[hfor]
  rfl
noncomputable def nj:List Str:=[ofString "first_args",ofString "second_args",ofString "first_unhashable",ofString "second_unhashable",ofString "t",ofString "elem"]
theorem zq:∀(xs t:List PQ) (a b c d z:SV),∃t' z',bY (ec 4 5 (.bool false)) xs [a,b,c,d,.own (.list t),z]=(match gW xs t with | some _=>.next | none=>.ret (.bool false),[a,b,c,d,.own (.list t'),z'])/\∀r,gW xs t=some r->t'=r
 | [],t,a,b,c,d,z=>⟨t,z,rfl,fun r h=>by cases h;rfl⟩
 | x::xs,t,a,b,c,d,z=>by
  rw[mI]
  have e:ec 4 5 (.bool false) x [a,b,c,d,.own (.list t),z]=(match dq x t with | some r=>(.next,[a,b,c,d,.own (.list r),.dat x]) | none=>(.ret (.bool false),[a,b,c,d,.own (.list t),.dat x])):=by
   unfold ec
   show(match dq x t with | some r=>_ | none=>_)=_
   cases dq x t<;>rfl
  rw[e]
  rw[ud]
  cases hr:dq x t with
  | none=>exact⟨t,.dat x,rfl,fun r h=>by cases h⟩
  | some r=>exact zq xs r a b c d (.dat x)
theorem zr(h:dq x t=some r):(∀y∈r,y∈t)/\r.length<=t.length:=by
 rw[tW]at h
 refine x12 (Pt.mp h) fun j _ q=>?_;subst q
 exact⟨fun y hy=>List.mem_of_mem_eraseIdx hy,List.Sublist.length_le (List.eraseIdx_sublist ..)⟩
theorem zs:∀(xs t:List PQ) (a b c d z:SV),(∀x∈xs,cy x)->jV t->gj (fun d ρ=>bindP false [5] d/\tY 4 d ρ) (ec 4 5 (.bool false)) xs [a,b,c,d,.own (.list t),z]
 | [],_,_,_,_,_,_,_,_=>trivial
 | x::xs,t,a,b,c,d,z,hx,ht=>by
  rw[pF]
  refine⟨⟨rfl,trivial,hx x ak,ue ht.2,?_⟩,?_⟩
  ·show t.length<=_;have:=ht.1;lia
  ·have e:ec 4 5 (.bool false) x [a,b,c,d,.own (.list t),z]=(match dq x t with | some r=>(.next,[a,b,c,d,.own (.list r),.dat x]) | none=>(.ret (.bool false),[a,b,c,d,.own (.list t),.dat x])):=by
    unfold ec
    show(match dq x t with | some r=>_ | none=>_)=_
    cases dq x t<;>rfl
   rw[e]
   cases hr:dq x t with
   | none=>trivial
   | some r =>
    have:=zr hr
    exact zs xs r a b c d (.dat x) (fun y hy=>hx y (ar _ hy)) ⟨aa this.2 ht.1,fun y hy=>ht.2 y (this.1 y hy)⟩
theorem HA(ds:List PQ)(h:kY.pre ds):ds.length=2/\aM [bw] ug (aS nj ds)/\(av [bw] ug (aS nj ds)).1=.ret (kY.val ds):=by
 refine x23 h fun a b e2 ha hb=>?_;subst e2
 have e:aS nj [.list a,.list b]=[.dat (.list a),.dat (.list b),.un,.un,.un,.un]:=rfl
 rw[e]
 have la:=zm ha
 have lb:=zm hb
 refine x22 (zq (bh [] a) (bh [] b) (.dat (.list a)) (.dat (.list b)) (.dat (.list (bh [] a))) (.dat (.list (bh [] b))) .un) fun t' z' hz ht'=>?_
 refine⟨rfl,⟨⟨⟨trivial,trivial⟩,a,rfl,ha⟩,fun ρ1 h1=>?_⟩,?_⟩
 ·cases h1
  refine⟨⟨⟨trivial,trivial⟩,b,rfl,hb⟩,fun ρ1 h1=>?_⟩
  cases h1
  refine⟨⟨trivial,_,rfl,aa lb.1 (by decide)⟩,fun ρ1 h1=>?_⟩
  cases h1
  refine⟨⟨⟨trivial,trivial⟩,by show 5<6;decide,zs (bh [] a) (bh [] b) _ _ _ _ _ la.2 lb⟩,fun ρ1 h1=>?_⟩
  have h1:bY (ec 4 5 (.bool false)) (bh [] a) [.dat (.list a),.dat (.list b),.dat (.list (bh [] a)),.dat (.list (bh [] b)),.own (.list (bh [] b)),.un]=(.next,ρ1):=h1
  rw[hz]at h1
  cases hr:gW (bh [] a) (bh [] b)with
  | none=>rw[hr]at h1;cases h1
  | some r =>
   rw[hr]at h1
   cases h1
   refine⟨⟨trivial,?_⟩,fun U U=>trivial⟩
   have:=ht' r hr
   subst this
   have hlen:∀(xs t r:List PQ),gW xs t=some r->r.length<=t.length:=fun xs=>by
    induction xs with
    | nil=>intro t r h;cases h;exact aN _
    | cons x xs ih =>
     intro t r h
     rw[ud]at h
     refine x12 (Option.bind_eq_some_iff.mp h) fun q hq h=>?_
     exact aa (ih q r h) (zr hq).2
   show t'.length<=_
   have:=hlen _ _ _ hr
   have:=lb.1
   lia
 ·show(fm (bY (ec 4 5 (.bool false)) (bh [] a) [.dat (.list a),.dat (.list b),.dat (.list (bh [] a)),.dat (.list (bh [] b)),.own (.list (bh [] b)),.un]) _).1=.ret (.bool (ng (bh [] a) (bh [] b)))
  rw[hz]
  unfold ng
  cases hr:gW (bh [] a) (bh [] b)with
  | none=>rfl
  | some r =>
   have:=ht' r hr
   subst this
   cases t'<;>rfl
section
variable{prog:Qs}{w:Qq}{A:P0}{E:PN->PL->Prop}{h:Qk}{g:Array GenState}{dr:Drawn}{tk:Nat}{os:OsState}
theorem zt{d:PP}{f:Int->Option PN}{c:Nat}{x:Str}{t:Tok}{Q:Builtin.Str.Mapped->PL->Prop}(hm:h.IntMap d f)(hf:f c=some (.str x t))(hq:Q (.text x) ⟨h,g,dr,tk+1+1,os⟩) :
 PM (PO prog w) A (Sk (.ref d) c) Q E ⟨h,g,dr,tk,os⟩:=by
 unfold Sk
 refine PK (RG (PK (wpAny_mkInt ?_)))
 refine wpAny_getItem_intMap (s:=⟨h,g,dr,tk+1,os⟩) hm hf ?_
 show PM _ _ (asInt? (.str x t) >>= _) _ _ _
 refine PK (m:=asInt? (.str x t)) (RS (a:=none) (by first | rfl | kernel_rfl) ?_)
 refine PK (m:=asStr? (.str x t)) (RS (a:=some x) (by first | rfl | kernel_rfl) ?_)
 exact PU hq
theorem HB{d:PP}{f:Int->Option PN}{c:Nat}{x:Str}{t u:Tok}{R:Result->PL->Prop}(hc:c<128)(hx:x.length=2)(hm:h.IntMap d f)(hf:f c=some (.str x t))(hq:R (.ok (.ret (.str x (tk+4)))) ⟨h,g,dr,tk+5,os⟩) :
 PM (PO prog w) A.in1 (QQ.«str.translate» ⟨[.str ⟨#[c]⟩ u,.ref d],[]⟩) (fun fin s'=>match fin with | .done f=>R (.ok f) s' | .again c'=>c'.quiet=true/\QW (PO prog w) A c' R s') (fun e s'=>R (.error e) s') ⟨h,g,dr,tk,os⟩:=by
 unfold QQ.«str.translate»
 refine PK (m:=Builtin.Str.strOneArg "translate" ⟨[.str ⟨#[c]⟩ u,.ref d],[]⟩) (RS (a:=(.str ⟨#[c]⟩ u,⟨#[c]⟩,.ref d)) (by first | rfl | kernel_rfl) ?_)
 dsimp only
 have h0:¬((({ cps:=#[c] }:Str).length==0)=true):=by show ¬((1==0)=true);decide
 have hall:(#[c].all fun x=>decide (x<128))=true:=by simp[hc]
 rw[if_neg h0,hall,<- Array.forIn_toList]
 have tl0:¬(Builtin.Str.tooLong 0=true):=by decide
 have hne:(x.length==1&&x.cps.all fun x=>decide (x<128))=false:=by rw[hx];rfl
 refine PK ?_
 show PM _ _ (forIn [c] _ _) _ _ _
 rw[PI]
 refine PK ?_
 rw[if_neg tl0,if_pos rfl]
 show PM _ _ (Sk (.ref d) c >>= _) _ _ _
 refine PK (zt hm hf ?_)
 dsimp only
 rw[hne,if_neg Pl]
 refine PK (PU ?_)
 dsimp only
 refine PK (R2 ?_)
 refine PK (zt hm hf ?_)
 dsimp only
 refine PU ?_
 dsimp only
 rw[List.forIn_nil]
 refine PU ?_
 dsimp only
 have tl2:¬(Builtin.Str.tooLong (0+x.length)=true):=by rw[hx];decide
 rw[if_neg tl2]
 have hcat:(⟨([x].reverse.foldl (fun acc p=>acc++p.cps) #[])⟩:Str)=x:=by
  show(⟨#[]++x.cps⟩:Str)=x
  rw[Array.empty_append]
 rw[hcat]
 unfold retStr
 refine PK (wpAny_mkStr ?_ (by rw[hx,QP];decide))
 exact PU hq
end
noncomputable def iE:Str:=ofString "pattern"
noncomputable def HC:Str:=ofString "translate"
noncomputable def uj:Str:=ofString "_special_chars_map"
noncomputable def uk:Str:=ofString "isinstance"
noncomputable def ul:Str:=ofString "str"
noncomputable def zu(P:Nat->Pos)(u1:List PW)(u2:List PW)(u3:List PW):List PW:=.If (.Call (.Name uk (P 0)) [.Name iE (P 1),.Name ul (P 2)] [] (P 3)) (.Return (some (.Call (.Attribute (.Name iE (P 4)) HC (P 5)) [.Name uj (P 6)] [] (P 7))) (P 8)::u1) u2 (P 9)::u3
inductive isEsc(sc:Scope)(b:List PW):Prop where
 | mk (h1:b=zu rL Dh Di Dj) (h2:((rL 5).endLine==(rL 7).line)=true) (h3:bU sc uk=true) (h4:bU sc ul=true) (h5:bU sc uj=true):isEsc sc b
noncomputable def jj(c:Nat):Str:=⟨#[92,c]⟩
noncomputable def qe:List Nat:=[43,45,46]
noncomputable def bZ:FEntry:=⟨ofString "escape",1,fun ds=>∃c∈qe,ds=[.str ⟨#[c]⟩],fun ds=>.str (jj ((cJ (ds.getD 0 .none)).cps.getD 0 0))⟩
section
variable{G:Glo}
structure EscInfo(G:Glo)(a scm:PP)(fd:Qm)(body:List PW)(f:Int->Option PN):Prop where
 nm:G.mg bZ.name=some (.ref a)
 FI:FnInfo G a fd body [iE] [iE]
 bind:∀vs:List PN,vs.length=1->Q9 fd ⟨vs,[]⟩=pure ([iE].zip vs)
 bd:isEsc fd.scope body
 gs:G.mg uj=some (.ref scm)
 mp:G.hB.IntMap scm f
 at_:∀c∈qe,∃t,f (c:Int)=some (.str (jj c) t)
theorem HD:RQ (.type "str") (.type "str")=pure true:=by rw[QI];kernel_rfl
theorem HE:typeOf (.type "str")=pure (.type "type"):=by kernel_rfl
theorem HG{h h':Qk}{d:PP}{f:Int->Option PN}(m:h.IntMap d f)(k:∀b o,h.get? b=some o->h'.get? b=some o):h'.IntMap d f :=
 m.elim fun o ζ=>ζ.elim fun es ζ=>ζ.elim fun ep ζ=>ζ.elim fun ho r=>⟨o,es,ep,k _ _ ho,r⟩
theorem HH{a scm:PP}{fd:Qm}{body:List PW}{f:Int->Option PN}(wf:G.Wf)(I:EscInfo G a scm fd body f):aK G bZ:=by
 refine x12 I.FI.at_ fun o e2 hd=>?_
 refine⟨a,o,fd,I.nm,e2,hd,fun A s O vs ds E R ok B r hp=>?_⟩
 refine x12 hp fun c hc e2=>?_;subst e2
 have hvl:vs.length=1:=by rw[r.length];rfl
 refine Q5 (kL (s:=s) (O:=O) (ys:=[.dat (.str ⟨#[c]⟩)]) wf I.FI ok B (pO r) hvl rfl (R.fits (bx _)) (I.bind vs hvl) fun env O' s₁ k1 hO1 hO2 hSt hsto C E' Qf hret hnx=>?_)
 have bd:=I.bd
 obtain⟨hb,b3,b1,b2,b4⟩:=bd
 rw[hb]
 unfold zu
 have hctx:([iE].map some)[0]? = some (some iE):=rfl
 have hdb:(iE==ofString "__debug__")=false:=by decide +kernel
 have hrho:(cR [iE] [SV.dat (.str ⟨#[c]⟩)]).getD 0 .un=.dat (.str ⟨#[c]⟩):=rfl
 refine x11 (I.at_ c hc) fun t ht=>?_
 refine PS (Rk ?_)
 rw[kD rfl]
 refine PK (dY (fun y hy=>by simp only[ae,cu,or_false]at hy;rcases hy with rfl | rfl<;>rfl) (gN wf C.eo C.base b1 (v:=.builtin "isinstance") (by simp[cb,uk]) ?_))
 refine QD (gg _) (Qo (Qh (dN C hctx hdb hrho fun v rv=>Qh (gN wf C.eo C.base b2 (v:=.type "str") (by simp[cb,ul]) (Qc ?_)))))
 cases rv with
 | str _ u =>
 refine call_isinstance (isinstance_true HE HD) ⟨typeIs_str _ _ _,?_⟩
 refine PK (Ql (Qj (Qp ?_)))
 refine PS (QS ?_)
 refine Rp rfl (io rfl) (by simpa using b3) (dN C hctx hdb hrho fun v rv=>?_)
 cases rv with
 | str _ u =>
 refine⟨"str", "str.translate",F.plainAttrs_str,F.slot_str_translate,F.type_str_translate,typeIs_str _ _ _,(fun b e=>by cases e),?_⟩
 have hmp:s₁.heap.IntMap scm f:=HG I.mp C.base.kp
 refine seqMethod1_meets F.slot_str_translate F.entry_str_translate (ii wf C.eo C.base b4 (by decide +kernel) I.gs ⟨typeIs_str _ _ _,F.args_str_translate_2 _ _,(fun U R s'=>s'.heap.IntMap scm f/\R (.ok (.ret (.str (jj c) (s'.toks+4)))) { s' with toks:=s'.toks+5 }),fun prog w A R s' h=>?_,hmp,?_⟩)
 ·obtain⟨hh,g,dr,tk,os⟩:=s'
  exact HB (f:=f) (x:=jj c) (t:=t) (by simp[qe]at hc;lia) rfl h.1 ht h.2
 ·refine hret _ _ ⟨aX k1 (ay s₁ (s₁.toks+5)),?_⟩
  have:bZ.val [.str ⟨#[c]⟩]=.str (jj c):=rfl
  rw[this]
  exact .str _ _
end
end
section
open PySem PySem.W PyProof.Rows PySem.Spec PySem.SeqAt PySem.Calls
namespace B
theorem lk_l_append:Rl (.type "list") "append" = pure (some (.builtin "list.append")):=by rw[QL,Qv];kernel_rfl
theorem slot_md_get:Slot "method_descriptor" "__get__" "method_descriptor.__get__" :=
 .of (owner:= "method_descriptor") (n:= "__get__") (by rw[QL,Qv];kernel_rfl) (by decide +kernel) (by decide +kernel) (by decide +kernel)
  (by first | exact .inl (by decide +kernel) | exact .inr (by decide +kernel)) (by rw[QI];kernel_rfl)
theorem no_md_set:Rl (.type "method_descriptor") "__set__" = pure none:=by rw[QL,Qv];kernel_rfl
theorem no_md_del:Rl (.type "method_descriptor") "__delete__" = pure none:=by rw[QL,Qv];kernel_rfl
theorem entry_md_get:entryFor table "method_descriptor.__get__" = some QQ.«method_descriptor.__get__»:=entryFor_of_tree (by kernel_rfl)
theorem args_md_get(a b c:PN):argsOk "method_descriptor.__get__" ⟨[a,b,c],[]⟩:=by unfold argsOk;kernel_rfl
theorem typeOf_l_append:typeOf (.builtin "list.append")=pure (.type "method_descriptor"):=by kernel_rfl
theorem sub_l_owner:RQ (.type "list") (.type (".".intercalate ("list.append".cutAt '.').dropLast))=pure true:=by
 have e0 : "list.append".cutAt '.'=["list", "append"]:=by first | rfl | decide +kernel
 rw[e0,QI];kernel_rfl
theorem Pj:Rl (.type "list") "__getattr__" = pure none:=by rw[QL,Qv];kernel_rfl
end B
section
variable{prog:Qs}{w:Qq}{A:P0}{E:PN->PL->Prop}{h:Qk}{g:Array GenState}{d:Drawn}{t:Nat}{os:OsState}{a:PP}{o:Obj}
theorem HI(hx:h.get? a=some o)(hc:o.cls=.type "list") (hq:R (.ok (.ret (.ref h.objs.size))) ⟨h.push (cS "builtin_function_or_method" "list.append" a),g,d,t,os⟩) :
 QW (PO prog w) A (.call (.builtin "method_descriptor.__get__") ⟨[.builtin "list.append",.ref a,.type "list"],[]⟩) R ⟨h,g,d,t,os⟩:=by
 have hT:(⟨h,g,d,t,os⟩:PL).TypeIs (.ref a) "list":=⟨_,hx,hc⟩
 have hT5:(⟨h,g,d,t,os⟩:PL).TypeIs (.builtin "list.append") "method_descriptor":=B.typeOf_l_append
 have f8:=B.sub_l_owner
 refine Rx B.slot_md_get.plain B.entry_md_get (B.slot_md_get.check _ _ _ _ _ _ _ _ hT5 (B.args_md_get _ _ _) ?_)
 repeat (any_goals (first | assumption | wp_step))
theorem HJ{tk:Tok}{vs:Array PN}{n:Nat}{Q:Fin->PL->Prop}(hx:h.get? a=some { cls:=.type "list",data:=.seq vs n }) (hq:Q (.done (.ret (.ref h.objs.size))) ⟨h.push (cS "builtin_function_or_method" "list.append" a),g,d,t,os⟩) :
 PM (PO prog w) A (QQ.«object.__getattribute__» ⟨[.ref a,.str "append" tk],[]⟩) Q E ⟨h,g,d,t,os⟩:=by
 have hT:(⟨h,g,d,t,os⟩:PL).TypeIs (.ref a) "list":=⟨_,hx,rfl⟩
 have hT5:(⟨h,g,d,t,os⟩:PL).TypeIs (.builtin "list.append") "method_descriptor":=B.typeOf_l_append
 have f4:=B.lk_l_append
 have f5:=B.typeOf_l_append
 have f6:=B.slot_md_get.lookup
 have f7:=B.no_md_set
 have f8:=B.no_md_del
 repeat (any_goals (first | assumption | wp_step))
 refine HI hx rfl ?_
 repeat (any_goals (first | assumption | wp_step))
theorem HK{tk:Tok}{vs:Array PN}{n:Nat}{R:Result->PL->Prop}(hx:h.get? a=some { cls:=.type "list",data:=.seq vs n }) (hq:R (.ok (.ret (.ref h.objs.size))) ⟨h.push (cS "builtin_function_or_method" "list.append" a),g,d,t,os⟩) :
 QW (PO prog w) A (.call (.builtin "list.__getattribute__") ⟨[.ref a,.str "append" tk],[]⟩) R ⟨h,g,d,t,os⟩ :=
 Rx F.slot_list_getattribute.plain am_entry_list_getattribute (F.slot_list_getattribute.check _ _ _ _ _ _ _ _ (show(⟨h,g,d,t,os⟩:PL).TypeIs (.ref a) "list" from⟨_,hx,rfl⟩) (F.args_list_getattribute_2 _ _) (HJ hx hq))
theorem HL{vs:Array PN}{n:Nat}{Q:PN->PL->Prop}(hx:h.get? a=some { cls:=.type "list",data:=.seq vs n }) (hq:Q (.ref h.objs.size) ⟨h.push (cS "builtin_function_or_method" "list.append" a),g,d,t+1,os⟩) :
 PM (PO prog w) A (RA (.ref a) "append" true) Q E ⟨h,g,d,t,os⟩:=by
 have hT:∀tk',(⟨h,g,d,tk',os⟩:PL).TypeIs (.ref a) "list":=fun U=>⟨_,hx,rfl⟩
 have f2:=F.slot_list_getattribute.lookup
 have f3:=F.slot_list_getattribute.bind (.ref a)
 have f5:=am_list_getattr_none
 unfold RA getAttrBy
 repeat (any_goals (first | assumption | exact hT _ | wp_step))
 refine HK hx ?_
 repeat (any_goals (first | assumption | exact hT _ | wp_step))
end
namespace B
theorem kind_append:builtinKind "list.append" = some .method:=by kernel_rfl
theorem plain_append:plainId "list.append" = true:=by decide +kernel
theorem sig_append:∃sig,R7 "list.append" = some sig:=by
 have h:(R7 "list.append").isSome=true:=by decide +kernel
 exact rJ.mp h
theorem no_va:Manifest.varargsMethods.contains "list.append" = false:=by decide +kernel
theorem sub_l_mod:RQ (.type "list") (.type "module")=pure false:=by rw[QI];kernel_rfl
theorem sub_l_type:RQ (.type "list") (.type "type")=pure false:=by rw[QI];kernel_rfl
end B
section
variable{prog:Qs}{w:Qq}{A:P0}{E:PN->PL->Prop}{h:Qk}{g:Array GenState}{d:Drawn}{t:Nat}{os:OsState}{a:PP}
theorem HM{vs:Array PN}{n:Nat}{v:PN}{Q:Unit->PL->Prop}(hx:h.get? a=some { cls:=.type "list",data:=.seq vs n }) (hq:Q () ⟨h,g,d,t,os⟩):PM (PO prog w) A (RY "list.append" ⟨[.ref a,v],[]⟩) Q E ⟨h,g,d,t,os⟩:=by
 have hT:(⟨h,g,d,t,os⟩:PL).TypeIs (.ref a) "list":=⟨_,hx,rfl⟩
 have f1:=B.sub_l_mod
 have f2:=B.sub_l_type
 refine x11 B.sig_append fun sig hs=>?_
 unfold RY
 rw[hs,B.kind_append]
 dsimp only
 rw[B.no_va]
 rw[if_neg (show ¬((Sh != Sh&&Sh != Manifest.AttrKind.classMethod)=true)from by decide)]
 have key:(match R7 "list.append" with | some sig=>Bind.checkArgs "list.append" { sig with full:=toString (Sn "list")++toString "."++toString (Sn "list.append") } ⟨[.ref a,v],[]⟩ | none=>pure ())=pure ():=by kernel_rfl
 rw[hs]at key
 dsimp only at key
 have tail:PM (PO prog w) A (Bind.checkArgs "list.append" { sig with full:=toString (Sn "list")++toString "."++toString (Sn "list.append") } ⟨[.ref a,v],[]⟩) Q E ⟨h,g,d,t,os⟩:=by rw[key];exact PU hq
 generalize hrest:Bind.checkArgs "list.append" { sig with full:=toString (Sn "list")++toString "."++toString (Sn "list.append") } ⟨[.ref a,v],[]⟩=rest at tail
 repeat (any_goals (first | assumption | wp_step))
theorem HN{v:PN}{Q:PN->PL->Prop}(hm:s.heap.get? m=some (cS "builtin_function_or_method" "list.append" l)) (hl:IsL s.heap l vs n) (hz:vs.size<=Q7)
 (hQ:∀h' n',IsL h' l (vs.push v) n'->QM l s.heap h'->Q .none { s with heap:=h' }):PM (PO prog w) A (call (.ref m) [v]) Q E s:=by
 refine Q5 (codeAny_of_tree ?_)
 show PM _ A.in1 (load m >>= _) _ _ s
 refine PK (wpAny_load hm ?_)
 show PM _ A.in1 (RY "list.append" ⟨[.ref l,v],[]⟩ >>= fun U=>again (.builtin "list.append" ⟨[.ref l,v],[]⟩)) _ _ s
 refine PK (HM hl ?_)
 refine PU ⟨plainId_quiet B.plain_append _,R9 F.entry_list_append ?_⟩
 rw[R5 B.plain_append]
 refine PySem.AutoListH.list_append_list_val_0 l vs n v hz prog w A (fun r s'=>match r with | .ok (.ret v)=>Q v s' | .ok _=>False | .error e=>E e s') s ⟨hl,?_⟩
 exact hQ _ _ (IsL.update hl _) (Qr ..)
theorem HO(hm:h.get? m=some (cS "builtin_function_or_method" "list.append" l)):Looks M h (keeperOf (.ref m)) .machine:=(Looks.ld (part:=none) hm).andThen .now
theorem HP{pos:Pos}{s:PL}{Q:PN->PL->Prop}(h:PM (PO prog w) A x (fun v s₁=>s₁.heap.get? m=some (cS "builtin_function_or_method" "list.append" l)/\∃vs n,IsL s₁.heap l vs n/\vs.size<=Q7 /\
 ∀h' n',IsL h' l (vs.push v) n'->QM l s₁.heap h'->Q .none { s₁ with heap:=h' }) E s):PM (PO prog w) A (callWith pos (.ref m) [] [(false,x)] []) Q E s:=by
 refine callWith_of (P:=fun h=>h.get? m=some (cS "builtin_function_or_method" "list.append" l)) rfl (fun h hp=>⟨.machine,.inr (.inl rfl),HO hp⟩) (Qo (Qh (PR h (fun v s₁ h₁=>Qc ?_) fun U U e=>e)))
 obtain⟨hm,vs,n,hl,hz,hq⟩:=h₁
 exact⟨hm,HN hm hl hz hq⟩
end
inductive StrsAre:List PN->List Str->Prop where
 | nil:StrsAre [] []
 | cons {x:Str} {t:Tok} {vs:List PN} {xs:List Str} (r:StrsAre vs xs):StrsAre (.str x t::vs) (x::xs)
theorem StrsAre.snoc{y:Str}{u:Tok}:∀ {vs:List PN} {xs:List Str},StrsAre vs xs->StrsAre (vs++[.str y u]) (xs++[y])
 | _,_,.nil=>.cons .nil
 | _,_,.cons r=>.cons r.snoc
theorem StrsAre.len:∀ {vs:List PN} {xs:List Str},StrsAre vs xs->vs.length=xs.length:=fun q=>by
 induction q with
 | nil=>rfl
 | cons r ih=>exact congrArg Nat.succ ih
theorem StrsAre.rep{O:PP->Prop}{h:Qk}:∀ {vs:List PN} {xs:List Str},StrsAre vs xs->RepL O h vs (xs.map QN):=fun q=>by
 induction q with
 | nil=>exact .nil
 | cons r ih=>exact .cons (.str _ _) ih
section
variable{G:Glo}{Φ:List FEntry}
structure TI(G:Glo)(env:Env)(sc:Scope)(ctx:List (Option Str))(A:P0)(ir ia:Nat)(a m:PP)(s₀:PL)(O:PP->Prop)(ρ:List SV)(xs:List Str)(s:PL):Prop where
 C:Cond G env sc ctx A O (fun U=>none) ρ s
 oa:O a
 sa:¬aU env a
 hr:ρ.getD ir .un=.val (.ref a)
 ha:ρ.getD ia .un=.val (.ref m)
 om:¬O m
 hm:s.heap.get? m=some (cS "builtin_function_or_method" "list.append" a)
 hl:∃arr n,IsL s.heap a arr n/\StrsAre arr.toList xs
 km:KM (fun b=>aU env b\/b=a) s₀ s
 na:s₀.heap.get? a=none
variable{env:Env}{sc:Scope}{ctx:List (Option Str)}{A:P0}{ir ia:Nat}{a m:PP}{s₀ s s':PL}{O:PP->Prop}{ρ:List SV}{xs:List Str}{E:PN->PL->Prop}
theorem TI.keeps(wf:G.Wf)(I:TI G env sc ctx A ir ia a m s₀ O ρ xs s)(k:PY s s'):TI G env sc ctx A ir ia a m s₀ O ρ xs s' :=
 ⟨I.C.keeps wf k,I.oa,I.sa,I.hr,I.ha,I.om,am k _ _ I.hm,I.hl.elim fun arr ζ=>ζ.elim fun n ζ=>ζ.elim fun h r=>⟨arr,n,am k _ _ h,r⟩,I.km.trans (KM.of k),I.na⟩
theorem TI.frame(I:TI G env sc ctx A ir ia a m s₀ O ρ xs s){ρ':List SV}(k:KM (bb env) s s')(C':Cond G env sc ctx A O (fun U=>none) ρ' s')(e1:ρ'.getD ir .un=.val (.ref a))(e2:ρ'.getD ia .un=.val (.ref m)):TI G env sc ctx A ir ia a m s₀ O ρ' xs s' :=
 ⟨C',I.oa,I.sa,e1,e2,I.om,k.get _ _ (fun q=>I.om (I.C.fr _ q)) I.hm,I.hl.elim fun arr ζ=>ζ.elim fun n ζ=>ζ.elim fun h r=>⟨arr,n,k.get _ _ (fun q=>I.sa q.store) h,r⟩,I.km.trans (k.mono fun b q=>.inl q.store),I.na⟩
theorem TI.asg{i:Nat}{x:Str}{e:IX}{v:Expr}{p pos:Pos}{Q:Flow->PL->Prop}(wf:G.Wf)(hF:∀F∈Φ,aK G F)(hsto:∀i,bu env ctx i)(I:TI G env sc ctx A ir ia a m s₀ O ρ xs s)(hi:ctx[i]? = some (some x))(hk:aT sc x=true)(hc:chk Φ e sc ctx v=true)(hsw:RZ v (some (.Name x p)) pos.line env=pure false)(R:aI (kx Φ e) A)(hp:pre Φ e false ρ)(h1:i≠ir)(h2:i≠ia)
 (h:∀s',TI G env sc ctx A ir ia a m s₀ O (ρ.set i (.dat (den Φ e ρ))) xs s'->Q .next s'):PM (PO G.prog G.w) A (exec (.Assign [.Name x p] v pos) env) Q E s:=by
 refine Qn (PR ((snd wf hF e).ev sc ctx v false env A O _ ρ s E hc I.C R hp) (fun u s₁ h₁=>?_) fun U U x=>x) hsw rfl
 have I1:=I.keeps wf h₁.1
 show PM _ A (QJ (.Name x p) env u) _ _ s₁
 exact jH wf (hsto i) I1.C hi hk h₁.2.ff fun s' k C'=>h s' (I1.frame k C' (by rw[dJ,if_neg fun q=>h1 q.1];exact I.hr) (by rw[dJ,if_neg fun q=>h2 q.1];exact I.ha))
theorem TI.add{x:Str}{np cp pos:Pos}{e:IX}{v:Expr}{y:Str}{Q:Flow->PL->Prop}(wf:G.Wf)(hF:∀F∈Φ,aK G F)(I:TI G env sc ctx A ir ia a m s₀ O ρ xs s)(hi:ctx[ia]? = some (some x))(hd:(x==ofString "__debug__")=false) (hc:chk Φ e sc ctx v=true) (R:aI (kx Φ e) A) (hp:pre Φ e false ρ) (hy:den Φ e ρ=.str y) (hz:xs.length<=1000)
 (h:∀s',TI G env sc ctx A ir ia a m s₀ O ρ (xs++[y]) s'->Q .next s'):PM (PO G.prog G.w) A (exec (.Expr (.Call (.Name x np) [v] [] cp) pos) env) Q E s:=by
 have hint:Q1 env=false:=by unfold Q1;rw[I.C.eo.kindS];rfl
 refine RN (dY (fun b hb=>by rw[ai.mp hb];exact gf e hc) (gm I.C hi hd I.ha ?_)) hint rfl
 refine HP (l:=a) (PR ((snd wf hF e).ev sc ctx v false env A O _ ρ s E hc I.C R hp) (fun u s₁ h₁=>?_) fun U U x=>x)
 have I1:=I.keeps wf h₁.1
 refine x22 I1.hl fun arr n hl hs=>?_
 have rv:=h₁.2.ff
 rw[hy]at rv
 cases rv with
 | str _ t =>
 have hlen:arr.size=xs.length:=by rw[<- cQ];exact hs.len
 refine⟨I1.hm,arr,n,hl,by rw[hlen,QP];lia,fun h' n' hl' hsb=>?_⟩
 have k:KM (· = a) s₁ { s₁ with heap:=h' }:=KM.chg (t:=s₁.toks) hsb.extBut ⟨_,hl'⟩ rfl
 have C':=I1.C.outer wf k (fun b q=>q▸I1.oa) fun b q=>q▸I1.sa
 refine h _ ⟨C',I1.oa,I1.sa,I1.hr,I1.ha,I1.om,k.get _ _ (fun q=>I1.om (q▸I1.oa)) I1.hm,⟨_,n',hl',by rw[Sl];exact hs.snoc⟩,I1.km.trans (k.mono fun b q=>.inr q),I1.na⟩
end
section
variable{G:Glo}{Φ:List FEntry}
theorem fK.of:∀ {slots:List Nat} {vs:List PN} {ds:List PQ},slots.length=ds.length->RepL O h vs ds->fK G O ω h slots vs (ds.map .dat)
 | [],_,[],_,.nil=>trivial
 | _::_,_,_::_,hl,.cons r l=>⟨⟨_,rfl,r⟩,fK.of (by simpa using hl) l⟩
 | [],_,_::_,hl,_=>nomatch hl
 | _::_,_,[],hl,_=>nomatch hl
theorem zv{env:Env}{sc:Scope}{ctx:List (Option Str)}{A:P0}{O:PP->Prop}{ω:PP->Option Nat}{ρ:List SV}{s:PL}{E:PN->PL->Prop}{slots:List Nat}{es:IX}{ts vs:List Expr}{k k':Nat}{p p' pos:Pos}{Q:Flow->PL->Prop}(wf:G.Wf)(hF:∀F∈Φ,aK G F)
 (hn:dI sc ctx slots ts=true) (he:cj Φ es sc ctx vs=true) (hsafe:jN vs=true) (hnd:slots.Nodup) (hlen:slots.length=(bE Φ es ρ).length) (hsz:(bE Φ es ρ).length<=16777216) (hsto:∀i,bu env ctx i) (C:Cond G env sc ctx A O ω ρ s) (R:aI (kx Φ es) A) (hp:dX Φ es ρ)
 (hQ:∀s',KM (bb env) s s'->Cond G env sc ctx A O ω (ew ρ (slots.zip ((bE Φ es ρ).map .dat))) s'->Q .next s'):PM (PO G.prog G.w) A (exec (.Assign [.Tuple ts k p] (.Tuple vs k' p') pos) env) Q E s:=by
 refine yh (ρ:=ρ) wf hsto hn (jK es he) hsafe hnd (PR ((snd wf hF es).ls sc ctx vs env A O ω ρ s E he C R hp) (fun us s₁ h₁=>?_) fun U U x=>x)
 exact⟨O,ω,_,by rw[ag];exact hlen,h₁.2.length.symm▸hsz,C.keeps wf h₁.1,fK.of hlen h₁.2,fun s' k C'=>hQ s' ((KM.of h₁.1).trans k) C'⟩
end
noncomputable def ey:Str:=ofString "res"
noncomputable def fR:Str:=ofString "add"
noncomputable def um:Str:=ofString "append"
section
variable{G:Glo}{Φ:List FEntry}{env:Env}{sc:Scope}{ctx:List (Option Str)}{A:P0}{ir ia:Nat}{s:PL}{O:PP->Prop}{ρ:List SV}{E:PN->PL->Prop}
theorem TI.start{p1 p2 p3 p4 p5 q1 q2:Pos}{rest:List PW}{Q:Flow->PL->Prop}(wf:G.Wf)(hsto:∀i,bu env ctx i)(C:Cond G env sc ctx A O (fun U=>none) ρ s)(hr:ctx[ir]? = some (some ey))(ha:ctx[ia]? = some (some fR))(kr:aT sc ey=true)(ka:aT sc fR=true)(hne:ir≠ia)(lr:ir<ρ.length)(la:ia<ρ.length)
 (h:∀a m O' s',TI G env sc ctx A ir ia a m s O' ((ρ.set ir (.val (.ref a))).set ia (.val (.ref m))) [] s'->(∀b,O b->O' b)->(∀b,O' b->O b\/s.heap.get? b=none)->PM (PO G.prog G.w) A (QG rest env) Q E s') :
 PM (PO G.prog G.w) A (QG (.Assign [.Name ey p1] (.List [] p2) q1::.Assign [.Name fR p3] (.Attribute (.Name ey p4) um p5) q2::rest) env) Q E s:=by
 have kt:PY s { s with heap:=s.heap.push { cls:=.type "list",data:=.seq ([]:List PN).toArray } }:=bL _
 have hnone:s.heap.get? s.heap.objs.size=none:=QX (aN _)
 generalize hae:s.heap.objs.size=a at hnone
 have hla:IsL (s.heap.push { cls:=.type "list",data:=.seq ([]:List PN).toArray }) a #[] 0:=hae▸IsL.new _ _
 refine PS (Qn (Si (Qc ⟨bx _,?_⟩)) rfl rfl)
 rw[hae]
 generalize hs1:({ s with heap:=s.heap.push { cls:=.type "list",data:=.seq ([]:List PN).toArray } }:PL)=s1 at kt
 have hla:IsL s1.heap a #[] 0:=by rw[<- hs1];exact hla
 have C1:Cond G env sc ctx A (fun b=>O b\/b=a) (fun U=>none) ρ s1:=C.grow wf kt (fun b q=>.inl q) (fun b q=>q.elim .inl fun z=>.inr (z▸hnone)) fun b q=>q.elim (fun q=>(C.ok.obs b q).elim fun o e=>⟨o,am kt b o e⟩) fun z=>⟨_,z▸hla⟩
 have hsa:¬aU env a:=fun q=>by refine x11 (C.ok.obs a (C.store_O q)) fun o e=>?_;rw[hnone]at e;cases e
 show PM _ A (QJ (.Name ey p1) env (.ref a)) _ _ s1
 refine Qx (eq (y:=.val (.ref a)) wf (hsto ir) C1 hr kr rfl fun s2 k2 C2=>?_)
 have hla2:IsL s2.heap a #[] 0:=k2.get _ _ (fun q=>hsa q.store) hla
 have hg1:(ρ.set ir (.val (.ref a))).getD ir .un=.val (.ref a):=by rw[dJ,if_pos ⟨rfl,lr⟩]
 refine PS (Qn (gQ C2 hr (by decide +kernel) hg1 ?_) rfl rfl)
 obtain⟨hh,g,d,t,os⟩:=s2
 refine HL hla2 ?_
 have k3:PY ⟨hh,g,d,t,os⟩ ⟨hh.push (cS "builtin_function_or_method" "list.append" a),g,d,t+1,os⟩:=bL _
 have hmn:hh.get? hh.objs.size=none:=QX (aN _)
 have C3:=C2.keeps wf k3
 have hom:¬(O hh.objs.size\/hh.objs.size=a):=fun q=>by refine x11 (C2.ok.obs _ q) fun o e=>?_;rw[hmn]at e;cases e
 show PM _ A (QJ (.Name fR p3) env (.ref hh.objs.size)) _ _ _
 refine Qx (eq (y:=.val (.ref hh.objs.size)) wf (hsto ia) C3 ha ka rfl fun s4 k4 C4=>?_)
 refine h a hh.objs.size (fun b=>O b\/b=a) s4 ⟨C4,.inr rfl,hsa,?_,?_,hom,k4.get _ _ (fun q=>hom (C3.fr _ q)) (PZ _ rfl),⟨#[],0,k4.get _ _ (fun q=>hsa q.store) (am k3 _ _ hla2),.nil⟩,?_,hnone⟩ (fun b q=>.inl q) fun b q=>q.elim .inl fun z=>.inr (z▸hnone)
 ·rw[dJ,if_neg fun q=>hne q.1.symm];exact hg1
 ·rw[dJ,if_pos ⟨rfl,by rw[Pm];exact la⟩]
 ·exact(((KM.of kt).trans (k2.mono fun b q=>.inl q.store)).trans (KM.of k3)).trans (k4.mono fun b q=>.inl q.store)
end
noncomputable def jW:Str:=ofString "pat"
noncomputable def eR:Str:=ofString "STAR"
noncomputable def uo:Str:=ofString "QUESTION_MARK"
noncomputable def jk:Str:=ofString "i"
noncomputable def zw:Str:=ofString "n"
noncomputable def zx:Str:=ofString "c"
noncomputable def gv:List Str:=[jW,eR,uo,ey,fR,jk,zw,zx]
noncomputable def cg:List (Option Str):=gv.map some
noncomputable def zy:IX:=.sub (.var 0) (.var 5)
noncomputable def HQ:IX:=.bin .Add (.var 5) (.lit (.int 1))
noncomputable def uq:IX:=.cmp .Lt (.var 5) (.var 6)
noncomputable def zz:IX:=.cmp .Eq (.var 5) (.var 6)
noncomputable def kZ(c:Nat):IX:=.cmp .Eq (.var 7) (.lit (.str ⟨#[c]⟩))
noncomputable def HR:IX:=.call 0 (.cons (.var 7) .nil)
noncomputable def ur:IX:=.cons (.lit (.int 0)) (.cons (.len (.var 0)) .nil)
noncomputable def zA(P:Nat->Pos)(v1:Expr)(v2:Expr)(t1:Expr)(u1:List PW)(t2:Expr)(g1:Expr)(t3:Expr)(u2:List PW)(g2:Expr):List PW:=[.Assign [.Name zx (P 0)] v1 (P 1),.Assign [.Name jk (P 2)] v2 (P 3),.If t1 u1 [.If t2 [.Expr (.Call (.Name fR (P 4)) [g1] [] (P 5)) (P 6)] [.If t3 u2 [.Expr (.Call (.Name fR (P 7)) [g2] [] (P 8)) (P 9)] (P 10)] (P 11)] (P 12)]
inductive isTBody(sc:Scope)(b:List PW):Prop where
 | mk (h1:b=zA Db rQ rR wk Dl wl wm wn Dm wo) (h2:chk [bZ] zy sc cg rQ=true) (h3:pY rQ=true) (h4:chk [bZ] HQ sc cg rR=true) (h5:pY rR=true) (h6:chk [bZ] (kZ 42) sc cg wk=true) (h7:chk [bZ] (kZ 63) sc cg wl=true) (h8:chk [bZ] (kZ 91) sc cg wn=true) (h9:chk [bZ] (.var 2) sc cg wm=true) (h10:chk [bZ] HR sc cg wo=true):isTBody sc b
noncomputable def zB(P:Nat->Pos)(ts:List Expr)(k1:Nat)(vs:List Expr)(k2:Nat)(t1:Expr)(body:List PW)(t2:Expr)(msg:Option Expr):List PW:=[.Assign [.Name ey (P 0)] (.List [] (P 1)) (P 2),.Assign [.Name fR (P 3)] (.Attribute (.Name ey (P 4)) um (P 5)) (P 6),.Assign [.Tuple ts k1 (P 7)] (.Tuple vs k2 (P 8)) (P 9),.While t1 body [] (P 10),.Assert t2 msg (P 11),.Return (some (.Name ey (P 12))) (P 13)]
inductive isTrans(sc:Scope)(b:List PW):Prop where
 | mk (h1:b=zB Da wp Dn rS Do rT wq rU Dp) (h2:dI sc cg [5,6] wp=true) (h3:cj [bZ] ur sc cg rS=true) (h4:jN rS=true) (h5:chk [bZ] uq sc cg rT=true) (h6:isTBody sc wq) (h7:chk [bZ] zz sc cg rU=true):isTrans sc b
noncomputable def gX:List Nat:=[43,45,46,63]
noncomputable def fS(q:Str)(c:Nat):Str:=if c=63 then q else jj c
noncomputable def gw(star:PN)(a m:PP)(q:Str)(cs:List Nat)(i:Nat)(c:SV):List SV:=[.dat (.str ⟨cs.toArray⟩),.val star,.dat (.str q),.val (.ref a),.val (.ref m),.dat (.int i),.dat (.int cs.length),c]
theorem ut(h:pY v=true):RZ v (some (.Name x p)) line env=pure false:=by
 cases v<;>first | rfl | cases h
theorem qf(i:Int):cy (.int i):=⟨rfl,by simp[PyData.depth]⟩
theorem zC:∀c∈[42,43,45,46,63,91],cy (.str ⟨#[c]⟩):=by
 intro c hc
 simp at hc
 rcases hc with rfl | rfl | rfl | rfl | rfl | rfl<;>exact⟨by decide +kernel,by decide +kernel⟩
section
variable{G:Glo}
structure TrInfo(G:Glo)(a:PP)(fd:Qm)(body:List PW):Prop where
 FI:FnInfo G a fd body [jW,eR,uo] gv
 bind:∀vs:List PN,vs.length=3->Q9 fd ⟨vs,[]⟩=pure ([jW,eR,uo].zip vs)
 bd:isTrans fd.scope body
theorem HS{s₁ s:PL}{O2:PP->Prop}{E:PN->PL->Prop}{Q:Flow->PL->Prop}{star:PN}{a m:PP}{q:Str}{cs:List Nat}{c:SV}{xs:List Str}{body:List PW}(wf:G.Wf)(hF:∀F∈[bZ],aK G F)(hsto:∀i,bu env cg i)(st:∀x∈gv,aT sc x=true)(Rd:aI 2 A)
 (hb:isTBody sc body) (hlen:cs.length<=100) (hcs:∀c∈cs,c∈gX) (hlt:i<cs.length) (I4:TI G env sc cg A 3 4 a m s₁ O2 (gw star a m q cs i c) xs s) (hxs:xs.length=i)
 (h:∀s',TI G env sc cg A 3 4 a m s₁ O2 (gw star a m q cs (i+1) (.dat (.str ⟨#[cs[i]]⟩))) (xs++[fS q cs[i]]) s'->Q .next s'):PM (PO G.prog G.w) A (QG body env) Q E s:=by
 have hctx:∀(i:Nat) (x:Str),gv[i]? = some x->cg[i]? = some (some x):=fun i x h=>by unfold cg;rw[bK,h];rfl
 obtain⟨hb2,d1,d2,d3,d4,d5,d6,d7,d8,d9⟩:=hb
 subst hb2
 unfold zA
 have hci:cs[i]∈gX:=hcs _ (PF hlt)
 generalize hcv:cs[i]=cv at hci h
 have hsub:den [bZ] zy (gw star a m q cs i c)=.str ⟨#[cv]⟩:=by
  show mj (.str ⟨cs.toArray⟩) (.int i)=_
  show QN ⟨#[cs.toArray.getD (ca (i:Int) (⟨cs.toArray⟩:Str).length) 0]⟩=_
  have h0:ca (i:Int) (⟨cs.toArray⟩:Str).length=i:=by unfold ca;rw[if_neg (by lia)];simp
  rw[h0]
  have:cs.toArray.getD i 0=cv:=by
   rw[<- hcv];simp[hlt]
  show QN ⟨#[cs.toArray.getD i 0]⟩=_
  rw[this]
 refine PS (I4.asg (Φ:=[bZ]) wf hF hsto (hctx 7 _ rfl) (st _ (by simp[gv])) d1 (ut d2) (Rd.le (by decide)) ⟨trivial,trivial,?_⟩ (by decide) (by decide) fun s5 I5=>?_)
 ·show fA (i:Int) (⟨cs.toArray⟩:Str).length
  have:(⟨cs.toArray⟩:Str).length=cs.length:=by show cs.toArray.size=_;simp
  rw[this]
  exact⟨by lia,by lia,by lia,by lia⟩
 rw[hsub]at I5
 have I5:TI G env sc cg A 3 4 a m s₁ O2 (gw star a m q cs i (.dat (.str ⟨#[cv]⟩))) xs s5:=I5
 refine PS (I5.asg (Φ:=[bZ]) wf hF hsto (hctx 5 _ rfl) (st _ (by simp[gv])) d3 (ut d4) (Rd.le (by decide)) ⟨trivial,trivial,trivial⟩ (by decide) (by decide) fun s6 I6=>?_)
 have I6:TI G env sc cg A 3 4 a m s₁ O2 (gw star a m q cs (i+1) (.dat (.str ⟨#[cv]⟩))) xs s6:=I6
 have hxl:xs.length<=1000:=by rw[hxs];lia
 have tst:∀(k:Nat) (tx:Expr) (s':PL) (Q:Bool->PL->Prop) (E:PN->PL->Prop),k∈[42,63,91]->chk [bZ] (kZ k) sc cg tx=true->TI G env sc cg A 3 4 a m s₁ O2 (gw star a m q cs (i+1) (.dat (.str ⟨#[cv]⟩))) xs s' ->
  (∀s'',TI G env sc cg A 3 4 a m s₁ O2 (gw star a m q cs (i+1) (.dat (.str ⟨#[cv]⟩))) xs s''->Q ((⟨#[cv]⟩:Str)==⟨#[k]⟩) s'')->PM (PO G.prog G.w) A (isTrue tx env (Qg tx env)) Q E s':=fun k tx s' Q E hk hc J h=>by
  refine PR ((snd wf hF (kZ k)).tst sc cg tx env _ O2 _ _ s' E hc J.C (Rd.le (by show(0:Nat)<=2;decide)) ⟨trivial,trivial,zC cv (by simp[gX]at hci;rcases hci with rfl | rfl | rfl | rfl<;>decide),zC k (by simp at hk;rcases hk with rfl | rfl | rfl<;>decide)⟩ rfl) (fun b s'' hb=>?_) fun U U x=>x
  refine al hb fun e0 kb=>?_;subst e0
  have he:aA (den [bZ] (kZ k) (gw star a m q cs (i+1) (.dat (.str ⟨#[cv]⟩))))=((⟨#[cv]⟩:Str)==⟨#[k]⟩):=by
   show Qi (.str ⟨#[cv]⟩) (.str ⟨#[k]⟩)=_
   simp[Qi]
  rw[he]
  exact h s'' (J.keeps wf kb)
 refine PS (Rk (tst 42 _ _ _ _ (by decide) d5 I6 fun s7 I7=>?_))
 have e42:((⟨#[cv]⟩:Str)==⟨#[42]⟩)=false:=by simp[gX]at hci;rcases hci with rfl | rfl | rfl | rfl<;>decide
 rw[e42,if_neg Pl]
 refine PS (Rk (tst 63 _ _ _ _ (by decide) d6 I7 fun s8 I8=>?_))
 by_cases h63:cv=63
 ·subst h63
  rw[show((⟨#[63]⟩:Str)==⟨#[63]⟩)=true from by decide,if_pos rfl]
  refine PS (I8.add (Φ:=[bZ]) wf hF (hctx 4 _ rfl) (by decide +kernel) d8 (Rd.le (by decide)) trivial rfl hxl fun s9 I9=>Qa (Qa (Qa (h s9 I9))))
 ·have e63:((⟨#[cv]⟩:Str)==⟨#[63]⟩)=false:=by simp[gX]at hci;rcases hci with rfl | rfl | rfl | rfl<;>first | decide | exact absurd rfl h63
  rw[e63,if_neg Pl]
  refine PS (Rk (tst 91 _ _ _ _ (by decide) d7 I8 fun s9 I9=>?_))
  have e91:((⟨#[cv]⟩:Str)==⟨#[91]⟩)=false:=by simp[gX]at hci;rcases hci with rfl | rfl | rfl | rfl<;>decide
  rw[e91,if_neg Pl]
  have hcs':cv∈qe:=by simp[gX]at hci;rcases hci with rfl | rfl | rfl | rfl<;>first | decide | exact absurd rfl h63
  have hpt:fS q cv=jj cv:=if_neg h63
  rw[hpt]at h
  refine PS (I9.add (Φ:=[bZ]) (y:=jj cv) wf hF (hctx 4 _ rfl) (by decide +kernel) d9 (Rd.le (by decide)) ⟨⟨trivial,trivial⟩,cv,hcs',rfl⟩ rfl hxl fun s10 I10=>Qa (Qa (Qa (Qa (h s10 I10)))))
theorem HT{fT:PP}{fd:Qm}{body:List PW}{E:PN->PL->Prop}{star:PN}{t u:Tok}{q:Str}{cs:List Nat}(wf:G.Wf)(hE:aK G bZ)(I:TrInfo G fT fd body)(R:aI 3 A)(ok:Okay A O s)(B:G.Base O s.heap)(hcs:∀c∈cs,c∈gX)(hlen:cs.length<=100) :
 PM (PO G.prog G.w) A (call (.ref fT) [.str ⟨cs.toArray⟩ t,star,.str q u]) (PV O s (.list (cs.map fun c=>.str (fS q c)))) E s:=by
 have hF:∀F∈[bZ],aK G F:=fun F h=>by rw[ai.mp h];exact hE
 refine Q5 (kL (s:=s) (O:=O) (vs:=[.str ⟨cs.toArray⟩ t,star,.str q u]) (ys:=[.dat (.str ⟨cs.toArray⟩),.val star,.dat (.str q)]) wf I.FI ok B (fun i v y hv hy=>?_) rfl rfl (R.fits (bx _)) (I.bind _ rfl) fun env O' s₁ k1 hO1 hO2 hSt hsto C E' Qf hret hnx=>?_)
 ·match i with
  | 0=>simp at hv hy;subst hv hy;exact .inl ⟨_,rfl,.str _ _⟩
  | 1=>simp at hv hy;subst hv hy;exact .inr rfl
  | 2=>simp at hv hy;subst hv hy;exact .inl ⟨_,rfl,.str _ _⟩
  | n+3=>simp at hv
 have Rd:aI 2 (A.deeper env):=(R.deeper (aN _))
 have bd:=I.bd
 obtain⟨hb,b1,b2,b3,b4,b5,b6⟩:=bd
 rw[hb]
 unfold zB
 have st:∀x∈gv,aT fd.scope x=true:=fun x hx=>by rcases I.FI.sc.var x hx with z | z<;>simp[aT,z]
 have hctx:∀(i:Nat) (x:Str),gv[i]? = some x->cg[i]? = some (some x):=fun i x h=>by unfold cg;rw[bK,h];rfl
 refine TI.start (ir:=3) (ia:=4) wf hsto C (hctx 3 _ rfl) (hctx 4 _ rfl) (st _ (by simp[gv])) (st _ (by simp[gv])) (by decide) (by show 3<8;decide) (by show 4<8;decide) fun a m O2 s2 I2 hO3 hO4=>?_
 have hρ:((cR gv [SV.dat (.str ⟨cs.toArray⟩),.val star,.dat (.str q)]).set 3 (.val (.ref a))).set 4 (.val (.ref m))=[.dat (.str ⟨cs.toArray⟩),.val star,.dat (.str q),.val (.ref a),.val (.ref m),.un,.un,.un]:=rfl
 rw[hρ]at I2
 refine PS (zv (Φ:=[bZ]) (es:=ur) wf hF b1 b2 b3 (by decide) rfl (by show 2<=16777216;decide) hsto I2.C (Rd.le (by decide)) ⟨trivial,⟨trivial,by show(⟨cs.toArray⟩:Str).length<=_;show cs.toArray.size<=_;simp;lia⟩,trivial⟩ fun s3 k3 C3=>?_)
 have hρ3:ew [.dat (.str ⟨cs.toArray⟩),.val star,.dat (.str q),.val (.ref a),.val (.ref m),.un,.un,.un] ([5,6].zip ((bE [bZ] ur [.dat (.str ⟨cs.toArray⟩),.val star,.dat (.str q),.val (.ref a),.val (.ref m),.un,.un,.un]).map SV.dat))=gw star a m q cs 0 .un:=by
  show[SV.dat (.str ⟨cs.toArray⟩),.val star,.dat (.str q),.val (.ref a),.val (.ref m),.dat (.int 0),.dat (.int (i4 (.str ⟨cs.toArray⟩))),.un]=_
  have:i4 (.str ⟨cs.toArray⟩)=cs.length:=by show cs.toArray.size=_;simp
  rw[this];rfl
 rw[hρ3]at C3
 have I3:=I2.frame k3 C3 rfl rfl
 -- the loop
 refine PS (wpAny_While (Rv (fun mm sk=>∃i c,i<=cs.length/\mm=cs.length - i/\TI G env fd.scope cg (A.deeper env) 3 4 a m s₁ O2 (gw star a m q cs i c) ((cs.take i).map (fS q)) sk) ?_ cs.length ⟨0,.un,bx _,rfl,I3⟩))
 rintro mm sk ⟨i,c,hi,rfl,Ik⟩
 refine PR ((snd wf hF uq).tst fd.scope cg rT env _ O2 _ _ sk _ b4 Ik.C (Rd.le (by decide)) ⟨trivial,trivial,trivial⟩ rfl) (fun tt s4 h4=>?_) fun U U x=>x
 refine al h4 fun e0 k4=>?_;subst e0
 have I4:=Ik.keeps wf k4
 have htr:aA (den [bZ] uq (gw star a m q cs i c))=decide ((i:Int)<(cs.length:Int)):=rfl
 rw[htr]
 by_cases hlt:i<cs.length
 ·rw[if_pos (by simpa using hlt)]
  refine HS wf hF hsto (fun x hx=>st x hx) Rd b5 hlen hcs hlt I4 (by rw[ag,List.length_take];lia) fun s' J=>?_
  refine⟨cs.length - (i+1),by lia,i+1,.dat (.str ⟨#[cs[i]]⟩),hlt,rfl,?_⟩
  have:cs.take (i+1)=cs.take i++[cs[i]]:=by rw[List.take_succ,br hlt];rfl
  rw[this,oG]
  exact J
 ·have hie:i=cs.length:=by lia
  subst hie
  rw[if_neg (by simp)]
  refine Qa ?_
  have hall:(cs.take cs.length).map (fS q)=cs.map (fS q):=by rw[wh]
  rw[hall]at I4
  -- assert i==n
  refine PS (wpAny_Assert_holds (PR ((snd wf hF zz).tst fd.scope cg rU env _ O2 _ _ s4 _ b6 I4.C (Rd.le (by decide)) ⟨trivial,trivial,qf _,qf _⟩ rfl) (fun tt s5 h5=>?_) fun U U x=>x))
  refine al h5 fun e0 k5=>?_;subst e0
  have I5:=I4.keeps wf k5
  refine⟨?_,?_⟩
  ·show Qi (.int (cs.length:Int)) (.int (cs.length:Int))=true
   simp[Qi]
  refine PS (QS (gm I5.C (hctx 3 _ rfl) (by decide +kernel) I5.hr ?_))
  refine x22 I5.hl fun arr n hl hs=>?_
  have hsa:∀b o,s.heap.get? b=some o->¬(aU env b\/b=a):=fun b o e z=>by
   rcases z with z | z
   ·rw[hSt b z]at e;cases e
   ·have:=iq k1 I5.na
    rw[z,this]at e;cases e
  obtain⟨h9,t9,rfl,p1,p2⟩:=I5.km
  refine x22 k1 fun h1 t1' e2 q1=>?_;subst e2
  refine hret _ _ ⟨⟨h9,t9,rfl,fun b o e=>p1 b o (hsa b o e) (q1 b o e)⟩,?_⟩
  have hn:=iq (s:=s) ⟨h1,t1',rfl,q1⟩ I5.na
  have:=Rep.list (O:=O) (fun z=>by refine x11 (ok.obs a z) fun o e=>?_;rw[hn]at e;cases e) hl hs.rep
  rw[hH]at this
  exact this
end
section
variable{G:Glo}{env:Env}{sc:Scope}{ctx:List (Option Str)}{A:P0}{ir ia:Nat}{a m:PP}{s₀ s s':PL}{O:PP->Prop}{ρ:List SV}{xs:List Str}{E:PN->PL->Prop}
theorem TI.free(wf:G.Wf)(I:TI G env sc ctx A ir ia a m s₀ O ρ xs s):Cond G env sc ctx A (fun b=>O b/\b≠a) (fun U=>none) (ρ.set ir (.dat (.list (xs.map .str)))) s:=by
 refine x22 I.hl fun arr n hl hs=>?_
 have C:=I.C
 obtain⟨val,F,V⟩:=C.vars
 refine⟨C.eo,C.co,by rw[Pm];exact C.len,⟨C.ok.hok,fun b hb q=>C.ok.hno b hb q.1,fun b q=>C.ok.obs b q.1⟩,⟨C.base.kp,fun b q=>C.base.off b q.1⟩,fun b q=>⟨C.fr b q,fun z=>I.sa (z▸q.store)⟩,fun x c e=>⟨C.fc x c e,fun z=>I.sa (.inr ⟨x,z▸e⟩)⟩,fun b i e=>(by cases e),val,F,fun j x hx=>?_⟩
 have hv:=V j x hx
 rw[dJ]
 split
 ·rename_i q
  refine al q fun e0 U=>?_;subst e0
  rw[I.hr]at hv
  exact⟨.ref a,hv,.list (fun q=>q.2 rfl) hl hs.rep⟩
 ·cases hy:ρ.getD j .un with
  | un=>trivial
  | val u=>rw[hy]at hv;exact hv
  | dat d =>
   rw[hy]at hv
   refine x12 hv fun u e r=>?_
   exact⟨u,e,r.weak fun b q=>q.1⟩
  | own d =>
   rw[hy]at hv
   obtain⟨_,_,_,_,_,e2,_⟩:=hv
   cases e2
  | sor g =>
   rw[hy]at hv
   refine x23 hv fun u S e r hS=>?_
   exact⟨u,S,e,r,hS⟩
end
noncomputable def uu:Str:=ofString "inp"
noncomputable def eS:List Str:=[uu,eR,ey,fR,jk,zw]
noncomputable def bB:List (Option Str):=eS.map some
noncomputable def jX:IX:=.sub (.var 0) (.var 4)
noncomputable def nk:IX:=.cmp .Lt (.var 4) (.var 5)
noncomputable def zD:IX:=.cmp .Eq (.var 4) (.var 5)
noncomputable def uv:IX:=.cons (.lit (.int 0)) (.cons (.len (.var 0)) .nil)
noncomputable def uw:IX:=.join (.lit (.str Q4)) (.var 2)
noncomputable def jl:Str:=ofString "(?s:"
noncomputable def nq:Str:=ofString ")\\Z"
noncomputable def HU(P:Nat->Pos)(t1:Expr)(l1:Expr)(g1:Expr):PW:=.While (.BoolOp .And [t1,.Compare l1 [.IsNot] [.Name eR (P 0)] (P 1)] (P 2)) [.Expr (.Call (.Name fR (P 3)) [g1] [] (P 4)) (P 5),.AugAssign (.Name jk (P 6)) .Add (.Constant (.int 1) 0 (P 7)) (P 8)] [] (P 9)
inductive isJWhile(sc:Scope)(b:PW):Prop where
 | mk (h1:b=HU Dd rX wx wy) (h2:chk [] nk sc bB rX=true) (h3:chk [] jX sc bB wx=true) (h4:chk [] jX sc bB wy=true):isJWhile sc b
noncomputable def HV(P:Nat->Pos)(t2:Expr)(msg:Option Expr)(v1:Expr):List PW:=[.Assert t2 msg (P 0),.Assign [.Name ey (P 1)] v1 (P 2),.Return (some (.JoinedStr [.Constant (.str jl) 0 (P 3),.FormattedValue (.Name ey (P 4)) (-1) none (P 5),.Constant (.str nq) 0 (P 6)] (P 7))) (P 8)]
inductive isJEnd(sc:Scope)(b:List PW):Prop where
 | mk (h1:b=HV oU rY Dt oY) (h2:chk [] zD sc bB rY=true) (h3:chk [] uw sc bB oY=true) (h4:pY oY=true):isJEnd sc b
noncomputable def zE(P:Nat->Pos)(ts:List Expr)(k1:Nat)(vs:List Expr)(k2:Nat)(w1:PW)(t2:Expr)(u1:List PW)(rest:List PW):List PW:=.Assign [.Name ey (P 0)] (.List [] (P 1)) (P 2)::.Assign [.Name fR (P 3)] (.Attribute (.Name ey (P 4)) um (P 5)) (P 6)::.Assign [.Tuple ts k1 (P 7)] (.Tuple vs k2 (P 8)) (P 9)::w1::.While t2 u1 [] (P 10)::rest
inductive isJoin(sc:Scope)(b:List PW):Prop where
 | mk (h1:b=zE Dc wt Dq rV Dr wu rW Ds wv) (h2:dI sc bB [4,5] wt=true) (h3:cj [] uv sc bB rV=true) (h4:jN rV=true) (h5:isJWhile sc wu) (h6:chk [] nk sc bB rW=true) (h7:isJEnd sc wv):isJoin sc b
noncomputable def eC(st a m:PP)(xs:List Str)(i:Nat):List SV:=[.dat (.list (xs.map .str)),.val (.ref st),.val (.ref a),.val (.ref m),.dat (.int i),.dat (.int xs.length)]
noncomputable def nr(xs:List Str):Str:=jl++Rg Q4 xs++nq
theorem HW(h:Q (.bool true) s):PM (PO prog w) A (compareOp .IsNot (.str x t) (.ref b)) Q E s:=by
 show PM _ A (do return .bool (!(<- isSame (.str x t) (.ref b)))) Q E s
 rw[show isSame (.str x t) (.ref b)=pure false from rfl]
 exact PK (PU (PU h))
section
variable{G:Glo}
structure JnInfo(G:Glo)(a:PP)(fd:Qm)(body:List PW):Prop where
 FI:FnInfo G a fd body [uu,eR] eS
 bind:∀vs:List PN,vs.length=2->Q9 fd ⟨vs,[]⟩=pure ([uu,eR].zip vs)
 bd:isJoin fd.scope body
theorem b0:∀F∈([]:List FEntry),aK G F:=fun F h=>nomatch h
theorem ux:∀ys:List Str,(∀x∈ys,x.length<=10)->(ys.map (·.length)).sum<=10 * ys.length
 | [],_=>bx _
 | y::r,h=>by
  have h1:=h y ak
  have h2:=ux r fun x hx=>h x (ar _ hx)
  simp only[a9,List.sum_cons,dU];lia
theorem zF(hx:∀x∈xs,x.length<=10)(hlen:xs.length<=100):(Rg Q4 xs).length<=2000:=by
 have h1:=ux xs hx
 show(Builtin.Str.glued Q4 xs).length<=2000
 rw[StrLaws.glued_eq_join]
 refine aa (StrLaws.join_length_le Q4 xs) ?_
 have h0:Str.empty.length=0:=rfl
 rw[h0];lia
theorem HX(h:y.length<=2000):(jl++y++nq).length<=Q7/\(jl++y).length<=Q7/\jl.length<=Q7:=by
 have h1:jl.length=4:=by decide +kernel
 have h2:nq.length=3:=by decide +kernel
 rw[strLen_append,strLen_append,QP,h1,h2]
 exact⟨by lia,by lia,by lia⟩
theorem qg(y:Str):Q4++y=y:=by show(⟨#[]++y.cps⟩:Str)=y;rw[Array.empty_append]
theorem jY{i:Nat}{x:Str}(h:eS[i]? = some x):bB[i]? = some (some x):=by unfold bB;rw[bK,h];rfl
theorem zG(hlt:i<xs.length):den [] jX (eC star a m xs i)=.str xs[i]:=by
 show(xs.map QN).getD (ca (i:Int) (xs.map QN).length) .none=_
 have h0:ca (i:Int) (xs.map QN).length=i:=by unfold ca;rw[if_neg (by lia)];simp
 rw[h0,aj,bK,br hlt];rfl
theorem zH(hl:xs.length<=100)(hlt:i<xs.length):pre [] jX false (eC star a m xs i):=by
 refine⟨trivial,trivial,?_⟩
 show fA (i:Int) (xs.map QN).length
 rw[ag]
 exact⟨by lia,by lia,by lia,by lia⟩
theorem HY{s₁ s:PL}{O2:PP->Prop}{E:PN->PL->Prop}{star a m:PP}{xs:List Str}{l1:Expr}{p1 p2:Pos}{i:Nat}(wf:G.Wf)(hsto:∀i,bu env bB i)(st:∀x∈eS,aT sc x=true)(Rd:aI 2 A)(hlen:xs.length<=100)(hlt:i<xs.length)(d2:chk [] jX sc bB l1=true)
 (I4:TI G env sc bB A 2 3 a m s₁ O2 (eC star a m xs i) (xs.take i) s) {Q:Bool->PL->Prop} (h:∀s',TI G env sc bB A 2 3 a m s₁ O2 (eC star a m xs i) (xs.take i) s'->Q true s') :
 PM (PO G.prog G.w) A (isTrue (.Compare l1 [.IsNot] [.Name eR p1] p2) env (Qg (.Compare l1 [.IsNot] [.Name eR p1] p2) env)) Q E s:=by
 refine QA (PR ((snd wf b0 jX).ev sc bB l1 false env _ O2 _ _ s _ d2 I4.C (Rd.le (by decide)) (zH hlen hlt)) (fun u s5 h5=>?_) fun U U x=>x) rfl
 have I5:=I4.keeps wf h5.1
 have ru:=h5.2.ff
 rw[zG hlt]at ru
 cases ru with
 | str _ t=>exact gm I5.C (jY (i:=1) rfl) (by decide +kernel) rfl (HW (Qp (h _ (I5.keeps wf (ay _ _)))))
theorem HZ{s₁ s:PL}{O2:PP->Prop}{E:PN->PL->Prop}{Q:Flow->PL->Prop}{star a m:PP}{xs:List Str}{g1:Expr}{p3 p4 p5 p6 p7 p8:Pos}{i:Nat}(wf:G.Wf)(hsto:∀i,bu env bB i)(st:∀x∈eS,aT sc x=true)(Rd:aI 2 A)(hlen:xs.length<=100)(hlt:i<xs.length)(d3:chk [] jX sc bB g1=true)
 (I5:TI G env sc bB A 2 3 a m s₁ O2 (eC star a m xs i) (xs.take i) s) (h:∀s',TI G env sc bB A 2 3 a m s₁ O2 (eC star a m xs (i+1)) (xs.take (i+1)) s'->Q .next s') :
 PM (PO G.prog G.w) A (QG [.Expr (.Call (.Name fR p3) [g1] [] p4) p5,.AugAssign (.Name jk p6) .Add (.Constant (.int 1) 0 p7) p8] env) Q E s:=by
 have hxl:(xs.take i).length<=1000:=by rw[List.length_take];lia
 refine PS (I5.add (Φ:=[]) (y:=xs[i]) wf b0 (jY (i:=3) rfl) (by decide +kernel) d3 (Rd.le (by decide)) (zH hlen hlt) (zG hlt) hxl fun s6 I6=>?_)
 obtain⟨val,F6,V6⟩:=I6.C.vars
 have h4i:=V6 4 jk (jY (i:=4) rfl)
 obtain⟨ui,hui,rui⟩:∃u,val jk=some u/\Rep O2 s6.heap u (.int i):=h4i
 cases rui with
 | int _ ti =>
 refine PS (wpAny_AugAssign_Name (gM I6.C.eo F6 hui (I6.C.co.kd 4 jk (jY (i:=4) rfl)) (Re (iadd_int ?_))))
 have k7:PY s6 { s6 with toks:=s6.toks+1+1 }:=ay _ _
 have I7:=I6.keeps wf k7
 refine eq wf (hsto 4) I7.C (jY (i:=4) rfl) (st _ (by simp[eS])) (y:=.dat (.int ((i:Int)+1))) ⟨_,rfl,.int _ _⟩ fun s8 k8 C8=>Qa (h s8 ?_)
 have I8:=I7.frame k8 C8 rfl rfl
 have:xs.take (i+1)=xs.take i++[xs[i]]:=by rw[List.take_succ,br hlt];rfl
 rw[this]
 exact I8
theorem H0{s₁ s:PL}{O2:PP->Prop}{E:PN->PL->Prop}{Q:Flow->PL->Prop}{star a m:PP}(wf:G.Wf)(hsto:∀i,bu env bB i)(st:∀x∈eS,aT sc x=true)(Rd:aI 2 A)(hlen:xs.length<=100)(hw:isJWhile sc w1)
 (I3:TI G env sc bB A 2 3 a m s₁ O2 (eC star a m xs 0) [] s) (h:∀s',TI G env sc bB A 2 3 a m s₁ O2 (eC star a m xs xs.length) xs s'->Q .next s'):PM (PO G.prog G.w) A (exec w1 env) Q E s:=by
 obtain⟨rfl,d1,d2,d3⟩:=hw
 refine wpAny_While (Rv (fun mm sk=>∃i,i<=xs.length/\mm=xs.length - i/\TI G env sc bB A 2 3 a m s₁ O2 (eC star a m xs i) (xs.take i) sk) ?_ xs.length ⟨0,bx _,rfl,I3⟩)
 rintro mm sk ⟨i,hi,rfl,Ik⟩
 refine wpAny_isTrue_BoolOp (wpAny_allTrue_And_cons ?_)
 refine PR ((snd wf b0 nk).tst sc bB rX env _ O2 _ _ sk _ d1 Ik.C (Rd.le (by decide)) ⟨trivial,trivial,trivial⟩ rfl) (fun tt s4 h4=>?_) fun U U x=>x
 refine al h4 fun e0 k4=>?_;subst e0
 have I4:=Ik.keeps wf k4
 rw[show aA (den [] nk (eC star a m xs i))=decide ((i:Int)<(xs.length:Int))from rfl]
 by_cases hlt:i<xs.length
 ·rw[if_pos (decide_eq_true (Int.ofNat_lt.mpr hlt))]
  refine wpAny_allTrue_And_cons (HY wf hsto st Rd hlen hlt d2 I4 fun s5 I5=>?_)
  rw[if_pos rfl]
  refine wpAny_allTrue_And_nil ?_
  rw[if_pos rfl]
  exact HZ wf hsto st Rd hlen hlt d3 I5 fun s' J=>⟨xs.length - (i+1),by omega,i+1,hlt,rfl,J⟩
 ·have hie:i=xs.length:=BN hi (c5.mp hlt)
  subst hie
  rw[if_neg (by simp),if_neg Pl]
  rw[wh]at I4
  exact Qa (h _ I4)
theorem H1{s₁ s:PL}{O2:PP->Prop}{E:PN->PL->Prop}{Q:Flow->PL->Prop}{star a m:PP}(wf:G.Wf)(hsto:∀i,bu env bB i)(st:∀x∈eS,aT sc x=true)(Rd:aI 2 A)(hlen:xs.length<=100)(hx:∀x∈xs,x.length<=10)(he:isJEnd sc rest)
 (I4:TI G env sc bB A 2 3 a m s₁ O2 (eC star a m xs xs.length) xs s) (h:∀t s',KM (fun b=>aU env b\/b=a) s₁ s'->Q (.ret (.str (nr xs) t)) s'):PM (PO G.prog G.w) A (QG rest env) Q E s:=by
 obtain⟨rfl,e1,e2,e3⟩:=he
 have hf:=HX (zF hx hlen)
 refine PS (wpAny_Assert_holds (PR ((snd wf b0 zD).tst sc bB rY env _ O2 _ _ s _ e1 I4.C (Rd.le (by decide)) ⟨trivial,trivial,qf _,qf _⟩ rfl) (fun tt s6 h6=>?_) fun U U x=>x))
 refine al h6 fun e0 k6=>?_;subst e0
 have I6:=I4.keeps wf k6
 refine⟨?_,?_⟩
 ·show Qi (.int (xs.length:Int)) (.int (xs.length:Int))=true
  simp[Qi]
 have C6:=I6.free wf
 have hmap:(xs.map QN).map cJ=xs:=by rw[hH];exact List.map_id xs
 have hjp:pu Q4 (xs.map .str):=by
  refine⟨fun d hd=>?_,?_⟩
  ·refine x12 (aD.mp hd) fun x U e2=>?_;subst e2;rfl
  ·rw[hmap]
   have:=ux xs hx
   show _+xs.length * 0<=_
   lia
 refine PS (Qn (PR ((snd wf b0 uw).ev sc bB oY false env _ _ _ _ s6 _ e2 C6 (Rd.le (by decide)) ⟨trivial,trivial,rfl,_,rfl,hjp⟩) (fun u s7 h7=>?_) fun U U x=>x) (ut (line:=(oU 2).line) e3) rfl)
 have C7:=C6.keeps wf h7.1
 have hj:den [] uw ((eC star a m xs xs.length).set 2 (.dat (.list (xs.map .str))))=.str (Rg Q4 xs):=by
  show QN (Rg Q4 ((xs.map QN).map cJ))=_
  rw[hmap]
 have r7:=h7.2.ff
 rw[hj]at r7
 show PM _ _ (QJ (.Name ey (oU 1)) env u) _ _ s7
 refine jH wf (hsto 2) C7 (jY (i:=2) rfl) (st _ (by simp[eS])) r7 fun s8 k8 C8=>?_
 refine PS (QS (wpAny_JoinedStr ?_))
 have hg2:((((eC star a m xs xs.length).set 2 (.dat (.list (xs.map .str)))).set 2 (.dat (.str (Rg Q4 xs)))).getD 2 .un)=.dat (.str (Rg Q4 xs)):=rfl
 have km8:KM (fun b=>aU env b\/b=a) s₁ s8:=(I6.km.trans (KM.of h7.1)).trans (k8.mono fun b q=>.inl q.store)
 refine RM ⟨_,_,rfl,by rw[qg];exact hf.2.2,?_⟩
 have C9:=C8.keeps wf (ay s8 (s8.toks+1))
 refine wpAny_FormattedValue_plain (dN C9 (jY (i:=2) rfl) (by decide +kernel) hg2 fun w rw'=>?_)
 cases rw' with
 | str _ tw =>
 have fin:∀(s':PL) (tk:Tok),PY s8 s'->∃y t,(Value.str (Rg Q4 xs) tk)=.str y t/\(Q4++jl++y).length<=Q7/\Joins (PO G.prog G.w) A E [Qg (.Constant (.str nq) 0 (oU 6)) env] (Q4++jl++y) (fun out s₁=>out.length<=Q7/\Q (Flow.ret (.str out s₁.toks)) { s₁ with toks:=s₁.toks+1 }) s':=fun s' tk kk=>by
  refine⟨_,_,rfl,by rw[qg];exact hf.2.1,?_⟩
  refine RM ⟨_,_,rfl,by rw[qg];exact hf.1,?_⟩
  rw[qg]
  exact⟨hf.1,h _ _ (km8.trans (KM.of (aX kk (ay s' (s'.toks+1+1)))))⟩
 exact wpAny_formatField_str (fin _ _ (ay s8 (s8.toks+1))) (fin _ _ (ay s8 (s8.toks+1+1))) (aa (zF hx hlen) (by rw[QP];decide))
theorem H2{E:PN->PL->Prop}{star:PP}(wf:G.Wf)(I:JnInfo G fJ fd body)(R:aI 3 A)(ok:Okay A O s)(B:G.Base O s.heap)(rv:Rep O s.heap v (.list (xs.map .str)))(hlen:xs.length<=100)(hx:∀x∈xs,x.length<=10) :
 PM (PO G.prog G.w) A (call (.ref fJ) [v,.ref star]) (PV O s (.str (nr xs))) E s:=by
 have hF:∀F∈([]:List FEntry),aK G F:=fun F h=>nomatch h
 refine Q5 (kL (s:=s) (O:=O) (vs:=[v,.ref star]) (ys:=[.dat (.list (xs.map .str)),.val (.ref star)]) wf I.FI ok B (fun i u y hv hy=>?_) rfl rfl (R.fits (bx _)) (I.bind _ rfl) fun env O' s₁ k1 hO1 hO2 hSt hsto C E' Qf hret hnx=>?_)
 ·match i with
  | 0=>simp at hv hy;subst hv hy;exact .inl ⟨_,rfl,rv⟩
  | 1=>simp at hv hy;subst hv hy;exact .inr rfl
  | n+2=>simp at hv
 have Rd:aI 2 (A.deeper env):=(R.deeper (aN _))
 have bd:=I.bd
 obtain⟨hb,b1,b2,b3,hw,b5,he⟩:=bd
 rw[hb]
 unfold zE
 have st:∀x∈eS,aT fd.scope x=true:=fun x hx=>by rcases I.FI.sc.var x hx with z | z<;>simp[aT,z]
 have hctx:∀(i:Nat) (x:Str),eS[i]? = some x->bB[i]? = some (some x):=fun i x h=>by unfold bB;rw[bK,h];rfl
 refine TI.start (ir:=2) (ia:=3) wf hsto C (hctx 2 _ rfl) (hctx 3 _ rfl) (st _ (by simp[eS])) (st _ (by simp[eS])) (by decide) (by show 2<6;decide) (by show 3<6;decide) fun a m O2 s2 I2 hO3 hO4=>?_
 have hρ:((cR eS [SV.dat (.list (xs.map .str)),.val (.ref star)]).set 2 (.val (.ref a))).set 3 (.val (.ref m))=[.dat (.list (xs.map .str)),.val (.ref star),.val (.ref a),.val (.ref m),.un,.un]:=rfl
 rw[hρ]at I2
 refine PS (zv (Φ:=[]) (es:=uv) wf hF b1 b2 b3 (by decide) rfl (by show 2<=16777216;decide) hsto I2.C (Rd.le (by decide)) ⟨trivial,⟨trivial,by show(xs.map QN).length<=_;rw[ag];lia⟩,trivial⟩ fun s3 k3 C3=>?_)
 have hρ3:ew [.dat (.list (xs.map .str)),.val (.ref star),.val (.ref a),.val (.ref m),.un,.un] ([4,5].zip ((bE [] uv [.dat (.list (xs.map .str)),.val (.ref star),.val (.ref a),.val (.ref m),.un,.un]).map SV.dat))=eC star a m xs 0:=by
  show[SV.dat (.list (xs.map .str)),.val (.ref star),.val (.ref a),.val (.ref m),.dat (.int 0),.dat (.int ((xs.map QN).length:Nat))]=_
  rw[ag];rfl
 rw[hρ3]at C3
 have I3:=I2.frame k3 C3 rfl rfl
 refine PS (H0 wf hsto st Rd hlen hw I3 fun s4 I4=>?_)
 -- the second loop ends at once
 refine PS (wpAny_While (Rv (fun U sk=>TI G env fd.scope bB (A.deeper env) 2 3 a m s₁ O2 (eC star a m xs xs.length) xs sk) (fun mm sk Ik=>?_) 0 I4))
 refine PR ((snd wf hF nk).tst fd.scope bB rW env _ O2 _ _ sk _ b5 Ik.C (Rd.le (by decide)) ⟨trivial,trivial,trivial⟩ rfl) (fun tt s5 h5=>?_) fun U U x=>x
 refine al h5 fun e0 k5=>?_;subst e0
 have I5:=Ik.keeps wf k5
 rw[if_neg (by show ¬(decide ((xs.length:Int)<(xs.length:Int))=true);simp)]
 refine Qa ?_
 refine H1 wf hsto st Rd hlen hx he I5 fun tk s' km=>hret _ _ ⟨?_,.str _ _⟩
 have hna:=I5.na
 obtain⟨h9,t9,rfl,p1,p2⟩:=km
 have hsa:∀b o,s.heap.get? b=some o->¬(aU env b\/b=a):=fun b o e z=>by
  rcases z with z | z
  ·rw[hSt b z]at e;cases e
  ·have:=iq k1 hna
   rw[z,this]at e;cases e
 refine x22 k1 fun h1 t1' e2 q1=>?_;subst e2
 exact⟨h9,t9,rfl,fun b o e=>p1 b o (hsa b o e) (q1 b o e)⟩
end
namespace B
theorem zI:mroOf (.type "object")=pure [.type "object"]:=by rw[mroOf_type];kernel_rfl
theorem H3:Rl (.type "object") "__new__" = pure (some (.builtin "object.__new__")):=by rw[QL,Qv];kernel_rfl
theorem H4:Slot "object" "__init__" "object.__init__" :=
 .of (owner:= "object") (n:= "__init__") (by rw[QL,Qv];kernel_rfl) (by decide +kernel) (by decide +kernel) (by decide +kernel)
  (by first | exact .inl (by decide +kernel) | exact .inr (by decide +kernel)) (by rw[QI];kernel_rfl)
theorem called_object:TypeCalled "object" "object.__new__" "object.__init__" :=
 ⟨by decide +kernel,by decide +kernel,⟨_,_,zI⟩,madeBy_type zI H3 (by decide +kernel),by decide +kernel,by rw[QI];kernel_rfl,H4⟩
theorem typeCall_object_0:checkTypeCall "object" ⟨[],[]⟩=pure ():=by kernel_rfl
theorem newCall_object_0:checkBuiltinCall "object.__new__" ⟨[.type "object"],[]⟩=pure ():=by kernel_rfl
theorem args_object_init_1(a:PN):argsOk "object.__init__" ⟨[a],[]⟩:=by unfold argsOk;kernel_rfl
theorem entry_object_new:entryFor table "object.__new__" = some QQ.«object.__new__»:=entryFor_of_tree (by kernel_rfl)
theorem hasDict_object:typeHasDict (.type "object")=false:=by decide +kernel
end B
theorem H5:Meets (QQ.«object.__new__» ⟨[.type "object"],[]⟩) (fun U R s=>R (.ok (.ret (.ref s.heap.objs.size))) { s with heap:=s.heap.push { cls:=.type "object",data:=.plain } }) :=
 .of_wp fun prog w A R s h=>by
  obtain⟨hp,g,d,tk,os⟩:=s
  have f1:=B.called_object.made
  have f2:=B.hasDict_object
  unfold QQ.«object.__new__»
  repeat (any_goals (first | assumption | wp_step))
  exact⟨_,rfl,h⟩
section
variable{prog:Qs}{w:Qq}{A:P0}{E:PN->PL->Prop}{s:PL}
theorem H6(h:Q (.ref s.heap.objs.size) { s with heap:=s.heap.push { cls:=.type "object",data:=.plain } }):PM (PO prog w) A (call (.type "object") []) Q E s:=by
 refine callType_meets (Q₁:=fun obj s₁=>obj=.ref s.heap.objs.size/\s₁={ s with heap:=s.heap.push { cls:=.type "object",data:=.plain } }) B.called_object B.typeCall_object_0 B.newCall_object_0 B.entry_object_new F.entry_object_init H5 ⟨rfl,rfl⟩ fun obj s₁ h₁=>?_
 refine al h₁ fun e0 e1=>?_;subst e0;subst e1
 refine⟨⟨_,PZ _ rfl,rfl⟩,B.args_object_init_1 _,(fun U R s=>R (.ok (.ret .none)) s),fun prog w A R s hs=>PU hs,rfl,h⟩
end
noncomputable def zJ:Str:=ofString "translate"
noncomputable def qh:Str:=ofString "parts"
noncomputable def uy:Str:=ofString "object"
noncomputable def uz:Str:=ofString "_translate"
noncomputable def uA:Str:=ofString "_join_translated_parts"
noncomputable def gx:List Str:=[jW,eR,qh]
noncomputable def qi:List (Option Str):=gx.map some
noncomputable def lc:Str:=⟨#[46]⟩
noncomputable def zK(P:Nat->Pos):List PW:=[.Assign [.Name eR (P 0)] (.Call (.Name uy (P 1)) [] [] (P 2)) (P 3),.Assign [.Name qh (P 4)] (.Call (.Name uz (P 5)) [.Name jW (P 6),.Name eR (P 7),.Constant (.str lc) 0 (P 8)] [] (P 9)) (P 10),.Return (some (.Call (.Name uA (P 11)) [.Name qh (P 12),.Name eR (P 13)] [] (P 14))) (P 15)]
inductive isTr(sc:Scope)(b:List PW):Prop where
 | mk (h1:b=zK rM) (h2:bU sc uy=true) (h3:bU sc uz=true) (h4:bU sc uA=true):isTr sc b
noncomputable def eU:FEntry:=⟨zJ,5,fun ds=>∃cs:List Nat,ds=[.str ⟨cs.toArray⟩]/\(∀c∈cs,c∈gX)/\cs.length<=100,fun ds=>.str (nr ((cJ (ds.getD 0 .none)).cps.toList.map (fS lc)))⟩
section
variable{G:Glo}
structure TInfoF(G:Glo)(fN fT fJ:PP)(fdN fdT fdJ:Qm)(bN bT bJ:List PW):Prop where
 nm:G.mg zJ=some (.ref fN)
 FI:FnInfo G fN fdN bN [jW] gx
 bind:∀vs:List PN,vs.length=1->Q9 fdN ⟨vs,[]⟩=pure ([jW].zip vs)
 bd:isTr fdN.scope bN
 gT:G.mg uz=some (.ref fT)
 gJ:G.mg uA=some (.ref fJ)
 T:TrInfo G fT fdT bT
 J:JnInfo G fJ fdJ bJ
theorem H7{fN fT fJ:PP}{fdN fdT fdJ:Qm}{bN bT bJ:List PW}(wf:G.Wf)(hE:aK G bZ)(I:TInfoF G fN fT fJ fdN fdT fdJ bN bT bJ):aK G eU:=by
 refine x12 I.FI.at_ fun o e2 hd=>?_
 refine⟨fN,o,fdN,I.nm,e2,hd,fun A s O vs ds E R ok B r hp=>?_⟩
 refine x13 hp fun cs e1 hcs hlen=>?_;subst e1
 have hvl:vs.length=1:=by rw[r.length];rfl
 refine Q5 (kL (s:=s) (O:=O) (ys:=[.dat (.str ⟨cs.toArray⟩)]) wf I.FI ok B (pO r) hvl rfl (R.fits (bx _)) (I.bind vs hvl) fun env O' s₁ k1 hO1 hO2 hSt hsto C E' Qf hret hnx=>?_)
 have Rd:aI 3 (A.deeper env):=R.deeper (by decide)
 have bd:=I.bd
 obtain⟨hb,b1,b2,b3⟩:=bd
 rw[hb]
 unfold zK
 have st:∀x∈gx,aT fdN.scope x=true:=fun x hx=>by rcases I.FI.sc.var x hx with z | z<;>simp[aT,z]
 have hctx:∀(i:Nat) (x:Str),gx[i]? = some x->qi[i]? = some (some x):=fun i x h=>by unfold qi;rw[bK,h];rfl
 -- STAR=object()
 refine PS (Qn (dY (fun a ha=>nomatch ha) (gN wf C.eo C.base b1 (v:=.type "object") (by simp[cb,uy]) (RE (gg _) (ik (as:=[]) (env:=env) (Qc (H6 ?_)))))) rfl rfl)
 have k2:PY s₁ { s₁ with heap:=s₁.heap.push { cls:=.type "object",data:=.plain } }:=bL _
 have C2:=C.keeps wf k2
 show PM _ _ (QJ (.Name eR (rM 0)) env (.ref s₁.heap.objs.size)) _ _ _
 refine Qx (eq (y:=.val (.ref s₁.heap.objs.size)) wf (hsto 1) C2 (hctx 1 _ rfl) (st _ (by simp[gx])) rfl fun s3 k3 C3=>?_)
 generalize s₁.heap.objs.size=star at C3
 have C3:Cond G env fdN.scope qi (A.deeper env) O' (fun U=>none) [.dat (.str ⟨cs.toArray⟩),.val (.ref star),.un] s3:=C3
 -- parts=_translate(dS,STAR,'.')
 have dbg:∀x∈gx,(x==ofString "__debug__")=false:=by decide +kernel
 refine x12 I.T.FI.at_ fun oT eT hdT=>?_
 refine x12 I.J.FI.at_ fun oJ eJ hdJ=>?_
 refine PS (Qn (dY (fun a ha=>by simp only[ae,cu,or_false]at ha;rcases ha with rfl | rfl | rfl<;>rfl) (ii wf C3.eo C3.base b2 (by decide +kernel) I.gT ?_)) rfl rfl)
 refine RF (o:=oT) (fd:=fdT) (ik (Qh (dN C3 (hctx 0 _ rfl) (dbg _ (by simp[gx])) rfl fun v rv=>Qh (gm C3 (hctx 1 _ rfl) (dbg _ (by simp[gx])) rfl (Qh (RM (Qc ?_)))))))
 cases rv with
 | str _ t =>
 have C4:=C3.keeps wf (ay s3 (s3.toks+1))
 refine⟨⟨C4.base.kp fT oT (wf.K fT oT eT),hdT⟩,?_⟩
 refine PR (HT wf hE I.T Rd C4.ok C4.base hcs hlen) (fun v s5 h5=>?_) fun U U e=>e
 have C5:=C4.keeps wf h5.1
 show PM _ _ (QJ (.Name qh (rM 4)) env v) _ _ s5
 refine jH wf (hsto 2) C5 (hctx 2 _ rfl) (st _ (by simp[gx])) h5.2 fun s6 k6 C6=>?_
 have C6:Cond G env fdN.scope qi (A.deeper env) O' (fun U=>none) [.dat (.str ⟨cs.toArray⟩),.val (.ref star),.dat (.list (cs.map fun c=>.str (fS lc c)))] s6:=C6
 -- the rest
 refine PS (QS (dY (fun a ha=>by simp only[ae,cu,or_false]at ha;rcases ha with rfl | rfl<;>rfl) (ii wf C6.eo C6.base b3 (by decide +kernel) I.gJ ?_)))
 refine RF (o:=oJ) (fd:=fdJ) (ik (Qh (dN C6 (hctx 2 _ rfl) (dbg _ (by simp[gx])) rfl fun v rv=>Qh (gm C6 (hctx 1 _ rfl) (dbg _ (by simp[gx])) rfl (Qc ?_)))))
 refine⟨⟨C6.base.kp fJ oJ (wf.K fJ oJ eJ),hdJ⟩,?_⟩
 have rv':Rep O' s6.heap v (.list ((cs.map (fS lc)).map .str)):=by rw[hH];exact rv
 refine PR (H2 wf I.J Rd C6.ok C6.base rv' (by rw[ag];exact hlen) (fun x hx=>?_)) (fun v s7 h7=>?_) fun U U e=>e
 ·refine x12 (aD.mp hx) fun c U e2=>?_;subst e2
  unfold fS
  split
  ·decide
  ·show 2<=10;decide
 ·have km:KM (aU env) s₁ s7:=(((((KM.of k2).trans (k3.mono fun b q=>q.store)).trans (KM.of (ay s3 (s3.toks+1)))).trans (KM.of h5.1)).trans (k6.mono fun b q=>q.store)).trans (KM.of h7.1)
  refine hret _ _ ⟨?_,?_⟩
  ·obtain⟨h9,t9,rfl,p1,p2⟩:=km
   refine x22 k1 fun h1 t1' e2 q1=>?_;subst e2
   exact⟨h9,t9,rfl,fun b o e=>p1 b o (fun z=>by rw[hSt b z]at e;cases e) (q1 b o e)⟩
  ·have hval:eU.val [.str ⟨cs.toArray⟩]=.str (nr (cs.map (fS lc))):=by
    show QN (nr (cs.toArray.toList.map (fS lc)))=_
    simp
   rw[hval]
   exact h7.2.weak hO1
end
end
section

inductive Topo(g:Gr):List Int->Prop where
 | nil:Topo g []
 | snoc {L:List Int} {k:Int} (t:Topo g L) (h:∀n∈aJ g k,n∈L):Topo g (L++[k])
noncomputable def gY(g:Gr)(L:List Int):List (Int × Nat)->Int->Prop
 | [],_=>True
 | p::r,k=>∃i,p.2=i+1/\(aJ g p.1)[i]? = some k/\(∀j,j<i->∀n,(aJ g p.1)[j]? = some n->n∈L)/\gY g L r p.1
noncomputable def qj(g:Gr)(L:List Int):List (Int × Nat)->Prop
 | []=>True
 | p::r=>(∀j,j<p.2->∀n,(aJ g p.1)[j]? = some n->n∈L)/\gY g L r p.1
section
variable{g:Gr}
theorem gY.mono{L L':List Int}(h:∀x∈L,x∈L'):∀ {st:List (Int × Nat)} {k:Int},gY g L st k->gY g L' st k:=fun{st}=>by
 induction st with
 | nil=>exact fun _=>trivial
 | cons p r ih=>exact fun z=>z.elim fun i z=>⟨i,z.1,z.2.1,fun j hj n hn=>h n (z.2.2.1 j hj n hn),ih z.2.2.2⟩
theorem gY.rdy{L:List Int}{st:List (Int × Nat)}{k:Int}(h:gY g L st k)(hk:k∈L):qj g L st:=by
 cases st with
 | nil=>trivial
 | cons p r =>
  refine x14 h fun i e h1 h2 h3=>?_
  refine⟨fun j hj n hn=>?_,h3⟩
  by_cases q:j=i
  ·rw[q,h1]at hn;exact QH hn▸hk
  ·exact h2 j (Nat.lt_of_le_of_ne (oz (oN hj (cH e))) q) n hn
theorem zL:∀(st:List (Int × Nat)) (L:List Int) (st':List (Int × Nat)) (k':Int),Topo g L->qj g L st->cV g st=(st',some k') ->
 ∃L',Topo g L'/\gY g L' st' k'/\(∀x,x∈L\/x∈st.map (·.1)↔x∈L'\/x∈st'.map (·.1))/\∃p,k'∈aJ g p
 | [],_,_,_,_,_,h=>nomatch h
 | (p,i)::r,L,st',k',t,hr,h=>by
  rw[ji]at h
  cases hc:(aJ g p)[i]? with
  | some n =>
   rw[hc]at h
   cases h
   exact⟨L,t,⟨i,rfl,hc,hr.1,hr.2⟩,fun x=>Iff.rfl,p,aG hc⟩
  | none =>
   rw[hc]at h
   have hall:∀n∈aJ g p,n∈L:=fun n hn=>by
    refine x11 (Ac.mp hn) fun j hj=>?_
    have:j<i:=oN (fU.mp hj).1 (CF.mp hc)
    exact hr.1 j this n hj
   have t2:=t.snoc hall
   refine x14 (zL r (L++[p]) st' k' t2 ((hr.2.mono fun x hx=>c8 _ hx).rdy (by simp)) h) fun L' a b c d=>?_
   refine⟨L',a,b,fun x=>?_,d⟩
   rw[<- c x]
   simp only[a9,ae,au,cu,or_false]
   constructor
   ·rintro (h | h | h)
    ·exact .inl (.inl h)
    ·exact .inl (.inr h)
    ·exact .inr h
   ·rintro ((h | h) | h)
    ·exact .inl h
    ·exact .inr (.inl h)
    ·exact .inr (.inr h)
theorem zM:∀(st:List (Int × Nat)) (L:List Int),Topo g L->qj g L st->(cV g st).2=none->∃L',Topo g L'/\∀x,x∈L\/x∈st.map (·.1)↔x∈L'
 | [],L,t,_,_=>⟨L,t,fun x=>by simp⟩
 | (p,i)::r,L,t,hr,h=>by
  rw[ji]at h
  cases hc:(aJ g p)[i]? with
  | some n=>rw[hc]at h;cases h
  | none =>
   rw[hc]at h
   have hall:∀n∈aJ g p,n∈L:=fun n hn=>by
    refine x11 (Ac.mp hn) fun j hj=>?_
    have:j<i:=oN (fU.mp hj).1 (CF.mp hc)
    exact hr.1 j this n hj
   refine x12 (zM r (L++[p]) (t.snoc hall) ((hr.2.mono fun x hx=>c8 _ hx).rdy (by simp)) h) fun L' a c=>?_
   refine⟨L',a,fun x=>?_⟩
   rw[<- c x]
   simp only[a9,ae,au,cu,or_false]
   constructor
   ·rintro (h | h | h)
    ·exact .inl (.inl h)
    ·exact .inl (.inr h)
    ·exact .inr h
   ·rintro ((h | h) | h)
    ·exact .inl h
    ·exact .inr (.inl h)
    ·exact .inr (.inr h)
noncomputable def zN(g:Gr)(C:List Int):Prop:=C≠[]/\∀z∈C,∃y∈C,z∈aJ g y
theorem H8{L:List Int}{x:Int}:∀(st:List (Int × Nat)) (k:Int),gY g L st k->x∈st.map (·.1)->∃C:List Int,x∈C/\(∃y∈C,k∈aJ g y)/\∀z∈C,z=x\/∃y∈C,z∈aJ g y:=fun st=>by
 induction st with
 | nil=>exact fun _ _ hx=>nomatch hx
 | cons p r ih =>
  intro k z hx
  refine z.elim fun i z=>?_
  have h1:=z.2.1
  have h3:=z.2.2.2
  have hk:=aG h1
  by_cases q:x=p.1
  ·exact⟨[p.1],by simp[q],⟨p.1,by simp,hk⟩,fun z hz=>.inl (by simp at hz;rw[hz,q])⟩
  ·have hx':x∈r.map (·.1):=by simpa[q]using hx
   refine x13 (ih p.1 h3 hx') fun C c1 z2 c4=>?_;refine x12 z2 fun y c2 c3=>?_
   refine⟨p.1::C,by simp[c1],⟨p.1,by simp,hk⟩,fun z hz=>?_⟩
   rcases ae.mp hz with rfl | hz
   ·exact .inr ⟨y,by simp[c2],c3⟩
   ·exact(c4 z hz).imp id fun ζ=>ζ.elim fun y ζ=>ζ.elim fun a b=>⟨y,by simp[a],b⟩
theorem zO{st:List (Int × Nat)}{x:Int}:x∈dA st↔x∈st.map (·.1):=by simp[dA]
theorem zP:∀(n:Nat) (k:Int) (st:List (Int × Nat)) (sn L:List Int) (r:List Int ⊕ List Int),Topo g L->gY g L st k->(∀x,x∈sn↔x∈L\/x∈st.map (·.1))->ex g n k st sn=some r ->
 (∃c C,r=.inl c/\zN g C)\/∃sn' L',r=.inr sn'/\Topo g L'/\(∀x,x∈sn'↔x∈L')/\k∈L'/\∀x∈sn,x∈L'
 | 0,_,_,_,_,_,_,_,_,h=>nomatch h
 | n+1,k,st,sn,L,r,t,hs,he,h=>by
  rw[mW]at h
  by_cases hq:k∈sn/\k∈dA st
  ·rw[if_pos hq]at h
   cases h
   refine x13 (H8 st k hs (zO.mp hq.2)) fun C c1 c2 c3=>?_
   exact .inl ⟨_,C,rfl,⟨fun e=>(by rw[e]at c1;cases c1),fun z hz=>(c3 z hz).elim (fun q=>q▸c2) id⟩⟩
  ·rw[if_neg hq]at h
   have hst:qj g L (if k∈sn then st else(k,0)::st)/\∀x,x∈(if k∈sn then sn else sn++[k])↔x∈L\/x∈(if k∈sn then st else(k,0)::st).map (·.1):=by
    by_cases hk:k∈sn
    ·rw[if_pos hk,if_pos hk]
     exact⟨hs.rdy (((he k).mp hk).resolve_right fun q=>hq ⟨hk,zO.mpr q⟩),he⟩
    ·rw[if_neg hk,if_neg hk]
     refine⟨⟨fun j hj=>absurd hj (Nat.not_lt_zero _),hs⟩,fun x=>?_⟩
     rw[au,he x,a9,ae,ae]
     simp only[cu,or_false]
     constructor
     ·rintro ((h | h) | h)
      ·exact .inl h
      ·exact .inr (.inr h)
      ·exact .inr (.inl h)
     ·rintro (h | h | h)
      ·exact .inl (.inl h)
      ·exact .inr h
      ·exact .inl (.inr h)
   have hsub:∀x,x=k\/x∈sn->x∈(if k∈sn then sn else sn++[k]):=fun x hx=>by
    by_cases hk:k∈sn
    ·rw[if_pos hk];exact hx.elim (fun q=>q▸hk) id
    ·rw[if_neg hk];exact hx.elim (fun q=>by simp[q]) fun q=>c8 _ q
   generalize (if k∈sn then st else(k,0)::st)=st1 at h hst
   generalize (if k∈sn then sn else sn++[k])=sn1 at h hst hsub
   generalize ha:cV g st1=a at h
   obtain⟨st',o⟩:=a
   cases o with
   | none =>
    cases h
    refine x12 (zM st1 L t hst.1 (by rw[ha])) fun L' t' e'=>?_
    have e2:∀x,x∈sn1↔x∈L':=fun x=>(hst.2 x).trans (e' x)
    exact .inr ⟨sn1,L',rfl,t',e2,(e2 k).mp (hsub k (.inl rfl)),fun x hx=>(e2 x).mp (hsub x (.inr hx))⟩
   | some k' =>
    refine x14 (zL st1 L st' k' t hst.1 ha) fun L' t' hs' e' U=>?_
    rcases zP n k' st' sn1 L' r t' hs' (fun x=>(hst.2 x).trans (e' x)) h with q | ⟨sn',L'',r1,r2,r3,r4,r5⟩
    ·exact .inl q
    ·exact .inr ⟨sn',L'',r1,r2,r3,r5 k (hsub k (.inl rfl)),fun x hx=>r5 x (hsub x (.inr hx))⟩
theorem qk(N:Nat):∀(ks sn L:List Int) (r:Option (List Int)),Topo g L->(∀x,x∈sn↔x∈L)->fQ g N ks sn=some r ->
 (r≠none/\∃C,zN g C)\/r=none/\∃L',Topo g L'/\(∀x∈ks,x∈L')/\∀x∈sn,x∈L'
 | [],sn,L,r,t,he,h=>by cases h;exact .inr ⟨rfl,L,t,fun x hx=>(nomatch hx),fun x hx=>(he x).mp hx⟩
 | k::ks,sn,L,r,t,he,h=>by
  rw[mX]at h
  by_cases hk:k∈sn
  ·rw[if_pos hk]at h
   refine(qk N ks sn L r t he h).imp id fun ζ=>ζ.elim fun a ζ=>ζ.elim fun L' ζ=>ζ.elim fun b ζ=>ζ.elim fun c d=>⟨a,L',b,fun x hx=>?_,d⟩
   exact(ae.mp hx).elim (fun q=>q▸d k hk) (c x)
  ·rw[if_neg hk]at h
   cases hw:ex g N k [] sn with
   | none=>rw[hw]at h;cases h
   | some w =>
    rw[hw]at h
    rcases zP N k [] sn L w t trivial (fun x=>by rw[he x];simp) hw with⟨c,C,rfl,hC⟩ | ⟨sn',L',rfl,r2,r3,r4,r5⟩
    ·cases h;exact .inl ⟨fun q=>(nomatch q),C,hC⟩
    ·refine(qk N ks sn' L' r r2 r3 h).imp id fun ζ=>ζ.elim fun a ζ=>ζ.elim fun L'' ζ=>ζ.elim fun b ζ=>ζ.elim fun c d=>⟨a,L'',b,fun x hx=>?_,fun x hx=>d x ((r3 x).mpr (r5 x hx))⟩
     exact(ae.mp hx).elim (fun q=>q▸d k ((r3 k).mpr r4)) (c x)
noncomputable def lg(g:Gr)(st:List (Int × Nat)):Nat:=(st.map fun p=>(aJ g p.1).length - p.2).sum
noncomputable def dO(g:Gr)(ks sn:List Int):Nat:=((ks.filter fun k=>!sn.contains k).map fun k=>(aJ g k).length+1).sum
theorem H9{a i S:Nat}(h:i<a):a - (i+1)+S+1<=a - i+S :=
 aa (cH (Nat.add_right_comm ..)) (dG (cH (Nat.succ_pred_eq_of_pos (Nat.sub_pos_of_lt h))) S)
theorem zQ:∀(st st':List (Int × Nat)) (k':Int),cV g st=(st',some k')->lg g st'+1<=lg g st
 | [],_,_,h=>nomatch h
 | (p,i)::r,st',k',h=>by
  rw[ji]at h
  cases hc:(aJ g p)[i]? with
  | some n =>
   rw[hc]at h
   cases h
   exact H9 (fU.mp hc).1
  | none =>
   rw[hc]at h
   exact aa (zQ r st' k' h) (Nat.le_add_left ..)
theorem zR{k:Int}{sn:List Int}(hs:k∉sn):∀(ks:List Int),dO g ks (sn++[k])<=dO g ks sn/\(k∈ks->dO g ks (sn++[k])+(aJ g k).length+1<=dO g ks sn)
 | []=>⟨aN _,fun h=>(nomatch h)⟩
 | x::ks=>by
  refine al (zR hs ks) fun i1 i2=>?_
  have key:∀(l:List Int),dO g (x::ks) l=(if l.contains x then 0 else(aJ g x).length+1)+dO g ks l:=fun l=>by
   unfold dO
   rw[dv]
   cases hq:l.contains x<;>simp
  rw[key,key]
  by_cases q:x=k
  ·subst q
   have h1:(sn++[x]).contains x=true:=by simp
   have h2:sn.contains x=false:=by simpa using hs
   rw[h1,h2]
   simp only[if_true,wj,if_false]
   rw[kh]
   exact⟨aa i1 (Nat.le_add_left ..),fun U=>aa (dG i1 ((aJ g x).length+1)) (cH (OK ..))⟩
  ·have h1:(sn++[k]).contains x=sn.contains x:=by simp[q]
   rw[h1]
   exact⟨fa i1 _,fun h=>aa (cH (o5 _ _ ((aJ g k).length+1))) (fa (i2 ((ae.mp h).resolve_left fun z=>q z.symm)) _)⟩
theorem zS{ks:List Int}(hcl:∀p,∀n∈aJ g p,n∈ks):∀(n:Nat) (k:Int) (st:List (Int × Nat)) (sn:List Int),k∈ks->dO g ks sn+lg g st<n->(ex g n k st sn).isSome=true
 | 0,_,_,_,_,h=>absurd h (Nat.not_lt_zero _)
 | n+1,k,st,sn,hk,h=>by
  rw[mW]
  by_cases hq:k∈sn/\k∈dA st
  ·rw[if_pos hq];rfl
  ·rw[if_neg hq]
   have hle:dO g ks (if k∈sn then sn else sn++[k])+lg g (if k∈sn then st else(k,0)::st)<=dO g ks sn+lg g st:=by
    by_cases hs:k∈sn
    ·rw[if_pos hs,if_pos hs];exact aN _
    ·rw[if_neg hs,if_neg hs]
     exact aa (cH (o5 _ _ (lg g st)).symm) (dG (lX ((zR (g:=g) hs ks).2 hk)) _)
   generalize (if k∈sn then st else(k,0)::st)=st1 at hle ⊢
   generalize (if k∈sn then sn else sn++[k])=sn1 at hle ⊢
   generalize ha:cV g st1=a
   obtain⟨st',o⟩:=a
   cases o with
   | none=>rfl
   | some k' =>
    have hk':k'∈ks:=by
     have:∀(st:List (Int × Nat)),cV g st=(st',some k')->∃p,k'∈aJ g p:=fun st=>by
      induction st with
      | nil=>intro h;cases h
      | cons p r ih =>
       intro h
       obtain⟨p,i⟩:=p
       rw[ji]at h
       cases hc:(aJ g p)[i]? with
       | some m=>rw[hc]at h;cases h;exact⟨p,aG hc⟩
       | none=>rw[hc]at h;exact ih h
     refine x11 (this st1 ha) fun p hp=>?_
     exact hcl p k' hp
    exact zS hcl n k' st' sn1 hk' (aa (fa (zQ st1 st' k' ha) _) (aa hle (oz h)))
theorem uB{ks0:List Int}(hcl:∀p,∀n∈aJ g p,n∈ks0){N:Nat}(hN:dO g ks0 []<N):∀(ks sn:List Int),(∀k∈ks,k∈ks0)->(fQ g N ks sn).isSome=true
 | [],_,_=>rfl
 | k::ks,sn,hk=>by
  rw[mX]
  by_cases hs:k∈sn
  ·rw[if_pos hs];exact uB hcl hN ks sn fun x hx=>hk x (ar _ hx)
  ·rw[if_neg hs]
   have hun:∀(l:List Int),dO g l sn<=dO g l []:=fun l=>by
    induction l with
    | nil=>exact aN _
    | cons x l ih =>
     unfold dO at ih ⊢
     rw[dv,dv]
     cases sn.contains x with
     | true=>exact aa ih (Nat.le_add_left ..)
     | false=>exact fa ih _
   have:=zS hcl N k [] sn (hk k ak) (eZ (hun ks0) hN)
   cases hw:ex g N k [] sn with
   | none=>rw[hw]at this;cases this
   | some w =>
    cases w with
    | inl c=>rfl
    | inr sn'=>exact uB hcl hN ks sn' fun x hx=>hk x (ar _ hx)
theorem zT:∀(n:Nat) (k:Int) (st:List (Int × Nat)) (sn c:List Int),ex g n k st sn=some (.inl c)->c.length<=st.length+n
 | 0,_,_,_,_,h=>nomatch h
 | n+1,k,st,sn,c,h=>by
  rw[mW]at h
  by_cases hq:k∈sn/\k∈dA st
  ·rw[if_pos hq]at h
   cases h
   simp only[iA,dA,bj,List.length_drop,List.length_reverse,ag,BL]
   exact oP (Nat.sub_le ..) (qO (bx n))
  ·rw[if_neg hq]at h
   have hl:(if k∈sn then st else(k,0)::st).length<=st.length+1:=by split<;>simp
   generalize (if k∈sn then st else(k,0)::st)=st1 at h hl
   generalize (if k∈sn then sn else sn++[k])=sn1 at h
   generalize ha:cV g st1=a at h
   obtain⟨st',o⟩:=a
   have hl2:∀(st st':List (Int × Nat)) (o:Option Int),cV g st=(st',o)->st'.length<=st.length:=fun st=>by
    induction st with
    | nil=>intro st' o h;cases h;exact aN _
    | cons p r ih =>
     intro st' o h
     obtain⟨p,i⟩:=p
     rw[ji]at h
     cases hc:(aJ g p)[i]? with
     | some m=>rw[hc]at h;cases h;exact aN _
     | none=>rw[hc]at h;exact aa (ih st' o h) (fV _)
   have h2:=hl2 st1 st' o ha
   cases o with
   | none=>cases h
   | some k'=>exact aa (zT n k' st' sn1 c h) (aa (dG (aa h2 hl) n) (cH (Nat.succ_add ..)))
theorem uC{N:Nat}:∀(ks sn c:List Int),fQ g N ks sn=some (some c)->c.length<=N
 | [],_,_,h=>nomatch h
 | k::ks,sn,c,h=>by
  rw[mX]at h
  by_cases hs:k∈sn
  ·rw[if_pos hs]at h;exact uC ks sn c h
  ·rw[if_neg hs]at h
   cases hw:ex g N k [] sn with
   | none=>rw[hw]at h;cases h
   | some w =>
    rw[hw]at h
    cases w with
    | inl d=>cases h;simpa using zT N k [] sn _ hw
    | inr sn'=>exact uC ks sn' c h
end
end
section
open PySem PySem.W PyProof.Rows
noncomputable abbrev SB(P:Prop):={b:Bool // b=true->P}
section
variable{P Q:Prop}
noncomputable def SB.and(x:SB P)(y:SB Q):SB (P/\Q):=⟨x.1&&y.1,fun h=>aP h fun a b=>⟨x.2 a,y.2 b⟩⟩
noncomputable def SB.no:SB P:=⟨false,fun h=>nomatch h⟩
noncomputable def SB.tt(h:P):SB P:=⟨true,fun U=>h⟩
noncomputable def SB.dec[Decidable P]:SB P:=⟨decide P,of_decide_eq_true⟩
noncomputable def SB.imp{b c:Bool}(x:SB P):SB (b=c->P):=⟨if b=c then x.1 else true,fun h e=>x.2 ((if_pos e).symm.trans h)⟩
noncomputable def SB.all{α:Type}{P:α->Prop}(f:∀x,SB (P x))(xs:List α):SB (∀x∈xs,P x):=⟨xs.all fun x=>(f x).1,fun h x hx=>(f x).2 (bC.mp h x hx)⟩
end
noncomputable def Ia(t:Bool):(x:SV)->SB (SV.ok t x)
 | .dat _=>⟨true,fun U=>by cases t<;>trivial⟩
 | .own _=>match t with
  | true=>.tt trivial
  | false=>.no
 | _=>.no
noncomputable def Ib(op:Rf)(a b:Int):SB (pn op a b):=match op with
 | .Add | .Sub | .BitAnd | .BitOr | .BitXor=>.tt trivial
 | .FloorDiv=>(SB.dec (P:=0<b/\b<=1000000))
 | .Mult=>(SB.dec (P:=(-65536<=a/\a<=65536)\/(-65536<=b/\b<=65536)))
 | .Mod=>(SB.dec (P:=b≠0))
 | .Pow=>(SB.dec (P:=2<=a/\a<=64/\0<=b/\b<=64))
 | _=>.no
noncomputable def zU[Decidable b](op:Rf):SB (op=.Add/\b):=match op with
 | .Add=>SB.and (.tt rfl) .dec
 | _=>.no
noncomputable def Ic(op:Rf)(x y:PQ):SB (pp op x y):=match x,y with
 | .int a,.int b=>Ib op a b
 | .str _,.str _=>zU op
 | .list _,.list _=>zU op
 | _,_=>.no
noncomputable def lh(d:PQ):SB (cy d):=SB.dec (P:=_/\_)
noncomputable def nt(x:PQ):(y:PQ)->SB (sx x y)
 | .list _=>SB.and (lh x) .dec
 | .tuple _=>SB.and (lh x) .dec
 | .str _=>match x with
  | .str _=>.tt trivial
  | _=>.no
 | _=>.no
noncomputable def Id(op:CmpOp)(x y:PQ):SB (me op x y):=match op with
 | .Eq=>SB.and (lh x) (lh y)
 | .NotEq=>SB.and (lh x) (lh y)
 | .In=>nt x y
 | .NotIn=>nt x y
 | .Lt=>match x,y with
  | .int _,.int _=>.tt trivial
  | _,_=>.no
 | .Gt=>match x,y with
  | .int _,.int _=>.tt trivial
  | _,_=>.no
 | .IsNot=>match x,y with
  | .bool _,.bool _=>.tt trivial
  | _,_=>.no
 | _=>.no
noncomputable def uD(i:Int)(n:Nat):SB (fA i n):=SB.dec (P:=_/\_)
noncomputable def Ie(x:PQ):(y:PQ)->SB (pq x y)
 | .int i=>match x with
  | .list ds=>uD i ds.length
  | .tuple ds=>uD i ds.length
  | .str x=>uD i x.length
  | _=>.no
 | _=>.no
noncomputable def Ig(d lo hi:PQ):SB (sA d lo hi):=match d with
 | .list _=>SB.dec (P:=_/\_)
 | .str _=>SB.dec (P:=_/\_)
 | _=>.no
noncomputable def Ih:(d:PQ)->SB (sE d)
 | .list ds=>SB.dec (P:=ds.length<=_)
 | .tuple ds=>SB.dec (P:=ds.length<=_)
 | .str x=>SB.dec (P:=x.length<=_)
 | _=>.no
noncomputable def Ii:(d:PQ)->SB (∃ds,d=.list ds/\sF ds)
 | .list ds=>⟨decide (ds.length<=1000000/\∀d∈ds,isInt d=true/\-1000000000000<=bM d/\bM d<=1000000000000),fun h=>have q:=of_decide_eq_true h;⟨ds,rfl,q⟩⟩
 | _=>.no
noncomputable def Ij(x:Str):(d:PQ)->SB (∃ds,d=.list ds/\pu x ds)
 | .list ds=>⟨decide ((∀d∈ds,isStr d=true)/\((ds.map cJ).map (·.length)).sum+(ds.map cJ).length * x.length<=16777216),fun h=>have q:=of_decide_eq_true h;⟨ds,rfl,q⟩⟩
 | _=>.no
noncomputable def Il:(d:PQ)->SB (xy d)
 | .list _=>.tt trivial
 | .tuple _=>.tt trivial
 | .str x=>SB.dec (P:=_=true)
 | _=>.no
noncomputable def Im:(d:PQ)->SB (mt d)
 | .int _=>SB.dec (P:=_/\_)
 | _=>.no
noncomputable def zV(tup:Bool)(slots:List Nat)(d:PQ):SB (bindP tup slots d):=match tup with
 | true=>SB.dec (P:=_/\_)
 | false=>SB.dec (P:=slots.length=1)
section
variable{Φ:List FEntry}
set_option backward.match.sparseCases false in
mutual
noncomputable def bk:(e:IX)->(t:Bool)->(ρ:List SV)->SB (pre Φ e t ρ)
 | .var i,t,ρ=>Ia t (ρ.getD i .un)
 | .lit _,_,_=>.tt trivial
 | .bin op a b,_,ρ=>.and (bk a false ρ) (.and (bk b false ρ) (Ic op _ _))
 | .cmp op a b,_,ρ=>.and (bk a true ρ) (.and (bk b true ρ) (Id op _ _))
 | .neg a,_,ρ=>.and (bk a false ρ) .dec
 | .bop o es,_,ρ=>zW o es ρ
 | .ite c a b,_,ρ=>.and (bk c false ρ) (.and .dec (.and (.imp (bk a false ρ)) (.imp (bk b false ρ))))
 | .list es,_,ρ=>.and (ql es ρ) .dec
 | .tup es,_,ρ=>.and (ql es ρ) .dec
 | .sub a i,_,ρ=>.and (bk a true ρ) (.and (bk i false ρ) (Ie _ _))
 | .slice a lo hi,_,ρ=>.and (bk a true ρ) (.and (zX lo ρ) (.and (zX hi ρ) (Ig _ _ _)))
 | .len a,_,ρ=>.and (bk a true ρ) (Ih _)
 | .sum a,_,ρ=>.and (bk a true ρ) (Ii _)
 | .join a b,_,ρ=>.and (bk a false ρ) (.and (bk b true ρ) (.and .dec (Ij _ _)))
 | .comp n tup slots it ifs rest,_,ρ=>.and (uF it true ρ) (.and (.all (fun d=>.and (zV tup slots d) (.and (uE ifs _) (.imp (zY rest _)))) _) .dec)
 | _,_,_=>.no
noncomputable def zW(o:Bool):(e:IX)->(ρ:List SV)->SB (mu Φ o e ρ)
 | .cons a b,ρ=>.and (bk a false ρ) (.imp (.and .dec (.imp (zW o b ρ))))
 | _,_=>.no
noncomputable def zX:(e:IX)->(ρ:List SV)->SB (pv Φ e ρ)
 | .cons a .nil,ρ=>bk a false ρ
 | .nil,_=>.tt trivial
 | _,_=>.no
noncomputable def ql:(e:IX)->(ρ:List SV)->SB (dX Φ e ρ)
 | .cons a b,ρ=>.and (bk a false ρ) (ql b ρ)
 | .nil,_=>.tt trivial
 | _,_=>.no
noncomputable def uE:(e:IX)->(ρ:List SV)->SB (kB Φ e ρ)
 | .cons a b,ρ=>.and (bk a false ρ) (.and .dec (.imp (uE b ρ)))
 | .nil,_=>.tt trivial
 | _,_=>.no
noncomputable def uF:(e:IX)->(t:Bool)->(ρ:List SV)->SB (gI Φ e t ρ)
 | .range1 a,_,ρ=>.and (bk a false ρ) (Im _)
 | .seq e,t,ρ=>.and (bk e t ρ) (Il _)
 | _,_,_=>.no
noncomputable def zY:(e:IX)->(ρ:List SV)->SB (mv Φ e ρ)
 | .gen tup slots it ifs rest,ρ=>.and (uF it false ρ) (.all (fun d=>.and (zV tup slots d) (.and (uE ifs _) (.imp (zY rest _)))) _)
 | .emit e,ρ=>bk e false ρ
 | _,_=>.no
end
end
theorem cP:∀ {e:IX},pre Φ e false ρ->pre Φ e true ρ:=by
 intro e h
 cases e<;>first | exact h | skip
 revert h
 show SV.ok false _->SV.ok true _
 cases ρ.getD _ .un<;>intro h<;>first | exact h.elim | trivial
noncomputable def Ok(Φ:List FEntry)(e:IX)(ρ:List SV)(d:PQ):Prop:=pre Φ e false ρ/\den Φ e ρ=d
theorem jm{e:IX}{ρ:List SV}{d:PQ}(h:((bk (Φ:=Φ) e false ρ).1,den Φ e ρ)=(true,d)):Ok Φ e ρ d :=
 ⟨(bk e false ρ).2 (congrArg Prod.fst h),congrArg Prod.snd h⟩
theorem iF{Φ:List FEntry}{α:Type}{e:IX}{xs:List α}{r:α->List SV}{f:α->PQ}(h:xs.map (fun x=>((bk (Φ:=Φ) e false (r x)).1,den Φ e (r x)))=xs.map fun x=>(true,f x)):∀x∈xs,Ok Φ e (r x) (f x) :=
 fun x hx=>jm (CJ.mp h x hx)
noncomputable def qm:Fl->PQ
 | .ret d=>d
 | _=>.none
noncomputable def Io:Fl->Bool
 | .ret _=>true
 | _=>false
noncomputable def nu(n:Str)(k:Nat)(Φ:List FEntry)(S:SX)(V:List Str)(T:List (List PQ)):FEntry:=⟨n,k,fun ds=>ds∈T,fun ds=>qm (av Φ S (aS V ds)).1⟩
theorem uG{n:Str}{k m:Nat}{Φ:List FEntry}{S:SX}{V:List Str}{T:List (List PQ)}(B:∀ρ,SB (aM Φ S ρ))(h:(T.all fun ds=>bD ds.length m&&(B (aS V ds)).1&&Io (av Φ S (aS V ds)).1)=true)(ds:List PQ)(hd:(nu n k Φ S V T).pre ds) :
 ds.length=m/\aM Φ S (aS V ds)/\(av Φ S (aS V ds)).1=.ret ((nu n k Φ S V T).val ds):=by
 refine eh (bC.mp h ds hd) fun h1 h2 h3=>⟨lN h1,(B _).2 h2,?_⟩
 show _=Fl.ret (qm (av Φ S (aS V ds)).1)
 revert h3
 cases(av Φ S (aS V ds)).1<;>intro h3<;>first | rfl | exact absurd h3 Pl
section
variable{Φ:List FEntry}{p:Prim}{r:SX}{ρ ρ1:List SV}{d:PQ}
noncomputable def SB.nx(hp:SB (p.pre ρ))(e:p.den ρ=(.next,ρ1))(x:SB (aM Φ r ρ1)):SB (aM Φ (.prim p r) ρ):=⟨hp.1&&x.1,fun h=>aP h fun a b=>⟨hp.2 a,fun ρ' q=>by rw[e]at q;cases q;exact x.2 b⟩⟩
noncomputable def SB.rt(hp:SB (p.pre ρ))(e:p.den ρ=(.ret d,ρ1)):SB (aM Φ (.prim p r) ρ):=⟨hp.1,fun a=>⟨hp.2 a,fun ρ' q=>by rw[e]at q;cases q⟩⟩
noncomputable def zZ(pc:∀ρ,SB (Pc ρ))(pb:∀ρ,SB (Pb ρ))(c:List SV->Bool)(f:List SV->Fl × List SV):∀n ρ,SB (pG Pc Pb c f n ρ)
 | 0,_=>.no
 | n+1,ρ=>.and (pc ρ) (.imp (.and (pb ρ) (match f ρ with
  | (.next,ρ')=>zZ pc pb c f n ρ'
  | (.brk,_)=>.tt trivial
  | (.ret _,_)=>.tt trivial)))
noncomputable def SB.whl(B:∀ρ,SB (aM Φ body ρ))(R:∀ρ,SB (aM Φ r ρ))(ρ:List SV):SB (aM Φ (.whl n c body r) ρ) :=
 .and (zZ (fun ρ=>.and (bk c false ρ) .dec) B _ _ n ρ) ⟨match ip (fun ρ=>aA (den Φ c ρ)) (av Φ body) n ρ with
  | (.next,ρ1)=>(R ρ1).1
  | _=>true,fun h ρ' e=>by rw[e]at h;exact(R ρ').2 h⟩
noncomputable def SB.skip:SB (aM Φ .skip ρ):=.tt trivial
end
noncomputable def iD(n:Nat):PQ:=.int n
noncomputable def LD(l:List Nat):PQ:=.list (l.map iD)
noncomputable def iG(g:Gr)(p:Int):Prop:=∃q∈g,q.1=p
structure GI(R:Int->Int->Prop)(m l:Nat)(g:Gr):Prop where
 len:g.length<=m
 sl:∀q∈g,q.2.2.length<=l
 e1:∀q∈g,∀n∈q.2.2,R q.1 n
structure UpG(R:Int->Int->Prop)(a b:Nat)(g g':Gr):Prop where
 gi:∀m l,GI R m l g->GI R (m+a) (l+b) g'
 su:∀p n,n∈aJ g p->n∈aJ g' p
 ky:∀p,iG g p->iG g' p
section
variable{R:Int->Int->Prop}{g g' g'':Gr}{a b c d:Nat}
theorem UpG.trans(x:UpG R a b g g')(y:UpG R c d g' g''):UpG R (a+c) (b+d) g g'' :=
 ⟨fun m l h=>o5 m a c▸o5 l b d▸y.gi _ _ (x.gi _ _ h),fun p n h=>y.su p n (x.su p n h),fun p h=>y.ky p (x.ky p h)⟩
theorem z4(hf:∀q,(f q).1=q.1)(p:Int):aJ (g.map f) p=match g.find? fun q=>q.1=p with | some q=>(f q).2.2 | none=>[]:=by
 unfold aJ
 rw[List.find?_map,show((fun q:Int × Int × List Int=>decide (q.1=p)) ∘ f)=fun q=>decide (q.1=p)from funext fun q=>by show decide ((f q).1=p)=_;rw[hf]]
 cases g.find? fun q=>q.1=p<;>rfl
theorem Ip(hf:∀q,(f q).1=q.1)(h:iG g p):iG (g.map f) p :=
 h.elim fun q ζ=>ζ.elim fun h1 h2=>⟨f q,List.mem_map_of_mem h1,(hf q).trans h2⟩
theorem z5(hf:∀q,(f q).1=q.1)(hs:∀q,∃l,(f q).2.2=q.2.2++l/\l.length<=a/\∀n∈l,R q.1 n):UpG R 0 a g (g.map f) where
 gi m l h:=⟨by rw[ag];exact h.len,fun q hq=>by
  refine x12 (aD.mp hq) fun q' h1 e2=>?_;subst e2
  refine x13 (hs q') fun l e hl U=>?_
  rw[e,bj];exact oP (h.sl q' h1) hl,fun q hq n hn=>by
  refine x12 (aD.mp hq) fun q' h1 e2=>?_;subst e2
  refine x13 (hs q') fun l e U hr=>?_
  rw[e]at hn
  rw[hf]
  exact(au.mp hn).elim (h.e1 q' h1 n) (hr n)⟩
 su p n h:=by
  rw[z4 hf]
  unfold aJ at h
  cases e:g.find? fun q=>q.1=p with
  | none=>rw[e]at h;exact h
  | some q=>
   rw[e]at h
   refine x12 (hs q) fun l e' U=>?_
   show n∈(f q).2.2
   rw[e'];exact c8 _ h
 ky p h:=Ip hf h
theorem z6(k:Int):UpG R 1 0 g (cM k g)/\iG (cM k g) k:=by
 unfold cM
 by_cases h:(g.any fun p=>p.1==k)=true
 ·rw[if_pos h]
  refine x12 (eH.mp h) fun q h1 h2=>?_
  exact⟨⟨fun m l h=>⟨Nat.le_succ_of_le h.len,h.sl,h.e1⟩,fun U U h=>h,fun U h=>h⟩,q,h1,P9 h2⟩
 ·rw[if_neg h]
  refine⟨⟨fun m l h=>⟨by rw[bj];exact qO h.len,fun q hq=>?_,fun q hq=>?_⟩,fun p n h=>?_,fun p ζ=>ζ.elim fun q ζ=>ζ.elim fun h1 h2=>⟨q,c8 _ h1,h2⟩⟩,(k,0,[]),gz _ (ai.mpr rfl),rfl⟩
  ·rcases au.mp hq with hq | hq
   ·exact h.sl q hq
   ·rw[ai.mp hq];exact bx _
  ·rcases au.mp hq with hq | hq
   ·exact h.e1 q hq
   ·rw[ai.mp hq];exact fun n hn=>nomatch hn
  ·unfold aJ at h ⊢
   rw[List.find?_append]
   cases e:g.find? fun q=>q.1=p with
   | none=>rw[e]at h;exact nomatch h
   | some q=>rw[e]at h;exact h
theorem Iq(hR:R p k)(hk:iG g p):UpG R 0 1 g (fM p k g)/\k∈aJ (fM p k g) p:=by
 have hf:∀q:Int × Int × List Int,(if q.1=p then(q.1,q.2.1,q.2.2++[k])else q).1=q.1:=fun q=>by split<;>rfl
 refine⟨z5 hf fun q=>?_,?_⟩
 ·split
  ·rename_i e;exact⟨[k],rfl,aN _,fun n hn=>by rw[ai.mp hn,e];exact hR⟩
  ·exact⟨[],(dC _).symm,bx _,fun n hn=>nomatch hn⟩
 ·unfold fM
  rw[z4 hf]
  refine x12 hk fun q h1 h2=>?_
  cases e:g.find? fun q=>q.1=p with
  | none=>exact absurd (decide_eq_true h2) (List.find?_eq_none.mp e q h1)
  | some q' =>
   have:=List.find?_some e
   have:=of_decide_eq_true this
   dsimp only
   rw[if_pos this];exact gz _ (ai.mpr rfl)
theorem z7:∀(ps:List Int) (g:Gr),(∀p∈ps,R p k)->UpG R ps.length ps.length g (ps.foldl (fun g p=>fM p k (cM p g)) g)/\∀p∈ps,k∈aJ (ps.foldl (fun g p=>fM p k (cM p g)) g) p
 | [],g,_=>⟨⟨fun U U h=>h,fun U U h=>h,fun U h=>h⟩,fun p h=>nomatch h⟩
 | p::ps,g,h=>by
  have h1:=z6 (R:=R) (g:=g) p
  have h2:=Iq (g:=cM p g) (h p ak) h1.2
  have h3:=z7 ps (fM p k (cM p g)) fun q hq=>h q (ar _ hq)
  refine⟨?_,fun q hq=>(ae.mp hq).elim (fun e=>e▸h3.1.su _ _ h2.2) (h3.2 q)⟩
  have:=(h1.1.trans h2.1).trans h3.1
  rw[show(p::ps).length=1+ps.length from OK ..]
  rw[kh]at this
  exact this
theorem Ir(h:∀p∈ps,R p k)(hl:ps.length<=3):UpG R 4 3 g (jR k ps g)/\iG (jR k ps g) k/\∀p∈ps,k∈aJ (jR k ps g) p:=by
 have h1:=z6 (R:=R) (g:=g) k
 have hf:∀q:Int × Int × List Int,(if q.1=k then(q.1,q.2.1+(ps.length:Int),q.2.2)else q).1=q.1:=fun q=>by split<;>rfl
 have h2:UpG R 0 0 (cM k g) (iu k ps.length (cM k g)):=z5 hf fun q=>⟨[],by split<;>exact(dC _).symm,aN _,fun n hn=>nomatch hn⟩
 have h3:=z7 (R:=R) ps (iu k ps.length (cM k g)) h
 have h4:=(h1.1.trans h2).trans h3.1
 exact⟨⟨fun m l q=>let r:=h4.gi m l q;⟨aa r.len (by lia),fun x hx=>aa (r.sl x hx) (by lia),r.e1⟩,h4.su,h4.ky⟩,h3.1.ky _ (h2.ky _ h1.2),h3.2⟩
end
theorem li{α:Type}{f:α->Nat}{B:Nat}:∀ {l:List α},(∀x∈l,f x<=B)->(l.map f).sum<=l.length * B
 | [],_=>bx _
 | x::l,h=>by
  have h1:=h x ak
  have h2:=li (l:=l) fun y hy=>h y (ar _ hy)
  rw[a9,List.sum_cons,dU,Nat.succ_mul,OK]
  exact oP h2 h1
noncomputable def jZ(g:Gr):Nat:=g.foldl (fun m q=>m+q.2.2.length) 0
theorem z8(g:Gr):jZ g=(g.map fun q=>q.2.2.length).sum:=by
 have:∀(g:Gr) (m:Nat),g.foldl (fun m q=>m+q.2.2.length) m=m+(g.map fun q=>q.2.2.length).sum:=fun g=>by
  induction g with
  | nil=>intro m;rfl
  | cons q g ih=>intro m;rw[List.foldl_cons,ih,a9,List.sum_cons,o5]
 rw[jZ,this,kh]
theorem z9{α:Type}{f:α->Nat}{x:α}:∀ {l:List α},x∈l->f x<=(l.map f).sum
 | y::l,h=>by
  rw[a9,List.sum_cons]
  rcases ae.mp h with rfl | h
  ·exact oO _ _
  ·exact aa (z9 h) (Nat.le_add_left _ _)
theorem Aa(h:n∈aJ g p):∃q∈g,q.1=p/\n∈q.2.2:=by
 unfold aJ at h
 cases e:g.find? fun q=>q.1=p with
 | none=>rw[e]at h;exact nomatch h
 | some q=>rw[e]at h;have:=List.find?_some e;exact⟨q,List.mem_of_find?_eq_some e,of_decide_eq_true this,h⟩
theorem It(g:Gr)(p:Int):(aJ g p).length<=jZ g:=by
 unfold aJ
 cases e:g.find? fun q=>q.1=p with
 | none=>exact bx _
 | some q=>rw[z8];exact z9 (f:=fun q:Int × Int × List Int=>q.2.2.length) (List.mem_of_find?_eq_some e)
noncomputable abbrev j0:=Int × List Int
noncomputable def ee(g:Gr)(r:j0):Gr:=jR r.1 r.2 g
noncomputable def Ab(rows:List j0):Prop:=rows.length<=8/\∀r∈rows,r.2.length<=3
noncomputable def RR(rows:List j0)(p n:Int):Prop:=∃r∈rows,r.1=n/\p∈r.2
theorem Ad:∀(rows:List j0) (g:Gr),(∀r∈rows,r.2.length<=3/\∀p∈r.2,R p r.1) ->
 UpG R (4 * rows.length) (3 * rows.length) g (rows.foldl ee g)/\∀r∈rows,iG (rows.foldl ee g) r.1/\∀p∈r.2,r.1∈aJ (rows.foldl ee g) p
 | [],g,_=>⟨⟨fun U U h=>h,fun U U h=>h,fun U h=>h⟩,fun r h=>nomatch h⟩
 | r::rows,g,h=>by
  have h1:=Ir (g:=g) (h r ak).2 (h r ak).1
  have h2:=Ad rows (ee g r) fun r hr=>h r (ar _ hr)
  refine⟨?_,fun r' hr=>?_⟩
  ·have:=h1.1.trans h2.1
   rw[show 4 * (r::rows).length=4+4 * rows.length from OK ..,show 3 * (r::rows).length=3+3 * rows.length from OK ..]
   exact this
  ·rcases ae.mp hr with rfl | hr
   ·exact⟨h2.1.ky _ h1.2.1,fun p hp=>h2.1.su _ _ (h1.2.2 p hp)⟩
   ·exact h2.2 r' hr
theorem Iu(t:Topo g L):∀y∈L,∀x∈aJ g y,x∈L:=by
 induction t with
 | nil=>exact fun y h=>nomatch h
 | snoc t h ih =>
  intro y hy x hx
  rcases au.mp hy with hy | hy
  ·exact c8 _ (ih y hy x hx)
  ·rw[ai.mp hy]at hx;exact c8 _ (h x hx)
theorem Iv{g:Gr}{L:List Int}(t:Topo g L){C:Int->Prop}(hC:∀x,C x->∃y,C y/\x∈aJ g y):(∀x,C x->x∈L)->∀x,¬C x:=by
 induction t with
 | nil=>exact fun h x hx=>nomatch h x hx
 | @snoc L k t h ih =>
  refine fun hL=>ih fun x hx=>?_
  refine x12 (hC x hx) fun y hy hxy=>?_
  rcases au.mp (hL y hy)with q | q
  ·exact Iu t y q x hxy
  ·rw[ai.mp q]at hxy;exact h x hxy
section
variable{rows:List j0}(h:Ab rows)
include h
theorem nv:GI (RR rows) 32 24 (rows.foldl ee [])/\∀r∈rows,iG (rows.foldl ee []) r.1/\∀p∈r.2,r.1∈aJ (rows.foldl ee []) p:=by
 have u:=Ad (R:=RR rows) rows [] fun r hr=>⟨h.2 r hr,fun p hp=>⟨r,hr,rfl,hp⟩⟩
 have z:=u.1.gi 0 0 ⟨aN _,fun q hq=>(nomatch hq),fun q hq=>nomatch hq⟩
 have h8:=h.1
 exact⟨⟨aa z.len (aa (cH (kh _)) (M8 4 h8)),fun q hq=>aa (z.sl q hq) (aa (cH (kh _)) (M8 3 h8)),z.e1⟩,u.2⟩
theorem Iw(p n:Int)(hn:n∈aJ (rows.foldl ee []) p):n∈(rows.foldl ee []).map (·.1):=by
 have u:=nv h
 refine x13 (Aa hn) fun q h1 U h3=>?_
 refine x13 (u.1.e1 q h1 n h3) fun r r1 r2 U=>?_
 refine x12 ((u.2 r r1).1) fun q' a b=>?_
 exact aD.mpr ⟨q',a,b.trans r2⟩
theorem uH:tU (rows.foldl ee []):=by
 have u:=nv h
 have hk:=Iw h
 generalize rows.foldl ee []=g at u hk
 have ht:jZ g<=768:=by
  rw[z8]
  exact aa (li u.1.sl) (PD 24 u.1.len)
 have hf:qa g=(g.length+2) * (jZ g+g.length+4)+10:=rfl
 have hN:dO g (g.map (·.1)) []<qa g:=by
  have e:dO g (g.map (·.1)) []<=g.length * (jZ g+1):=by
   unfold dO
   refine aa (li (B:=jZ g+1) fun x U=>qO (It g x)) (PD _ ?_)
   exact aa (aV ..) (by rw[ag];exact aN _)
  exact eZ e (eZ (Nat.mul_le_mul (oO _ 2) (oP (oO ..) (by decide:1<=4))) (Nat.lt_add_of_pos_right (by decide:0<10)))
 have hs:=uB hk hN (g.map (·.1)) [] fun k q=>q
 refine⟨fun q hq n hn=>?_,aa u.1.len (by decide),?_⟩
 ·refine x13 (u.1.e1 q hq n hn) fun r r1 r2 U=>?_
  refine x12 ((u.2 r r1).1) fun q' a b=>?_
  exact⟨q',a,b.trans r2⟩
 ·cases e:qb g with
  | none=>unfold qb kR at e;rw[e]at hs;cases hs
  | some r=>
   refine⟨r,rfl,fun c hc=>aa (uC _ _ c (by rw[hc]at e;exact e)) ?_⟩
   exact aa (dG (Nat.mul_le_mul (dG u.1.len 2) (dG (oP ht u.1.len) 4)) 10) (by decide)
theorem Ix(hc:dp (rows.foldl ee [])=false){C:Int->Prop}(hC:∀x,C x->∃r∈rows,r.1=x/\∃p∈r.2,C p):∀x,¬C x:=by
 have u:=nv h
 obtain⟨_,_,r,hr,_⟩:=uH h
 have e:r=none:=by
  unfold dp at hc
  rw[hr]at hc
  cases r with
  | none=>rfl
  | some c=>cases hc
 subst e
 rcases qk _ _ [] [] _ .nil (fun x=>Iff.rfl) hr with⟨q,_⟩ | ⟨_,L,t,hL,_⟩
 ·exact absurd rfl q
 ·refine Iv t (fun x cx=>?_) fun x cx=>?_
  ·refine x13 (hC x cx) fun r hr e z=>x12 z fun p hp cp=>?_
   exact⟨p,cp,e▸(u.2 r hr).2 p hp⟩
  ·refine x13 (hC x cx) fun r hr e z=>x12 ((u.2 r hr).1) fun q a b=>?_
   exact hL x (aD.mpr ⟨q,a,b.trans e⟩)
theorem Iy(hc:dp (rows.foldl ee [])=true):∃C:List Int,C≠[]/\∀x∈C,∃r∈rows,r.1=x/\∃p∈r.2,p∈C:=by
 have u:=nv h
 obtain⟨_,_,r,hr,_⟩:=uH h
 rcases qk _ _ [] [] _ .nil (fun x=>Iff.rfl) hr with⟨_,C,hC⟩ | ⟨e,_⟩
 ·refine⟨C,hC.1,fun x hx=>?_⟩
  refine x12 (hC.2 x hx) fun y hy hxy=>?_
  refine x13 (Aa hxy) fun q h1 h2 h3=>?_
  refine x13 (u.1.e1 q h1 x h3) fun r r1 r2 r3=>?_
  exact⟨r,r1,r2,y,h2▸r3,hy⟩
 ·subst e
  unfold dp at hc
  rw[hr]at hc
  cases hc
end
section
variable{Φ:List FEntry}{ρ:List SV}
noncomputable def fs(Φ:List FEntry)(it:IX)(ρ:List SV)(l:List PQ):Prop:=gI Φ it false ρ/\bS Φ it ρ=l
theorem Iz(h:gI Φ it false ρ):gI Φ it true ρ:=by
 cases it<;>first | exact h | exact⟨cP h.1,h.2⟩
theorem cr(h:Ok Φ e ρ (.list ds)):fs Φ (.seq e) ρ ds :=
 ⟨⟨h.1,by rw[h.2];trivial⟩,by show items (den Φ e ρ)=ds;rw[h.2];rfl⟩
theorem gZ{k:Nat}(hk:k<=1000000):fs Φ (.range1 (.lit (.int k))) ρ ((ah k).map iD) :=
 ⟨⟨trivial,by show -1000000000<=(k:Int)/\(k:Int)<=1000000000;lia⟩,by
  show(ah ((k:Int) - 0).toNat).map (fun i:Nat=>QT (0+(i:Int)))=_
  rw[Int.sub_zero,lV]
  exact fx fun i U=>congrArg QT (Int.zero_add _)⟩
noncomputable def qo(Φ:List FEntry)(ifs:IX)(ρ:List SV)(b:Bool):Prop:=kB Φ ifs ρ/\dH Φ ifs ρ=b
noncomputable def qp(Φ:List FEntry)(e:IX)(ρ:List SV)(l:List PQ):Prop:=mv Φ e ρ/\fB Φ e ρ=l
theorem uI:qo Φ .nil ρ true:=⟨trivial,rfl⟩
theorem IB(h:Ok Φ q ρ (.bool b)):qo Φ (.cons q .nil) ρ b :=
 ⟨⟨h.1,by rw[h.2];rfl,fun U=>trivial⟩,by show(aA (den Φ q ρ)&&true)=b;rw[h.2,Bool.and_true];rfl⟩
theorem uJ(h:Ok Φ e ρ d):qp Φ (.emit e) ρ [d]:=⟨h.1,congrArg (·::[]) h.2⟩
theorem uK{α:Type}{F:PQ->List PQ}{g:α->PQ}{f:α->List PQ}:∀ {xs:List α},(∀x∈xs,F (g x)=f x)->(xs.map g).flatMap F=xs.flatMap f
 | [],_=>rfl
 | x::xs,h=>by rw[a9,j4,j4,uK fun y hy=>h y (ar _ hy),h x ak]
section
variable{α:Type}{n:Nat}{tup:Bool}{slots:List Nat}{it ifs rest:IX}{xs:List α}{g f:α->PQ}{c:α->Bool}{F:α->List PQ}
theorem uL(hi:fs Φ it ρ (xs.map g))(hb:∀x∈xs,bindP tup slots (g x))(ht:∀x∈xs,qo Φ ifs (aq tup slots (g x) (ρ++ba n .un)) (c x))
 (hr:∀x∈xs,c x=true->qp Φ rest (aq tup slots (g x) (ρ++ba n .un)) (F x)) (hl:(xs.flatMap fun x=>if c x=true then F x else[]).length<=16000000) :
 Ok Φ (.comp n tup slots it ifs rest) ρ (.list (xs.flatMap fun x=>if c x=true then F x else[])):=by
 have key:((bS Φ it ρ).flatMap fun d=>if dH Φ ifs (aq tup slots d (ρ++ba n .un))=true then fB Φ rest (aq tup slots d (ρ++ba n .un))else[])=xs.flatMap fun x=>if c x=true then F x else[]:=by
  rw[hi.2]
  refine uK fun x hx=>?_
  rw[(ht x hx).2]
  cases hc:c x with
  | false=>rfl
  | true=>exact(hr x hx hc).2
 refine⟨⟨Iz hi.1,fun d hd=>?_,?_⟩,congrArg RT key⟩
 ·rw[hi.2]at hd
  refine x12 (aD.mp hd) fun x hx e2=>?_;subst e2
  refine⟨hb x hx,(ht x hx).1,fun h=>?_⟩
  rw[(ht x hx).2]at h
  exact(hr x hx h).1
 ·rw[key];exact hl
theorem IC(hi:fs Φ it ρ (xs.map g))(hb:∀x∈xs,bindP tup slots (g x))(ht:∀x∈xs,qo Φ ifs (aq tup slots (g x) ρ) (c x))(hr:∀x∈xs,c x=true->qp Φ rest (aq tup slots (g x) ρ) (F x)) :
 qp Φ (.gen tup slots it ifs rest) ρ (xs.flatMap fun x=>if c x=true then F x else[]):=by
 refine⟨⟨hi.1,fun d hd=>?_⟩,?_⟩
 ·rw[hi.2]at hd
  refine x12 (aD.mp hd) fun x hx e2=>?_;subst e2
  refine⟨hb x hx,(ht x hx).1,fun h=>?_⟩
  rw[(ht x hx).2]at h
  exact(hr x hx h).1
 ·show((bS Φ it ρ).flatMap fun d=>if dH Φ ifs (aq tup slots d ρ)=true then fB Φ rest (aq tup slots d ρ)else[])=_
  rw[hi.2]
  refine uK fun x hx=>?_
  rw[(ht x hx).2]
  cases hc:c x with
  | false=>rfl
  | true=>exact(hr x hx hc).2
theorem qq:∀xs:List α,(xs.flatMap fun x=>if c x=true then[f x]else[])=(xs.filter c).map f
 | []=>rfl
 | x::xs=>by
  rw[j4,qq xs,dv]
  cases c x<;>rfl
theorem uM{q e:IX}(hi:fs Φ it ρ (xs.map g))(hb:∀x∈xs,bindP tup slots (g x))(hq:∀x∈xs,Ok Φ q (aq tup slots (g x) (ρ++ba n .un)) (.bool (c x)))
 (he:∀x∈xs,c x=true->Ok Φ e (aq tup slots (g x) (ρ++ba n .un)) (f x)) (hl:xs.length<=16000000):Ok Φ (.comp n tup slots it (.cons q .nil) (.emit e)) ρ (.list ((xs.filter c).map f)):=by
 rw[<- qq]
 exact uL hi hb (fun x hx=>IB (hq x hx)) (fun x hx hc=>uJ (he x hx hc)) (by rw[qq,ag];exact aa (aV ..) hl)
theorem uN(hi:fs Φ it ρ (xs.map g))(hb:∀x∈xs,bindP tup slots (g x))(he:∀x∈xs,Ok Φ e (aq tup slots (g x) (ρ++ba n .un)) (f x))(hl:xs.length<=16000000):Ok Φ (.comp n tup slots it .nil (.emit e)) ρ (.list (xs.map f)):=by
 have:=uL (c:=fun U=>true) (F:=fun x=>[f x]) (rest:=.emit e) hi hb (fun x U=>uI) (fun x hx U=>uJ (he x hx))
 rw[qq,List.filter_eq_self.mpr fun U U=>rfl,ag]at this
 exact this hl
theorem eD{slot:Nat}{q e:IX}(hi:fs Φ it ρ (xs.map g))
 (hq:∀x∈xs,Ok Φ q (aq false [slot] (g x) (ρ++ba n .un)) (.bool (c x))) (he:∀x∈xs,c x=true->Ok Φ e (aq false [slot] (g x) (ρ++ba n .un)) (f x)) (hl:xs.length<=16000000) :
 Ok Φ (.comp n false [slot] it (.cons q .nil) (.emit e)) ρ (.list ((xs.filter c).map f)):=uM hi (fun U U=>rfl) hq he hl
theorem jn{slot:Nat}{e:IX}(hi:fs Φ it ρ (xs.map g))
 (he:∀x∈xs,Ok Φ e (aq false [slot] (g x) (ρ++ba n .un)) (f x)) (hl:xs.length<=16000000) :
 Ok Φ (.comp n false [slot] it .nil (.emit e)) ρ (.list (xs.map f)):=uN hi (fun U U=>rfl) he hl
end
noncomputable def aL(Φ:List FEntry)(S:SX)(ρ:List SV)(fl:Fl)(R:List SV->Prop):Prop:=aM Φ S ρ/\∃ρ',av Φ S ρ=(fl,ρ')/\R ρ'
variable{fl:Fl}{R:List SV->Prop}{r:SX}
theorem eV(h:R ρ):aL Φ .skip ρ .next R:=⟨trivial,ρ,rfl,h⟩
theorem j1(hp:p.pre ρ)(hd:p.den ρ=(.next,ρ1))(h:aL Φ r ρ1 fl R):aL Φ (.prim p r) ρ fl R:=by
 obtain⟨h1,ρ',h2,h3⟩:=h
 exact⟨⟨hp,fun ρ2 e=>by rw[hd]at e;cases e;exact h1⟩,ρ',by show fm (p.den ρ) (av Φ r)=_;rw[hd];exact h2,h3⟩
theorem dh(h:Ok Φ e ρ d)(k:aL Φ r (ρ.set i (.dat d)) fl R):aL Φ (.prim (cf Φ i e) r) ρ fl R :=
 j1 h.1 (by show(Fl.next,ρ.set i (.dat (den Φ e ρ)))=_;rw[h.2]) k
theorem qr(h:Ok Φ e ρ d)(hR:∀ρ,R ρ):aL Φ (.prim (et Φ e) r) ρ (.ret d) R :=
 ⟨⟨h.1,fun ρ2 e=>nomatch e⟩,ρ,by show(Fl.ret (den Φ e ρ),ρ)=_;rw[h.2],hR _⟩
theorem uO{S:SX}(hx:x=(.next,ρ1))(h:aL Φ r ρ1 fl R):(∀ρ',x=(.next,ρ')->aM Φ r ρ')/\∃ρ',fm x (av Φ r)=(fl,ρ')/\R ρ':=by
 subst hx
 obtain⟨h1,ρ',h2,h3⟩:=h
 exact⟨fun ρ2 e=>by cases e;exact h1,ρ',h2,h3⟩
theorem qs(hc:Ok Φ c ρ (.bool t))(ha:t=true->aL Φ a ρ .next R1)(hb:t=false->aL Φ b ρ .next R1)(k:∀ρ1,R1 ρ1->aL Φ r ρ1 fl R):aL Φ (.ite c a b r) ρ fl R:=by
 have ht:aA (den Φ c ρ)=t:=by rw[hc.2];rfl
 have hx:∃ρ1,(if aA (den Φ c ρ)=true then av Φ a ρ else av Φ b ρ)=(.next,ρ1)/\R1 ρ1:=by
  rw[ht]
  cases t with
  | true=>exact(ha rfl).2
  | false=>exact(hb rfl).2
 refine x12 hx fun ρ1 e1 h1=>?_
 refine al (uO (S:=a) e1 (k ρ1 h1)) fun k1 k2=>?_
 exact⟨⟨hc.1,by rw[hc.2];rfl,fun q=>(ha (ht.symm.trans q)).1,fun q=>(hb (ht.symm.trans q)).1,k1⟩,k2⟩
end
section
variable{Ψ Φ:List FEntry}{ρ:List SV}{fl:Fl}{R:List SV->Prop}{r:SX}
theorem nw{n i:Nat}{body:SX}{g:Nat->PQ}{Inv:Nat->List SV->Prop}(hi:fs Φ it ρ ((ah n).map g))(h0:Inv 0 ρ)
 (hb:∀k ρ,k<n->Inv k ρ->aL Φ body (aq false [i] (g k) ρ) .next (Inv (k+1))\/∃d,fl=.ret d/\aL Φ body (aq false [i] (g k) ρ) (.ret d) R)
 (k:∀ρ1,Inv n ρ1->aL Φ r ρ1 fl R):aL Φ (.for false [i] it body r) ρ fl R:=by
 have key:∀(m k:Nat) (ρ:List SV),k+m=n->Inv k ρ ->
  gj (fun d ρ=>bindP false [i] d/\aM Φ body (aq false [i] d ρ)) (fun d ρ=>av Φ body (aq false [i] d ρ)) ((List.range' k m).map g) ρ /\
  ((∃ρ',bY (fun d ρ=>av Φ body (aq false [i] d ρ)) ((List.range' k m).map g) ρ=(.next,ρ')/\Inv n ρ')\/∃d,fl=.ret d/\∃ρ',bY (fun d ρ=>av Φ body (aq false [i] d ρ)) ((List.range' k m).map g) ρ=(.ret d,ρ')/\R ρ'):=by
  intro m
  induction m with
  | zero=>exact fun k ρ e h=>⟨trivial,.inl ⟨ρ,rfl,e▸h⟩⟩
  | succ m ih =>
   intro k ρ e h
   rw[List.range'_succ,a9,pF,mI]
   rcases hb k ρ (by lia) h with⟨p,ρ',q,h'⟩ | ⟨d,ed,p,ρ',q,h'⟩
   ·rw[q]
    have:=ih (k+1) ρ' (by lia) h'
    exact⟨⟨⟨rfl,p⟩,this.1⟩,this.2⟩
   ·rw[q]
    exact⟨⟨⟨rfl,p⟩,trivial⟩,.inr ⟨d,ed,ρ',rfl,h'⟩⟩
 refine al (key n 0 ρ (kh n) h0) fun k1 k2=>?_
 rw[<- List.range_eq_range',<- hi.2]at k1 k2
 rcases k2 with⟨ρ',e,h'⟩ | ⟨d,ed,ρ',e,h'⟩
 ·refine al (uO (S:=body) e (k ρ' h')) fun m1 m2=>?_
  exact⟨⟨hi.1,k1,m1⟩,m2⟩
 ·subst ed
  refine⟨⟨hi.1,k1,fun ρ2 q=>?_⟩,ρ',?_,h'⟩
  ·rw[e]at q;cases q
  ·show fm (bY _ _ _) _=_
   rw[e];rfl
theorem ID(hc:Ok Φ c ρ (.bool false))(k:aL Φ r ρ fl R):aL Φ (.ite c a .skip r) ρ fl R :=
 qs (R1:=fun ρ1=>ρ1=ρ) hc (fun h=>nomatch h) (fun U=>eV rfl) fun ρ1 e=>e▸k
noncomputable def eX(Ψ Φ:List FEntry)(e:EX)(ρ:List SV)(d:PQ):Prop:=gt Ψ Φ e ρ/\bv Ψ Φ e ρ=d
theorem Ae(hl:dX Φ es ρ/\bE Φ es ρ=ds)(hp:(Ψ.getD f .nope).pre ds)(hv:(Ψ.getD f .nope).val ds=d):eX Ψ Φ (.rc f es) ρ d :=
 ⟨⟨hl.1,hl.2▸hp⟩,by show(Ψ.getD f .nope).val (bE Φ es ρ)=d;rw[hl.2];exact hv⟩
theorem IE(ha:eX Ψ Φ a ρ (.bool x))(hb:eX Ψ Φ b ρ (.bool y)):eX Ψ Φ (.and a b) ρ (.bool (x&&y)):=by
 refine⟨⟨ha.1,by rw[ha.2];rfl,fun U=>hb.1⟩,?_⟩
 show(if aA (bv Ψ Φ a ρ)then bv Ψ Φ b ρ else .bool false)=_
 rw[ha.2,hb.2]
 cases x<;>rfl
theorem IF(hc:tN Ψ Φ c ρ)(ht:iC Ψ Φ c ρ=false)(k:aL Φ r ρ fl R):aL Φ (.prim (kU Ψ Φ c a .skip) r) ρ fl R:=by
 refine j1 (ρ1:=ρ) ⟨hc,fun h=>absurd (ht.symm.trans h) Pl,fun U=>trivial⟩ ?_ k
 show(if iC Ψ Φ c ρ=true then av Φ a ρ else av Φ .skip ρ)=_
 rw[ht];rfl
theorem IG(h0:ρ.getD i .un=.own (.list l))(hl:l.length<=16777216)(h:Ok Φ e ρ d)(hD : .list (l++[d])=D)(k:aL Φ r (ρ.set i (.own D)) fl R):aL Φ (.prim (jM Φ i e) r) ρ fl R :=
 j1 ⟨by rw[h0];trivial,h.1,by rw[h0];exact hl⟩ (by show(Fl.next,ρ.set i (.own (.list (eu (ρ.getD i .un)++[den Φ e ρ]))))=_;rw[h0,h.2,<- hD];rfl) k
end
section
variable{α:Type}[BEq α]
noncomputable def iH(x:α):List α->Option (List α)
 | []=>none
 | y::r=>if(y==x)=true then some r else(iH x r).map (y::·)
theorem uP{x y:α}{r:List α}:iH x (y::r)=if(y==x)=true then some r else(iH x r).map (y::·):=rfl
noncomputable def cY:List α->List α->List α
 | acc,[]=>acc
 | acc,d::ds=>cY (if(acc.any fun y=>y==d)=true then acc else acc++[d]) ds
theorem uQ{acc ds:List α}{d:α}:cY acc (d::ds)=cY (if(acc.any fun y=>y==d)=true then acc else acc++[d]) ds:=rfl
noncomputable def iI:List α->List α->Option (List α)
 | [],t=>some t
 | x::xs,t=>(iH x t).bind (iI xs)
theorem uR{x:α}{xs t:List α}:iI (x::xs) t=(iH x t).bind (iI xs):=rfl
noncomputable def g9(a b:List α):Bool:=match iI (cY [] a) (cY [] b)with
 | some []=>true
 | _=>false
variable{g:α->PQ}(hg:∀x y,Qi (g x) (g y)=(x==y))
include hg
theorem Af(x:α):∀l:List α,dq (g x) (l.map g)=(iH x l).map (List.map g)
 | []=>rfl
 | y::l=>by
  rw[a9,zh,uP,hg,Af x l]
  cases y==x
  ·show Option.map _ (Option.map _ _)=Option.map _ (Option.map _ _);rw[Option.map_map,Option.map_map];rfl
  ·rfl
theorem Ag:∀(l t:List α),gW (l.map g) (t.map g)=(iI l t).map (List.map g)
 | [],_=>rfl
 | x::l,t=>by
  rw[a9,ud,uR,Af hg]
  cases iH x t with
  | none=>rfl
  | some r=>exact Ag l r
theorem ny:∀(l acc:List α),bh (acc.map g) (l.map g)=(cY acc l).map g
 | [],_=>rfl
 | x::l,acc=>by
  rw[a9,uc,uQ,List.any_map,show((fun y=>Qi y (g x)) ∘ g)=fun y=>y==x from funext fun y=>hg y x]
  cases acc.any fun y=>y==x
  ·exact(congrArg (fun z=>bh z _) (by rw[oG];rfl)).trans (ny l (acc++[x]))
  ·exact ny l acc
theorem IH(a b:List α):kY.val [.list (a.map g),.list (b.map g)]=.bool (g9 a b):=by
 show QV (ng (bh [] (a.map g)) (bh [] (b.map g)))=_
 rw[show bh [] (a.map g)=(cY [] a).map g from ny hg a [],show bh [] (b.map g)=(cY [] b).map g from ny hg b []]
 unfold ng g9
 rw[Ag hg]
 cases iI (cY [] a) (cY [] b)with
 | none=>rfl
 | some l=>cases l<;>rfl
end
theorem nz{α:Type}{f:α->PQ}{k:Nat}:∀ {l:List α},(∀x∈l,(f x).canLay0=true/\(f x).depth<=k)->QC (l.map f)=true/\Sb (l.map f)<=k
 | [],_=>⟨rfl,bx _⟩
 | x::l,h=>by
  have h1:=h x ak
  have h2:=nz (l:=l) fun y hy=>h y (ar _ hy)
  rw[a9,QC,Sb,h1.1,h2.1]
  exact⟨rfl,Nat.max_le.mpr ⟨h1.2,h2.2⟩⟩
theorem j2(l:List Nat):QC (l.map iD)=true/\Sb (l.map iD)<=0:=nz fun U U=>⟨rfl,aN _⟩
theorem uS(h:QC ds=true/\Sb ds<=k)(hk:k<=31):cy (.list ds):=⟨h.1,qO (aa h.2 hk)⟩
theorem lj(i:Int):cy (.int i):=⟨rfl,bx _⟩
theorem Ah{α:Type}{f:Nat->α}{n k:Nat}{d:α}(h:k<n):((ah n).map f).getD k d=f k:=by
 rw[aj,bK,List.getElem?_range h];rfl
theorem iJ(x y:Nat):Qi (iD x) (iD y)=(x==y):=by
 show(((x:Int))==((y:Int)))=(x==y)
 rw[e7,beq_iff_eq,beq_iff_eq];exact Int.ofNat_inj
section
variable{Φ:List FEntry}{ρ:List SV}{a b:IX}
theorem II(ha:pre Φ a true ρ/\den Φ a ρ=.list ds)(hi:Ok Φ b ρ (iD k))(hk:k<ds.length)(h6:ds.length<=1000000)(hd:ds.getD k .none=d):Ok Φ (.sub a b) ρ d:=by
 refine⟨⟨ha.1,hi.1,?_⟩,?_⟩
 ·rw[ha.2,hi.2]
  show -1000000000<=(k:Int)/\(k:Int)<=1000000000/\-(ds.length:Int)<=k/\(k:Int)<ds.length
  lia
 ·show mj (den Φ a ρ) (den Φ b ρ)=d
  rw[ha.2,hi.2,<- hd]
  show ds.getD (if(k:Int)<0 then _ else(k:Int).toNat) _=_
  rw[if_neg (by lia),lV]
theorem iK(ha:Ok Φ a ρ (.list ds))(hi:Ok Φ b ρ (iD k))(hk:k<ds.length)(h6:ds.length<=1000000)(hd:ds.getD k .none=d):Ok Φ (.sub a b) ρ d:=II ⟨cP ha.1,ha.2⟩ hi hk h6 hd
theorem qt(ha:Ok Φ a ρ (iD n))(hb:Ok Φ b ρ (LD l)):Ok Φ (.cmp .In a b) ρ (.bool (l.any (· == n))):=by
 refine⟨⟨cP ha.1,cP hb.1,?_⟩,?_⟩
 ·rw[ha.2,hb.2];exact⟨lj _,(j2 l).1⟩
 ·show QV (mc (den Φ a ρ) (den Φ b ρ))=_
  rw[ha.2,hb.2]
  show QV ((l.map iD).any fun y=>Qi y (iD n))=_
  rw[List.any_map,show((fun y=>Qi y (iD n)) ∘ iD)=fun y=>y==n from funext fun y=>iJ y n]
theorem qu(ha:Ok Φ a ρ (.list ds))(hd:cy (.list ds)):Ok Φ (.cmp .Eq a (.list .nil)) ρ (.bool ds.isEmpty)/\Ok Φ (.cmp .NotEq a (.list .nil)) ρ (.bool !ds.isEmpty):=by
 have h0:cy (.list []):=⟨rfl,by decide⟩
 have e:Qi (.list ds) (.list [])=ds.isEmpty:=by cases ds<;>rfl
 refine⟨⟨⟨cP ha.1,⟨trivial,bx _⟩,by rw[ha.2];exact⟨hd,h0⟩⟩,?_⟩,⟨cP ha.1,⟨trivial,bx _⟩,by rw[ha.2];exact⟨hd,h0⟩⟩,?_⟩
 ·show QV (Qi (den Φ a ρ) (.list []))=_
  rw[ha.2,e]
 ·show QV (!Qi (den Φ a ρ) (.list []))=_
  rw[ha.2,e]
theorem jo(ha:Ok Φ a ρ (.list ds))(h:ds.length<=16777216):Ok Φ (.len a) ρ (iD ds.length):=by
 refine⟨⟨cP ha.1,by rw[ha.2];exact h⟩,?_⟩
 show QT (i4 (den Φ a ρ))=_
 rw[ha.2];rfl
theorem qv(ha:Ok Φ a ρ (.list xs))(hb:Ok Φ b ρ (.list ys))(h:xs.length+ys.length<=16777216):Ok Φ (.bin .Add a b) ρ (.list (xs++ys)):=by
 refine⟨⟨ha.1,hb.1,by rw[ha.2,hb.2];exact⟨rfl,h⟩⟩,?_⟩
 show iZ .Add (den Φ a ρ) (den Φ b ρ)=_
 rw[ha.2,hb.2];rfl
theorem hA(hl:dX Φ es ρ/\bE Φ es ρ=ds)(hp:(Φ.getD f .nope).pre ds)(hv:(Φ.getD f .nope).val ds=d):Ok Φ (.call f es) ρ d :=
 ⟨⟨hl.1,hl.2▸hp⟩,by show(Φ.getD f .nope).val (bE Φ es ρ)=d;rw[hl.2];exact hv⟩
theorem j3(ha:Ok Φ a ρ d):dX Φ (.cons a .nil) ρ/\bE Φ (.cons a .nil) ρ=[d]:=⟨⟨ha.1,trivial⟩,congrArg (·::[]) ha.2⟩
theorem qw(ha:Ok Φ a ρ d)(hb:Ok Φ b ρ d'):dX Φ (.cons a (.cons b .nil)) ρ/\bE Φ (.cons a (.cons b .nil)) ρ=[d,d']:=⟨⟨ha.1,hb.1,trivial⟩,by show[den Φ a ρ,den Φ b ρ]=_;rw[ha.2,hb.2]⟩
end
theorem IK{ds:List PQ}{k:Nat}(ha:Ok Φ a ρ (.list ds))(h:ds.length<=16777216):Ok Φ (.slice a .nil (.cons (.lit (.int k)) .nil)) ρ (.list (ds.take k)):=by
 refine⟨⟨cP ha.1,trivial,trivial,by rw[ha.2];exact⟨h,rfl,rfl⟩⟩,?_⟩
 show kz (den Φ a ρ) .none (.int k)=_
 rw[ha.2]
 show RT ((ds.drop 0).take (Ru ds.length (k:Int) - 0))=_
 rw[xj,Nat.sub_zero,List.drop_zero,<- List.take_eq_take_min]
theorem Ai{α β:Type}{f g:α->List β}:∀ {l:List α},(∀x∈l,f x=g x)->l.flatMap f=l.flatMap g
 | [],_=>rfl
 | x::l,h=>by rw[j4,j4,h x ak,Ai fun y hy=>h y (ar _ hy)]
noncomputable def qx(a b:Nat):List (Nat × Nat):=(ah a).flatMap fun i=>(ah b).map fun j=>(i,j)
theorem uT(hi:i<a)(hj:j<b):(i,j)∈qx a b:=bW.mpr ⟨i,aw.mpr hi,aD.mpr ⟨j,aw.mpr hj,rfl⟩⟩
theorem Aj{α β:Type}{p:α->Bool}{f:α->β}{l:List α}:(!((l.filter p).map f).isEmpty)=l.any p:=by
 induction l with
 | nil=>rfl
 | cons x l ih =>
  rw[dv,Pq]
  cases p x
  ·exact ih
  ·rfl
section
variable{α:Type}[BEq α][LawfulBEq α]
theorem Ak:∀ {t:List α},x∈t->∃r,iH x t=some r/\(∀y,y∈t↔y=x\/y∈r)/\(t.Nodup->r.Nodup/\x∉r)
 | y::t,h=>by
  rw[uP]
  by_cases q:(y==x)=true
  ·rw[if_pos q]
   cases P9 q
   exact⟨t,rfl,fun z=>ae,fun n=>let c:=c6.mp n;⟨c.2,c.1⟩⟩
  ·rw[if_neg q]
   have hx:x∈t:=(ae.mp h).resolve_left fun e=>q (beq_iff_eq.mpr e.symm)
   refine x13 (Ak hx) fun r e h1 h2=>?_
   refine⟨y::r,by rw[e];rfl,fun z=>?_,fun n=>?_⟩
   ·rw[ae,ae,h1 z];exact or_left_comm
   ·refine al (c6.mp n) fun c1 c2=>?_
    refine al (h2 c2) fun d1 d2=>?_
    exact⟨c6.mpr ⟨fun z=>c1 ((h1 y).mpr (.inr z)),d1⟩,fun z=>(ae.mp z).elim (fun e=>q (beq_iff_eq.mpr e.symm)) d2⟩
theorem Al:∀ {t:List α},x∉t->iH x t=none
 | [],_=>rfl
 | y::t,h=>by
  rw[uP]
  rw[if_neg fun q:(y==x)=true=>h (ae.mpr (.inl (P9 q).symm)),Al fun z=>h (ar _ z)];rfl
theorem Am:∀ {l t:List α},l.Nodup->t.Nodup->(iI l t=some []↔∀x,x∈l↔x∈t)
 | [],t,_,_=>⟨fun h=>by cases h;exact fun x=>Iff.rfl,fun h=>congrArg some (List.eq_nil_iff_forall_not_mem.mpr fun x hx=>nomatch (h x).mpr hx)⟩
 | x::l,t,hl,ht=>by
  refine al (c6.mp hl) fun c1 c2=>?_
  by_cases hx:x∈t
  ·refine x13 (Ak hx) fun r e h1 h2=>?_
   refine al (h2 ht) fun d1 d2=>?_
   rw[uR]
   rw[e]
   refine(Am c2 d1).trans ⟨fun h y=>?_,fun h y=>?_⟩
   ·rw[ae,h1 y,h y]
   ·have:=h y
    rw[ae,h1 y]at this
    exact⟨fun q=>(this.mp (.inr q)).resolve_left fun z=>c1 (z▸q),fun q=>(this.mpr (.inr q)).resolve_left fun z=>d2 (z▸q)⟩
  ·rw[uR]
   rw[Al hx]
   exact⟨fun h=>(nomatch h),fun h=>absurd ((h x).mp ak) hx⟩
theorem jp:∀(l acc:List α),acc.Nodup->(cY acc l).Nodup/\∀x,x∈cY acc l↔x∈acc\/x∈l
 | [],acc,h=>⟨h,fun x=>(or_iff_left fun z=>nomatch z).symm⟩
 | d::l,acc,h=>by
  rw[uQ]
  by_cases q:(acc.any fun y=>y==d)=true
  ·rw[if_pos q]
   refine x12 (eH.mp q) fun y h1 h2=>?_
   cases P9 h2
   refine al (jp l acc h) fun a b=>?_
   refine⟨a,fun x=>(b x).trans ?_⟩
   rw[ae]
   exact⟨fun z=>z.imp id .inr,fun z=>z.elim .inl fun z=>z.elim (fun e=>.inl (e▸h1)) .inr⟩
  ·rw[if_neg q]
   have hd:d∉acc:=fun z=>q (eH.mpr ⟨d,z,beq_self_eq_true d⟩)
   refine al (jp l (acc++[d]) (de.mpr ⟨h,c6.mpr ⟨fun z=>(nomatch z),wi⟩,fun x hx y hy e=>hd (by rw[<- ai.mp hy,<- e];exact hx)⟩)) fun a b=>?_
   refine⟨a,fun x=>(b x).trans ?_⟩
   rw[au,ai,ae];exact or_assoc
theorem An{a b:List α}:g9 a b=true↔∀x,x∈a↔x∈b:=by
 have ha:=jp a [] wi
 have hb:=jp b [] wi
 have key:=Am ha.1 hb.1
 have e:g9 a b=true↔iI (cY [] a) (cY [] b)=some []:=by
  unfold g9
  cases iI (cY [] a) (cY [] b)with
  | none=>exact⟨fun h=>(nomatch h),fun h=>nomatch h⟩
  | some l=>cases l with
   | nil=>exact⟨fun U=>rfl,fun U=>rfl⟩
   | cons=>exact⟨fun h=>(nomatch h),fun h=>nomatch h⟩
 rw[e,key]
 refine forall_congr' fun x=>?_
 rw[ha.2 x,hb.2 x]
 simp
end
noncomputable def aE(l:List Nat):Nat:=l.foldr (fun x c=>cE (Nat.pow 2 x) c) 0
theorem eE(x:Nat):∀l:List Nat,(aE l).testBit x=true↔x∈l
 | []=>by show lP 0 x=true↔_;rw[Nat.zero_testBit];exact⟨fun h=>(nomatch h),fun h=>nomatch h⟩
 | y::l=>by
  show(2 ^ y ||| aE l).testBit x=true↔_
  rw[Nat.testBit_or,Pn,eE x l,Nat.testBit_two_pow,decide_eq_true_eq,ae,eq_comm]
theorem IL(a b:List Nat):g9 a b=bD (aE a) (aE b):=by
 rw[e7,An,PG]
 refine⟨fun h=>Nat.eq_of_testBit_eq fun i=>?_,fun h x=>?_⟩
 ·rw[e7,eE,eE];exact h i
 ·rw[<- eE,<- eE,h]
section
variable{S:Nat->List Nat}{N:Nat}
end
noncomputable def IM:IX:=(.bin .Add (.bin .Mod (.var 0) (.lit (.int 4))) (.lit (.int 1)))
noncomputable def IN:IX:=(.bin .Mod (.bin .FloorDiv (.var 0) (.lit (.int 4))) (.lit (.int 3)))
noncomputable def IO:IX:=(.list (.cons (.bin .Mod (.var 0) (.lit (.int 4))) (.cons (.bin .Mod (.bin .Add IM IN) (.lit (.int 4))) .nil)))
noncomputable def IP:SX:=(.prim (et [] IO) .skip)
noncomputable def nA:List Str:=[sS "x"]
noncomputable def nB:SX:=IP
noncomputable def IQ:IX:=(.call 0 (.cons (.var 0) .nil))
noncomputable def IR:IX:=(.cmp .Eq (.slice (.var 1) (.cons (.neg (.lit (.int 3))) .nil) .nil) (.lit (.str (sS ")\\Z"))))
noncomputable def IS:IX:=(.cmp .Eq (.slice (.var 1) .nil (.cons (.lit (.int 4)) .nil)) (.lit (.str (sS "(?s:"))))
noncomputable def IT:IX:=(.bop false (.cons IS (.cons IR .nil)))
noncomputable def IU:IX:=(.ite IT (.var 2) (.list .nil))
noncomputable def IV:SX:=(.prim (et [eU] IU) .skip)
noncomputable def IW:IX:=(.len (.var 1))
noncomputable def IY:IX:=(.cmp .Lt (.var 3) (.bin .Sub IW (.lit (.int 3))))
noncomputable def IZ:IX:=(.cmp .Eq (.sub (.var 1) (.var 3)) (.lit (.str (sS "\\"))))
noncomputable def Ja:IX:=(.ite IZ (.lit (.int 2)) (.lit (.int 1)))
noncomputable def Jb:IX:=(.slice (.var 1) (.cons (.var 3) .nil) (.cons (.bin .Add (.var 3) (.var 4)) .nil))
noncomputable def Jc:IX:=(.tup (.cons (.lit (.str (sS "."))) (.cons (.bin .Add (.lit (.str (sS "\\"))) (.var 6)) .nil)))
noncomputable def Jd:IX:=(.cmp .In Jb Jc)
noncomputable def Je:IX:=(.comp 2 false [5] (.seq (.var 2)) .nil (.gen false [6] (.seq (.lit (.str (sS "-+")))) (.cons Jd .nil) (.emit (.bin .Add (.var 5) (.var 6)))))
noncomputable def Jf:SX:=(.prim (cf [eU] 3 (.bin .Add (.var 3) (.var 4))) .skip)
noncomputable def Jg:SX:=(.prim (cf [eU] 2 Je) Jf)
noncomputable def Jh:SX:=(.prim (cf [eU] 4 Ja) Jg)
noncomputable def Ji:SX:=(.whl 64 IY Jh IV)
noncomputable def Jj:SX:=(.prim (yf [eU] [1,2,3] [(false,IQ),(false,(.list (.cons (.lit (.str (sS ""))) .nil))),(false,(.lit (.int 4)))]) Ji)
noncomputable def nE:List Str:=[sS "pattern",sS "text",sS "names",sS "k",sS "size"]
noncomputable def nG:SX:=Jj
noncomputable def Jk:IX:=(.cmp .NotEq (.sub (.var 0) (.var 1)) (.lit (.str (sS "?"))))
noncomputable def Jl:IX:=(.comp 1 false [1] (.range1 (.lit (.int 4))) (.cons Jk .nil) (.emit (.var 1)))
noncomputable def Jm:SX:=(.prim (et [] Jl) .skip)
noncomputable def nH:List Str:=[sS "pattern"]
noncomputable def nJ:SX:=Jm
noncomputable def dg(p k:Nat):Nat:=p / 3 ^ (3 - k) % 3
noncomputable def sg(d:Nat):Nat:=if d=0 then 43 else if d=1 then 45 else 63
noncomputable def PT(p:Nat):PQ:=.str ⟨((ah 4).map fun k=>sg (dg p k)).toArray⟩
noncomputable def cZ(p:Nat):List Nat:=(ah 4).filter fun k=>dg p k != 2
noncomputable def be(n:Nat):PQ:=.str ⟨((ah 4).map fun k=>if n.testBit k then 43 else 45).toArray⟩
noncomputable def Ao:List Nat:=[0,8,4,12,2,10,6,14,1,9,5,13,3,11,7,15]
noncomputable def TN(p:Nat):List Nat:=Ao.filter fun n=>(ah 4).all fun k=>dg p k==2||(dg p k==0)==n.testBit k
noncomputable def ED(x:Nat):PQ:=LD [x % 4,(x % 4+1+x / 4) % 4]
noncomputable def Jn(ρ:List SV):SB (aM [] nB ρ):=.rt (bk _ false ρ) rfl
noncomputable def Jo(ρ:List SV):SB (aM [] nJ ρ):=.rt (bk _ false ρ) rfl
noncomputable def Jp:(ds:List PQ)->SB (eU.pre ds)
 | [.str ⟨a⟩]=>⟨(a.toList.all fun c=>gX.any fun d=>bD d c)&&Nat.ble a.size 100,fun h=>aP h fun h1 h2=>⟨a.toList,rfl,fun c hc=>x12 (eH.mp (bC.mp h1 c hc)) fun d hd e=>lN e▸hd,gV h2⟩⟩
 | _=>.no
noncomputable def Jq(ρ:List SV):SB (aM [eU] nG ρ):=.nx (.and (.and (.and (ql _ ρ) (Jp _)) (.and (bk _ false ρ) (.and (bk _ false ρ) (.tt trivial)))) (.tt (gV rfl))) rfl
 (SB.whl (fun U=>.nx (bk _ false _) rfl (.nx (bk _ false _) rfl (.nx (bk _ false _) rfl .skip))) (fun U=>.rt (bk _ false _) rfl) _)
noncomputable def ll:FEntry:=nu (sS "_law_edge") 2 [] nB nA ((ah 12).map fun x=>[iD x])
noncomputable def lm:FEntry:=nu (sS "_law_told") 3 [] nJ nH ((ah 81).map fun p=>[PT p])
noncomputable def ln:FEntry:=nu (sS "_law_taken") 8 [eU] nG nE ((ah 81).map fun p=>[PT p])
theorem Jr:∀ds,ll.pre ds->ds.length=1/\aM [] nB (aS nA ds)/\(av [] nB (aS nA ds)).1=.ret (ll.val ds):=uG Jn (by kernel_rfl)
theorem Js:∀ds,lm.pre ds->ds.length=1/\aM [] nJ (aS nH ds)/\(av [] nJ (aS nH ds)).1=.ret (lm.val ds):=uG Jo (by kernel_rfl)
theorem Jt:∀ds,ln.pre ds->ds.length=1/\aM [eU] nG (aS nE ds)/\(av [eU] nG (aS nE ds)).1=.ret (ln.val ds):=uG Jq (by kernel_rfl)
theorem Ju:∀x∈ah 12,ll.val [iD x]=ED x:=CJ.mp (by kernel_rfl)
theorem Jv:∀p∈ah 81,lm.val [PT p]=LD (cZ p):=CJ.mp (by kernel_rfl)
theorem Ap:∀p∈ah 81,ln.val [PT p]=.list ((TN p).map be):=CJ.mp (by kernel_rfl)
section
variable{Φ:List FEntry}{ρ:List SV}{a b c:IX}{fl:Fl}{R:List SV->Prop}{r:SX}
theorem Jw(ha:Ok Φ a ρ (.str x))(hb:Ok Φ b ρ (.str y))(h:x.length+y.length<=16777216):Ok Φ (.bin .Add a b) ρ (.str (x++y)):=by
 refine⟨⟨ha.1,hb.1,by rw[ha.2,hb.2];exact⟨rfl,h⟩⟩,?_⟩
 show iZ .Add (den Φ a ρ) (den Φ b ρ)=_
 rw[ha.2,hb.2];rfl
theorem Aq(ha:Ok Φ a ρ (.int x))(hb:Ok Φ b ρ (.int y)):Ok Φ (.bin .Add a b) ρ (.int (x+y)):=by
 refine⟨⟨ha.1,hb.1,by rw[ha.2,hb.2];trivial⟩,?_⟩
 show iZ .Add (den Φ a ρ) (den Φ b ρ)=_
 rw[ha.2,hb.2];rfl
theorem uU(ha:Ok Φ a ρ (.int x))(hb:Ok Φ b ρ (.int y))(h : -65536<=x/\x<=65536):Ok Φ (.bin .Mult a b) ρ (.int (x * y)):=by
 refine⟨⟨ha.1,hb.1,by rw[ha.2,hb.2];exact .inl h⟩,?_⟩
 show iZ .Mult (den Φ a ρ) (den Φ b ρ)=_
 rw[ha.2,hb.2];rfl
theorem qy(ha:Ok Φ a ρ (.int x))(hb:Ok Φ b ρ (.int y)):Ok Φ (.cmp .Eq a b) ρ (.bool (x==y)):=by
 refine⟨⟨cP ha.1,cP hb.1,by rw[ha.2,hb.2];exact⟨lj _,lj _⟩⟩,?_⟩
 show QV (Qi (den Φ a ρ) (den Φ b ρ))=_
 rw[ha.2,hb.2];rfl
theorem Ar(ha:Ok Φ a ρ (.int x))(hb:Ok Φ b ρ (.int y)):Ok Φ (.cmp .Gt a b) ρ (.bool (decide (x > y))):=by
 refine⟨⟨cP ha.1,cP hb.1,by rw[ha.2,hb.2];trivial⟩,?_⟩
 show QV (i3 .Gt (den Φ a ρ) (den Φ b ρ))=_
 rw[ha.2,hb.2];rfl
theorem As(ha:Ok Φ a ρ d):Ok Φ (.list (.cons a .nil)) ρ (.list [d]):=⟨⟨⟨ha.1,trivial⟩,by show 1<=_;decide⟩,congrArg (fun d=>RT [d]) ha.2⟩
theorem j6(ha:Ok Φ a ρ d)(hb:Ok Φ b ρ d'):Ok Φ (.list (.cons a (.cons b .nil))) ρ (.list [d,d']) :=
 ⟨⟨⟨ha.1,hb.1,trivial⟩,by show 2<=_;decide⟩,by show RT [den Φ a ρ,den Φ b ρ]=_;rw[ha.2,hb.2]⟩
theorem uV(ha:Ok Φ a ρ (.bool x))(hb:Ok Φ (.bop false b) ρ (.bool y)):Ok Φ (.bop false (.cons a b)) ρ (.bool (x&&y)):=by
 have hn:em b=false:=by cases b<;>first | rfl | exact hb.1.elim
 refine⟨⟨ha.1,fun U=>⟨by rw[ha.2];rfl,fun U=>hb.1⟩⟩,?_⟩
 show(if em b=true then den Φ a ρ else if aA (den Φ a ρ)=false then .bool false else fh Φ false b ρ)=_
 rw[hn,ha.2,show fh Φ false b ρ=.bool y from hb.2]
 cases x<;>rfl
theorem At(ha:Ok Φ a ρ (.bool x)):Ok Φ (.bop false (.cons a .nil)) ρ (.bool x):=⟨⟨ha.1,fun h=>nomatch h⟩,ha.2⟩
theorem Au(ha:Ok Φ a ρ (iD k))(hk:k<=1000000):fs Φ (.range1 a) ρ ((ah k).map iD):=by
 refine⟨⟨ha.1,by rw[ha.2];show -1000000000<=(k:Int)/\(k:Int)<=1000000000;lia⟩,?_⟩
 show gG 0 (bM (den Φ a ρ) - 0).toNat=_
 rw[ha.2]
 exact(gZ (Φ:=Φ) (ρ:=ρ) hk).2
theorem Av{α:Type}{tup:Bool}{slots:List Nat}{it:IX}{body:SX}{xs:List α}{g:α->PQ}{Inv:List α->List SV->Prop}(hi:fs Φ it ρ (xs.map g))(hs:∀x∈xs,bindP tup slots (g x))(h0:Inv [] ρ)
 (hb:∀l x ρ,x∈xs->l.length<xs.length->Inv l ρ->aL Φ body (aq tup slots (g x) ρ) .next (Inv (l++[x]))) (k:∀ρ1,Inv xs ρ1->aL Φ r ρ1 fl R):aL Φ (.for tup slots it body r) ρ fl R:=by
 have key:∀(ys l:List α) (ρ:List SV),l++ys=xs->Inv l ρ ->
  gj (fun d ρ=>bindP tup slots d/\aM Φ body (aq tup slots d ρ)) (fun d ρ=>av Φ body (aq tup slots d ρ)) (ys.map g) ρ /\
  ∃ρ',bY (fun d ρ=>av Φ body (aq tup slots d ρ)) (ys.map g) ρ=(.next,ρ')/\Inv xs ρ':=by
  intro ys
  induction ys with
  | nil=>exact fun l ρ e h=>⟨trivial,ρ,rfl,by rw[<- e,dC];exact h⟩
  | cons y ys ih =>
   intro l ρ e h
   have hy:y∈xs:=e▸gz _ ak
   rw[a9,pF,mI]
   have hl:l.length<xs.length:=by rw[<- e,bj];exact Nat.lt_add_of_pos_right (Nat.succ_pos _)
   obtain⟨p,ρ',q,h'⟩:=hb l y ρ hy hl h
   rw[q]
   have:=ih (l++[y]) ρ' (by rw[CD];exact e) h'
   exact⟨⟨⟨hs y hy,p⟩,this.1⟩,this.2⟩
 refine al (key xs [] ρ rfl h0) fun k1 k2=>?_
 rw[<- hi.2]at k1 k2
 refine x12 k2 fun ρ' e h'=>?_
 refine al (uO (S:=body) e (k ρ' h')) fun m1 m2=>?_
 exact⟨⟨hi.1,k1,m1⟩,m2⟩
end
noncomputable def dP(p:Nat):Bool:=dg p 3 != 1&&p != 80
noncomputable def jq(p:Nat):PQ:=if p<81 then PT p else iD p
theorem Jx(h:p<81):jq p=PT p:=if_pos h
theorem Jy(x y:Nat):Qi (jq x) (jq y)=(x==y):=by
 have h:∀x<81,∀y<81,Qi (PT x) (PT y)=(x==y):=by decide +kernel
 have e:∀x<81,∀j:Int,Qi (PT x) (.int j)=false/\Qi (.int j) (PT x)=false:=fun x U j=>⟨rfl,rfl⟩
 unfold jq
 by_cases hx:x<81<;>by_cases hy:y<81
 ·rw[if_pos hx,if_pos hy];exact h x hx y hy
 ·rw[if_pos hx,if_neg hy];exact(beq_eq_false_iff_ne.mpr fun q:x=y=>hy (q▸hx)).symm
 ·rw[if_neg hx,if_pos hy];exact(beq_eq_false_iff_ne.mpr fun q:x=y=>hx (q▸hy)).symm
 ·rw[if_neg hx,if_neg hy];exact iJ x y
theorem Jz(p:Nat):(jq p).canLay0=true/\(jq p).depth<=0:=by
 have h:∀x<81,(PT x).canLay0=true/\(PT x).depth<=0:=by decide +kernel
 unfold jq
 split
 ·exact h p ‹_›
 ·exact⟨rfl,aN _⟩
theorem uW{g:Nat->PQ}(hg:∀x,(g x).canLay0=true/\(g x).depth<=0){l:List Nat}(h:l.length<=1000000):jV (l.map g):=⟨by rwa [ag],fun d hd=>by
 refine x12 (aD.mp hd) fun n U e2=>?_;subst e2;exact⟨(hg n).1,aa (hg n).2 (bx _)⟩⟩
noncomputable def JA:IX:=(.list (.cons (.lit (.str (sS ""))) (.cons (.lit (.int 0)) .nil)))
noncomputable def Aw:IX:=(.bin .Sub (.bin .Pow (.lit (.int 16)) (.var 3)) (.bin .Pow (.lit (.int 16)) (.var 2)))
noncomputable def qz:IX:=(.list (.cons (.bin .Add (.var 5) (.var 7)) (.cons (.bin .Add (.var 6) (.bin .Mult (.var 8) (.var 4))) .nil)))
noncomputable def uX:IX:=(.tup (.cons (.lit (.str (sS "?"))) (.cons (.lit (.int 0)) .nil)))
noncomputable def uY:IX:=(.tup (.cons (.lit (.str (sS "-"))) (.cons (.neg (.lit (.int 1))) .nil)))
noncomputable def uZ:IX:=(.tup (.cons (.lit (.str (sS "+"))) (.cons (.lit (.int 1)) .nil)))
noncomputable def Ax:IX:=(.comp 4 true [5,6] (.seq (.var 1)) .nil (.gen true [7,8] (.seq (.tup (.cons uZ (.cons uY (.cons uX .nil))))) .nil (.emit qz)))
noncomputable def JB:SX:=(.prim (cf [] 1 Ax) .skip)
noncomputable def JC:SX:=(.prim (cf [] 4 Aw) JB)
noncomputable def Ay:IX:=(.cmp .NotEq (.var 5) (.lit (.str (sS "????"))))
noncomputable def Az:IX:=(.cmp .NotEq (.sub (.var 5) (.lit (.int 3))) (.lit (.str (sS "-"))))
noncomputable def JD:IX:=(.cmp .Eq (.var 6) (.lit (.int 0)))
noncomputable def JE:IX:=(.bop false (.cons JD (.cons Az (.cons Ay .nil))))
noncomputable def JF:IX:=(.comp 2 true [5,6] (.seq (.var 1)) (.cons JE .nil) (.emit (.var 5)))
noncomputable def JG:SX:=(.prim (et [] JF) .skip)
noncomputable def JH:SX:=(.for true [2,3] (.seq (.var 0)) JC JG)
noncomputable def JI:SX:=(.prim (cf [] 1 (.list (.cons JA .nil))) JH)
noncomputable def nK:List Str:=[sS "edges",sS "rows",sS "tail",sS "head",sS "value"]
noncomputable def nM:SX:=JI
noncomputable def iL(j p:Nat):Str:=⟨((ah j).map fun k=>sg (p / 3 ^ (j - 1 - k) % 3)).toArray⟩
noncomputable def vI(x:Nat):Int:=16 ^ ((x % 4+1+x / 4) % 4) - 16 ^ (x % 4)
noncomputable def gy(d:Nat):Int:=if d=0 then 1 else if d=1 then -1 else 0
noncomputable def eY(v:Int)(l:List (Nat × Int)):List (Nat × Int):=l.flatMap fun q=>[0,1,2].map fun d=>(3 * q.1+d,q.2+gy d * v)
noncomputable def hG(xs:List Nat):List (Nat × Int):=xs.foldl (fun l x=>eY (vI x) l) [(0,0)]
noncomputable def rD(j:Nat)(q:Nat × Int):PQ:=.list [.str (iL j q.1),.int q.2]
theorem JJ(xs:List Nat)(x:Nat):hG (xs++[x])=eY (vI x) (hG xs):=List.foldl_append
theorem JK(h:∀q∈l,q.1<n):(∀q∈eY v l,q.1<3 * n)/\(eY v l).length=3 * l.length:=by
 refine⟨fun q hq=>?_,?_⟩
 ·refine x12 (bW.mp hq) fun z hz hq=>x12 (aD.mp hq) fun d hd e=>?_
  subst e
  have h1:=h z hz
  have h2:d<3:=by
   have:∀d∈[0,1,2],d<3:=by decide
   exact this d hd
  show 3 * z.1+d<3 * n
  lia
 ·unfold eY
  rw[List.length_flatMap]
  induction l with
  | nil=>rfl
  | cons z l ih =>
   rw[a9,List.sum_cons,ih fun q hq=>h q (ar _ hq)]
   exact(Nat.mul_succ 3 l.length).symm▸OK ..
theorem AA:∀(xs:List Nat) (l:List (Nat × Int)) (n:Nat),(∀q∈l,q.1<n)->(∀q∈xs.foldl (fun l x=>eY (vI x) l) l,q.1<3 ^ xs.length * n)/\(xs.foldl (fun l x=>eY (vI x) l) l).length=3 ^ xs.length * l.length
 | [],l,n,h=>⟨fun q hq=>by rw[Pr,Nat.pow_zero,Nat.one_mul];exact h q hq,(Nat.one_mul _).symm⟩
 | x::xs,l,n,h=>by
  have h1:=JK (v:=vI x) h
  have h2:=AA xs (eY (vI x) l) (3 * n) h1.1
  rw[dU,Nat.pow_succ,PH,PH,<- h1.2]
  exact h2
theorem qA(xs:List Nat):(∀q∈hG xs,q.1<3 ^ xs.length)/\(hG xs).length=3 ^ xs.length:=by
 have:=AA xs [(0,0)] 1 fun q hq=>by rw[ai.mp hq];exact Nat.zero_lt_one
 rw[Nat.mul_one]at this
 exact⟨this.1,this.2.trans (Nat.mul_one _)⟩
noncomputable def JL:List (Nat × Nat × Nat):=(ah 4).flatMap fun j=>(ah (3 ^ j)).flatMap fun p=>[0,1,2].map fun d=>(j,p,d)
theorem JM:∀x∈JL,iL x.1 x.2.1++⟨#[sg x.2.2]⟩=iL (x.1+1) (3 * x.2.1+x.2.2):=by decide +kernel
theorem JN(hj:j<4)(hp:p<3 ^ j)(hd:d∈[0,1,2]):iL j p++⟨#[sg d]⟩=iL (j+1) (3 * p+d) :=
 JM (j,p,d) (bW.mpr ⟨j,aw.mpr hj,bW.mpr ⟨p,aw.mpr hp,aD.mpr ⟨d,hd,rfl⟩⟩⟩)
noncomputable def JO(d:Nat):PQ:=.tuple [.str ⟨#[sg d]⟩,.int (gy d)]
section
variable{e z a b c d:SV}
theorem JP:∀x∈ah 12,Ok [] Aw [e,z,.dat (iD (x % 4)),.dat (iD ((x % 4+1+x / 4) % 4)),a] (.int (vI x)):=iF (by kernel_rfl)
theorem JQ(hj:j<4)(hl:∀q∈l,q.1<3 ^ j)(hn:l.length<=100):Ok [] Ax [e,.dat (.list (l.map (rD j))),a,b,.dat (.int v)] (.list ((eY v l).map (rD (j+1)))):=by
 have h:=uL (Φ:=[]) (ρ:=[e,.dat (.list (l.map (rD j))),a,b,.dat (.int v)]) (n:=4) (tup:=true) (slots:=[5,6]) (it:=.seq (.var 1)) (ifs:=.nil) (rest:=.gen true [7,8] (.seq (.tup (.cons uZ (.cons uY (.cons uX .nil))))) .nil (.emit qz))
  (xs:=l) (g:=rD j) (c:=fun U=>true) (F:=fun q=>[0,1,2].map fun d=>rD (j+1) (3 * q.1+d,q.2+gy d * v)) (cr ⟨trivial,rfl⟩) (fun q U=>⟨rfl,rfl⟩) (fun q U=>uI) (fun q hq U=>?_) ?_
 ·have e:(l.flatMap fun x=>if true=true then[0,1,2].map fun d=>rD (j+1) (3 * x.1+d,x.2+gy d * v)else[])=(eY v l).map (rD (j+1)):=by
   unfold eY
   rw[List.map_flatMap];rfl
  rw[e]at h
  exact h
 ·have hg:=IC (Φ:=[]) (ρ:=[e,.dat (.list (l.map (rD j))),a,b,.dat (.int v),.dat (.str (iL j q.1)),.dat (.int q.2),.un,.un]) (tup:=true) (slots:=[7,8]) (it:=.seq (.tup (.cons uZ (.cons uY (.cons uX .nil))))) (ifs:=.nil) (rest:=.emit qz)
   (xs:=[0,1,2]) (g:=JO) (c:=fun U=>true) (F:=fun d=>[rD (j+1) (3 * q.1+d,q.2+gy d * v)]) ⟨(uF _ _ _).2 rfl,rfl⟩ (fun d U=>⟨rfl,rfl⟩) (fun d U=>uI) (fun d hd U=>uJ ?_)
  ·exact hg
  ·show Ok [] qz [e,.dat (.list (l.map (rD j))),a,b,.dat (.int v),.dat (.str (iL j q.1)),.dat (.int q.2),.dat (.str ⟨#[sg d]⟩),.dat (.int (gy d))] (.list [.str (iL (j+1) (3 * q.1+d)),.int (q.2+gy d * v)])
   rw[<- JN hj (hl q hq) hd]
   refine j6 (Jw ⟨trivial,rfl⟩ ⟨trivial,rfl⟩ ?_) (Aq ⟨trivial,rfl⟩ (uU ⟨trivial,rfl⟩ ⟨trivial,rfl⟩ ?_))
   ·have:(iL j q.1).length=j:=by show(List.map _ _).toArray.size=j;rw[oR,ag,lU]
    rw[this];show j+1<=_;lia
   ·have:∀d∈[0,1,2],-65536<=gy d/\gy d<=65536:=by decide
    exact this d hd
 ·rw[List.length_flatMap]
  exact aa (li (B:=3) fun q U=>aN _) (aa (PD 3 hn) (by decide))
noncomputable def RL(xs:List Nat):List Nat:=((hG xs).filter fun q=>q.2==0&&dP q.1).map (·.1)
theorem JR:∀p∈ah 81,Ok [] Az [e,z,a,b,c,.dat (PT p),d] (.bool (dg p 3 != 1))/\Ok [] Ay [e,z,a,b,c,.dat (PT p),d] (.bool (p != 80)):=fun p hp =>
 ⟨iF (r:=fun p=>[e,z,a,b,c,.dat (PT p),d]) (f:=fun p=>.bool (dg p 3 != 1)) (by kernel_rfl) p hp,iF (r:=fun p=>[e,z,a,b,c,.dat (PT p),d]) (f:=fun p=>.bool (p != 80)) (by kernel_rfl) p hp⟩
theorem AB{xs:List Nat}(hl:xs.length=4)(hx:∀x∈xs,x<12):aL [] nM [.dat (.list (xs.map ED)),z,a,b,c] (.ret (.list ((RL xs).map PT))) fun U=>True:=by
 have hr:=qA xs
 rw[hl]at hr
 refine dh (d:=.list ((hG []).map (rD 0))) (jm (by kernel_rfl)) ?_
 refine Av (xs:=xs) (g:=ED) (Inv:=fun l ρ=>∃a b c,ρ=[.dat (.list (xs.map ED)),.dat (.list ((hG l).map (rD l.length))),a,b,c]) (cr ⟨trivial,rfl⟩) (fun x U=>⟨rfl,rfl⟩) ⟨_,_,_,rfl⟩ (fun l x ρ hm hk ζ=>ζ.elim fun a ζ=>ζ.elim fun b ζ=>ζ.elim fun c e=>?_) fun ρ ζ=>ζ.elim fun a ζ=>ζ.elim fun b ζ=>ζ.elim fun c e=>?_
 ·subst e
  have h0:=qA l
  rw[hl]at hk
  have hp:3 ^ l.length<=100:=aa (PE (by decide) (oz hk)) (by decide)
  refine dh (JP x (aw.mpr (hx x hm))) (dh (JQ hk h0.1 (aa (cH h0.2) hp)) (eV ⟨.dat (iD (x % 4)),.dat (iD ((x % 4+1+x / 4) % 4)),.dat (.int (vI x)),?_⟩))
  rw[JJ,bj];rfl
 ·subst e
  rw[hl,RL,hH]
  refine qr (uM (xs:=hG xs) (g:=rD 4) (f:=PT ∘ (·.1)) (c:=fun q=>q.2==0&&dP q.1) (cr ⟨trivial,rfl⟩) (fun q U=>⟨rfl,rfl⟩) (fun q hq=>?_) (fun q U U=>⟨trivial,rfl⟩) (by rw[hr.2];decide)) fun U=>trivial
  have h:=JR (e:=.dat (.list (xs.map ED))) (z:=.dat (.list ((hG xs).map (rD 4)))) (a:=a) (b:=b) (c:=c) (d:=.dat (.int q.2)) q.1 (aw.mpr (hr.1 q hq))
  exact uV (qy ⟨trivial,rfl⟩ ⟨trivial,rfl⟩) (uV h.1 (At h.2))
end
theorem JS(hl:xs.length=4)(h:p∈RL xs):p<81/\dP p=true:=by
 have hr:=qA xs
 rw[hl]at hr
 refine x12 (aD.mp h) fun q hq e=>?_
 subst e
 refine al (cW.mp hq) fun h1 h2=>?_
 exact⟨hr.1 q h1,(sV.mp h2).2⟩
theorem JT(hl:xs.length=4):(RL xs).length<=81:=by
 have hr:=qA xs
 rw[hl]at hr
 unfold RL
 rw[ag]
 exact aa (aV ..) (cH hr.2)
noncomputable def jr(n:Str)(k:Nat)(Φ:List FEntry)(S:SX)(V:List Str)(P:List PQ->Prop):FEntry:=⟨n,k,P,fun ds=>qm (av Φ S (aS V ds)).1⟩
theorem lp{n:Str}{k:Nat}{Φ:List FEntry}{S:SX}{V:List Str}{P:List PQ->Prop}{ds:List PQ}{d:PQ}(h:aL Φ S (aS V ds) (.ret d) fun U=>True):(jr n k Φ S V P).val ds=d:=by
 obtain⟨_,ρ',e,_⟩:=h
 show qm (av Φ S (aS V ds)).1=d
 rw[e];rfl
theorem nN{n:Str}{k m:Nat}{Φ:List FEntry}{S:SX}{V:List Str}{P:List PQ->Prop}(h:∀ds,P ds->ds.length=m/\∃d,aL Φ S (aS V ds) (.ret d) fun U=>True)(ds:List PQ)(hd:(jr n k Φ S V P).pre ds) :
 ds.length=m/\aM Φ S (aS V ds)/\(av Φ S (aS V ds)).1=.ret ((jr n k Φ S V P).val ds):=by
 obtain⟨h1,d,h2⟩:=h ds hd
 rw[lp h2]
 obtain⟨h3,ρ',e,_⟩:=h2
 exact⟨h1,h3,by rw[e]⟩
noncomputable def AC(ds:List PQ):Prop:=∃xs:List Nat,xs.length=4/\(∀x∈xs,x<12)/\ds=[.list (xs.map ED)]
noncomputable def lq:FEntry:=jr (sS "_law_rings") 4 [] nM nK AC
theorem JU:∀ds,lq.pre ds->ds.length=1/\aM [] nM (aS nK ds)/\(av [] nM (aS nK ds)).1=.ret (lq.val ds) :=
 nN fun ds h=>x13 h fun xs hl hx e=>by subst e;exact⟨rfl,_,AB hl hx⟩
theorem JV(hl:xs.length=4)(hx:∀x∈xs,x<12):lq.val [.list (xs.map ED)]=.list ((RL xs).map PT):=lp (AB hl hx)
noncomputable def JW:IX:=(.bin .FloorDiv (.var 2) (.bin .Pow (.lit (.int 2)) (.var 3)))
noncomputable def JX:IX:=(.bin .FloorDiv (.var 2) (.bin .Pow (.lit (.int 2)) (.var 4)))
noncomputable def u0:IX:=(.bin .Sub (.bin .Mod JW (.lit (.int 2))) (.bin .Mod JX (.lit (.int 2))))
noncomputable def u6:IX:=(.comp 2 true [3,4] (.seq (.var 0)) .nil (.emit (.sub (.lit (.str (sS "?+-"))) u0)))
noncomputable def AD:IX:=(.join (.lit (.str (sS ""))) u6)
noncomputable def JY:IX:=(.comp 1 false [2] (.range1 (.lit (.int 16))) .nil (.emit AD))
noncomputable def JZ:IX:=(.cmp .NotEq (.var 2) (.lit (.str (sS "????"))))
noncomputable def J0:IX:=(.cmp .NotEq (.sub (.var 2) (.lit (.int 3))) (.lit (.str (sS "-"))))
noncomputable def AE:IX:=(.bop false (.cons J0 (.cons JZ .nil)))
noncomputable def J1:IX:=(.call 0 (.cons (.var 1) .nil))
noncomputable def J2:IX:=(.comp 1 false [2] (.seq J1) (.cons AE .nil) (.emit (.var 2)))
noncomputable def J3:SX:=(.prim (et [bw] J2) .skip)
noncomputable def J4:SX:=(.prim (cf [bw] 1 JY) J3)
noncomputable def nP:List Str:=[sS "edges",sS "texts"]
noncomputable def nQ:SX:=J4
noncomputable def cd(n x:Nat):Nat:=if n.testBit (x % 4)==n.testBit ((x % 4+1+x / 4) % 4)then 2 else if n.testBit (x % 4)then 0 else 1
noncomputable def cc:List Nat->Nat->Nat
 | [a,b,c,d],n=>27 * cd n a+9 * cd n b+3 * cd n c+cd n d
 | _,_=>0
noncomputable def bf(d:Nat):PQ:=.str ⟨#[sg d]⟩
theorem nR(n x:Nat):cd n x<3:=by unfold cd;split<;>first | decide | (split<;>decide)
noncomputable def J5:List (Nat × Nat × Nat × Nat):=(ah 3).flatMap fun a=>(ah 3).flatMap fun b=>(ah 3).flatMap fun c=>(ah 3).map fun d=>(a,b,c,d)
theorem J6:∀q∈J5,(PT (27 * q.1+9 * q.2.1+3 * q.2.2.1+q.2.2.2),iP (27 * q.1+9 * q.2.1+3 * q.2.2.1+q.2.2.2) 81)=(.str (Rg (sS "") ([bf q.1,bf q.2.1,bf q.2.2.1,bf q.2.2.2].map cJ)),true):=CJ.mp (by kernel_rfl)
theorem u7(ha:a<3)(hb:b<3)(hc:c<3)(hd:d<3):PT (27 * a+9 * b+3 * c+d)=.str (Rg (sS "") ([bf a,bf b,bf c,bf d].map cJ))/\27 * a+9 * b+3 * c+d<81:=by
 have:=J6 (a,b,c,d) (bW.mpr ⟨a,aw.mpr ha,bW.mpr ⟨b,aw.mpr hb,bW.mpr ⟨c,aw.mpr hc,aD.mpr ⟨d,aw.mpr hd,rfl⟩⟩⟩⟩)
 exact⟨congrArg Prod.fst this,gV (congrArg Prod.snd this)⟩
theorem J7:∀a<3,(cJ (bf a)).length=1:=by decide +kernel
section
variable{e z a b c d:SV}{ρ:List SV}
theorem J8:∀x∈qx 16 12,Ok [bw] (.sub (.lit (.str (sS "?+-"))) u0) [e,z,.dat (iD x.1),.dat (iD (x.2 % 4)),.dat (iD ((x.2 % 4+1+x.2 / 4) % 4))] (bf (cd x.1 x.2)):=iF (by kernel_rfl)
theorem AF(hl:xs.length=4)(hx:∀x∈xs,x<12)(hn:n<16):Ok [bw] AD [.dat (.list (xs.map ED)),z,.dat (iD n)] (PT (cc xs n))/\cc xs n<81:=by
 have h:=uN (Φ:=[bw]) (ρ:=[.dat (.list (xs.map ED)),z,.dat (iD n)]) (n:=2) (tup:=true) (slots:=[3,4]) (it:=.seq (.var 0)) (e:=.sub (.lit (.str (sS "?+-"))) u0) (xs:=xs) (g:=ED) (f:=fun x=>bf (cd n x)) (cr ⟨trivial,rfl⟩) (fun x U=>⟨rfl,rfl⟩)
  (fun x hm=>J8 (n,x) (uT hn (hx x hm))) (by rw[hl];decide)
 have hp:∀l:List Nat,l.length=4->PT (cc l n)=.str (Rg (sS "") ((l.map fun x=>bf (cd n x)).map cJ))/\cc l n<81:=fun l hl=>match l,hl with
  | [a,b,c,d],_=>u7 (nR n a) (nR n b) (nR n c) (nR n d)
 refine⟨⟨⟨trivial,cP h.1,rfl,_,h.2,fun d hd=>?_,?_⟩,?_⟩,(hp xs hl).2⟩
 ·refine x12 (aD.mp hd) fun x U e2=>?_;subst e2;rfl
 ·show _+_ * 0<=_
  rw[Nat.mul_zero,Nat.add_zero,hH,hH]
  exact aa (li (B:=1) fun x U=>cH (J7 _ (nR n x))) (by rw[hl];decide)
 ·show QN (Rg (sS "") ((cz (den [bw] u6 _)).map cJ))=_
  rw[show den [bw] u6 _=_ from h.2]
  exact((hp xs hl).1).symm
noncomputable def CT(xs:List Nat):List Nat:=cY [] ((ah 16).map (cc xs))
noncomputable def CL(xs:List Nat):List Nat:=(CT xs).filter dP
theorem qD(hl:xs.length=4)(hx:∀x∈xs,x<12):∀p∈(ah 16).map (cc xs),p<81:=fun p hp=>by
 refine x12 (aD.mp hp) fun n hn e=>?_;subst e
 exact(AF (z:=.un) hl hx (aw.mp hn)).2
theorem AG{l:List Nat}(h:∀p∈l,p<81):l.map PT=l.map jq:=fx fun p hp=>(Jx (h p hp)).symm
theorem AH{Φ:List FEntry}{g:Nat->PQ}(hg:∀x y,Qi (g x) (g y)=(x==y))(hd:∀x,(g x).canLay0=true/\(g x).depth<=0){f:Nat}(hf:Φ.getD f .nope=bw){e:IX}{l:List Nat}(he:Ok Φ e ρ (.list (l.map g)))(hl:l.length<=1000000):Ok Φ (.call f (.cons e .nil)) ρ (.list ((cY [] l).map g)) :=
 hA (j3 he) (by rw[hf];exact⟨_,rfl,uW hd hl⟩) (by rw[hf];exact congrArg RT (ny hg l []))
theorem u9(l:List Nat):(cY [] l).length<=l.length:=by
 have:∀(l acc:List Nat),(cY acc l).length<=acc.length+l.length:=fun l=>by
  induction l with
  | nil=>exact fun acc=>aN _
  | cons x l ih =>
   intro acc
   rw[uQ]
   refine aa (ih _) ?_
   split
   ·exact fa (fV _) _
   ·rw[bj,BL,dU,o5,OK 1];exact aN _
 exact aa (this l []) (cH (kh _))
theorem J9:∀p∈ah 81,Ok [bw] AE [e,z,.dat (PT p)] (.bool (dP p)):=iF (by kernel_rfl)
theorem AI{xs:List Nat}(hl:xs.length=4)(hx:∀x∈xs,x<12):aL [bw] nQ [.dat (.list (xs.map ED)),z] (.ret (.list ((CL xs).map PT))) fun U=>True:=by
 have h8:∀p∈CT xs,p<81:=fun p hp=>qD hl hx p (((jp _ [] wi).2 p).mp hp |>.resolve_left fun h=>nomatch h)
 refine dh (jn (g:=iD) (f:=PT ∘ cc xs) (gZ (k:=16) (by decide)) (fun n hn=>(AF hl hx (aw.mp hn)).1) (by decide)) (qr (uM (g:=PT) (c:=dP) (cr ?_) (fun p U=>rfl) (fun p hp=>J9 p (aw.mpr (h8 p hp))) (fun p U U=>⟨trivial,rfl⟩) ?_) fun U=>trivial)
 ·rw[AG h8]
  refine AH Jy Jz rfl ⟨trivial,?_⟩ (by rw[ag,lU];decide)
  rw[<- AG (qD hl hx),hH];rfl
 ·exact aa (u9 _) (by rw[ag,lU];decide)
theorem Ka(hl:xs.length=4)(hx:∀x∈xs,x<12)(h:p∈CL xs):p<81/\dP p=true :=
 ⟨qD hl hx p (((jp _ [] wi).2 p).mp (cW.mp h).1 |>.resolve_left fun h=>nomatch h),(cW.mp h).2⟩
theorem Kb(xs:List Nat):(CL xs).length<=16:=aa (aV ..) (aa (u9 _) (by rw[ag,lU];decide))
end
noncomputable def lu:FEntry:=jr (sS "_law_cuts") 5 [bw] nQ nP AC
theorem Kc:∀ds,lu.pre ds->ds.length=1/\aM [bw] nQ (aS nP ds)/\(av [bw] nQ (aS nP ds)).1=.ret (lu.val ds) :=
 nN fun ds h=>x13 h fun xs hl hx e=>by subst e;exact⟨rfl,_,AI hl hx⟩
theorem Kd(hl:xs.length=4)(hx:∀x∈xs,x<12):lu.val [.list (xs.map ED)]=.list ((CL xs).map PT):=lp (AI hl hx)
noncomputable def Ke:IX:=(.cmp .In (.var 0) (.sub (.var 2) (.var 4)))
noncomputable def Kf:IX:=(.len (.var 1))
noncomputable def AJ:IX:=(.comp 1 false [4] (.range1 Kf) (.cons Ke .nil) (.emit (.sub (.sub (.var 1) (.var 4)) (.lit (.int 0)))))
noncomputable def Kg:IX:=(.call 0 (.cons (.var 3) .nil))
noncomputable def Kh:IX:=(.len Kg)
noncomputable def Ki:SX:=(.prim (et [bw] Kh) .skip)
noncomputable def Kj:SX:=(.prim (cf [bw] 3 AJ) Ki)
noncomputable def nS:List Str:=[sS "way",sS "told",sS "taken",sS "firsts"]
noncomputable def nT:SX:=Kj
noncomputable def Kk:IX:=(.cmp .NotIn (.var 6) (.var 0))
noncomputable def Kl:IX:=(.comp 1 false [6] (.range1 (.lit (.int 4))) (.cons Kk .nil) (.emit (.var 6)))
noncomputable def Km:IX:=(.cmp .In (.var 8) (.var 0))
noncomputable def Kn:IX:=(.comp 1 false [8] (.seq (.var 7)) (.cons Km .nil) (.emit (.var 8)))
noncomputable def Ko:IX:=(.cmp .Eq Kn (.list (.cons (.var 6) .nil)))
noncomputable def qE:IX:=(.cmp .Eq (.sub (.var 7) (.lit (.int 0))) (.var 6))
noncomputable def Kp:IX:=(.bop false (.cons qE (.cons Ko .nil)))
noncomputable def Kq:IX:=(.comp 1 false [7] (.seq (.var 2)) (.cons Kp .nil) (.emit (.var 7)))
noncomputable def Kr:IX:=(.cmp .NotEq Kq (.list .nil))
noncomputable def Ks:IX:=(.comp 1 false [6] (.seq (.var 0)) (.cons Kr .nil) (.emit (.var 6)))
noncomputable def Kt:IX:=(.cmp .In (.var 8) (.var 3))
noncomputable def Ku:IX:=(.comp 1 false [8] (.seq (.var 7)) (.cons Kt .nil) (.emit (.var 8)))
noncomputable def Kv:IX:=(.cmp .Eq Ku (.list (.cons (.var 6) .nil)))
noncomputable def Kw:IX:=(.bop false (.cons qE (.cons Kv .nil)))
noncomputable def Kx:IX:=(.comp 1 false [7] (.seq (.var 1)) (.cons Kw .nil) (.emit (.var 7)))
noncomputable def Ky:IX:=(.cmp .NotEq Kx (.list .nil))
noncomputable def Kz:IX:=(.comp 1 false [6] (.seq (.var 3)) (.cons Ky .nil) (.emit (.var 6)))
noncomputable def KA:SX:=(.prim (et [] (.list (.cons (.var 4) (.cons (.var 5) .nil)))) .skip)
noncomputable def KB:SX:=(.prim (cf [] 5 Kz) KA)
noncomputable def KC:SX:=(.prim (cf [] 4 Ks) KB)
noncomputable def KD:SX:=(.prim (cf [] 3 Kl) KC)
noncomputable def nU:List Str:=[sS "tree",sS "rings",sS "cuts",sS "out",sS "inner",sS "outer"]
noncomputable def nV:SX:=KD
section
variable{Φ:List FEntry}{ρ:List SV}{a b:IX}
theorem AK:∀l m:List Nat,Qi (LD l) (LD m)=(l==m)
 | [],[]=>rfl
 | [],_::_=>rfl
 | _::_,[]=>rfl
 | x::l,y::m=>by
  show(Qi (iD x) (iD y)&&Qi (LD l) (LD m))=(x==y&&l==m)
  rw[iJ,AK l m]
theorem qF(l:List Nat):cy (LD l):=uS (j2 l) (by decide)
theorem vd{g:Nat->PQ}{n:Nat}:∀ {l:List Nat},(∀y∈l,Qi (g y) (g n)=(y==n))->((l.map g).any fun y=>Qi y (g n))=l.any (· == n)
 | [],_=>rfl
 | y::l,h=>by rw[a9,Pq,Pq,h y ak,vd fun z hz=>h z (ar _ hz)]
theorem KG{g:Nat->PQ}{n:Nat}{l:List Nat}(ha:Ok Φ a ρ (g n))(hb:Ok Φ b ρ (.list (l.map g)))(h:∀y∈l,Qi (g y) (g n)=(y==n))(hd:∀y,(g y).canLay0=true/\(g y).depth<=0):Ok Φ (.cmp .In a b) ρ (.bool (l.any (· == n))):=by
 refine⟨⟨cP ha.1,cP hb.1,?_⟩,?_⟩
 ·rw[ha.2,hb.2];exact⟨⟨(hd n).1,aa (hd n).2 (bx _)⟩,(nz fun y U=>hd y).1⟩
 ·show QV (mc (den Φ a ρ) (den Φ b ρ))=_
  rw[ha.2,hb.2]
  exact congrArg QV (vd h)
theorem vf{n:Nat}{l:List Nat}(ha:Ok Φ a ρ (iD n))(hb:Ok Φ b ρ (LD l)):Ok Φ (.cmp .NotIn a b) ρ (.bool (!l.any (· == n))):=by
 refine⟨⟨cP ha.1,cP hb.1,?_⟩,?_⟩
 ·rw[ha.2,hb.2];exact⟨lj _,(j2 l).1⟩
 ·show QV (!mc (den Φ a ρ) (den Φ b ρ))=_
  rw[ha.2,hb.2]
  exact congrArg (fun b=>QV !b) (vd fun y U=>iJ y n)
theorem vg{l m:List Nat}(ha:Ok Φ a ρ (LD l))(hb:Ok Φ b ρ (LD m)):Ok Φ (.cmp .Eq a b) ρ (.bool (l==m)):=by
 refine⟨⟨cP ha.1,cP hb.1,by rw[ha.2,hb.2];exact⟨qF l,qF m⟩⟩,?_⟩
 show QV (Qi (den Φ a ρ) (den Φ b ρ))=_
 rw[ha.2,hb.2,AK]
theorem bQ{i:Nat}{d:PQ}(h:ρ.getD i .un=.dat d):Ok Φ (.var i) ρ d:=⟨by show SV.ok false _;rw[h];trivial,by show SV.data _=d;rw[h];rfl⟩
end
theorem KH(P:List Nat):(ah P.length).map (fun t=>P.getD t 0)=P:=List.ext_getElem (by rw[ag,lU]) fun i h1 h2=>by
 rw[List.getElem_map,List.getElem_range,aj,br h2];rfl
theorem KJ{β:Type}(P:List Nat)(c:Nat->Bool)(f:Nat->β):((ah P.length).filter fun t=>c (P.getD t 0)).map (fun t=>f (P.getD t 0))=(P.filter c).map f:=by
 conv=>rhs;rw[<- KH P]
 rw[Pu,hH];rfl
theorem nW{α β:Type}{f:α->β}{l:List α}{k:Nat}{d:β}{e:α}(h:k<l.length):(l.map f).getD k d=f (l.getD k e):=by
 rw[aj,aj,bK,br h];rfl
theorem KK{P:List Nat}{k:Nat}(h:k<P.length):P.getD k 0∈P:=by
 rw[aj,br h];exact PF h
noncomputable def gA(n:Nat):PQ:=if n<16 then be n else iD n
theorem vh{n:Nat}(h:n<16):gA n=be n:=if_pos h
theorem AL(n:Nat):(gA n).canLay0=true/\(gA n).depth<=0:=by
 have h:∀x<16,(be x).canLay0=true/\(be x).depth<=0:=by decide +kernel
 unfold gA
 split
 ·exact h n ‹_›
 ·exact⟨rfl,aN _⟩
theorem AM(x y:Nat):Qi (gA x) (gA y)=(x==y):=by
 have h:∀x<16,∀y<16,Qi (be x) (be y)=(x==y):=by decide +kernel
 unfold gA
 by_cases hx:x<16<;>by_cases hy:y<16
 ·rw[if_pos hx,if_pos hy];exact h x hx y hy
 ·rw[if_pos hx,if_neg hy];exact(beq_eq_false_iff_ne.mpr fun q:x=y=>hy (q▸hx)).symm
 ·rw[if_neg hx,if_pos hy];exact(beq_eq_false_iff_ne.mpr fun q:x=y=>hx (q▸hy)).symm
 ·rw[if_neg hx,if_neg hy];exact iJ x y
theorem AN{p n:Nat}(h:n∈TN p):n<16:=by
 have:∀n∈Ao,n<16:=by decide
 exact this n (cW.mp h).1
theorem KN(p:Nat):(TN p).map be=(TN p).map gA:=fx fun n hn=>(vh (AN hn)).symm
noncomputable def dQ(p:Nat):Nat:=(cZ p).getD 0 0
noncomputable def bc(p:Nat):PQ:=LD (cZ p)
noncomputable def dR(p:Nat):PQ:=.list ((TN p).map be)
noncomputable def bq(P:List Nat)(w:Nat):Nat:=(cY [] ((P.filter fun p=>(TN p).any (· == w)).map dQ)).length
theorem AO:∀p<80,0<(cZ p).length:=by decide +kernel
theorem AP{P:List Nat}(hP:∀p∈P,p<80)(hl:P.length<=100){w:Nat}(hw:w<16){z:SV}:aL [bw] nT [.dat (be w),.dat (.list (P.map bc)),.dat (.list (P.map dR)),z] (.ret (iD (bq P w))) fun U=>True:=by
 have hc:Ok [bw] AJ [.dat (be w),.dat (.list (P.map bc)),.dat (.list (P.map dR)),z] (LD ((P.filter fun p=>(TN p).any (· == w)).map dQ)):=by
  rw[LD,hH,<- KJ P (fun p=>(TN p).any (· == w)) (iD ∘ dQ)]
  refine eD (Au (k:=P.length) ?_ (aa hl (by decide))) (fun t ht=>?_) (fun t ht U=>?_) (by rw[lU];exact aa hl (by decide))
  ·have:=jo (Φ:=[bw]) (a:=.var 1) (ρ:=[.dat (be w),.dat (.list (P.map bc)),.dat (.list (P.map dR)),z]) (ds:=P.map bc) ⟨trivial,rfl⟩ (by rw[ag];exact aa hl (by decide))
   rw[ag]at this
   exact this
  ·have ht:=aw.mp ht
   have e:dR (P.getD t 0)=.list ((TN (P.getD t 0)).map gA):=congrArg RT (KN _)
   exact KG (g:=gA) ⟨trivial,(vh hw).symm⟩ (e▸iK (ds:=P.map dR) ⟨trivial,rfl⟩ ⟨trivial,rfl⟩ (by rw[ag];exact ht) (by rw[ag];exact aa hl (by decide)) (nW (e:=0) ht)) (fun y U=>AM y w) AL
  ·have ht:=aw.mp ht
   have h1:=AO _ (hP _ (KK ht))
   refine iK (k:=0) (ds:=(cZ (P.getD t 0)).map iD) (iK (ds:=P.map bc) ⟨trivial,rfl⟩ ⟨trivial,rfl⟩ (by rw[ag];exact ht) (by rw[ag];exact aa hl (by decide)) (nW (e:=0) ht)) ⟨trivial,rfl⟩ (by rw[ag];exact h1) (by rw[ag];exact aa (aV ..) (by decide)) (nW (e:=0) h1)
 have hn:((P.filter fun p=>(TN p).any (· == w)).map dQ).length<=100:=by rw[ag];exact aa (aV ..) hl
 refine dh hc (qr ?_ fun U=>trivial)
 have:=jo (AH (Φ:=[bw]) (f:=0) (e:=.var 3) (ρ:=[.dat (be w),.dat (.list (P.map bc)),.dat (.list (P.map dR)),.dat (LD ((P.filter fun p=>(TN p).any (· == w)).map dQ))]) iJ (fun U=>⟨rfl,aN _⟩) rfl ⟨trivial,rfl⟩ (aa hn (by decide))) (by rw[ag];exact aa (u9 _) (aa hn (by decide)))
 rw[ag]at this
 exact this
noncomputable def KO(ds:List PQ):Prop:=∃(P:List Nat) (w:Nat),(∀p∈P,p<80)/\P.length<=100/\w<16/\ds=[be w,.list (P.map bc),.list (P.map dR)]
noncomputable def lw:FEntry:=jr (sS "_law_least") 5 [bw] nT nS KO
theorem KP:∀ds,lw.pre ds->ds.length=3/\aM [bw] nT (aS nS ds)/\(av [bw] nT (aS nS ds)).1=.ret (lw.val ds) :=
 nN fun ds z=>z.elim fun P z=>z.elim fun w z=>z.elim fun h1 z=>z.elim fun h2 z=>z.elim fun h3 e=>by subst e;exact⟨rfl,_,AP h1 h2 h3⟩
theorem AQ{P:List Nat}(hP:∀p∈P,p<80)(hl:P.length<=100){w:Nat}(hw:w<16):lw.val [be w,.list (P.map bc),.list (P.map dR)]=iD (bq P w):=lp (AP hP hl hw)
noncomputable def bR(T:List Nat)(k:Nat):Bool:=T.any (· == k)
noncomputable def vi(S T:List Nat):List Nat:=S.filter (bR T)
noncomputable def iM(T:List Nat):List Nat:=(ah 4).filter fun k=>!bR T k
noncomputable def j7(P T:List Nat)(k:Nat):Bool:=P.any fun p=>dQ p==k&&vi (cZ p) T==[k]
noncomputable def lx(R C T:List Nat):List Nat × List Nat:=(T.filter (j7 C T),(iM T).filter (j7 R (iM T)))
section
variable{P T:List Nat}{ρ:List SV}
theorem qG(p:Nat):(cZ p).length<=4:=aV ..
theorem KQ{α:Type}{f:α->List Nat}(l:List α):QC (l.map fun x=>LD (f x))=true/\Sb (l.map fun x=>LD (f x))<=1:=nz fun x U=>⟨(j2 (f x)).1,qO (j2 (f x)).2⟩
theorem KR{Φ:List FEntry}{a b:IX}{p k:Nat}(ha:Ok Φ a ρ (bc p))(hb:Ok Φ b ρ (iD k))(hp:p<80):Ok Φ (.cmp .Eq (.sub a (.lit (.int 0))) b) ρ (.bool (dQ p==k)):=by
 have h1:=AO p hp
 have:=qy (iK (b:=.lit (.int 0)) (k:=0) (d:=iD (dQ p)) ha ⟨trivial,rfl⟩ (by rw[ag];exact h1) (by rw[ag];exact aa (qG p) (by decide)) (nW (e:=0) h1)) hb
 rwa [show(((dQ p:Nat):Int)==((k:Nat):Int))=(dQ p==k)from iJ (dQ p) k]at this
theorem AR{i j:Nat}{T:List Nat}{k:Nat}(hP:∀p∈P,p<80)(hl:P.length<=100)(hi:fs [] (.seq (.var i)) ρ (P.map bc))(hj:∀p e:SV,(ρ++[p,e]).getD j .un=.dat (LD T))(h6:∀p:SV,(ρ++[p]).getD 6 .un=.dat (iD k))(hn:ρ.length=7) :
 Ok [] (.cmp .NotEq (.comp 1 false [7] (.seq (.var i)) (.cons (.bop false (.cons qE (.cons (.cmp .Eq (.comp 1 false [8] (.seq (.var 7)) (.cons (.cmp .In (.var 8) (.var j)) .nil) (.emit (.var 8))) (.list (.cons (.var 6) .nil))) .nil))) .nil) (.emit (.var 7))) (.list .nil)) ρ (.bool (j7 P T k)):=by
 have s7:∀d,aq false [7] d (ρ++ba 1 .un)=ρ++[.dat d]:=fun d=>by
  show(ρ++[SV.un]).set 7 (.dat d)=_
  rw[List.set_append_right (h:=cH hn),hn];rfl
 have g7:∀d:SV,(ρ++[d]).getD 7 .un=d:=fun d=>by rw[aj,gD (cH hn),hn];rfl
 have h:=eD (n:=1) (slot:=7) (q:=.bop false (.cons qE (.cons (.cmp .Eq (.comp 1 false [8] (.seq (.var 7)) (.cons (.cmp .In (.var 8) (.var j)) .nil) (.emit (.var 8))) (.list (.cons (.var 6) .nil))) .nil))) (e:=.var 7) (g:=bc) (f:=bc) (c:=fun p=>dQ p==k&&vi (cZ p) T==[k]) hi
  (fun p hp=>?_) (fun p U U=>by rw[s7];exact bQ (g7 _)) (aa hl (by decide))
 ·have:=(qu h (uS (KQ (f:=cZ) _) (by decide))).2
  rwa [Aj]at this
 ·rw[s7]
  have s8:∀d,aq false [8] d ((ρ++[.dat (bc p)])++ba 1 .un)=ρ++[.dat (bc p),.dat d]:=fun d=>by
   show((ρ++[SV.dat (bc p)])++[SV.un]).set 8 (.dat d)=_
   have:(ρ++[SV.dat (bc p)]).length=8:=by rw[bj,hn];rfl
   rw[List.set_append_right (h:=cH this),this,CD];rfl
  have g8:∀d:SV,(ρ++[.dat (bc p),d]).getD 8 .un=d:=fun d=>by rw[aj,gD (hn▸by decide),hn];rfl
  refine uV (KR (bQ (g7 _)) (bQ (h6 _)) (hP p hp)) (At (vg (eD (xs:=cZ p) (g:=iD) (f:=iD) (cr (bQ (g7 _))) (fun e U=>?_) (fun e U U=>?_) (aa (qG p) (by decide))) (As (bQ (h6 _)))))
  ·rw[s8];exact qt (bQ (g8 _)) (bQ (hj _ _))
  ·rw[s8];exact bQ (g8 _)
theorem AS{R C T:List Nat}(hR:∀p∈R,p<80)(hC:∀p∈C,p<80)(hlR:R.length<=100)(hlC:C.length<=100)(hT:T.length<=4){z1 z2 z3:SV}:aL [] nV [.dat (LD T),.dat (.list (R.map bc)),.dat (.list (C.map bc)),z1,z2,z3] (.ret (.list [LD (lx R C T).1,LD (lx R C T).2])) fun U=>True:=by
 have ho:(iM T).length<=4:=aa (aV ..) (by decide)
 refine dh (d:=LD (iM T)) (eD (gZ (k:=4) (by decide)) (fun k U=>vf ⟨trivial,rfl⟩ ⟨trivial,rfl⟩) (fun k U U=>⟨trivial,rfl⟩) (by decide)) ?_
 refine dh (d:=LD (T.filter (j7 C T))) (eD (cr ⟨trivial,rfl⟩) (fun k U=>AR hC hlC (cr ⟨trivial,rfl⟩) (fun U U=>rfl) (fun U=>rfl) rfl) (fun k U U=>⟨trivial,rfl⟩) (aa hT (by decide))) ?_
 exact dh (d:=LD ((iM T).filter (j7 R (iM T)))) (eD (cr ⟨trivial,rfl⟩) (fun k U=>AR hR hlR (cr ⟨trivial,rfl⟩) (fun U U=>rfl) (fun U=>rfl) rfl) (fun k U U=>⟨trivial,rfl⟩) (aa ho (by decide))) (qr (j6 ⟨trivial,rfl⟩ ⟨trivial,rfl⟩) fun U=>trivial)
end
noncomputable def KT(ds:List PQ):Prop:=∃R C T:List Nat,(∀p∈R,p<80)/\(∀p∈C,p<80)/\R.length<=100/\C.length<=100/\T.length<=4/\ds=[LD T,.list (R.map bc),.list (C.map bc)]
noncomputable def ly:FEntry:=jr (sS "_law_active") 5 [] nV nU KT
theorem KU:∀ds,ly.pre ds->ds.length=3/\aM [] nV (aS nU ds)/\(av [] nV (aS nU ds)).1=.ret (ly.val ds) :=
 nN fun ds z=>z.elim fun R z=>z.elim fun C z=>z.elim fun T z=>z.elim fun h1 z=>z.elim fun h2 z=>z.elim fun h3 z=>z.elim fun h4 z=>z.elim fun h5 e=>by subst e;exact⟨rfl,_,AS h1 h2 h3 h4 h5⟩
theorem KV{R C T:List Nat}(hR:∀p∈R,p<80)(hC:∀p∈C,p<80)(hlR:R.length<=100)(hlC:C.length<=100)(hT:T.length<=4):ly.val [LD T,.list (R.map bc),.list (C.map bc)]=.list [LD (lx R C T).1,LD (lx R C T).2]:=lp (AS hR hC hlR hlC hT)
noncomputable def AT:IX:=(.cmp .Eq (.sub (.var 1) (.var 3)) (.lit (.str (sS "+"))))
noncomputable def KW:SX:=(.prim (m9 [] 2 (.cons (.var 5) (.cons (.var 4) .nil))) .skip)
noncomputable def KX:SX:=(.prim (m9 [] 2 (.cons (.var 4) (.cons (.var 5) .nil))) .skip)
noncomputable def KY:SX:=(.ite AT KW KX .skip)
noncomputable def KZ:SX:=(.prim (mJ [] [4,5] (.sub (.var 0) (.var 3))) KY)
noncomputable def K0:SX:=(.prim (et [] (.lit (.bool false))) .skip)
noncomputable def K8:SX:=(.prim (kX 2 (.bool true)) K0)
noncomputable def K9:SX:=(.for false [3] (.range1 (.lit (.int 4))) KZ K8)
noncomputable def La:SX:=(.prim (tS 2) K9)
noncomputable def nX:List Str:=[sS "edges",sS "way",sS "sorter",sS "k",sS "tail",sS "head"]
noncomputable def nY:SX:=La
noncomputable def lz(x:Nat):Int:=(x % 4:Nat)
noncomputable def lA(x:Nat):Int:=((x % 4+1+x / 4) % 4:Nat)
noncomputable def jt(xs:List Nat)(w i:Nat):j0:=if w.testBit i=true then(lA (xs.getD i 0),[lz (xs.getD i 0)])else(lz (xs.getD i 0),[lA (xs.getD i 0)])
noncomputable def qH(xs:List Nat)(w k:Nat):List j0:=(ah k).map (jt xs w)
noncomputable def dD(xs:List Nat)(w k:Nat):Gr:=(qH xs w k).foldl ee []
theorem vj(xs:List Nat)(w:Nat)(hk:k<=8):Ab (qH xs w k):=by
 refine⟨by rw[qH,ag,lU];exact hk,fun r hr=>?_⟩
 refine x12 (aD.mp hr) fun i U e=>?_
 subst e
 unfold jt
 split<;>exact(by decide:1<=3)
theorem AU(xs:List Nat)(w k:Nat):dD xs w (k+1)=ee (dD xs w k) (jt xs w k):=by
 unfold dD qH
 rw[List.range_succ,oG,List.foldl_append];rfl
section
variable{Φ:List FEntry}{ρ:List SV}{r:SX}{fl:Fl}{R:List SV->Prop}
theorem vk{slots:List Nat}{e:IX}{d:PQ}(h:Ok Φ e ρ d)(h1:jE d=true)(h2:(cz d).length=slots.length)(k:aL Φ r (eL ρ slots (cz d)) fl R):aL Φ (.prim (mJ Φ slots e) r) ρ fl R :=
 j1 ⟨h.1,by rw[h.2];exact⟨h1,h2⟩⟩ (by show(Fl.next,eL ρ slots (cz (den Φ e ρ)))=_;rw[h.2]) k
theorem AV(h0:ρ.getD i .un=.sor ⟨g,none,0,0⟩)(hg:g.length<=32/\∀q∈g,q.2.2.length<=24)(ha:Ok Φ a ρ (.int x))(hb:Ok Φ b ρ (.int y))(k:aL Φ r (ρ.set i (.sor ⟨ee g (x,[y]),none,0,0⟩)) fl R):aL Φ (.prim (m9 Φ i (.cons a (.cons b .nil))) r) ρ fl R:=by
 have e:bE Φ (.cons a (.cons b .nil)) ρ=[.int x,.int y]:=(qw ha hb).2
 refine j1 ⟨(qw ha hb).1,?_⟩ ?_ k
 ·rw[e,h0]
  exact⟨⟨g,none,0,0⟩,x,[y],rfl,rfl,gV rfl,rfl,aa (dG hg.1 20) (by decide),fun q hq=>aa (dG (hg.2 q hq) 20) (by decide)⟩
 ·show(Fl.next,ρ.set i (tT (ρ.getD i .un) (bE Φ (.cons a (.cons b .nil)) ρ)))=_
  rw[e,h0];rfl
theorem Ld(h0:ρ.getD i .un=.sor ⟨g,none,0,0⟩)(hg:tU g)(hR:∀ρ,R ρ):aL Φ (.prim (kX i d) (.prim (et Φ (.lit e)) .skip)) ρ (.ret (if dp g=true then d else e)) R:=by
 have q:(kX i d).den ρ=(if dp g=true then .ret d else .next,ρ.set i (nc (.sor ⟨g,none,0,0⟩))):=by
  show(if qd (ρ.getD i .un)=true then _ else _,ρ.set i (nc (ρ.getD i .un)))=_
  rw[h0];rfl
 refine⟨⟨⟨_,h0,rfl,hg⟩,fun ρ' U=>⟨trivial,fun U U=>trivial⟩⟩,ρ.set i (nc (.sor ⟨g,none,0,0⟩)),?_,hR _⟩
 show fm ((kX i d).den ρ) _=_
 rw[q]
 cases dp g<;>rfl
end
section
variable{e z a b c d:SV}
theorem Lf:∀x∈qx 16 4,Ok [] AT [e,.dat (be x.1),z,.dat (iD x.2),a,b] (.bool (x.1.testBit x.2)):=iF (by kernel_rfl)
theorem AW(hl:xs.length=4)(hw:w<16):aL [] nY [.dat (.list (xs.map ED)),.dat (be w),z,a,b,c] (.ret (.bool (dp (dD xs w 4)))) fun U=>True:=by
 refine j1 (p:=tS 2) (ρ1:=[.dat (.list (xs.map ED)),.dat (be w),.sor ⟨dD xs w 0,none,0,0⟩,a,b,c]) trivial rfl ?_
 refine nw (n:=4) (g:=iD) (Inv:=fun k ρ=>∃a b c,ρ=[.dat (.list (xs.map ED)),.dat (be w),.sor ⟨dD xs w k,none,0,0⟩,a,b,c]) (gZ (k:=4) (by decide)) ⟨_,_,_,rfl⟩ (fun k ρ hk ζ=>ζ.elim fun a ζ=>ζ.elim fun b ζ=>ζ.elim fun c e=>.inl ?_) fun ρ ζ=>ζ.elim fun a ζ=>ζ.elim fun b ζ=>ζ.elim fun c e=>?_
 ·subst e
  have hu:=(nv (vj xs w (aa (Os hk) (by decide)))).1
  have hs:Ok [] (.sub (.var 0) (.var 3)) [.dat (.list (xs.map ED)),.dat (be w),.sor ⟨dD xs w k,none,0,0⟩,.dat (iD k),b,c] (ED (xs.getD k 0)) :=
   iK (ds:=xs.map ED) ⟨trivial,rfl⟩ ⟨trivial,rfl⟩ (by rw[ag,hl];exact hk) (by rw[ag,hl];decide) (nW (hl.symm▸hk))
  refine vk hs rfl rfl ?_
  refine qs (R1:=fun ρ=>∃a b c,ρ=[.dat (.list (xs.map ED)),.dat (be w),.sor ⟨dD xs w (k+1),none,0,0⟩,a,b,c]) (Lf (w,k) (uT hw hk)) (fun h=>?_) (fun h=>?_) fun ρ1 h=>eV h
  ·refine AV (x:=lA (xs.getD k 0)) (y:=lz (xs.getD k 0)) rfl ⟨hu.len,hu.sl⟩ ⟨trivial,rfl⟩ ⟨trivial,rfl⟩ (eV ⟨.dat (iD k),.dat (.int (lz (xs.getD k 0))),.dat (.int (lA (xs.getD k 0))),?_⟩)
   have h:w.testBit k=true:=h
   rw[AU,jt,if_pos h];rfl
  ·refine AV (x:=lz (xs.getD k 0)) (y:=lA (xs.getD k 0)) rfl ⟨hu.len,hu.sl⟩ ⟨trivial,rfl⟩ ⟨trivial,rfl⟩ (eV ⟨.dat (iD k),.dat (.int (lz (xs.getD k 0))),.dat (.int (lA (xs.getD k 0))),?_⟩)
   have h:w.testBit k=false:=h
   rw[AU,jt,if_neg (h▸Pl)];rfl
 ·subst e
  have:=Ld (Φ:=[]) (i:=2) (d:=.bool true) (e:=.bool false) (R:=fun U=>True) (ρ:=[.dat (.list (xs.map ED)),.dat (be w),.sor ⟨dD xs w 4,none,0,0⟩,a,b,c]) rfl (uH (vj xs w (k:=4) (by decide))) fun U=>trivial
  rw[show(if dp (dD xs w 4)=true then QV true else .bool false)=.bool (dp (dD xs w 4))from by cases dp (dD xs w 4)<;>rfl]at this
  exact this
end
noncomputable def Lg(ds:List PQ):Prop:=∃(xs:List Nat) (w:Nat),xs.length=4/\w<16/\ds=[.list (xs.map ED),be w]
noncomputable def lB:FEntry:=jr (sS "_law_raises") 4 [] nY nX Lg
theorem Lh:∀ds,lB.pre ds->ds.length=2/\aM [] nY (aS nX ds)/\(av [] nY (aS nX ds)).1=.ret (lB.val ds) :=
 nN fun ds ⟨xs,w,h1,h2,e⟩=>by subst e;exact⟨rfl,_,AW h1 h2⟩
theorem Li(hl:xs.length=4)(hw:w<16):lB.val [.list (xs.map ED),be w]=.bool (dp (dD xs w 4)):=lp (AW hl hw)
noncomputable def AX:IX:=(.list (.cons (.lit (.int 6)) (.cons (.lit (.int 0)) (.cons (.lit (.int 1)) (.cons (.lit (.int 9)) .nil)))))
noncomputable def qI:IX:=(.len (.slice (.var 0) .nil (.cons (.lit (.int 4)) .nil)))
noncomputable def AY:IX:=(.bin .Add (.slice (.var 0) .nil (.cons (.lit (.int 4)) .nil)) (.slice AX (.cons qI .nil) .nil))
noncomputable def Lj:IX:=(.call 0 (.cons (.bin .Mod (.var 23) (.lit (.int 12))) .nil))
noncomputable def AZ:IX:=(.comp 1 false [23] (.seq (.var 1)) .nil (.emit Lj))
noncomputable def Ll:IX:=(.bin .FloorDiv (.var 23) (.bin .Pow (.lit (.int 2)) (.var 24)))
noncomputable def Lm:IX:=(.comp 1 false [24] (.range1 (.lit (.int 4))) .nil (.emit (.sub (.lit (.str (sS "-+"))) (.bin .Mod Ll (.lit (.int 2))))))
noncomputable def Ln:IX:=(.join (.lit (.str (sS ""))) Lm)
noncomputable def A0:IX:=(.comp 1 false [23] (.range1 (.lit (.int 16))) .nil (.emit Ln))
noncomputable def A1:IX:=(.call 2 (.cons (.var 2) .nil))
noncomputable def A2:IX:=(.call 1 (.cons (.var 2) .nil))
noncomputable def Lo:IX:=(.call 4 (.cons (.var 24) .nil))
noncomputable def Lp:IX:=(.comp 1 false [24] (.seq (.var 23)) .nil (.emit Lo))
noncomputable def A3:IX:=(.comp 1 false [23] (.seq (.var 4)) .nil (.emit Lp))
noncomputable def Lq:IX:=(.call 3 (.cons (.var 24) .nil))
noncomputable def Lr:IX:=(.comp 1 false [24] (.seq (.var 23)) .nil (.emit Lq))
noncomputable def A4:IX:=(.comp 1 false [23] (.seq (.var 4)) .nil (.emit Lr))
noncomputable def Ls:IX:=(.call 5 (.cons (.var 23) (.cons (.var 5) (.cons (.var 7) .nil))))
noncomputable def Lu:IX:=(.call 5 (.cons (.var 23) (.cons (.var 6) (.cons (.var 8) .nil))))
noncomputable def A6:IX:=(.comp 1 false [23] (.seq (.slice (.var 3) (.cons (.lit (.int 8)) .nil) .nil)) .nil (.emit (.list (.cons Lu (.cons Ls .nil)))))
noncomputable def A7:IX:=(.cmp .Gt (.sub (.sub (.var 9) (.var 10)) (.lit (.int 1))) (.lit (.int 0)))
noncomputable def Lv:IX:=(.cmp .Eq (.sub (.sub (.var 3) (.var 12)) (.var 23)) (.lit (.str (sS "+"))))
noncomputable def vl:IX:=(.comp 1 false [23] (.range1 (.lit (.int 4))) (.cons Lv .nil) (.emit (.var 23)))
noncomputable def A8:IX:=(.cmp .NotIn (.var 24) (.var 13))
noncomputable def Lw:IX:=(.comp 1 false [24] (.seq (.var 23)) (.cons A8 .nil) (.emit (.var 24)))
noncomputable def Lx:IX:=(.cmp .Eq Lw (.list .nil))
noncomputable def Ly:IX:=(.comp 1 false [23] (.seq (.var 5)) (.cons Lx .nil) (.emit (.var 23)))
noncomputable def A9:IX:=(.cmp .Eq Ly (.list .nil))
noncomputable def Ba:IX:=(.cmp .In (.var 24) (.var 13))
noncomputable def Lz:IX:=(.comp 1 false [24] (.seq (.var 23)) (.cons Ba .nil) (.emit (.var 24)))
noncomputable def LA:IX:=(.cmp .Eq Lz (.list .nil))
noncomputable def LG:IX:=(.comp 1 false [23] (.seq (.var 6)) (.cons LA .nil) (.emit (.var 23)))
noncomputable def Bb:IX:=(.cmp .Eq LG (.list .nil))
noncomputable def Bc:IX:=(.call 6 (.cons (.var 13) (.cons (.var 5) (.cons (.var 6) .nil))))
noncomputable def LH:IX:=(.len (.var 25))
noncomputable def LI:IX:=(.len (.var 24))
noncomputable def Bd:IX:=(.comp 3 true [23,24,25] (.seq (.var 11)) .nil (.emit (.list (.cons LI (.cons LH .nil)))))
noncomputable def qJ:IX:=(.cmp .Eq (.var 23) (.list (.cons (.var 15) (.cons (.var 16) .nil))))
noncomputable def LJ:IX:=(.comp 1 false [23] (.seq (.var 9)) (.cons qJ .nil) (.emit (.var 23)))
noncomputable def Be:IX:=(.len LJ)
noncomputable def LK:IX:=(.comp 1 false [23] (.seq (.var 14)) (.cons qJ .nil) (.emit (.var 23)))
noncomputable def Bf:IX:=(.len LK)
noncomputable def LL:IX:=(.bin .Mult (.bin .Pow (.lit (.int 2)) (.bin .Add (.var 15) (.var 16))) Bf)
noncomputable def Bg:IX:=(.cmp .NotEq (.bin .Mult (.lit (.int 2)) Be) LL)
noncomputable def LM:IX:=(.cmp .Gt (.sub (.sub (.var 9) (.var 23)) (.lit (.int 1))) (.lit (.int 0)))
noncomputable def Bh:IX:=(.comp 1 false [23] (.range1 (.lit (.int 8))) (.cons LM .nil) (.emit (.var 23)))
noncomputable def LN:IX:=(.cmp .Eq (.sub (.sub (.var 9) (.var 23)) (.lit (.int 0))) (.lit (.int 0)))
noncomputable def Bi:IX:=(.comp 1 false [23] (.range1 (.lit (.int 8))) (.cons LN .nil) (.emit (.var 23)))
noncomputable def LO:IX:=(.cmp .NotIn (.lit (.int 0)) (.var 23))
noncomputable def LP:IX:=(.comp 1 false [23] (.seq (.var 14)) (.cons LO .nil) (.emit (.var 23)))
noncomputable def Bj:IX:=(.cmp .Eq LP (.list .nil))
noncomputable def LQ:IX:=(.cmp .In (.var 23) (.bin .Add (.var 20) (.var 21)))
noncomputable def LR:IX:=(.cmp .In (.var 23) (.var 13))
noncomputable def LS:IX:=(.ite LR (.lit (.str (sS "+"))) (.lit (.str (sS "-"))))
noncomputable def Bk:IX:=(.ite LQ (.lit (.str (sS "?"))) LS)
noncomputable def Bl:IX:=(.comp 1 false [23] (.range1 (.lit (.int 4))) .nil (.emit Bk))
noncomputable def LU:IX:=(.join (.lit (.str (sS ""))) (.var 22))
noncomputable def Bm:IX:=(.call 3 (.cons LU .nil))
noncomputable def LV:IX:=(.len (.var 19))
noncomputable def LW:IX:=(.cmp .Eq LV (.lit (.int 16)))
noncomputable def af:List FEntry:=[ll,lq,lu,ln,lm,lw,ly]
noncomputable def j8:List FEntry:=[kY,lB]
noncomputable def iN:List PQ:=(ah 16).map be
noncomputable def upd(z:Nat->SV)(i:Nat)(v:SV):Nat->SV:=fun j=>bif bD j i then v else z j
noncomputable abbrev ev(xs:List Nat)(R C:List Nat)(z:Nat->SV)(w9 w11 w14:SV):List SV :=
 [z 0,z 1,.dat (.list (xs.map ED)),.dat (.list iN),z 4,.dat (.list (R.map bc)),.dat (.list (C.map bc)),.dat (.list (R.map dR)),.dat (.list (C.map dR)),w9,z 10,w11,z 12,z 13,w14,z 15,z 16,z 17,z 18,z 19,z 20,z 21,z 22]
noncomputable abbrev ez(z:Nat->SV):List SV:=[z 0,z 1,z 2,z 3,z 4,z 5,z 6,z 7,z 8,z 9,z 10,z 11,z 12,z 13,z 14,z 15,z 16,z 17,z 18,z 19,z 20,z 21,z 22]
section
variable{xs R C:List Nat}{z:Nat->SV}{w9 w11 w14 a b:SV}
theorem LX(ns:List Int)(hl:ns.length<=63)(hz:z 0=.dat (.list (ns.map .int))):∃X:List Int,X.length=4/\Ok af AY (ez z) (.list (X.map .int)):=by
 unfold ez
 rw[hz]
 rcases ns with _ | ⟨a,_ | ⟨b,_ | ⟨c,_ | ⟨d,r⟩⟩⟩⟩
 ·exact⟨[6,0,1,9],rfl,jm (by kernel_rfl)⟩
 ·exact⟨[a,0,1,9],rfl,jm (by kernel_rfl)⟩
 ·exact⟨[a,b,1,9],rfl,jm (by kernel_rfl)⟩
 ·exact⟨[a,b,c,9],rfl,jm (by kernel_rfl)⟩
 ·refine⟨[a,b,c,d],rfl,?_⟩
  have h6:Ok af (.slice (.var 0) .nil (.cons (.lit (.int 4)) .nil)) [.dat (.list ((a::b::c::d::r).map .int)),z 1,z 2,z 3,z 4,z 5,z 6,z 7,z 8,z 9,z 10,z 11,z 12,z 13,z 14,z 15,z 16,z 17,z 18,z 19,z 20,z 21,z 22] (.list [.int a,.int b,.int c,.int d]) :=
   IK (ds:=(a::b::c::d::r).map .int) (k:=4) ⟨trivial,rfl⟩ (by rw[ag];exact aa hl (by decide))
  refine qv h6 (ys:=[]) ?_ (gV rfl)
  have hf:=jo h6 (gV rfl)
  exact⟨⟨(bk (Φ:=af) AX true _).2 rfl,hf.1,trivial,⟨gV rfl,by rw[show gH af (.cons qI .nil) _=iD 4 from hf.2];rfl,rfl⟩⟩,
   by show kz _ (gH af (.cons qI .nil) _) _=_;rw[show gH af (.cons qI .nil) _=iD 4 from hf.2];rfl⟩
noncomputable def kd(x:Int):Nat:=(Int.fmod x 12).toNat
theorem Bn(x:Int):kd x<12/\Int.fmod x 12=(kd x:Int):=by
 have h1:=Int.fmod_nonneg_of_pos x (b:=12) (by decide)
 have h2:=Int.fmod_lt_of_pos x (b:=12) (by decide)
 unfold kd
 lia
theorem LY{X:List Int}(hX:X.length<=100)(hz:z 1=.dat (.list (X.map .int))):Ok af AZ (ez z) (.list ((X.map kd).map ED)):=by
 unfold ez
 rw[hz,hH]
 refine jn (cr ⟨trivial,rfl⟩) (fun x U=>?_) (aa hX (by decide))
 refine al (Bn x) fun h1 h2=>?_
 exact hA (j3 (d:=iD (kd x)) ⟨⟨trivial,trivial,(by decide:(12:Int)≠0)⟩,congrArg QT h2⟩) (aD.mpr ⟨_,aw.mpr h1,rfl⟩) (Ju _ (aw.mpr h1))
theorem LZ:Ok af A0 (ez z) (.list iN):=jm (by kernel_rfl)
theorem L4(hl:xs.length=4)(hx:∀x∈xs,x<12)(hz:z 2=.dat (.list (xs.map ED))):Ok af (.list (.cons A2 (.cons A1 .nil))) (ez z) (.list [.list ((RL xs).map PT),.list ((CL xs).map PT)]):=by
 have hv:Ok af (.var 2) (ez z) (.list (xs.map ED)):=bQ hz
 exact j6 (hA (j3 hv) ⟨xs,hl,hx,rfl⟩ (JV hl hx)) (hA (j3 hv) ⟨xs,hl,hx,rfl⟩ (Kd hl hx))
theorem L5(hR:∀p∈R,p<81)(hC:∀p∈C,p<81)(hlR:R.length<=100)(hlC:C.length<=100)(hz:z 4=.dat (.list [.list (R.map PT),.list (C.map PT)])):Ok af A3 (ez z) (.list [.list (R.map bc),.list (C.map bc)]):=by
 unfold ez
 rw[hz]
 refine jn (xs:=[R,C]) (g:=fun P=>.list (P.map PT)) (f:=fun P=>.list (P.map bc)) (cr ⟨trivial,rfl⟩) (fun P hP=>?_) (by show 2<=_;decide)
 have h:(∀p∈P,p<81)/\P.length<=100:=by
  rcases ae.mp hP with rfl | hP
  ·exact⟨hR,hlR⟩
  ·rw[ai.mp hP];exact⟨hC,hlC⟩
 exact jn (cr ⟨trivial,rfl⟩) (fun p hp=>hA (j3 ⟨trivial,rfl⟩) (aD.mpr ⟨p,aw.mpr (h.1 p hp),rfl⟩) (Jv p (aw.mpr (h.1 p hp)))) (aa h.2 (by decide))
theorem L6(hR:∀p∈R,p<81)(hC:∀p∈C,p<81)(hlR:R.length<=100)(hlC:C.length<=100)(hz:z 4=.dat (.list [.list (R.map PT),.list (C.map PT)])):Ok af A4 (ez z) (.list [.list (R.map dR),.list (C.map dR)]):=by
 unfold ez
 rw[hz]
 refine jn (xs:=[R,C]) (g:=fun P=>.list (P.map PT)) (f:=fun P=>.list (P.map dR)) (cr ⟨trivial,rfl⟩) (fun P hP=>?_) (by show 2<=_;decide)
 have h:(∀p∈P,p<81)/\P.length<=100:=by
  rcases ae.mp hP with rfl | hP
  ·exact⟨hR,hlR⟩
  ·rw[ai.mp hP];exact⟨hC,hlC⟩
 exact jn (cr ⟨trivial,rfl⟩) (fun p hp=>hA (j3 ⟨trivial,rfl⟩) (aD.mpr ⟨p,aw.mpr (h.1 p hp),rfl⟩) (Ap p (aw.mpr (h.1 p hp)))) (aa h.2 (by decide))
noncomputable def wA(R C:List Nat)(t:Nat):List Nat:=[bq C (t+8),bq R (t+8)]
noncomputable def aZ(R C:List Nat):PQ:=.list ((ah 8).map fun t=>LD (wA R C t))
noncomputable def bt(n:Nat):List Nat:=(ah 4).filter n.testBit
theorem vm(n:Nat):(bt n).length<=4:=aV ..
noncomputable def b8(R C:List Nat)(n:Nat):List Nat:=(lx R C (bt n)).1
noncomputable def bV(R C:List Nat)(n:Nat):List Nat:=(lx R C (bt n)).2
noncomputable def b9(R C:List Nat)(n:Nat):PQ:=.list [LD (bt n),LD (b8 R C n),LD (bV R C n)]
noncomputable def dF(R C:List Nat)(n:Nat):Bool:=(!R.any fun p=>((cZ p).filter fun k=>!bR (bt n) k).isEmpty)&&!C.any fun p=>((cZ p).filter (bR (bt n))).isEmpty
noncomputable def bH(R C:List Nat)(n:Nat):List Nat:=[(b8 R C n).length,(bV R C n).length]
theorem L7(hR:∀p∈R,p<80)(hC:∀p∈C,p<80)(hlR:R.length<=100)(hlC:C.length<=100):Ok af A6 (ev xs R C z w9 w11 w14) (aZ R C):=by
 have hs:Ok af (.slice (.var 3) (.cons (.lit (.int 8)) .nil) .nil) (ev xs R C z w9 w11 w14) (.list ((ah 8).map fun t=>be (t+8))):=jm (by kernel_rfl)
 refine jn (cr hs) (fun t ht=>?_) (by decide)
 have ht:=aw.mp ht
 have hw:t+8<16:=Nat.add_lt_add_right ht 8
 have okL3:∀ {ρ:List SV} {a b c:IX} {d e f:PQ},Ok af a ρ d->Ok af b ρ e->Ok af c ρ f->dX af (.cons a (.cons b (.cons c .nil))) ρ/\bE af (.cons a (.cons b (.cons c .nil))) ρ=[d,e,f]:=fun ha hb hc=>⟨⟨ha.1,hb.1,hc.1,trivial⟩,by show[den af _ _,den af _ _,den af _ _]=_;rw[ha.2,hb.2,hc.2]⟩
 exact j6 (hA (okL3 ⟨trivial,rfl⟩ ⟨trivial,rfl⟩ ⟨trivial,rfl⟩) ⟨C,t+8,hC,hlC,hw,rfl⟩ (AQ hC hlC hw)) (hA (okL3 ⟨trivial,rfl⟩ ⟨trivial,rfl⟩ ⟨trivial,rfl⟩) ⟨R,t+8,hR,hlR,hw,rfl⟩ (AQ hR hlR hw))
theorem vn{ρ:List SV}{a:IX}{t:Nat}(h9:ρ.getD 9 .un=.dat (aZ R C))(ha:Ok af a ρ (iD t))(ht:t<8):Ok af (.sub (.sub (.var 9) a) (.lit (.int 1))) ρ (iD (bq R (t+8)))/\Ok af (.sub (.sub (.var 9) a) (.lit (.int 0))) ρ (iD (bq C (t+8))):=by
 have h:=iK (ds:=(ah 8).map fun t=>LD (wA R C t)) (bQ h9) ha ht (gV rfl) (Ah ht)
 exact⟨iK (k:=1) (ds:=(wA R C t).map iD) h ⟨trivial,rfl⟩ (by show 1<2;decide) (by show 2<=_;decide) rfl,iK (k:=0) (ds:=(wA R C t).map iD) h ⟨trivial,rfl⟩ (by show 0<2;decide) (by show 2<=_;decide) rfl⟩
theorem Bo(n:Nat):decide (((n:Nat):Int) > 0)=iP 0 n:=by
 rw[e7,decide_eq_true_eq]
 exact⟨fun h=>Nat.ble_eq_true_of_le (Int.ofNat_lt.mp h),fun h=>Int.ofNat_lt.mpr (gV h)⟩
theorem L8(n:Nat):(((n:Nat):Int)==0)=(n==0):=iJ n 0
theorem L9{t:Nat}(ht:t<8)(hz:z 10=.dat (iD t)):Ok af A7 (ev xs R C z (.dat (aZ R C)) w11 w14) (.bool (iP 0 (bq R (t+8)))):=by
 rw[<- Bo]
 exact Ar (vn (ρ:=ev xs R C z (.dat (aZ R C)) w11 w14) (a:=.var 10) rfl (bQ hz) ht).1 ⟨trivial,rfl⟩
theorem Ma:Ok af Bh (ev xs R C z (.dat (aZ R C)) w11 w14) (LD ((ah 8).filter fun t=>iP 0 (bq R (t+8)))) :=
 eD (gZ (k:=8) (by decide)) (fun t ht=>by rw[<- Bo];exact Ar (vn (ρ:=ev xs R C z (.dat (aZ R C)) w11 w14++[SV.dat (iD t)]) (a:=.var 23) rfl ⟨trivial,rfl⟩ (aw.mp ht)).1 ⟨trivial,rfl⟩) (fun t U U=>⟨trivial,rfl⟩) (by decide)
theorem Mb:Ok af Bi (ev xs R C z (.dat (aZ R C)) w11 w14) (LD ((ah 8).filter fun t=>bq C (t+8)==0)) :=
 eD (gZ (k:=8) (by decide)) (fun t ht=>by rw[<- L8];exact qy (vn (ρ:=ev xs R C z (.dat (aZ R C)) w11 w14++[SV.dat (iD t)]) (a:=.var 23) rfl ⟨trivial,rfl⟩ (aw.mp ht)).2 ⟨trivial,rfl⟩) (fun t U U=>⟨trivial,rfl⟩) (by decide)
theorem Mc(h15:z 15=.dat (iD i))(h16:z 16=.dat (iD j)):Ok af Be (ev xs R C z (.dat (aZ R C)) w11 w14) (iD ((ah 8).filter fun t=>wA R C t==[i,j]).length):=by
 have h:=eD (Φ:=af) (ρ:=ev xs R C z (.dat (aZ R C)) w11 w14) (n:=1) (slot:=23) (it:=.seq (.var 9)) (q:=qJ) (e:=.var 23) (xs:=ah 8) (g:=fun t=>LD (wA R C t)) (f:=fun t=>LD (wA R C t)) (c:=fun t=>wA R C t==[i,j]) (cr ⟨trivial,rfl⟩)
  (fun t U=>vg ⟨trivial,rfl⟩ (j6 (bQ h15) (bQ h16))) (fun t U U=>⟨trivial,rfl⟩) (by decide)
 have:=jo h (by rw[ag];exact aa (aV ..) (by decide))
 rwa [ag]at this
theorem Md{y:Nat->SV}:∀x∈ah 16,Ok af vl [y 0,y 1,y 2,.dat (.list iN),y 4,y 5,y 6,y 7,y 8,y 9,y 10,y 11,.dat (iD x),y 13,y 14,y 15,y 16,y 17,y 18,y 19,y 20,y 21,y 22] (LD (bt x)):=iF (by kernel_rfl)
theorem Me(hn:n<16)(hz:z 12=.dat (iD n)):Ok af vl (ev xs R C z w9 w11 w14) (LD (bt n)):=by
 unfold ev
 rw[hz]
 exact Md (y:=fun i=>(ev xs R C z w9 w11 w14).getD i .un) n (aw.mpr hn)
end
section
variable{Φ:List FEntry}{ρ:List SV}{a b c:IX}
theorem Mf(ha:Ok Φ a ρ (.int x))(hb:Ok Φ b ρ (.int y)):Ok Φ (.cmp .NotEq a b) ρ (.bool (!(x==y))):=by
 refine⟨⟨cP ha.1,cP hb.1,by rw[ha.2,hb.2];exact⟨lj _,lj _⟩⟩,?_⟩
 show QV (!Qi (den Φ a ρ) (den Φ b ρ))=_
 rw[ha.2,hb.2];rfl
theorem Bp(hc:Ok Φ c ρ (.bool t))(ha:t=true->Ok Φ a ρ d)(hb:t=false->Ok Φ b ρ d):Ok Φ (.ite c a b) ρ d:=by
 have ht:aA (den Φ c ρ)=t:=by rw[hc.2];rfl
 refine⟨⟨hc.1,by rw[hc.2];rfl,fun h=>(ha (ht.symm.trans h)).1,fun h=>(hb (ht.symm.trans h)).1⟩,?_⟩
 show(if aA (den Φ c ρ)=true then den Φ a ρ else den Φ b ρ)=d
 rw[ht]
 cases t with
 | true=>exact(ha rfl).2
 | false=>exact(hb rfl).2
theorem vo{α:Type}{f:α->PQ}{l:List α}{p:α->Bool}(ha:Ok Φ a ρ (.list ((l.filter p).map f)))(hd:∀x,(f x).canLay0=true/\(f x).depth<=1):Ok Φ (.cmp .Eq a (.list .nil)) ρ (.bool (!l.any p)):=by
 have:=(qu ha (uS (nz fun x U=>hd x) (by decide))).1
 rwa [show((l.filter p).map f).isEmpty=!l.any p from by rw[<- Aj (f:=f),Bool.not_not]]at this
theorem Mg(ha:Ok Φ a ρ (.list [bf d0,bf d1,bf d2,bf d3]))(h0:d0<3)(h1:d1<3)(h2:d2<3)(h3:d3<3):Ok Φ (.join (.lit (.str (sS ""))) a) ρ (PT (27 * d0+9 * d1+3 * d2+d3)):=by
 refine⟨⟨trivial,cP ha.1,rfl,_,ha.2,fun d hd=>?_,?_⟩,?_⟩
 ·rcases ae.mp hd with rfl | hd
  ·rfl
  rcases ae.mp hd with rfl | hd
  ·rfl
  rcases ae.mp hd with rfl | hd
  ·rfl
  rw[ai.mp hd];rfl
 ·show 1+(1+(1+(1+0)))+4 * 0<=_
  decide
 ·show QN (Rg (sS "") ((cz (den Φ a ρ)).map cJ))=_
  rw[ha.2]
  exact(u7 h0 h1 h2 h3).1.symm
end
theorem vq(l:List Nat):(LD l).canLay0=true/\(LD l).depth<=1:=⟨(j2 l).1,qO (j2 l).2⟩
noncomputable def pd(R C:List Nat)(n k:Nat):Nat:=if bR (b8 R C n++bV R C n) k=true then 2 else if bR (bt n) k=true then 0 else 1
noncomputable def dS(R C:List Nat)(n:Nat):Nat:=27 * pd R C n 0+9 * pd R C n 1+3 * pd R C n 2+pd R C n 3
theorem ju(R C:List Nat)(n k:Nat):pd R C n k<3:=by unfold pd;split<;>first | decide | (split<;>decide)
theorem Bq(R C:List Nat)(n:Nat):dS R C n<81:=(u7 (ju R C n 0) (ju R C n 1) (ju R C n 2) (ju R C n 3)).2
section
variable{xs R C L:List Nat}{z:Nat->SV}{w9 w11 w14 a b:SV}
theorem Mh{T:List Nat}(hl:R.length<=100)(hz:z 13=.dat (LD T)):Ok af A9 (ev xs R C z w9 w11 w14) (.bool (!R.any fun p=>((cZ p).filter fun k=>!bR T k).isEmpty)):=by
 refine vo (eD (g:=bc) (cr ⟨trivial,rfl⟩) (fun p U=>?_) (fun p U U=>⟨trivial,rfl⟩) (aa hl (by decide))) fun p=>vq (cZ p)
 have h:=eD (Φ:=af) (ρ:=ev xs R C z w9 w11 w14++[SV.dat (bc p)]) (n:=1) (slot:=24) (it:=.seq (.var 23)) (q:=A8) (e:=.var 24) (xs:=cZ p) (g:=iD) (f:=iD) (c:=fun k=>!bR T k) (cr ⟨trivial,rfl⟩) (fun k U=>vf ⟨trivial,rfl⟩ (bQ hz)) (fun k U U=>⟨trivial,rfl⟩) (aa (qG p) (by decide))
 have:=(qu h (qF _)).1
 rwa [List.isEmpty_map]at this
theorem Mi{T:List Nat}(hl:C.length<=100)(hz:z 13=.dat (LD T)):Ok af Bb (ev xs R C z w9 w11 w14) (.bool (!C.any fun p=>((cZ p).filter (bR T)).isEmpty)):=by
 refine vo (eD (g:=bc) (cr ⟨trivial,rfl⟩) (fun p U=>?_) (fun p U U=>⟨trivial,rfl⟩) (aa hl (by decide))) fun p=>vq (cZ p)
 have h:=eD (Φ:=af) (ρ:=ev xs R C z w9 w11 w14++[SV.dat (bc p)]) (n:=1) (slot:=24) (it:=.seq (.var 23)) (q:=Ba) (e:=.var 24) (xs:=cZ p) (g:=iD) (f:=iD) (c:=bR T) (cr ⟨trivial,rfl⟩) (fun k U=>qt ⟨trivial,rfl⟩ (bQ hz)) (fun k U U=>⟨trivial,rfl⟩) (aa (qG p) (by decide))
 have:=(qu h (qF _)).1
 rwa [List.isEmpty_map]at this
theorem Mj(hR:∀p∈R,p<80)(hC:∀p∈C,p<80)(hlR:R.length<=100)(hlC:C.length<=100)(hz:z 13=.dat (LD (bt n))):Ok af (.bin .Add (.list (.cons (.var 13) .nil)) Bc) (ev xs R C z w9 w11 w14) (b9 R C n):=by
 have okL3:∀ {ρ:List SV} {a b c:IX} {d e f:PQ},Ok af a ρ d->Ok af b ρ e->Ok af c ρ f->dX af (.cons a (.cons b (.cons c .nil))) ρ/\bE af (.cons a (.cons b (.cons c .nil))) ρ=[d,e,f]:=fun ha hb hc=>⟨⟨ha.1,hb.1,hc.1,trivial⟩,by show[den af _ _,den af _ _,den af _ _]=_;rw[ha.2,hb.2,hc.2]⟩
 exact qv (xs:=[LD (bt n)]) (ys:=[LD (b8 R C n),LD (bV R C n)]) (As (bQ hz)) (hA (okL3 (bQ hz) ⟨trivial,rfl⟩ ⟨trivial,rfl⟩) ⟨R,C,bt n,hR,hC,hlR,hlC,vm n,rfl⟩ (KV hR hC hlR hlC (vm n))) (by show 3<=_;decide)
theorem Br(n:Nat):(b8 R C n).length<=4:=aa (aV ..) (vm n)
theorem qK(n:Nat):(bV R C n).length<=4:=aa (aV ..) (aa (aV ..) (by decide))
theorem Mk(hl:L.length<=100):Ok af Bd (ev xs R C z w9 (.dat (.list (L.map (b9 R C)))) w14) (.list (L.map fun n=>LD (bH R C n))):=by
 refine uN (g:=b9 R C) (cr ⟨trivial,rfl⟩) (fun n U=>⟨rfl,rfl⟩) (fun n U=>?_) (aa hl (by decide))
 have h1:=jo (Φ:=af) (a:=.var 24) (ρ:=ev xs R C z w9 (.dat (.list (L.map (b9 R C)))) w14++[SV.dat (LD (bt n)),SV.dat (LD (b8 R C n)),SV.dat (LD (bV R C n))]) (ds:=(b8 R C n).map iD) ⟨trivial,rfl⟩ (by rw[ag];exact aa (Br n) (by decide))
 have h2:=jo (Φ:=af) (a:=.var 25) (ρ:=ev xs R C z w9 (.dat (.list (L.map (b9 R C)))) w14++[SV.dat (LD (bt n)),SV.dat (LD (b8 R C n)),SV.dat (LD (bV R C n))]) (ds:=(bV R C n).map iD) ⟨trivial,rfl⟩ (by rw[ag];exact aa (qK n) (by decide))
 rw[ag]at h1 h2
 exact j6 h1 h2
theorem Ml(hl:L.length<=100)(h15:z 15=.dat (iD i))(h16:z 16=.dat (iD j)):Ok af Bf (ev xs R C z w9 w11 (.dat (.list (L.map fun n=>LD (bH R C n))))) (iD (L.filter fun n=>bH R C n==[i,j]).length):=by
 have h:=eD (Φ:=af) (ρ:=ev xs R C z w9 w11 (.dat (.list (L.map fun n=>LD (bH R C n))))) (n:=1) (slot:=23) (it:=.seq (.var 14)) (q:=qJ) (e:=.var 23) (xs:=L) (g:=fun n=>LD (bH R C n)) (f:=fun n=>LD (bH R C n)) (c:=fun n=>bH R C n==[i,j]) (cr ⟨trivial,rfl⟩)
  (fun t U=>vg ⟨trivial,rfl⟩ (j6 (bQ h15) (bQ h16))) (fun t U U=>⟨trivial,rfl⟩) (aa hl (by decide))
 have:=jo h (by rw[ag];exact aa (aV ..) (aa hl (by decide)))
 rwa [ag]at this
theorem Mm{y:Nat->SV}:∀x∈qx 5 5,Ok af (.bin .Pow (.lit (.int 2)) (.bin .Add (.var 15) (.var 16))) [y 0,y 1,y 2,y 3,y 4,y 5,y 6,y 7,y 8,y 9,y 10,y 11,y 12,y 13,y 14,.dat (iD x.1),.dat (iD x.2),y 17,y 18,y 19,y 20,y 21,y 22] (iD (2 ^ (x.1+x.2))):=iF (by kernel_rfl)
theorem Mn{y:Nat->SV}:∀x∈ah 5,Ok af (.bin .Sub (.lit (.int 5)) (.var 15)) [y 0,y 1,y 2,y 3,y 4,y 5,y 6,y 7,y 8,y 9,y 10,y 11,y 12,y 13,y 14,.dat (iD x),y 16,y 17,y 18,y 19,y 20,y 21,y 22] (iD (5 - x)):=iF (by kernel_rfl)
theorem Mo(hi:i<5)(h15:z 15=.dat (iD i)):fs af (.range1 (.bin .Sub (.lit (.int 5)) (.var 15))) (ev xs R C z w9 w11 w14) ((ah (5 - i)).map iD):=by
 refine Au ?_ (aa (Nat.sub_le ..) (by decide))
 unfold ev
 rw[h15]
 exact Mn (y:=fun i=>(ev xs R C z w9 w11 w14).getD i .un) i (aw.mpr hi)
theorem Mp(hi:i<5)(hj:j<5)(hl:L.length<=100)(h15:z 15=.dat (iD i))(h16:z 16=.dat (iD j))(h:2 * ((ah 8).filter fun t=>wA R C t==[i,j]).length=2 ^ (i+j) * (L.filter fun n=>bH R C n==[i,j]).length):Ok af Bg (ev xs R C z (.dat (aZ R C)) w11 (.dat (.list (L.map fun n=>LD (bH R C n))))) (.bool false):=by
 have hp:Ok af (.bin .Pow (.lit (.int 2)) (.bin .Add (.var 15) (.var 16))) (ev xs R C z (.dat (aZ R C)) w11 (.dat (.list (L.map fun n=>LD (bH R C n))))) (iD (2 ^ (i+j))):=by
  unfold ev
  rw[h15,h16]
  exact Mm (y:=fun i=>(ev xs R C z (.dat (aZ R C)) w11 (.dat (.list (L.map fun n=>LD (bH R C n))))).getD i .un) (i,j) (uT hi hj)
 have hb:2 ^ (i+j)<=65536:=aa (PE (by decide) (oP (oz hi) (oz hj))) (by decide)
 have:=Mf (uU (a:=.lit (.int 2)) (x:=2) ⟨trivial,rfl⟩ (Mc (xs:=xs) (R:=R) (C:=C) (w11:=w11) (w14:=.dat (.list (L.map fun n=>LD (bH R C n)))) h15 h16) (by decide)) (uU hp (Ml (xs:=xs) (C:=C) (w9:=.dat (aZ R C)) (w11:=w11) hl h15 h16) ⟨Int.le_trans (by decide:(-65536:Int)<=0) (rI _),Int.ofNat_le.mpr hb⟩)
 rw[show((2:Int) * (((ah 8).filter fun t=>wA R C t==[i,j]).length:Int)==((2 ^ (i+j):Nat):Int) * ((L.filter fun n=>bH R C n==[i,j]).length:Int))=true from beq_iff_eq.mpr ((Int.natCast_mul 2 _).symm.trans ((congrArg (fun n:Nat=>(n:Int)) h).trans (Int.natCast_mul ..)))]at this
 exact this
theorem Mq(hl:L.length<=100):Ok af Bj (ev xs R C z w9 w11 (.dat (.list (L.map fun n=>LD (bH R C n))))) (.bool (!L.any fun n=>!bR (bH R C n) 0)) :=
 vo (eD (g:=fun n=>LD (bH R C n)) (cr ⟨trivial,rfl⟩) (fun n U=>vf (n:=0) ⟨trivial,rfl⟩ ⟨trivial,rfl⟩) (fun n U U=>⟨trivial,rfl⟩) (aa hl (by decide))) fun n=>vq _
theorem Mr(h13:z 13=.dat (LD (bt n)))(h20:z 20=.dat (LD (b8 R C n)))(h21:z 21=.dat (LD (bV R C n))):Ok af Bk (ev xs R C z w9 w11 w14++[SV.dat (iD k)]) (bf (pd R C n k)):=by
 have hc:=qv (Φ:=af) (a:=.var 20) (b:=.var 21) (xs:=(b8 R C n).map iD) (ys:=(bV R C n).map iD) (ρ:=ev xs R C z w9 w11 w14++[SV.dat (iD k)]) (bQ h20) (bQ h21) (by rw[ag,ag];exact aa (oP (Br n) (qK n)) (by decide))
 rw[<- oG]at hc
 have e2:QN (sS "?")=bf 2:=by kernel_rfl
 have e0:QN (sS "+")=bf 0:=by kernel_rfl
 have e1:QN (sS "-")=bf 1:=by kernel_rfl
 refine Bp (t:=bR (b8 R C n++bV R C n) k) (qt (n:=k) ⟨trivial,rfl⟩ hc) (fun h=>?_) fun h=>Bp (t:=bR (bt n) k) (qt (n:=k) ⟨trivial,rfl⟩ (bQ h13)) (fun h'=>?_) fun h'=>?_
 ·rw[pd,if_pos h];exact⟨trivial,e2⟩
 ·rw[pd,if_neg (fun q=>absurd (h.symm.trans q) Pl),if_pos h'];exact⟨trivial,e0⟩
 ·rw[pd,if_neg (fun q=>absurd (h.symm.trans q) Pl),if_neg (fun q=>absurd (h'.symm.trans q) Pl)];exact⟨trivial,e1⟩
theorem Ms(h13:z 13=.dat (LD (bt n)))(h20:z 20=.dat (LD (b8 R C n)))(h21:z 21=.dat (LD (bV R C n))):Ok af Bl (ev xs R C z w9 w11 w14) (.list [bf (pd R C n 0),bf (pd R C n 1),bf (pd R C n 2),bf (pd R C n 3)]) :=
 jn (xs:=ah 4) (f:=fun k=>bf (pd R C n k)) (gZ (k:=4) (by decide)) (fun k U=>Mr h13 h20 h21) (by decide)
theorem Mt(h22:z 22=.dat (.list [bf (pd R C n 0),bf (pd R C n 1),bf (pd R C n 2),bf (pd R C n 3)])):Ok af Bm (ev xs R C z w9 w11 w14) (.list ((TN (dS R C n)).map be)):=by
 have hm:=aw.mpr (Bq R C n)
 exact hA (j3 (Mg (bQ h22) (ju ..) (ju ..) (ju ..) (ju ..))) (aD.mpr ⟨_,hm,rfl⟩) (Ap _ hm)
end
noncomputable def Mu:SX:=(.prim (et af (.lit (.bool false))) .skip)
noncomputable def Bs:SX:=(.prim (kU j8 af (.cmp .IsNot (.rc 1 (.cons (.var 2) (.cons (.sub (.var 3) (.bin .Add (.var 10) (.lit (.int 8)))) .nil))) (.ix A7)) Mu .skip) .skip)
noncomputable def Mv:SX:=(.prim (jM af 11 (.bin .Add (.list (.cons (.var 13) .nil)) Bc)) .skip)
noncomputable def Mw:SX:=(.ite Bb Mv .skip .skip)
noncomputable def Bt:SX:=(.ite A9 Mw .skip .skip)
noncomputable def Bu:SX:=(.prim (cf af 13 vl) Bt)
noncomputable def Mx:SX:=(.prim (et af (.lit (.bool false))) .skip)
noncomputable def Bv:SX:=(.ite Bg Mx .skip .skip)
noncomputable def Bw:SX:=(.for false [16] (.range1 (.bin .Sub (.lit (.int 5)) (.var 15))) Bv .skip)
noncomputable def My:SX:=(.prim (et af (.lit (.bool false))) .skip)
noncomputable def Bx:SX:=(.prim (cf af 19 (.bin .Add (.var 19) Bm)) .skip)
noncomputable def By:SX:=(.prim (cf af 22 Bl) Bx)
noncomputable def Bz:SX:=(.prim (tP j8 af (.and (.ix LW) (.cmp .Is (.rc 0 (.cons (.var 19) (.cons (.var 3) .nil))) (.ix (.lit (.bool true)))))) .skip)
noncomputable def Mz:SX:=(.for true [13,20,21] (.seq (.var 11)) By Bz)
noncomputable def BA:SX:=(.prim (cf af 19 (.list .nil)) Mz)
noncomputable def BB:SX:=(.prim (kU j8 af (.cmp .IsNot (.rc 0 (.cons (.var 17) (.cons (.var 18) .nil))) (.ix Bj)) My .skip) BA)
noncomputable def BC:SX:=(.prim (cf af 18 Bi) BB)
noncomputable def BD:SX:=(.prim (cf af 17 Bh) BC)
noncomputable def BE:SX:=(.for false [15] (.range1 (.lit (.int 5))) Bw BD)
noncomputable def BF:SX:=(.prim (cf af 14 Bd) BE)
noncomputable def BG:SX:=(.for false [12] (.range1 (.lit (.int 16))) Bu (.frz 11 BF))
noncomputable def MA:SX:=(.prim (pL af 11 (.list .nil)) BG)
noncomputable def BH:SX:=(.for false [10] (.range1 (.lit (.int 8))) Bs MA)
noncomputable def qL:SX:=(.prim (cf af 9 A6) BH)
noncomputable def vr:SX:=(.prim (mJ af [7,8] A4) qL)
noncomputable def vt:SX:=(.prim (mJ af [5,6] A3) vr)
noncomputable def vu:SX:=(.prim (cf af 4 (.list (.cons A2 (.cons A1 .nil)))) vt)
noncomputable def vv:SX:=(.prim (cf af 3 A0) vu)
noncomputable def vw:SX:=(.prim (cf af 2 AZ) vv)
noncomputable def nZ:SX:=(.prim (cf af 1 AY) vw)
noncomputable def n0:List Str:=[sS "script",sS "numbers",sS "edges",sS "names",sS "patterns",sS "rings",sS "cuts",sS "passed",sS "closed",sS "ways",sS "t",sS "trees",sS "n",sS "tree",sS "counts",sS "i",sS "j",sS "turning",sS "whole",sS "taken",sS "inner",sS "outer",sS "signs"]
noncomputable def MB:SX:=nZ
section
variable{Ψ Φ:List FEntry}{ρ:List SV}{r:SX}{fl:Fl}{R:List SV->Prop}
theorem MD(h:eX Ψ Φ e ρ d)(hR:∀ρ,R ρ):aL Φ (.prim (tP Ψ Φ e) r) ρ (.ret d) R :=
 ⟨⟨h.1,fun ρ2 e=>nomatch e⟩,ρ,by show(Fl.ret (bv Ψ Φ e ρ),ρ)=_;rw[h.2],hR _⟩
theorem qM(h:Ok Φ e ρ d):eX Ψ Φ (.ix e) ρ d:=h
theorem ME(ha:eX Ψ Φ a ρ (.bool x))(hb:eX Ψ Φ b ρ (.bool y)):eX Ψ Φ (.cmp .Is a b) ρ (.bool (x==y)):=by
 refine⟨⟨ha.1,hb.1,by rw[ha.2,hb.2];trivial⟩,?_⟩
 show QV (i3 .Is (bv Ψ Φ a ρ) (bv Ψ Φ b ρ))=_
 rw[ha.2,hb.2];rfl
theorem BI(ha:eX Ψ Φ a ρ (.bool x))(hb:eX Ψ Φ b ρ (.bool x))(k:aL Φ r ρ fl R):aL Φ (.prim (kU Ψ Φ (.cmp .IsNot a b) t .skip) r) ρ fl R :=
 IF ⟨ha.1,hb.1,by rw[ha.2,hb.2];trivial⟩ (by show i3 .IsNot (bv Ψ Φ a ρ) (bv Ψ Φ b ρ)=_;rw[ha.2,hb.2];cases x<;>rfl) k
theorem MF(h0:ρ.getD i .un=.own d)(k:aL Φ r (ρ.set i (.dat d)) fl R):aL Φ (.frz i r) ρ fl R:=by
 obtain⟨h1,ρ',h2,h3⟩:=k
 have e:(ρ.getD i .un).data=d:=by rw[h0];rfl
 rw[<- e]at h1 h2
 exact⟨⟨by rw[h0];trivial,h1⟩,ρ',h2,h3⟩
end
noncomputable def TL(R C:List Nat):List Nat:=(ah 16).filter (dF R C)
noncomputable def TK(R C:List Nat)(l:List Nat):List Nat:=l.flatMap fun n=>TN (dS R C n)
structure Good(es R C:List Nat):Prop where
 hR:∀p∈R,p<80
 hC:∀p∈C,p<80
 lR:R.length<=100
 lC:C.length<=100
 le:es.length=4
 rai:∀t<8,dp (dD es (t+8) 4)=iP 0 (bq R (t+8))
 cnts:∀i<5,∀j<5 - i,2 * ((ah 8).filter fun t=>wA R C t==[i,j]).length=2 ^ (i+j) * ((TL R C).filter fun n=>bH R C n==[i,j]).length
 turn:g9 ((ah 8).filter fun t=>iP 0 (bq R (t+8))) ((ah 8).filter fun t=>bq C (t+8)==0)=!(TL R C).any fun n=>!bR (bH R C n) 0
 len:(TK R C (TL R C)).length=16
 all:g9 (TK R C (TL R C)) (ah 16)=true
theorem vx(R C:List Nat):(TL R C).length<=16:=aV ..
theorem MG(R C l:List Nat):∀n∈TK R C l,n<16:=fun n hn=>x12 (bW.mp hn) fun m U h=>AN h
theorem BJ{l:List Nat}(h:∀n∈l,n<16):l.map be=l.map gA:=fx fun n hn=>(vh (h n hn)).symm
theorem BK{g:Nat->PQ}(hg:∀x y,Qi (g x) (g y)=(x==y))(hd:∀x,(g x).canLay0=true/\(g x).depth<=0){l m:List Nat}(ha:Ok af a ρ (.list (l.map g)))(hb:Ok af b ρ (.list (m.map g)))(hl:l.length<=1000000)(hm:m.length<=1000000):eX j8 af (.rc 0 (.cons a (.cons b .nil))) ρ (.bool (g9 l m)) :=
 Ae (qw ha hb) ⟨_,_,rfl,uW hd hl,uW hd hm⟩ (IH hg l m)
noncomputable abbrev Gd(S:SX)(ρ:List SV):Prop:=aL af S ρ (.ret (.bool true)) fun U=>True
section
variable{es R C:List Nat}{z:Nat->SV}{w9 w11 w14:SV}(g:Good es R C)
include g
theorem MH(h:z 19=.dat (.list ((TK R C (TL R C)).map be))):Gd Bz (ev es R C z w9 w11 w14):=by
 have h19:Ok af (.var 19) (ev es R C z w9 w11 w14) (.list ((TK R C (TL R C)).map be)):=bQ h
 have h3:Ok af (.var 3) (ev es R C z w9 w11 w14) (.list ((ah 16).map be)):=bQ rfl
 have hc:=BK (a:=.var 19) (b:=.var 3) AM AL (BJ (MG R C (TL R C))▸h19) (BJ (l:=ah 16) (fun n hn=>aw.mp hn)▸h3) (by rw[g.len];decide) (by decide)
 rw[g.all]at hc
 have hn:=jo h19 (by rw[ag,g.len];decide)
 rw[ag,g.len]at hn
 exact MD (IE (qM (qy hn (b:=.lit (.int 16)) (y:=16) ⟨trivial,rfl⟩)) (ME hc (qM (e:=.lit (.bool true)) ⟨trivial,rfl⟩))) fun U=>trivial
theorem MI:Gd BA (ev es R C z (.dat (aZ R C)) (.dat (.list ((TL R C).map (b9 R C)))) w14):=by
 refine dh (d:=.list []) ⟨⟨trivial,bx _⟩,rfl⟩ ?_
 refine Av (xs:=TL R C) (g:=b9 R C) (Inv:=fun l ρ=>∃z',ρ=ev es R C z' (.dat (aZ R C)) (.dat (.list ((TL R C).map (b9 R C)))) w14/\z' 19=.dat (.list ((TK R C l).map be))) (cr ⟨trivial,rfl⟩) (fun n U=>⟨rfl,rfl⟩) ⟨upd z 19 (.dat (.list [])),rfl,rfl⟩ (fun l n ρ hn hl ζ=>ζ.elim fun z' ζ=>ζ.elim fun e h=>?_) fun ρ ζ=>ζ.elim fun z' ζ=>ζ.elim fun e h=>by subst e;exact MH g h
 subst e
 show aL af By (ev es R C (upd (upd (upd z' 13 (.dat (LD (bt n)))) 20 (.dat (LD (b8 R C n)))) 21 (.dat (LD (bV R C n)))) (.dat (aZ R C)) (.dat (.list ((TL R C).map (b9 R C)))) w14) _ _
 refine dh (Ms rfl rfl rfl) ?_
 show aL af Bx (ev es R C (upd (upd (upd (upd z' 13 (.dat (LD (bt n)))) 20 (.dat (LD (b8 R C n)))) 21 (.dat (LD (bV R C n)))) 22 (.dat (.list [bf (pd R C n 0),bf (pd R C n 1),bf (pd R C n 2),bf (pd R C n 3)]))) (.dat (aZ R C)) (.dat (.list ((TL R C).map (b9 R C)))) w14) _ _
 have hb:∀l:List Nat,(TK R C l).length<=l.length * 16:=fun l=>by
  unfold TK
  rw[List.length_flatMap]
  exact li fun n U=>aV ..
 refine dh (qv (bQ h) (Mt rfl) ?_) (eV ⟨upd (upd (upd (upd (upd z' 13 (.dat (LD (bt n)))) 20 (.dat (LD (b8 R C n)))) 21 (.dat (LD (bV R C n)))) 22 (.dat (.list [bf (pd R C n 0),bf (pd R C n 1),bf (pd R C n 2),bf (pd R C n 3)]))) 19 (.dat (.list ((TK R C l).map be++(TN (dS R C n)).map be))),rfl,?_⟩)
 ·rw[ag,ag]
  exact aa (oP (aa (hb l) (PD 16 (aa (Os hl) (vx R C)))) (aV ..)) (by decide)
 ·show SV.dat (.list ((TK R C l).map be++(TN (dS R C n)).map be))=_
  rw[<- oG,show TK R C l++TN (dS R C n)=TK R C (l++[n])from by unfold TK;rw[dB];exact congrArg _ (dC _).symm]
theorem MJ:Gd BD (ev es R C z (.dat (aZ R C)) (.dat (.list ((TL R C).map (b9 R C)))) (.dat (.list ((TL R C).map fun n=>LD (bH R C n))))):=by
 refine dh Ma ?_
 show Gd BC (ev es R C (upd z 17 (.dat (LD ((ah 8).filter fun t=>iP 0 (bq R (t+8)))))) (.dat (aZ R C)) (.dat (.list ((TL R C).map (b9 R C)))) (.dat (.list ((TL R C).map fun n=>LD (bH R C n)))))
 refine dh Mb ?_
 show Gd BB (ev es R C (upd (upd z 17 (.dat (LD ((ah 8).filter fun t=>iP 0 (bq R (t+8)))))) 18 (.dat (LD ((ah 8).filter fun t=>bq C (t+8)==0)))) (.dat (aZ R C)) (.dat (.list ((TL R C).map (b9 R C)))) (.dat (.list ((TL R C).map fun n=>LD (bH R C n)))))
 have hc:eX j8 af (.rc 0 (.cons (.var 17) (.cons (.var 18) .nil))) (ev es R C (upd (upd z 17 (.dat (LD ((ah 8).filter fun t=>iP 0 (bq R (t+8)))))) 18 (.dat (LD ((ah 8).filter fun t=>bq C (t+8)==0)))) (.dat (aZ R C)) (.dat (.list ((TL R C).map (b9 R C)))) (.dat (.list ((TL R C).map fun n=>LD (bH R C n))))) (.bool _) :=
  BK iJ (fun U=>⟨rfl,aN _⟩) (bQ rfl) (bQ rfl) (aa (aV ..) (by decide)) (aa (aV ..) (by decide))
 rw[g.turn]at hc
 exact BI hc (qM (Mq (aa (vx R C) (by decide)))) (MI g)
theorem MK:Gd BF (ev es R C z (.dat (aZ R C)) (.dat (.list ((TL R C).map (b9 R C)))) w14):=by
 have hl:=aa (vx R C) (by decide:16<=100)
 refine dh (Mk hl) ?_
 show Gd BE (ev es R C z (.dat (aZ R C)) (.dat (.list ((TL R C).map (b9 R C)))) (.dat (.list ((TL R C).map fun n=>LD (bH R C n)))))
 refine nw (n:=5) (g:=iD) (Inv:=fun k ρ=>∃z',ρ=ev es R C z' (.dat (aZ R C)) (.dat (.list ((TL R C).map (b9 R C)))) (.dat (.list ((TL R C).map fun n=>LD (bH R C n))))) (gZ (k:=5) (by decide)) ⟨z,rfl⟩ (fun i ρ hi ζ=>ζ.elim fun z' e=>.inl ?_) fun ρ ζ=>ζ.elim fun z' e=>by subst e;exact MJ g
 subst e
 show aL af Bw (ev es R C (upd z' 15 (.dat (iD i))) (.dat (aZ R C)) (.dat (.list ((TL R C).map (b9 R C)))) (.dat (.list ((TL R C).map fun n=>LD (bH R C n))))) _ _
 refine nw (n:=5 - i) (g:=iD) (Inv:=fun k ρ=>∃z',z' 15=.dat (iD i)/\ρ=ev es R C z' (.dat (aZ R C)) (.dat (.list ((TL R C).map (b9 R C)))) (.dat (.list ((TL R C).map fun n=>LD (bH R C n))))) (Mo hi rfl) ⟨_,rfl,rfl⟩ (fun j ρ hj ζ=>ζ.elim fun z' ζ=>ζ.elim fun h e=>.inl ?_) fun ρ ζ=>ζ.elim fun z' ζ=>ζ.elim fun h e=>eV ⟨z',e⟩
 subst e
 show aL af Bv (ev es R C (upd z' 16 (.dat (iD j))) (.dat (aZ R C)) (.dat (.list ((TL R C).map (b9 R C)))) (.dat (.list ((TL R C).map fun n=>LD (bH R C n))))) _ _
 exact ID (Mp hi (oN hj (Nat.sub_le ..)) hl h rfl (g.cnts i hi j hj)) (eV ⟨upd z' 16 (.dat (iD j)),h,rfl⟩)
theorem ML:Gd BG (ev es R C z (.dat (aZ R C)) (.own (.list [])) w14):=by
 refine nw (n:=16) (g:=iD) (Inv:=fun k ρ=>∃z',ρ=ev es R C z' (.dat (aZ R C)) (.own (.list (((ah k).filter (dF R C)).map (b9 R C)))) w14) (gZ (k:=16) (by decide)) ⟨z,rfl⟩ (fun n ρ hn ζ=>ζ.elim fun z' e=>.inl ?_) fun ρ ζ=>ζ.elim fun z' e=>?_
 ·subst e
  show aL af Bu (ev es R C (upd z' 12 (.dat (iD n))) (.dat (aZ R C)) (.own (.list (((ah n).filter (dF R C)).map (b9 R C)))) w14) _ _
  refine dh (Me hn rfl) ?_
  show aL af Bt (ev es R C (upd (upd z' 12 (.dat (iD n))) 13 (.dat (LD (bt n)))) (.dat (aZ R C)) (.own (.list (((ah n).filter (dF R C)).map (b9 R C)))) w14) _ _
  have hno:dF R C n=false->∃z'',ev es R C (upd (upd z' 12 (.dat (iD n))) 13 (.dat (LD (bt n)))) (.dat (aZ R C)) (.own (.list (((ah n).filter (dF R C)).map (b9 R C)))) w14=ev es R C z'' (.dat (aZ R C)) (.own (.list (((ah (n+1)).filter (dF R C)).map (b9 R C)))) w14:=fun h=>⟨_,by
   rw[List.range_succ,List.filter_append,show[n].filter (dF R C)=[]from by rw[dv,h];rfl,dC]⟩
  refine qs (R1:=fun ρ=>∃z',ρ=ev es R C z' (.dat (aZ R C)) (.own (.list (((ah (n+1)).filter (dF R C)).map (b9 R C)))) w14) (Mh (T:=bt n) g.lR rfl) (fun h1=>?_) (fun h1=>eV (hno (by unfold dF;rw[h1];rfl))) fun ρ h=>eV h
  refine qs (R1:=fun ρ=>∃z',ρ=ev es R C z' (.dat (aZ R C)) (.own (.list (((ah (n+1)).filter (dF R C)).map (b9 R C)))) w14) (Mi (T:=bt n) g.lC rfl) (fun h2=>?_) (fun h2=>eV (hno (by unfold dF;rw[h2];exact Bool.and_false _))) fun ρ h=>eV h
  have hy:dF R C n=true:=by unfold dF;rw[h1,h2];rfl
  refine IG (l:=((ah n).filter (dF R C)).map (b9 R C)) rfl ?_ (Mj g.hR g.hC g.lR g.lC rfl) rfl (eV ⟨upd (upd z' 12 (.dat (iD n))) 13 (.dat (LD (bt n))),?_⟩)
  ·rw[ag]
   exact aa (aV ..) (by rw[lU];exact aa (Os hn) (by decide))
  ·rw[List.range_succ,List.filter_append,show[n].filter (dF R C)=[n]from by rw[dv,hy];rfl,oG];rfl
 ·subst e
  exact MF rfl (MK g (z:=z'))
theorem MM:Gd qL (ev es R C z w9 w11 w14):=by
 refine dh (L7 g.hR g.hC g.lR g.lC) ?_
 show Gd BH (ev es R C z (.dat (aZ R C)) w11 w14)
 refine nw (n:=8) (g:=iD) (Inv:=fun k ρ=>∃z',ρ=ev es R C z' (.dat (aZ R C)) w11 w14) (gZ (k:=8) (by decide)) ⟨z,rfl⟩ (fun t ρ ht ζ=>ζ.elim fun z' e=>.inl ?_) fun ρ ζ=>ζ.elim fun z' e=>?_
 ·subst e
  show aL af Bs (ev es R C (upd z' 10 (.dat (iD t))) (.dat (aZ R C)) w11 w14) _ _
  have hw:t+8<16:=Nat.add_lt_add_right ht 8
  have hn:Ok af (.sub (.var 3) (.bin .Add (.var 10) (.lit (.int 8)))) (ev es R C (upd z' 10 (.dat (iD t))) (.dat (aZ R C)) w11 w14) (be (t+8)) :=
   iK (ds:=iN) (k:=t+8) (bQ rfl) (Aq (x:=t) (y:=8) ⟨trivial,rfl⟩ ⟨trivial,rfl⟩) hw (by decide) (Ah hw)
  have hc:eX j8 af (.rc 1 (.cons (.var 2) (.cons (.sub (.var 3) (.bin .Add (.var 10) (.lit (.int 8)))) .nil))) (ev es R C (upd z' 10 (.dat (iD t))) (.dat (aZ R C)) w11 w14) (.bool _):=Ae (qw (bQ rfl) hn) ⟨es,t+8,g.le,hw,rfl⟩ (Li g.le hw)
  rw[g.rai t ht]at hc
  exact BI hc (qM (L9 ht rfl)) (eV ⟨_,rfl⟩)
 ·subst e
  refine j1 (p:=pL af 11 (.list .nil)) (ρ1:=ev es R C z' (.dat (aZ R C)) (.own (.list [])) w14) ⟨trivial,bx _⟩ rfl (ML g)
end
noncomputable def MW:List (List Nat):=[[1208925832305742138310656,3320413933267719290880,188894659314785808547840,302231454903657293676544],[1208925819614629269262336,3320413933267719290880,188894659314785808547840,302231454903657293676544],[1208925832281051445067776,6485183463413514240,188894659314785808547840,302231454903657293676544],[1208925819614629269078376,6485183463413514240,188894659314785808547840,302231454903657293676544],[1208925831071883933515776,2997595911977802137600,23611832414348226068480,302231454903657293676544],[1208925819614629260069376,2997595911977802137600,23611832414348226068480,302231454903657293676544],[1208925831049593724338176,5854679515581644800,23611832414348226068480,302231454903657293676544],[1208925819614629259903301,5854679515581644800,23611832414348226068480,302231454903657293676544]]
noncomputable def MR:List Nat:=[1208925819614629174706176,1208925828621828496556032,1211291614542082424700928,1211291623566908292464896,1378931012997936402399232,1378931023271773128884224,1381629497837062765674496,1381629508131004771092772,2115620184325601055735808,2115620200088199868973056,2119760325448644243226624,2119760341242089511813568,2413129272746388704198656,2413129290725602975547392,2417851621214859839930368,2417851639229258349412351]
noncomputable def MC:List Nat:=[2417851639229258349412351,2417851621214859839930368,2413129290725602975547392,2413129272746388704198656,2119760341242089511813568,2119760325448644243226624,2115620200088199868973056,2115620184325601055735808,1381629508131004771092772,1381629497837062765674496,1378931023271773128884224,1378931012997936402399232,1211291623566908292464896,1211291614542082424700928,1208925828621828496556032,1208925819614629174706176]
noncomputable def vy:List (List Nat):=[[0,0,0,0],[18014398509481983,0,0,0],[0,4722348468471135731712,0,0],[17979214271348736,4722348468471135731712,0,0],[0,0,297509088420787648462848,0],[15793445268586944,0,297509088420787648462848,0],[0,4140141123043187490816,297509088420787648462848,0],[15762598813237248,4140141123043187490816,297509088420787648462848,0],[0,0,0,906694364710971881029632],[10293942005418276,0,0,906694364710971881029632],[0,2698484839126363275264,0,906694364710971881029632],[10273836726484992,2698484839126363275264,0,906694364710971881029632],[0,0,170005193383307227693056,906694364710971881029632],[9024825867763968,0,170005193383307227693056,906694364710971881029632],[0,2365794927453249994752,170005193383307227693056,906694364710971881029632],[9007199321849856,2365794927453249994752,170005193383307227693056,906694364710971881029632]]
theorem vz:∀l m:List Nat,aE (l++m)=cE (aE l) (aE m)
 | [],m=>(Nat.zero_or _).symm
 | x::l,m=>by
  show cE (Nat.pow 2 x) (aE (l++m))=cE (cE (Nat.pow 2 x) (aE l)) (aE m)
  rw[vz l m];exact(Nat.or_assoc ..).symm
noncomputable def tst(M m:Nat):Bool:=!bD (j5 M m) 0
theorem qP{P:List Nat}{f:Nat->Bool}(h:∀p∈P,p<81):P.any f=tst (aE P) (aE ((ah 81).filter f)):=by
 unfold tst
 rw[e7,eH,jx]
 refine⟨fun z=>x12 z fun p hp hf=>?_,fun z=>?_⟩
 ·refine Pz.mpr fun e=>?_
  have e:=lN e
  have h1:=(eE p P).mpr hp
  have h2:=(eE p _).mpr (cW.mpr ⟨aw.mpr (h p hp),hf⟩)
  have:(aE P &&& aE ((ah 81).filter f)).testBit p=true:=by rw[Nat.testBit_and,h1,h2];rfl
  rw[show aE P &&& aE ((ah 81).filter f)=0 from e,Nat.zero_testBit]at this
  cases this
 ·refine x11 (Pw (x:=j5 (aE P) (aE ((ah 81).filter f))) (fun e=>by rw[e]at z;cases z)) fun i hi=>?_
  have hi:(aE P &&& aE ((ah 81).filter f)).testBit i=true:=hi
  rw[Nat.testBit_and]at hi
  exact aP hi fun a b=>⟨i,(eE i P).mp a,(cW.mp ((eE i _).mp b)).2⟩
noncomputable def wF(w k p:Nat):Bool:=bR (TN p) w&&dQ p==k
theorem MN:∀t<8,∀k<4,(MW.getD t []).getD k 0=aE ((ah 81).filter (wF (t+8) k)):=by decide +kernel
theorem MP:∀n<16,∀k<4,(vy.getD n []).getD k 0=aE ((ah 81).filter fun p=>dQ p==k&&vi (cZ p) (bt n)==[k]):=by decide +kernel
theorem MQ:∀n<16,MR.getD n 0=aE ((ah 81).filter fun p=>((cZ p).filter fun k=>!bR (bt n) k).isEmpty):=by decide +kernel
theorem MT:∀n<16,MC.getD n 0=aE ((ah 81).filter fun p=>((cZ p).filter (bR (bt n))).isEmpty):=by decide +kernel
theorem MU:∀n<16,iM (bt n)=bt (15 - n):=by decide +kernel
theorem MV:∀p<81,dQ p<4:=by decide +kernel
theorem MX{l m:List Nat}(hl:l.Nodup)(hm:m.Nodup)(h:∀x,x∈l↔x∈m):l.length=m.length:=((List.perm_ext_iff_of_nodup hl hm).mpr h).length_eq
noncomputable def fW(M t:Nat):Nat:=((ah 4).filter fun k=>tst M ((MW.getD t []).getD k 0)).length
noncomputable def lD(M n:Nat):List Nat:=(bt n).filter fun k=>tst M ((vy.getD n []).getD k 0)
noncomputable def qQ(M N n:Nat):Bool:=!tst M (MR.getD n 0)&&!tst N (MC.getD n 0)
section
variable{P R C:List Nat}(h:∀p∈P,p<81)(hR:∀p∈R,p<81)(hC:∀p∈C,p<81)
include h in
theorem qR{t:Nat}(ht:t<8):bq P (t+8)=fW (aE P) t:=by
 have hn:=jp ((P.filter fun p=>(TN p).any (· == t+8)).map dQ) [] wi
 refine MX hn.1 (List.nodup_range.filter _) fun k=>?_
 rw[hn.2 k,cW,aw]
 have key:∀k<4,tst (aE P) ((MW.getD t []).getD k 0)=P.any (wF (t+8) k):=fun k hk=>by rw[MN t ht k hk,qP h]
 constructor
 ·intro z
  refine x12 (aD.mp (z.resolve_left fun q=>nomatch q)) fun p hp e=>?_
  refine al (cW.mp hp) fun h1 h2=>?_
  have hk:k<4:=e▸MV p (h p h1)
  refine⟨hk,(key k hk).trans (eH.mpr ⟨p,h1,?_⟩)⟩
  show(bR (TN p) (t+8)&&dQ p==k)=true
  rw[show bR (TN p) (t+8)=true from h2,beq_iff_eq.mpr e];rfl
 ·rintro ⟨hk,hz⟩
  rw[key k hk]at hz
  refine x12 (eH.mp hz) fun p h1 h2=>aP h2 fun h2 h3=>?_
  exact .inr (aD.mpr ⟨p,cW.mpr ⟨h1,h2⟩,P9 h3⟩)
include h in
theorem BM{n:Nat}(hn:n<16):(bt n).filter (j7 P (bt n))=lD (aE P) n :=
 tJ fun k hk=>by rw[MP n hn k (aw.mp (cW.mp hk).1),<- qP h];rfl
include hC in
theorem MY{n:Nat}(hn:n<16):b8 R C n=lD (aE C) n:=BM hC hn
include hR in
theorem MZ{n:Nat}(hn:n<16):bV R C n=lD (aE R) (15 - n):=by
 show(iM (bt n)).filter (j7 R (iM (bt n)))=_
 rw[MU n hn]
 exact BM hR (eZ (Nat.sub_le ..) (by decide))
include hR hC in
theorem M0{n:Nat}(hn:n<16):dF R C n=qQ (aE R) (aE C) n:=by
 unfold dF qQ
 rw[MQ n hn,MT n hn,qP hR,qP hC]
end
noncomputable def ft{α:Type}(f:α->Bool)(l:List α):Bool:=CU true (fun a U r=>cD false r (f a)) l
noncomputable def jv{α:Type}(f:α->Bool)(l:List α):Nat:=CU 0 (fun a U r=>cD r (wg r 1) (f a)) l
noncomputable def lE{α:Type}(f:α->Bool)(l:List α):List α:=CU [] (fun a U r=>cD r (a::r) (f a)) l
noncomputable def og{α β:Type}(f:α->β)(l:List α):List β:=CU [] (fun a U r=>f a::r) l
noncomputable def qS{α:Type}(g:Nat->Nat->Nat)(f:α->Nat)(l:List α):Nat:=CU 0 (fun a U r=>g (f a) r) l
section
variable{α β:Type}
theorem j9(f:α->Bool):∀l:List α,ft f l=l.all f
 | []=>rfl
 | a::l=>by
  show(cD false (ft f l) (f a):Bool)=_
  rw[List.all_cons,j9 f l]
  cases f a<;>rfl
theorem qT(f:α->Bool):∀l:List α,jv f l=(l.filter f).length
 | []=>rfl
 | a::l=>by
  show(cD (jv f l) (wg (jv f l) 1) (f a):Nat)=_
  rw[dv,qT f l]
  cases f a<;>rfl
theorem vA(f:α->Bool):∀l:List α,lE f l=l.filter f
 | []=>rfl
 | a::l=>by
  show(cD (lE f l) (a::lE f l) (f a):List α)=_
  rw[dv,vA f l]
  cases f a<;>rfl
theorem vB(f:α->β):∀l:List α,og f l=l.map f
 | []=>rfl
 | a::l=>congrArg (f a::·) (vB f l)
theorem qU(g:Nat->Nat->Nat)(f:α->Nat):∀l:List α,qS g f l=l.foldr (fun a r=>g (f a) r) 0
 | []=>rfl
 | a::l=>congrArg (g (f a)) (qU g f l)
end
noncomputable def tb(M m:Nat):Bool:=cD true false (bD (j5 M m) 0)
theorem oh(M m:Nat):tb M m=tst M m:=by
 unfold tb tst
 cases bD (j5 M m) 0<;>rfl
noncomputable def lF:List (Nat × Nat):=[(32768,1),(128,1),(32896,2),(2048,1),(8,1),(2056,2),(34816,2),(136,2),(34952,4),(8192,1),(32,1),(8224,2),(512,1),(2,1),(514,2),(8704,2),(34,2),(8738,4),(40960,2),(160,2),(41120,4),(2560,2),(10,2),(2570,4),(43520,4),(170,4),(43690,8),(16384,1),(64,1),(16448,2),(1024,1),(4,1),(1028,2),(17408,2),(68,2),(17476,4),(4096,1),(16,1),(4112,2),(256,1),(1,1),(257,2),(4352,2),(17,2),(4369,4),(20480,2),(80,2),(20560,4),(1280,2),(5,2),(1285,4),(21760,4),(85,4),(21845,8),(49152,2),(192,2),(49344,4),(3072,2),(12,2),(3084,4),(52224,4),(204,4),(52428,8),(12288,2),(48,2),(12336,4),(768,2),(3,2),(771,4),(13056,4),(51,4),(13107,8),(61440,4),(240,4),(61680,8),(3840,4),(15,4),(3855,8),(65280,8),(255,8),(65535,16)]
theorem M1:∀p<81,lF.getD p (0,0)=(aE (TN p),(TN p).length):=by decide +kernel
noncomputable def IJ:List (Nat × Nat × Nat):=[(0,0,0),(1,0,1),(2,0,2),(3,0,3),(4,0,4),(5,1,0),(6,1,1),(7,1,2),(8,1,3),(10,2,0),(11,2,1),(12,2,2),(15,3,0),(16,3,1),(20,4,0)]
noncomputable def vD:List (List Nat):=[[],[0],[1],[0,1],[2],[0,2],[1,2],[0,1,2],[3],[0,3],[1,3],[0,1,3],[2,3],[0,2,3],[1,2,3],[0,1,2,3]]
theorem BO:∀n<16,vD.getD n []=bt n:=by decide +kernel
noncomputable def l8:List Nat:=[0,1,2,3,4,5,6,7]
noncomputable def vF:List Nat:=[0,1,2,3,4,5,6,7,8,9,10,11,12,13,14,15]
noncomputable def qV(M N t:Nat):Nat:=wg (CK 5 (jv (fun m=>tb N m) (MW.getD t []))) (jv (fun m=>tb M m) (MW.getD t []))
noncomputable def lG(M n:Nat):List Nat:=lE (fun k=>tb M ((vy.getD n []).getD k 0)) (vD.getD n [])
noncomputable def qW(M N n:Nat):Bool:=cD (cD true false (tb N (MC.getD n 0))) false (tb M (MR.getD n 0))
noncomputable def oi(l:List Nat)(k:Nat):Bool:=CU false (fun a U r=>cD r true (bD a k)) l
noncomputable def lH(B I O:List Nat)(k:Nat):Nat:=cD (cD (cD 1 0 (oi B k)) 2 (oi O k)) 2 (oi I k)
noncomputable def vG(B I O:List Nat):Nat:=wg (CK 3 (wg (CK 3 (wg (CK 3 (lH B I O 0)) (lH B I O 1))) (lH B I O 2))) (lH B I O 3)
noncomputable def vH(l:List Nat):Nat:=CU 0 (fun U V r=>wg r 1) l
noncomputable def vJ(M N n:Nat):Nat × Nat:=(wg (CK 5 (vH (lG N n))) (vH (lG M (Nat.sub 15 n))),vG (vD.getD n []) (lG N n) (lG M (Nat.sub 15 n)))
noncomputable def BP(W:List Nat)(T:List (Nat × Nat)):Bool :=
 and (ft (fun q=>bD (CK 2 (jv (fun w=>bD w q.1) W)) (CK (Nat.pow 2 (wg q.2.1 q.2.2)) (jv (fun x=>bD x.1 q.1) T))) IJ)
 (and (cD (cD true false (ft (fun x=>or (iP x.1 5) (bD (Nat.mod x.1 5) 0)) T)) (ft (fun x=>or (iP x.1 5) (bD (Nat.mod x.1 5) 0)) T) (ft (fun w=>cD (cD true false (iP w 5)) (iP w 5) (iP 0 (Nat.mod w 5))) W))
 (and (bD (qS wg (fun x=>(lF.getD x.2 (0,0)).2) T) 16) (bD (qS cE (fun x=>(lF.getD x.2 (0,0)).1) T) 65535)))
noncomputable def qX(M N:Nat):Bool:=BP (og (qV M N) l8) (og (vJ M N) (lE (qW M N) vF))
theorem qY(k:Nat):∀l:List Nat,oi l k=bR l k
 | []=>rfl
 | a::l=>by
  show(cD (oi l k) true (bD a k):Bool)=((a==k)||bR l k)
  rw[qY k l,show(a==k)=bD a k from by rw[e7,beq_iff_eq,PG]]
  cases bD a k<;>rfl
theorem vK:∀l:List Nat,vH l=l.length
 | []=>rfl
 | _::l=>congrArg (· + 1) (vK l)
theorem BQ{M n:Nat}(hn:n<16):lG M n=lD M n:=by
 unfold lG lD
 rw[vA,BO n hn]
 exact tJ fun k U=>oh ..
theorem M2(M N n:Nat):qW M N n=qQ M N n:=by
 unfold qW qQ
 rw[oh,oh]
 cases tst M (MR.getD n 0)<;>cases tst N (MC.getD n 0)<;>rfl
theorem M3(M t:Nat):fW M t<=4:=aV ..
theorem M4(M N:Nat):∀t<8,qV M N t=5 * fW N t+fW M t:=by
 have h:∀t<8,MW.getD t []=(ah 4).map fun k=>(MW.getD t []).getD k 0:=by decide +kernel
 have e:∀P t,t<8->jv (fun m=>tb P m) (MW.getD t [])=fW P t:=fun P t ht=>by
  rw[qT,h t ht,Pu,ag]
  unfold fW
  refine congrArg List.length (tJ fun k hk=>?_)
  show tb P _=tst P _
  rw[oh]
 exact fun t ht=>by unfold qV;rw[e N t ht,e M t ht];rfl
theorem M5{p q:Nat->Bool}{n:Nat}:g9 ((ah n).filter p) ((ah n).filter q)=(ah n).all fun t=>p t==q t:=by
 rw[e7,An,bC]
 constructor
 ·intro h t ht
  have:=h t
  rw[cW,cW]at this
  rw[beq_iff_eq,e7]
  exact⟨fun a=>(this.mp ⟨ht,a⟩).2,fun a=>(this.mpr ⟨ht,a⟩).2⟩
 ·intro h t
  rw[cW,cW]
  exact⟨fun a=>⟨a.1,(P9 (h t a.1))▸a.2⟩,fun a=>⟨a.1,(P9 (h t a.1)).symm▸a.2⟩⟩
theorem vL(a b:Bool):(cD (cD true false b) b a:Bool)=(a==b):=by cases a<;>cases b<;>rfl
theorem qZ(R C:List Nat)(n k:Nat):lH (bt n) (b8 R C n) (bV R C n) k=pd R C n k:=by
 unfold lH pd
 rw[qY,qY,qY,show bR (b8 R C n++bV R C n) k=(bR (b8 R C n) k||bR (bV R C n) k)from List.any_append]
 cases bR (b8 R C n) k<;>cases bR (bV R C n) k<;>cases bR (bt n) k<;>rfl
theorem vM{a b:Nat}(h:b<=4):(5 * a+b) / 5=a:=(Nat.mul_add_div (by decide) a b).trans (by rw[Nat.div_eq_of_lt (Nat.lt_succ_of_le h)];rfl)
theorem re{a b:Nat}(h:b<=4):(5 * a+b) % 5=b:=(Nat.mul_add_mod ..).trans (Nat.mod_eq_of_lt (Nat.lt_succ_of_le h))
theorem BR{a b:Nat}(h:b<=4):iP (5 * a+b) 5=true↔a=0:=⟨fun q=>(vM h).symm.trans (Nat.div_eq_of_lt (gV q)),fun e=>Nat.ble_eq_true_of_le (by rw[e,Nat.mul_zero,kh];exact qO h)⟩
theorem M6(a b c d:Nat):3 * (3 * (3 * a+b)+c)+d=27 * a+9 * b+3 * c+d:=by
 rw[Nat.mul_add,Nat.mul_add,Nat.mul_add,<- PH,<- PH,<- PH]
theorem M7{es R C:List Nat}(le:es.length=4)(hR:∀p∈R,p<80)(hC:∀p∈C,p<80)(lR:R.length<=100)(lC:C.length<=100)(h:qX (aE R) (aE C)=true)(hr:∀t<8,dp (dD es (t+8) 4)=iP 0 (fW (aE R) t)):Good es R C:=by
 have hR1:∀p∈R,p<81:=fun p hp=>ei (hR p hp)
 have hC1:∀p∈C,p<81:=fun p hp=>ei (hC p hp)
 have eW:og (qV (aE R) (aE C)) l8=(ah 8).map fun t=>5 * bq C (t+8)+bq R (t+8):=by
  rw[vB]
  exact fx fun t ht=>by rw[M4 _ _ t (aw.mp ht),qR hR1 (aw.mp ht),qR hC1 (aw.mp ht)]
 have hp:∀n,vG (bt n) (b8 R C n) (bV R C n)=dS R C n:=fun n=>by
  unfold vG dS
  rw[qZ,qZ,qZ,qZ]
  exact M6 ..
 have eT:og (vJ (aE R) (aE C)) (lE (qW (aE R) (aE C)) vF)=(TL R C).map fun n=>(5 * (b8 R C n).length+(bV R C n).length,dS R C n):=by
  rw[vB,vA]
  unfold TL
  rw[show vF=ah 16 from rfl,tJ fun n hn=>(M2 ..).trans (M0 hR1 hC1 (aw.mp hn)).symm]
  refine fx fun n hn=>?_
  have hn:=aw.mp (cW.mp hn).1
  unfold vJ
  rw[vK,vK,BO n hn,BQ hn,BQ (n:=Nat.sub 15 n) (eZ (Nat.sub_le ..) (by decide)),<- MY (R:=R) hC1 hn,show lD (aE R) (Nat.sub 15 n)=bV R C n from(MZ hR1 hn).symm,hp n];rfl
 have l4:∀ {P:List Nat},(∀p∈P,p<81)->∀t<8,bq P (t+8)<=4:=fun hP t ht=>qR hP ht▸M3 ..
 unfold qX BP at h
 rw[eW,eT,j9,j9,j9,qU,qU,vL]at h
 refine aP h fun h1 h=>aP h fun h2 h=>aP h fun h3 h4=>?_
 have hm:∀n,lF.getD (dS R C n) (0,0)=(aE (TN (dS R C n)),(TN (dS R C n)).length):=fun n=>M1 _ (Bq R C n)
 have e3:∀l:List Nat,(TK R C l).length=(l.map fun n=>(5 * (b8 R C n).length+(bV R C n).length,dS R C n)).foldr (fun a r=>wg (lF.getD a.2 (0,0)).2 r) 0/\aE (TK R C l)=(l.map fun n=>(5 * (b8 R C n).length+(bV R C n).length,dS R C n)).foldr (fun a r=>cE (lF.getD a.2 (0,0)).1 r) 0:=fun l=>by
  induction l with
  | nil=>exact⟨rfl,rfl⟩
  | cons n l ih =>
   have e:TK R C (n::l)=TN (dS R C n)++TK R C l:=rfl
   rw[e,a9,List.foldr_cons,List.foldr_cons,bj,vz,ih.1,ih.2,hm n]
   exact⟨rfl,rfl⟩
 refine⟨hR,hC,lR,lC,le,fun t ht=>by rw[hr t ht,qR hR1 ht],fun i hi j hj=>?_,?_,(e3 _).1.trans (lN h3),?_⟩
 ·have hm:∀i<5,∀j<5 - i,(5 * i+j,i,j)∈IJ:=by decide
  have hj5:j<5:=oN hj (Nat.sub_le ..)
  have:=lN (bC.mp h1 _ (hm i hi j hj))
  rw[qT,qT,Pu,Pu,ag,ag]at this
  have key:∀a b:Nat,b<=4->([a,b]==[i,j])=bD (5 * a+b) (5 * i+j):=fun a b hb=>by
   rw[e7,beq_iff_eq,PG,List.cons.injEq,List.cons.injEq]
   constructor
   ·rintro ⟨rfl,rfl,_⟩;rfl
   ·intro q;exact⟨(vM hb).symm.trans ((congrArg (· / 5) q).trans (vM (oz hj5))),(re hb).symm.trans ((congrArg (· % 5) q).trans (re (oz hj5))),rfl⟩
  rw[tJ (p:=fun t=>wA R C t==[i,j]) fun t ht=>key _ _ (l4 hR1 t (aw.mp ht)),tJ (p:=fun n=>bH R C n==[i,j]) fun n U=>key _ _ (qK n)]
  exact this
 ·rw[M5]
  have h2:=P9 h2
  rw[List.all_map,List.all_map]at h2
  have f1:((ah 8).all fun t=>iP 0 (bq R (t+8))==(bq C (t+8)==0))=(ah 8).all ((fun w=>(cD (cD true false (iP w 5)) (iP w 5) (iP 0 (Nat.mod w 5)):Bool)) ∘ fun t=>5 * bq C (t+8)+bq R (t+8)):=by
   rw[e7,bC,bC]
   refine forall_congr' fun t=>forall_congr' fun ht=>?_
   have h4:=l4 hR1 t (aw.mp ht)
   show _↔(cD (cD true false (iP (5 * bq C (t+8)+bq R (t+8)) 5)) (iP (5 * bq C (t+8)+bq R (t+8)) 5) (iP 0 ((5 * bq C (t+8)+bq R (t+8)) % 5)):Bool)=true
   rw[vL,show iP (5 * bq C (t+8)+bq R (t+8)) 5=(bq C (t+8)==0)from by
    rw[e7,beq_iff_eq]
    exact BR h4,re h4]
  have f2:(!(TL R C).any fun n=>!bR (bH R C n) 0)=(TL R C).all ((fun x:Nat × Nat=>or (iP x.1 5) (bD (Nat.mod x.1 5) 0)) ∘ fun n=>(5 * (b8 R C n).length+(bV R C n).length,dS R C n)):=by
   rw[List.not_any_eq_all_not,e7,bC,bC]
   refine forall_congr' fun n=>forall_congr' fun U=>?_
   have h4:=qK (R:=R) (C:=C) n
   show(!!bR (bH R C n) 0)=true↔(iP (5 * (b8 R C n).length+(bV R C n).length) 5||bD ((5 * (b8 R C n).length+(bV R C n).length) % 5) 0)=true
   rw[Bool.not_not,Pn,PG,show bR (bH R C n) 0=((b8 R C n).length==0||((bV R C n).length==0||false))from rfl,Pn,Bool.or_false,beq_iff_eq,beq_iff_eq]
   rw[BR h4,re h4]
  rw[f1,f2];exact h2
 ·rw[IL,(e3 _).2];exact h4
noncomputable def cT:List (List Nat):=[[4111,4081,4096],[4336,3856,4096],[7936,256,4096],[1,8191,4096],[4351,3841,4096],[8176,16,4096],[3841,4351,4096],[16,8176,4096],[8191,1,4096],[4081,4111,4096],[3856,4336,4096],[256,7936,4096]]
noncomputable def jw:List (List Nat):=[[2,0,1,2,2,0,1,2,2,0,1,2,2,0,1,2],[2,2,0,0,1,1,2,2,2,2,0,0,1,1,2,2],[2,2,2,2,0,0,0,0,1,1,1,1,2,2,2,2],[2,1,2,1,2,1,2,1,0,2,0,2,0,2,0,2],[2,0,2,0,1,2,1,2,2,0,2,0,1,2,1,2],[2,2,0,0,2,2,0,0,1,1,2,2,1,1,2,2],[2,1,2,1,0,2,0,2,2,1,2,1,0,2,0,2],[2,2,1,1,2,2,1,1,0,0,2,2,0,0,2,2],[2,0,2,0,2,0,2,0,1,2,1,2,1,2,1,2],[2,1,0,2,2,1,0,2,2,1,0,2,2,1,0,2],[2,2,1,1,0,0,2,2,2,2,1,1,0,0,2,2],[2,2,2,2,1,1,1,1,0,0,0,0,2,2,2,2]]
noncomputable def rf:List (List Nat):=[[2,16],[64,512],[2048,16384],[4096,8],[4,256],[128,8192],[256,4],[8192,128],[8,4096],[16,2],[512,64],[16384,2048]]
noncomputable def rg(b:Bool)(k acc:Nat):Nat:=bif b then cE (Nat.pow 2 k) acc else acc
noncomputable def cN(x d:Nat):Nat:=(cT.getD x []).getD d 0
noncomputable def fX(x:Nat)(l:List (Nat × Nat)):List (Nat × Nat):=l.flatMap fun q=>[0,1,2].map fun d=>(3 * q.1+d,q.2+cN x d)
noncomputable def rh(xs:List Nat):List (Nat × Nat):=xs.foldl (fun l x=>fX x l) [(0,0)]
theorem M9:∀x<12,∀d∈[0,1,2],(cN x d:Int)=gy d * vI x+4096:=by decide +kernel
noncomputable def oj(k:Nat)(q:Nat × Nat):Nat × Int:=(q.1,(q.2:Int) - 4096 * k)
theorem Na(hx:x<12)(l:List (Nat × Nat)):eY (vI x) (l.map (oj k))=(fX x l).map (oj (k+1)):=by
 unfold eY fX
 rw[List.flatMap_map,List.map_flatMap]
 refine Ai fun q U=>?_
 rw[hH]
 refine fx fun d hd=>?_
 refine Prod.ext rfl ?_
 show(q.2:Int) - 4096 * k+gy d * vI x=((q.2+cN x d:Nat):Int) - 4096 * ((k+1:Nat):Int)
 rw[Int.natCast_add,M9 x hx d hd]
 lia
theorem BS:∀(xs:List Nat) (k:Nat) (l:List (Nat × Nat)),(∀x∈xs,x<12)->xs.foldl (fun l x=>eY (vI x) l) (l.map (oj k))=(xs.foldl (fun l x=>fX x l) l).map (oj (k+xs.length))
 | [],_,_,_=>rfl
 | x::xs,k,l,h=>by
  rw[List.foldl_cons,List.foldl_cons,Na (h x ak),BS xs (k+1) _ fun y hy=>h y (ar _ hy),dU,Nat.add_right_comm];rfl
noncomputable def on(x:Nat)(q:Nat × Nat)(acc:Nat):Nat:=rg (bD (q.2+cN x 0) 16384) (3 * q.1) (rg (bD (q.2+cN x 2) 16384&&!bD q.1 26) (3 * q.1+2) acc)
noncomputable def Rm(L:List (Nat × Nat))(x:Nat):Nat:=L.foldr (on x) 0
theorem Nb:∀p<27,dP (3 * p+0)=true/\dP (3 * p+1)=false/\dP (3 * p+2)=!bD p 26:=by decide +kernel
theorem BU:∀ {L:List (Nat × Nat)},(∀q∈L,q.1<27)->aE (((fX x L).filter fun q=>bD q.2 16384&&dP q.1).map (·.1))=Rm L x
 | [],_=>rfl
 | q::L,h=>by
  have ih:=BU (x:=x) (L:=L) fun z hz=>h z (ar _ hz)
  have ho:=Nb q.1 (h q ak)
  have e:fX x (q::L)=[(3 * q.1+0,q.2+cN x 0),(3 * q.1+1,q.2+cN x 1),(3 * q.1+2,q.2+cN x 2)]++fX x L:=rfl
  rw[e,List.filter_append,oG,vz,ih]
  show _=on x q (Rm L x)
  rw[dv,dv,dv]
  dsimp only
  rw[ho.1,ho.2.1,ho.2.2,Bool.and_true,Bool.and_false]
  unfold on rg
  cases bD (q.2+cN x 0) 16384<;>cases(bD (q.2+cN x 2) 16384&&!bD q.1 26)
  ·exact Nat.zero_or _
  ·exact congrArg (fun n=>cE n (Rm L x)) (Nat.or_zero _)
  ·exact congrArg (fun n=>cE n (Rm L x)) (Nat.or_zero _)
  ·refine(congrArg (fun n=>cE n (Rm L x)) (congrArg (cE (Nat.pow 2 (3 * q.1+0))) (Nat.or_zero _))).trans (Nat.or_assoc ..)
theorem BV:∀(xs:List Nat) (l:List (Nat × Nat)) (n:Nat),(∀q∈l,q.1<n)->∀q∈xs.foldl (fun l x=>fX x l) l,q.1<3 ^ xs.length * n
 | [],l,n,h=>fun q hq=>by rw[Pr,Nat.pow_zero,Nat.one_mul];exact h q hq
 | x::xs,l,n,h=>by
  have h1:∀q∈fX x l,q.1<3 * n:=fun q hq=>x12 (bW.mp hq) fun z hz hq=>x12 (aD.mp hq) fun d hd e=>by
   subst e
   have h1:=h z hz
   have h2:∀d∈[0,1,2],d<3:=by decide
   have h2:=h2 d hd
   show 3 * z.1+d<3 * n
   lia
  rw[dU,Nat.pow_succ,PH]
  exact BV xs (fX x l) (3 * n) h1
theorem Nc(ha:a<12)(hb:b<12)(hc:c<12)(hd:d<12):aE (RL [a,b,c,d])=Rm (rh [a,b,c]) d:=by
 have hx:∀x∈[a,b,c,d],x<12:=fun x hx=>by
  rcases ae.mp hx with rfl | hx
  ·exact ha
  rcases ae.mp hx with rfl | hx
  ·exact hb
  rcases ae.mp hx with rfl | hx
  ·exact hc
  rw[ai.mp hx];exact hd
 have e:hG [a,b,c,d]=(fX d (rh [a,b,c])).map (oj 4):=BS [a,b,c,d] 0 [(0,0)] hx
 rw[<- BU (x:=d) (L:=rh [a,b,c]) (BV [a,b,c] [(0,0)] 1 fun q hq=>by rw[ai.mp hq];exact Nat.zero_lt_one)]
 unfold RL
 rw[e,Pu,hH]
 refine congrArg aE (congrArg (List.map _) (tJ fun q U=>?_))
 show(((q.2:Int) - 4096 * (4:Nat)==0)&&dP q.1)=(bD q.2 16384&&dP q.1)
 refine congrArg (·&&dP q.1) ?_
 rw[e7,beq_iff_eq,PG]
 lia
noncomputable def lI(L:List Nat)(x:Nat):List Nat:=List.zipWith (fun s d=>3 * s+d) L (jw.getD x [])
theorem Nd:∀x<12,jw.getD x []=(ah 16).map fun n=>cd n x:=by decide +kernel
theorem BW{α:Type}{f:Nat->Nat->Nat}{g h:α->Nat}:∀l:List α,List.zipWith f (l.map g) (l.map h)=l.map fun a=>f (g a) (h a)
 | []=>rfl
 | x::l=>congrArg (f (g x) (h x)::·) (BW l)
theorem ri{x:Nat}(hx:x<12)(g:Nat->Nat):lI ((ah 16).map g) x=(ah 16).map fun n=>3 * g n+cd n x:=by
 unfold lI
 rw[Nd x hx];exact BW _
noncomputable def kc:List Nat:=[12273,12048,8448,16383,12033,8208,12543,16368,8193,12303,12528,16128]
theorem Nf:∀x<12,kc.getD x 0+cN x 0=16384/\cN x 2=4096:=by decide +kernel
noncomputable def oq(q:Nat × Nat)(r:Nat):Nat:=cD r (cD (cE (Nat.pow 2 (wg (CK 3 q.1) 2)) r) r (bD q.1 26)) (bD q.2 12288)
noncomputable def rj(L:List (Nat × Nat))(k:Nat):Nat:=CU 0 (fun q U r=>cD (oq q r) (cE (Nat.pow 2 (CK 3 q.1)) (oq q r)) (bD q.2 k)) L
theorem BX(a b c d:Nat)(h:b+c=d):bD (a+c) d=bD a b:=by
 rw[e7,PG,PG];lia
theorem BY(hx:x<12):∀L:List (Nat × Nat),rj L (kc.getD x 0)=Rm L x
 | []=>rfl
 | q::L=>by
  have h:=Nf x hx
  show(cD (oq q (rj L (kc.getD x 0))) (cE (Nat.pow 2 (CK 3 q.1)) (oq q (rj L (kc.getD x 0)))) (bD q.2 (kc.getD x 0)):Nat)=on x q (Rm L x)
  rw[BY hx L]
  unfold on rg oq
  rw[BX q.2 _ _ _ h.1,h.2,BX q.2 12288 4096 16384 rfl]
  cases bD q.2 (kc.getD x 0)<;>cases bD q.2 12288<;>cases bD q.1 26<;>rfl
noncomputable def rk(c0 c1 c2:Nat)(l:List (Nat × Nat)):List (Nat × Nat):=CU [] (fun q U r=>(CK 3 q.1,wg q.2 c0)::(wg (CK 3 q.1) 1,wg q.2 c1)::(wg (CK 3 q.1) 2,wg q.2 c2)::r) l
theorem rm(x:Nat):∀l:List (Nat × Nat),rk (cN x 0) (cN x 1) (cN x 2) l=fX x l
 | []=>rfl
 | q::l=>congrArg (fun r=>(3 * q.1,q.2+cN x 0)::(3 * q.1+1,q.2+cN x 1)::(3 * q.1+2,q.2+cN x 2)::r) (rm x l)
noncomputable def rn(a b c:Nat):List (Nat × Nat):=rk (cN c 0) (cN c 1) (cN c 2) (rk (cN b 0) (cN b 1) (cN b 2) (rk (cN a 0) (cN a 1) (cN a 2) [(0,0)]))
theorem Ng(a b c:Nat):rn a b c=rh [a,b,c]:=by
 unfold rn
 rw[rm,rm,rm];rfl
noncomputable def ke(L:List Nat):List Nat->List Nat:=CU (fun U=>[]) (fun s U r M=>CU [] (fun d M U=>wg (CK 3 s) d::r M) M) L
theorem ot:∀L M:List Nat,ke L M=List.zipWith (fun s d=>3 * s+d) L M
 | [],_=>rfl
 | _::_,[]=>rfl
 | s::L,d::M=>congrArg (fun l=>(3 * s+d)::l) (ot L M)
noncomputable def keep:Nat:=518111065549126789159789
theorem Nh:keep=aE ((ah 81).filter dP):=by decide +kernel
noncomputable def vP(L:List Nat):Nat:=j5 (qS cE (Nat.pow 2) L) keep
noncomputable def ou(a b c:Nat):List Nat:=ke (ke (ke [0,0,0,0,0,0,0,0,0,0,0,0,0,0,0,0] (jw.getD a [])) (jw.getD b [])) (jw.getD c [])
theorem Ni(ha:a<12)(hb:b<12)(hc:c<12)(hd:d<12):aE (CL [a,b,c,d])=vP (ke (ou a b c) (jw.getD d [])):=by
 have e:ke (ou a b c) (jw.getD d [])=(ah 16).map (cc [a,b,c,d]):=by
  unfold ou
  rw[ot,ot,ot,ot]
  show lI (lI (lI (lI [0,0,0,0,0,0,0,0,0,0,0,0,0,0,0,0] a) b) c) d=_
  rw[show[0,0,0,0,0,0,0,0,0,0,0,0,0,0,0,0]=(ah 16).map fun U=>0 from rfl,ri ha,ri hb,ri hc,ri hd]
  refine fx fun n U=>?_
  show 3 * (3 * (3 * (3 * 0+cd n a)+cd n b)+cd n c)+cd n d=27 * cd n a+9 * cd n b+3 * cd n c+cd n d
  lia
 unfold vP
 rw[e,Nh,qU]
 show _=j5 (aE ((ah 16).map (cc [a,b,c,d]))) _
 have hl:∀p∈(ah 16).map (cc [a,b,c,d]),p<81:=qD rfl fun x hx=>by
  rcases ae.mp hx with rfl | hx
  ·exact ha
  rcases ae.mp hx with rfl | hx
  ·exact hb
  rcases ae.mp hx with rfl | hx
  ·exact hc
  rw[ai.mp hx];exact hd
 refine Nat.eq_of_testBit_eq fun i=>?_
 rw[show lP (j5 (aE ((ah 16).map (cc [a,b,c,d]))) (aE ((ah 81).filter dP))) i=_ from Nat.testBit_and ..,e7,di,eE,eE,eE]
 unfold CL CT
 rw[cW,cW,(jp _ [] wi).2 i,aw]
 exact⟨fun h=>⟨h.1.resolve_left (fun q=>nomatch q),hl i (h.1.resolve_left fun q=>nomatch q),h.2⟩,fun h=>⟨.inr h.1,h.2.2⟩⟩
noncomputable def aW(xs:List Nat)(w i:Nat):Nat × Nat:=if w.testBit i=true then((xs.getD i 0 % 4+1+xs.getD i 0 / 4) % 4,xs.getD i 0 % 4)else(xs.getD i 0 % 4,(xs.getD i 0 % 4+1+xs.getD i 0 / 4) % 4)
theorem vQ(xs:List Nat)(w i:Nat):jt xs w i=(((aW xs w i).1:Int),[((aW xs w i).2:Int)]):=by
 unfold jt aW
 split<;>rfl
theorem vR(xs:List Nat)(w i:Nat):(aW xs w i).1<4/\(aW xs w i).2<4:=by
 unfold aW
 split<;>exact⟨Nat.mod_lt _ (by decide),Nat.mod_lt _ (by decide)⟩
noncomputable def pk(xs:List Nat)(w:Nat):Nat:=aE ((ah 4).map fun i=>4 * (aW xs w i).1+(aW xs w i).2)
theorem BZ{xs:List Nat}{w v b:Nat}(hb:b<4):(pk xs w).testBit (4 * v+b)=true↔∃i<4,aW xs w i=(v,b):=by
 unfold pk
 rw[eE,aD]
 constructor
 ·rintro ⟨i,hi,e⟩
  have:=vR xs w i
  exact⟨i,aw.mp hi,Prod.ext (by lia) (by lia)⟩
 ·rintro ⟨i,hi,e⟩
  exact⟨i,aw.mpr hi,by rw[e]⟩
noncomputable def iO(g v:Nat):Nat:=j5 (PA g (4 * v)) 15
noncomputable def lJ(g:Nat):Bool:=(ah 16).any fun C=>!bD C 0&&(ah 4).all fun v=>!lP C v||!bD (j5 (iO g v) C) 0
theorem B0{g v C:Nat}(hC:C<16):(!bD (j5 (iO g v) C) 0)=true↔∃b<4,g.testBit (4 * v+b)=true/\C.testBit b=true:=by
 rw[jx]
 have e:∀b,(j5 (iO g v) C).testBit b=(g.testBit (4 * v+b)&&(15:Nat).testBit b&&C.testBit b):=fun b=>by
  show((g >>> (4 * v) &&& 15) &&& C).testBit b=_
  rw[Nat.testBit_and,Nat.testBit_and,Nat.testBit_shiftRight]
 constructor
 ·intro z
  refine x11 (Pw (x:=j5 (iO g v) C) (fun e=>by rw[e]at z;cases z)) fun b hb=>?_
  rw[e]at hb
  refine eh hb fun h1 h2 h3=>⟨b,?_,h1,h3⟩
  refine Nat.lt_of_not_le fun q=>?_
  have:=Nat.testBit_lt_two_pow (x:=C) (i:=b) (oN hC (PE (by decide) q:2 ^ 4<=2 ^ b))
  rw[this]at h3;cases h3
 ·rintro ⟨b,hb,h1,h2⟩
  refine Pz.mpr fun q=>?_
  have q:=lN q
  have:=e b
  rw[q,Nat.zero_testBit,h1,h2,show(15:Nat).testBit b=true from by
   have:∀b<4,(15:Nat).testBit b=true:=by decide
   exact this b hb]at this
  cases this
theorem Nj(xs:List Nat)(w:Nat):dp (dD xs w 4)=lJ (pk xs w):=by
 have ho:=vj xs w (k:=4) (by decide)
 cases hc:dp (dD xs w 4)with
 | true =>
  obtain⟨Cl,hne,hC⟩:=Iy ho hc
  symm
  have hm:∀x∈Cl,∃i<4,x=((aW xs w i).1:Int)/\((aW xs w i).2:Int)∈Cl:=fun x hx=>by
   refine x13 (hC x hx) fun r hr e z=>x12 z fun p hp hpC=>?_
   refine x12 (aD.mp hr) fun i hi er=>?_
   subst er
   rw[vQ]at e hp
   exact⟨i,aw.mp hi,e.symm,by rw[ai.mp hp]at hpC;exact hpC⟩
  have hbit:∀v<4,(aE ((ah 4).filter fun v=>Cl.any fun x=>x==(v:Int))).testBit v=true↔(v:Int)∈Cl:=fun v hv=>by
   rw[eE,cW,aw,eH]
   exact⟨fun h=>x12 h.2 fun x h1 h2=>P9 h2▸h1,fun h=>⟨hv,_,h,beq_self_eq_true _⟩⟩
  have h16:aE ((ah 4).filter fun v=>Cl.any fun x=>x==(v:Int))<16:=by
   refine Nat.lt_pow_two_of_testBit (n:=4) _ fun i hi=>?_
   refine Pz.mpr fun q=>?_
   rw[eE,cW,aw]at q
   exact c5.mpr hi q.1
  refine eH.mpr ⟨_,aw.mpr h16,?_⟩
  rw[di,jx]
  constructor
  ·refine Pz.mpr fun q=>?_
   have q:=lN q
   match Cl,hne,hm,hbit,q with
   | x::l,_,hm,hbit,q =>
    refine x13 (hm x ak) fun i hi e U=>?_
    have:=(hbit _ (vR xs w i).1).mpr (e▸ak)
    rw[q,Nat.zero_testBit]at this;cases this
  ·refine bC.mpr fun v hv=>?_
   have hv:=aw.mp hv
   cases hb:lP (aE ((ah 4).filter fun v=>Cl.any fun x=>x==(v:Int))) v with
   | false=>rfl
   | true =>
    refine x13 (hm v ((hbit v hv).mp hb)) fun i hi e hp=>?_
    have ha:=vR xs w i
    exact(B0 h16).mpr ⟨_,ha.2,(BZ ha.2).mpr ⟨i,hi,Prod.ext (Int.ofNat_inj.mp e).symm rfl⟩,(hbit _ ha.2).mpr hp⟩
 | false =>
  symm
  refine Pz.mpr fun q=>?_
  refine x12 (eH.mp q) fun C hC q=>aP q fun q1 q2=>?_
  have hC:=aw.mp hC
  have hno:=Ix ho hc (C:=fun x=>∃v<4,x=((v:Nat):Int)/\C.testBit v=true) fun x z=>x13 z fun v hv e hb=>by
   have:=bC.mp q2 v (aw.mpr hv)
   rw[hb]at this
   refine x13 ((B0 hC).mp this) fun b hb4 h1 h2=>?_
   refine x12 ((BZ hb4).mp h1) fun i hi ea=>?_
   refine⟨jt xs w i,aD.mpr ⟨i,aw.mpr hi,rfl⟩,?_,(b:Int),?_,b,hb4,rfl,h2⟩
   ·rw[vQ,ea,e]
   ·rw[vQ,ea];exact ai.mpr rfl
  refine x11 (Pw (x:=C) fun e=>by rw[e]at q1;cases q1) fun v hv=>?_
  refine hno v ⟨v,Nat.lt_of_not_le fun q=>?_,rfl,hv⟩
  have:=Nat.testBit_lt_two_pow (x:=C) (i:=v) (oN hC (PE (by decide) q:2 ^ 4<=2 ^ v))
  rw[this]at hv;cases hv
noncomputable def ro{β:Type}(x:Nat)(f:Nat->β):β:=Nat.rec (f 0) (fun n U=>f (Nat.succ n)) x
theorem vS{β:Type}(x:Nat)(f:Nat->β):ro x f=f x:=by cases x<;>rfl
noncomputable def kg(x:Nat)(b:Bool):Nat:=bif b then(rf.getD x []).getD 1 0 else(rf.getD x []).getD 0 0
noncomputable def rq(a b c d t:Nat):Nat:=cE (kg a (lP t 0)) (cE (kg b (lP t 1)) (cE (kg c (lP t 2)) (kg d true)))
theorem B1:∀x<12,kg x true=2 ^ (4 * ((x % 4+1+x / 4) % 4)+x % 4)/\kg x false=2 ^ (4 * (x % 4)+(x % 4+1+x / 4) % 4):=by decide +kernel
theorem Nk:∀t<8,(t+8).testBit 0=lP t 0/\(t+8).testBit 1=lP t 1/\(t+8).testBit 2=lP t 2/\(t+8).testBit 3=true:=by decide
theorem rr{x:Nat}(hx:x<12){xs:List Nat}{w i:Nat}(e:xs.getD i 0=x):2 ^ (4 * (aW xs w i).1+(aW xs w i).2)=kg x (w.testBit i):=by
 unfold aW
 rw[e]
 cases w.testBit i with
 | true=>exact(B1 x hx).1.symm
 | false=>exact(B1 x hx).2.symm
theorem Nl{a b c d t:Nat}(ha:a<12)(hb:b<12)(hc:c<12)(hd:d<12)(ht:t<8):pk [a,b,c,d] (t+8)=rq a b c d t:=by
 have h:=Nk t ht
 show cE (2 ^ _) (cE (2 ^ _) (cE (2 ^ _) (cE (2 ^ _) 0)))=_
 rw[rr ha rfl,rr hb rfl,rr hc rfl,rr hd rfl,h.1,h.2.1,h.2.2.1,h.2.2.2]
 exact congrArg (cE _) (congrArg (cE _) (congrArg (cE _) (Nat.or_zero _)))
noncomputable def B3(g:Nat)(l:List Nat):Bool:=CU false (fun C U r=>cD r true (ft (fun v=>cD true (cD true false (bD (j5 (j5 (PA g (CK 4 v)) 15) C) 0)) (cD true false (bD (j5 (PA C v) 1) 0))) [0,1,2,3])) l
noncomputable def vT(g:Nat):Bool:=B3 g [1,2,3,4,5,6,7,8,9,10,11,12,13,14,15]
theorem Nm(C v:Nat):(cD true false (bD (j5 (PA C v) 1) 0):Bool)=C.testBit v:=by
 show _=(1 &&& (C >>> v) != 0)
 rw[Nat.and_comm 1 (C >>> v)]
 show(cD true false (bD ((C >>> v) &&& 1) 0):Bool)=!(((C >>> v) &&& 1)==0)
 rw[show(((C >>> v) &&& 1)==0)=bD ((C >>> v) &&& 1) 0 from by rw[e7,beq_iff_eq,PG]]
 cases bD ((C >>> v) &&& 1) 0<;>rfl
theorem Np(g:Nat):vT g=lJ g:=by
 have key:∀l:List Nat,B3 g l=l.any fun C=>(ah 4).all fun v=>!lP C v||!bD (j5 (iO g v) C) 0:=by
  intro l
  induction l with
  | nil=>rfl
  | cons C l ih =>
   rw[Pq,<- ih,show ah 4=[0,1,2,3]from rfl]
   have e:(fun v=>(cD true (cD true false (bD (j5 (j5 (PA g (CK 4 v)) 15) C) 0)) (cD true false (bD (j5 (PA C v) 1) 0)):Bool))=fun v=>!lP C v||!bD (j5 (iO g v) C) 0:=funext fun v=>by
    rw[Nm]
    show(cD true (cD true false (bD (j5 (iO g v) C) 0)) (lP C v):Bool)=_
    cases lP C v<;>cases bD (j5 (iO g v) C) 0<;>rfl
   show(cD _ true (ft _ [0,1,2,3]):Bool)=_
   rw[j9,e]
   cases(List.all [0,1,2,3] fun v=>!lP C v||!bD (j5 (iO g v) C) 0)<;>rfl
 unfold vT
 rw[key]
 unfold lJ
 rw[show ah 16=0::[1,2,3,4,5,6,7,8,9,10,11,12,13,14,15]from rfl,e7]
 show List.any [1,2,3,4,5,6,7,8,9,10,11,12,13,14,15] _=true↔(false&&_||List.any [1,2,3,4,5,6,7,8,9,10,11,12,13,14,15] _)=true
 rw[Bool.false_and,Bool.false_or,eH,eH]
 refine exists_congr fun C=>and_congr_right fun h=>?_
 have:bD C 0=false:=by
  have:∀C∈[1,2,3,4,5,6,7,8,9,10,11,12,13,14,15],bD C 0=false:=by decide
  exact this C h
 rw[this];rfl
noncomputable def ow(r:Nat)(row:List Nat):Bool:=CU false (fun m U s=>cD s true (tb r m)) row
theorem Nq(r:Nat):∀t<8,ow r (MW.getD t [])=iP 0 (fW r t):=by
 have h:∀t<8,MW.getD t []=(ah 4).map fun k=>(MW.getD t []).getD k 0:=by decide +kernel
 have key:∀l:List Nat,ow r l=iP 0 (l.filter (tst r)).length:=fun l=>by
  induction l with
  | nil=>rfl
  | cons m l ih =>
   show(cD (ow r l) true (tb r m):Bool)=_
   rw[oh,ih,dv]
   cases tst r m<;>rfl
 intro t ht
 rw[key]
 unfold fW
 rw[h t ht,Pu,ag,<- h t ht];rfl
noncomputable def vU(r g:Nat)(row:List Nat):Bool:=ro g fun g=>cD (cD true false (ow r row)) (ow r row) (vT g)
noncomputable def fY(x:Nat):Nat:=(rf.getD x []).getD 0 0
noncomputable def eF(x:Nat):Nat:=(rf.getD x []).getD 1 0
noncomputable def vV(r a b c d:Nat):Bool:=ft (fun q=>vU r (cE q.1 (eF d)) q.2) [(cE (fY a) (cE (fY b) (fY c)),MW.getD 0 []),(cE (eF a) (cE (fY b) (fY c)),MW.getD 1 []),(cE (fY a) (cE (eF b) (fY c)),MW.getD 2 []),(cE (eF a) (cE (eF b) (fY c)),MW.getD 3 []),
 (cE (fY a) (cE (fY b) (eF c)),MW.getD 4 []),(cE (eF a) (cE (fY b) (eF c)),MW.getD 5 []),(cE (fY a) (cE (eF b) (eF c)),MW.getD 6 []),(cE (eF a) (cE (eF b) (eF c)),MW.getD 7 [])]
theorem dj{P:Nat->Prop}{n:Nat}(h:∀a<n,P a)(k:P n):∀a<n+1,P a:=fun a q=>(Nat.lt_or_eq_of_le (oz q)).elim (h a) fun e=>e▸k
theorem Nr{r a b c d:Nat}(h:vV r a b c d=true):∀t<8,lJ (rq a b c d t)=iP 0 (fW r t):=by
 have f:∀ {p t:Nat},t<8->vU r (cE p (eF d)) (MW.getD t [])=true->∀ {x y z:Nat},p=cE x (cE y z)->rq a b c d t=cE x (cE y (cE z (eF d)))->lJ (rq a b c d t)=iP 0 (fW r t):=fun{p t} ht h {x y z} e1 e2=>by
  unfold vU at h
  rw[vS,vL,Nq r t ht,Np]at h
  rw[<- P9 h,e1,e2]
  exact congrArg lJ ((congrArg (cE x) (Nat.or_assoc y z _).symm).trans (Nat.or_assoc x _ _).symm)
 unfold vV at h
 rw[j9]at h
 simp only[List.all_cons,List.all_nil,Bool.and_true,di]at h
 obtain⟨h0,h1,h2,h3,h4,h5,h6,h7⟩:=h
 exact dj (dj (dj (dj (dj (dj (dj (dj (fun a h=>nomatch h) (f (by decide) h0 rfl rfl)) (f (by decide) h1 rfl rfl)) (f (by decide) h2 rfl rfl)) (f (by decide) h3 rfl rfl)) (f (by decide) h4 rfl rfl)) (f (by decide) h5 rfl rfl)) (f (by decide) h6 rfl rfl)) (f (by decide) h7 rfl rfl)
noncomputable def rz:List Nat:=[0,1,2,3,4,5,6,7,8,9,10,11]
noncomputable def vW(L:List (Nat × Nat))(K:List Nat)(a b c d:Nat):Bool:=ro (rj L (kc.getD d 0)) fun r=>ro (vP (ke K (jw.getD d []))) fun s=>and (qX r s) (vV r a b c d)
noncomputable def Nt(a b c:Nat):Bool:=ft (fun d=>vW (rn a b c) (ou a b c) a b c d) rz
noncomputable def Nu(a b:Nat):Bool:=ft (fun c=>Nt a b c) rz
noncomputable def fu(a:Nat):Bool:=ft (fun b=>Nu a b) rz
theorem Nv:fu 0=true:=by kernel_rfl
theorem Nw:fu 1=true:=by kernel_rfl
theorem Nx:fu 2=true:=by kernel_rfl
theorem Ny:fu 3=true:=by kernel_rfl
theorem Nz:fu 4=true:=by kernel_rfl
theorem NA:fu 5=true:=by kernel_rfl
theorem NB:fu 6=true:=by kernel_rfl
theorem NC:fu 7=true:=by kernel_rfl
theorem ND:fu 8=true:=by kernel_rfl
theorem NE:fu 9=true:=by kernel_rfl
theorem NF:fu 10=true:=by kernel_rfl
theorem NG:fu 11=true:=by kernel_rfl
theorem NH:∀a<12,fu a=true:=dj (dj (dj (dj (dj (dj (dj (dj (dj (dj (dj (dj (fun a h=>nomatch h) Nv) Nw) Nx) Ny) Nz) NA) NB) NC) ND) NE) NF) NG
theorem vX:∀a<12,a∈rz:=by decide
theorem vY{α:Type}{f:α->Bool}{l:List α}(h:ft f l=true){a:α}(ha:a∈l):f a=true:=by
 rw[j9]at h
 exact bC.mp h a ha
theorem B5{p:Nat}(h:p<81/\dP p=true):p<80:=Nat.lt_of_le_of_ne (oz h.1) fun e=>by rw[e]at h;exact absurd h.2 (by decide)
theorem NJ{es:List Nat}(hl:es.length=4)(hx:∀x∈es,x<12):Good es (RL es) (CL es):=by
 have key:qX (aE (RL es)) (aE (CL es))=true/\∀t<8,dp (dD es (t+8) 4)=iP 0 (fW (aE (RL es)) t):=by
  cases es with | nil=>cases hl | cons a es=>?_
  cases es with | nil=>cases hl | cons b es=>?_
  cases es with | nil=>cases hl | cons c es=>?_
  cases es with | nil=>cases hl | cons d es=>?_
  cases es with | cons _ _=>cases hl | nil=>?_
  have ha:=hx a (.head _)
  have hb:=hx b (.tail _ (.head _))
  have hc:=hx c (.tail _ (.tail _ (.head _)))
  have hd:=hx d (.tail _ (.tail _ (.tail _ (.head _))))
  have h:vW (rn a b c) (ou a b c) a b c d=true:=vY (vY (vY (NH a ha) (vX b hb)) (vX c hc)) (vX d hd)
  unfold vW at h
  rw[vS,vS,<- Ni ha hb hc hd,BY hd,Ng,<- Nc ha hb hc hd]at h
  refine aP h fun h1 h2=>⟨h1,fun t ht=>?_⟩
  rw[Nj,Nl ha hb hc hd ht]
  exact Nr h2 t ht
 exact M7 hl (fun p hp=>B5 (JS hl hp)) (fun p hp=>B5 (Ka hl hx hp)) (aa (JT hl) (by decide)) (aa (Kb es) (by decide)) key.1 key.2
section
variable{es:List Nat}{z:Nat->SV}(g:Good es (RL es) (CL es))
include g
theorem NK(h2:z 2=.dat (.list (es.map ED)))(h3:z 3=.dat (.list iN))(h5:z 5=.dat (.list ((RL es).map bc)))(h6:z 6=.dat (.list ((CL es).map bc)))(h7:z 7=.dat (.list ((RL es).map dR)))(h8:z 8=.dat (.list ((CL es).map dR))):Gd qL (ez z):=by
 unfold ez
 rw[h2,h3,h5,h6,h7,h8]
 exact MM g (z:=z) (w9:=z 9) (w11:=z 11) (w14:=z 14)
theorem NL(h2:z 2=.dat (.list (es.map ED)))(h3:z 3=.dat (.list iN))(h4:z 4=.dat (.list [.list ((RL es).map PT),.list ((CL es).map PT)]))(h5:z 5=.dat (.list ((RL es).map bc)))(h6:z 6=.dat (.list ((CL es).map bc))):Gd vr (ez z):=by
 refine vk (L6 (fun p hp=>ei (g.hR p hp)) (fun p hp=>ei (g.hC p hp)) g.lR g.lC h4) rfl rfl ?_
 show Gd qL (ez (upd (upd z 7 (.dat (.list ((RL es).map dR)))) 8 (.dat (.list ((CL es).map dR)))))
 exact NK g h2 h3 h5 h6 rfl rfl
theorem NM(h2:z 2=.dat (.list (es.map ED)))(h3:z 3=.dat (.list iN))(h4:z 4=.dat (.list [.list ((RL es).map PT),.list ((CL es).map PT)])):Gd vt (ez z):=by
 refine vk (L5 (fun p hp=>ei (g.hR p hp)) (fun p hp=>ei (g.hC p hp)) g.lR g.lC h4) rfl rfl ?_
 show Gd vr (ez (upd (upd z 5 (.dat (.list ((RL es).map bc)))) 6 (.dat (.list ((CL es).map bc)))))
 exact NL g h2 h3 h4 rfl rfl
theorem NN(hl:es.length=4)(hx:∀x∈es,x<12)(h2:z 2=.dat (.list (es.map ED)))(h3:z 3=.dat (.list iN)):Gd vu (ez z):=by
 refine dh (L4 hl hx h2) ?_
 show Gd vt (ez (upd z 4 (.dat (.list [.list ((RL es).map PT),.list ((CL es).map PT)]))))
 exact NM g h2 h3 rfl
theorem NO(hl:es.length=4)(hx:∀x∈es,x<12)(h2:z 2=.dat (.list (es.map ED))):Gd vv (ez z):=by
 refine dh LZ ?_
 show Gd vu (ez (upd z 3 (.dat (.list iN))))
 exact NN g hl hx h2 rfl
end
theorem NP{z:Nat->SV}{X:List Int}(hX:X.length=4)(h1:z 1=.dat (.list (X.map .int))):Gd vw (ez z):=by
 have h4:(X.map kd).length=4:=(ag ..).trans hX
 have h12:∀x∈X.map kd,x<12:=fun x hx=>x12 (aD.mp hx) fun y U e=>e▸(Bn y).1
 refine dh (LY (aa (cH hX) (by decide)) h1) ?_
 show Gd vv (ez (upd z 2 (.dat (.list ((X.map kd).map ED)))))
 exact NO (NJ h4 h12) h4 h12 rfl
theorem NQ(ns:List Int)(hl:ns.length<=63)(hz:z 0=.dat (.list (ns.map .int))):Gd nZ (ez z):=by
 refine x12 (LX ns hl hz) fun X hX k1=>?_
 refine dh k1 ?_
 show Gd vw (ez (upd z 1 (.dat (.list (X.map .int)))))
 exact NP hX rfl
theorem NR(xs:List Int)(hl:xs.length<=63):aM af nZ (aS n0 [.list (xs.map .int)])/\(av af nZ (aS n0 [.list (xs.map .int)])).1=.ret (.bool true):=by
 have h:Gd nZ (ez (upd (fun U=>.un) 0 (.dat (.list (xs.map .int))))):=NQ xs hl rfl
 have e:aS n0 [.list (xs.map .int)]=ez (upd (fun U=>.un) 0 (.dat (.list (xs.map .int)))):=rfl
 rw[e]
 obtain⟨h1,ρ',e,_⟩:=h
 exact⟨h1,congrArg Prod.fst e⟩
noncomputable abbrev dE(P:Qu)(x:Str)(k:Nat)(v:PN):RO:=.mk (Rz P x) (.str x k) v
noncomputable def NS(P:Qu):Obj:=(.mk (.type "dict") none (.dict #[(dE P (sS "builtins") 162 (.ref 4)),(dE P (sS "__main__") 163 (.ref 5)),(dE P (sS "_sre") 244 (.ref 12))] 3) #[])
noncomputable def NT(P:Qu):Obj:=(.mk .none none (.dict #[(dE P (sS "\x69mport.loaded._sre") 183 (.bool true)),(dE P (sS "class._frozen_importlib.BuiltinImporter") 185 (.ref 14)),(dE P (sS "watched.\x69mport") 206 (.ref 18)),(dE P (sS "class._frozen_importlib.ModuleSpec") 216 (.ref 22)),(dE P (sS "sys.modules.booked-epoch") 245 (.int 3 0)),(dE P (sS "\x69mport.later-laid._sre") 270 (.bool true)),(dE P (sS "watched.library") 272 (.ref 27)),(dE P (sS "watched.library-objects") 0 (.str (sS "\x0c") 0)),(dE P (sS "watched.library-deep._sre") 273 (.str ⟨#[4,0,0,11,4,0,0,11,4,0,0,3,4,0,0,11,8,4,100,105,99,116,2]⟩ 0))] 9) #[])
noncomputable def NU(P:Qu):Obj:=(.mk (.type "dict") none (.dict #[(dE P (sS "__name__") 165 (.str (sS "__main__") 164)),(dE P (sS "__doc__") 166 .none),(dE P (sS "__package__") 167 .none),(dE P (sS "__loader__") 168 (.builtin "__main__.__loader__#opaque")),(dE P (sS "__spec__") 169 .none),(dE P (sS "__annotations__") 170 (.ref 6)),(dE P (sS "__builtins__") 171 (.ref 4)),(dE P (sS "__file__") 173 (.str (sS "/claim/cut.py") 172)),(dE P (sS "__cached__") 174 .none),(dE P (sS "_sre") 275 (.ref 12))] 10) #[])
noncomputable def NV(P:Qu):Obj:=(.mk (.type "dict") none (.dict #[(dE P (sS "__name__") 247 (.str (sS "_sre") 246)),(dE P (sS "__doc__") 248 .none),(dE P (sS "__package__") 250 (.str (sS "") 249)),(dE P (sS "__loader__") 251 (.builtin "off-the-table:_sre.__loader__:shared#opaque")),(dE P (sS "__spec__") 252 (.builtin "off-the-table:_sre.__spec__:shared#opaque")),(dE P (sS "compile") 253 (.builtin "_sre.compile")),(dE P (sS "template") 254 (.builtin "off-the-table:_sre.template:shared#opaque")),(dE P (sS "getcodesize") 255 (.builtin "off-the-table:_sre.getcodesize:shared#opaque")),(dE P (sS "ascii_iscased") 256 (.builtin "off-the-table:_sre.ascii_iscased:shared#opaque")),(dE P (sS "unicode_iscased") 257 (.builtin "off-the-table:_sre.unicode_iscased:shared#opaque")),(dE P (sS "ascii_tolower") 258 (.builtin "off-the-table:_sre.ascii_tolower:shared#opaque")),(dE P (sS "unicode_tolower") 259 (.builtin "off-the-table:_sre.unicode_tolower:shared#opaque")),(dE P (sS "MAGIC") 261 (.int 20230612 260)),(dE P (sS "CODESIZE") 263 (.int 4 262)),(dE P (sS "MAXREPEAT") 265 (.int 4294967295 264)),(dE P (sS "MAXGROUPS") 267 (.int 1073741823 266)),(dE P (sS "copyright") 269 (.str (sS " SRE 2.2.2 Copyright (c) 1997-2002 by Secret Labs AB ") 268))] 17) #[])
noncomputable def NW(P:Qu):Obj:=(.mk (.type "module") (some 11) .plain #[])
noncomputable def NX(P:Qu):Obj:=(.mk (.type "dict") none (.dict #[(dE P (sS "__module__") 189 (.str (sS "_frozen_importlib") 186)),(dE P (sS "__firstlineno__") 190 (.int 971 187)),(dE P (sS "__doc__") 191 (.builtin "_frozen_importlib.BuiltinImporter.__doc__:str#opaque")),(dE P (sS "_ORIGIN") 192 (.str (sS "built-in") 188)),(dE P (sS "find_spec") 193 (.builtin "_frozen_importlib.BuiltinImporter.find_spec#opaque")),(dE P (sS "create_module") 194 (.builtin "_frozen_importlib.BuiltinImporter.create_module#opaque")),(dE P (sS "exec_module") 195 (.builtin "_frozen_importlib.BuiltinImporter.exec_module#opaque")),(dE P (sS "get_code") 196 (.builtin "_frozen_importlib.BuiltinImporter.get_code#opaque")),(dE P (sS "get_source") 197 (.builtin "_frozen_importlib.BuiltinImporter.get_source#opaque")),(dE P (sS "is_package") 198 (.builtin "_frozen_importlib.BuiltinImporter.is_package#opaque")),(dE P (sS "load_module") 199 (.builtin "_frozen_importlib.BuiltinImporter.load_module#opaque")),(dE P (sS "__static_attributes__") 200 (.ref 15)),(dE P (sS "__dict__") 202 (.ref 16)),(dE P (sS "__weakref__") 204 (.ref 17))] 14) #[])
noncomputable def NY(P:Qu):Obj:=(.mk (.type "type") none (.cls (ClassData.mk (sS "BuiltinImporter") [(.type "object")] [(.ref 14),(.type "object")] 13 (sS "BuiltinImporter") true [] [] false none false)) #[])
noncomputable def NZ(P:Qu):Obj:=(.mk (.type "tuple") none (.seq #[] 0) #[])
noncomputable def N0(P:Qu):Obj:=(.mk (.type "getset_descriptor") none (.fields #[(.str (sS "__dict__") 201),(.ref 14),(.builtin "function.__dict__"),(.builtin "function.__dict__#set")]) #[])
noncomputable def N1(P:Qu):Obj:=(.mk (.type "getset_descriptor") none (.fields #[(.str (sS "__weakref__") 203),(.ref 14),(.builtin "ExceptionGroup.__weakref__"),.none]) #[])
noncomputable def N2(P:Qu):Obj:=(.mk .none none (.seq #[(.int 13 0),(.str ⟨#[6,189,10,95,95,109,111,100,117,108,101,95,95,6,186,17,95,102,114,111,122,101,110,95,105,109,112,111,114,116,108,105,98,6,190,15,95,95,102,105,114,115,116,108,105,110,101,110,111,95,95,4,187,0,971,6,191,7,95,95,100,111,99,95,95,9,52,95,102,114,111,122,101,110,95,105,109,112,111,114,116,108,105,98,46,66,117,105,108,116,105,110,73,109,112,111,114,116,101,114,46,95,95,100,111,99,95,95,58,115,116,114,35,111,112,97,113,117,101,6,192,7,95,79,82,73,71,73,78,6,188,8,98,117,105,108,116,45,105,110,6,193,9,102,105,110,100,95,115,112,101,99,9,50,95,102,114,111,122,101,110,95,105,109,112,111,114,116,108,105,98,46,66,117,105,108,116,105,110,73,109,112,111,114,116,101,114,46,102,105,110,100,95,115,112,101,99,35,111,112,97,113,117,101,6,194,13,99,114,101,97,116,101,95,109,111,100,117,108,101,9,54,95,102,114,111,122,101,110,95,105,109,112,111,114,116,108,105,98,46,66,117,105,108,116,105,110,73,109,112,111,114,116,101,114,46,99,114,101,97,116,101,95,109,111,100,117,108,101,35,111,112,97,113,117,101,6,195,11,101,120,101,99,95,109,111,100,117,108,101,9,52,95,102,114,111,122,101,110,95,105,109,112,111,114,116,108,105,98,46,66,117,105,108,116,105,110,73,109,112,111,114,116,101,114,46,101,120,101,99,95,109,111,100,117,108,101,35,111,112,97,113,117,101,6,196,8,103,101,116,95,99,111,100,101,9,49,95,102,114,111,122,101,110,95,105,109,112,111,114,116,108,105,98,46,66,117,105,108,116,105,110,73,109,112,111,114,116,101,114,46,103,101,116,95,99,111,100,101,35,111,112,97,113,117,101,6,197,10,103,101,116,95,115,111,117,114,99,101,9,51,95,102,114,111,122,101,110,95,105,109,112,111,114,116,108,105,98,46,66,117,105,108,116,105,110,73,109,112,111,114,116,101,114,46,103,101,116,95,115,111,117,114,99,101,35,111,112,97,113,117,101,6,198,10,105,115,95,112,97,99,107,97,103,101,9,51,95,102,114,111,122,101,110,95,105,109,112,111,114,116,108,105,98,46,66,117,105,108,116,105,110,73,109,112,111,114,116,101,114,46,105,115,95,112,97,99,107,97,103,101,35,111,112,97,113,117,101,6,199,11,108,111,97,100,95,109,111,100,117,108,101,9,52,95,102,114,111,122,101,110,95,105,109,112,111,114,116,108,105,98,46,66,117,105,108,116,105,110,73,109,112,111,114,116,101,114,46,108,111,97,100,95,109,111,100,117,108,101,35,111,112,97,113,117,101,6,200,21,95,95,115,116,97,116,105,99,95,97,116,116,114,105,98,117,116,101,115,95,95,4,0,0,15,6,202,8,95,95,100,105,99,116,95,95,4,0,0,16,6,204,11,95,95,119,101,97,107,114,101,102,95,95,4,0,0,17]⟩ 0),(.bool true),(.bool true),(.str (sS "") 205),(.int 21 0),(.str ⟨#[6,227,10,95,95,109,111,100,117,108,101,95,95,6,217,17,95,102,114,111,122,101,110,95,105,109,112,111,114,116,108,105,98,6,228,15,95,95,102,105,114,115,116,108,105,110,101,110,111,95,95,4,218,0,562,6,229,7,95,95,100,111,99,95,95,9,47,95,102,114,111,122,101,110,95,105,109,112,111,114,116,108,105,98,46,77,111,100,117,108,101,83,112,101,99,46,95,95,100,111,99,95,95,58,115,116,114,35,111,112,97,113,117,101,6,230,8,95,95,105,110,105,116,95,95,9,44,95,102,114,111,122,101,110,95,105,109,112,111,114,116,108,105,98,46,77,111,100,117,108,101,83,112,101,99,46,95,95,105,110,105,116,95,95,35,111,112,97,113,117,101,6,231,8,95,95,114,101,112,114,95,95,9,44,95,102,114,111,122,101,110,95,105,109,112,111,114,116,108,105,98,46,77,111,100,117,108,101,83,112,101,99,46,95,95,114,101,112,114,95,95,35,111,112,97,113,117,101,6,232,6,95,95,101,113,95,95,9,42,95,102,114,111,122,101,110,95,105,109,112,111,114,116,108,105,98,46,77,111,100,117,108,101,83,112,101,99,46,95,95,101,113,95,95,35,111,112,97,113,117,101,6,233,6,99,97,99,104,101,100,9,42,95,102,114,111,122,101,110,95,105,109,112,111,114,116,108,105,98,46,77,111,100,117,108,101,83,112,101,99,46,99,97,99,104,101,100,35,111,112,97,113,117,101,6,234,6,112,97,114,101,110,116,9,42,95,102,114,111,122,101,110,95,105,109,112,111,114,116,108,105,98,46,77,111,100,117,108,101,83,112,101,99,46,112,97,114,101,110,116,35,111,112,97,113,117,101,6,235,12,104,97,115,95,108,111,99,97,116,105,111,110,9,48,95,102,114,111,122,101,110,95,105,109,112,111,114,116,108,105,98,46,77,111,100,117,108,101,83,112,101,99,46,104,97,115,95,108,111,99,97,116,105,111,110,35,111,112,97,113,117,101,6,236,21,95,95,115,116,97,116,105,99,95,97,116,116,114,105,98,117,116,101,115,95,95,4,0,0,23,6,238,8,95,95,100,105,99,116,95,95,4,0,0,24,6,240,11,95,95,119,101,97,107,114,101,102,95,95,4,0,0,25,6,241,8,95,95,104,97,115,104,95,95,0]⟩ 0),(.bool true),(.bool true),(.str (sS "") 242)] 1) #[])
noncomputable def N3(P:Qu):Obj:=(.mk (.type "list") none (.seq #[] 0) #[])
noncomputable def N4(P:Qu):Obj:=(.mk (.type "dict") none (.dict #[(dE P (sS "name") 208 (.str (sS "_sre") 207)),(dE P (sS "loader") 209 (.ref 14)),(dE P (sS "origin") 210 (.str (sS "built-in") 184)),(dE P (sS "loader_state") 211 .none),(dE P (sS "submodule_search_locations") 212 .none),(dE P (sS "_uninitialized_submodules") 213 (.ref 19)),(dE P (sS "_set_fileattr") 214 (.bool false)),(dE P (sS "_cached") 215 .none),(dE P (sS "_initializing") 243 (.bool false))] 9) #[])
noncomputable def N6(P:Qu):Obj:=(.mk (.type "dict") none (.dict #[(dE P (sS "__module__") 227 (.str (sS "_frozen_importlib") 217)),(dE P (sS "__firstlineno__") 228 (.int 562 218)),(dE P (sS "__doc__") 229 (.builtin "_frozen_importlib.ModuleSpec.__doc__:str#opaque")),(dE P (sS "__init__") 230 (.builtin "_frozen_importlib.ModuleSpec.__init__#opaque")),(dE P (sS "__repr__") 231 (.builtin "_frozen_importlib.ModuleSpec.__repr__#opaque")),(dE P (sS "__eq__") 232 (.builtin "_frozen_importlib.ModuleSpec.__eq__#opaque")),(dE P (sS "cached") 233 (.builtin "_frozen_importlib.ModuleSpec.cached#opaque")),(dE P (sS "parent") 234 (.builtin "_frozen_importlib.ModuleSpec.parent#opaque")),(dE P (sS "has_location") 235 (.builtin "_frozen_importlib.ModuleSpec.has_location#opaque")),(dE P (sS "__static_attributes__") 236 (.ref 23)),(dE P (sS "__dict__") 238 (.ref 24)),(dE P (sS "__weakref__") 240 (.ref 25)),(dE P (sS "__hash__") 241 .none)] 13) #[])
noncomputable def N7(P:Qu):Obj:=(.mk (.type "type") none (.cls (ClassData.mk (sS "ModuleSpec") [(.type "object")] [(.ref 22),(.type "object")] 21 (sS "ModuleSpec") true [] [] false none false)) #[])
noncomputable def N8(P:Qu):Obj:=(.mk (.type "tuple") none (.seq #[(.str (sS "_cached") 219),(.str (sS "_set_fileattr") 220),(.str (sS "_uninitialized_submodules") 221),(.str (sS "loader") 222),(.str (sS "loader_state") 223),(.str (sS "name") 224),(.str (sS "origin") 225),(.str (sS "submodule_search_locations") 226)] 0) #[])
noncomputable def N9(P:Qu):Obj:=(.mk (.type "getset_descriptor") none (.fields #[(.str (sS "__dict__") 237),(.ref 22),(.builtin "function.__dict__"),(.builtin "function.__dict__#set")]) #[])
noncomputable def Oa(P:Qu):Obj:=(.mk (.type "getset_descriptor") none (.fields #[(.str (sS "__weakref__") 239),(.ref 22),(.builtin "ExceptionGroup.__weakref__"),.none]) #[])
noncomputable def Oc(P:Qu):Obj:=(.mk (.ref 22) (some 20) .plain #[])
noncomputable def Od(P:Qu):Obj:=(.mk .none none (.seq #[(.int 11 0),(.str (Str.mk #[6,247,8,95,95,110,97,109,101,95,95,6,246,4,95,115,114,101,6,248,7,95,95,100,111,99,95,95,0,6,250,11,95,95,112,97,99,107,97,103,101,95,95,6,249,0,6,251,10,95,95,108,111,97,100,101,114,95,95,4,0,0,14,6,252,8,95,95,115,112,101,99,95,95,4,0,0,26,6,253,7,99,111,109,112,105,108,101,9,12,95,115,114,101,46,99,111,109,112,105,108,101,6,254,8,116,101,109,112,108,97,116,101,9,13,95,115,114,101,46,116,101,109,112,108,97,116,101,6,255,11,103,101,116,99,111,100,101,115,105,122,101,9,16,95,115,114,101,46,103,101,116,99,111,100,101,115,105,122,101,6,256,13,97,115,99,105,105,95,105,115,99,97,115,101,100,9,18,95,115,114,101,46,97,115,99,105,105,95,105,115,99,97,115,101,100,6,257,15,117,110,105,99,111,100,101,95,105,115,99,97,115,101,100,9,20,95,115,114,101,46,117,110,105,99,111,100,101,95,105,115,99,97,115,101,100,6,258,13,97,115,99,105,105,95,116,111,108,111,119,101,114,9,18,95,115,114,101,46,97,115,99,105,105,95,116,111,108,111,119,101,114,6,259,15,117,110,105,99,111,100,101,95,116,111,108,111,119,101,114,9,20,95,115,114,101,46,117,110,105,99,111,100,101,95,116,111,108,111,119,101,114,6,261,5,77,65,71,73,67,4,260,0,20230612,6,263,8,67,79,68,69,83,73,90,69,4,262,0,4,6,265,9,77,65,88,82,69,80,69,65,84,4,264,0,4294967295,6,267,9,77,65,88,71,82,79,85,80,83,4,266,0,1073741823,6,269,9,99,111,112,121,114,105,103,104,116,6,268,53,32,83,82,69,32,50,46,50,46,50,32,67,111,112,121,114,105,103,104,116,32,40,99,41,32,49,57,57,55,45,50,48,48,50,32,98,121,32,83,101,99,114,101,116,32,76,97,98,115,32,65,66,32]) 0),(.bool true),(.bool false),(.str (sS "_sre") 271)] 0) #[])
noncomputable def L0(P:Qu):List Obj:=[boot_o_0 P,NS P,NT P,NU P,boot_o_4 P,boot_o_5 P,boot_o_6 P,boot_o_7 P,boot_o_8 P,boot_o_9 P,boot_o_10 P,NV P,NW P,NX P,NY P,NZ P,N0 P,N1 P,N2 P,N3 P,N4 P,N6 P,N7 P,N8 P,N9 P,Oa P,Oc P,Od P]
noncomputable def vZ{α:Type}:List α->List α
 | []=>[]
 | [x]=>[x]
 | x::_::l=>x::vZ l
noncomputable def oy:Nat->List Obj->BT
 | 0,_=>.nil
 | _,[]=>.nil
 | n+1,x::l=>.node x (oy n (vZ l)) (oy n (vZ l.tail))
noncomputable def lf:Life:=.mk [] [] [] 0 [] [] false #[] [] 0 false false false 0 [2000,10,10] false 0 true [] [] 0 false
noncomputable def fv(P:Qu)(os:OsState):RH:=⟨oy 6 (L0 P),28,lf,#[],{},276,os⟩
noncomputable abbrev tf:List Frame:=[topFrame Ri]
theorem Of(w:Qq):(fencedOpening R0 ck w 6000).map (fun s=>(s.heap,s.gens,s.drawn,s.toks))=some ((fv w.params {}).abs.heap,#[],{},276):=by kernel_rfl
noncomputable def oA(tb:String->Option QQ)(p:Qs)(w:Qq)(n₀:Nat)(ann:Option PN):Nat->RH->Thread->Option RH
 | 0,_,_=>none
 | n+1,s,t=>match through t with
  | true=>some s
  | false=>match stepOk n₀ ann t with
   | false=>none
   | true=>match stepT (denote tb) p w s t with
    | some (s',t')=>oA tb p w n₀ ann n s' t'
    | none=>none
theorem Og{tb:String->Option QQ}{p:Qs}{w:Qq}{n₀:Nat}{ann:Option PN}{n:Nat}{s:RH}{t:Thread}:oA tb p w n₀ ann (n+1) s t=match through t with
 | true=>some s
 | false=>match stepOk n₀ ann t with
  | false=>none
  | true=>match stepT (denote tb) p w s t with
   | some (s',t')=>oA tb p w n₀ ann n s' t'
   | none=>none:=rfl
theorem Oi{tb:String->Option QQ}{p:Qs}{w:Qq}{n₀:Nat}{ann:Option PN}:∀ {n:Nat} {s s':RH} {t:Thread},oA tb p w n₀ ann n s t=some s'->topRun tb p w n₀ ann n s.abs t=some s'.abs:=fun{n}=>by
 induction n with
 | zero=>exact fun h=>nomatch h
 | succ n ih =>
  intro s s' t h
  rw[Og]at h
  unfold topRun
  cases ht:through t with
  | true=>rw[ht]at h;cases h;rfl
  | false =>
   rw[ht]at h
   cases hk:stepOk n₀ ann t with
   | false=>rw[hk]at h;cases h
   | true =>
    rw[hk]at h
    cases hs:stepT (denote tb) p w s t with
    | none=>rw[hs]at h;cases h
    | some r=>obtain⟨s₂,t₂⟩:=r;rw[hs]at h;dsimp only;rw[stepT_spec hs];exact ih h
noncomputable def oB:Qs:=view ck [0,1,3,4,5,6,7,9,10,12,13,15,16,18,19,21,22,23,24,25,26,27,28,29]
noncomputable def oC:List Str:=[ofString "_twin_re_1",ofString "_special_chars_map",ofString "_NodeInfo"]
noncomputable def fo(f:Qm):Obj:=.mk (.type "function") none (.func f) #[]
noncomputable def B6(P:Qu):Obj:=(.mk (.type "type") none (.cls (.mk (sS "_NodeInfo") [(.type "object")] [(.ref 57),(.type "object")] 56 (sS "_NodeInfo") false [(sS "node"),(sS "npredecessors"),(sS "successors")] [] false none false)) #[none,none,(some (.str (sS "_NodeInfo") 297)),(some (.str (sS "_NodeInfo") 305)),(some (.builtin "object.__new__")),(some (.bool false))])
noncomputable def B7(P:Qu):Obj:=(.mk (.type "dict") none (.dict #[(dE P (sS "__module__") 304 (.str (sS "cpy313.graphlib") 289)),(dE P (sS "__firstlineno__") 308 (.int 8 307)),(dE P (sS "__slots__") 312 (.ref 46)),(dE P (sS "__init__") 320 (.ref 53)),(dE P (sS "__static_attributes__") 324 (.ref 54)),(dE P (sS "node") 326 (.ref 58)),(dE P (sS "npredecessors") 328 (.ref 59)),(dE P (sS "successors") 330 (.ref 60)),(dE P (sS "__doc__") 331 .none)] 5) #[])
noncomputable def B8(P:Qu):Obj:=(.mk (.type "type") none (.cls (.mk (sS "TopologicalSorter") [(.type "object")] [(.ref 154),(.type "object")] 153 (sS "TopologicalSorter") true [] [] false none false)) #[none,none,(some (.str (sS "TopologicalSorter") 352)),(some (.str (sS "TopologicalSorter") 360)),(some (.builtin "object.__new__")),(some (.bool true))])
noncomputable def B9(P:Qu):Obj:=(.mk (.type "dict") none (.dict #[(dE P (sS "__module__") 359 (.str (sS "cpy313.graphlib") 289)),(dE P (sS "__firstlineno__") 363 (.int 17 362)),(dE P (sS "__init__") 373 (.ref 90)),(dE P (sS "_get_nodeinfo") 382 (.ref 97)),(dE P (sS "add") 394 (.ref 104)),(dE P (sS "prepare") 400 (.ref 109)),(dE P (sS "get_ready") 410 (.ref 116)),(dE P (sS "is_active") 417 (.ref 123)),(dE P (sS "__bool__") 424 (.ref 130)),(dE P (sS "done") 438 (.ref 137)),(dE P (sS "_find_cycle") 451 (.ref 144)),(dE P (sS "static_order") 458 (.ref 151)),(dE P (sS "__static_attributes__") 463 (.ref 152)),(dE P (sS "__dict__") 465 (.ref 155)),(dE P (sS "__weakref__") 467 (.ref 156)),(dE P (sS "__doc__") 468 .none)] 4) #[])
noncomputable def Ca(P:Qu):Obj:=(.mk (.type "type") none (.cls (.mk (sS "CycleError") [(.type "ValueError")] [(.ref 72),(.type "ValueError"),(.type "Exception"),(.type "BaseException"),(.type "object")] 71 (sS "CycleError") true [] [] false none false)) #[(some (.ref 63)),none,(some (.str (sS "CycleError") 334)),(some (.str (sS "CycleError") 342)),(some (.builtin "ValueError.__new__")),(some (.bool true))])
noncomputable def Cb(P:Qu):Obj:=(.mk (.type "dict") none (.dict #[(dE P (sS "__module__") 341 (.str (sS "cpy313.graphlib") 289)),(dE P (sS "__firstlineno__") 345 (.int 15 344)),(dE P (sS "__static_attributes__") 346 (.ref 70)),(dE P (sS "__weakref__") 348 (.ref 73)),(dE P (sS "__doc__") 349 .none)] 3) #[])
noncomputable def Cd(P:Qu):Obj:=(.mk (.type "member_descriptor") none (.fields #[(.str (sS "node") 325),(.ref 57),(.builtin "proto.slot"),(.builtin "proto.slot#set"),(.int 2 0)]) #[])
noncomputable def Ce(P:Qu):Obj:=(.mk (.type "member_descriptor") none (.fields #[(.str (sS "npredecessors") 327),(.ref 57),(.builtin "proto.slot"),(.builtin "proto.slot#set"),(.int 1 0)]) #[])
noncomputable def Cf(P:Qu):Obj:=(.mk (.type "member_descriptor") none (.fields #[(.str (sS "successors") 329),(.ref 57),(.builtin "proto.slot"),(.builtin "proto.slot#set"),(.int 0 0)]) #[])
noncomputable def oD(P:Qu):Obj:=(.mk (.type "dict") none (.dict #[(Qt 40 (.int 40 523) (.str (sS "\\(") 527)),(Qt 41 (.int 41 529) (.str (sS "\\)") 533)),(Qt 91 (.int 91 535) (.str (sS "\\[") 539)),(Qt 93 (.int 93 541) (.str (sS "\\]") 545)),(Qt 123 (.int 123 547) (.str (sS "\\{") 551)),(Qt 125 (.int 125 553) (.str (sS "\\}") 557)),(Qt 63 (.int 63 559) (.str (sS "\\?") 563)),(Qt 42 (.int 42 565) (.str (sS "\\*") 569)),(Qt 43 (.int 43 571) (.str (sS "\\+") 575)),(Qt 45 (.int 45 577) (.str (sS "\\-") 581)),(Qt 124 (.int 124 583) (.str (sS "\\|") 587)),(Qt 94 (.int 94 589) (.str (sS "\\^") 593)),(Qt 36 (.int 36 595) (.str (sS "\\$") 599)),(Qt 92 (.int 92 601) (.str (sS "\\\\") 605)),(Qt 46 (.int 46 607) (.str (sS "\\.") 611)),(Qt 38 (.int 38 613) (.str (sS "\\&") 617)),(Qt 126 (.int 126 619) (.str (sS "\\~") 623)),(Qt 35 (.int 35 625) (.str (sS "\\#") 629)),(Qt 32 (.int 32 631) (.str (sS "\\ ") 635)),(Qt 9 (.int 9 637) (.str (sS "\\\t") 641)),(Qt 10 (.int 10 643) (.str (sS "\\\n") 647)),(Qt 13 (.int 13 649) (.str (sS "\\\x0d") 653)),(Qt 11 (.int 11 655) (.str (sS "\\\x0b") 659)),(Qt 12 (.int 12 661) (.str (sS "\\\x0c") 665))] 24) #[])
noncomputable def rB(P:Qu):Obj:=(.mk (.type "tuple") none (.seq #[.none] 0) #[])
noncomputable def Cg:Qm:=bX "_deduplicate_unhashable" "_deduplicate_unhashable" (bp 18) "cpy313.typing" 709 202 .none
noncomputable def Ch:Qm:=bX "_compare_args_orderless" "_compare_args_orderless" (bp 19) "cpy313.typing" 709 209 .none
noncomputable def v3:Qm:=bX "translate" "translate" (bp 10) "cpy313.fnmatch" 471 169 .none
noncomputable def Ci:Qm:=bX "escape" "escape" (bp 13) "re" 520 181 .none
noncomputable def Cj:Qm:=bX "_translate" "_translate" (bp 15) "cpy313.fnmatch" 675 188 .none
noncomputable def Cm:Qm:=bX "_join_translated_parts" "_join_translated_parts" (bp 16) "cpy313.fnmatch" 675 195 .none
noncomputable def Cn:Qm:=bX "_law_edge" "_law_edge" (bp 21) "law_kt0069_07" 732 216 .none
noncomputable def Co:Qm:=bX "_law_rings" "_law_rings" (bp 22) "law_kt0069_07" 732 221 .none
noncomputable def Cp:Qm:=bX "_law_cuts" "_law_cuts" (bp 23) "law_kt0069_07" 732 226 .none
noncomputable def Cq:Qm:=bX "_law_taken" "_law_taken" (bp 24) "law_kt0069_07" 732 231 .none
noncomputable def Cr:Qm:=bX "_law_told" "_law_told" (bp 25) "law_kt0069_07" 732 236 .none
noncomputable def Cs:Qm:=bX "_law_raises" "_law_raises" (bp 26) "law_kt0069_07" 732 243 .none
noncomputable def Ct:Qm:=bX "_law_least" "_law_least" (bp 27) "law_kt0069_07" 732 248 .none
noncomputable def Cu:Qm:=bX "_law_active" "_law_active" (bp 28) "law_kt0069_07" 732 253 .none
noncomputable def Cv:Qm:=bX "law" "law" (bp 29) "law_kt0069_07" 732 258 .none
noncomputable def KL(P:Qu):Frag:=[(203,fo Cg),(210,fo Ch),(170,fo v3),(182,fo Ci),(189,fo Cj),(196,fo Cm),(fI,fo oS),(fT,fo fdT),(oQ,fo hV),(lT,fo iR),(fP,fo iS),(fF,fo hW),(217,fo Cn),(222,fo Co),(227,fo Cp),(232,fo Cq),(237,fo Cr),(244,fo Cs),(249,fo Ct),(254,fo Cu),(259,fo Cv),(NI,B6 P),(56,B7 P),(TS,B8 P),(153,B9 P),(CE,Ca P),(71,Cb P),(pN,Cd P),(pP,Ce P),(pS,Cf P),(172,oD P),(83,rB P)]
noncomputable def rC:List (PP × Str):=[(202,sS "_deduplicate_unhashable"),(209,sS "_compare_args_orderless"),(169,sS "translate"),(181,sS "escape"),(188,sS "_translate"),(195,sS "_join_translated_parts"),(52,sS "_NodeInfo.__init__"),(89,sS "TopologicalSorter.__init__"),(96,sS "TopologicalSorter._get_nodeinfo"),(103,sS "TopologicalSorter.add"),(108,sS "TopologicalSorter.prepare"),(143,sS "TopologicalSorter._find_cycle"),(216,sS "_law_edge"),(221,sS "_law_rings"),(226,sS "_law_cuts"),(231,sS "_law_taken"),(236,sS "_law_told"),(243,sS "_law_raises"),(248,sS "_law_least"),(253,sS "_law_active"),(258,sS "law")]
noncomputable def oE:List (Str × PP):=[(sS "_deduplicate_unhashable",203),(sS "_compare_args_orderless",210),(sS "translate",170),(sS "escape",182),(sS "_translate",189),(sS "_join_translated_parts",196),(sS "_special_chars_map",172),(sS "_NodeInfo",NI),(sS "CycleError",CE),(sS "TopologicalSorter",TS),(sS "_law_edge",217),(sS "_law_rings",222),(sS "_law_cuts",227),(sS "_law_taken",232),(sS "_law_told",237),(sS "_law_raises",244),(sS "_law_least",249),(sS "_law_active",254),(sS "law",259)]
structure HF(w:Qq)(mg mb:Str->Option PN)(h:Qk):Prop where
 g:h.Ns Rc mg
 b:h.Ns R3 mb
 lim:h.NoLimit
 K:(KL w.params).In h
 bn:∀p∈cb,mg p.1=none/\mb p.1=some p.2
 gl:∀p∈oE,mg p.1=some (.ref p.2)
 cd:∀p∈rC,h.CodeRec (.ref p.1) p.2
 sys:∃o,h.get? Rn=some o
noncomputable def G5(w:Qq)(mg mb:Str->Option PN)(h:Qk):Glo:=⟨ck,w,mg,mb,KL w.params,h,pZ ck w⟩
noncomputable def Cw(a:PP):PN->Bool
 | .ref b=>bD b a
 | _=>false
theorem Oj{a:PP}{v:PN}(q:Cw a v=true):v=.ref a:=by
 cases v<;>first | exact absurd q Pl | exact congrArg Qd (lN q)
theorem gB{α β:Type}{a a':α}{b b':β}(h:(a,b)=(a',b')):a=a'/\b=b':=⟨congrArg Prod.fst h,congrArg Prod.snd h⟩
section
variable{w:Qq}{mg mb:Str->Option PN}{h:Qk}(H:HF w mg mb h)
include H
theorem aF:(G5 w mg mb h).Wf where
 g:=H.g
 b:=H.b
 lim:=H.lim
 K:=H.K
 srf g S h h' v r k _ _:=Hd r k
 bn:=H.bn
theorem fi{a:PP}{fd:Qm}{b:List PW}{names vars:List Str}(hl:(KL w.params).lookup a=some (fo fd))(hx:(fd.body,fd.closure,fd.globals,fd.builtins)=(.stmts b,[],Rc,R3))
 (hc:(rC.any fun p=>Cw p.1 fd.code&&fd.qualname==p.2)=true) (sc:tg fd.scope names vars=true):FnInfo (G5 w mg mb h) a fd b names vars where
 at_:=⟨_,hl,rfl⟩
 hbody:=(gB hx).1
 hclo:=(gB (gB hx).2).1
 hg:=(gB (gB (gB hx).2).2).1
 hb:=(gB (gB (gB hx).2).2).2
 hcode:=by
  refine x12 (eH.mp hc) fun p hp q=>aP q fun q1 q2=>?_
  rw[Oj q1,P9 q2];exact H.cd p hp
 sc:=FnSc.of sc
end
theorem Ol:cb.map (fun p=>bootBuiltins p.1)=cb.map fun p=>some p.2:=by kernel_rfl
section
variable(P:Qu)
theorem v4:eM (KL P) TS=true:=by kernel_rfl
theorem Cx:fL (KL P) NI=true:=by kernel_rfl
theorem Cy:dM (KL P) NI (sS "node") pN 0=true:=by kernel_rfl
theorem Cz:dM (KL P) NI (sS "npredecessors") pP 1=true:=by kernel_rfl
theorem rE:dM (KL P) NI (sS "successors") pS 2=true:=by kernel_rfl
end
theorem Om(u v:PN)(ps:List PN)(h:ps.length<=8):Q9 iR ⟨u::v::ps,[]⟩=(newTuple ps >>= fun t=>pure ([aB,az,jg].zip [u,v,t])):=by
 rcases ps with _ | ⟨_,_ | ⟨_,_ | ⟨_,_ | ⟨_,_ | ⟨_,_ | ⟨_,_ | ⟨_,_ | ⟨_,_ | ⟨_,l⟩⟩⟩⟩⟩⟩⟩⟩⟩
 all_goals first | kernel_rfl | exact absurd h (Nat.not_le_of_gt (Nat.le_add_left 9 l.length))
noncomputable def On:Qm:=bX "__init__" "TopologicalSorter.__init__" (md 7 0) "cpy313.graphlib" 289 89 (.ref 83)
theorem Oo{K:Frag}{P:Qu}(s:PL)(hK:K.In s.heap)(h:K.lookup 83=some (rB P))(v:PN):BindsTo s fdT ⟨[v],[]⟩ ([aB,jS].zip [v,.none]):=by
 rw[show fdT=On by kernel_rfl]
 exact .of_defaults (T:=83) (o:=rB P) (items:=#[.none]) (n:=0) rfl (hK 83 _ h) rfl rfl rfl
section
variable{w:Qq}{mg mb:Str->Option PN}{h:Qk}(H:HF w mg mb h)
include H
theorem N5:NiInfo (G5 w mg mb h) oS bI where
 ni:=Cx _
 sN:=Cy _
 sP:=Cz _
 sS:=rE _
 init:=by kernel_rfl
 isfn:=by kernel_rfl
 FI:=fi H (by kernel_rfl) (by kernel_rfl) (by kernel_rfl) (by kernel_rfl)
 bind u v:=by kernel_rfl
 bd:=⟨by kernel_rfl⟩
theorem I5:SI (G5 w mg mb h) where
 ts:=v4 _
 N:=N5 H
 ni:=H.gl (sS "_NodeInfo",NI) (by decide +kernel)
 keepN:=by kernel_rfl
 get:=by kernel_rfl
 FG:=fi H (by kernel_rfl) (by kernel_rfl) (by kernel_rfl) (by kernel_rfl)
 bindG u v:=by kernel_rfl
 bdG:=⟨by kernel_rfl,by kernel_rfl⟩
 glG:=by kernel_rfl
 sys:=H.sys
theorem A5:SA (G5 w mg mb h) where
 toSI:=I5 H
 FA:=fi H (by kernel_rfl) (by kernel_rfl) (by kernel_rfl) (by kernel_rfl)
 bindA:=Om
 bdA:=⟨by kernel_rfl,by kernel_rfl,by kernel_rfl,by kernel_rfl⟩
 glA:=by kernel_rfl
theorem T5:TInfo (G5 w mg mb h) fdT bT where
 ts:=v4 _
 init:=by kernel_rfl
 isfn:=by kernel_rfl
 FI:=fi H (by kernel_rfl) (by kernel_rfl) (by kernel_rfl) (by kernel_rfl)
 bind s hK v:=Oo s hK (P:=w.params) (by kernel_rfl) v
 bd:=⟨by kernel_rfl⟩
theorem Ot:FInfo (G5 w mg mb h) where
 ts:=v4 _
 ni:=Cx _
 sS:=rE _
 FF:=fi H (by kernel_rfl) (by kernel_rfl) (by kernel_rfl) (by kernel_rfl)
 bind u:=by kernel_rfl
 bd:=⟨sB bF 5,by kernel_rfl,sB (eG (sB (eG (sB bF 5)) 1)) 0,sB (eG (sB (eG (sB bF 5)) 1)) 1,by kernel_rfl,⟨by kernel_rfl,by kernel_rfl,by kernel_rfl,by kernel_rfl⟩,⟨by kernel_rfl,by kernel_rfl,by kernel_rfl⟩⟩
 gl:=by kernel_rfl
 loc:=by kernel_rfl
 sys:=H.sys
end
noncomputable def ent(o:Obj):Array RO:=match o.data with | .dict es _=>es | _=>#[]
theorem v5(e:vs.length=n+1):∃a r,vs=a::r/\r.length=n:=by
 cases vs with
 | nil=>exact Nat.noConfusion e
 | cons a r=>exact⟨a,r,rfl,Nat.succ.inj e⟩
theorem hU{α:Type}{f g:List PN->α}(h:∀a,f [a]=g [a])(vs:List PN)(e:vs.length=1):f vs=g vs :=
 x22 (v5 e) fun a r e1 e2=>by rw[e1,List.length_eq_zero_iff.mp e2];exact h a
theorem rF{α:Type}{f g:List PN->α}(h:∀a b,f [a,b]=g [a,b])(vs:List PN)(e:vs.length=2):f vs=g vs :=
 x22 (v5 e) fun a r e1 e2=>e1▸hU (f:=fun r=>f (a::r)) (g:=fun r=>g (a::r)) (h a) r e2
theorem v8{α:Type}{f g:List PN->α}(h:∀a b c,f [a,b,c]=g [a,b,c])(vs:List PN)(e:vs.length=3):f vs=g vs :=
 x22 (v5 e) fun a r e1 e2=>e1▸rF (f:=fun r=>f (a::r)) (g:=fun r=>g (a::r)) (h a) r e2
section
variable{w:Qq}{mg mb:Str->Option PN}{h:Qk}(H:HF w mg mb h)
include H
theorem Ou:PInfo (G5 w mg mb h) where
 toFInfo:=Ot H
 sN:=Cy _
 sP:=Cz _
 mF:=by kernel_rfl
 FP:=fi H (by kernel_rfl) (by kernel_rfl) (by kernel_rfl) (by kernel_rfl)
 bindP u:=by kernel_rfl
 bdP:=⟨sS "nodes are in a cycle",by kernel_rfl,by kernel_rfl,by kernel_rfl,by kernel_rfl,by kernel_rfl⟩
 glP:=by kernel_rfl
 ce:=H.gl (sS "CycleError",CE) (by decide +kernel)
 exc:=by kernel_rfl
theorem S5:SorG (G5 w mg mb h) where
 sr _ _ _ _:=Iff.rfl
 T:=T5 H
 A:=A5 H
 P:=Ou H
 gT:=H.gl (sS "TopologicalSorter",TS) (by decide +kernel)
 kT:=by kernel_rfl
 mA:=by kernel_rfl
 mP:=by kernel_rfl
 ce:=by kernel_rfl
theorem Ov:aK (G5 w mg mb h) bZ:=HH (a:=182) (fd:=Ci) (body:=oV) (scm:=172) (f:=fun k=>findBy Value.isInt (ent (oD w.params)) k) (aF H) {
 nm:=H.gl (sS "escape",182) (by decide +kernel)
 FI:=fi H (by kernel_rfl) (by kernel_rfl) (by kernel_rfl) (by kernel_rfl)
 bind:=hU fun a=>by kernel_rfl
 bd:=⟨by kernel_rfl,by kernel_rfl,by kernel_rfl,by kernel_rfl,by kernel_rfl⟩
 gs:=H.gl (sS "_special_chars_map",172) (by decide +kernel)
 mp:=⟨oD w.params,_,_,H.K 172 _ (by kernel_rfl),rfl,rfl,fun e he=>by
  have:((ent (oD w.params)).toList.all fun e=>match e.key with | .int k _=>decide (e.hash=hashInt k) | _=>false)=true:=by kernel_rfl
  have:=bC.mp this e (Array.mem_toList_iff.mpr he)
  revert this
  cases e.key<;>intro this<;>first | exact absurd this Pl | exact⟨_,_,rfl,of_decide_eq_true this⟩,fun k=>rfl⟩
 at_:=fun c hc=>by
  rcases ae.mp hc with rfl | hc
  ·exact⟨575,by kernel_rfl⟩
  ·rcases ae.mp hc with rfl | hc
   ·exact⟨581,by kernel_rfl⟩
   ·rw[ai.mp hc];exact⟨611,by kernel_rfl⟩ }
theorem Ow : aK (G5 w mg mb h) eU := H7 (aF H) (Ov H) (fT := 189) (fJ := 196) (fN := 170) (fdN := v3) (bN := (bp 10).2.1) (fdT := Cj) (fdJ := Cm) (bT := hZ) (bJ := ib) {
  nm := H.gl (sS "translate", 170) (by decide +kernel)
  FI := fi H (by kernel_rfl) (by kernel_rfl) (by kernel_rfl) (by kernel_rfl)
  bind := hU fun a => by kernel_rfl
  bd := ⟨by kernel_rfl, by kernel_rfl, by kernel_rfl, by kernel_rfl⟩
  gT := H.gl (sS "_translate", 189) (by decide +kernel)
  gJ := H.gl (sS "_join_translated_parts", 196) (by decide +kernel)
  T := { FI := fi H (by kernel_rfl) (by kernel_rfl) (by kernel_rfl) (by kernel_rfl)
         bind := v8 fun a b c => by kernel_rfl
         bd := ⟨by kernel_rfl, by kernel_rfl, by kernel_rfl, by kernel_rfl, by kernel_rfl,
           ⟨by kernel_rfl, by kernel_rfl, by kernel_rfl, by kernel_rfl, by kernel_rfl, by kernel_rfl, by kernel_rfl, by kernel_rfl, by kernel_rfl, by kernel_rfl⟩, by kernel_rfl⟩ }
  J := { FI := fi H (by kernel_rfl) (by kernel_rfl) (by kernel_rfl) (by kernel_rfl)
         bind := rF fun a b => by kernel_rfl
         bd := ⟨by kernel_rfl, by kernel_rfl, by kernel_rfl, by kernel_rfl,
           ⟨by kernel_rfl, by kernel_rfl, by kernel_rfl, by kernel_rfl⟩, by kernel_rfl, ⟨by kernel_rfl, by kernel_rfl, by kernel_rfl, by kernel_rfl⟩⟩ } }
end
section
variable{w:Qq}{mg mb:Str->Option PN}{h:Qk}(H:HF w mg mb h)
include H
theorem jy(S:SX)(F:FEntry)(a:PP)(fd:Qm)(b:List PW)(names vars:List Str)(hF:∀F∈Φ,aK (G5 w mg mb h) F)(hP:eb (G5 w mg mb h) false S)(hm:(F.name,a)∈oE)
 (I:FnInfo (G5 w mg mb h) a fd b names vars) (hbind:∀vs:List PN,vs.length=names.length->Q9 fd ⟨vs,[]⟩=pure (names.zip vs))
 (hchk:cn Φ S fd.scope (vars.map some) b=true) (hk:kS Φ S+1<=F.k)
 (hpre:∀ds,F.pre ds->ds.length=names.length/\aM Φ S (aS vars ds)/\(av Φ S (aS vars ds)).1=.ret (F.val ds)):aK (G5 w mg mb h) F :=
 x12 I.at_ fun U q1 q2=>Fu (aF H) hF S hP F (H.gl _ hm) q1 q2 I.hbody I.hclo I.hg I.hb I.hcode I.sc hbind hchk hk hpre
theorem v9(S:SX)(F:FEntry)(a:PP)(fd:Qm)(b:List PW)(names vars:List Str)(hF:∀F∈Φ,aK (G5 w mg mb h) F)(hP:eb (G5 w mg mb h) true S)(hm:(F.name,a)∈oE)
 (I:FnInfo (G5 w mg mb h) a fd b names vars) (hbind:∀vs:List PN,vs.length=names.length->Q9 fd ⟨vs,[]⟩=pure (names.zip vs))
 (hchk:cn Φ S fd.scope (vars.map some) b=true) (hk:kS Φ S+1<=F.k)
 (hpre:∀ds,F.pre ds->ds.length=names.length/\aM Φ S (aS vars ds)/\(av Φ S (aS vars ds)).1=.ret (F.val ds)):gq (G5 w mg mb h) F :=
 Hc (aF H) hF S hP F (H.gl _ hm) I hbind hchk hk hpre
theorem Ox:aK (G5 w mg mb h) bw:=jy H uf bw 203 Cg (bp 18).2.1 (nh.take 1) nh b0 ⟨yi _ _ (aF H) b0,⟨⟨x6 _ _ (aF H) b0,trivial⟩,trivial,trivial⟩,fH _ (aF H) b0,trivial⟩ (by decide +kernel) (fi H (by kernel_rfl) (by kernel_rfl) (by kernel_rfl) (by kernel_rfl)) (hU fun a=>by kernel_rfl) (by kernel_rfl) (by decide +kernel) Hz
theorem gC:∀F∈[bw],aK (G5 w mg mb h) F:=fun F hF=>by rw[ai.mp hF];exact Ox H
theorem lK:∀F∈[eU],aK (G5 w mg mb h) F:=fun F hF=>by rw[ai.mp hF];exact Ow H
theorem Oy:gq (G5 w mg mb h) kY:=v9 H ug kY 210 Ch (bp 19).2.1 (nj.take 2) nj (gC H) ⟨cq _ _ (aF H) (gC H),cq _ _ (aF H) (gC H),Hx _ _ (aF H) (gC H),Hw _ _ _ _ (aF H) (gC H),Hy _ (aF H),trivial⟩ (by decide +kernel) (fi H (by kernel_rfl) (by kernel_rfl) (by kernel_rfl) (by kernel_rfl)) (rF fun a b=>by kernel_rfl) (by kernel_rfl) (by decide +kernel) HA
theorem Oz:aK (G5 w mg mb h) ll:=jy H nB ll 217 Cn (bp 21).2.1 (nA.take 1) nA b0 ⟨fH _ (aF H) b0,trivial⟩ (by decide +kernel) (fi H (by kernel_rfl) (by kernel_rfl) (by kernel_rfl) (by kernel_rfl)) (hU fun a=>by kernel_rfl) (by kernel_rfl) (by decide +kernel) Jr
theorem OA:aK (G5 w mg mb h) lq:=jy H nM lq 222 Co (bp 22).2.1 (nK.take 1) nK b0 ⟨cq _ _ (aF H) b0,⟨⟨cq _ _ (aF H) b0,⟨cq _ _ (aF H) b0,trivial⟩⟩,⟨fH _ (aF H) b0,trivial⟩⟩⟩ (by decide +kernel) (fi H (by kernel_rfl) (by kernel_rfl) (by kernel_rfl) (by kernel_rfl)) (hU fun a=>by kernel_rfl) (by kernel_rfl) (by decide +kernel) JU
theorem OB:aK (G5 w mg mb h) lu:=jy H nQ lu 227 Cp (bp 23).2.1 (nP.take 1) nP (gC H) ⟨cq _ _ (aF H) (gC H),⟨fH _ (aF H) (gC H),trivial⟩⟩ (by decide +kernel) (fi H (by kernel_rfl) (by kernel_rfl) (by kernel_rfl) (by kernel_rfl)) (hU fun a=>by kernel_rfl) (by kernel_rfl) (by decide +kernel) Kc
theorem OC:aK (G5 w mg mb h) ln:=jy H nG ln 232 Cq (bp 24).2.1 (nE.take 1) nE (lK H) ⟨Fr _ _ (aF H) (lK H),⟨⟨cq _ _ (aF H) (lK H),⟨cq _ _ (aF H) (lK H),⟨cq _ _ (aF H) (lK H),trivial⟩⟩⟩,⟨fH _ (aF H) (lK H),trivial⟩⟩⟩ (by decide +kernel) (fi H (by kernel_rfl) (by kernel_rfl) (by kernel_rfl) (by kernel_rfl)) (hU fun a=>by kernel_rfl) (by kernel_rfl) (by decide +kernel) Jt
theorem OD:aK (G5 w mg mb h) lm:=jy H nJ lm 237 Cr (bp 25).2.1 (nH.take 1) nH b0 ⟨fH _ (aF H) b0,trivial⟩ (by decide +kernel) (fi H (by kernel_rfl) (by kernel_rfl) (by kernel_rfl) (by kernel_rfl)) (hU fun a=>by kernel_rfl) (by kernel_rfl) (by decide +kernel) Js
theorem OE:gq (G5 w mg mb h) lB:=v9 H nY lB 244 Cs (bp 26).2.1 (nX.take 2) nX b0 ⟨Hf _ (aF H) (S5 H),⟨⟨sW _ _ (aF H) b0,⟨⟨zf _ _ (aF H) b0 (S5 H),trivial⟩,⟨zf _ _ (aF H) b0 (S5 H),trivial⟩,trivial⟩⟩,⟨Hj _ _ (aF H) (S5 H),⟨fH _ (aF H) b0,trivial⟩⟩⟩⟩ (by decide +kernel) (fi H (by kernel_rfl) (by kernel_rfl) (by kernel_rfl) (by kernel_rfl)) (rF fun a b=>by kernel_rfl) (by kernel_rfl) (by decide +kernel) Lh
theorem OF:aK (G5 w mg mb h) lw:=jy H nT lw 249 Ct (bp 27).2.1 (nS.take 3) nS (gC H) ⟨cq _ _ (aF H) (gC H),⟨fH _ (aF H) (gC H),trivial⟩⟩ (by decide +kernel) (fi H (by kernel_rfl) (by kernel_rfl) (by kernel_rfl) (by kernel_rfl)) (v8 fun a b c=>by kernel_rfl) (by kernel_rfl) (by decide +kernel) KP
theorem OG:aK (G5 w mg mb h) ly:=jy H nV ly 254 Cu (bp 28).2.1 (nU.take 3) nU b0 ⟨cq _ _ (aF H) b0,⟨cq _ _ (aF H) b0,⟨cq _ _ (aF H) b0,⟨fH _ (aF H) b0,trivial⟩⟩⟩⟩ (by decide +kernel) (fi H (by kernel_rfl) (by kernel_rfl) (by kernel_rfl) (by kernel_rfl)) (v8 fun a b c=>by kernel_rfl) (by kernel_rfl) (by decide +kernel) KU
end
noncomputable def CA:FEntry:=⟨sS "law",20,fun ds=>∃xs:List Int,xs.length<=63/\ds=[.list (xs.map .int)],fun U=>.bool true⟩
section
variable{w:Qq}{mg mb:Str->Option PN}{h:Qk}(H:HF w mg mb h)
include H
theorem cG:∀F∈af,aK (G5 w mg mb h) F:=fun F hF=>by
 rcases ae.mp hF with rfl | hF
 ·exact Oz H
 rcases ae.mp hF with rfl | hF
 ·exact OA H
 rcases ae.mp hF with rfl | hF
 ·exact OB H
 rcases ae.mp hF with rfl | hF
 ·exact OC H
 rcases ae.mp hF with rfl | hF
 ·exact OD H
 rcases ae.mp hF with rfl | hF
 ·exact OF H
 rw[ai.mp hF];exact OG H
theorem wa:∀F∈j8,gq (G5 w mg mb h) F:=fun F hF=>by
 rcases ae.mp hF with rfl | hF
 ·exact Oy H
 rw[ai.mp hF];exact OE H
theorem OH:gq (G5 w mg mb h) CA:=v9 H MB CA 259 Cv (bp 29).2.1 (n0.take 1) n0 (cG H)
 ⟨cq _ _ (aF H) (cG H),⟨cq _ _ (aF H) (cG H),⟨cq _ _ (aF H) (cG H),⟨cq _ _ (aF H) (cG H),⟨sW _ _ (aF H) (cG H),⟨sW _ _ (aF H) (cG H),⟨cq _ _ (aF H) (cG H),⟨⟨za _ _ _ (aF H) (cG H) (wa H) ⟨fH _ (aF H) (cG H),trivial⟩ trivial,trivial⟩,⟨yi _ _ (aF H) (cG H),⟨⟨cq _ _ (aF H) (cG H),⟨⟨⟨x6 _ _ (aF H) (cG H),trivial⟩,trivial,trivial⟩,trivial,trivial⟩⟩,⟨cq _ _ (aF H) (cG H),⟨⟨⟨⟨fH _ (aF H) (cG H),trivial⟩,trivial,trivial⟩,trivial⟩,⟨cq _ _ (aF H) (cG H),⟨cq _ _ (aF H) (cG H),⟨za _ _ _ (aF H) (cG H) (wa H) ⟨fH _ (aF H) (cG H),trivial⟩ trivial,⟨cq _ _ (aF H) (cG H),⟨⟨cq _ _ (aF H) (cG H),⟨cq _ _ (aF H) (cG H),trivial⟩⟩,⟨Hb _ (aF H) (cG H) (wa H),trivial⟩⟩⟩⟩⟩⟩⟩⟩⟩⟩⟩⟩⟩⟩⟩⟩⟩⟩
 (by decide +kernel) (fi H (by kernel_rfl) (by kernel_rfl) (by kernel_rfl) (by kernel_rfl)) (hU fun a=>by kernel_rfl) (by kernel_rfl) (by decide +kernel)
 fun ds ζ=>ζ.elim fun xs ζ=>ζ.elim fun hl e=>by subst e;exact⟨rfl,NR xs hl⟩
end
noncomputable def aO(x:String)(n:Nat):PN:=.str (sS x) n
noncomputable def aY(P:Qu)(x:String)(n:Nat)(v:PN):RO:=dE P (sS x) n v
noncomputable def lL(l:List PN):Obj:=.mk .none none (.fields l.toArray) #[]
noncomputable def dk(c:PN)(l:List PN):Obj:=.mk c none (.fields l.toArray) #[]
noncomputable def oF(l:List RO)(n:Nat):Obj:=.mk (.type "dict") none (.dict l.toArray n) #[]
noncomputable def jz(l:List PN):Obj:=.mk (.type "tuple") none (.seq l.toArray 0) #[]
noncomputable def tE:Obj:=jz []
noncomputable def OI(l:List Int):List PN:=l.map fun i=>.int i 0
noncomputable def CB:Nat->List Int->List PN
 | _,[]=>[]
 | n,i::l=>.int i n::CB (n+1) l
noncomputable def CC:Nat->List String->List PN
 | _,[]=>[]
 | n,x::l=>aO x n::CC (n+1) l
noncomputable def cO(a t e line argc fl:Nat)(l:List PN)(fd:Qm):Obj:=dk (.type "code") ([.str fd.name t,.str fd.qualname (t+1),aO "/claim/cut.py" (t+2),.int line 0,.int argc 0,.int 0 0,.int 0 0,.int fl 0,.ref a,.bool true,.int 276 0,.ref (a+1),.none]++l++[.int (t+3+e) 0,.int line 0,aO "/claim/cut.py" (t+4+e)])
noncomputable def fN(fd:Qm):Obj:=.mk .none none (.func { fd with globals:=0,defaults:=.none,pyModule:=.none,code:=.none }) #[]
noncomputable def fZ(a t line argc fl:Nat)(ns:List String)(fd:Qm):List Obj:=[tE,lL [],jz (CC (t+3) ns),tE,fN fd,cO a t ns.length line argc fl [.ref (a+2),.ref (a+3),.ref (a+4)] fd,fo fd]
noncomputable def OJ(a t line argc fl:Nat)(fd:Qm):List Obj:=[tE,lL [],fN fd,cO a t 0 line argc fl [.none,.none,.ref (a+2)] fd,fo fd]
noncomputable def b3(P:Qu):List RO:=[(aY P "__name__" 165 (aO "re" 520)),(aY P "__doc__" 166 .none),(aY P "__package__" 167 .none),(aY P "__loader__" 168 (.builtin "__main__.__loader__#opaque")),(aY P "__spec__" 169 .none),(aY P "__annotations__" 170 (.ref 6)),(aY P "__builtins__" 171 (.ref 4)),(aY P "__file__" 173 (aO "/claim/cut.py" 172)),(aY P "__cached__" 174 .none),(aY P "_sre" 275 (.ref 12)),(aY P "_wall" 288 (.ref 38)),(aY P "_NODE_OUT" 293 (.int (-1) 292)),(aY P "_NODE_DONE" 296 (.int (-2) 295)),(aY P "_NodeInfo" 333 (.ref 57)),(aY P "CycleError" 351 (.ref 72)),(aY P "TopologicalSorter" 470 (.ref 154)),(aY P "_twin_re_1" 510 (.ref 163)),(aY P "translate" 519 (.ref 170))]
noncomputable def LB(P:Qu):List Obj:=[tE,lL [(.int 2 0),(.int 0 0),(.ref 37),(.int 8 0),(.int 0 0),(.ref 44),(.int 15 0),(.int 0 0),(.ref 68),(.int 17 0),(.int 0 0),(.ref 81),(.int 125 0),(.int 0 0),(.ref 169)],dk (.type "code") [(aO "<module>" 277),(aO "<module>" 278),(aO "/claim/cut.py" 279),(.int 1 0),(.int 0 0),(.int 0 0),(.int 0 0),(.int 0 0),(.ref 28),(.bool false),(.int 276 0),(.ref 29),.none,.none,.none,.none,(.int 280 0),(.int 1 0),(aO "/claim/cut.py" 281)],(.mk (.type "frame") none .plain #[(some (.ref 30)),(some (.ref 3)),(some (.ref 3)),none,(some (aO "__main__" 164)),none,(some (.ref 0))])]++fZ 32 282 2 1 3 ["k"] (bX "_wall" "_wall" (bp 1) "__main__" 164 37 .none)++[tE,dk (.type "builtin_function_or_method") [(.builtin "type.__prepare__"),(.type "type")],oF [(aY P "__module__" 304 (aO "cpy313.graphlib" 289)),(aY P "__qualname__" 306 (aO "_NodeInfo" 305)),(aY P "__firstlineno__" 308 (.int 8 307)),(aY P "__slots__" 312 (.ref 46)),(aY P "__init__" 320 (.ref 53)),(aY P "__static_attributes__" 324 (.ref 54))] 6,tE,lL [(.int 11 0),(.int 4 0),(.ref 52)],dk (.type "code") [(aO "_NodeInfo" 299),(aO "_NodeInfo" 300),(aO "/claim/cut.py" 301),(.int 8 0),(.int 0 0),(.int 0 0),(.int 0 0),(.int 0 0),(.ref 42),(.bool false),(.int 276 0),(.ref 43),.none,.none,.none,.none,(.int 302 0),(.int 8 0),(aO "/claim/cut.py" 303)],(.mk (.type "frame") none .plain #[(some (.ref 44)),(some (.ref 3)),(some (.ref 41)),none,(some (aO "cpy313.graphlib" 289)),none,(some (.ref 0))]),jz [(aO "node" 309),(aO "npredecessors" 310),(aO "successors" 311)]]++fZ 47 313 11 2 3 ["self", "node"] oS++[jz [(aO "node" 321),(aO "npredecessors" 322),(aO "successors" 323)],(.mk (.type "list") none (.seq #[(aO "node" 309),(aO "npredecessors" 310),(aO "successors" 311)] 1) #[]),B7 P,B6 P,Cd P,Ce P,Cf P,dk (.type "super") [(.ref 57),(.ref 57),(.ref 57)],dk (.type "builtin_function_or_method") [(.builtin "object.__init_subclass__"),(.ref 57)],jz [(.type "ValueError")],dk (.type "builtin_function_or_method") [(.builtin "type.__prepare__"),(.type "type")],oF [(aY P "__module__" 341 (aO "cpy313.graphlib" 289)),(aY P "__qualname__" 343 (aO "CycleError" 342)),(aY P "__firstlineno__" 345 (.int 15 344)),(aY P "__static_attributes__" 346 (.ref 70))] 4,tE,lL [],dk (.type "code") [(aO "CycleError" 336),(aO "CycleError" 337),(aO "/claim/cut.py" 338),(.int 15 0),(.int 0 0),(.int 0 0),(.int 0 0),(.int 0 0),(.ref 66),(.bool false),(.int 276 0),(.ref 67),.none,.none,.none,.none,(.int 339 0),(.int 15 0),(aO "/claim/cut.py" 340)],(.mk (.type "frame") none .plain #[(some (.ref 68)),(some (.ref 3)),(some (.ref 65)),none,(some (aO "cpy313.graphlib" 289)),none,(some (.ref 0))]),tE,Cb P,Ca P,dk (.type "getset_descriptor") [(aO "__weakref__" 347),(.ref 72),(.builtin "ExceptionGroup.__weakref__"),.none],dk (.type "super") [(.ref 72),(.ref 72),(.ref 72)],dk (.type "builtin_function_or_method") [(.builtin "object.__init_subclass__"),(.ref 72)],tE,dk (.type "builtin_function_or_method") [(.builtin "type.__prepare__"),(.type "type")],oF [(aY P "__module__" 359 (aO "cpy313.graphlib" 289)),(aY P "__qualname__" 361 (aO "TopologicalSorter" 360)),(aY P "__firstlineno__" 363 (.int 17 362)),(aY P "__init__" 373 (.ref 90)),(aY P "_get_nodeinfo" 382 (.ref 97)),(aY P "add" 394 (.ref 104)),(aY P "prepare" 400 (.ref 109)),(aY P "get_ready" 410 (.ref 116)),(aY P "is_active" 417 (.ref 123)),(aY P "__bool__" 424 (.ref 130)),(aY P "done" 438 (.ref 137)),(aY P "_find_cycle" 451 (.ref 144)),(aY P "static_order" 458 (.ref 151)),(aY P "__static_attributes__" 463 (.ref 152))] 14,tE,lL [(.int 19 0),(.int 4 0),(.ref 89),(.int 28 0),(.int 4 0),(.ref 96),(.int 33 0),(.int 4 0),(.ref 103),(.int 42 0),(.int 4 0),(.ref 108),(.int 50 0),(.int 4 0),(.ref 115),(.int 61 0),(.int 4 0),(.ref 122),(.int 66 0),(.int 4 0),(.ref 129),(.int 69 0),(.int 4 0),(.ref 136),(.int 92 0),(.int 4 0),(.ref 143),(.int 121 0),(.int 4 0),(.ref 150)],dk (.type "code") [(aO "TopologicalSorter" 354),(aO "TopologicalSorter" 355),(aO "/claim/cut.py" 356),(.int 17 0),(.int 0 0),(.int 0 0),(.int 0 0),(.int 0 0),(.ref 79),(.bool false),(.int 276 0),(.ref 80),.none,.none,.none,.none,(.int 357 0),(.int 17 0),(aO "/claim/cut.py" 358)],(.mk (.type "frame") none .plain #[(some (.ref 81)),(some (.ref 3)),(some (.ref 78)),none,(some (aO "cpy313.graphlib" 289)),none,(some (.ref 0))]),rB P]++fZ 84 364 19 2 3 ["self", "graph", "node", "predecessors"] fdT++fZ 91 374 28 2 3 ["self", "node", "result"] hV++fZ 98 383 33 2 7 ["self", "node", "predecessors", "nodeinfo", "pred", "pred_info"] iR++OJ 105 395 42 1 3 iS++fZ 110 401 50 1 3 ["self", "result", "n2i", "node"] (bX "get_ready" "TopologicalSorter.get_ready" (md 7 4) "cpy313.graphlib" 289 115 .none)++fZ 117 411 61 1 3 ["self"] (bX "is_active" "TopologicalSorter.is_active" (md 7 5) "cpy313.graphlib" 289 122 .none)++fZ 124 418 66 1 3 ["self"] (bX "__bool__" "TopologicalSorter.__bool__" (md 7 6) "cpy313.graphlib" 289 129 .none)++fZ 131 425 69 1 7 ["self", "nodes", "n2i", "node", "nodeinfo", "stat", "successor", "successor_info"] (bX "done" "TopologicalSorter.done" (md 7 7) "cpy313.graphlib" 289 136 .none)++fZ 138 439 92 1 3 ["self", "n2i", "stack", "itstack", "seen", "node2stacki", "node"] hW++fZ 145 452 121 1 3 ["self"] (bX "static_order" "TopologicalSorter.static_order" (md 7 9) "cpy313.graphlib" 289 150 .none)++[jz [(aO "_nfinished" 459),(aO "_node2info" 460),(aO "_npassedout" 461),(aO "_ready_nodes" 462)],B9 P,B8 P,dk (.type "getset_descriptor") [(aO "__dict__" 464),(.ref 154),(.builtin "function.__dict__"),(.builtin "function.__dict__#set")],dk (.type "getset_descriptor") [(aO "__weakref__" 466),(.ref 154),(.builtin "ExceptionGroup.__weakref__"),.none],dk (.type "super") [(.ref 154),(.ref 154),(.ref 154)],dk (.type "builtin_function_or_method") [(.builtin "object.__init_subclass__"),(.ref 154)],(.mk (.type "list") none (.seq (CB 476 [14,14,4,1,1,9,0,64,0,1342177280,0,0,0,0,0,17,0,13,11,9,0,64,0,1342177280,0,0,0,0,0,17,1,1]).toArray 0) #[]),oF [] 0,jz [.none,.none],jz (OI [14,14,4,1,1,9,0,64,0,1342177280,0,0,0,0,0,17,0,13,11,9,0,64,0,1342177280,0,0,0,0,0,17,1,1]),dk (.type "re.Pattern") [(aO "([&~|])" 474),(.int 32 509),(.int 1 0),.none,.none,(.ref 162),(.int 0 0)]]++fZ 164 511 125 1 3 ["pat", "STAR", "parts"] v3
noncomputable def LC(P:Qu):List Obj:=[dk (.type "bytes_iterator") [.none,(.int 24 0)],oD P,(.mk (.type "dict") none (.dict #[] 2) #[]),tE,dk (.type "StopIteration") [(.ref 174),.none,.none,.none,(.bool false),.none]]
noncomputable def L3(P:Qu)(l:List RO)(n:Nat)(k:List Obj):List Obj:=(L0 P).take 3++oF (b3 P++l) n::((L0 P).drop 4++(LB P++k))
noncomputable def CG(P:Qu)(os:OsState):RH:=⟨oy 9 (L3 P [] 18 []),171,lf,#[],{},522,os⟩
noncomputable def CH(P:Qu)(os:OsState):RH:=⟨oy 9 (L3 P [(aY P "_special_chars_map" 667 (.ref 172))] 19 (LC P)),176,lf,#[],{},668,os⟩
noncomputable def eB:Env:={ scope:=ck.main.scope,locals:=mainNs,globals:=mainNs,cells:=[],code:=.ref 30,frame:=some 31 }
noncomputable def cB:Code:=.body (behindTheImports ck) eB
noncomputable def qB:Pos:=⟨129,0,129,8⟩
noncomputable def qC:Pos:=⟨130,0,130,18⟩
noncomputable def bd : List PW := behindTheImports ck
noncomputable def oH (tb : String → Option QQ) (p : Qs) (w : Qq) (n₀ : Nat) (ann : Option PN) : Nat → RH → Thread → Option (RH × Thread)
  | 0, s, t => some (s, t)
  | n + 1, s, t => match through t with
    | true => none
    | false => match stepOk n₀ ann t with
      | false => none
      | true => match stepT (denote tb) p w s t with
        | some (s', t') => oH tb p w n₀ ann n s' t'
        | none => none
theorem OM {tb : String → Option QQ} {p : Qs} {w : Qq} {n₀ : Nat} {ann : Option PN} {n : Nat} {s : RH} {t : Thread} : oH tb p w n₀ ann (n + 1) s t = match through t with
    | true => none
    | false => match stepOk n₀ ann t with
      | false => none
      | true => match stepT (denote tb) p w s t with
        | some (s', t') => oH tb p w n₀ ann n s' t'
        | none => none := rfl
theorem ON {tb : String → Option QQ} {p : Qs} {w : Qq} {n₀ : Nat} {ann : Option PN} : ∀ {n : Nat} {s s' : RH} {t t' : Thread}, oH tb p w n₀ ann n s t = some (s', t') → topGo tb p w n₀ ann n s.abs t = some (s'.abs, t') := fun {n} => by
  induction n with
  | zero => intro s s' t t' h; cases h; rfl
  | succ n ih =>
    intro s s' t t' h
    rw [OM] at h
    unfold topGo
    cases ht : through t with
    | true => rw [ht] at h; cases h
    | false =>
      rw [ht] at h
      cases hk : stepOk n₀ ann t with
      | false => rw [hk] at h; cases h
      | true =>
        rw [hk] at h
        cases hs : stepT (denote tb) p w s t with
        | none => rw [hs] at h; cases h
        | some r => obtain ⟨s₂, t₂⟩ := r; rw [hs] at h; dsimp only; rw [stepT_spec hs]; exact ih h
noncomputable abbrev lM : Option PN := some (.ref 6)
noncomputable def OP (w : Qq) (S : RH) : Option (Thread × (Flow × Code × Pos) × (Flow × RH × Code × Pos)) :=
  (oH R0 ck w 28 lM 12 S (topStub ck)).bind fun x => (segRunT R0 ck w 28 lM 1 1 x.1 (blockOf bd eB cB Ri tf)).bind fun y =>
    (segRunT R0 ck w 28 lM 1 1400 y.2.1 (piecesOf (bd.take 11) eB cB y.2.2.2 tf)).map fun z => (x.2, (y.1, y.2.2.1, y.2.2.2), z)
theorem OQ (w : Qq) : (fun os => OP w (fv w.params os)) = fun os => some (⟨denote R0 cB, cB, Ri, tf⟩, (.next, cB, Ri), (.next, CG w.params os, cB, qB)) := by kernel_rfl
noncomputable def ga(w:Qq):Prop:=(fun os=>segRunT R0 ck w 28 lM 1 1400 (CG w.params os) (piecesOf ((bd.drop 11).take 1) eB cB qB tf))=fun os=>some (.next,CH w.params os,cB,qC)
theorem OR(w:Qq):ga ((w.withFollow "comprehension-iter-twice" false).withFollow "special-get-raises" false):=by unfold ga;kernel_rfl
theorem OS(w:Qq):ga ((w.withFollow "comprehension-iter-twice" false).withFollow "special-get-raises" true):=by unfold ga;kernel_rfl
theorem OT(w:Qq):ga ((w.withFollow "comprehension-iter-twice" true).withFollow "special-get-raises" false):=by unfold ga;kernel_rfl
theorem OU(w:Qq):ga ((w.withFollow "comprehension-iter-twice" true).withFollow "special-get-raises" true):=by unfold ga;kernel_rfl
theorem OV(w:Qq):ga w:=byRow2 "special-get-raises" (P:=ga) (fun w=>byRow2 "comprehension-iter-twice" (P:=fun w=>ga (w.withFollow "special-get-raises" false)) OR OT w) (fun w=>byRow2 "comprehension-iter-twice" (P:=fun w=>ga (w.withFollow "special-get-raises" true)) OS OU w) w
noncomputable def strIs(x:Str):Option PN->Bool
 | some (.str y _)=>y==x
 | _=>false
noncomputable def wb(h:Qk)(p:PP × Str):Bool:=match h.get? p.1 with
 | some o=>(match o.data with | .fields vs=>strIs p.2 vs[1]? | _=>false)
 | none=>false
noncomputable def CM(a:PP):Option PN->Bool
 | some (.ref b)=>b==a
 | _=>false
noncomputable def rG(s:PL):Bool:=(cb.all fun p=>(s.heap.nsMap Rc p.1).isNone)&&((oE.all fun p=>CM p.2 (s.heap.nsMap Rc p.1))&&((rC.all (wb s.heap))&&(s.heap.get? Rn).isSome))
structure XP5(mg:Str->Option PN)(h:Qk):Prop where
 bn:∀p∈cb,mg p.1=none
 gl:∀p∈oE,mg p.1=some (.ref p.2)
 cd:∀p∈rC,h.CodeRec (.ref p.1) p.2
 sys:∃o,h.get? Rn=some o
set_option tactic.hygienic true in
theorem OW{h:Qk}{p:PP × Str}(q:wb h p=true):h.CodeRec (.ref p.1) p.2:=by
 unfold wb at q
 cases e:h.get? p.1 with
 | none=>rw[e]at q;cases q
 | some o =>
  rw[e]at q
  obtain⟨c,d,dt,sl⟩:=o
  cases dt<;>first | exact absurd q Pl | skip
  rename_i vs
  replace q:strIs p.2 vs[1]? = true:=q
  cases e2:vs[1]? with
  | none=>rw[e2]at q;cases q
  | some v =>
   rw[e2]at q
   cases v<;>first | exact absurd q Pl | exact⟨_,_,vs,_,rfl,e,rfl,e2.trans (by rw[P9 q])⟩
theorem OX{a:PP}{v:Option PN}(q:CM a v=true):v=some (.ref a):=by
 cases v with
 | none=>cases q
 | some v=>cases v<;>first | exact absurd q Pl | rw[P9 q]
theorem OY(s:PL)(q:rG s=true):XP5 (s.heap.nsMap Rc) s.heap:=by
 unfold rG at q
 refine aP q fun h1 q=>aP q fun h2 q=>aP q fun h3 h4=>⟨fun p hp=>Option.isNone_iff_eq_none.mp (bC.mp h1 p hp),fun p hp=>OX (bC.mp h2 p hp),fun p hp=>OW (bC.mp h3 p hp),rJ.mp h4⟩
theorem OZ(mg:Str->Option PN)(h h':Qk)(x:XP5 mg h)(k:∀b o,h.get? b=some o->h'.get? b=some o):XP5 mg h' :=
 ⟨x.bn,x.gl,fun p hp=>(x.cd p hp).keeps k,let⟨o,e⟩:=x.sys;⟨o,k _ _ e⟩⟩
noncomputable def CN:List PP:=[203,210,170,182,189,196,53,90,97,104,109,144,217,222,227,232,237,244,249,254,259,57,56,154,153,72,71,58,59,60,172,83]
noncomputable def wc(s:PL):List (Option Obj):=CN.map s.heap.get?
noncomputable def rH(w:Qq):List (Option Obj):=(KL w.params).map fun p=>some p.2
noncomputable def CO(w:Qq)(h:Qk):Prop:=(KL w.params).In h
theorem O0(w:Qq)(s:PL)(e:wc s=rH w):CO w s.heap:=Frag.in_of (as:=CN) (by kernel_rfl) e
noncomputable def CP(h0:Qk)(s:PL):=((staticsOk (importedModules ck.main.body) h0 s.heap&&namesBound ck s.heap&&gensDone s&&laidKept h0 s.heap),openSeen oB oC (importedModules ck.main.body) rG true s,wc s)
theorem O1(w:Qq):(fun os=>(oA R0 ck w 28 lM 2000 (CH w.params os) (restOf (bd.drop 12) eB cB qC tf)).map fun s=>CP (fv w.params os).abs.heap s.abs)=fun U=>some (true,openGood oB oC,rH w):=by kernel_rfl
theorem O3(w:Qq)(os:OsState):∃r:PL,topRun R0 ck w 28 lM 4813 (fv w.params os).abs (topStub ck)=some r/\CP (fv w.params os).abs.heap r=(true,openGood oB oC,rH w):=by
 refine x12 (Pt.mp (congrFun (O1 w) os)) fun s1 e1 k1=>?_
 refine⟨s1.abs,?_,k1⟩
 refine x12 (Option.bind_eq_some_iff.mp (congrFun (OQ w) os)) fun z0 e2 h2=>?_;obtain⟨sa,ta⟩:=z0
 refine x12 (Option.bind_eq_some_iff.mp h2) fun z0 e3 h3=>?_;obtain⟨f3,sb,c3,q3⟩:=z0
 refine x12 (Pt.mp h3) fun z e4 h4=>?_
 cases h4
 have k:=piece_app (segRun_of (congrFun (OV w) os)) (Oi e1)
 rw[show(bd.drop 11).take 1++bd.drop 12=bd.drop 11 from(congrArg _ (List.drop_drop ..).symm).trans (Py 1 _)]at k
 have k4:=piece_app (q:=Ri) (segRun_of e4) k
 rw[show bd.take 11++bd.drop 11=bd from Py 11 _]at k4
 exact go_top (n:=12) (ON e2) (piece_block (n:=1) (segRun_of e3) k4)
theorem O4:LeftO ck oB oC rG wc rH 6000 true:=fun w=>by
 refine x12 (Pt.mp (Of w)) fun z0 e e'=>?_;obtain⟨h,gs,d,k,os⟩:=z0
 cases e'
 refine x12 (O3 w os) fun r h1 h2=>?_
 refine al (gB h2) fun l1 l2=>?_
 refine al (gB l2) fun l2 l3=>?_
 have r1:=topRun_mono 1187 _ _ _ _ h1
 have t:topFrom R0 ck w 6000 (fv w.params os).abs=some r:=by
  unfold topFrom
  rw[show((fv w.params os).abs.heap.isNs Rc&&(fv w.params os).abs.gens.size==0)=true by kernel_rfl,show(fv w.params os).abs.heap.objs.size=28 by kernel_rfl,show(fv w.params os).abs.heap.nsMap Rc "__annotations__" = some (.ref 6)by kernel_rfl]
  dsimp only
  rw[r1]
  show(match staticsOk (importedModules ck.main.body) (fv w.params os).abs.heap r.heap&&namesBound ck r.heap&&gensDone r&&laidKept (fv w.params os).abs.heap r.heap with | true=>some r | false=>none)=_
  rw[l1]
 unfold openEnds
 rw[e.trans (show _=some (fv w.params os).abs from rfl),Option.bind_some,t]
 exact congrArg some (Prod.ext l2 l3)
noncomputable def d5:DefRec:=⟨sS "law",(bp 29).1,(bp 29).2.1,(bp 29).2.2,⟨286,0,316,77⟩⟩
theorem O5{R:WRecords}:∀ {xs:List WData},WShape.hasItems R xs .int=true->∃l:List Int,xs=l.map .int:=fun{xs}=>by
 induction xs with
 | nil=>exact fun _=>⟨[],rfl⟩
 | cons x xs ih =>
  intro h
  unfold WShape.hasItems at h
  refine aP h fun h1 h2=>?_
  refine x11 (ih h2) fun l e1=>?_;subst e1
  cases x<;>first | exact absurd h1 Pl | exact⟨_::l,rfl⟩
set_option tactic.hygienic true in
theorem O6{args:List WData}(h:PySem.Challenge.rw_kt0069_07.row.toRowW.claim.pre args=true):∃l:List Int,args=[.list (l.map .int)]/\l.length<=63:=by
 refine aP (show(WShape.hasAll [] args [.list .int]&&_)=true from h) fun h1 h2=>?_
 match args,h1 with
 | [],h1=>exact absurd h1 Pl
 | _::_::_,h1=>exact absurd (sV.mp h1).2 Pl
 | [x],h1 =>
  replace h1:=(sV.mp h1).1
  cases x<;>first | exact absurd h1 Pl | skip
  rename_i xs
  refine x11 (O5 ((Bool.or_false _).symm.trans (show(WShape.hasItems [] xs .int||false)=true from h1))) fun l e1=>?_;subst e1
  refine⟨l,rfl,Nat.le_of_not_lt fun q=>?_⟩
  rw[<- ag (f:=WData.int)]at q
  generalize l.map WData.int=xs at h2 q
  have e:less? (.int 63) (.int xs.length)=some true:=by
   show some (decide ((63:Int)<xs.length))=some true
   rw[decide_eq_true (by lia)]
  have:WTm.value [] PySem.Challenge.rw_kt0069_07.row.pre { args:=[.list xs] }=some (.bool false):=by
   have v1:WTm.value [] (.lt (.lit (.int 63)) (.len (.arg 0))) { args:=[.list xs] }=some (.bool true):=by
    show(less? (.int 63) (.int xs.length)).map WData.bool=_
    rw[e];rfl
   show WTm.value [] (.and (.not (.lt (.lit (.int 63)) (.len (.arg 0)))) (.lit (.bool true))) { args:=[.list xs] }=_
   have v2:WTm.value [] (.not (.lt (.lit (.int 63)) (.len (.arg 0)))) { args:=[.list xs] }=some (.bool false):=by rw[WTm.value,v1];rfl
   rw[WTm.value,v2]
  revert h2
  show(match WTm.value [] PySem.Challenge.rw_kt0069_07.row.pre { args:=[.list xs] }with | some (.bool true)=>true | _=>false)=true->False
  rw[this]
  exact fun h=>nomatch h
theorem O7{P:Qu}{h:Qk}:∀ {l:List Int} {vs:List PN},WellAll P h vs (l.map .int)->RepL (fun U=>False) h vs (l.map .int):=fun{l}=>by
 induction l with
 | nil=>intro vs r;cases r;exact .nil
 | cons i l ih =>
  intro vs r
  cases r with
  | cons a b=>cases a;exact .cons (.int _ _) (ih b)
theorem O8(p:Str × PN)(hp:p∈cb):p.1≠ofString "__name__":=fun q=>by
 have:(cb.all fun p=>!(p.1==ofString "__name__"))=true:=by decide +kernel
 have:=bC.mp this p hp
 rw[q,beq_self_eq_true]at this
 exact absurd this Pl
theorem CQ(b:PP):an callerA b->False:=fun⟨l,e,hb⟩=>(nomatch (QH e▸hb:b∈([]:List Env).filterMap (·.frame)))
theorem O9{P:Qu}{h:Qk}{vs:List PN}{xs:List WData}{T:Prop}(r:WellAll P h vs [.list xs])(k:∀a us,vs=[.ref a]->h.get? a=some { cls:=.type "list",data:=.seq us.toArray }->WellAll P h us xs->T):T:=by
 cases r with
 | cons r1 r2 =>
  cases r2
  cases r1 with
  | list h1 h4=>exact k _ _ rfl h1 h4
theorem Pa{w:Qq}{mg mb:Str->Option PN}{s:PL}(H:HF w mg mb s.heap){vs:List PN}{l:List Int}(hw:WellAll w.params s.heap vs [.list (l.map .int)])(hl:l.length<=63){a:PP}(ha:mg (sS "law")=some (.ref a)) {Q:PN->PL->Prop} {E:PN->PL->Prop}
 (hQ:∀v s',KS (an callerA) No s s'->Rep (fun _=>False) s'.heap v (.bool true)->Q v s'):PM (PO ck w) callerA (call (.ref a) vs) Q E s :=
 (OH H).elim fun a' z=>z.elim fun o' z=>z.elim fun fd z=>z.elim fun e1 z=>z.elim fun _ z=>z.elim fun _ run=>by
  rw[Value.ref.inj (QH (ha.symm.trans e1))]
  refine O9 hw fun b us e2 h1 h4=>?_
  rw[e2]
  exact PR (run callerA s (fun _=>False) _ [.list (l.map .int)] E ⟨by decide +kernel,by decide +kernel⟩ ⟨.inl rfl,fun b hb=>(nomatch hb),fun b hb=>hb.elim⟩ ⟨fun b o e=>e,fun b hb=>hb.elim⟩
   ⟨⟨[],rfl,fun e he=>nomatch he⟩,CQ,fun b i q=>(nomatch q),rfl⟩ (.cons (.list (fun q=>q) h1 (O7 h4)) .nil) ⟨l,hl,rfl⟩) (fun v s' h=>hQ v s' h.1 h.2) fun _ _ h=>h
theorem Pg{w:Qq}{cl:Str->Option PP}{mn:ExcName->Option PN}{s s':PL}{v:PN}{l:List Int}(hg:s.gens=#[])(h:KS (an callerA) No s s')(r:Rep (fun _=>False) s'.heap v (.bool true)) :
 GoodWG PySem.Challenge.rw_kt0069_07.row.toRowW.claim cl mn [.list (l.map .int)] s (.ok (.ret v)) s':=by
 refine⟨.inl ⟨v,.bool true,[],rfl,fun _=>rfl,?_,by kernel_rfl,fun _=>⟨wi,fun a ha=>(nomatch ha)⟩⟩,.of_keep fun b o e=>h.get b o (fun z=>z) (CQ b) e,?_,?_⟩
 ·cases r;exact .bool true
 ·cases h;subst_vars;rfl
 ·cases h;subst_vars;exact .of_eq hg
theorem Ph:WalkO oB oC XP5 CO PySem.Challenge.rw_kt0069_07.row.toRowW d5 [] fun f vs=>PySem.call f vs :=
 fun w s₀ s₁ mg mb G Y a o pm cd doc dV kV ho hd hcd hD hmg hg args vals as hpre hlay hrd hwl hlo=>x12 (O6 hpre) fun l e hl =>
  Pa ⟨G.T.g,G.T.b,G.T.nolimit,Y,fun p hp=>⟨G.X.bn p hp,(G.T.builtins p.1 (O8 p hp)).trans (CJ.mp Ol p hp)⟩,G.X.gl,G.X.cd,G.X.sys⟩ (e▸hwl) hl hmg fun v s' h r=>e▸Pg (w:=w) hg h r
theorem Pi:PySem.Challenge.rw_kt0069_07.wellSaid=true:=by kernel_rfl
theorem main5:PySem.Challenge.rw_kt0069_07.Holds :=
 holds_law Pi fun said=>holds_open O4 O0 (fun U U U y k=>y.keeps k) OY OZ (d:=d5) (kwd:=[]) (by kernel_rfl) (by kernel_rfl) (by kernel_rfl) (fun s U=>recFacts_of (by kernel_rfl)) (by kernel_rfl) said (by kernel_rfl) ⟨rfl,rfl,rfl,rfl,rfl,by kernel_rfl⟩ ⟨[.list []],by kernel_rfl,by kernel_rfl⟩ Ph
end
end Mine.Internal
theorem PySem.Challenge.cw_kt0069_07_holds : PySem.Challenge.rw_kt0069_07.Holds :=
  Mine.Internal.main5
