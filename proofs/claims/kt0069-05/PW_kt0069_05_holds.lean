import PyProof.Rows.All
import Wide.All
import OpenK.AllK
import PyProof.LetGo
import PyProof.DictValues
import PyProof.DictWalks
import PyProof.IsiBase
import KE.KTryMore
import KE.KBoundM
import KE.KStar
import KE.KSuperObj
import PyProof.ListCopy
import PyProof.FactsAll.str_8
import PyProof.IsInstance
import PyProof.AttrMissHeap
import PyProof.AutoListH
import Lean
import PySem.Challenge.RW_kt0069_05
set_option genSizeOf false
set_option genSizeOfSpec false
set_option genInjectivity false
set_option genCtorIdx false
set_option tactic.hygienic false
set_option bootstrap.genMatcherCode false
set_option linter.all false
set_option Elab.async false
set_option maxRecDepth 1000000
set_option maxHeartbeats 0
namespace Mine.Internal
open Nat renaming le_trans → ae, le_max_right → aj, le_max_left → aF, lt_irrefl → aI, le_refl → aL, zero_le → aW, le_of_ble_eq_true → bl, not_lt → cy, le_of_eq → cI, ne_of_lt → cK, lt_of_le_of_lt → cR, add_le_add_right → dm, le_succ → dH, add_le_add_left → dQ, lt_succ_of_lt → gG, le_of_succ_le → gI, le_add_right → ip, lt_succ_self → i3, land → je, zero_add → jj, add_assoc → lj, le_antisymm → m8, add_le_add → nM, mul_le_mul_left → nN, succ_le_succ → nX, le_add_left → qW, testBit → tg
open List renaming mem_cons → aa, length_map → af, mem_cons_self → ag, mem_singleton → ai, range → ao, getD_eq_getElem?_getD → aq, mem_cons_of_mem → ar, mem_append → au, mem_map → aA, mem_of_getElem? → aE, mem_range → aG, map_cons → aH, all_eq_true → aU, replicate → a7, length_append → bb, getElem?_eq_getElem → bk, not_mem_nil → bz, mem_append_left → bB, getElem?_map → bX, nodup_cons → b8, mem_flatMap → cb, length_filter_le → cc, nodup_append → cD, any_eq_true → cM, flatMap_append → cV, mem_filter → cW, getElem?_eq_some_iff → cY, length_cons → cZ, append_nil → c5, mem_append_right → dG, map_map → dS, mem_reverse → dY, flatMap_cons → eM, map_congr_left → eQ, getElem?_append_right → fs, filter_cons → ft, length_range → jh, take_length → jl, size_toArray → jX, getElem?_replicate → lh, mem_iff_getElem? → mT, getElem?_eq_none_iff → nc, map_inj_left → ng, mem_of_mem_take → nK, filterMap_cons → nQ, mem_filterMap → pC, map_append → pI, length_set → pJ, getElem?_eq_none → rN, length_singleton → td, all_map → tG, sum_cons → tX, forIn_cons → ug, find?_cons → uh
open Int renaming toNat_natCast → gH, natCast_nonneg → ll
open Bool renaming and_eq_true → cF, or_eq_true → ji, not_eq_true' → jR, eq_iff_iff → kO, false_eq_true → lp, and_eq_true_iff → nt
open Option renaming isSome_iff_exists → jO, map_eq_some_iff → pT
open Array renaming isEmpty_iff_size_eq_zero → gF, replicate → pR
theorem Kr:false≠true:=Bool.false_ne_true
open PySem.Str (ofString)
section

theorem ak{A B:Prop}{P:Prop}(h:A/\B)(f:A->B->P):P:=f h.1 h.2
theorem cN{A B C:Prop}{P:Prop}(h:A/\B/\C)(f:A->B->C->P):P:=f h.1 h.2.1 h.2.2
theorem eq{A B C D:Prop}{P:Prop}(h:A/\B/\C/\D)(f:A->B->C->D->P):P:=f h.1 h.2.1 h.2.2.1 h.2.2.2
theorem AA{A B C D E:Prop}{P:Prop}(h:A/\B/\C/\D/\E)(f:A->B->C->D->E->P):P:=f h.1 h.2.1 h.2.2.1 h.2.2.2.1 h.2.2.2.2
theorem fy{A B C D E F:Prop}{P:Prop}(h:A/\B/\C/\D/\E/\F)(f:A->B->C->D->E->F->P):P:=f h.1 h.2.1 h.2.2.1 h.2.2.2.1 h.2.2.2.2.1 h.2.2.2.2.2
theorem AB{A B C D E F H I:Prop}{P:Prop}(h:A/\B/\C/\D/\E/\F/\H/\I)(f:A->B->C->D->E->F->H->I->P):P:=f h.1 h.2.1 h.2.2.1 h.2.2.2.1 h.2.2.2.2.1 h.2.2.2.2.2.1 h.2.2.2.2.2.2.1 h.2.2.2.2.2.2.2
theorem lg{A B C D E F H I J K:Prop}{P:Prop}(h:A/\B/\C/\D/\E/\F/\H/\I/\J/\K)(f:A->B->C->D->E->F->H->I->J->K->P):P:=f h.1 h.2.1 h.2.2.1 h.2.2.2.1 h.2.2.2.2.1 h.2.2.2.2.2.1 h.2.2.2.2.2.2.1 h.2.2.2.2.2.2.2.1 h.2.2.2.2.2.2.2.2.1 h.2.2.2.2.2.2.2.2.2
theorem x11.{u1}{α:Sort u1}{A:α->Prop}{P:Prop}(h:∃x,A x)(f:∀x,A x->P):P:=h.elim fun x q=>f x q
theorem x12.{u1}{α:Sort u1}{A B:α->Prop}{P:Prop}(h:∃x,A x/\B x)(f:∀x,A x->B x->P):P:=h.elim fun x q=>f x q.1 q.2
theorem x13.{u1}{α:Sort u1}{A B C:α->Prop}{P:Prop}(h:∃x,A x/\B x/\C x)(f:∀x,A x->B x->C x->P):P:=h.elim fun x q=>f x q.1 q.2.1 q.2.2
theorem x14.{u1}{α:Sort u1}{A B C D:α->Prop}{P:Prop}(h:∃x,A x/\B x/\C x/\D x)(f:∀x,A x->B x->C x->D x->P):P:=h.elim fun x q=>f x q.1 q.2.1 q.2.2.1 q.2.2.2
theorem x16.{u1}{α:Sort u1}{A B C D E F:α->Prop}{P:Prop}(h:∃x,A x/\B x/\C x/\D x/\E x/\F x)(f:∀x,A x->B x->C x->D x->E x->F x->P):P:=h.elim fun x q=>f x q.1 q.2.1 q.2.2.1 q.2.2.2.1 q.2.2.2.2.1 q.2.2.2.2.2
theorem x17.{u1}{α:Sort u1}{A B C D E F H:α->Prop}{P:Prop}(h:∃x,A x/\B x/\C x/\D x/\E x/\F x/\H x)(f:∀x,A x->B x->C x->D x->E x->F x->H x->P):P:=h.elim fun x q=>f x q.1 q.2.1 q.2.2.1 q.2.2.2.1 q.2.2.2.2.1 q.2.2.2.2.2.1 q.2.2.2.2.2.2
theorem x21.{u1,u2}{α:Sort u1}{β:Sort u2}{A:α->β->Prop}{P:Prop}(h:∃x,∃y,A x y)(f:∀x y,A x y->P):P:=h.elim fun x q=>q.elim fun y q=>f x y q
theorem x22.{u1,u2}{α:Sort u1}{β:Sort u2}{A B:α->β->Prop}{P:Prop}(h:∃x,∃y,A x y/\B x y)(f:∀x y,A x y->B x y->P):P:=h.elim fun x q=>q.elim fun y q=>f x y q.1 q.2
theorem x23.{u1,u2}{α:Sort u1}{β:Sort u2}{A B C:α->β->Prop}{P:Prop}(h:∃x,∃y,A x y/\B x y/\C x y)(f:∀x y,A x y->B x y->C x y->P):P:=h.elim fun x q=>q.elim fun y q=>f x y q.1 q.2.1 q.2.2
theorem x24.{u1,u2}{α:Sort u1}{β:Sort u2}{A B C D:α->β->Prop}{P:Prop}(h:∃x,∃y,A x y/\B x y/\C x y/\D x y)(f:∀x y,A x y->B x y->C x y->D x y->P):P:=h.elim fun x q=>q.elim fun y q=>f x y q.1 q.2.1 q.2.2.1 q.2.2.2
theorem x26.{u1,u2}{α:Sort u1}{β:Sort u2}{A B C D E F:α->β->Prop}{P:Prop}(h:∃x,∃y,A x y/\B x y/\C x y/\D x y/\E x y/\F x y)(f:∀x y,A x y->B x y->C x y->D x y->E x y->F x y->P):P:=h.elim fun x q=>q.elim fun y q=>f x y q.1 q.2.1 q.2.2.1 q.2.2.2.1 q.2.2.2.2.1 q.2.2.2.2.2
theorem x31.{u1,u2,u3}{α:Sort u1}{β:Sort u2}{γ:Sort u3}{A:α->β->γ->Prop}{P:Prop}(h:∃x,∃y,∃z,A x y z)(f:∀x y z,A x y z->P):P:=h.elim fun x q=>q.elim fun y q=>q.elim fun z q=>f x y z q
theorem x32.{u1,u2,u3}{α:Sort u1}{β:Sort u2}{γ:Sort u3}{A B:α->β->γ->Prop}{P:Prop}(h:∃x,∃y,∃z,A x y z/\B x y z)(f:∀x y z,A x y z->B x y z->P):P:=h.elim fun x q=>q.elim fun y q=>q.elim fun z q=>f x y z q.1 q.2
theorem x33.{u1,u2,u3}{α:Sort u1}{β:Sort u2}{γ:Sort u3}{A B C:α->β->γ->Prop}{P:Prop}(h:∃x,∃y,∃z,A x y z/\B x y z/\C x y z)(f:∀x y z,A x y z->B x y z->C x y z->P):P:=h.elim fun x q=>q.elim fun y q=>q.elim fun z q=>f x y z q.1 q.2.1 q.2.2
theorem x34.{u1,u2,u3}{α:Sort u1}{β:Sort u2}{γ:Sort u3}{A B C D:α->β->γ->Prop}{P:Prop}(h:∃x,∃y,∃z,A x y z/\B x y z/\C x y z/\D x y z)(f:∀x y z,A x y z->B x y z->C x y z->D x y z->P):P:=h.elim fun x q=>q.elim fun y q=>q.elim fun z q=>f x y z q.1 q.2.1 q.2.2.1 q.2.2.2
theorem x35.{u1,u2,u3}{α:Sort u1}{β:Sort u2}{γ:Sort u3}{A B C D E:α->β->γ->Prop}{P:Prop}(h:∃x,∃y,∃z,A x y z/\B x y z/\C x y z/\D x y z/\E x y z)(f:∀x y z,A x y z->B x y z->C x y z->D x y z->E x y z->P):P:=h.elim fun x q=>q.elim fun y q=>q.elim fun z q=>f x y z q.1 q.2.1 q.2.2.1 q.2.2.2.1 q.2.2.2.2
theorem x36.{u1,u2,u3}{α:Sort u1}{β:Sort u2}{γ:Sort u3}{A B C D E F:α->β->γ->Prop}{P:Prop}(h:∃x,∃y,∃z,A x y z/\B x y z/\C x y z/\D x y z/\E x y z/\F x y z)(f:∀x y z,A x y z->B x y z->C x y z->D x y z->E x y z->F x y z->P):P:=h.elim fun x q=>q.elim fun y q=>q.elim fun z q=>f x y z q.1 q.2.1 q.2.2.1 q.2.2.2.1 q.2.2.2.2.1 q.2.2.2.2.2
theorem x41.{u1,u2,u3,u4}{α:Sort u1}{β:Sort u2}{γ:Sort u3}{δ:Sort u4}{A:α->β->γ->δ->Prop}{P:Prop}(h:∃x,∃y,∃z,∃w,A x y z w)(f:∀x y z w,A x y z w->P):P:=h.elim fun x q=>q.elim fun y q=>q.elim fun z q=>q.elim fun w q=>f x y z w q
theorem x42.{u1,u2,u3,u4}{α:Sort u1}{β:Sort u2}{γ:Sort u3}{δ:Sort u4}{A B:α->β->γ->δ->Prop}{P:Prop}(h:∃x,∃y,∃z,∃w,A x y z w/\B x y z w)(f:∀x y z w,A x y z w->B x y z w->P):P:=h.elim fun x q=>q.elim fun y q=>q.elim fun z q=>q.elim fun w q=>f x y z w q.1 q.2
theorem x55.{u1,u2,u3,u4,u5}{α:Sort u1}{β:Sort u2}{γ:Sort u3}{δ:Sort u4}{ε:Sort u5}{A B C D E:α->β->γ->δ->ε->Prop}{P:Prop}(h:∃x,∃y,∃z,∃w,∃u,A x y z w u/\B x y z w u/\C x y z w u/\D x y z w u/\E x y z w u)(f:∀x y z w u,A x y z w u->B x y z w u->C x y z w u->D x y z w u->E x y z w u->P):P:=h.elim fun x q=>q.elim fun y q=>q.elim fun z q=>q.elim fun w q=>q.elim fun u q=>f x y z w u q.1 q.2.1 q.2.2.1 q.2.2.2.1 q.2.2.2.2
theorem x59.{u1,u2,u3,u4,u5}{α:Sort u1}{β:Sort u2}{γ:Sort u3}{δ:Sort u4}{ε:Sort u5}{A B C D E F H I J:α->β->γ->δ->ε->Prop}{P:Prop}(h:∃x,∃y,∃z,∃w,∃u,A x y z w u/\B x y z w u/\C x y z w u/\D x y z w u/\E x y z w u/\F x y z w u/\H x y z w u/\I x y z w u/\J x y z w u)(f:∀x y z w u,A x y z w u->B x y z w u->C x y z w u->D x y z w u->E x y z w u->F x y z w u->H x y z w u->I x y z w u->J x y z w u->P):P:=h.elim fun x q=>q.elim fun y q=>q.elim fun z q=>q.elim fun w q=>q.elim fun u q=>f x y z w u q.1 q.2.1 q.2.2.1 q.2.2.2.1 q.2.2.2.2.1 q.2.2.2.2.2.1 q.2.2.2.2.2.2.1 q.2.2.2.2.2.2.2.1 q.2.2.2.2.2.2.2.2
end
section
open PySem PySem.W
noncomputable def bH:Program:=PySem.Challenge.pw_kt0069_05
noncomputable abbrev sS(x:String):Str:=ofString x
noncomputable def bj(i:Nat):Arguments × List Stmt × Scope:=match bH.main.body[i]? with
 | some (.FunctionDef _ a b _ _ _ s _ _ _)=>(a,b,s)
 | _=>default
noncomputable def md(i j:Nat):Arguments × List Stmt × Scope:=match bH.main.body[i]? with
 | some (.ClassDef _ _ _ b _ _ _ _ _ _ _)=>(match b[j]? with
  | some (.FunctionDef _ a b _ _ _ s _ _ _)=>(a,b,s)
  | _=>default)
 | _=>default
noncomputable def cz(n q:String)(x:Arguments × List Stmt × Scope)(m:String)(t c:Nat)(d:Value):FuncData:=.mk (sS n) (sS q) x.1 (.stmts x.2.1) x.2.2 3 [] d .none .none (.str (sS m) t) none (.ref c) .none 0
noncomputable def pl(l n:Nat):Pos:=⟨l / 1000 ^ (4 * n) % 1000,l / 1000 ^ (4 * n+1) % 1000,l / 1000 ^ (4 * n+2) % 1000,l / 1000 ^ (4 * n+3) % 1000⟩
noncomputable abbrev e0:Expr:=.Constant .none 0 default
noncomputable def sP:Stmt->Expr × List Stmt × List Stmt × Option Expr × Expr
 | .If t b e _=>(t,b,e,none,e0)
 | .While t b e _=>(t,b,e,none,e0)
 | .For _ i b e _=>(i,b,e,none,e0)
 | .Assert t m _=>(t,[],[],m,e0)
 | .Assign (t::_) v _=>(v,[],[],none,t)
 | .Expr v _=>(v,[],[],none,e0)
 | _=>(e0,[],[],none,e0)
noncomputable def eP:Expr->List Expr × Expr × Nat × Scope
 | .Tuple es k _=>(es,e0,k,default)
 | .Call _ as _ _=>(as,e0,0,default)
 | .BoolOp _ es _=>(es,e0,0,default)
 | .Compare l _ _ _=>([],l,0,default)
 | .ListComp _ _ s _=>([],e0,0,s)
 | _=>([],e0,0,default)
noncomputable def sB(b:List Stmt)(i:Nat):Stmt:=(b.drop i).headD (.Pass default)
noncomputable def eA(b:List Expr)(i:Nat):Expr:=(b.drop i).headD e0
noncomputable def cQ(s:Stmt):Expr:=(sP s).1
noncomputable def dU(s:Stmt):List Stmt:=(sP s).2.1
noncomputable def nG(s:Stmt):List Stmt:=(sP s).2.2.1
noncomputable def ue(s:Stmt):Option Expr:=(sP s).2.2.2.1
noncomputable def nH(s:Stmt):Expr:=(sP s).2.2.2.2
noncomputable def li(e:Expr):List Expr:=(eP e).1
noncomputable def nJ(e:Expr):Nat:=(eP e).2.2.1
noncomputable def cL(e:Expr):Expr:=(eP e).2.1
noncomputable def uf(e:Expr):List Expr:=(eP e).1
noncomputable def cA(s:Stmt):Expr:=eA (li (cQ s)) 0
noncomputable def AD(s:Stmt):Scope:=(eP (cQ s)).2.2.2
@[irreducible] noncomputable def TS:Addr:=206
@[irreducible] noncomputable def NI:Addr:=109
@[irreducible] noncomputable def fI:Addr:=105
@[irreducible] noncomputable def pN:Addr:=110
@[irreducible] noncomputable def pP:Addr:=111
@[irreducible] noncomputable def pS:Addr:=112
@[irreducible] noncomputable def nP:Addr:=149
@[irreducible] noncomputable def er:Addr:=156
@[irreducible] noncomputable def fT:Addr:=142
@[irreducible] noncomputable def fF:Addr:=196
@[irreducible] noncomputable def fP:Addr:=161
@[irreducible] noncomputable def CE:Addr:=124
@[irreducible] noncomputable def pU:FuncData:=cz "__init__" "_NodeInfo.__init__" (md 17 1) "cpy313.graphlib" 550 104 .none
@[irreducible] noncomputable def bI:List Stmt:=(md 17 1).2.1
@[irreducible] noncomputable def iu:FuncData:=cz "_get_nodeinfo" "TopologicalSorter._get_nodeinfo" (md 19 1) "cpy313.graphlib" 550 148 .none
@[irreducible] noncomputable def bG:List Stmt:=(md 19 1).2.1
@[irreducible] noncomputable def jm:FuncData:=cz "add" "TopologicalSorter.add" (md 19 2) "cpy313.graphlib" 550 155 .none
@[irreducible] noncomputable def bA:List Stmt:=(md 19 2).2.1
@[irreducible] noncomputable def fdT:FuncData:=cz "__init__" "TopologicalSorter.__init__" (md 19 0) "cpy313.graphlib" 550 141 (.ref 135)
@[irreducible] noncomputable def bT:List Stmt:=(md 19 0).2.1
@[irreducible] noncomputable def iw:FuncData:=cz "_find_cycle" "TopologicalSorter._find_cycle" (md 19 8) "cpy313.graphlib" 550 195 .none
@[irreducible] noncomputable def bF:List Stmt:=(md 19 8).2.1
@[irreducible] noncomputable def jn:FuncData:=cz "prepare" "TopologicalSorter.prepare" (md 19 3) "cpy313.graphlib" 550 160 .none
@[irreducible] noncomputable def bP:List Stmt:=(md 19 3).2.1
@[irreducible] noncomputable def AE:Nat->Pos:=pl 28135008135028135026135023135008135012135008135030134008134030134029134026134008134012134008134024133008133024133020133017133008133012133008133
@[irreducible] noncomputable def AF:Nat->Pos:=pl 45147008145028145011145028145024145016145011145027144008144027144026144023144008144012144008144028143008143028143027143024143008143012143008143032142008142032142028142025142008142012142008142028141008141028141026141023141008141012141008141
@[irreducible] noncomputable def bY:Nat->Pos:=pl 21152008152021152015152060151008150060151012151060151045151059151055151054151045151042151036151033151012151032151028151027151012151016151012151056150011150056150052150047150012150047150022150046150042150041150022150037150022150026150022150018150012150
@[irreducible] noncomputable def gK:Nat->Pos:=pl 45161008159045161012161045161012161044161040161039161012161032161012161021161012161048160012160048160024160047160043160042160024160028160024160021160012160032159020159016159012159051158008158051158034158050158038158037158034158030158008158016158008158043157008157043157019157042157038157037157019157023157019157016157008157079156008155040155011155040155036155028155011155015155011155
@[irreducible] noncomputable def jY:Nat->Pos:=pl 60169008168060169012169060169018169059169054169052169029169051169031169028169018169016168011168034167008167034167016167032167016167020167016167013167008167094166008166094166028166093166073166093166092166088166073166074166073166069166045166067166045166060166045166049166045166041166040166035166029166030166029166025166008166012166008166063165008164040164011164040164036164028164011164015164011164
@[irreducible] noncomputable def AG:Nat->Pos:=pl 19240008240019240015240024218008218024218022218019218008218020217008217020217015217018217015217012217008217020216008216020216018216015216008216018215008215018215016215013215008215029214008214029214014214018214014214011214008214
@[irreducible] noncomputable def AH:Nat->Pos:=pl 25239008219025239012222022222018222024221012220024221016221027220015220027220023220019220015220023219020219016219012219
@[irreducible] noncomputable def jo:Nat->Pos:=pl 38230016223038230020230038230020230037230033230032230020230025230020230050229020229050229040229049229044229043229040229037229020229036229032229031229020229071228020228071228020228070228035228061228035228060228040228049228040228048228044228043228040228039228035228034228020228027228020228034227020227034227020227033227029227028227020227024227020227065225020224065225024225065225031225065225059225064225060225056225031225055225037225054225037225053225049225048225037225036225031225042224023224042224031224027224023224031223019223031223027223023223019223
@[irreducible] noncomputable def ln:Nat->Pos:=pl 25239016231025239020239037237020232037237020235037237024237037237024237035237024237031237024237052236024236052236028236051236040236049236040236045236040236039236028236040235027235029234024234044233024233044233031233042233031233041233039233041233040233038233031233028233024233027231022231
@[irreducible] noncomputable def pV:Nat->Pos:=pl 69035004031052032008032052032015032051032033032032032015032022032015032031031007031030031027031025031018031017031007031
@[irreducible] noncomputable def AI:Nat->Pos:=pl 14098004098014098011098017097004097026096004041024040004040024040011040008040004040020039004039020039010039013039010039007039004039012038004038012038010038007038004038
@[irreducible] noncomputable def AJ:Nat->Pos:=pl 26096008044026096008047026096008049026096012096026096012096015096012096030048012048030048012048015048012048017043008043009043008043018042008042009042008042
@[irreducible] noncomputable def AK:Nat->Pos:=pl 34122004106024102004102024102011102008102004102020101004101020101010101013101010101007101004101012100004100012100010100007100004100
@[irreducible] noncomputable def AL:Nat->Pos:=pl 14105004103014105008105014105013105009105008105019104008104019104008104011104008104038103010103038103020103038103034103
@[irreducible] noncomputable def nR:Nat->Pos:=pl 27125004125027125011125026125022125022125017125021125018125017125013125022124004124007124004124017123004123
@[irreducible] noncomputable def pW:Nat->Pos:=pl 46027004027046027011027045027041027039027034027033027011027038026004026038026012026037026034026032026028026026026023026022026012026009026004026019025004025019025011025017025011025008025004025
@[irreducible] noncomputable def AM:List Stmt:=dU (sB (md 19 2).2.1 0)
@[irreducible] noncomputable def AN:List Stmt:=dU (sB (md 19 0).2.1 4)
@[irreducible] noncomputable def AO:List Stmt:=dU (sB (md 19 3).2.1 0)
@[irreducible] noncomputable def pX:Scope:=AD (sB (md 19 3).2.1 1)
noncomputable def nS:List Stmt:=(bj 10).2.1
noncomputable def gL:List Stmt:=(bj 12).2.1
noncomputable def jZ:List Stmt:=dU (sB gL 3)
noncomputable def pY:List Stmt:=nG (sB jZ 2)
noncomputable def pZ:List Stmt:=nG (sB pY 0)
noncomputable def gN:List Stmt:=(bj 13).2.1
noncomputable def nT:Stmt:=sB gN 3
noncomputable def nU:List Stmt:=gN.drop 5
@[irreducible] noncomputable def AP:List Stmt:=(dU (sB nS 0)).drop 1
@[irreducible] noncomputable def AQ:List Stmt:=nG (sB nS 0)
@[irreducible] noncomputable def AR:List Stmt:=nS.drop 1
@[irreducible] noncomputable def qa:Expr:=cQ (sB jZ 0)
@[irreducible] noncomputable def qb:Expr:=cQ (sB jZ 1)
@[irreducible] noncomputable def ul:Expr:=cQ (sB jZ 2)
@[irreducible] noncomputable def AS:List Stmt:=dU (sB jZ 2)
@[irreducible] noncomputable def um:Expr:=cQ (sB pY 0)
@[irreducible] noncomputable def uo:Expr:=cA (sB (dU (sB pY 0)) 0)
@[irreducible] noncomputable def uq:Expr:=cQ (sB pZ 0)
@[irreducible] noncomputable def AT:List Stmt:=dU (sB pZ 0)
@[irreducible] noncomputable def ur:Expr:=cA (sB (nG (sB pZ 0)) 0)
@[irreducible] noncomputable def ut:List Expr:=li (nH (sB gL 2))
@[irreducible] noncomputable def AU:Nat:=nJ (nH (sB gL 2))
@[irreducible] noncomputable def qc:List Expr:=li (cQ (sB gL 2))
@[irreducible] noncomputable def AV:Nat:=nJ (cQ (sB gL 2))
@[irreducible] noncomputable def qd:Expr:=cQ (sB gL 3)
@[irreducible] noncomputable def uu:List Stmt:=jZ
@[irreducible] noncomputable def qe:Expr:=cQ (sB gL 4)
@[irreducible] noncomputable def AW:Option Expr:=ue (sB gL 4)
@[irreducible] noncomputable def uv:List Expr:=li (nH (sB gN 2))
@[irreducible] noncomputable def AX:Nat:=nJ (nH (sB gN 2))
@[irreducible] noncomputable def qf:List Expr:=li (cQ (sB gN 2))
@[irreducible] noncomputable def AY:Nat:=nJ (cQ (sB gN 2))
@[irreducible] noncomputable def uw:Stmt:=nT
@[irreducible] noncomputable def qg:Expr:=cQ (sB gN 4)
@[irreducible] noncomputable def AZ:List Stmt:=dU (sB gN 4)
@[irreducible] noncomputable def ux:List Stmt:=nU
@[irreducible] noncomputable def qh:Expr:=eA (uf (cQ nT)) 0
@[irreducible] noncomputable def uy:Expr:=cL (eA (uf (cQ nT)) 1)
@[irreducible] noncomputable def uz:Expr:=cA (sB (dU nT) 0)
@[irreducible] noncomputable def qi:Expr:=cQ (sB nU 0)
@[irreducible] noncomputable def A0:Option Expr:=ue (sB nU 0)
@[irreducible] noncomputable def nV:Expr:=cQ (sB nU 1)
end
section
open PySem PySem.W PyProof.Rows PySem.Spec PySem.SeqAt
theorem aO{a b:Bool}{P:Prop}(h:(a&&b)=true)(k:a=true->b=true->P):P:=k (nt.mp h).1 (nt.mp h).2
theorem dW{a b c:Bool}{P:Prop}(h:(a&&b&&c)=true)(k:a=true->b=true->c=true->P):P:=aO h fun x z=>aO x fun x y=>k x y z
theorem fA{a b c d:Bool}{P:Prop}(h:(a&&b&&c&&d)=true)(k:a=true->b=true->c=true->d=true->P):P:=aO h fun x z=>dW x fun x y w=>k x y w z
theorem ge{a b c d e:Bool}{P:Prop}(h:(a&&b&&c&&d&&e)=true)(k:a=true->b=true->c=true->d=true->e=true->P):P:=aO h fun x z=>fA x fun x y w v=>k x y w v z
theorem qj{a b c d e f:Bool}{P:Prop}(h:(a&&b&&c&&d&&e&&f)=true)(k:a=true->b=true->c=true->d=true->e=true->f=true->P):P:=aO h fun x z=>ge x fun x y w v u=>k x y w v u z
theorem qk{a b c d e f g:Bool}{P:Prop}(h:(a&&b&&c&&d&&e&&f&&g)=true)(k:a=true->b=true->c=true->d=true->e=true->f=true->g=true->P):P:=dW h fun x y z=>ge x fun a b c d e=>k a b c d e y z
theorem uA{a b c d e f g h':Bool}{P:Prop}(h:(a&&b&&c&&d&&e&&f&&g&&h')=true)(k:a=true->b=true->c=true->d=true->e=true->f=true->g=true->h'=true->P):P:=aO h fun x z=>qk x fun a b c d e f g=>k a b c d e f g z
noncomputable def v1{α:Type}(l:List α)(f:α->Bool):Bool:=match l with | [x]=>f x | _=>false
theorem c0{α:Type}{l:List α}{f:α->Bool}{P:List α->Prop}(h:v1 l f=true)(k:∀x,f x=true->P [x]):P l:=match l,h with
 | [_],h=>k _ h
 | [],h=>absurd h Kr
 | _::_::_,h=>absurd h Kr
noncomputable def v0{α:Type}(l:List α)(b:Bool):Bool:=match l with | []=>b | _=>false
theorem et{α:Type}{l:List α}{b:Bool}{P:List α->Prop}(h:v0 l b=true)(k:b=true->P []):P l:=match l,h with
 | [],h=>k h
 | _::_,h=>absurd h Kr
noncomputable def vC{α:Type}(l:List α)(f:α->List α->Bool):Bool:=match l with | x::r=>f x r | _=>false
theorem cO{α:Type}{l:List α}{f:α->List α->Bool}{P:List α->Prop}(h:vC l f=true)(k:∀x r,f x r=true->P (x::r)):P l:=match l,h with
 | _::_,h=>k _ _ h
 | [],h=>absurd h Kr
noncomputable def vO{α:Type}(l:Option α)(f:α->Bool):Bool:=match l with | some x=>f x | _=>false
theorem nW{α:Type}{l:Option α}{f:α->Bool}{P:Option α->Prop}(h:vO l f=true)(k:∀x,f x=true->P (some x)):P l:=match l,h with
 | some _,h=>k _ h
 | none,h=>absurd h Kr
noncomputable def vN{α:Type}(l:Option α)(b:Bool):Bool:=match l with | none=>b | _=>false
theorem ql{α:Type}{l:Option α}{b:Bool}{P:Option α->Prop}(h:vN l b=true)(k:b=true->P none):P l:=match l,h with
 | none,h=>k h
 | some _,h=>absurd h Kr
noncomputable def n1{α:Type}:α->Bool:=fun U=>false
theorem m1{α:Type}{P:α->Prop}:∀a,n1 a=true->P a:=fun U h=>absurd h Kr
noncomputable def n2{α β:Type}:α->β->Bool:=fun U U=>false
theorem m2{α β:Type}{P:α->β->Prop}:∀a b,n2 a b=true->P a b:=fun U U h=>absurd h Kr
noncomputable def n3{α β γ:Type}:α->β->γ->Bool:=fun U U U=>false
theorem m3{α β γ:Type}{P:α->β->γ->Prop}:∀a b c,n3 a b c=true->P a b c:=fun U U U h=>absurd h Kr
noncomputable def n4{α β γ δ:Type}:α->β->γ->δ->Bool:=fun U U U U=>false
theorem m4{α β γ δ:Type}{P:α->β->γ->δ->Prop}:∀a b c d,n4 a b c d=true->P a b c d:=fun U U U U h=>absurd h Kr
noncomputable def n5{α β γ δ ε:Type}:α->β->γ->δ->ε->Bool:=fun U U U U U=>false
theorem m5{α β γ δ ε:Type}{P:α->β->γ->δ->ε->Prop}:∀a b c d e,n5 a b c d e=true->P a b c d e:=fun U U U U U h=>absurd h Kr
noncomputable def iy(e:Stmt)(f0:List Expr->Expr->Pos->Bool)(f1:Option Expr->Pos->Bool)(f2:Expr->Pos->Bool)(f3:Pos->Bool)(f4:Expr->List Stmt->List Stmt->Pos->Bool)(f5:Expr->Expr->List Stmt->List Stmt->Pos->Bool)(f6:Expr->List Stmt->List Stmt->Pos->Bool)(f7:List Stmt->List ExceptHandler->List Stmt->List Stmt->Pos->Bool):Bool:=match e with | .Assign t v p=>f0 t v p | .Return v p=>f1 v p | .Expr v p=>f2 v p | .Break p=>f3 p | .If t b o p=>f4 t b o p | .For t i b o p=>f5 t i b o p | .While t b o p=>f6 t b o p | .Try b hs o fb p=>f7 b hs o fb p | _=>false
theorem jp{P:Stmt->Prop}{e:Stmt}{f0:List Expr->Expr->Pos->Bool}{f1:Option Expr->Pos->Bool}{f2:Expr->Pos->Bool}{f3:Pos->Bool}{f4:Expr->List Stmt->List Stmt->Pos->Bool}{f5:Expr->Expr->List Stmt->List Stmt->Pos->Bool}{f6:Expr->List Stmt->List Stmt->Pos->Bool}{f7:List Stmt->List ExceptHandler->List Stmt->List Stmt->Pos->Bool}(h:iy e f0 f1 f2 f3 f4 f5 f6 f7=true)(k0:∀t v p,f0 t v p=true->P (.Assign t v p))(k1:∀v p,f1 v p=true->P (.Return v p))(k2:∀v p,f2 v p=true->P (.Expr v p))(k3:∀p,f3 p=true->P (.Break p))(k4:∀t b o p,f4 t b o p=true->P (.If t b o p))(k5:∀t i b o p,f5 t i b o p=true->P (.For t i b o p))(k6:∀t b o p,f6 t b o p=true->P (.While t b o p))(k7:∀b hs o fb p,f7 b hs o fb p=true->P (.Try b hs o fb p)):P e:=by
 cases e<;>first | (exact absurd h Kr) | exact k0 _ _ _ h | exact k1 _ _ h | exact k2 _ _ h | exact k3 _ h | exact k4 _ _ _ _ h | exact k5 _ _ _ _ _ h | exact k6 _ _ _ _ h | exact k7 _ _ _ _ _ h
noncomputable def uB(e:Stmt)(f:List Expr->Expr->Pos->Bool):Bool:=iy e f n2 n2 n1 n4 n5 n4 n5
theorem A1{P:Stmt->Prop}{e:Stmt}{f:List Expr->Expr->Pos->Bool}(h:uB e f=true)(k:∀t v p,f t v p=true->P (.Assign t v p)):P e :=
 jp h k m2 m2 m1 m4 m5 m4 m5
noncomputable def uC(e:Stmt)(f:Option Expr->Pos->Bool):Bool:=iy e n3 f n2 n1 n4 n5 n4 n5
theorem A2{P:Stmt->Prop}{e:Stmt}{f:Option Expr->Pos->Bool}(h:uC e f=true)(k:∀v p,f v p=true->P (.Return v p)):P e :=
 jp h m3 k m2 m1 m4 m5 m4 m5
noncomputable def iz(e:Stmt)(f:Expr->Pos->Bool):Bool:=iy e n3 n2 f n1 n4 n5 n4 n5
theorem A3{P:Stmt->Prop}{e:Stmt}{f:Expr->Pos->Bool}(h:iz e f=true)(k:∀v p,f v p=true->P (.Expr v p)):P e :=
 jp h m3 m2 k m1 m4 m5 m4 m5
noncomputable def nY(e:Stmt)(f:Expr->List Stmt->List Stmt->Pos->Bool):Bool:=iy e n3 n2 n2 n1 f n5 n4 n5
theorem uD{P:Stmt->Prop}{e:Stmt}{f:Expr->List Stmt->List Stmt->Pos->Bool}(h:nY e f=true)(k:∀t b o p,f t b o p=true->P (.If t b o p)):P e :=
 jp h m3 m2 m2 m1 k m5 m4 m5
noncomputable def uE(e:Stmt)(f:Expr->Expr->List Stmt->List Stmt->Pos->Bool):Bool:=iy e n3 n2 n2 n1 n4 f n4 n5
theorem A4{P:Stmt->Prop}{e:Stmt}{f:Expr->Expr->List Stmt->List Stmt->Pos->Bool}(h:uE e f=true)(k:∀t i b o p,f t i b o p=true->P (.For t i b o p)):P e :=
 jp h m3 m2 m2 m1 m4 k m4 m5
noncomputable def uF(e:Stmt)(f:Expr->List Stmt->List Stmt->Pos->Bool):Bool:=iy e n3 n2 n2 n1 n4 n5 f n5
theorem A6{P:Stmt->Prop}{e:Stmt}{f:Expr->List Stmt->List Stmt->Pos->Bool}(h:uF e f=true)(k:∀t b o p,f t b o p=true->P (.While t b o p)):P e :=
 jp h m3 m2 m2 m1 m4 m5 k m5
noncomputable def uG(e:Stmt)(f:List Stmt->List ExceptHandler->List Stmt->List Stmt->Pos->Bool):Bool:=iy e n3 n2 n2 n1 n4 n5 n4 f
theorem A7{P:Stmt->Prop}{e:Stmt}{f:List Stmt->List ExceptHandler->List Stmt->List Stmt->Pos->Bool}(h:uG e f=true)(k:∀b hs o fb p,f b hs o fb p=true->P (.Try b hs o fb p)):P e :=
 jp h m3 m2 m2 m1 m4 m5 m4 k
noncomputable def dp(e:Expr)(f0:Str->Pos->Bool)(f1:Const->Nat->Pos->Bool)(f2:Expr->Operator->Expr->Pos->Bool)(f3:Expr->List CmpOp->List Expr->Pos->Bool)(f4:UnaryOp->Expr->Pos->Bool)(f5:BoolOp->List Expr->Pos->Bool)(f6:Expr->Expr->Expr->Pos->Bool)(f7:List Expr->Pos->Bool)(f8:List Expr->Nat->Pos->Bool)(f9:Expr->Expr->Pos->Bool)(f10:Option Expr->Option Expr->Option Expr->Pos->Bool)(il:Expr->Str->Pos->Bool)(f12:Expr->List Expr->List Keyword->Pos->Bool)(ja:Expr->Pos->Bool)(f14:Expr->List Comprehension->Scope->Pos->Bool):Bool:=match e with | .Name x p=>f0 x p | .Constant c n p=>f1 c n p | .BinOp l o r p=>f2 l o r p | .Compare l os rs p=>f3 l os rs p | .UnaryOp o x p=>f4 o x p | .BoolOp o xs p=>f5 o xs p | .IfExp t a b p=>f6 t a b p | .List xs p=>f7 xs p | .Tuple xs n p=>f8 xs n p | .Subscript a b p=>f9 a b p | .Slice l u s p=>f10 l u s p | .Attribute a b p=>il a b p | .Call g xs ks p=>f12 g xs ks p | .Starred a p=>ja a p | .ListComp e gs sc p=>f14 e gs sc p | _=>false
theorem dI{P:Expr->Prop}{e:Expr}{f0:Str->Pos->Bool}{f1:Const->Nat->Pos->Bool}{f2:Expr->Operator->Expr->Pos->Bool}{f3:Expr->List CmpOp->List Expr->Pos->Bool}{f4:UnaryOp->Expr->Pos->Bool}{f5:BoolOp->List Expr->Pos->Bool}{f6:Expr->Expr->Expr->Pos->Bool}{f7:List Expr->Pos->Bool}{f8:List Expr->Nat->Pos->Bool}{f9:Expr->Expr->Pos->Bool}{f10:Option Expr->Option Expr->Option Expr->Pos->Bool}{il:Expr->Str->Pos->Bool}{f12:Expr->List Expr->List Keyword->Pos->Bool}{ja:Expr->Pos->Bool}{f14:Expr->List Comprehension->Scope->Pos->Bool}(h:dp e f0 f1 f2 f3 f4 f5 f6 f7 f8 f9 f10 il f12 ja f14=true)(k0:∀x p,f0 x p=true->P (.Name x p))(k1:∀c n p,f1 c n p=true->P (.Constant c n p))(k2:∀l o r p,f2 l o r p=true->P (.BinOp l o r p))(k3:∀l os rs p,f3 l os rs p=true->P (.Compare l os rs p))(k4:∀o x p,f4 o x p=true->P (.UnaryOp o x p))(k5:∀o xs p,f5 o xs p=true->P (.BoolOp o xs p))(k6:∀t a b p,f6 t a b p=true->P (.IfExp t a b p))(k7:∀xs p,f7 xs p=true->P (.List xs p))(k8:∀xs n p,f8 xs n p=true->P (.Tuple xs n p))(k9:∀a b p,f9 a b p=true->P (.Subscript a b p))(k10:∀l u s p,f10 l u s p=true->P (.Slice l u s p))(k11:∀a b p,il a b p=true->P (.Attribute a b p))(k12:∀g xs ks p,f12 g xs ks p=true->P (.Call g xs ks p))(k13:∀a p,ja a p=true->P (.Starred a p))(k14:∀e gs sc p,f14 e gs sc p=true->P (.ListComp e gs sc p)):P e:=by
 cases e<;>first | (exact absurd h Kr) | exact k0 _ _ h | exact k1 _ _ _ h | exact k2 _ _ _ _ h | exact k3 _ _ _ _ h | exact k4 _ _ _ h | exact k5 _ _ _ h | exact k6 _ _ _ _ h | exact k7 _ _ h | exact k8 _ _ _ h | exact k9 _ _ _ h | exact k10 _ _ _ _ h | exact k11 _ _ _ h | exact k12 _ _ _ _ h | exact k13 _ _ h | exact k14 _ _ _ _ h
noncomputable def cf(e:Expr)(f:Str->Pos->Bool):Bool:=dp e f n3 n4 n4 n3 n3 n4 n2 n3 n3 n4 n3 n4 n2 n4
theorem eR{P:Expr->Prop}{e:Expr}{f:Str->Pos->Bool}(h:cf e f=true)(k:∀x p,f x p=true->P (.Name x p)):P e :=
 dI h k m3 m4 m4 m3 m3 m4 m2 m3 m3 m4 m3 m4 m2 m4
noncomputable def qo(e:Expr)(f:Const->Nat->Pos->Bool):Bool:=dp e n2 f n4 n4 n3 n3 n4 n2 n3 n3 n4 n3 n4 n2 n4
theorem qp{P:Expr->Prop}{e:Expr}{f:Const->Nat->Pos->Bool}(h:qo e f=true)(k:∀c n p,f c n p=true->P (.Constant c n p)):P e :=
 dI h m2 k m4 m4 m3 m3 m4 m2 m3 m3 m4 m3 m4 m2 m4
noncomputable def uH(e:Expr)(f:Expr->Operator->Expr->Pos->Bool):Bool:=dp e n2 n3 f n4 n3 n3 n4 n2 n3 n3 n4 n3 n4 n2 n4
theorem uI{P:Expr->Prop}{e:Expr}{f:Expr->Operator->Expr->Pos->Bool}(h:uH e f=true)(k:∀l o r p,f l o r p=true->P (.BinOp l o r p)):P e :=
 dI h m2 m3 k m4 m3 m3 m4 m2 m3 m3 m4 m3 m4 m2 m4
noncomputable def uJ(e:Expr)(f:Expr->List CmpOp->List Expr->Pos->Bool):Bool:=dp e n2 n3 n4 f n3 n3 n4 n2 n3 n3 n4 n3 n4 n2 n4
theorem A8{P:Expr->Prop}{e:Expr}{f:Expr->List CmpOp->List Expr->Pos->Bool}(h:uJ e f=true)(k:∀l os rs p,f l os rs p=true->P (.Compare l os rs p)):P e :=
 dI h m2 m3 m4 k m3 m3 m4 m2 m3 m3 m4 m3 m4 m2 m4
noncomputable def qq(e:Expr)(f:UnaryOp->Expr->Pos->Bool):Bool:=dp e n2 n3 n4 n4 f n3 n4 n2 n3 n3 n4 n3 n4 n2 n4
theorem uK{P:Expr->Prop}{e:Expr}{f:UnaryOp->Expr->Pos->Bool}(h:qq e f=true)(k:∀o x p,f o x p=true->P (.UnaryOp o x p)):P e :=
 dI h m2 m3 m4 m4 k m3 m4 m2 m3 m3 m4 m3 m4 m2 m4
noncomputable def qr(e:Expr)(f:BoolOp->List Expr->Pos->Bool):Bool:=dp e n2 n3 n4 n4 n3 f n4 n2 n3 n3 n4 n3 n4 n2 n4
theorem qs{P:Expr->Prop}{e:Expr}{f:BoolOp->List Expr->Pos->Bool}(h:qr e f=true)(k:∀o xs p,f o xs p=true->P (.BoolOp o xs p)):P e :=
 dI h m2 m3 m4 m4 m3 k m4 m2 m3 m3 m4 m3 m4 m2 m4
noncomputable def uL(e:Expr)(f:Expr->Expr->Expr->Pos->Bool):Bool:=dp e n2 n3 n4 n4 n3 n3 f n2 n3 n3 n4 n3 n4 n2 n4
theorem uM{P:Expr->Prop}{e:Expr}{f:Expr->Expr->Expr->Pos->Bool}(h:uL e f=true)(k:∀t a b p,f t a b p=true->P (.IfExp t a b p)):P e :=
 dI h m2 m3 m4 m4 m3 m3 k m2 m3 m3 m4 m3 m4 m2 m4
noncomputable def uN(e:Expr)(f:List Expr->Pos->Bool):Bool:=dp e n2 n3 n4 n4 n3 n3 n4 f n3 n3 n4 n3 n4 n2 n4
theorem nZ{P:Expr->Prop}{e:Expr}{f:List Expr->Pos->Bool}(h:uN e f=true)(k:∀xs p,f xs p=true->P (.List xs p)):P e :=
 dI h m2 m3 m4 m4 m3 m3 m4 k m3 m3 m4 m3 m4 m2 m4
noncomputable def gO(e:Expr)(f:List Expr->Nat->Pos->Bool):Bool:=dp e n2 n3 n4 n4 n3 n3 n4 n2 f n3 n4 n3 n4 n2 n4
theorem n0{P:Expr->Prop}{e:Expr}{f:List Expr->Nat->Pos->Bool}(h:gO e f=true)(k:∀xs n p,f xs n p=true->P (.Tuple xs n p)):P e :=
 dI h m2 m3 m4 m4 m3 m3 m4 m2 k m3 m4 m3 m4 m2 m4
noncomputable def qt(e:Expr)(f:Expr->Expr->Pos->Bool):Bool:=dp e n2 n3 n4 n4 n3 n3 n4 n2 n3 f n4 n3 n4 n2 n4
theorem og{P:Expr->Prop}{e:Expr}{f:Expr->Expr->Pos->Bool}(h:qt e f=true)(k:∀a b p,f a b p=true->P (.Subscript a b p)):P e :=
 dI h m2 m3 m4 m4 m3 m3 m4 m2 m3 k m4 m3 m4 m2 m4
noncomputable def uO(e:Expr)(f:Option Expr->Option Expr->Option Expr->Pos->Bool):Bool:=dp e n2 n3 n4 n4 n3 n3 n4 n2 n3 n3 f n3 n4 n2 n4
theorem A9{P:Expr->Prop}{e:Expr}{f:Option Expr->Option Expr->Option Expr->Pos->Bool}(h:uO e f=true)(k:∀l u s p,f l u s p=true->P (.Slice l u s p)):P e :=
 dI h m2 m3 m4 m4 m3 m3 m4 m2 m3 m3 k m3 m4 m2 m4
noncomputable def qu(e:Expr)(f:Expr->Str->Pos->Bool):Bool:=dp e n2 n3 n4 n4 n3 n3 n4 n2 n3 n3 n4 f n4 n2 n4
theorem uP{P:Expr->Prop}{e:Expr}{f:Expr->Str->Pos->Bool}(h:qu e f=true)(k:∀a b p,f a b p=true->P (.Attribute a b p)):P e :=
 dI h m2 m3 m4 m4 m3 m3 m4 m2 m3 m3 m4 k m4 m2 m4
noncomputable def uQ(e:Expr)(f:Expr->List Expr->List Keyword->Pos->Bool):Bool:=dp e n2 n3 n4 n4 n3 n3 n4 n2 n3 n3 n4 n3 f n2 n4
theorem Ba{P:Expr->Prop}{e:Expr}{f:Expr->List Expr->List Keyword->Pos->Bool}(h:uQ e f=true)(k:∀g xs ks p,f g xs ks p=true->P (.Call g xs ks p)):P e :=
 dI h m2 m3 m4 m4 m3 m3 m4 m2 m3 m3 m4 m3 k m2 m4
noncomputable def qv(e:Expr)(f:Expr->Pos->Bool):Bool:=dp e n2 n3 n4 n4 n3 n3 n4 n2 n3 n3 n4 n3 n4 f n4
theorem Bb{P:Expr->Prop}{e:Expr}{f:Expr->Pos->Bool}(h:qv e f=true)(k:∀a p,f a p=true->P (.Starred a p)):P e :=
 dI h m2 m3 m4 m4 m3 m3 m4 m2 m3 m3 m4 m3 m4 k m4
noncomputable def uR(e:Expr)(f:Expr->List Comprehension->Scope->Pos->Bool):Bool:=dp e n2 n3 n4 n4 n3 n3 n4 n2 n3 n3 n4 n3 n4 n2 f
theorem uS{P:Expr->Prop}{e:Expr}{f:Expr->List Comprehension->Scope->Pos->Bool}(h:uR e f=true)(k:∀e gs sc p,f e gs sc p=true->P (.ListComp e gs sc p)):P e :=
 dI h m2 m3 m4 m4 m3 m3 m4 m2 m3 m3 m4 m3 m4 m2 k
noncomputable def eS(e:Stmt)(f:Expr->Expr->Pos->Bool):Bool:=uB e fun t v p=>v1 t fun t=>f t v p
theorem uT{P:Stmt->Prop}{e:Stmt}{f:Expr->Expr->Pos->Bool}(h:eS e f=true)(k:∀t v p,f t v p=true->P (.Assign [t] v p)):P e :=
 A1 h fun U v p h=>c0 (P:=fun t=>P (.Assign t v p)) h fun t h=>k t v p h
noncomputable def oh(e:Stmt)(f:Expr->Pos->Bool):Bool:=uC e fun v p=>vO v fun v=>f v p
theorem qw{P:Stmt->Prop}{e:Stmt}{f:Expr->Pos->Bool}(h:oh e f=true)(k:∀v p,f v p=true->P (.Return (some v) p)):P e :=
 A2 h fun U p h=>nW (P:=fun v=>P (.Return v p)) h fun v h=>k v p h
noncomputable def lq(e:Stmt)(f:Expr->Expr->List Stmt->Pos->Bool):Bool:=uE e fun t i b o p=>v0 o (f t i b p)
theorem uU{P:Stmt->Prop}{e:Stmt}{f:Expr->Expr->List Stmt->Pos->Bool}(h:lq e f=true)(k:∀t i b p,f t i b p=true->P (.For t i b [] p)):P e :=
 A4 h fun t i b U p h=>et (P:=fun o=>P (.For t i b o p)) h fun h=>k t i b p h
noncomputable def qx(e:Stmt)(f:Expr->List Stmt->Pos->Bool):Bool:=uF e fun t b o p=>v0 o (f t b p)
theorem Bc{P:Stmt->Prop}{e:Stmt}{f:Expr->List Stmt->Pos->Bool}(h:qx e f=true)(k:∀t b p,f t b p=true->P (.While t b [] p)):P e :=
 A6 h fun t b U p h=>et (P:=fun o=>P (.While t b o p)) h fun h=>k t b p h
noncomputable def qy(e:Expr)(f:Expr->CmpOp->Expr->Pos->Bool):Bool:=uJ e fun l os rs p=>v1 os fun o=>v1 rs fun r=>f l o r p
theorem qz{P:Expr->Prop}{e:Expr}{f:Expr->CmpOp->Expr->Pos->Bool}(h:qy e f=true)(k:∀l o r p,f l o r p=true->P (.Compare l [o] [r] p)):P e :=
 A8 h fun l U U p h=>c0 (P:=fun os=>P (.Compare l os _ p)) h fun o h=>c0 (P:=fun rs=>P (.Compare l [o] rs p)) h fun r h=>k l o r p h
noncomputable def oi(e:Expr)(f:Expr->Pos->Bool):Bool:=qq e fun o x p=>o==.Not&&f x p
theorem oj{P:Expr->Prop}{e:Expr}{f:Expr->Pos->Bool}(h:oi e f=true)(k:∀x p,f x p=true->P (.UnaryOp .Not x p)):P e :=
 uK h fun o x p h=>aO h fun ho h=>(eq_of_beq ho)▸k x p h
noncomputable def uV(e:Expr)(f:Expr->Expr->Pos->Bool):Bool:=qr e fun o l p=>o==.And&&vC l fun x r=>v1 r fun y=>f x y p
theorem uW{P:Expr->Prop}{e:Expr}{f:Expr->Expr->Pos->Bool}(h:uV e f=true)(k:∀x y p,f x y p=true->P (.BoolOp .And [x,y] p)):P e :=
 qs h fun o U p h=>aO h fun ho h=>(eq_of_beq ho)▸cO (P:=fun l=>P (.BoolOp .And l p)) h fun x U h=>c0 (P:=fun r=>P (.BoolOp .And (x::r) p)) h fun y h=>k x y p h
noncomputable def on(e:Expr)(f:Expr->List Expr->Pos->Bool):Bool:=uQ e fun g xs ks p=>v0 ks (f g xs p)
theorem qA{P:Expr->Prop}{e:Expr}{f:Expr->List Expr->Pos->Bool}(h:on e f=true)(k:∀g xs p,f g xs p=true->P (.Call g xs [] p)):P e :=
 Ba h fun g xs U p h=>et (P:=fun ks=>P (.Call g xs ks p)) h fun h=>k g xs p h
noncomputable def iA(e:Expr)(f:Str->Pos->List Expr->Pos->Bool):Bool:=on e fun g xs p=>cf g fun x xp=>f x xp xs p
theorem iB{P:Expr->Prop}{e:Expr}{f:Str->Pos->List Expr->Pos->Bool}(h:iA e f=true)(k:∀x xp xs p,f x xp xs p=true->P (.Call (.Name x xp) xs [] p)):P e :=
 qA h fun U xs p h=>eR (P:=fun g=>P (.Call g xs [] p)) h fun x xp h=>k x xp xs p h
noncomputable def oq(e:Expr)(f:Str->Expr->Bool):Bool:=iA e fun g U xs U=>v1 xs fun x=>f g x
theorem lu{P:Expr->Prop}{e:Expr}{f:Str->Expr->Bool}(h:oq e f=true)(k:∀g gp x p,f g x=true->P (.Call (.Name g gp) [x] [] p)):P e :=
 iB h fun g gp U p h=>c0 (P:=fun xs=>P (.Call (.Name g gp) xs [] p)) h fun x h=>k g gp x p h
noncomputable def uX(e:Expr)(f:Str->Expr->Expr->Bool):Bool:=iA e fun g U xs U=>vC xs fun x r=>v1 r fun y=>f g x y
theorem Bd{P:Expr->Prop}{e:Expr}{f:Str->Expr->Expr->Bool}(h:uX e f=true)(k:∀g gp x y p,f g x y=true->P (.Call (.Name g gp) [x,y] [] p)):P e :=
 iB h fun g gp U p h=>cO (P:=fun xs=>P (.Call (.Name g gp) xs [] p)) h fun x U h=>c0 (P:=fun r=>P (.Call (.Name g gp) (x::r) [] p)) h fun y h=>k g gp x y p h
noncomputable def uY(e:Expr)(f:Expr->Str->Pos->Expr->Pos->Bool):Bool:=on e fun g xs p=>qu g fun o m ap=>v1 xs fun x=>f o m ap x p
theorem uZ{P:Expr->Prop}{e:Expr}{f:Expr->Str->Pos->Expr->Pos->Bool}(h:uY e f=true)(k:∀o m ap x p,f o m ap x p=true->P (.Call (.Attribute o m ap) [x] [] p)):P e :=
 qA h fun U xs p h=>uP (P:=fun g=>P (.Call g xs [] p)) h fun o m ap h=>c0 (P:=fun xs=>P (.Call (.Attribute o m ap) xs [] p)) h fun x h=>k o m ap x p h
noncomputable def iC(e:Expr)(f:Str->Pos->Str->Pos->List Expr->Pos->Bool):Bool:=on e fun g xs p=>qu g fun o m ap=>cf o fun x xp=>f x xp m ap xs p
theorem Be{P:Expr->Prop}{e:Expr}{f:Str->Pos->Str->Pos->List Expr->Pos->Bool}(h:iC e f=true)(k:∀x xp m ap xs p,f x xp m ap xs p=true->P (.Call (.Attribute (.Name x xp) m ap) xs [] p)):P e :=
 qA h fun U xs p h=>uP (P:=fun g=>P (.Call g xs [] p)) h fun o m ap h=>eR (P:=fun o=>P (.Call (.Attribute o m ap) xs [] p)) h fun x xp h=>k x xp m ap xs p h
noncomputable def u0(e:ExceptHandler)(f:Str->Pos->Expr->Pos->Pos->Bool):Bool:=match e with
 | .ExceptHandler t n b hp=>vO t fun t=>vN n (cf t fun x xp=>v1 b fun r=>oh r fun v rp=>f x xp v rp hp)
theorem Bf{P:ExceptHandler->Prop}{e:ExceptHandler}{f:Str->Pos->Expr->Pos->Pos->Bool}(h:u0 e f=true)(k:∀x xp v rp hp,f x xp v rp hp=true->P (.ExceptHandler (some (.Name x xp)) none [.Return (some v) rp] hp)):P e:=match e,h with
 | .ExceptHandler _ n b hp,h=>nW (P:=fun t=>P (.ExceptHandler t n b hp)) h fun U h=>ql (P:=fun n=>P (.ExceptHandler _ n b hp)) h fun h=>eR (P:=fun t=>P (.ExceptHandler (some t) none b hp)) h fun x xp h =>
  c0 (P:=fun b=>P (.ExceptHandler (some (.Name x xp)) none b hp)) h fun U h=>qw (P:=fun r=>P (.ExceptHandler (some (.Name x xp)) none [r] hp)) h fun v rp h=>k x xp v rp hp h
noncomputable def lw(e:Stmt)(f:List Stmt->Str->Pos->Expr->Pos->Pos->Pos->Bool):Bool:=uG e fun b hs o fb p=>v0 o (v0 fb (v1 hs fun hd=>u0 hd fun x xp v rp hp=>f b x xp v rp hp p))
theorem u6{P:Stmt->Prop}{e:Stmt}{f:List Stmt->Str->Pos->Expr->Pos->Pos->Pos->Bool}(h:lw e f=true)(k:∀b x xp v rp hp p,f b x xp v rp hp p=true->P (.Try b [.ExceptHandler (some (.Name x xp)) none [.Return (some v) rp] hp] [] [] p)):P e :=
 A7 h fun b hs U fb p h=>et (P:=fun o=>P (.Try b hs o fb p)) h fun h=>et (P:=fun fb=>P (.Try b hs [] fb p)) h fun h=>c0 (P:=fun hs=>P (.Try b hs [] [] p)) h fun U h =>
  Bf (P:=fun hd=>P (.Try b [hd] [] [] p)) h fun x xp v rp hp h=>k b x xp v rp hp p h
theorem ot{P:Stmt->Prop}{st:Stmt}{f:Str->Pos->Expr->Pos->Bool}(h:(eS st fun t v p=>cf t fun x xp=>f x xp v p)=true)(k:∀x xp v p,f x xp v p=true->P (.Assign [.Name x xp] v p)):P st :=
 uT h fun U v p h=>eR (P:=fun t=>P (.Assign [t] v p)) h fun x xp h=>k x xp v p h
theorem Bg{P:Stmt->Prop}{st:Stmt}{f:List Expr->Nat->Pos->Expr->Pos->Bool}(h:(eS st fun t v p=>gO t fun ts n tp=>f ts n tp v p)=true)(k:∀ts n tp v p,f ts n tp v p=true->P (.Assign [.Tuple ts n tp] v p)):P st :=
 uT h fun U v p h=>n0 (P:=fun t=>P (.Assign [t] v p)) h fun ts n tp h=>k ts n tp v p h
theorem u7{P:Stmt->Prop}{st:Stmt}{f:List Expr->List Expr->Bool}(h:(eS st fun t v U=>gO t fun ts U U=>gO v fun vs U U=>f ts vs)=true)(k:∀ts n tp vs m vp p,f ts vs=true->P (.Assign [.Tuple ts n tp] (.Tuple vs m vp) p)):P st :=
 Bg h fun ts n tp U p h=>n0 (P:=fun v=>P (.Assign [.Tuple ts n tp] v p)) h fun vs m vp h=>k ts n tp vs m vp p h
theorem u8{P:Stmt->Prop}{st:Stmt}{f:Str->Str->List Expr->Bool}(h:(eS st fun t v U=>cf t fun x U=>iA v fun g U xs U=>f x g xs)=true)(k:∀x xp g gp xs cp p,f x g xs=true->P (.Assign [.Name x xp] (.Call (.Name g gp) xs [] cp) p)):P st :=
 ot h fun x xp U p h=>iB (P:=fun v=>P (.Assign [.Name x xp] v p)) h fun g gp xs cp h=>k x xp g gp xs cp p h
theorem ou{P:Stmt->Prop}{st:Stmt}{f:Str->Str->Pos->List Expr->Pos->Bool}(h:(iz st fun c U=>iC c fun x U m ap xs cp=>f x m ap xs cp)=true)(k:∀x xp m ap xs cp p,f x m ap xs cp=true->P (.Expr (.Call (.Attribute (.Name x xp) m ap) xs [] cp) p)):P st :=
 A3 h fun U p h=>Be (P:=fun v=>P (.Expr v p)) h fun x xp m ap xs cp h=>k x xp m ap xs cp p h
theorem Bh{P:Stmt->Prop}{st:Stmt}{f:Str->Expr->Str->Str->Pos->Pos->Bool}
 (h:(lw st fun b ce U v U U U=>v1 b fun t=>iz t fun c U=>iC c fun x U m ap xs cp=>v0 xs (f ce v x m ap cp))=true)
 (k:∀x xp m ap cp ep ce cep v rp hp tp,f ce v x m ap cp=true->P (.Try [.Expr (.Call (.Attribute (.Name x xp) m ap) [] [] cp) ep] [.ExceptHandler (some (.Name ce cep)) none [.Return (some v) rp] hp] [] [] tp)):P st :=
 u6 h fun U ce cep v rp hp tp h=>c0 (P:=fun b=>P (.Try b [.ExceptHandler (some (.Name ce cep)) none [.Return (some v) rp] hp] [] [] tp)) h fun U h =>
  ou (P:=fun t=>P (.Try [t] [.ExceptHandler (some (.Name ce cep)) none [.Return (some v) rp] hp] [] [] tp)) (f:=fun x m ap xs cp=>v0 xs (f ce v x m ap cp)) h fun x xp m ap U cp ep h =>
   et (P:=fun xs=>P (.Try [.Expr (.Call (.Attribute (.Name x xp) m ap) xs [] cp) ep] [.ExceptHandler (some (.Name ce cep)) none [.Return (some v) rp] hp] [] [] tp)) h fun h=>k x xp m ap cp ep ce cep v rp hp tp h
noncomputable def jq(x:Str)(xp:Pos)(v:Expr)(rp hp:Pos):List ExceptHandler:=[.ExceptHandler (some (.Name x xp)) none [.Return (some v) rp] hp]
theorem Bi{P:Stmt->Prop}{st:Stmt}{f:Str->Expr->Str->Pos->Expr->Str->Str->Pos->Str->Pos->Bool}
 (h:(lw st fun b ve U v U U U=>v1 b fun fo=>lq fo fun t iter fb U=>cf t fun el ep=>v1 fb fun c=>iz c fun c U=>iC c fun x U m ap xs cp=>v1 xs fun a=>cf a fun el2 U=>f ve v el ep iter x m ap el2 cp)=true)
 (k:∀el ep iter x xp m ap el2 elp cp exp fp ve vep v rp hp tp,f ve v el ep iter x m ap el2 cp=true ->
  P (.Try [.For (.Name el ep) iter [.Expr (.Call (.Attribute (.Name x xp) m ap) [.Name el2 elp] [] cp) exp] [] fp] [.ExceptHandler (some (.Name ve vep)) none [.Return (some v) rp] hp] [] [] tp)):P st :=
 u6 h fun U ve vep v rp hp tp h=>by
  exact c0 (P:=fun b=>P (.Try b (jq ve vep v rp hp) [] [] tp)) h fun U h=>uU (P:=fun t=>P (.Try [t] (jq ve vep v rp hp) [] [] tp)) h fun U iter U fp h=>eR (P:=fun t=>P (.Try [.For t iter _ [] fp] (jq ve vep v rp hp) [] [] tp)) h fun el ep h =>
   c0 (P:=fun fb=>P (.Try [.For (.Name el ep) iter fb [] fp] (jq ve vep v rp hp) [] [] tp)) h fun U h=>ou (P:=fun c=>P (.Try [.For (.Name el ep) iter [c] [] fp] (jq ve vep v rp hp) [] [] tp)) (f:=fun x m ap xs cp=>v1 xs fun a=>cf a fun el2 U=>f ve v el ep iter x m ap el2 cp) h fun x xp m ap U cp exp h =>
    c0 (P:=fun xs=>P (.Try [.For (.Name el ep) iter [.Expr (.Call (.Attribute (.Name x xp) m ap) xs [] cp) exp] [] fp] (jq ve vep v rp hp) [] [] tp)) h fun U h =>
     eR (P:=fun a=>P (.Try [.For (.Name el ep) iter [.Expr (.Call (.Attribute (.Name x xp) m ap) [a] [] cp) exp] [] fp] (jq ve vep v rp hp) [] [] tp)) h fun el2 elp h=>k el ep iter x xp m ap el2 elp cp exp fp ve vep v rp hp tp h
section
theorem br(s:Shared):Keeps s s:=⟨s.heap,s.toks,rfl,fun U U e=>e⟩
theorem aw(s:Shared)(t:Nat):Keeps s { s with toks:=t }:=⟨s.heap,t,rfl,fun U U e=>e⟩
theorem aQ{a b c:Shared}(x:Keeps a b)(y:Keeps b c):Keeps a c:=by
 refine x22 x fun h t e2 k=>?_;subst e2
 refine x22 y fun h' t' e2 k'=>?_;subst e2
 exact⟨h',t',rfl,fun b o e=>k' b o (k b o e)⟩
theorem al{a b:Shared}(x:Keeps a b):∀c o,a.heap.get? c=some o->b.heap.get? c=some o:=by
 refine x22 x fun h t e2 k=>?_;subst e2;exact k
theorem bt{s:Shared}{t:Nat}(o:Obj):Keeps s { s with heap:=s.heap.push o,toks:=t }:=⟨_,t,rfl,fun U U e=>Heap.get?_push_of_some _ e⟩
section
mutual
inductive Rep(O:Addr->Prop)(h:Heap):Value->PyData->Prop
 | none:Rep O h .none .none
 | bool (b:Bool):Rep O h (.bool b) (.bool b)
 | int (i:Int) (t:Tok):Rep O h (.int i t) (.int i)
 | str (x:Str) (t:Tok):Rep O h (.str x t) (.str x)
 | list {a:Addr} {vs:Array Value} {n:Nat} {ds:List PyData}:¬O a->IsL h a vs n->RepL O h vs.toList ds->Rep O h (.ref a) (.list ds)
 | tuple {a:Addr} {vs:Array Value} {n:Nat} {ds:List PyData}:¬O a->IsT h a vs n->RepL O h vs.toList ds->Rep O h (.ref a) (.tuple ds)
inductive RepL(O:Addr->Prop)(h:Heap):List Value->List PyData->Prop
 | nil:RepL O h [] []
 | cons {v:Value} {vs:List Value} {d:PyData} {ds:List PyData}:Rep O h v d->RepL O h vs ds->RepL O h (v::vs) (d::ds)
end
end
section
variable{prog:Program}{w:World}{O O':Addr->Prop}{h h':Heap}
theorem eU{a:Addr}{kvs:List (Int × Value)}(hk:∀o,h.get? a=some o->h'.get? a=some o)(x:h.DictOf (intKind prog w) a kvs):h'.DictOf (intKind prog w) a kvs:=by
 refine x12 (Heap.dictOf_iff.mp x) fun o ho r=>?_
 exact Heap.dictOf_iff.mpr ⟨o,hk o ho,r⟩
theorem Rep.mono(hk:∀b o,¬O b->h.get? b=some o->h'.get? b=some o)(hO:∀b o,h.get? b=some o->O' b->O b){v:Value}{d:PyData}(r:Rep O h v d):Rep O' h' v d :=
 Rep.rec (motive_1:=fun v d U=>Rep O' h' v d) (motive_2:=fun vs ds U=>RepL O' h' vs ds) .none .bool .int .str (fun n ho U l=>.list (fun q=>n (hO _ _ ho q)) (hk _ _ n ho) l) (fun n ho U l=>.tuple (fun q=>n (hO _ _ ho q)) (hk _ _ n ho) l) .nil (fun U U r l=>.cons r l) r
theorem RepL.mono(hk:∀b o,¬O b->h.get? b=some o->h'.get? b=some o)(hO:∀b o,h.get? b=some o->O' b->O b){vs:List Value}{ds:List PyData}(r:RepL O h vs ds):RepL O' h' vs ds :=
 RepL.rec (motive_1:=fun v d U=>Rep O' h' v d) (motive_2:=fun vs ds U=>RepL O' h' vs ds) .none .bool .int .str (fun n ho U l=>.list (fun q=>n (hO _ _ ho q)) (hk _ _ n ho) l) (fun n ho U l=>.tuple (fun q=>n (hO _ _ ho q)) (hk _ _ n ho) l) .nil (fun U U r l=>.cons r l) r
theorem Rep.keeps{s s':Shared}(k:Keeps s s'){v:Value}{d:PyData}(r:Rep O s.heap v d):Rep O s'.heap v d:=r.mono (fun b o U e=>al k b o e) fun U U U q=>q
theorem RepL.keeps{s s':Shared}(k:Keeps s s'){v:List Value}{d:List PyData}(r:RepL O s.heap v d):RepL O s'.heap v d:=r.mono (fun b o U e=>al k b o e) fun U U U q=>q
theorem Rep.weak(hO:∀b,O' b->O b){v:Value}{d:PyData}(r:Rep O h v d):Rep O' h v d:=r.mono (fun U U U e=>e) fun b U U q=>hO b q
theorem RepL.length{vs:List Value}{ds:List PyData}(r:RepL O h vs ds):vs.length=ds.length:=by
 induction vs generalizing ds with
 | nil=>cases r;rfl
 | cons v vs ih=>cases r with | cons _ l=>rw[cZ,cZ,ih l]
theorem RepL.append{vs ws:List Value}{ds es:List PyData}(r:RepL O h vs ds)(q:RepL O h ws es):RepL O h (vs++ws) (ds++es):=by
 induction vs generalizing ds with
 | nil=>cases r;exact q
 | cons v vs ih=>cases r with | cons a l=>exact .cons a (ih l)
theorem RepL.get{vs:List Value}{ds:List PyData}(r:RepL O h vs ds){i:Nat}{v:Value}(hv:vs[i]? = some v):∃d,ds[i]? = some d/\Rep O h v d:=by
 induction vs generalizing ds i with
 | nil=>simp at hv
 | cons u vs ih =>
  cases r with
  | cons a l =>
   cases i with
   | zero=>simp at hv;subst hv;exact⟨_,rfl,a⟩
   | succ i=>simp at hv;simpa using ih l hv
theorem RepL.getD{vs:List Value}{ds:List PyData}(r:RepL O h vs ds){i:Nat}{d:PyData}(hd:ds[i]? = some d):∃v,vs[i]? = some v/\Rep O h v d:=by
 induction vs generalizing ds i with
 | nil=>cases r;cases hd
 | cons u vs ih =>
  cases r with
  | cons a l =>
   cases i with
   | zero=>simp at hd;subst hd;exact⟨_,rfl,a⟩
   | succ i=>simp at hd;simpa using ih l hd
theorem RepL.take{vs:List Value}{ds:List PyData}(r:RepL O h vs ds)(n:Nat):RepL O h (vs.take n) (ds.take n):=by
 induction vs generalizing ds n with
 | nil=>cases r;simpa using RepL.nil
 | cons u vs ih =>
  cases r with
  | cons a l=>cases n with | zero=>simpa using RepL.nil | succ n=>simpa using RepL.cons a (ih l n)
theorem RepL.drop{vs:List Value}{ds:List PyData}(r:RepL O h vs ds)(n:Nat):RepL O h (vs.drop n) (ds.drop n):=by
 induction vs generalizing ds n with
 | nil=>cases r;simpa using RepL.nil
 | cons u vs ih =>
  cases r with
  | cons a l=>cases n with | zero=>simpa using RepL.cons a l | succ n=>simpa using ih l n
mutual
noncomputable def j0:PyData->Bool
 | .none | .bool _ | .int _ | .str _=>true
 | .list ds | .tuple ds=>j1 ds
 | .dict _=>false
noncomputable def j1:List PyData->Bool
 | []=>true
 | d::ds=>j0 d&&j1 ds
end
mutual
theorem iE:∀d:PyData,d.canLay0=true->j0 d=true
 | .none,_ | .bool _,_ | .int _,_ | .str _,_=>rfl
 | .list ds,h=>iF ds h
 | .tuple ds,h=>iF ds h
 | .dict _,h=>by simp[PyData.canLay0]at h
theorem iF:∀ds:List PyData,PyData.canLayAll0 ds=true->j1 ds=true
 | [],_=>rfl
 | d::ds,h=>by
  have h:(d.canLay0&&PyData.canLayAll0 ds)=true:=h
  exact aO h fun h1 h2=>(congrArg (·&&_) (iE d h1)).trans (iF ds h2)
end
theorem RepL.reads{vs:List Value}{ds:List PyData}(r:RepL O h vs ds):j1 ds=true->∃as,ReadsAll h vs ds as :=
 RepL.rec (motive_1:=fun v d U=>j0 d=true->∃as,Reads h v d as) (motive_2:=fun vs ds U=>j1 ds=true->∃as,ReadsAll h vs ds as) (fun U=>⟨_,.none⟩) (fun b U=>⟨_,.bool b⟩) (fun i t U=>⟨_,.int i t⟩) (fun x t U=>⟨_,.str x t⟩)
  (fun U ho U l q=>(l q).elim fun as r=>⟨_,.list ho rfl rfl r⟩) (fun U ho U l q=>(l q).elim fun as r=>⟨_,.tuple ho rfl rfl r⟩) (fun U=>⟨_,.nil⟩)
  (fun U U r l q=>have q:=nt.mp q;(r q.1).elim fun as a=>(l q.2).elim fun bs b=>⟨_,.cons a b⟩) r
theorem Rep.reads{v:Value}{d:PyData}(r:Rep O h v d)(hd:j0 d=true):∃as,Reads h v d as:=by
 have:=RepL.reads (.cons r .nil) (show(j0 d&&true)=true by rw[hd];rfl)
 refine x11 this fun as q=>?_
 cases q with | cons a _=>exact⟨_,a⟩
end
end
noncomputable abbrev PV(O:Addr->Prop)(s:Shared)(d:PyData):Value->Shared->Prop:=fun v s'=>Keeps s s'/\Rep O s'.heap v d
noncomputable abbrev PB(s:Shared)(b:Bool):Bool->Shared->Prop:=fun r s'=>r=b/\Keeps s s'
noncomputable def qB(op:Operator)(a b:Int):Int:=match op with
 | .Add=>a+b
 | .Sub=>a - b
 | .Mult=>a * b
 | .FloorDiv=>Int.fdiv a b
 | .Mod=>Int.fmod a b
 | .Pow=>a ^ b.toNat
 | .BitAnd=>Builtin.bitAnd a b
 | .BitOr=>Builtin.bitOr a b
 | .BitXor=>Builtin.bitXor a b
 | _=>0
noncomputable def ow(op:Operator)(a b:Int):Prop:=match op with
 | .Add | .Sub | .BitAnd | .BitOr | .BitXor=>True
 | .Mult=>(-65536<=a/\a<=65536)\/(-65536<=b/\b<=65536)
 | .FloorDiv=>0<b/\b<=1000000
 | .Mod=>b≠0
 | .Pow=>2<=a/\a<=64/\0<=b/\b<=64
 | _=>False
noncomputable def lx(op:Operator)(x y:PyData):PyData:=match x with
 | .int a=>(match y with | .int b=>.int (qB op a b) | _=>.none)
 | .str a=>(match y with | .str b=>.str (a++b) | _=>.none)
 | .list a=>(match y with | .list b=>.list (a++b) | _=>.none)
 | _=>.none
noncomputable def oy(op:Operator)(x y:PyData):Prop:=match x with
 | .int a=>(match y with | .int b=>ow op a b | _=>False)
 | .str a=>(match y with | .str b=>op=.Add/\a.length+b.length<=16777216 | _=>False)
 | .list a=>(match y with | .list b=>op=.Add/\a.length+b.length<=16777216 | _=>False)
 | _=>False
section
variable{prog:Program}{w:World}{A:Around}{E:Value->Shared->Prop}{s:Shared}{O:Addr->Prop}{va vb:Value}{da db:PyData}
theorem cj{vs:Array Value}:vs.toList.length=vs.size:=by simp
theorem u9{a:Int}{k:Nat}(h : -(k:Int)<=a/\a<=k):a.natAbs<=k:=by
 cases a with
 | ofNat n=>exact Int.ofNat_le.mp h.2
 | negSucc n=>exact Int.ofNat_le.mp (Int.neg_le_neg_iff.mp h.1)
theorem vd{n k:Nat}(h:n<2 ^ k)(hk:0<k):n.log2<k:=by
 cases n with
 | zero=>exact hk
 | succ n=>exact(Nat.log2_lt (Nat.succ_ne_zero n)).mpr h
theorem vf{a:Int}(h : -65536<=a/\a<=65536):Builtin.Int.intBits a<=64:=by
 unfold Builtin.Int.intBits
 split
 ·exact aW _
 ·exact ae (vd (k:=17) (cR (u9 (k:=65536) h) (by decide)) (by decide)) (by decide)
theorem RepL.pushO{vs:List Value}{ds:List PyData}(o:Obj)(r:RepL O s.heap vs ds):RepL O (s.heap.push o) vs ds :=
 r.mono (fun U U U e=>Heap.get?_push_of_some _ e) fun U U U q=>q
theorem vg{v:Value}{a:Int}(r:Rep O s.heap v (.int a)):∃t,v=.int a t:=by
 cases r with | int a t=>exact⟨t,rfl⟩
theorem Bj:∀m:Fin 65,∀n:Fin 65,Builtin.Int.intTooBig (((Builtin.Int.intBits (m.1:Int):Nat):Int) * (n.1:Int))=false:=by decide +kernel
theorem Bk{m n:Nat}{t u:Tok}(h2:2<=m)(h:m<65)(h1:n<65):wpAny (model prog w) A (binaryOp .Pow (.int m t) (.int n u)) (PV O s (.int ((m:Int) ^ n))) E s:=by
 refine AutoIntOpsIf.pow ?_
 rw[if_pos (ll n)]
 cases n with
 | zero=>exact⟨aw _ _,.int _ _⟩
 | succ n =>
  match m,h2 with
  | m+2,_ =>
   show if Builtin.Int.intTooBig _=true then _ else _
   rw[Bj ⟨m+2,h⟩ ⟨n+1,h1⟩]
   exact⟨aw _ _,.int _ _⟩
theorem Bl{a b:Int}(h:0<b)(h1:b<=1000000):Builtin.divisionGoesByPylong a b=false:=by
 unfold Builtin.divisionGoesByPylong
 have l:=vd (k:=20) (cR (u9 (a:=b) (k:=1000000) ⟨Int.le_trans (by decide) (Int.le_of_lt h),h1⟩) (by decide)) (by decide)
 rw[Bool.and_eq_false_iff]
 refine .inl (decide_eq_false (cy.mpr ?_))
 show(if(b==0)=true then 0 else b.natAbs.log2 / 30+1)<=300
 rw[if_neg (fun e=>Int.ne_of_gt h (eq_of_beq e))]
 exact ae (dm (Nat.div_le_div_right (Nat.le_of_lt l)) 1) (by decide)
theorem Bm{op:Operator}{a b:Int}{t u:Tok}(hp:ow op a b):wpAny (model prog w) A (binaryOp op (.int a t) (.int b u)) (PV O s (.int (qB op a b))) E s:=by
 cases op<;>first | exact hp.elim | skip
 ·exact add_int ⟨aw _ _,.int _ _⟩
 ·exact sub_int ⟨aw _ _,.int _ _⟩
 ·exact mul_int ⟨aw _ _,.int _ _⟩ (hp.elim (fun h=>.of_left (vf h)) fun h=>.of_right (vf h))
 ·exact mod_int' hp ⟨aw _ _,.int _ _⟩
 ·obtain⟨p1,p2,p3,p4⟩:=hp
  match a,b,p1,p2,p3,p4 with
  | .ofNat m,.ofNat n,p1,p2,p3,p4=>exact Bk (Int.ofNat_le.mp p1) (Nat.lt_succ_of_le (Int.ofNat_le.mp p2)) (Nat.lt_succ_of_le (Int.ofNat_le.mp p4))
 ·exact or_int ⟨aw _ _,.int _ _⟩
 ·exact xor_int ⟨aw _ _,.int _ _⟩
 ·exact and_int ⟨aw _ _,.int _ _⟩
 ·exact floordiv_int (Int.ne_of_gt hp.1) ⟨aw _ _,.int _ _⟩ (.inl (Bl hp.1 hp.2))
theorem Bn{op:Operator}{P:PyData->PyData->PyData->Prop}(hp:oy op da db)(ki:∀a b,ow op a b->P (.int a) (.int b) (.int (qB op a b)))
 (ks:∀a b,op=.Add->a.length+b.length<=16777216->P (.str a) (.str b) (.str (a++b))) (kl:∀a b,op=.Add->a.length+b.length<=16777216->P (.list a) (.list b) (.list (a++b))):P da db (lx op da db):=by
 cases da<;>first | exact hp.elim | skip
 ·cases db<;>first | exact hp.elim | exact ki _ _ hp
 ·cases db<;>first | exact hp.elim | exact ks _ _ hp.1 hp.2
 ·cases db<;>first | exact hp.elim | exact kl _ _ hp.1 hp.2
theorem vh{op:Operator}(hO:∀b,O b->b<s.heap.objs.size)(ra:Rep O s.heap va da)(rb:Rep O s.heap vb db)(hp:oy op da db) :
 wpAny (model prog w) A (binaryOp op va vb) (PV O s (lx op da db)) E s:=by
 revert ra rb
 refine Bn (P:=fun da db d=>Rep O s.heap va da->Rep O s.heap vb db->wpAny (model prog w) A (binaryOp op va vb) (PV O s d) E s) hp (fun a b h ra rb=>?_) (fun a b e h ra rb=>?_) fun a b e h ra rb=>?_
 ·refine x11 (vg ra) fun t e1=>?_;subst e1
  refine x11 (vg rb) fun u e1=>?_;subst e1
  exact Bm h
 ·cases ra;cases rb;cases e
  exact add_str (fun t' tk=>⟨aw _ _,.str _ _⟩) h
 ·cases e
  cases ra with
  | list na ha la =>
   cases rb with
   | list nb hb lb =>
    have e1:=la.length
    have e2:=lb.length
    rw[cj]at e1 e2
    refine P.add_list ha hb ⟨bt _,.list (n:=0) (fun q=>aI _ (hO _ q)) (IsL.new _ _) ?_⟩ (by rw[e1,e2];exact h)
    simpa using(la.append lb).pushO _
end
noncomputable def b9(d:PyData):Prop:=d.canLay0=true/\d.depth<=32
noncomputable def qC(x:PyData):PyData->Bool
 | .list ds=>ds.any fun y=>PyData.eqv y x
 | .tuple ds=>ds.any fun y=>PyData.eqv y x
 | .str y=>match x with | .str z=>!(Builtin.Str.occurrences y z 0 y.length 1).isEmpty | _=>false
 | _=>false
noncomputable def qD(x:PyData):PyData->Prop
 | .list ds=>b9 x/\PyData.canLayAll0 ds=true
 | .tuple ds=>b9 x/\PyData.canLayAll0 ds=true
 | .str _=>match x with | .str _=>True | _=>False
 | _=>False
noncomputable def ly:CmpOp->PyData->PyData->Bool
 | .Eq,a,b=>PyData.eqv a b
 | .NotEq,a,b=>!PyData.eqv a b
 | .Lt,.int a,.int b=>decide (a<b)
 | .LtE,.int a,.int b=>decide (a<=b)
 | .Gt,.int a,.int b=>decide (a > b)
 | .GtE,.int a,.int b=>decide (a ≥ b)
 | .Is,.bool a,.bool b=>a==b
 | .IsNot,.bool a,.bool b=>!(a==b)
 | .In,a,b=>qC a b
 | .NotIn,a,b=>!qC a b
 | _,_,_=>false
noncomputable def oz:CmpOp->PyData->PyData->Prop
 | .Eq,a,b=>b9 a/\b9 b
 | .NotEq,a,b=>b9 a/\b9 b
 | .Lt,.int _,.int _=>True
 | .Is,.bool _,.bool _=>True
 | .IsNot,.bool _,.bool _=>True
 | .In,a,b=>qD a b
 | .NotIn,a,b=>qD a b
 | _,_,_=>False
noncomputable def bg(O:Addr->Prop)(h:Heap)(v:Value)(d:PyData):Prop :=
 Rep O h v d\/(∃a vs n ds,v=.ref a/\d=.list ds/\IsL h a vs n/\RepL O h vs.toList ds)
section
variable{prog:Program}{w:World}{A:Around}{E:Value->Shared->Prop}{s:Shared}{O:Addr->Prop}{va vb:Value}{da db:PyData}
theorem bg.of{h:Heap}{v:Value}{d:PyData}(r:Rep O h v d):bg O h v d:=.inl r
theorem bg.listIs{h:Heap}{v:Value}{ds:List PyData}(r:bg O h v (.list ds)):∃a vs n,v=.ref a/\IsL h a vs n/\RepL O h vs.toList ds:=by
 rcases r with r | ⟨a,vs,n,ds',e,e',h1,h2⟩
 ·cases r with | list n h l=>exact⟨_,_,_,rfl,h,l⟩
 ·cases e';exact⟨a,vs,n,e,h1,h2⟩
theorem bg.keeps{s s':Shared}(k:Keeps s s'){v:Value}{d:PyData}(r:bg O s.heap v d):bg O s'.heap v d:=by
 rcases r with r | ⟨a,vs,n,ds',e,e',h1,h2⟩
 ·exact .inl (r.keeps k)
 ·exact .inr ⟨a,vs,n,ds',e,e',al k _ _ h1,h2.keeps k⟩
theorem bg.reads{h:Heap}{v:Value}{d:PyData}(r:bg O h v d)(hd:j0 d=true):∃as,Reads h v d as:=by
 rcases r with r | ⟨a,vs,n,ds',e,e',h1,h2⟩
 ·exact r.reads hd
 ·subst e e'
  replace hd:j1 _=true:=hd
  refine x11 (h2.reads hd) fun as q=>?_
  exact⟨_,.list h1 rfl rfl q⟩
theorem bg.intIs{h:Heap}{v:Value}{i:Int}(r:bg O h v (.int i)):∃t,v=.int i t:=by
 rcases r with r | ⟨a,vs,n,ds',e,e',h1,h2⟩
 ·cases r;exact⟨_,rfl⟩
 ·cases e'
theorem bg.strIs{h:Heap}{v:Value}{i:Str}(r:bg O h v (.str i)):∃t,v=.str i t:=by
 rcases r with r | ⟨a,vs,n,ds',e,e',h1,h2⟩
 ·cases r;exact⟨_,rfl⟩
 ·cases e'
theorem bg.boolIs{h:Heap}{v:Value}{i:Bool}(r:bg O h v (.bool i)):v=.bool i:=by
 rcases r with r | ⟨a,vs,n,ds',e,e',h1,h2⟩
 ·cases r;rfl
 ·cases e'
theorem bg.tupIs{h:Heap}{v:Value}{ds:List PyData}(r:bg O h v (.tuple ds)):∃a vs n,v=.ref a/\IsT h a vs n/\RepL O h vs.toList ds:=by
 rcases r with r | ⟨a,vs,n,ds',e,e',h1,h2⟩
 ·cases r with | tuple n h l=>exact⟨_,_,_,rfl,h,l⟩
 ·cases e'
theorem vi(a b:Bool):(Value.bool a==Value.bool b)=(a==b):=by cases a<;>cases b<;>rfl
theorem lz{x:PyData}{n:Nat}(h:b9 x)(hu:A.units+100<cLine):A.units+1+min n x.depth<cLine:=by
 have:=h.2
 have h2:min n x.depth<=x.depth:=Nat.min_le_right _ _
 lia
theorem qE{op:CmpOp}(hu:A.units+100<cLine)(ra:bg O s.heap va da)(rb:bg O s.heap vb db)(hp:oz op da db) :
 wpAny (model prog w) A (compareOp op va vb) (fun v s'=>v=.bool (ly op da db)/\Keeps s s') E s:=by
 have eqs:∀ {a b:PyData},b9 a->b9 b->bg O s.heap va a->bg O s.heap vb b->∃as bs,Reads s.heap va a as/\Reads s.heap vb b bs/\shaped a=true/\shaped b=true:=by
  intro a b ha hb r1 r2
  refine x11 (r1.reads (iE _ ha.1)) fun as q1=>?_
  refine x11 (r2.reads (iE _ hb.1)) fun bs q2=>?_
  refine⟨as,bs,q1,q2,?_,?_⟩
  ·have:=ha.2
   simp only[shaped,ha.1,Bool.true_and,decide_eq_true_eq];lia
  ·have:=hb.2
   simp only[shaped,hb.1,Bool.true_and,decide_eq_true_eq];lia
 cases op
 case Eq =>
  refine x24 (eqs hp.1 hp.2 ra rb) fun as bs q1 q2 h1 h2=>?_
  exact eq_dataH q1 q2 h1 h2 (by lia) ⟨rfl,br _⟩
 case NotEq =>
  refine x24 (eqs hp.1 hp.2 ra rb) fun as bs q1 q2 h1 h2=>?_
  exact ne_dataH q1 q2 h1 h2 (by lia) ⟨rfl,br _⟩
 case In =>
  cases db<;>first | exact hp.elim | skip
  ·cases da<;>first | exact hp.elim | skip
   refine x11 ra.strIs fun t e1=>?_;subst e1
   refine x11 rb.strIs fun u e1=>?_;subst e1
   exact P.in_str ⟨rfl,br _⟩
  ·refine x11 (ra.reads (iE _ hp.1.1)) fun as q1=>?_
   refine x11 (rb.reads (iF _ hp.2)) fun bs q2=>?_
   exact in_list_reads q2 q1 hp.2 hp.1.1 (lz hp.1 hu) ⟨rfl,br _⟩
  ·refine x11 (ra.reads (iE _ hp.1.1)) fun as q1=>?_
   refine x11 (rb.reads (iF _ hp.2)) fun bs q2=>?_
   exact in_tuple_reads q2 q1 hp.2 hp.1.1 (lz hp.1 hu) ⟨rfl,br _⟩
 case NotIn =>
  cases db<;>first | exact hp.elim | skip
  ·cases da<;>first | exact hp.elim | skip
   refine x11 ra.strIs fun t e1=>?_;subst e1
   refine x11 rb.strIs fun u e1=>?_;subst e1
   exact P.notIn_str ⟨rfl,br _⟩
  ·refine x11 (ra.reads (iE _ hp.1.1)) fun as q1=>?_
   refine x11 (rb.reads (iF _ hp.2)) fun bs q2=>?_
   exact notIn_list_reads q2 q1 hp.2 hp.1.1 (lz hp.1 hu) ⟨rfl,br _⟩
  ·refine x11 (ra.reads (iE _ hp.1.1)) fun as q1=>?_
   refine x11 (rb.reads (iF _ hp.2)) fun bs q2=>?_
   exact notIn_tuple_reads q2 q1 hp.2 hp.1.1 (lz hp.1 hu) ⟨rfl,br _⟩
 case Lt =>
  obtain⟨i,j,rfl,rfl⟩:∃i j,da=.int i/\db=.int j:=by
   cases da<;>first | exact hp.elim | skip
   cases db<;>first | exact hp.elim | exact⟨_,_,rfl,rfl⟩
  refine x11 ra.intIs fun t e1=>?_;subst e1
  refine x11 rb.intIs fun u e1=>?_;subst e1
  exact lt_int ⟨rfl,br _⟩
 case LtE=>exact hp.elim
 case Gt=>exact hp.elim
 case GtE=>exact hp.elim
 case Is =>
  obtain⟨i,j,rfl,rfl⟩:∃i j,da=.bool i/\db=.bool j:=by
   cases da<;>first | exact hp.elim | skip
   cases db<;>first | exact hp.elim | exact⟨_,_,rfl,rfl⟩
  have e1:=ra.boolIs
  have e2:=rb.boolIs
  subst e1 e2
  exact wpAny_is_plain rfl ⟨by rw[vi];rfl,br _⟩
 case IsNot =>
  obtain⟨i,j,rfl,rfl⟩:∃i j,da=.bool i/\db=.bool j:=by
   cases da<;>first | exact hp.elim | skip
   cases db<;>first | exact hp.elim | exact⟨_,_,rfl,rfl⟩
  have e1:=ra.boolIs
  have e2:=rb.boolIs
  subst e1 e2
  exact wpAny_isNot_plain rfl ⟨by rw[vi];rfl,br _⟩
end
noncomputable def iG:PyData->Nat
 | .list ds=>ds.length
 | .tuple ds=>ds.length
 | .str x=>x.length
 | .dict kvs=>kvs.length
 | _=>0
noncomputable def bO(i:Int)(n:Nat):Nat:=if i<0 then(i+n).toNat else i.toNat
noncomputable def eV(i:Int)(n:Nat):Prop:=-1000000000<=i/\i<=1000000000/\-(n:Int)<=i/\i<n
theorem vj{i:Int}{n:Nat}(h3 : -(n:Int)<=i)(h0:i<0):0<=i+n/\i+n<n :=
 ⟨Int.add_left_neg (n:Int)▸Int.add_le_add_right h3 n,Int.lt_of_lt_of_le (Int.add_lt_add_right h0 n) (Int.le_of_eq (Int.zero_add _))⟩
theorem qF{i:Int}{n:Nat}(h:eV i n):bO i n<n:=by
 unfold bO
 by_cases h0:i<0
 ·rw[if_pos h0];exact(vj h.2.2.1 h0).elim fun a b=>(Int.toNat_lt a).mpr b
 ·rw[if_neg h0];exact(Int.toNat_lt (Int.not_lt.mp h0)).mpr h.2.2.2
theorem lA{i:Int}{n:Nat}(h:eV i n) : -(2 ^ 63)<=i/\i<2 ^ 63:=⟨Int.le_trans (by decide) h.1,Int.lt_of_le_of_lt h.2.1 (by decide)⟩
theorem vk{i:Int}{n:Nat}(h:eV i n):seqIndex? i n=some (bO i n):=by
 unfold seqIndex? bO
 by_cases h0:i<0
 ·simp only[h0,if_true]
  rw[if_pos (by simp only[cF,decide_eq_true_eq];exact vj h.2.2.1 h0)]
 ·simp only[h0,if_false]
  rw[if_pos (by simp only[cF,decide_eq_true_eq];exact⟨Int.not_lt.mp h0,h.2.2.2⟩)]
noncomputable def lB(x y:PyData):PyData:=match y with
 | .int i=>(match x with
  | .list ds=>ds.getD (bO i ds.length) .none
  | .tuple ds=>ds.getD (bO i ds.length) .none
  | .str x=>.str ⟨#[x.cps.getD (bO i x.length) 0]⟩
  | _=>.none)
 | _=>.none
noncomputable def oA(x y:PyData):Prop:=match y with
 | .int i=>(match x with
  | .list ds=>eV i ds.length
  | .tuple ds=>eV i ds.length
  | .str x=>eV i x.length
  | _=>False)
 | _=>False
theorem vl{da db:PyData}{P:PyData->PyData->PyData->Prop}(hp:oA da db)(k1:∀x i,eV i x.length->P (.str x) (.int i) (.str ⟨#[x.cps.getD (bO i x.length) 0]⟩))
 (k2:∀ds i,eV i ds.length->P (.list ds) (.int i) (ds.getD (bO i ds.length) .none)) (k3:∀ds i,eV i ds.length->P (.tuple ds) (.int i) (ds.getD (bO i ds.length) .none)):P da db (lB da db):=by
 cases db<;>first | exact hp.elim | skip
 cases da<;>first | exact hp.elim | exact k1 _ _ hp | exact k2 _ _ hp | exact k3 _ _ hp
noncomputable def part:PyData->Option Int
 | .int i=>some i
 | _=>none
noncomputable def fB{α:Type}(xs:List α)(lo hi:PyData):List α :=
 (xs.drop ((part lo).elim 0 (clipAt xs.length))).take ((part hi).elim xs.length (clipAt xs.length) - (part lo).elim 0 (clipAt xs.length))
noncomputable def jr(d lo hi:PyData):PyData:=match d with
 | .list ds=>.list (fB ds lo hi)
 | .str x=>.str ⟨(fB x.cps.toList lo hi).toArray⟩
 | _=>.none
noncomputable def lC:PyData->Bool
 | .int _=>true
 | .none=>true
 | _=>false
noncomputable def qG(d lo hi:PyData):Prop:=match d with
 | .list ds=>ds.length<=16777216/\lC lo=true/\lC hi=true
 | .str x=>x.length<=16777216/\lC lo=true/\lC hi=true
 | _=>False
section
variable{prog:Program}{w:World}{A:Around}{E:Value->Shared->Prop}{s:Shared}{O:Addr->Prop}{va vb vc:Value}{da db dc:PyData}
theorem Bo{ds:List PyData}{k:Nat}{d:PyData}(h:ds[k]? = some d):ds.getD k .none=d:=by
 rw[aq,h];rfl
theorem Bp(ra:bg O s.heap va da)(rb:Rep O s.heap vb db)(hp:oA da db) :
 wpAny (model prog w) A (getItem va vb) (fun v s'=>Keeps s s'/\Rep O s'.heap v (lB da db)) E s:=by
 revert ra rb
 refine vl (P:=fun da db d=>bg O s.heap va da->Rep O s.heap vb db->wpAny (model prog w) A (getItem va vb) (fun v s'=>Keeps s s'/\Rep O s'.heap v d) E s) hp (fun x i hp ra rb=>?_) (fun ds i hp ra rb=>?_) fun ds i hp ra rb=>?_
 ·cases rb with | int i t=>?_
  refine x11 ra.strIs fun u e1=>?_;subst e1
  have h1:=hp.1
  have h2:=hp.2.1
  have hlt:=qF hp
  have hlt':bO i x.length<x.cps.size:=hlt
  refine P.getItem_str (c:=x.cps.getD (bO i x.length) 0) (by simp;exact lA hp) ?_ ?_
  ·rw[vk hp]
   show x.cps[bO i x.length]? = _
   rw[Array.getD_eq_getD_getElem?,Array.getElem?_eq_getElem hlt'];rfl
  ·exact⟨aw _ _,.str _ _⟩
 ·cases rb with | int i t=>?_
  refine x33 ra.listIs fun a vs n e3 h l=>?_;subst e3
  have e:=l.length
  rw[cj]at e
  refine x12 (l.getD (i:=bO i ds.length) (d:=ds.getD (bO i ds.length) .none) (by rw[aq,bk (qF hp)];rfl)) fun v hv r=>?_
  have hv':vs[bO i ds.length]? = some v:=by simpa using hv
  refine eq hp fun h1 h2 h3 h4=>?_
  by_cases h0:i<0
  ·refine wpAny_getItem_list_neg h.isList h0 (by rw[e];exact h3) (lA hp).1 (x:=v) ?_ ⟨br _,r⟩
   rw[e];unfold bO at hv';rwa [if_pos h0]at hv'
  ·refine wpAny_getItem_list h.isList (Int.not_lt.mp h0) (lA hp).2 (x:=v) ?_ ⟨br _,r⟩
   unfold bO at hv';rwa [if_neg h0]at hv'
 ·cases rb with | int i t=>?_
  refine x33 ra.tupIs fun a vs n e3 h l=>?_;subst e3
  have e:=l.length
  rw[cj]at e
  refine x12 (l.getD (i:=bO i ds.length) (d:=ds.getD (bO i ds.length) .none) (by rw[aq,bk (qF hp)];rfl)) fun v hv r=>?_
  have hv':vs[bO i ds.length]? = some v:=by simpa using hv
  have h1:=hp.1
  have h2:=hp.2.1
  exact P.getItem_tuple h (lA hp).1 (lA hp).2 (by rw[e];exact vk hp) hv' ⟨br _,r⟩
theorem RepL.cut{h:Heap}{vs:List Value}{ds:List PyData}(l:RepL O h vs ds)(lo hi:PyData):RepL O h (fB vs lo hi) (fB ds lo hi):=by
 unfold fB
 rw[l.length]
 exact(l.drop _).take _
theorem oB{v:Value}{d:PyData}(r:Rep O s.heap v d)(h:lC d=true):IsPart v (part d)/\∃p:Option (Int × Tok),v=partValue p/\part d=p.map (·.1):=by
 cases d<;>first | exact absurd h Kr | skip
 ·cases r;exact⟨.none,none,rfl,rfl⟩
 ·cases r with | int i t=>exact⟨.int _ _,some (_,t),rfl,rfl⟩
theorem qH(n k:Nat):clipAt n (k:Int)=min k n :=
 congrArg Int.toNat ((congrArg (fun z=>max (0:Int) (min z (n:Int))) (if_neg (Int.not_lt.mpr (ll k)))).trans ((congrArg (max (0:Int)) (Lean.Omega.Int.ofNat_min k n).symm).trans (Int.max_eq_right (ll _))))
theorem vm(n:Nat)(i:Int):clipAt n i<=n :=
 Int.toNat_le.mpr (Int.max_le.mpr ⟨ll n,Int.min_le_right ..⟩)
theorem Bq(lo hi:Option Int)(n:Nat):Builtin.Str.strSliceIndices lo hi 1 n=(ao (hi.elim n (clipAt n) - lo.elim 0 (clipAt n))).map (lo.elim 0 (clipAt n) + ·):=by
 rw[<- sliceRange_one]
 cases lo<;>cases hi<;>simp[Builtin.Str.strSliceIndices,clipAt_cast]
theorem Br(x:Str)(lo hi:Option Int) :
 Txt.slice x lo hi=⟨((x.cps.toList.drop (lo.elim 0 (clipAt x.length))).take (hi.elim x.length (clipAt x.length) - lo.elim 0 (clipAt x.length))).toArray⟩:=by
 have ha:lo.elim 0 (clipAt x.length)<=x.length:=by cases lo<;>simp[vm]
 have hb:hi.elim x.length (clipAt x.length)<=x.length:=by cases hi<;>simp[vm]
 unfold Txt.slice
 rw[Bq,pick_run]
 split
 ·rename_i h
  simp only[af,jh,beq_self_eq_true,Bool.true_and,beq_iff_eq]at h
  by_cases hn:x.length=0
  ·obtain⟨c⟩:=x
   have:c.size=0:=hn
   have:c=#[]:=Array.eq_empty_of_size_eq_zero this
   subst this;simp
  ·have h2:hi.elim x.length (clipAt x.length)=x.length:=m8 hb (ae (cI h.symm) (Nat.sub_le ..))
   have h1:lo.elim 0 (clipAt x.length)=0:=Nat.eq_zero_of_not_pos fun q=>aI _ (Nat.lt_of_lt_of_le (Nat.sub_lt (Nat.pos_of_ne_zero hn) q) (cI (h.symm.trans (by rw[h2]))))
   rw[h1,h2]
   obtain⟨c⟩:=x
   show _=Str.mk _
   congr 1
   have:c.toList.length=(Str.mk c).length:=by simp[Str.length]
   rw[List.drop_zero,Nat.sub_zero,<- this,jl]
 ·rfl
set_option tactic.hygienic true in
theorem vn{sl:Addr}(hO:∀b,O b->b<s.heap.objs.size)(ra:bg O s.heap va da)(rb:Rep O s.heap vb db)(rc:Rep O s.heap vc dc)
 (hs:s.heap.get? sl=some { cls:=.type "slice",data:=.fields #[vb,vc,.none] }) (hp:qG da db dc) :
 wpAny (model prog w) A (getItem va (.ref sl)) (fun v s'=>Keeps s s'/\Rep O s'.heap v (jr da db dc)) E s:=by
 cases da<;>first | exact False.elim hp | skip
 ·rename_i x
  refine x11 ra.strIs fun u e1=>?_;subst e1
  obtain⟨_,p,rfl,e1⟩:=oB rb hp.2.1
  obtain⟨_,q,rfl,e2⟩:=oB rc hp.2.2
  have hsl:s.heap.IsSlice sl p q none:=⟨_,hs,rfl,rfl⟩
  refine wpAny_getItem_str_slice hsl rfl ?_
  refine post_val_or_str ⟨ae (Txt.slice_le x _ _) hp.1,fun t' k=>⟨aw _ _,?_⟩⟩
  have:jr (.str x) db dc=.str (Txt.slice x (p.map (·.1)) (q.map (·.1))):=by
   rw[Br,<- e1,<- e2]
   have e:x.cps.toList.length=x.length:=by simp[Str.length]
   show PyData.str ⟨(fB x.cps.toList db dc).toArray⟩=_
   unfold fB;rw[e]
  rw[this];exact .str _ _
 ·rename_i ds
  refine x33 ra.listIs fun a vs n e3 h l=>?_;subst e3
  have e:=l.length
  rw[cj]at e
  refine wpAny_getItem_list_slice h.isList (lo:=part db) (hi:=part dc) (st:=none) ⟨_,hs,rfl,rfl⟩ (oB rb hp.2.1).1 (oB rc hp.2.2).1 .none (by simp) ?_ (by rw[e];exact hp.1)
  refine⟨bt _,.list (n:=0) (fun q=>aI _ (hO _ q)) (IsL.new _ _) ?_⟩
  rw[slicePick_plain]
  have:=(l.cut db dc).pushO (s:=s) { cls:=.type "list",data:=.seq (slicePick vs (part db) (part dc) none) }
  simpa[fB,slicePick_plain]using this
end
noncomputable def aX(A:Around)(h:Heap):Prop:=A.handled=none\/∃e o vs,A.handled=some (.ref e)/\h.get? e=some o/\o.data=.fields vs/\vs[2]? = some .none
theorem aX.keeps{A:Around}{s s':Shared}(x:aX A s.heap)(k:Keeps s s'):aX A s'.heap:=by
 rcases x with x | ⟨e,o,vs,h1,h2,r⟩
 ·exact .inl x
 ·exact .inr ⟨e,o,vs,h1,al k _ _ h2,r⟩
theorem aX.mono{A:Around}{h h':Heap}(x:aX A h)(k:∀b o,h.get? b=some o->h'.get? b=some o):aX A h':=by
 rcases x with x | ⟨e,o,vs,h1,h2,r⟩
 ·exact .inl x
 ·exact .inr ⟨e,o,vs,h1,k _ _ h2,r⟩
theorem Bs:entryFor table "proto.unchain" = some Builtin.«proto.unchain»:=entryFor_of_fast (by kernel_rfl)
section
variable{α:Type}{prog:Program}{w:World}{A:Around}{E:Value->Shared->Prop}{s:Shared}
theorem Bt{id:String}{args:Args}{b:Builtin}{R:Result->Shared->Prop}(hb:entryFor table id=some b)
 (h:wpAny (model prog w) (A.under (.builtin id args)) (b args)
  (fun fin s'=>match fin with | .done f=>R (.ok f) s' | .again c'=>c'.quiet=true/\codeAny (model prog w) A c' R s') (fun e s'=>R (.error e) s') s) :
 codeAny (model prog w) A (.builtin id args) R s:=by
 refine codeAny_of_tree ?_
 show wpAny _ _ (match entryFor table id with | some b=>b args | none=>unsupported ((withoutEnding? id "#data").getD id)) _ _ s
 rw[hb];exact h
theorem Bu{e e₀:Addr}{o:Obj}{vs:Array Value}{Q:Value->Shared->Prop}(h1:s.heap.get? e₀=some o)(h2:o.data=.fields vs)(h3:vs[2]? = some .none)(h:Q .none s) :
 wpAny (model prog w) A (runValue (.builtin "proto.unchain" ⟨[.ref e,.ref e₀,.ref e₀,.bool false],[]⟩)) Q E s:=by
 refine wpAny_runValue (Bt Bs ?_)
 unfold Builtin.«proto.unchain»
 dsimp only
 refine wpAny_bind (wpAny_field h1 h2 h3 ?_)
 rw[if_pos (show(Value.none==Value.none)=true from rfl)]
 exact wpAny_pure h
theorem vo{e:Addr}{oe:Obj}{ve:Array Value}{Q:α->Shared->Prop}(hh:aX A s.heap)(he:s.heap.get? e=some oe)(hd:oe.data=.fields ve)(hsz:2<ve.size)
 (hne:∀e₀,A.handled=some (.ref e₀)->e₀≠e)
 (h:∀h' o' ve',Heap.SameBut e s.heap h'->h'.get? e=some o'->o'.cls=oe.cls->o'.data=.fields ve'->ve'.size=ve.size->(∀i,i≠2->ve'[i]? = ve[i]?)->E (.ref e) { s with heap:=h' }) :
 wpAny (model prog w) A (raiseNew (.ref e):Sem α) Q E s:=by
 unfold raiseNew
 refine wpAny_bind (wpAny_handled ?_)
 rcases hh with hh | ⟨e₀,o,vs,hh,h1,h2,h3⟩
 ·rw[hh]
  refine wpAny_bind (wpAny_pure (wpAny_throw ?_))
  exact h s.heap oe ve (.refl ..) he rfl hd rfl fun U U=>rfl
 ·rw[hh]
  have hne':(Value.ref e₀ != Value.ref e)=true:=by
   have:=hne e₀ hh
   rw[bne_iff_ne];intro q;cases q;exact this rfl
  dsimp only
  rw[if_pos hne']
  refine wpAny_bind (wpAny_holding (Bu h1 h2 h3 (wpAny_bind ?_)))
  unfold updateField
  refine wpAny_bind (wpAny_load he ?_)
  rw[hd]
  dsimp only
  rw[if_pos hsz]
  refine wpAny_update he (wpAny_throw ?_)
  refine h _ _ _ (Heap.SameBut.update ..) (Heap.get?_update_self _ he (Obj.isFreed_of_fields (Obj.data_mapFields hd _))) (Obj.cls_mapFields ..) (Obj.data_mapFields hd _) (by simp) fun i hi=>?_
  rw[Array.getElem?_setIfInBounds]
  rw[if_neg (Ne.symm hi)]
theorem j2{A':Around}{Q0:α->Shared->Prop}{R:Option Value->Shared->Prop}(hh:aX A' s.heap)(h:∀h',(∀b o,s.heap.get? b=some o->h'.get? b=some o)->R none { s with heap:=h' }) :
 wpAny (model prog w) A' (newExc (.type "StopIteration") [] >>= fun e=>(raiseNew e:Sem α)) Q0
  (fun e s'=>wpAny (model prog w) A (do if <- isInstance e (.type "StopIteration")then pure (none:Option Value)else throw e) R E s') s:=by
 refine wpAny_bind ?_
 simp only[newExc,newTuple]
 refine wpAny_bind (wpAny_newObj_type ?_ (by size_fits))
 refine wpAny_bind (m:=firstArgMember _ _) (wpAny_of_eq (a:=Value.none) (by first | rfl | (simp only[firstArgMember];rfl)) ?_)
 refine wpAny_newObj_type ?_ (by size_fits)
 refine vo (hh.mono fun b o e=>Heap.get?_push_of_some _ (Heap.get?_push_of_some _ e)) (Heap.get?_push_size _ rfl) rfl (by simp;lia) ?_ ?_
 ·intro e₀ he q
  rcases hh with hh | ⟨e1,o,vs,hh,h1,_⟩
  ·rw[hh]at he;cases he
  ·rw[hh]at he;cases he
   rw[Heap.size_push]at q
   exact cK (gG (Heap.lt_size h1)) q
 ·intro h' o' ve' hs ho hc hd hz _
  refine wpAny_bind (wpAny_isInstance (T:= "StopIteration") (b:=true) ⟨_,ho,hc⟩ isSubtype_stop ?_)
  refine wpAny_pure (h h' fun b o e=>?_)
  refine(hs.2 b ?_).trans (Heap.get?_push_of_some _ (Heap.get?_push_of_some _ e))
  rw[Heap.size_push]
  exact cK (gG (Heap.lt_size e))
theorem aX.upd{a:Addr}{f:Obj->Obj}{h:Heap}(x:aX A h)(hne:∀e,A.handled=some (.ref e)->e≠a):aX A (h.update a f):=by
 rcases x with x | ⟨e,o,vs,h1,h2,r⟩
 ·exact .inl x
 ·exact .inr ⟨e,o,vs,h1,(Heap.get?_update_other h f (Ne.symm (hne e h1))).trans h2,r⟩
noncomputable def hfp(A:Around):List Addr:=match A.handled with
 | some (.ref e)=>[e]
 | _=>[]
theorem lD{a:Addr}(h:a∉hfp A):∀e,A.handled=some (.ref e)->e≠a:=by
 intro e he q
 apply h
 unfold hfp
 rw[he]
 simp[q]
theorem aX.frame{h h':Heap}(x:aX A h)(k:∀b∈hfp A,∀o,h.get? b=some o->h'.get? b=some o):aX A h':=by
 rcases x with x | ⟨e,o,vs,h1,h2,r⟩
 ·exact .inl x
 ·exact .inr ⟨e,o,vs,h1,k e (by unfold hfp;rw[h1];simp) o h2,r⟩
theorem aX.at{a:Addr}{h h':Heap}(x:aX A h)(hne:a∉hfp A)(k:Heap.ExtBut a h h'):aX A h' :=
 x.frame fun b hb o e=>k b o (fun q=>hne (q▸hb)) e
theorem Bv{it l:Addr}{i:Nat}{items:Array Value}{Q:Option Value->Shared->Prop}(hh:aX A s.heap)(hne:it∉hfp A)
 (hit:s.heap.IsListIter it l i) (hl:s.heap.IsList l items) (hx:items[i]? = none)
 (hQ:∀h',Heap.ExtBut it s.heap h'->Q none { s with heap:=h' }):wpAny (model prog w) A (pyNext (.ref it)) Q E s:=by
 refine x13 (id hit) fun o ho hc hd=>?_
 obtain⟨ol,hol,_,nl,hdl⟩:=hl
 unfold pyNext
 refine wpAny_bind (wpAny_attempt (wpAny_callSpecial?_slot (name:=ofString "__next__") hit.typeIs slot_listiter_next
  (wpAny_call_entry slot_listiter_next hit.typeIs entry_listiter_next ?_ (args_listiter_next _))))
 show wpAny _ _ (field (.ref it) 0 >>= _) _ _ s
 refine wpAny_bind (wpAny_field ho hd (x:=.ref l) rfl ?_)
 show wpAny _ _ (if(Value.ref l==Value.none)=true then _ else _) _ _ s
 rw[if_neg (show ¬((Value.ref l==Value.none)=true)from Kr)]
 show wpAny _ _ (field (.ref it) 1 >>= _) _ _ s
 refine wpAny_bind (wpAny_field ho hd (x:=.int i 0) rfl ?_)
 show wpAny _ _ (seqItems? (.ref l) >>= _) _ _ s
 refine wpAny_bind (wpAny_seqItems hol hdl ?_)
 simp only[gH,hx]
 refine wpAny_bind (wpAny_rule (wpAny_bind (wpAny_setField ho hd (by simp) ?_)))
 exact j2 (A':=A.in1) (hh.upd (lD hne)) fun h' hk=>hQ h' fun b o hb e=>hk b o ((Heap.SameBut.update ..).extBut b o hb e)
theorem Bw{it l:Addr}{i:Nat}{items:Array Value}{Q:Option Value->Shared->Prop}(hh:aX A s.heap)(hne:it∉hfp A)
 (hit:s.heap.IsTupleIter it l i) (hl:s.heap.IsTuple l items) (hx:items[i]? = none)
 (hQ:∀h',Heap.ExtBut it s.heap h'->Q none { s with heap:=h' }):wpAny (model prog w) A (pyNext (.ref it)) Q E s:=by
 refine x13 (id hit) fun o ho hc hd=>?_
 obtain⟨ol,hol,_,nl,hdl⟩:=hl
 unfold pyNext
 refine wpAny_bind (wpAny_attempt (wpAny_callSpecial?_slot (name:=ofString "__next__") hit.typeIs F.slot_tuple_iterator_next
  (wpAny_call_entry F.slot_tuple_iterator_next hit.typeIs F.entry_tuple_iterator_next ?_ (F.args_tuple_iterator_next_1 _))))
 show wpAny _ _ (field (.ref it) 0 >>= _) _ _ s
 refine wpAny_bind (wpAny_field ho hd (x:=.ref l) rfl ?_)
 show wpAny _ _ (if(Value.ref l==Value.none)=true then _ else _) _ _ s
 rw[if_neg (show ¬((Value.ref l==Value.none)=true)from Kr)]
 show wpAny _ _ (field (.ref it) 1 >>= _) _ _ s
 refine wpAny_bind (wpAny_field ho hd (x:=.int i 0) rfl ?_)
 show wpAny _ _ (seqItems? (.ref l) >>= _) _ _ s
 refine wpAny_bind (wpAny_seqItems hol hdl ?_)
 simp only[gH,hx]
 refine wpAny_bind (wpAny_rule (wpAny_bind (wpAny_setField ho hd (by simp) ?_)))
 exact j2 (A':=A.in1) (hh.upd (lD hne)) fun h' hk=>hQ h' fun b o hb e=>hk b o ((Heap.SameBut.update ..).extBut b o hb e)
theorem Bx{it:Addr}{x left step:Int}{Q:Option Value->Shared->Prop}(hh:aX A s.heap)(hit:IsRangeIter s.heap it x left step)(hleft:left<=0)
 (hQ:∀h',Heap.ExtBut it s.heap h'->Q none { s with heap:=h' }):wpAny (model prog w) A (pyNext (.ref it)) Q E s:=by
 have hT:s.TypeIs (.ref it) "range_iterator":=⟨_,hit,rfl⟩
 unfold pyNext
 refine wpAny_bind (wpAny_attempt (wpAny_callSpecial?_slot (name:=ofString "__next__") hT F.slot_range_iterator_next
  (wpAny_call_entry F.slot_range_iterator_next hT F.entry_range_iterator_next ?_ (F.args_range_iterator_next_1 _))))
 show wpAny _ _ (field (.ref it) 0 >>= _) _ _ s
 refine wpAny_bind (wpAny_field hit rfl (x:=rawInt x) rfl ?_)
 show wpAny _ _ (field (.ref it) 1 >>= _) _ _ s
 refine wpAny_bind (wpAny_field hit rfl (x:=rawInt left) rfl ?_)
 show wpAny _ _ (field (.ref it) 2 >>= _) _ _ s
 refine wpAny_bind (wpAny_field hit rfl (x:=rawInt step) rfl ?_)
 show wpAny _ _ (if left<=0 then _ else _) _ _ s
 rw[if_pos hleft]
 refine wpAny_bind (wpAny_rule ?_)
 refine wpAny_bind ?_
 exact j2 (A':=A.in1) hh fun h' hk=>hQ h' fun b o U e=>hk b o e
theorem By{it:Addr}{x:Str}{t:Tok}{i:Nat}{Q:Option Value->Shared->Prop}(hh:aX A s.heap)(hne:it∉hfp A)
 (hit:s.heap.IsStrIter it "str_ascii_iterator" x t i) (hx:x.cps[i]? = none)
 (hQ:∀h',Heap.ExtBut it s.heap h'->Q none { s with heap:=h' }):wpAny (model prog w) A (pyNext (.ref it)) Q E s:=by
 refine x13 (id hit) fun o ho hc hd=>?_
 unfold pyNext
 refine wpAny_bind (wpAny_attempt (wpAny_callSpecial?_slot (name:=ofString "__next__") hit.typeIs F.slot_str_ascii_iterator_next
  (wpAny_call_entry F.slot_str_ascii_iterator_next hit.typeIs F.entry_str_ascii_iterator_next ?_ (F.args_str_ascii_iterator_next_1 _))))
 show wpAny _ _ (field (.ref it) 0 >>= _) _ _ s
 refine wpAny_bind (wpAny_field ho hd (x:=.str x t) rfl ?_)
 show wpAny _ _ (field (.ref it) 1 >>= _) _ _ s
 refine wpAny_bind (wpAny_field ho hd (x:=.int i 0) rfl ?_)
 simp only[gH,hx]
 refine wpAny_bind (wpAny_rule (wpAny_bind (wpAny_setField ho hd (by simp) (wpAny_bind (wpAny_letGo ?_)))))
 exact j2 (A':=A.in1) (hh.upd (lD hne)) fun h' hk=>hQ h' fun b o hb e=>hk b o ((Heap.SameBut.update ..).extBut b o hb e)
end
section
variable{prog:Program}{w:World}{A:Around}{E:Value->Shared->Prop}{s:Shared}{O:Addr->Prop}
theorem Bz{h h':Heap}{a l:Addr}{i:Nat}(x:h.IsListIter a l i)(e:∀o,h.get? a=some o->h'.get? a=some o):h'.IsListIter a l i :=
 x.elim fun o ζ=>ζ.elim fun ho r=>⟨o,e _ ho,r⟩
theorem vq{h h':Heap}{a:Addr}{its:Array Value}(x:h.IsList a its)(e:∀o,h.get? a=some o->h'.get? a=some o):h'.IsList a its :=
 x.elim fun o ζ=>ζ.elim fun ho r=>⟨o,e _ ho,r⟩
theorem oC{h h':Heap}{a:Addr}{its:Array Value}(x:h.IsTuple a its)(e:∀o,h.get? a=some o->h'.get? a=some o):h'.IsTuple a its :=
 x.elim fun o ζ=>ζ.elim fun ho r=>⟨o,e _ ho,r⟩
theorem BA{h h':Heap}{a l:Addr}{i:Nat}(x:h.IsTupleIter a l i)(e:∀o,h.get? a=some o->h'.get? a=some o):h'.IsTupleIter a l i :=
 x.elim fun o ζ=>ζ.elim fun ho r=>⟨o,e _ ho,r⟩
theorem BB{h h':Heap}{a:Addr}{T:String}{x:Str}{t:Tok}{i:Nat}(y:h.IsStrIter a T x t i)(e:∀o,h.get? a=some o->h'.get? a=some o):h'.IsStrIter a T x t i :=
 y.elim fun o ζ=>ζ.elim fun ho r=>⟨o,e _ ho,r⟩
theorem BC(I ax:Addr)(hne:ax≠I)(hI:I∉hfp A)(items:Array Value) :
 Walks prog w A I (I::ax::hfp A) [I] items.size (fun i v=>items[i]? = some v) (fun i h=>(h.IsListIter I ax i/\h.IsList ax items)/\aX A h) where
 sub:=fun b hb=>by simp at hb;simp[hb]
 frame:=fun U U U st hk=>⟨⟨Bz st.1.1 fun o e=>hk I (by simp) o e,vq st.1.2 fun o e=>hk ax (by simp) o e⟩,st.2.frame fun b hb o e=>hk b (by simp[hb]) o e⟩
 item:=fun i s Q E hi st hQ=>by
  refine wpAny_pyNext_list_item st.1.1 st.1.2 (x:=items[i]) (by simp[hi]) fun h' hit' hs'=>?_
  exact hQ _ h' s.toks (by simp[hi]) ⟨⟨hit',vq st.1.2 fun o e=>hs'.extBut _ _ hne e⟩,st.2.at hI hs'.extBut⟩ fun b o hb e=>hs'.extBut b o (fun h=>hb (by simp[h])) e
 done:=fun s Q E st hQ=>Bv st.2 hI st.1.1 st.1.2 (by simp) fun h' he'=>hQ h' s.toks fun b o hb e=>he' b o (fun h=>hb (by simp[h])) e
 self:=fun U U U U st hQ=>wpAny_pyIter_listiter st.1.1 hQ
theorem vr(I ax:Addr)(hne:ax≠I)(hI:I∉hfp A)(items:Array Value) :
 Walks prog w A I (I::ax::hfp A) [I] items.size (fun i v=>items[i]? = some v) (fun i h=>(h.IsTupleIter I ax i/\h.IsTuple ax items)/\aX A h) where
 sub:=fun b hb=>by simp at hb;simp[hb]
 frame:=fun U U U st hk=>⟨⟨BA st.1.1 fun o e=>hk I (by simp) o e,oC st.1.2 fun o e=>hk ax (by simp) o e⟩,st.2.frame fun b hb o e=>hk b (by simp[hb]) o e⟩
 item:=fun i s Q E hi st hQ=>by
  refine wpAny_pyNext_tuple_item st.1.1 st.1.2 (x:=items[i]) (by simp[hi]) fun h' hit' hs'=>?_
  exact hQ _ h' s.toks (by simp[hi]) ⟨⟨hit',oC st.1.2 fun o e=>hs'.extBut _ _ hne e⟩,st.2.at hI hs'.extBut⟩ fun b o hb e=>hs'.extBut b o (fun h=>hb (by simp[h])) e
 done:=fun s Q E st hQ=>Bw st.2 hI st.1.1 st.1.2 (by simp) fun h' he'=>hQ h' s.toks fun b o hb e=>he' b o (fun h=>hb (by simp[h])) e
 self:=fun U U U U st hQ=>wpAny_pyIter_tupleiter st.1.1 hQ
theorem BD(I:Addr)(hI:I∉hfp A)(a:Int)(n:Nat) :
 Walks prog w A I (I::hfp A) [I] n (fun i v=>∃t,v=.int (a+i) t) (fun i h=>IsRangeIter h I (a+(i:Nat)) ((n:Int) - (i:Nat)) 1/\aX A h) where
 sub:=fun b hb=>by simp at hb;simp[hb]
 frame:=fun U U U st hk=>⟨hk I ag _ st.1,st.2.frame fun b hb o e=>hk b (by simp[hb]) o e⟩
 item:=fun i s Q E hi st hQ=>by
  refine wpAny_pyNext_range_item st.1 (by lia) fun h' hit' hs'=>?_
  refine hQ _ h' _ ⟨_,rfl⟩ ⟨?_,st.2.at hI hs'.extBut⟩ fun b o hb e=>hs'.extBut b o (fun h=>hb (by simp[h])) e
  have e1:a+((i+1:Nat):Int)=a+(i:Int)+1:=(Int.add_assoc a i 1).symm
  have e2:(n:Int) - ((i+1:Nat):Int)=(n:Int) - (i:Int) - 1:=Int.sub_sub (n:Int) i 1 |>.symm
  rw[e1,e2];exact hit'
 done:=fun s Q E st hQ=>Bx st.2 st.1 (by lia) fun h' he'=>hQ h' s.toks fun b o hb e=>he' b o (fun h=>hb (by simp[h])) e
 self:=fun U U U U st hQ=>wpAny_pyIter_rangeiter st.1 hQ
theorem BE(I:Addr)(hI:I∉hfp A)(x:Str)(t:Tok) :
 Walks prog w A I (I::hfp A) [I] x.cps.size (SignAt x) (fun i h=>h.IsStrIter I "str_ascii_iterator" x t i/\aX A h) where
 sub:=fun b hb=>by simp at hb;simp[hb]
 frame:=fun U U U st hk=>⟨BB st.1 fun o e=>hk I ag o e,st.2.frame fun b hb o e=>hk b (by simp[hb]) o e⟩
 item:=fun i s Q E hi st hQ=>by
  refine wpAny_pyNext_ascii_item st.1 (c:=x.cps[i]) (by simp[hi]) fun h' hit' hs'=>?_
  exact hQ _ h' (s.toks+1) ⟨_,_,by simp[hi],rfl⟩ ⟨hit',st.2.at hI hs'.extBut⟩ fun b o hb e=>hs'.extBut b o (fun h=>hb (by simp[h])) e
 done:=fun s Q E st hQ=>By st.2 hI st.1 (by simp) fun h' he'=>hQ h' s.toks fun b o hb e=>he' b o (fun h=>hb (by simp[h])) e
 self:=fun U U U U st hQ=>wpAny_pyIter_striter_ascii st.1 hQ
noncomputable def iH(T:String):Bool:=!(["enumerate", "zip", "dict_itemiterator", "dict_reverseitemiterator", "odict_iterator", "itertools.zip_longest", "itertools.pairwise"].contains T)
set_option tactic.hygienic true in
theorem lE{M:Model}{target:Expr}{I:Addr}{v:Value}{o:Obj}{T:String}{Q:Unit->Shared->Prop}(ho:s.heap.get? I=some o)(hc:o.cls=.type T)(hT:iH T=true)(h:Q () s) :
 wpAny M A (letOwnedTupleGo target (.ref I) v) Q E s:=by
 have key:wpAny M A (do
  let(.ref r,.ref a):=(Value.ref I,v) | return
  let o <- load r
  match o.cls,o.data with
  | .type n,.fields vs =>
   if["enumerate", "zip", "dict_itemiterator", "dict_reverseitemiterator", "odict_iterator", "itertools.zip_longest", "itertools.pairwise"].contains n&&vs[0]? == some (rawInt a)then
    rule "for.unpacks-the-owned-tuple"
    updateField r 0 .none
  | _,_=>pure ()) Q E s:=by
  cases v
  case ref a =>
   refine wpAny_bind (wpAny_load ho ?_)
   obtain⟨c,d,dt,sl⟩:=o
   dsimp only at hc
   subst hc
   unfold iH at hT
   rw[jR]at hT
   cases dt
   case fields vs =>
    dsimp only
    rw[hT,Bool.false_and,if_neg Kr]
    exact wpAny_pure h
   all_goals exact wpAny_pure h
  all_goals exact wpAny_pure h
 unfold letOwnedTupleGo
 cases target<;>first | exact key | exact wpAny_pure h
inductive ItIs(prog:Program)(w:World)(A:Around)(O:Addr->Prop)(F:Prop)(h₀:Heap)(h:Heap)(it:Value)(ds:List PyData):Prop where
 | mk (I:Addr) (fp wr:List Addr) (P:Nat->Value->Prop) (St:Nat->Heap->Prop) (e:it=.ref I) (W:Walks prog w A I fp wr ds.length P St) (st:St 0 h) (fe:∀b∈fp,∃o,h.get? b=some o) (wr':wr=[I]/\h₀.get? I=none) (fO:F->∀b∈fp,¬O b)
  (iH:∀i h',St i h'->∃o T,h'.get? I=some o/\o.cls=.type T/\iH T=true) (mem:I∈fp)
  (item:∀i v,P i v->∃d,ds[i]? = some d/\∀h',(∀b o,¬O b->h₀.get? b=some o->h'.get? b=some o)->Rep O h' v d):ItIs prog w A O F h₀ h it ds
theorem BF{h₀:Heap}{I:Addr}{wr:List Addr}(h:wr=[I]/\h₀.get? I=none):∀b∈wr,h₀.get? b=none:=fun b hb=>by
 rw[h.1]at hb
 rw[ai.mp hb];exact h.2
structure Okay(A:Around)(O:Addr->Prop)(s:Shared):Prop where
 hok:aX A s.heap
 hno:∀b∈hfp A,¬O b
 obs:∀b,O b->∃o,s.heap.get? b=some o
theorem Okay.ob(ok:Okay A O s):∀b,O b->b<s.heap.objs.size:=fun b hb=>(ok.obs b hb).elim fun U h=>Heap.lt_size h
theorem aX.there{h:Heap}(x:aX A h):∀b∈hfp A,∃o,h.get? b=some o:=by
 intro b hb
 rcases x with x | ⟨e,o,vs,h1,h2,_⟩
 ·unfold hfp at hb;rw[x]at hb;cases hb
 ·unfold hfp at hb;rw[h1]at hb
  rw[ai.mp hb];exact⟨o,h2⟩
theorem Okay.hlt(ok:Okay A O s):∀b∈hfp A,b<s.heap.objs.size:=fun b hb=>(ok.hok.there b hb).elim fun U h=>Heap.lt_size h
theorem Okay.keeps{s':Shared}(ok:Okay A O s)(k:Keeps s s'):Okay A O s':=⟨ok.hok.keeps k,ok.hno,fun b hb=>(ok.obs b hb).elim fun o h=>⟨o,al k _ _ h⟩⟩
theorem vu{v:Value}{ds:List PyData}{Q:Value->Shared->Prop}(ok:Okay A O s)(r:bg O s.heap v (.list ds))
 (h:∀it s',Keeps s s'->ItIs prog w A O (Rep O s.heap v (.list ds)) s.heap s'.heap it ds->Q it s'):wpAny (model prog w) A (pyIter v) Q E s:=by
 refine x33 r.listIs fun a vs n e3 hl l=>?_;subst e3
 have e:=l.length
 rw[cj]at e
 refine wpAny_pyIter_list hl.isList (h _ _ (bt _) ?_)
 have ha:=Heap.lt_size hl
 have hI:s.heap.objs.size∉hfp A:=fun q=>aI _ (ok.hlt _ q)
 have W:=BC (prog:=prog) (w:=w) (A:=A) s.heap.objs.size a (cK ha) hI vs
 rw[e]at W
 refine⟨_,_,_,_,_,rfl,W,⟨⟨⟨_,Heap.get?_push_size _ rfl,rfl,rfl⟩,hl.isList.push _⟩,ok.hok.mono fun b o e=>Heap.get?_push_of_some _ e⟩,?_,?_,?_,?_,?_,?_⟩
 ·intro b hb
  rcases aa.mp hb with rfl | hb
  ·exact⟨_,Heap.get?_push_size _ rfl⟩
  rcases aa.mp hb with rfl | hb
  ·exact⟨_,Heap.get?_push_of_some _ hl⟩
  ·refine x11 (ok.hok.there _ hb) fun o e=>?_
   exact⟨o,Heap.get?_push_of_some _ e⟩
 ·exact⟨rfl,Heap.get?_none_of_le (aL _)⟩
 ·intro hr b hb
  rcases aa.mp hb with rfl | hb
  ·exact fun q=>aI _ (ok.ob _ q)
  rcases aa.mp hb with rfl | hb
  ·cases hr with | list nn _ _=>exact nn
  ·exact ok.hno _ hb
 ·rintro i h' ⟨⟨⟨o,ho,hc,_⟩,_⟩,_⟩
  exact⟨o,_,ho,hc,by decide⟩
 ·exact ag
 ·intro i x hx
  refine x12 (l.get (i:=i) (v:=x) (by simpa using hx)) fun d hd r=>?_
  exact⟨d,hd,fun h' hk=>r.mono hk fun U U U q=>q⟩
theorem vv{v:Value}{ds:List PyData}{Q:Value->Shared->Prop}(ok:Okay A O s)(r:bg O s.heap v (.tuple ds))
 (h:∀it s',Keeps s s'->ItIs prog w A O (Rep O s.heap v (.tuple ds)) s.heap s'.heap it ds->Q it s'):wpAny (model prog w) A (pyIter v) Q E s:=by
 refine x33 r.tupIs fun a vs n e3 hl l=>?_;subst e3
 have e:=l.length
 rw[cj]at e
 have hlT:s.heap.IsTuple a vs:=⟨_,hl,rfl,n,rfl⟩
 refine wpAny_pyIter_tuple hlT (h _ _ (bt _) ?_)
 have ha:=Heap.lt_size hl
 have hI:s.heap.objs.size∉hfp A:=fun q=>aI _ (ok.hlt _ q)
 have W:=vr (prog:=prog) (w:=w) (A:=A) s.heap.objs.size a (cK ha) hI vs
 rw[e]at W
 refine⟨_,_,_,_,_,rfl,W,⟨⟨⟨_,Heap.get?_push_size _ rfl,rfl,rfl⟩,oC hlT fun o e=>Heap.get?_push_of_some _ e⟩,ok.hok.mono fun b o e=>Heap.get?_push_of_some _ e⟩,?_,?_,?_,?_,?_,?_⟩
 ·intro b hb
  rcases aa.mp hb with rfl | hb
  ·exact⟨_,Heap.get?_push_size _ rfl⟩
  rcases aa.mp hb with rfl | hb
  ·exact⟨_,Heap.get?_push_of_some _ hl⟩
  ·refine x11 (ok.hok.there _ hb) fun o e=>?_
   exact⟨o,Heap.get?_push_of_some _ e⟩
 ·exact⟨rfl,Heap.get?_none_of_le (aL _)⟩
 ·intro hr b hb
  rcases aa.mp hb with rfl | hb
  ·exact fun q=>aI _ (ok.ob _ q)
  rcases aa.mp hb with rfl | hb
  ·cases hr with | tuple nn _ _=>exact nn
  ·exact ok.hno _ hb
 ·rintro i h' ⟨⟨⟨o,ho,hc,_⟩,_⟩,_⟩
  exact⟨o,_,ho,hc,by decide⟩
 ·exact ag
 ·intro i x hx
  refine x12 (l.get (i:=i) (v:=x) (by simpa using hx)) fun d hd r=>?_
  exact⟨d,hd,fun h' hk=>r.mono hk fun U U U q=>q⟩
noncomputable def lF(x:Str):List PyData:=x.cps.toList.map fun c=>.str ⟨#[c]⟩
theorem BG{x:Str}{t:Tok}{Q:Value->Shared->Prop}(ok:Okay A O s)(hx:x.cps.all (· < 128)=true)
 (h:∀it s',Keeps s s'->ItIs prog w A O True s.heap s'.heap it (lF x)->Q it s'):wpAny (model prog w) A (pyIter (.str x t)) Q E s:=by
 refine wpAny_pyIter_ascii hx (h _ _ (bt _) ?_)
 have hI:s.heap.objs.size∉hfp A:=fun q=>aI _ (ok.hlt _ q)
 have W:=BE (prog:=prog) (w:=w) (A:=A) s.heap.objs.size hI x t
 have e:x.cps.size=(lF x).length:=by simp[lF]
 rw[e]at W
 refine⟨_,_,_,_,_,rfl,W,⟨⟨_,Heap.get?_push_size _ rfl,rfl,rfl⟩,ok.hok.mono fun b o e=>Heap.get?_push_of_some _ e⟩,?_,?_,?_,?_,?_,?_⟩
 ·intro b hb
  rcases aa.mp hb with rfl | hb
  ·exact⟨_,Heap.get?_push_size _ rfl⟩
  ·refine x11 (ok.hok.there _ hb) fun o e=>?_
   exact⟨o,Heap.get?_push_of_some _ e⟩
 ·exact⟨rfl,Heap.get?_none_of_le (aL _)⟩
 ·intro _ b hb
  rcases aa.mp hb with rfl | hb
  ·exact fun q=>aI _ (ok.ob _ q)
  ·exact ok.hno _ hb
 ·rintro i h' ⟨⟨o,ho,hc,_⟩,_⟩
  exact⟨o,_,ho,hc,by decide⟩
 ·exact ag
 ·rintro i _ ⟨c,u,hc,rfl⟩
  exact⟨.str ⟨#[c]⟩,by simp[lF,hc],fun U U=>.str _ _⟩
noncomputable def gP(a:Int)(n:Nat):List PyData:=(ao n).map fun i:Nat=>.int (a+(i:Int))
theorem vw{r:Addr}{a b:Int}{t u v:Tok}{Q:Value->Shared->Prop}(ok:Okay A O s)(hr:IsRange s.heap r a b 1 t u v)(ha : -1000000000<=a/\a<=1000000000)(hb : -1000000000<=b/\b<=1000000000)
 (h:∀it s',Keeps s s'->ItIs prog w A O True s.heap s'.heap it (gP a (b - a).toNat)->Q it s'):wpAny (model prog w) A (pyIter (.ref r)) Q E s:=by
 refine wpAny_pyIter_range hr (small_one (Int.le_trans (by decide:(-(2 ^ 62):Int)<=-1000000000) ha.1) (Int.lt_of_le_of_lt ha.2 (by decide:(1000000000:Int)<2 ^ 62)) (Int.le_trans (by decide:(-(2 ^ 62):Int)<=-1000000000) hb.1) (Int.lt_of_le_of_lt hb.2 (by decide:(1000000000:Int)<2 ^ 62))) (h _ _ (bt _) ?_)
 have hI:s.heap.objs.size∉hfp A:=fun q=>aI _ (ok.hlt _ q)
 have W:=(BD (prog:=prog) (w:=w) (A:=A) s.heap.objs.size hI a (b - a).toNat).bound
 have e:(b - a).toNat=(gP a (b - a).toNat).length:=by simp[gP]
 have e2:Builtin.Range.rangeSize a b 1=(((b - a).toNat:Nat):Int) - ((0:Nat):Int):=by
  rw[rangeSize_one];split<;>lia
 rw[e2]
 have W':Walks prog w A s.heap.objs.size (s.heap.objs.size::hfp A) [s.heap.objs.size] (gP a (b - a).toNat).length (fun i v=>i<(b - a).toNat/\∃t,v=.int (a+i) t)
  (fun i h=>IsRangeIter h s.heap.objs.size (a+(i:Nat)) (((b - a).toNat:Int) - (i:Nat)) 1/\aX A h):=by rw[<- e];exact W
 refine⟨_,_,_,_,_,rfl,W',⟨?_,ok.hok.mono fun b o e=>Heap.get?_push_of_some _ e⟩,?_,?_,?_,?_,?_,?_⟩
 ·have:a+((0:Nat):Int)=a:=Int.add_zero a
  rw[this]
  exact Heap.get?_push_size _ rfl
 ·intro b hb
  rcases aa.mp hb with rfl | hb
  ·exact⟨_,Heap.get?_push_size _ rfl⟩
  ·refine x11 (ok.hok.there _ hb) fun o e=>?_
   exact⟨o,Heap.get?_push_of_some _ e⟩
 ·exact⟨rfl,Heap.get?_none_of_le (aL _)⟩
 ·intro _ b hb
  rcases aa.mp hb with rfl | hb
  ·exact fun q=>aI _ (ok.ob _ q)
  ·exact ok.hno _ hb
 ·rintro i h' ⟨hi,_⟩
  exact⟨_,_,hi,rfl,by decide⟩
 ·exact ag
 ·rintro i _ ⟨hi,t,rfl⟩
  exact⟨.int (a+i),by simp[gP,hi],fun U U=>.int _ _⟩
end
noncomputable def bh:PyData->Int
 | .int i=>i
 | _=>0
noncomputable def dq:PyData->Str
 | .str x=>x
 | _=>Str.empty
noncomputable def eW:PyData->List PyData
 | .list ds=>ds
 | .tuple ds=>ds
 | _=>[]
noncomputable def isInt:PyData->Bool
 | .int _=>true
 | _=>false
noncomputable def isStr:PyData->Bool
 | .str _=>true
 | _=>false
section
variable{prog:Program}{w:World}{A:Around}{E:Value->Shared->Prop}{s:Shared}{O:Addr->Prop}{va vb vc:Value}{da db dc:PyData}
noncomputable def qI:PyData->Prop
 | .list ds=>ds.length<=16777216
 | .tuple ds=>ds.length<=16777216
 | .str x=>x.length<=16777216
 | _=>False
theorem vx(ra:bg O s.heap va da)(hp:qI da):wpAny (model prog w) A (call (.builtin "len") [va]) (PV O s (.int (iG da))) E s:=by
 cases da<;>first | exact False.elim hp | change _<=_ at hp
 ·refine x11 ra.strIs fun u e1=>?_;subst e1
  exact P.len_str (by lia) ⟨aw _ _,.int _ _⟩
 ·refine x33 ra.listIs fun a vs n e3 h l=>?_;subst e3
  have e:=l.length
  rw[cj]at e
  refine len_list h.isList (by rw[e];lia) ⟨aw _ _,?_⟩
  rw[e];exact .int _ _
 ·refine x33 ra.tupIs fun a vs n e3 h l=>?_;subst e3
  have e:=l.length
  rw[cj]at e
  refine P.len_tuple h (by rw[e];lia) ⟨aw _ _,?_⟩
  rw[e];exact .int _ _
theorem Okay.in1(ok:Okay A O s):Okay A.in1 O s:=⟨ok.hok,ok.hno,ok.obs⟩
noncomputable def qJ(ds:List PyData):Prop:=ds.length<=1000000/\∀d∈ds,isInt d=true/\-1000000000000<=bh d/\bh d<=1000000000000
theorem vy{val:Nat->Int}{n:Nat}(h:∀i,i<n->-1000000000000<=val i/\val i<=1000000000000):∀j,j<=n->-1000000000000 * (j:Int)<=preSum val j/\preSum val j<=1000000000000 * (j:Int)
 | 0,_=>by simp[preSum]
 | j+1,hj=>by
  have:=vy h j (by lia)
  have h2:=h j (by lia)
  simp only[preSum]
  push_cast
  lia
theorem vz(ds:List PyData):∀j,j<=ds.length->preSum (fun i=>bh (ds.getD i .none)) j=((ds.take j).map bh).sum
 | 0,_=>by simp[preSum]
 | j+1,hj=>by
  rw[preSum,vz ds j (by lia),List.take_add_one,pI,List.sum_append]
  have:ds[j]? = some (ds.getD j .none):=by rw[aq,bk (by lia)];rfl
  rw[this];simp
theorem BH{ds:List PyData}(hp:∀d∈ds,isInt d=true){i:Nat}{d:PyData}(h:ds[i]? = some d):d=.int (bh (ds.getD i .none)):=by
 rw[Bo h]
 have:=hp d (aE h)
 cases d<;>first | exact absurd this Kr | skip
 rfl
theorem fC{h:Heap}{v:Value}{i:Int}(r:Rep O h v (.int i)):∃t,v=.int i t:=by cases r;exact⟨_,rfl⟩
theorem BI{s s':Shared}{wr:List Addr}{h':Heap}{tk:Nat}(k:Keeps s s')(hwr:∀b∈wr,s.heap.get? b=none)(hk:∀b o,b∉wr->s'.heap.get? b=some o->h'.get? b=some o) :
 Keeps s { s' with heap:=h',toks:=tk }:=by
 obtain⟨h1,t1,rfl,k⟩:=k
 exact⟨h',tk,rfl,fun b o e=>hk b o (fun q=>by rw[hwr b q]at e;cases e) (k b o e)⟩
theorem BJ{ds:List PyData}(ok:Okay A O s)(ra:bg O s.heap va (.list ds))(hp:qJ ds) :
 wpAny (model prog w) A (call (.builtin "sum") [va]) (PV O s (.int (ds.map bh).sum)) E s:=by
 refine call_sum_walk (vu ok.in1 ra fun it s' k hi=>?_)
 obtain⟨I,fp,wr,P,St,rfl,W,hst,hfp,hwr,_,_,_,hit⟩:=hi
 replace hwr:=BF hwr
 replace hfp:∀b∈fp,b<s'.heap.objs.size:=fun b hb=>(hfp b hb).elim fun U e=>Heap.lt_size e
 have hb:∀i,i<ds.length->-1000000000000<=bh (ds.getD i .none)/\bh (ds.getD i .none)<=1000000000000:=fun i hi=>by
  have:=(hp.2 (ds.getD i .none) (by rw[aq,bk hi];exact List.getElem_mem hi)).2
  exact this
 refine⟨I,fp,wr,ds.length,P,St,fun i=>bh (ds.getD i .none),rfl,W,hst,hfp,fun i v hv=>?_,fun j hj=>?_,fun h' tk t' hk=>?_⟩
 ·refine x12 (hit i v hv) fun d hd r=>?_
  have:=r s'.heap fun b o U e=>al k b o e
  rw[BH (fun d hd=>(hp.2 d hd).1) hd]at this
  exact fC this
 ·have h1:=hb j hj
  have h2:=vy hb (j+1) hj
  have h3:=hp.1
  unfold InLong
  refine⟨by dsimp only;lia,?_⟩
  push_cast at h2
  lia
 ·rw[vz ds _ (aL _),jl]
  exact⟨BI k hwr hk,.int _ _⟩
theorem Okay.push(ok:Okay A O s)(o:Obj)(t:Nat):Okay A O { s with heap:=s.heap.push o,toks:=t } :=
 ok.keeps (bt _)
theorem vA{h:Heap}:∀ {vs:List Value} {ds:List PyData},RepL O h vs ds->(∀d∈ds,isStr d=true)->StrsAre vs (ds.map dq)
 | _,_,.nil,_=>.nil
 | _,_,.cons r l,hp=>by
  have h1:=hp _ ag
  have h2:=vA l fun d hd=>hp d (ar _ hd)
  rename_i v vs d ds
  cases d<;>first | exact absurd h1 Kr | skip
  cases r with | str x t=>exact .cons _ _ h2
noncomputable def oD(x:Str)(ds:List PyData):Prop:=(∀d∈ds,isStr d=true)/\((ds.map dq).map (·.length)).sum+(ds.map dq).length * x.length<=16777216
theorem BK{x:Str}{t:Tok}{ds:List PyData}(ra:bg O s.heap va (.list ds))(hp:oD x ds) :
 wpAny (model prog w) A (call (.builtin "str.join") [.str x t,va]) (PV O s (.str (Txt.join x (ds.map dq)))) E s:=by
 refine x33 ra.listIs fun a vs n e3 h l=>?_;subst e3
 exact join_list h.isList (vA l hp.1) hp.2 fun t' k=>⟨aw _ _,.str _ _⟩
end
set_option genCtorIdx false
structure Srt where
 nodes:List (Int × Int × List Int)
 ready:Option (List Int)
 passed:Int
 finished:Int
inductive SV where
 | un
 | dat (d:PyData)
 | own (d:PyData)
 | sor (g:Srt)
 | val (v:Value)
noncomputable def SV.ctorIdx(t:SV):Nat:=SV.casesOn t 0 (fun U=>1) (fun U=>2) (fun U=>3) (fun U=>4)
noncomputable def SV.data:SV->PyData
 | .dat d=>d
 | .own d=>d
 | _=>.none
noncomputable def SV.ok:Bool->SV->Prop
 | _,.dat _=>True
 | true,.own _=>True
 | _,_=>False
structure FEntry where
 name:Str
 k:Nat
 pre:List PyData->Prop
 val:List PyData->PyData
noncomputable def FEntry.nope:FEntry:=⟨Str.empty,0,fun U=>False,fun U=>.none⟩
inductive IX where
 | var (i:Nat)
 | lit (d:PyData)
 | bin (op:Operator) (a b:IX)
 | cmp (op:CmpOp) (a b:IX)
 | neg (a:IX)
 | inv (a:IX)
 | bop (o:Bool) (es:IX)
 | ite (c a b:IX)
 | list (es:IX)
 | tup (es:IX)
 | sub (a i:IX)
 | slice (a lo hi:IX)
 | call (f:Nat) (es:IX)
 | len (a:IX)
 | sum (a:IX)
 | join (a b:IX)
 | comp (n:Nat) (tup:Bool) (slots:List Nat) (it ifs rest:IX)
 | gen (tup:Bool) (slots:List Nat) (it ifs rest:IX)
 | emit (e:IX)
 | range1 (a:IX)
 | range2 (a b:IX)
 | seq (e:IX)
 | nil
 | cons (a b:IX)
noncomputable def IX.ctorIdx(t:IX):Nat:=IX.casesOn t (fun U=>0) (fun U=>1) (fun U U U=>2) (fun U U U=>3) (fun U=>4) (fun U=>5) (fun U U=>6) (fun U U U=>7) (fun U=>8) (fun U=>9) (fun U U=>10) (fun U U U=>11) (fun U U=>12) (fun U=>13) (fun U=>14) (fun U U=>15) (fun U U U U U U=>16) (fun U U U U U=>17) (fun U=>18) (fun U=>19) (fun U U=>20) (fun U=>21) 22 (fun U U=>23)
noncomputable def aB:PyData->Bool
 | .bool b=>b
 | _=>false
noncomputable def dZ:PyData->Bool
 | .bool _=>true
 | _=>false
noncomputable def gQ:List SV->List Nat->List PyData->List SV
 | ρ,i::is,d::ds=>gQ (ρ.set i (.dat d)) is ds
 | ρ,_,_=>ρ
noncomputable def ay(tup:Bool)(slots:List Nat)(d:PyData)(ρ:List SV):List SV :=
 if tup then gQ ρ slots (eW d)else gQ ρ slots [d]
noncomputable def qK:PyData->Bool
 | .list _=>true
 | .tuple _=>true
 | _=>false
noncomputable def bindP(tup:Bool)(slots:List Nat)(d:PyData):Prop :=
 if tup then qK d=true/\(eW d).length=slots.length else slots.length=1
noncomputable def items:PyData->List PyData
 | .list ds=>ds
 | .tuple ds=>ds
 | .str x=>lF x
 | _=>[]
noncomputable def vB:PyData->Prop
 | .list _=>True
 | .tuple _=>True
 | .str x=>x.cps.all (· < 128)=true
 | _=>False
noncomputable def lG:PyData->Prop
 | .int i=>-1000000000<=i/\i<=1000000000
 | _=>False
noncomputable def eu:IX->Bool
 | .nil=>true
 | _=>false
noncomputable def gR(o:Bool):BoolOp:=if o=true then .Or else .And
section
variable(Φ:List FEntry)
mutual
noncomputable def den:IX->List SV->PyData
 | .var i,ρ=>(ρ.getD i .un).data
 | .lit d,_=>d
 | .bin op a b,ρ=>lx op (den a ρ) (den b ρ)
 | .cmp op a b,ρ=>.bool (ly op (den a ρ) (den b ρ))
 | .neg a,ρ=>.int (-(bh (den a ρ)))
 | .inv a,ρ=>.bool (!aB (den a ρ))
 | .bop o es,ρ=>fD o es ρ
 | .ite c a b,ρ=>if aB (den c ρ)then den a ρ else den b ρ
 | .list es,ρ=>.list (bV es ρ)
 | .tup es,ρ=>.tuple (bV es ρ)
 | .sub a i,ρ=>lB (den a ρ) (den i ρ)
 | .slice a lo hi,ρ=>jr (den a ρ) (gf lo ρ) (gf hi ρ)
 | .call f es,ρ=>(Φ.getD f .nope).val (bV es ρ)
 | .len a,ρ=>.int (iG (den a ρ))
 | .sum a,ρ=>.int ((eW (den a ρ)).map bh).sum
 | .join a b,ρ=>.str (Txt.join (dq (den a ρ)) ((eW (den b ρ)).map dq))
 | .comp n tup slots it ifs rest,ρ=>.list ((bp it ρ).flatMap fun d =>
  if cS ifs (ay tup slots d (ρ++a7 n .un))then ew rest (ay tup slots d (ρ++a7 n .un))else[])
 | _,_=>.none
noncomputable def fD(o:Bool):IX->List SV->PyData
 | .cons a b,ρ=>if eu b=true then den a ρ else if aB (den a ρ)=o then .bool o else fD o b ρ
 | _,_=>.none
noncomputable def gf:IX->List SV->PyData
 | .cons a .nil,ρ=>den a ρ
 | _,_=>.none
noncomputable def bV:IX->List SV->List PyData
 | .cons a b,ρ=>den a ρ::bV b ρ
 | _,_=>[]
noncomputable def cS:IX->List SV->Bool
 | .cons a b,ρ=>aB (den a ρ)&&cS b ρ
 | _,_=>true
noncomputable def bp:IX->List SV->List PyData
 | .range1 a,ρ=>gP 0 (bh (den a ρ) - 0).toNat
 | .range2 a b,ρ=>gP (bh (den a ρ)) (bh (den b ρ) - bh (den a ρ)).toNat
 | .seq e,ρ=>items (den e ρ)
 | _,_=>[]
noncomputable def ew:IX->List SV->List PyData
 | .gen tup slots it ifs rest,ρ=>(bp it ρ).flatMap fun d =>
  if cS ifs (ay tup slots d ρ)then ew rest (ay tup slots d ρ)else[]
 | .emit e,ρ=>[den e ρ]
 | _,_=>[]
end
mutual
noncomputable def pre:IX->Bool->List SV->Prop
 | .var i,t,ρ=>SV.ok t (ρ.getD i .un)
 | .lit _,_,_=>True
 | .bin op a b,_,ρ=>pre a false ρ/\pre b false ρ/\oy op (den Φ a ρ) (den Φ b ρ)
 | .cmp op a b,_,ρ=>pre a true ρ/\pre b true ρ/\oz op (den Φ a ρ) (den Φ b ρ)
 | .neg a,_,ρ=>pre a false ρ/\isInt (den Φ a ρ)=true
 | .inv a,_,ρ=>pre a false ρ/\dZ (den Φ a ρ)=true
 | .bop o es,_,ρ=>lH o es ρ
 | .ite c a b,_,ρ=>pre c false ρ/\dZ (den Φ c ρ)=true/\(aB (den Φ c ρ)=true->pre a false ρ)/\(aB (den Φ c ρ)=false->pre b false ρ)
 | .list es,_,ρ=>eC es ρ/\(bV Φ es ρ).length<=16777216
 | .tup es,_,ρ=>eC es ρ/\(bV Φ es ρ).length<=16777216
 | .sub a i,_,ρ=>pre a true ρ/\pre i false ρ/\oA (den Φ a ρ) (den Φ i ρ)
 | .slice a lo hi,_,ρ=>pre a true ρ/\oE lo ρ/\oE hi ρ/\qG (den Φ a ρ) (gf Φ lo ρ) (gf Φ hi ρ)
 | .call f es,_,ρ=>eC es ρ/\(Φ.getD f .nope).pre (bV Φ es ρ)
 | .len a,_,ρ=>pre a true ρ/\qI (den Φ a ρ)
 | .sum a,_,ρ=>pre a true ρ/\(∃ds,den Φ a ρ=.list ds/\qJ ds)
 | .join a b,_,ρ=>pre a false ρ/\pre b true ρ/\isStr (den Φ a ρ)=true/\(∃ds,den Φ b ρ=.list ds/\oD (dq (den Φ a ρ)) ds)
 | .comp n tup slots it ifs rest,_,ρ=>gg it true ρ/\(∀d∈bp Φ it ρ,bindP tup slots d/\j3 ifs (ay tup slots d (ρ++a7 n .un)) /\
  (cS Φ ifs (ay tup slots d (ρ++a7 n .un))=true->oF rest (ay tup slots d (ρ++a7 n .un)))) /\
  ((bp Φ it ρ).flatMap fun d=>if cS Φ ifs (ay tup slots d (ρ++a7 n .un))then ew Φ rest (ay tup slots d (ρ++a7 n .un))else[]).length<=16000000
 | _,_,_=>False
noncomputable def lH(o:Bool):IX->List SV->Prop
 | .cons a b,ρ=>pre a false ρ/\(eu b=false->dZ (den Φ a ρ)=true/\(aB (den Φ a ρ)=!o->lH o b ρ))
 | _,_=>False
noncomputable def oE:IX->List SV->Prop
 | .cons a .nil,ρ=>pre a false ρ
 | .nil,_=>True
 | _,_=>False
noncomputable def eC:IX->List SV->Prop
 | .cons a b,ρ=>pre a false ρ/\eC b ρ
 | .nil,_=>True
 | _,_=>False
noncomputable def j3:IX->List SV->Prop
 | .cons a b,ρ=>pre a false ρ/\dZ (den Φ a ρ)=true/\(aB (den Φ a ρ)=true->j3 b ρ)
 | .nil,_=>True
 | _,_=>False
noncomputable def gg:IX->Bool->List SV->Prop
 | .range1 a,_,ρ=>pre a false ρ/\lG (den Φ a ρ)
 | .range2 a b,_,ρ=>pre a false ρ/\pre b false ρ/\lG (den Φ a ρ)/\lG (den Φ b ρ)
 | .seq e,t,ρ=>pre e t ρ/\vB (den Φ e ρ)
 | _,_,_=>False
noncomputable def oF:IX->List SV->Prop
 | .gen tup slots it ifs rest,ρ=>gg it false ρ/\(∀d∈bp Φ it ρ,bindP tup slots d/\j3 ifs (ay tup slots d ρ) /\
  (cS Φ ifs (ay tup slots d ρ)=true->oF rest (ay tup slots d ρ)))
 | .emit e,ρ=>pre e false ρ
 | _,_=>False
end
noncomputable def kx:IX->Nat
 | .bin _ a b=>max (kx a) (kx b)
 | .cmp _ a b=>max (kx a) (kx b)
 | .neg a=>kx a
 | .inv a=>kx a
 | .bop _ a=>kx a
 | .ite a b c=>max (kx a) (max (kx b) (kx c))
 | .list a=>kx a
 | .tup a=>kx a
 | .sub a b=>max (kx a) (kx b)
 | .slice a b c=>max (kx a) (max (kx b) (kx c))
 | .call f es=>max (kx es) ((Φ.getD f .nope).k+1)
 | .len a=>kx a
 | .sum a=>kx a
 | .join a b=>max (kx a) (kx b)
 | .comp _ _ _ a b c=>max (kx a) (max (kx b) (kx c))+1
 | .gen _ _ a b c=>max (kx a) (max (kx b) (kx c))+1
 | .emit a=>kx a
 | .range1 a=>kx a
 | .range2 a b=>max (kx a) (kx b)
 | .seq a=>kx a
 | .cons a b=>max (kx a) (kx b)
 | _=>0
end
noncomputable def qL(c:Const)(d:PyData):Bool:=match c with
 | .none=>(match d with | .none=>true | _=>false)
 | .bool a=>(match d with | .bool b=>a==b | _=>false)
 | .int a=>(match d with | .int b=>a==b | _=>false)
 | .str a=>(match d with | .str b=>a==b | _=>false)
 | _=>false
noncomputable def bK(sc:Scope)(x:Str):Bool:=sc.names.lookup x==some NameKind.globalImplicit
noncomputable def bZ(sc scope:Scope):Scope :=
 { scope with names:=scope.names.map fun p=>if(p.2==NameKind.free&&sc.kind==ScopeKind.function&&sc.names.lookup p.1==some NameKind.cell)then(p.1,NameKind.cell)else p }
noncomputable def BL:Expr->List Str
 | .Name x _=>[x]
 | _=>[]
noncomputable def fE(gens:List Comprehension):List Str:=gens.flatMap fun g=>BL g.target
noncomputable def cg(scope:Scope)(ctx:List (Option Str))(vars:List Str):List (Option Str) :=
 (ctx.map fun x=>x.bind fun y=>if scope.names.lookup y==some NameKind.free then some y else none)++vars.map some
noncomputable def aS(sc:Scope)(x:Str):Bool:=sc.names.lookup x==some .local||sc.names.lookup x==some .cell
noncomputable def eD(sc:Scope)(ctx:List (Option Str)):List Nat->List Expr->Bool
 | [],[]=>true
 | i::is,e::es=>(cf e fun x U=>ctx[i]? == some (some x)&&aS sc x)&&eD sc ctx is es
 | _,_=>false
noncomputable def eX(tup:Bool)(slots:List Nat)(sc:Scope)(ctx:List (Option Str))(e:Expr):Bool :=
 !tup&&v1 slots fun i=>cf e fun x U=>ctx[i]? == some (some x)&&aS sc x
noncomputable def vD:Expr->Bool
 | .Call ..=>false
 | _=>true
noncomputable def eY:Expr->Bool
 | .Set ..=>false
 | _=>true
noncomputable def gh:IX->List Nat
 | .gen _ slots _ _ rest=>slots++gh rest
 | _=>[]
noncomputable def lI(sc scope:Scope)(vars:List Str):Bool :=
 scope.kind==ScopeKind.function&&decide (scope.names.map (·.1)).Nodup&&decide vars.Nodup &&
 (scope.names.all fun p=>p.2 != NameKind.free||((sc.names.lookup p.1==some NameKind.cell||sc.names.lookup p.1==some NameKind.free)&&p.1 != ofString "__classdict__")) &&
 (vars.all fun x=>scope.names.lookup x==some NameKind.local||scope.names.lookup x==some NameKind.cell)
section
variable(Φ:List FEntry)
mutual
noncomputable def chk:IX->Scope->List (Option Str)->Expr->Bool
 | .var i,_,ctx,e=>cf e fun x U=>ctx[i]? == some (some x)&&x != ofString "__debug__"
 | .lit d,_,_,e=>qo e fun c U U=>qL c d
 | .bin op a b,sc,ctx,e=>uH e fun l o r U=>o==op&&chk a sc ctx l&&chk b sc ctx r
 | .cmp op a b,sc,ctx,e=>qy e fun l o r U=>o==op&&chk a sc ctx l&&chk b sc ctx r&&!behindInMarks o r
 | .neg a,sc,ctx,e=>qq e fun o x U=>o==.USub&&chk a sc ctx x
 | .inv a,sc,ctx,e=>oi e fun x U=>chk a sc ctx x
 | .bop o es,sc,ctx,e=>qr e fun p xs U=>p==gR o&&b0 es sc ctx xs
 | .ite c a b,sc,ctx,e=>uL e fun t x y U=>chk c sc ctx t&&chk a sc ctx x&&chk b sc ctx y
 | .list es,sc,ctx,e=>uN e fun xs U=>b0 es sc ctx xs
 | .tup es,sc,ctx,e=>gO e fun xs U U=>b0 es sc ctx xs
 | .sub a i,sc,ctx,e=>qt e fun v s U=>chk a sc ctx v&&chk i sc ctx s
 | .slice a lo hi,sc,ctx,e=>qt e fun v s U=>uO s fun l u st U=>vN st (chk a sc ctx v&&jt lo sc ctx l&&jt hi sc ctx u)
 | .call f es,sc,ctx,e=>iA e fun g U args U=>(Φ.getD f .nope).name==g&&g != ofString "__debug__"&&decide (f<Φ.length)&&bK sc g&&b0 es sc ctx args
 | .len a,sc,ctx,e=>oq e fun g x=>g==ofString "len"&&bK sc g&&chk a sc ctx x
 | .sum a,sc,ctx,e=>oq e fun g x=>g==ofString "sum"&&bK sc g&&chk a sc ctx x
 | .join a b,sc,ctx,e=>uY e fun o m ap x p=>m==ofString "join"&&vD o&&ap.endLine==p.line&&chk a sc ctx o&&chk b sc ctx x
 | .comp n tup slots it ifs rest,sc,ctx,e=>uR e fun elt gens scope U=>vC gens fun g gs =>
  g.is_async==0&&eY g.iter&&eE it sc ctx g.iter&&lI sc scope (fE (g::gs)) &&
  n==(fE (g::gs)).length&&decide (slots++gh rest).Nodup&&((slots++gh rest).all fun i=>decide (ctx.length<=i)) &&
  (eX tup slots (bZ sc scope) (cg scope ctx (fE (g::gs))) g.target&&b0 ifs (bZ sc scope) (cg scope ctx (fE (g::gs))) g.ifs &&
  gj rest (bZ sc scope) (cg scope ctx (fE (g::gs))) gs elt)
 | _,_,_,_=>false
noncomputable def jt:IX->Scope->List (Option Str)->Option Expr->Bool
 | .cons a b,sc,ctx,e=>eu b&&vO e fun x=>chk a sc ctx x
 | .nil,_,_,e=>vN e true
 | _,_,_,_=>false
noncomputable def b0:IX->Scope->List (Option Str)->List Expr->Bool
 | .cons a b,sc,ctx,es=>vC es fun e r=>chk a sc ctx e&&b0 b sc ctx r
 | .nil,_,_,es=>v0 es true
 | _,_,_,_=>false
noncomputable def eE:IX->Scope->List (Option Str)->Expr->Bool
 | .range1 a,sc,ctx,e=>oq e fun g x=>g==ofString "range"&&bK sc g&&chk a sc ctx x
 | .range2 a b,sc,ctx,e=>uX e fun g x y=>g==ofString "range"&&bK sc g&&chk a sc ctx x&&chk b sc ctx y
 | .seq a,sc,ctx,e=>chk a sc ctx e
 | _,_,_,_=>false
noncomputable def gj:IX->Scope->List (Option Str)->List Comprehension->Expr->Bool
 | .gen tup slots it ifs rest,sc,ctx,gs,elt=>vC gs fun g gs=>g.is_async==0&&eY g.iter&&eE it sc ctx g.iter&&eX tup slots sc ctx g.target&&b0 ifs sc ctx g.ifs&&gj rest sc ctx gs elt
 | .emit e,sc,ctx,gs,elt=>v0 gs (chk e sc ctx elt)
 | _,_,_,_,_=>false
end
end
structure Glo where
 prog:Program
 w:World
 mg:Str->Option Value
 mb:Str->Option Value
 K:Frag
 hB:Heap
 SR:Srt->(Addr->Prop)->Heap->Value->Prop
structure Glo.Base(G:Glo)(O:Addr->Prop)(h:Heap):Prop where
 kp:∀b o,G.hB.get? b=some o->h.get? b=some o
 off:∀b,O b->G.hB.get? b=none
theorem Glo.Base.keeps{G:Glo}{O:Addr->Prop}{s s':Shared}(B:G.Base O s.heap)(k:Keeps s s'):G.Base O s'.heap :=
 ⟨fun b o e=>al k b o (B.kp b o e),B.off⟩
noncomputable def bQ:List (Str × Value):=[(ofString "len",.builtin "len"),(ofString "sum",.builtin "sum"),(ofString "min",.builtin "min"),(ofString "max",.builtin "max"),(ofString "range",.type "range"),
 (ofString "set",.type "set"),(ofString "iter",.builtin "iter"),(ofString "StopIteration",.type "StopIteration"),(ofString "ValueError",.type "ValueError"),(ofString "list",.type "list"),(ofString "tuple",.type "tuple"),
 (ofString "object",.type "object"),(ofString "isinstance",.builtin "isinstance"),(ofString "str",.type "str"),(ofString "bool",.type "bool"),(ofString "enumerate",.type "enumerate")]
theorem BM:bQ.all (fun p=>!(p.1==ofString "__debug__"))=true:=by decide +kernel
structure Glo.Wf(G:Glo):Prop where
 g:G.hB.Ns mainGlobals G.mg
 b:G.hB.Ns builtinsNs G.mb
 lim:G.hB.NoLimit
 K:G.K.In G.hB
 srf:∀g S (h h':Heap) v,G.SR g S h v->(∀b o,S b->h.get? b=some o->h'.get? b=some o)->(∀b o,G.hB.get? b=some o->h.get? b=some o)->(∀b o,G.hB.get? b=some o->h'.get? b=some o)->G.SR g S h' v
 bn:∀p∈bQ,G.mg p.1=none/\G.mb p.1=some p.2
structure EnvOk(env:Env)(sc:Scope):Prop where
 scope:env.scope=sc
 kind:sc.kind=.function
 globals:env.globals=mainGlobals
 builtins:env.builtins=builtinsNs
 noclass:∀x,sc.names.lookup x=some .free->(x==ofString "__classdict__")=false
 inj:∀x y c,env.cells.lookup x=some c->env.cells.lookup y=some c->x=y
 clk:∀x c,env.cells.lookup x=some c->sc.names.lookup x=some .cell\/sc.names.lookup x=some .free
structure FrameV(env:Env)(h:Heap)(val:Str->Option Value):Prop where
 loc:∃m,h.Ns env.locals m/\∀x,env.kindOf x=some .local->m x=val x
 cel:∀x,(env.kindOf x=some .cell\/env.kindOf x=some .free)->∃c,env.cells.lookup x=some c/\h.IsCell c (val x)
theorem FrameV.keeps{env:Env}{h h':Heap}{val:Str->Option Value}(F:FrameV env h val)(k:∀b o,h.get? b=some o->h'.get? b=some o):FrameV env h' val :=
 ⟨F.loc.elim fun m ζ=>ζ.elim fun h1 h2=>⟨m,h1.keeps k,h2⟩,fun x hx=>(F.cel x hx).elim fun c ζ=>ζ.elim fun h1 h2=>⟨c,h1,h2.keeps k⟩⟩
structure CtxOk(sc:Scope)(ctx:List (Option Str)):Prop where
 inj:∀(i j:Nat) (x:Str),ctx[i]? = some (some x)->ctx[j]? = some (some x)->i=j
 kd:∀(i:Nat) (x:Str),ctx[i]? = some (some x)->sc.names.lookup x=some .local\/sc.names.lookup x=some .cell\/sc.names.lookup x=some .free
noncomputable def a9(env:Env)(b:Addr):Prop:=b=env.locals\/(@LT.lt Nat _ env.locals b/\∃x,env.kindOf x=some .cell/\env.cells.lookup x=some b)
noncomputable def aT(env:Env)(b:Addr):Prop:=b=env.locals\/∃x,env.cells.lookup x=some b
theorem a9.store{env:Env}{b:Addr}(h:a9 env b):aT env b:=h.imp id fun h=>h.elim fun U ζ=>ζ.elim fun x ζ=>ζ.elim fun U e=>⟨x,e⟩
noncomputable def bu(env:Env)(ctx:List (Option Str))(i:Nat):Prop:=∀x c,ctx[i]? = some (some x)->env.kindOf x=some .cell->env.cells.lookup x=some c->@LT.lt Nat _ env.locals c
inductive OwnRep(O:Addr->Prop)(ω:Addr->Option Nat)(h:Heap)(i:Nat)(v:Option Value)(d:PyData):Prop where
 | mk (a:Addr) (vs:Array Value) (n:Nat) (ds:List PyData) (e1:v=some (.ref a)) (e2:ω a=some i) (e3:d=.list ds) (h1:IsL h a vs n) (h2:RepL O h vs.toList ds):OwnRep O ω h i v d
noncomputable def cC(G:Glo)(O:Addr->Prop)(ω:Addr->Option Nat)(h:Heap)(i:Nat)(v:Option Value):SV->Prop
 | .dat d=>∃u,v=some u/\Rep O h u d
 | .own d=>OwnRep O ω h i v d
 | .sor g=>∃u S,v=some u/\G.SR g S h u/\∀b,S b->ω b=some i
 | .val u=>v=some u
 | .un=>True
noncomputable def iI(G:Glo)(O:Addr->Prop)(ω:Addr->Option Nat)(h:Heap)(ctx:List (Option Str))(ρ:List SV)(val:Str->Option Value):Prop :=
 ∀(i:Nat) (x:Str),ctx[i]? = some (some x)->cC G O ω h i (val x) (ρ.getD i .un)
noncomputable def aJ(n:Nat)(A:Around):Prop:=A.depth+3 * n+60<=990/\A.units+16 * n+300<9900
theorem aJ.le{n m:Nat}{A:Around}(r:aJ n A)(h:m<=n):aJ m A:=⟨ae (dm (dQ (nN 3 h) _) 60) r.1,cR (dm (dQ (nN 16 h) _) 300) r.2⟩
theorem vE{d k m n c:Nat}(j:Nat)(hj:j<=k)(h:m+1<=n):d+j+k * m+c<=d+k * n+c :=
 dm (by rw[lj,Nat.add_comm j];exact dQ (ae (dQ hj _) (nN k h)) d) c
theorem aJ.deeper{n m:Nat}{A:Around}{env:Env}(r:aJ n A)(h:m+1<=n):aJ m (A.deeper env):=⟨ae (vE 1 (by decide) h) r.1,cR (vE 3 (by decide) h) r.2⟩
theorem aJ.fits{n:Nat}{A:Around}(r:aJ n A){k:Nat}(h:k<=60):A.depth+k<1000 :=
 cR (nM (ip _ (3 * n)) h) (cR r.1 (by decide))
theorem lJ{d n a b m:Nat}(h:d+n<m)(e:a+b<=n):d+a+b<m:=cR (lj d a b▸dQ e d) h
theorem oG{d n m:Nat}(h:d+n<m):d<m:=cR (ip ..) h
theorem aJ.units{n:Nat}{A:Around}(r:aJ n A):A.units+100<cLine :=
 cR (nM (ip _ (16 * n)) (by decide:100<=300)) r.2
inductive Vars(G:Glo)(env:Env)(O:Addr->Prop)(ω:Addr->Option Nat)(h:Heap)(ctx:List (Option Str))(ρ:List SV):Prop where
 | mk (val:Str->Option Value) (F:FrameV env h val) (V:iI G O ω h ctx ρ val):Vars G env O ω h ctx ρ
structure Cond(G:Glo)(env:Env)(sc:Scope)(ctx:List (Option Str))(A:Around)(O:Addr->Prop)(ω:Addr->Option Nat)(ρ:List SV)(s:Shared):Prop where
 eo:EnvOk env sc
 co:CtxOk sc ctx
 len:ρ.length=ctx.length
 ok:Okay A O s
 base:G.Base O s.heap
 fr:∀b,a9 env b->O b
 fc:∀x c,env.cells.lookup x=some c->O c
 om:∀b i,ω b=some i->O b/\¬aT env b
 vars:Vars G env O ω s.heap ctx ρ
theorem cC.at{G:Glo}{O:Addr->Prop}{ω:Addr->Option Nat}{h h':Heap}{i:Nat}(wf:G.Wf)(B:G.Base O h)(hk:∀b o,(ω b=some i\/¬O b)->h.get? b=some o->h'.get? b=some o){v:Option Value}{x:SV}(r:cC G O ω h i v x):cC G O ω h' i v x:=by
 cases x with
 | dat d=>refine x12 r fun u e r=>?_;exact⟨u,e,r.mono (fun b o n e=>hk b o (.inr n) e) fun U U U q=>q⟩
 | own d=>obtain⟨a,vs,n,ds,e1,e2,e3,h1,h2⟩:=r;exact⟨a,vs,n,ds,e1,e2,e3,hk _ _ (.inl e2) h1,h2.mono (fun b o n e=>hk b o (.inr n) e) fun U U U q=>q⟩
 | un=>trivial
 | val u=>exact r
 | sor g=>
  refine x23 r fun u S e r hS=>?_
  exact⟨u,S,e,wf.srf g S h h' u r (fun b o q e=>hk b o (.inl (hS b q)) e) (fun b o q=>B.kp b o q) fun b o q=>hk b o (.inr fun z=>by rw[B.off b z]at q;cases q) (B.kp b o q),hS⟩
theorem cC.keeps{G:Glo}{O:Addr->Prop}{ω:Addr->Option Nat}{s s':Shared}{i:Nat}(wf:G.Wf)(B:G.Base O s.heap)(k:Keeps s s'){v:Option Value}{x:SV}(r:cC G O ω s.heap i v x):cC G O ω s'.heap i v x :=
 r.at wf B fun b o U e=>al k b o e
theorem Cond.keeps{G:Glo}{env:Env}{sc:Scope}{ctx:List (Option Str)}{A:Around}{O:Addr->Prop}{ω:Addr->Option Nat}{ρ:List SV}{s s':Shared}(wf:G.Wf)(C:Cond G env sc ctx A O ω ρ s)(k:Keeps s s'):Cond G env sc ctx A O ω ρ s' :=
 ⟨C.eo,C.co,C.len,C.ok.keeps k,C.base.keeps k,C.fr,C.fc,C.om,let⟨val,F,V⟩:=C.vars;⟨val,F.keeps (al k),fun i x h=>(V i x h).keeps wf C.base k⟩⟩
theorem Cond.store_O{G:Glo}{env:Env}{sc:Scope}{ctx:List (Option Str)}{A:Around}{O:Addr->Prop}{ω:Addr->Option Nat}{ρ:List SV}{s:Shared}(C:Cond G env sc ctx A O ω ρ s){b:Addr}(h:aT env b):O b:=by
 rcases h with rfl | ⟨x,h⟩
 ·exact C.fr _ (.inl rfl)
 ·exact C.fc x b h
noncomputable def aN(G:Glo)(F:FEntry):Prop:=∃a o fd,G.mg F.name=some (.ref a)/\G.K.lookup a=some o/\o.data=.func fd /\
 ∀(A:Around) (s:Shared) (O:Addr->Prop) (vs:List Value) (ds:List PyData) (E:Value->Shared->Prop),aJ F.k A->Okay A O s->G.Base O s.heap->RepL O s.heap vs ds->F.pre ds ->
  wpAny (model G.prog G.w) A (call (.ref a) vs) (PV O s (F.val ds)) E s
section
variable{G:Glo}{env:Env}{sc:Scope}{ctx:List (Option Str)}{A:Around}{O:Addr->Prop}{ρ:List SV}{s:Shared}{E:Value->Shared->Prop}
theorem EnvOk.kindOf(e:EnvOk env sc)(x:Str):env.kindOf x=sc.names.lookup x:=by unfold Env.kindOf;rw[e.scope]
theorem EnvOk.kindS(e:EnvOk env sc):env.scope.kind=.function:=by rw[e.scope];exact e.kind
theorem gk{x:Str}{v:Value}{val:Str->Option Value}{Q:Value->Shared->Prop}(e:EnvOk env sc)(F:FrameV env s.heap val)(hv:val x=some v)
 (hk:sc.names.lookup x=some .local\/sc.names.lookup x=some .cell\/sc.names.lookup x=some .free) (h:Q v s):wpAny (model G.prog G.w) A (loadName env x) Q E s:=by
 rcases hk with hk | hk | hk
 ·refine x12 F.loc fun m hn hm=>?_
  exact wpAny_loadName_local e.kindS ((e.kindOf x).trans hk) hn ((hm x ((e.kindOf x).trans hk)).trans hv) h
 ·refine x12 (F.cel x (.inl ((e.kindOf x).trans hk))) fun c h1 h2=>?_
  exact wpAny_loadName_cell e.kindS ((e.kindOf x).trans hk) h1 (hv▸h2) h
 ·refine x12 (F.cel x (.inr ((e.kindOf x).trans hk))) fun c h1 h2=>?_
  exact wpAny_loadName_free e.kindS ((e.kindOf x).trans hk) h1 (hv▸h2) h (e.noclass x hk)
theorem gU{x:Str}{p:Pos}{v:Value}{Q:Value->Shared->Prop}(wf:G.Wf)(e:EnvOk env sc)(B:G.Base O s.heap)(hx:bK sc x=true)(hd:(x==ofString "__debug__")=false) (hv:G.mg x=some v) (h:Q v s) :
 wpAny (model G.prog G.w) A (eval (.Name x p) env) Q E s:=by
 refine Calls.Name_function_global e.kindS ((e.kindOf x).trans (by unfold bK at hx;exact eq_of_beq hx)) (Calls.loadGlobal_global ?_ hv h) hd
 rw[e.globals];exact wf.g.keeps B.kp
theorem gm{x:Str}{p:Pos}{v:Value}{Q:Value->Shared->Prop}(wf:G.Wf)(e:EnvOk env sc)(B:G.Base O s.heap)(hx:bK sc x=true)(hm:(x,v)∈bQ)(h:Q v s) :
 wpAny (model G.prog G.w) A (eval (.Name x p) env) Q E s:=by
 have hb:=wf.bn _ hm
 refine Calls.Name_function_global e.kindS ((e.kindOf x).trans (by unfold bK at hx;exact eq_of_beq hx)) (Calls.loadGlobal_builtin (mg:=G.mg) (mb:=G.mb) ?_ hb.1 ?_ hb.2 h) ?_
 ·rw[e.globals];exact wf.g.keeps B.kp
 ·rw[e.builtins];exact wf.b.keeps B.kp
 ·have:=aU.mp BM _ hm
  simpa using this
noncomputable def du:Expr->Bool
 | .Starred ..=>false
 | _=>true
theorem eZ{Φ:List FEntry}(e:IX){ast:Expr}(h:chk Φ e sc ctx ast=true):du ast=true:=by
 cases ast<;>first | rfl | (cases e<;>exact absurd h Kr)
theorem BN{env:Env}{a:Expr}{as:List Expr}(h:du a=true):starEach (a::as) env=(false,eval a env)::starEach as env:=by
 cases a<;>first | rfl | exact absurd h Kr
theorem gV{env:Env}:∀(as:List Expr),(∀a∈as,du a=true)->starEach as env=as.map fun a=>(false,eval a env)
 | [],_=>rfl
 | a::as,h=>(BN (h a ag)).trans (congrArg (_::·) (gV as fun b hb=>h b (ar _ hb)))
theorem ju{env:Env}(pos:Pos)(as:List Expr):backTo pos (as.map fun a=>(false,eval a env))=as.map fun a=>(false,eval a env):=by
 unfold backTo
 rw[dS]
 rfl
theorem fG{env:Env}(as:List Expr):(as.map fun a=>(false,eval a env)).any (·.1)=false:=by
 rw[List.any_map];simp
theorem gW{M:Model}{f:Value}{as:List Expr}{Q:Args->Shared->Prop}(h:wpAny M A (spliced (as.map fun a=>(false,eval a env))) (fun vs s'=>Q ⟨vs,[]⟩ s') E s) :
 wpAny M A (evalArgs f true (as.map fun a=>(false,eval a env)) []) Q E s:=by
 cases as with
 | nil =>
  unfold evalArgs
  show wpAny M A (spliced [] >>= _) Q E s
  refine wpAny_bind (wpAny_mono h (fun vs s' h'=>?_) fun U U x=>x)
  refine wpAny_holding ?_
  exact wpAny_bind (wpAny_pure (wpAny_bind (wpAny_pure (wpAny_pure h'))))
 | cons a as=>exact Calls.evalArgs_plain h
end
inductive KM(M:Addr->Prop)(s s':Shared):Prop where
 | mk (h':Heap) (t:Nat) (e:s'={ s with heap:=h',toks:=t }) (k:∀b o,¬M b->s.heap.get? b=some o->h'.get? b=some o) (th:∀b o,s.heap.get? b=some o->∃o',h'.get? b=some o'):KM M s s'
section
variable{M M':Addr->Prop}{s s' s'' s₀:Shared}
theorem KM.of(k:Keeps s s'):KM M s s':=by
 obtain⟨h,t,rfl,k⟩:=k
 exact⟨h,t,rfl,fun b o U e=>k b o e,fun b o e=>⟨o,k b o e⟩⟩
theorem KM.trans(x:KM M s s')(y:KM M s' s''):KM M s s'':=by
 obtain⟨h,t,rfl,k,e⟩:=x
 obtain⟨h',t',rfl,k',e'⟩:=y
 exact⟨h',t',rfl,fun b o n q=>k' b o n (k b o n q),fun b o q=>(e b o q).elim fun o' q'=>e' b o' q'⟩
theorem KM.mono(x:KM M s s')(h:∀b,M b->M' b):KM M' s s':=by
 obtain⟨h',t,rfl,k,e⟩:=x
 exact⟨h',t,rfl,fun b o n q=>k b o (fun z=>n (h b z)) q,e⟩
theorem KM.get(x:KM M s s'):∀b o,¬M b->s.heap.get? b=some o->s'.heap.get? b=some o:=by
 obtain⟨h',t,rfl,k,e⟩:=x;exact k
theorem KM.there(x:KM M s s'):∀b o,s.heap.get? b=some o->∃o',s'.heap.get? b=some o':=by
 obtain⟨h',t,rfl,k,e⟩:=x;exact e
theorem KM.keeps(k0:Keeps s₀ s)(x:KM M s s')(hM:∀b,M b->s₀.heap.get? b=none):Keeps s₀ s':=by
 refine x22 k0 fun h t e2 k=>?_;subst e2
 obtain⟨h',t',rfl,k',_⟩:=x
 exact⟨h',t',rfl,fun b o e=>k' b o (fun z=>by rw[hM b z]at e;cases e) (k b o e)⟩
theorem KM.chg{a:Addr}{h':Heap}{t:Nat}(hs:Heap.ExtBut a s.heap h')(ha:∃o,h'.get? a=some o)(hM:M a):KM M s { s with heap:=h',toks:=t } :=
 ⟨h',t,rfl,fun b o n e=>hs b o (fun q=>n (q▸hM)) e,fun b o e=>if q:b=a then q▸ha else⟨o,hs b o q e⟩⟩
theorem Okay.km{A:Around}{O:Addr->Prop}(ok:Okay A O s)(k:KM M s s')(hM:∀b,M b->O b):Okay A O s' :=
 ⟨ok.hok.frame fun b hb o e=>k.get b o (fun z=>ok.hno b hb (hM b z)) e,ok.hno,fun b hb=>(ok.obs b hb).elim fun o e=>k.there b o e⟩
theorem Glo.Base.km{G:Glo}{O:Addr->Prop}(B:G.Base O s.heap)(k:KM M s s')(hM:∀b,M b->O b):G.Base O s'.heap :=
 ⟨fun b o e=>k.get b o (fun z=>by rw[B.off b (hM b z)]at e;cases e) (B.kp b o e),B.off⟩
theorem RepL.km{O:Addr->Prop}{v:List Value}{d:List PyData}(r:RepL O s.heap v d)(k:KM M s s')(hM:∀b,M b->O b):RepL O s'.heap v d :=
 r.mono (fun b o n e=>k.get b o (fun z=>n (hM b z)) e) fun U U U q=>q
end
theorem BO{h:Heap}{a:Addr}{m:Str->Option Value}{vs:Array Value}{n:Nat}(x:h.Ns a m)(y:IsL h a vs n):False:=by
 refine x33 x fun o es ep e d U=>?_
 rw[y]at e;cases e;cases d
theorem vF{h:Heap}{a:Addr}{v:Option Value}{vs:Array Value}{n:Nat}(x:h.IsCell a v)(y:IsL h a vs n):False:=by
 refine x12 x fun o e d=>?_
 rw[y]at e;cases e;cases d
theorem qM{h:Heap}{a:Addr}{m:Str->Option Value}{v:Option Value}(x:h.Ns a m)(y:h.IsCell a v):False:=by
 refine x33 x fun o es ep e d U=>?_
 refine x12 y fun o' e' d'=>?_
 rw[e]at e';cases e';rw[d]at d';cases d'
theorem lK{h h':Heap}{c:Addr}{v:Option Value}(x:h.IsCell c v)(e:∀o,h.get? c=some o->h'.get? c=some o):h'.IsCell c v:=x.elim fun o ζ=>ζ.elim fun ho hd=>⟨o,e o ho,hd⟩
theorem lL{ρ:List SV}{i j:Nat}{x:SV}(h:i≠j):(ρ.set i x).getD j .un=ρ.getD j .un:=by
 rw[aq,aq,List.getElem?_set_ne h]
theorem c6{ρ:List SV}{i j:Nat}{x:SV}:(ρ.set i x).getD j .un=if i=j/\i<ρ.length then x else ρ.getD j .un:=by
 rw[aq,aq,List.getElem?_set]
 by_cases h:i=j
 ·subst h
  by_cases h2:i<ρ.length
  ·simp[h2]
  ·simp[h2]
 ·simp[h]
theorem FrameV.chg{env:Env}{h h':Heap}{val:Str->Option Value}{a:Addr}{vs:Array Value}{n:Nat}(F:FrameV env h val)(hl:IsL h a vs n)(hs:Heap.ExtBut a h h'):FrameV env h' val :=
 ⟨F.loc.elim fun m ζ=>ζ.elim fun h1 h2=>⟨m,h1.at' fun o e=>hs _ o (fun q=>BO (q▸h1) hl) e,h2⟩,
  fun x hx=>(F.cel x hx).elim fun c ζ=>ζ.elim fun h1 h2=>⟨c,h1,lK h2 fun o e=>hs _ o (fun q=>vF (q▸h2) hl) e⟩⟩
section
variable{G:Glo}{env:Env}{sc:Scope}{ctx:List (Option Str)}{A:Around}{O:Addr->Prop}{ω:Addr->Option Nat}{ρ:List SV}{s:Shared}{E:Value->Shared->Prop}
theorem Cond.frame{s':Shared}{ρ':List SV}{val:Str->Option Value}{M:Addr->Prop}(C:Cond G env sc ctx A O ω ρ s)(k:KM M s s')(hM:∀b,M b->O b)(hl:ρ'.length=ρ.length)(F:FrameV env s'.heap val)(V:iI G O ω s'.heap ctx ρ' val):Cond G env sc ctx A O ω ρ' s' :=
 ⟨C.eo,C.co,hl.trans C.len,C.ok.km k hM,C.base.km k hM,C.fr,C.fc,C.om,val,F,V⟩
theorem BP{x:Str}(h:aS sc x=true):sc.names.lookup x=some .local\/sc.names.lookup x=some .cell :=
 (Bool.or_eq_true_iff.mp h).imp eq_of_beq eq_of_beq
theorem dJ{i:Nat}{x:Str}{v:Value}{y:SV}{Q:Unit->Shared->Prop}(wf:G.Wf)(hs:bu env ctx i)(C:Cond G env sc ctx A O ω ρ s)(hi:ctx[i]? = some (some x))
 (hk:aS sc x=true) (r:cC G O ω s.heap i (some v) y)
 (h:∀s',KM (a9 env) s s'->Cond G env sc ctx A O ω (ρ.set i y) s'->Q () s'):wpAny (model G.prog G.w) A (storeName env x v) Q E s:=by
 have hk:=BP hk
 obtain⟨val,F,V⟩:=C.vars
 have vs:∀s',KM (a9 env) s s'->iI G O ω s'.heap ctx (ρ.set i y) (fun z=>if z=x then some v else val z):=by
  intro s' k j z hz
  rw[c6]
  show cC G O ω s'.heap j (if z=x then some v else val z) _
  have at':∀(j:Nat) (b:Addr) (o:Obj),(ω b=some j\/¬O b)->s.heap.get? b=some o->s'.heap.get? b=some o:=fun j b o hb e=>k.get b o (fun q=>by
   rcases hb with hb | hb
   ·exact(C.om b j hb).2 q.store
   ·exact hb (C.fr b q)) e
  by_cases h:i=j
  ·subst h
   have:z=x:=by rw[hi]at hz;cases hz;rfl
   subst this
   rw[if_pos rfl]
   split
   ·exact r.at wf C.base (at' i)
   ·rename_i h2
    have:ρ.getD i .un=.un:=by
     rw[aq,rN (by simpa using h2)];rfl
    rw[this];trivial
  ·have:z≠x:=fun q=>h (C.co.inj i j x hi (q▸hz))
   rw[if_neg this,if_neg (fun z=>h z.1)]
   exact(V j z hz).at wf C.base (at' j)
 rcases hk with hk | hk
 ·have hk':=(C.eo.kindOf x).trans hk
  refine x12 F.loc fun m hn hm=>?_
  refine wpAny_storeName_local hk' hn (fun h' hn' hs'=>?_) (by rw[C.eo.kindS];rfl)
  have k:KM (a9 env) s { s with heap:=h',toks:=s.toks+1 }:=KM.chg hs'.extBut (hn'.elim fun o ζ=>ζ.elim fun U ζ=>ζ.elim fun U ζ=>ζ.elim fun e U=>⟨o,e⟩) (.inl rfl)
  refine h _ k (C.frame k C.fr (val:=fun z=>if z=x then some v else val z) (by simp) ⟨⟨_,hn',fun y hy=>?_⟩,fun y hy=>?_⟩ (vs _ k))
  ·by_cases q:y=x
   ·simp[q]
   ·simp only[q,if_false];exact hm y hy
  ·refine x12 (F.cel y hy) fun c h1 h2=>?_
   have:y≠x:=fun q=>by subst q;rw[hk']at hy;rcases hy with hy | hy<;>cases hy
   rw[if_neg this]
   exact⟨c,h1,h2.sameBut hs' fun q=>qM hn (q▸h2)⟩
 ·have hk':=(C.eo.kindOf x).trans hk
  refine x12 (F.cel x (.inl hk')) fun c hc hv=>?_
  refine wpAny_storeName_cell C.eo.kindS hk' hc hv fun h' hc' hs'=>?_
  have k:KM (a9 env) s { s with heap:=h' }:=KM.chg hs'.extBut (hc'.elim fun o ζ=>ζ.elim fun e U=>⟨o,e⟩) (.inr ⟨hs x c hi hk' hc,x,hk',hc⟩)
  refine h _ k (C.frame k C.fr (val:=fun z=>if z=x then some v else val z) (by simp) ⟨?_,fun y hy=>?_⟩ (vs _ k))
  ·refine x12 F.loc fun m hn hm=>?_
   refine⟨m,hn.sameBut hs' fun q=>qM hn (q▸hv),fun y hy=>?_⟩
   have:y≠x:=fun q=>by subst q;rw[hk']at hy;cases hy
   rw[if_neg this];exact hm y hy
  ·refine x12 (F.cel y hy) fun c' h1 h2=>?_
   by_cases q:y=x
   ·subst q
    rw[hc]at h1;cases h1
    rw[if_pos rfl];exact⟨_,hc,hc'⟩
   ·rw[if_neg q]
    exact⟨c',h1,h2.sameBut hs' fun z=>q (C.eo.inj y x c (z▸h1) hc)⟩
theorem Cond.weak{ρ':List SV}(C:Cond G env sc ctx A O ω ρ s)(hl:ρ'.length=ρ.length)(h:∀i,ρ'.getD i .un=.un\/ρ'.getD i .un=ρ.getD i .un):Cond G env sc ctx A O ω ρ' s :=
 ⟨C.eo,C.co,hl.trans C.len,C.ok,C.base,C.fr,C.fc,C.om,let⟨val,F,V⟩:=C.vars;⟨val,F,fun i x e=>by
  rcases h i with q | q
  ·rw[q];trivial
  ·rw[q];exact V i x e⟩⟩
end
section
variable{prog:Program}{w:World}{A:Around}{E:Value->Shared->Prop}{O:Addr->Prop}
theorem vG{I:Addr}{fp wr:List Addr}{n:Nat}{P:Nat->Value->Prop}{St:Nat->Heap->Prop}(W:Walks prog w A I fp wr n P St) :
 ∀(m i:Nat) (s:Shared) (Q:List Value->Shared->Prop),St i s.heap->i+m<=n ->
  (∀vs h' t,vs.length=m->(∀(j:Nat) (v:Value),vs[j]? = some v->P (i+j) v)->St (i+m) h'->(∀b o,b∉wr->s.heap.get? b=some o->h'.get? b=some o)->Q vs { s with heap:=h',toks:=t }) ->
  wpAny (model prog w) A (draw (.ref I) m) Q E s
 | 0,i,s,Q,st,_,h=>by
  show wpAny _ _ (pure []) Q E s
  exact wpAny_pure (h [] s.heap s.toks rfl (by simp) st fun U U U e=>e)
 | m+1,i,s,Q,st,hle,h=>by
  show wpAny _ _ (pyNext (.ref I) >>= _) Q E s
  refine wpAny_bind (W.item i _ _ _ (by lia) st fun v h₁ t₁ hp st₁ k₁=>?_)
  refine wpAny_bind (wpAny_holding (vG W m (i+1) _ _ st₁ (by lia) fun vs h₂ t₂ hl hv st₂ k₂=>wpAny_pure ?_))
  refine h (v::vs) h₂ t₂ (by simp[hl]) (fun j u hj=>?_) (by rw[show i+(m+1)=i+1+m by lia];exact st₂) fun b o hb e=>k₂ b o hb (k₁ b o hb e)
  cases j with
  | zero=>simp at hj;subst hj;exact hp
  | succ j=>simp at hj;rw[show i+(j+1)=i+1+j by lia];exact hv j u hj
end
section
variable{G:Glo}{env:Env}{sc:Scope}{ctx:List (Option Str)}{A:Around}{O:Addr->Prop}{ω:Addr->Option Nat}{s:Shared}{E:Value->Shared->Prop}
theorem jv{ρ:List SV}{i:Nat}{x:Str}{p:Pos}{v:Value}{d:PyData}{Q:Unit->Shared->Prop}(wf:G.Wf)(hs:bu env ctx i)(C:Cond G env sc ctx A O ω ρ s)(hi:ctx[i]? = some (some x))(hk:aS sc x=true)(r:Rep O s.heap v d)
 (h:∀s',KM (a9 env) s s'->Cond G env sc ctx A O ω (ρ.set i (.dat d)) s'->Q () s'):wpAny (model G.prog G.w) A (assign (.Name x p) env v) Q E s :=
 wpAny_assign_Name (dJ (y:=.dat d) wf hs C hi hk ⟨v,rfl,r⟩ h)
theorem vH:∀(slots:List Nat) (es:List Expr),eD sc ctx slots es=true->(assignEach es env).length=slots.length/\(assignEach es env).findIdx? (·.1)=none
 | [],[],_=>⟨rfl,rfl⟩
 | [],_::_,h=>absurd h Kr
 | _::_,[],h=>absurd h Kr
 | i::is,e::es,h=>aO (show((cf e fun x U=>ctx[i]? == some (some x)&&aS sc x)&&eD sc ctx is es)=true from h) fun h1 h2=>by
  refine ak (vH is es h2) fun h3 h4=>?_
  refine eR (P:=fun e=>(assignEach (e::es) env).length=(i::is).length/\(assignEach (e::es) env).findIdx? (·.1)=none) h1 fun x p U=>⟨congrArg (· + 1) h3,?_⟩
  show List.findIdx? _ (_::assignEach es env)=_
  rw[List.findIdx?_cons,h4];rfl
theorem vI{ρ:List SV}{tup:Bool}{slots:List Nat}{tgt:Expr}{v:Value}{d:PyData}{Q:Unit->Shared->Prop}(wf:G.Wf)(hst:∀i∈slots,bu env ctx i)(hc:eX tup slots sc ctx tgt=true)(C:Cond G env sc ctx A O ω ρ s)(r:Rep O s.heap v d)(hb:bindP tup slots d)
 (h:∀s',KM (a9 env) s s'->Cond G env sc ctx A O ω (ay tup slots d ρ) s'->Q () s'):wpAny (model G.prog G.w) A (assign tgt env v) Q E s:=by
 refine aO hc fun ht hc=>?_
 refine c0 (P:=fun slots=>(∀i∈slots,bu env ctx i)->(∀s',KM (a9 env) s s'->Cond G env sc ctx A O ω (ay tup slots d ρ) s'->Q () s')->wpAny (model G.prog G.w) A (assign tgt env v) Q E s) hc (fun i hc hst h=>?_) hst h
 refine eR (P:=fun tgt=>wpAny (model G.prog G.w) A (assign tgt env v) Q E s) hc fun x p hc=>?_
 refine aO hc fun h1 h2=>?_
 cases tup with
 | true=>exact absurd ht Kr
 | false=>exact jv wf (hst i ag) C (eq_of_beq h1) h2 r fun s' k C'=>h s' k C'
end
noncomputable def gX(elt:Expr)(gens:List Comprehension)(scope:Scope)(pos:Pos)(depth:Nat)(acc:Value)(env:Env)(k:Sem Fin):Sem Fin :=
 match gens[depth+1]? with
 | some g'=>do
  let x <- eval g'.iter env
  standAt g'.iter.pos
  let x <- foldedSetIterable g'.iter env x
  let _ <- runOwn (.compStart (.ListComp elt gens scope pos) (depth+1) (<- holding [x] (pyIter x)) acc env) env
  k
 | none=>((eval elt env >>= fun x=>call (.builtin "list.append") [acc,x] >>= fun U=>pure ()):Sem Unit) >>= fun U=>k
noncomputable def go(gens:List Comprehension):Bool:=gens.all fun g=>g.is_async==0
theorem vJ{elt tgt iter:Expr}{ifs:List Expr}{gens:List Comprehension}{scope:Scope}{pos:Pos}{depth:Nat}{it acc:Value}{env:Env}(hz:go gens=true)(hg:gens[depth]? = some ⟨tgt,iter,ifs,0⟩) :
 compTurn (.ListComp elt gens scope pos) depth it acc env=(do
  standAt iter.pos
  match <- pyNext it with
  | none=>pure (.done .next)
  | some v =>
   letOwnedTupleGo tgt it v
   assign tgt env v
   let mut ok:=true
   for c in ifs do
    if ok then ok <- isTrue c env (eval c env)
   if ok then
    gX elt gens scope pos depth acc env (again (.compLoop (.ListComp elt gens scope pos) depth it acc env))
   else again (.compLoop (.ListComp elt gens scope pos) depth it acc env)):=by
 unfold compTurn gX
 dsimp only
 rw[hg]
 dsimp only
 cases h:gens[depth+1]? with
 | none=>rfl
 | some g =>
  have:g.is_async=0:=by
   have:=aU.mp hz g (aE h)
   simpa using this
  obtain⟨a,b,c,d⟩:=g
  dsimp only at this
  subst this
  rfl
section
variable{prog:Program}{w:World}{A:Around}{E:Value->Shared->Prop}{R:Result->Shared->Prop}{s:Shared}
theorem qN{elt:Expr}{gens:List Comprehension}{scope:Scope}{pos:Pos}{depth:Nat}{it acc:Value}{env:Env}{tgt iter:Expr}{ifs:List Expr}(hg:gens[depth]? = some ⟨tgt,iter,ifs,0⟩)
 (h0:codeAny (model prog w) A (.compLoop (.ListComp elt gens scope pos) depth it acc env) R s)
 (h:∀E,wpAny (model prog w) A (pyIter it) (fun it' s'=>codeAny (model prog w) A (.compLoop (.ListComp elt gens scope pos) depth it' acc env) R s') E s) :
 codeAny (model prog w) A (.compStart (.ListComp elt gens scope pos) depth it acc env) R s:=by
 refine codeAny_of_tree ?_
 show wpAny _ A ((compStart (.ListComp elt gens scope pos) depth it acc env).onRaise (fun x=>do noteFrame x env;standAt theWindowsPlace)) _ _ s
 refine wpAny_notedAt ?_
 unfold compStart
 have hc:(clausesOf (.ListComp elt gens scope pos))[depth]? = some ⟨tgt,iter,ifs,0⟩:=hg
 rw[hc]
 show wpAny _ _ (ask >>= _) _ _ s
 refine wpAny_bind (wpAny_askSetting (wpAny_ite ?_))
 split
 ·exact wpAny_bind (wpAny_pure (wpAny_pure (And.intro rfl h0)))
 ·refine wpAny_bind (wpAny_rule ?_)
  show wpAny _ _ (standAt iter.pos >>= _) _ _ s
  exact wpAny_bind (wpAny_standAt (wpAny_bind (wpAny_mono (h _) (fun it' s' h'=>wpAny_pure (And.intro rfl h')) fun U U x=>x)))
end
noncomputable def MS(env:Env)(D:Addr)(b:Addr):Prop:=a9 env b\/b=D
inductive AccIs(G:Glo)(O:Addr->Prop)(D:Addr)(h:Heap)(ds:List PyData):Prop where
 | mk (vs:Array Value) (n:Nat) (l:IsL h D vs n) (r:RepL O h vs.toList ds):AccIs G O D h ds
section
variable{G:Glo}{env:Env}{sc:Scope}{ctx:List (Option Str)}{A:Around}{O O':Addr->Prop}{ω:Addr->Option Nat}{ρ:List SV}{s s' s₀ s₁:Shared}{E:Value->Shared->Prop}{D:Addr}{ds:List PyData}
theorem AccIs.km{M:Addr->Prop}(a:AccIs G O D s.heap ds)(k:KM M s s')(hD:¬M D)(hM:∀b,M b->O b):AccIs G O D s'.heap ds :=
 let⟨vs,n,h1,h2⟩:=a;⟨vs,n,k.get _ _ hD h1,h2.km k hM⟩
theorem AccIs.keeps(a:AccIs G O D s.heap ds)(k:Keeps s s'):AccIs G O D s'.heap ds :=
 let⟨vs,n,h1,h2⟩:=a;⟨vs,n,al k _ _ h1,h2.keeps k⟩
theorem AccIs.grow(a:AccIs G O D s.heap ds)(k:Keeps s s')(hO:∀b,O' b->O b\/s.heap.get? b=none):AccIs G O' D s'.heap ds :=
 let⟨vs,n,h1,h2⟩:=a
 ⟨vs,n,al k _ _ h1,h2.mono (fun b o U e=>al k b o e) fun b o e q=>(hO b q).elim id fun z=>by rw[z]at e;cases e⟩
theorem cC.grow{h h':Heap}{i:Nat}{v:Option Value}{x:SV}(r:cC G O ω h i v x)(wf:G.Wf)(B:G.Base O h)(hk:∀b o,h.get? b=some o->h'.get? b=some o)(hO:∀b,O' b->O b\/h.get? b=none):cC G O' ω h' i v x:=by
 have hO':∀b o,h.get? b=some o->O' b->O b:=fun b o e q=>(hO b q).elim id fun z=>by rw[z]at e;cases e
 cases x with
 | dat d=>refine x12 r fun u e r=>?_;exact⟨u,e,r.mono (fun b o U e=>hk b o e) hO'⟩
 | own d=>obtain⟨a,vs,n,ds,e1,e2,e3,h1,h2⟩:=r;exact⟨a,vs,n,ds,e1,e2,e3,hk _ _ h1,h2.mono (fun b o U e=>hk b o e) hO'⟩
 | un=>trivial
 | val u=>exact r
 | sor g =>
  refine x23 r fun u S e r hS=>?_
  exact⟨u,S,e,wf.srf g S h h' u r (fun b o q e=>hk b o e) (fun b o q=>B.kp b o q) fun b o q=>hk b o (B.kp b o q),hS⟩
theorem Cond.grow(wf:G.Wf)(C:Cond G env sc ctx A O ω ρ s)(k:Keeps s s')(hO:∀b,O b->O' b)(hO':∀b,O' b->O b\/s.heap.get? b=none)(ht:∀b,O' b->∃o,s'.heap.get? b=some o):Cond G env sc ctx A O' ω ρ s' :=
 ⟨C.eo,C.co,C.len,⟨C.ok.hok.keeps k,fun b hb q=>(hO' b q).elim (C.ok.hno b hb) fun z=>by(refine x11 (C.ok.hok.there b hb) fun o e=>?_;rw[z]at e;cases e),ht⟩,
  ⟨(C.base.keeps k).kp,fun b q=>(hO' b q).elim (C.base.off b) fun z=>by
   cases e:G.hB.get? b with
   | none=>rfl
   | some o=>rw[C.base.kp b o e]at z;cases z⟩,
  fun b q=>hO b (C.fr b q),fun x c e=>hO c (C.fc x c e),fun b i e=>⟨hO b (C.om b i e).1,(C.om b i e).2⟩,
  let⟨val,F,V⟩:=C.vars;⟨val,F.keeps (al k),fun i x e=>(V i x e).grow wf C.base (al k) hO'⟩⟩
theorem Cond.side{I:Addr}(wf:G.Wf)(C:Cond G env sc ctx A O' ω ρ s)(hω:∀b i,ω b=some i->O b)(hfr:∀b,a9 env b->O b)(hfc:∀x c,env.cells.lookup x=some c->O c)(hI:¬O I)(hI':O' I)
 (k:KM (· = I) s s'):Cond G env sc ctx A O' ω ρ s':=by
 have hM:∀b,b=I->O' b:=fun b q=>q▸hI'
 obtain⟨val,F,V⟩:=C.vars
 refine C.frame k hM (val:=val) rfl ⟨?_,fun x hx=>?_⟩ fun i x e=>(V i x e).at wf C.base fun b o hb e=>k.get b o (fun q=>?_) e
 ·refine x12 F.loc fun m h1 h2=>?_
  exact⟨m,h1.at' fun o e=>k.get _ o (fun q=>hI (q▸hfr _ (.inl rfl))) e,h2⟩
 ·refine x12 (F.cel x hx) fun c h1 h2=>?_
  exact⟨c,h1,lK h2 fun o e=>k.get _ o (fun q=>hI (q▸hfc x c h1)) e⟩
 ·have q:b=I:=q
  rcases hb with hb | hb
  ·exact hI (q▸hω b i hb)
  ·exact hb (q▸hI')
theorem Cond.shrink{I:Addr}{h':Heap}{t:Nat}(wf:G.Wf)(C:Cond G env sc ctx A O' ω ρ s)(hO:∀b,O b->O' b)(hω:∀b i,ω b=some i->O b)(hfr:∀b,a9 env b->O b)(hfc:∀x c,env.cells.lookup x=some c->O c)(hI:¬O I)(hI':O' I)(hIh:I∉hfp A)
 (hk:∀b o,b≠I->s.heap.get? b=some o->h'.get? b=some o):Cond G env sc ctx A O ω ρ { s with heap:=h',toks:=t }:=by
 obtain⟨val,F,V⟩:=C.vars
 refine⟨C.eo,C.co,C.len,⟨C.ok.hok.frame fun b hb o e=>hk b o (fun q=>hIh (q▸hb)) e,fun b hb q=>C.ok.hno b hb (hO b q),fun b q=>?_⟩,⟨fun b o e=>hk b o (fun q=>?_) (C.base.kp b o e),fun b q=>C.base.off b (hO b q)⟩,hfr,hfc,fun b i e=>⟨hω b i e,(C.om b i e).2⟩,val,⟨?_,fun x hx=>?_⟩,fun i x e=>?_⟩
 ·refine x11 (C.ok.obs b (hO b q)) fun o e=>?_
  exact⟨o,hk b o (fun z=>hI (z▸q)) e⟩
 ·rw[q,C.base.off I hI']at e;cases e
 ·refine x12 F.loc fun m h1 h2=>?_
  exact⟨m,h1.at' fun o e=>hk _ o (fun q=>hI (q▸hfr _ (.inl rfl))) e,h2⟩
 ·refine x12 (F.cel x hx) fun c h1 h2=>?_
  exact⟨c,h1,lK h2 fun o e=>hk _ o (fun q=>hI (q▸hfc x c h1)) e⟩
 ·have r:=V i x e
  have hkk:∀b o,¬O' b->s.heap.get? b=some o->h'.get? b=some o:=fun b o n e=>hk b o (fun q=>n (q▸hI')) e
  have hww:∀b o,O b->s.heap.get? b=some o->O b:=fun b o q U=>q
  generalize ρ.getD i .un=y at r
  cases y with
  | dat d=>refine x12 r fun u e r=>?_;exact⟨u,e,(r.mono hkk fun U U U q=>q).weak hO⟩
  | own d =>
   obtain⟨a,vs,n,ds,e1,e2,e3,h1,h2⟩:=r
   exact⟨a,vs,n,ds,e1,e2,e3,hk _ _ (fun q=>hI (q▸hω a i e2)) h1,h2.mono hkk fun b o U q=>hO b q⟩
  | un=>trivial
  | val u=>exact r
  | sor g =>
   refine x23 r fun u S e r hS=>?_
   refine⟨u,S,e,wf.srf g S s.heap h' u r (fun b o q e=>hk b o (fun z=>hI (z▸hω b i (hS b q))) e) (fun b o q=>C.base.kp b o q) (fun b o q=>hk b o (fun z=>?_) (C.base.kp b o q)),hS⟩
   rw[z,C.base.off I hI']at q;cases q
theorem vK:∀(slots:List Nat) (ds:List PyData) (ρ:List SV) (i:Nat),i∉slots->(gQ ρ slots ds).getD i .un=ρ.getD i .un
 | [],_,_,_,_=>rfl
 | _::_,[],_,_,_=>rfl
 | j::js,d::ds,ρ,i,h=>by
  rw[show gQ ρ (j::js) (d::ds)=gQ (ρ.set j (.dat d)) js ds from rfl,vK js ds _ i fun q=>h (ar _ q),c6]
  rw[if_neg fun z=>h (by rw[<- z.1];exact ag)]
theorem qO{tup:Bool}{slots:List Nat}{d:PyData}{i:Nat}(h:i∉slots):(ay tup slots d ρ).getD i .un=ρ.getD i .un:=by
 unfold ay;split<;>exact vK _ _ _ _ h
theorem vL:∀(slots:List Nat) (ds:List PyData) (ρ:List SV),(gQ ρ slots ds).length=ρ.length
 | [],_,_=>rfl
 | _::_,[],_=>rfl
 | j::js,d::ds,ρ=>by rw[show gQ ρ (j::js) (d::ds)=gQ (ρ.set j (.dat d)) js ds from rfl,vL js ds];exact pJ
theorem BQ{tup:Bool}{slots:List Nat}{d:PyData}:(ay tup slots d ρ).length=ρ.length:=by
 unfold ay;split<;>exact vL _ _ _
theorem vM{v:Value}{d:PyData}{Q:Value->Shared->Prop}(a:AccIs G O D s.heap ds)(hD:O D)(r:Rep O s.heap v d)(hl:ds.length<=16777216)
 (h:∀h',Heap.SameBut D s.heap h'->AccIs G O D h' (ds++[d])->(∃vs n,IsL s.heap D vs n)->Q .none { s with heap:=h' }):wpAny (model G.prog G.w) A (call (.builtin "list.append") [.ref D,v]) Q E s:=by
 obtain⟨vs,n,h1,h2⟩:=a
 have e:=h2.length
 rw[cj]at e
 refine append_at h1 (fun h' hs hD'=>h h' hs ⟨_,_,hD',?_⟩ ⟨vs,n,h1⟩) (by show vs.size<=sizeLine;rw[e];exact hl)
 rw[Array.toList_push]
 have hk:∀b o,¬O b->s.heap.get? b=some o->h'.get? b=some o:=fun b o n e=>hs.extBut b o (fun q=>n (q▸hD)) e
 exact(h2.mono hk fun U U U q=>q).append (.cons (r.mono hk fun U U U q=>q) .nil)
inductive KI(M:Addr->Prop)(I:Addr)(s s':Shared):Prop where
 | mk (h':Heap) (t:Nat) (e:s'={ s with heap:=h',toks:=t }) (k:∀b o,¬M b->b≠I->s.heap.get? b=some o->h'.get? b=some o) (th:∀b o,b≠I->s.heap.get? b=some o->∃o',h'.get? b=some o'):KI M I s s'
theorem KI.km{M:Addr->Prop}{I:Addr}(k0:Keeps s₀ s)(hI:s₀.heap.get? I=none)(k:KI M I s s'):KM M s₀ s':=by
 refine x22 k0 fun h1 t1 e2 g01=>?_;subst e2
 obtain⟨h2,t2,rfl,g12,th12⟩:=k
 have ne:∀b o,s₀.heap.get? b=some o->b≠I:=fun b o e q=>by rw[q,hI]at e;cases e
 exact⟨h2,t2,rfl,fun b o n e=>g12 b o n (ne b o e) (g01 b o e),fun b o e=>th12 b o (ne b o e) (g01 b o e)⟩
structure CI(G:Glo)(env:Env)(sc:Scope)(ctx:List (Option Str))(A:Around)(O':Addr->Prop)(ω:Addr->Option Nat)(ρ:List SV)(D I:Addr)(s₁:Shared)(St:Heap->Prop)(ds:List PyData)(s:Shared):Prop where
 st:St s.heap
 C:Cond G env sc ctx A O' ω ρ s
 a:AccIs G O' D s.heap ds
 k:KM (fun b=>MS env D b\/b=I) s₁ s
theorem vP{elt tgt iter:Expr}{tests:List Expr}{gens:List Comprehension}{scope:Scope}{pos:Pos}{depth:Nat}{its:List PyData}{I:Addr}{fp wr:List Addr}{P:Nat->Value->Prop}{St:Nat->Heap->Prop}{R:Result->Shared->Prop}{tup:Bool}{slots:List Nat}
 {T:PyData->Bool} {f:PyData->List PyData} {Oh:Addr->Prop} {h₀:Heap} (wf:G.Wf) (hz:go gens=true) (hg:gens[depth]? = some ⟨tgt,iter,tests,0⟩)
 (C:Cond G env sc ctx A (fun b=>O b\/b=I) ω ρ s₁) (hω:∀b i,ω b=some i->O b) (hfr:∀b,a9 env b->O b) (hfc:∀x c,env.cells.lookup x=some c->O c) (hnI:¬O I)
 (hD:O D) (hDF:¬a9 env D) (acc:AccIs G (fun b=>O b\/b=I) D s₁.heap ds)
 (W:Walks G.prog G.w A I fp wr its.length P St) (hst:St 0 s₁.heap) (hfM:∀b∈fp,¬MS env D b) (hwr:wr=[I])
 (htame:∀i h',St i h'->∃o T,h'.get? I=some o/\o.cls=.type T/\iH T=true)
 (hO1:∀b o,h₀.get? b=some o->(O b\/b=I)->Oh b) (k0:∀b o,¬Oh b->h₀.get? b=some o->s₁.heap.get? b=some o)
 (hit:∀i v,P i v->∃d,its[i]? = some d/\∀h',(∀b o,¬Oh b->h₀.get? b=some o->h'.get? b=some o)->Rep Oh h' v d)
 (hsl:∀i∈slots,ρ.getD i .un=.un) (hsto:∀i∈slots,bu env ctx i) (htgt:eX tup slots sc ctx tgt=true) (hb:∀d∈its,bindP tup slots d)
 (htest:∀d∈its,∀O' s E,Cond G env sc ctx A O' ω (ay tup slots d ρ) s ->
  wpAny (model G.prog G.w) A (forIn tests true fun c r=>if r=true then do let ok <- isTrue c env (eval c env);pure (ForInStep.yield ok)else pure (ForInStep.yield r)) (fun b s'=>b=T d/\Keeps s s') E s)
 (hbody:∀d∈its,T d=true->∀O' ds' s k Q E,Cond G env sc ctx A O' ω (ay tup slots d ρ) s->O' D->AccIs G O' D s.heap ds'->ds'.length+(f d).length<=16777216 ->
  (∀s',KM (MS env D) s s'->Cond G env sc ctx A O' ω (ay tup slots d ρ) s'->AccIs G O' D s'.heap (ds'++f d)->wpAny (model G.prog G.w) A k Q E s') ->
  wpAny (model G.prog G.w) A (gX elt gens scope pos depth (.ref D) env k) Q E s)
 (hlen:ds.length+(its.flatMap fun d=>if T d=true then f d else[]).length<=16777216)
 (hR:∀s',KI (MS env D) I s₁ s'->Cond G env sc ctx A O ω ρ s'->AccIs G O D s'.heap (ds++its.flatMap fun d=>if T d=true then f d else[])->R (.ok .next) s') :
 codeAny (model G.prog G.w) A (.compLoop (.ListComp elt gens scope pos) depth (.ref I) (.ref D) env) R s₁:=by
 subst hwr
 have hIf:I∉hfp A:=fun q=>C.ok.hno I q (.inr rfl)
 have hDI:D≠I:=fun q=>hnI (q▸hD)
 have hMO:∀b,MS env D b->O b:=fun b q=>q.elim (hfr b) fun z=>z▸hD
 generalize hg':(fun d=>if T d=true then f d else[])=g at hlen hR
 refine codeAny_loop rfl (fun n s=>∃i,i<=its.length/\n=its.length+1 - i/\CI G env sc ctx A (fun b=>O b\/b=I) ω ρ D I s₁ (St i) (ds++(its.take i).flatMap g) s) ?_ (its.length+1) ⟨0,aW _,rfl,hst,C,by simpa using acc,KM.of (br _)⟩
 rintro n s ⟨i,hi,rfl,hst,C1,a1,k1⟩
 show wpAny _ A ((compTurn (.ListComp elt gens scope pos) depth (.ref I) (.ref D) env).onRaise (fun x=>do noteFrame x env;theTreesLotGoes x)) _ _ s
 refine wpAny_noted ?_
 rw[vJ hz hg]
 by_cases hlt:i<its.length
 ·refine wpAny_bind (wpAny_standAt (wpAny_bind (W.item i _ _ _ hlt hst fun v h₂ t₂ hP hst₂ hk₂=>?_)))
  refine x23 (htame (i+1) h₂ hst₂) fun oI TI hoI hcI htI=>?_
  refine wpAny_bind (lE hoI hcI htI ?_)
  have k2:KM (· = I) s { s with heap:=h₂,toks:=t₂ }:=⟨h₂,t₂,rfl,fun b o n e=>hk₂ b o (by simpa using n) e,fun b o e=>if q:b=I then q▸⟨oI,hoI⟩else⟨o,hk₂ b o (by simpa using q) e⟩⟩
  have C2:=C1.side wf hω hfr hfc hnI (.inr rfl) k2
  refine x12 (hit i v hP) fun d hd rd=>?_
  have hmem:d∈its:=aE hd
  have kept:∀b o,¬Oh b->h₀.get? b=some o->h₂.get? b=some o:=fun b o n e=>by
   have n1:¬(O b\/b=I):=fun q=>n (hO1 b o e q)
   exact hk₂ b o (by simpa using fun q=>n1 (.inr q)) (k1.get b o (fun q=>q.elim (fun z=>n1 (.inl (hMO b z))) fun z=>n1 (.inr z)) (k0 b o n e))
  have rd':Rep (fun b=>O b\/b=I) h₂ v d:=(rd h₀ fun U U U e=>e).mono kept fun b o e q=>hO1 b o e q
  have a2:AccIs G (fun b=>O b\/b=I) D h₂ (ds++(its.take i).flatMap g):=a1.km k2 hDI fun b q=>.inr q
  refine wpAny_bind (vI wf hsto htgt C2 rd' (hb d hmem) fun s3 k3 C3=>?_)
  have a3:=a2.km k3 hDF fun b q=>.inl (hfr b q)
  refine wpAny_bind (wpAny_mono (htest d hmem _ s3 _ C3) (fun b s4 h4=>?_) fun U U x=>x)
  refine ak h4 fun e0 k4=>?_;subst e0
  have C4:=C3.keeps wf k4
  have a4:=a3.keeps k4
  have e1:its.take (i+1)=its.take i++[d]:=by rw[List.take_add_one,hd];rfl
  have e2:(its.take (i+1)).flatMap g=(its.take i).flatMap g++g d:=by rw[e1,cV];simp
  have hwk:∀j,ρ.getD j .un=.un\/ρ.getD j .un=(ay tup slots d ρ).getD j .un:=fun j=>if q:j∈slots then .inl (hsl j q)else .inr (qO q).symm
  have fin:∀s5,KM (MS env D) s4 s5->Cond G env sc ctx A (fun b=>O b\/b=I) ω (ay tup slots d ρ) s5->AccIs G (fun b=>O b\/b=I) D s5.heap (ds++(its.take i).flatMap g++g d) ->
   ∃m,m<its.length+1 - i/\∃i,i<=its.length/\m=its.length+1 - i/\CI G env sc ctx A (fun b=>O b\/b=I) ω ρ D I s₁ (St i) (ds++(its.take i).flatMap g) s5:=by
   intro s5 k5 C5 a5
   refine⟨its.length+1 - (i+1),Nat.sub_lt_sub_left (gG hlt) (i3 i),i+1,hlt,rfl,?_,C5.weak BQ.symm hwk,by rw[e2,<- List.append_assoc];exact a5,?_⟩
   ·refine W.frame _ _ _ hst₂ fun b hb o e=>?_
    exact k5.get b o (hfM b hb) (al k4 b o (k3.get b o (fun q=>hfM b hb (.inl q)) e))
   ·exact((k1.trans (k2.mono fun b q=>.inr q)).trans ((k3.mono fun b q=>.inl (.inl q)).trans (KM.of k4))).trans (k5.mono fun b q=>.inl q)
  cases hT:T d with
  | false =>
   rw[if_neg Kr]
   have hgd:g d=[]:=by rw[<- hg'];simp[hT]
   exact wpAny_pure ⟨rfl,fin s4 (KM.of (br _)) C4 (by rw[hgd,c5];exact a4)⟩
  | true =>
   rw[if_pos rfl]
   have hgd:g d=f d:=by rw[<- hg'];simp[hT]
   refine hbody d hmem hT _ _ s4 _ _ _ C4 (.inl hD) a4 ?_ fun s5 k5 C5 a5=>wpAny_pure ⟨rfl,fin s5 k5 C5 (by rw[hgd];exact a5)⟩
   have:((its.take (i+1)).flatMap g).length<=(its.flatMap g).length:=by
    conv=>rhs;rw[<- List.take_append_drop (i+1) its,cV,bb]
    exact ip ..
   rw[e2,hgd,bb]at this
   rw[bb];exact ae (cI (lj ..)) (ae (dQ this _) hlen)
 ·have hin:i=its.length:=m8 hi (cy.mp hlt)
  subst hin
  refine wpAny_bind (wpAny_standAt (wpAny_bind (W.done _ _ _ hst fun h₂ t₂ hk₂=>wpAny_pure ?_)))
  have hk:∀b o,b≠I->s.heap.get? b=some o->h₂.get? b=some o:=fun b o n e=>hk₂ b o (by simpa using n) e
  obtain⟨h2,t2,e12,g12,th12⟩:=k1
  subst e12
  refine hR _ ⟨h₂,t₂,rfl,fun b o n nI e=>?_,fun b o nI e=>?_⟩ (C1.shrink wf (fun b q=>.inl q) hω hfr hfc hnI (.inr rfl) hIf hk) ?_
  ·exact hk b o nI (g12 b o (fun q=>q.elim n nI) e)
  ·refine x11 (th12 b o e) fun o' e'=>?_
   exact⟨o',hk b o' nI e'⟩
  ·rw[jl]at a1
   obtain⟨vs,n,l1,l2⟩:=a1
   exact⟨vs,n,hk _ _ hDI l1,l2.mono (fun b o n e=>hk b o (fun q=>n (.inr q)) e) fun b o U q=>.inl q⟩
end
noncomputable def cE:Nat->List (Str × NameKind)->List (Str × Addr)
 | _,[]=>[]
 | n,(x,k)::r=>if k==.cell then(x,n)::cE (n+1) r else cE n r
theorem lM{n:Nat}{x:Str}{k:NameKind}{r:List (Str × NameKind)}:cE n ((x,k)::r)=if k==.cell then(x,n)::cE (n+1) r else cE n r:=rfl
theorem gY:∀(names:List (Str × NameKind)) (n:Nat) (acc:List (Str × Addr)),cellsFrom n names acc=(cE n names).reverse++acc
 | [],_,_=>rfl
 | (x,k)::r,n,acc=>by
  unfold cellsFrom;rw[lM]
  split
  ·rw[gY r,List.reverse_cons,List.append_assoc];rfl
  ·exact gY r n acc
noncomputable def clo(cells:List (Str × Addr)):List (Str × NameKind)->List (Str × Addr)
 | []=>[]
 | (x,k)::r=>if k==.free then(x,(cells.lookup x).getD 0)::clo cells r else clo cells r
theorem oH{cells:List (Str × Addr)}{x:Str}{k:NameKind}{r:List (Str × NameKind)}:clo cells ((x,k)::r)=if k==.free then(x,(cells.lookup x).getD 0)::clo cells r else clo cells r:=rfl
theorem vQ{scope:Scope}{env:Env}(h:∀p∈scope.names,p.2=.free->(env.cells.lookup p.1).isSome=true):closureFor scope env=pure (clo env.cells scope.names).reverse:=by
 have key:∀(names:List (Str × NameKind)) (acc:List (Str × Addr)),(∀p∈names,p.2=.free->(env.cells.lookup p.1).isSome=true) ->
  (forIn names acc fun x cs=>match x with | (name,kind)=>if(kind==NameKind.free)=true then do let a <- cellOf env name;pure (ForInStep.yield ((name,a)::cs))else pure (ForInStep.yield cs):Sem (List (Str × Addr)))=pure ((clo env.cells names).reverse++acc):=by
  intro names
  induction names with
  | nil=>intro acc _;rfl
  | cons p r ih =>
   intro acc h
   obtain⟨x,k⟩:=p
   have hr:=fun p hp=>h p (ar _ hp)
   rw[ug]
   by_cases hk:(k==NameKind.free)=true
   ·have:=h (x,k) ag (by simpa using hk)
    refine x11 (jO.mp this) fun c hc=>?_
    dsimp only at hc
    have hce:cellOf env x=pure c:=by unfold cellOf;rw[hc]
    simp only[hk,if_true]
    rw[oH]
    rw[if_pos hk,hce,pure_bind,pure_bind]
    dsimp only
    rw[ih _ hr,hc,List.reverse_cons,List.append_assoc];rfl
   ·simp only[Bool.not_eq_true]at hk
    simp only[hk,lp,if_false,pure_bind]
    rw[oH]
    simp only[hk,lp,if_false]
    exact ih acc hr
 unfold closureFor
 have:=key scope.names [] h
 rw[c5]at this
 simp only[bind_pure]
 exact this
theorem iJ{α:Type}:∀ {l:List (Str × α)} {x:Str} {c:α},(l.map (·.1)).Nodup->(x,c)∈l->l.lookup x=some c
 | (y,d)::r,x,c,hn,hm=>by
  rw[aH,b8]at hn
  rw[List.lookup_cons]
  rcases aa.mp hm with e | hm'
  ·cases e;simp
  ·have:(x==y)=false:=by
    rw[beq_eq_false_iff_ne];intro q
    exact hn.1 (aA.mpr ⟨_,hm',q⟩)
   rw[this];exact iJ hn.2 hm'
theorem iK{α:Type}:∀ {l:List (Str × α)} {x:Str} {c:α},(x,c)∈l->∃c',l.lookup x=some c'
 | (y,d)::r,x,c,hm=>by
  rw[List.lookup_cons]
  by_cases h:(x==y)=true
  ·rw[h];exact⟨_,rfl⟩
  ·simp only[Bool.not_eq_true]at h
   rw[h]
   rcases aa.mp hm with e | hm
   ·cases e;simp at h
   ·exact iK hm
theorem eF:∀ {names:List (Str × NameKind)} {n:Nat} {x:Str} {c:Addr},(x,c)∈cE n names->@LE.le Nat _ n c/\(x,NameKind.cell)∈names
 | (y,k)::r,n,x,c,h=>by
  rw[lM]at h
  split at h
  ·rename_i hk
   rcases aa.mp h with e | h
   ·cases e
    have:k=.cell:=by simpa using hk
    subst this
    exact⟨aL _,ag⟩
   ·have:=eF h
    exact⟨gI this.1,ar _ this.2⟩
  ·have:=eF h
   exact⟨this.1,ar _ this.2⟩
theorem qP:∀ {names:List (Str × NameKind)} {n:Nat} {x y:Str} {c:Addr},(x,c)∈cE n names->(y,c)∈cE n names->x=y
 | (z,k)::r,n,x,y,c,h1,h2=>by
  rw[lM]at h1 h2
  split at h1
  ·rename_i hk
   rw[if_pos hk]at h2
   rcases aa.mp h1 with e1 | h1<;>rcases aa.mp h2 with e2 | h2
   ·cases e1;cases e2;rfl
   ·cases e1;exact absurd (eF h2).1 (Nat.not_succ_le_self _)
   ·cases e2;exact absurd (eF h1).1 (Nat.not_succ_le_self _)
   ·exact qP h1 h2
  ·rename_i hk
   rw[if_neg hk]at h2
   exact qP h1 h2
theorem iL:∀ {names:List (Str × NameKind)} {n:Nat} {x:Str},(x,NameKind.cell)∈names->∃c,(x,c)∈cE n names
 | (y,k)::r,n,x,h=>by
  rw[lM]
  rcases aa.mp h with e | h
  ·cases e
   simp
  ·split
   ·refine x11 (iL (n:=n+1) h) fun c hc=>?_
    exact⟨c,ar _ hc⟩
   ·exact iL h
theorem lN:∀(names:List (Str × NameKind)) (h:Heap) (x:Str) (c:Addr),(x,c)∈cE h.objs.size names->(pushCells h names).IsCell c none
 | [],_,_,_,hm=>nomatch hm
 | (y,k)::r,h,x,c,hm=>by
  rw[lM]at hm
  unfold pushCells
  split
  ·rename_i hk
   rw[if_pos hk]at hm
   rcases aa.mp hm with e | hm
   ·cases e
    exact⟨_,pushCells_keeps r _ _ _ (Heap.get?_push_size _ rfl),rfl⟩
   ·exact lN r _ x c (by rw[Heap.size_push];exact hm)
  ·rename_i hk
   rw[if_neg hk]at hm
   exact lN r h x c hm
theorem lO{cells:List (Str × Addr)}:∀ {names:List (Str × NameKind)} {x:Str} {c:Addr},(x,c)∈clo cells names->(x,NameKind.free)∈names/\c=(cells.lookup x).getD 0
 | (y,k)::r,x,c,h=>by
  rw[oH]at h
  split at h
  ·rename_i hk
   rcases aa.mp h with e | h
   ·cases e
    have:k=.free:=by simpa using hk
    subst this
    exact⟨ag,rfl⟩
   ·exact⟨ar _ (lO h).1,(lO h).2⟩
  ·exact⟨ar _ (lO h).1,(lO h).2⟩
theorem qQ{cells:List (Str × Addr)}:∀ {names:List (Str × NameKind)} {x:Str},(x,NameKind.free)∈names->∃c,(x,c)∈clo cells names
 | (y,k)::r,x,h=>by
  rw[oH]
  rcases aa.mp h with e | h
  ·cases e;simp
  ·split
   ·refine x11 (qQ (cells:=cells) h) fun c hc=>?_
    exact⟨c,ar _ hc⟩
   ·exact qQ h
theorem BR{names:List (Str × NameKind)}{cells:List (Str × Addr)}{n:Nat}(hnd:(names.map (·.1)).Nodup)(hfree:∀x,(x,NameKind.free)∈names->∃c,cells.lookup x=some c/\@LT.lt Nat _ c n)
 (hinj:∀x y c,cells.lookup x=some c->cells.lookup y=some c->x=y) :
 (∀x,names.lookup x=some .free->∃c,(cellsFrom n names (clo cells names).reverse).lookup x=some c/\cells.lookup x=some c) /\
 (∀x,names.lookup x=some .cell->∃c,(cellsFrom n names (clo cells names).reverse).lookup x=some c/\(x,c)∈cE n names) /\
 (∀x c,(cellsFrom n names (clo cells names).reverse).lookup x=some c->(x,c)∈cE n names\/(cells.lookup x=some c/\@LT.lt Nat _ c n/\(x,NameKind.free)∈names)) /\
 (∀x y c,(cellsFrom n names (clo cells names).reverse).lookup x=some c->(cellsFrom n names (clo cells names).reverse).lookup y=some c->x=y):=by
 rw[gY]
 have hcl:∀x c,(x,c)∈(cE n names).reverse++(clo cells names).reverse->(x,c)∈cE n names\/(cells.lookup x=some c/\@LT.lt Nat _ c n/\(x,NameKind.free)∈names):=by
  intro x c h
  rcases au.mp h with h | h
  ·exact .inl (dY.mp h)
  ·refine ak (lO (dY.mp h)) fun h1 h2=>?_
   refine x12 (hfree x h1) fun c' e l=>?_
   rw[e]at h2
   subst h2
   exact .inr ⟨e,l,h1⟩
 refine⟨fun x hx=>?_,fun x hx=>?_,fun x c h=>?_,fun x y c h1 h2=>?_⟩
 ·have hm:=mem_of_lookup hx
  refine x11 (qQ (cells:=cells) hm) fun c hc=>?_
  refine x11 (iK (dG (cE n names).reverse (dY.mpr hc))) fun c' hc'=>?_
  refine⟨c',hc',?_⟩
  rcases hcl x c' (mem_of_lookup hc')with h | h
  ·have:=iJ hnd (eF h).2
   rw[hx]at this;cases this
  ·exact h.1
 ·have hm:=mem_of_lookup hx
  refine x11 (iL (n:=n) hm) fun c hc=>?_
  refine x11 (iK (bB (clo cells names).reverse (dY.mpr hc))) fun c' hc'=>?_
  refine⟨c',hc',?_⟩
  rcases hcl x c' (mem_of_lookup hc')with h | h
  ·exact h
  ·have:=iJ hnd h.2.2
   rw[hx]at this;cases this
 ·rcases hcl x c (mem_of_lookup h)with h | h
  ·exact .inl h
  ·exact .inr h
 ·rcases hcl x c (mem_of_lookup h1)with h1 | h1<;>rcases hcl y c (mem_of_lookup h2)with h2 | h2
  ·exact qP h1 h2
  ·exact absurd (eF h1).1 (Nat.not_le_of_lt h2.2.1)
  ·exact absurd (eF h2).1 (Nat.not_le_of_lt h1.2.1)
  ·exact hinj x y c h1.1 h2.1
theorem vR(F:Str × NameKind->Str × NameKind)(hF:∀p,(F p).1=p.1):∀(l:List (Str × NameKind)) (x:Str),(l.map F).lookup x=(l.lookup x).map fun k=>(F (x,k)).2
 | [],_=>rfl
 | (y,k)::r,x=>by
  have h1:=hF (y,k)
  rw[aH]
  rw[show F (y,k)=((F (y,k)).1,(F (y,k)).2)from rfl,h1,List.lookup_cons,List.lookup_cons]
  dsimp only
  by_cases h:(x==y)=true
  ·rw[h]
   have:x=y:=by simpa using h
   subst this;rfl
  ·simp only[Bool.not_eq_true]at h
   rw[h];exact vR F hF r x
theorem oK(sc scope:Scope)(x:Str):(bZ sc scope).names.lookup x=(scope.names.lookup x).map fun k=>if(k==NameKind.free&&sc.kind==ScopeKind.function&&sc.names.lookup x==some NameKind.cell)=true then NameKind.cell else k:=by
 unfold bZ
 rw[vR _ (fun p=>by split<;>rfl)]
 congr 1
 funext k
 split<;>rfl
theorem lP{scope:Scope}{ctx:List (Option Str)}{vars:List Str}{i:Nat}{x:Str}(h:(cg scope ctx vars)[i]? = some (some x)):(ctx[i]? = some (some x)/\scope.names.lookup x=some .free)\/(ctx.length<=i/\vars[i - ctx.length]? = some x):=by
 unfold cg at h
 by_cases hi:i<ctx.length
 ·rw[List.getElem?_append_left (by simpa using hi),bX]at h
  left
  cases e:ctx[i]? with
  | none=>rw[e]at h;simp at h
  | some o =>
   rw[e]at h
   cases o with
   | none=>simp at h
   | some y =>
    simp only[Option.map_some,Option.bind_some]at h
    by_cases hb:(scope.names.lookup y==some NameKind.free)=true
    ·rw[if_pos hb]at h
     simp only[Option.some.injEq]at h
     subst h
     exact⟨rfl,by simpa using hb⟩
    ·rw[if_neg hb]at h;simp at h
 ·right
  rw[fs (by simpa using hi),bX]at h
  simp only[af]at h
  refine⟨by lia,?_⟩
  cases e:vars[i - ctx.length]? with
  | none=>rw[e]at h;simp at h
  | some y=>rw[e]at h;simpa using h
theorem BS{scope:Scope}{ctx:List (Option Str)}{vars:List Str}:(cg scope ctx vars).length=ctx.length+vars.length:=by unfold cg;simp
theorem qR:∀ {l:List Str} {i j:Nat} {x:Str},l.Nodup->l[i]? = some x->l[j]? = some x->i=j
 | y::r,0,0,_,_,_,_=>rfl
 | y::r,0,j+1,x,hn,h1,h2=>by
  simp at h1 h2;subst h1
  exact absurd (aE h2) (b8.mp hn).1
 | y::r,i+1,0,x,hn,h1,h2=>by
  simp at h1 h2;subst h2
  exact absurd (aE h1) (b8.mp hn).1
 | y::r,i+1,j+1,x,hn,h1,h2=>by
  simp at h1 h2
  rw[qR (b8.mp hn).2 h1 h2]
structure SOk(sc scope:Scope)(vars:List Str):Prop where
 kind:scope.kind=.function
 nd:(scope.names.map (·.1)).Nodup
 vnd:vars.Nodup
 free:∀x,(x,NameKind.free)∈scope.names->(sc.names.lookup x=some .cell\/sc.names.lookup x=some .free)/\(x==ofString "__classdict__")=false
 var:∀x∈vars,scope.names.lookup x=some .local\/scope.names.lookup x=some .cell
theorem SOk.of{sc scope:Scope}{vars:List Str}(h:lI sc scope vars=true):SOk sc scope vars:=by
 unfold lI at h
 simp only[cF,decide_eq_true_eq,beq_iff_eq,aU,ji,bne_iff_ne,ne_eq]at h
 refine ak h fun z0 h5=>?_;refine ak z0 fun z0 h4=>?_;refine ak z0 fun z0 h3=>?_;obtain⟨h1,h2⟩:=z0
 refine⟨h1,h2,h3,fun x hx=>?_,h5⟩
 rcases h4 _ hx with q | ⟨q1,q2⟩
 ·exact absurd rfl q
 ·exact⟨q1,by simpa using q2⟩
section
variable{G:Glo}{env:Env}{sc:Scope}{ctx:List (Option Str)}{A:Around}{O O':Addr->Prop}{ω:Addr->Option Nat}{ρ:List SV}{s s' s₀ s₁ s₂:Shared}{E:Value->Shared->Prop}{D:Addr}{ds:List PyData}
noncomputable def gq(scope:Scope)(C:Addr)(env:Env):Env:=compEnvC scope (cellsFrom (C+1) scope.names (clo env.cells scope.names).reverse) C env
theorem oL{scope:Scope}{vars:List Str}{C:Addr}{h₃:Heap}{t:Nat}(wf:G.Wf)(K:Cond G env sc ctx A O ω ρ s₁)(so:SOk sc scope vars)(hC:C=h₃.objs.size)(k:Keeps s₁ { s₁ with heap:=h₃,toks:=t })
 (hO:∀b,O b->O' b) (hO2:∀b,O' b->O b\/s₁.heap.get? b=none) (hO3:∀b,O' b->∃o,(pushCells (h₃.push { cls:=.type "dict",data:=.dict #[] }) scope.names).get? b=some o) (hOC:O' C) (hOn:∀x c,(x,c)∈cE (C+1) scope.names->O' c) :
 Cond G (gq scope C env) (bZ sc scope) (cg scope ctx vars) A O' ω (ρ++a7 vars.length .un) { s₁ with heap:=pushCells (h₃.push { cls:=.type "dict",data:=.dict #[] }) scope.names,toks:=t } /\
 ∀i,ctx.length<=i->bu (gq scope C env) (cg scope ctx vars) i:=by
 subst hC
 generalize hh4:pushCells (h₃.push { cls:=.type "dict",data:=.dict #[] }) scope.names=h₄ at hO3 ⊢
 have hk4:∀b o,h₃.get? b=some o->h₄.get? b=some o:=fun b o e=>hh4▸pushCells_keeps _ _ b o (Heap.get?_push_of_some _ e)
 have k4:Keeps s₁ { s₁ with heap:=h₄,toks:=t }:=⟨h₄,t,rfl,fun b o e=>hk4 b o (al k b o e)⟩
 have lt3:∀b o,s₁.heap.get? b=some o->b<h₃.objs.size:=fun b o e=>Heap.lt_size (al k b o e)
 have gr:=K.grow wf k4 hO hO2 hO3
 obtain⟨val,F,V⟩:=K.vars
 have cellAt:∀x,(x,NameKind.free)∈scope.names->∃c,env.cells.lookup x=some c/\s₁.heap.IsCell c (val x):=fun x hx =>
  F.cel x ((so.free x hx).1.imp (fun q=>(K.eo.kindOf x).trans q) fun q=>(K.eo.kindOf x).trans q)
 obtain⟨c1,c2,c3,c4⟩:=BR (names:=scope.names) (cells:=env.cells) (n:=h₃.objs.size+1) so.nd (fun x hx=>by
  obtain⟨c,e,o,q,_⟩:=cellAt x hx
  exact⟨c,e,gG (lt3 c o q)⟩) K.eo.inj
 have hsc:relabel scope env=bZ sc scope:=by
  unfold relabel bZ
  rw[K.eo.scope]
  congr 1
  refine eQ fun p U=>?_
  obtain⟨n,kd⟩:=p
  show(if(kd==NameKind.free&&sc.kind==ScopeKind.function&&env.kindOf n==some NameKind.cell)=true then _ else _)=_
  rw[K.eo.kindOf n]
 have kindOf:∀x,(gq scope h₃.objs.size env).kindOf x=(bZ sc scope).names.lookup x:=fun x=>by rw[<- hsc];rfl
 have look:∀x kd,(bZ sc scope).names.lookup x=some kd->∃k0,scope.names.lookup x=some k0/\(kd=k0\/(k0=.free/\kd=.cell)):=fun x kd h=>by
  rw[oK]at h
  cases e:scope.names.lookup x with
  | none=>rw[e]at h;cases h
  | some k0 =>
   rw[e]at h
   simp only[Option.map_some,Option.some.injEq]at h
   refine⟨k0,rfl,?_⟩
   split at h
   ·rename_i hc
    simp only[cF,beq_iff_eq]at hc
    exact .inr ⟨hc.1.1,h.symm⟩
   ·exact .inl h.symm
 have keep:∀x,scope.names.lookup x=some .local\/scope.names.lookup x=some .cell->(bZ sc scope).names.lookup x=scope.names.lookup x:=fun x h=>by
  rw[oK]
  rcases h with h | h<;>rw[h]<;>rfl
 have hlocals:(gq scope h₃.objs.size env).locals=h₃.objs.size:=rfl
 have hns:h₄.Ns h₃.objs.size (fun U=>none):=hh4▸(Heap.Ns.new h₃ (.type "dict")).keeps (pushCells_keeps _ _)
 have hcells:∀x c,(x,c)∈cE (h₃.objs.size+1) scope.names->h₄.IsCell c none:=fun x c hm=>hh4▸lN _ _ x c (by rw[Heap.size_push];exact hm)
 refine⟨⟨⟨hsc,by show(bZ sc scope).kind=_;exact so.kind,K.eo.globals,K.eo.builtins,fun x hx=>?_,fun x y c h1 h2=>c4 x y c h1 h2,fun x c h=>?_⟩,⟨fun i j x h1 h2=>?_,fun i x h=>?_⟩,by rw[BS,bb,List.length_replicate,K.len],gr.ok,gr.base,fun b hb=>?_,fun x c h=>?_,fun b i e=>⟨hO b (K.om b i e).1,fun hb=>?_⟩,
  fun x=>if scope.names.lookup x=some .free then val x else none,⟨⟨_,hns,fun x hx=>?_⟩,fun x hx=>?_⟩,fun i x h=>?_⟩,fun i hi x c h1 h2 h3=>?_⟩
 ·refine x12 (look x _ hx) fun k0 e q=>?_
  rcases q with rfl | ⟨rfl,q⟩
  ·exact(so.free x (mem_of_lookup e)).2
  ·cases q
 ·rcases c3 x c h with h | h
  ·left
   have:=iJ so.nd (eF h).2
   rw[keep x (.inr this)];exact this
  ·have:=iJ so.nd h.2.2
   rw[oK,this]
   simp only[Option.map_some,Option.some.injEq]
   split
   ·exact .inl rfl
   ·exact .inr rfl
 ·rcases lP h1 with⟨a1,b1⟩ | ⟨a1,b1⟩<;>rcases lP h2 with⟨a2,b2⟩ | ⟨a2,b2⟩
  ·exact K.co.inj i j x a1 a2
  ·rcases so.var x (aE b2)with q | q<;>rw[b1]at q<;>cases q
  ·rcases so.var x (aE b1)with q | q<;>rw[b2]at q<;>cases q
  ·refine x11 (cY.mp b1) fun l1 e1=>?_
   refine x11 (cY.mp b2) fun l2 e2=>?_
   have:=qR so.vnd b1 b2
   lia
 ·rcases lP h with⟨a1,b1⟩ | ⟨a1,b1⟩
  ·right
   rw[oK,b1]
   simp only[Option.map_some,Option.some.injEq]
   split
   ·exact .inl rfl
   ·exact .inr rfl
  ·rcases so.var x (aE b1)with q | q
   ·left;rw[keep x (.inl q)];exact q
   ·right;left;rw[keep x (.inr q)];exact q
 ·rcases hb with rfl | ⟨_,x,_,h⟩
  ·exact hOC
  ·rcases c3 x b h with h | h
   ·exact hOn x b h
   ·exact hO b (K.fc x b h.1)
 ·rcases c3 x c h with h | h
  ·exact hOn x c h
  ·exact hO c (K.fc x c h.1)
 ·refine x11 (K.ok.obs b (K.om b i e).1) fun o q=>?_
  have hl:=lt3 b o q
  rcases hb with rfl | ⟨x,h⟩
  ·exact aI _ hl
  ·rcases c3 x b h with h | h
   ·exact cy.mpr (gI (eF h).1) hl
   ·exact(K.om b i e).2 (.inr ⟨x,h.1⟩)
 ·rw[kindOf]at hx
  refine x12 (look x _ hx) fun k0 e q=>?_
  rcases q with rfl | ⟨_,q⟩
  ·rw[e];simp
  ·cases q
 ·simp only[kindOf]at hx
  have hx':scope.names.lookup x=some .cell\/scope.names.lookup x=some .free:=by
   rcases hx with hx | hx
   ·refine x12 (look x _ hx) fun k0 e q=>?_
    rcases q with rfl | ⟨rfl,q⟩
    ·exact .inl e
    ·exact .inr e
   ·refine x12 (look x _ hx) fun k0 e q=>?_
    rcases q with rfl | ⟨rfl,q⟩
    ·exact .inr e
    ·cases q
  rcases hx' with hx' | hx'
  ·refine x12 (c2 x hx') fun c e1 e2=>?_
   refine⟨c,e1,?_⟩
   rw[hx',if_neg (by decide)]
   exact hcells x c e2
  ·refine x12 (c1 x hx') fun c e1 e2=>?_
   refine⟨c,e1,?_⟩
   rw[hx',if_pos rfl]
   refine x12 (cellAt x (mem_of_lookup hx')) fun c' e3 e4=>?_
   rw[e2]at e3;cases e3
   exact e4.keeps (al k4)
 ·dsimp only
  rcases lP h with⟨a1,b1⟩ | ⟨a1,b1⟩
  ·rw[b1,if_pos rfl]
   have hi:i<ρ.length:=by rw[K.len];exact(cY.mp a1).1
   have:(ρ++a7 vars.length SV.un).getD i .un=ρ.getD i .un:=by
    rw[aq,aq,List.getElem?_append_left hi]
   rw[this]
   exact(V i x a1).grow wf K.base (al k4) hO2
  ·have:(ρ++a7 vars.length SV.un).getD i .un=.un:=by
    rw[aq,fs (by rw[K.len];exact a1),lh]
    split<;>rfl
   rw[this];trivial
 ·rw[kindOf]at h2
  rcases lP h1 with⟨a1,b1⟩ | ⟨a1,b1⟩
  ·exact absurd (cY.mp a1).1 (by lia)
  ·have:scope.names.lookup x=some .cell:=by
    rcases so.var x (aE b1)with q | q
    ·rw[keep x (.inl q),q]at h2;cases h2
    ·exact q
   refine x12 (c2 x this) fun c' e1 e2=>?_
   have h3':(cellsFrom (h₃.objs.size+1) scope.names (clo env.cells scope.names).reverse).lookup x=some c:=h3
   rw[e1]at h3';cases h3'
   exact(eF e2).1
theorem oM{e:Expr}{x:Value}(h:eY e=true):foldedSetIterable e env x=pure x:=by
 cases e<;>first | rfl | exact absurd h Kr
theorem vS{M:Model}{scope:Scope}{globals:Addr}{cl:List (Str × Addr)}{qual:Str}{Q:Env->Shared->Prop}
 (h:Q (newEnv scope s.heap.objs.size globals (cellsFrom (s.heap.objs.size+1) scope.names cl) qual none .none (some env) builtinsNs) { s with heap:=pushCells (s.heap.push { cls:=.type "dict",data:=.dict #[] }) scope.names }) :
 wpAny M A (newFunctionEnv scope globals cl [] qual none .none (some env)) Q E s:=by
 simp only[newFunctionEnv,Option.isSome_some,if_true]
 refine wpAny_bind (wpAny_alloc ?_)
 refine wpAny_bind (wpAny_layCells _ (fun name kind cells=>by cases hkc:kind==NameKind.cell<;>simp) _ _ _ _ ?_)
 rw[show({ s with heap:=s.heap.push { cls:=.type "dict",data:=.dict #[] } }:Shared).heap.objs.size=s.heap.objs.size+1 from Heap.size_push ..]
 rw[List.forIn_nil]
 exact wpAny_bind (wpAny_pure (wpAny_pure h))
theorem BU{use:Option (Value->Sem Unit)}{pos':Pos}{Q:Value->Shared->Prop}{elt tgt iter:Expr}{tests:List Expr}{gs:List Comprehension}{scope:Scope}{pos:Pos}{tup:Bool}{slots:List Nat}{its:List PyData}{F:Prop}{vars:List Str}{T:PyData->Bool}{f:PyData->List PyData}
 (wf:G.Wf) (K:Cond G env sc ctx A O ω ρ s) (hz:go (⟨tgt,iter,tests,0⟩::gs)=true) (hns:eY iter=true) (so:SOk sc scope vars)
 (hI:∀E,wpAny (model G.prog G.w) A (eval iter env) (fun x s₁=>Keeps s s₁/\∀E,wpAny (model G.prog G.w) A (pyIter x) (fun it s₂=>Keeps s₁ s₂/\ItIs G.prog G.w A O F s₁.heap s₂.heap it its) E s₁) E s)
 (hnew:∀i∈slots,ctx.length<=i) (htgt:eX tup slots (bZ sc scope) (cg scope ctx vars) tgt=true) (hb:∀d∈its,bindP tup slots d)
 (htest:∀d∈its,∀env' O' s E,Cond G env' (bZ sc scope) (cg scope ctx vars) A O' ω (ay tup slots d (ρ++a7 vars.length .un)) s ->
  wpAny (model G.prog G.w) A (forIn tests true fun c r=>if r=true then do let ok <- isTrue c env' (eval c env');pure (ForInStep.yield ok)else pure (ForInStep.yield r)) (fun b s'=>b=T d/\Keeps s s') E s)
 (hbody:∀d∈its,T d=true->∀env' D O' ds' s k Q E,(∀i,ctx.length<=i->bu env' (cg scope ctx vars) i)->Cond G env' (bZ sc scope) (cg scope ctx vars) A O' ω (ay tup slots d (ρ++a7 vars.length .un)) s ->
  O' D->¬a9 env' D->(∀i,ω D≠some i)->AccIs G O' D s.heap ds'->ds'.length+(f d).length<=16777216 ->
  (∀s',KM (MS env' D) s s'->Cond G env' (bZ sc scope) (cg scope ctx vars) A O' ω (ay tup slots d (ρ++a7 vars.length .un)) s'->AccIs G O' D s'.heap (ds'++f d)->wpAny (model G.prog G.w) A k Q E s') ->
  wpAny (model G.prog G.w) A (gX elt (⟨tgt,iter,tests,0⟩::gs) scope pos 0 (.ref D) env' k) Q E s)
 (hlen:(its.flatMap fun d=>if T d=true then f d else[]).length<=16777216)
 (hfin:∀(D C:Addr) s' m,Keeps s s'->s.heap.get? C=none->D≠C->s'.heap.Ns C m->Rep (fun b=>O b\/b=C) s'.heap (.ref D) (.list (its.flatMap fun d=>if T d=true then f d else[]))->compPost (model G.prog G.w) A E use Q (.ref D) C (.ok .next) s') :
 wpAny (model G.prog G.w) A (comprehension (.ListComp elt (⟨tgt,iter,tests,0⟩::gs) scope pos) scope env pos' (newList []) false (eval iter env) use) Q E s:=by
 have hclos:closureFor scope env=pure (clo env.cells scope.names).reverse:=vQ fun p hp hk=>by
  obtain⟨val,F,V⟩:=K.vars
  obtain⟨x,kd⟩:=p
  dsimp only at hk;subst hk
  refine x12 (F.cel x ((so.free x hp).1.imp (fun q=>(K.eo.kindOf x).trans q) fun q=>(K.eo.kindOf x).trans q)) fun c e U=>?_
  exact jO.mpr ⟨c,e⟩
 refine wpAny_comprehension_free (use:=use) (g:=⟨tgt,iter,tests,0⟩) (gs:=gs) rfl (fun x=>oM hns) hclos so.kind (fun x hx hl=>by
  obtain⟨y,kd⟩:=x
  dsimp only at hl ⊢;subst hl
  exact iJ so.nd hx) (wpAny_mono (hI E) (fun x s₁ h₁=>?_) fun U U e=>e)
 refine ak h₁ fun k01 h₁=>?_
 refine wpAny_mono (h₁ E) (fun it s₂ h₂=>?_) fun U U e=>e
 obtain⟨k12,I,fp,wr,P,St,rfl,W,hst,hfp,hwr,_,htame,hIfp,hit⟩:=h₂
 have K1:=K.keeps wf k01
 refine wpAny_newObj_type (vS ?_) (by size_fits)
 refine x22 k12 fun h2 t2 e2 g12=>?_;subst e2
 dsimp only at hst hfp htame hit ⊢
 replace hfp:∀b∈fp,b<h2.objs.size:=fun b hb=>(hfp b hb).elim fun U e=>Heap.lt_size e
 have hIlt:I<h2.objs.size:=hfp I hIfp
 generalize hh3:h2.push { cls:=.type "list",dict:=none,data:=.seq ([]:List Value).toArray }=h3
 have hsz3:h3.objs.size=h2.objs.size+1:=by rw[<- hh3,Heap.size_push]
 have g23:∀b o,h2.get? b=some o->h3.get? b=some o:=fun b o e=>hh3▸Heap.get?_push_of_some _ e
 have hD3:IsL h3 h2.objs.size #[] 0:=hh3▸Heap.get?_push_size _ rfl
 generalize hh4:pushCells (h3.push { cls:=.type "dict",data:=.dict #[] }) scope.names=h4
 have g34:∀b o,h3.get? b=some o->h4.get? b=some o:=fun b o e=>hh4▸pushCells_keeps _ _ b o (Heap.get?_push_of_some _ e)
 have g14:∀b o,s₁.heap.get? b=some o->h4.get? b=some o:=fun b o e=>g34 b o (g23 b o (g12 b o e))
 have old:∀b o,s₁.heap.get? b=some o->b<h2.objs.size:=fun b o e=>Heap.lt_size (g12 b o e)
 have fresh:∀b,@LE.le Nat _ h2.objs.size b->s₁.heap.get? b=none:=fun b hb=>by
  cases e:s₁.heap.get? b with
  | none=>rfl
  | some o=>exact absurd (old b o e) (cy.mpr hb)
 let Ob:Addr->Prop:=fun b=>O b\/b=h2.objs.size\/b=h3.objs.size\/∃x,(x,b)∈cE (h3.objs.size+1) scope.names
 have hOb:∀b,Ob b->O b\/@LE.le Nat _ h2.objs.size b:=fun b q=>by
  rcases q with q | rfl | rfl | ⟨x,q⟩
  ·exact .inl q
  ·exact .inr (aL _)
  ·exact .inr (by rw[hsz3];exact dH _)
  ·have:=(eF q).1
   rw[hsz3]at this
   exact .inr (gI (gI this))
 have hOb4:∀b,Ob b->∃o,h4.get? b=some o:=fun b q=>by
  rcases q with q | rfl | rfl | ⟨x,q⟩
  ·refine x11 (K1.ok.obs b q) fun o e=>?_;exact⟨o,g14 b o e⟩
  ·exact⟨_,g34 _ _ hD3⟩
  ·exact⟨_,hh4▸pushCells_keeps _ _ _ _ (Heap.get?_push_size _ rfl)⟩
  ·refine x12 (lN scope.names (h3.push { cls:=.type "dict",data:=.dict #[] }) x b (by rw[Heap.size_push];exact q)) fun o e U=>?_
   exact⟨o,hh4▸e⟩
 have hnI:¬Ob I:=fun q=>by
  rcases hOb I q with q | q
  ·refine x11 (K1.ok.obs I q) fun o e=>?_;rw[hwr.2]at e;cases e
  ·exact cy.mpr q hIlt
 have k13:Keeps s₁ { s₁ with heap:=h3,toks:=t2 }:=⟨h3,t2,rfl,fun b o e=>g23 b o (g12 b o e)⟩
 have C0:=oL (O':=Ob) (h₃:=h3) (t:=t2) wf K1 so rfl k13 (fun b q=>.inl q) (fun b q=>(hOb b q).imp id (fresh b)) (by rw[hh4];exact hOb4) (.inr (.inr (.inl rfl))) fun x c q=>.inr (.inr (.inr ⟨x,q⟩))
 have C1:=oL (O':=fun b=>Ob b\/b=I) (h₃:=h3) (t:=t2) wf K1 so rfl k13 (fun b q=>.inl (.inl q)) (fun b q=>by
  rcases q with q | rfl
  ·exact(hOb b q).imp id (fresh b)
  ·exact .inr hwr.2) (fun b q=>by
  rw[hh4]
  rcases q with q | rfl
  ·exact hOb4 b q
  ·refine x22 (htame 0 _ hst) fun o T e U=>?_
   exact⟨o,g34 _ _ (g23 _ _ e)⟩) (.inl (.inr (.inr (.inl rfl)))) fun x c q=>.inl (.inr (.inr (.inr ⟨x,q⟩)))
 rw[hh4]at C0 C1
 have hMSge:∀b,MS (gq scope h3.objs.size env) h2.objs.size b->@LE.le Nat _ h2.objs.size b:=fun b q=>by
  rcases q with(rfl | ⟨q,_⟩) | rfl
  ·show @LE.le Nat _ h2.objs.size h3.objs.size;rw[hsz3];exact dH _
  ·have q : @LT.lt Nat _ h3.objs.size b:=q
   rw[hsz3]at q;exact gI (Nat.le_of_lt q)
  ·exact aL _
 have hDF:¬a9 (gq scope h3.objs.size env) h2.objs.size:=fun q=>by
  rcases q with q | ⟨q,_⟩
  ·have q:h2.objs.size=h3.objs.size:=q
   rw[hsz3]at q;exact cK (i3 _) q
  ·have q : @LT.lt Nat _ h3.objs.size h2.objs.size:=q
   rw[hsz3]at q;exact cy.mpr (dH _) q
 have hDw:∀i,ω h2.objs.size≠some i:=fun i e=>by
  refine x11 (K1.ok.obs _ (K1.om _ i e).1) fun o q=>?_
  exact aI _ (old _ o q)
 have unAt:∀i,ctx.length<=i->(ρ++a7 vars.length SV.un).getD i .un=.un:=fun i hi=>by
  rw[aq,fs (by rw[K.len];exact hi),lh]
  split<;>rfl
 have loop:codeAny (model G.prog G.w) A (.compLoop (.ListComp elt (⟨tgt,iter,tests,0⟩::gs) scope pos) 0 (.ref I) (.ref h2.objs.size) (gq scope h3.objs.size env))
  (compPost (model G.prog G.w) A E use Q (.ref h2.objs.size) h3.objs.size) { s₁ with heap:=h4,toks:=t2 }:=by
  refine vP (O:=Ob) (Oh:=O) (h₀:=s₁.heap) (ds:=[]) wf hz rfl C1.1 (fun b i e=>(C0.1.om b i e).1) C0.1.fr C0.1.fc hnI (.inr (.inl rfl)) hDF ⟨#[],0,g34 _ _ hD3,.nil⟩
   W (W.frame _ _ _ hst fun b U o e=>g34 b o (g23 b o e)) (fun b hb q=>cy.mpr (hMSge b q) (hfp b hb)) hwr.1 htame
   (fun b o e q=>by
    rcases q with q | rfl
    ·exact(hOb b q).elim id fun z=>absurd (old b o e) (cy.mpr z)
    ·rw[hwr.2]at e;cases e) (fun b o U e=>g14 b o e) hit (fun i hi=>unAt i (hnew i hi)) (fun i hi=>C0.2 i (hnew i hi)) htgt hb
   (fun d hd O' s E C=>htest d hd _ O' s E C) (fun d hd hT O' ds' s k Q E C hD a hl hk=>hbody d hd hT _ _ O' ds' s k Q E C0.2 C hD hDF hDw a hl hk) (by simpa using hlen) ?_
  intro s' ki C a
  obtain⟨val,F,V⟩:=C.vars
  refine x12 F.loc fun m hm U=>?_
  obtain⟨vs,n,l1,l2⟩:=a
  obtain⟨h5,t5,rfl,g45,_⟩:=ki
  have hDC:h2.objs.size≠h3.objs.size:=by rw[hsz3];exact cK (i3 _)
  have kk:Keeps s₁ { s₁ with heap:=h5,toks:=t5 }:=⟨h5,t5,rfl,fun b o e=>by
   have hb:=old b o e
   refine g45 b o (fun q=>cy.mpr (hMSge b q) hb) (fun q=>?_) (g14 b o e)
   rw[q,hwr.2]at e;cases e⟩
  refine hfin h2.objs.size h3.objs.size _ m (aQ k01 kk) ?_ hDC hm (.list (n:=n) (fun q=>?_) l1 ?_)
  ·cases e:s.heap.get? h3.objs.size with
   | none=>rfl
   | some o =>
    have:=old _ o (al k01 _ o e)
    rw[hsz3]at this
    exact absurd this (cy.mpr (dH _))
  ·rcases q with q | q
   ·refine x11 (K1.ok.obs _ q) fun o e=>?_
    exact aI _ (old _ o e)
   ·exact hDC q
  ·rw[List.nil_append]at l2
   exact l2.mono (fun b o n e=>e) fun b o U q=>q.elim .inl fun q=>.inr (.inr (.inl q))
 exact qN rfl loop fun E=>W.self 0 _ _ _ (W.frame _ _ _ hst fun b U o e=>g34 b o (g23 b o e)) loop
theorem BV{Q:Value->Shared->Prop}{D C:Addr}{s':Shared}{m:Str->Option Value}{d:PyData}(k:Keeps s s')(hC:s.heap.get? C=none)(hm:s'.heap.Ns C m)(r:Rep (fun b=>O b\/b=C) s'.heap (.ref D) d)(hQ:∀v s',PV O s d v s'->Q v s') :
 compPost (model G.prog G.w) A E none Q (.ref D) C (.ok .next) s':=by
 refine⟨m,hm,fun h' hs'=>hQ _ _ ⟨?_,r.mono (fun b o n e=>hs'.extBut b o (fun q=>n (.inr q)) e) fun b o U q=>.inl q⟩⟩
 refine x22 k fun h1 t1 e2 g=>?_;subst e2
 exact⟨h',t1,rfl,fun b o e=>hs'.extBut b o (fun q=>by rw[q,hC]at e;cases e) (g b o e)⟩
theorem BW{use:Value->Sem Unit}{Q:Value->Shared->Prop}{D C:Addr}{s':Shared}{m:Str->Option Value}{d:PyData}{ρ':List SV}(wf:G.Wf)(K:Cond G env sc ctx A O ω ρ s)(k:Keeps s s')(hC:s.heap.get? C=none)(hm:s'.heap.Ns C m)
 (r:Rep (fun b=>O b\/b=C) s'.heap (.ref D) d)
 (huse:∀O' v s' E Q',Cond G env sc ctx A O' ω ρ s'->Rep O' s'.heap v d->(∀s'',KM (a9 env) s' s''->Cond G env sc ctx A O' ω ρ' s''->Q' () s'')->wpAny (model G.prog G.w) A (use v) Q' E s')
 (hQ:∀s',KM (a9 env) s s'->Cond G env sc ctx A O ω ρ' s'->Q .none s') :
 compPost (model G.prog G.w) A E (some use) Q (.ref D) C (.ok .next) s':=by
 have hCO:¬O C:=fun q=>by refine x11 (K.ok.obs C q) fun o e=>?_;rw[hC]at e;cases e
 have K':Cond G env sc ctx A (fun b=>O b\/b=C) ω ρ s':=K.grow wf k (fun b q=>.inl q) (fun b q=>by
  rcases q with q | rfl
  ·exact .inl q
  ·exact .inr hC) fun b q=>by
  rcases q with q | rfl
  ·refine x11 (K.ok.obs b q) fun o e=>?_;exact⟨o,al k b o e⟩
  ·refine x32 hm fun o U U e U=>?_;exact⟨o,e⟩
 show wpAny _ A (use (.ref D)) _ E s'
 refine huse _ _ s' _ _ K' r fun s'' ku K''=>?_
 have hCF:¬a9 env C:=fun q=>hCO (K.fr C q)
 refine x33 hm fun o es ep e hd hr=>?_
 refine⟨m,⟨o,es,ep,ku.get _ o hCF e,hd,hr⟩,fun h' hs'=>?_⟩
 have hk:∀b o,b≠C->s''.heap.get? b=some o->h'.get? b=some o:=fun b o n e=>hs'.extBut b o n e
 refine hQ _ ?_ ((K''.shrink (t:=s''.toks) wf (fun b q=>.inl q) (fun b i e=>(K.om b i e).1) K.fr K.fc hCO (.inr rfl) (fun q=>?_) hk))
 ·refine x22 k fun h1 t1 e2 g1=>?_;subst e2
  obtain⟨h2,t2,rfl,g2,th2⟩:=ku
  have ne:∀b o,s.heap.get? b=some o->b≠C:=fun b o e q=>by rw[q,hC]at e;cases e
  exact⟨h',t2,rfl,fun b o n e=>hk b o (ne b o e) (g2 b o n (g1 b o e)),fun b o e=>by
   refine x11 (th2 b o (g1 b o e)) fun o' e'=>?_
   exact⟨o',hk b o' (ne b o e) e'⟩⟩
 ·refine x11 (K.ok.hok.there C q) fun o e=>?_
  rw[hC]at e;cases e
end
noncomputable def iM(t:Bool)(O:Addr->Prop)(h:Heap)(v:Value)(d:PyData):Prop:=if t=true then bg O h v d else Rep O h v d
theorem iM.of{t:Bool}{O:Addr->Prop}{h:Heap}{v:Value}{d:PyData}(r:Rep O h v d):iM t O h v d:=by
 unfold iM;split
 ·exact .of r
 ·exact r
theorem iM.tt{O:Addr->Prop}{h:Heap}{v:Value}{d:PyData}(r:iM true O h v d):bg O h v d:=r
theorem iM.ff{O:Addr->Prop}{h:Heap}{v:Value}{d:PyData}(r:iM false O h v d):Rep O h v d:=r
noncomputable abbrev ca(t:Bool)(O:Addr->Prop)(s:Shared)(d:PyData):Value->Shared->Prop:=fun v s'=>Keeps s s'/\iM t O s'.heap v d
section
variable(G:Glo)(Φ:List FEntry)
noncomputable def aP(e:IX):Prop:=∀sc ctx ast t env A O ω ρ s E,chk Φ e sc ctx ast=true->Cond G env sc ctx A O ω ρ s->aJ (kx Φ e) A->pre Φ e t ρ->wpAny (model G.prog G.w) A (eval ast env) (ca t O s (den Φ e ρ)) E s
noncomputable def cT(e:IX):Prop:=∀sc ctx ast env A O ω ρ s E,chk Φ e sc ctx ast=true->Cond G env sc ctx A O ω ρ s->aJ (kx Φ e) A->pre Φ e false ρ->dZ (den Φ e ρ)=true->wpAny (model G.prog G.w) A (isTrue ast env (eval ast env)) (PB s (aB (den Φ e ρ))) E s
noncomputable def iN(e:IX):Prop:=∀sc ctx asts env A O ω ρ s E,b0 Φ e sc ctx asts=true->Cond G env sc ctx A O ω ρ s->aJ (kx Φ e) A->eC Φ e ρ->wpAny (model G.prog G.w) A (spliced (asts.map fun a=>(false,eval a env))) (fun vs s'=>Keeps s s'/\RepL O s'.heap vs (bV Φ e ρ)) E s
noncomputable def j4(e:IX):Prop:=∀sc ctx oe env A O ω ρ s E,jt Φ e sc ctx oe=true->Cond G env sc ctx A O ω ρ s->aJ (kx Φ e) A->oE Φ e ρ->wpAny (model G.prog G.w) A (evalPart oe env) (PV O s (gf Φ e ρ)) E s
noncomputable def lQ(e:IX):Prop:=∀o sc ctx asts env A O ω ρ s E pos,b0 Φ e sc ctx asts=true->Cond G env sc ctx A O ω ρ s->aJ (kx Φ e) A->lH Φ o e ρ->wpAny (model G.prog G.w) A (boolOp pos (gR o) (evalEach asts env)) (PV O s (fD Φ o e ρ)) E s
noncomputable def lR(e:IX):Prop:=∀o sc ctx asts env A O ω ρ s E,b0 Φ e sc ctx asts=true->Cond G env sc ctx A O ω ρ s->aJ (kx Φ e) A->lH Φ o e ρ->dZ (fD Φ o e ρ)=true->wpAny (model G.prog G.w) A (allTrue (gR o) asts env) (PB s (aB (fD Φ o e ρ))) E s
noncomputable def iO(e:IX):Prop:=∀sc ctx asts env A O ω ρ s E,b0 Φ e sc ctx asts=true->Cond G env sc ctx A O ω ρ s->aJ (kx Φ e) A->j3 Φ e ρ ->
 wpAny (model G.prog G.w) A (forIn asts true fun c r=>if r=true then do let ok <- isTrue c env (eval c env);pure (ForInStep.yield ok)else pure (ForInStep.yield r)) (fun b s'=>b=cS Φ e ρ/\Keeps s s') E s
noncomputable def fH(e:IX):Prop:=∀sc ctx ast t env A O ω ρ s E,eE Φ e sc ctx ast=true->Cond G env sc ctx A O ω ρ s->aJ (kx Φ e) A->gg Φ e t ρ ->
 wpAny (model G.prog G.w) A (eval ast env) (fun x s₁=>Keeps s s₁/\∀E,wpAny (model G.prog G.w) A (pyIter x) (fun it s₂=>Keeps s₁ s₂/\ItIs G.prog G.w A O (t=false) s₁.heap s₂.heap it (bp Φ e ρ)) E s₁) E s
noncomputable def iP(e:IX):Prop:=∀sc ctx elt gens scope pos depth env A O ω ρ s E D ds k Q,gj Φ e sc ctx (gens.drop (depth+1)) elt=true->go gens=true->Cond G env sc ctx A O ω ρ s->O D->¬a9 env D->(∀i,ω D≠some i)->(∀i∈gh e,ρ.getD i .un=.un/\bu env ctx i)->(gh e).Nodup ->
 aJ (kx Φ e) A->oF Φ e ρ->AccIs G O D s.heap ds->ds.length+(ew Φ e ρ).length<=16777216 ->
 (∀s',KM (MS env D) s s'->Cond G env sc ctx A O ω ρ s'->AccIs G O D s'.heap (ds++ew Φ e ρ)->wpAny (model G.prog G.w) A k Q E s') ->
 wpAny (model G.prog G.w) A (gX elt gens scope pos depth (.ref D) env k) Q E s
structure Snd(e:IX):Prop where
 ev:aP G Φ e
 tst:cT G Φ e
 ls:iN G Φ e
 op:j4 G Φ e
 bo:lQ G Φ e
 boT:lR G Φ e
 ts:iO G Φ e
 it:fH G Φ e
 gn:iP G Φ e
end
section
variable{G:Glo}{Φ:List FEntry}
theorem qS{e:IX}(h:∀sc ctx asts,b0 Φ e sc ctx asts=false):iN G Φ e/\lQ G Φ e/\lR G Φ e/\iO G Φ e :=
 ⟨fun sc ctx asts U U U U U U U hc=>(Kr ((h sc ctx asts).symm.trans hc)).elim,fun U sc ctx asts U U U U U U U U hc=>(Kr ((h sc ctx asts).symm.trans hc)).elim,fun U sc ctx asts U U U U U U U hc=>(Kr ((h sc ctx asts).symm.trans hc)).elim,fun sc ctx asts U U U U U U U hc=>(Kr ((h sc ctx asts).symm.trans hc)).elim⟩
theorem qT{e:IX}(h:∀sc ctx oe,jt Φ e sc ctx oe=false):j4 G Φ e:=fun sc ctx oe U U U U U U U hc=>(Kr ((h sc ctx oe).symm.trans hc)).elim
theorem oN{e:IX}(h:∀sc ctx gs elt,gj Φ e sc ctx gs elt=false):iP G Φ e:=fun sc ctx elt gens U U depth U U U U U U U U U U U hc=>(Kr ((h sc ctx (gens.drop (depth+1)) elt).symm.trans hc)).elim
theorem oO{e:IX}(h:∀sc ctx ast,eE Φ e sc ctx ast=false):fH G Φ e:=fun sc ctx ast U U U U U U U U hc=>(Kr ((h sc ctx ast).symm.trans hc)).elim
theorem iQ{e:IX}(h:∀sc ctx ast,chk Φ e sc ctx ast=false):aP G Φ e/\cT G Φ e :=
 ⟨fun sc ctx ast U U U U U U U U hc=>(Kr ((h sc ctx ast).symm.trans hc)).elim,fun sc ctx ast U U U U U U U hc=>(Kr ((h sc ctx ast).symm.trans hc)).elim⟩
noncomputable def c8:Expr->Bool
 | .UnaryOp .Not ..=>false
 | .BoolOp ..=>false
 | .IfExp ..=>false
 | .Compare ..=>false
 | _=>true
set_option tactic.hygienic true in
theorem j5{ast:Expr}{env:Env}{whole:Sem Value}(h:c8 ast=true):isTrue ast env whole=(do let v <- whole;standAt ast.pos;holding [v] (truthy v)):=by
 cases ast<;>first | rfl | exact absurd h Kr | skip
 rename_i op x p
 cases op<;>first | rfl | exact absurd h Kr
theorem lS{O:Addr->Prop}{h:Heap}{v:Value}{d:PyData}(r:Rep O h v d)(hb:dZ d=true):v=.bool (aB d):=by
 cases d<;>first | exact absurd hb Kr | skip
 cases r;rfl
theorem BX{e:IX}(h:aP G Φ e)(hp:∀sc ctx ast,chk Φ e sc ctx ast=true->c8 ast=true):cT G Φ e:=by
 intro sc ctx ast env A O ω ρ s E hc C R hpre hb
 rw[j5 (hp _ _ _ hc)]
 refine wpAny_bind (wpAny_mono (h sc ctx ast false env A O ω ρ s E hc C R hpre) (fun v s' hv=>wpAny_bind (wpAny_standAt (wpAny_holding ?_))) fun U U x=>x)
 rw[lS hv.2.ff hb]
 exact wpAny_truthy_bool ⟨rfl,hv.1⟩
theorem BY{e:IX}(h:∀ρ,dZ (den Φ e ρ)=false):cT G Φ e:=by
 intro sc ctx ast env A O ω ρ s E hc C R hpre hb
 rw[h]at hb;cases hb
theorem ca.of{t:Bool}{O:Addr->Prop}{s s₁:Shared}{d:PyData}(k:Keeps s s₁){v:Value}{s':Shared}(h:PV O s₁ d v s'):ca t O s d v s':=⟨aQ k h.1,.of h.2⟩
theorem oP{prog:Program}{w:World}{A:Around}{E:Value->Shared->Prop}{s:Shared}{base:Expr}{o r:Value}{Q:Unit->Shared->Prop}(h:Q () s):wpAny (model prog w) A (letTemporaryGo base o r) Q E s:=wpAny_letTemporaryGo h
end
section
variable{G:Glo}{Φ:List FEntry}
theorem BZ(i:Nat):aP G Φ (.var i):=by
 intro sc ctx ast t env A O ω ρ s E hc C R hp
 refine eR (P:=fun ast=>wpAny (model G.prog G.w) A (eval ast env) (ca t O s (den Φ (.var i) ρ)) E s) hc fun x p hc=>?_
 replace hc:ctx[i]? = some (some x)/\x≠ofString "__debug__":=aO hc fun h1 h2=>⟨eq_of_beq h1,bne_iff_ne.mp h2⟩
 obtain⟨val,F,V⟩:=C.vars
 have hv:=V i x hc.1
 refine wpAny_Name ?_ (by simpa using hc.2)
 replace hp:SV.ok t (ρ.getD i .un):=hp
 have hden:den Φ (.var i) ρ=(ρ.getD i .un).data:=rfl
 rw[hden]
 generalize ρ.getD i .un=y at hp hv
 cases y with
 | dat d =>
  refine x12 hv fun u e r=>?_
  exact gk C.eo F e (C.co.kd i x hc.1) ⟨br s,.of r⟩
 | own d =>
  cases t<;>first | exact hp.elim | skip
  obtain⟨a,vs,n,ds,e1,e2,e3,h1,h2⟩:=hv
  exact gk C.eo F e1 (C.co.kd i x hc.1) ⟨br s,.inr ⟨a,vs,n,ds,rfl,e3,h1,h2⟩⟩
 | un=>cases t<;>first | exact hp.elim | skip
 | val u=>cases t<;>first | exact hp.elim | skip
 | sor g=>cases t<;>first | exact hp.elim | skip
theorem vT{c:Const}{k:Nat}{p:Pos}{d:PyData}{A:Around}{env:Env}{s:Shared}{E:Value->Shared->Prop}{Q:Value->Shared->Prop}(h:qL c d=true)(hQ:∀v s',Keeps s s'->(∀(O:Addr->Prop) h',Rep O h' v d)->Q v s'):wpAny (model G.prog G.w) A (eval (.Constant c k p) env) Q E s:=by
 cases c<;>first | (exact absurd h Kr) | skip
 ·cases d<;>first | (exact absurd h Kr) | skip
  exact wpAny_Constant_none (hQ _ _ (br s) fun U U=>.none)
 ·cases d<;>first | (exact absurd h Kr) | skip
  cases eq_of_beq h;exact wpAny_Constant_bool (hQ _ _ (br s) fun U U=>.bool _)
 ·cases d<;>first | (exact absurd h Kr) | skip
  cases eq_of_beq h;exact wpAny_Constant_int (hQ _ _ (aw s _) fun U U=>.int _ _)
 ·cases d<;>first | (exact absurd h Kr) | skip
  cases eq_of_beq h;exact wpAny_Constant_str (hQ _ _ (aw s _) fun U U=>.str _ _)
theorem B0(d:PyData):aP G Φ (.lit d):=by
 intro sc ctx ast t env A O ω ρ s E hc C R hp
 exact qp (P:=fun ast=>wpAny (model G.prog G.w) A (eval ast env) (ca t O s (den Φ (.lit d) ρ)) E s) hc fun c k p h=>vT h fun v s' k r=>⟨k,.of (r _ _)⟩
theorem B1(op:Operator)(a b:IX)(ha:aP G Φ a)(hb:aP G Φ b)(wf:G.Wf):aP G Φ (.bin op a b):=by
 intro sc ctx ast t env A O ω ρ s E hc C R hp
 refine uI (P:=fun ast=>wpAny (model G.prog G.w) A (eval ast env) (ca t O s (den Φ (.bin op a b) ρ)) E s) hc fun l o r p hc=>?_
 refine dW hc fun ho c1 c2=>?_
 cases eq_of_beq ho
 refine wpAny_BinOp (wpAny_mono (ha sc ctx l false env A O ω ρ s E c1 C (R.le (aF _ _)) hp.1) (fun v s₁ h₁=>?_) fun U U x=>x)
 have C1:=C.keeps wf h₁.1
 refine wpAny_mono (hb sc ctx r false env A O ω ρ s₁ E c2 C1 (R.le (aj _ _)) hp.2.1) (fun u s₂ h₂=>?_) fun U U x=>x
 have C2:=C1.keeps wf h₂.1
 exact wpAny_mono (vh C2.ok.ob (h₁.2.ff.keeps h₂.1) h₂.2.ff hp.2.2) (fun v s₃ h₃=>.of (aQ h₁.1 h₂.1) h₃) fun U U x=>x
theorem B3(op:CmpOp)(a b:IX)(ha:aP G Φ a)(hb:aP G Φ b)(wf:G.Wf):aP G Φ (.cmp op a b)/\cT G Φ (.cmp op a b):=by
 constructor
 ·intro sc ctx ast t env A O ω ρ s E hc C R hp
  refine qz (P:=fun ast=>wpAny (model G.prog G.w) A (eval ast env) (ca t O s (den Φ (.cmp op a b) ρ)) E s) hc fun l o r p hc=>?_
  refine fA hc fun ho c1 c2 c3=>?_
  cases eq_of_beq ho
  replace c3:behindInMarks op r=false:=by rw[jR]at c3;exact c3
  have hu:=R.units
  refine wpAny_Compare1 (wpAny_mono (ha sc ctx l true env A O ω ρ s E c1 C (R.le (aF _ _)) hp.1) (fun v s₁ h₁=>?_) fun U U x=>x) c3
  have C1:=C.keeps wf h₁.1
  refine wpAny_mono (hb sc ctx r true env A O ω ρ s₁ E c2 C1 (R.le (aj _ _)) hp.2.1) (fun u s₂ h₂=>?_) fun U U x=>x
  refine wpAny_mono (qE hu (h₁.2.tt.keeps h₂.1) h₂.2.tt hp.2.2) (fun v s₃ h₃=>?_) fun U U x=>x
  refine ak h₃ fun e0 k3=>?_;subst e0
  exact⟨aQ (aQ h₁.1 h₂.1) k3,.of (.bool _)⟩
 ·intro sc ctx ast env A O ω ρ s E hc C R hp _
  refine qz (P:=fun ast=>wpAny (model G.prog G.w) A (isTrue ast env (eval ast env)) (PB s (aB (den Φ (.cmp op a b) ρ))) E s) hc fun l o r p hc=>?_
  refine fA hc fun ho c1 c2 c3=>?_
  cases eq_of_beq ho
  replace c3:behindInMarks op r=false:=by rw[jR]at c3;exact c3
  have hu:=R.units
  refine wpAny_isTrue_Compare1 (wpAny_mono (ha sc ctx l true env A O ω ρ s E c1 C (R.le (aF _ _)) hp.1) (fun v s₁ h₁=>?_) fun U U x=>x) c3
  have C1:=C.keeps wf h₁.1
  refine wpAny_mono (hb sc ctx r true env A O ω ρ s₁ E c2 C1 (R.le (aj _ _)) hp.2.1) (fun u s₂ h₂=>?_) fun U U x=>x
  refine wpAny_mono (qE hu (h₁.2.tt.keeps h₂.1) h₂.2.tt hp.2.2) (fun v s₃ h₃=>?_) fun U U x=>x
  refine ak h₃ fun e0 k3=>?_;subst e0
  exact wpAny_truthy_bool ⟨rfl,aQ (aQ h₁.1 h₂.1) k3⟩
theorem B5(a:IX)(ha:aP G Φ a):aP G Φ (.neg a):=by
 intro sc ctx ast t env A O ω ρ s E hc C R hp
 refine uK (P:=fun ast=>wpAny (model G.prog G.w) A (eval ast env) (ca t O s (den Φ (.neg a) ρ)) E s) hc fun op x p hc=>?_
 refine aO hc fun ho hc=>?_
 cases eq_of_beq ho
 refine wpAny_UnaryOp (wpAny_mono (ha sc ctx x false env A O ω ρ s E hc C R hp.1) (fun v s₁ h₁=>?_) fun U U x=>x)
 replace hp:pre Φ a false ρ/\isInt (den Φ a ρ)=true:=hp
 have hden:den Φ (.neg a) ρ=.int (-(bh (den Φ a ρ))):=rfl
 rw[hden]
 have h2:=h₁.2.ff
 cases e:den Φ a ρ<;>rw[e]at hp h2<;>first | (exact absurd hp.2 Kr) | skip
 cases h2
 exact P.neg_int ⟨aQ h₁.1 (aw _ _),.of (.int _ _)⟩
theorem B6(a:IX)(ha:aP G Φ a)(ta:cT G Φ a):aP G Φ (.inv a)/\cT G Φ (.inv a):=by
 constructor
 ·intro sc ctx ast t env A O ω ρ s E hc C R hp
  refine oj (P:=fun ast=>wpAny (model G.prog G.w) A (eval ast env) (ca t O s (den Φ (.inv a) ρ)) E s) hc fun x p hc=>?_
  refine wpAny_UnaryOp (wpAny_mono (ha sc ctx x false env A O ω ρ s E hc C R hp.1) (fun v s₁ h₁=>?_) fun U U x=>x)
  rw[lS h₁.2.ff hp.2]
  exact not_of (wpAny_truthy_bool ⟨h₁.1,.of (.bool _)⟩)
 ·intro sc ctx ast env A O ω ρ s E hc C R hp _
  refine oj (P:=fun ast=>wpAny (model G.prog G.w) A (isTrue ast env (eval ast env)) (PB s (aB (den Φ (.inv a) ρ))) E s) hc fun x p hc=>?_
  show wpAny _ _ (isTrue x env (eval x env) >>= fun b=>pure (!b)) _ _ s
  refine wpAny_bind (wpAny_mono (ta sc ctx x env A O ω ρ s E hc C R hp.1 hp.2) (fun b s₁ h₁=>?_) fun U U x=>x)
  exact wpAny_pure ⟨by rw[h₁.1];rfl,h₁.2⟩
theorem B7(c a b:IX)(tc:cT G Φ c)(ha:aP G Φ a)(hb:aP G Φ b)(ta:cT G Φ a)(tb:cT G Φ b)(wf:G.Wf):aP G Φ (.ite c a b)/\cT G Φ (.ite c a b):=by
 constructor
 ·intro sc ctx ast t env A O ω ρ s E hc C R hp
  refine uM (P:=fun ast=>wpAny (model G.prog G.w) A (eval ast env) (ca t O s (den Φ (.ite c a b) ρ)) E s) hc fun x y z p hc=>?_
  refine dW hc fun c1 c2 c3=>?_
  refine wpAny_IfExp (wpAny_mono (tc sc ctx x env A O ω ρ s E c1 C (R.le (aF _ _)) hp.1 hp.2.1) (fun q s₁ h₁=>?_) fun U U x=>x)
  refine ak h₁ fun e0 k1=>?_;subst e0
  have C1:=C.keeps wf k1
  have hden:den Φ (.ite c a b) ρ=if aB (den Φ c ρ)then den Φ a ρ else den Φ b ρ:=rfl
  rw[hden]
  cases ht:aB (den Φ c ρ)with
  | true =>
   rw[if_pos rfl]
   exact wpAny_mono (ha sc ctx y false env A O ω ρ s₁ E c2 C1 (R.le (ae (aF _ _) (aj _ _))) (hp.2.2.1 ht)) (fun v s₂ h₂=>⟨aQ k1 h₂.1,.of h₂.2.ff⟩) fun U U x=>x
  | false =>
   rw[if_neg Kr]
   exact wpAny_mono (hb sc ctx z false env A O ω ρ s₁ E c3 C1 (R.le (ae (aj _ _) (aj _ _))) (hp.2.2.2 ht)) (fun v s₂ h₂=>⟨aQ k1 h₂.1,.of h₂.2.ff⟩) fun U U x=>x
 ·intro sc ctx ast env A O ω ρ s E hc C R hp hb'
  refine uM (P:=fun ast=>wpAny (model G.prog G.w) A (isTrue ast env (eval ast env)) (PB s (aB (den Φ (.ite c a b) ρ))) E s) hc fun x y z p hc=>?_
  refine dW hc fun c1 c2 c3=>?_
  have hden:den Φ (.ite c a b) ρ=if aB (den Φ c ρ)then den Φ a ρ else den Φ b ρ:=rfl
  rw[hden]at hb' ⊢
  show wpAny _ _ (isTrue x env (eval x env) >>= fun q=>if q=true then isTrue y env (eval y env)else isTrue z env (eval z env)) _ _ s
  refine wpAny_bind (wpAny_mono (tc sc ctx x env A O ω ρ s E c1 C (R.le (aF _ _)) hp.1 hp.2.1) (fun q s₁ h₁=>?_) fun U U x=>x)
  refine ak h₁ fun e0 k1=>?_;subst e0
  have C1:=C.keeps wf k1
  cases ht:aB (den Φ c ρ)with
  | true =>
   rw[ht]at hb'
   rw[if_pos rfl]at hb' ⊢
   exact wpAny_mono (ta sc ctx y env A O ω ρ s₁ E c2 C1 (R.le (ae (aF _ _) (aj _ _))) (hp.2.2.1 ht) hb') (fun v s₂ h₂=>⟨h₂.1,aQ k1 h₂.2⟩) fun U U x=>x
  | false =>
   rw[ht]at hb'
   rw[if_neg Kr]at hb' ⊢
   exact wpAny_mono (tb sc ctx z env A O ω ρ s₁ E c3 C1 (R.le (ae (aj _ _) (aj _ _))) (hp.2.2.2 ht) hb') (fun v s₂ h₂=>⟨h₂.1,aQ k1 h₂.2⟩) fun U U x=>x
theorem j6(e:IX):∀ {sc:Scope} {ctx:List (Option Str)} {asts:List Expr},b0 Φ e sc ctx asts=true->∀a∈asts,du a=true:=by
 induction e with
 | cons a b _ ihb =>
  intro sc ctx asts h
  refine cO (P:=fun asts=>∀a∈asts,du a=true) h fun x r h=>?_
  refine aO h fun h1 h2 y hy=>?_
  rcases aa.mp hy with rfl | hy
  ·exact eZ a h1
  ·exact ihb h2 y hy
 | nil =>
  intro sc ctx asts h
  exact et (P:=fun asts=>∀a∈asts,du a=true) h fun U a ha=>nomatch ha
 | _=>intro sc ctx asts h;exact absurd h Kr
theorem B8(es:IX)(h:iN G Φ es)(wf:G.Wf):aP G Φ (.list es):=by
 intro sc ctx ast t env A O ω ρ s E hc C R hp
 refine nZ (P:=fun ast=>wpAny (model G.prog G.w) A (eval ast env) (ca t O s (den Φ (.list es) ρ)) E s) hc fun xs p hc=>?_
 refine wpAny_List ?_
 rw[gV _ (j6 es hc),ju]
 refine wpAny_mono (h sc ctx xs env A O ω ρ s E hc C R hp.1) (fun vs s₁ h₁=>?_) fun U U x=>x
 have hl:vs.length<=16777216:=by rw[h₁.2.length];exact hp.2
 have C1:=C.keeps wf h₁.1
 refine⟨hl,aQ h₁.1 (bt _),.of (.list (n:=0) (fun q=>aI _ (C1.ok.ob _ q)) (IsL.new _ _) (by simpa using h₁.2.pushO _))⟩
theorem B9(es:IX)(h:iN G Φ es)(wf:G.Wf):aP G Φ (.tup es):=by
 intro sc ctx ast t env A O ω ρ s E hc C R hp
 refine n0 (P:=fun ast=>wpAny (model G.prog G.w) A (eval ast env) (ca t O s (den Φ (.tup es) ρ)) E s) hc fun xs x1 p hc=>?_
 refine wpAny_Tuple ?_
 rw[gV _ (j6 es hc),ju]
 refine wpAny_mono (h sc ctx xs env A O ω ρ s E hc C R hp.1) (fun vs s₁ h₁=>?_) fun U U x=>x
 have hl:vs.length<=16777216:=by rw[h₁.2.length];exact hp.2
 have C1:=C.keeps wf h₁.1
 refine⟨hl,aQ h₁.1 (bt _),.of (.tuple (n:=0) (fun q=>aI _ (C1.ok.ob _ q)) (IsT.new _ _) (by simpa using h₁.2.pushO _))⟩
set_option tactic.hygienic true in
theorem j7{A:Around}{E:Value->Shared->Prop}{s:Shared}{env:Env}{value slice:Expr}{pos:Pos}{Q:Value->Shared->Prop}
 (h:wpAny (model G.prog G.w) A (eval value env) (fun o s₁=>wpAny (model G.prog G.w) A (eval slice env) (fun i s₂=>∃T id,typeLookup (.type T) "__getitem__" = pure (some (.builtin id))/\s₂.TypeIs o T/\wpAny (model G.prog G.w) A (getItem o i) Q E s₂) E s₁) E s) :
 wpAny (model G.prog G.w) A (eval (.Subscript value slice pos) env) Q E s:=by
 rw[eval_Subscript]
 refine wpAny_bind (wpAny_mono h (fun o s₁ h₁=>wpAny_bind (wpAny_holding (wpAny_mono h₁ (fun i s₂ h₂=>wpAny_bind (wpAny_standAt ?_)) fun U U x=>x))) fun U U x=>x)
 refine x23 h₂ fun T id hl hT hg=>?_
 have fin:∀vs,wpAny (model G.prog G.w) A (operate vs (getItem o i)) (fun r s₃=>wpAny (model G.prog G.w) A (letTemporaryGo value o r >>= fun U=>pure r) Q E s₃) E s₂:=fun vs =>
  wpAny_operating (wpAny_mono hg (fun r s₃ h₃=>wpAny_bind (oP (wpAny_pure h₃))) fun U U x=>x)
 have sub:wpAny (model G.prog G.w) A (subscripted slice false o i) (fun r s₃=>wpAny (model G.prog G.w) A (letTemporaryGo value o r >>= fun U=>pure r) Q E s₃) E s₂:=by
  cases slice<;>first | exact fin [o,i] | skip
  rename_i l u st p
  cases st
  ·exact fin [i,o]
  ·exact fin [o,i]
 refine wpAny_bind ?_
 rw[getitemInPython_of_ne hT.not_modules]
 refine wpAny_bind (wpAny_specialOf hT hl ?_)
 exact wpAny_pure (wpAny_bind sub)
theorem vU{O:Addr->Prop}{s:Shared}{v:Value}{d:PyData}(r:bg O s.heap v d)(h:qK d=true\/isStr d=true):∃T id,typeLookup (.type T) "__getitem__" = pure (some (.builtin id))/\s.TypeIs v T:=by
 cases d<;>first | exact absurd h (fun q=>q.elim Kr Kr) | skip
 ·refine x11 r.strIs fun t e1=>?_;subst e1
  exact⟨_,_,F.slot_str_getitem.lookup,typeIs_str _ _ _⟩
 ·refine x33 r.listIs fun a vs n e3 hl U=>?_;subst e3
  exact⟨_,_,F.slot_list_getitem.lookup,hl.isList.typeIs⟩
 ·refine x33 r.tupIs fun a vs n e3 hl U=>?_;subst e3
  exact⟨_,_,F.slot_tuple_getitem.lookup,(show s.heap.IsTuple a vs from⟨_,hl,rfl,n,rfl⟩).typeIs⟩
theorem Ca(a i:IX)(ha:aP G Φ a)(hi:aP G Φ i)(wf:G.Wf):aP G Φ (.sub a i):=by
 intro sc ctx ast t env A O ω ρ s E hc C R hp
 refine og (P:=fun ast=>wpAny (model G.prog G.w) A (eval ast env) (ca t O s (den Φ (.sub a i) ρ)) E s) hc fun x y p hc=>?_
 refine aO hc fun c1 c2=>?_
 refine j7 (wpAny_mono (ha sc ctx x true env A O ω ρ s E c1 C (R.le (aF _ _)) hp.1) (fun v s₁ h₁=>?_) fun U U x=>x)
 have C1:=C.keeps wf h₁.1
 refine wpAny_mono (hi sc ctx y false env A O ω ρ s₁ E c2 C1 (R.le (aj _ _)) hp.2.1) (fun u s₂ h₂=>?_) fun U U x=>x
 have r:=h₁.2.tt.keeps h₂.1
 refine x22 (vU r (vl (P:=fun x U U=>qK x=true\/isStr x=true) hp.2.2 (fun U U U=>.inr rfl) (fun U U U=>.inl rfl) (fun U U U=>.inl rfl))) fun T id hl hT=>?_
 exact⟨T,id,hl,hT,wpAny_mono (Bp r h₂.2.ff hp.2.2) (fun v s₃ h₃=>.of (aQ h₁.1 h₂.1) h₃) fun U U x=>x⟩
theorem Cb(a lo hi:IX)(ha:aP G Φ a)(hlo:j4 G Φ lo)(hhi:j4 G Φ hi)(wf:G.Wf):aP G Φ (.slice a lo hi):=by
 intro sc ctx ast t env A O ω ρ s E hc C R hp
 refine og (P:=fun ast=>wpAny (model G.prog G.w) A (eval ast env) (ca t O s (den Φ (.slice a lo hi) ρ)) E s) hc fun x sl p hc=>?_
 refine A9 (P:=fun sl=>wpAny (model G.prog G.w) A (eval (.Subscript x sl p) env) (ca t O s (den Φ (.slice a lo hi) ρ)) E s) hc fun l u st p1 hc=>?_
 refine ql (P:=fun st=>wpAny (model G.prog G.w) A (eval (.Subscript x (.Slice l u st p1) p) env) (ca t O s (den Φ (.slice a lo hi) ρ)) E s) hc fun hc=>?_
 refine dW hc fun c1 c2 c3=>?_
 refine j7 (wpAny_mono (ha sc ctx x true env A O ω ρ s E c1 C (R.le (aF _ _)) hp.1) (fun v s₁ h₁=>?_) fun U U x=>x)
 have C1:=C.keeps wf h₁.1
 refine wpAny_Slice (wpAny_mono (hlo sc ctx l env A O ω ρ s₁ E c2 C1 (R.le (ae (aF _ _) (aj _ _))) hp.2.1) (fun v₁ s₂ h₂=>?_) fun U U x=>x)
 have C2:=C1.keeps wf h₂.1
 refine wpAny_mono (hhi sc ctx u env A O ω ρ s₂ E c3 C2 (R.le (ae (aj _ _) (aj _ _))) hp.2.2.1) (fun v₂ s₃ h₃=>?_) fun U U x=>x
 have C3:=C2.keeps wf h₃.1
 rw[evalPart_none]
 refine wpAny_pure ?_
 have kp:Keeps s₃ { s₃ with heap:=s₃.heap.push { cls:=.type "slice",data:=.fields #[v₁,v₂,.none] } }:=bt _
 have r:=(((h₁.2.tt).keeps h₂.1).keeps h₃.1).keeps kp
 obtain⟨T,id,hl,hT⟩:=vU r (by
  have:=hp.2.2.2
  cases e:den Φ a ρ<;>rw[e]at this<;>first | exact this.elim | exact .inl rfl | exact .inr rfl)
 refine⟨T,id,hl,hT,wpAny_mono (vn (C3.keeps wf kp).ok.ob r ((h₂.2.keeps h₃.1).keeps kp) (h₃.2.keeps kp) (Heap.get?_push_size _ rfl) hp.2.2.2) (fun v s₄ h₄=>?_) fun U U x=>x⟩
 exact .of (aQ (aQ (aQ h₁.1 h₂.1) h₃.1) kp) h₄
theorem Cd(a b:IX)(ha:aP G Φ a)(hb:iN G Φ b)(wf:G.Wf):iN G Φ (.cons a b):=by
 intro sc ctx asts env A O ω ρ s E hc C R hp
 refine cO (P:=fun asts=>wpAny (model G.prog G.w) A (spliced (asts.map fun a=>(false,eval a env))) (fun vs s'=>Keeps s s'/\RepL O s'.heap vs (bV Φ (.cons a b) ρ)) E s) hc fun x r hc=>?_
 refine aO hc fun c1 c2=>?_
 refine Calls.spliced_cons (wpAny_mono (ha sc ctx x false env A O ω ρ s E c1 C (R.le (aF _ _)) hp.1) (fun v s₁ h₁=>?_) fun U U x=>x)
 refine wpAny_mono (hb sc ctx r env A O ω ρ s₁ E c2 (C.keeps wf h₁.1) (R.le (aj _ _)) hp.2) (fun vs s₂ h₂=>?_) fun U U x=>x
 exact⟨aQ h₁.1 h₂.1,.cons (h₁.2.ff.keeps h₂.1) h₂.2⟩
theorem Ce:iN G Φ .nil:=by
 intro sc ctx asts env A O ω ρ s E hc C R hp
 exact et (P:=fun asts=>wpAny (model G.prog G.w) A (spliced (asts.map fun a=>(false,eval a env))) (fun vs s'=>Keeps s s'/\RepL O s'.heap vs (bV Φ .nil ρ)) E s) hc fun U=>Calls.spliced_nil ⟨br s,.nil⟩
theorem Cf:j4 G Φ .nil:=by
 intro sc ctx oe env A O ω ρ s E hc C R hp
 refine ql (P:=fun oe=>wpAny (model G.prog G.w) A (evalPart oe env) (PV O s (gf Φ .nil ρ)) E s) hc fun U=>?_
 rw[evalPart_none];exact wpAny_pure ⟨br s,.none⟩
theorem Cg(a b:IX)(ha:aP G Φ a):j4 G Φ (.cons a b):=by
 intro sc ctx oe env A O ω ρ s E hc C R hp
 refine aO hc fun hn hc=>?_
 cases b<;>first | (exact absurd hn Kr) | skip
 refine nW (P:=fun oe=>wpAny (model G.prog G.w) A (evalPart oe env) (PV O s (gf Φ (.cons a .nil) ρ)) E s) hc fun x hc=>?_
 rw[evalPart_some]
 exact wpAny_mono (ha sc ctx x false env A O ω ρ s E hc C (R.le (aF _ _)) hp) (fun v s₁ h₁=>⟨h₁.1,h₁.2.ff⟩) fun U U x=>x
end
section
variable{G:Glo}{Φ:List FEntry}
theorem vV{b:IX}{sc:Scope}{ctx:List (Option Str)}{r:List Expr}(h:b0 Φ b sc ctx r=true):(eu b=true/\r=[])\/(eu b=false/\∃y z,r=y::z):=by
 cases b<;>first | exact absurd h Kr | skip
 ·exact et (P:=fun r=>(eu .nil=true/\r=[])\/(eu .nil=false/\∃y z,r=y::z)) h fun U=>.inl ⟨rfl,rfl⟩
 ·exact cO (P:=fun r=>(eu (.cons _ _)=true/\r=[])\/(eu (.cons _ _)=false/\∃y z,r=y::z)) h fun y z U=>.inr ⟨rfl,y,z,rfl⟩
theorem Ch(a b:IX)(ha:aP G Φ a)(hb:lQ G Φ b)(wf:G.Wf):lQ G Φ (.cons a b):=by
 intro o sc ctx asts env A O ω ρ s E pos hc C R hp
 have hd:fD Φ o (.cons a b) ρ=if eu b=true then den Φ a ρ else if aB (den Φ a ρ)=o then .bool o else fD Φ o b ρ:=rfl
 rw[hd]
 generalize hQ:PV O s (if eu b=true then den Φ a ρ else if aB (den Φ a ρ)=o then .bool o else fD Φ o b ρ)=Q
 refine cO (P:=fun asts=>wpAny (model G.prog G.w) A (boolOp pos (gR o) (evalEach asts env)) Q E s) hc fun x r hc=>?_
 refine aO hc fun c1 c2=>?_
 have hx:∀Q:Value->Shared->Prop,(∀v s',ca false O s (den Φ a ρ) v s'->Q v s')->wpAny (model G.prog G.w) A (eval x env) Q E s:=fun Q h=>wpAny_mono (ha sc ctx x false env A O ω ρ s E c1 C (R.le (aF _ _)) hp.1) h fun U U x=>x
 rcases vV c2 with⟨hn,rfl⟩ | ⟨hn,y,z,rfl⟩
 ·rw[if_pos hn]at hQ
  subst hQ
  exact hx _ fun v s₁ h₁=>⟨h₁.1,h₁.2.ff⟩
 ·rw[hn,if_neg Kr]at hQ
  show wpAny (model G.prog G.w) A (eval x env >>= fun v=>standAt pos >>= fun U=>holding [v] (truthy v) >>= fun t=>(match gR o,t with | .And,false=>pure v | .Or,true=>pure v | _,_=>boolOp pos (gR o) (evalEach (y::z) env))) Q E s
  refine wpAny_bind (hx _ fun v s₁ h₁=>?_)
  cases lS h₁.2.ff (hp.2 hn).1
  refine wpAny_bind (wpAny_standAt (wpAny_bind (wpAny_holding (wpAny_truthy_bool ?_))))
  by_cases ht:aB (den Φ a ρ)=o
  ·rw[if_pos ht]at hQ
   subst hQ
   rw[ht]
   cases o<;>exact wpAny_pure ⟨h₁.1,.bool _⟩
  ·rw[if_neg ht]at hQ
   have ht:aB (den Φ a ρ)=!o:=Bool.eq_not.mpr ht
   subst hQ
   rw[ht]
   have hb:=wpAny_mono (hb o sc ctx (y::z) env A O ω ρ s₁ E pos c2 (C.keeps wf h₁.1) (R.le (aj _ _)) ((hp.2 hn).2 ht)) (fun v s₂ h₂=>(⟨aQ h₁.1 h₂.1,h₂.2⟩:PV O s _ v s₂)) fun U U x=>x
   cases o<;>exact hb
theorem Ci(a b:IX)(ta:cT G Φ a)(tb:lR G Φ b)(wf:G.Wf):lR G Φ (.cons a b):=by
 intro o sc ctx asts env A O ω ρ s E hc C R hp hbool
 have hd:fD Φ o (.cons a b) ρ=if eu b=true then den Φ a ρ else if aB (den Φ a ρ)=o then .bool o else fD Φ o b ρ:=rfl
 rw[hd]at hbool ⊢
 generalize hQ:PB s (aB (if eu b=true then den Φ a ρ else if aB (den Φ a ρ)=o then .bool o else fD Φ o b ρ))=Q
 refine cO (P:=fun asts=>wpAny (model G.prog G.w) A (allTrue (gR o) asts env) Q E s) hc fun x r hc=>?_
 refine aO hc fun c1 c2=>?_
 have hx:dZ (den Φ a ρ)=true->∀Q:Bool->Shared->Prop,(∀v s',PB s (aB (den Φ a ρ)) v s'->Q v s')->wpAny (model G.prog G.w) A (isTrue x env (eval x env)) Q E s:=fun hb Q h=>wpAny_mono (ta sc ctx x env A O ω ρ s E c1 C (R.le (aF _ _)) hp.1 hb) h fun U U x=>x
 show wpAny (model G.prog G.w) A (isTrue x env (eval x env) >>= fun t=>(match gR o,t with | .And,false=>pure false | .Or,true=>pure true | _,_=>allTrue (gR o) r env)) Q E s
 rcases vV c2 with⟨hn,rfl⟩ | ⟨hn,y,z,rfl⟩
 ·rw[if_pos hn]at hQ hbool
  subst hQ
  refine wpAny_bind (hx hbool _ fun t s₁ h₁=>?_)
  refine ak h₁ fun e0 k1=>?_;subst e0
  cases o<;>cases aB (den Φ a ρ)<;>exact wpAny_pure ⟨rfl,k1⟩
 ·rw[hn,if_neg Kr]at hQ hbool
  refine wpAny_bind (hx (hp.2 hn).1 _ fun t s₁ h₁=>?_)
  refine ak h₁ fun e0 k1=>?_;subst e0
  by_cases ht:aB (den Φ a ρ)=o
  ·rw[if_pos ht]at hQ
   subst hQ
   rw[ht]
   cases o<;>exact wpAny_pure ⟨rfl,k1⟩
  ·rw[if_neg ht]at hQ hbool
   have ht:aB (den Φ a ρ)=!o:=Bool.eq_not.mpr ht
   subst hQ
   rw[ht]
   have hb:=wpAny_mono (tb o sc ctx (y::z) env A O ω ρ s₁ E c2 (C.keeps wf k1) (R.le (aj _ _)) ((hp.2 hn).2 ht) hbool) (fun v s₂ h₂=>(⟨h₂.1,aQ k1 h₂.2⟩:PB s _ v s₂)) fun U U x=>x
   cases o<;>exact hb
theorem Cj(o:Bool)(es:IX)(h:lQ G Φ es)(t:lR G Φ es):aP G Φ (.bop o es)/\cT G Φ (.bop o es):=by
 constructor
 ·intro sc ctx ast t env A O ω ρ s E hc C R hp
  refine qs (P:=fun ast=>wpAny (model G.prog G.w) A (eval ast env) (ca t O s (den Φ (.bop o es) ρ)) E s) hc fun op xs p hc=>?_
  refine aO hc fun ho h2=>?_
  cases eq_of_beq ho
  rw[arm_eval_BoolOp]
  exact wpAny_mono (h o sc ctx xs env A O ω ρ s E p h2 C R hp) (fun v s₁ h₁=>⟨h₁.1,.of h₁.2⟩) fun U U x=>x
 ·intro sc ctx ast env A O ω ρ s E hc C R hp hb
  refine qs (P:=fun ast=>wpAny (model G.prog G.w) A (isTrue ast env (eval ast env)) (PB s (aB (den Φ (.bop o es) ρ))) E s) hc fun op xs p hc=>?_
  refine aO hc fun ho h2=>?_
  cases eq_of_beq ho
  exact t o sc ctx xs env A O ω ρ s E h2 C R hp hb
theorem Cl:iO G Φ .nil:=by
 intro sc ctx asts env A O ω ρ s E hc C R hp
 exact et (P:=fun asts=>wpAny (model G.prog G.w) A (forIn asts true fun c r=>if r=true then do let ok <- isTrue c env (eval c env);pure (ForInStep.yield ok)else pure (ForInStep.yield r)) (fun b s'=>b=cS Φ .nil ρ/\Keeps s s') E s) hc fun U=>wpAny_pure ⟨rfl,br s⟩
theorem vW{prog:Program}{w:World}{A:Around}{E:Value->Shared->Prop}{s:Shared}{env:Env}{Q:Bool->Shared->Prop}(h:Q false s):∀asts:List Expr,
 wpAny (model prog w) A (forIn asts false fun c r=>if r=true then do let ok <- isTrue c env (eval c env);pure (ForInStep.yield ok)else pure (ForInStep.yield r)) Q E s
 | []=>wpAny_pure h
 | x::r=>by
  rw[ug]
  rw[if_neg Kr]
  exact wpAny_bind (wpAny_pure (vW h r))
theorem Cm(a b:IX)(ta:cT G Φ a)(hb:iO G Φ b)(wf:G.Wf):iO G Φ (.cons a b):=by
 intro sc ctx asts env A O ω ρ s E hc C R hp
 have hd:cS Φ (.cons a b) ρ=(aB (den Φ a ρ)&&cS Φ b ρ):=rfl
 rw[hd]
 refine cO (P:=fun asts=>wpAny (model G.prog G.w) A (forIn asts true fun c r=>if r=true then do let ok <- isTrue c env (eval c env);pure (ForInStep.yield ok)else pure (ForInStep.yield r)) (fun b' s'=>b'=(aB (den Φ a ρ)&&cS Φ b ρ)/\Keeps s s') E s) hc fun x r hc=>?_
 refine aO hc fun c1 c2=>?_
 rw[ug,if_pos rfl]
 refine wpAny_bind (wpAny_bind (wpAny_mono (ta sc ctx x env A O ω ρ s E c1 C (R.le (aF _ _)) hp.1 hp.2.1) (fun t s₁ h₁=>wpAny_pure ?_) fun U U x=>x))
 refine ak h₁ fun e0 k1=>?_;subst e0
 cases ht:aB (den Φ a ρ)with
 | false=>exact vW ⟨rfl,k1⟩ r
 | true =>
  exact wpAny_mono (hb sc ctx r env A O ω ρ s₁ E c2 (C.keeps wf k1) (R.le (aj _ _)) (hp.2.2 ht)) (fun b s₂ h₂=>⟨by rw[h₂.1];rfl,aQ k1 h₂.2⟩) fun U U x=>x
theorem ItIs.mono{prog:Program}{w:World}{A:Around}{O:Addr->Prop}{F F':Prop}{h₀ h:Heap}{it:Value}{ds:List PyData}(x:ItIs prog w A O F h₀ h it ds)(hF:F'->F):ItIs prog w A O F' h₀ h it ds:=by
 obtain⟨I,fp,wr,P,St,e,W,hst,hfp,hwr,hf,r1,r2,r3⟩:=x
 exact⟨I,fp,wr,P,St,e,W,hst,hfp,hwr,fun z=>hf (hF z),r1,r2,r3⟩
theorem Cn(e:IX)(h:aP G Φ e)(wf:G.Wf):fH G Φ (.seq e):=by
 intro sc ctx ast t env A O ω ρ s E hc C R hp
 replace hc:chk Φ e sc ctx ast=true:=hc
 refine wpAny_mono (h sc ctx ast t env A O ω ρ s E hc C R hp.1) (fun x s₁ h₁=>⟨h₁.1,fun E=>?_⟩) fun U U x=>x
 have C1:=C.keeps wf h₁.1
 rw[show bp Φ (.seq e) ρ=items (den Φ e ρ)from rfl]
 have hr:bg O s₁.heap x (den Φ e ρ):=by
  cases t
  ·exact .of h₁.2
  ·exact h₁.2
 have hp2:=hp.2
 cases hd:den Φ e ρ<;>rw[hd]at hp2<;>first | exact hp2.elim | skip
 ·rename_i y
  rw[hd]at hr
  refine x11 hr.strIs fun u e1=>?_;subst e1
  exact BG C1.ok hp2 fun it s' k hi=>⟨k,hi.mono fun U=>trivial⟩
 ·rw[hd]at hr
  refine vu C1.ok hr fun it s' k hi=>⟨k,hi.mono fun z=>?_⟩
  subst z;exact hd▸h₁.2
 ·rw[hd]at hr
  refine vv C1.ok hr fun it s' k hi=>⟨k,hi.mono fun z=>?_⟩
  subst z;exact hd▸h₁.2
theorem qU{d:PyData}(h:lG d):d=.int (bh d)/\-1000000000<=bh d/\bh d<=1000000000:=by
 cases d<;>first | exact h.elim | exact⟨rfl,h⟩
theorem dv{A:Around}{E:Value->Shared->Prop}{s:Shared}{env:Env}{g:Str}{np pos:Pos}{as:List Expr}{Q:Value->Shared->Prop}(hs:∀a∈as,du a=true)
 (h:wpAny (model G.prog G.w) A (eval (.Name g np) env) (fun f s₁=>wpAny (model G.prog G.w) A (callWith pos f [] (as.map fun a=>(false,eval a env)) []) Q E s₁) E s) :
 wpAny (model G.prog G.w) A (eval (.Call (.Name g np) as [] pos) env) Q E s:=by
 show wpAny _ A (do callWith pos (<- eval (.Name g np) env) [] (backTo pos (starEach as env)) (backToKw pos (keywordEach [] env))) Q E s
 rw[gV _ hs,ju]
 exact wpAny_bind h
theorem vY:(ofString "range",Value.type "range")∈bQ:=by simp[bQ]
theorem vZ:(ofString "len",Value.builtin "len")∈bQ:=by simp[bQ]
theorem Co:(ofString "sum",Value.builtin "sum")∈bQ:=by simp[bQ]
theorem Cp(a:IX)(ha:aP G Φ a)(wf:G.Wf):fH G Φ (.range1 a):=by
 intro sc ctx ast t env A O ω ρ s E hc C R hp
 refine lu (P:=fun ast=>wpAny (model G.prog G.w) A (eval ast env) (fun x s₁=>Keeps s s₁/\∀E,wpAny (model G.prog G.w) A (pyIter x) (fun it s₂=>Keeps s₁ s₂/\ItIs G.prog G.w A O (t=false) s₁.heap s₂.heap it (bp Φ (.range1 a) ρ)) E s₁) E s) hc fun g np x pos hc=>?_
 refine dW hc fun hgn hg hx=>?_
 cases eq_of_beq hgn
 refine dv (fun a' ha'=>by rw[ai.mp ha'];exact eZ a hx) (gm wf C.eo C.base hg vY ?_)
 refine PySem.callWith_type (fG _) (Calls.evalArgs_plain (Calls.spliced_cons (wpAny_mono (ha sc ctx x false env A O ω ρ s E hx C R hp.1) (fun v s₁ h₁=>Calls.spliced_nil ?_) fun U U x=>x)))
 refine cN (qU hp.2) fun e l1 l2=>?_
 have hr:=h₁.2.ff
 rw[e]at hr
 refine x11 (fC hr) fun u e1=>?_;subst e1
 refine call_range_1 ⟨aQ h₁.1 (bt _),fun E=>?_⟩
 rw[show bp Φ (.range1 a) ρ=gP 0 (bh (den Φ a ρ) - 0).toNat from rfl]
 exact vw ((C.keeps wf h₁.1).ok.push _ _) (IsRange.new _ _ _ _ _ _ _) (by lia) ⟨l1,l2⟩ fun it s' k hi=>⟨k,hi.mono fun U=>trivial⟩
theorem Cq(a b:IX)(ha:aP G Φ a)(hb:aP G Φ b)(wf:G.Wf):fH G Φ (.range2 a b):=by
 intro sc ctx ast t env A O ω ρ s E hc C R hp
 refine Bd (P:=fun ast=>wpAny (model G.prog G.w) A (eval ast env) (fun x s₁=>Keeps s s₁/\∀E,wpAny (model G.prog G.w) A (pyIter x) (fun it s₂=>Keeps s₁ s₂/\ItIs G.prog G.w A O (t=false) s₁.heap s₂.heap it (bp Φ (.range2 a b) ρ)) E s₁) E s) hc fun g np x y pos hc=>?_
 refine fA hc fun hgn hg hx hy=>?_
 cases eq_of_beq hgn
 refine dv (fun a' ha'=>by
  rcases aa.mp ha' with rfl | ha'
  ·exact eZ a hx
  ·rw[ai.mp ha'];exact eZ b hy) (gm wf C.eo C.base hg vY ?_)
 refine PySem.callWith_type (fG _) (Calls.evalArgs_plain (Calls.spliced_cons (wpAny_mono (ha sc ctx x false env A O ω ρ s E hx C (R.le (aF _ _)) hp.1) (fun v s₁ h₁=>Calls.spliced_cons ?_) fun U U x=>x)))
 have C1:=C.keeps wf h₁.1
 refine wpAny_mono (hb sc ctx y false env A O ω ρ s₁ E hy C1 (R.le (aj _ _)) hp.2.1) (fun v₂ s₂ h₂=>Calls.spliced_nil ?_) fun U U x=>x
 refine cN (qU hp.2.2.1) fun e l1 l2=>?_
 refine cN (qU hp.2.2.2) fun e' l1' l2'=>?_
 have hr:=h₁.2.ff
 rw[e]at hr
 refine x11 (fC hr) fun u e1=>?_;subst e1
 have hr':=h₂.2.ff
 rw[e']at hr'
 refine x11 (fC hr') fun u' e1=>?_;subst e1
 refine call_range_2 ⟨aQ (aQ h₁.1 h₂.1) (bt _),fun E=>?_⟩
 rw[show bp Φ (.range2 a b) ρ=gP (bh (den Φ a ρ)) (bh (den Φ b ρ) - bh (den Φ a ρ)).toNat from rfl]
 exact vw ((C1.keeps wf h₂.1).ok.push _ _) (IsRange.new _ _ _ _ _ _ _) ⟨l1,l2⟩ ⟨l1',l2'⟩ fun it s' k hi=>⟨k,hi.mono fun U=>trivial⟩
end
section
variable{G:Glo}{Φ:List FEntry}
theorem Cr(f:Nat)(es:IX)(h:iN G Φ es)(wf:G.Wf)(hF:∀F∈Φ,aN G F):aP G Φ (.call f es):=by
 intro sc ctx ast t env A O ω ρ s E hc C R hp
 refine iB (P:=fun ast=>wpAny (model G.prog G.w) A (eval ast env) (ca t O s (den Φ (.call f es) ρ)) E s) hc fun g np args pos hc=>?_
 refine ge hc fun hn hd hl hg ha=>?_
 have hn:=eq_of_beq hn
 have hd:=bne_iff_ne.mp hd
 have hl:=of_decide_eq_true hl
 have hmem:Φ.getD f .nope∈Φ:=by
  rw[aq,bk hl]
  exact List.getElem_mem hl
 refine x34 (hF _ hmem) fun a o fd e1 e2 e3 ct=>?_
 refine dv (j6 es ha) (gU wf C.eo C.base hg (by simpa using hd) (hn▸e1) ?_)
 refine Calls.callWith_function (o:=o) (fd:=fd) (gW (wpAny_mono (h sc ctx args env A O ω ρ s E ha C (R.le (aF _ _)) hp.1) (fun vs s₁ h₁=>?_) fun U U x=>x))
 have C1:=C.keeps wf h₁.1
 refine⟨⟨C1.base.kp a o (wf.K a o e2),e3⟩,?_⟩
 exact wpAny_mono (ct A s₁ O vs _ E (R.le (ae (dH _) (aj _ _))) C1.ok C1.base h₁.2 hp.2) (fun v s₂ h₂=>.of h₁.1 h₂) fun U U x=>x
theorem qV{id:String}{A:Around}{E:Value->Shared->Prop}{s:Shared}{env:Env}{sc:Scope}{ctx:List (Option Str)}{O:Addr->Prop}{ω:Addr->Option Nat}{ρ:List SV}{g:Str}{np pos:Pos}{x:Expr}{Q:Value->Shared->Prop}(wf:G.Wf)
 (C:Cond G env sc ctx A O ω ρ s) (hs:du x=true) (hg:bK sc g=true) (hm:(g,Value.builtin id)∈bQ)
 (h:wpAny (model G.prog G.w) A (eval x env) (fun v s₁=>wpAny (model G.prog G.w) A (call (.builtin id) [v]) Q E s₁) E s) :
 wpAny (model G.prog G.w) A (eval (.Call (.Name g np) [x] [] pos) env) Q E s:=by
 refine dv (fun a' ha'=>by rw[ai.mp ha'];exact hs) (gm wf C.eo C.base hg hm ?_)
 exact Calls.callWith_builtin (fG _) (Calls.evalArgs_plain (Calls.spliced_cons (wpAny_mono h (fun v s₁ h₁=>Calls.spliced_nil h₁) fun U U x=>x)))
theorem Cs(a:IX)(ha:aP G Φ a)(wf:G.Wf):aP G Φ (.len a):=by
 intro sc ctx ast t env A O ω ρ s E hc C R hp
 refine lu (P:=fun ast=>wpAny (model G.prog G.w) A (eval ast env) (ca t O s (den Φ (.len a) ρ)) E s) hc fun g np x pos hc=>?_
 refine dW hc fun hgn hg hx=>?_
 cases eq_of_beq hgn
 exact qV wf C (eZ a hx) hg vZ (wpAny_mono (ha sc ctx _ true env A O ω ρ s E hx C R hp.1) (fun v s₁ h₁=>wpAny_mono (vx h₁.2.tt hp.2) (fun u s₂ h₂=>.of h₁.1 h₂) fun U U x=>x) fun U U x=>x)
theorem Ct(a:IX)(ha:aP G Φ a)(wf:G.Wf):aP G Φ (.sum a):=by
 intro sc ctx ast t env A O ω ρ s E hc C R hp
 refine lu (P:=fun ast=>wpAny (model G.prog G.w) A (eval ast env) (ca t O s (den Φ (.sum a) ρ)) E s) hc fun g np x pos hc=>?_
 refine dW hc fun hgn hg hx=>?_
 cases eq_of_beq hgn
 obtain⟨hp1,ds,e,hp2⟩:=hp
 refine qV wf C (eZ a hx) hg Co (wpAny_mono (ha sc ctx _ true env A O ω ρ s E hx C R hp1) (fun v s₁ h₁=>?_) fun U U x=>x)
 have r:=h₁.2.tt
 rw[show den Φ (.sum a) ρ=.int ((eW (den Φ a ρ)).map bh).sum from rfl]
 rw[e]at r ⊢
 exact wpAny_mono (BJ (C.keeps wf h₁.1).ok r hp2) (fun u s₂ h₂=>.of h₁.1 h₂) fun U U x=>x
theorem Cu{d:PyData}(h:isStr d=true):d=.str (dq d):=by cases d<;>first | exact absurd h Kr | rfl
theorem Cv{o:Expr}{m:Str}{env:Env}{whole:Sem Value}(h:vD o=true):attributeBase o m env whole=whole:=by
 cases o<;>first | rfl | exact absurd h Kr
theorem gZ{x:Expr}{env:Env}(h:du x=true):starEach [x] env=[(false,eval x env)]:=gV _ fun a ha=>by rw[ai.mp ha];exact h
theorem Cw(a b:IX)(ha:aP G Φ a)(hb:aP G Φ b)(wf:G.Wf):aP G Φ (.join a b):=by
 intro sc ctx ast t env A O ω ρ s E hc C R hp
 refine uZ (P:=fun ast=>wpAny (model G.prog G.w) A (eval ast env) (ca t O s (den Φ (.join a b) ρ)) E s) hc fun o m ap x pos hc=>?_
 refine ge hc fun hm hn hl ho hx=>?_
 cases eq_of_beq hm
 obtain⟨hp1,hp2,hp3,ds,e,hp4⟩:=hp
 refine Call_method1 (Cv hn) (gZ (eZ b hx)) hl (wpAny_mono (ha sc ctx o false env A O ω ρ s E ho C (R.le (aF _ _)) hp1) (fun v s₁ h₁=>?_) fun U U x=>x)
 have r:=h₁.2.ff
 have C1:=C.keeps wf h₁.1
 rw[show den Φ (.join a b) ρ=.str (Txt.join (dq (den Φ a ρ)) ((eW (den Φ b ρ)).map dq))from rfl]
 rw[Cu hp3]at r
 cases r with
 | str _ tk =>
  refine⟨"str", "str.join",F.plainAttrs_str,F.slot_str_join,F.type_str_join,typeIs_str _ _ _,(fun U e=>nomatch e),?_⟩
  refine Calls.callWith_builtin rfl (Calls.evalArgs_plain (Calls.spliced_cons (wpAny_mono (hb sc ctx x true env A O ω ρ s₁ E hx C1 (R.le (aj _ _)) hp2) (fun u s₂ h₂=>Calls.spliced_nil ?_) fun U U x=>x)))
  have r2:=h₂.2.tt
  rw[e]at r2 ⊢
  exact wpAny_mono (BK r2 hp4) (fun u s₃ h₃=>.of (aQ h₁.1 h₂.1) h₃) fun U U x=>x
end
section
variable{G:Glo}{Φ:List FEntry}
theorem Cond.append{env:Env}{sc:Scope}{ctx:List (Option Str)}{A:Around}{O:Addr->Prop}{ω:Addr->Option Nat}{ρ:List SV}{s:Shared}{D:Addr}{h':Heap}{vs:Array Value}{n:Nat}{ds:List PyData}
 (wf:G.Wf) (C:Cond G env sc ctx A O ω ρ s) (hD:O D) (hDw:∀i,ω D≠some i) (hl:IsL s.heap D vs n) (hs:Heap.SameBut D s.heap h') (a:AccIs G O D h' ds):KM (· = D) s { s with heap:=h' }/\Cond G env sc ctx A O ω ρ { s with heap:=h' }:=by
 have k:KM (· = D) s { s with heap:=h' }:=by
  obtain⟨vs',n',e,_⟩:=a
  exact KM.chg (t:=s.toks) hs.extBut ⟨_,e⟩ rfl
 refine⟨k,?_⟩
 obtain⟨val,F,V⟩:=C.vars
 refine C.frame k (fun b q=>q▸hD) rfl (F.chg hl hs.extBut) fun i x e=>(V i x e).at wf C.base fun b o hb e=>hs.extBut b o (fun q=>?_) e
 rcases hb with hb | hb
 ·exact hDw i (q▸hb)
 ·exact hb (q▸hD)
theorem Cx(e:IX)(h:aP G Φ e)(wf:G.Wf):iP G Φ (.emit e):=by
 intro sc ctx elt gens scope pos depth env A O ω ρ s E D ds k Q hc hz C hD hDF hDw hsl hnd R hp acc hlen hk
 generalize hg:gens.drop (depth+1)=gs0 at hc
 cases gs0<;>first | (exact absurd hc Kr) | skip
 replace hc:chk Φ e sc ctx elt=true:=hc
 have hg':gens[depth+1]? = none:=by
  rw[nc]
  exact List.drop_eq_nil_iff.mp hg
 unfold gX
 rw[hg']
 dsimp only
 refine wpAny_bind (wpAny_bind (wpAny_mono (h sc ctx elt false env A O ω ρ s E hc C R hp) (fun v s₁ h₁=>wpAny_bind ?_) fun U U x=>x))
 have C1:=C.keeps wf h₁.1
 refine vM (acc.keeps h₁.1) hD h₁.2.ff (by lia) fun h' hs a hl=>?_
 refine x21 hl fun vs n hl=>?_
 refine ak (C1.append wf hD hDw hl hs a) fun k2 C2=>?_
 exact wpAny_pure (hk _ ((KM.of h₁.1).trans (k2.mono fun b q=>.inr q)) C2 a)
set_option tactic.hygienic true in
theorem Cy(tup:Bool)(slots:List Nat)(it ifs rest:IX)(hi:fH G Φ it)(hts:iO G Φ ifs)(hr:iP G Φ rest)(wf:G.Wf):iP G Φ (.gen tup slots it ifs rest):=by
 intro sc ctx elt gens scope pos depth env A O ω ρ s E D ds k Q hc hz C hD hDF hDw hsl hnd R hp acc hlen hk
 generalize hg:gens.drop (depth+1)=gs0 at hc
 cases gs0<;>first | (exact absurd hc Kr) | skip
 rename_i g0 gs
 obtain⟨tgt,iter,tests,asy⟩:=g0
 replace hc:(asy==0&&eY iter&&eE Φ it sc ctx iter&&eX tup slots sc ctx tgt&&b0 Φ ifs sc ctx tests&&gj Φ rest sc ctx gs elt)=true:=hc
 refine qj hc fun h1 hns hci hct hcl hcg=>?_
 cases eq_of_beq h1
 have hg1:gens[depth+1]? = some ⟨tgt,iter,tests,0⟩:=by
  rw[<- List.head?_drop,hg];rfl
 have hg2:gens.drop (depth+1+1)=gs:=by
  rw[<- List.drop_drop,hg];rfl
 rw[show gh (.gen tup slots it ifs rest)=slots++gh rest from rfl]at hsl hnd
 simp only[au]at hsl
 have hdG:ew Φ (.gen tup slots it ifs rest) ρ=(bp Φ it ρ).flatMap fun d=>if cS Φ ifs (ay tup slots d ρ)=true then ew Φ rest (ay tup slots d ρ)else[]:=rfl
 rw[hdG]at hlen hk
 have R1:aJ (max (kx Φ it) (max (kx Φ ifs) (kx Φ rest))) A:=R.le (dH _)
 unfold gX
 rw[hg1]
 dsimp only
 refine wpAny_bind (wpAny_mono (hi sc ctx iter false env A O ω ρ s E hci C (R1.le (aF _ _)) hp.1) (fun x s₁ h₁=>?_) fun U U x=>x)
 refine ak h₁ fun k01 h₁=>?_
 refine wpAny_bind (wpAny_standAt (wpAny_bind (wpAny_of_eq (oM hns) (wpAny_bind (wpAny_holding (wpAny_mono (h₁ E) (fun itv s₂ h₂=>?_) fun U U x=>x))))))
 obtain⟨k12,I,fp,wr,P,St,rfl,W,hst,hfp,hwr,hf,htame,hIfp,hit⟩:=h₂
 have C1:=C.keeps wf k01
 have hnI:¬O I:=fun q=>by refine x11 (C1.ok.obs I q) fun o e=>?_;rw[hwr.2]at e;cases e
 have C2:Cond G env sc ctx A (fun b=>O b\/b=I) ω ρ s₂:=C1.grow wf k12 (fun b q=>.inl q) (fun b q=>by
  rcases q with q | rfl
  ·exact .inl q
  ·exact .inr hwr.2) fun b q=>by
  rcases q with q | rfl
  ·refine x11 (C1.ok.obs b q) fun o e=>?_;exact⟨o,al k12 b o e⟩
  ·refine x22 (htame 0 _ hst) fun o U e U=>?_;exact⟨o,e⟩
 have a2:AccIs G (fun b=>O b\/b=I) D s₂.heap ds:=(acc.keeps k01).grow k12 fun b q=>by
  rcases q with q | rfl
  ·exact .inl q
  ·exact .inr hwr.2
 have loop:codeAny (model G.prog G.w) A (.compLoop (.ListComp elt gens scope pos) (depth+1) (.ref I) (.ref D) env)
  (fun r s'=>match r with | .ok f=>wpAny (model G.prog G.w) A k Q E s' | .error e=>cameBackBy (model G.prog G.w) A env E e s') s₂:=by
  refine vP (O:=O) (Oh:=O) (h₀:=s₁.heap) (T:=fun d=>cS Φ ifs (ay tup slots d ρ)) (f:=fun d=>ew Φ rest (ay tup slots d ρ)) wf hz hg1 C2 (fun b i e=>(C.om b i e).1) C.fr C.fc hnI hD hDF a2 W hst
   (fun b hb q=>hf rfl b hb (q.elim (C.fr b) fun z=>z▸hD)) hwr.1 htame (fun b o e q=>by
    rcases q with q | rfl
    ·exact q
    ·rw[hwr.2]at e;cases e) (fun b o U e=>al k12 b o e) hit (fun i hi=>(hsl i (.inl hi)).1) (fun i hi=>(hsl i (.inl hi)).2) hct (fun d hd=>(hp.2 d hd).1)
   (fun d hd O' s E C=>hts sc ctx tests env A O' ω _ s E hcl C (R1.le (ae (aF _ _) (aj _ _))) (hp.2 d hd).2.1)
   (fun d hd hT O' ds' s k Q E C hD a hl hk=>?_) hlen ?_
  ·refine hr sc ctx elt gens scope pos (depth+1) env A O' ω _ s E D ds' k Q (hg2▸hcg) hz C hD hDF hDw (fun i hi=>⟨?_,(hsl i (.inr hi)).2⟩) (cD.mp hnd).2.1 (R1.le (ae (aj _ _) (aj _ _))) ((hp.2 d hd).2.2 hT) a hl hk
   rw[qO fun q=>(cD.mp hnd).2.2 i q i hi rfl]
   exact(hsl i (.inr hi)).1
  ·intro s' ki C' a'
   exact hk s' ((KM.of k01).trans (ki.km k12 hwr.2)) C' a'
 exact wpAny_bind (wpAny_runOwn (qN hg1 loop fun E=>W.self 0 _ _ _ hst loop))
set_option tactic.hygienic true in
theorem Cz(e:IX):∀ {sc:Scope} {ctx:List (Option Str)} {gs:List Comprehension} {elt:Expr},gj Φ e sc ctx gs elt=true->go gs=true:=by
 induction e with
 | gen tup slots it ifs rest _ _ ih =>
  intro sc ctx gs elt h
  cases gs<;>first | (exact absurd h Kr) | skip
  rename_i g0 gs
  obtain⟨tgt,iter,tests,asy⟩:=g0
  replace h:(asy==0&&eY iter&&eE Φ it sc ctx iter&&eX tup slots sc ctx tgt&&b0 Φ ifs sc ctx tests&&gj Φ rest sc ctx gs elt)=true:=h
  refine qj h fun h1 hns hci hct hcl hcg=>?_
  cases eq_of_beq h1
  have:=ih hcg
  unfold go at this ⊢
  simp[List.all_cons,this]
 | emit e _ =>
  intro sc ctx gs elt h
  cases gs<;>first | (exact absurd h Kr) | rfl
 | _=>intro sc ctx gs elt h;exact absurd h Kr
theorem v3{use:Option (Value->Sem Unit)}{pos':Pos}{Q:Value->Shared->Prop}{n:Nat}{tup:Bool}{slots:List Nat}{it ifs rest:IX}{sc:Scope}{ctx:List (Option Str)}{env:Env}{A:Around}{O:Addr->Prop}{ω:Addr->Option Nat}{ρ:List SV}{s:Shared}{E:Value->Shared->Prop}
 {elt:Expr} {g:Comprehension} {gs:List Comprehension} {scope:Scope} {pos:Pos} {t:Bool} (hi:fH G Φ it) (hts:iO G Φ ifs) (hr:iP G Φ rest) (wf:G.Wf) (hc:chk Φ (.comp n tup slots it ifs rest) sc ctx (.ListComp elt (g::gs) scope pos)=true)
 (C:Cond G env sc ctx A O ω ρ s) (R:aJ (kx Φ (.comp n tup slots it ifs rest)) A) (hp:pre Φ (.comp n tup slots it ifs rest) t ρ)
 (hfin:∀(D C:Addr) s' m,Keeps s s'->s.heap.get? C=none->D≠C->s'.heap.Ns C m->Rep (fun b=>O b\/b=C) s'.heap (.ref D) (den Φ (.comp n tup slots it ifs rest) ρ)->compPost (model G.prog G.w) A E use Q (.ref D) C (.ok .next) s') :
 wpAny (model G.prog G.w) A (comprehension (.ListComp elt (g::gs) scope pos) scope env pos' (newList []) (firstAsync (g::gs)) (firstIter (g::gs) env) use) Q E s:=by
 obtain⟨tgt,iter,tests,asy⟩:=g
 replace hc:(asy==0&&eY iter&&eE Φ it sc ctx iter&&lI sc scope (fE (⟨tgt,iter,tests,asy⟩::gs)) &&
  n==(fE (⟨tgt,iter,tests,asy⟩::gs)).length&&decide (slots++gh rest).Nodup&&((slots++gh rest).all fun i=>decide (ctx.length<=i)) &&
  (eX tup slots (bZ sc scope) (cg scope ctx (fE (⟨tgt,iter,tests,asy⟩::gs))) tgt&&b0 Φ ifs (bZ sc scope) (cg scope ctx (fE (⟨tgt,iter,tests,asy⟩::gs))) tests &&
  gj Φ rest (bZ sc scope) (cg scope ctx (fE (⟨tgt,iter,tests,asy⟩::gs))) gs elt))=true:=hc
 refine uA hc fun h1 hns hci hso h5 hnd hle h8=>?_
 refine dW h8 fun hct hcl hcg=>?_
 clear hc h8
 cases eq_of_beq h1
 cases eq_of_beq h5
 have hnd:=of_decide_eq_true hnd
 have hle:∀i∈slots++gh rest,ctx.length<=i:=fun i hi=>of_decide_eq_true (aU.mp hle i hi)
 have R1:aJ (max (kx Φ it) (max (kx Φ ifs) (kx Φ rest))) A:=R.le (dH _)
 have so:=SOk.of hso
 have hasy:go (⟨tgt,iter,tests,0⟩::gs)=true:=by
  have:=Cz rest hcg
  unfold go at this ⊢
  simp[List.all_cons,this]
 clear hso h1 h5
 generalize hv:fE (⟨tgt,iter,tests,0⟩::gs)=vars at *
 refine BU (its:=bp Φ it ρ) (F:=(true=false)) (T:=fun d=>cS Φ ifs (ay tup slots d (ρ++a7 vars.length SV.un))) (f:=fun d=>ew Φ rest (ay tup slots d (ρ++a7 vars.length SV.un)))
  wf C hasy hns so (fun E=>hi sc ctx iter true env A O ω ρ s E hci C (R1.le (aF _ _)) hp.1) (fun i q=>hle i (bB _ q)) hct (fun d hd=>(hp.2.1 d hd).1)
  (fun d hd env' O' s E K=>hts _ _ tests env' A O' ω _ s E hcl K (R1.le (ae (aF _ _) (aj _ _))) (hp.2.1 d hd).2.1)
  (fun d hd hT env' D O' ds' s k Q E hsto K hD hDF hDw a hl hk=>?_) (ae hp.2.2 (by decide)) fun D C s' m h1 h2 h3 h4 r=>hfin D C s' m h1 h2 h3 h4 r
 refine hr _ _ elt _ scope pos 0 env' A O' ω _ s E D ds' k Q hcg hasy K hD hDF hDw (fun i hi=>⟨?_,hsto i (hle i (dG _ hi))⟩) (cD.mp hnd).2.1 (R1.le (ae (aj _ _) (aj _ _)))
  ((hp.2.1 d hd).2.2 hT) a hl hk
 rw[qO fun q=>(cD.mp hnd).2.2 i q i hi rfl]
 have:=hle i (dG _ hi)
 rw[aq,fs (by rw[C.len];exact this),lh]
 split<;>rfl
theorem CA(n:Nat)(tup:Bool)(slots:List Nat)(it ifs rest:IX)(hi:fH G Φ it)(hts:iO G Φ ifs)(hr:iP G Φ rest)(wf:G.Wf):aP G Φ (.comp n tup slots it ifs rest):=by
 intro sc ctx ast t env A O ω ρ s E hc C R hp
 revert hc
 refine fun hc=>uS (P:=fun ast=>chk Φ (.comp n tup slots it ifs rest) sc ctx ast=true->wpAny (model G.prog G.w) A (eval ast env) (ca t O s (den Φ (.comp n tup slots it ifs rest) ρ)) E s) hc (fun elt gens scope pos U hc=>?_) hc
 cases gens with
 | nil=>exact absurd hc Kr
 | cons g gs =>
  rw[eval_ListComp]
  refine v3 hi hts hr wf hc C R hp fun D C s' m k hC hDC hm r=>?_
  exact BV k hC hm r fun v s' h=>⟨h.1,.of h.2⟩
end
section
variable{G:Glo}{Φ:List FEntry}
theorem Snd.ofE{e:IX}(h:aP G Φ e/\cT G Φ e)(h1:∀sc ctx asts,b0 Φ e sc ctx asts=false)(h2:∀sc ctx oe,jt Φ e sc ctx oe=false)(h3:∀sc ctx ast,eE Φ e sc ctx ast=false)
 (h4:∀sc ctx gs elt,gj Φ e sc ctx gs elt=false):Snd G Φ e :=
 let⟨a1,a2,a3,a6⟩:=qS (G:=G) h1
 ⟨h.1,h.2,a1,qT h2,a2,a3,a6,oO h3,oN h4⟩
theorem Snd.ofI{e:IX}(h:fH G Φ e)(h0:∀sc ctx ast,chk Φ e sc ctx ast=false)(h1:∀sc ctx asts,b0 Φ e sc ctx asts=false)(h2:∀sc ctx oe,jt Φ e sc ctx oe=false)
 (h4:∀sc ctx gs elt,gj Φ e sc ctx gs elt=false):Snd G Φ e :=
 let⟨a1,a2,a3,a6⟩:=qS (G:=G) h1
 ⟨(iQ h0).1,(iQ h0).2,a1,qT h2,a2,a3,a6,h,oN h4⟩
theorem Snd.ofG{e:IX}(h:iP G Φ e)(h0:∀sc ctx ast,chk Φ e sc ctx ast=false)(h1:∀sc ctx asts,b0 Φ e sc ctx asts=false)(h2:∀sc ctx oe,jt Φ e sc ctx oe=false)
 (h3:∀sc ctx ast,eE Φ e sc ctx ast=false):Snd G Φ e :=
 let⟨a1,a2,a3,a6⟩:=qS (G:=G) h1
 ⟨(iQ h0).1,(iQ h0).2,a1,qT h2,a2,a3,a6,oO h3,h⟩
theorem CB{i:Nat}:∀sc ctx ast,chk Φ (.var i) sc ctx ast=true->c8 ast=true:=by
 intro sc ctx ast h;exact eR (P:=fun ast=>c8 ast=true) h fun U U U=>rfl
theorem e7{e:IX}(h:∀sc ctx ast,chk Φ e sc ctx ast=true->c8 ast=true)(hv:aP G Φ e):aP G Φ e/\cT G Φ e:=⟨hv,BX hv h⟩
theorem snd(wf:G.Wf)(hF:∀F∈Φ,aN G F):∀e:IX,Snd G Φ e:=by
 intro e
 induction e with
 | var i=>refine .ofE (e7 CB (BZ i)) ?_ ?_ ?_ ?_<;>(intros;rfl)
 | lit d=>refine .ofE (e7 (fun U U U h=>qp (P:=fun ast=>c8 ast=true) h fun U U U U=>rfl) (B0 d)) ?_ ?_ ?_ ?_<;>(intros;rfl)
 | bin op a b iha ihb=>refine .ofE (e7 (fun U U U h=>uI (P:=fun ast=>c8 ast=true) h fun U U U U U=>rfl) (B1 op a b iha.ev ihb.ev wf)) ?_ ?_ ?_ ?_<;>(intros;rfl)
 | cmp op a b iha ihb=>refine .ofE (B3 op a b iha.ev ihb.ev wf) ?_ ?_ ?_ ?_<;>(intros;rfl)
 | neg a iha=>refine .ofE ⟨B5 a iha.ev,BY fun ρ=>rfl⟩ ?_ ?_ ?_ ?_<;>(intros;rfl)
 | inv a iha=>refine .ofE (B6 a iha.ev iha.tst) ?_ ?_ ?_ ?_<;>(intros;rfl)
 | bop o es ih=>refine .ofE (Cj o es ih.bo ih.boT) ?_ ?_ ?_ ?_<;>(intros;rfl)
 | ite c a b ihc iha ihb=>refine .ofE (B7 c a b ihc.tst iha.ev ihb.ev iha.tst ihb.tst wf) ?_ ?_ ?_ ?_<;>(intros;rfl)
 | list es ih=>refine .ofE (e7 (fun U U U h=>nZ (P:=fun ast=>c8 ast=true) h fun U U U=>rfl) (B8 es ih.ls wf)) ?_ ?_ ?_ ?_<;>(intros;rfl)
 | tup es ih=>refine .ofE (e7 (fun U U U h=>n0 (P:=fun ast=>c8 ast=true) h fun U U U U=>rfl) (B9 es ih.ls wf)) ?_ ?_ ?_ ?_<;>(intros;rfl)
 | sub a i iha ihi=>refine .ofE (e7 (fun U U U h=>og (P:=fun ast=>c8 ast=true) h fun U U U U=>rfl) (Ca a i iha.ev ihi.ev wf)) ?_ ?_ ?_ ?_<;>(intros;rfl)
 | slice a lo hi iha ihl ihh=>refine .ofE (e7 (fun U U U h=>og (P:=fun ast=>c8 ast=true) h fun U U U U=>rfl) (Cb a lo hi iha.ev ihl.op ihh.op wf)) ?_ ?_ ?_ ?_<;>(intros;rfl)
 | call f es ih=>refine .ofE (e7 (fun U U U h=>iB (P:=fun ast=>c8 ast=true) h fun U U U U U=>rfl) (Cr f es ih.ls wf hF)) ?_ ?_ ?_ ?_<;>(intros;rfl)
 | len a iha=>refine .ofE (e7 (fun U U U h=>lu (P:=fun ast=>c8 ast=true) h fun U U U U U=>rfl) (Cs a iha.ev wf)) ?_ ?_ ?_ ?_<;>(intros;rfl)
 | sum a iha=>refine .ofE (e7 (fun U U U h=>lu (P:=fun ast=>c8 ast=true) h fun U U U U U=>rfl) (Ct a iha.ev wf)) ?_ ?_ ?_ ?_<;>(intros;rfl)
 | join a b iha ihb=>refine .ofE (e7 (fun U U U h=>uZ (P:=fun ast=>c8 ast=true) h fun U U U U U U=>rfl) (Cw a b iha.ev ihb.ev wf)) ?_ ?_ ?_ ?_<;>(intros;rfl)
 | comp n tup slots it ifs rest ihi iht ihr=>refine .ofE (e7 (fun U U U h=>uS (P:=fun ast=>c8 ast=true) h fun U U U U U=>rfl) (CA n tup slots it ifs rest ihi.it iht.ts ihr.gn wf)) ?_ ?_ ?_ ?_<;>(intros;rfl)
 | gen tup slots it ifs rest ihi iht ihr=>refine .ofG (Cy tup slots it ifs rest ihi.it iht.ts ihr.gn wf) ?_ ?_ ?_ ?_<;>(intros;rfl)
 | emit e ih=>refine .ofG (Cx e ih.ev wf) ?_ ?_ ?_ ?_<;>(intros;rfl)
 | range1 a iha=>refine .ofI (Cp a iha.ev wf) ?_ ?_ ?_ ?_<;>(intros;rfl)
 | range2 a b iha ihb=>refine .ofI (Cq a b iha.ev ihb.ev wf) ?_ ?_ ?_ ?_<;>(intros;rfl)
 | seq e ih=>refine .ofI (Cn e ih.ev wf) ?_ ?_ ?_ ?_<;>(intros;rfl)
 | nil =>
  have h0:∀sc ctx ast,chk Φ .nil sc ctx ast=false:=fun U U U=>rfl
  exact⟨(iQ h0).1,(iQ h0).2,Ce,Cf,fun U U U U U U U U U U U U U U U hp=>False.elim hp,fun U U U U U U U U U U U U U U hp U=>False.elim hp,Cl,oO (fun U U U=>rfl),oN (fun U U U U=>rfl)⟩
 | cons a b iha ihb =>
  have h0:∀sc ctx ast,chk Φ (.cons a b) sc ctx ast=false:=fun U U U=>rfl
  exact⟨(iQ h0).1,(iQ h0).2,Cd a b iha.ev ihb.ls wf,Cg a b iha.ev,Ch a b iha.ev ihb.bo wf,Ci a b iha.tst ihb.boT wf,Cm a b iha.tst ihb.ts wf,oO (fun U U U=>rfl),oN (fun U U U U=>rfl)⟩
end
set_option genCtorIdx false
inductive Fl where
 | next
 | brk
 | ret (d:PyData)
noncomputable def Fl.ctorIdx(t:Fl):Nat:=Fl.casesOn t 0 1 (fun U=>2)
noncomputable def j8(G:Glo)(O:Addr->Prop)(h:Heap):Fl->Flow->Prop
 | .next,fl=>fl=.next
 | .brk,fl=>fl=.brk
 | .ret d,fl=>∃v,fl=.ret v/\Rep O h v d
noncomputable def an(A:Around)(b:Addr):Prop:=∃l,A.frames=some l/\b∈l.filterMap (·.frame)
noncomputable def Fz(X:Bool)(A:Around)(b:Addr):Prop:=X=true/\an A b
inductive KS(F M:Addr->Prop)(s s':Shared):Prop where
 | mk (h':Heap) (t:Nat) (e:s'={ s with heap:=h',toks:=t }) (k:∀b o,¬M b->s.heap.get? b=some o->∃sl,h'.get? b=some { o with slots:=sl }/\(¬F b->sl=o.slots)) (th:∀b o,s.heap.get? b=some o->∃o',h'.get? b=some o'):KS F M s s'
section
variable{F F' M M':Addr->Prop}{s s' s'' s₀:Shared}
theorem KS.of(k:KM M s s'):KS F M s s':=by
 obtain⟨h,t,rfl,k,e⟩:=k
 exact⟨h,t,rfl,fun b o n q=>⟨o.slots,k b o n q,fun U=>rfl⟩,e⟩
theorem KS.km(k:KS (fun U=>False) M s s'):KM M s s':=by
 obtain⟨h,t,rfl,k,e⟩:=k
 exact⟨h,t,rfl,fun b o n q=>by
  refine x12 (k b o n q) fun sl q1 q2=>?_
  rw[q1,q2 id],e⟩
theorem KS.get(x:KS F M s s'):∀b o,¬M b->¬F b->s.heap.get? b=some o->s'.heap.get? b=some o:=by
 obtain⟨h',t,rfl,k,e⟩:=x
 intro b o n nf q
 refine x12 (k b o n q) fun sl q1 q2=>?_
 rw[q1,q2 nf]
theorem KS.slot(x:KS F M s s'):∀b o,¬M b->s.heap.get? b=some o->∃sl,s'.heap.get? b=some { o with slots:=sl }:=by
 obtain⟨h',t,rfl,k,e⟩:=x
 intro b o n q
 refine x12 (k b o n q) fun sl q1 q2=>?_
 exact⟨sl,q1⟩
theorem KS.there(x:KS F M s s'):∀b o,s.heap.get? b=some o->∃o',s'.heap.get? b=some o':=by
 obtain⟨h',t,rfl,k,e⟩:=x;exact e
theorem KS.back(x:KS F M s s'){b:Addr}(h:s'.heap.get? b=none):s.heap.get? b=none:=by
 cases e:s.heap.get? b with
 | none=>rfl
 | some o=>refine x11 (x.there b o e) fun o' e'=>?_;rw[h]at e';cases e'
theorem KS.mono(x:KS F M s s')(hM:∀b,M b->M' b)(hF:∀b,F b->F' b):KS F' M' s s':=by
 obtain⟨h',t,rfl,k,e⟩:=x
 exact⟨h',t,rfl,fun b o n q=>(k b o (fun z=>n (hM b z)) q).elim fun sl ζ=>ζ.elim fun q1 q2=>⟨sl,q1,fun z=>q2 fun y=>z (hF b y)⟩,e⟩
theorem KS.trans(x:KS F M s s')(y:KS F M s' s''):KS F M s s'':=by
 obtain⟨h,t,rfl,k,e⟩:=x
 obtain⟨h',t',rfl,k',e'⟩:=y
 refine⟨h',t',rfl,fun b o n q=>?_,fun b o q=>(e b o q).elim fun o' q'=>e' b o' q'⟩
 refine x12 (k b o n q) fun sl q1 q2=>?_
 refine x12 (k' b _ n q1) fun sl' q1' q2'=>?_
 exact⟨sl',q1',fun nf=>by rw[q2' nf,<- q2 nf]⟩
theorem KS.trans'{N:Addr->Prop}(x:KS F M s s')(y:KS F N s' s'')(h:∀b,N b->M b\/s.heap.get? b=none):KS F M s s'':=by
 obtain⟨h1,t,rfl,k,e⟩:=x
 obtain⟨h',t',rfl,k',e'⟩:=y
 refine⟨h',t',rfl,fun b o n q=>?_,fun b o q=>(e b o q).elim fun o' q'=>e' b o' q'⟩
 refine x12 (k b o n q) fun sl q1 q2=>?_
 obtain⟨sl',q1',q2'⟩:=k' b _ (fun z=>by
  rcases h b z with z | z
  ·exact n z
  ·rw[z]at q;cases q) q1
 exact⟨sl',q1',fun nf=>by rw[q2' nf,<- q2 nf]⟩
end
noncomputable def MO(env:Env)(ω:Addr->Option Nat)(b:Addr):Prop:=a9 env b\/∃i,ω b=some i
structure Step(F:Addr->Prop)(env:Env)(O:Addr->Prop)(ω:Addr->Option Nat)(s:Shared)(O':Addr->Prop)(ω':Addr->Option Nat)(s':Shared):Prop where
 km:KS F (MO env ω) s s'
 o1:∀b,O b->(∀i,ω b≠some i)->O' b
 o2:∀b,O' b->O b\/s.heap.get? b=none
 w2:∀b i,ω' b=some i->ω b=some i\/s.heap.get? b=none
section
variable{F:Addr->Prop}{env:Env}{O O' O'':Addr->Prop}{ω ω' ω'':Addr->Option Nat}{s s' s'':Shared}
theorem jw{M:Addr->Prop}(k:KM M s s'){b:Addr}(h:s'.heap.get? b=none):s.heap.get? b=none:=by
 cases e:s.heap.get? b with
 | none=>rfl
 | some o=>refine x11 (k.there b o e) fun o' e'=>?_;rw[h]at e';cases e'
theorem Step.refl(F:Addr->Prop)(env:Env)(O:Addr->Prop)(ω:Addr->Option Nat)(s:Shared):Step F env O ω s O ω s:=⟨KS.of (KM.of (br s)),fun U h U=>h,fun U h=>.inl h,fun U U h=>.inl h⟩
theorem Step.keeps(k:Keeps s s'):Step F env O ω s O ω s':=⟨KS.of (KM.of k),fun U h U=>h,fun U h=>.inl h,fun U U h=>.inl h⟩
theorem Step.frame(k:KM (a9 env) s s'):Step F env O ω s O ω s':=⟨KS.of (k.mono fun U q=>.inl q),fun U h U=>h,fun U h=>.inl h,fun U U h=>.inl h⟩
theorem Step.trans(hob:∀b,O b->∃o,s.heap.get? b=some o)(x:Step F env O ω s O' ω' s')(y:Step F env O' ω' s' O'' ω'' s''):Step F env O ω s O'' ω'' s'' where
 km:=x.km.trans' y.km fun b z=>by
  rcases z with z | ⟨i,z⟩
  ·exact .inl (.inl z)
  ·rcases x.w2 b i z with z | z
   ·exact .inl (.inr ⟨i,z⟩)
   ·exact .inr z
 o1:=fun b h n=>y.o1 b (x.o1 b h n) fun i z=>by
  rcases x.w2 b i z with z | z
  ·exact n i z
  ·refine x11 (hob b h) fun o e=>?_;rw[z]at e;cases e
 o2:=fun b h=>by
  rcases y.o2 b h with h | h
  ·exact x.o2 b h
  ·exact .inr (x.km.back h)
 w2:=fun b i h=>by
  rcases y.w2 b i h with h | h
  ·exact x.w2 b i h
  ·exact .inr (x.km.back h)
end
noncomputable def iR(l:List Env)(h:Heap):Prop:=∀e∈l,e.scope.kind≠.module/\∃L o es n,e.frame=some L/\h.get? L=some o/\o.data=.dict es n
structure FX(A:Around)(O:Addr->Prop)(ω:Addr->Option Nat)(s:Shared):Prop where
 fr:∃l,A.frames=some l/\iR l s.heap
 fo:∀b,an A b->O b
 fw:∀b i,ω b=some i->¬an A b
 hn:A.handled=none
section
variable{A:Around}{F:Addr->Prop}{O O':Addr->Prop}{ω ω':Addr->Option Nat}{s s':Shared}
theorem FX.dict(x:FX A O ω s){b:Addr}(hb:an A b):∃o es n,s.heap.get? b=some o/\o.data=.dict es n:=by
 refine x12 x.fr fun l e hl=>?_
 refine x12 hb fun l' e' hb=>?_
 rw[e]at e';cases e'
 refine x12 (pC.mp hb) fun v hv hf=>?_
 obtain⟨_,L,o,es,n,h1,h2,h3⟩:=hl v hv
 rw[h1]at hf;cases hf
 exact⟨o,es,n,h2,h3⟩
theorem FX.keeps(x:FX A O ω s)(k:Keeps s s'):FX A O ω s' :=
 ⟨x.fr.elim fun l ζ=>ζ.elim fun e hl=>⟨l,e,fun v hv=>(hl v hv).elim fun h1 ζ=>ζ.elim fun L ζ=>ζ.elim fun o ζ=>ζ.elim fun es ζ=>ζ.elim fun n ζ=>ζ.elim fun h2 ζ=>ζ.elim fun h3 h4=>⟨h1,L,o,es,n,h2,al k _ _ h3,h4⟩⟩,x.fo,x.fw,x.hn⟩
theorem FX.by{M:Addr->Prop}(x:FX A O ω s)(k:KS F M s s')(hd:∀b,M b->an A b->∃o es n,s'.heap.get? b=some o/\o.data=.dict es n)(ho:∀b,an A b->O' b)(hw:∀b i,ω' b=some i->¬an A b):FX A O' ω' s':=by
 refine x12 x.fr fun l e hl=>?_
 refine⟨⟨l,e,fun v hv=>?_⟩,ho,hw,x.hn⟩
 obtain⟨h1,L,o,es,n,h2,h3,h4⟩:=hl v hv
 have hL:an A L:=⟨l,e,pC.mpr ⟨v,hv,h2⟩⟩
 by_cases hM:M L
 ·refine x32 (hd L hM hL) fun o' es' n' q1 q2=>?_
  exact⟨h1,L,o',es',n',h2,q1,q2⟩
 ·refine x11 (k.slot L o hM h3) fun sl q=>?_
  exact⟨h1,L,_,es,n,h2,q,h4⟩
theorem FX.step{G:Glo}{env:Env}{sc:Scope}{ctx:List (Option Str)}{ρ ρ':List SV}(x:FX A O ω s)(C:Cond G env sc ctx A O ω ρ s)(S:Step F env O ω s O' ω' s')(C':Cond G env sc ctx A O' ω' ρ' s'):FX A O' ω' s':=by
 refine x.by S.km (fun b hM hb=>?_) (fun b hb=>S.o1 b (x.fo b hb) fun i q=>x.fw b i q hb) fun b i q hb=>?_
 ·rcases hM with hM | ⟨i,hM⟩
  ·refine x32 (x.dict hb) fun o es n h1 h2=>?_
   rcases hM with rfl | ⟨_,y,hk,hc⟩
   ·obtain⟨_,F',_⟩:=C'.vars
    refine x12 F'.loc fun m z1 U=>?_;refine x33 z1 fun o' es' ep q1 q2 U=>?_
    exact⟨o',es',ep,q1,q2⟩
   ·obtain⟨_,F',_⟩:=C.vars
    obtain⟨c,e1,o',q1,q2⟩:=F'.cel y (.inl hk)
    rw[hc]at e1;cases e1
    rw[h1]at q1;cases q1;rw[h2]at q2;cases q2
  ·exact absurd hb (x.fw b i hM)
 ·rcases S.w2 b i q with q | q
  ·exact x.fw b i q hb
  ·refine x32 (x.dict hb) fun o es n h1 U=>?_
   rw[q]at h1;cases h1
end
structure FXE(env:Env)(A:Around)(O:Addr->Prop)(ω:Addr->Option Nat)(s:Shared):Prop extends FX A O ω s where
 top:∃outer,A.frames=some (env::outer)
 ef:env.frame=some env.locals
theorem FXE.keeps{env:Env}{A:Around}{O:Addr->Prop}{ω:Addr->Option Nat}{s s':Shared}(x:FXE env A O ω s)(k:Keeps s s'):FXE env A O ω s':=⟨x.toFX.keeps k,x.top,x.ef⟩
theorem FXE.step{G:Glo}{env:Env}{A:Around}{F:Addr->Prop}{O O':Addr->Prop}{ω ω':Addr->Option Nat}{s s':Shared}{sc:Scope}{ctx:List (Option Str)}{ρ ρ':List SV}(x:FXE env A O ω s)(C:Cond G env sc ctx A O ω ρ s)(S:Step F env O ω s O' ω' s')(C':Cond G env sc ctx A O' ω' ρ' s'):FXE env A O' ω' s' :=
 ⟨x.toFX.step C S C',x.top,x.ef⟩
structure Prim where
 chk:Scope->List (Option Str)->Stmt->Bool
 k:Nat
 pre:List SV->Prop
 den:List SV->Fl × List SV
inductive SX where
 | skip
 | prim (p:Prim) (r:SX)
 | frz (i:Nat) (r:SX)
 | ite (c:IX) (a b r:SX)
 | for (tup:Bool) (slots:List Nat) (it:IX) (body r:SX)
 | whl (n:Nat) (c:IX) (body r:SX)
noncomputable def SX.ctorIdx(t:SX):Nat:=SX.casesOn t 0 (fun U U=>1) (fun U U=>2) (fun U U U U=>3) (fun U U U U U=>4) (fun U U U U=>5)
noncomputable def dw(x:Fl × List SV)(k:List SV->Fl × List SV):Fl × List SV:=match x with
 | (.next,ρ)=>k ρ
 | (f,ρ)=>(f,ρ)
noncomputable def bC(f:PyData->List SV->Fl × List SV):List PyData->List SV->Fl × List SV
 | [],ρ=>(.next,ρ)
 | d::ds,ρ=>match f d ρ with
  | (.next,ρ')=>bC f ds ρ'
  | (.brk,ρ')=>(.next,ρ')
  | (.ret v,ρ')=>(.ret v,ρ')
theorem lT{f:PyData->List SV->Fl × List SV}{d:PyData}{ds:List PyData}{ρ:List SV}:bC f (d::ds) ρ=match f d ρ with
 | (.next,ρ')=>bC f ds ρ'
 | (.brk,ρ')=>(.next,ρ')
 | (.ret v,ρ')=>(.ret v,ρ'):=rfl
noncomputable def fK(P:PyData->List SV->Prop)(f:PyData->List SV->Fl × List SV):List PyData->List SV->Prop
 | [],_=>True
 | d::ds,ρ=>P d ρ/\match f d ρ with
  | (.next,ρ')=>fK P f ds ρ'
  | _=>True
theorem qX{P:PyData->List SV->Prop}{f:PyData->List SV->Fl × List SV}{d:PyData}{ds:List PyData}{ρ:List SV}:fK P f (d::ds) ρ=(P d ρ/\match f d ρ with
 | (.next,ρ')=>fK P f ds ρ'
 | _=>True):=rfl
noncomputable def g7(c:List SV->Bool)(f:List SV->Fl × List SV):Nat->List SV->Fl × List SV
 | 0,ρ=>(.next,ρ)
 | n+1,ρ=>if c ρ=true then match f ρ with
  | (.next,ρ')=>g7 c f n ρ'
  | (.brk,ρ')=>(.next,ρ')
  | (.ret v,ρ')=>(.ret v,ρ')
  else(.next,ρ)
noncomputable def oQ(Pc Pb:List SV->Prop)(c:List SV->Bool)(f:List SV->Fl × List SV):Nat->List SV->Prop
 | 0,_=>False
 | n+1,ρ=>Pc ρ/\(c ρ=true->Pb ρ/\match f ρ with
  | (.next,ρ')=>oQ Pc Pb c f n ρ'
  | _=>True)
noncomputable def jx:SV->Prop
 | .own _=>True
 | _=>False
section
variable(Φ:List FEntry)
noncomputable def av:SX->List SV->Fl × List SV
 | .skip,ρ=>(.next,ρ)
 | .prim p r,ρ=>dw (p.den ρ) (av r)
 | .frz i r,ρ=>av r (ρ.set i (.dat (ρ.getD i .un).data))
 | .ite c a b r,ρ=>dw (if aB (den Φ c ρ)=true then av a ρ else av b ρ) (av r)
 | .for tup slots it body r,ρ=>dw (bC (fun d ρ=>av body (ay tup slots d ρ)) (bp Φ it ρ) ρ) (av r)
 | .whl n c body r,ρ=>dw (g7 (fun ρ=>aB (den Φ c ρ)) (av body) n ρ) (av r)
noncomputable def aM:SX->List SV->Prop
 | .skip,_=>True
 | .prim p r,ρ=>p.pre ρ/\∀ρ',p.den ρ=(.next,ρ')->aM r ρ'
 | .frz i r,ρ=>jx (ρ.getD i .un)/\aM r (ρ.set i (.dat (ρ.getD i .un).data))
 | .ite c a b r,ρ=>pre Φ c false ρ/\dZ (den Φ c ρ)=true/\(aB (den Φ c ρ)=true->aM a ρ)/\(aB (den Φ c ρ)=false->aM b ρ) /\
  ∀ρ',(if aB (den Φ c ρ)=true then av Φ a ρ else av Φ b ρ)=(.next,ρ')->aM r ρ'
 | .for tup slots it body r,ρ=>gg Φ it false ρ/\fK (fun d ρ=>bindP tup slots d/\aM body (ay tup slots d ρ)) (fun d ρ=>av Φ body (ay tup slots d ρ)) (bp Φ it ρ) ρ /\
  ∀ρ',bC (fun d ρ=>av Φ body (ay tup slots d ρ)) (bp Φ it ρ) ρ=(.next,ρ')->aM r ρ'
 | .whl n c body r,ρ=>oQ (fun ρ=>pre Φ c false ρ/\dZ (den Φ c ρ)=true) (aM body) (fun ρ=>aB (den Φ c ρ)) (av Φ body) n ρ /\
  ∀ρ',g7 (fun ρ=>aB (den Φ c ρ)) (av Φ body) n ρ=(.next,ρ')->aM r ρ'
noncomputable def kS:SX->Nat
 | .skip=>0
 | .prim p r=>max p.k (kS r)
 | .frz _ r=>kS r
 | .ite c a b r=>max (kx Φ c) (max (kS a) (max (kS b) (kS r)))
 | .for _ _ it body r=>max (kx Φ it) (max (kS body) (kS r))
 | .whl _ c body r=>max (kx Φ c) (max (kS body) (kS r))
noncomputable def bW:SX->Scope->List (Option Str)->List Stmt->Bool
 | .skip,_,_,st=>v0 st true
 | .prim p r,sc,ctx,st=>vC st fun x rest=>p.chk sc ctx x&&bW r sc ctx rest
 | .frz _ r,sc,ctx,st=>bW r sc ctx st
 | .ite c a b r,sc,ctx,st=>vC st fun x rest=>nY x fun test body orelse U=>chk Φ c sc ctx test&&bW a sc ctx body&&bW b sc ctx orelse&&bW r sc ctx rest
 | .for tup slots it body r,sc,ctx,st=>vC st fun x rest=>lq x fun target iter bd U=>eY iter&&eE Φ it sc ctx iter&&eX tup slots sc ctx target&&bW body sc ctx bd&&bW r sc ctx rest
 | .whl _ c body r,sc,ctx,st=>vC st fun x rest=>qx x fun test bd U=>chk Φ c sc ctx test&&bW body sc ctx bd&&bW r sc ctx rest
end
section
variable(G:Glo)(Φ:List FEntry)
noncomputable def c9(X:Bool)(p:Prim):Prop:=∀sc ctx st env A O ω ρ s E Q,p.chk sc ctx st=true->(∀i,bu env ctx i)->Cond G env sc ctx A O ω ρ s->(X=true->FXE env A O ω s)->aJ p.k A->p.pre ρ ->
 (∀O' ω' s' fl,Step (Fz X A) env O ω s O' ω' s'->Cond G env sc ctx A O' ω' (p.den ρ).2 s'->j8 G O' s'.heap (p.den ρ).1 fl->Q fl s')->wpAny (model G.prog G.w) A (exec st env) Q E s
noncomputable def de(X:Bool):SX->Prop
 | .skip=>True
 | .prim p r=>c9 G X p/\de X r
 | .frz _ r=>de X r
 | .ite _ a b r=>de X a/\de X b/\de X r
 | .for _ _ _ body r=>de X body/\de X r
 | .whl _ _ body r=>de X body/\de X r
noncomputable def df(X:Bool)(S:SX):Prop:=∀sc ctx st env A O ω ρ s E Q,bW Φ S sc ctx st=true->(∀i,bu env ctx i)->Cond G env sc ctx A O ω ρ s->(X=true->FXE env A O ω s)->aJ (kS Φ S) A->aM Φ S ρ ->
 (∀O' ω' s' fl,Step (Fz X A) env O ω s O' ω' s'->Cond G env sc ctx A O' ω' (av Φ S ρ).2 s'->j8 G O' s'.heap (av Φ S ρ).1 fl->Q fl s')->wpAny (model G.prog G.w) A (execs st env) Q E s
end
section
variable{G:Glo}{Φ:List FEntry}{env:Env}{sc:Scope}{ctx:List (Option Str)}{A:Around}{O O' O'':Addr->Prop}{ω ω':Addr->Option Nat}{ρ:List SV}{s s' s'':Shared}{E:Value->Shared->Prop}
theorem Step.side{F:Addr->Prop}{I:Addr}{h':Heap}{t:Nat}(x:Step F env O ω s O' ω' s')(hob:∀b,O b->∃o,s.heap.get? b=some o)(hI:s.heap.get? I=none)(h1:∀b,O' b->b≠I->O'' b)(h2:∀b,O'' b->O' b)(hk:∀b o,b≠I->s'.heap.get? b=some o->h'.get? b=some o) :
 Step F env O ω s O'' ω' { s' with heap:=h',toks:=t } where
 km:=by
  obtain⟨h,t',rfl,k,e⟩:=id x.km
  have ne:∀b o,s.heap.get? b=some o->b≠I:=fun b o e q=>by rw[q,hI]at e;cases e
  exact⟨h',t,rfl,fun b o n q=>(k b o n q).elim fun sl ζ=>ζ.elim fun q1 q2=>⟨sl,hk b _ (ne b o q) q1,q2⟩,fun b o q=>(e b o q).elim fun o' q'=>⟨o',hk b o' (ne b o q) q'⟩⟩
 o1:=fun b h n=>h1 b (x.o1 b h n) fun q=>by
  refine x11 (hob b h) fun o e=>?_
  rw[q,hI]at e;cases e
 o2:=fun b h=>x.o2 b (h2 b h)
 w2:=x.w2
theorem oR{X:Bool}{r:SX}(ihr:df G Φ X r){x:Fl × List SV}{st:Stmt}{rest:List Stmt}{Q:Flow->Shared->Prop}(C:Cond G env sc ctx A O ω ρ s)(hsto:∀i,bu env ctx i)(hX:X=true->FXE env A O ω s)(hcr:bW Φ r sc ctx rest=true)(R:aJ (kS Φ r) A)
 (hpr:∀ρ',x=(.next,ρ')->aM Φ r ρ')
 (h:∀Q',(∀O' ω' s' fl,Step (Fz X A) env O ω s O' ω' s'->Cond G env sc ctx A O' ω' x.2 s'->j8 G O' s'.heap x.1 fl->Q' fl s')->wpAny (model G.prog G.w) A (exec st env) Q' E s)
 (hQ:∀O' ω' s' fl,Step (Fz X A) env O ω s O' ω' s'->Cond G env sc ctx A O' ω' (dw x (av Φ r)).2 s'->j8 G O' s'.heap (dw x (av Φ r)).1 fl->Q fl s'):wpAny (model G.prog G.w) A (execs (st::rest) env) Q E s:=by
 refine wpAny_execs_cons (h _ fun O' ω' s' fl hs C' hf=>?_)
 obtain⟨f,ρ'⟩:=x
 cases f with
 | next =>
  cases hf
  exact ihr sc ctx rest env A O' ω' ρ' s' E Q hcr hsto C' (fun q=>(hX q).step C hs C') R (hpr ρ' rfl) fun O'' ω'' s'' fl hs' C'' hf'=>hQ O'' ω'' s'' fl (hs.trans C.ok.obs hs') C'' hf'
 | brk =>
  cases hf
  exact hQ O' ω' s' .brk hs C' rfl
 | ret d =>
  refine x12 hf fun v e1 hr=>?_;subst e1
  exact hQ O' ω' s' (.ret v) hs C' ⟨v,rfl,hr⟩
theorem CC{X:Bool}:df G Φ X .skip:=by
 intro sc ctx st env A O ω ρ s E Q hc hsto C hX R hp hQ
 exact et (P:=fun st=>wpAny (model G.prog G.w) A (execs st env) Q E s) (b:=true) hc fun U=>wpAny_execs_nil (hQ O ω s .next (Step.refl ..) C rfl)
theorem CD{X:Bool}(p:Prim)(r:SX)(hp':c9 G X p)(ihr:df G Φ X r):df G Φ X (.prim p r):=by
 intro sc ctx st env A O ω ρ s E Q hc hsto C hX R hp hQ
 refine cO (P:=fun st=>wpAny (model G.prog G.w) A (execs st env) Q E s) (f:=fun x rest=>p.chk sc ctx x&&bW Φ r sc ctx rest) hc fun x rest hc=>?_
 refine aO hc fun c1 c2=>?_
 exact oR ihr C hsto hX c2 (R.le (aj _ _)) hp.2 (fun Q' h=>hp' sc ctx x env A O ω ρ s E Q' c1 hsto C hX (R.le (aF _ _)) hp.1 h) hQ
theorem v4{i:Nat}{x:SV}:(ρ.set i x).length=ρ.length:=by simp
theorem CF{i:Nat}(wf:G.Wf)(C:Cond G env sc ctx A O ω ρ s)(ho:jx (ρ.getD i .un)):∃O' ω',(∀F,Step F env O ω s O' ω' s)/\Cond G env sc ctx A O' ω' (ρ.set i (.dat (ρ.getD i .un).data)) s:=by
 obtain⟨val,F,V⟩:=C.vars
 cases hx:ρ.getD i .un with
 | own d =>
  have hi:i<ρ.length:=by
   by_cases q:i<ρ.length
   ·exact q
   ·rw[aq,rN (by simpa using q)]at hx;cases hx
  by_cases hct:∃x,ctx[i]? = some (some x)
  ·refine x11 hct fun x hx'=>?_
   have hv:=V i x hx'
   rw[hx]at hv
   obtain⟨a,vs,n,ds,e1,e2,e3,h1,h2⟩:=hv
   have hm:=C.om a i e2
   refine⟨fun b=>O b/\b≠a,fun b=>if b=a then none else ω b,fun F=>⟨KS.of (KM.of (br s)),fun b h n=>⟨h,fun q=>n i (q▸e2)⟩,fun b h=>.inl h.1,fun b j h=>?_⟩,⟨C.eo,C.co,by rw[v4];exact C.len,⟨C.ok.hok,fun b hb q=>C.ok.hno b hb q.1,fun b q=>C.ok.obs b q.1⟩,⟨C.base.kp,fun b q=>C.base.off b q.1⟩,
    fun b q=>⟨C.fr b q,fun z=>hm.2 (z▸q.store)⟩,fun y c e=>⟨C.fc y c e,fun z=>?_⟩,fun b j h=>?_,val,F,fun j y hy=>?_⟩⟩
   ·split at h
    ·cases h
    ·exact .inl h
   ·-- a cell is no list
    refine x12 (F.cel y ((C.eo.clk y c e).imp (fun q=>(C.eo.kindOf y).trans q) fun q=>(C.eo.kindOf y).trans q)) fun c' q1 q2=>?_
    rw[e]at q1;cases q1
    exact vF (z▸q2) h1
   ·split at h
    ·cases h
    ·rename_i hne
     exact⟨⟨(C.om b j h).1,hne⟩,(C.om b j h).2⟩
   ·rw[c6]
    by_cases q:i=j
    ·subst q
     rw[if_pos ⟨rfl,hi⟩]
     have:y=x:=by rw[hx']at hy;cases hy;rfl
     subst this
     refine⟨.ref a,e1,?_⟩
     show Rep _ _ _ d
     rw[e3]
     exact .list (fun q=>q.2 rfl) h1 (h2.mono (fun U U U e=>e) fun b o U q=>q.1)
    ·rw[if_neg fun z=>q z.1]
     have r:=V j y hy
     generalize ρ.getD j .un=z at r
     cases z with
     | dat d=>refine x12 r fun u e r=>?_;exact⟨u,e,r.weak fun b q=>q.1⟩
     | own d =>
      obtain⟨a',vs',n',ds',f1,f2,f3,g1,g2⟩:=r
      refine⟨a',vs',n',ds',f1,?_,f3,g1,g2.mono (fun U U U e=>e) fun b o U q=>q.1⟩
      show(if a'=a then none else ω a')=some j
      by_cases z:a'=a
      ·rw[z,e2]at f2;cases f2;exact absurd rfl q
      ·rw[if_neg z];exact f2
     | un=>trivial
     | val u=>exact r
     | sor g =>
      refine x23 r fun u S f1 f2 f3=>?_
      refine⟨u,S,f1,f2,fun b hb=>?_⟩
      show(if b=a then none else ω b)=some j
      by_cases z:b=a
      ·have:=f3 b hb
       rw[z,e2]at this;cases this;exact absurd rfl q
      ·rw[if_neg z];exact f3 b hb
  ·refine⟨O,ω,fun F=>Step.refl ..,⟨C.eo,C.co,by rw[v4];exact C.len,C.ok,C.base,C.fr,C.fc,C.om,val,F,fun j y hy=>?_⟩⟩
   have hne:¬(i=j/\i<ρ.length):=fun z=>hct ⟨y,by rw[z.1];exact hy⟩
   rw[c6,if_neg hne]
   exact V j y hy
 | un=>rw[hx]at ho;exact ho.elim
 | val d=>rw[hx]at ho;exact ho.elim
 | dat d=>rw[hx]at ho;exact ho.elim
 | sor g=>rw[hx]at ho;exact ho.elim
end
section
variable{G:Glo}{Φ:List FEntry}
theorem CG{X:Bool}(i:Nat)(r:SX)(wf:G.Wf)(ihr:df G Φ X r):df G Φ X (.frz i r):=by
 intro sc ctx st env A O ω ρ s E Q hc hsto C hX R hp hQ
 refine x22 (CF wf C hp.1) fun O' ω' hs C'=>?_
 exact ihr sc ctx st env A O' ω' _ s E Q hc hsto C' (fun q=>(hX q).step C (hs (Fz X A)) C') R hp.2 fun O'' ω'' s'' fl hs' C'' hf=>hQ O'' ω'' s'' fl ((hs _).trans C.ok.obs hs') C'' hf
theorem CH{X:Bool}(c:IX)(a b r:SX)(wf:G.Wf)(ihc:cT G Φ c)(iha:df G Φ X a)(ihb:df G Φ X b)(ihr:df G Φ X r):df G Φ X (.ite c a b r):=by
 intro sc ctx st env A O ω ρ s E Q hc hsto C hX R hp hQ
 refine cO (P:=fun st=>wpAny (model G.prog G.w) A (execs st env) Q E s) (f:=fun x rest=>nY x fun test body orelse U=>chk Φ c sc ctx test&&bW Φ a sc ctx body&&bW Φ b sc ctx orelse&&bW Φ r sc ctx rest) hc fun x rest hc=>?_
 refine uD (P:=fun x=>wpAny (model G.prog G.w) A (execs (x::rest) env) Q E s) hc fun test body orelse pos hc=>?_
 refine fA hc fun c1 c2 c3 c4=>?_
 replace R:aJ (max (kx Φ c) (max (kS Φ a) (max (kS Φ b) (kS Φ r)))) A:=R
 refine oR (x:=if aB (den Φ c ρ)=true then av Φ a ρ else av Φ b ρ) ihr C hsto hX c4 (R.le (ae (ae (aj _ _) (aj _ _)) (aj _ _))) hp.2.2.2.2 (fun Q' h=>?_) hQ
 refine wpAny_If (wpAny_mono (ihc sc ctx test env A O ω ρ s E c1 C (R.le (aF _ _)) hp.1 hp.2.1) (fun t s₁ h₁=>?_) fun U U x=>x)
 refine ak h₁ fun e0 k1=>?_;subst e0
 have C1:=C.keeps wf k1
 cases ht:aB (den Φ c ρ)with
 | true =>
  rw[ht]at h
  rw[if_pos rfl]at h ⊢
  exact iha sc ctx body env A O ω ρ s₁ E Q' c2 hsto C1 (fun q=>(hX q).keeps k1) (R.le (ae (aF _ _) (aj _ _))) (hp.2.2.1 ht) fun O' ω' s' fl hs C' hf=>h O' ω' s' fl ((Step.keeps k1).trans C.ok.obs hs) C' hf
 | false =>
  rw[ht]at h
  rw[if_neg Kr]at h ⊢
  exact ihb sc ctx orelse env A O ω ρ s₁ E Q' c3 hsto C1 (fun q=>(hX q).keeps k1) (R.le (ae (ae (aF _ _) (aj _ _)) (aj _ _))) (hp.2.2.2.1 ht) fun O' ω' s' fl hs C' hf=>h O' ω' s' fl ((Step.keeps k1).trans C.ok.obs hs) C' hf
inductive WInv(X:Bool)(G:Glo)(env:Env)(sc:Scope)(ctx:List (Option Str))(A:Around)(O:Addr->Prop)(ω:Addr->Option Nat)(s:Shared)(F:Nat->List SV->Prop)(m:Nat)(sk:Shared):Prop where
 | mk (ρk:List SV) (Ok:Addr->Prop) (ωk:Addr->Option Nat) (h:F m ρk) (st:Step (Fz X A) env O ω s Ok ωk sk) (C:Cond G env sc ctx A Ok ωk ρk sk):WInv X G env sc ctx A O ω s F m sk
theorem CJ{c:List SV->Bool}{f:List SV->Fl × List SV}{n:Nat}{ρ:List SV}:g7 c f (n+1) ρ=if c ρ=true then(match f ρ with | (.next,ρ')=>g7 c f n ρ' | (.brk,ρ')=>(.next,ρ') | (.ret v,ρ')=>(.ret v,ρ'))else(.next,ρ):=rfl
theorem CK{X:Bool}(n:Nat)(c:IX)(body r:SX)(wf:G.Wf)(ihc:cT G Φ c)(ihb:df G Φ X body)(ihr:df G Φ X r):df G Φ X (.whl n c body r):=by
 intro sc ctx st env A O ω ρ s E Q hc hsto C hX R hp hQ
 refine cO (P:=fun st=>wpAny (model G.prog G.w) A (execs st env) Q E s) (f:=fun x rest=>qx x fun test bd U=>chk Φ c sc ctx test&&bW Φ body sc ctx bd&&bW Φ r sc ctx rest) hc fun x rest hc=>?_
 refine Bc (P:=fun x=>wpAny (model G.prog G.w) A (execs (x::rest) env) Q E s) hc fun test bd pos hc=>?_
 refine dW hc fun c1 c2 c3=>?_
 replace R:aJ (max (kx Φ c) (max (kS Φ body) (kS Φ r))) A:=R
 refine oR (x:=g7 (fun ρ=>aB (den Φ c ρ)) (av Φ body) n ρ) ihr C hsto hX c3 (R.le (ae (aj _ _) (aj _ _))) hp.2 (fun Q' h=>?_) hQ
 generalize hF:(fun m ρk=>oQ (fun ρ=>pre Φ c false ρ/\dZ (den Φ c ρ)=true) (aM Φ body) (fun ρ=>aB (den Φ c ρ)) (av Φ body) m ρk/\g7 (fun ρ=>aB (den Φ c ρ)) (av Φ body) n ρ=g7 (fun ρ=>aB (den Φ c ρ)) (av Φ body) m ρk)=F
 refine wpAny_While (codeAny_whileLoop (WInv X G env sc ctx A O ω s F) ?_ n ⟨ρ,O,ω,hF▸⟨hp.1,rfl⟩,Step.refl ..,C⟩)
 rintro m sk ⟨ρk,Ok,ωk,hw,hst,Ck⟩
 rw[<- hF]at hw
 refine ak hw fun hw he=>?_
 cases m with
 | zero=>exact hw.elim
 | succ m =>
  refine wpAny_mono (ihc sc ctx test env A Ok ωk ρk sk _ c1 Ck (R.le (aF _ _)) hw.1.1 hw.1.2) (fun t s₁ h₁=>?_) fun U U x=>x
  refine ak h₁ fun e0 k1=>?_;subst e0
  have C1:=Ck.keeps wf k1
  have hst1:=hst.trans C.ok.obs (Step.keeps k1)
  replace he:=he.trans (CJ ..)
  cases ht:aB (den Φ c ρk)with
  | true =>
   rw[if_pos ht]at he
   rw[if_pos rfl]
   refine ak (hw.2 ht) fun hpb hnx=>?_
   refine ihb sc ctx bd env A Ok ωk ρk s₁ _ _ c2 hsto C1 (fun q=>(hX q).step C hst1 C1) (R.le (ae (aF _ _) (aj _ _))) hpb fun O' ω' s' fl hs C' hf=>?_
   have hs':=hst1.trans C.ok.obs hs
   clear hw hpb
   generalize av Φ body ρk=x at C' hf he hnx
   obtain⟨f,ρ'⟩:=x
   cases f with
   | next =>
    cases hf
    exact⟨m,i3 _,ρ',O',ω',hF▸⟨hnx,he⟩,hs',C'⟩
   | brk =>
    cases hf
    exact h O' ω' s' .next hs' (by rw[he];exact C') (by rw[he];rfl)
   | ret d =>
    refine x12 hf fun v e1 hr=>?_;subst e1
    exact h O' ω' s' (.ret v) hs' (by rw[he];exact C') (by rw[he];exact⟨v,rfl,hr⟩)
  | false =>
   rw[if_neg (by rw[ht];exact Kr)]at he
   rw[if_neg Kr]
   exact wpAny_execs_nil (h Ok ωk s₁ .next hst1 (by rw[he];exact C1) (by rw[he];rfl))
structure FLoc(O:Addr->Prop)(s₁:Shared)(I:Addr)(fp:List Addr)(O':Addr->Prop)(ω':Addr->Option Nat)(sk:Shared):Prop where
 oI:O' I
 kp:∀b o,¬O b->s₁.heap.get? b=some o->sk.heap.get? b=some o
 fe:∀b∈fp,∃o,sk.heap.get? b=some o
 fO:∀b∈fp,b≠I->¬O' b
 wI:∀j,ω' I≠some j
 OO:∀b o,s₁.heap.get? b=some o->O' b->O b
theorem FLoc.next{M O Ok O':Addr->Prop}{ωk ω':Addr->Option Nat}{s₁ sk s2 s':Shared}{I:Addr}{fp:List Addr}(L:FLoc O s₁ I fp Ok ωk sk)(hI₁:s₁.heap.get? I=none)
 (hk2:∀b o,b≠I->sk.heap.get? b=some o->s2.heap.get? b=some o) (hoI:∃o,s2.heap.get? I=some o) (hM:∀b,M b->Ok b/\b≠I) (kk:∀b o,¬M b->s2.heap.get? b=some o->s'.heap.get? b=some o)
 (o1:O' I) (o2:∀b,O' b->Ok b\/s2.heap.get? b=none) (w':∀j,ω' I=some j->ωk I=some j\/s2.heap.get? I=none):FLoc O s₁ I fp O' ω' s'/\∀b∈fp,∀o,s2.heap.get? b=some o->s'.heap.get? b=some o:=by
 have back:∀b o,s2.heap.get? b=some o->s2.heap.get? b≠none:=fun b o e q=>by rw[q]at e;cases e
 have fe2:∀b∈fp,∃o,s2.heap.get? b=some o:=fun b hb=>if q:b=I then q▸hoI else(L.fe b hb).elim fun o e=>⟨o,hk2 b o q e⟩
 have keep:∀b∈fp,∀o,s2.heap.get? b=some o->s'.heap.get? b=some o:=fun b hb o e=>kk b o (fun q=>L.fO b hb (hM b q).2 (hM b q).1) e
 have kp2:∀b o,¬O b->s₁.heap.get? b=some o->s2.heap.get? b=some o:=fun b o n e=>hk2 b o (fun q=>by rw[q,hI₁]at e;cases e) (L.kp b o n e)
 refine⟨⟨o1,fun b o n e=>kk b o (fun q=>n (L.OO b o e (hM b q).1)) (kp2 b o n e),fun b hb=>(fe2 b hb).elim fun o e=>⟨o,keep b hb o e⟩,fun b hb n q=>?_,fun j q=>?_,fun b o e q=>?_⟩,keep⟩
 ·exact(o2 b q).elim (L.fO b hb n) fun z=>(fe2 b hb).elim fun o e=>back b o e z
 ·exact(w' j q).elim (L.wI j) fun z=>hoI.elim fun o e=>back I o e z
 ·exact(o2 b q).elim (L.OO b o e) fun z=>Classical.byContradiction fun hn=>back b o (kp2 b o hn e) z
structure FInv(X:Bool)(G:Glo)(env:Env)(sc:Scope)(ctx:List (Option Str))(A:Around)(O:Addr->Prop)(ω:Addr->Option Nat)(s s₁:Shared)(I:Addr)(fp:List Addr)(F:List PyData->List SV->Prop)(rest:List PyData)(ρk:List SV)(Ok:Addr->Prop)(ωk:Addr->Option Nat)(sk:Shared):Prop where
 loc:FLoc O s₁ I fp Ok ωk sk
 st:Step (Fz X A) env O ω s Ok ωk sk
 C:Cond G env sc ctx A Ok ωk ρk sk
 fr:F rest ρk
theorem v5{X:Bool}{tup:Bool}{slots:List Nat}{it:IX}{f:PyData->List SV->Fl × List SV}{PB:PyData->List SV->Prop}(wf:G.Wf)(ihi:fH G Φ it){sc:Scope}{ctx:List (Option Str)}{target iter:Expr}{bd:List Stmt}{pos:Pos}{env:Env}{A:Around}{O:Addr->Prop}{ω:Addr->Option Nat}{ρ:List SV}{s:Shared}{E:Value->Shared->Prop}{Q':Flow->Shared->Prop}
 (hns:eY iter=true) (hci:eE Φ it sc ctx iter=true) (hct:eX tup slots sc ctx target=true) (hsto:∀i,bu env ctx i) (C:Cond G env sc ctx A O ω ρ s) (hX:X=true->FXE env A O ω s) (R:aJ (kx Φ it) A) (hp:gg Φ it false ρ) (hfor:fK (fun d ρ=>bindP tup slots d/\PB d ρ) f (bp Φ it ρ) ρ)
 (ihb:∀d ρk l Ok ωk sk Q,PB d ρk->bC f (bp Φ it ρ) ρ=bC f (d::l) ρk->Step (Fz X A) env O ω s Ok ωk sk->Cond G env sc ctx A Ok ωk (ay tup slots d ρk) sk->(∀O' ω' s' fl,Step (Fz X A) env Ok ωk sk O' ω' s'->Cond G env sc ctx A O' ω' (f d ρk).2 s'->j8 G O' s'.heap (f d ρk).1 fl->Q fl s')->wpAny (model G.prog G.w) A (execs bd env) Q (notedBy (model G.prog G.w) A env (cameBackBy (model G.prog G.w) A env E)) sk)
 (h:∀O' ω' s' fl,Step (Fz X A) env O ω s O' ω' s'->Cond G env sc ctx A O' ω' (bC f (bp Φ it ρ) ρ).2 s'->j8 G O' s'.heap (bC f (bp Φ it ρ) ρ).1 fl->Q' fl s') :
 wpAny (model G.prog G.w) A (exec (.For target iter bd [] pos) env) Q' E s:=by
 refine wpAny_For (wpAny_mono (ihi sc ctx iter false env A O ω ρ s E hci C R hp) (fun x s₁ h₁=>?_) fun U U x=>x) (fun x=>oM hns)
 refine ak h₁ fun k01 h₁=>?_
 refine wpAny_mono (h₁ E) (fun itv s₂ h₂=>?_) fun U U x=>x
 obtain⟨k12,I,fp,wr,P,St,rfl,W,hst,hfq,⟨rfl,hI₁⟩,hf,htame,hIfp,hit⟩:=h₂
 have hI₀:s.heap.get? I=none:=jw (M:=fun U=>False) (KM.of k01) hI₁
 have C1:=C.keeps wf k01
 have hnI:¬O I:=fun q=>by refine x11 (C1.ok.obs I q) fun o e=>?_;rw[hI₁]at e;cases e
 have hIf:I∉hfp A:=fun q=>by refine x11 (C1.ok.hok.there I q) fun o e=>?_;rw[hI₁]at e;cases e
 have C2:Cond G env sc ctx A (fun b=>O b\/b=I) ω ρ s₂:=C1.grow wf k12 (fun b q=>.inl q) (fun b q=>by
  rcases q with q | rfl
  ·exact .inl q
  ·exact .inr hI₁) fun b q=>by
  rcases q with q | rfl
  ·refine x11 (C1.ok.obs b q) fun o e=>?_;exact⟨o,al k12 b o e⟩
  ·refine x22 (htame 0 _ hst) fun o U e U=>?_;exact⟨o,e⟩
 have st2:Step (Fz X A) env O ω s (fun b=>O b\/b=I) ω s₂:=⟨KS.of (KM.of (aQ k01 k12)),fun b q U=>.inl q,fun b q=>by
  rcases q with q | rfl
  ·exact .inl q
  ·exact .inr hI₀,fun b i q=>.inl q⟩
 have wI:∀j,ω I≠some j:=fun j q=>hnI (C.om I j q).1
 generalize hits:bp Φ it ρ=its at *
 generalize hF:(fun rest ρk=>fK (fun d ρ=>bindP tup slots d/\PB d ρ) f rest ρk/\bC f its ρ=bC f rest ρk)=F
 refine codeAny_forLoop_any (fun n sk=>∃i ρk O' ω',i<=its.length/\n=its.length+1 - i/\St i sk.heap/\FInv X G env sc ctx A O ω s s₁ I fp F (its.drop i) ρk O' ω' sk) ?_ (its.length+1)
  ⟨0,ρ,_,ω,aW _,rfl,hst,⟨.inr rfl,fun b o U e=>al k12 b o e,hfq,fun b hb n q=>q.elim (hf rfl b hb) n,wI,fun b o e q=>by
   rcases q with q | rfl
   ·exact q
   ·rw[hI₁]at e;cases e⟩,st2,C2,by rw[<- hF,List.drop_zero];exact⟨hfor,rfl⟩⟩
 rintro n sk ⟨i,ρk,Ok,ωk,hi,rfl,hst,inv⟩
 have Ck:=inv.C
 have hFI:∀b,a9 env b->Ok b/\b≠I:=fun b q=>⟨Ck.fr b q,fun z=>hnI (z▸C.fr b q)⟩
 have hCI:∀x c,env.cells.lookup x=some c->Ok c/\c≠I:=fun x c e=>⟨Ck.fc x c e,fun z=>hnI (z▸C.fc x c e)⟩
 have hWI:∀b j,ωk b=some j->Ok b/\b≠I:=fun b j e=>⟨(Ck.om b j e).1,fun z=>inv.loc.wI j (z▸e)⟩
 have hfr:=inv.fr
 rw[<- hF]at hfr
 by_cases hlt:i<its.length
 ·refine W.item i _ _ _ hlt hst fun v h₂ t₂ hP hst₂ hk₂=>?_
  refine x23 (htame (i+1) h₂ hst₂) fun oI TI hoI hcI htI=>?_
  refine lE hoI hcI htI ?_
  have hk2:∀b o,b≠I->sk.heap.get? b=some o->h₂.get? b=some o:=fun b o n e=>hk₂ b o (by simpa using n) e
  have k2:KM (· = I) sk { sk with heap:=h₂,toks:=t₂ }:=⟨h₂,t₂,rfl,fun b o n e=>hk2 b o n e,fun b o e=>if q:b=I then q▸⟨oI,hoI⟩else⟨o,hk2 b o q e⟩⟩
  have C2:=Ck.side (O:=fun b=>Ok b/\b≠I) wf hWI hFI hCI (fun q=>q.2 rfl) inv.loc.oI k2
  have S2:=inv.st.side (O'':=Ok) (t:=t₂) C.ok.obs hI₀ (fun b q U=>q) (fun b q=>q) hk2
  refine x12 (hit i v hP) fun d hd rd=>?_
  have rd':Rep Ok h₂ v d:=(rd s₁.heap fun U U U e=>e).mono (fun b o n e=>hk2 b o (fun q=>by rw[q,hI₁]at e;cases e) (inv.loc.kp b o n e)) inv.loc.OO
  have hdrop:its.drop i=d::its.drop (i+1):=by
   rw[List.drop_eq_getElem_cons hlt]
   congr 1
   exact Option.some.inj ((bk hlt).symm.trans hd)
  rw[hdrop]at hfr
  refine vI wf (fun j U=>hsto j) hct C2 rd' hfr.1.1.1 fun s3 k3 C3=>?_
  have S3:=S2.trans C.ok.obs (Step.frame k3)
  refine ihb d ρk _ Ok ωk s3 _ hfr.1.1.2 hfr.2 S3 C3 fun O' ω' s' fl hs C' hfl=>?_
  have S4:=S3.trans C.ok.obs hs
  refine ak hfr fun z0 hfe=>?_;refine ak z0 fun U hb3=>?_
  replace hfe:bC f its ρ=(match f d ρk with | (.next,ρ')=>bC f (its.drop (i+1)) ρ' | (.brk,ρ')=>(.next,ρ') | (.ret v,ρ')=>(.ret v,ρ')):=hfe
  generalize f d ρk=x at C' hfl hfe hb3
  obtain⟨g,ρ'⟩:=x
  cases g with
  | next =>
   cases hfl
   have hFz:∀b,Fz X A b->O b/\b≠I:=fun b q=>⟨(hX q.1).fo b q.2,fun z=>by
    refine x32 ((hX q.1).dict q.2) fun o U U e U=>?_
    rw[z,hI₀]at e;cases e⟩
   have nb:∀b,s3.heap.get? b=none->h₂.get? b=none:=fun b e=>jw k3 e
   have nx:=inv.loc.next (M:=fun b=>MO env ωk b\/Fz X A b) hI₁ (s2:={ sk with heap:=h₂,toks:=t₂ }) hk2 ⟨oI,hoI⟩ (fun b q=>q.elim (fun q=>q.elim (hFI b) fun ζ=>ζ.elim fun j q=>hWI b j q) fun q=>⟨((hX q.1).step C S3 C3).fo b q.2,(hFz b q).2⟩)
    (fun b o n e=>hs.km.get b o (fun q=>n (.inl q)) (fun q=>n (.inr q)) (k3.get b o (fun q=>n (.inl (.inl q))) e)) (hs.o1 I inv.loc.oI inv.loc.wI) (fun b q=>(hs.o2 b q).imp id (nb b)) fun j q=>(hs.w2 I j q).imp id (nb I)
   exact⟨its.length+1 - (i+1),by lia,i+1,ρ',O',ω',hlt,rfl,W.frame _ _ _ hst₂ fun b hb o e=>nx.2 b hb o e,nx.1,S4,C',by rw[<- hF];exact⟨hb3,hfe⟩⟩
  | brk =>
   cases hfl
   exact h O' ω' s' .next S4 (by rw[hfe];exact C') (by rw[hfe];rfl)
  | ret d =>
   refine x12 hfl fun v e1 hr=>?_;subst e1
   exact h O' ω' s' (.ret v) S4 (by rw[hfe];exact C') (by rw[hfe];exact⟨v,rfl,hr⟩)
 ·have hin:i=its.length:=m8 hi (cy.mp hlt)
  subst hin
  refine W.done _ _ _ hst fun h₂ t₂ hk₂=>wpAny_execs_nil ?_
  have hk:∀b o,b≠I->sk.heap.get? b=some o->h₂.get? b=some o:=fun b o n e=>hk₂ b o (by simpa using n) e
  have hfe:=hfr.2
  rw[List.drop_length]at hfe
  refine h (fun b=>Ok b/\b≠I) ωk _ .next (inv.st.side C.ok.obs hI₀ (fun b q n=>⟨q,n⟩) (fun b q=>q.1) hk) ?_ (by rw[hfe];rfl)
  rw[hfe]
  exact Ck.shrink wf (fun b q=>q.1) hWI hFI hCI (fun q=>q.2 rfl) inv.loc.oI hIf hk
theorem CL{X:Bool}(tup:Bool)(slots:List Nat)(it:IX)(body r:SX)(wf:G.Wf)(ihi:fH G Φ it)(ihb:df G Φ X body)(ihr:df G Φ X r):df G Φ X (.for tup slots it body r):=by
 intro sc ctx st env A O ω ρ s E Q hc hsto C hX R hp hQ
 refine cO (P:=fun st=>wpAny (model G.prog G.w) A (execs st env) Q E s) (f:=fun x rest=>lq x fun target iter bd U=>eY iter&&eE Φ it sc ctx iter&&eX tup slots sc ctx target&&bW Φ body sc ctx bd&&bW Φ r sc ctx rest) hc fun x rest hc=>?_
 refine uU (P:=fun x=>wpAny (model G.prog G.w) A (execs (x::rest) env) Q E s) hc fun target iter bd pos hc=>?_
 refine ge hc fun hns hci hct hcb hcr=>?_
 replace R:aJ (max (kx Φ it) (max (kS Φ body) (kS Φ r))) A:=R
 refine oR (x:=bC (fun d ρ=>av Φ body (ay tup slots d ρ)) (bp Φ it ρ) ρ) ihr C hsto hX hcr (R.le (ae (aj _ _) (aj _ _))) hp.2.2 (fun Q' h=>?_) hQ
 exact v5 (PB:=fun d ρ=>aM Φ body (ay tup slots d ρ)) wf ihi hns hci hct hsto C hX (R.le (aF _ _)) hp.1 hp.2.1 (fun d ρk l Ok ωk sk Q hP U hst Ck hn=>ihb sc ctx bd env A Ok ωk _ sk _ Q hcb hsto Ck (fun q=>(hX q).step C hst Ck) (R.le (ae (aF _ _) (aj _ _))) hP hn) h
theorem oS{X:Bool}(wf:G.Wf)(hF:∀F∈Φ,aN G F):∀S:SX,de G X S->df G Φ X S:=by
 intro S
 have e:=snd wf hF
 induction S with
 | skip=>intro _;exact CC
 | prim p r ih=>intro h;exact CD p r h.1 (ih h.2)
 | frz i r ih=>intro h;exact CG i r wf (ih h)
 | ite c a b r iha ihb ihr=>intro h;exact CH c a b r wf (e c).tst (iha h.1) (ihb h.2.1) (ihr h.2.2)
 | «for» tup slots it body r ihb ihr=>intro h;exact CL tup slots it body r wf (e it).it (ihb h.1) (ihr h.2)
 | whl n c body r ihb ihr=>intro h;exact CK n c body r wf (e c).tst (ihb h.1) (ihr h.2)
end
section
variable{G:Glo}{Φ:List FEntry}
set_option tactic.hygienic true in
theorem CM{env:Env}{sc:Scope}{ctx:List (Option Str)}{A:Around}{O:Addr->Prop}{ω:Addr->Option Nat}{ρ ρ':List SV}{s:Shared}{E:Value->Shared->Prop}{e:IX}{ast:Expr}{use:Value->Sem Unit}{Q:Unit->Shared->Prop}(wf:G.Wf)(hF:∀F∈Φ,aN G F)
 (hl:∃elt gens scope pos,ast=.ListComp elt gens scope pos) (hc:chk Φ e sc ctx ast=true) (C:Cond G env sc ctx A O ω ρ s) (R:aJ (kx Φ e) A) (hp:pre Φ e false ρ)
 (huse:∀O' v s' E Q',Cond G env sc ctx A O' ω ρ s'->Rep O' s'.heap v (den Φ e ρ)->(∀s'',KM (a9 env) s' s''->Cond G env sc ctx A O' ω ρ' s''->Q' () s'')->wpAny (model G.prog G.w) A (use v) Q' E s')
 (hQ:∀s',KM (a9 env) s s'->Cond G env sc ctx A O ω ρ' s'->Q () s'):wpAny (model G.prog G.w) A (evalThenUse ast env use) Q E s:=by
 refine x41 hl fun elt gens scope pos e4=>?_;subst e4
 cases e<;>first | (exact absurd hc Kr) | skip
 rename_i n tup slots it ifs rest
 cases gens with
 | nil=>exact absurd hc Kr
 | cons g gs =>
  show wpAny _ A (comprehension (.ListComp elt (g::gs) scope pos) scope env _ (newList []) (firstAsync (g::gs)) (firstIter (g::gs) env) (some use) >>= fun U=>pure ()) Q E s
  exact wpAny_bind (v3 (snd wf hF it).it (snd wf hF ifs).ts (snd wf hF rest).gn wf hc C R hp fun D C' s' m k hC hDC hm r=>BW wf C k hC hm r huse fun s' k C'=>wpAny_pure (hQ s' k C'))
noncomputable def v8:Expr->Bool
 | .SetComp ..=>false
 | .DictComp ..=>false
 | _=>true
set_option tactic.hygienic true in
theorem CN{x:Str}{p:Pos}{v:Expr}{line:Nat}{env:Env}(hv:v8 v=true) :
 (swapsWith v (some (.Name x p)) line env=pure false)\/(swapsWith v (some (.Name x p)) line env=pure true/\∃a b c d,v=.ListComp a b c d):=by
 cases v<;>first | exact .inl rfl | exact absurd hv Kr | skip
 rename_i a b c d
 have h:∃r:Bool,swapsWith (.ListComp a b c d) (some (.Name x p)) line env=pure r:=⟨env.blockKind==.function&&env.kindOf x==some .local&&p.line==(Expr.ListComp a b c d).pos.line&&!(c.names.any fun(n,k)=>n==x&&(k==.local||k==.cell)),rfl⟩
 refine x11 h fun r h=>?_
 cases r with
 | false=>exact .inl h
 | true=>exact .inr ⟨h,_,_,_,_,rfl⟩
noncomputable def cG(Φ:List FEntry)(i:Nat)(e:IX):Prim where
 chk sc ctx st:=eS st fun t v U=>cf t fun x U=>ctx[i]? == some (some x)&&aS sc x&&v8 v&&chk Φ e sc ctx v
 k:=kx Φ e
 pre ρ:=pre Φ e false ρ
 den ρ:=(.next,ρ.set i (.dat (den Φ e ρ)))
theorem j9{X:Bool}(i:Nat)(e:IX)(wf:G.Wf)(hF:∀F∈Φ,aN G F):c9 G X (cG Φ i e):=by
 intro sc ctx st env A O ω ρ s E Q hc hsto C hX R hp hQ
 refine ot (P:=fun st=>wpAny (model G.prog G.w) A (exec st env) Q E s) hc fun x p v pos hc=>?_
 refine fA hc fun hi hk hsd hv=>?_
 have hi:=eq_of_beq hi
 have plain:swapsWith v (some (.Name x p)) pos.line env=pure false->wpAny (model G.prog G.w) A (exec (.Assign [.Name x p] v pos) env) Q E s:=by
  intro hsw
  refine wpAny_Assign_stores (wpAny_mono ((snd wf hF e).ev sc ctx v false env A O ω ρ s E hv C R hp) (fun u s₁ h₁=>?_) fun U U x=>x) hsw rfl
  have C1:=C.keeps wf h₁.1
  show wpAny _ A (assign (.Name x p) env u) _ _ s₁
  exact jv wf (hsto i) C1 hi hk h₁.2.ff fun s' k C'=>hQ O ω s' .next ((Step.keeps h₁.1).trans C.ok.obs (Step.frame k)) C' rfl
 rcases CN (x:=x) (p:=p) (line:=pos.line) (env:=env) hsd with h | ⟨h,h'⟩
 ·exact plain h
 ·rw[exec_Assign_arm]
  refine wpAny_bind (wpAny_standAt ?_)
  rw[show swapsWithSole [.Name x p] v pos.line env=pure true from h]
  refine wpAny_bind (wpAny_pure ?_)
  rw[if_pos rfl]
  refine wpAny_bind (CM (ρ':=ρ.set i (.dat (den Φ e ρ))) wf hF h' hv C R hp (fun O' u s' E Q' C' r hq=>?_) fun s' k C'=>wpAny_pure (hQ O ω s' .next (Step.frame k) C' rfl))
  show wpAny _ A (assign (.Name x p) env u) _ _ s'
  exact jv wf (hsto i) C' hi hk r hq
noncomputable def eb(Φ:List FEntry)(e:IX):Prim where
 chk sc ctx st:=oh st fun v U=>chk Φ e sc ctx v
 k:=kx Φ e
 pre ρ:=pre Φ e false ρ
 den ρ:=(.ret (den Φ e ρ),ρ)
theorem g8{X:Bool}(e:IX)(wf:G.Wf)(hF:∀F∈Φ,aN G F):c9 G X (eb Φ e):=by
 intro sc ctx st env A O ω ρ s E Q hc hsto C hX R hp hQ
 refine qw (P:=fun st=>wpAny (model G.prog G.w) A (exec st env) Q E s) hc fun v pos hc=>?_
 show wpAny _ A (standAt pos >>= fun U=>eval v env >>= fun u=>pure (.ret u)) Q E s
 refine wpAny_bind (wpAny_standAt (wpAny_bind (wpAny_mono ((snd wf hF e).ev sc ctx v false env A O ω ρ s E hc C R hp) (fun u s₁ h₁=>wpAny_pure ?_) fun U U x=>x)))
 exact hQ O ω s₁ (.ret u) (Step.keeps h₁.1) (C.keeps wf h₁.1) ⟨u,rfl,h₁.2.ff⟩
end
section
variable{prog:Program}{w:World}{A:Around}{E:Value->Shared->Prop}{s:Shared}
end
section
variable{G:Glo}{Φ:List FEntry}
theorem v9{Ff:Addr->Prop}{env:Env}{sc:Scope}{ctx:List (Option Str)}{A:Around}{O:Addr->Prop}{ω:Addr->Option Nat}{ρ:List SV}{s:Shared}{i:Nat}{x:Str}{a:Addr}{vs vs':Array Value}{n n':Nat}{ds':List PyData}{h':Heap}{val:Str->Option Value}
 (wf:G.Wf) (C:Cond G env sc ctx A O ω ρ s) (F:FrameV env s.heap val) (V:iI G O ω s.heap ctx ρ val) (hi:ctx[i]? = some (some x)) (hil:i<ρ.length) (hv:val x=some (.ref a)) (hw:ω a=some i) (hl:IsL s.heap a vs n)
 (hl':IsL h' a vs' n') (hr':RepL O h' vs'.toList ds') (hs:Heap.SameBut a s.heap h') :
 Step Ff env O ω s O ω { s with heap:=h' }/\Cond G env sc ctx A O ω (ρ.set i (.own (.list ds'))) { s with heap:=h' }:=by
 have hO:=(C.om a i hw).1
 have k:KM (· = a) s { s with heap:=h' }:=KM.chg (t:=s.toks) hs.extBut ⟨_,hl'⟩ rfl
 refine⟨⟨KS.of (k.mono fun b q=>.inr ⟨i,q▸hw⟩),fun U h U=>h,fun U h=>.inl h,fun U U h=>.inl h⟩,C.frame k (fun b q=>q▸hO) (by simp) (F.chg hl hs.extBut) fun j y hy=>?_⟩
 rw[c6]
 by_cases q:i=j
 ·subst q
  rw[if_pos ⟨rfl,hil⟩]
  have:y=x:=by rw[hi]at hy;cases hy;rfl
  subst this
  exact⟨a,vs',n',ds',hv,hw,rfl,hl',hr'⟩
 ·rw[if_neg fun z=>q z.1]
  refine(V j y hy).at wf C.base fun b o hb e=>hs.extBut b o (fun z=>?_) e
  rcases hb with hb | hb
  ·rw[z,hw]at hb;cases hb;exact q rfl
  ·exact hb (z▸hO)
noncomputable def dK:SV->List PyData
 | .own d=>eW d
 | _=>[]
inductive OwnVar(G:Glo)(env:Env)(ctx:List (Option Str))(O:Addr->Prop)(ω:Addr->Option Nat)(ρ:List SV)(s:Shared)(i:Nat)(x:Str):Prop where
 | mk (val:Str->Option Value) (a:Addr) (vs:Array Value) (n:Nat) (F:FrameV env s.heap val) (V:iI G O ω s.heap ctx ρ val) (hv:val x=some (.ref a)) (hw:ω a=some i) (hL:IsL s.heap a vs n) (hR:RepL O s.heap vs.toList (dK (ρ.getD i .un))) (hi:i<ρ.length):OwnVar G env ctx O ω ρ s i x
theorem qY{env:Env}{sc:Scope}{ctx:List (Option Str)}{A:Around}{O:Addr->Prop}{ω:Addr->Option Nat}{ρ:List SV}{s:Shared}{i:Nat}{x:Str}(C:Cond G env sc ctx A O ω ρ s)(hi:ctx[i]? = some (some x))(ho:jx (ρ.getD i .un)) :
 OwnVar G env ctx O ω ρ s i x:=by
 obtain⟨val,F,V⟩:=C.vars
 have hv:=V i x hi
 cases hx:ρ.getD i .un with
 | own d =>
  rw[hx]at hv
  obtain⟨a,vs,n,ds,e1,e2,rfl,h1,h2⟩:=hv
  refine⟨val,a,vs,n,F,V,e1,e2,h1,by rw[hx];exact h2,?_⟩
  by_cases q:i<ρ.length
  ·exact q
  ·rw[aq,rN (by simpa using q)]at hx;cases hx
 | un=>rw[hx]at ho;exact ho.elim
 | val d=>rw[hx]at ho;exact ho.elim
 | dat d=>rw[hx]at ho;exact ho.elim
 | sor g=>rw[hx]at ho;exact ho.elim
noncomputable def iS(Φ:List FEntry)(i:Nat)(e:IX):Prim where
 chk sc ctx st:=iz st fun c U=>iC c fun x U m ap as p=>v1 as fun a=>m==ofString "append"&&ap.endLine==p.line&&ctx[i]? == some (some x)&&x != ofString "__debug__"&&chk Φ e sc ctx a
 k:=kx Φ e
 pre ρ:=jx (ρ.getD i .un)/\pre Φ e false ρ/\(dK (ρ.getD i .un)).length<=16777216
 den ρ:=(.next,ρ.set i (.own (.list (dK (ρ.getD i .un)++[den Φ e ρ]))))
theorem qZ{X:Bool}(i:Nat)(e:IX)(wf:G.Wf)(hF:∀F∈Φ,aN G F):c9 G X (iS Φ i e):=by
 intro sc ctx st env A O ω ρ s E Q hc hsto C hX R hp hQ
 refine ou (P:=fun st=>wpAny (model G.prog G.w) A (exec st env) Q E s) (f:=fun x m ap as p=>v1 as fun a=>m==ofString "append"&&ap.endLine==p.line&&ctx[i]? == some (some x)&&x != ofString "__debug__"&&chk Φ e sc ctx a) hc fun x px m ap as p pos hc=>?_
 refine c0 (P:=fun as=>wpAny (model G.prog G.w) A (exec (.Expr (.Call (.Attribute (.Name x px) m ap) as [] p) pos) env) Q E s) hc fun a hc=>?_
 refine ge hc fun hm hl hi hd ha=>?_
 cases eq_of_beq hm
 have hi:=eq_of_beq hi
 have hd:=bne_iff_ne.mp hd
 refine cN hp fun ho hpe hlen=>?_
 obtain⟨val,l,vs,n,Fv,V,hv,hw,hL,hR,hil⟩:=qY C hi ho
 have hint:interactive env=false:=by unfold interactive;rw[C.eo.kindS];rfl
 refine wpAny_Expr ?_ hint rfl
 refine Call_method1 rfl (gZ (eZ e ha)) hl (wpAny_Name (gk C.eo Fv hv (C.co.kd i x hi) ?_) (by simpa using hd))
 refine⟨"list", "list.append",F.plainAttrs_list,F.slot_list_append,F.type_list_append,hL.isList.typeIs,(fun b e=>by cases e;exact⟨_,hL,rfl⟩),?_⟩
 refine Calls.callWith_builtin rfl (Calls.evalArgs_plain (Calls.spliced_cons (wpAny_mono ((snd wf hF e).ev sc ctx a false env A O ω ρ s E ha C R hpe) (fun u s₁ h₁=>Calls.spliced_nil ?_) fun U U x=>x)))
 have C1:=C.keeps wf h₁.1
 have F1:=Fv.keeps (al h₁.1)
 have V1:iI G O ω s₁.heap ctx ρ val:=fun j y hy=>(V j y hy).keeps wf C.base h₁.1
 have hL1:=al h₁.1 _ _ hL
 have hR1:=hR.keeps h₁.1
 have hsz:=hR1.length
 rw[cj]at hsz
 refine append_at hL1 (fun h' hs hD'=>?_) (by show vs.size<=sizeLine;rw[hsz];exact hlen)
 have hO:=(C1.om l i hw).1
 have hk:∀b o,¬O b->s₁.heap.get? b=some o->h'.get? b=some o:=fun b o nO e=>hs.extBut b o (fun q=>nO (q▸hO)) e
 obtain⟨S',C'⟩:=v9 wf C1 F1 V1 hi hil hv hw hL1 hD' (ds':=dK (ρ.getD i .un)++[den Φ e ρ]) (by
  rw[Array.toList_push]
  exact(hR1.mono hk fun U U U q=>q).append (.cons (h₁.2.ff.mono hk fun U U U q=>q) .nil)) hs
 exact hQ O ω _ .next ((Step.keeps h₁.1).trans C.ok.obs S') C' rfl
end
structure Grow(O:Addr->Prop)(ω:Addr->Option Nat)(s:Shared)(O':Addr->Prop)(ω':Addr->Option Nat)(s':Shared):Prop where
 kp:Keeps s s'
 oo:∀b,O b->O' b
 o2:∀b,O' b->O b\/s.heap.get? b=none
 ww:∀b i,ω b=some i->ω' b=some i
 w2:∀b i,ω' b=some i->ω b=some i\/s.heap.get? b=none
theorem Grow.step{Ff:Addr->Prop}{env:Env}{O O':Addr->Prop}{ω ω':Addr->Option Nat}{s s':Shared}(g:Grow O ω s O' ω' s'):Step Ff env O ω s O' ω' s':=⟨KS.of (KM.of g.kp),fun b h U=>g.oo b h,g.o2,g.w2⟩
theorem Grow.of{O:Addr->Prop}{ω:Addr->Option Nat}{s s':Shared}(k:Keeps s s'):Grow O ω s O ω s':=⟨k,fun U h=>h,fun U h=>.inl h,fun U U h=>h,fun U U h=>.inl h⟩
theorem g9{s s':Shared}(k:Keeps s s'){b:Addr}(h:s'.heap.get? b=none):s.heap.get? b=none:=jw (M:=fun U=>False) (KM.of k) h
theorem Grow.trans{O O' O'':Addr->Prop}{ω ω' ω'':Addr->Option Nat}{s s' s'':Shared}(x:Grow O ω s O' ω' s')(y:Grow O' ω' s' O'' ω'' s''):Grow O ω s O'' ω'' s'' :=
 ⟨aQ x.kp y.kp,fun b h=>y.oo b (x.oo b h),fun b h=>(y.o2 b h).elim (x.o2 b) fun q=>.inr (g9 x.kp q),fun b i h=>y.ww b i (x.ww b i h),fun b i h=>(y.w2 b i h).elim (x.w2 b i) fun q=>.inr (g9 x.kp q)⟩
section
variable{G:Glo}{Φ:List FEntry}{env:Env}{sc:Scope}{ctx:List (Option Str)}{A:Around}{O O':Addr->Prop}{ω ω':Addr->Option Nat}{ρ:List SV}{s s':Shared}{E:Value->Shared->Prop}
theorem Grow.rep{i:Nat}{v:Option Value}{y:SV}(g:Grow O ω s O' ω' s')(wf:G.Wf)(B:G.Base O s.heap)(r:cC G O ω s.heap i v y):cC G O' ω' s'.heap i v y:=by
 have hO:∀b o,s.heap.get? b=some o->O' b->O b:=fun b o e q=>(g.o2 b q).elim id fun z=>by rw[z]at e;cases e
 cases y with
 | dat d=>refine x12 r fun u e r=>?_;exact⟨u,e,r.mono (fun b o U e=>al g.kp b o e) hO⟩
 | own d=>obtain⟨a,vs,n,ds,e1,e2,e3,h1,h2⟩:=r;exact⟨a,vs,n,ds,e1,g.ww a i e2,e3,al g.kp _ _ h1,h2.mono (fun b o U e=>al g.kp b o e) hO⟩
 | un=>trivial
 | val u=>exact r
 | sor x =>
  refine x23 r fun u S e r hS=>?_
  exact⟨u,S,e,wf.srf x S s.heap s'.heap u r (fun b o U e=>al g.kp b o e) (fun b o q=>B.kp b o q) (fun b o q=>al g.kp b o (B.kp b o q)),fun b q=>g.ww b i (hS b q)⟩
theorem wa{a:Addr}{i:Nat}(wf:G.Wf)(C:Cond G env sc ctx A O ω ρ s)(k:Keeps s s')(ha:s.heap.get? a=none)(ha':∃o,s'.heap.get? a=some o) :
 Grow O ω s (fun b=>O b\/b=a) (fun b=>if b=a then some i else ω b) s'/\Cond G env sc ctx A (fun b=>O b\/b=a) (fun b=>if b=a then some i else ω b) ρ s':=by
 have hne:∀b o,s.heap.get? b=some o->b≠a:=fun b o e q=>by rw[q,ha]at e;cases e
 have hw:∀b j,ω b=some j->b≠a:=fun b j e=>by
  refine x11 (C.ok.obs b (C.om b j e).1) fun o q=>?_
  exact hne b o q
 have g:Grow O ω s (fun b=>O b\/b=a) (fun b=>if b=a then some i else ω b) s':=⟨k,fun b h=>.inl h,fun b h=>by
  rcases h with h | rfl
  ·exact .inl h
  ·exact .inr ha,(fun b j h=>by
   rw[if_neg (hw b j h)];exact h),fun b j h=>by
   by_cases q:b=a
   ·exact .inr (q▸ha)
   ·rw[if_neg q]at h;exact .inl h⟩
 refine⟨g,?_⟩
 have C':=C.grow wf k g.oo g.o2 (fun b q=>by
  rcases q with q | rfl
  ·refine x11 (C.ok.obs b q) fun o e=>?_;exact⟨o,al k b o e⟩
  ·exact ha')
 obtain⟨val,F,V⟩:=C.vars
 refine⟨C'.eo,C'.co,C'.len,C'.ok,C'.base,C'.fr,C'.fc,fun b j h=>?_,val,F.keeps (al k),fun j y hy=>g.rep wf C.base (V j y hy)⟩
 by_cases q:b=a
 ·refine⟨.inr q,fun z=>?_⟩
  have:=C.store_O z
  refine x11 (C.ok.obs b this) fun o e=>?_
  exact hne b o e q
 ·rw[if_neg q]at h
  exact⟨.inl (C.om b j h).1,(C.om b j h).2⟩
inductive OwnPost(G:Glo)(env:Env)(sc:Scope)(ctx:List (Option Str))(A:Around)(O:Addr->Prop)(ω:Addr->Option Nat)(ρ:List SV)(s:Shared)(i:Nat)(y:SV)(v:Value)(s':Shared):Prop where
 | mk (O':Addr->Prop) (ω':Addr->Option Nat) (g:Grow O ω s O' ω' s') (C:Cond G env sc ctx A O' ω' ρ s') (r:cC G O' ω' s'.heap i (some v) y):OwnPost G env sc ctx A O ω ρ s i y v s'
noncomputable def kc:IX->Bool
 | .list _=>true
 | _=>false
theorem wb{e:IX}(h:kc e=true):∃es,e=.list es:=by
 cases e<;>first | (exact absurd h Kr) | exact⟨_,rfl⟩
theorem wc{e:IX}{ast:Expr}{i:Nat}(wf:G.Wf)(hF:∀F∈Φ,aN G F)(hl:kc e=true)(hc:chk Φ e sc ctx ast=true)(C:Cond G env sc ctx A O ω ρ s)(R:aJ (kx Φ e) A)(hp:pre Φ e false ρ) :
 wpAny (model G.prog G.w) A (eval ast env) (OwnPost G env sc ctx A O ω ρ s i (.own (den Φ e ρ))) E s:=by
 refine x11 (wb hl) fun es e1=>?_;subst e1
 refine nZ (P:=fun ast=>wpAny (model G.prog G.w) A (eval ast env) (OwnPost G env sc ctx A O ω ρ s i (.own (den Φ (.list es) ρ))) E s) hc fun xs p hc=>?_
 replace R:aJ (kx Φ es) A:=R
 replace hp:eC Φ es ρ/\(bV Φ es ρ).length<=16777216:=hp
 refine wpAny_List ?_
 rw[gV _ (j6 es hc),ju]
 refine wpAny_mono ((snd wf hF es).ls sc ctx xs env A O ω ρ s E hc C R hp.1) (fun vs s₁ h₁=>?_) fun U U x=>x
 have hl:vs.length<=16777216:=by rw[h₁.2.length];exact hp.2
 have C1:=C.keeps wf h₁.1
 have hnone:s₁.heap.get? s₁.heap.objs.size=none:=Heap.get?_none_of_le (aL _)
 refine ak (wa (i:=i) wf C1 (bt { cls:=.type "list",data:=.seq vs.toArray } (t:=s₁.toks)) hnone ⟨_,Heap.get?_push_size _ rfl⟩) fun g C2=>?_
 refine⟨hl,_,_,(Grow.of h₁.1).trans g,C2,s₁.heap.objs.size,vs.toArray,0,bV Φ es ρ,rfl,if_pos rfl,rfl,IsL.new _ _,?_⟩
 have:vs.toArray.toList=vs:=rfl
 rw[this]
 exact h₁.2.mono (fun b o U e=>Heap.get?_push_of_some _ e) fun b o e q=>by
  rcases q with q | rfl
  ·exact q
  ·rw[hnone]at e;cases e
noncomputable def oU(p:Bool × IX)(ρ:List SV):SV:=if p.1=true then .own (den Φ p.2 ρ)else .dat (den Φ p.2 ρ)
noncomputable def ke(Φ:List FEntry):List (Bool × IX)->Scope->List (Option Str)->List Expr->Bool
 | [],_,_,[]=>true
 | p::es,sc,ctx,x::xs=>(!p.1||kc p.2)&&chk Φ p.2 sc ctx x&&ke Φ es sc ctx xs
 | _,_,_,_=>false
noncomputable def re(Φ:List FEntry):List (Bool × IX)->Nat
 | []=>0
 | p::es=>max (kx Φ p.2) (re Φ es)
noncomputable def rf(Φ:List FEntry):List (Bool × IX)->List SV->Prop
 | [],_=>True
 | p::es,ρ=>pre Φ p.2 false ρ/\rf Φ es ρ
noncomputable def eG(G:Glo)(O:Addr->Prop)(ω:Addr->Option Nat)(h:Heap):List Nat->List Value->List SV->Prop
 | i::is,v::vs,y::ys=>cC G O ω h i (some v) y/\eG G O ω h is vs ys
 | [],[],[]=>True
 | _,_,_=>False
inductive OwnsPost(G:Glo)(env:Env)(sc:Scope)(ctx:List (Option Str))(A:Around)(O:Addr->Prop)(ω:Addr->Option Nat)(ρ:List SV)(s:Shared)(is:List Nat)(ys:List SV)(vs:List Value)(s':Shared):Prop where
 | mk (O':Addr->Prop) (ω':Addr->Option Nat) (g:Grow O ω s O' ω' s') (C:Cond G env sc ctx A O' ω' ρ s') (r:eG G O' ω' s'.heap is vs ys):OwnsPost G env sc ctx A O ω ρ s is ys vs s'
theorem wd(wf:G.Wf)(hF:∀F∈Φ,aN G F):∀(es:List (Bool × IX)) (slots:List Nat) (xs:List Expr) (O:Addr->Prop) (ω:Addr->Option Nat) (s:Shared),ke Φ es sc ctx xs=true->slots.length=es.length->Cond G env sc ctx A O ω ρ s->aJ (re Φ es) A->rf Φ es ρ ->
 wpAny (model G.prog G.w) A (spliced (xs.map fun a=>(false,eval a env))) (OwnsPost G env sc ctx A O ω ρ s slots (es.map fun p=>oU (Φ:=Φ) p ρ)) E s
 | [],[],[],O,ω,s,_,_,C,_,_=>Calls.spliced_nil ⟨O,ω,Grow.of (br s),C,trivial⟩
 | [],[],x::xs,_,_,_,hc,_,_,_,_=>absurd hc Kr
 | [],_::_,_,_,_,_,_,hl,_,_,_=>nomatch hl
 | _::_,[],_,_,_,_,_,hl,_,_,_=>nomatch hl
 | _::_,_::_,[],_,_,_,hc,_,_,_,_=>absurd hc Kr
 | (o,e)::es,i::slots,x::xs,O,ω,s,hc,hl,C,R,hp=>by
  replace hc:((!o||kc e)&&chk Φ e sc ctx x&&ke Φ es sc ctx xs)=true:=hc
  simp only[cF,ji,jR]at hc
  have head:wpAny (model G.prog G.w) A (eval x env) (OwnPost G env sc ctx A O ω ρ s i (oU (Φ:=Φ) (o,e) ρ)) E s:=by
   unfold oU
   cases o with
   | true=>exact wc wf hF (hc.1.1.elim (fun q=>by cases q) id) hc.1.2 C (R.le (aF _ _)) hp.1
   | false=>exact wpAny_mono ((snd wf hF e).ev sc ctx x false env A O ω ρ s E hc.1.2 C (R.le (aF _ _)) hp.1) (fun v s₁ h₁=>⟨O,ω,Grow.of h₁.1,C.keeps wf h₁.1,v,rfl,h₁.2.ff⟩) fun U U x=>x
  refine Calls.spliced_cons (wpAny_mono head (fun v s₁ h₁=>?_) fun U U x=>x)
  obtain⟨O₁,ω₁,g₁,C₁,r₁⟩:=h₁
  refine wpAny_mono (wd wf hF es slots xs O₁ ω₁ s₁ hc.2 (by simpa using hl) C₁ (R.le (aj _ _)) hp.2) (fun vs s₂ h₂=>?_) fun U U x=>x
  obtain⟨O₂,ω₂,g₂,C₂,r₂⟩:=h₂
  exact⟨O₂,ω₂,g₁.trans g₂,C₂,g₂.rep wf C₁.base r₁,r₂⟩
noncomputable def dA(ρ:List SV)(l:List (Nat × SV)):List SV:=l.foldl (fun ρ p=>ρ.set p.1 p.2) ρ
theorem we:∀(l:List (Nat × SV)) (ρ:List SV) (i:Nat) (x:SV),i∉l.map (·.1)->(dA ρ l).set i x=dA (ρ.set i x) l
 | [],_,_,_,_=>rfl
 | p::l,ρ,i,x,h=>by
  simp only[aH,aa,not_or]at h
  show(dA (ρ.set p.1 p.2) l).set i x=dA ((ρ.set i x).set p.1 p.2) l
  rw[we l _ i x h.2,List.set_comm _ _ h.1]
theorem CO(ρ:List SV)(l m:List (Nat × SV)):dA ρ (l++m)=dA (dA ρ l) m:=List.foldl_append
theorem wg:∀(l:List (Nat × SV)) (ρ:List SV),(l.map (·.1)).Nodup->dA ρ l.reverse=dA ρ l
 | [],_,_=>rfl
 | p::l,ρ,h=>by
  simp only[aH,b8]at h
  rw[List.reverse_cons,CO,wg l ρ h.2]
  exact we l ρ p.1 p.2 h.1
structure ST where
 f:Value->Sem Unit
 i:Nat
 x:Str
 v:Value
 y:SV
theorem rg(wf:G.Wf)(hsto:∀i,bu env ctx i):∀(l:List ST) (ρ:List SV) (s:Shared) (Q:Unit->Shared->Prop),(∀q∈l,ctx[q.i]? = some (some q.x)/\aS sc q.x=true/\cC G O ω s.heap q.i (some q.v) q.y /\
 ∀(v:Value) (s:Shared) (Q:Unit->Shared->Prop) (E:Value->Shared->Prop),wpAny (model G.prog G.w) A (storeName env q.x v) Q E s->wpAny (model G.prog G.w) A (q.f v) Q E s) ->
 Cond G env sc ctx A O ω ρ s->(∀s',KM (a9 env) s s'->Cond G env sc ctx A O ω (dA ρ (l.map fun q=>(q.i,q.y))) s'->Q () s')->wpAny (model G.prog G.w) A (assignInOrder (l.map (·.f)) (l.map (·.v))) Q E s
 | [],ρ,s,Q,_,C,h=>wpAny_pure (h s (KM.of (br s)) C)
 | q::l,ρ,s,Q,hl,C,h=>by
  refine eq (hl q ag) fun h1 h2 h3 h4=>?_
  show wpAny _ A (holding _ (q.f q.v) >>= fun U=>assignInOrder (l.map (·.f)) (l.map (·.v))) Q E s
  refine wpAny_bind (wpAny_holding (h4 _ _ _ _ (dJ wf (hsto q.i) C h1 h2 h3 fun s₁ k C₁=>?_)))
  refine rg wf hsto l _ s₁ Q (fun q' hq'=>?_) C₁ fun s₂ k₂ C₂=>h s₂ (k.trans k₂) C₂
  refine eq (hl q' (ar _ hq')) fun g1 g2 g3 g4=>?_
  refine⟨g1,g2,g3.at wf C.base fun b o hb e=>k.get b o (fun z=>?_) e,g4⟩
  rcases hb with hb | hb
  ·exact(C.om b _ hb).2 z.store
  ·exact hb (C.fr b z)
theorem wi{t:Addr}{vs:Array Value}{n m:Nat}{Q:List Value->Shared->Prop}(ok:Okay A O s)(ht:IsT s.heap t vs m)(hn:vs.size=n)(h:∀s',Keeps s s'->Q vs.toList s'):wpAny (model G.prog G.w) A (unpackItems (.ref t) n none) Q E s:=by
 have hT:s.heap.IsTuple t vs:=⟨_,ht,rfl,m,rfl⟩
 have hlt:=Heap.lt_size ht
 have hI:s.heap.objs.size∉hfp A:=fun q=>aI _ (ok.hlt _ q)
 have W:=vr (prog:=G.prog) (w:=G.w) (A:=A) s.heap.objs.size t (cK hlt) hI vs
 unfold unpackItems
 refine wpAny_bind ?_
 unfold notIterableAtAll
 refine wpAny_bind (wpAny_specialOf hT.typeIs F.slot_tuple_iter.lookup (wpAny_pure ?_))
 rw[if_neg Kr]
 refine wpAny_bind (wpAny_holding (wpAny_pyIter_tuple hT ?_))
 have hst:(Heap.IsTupleIter (s.heap.push { cls:=.type "tuple_iterator",data:=.fields #[.ref t,.int 0 0] }) s.heap.objs.size t 0/\(s.heap.push { cls:=.type "tuple_iterator",data:=.fields #[.ref t,.int 0 0] }).IsTuple t vs)/\aX A (s.heap.push { cls:=.type "tuple_iterator",data:=.fields #[.ref t,.int 0 0] }) :=
  ⟨⟨⟨_,Heap.get?_push_size _ rfl,rfl,rfl⟩,oC hT fun o e=>Heap.get?_push_of_some _ e⟩,ok.hok.mono fun b o e=>Heap.get?_push_of_some _ e⟩
 refine wpAny_bind (wpAny_holding (vG W n 0 _ _ hst (by lia) fun ws h₁ t₁ hl hv st₁ k₁=>?_))
 rw[if_neg (by lia)]
 rw[jj,<- hn]at st₁
 refine wpAny_bind (wpAny_holding (W.done _ _ _ st₁ fun h₂ t₂ k₂=>?_))
 simp only[Option.isSome_none,lp,if_false]
 have e:ws=vs.toList:=by
  refine List.ext_getElem (by rw[hl,cj,hn]) fun j h1 h2=>?_
  have:=hv j ws[j] (bk h1)
  rw[jj]at this
  have h3:j<vs.size:=by rw[hn,<- hl];exact h1
  rw[Array.getElem?_eq_getElem h3]at this
  simpa using(Option.some.inj this).symm
 refine wpAny_pure (e▸h _ ⟨h₂,t₂,rfl,fun b o e=>?_⟩)
 have hb:b∉[s.heap.objs.size]:=fun q=>by
  rw[ai.mp q]at e
  exact aI _ (Heap.lt_size e)
 exact k₂ b o hb (k₁ b o hb (Heap.get?_push_of_some _ e))
end
noncomputable def kg:Expr->Str
 | .Name x _=>x
 | _=>Str.empty
theorem wj{g:Expr->Option Str}(hg:∀e y,g e=some y->y=kg e):∀(ts:List Expr),(ts.filterMap g).length=ts.length->ts.filterMap g=ts.map kg
 | [],_=>rfl
 | e::r,h=>by
  have hle:(r.filterMap g).length<=r.length:=List.length_filterMap_le _ r
  rw[nQ]at h ⊢
  cases ho:g e with
  | none =>
   rw[ho]at h
   simp only[cZ]at h
   lia
  | some y =>
   rw[ho]at h
   simp only[cZ]at h
   dsimp only
   rw[wj hg r (by lia),hg e y ho];rfl
noncomputable def iT(vs:List Expr):Bool:=!(vs.all (constantsAlone 8))||vs.all (foldedForSure 8)
theorem CP{y:Str}{P:Prop}(h:(none:Option Str)=some y):P:=nomatch h
noncomputable def rh(L:List Str)(r:Sem (Option (List Str))):Prop:=r=pure none\/r=pure (some L)
theorem oV{L:List Str}{b:Sem (Option (List Str))}{c:Bool}(h:c=false->rh L b):rh L (if c=true then pure none else b):=by
 cases c with
 | true=>exact .inl rfl
 | false=>exact h rfl
theorem CQ{ts vs:List Expr}{k k':Nat}{p p':Pos}{env:Env}(h:iT vs=true) :
 rh (ts.map kg) (swappedStores [.Tuple ts k p] (.Tuple vs k' p') env):=by
 unfold swappedStores
 dsimp only
 refine oV fun U=>oV fun U=>oV fun hn=>oV fun hf=>?_
 have hc:(vs.all (constantsAlone 8))=false:=by
  unfold iT at h
  rw[hf]at h
  simpa using h
 rw[hc,if_neg Kr]
 right
 replace hn:=bne_eq_false_iff_eq.mp (Bool.or_eq_false_iff.mp hn).1
 show(pure (some _):Sem _)=_
 congr 2
 refine wj (fun e y h=>?_) ts hn
 cases e<;>first | exact CP h | skip
 dsimp only at h
 split at h
 ·cases h;rfl
 ·cases h
section
variable{G:Glo}{Φ:List FEntry}
noncomputable def lU(Φ:List FEntry)(slots:List Nat)(es:List (Bool × IX)):Prim where
 chk sc ctx st:=eS st fun t v U=>gO t fun ts U U=>gO v fun vs U U=>eD sc ctx slots ts&&ke Φ es sc ctx vs&&iT vs&&decide slots.Nodup&&decide (slots.length=es.length)
 k:=re Φ es
 pre ρ:=rf Φ es ρ/\es.length<=16777216
 den ρ:=(.next,dA ρ (slots.zip (es.map fun p=>oU (Φ:=Φ) p ρ)))
structure MkST(G:Glo)(env:Env)(sc:Scope)(ctx:List (Option Str))(A:Around)(O:Addr->Prop)(ω:Addr->Option Nat)(h:Heap)(sw:Bool)(slots:List Nat)(ts:List Expr)(vs:List Value)(ys:List SV)(l:List ST):Prop where
 f:l.map (·.f)=if sw=true then(ts.map kg).map fun n=>bindName env n else(assignEach ts env).map (·.2)
 v:l.map (·.v)=vs
 z:l.map (fun q=>(q.i,q.y))=slots.zip ys
 lv:vs.length=slots.length
 lt:ts.length=slots.length
 ok:∀q∈l,ctx[q.i]? = some (some q.x)/\aS sc q.x=true/\cC G O ω h q.i (some q.v) q.y /\
  ∀(v:Value) (s:Shared) (Q:Unit->Shared->Prop) (E:Value->Shared->Prop),wpAny (model G.prog G.w) A (storeName env q.x v) Q E s->wpAny (model G.prog G.w) A (q.f v) Q E s
theorem kh{env:Env}{sc:Scope}{ctx:List (Option Str)}{A:Around}{O:Addr->Prop}{ω:Addr->Option Nat}{h:Heap}(sw:Bool):∀ {slots:List Nat} {ts:List Expr} {vs:List Value} {ys:List SV},eD sc ctx slots ts=true->eG G O ω h slots vs ys->∃l,MkST G env sc ctx A O ω h sw slots ts vs ys l
 | [],[],[],[],_,_=>⟨[],by cases sw<;>rfl,rfl,rfl,rfl,rfl,fun q hq=>nomatch hq⟩
 | [],_::_,_,_,hc,_=>absurd hc Kr
 | _::_,[],_,_,hc,_=>absurd hc Kr
 | [],[],_::_,_,_,hv=>hv.elim
 | [],[],[],_::_,_,hv=>hv.elim
 | _::_,_::_,[],_,_,hv=>hv.elim
 | _::_,_::_,_::_,[],_,hv=>hv.elim
 | i::is,t::ts,v::vs,y::ys,hc,hv=>by
  have hx:∃x p,t=.Name x p/\ctx[i]? = some (some x)/\aS sc x=true/\eD sc ctx is ts=true:=by
   refine aO (show((cf t fun x U=>ctx[i]? == some (some x)&&aS sc x)&&eD sc ctx is ts)=true from hc) fun h1 h2=>?_
   exact eR (P:=fun t=>∃x p,t=.Name x p/\ctx[i]? = some (some x)/\aS sc x=true/\eD sc ctx is ts=true) h1 fun x p h=>aO h fun h3 h4=>⟨_,_,rfl,eq_of_beq h3,h4,h2⟩
  refine x24 hx fun x p e2 h1 h2 h3=>?_;subst e2
  refine x11 (kh (env:=env) (A:=A) sw h3 hv.2) fun l m=>?_
  refine⟨⟨if sw=true then fun v=>bindName env x v else assign (.Name x p) env,i,x,v,y⟩::l,?_,congrArg (v::·) m.v,congrArg ((i,y)::·) m.z,congrArg (· + 1) m.lv,congrArg (· + 1) m.lt,fun q hq=>?_⟩
  ·have:=m.f
   cases sw<;>exact congrArg (_::·) this
  ·rcases aa.mp hq with rfl | hq
   ·refine⟨h1,h2,hv.1,fun u s Q E h=>?_⟩
    cases sw with
    | true=>exact wpAny_bindName h
    | false=>exact wpAny_assign_Name h
   ·exact m.ok q hq
theorem eG.keeps{O:Addr->Prop}{ω:Addr->Option Nat}{s s':Shared}(wf:G.Wf)(B:G.Base O s.heap)(k:Keeps s s'):∀ {slots:List Nat} {vs:List Value} {ys:List SV},eG G O ω s.heap slots vs ys->eG G O ω s'.heap slots vs ys
 | [],[],[],h=>h
 | i::is,v::vs,y::ys,h=>⟨h.1.keeps wf B k,eG.keeps wf B k h.2⟩
 | [],_::_,_,h=>h.elim
 | [],[],_::_,h=>h.elim
 | _::_,[],_,h=>h.elim
 | _::_,_::_,[],h=>h.elim
theorem wk:∀(es:List (Bool × IX)) {sc:Scope} {ctx:List (Option Str)} {xs:List Expr},ke Φ es sc ctx xs=true->∀a∈xs,du a=true
 | [],_,_,[],_,a,h=>nomatch h
 | [],_,_,x::xs,h,_,_=>absurd h Kr
 | _::_,_,_,[],h,_,_=>absurd h Kr
 | p::es,_,_,x::xs,h,a,ha=>by
  replace h:((!p.1||kc p.2)&&chk Φ p.2 _ _ x&&ke Φ es _ _ xs)=true:=h
  simp only[cF]at h
  rcases aa.mp ha with rfl | ha
  ·exact eZ p.2 h.1.2
  ·exact wk es h.2 a ha
theorem ri{env:Env}{sc:Scope}{ctx:List (Option Str)}{A:Around}{ρ:List SV}{s:Shared}{E:Value->Shared->Prop}{slots:List Nat}{ts vs:List Expr}{k k':Nat}{p p' pos:Pos}{Q:Flow->Shared->Prop}(wf:G.Wf)(hsto:∀i,bu env ctx i)
 (hn:eD sc ctx slots ts=true) (hst:∀a∈vs,du a=true) (hsafe:iT vs=true) (hnd:slots.Nodup)
 (hev:wpAny (model G.prog G.w) A (spliced (vs.map fun a=>(false,eval a env))) (fun us s₁=>∃O₁ ω₁ ys,slots.length=ys.length/\us.length<=16777216/\Cond G env sc ctx A O₁ ω₁ ρ s₁/\eG G O₁ ω₁ s₁.heap slots us ys /\
  ∀s',KM (a9 env) s₁ s'->Cond G env sc ctx A O₁ ω₁ (dA ρ (slots.zip ys)) s'->Q .next s') E s):wpAny (model G.prog G.w) A (exec (.Assign [.Tuple ts k p] (.Tuple vs k' p') pos) env) Q E s:=by
 rw[exec_Assign_arm]
 refine wpAny_bind (wpAny_standAt ?_)
 rw[show swapsWithSole [.Tuple ts k p] (.Tuple vs k' p') pos.line env=pure false from rfl]
 refine wpAny_bind (wpAny_pure ?_)
 rw[if_neg Kr]
 refine wpAny_bind (wpAny_Tuple ?_)
 rw[gV _ hst,ju]
 refine wpAny_mono hev (fun us s₁ h₁=>?_) fun U U x=>x
 refine x35 h₁ fun O₁ ω₁ ys hlen hsz C₁ r₁ hQ=>?_
 have hul:us.length=slots.length:=(kh (A:=A) (env:=env) true hn r₁).elim fun U m=>m.lv
 refine⟨hsz,?_⟩
 have kt:Keeps s₁ { s₁ with heap:=s₁.heap.push { cls:=.type "tuple",data:=.seq us.toArray } }:=bt _
 have hT:IsT (s₁.heap.push { cls:=.type "tuple",data:=.seq us.toArray }) s₁.heap.objs.size us.toArray 0:=IsT.new _ _
 generalize hs2:({ s₁ with heap:=s₁.heap.push { cls:=.type "tuple",data:=.seq us.toArray } }:Shared)=s₂ at kt
 rw[show s₁.heap.push { cls:=.type "tuple",data:=.seq us.toArray }=s₂.heap from by rw[<- hs2]]at hT
 generalize s₁.heap.objs.size=t at hT ⊢
 clear hs2
 have C₂:=C₁.keeps wf kt
 have fin:∀(sw rv:Bool) s₃,Keeps s₂ s₃->∀(T:List (Value->Sem Unit)),
  T=(if rv=true then List.reverse else id) (if sw=true then(ts.map kg).map fun n=>bindName env n else(assignEach ts env).map (·.2))->wpAny (model G.prog G.w) A (assignInOrder T ((if rv=true then List.reverse else id) us)) (fun U s'=>Q .next s') E s₃:=by
  intro sw rv s₃ k3 T hT
  have C₃:=C₂.keeps wf k3
  have K:=aQ kt k3
  refine x11 (kh (env:=env) (A:=A) sw hn (r₁.keeps wf C₁.base K)) fun l m=>?_
  rw[<- m.f]at hT
  subst hT
  cases rv with
  | false =>
   have:=rg (E:=E) (A:=A) wf hsto l ρ s₃ (fun U s'=>Q .next s') m.ok C₃ fun s' k C'=>hQ s' ((KM.of K).trans k) (m.z▸C')
   rw[m.v]at this;exact this
  | true =>
   have hmap:((slots.zip ys).map (·.1)).Nodup:=by rw[List.map_fst_zip (cI hlen)];exact hnd
   have:=rg (E:=E) (A:=A) wf hsto l.reverse ρ s₃ (fun U s'=>Q .next s') (fun q hq=>m.ok q (dY.mp hq)) C₃ fun s' k C'=>hQ s' ((KM.of K).trans k) (by
    rw[List.map_reverse,m.z,wg _ _ hmap]at C';exact C')
   rw[List.map_reverse (f:=ST.v),List.map_reverse (f:=ST.f),m.v]at this;exact this
 have hsz2:us.toArray.size=slots.length:=by rw[jX];exact hul
 rcases CQ (ts:=ts) (k:=k) (p:=p) (k':=k') (p':=p') (env:=env) hsafe with hs | hs
 ·rw[hs]
  refine wpAny_bind (wpAny_pure ?_)
  show wpAny _ A (assignAll (.ref t) [assign (.Tuple ts k p) env] >>= fun U=>pure Flow.next) _ _ _
  refine wpAny_bind ?_
  show wpAny _ A (assign (.Tuple ts k p) env (.ref t)) _ _ _
  refine ak (vH (env:=env) slots ts hn) fun h1 h2=>?_
  rw[arm_assign_Tuple]
  refine wpAny_bind (wpAny_standAt ?_)
  unfold unpack
  rw[h1,h2]
  refine wpAny_bind (wpAny_holding (wi C₂.ok hT hsz2 fun s₃ k3=>?_))
  exact wpAny_mono (fin false false s₃ k3 _ rfl) (fun U U q=>wpAny_pure q) fun U U x=>x
 ·rw[hs]
  refine wpAny_bind (wpAny_pure ?_)
  unfold assignStores
  refine wpAny_bind (wpAny_rule ?_)
  have hl2:(ts.map kg).length=slots.length:=by rw[af];exact(kh (A:=A) (env:=env) true hn r₁).elim fun U m=>m.lt
  rw[hl2]
  refine wpAny_bind (wi C₂.ok hT hsz2 fun s₃ k3=>?_)
  exact wpAny_bind (wpAny_mono (fin true true s₃ k3 _ (List.map_reverse ..)) (fun U U q=>wpAny_pure q) fun U U x=>x)
theorem rj{X:Bool}(slots:List Nat)(es:List (Bool × IX))(wf:G.Wf)(hF:∀F∈Φ,aN G F):c9 G X (lU Φ slots es):=by
 intro sc ctx st env A O ω ρ s E Q hc hsto C hX R hp hQ
 refine u7 (P:=fun st=>wpAny (model G.prog G.w) A (exec st env) Q E s) hc fun ts k p vs k' p' pos hc=>?_
 refine ge hc fun hn he hsafe hnd hlen=>?_
 have hlen:=of_decide_eq_true hlen
 refine ri (ρ:=ρ) wf hsto hn (wk es he) hsafe (of_decide_eq_true hnd) (wpAny_mono (wd wf hF es slots vs O ω s he hlen C R hp.1) (fun us s₁ h₁=>?_) fun U U x=>x)
 obtain⟨O₁,ω₁,g₁,C₁,r₁⟩:=h₁
 refine⟨O₁,ω₁,_,by rw[af];exact hlen,?_,C₁,r₁,fun s' k C'=>hQ O₁ ω₁ s' .next ((g₁.step (Ff:=Fz X A) (env:=env)).trans C.ok.obs (Step.frame k)) C' rfl⟩
 exact(kh (A:=A) (env:=env) true hn r₁).elim fun U m=>by rw[m.lv,hlen];exact hp.2
noncomputable def rk(Φ:List FEntry)(i:Nat)(e:IX):Prim where
 chk sc ctx st:=eS st fun t v U=>cf t fun x U=>ctx[i]? == some (some x)&&aS sc x&&kc e&&chk Φ e sc ctx v
 k:=kx Φ e
 pre ρ:=pre Φ e false ρ
 den ρ:=(.next,ρ.set i (.own (den Φ e ρ)))
theorem wl{X:Bool}(i:Nat)(e:IX)(wf:G.Wf)(hF:∀F∈Φ,aN G F):c9 G X (rk Φ i e):=by
 intro sc ctx st env A O ω ρ s E Q hc hsto C hX R hp hQ
 refine ot (P:=fun st=>wpAny (model G.prog G.w) A (exec st env) Q E s) hc fun x p v pos hc=>?_
 refine fA hc fun hi hk hl hv=>?_
 have hi:=eq_of_beq hi
 have hsw:swapsWithSole [.Name x p] v pos.line env=pure false:=by
  refine x11 (wb hl) fun es e1=>?_;subst e1
  exact nZ (P:=fun v=>swapsWithSole [.Name x p] v pos.line env=pure false) hv fun U U U=>rfl
 refine wpAny_Assign_stores (wpAny_mono (wc (i:=i) wf hF hl hv C R hp) (fun u s₁ h₁=>?_) fun U U x=>x) hsw rfl
 obtain⟨O₁,ω₁,g₁,C₁,r₁⟩:=h₁
 show wpAny _ A (assign (.Name x p) env u) _ _ s₁
 exact wpAny_assign_Name (dJ wf (hsto i) C₁ hi hk r₁ fun s' k C'=>hQ O₁ ω₁ s' .next ((g₁.step (env:=env)).trans C.ok.obs (Step.frame k)) C' rfl)
end
theorem wn{kindOf:Str->Option NameKind}:∀(binds:List (Str × Value)) (m cm:Str->Option Value) (x:Str),x∉binds.map (·.1)->bindL kindOf binds m x=m x/\bindC kindOf binds cm x=cm x
 | [],_,_,_,_=>⟨rfl,rfl⟩
 | (n,v)::r,m,cm,x,h=>by
  simp only[aH,aa,not_or]at h
  unfold bindL bindC
  refine ak (wn (kindOf:=kindOf) r (if kindOf n=some .local then fun y=>if y=n then some v else m y else m) (if kindOf n=some .local then cm else fun y=>if y=n then some v else cm y) x h.2) fun h1 h2=>?_
  rw[h1,h2]
  split
  ·exact⟨if_neg h.1,rfl⟩
  ·exact⟨rfl,if_neg h.1⟩
theorem wo{kindOf:Str->Option NameKind}:∀(binds:List (Str × Value)) (m cm:Str->Option Value) (x:Str) (v:Value),(binds.map (·.1)).Nodup->(x,v)∈binds ->
 (kindOf x=some .local->bindL kindOf binds m x=some v)/\(kindOf x≠some .local->bindC kindOf binds cm x=some v)
 | (n,u)::r,m,cm,x,v,hn,hm=>by
  simp only[aH,b8]at hn
  unfold bindL bindC
  rcases aa.mp hm with e | hm
  ·cases e
   have h:=fun m cm=>wn (kindOf:=kindOf) r m cm _ hn.1
   constructor
   ·intro hk;rw[(h _ cm).1,if_pos hk];simp
   ·intro hk;rw[(h m _).2,if_neg hk];simp
  ·exact wo r _ _ x v hn.2 hm
structure FnSc(sc:Scope)(names vars:List Str):Prop where
 kind:sc.kind=.function
 co:sc.isCoroutine=false
 gen:sc.isGenerator=false
 nd:(sc.names.map (·.1)).Nodup
 vnd:vars.Nodup
 nofree:∀x,(x,NameKind.free)∉sc.names
 var:∀x∈vars,sc.names.lookup x=some .local\/sc.names.lookup x=some .cell
 pfx:vars.take names.length=names
noncomputable def rm(sc:Scope)(names vars:List Str):Bool :=
 sc.kind==ScopeKind.function&&!sc.isCoroutine&&!sc.isGenerator&&decide (sc.names.map (·.1)).Nodup&&decide vars.Nodup&&(sc.names.all fun p=>p.2 != NameKind.free)&&(vars.all fun x=>sc.names.lookup x==some NameKind.local||sc.names.lookup x==some NameKind.cell)&&vars.take names.length==names
theorem FnSc.of{sc:Scope}{names vars:List Str}(h:rm sc names vars=true):FnSc sc names vars:=by
 unfold rm at h
 simp only[cF,decide_eq_true_eq,beq_iff_eq,aU,ji,bne_iff_ne,ne_eq,jR]at h
 refine ak h fun z0 h8=>?_;refine ak z0 fun z0 h7=>?_;refine ak z0 fun z0 h6=>?_;obtain⟨⟨⟨⟨h1,h2⟩,h3⟩,h4⟩,h5⟩:=z0
 exact⟨h1,h2,h3,h4,h5,fun x hx=>h6 _ hx rfl,h7,h8⟩
theorem CR{vs:List Value}:∀ {names:List Str} {i:Nat} {x:Str} {v:Value},names[i]? = some x->vs[i]? = some v->(x,v)∈names.zip vs:=by
 intro names i x v h1 h2
 have:(names.zip vs)[i]? = some (x,v):=by rw[List.getElem?_zip_eq_some];exact⟨h1,h2⟩
 exact aE this
noncomputable def ck(vars:List Str)(ys:List SV):List SV:=ys++a7 (vars.length - ys.length) .un
noncomputable def aY(vars:List Str)(ds:List PyData):List SV:=ck vars (ds.map .dat)
noncomputable def lV(G:Glo)(O:Addr->Prop)(h:Heap)(v:Value)(y:SV):Prop:=(∃d,y=.dat d/\Rep O h v d)\/y=.val v
section
variable{G:Glo}{Φ:List FEntry}
theorem oW{A:Around}{s s₁:Shared}{O:Addr->Prop}{fd:FuncData}{a:Addr}{names vars:List Str}{vs:List Value}{ys:List SV}(sc:FnSc fd.scope names vars)(hg:fd.globals=mainGlobals)(hb:fd.builtins=builtinsNs)
 (ok:Okay A O s) (B:G.Base O s.heap) (r:∀(i:Nat) (v:Value) (y:SV),vs[i]? = some v->ys[i]? = some y->lV G O s.heap v y) (hvl:vs.length=names.length) (hl:ys.length=names.length)
 (x:InCallC s (callEnvC fd s.heap.objs.size a).locals (bindL (callEnvC fd s.heap.objs.size a).kindOf (names.zip vs) fun U=>none) (callEnvC fd s.heap.objs.size a).cells
  (bindC (callEnvC fd s.heap.objs.size a).kindOf (names.zip vs) fun U=>none) s₁) :
 ∃O',(∀b,O b->O' b)/\(∀b,O' b->O b\/s.heap.get? b=none)/\(∀b,aT (callEnvC fd s.heap.objs.size a) b->s.heap.get? b=none)/\(∀i,bu (callEnvC fd s.heap.objs.size a) (vars.map some) i)/\Cond G (callEnvC fd s.heap.objs.size a) fd.scope (vars.map some) (A.deeper (callEnvC fd s.heap.objs.size a)) O' (fun U=>none) (ck vars ys) s₁/\Keeps s s₁:=by
 generalize henv:callEnvC fd s.heap.objs.size a=env at x
 have hLv:env.locals=s.heap.objs.size:=by rw[<- henv];rfl
 have hcells:env.cells=cellsFrom (s.heap.objs.size+1) fd.scope.names []:=by rw[<- henv];rfl
 have hsc:env.scope=fd.scope:=by rw[<- henv];rfl
 have hko:∀y,env.kindOf y=fd.scope.names.lookup y:=fun y=>by unfold Env.kindOf;rw[hsc]
 have hnle:names.length<=vars.length:=by
  have:=congrArg List.length sc.pfx
  rw[List.length_take]at this
  exact ae (cI this.symm) (Nat.min_le_right ..)
 have hnn:names.Nodup:=by rw[<- sc.pfx];exact sc.vnd.sublist (List.take_sublist _ _)
 have hzip:((names.zip vs).map (·.1))=names:=List.map_fst_zip (by rw[hvl];exact aL _)
 have k:Keeps s s₁:=by
  refine x21 x.toInCall.same fun h t e2=>?_;subst e2
  exact⟨h,t,rfl,x.toInCall.keep⟩
 have fresh:∀b,@LE.le Nat _ s.heap.objs.size b->s.heap.get? b=none:=fun b hb=>by
  cases e:s.heap.get? b with
  | none=>rfl
  | some o=>exact absurd (Heap.lt_size e) (cy.mpr hb)
 have hcn:∀y c,env.cells.lookup y=some c->(y,NameKind.cell)∈fd.scope.names/\@LT.lt Nat _ s.heap.objs.size c:=fun y c e=>by
  rw[hcells,gY,c5]at e
  have:=eF (dY.mp (mem_of_lookup e))
  exact⟨this.2,this.1⟩
 have hck:∀y,fd.scope.names.lookup y=some .cell->∃c,env.cells.lookup y=some c:=fun y e=>by
  refine x11 (iL (n:=s.heap.objs.size+1) (mem_of_lookup e)) fun c hc=>?_
  refine x11 (iK (dY.mpr hc)) fun c' hc'=>?_
  rw[hcells,gY,c5]
  exact⟨c',hc'⟩
 let O':Addr->Prop:=fun b=>O b\/b=env.locals\/∃y,env.cells.lookup y=some b
 have hO2:∀b,O' b->O b\/s.heap.get? b=none:=fun b q=>by
  rcases q with q | rfl | ⟨y,q⟩
  ·exact .inl q
  ·exact .inr (fresh _ (by rw[hLv];exact aL _))
  ·exact .inr (fresh _ (Nat.le_of_lt (hcn y b q).2))
 have hO3:∀b,O' b->∃o,s₁.heap.get? b=some o:=fun b q=>by
  rcases q with q | rfl | ⟨y,q⟩
  ·refine x11 (ok.obs b q) fun o e=>?_;exact⟨o,al k b o e⟩
  ·refine x32 x.toInCall.ns fun o U U e U=>?_;exact⟨o,e⟩
  ·refine x12 (x.cell y b q) fun o e U=>?_;exact⟨o,e⟩
 have hFs:∀b,a9 env b->b=env.locals\/∃y,env.cells.lookup y=some b:=fun b q=>by
  rcases q with q | ⟨_,y,_,q⟩
  ·exact .inl q
  ·exact .inr ⟨y,q⟩
 refine⟨O',fun b q=>.inl q,hO2,fun b q=>?_,fun i y c h1 h2 h3=>?_,⟨⟨hsc,sc.kind,by rw[<- henv];exact hg,by rw[<- henv];exact hb,fun y hy=>absurd (mem_of_lookup hy) (sc.nofree y),fun y z c h1 h2=>name_of_addr x.apart (mem_of_lookup h1) (mem_of_lookup h2),fun y c e=>.inl (iJ sc.nd (hcn y c e).1)⟩,
  ⟨fun i j y h1 h2=>?_,fun i y h=>?_⟩,?_,⟨(ok.hok.mono (al k):aX A s₁.heap),fun b hb q=>?_,hO3⟩,⟨fun b o e=>al k b o (B.kp b o e),fun b q=>?_⟩,fun b q=>.inr (hFs b q),fun y c e=>.inr (.inr ⟨y,e⟩),fun b i e=>by simp at e,
  fun y=>if env.kindOf y=some .local then bindL env.kindOf (names.zip vs) (fun U=>none) y else bindC env.kindOf (names.zip vs) (fun U=>none) y,⟨⟨_,x.toInCall.ns,fun y hy=>?_⟩,fun y hy=>?_⟩,fun i y hy=>?_⟩,k⟩
 ·rcases q with rfl | ⟨y,q⟩
  ·exact fresh _ (by rw[hLv];exact aL _)
  ·exact fresh _ (Nat.le_of_lt (hcn y b q).2)
 ·rw[hLv];exact(hcn y c h3).2
 ·rw[bX]at h1 h2
  have f:∀i:Nat,Option.map some vars[i]? = some (some y)->vars[i]? = some y:=fun i h=>by
   cases e:vars[i]? with
   | none=>rw[e]at h;cases h
   | some z=>rw[e]at h;simpa using h
  exact qR sc.vnd (f i h1) (f j h2)
 ·rw[bX]at h
  have:y∈vars:=by
   cases e:vars[i]? with
   | none=>rw[e]at h;cases h
   | some z=>rw[e]at h;simp at h;subst h;exact aE e
  rcases sc.var y this with q | q
  ·exact .inl q
  ·exact .inr (.inl q)
 ·simp only[ck,bb,af,List.length_replicate];exact Nat.add_sub_cancel' (hl▸hnle)
 ·rcases hO2 b q with q | q
  ·exact ok.hno b hb q
  ·refine x11 (ok.hok.there b hb) fun o e=>?_
   rw[q]at e;cases e
 ·rcases hO2 b q with q | q
  ·exact B.off b q
  ·cases e:G.hB.get? b with
   | none=>rfl
   | some o=>rw[B.kp b o e]at q;cases q
 ·rw[if_pos hy]
 ·have hy':fd.scope.names.lookup y=some .cell:=by
   rw[hko]at hy
   rcases hy with hy | hy
   ·exact hy
   ·exact absurd (mem_of_lookup hy) (sc.nofree y)
  refine x11 (hck y hy') fun c hc=>?_
  refine⟨c,hc,?_⟩
  rw[if_neg (by rw[hko,hy'];decide)]
  exact x.cell y c hc
 ·rw[bX]at hy
  have hyv:vars[i]? = some y:=by
   cases e:vars[i]? with
   | none=>rw[e]at hy;cases hy
   | some z=>rw[e]at hy;simpa using hy
  by_cases hi:i<names.length
  ·have hyn:names[i]? = some y:=by
    rw[<- sc.pfx,List.getElem?_take_of_lt hi];exact hyv
   obtain⟨y',hd⟩:∃y',ys[i]? = some y':=⟨_,bk (hl.symm▸hi)⟩
   obtain⟨v,hv⟩:∃v,vs[i]? = some v:=⟨_,bk (hvl.symm▸hi)⟩
   have rv:=r i v y' hv hd
   have hm:=wo (kindOf:=env.kindOf) (names.zip vs) (fun U=>none) (fun U=>none) y v (by rw[hzip];exact hnn) (CR hyn hv)
   have hval:(if env.kindOf y=some .local then bindL env.kindOf (names.zip vs) (fun U=>none) y else bindC env.kindOf (names.zip vs) (fun U=>none) y)=some v:=by
    split
    ·rename_i h;exact hm.1 h
    ·rename_i h;exact hm.2 h
   have hrho:(ck vars ys).getD i .un=y':=by
    unfold ck
    rw[aq,List.getElem?_append_left (hl.symm▸hi),hd];rfl
   rw[hrho]
   rcases rv with⟨d,rfl,rv⟩ | rfl
   ·refine⟨v,hval,rv.mono (fun b o U e=>al k b o e) fun b o e q=>?_⟩
    rcases hO2 b q with q | q
    ·exact q
    ·rw[q]at e;cases e
   ·exact hval
  ·have hrho:(ck vars ys).getD i .un=.un:=by
    unfold ck
    rw[aq,fs (hl▸cy.mp hi),lh]
    split<;>rfl
   rw[hrho];trivial
theorem oX{O:Addr->Prop}{h:Heap}{vs:List Value}{ds:List PyData}(r:RepL O h vs ds):∀(i:Nat) (v:Value) (y:SV),vs[i]? = some v->(ds.map SV.dat)[i]? = some y->lV G O h v y:=by
 intro i v y hv hy
 rw[bX]at hy
 refine x12 (r.get hv) fun d hd rd=>?_
 rw[hd]at hy
 cases hy
 exact .inl ⟨d,rfl,rd⟩
theorem CS(wf:G.Wf)(hF:∀F∈Φ,aN G F)(S:SX)(hP:de G false S)(F:FEntry){a:Addr}{o:Obj}{fd:FuncData}{body:List Stmt}{names vars:List Str}
 (e1:G.mg F.name=some (.ref a)) (e2:G.K.lookup a=some o) (hd:o.data=.func fd) (hbody:fd.body=.stmts body) (hclo:fd.closure=[]) (hg:fd.globals=mainGlobals) (hb:fd.builtins=builtinsNs)
 (hcode:G.hB.CodeRec fd.code fd.qualname) (sc:FnSc fd.scope names vars)
 (hbind:∀vs:List Value,vs.length=names.length->bindArgs fd ⟨vs,[]⟩=pure (names.zip vs))
 (hchk:bW Φ S fd.scope (vars.map some) body=true) (hk:kS Φ S+1<=F.k)
 (hpre:∀ds,F.pre ds->ds.length=names.length/\aM Φ S (aY vars ds)/\(av Φ S (aY vars ds)).1=.ret (F.val ds)):aN G F:=by
 refine⟨a,o,fd,e1,e2,hd,fun A s O vs ds E R ok B r hp=>?_⟩
 refine cN (hpre ds hp) fun h1 h2 h3=>?_
 have hvl:vs.length=names.length:=by rw[r.length,h1]
 have hnn:names.Nodup:=by rw[<- sc.pfx];exact sc.vnd.sublist (List.take_sublist _ _)
 have hsub:∀y∈names,y∈vars:=fun y hy=>by rw[<- sc.pfx]at hy;exact nK hy
 refine wpAny_call (codeAny_call_cells (binds:=names.zip vs) (show A.depth<1000 from R.fits (aW _)) (B.kp a o (wf.K a o e2)) hd (wf.lim.keeps B.kp) (hcode.keeps B.kp) hbody (hbind vs hvl) hclo (fun x hx=>?_) (fun s₁ x=>?_) sc.co sc.gen sc.kind)
 ·have hm:x.1∈names:=by
   obtain⟨y,v⟩:=x
   exact(List.of_mem_zip hx).1
  rcases sc.var x.1 (hsub _ hm)with q | q
  ·exact .inl q
  ·refine .inr ⟨q,?_⟩
   refine x11 (iL (n:=s.heap.objs.size+1) (mem_of_lookup q)) fun c hc=>?_
   refine x11 (iK (dY.mpr hc)) fun c' hc'=>?_
   rw[gY,c5,hc'];rfl
 ·refine x16 (oW (G:=G) (A:=A) (ys:=ds.map .dat) sc hg hb ok B (oX r) hvl (by simp[h1]) x) fun O' hO U hFs hsto C k=>?_
  refine oS wf hF S hP fd.scope (vars.map some) body _ _ O' _ _ s₁ _ _ hchk hsto C (fun q=>by cases q) (R.deeper hk) h2 fun O'' ω'' s' fl st C' hf=>?_
  rw[show(av Φ S (ck vars (ds.map SV.dat))).1=.ret (F.val ds)from h3]at hf
  refine x12 hf fun v e1 rv=>?_;subst e1
  have hnw:∀b,MO (callEnvC fd s.heap.objs.size a) (fun U=>none) b->s.heap.get? b=none:=fun b q=>by
   rcases q with q | ⟨i,q⟩
   ·exact hFs b q.store
   ·cases q
  exact⟨((st.km.mono (fun U q=>q) (fun U q=>Bool.noConfusion q.1)).km).keeps k hnw,rv.weak fun b q=>st.o1 b (hO b q) fun i z=>by cases z⟩
structure FnInfo(G:Glo)(a:Addr)(fd:FuncData)(body:List Stmt)(names vars:List Str):Prop where
 at_:∃o,G.K.lookup a=some o/\o.data=.func fd
 hbody:fd.body=.stmts body
 hclo:fd.closure=[]
 hg:fd.globals=mainGlobals
 hb:fd.builtins=builtinsNs
 hcode:G.hB.CodeRec fd.code fd.qualname
 sc:FnSc fd.scope names vars
theorem kj{a:Addr}{fd:FuncData}{body:List Stmt}{names vars:List Str}{vs:List Value}{ys:List SV}{args:List Value}{A:Around}{s:Shared}{O:Addr->Prop}{R:Result->Shared->Prop}(wf:G.Wf)(FI:FnInfo G a fd body names vars)
 (ok:Okay A O s) (B:G.Base O s.heap) (hr:∀(i:Nat) (v:Value) (y:SV),vs[i]? = some v->ys[i]? = some y->lV G O s.heap v y) (hvl:vs.length=names.length) (hyl:ys.length=names.length) (hroom:A.depth<1000)
 (hbind:bindArgs fd ⟨args,[]⟩=pure (names.zip vs))
 (h:∀env O' s₁,Keeps s s₁->(∀b,O b->O' b)->(∀b,O' b->O b\/s.heap.get? b=none)->(∀b,aT env b->s.heap.get? b=none)->(∀i,bu env (vars.map some) i)->Cond G env fd.scope (vars.map some) (A.deeper env) O' (fun U=>none) (ck vars ys) s₁ ->
  ∀E Qf,(∀v s',R (.ok (.ret v)) s'->Qf (.ret v) s')->(∀s',R (.ok (.ret .none)) s'->Qf .next s')->wpAny (model G.prog G.w) (A.deeper env) (execs body env) Qf E s₁) :
 codeAny (model G.prog G.w) A (.call (.ref a) ⟨args,[]⟩) R s:=by
 refine x12 FI.at_ fun o e2 hd=>?_
 have sc:=FI.sc
 have hsub:∀y∈names,y∈vars:=fun y hy=>by rw[<- sc.pfx]at hy;exact nK hy
 refine codeAny_call_cells (binds:=names.zip vs) (by show A.depth<1000;exact hroom) (B.kp a o (wf.K a o e2)) hd (wf.lim.keeps B.kp) (FI.hcode.keeps B.kp) FI.hbody hbind FI.hclo (fun x hx=>?_) (fun s₁ x=>?_) sc.co sc.gen sc.kind
 ·have hm:x.1∈names:=by
   obtain⟨y,v⟩:=x
   exact(List.of_mem_zip hx).1
  rcases sc.var x.1 (hsub _ hm)with q | q
  ·exact .inl q
  ·refine .inr ⟨q,?_⟩
   refine x11 (iL (n:=s.heap.objs.size+1) (mem_of_lookup q)) fun c hc=>?_
   refine x11 (iK (dY.mpr hc)) fun c' hc'=>?_
   rw[gY,c5,hc'];rfl
 ·refine x16 (oW (G:=G) (A:=A) (ys:=ys) sc FI.hg FI.hb ok B hr hvl hyl x) fun O' hO hO2 hSt hsto C k=>?_
  exact h _ O' s₁ k hO hO2 hSt hsto C _ _ (fun U U q=>q) fun U q=>q
end
end
section
open PySem PySem.W PyProof.Rows PySem.Spec PySem.SeqAt PySem.Calls Builtin Builtin.ObjectAttr Builtin.Getset_descriptor
section
variable{prog:Program}{w:World}{A:Around}{E:Value->Shared->Prop}{R:Result->Shared->Prop}{s:Shared}{K:Frag}{x C dx:Addr}{es:List DictEntry}{n:Nat}{name:Str}{v:Value}
theorem wp{h:Heap}{a:Addr}{o:Obj}{f:Obj->Obj}(e:h.get? a=some o)(hf:(f o).isFreed=false):(h.update a f).get? a=some (f o):=Heap.get?_update_self _ e hf
set_option tactic.hygienic true in
theorem CT{ox:Obj}{tk:Tok}(X:K.In s.heap)(I:InstAt s.heap x ox C (some (dictOf es n)))(hd:ox.dict=some dx)(hp:plainOver K C=true)(ht:takerIn K C name=some none)(hh:(clsIn K C).any (·.hasDict)=true)
 (hl:(getL name es).isSome=true) (hz:es.length<=999)
 (h:∀h',Heap.SameBut dx s.heap h'->h'.get? dx=some (dictOf (putL name (PyData.keyHash w.params name) (.str name s.toks) v es) (putN name es n))->R (.ok (.ret .none)) { s with heap:=h',toks:=s.toks+1 }) :
 codeAny (model prog w) A (.call (.builtin "object.__setattr__") ⟨[.ref x,.str name tk,v],[]⟩) R s:=by
 refine osa_open X I hp ht fun b=>?_
 refine x12 (any_some hh) fun cd hc hd'=>?_
 have D:s.heap.get? dx=some (dictOf es n):=by
  have:=I.dict
  rw[hd]at this
  exact this
 have e:=putName_dict name (PyData.keyHash w.params name) (.str name s.toks) v es n
 have D':(s.heap.update dx (Obj.putName name (PyData.keyHash w.params name) (.str name s.toks) v)).get? dx=some (dictOf (putL name (PyData.keyHash w.params name) (.str name s.toks) v es) (putN name es n)):=by
  rw[wp D (by rw[e];rfl),e]
 obtain⟨hx,hcl,hn,-⟩:=I
 obtain⟨oc,odi,oda,osl⟩:=ox
 dsimp only at hcl hd
 subst hcl hd
 refine wpAny_bind (wpAny_pure (wpAny_bind (wpAny_bind (wpAny_loadPart hx (wpAny_bind ((looks_clsIn X hc).here ?_))))))
 rw[hd']
 refine wpAny_pure (a:=some dx) (wpAny_bind (wpAny_pure (wpAny_bind ?_)))
 unfold nsSet
 refine wpAny_bind (wpAny_bind (wpAny_askSetting (wpAny_pure (wpAny_bind (wpAny_mkText (wpAny_bind (wpAny_loadPart D ?_)))))))
 dsimp only[dictOf]
 have c:(!(es.toArray).any (·.key.isStr name)&&(es.toArray).any (·.refKey))=false:=by
  rw[<- Array.any_toList,<- Array.any_toList]
  unfold getL at hl
  split at hl
  ·rename_i en he
   rw[cM.mpr ⟨en,List.mem_of_find?_eq_some he,List.find?_some he⟩];rfl
  ·split at hl
   ·cases hl
   ·rename_i z;rw[Bool.not_eq_true]at z
    show(_&&es.any (·.refKey))=false
    rw[z,Bool.and_false]
 rw[aRefKeyMayBeTheName_at,c]
 refine wpAny_updatePart D ?_
 have len:∀(hsh:Int) (key v:Value) (es:List DictEntry),(putL name hsh key v es).length<=es.length+1:=by
  intro hsh key v es
  induction es with
  | nil=>exact aL _
  | cons e r ih =>
   unfold putL
   split
   ·simp
   ·simpa using ih
 refine wpAny_bind (wpAny_lookBehind D' (pastItsLine_dict (by
  have:=len (PyData.keyHash w.params name) (.str name s.toks) v es
  rw[jX,sizeLine_eq];lia)) ?_)
 exact wpAny_pure (h _ (Heap.SameBut.update ..) D')
theorem wq{ox:Obj}{Q:Unit->Shared->Prop}(X:K.In s.heap)(I:InstAt s.heap x ox C (some (dictOf es n)))(hd:ox.dict=some dx)
 (hs:findIn K (.ref C) "__setattr__" = some (some (.builtin "object.__setattr__"))) (hp:plainOver K C=true) (ht:takerIn K C name=some none) (hh:(clsIn K C).any (·.hasDict)=true)
 (hl:(getL name es).isSome=true) (hz:es.length<=999)
 (h:∀h',Heap.SameBut dx s.heap h'->h'.get? dx=some (dictOf (putL name (PyData.keyHash w.params name) (.str name (s.toks+1)) v es) (putN name es n))->Q () { s with heap:=h',toks:=s.toks+2 }) :
 wpAny (model prog w) A (setAttr (.ref x) name v) Q E s :=
 set_plain X I hs (CT (s:={ s with toks:=s.toks+1 }) X I hd hp ht hh hl hz fun h' h1 h2=>h h' h1 h2)
theorem CU{ox:Obj}{od:Option Obj}{p i:Nat}(X:K.In s.heap)(I:InstAt s.heap x ox C od)(hp:slotIn K p C=some i)(hi:i<1000)
 (hf:({ ox with slots:=(ox.slots++pR (i+1 - ox.slots.size) none).setIfInBounds i (some v) }:Obj).isFreed=false)
 (h:∀h',Heap.SameBut x s.heap h'->h'.get? x=some { ox with slots:=(ox.slots++pR (i+1 - ox.slots.size) none).setIfInBounds i (some v) }->R (.ok (.ret .none)) { s with heap:=h' }) :
 codeAny (model prog w) A (.call (.builtin "member_descriptor.__set__") ⟨[.ref p,.ref x,v],[]⟩) R s:=by
 obtain⟨n,tn,owner,behind,tb,d,sl,cd,ho,hc,hm,hb,rfl⟩:=slot_of X hp
 have D':=wp (f:=fun o=>{ o with slots:=(o.slots++pR (cd.slotNames.length - 1 - behind.toNat+1 - o.slots.size) none).setIfInBounds (cd.slotNames.length - 1 - behind.toNat) (some v) }) I.at_ hf
 obtain⟨hh,g,dr,t,os⟩:=s
 have L0:=I.type (M:=model prog w)
 have L1:=looks_mroIn (M:=model prog w) X hm
 have L2:Looks (model prog w) hh (Slots.slotNamesOf (.ref C)) cd.slotNames:=(looks_clsIn X hc).andThen .now
 have hx:=I.at_
 dsimp only at ho hx L0 L1
 have f0:=looks_field (M:=model prog w) ho 0 (v:=.str n tn) rfl
 have f1:=looks_field (M:=model prog w) ho 1 (v:=owner) rfl
 have f3:=looks_field (M:=model prog w) ho 3 (v:=.builtin "proto.slot#set") rfl
 have f4:=looks_field (M:=model prog w) ho 4 (v:=.int behind tb) rfl
 refine codeAny_call_builtin KF.slot_mset.plain KF.entry_mset (KF.slot_mset.check _ _ _ _ _ _ _ _ ⟨_,ho,rfl⟩ (KF.args_mset _ _ _) ?_)
 unfold Builtin.«member_descriptor.__set__» descrSet descrStoreThrough descrCheckInstance descrNameAndClass isInstance
 have f5:Looks (model prog w) hh (descrItself (.ref p)) [.ref p]:=((Looks.ld (part:=none) ho).andThen .now).andThen (Looks.of_pure (by kernel_rfl))
 repeat lk
 refine⟨Code.quiet_builtin _ (by decide +kernel),codeAny_builtin KF.entry_slotset ?_⟩
 unfold Builtin.«proto.slot#set» Slots.target
 repeat lk
 rw[if_neg hb]
 refine wpAny_pure (wpAny_bind ?_)
 unfold setSlotAt
 dsimp only
 rw[if_neg (by rw[sizeLine_eq];lia)]
 exact wpAny_updatePart hx (wpAny_pure (h _ (Heap.SameBut.update ..) D'))
theorem wu{ox:Obj}{od:Option Obj}{p i:Nat}{Q:Unit->Shared->Prop}(X:K.In s.heap)(I:InstAt s.heap x ox C od)
 (hs:findIn K (.ref C) "__setattr__" = some (some (.builtin "object.__setattr__"))) (hp:plainOver K C=true) (ht:takerIn K C name=some (some (.ref p))) (hT:typeIn K (.ref p)=some (.type "member_descriptor")) (hi:slotIn K p C=some i) (hz:i<1000)
 (hf:({ ox with slots:=(ox.slots++pR (i+1 - ox.slots.size) none).setIfInBounds i (some v) }:Obj).isFreed=false)
 (h:∀h',Heap.SameBut x s.heap h'->h'.get? x=some { ox with slots:=(ox.slots++pR (i+1 - ox.slots.size) none).setIfInBounds i (some v) }->Q () { s with heap:=h',toks:=s.toks+1 }) :
 wpAny (model prog w) A (setAttr (.ref x) name v) Q E s :=
 set_plain X I hs (osa_descr (s:={ s with toks:=s.toks+1 }) KF.slot_mset X I hp ht hT (CU (s:={ s with toks:=s.toks+1 }) X I hi hz hf fun h' h1 h2=>h h' h1 h2))
theorem CV{expr:Bool}{ox:Obj}{Q:Value->Shared->Prop}{attr:Option Value}(X:K.In s.heap)(I:InstAt s.heap x ox C (some (dictOf es n)))(hg:plainGet K C name=true)(hh:hasDictIn K C=true)
 (ha:findIn K (.ref C) name=some attr) (hn:noGet K attr=true) (hl:getL name es=some (some v)) (hv:handedIn v=true) (h:Q v { s with toks:=s.toks+1 }) :
 wpAny (model prog w) A (getAttr (.ref x) name expr) Q E s :=
 get_value X I (plainGet_of hg).1 (findObj_own hh ha hn hl) hv h
theorem rn{expr:Bool}{ox od:Obj}{p i:Nat}{Q:Value->Shared->Prop}(X:K.In s.heap)(I:InstAt s.heap x ox C (some od))(hg:plainGet K C name=true)(hc:isClsIn K C=true)
 (ha:findIn K (.ref C) name=some (some (.ref p))) (hn:specialIn K (.ref p) "__get__" = some (some (.builtin "member_descriptor.__get__"))) (ht:takesIn K (.ref p)=some true) (hp:slotIn K p C=some i)
 (hv:(ox.slots[i]?).join=some v) (hh:handedIn v=true) (h:Q v { s with toks:=s.toks+1 }):wpAny (model prog w) A (getAttr (.ref x) name expr) Q E s :=
 get_bind X I (plainGet_of hg).1 (findObj_data hc ha hn ht) (plainGet_of hg).2 (wpAny_call (slot_get (s:={ s with toks:=s.toks+1 }) X I hp hv (handed_on hh h)))
end
end
section
open PySem PySem.W PyProof.Rows PySem.Spec PySem.SeqAt PySem.Calls
noncomputable def e8:List Str:=[ofString "_node2info",ofString "_ready_nodes",ofString "_npassedout",ofString "_nfinished"]
noncomputable def dL(K:Frag)(TS:Addr):Bool :=
 makesIn K TS&&hasDictIn K TS&&findIn K (.ref TS) "__setattr__" == some (some (.builtin "object.__setattr__"))&&plainOver K TS &&
 e8.all fun nm=>plainGet K TS nm&&findIn K (.ref TS) nm==some none&&takerIn K TS nm==some none
noncomputable def e9(K:Frag)(NI:Addr):Bool :=
 makesIn K NI&&findIn K (.ref NI) "__setattr__" == some (some (.builtin "object.__setattr__"))&&plainOver K NI&&isClsIn K NI
noncomputable def dh(K:Frag)(NI:Addr)(nm:Str)(p i:Nat):Bool :=
 plainGet K NI nm&&findIn K (.ref NI) nm==some (some (.ref p))&&specialIn K (.ref p) "__get__" == some (some (.builtin "member_descriptor.__get__"))&&takesIn K (.ref p)==some true&&slotIn K p NI==some i &&
 takerIn K NI nm==some (some (.ref p))&&typeIn K (.ref p)==some (.type "member_descriptor")
noncomputable def hA(K:Frag)(TS:Addr)(nm:Str)(f:Addr):Bool:=plainGet K TS nm&&findIn K (.ref TS) nm==some (some (.ref f))&&isFn K (.ref f)&&keepIn K (.ref f)&&fnIn K f
structure NInf where
 key:Int
 a:Addr
 dx:Addr
 sl:Addr
 np:Int
 su:List Int
structure SLay where
 x:Addr
 dx:Addr
 n2i:Addr
 inf:List NInf
 rd:Option (Addr × List Int)
 po:Int
 fi:Int
noncomputable def SLay.rdv(L:SLay):Value:=match L.rd with
 | some (r,_)=>.ref r
 | none=>.none
noncomputable def SLay.infAs(L:SLay):List Addr:=L.inf.flatMap fun f=>[f.a,f.dx,f.sl]
noncomputable def SLay.rdAs(L:SLay):List Addr:=match L.rd with
 | some (r,_)=>[r]
 | none=>[]
noncomputable def SLay.addrs(L:SLay):List Addr:=L.x::L.dx::L.n2i::(L.infAs++L.rdAs)
noncomputable def iU(h1 h2 h3 h4:Int)(t1 t2 t3 t4 t5 t6:Tok)(n2i:Addr)(rdv:Value)(po fi:Int):List DictEntry :=
 [⟨h1,.str (ofString "_node2info") t1,.ref n2i⟩,⟨h2,.str (ofString "_ready_nodes") t2,rdv⟩,⟨h3,.str (ofString "_npassedout") t3,.int po t5⟩,⟨h4,.str (ofString "_nfinished") t4,.int fi t6⟩]
noncomputable def jy(NI:Addr)(f:NInf)(t1 t2:Tok):Obj:={ cls:=.ref NI,dict:=some f.dx,data:=.plain,slots:=#[some (.int f.key t1),some (.int f.np t2),some (.ref f.sl)] }
structure SorAt(prog:Program)(w:World)(L:SLay)(h:Heap):Prop where
 inst:h.get? L.x=some (instObj TS L.dx)
 dict:∃h1 h2 h3 h4 t1 t2 t3 t4 t5 t6 n,h.get? L.dx=some (dictOf (iU h1 h2 h3 h4 t1 t2 t3 t4 t5 t6 L.n2i L.rdv L.po L.fi) n)
 n2i:h.DictOf (intKind prog w) L.n2i (L.inf.map fun f=>(f.key,.ref f.a))
 info:∀f∈L.inf,(∃t1 t2,h.get? f.a=some (jy NI f t1 t2))/\h.get? f.dx=some emptyDict/\∃vs n,IsL h f.sl vs n/\IntsAre vs.toList f.su
 rdy:∀r l,L.rd=some (r,l)->∃vs n,IsL h r vs n/\IntsAre vs.toList l
 nd:L.addrs.Nodup
section
variable{prog:Program}{w:World}{L:SLay}{h h':Heap}
theorem ro{f:NInf}(hf:f∈L.inf):f.a∈L.infAs/\f.dx∈L.infAs/\f.sl∈L.infAs :=
 ⟨cb.mpr ⟨f,hf,by simp⟩,cb.mpr ⟨f,hf,by simp⟩,cb.mpr ⟨f,hf,by simp⟩⟩
theorem lW{f:NInf}(hf:f∈L.inf):f.a∈L.addrs/\f.dx∈L.addrs/\f.sl∈L.addrs:=by
 have:=ro hf
 simp only[SLay.addrs,aa,au]
 exact⟨.inr (.inr (.inr (.inl this.1))),.inr (.inr (.inr (.inl this.2.1))),.inr (.inr (.inr (.inl this.2.2)))⟩
theorem CW{r:Addr}{l:List Int}(e:L.rd=some (r,l)):r∈L.addrs:=by
 simp only[SLay.addrs,aa,au]
 exact .inr (.inr (.inr (.inr (by simp[SLay.rdAs,e]))))
theorem SorAt.keeps(S:SorAt prog w L h)(hk:∀b o,b∈L.addrs->h.get? b=some o->h'.get? b=some o):SorAt prog w L h' where
 inst:=hk _ _ (by simp[SLay.addrs]) S.inst
 dict:=by
  obtain⟨h1,h2,h3,h4,t1,t2,t3,t4,t5,t6,n,e⟩:=S.dict
  exact⟨h1,h2,h3,h4,t1,t2,t3,t4,t5,t6,n,hk _ _ (by simp[SLay.addrs]) e⟩
 n2i:=eU (fun o e=>hk _ o (by simp[SLay.addrs]) e) S.n2i
 info:=fun f hf=>by
  obtain⟨⟨t1,t2,e⟩,e2,vs,n,hl,hi⟩:=S.info f hf
  exact⟨⟨t1,t2,hk _ _ (lW hf).1 e⟩,hk _ _ (lW hf).2.1 e2,vs,n,hk _ _ (lW hf).2.2 hl,hi⟩
 rdy:=fun r l e=>by
  refine x22 (S.rdy r l e) fun vs n hl hi=>?_
  exact⟨vs,n,hk _ _ (CW e) hl,hi⟩
 nd:=S.nd
set_option tactic.hygienic true in
theorem SorAt.there(S:SorAt prog w L h){b:Addr}(hb:b∈L.addrs):∃o,h.get? b=some o:=by
 simp only[SLay.addrs,aa,au]at hb
 rcases hb with rfl | rfl | rfl | hb | hb
 ·exact⟨_,S.inst⟩
 ·obtain⟨h1,h2,h3,h4,t1,t2,t3,t4,t5,t6,n,e⟩:=S.dict;exact⟨_,e⟩
 ·refine x12 (Heap.dictOf_iff.mp S.n2i) fun o e U=>?_;exact⟨o,e⟩
 ·refine x12 (cb.mp hb) fun f hf hb=>?_
  obtain⟨⟨t1,t2,e⟩,e2,vs,n,hl,_⟩:=S.info f hf
  simp only[aa,bz,or_false]at hb
  rcases hb with rfl | rfl | rfl
  ·exact⟨_,e⟩
  ·exact⟨_,e2⟩
  ·exact⟨_,hl⟩
 ·unfold SLay.rdAs at hb
  split at hb
  ·rename_i r l e
   refine x22 (S.rdy r l e) fun vs n hl U=>?_
   rw[ai.mp hb];exact⟨_,hl⟩
  ·cases hb
structure SNe(L:SLay):Prop where
 xd:L.x≠L.dx
 xn:L.x≠L.n2i
 dn:L.dx≠L.n2i
 ix:∀c∈L.infAs,c≠L.x/\c≠L.dx/\c≠L.n2i
 rx:∀c∈L.rdAs,c≠L.x/\c≠L.dx/\c≠L.n2i
 ir:∀c∈L.infAs,∀d∈L.rdAs,c≠d
 ind:L.infAs.Nodup
 rnd:L.rdAs.Nodup
theorem SLay.ne_iff:L.addrs.Nodup↔SNe L:=by
 simp only[SLay.addrs,b8,aa,au,not_or,cD]
 constructor
 ·rintro ⟨⟨a1,a2,a3,a4⟩,⟨b1,b2,b3⟩,⟨c1,c2⟩,d1,d2,d3⟩
  exact⟨a1,a2,b1,fun c h=>⟨fun q=>a3 (q▸h),fun q=>b2 (q▸h),fun q=>c1 (q▸h)⟩,fun c h=>⟨fun q=>a4 (q▸h),fun q=>b3 (q▸h),fun q=>c2 (q▸h)⟩,d3,d1,d2⟩
 ·rintro ⟨a,b,c,d,e,f,g,i⟩
  exact⟨⟨a,b,fun q=>(d _ q).1 rfl,fun q=>(e _ q).1 rfl⟩,⟨c,fun q=>(d _ q).2.1 rfl,fun q=>(e _ q).2.1 rfl⟩,⟨fun q=>(d _ q).2.2 rfl,fun q=>(e _ q).2.2 rfl⟩,g,i,f⟩
theorem CX:handedIn L.rdv=true:=by
 obtain⟨x,dx,n2i,inf,rd,po,fi⟩:=L
 cases rd with
 | none=>rfl
 | some p=>rfl
theorem SorAt.instAt(S:SorAt prog w L h):∃h1 h2 h3 h4 t1 t2 t3 t4 t5 t6 n,h.get? L.dx=some (dictOf (iU h1 h2 h3 h4 t1 t2 t3 t4 t5 t6 L.n2i L.rdv L.po L.fi) n) /\
 InstAt h L.x (instObj TS L.dx) TS (some (dictOf (iU h1 h2 h3 h4 t1 t2 t3 t4 t5 t6 L.n2i L.rdv L.po L.fi) n)):=by
 obtain⟨h1,h2,h3,h4,t1,t2,t3,t4,t5,t6,n,e⟩:=S.dict
 exact⟨h1,h2,h3,h4,t1,t2,t3,t4,t5,t6,n,e,S.inst,rfl,rfl,e⟩
end
section
variable{prog:Program}{w:World}{A:Around}{E:Value->Shared->Prop}{s:Shared}{K:Frag}{L:SLay}{expr:Bool}
theorem oY{nm:Str}(hc:dL K TS=true)(hn:nm∈e8):plainGet K TS nm=true/\findIn K (.ref TS) nm=some none/\takerIn K TS nm=some none/\hasDictIn K TS=true/\findIn K (.ref TS) "__setattr__" = some (some (.builtin "object.__setattr__"))/\plainOver K TS=true:=by
 unfold dL at hc
 simp only[cF,beq_iff_eq,aU]at hc
 refine ak hc fun z0 h5=>?_;refine ak z0 fun z0 h4=>?_;refine ak z0 fun z0 h3=>?_;obtain⟨h1,h2⟩:=z0
 have:=h5 nm hn
 exact⟨this.1.1,this.1.2,this.2,h2,h3,h4⟩
theorem CY:noGet K none=true:=rfl
theorem wv{nm:Str}{v:Value}{Q:Value->Shared->Prop}(X:K.In s.heap)(hc:dL K TS=true)(S:SorAt prog w L s.heap)(hn:nm∈e8)(hv:handedIn v=true)
 (hl:∀h1 h2 h3 h4 t1 t2 t3 t4 t5 t6,getL nm (iU h1 h2 h3 h4 t1 t2 t3 t4 t5 t6 L.n2i L.rdv L.po L.fi)=some (some v)) (h:Q v { s with toks:=s.toks+1 }):wpAny (model prog w) A (getAttr (.ref L.x) nm expr) Q E s:=by
 obtain⟨h1,h2,h3,h4,t1,t2,t3,t4,t5,t6,n,e,I⟩:=S.instAt
 refine fy (oY hc hn) fun f1 f2 f3 f4 f5 f6=>?_
 exact CV X I f1 f4 f2 CY (hl ..) hv h
theorem oZ{Q:Value->Shared->Prop}(X:K.In s.heap)(hc:dL K TS=true)(S:SorAt prog w L s.heap)(h:Q (.ref L.n2i) { s with toks:=s.toks+1 }):wpAny (model prog w) A (getAttr (.ref L.x) (ofString "_node2info") expr) Q E s :=
 wv X hc S (by simp[e8]) rfl (fun U U U U U U U U U U=>rfl) h
theorem wx{Q:Value->Shared->Prop}(X:K.In s.heap)(hc:dL K TS=true)(S:SorAt prog w L s.heap)(h:Q L.rdv { s with toks:=s.toks+1 }):wpAny (model prog w) A (getAttr (.ref L.x) (ofString "_ready_nodes") expr) Q E s :=
 wv X hc S (by simp[e8]) CX (fun U U U U U U U U U U=>rfl) h
theorem SorAt.dxd{h h':Heap}{L':SLay}(S:SorAt prog w L h)(hx:L'.x=L.x)(hd:L'.dx=L.dx)(hn:L'.n2i=L.n2i)(hi:L'.inf=L.inf)(hs:Heap.ExtBut L.dx h h')
 (hdict:∃h1 h2 h3 h4 t1 t2 t3 t4 t5 t6 n,h'.get? L.dx=some (dictOf (iU h1 h2 h3 h4 t1 t2 t3 t4 t5 t6 L.n2i L'.rdv L'.po L'.fi) n)) (hr:∀r l,L'.rd=some (r,l)->∃vs n,IsL h' r vs n/\IntsAre vs.toList l) (nd:L'.addrs.Nodup):SorAt prog w L' h':=by
 have ne:=SLay.ne_iff.mp S.nd
 refine⟨by rw[hx,hd];exact hs _ _ ne.xd S.inst,by rw[hd,hn];exact hdict,by rw[hn,hi];exact eU (fun o e=>hs _ o (Ne.symm ne.dn) e) S.n2i,fun f hf=>?_,hr,nd⟩
 rw[hi]at hf
 obtain⟨⟨t1,t2,e⟩,e2,vs,n,hl,hii⟩:=S.info f hf
 have m:=ro hf
 exact⟨⟨t1,t2,hs _ _ (ne.ix _ m.1).2.1 e⟩,hs _ _ (ne.ix _ m.2.1).2.1 e2,vs,n,hs _ _ (ne.ix _ m.2.2).2.1 hl,hii⟩
theorem CZ{r:Addr}{l:List Int}{Q:Unit->Shared->Prop}(X:K.In s.heap)(hc:dL K TS=true)(S:SorAt prog w L s.heap)(hr:∃vs n,IsL s.heap r vs n/\IntsAre vs.toList l)(hnew:r∉L.x::L.dx::L.n2i::L.infAs)
 (h:∀h',Heap.SameBut L.dx s.heap h'->SorAt prog w { L with rd:=some (r,l) } h'->Q () { s with heap:=h',toks:=s.toks+2 }):wpAny (model prog w) A (setAttr (.ref L.x) (ofString "_ready_nodes") (.ref r)) Q E s:=by
 obtain⟨h1,h2,h3,h4,t1,t2,t3,t4,t5,t6,n,e,I⟩:=S.instAt
 refine fy (oY (nm:=ofString "_ready_nodes") hc (by simp[e8])) fun f1 f2 f3 f4 f5 f6=>?_
 simp only[aa,not_or]at hnew
 refine wq X I rfl f5 f6 f3 f4 rfl (by simp[iU]) fun h' hs hd=>h h' hs (S.dxd rfl rfl rfl rfl hs.extBut ⟨h1,h2,h3,h4,t1,t2,t3,t4,t5,t6,_,hd⟩ (fun r' l' e'=>?_) (SLay.ne_iff.mpr ?_))
 ·cases e'
  refine x22 hr fun vs n hl hi=>?_
  exact⟨vs,n,hs.extBut _ _ hnew.2.1 hl,hi⟩
 ·have ne:=SLay.ne_iff.mp S.nd
  refine⟨ne.xd,ne.xn,ne.dn,ne.ix,fun c hc=>?_,fun c hc d hd=>?_,ne.ind,by simp[SLay.rdAs]⟩
  ·simp only[SLay.rdAs,ai]at hc
   subst hc;exact⟨hnew.1,hnew.2.1,hnew.2.2.1⟩
  ·simp only[SLay.rdAs,ai]at hd
   subst hd;exact fun q=>hnew.2.2.2 (q▸hc)
theorem lX{nm:Str}{p i:Nat}(hn:e9 K NI=true)(hs:dh K NI nm p i=true):plainGet K NI nm=true/\isClsIn K NI=true/\findIn K (.ref NI) nm=some (some (.ref p))/\specialIn K (.ref p) "__get__" = some (some (.builtin "member_descriptor.__get__")) /\
 takesIn K (.ref p)=some true/\slotIn K p NI=some i/\takerIn K NI nm=some (some (.ref p))/\typeIn K (.ref p)=some (.type "member_descriptor")/\findIn K (.ref NI) "__setattr__" = some (some (.builtin "object.__setattr__"))/\plainOver K NI=true:=by
 unfold e9 at hn
 unfold dh at hs
 simp only[cF,beq_iff_eq]at hn hs
 refine ak hn fun z0 a4=>?_;refine ak z0 fun z0 a3=>?_;refine ak z0 fun a1 a2=>?_
 refine ak hs fun z0 b7=>?_;refine ak z0 fun z0 b6=>?_;refine ak z0 fun z0 b5=>?_;obtain⟨⟨⟨b1,b2⟩,b3⟩,b4⟩:=z0
 exact⟨b1,a4,b2,b3,b4,b5,b6,b7,a2,a3⟩
theorem SorAt.infAt{h:Heap}{f:NInf}(S:SorAt prog w L h)(hf:f∈L.inf):∃t1 t2,h.get? f.a=some (jy NI f t1 t2)/\InstAt h f.a (jy NI f t1 t2) NI (some emptyDict):=by
 refine cN (S.info f hf) fun z0 e2 U=>?_;refine x21 z0 fun t1 t2 e=>?_
 exact⟨t1,t2,e,e,rfl,rfl,e2⟩
theorem wy{f:NInf}{p:Addr}{Q:Value->Shared->Prop}(X:K.In s.heap)(hn:e9 K NI=true)(hs:dh K NI (ofString "npredecessors") p 1=true) (S:SorAt prog w L s.heap) (hf:f∈L.inf)
 (h:∀t,Q (.int f.np t) { s with toks:=s.toks+1 }):wpAny (model prog w) A (getAttr (.ref f.a) (ofString "npredecessors") expr) Q E s:=by
 refine x22 (S.infAt hf) fun t1 t2 e I=>?_
 refine lg (lX hn hs) fun b1 a4 b2 b3 b4 b5 b6 b7 a2 a3=>?_
 exact rn X I b1 a4 b2 b3 b4 b5 rfl rfl (h t2)
theorem Da{f:NInf}{p:Addr}{Q:Value->Shared->Prop}(X:K.In s.heap)(hn:e9 K NI=true)(hs:dh K NI (ofString "node") p 0=true) (S:SorAt prog w L s.heap) (hf:f∈L.inf)
 (h:∀t,Q (.int f.key t) { s with toks:=s.toks+1 }):wpAny (model prog w) A (getAttr (.ref f.a) (ofString "node") expr) Q E s:=by
 refine x22 (S.infAt hf) fun t1 t2 e I=>?_
 refine lg (lX hn hs) fun b1 a4 b2 b3 b4 b5 b6 b7 a2 a3=>?_
 exact rn X I b1 a4 b2 b3 b4 b5 rfl rfl (h t1)
theorem wz{f:NInf}{p:Addr}{Q:Value->Shared->Prop}(X:K.In s.heap)(hn:e9 K NI=true)(hs:dh K NI (ofString "successors") p 2=true) (S:SorAt prog w L s.heap) (hf:f∈L.inf)
 (h:Q (.ref f.sl) { s with toks:=s.toks+1 }):wpAny (model prog w) A (getAttr (.ref f.a) (ofString "successors") expr) Q E s:=by
 refine x22 (S.infAt hf) fun t1 t2 e I=>?_
 refine lg (lX hn hs) fun b1 a4 b2 b3 b4 b5 b6 b7 a2 a3=>?_
 exact rn X I b1 a4 b2 b3 b4 b5 rfl rfl h
end
noncomputable def aV(f:NInf):List Addr:=[f.a,f.dx,f.sl]
theorem wA{inf:List NInf}:∀ {i j:Nat} {f g:NInf},(inf.flatMap aV).Nodup->inf[i]? = some f->inf[j]? = some g->i≠j->∀c∈aV f,c∉aV g:=by
 induction inf with
 | nil=>intro i j f g _ h;cases h
 | cons e r ih =>
  intro i j f g hn h1 h2 hij c hc hd
  rw[eM,cD]at hn
  cases i with
  | zero =>
   simp at h1;subst h1
   cases j with
   | zero=>exact hij rfl
   | succ j =>
    simp at h2
    exact hn.2.2 c hc c (cb.mpr ⟨g,aE h2,hd⟩) rfl
  | succ i =>
   simp at h1
   cases j with
   | zero =>
    simp at h2;subst h2
    exact hn.2.2 c hd c (cb.mpr ⟨f,aE h1,hc⟩) rfl
   | succ j =>
    simp at h2
    exact ih hn.2.1 h1 h2 (by lia) c hc hd
theorem wB{inf:List NInf}{f:NInf}(hn:(inf.flatMap aV).Nodup)(hf:f∈inf):(aV f).Nodup:=by
 induction inf with
 | nil=>cases hf
 | cons e r ih =>
  rw[eM,cD]at hn
  rcases aa.mp hf with rfl | hf
  ·exact hn.1
  ·exact ih hn.2.1 hf
theorem wC{β:Type}{g:NInf->β}{f f':NInf}:∀ {inf:List NInf} {k:Nat},inf[k]? = some f->g f'=g f->(inf.set k f').map g=inf.map g
 | e::r,0,h,e'=>by simp at h;subst h;simp[e']
 | e::r,k+1,h,e'=>by
  simp at h
  simp[wC h e']
theorem rq{f f':NInf}(e:aV f'=aV f):∀ {inf:List NInf} {k:Nat},inf[k]? = some f->(inf.set k f').flatMap aV=inf.flatMap aV
 | g::r,0,h=>by simp at h;subst h;simp[e]
 | g::r,k+1,h=>by
  simp at h
  simp[rq e h]
theorem Db{inf:List NInf}{k:Nat}{f' g:NInf}(h:g∈inf.set k f'):g=f'\/∃j,j≠k/\inf[j]? = some g:=by
 refine x11 (mT.mp h) fun j hj=>?_
 rw[List.getElem?_set]at hj
 split at hj
 ·split at hj
  ·left;exact(Option.some.inj hj).symm
  ·cases hj
 ·rename_i hne;exact .inr ⟨j,fun q=>hne q.symm,hj⟩
section
variable{prog:Program}{w:World}{A:Around}{E:Value->Shared->Prop}{s:Shared}{K:Frag}{L:SLay}{expr:Bool}{h h':Heap}
noncomputable def SLay.upd(L:SLay)(k:Nat)(f':NInf):SLay:={ L with inf:=L.inf.set k f' }
theorem SorAt.inf_upd{k:Nat}{f f':NInf}{c:Addr}(S:SorAt prog w L h)(hk:L.inf[k]? = some f)(e1:f'.key=f.key)(e2:aV f'=aV f)(hc:c∈aV f)(hs:Heap.ExtBut c h h')
 (hf:(∃t1 t2,h'.get? f'.a=some (jy NI f' t1 t2))/\h'.get? f'.dx=some emptyDict/\∃vs n,IsL h' f'.sl vs n/\IntsAre vs.toList f'.su):SorAt prog w (L.upd k f') h':=by
 have ne:=SLay.ne_iff.mp S.nd
 have hm:f∈L.inf:=aE hk
 have hci:c∈L.infAs:=cb.mpr ⟨f,hm,hc⟩
 have hx:=ne.ix c hci
 have ea:f'.a=f.a:=by simp only[aV,List.cons.injEq]at e2;exact e2.1
 have hinfAs:(L.upd k f').infAs=L.infAs:=rq e2 hk
 refine⟨hs _ _ hx.1.symm S.inst,?_,?_,fun g hg=>?_,fun r l e=>?_,?_⟩
 ·obtain⟨h1,h2,h3,h4,t1,t2,t3,t4,t5,t6,n,e⟩:=S.dict
  exact⟨h1,h2,h3,h4,t1,t2,t3,t4,t5,t6,n,hs _ _ hx.2.1.symm e⟩
 ·have:(L.upd k f').inf.map (fun f=>(f.key,Value.ref f.a))=L.inf.map fun f=>(f.key,Value.ref f.a):=wC hk (by rw[e1,ea])
  rw[this]
  exact eU (fun o e=>hs _ o hx.2.2.symm e) S.n2i
 ·rcases Db hg with rfl | ⟨j,hj,hg⟩
  ·exact hf
  ·have hgm:g∈L.inf:=aE hg
   obtain⟨⟨t1,t2,e⟩,e2,vs,n,hl,hi⟩:=S.info g hgm
   have ap:∀d∈aV g,d≠c:=fun d hd q=>wA ne.ind hg hk hj d hd (q▸hc)
   exact⟨⟨t1,t2,hs _ _ (ap _ (by simp[aV])) e⟩,hs _ _ (ap _ (by simp[aV])) e2,vs,n,hs _ _ (ap _ (by simp[aV])) hl,hi⟩
 ·refine x22 (S.rdy r l e) fun vs n hl hi=>?_
  exact⟨vs,n,hs _ _ (fun q=>ne.ir c hci r (by simp[SLay.rdAs,(show L.rd=some (r,l)from e)]) q.symm) hl,hi⟩
 ·rw[SLay.ne_iff]
  refine⟨ne.xd,ne.xn,ne.dn,by rw[hinfAs];exact ne.ix,ne.rx,by rw[hinfAs];exact ne.ir,by rw[hinfAs];exact ne.ind,ne.rnd⟩
theorem Dc{k:Nat}{f:NInf}{p:Addr}{m:Int}{t:Tok}{Q:Unit->Shared->Prop}(X:K.In s.heap)(hn:e9 K NI=true)(hs:dh K NI (ofString "npredecessors") p 1=true) (S:SorAt prog w L s.heap) (hk:L.inf[k]? = some f)
 (h:∀h',Heap.SameBut f.a s.heap h'->SorAt prog w (L.upd k { f with np:=m }) h'->Q () { s with heap:=h',toks:=s.toks+1 }):wpAny (model prog w) A (setAttr (.ref f.a) (ofString "npredecessors") (.int m t)) Q E s:=by
 have hm:f∈L.inf:=aE hk
 refine x22 (S.infAt hm) fun t1 t2 e I=>?_
 refine lg (lX hn hs) fun b1 a4 b2 b3 b4 b5 b6 b7 a2 a3=>?_
 obtain⟨_,e2,vs,n,hl,hi⟩:=S.info f hm
 have ne:=SLay.ne_iff.mp S.nd
 have nd:=wB ne.ind hm
 simp only[aV,b8,aa,bz,or_false,not_or]at nd
 refine wu X I a2 a3 b6 b7 b5 (by decide) rfl fun h' hsb hd=>h h' hsb (S.inf_upd hk rfl rfl (by simp[aV]) hsb.extBut ⟨⟨t1,t,?_⟩,hsb.extBut _ _ (fun q=>nd.1.1 q.symm) e2,vs,n,hsb.extBut _ _ (fun q=>nd.1.2 q.symm) hl,hi⟩)
 rw[hd]
 simp[jy]
theorem wD{vs:Array Value}{is:List Int}{i:Int}{t:Tok}(h:IntsAre vs.toList is):IntsAre (vs.push (.int i t)).toList (is++[i]):=by
 rw[Array.toList_push]
 generalize vs.toList=l at h
 induction h with
 | nil=>exact .cons _ _ .nil
 | cons x t' _ ih=>exact .cons _ _ ih
theorem IntsAre.len{vs:List Value}{is:List Int}(h:IntsAre vs is):vs.length=is.length:=by
 induction h with
 | nil=>rfl
 | cons _ _ _ ih=>simp[ih]
theorem Dd{k:Nat}{f:NInf}{i:Int}{t:Tok}{Q:Value->Shared->Prop}(S:SorAt prog w L s.heap)(hk:L.inf[k]? = some f)(hz:f.su.length<=16777216)
 (h:∀h',Heap.SameBut f.sl s.heap h'->SorAt prog w (L.upd k { f with su:=f.su++[i] }) h'->Q .none { s with heap:=h' }):wpAny (model prog w) A (call (.builtin "list.append") [.ref f.sl,.int i t]) Q E s:=by
 have hm:f∈L.inf:=aE hk
 obtain⟨⟨t1,t2,e⟩,e2,vs,n,hl,hi⟩:=S.info f hm
 have ne:=SLay.ne_iff.mp S.nd
 have nd:=wB ne.ind hm
 simp only[aV,b8,aa,bz,or_false,not_or]at nd
 have hsz:=IntsAre.len hi
 rw[cj]at hsz
 refine append_at hl (fun h' hs hD=>h h' hs (S.inf_upd hk rfl rfl (c:=f.sl) (by simp[aV]) hs.extBut ⟨⟨t1,t2,hs.extBut _ _ (fun q=>nd.1.2 q) e⟩,hs.extBut _ _ (fun q=>nd.2.1 q) e2,_,_,hD,wD hi⟩)) (by show vs.size<=sizeLine;rw[hsz];exact hz)
noncomputable def SLay.add(L:SLay)(f:NInf):SLay:={ L with inf:=L.inf++[f] }
theorem SorAt.add{f:NInf}(S:SorAt prog w L h)(hs:Heap.ExtBut L.n2i h h')(hn:h'.DictOf (intKind prog w) L.n2i ((L.inf++[f]).map fun f=>(f.key,.ref f.a)))
 (hf:(∃t1 t2,h'.get? f.a=some (jy NI f t1 t2))/\h'.get? f.dx=some emptyDict/\∃vs n,IsL h' f.sl vs n/\IntsAre vs.toList f.su) (hnew:∀c∈aV f,c∉L.addrs) (hnd:(aV f).Nodup):SorAt prog w (L.add f) h':=by
 have ne:=SLay.ne_iff.mp S.nd
 have hinf:(L.add f).infAs=L.infAs++aV f:=by simp[SLay.add,SLay.infAs,aV]
 have hout:∀c∈aV f,c≠L.x/\c≠L.dx/\c≠L.n2i/\c∉L.infAs/\c∉L.rdAs:=fun c hc=>by
  have:=hnew c hc
  simp only[SLay.addrs,aa,au,not_or]at this
  exact⟨this.1,this.2.1,this.2.2.1,this.2.2.2.1,this.2.2.2.2⟩
 refine⟨hs _ _ ne.xn S.inst,?_,hn,fun g hg=>?_,fun r l e=>?_,?_⟩
 ·obtain⟨h1,h2,h3,h4,t1,t2,t3,t4,t5,t6,n,e⟩:=S.dict
  exact⟨h1,h2,h3,h4,t1,t2,t3,t4,t5,t6,n,hs _ _ ne.dn e⟩
 ·rcases au.mp hg with hg | hg
  ·obtain⟨⟨t1,t2,e⟩,e2,vs,n,hl,hi⟩:=S.info g hg
   have m:=ro hg
   exact⟨⟨t1,t2,hs _ _ (ne.ix _ m.1).2.2 e⟩,hs _ _ (ne.ix _ m.2.1).2.2 e2,vs,n,hs _ _ (ne.ix _ m.2.2).2.2 hl,hi⟩
  ·rw[ai.mp hg];exact hf
 ·refine x22 (S.rdy r l e) fun vs n hl hi=>?_
  exact⟨vs,n,hs _ _ (ne.rx r (by simp[SLay.rdAs,(show L.rd=some (r,l)from e)])).2.2 hl,hi⟩
 ·rw[SLay.ne_iff]
  refine⟨ne.xd,ne.xn,ne.dn,fun c hc=>?_,ne.rx,fun c hc d hd=>?_,?_,ne.rnd⟩
  ·rw[hinf]at hc
   rcases au.mp hc with hc | hc
   ·exact ne.ix c hc
   ·have:=hout c hc;exact⟨this.1,this.2.1,this.2.2.1⟩
  ·rw[hinf]at hc
   rcases au.mp hc with hc | hc
   ·exact ne.ir c hc d hd
   ·exact fun q=>(hout c hc).2.2.2.2 (q▸hd)
  ·rw[hinf,cD]
   exact⟨ne.ind,hnd,fun c hc d hd q=>(hout d hd).2.2.2.1 (q▸hc)⟩
end
section
variable{G:Glo}{env:Env}{sc:Scope}{ctx:List (Option Str)}{A:Around}{O:Addr->Prop}{ω:Addr->Option Nat}{ρ:List SV}{s s':Shared}{E:Value->Shared->Prop}{K:Frag}
theorem fL{i:Nat}{x:Str}{p:Pos}{v:Value}{Q:Value->Shared->Prop}(C:Cond G env sc ctx A O ω ρ s)(hi:ctx[i]? = some (some x))(hd:(x==ofString "__debug__")=false) (hy:ρ.getD i .un=.val v) (h:Q v s):wpAny (model G.prog G.w) A (eval (.Name x p) env) Q E s:=by
 obtain⟨val,F,V⟩:=C.vars
 have:=V i x hi
 rw[hy]at this
 exact wpAny_Name (gk C.eo F this (C.co.kd i x hi) h) hd
theorem di{i:Nat}{x:Str}{p:Pos}{d:PyData}{Q:Value->Shared->Prop}(C:Cond G env sc ctx A O ω ρ s)(hi:ctx[i]? = some (some x))(hd:(x==ofString "__debug__")=false) (hy:ρ.getD i .un=.dat d) (h:∀v,Rep O s.heap v d->Q v s):wpAny (model G.prog G.w) A (eval (.Name x p) env) Q E s:=by
 obtain⟨val,F,V⟩:=C.vars
 have:=V i x hi
 rw[hy]at this
 refine x12 this fun u e r=>?_
 exact wpAny_Name (gk C.eo F e (C.co.kd i x hi) (h u r)) hd
theorem Cond.outer{M:Addr->Prop}(wf:G.Wf)(C:Cond G env sc ctx A O (fun U=>none) ρ s)(k:KM M s s')(hM:∀b,M b->O b)(hS:∀b,M b->¬aT env b):Cond G env sc ctx A O (fun U=>none) ρ s':=by
 obtain⟨val,F,V⟩:=C.vars
 refine C.frame k hM rfl (val:=val) ⟨?_,fun x hx=>?_⟩ fun i x e=>(V i x e).at wf C.base fun b o hb e=>k.get b o (fun q=>?_) e
 ·refine x12 F.loc fun m h1 h2=>?_
  exact⟨m,h1.at' fun o e=>k.get _ o (fun q=>hS _ q (.inl rfl)) e,h2⟩
 ·refine x12 (F.cel x hx) fun c h1 h2=>?_
  exact⟨c,h1,lK h2 fun o e=>k.get _ o (fun q=>hS _ q (.inr ⟨x,h1⟩)) e⟩
 ·rcases hb with hb | hb
  ·cases hb
  ·exact hb (hM b q)
theorem gt{i:Nat}{x nm:Str}{p ap:Pos}{v:Value}{Q:Value->Shared->Prop}(C:Cond G env sc ctx A O ω ρ s)(hi:ctx[i]? = some (some x))(hd:(x==ofString "__debug__")=false) (hy:ρ.getD i .un=.val v)
 (h:wpAny (model G.prog G.w) A (getAttr v nm true) Q E s):wpAny (model G.prog G.w) A (eval (.Attribute (.Name x p) nm ap) env) Q E s:=by
 show wpAny _ A (eval (.Name x p) env >>= fun o=>standAt ap.atName >>= fun U=>holding [o] (getAttr o nm true) >>= fun r=>letTemporaryGo (.Name x p) o r >>= fun U=>pure r) Q E s
 refine wpAny_bind (fL C hi hd hy (wpAny_bind (wpAny_standAt (wpAny_bind (wpAny_holding (wpAny_mono h (fun r s' q=>?_) fun U U e=>e))))))
 exact wpAny_bind (oP (wpAny_pure q))
theorem Glo.Base.inK{h:Heap}(wf:G.Wf)(B:G.Base O h):G.K.In h:=fun a o e=>B.kp a o (wf.K a o e)
noncomputable def aD:Str:=ofString "self"
noncomputable def az:Str:=ofString "node"
noncomputable def wE(P:Nat->Pos):List Stmt:=[.Assign [.Attribute (.Name aD (P 0)) (ofString "node") (P 1)] (.Name az (P 2)) (P 3),.Assign [.Attribute (.Name aD (P 4)) (ofString "npredecessors") (P 5)] (.Constant (.int 0) 0 (P 6)) (P 7),.Assign [.Attribute (.Name aD (P 8)) (ofString "successors") (P 9)] (.List [] (P 10)) (P 11)]
inductive isNIInit(b:List Stmt):Prop where
 | mk (h1:b=wE AE):isNIInit b
structure NiInfo(G:Glo)(fd:FuncData)(body:List Stmt):Prop where
 ni:e9 G.K NI=true
 sN:dh G.K NI (ofString "node") pN 0=true
 sP:dh G.K NI (ofString "npredecessors") pP 1=true
 sS:dh G.K NI (ofString "successors") pS 2=true
 init:findIn G.K (.ref NI) "__init__" = some (some (.ref fI))
 isfn:typeIn G.K (.ref fI)=some (.type "function")
 FI:FnInfo G fI fd body [aD,az] [aD,az]
 bind:∀u v,bindArgs fd ⟨[u,v],[]⟩=pure ([aD,az].zip [u,v])
 bd:isNIInit body
theorem iV{i:Nat}{x nm:Str}{p ap pos:Pos}{ve:Expr}{v:Value}{Q:Flow->Shared->Prop}(hve:swapsWith ve (some (.Attribute (.Name x p) nm ap)) pos.line env=pure false)(hi:ctx[i]? = some (some x))(hd:(x==ofString "__debug__")=false) (hy:ρ.getD i .un=.val v)
 (h:wpAny (model G.prog G.w) A (eval ve env) (fun u s₁=>Cond G env sc ctx A O ω ρ s₁/\wpAny (model G.prog G.w) A (setAttr v nm u) (fun U=>Q .next) E s₁) E s):wpAny (model G.prog G.w) A (exec (.Assign [.Attribute (.Name x p) nm ap] ve pos) env) Q E s :=
 plainObj_wpAny_Assign_Attribute (wpAny_mono h (fun u s₁ h₁=>fL h₁.1 hi hd hy h₁.2) fun U U e=>e) hve
theorem rr{x dx:Addr}{p i:Nat}{nm:Str}{v:Value}{sl:Array (Option Value)}{Q:Unit->Shared->Prop}(wf:G.Wf)(hn:e9 G.K NI=true)(hs:dh G.K NI nm p i=true)(C:Cond G env sc ctx A O (fun U=>none) ρ s)(hx:s.heap.get? x=some { instObj NI dx with slots:=sl })(hdx:s.heap.get? dx=some emptyDict)
 (hxd:x≠dx) (hxO:O x) (hxS:¬aT env x) (hi:sl.size=i) (hi3:i<1000)
 (h:∀s',KM (· = x) s s'->Cond G env sc ctx A O (fun U=>none) ρ s'->s'.heap.get? x=some { instObj NI dx with slots:=sl.push (some v) }->s'.heap.get? dx=some emptyDict->Q () s'):wpAny (model G.prog G.w) A (setAttr (.ref x) nm v) Q E s:=by
 refine lg (lX hn hs) fun b1 a4 b2 b3 b4 b5 b6 b7 a2 a3=>?_
 have I:InstAt s.heap x { instObj NI dx with slots:=sl } NI (some emptyDict):=⟨hx,rfl,rfl,hdx⟩
 have hsl:(sl++pR (i+1 - sl.size) none).setIfInBounds i (some v)=sl.push (some v):=by
  rw[hi,show i+1 - i=1 by lia]
  subst hi
  apply Array.ext'
  simp
 refine wu (C.base.inK wf) I a2 a3 b6 b7 b5 hi3 rfl fun h' hsb hd=>?_
 have hd':h'.get? x=some { instObj NI dx with slots:=sl.push (some v) }:=by rw[hd];dsimp only;rw[hsl]
 have k:KM (· = x) s { s with heap:=h',toks:=s.toks+1 }:=KM.chg hsb.extBut ⟨_,hd'⟩ rfl
 exact h _ k (C.outer wf k (fun b q=>q▸hxO) fun b q=>q▸hxS) hd' (hsb.extBut _ _ (Ne.symm hxd) hdx)
theorem De{fd:FuncData}{body:List Stmt}{k:Int}{t:Tok}(wf:G.Wf)(N:NiInfo G fd body)(ok:Okay A O s)(B:G.Base O s.heap)(hroom:A.depth+10<1000) :
 wpAny (model G.prog G.w) A (call (.ref NI) [.int k t]) (fun v s'=>∃a dx sl t1 t2,v=.ref a/\Keeps s s'/\s.heap.get? a=none/\s.heap.get? dx=none/\s.heap.get? sl=none/\[a,dx,sl].Nodup /\
  s'.heap.get? a=some (jy NI ⟨k,a,dx,sl,0,[]⟩ t1 t2)/\s'.heap.get? dx=some emptyDict/\IsL s'.heap sl #[] 0) E s:=by
 have X:=B.inK wf
 obtain⟨h,g,d,tk,os⟩:=s
 have hmk:makesIn G.K NI=true:=by
  have:=N.ni;unfold e9 at this;simp only[cF]at this;exact this.1.1.1
 refine wpAny_call (make_core (makes_of X hmk) (looks_findIn X N.init) (fun self=>bind_fn X self N.isfn) (.inl rfl) ?_)
 generalize hx:h.objs.size+1=x
 have hdx:((h.push emptyDict).push (instObj NI h.objs.size)).get? h.objs.size=some emptyDict:=Heap.get?_push_of_some _ (Heap.get?_push_size _ rfl)
 have hxx:((h.push emptyDict).push (instObj NI h.objs.size)).get? x=some (instObj NI h.objs.size):=by
  have:((h.push emptyDict).push (instObj NI h.objs.size)).get? (h.push emptyDict).objs.size=some (instObj NI h.objs.size):=Heap.get?_push_size _ rfl
  rw[Heap.size_push]at this
  rw[<- hx];exact this
 generalize hdd:h.objs.size=dx at hdx hxx hx ⊢
 generalize hh2:(h.push emptyDict).push (instObj NI dx)=h2 at hdx hxx ⊢
 have hxd:x≠dx:=by rw[<- hx];exact Nat.succ_ne_self _
 have k02:Keeps ⟨h,g,d,tk,os⟩ ⟨h2,g,d,tk,os⟩:=⟨h2,tk,rfl,fun b o e=>hh2▸Heap.get?_push_of_some _ (Heap.get?_push_of_some _ e)⟩
 have fresh:∀b,@LE.le Nat _ dx b->h.get? b=none:=fun b hb=>by
  cases e:h.get? b with
  | none=>rfl
  | some o=>have:=Heap.lt_size e;rw[hdd]at this;exact absurd this (cy.mpr hb)
 have hx0:h.get? x=none:=fresh x (by rw[<- hx];exact dH _)
 have hd0:h.get? dx=none:=fresh dx (aL _)
 have sz2:dx<h2.objs.size/\x<h2.objs.size:=⟨Heap.lt_size hdx,Heap.lt_size hxx⟩
 have ok2:Okay A (fun b=>O b\/b=x) ⟨h2,g,d,tk,os⟩:=⟨ok.hok.keeps k02,fun b hb q=>q.elim (ok.hno b hb) (fun z=>by
  refine x11 (ok.hok.there b hb) fun o e=>?_
  rw[z]at e
  have e':h.get? x=some o:=e
  rw[hx0]at e';cases e'),fun b q=>by
  rcases q with q | rfl
  ·refine x11 (ok.obs b q) fun o e=>?_;exact⟨o,al k02 b o e⟩
  ·exact⟨_,hxx⟩⟩
 have B2:G.Base (fun b=>O b\/b=x) h2:=⟨fun b o e=>al k02 b o (B.kp b o e),fun b q=>by
  rcases q with q | rfl
  ·exact B.off b q
  ·cases e:G.hB.get? b with
   | none=>rfl
   | some o=>have:h.get? b=some o:=B.kp b o e;rw[hx0]at this;cases this⟩
 refine kj (s:=⟨h2,g,d,tk,os⟩) (O:=fun b=>O b\/b=x) (vs:=[.ref x,.int k t]) (ys:=[.val (.ref x),.dat (.int k)]) (A:=A.under (.builtin "type.__call__" ⟨[.ref NI,.int k t],[]⟩)) wf N.FI ⟨ok2.hok,ok2.hno,ok2.obs⟩ B2 (fun i v y hv hy=>?_) rfl rfl ?_ (N.bind _ _) fun env O' s₁ k1 hO hO2 hSt hsto C E' Qf hret hnx=>?_
 ·match i with
  | 0=>simp at hv hy;subst hv hy;exact .inr rfl
  | 1=>simp at hv hy;subst hv hy;exact .inl ⟨_,rfl,.int _ _⟩
  | n+2=>simp at hv
 ·rw[depth_under_kw];lia
 ·have bd:=N.bd
  obtain⟨hb⟩:=bd
  rw[hb]
  unfold wE
  ·skip
   have hxs:¬aT env x:=fun q=>by have:=hSt x q;rw[show(⟨h2,g,d,tk,os⟩:Shared).heap.get? x=h2.get? x from rfl,hxx]at this;cases this
   have hxO:O' x:=hO x (.inr rfl)
   have hself:([aD,az].map some)[0]? = some (some aD):=rfl
   have hnode:([aD,az].map some)[1]? = some (some az):=rfl
   have hr0:(ck [aD,az] [.val (.ref x),.dat (.int k)]).getD 0 .un=.val (.ref x):=rfl
   have hr1:(ck [aD,az] [.val (.ref x),.dat (.int k)]).getD 1 .un=.dat (.int k):=rfl
   have db1:(aD==ofString "__debug__")=false:=by decide +kernel
   have db2:(az==ofString "__debug__")=false:=by decide +kernel
   refine wpAny_execs_cons (iV rfl hself db1 hr0 (di C hnode db2 hr1 fun v rv=>⟨C,?_⟩))
   refine x11 (fC rv) fun t1 e1=>?_;subst e1
   refine rr wf N.ni N.sN C (sl:=#[]) (al k1 _ _ hxx) (al k1 _ _ hdx) hxd hxO hxs rfl (by decide) fun s₂ k2 C2 hx2 hd2=>?_
   refine wpAny_execs_cons (iV rfl hself db1 hr0 (wpAny_Constant_int ⟨C2.keeps wf (aw _ _),?_⟩))
   refine rr wf N.ni N.sP (C2.keeps wf (aw _ _)) hx2 hd2 hxd hxO hxs rfl (by decide) fun s₃ k3 C3 hx3 hd3=>?_
   refine wpAny_execs_cons (iV rfl hself db1 hr0 (wpAny_List (Calls.spliced_nil ⟨aW _,C3.keeps wf (bt _),?_⟩)))
   have kl:Keeps s₃ { s₃ with heap:=s₃.heap.push { cls:=.type "list",data:=.seq ([]:List Value).toArray } }:=bt _
   refine rr wf N.ni N.sS (C3.keeps wf kl) (al kl _ _ hx3) (al kl _ _ hd3) hxd hxO hxs rfl (by decide) fun s₄ k4 C4 hx4 hd4=>?_
   refine wpAny_execs_nil (hnx _ ⟨rfl,?_⟩)
   have kk:∀b o,b≠x->h2.get? b=some o->s₃.heap.get? b=some o:=fun b o n e=>k3.get b o n (k2.get b o n (al k1 b o e))
   have hsl:IsL s₄.heap s₃.heap.objs.size #[] 0:=k4.get _ _ (fun q=>by
    have:=Heap.lt_size hx3
    rw[q]at this;exact aI _ this) (IsL.new _ _)
   have k2':Keeps ⟨h,g,d,tk,os⟩ s₂:=KM.keeps (aQ k02 k1) k2 fun b q=>by
    have q:b=x:=q
    rw[q];exact hx0
   have k3':Keeps ⟨h,g,d,tk,os⟩ s₃:=KM.keeps (aQ k2' (aw _ _)) k3 fun b q=>by
    have q:b=x:=q
    rw[q];exact hx0
   have k4':Keeps ⟨h,g,d,tk,os⟩ s₄:=KM.keeps (aQ k3' kl) k4 fun b q=>by
    have q:b=x:=q
    rw[q];exact hx0
   have hs0:h.get? s₃.heap.objs.size=none:=by
    cases e:h.get? s₃.heap.objs.size with
    | none=>rfl
    | some o=>exact absurd (Heap.lt_size (al k3' _ _ e)) (aI _)
   have hxs3:x≠s₃.heap.objs.size:=cK (Heap.lt_size hx3)
   have hds3:dx≠s₃.heap.objs.size:=cK (Heap.lt_size hd3)
   exact⟨x,dx,s₃.heap.objs.size,_,_,rfl,k4',hx0,hd0,hs0,by simp[hxd,hxs3,hds3],hx4,hd4,hsl⟩
end
noncomputable def cH:Str:=ofString "result"
noncomputable def kn:Str:=ofString "_node2info"
noncomputable def wF(P:Nat->Pos):List Stmt:=[.If (.Compare (.NamedExpr (.Name cH (P 0)) (.Call (.Attribute (.Attribute (.Name aD (P 1)) kn (P 2)) (ofString "get") (P 3)) [.Name az (P 4)] [] (P 5)) (P 6)) [.Is] [.Constant .none 0 (P 7)] (P 8))
 [.Assign [.Subscript (.Attribute (.Name aD (P 9)) kn (P 10)) (.Name az (P 11)) (P 12),.Name cH (P 13)] (.Call (.Name (ofString "_NodeInfo") (P 14)) [.Name az (P 15)] [] (P 16)) (P 17)] [] (P 18),
 .Return (some (.Name cH (P 19))) (P 20)]
inductive isGetInfo(b:List Stmt):Prop where
 | mk (h1:b=wF bY) (h2:((bY 3).endLine==(bY 5).line)=true):isGetInfo b
noncomputable abbrev Gr:=List (Int × Int × List Int)
noncomputable def SLay.gr(L:SLay):Gr:=L.inf.map fun f=>(f.key,f.np,f.su)
noncomputable def ch(k:Int)(g:Gr):Gr:=if g.any (fun p=>p.1==k)then g else g++[(k,0,[])]
structure LSame(L L':SLay):Prop where
 x:L'.x=L.x
 dx:L'.dx=L.dx
 n2i:L'.n2i=L.n2i
 rd:L'.rd=L.rd
 po:L'.po=L.po
 fi:L'.fi=L.fi
theorem LSame.refl(L:SLay):LSame L L:=⟨rfl,rfl,rfl,rfl,rfl,rfl⟩
theorem LSame.trans{a b c:SLay}(x:LSame a b)(y:LSame b c):LSame a c:=⟨y.x.trans x.x,y.dx.trans x.dx,y.n2i.trans x.n2i,y.rd.trans x.rd,y.po.trans x.po,y.fi.trans x.fi⟩
structure SI(G:Glo):Prop where
 ts:dL G.K TS=true
 N:NiInfo G pU bI
 ni:G.mg (ofString "_NodeInfo")=some (.ref NI)
 keepN:keepIn G.K (.ref NI)=true
 get:hA G.K TS (ofString "_get_nodeinfo") nP=true
 FG:FnInfo G nP iu bG [aD,az] [aD,az,cH]
 bindG:∀u v,bindArgs iu ⟨[u,v],[]⟩=pure ([aD,az].zip [u,v])
 bdG:isGetInfo bG
 glG:bK iu.scope (ofString "_NodeInfo")=true
 sys:∃o,G.hB.get? sysModules=some o
section
variable{G:Glo}{A:Around}{O:Addr->Prop}{s:Shared}{E:Value->Shared->Prop}{L:SLay}
noncomputable abbrev fM(inf:List NInf):List (Int × Value):=inf.map fun f=>(f.key,.ref f.a)
noncomputable abbrev lY(inf:List NInf):Gr:=inf.map fun f=>(f.key,f.np,f.su)
theorem Df{inf:List NInf}{k:Int}:(∃(j:Nat) (f:NInf),inf[j]? = some f/\f.key=k/\valueAt (fM inf) k=some (.ref f.a)/\(lY inf).any (fun p=>p.1==k)=true) \/
 (valueAt (fM inf) k=none/\(lY inf).any (fun p=>p.1==k)=false/\∀v:Value,stored (fM inf) k v=fM inf++[(k,v)]):=by
 induction inf with
 | nil=>right;exact⟨rfl,rfl,fun v=>rfl⟩
 | cons e r ih =>
  have ek:fM (e::r)=(e.key,.ref e.a)::fM r:=rfl
  have eg:lY (e::r)=(e.key,e.np,e.su)::lY r:=rfl
  by_cases h:e.key=k
  ·left
   refine⟨0,e,rfl,h,?_,?_⟩
   ·simp[valueAt,h]
   ·simp[h]
  ·rcases ih with⟨j,f,h1,h2,h3,h4⟩ | ⟨h1,h2,h3⟩
   ·left
    refine⟨j+1,f,by simpa using h1,h2,?_,?_⟩
    ·unfold valueAt at h3 ⊢
     rw[ek,uh]
     simp only[h,decide_false]
     exact h3
    ·rw[eg,List.any_cons,h4,Bool.or_true]
   ·right
    refine⟨?_,?_,fun v=>?_⟩
    ·unfold valueAt at h1 ⊢
     rw[ek,uh]
     simp only[h,decide_false]
     exact h1
    ·rw[eg,List.any_cons,h2];simp[h]
    ·have:=h3 v
     unfold stored at this ⊢
     by_cases q:((fM r).any fun kv=>decide (kv.1=k))=true
     ·rw[if_pos q]at this
      have:=congrArg List.length this
      simp at this
     ·rw[ek,List.any_cons]
      simp only[h,decide_false,Bool.false_or]
      rw[if_neg q]
structure GotInfo(G:Glo)(L:SLay)(s:Shared)(k:Int)(v:Value)(s':Shared)(L':SLay)(j:Nat)(f:NInf):Prop where
 val:v=.ref f.a
 at_:L'.inf[j]? = some f
 key:f.key=k
 sor:SorAt G.prog G.w L' s'.heap
 same:LSame L L'
 gr:L'.gr=ch k L.gr
 km:KM (·∈L.addrs) s s'
 new:∀b∈L'.addrs,b∈L.addrs\/s.heap.get? b=none
 len:L'.inf.length<=L.inf.length+1
theorem wG{f:NInf}{b:Addr}(h:b∈(L.add f).addrs):b∈L.addrs\/b∈aV f:=by
 have hinf:(L.add f).infAs=L.infAs++aV f:=by simp[SLay.add,SLay.infAs,aV]
 simp only[SLay.addrs,aa,au,hinf]at h ⊢
 rcases h with h | h | h | (h | h) | h
 ·exact .inl (.inl h)
 ·exact .inl (.inr (.inl h))
 ·exact .inl (.inr (.inr (.inl h)))
 ·exact .inl (.inr (.inr (.inr (.inl h))))
 ·exact .inr h
 ·exact .inl (.inr (.inr (.inr (.inr h))))
theorem KM.thenFresh{M N:Addr->Prop}{s s' s'':Shared}(x:KM M s s')(y:KM N s' s'')(h:∀b,N b->s.heap.get? b=none):KM M s s'':=by
 obtain⟨h1,t1,rfl,k1,e1⟩:=x
 obtain⟨h2,t2,rfl,k2,e2⟩:=y
 exact⟨h2,t2,rfl,fun b o n e=>k2 b o (fun q=>by rw[h b q]at e;cases e) (k1 b o n e),fun b o e=>(e1 b o e).elim fun o' e'=>e2 b o' e'⟩
theorem ec{s s':Shared}(S:SorAt G.prog G.w L s.heap)(k:Keeps s s'):SorAt G.prog G.w L s'.heap:=S.keeps fun b o U e=>al k b o e
noncomputable abbrev jz:List (Option Str):=[aD,az,cH].map some
theorem Dg{env:Env}{sc:Scope}{O':Addr->Prop}{s₃:Shared}{k:Int}{Q:Flow->Shared->Prop}(wf:G.Wf)(I:SI G)(hglG:bK sc (ofString "_NodeInfo")=true) (hstor:aS sc cH=true) (hsto:bu env jz 2) (hroom:A.depth+10<1000) (hsz:L.inf.length<=10000)
 (db1:(aD==ofString "__debug__")=false) (db2:(az==ofString "__debug__")=false) (S:SorAt G.prog G.w L s.heap) (k13:Keeps s s₃) (hSt:∀b,aT env b->s.heap.get? b=none) (S3:SorAt G.prog G.w L s₃.heap) (hOO:∀b∈L.addrs,O' b) (hFS:∀b∈L.addrs,¬aT env b)
 (C3:Cond G env sc jz A O' (fun U=>none) [.val (.ref L.x),.dat (.int k),.val .none] s₃) (h2:(lY L.inf).any (fun p=>p.1==k)=false) (h3:∀v:Value,stored (fM L.inf) k v=fM L.inf++[(k,v)])
 (h:∀v s' L' j f,Cond G env sc jz A O' (fun U=>none) [.val (.ref L.x),.dat (.int k),.val v] s'->GotInfo G L s k v s' L' j f->Q .next s') :
 wpAny (model G.prog G.w) A (execs [.Assign [.Subscript (.Attribute (.Name aD (bY 9)) kn (bY 10)) (.Name az (bY 11)) (bY 12),.Name cH (bY 13)] (.Call (.Name (ofString "_NodeInfo") (bY 14)) [.Name az (bY 15)] [] (bY 16)) (bY 17)] env) Q E s₃:=by
 refine wpAny_execs_cons (wpAny_Assign_two ?_)
 refine dv (fun a ha=>by rw[ai.mp ha];rfl) (gU wf C3.eo C3.base hglG (by decide +kernel) I.ni ?_)
 refine callWith_of (P:=fun h=>G.K.In h) (fG (env:=env) [.Name az (bY 15)]▸rfl) (keeps_K I.keepN) (Calls.evalArgs_plain (Calls.spliced_cons (di C3 ((rfl:jz[1]? = some (some az))) db2 rfl fun v rv=>Calls.spliced_nil ⟨C3.base.inK wf,?_⟩)))
 refine x11 (fC rv) fun t' e1=>?_;subst e1
 refine wpAny_mono (De wf I.N C3.ok C3.base hroom) (fun v s₄ h4=>?_) fun U U e=>e
 refine x59 h4 fun a dx sl t1 t2 e5 k4 f1 f2 f3 nd o1 o2 o3=>?_;subst e5
 have C4:=C3.keeps wf k4
 have S4:=ec S3 k4
 have k14:=aQ k13 k4
 show wpAny _ _ (holding [.ref a] (eval (.Attribute (.Name aD (bY 9)) kn (bY 10)) env) >>= fun ov=>holding [.ref a,ov] (eval (.Name az (bY 11)) env) >>= fun iv=>standAt (bY 12) >>= fun U=>holding [.ref a,ov,iv] (setItem ov iv (.ref a)) >>= fun U=>release [.ref a,ov,iv] []) _ _ s₄
 refine wpAny_bind (wpAny_holding (gt C4 ((rfl:jz[0]? = some (some aD))) db1 rfl (oZ (C4.base.inK wf) I.ts S4 ?_)))
 have C5:=C4.keeps wf (aw s₄ (s₄.toks+1))
 refine wpAny_bind (wpAny_holding (di C5 ((rfl:jz[1]? = some (some az))) db2 rfl fun v rv=>?_))
 refine x11 (fC rv) fun t'' e1=>?_;subst e1
 have S5:SorAt G.prog G.w L ({ s₄ with toks:=s₄.toks+1 }:Shared).heap:=S4
 refine wpAny_bind (wpAny_standAt (wpAny_bind (wpAny_holding (wpAny_setItem_pairs (intKind_is _ _ _ _) S5.n2i (fun h' hm hs=>wpAny_release ?_) (by rw[af,sizeLine_eq];lia)))))
 rw[show stored (L.inf.map fun f=>(f.key,Value.ref f.a)) k (.ref a)=_ from h3 (.ref a)]at hm
 have notin:∀c,s.heap.get? c=none->c∉L.addrs:=fun c e hc=>by
  refine x11 (S.there hc) fun o q=>?_
  rw[e]at q;cases q
 have none1:∀c,s₃.heap.get? c=none->s.heap.get? c=none:=fun c e=>g9 k13 e
 have hn2:L.n2i∈L.addrs:=by simp[SLay.addrs]
 have ne:∀c,s₃.heap.get? c=none->c≠L.n2i:=fun c e q=>notin c (none1 c e) (q▸hn2)
 have S6:SorAt G.prog G.w (L.add ⟨k,a,dx,sl,0,[]⟩) h':=S4.add hs.extBut (by rw[pI];exact hm)
  ⟨⟨t1,t2,hs.extBut _ _ (ne a f1) o1⟩,hs.extBut _ _ (ne dx f2) o2,#[],0,hs.extBut _ _ (ne sl f3) o3,.nil⟩
  (fun c hc=>by
   simp only[aV,aa,bz,or_false]at hc
   rcases hc with rfl | rfl | rfl
   ·exact notin _ (none1 _ f1)
   ·exact notin _ (none1 _ f2)
   ·exact notin _ (none1 _ f3)) nd
 have km6:KM (· = L.n2i) s₄ { s₄ with heap:=h',toks:=s₄.toks+1+1 }:=by
  refine x12 (Heap.dictOf_iff.mp hm) fun o e U=>?_
  exact KM.chg hs.extBut ⟨o,e⟩ rfl
 have C6:=C4.outer wf km6 (fun b q=>q▸hOO _ hn2) fun b q=>q▸hFS _ hn2
 refine wpAny_assign_Name (dJ (y:=.val (.ref a)) wf hsto C6 (rfl:jz[2]? = some (some cH)) hstor (show some (Value.ref a)=some (.ref a)from rfl) fun s₇ k7 C7=>?_)
 show wpAny _ _ (execs [] env) _ _ _
 refine wpAny_execs_nil (h _ s₇ (L.add ⟨k,a,dx,sl,0,[]⟩) L.inf.length ⟨k,a,dx,sl,0,[]⟩ C7 ⟨rfl,by simp[SLay.add],rfl,?_,⟨rfl,rfl,rfl,rfl,rfl,rfl⟩,?_,?_,fun b hb=>?_,by simp[SLay.add]⟩)
 ·refine S6.keeps fun b o hb e=>k7.get b o (fun q=>?_) e
  rcases wG hb with hb | hb
  ·exact hFS b hb q.store
  ·refine x11 (C3.ok.obs b (C3.store_O q.store)) fun o e=>?_
   simp only[aV,aa,bz,or_false]at hb
   rcases hb with rfl | rfl | rfl
   ·rw[f1]at e;cases e
   ·rw[f2]at e;cases e
   ·rw[f3]at e;cases e
 ·unfold ch
  rw[show L.gr.any (fun p=>p.1==k)=false from h2]
  simp[SLay.add,SLay.gr]
 ·exact((KM.of k14).trans (km6.mono fun b q=>q▸hn2)).thenFresh k7 fun b q=>hSt b q.store
 ·rcases wG hb with hb | hb
  ·exact .inl hb
  ·right
   simp only[aV,aa,bz,or_false]at hb
   rcases hb with rfl | rfl | rfl
   ·exact none1 _ f1
   ·exact none1 _ f2
   ·exact none1 _ f3
theorem Dh{k:Int}{t:Tok}(wf:G.Wf)(I:SI G)(ok:Okay A O s)(B:G.Base O s.heap)(hO:∀b∈L.addrs,O b)(S:SorAt G.prog G.w L s.heap)(hroom:A.depth+20<1000)(hsz:L.inf.length<=10000) :
 wpAny (model G.prog G.w) A (call (.ref nP) [.ref L.x,.int k t]) (fun v s'=>∃L' j f,GotInfo G L s k v s' L' j f) E s:=by
 refine wpAny_call (kj (s:=s) (O:=O) (vs:=[.ref L.x,.int k t]) (ys:=[.val (.ref L.x),.dat (.int k)]) wf I.FG ok B (fun i v y hv hy=>?_) rfl rfl (oG hroom) (I.bindG _ _) fun env O' s₁ k1 hO1 hO2 hSt hsto C E' Qf hret hnx=>?_)
 ·match i with
  | 0=>simp at hv hy;subst hv hy;exact .inr rfl
  | 1=>simp at hv hy;subst hv hy;exact .inl ⟨_,rfl,.int _ _⟩
  | n+2=>simp at hv
 have bd:=I.bdG
 obtain⟨hb,hline⟩:=bd
 rw[hb]
 unfold wF
 have X1:=C.base.inK wf
 have S1:=ec S k1
 have hctx:∀(i:Nat) (x:Str),[aD,az,cH][i]? = some x->([aD,az,cH].map some)[i]? = some (some x):=fun i x e=>by rw[bX,e];rfl
 have db1:(aD==ofString "__debug__")=false:=by decide +kernel
 have db2:(az==ofString "__debug__")=false:=by decide +kernel
 have db3:(cH==ofString "__debug__")=false:=by decide +kernel
 have hstor:aS iu.scope cH=true:=by
  rcases I.FG.sc.var cH (by simp)with q | q<;>simp[aS,q]
 have hFS:∀b∈L.addrs,¬aT env b:=fun b hb q=>by
  refine x11 (S.there hb) fun o e=>?_
  rw[hSt b q]at e;cases e
 have hOO:∀b∈L.addrs,O' b:=fun b hb=>hO1 b (hO b hb)
 have fin:∀(v:Value) (s₃:Shared) (L':SLay) (j:Nat) (f:NInf) (E:Value->Shared->Prop),Cond G env iu.scope ([aD,az,cH].map some) (A.deeper env) O' (fun U=>none) [.val (.ref L.x),.dat (.int k),.val v] s₃->GotInfo G L s k v s₃ L' j f ->
  wpAny (model G.prog G.w) (A.deeper env) (execs [.Return (some (.Name cH (bY 19))) (bY 20)] env) Qf E' s₃:=by
  intro v s₃ L' j f E C3 GI
  refine wpAny_execs_cons (wpAny_Return_some (fL C3 (hctx 2 cH rfl) db3 rfl ?_))
  exact hret _ _ ⟨L',j,f,GI⟩
 have stv:∀(v:Value) (s₂:Shared) (ρ:List SV) (Q:Unit->Shared->Prop) (E:Value->Shared->Prop) (p:Pos),Cond G env iu.scope ([aD,az,cH].map some) (A.deeper env) O' (fun U=>none) ρ s₂->(∀s₃,KM (a9 env) s₂ s₃->Cond G env iu.scope ([aD,az,cH].map some) (A.deeper env) O' (fun U=>none) (ρ.set 2 (.val v)) s₃->Q () s₃) ->
  wpAny (model G.prog G.w) (A.deeper env) (assign (.Name cH p) env v) Q E s₂:=fun v s₂ ρ Q E p C h=>wpAny_assign_Name (dJ (y:=.val v) wf (hsto 2) C (hctx 2 cH rfl) hstor (show some v=some v from rfl) h)
 have n2iO:=S.n2i
 have hsm:(L.n2i==sysModules)=false:=by
  rw[beq_eq_false_iff_ne]
  intro q
  refine x11 I.sys fun o e=>?_
  have:=B.off L.n2i (hO L.n2i (by simp[SLay.addrs]))
  rw[q,e]at this;cases this
 have nd2:∀(s:Shared) (S:SorAt G.prog G.w L s.heap),(∀a,Value.ref L.n2i=.ref a->∃ob,s.heap.get? a=some ob/\ob.dict=none):=fun s S a e=>by
  cases e
  refine x33 S.n2i fun o es ep ho hc U=>?_
  exact⟨o,ho,hc.2.1⟩
 have getcall:∀(Q:Value->Shared->Prop) (E:Value->Shared->Prop),Q ((valueAt (fM L.inf) k).getD .none) { s₁ with toks:=s₁.toks+1+1 } ->
  wpAny (model G.prog G.w) (A.deeper env) (eval (.Call (.Attribute (.Attribute (.Name aD (bY 1)) kn (bY 2)) (ofString "get") (bY 3)) [.Name az (bY 4)] [] (bY 5)) env) Q E s₁:=by
  intro Q E hq
  refine Call_method1 rfl (gZ rfl) hline (gt C (hctx 0 aD rfl) db1 rfl (oZ X1 I.ts S1 ?_))
  have S2:SorAt G.prog G.w L ({ s₁ with toks:=s₁.toks+1 }:Shared).heap:=S1
  refine⟨"dict", "dict.get",F.plainAttrs_dict,F.slot_dict_get,F.type_dict_get,S2.n2i.typeIs,nd2 _ S2,wpAny_dict_get1 (knd:=intKind G.prog G.w) (d:=L.n2i) hsm (di (C.keeps wf (aw _ _)) (hctx 1 az rfl) db2 rfl fun v rv=>?_)⟩
  refine x11 (fC rv) fun t' e1=>?_;subst e1
  exact⟨k,valueAt (fM L.inf),intKind_is _ _ _ _,S2.n2i.mapOf,hq⟩
 refine wpAny_execs_cons (wpAny_If (wpAny_isTrue_Compare1 ?_ rfl))
 rw[arm_eval_NamedExpr]
 refine wpAny_bind (getcall _ _ (wpAny_bind (wpAny_holding (stv _ _ _ _ _ _ (C.keeps wf (aw _ _)) fun s₃ k3 C3=>wpAny_pure (wpAny_Constant_none (is_none ?_))))))
 have S3:SorAt G.prog G.w L s₃.heap:=(ec (s:=s₁) (s':={ s₁ with toks:=s₁.toks+1+1 }) S1 (aw _ _)).keeps fun b o hb e=>k3.get b o (fun q=>hFS b hb q.store) e
 have k13:Keeps s s₃:=KM.keeps (aQ k1 (aw s₁ (s₁.toks+1+1))) k3 fun b q=>hSt b q.store
 rcases Df (inf:=L.inf) (k:=k)with⟨j,f,h1,h2,h3,h4⟩ | ⟨h1,h2,h3⟩
 ·rw[h3]at C3 ⊢
  refine wpAny_truthy_bool ?_
  show wpAny _ _ (execs [] env) _ _ _
  refine wpAny_execs_nil (fin _ s₃ L j f E C3 ⟨rfl,h1,h2,S3,LSame.refl L,?_,KM.of k13,fun b hb=>.inl hb,dH _⟩)
  unfold ch
  rw[show L.gr.any (fun p=>p.1==k)=true from h4];rfl
 ·rw[h1]at C3 ⊢
  refine wpAny_truthy_bool ?_
  show wpAny _ _ (execs [_] env) _ _ _
  exact Dg wf I I.glG hstor (hsto 2) (lJ hroom (by decide):A.depth+1+10<1000) hsz db1 db2 S k13 hSt S3 hOO hFS C3 h2 h3 fun v s' L' j f C' GI=>fin v s' L' j f E C' GI
end
section
variable{G:Glo}
theorem wH{a:Addr}{fd:FuncData}{body:List Stmt}{names vars:List Str}{vs:List Value}{ys:List SV}{args:List Value}{A:Around}{s s':Shared}{O:Addr->Prop}{R:Result->Shared->Prop}(wf:G.Wf)(FI:FnInfo G a fd body names vars)
 (B₀:G.Base O s.heap) (ok:Okay A O s') (B:G.Base O s'.heap) (hr:∀(i:Nat) (v:Value) (y:SV),vs[i]? = some v->ys[i]? = some y->lV G O s'.heap v y) (hvl:vs.length=names.length) (hyl:ys.length=names.length) (hroom:A.depth<1000)
 (hbind:∀(A:Around) (Q:List (Str × Value)->Shared->Prop) (E:Value->Shared->Prop),Q (names.zip vs) s'->wpAny (model G.prog G.w) A (bindArgs fd ⟨args,[]⟩) Q E s)
 (h:∀env O' s₁,Keeps s' s₁->(∀b,O b->O' b)->(∀b,O' b->O b\/s'.heap.get? b=none)->(∀b,aT env b->s'.heap.get? b=none)->(∀i,bu env (vars.map some) i)->Cond G env fd.scope (vars.map some) (A.deeper env) O' (fun U=>none) (ck vars ys) s₁ ->
  ∀E Qf,(∀v s',R (.ok (.ret v)) s'->Qf (.ret v) s')->(∀s',R (.ok (.ret .none)) s'->Qf .next s')->wpAny (model G.prog G.w) (A.deeper env) (execs body env) Qf E s₁) :
 codeAny (model G.prog G.w) A (.call (.ref a) ⟨args,[]⟩) R s:=by
 refine x12 FI.at_ fun o e2 hd=>?_
 have sc:=FI.sc
 have hsub:∀y∈names,y∈vars:=fun y hy=>by rw[<- sc.pfx]at hy;exact nK hy
 refine codeAny_call_function (by show A.depth<1000;exact hroom) (B₀.kp a o (wf.K a o e2)) hd sc.co sc.gen FI.hbody (FI.hcode.keeps B₀.kp) (hbind _ _ _ ?_)
 rw[FI.hclo]
 refine wpAny_newFunctionEnv_cells sc.kind (fun x hx=>?_) fun env he s₁ x=>?_
 ·have hm:x.1∈names:=by
   obtain⟨y,v⟩:=x
   exact(List.of_mem_zip hx).1
  rcases sc.var x.1 (hsub _ hm)with q | q
  ·exact .inl q
  ·refine .inr ⟨q,?_⟩
   refine x11 (iL (n:=s'.heap.objs.size+1) (mem_of_lookup q)) fun c hc=>?_
   refine x11 (iK (dY.mpr hc)) fun c' hc'=>?_
   rw[gY,c5,hc'];rfl
 ·subst he
  refine⟨(wf.lim.keeps B.kp).keeps x.toInCall.keep,codeAny_func ?_⟩
  refine x16 (oW (G:=G) (A:=A) (ys:=ys) (a:=a) sc FI.hg FI.hb ok B hr hvl hyl x) fun O' hO hO2 hSt hsto C k=>?_
  exact h _ O' s₁ k hO hO2 hSt hsto C _ _ (fun U U q=>q) fun U q=>q
noncomputable def hH(k m:Int)(g:Gr):Gr:=g.map fun p=>if p.1=k then(p.1,p.2.1+m,p.2.2)else p
noncomputable def fa(p k:Int)(g:Gr):Gr:=g.map fun q=>if q.1=p then(q.1,q.2.1,q.2.2++[k])else q
noncomputable def iW(k:Int)(ps:List Int)(g:Gr):Gr:=ps.foldl (fun g p=>fa p k (ch p g)) (hH k ps.length (ch k g))
theorem SorAt.keys{L:SLay}{h:Heap}(S:SorAt G.prog G.w L h):(L.inf.map (·.key)).Nodup:=by
 refine x36 S.n2i fun o es ep ho hc hd hk hp hn=>?_
 rw[dS]at hn
 exact hn
theorem rz{β:Type}(g:NInf->β)(u:NInf->β):∀ {inf:List NInf} {j:Nat} {f f':NInf},(inf.map (·.key)).Nodup->inf[j]? = some f->u f=g f'->(inf.set j f').map g=inf.map fun e=>if e.key=f.key then u e else g e
 | e::r,0,f,f',hn,h,hu=>by
  simp at h;subst h
  rw[List.set_cons_zero,aH,aH,if_pos rfl,hu]
  congr 1
  refine eQ fun q hq=>?_
  rw[if_neg]
  intro z
  rw[aH,b8]at hn
  exact hn.1 (aA.mpr ⟨q,hq,z⟩)
 | e::r,j+1,f,f',hn,h,hu=>by
  simp at h
  rw[aH,b8]at hn
  rw[List.set_cons_succ,aH,aH,rz g u hn.2 h hu,if_neg]
  intro z
  exact hn.1 (aA.mpr ⟨f,aE h,z.symm⟩)
theorem Di{L:SLay}{j:Nat}{f:NInf}{m:Int}(hn:(L.inf.map (·.key)).Nodup)(h:L.inf[j]? = some f):(L.upd j { f with np:=f.np+m }).gr=hH f.key m L.gr:=by
 unfold SLay.upd SLay.gr hH
 rw[rz (fun f=>(f.key,f.np,f.su)) (fun f=>(f.key,f.np+m,f.su)) hn h rfl,dS]
 refine eQ fun e U=>?_
 simp only[Function.comp]
theorem wJ{L:SLay}{j:Nat}{f:NInf}{k:Int}(hn:(L.inf.map (·.key)).Nodup)(h:L.inf[j]? = some f):(L.upd j { f with su:=f.su++[k] }).gr=fa f.key k L.gr:=by
 unfold SLay.upd SLay.gr fa
 rw[rz (fun f=>(f.key,f.np,f.su)) (fun f=>(f.key,f.np,f.su++[k])) hn h rfl,dS]
 refine eQ fun e U=>?_
 simp only[Function.comp]
theorem wK{L:SLay}{j:Nat}{f f':NInf}(h:L.inf[j]? = some f)(e:aV f'=aV f):(L.upd j f').addrs=L.addrs:=by
 have hi:(L.upd j f').infAs=L.infAs:=rq e h
 simp only[SLay.addrs,hi];rfl
end
noncomputable def iX:Str:=ofString "predecessors"
noncomputable def lZ:Str:=ofString "nodeinfo"
noncomputable def o4:Str:=ofString "pred"
noncomputable def l7:Str:=ofString "pred_info"
noncomputable def hU:List Str:=[aD,az,iX,lZ,o4,l7]
noncomputable def wL(P:Nat->Pos)(u1:List Stmt):List Stmt:=[.If (.Compare (.Attribute (.Name aD (P 0)) (ofString "_ready_nodes") (P 1)) [.IsNot] [.Constant .none 0 (P 2)] (P 3)) u1 [] (P 4),
 .Assign [.Name lZ (P 5)] (.Call (.Attribute (.Name aD (P 6)) (ofString "_get_nodeinfo") (P 7)) [.Name az (P 8)] [] (P 9)) (P 10),
 .AugAssign (.Attribute (.Name lZ (P 11)) (ofString "npredecessors") (P 12)) .Add (.Call (.Name (ofString "len") (P 13)) [.Name iX (P 14)] [] (P 15)) (P 16),
 .For (.Name o4 (P 17)) (.Name iX (P 18)) [.Assign [.Name l7 (P 19)] (.Call (.Attribute (.Name aD (P 20)) (ofString "_get_nodeinfo") (P 21)) [.Name o4 (P 22)] [] (P 23)) (P 24),
  .Expr (.Call (.Attribute (.Attribute (.Name l7 (P 25)) (ofString "successors") (P 26)) (ofString "append") (P 27)) [.Name az (P 28)] [] (P 29)) (P 30)] [] (P 31)]
inductive isAdd(b:List Stmt):Prop where
 | mk (h1:b=wL gK AM) (h2:((gK 7).endLine==(gK 9).line)=true) (h3:((gK 21).endLine==(gK 23).line)=true) (h4:((gK 27).endLine==(gK 29).line)=true):isAdd b
structure SA(G:Glo):Prop extends SI G where
 FA:FnInfo G er jm bA [aD,az,iX] hU
 bindA:∀u v ps,ps.length<=8->bindArgs jm ⟨u::v::ps,[]⟩=(newTuple ps >>= fun t=>pure ([aD,az,iX].zip [u,v,t]))
 bdA:isAdd bA
 glA:bK jm.scope (ofString "len")=true
section
variable{G:Glo}{A:Around}{O:Addr->Prop}{s:Shared}{E:Value->Shared->Prop}{L:SLay}
theorem rB{env:Env}{o:Expr}{name:Str}{apos pos:Pos}{args:List Expr}{f:Addr}{Q:Value->Shared->Prop}(wf:G.Wf)(mf:hA G.K TS name f=true)(hnm:∀(L:SLay) h1 h2 h3 h4 t1 t2 t3 t4 t5 t6,getL name (iU h1 h2 h3 h4 t1 t2 t3 t4 t5 t6 L.n2i L.rdv L.po L.fi)=some none)
 (hbase:attributeBase o name env (eval o env)=eval o env) (hs:∀a∈args,du a=true) (hfew:args.length<29) (hline:(apos.endLine==pos.line)=true)
 (h:wpAny (model G.prog G.w) A (eval o env) (fun ov s₁=>∃L O,ov=.ref L.x/\G.Base O s₁.heap/\SorAt G.prog G.w L s₁.heap /\
  wpAny (model G.prog G.w) A (spliced (args.map fun a=>(false,eval a env))) (fun vs s₂=>(∃O,G.Base O s₂.heap)/\wpAny (model G.prog G.w) A (call (.ref f) (.ref L.x::vs)) Q E s₂) E s₁) E s) :
 wpAny (model G.prog G.w) A (eval (.Call (.Attribute o name apos) args [] pos) env) Q E s:=by
 unfold hA at mf
 simp only[cF,beq_iff_eq]at mf
 refine ak mf fun z0 m5=>?_;refine ak z0 fun z0 m4=>?_;refine ak z0 fun z0 m3=>?_;obtain⟨m1,m2⟩:=z0
 refine ak (plainGet_of m1) fun m6 m7=>?_
 rw[arm_eval_Call,hbase]
 refine wpAny_bind (wpAny_mono h (fun ov s₁ h₁=>?_) fun U U e=>e)
 refine x24 h₁ fun L O e2 B S hc=>?_;subst e2
 obtain⟨h1,h2,h3,h4,t1,t2,t3,t4,t5,t6,n,e,IA⟩:=S.instAt
 refine wpAny_bind (wpAny_standAt ?_)
 have hform:methodCallForm (args.length+([]:List Keyword).length) (backTo pos (starEach args env)) (backToKw pos (keywordEach [] env))=true:=by
  rw[gV _ hs,ju]
  unfold methodCallForm
  simp only[tG,Function.comp,cF,decide_eq_true_eq]
  refine⟨⟨by simp,rfl⟩,?_⟩
  simp only[List.length_nil,Nat.add_zero]
  have:(backToKw pos (keywordEach [] env)).isEmpty=true:=rfl
  rw[this];simp;lia
 have hpos:methodCallPos true o env apos pos=pure pos:=by unfold methodCallPos;simp[hline]
 unfold methodCall
 rw[hform]
 refine wpAny_bind (wpAny_holding (method_fn (B.inK wf) IA m6 m7 m2 (beq_iff_eq.mp m3) ?_ ?_))
 ·show(lookIn name (dictOf _ n)).map _=_
  rw[lookIn_dict,hnm];rfl
 ·refine wpAny_bind (wpAny_of_eq hpos ?_)
  rw[gV _ hs,ju]
  refine callWith_of (P:=fun h=>G.K.In h) (by rw[fG];rfl) (keeps_K m4) (gW (wpAny_mono hc (fun vs s₂ h₂=>⟨h₂.1.elim fun U B=>B.inK wf,h₂.2⟩) fun U U e=>e))
theorem wM{env:Env}{sc:Scope}{ctx:List (Option Str)}{ρ:List SV}{i j:Nat}{x y:Str}{k:Int}{p ap q cp:Pos}{Q:Value->Shared->Prop}(wf:G.Wf)(I:SI G)(C:Cond G env sc ctx A O (fun U=>none) ρ s)
 (hO:∀b∈L.addrs,O b) (S:SorAt G.prog G.w L s.heap) (hroom:A.depth+20<1000) (hsz:L.inf.length<=10000) (hx:ctx[i]? = some (some x)) (hy:ctx[j]? = some (some y)) (dx:(x==ofString "__debug__")=false) (dy:(y==ofString "__debug__")=false)
 (rx:ρ.getD i .un=.val (.ref L.x)) (ry:ρ.getD j .un=.dat (.int k)) (hline:(ap.endLine==cp.line)=true)
 (h:∀v s' L' n f,GotInfo G L s k v s' L' n f->Q v s'):wpAny (model G.prog G.w) A (eval (.Call (.Attribute (.Name x p) (ofString "_get_nodeinfo") ap) [.Name y q] [] cp) env) Q E s:=by
 refine rB wf I.get (fun U U U U U U U U U U U=>rfl) rfl (fun a ha=>by rw[ai.mp ha];rfl) (by simp) hline (fL C hx dx rx ⟨L,O,rfl,C.base,S,?_⟩)
 refine Calls.spliced_cons (di C hy dy ry fun v rv=>Calls.spliced_nil ⟨⟨O,C.base⟩,?_⟩)
 refine x11 (fC rv) fun t' e1=>?_;subst e1
 exact wpAny_mono (Dh wf I C.ok C.base hO S hroom hsz) (fun v s' h'=>by
  refine x31 h' fun L' n f GI=>?_
  exact h v s' L' n f GI) fun U U e=>e
end
section
variable{G:Glo}{env:Env}{sc:Scope}{ctx:List (Option Str)}{A:Around}{O O':Addr->Prop}{ρ:List SV}{s s':Shared}{E:Value->Shared->Prop}
theorem Cond.outerGrow{M:Addr->Prop}(wf:G.Wf)(C:Cond G env sc ctx A O (fun U=>none) ρ s)(k:KM M s s')(hM:∀b,M b->O b)(hS:∀b,M b->¬aT env b)(h1:∀b,O b->O' b)(h2:∀b,O' b->O b\/s.heap.get? b=none)(h3:∀b,O' b->∃o,s'.heap.get? b=some o) :
 Cond G env sc ctx A O' (fun U=>none) ρ s':=by
 have C':=C.outer wf k hM hS
 obtain⟨val,F,V⟩:=C.vars
 have F':FrameV env s'.heap val:=by
  refine⟨?_,fun x hx=>?_⟩
  ·refine x12 F.loc fun m h1 h2=>?_
   exact⟨m,h1.at' fun o e=>k.get _ o (fun q=>hS _ q (.inl rfl)) e,h2⟩
  ·refine x12 (F.cel x hx) fun c h1 h2=>?_
   exact⟨c,h1,lK h2 fun o e=>k.get _ o (fun q=>hS _ q (.inr ⟨x,h1⟩)) e⟩
 refine⟨C'.eo,C'.co,C'.len,⟨C'.ok.hok,fun b hb q=>?_,h3⟩,⟨C'.base.kp,fun b q=>?_⟩,fun b q=>h1 b (C.fr b q),fun x c e=>h1 c (C.fc x c e),fun b i e=>(by cases e),val,F',fun i x e=>?_⟩
 ·rcases h2 b q with q | q
  ·exact C.ok.hno b hb q
  ·refine x11 (C.ok.hok.there b hb) fun o e=>?_
   rw[q]at e;cases e
 ·rcases h2 b q with q | q
  ·exact C.base.off b q
  ·cases e:G.hB.get? b with
   | none=>rfl
   | some o=>rw[C.base.kp b o e]at q;cases q
 ·have r:=V i x e
  have hk:∀b o,¬O b->s.heap.get? b=some o->s'.heap.get? b=some o:=fun b o n e=>k.get b o (fun q=>n (hM b q)) e
  have hO:∀b o,s.heap.get? b=some o->O' b->O b:=fun b o e q=>(h2 b q).elim id fun z=>by rw[z]at e;cases e
  generalize ρ.getD i .un=y at r
  cases y with
  | dat d=>refine x12 r fun u e r=>?_;exact⟨u,e,r.mono hk hO⟩
  | own d=>obtain⟨a,vs,n,ds,e1,e2,_⟩:=r;cases e2
  | un=>trivial
  | val u=>exact r
  | sor g =>
   refine x23 r fun u S e r hS=>?_
   refine⟨u,S,e,wf.srf g S s.heap s'.heap u r (fun b o q U=>by cases hS b q) (fun b o q=>C.base.kp b o q) (fun b o q=>C'.base.kp b o q),hS⟩
structure FP(G:Glo)(env:Env)(sc:Scope)(ctx:List (Option Str))(A:Around)(s₀:Shared)(L₀:SLay)(O:Addr->Prop)(ρ:List SV)(s:Shared)(L:SLay):Prop where
 C:Cond G env sc ctx A O (fun U=>none) ρ s
 S:SorAt G.prog G.w L s.heap
 hO:∀b∈L.addrs,O b
 hS:∀b∈L.addrs,¬aT env b
 same:LSame L₀ L
 km:KM (fun b=>b∈L₀.addrs\/aT env b) s₀ s
 new:∀b∈L.addrs,b∈L₀.addrs\/s₀.heap.get? b=none
variable{s₀:Shared}{L₀ L L':SLay}
theorem FP.keeps(wf:G.Wf)(P:FP G env sc ctx A s₀ L₀ O ρ s L)(k:Keeps s s'):FP G env sc ctx A s₀ L₀ O ρ s' L :=
 ⟨P.C.keeps wf k,ec P.S k,P.hO,P.hS,P.same,P.km.trans (KM.of k),P.new⟩
theorem FP.store{i:Nat}{x:Str}{v:Value}{y:SV}{p:Pos}{Q:Unit->Shared->Prop}(wf:G.Wf)(hsto:∀i,bu env ctx i)(P:FP G env sc ctx A s₀ L₀ O ρ s L)(hi:ctx[i]? = some (some x))(hk:aS sc x=true)(r:cC G O (fun U=>none) s.heap i (some v) y)
 (h:∀s',FP G env sc ctx A s₀ L₀ O (ρ.set i y) s' L->Q () s'):wpAny (model G.prog G.w) A (assign (.Name x p) env v) Q E s :=
 wpAny_assign_Name (dJ wf (hsto i) P.C hi hk r fun s' k C'=>h s' ⟨C',P.S.keeps fun b o hb e=>k.get b o (fun q=>P.hS b hb q.store) e,P.hO,P.hS,P.same,P.km.trans (k.mono fun b q=>.inr q.store),P.new⟩)
theorem FP.got{k:Int}{v:Value}{j:Nat}{f:NInf}(wf:G.Wf)(P:FP G env sc ctx A s₀ L₀ O ρ s L)(g:GotInfo G L s k v s' L' j f):FP G env sc ctx A s₀ L₀ (fun b=>O b\/b∈L'.addrs) ρ s' L':=by
 have hnone:∀b,s.heap.get? b=none->s₀.heap.get? b=none:=fun b e=>jw P.km e
 refine⟨P.C.outerGrow wf g.km P.hO P.hS (fun b q=>.inl q) (fun b q=>?_) (fun b q=>?_),g.sor,fun b q=>.inr q,fun b q z=>?_,P.same.trans g.same,?_,fun b q=>?_⟩
 ·rcases q with q | q
  ·exact .inl q
  ·exact(g.new b q).imp (P.hO b) id
 ·rcases q with q | q
  ·refine x11 (P.C.ok.obs b q) fun o e=>?_
   exact g.km.there b o e
  ·exact g.sor.there q
 ·rcases g.new b q with q | q
  ·exact P.hS b q z
  ·refine x11 (P.C.ok.obs b (P.C.store_O z)) fun o e=>?_
   rw[q]at e;cases e
 ·obtain⟨h1,t1,rfl,k1,e1⟩:=id P.km
  obtain⟨h2,t2,rfl,k2,e2⟩:=id g.km
  refine⟨h2,t2,rfl,fun b o n e=>k2 b o (fun q=>?_) (k1 b o n e),fun b o e=>(e1 b o e).elim fun o' e'=>e2 b o' e'⟩
  rcases P.new b q with q | q
  ·exact n (.inl q)
  ·rw[q]at e;cases e
 ·rcases g.new b q with q | q
  ·exact P.new b q
  ·exact .inr (hnone b q)
theorem FP.upd{c:Addr}{t:Nat}{h':Heap}(wf:G.Wf)(P:FP G env sc ctx A s₀ L₀ O ρ s L)(hc:c∈L.addrs)(hs:Heap.ExtBut c s.heap h')(S':SorAt G.prog G.w L' h')(ha:L'.addrs=L.addrs)(hsm:LSame L L'):FP G env sc ctx A s₀ L₀ O ρ { s with heap:=h',toks:=t } L':=by
 have hc':∃o,h'.get? c=some o:=S'.there (ha▸hc)
 have k:KM (· = c) s { s with heap:=h',toks:=t }:=KM.chg hs hc' rfl
 refine⟨P.C.outer wf k (fun b q=>q▸P.hO c hc) fun b q=>q▸P.hS c hc,S',ha▸P.hO,ha▸P.hS,P.same.trans hsm,?_,ha▸P.new⟩
 obtain⟨h1,t1,rfl,k1,e1⟩:=id P.km
 obtain⟨h2,t2,e,k2,e2⟩:=k
 cases e
 refine⟨h',t,rfl,fun b o n e=>k2 b o (fun q=>?_) (k1 b o n e),fun b o e=>(e1 b o e).elim fun o' e'=>e2 b o' e'⟩
 have q:b=c:=q
 rcases P.new b (q▸hc)with q | q
 ·exact n (.inl q)
 ·rw[q]at e;cases e
theorem FP.rebase(P:FP G env sc ctx A s₀ L₀ O ρ s L):FP G env sc ctx A s L O ρ s L:=⟨P.C,P.S,P.hO,P.hS,LSame.refl L,KM.of (br s),fun b q=>.inl q⟩
theorem FP.comp{s₁:Shared}{L₁:SLay}{O₁:Addr->Prop}{ρ₁:List SV}(P:FP G env sc ctx A s₀ L₀ O₁ ρ₁ s₁ L₁)(P':FP G env sc ctx A s₁ L₁ O ρ s L):FP G env sc ctx A s₀ L₀ O ρ s L:=by
 refine⟨P'.C,P'.S,P'.hO,P'.hS,P.same.trans P'.same,?_,fun b q=>?_⟩
 ·obtain⟨h1,t1,rfl,k1,e1⟩:=id P.km
  obtain⟨h2,t2,rfl,k2,e2⟩:=id P'.km
  refine⟨h2,t2,rfl,fun b o n e=>k2 b o (fun q=>?_) (k1 b o n e),fun b o e=>(e1 b o e).elim fun o' e'=>e2 b o' e'⟩
  rcases q with q | q
  ·rcases P.new b q with q | q
   ·exact n (.inl q)
   ·rw[q]at e;cases e
  ·exact n (.inr q)
 ·rcases P'.new b q with q | q
  ·exact P.new b q
  ·exact .inr (jw P.km q)
end
section
variable{G:Glo}{env:Env}{sc:Scope}{ctx:List (Option Str)}{A:Around}{O O':Addr->Prop}{ρ:List SV}{s s' s₁ s₂:Shared}{E:Value->Shared->Prop}{s₀:Shared}{L₀ L L':SLay}
theorem FP.grow(wf:G.Wf)(P:FP G env sc ctx A s₀ L₀ O ρ s L)(k:Keeps s s')(h1:∀b,O b->O' b)(h2:∀b,O' b->O b\/s.heap.get? b=none)(h3:∀b,O' b->∃o,s'.heap.get? b=some o):FP G env sc ctx A s₀ L₀ O' ρ s' L :=
 ⟨P.C.grow wf k h1 h2 h3,ec P.S k,fun b q=>h1 b (P.hO b q),P.hS,P.same,P.km.trans (KM.of k),P.new⟩
theorem FP.side{I:Addr}(wf:G.Wf)(P:FP G env sc ctx A s₀ L₀ O ρ s L)(hI:O I)(hL:I∉L.addrs)(hS:¬aT env I)(h0:s₀.heap.get? I=none)(k:KM (· = I) s s'):FP G env sc ctx A s₀ L₀ O ρ s' L :=
 ⟨P.C.outer wf k (fun b q=>q▸hI) (fun b q=>q▸hS),P.S.keeps fun b o hb e=>k.get b o (fun q=>hL (q▸hb)) e,P.hO,P.hS,P.same,P.km.thenFresh k (fun b q=>q▸h0),P.new⟩
inductive FPI(G:Glo)(env:Env)(sc:Scope)(ctx:List (Option Str))(A:Around)(s₀:Shared)(L₀:SLay)(O:Addr->Prop)(s₁:Shared)(I:Addr)(fp:List Addr)(len:Nat)(St:Nat->Heap->Prop)(RP:List SV->Prop)(J:Nat->SLay->Prop)(n:Nat)(sk:Shared):Prop where
 | mk (j:Nat) (Ok:Addr->Prop) (ρk:List SV) (Lk:SLay) (hj:j<=len) (hn:n=len+1 - j) (hst:St j sk.heap) (hIL:I∉Lk.addrs) (loc:FLoc O s₁ I fp Ok (fun U=>none) sk) (hRP:RP ρk) (hJ:J j Lk) (P:FP G env sc ctx A s₀ L₀ Ok ρk sk Lk) :
  FPI G env sc ctx A s₀ L₀ O s₁ I fp len St RP J n sk
theorem Dj{its:List PyData}{it:Value}{body:List Stmt}{i:Nat}{x:Str}{p:Pos}{R:Result->Shared->Prop}(wf:G.Wf)(P:FP G env sc ctx A s₀ L₀ O ρ s₁ L)(k12:Keeps s₁ s₂)(hi:ItIs G.prog G.w A O True s₁.heap s₂.heap it its)
 (hsto:∀i,bu env ctx i) (hx:ctx[i]? = some (some x)) (hk:aS sc x=true) (RP:List SV->Prop) (J:Nat->SLay->Prop) (hRP:RP ρ) (hJ:J 0 L) (hset:∀ρ y,RP ρ->RP (ρ.set i y)) (hil:i<ρ.length)
 (step:∀n d O' L' ρ' s (Q:Flow->Shared->Prop) E,its[n]? = some d->FP G env sc ctx A s L' O' ρ' s L'->RP ρ'->ρ'.getD i .un=.dat d->J n L' ->
  (∀s' O'' L'' ρ'',FP G env sc ctx A s L' O'' ρ'' s' L''->(∀b,O' b->O'' b)->(∀b,O'' b->O' b\/s.heap.get? b=none)->RP ρ''->J (n+1) L''->Q .next s')->wpAny (model G.prog G.w) A (execs body env) Q E s)
 (hR:∀s' O' L' ρ',FP G env sc ctx A s₀ L₀ O' ρ' s' L'->RP ρ'->J its.length L'->R (.ok .next) s'):codeAny (model G.prog G.w) A (.forLoop (.Name x p) it body [] env) R s₂:=by
 obtain⟨I,fp,wr,Pv,St,rfl,W,hst,hfq,⟨rfl,hI₁⟩,hf,htame,hIfp,hit⟩:=hi
 have hI₀:s₀.heap.get? I=none:=jw P.km hI₁
 have hnI:¬O I:=fun q=>by refine x11 (P.C.ok.obs I q) fun o e=>?_;rw[hI₁]at e;cases e
 have hIf:I∉hfp A:=fun q=>by refine x11 (P.C.ok.hok.there I q) fun o e=>?_;rw[hI₁]at e;cases e
 have hIS:¬aT env I:=fun q=>hnI (P.C.store_O q)
 have P2:FP G env sc ctx A s₀ L₀ (fun b=>O b\/b=I) ρ s₂ L:=P.grow wf k12 (fun b q=>.inl q) (fun b q=>by
  rcases q with q | rfl
  ·exact .inl q
  ·exact .inr hI₁) fun b q=>by
  rcases q with q | rfl
  ·refine x11 (P.C.ok.obs b q) fun o e=>?_;exact⟨o,al k12 b o e⟩
  ·refine x22 (htame 0 _ hst) fun o U e U=>?_;exact⟨o,e⟩
 refine codeAny_forLoop_any (FPI G env sc ctx A s₀ L₀ O s₁ I fp its.length St RP J) ?_ (its.length+1)
  ⟨0,_,ρ,L,aW _,rfl,hst,fun q=>hnI (P.hO I q),⟨.inr rfl,fun b o U e=>al k12 b o e,hfq,fun b hb n q=>q.elim (hf trivial b hb) n,fun j q=>(nomatch q),fun b o e q=>by
   rcases q with q | rfl
   ·exact q
   ·rw[hI₁]at e;cases e⟩,hRP,hJ,P2⟩
 rintro n sk ⟨j,Ok,ρk,Lk,hj,rfl,hst,hIL,loc,hRPk,hJk,Pk⟩
 by_cases hlt:j<its.length
 ·refine W.item j _ _ _ hlt hst fun v h₂ t₂ hP hst₂ hk₂=>?_
  refine x23 (htame (j+1) h₂ hst₂) fun oI TI hoI hcI htI=>?_
  refine lE hoI hcI htI ?_
  have hk2:∀b o,b≠I->sk.heap.get? b=some o->h₂.get? b=some o:=fun b o n e=>hk₂ b o (by simpa using n) e
  have k2:KM (· = I) sk { sk with heap:=h₂,toks:=t₂ }:=⟨h₂,t₂,rfl,fun b o n e=>hk2 b o n e,fun b o e=>if q:b=I then q▸⟨oI,hoI⟩else⟨o,hk2 b o q e⟩⟩
  have P2:=Pk.side wf loc.oI hIL hIS hI₀ k2
  refine x12 (hit j v hP) fun d hd rd=>?_
  have rd':Rep Ok h₂ v d:=(rd s₁.heap fun U U U e=>e).mono (fun b o n e=>hk2 b o (fun q=>by rw[q,hI₁]at e;cases e) (loc.kp b o n e)) loc.OO
  refine wpAny_assign_Name (dJ (y:=.dat d) wf (hsto i) P2.C hx hk ⟨v,rfl,rd'⟩ fun s3 k3 C3=>?_)
  have P3:FP G env sc ctx A s₀ L₀ Ok (ρk.set i (.dat d)) s3 Lk:=⟨C3,P2.S.keeps fun b o hb e=>k3.get b o (fun q=>P2.hS b hb q.store) e,P2.hO,P2.hS,P2.same,P2.km.trans (k3.mono fun b q=>.inr q.store),P2.new⟩
  refine step j d Ok Lk _ s3 _ _ hd P3.rebase (hset _ _ hRPk) (by rw[c6,if_pos ⟨rfl,by rw[Pk.C.len,<- P.C.len];exact hil⟩]) hJk fun s' O'' L'' ρ'' P' hO1 hO2 hRP' hJ'=>?_
  have hS:∀b,aT env b->Ok b/\b≠I:=fun b q=>⟨Pk.C.store_O q,fun z=>hIS (z▸q)⟩
  have nb:∀b,s3.heap.get? b=none->h₂.get? b=none:=fun b e=>jw k3 e
  have nx:=loc.next (M:=fun b=>b∈Lk.addrs\/aT env b) (ω':=fun U=>none) hI₁ (s2:={ sk with heap:=h₂,toks:=t₂ }) hk2 ⟨oI,hoI⟩ (fun b q=>q.elim (fun q=>⟨Pk.hO b q,fun z=>hIL (z▸q)⟩) (hS b))
   (fun b o n e=>P'.km.get b o n (k3.get b o (fun q=>n (.inr q.store)) e)) (hO1 I loc.oI) (fun b q=>(hO2 b q).imp id (nb b)) fun j q=>nomatch q
  refine⟨its.length+1 - (j+1),by lia,j+1,O'',ρ'',L'',hlt,rfl,W.frame _ _ _ hst₂ fun b hb o e=>nx.2 b hb o e,fun q=>?_,nx.1,hRP',hJ',P3.comp P'⟩
  rcases P'.new I q with q | q
  ·exact hIL q
  ·have:=nb I q
   rw[hoI]at this;cases this
 ·have hin:j=its.length:=m8 hj (cy.mp hlt)
  subst hin
  refine W.done _ _ _ hst fun h₂ t₂ hk₂=>wpAny_execs_nil ?_
  have hk:∀b o,b≠I->sk.heap.get? b=some o->h₂.get? b=some o:=fun b o n e=>hk₂ b o (by simpa using n) e
  have hSne:∀b,aT env b->Ok b/\b≠I:=fun b q=>⟨Pk.C.store_O q,fun z=>hIS (z▸q)⟩
  refine hR _ (fun b=>Ok b/\b≠I) Lk ρk ⟨Pk.C.shrink wf (fun b q=>q.1) (fun b i e=>by cases e) (fun b q=>hSne b q.store) (fun x c e=>hSne c (.inr ⟨x,e⟩)) (fun q=>q.2 rfl) loc.oI hIf hk,Pk.S.keeps fun b o hb e=>hk b o (fun q=>hIL (q▸hb)) e,fun b q=>⟨Pk.hO b q,fun z=>hIL (z▸q)⟩,Pk.hS,Pk.same,?_,Pk.new⟩ hRPk hJk
  obtain⟨h1,t1,rfl,k1,e1⟩:=id Pk.km
  have ne:∀b o,s₀.heap.get? b=some o->b≠I:=fun b o e q=>by rw[q,hI₀]at e;cases e
  exact⟨h₂,t₂,rfl,fun b o n e=>hk b o (ne b o e) (k1 b o n e),fun b o e=>(e1 b o e).elim fun o' e'=>⟨o',hk b o' (ne b o e) e'⟩⟩
end
section
variable{G:Glo}{A:Around}{O:Addr->Prop}{s:Shared}{E:Value->Shared->Prop}{L:SLay}
theorem rC{O:Addr->Prop}{h:Heap}:∀ {ps:List Value} {pk:List Int},IntsAre ps pk->RepL O h ps (pk.map PyData.int)
 | _,_,.nil=>.nil
 | _,_,.cons x t r=>.cons (.int _ _) (rC r)
noncomputable def gs(g:Gr)(m:Nat):Prop:=g.length<=9980+m/\∀q∈g,q.2.2.length<=999980+m
theorem wN{g:Gr}{m:Nat}{k:Int}(h:gs g m):gs (ch k g) (m+1):=by
 unfold ch
 split
 ·exact⟨by have:=h.1;lia,fun q hq=>by have:=h.2 q hq;lia⟩
 ·refine⟨by rw[bb];have:=h.1;simp;lia,fun q hq=>?_⟩
  rcases au.mp hq with hq | hq
  ·have:=h.2 q hq;lia
  ·rw[ai.mp hq];simp
theorem Dl{g:Gr}{m:Nat}{k z:Int}(h:gs g m):gs (hH k z g) m:=by
 unfold hH
 refine⟨by rw[af];exact h.1,fun q hq=>?_⟩
 refine x12 (aA.mp hq) fun p hp e2=>?_;subst e2
 have:=h.2 p hp
 split<;>simpa using this
theorem Dm{g:Gr}{m:Nat}{p k:Int}(h:gs g m):gs (fa p k g) (m+1):=by
 unfold fa
 refine⟨by rw[af];have:=h.1;lia,fun q hq=>?_⟩
 refine x12 (aA.mp hq) fun e he e2=>?_;subst e2
 have:=h.2 e he
 split
 ·simp;lia
 ·lia
theorem wO{L:SLay}{m:Nat}(h:gs L.gr m):L.inf.length<=9980+m/\∀f∈L.inf,f.su.length<=999980+m :=
 ⟨by have:=h.1;unfold SLay.gr at this;rwa [af]at this,fun f hf=>h.2 (f.key,f.np,f.su) (aA.mpr ⟨f,hf,rfl⟩)⟩
theorem eH{i:Nat}{x:Str}(e:hU[i]? = some x):(hU.map some)[i]? = some (some x):=by rw[bX,e];rfl
theorem Dn{k:Int}{t:Tok}{ps:List Value}{pk:List Int}(wf:G.Wf)(I:SA G)(ok:Okay A O s)(B:G.Base O s.heap)(hO:∀b∈L.addrs,O b)(S:SorAt G.prog G.w L s.heap)(hrd:L.rd=none)
 (hps:IntsAre ps pk) (hlen:ps.length<=8) (hroom:A.depth+30<1000) (hsz:L.inf.length+20<=10000) (hsu:∀f∈L.inf,f.su.length+20<=1000000) :
 codeAny (model G.prog G.w) A (.call (.ref er) ⟨.ref L.x::.int k t::ps,[]⟩) (fun r s'=>match r with | .ok (.ret v)=>(v=.none/\∃L',SorAt G.prog G.w L' s'.heap/\LSame L L'/\L'.gr=iW k pk L.gr/\KM (·∈L.addrs) s s'/\∀b∈L'.addrs,b∈L.addrs\/s.heap.get? b=none) | .ok _=>False | .error e=>E e s') s:=by
 have k0:Keeps s { s with heap:=s.heap.push { cls:=.type "tuple",data:=.seq ps.toArray } }:=bt _
 generalize hs':({ s with heap:=s.heap.push { cls:=.type "tuple",data:=.seq ps.toArray } }:Shared)=s' at k0
 have hT:IsT s'.heap s.heap.objs.size ps.toArray 0:=by rw[<- hs'];exact IsT.new _ _
 have ok':=ok.keeps k0
 have B':=B.keeps k0
 have S':=ec S k0
 have hnT:¬O s.heap.objs.size:=fun q=>aI _ (ok.ob _ q)
 have hpl:=IntsAre.len hps
 have hrep:Rep O s'.heap (.ref s.heap.objs.size) (.tuple (pk.map .int)):=.tuple hnT hT (by
  have:ps.toArray.toList=ps:=rfl
  rw[this];exact rC hps)
 refine wH (s:=s) (s':=s') (O:=O) (vs:=[.ref L.x,.int k t,.ref s.heap.objs.size]) (ys:=[.val (.ref L.x),.dat (.int k),.dat (.tuple (pk.map .int))]) wf I.FA B ok' B' (fun i v y hv hy=>?_) rfl rfl (oG hroom) (fun A Q E h=>?_) fun env O' s₁ k1 hO1 hO2 hSt hsto C E' Qf hret hnx=>?_
 ·match i with
  | 0=>simp at hv hy;subst hv hy;exact .inr rfl
  | 1=>simp at hv hy;subst hv hy;exact .inl ⟨_,rfl,.int _ _⟩
  | 2=>simp at hv hy;subst hv hy;exact .inl ⟨_,rfl,hrep⟩
  | n+3=>simp at hv
 ·rw[I.bindA _ _ ps hlen]
  refine wpAny_bind (wpAny_newObj_type (wpAny_pure (hs'▸h)) (by show ps.toArray.size<=sizeLine;rw[jX,sizeLine_eq];lia))
 have bd:=I.bdA
 obtain⟨hb,hl1,hl2,hl3⟩:=bd
 rw[hb]
 unfold wL
 have d1:(aD==ofString "__debug__")=false:=by decide +kernel
 have d2:(az==ofString "__debug__")=false:=by decide +kernel
 have d3:(iX==ofString "__debug__")=false:=by decide +kernel
 have d4:(lZ==ofString "__debug__")=false:=by decide +kernel
 have d5:(o4==ofString "__debug__")=false:=by decide +kernel
 have d6:(l7==ofString "__debug__")=false:=by decide +kernel
 have stor_of':∀x∈hU,aS jm.scope x=true:=fun x hx=>by rcases I.FA.sc.var x hx with q | q<;>simp[aS,q]
 have hOO:∀b∈L.addrs,O' b:=fun b hb=>hO1 b (hO b hb)
 have hFS:∀b∈L.addrs,¬aT env b:=fun b hb q=>by
  refine x11 (S'.there hb) fun o e=>?_
  rw[hSt b q]at e;cases e
 have P1:FP G env jm.scope (hU.map some) (A.deeper env) s' L O' (ck hU [.val (.ref L.x),.dat (.int k),.dat (.tuple (pk.map .int))]) s₁ L:=⟨C,ec S' k1,hOO,hFS,LSame.refl L,KM.of k1,fun b q=>.inl q⟩
 have hint:interactive env=false:=by unfold interactive;rw[C.eo.kindS];rfl
 -- if self._ready_nodes is not None
 refine wpAny_execs_cons (wpAny_If (wpAny_isTrue_Compare1 (gt P1.C (eH (i:=0) rfl) d1 rfl (wx (P1.C.base.inK wf) I.ts P1.S (wpAny_Constant_none (isNot_none ?_)))) rfl))
 have hrv:L.rdv=.none:=by unfold SLay.rdv;rw[hrd]
 rw[hrv]
 refine wpAny_truthy_bool ?_
 show wpAny _ _ (execs [] env) _ _ _
 refine wpAny_execs_nil ?_
 have P2:=P1.keeps wf (aw s₁ (s₁.toks+1))
 have g0:gs L.gr 0:=⟨by unfold SLay.gr;rw[af];lia,fun q hq=>by
  refine x12 (aA.mp hq) fun f hf e2=>?_;subst e2
  have:=hsu f hf
  simp only;lia⟩
 -- nodeinfo=self._get_nodeinfo(node)
 refine wpAny_execs_cons (wpAny_Assign_stores (wM wf I.toSI P2.C P2.hO P2.S (lJ hroom (by decide):A.depth+1+20<1000) (by lia) (eH (i:=0) rfl) (eH (i:=1) rfl) d1 d2 rfl rfl hl1 fun v s₂ L1 j f GI=>?_) rfl rfl)
 show wpAny _ _ (assign (.Name lZ (gK 5)) env v) _ _ s₂
 obtain⟨rfl,hj,hkey,hgr⟩:v=.ref f.a/\L1.inf[j]? = some f/\f.key=k/\L1.gr=ch k L.gr:=⟨GI.val,GI.at_,GI.key,GI.gr⟩
 refine(P2.got wf GI).store (y:=.val (.ref f.a)) wf hsto (eH (i:=3) rfl) (stor_of' _ (by simp[hU])) rfl fun s₃ P4=>?_
 have hfm:f∈L1.inf:=aE hj
 -- nodeinfo.npredecessors += len(predecessors)
 refine wpAny_execs_cons (wpAny_AugAssign_AttributeAny (fL P4.C (eH (i:=3) rfl) d4 rfl (wy (P4.C.base.inK wf) I.N.ni I.N.sP P4.S hfm fun tn=>?_)))
 have P5:=P4.keeps wf (aw s₃ (s₃.toks+1))
 refine qV wf P5.C rfl I.glA vZ (di P5.C (eH (i:=2) rfl) d3 rfl fun u ru=>wpAny_mono (vx (.of ru) (by show(pk.map PyData.int).length<=16777216;rw[af];lia)) (fun w' s₄ h4=>?_) fun U U e=>e)
 refine x11 (fC h4.2) fun tl e1=>?_;subst e1
 have P6:=P5.keeps wf h4.1
 have P7:=P6.keeps wf (aw s₄ (s₄.toks+1))
 refine iadd_int (Dc (k:=j) (f:=f) (P7.C.base.inK wf) I.N.ni I.N.sP P7.S hj fun h' hsb S8=>?_)
 have P8:=P7.upd (t:=s₄.toks+1+1) wf ((lW hfm).1) hsb.extBut S8 (wK hj rfl) ⟨rfl,rfl,rfl,rfl,rfl,rfl⟩
 have hlenD:((iG (PyData.tuple (pk.map PyData.int)):Nat):Int)=(pk.length:Int):=congrArg Int.ofNat (af ..)
 have hg8:(L1.upd j { f with np:=f.np+(iG (PyData.tuple (pk.map PyData.int)):Nat) }).gr=hH k pk.length (ch k L.gr):=by
  rw[Di P7.S.keys hj,hkey,hgr,hlenD]
 generalize hL2:L1.upd j { f with np:=f.np+(iG (PyData.tuple (pk.map PyData.int)):Nat) }=L2 at P8 hg8
 have hx2:L2.x=L.x:=P8.same.x
 have dz:∀(n:Nat) (d:PyData),(pk.map PyData.int)[n]? = some d->∃z,pk[n]? = some z/\d=.int z:=fun n d e=>by
  rw[bX]at e
  cases q:pk[n]? with
  | none=>rw[q]at e;cases e
  | some z=>rw[q]at e;exact⟨z,rfl,(Option.some.inj e).symm⟩
 -- for pred in predecessors
 refine wpAny_execs_cons (wpAny_For (di P8.C (eH (i:=2) rfl) d3 rfl fun v rv=>vv P8.C.ok (.of rv) fun it s₉ k9 hi=>?_) fun U=>rfl)
 refine Dj wf P8 k9 (hi.mono fun U=>rv) hsto (eH (i:=4) rfl) (stor_of' _ (by simp[hU])) (fun ρ=>ρ.getD 0 .un=.val (.ref L.x)/\ρ.getD 1 .un=.dat (.int k))
  (fun n L'=>L'.x=L.x/\L'.gr=(pk.take n).foldl (fun g p=>fa p k (ch p g)) (hH k pk.length (ch k L.gr))/\gs L'.gr (1+2 * n)) ⟨rfl,rfl⟩ ⟨hx2,by simpa using hg8,by rw[hg8];exact Dl (wN g0)⟩
  (fun ρ y h=>⟨(lL (by decide)).trans h.1,(lL (by decide)).trans h.2⟩) (by rw[P8.C.len];decide) (fun n d Ob Lb ρb sb Qb Eb hd Pb hRP hdat hJ hk=>?_) (fun s' Oe Le ρe Pe hRPe hJe=>?_)
 ·refine x12 (dz n d hd) fun z hz e2=>?_;subst e2
  refine cN hJ fun hxb hgb hsb=>?_
  have hn8:n<8:=by
   have:=(cY.mp hz).1
   lia
  have hib:=wO hsb
  refine wpAny_execs_cons (wpAny_Assign_stores (wM wf I.toSI Pb.C Pb.hO Pb.S (lJ hroom (by decide):A.depth+1+20<1000) (by lia) (eH (i:=0) rfl) (eH (i:=4) rfl) d1 d5 (by rw[hxb];exact hRP.1) hdat hl2 fun v sc' Lc jc fc GI=>?_) rfl rfl)
  show wpAny _ _ (assign (.Name l7 (gK 19)) env v) _ _ sc'
  obtain⟨rfl,hjc,hkeyc,hgrc⟩:v=.ref fc.a/\Lc.inf[jc]? = some fc/\fc.key=z/\Lc.gr=ch z Lb.gr:=⟨GI.val,GI.at_,GI.key,GI.gr⟩
  have hxc:Lc.x=Lb.x:=GI.same.x
  refine(Pb.got wf GI).store (y:=.val (.ref fc.a)) wf hsto (eH (i:=5) rfl) (stor_of' _ (by simp[hU])) rfl fun sd Pd=>?_
  have hfmc:fc∈Lc.inf:=aE hjc
  have hlenb:5<ρb.length:=by rw[Pb.C.len];decide
  have hgsc:gs Lc.gr (1+2 * n+1):=by rw[hgrc];exact wN hsb
  refine wpAny_execs_cons (wpAny_Expr ?_ hint rfl)
  refine Call_method1 rfl (gZ rfl) hl3 (gt Pd.C (eH (i:=5) rfl) d6 (by rw[c6,if_pos ⟨rfl,hlenb⟩]) (wz (Pd.C.base.inK wf) I.N.ni I.N.sS Pd.S hfmc ?_))
  have Pe:=Pd.keeps wf (aw sd (sd.toks+1))
  obtain⟨_,_,vsl,nsl,hlsl,_⟩:=Pe.S.info fc hfmc
  refine⟨"list", "list.append",F.plainAttrs_list,F.slot_list_append,F.type_list_append,hlsl.isList.typeIs,(fun b e=>by cases e;exact⟨_,hlsl,rfl⟩),?_⟩
  refine Calls.callWith_builtin rfl (Calls.evalArgs_plain (Calls.spliced_cons (di Pe.C (eH (i:=1) rfl) d2 ((lL (by decide)).trans hRP.2) fun u ru=>Calls.spliced_nil ?_)))
  refine x11 (fC ru) fun tu e1=>?_;subst e1
  refine Dd Pe.S hjc (by have:=(wO hgsc).2 fc hfmc;lia) fun h' hsb' Sf=>?_
  refine wpAny_execs_nil ?_
  have Pf:=Pe.upd (t:=sd.toks+1) wf ((lW hfmc).2.2) hsb'.extBut Sf (wK hjc rfl) ⟨rfl,rfl,rfl,rfl,rfl,rfl⟩
  refine hk _ _ _ _ Pf (fun b q=>.inl q) (fun b q=>?_) ⟨(lL (by decide)).trans hRP.1,(lL (by decide)).trans hRP.2⟩ ⟨by show Lc.x=_;rw[hxc,hxb],?_,?_⟩
  ·rcases q with q | q
   ·exact .inl q
   ·exact(GI.new b q).imp (Pb.hO b) id
  ·rw[wJ Pe.S.keys hjc,hkeyc,hgrc,hgb,List.take_add_one,hz,Option.toList_some,List.foldl_append]
   rfl
  ·rw[wJ Pe.S.keys hjc,show 1+2 * (n+1)=1+2 * n+1+1 by lia]
   exact Dm hgsc
 ·refine cN hJe fun hxe hge U=>?_
  show wpAny _ _ (execs [] env) _ _ _
  refine wpAny_execs_nil (hnx _ ⟨rfl,Le,Pe.S,Pe.same,?_,?_,fun b hb=>?_⟩)
  ·rw[hge,af,jl];rfl
  ·have k2:KM (fun b=>b∈L.addrs\/aT env b) s s':=(KM.of k0).trans Pe.km
   obtain⟨h1,t1,rfl,k3,e3⟩:=k2
   exact⟨h1,t1,rfl,fun b o nb e=>k3 b o (fun q=>q.elim nb fun q=>by rw[g9 k0 (hSt b q)]at e;cases e) e,e3⟩
  ·exact(Pe.new b hb).imp id fun q=>g9 k0 q
end
noncomputable def jA:Str:=ofString "graph"
noncomputable def ma:List Str:=[aD,jA,az,iX]
noncomputable def wQ(P:Nat->Pos)(u1:List Stmt):List Stmt:=[.Assign [.Attribute (.Name aD (P 0)) (ofString "_node2info") (P 1)] (.Dict [] [] (P 2)) (P 3),.Assign [.Attribute (.Name aD (P 4)) (ofString "_ready_nodes") (P 5)] (.Constant .none 0 (P 6)) (P 7),.Assign [.Attribute (.Name aD (P 8)) (ofString "_npassedout") (P 9)] (.Constant (.int 0) 0 (P 10)) (P 11),.Assign [.Attribute (.Name aD (P 12)) (ofString "_nfinished") (P 13)] (.Constant (.int 0) 0 (P 14)) (P 15),
 .If (.Compare (.Name jA (P 16)) [.IsNot] [.Constant .none 0 (P 17)] (P 18)) u1 [] (P 19)]
inductive isTSInit(b:List Stmt):Prop where
 | mk (h1:b=wQ AF AN):isTSInit b
structure TInfo(G:Glo)(fd:FuncData)(body:List Stmt):Prop where
 ts:dL G.K TS=true
 init:findIn G.K (.ref TS) "__init__" = some (some (.ref fT))
 isfn:typeIn G.K (.ref fT)=some (.type "function")
 FI:FnInfo G fT fd body [aD,jA] ma
 bind:∀(s:Shared),G.K.In s.heap->∀v,BindsTo s fd ⟨[v],[]⟩ ([aD,jA].zip [v,.none])
 bd:isTSInit body
section
variable{G:Glo}{env:Env}{sc:Scope}{ctx:List (Option Str)}{A:Around}{O:Addr->Prop}{ρ:List SV}{s s':Shared}{E:Value->Shared->Prop}
theorem Do(nm:Str)(hsh:Int)(key v:Value)(es:List DictEntry):(putL nm hsh key v es).length<=es.length+1:=by
 induction es with
 | nil=>exact aL _
 | cons e r ih =>
  unfold putL
  split
  ·simp
  ·simpa using ih
theorem ko{nm:Str}{hsh:Int}{key v:Value}{es:List DictEntry}(m:Nat)(h:es.length<=m):(putL nm hsh key v es).length<=m+1 :=
 ae (Do ..) (nX h)
theorem o5{x dx:Addr}{nm:Str}{v:Value}{es:List DictEntry}{n:Nat}{Q:Unit->Shared->Prop}(wf:G.Wf)(hc:dL G.K TS=true)(hn:nm∈e8)(C:Cond G env sc ctx A O (fun U=>none) ρ s)(hx:s.heap.get? x=some (instObj TS dx))(hdx:s.heap.get? dx=some (dictOf es n))
 (hxd:x≠dx) (hdO:O dx) (hdS:¬aT env dx) (hl:(getL nm es).isSome=true) (hz:es.length<=999)
 (h:∀s' hs tk m,KM (· = dx) s s'->Cond G env sc ctx A O (fun U=>none) ρ s'->s'.heap.get? x=some (instObj TS dx)->s'.heap.get? dx=some (dictOf (putL nm hs (.str nm tk) v es) m)->Q () s'):wpAny (model G.prog G.w) A (setAttr (.ref x) nm v) Q E s:=by
 refine fy (oY hc hn) fun f1 f2 f3 f4 f5 f6=>?_
 have I:InstAt s.heap x (instObj TS dx) TS (some (dictOf es n)):=⟨hx,rfl,rfl,hdx⟩
 refine wq (C.base.inK wf) I rfl f5 f6 f3 f4 hl hz fun h' hsb hd=>?_
 have k:KM (· = dx) s { s with heap:=h',toks:=s.toks+2 }:=KM.chg hsb.extBut ⟨_,hd⟩ rfl
 exact h _ _ _ _ k (C.outer wf k (fun b q=>q▸hdO) fun b q=>q▸hdS) (hsb.extBut _ _ hxd hx) hd
theorem Dp{fd:FuncData}{body:List Stmt}(wf:G.Wf)(N:TInfo G fd body)(ok:Okay A O s)(B:G.Base O s.heap)(hroom:A.depth+10<1000) :
 wpAny (model G.prog G.w) A (call (.ref TS) []) (fun v s'=>∃L,v=.ref L.x/\Keeps s s'/\(∀b∈L.addrs,s.heap.get? b=none)/\SorAt G.prog G.w L s'.heap/\L.inf=[]/\L.rd=none/\L.po=0/\L.fi=0) E s:=by
 have X:=B.inK wf
 obtain⟨h,g,d,tk,os⟩:=s
 have hmk:makesIn G.K TS=true:=by
  have:=N.ts;unfold dL at this;simp only[cF]at this;exact this.1.1.1.1
 refine wpAny_call (make_core (makes_of X hmk) (looks_findIn X N.init) (fun self=>bind_fn X self N.isfn) (.inl rfl) ?_)
 generalize hx:h.objs.size+1=x
 have hdx:((h.push emptyDict).push (instObj TS h.objs.size)).get? h.objs.size=some emptyDict:=Heap.get?_push_of_some _ (Heap.get?_push_size _ rfl)
 have hxx:((h.push emptyDict).push (instObj TS h.objs.size)).get? x=some (instObj TS h.objs.size):=by
  have:((h.push emptyDict).push (instObj TS h.objs.size)).get? (h.push emptyDict).objs.size=some (instObj TS h.objs.size):=Heap.get?_push_size _ rfl
  rw[Heap.size_push]at this
  rw[<- hx];exact this
 generalize hdd:h.objs.size=dx at hdx hxx hx ⊢
 generalize hh2:(h.push emptyDict).push (instObj TS dx)=h2 at hdx hxx ⊢
 have hxd:x≠dx:=by rw[<- hx];exact Nat.succ_ne_self _
 have k02:Keeps ⟨h,g,d,tk,os⟩ ⟨h2,g,d,tk,os⟩:=⟨h2,tk,rfl,fun b o e=>hh2▸Heap.get?_push_of_some _ (Heap.get?_push_of_some _ e)⟩
 have fresh:∀b,@LE.le Nat _ dx b->h.get? b=none:=fun b hb=>by
  cases e:h.get? b with
  | none=>rfl
  | some o=>have:=Heap.lt_size e;rw[hdd]at this;exact absurd this (cy.mpr hb)
 have hx0:h.get? x=none:=fresh x (by rw[<- hx];exact dH _)
 have hd0:h.get? dx=none:=fresh dx (aL _)
 have ok2:Okay A (fun b=>O b\/b=dx) ⟨h2,g,d,tk,os⟩:=⟨ok.hok.keeps k02,fun b hb q=>q.elim (ok.hno b hb) (fun z=>by
  refine x11 (ok.hok.there b hb) fun o e=>?_
  rw[z]at e
  have e':h.get? dx=some o:=e
  rw[hd0]at e';cases e'),fun b q=>by
  rcases q with q | rfl
  ·refine x11 (ok.obs b q) fun o e=>?_;exact⟨o,al k02 b o e⟩
  ·exact⟨_,hdx⟩⟩
 have B2:G.Base (fun b=>O b\/b=dx) h2:=⟨fun b o e=>al k02 b o (B.kp b o e),fun b q=>by
  rcases q with q | rfl
  ·exact B.off b q
  ·cases e:G.hB.get? b with
   | none=>rfl
   | some o=>have:h.get? b=some o:=B.kp b o e;rw[hd0]at this;cases this⟩
 refine wH (s:=⟨h2,g,d,tk,os⟩) (s':=⟨h2,g,d,tk,os⟩) (O:=fun b=>O b\/b=dx) (vs:=[.ref x,.none]) (ys:=[.val (.ref x),.dat .none]) (A:=A.under (.builtin "type.__call__" ⟨[.ref TS],[]⟩)) wf N.FI B2 ⟨ok2.hok,ok2.hno,ok2.obs⟩ B2 (fun i v y hv hy=>?_) rfl rfl ?_ (fun A Q E q=>N.bind ⟨h2,g,d,tk,os⟩ (B2.inK wf) (.ref x) _ A E Q q) fun env O' s₁ k1 hO hO2 hSt hsto C E' Qf hret hnx=>?_
 ·match i with
  | 0=>simp at hv hy;subst hv hy;exact .inr rfl
  | 1=>simp at hv hy;subst hv hy;exact .inl ⟨_,rfl,.none⟩
  | n+2=>simp at hv
 ·rw[depth_under_kw];lia
 ·have bd:=N.bd
  obtain⟨hb⟩:=bd
  rw[hb]
  unfold wQ
  have hds:¬aT env dx:=fun q=>by have:=hSt dx q;rw[show(⟨h2,g,d,tk,os⟩:Shared).heap.get? dx=h2.get? dx from rfl,hdx]at this;cases this
  have hdO:O' dx:=hO dx (.inr rfl)
  have hself:(ma.map some)[0]? = some (some aD):=rfl
  have hgr:(ma.map some)[1]? = some (some jA):=rfl
  have db1:(aD==ofString "__debug__")=false:=by decide +kernel
  have db2:(jA==ofString "__debug__")=false:=by decide +kernel
  have hr0:(ck ma [.val (.ref x),.dat .none]).getD 0 .un=.val (.ref x):=rfl
  have hr1:(ck ma [.val (.ref x),.dat .none]).getD 1 .un=.dat .none:=rfl
  have kf:∀ {s s':Shared},Keeps ⟨h,g,d,tk,os⟩ s->KM (· = dx) s s'->Keeps ⟨h,g,d,tk,os⟩ s':=fun a b=>KM.keeps a b fun c q=>by
   have q:c=dx:=q
   rw[q];exact hd0
  have k01:=aQ k02 k1
  refine wpAny_execs_cons (iV (sc:=fd.scope) (O:=O') (ω:=fun U=>none) rfl hself db1 hr0 ?_)
  rw[eval_Dict_empty]
  refine wpAny_bind (wpAny_standAt ?_)
  unfold newDict
  refine wpAny_newObj_type ?_ (by size_fits)
  have kd:Keeps s₁ { s₁ with heap:=s₁.heap.push { cls:=.type "dict",data:=.dict #[] } }:=bt _
  refine⟨C.keeps wf kd,o5 wf N.ts (by simp[e8]) (C.keeps wf kd) (al kd _ _ (al k1 _ _ hxx)) (es:=[]) (n:=0) (al kd _ _ (al k1 _ _ hdx)) hxd hdO hds rfl (by decide) fun s₂ hs1 tk1 m1 k2 C2 hx2 hd2=>?_⟩
  have hn2:s₁.heap.objs.size≠dx:=fun q=>by
   have:=Heap.lt_size (al k1 _ _ hdx)
   rw[<- q]at this;exact aI _ this
  have hn2x:s₁.heap.objs.size≠x:=fun q=>by
   have:=Heap.lt_size (al k1 _ _ hxx)
   rw[<- q]at this;exact aI _ this
  have hD1:({ s₁ with heap:=s₁.heap.push { cls:=.type "dict",data:=.dict #[] } }:Shared).heap.DictOf (intKind G.prog G.w) s₁.heap.objs.size []:=Heap.DictOf.new _
  have hD2:s₂.heap.DictOf (intKind G.prog G.w) s₁.heap.objs.size []:=eU (fun o e=>k2.get _ o hn2 e) hD1
  have n20:h.get? s₁.heap.objs.size=none:=by
   cases e:h.get? s₁.heap.objs.size with
   | none=>rfl
   | some o=>exact absurd (Heap.lt_size (al k01 _ _ e)) (aI _)
  refine wpAny_execs_cons (iV rfl hself db1 hr0 (wpAny_Constant_none ⟨C2,o5 wf N.ts (by simp[e8]) C2 hx2 hd2 hxd hdO hds rfl (ae (ko 0 (aW 0)) (by decide)) fun s₃ hs2 tk2 m2 k3 C3 hx3 hd3=>?_⟩))
  refine wpAny_execs_cons (iV rfl hself db1 hr0 (wpAny_Constant_int ⟨C3.keeps wf (aw _ _),o5 wf N.ts (by simp[e8]) (C3.keeps wf (aw _ _)) hx3 hd3 hxd hdO hds rfl (ae (ko 1 (ko 0 (aW 0))) (by decide)) fun s₄ hs3 tk3 m3 k4 C4 hx4 hd4=>?_⟩))
  refine wpAny_execs_cons (iV rfl hself db1 hr0 (wpAny_Constant_int ⟨C4.keeps wf (aw _ _),o5 wf N.ts (by simp[e8]) (C4.keeps wf (aw _ _)) hx4 hd4 hxd hdO hds rfl (ae (ko 2 (ko 1 (ko 0 (aW 0)))) (by decide)) fun s₅ hs4 tk4 m4 k5 C5 hx5 hd5=>?_⟩))
  refine wpAny_execs_cons (wpAny_If (wpAny_isTrue_Compare1 (di C5 hgr db2 hr1 fun v rv=>wpAny_Constant_none ?_) rfl))
  have hv:v=.none:=by cases rv;rfl
  subst hv
  refine isNot_none (wpAny_truthy_bool ?_)
  show wpAny _ _ (execs [] env) _ _ _
  refine wpAny_execs_nil (wpAny_execs_nil (hnx _ ⟨rfl,?_⟩))
  have K2:=kf (aQ k01 kd) k2
  have K3:=kf K2 k3
  have K4:=kf (aQ K3 (aw _ _)) k4
  have K5:=kf (aQ K4 (aw _ _)) k5
  have hD5:s₅.heap.DictOf (intKind G.prog G.w) s₁.heap.objs.size []:=eU (fun o e=>k5.get _ o hn2 (k4.get _ o hn2 (k3.get _ o hn2 e))) hD2
  refine⟨⟨x,dx,s₁.heap.objs.size,[],none,0,0⟩,rfl,K5,fun b hb=>?_,⟨hx5,⟨_,_,_,_,_,_,_,_,_,_,_,hd5⟩,hD5,fun f hf=>by simp at hf,fun r l e=>by simp at e,?_⟩,rfl,rfl,rfl,rfl⟩
  ·simp only[SLay.addrs,SLay.infAs,SLay.rdAs,List.flatMap_nil,c5,aa,bz,or_false]at hb
   rcases hb with rfl | rfl | rfl
   ·exact hx0
   ·exact hd0
   ·exact n20
  ·simp[SLay.addrs,SLay.infAs,SLay.rdAs,hxd,Ne.symm hn2,Ne.symm hn2x]
end
inductive ItRaw(prog:Program)(w:World)(A:Around)(h₁ h₂:Heap)(it:Value)(its:List Value):Prop where
 | mk (I:Addr) (fp wr:List Addr) (P:Nat->Value->Prop) (St:Nat->Heap->Prop) (e:it=.ref I) (W:Walks prog w A I fp wr its.length P St) (st:St 0 h₂) (fe:∀b∈fp,∃o,h₂.get? b=some o) (wr':wr=[I]/\h₁.get? I=none)
  (iH:∀i h',St i h'->∃o T,h'.get? I=some o/\o.cls=.type T/\iH T=true) (mem:I∈fp) (item:∀i v,P i v->its[i]? = some v):ItRaw prog w A h₁ h₂ it its
theorem Dq{ρ:List SV}{i j:Nat}{y:SV}(h:j≠i):(ρ.set i y).getD j .un=ρ.getD j .un:=by
 rw[aq,aq,List.getElem?_set_ne (Ne.symm h)]
section
variable{G:Glo}{env:Env}{sc:Scope}{ctx:List (Option Str)}{A:Around}{O O':Addr->Prop}{ω:Addr->Option Nat}{ρ:List SV}{s s' s₀ s₁ s₂:Shared}{E:Value->Shared->Prop}{D:Addr}{ds:List PyData}
theorem Dr{elt iter:Expr}{tests:List Expr}{gens:List Comprehension}{scope:Scope}{pos:Pos}{depth:Nat}{its:List Value}{I:Addr}{fp wr:List Addr}{P:Nat->Value->Prop}{St:Nat->Heap->Prop}{R:Result->Shared->Prop}{i0:Nat}{x0:Str}{p0:Pos}
 {T:Value->Bool} {f:Value->List PyData} (wf:G.Wf) (hz:go gens=true) (hg:gens[depth]? = some ⟨.Name x0 p0,iter,tests,0⟩)
 (C:Cond G env sc ctx A (fun b=>O b\/b=I) ω ρ s₁) (hω:∀b i,ω b=some i->O b) (hfr:∀b,a9 env b->O b) (hfc:∀x c,env.cells.lookup x=some c->O c) (hnI:¬O I)
 (hD:O D) (hDF:¬a9 env D) (acc:AccIs G (fun b=>O b\/b=I) D s₁.heap ds)
 (W:Walks G.prog G.w A I fp wr its.length P St) (hst:St 0 s₁.heap) (hfM:∀b∈fp,¬MS env D b) (hwr:wr=[I])
 (htame:∀i h',St i h'->∃o T,h'.get? I=some o/\o.cls=.type T/\iH T=true)
 (hit:∀i v,P i v->its[i]? = some v) {h₀:Heap} (k0:∀b o,h₀.get? b=some o->s₁.heap.get? b=some o) (hM0:∀b,MS env D b\/b=I->h₀.get? b=none)
 (hsl:ρ.getD i0 .un=.un) (hsto:bu env ctx i0) (htgt:ctx[i0]? = some (some x0)) (hkx:aS sc x0=true)
 (htest:∀d∈its,∀O' s E,(∀b o,h₀.get? b=some o->s.heap.get? b=some o)->Cond G env sc ctx A O' ω (ρ.set i0 (.val d)) s ->
  wpAny (model G.prog G.w) A (forIn tests true fun c r=>if r=true then do let ok <- isTrue c env (eval c env);pure (ForInStep.yield ok)else pure (ForInStep.yield r)) (fun b s'=>b=T d/\Keeps s s') E s)
 (hbody:∀d∈its,T d=true->∀O' ds' s k Q E,(∀b o,h₀.get? b=some o->s.heap.get? b=some o)->Cond G env sc ctx A O' ω (ρ.set i0 (.val d)) s->O' D->AccIs G O' D s.heap ds'->ds'.length+(f d).length<=16777216 ->
  (∀s',KM (MS env D) s s'->Cond G env sc ctx A O' ω (ρ.set i0 (.val d)) s'->AccIs G O' D s'.heap (ds'++f d)->wpAny (model G.prog G.w) A k Q E s') ->
  wpAny (model G.prog G.w) A (gX elt gens scope pos depth (.ref D) env k) Q E s)
 (hlen:ds.length+(its.flatMap fun d=>if T d=true then f d else[]).length<=16777216)
 (hR:∀s',KI (MS env D) I s₁ s'->Cond G env sc ctx A O ω ρ s'->AccIs G O D s'.heap (ds++its.flatMap fun d=>if T d=true then f d else[])->R (.ok .next) s') :
 codeAny (model G.prog G.w) A (.compLoop (.ListComp elt gens scope pos) depth (.ref I) (.ref D) env) R s₁:=by
 subst hwr
 have hIf:I∉hfp A:=fun q=>C.ok.hno I q (.inr rfl)
 have hDI:D≠I:=fun q=>hnI (q▸hD)
 have hMO:∀b,MS env D b->O b:=fun b q=>q.elim (hfr b) fun z=>z▸hD
 generalize hg':(fun d=>if T d=true then f d else[])=g at hlen hR
 refine codeAny_loop rfl (fun n s=>∃i,i<=its.length/\n=its.length+1 - i/\St i s.heap/\Cond G env sc ctx A (fun b=>O b\/b=I) ω ρ s/\AccIs G (fun b=>O b\/b=I) D s.heap (ds++(its.take i).flatMap g) /\
  KM (fun b=>MS env D b\/b=I) s₁ s) ?_ (its.length+1) ⟨0,aW _,rfl,hst,C,by simpa using acc,KM.of (br _)⟩
 rintro n s ⟨i,hi,rfl,hst,C1,a1,k1⟩
 show wpAny _ A ((compTurn (.ListComp elt gens scope pos) depth (.ref I) (.ref D) env).onRaise (fun x=>do noteFrame x env;theTreesLotGoes x)) _ _ s
 refine wpAny_noted ?_
 rw[vJ hz hg]
 by_cases hlt:i<its.length
 ·refine wpAny_bind (wpAny_standAt (wpAny_bind (W.item i _ _ _ hlt hst fun v h₂ t₂ hP hst₂ hk₂=>?_)))
  refine x23 (htame (i+1) h₂ hst₂) fun oI TI hoI hcI htI=>?_
  refine wpAny_bind (lE hoI hcI htI ?_)
  have k2:KM (· = I) s { s with heap:=h₂,toks:=t₂ }:=⟨h₂,t₂,rfl,fun b o n e=>hk₂ b o (by simpa using n) e,fun b o e=>if q:b=I then q▸⟨oI,hoI⟩else⟨o,hk₂ b o (by simpa using q) e⟩⟩
  have C2:=C1.side wf hω hfr hfc hnI (.inr rfl) k2
  have hd:=hit i v hP
  have hmem:v∈its:=aE hd
  have a2:AccIs G (fun b=>O b\/b=I) D h₂ (ds++(its.take i).flatMap g):=a1.km k2 hDI fun b q=>.inr q
  refine wpAny_bind (wpAny_assign_Name (dJ (y:=.val v) wf hsto C2 htgt hkx rfl fun s3 k3 C3=>?_))
  have ne0:∀b o,h₀.get? b=some o->¬(MS env D b\/b=I):=fun b o e q=>by rw[hM0 b q]at e;cases e
  have g3:∀b o,h₀.get? b=some o->s3.heap.get? b=some o:=fun b o e=>k3.get b o (fun q=>ne0 b o e (.inl (.inl q))) (k2.get b o (fun q=>ne0 b o e (.inr q)) (k1.get b o (ne0 b o e) (k0 b o e)))
  have a3:=a2.km k3 hDF fun b q=>.inl (hfr b q)
  refine wpAny_bind (wpAny_mono (htest v hmem _ s3 _ g3 C3) (fun b s4 h4=>?_) fun U U x=>x)
  refine ak h4 fun e0 k4=>?_;subst e0
  have C4:=C3.keeps wf k4
  have a4:=a3.keeps k4
  have e1:its.take (i+1)=its.take i++[v]:=by rw[List.take_add_one,hd];rfl
  have e2:(its.take (i+1)).flatMap g=(its.take i).flatMap g++g v:=by rw[e1,cV];simp
  have hwk:∀j,ρ.getD j .un=.un\/ρ.getD j .un=(ρ.set i0 (.val v)).getD j .un:=fun j=>if q:j=i0 then .inl (q▸hsl)else .inr (Dq q).symm
  have fin:∀s5,KM (MS env D) s4 s5->Cond G env sc ctx A (fun b=>O b\/b=I) ω (ρ.set i0 (.val v)) s5->AccIs G (fun b=>O b\/b=I) D s5.heap (ds++(its.take i).flatMap g++g v) ->
   ∃m,m<its.length+1 - i/\∃i,i<=its.length/\m=its.length+1 - i/\St i s5.heap/\Cond G env sc ctx A (fun b=>O b\/b=I) ω ρ s5/\AccIs G (fun b=>O b\/b=I) D s5.heap (ds++(its.take i).flatMap g)/\KM (fun b=>MS env D b\/b=I) s₁ s5:=by
   intro s5 k5 C5 a5
   refine⟨its.length+1 - (i+1),Nat.sub_lt_sub_left (gG hlt) (i3 i),i+1,hlt,rfl,?_,C5.weak (pJ ..).symm hwk,by rw[e2,<- List.append_assoc];exact a5,?_⟩
   ·refine W.frame _ _ _ hst₂ fun b hb o e=>?_
    exact k5.get b o (hfM b hb) (al k4 b o (k3.get b o (fun q=>hfM b hb (.inl q)) e))
   ·exact((k1.trans (k2.mono fun b q=>.inr q)).trans ((k3.mono fun b q=>.inl (.inl q)).trans (KM.of k4))).trans (k5.mono fun b q=>.inl q)
  cases hT:T v with
  | false =>
   rw[if_neg Kr]
   have hgd:g v=[]:=by rw[<- hg'];simp[hT]
   exact wpAny_pure ⟨rfl,fin s4 (KM.of (br _)) C4 (by rw[hgd,c5];exact a4)⟩
  | true =>
   rw[if_pos rfl]
   have hgd:g v=f v:=by rw[<- hg'];simp[hT]
   refine hbody v hmem hT _ _ s4 _ _ _ (fun b o e=>al k4 b o (g3 b o e)) C4 (.inl hD) a4 ?_ fun s5 k5 C5 a5=>wpAny_pure ⟨rfl,fin s5 k5 C5 (by rw[hgd];exact a5)⟩
   have:((its.take (i+1)).flatMap g).length<=(its.flatMap g).length:=by
    conv=>rhs;rw[<- List.take_append_drop (i+1) its,cV,bb]
    exact ip ..
   rw[e2,hgd,bb]at this
   rw[bb];exact ae (cI (lj ..)) (ae (dQ this _) hlen)
 ·have hin:i=its.length:=m8 hi (cy.mp hlt)
  subst hin
  refine wpAny_bind (wpAny_standAt (wpAny_bind (W.done _ _ _ hst fun h₂ t₂ hk₂=>wpAny_pure ?_)))
  have hk:∀b o,b≠I->s.heap.get? b=some o->h₂.get? b=some o:=fun b o n e=>hk₂ b o (by simpa using n) e
  obtain⟨h2,t2,e12,g12,th12⟩:=k1
  subst e12
  refine hR _ ⟨h₂,t₂,rfl,fun b o n nI e=>?_,fun b o nI e=>?_⟩ (C1.shrink wf (fun b q=>.inl q) hω hfr hfc hnI (.inr rfl) hIf hk) ?_
  ·exact hk b o nI (g12 b o (fun q=>q.elim n nI) e)
  ·refine x11 (th12 b o e) fun o' e'=>?_
   exact⟨o',hk b o' nI e'⟩
  ·rw[jl]at a1
   obtain⟨vs,n,l1,l2⟩:=a1
   exact⟨vs,n,hk _ _ hDI l1,l2.mono (fun b o n e=>hk b o (fun q=>n (.inr q)) e) fun b o U q=>.inl q⟩
theorem Ds{use:Option (Value->Sem Unit)}{pos':Pos}{Q:Value->Shared->Prop}{elt iter:Expr}{tests:List Expr}{gs:List Comprehension}{scope:Scope}{pos:Pos}{i0:Nat}{x0:Str}{p0:Pos}{its:List Value}{vars:List Str}{T:Value->Bool}{f:Value->List PyData}
 (wf:G.Wf) (K:Cond G env sc ctx A O ω ρ s₀) (hz:go (⟨.Name x0 p0,iter,tests,0⟩::gs)=true) (hns:eY iter=true) (so:SOk sc scope vars)
 (hI:∀E,wpAny (model G.prog G.w) A (eval iter env) (fun x s₁=>Keeps s₀ s₁/\∀E,wpAny (model G.prog G.w) A (pyIter x) (fun it s₂=>Keeps s₁ s₂/\ItRaw G.prog G.w A s₁.heap s₂.heap it its) E s₁) E s₀)
 (hnew:ctx.length<=i0) (htgt:(cg scope ctx vars)[i0]? = some (some x0)) (hkx:aS (bZ sc scope) x0=true)
 (htest:∀d∈its,∀env' O' s E,(∀b o,s₀.heap.get? b=some o->s.heap.get? b=some o)->Cond G env' (bZ sc scope) (cg scope ctx vars) A O' ω ((ρ++a7 vars.length SV.un).set i0 (.val d)) s ->
  wpAny (model G.prog G.w) A (forIn tests true fun c r=>if r=true then do let ok <- isTrue c env' (eval c env');pure (ForInStep.yield ok)else pure (ForInStep.yield r)) (fun b s'=>b=T d/\Keeps s s') E s)
 (hbody:∀d∈its,T d=true->∀env' D O' ds' s k Q E,(∀i,ctx.length<=i->bu env' (cg scope ctx vars) i)->(∀b o,s₀.heap.get? b=some o->s.heap.get? b=some o)->Cond G env' (bZ sc scope) (cg scope ctx vars) A O' ω ((ρ++a7 vars.length SV.un).set i0 (.val d)) s ->
  O' D->¬a9 env' D->(∀i,ω D≠some i)->AccIs G O' D s.heap ds'->ds'.length+(f d).length<=16777216 ->
  (∀s',KM (MS env' D) s s'->Cond G env' (bZ sc scope) (cg scope ctx vars) A O' ω ((ρ++a7 vars.length SV.un).set i0 (.val d)) s'->AccIs G O' D s'.heap (ds'++f d)->wpAny (model G.prog G.w) A k Q E s') ->
  wpAny (model G.prog G.w) A (gX elt (⟨.Name x0 p0,iter,tests,0⟩::gs) scope pos 0 (.ref D) env' k) Q E s)
 (hlen:(its.flatMap fun d=>if T d=true then f d else[]).length<=16777216)
 (hfin:∀(D C:Addr) s' m,Keeps s₀ s'->s₀.heap.get? C=none->s₀.heap.get? D=none->D≠C->s'.heap.Ns C m->Rep (fun b=>O b\/b=C) s'.heap (.ref D) (.list (its.flatMap fun d=>if T d=true then f d else[]))->compPost (model G.prog G.w) A E use Q (.ref D) C (.ok .next) s') :
 wpAny (model G.prog G.w) A (comprehension (.ListComp elt (⟨.Name x0 p0,iter,tests,0⟩::gs) scope pos) scope env pos' (newList []) false (eval iter env) use) Q E s₀:=by
 have hclos:closureFor scope env=pure (clo env.cells scope.names).reverse:=vQ fun p hp hk=>by
  obtain⟨val,F,V⟩:=K.vars
  obtain⟨x,kd⟩:=p
  dsimp only at hk;subst hk
  refine x12 (F.cel x ((so.free x hp).1.imp (fun q=>(K.eo.kindOf x).trans q) fun q=>(K.eo.kindOf x).trans q)) fun c e U=>?_
  exact jO.mpr ⟨c,e⟩
 refine wpAny_comprehension_free (use:=use) (g:=⟨.Name x0 p0,iter,tests,0⟩) (gs:=gs) rfl (fun x=>oM hns) hclos so.kind (fun x hx hl=>by
  obtain⟨y,kd⟩:=x
  dsimp only at hl ⊢;subst hl
  exact iJ so.nd hx) (wpAny_mono (hI E) (fun x s₁ h₁=>?_) fun U U e=>e)
 refine ak h₁ fun k01 h₁=>?_
 refine wpAny_mono (h₁ E) (fun it s₂ h₂=>?_) fun U U e=>e
 obtain⟨k12,I,fp,wr,P,St,rfl,W,hst,hfp,hwr,htame,hIfp,hit⟩:=h₂
 have K1:=K.keeps wf k01
 refine wpAny_newObj_type (vS ?_) (by size_fits)
 refine x22 k12 fun h2 t2 e2 g12=>?_;subst e2
 dsimp only at hst hfp htame hit ⊢
 replace hfp:∀b∈fp,b<h2.objs.size:=fun b hb=>(hfp b hb).elim fun U e=>Heap.lt_size e
 have hIlt:I<h2.objs.size:=hfp I hIfp
 generalize hh3:h2.push { cls:=.type "list",dict:=none,data:=.seq ([]:List Value).toArray }=h3
 have hsz3:h3.objs.size=h2.objs.size+1:=by rw[<- hh3,Heap.size_push]
 have g23:∀b o,h2.get? b=some o->h3.get? b=some o:=fun b o e=>hh3▸Heap.get?_push_of_some _ e
 have hD3:IsL h3 h2.objs.size #[] 0:=hh3▸Heap.get?_push_size _ rfl
 generalize hh4:pushCells (h3.push { cls:=.type "dict",data:=.dict #[] }) scope.names=h4
 have g34:∀b o,h3.get? b=some o->h4.get? b=some o:=fun b o e=>hh4▸pushCells_keeps _ _ b o (Heap.get?_push_of_some _ e)
 have g14:∀b o,s₁.heap.get? b=some o->h4.get? b=some o:=fun b o e=>g34 b o (g23 b o (g12 b o e))
 have old:∀b o,s₁.heap.get? b=some o->b<h2.objs.size:=fun b o e=>Heap.lt_size (g12 b o e)
 have fresh:∀b,@LE.le Nat _ h2.objs.size b->s₁.heap.get? b=none:=fun b hb=>by
  cases e:s₁.heap.get? b with
  | none=>rfl
  | some o=>exact absurd (old b o e) (cy.mpr hb)
 let Ob:Addr->Prop:=fun b=>O b\/b=h2.objs.size\/b=h3.objs.size\/∃x,(x,b)∈cE (h3.objs.size+1) scope.names
 have hOb:∀b,Ob b->O b\/@LE.le Nat _ h2.objs.size b:=fun b q=>by
  rcases q with q | rfl | rfl | ⟨x,q⟩
  ·exact .inl q
  ·exact .inr (aL _)
  ·exact .inr (by rw[hsz3];exact dH _)
  ·have:=(eF q).1
   rw[hsz3]at this
   exact .inr (gI (gI this))
 have hOb4:∀b,Ob b->∃o,h4.get? b=some o:=fun b q=>by
  rcases q with q | rfl | rfl | ⟨x,q⟩
  ·refine x11 (K1.ok.obs b q) fun o e=>?_;exact⟨o,g14 b o e⟩
  ·exact⟨_,g34 _ _ hD3⟩
  ·exact⟨_,hh4▸pushCells_keeps _ _ _ _ (Heap.get?_push_size _ rfl)⟩
  ·refine x12 (lN scope.names (h3.push { cls:=.type "dict",data:=.dict #[] }) x b (by rw[Heap.size_push];exact q)) fun o e U=>?_
   exact⟨o,hh4▸e⟩
 have hnI:¬Ob I:=fun q=>by
  rcases hOb I q with q | q
  ·refine x11 (K1.ok.obs I q) fun o e=>?_;rw[hwr.2]at e;cases e
  ·exact cy.mpr q hIlt
 have k13:Keeps s₁ { s₁ with heap:=h3,toks:=t2 }:=⟨h3,t2,rfl,fun b o e=>g23 b o (g12 b o e)⟩
 have C0:=oL (O':=Ob) (h₃:=h3) (t:=t2) wf K1 so rfl k13 (fun b q=>.inl q) (fun b q=>(hOb b q).imp id (fresh b)) (by rw[hh4];exact hOb4) (.inr (.inr (.inl rfl))) fun x c q=>.inr (.inr (.inr ⟨x,q⟩))
 have C1:=oL (O':=fun b=>Ob b\/b=I) (h₃:=h3) (t:=t2) wf K1 so rfl k13 (fun b q=>.inl (.inl q)) (fun b q=>by
  rcases q with q | rfl
  ·exact(hOb b q).imp id (fresh b)
  ·exact .inr hwr.2) (fun b q=>by
  rw[hh4]
  rcases q with q | rfl
  ·exact hOb4 b q
  ·refine x22 (htame 0 _ hst) fun o T e U=>?_
   exact⟨o,g34 _ _ (g23 _ _ e)⟩) (.inl (.inr (.inr (.inl rfl)))) fun x c q=>.inl (.inr (.inr (.inr ⟨x,q⟩)))
 rw[hh4]at C0 C1
 have hMSge:∀b,MS (gq scope h3.objs.size env) h2.objs.size b->@LE.le Nat _ h2.objs.size b:=fun b q=>by
  rcases q with(rfl | ⟨q,_⟩) | rfl
  ·show @LE.le Nat _ h2.objs.size h3.objs.size;rw[hsz3];exact dH _
  ·have q : @LT.lt Nat _ h3.objs.size b:=q
   rw[hsz3]at q;exact gI (Nat.le_of_lt q)
  ·exact aL _
 have hDF:¬a9 (gq scope h3.objs.size env) h2.objs.size:=fun q=>by
  rcases q with q | ⟨q,_⟩
  ·have q:h2.objs.size=h3.objs.size:=q
   rw[hsz3]at q;exact cK (i3 _) q
  ·have q : @LT.lt Nat _ h3.objs.size h2.objs.size:=q
   rw[hsz3]at q;exact cy.mpr (dH _) q
 have hDw:∀i,ω h2.objs.size≠some i:=fun i e=>by
  refine x11 (K1.ok.obs _ (K1.om _ i e).1) fun o q=>?_
  exact aI _ (old _ o q)
 have unAt:∀i,ctx.length<=i->(ρ++a7 vars.length SV.un).getD i .un=.un:=fun i hi=>by
  rw[aq,fs (by rw[K.len];exact hi),lh]
  split<;>rfl
 have loop:codeAny (model G.prog G.w) A (.compLoop (.ListComp elt (⟨.Name x0 p0,iter,tests,0⟩::gs) scope pos) 0 (.ref I) (.ref h2.objs.size) (gq scope h3.objs.size env))
  (compPost (model G.prog G.w) A E use Q (.ref h2.objs.size) h3.objs.size) { s₁ with heap:=h4,toks:=t2 }:=by
  refine Dr (O:=Ob) (ds:=[]) wf hz rfl C1.1 (fun b i e=>(C0.1.om b i e).1) C0.1.fr C0.1.fc hnI (.inr (.inl rfl)) hDF ⟨#[],0,g34 _ _ hD3,.nil⟩
   W (W.frame _ _ _ hst fun b U o e=>g34 b o (g23 b o e)) (fun b hb q=>cy.mpr (hMSge b q) (hfp b hb)) hwr.1 htame
   hit (h₀:=s₁.heap) g14 (fun b q=>q.elim (fun z=>fresh b (hMSge b z)) fun z=>z▸hwr.2) (unAt i0 hnew) (C0.2 i0 hnew) htgt hkx
   (fun d hd O' s E g C=>htest d hd _ O' s E (fun b o e=>g b o (al k01 b o e)) C) (fun d hd hT O' ds' s k Q E g C hD a hl hk=>hbody d hd hT _ _ O' ds' s k Q E C0.2 (fun b o e=>g b o (al k01 b o e)) C hD hDF hDw a hl hk) (by simpa using hlen) ?_
  intro s' ki C a
  obtain⟨val,F,V⟩:=C.vars
  refine x12 F.loc fun m hm U=>?_
  obtain⟨vs,n,l1,l2⟩:=a
  obtain⟨h5,t5,rfl,g45,_⟩:=ki
  have hDC:h2.objs.size≠h3.objs.size:=by rw[hsz3];exact cK (i3 _)
  have kk:Keeps s₁ { s₁ with heap:=h5,toks:=t5 }:=⟨h5,t5,rfl,fun b o e=>by
   have hb:=old b o e
   refine g45 b o (fun q=>cy.mpr (hMSge b q) hb) (fun q=>?_) (g14 b o e)
   rw[q,hwr.2]at e;cases e⟩
  refine hfin h2.objs.size h3.objs.size _ m (aQ k01 kk) ?_ ?_ hDC hm (.list (n:=n) (fun q=>?_) l1 ?_)
  ·cases e:s₀.heap.get? h3.objs.size with
   | none=>rfl
   | some o =>
    have:=old _ o (al k01 _ o e)
    rw[hsz3]at this
    exact absurd this (cy.mpr (dH _))
  ·cases e:s₀.heap.get? h2.objs.size with
   | none=>rfl
   | some o=>exact absurd (old _ o (al k01 _ o e)) (aI _)
  ·rcases q with q | q
   ·refine x11 (K1.ok.obs _ q) fun o e=>?_
    exact aI _ (old _ o e)
   ·exact hDC q
  ·rw[List.nil_append]at l2
   exact l2.mono (fun b o n e=>e) fun b o U q=>q.elim .inl fun q=>.inr (.inr (.inl q))
 exact qN rfl loop fun E=>W.self 0 _ _ _ (W.frame _ _ _ hst fun b U o e=>g34 b o (g23 b o e)) loop
end
section
variable{prog:Program}{w:World}{K:Type}[DecidableEq K]{knd:KeyKind prog w K}{A:Around}{E:Value->Shared->Prop}{s:Shared}
theorem Dt{it d:Addr}{i ep:Nat}{kvs:List (K × Value)}{Q:Option Value->Shared->Prop}(hh:aX A s.heap)(hne:it∉hfp A)(hit:s.heap.IsValIter it d i kvs.length ep)
 (hm:s.heap.DictAt knd d kvs ep) (hx:kvs[i]? = none)
 (hQ:∀h',Heap.ExtBut it s.heap h'->Q none { s with heap:=h' }):wpAny (model prog w) A (pyNext (.ref it)) Q E s:=by
 refine x13 (id hit) fun o ho hc hd=>?_
 refine x26 (id hm) fun od es hod hcd hdd hk hp hn=>?_
 have hT:s.TypeIs (.ref it) "dict_valueiterator":=⟨o,ho,hc⟩
 unfold pyNext
 refine wpAny_bind (wpAny_attempt (wpAny_callSpecial?_slot (name:=ofString "__next__") hT F.slot_dict_valueiterator_next
  (wpAny_call_entry F.slot_dict_valueiterator_next hT F.entry_dict_valueiterator_next ?_ (F.args_dict_valueiterator_next_1 _))))
 refine wpAny_bind (wpAny_pure ?_)
 refine wpAny_bind ?_
 refine wpAny_bind ?_
 first | refine wpAny_bind (wpAny_typeNameOfWhole_valiter hT (wpAny_pure ?_)) | refine wpAny_bind (wpAny_typeNameOf_valiter hT (wpAny_pure ?_))
 refine wpAny_bind (wpAny_fieldsOf ho hd ?_)
 have hown:Builtin.Dict_items.ownsTuple "dict_valueiterator" = false:=by decide
 rw[hown]
 show wpAny _ _ (if(Value.ref d==Value.none)=true then _ else _) _ _ s
 rw[if_neg (show ¬((Value.ref d==Value.none)=true)from Kr)]
 refine wpAny_bind (wpAny_pure ?_)
 refine wpAny_bind (wpAny_dictEntries hod hdd ?_)
 have hsz:es.size=kvs.length:=by rw[<- hp.length];simp
 rw[if_neg (by rw[hsz];simp)]
 refine wpAny_bind (wpAny_pure ?_)
 refine wpAny_bind (wpAny_dictEpoch hod hdd ?_)
 rw[if_neg (by simp)]
 refine wpAny_pure ?_
 have hge:es.size<=i:=by rw[hsz];simpa using hx
 dsimp only
 rw[if_neg (show ¬((i:Int)<0)from Int.not_lt.mpr (ll i)),gH,Array.getElem?_eq_none hge]
 refine wpAny_bind ?_
 first | refine wpAny_bind (wpAny_typeNameOfWhole_valiter hT (wpAny_pure ?_)) | refine wpAny_bind (wpAny_typeNameOf_valiter hT (wpAny_pure ?_))
 show wpAny _ _ (setField (.ref it) 0 .none >>= _) _ _ s
 refine wpAny_bind (wpAny_setField ho hd (by simp) ?_)
 exact j2 (A':=A.in1) (hh.upd (lD hne)) fun h' hk=>hQ h' fun b o hb e=>hk b o ((Heap.SameBut.update ..).extBut b o hb e)
theorem Du{it d:Addr}{i ep:Nat}{kvs:List (K × Value)}{Q:Option Value->Shared->Prop}(hh:aX A s.heap)(hne:it∉hfp A)(hit:s.heap.IsKeyIter it d i kvs.length ep)
 (hm:s.heap.DictAt knd d kvs ep) (hx:kvs[i]? = none)
 (hQ:∀h',Heap.ExtBut it s.heap h'->Q none { s with heap:=h' }):wpAny (model prog w) A (pyNext (.ref it)) Q E s:=by
 refine x13 (id hit) fun o ho hc hd=>?_
 refine x26 (id hm) fun od es hod hcd hdd hk hp hn=>?_
 have hT:s.TypeIs (.ref it) "dict_keyiterator":=⟨o,ho,hc⟩
 unfold pyNext
 refine wpAny_bind (wpAny_attempt (wpAny_callSpecial?_slot (name:=ofString "__next__") hT F.slot_dict_keyiterator_next
  (wpAny_call_entry F.slot_dict_keyiterator_next hT F.entry_dict_keyiterator_next ?_ (F.args_dict_keyiterator_next_1 _))))
 refine wpAny_bind (wpAny_pure ?_)
 refine wpAny_bind ?_
 refine wpAny_bind ?_
 first | refine wpAny_bind (wpAny_typeNameOfWhole_keyiter hT (wpAny_pure ?_)) | refine wpAny_bind (wpAny_typeNameOf_keyiter hT (wpAny_pure ?_))
 refine wpAny_bind (wpAny_fieldsOf ho hd ?_)
 have hown:Builtin.Dict_items.ownsTuple "dict_keyiterator" = false:=by decide
 rw[hown]
 show wpAny _ _ (if(Value.ref d==Value.none)=true then _ else _) _ _ s
 rw[if_neg (show ¬((Value.ref d==Value.none)=true)from Kr)]
 refine wpAny_bind (wpAny_pure ?_)
 refine wpAny_bind (wpAny_dictEntries hod hdd ?_)
 have hsz:es.size=kvs.length:=by rw[<- hp.length];simp
 rw[if_neg (by rw[hsz];simp)]
 refine wpAny_bind (wpAny_pure ?_)
 refine wpAny_bind (wpAny_dictEpoch hod hdd ?_)
 rw[if_neg (by simp)]
 refine wpAny_pure ?_
 have hge:es.size<=i:=by rw[hsz];simpa using hx
 dsimp only
 rw[if_neg (show ¬((i:Int)<0)from Int.not_lt.mpr (ll i)),gH,Array.getElem?_eq_none hge]
 refine wpAny_bind ?_
 first | refine wpAny_bind (wpAny_typeNameOfWhole_keyiter hT (wpAny_pure ?_)) | refine wpAny_bind (wpAny_typeNameOf_keyiter hT (wpAny_pure ?_))
 show wpAny _ _ (setField (.ref it) 0 .none >>= _) _ _ s
 refine wpAny_bind (wpAny_setField ho hd (by simp) ?_)
 exact j2 (A':=A.in1) (hh.upd (lD hne)) fun h' hk=>hQ h' fun b o hb e=>hk b o ((Heap.SameBut.update ..).extBut b o hb e)
theorem Dv{h h':Heap}{a d:Addr}{i n ep:Nat}(x:h.IsValIter a d i n ep)(e:∀o,h.get? a=some o->h'.get? a=some o):h'.IsValIter a d i n ep :=
 x.elim fun o ζ=>ζ.elim fun ho r=>⟨o,e _ ho,r⟩
theorem Dw{h h':Heap}{a d:Addr}{i n ep:Nat}(x:h.IsKeyIter a d i n ep)(e:∀o,h.get? a=some o->h'.get? a=some o):h'.IsKeyIter a d i n ep :=
 x.elim fun o ζ=>ζ.elim fun ho r=>⟨o,e _ ho,r⟩
theorem mc{h h':Heap}{d:Addr}{kvs:List (K × Value)}{ep:Nat}(x:h.DictAt knd d kvs ep)(e:∀o,h.get? d=some o->h'.get? d=some o):h'.DictAt knd d kvs ep :=
 x.elim fun o ζ=>ζ.elim fun es ζ=>ζ.elim fun ho r=>⟨o,es,e _ ho,r⟩
theorem Dx(I d:Addr)(hne:d≠I)(hI:I∉hfp A)(kvs:List (K × Value))(ep:Nat) :
 Walks prog w A I (I::d::hfp A) [I] (kvs.map (·.2)).length (fun i v=>(kvs.map (·.2))[i]? = some v) (fun i h=>(h.IsValIter I d i kvs.length ep/\h.DictAt knd d kvs ep)/\aX A h) where
 sub:=fun b hb=>by simp at hb;simp[hb]
 frame:=fun U U U st hk=>⟨⟨Dv st.1.1 fun o e=>hk I (by simp) o e,mc st.1.2 fun o e=>hk d (by simp) o e⟩,st.2.frame fun b hb o e=>hk b (by simp[hb]) o e⟩
 item:=fun i s Q E hi st hQ=>by
  rw[af]at hi
  refine wpAny_pyNext_values_item st.1.1 st.1.2 (k:=(kvs[i]).1) (v:=(kvs[i]).2) (by simp[hi]) fun h' hit' hs'=>?_
  exact hQ _ h' s.toks (by simp[hi]) ⟨⟨hit',mc st.1.2 fun o e=>hs'.extBut _ _ hne e⟩,st.2.at hI hs'.extBut⟩ fun b o hb e=>hs'.extBut b o (fun h=>hb (by simp[h])) e
 done:=fun s Q E st hQ=>Dt st.2 hI st.1.1 st.1.2 (by simp) fun h' he'=>hQ h' s.toks fun b o hb e=>he' b o (fun h=>hb (by simp[h])) e
 self:=fun U U U U st hQ=>wpAny_pyIter_valiter st.1.1 hQ
theorem Dy(I d:Addr)(hne:d≠I)(hI:I∉hfp A)(kvs:List (K × Value))(ep:Nat) :
 Walks prog w A I (I::d::hfp A) [I] kvs.length (fun i v=>∃q,kvs[i]? = some q/\knd.is q.1 v=true) (fun i h=>(h.IsKeyIter I d i kvs.length ep/\h.DictAt knd d kvs ep)/\aX A h) where
 sub:=fun b hb=>by simp at hb;simp[hb]
 frame:=fun U U U st hk=>⟨⟨Dw st.1.1 fun o e=>hk I (by simp) o e,mc st.1.2 fun o e=>hk d (by simp) o e⟩,st.2.frame fun b hb o e=>hk b (by simp[hb]) o e⟩
 item:=fun i s Q E hi st hQ=>by
  refine wpAny_pyNext_dict_item st.1.1 st.1.2 (k:=(kvs[i]).1) (v:=(kvs[i]).2) (by simp[hi]) fun key h' hkey hit' hs'=>?_
  exact hQ _ h' s.toks ⟨kvs[i],by simp[hi],hkey⟩ ⟨⟨hit',mc st.1.2 fun o e=>hs'.extBut _ _ hne e⟩,st.2.at hI hs'.extBut⟩ fun b o hb e=>hs'.extBut b o (fun h=>hb (by simp[h])) e
 done:=fun s Q E st hQ=>Du st.2 hI st.1.1 st.1.2 (by simp) fun h' he'=>hQ h' s.toks fun b o hb e=>he' b o (fun h=>hb (by simp[h])) e
 self:=fun U U U U st hQ=>wpAny_pyIter_keyiter st.1.1 hQ
end
section
variable{G:Glo}{env:Env}{sc:Scope}{ctx:List (Option Str)}{A:Around}{O:Addr->Prop}{ρ:List SV}{s:Shared}{E:Value->Shared->Prop}{L:SLay}
theorem Dz{i:Nat}{x:Str}{p1 p2 ap cp:Pos}(wf:G.Wf)(hc:dL G.K TS=true)(hsys:∃o,G.hB.get? sysModules=some o)(C:Cond G env sc ctx A O (fun U=>none) ρ s)(S:SorAt G.prog G.w L s.heap)(hO:∀b∈L.addrs,O b)
 (hi:ctx[i]? = some (some x)) (hd:(x==ofString "__debug__")=false) (hy:ρ.getD i .un=.val (.ref L.x)) (hl:(ap.endLine==cp.line)=true) (E:Value->Shared->Prop) :
 wpAny (model G.prog G.w) A (eval (.Call (.Attribute (.Attribute (.Name x p1) (ofString "_node2info") p2) (ofString "values") ap) [] [] cp) env)
  (fun x s₁=>Keeps s s₁/\∀E,wpAny (model G.prog G.w) A (pyIter x) (fun it s₂=>Keeps s₁ s₂/\ItRaw G.prog G.w A s₁.heap s₂.heap it (L.inf.map fun f=>.ref f.a)) E s₁) E s:=by
 have hsm:(L.n2i==sysModules)=false:=by
  rw[beq_eq_false_iff_ne]
  intro q
  refine x11 hsys fun o e=>?_
  have:=C.base.off L.n2i (hO L.n2i (by simp[SLay.addrs]))
  rw[q,e]at this;cases this
 refine Call_method0 rfl hl (gt C hi hd hy (oZ (C.base.inK wf) hc S ?_))
 have S2:SorAt G.prog G.w L ({ s with toks:=s.toks+1 }:Shared).heap:=S
 have nd2:∀a,Value.ref L.n2i=.ref a->∃ob,s.heap.get? a=some ob/\ob.dict=none:=fun a e=>by
  cases e
  refine x33 S.n2i fun o es ep ho hc U=>?_
  exact⟨o,ho,hc.2.1⟩
 refine⟨"dict", "dict.values",F.plainAttrs_dict,F.slot_dict_values,F.type_dict_values,S2.n2i.typeIs,nd2,?_⟩
 refine method_meetsIn F.slot_dict_values F.entry_dict_values rfl (PySem.evalArgs_none ⟨rfl,S2.n2i.typeIs,F.args_dict_values_1 _,_,meets_dict_values (intKind G.prog G.w) L.n2i hsm,⟨_,S2.n2i⟩,?_⟩)
 have k:Keeps s { s with heap:=s.heap.push { cls:=.type "dict_values",data:=.fields #[.ref L.n2i] },toks:=s.toks+1 }:=aQ (aw s (s.toks+1)) (bt (s:={ s with toks:=s.toks+1 }) _)
 refine⟨k,fun E=>?_⟩
 have S3:=ec S k
 refine x11 S3.n2i.dictAt fun ep hat=>?_
 refine wpAny_pyIter_values ⟨_,Heap.get?_push_size _ rfl,rfl,rfl⟩ hat ⟨bt _,?_⟩
 have hmap:(L.inf.map fun f=>Value.ref f.a)=(L.inf.map fun f=>(f.key,Value.ref f.a)).map (·.2):=by rw[dS];rfl
 rw[hmap]
 have hI:s.heap.objs.size+1∉hfp A:=fun q=>by
  refine x11 (C.ok.hok.there _ q) fun o e=>?_
  exact absurd (Heap.lt_size e) (cy.mpr (dH _))
 have hn2:L.n2i<s.heap.objs.size:=by
  refine x32 S.n2i fun o es ep ho U=>?_
  exact Heap.lt_size ho
 have hz:(s.heap.push { cls:=.type "dict_values",data:=.fields #[.ref L.n2i] }).objs.size=s.heap.objs.size+1:=Heap.size_push ..
 dsimp only
 generalize hN:(s.heap.push { cls:=.type "dict_values",data:=.fields #[.ref L.n2i] }).objs.size=N at hz ⊢
 have hIt:((s.heap.push { cls:=.type "dict_values",data:=.fields #[.ref L.n2i] }).push { cls:=.type "dict_valueiterator",data:=.fields #[.ref L.n2i,.int 0 0,.int (L.inf.map fun f=>(f.key,Value.ref f.a)).length 0,.int ep 0] }).get? N
  = some { cls:=.type "dict_valueiterator",data:=.fields #[.ref L.n2i,.int 0 0,.int (L.inf.map fun f=>(f.key,Value.ref f.a)).length 0,.int ep 0] }:=hN▸Heap.get?_push_size _ rfl
 have hfr:(s.heap.push { cls:=.type "dict_values",data:=.fields #[.ref L.n2i] }).get? N=none:=by
  cases e:(s.heap.push { cls:=.type "dict_values",data:=.fields #[.ref L.n2i] }).get? N with
  | none=>rfl
  | some o=>exact absurd (Heap.lt_size e) (by rw[hN];exact aI _)
 have hup:∀b o,s.heap.get? b=some o->((s.heap.push { cls:=.type "dict_values",data:=.fields #[.ref L.n2i] }).push { cls:=.type "dict_valueiterator",data:=.fields #[.ref L.n2i,.int 0 0,.int (L.inf.map fun f=>(f.key,Value.ref f.a)).length 0,.int ep 0] }).get? b=some o :=
  fun b o e=>Heap.get?_push_of_some _ (Heap.get?_push_of_some _ e)
 refine⟨N,_,_,_,_,rfl,Dx (knd:=intKind G.prog G.w) _ L.n2i (by rw[hz];exact cK (gG hn2)) (by rw[hz];exact hI) _ ep,⟨⟨⟨_,hIt,rfl,rfl⟩,hat.push _⟩,C.ok.hok.mono hup⟩,fun b hb=>?_,⟨rfl,hfr⟩,fun i h' q=>?_,by simp,fun i v e=>e⟩
 ·simp only[aa]at hb
  rcases hb with rfl | rfl | hb
  ·exact⟨_,hIt⟩
  ·refine x32 S.n2i fun o es ep ho U=>?_
   exact⟨o,hup _ _ ho⟩
  ·refine x11 (C.ok.hok.there b hb) fun o e=>?_
   exact⟨o,hup _ _ e⟩
 ·refine ak q fun z0 U=>?_;refine ak z0 fun z0 U=>?_;refine x13 z0 fun o e c U=>?_
  exact⟨o,_,e,c,by decide⟩
end
namespace B
theorem slot_li_ga:Slot "list_iterator" "__getattribute__" "object.__getattribute__" :=
 .of (owner:= "object") (n:= "__getattribute__") (by rw[typeLookup_type,builtinLookup_eq_fast];kernel_rfl) (by decide +kernel) (by decide +kernel) (by decide +kernel)
  (by first | exact .inl (by decide +kernel) | exact .inr (by decide +kernel)) (by rw[isSubtype_type];kernel_rfl)
theorem entry_o_ga:entryFor table "object.__getattribute__" = some Builtin.«object.__getattribute__»:=entryFor_of_tree (by kernel_rfl)
theorem args_o_ga(a b:Value):argsOk "object.__getattribute__" ⟨[a,b],[]⟩:=by unfold argsOk;kernel_rfl
theorem lk_li_next:typeLookup (.type "list_iterator") "__next__" = pure (some (.builtin "list_iterator.__next__")):=by rw[typeLookup_type,builtinLookup_eq_fast];kernel_rfl
theorem slot_wd_get:Slot "wrapper_descriptor" "__get__" "wrapper_descriptor.__get__" :=
 .of (owner:= "wrapper_descriptor") (n:= "__get__") (by rw[typeLookup_type,builtinLookup_eq_fast];kernel_rfl) (by decide +kernel) (by decide +kernel) (by decide +kernel)
  (by first | exact .inl (by decide +kernel) | exact .inr (by decide +kernel)) (by rw[isSubtype_type];kernel_rfl)
theorem no_wd_set:typeLookup (.type "wrapper_descriptor") "__set__" = pure none:=by rw[typeLookup_type,builtinLookup_eq_fast];kernel_rfl
theorem no_wd_del:typeLookup (.type "wrapper_descriptor") "__delete__" = pure none:=by rw[typeLookup_type,builtinLookup_eq_fast];kernel_rfl
theorem entry_wd_get:entryFor table "wrapper_descriptor.__get__" = some Builtin.«wrapper_descriptor.__get__»:=entryFor_of_tree (by kernel_rfl)
theorem args_wd_get(a b c:Value):argsOk "wrapper_descriptor.__get__" ⟨[a,b,c],[]⟩:=by unfold argsOk;kernel_rfl
theorem typeOf_li_next:typeOf (.builtin "list_iterator.__next__")=pure (.type "wrapper_descriptor"):=by kernel_rfl
theorem sub_li_owner:isSubtype (.type "list_iterator") (.type (".".intercalate ("list_iterator.__next__".cutAt '.').dropLast))=pure true:=by
 have e0 : "list_iterator.__next__".cutAt '.'=["list_iterator", "__next__"]:=by first | rfl | decide +kernel
 rw[e0,isSubtype_type];kernel_rfl
theorem li_getattr_none:typeLookup (.type "list_iterator") "__getattr__" = pure none:=by rw[typeLookup_type,builtinLookup_eq_fast];kernel_rfl
end B
section
variable{prog:Program}{w:World}{A:Around}{E:Value->Shared->Prop}{h:Heap}{g:Array GenState}{d:Drawn}{t:Nat}{os:OsState}{a:Addr}{o:Obj}
noncomputable def cn(T id:String)(a:Addr):Obj:={ cls:=.type T,data:=.fields #[.builtin id,.ref a] }
theorem DA{R:Result->Shared->Prop}(hx:h.get? a=some o)(hc:o.cls=.type "list_iterator") (hq:R (.ok (.ret (.ref h.objs.size))) ⟨h.push (cn "method-wrapper" "list_iterator.__next__" a),g,d,t,os⟩) :
 codeAny (model prog w) A (.call (.builtin "wrapper_descriptor.__get__") ⟨[.builtin "list_iterator.__next__",.ref a,.type "list_iterator"],[]⟩) R ⟨h,g,d,t,os⟩:=by
 have hT:(⟨h,g,d,t,os⟩:Shared).TypeIs (.ref a) "list_iterator":=⟨_,hx,hc⟩
 have hT5:(⟨h,g,d,t,os⟩:Shared).TypeIs (.builtin "list_iterator.__next__") "wrapper_descriptor":=B.typeOf_li_next
 have f8:=B.sub_li_owner
 refine codeAny_call_builtin B.slot_wd_get.plain B.entry_wd_get (B.slot_wd_get.check _ _ _ _ _ _ _ _ hT5 (B.args_wd_get _ _ _) ?_)
 repeat (any_goals (first | assumption | wp_step))
theorem DB{tk:Tok}{vs:Array Value}{Q:Fin->Shared->Prop}(hx:h.get? a=some { cls:=.type "list_iterator",data:=.fields vs }) (hq:Q (.done (.ret (.ref h.objs.size))) ⟨h.push (cn "method-wrapper" "list_iterator.__next__" a),g,d,t,os⟩) :
 wpAny (model prog w) A (Builtin.«object.__getattribute__» ⟨[.ref a,.str "__next__" tk],[]⟩) Q E ⟨h,g,d,t,os⟩:=by
 have hT:(⟨h,g,d,t,os⟩:Shared).TypeIs (.ref a) "list_iterator":=⟨_,hx,rfl⟩
 have hT5:(⟨h,g,d,t,os⟩:Shared).TypeIs (.builtin "list_iterator.__next__") "wrapper_descriptor":=B.typeOf_li_next
 have f4:=B.lk_li_next
 have f5:=B.typeOf_li_next
 have f6:=B.slot_wd_get.lookup
 have f7:=B.no_wd_set
 have f8:=B.no_wd_del
 repeat (any_goals (first | assumption | wp_step))
 refine DA hx rfl ?_
 repeat (any_goals (first | assumption | wp_step))
theorem DC{tk:Tok}{vs:Array Value}{R:Result->Shared->Prop}(hx:h.get? a=some { cls:=.type "list_iterator",data:=.fields vs }) (hq:R (.ok (.ret (.ref h.objs.size))) ⟨h.push (cn "method-wrapper" "list_iterator.__next__" a),g,d,t,os⟩) :
 codeAny (model prog w) A (.call (.builtin "object.__getattribute__") ⟨[.ref a,.str "__next__" tk],[]⟩) R ⟨h,g,d,t,os⟩ :=
 codeAny_call_builtin B.slot_li_ga.plain B.entry_o_ga (B.slot_li_ga.check _ _ _ _ _ _ _ _ (show(⟨h,g,d,t,os⟩:Shared).TypeIs (.ref a) "list_iterator" from⟨_,hx,rfl⟩) (B.args_o_ga _ _) (DB hx hq))
theorem DD{vs:Array Value}{Q:Value->Shared->Prop}(hx:h.get? a=some { cls:=.type "list_iterator",data:=.fields vs }) (hq:Q (.ref h.objs.size) ⟨h.push (cn "method-wrapper" "list_iterator.__next__" a),g,d,t+1,os⟩) :
 wpAny (model prog w) A (getAttr (.ref a) "__next__" true) Q E ⟨h,g,d,t,os⟩:=by
 have hT:∀tk',(⟨h,g,d,tk',os⟩:Shared).TypeIs (.ref a) "list_iterator":=fun U=>⟨_,hx,rfl⟩
 have f2:=B.slot_li_ga.lookup
 have f3:=B.slot_li_ga.bind (.ref a)
 have f5:=B.li_getattr_none
 unfold getAttr getAttrBy
 repeat (any_goals (first | assumption | exact hT _ | wp_step))
 refine DC hx ?_
 repeat (any_goals (first | assumption | exact hT _ | wp_step))
noncomputable def DE(Q:Value->Shared->Prop):PySem.Fin->Shared->Prop
 | .done (.ret v),s=>Q v s
 | _,_=>False
theorem wR{m:Addr}{id:String}{rest:List Value}{b:Builtin}{s:Shared}{Q:Value->Shared->Prop}(hm:s.heap.get? m=some (cn "method-wrapper" id a)) (hk:builtinKind id=some .slot) (hb:entryFor table id=some b) (hq:plainId id=true) (ha:argsOk id ⟨.ref a::rest,[]⟩)
 (h:wpAny (model prog w) A.in1 (b ⟨.ref a::rest,[]⟩) (DE Q) E s):wpAny (model prog w) A (call (.ref m) rest) Q E s:=by
 refine wpAny_call (codeAny_of_tree ?_)
 show wpAny _ A.in1 (load m >>= _) _ _ s
 refine wpAny_bind (wpAny_load hm ?_)
 show wpAny _ A.in1 (checkBoundCall id ⟨.ref a::rest,[]⟩ >>= fun U=>again (.builtin id ⟨.ref a::rest,[]⟩)) _ _ s
 have hcb:checkBoundCall id ⟨.ref a::rest,[]⟩=pure ():=by
  unfold checkBoundCall
  rw[hk]
  unfold argsOk at ha
  cases hs:Manifest.signature? id with
  | none=>rfl
  | some sig =>
   rw[hs]at ha
   exact ha
 rw[hcb]
 refine wpAny_bind (wpAny_pure (wpAny_pure ⟨plainId_quiet hq _,codeAny_builtin hb ?_⟩))
 rw[Around.under_plainId hq]
 refine wpAny_mono h (fun fin s' h'=>?_) fun U U e=>e
 cases fin with
 | done f=>cases f<;>first | exact h' | exact h'.elim
 | again c=>exact h'.elim
theorem B.kind_next:builtinKind "list_iterator.__next__" = some .slot:=by kernel_rfl
theorem B.plain_next:plainId "list_iterator.__next__" = true:=by decide +kernel
noncomputable def cq(sl:Addr)(i:Nat):Obj:={ cls:=.type "list_iterator",data:=.fields #[.ref sl,.int i 0] }
theorem DF{m it l:Addr}{i:Nat}{items:Array Value}{x:Value}{s:Shared}{Q:Value->Shared->Prop}(hm:s.heap.get? m=some (cn "method-wrapper" "list_iterator.__next__" it)) (hit:s.heap.get? it=some (cq l i)) (hl:s.heap.IsList l items) (hx:items[i]? = some x)
 (hQ:∀h',h'.get? it=some (cq l (i+1))->Heap.SameBut it s.heap h'->Q x { s with heap:=h' }):wpAny (model prog w) A (call (.ref m) []) Q E s:=by
 obtain⟨ol,hol,_,nl,hdl⟩:=hl
 refine wR hm B.kind_next entry_listiter_next B.plain_next (args_listiter_next _) ?_
 show wpAny _ _ (field (.ref it) 0 >>= _) _ _ s
 refine wpAny_bind (wpAny_field hit rfl (x:=.ref l) rfl ?_)
 show wpAny _ _ (if(Value.ref l==Value.none)=true then _ else _) _ _ s
 rw[if_neg (show ¬((Value.ref l==Value.none)=true)from Kr)]
 show wpAny _ _ (field (.ref it) 1 >>= _) _ _ s
 refine wpAny_bind (wpAny_field hit rfl (x:=.int i 0) rfl ?_)
 show wpAny _ _ (seqItems? (.ref l) >>= _) _ _ s
 refine wpAny_bind (wpAny_seqItems hol hdl ?_)
 simp only[gH,hx]
 refine wpAny_bind (wpAny_setField hit rfl (by simp) (wpAny_pure (hQ _ ?_ (Heap.SameBut.update ..))))
 rw[Heap.get?_update_self _ hit (Obj.isFreed_of_fields (Obj.data_mapFields rfl _))]
 simp[cq,Obj.mapFields,rawInt]
noncomputable def DG(h h':Heap)(it e:Addr):Prop:=(∀b o,b≠it->h.get? b=some o->h'.get? b=some o)/\(∃o,h'.get? it=some o)/\h.get? e=none/\∃oe ve a0,h'.get? e=some oe/\oe.cls=.type "StopIteration"/\oe.data=.fields ve/\ve[0]? = some a0/\ve[1]? = some .none
theorem DH{m it l:Addr}{i:Nat}{items:Array Value}{s:Shared}{Q:Value->Shared->Prop}(hh:aX A s.heap)(hne:it∉hfp A)(hm:s.heap.get? m=some (cn "method-wrapper" "list_iterator.__next__" it)) (hit:s.heap.get? it=some (cq l i)) (hl:s.heap.IsList l items) (hx:items[i]? = none)
 (hE:∀h' e,DG s.heap h' it e->E (.ref e) { s with heap:=h' }):wpAny (model prog w) A (call (.ref m) []) Q E s:=by
 obtain⟨ol,hol,_,nl,hdl⟩:=hl
 refine wR hm B.kind_next entry_listiter_next B.plain_next (args_listiter_next _) ?_
 show wpAny _ _ (field (.ref it) 0 >>= _) _ _ s
 refine wpAny_bind (wpAny_field hit rfl (x:=.ref l) rfl ?_)
 show wpAny _ _ (if(Value.ref l==Value.none)=true then _ else _) _ _ s
 rw[if_neg (show ¬((Value.ref l==Value.none)=true)from Kr)]
 show wpAny _ _ (field (.ref it) 1 >>= _) _ _ s
 refine wpAny_bind (wpAny_field hit rfl (x:=.int i 0) rfl ?_)
 show wpAny _ _ (seqItems? (.ref l) >>= _) _ _ s
 refine wpAny_bind (wpAny_seqItems hol hdl ?_)
 simp only[gH,hx]
 refine wpAny_bind (wpAny_rule (wpAny_bind (wpAny_setField hit rfl (by simp) ?_)))
 have hit':=Heap.get?_update_self (Obj.mapFields (·.setIfInBounds 0 Value.none)) hit (Obj.isFreed_of_fields (Obj.data_mapFields rfl _))
 generalize hh1:s.heap.update it (Obj.mapFields (·.setIfInBounds 0 Value.none))=h1 at hit' ⊢
 have hsb:Heap.SameBut it s.heap h1:=hh1▸Heap.SameBut.update ..
 have hh':aX A h1:=hh.at hne hsb.extBut
 show wpAny _ _ (newExc (.type "StopIteration") [] >>= _) _ _ _
 refine wpAny_bind ?_
 simp only[newExc,newTuple]
 refine wpAny_bind (wpAny_newObj_type ?_ (by size_fits))
 refine wpAny_bind (m:=firstArgMember _ _) (wpAny_of_eq (a:=Value.none) (by first | rfl | (simp only[firstArgMember];rfl)) ?_)
 refine wpAny_newObj_type ?_ (by size_fits)
 have hup:∀b o,h1.get? b=some o->((h1.push { cls:=.type "tuple",data:=.seq ([]:List Value).toArray }).push { cls:=.type "StopIteration",data:=.fields #[.ref h1.objs.size,.none,.none,.none,.bool false,.none,.none] }).get? b=some o:=fun b o e=>Heap.get?_push_of_some _ (Heap.get?_push_of_some _ e)
 refine vo (A:=A.in1) (hh'.mono fun b o e=>Heap.get?_push_of_some _ (Heap.get?_push_of_some _ e)) (Heap.get?_push_size _ rfl) rfl (by simp;lia) ?_ ?_
 ·intro e₀ he q
  rcases hh' with hh | ⟨e1,o,vs,hh,h1',_⟩
  ·rw[show A.in1.handled=A.handled from rfl,hh]at he;cases he
  ·rw[show A.in1.handled=A.handled from rfl,hh]at he;cases he
   rw[Heap.size_push]at q
   exact cK (gG (Heap.lt_size h1')) q
 ·intro h' o' ve' hs ho hc hd hz hv
  rw[Heap.size_push]at hs ho ⊢
  have up:∀b o,h1.get? b=some o->h'.get? b=some o:=fun b o e=>by
   have hb:=Heap.lt_size e
   rw[hs.2 b (cK (gG hb))]
   exact Heap.get?_push_of_some _ (Heap.get?_push_of_some _ e)
  refine hE h' _ ⟨fun b o n e=>up b o (hsb.extBut b o n e),⟨_,up _ _ hit'⟩,?_,o',ve',.ref h1.objs.size,ho,hc,hd,?_,?_⟩
  ·have hsz:h1.objs.size=s.heap.objs.size:=hsb.1
   rw[hsz]
   cases e:s.heap.get? (s.heap.objs.size+1)with
   | none=>rfl
   | some o=>exact absurd (Heap.lt_size e) (cy.mpr (dH _))
  ·rw[hv 0 (by decide)];rfl
  ·rw[hv 1 (by decide)];rfl
end
noncomputable def ee(B:Heap)(l:List Env)(a:Addr)(cls:Value)(h:Heap):Prop :=
 B.StaysIn h/\B.get? a=none/\h.FunFrames B l/\((∃oe vs a0,h.get? a=some oe/\oe.cls=cls/\oe.data=.fields vs/\vs[0]? = some a0/\vs[1]? = some .none)\/∃a0,h.TracedW B a cls a0)
theorem wS{h B:Heap}:∀ {l:List Env},iR l h->(∀b∈l.filterMap (·.frame),B.get? b=none)->h.FunFrames B l
 | [],_,_=>trivial
 | env::r,x,y=>by
  obtain⟨hk,L,o,es,n,h1,h2,h3⟩:=x env ag
  exact⟨hk,⟨L,o,h1,y L (by rw[nQ,h1];exact ag),h2,fun vs q=>by rw[h3]at q;cases q⟩,
   wS (fun e he=>x e (ar _ he)) fun b hb=>y b (by rw[nQ,h1];exact ar _ hb)⟩
theorem ee.there{B:Heap}{l:List Env}{a:Addr}{cls:Value}{h:Heap}(x:ee B l a cls h):∃o,h.get? a=some o/\o.cls=cls:=by
 obtain⟨_,_,_,⟨oe,vs,a0,h1,h2,_⟩ | ⟨a0,oe,vs,T,oT,ts,h1,h2,_⟩⟩:=x
 ·exact⟨oe,h1,h2⟩
 ·exact⟨oe,h1,h2.1⟩
theorem ee.of{B:Heap}{l:List Env}{a:Addr}{cls a0:Value}{h:Heap}(x:Heap.FlyingW B l a cls a0 h):ee B l a cls h:=⟨x.1,x.2.1,x.2.2.1,.inr ⟨a0,x.2.2.2⟩⟩
section
variable{M:Model}{A:Around}{E:Value->Shared->Prop}{s:Shared}{env:Env}{outer:List Env}{L a:Addr}{cls:Value}{B:Heap}
theorem rD{Q:Unit->Shared->Prop}(hfr:A.frames=some (env::outer))(hf:env.frame=some L)(T:ee B (env::outer) a cls s.heap)
 (hQ:∀h' a0,Heap.HeldW B (env::outer) a cls a0 L h'->s.heap.UpToSlots h'->Q () { s with heap:=h' }):wpAny M A (noteFrame (.ref a) env) Q E s:=by
 obtain⟨t1,t2,t3,⟨oe,vs,a0,h1,h2,h3,h4,h5⟩ | ⟨a0,ht⟩⟩:=T
 ·subst h2
  unfold noteFrame
  simp only[hf]
  refine wpAny_bind (wpAny_field h1 h3 h5 ?_)
  rw[if_neg (by decide)]
  refine wpAny_entryW hfr t3 hf h1 t1 t2 h3 (Array.getElem?_eq_some_iff.mp h5).1 h4 fun h' ζ=>ζ.elim fun n1 ζ=>ζ.elim fun n2 ζ=>ζ.elim fun n3 n4=>hQ h' a0 ⟨n1,t2,n2,n3⟩ n4
 ·exact wpAny_looks_onW hfr hf ⟨t1,t2,t3,ht⟩ fun h' hh hu=>hQ h' a0 hh hu
theorem DI{Q:Unit->Shared->Prop}(hfr:A.frames=some (env::outer))(hf:env.frame=some L)(T:ee B (env::outer) a cls s.heap)
 (hQ:∀h',ee B outer a cls h'->s.heap.UpToSlots h'->Q () { s with heap:=h' }):wpAny M A (leaving env (.ref a)) Q E s:=by
 obtain⟨t1,t2,t3,⟨oe,vs,a0,h1,h2,h3,h4,h5⟩ | ⟨a0,ht⟩⟩:=T
 ·subst h2
  refine wpAny_leaving_firstW hfr t3 hf h1 t1 t2 h3 h5 h4 fun h' ζ=>ζ.elim fun n1 ζ=>ζ.elim fun n2 ζ=>ζ.elim fun n3 n4=>hQ h' (.of (a0:=a0) ⟨n1,t2,n2.2.2,n3⟩) n4
 ·exact wpAny_leaves_onW hfr hf ⟨t1,t2,t3,ht⟩ fun h' hh hu=>hQ h' (.of hh) hu
end
section
variable{prog:Program}{w:World}{A:Around}{E:Value->Shared->Prop}{s:Shared}{env:Env}{outer:List Env}{L:Addr}
theorem wU{body suite:List Stmt}{b₀:Stmt}{x:Str}{xp hp tp:Pos}{c:Value}{Q:Flow->Shared->Prop}(hfr:A.frames=some (env::outer))(hf:env.frame=some L)
 (h:wpAny (model prog w) A (execs body env) Q (fun e s₁=>∃a B cls,e=.ref a/\ee B (env::outer) a cls s₁.heap /\
  ∀h₂,B.StaysIn h₂->s₁.heap.UpToSlots h₂->(∃o,h₂.get? a=some o/\o.cls=cls)->∀E,
   wpAny (model prog w) (A.mark (some (.ref a))) (eval (.Name x xp) env) (fun v s₃=>v=c/\s₃={ s₁ with heap:=h₂ } /\
    (∀(Q:Bool->Shared->Prop) E,Q true { s₁ with heap:=h₂ }->wpAny (model prog w) (A.mark (some (.ref a))) (excMatches (.ref a) c) Q E { s₁ with heap:=h₂ }) /\
    ∀h₄,B.StaysIn h₄->s₁.heap.UpToSlots h₄->ee B (env::outer) a cls h₄->∀E,wpAny (model prog w) (A.mark (some (.ref a))) (execs (b₀::suite) env) Q E { s₁ with heap:=h₄ }) E { s₁ with heap:=h₂ }) s)
 (hn:∀s',Q .next s'->Q .next s') :
 wpAny (model prog w) A (exec (.Try body [.ExceptHandler (some (.Name x xp)) none (b₀::suite) hp] [] [] tp) env) Q E s:=by
 refine wpAny_Try_except (wpAny_mono h (fun f s₁ h₁=>?_) fun e s₁ h₁=>?_)
 ·cases f<;>first | exact h₁ | exact wpAny_execs_nil h₁
 ·refine x33 h₁ fun a B cls e3 T k=>?_;subst e3
  refine rD hfr hf T fun h₁' a0 hh hu=>?_
  refine wpAny_landsW hh fun h₂ hfl hu₂=>?_
  have u2:=hu.trans hu₂
  refine wpAny_handleBy_cons (codeAny_handlers_test (wpAny_mono (k h₂ hfl.1 u2 hfl.there _) (fun v s₃ h₃=>?_) fun U U e=>e)) (by intro q;cases q)
  refine eq h₃ fun e0 e1 hm hs=>?_;subst e0;subst e1
  refine hm _ _ ?_
  refine codeAny_handlers_suite ?_
  refine lands_againW hfl fun h₄ hfl₄ hu₄=>?_
  exact hs h₄ hfl₄.1 (u2.trans hu₄) (.of hfl₄) _
end
structure LF(env:Env)(sc:Scope)(ctx:List (Option Str))(ρ:List SV)(h:Heap):Prop where
 eo:EnvOk env sc
 co:CtxOk sc ctx
 len:ρ.length=ctx.length
 vars:∃val,FrameV env h val/\∀(i:Nat) (x:Str) (v:Value),ctx[i]? = some (some x)->ρ.getD i .un=.val v->val x=some v
theorem DJ{h h':Heap}{a:Addr}{m:Str->Option Value}(x:h.Ns a m)(k:∀o,h.get? a=some o->∃sl,h'.get? a=some { o with slots:=sl }):h'.Ns a m:=by
 refine x33 x fun o es ep h1 h2 h3=>?_
 refine x11 (k o h1) fun sl h4=>?_
 exact⟨_,es,ep,h4,h2,h3⟩
theorem DK{h h':Heap}{c:Addr}{v:Option Value}(x:h.IsCell c v)(k:∀o,h.get? c=some o->∃sl,h'.get? c=some { o with slots:=sl }):h'.IsCell c v:=by
 refine x12 x fun o h1 h2=>?_
 refine x11 (k o h1) fun sl h4=>?_
 exact⟨_,h4,h2⟩
theorem FrameV.slots{env:Env}{h h':Heap}{val:Str->Option Value}(F:FrameV env h val)(k:∀b o,aT env b->h.get? b=some o->∃sl,h'.get? b=some { o with slots:=sl }):FrameV env h' val :=
 ⟨F.loc.elim fun m ζ=>ζ.elim fun h1 h2=>⟨m,DJ h1 fun o e=>k _ o (.inl rfl) e,h2⟩,fun x hx=>(F.cel x hx).elim fun c ζ=>ζ.elim fun h1 h2=>⟨c,h1,DK h2 fun o e=>k _ o (.inr ⟨x,h1⟩) e⟩⟩
section
variable{prog:Program}{w:World}{env:Env}{sc:Scope}{ctx:List (Option Str)}{A:Around}{ρ:List SV}{s:Shared}{E:Value->Shared->Prop}{h h':Heap}
theorem LF.by(F:LF env sc ctx ρ h)(k:∀b o,aT env b->h.get? b=some o->∃sl,h'.get? b=some { o with slots:=sl }):LF env sc ctx ρ h' :=
 ⟨F.eo,F.co,F.len,F.vars.elim fun val ζ=>ζ.elim fun f v=>⟨val,f.slots k,v⟩⟩
theorem LF.keeps{s s':Shared}(F:LF env sc ctx ρ s.heap)(k:Keeps s s'):LF env sc ctx ρ s'.heap:=F.by fun b o U e=>⟨o.slots,al k b o e⟩
theorem LF.of{G:Glo}{O:Addr->Prop}{ω:Addr->Option Nat}(C:Cond G env sc ctx A O ω ρ s):LF env sc ctx ρ s.heap :=
 ⟨C.eo,C.co,C.len,let⟨val,f,v⟩:=C.vars;⟨val,f,fun i x u h1 h2=>by
  have:=v i x h1
  rw[h2]at this;exact this⟩⟩
theorem LF.ld{i:Nat}{x:Str}{p:Pos}{v:Value}{Q:Value->Shared->Prop}(F:LF env sc ctx ρ s.heap)(hi:ctx[i]? = some (some x))(hd:(x==ofString "__debug__")=false) (hy:ρ.getD i .un=.val v) (h:Q v s):wpAny (model prog w) A (eval (.Name x p) env) Q E s:=by
 refine x12 F.vars fun val f V=>?_
 have hv:=V i x v hi hy
 refine wpAny_Name ?_ hd
 rcases F.co.kd i x hi with hk | hk | hk
 ·refine x12 f.loc fun m hn hm=>?_
  exact wpAny_loadName_local F.eo.kindS ((F.eo.kindOf x).trans hk) hn ((hm x ((F.eo.kindOf x).trans hk)).trans hv) h
 ·refine x12 (f.cel x (.inl ((F.eo.kindOf x).trans hk))) fun c h1 h2=>?_
  exact wpAny_loadName_cell F.eo.kindS ((F.eo.kindOf x).trans hk) h1 (hv▸h2) h
 ·refine x12 (f.cel x (.inr ((F.eo.kindOf x).trans hk))) fun c h1 h2=>?_
  exact wpAny_loadName_free F.eo.kindS ((F.eo.kindOf x).trans hk) h1 (hv▸h2) h (F.eo.noclass x hk)
theorem LF.st{i:Nat}{x:Str}{v:Value}{Q:Unit->Shared->Prop}(F:LF env sc ctx ρ s.heap)(hi:ctx[i]? = some (some x))(hk:sc.names.lookup x=some .local)
 (h:∀s',KM (· = env.locals) s s'->LF env sc ctx (ρ.set i (.val v)) s'.heap->Q () s'):wpAny (model prog w) A (storeName env x v) Q E s:=by
 refine x12 F.vars fun val f V=>?_
 have hk':=(F.eo.kindOf x).trans hk
 refine x12 f.loc fun m hn hm=>?_
 refine wpAny_storeName_local hk' hn (fun h' hn' hs'=>?_) (by rw[F.eo.kindS];rfl)
 have k:KM (· = env.locals) s { s with heap:=h',toks:=s.toks+1 }:=KM.chg hs'.extBut (hn'.elim fun o ζ=>ζ.elim fun U ζ=>ζ.elim fun U ζ=>ζ.elim fun e U=>⟨o,e⟩) rfl
 refine h _ k ⟨F.eo,F.co,by simp[F.len],fun y=>if y=x then some v else val y,⟨⟨_,hn',fun y hy=>?_⟩,fun y hy=>?_⟩,fun j y u h1 h2=>?_⟩
 ·by_cases q:y=x
  ·simp[q]
  ·simp only[q,if_false];exact hm y hy
 ·refine x12 (f.cel y hy) fun c h1 h2=>?_
  have:y≠x:=fun q=>by subst q;rw[hk']at hy;rcases hy with hy | hy<;>cases hy
  rw[if_neg this]
  exact⟨c,h1,h2.sameBut hs' fun q=>qM hn (q▸h2)⟩
 ·rw[c6]at h2
  by_cases q:i=j
  ·subst q
   have:y=x:=by rw[hi]at h1;cases h1;rfl
   subst this
   have hl:i<ρ.length:=by rw[F.len];exact(cY.mp h1).1
   rw[if_pos ⟨rfl,hl⟩]at h2
   cases h2
   simp
  ·have:y≠x:=fun z=>q (F.co.inj i j x hi (z▸h1))
   rw[if_neg fun z=>q z.1]at h2
   simp only[this,if_false]
   exact V j y u h1 h2
theorem LF.sto{i:Nat}{x:Str}{p:Pos}{v:Value}{Q:Unit->Shared->Prop}(F:LF env sc ctx ρ s.heap)(hi:ctx[i]? = some (some x))(hk:sc.names.lookup x=some .local)
 (h:∀s',KM (· = env.locals) s s'->LF env sc ctx (ρ.set i (.val v)) s'.heap->Q () s'):wpAny (model prog w) A (assign (.Name x p) env v) Q E s :=
 wpAny_assign_Name (F.st hi hk h)
end
structure Ent where
 m:Addr
 it:Addr
 sl:Addr
 pos:Nat
structure FCD where
 a1:Addr
 a2:Addr
 a3:Addr
 a4:Addr
 ks:List Int
 ms:List Addr
 es:List Ent
 sn:List Int
 ns:List (Int × Int)
 xs:List (Addr × Obj):=[]
noncomputable def bE(e:Ent):List Addr:=[e.m,e.it]
noncomputable def FCD.addrs(D:FCD):List Addr:=D.a1::D.a2::D.a3::D.a4::D.es.flatMap bE
inductive Prs:List (Int × Value)->List (Int × Int)->Prop
 | nil:Prs [] []
 | cons (k i:Int) (t:Tok) {a b}:Prs a b->Prs ((k,.int i t)::a) ((k,i)::b)
theorem Prs.fst:∀ {a:List (Int × Value)} {b:List (Int × Int)},Prs a b->a.map (·.1)=b.map (·.1)
 | _,_,.nil=>rfl
 | _,_,.cons k i t r=>by simp[r.fst]
theorem Prs.len{a:List (Int × Value)}{b:List (Int × Int)}(h:Prs a b):a.length=b.length:=by
 have:=congrArg List.length h.fst
 simpa using this
theorem Prs.snoc{k i:Int}{t:Tok}:∀ {a:List (Int × Value)} {b:List (Int × Int)},Prs a b->Prs (a++[(k,.int i t)]) (b++[(k,i)])
 | _,_,.nil=>.cons k i t .nil
 | _,_,.cons k' i' t' r=>.cons k' i' t' r.snoc
theorem Prs.at{k:Int}:∀ {a:List (Int × Value)} {b:List (Int × Int)} {i:Int},Prs a b->(b.find? fun p=>p.1=k)=some (k,i)->∃t,valueAt a k=some (.int i t)
 | _,_,i,.nil,h=>by simp at h
 | _,_,i,.cons k' i' t' r,h=>by
  unfold valueAt
  rw[uh]at h ⊢
  by_cases q:k'=k
  ·simp only[q,decide_true]at h ⊢
   cases h
   exact⟨t',rfl⟩
  ·simp only[q,decide_false]at h ⊢
   exact r.at h
theorem Prs.filt{k:Int}:∀ {a:List (Int × Value)} {b:List (Int × Int)},Prs a b->Prs (a.filter fun p=>decide (p.1≠k)) (b.filter fun p=>decide (p.1≠k))
 | _,_,.nil=>.nil
 | _,_,.cons k' i' t' r=>by
  rw[ft,ft]
  by_cases q:k'=k
  ·simp only[q,ne_eq,not_true,decide_false,lp,if_false];exact r.filt
  ·simp only[ne_eq,q,not_false_iff,decide_true,if_true];exact .cons k' i' t' r.filt
structure FC(prog:Program)(w:World)(D:FCD)(h:Heap):Prop where
 stk:∃vs n,IsL h D.a1 vs n/\IntsAre vs.toList D.ks
 its:∃n,IsL h D.a2 (D.ms.map Value.ref).toArray n
 seen:∃n,h.SetOf (intKind prog w) D.a3 (fun k=>decide (k∈D.sn)) n/\n<=D.sn.length
 n2s:∃kvs,h.DictOf (intKind prog w) D.a4 kvs/\Prs kvs D.ns
 ent:∀e∈D.es,h.get? e.m=some (cn "method-wrapper" "list_iterator.__next__" e.it)/\h.get? e.it=some (cq e.sl e.pos)
 nd:D.addrs.Nodup
 ext:∀p∈D.xs,h.get? p.1=some p.2
 ap:∀p∈D.xs,p.1∉D.addrs
theorem kq{prog:Program}{w:World}{h h':Heap}{a:Addr}{S:Int->Bool}{n:Nat}(x:h.SetOf (intKind prog w) a S n)(e:∀o,h.get? a=some o->h'.get? a=some o):h'.SetOf (intKind prog w) a S n :=
 x.elim fun o ζ=>ζ.elim fun es ζ=>ζ.elim fun ep ζ=>ζ.elim fun t ζ=>ζ.elim fun h1 r=>⟨o,es,ep,t,e o h1,r⟩
section
variable{prog:Program}{w:World}{D D':FCD}{h h':Heap}
theorem me{e:Ent}(he:e∈D.es):e.m∈D.addrs/\e.it∈D.addrs:=by
 have:∀c∈bE e,c∈D.es.flatMap bE:=fun c hc=>cb.mpr ⟨e,he,hc⟩
 simp only[FCD.addrs,aa]
 exact⟨.inr (.inr (.inr (.inr (this _ (by simp[bE]))))),.inr (.inr (.inr (.inr (this _ (by simp[bE])))))⟩
theorem FC.there(x:FC prog w D h){c:Addr}(hc:c∈D.addrs):∃o,h.get? c=some o:=by
 simp only[FCD.addrs,aa]at hc
 rcases hc with rfl | rfl | rfl | rfl | hc
 ·refine x22 x.stk fun vs n e U=>?_;exact⟨_,e⟩
 ·refine x11 x.its fun n e=>?_;exact⟨_,e⟩
 ·refine x12 x.seen fun n z1 U=>?_;refine x42 z1 fun o U U U e U=>?_;exact⟨o,e⟩
 ·refine x12 x.n2s fun kvs z1 U=>?_;refine x32 z1 fun o U U e U=>?_;exact⟨o,e⟩
 ·refine x12 (cb.mp hc) fun f hf hc=>?_
  refine ak (x.ent f hf) fun e1 e2=>?_
  simp only[bE,aa,bz,or_false]at hc
  rcases hc with rfl | rfl
  ·exact⟨_,e1⟩
  ·exact⟨_,e2⟩
noncomputable def FCD.all(D:FCD):List Addr:=D.addrs++D.xs.map (·.1)
theorem FCD.all_l{D:FCD}{c:Addr}(h:c∈D.addrs):c∈D.all:=bB _ h
theorem FCD.all_r{D:FCD}{p:Addr × Obj}(h:p∈D.xs):p.1∈D.all:=dG _ (aA.mpr ⟨p,h,rfl⟩)
theorem FC.keeps(x:FC prog w D h)(k':∀b o,b∈D.all->h.get? b=some o->h'.get? b=some o):FC prog w D h' :=
 have k:∀b o,b∈D.addrs->h.get? b=some o->h'.get? b=some o:=fun b o q=>k' b o (FCD.all_l q)
{
 stk:=let⟨vs,n,e,r⟩:=x.stk;⟨vs,n,k _ _ (by simp[FCD.addrs]) e,r⟩
 its:=let⟨n,e⟩:=x.its;⟨n,k _ _ (by simp[FCD.addrs]) e⟩
 seen:=let⟨n,e,r⟩:=x.seen;⟨n,kq e fun o q=>k _ o (by simp[FCD.addrs]) q,r⟩
 n2s:=let⟨kvs,e,r⟩:=x.n2s;⟨kvs,eU (fun o q=>k _ o (by simp[FCD.addrs]) q) e,r⟩
 ent:=fun e he=>⟨k _ _ (me he).1 (x.ent e he).1,k _ _ (me he).2 (x.ent e he).2⟩
 nd:=x.nd
 ext:=fun p hp=>k' _ _ (FCD.all_r hp) (x.ext p hp)
 ap:=x.ap }
theorem FCD.ne{D:FCD}(h:D.addrs.Nodup):(D.a1≠D.a2/\D.a1≠D.a3/\D.a1≠D.a4/\D.a2≠D.a3/\D.a2≠D.a4/\D.a3≠D.a4)/\(∀c∈D.es.flatMap bE,c≠D.a1/\c≠D.a2/\c≠D.a3/\c≠D.a4)/\(D.es.flatMap bE).Nodup:=by
 simp only[FCD.addrs,b8,aa,not_or]at h
 refine AA h fun z0 z1 z2 n10 n11=>?_;refine eq z0 fun n1 n2 n3 n4=>?_;refine cN z1 fun n5 n6 n7=>?_;refine ak z2 fun n8 n9=>?_
 exact⟨⟨n1,n2,n3,n5,n6,n8⟩,fun c hc=>⟨fun q=>n4 (q▸hc),fun q=>n7 (q▸hc),fun q=>n9 (q▸hc),fun q=>n10 (q▸hc)⟩,n11⟩
theorem gu{e:Ent}(he:e∈D.es):e.m∈D.es.flatMap bE/\e.it∈D.es.flatMap bE :=
 ⟨cb.mpr ⟨e,he,by simp[bE]⟩,cb.mpr ⟨e,he,by simp[bE]⟩⟩
theorem FC.upd1{ks:List Int}(x:FC prog w D h)(s:Heap.ExtBut D.a1 h h')(y:∃vs n,IsL h' D.a1 vs n/\IntsAre vs.toList ks):FC prog w { D with ks:=ks } h':=by
 refine cN (FCD.ne x.nd) fun z0 nn U=>?_;refine fy z0 fun n1 n2 n3 n5 n6 n8=>?_
 exact⟨y,x.its.elim fun n e=>⟨n,s _ _ (Ne.symm n1) e⟩,x.seen.elim fun n ζ=>ζ.elim fun e r=>⟨n,kq e fun o q=>s _ o (Ne.symm n2) q,r⟩,x.n2s.elim fun kvs ζ=>ζ.elim fun e r=>⟨kvs,eU (fun o q=>s _ o (Ne.symm n3) q) e,r⟩,
  fun e he=>⟨s _ _ (nn _ (gu he).1).1 (x.ent e he).1,s _ _ (nn _ (gu he).2).1 (x.ent e he).2⟩,x.nd,fun p hp=>s _ _ (fun q=>x.ap p hp (q▸by simp[FCD.addrs])) (x.ext p hp),x.ap⟩
theorem FC.upd2{ms:List Addr}(x:FC prog w D h)(s:Heap.ExtBut D.a2 h h')(y:∃n,IsL h' D.a2 (ms.map Value.ref).toArray n):FC prog w { D with ms:=ms } h':=by
 refine cN (FCD.ne x.nd) fun z0 nn U=>?_;refine fy z0 fun n1 n2 n3 n5 n6 n8=>?_
 exact⟨x.stk.elim fun vs ζ=>ζ.elim fun n ζ=>ζ.elim fun e r=>⟨vs,n,s _ _ n1 e,r⟩,y,x.seen.elim fun n ζ=>ζ.elim fun e r=>⟨n,kq e fun o q=>s _ o (Ne.symm n5) q,r⟩,x.n2s.elim fun kvs ζ=>ζ.elim fun e r=>⟨kvs,eU (fun o q=>s _ o (Ne.symm n6) q) e,r⟩,
  fun e he=>⟨s _ _ (nn _ (gu he).1).2.1 (x.ent e he).1,s _ _ (nn _ (gu he).2).2.1 (x.ent e he).2⟩,x.nd,fun p hp=>s _ _ (fun q=>x.ap p hp (q▸by simp[FCD.addrs])) (x.ext p hp),x.ap⟩
theorem FC.upd3{sn:List Int}(x:FC prog w D h)(s:Heap.ExtBut D.a3 h h')(y:∃n,h'.SetOf (intKind prog w) D.a3 (fun k=>decide (k∈sn)) n/\n<=sn.length):FC prog w { D with sn:=sn } h':=by
 refine cN (FCD.ne x.nd) fun z0 nn U=>?_;refine fy z0 fun n1 n2 n3 n5 n6 n8=>?_
 exact⟨x.stk.elim fun vs ζ=>ζ.elim fun n ζ=>ζ.elim fun e r=>⟨vs,n,s _ _ n2 e,r⟩,x.its.elim fun n e=>⟨n,s _ _ n5 e⟩,y,x.n2s.elim fun kvs ζ=>ζ.elim fun e r=>⟨kvs,eU (fun o q=>s _ o (Ne.symm n8) q) e,r⟩,
  fun e he=>⟨s _ _ (nn _ (gu he).1).2.2.1 (x.ent e he).1,s _ _ (nn _ (gu he).2).2.2.1 (x.ent e he).2⟩,x.nd,fun p hp=>s _ _ (fun q=>x.ap p hp (q▸by simp[FCD.addrs])) (x.ext p hp),x.ap⟩
theorem FC.upd4{ns:List (Int × Int)}(x:FC prog w D h)(s:Heap.ExtBut D.a4 h h')(y:∃kvs,h'.DictOf (intKind prog w) D.a4 kvs/\Prs kvs ns):FC prog w { D with ns:=ns } h':=by
 refine cN (FCD.ne x.nd) fun z0 nn U=>?_;refine fy z0 fun n1 n2 n3 n5 n6 n8=>?_
 exact⟨x.stk.elim fun vs ζ=>ζ.elim fun n ζ=>ζ.elim fun e r=>⟨vs,n,s _ _ n3 e,r⟩,x.its.elim fun n e=>⟨n,s _ _ n6 e⟩,x.seen.elim fun n ζ=>ζ.elim fun e r=>⟨n,kq e fun o q=>s _ o n8 q,r⟩,y,
  fun e he=>⟨s _ _ (nn _ (gu he).1).2.2.2 (x.ent e he).1,s _ _ (nn _ (gu he).2).2.2.2 (x.ent e he).2⟩,x.nd,fun p hp=>s _ _ (fun q=>x.ap p hp (q▸by simp[FCD.addrs])) (x.ext p hp),x.ap⟩
theorem FC.addE{e:Ent}(x:FC prog w D h)(h1:h.get? e.m=some (cn "method-wrapper" "list_iterator.__next__" e.it)) (h2:h.get? e.it=some (cq e.sl e.pos)) (hn:e.m≠e.it) (hm:e.m∉D.addrs) (hi:e.it∉D.addrs) (hx:∀p∈D.xs,p.1≠e.m/\p.1≠e.it) :
 FC prog w { D with es:=D.es++[e] } h:=by
 refine⟨x.stk,x.its,x.seen,x.n2s,fun f hf=>?_,?_,x.ext,fun p hp q=>?_⟩
 rotate_left 2
 ·have h0:=x.ap p hp
  simp only[FCD.addrs,cV,eM,List.flatMap_nil,c5,aa,au,bE,bz,or_false,not_or]at q h0
  rcases q with q | q | q | q | q | q | q
  ·exact h0.1 q
  ·exact h0.2.1 q
  ·exact h0.2.2.1 q
  ·exact h0.2.2.2.1 q
  ·exact h0.2.2.2.2 q
  ·exact(hx p hp).1 q
  ·exact(hx p hp).2 q
 ·rcases au.mp hf with hf | hf
  ·exact x.ent f hf
  ·rw[ai.mp hf];exact⟨h1,h2⟩
 ·refine cN (FCD.ne x.nd) fun z0 nn nd=>?_;refine fy z0 fun n1 n2 n3 n5 n6 n8=>?_
  simp only[FCD.addrs,aa,not_or]at hm hi
  simp only[FCD.addrs,cV,eM,List.flatMap_nil,c5,bE,b8,aa,au,bz,or_false,not_or]
  refine⟨⟨n1,n2,n3,fun q=>(nn _ q).1 rfl,Ne.symm hm.1,Ne.symm hi.1⟩,⟨n5,n6,fun q=>(nn _ q).2.1 rfl,Ne.symm hm.2.1,Ne.symm hi.2.1⟩,⟨n8,fun q=>(nn _ q).2.2.1 rfl,Ne.symm hm.2.2.1,Ne.symm hi.2.2.1⟩,⟨fun q=>(nn _ q).2.2.2 rfl,Ne.symm hm.2.2.2.1,Ne.symm hi.2.2.2.1⟩,?_⟩
  rw[cD]
  refine⟨nd,by simp[hn],fun c hc d hd q=>?_⟩
  simp only[aa,bz,or_false]at hd
  rcases hd with rfl | rfl
  ·exact hm.2.2.2.2 (q▸hc)
  ·exact hi.2.2.2.2 (q▸hc)
theorem wV{es:List Ent}{e f:Ent}(h:((es++[e]).flatMap bE).Nodup)(hf:f∈es):f.m≠e.m/\f.m≠e.it/\f.it≠e.m/\f.it≠e.it:=by
 rw[cV,cD]at h
 refine cN h fun U U h3=>?_
 have m:∀c∈bE f,c∈es.flatMap bE:=fun c hc=>cb.mpr ⟨f,hf,hc⟩
 exact⟨h3 _ (m _ (by simp[bE])) _ (by simp[bE]),h3 _ (m _ (by simp[bE])) _ (by simp[bE]),h3 _ (m _ (by simp[bE])) _ (by simp[bE]),h3 _ (m _ (by simp[bE])) _ (by simp[bE])⟩
theorem FC.nextE{es:List Ent}{e:Ent}(x:FC prog w D h)(he:D.es=es++[e])(s:Heap.ExtBut e.it h h')(h2:h'.get? e.it=some (cq e.sl (e.pos+1))):FC prog w { D with es:=es++[{ e with pos:=e.pos+1 }] } h':=by
 refine cN (FCD.ne x.nd) fun z0 nn nd=>?_;refine fy z0 fun n1 n2 n3 n5 n6 n8=>?_
 have hm:e∈D.es:=by rw[he];simp
 have nn':=nn _ (gu hm).2
 have hem:e.m≠e.it:=by
  rw[he,cV,cD]at nd
  have:=nd.2.1
  simp[bE]at this;exact this
 refine⟨x.stk.elim fun vs ζ=>ζ.elim fun n ζ=>ζ.elim fun e r=>⟨vs,n,s _ _ (Ne.symm nn'.1) e,r⟩,x.its.elim fun n e=>⟨n,s _ _ (Ne.symm nn'.2.1) e⟩,x.seen.elim fun n ζ=>ζ.elim fun e r=>⟨n,kq e fun o q=>s _ o (Ne.symm nn'.2.2.1) q,r⟩,x.n2s.elim fun kvs ζ=>ζ.elim fun e r=>⟨kvs,eU (fun o q=>s _ o (Ne.symm nn'.2.2.2) q) e,r⟩,fun f hf=>?_,?_,fun p hp=>s _ _ (fun q=>x.ap p hp (q▸(me hm).2)) (x.ext p hp),fun p hp q=>x.ap p hp ?_⟩
 ·rcases au.mp hf with hf | hf
  ·refine eq (wV (he▸nd) hf) fun q1 q2 q3 q4=>?_
   have:=x.ent f (by rw[he];exact bB _ hf)
   exact⟨s _ _ q2 this.1,s _ _ q4 this.2⟩
  ·rw[ai.mp hf]
   exact⟨s _ _ hem (x.ent e hm).1,h2⟩
 ·have:({ D with es:=es++[{ e with pos:=e.pos+1 }] }:FCD).addrs=D.addrs:=by simp[FCD.addrs,he,bE]
  rw[this];exact x.nd
 ·have:({ D with es:=es++[{ e with pos:=e.pos+1 }] }:FCD).addrs=D.addrs:=by simp[FCD.addrs,he,bE]
  rw[this]at q;exact q
theorem FC.stopE{es:List Ent}{e:Ent}(x:FC prog w D h)(he:D.es=es++[e])(s:Heap.ExtBut e.it h h'):FC prog w { D with es:=es } h':=by
 refine cN (FCD.ne x.nd) fun z0 nn nd=>?_;refine fy z0 fun n1 n2 n3 n5 n6 n8=>?_
 have hm:e∈D.es:=by rw[he];simp
 have nn':=nn _ (gu hm).2
 refine⟨x.stk.elim fun vs ζ=>ζ.elim fun n ζ=>ζ.elim fun e r=>⟨vs,n,s _ _ (Ne.symm nn'.1) e,r⟩,x.its.elim fun n e=>⟨n,s _ _ (Ne.symm nn'.2.1) e⟩,x.seen.elim fun n ζ=>ζ.elim fun e r=>⟨n,kq e fun o q=>s _ o (Ne.symm nn'.2.2.1) q,r⟩,x.n2s.elim fun kvs ζ=>ζ.elim fun e r=>⟨kvs,eU (fun o q=>s _ o (Ne.symm nn'.2.2.2) q) e,r⟩,fun f hf=>?_,?_,fun p hp=>s _ _ (fun q=>x.ap p hp (q▸(me hm).2)) (x.ext p hp),fun p hp q=>x.ap p hp ?_⟩
 ·refine eq (wV (he▸nd) hf) fun q1 q2 q3 q4=>?_
  have:=x.ent f (by rw[he];exact bB _ hf)
  exact⟨s _ _ q2 this.1,s _ _ q4 this.2⟩
 ·have hs:({ D with es:=es }:FCD).addrs.Sublist D.addrs:=by
   simp only[FCD.addrs,he,cV]
   exact((((List.sublist_append_left _ _).cons_cons _).cons_cons _).cons_cons _).cons_cons _
  exact x.nd.sublist hs
 ·have hs:({ D with es:=es }:FCD).addrs.Sublist D.addrs:=by
   simp only[FCD.addrs,he,cV]
   exact((((List.sublist_append_left _ _).cons_cons _).cons_cons _).cons_cons _).cons_cons _
  exact hs.subset q
end
noncomputable def hV:Str:=ofString "n2i"
noncomputable def eI:Str:=ofString "stack"
noncomputable def hW:Str:=ofString "itstack"
noncomputable def iY:Str:=ofString "seen"
noncomputable def gv:Str:=ofString "node2stacki"
noncomputable def eh:List Str:=[aD,hV,eI,hW,iY,gv,az]
noncomputable def jB:List (Option Str):=eh.map some
theorem DL:eh.all (fun x=>!(x==ofString "__debug__"))=true:=by decide +kernel
theorem rE{i:Nat}{x:Str}(e:eh[i]? = some x):jB[i]? = some (some x):=by rw[jB,bX,e];rfl
structure FE(G:Glo)(L:SLay)(env:Env)(sc:Scope)(A:Around)(outer:List Env)(s₁:Shared):Prop where
 wf:G.Wf
 ts:dL G.K TS=true
 ni:e9 G.K NI=true
 sS:dh G.K NI (ofString "successors") pS 2=true
 sys:∃o,G.hB.get? sysModules=some o
 hfr:A.frames=some (env::outer)
 hL:env.frame=some env.locals
 frs:iR (env::outer) s₁.heap
 hok:aX A s₁.heap
 hfp:∀b∈hfp A,¬an A b
 S:SorAt G.prog G.w L s₁.heap
 hS:∀b∈L.addrs,¬an A b
 B:∀b o,G.hB.get? b=some o->s₁.heap.get? b=some o
 hB:∀b,an A b->G.hB.get? b=none
 hBL:G.hB.get? L.n2i=none
 sto:∀b,aT env b->∃o,s₁.heap.get? b=some o
 eo:EnvOk env sc
 gl:∀x∈[ofString "set",ofString "iter",ofString "len",ofString "StopIteration"],bK sc x=true
 loc:∀x∈eh,sc.names.lookup x=some .local
 clo:∀f∈L.inf,∀n∈f.su,∃f'∈L.inf,f'.key=n
 sm:L.inf.length<=1000
 room:A.depth+20<1000
noncomputable def kz(L:SLay)(D:FCD)(y:SV):List SV:=[.val (.ref L.x),.val (.ref L.n2i),.val (.ref D.a1),.val (.ref D.a2),.val (.ref D.a3),.val (.ref D.a4),y]
structure FI(G:Glo)(L:SLay)(env:Env)(sc:Scope)(A:Around)(s₁:Shared)(D:FCD)(y:SV)(s:Shared):Prop where
 lf:LF env sc jB (kz L D y) s.heap
 fc:FC G.prog G.w D s.heap
 ks:KS (an A) (· = env.locals) s₁ s
 new:∀c∈D.all,s₁.heap.get? c=none
section
variable{G:Glo}{L:SLay}{env:Env}{sc:Scope}{A A':Around}{outer:List Env}{s₁ s s':Shared}{D D':FCD}{y y':SV}{E:Value->Shared->Prop}
theorem FE.own(e:FE G L env sc A outer s₁):an A env.locals:=⟨_,e.hfr,pC.mpr ⟨env,ag,e.hL⟩⟩
theorem FE.fdict(e:FE G L env sc A outer s₁){b:Addr}(hb:an A b):∃o,s₁.heap.get? b=some o:=by
 refine x12 hb fun l e1 h=>?_
 rw[e.hfr]at e1;cases e1
 refine x12 (pC.mp h) fun v hv hf=>?_
 obtain⟨_,L',o,es,n,h1,h2,h3⟩:=e.frs v hv
 rw[h1]at hf;cases hf
 exact⟨o,h2⟩
theorem FI.get(e:FE G L env sc A outer s₁)(I:FI G L env sc A s₁ D y s):∀b o,¬an A b->s₁.heap.get? b=some o->s.heap.get? b=some o :=
 fun b o n q=>I.ks.get b o (fun z=>n (z▸e.own)) n q
theorem FI.S(e:FE G L env sc A outer s₁)(I:FI G L env sc A s₁ D y s):SorAt G.prog G.w L s.heap:=e.S.keeps fun b o hb q=>I.get e b o (e.hS b hb) q
theorem FI.kp(e:FE G L env sc A outer s₁)(I:FI G L env sc A s₁ D y s):∀b o,G.hB.get? b=some o->s.heap.get? b=some o :=
 fun b o q=>I.get e b o (fun z=>by rw[e.hB b z]at q;cases q) (e.B b o q)
theorem FI.inK(e:FE G L env sc A outer s₁)(I:FI G L env sc A s₁ D y s):G.K.In s.heap:=fun a o q=>I.kp e a o (e.wf.K a o q)
theorem FI.base(e:FE G L env sc A outer s₁)(I:FI G L env sc A s₁ D y s):G.Base (fun U=>False) s.heap:=⟨I.kp e,fun U q=>q.elim⟩
theorem FI.hok(e:FE G L env sc A outer s₁)(I:FI G L env sc A s₁ D y s):aX A s.heap:=e.hok.frame fun b hb o q=>I.get e b o (e.hfp b hb) q
theorem FI.notS(e:FE G L env sc A outer s₁)(I:FI G L env sc A s₁ D y s){c:Addr}(hc:c∈D.all):¬aT env c:=fun q=>by
 refine x11 (e.sto c q) fun o h=>?_
 rw[I.new c hc]at h;cases h
theorem FI.notF(e:FE G L env sc A outer s₁)(I:FI G L env sc A s₁ D y s){c:Addr}(hc:c∈D.all):¬an A c:=fun q=>by
 refine x11 (e.fdict q) fun o h=>?_
 rw[I.new c hc]at h;cases h
theorem FI.keeps(I:FI G L env sc A s₁ D y s)(k:Keeps s s'):FI G L env sc A s₁ D y s' :=
 ⟨I.lf.keeps k,I.fc.keeps fun b o U q=>al k b o q,I.ks.trans (KS.of (KM.of k)),I.new⟩
theorem FI.chg{c:Addr}{h':Heap}{t:Nat}(e:FE G L env sc A outer s₁)(I:FI G L env sc A s₁ D y s)(hc:c∈D.addrs)(k:Heap.ExtBut c s.heap h')(ho:∃o,h'.get? c=some o)(fc:FC G.prog G.w D' h')(hr:kz L D' y=kz L D y)(hx:D'.xs=D.xs)
 (hn:∀b∈D'.addrs,b∈D.addrs\/s.heap.get? b=none):FI G L env sc A s₁ D' y { s with heap:=h',toks:=t }:=by
 refine⟨by rw[hr];exact I.lf.by fun b o hb q=>⟨o.slots,k b o (fun z=>I.notS e (FCD.all_l hc) (z▸hb)) q⟩,fc,I.ks.trans' (KS.of (KM.chg (M:=(· = c)) k ho rfl)) fun b hb=>?_,fun b hb=>?_⟩
 ·have hb:b=c:=hb
  exact .inr (hb▸I.new c (FCD.all_l hc))
 ·rcases au.mp hb with hb | hb
  ·rcases hn b hb with h | h
   ·exact I.new b (FCD.all_l h)
   ·exact I.ks.back h
  ·rw[hx]at hb
   exact I.new b (dG _ hb)
theorem FI.sto{i:Nat}{x:Str}{v:Value}{p:Pos}{Q:Unit->Shared->Prop}(e:FE G L env sc A outer s₁)(I:FI G L env sc A s₁ D y s)(hi:eh[i]? = some x)(hr:(kz L D y).set i (.val v)=kz L D' y')(hD:D'=D)
 (h:∀s',FI G L env sc A s₁ D' y' s'->Q () s'):wpAny (model G.prog G.w) A' (assign (.Name x p) env v) Q E s:=by
 subst hD
 refine I.lf.sto (rE hi) (e.loc x (aE hi)) fun s' k l=>h s' ⟨by rw[<- hr];exact l,I.fc.keeps fun b o hb q=>k.get b o (fun z=>I.notS e hb (z▸.inl rfl)) q,I.ks.trans (KS.of k),I.new⟩
theorem FI.ld{i:Nat}{x:Str}{p:Pos}{v:Value}{Q:Value->Shared->Prop}(I:FI G L env sc A s₁ D y s)(hi:eh[i]? = some x)(hy:(kz L D y).getD i .un=.val v)(h:Q v s):wpAny (model G.prog G.w) A' (eval (.Name x p) env) Q E s:=by
 refine I.lf.ld (rE hi) ?_ hy h
 have:=aU.mp DL x (aE hi)
 simpa using this
theorem FE.ld_bi{x:Str}{v:Value}{p:Pos}{Q:Value->Shared->Prop}(e:FE G L env sc A outer s₁)(I:FI G L env sc A s₁ D y s)(hx:x∈[ofString "set",ofString "iter",ofString "len",ofString "StopIteration"]) (hm:(x,v)∈bQ) (h:Q v s) :
 wpAny (model G.prog G.w) A' (eval (.Name x p) env) Q E s:=gm e.wf e.eo (I.base e) (e.gl x hx) hm h
theorem FE.hint(e:FE G L env sc A outer s₁):interactive env=false:=by unfold interactive;rw[e.eo.kindS];rfl
theorem jC{k:Int}{t:Tok}:(intKind G.prog G.w).is k (.int k t)=true:=intKind_is _ _ _ _
theorem wW{k:Int}{t:Tok}:(Value.int k t).scannable=true:=rfl
theorem wX{k:Int}{t:Tok}{Q:Value->Shared->Prop}(I:FI G L env sc A s₁ D y s)(h:∀s',FI G L env sc A s₁ D y s'->Q (.bool (decide (k∈D.sn))) s'):wpAny (model G.prog G.w) A' (compareOp .In (.int k t) (.ref D.a3)) Q E s:=by
 refine x12 I.fc.seen fun n hS U=>?_
 exact wpAny_inSet_of jC wW hS (h _ (I.keeps (aw _ _)))
theorem FE.notSys(e:FE G L env sc A outer s₁)(I:FI G L env sc A s₁ D y s){c:Addr}(hc:c∈D.all):(c==sysModules)=false:=by
 rw[beq_eq_false_iff_ne]
 intro q
 refine x11 e.sys fun o h=>?_
 have:=e.B _ _ h
 rw[<- q,I.new c hc]at this;cases this
theorem DM{ns:List (Int × Int)}{k:Int}(h:k∈ns.map (·.1)):∃i,(ns.find? fun p=>p.1=k)=some (k,i):=by
 cases e:ns.find? fun p=>p.1=k with
 | none =>
  refine x12 (aA.mp h) fun p hp e2=>?_;subst e2
  have:=List.find?_eq_none.mp e p hp
  simp at this
 | some p =>
  have:=List.find?_some e
  obtain⟨a,b⟩:=p
  simp at this;subst this
  exact⟨b,rfl⟩
theorem wY{ns:List (Int × Int)}{k:Int}(h:k∉ns.map (·.1)):(ns.find? fun p=>p.1=k)=none:=by
 rw[List.find?_eq_none]
 intro p hp q
 exact h (aA.mpr ⟨p,hp,by simpa using q⟩)
theorem DN{kvs:List (Int × Value)}{ns:List (Int × Int)}{k:Int}(p:Prs kvs ns)(h:k∉ns.map (·.1)):valueAt kvs k=none:=by
 unfold valueAt
 rw[List.find?_eq_none.mpr]
 ·rfl
 ·intro q hq z
  apply h
  rw[<- p.fst]
  exact aA.mpr ⟨q,hq,by simpa using z⟩
theorem DO{k:Int}{t:Tok}{Q:Value->Shared->Prop}(e:FE G L env sc A outer s₁)(I:FI G L env sc A s₁ D y s)(h:∀s',FI G L env sc A s₁ D y s'->Q (.bool (decide (k∈D.ns.map (·.1)))) s'):wpAny (model G.prog G.w) A' (compareOp .In (.int k t) (.ref D.a4)) Q E s:=by
 refine x12 I.fc.n2s fun kvs hD hp=>?_
 refine wpAny_in_of jC (e.notSys I (FCD.all_l (by simp[FCD.addrs]))) hD.mapOf ?_
 have hv:(valueAt kvs k).isSome=decide (k∈D.ns.map (·.1)):=by
  by_cases q:k∈D.ns.map (·.1)
  ·refine x11 (DM q) fun i hi=>?_
   refine x11 (hp.at hi) fun t ht=>?_
   rw[ht];simp only[q,decide_true];rfl
  ·rw[DN hp q];simp only[q,decide_false];rfl
 rw[hv]
 exact h _ (I.keeps (aw _ _))
theorem DP{k:Int}{t:Tok}{p1 p2 p3 ap cp:Pos}{Q:Flow->Shared->Prop}(e:FE G L env sc A outer s₁)(I:FI G L env sc A s₁ D (.val (.int k t)) s)(hl:(ap.endLine==cp.line)=true)(hn:k∉D.sn)(hz:D.sn.length<=2000)
 (h:∀s',FI G L env sc A s₁ { D with sn:=D.sn++[k] } (.val (.int k t)) s'->Q .next s'):wpAny (model G.prog G.w) A (exec (.Expr (.Call (.Attribute (.Name iY p1) (ofString "add") ap) [.Name az p2] [] cp) p3) env) Q E s:=by
 refine wpAny_Expr ?_ e.hint rfl
 refine x12 I.fc.seen fun n hS hle=>?_
 refine Call_method1 rfl (gZ rfl) hl (I.ld (i:=4) rfl rfl ?_)
 refine⟨"set", "set.add",F.plainAttrs_set,F.slot_set_add,F.type_set_add,hS.typeIs,hS.noDict,?_⟩
 refine Calls.callWith_builtin rfl (Calls.evalArgs_plain (Calls.spliced_cons (I.ld (i:=6) rfl rfl (Calls.spliced_nil ?_))))
 refine call_set_add jC wW hS (by show n+1<4096;lia) fun h' hs hS'=>h _ ?_
 refine I.chg e (by simp[FCD.addrs]) hs.extBut (hS'.elim fun o ζ=>ζ.elim fun U ζ=>ζ.elim fun U ζ=>ζ.elim fun U ζ=>ζ.elim fun q U=>⟨o,q⟩) (I.fc.upd3 hs.extBut ⟨if decide (k∈D.sn)=true then n else n+1,?_,?_⟩) rfl rfl fun b hb=>.inl hb
 ·have:(fun k'=>decide (k'∈D.sn++[k]))=fun k'=>(decide (k'∈D.sn)||decide (k'=k)):=by
   funext k'
   simp[au]
  rw[this];exact hS'
 ·simp only[hn,decide_false,lp,if_false,bb,cZ,List.length_nil];lia
theorem DQ{f:NInf}(hn:(L.inf.map (·.key)).Nodup)(hf:f∈L.inf):valueAt (L.inf.map fun f=>(f.key,Value.ref f.a)) f.key=some (.ref f.a):=by
 generalize L.inf=l at hn hf
 induction l with
 | nil=>cases hf
 | cons e r ih =>
  rw[aH,b8]at hn
  unfold valueAt
  rw[aH,uh]
  rcases aa.mp hf with rfl | hf
  ·simp
  ·have:e.key≠f.key:=fun q=>hn.1 (aA.mpr ⟨f,hf,q.symm⟩)
   simp only[this,decide_false]
   exact ih hn.2 hf
theorem DR{f:NInf}{t:Tok}{p1 p2 p3 p4 p5 p6 p7 p8 p9 ap cp:Pos}{Q:Flow->Shared->Prop}(e:FE G L env sc A outer s₁)(I:FI G L env sc A s₁ D (.val (.int f.key t)) s)(hl:(ap.endLine==cp.line)=true)(hf:f∈L.inf)(hz:D.ms.length<=2000)
 (h:∀s' m it,FI G L env sc A s₁ { D with ms:=D.ms++[m],es:=D.es++[⟨m,it,f.sl,0⟩] } (.val (.int f.key t)) s'->Q .next s') :
 wpAny (model G.prog G.w) A (exec (.Expr (.Call (.Attribute (.Name hW p1) (ofString "append") ap) [.Attribute (.Call (.Name (ofString "iter") p2) [.Attribute (.Subscript (.Name hV p3) (.Name az p4) p5) (ofString "successors") p6] [] p7) (ofString "__next__") p8] [] cp) p9) env) Q E s:=by
 refine wpAny_Expr ?_ e.hint rfl
 refine x11 I.fc.its fun n hI=>?_
 refine Call_method1 rfl (gZ rfl) hl (I.ld (i:=3) rfl rfl ?_)
 refine⟨"list", "list.append",F.plainAttrs_list,F.slot_list_append,F.type_list_append,hI.isList.typeIs,(fun b e=>by cases e;exact⟨_,hI,rfl⟩),?_⟩
 refine Calls.callWith_builtin rfl (Calls.evalArgs_plain (Calls.spliced_cons ?_))
 rw[arm_eval_Attribute]
 refine wpAny_bind ?_
 show wpAny _ A (eval (.Call (.Name (ofString "iter") p2) [.Attribute (.Subscript (.Name hV p3) (.Name az p4) p5) (ofString "successors") p6] [] p7) env) _ _ s
 refine dv (fun a ha=>by rw[ai.mp ha];rfl) (e.ld_bi I (by simp) (v:=.builtin "iter") (by simp[bQ]) ?_)
 refine Calls.callWith_builtin (fG _) (Calls.evalArgs_plain (Calls.spliced_cons ?_))
 rw[arm_eval_Attribute]
 refine wpAny_bind ?_
 show wpAny _ A (eval (.Subscript (.Name hV p3) (.Name az p4) p5) env) _ _ s
 have S0:=I.S e
 refine j7 (I.ld (i:=1) rfl rfl (I.ld (i:=6) rfl rfl ⟨"dict",_,slot_dict_getitem.lookup,S0.n2i.typeIs,wpAny_getItem_of jC S0.n2i.mapOf (DQ S0.keys hf) ?_⟩))
 have I1:=I.keeps (aw s (s.toks+1))
 refine wpAny_bind (wpAny_standAt (wpAny_bind (wpAny_holding (wz (I1.inK e) e.ni e.sS (I1.S e) hf ?_))))
 have I2:=I1.keeps (aw _ (s.toks+1+1))
 refine wpAny_bind (oP (wpAny_pure (Calls.spliced_nil ?_)))
 obtain⟨_,_,vsl,nsl,hsl,_⟩:=(I2.S e).info f hf
 refine call_function_entry (by decide +kernel) (by decide +kernel) kdk_entry_iter (kdk_args_iter _) ?_
 unfold Builtin.«iter»
 refine wpAny_bind (m:=someArgs "iter" 1 2 _) (wpAny_of_eq (a:=[Value.ref f.sl]) (by first | rfl | kernel_rfl!) ?_)
 show wpAny _ _ (pyIter (.ref f.sl) >>= _) _ _ _
 refine wpAny_bind (wpAny_pyIter_list hsl.isList ?_)
 refine wpAny_pure ⟨_,rfl,?_⟩
 generalize hs3:({ s with toks:=s.toks+1+1 }:Shared)=s3 at I2
 have e3:s.heap=s3.heap:=by rw[<- hs3]
 show wpAny _ _ (standAt p8.atName >>= _) _ _ { s3 with heap:=s3.heap.push (cq f.sl 0) }
 have I3:FI G L env sc A s₁ D (.val (.int f.key t)) { s3 with heap:=s3.heap.push (cq f.sl 0) }:=I2.keeps (bt _)
 refine wpAny_bind (wpAny_standAt (wpAny_bind (wpAny_holding ?_)))
 refine DD (a:=s3.heap.objs.size) (vs:=#[.ref f.sl,.int 0 0]) (Heap.get?_push_size _ rfl) ?_
 refine wpAny_bind (oP (wpAny_pure (Calls.spliced_nil ?_)))
 have hz4:(s3.heap.push (cq f.sl 0)).objs.size=s3.heap.objs.size+1:=Heap.size_push ..
 have I4:FI G L env sc A s₁ D (.val (.int f.key t)) { s3 with heap:=(s3.heap.push (cq f.sl 0)).push (cn "method-wrapper" "list_iterator.__next__" s3.heap.objs.size),toks:=s3.toks+1 } :=
  I3.keeps (bt _)
 have hxs:∀p∈D.xs,p.1≠(s3.heap.push (cq f.sl 0)).objs.size/\p.1≠s3.heap.objs.size:=fun p hp=>by
  have:=Heap.lt_size (I2.fc.ext p hp)
  exact⟨by rw[hz4];exact cK (gG this),cK this⟩
 have fr:∀c∈D.addrs,c<s3.heap.objs.size:=fun c hc=>(I2.fc.there hc).elim fun o q=>Heap.lt_size q
 have hm:(s3.heap.push (cq f.sl 0)).objs.size∉D.addrs:=fun q=>by
  have:=fr _ q
  rw[hz4]at this
  exact absurd this (cy.mpr (dH _))
 have hi:s3.heap.objs.size∉D.addrs:=fun q=>aI _ (fr _ q)
 have pL:=I4.fc.addE (hx:=hxs) (e:=⟨(s3.heap.push (cq f.sl 0)).objs.size,s3.heap.objs.size,f.sl,0⟩) (Heap.get?_push_size _ rfl) (Heap.get?_push_of_some _ (Heap.get?_push_size _ rfl)) (by rw[hz4];exact Nat.succ_ne_self _) hm hi
 have fresh1:∀b,@LE.le Nat _ s3.heap.objs.size b->s₁.heap.get? b=none:=fun b hb=>I2.ks.back (by
  cases q:s3.heap.get? b with
  | none=>rfl
  | some o=>exact absurd (Heap.lt_size q) (cy.mpr hb))
 refine x11 I4.fc.its fun n5 hI5=>?_
 have hfin:n5=n5:=rfl
 refine append_at hI5 (fun h' hs hD=>h _ (s3.heap.push (cq f.sl 0)).objs.size s3.heap.objs.size ?_) (by rw[jX,af];show D.ms.length<=sizeLine;rw[sizeLine_eq];lia)
 have up:=pL.upd2 (ms:=D.ms++[(s3.heap.push (cq f.sl 0)).objs.size]) hs.extBut ⟨n5+1,by
  have q:((D.ms.map Value.ref).toArray.push (.ref (s3.heap.push (cq f.sl 0)).objs.size))=((D.ms++[(s3.heap.push (cq f.sl 0)).objs.size]).map Value.ref).toArray:=by simp
  rw[<- q];exact hD⟩
 refine(⟨I4.lf.by fun b o hb q=>⟨o.slots,hs.extBut b o (fun z=>?_) q⟩,up,I4.ks.trans' (KS.of (KM.chg (M:=(· = D.a2)) hs.extBut ⟨_,hD⟩ rfl)) fun b hb=>?_,fun b hb=>?_⟩:FI G L env sc A s₁ { D with ms:=D.ms++[(s3.heap.push (cq f.sl 0)).objs.size],es:=D.es++[⟨(s3.heap.push (cq f.sl 0)).objs.size,s3.heap.objs.size,f.sl,0⟩] } (.val (.int f.key t)) { s3 with heap:=h',toks:=s3.toks+1 })
 ·exact I.notS e (c:=D.a2) (FCD.all_l (by simp[FCD.addrs])) (z▸hb)
 ·have hb:b=D.a2:=hb
  exact .inr (hb▸I.new _ (FCD.all_l (by simp[FCD.addrs])))
 ·rcases au.mp hb with hb | hb
  rotate_left
  ·exact I.new b (dG _ hb)
  simp only[FCD.addrs,cV,aa,au,eM,List.flatMap_nil,c5,bE,bz,or_false]at hb
  have old:b∈D.addrs->s₁.heap.get? b=none:=fun q=>I.new b (FCD.all_l q)
  rcases hb with q | q | q | q | q | q | q
  ·exact old (by simp[FCD.addrs,q])
  ·exact old (by simp[FCD.addrs,q])
  ·exact old (by simp[FCD.addrs,q])
  ·exact old (by simp[FCD.addrs,q])
  ·exact old (by simp only[FCD.addrs,aa];exact .inr (.inr (.inr (.inr q))))
  ·rw[q,hz4];exact fresh1 _ (dH _)
  ·rw[q];exact fresh1 _ (aL _)
end
section
variable{G:Glo}{L:SLay}{env:Env}{sc:Scope}{A A':Around}{outer:List Env}{s₁ s s':Shared}{D D':FCD}{y y':SV}{E:Value->Shared->Prop}
theorem DS{k:Int}{t:Tok}{p1 p2 p3 p4 p5 p6 p7:Pos}{Q:Flow->Shared->Prop}(e:FE G L env sc A outer s₁)(I:FI G L env sc A s₁ D (.val (.int k t)) s)(hn:k∉D.ns.map (·.1))(hz:D.ns.length<=2000)(hz2:D.ks.length<=2000)
 (h:∀s',FI G L env sc A s₁ { D with ns:=D.ns++[(k,(D.ks.length:Int))] } (.val (.int k t)) s'->Q .next s') :
 wpAny (model G.prog G.w) A (exec (.Assign [.Subscript (.Name gv p1) (.Name az p2) p3] (.Call (.Name (ofString "len") p4) [.Name eI p5] [] p6) p7) env) Q E s:=by
 refine wpAny_Assign_Subscript ?_ rfl
 refine x22 I.fc.stk fun vs n hK hi=>?_
 have hlen:vs.size=D.ks.length:=by rw[<- cj];exact IntsAre.len hi
 refine dv (fun a ha=>by rw[ai.mp ha];rfl) (e.ld_bi I (by simp) (v:=.builtin "len") (by simp[bQ]) ?_)
 refine Calls.callWith_builtin (fG _) (Calls.evalArgs_plain (Calls.spliced_cons (I.ld (i:=2) rfl rfl (Calls.spliced_nil ?_))))
 refine len_list hK.isList (by rw[hlen];lia) ?_
 have I1:=I.keeps (aw s (s.toks+1+1))
 refine I1.ld (i:=5) rfl rfl ?_
 refine I1.ld (i:=6) rfl rfl ?_
 refine x12 I1.fc.n2s fun kvs hD hp=>?_
 refine wpAny_setItem_pairs jC hD (fun h' hm hs=>h _ ?_) (by rw[hp.len,sizeLine_eq];lia)
 have hst:stored kvs k (.int vs.size (s.toks+1))=kvs++[(k,.int vs.size (s.toks+1))]:=by
  unfold stored
  rw[if_neg]
  intro q
  apply hn
  refine x12 (cM.mp q) fun p hpm hq=>?_
  rw[<- hp.fst]
  exact aA.mpr ⟨p,hpm,by simpa using hq⟩
 rw[hst]at hm
 refine I1.chg e (c:=D.a4) (by simp[FCD.addrs]) hs.extBut (hm.elim fun o ζ=>ζ.elim fun U ζ=>ζ.elim fun U ζ=>ζ.elim fun q U=>⟨o,q⟩) (I1.fc.upd4 hs.extBut ⟨_,hm,?_⟩) rfl rfl fun b hb=>.inl hb
 rw[<- hlen];exact hp.snoc
theorem DT{k:Int}{t:Tok}{p1 p2 p3 ap cp:Pos}{Q:Flow->Shared->Prop}(e:FE G L env sc A outer s₁)(I:FI G L env sc A s₁ D (.val (.int k t)) s)(hl:(ap.endLine==cp.line)=true)(hz:D.ks.length<=2000)
 (h:∀s',FI G L env sc A s₁ { D with ks:=D.ks++[k] } (.val (.int k t)) s'->Q .next s') :
 wpAny (model G.prog G.w) A (exec (.Expr (.Call (.Attribute (.Name eI p1) (ofString "append") ap) [.Name az p2] [] cp) p3) env) Q E s:=by
 refine wpAny_Expr ?_ e.hint rfl
 refine x22 I.fc.stk fun vs n hK hi=>?_
 have hlen:vs.size=D.ks.length:=by rw[<- cj];exact IntsAre.len hi
 refine Call_method1 rfl (gZ rfl) hl (I.ld (i:=2) rfl rfl ?_)
 refine⟨"list", "list.append",F.plainAttrs_list,F.slot_list_append,F.type_list_append,hK.isList.typeIs,(fun b e=>by cases e;exact⟨_,hK,rfl⟩),?_⟩
 refine Calls.callWith_builtin rfl (Calls.evalArgs_plain (Calls.spliced_cons (I.ld (i:=6) rfl rfl (Calls.spliced_nil ?_))))
 refine append_at hK (fun h' hs hD=>h _ ?_) (by show vs.size<=sizeLine;rw[hlen,sizeLine_eq];lia)
 exact I.chg (t:=s.toks) e (c:=D.a1) (by simp[FCD.addrs]) hs.extBut ⟨_,hD⟩ (I.fc.upd1 hs.extBut ⟨_,_,hD,wD hi⟩) rfl rfl fun b hb=>.inl hb
theorem DU{vs:List Value}{is:List Int}{k:Int}(h:IntsAre vs (is++[k])):∃us t,vs=us++[.int k t]/\IntsAre us is:=by
 induction is generalizing vs with
 | nil =>
  cases h with
  | cons x t r=>cases r;exact⟨[],t,rfl,.nil⟩
 | cons i is ih =>
  cases h with
  | cons x t r =>
   refine x22 (ih r) fun us t' e2 hu=>?_;subst e2
   exact⟨_,t',rfl,.cons _ _ hu⟩
theorem wZ(us:List Value)(v:Value):(us++[v]).toArray.eraseIdxIfInBounds ((us++[v]).toArray.size - 1)=us.toArray:=by
 apply Array.ext'
 simp
 rw[List.eraseIdx_append_of_length_le (aL _)];simp
theorem DV{k:Int}{ks:List Int}{p1 ap cp:Pos}{Q:Value->Shared->Prop}(e:FE G L env sc A outer s₁)(I:FI G L env sc A s₁ D y s)(hl:(ap.endLine==cp.line)=true)(hk:D.ks=ks++[k])(hz:D.ks.length<=2000)
 (h:∀s' t,FI G L env sc A s₁ { D with ks:=ks } y s'->Q (.int k t) s') :
 wpAny (model G.prog G.w) A' (eval (.Call (.Attribute (.Name eI p1) (ofString "pop") ap) [] [] cp) env) Q E s:=by
 refine x22 I.fc.stk fun vs n hK hi=>?_
 have hlen:vs.size=D.ks.length:=by rw[<- cj];exact IntsAre.len hi
 rw[hk]at hi
 refine x22 (DU hi) fun us t hv hu=>?_
 have hvs:vs=(us++[Value.int k t]).toArray:=by rw[<- hv]
 subst hvs
 refine Call_method0 rfl hl (I.ld (i:=2) rfl rfl ?_)
 refine⟨"list", "list.pop",F.plainAttrs_list,F.slot_list_pop,F.type_list_pop,hK.isList.typeIs,(fun b e=>by cases e;exact⟨_,hK,rfl⟩),?_⟩
 refine method_meets F.slot_list_pop F.entry_list_pop rfl (PySem.evalArgs_none ⟨rfl,hK.isList.typeIs,F.args_list_pop_1 _,_,PySem.MeetsSeq.list_pop_last D.a1 _ n (.int k t) (by simp) (by rw[hlen,sizeLine_eq];lia),hK,?_⟩)
 have hu':=IsL.update hK (fun xs=>xs.eraseIdxIfInBounds ((us++[Value.int k t]).toArray.size - 1))
 refine h _ t (I.chg (t:=s.toks) e (c:=D.a1) (by simp[FCD.addrs]) (Heap.SameBut.update ..).extBut ⟨_,hu'⟩ (I.fc.upd1 (Heap.SameBut.update ..).extBut ⟨_,_,hu',?_⟩) rfl rfl fun b hb=>.inl hb)
 rw[wZ]
 simpa using hu
theorem DW{m:Addr}{ms:List Addr}{p1 p2 ap cp:Pos}{Q:Flow->Shared->Prop}(e:FE G L env sc A outer s₁)(I:FI G L env sc A s₁ D y s)(hl:(ap.endLine==cp.line)=true)(hk:D.ms=ms++[m])(hz:D.ms.length<=2000)
 (h:∀s',FI G L env sc A s₁ { D with ms:=ms } y s'->Q .next s') :
 wpAny (model G.prog G.w) A' (exec (.Expr (.Call (.Attribute (.Name hW p1) (ofString "pop") ap) [] [] cp) p2) env) Q E s:=by
 refine wpAny_Expr_any ?_ e.hint rfl
 refine x11 I.fc.its fun n hK=>?_
 have hv:(D.ms.map Value.ref).toArray=(ms.map Value.ref++[Value.ref m]).toArray:=by rw[hk];simp
 rw[hv]at hK
 refine Call_method0 rfl hl (I.ld (i:=3) rfl rfl ?_)
 refine⟨"list", "list.pop",F.plainAttrs_list,F.slot_list_pop,F.type_list_pop,hK.isList.typeIs,(fun b e=>by cases e;exact⟨_,hK,rfl⟩),?_⟩
 refine method_meets F.slot_list_pop F.entry_list_pop rfl (PySem.evalArgs_none ⟨rfl,hK.isList.typeIs,F.args_list_pop_1 _,_,PySem.MeetsSeq.list_pop_last D.a2 _ n (.ref m) (by simp) (by
  rw[jX,bb,af,sizeLine_eq]
  have:=hz
  rw[hk,bb]at this
  simp at this ⊢;lia),hK,?_⟩)
 have hu':=IsL.update hK (fun xs=>xs.eraseIdxIfInBounds ((ms.map Value.ref++[Value.ref m]).toArray.size - 1))
 rw[wZ]at hu'
 exact h _ (I.chg (t:=s.toks) e (c:=D.a2) (by simp[FCD.addrs]) (Heap.SameBut.update ..).extBut ⟨_,hu'⟩ (I.fc.upd2 (Heap.SameBut.update ..).extBut ⟨_,hu'⟩) rfl rfl fun b hb=>.inl hb)
end
noncomputable def aK(g:Gr)(k:Int):List Int:=match g.find? (fun p=>p.1=k)with
 | some p=>p.2.2
 | none=>[]
noncomputable def cr(g:Gr):List (Int × Nat)->List (Int × Nat) × Option Int
 | []=>([],none)
 | (k,i)::r=>match(aK g k)[i]? with
  | some n=>((k,i+1)::r,some n)
  | none=>cr g r
theorem iZ{g:Gr}{k:Int}{i:Nat}{r:List (Int × Nat)}:cr g ((k,i)::r)=match(aK g k)[i]? with
 | some n=>((k,i+1)::r,some n)
 | none=>cr g r:=rfl
noncomputable def cU(st:List (Int × Nat)):List Int:=(st.map (·.1)).reverse
noncomputable def hY(st:List (Int × Nat))(k:Int):List Int:=(cU st).drop ((cU st).idxOf k)++[k]
noncomputable def dM(g:Gr):Nat->Int->List (Int × Nat)->List Int->Option (List Int ⊕ List Int)
 | 0,_,_,_=>none
 | n+1,k,st,sn=>if k∈sn/\k∈cU st then some (.inl (hY st k))else
  match cr g (if k∈sn then st else(k,0)::st)with
  | (_,none)=>some (.inr (if k∈sn then sn else sn++[k]))
  | (st',some k')=>dM g n k' st' (if k∈sn then sn else sn++[k])
theorem mh{g:Gr}{n:Nat}{k:Int}{st:List (Int × Nat)}{sn:List Int}:dM g (n+1) k st sn=if k∈sn/\k∈cU st then some (.inl (hY st k))else
 match cr g (if k∈sn then st else(k,0)::st)with
 | (_,none)=>some (.inr (if k∈sn then sn else sn++[k]))
 | (st',some k')=>dM g n k' st' (if k∈sn then sn else sn++[k]):=rfl
noncomputable def fg(g:Gr)(N:Nat):List Int->List Int->Option (Option (List Int))
 | [],_=>some none
 | k::ks,sn=>if k∈sn then fg g N ks sn else match dM g N k [] sn with
  | none=>none
  | some (.inl c)=>some (some c)
  | some (.inr sn')=>fg g N ks sn'
theorem mi{g:Gr}{N:Nat}{k:Int}{ks sn:List Int}:fg g N (k::ks) sn=if k∈sn then fg g N ks sn else match dM g N k [] sn with
 | none=>none
 | some (.inl c)=>some (some c)
 | some (.inr sn')=>fg g N ks sn':=rfl
noncomputable def kA(g:Gr)(N:Nat):Option (Option (List Int)):=fg g N (g.map (·.1)) []
inductive Stk(L:SLay):List (Int × Nat)->List Int->List Ent->List (Int × Int)->Prop
 | nil:Stk L [] [] [] []
 | cons {st ks es ns i e f}:Stk L st ks es ns->f∈L.inf->e.sl=f.sl->e.pos=i->Stk L ((f.key,i)::st) (ks++[f.key]) (es++[e]) (ns++[(f.key,(st.length:Int))])
section
variable{L:SLay}{st:List (Int × Nat)}{ks:List Int}{es:List Ent}{ns:List (Int × Int)}
theorem Stk.eqK(x:Stk L st ks es ns):ks=cU st:=by
 induction x with
 | nil=>rfl
 | cons _ _ _ _ ih=>simp[cU,ih]
theorem Stk.eqN(x:Stk L st ks es ns):ns.map (·.1)=ks:=by
 induction x with
 | nil=>rfl
 | cons _ _ _ _ ih=>simp[ih]
theorem Stk.len(x:Stk L st ks es ns):ks.length=st.length/\es.length=st.length/\ns.length=st.length:=by
 induction x with
 | nil=>exact⟨rfl,rfl,rfl⟩
 | cons _ _ _ _ ih=>simp[ih]
theorem Stk.find{k:Int}(x:Stk L st ks es ns)(h:k∈ks):(ns.find? fun p=>p.1=k)=some (k,(ks.idxOf k:Int)):=by
 induction x with
 | nil=>cases h
 | @cons st ks es ns i e f x' hf h1 h2 ih =>
  rw[List.find?_append]
  by_cases q:k∈ks
  ·rw[ih q,List.idxOf_append,if_pos q];rfl
  ·have hk:k=f.key:=by
    rcases au.mp h with h | h
    ·exact absurd h q
    ·simpa using h
   subst hk
   rw[wY (by rw[x'.eqN];exact q),List.idxOf_append,if_neg q]
   simp[x'.len.1]
theorem Stk.mem(x:Stk L st ks es ns){k:Int}(h:k∈ks):∃f∈L.inf,f.key=k:=by
 induction x with
 | nil=>cases h
 | @cons st ks es ns i e f x' hf h1 h2 ih =>
  rcases au.mp h with h | h
  ·exact ih h
  ·exact⟨f,hf,by simpa using Eq.symm (by simpa using h)⟩
end
theorem w3{L:SLay}{f:NInf}(hn:(L.inf.map (·.key)).Nodup)(hf:f∈L.inf):aK L.gr f.key=f.su:=by
 unfold aK SLay.gr
 generalize L.inf=l at hn hf
 induction l with
 | nil=>cases hf
 | cons e r ih =>
  rw[aH,b8]at hn
  rw[aH,uh]
  rcases aa.mp hf with rfl | hf
  ·simp
  ·have:e.key≠f.key:=fun q=>hn.1 (aA.mpr ⟨f,hf,q.symm⟩)
   simp only[this,decide_false]
   exact ih hn.2 hf
structure FSt(G:Glo)(L:SLay)(env:Env)(sc:Scope)(A:Around)(s₁:Shared)(D:FCD)(st:List (Int × Nat))(sn:List Int)(y:SV)(s:Shared):Prop where
 I:FI G L env sc A s₁ D y s
 stk:Stk L st D.ks D.es D.ns
 ms:D.ms=D.es.map (·.m)
 esn:D.sn=sn
 snl:sn.length<=L.inf.length
 nd:sn.Nodup
 sub:∀k∈sn,∃f∈L.inf,f.key=k
 kin:∀k∈D.ks,k∈sn
 knd:D.ks.Nodup
section
variable{G:Glo}{L:SLay}{env:Env}{sc:Scope}{A A':Around}{outer:List Env}{s₁ s s':Shared}{D D':FCD}{y y':SV}{E:Value->Shared->Prop}{st:List (Int × Nat)}{sn:List Int}
theorem o6:∀ {a b:List Int},a.Nodup->(∀k∈a,k∈b)->a.length<=b.length
 | [],_,_,_=>aW _
 | x::r,b,hn,h=>by
  rw[b8]at hn
  have h1:=o6 (a:=r) (b:=b.erase x) hn.2 fun k hk=>(List.mem_erase_of_ne (fun(q:k=x)=>hn.1 (q▸hk))).mpr (h k (ar _ hk))
  have hx:=h x ag
  rw[List.length_erase_of_mem hx]at h1
  have:=List.length_pos_of_mem hx
  rw[cZ];lia
theorem FSt.kl(F:FSt G L env sc A s₁ D st sn y s):D.ks.length<=L.inf.length:=by
 have:=o6 F.knd F.kin
 have:=F.snl
 lia
theorem DX{f:NInf}{t:Tok}{p1 p2 p3 p4 p5 p6 p7 p8 p9 p10 p11 p12 p13 p14 p15 p16 p17 p18 p19 p20 p21 p22 ap1 cp1 ap2 cp2 ap3 cp3:Pos}{Q:Flow->Shared->Prop}(e:FE G L env sc A outer s₁)(F:FSt G L env sc A s₁ D st sn (.val (.int f.key t)) s)(hf:f∈L.inf)(hn:f.key∉sn)
 (hl1:(ap1.endLine==cp1.line)=true) (hl2:(ap2.endLine==cp2.line)=true) (hl3:(ap3.endLine==cp3.line)=true)
 (h:∀s' D',FSt G L env sc A s₁ D' ((f.key,0)::st) (sn++[f.key]) (.val (.int f.key t)) s'->D'.xs=D.xs->Q .next s') :
 wpAny (model G.prog G.w) A (execs [.Expr (.Call (.Attribute (.Name iY p1) (ofString "add") ap1) [.Name az p2] [] cp1) p3,
  .Expr (.Call (.Attribute (.Name hW p4) (ofString "append") ap2) [.Attribute (.Call (.Name (ofString "iter") p5) [.Attribute (.Subscript (.Name hV p6) (.Name az p7) p8) (ofString "successors") p9] [] p10) (ofString "__next__") p11] [] cp2) p12,
  .Assign [.Subscript (.Name gv p13) (.Name az p14) p15] (.Call (.Name (ofString "len") p16) [.Name eI p17] [] p18) p19,
  .Expr (.Call (.Attribute (.Name eI p20) (ofString "append") ap3) [.Name az p21] [] cp3) p22] env) Q E s:=by
 have hsm:=e.sm
 have hkl:=F.kl
 have hsl:=F.snl
 have hln:=F.stk.len
 have hsn:f.key∉D.sn:=by rw[F.esn];exact hn
 have hkn:f.key∉D.ks:=fun q=>hn (F.kin _ q)
 have hnn:f.key∉D.ns.map (·.1):=by rw[F.stk.eqN];exact hkn
 have hml:D.ms.length=D.ks.length:=by rw[F.ms,af,hln.2.1,hln.1]
 refine wpAny_execs_cons (DP e F.I hl1 hsn (by rw[F.esn];lia) fun s2 I2=>?_)
 refine wpAny_execs_cons (DR e I2 hl2 hf (by show D.ms.length<=2000;lia) fun s3 m it I3=>?_)
 refine wpAny_execs_cons (DS e I3 hnn (by show D.ns.length<=2000;lia) (by show D.ks.length<=2000;lia) fun s4 I4=>?_)
 refine wpAny_execs_cons (DT e I4 hl3 (by show D.ks.length<=2000;lia) fun s5 I5=>wpAny_execs_nil ?_)
 have hnd:(sn++[f.key]).Nodup:=by
  rw[cD]
  exact⟨F.nd,by simp,fun a ha b hb q=>hn (by rw[ai.mp hb]at q;exact q▸ha)⟩
 have hsub:∀k∈sn++[f.key],∃f∈L.inf,f.key=k:=fun k hk=>by
  rcases au.mp hk with hk | hk
  ·exact F.sub k hk
  ·exact⟨f,hf,by simpa using Eq.symm (by simpa using hk)⟩
 refine h s5 _ ⟨I5,?_,?_,?_,?_,hnd,hsub,?_,?_⟩ rfl
 ·have:=F.stk.cons (e:=⟨m,it,f.sl,0⟩) hf rfl rfl
  rw[<- hln.1]at this;exact this
 ·simp[F.ms]
 ·simp[F.esn]
 ·have:=o6 (b:=L.inf.map (·.key)) hnd fun k hk=>(hsub k hk).elim fun f ζ=>ζ.elim fun h1 h2=>aA.mpr ⟨f,h1,h2⟩
  rw[af]at this;exact this
 ·intro k hk
  rcases au.mp hk with hk | hk
  ·exact bB _ (F.kin k hk)
  ·exact dG _ hk
 ·show(D.ks++[f.key]).Nodup
  rw[cD]
  exact⟨F.knd,by simp,fun a ha b hb q=>hkn (by rw[ai.mp hb]at q;exact q▸ha)⟩
end
theorem DY:isSubtype (.type "StopIteration") (.type "BaseException")=pure true:=by rw[isSubtype_type];kernel_rfl
theorem DZ:isSubtype (.type ((Manifest.find? "StopIteration").elim "type" fun x=>x.metatype)) (.type "tuple")=pure false:=by
 have e:(Manifest.find? "StopIteration").elim "type" (fun x=>x.metatype) = "type":=by decide +kernel
 rw[e,isSubtype_type];kernel_rfl
noncomputable def o7(A:Around)(a:Addr)(h h₂:Heap):Prop:=(∀b o,b≠a->h.get? b=some o->∃sl,h₂.get? b=some { o with slots:=sl }/\(¬an A b->sl=o.slots))/\∃o,h₂.get? a=some o
theorem o7.get{A:Around}{a:Addr}{h h₂:Heap}(x:o7 A a h h₂):∀b o,b≠a->¬an A b->h.get? b=some o->h₂.get? b=some o:=fun b o n nf e=>by
 refine x12 (x.1 b o n e) fun sl q1 q2=>?_
 rw[q1,q2 nf]
noncomputable def gw(l:List Env)(a:Addr)(h:Heap):Heap:=hideAll h (a::l.filterMap (·.frame))
theorem rF{l:List Env}{a:Addr}{h:Heap}{b:Addr}{o:Obj}(e:h.get? b=some o)(n:b≠a)(nf:b∉l.filterMap (·.frame)):(gw l a h).get? b=some o :=
 hideAll_get _ e fun q=>(aa.mp q).elim n nf
theorem rG{l:List Env}{a:Addr}{h:Heap}{cls:Value}(fr:iR l h)(x:∃oe vs a0,h.get? a=some oe/\oe.cls=cls/\oe.data=.fields vs/\vs[0]? = some a0/\vs[1]? = some .none):ee (gw l a h) l a cls h :=
 ⟨fun b o e=>of_hideAll _ e,hideAll_none _ ag,wS fr fun b hb=>hideAll_none _ (ar _ hb),.inl x⟩
theorem rH{A:Around}{l:List Env}{a:Addr}{h h₂ B:Heap}(hfr:A.frames=some l)(fr:iR l h)(hB:∀b o,b≠a->¬an A b->h.get? b=some o->B.get? b=some o)(k:B.StaysIn h₂)(u:h.UpToSlots h₂)(ha:∃o,h₂.get? a=some o):o7 A a h h₂:=by
 refine⟨fun b o n e=>?_,ha⟩
 by_cases q:an A b
 ·refine x12 q fun l' e' hb=>?_
  have q:an A b:=⟨l',e',hb⟩
  rw[hfr]at e';cases e'
  refine x12 (pC.mp hb) fun v hv hf=>?_
  obtain⟨_,L',o',es,m,h1,h2,h3⟩:=fr v hv
  rw[h1]at hf;cases hf
  rw[h2]at e;cases e
  obtain⟨sl,q'⟩:=u b o h2 fun vs z=>by rw[h3]at z;cases z
  exact⟨sl,q',fun z=>absurd q z⟩
 ·exact⟨o.slots,k b o (hB b o n q e),fun U=>rfl⟩
section
variable{G:Glo}{L:SLay}{env:Env}{sc:Scope}{A A':Around}{outer:List Env}{s₁ s s':Shared}{D D':FCD}{y y':SV}{E:Value->Shared->Prop}{st:List (Int × Nat)}{sn:List Int}
theorem FI.noted{a:Addr}{h₂:Heap}(e:FE G L env sc A outer s₁)(I:FI G L env sc A s₁ D y s)(x:o7 A a s.heap h₂)(ha:s₁.heap.get? a=none)(hd:a∉D.all):FI G L env sc A s₁ D y { s with heap:=h₂ }:=by
 refine⟨I.lf.by fun b o hb q=>?_,I.fc.keeps fun b o hb q=>x.get b o (fun z=>hd (z▸hb)) (I.notF e hb) q,?_,I.new⟩
 ·refine x12 (x.1 b o (fun z=>by obtain⟨o',q'⟩:=e.sto b hb;rw[z,ha]at q';cases q') q) fun sl q1 U=>?_
  exact⟨sl,q1⟩
 ·refine I.ks.trans' (F:=an A) (N:=(· = a)) ⟨h₂,s.toks,rfl,fun b o n q=>x.1 b o n q,fun b o q=>?_⟩ fun b hb=>?_
  ·by_cases z:b=a
   ·exact z▸x.2
   ·obtain⟨sl,q1,_⟩:=x.1 b o z q;exact⟨_,q1⟩
  ·have hb:b=a:=hb
   exact .inr (hb▸ha)
theorem FI.frs(e:FE G L env sc A outer s₁)(I:FI G L env sc A s₁ D y s):iR (env::outer) s.heap:=by
 intro v hv
 obtain⟨h1,L',o,es,n,h2,h3,h4⟩:=e.frs v hv
 by_cases q:L'=env.locals
 ·subst q
  obtain⟨val,f,_⟩:=I.lf.vars
  obtain⟨m,⟨o',es',ep,q1,q2,_⟩,_⟩:=f.loc
  exact⟨h1,_,o',es',ep,h2,q1,q2⟩
 ·obtain⟨sl,q'⟩:=I.ks.slot L' o q h3
  exact⟨h1,L',_,es,n,h2,q',h4⟩
theorem D0{k:Int}{ks:List Int}{ns:List (Int × Int)}{i:Int}{p1 p2 p3 p4 ap cp:Pos}{Q:Flow->Shared->Prop}(e:FE G L env sc A outer s₁)(I:FI G L env sc A s₁ D y s)(hl:(ap.endLine==cp.line)=true)(hk:D.ks=ks++[k])(hn:D.ns=ns++[(k,i)])(hkn:k∉ns.map (·.1))(hz:D.ks.length<=2000)(hz2:D.ns.length<=2000)
 (h:∀s',FI G L env sc A s₁ { D with ks:=ks,ns:=ns } y s'->Q .next s') :
 wpAny (model G.prog G.w) A' (exec (.Delete [.Subscript (.Name gv p1) (.Call (.Attribute (.Name eI p2) (ofString "pop") ap) [] [] cp) p3] p4) env) Q E s:=by
 refine wpAny_Delete (wpAny_deleteEach_cons (wpAny_delete_Subscript (I.ld (i:=5) rfl rfl ?_)))
 refine DV e I hl hk hz fun s2 t I2=>?_
 obtain⟨kvs,hD,hp⟩:=I2.fc.n2s
 have hfk:(D.ns.find? fun p=>p.1=k)=some (k,i):=by
  rw[hn,List.find?_append,wY hkn];simp
 obtain⟨tv,hv⟩:=hp.at (k:=k) hfk
 refine wpAny_delItem_slot hD.typeIs (by decide) F.slot_dict_delitem ?_
 refine call_meetsIn F.slot_dict_delitem hD.typeIs F.entry_dict_delitem (F.args_dict_delitem_2 _ _) (meets_dict_delitem_pairs (intKind G.prog G.w) D.a4 jC) ⟨kvs,hD,by rw[hp.len,sizeLine_eq];exact ae hz2 (by decide),by rw[hv];rfl,fun h' hm hs=>?_⟩
 refine wpAny_deleteEach_nil (h _ ?_)
 refine I2.chg e (c:=D.a4) (by simp[FCD.addrs]) hs.extBut (hm.elim fun o ζ=>ζ.elim fun U ζ=>ζ.elim fun U ζ=>ζ.elim fun q U=>⟨o,q⟩) (I2.fc.upd4 hs.extBut ⟨_,hm,?_⟩) rfl rfl fun b hb=>.inl hb
 have h1:=hp.filt (k:=k)
 have h2:(D.ns.filter fun p=>decide (p.1≠k))=ns:=by
  rw[hn,List.filter_append]
  have:ns.filter (fun p=>decide (p.1≠k))=ns:=List.filter_eq_self.mpr fun p hpm=>by
   simp only[ne_eq,decide_not,jR,decide_eq_false_iff_not]
   exact fun q=>hkn (aA.mpr ⟨p,hpm,q⟩)
  rw[this];simp
 have h3:Prs (kvs.filter fun p=>decide (p.1≠k)) (D.ns.filter fun p=>decide (p.1≠k)):=h1
 rw[h2]at h3
 exact h3
theorem D1{m a:Addr}{id:String}{pos:Pos}{Q:Value->Shared->Prop}{s:Shared}(hm:s.heap.get? m=some (cn "method-wrapper" id a)) (h:wpAny (model G.prog G.w) A (call (.ref m) []) Q E s):wpAny (model G.prog G.w) A (callWith pos (.ref m) [] [] []) Q E s:=by
 unfold callWith
 refine wpAny_bind (wpAny_holding (gW (as:=[]) (env:=default) (Calls.spliced_nil ?_)))
 refine wpAny_bind (wpAny_standAt ?_)
 refine wpAny_bind (wpAny_bind ?_)
 refine wpAny_bind (wpAny_load hm (wpAny_pure ?_))
 show wpAny _ _ (pure Keeper.machine) _ _ s
 refine wpAny_pure ?_
 refine wpAny_bind (wpAny_mono h (fun v s' h'=>wpAny_bind (wpAny_holding (wpAny_point (wpAny_pure h')))) fun U U x=>x)
end
theorem D4{vs:List Value}{is:List Int}{i:Nat}{k:Int}(h:IntsAre vs is)(hk:is[i]? = some k):∃t,vs[i]? = some (.int k t):=by
 induction h generalizing i with
 | nil=>simp at hk
 | cons x t r ih =>
  cases i with
  | zero=>simp at hk;subst hk;exact⟨t,rfl⟩
  | succ i=>simp at hk;simpa using ih hk
theorem D5{vs:List Value}{is:List Int}{i:Nat}(h:IntsAre vs is)(hk:is[i]? = none):vs[i]? = none:=by
 rw[nc]at hk ⊢
 rw[IntsAre.len h];exact hk
noncomputable def D6(P:Nat->Pos):Stmt:=.If (.Compare (.Name az (P 3)) [.In] [.Name gv (P 4)] (P 5)) [.Return (some (.BinOp (.Subscript (.Name eI (P 6)) (.Slice (some (.Subscript (.Name gv (P 7)) (.Name az (P 8)) (P 9))) none none (P 10)) (P 11)) .Add (.List [.Name az (P 12)] (P 13)) (P 14))) (P 15)] [] (P 16)
noncomputable def D7(P:Nat->Pos):Stmt:=.Expr (.Call (.Attribute (.Name iY (P 17)) (ofString "add") (P 18)) [.Name az (P 19)] [] (P 20)) (P 21)
noncomputable def D8(P:Nat->Pos):Stmt:=.Expr (.Call (.Attribute (.Name hW (P 22)) (ofString "append") (P 23)) [.Attribute (.Call (.Name (ofString "iter") (P 24)) [.Attribute (.Subscript (.Name hV (P 25)) (.Name az (P 26)) (P 27)) (ofString "successors") (P 28)] [] (P 29)) (ofString "__next__") (P 30)] [] (P 31)) (P 32)
noncomputable def D9(P:Nat->Pos):Stmt:=.Assign [.Subscript (.Name gv (P 33)) (.Name az (P 34)) (P 35)] (.Call (.Name (ofString "len") (P 36)) [.Name eI (P 37)] [] (P 38)) (P 39)
noncomputable def Ea(P:Nat->Pos):Stmt:=.Expr (.Call (.Attribute (.Name eI (P 40)) (ofString "append") (P 41)) [.Name az (P 42)] [] (P 43)) (P 44)
noncomputable def w4(P:Nat->Pos):Stmt:=.If (.Compare (.Name az (P 0)) [.In] [.Name iY (P 1)] (P 2)) [D6 P] [D7 P,D8 P,D9 P,Ea P] (P 45)
inductive isFIf(b:Stmt):Prop where
 | mk (h1:b=w4 jo) (h2:((jo 18).endLine==(jo 20).line)=true) (h3:((jo 23).endLine==(jo 31).line)=true) (h4:((jo 41).endLine==(jo 43).line)=true):isFIf b
noncomputable def w5(P:Nat->Pos):Expr:=.Call (.Subscript (.Name hW (P 2)) (.UnaryOp .USub (.Constant (.int 1) 0 (P 3)) (P 4)) (P 5)) [] [] (P 6)
noncomputable def Ec(P:Nat->Pos):Stmt:=.Delete [.Subscript (.Name gv (P 10)) (.Call (.Attribute (.Name eI (P 11)) (ofString "pop") (P 12)) [] [] (P 13)) (P 14)] (P 15)
noncomputable def Ed(P:Nat->Pos):Stmt:=.Expr (.Call (.Attribute (.Name hW (P 16)) (ofString "pop") (P 17)) [] [] (P 18)) (P 19)
noncomputable def w6(P:Nat->Pos):Stmt:=.Try [.Assign [.Name az (P 1)] (w5 P) (P 7),.Break (P 8)]
 [.ExceptHandler (some (.Name (ofString "StopIteration") (P 9))) none [Ec P,Ed P] (P 20)] [] [] (P 21)
noncomputable def w7(P:Nat->Pos):Stmt:=.While (.Name eI (P 0)) [w6 P] [.Break (P 22)] (P 23)
inductive isFW(b:Stmt):Prop where
 | mk (h1:b=w7 ln) (h2:((ln 12).endLine==(ln 13).line)=true) (h3:((ln 17).endLine==(ln 18).line)=true):isFW b
noncomputable def w8(P:Nat->Pos)(st1:Stmt)(st2:Stmt):Stmt:=.For (.Name az (P 0)) (.Name hV (P 1)) [
 .If (.Compare (.Name az (P 2)) [.In] [.Name iY (P 3)] (P 4)) [.Continue (P 5)] [] (P 6),
 .While (.Constant (.bool true) 0 (P 7)) [st1,st2] [] (P 8)]
 [] (P 9)
inductive isFFor(b:Stmt):Prop where
 | mk (st1:Stmt) (st2:Stmt) (h1:b=w8 AH st1 st2) (h2:isFIf st1) (h3:isFW st2):isFFor b
section
variable{G:Glo}{L:SLay}{env:Env}{sc:Scope}{A A':Around}{outer:List Env}{s₁ s s':Shared}{D D':FCD}{y y':SV}{E:Value->Shared->Prop}{st:List (Int × Nat)}{sn:List Int}
theorem Ee{k:Int}{i:Nat}{Pp:Nat->Pos}{Q:Flow->Shared->Prop}(e:FE G L env sc A outer s₁)(F:FSt G L env sc A s₁ D ((k,i)::st) sn y s)(hy:∃v,y=.val v)
 (hl4:((Pp 12).endLine==(Pp 13).line)=true) (hl5:((Pp 17).endLine==(Pp 18).line)=true)
 (h1:∀k' s' D' t,(aK L.gr k)[i]? = some k'->FSt G L env sc A s₁ D' ((k,i+1)::st) sn (.val (.int k' t)) s'->D'.xs=D.xs->Q .brk s')
 (h2:∀s' D',(aK L.gr k)[i]? = none->FSt G L env sc A s₁ D' st sn y s'->D'.xs=D.xs->Q .next s') :
 wpAny (model G.prog G.w) A (exec (w6 Pp) env) Q E s:=by
 obtain⟨I,hst,hms,hsn,hsl,hsnd,hsub,hkin,hknd⟩:=F
 have hsm:=e.sm
 have hkl:D.ks.length<=L.inf.length:=by have:=o6 hknd hkin;lia
 obtain⟨a1,a2,a3,a4,ks,ms,es,sn',ns,xs⟩:=D
 dsimp only at hst hms hsn hkin hknd hkl
 cases hst with
 | @cons _ ks es ns _ en f hst hf hsl₀ hpos =>
 have hln:=hst.len
 have hS:=I.S e
 have hsucc:aK L.gr f.key=f.su:=w3 hS.keys hf
 rw[hsucc]at h1 h2
 rw[bb,td]at hkl
 have hmm:ms=es.map (·.m)++[en.m]:=by rw[hms];simp
 refine x11 I.fc.its fun n2 hI2=>?_
 have hent:=I.fc.ent en (by simp)
 obtain⟨_,_,vsl,nsl,hsl',hint⟩:=hS.info f hf
 rw[hsl₀]at hent
 have hkn:f.key∉ns.map (·.1):=by
  rw[hst.eqN]
  intro q
  rw[cD]at hknd
  exact hknd.2.2 _ q f.key ag rfl
 have call:∀(Q:Value->Shared->Prop) (E:Value->Shared->Prop),wpAny (model G.prog G.w) A (call (.ref en.m) []) Q E { s with toks:=s.toks+1+1 } ->
  wpAny (model G.prog G.w) A (eval (w5 Pp) env) Q E s:=by
  intro Q E hq
  show wpAny _ A (do callWith (Pp 6) (<- eval (.Subscript (.Name hW (Pp 2)) (.UnaryOp .USub (.Constant (.int 1) 0 (Pp 3)) (Pp 4)) (Pp 5)) env) [] (backTo (Pp 6) (starEach [] env)) (backToKw (Pp 6) (keywordEach [] env))) Q E s
  refine wpAny_bind ?_
  refine j7 (I.ld (i:=3) rfl rfl ?_)
  refine wpAny_UnaryOp (wpAny_Constant_int ?_)
  refine P.neg_int ⟨"list",_,F.slot_list_getitem.lookup,hI2.isList.typeIs,?_⟩
  refine wpAny_getItem_list_neg hI2.isList (by decide) (by rw[jX,af,hmm,bb,td];lia) (by decide) (x:=.ref en.m) ?_ ?_
  ·have hx:(-1+((List.map Value.ref ms).toArray.size:Int)).toNat=es.length:=by
    rw[jX,af,hmm,bb,td,af];lia
   show(List.map Value.ref ms).toArray[(-1+((List.map Value.ref ms).toArray.size:Int)).toNat]? = _
   rw[hx,hmm]
   simp
  ·exact D1 hent.1 hq
 have I2:=I.keeps (aw s (s.toks+1+1))
 have hit:s.heap.get? en.it=some (cq f.sl i):=by rw[<- hpos];exact hent.2
 have hinA:en.it∈(FCD.mk a1 a2 a3 a4 (ks++[f.key]) ms (es++[en]) sn' (ns++[(f.key,(st.length:Int))]) xs).addrs:=(me (by simp)).2
 refine x11 hy fun v e1=>?_;subst e1
 refine wU (c:=.type "StopIteration") e.hfr e.hL ?_ fun U q=>q
 cases hc:f.su[i]? with
 | some k' =>
  refine x11 (D4 hint hc) fun t ht=>?_
  refine wpAny_execs_cons (wpAny_Assign_stores (call _ _ (DF hent.1 hit hsl'.isList (by simpa using ht) fun h' hi' hs=>?_)) rfl rfl)
  have I3:FI G L env sc A s₁ ⟨a1,a2,a3,a4,ks++[f.key],ms,es++[{ en with pos:=i+1 }],sn',ns++[(f.key,(st.length:Int))],xs⟩ (.val v) { s with heap:=h',toks:=s.toks+1+1 }:=by
   have fc:=I2.fc.nextE (h':=h') rfl hs.extBut (by rw[hi',hsl₀,hpos])
   rw[hpos]at fc
   refine I.chg (t:=s.toks+1+1) e hinA hs.extBut ⟨_,hi'⟩ fc rfl rfl fun b hb=>.inl ?_
   simpa[FCD.addrs,bE]using hb
  show wpAny _ _ (assign (.Name az (Pp 1)) env (.int k' t)) _ _ _
  refine I3.sto (i:=6) e rfl rfl rfl fun s4 I4=>wpAny_execs_cons (wpAny_Break ?_)
  refine h1 k' s4 _ t hc ⟨I4,hst.cons hf hsl₀ rfl,?_,hsn,hsl,hsnd,hsub,hkin,hknd⟩ rfl
  show ms=_
  rw[hmm];simp
 | none =>
  have hne:en.it∉hfp A:=fun q=>by
   refine x11 (e.hok.there _ q) fun o ho=>?_
   rw[I.new _ (FCD.all_l hinA)]at ho;cases ho
  refine wpAny_execs_cons (wpAny_Assign_stores (call _ _ (DH (I2.hok e) hne hent.1 hit hsl'.isList (by have:=D5 hint hc;simpa using this) fun h' ea hN=>?_)) rfl rfl)
  refine eq hN fun n1 n2' n3 n4=>?_
  have hea1:s₁.heap.get? ea=none:=I.ks.back n3
  have fc:=I2.fc.stopE (h':=h') (es:=es) rfl fun b o n q=>n1 b o n q
  have I3:FI G L env sc A s₁ ⟨a1,a2,a3,a4,ks++[f.key],ms,es,sn',ns++[(f.key,(st.length:Int))],xs⟩ (.val v) { s with heap:=h',toks:=s.toks+1+1 }:=by
   refine I.chg (t:=s.toks+1+1) e hinA (fun b o n q=>n1 b o n q) n2' fc rfl rfl fun b hb=>.inl ?_
   simp only[FCD.addrs,cV,aa,au]at hb ⊢
   rcases hb with q | q | q | q | q
   ·exact .inl q
   ·exact .inr (.inl q)
   ·exact .inr (.inr (.inl q))
   ·exact .inr (.inr (.inr (.inl q)))
   ·exact .inr (.inr (.inr (.inr (.inl q))))
  have hfrs:=I3.frs e
  have had:ea∉(FCD.mk a1 a2 a3 a4 (ks++[f.key]) ms es sn' (ns++[(f.key,(st.length:Int))]) xs).all:=fun q=>by
   rcases au.mp q with q | q
   ·have q':ea∈(FCD.mk a1 a2 a3 a4 (ks++[f.key]) ms (es++[en]) sn' (ns++[(f.key,(st.length:Int))]) xs).addrs:=by
     simp only[FCD.addrs,cV,aa,au]at q ⊢
     rcases q with q | q | q | q | q
     ·exact .inl q
     ·exact .inr (.inl q)
     ·exact .inr (.inr (.inl q))
     ·exact .inr (.inr (.inr (.inl q)))
     ·exact .inr (.inr (.inr (.inr (.inl q))))
    refine x11 (I.fc.there q') fun o ho=>?_
    rw[n3]at ho;cases ho
   ·refine x12 (aA.mp q) fun p hp e2=>?_;subst e2
    have:=I.fc.ext p hp
    rw[n3]at this;cases this
  refine x35 n4 fun oe ve a0 x1 x2 x3 x4 x5=>?_
  refine⟨ea,gw (env::outer) ea h',.type "StopIteration",rfl,rG hfrs ⟨oe,ve,a0,x1,x2,x3,x4,x5⟩,fun h₂ k2 u2 th E=>?_⟩
  have nb:∀b o,b≠ea->¬an A b->h'.get? b=some o->(gw (env::outer) ea h').get? b=some o:=fun b o n nf q=>rF q n fun z=>nf ⟨_,e.hfr,z⟩
  have I4:FI G L env sc A s₁ _ (.val v) { s with heap:=h₂,toks:=s.toks+1+1 }:=I3.noted (s:={ s with heap:=h',toks:=s.toks+1+1 }) e (rH e.hfr hfrs nb k2 u2 (th.imp fun U q=>q.1)) hea1 had
  refine e.ld_bi I4 (by simp) (v:=.type "StopIteration") (by simp[bQ]) ⟨rfl,rfl,fun Q E hq=>?_,fun h₄ k4 u4 T4 E=>?_⟩
  ·refine x12 th fun o ho hoc=>?_
   exact wpAny_excMatches_type (X:= "StopIteration") (T:= "StopIteration") (b:=true) ⟨o,ho,hoc⟩ DY DZ isSubtype_stop hq
  have I5:FI G L env sc A s₁ _ (.val v) { s with heap:=h₄,toks:=s.toks+1+1 }:=I3.noted (s:={ s with heap:=h',toks:=s.toks+1+1 }) e (rH e.hfr hfrs nb k4 u4 (T4.there.imp fun U q=>q.1)) hea1 had
  refine wpAny_execs_cons (D0 e I5 hl4 rfl rfl hkn (by show(ks++[f.key]).length<=2000;simp;lia) (by show(ns++[(f.key,(st.length:Int))]).length<=2000;simp;lia) fun s6 I6=>?_)
  refine wpAny_execs_cons (DW e I6 hl5 hmm (by show ms.length<=2000;rw[hmm];simp;lia) fun s7 I7=>wpAny_execs_nil ?_)
  rw[cD]at hknd
  exact h2 s7 _ hc ⟨I7,hst,rfl,hsn,hsl,hsnd,hsub,fun k hk=>hkin k (bB _ hk),hknd.1⟩ rfl
end
noncomputable abbrev No:Addr->Prop:=fun U=>False
theorem Eg{ds:List PyData}{i:Nat}(h:i<=ds.length):fB ds (.int i) .none=ds.drop i:=by
 have hc:clipAt ds.length (i:Int)=i:=(qH _ i).trans (Nat.min_eq_left h)
 unfold fB
 simp only[part,Option.elim,hc]
 rw[List.take_of_length_le (by rw[List.length_drop];exact aL _)]
theorem o8{O:Addr->Prop}{h:Heap}:∀ {vs:List Value} {c:List Int},RepL O h vs (c.map PyData.int)->IntsAre vs c
 | [],[],_=>.nil
 | _::_,[],r=>by cases r
 | [],_::_,r=>by cases r
 | v::vs,k::c,r=>by
  cases r with
  | cons a l =>
   cases a
   exact .cons _ _ (o8 l)
section
variable{G:Glo}{L:SLay}{env:Env}{sc:Scope}{A A':Around}{outer:List Env}{s₁ s s':Shared}{D D':FCD}{y y':SV}{E:Value->Shared->Prop}{st:List (Int × Nat)}{sn:List Int}
inductive AdI(G:Glo)(L:SLay)(env:Env)(sc:Scope)(A:Around)(s₁:Shared)(xs:List (Addr × Obj))(st:List (Int × Nat))(sn:List Int)(y:SV)(m:Nat)(sk:Shared):Prop where
 | mk (Dk:FCD) (st0:List (Int × Nat)) (hm:m=st0.length) (ha:cr L.gr st0=cr L.gr st) (hx:Dk.xs=xs) (F:FSt G L env sc A s₁ Dk st0 sn y sk):AdI G L env sc A s₁ xs st sn y m sk
theorem Eh{Pp:Nat->Pos}{Q:Flow->Shared->Prop}(e:FE G L env sc A outer s₁)(F:FSt G L env sc A s₁ D st sn y s)(hy:∃v,y=.val v)
 (hl4:((Pp 12).endLine==(Pp 13).line)=true) (hl5:((Pp 17).endLine==(Pp 18).line)=true)
 (h1:∀k' st' s' D' t,cr L.gr st=(st',some k')->FSt G L env sc A s₁ D' st' sn (.val (.int k' t)) s'->D'.xs=D.xs->Q .next s')
 (h2:∀s' D',(cr L.gr st).2=none->FSt G L env sc A s₁ D' [] sn y s'->D'.xs=D.xs->Q .brk s') :
 wpAny (model G.prog G.w) A (exec (w7 Pp) env) Q E s:=by
 refine wpAny_While (codeAny_whileLoop (AdI G L env sc A s₁ D.xs st sn y) ?_ st.length ⟨D,st,rfl,rfl,rfl,F⟩)
 rintro m sk ⟨Dk,st0,rfl,ha,hxk,Fk⟩
 rw[j5 rfl]
 refine x22 Fk.I.fc.stk fun vs n hK hi=>?_
 have hlen:vs.size=Dk.ks.length:=by rw[<- cj];exact IntsAre.len hi
 have hkl:=Fk.kl
 have hsm:=e.sm
 refine wpAny_bind (Fk.I.ld (i:=2) rfl rfl (wpAny_bind (wpAny_standAt (wpAny_holding (wpAny_truthy_list hK.isList (by lia) ?_)))))
 have I2:=Fk.I.keeps (aw sk (sk.toks+1+1))
 have F2:FSt G L env sc A s₁ Dk st0 sn y { sk with toks:=sk.toks+1+1 }:=⟨I2,Fk.stk,Fk.ms,Fk.esn,Fk.snl,Fk.nd,Fk.sub,Fk.kin,Fk.knd⟩
 have hks:=Fk.stk.len.1
 cases st0 with
 | nil =>
  have:vs.isEmpty=true:=by
   rw[gF,hlen,hks];rfl
  rw[this]
  rw[if_neg (by decide)]
  refine wpAny_execs_cons (wpAny_Break (h2 _ Dk ?_ F2 hxk))
  rw[<- ha];rfl
 | cons p r =>
  obtain⟨k,i⟩:=p
  have:vs.isEmpty=false:=by
   cases q:vs.isEmpty with
   | false=>rfl
   | true =>
    rw[gF,hlen,hks]at q
    simp at q
  rw[this]
  rw[if_pos (by decide)]
  refine wpAny_execs_cons (Ee e F2 hy hl4 hl5 (fun k' s' D' t hc F' hx'=>?_) fun s' D' hc F' hx'=>wpAny_execs_nil ?_)
  ·refine h1 k' ((k,i+1)::r) s' D' t ?_ F' (hx'.trans hxk)
   rw[<- ha]
   rw[iZ,hc]
  ·refine⟨r.length,by simp,D',r,rfl,?_,hx'.trans hxk,F'⟩
   rw[<- ha]
   rw[iZ,hc]
theorem Ei{k:Int}{t:Tok}{Pp:Nat->Pos}{Q:Flow->Shared->Prop}
 (e:FE G L env sc A outer s₁) (F:FSt G L env sc A s₁ D st sn (.val (.int k t)) s) (hk:∃f∈L.inf,f.key=k)
 (hl1:((Pp 18).endLine==(Pp 20).line)=true) (hl2:((Pp 23).endLine==(Pp 31).line)=true) (hl3:((Pp 41).endLine==(Pp 43).line)=true)
 {O:Addr->Prop} (hO:∀b,O b->∃o,s₁.heap.get? b=some o)
 (h1:k∈sn->k∈cU st->∀v s',FI G L env sc A s₁ D (.val (.int k t)) s'->Rep O s'.heap v (.list ((hY st k).map .int))->Q (.ret v) s')
 (h2:¬(k∈sn/\k∈cU st)->∀s' D',FSt G L env sc A s₁ D' (if k∈sn then st else(k,0)::st) (if k∈sn then sn else sn++[k]) (.val (.int k t)) s'->D'.xs=D.xs->Q .next s') :
 wpAny (model G.prog G.w) A (exec (w4 Pp) env) Q E s:=by
 have I:=F.I
 have hkl:=F.kl
 have hsm:=e.sm
 have mk:∀ {s'},FI G L env sc A s₁ D (.val (.int k t)) s'->FSt G L env sc A s₁ D st sn (.val (.int k t)) s':=fun I=>⟨I,F.stk,F.ms,F.esn,F.snl,F.nd,F.sub,F.kin,F.knd⟩
 refine wpAny_If (wpAny_isTrue_Compare1 (I.ld (i:=6) rfl rfl (I.ld (i:=4) rfl rfl (wX I fun s2 I2=>wpAny_truthy_bool ?_))) rfl)
 rw[F.esn]
 by_cases hs:k∈sn
 ·rw[decide_eq_true hs]
  show wpAny _ _ (execs [_] env) _ _ s2
  refine wpAny_execs_cons (wpAny_If (wpAny_isTrue_Compare1 (I2.ld (i:=6) rfl rfl (I2.ld (i:=5) rfl rfl (DO e I2 fun s3 I3=>wpAny_truthy_bool ?_))) rfl))
  rw[F.stk.eqN,F.stk.eqK]
  by_cases hq:k∈cU st
  ·rw[decide_eq_true hq]
   show wpAny _ _ (execs [_] env) _ _ s3
   have hmem:k∈D.ks:=by rw[F.stk.eqK];exact hq
   refine x12 I3.fc.n2s fun kvs hD hp=>?_
   refine x11 (hp.at (F.stk.find hmem)) fun ti hv=>?_
   refine wpAny_execs_cons (wpAny_Return_some (wpAny_BinOp ?_))
   refine x22 I3.fc.stk fun vs n hK hi=>?_
   have obs:∀ {s'},FI G L env sc A s₁ D (.val (.int k t)) s'->∀b,O b->b<s'.heap.objs.size:=fun I b q=>(hO b q).elim fun o e=>(I.ks.there b o e).elim fun o' e'=>Heap.lt_size e'
   have rK:∀ {s'},Keeps s3 s'->bg O s'.heap (.ref D.a1) (.list (D.ks.map .int)):=fun kp=>.inr ⟨_,_,_,_,rfl,rfl,al kp _ _ hK,rC hi⟩
   have hrange:D.ks.idxOf k<=D.ks.length:=List.idxOf_le_length
   refine j7 (I3.ld (i:=2) rfl rfl ?_)
   refine wpAny_Slice ?_
   show wpAny _ A (eval (.Subscript (.Name gv (Pp 7)) (.Name az (Pp 8)) (Pp 9)) env) _ _ s3
   refine j7 (I3.ld (i:=5) rfl rfl (I3.ld (i:=6) rfl rfl ⟨"dict",_,slot_dict_getitem.lookup,hD.typeIs,wpAny_getItem_of jC hD.mapOf hv ?_⟩))
   show wpAny _ _ (pure Value.none) _ _ _
   refine wpAny_pure ?_
   show wpAny _ _ (pure Value.none) _ _ _
   refine wpAny_pure ?_
   have kp1:Keeps s3 { s3 with heap:=s3.heap.push { cls:=.type "slice",data:=.fields #[.int (D.ks.idxOf k:Int) ti,.none,.none] },toks:=s3.toks+1 }:=bt _
   have I4:=I3.keeps kp1
   refine⟨"list",_,PySem.F.slot_list_getitem.lookup,⟨_,al kp1 _ _ hK,rfl⟩,wpAny_mono (vn (O:=O) (obs I4) (rK kp1) (.int _ _) .none (Heap.get?_push_size _ rfl) ⟨by rw[af];lia,rfl,rfl⟩) (fun v s5 h5=>?_) fun U U x=>x⟩
   have I5:=I4.keeps h5.1
   refine wpAny_List (Calls.spliced_cons (I5.ld (i:=6) rfl rfl (Calls.spliced_nil ⟨by show 1<=16777216;decide,?_⟩)))
   have kp2:Keeps s5 { s5 with heap:=s5.heap.push { cls:=.type "list",data:=.seq [Value.int k t].toArray } }:=bt _
   have I6:=I5.keeps kp2
   have r6:Rep O (s5.heap.push { cls:=.type "list",data:=.seq [Value.int k t].toArray }) (.ref s5.heap.objs.size) (.list [.int k]):=.list (n:=0) (fun q=>aI _ (obs I5 _ q)) (IsL.new _ _) (.cons (.int _ _) .nil)
   have hsl:jr (.list (D.ks.map .int)) (.int (D.ks.idxOf k:Int)) .none=.list ((D.ks.drop (D.ks.idxOf k)).map .int):=by
    show PyData.list (fB _ _ _)=_
    rw[Eg (by rw[af];exact hrange),List.map_drop]
   rw[hsl]at h5
   refine wpAny_mono (vh (O:=O) (op:=.Add) (obs I6) (h5.2.keeps kp2) r6 ⟨rfl,by rw[af,List.length_drop];show _+1<=_;lia⟩) (fun v' s7 h7=>?_) fun U U x=>x
   have I7:=I6.keeps h7.1
   refine ak h7 fun k7 r7=>?_
   have r7:Rep O s7.heap v' (.list ((hY st k).map .int)):=by
    have:lx .Add (.list ((D.ks.drop (D.ks.idxOf k)).map .int)) (.list [.int k])=.list ((hY st k).map .int):=by
     show PyData.list (((D.ks.drop (D.ks.idxOf k)).map .int)++[.int k])=_
     simp only[hY,<- F.stk.eqK,pI,aH,List.map_nil]
    rw[<- this];exact r7
   exact h1 hs hq v' s7 I7 r7
  ·rw[decide_eq_false hq]
   show wpAny _ _ (execs [] env) _ _ s3
   refine wpAny_execs_nil (wpAny_execs_nil (h2 (fun z=>hq z.2) s3 D ?_ rfl))
   rw[if_pos hs,if_pos hs]
   exact mk I3
 ·rw[decide_eq_false hs]
  show wpAny _ _ (execs [_,_,_,_] env) _ _ s2
  refine x12 hk fun f hf e2=>?_;subst e2
  refine DX e (mk I2) hf hs hl1 hl2 hl3 fun s' D' F' hx'=>h2 (fun z=>hs z.1) s' D' ?_ hx'
  rw[if_neg hs,if_neg hs]
  exact F'
end
section
variable{G:Glo}{L:SLay}{env:Env}{sc:Scope}{A A':Around}{outer:List Env}{s₁ s s':Shared}{D D':FCD}{y y':SV}{E:Value->Shared->Prop}{st:List (Int × Nat)}{sn:List Int}
theorem w9(e:FE G L env sc A outer s₁):∀(st:List (Int × Nat)),(∀k∈st.map (·.1),∃f∈L.inf,f.key=k)->∀st' k',cr L.gr st=(st',some k')->∃f∈L.inf,f.key=k'
 | [],_,st',k',h=>nomatch h
 | (k,i)::r,hk,st',k',h=>by
  rw[iZ]at h
  refine x12 (hk k (by simp)) fun f hf hfk=>?_
  have hs:aK L.gr k=f.su:=hfk▸w3 e.S.keys hf
  cases hc:(aK L.gr k)[i]? with
  | some n =>
   rw[hc]at h
   simp only[Prod.mk.injEq,Option.some.injEq]at h
   refine ak h fun U e1=>?_;subst e1
   rw[hs]at hc
   exact e.clo f hf n (aE hc)
  | none =>
   rw[hc]at h
   exact w9 e r (fun k hk'=>hk k (by simp only[aH,aa];exact .inr hk')) st' k' h
theorem Ej{k:Int}{t:Tok}{st1:Stmt}{Q:Flow->Shared->Prop}(hS:isFIf st1)(e:FE G L env sc A outer s₁)(F:FSt G L env sc A s₁ D st sn (.val (.int k t)) s)(hk:∃f∈L.inf,f.key=k){O:Addr->Prop}(hO:∀b,O b->∃o,s₁.heap.get? b=some o)
 (h1:k∈sn->k∈cU st->∀v s',FI G L env sc A s₁ D (.val (.int k t)) s'->Rep O s'.heap v (.list ((hY st k).map .int))->Q (.ret v) s')
 (h2:¬(k∈sn/\k∈cU st)->∀s' D',FSt G L env sc A s₁ D' (if k∈sn then st else(k,0)::st) (if k∈sn then sn else sn++[k]) (.val (.int k t)) s'->D'.xs=D.xs->Q .next s'):wpAny (model G.prog G.w) A (exec st1 env) Q E s:=by
 obtain⟨rfl,hl1,hl2,hl3⟩:=hS
 exact Ei e F hk hl1 hl2 hl3 hO h1 h2
theorem Ek{st2:Stmt}{Q:Flow->Shared->Prop}(hS:isFW st2)(e:FE G L env sc A outer s₁)(F:FSt G L env sc A s₁ D st sn y s)(hy:∃v,y=.val v)
 (h1:∀k' st' s' D' t,cr L.gr st=(st',some k')->FSt G L env sc A s₁ D' st' sn (.val (.int k' t)) s'->D'.xs=D.xs->Q .next s')
 (h2:∀s' D',(cr L.gr st).2=none->FSt G L env sc A s₁ D' [] sn y s'->D'.xs=D.xs->Q .brk s'):wpAny (model G.prog G.w) A (exec st2 env) Q E s:=by
 obtain⟨rfl,hl4,hl5⟩:=hS
 exact Eh e F hy hl4 hl5 h1 h2
inductive WhI(G:Glo)(L:SLay)(env:Env)(sc:Scope)(A:Around)(s₁:Shared)(xs:List (Addr × Obj))(r:List Int ⊕ List Int)(m:Nat)(sk:Shared):Prop where
 | mk (Dk:FCD) (stk:List (Int × Nat)) (snk:List Int) (k:Int) (t:Tok) (hx:Dk.xs=xs) (F:FSt G L env sc A s₁ Dk stk snk (.val (.int k t)) sk) (hk:∃f∈L.inf,f.key=k) (hf:dM L.gr m k stk snk=some r):WhI G L env sc A s₁ xs r m sk
theorem El{k:Int}{t:Tok}{N:Nat}{r:List Int ⊕ List Int}{st1 st2:Stmt}{w1 w2:Pos}{Q:Flow->Shared->Prop}
 (e:FE G L env sc A outer s₁) (F:FSt G L env sc A s₁ D [] sn (.val (.int k t)) s) (hk:∃f∈L.inf,f.key=k)
 (hS1:isFIf st1) (hS2:isFW st2)
 {O:Addr->Prop} (hO:∀b,O b->∃o,s₁.heap.get? b=some o) (hr:dM L.gr N k [] sn=some r)
 (h1:∀c v s' D' y',r=.inl c->FI G L env sc A s₁ D' y' s'->Rep O s'.heap v (.list (c.map .int))->Q (.ret v) s')
 (h2:∀sn' s' D' v',r=.inr sn'->FSt G L env sc A s₁ D' [] sn' (.val v') s'->D'.xs=D.xs->Q .next s') :
 wpAny (model G.prog G.w) A (exec (.While (.Constant (.bool true) 0 w1) [st1,st2] [] w2) env) Q E s:=by
 refine wpAny_While (codeAny_whileLoop (WhI G L env sc A s₁ D.xs r) ?_ N ⟨D,[],sn,k,t,rfl,F,hk,hr⟩)
 rintro m sk ⟨Dk,stk,snk,k,t,hxk,Fk,hk,hm⟩
 rw[j5 rfl]
 refine wpAny_bind (wpAny_Constant_bool (wpAny_bind (wpAny_standAt (wpAny_holding (wpAny_truthy_bool ?_)))))
 rw[if_pos rfl]
 cases m with
 | zero=>cases hm
 | succ m =>
  rw[mh]at hm
  refine wpAny_execs_cons (Ej hS1 e Fk hk hO (fun hs hq v s' I' rv=>?_) fun hnq s2 D2 F2 hx2=>?_)
  ·rw[if_pos ⟨hs,hq⟩]at hm
   exact h1 _ v s' _ _ (Option.some.inj hm).symm I' rv
  ·rw[if_neg hnq]at hm
   have hkeys:∀k'∈(if k∈snk then stk else(k,0)::stk).map (·.1),∃f∈L.inf,f.key=k':=fun k' hk'=>F2.stk.mem (by rw[F2.stk.eqK];unfold cU;exact dY.mpr hk')
   refine wpAny_execs_cons (Ek hS2 e F2 ⟨_,rfl⟩ (fun k' st' s3 D3 t3 ha F3 hx3=>?_) fun s3 D3 ha F3 hx3=>?_)
   ·rw[ha]at hm
    exact wpAny_execs_nil ⟨m,i3 _,D3,st',_,k',t3,(hx3.trans hx2).trans hxk,F3,w9 e _ hkeys _ _ ha,hm⟩
   ·generalize hx:cr L.gr (if k∈snk then stk else(k,0)::stk)=x at hm ha
    obtain⟨x1,x2⟩:=x
    cases ha
    exact h2 _ s3 D3 _ (Option.some.inj hm).symm F3 ((hx3.trans hx2).trans hxk)
theorem FC.chgX{I0:Addr}{o o':Obj}{h h':Heap}{prog:Program}{w:World}{D:FCD}(x:FC prog w D h)(hx:D.xs=[(I0,o)])(s:Heap.ExtBut I0 h h')(ho:h'.get? I0=some o'):FC prog w { D with xs:=[(I0,o')] } h':=by
 have ha:=x.ap (I0,o) (by rw[hx];simp)
 have y:FC prog w { D with xs:=[] } h:=⟨x.stk,x.its,x.seen,x.n2s,x.ent,x.nd,(fun p hp=>nomatch hp),(fun p hp=>nomatch hp)⟩
 have z:=y.keeps (h':=h') fun b o hb q=>s b o (fun z=>by
  rcases au.mp hb with hb | hb
  ·exact ha (z▸hb)
  ·cases hb) q
 exact⟨z.stk,z.its,z.seen,z.n2s,z.ent,z.nd,fun p hp=>by rw[ai.mp hp];exact ho,fun p hp=>by rw[ai.mp hp];exact ha⟩
theorem FC.setX{I0:Addr}{o:Obj}{h:Heap}{prog:Program}{w:World}{D:FCD}(x:FC prog w D h)(ho:h.get? I0=some o)(ha:I0∉D.addrs):FC prog w { D with xs:=[(I0,o)] } h :=
 ⟨x.stk,x.its,x.seen,x.n2s,x.ent,x.nd,fun p hp=>by rw[ai.mp hp];exact ho,fun p hp=>by rw[ai.mp hp];exact ha⟩
theorem FC.noX{h:Heap}{prog:Program}{w:World}{D:FCD}(x:FC prog w D h):FC prog w { D with xs:=[] } h :=
 ⟨x.stk,x.its,x.seen,x.n2s,x.ent,x.nd,(fun p hp=>nomatch hp),(fun p hp=>nomatch hp)⟩
end
section
variable{G:Glo}{L:SLay}{env:Env}{sc:Scope}{A A':Around}{outer:List Env}{s₁ s s':Shared}{D D':FCD}{y y':SV}{E:Value->Shared->Prop}{st:List (Int × Nat)}{sn:List Int}
theorem FI.chgX{I0:Addr}{o o':Obj}{h':Heap}{t:Nat}(e:FE G L env sc A outer s₁)(I:FI G L env sc A s₁ D y s)(hx:D.xs=[(I0,o)])(k:Heap.ExtBut I0 s.heap h')(ho:h'.get? I0=some o'):FI G L env sc A s₁ { D with xs:=[(I0,o')] } y { s with heap:=h',toks:=t }:=by
 have hm:I0∈D.all:=FCD.all_r (p:=(I0,o)) (by rw[hx];simp)
 refine⟨I.lf.by fun b o hb q=>⟨o.slots,k b o (fun z=>I.notS e hm (z▸hb)) q⟩,I.fc.chgX hx k ho,I.ks.trans' (KS.of (KM.chg (M:=(· = I0)) k ⟨_,ho⟩ rfl)) fun b hb=>?_,fun b hb=>?_⟩
 ·have hb:b=I0:=hb
  exact .inr (hb▸I.new _ hm)
 ·rcases au.mp hb with hb | hb
  ·exact I.new b (FCD.all_l hb)
  ·have:b=I0:=by simpa using hb
   exact this▸I.new _ hm
inductive ForI(G:Glo)(L:SLay)(env:Env)(sc:Scope)(A:Around)(s₁:Shared)(I0:Addr)(ep N:Nat)(r:Option (List Int))(n:Nat)(sk:Shared):Prop where
 | mk (i:Nat) (Dk:FCD) (snk:List Int) (yk:SV) (o:Obj) (hi:i<=L.inf.length) (hn:n=L.inf.length+1 - i) (F:FSt G L env sc A s₁ Dk [] snk yk sk) (hx:Dk.xs=[(I0,o)])
  (hk:sk.heap.IsKeyIter I0 L.n2i i (L.inf.map fun f=>(f.key,Value.ref f.a)).length ep) (hf:fg L.gr N ((L.inf.map (·.key)).drop i) snk=some r):ForI G L env sc A s₁ I0 ep N r n sk
theorem Em{N:Nat}{r:Option (List Int)}{Pp:Nat->Pos}{st1 st2:Stmt}{Q:Flow->Shared->Prop}
 (e:FE G L env sc A outer s₁) (F:FSt G L env sc A s₁ D [] [] y s) (hxs:D.xs=[])
 (hS1:isFIf st1) (hS2:isFW st2)
 {O:Addr->Prop} (hO:∀b,O b->∃o,s₁.heap.get? b=some o) (hr:fg L.gr N (L.inf.map (·.key)) []=some r)
 (h1:∀c v s' D' y',r=some c->FI G L env sc A s₁ D' y' s'->Rep O s'.heap v (.list (c.map .int))->Q (.ret v) s')
 (h2:∀s' D' y',r=none->FI G L env sc A s₁ D' y' s'->Q .next s') :
 wpAny (model G.prog G.w) A (exec (w8 Pp st1 st2) env) Q E s:=by
 have S0:=F.I.S e
 refine x11 S0.n2i.dictAt fun ep hat=>?_
 have hsys:(L.n2i==sysModules)=false:=by
  rw[beq_eq_false_iff_ne]
  intro q
  refine x11 e.sys fun o h=>?_
  rw[<- q,e.hBL]at h;cases h
 have hkv:(L.inf.map fun f=>(f.key,Value.ref f.a)).length=L.inf.length:=af ..
 refine wpAny_For (F.I.ld (i:=1) rfl rfl (wpAny_pyIter_dict (knd:=intKind G.prog G.w) hsys hat ?_)) fun U=>rfl
 generalize hio:({ cls:=.type "dict_keyiterator",data:=.fields #[.ref L.n2i,.int 0 0,.int (L.inf.map fun f=>(f.key,Value.ref f.a)).length 0,.int ep 0] }:Obj)=o0
 have J:=F.I.keeps (bt (t:=s.toks) o0)
 have hnd0:s.heap.objs.size∉D.addrs:=fun q=>by
  refine x11 (F.I.fc.there q) fun o ho=>?_
  exact aI _ (Heap.lt_size ho)
 have hnew0:s₁.heap.get? s.heap.objs.size=none:=F.I.ks.back (by
  cases q:s.heap.get? s.heap.objs.size with
  | none=>rfl
  | some o=>exact absurd (Heap.lt_size q) (aI _))
 have hget0:(s.heap.push o0).get? s.heap.objs.size=some o0:=Heap.get?_push_size _ (by rw[<- hio];rfl)
 generalize hI0:s.heap.objs.size=I0 at hnd0 hnew0 hget0 ⊢
 have I1:FI G L env sc A s₁ { D with xs:=[(I0,o0)] } y { s with heap:=s.heap.push o0 }:=⟨J.lf,J.fc.setX hget0 hnd0,J.ks,fun b hb=>by
  rcases au.mp hb with hb | hb
  ·exact J.new b (FCD.all_l hb)
  ·have:b=I0:=by simpa using hb
   exact this▸hnew0⟩
 have hIf:I0∉hfp A:=fun q=>by
  refine x11 (e.hok.there I0 q) fun o ho=>?_
  rw[hnew0]at ho;cases ho
 have hnI:L.n2i≠I0:=fun q=>by
  refine x11 (e.S.there (show L.n2i∈L.addrs by simp[SLay.addrs])) fun o ho=>?_
  rw[q,hnew0]at ho;cases ho
 have W:=Dy (prog:=G.prog) (w:=G.w) (knd:=intKind G.prog G.w) (A:=A) I0 L.n2i hnI hIf (L.inf.map fun f=>(f.key,Value.ref f.a)) ep
 have hatS:∀ {sk D y},FI G L env sc A s₁ D y sk->sk.heap.DictAt (intKind G.prog G.w) L.n2i (L.inf.map fun f=>(f.key,Value.ref f.a)) ep:=fun I=>by
  have hs1:s₁.heap.DictAt (intKind G.prog G.w) L.n2i (L.inf.map fun f=>(f.key,Value.ref f.a)) ep:=by
   refine x32 e.S.n2i.dictAt fun ep' o1 es1 b1 b2=>?_
   have:=F.I.get e _ _ (e.hS L.n2i (by simp[SLay.addrs])) b1
   refine x24 (id hat) fun o2 es2 c1 c2 c3 c4=>?_
   rw[this]at c1;cases c1
   exact⟨o1,es2,b1,c2,c3,c4⟩
  exact mc hs1 fun o q=>I.get e _ o (e.hS L.n2i (by simp[SLay.addrs])) q
 refine codeAny_forLoop_any (ForI G L env sc A s₁ I0 ep N r) ?_ (L.inf.length+1)
  ⟨0,{ D with xs:=[(I0,o0)] },[],y,o0,aW _,rfl,⟨I1,F.stk,F.ms,F.esn,F.snl,F.nd,F.sub,F.kin,F.knd⟩,rfl,⟨o0,hget0,by rw[<- hio],by rw[<- hio];rfl⟩,by rw[List.drop_zero];exact hr⟩
 rintro n sk ⟨i,Dk,snk,yk,ok,hi,rfl,Fk,hx,hki,hfc⟩
 have hok:=Fk.I.hok e
 have hoI:=Fk.I.fc.ext (I0,ok) (by rw[hx];simp)
 by_cases hlt:i<L.inf.length
 ·refine W.item i _ _ _ (by rw[hkv];exact hlt) ⟨⟨hki,hatS Fk.I⟩,hok⟩ fun v h₂ t₂ hP hst₂ hk₂=>?_
  have hk2:Heap.ExtBut I0 sk.heap h₂:=fun b o n q=>hk₂ b o (by simpa using n) q
  refine ak hst₂ fun z0 U=>?_;refine ak z0 fun hki2 U=>?_
  refine x13 (id hki2) fun o2 ho2 hc2 hd2=>?_
  refine lE ho2 hc2 (by decide) ?_
  refine x12 hP fun q hq1 hq2=>?_
  refine x11 (Value.isInt_shape hq2) fun t e1=>?_;subst e1
  have I3:=Fk.I.chgX (t:=t₂) e hx hk2 ho2
  have hfi:∃f,L.inf[i]? = some f/\q=(f.key,.ref f.a):=by
   rw[bX]at hq1
   cases z:L.inf[i]? with
   | none=>rw[z]at hq1;cases hq1
   | some f=>rw[z]at hq1;exact⟨f,rfl,(Option.some.inj hq1).symm⟩
  refine x12 hfi fun f hf e2=>?_;subst e2
  have hfm:f∈L.inf:=aE hf
  have hdrop:(L.inf.map (·.key)).drop i=f.key::(L.inf.map (·.key)).drop (i+1):=by
   rw[List.drop_eq_getElem_cons (by rw[af];exact hlt)]
   congr 1
   have:(L.inf.map (·.key))[i]? = some f.key:=by rw[bX,hf];rfl
   exact Option.some.inj ((bk _).symm.trans this)
  rw[hdrop]at hfc
  rw[mi]at hfc
  refine I3.sto (i:=6) e rfl rfl rfl fun s4 I4=>?_
  have hki4:∀ {sk D y},FI G L env sc A s₁ D y sk->D.xs=[(I0,o2)]->sk.heap.IsKeyIter I0 L.n2i (i+1) (L.inf.map fun f=>(f.key,Value.ref f.a)).length ep:=fun I hx=>⟨o2,I.fc.ext (I0,o2) (by rw[hx];simp),hc2,hd2⟩
  have F4:∀ {s5},FI G L env sc A s₁ { Dk with xs:=[(I0,o2)] } (.val (.int f.key t)) s5->FSt G L env sc A s₁ { Dk with xs:=[(I0,o2)] } [] snk (.val (.int f.key t)) s5:=fun I=>⟨I,Fk.stk,Fk.ms,Fk.esn,Fk.snl,Fk.nd,Fk.sub,Fk.kin,Fk.knd⟩
  refine wpAny_execs_cons (wpAny_If (wpAny_isTrue_Compare1 (I4.ld (i:=6) rfl rfl (I4.ld (i:=4) rfl rfl (wX I4 fun s5 I5=>wpAny_truthy_bool ?_))) rfl))
  have hesn:({ Dk with xs:=[(I0,o2)] }:FCD).sn=snk:=Fk.esn
  rw[hesn]
  by_cases hs:f.key∈snk
  ·rw[if_pos hs]at hfc
   simp only[hs,decide_true]
   show wpAny _ _ (execs [_] env) _ _ s5
   refine wpAny_execs_cons (wpAny_Continue ?_)
   exact⟨L.inf.length+1 - (i+1),by omega,i+1,_,snk,_,o2,hlt,rfl,F4 I5,rfl,hki4 I5 rfl,hfc⟩
  ·rw[if_neg hs]at hfc
   simp only[hs,decide_false]
   show wpAny _ _ (execs [] env) _ _ s5
   refine wpAny_execs_nil ?_
   cases hw:dM L.gr N f.key [] snk with
   | none=>rw[hw]at hfc;cases hfc
   | some rw' =>
    rw[hw]at hfc
    refine wpAny_execs_cons (El e (F4 I5) ⟨f,hfm,rfl⟩ hS1 hS2 hO hw (fun c v s' D' y' hc I' rv=>?_) fun sn' s' D' v' hc F' hx'=>wpAny_execs_nil ?_)
    ·subst hc
     exact h1 c v s' D' y' (Option.some.inj hfc).symm I' rv
    ·subst hc
     exact⟨L.inf.length+1 - (i+1),by omega,i+1,D',sn',_,o2,hlt,rfl,F',hx',hki4 F'.I hx',hfc⟩
 ·have hin:i=L.inf.length:=m8 hi (cy.mp hlt)
  subst hin
  refine W.done _ _ _ (by rw[<- hkv]at hki;exact⟨⟨hki,hatS Fk.I⟩,hok⟩) fun h₂ t₂ hk₂=>wpAny_execs_nil ?_
  have hk:∀b o,b≠I0->sk.heap.get? b=some o->h₂.get? b=some o:=fun b o n q=>hk₂ b o (by simpa using n) q
  have hr0:r=none:=by
   rw[List.drop_eq_nil_of_le (by rw[af];exact aL _)]at hfc
   exact(Option.some.inj hfc).symm
  refine h2 _ { Dk with xs:=[] } yk hr0 ⟨Fk.I.lf.by fun b o hb q=>⟨o.slots,hk b o (fun z=>?_) q⟩,Fk.I.fc.noX.keeps fun b o hb q=>hk b o (fun z=>?_) q,?_,fun b hb=>?_⟩
  ·refine x11 (e.sto b hb) fun o' q'=>?_
   rw[z,hnew0]at q';cases q'
  ·rcases au.mp hb with hb | hb
   ·exact Fk.I.fc.ap (I0,ok) (by rw[hx];simp) (z▸hb)
   ·cases hb
  ·obtain⟨h3,t3,e3,k3,th3⟩:=Fk.I.ks
   subst e3
   have ne:∀b o,s₁.heap.get? b=some o->b≠I0:=fun b o q z=>by rw[z,hnew0]at q;cases q
   exact⟨h₂,t₂,rfl,fun b o n q=>(k3 b o n q).elim fun sl ζ=>ζ.elim fun q1 q2=>⟨sl,hk b _ (ne b o q) q1,q2⟩,fun b o q=>(th3 b o q).elim fun o' q1=>⟨o',hk b _ (ne b o q) q1⟩⟩
  ·rcases au.mp hb with hb | hb
   ·exact Fk.I.new b (FCD.all_l hb)
   ·cases hb
end
noncomputable def xa(P:Nat->Pos)(st:Stmt):List Stmt:=[.Assign [.Name hV (P 0)] (.Attribute (.Name aD (P 1)) kn (P 2)) (P 3),
 .Assign [.Name eI (P 4)] (.List [] (P 5)) (P 6),
 .Assign [.Name hW (P 7)] (.List [] (P 8)) (P 9),
 .Assign [.Name iY (P 10)] (.Call (.Name (ofString "set") (P 11)) [] [] (P 12)) (P 13),
 .Assign [.Name gv (P 14)] (.Dict [] [] (P 15)) (P 16),
 st,
 .Return (some (.Constant .none 0 (P 17))) (P 18)]
inductive isFind(b:List Stmt):Prop where
 | mk (st:Stmt) (h1:b=xa AG st) (h2:isFFor st):isFind b
noncomputable def mj:Option (List Int)->PyData
 | none=>.none
 | some c=>.list (c.map .int)
section
variable{G:Glo}
theorem rI{a:Addr}{fd:FuncData}{body:List Stmt}{names vars:List Str}{vs:List Value}{ys:List SV}{args:List Value}{A:Around}{s:Shared}{O:Addr->Prop}{R:Result->Shared->Prop}(wf:G.Wf)(FI:FnInfo G a fd body names vars)
 (ok:Okay A O s) (B:G.Base O s.heap) (hr:∀(i:Nat) (v:Value) (y:SV),vs[i]? = some v->ys[i]? = some y->lV G O s.heap v y) (hvl:vs.length=names.length) (hyl:ys.length=names.length) (hroom:A.depth<1000)
 (hbind:bindArgs fd ⟨args,[]⟩=pure (names.zip vs))
 (h:∀env O' s₁,env.frame=some env.locals->Keeps s s₁->(∀b,O b->O' b)->(∀b,O' b->O b\/s.heap.get? b=none)->(∀b,aT env b->s.heap.get? b=none)->(∀i,bu env (vars.map some) i)->Cond G env fd.scope (vars.map some) (A.deeper env) O' (fun U=>none) (ck vars ys) s₁ ->
  ∀Qf Ef,(∀v s',R (.ok (.ret v)) s'->Qf (.ret v) s')->(∀s',R (.ok (.ret .none)) s'->Qf .next s')->(∀e s',wpAny (model G.prog G.w) (A.deeper env) (leaving env e) (fun U s''=>R (.error e) s'') (fun e' s''=>R (.error e') s'') s'->Ef e s') ->
  wpAny (model G.prog G.w) (A.deeper env) (execs body env) Qf Ef s₁) :
 codeAny (model G.prog G.w) A (.call (.ref a) ⟨args,[]⟩) R s:=by
 refine x12 FI.at_ fun o e2 hd=>?_
 have sc:=FI.sc
 have hsub:∀y∈names,y∈vars:=fun y hy=>by rw[<- sc.pfx]at hy;exact nK hy
 refine codeAny_call_cells (binds:=names.zip vs) (by show A.depth<1000;exact hroom) (B.kp a o (wf.K a o e2)) hd (wf.lim.keeps B.kp) (FI.hcode.keeps B.kp) FI.hbody hbind FI.hclo (fun x hx=>?_) (fun s₁ x=>?_) sc.co sc.gen sc.kind
 ·have hm:x.1∈names:=by
   obtain⟨y,v⟩:=x
   exact(List.of_mem_zip hx).1
  rcases sc.var x.1 (hsub _ hm)with q | q
  ·exact .inl q
  ·refine .inr ⟨q,?_⟩
   refine x11 (iL (n:=s.heap.objs.size+1) (mem_of_lookup q)) fun c hc=>?_
   refine x11 (iK (dY.mpr hc)) fun c' hc'=>?_
   rw[gY,c5,hc'];rfl
 ·refine x16 (oW (G:=G) (A:=A) (ys:=ys) sc FI.hg FI.hb ok B hr hvl hyl x) fun O' hO hO2 hSt hsto C k=>?_
  exact h _ O' s₁ rfl k hO hO2 hSt hsto C _ _ (fun U U q=>q) (fun U q=>q) fun U U q=>q
structure FInfo(G:Glo):Prop where
 ts:dL G.K TS=true
 ni:e9 G.K NI=true
 sS:dh G.K NI (ofString "successors") pS 2=true
 FF:FnInfo G fF iw bF [aD] eh
 bind:∀u,bindArgs iw ⟨[u],[]⟩=pure ([aD].zip [u])
 bd:isFind bF
 gl:([ofString "set",ofString "iter",ofString "len",ofString "StopIteration"].all fun x=>bK iw.scope x)=true
 loc:(eh.all fun x=>iw.scope.names.lookup x==some NameKind.local)=true
 sys:∃o,G.hB.get? sysModules=some o
variable{L:SLay}{A:Around}{O:Addr->Prop}{s:Shared}{E:Value->Shared->Prop}
theorem rJ{env:Env}{sc:Scope}{ρ:List SV}{i:Nat}{x:Str}{v:Expr}{p pos:Pos}{o:Obj}{t:Nat}{Q:Flow->Shared->Prop}(F:LF env sc jB ρ s.heap)(hi:eh[i]? = some x)(hk:sc.names.lookup x=some .local)
 (hev:∀Q,Q (.ref s.heap.objs.size) { s with heap:=s.heap.push o,toks:=t }->wpAny (model G.prog G.w) A (eval v env) Q E s) (hsw:swapsWith v (some (.Name x p)) pos.line env=pure false) (hss:swappedStores [.Name x p] v env=pure none) (hf:o.isFreed=false)
 (h:∀s',LF env sc jB (ρ.set i (.val (.ref s.heap.objs.size))) s'.heap->KS (an A) (· = env.locals) s s'->s'.heap.get? s.heap.objs.size=some o->(∀b o,b≠env.locals->s.heap.get? b=some o->s'.heap.get? b=some o)->Q .next s') :
 wpAny (model G.prog G.w) A (exec (.Assign [.Name x p] v pos) env) Q E s:=by
 refine wpAny_Assign_stores (hev _ ?_) hsw hss
 have kp:Keeps s { s with heap:=s.heap.push o,toks:=t }:=bt _
 show wpAny _ _ (assign (.Name x p) env (.ref s.heap.objs.size)) _ _ _
 have hne:s.heap.objs.size≠env.locals:=fun q=>by
  refine x12 F.vars fun val f U=>?_
  refine x12 f.loc fun m z1 U=>?_;refine x32 z1 fun o' U U e U=>?_
  have:=Heap.lt_size e
  rw[<- q]at this;exact aI _ this
 refine(F.keeps kp).sto (s:={ s with heap:=s.heap.push o,toks:=t }) (rE hi) hk fun s' k l=>h s' l ((KS.of (KM.of kp)).trans (KS.of k)) (k.get _ _ hne (Heap.get?_push_size _ hf)) fun b o n q=>k.get b o n (al kp b o q)
theorem En{N:Nat}{r:Option (List Int)}(wf:G.Wf)(I:FInfo G)(ok:Okay A O s)(B:G.Base O s.heap)(X:FX { A with handled:=none } O (fun U=>none) s)(S:SorAt G.prog G.w L s.heap)(hLF:∀b∈L.addrs,¬an A b)(hLB:G.hB.get? L.n2i=none)
 (clo:∀f∈L.inf,∀n∈f.su,∃f'∈L.inf,f'.key=n) (sm:L.inf.length<=1000) (hroom:A.depth+30<1000) (hr:kA L.gr N=some r) :
 wpAny (model G.prog G.w) A (call (.ref fF) [.ref L.x]) (fun v s'=>KS (an A) No s s'/\Rep O s'.heap v (mj r)) E s:=by
 refine wpAny_call (rI (s:=s) (O:=O) (vs:=[.ref L.x]) (ys:=[.val (.ref L.x)]) wf I.FF ok B (fun i v y hv hy=>?_) rfl rfl (oG hroom) (I.bind _) fun env O' s₁ hL k1 hO1 hO2 hSt hsto C Qf Ef hret hnx hex=>?_)
 ·match i with
  | 0=>simp at hv hy;subst hv hy;exact .inr rfl
  | n+1=>simp at hv
 refine x12 X.fr fun outer hfo hfrs=>?_
 have hfo:A.frames=some outer:=hfo
 have hfr:(A.deeper env).frames=some (env::outer):=by show A.frames.map (env::·)=_;rw[hfo];rfl
 have hF':∀b,an (A.deeper env) b->b=env.locals\/an A b:=fun b ζ=>ζ.elim fun l ζ=>ζ.elim fun e hb=>by
  rw[hfr]at e;cases e
  rw[nQ,hL]at hb
  rcases aa.mp hb with q | q
  ·exact .inl q
  ·exact .inr ⟨outer,hfo,q⟩
 have hlocS:aT env env.locals:=.inl rfl
 have hF0:∀b,an (A.deeper env) b->O' b:=fun b q=>(hF' b q).elim (fun z=>z▸C.fr _ (.inl rfl)) fun z=>hO1 b (X.fo b z)
 have L0:=LF.of C
 have hlocD:∃o es n,s₁.heap.get? env.locals=some o/\o.data=.dict es n:=by
  refine x12 L0.vars fun val f U=>?_
  refine x12 f.loc fun m z1 U=>?_;refine x33 z1 fun o es ep q1 q2 U=>?_
  exact⟨o,es,ep,q1,q2⟩
 have e:FE G L env iw.scope (A.deeper env) outer s₁:=by
  refine⟨wf,I.ts,I.ni,I.sS,I.sys,hfr,hL,fun v hv=>?_,C.ok.hok,fun b hb q=>C.ok.hno b hb (hF0 b q),ec S k1,fun b hb q=>?_,C.base.kp,fun b q=>C.base.off b (hF0 b q),hLB,fun b q=>C.ok.obs b (C.store_O q),C.eo,fun x hx=>aU.mp I.gl x hx,fun x hx=>by simpa using aU.mp I.loc x hx,clo,sm,(lJ hroom (by decide):A.depth+1+20<1000)⟩
  ·rcases aa.mp hv with rfl | hv
   ·refine x32 hlocD fun o es n q1 q2=>?_
    exact⟨by rw[C.eo.kindS];decide,_,o,es,n,hL,q1,q2⟩
   ·obtain⟨h1,L',o,es,n,h2,h3,h4⟩:=hfrs v hv
    exact⟨h1,L',o,es,n,h2,al k1 _ _ h3,h4⟩
  ·rcases hF' b q with z | z
   ·refine x11 (S.there hb) fun o q'=>?_
    rw[z,hSt _ hlocS]at q';cases q'
   ·exact hLF b hb z
 have loc:=e.loc
 have kfin:∀ {s'},KS (an (A.deeper env)) (· = env.locals) s₁ s'->KS (an A) No s s':=fun k=>by
  obtain⟨h1,t1,rfl,k1⟩:=k1
  obtain⟨h2,t2,rfl,k2,th2⟩:=k
  have ne:∀b o,s.heap.get? b=some o->b≠env.locals:=fun b o q z=>by rw[z,hSt _ hlocS]at q;cases q
  refine⟨h2,t2,rfl,fun b o U q=>?_,fun b o q=>th2 b o (k1 b o q)⟩
  obtain⟨sl,q1,q2⟩:=k2 b o (ne b o q) (k1 b o q)
  exact⟨sl,q1,fun z=>q2 fun y=>(hF' b y).elim (fun w=>ne b o q w) z⟩
 obtain⟨st,hb4,hst⟩:=I.bd
 rw[hb4]
 unfold xa
 obtain⟨st1,st2,rfl,hst1,hst2⟩:=hst
 have hself:jB[0]? = some (some aD):=rfl
 have d0:(aD==ofString "__debug__")=false:=by decide +kernel
 -- n2i=self._node2info
 refine wpAny_execs_cons (wpAny_Assign_stores (gt C hself d0 rfl (oZ (C.base.inK wf) I.ts (ec S k1) ?_)) rfl rfl)
 have C1:=C.keeps wf (aw s₁ (s₁.toks+1))
 show wpAny _ _ (assign (.Name hV _) env (.ref L.n2i)) _ _ _
 refine(LF.of C1).sto (s:={ s₁ with toks:=s₁.toks+1 }) (i:=1) rfl (loc _ (by simp[eh])) fun s2 k2 l2=>?_
 have K2:KS (an (A.deeper env)) (· = env.locals) s₁ s2:=(KS.of (KM.of (aw s₁ (s₁.toks+1)))).trans (KS.of k2)
 have B2:∀b o,G.hB.get? b=some o->s2.heap.get? b=some o:=fun b o q=>K2.get b o (fun z=>by rw[z,C.base.off _ (C.fr _ (.inl rfl))]at q;cases q) (fun z=>by rw[C.base.off _ (hF0 b z)]at q;cases q) (C.base.kp b o q)
 -- stack=[],itstack=[]
 refine wpAny_execs_cons (rJ (A:=A.deeper env) (i:=2) (t:=s2.toks) (o:={ cls:=.type "list",data:=.seq ([]:List Value).toArray }) l2 rfl (loc _ (by simp[eh])) (fun Q h=>wpAny_List (Calls.spliced_nil ⟨aW _,h⟩)) rfl rfl rfl fun s3 l3 K3 g3 e3=>?_)
 refine wpAny_execs_cons (rJ (A:=A.deeper env) (i:=3) (t:=s3.toks) (o:={ cls:=.type "list",data:=.seq ([]:List Value).toArray }) l3 rfl (loc _ (by simp[eh])) (fun Q h=>wpAny_List (Calls.spliced_nil ⟨aW _,h⟩)) rfl rfl rfl fun s4 l4 K4 g4 e4=>?_)
 have K14:=(K2.trans K3).trans K4
 have B4:G.Base No s4.heap:=⟨fun b o q=>K14.get b o (fun z=>by rw[z,C.base.off _ (C.fr _ (.inl rfl))]at q;cases q) (fun z=>by rw[C.base.off _ (hF0 b z)]at q;cases q) (C.base.kp b o q),fun U q=>q.elim⟩
 -- seen=set()
 refine wpAny_execs_cons (wpAny_Assign_stores (dv (fun a ha=>nomatch ha) (gm wf C.eo B4 (e.gl _ ag) (v:=.type "set") (by simp[bQ]) (PySem.callWith_type (fG _) (gW (as:=[]) (env:=env) (Calls.spliced_nil (call_set_0 fun led=>?_)))))) rfl rfl)
 have kp4:Keeps s4 { s4 with heap:=s4.heap.push { cls:=.type "set",dict:=none,data:=.set #[] 0 (.fresh 0 0 led) } }:=bt _
 have locl:∀ {s:Shared} {ρ},LF env iw.scope jB ρ s.heap->s.heap.objs.size≠env.locals:=fun F q=>by
  refine x12 F.vars fun val f U=>?_
  refine x12 f.loc fun m z1 U=>?_;refine x32 z1 fun o' U U e U=>?_
  have:=Heap.lt_size e
  rw[<- q]at this;exact aI _ this
 show wpAny _ _ (assign (.Name iY _) env (.ref s4.heap.objs.size)) _ _ _
 refine(l4.keeps kp4).sto (s:={ s4 with heap:=s4.heap.push { cls:=.type "set",dict:=none,data:=.set #[] 0 (.fresh 0 0 led) } }) (i:=4) rfl (loc _ (by simp[eh])) fun s5 k5 l5=>?_
 have g5:=k5.get _ _ (locl l4) (Heap.get?_push_size s4.heap (o:={ cls:=.type "set",dict:=none,data:=.set #[] 0 (.fresh 0 0 led) }) rfl)
 have e5:∀b o,b≠env.locals->s4.heap.get? b=some o->s5.heap.get? b=some o:=fun b o n q=>k5.get b o n (al kp4 b o q)
 have K15:=K14.trans ((KS.of (KM.of kp4)).trans (KS.of k5))
 -- node2stacki={}
 refine wpAny_execs_cons (rJ (A:=A.deeper env) (i:=5) (t:=s5.toks) (o:={ cls:=.type "dict",data:=.dict #[] }) l5 rfl (loc _ (by simp[eh])) (fun Q h=>?_) rfl rfl rfl fun s6 l6 K6 g6 e6=>?_)
 ·rw[eval_Dict_empty]
  refine wpAny_bind (wpAny_standAt ?_)
  unfold newDict
  exact wpAny_newObj_type h (by size_fits)
 have K16:=K15.trans K6
 have n2:=locl l2
 have n3:=locl l3
 have n4:=locl l4
 have n5:=locl l5
 have g3':=e6 _ _ n2 (e5 _ _ n2 (e4 _ _ n2 g3))
 have g4':=e6 _ _ n3 (e5 _ _ n3 g4)
 have g5':=e6 _ _ n4 g5
 have lt1:s2.heap.objs.size<s3.heap.objs.size:=Heap.lt_size g3
 have lt2:s3.heap.objs.size<s4.heap.objs.size:=Heap.lt_size g4
 have lt3:s4.heap.objs.size<s5.heap.objs.size:=Heap.lt_size g5
 have none_size:∀h:Heap,h.get? h.objs.size=none:=fun h=>by
  cases q:h.get? h.objs.size with
  | none=>rfl
  | some o=>exact absurd (Heap.lt_size q) (aI _)
 have hset:s6.heap.SetOf (intKind G.prog G.w) s4.heap.objs.size (fun k=>decide (k∈([]:List Int))) 0 :=
  ⟨_,#[],0,.fresh 0 0 led,g5',⟨rfl,rfl,rfl⟩,rfl,(fun e he=>nomatch he),(fun k=>by simp),by decide,(by cases led<;>decide),rfl⟩
 have hdict:s6.heap.DictOf (intKind G.prog G.w) s5.heap.objs.size []:=eU (h:=s5.heap.push { cls:=.type "dict",data:=.dict #[] }) (fun o q=>by
  rw[Heap.get?_push_size _ rfl]at q;cases q;exact g6) (Heap.DictOf.new _)
 have fc:FC G.prog G.w ⟨s2.heap.objs.size,s3.heap.objs.size,s4.heap.objs.size,s5.heap.objs.size,[],[],[],[],[],[]⟩ s6.heap:=by
  refine⟨⟨#[],0,g3',.nil⟩,⟨0,g4'⟩,⟨0,hset,aL _⟩,⟨[],hdict,.nil⟩,fun e he=>(nomatch he),?_,fun p hp=>(nomatch hp),fun p hp=>(nomatch hp)⟩
  show[s2.heap.objs.size,s3.heap.objs.size,s4.heap.objs.size,s5.heap.objs.size].Nodup
  have q1:s2.heap.objs.size≠s3.heap.objs.size:=cK lt1
  have q2:s2.heap.objs.size≠s4.heap.objs.size:=cK (Nat.lt_trans lt1 lt2)
  have q3:s2.heap.objs.size≠s5.heap.objs.size:=cK (Nat.lt_trans (Nat.lt_trans lt1 lt2) lt3)
  have q4:s3.heap.objs.size≠s4.heap.objs.size:=cK lt2
  have q5:s3.heap.objs.size≠s5.heap.objs.size:=cK (Nat.lt_trans lt2 lt3)
  have q6:s4.heap.objs.size≠s5.heap.objs.size:=cK lt3
  simp[q1,q2,q3,q4,q5,q6]
 have J:FI G L env iw.scope (A.deeper env) s₁ ⟨s2.heap.objs.size,s3.heap.objs.size,s4.heap.objs.size,s5.heap.objs.size,[],[],[],[],[],[]⟩ .un s6:=by
  refine⟨l6,fc,K16,fun c hc=>?_⟩
  have hc:c∈[s2.heap.objs.size,s3.heap.objs.size,s4.heap.objs.size,s5.heap.objs.size]:=by simpa[FCD.all,FCD.addrs]using hc
  simp only[aa,bz,or_false]at hc
  rcases hc with rfl | rfl | rfl | rfl
  ·exact K2.back (none_size _)
  ·exact(K2.trans K3).back (none_size _)
  ·exact K14.back (none_size _)
  ·exact K15.back (none_size _)
 have hob:∀b,O' b->∃o,s₁.heap.get? b=some o:=C.ok.obs
 have hg:L.gr.map (·.1)=L.inf.map (·.key):=by simp[SLay.gr]
 unfold kA at hr
 rw[hg]at hr
 refine wpAny_execs_cons (Em e ⟨J,.nil,rfl,rfl,aW _,.nil,fun k hk=>(nomatch hk),fun k hk=>(nomatch hk),.nil⟩ rfl hst1 hst2 hob hr (fun c v s' D' y' hc I' rv=>?_) fun s' D' y' hc I'=>?_)
 ·subst hc
  exact hret _ _ ⟨kfin I'.ks,rv.weak hO1⟩
 ·subst hc
  exact wpAny_execs_cons (wpAny_Return_some (wpAny_Constant_none (hret _ _ ⟨kfin I'.ks,.none⟩)))
end
noncomputable def hZ:Str:=ofString "cycle"
noncomputable def nI:Str:=ofString "i"
noncomputable def ml:List Str:=[aD,hZ]
noncomputable def xb(P:Nat->Pos)(u1:List Stmt)(scope:Scope)(msg:Str):List Stmt:=[.If (.Compare (.Attribute (.Name aD (P 0)) (ofString "_ready_nodes") (P 1)) [.IsNot] [.Constant .none 0 (P 2)] (P 3)) u1 [] (P 4),
 .Assign [.Attribute (.Name aD (P 5)) (ofString "_ready_nodes") (P 6)] (.ListComp (.Attribute (.Name nI (P 7)) (ofString "node") (P 8)) [⟨.Name nI (P 9),.Call (.Attribute (.Attribute (.Name aD (P 10)) (ofString "_node2info") (P 11)) (ofString "values") (P 12)) [] [] (P 13),[.Compare (.Attribute (.Name nI (P 14)) (ofString "npredecessors") (P 15)) [.Eq] [.Constant (.int 0) 0 (P 16)] (P 17)],0⟩] scope (P 18)) (P 19),
 .Assign [.Name hZ (P 20)] (.Call (.Attribute (.Name aD (P 21)) (ofString "_find_cycle") (P 22)) [] [] (P 23)) (P 24),
 .If (.Name hZ (P 25)) [.Raise (some (.Call (.Name (ofString "CycleError") (P 26)) [.JoinedStr [.Constant (.str msg) 0 (P 27)] (P 28),.Name hZ (P 29)] [] (P 30))) none (P 31)] [] (P 32)]
inductive isPrepare(sc:Scope)(b:List Stmt):Prop where
 | mk (msg:Str) (h1:b=xb jY AO pX msg) (h2:((jY 12).endLine==(jY 13).line)=true) (h3:((jY 22).endLine==(jY 23).line)=true) (h4:lI sc pX [nI]=true) (h5:aS (bZ sc pX) nI=true):isPrepare sc b
noncomputable def rL(d:Data)(f:ClassData->Bool):Bool:=match d with | .cls cd=>f cd | _=>false
theorem Eo{P:Data->Prop}{d:Data}{f:ClassData->Bool}(h:rL d f=true)(k:∀cd,f cd=true->P (.cls cd)):P d:=by
 cases d<;>first | exact absurd h Kr | exact k _ h
noncomputable def rM(l:List Value)(f:Addr->List Value->Bool):Bool:=vC l fun v r=>match v with | .ref a=>f a r | _=>false
theorem Ep{P:List Value->Prop}{l:List Value}{f:Addr->List Value->Bool}(h:rM l f=true)(k:∀a r,f a r=true->P (.ref a::r)):P l :=
 cO h fun v r h=>by cases v<;>first | exact absurd h Kr | exact k _ _ h
noncomputable def v6(l:List (Option Value))(f:String->Bool):Bool:=vC l fun U l=>vC l fun U l=>vC l fun U l=>vC l fun U l=>vC l fun b l=>vC l fun U l=>v0 l (vO b fun v=>match v with | .builtin n=>f n | _=>false)
theorem Er{P:List (Option Value)->Prop}{l:List (Option Value)}{f:String->Bool}(h:v6 l f=true)(k:∀a b c d n e,f n=true->P [a,b,c,d,some (.builtin n),e]):P l :=
 cO h fun a l h=>cO (P:=fun l=>P (a::l)) h fun b l h=>cO (P:=fun l=>P (a::b::l)) h fun c l h=>cO (P:=fun l=>P (a::b::c::l)) h fun d l h=>cO (P:=fun l=>P (a::b::c::d::l)) h fun n l h =>
  cO (P:=fun l=>P (a::b::c::d::n::l)) h fun e l h=>et (P:=fun l=>P (a::b::c::d::n::e::l)) h fun h=>nW (P:=fun n=>P [a,b,c,d,n,e]) h fun v h=>by
   cases v<;>first | exact absurd h Kr | exact k a b c d _ e h
noncomputable def rO(K:Frag)(C:Addr)(bmB:List Value)(newId:String):Bool:=(K.lookup C).elim false fun o =>
 decide (o.cls=.type "type")&&rL o.data fun cd=>rM cd.mro fun C' bm=>v6 o.slots.toList fun n=>C'==C&&n==newId&&!cd.hasDel&&tailIn K bmB bm&&nsOkIn K cd.ns&&nsIn K cd.ns "__init__" == some none
structure PInfo(G:Glo):Prop extends FInfo G where
 sN:dh G.K NI (ofString "node") pN 0=true
 sP:dh G.K NI (ofString "npredecessors") pP 1=true
 mF:hA G.K TS (ofString "_find_cycle") fF=true
 FP:FnInfo G fP jn bP [aD] ml
 bindP:∀u,bindArgs jn ⟨[u],[]⟩=pure ([aD].zip [u])
 bdP:isPrepare jn.scope bP
 glP:bK jn.scope (ofString "CycleError")=true
 ce:G.mg (ofString "CycleError")=some (.ref CE)
 exc:rO G.K CE [.type "ValueError",.type "Exception",.type "BaseException",.type "object"] "ValueError.__new__" = true
inductive ExObj(h:Heap)(C:Addr)(bmB:List Value)(newId:String):Prop where
 | mk (bm:List Value) (N:Addr) (nm qn:Str) (bs:List Value) (hdct:Bool) (sn:List Str) (sub:List Value) (ab:Bool) (col:Option Bool) (dd:Option Addr) (k0 k1 k2 k3 k5:Option Value) (mN:Str->Option Value)
  (e:h.get? C=some (excClassObj nm qn C N bs bm hdct sn sub ab col dd k0 k1 k2 k3 k5 newId)) (n:h.Ns N mN) (i:mN "__init__" = none) (t:OwnTail h bmB bm):ExObj h C bmB newId
theorem Es{K:Frag}{h:Heap}{C:Addr}{bmB:List Value}{newId:String}(X:K.In h)(q:rO K C bmB newId=true):ExObj h C bmB newId:=by
 unfold rO at q
 cases ho:K.lookup C with
 | none=>rw[ho]at q;exact absurd q Kr
 | some o =>
  rw[ho]at q
  replace q:(decide (o.cls=.type "type")&&rL o.data fun cd=>rM cd.mro fun C' bm=>v6 o.slots.toList fun n=>C'==C&&n==newId&&!cd.hasDel&&tailIn K bmB bm&&nsOkIn K cd.ns&&nsIn K cd.ns "__init__" == some none)=true:=q
  refine aO q fun h1 q=>?_
  obtain⟨cls,dd,data,sl⟩:=o
  cases of_decide_eq_true h1
  replace ho:=X _ _ ho
  revert ho
  refine Eo (P:=fun d=>h.get? C=some ⟨.type "type",dd,d,sl⟩->ExObj h C bmB newId) q fun cd q ho=>?_
  obtain⟨nm,bs,mro,ns,qn,hd,sn,sub,ab,col,del⟩:=cd
  revert ho
  refine Ep (P:=fun mro=>h.get? C=some ⟨.type "type",dd,.cls ⟨nm,bs,mro,ns,qn,hd,sn,sub,ab,col,del⟩,sl⟩->ExObj h C bmB newId) q fun C' bm q ho=>?_
  obtain⟨sl⟩:=sl
  revert ho
  refine Er (P:=fun sl=>h.get? C=some ⟨.type "type",dd,.cls ⟨nm,bs,.ref C'::bm,ns,qn,hd,sn,sub,ab,col,del⟩,⟨sl⟩⟩->ExObj h C bmB newId) q fun k0 k1 k2 k3 n k5 q ho=>?_
  refine qj q fun q1 q2 q3 q4 q5 q6=>?_
  cases eq_of_beq q1
  cases eq_of_beq q2
  cases del with
  | true=>exact absurd q3 Kr
  | false=>exact⟨bm,ns,nm,qn,bs,hd,sn,sub,ab,col,dd,k0,k1,k2,k3,k5,_,ho,.of_isNs (isNs_of_in X q5),nsMap_none_of_in X q5 (eq_of_beq q6),tail_of_in X q4⟩
theorem xc{g:Gr}:∀ {n:Nat} {k:Int} {st:List (Int × Nat)} {sn c:List Int},dM g n k st sn=some (.inl c)->c≠[]
 | 0,_,_,_,_,h=>by cases h
 | n+1,k,st,sn,c,h=>by
  rw[mh]at h
  split at h
  ·cases h
   unfold hY
   simp
  ·split at h
   ·cases h
   ·exact xc h
theorem rP{g:Gr}{N:Nat}:∀ {ks sn:List Int} {c:List Int},fg g N ks sn=some (some c)->c≠[]
 | [],_,_,h=>by cases h
 | k::ks,sn,c,h=>by
  rw[mi]at h
  split at h
  ·exact rP h
  ·split at h
   ·cases h
   ·rename_i c' hw
    cases h
    exact xc hw
   ·exact rP h
section
variable{G:Glo}{env:Env}{sc:Scope}{ctx:List (Option Str)}{A:Around}{O:Addr->Prop}{ω:Addr->Option Nat}{ρ:List SV}{s s':Shared}
theorem Cond.ks(wf:G.Wf)(C:Cond G env sc ctx A O ω ρ s)(k:KS (an A) No s s')(fo:∀b,an A b->O b)(fw:∀b i,ω b=some i->¬an A b):Cond G env sc ctx A O ω ρ s':=by
 have kk:∀b o,¬O b->s.heap.get? b=some o->s'.heap.get? b=some o:=fun b o n e=>k.get b o id (fun q=>n (fo b q)) e
 obtain⟨val,F,V⟩:=C.vars
 refine⟨C.eo,C.co,C.len,⟨C.ok.hok.frame fun b hb o e=>kk b o (C.ok.hno b hb) e,C.ok.hno,fun b hb=>(C.ok.obs b hb).elim fun o e=>k.there b o e⟩,⟨fun b o e=>kk b o (fun q=>by rw[C.base.off b q]at e;cases e) (C.base.kp b o e),C.base.off⟩,C.fr,C.fc,C.om,val,F.slots fun b o U e=>k.slot b o id e,fun i x e=>?_⟩
 exact(V i x e).at wf C.base fun b o hb q=>by
  rcases hb with hb | hb
  ·exact k.get b o id (fw b i hb) q
  ·exact kk b o hb q
theorem FX.ks{F:Addr->Prop}(x:FX A O ω s)(k:KS F No s s'):FX A O ω s':=x.by k (fun b q=>q.elim) x.fo x.fw
end
theorem xe{inf:List NInf}(hn:(inf.flatMap aV).Nodup){f g:NInf}(hf:f∈inf)(hg:g∈inf)(e:f.a=g.a):f=g:=by
 refine x11 (mT.mp hf) fun i hi=>?_
 refine x11 (mT.mp hg) fun j hj=>?_
 by_cases q:i=j
 ·subst q;rw[hi]at hj;exact Option.some.inj hj
 ·exact absurd (show f.a∈aV g by rw[e];simp[aV]) (wA hn hi hj q f.a (by simp[aV]))
noncomputable def cu(inf:List NInf):List Int:=(inf.filter fun f=>f.np==0).map (·.key)
noncomputable def mo(inf:List NInf)(v:Value):Bool:=inf.any fun f=>(Value.ref f.a==v)&&f.np==0
noncomputable def mq(inf:List NInf)(v:Value):List PyData:=((inf.filter fun f=>Value.ref f.a==v).map fun f=>PyData.int f.key).take 1
theorem xf{inf:List NInf}(hn:(inf.flatMap aV).Nodup){f:NInf}(hf:f∈inf):mo inf (.ref f.a)=(f.np==0):=by
 unfold mo
 cases h:f.np==0 with
 | true=>exact cM.mpr ⟨f,hf,by simp[h]⟩
 | false =>
  rw[List.any_eq_false]
  intro g hg q
  simp only[cF,beq_iff_eq,Value.ref.injEq]at q
  have:=xe hn hg hf q.1
  subst this
  simp[q.2]at h
theorem xg{inf:List NInf}(hn:(inf.flatMap aV).Nodup){f:NInf}(hf:f∈inf):mq inf (.ref f.a)=[.int f.key]:=by
 unfold mq
 have:∀g∈inf.filter (fun g=>Value.ref g.a==Value.ref f.a),g=f:=fun g hg=>by
  rw[cW]at hg
  exact xe hn hg.1 hf (by simpa using hg.2)
 cases h:inf.filter (fun g=>Value.ref g.a==Value.ref f.a)with
 | nil =>
  have:f∈inf.filter (fun g=>Value.ref g.a==Value.ref f.a):=cW.mpr ⟨hf,by simp⟩
  rw[h]at this;cases this
 | cons g r =>
  rw[this g (by rw[h];exact ag)]
  rfl
theorem xh{inf:List NInf}(hn:(inf.flatMap aV).Nodup):((inf.map fun f=>Value.ref f.a).flatMap fun d=>if mo inf d=true then mq inf d else[])=(cu inf).map PyData.int:=by
 have key:∀l:List NInf,(∀f∈l,f∈inf)->((l.map fun f=>Value.ref f.a).flatMap fun d=>if mo inf d=true then mq inf d else[])=(cu l).map PyData.int:=by
  intro l
  induction l with
  | nil=>intro _;rfl
  | cons f r ih =>
   intro h
   have hf:=h f ag
   rw[aH,eM,ih fun g hg=>h g (ar _ hg),xf hn hf,xg hn hf]
   unfold cu
   rw[ft]
   cases f.np==0<;>simp
 exact key inf fun U h=>h
theorem rQ{L:SLay}{D:Addr}{l:List Int}{b:Addr}(h:b∈({ L with rd:=some (D,l) }:SLay).addrs):b∈L.addrs\/b=D:=by
 simp only[SLay.addrs,SLay.rdAs,aa,au,bz,or_false]at h ⊢
 rcases h with h | h | h | h | h
 ·exact .inl (.inl h)
 ·exact .inl (.inr (.inl h))
 ·exact .inl (.inr (.inr (.inl h)))
 ·exact .inl (.inr (.inr (.inr (.inl h))))
 ·exact .inr h
theorem xi{L:SLay}{D:Addr}{l:List Int}{b:Addr}(hrd:L.rd=none)(h:b∈L.addrs):b∈({ L with rd:=some (D,l) }:SLay).addrs:=by
 simp only[SLay.addrs,SLay.rdAs,hrd,aa,au,bz,or_false]at h ⊢
 rcases h with h | h | h | h
 ·exact .inl h
 ·exact .inr (.inl h)
 ·exact .inr (.inr (.inl h))
 ·exact .inr (.inr (.inr (.inl h)))
section
variable{A:Around}{O:Addr->Prop}{ω:Addr->Option Nat}{s:Shared}
theorem KS.noted{L:List Addr}{h₂ B:Heap}{s₁:Shared}{t:Nat}(X:FX A O ω s)(k:KS (an A) (·∈L) s s₁)(sB:∀b o,¬an A b->b∉L->s.heap.get? b=some o->B.get? b=some o)(hL:∀b∈L,∃o,B.get? b=some o)(st:B.StaysIn h₂)(u:s₁.heap.UpToSlots h₂):KS (an A) (·∈L) s { s₁ with heap:=h₂,toks:=t }:=by
 obtain⟨h9,t9,rfl,p1,p2⟩:=k
 have slot:∀b o,b∉L->s.heap.get? b=some o->∃sl,h₂.get? b=some { o with slots:=sl }/\(¬an A b->sl=o.slots):=fun b o n q=>by
  by_cases z:an A b
  ·refine x12 (p1 b o n q) fun sl r1 U=>?_
   refine x32 (X.dict z) fun o' es m' w1 w2=>?_
   rw[q]at w1;cases w1
   obtain⟨sl',r3⟩:=u b _ r1 fun vs y=>by
    have y:o.data=.fields vs:=y
    rw[w2]at y;cases y
   exact⟨sl',r3,fun y=>absurd z y⟩
  ·exact⟨o.slots,st b o (sB b o z n q),fun U=>rfl⟩
 refine⟨h₂,t,rfl,slot,fun b o q=>?_⟩
 by_cases n:b∈L
 ·refine x11 (hL b n) fun o' q'=>?_
  exact⟨o',st b o' q'⟩
 ·refine x12 (slot b o n q) fun sl q' U=>?_
  exact⟨_,q'⟩
end
section
variable{G:Glo}{L:SLay}{A:Around}{O:Addr->Prop}{s:Shared}
theorem FX.deeper{G:Glo}{A:Around}{O O':Addr->Prop}{env:Env}{sc:Scope}{ctx:List (Option Str)}{ρ:List SV}{s s₁:Shared}(X:FX A O (fun U=>none) s)(k:Keeps s s₁)(C:Cond G env sc ctx (A.deeper env) O' (fun U=>none) ρ s₁)(hL:env.frame=some env.locals)(hO:∀b,O b->O' b) :
 FX (A.deeper env) O' (fun U=>none) s₁/\(∀b,an (A.deeper env) b->b=env.locals\/an A b)/\∃outer,A.frames=some outer/\(A.deeper env).frames=some (env::outer):=by
 refine x12 X.fr fun outer hfo hfrs=>?_
 have hfr:(A.deeper env).frames=some (env::outer):=by show A.frames.map (env::·)=_;rw[hfo];rfl
 have hF':∀b,an (A.deeper env) b->b=env.locals\/an A b:=fun b ζ=>ζ.elim fun l ζ=>ζ.elim fun e hb=>by
  rw[hfr]at e;cases e
  rw[nQ,hL]at hb
  rcases aa.mp hb with q | q
  ·exact .inl q
  ·exact .inr ⟨outer,hfo,q⟩
 refine⟨⟨⟨_,hfr,fun v hv=>?_⟩,fun b q=>(hF' b q).elim (fun z=>z▸C.fr _ (.inl rfl)) fun z=>hO b (X.fo b z),fun b i q=>(nomatch q),X.hn⟩,hF',outer,hfo,hfr⟩
 rcases aa.mp hv with rfl | hv
 ·obtain⟨val,f,_⟩:=C.vars
  refine x12 f.loc fun m z1 U=>?_;refine x33 z1 fun o es ep q1 q2 U=>?_
  exact⟨by rw[C.eo.kindS];decide,_,o,es,ep,hL,q1,q2⟩
 ·obtain⟨h1,L',o,es,n,h2,h3,h4⟩:=hfrs v hv
  exact⟨h1,L',o,es,n,h2,al k _ _ h3,h4⟩
theorem Et{N:Nat}{r:Option (List Int)}(wf:G.Wf)(I:PInfo G)(ok:Okay A O s)(B:G.Base O s.heap)(X:FX A O (fun U=>none) s)(S:SorAt G.prog G.w L s.heap)(hrd:L.rd=none)(hO:∀b∈L.addrs,O b)(hLF:∀b∈L.addrs,¬an A b)
 (clo:∀f∈L.inf,∀n∈f.su,∃f'∈L.inf,f'.key=n) (sm:L.inf.length<=1000) (hroom:A.depth+40<1000) (hh:A.handled=none) (hr:kA L.gr N=some r) (hcl:∀c,r=some c->c.length<=100000)
 {Q:Value->Shared->Prop} {E:Value->Shared->Prop} (hQ:r=none->∀s' rA,s.heap.get? rA=none->SorAt G.prog G.w { L with rd:=some (rA,cu L.inf) } s'.heap->KS (an A) (·∈L.addrs) s s'->Q .none s')
 (hE:r≠none->∀s' a B rA,ee B (A.frames.getD []) a (.ref CE) s'.heap->s.heap.get? a=none->s.heap.get? rA=none->SorAt G.prog G.w { L with rd:=some (rA,cu L.inf) } B ->
  (∀b o,¬an A b->b∉L.addrs->s.heap.get? b=some o->B.get? b=some o)->KS (an A) (·∈L.addrs) s s'->E (.ref a) s') :
 wpAny (model G.prog G.w) A (call (.ref fP) [.ref L.x]) Q E s:=by
 refine wpAny_call (rI (s:=s) (O:=O) (vs:=[.ref L.x]) (ys:=[.val (.ref L.x)]) wf I.FP ok B (fun i v y hv hy=>?_) rfl rfl (oG hroom) (I.bindP _) fun env O' s₁ hL k1 hO1 hO2 hSt hsto C Qf Ef hret hnx hex=>?_)
 ·match i with
  | 0=>simp at hv hy;subst hv hy;exact .inr rfl
  | n+1=>simp at hv
 have bd:=I.bdP
 obtain⟨msg,hb,hl1,hl2,hso,hsi⟩:=bd
 rw[hb]
 unfold xb
 have d0:(aD==ofString "__debug__")=false:=by decide +kernel
 have d1:(hZ==ofString "__debug__")=false:=by decide +kernel
 have d2:(nI==ofString "__debug__")=false:=by decide +kernel
 have hself:(ml.map some)[0]? = some (some aD):=rfl
 have hcyc:(ml.map some)[1]? = some (some hZ):=rfl
 have S1:=ec S k1
 have hOO:∀b∈L.addrs,O' b:=fun b hb=>hO1 b (hO b hb)
 have hFS:∀b∈L.addrs,¬aT env b:=fun b hb q=>by
  refine x11 (S.there hb) fun o e=>?_
  rw[hSt b q]at e;cases e
 have hstor:aS jn.scope hZ=true:=by
  rcases I.FP.sc.var hZ (by simp[ml])with q | q<;>simp[aS,q]
 -- if self._ready_nodes is not None
 refine wpAny_execs_cons (wpAny_If (wpAny_isTrue_Compare1 (gt C hself d0 rfl (wx (C.base.inK wf) I.ts S1 (wpAny_Constant_none (isNot_none ?_)))) rfl))
 have hrv:L.rdv=.none:=by unfold SLay.rdv;rw[hrd]
 rw[hrv]
 refine wpAny_truthy_bool ?_
 show wpAny _ _ (execs [] env) _ _ _
 refine wpAny_execs_nil ?_
 have C2:=C.keeps wf (aw s₁ (s₁.toks+1))
 have S2:SorAt G.prog G.w L ({ s₁ with toks:=s₁.toks+1 }:Shared).heap:=S1
 generalize hs2:({ s₁ with toks:=s₁.toks+1 }:Shared)=s₂ at C2 S2 ⊢
 have k2:Keeps s₁ s₂:=hs2▸aw _ _
 have nd:=(SLay.ne_iff.mp S.nd).ind
 have so:=SOk.of hso
 have hlenR:(cu L.inf).length<=L.inf.length:=by unfold cu;rw[af];exact cc _ _
 -- self._ready_nodes=[..]
 refine wpAny_execs_cons (iV (sc:=jn.scope) (O:=O') (ω:=fun U=>none) (ρ:=ck ml [.val (.ref L.x)]) (v:=.ref L.x) rfl hself d0 rfl ?_)
 rw[eval_ListComp]
 refine Ds (i0:=2) (vars:=[nI]) (its:=L.inf.map fun f=>.ref f.a) (T:=mo L.inf) (f:=mq L.inf) wf C2 rfl rfl so (fun E=>Dz wf I.ts I.sys C2 S2 hOO hself d0 rfl hl1 E) (by decide) rfl hsi (fun v hv env' O2 s3 E3 g3 C3=>?_) (fun v hv hT env' D O2 ds' s3 k Q3 E3 hsto3 g3 C3 hD hDF hDw acc hl3 hk=>?_) ?_ ?_
 ·refine x12 (aA.mp hv) fun f hf e2=>?_;subst e2
  have S3:SorAt G.prog G.w L s3.heap:=S2.keeps fun b o U q=>g3 b o q
  rw[ug]
  rw[if_pos rfl]
  refine wpAny_bind (wpAny_bind ?_)
  refine wpAny_isTrue_Compare1 (gt C3 (i:=2) rfl d2 rfl (wy (C3.base.inK wf) I.ni I.sP S3 hf fun t=>wpAny_Constant_int ?_)) rfl
  refine P.eq_int (wpAny_truthy_bool ?_)
  refine wpAny_pure ?_
  have kk:Keeps s3 { s3 with toks:=s3.toks+1+1 }:=aw _ _
  rw[xf nd hf]
  show wpAny _ _ (forIn [] (f.np==0) _) _ _ _
  rw[List.forIn_nil]
  exact wpAny_pure ⟨rfl,kk⟩
 ·refine x12 (aA.mp hv) fun f hf e2=>?_;subst e2
  have S3:SorAt G.prog G.w L s3.heap:=S2.keeps fun b o U q=>g3 b o q
  rw[xg nd hf]at hl3 hk
  show wpAny _ _ ((eval (.Attribute (.Name nI _) (ofString "node") _) env' >>= fun x=>call (.builtin "list.append") [.ref D,x] >>= fun U=>pure ()) >>= fun U=>k) _ _ s3
  refine wpAny_bind (wpAny_bind (gt C3 (i:=2) rfl d2 rfl (Da (C3.base.inK wf) I.ni I.sN S3 hf fun t=>wpAny_bind ?_)))
  have kk:Keeps s3 { s3 with toks:=s3.toks+1 }:=aw _ _
  have C4:=C3.keeps wf kk
  refine vM (acc.keeps kk) hD (.int _ _) (by simp at hl3;lia) fun h' hs a hl=>?_
  refine x21 hl fun vs n hl=>?_
  refine ak (C4.append wf hD hDw hl hs a) fun k2' C5=>?_
  exact wpAny_pure (hk _ ((KM.of kk).trans (k2'.mono fun b q=>.inr q)) C5 a)
 ·rw[xh nd,af];lia
 ·intro D Cc s3 m k3 hCn hDn hDC hns hrep
  rw[xh nd]at hrep
  refine⟨m,hns,fun h' hs'=>?_⟩
  have k4:Keeps s₂ { s3 with heap:=h' }:=by
   refine x22 k3 fun h1 t1 e2 g=>?_;subst e2
   exact⟨h',t1,rfl,fun b o q=>hs'.extBut b o (fun z=>by rw[z,hCn]at q;cases q) (g b o q)⟩
  have C4:=C2.keeps wf k4
  have S4:=ec S2 k4
  obtain⟨hDO,vsD,nD,hLD,hiD⟩:¬O' D/\∃vs n,IsL h' D vs n/\IntsAre vs.toList (cu L.inf):=by
   cases hrep with
   | list hn hl hr=>exact⟨fun q=>hn (.inl q),_,_,hs'.extBut _ _ hDC hl,o8 hr⟩
  refine⟨C4,?_⟩
  have hDL:D∉L.addrs:=fun q=>hDO (hOO D q)
  have hnewD:D∉L.x::L.dx::L.n2i::L.infAs:=fun q=>hDL (by
   simp only[SLay.addrs,aa,au]at q ⊢
   rcases q with q | q | q | q
   ·exact .inl q
   ·exact .inr (.inl q)
   ·exact .inr (.inr (.inl q))
   ·exact .inr (.inr (.inr (.inl q))))
  refine CZ (C4.base.inK wf) I.ts S4 ⟨vsD,nD,hLD,hiD⟩ hnewD fun h5 hs5 S5=>?_
  have hdxL:L.dx∈L.addrs:=by simp[SLay.addrs]
  have km5:KM (· = L.dx) { s3 with heap:=h' } { s3 with heap:=h5,toks:=s3.toks+2 }:=by
   obtain⟨q1,q2,q3,q4,q5,q6,q7,q8,q9,q10,q11,q12⟩:=S5.dict
   exact KM.chg hs5.extBut ⟨_,q12⟩ rfl
  have C5:=C4.outer wf km5 (fun b q=>q▸hOO _ hdxL) fun b q=>q▸hFS _ hdxL
  obtain⟨X1,hF',outer,hfo,hfr⟩:=X.deeper k1 C hL hO1
  have X5:FX (A.deeper env) O' (fun U=>none) { s3 with heap:=h5,toks:=s3.toks+2 }:=by
   refine((X1.keeps k2).keeps k4).by (F:=No) (M:=(· = L.dx)) (KS.of km5) (fun b hb hf=>?_) X1.fo fun b i q=>nomatch q
   have hb:b=L.dx:=hb
   subst hb
   rcases hF' _ hf with q | q
   ·exact absurd (show aT env L.dx by rw[q];exact .inl rfl) (hFS _ hdxL)
   ·exact absurd q (hLF _ hdxL)
  have ks1:Keeps s s₂:=aQ k1 k2
  have hDs:s.heap.get? D=none:=g9 ks1 hDn
  have hDF:¬an (A.deeper env) D:=fun q=>hDO (X1.fo D q)
  have hLF':∀b∈L.addrs,¬an (A.deeper env) b:=fun b hb q=>(hF' b q).elim (fun z=>hFS b hb (z▸.inl rfl)) (hLF b hb)
  have hL3:∀b∈({ L with rd:=some (D,cu L.inf) }:SLay).addrs,¬an (A.deeper env) b:=fun b hb q=>(rQ hb).elim (fun z=>hLF' b z q) fun z=>hDF (z▸q)
  generalize hs5':({ s3 with heap:=h5,toks:=s3.toks+2 }:Shared)=s5 at C5 X5 km5
  have S5':SorAt G.prog G.w { L with rd:=some (D,cu L.inf) } s5.heap:=hs5'▸S5
  -- cycle=self._find_cycle()
  refine wpAny_execs_cons (wpAny_Assign_stores (rB wf I.mF (fun U U U U U U U U U U U=>rfl) rfl (fun a ha=>nomatch ha) (by decide) hl2 (fL C5 hself d0 rfl ⟨{ L with rd:=some (D,cu L.inf) },O',rfl,C5.base,S5',Calls.spliced_nil ⟨⟨O',C5.base⟩,?_⟩⟩)) rfl rfl)
  refine wpAny_mono (En wf I.toFInfo C5.ok C5.base ⟨X5.fr,X5.fo,X5.fw,rfl⟩ S5' hL3 (C5.base.off _ (hOO _ (by simp[SLay.addrs]))) clo sm (lJ hroom (by decide):A.depth+1+30<1000) hr) (fun v s6 h6=>?_) fun U U e=>e
  refine ak h6 fun k6 hv=>?_
  have C6:=C5.ks wf k6 X5.fo fun b i q=>nomatch q
  have X6:=X5.ks k6
  have S6:SorAt G.prog G.w { L with rd:=some (D,cu L.inf) } s6.heap:=S5'.keeps fun b o hb q=>k6.get b o id (hL3 b hb) q
  have rv:Rep O' s6.heap v (mj r):=hv
  show wpAny _ _ (assign (.Name hZ _) env v) _ _ s6
  refine wpAny_assign_Name (dJ (y:=.dat (mj r)) wf (hsto 1) C6 hcyc hstor ⟨v,rfl,rv⟩ fun s7 k7 C7=>?_)
  have S7:SorAt G.prog G.w { L with rd:=some (D,cu L.inf) } s7.heap:=S6.keeps fun b o hb q=>k7.get b o (fun z=>(rQ hb).elim (fun y=>hFS b y z.store) fun y=>hDO (y▸C6.fr b z)) q
  -- what is left behind
  have K7:KS (an (A.deeper env)) (fun b=>b∈L.addrs\/aT env b) s s7:=by
   have a1:KS (an (A.deeper env)) (fun b=>b∈L.addrs\/aT env b) s s5:=((KS.of (KM.of ks1)).trans (KS.of (KM.of k4))).trans (KS.of (km5.mono fun b q=>.inl (by have q:b=L.dx:=q;exact q▸hdxL)))
   exact(a1.trans (k6.mono (fun U q=>q.elim) fun U q=>q)).trans (KS.of (k7.mono fun b q=>.inr q.store))
  have Kfin:KS (an A) (·∈L.addrs) s s7:=by
   obtain⟨h9,t9,rfl,q1,q2⟩:=K7
   refine⟨h9,t9,rfl,fun b o n q=>?_,q2⟩
   have ns:¬aT env b:=fun z=>by rw[hSt b z]at q;cases q
   refine x12 (q1 b o (fun z=>z.elim n ns) q) fun sl q3 q4=>?_
   exact⟨sl,q3,fun z=>q4 fun y=>(hF' b y).elim (fun w=>ns (w▸.inl rfl)) z⟩
  refine wpAny_execs_cons (wpAny_If ?_)
  rw[j5 rfl]
  refine wpAny_bind (di (d:=mj r) C7 hcyc d1 (by rfl) fun v7 rv7=>wpAny_bind (wpAny_standAt (wpAny_holding ?_)))
  cases r with
  | none =>
   cases rv7
   refine truthy_none ?_
   show wpAny _ _ (execs [] env) _ _ s7
   exact wpAny_execs_nil (wpAny_execs_nil (hnx _ (hQ rfl _ D hDs S7 Kfin)))
  | some c =>
   have hc:c≠[]:=rP hr
   cases rv7 with
   | @list aC vsC nC dsC hnC hlC hrC =>
   have hi:=o8 hrC
   have hsz:vsC.size=c.length:=by rw[<- cj];exact IntsAre.len hi
   refine wpAny_truthy_list hlC.isList (by have:=hcl c rfl;lia) ?_
   have hne:vsC.isEmpty=false:=by
    cases q:vsC.isEmpty with
    | false=>rfl
    | true =>
     rw[gF,hsz]at q
     exact absurd (List.length_eq_zero_iff.mp q) hc
   rw[hne]
   show wpAny _ _ (execs [_] env) _ _ _
   have k8:Keeps s7 { s7 with toks:=s7.toks+1+1 }:=aw _ _
   have C8:=C7.keeps wf k8
   have X7:=X6.step (F:=No) (env:=env) C6 (Step.frame k7) C7
   have X8:=X7.keeps k8
   have S8:=ec S7 k8
   obtain⟨tl,Nn,nm,qn,bs,hdct,sn,sub,ab,col,dd,q0,q1,q2,q3,q5,mN,hC,hN,hni,T⟩:=Es (C8.base.inK wf) I.exc
   refine wpAny_execs_cons (wpAny_Raise_call_subU (C:=CE) (nm:=nm) (q:=qn) (N:=Nn) (bs:=bs) (bm:=tl) (hdct:=hdct) (sn:=sn) (sub:=sub) (ab:=ab) (col:=col) (dd:=dd) (k0:=q0) (k1:=q1) (k2:=q2) (k3:=q3) (k5:=q5)
    F.excBase_ValueError (by decide +kernel) F.excBase_ValueError (mN:=mN) (T.hasType (by decide +kernel)) hh rfl hni (gU wf C8.eo C8.base I.glP (by decide +kernel) I.ce ⟨rfl,?_⟩))
   refine Calls.evalArgs_plain (Calls.spliced_cons (JoinedStr_one (pos:=jY 28) (wpAny_Constant_str ?_)))
   have k9:Keeps { s7 with toks:=s7.toks+1+1 } { s7 with toks:=s7.toks+1+1+1 }:=aw { s7 with toks:=s7.toks+1+1 } (s7.toks+1+1+1)
   have C9:=C8.keeps wf k9
   refine Calls.spliced_cons (di (d:=mj (some c)) C9 hcyc d1 rfl fun u ru=>Calls.spliced_nil ⟨rfl,by show 2<=sizeLine;rw[sizeLine_eq];decide,al k9 _ _ hC,hN.keeps (al k9),T.keeps (al k9),fun h' e hm=>?_⟩)
   -- it leaves
   have up:∀b o,s7.heap.get? b=some o->h'.get? b=some o:=fun b o q=>hm.keeps b o q
   have hen:s7.heap.get? e=none:=hm.new
   refine x13 hm.there fun te he1 U U=>?_
   have hes:s.heap.get? e=none:=K7.back hen
   refine x12 X8.fr fun l8 hl8 fr8=>?_
   rw[hfr]at hl8
   cases hl8
   have frh:iR (env::outer) h':=fun v hv=>(fr8 v hv).elim fun h1 ζ=>ζ.elim fun L' ζ=>ζ.elim fun o ζ=>ζ.elim fun es ζ=>ζ.elim fun n ζ=>ζ.elim fun h2 ζ=>ζ.elim fun h3 h4=>⟨h1,L',o,es,n,h2,up _ _ h3,h4⟩
   refine hex _ _ (DI (s:={ s7 with heap:=h',toks:=s7.toks+1+1+1 }) hfr hL (rG frh ⟨_,_,_,he1,rfl,rfl,rfl,rfl⟩) fun h2 T2 u2=>?_)
   have mD:∀b o,b≠e->¬an (A.deeper env) b->s7.heap.get? b=some o->(gw (env::outer) e h').get? b=some o:=fun b o n nf q=>rF (up b o q) n fun z=>nf ⟨_,hfr,z⟩
   have SB:SorAt G.prog G.w { L with rd:=some (D,cu L.inf) } (gw (env::outer) e h'):=S7.keeps fun b o hb q=>mD b o (fun z=>by rw[z,hen]at q;cases q) (hL3 b hb) q
   have nF:∀b o,¬an A b->s.heap.get? b=some o->¬an (A.deeper env) b:=fun b o n q z=>(hF' b z).elim (fun w=>by rw[w,hSt _ (.inl rfl)]at q;cases q) n
   have sB:∀b o,¬an A b->b∉L.addrs->s.heap.get? b=some o->(gw (env::outer) e h').get? b=some o:=fun b o n nL q =>
    mD b o (fun z=>by rw[z,hes]at q;cases q) (nF b o n q) (Kfin.get b o nL n q)
   exact hE (fun z=>nomatch z) _ e _ D (by rw[hfo];exact T2) hes hDs SB sB (KS.noted (s₁:=s7) X Kfin sB (fun b n=>SB.there (xi hrd n)) T2.1 ((Heap.UpToSlots.of_keeps up).trans u2))
end
end
section
open PySem PySem.W PyProof.Rows PySem.Spec PySem.SeqAt
set_option genCtorIdx false
noncomputable def eK(G:Glo)(F:FEntry):Prop:=∃a o fd,G.mg F.name=some (.ref a)/\G.K.lookup a=some o/\o.data=.func fd /\
 ∀(A:Around) (s:Shared) (O:Addr->Prop) (vs:List Value) (ds:List PyData) (E:Value->Shared->Prop),aJ F.k A->Okay A O s->G.Base O s.heap->FX A O (fun U=>none) s->RepL O s.heap vs ds->F.pre ds ->
  wpAny (model G.prog G.w) A (call (.ref a) vs) (fun v s'=>KS (an A) No s s'/\Rep O s'.heap v (F.val ds)) E s
inductive EX where
 | ix (e:IX)
 | rc (f:Nat) (es:IX)
 | and (a b:EX)
noncomputable def EX.ctorIdx(t:EX):Nat:=EX.casesOn t (fun U=>0) (fun U U=>1) (fun U U=>2)
inductive TX where
 | cmp (op:CmpOp) (a b:EX)
 | inv (f:Nat) (es:IX)
noncomputable def TX.ctorIdx(t:TX):Nat:=TX.casesOn t (fun U U U=>0) (fun U U=>1)
section
variable(Ψ Φ:List FEntry)
noncomputable def bL:EX->List SV->PyData
 | .ix e,ρ=>den Φ e ρ
 | .rc f es,ρ=>(Ψ.getD f .nope).val (bV Φ es ρ)
 | .and a b,ρ=>if aB (bL a ρ)then bL b ρ else .bool false
noncomputable def ib:EX->List SV->Prop
 | .ix e,ρ=>pre Φ e false ρ
 | .rc f es,ρ=>eC Φ es ρ/\(Ψ.getD f .nope).pre (bV Φ es ρ)
 | .and a b,ρ=>ib a ρ/\dZ (bL Ψ Φ a ρ)=true/\(aB (bL Ψ Φ a ρ)=true->ib b ρ)
noncomputable def kE:EX->Nat
 | .ix e=>kx Φ e
 | .rc f es=>max (kx Φ es) ((Ψ.getD f .nope).k+1)
 | .and a b=>max (kE a) (kE b)
noncomputable def fQ:EX->Scope->List (Option Str)->Expr->Bool
 | .ix e,sc,ctx,ast=>chk Φ e sc ctx ast
 | .rc f es,sc,ctx,e=>iA e fun g U args U=>(Ψ.getD f .nope).name==g&&g != ofString "__debug__"&&decide (f<Ψ.length)&&bK sc g&&b0 Φ es sc ctx args
 | .and a b,sc,ctx,e=>uV e fun x y U=>fQ a sc ctx x&&fQ b sc ctx y
noncomputable def fh:TX->List SV->Bool
 | .cmp op a b,ρ=>ly op (bL Ψ Φ a ρ) (bL Ψ Φ b ρ)
 | .inv f es,ρ=>!aB (bL Ψ Φ (.rc f es) ρ)
noncomputable def mr:TX->List SV->Prop
 | .cmp op a b,ρ=>ib Ψ Φ a ρ/\ib Ψ Φ b ρ/\oz op (bL Ψ Φ a ρ) (bL Ψ Φ b ρ)
 | .inv f es,ρ=>ib Ψ Φ (.rc f es) ρ/\dZ (bL Ψ Φ (.rc f es) ρ)=true
noncomputable def kT:TX->Nat
 | .cmp _ a b=>max (kE Ψ Φ a) (kE Ψ Φ b)
 | .inv f es=>kE Ψ Φ (.rc f es)
noncomputable def xj:TX->Scope->List (Option Str)->Expr->Bool
 | .cmp op a b,sc,ctx,e=>qy e fun l o r U=>o==op&&fQ Ψ Φ a sc ctx l&&fQ Ψ Φ b sc ctx r&&!behindInMarks o r
 | .inv f es,sc,ctx,e=>oi e fun x U=>fQ Ψ Φ (.rc f es) sc ctx x
end
section
variable{G:Glo}{Ψ Φ:List FEntry}
theorem Eu(e:EX){sc:Scope}{ctx:List (Option Str)}{ast:Expr}(h:fQ Ψ Φ e sc ctx ast=true):du ast=true:=by
 cases e with
 | ix e=>exact eZ e h
 | rc f es=>exact iB (P:=fun ast=>du ast=true) h fun U U U U U=>rfl
 | and a b=>exact uW (P:=fun ast=>du ast=true) h fun U U U U=>rfl
theorem Rep.ks{A:Around}{O:Addr->Prop}{s s':Shared}(k:KS (an A) No s s')(fo:∀b,an A b->O b){v:Value}{d:PyData}(r:Rep O s.heap v d):Rep O s'.heap v d :=
 r.mono (fun b o n e=>k.get b o id (fun q=>n (fo b q)) e) fun U U U q=>q
theorem FX.w0{A:Around}{O:Addr->Prop}{ω:Addr->Option Nat}{s:Shared}(X:FX A O ω s):FX A O (fun U=>none) s:=⟨X.fr,X.fo,fun b i q=>(nomatch q),X.hn⟩
variable(G Ψ Φ)in
noncomputable def xk(e:EX):Prop:=∀sc ctx ast env A O ω ρ s E,fQ Ψ Φ e sc ctx ast=true->Cond G env sc ctx A O ω ρ s->FX A O ω s->aJ (kE Ψ Φ e) A->ib Ψ Φ e ρ ->
 wpAny (model G.prog G.w) A (eval ast env) (fun v s'=>KS (an A) No s s'/\Rep O s'.heap v (bL Ψ Φ e ρ)) E s
theorem xl(wf:G.Wf)(hF:∀F∈Φ,aN G F)(hR:∀F∈Ψ,eK G F)(f:Nat)(es:IX):xk G Ψ Φ (.rc f es):=by
 intro sc ctx ast env A O ω ρ s E hc C X R hp
 refine iB (P:=fun ast=>wpAny (model G.prog G.w) A (eval ast env) (fun v s'=>KS (an A) No s s'/\Rep O s'.heap v (bL Ψ Φ (.rc f es) ρ)) E s) hc fun g np args pos hc=>?_
 refine ge hc fun hn hd hl hg ha=>?_
 have hl:=of_decide_eq_true hl
 have hmem:Ψ.getD f .nope∈Ψ:=by
  rw[aq,bk hl]
  exact List.getElem_mem hl
 refine x34 (hR _ hmem) fun a o fd e1 e2 e3 ct=>?_
 refine dv (j6 es ha) (gU wf C.eo C.base hg (by simpa using bne_iff_ne.mp hd) (eq_of_beq hn▸e1) ?_)
 refine Calls.callWith_function (o:=o) (fd:=fd) (gW (wpAny_mono ((snd wf hF es).ls sc ctx args env A O ω ρ s E ha C (R.le (aF _ _)) hp.1) (fun vs s₁ h₁=>?_) fun U U x=>x))
 have C1:=C.keeps wf h₁.1
 refine⟨⟨C1.base.kp a o (wf.K a o e2),e3⟩,?_⟩
 exact wpAny_mono (ct A s₁ O vs _ E (R.le (ae (dH _) (aj _ _))) C1.ok C1.base (X.keeps h₁.1).w0 h₁.2 hp.2) (fun v s₂ h₂=>⟨(KS.of (KM.of h₁.1)).trans h₂.1,h₂.2⟩) fun U U x=>x
theorem o9(wf:G.Wf)(hF:∀F∈Φ,aN G F)(hR:∀F∈Ψ,eK G F):∀e:EX,xk G Ψ Φ e:=by
 intro e
 induction e with
 | ix e =>
  intro sc ctx ast env A O ω ρ s E hc C X R hp
  exact wpAny_mono ((snd wf hF e).ev sc ctx ast false env A O ω ρ s E hc C R hp) (fun v s' h=>⟨KS.of (KM.of h.1),h.2.ff⟩) fun U U x=>x
 | rc f es=>exact xl wf hF hR f es
 | and a b iha ihb =>
  intro sc ctx ast env A O ω ρ s E hc C X R hp
  refine uW (P:=fun ast=>wpAny (model G.prog G.w) A (eval ast env) (fun v s'=>KS (an A) No s s'/\Rep O s'.heap v (bL Ψ Φ (.and a b) ρ)) E s) hc fun x y p hc=>?_
  refine aO hc fun c1 c2=>?_
  rw[arm_eval_BoolOp]
  show wpAny _ _ (eval x env >>= fun v=>standAt p >>= fun U=>holding [v] (truthy v) >>= fun t=>(match BoolOp.And,t with | .And,false=>pure v | .Or,true=>pure v | _,_=>boolOp p .And (evalEach [y] env))) _ _ s
  refine wpAny_bind (wpAny_mono (iha sc ctx x env A O ω ρ s E c1 C X (R.le (aF _ _)) hp.1) (fun v s₁ h₁=>?_) fun U U x=>x)
  cases lS h₁.2 hp.2.1
  refine wpAny_bind (wpAny_standAt (wpAny_bind (wpAny_holding (wpAny_truthy_bool ?_))))
  rw[show bL Ψ Φ (.and a b) ρ=if aB (bL Ψ Φ a ρ)=true then bL Ψ Φ b ρ else .bool false from rfl]
  cases ht:aB (bL Ψ Φ a ρ)with
  | false=>exact wpAny_pure ⟨h₁.1,.bool _⟩
  | true =>
   show wpAny _ _ (eval y env) _ _ s₁
   exact wpAny_mono (ihb sc ctx y env A O ω ρ s₁ E c2 (C.ks wf h₁.1 X.fo X.fw) (X.ks h₁.1) (R.le (aj _ _)) (hp.2.2 ht)) (fun v s₂ h₂=>⟨h₁.1.trans h₂.1,h₂.2⟩) fun U U x=>x
theorem Ev(wf:G.Wf)(hF:∀F∈Φ,aN G F)(hR:∀F∈Ψ,eK G F)(e:TX):∀sc ctx ast env A O ω ρ s E,xj Ψ Φ e sc ctx ast=true->Cond G env sc ctx A O ω ρ s->FX A O ω s->aJ (kT Ψ Φ e) A->mr Ψ Φ e ρ ->
 wpAny (model G.prog G.w) A (isTrue ast env (eval ast env)) (fun b s'=>b=fh Ψ Φ e ρ/\KS (an A) No s s') E s:=by
 intro sc ctx ast env A O ω ρ s E hc C X R hp
 cases e with
 | cmp op a b =>
  refine qz (P:=fun ast=>wpAny (model G.prog G.w) A (isTrue ast env (eval ast env)) (fun r s'=>r=fh Ψ Φ (.cmp op a b) ρ/\KS (an A) No s s') E s) hc fun l o r p hc=>?_
  refine fA hc fun ho c1 c2 c3=>?_
  cases eq_of_beq ho
  replace c3:behindInMarks op r=false:=by rw[jR]at c3;exact c3
  refine wpAny_isTrue_Compare1 (wpAny_mono (o9 wf hF hR a sc ctx l env A O ω ρ s E c1 C X (R.le (aF _ _)) hp.1) (fun v s₁ h₁=>?_) fun U U x=>x) c3
  refine wpAny_mono (o9 wf hF hR b sc ctx r env A O ω ρ s₁ E c2 (C.ks wf h₁.1 X.fo X.fw) (X.ks h₁.1) (R.le (aj _ _)) hp.2.1) (fun u s₂ h₂=>?_) fun U U x=>x
  refine wpAny_mono (qE R.units (.of (h₁.2.ks h₂.1 X.fo)) (.of h₂.2) hp.2.2) (fun v s₃ h₃=>?_) fun U U x=>x
  refine ak h₃ fun e0 k3=>?_;subst e0
  exact wpAny_truthy_bool ⟨rfl,(h₁.1.trans h₂.1).trans (KS.of (KM.of k3))⟩
 | inv f es =>
  refine oj (P:=fun ast=>wpAny (model G.prog G.w) A (isTrue ast env (eval ast env)) (fun r s'=>r=fh Ψ Φ (.inv f es) ρ/\KS (an A) No s s') E s) hc fun x p hc=>?_
  show wpAny _ _ (isTrue x env (eval x env) >>= fun b=>pure (!b)) _ _ s
  rw[j5 (iB (P:=fun ast=>c8 ast=true) hc fun U U U U U=>rfl)]
  refine wpAny_bind (wpAny_bind (wpAny_mono (xl wf hF hR f es sc ctx x env A O ω ρ s E hc C X R hp.1) (fun v s₁ h₁=>wpAny_bind (wpAny_standAt (wpAny_holding ?_))) fun U U x=>x))
  rw[lS h₁.2 hp.2]
  exact wpAny_truthy_bool (wpAny_pure ⟨rfl,h₁.1⟩)
end
theorem Step.ks{A:Around}{env:Env}{O:Addr->Prop}{ω:Addr->Option Nat}{s s':Shared}(k:KS (an A) No s s'):Step (Fz true A) env O ω s O ω s' :=
 ⟨k.mono (fun U q=>q.elim) fun U q=>⟨rfl,q⟩,fun U h U=>h,fun U h=>.inl h,fun U U h=>.inl h⟩
noncomputable def mt:Expr->Bool
 | .ListComp ..=>false
 | .SetComp ..=>false
 | .DictComp ..=>false
 | _=>true
section
variable{G:Glo}{Ψ Φ:List FEntry}
noncomputable def rR(Ψ Φ:List FEntry)(i:Nat)(e:EX):Prim where
 chk sc ctx st:=eS st fun t v U=>cf t fun x U=>ctx[i]? == some (some x)&&aS sc x&&mt v&&fQ Ψ Φ e sc ctx v
 k:=kE Ψ Φ e
 pre ρ:=ib Ψ Φ e ρ
 den ρ:=(.next,ρ.set i (.dat (bL Ψ Φ e ρ)))
theorem Ew(i:Nat)(e:EX)(wf:G.Wf)(hF:∀F∈Φ,aN G F)(hR:∀F∈Ψ,eK G F):c9 G true (rR Ψ Φ i e):=by
 intro sc ctx st env A O ω ρ s E Q hc hsto C hX R hp hQ
 refine ot (P:=fun st=>wpAny (model G.prog G.w) A (exec st env) Q E s) hc fun x p v pos hc=>?_
 refine fA hc fun hi hk hn hv=>?_
 have hi:=eq_of_beq hi
 have X:=(hX rfl).toFX
 have hsw:swapsWithSole [.Name x p] v pos.line env=pure false:=by
  show swapsWith v (some (.Name x p)) pos.line env=pure false
  cases v<;>first | rfl | cases hn
 refine wpAny_Assign_stores (wpAny_mono (o9 wf hF hR e sc ctx v env A O ω ρ s E hv C X R hp) (fun u s₁ h₁=>?_) fun U U x=>x) hsw rfl
 have C1:=C.ks wf h₁.1 X.fo X.fw
 show wpAny _ A (assign (.Name x p) env u) _ _ s₁
 exact jv wf (hsto i) C1 hi hk h₁.2 fun s' k C'=>hQ O ω s' .next ((Step.ks h₁.1).trans C.ok.obs (Step.frame k)) C' rfl
noncomputable def ic(Ψ Φ:List FEntry)(c:TX)(a b:SX):Prim where
 chk sc ctx st:=nY st fun test body orelse U=>xj Ψ Φ c sc ctx test&&bW Φ a sc ctx body&&bW Φ b sc ctx orelse
 k:=max (kT Ψ Φ c) (max (kS Φ a) (kS Φ b))
 pre ρ:=mr Ψ Φ c ρ/\(fh Ψ Φ c ρ=true->aM Φ a ρ)/\(fh Ψ Φ c ρ=false->aM Φ b ρ)
 den ρ:=if fh Ψ Φ c ρ=true then av Φ a ρ else av Φ b ρ
theorem xm(c:TX)(a b:SX)(wf:G.Wf)(hF:∀F∈Φ,aN G F)(hR:∀F∈Ψ,eK G F)(ha:de G true a)(hb:de G true b):c9 G true (ic Ψ Φ c a b):=by
 intro sc ctx st env A O ω ρ s E Q hc hsto C hX R hp hQ
 dsimp only[ic]at hQ
 refine uD (P:=fun st=>wpAny (model G.prog G.w) A (exec st env) Q E s) hc fun test body orelse pos hc=>?_
 refine dW hc fun c1 c2 c3=>?_
 have X:=(hX rfl).toFX
 refine wpAny_If (wpAny_mono (Ev wf hF hR c sc ctx test env A O ω ρ s E c1 C X (R.le (aF _ _)) hp.1) (fun t s₁ h₁=>?_) fun U U x=>x)
 refine ak h₁ fun e0 k1=>?_;subst e0
 have C1:=C.ks wf k1 X.fo X.fw
 have X1:true=true->FXE env A O ω s₁:=fun U=>⟨X.ks k1,(hX rfl).top,(hX rfl).ef⟩
 cases ht:fh Ψ Φ c ρ with
 | true =>
  rw[if_pos ht]at hQ
  exact oS wf hF a ha sc ctx body env A O ω ρ s₁ E Q c2 hsto C1 X1 (R.le (ae (aF _ _) (aj _ _))) (hp.2.1 ht) fun O' ω' s' fl hs C' hf=>hQ O' ω' s' fl ((Step.ks k1).trans C.ok.obs hs) C' hf
 | false =>
  rw[if_neg (by rw[ht];exact Kr)]at hQ
  exact oS wf hF b hb sc ctx orelse env A O ω ρ s₁ E Q c3 hsto C1 X1 (R.le (ae (aj _ _) (aj _ _))) (hp.2.2 ht) fun O' ω' s' fl hs C' hf=>hQ O' ω' s' fl ((Step.ks k1).trans C.ok.obs hs) C' hf
noncomputable def kB(Ψ Φ:List FEntry):List EX->Scope->List (Option Str)->List Expr->Bool
 | [],_,_,[]=>true
 | e::es,sc,ctx,x::xs=>fQ Ψ Φ e sc ctx x&&kB Ψ Φ es sc ctx xs
 | _,_,_,_=>false
noncomputable def rS(Ψ Φ:List FEntry):List EX->Nat
 | []=>0
 | e::es=>max (kE Ψ Φ e) (rS Ψ Φ es)
noncomputable def rT(Ψ Φ:List FEntry):List EX->List SV->Prop
 | [],_=>True
 | e::es,ρ=>ib Ψ Φ e ρ/\rT Ψ Φ es ρ
noncomputable def rU(Ψ Φ:List FEntry)(slots:List Nat)(es:List EX):Prim where
 chk sc ctx st:=eS st fun t v U=>gO t fun ts U U=>gO v fun vs U U=>eD sc ctx slots ts&&kB Ψ Φ es sc ctx vs&&iT vs&&decide slots.Nodup&&decide (slots.length=es.length)
 k:=rS Ψ Φ es
 pre ρ:=rT Ψ Φ es ρ/\es.length<=16777216
 den ρ:=(.next,dA ρ (slots.zip (es.map fun e=>.dat (bL Ψ Φ e ρ))))
theorem xo:∀(es:List EX) {sc:Scope} {ctx:List (Option Str)} {xs:List Expr},kB Ψ Φ es sc ctx xs=true->∀a∈xs,du a=true
 | [],_,_,[],_,a,h=>nomatch h
 | [],_,_,x::xs,h,_,_=>absurd h Kr
 | _::_,_,_,[],h,_,_=>absurd h Kr
 | p::es,_,_,x::xs,h,a,ha=>by
  refine aO (show(fQ Ψ Φ p _ _ x&&kB Ψ Φ es _ _ xs)=true from h) fun h1 h2=>?_
  rcases aa.mp ha with rfl | ha
  ·exact Eu p h1
  ·exact xo es h2 a ha
theorem xq{env:Env}{sc:Scope}{ctx:List (Option Str)}{A:Around}{O:Addr->Prop}{ω:Addr->Option Nat}{ρ:List SV}{E:Value->Shared->Prop}(wf:G.Wf)(hF:∀F∈Φ,aN G F)(hR:∀F∈Ψ,eK G F):∀(es:List EX) (slots:List Nat) (xs:List Expr) (s:Shared),kB Ψ Φ es sc ctx xs=true->slots.length=es.length->Cond G env sc ctx A O ω ρ s->FX A O ω s->aJ (rS Ψ Φ es) A->rT Ψ Φ es ρ ->
 wpAny (model G.prog G.w) A (spliced (xs.map fun a=>(false,eval a env))) (fun vs s'=>KS (an A) No s s'/\eG G O ω s'.heap slots vs (es.map fun e=>.dat (bL Ψ Φ e ρ))) E s
 | [],[],[],s,_,_,C,_,_,_=>Calls.spliced_nil ⟨KS.of (KM.of (br s)),trivial⟩
 | [],[],x::xs,_,hc,_,_,_,_,_=>absurd hc Kr
 | [],_::_,_,_,_,hl,_,_,_,_=>nomatch hl
 | _::_,[],_,_,_,hl,_,_,_,_=>nomatch hl
 | _::_,_::_,[],_,hc,_,_,_,_,_=>absurd hc Kr
 | e::es,i::slots,x::xs,s,hc,hl,C,X,R,hp=>by
  refine aO (show(fQ Ψ Φ e sc ctx x&&kB Ψ Φ es sc ctx xs)=true from hc) fun c1 c2=>?_
  refine Calls.spliced_cons (wpAny_mono (o9 wf hF hR e sc ctx x env A O ω ρ s E c1 C X (R.le (aF _ _)) hp.1) (fun v s₁ h₁=>?_) fun U U x=>x)
  refine wpAny_mono (xq wf hF hR es slots xs s₁ c2 (by simpa using hl) (C.ks wf h₁.1 X.fo X.fw) (X.ks h₁.1) (R.le (aj _ _)) hp.2) (fun vs s₂ h₂=>?_) fun U U x=>x
  exact⟨h₁.1.trans h₂.1,⟨v,rfl,h₁.2.ks h₂.1 X.fo⟩,h₂.2⟩
theorem Ex(slots:List Nat)(es:List EX)(wf:G.Wf)(hF:∀F∈Φ,aN G F)(hR:∀F∈Ψ,eK G F):c9 G true (rU Ψ Φ slots es):=by
 intro sc ctx st env A O ω ρ s E Q hc hsto C hX R hp hQ
 refine u7 (P:=fun st=>wpAny (model G.prog G.w) A (exec st env) Q E s) hc fun ts k p vs k' p' pos hc=>?_
 refine ge hc fun hn he hsafe hnd hlen=>?_
 have hlen:=of_decide_eq_true hlen
 have X:=(hX rfl).toFX
 refine ri (ρ:=ρ) wf hsto hn (xo es he) hsafe (of_decide_eq_true hnd) (wpAny_mono (xq wf hF hR es slots vs s he hlen C X R hp.1) (fun us s₁ h₁=>?_) fun U U x=>x)
 refine⟨O,ω,_,by rw[af];exact hlen,?_,C.ks wf h₁.1 X.fo X.fw,h₁.2,fun s' k C'=>hQ O ω s' .next ((Step.ks h₁.1).trans C.ok.obs (Step.frame k)) C' rfl⟩
 exact(kh (A:=A) (env:=env) true hn h₁.2).elim fun U m=>by rw[m.lv,hlen];exact hp.2
theorem Ey(wf:G.Wf)(hF:∀F∈Φ,aN G F)(S:SX)(hP:de G true S)(F:FEntry){a:Addr}{fd:FuncData}{body:List Stmt}{names vars:List Str}
 (e1:G.mg F.name=some (.ref a)) (FI:FnInfo G a fd body names vars)
 (hbind:∀vs:List Value,vs.length=names.length->bindArgs fd ⟨vs,[]⟩=pure (names.zip vs))
 (hchk:bW Φ S fd.scope (vars.map some) body=true) (hk:kS Φ S+1<=F.k)
 (hpre:∀ds,F.pre ds->ds.length=names.length/\aM Φ S (aY vars ds)/\(av Φ S (aY vars ds)).1=.ret (F.val ds)):eK G F:=by
 refine x12 FI.at_ fun o e2 hd=>?_
 refine⟨a,o,fd,e1,e2,hd,fun A s O vs ds E R ok B X r hp=>?_⟩
 refine cN (hpre ds hp) fun h1 h2 h3=>?_
 have hvl:vs.length=names.length:=by rw[r.length,h1]
 refine wpAny_call (rI (s:=s) (O:=O) (ys:=ds.map .dat) wf FI ok B (oX r) hvl (by simp[h1]) (R.fits (aW _)) (hbind vs hvl) fun env O' s₁ hL k1 hO1 hO2 hSt hsto C Qf Ef hret hnx hex=>?_)
 obtain⟨X1,hF',outer,_,hfr⟩:=X.deeper k1 C hL hO1
 refine oS wf hF S hP fd.scope (vars.map some) body _ _ O' _ _ s₁ _ _ hchk hsto C (fun U=>⟨X1,⟨outer,hfr⟩,hL⟩) (R.deeper hk) h2 fun O'' ω'' s' fl st C' hf=>?_
 rw[show(av Φ S (ck vars (ds.map SV.dat))).1=.ret (F.val ds)from h3]at hf
 refine x12 hf fun v e1 rv=>?_;subst e1
 refine hret _ _ ⟨?_,rv.weak fun b q=>st.o1 b (hO1 b q) fun i z=>by cases z⟩
 obtain⟨h2,t2,rfl,k2,th2⟩:=st.km
 obtain⟨h1,t1,rfl,k1⟩:=k1
 refine⟨h2,t2,rfl,fun b o U q=>?_,fun b o q=>th2 b o (k1 b o q)⟩
 have ns:¬aT env b:=fun z=>by rw[hSt b z]at q;cases q
 obtain⟨sl,q1,q2⟩:=k2 b o (fun z=>z.elim (fun z=>ns z.store) fun ζ=>ζ.elim fun i z=>by cases z) (k1 b o q)
 exact⟨sl,q1,fun z=>q2 fun y=>(hF' b y.2).elim (fun w=>ns (w▸.inl rfl)) z⟩
end
end
section
open PySem PySem.W PyProof.Rows PySem.Spec PySem.SeqAt PySem.Calls
noncomputable def pa(prog:Program)(w:World)(g:Srt)(S:Addr->Prop)(h:Heap)(v:Value):Prop :=
 ∃L:SLay,v=.ref L.x/\SorAt prog w L h/\(∀b,S b↔b∈L.addrs)/\L.gr=g.nodes/\L.rd.map (·.2)=g.ready/\L.po=g.passed/\L.fi=g.finished
theorem Ez{prog:Program}{w:World}{g:Srt}{S:Addr->Prop}{h h':Heap}{v:Value}(r:pa prog w g S h v)(k:∀b o,S b->h.get? b=some o->h'.get? b=some o):pa prog w g S h' v:=by
 refine x14 r fun L e S1 hS r=>?_
 exact⟨L,e,S1.keeps fun b o hb q=>k b o ((hS b).mpr hb) q,hS,r⟩
noncomputable def rV:Str:=ofString "TopologicalSorter"
noncomputable def mu:Str:=ofString "add"
noncomputable def xr:Str:=ofString "prepare"
noncomputable def EA:Str:=ofString "CycleError"
structure SorG(G:Glo):Prop where
 sr:∀g S h v,G.SR g S h v↔pa G.prog G.w g S h v
 T:TInfo G fdT bT
 A:SA G
 P:PInfo G
 gT:G.mg rV=some (.ref TS)
 kT:keepIn G.K (.ref TS)=true
 mA:hA G.K TS mu er=true
 mP:hA G.K TS xr fP=true
 ce:exmOne G.K (.ref CE) (.ref CE)=some true
section
variable{G:Glo}{Φ:List FEntry}{env:Env}{sc:Scope}{ctx:List (Option Str)}{A:Around}{O:Addr->Prop}{ω:Addr->Option Nat}{ρ:List SV}{s s':Shared}{E:Value->Shared->Prop}
theorem xt{F F':Addr->Prop}{val:Str->Option Value}{i:Nat}{x:Str}{u:Value}{S S':Addr->Prop}{g':Srt}(wf:G.Wf)(C:Cond G env sc ctx A O ω ρ s)(Fv:FrameV env s.heap val)(V:iI G O ω s.heap ctx ρ val)(hx:ctx[i]? = some (some x))(hv:val x=some u)
 (k:KS F S s s') (fo:∀b,F b->O b) (fw:∀b i,ω b=some i->¬F b) (hF:∀b,F b->F' b) (hS:∀b,S b->ω b=some i) (hS':∀b,S' b->S b\/s.heap.get? b=none) (h3:∀b,S' b->∃o,s'.heap.get? b=some o) (r:G.SR g' S' s'.heap u) :
 ∃O' ω',Step F' env O ω s O' ω' s'/\Cond G env sc ctx A O' ω' (ρ.set i (.sor g')) s':=by
 classical
 have hnone:∀b,S' b->¬S b->s.heap.get? b=none:=fun b q n=>(hS' b q).elim (fun z=>absurd z n) id
 have hw:∀b j,ω b=some j->(if S' b then some i else ω b)=some j:=fun b j e=>by
  by_cases q:S' b
  ·rw[if_pos q]
   rcases hS' b q with z | z
   ·rw[hS b z]at e;exact e
   ·refine x11 (C.ok.obs b (C.om b j e).1) fun o e'=>?_
    rw[z]at e';cases e'
  ·rw[if_neg q];exact e
 have hO:∀b o,s.heap.get? b=some o->(O b\/S' b)->O b:=fun b o e q=>by
  rcases q with q | q
  ·exact q
  ·rcases hS' b q with z | z
   ·exact(C.om b i (hS b z)).1
   ·rw[z]at e;cases e
 have kk:∀b o,¬O b->s.heap.get? b=some o->s'.heap.get? b=some o:=fun b o n e=>k.get b o (fun q=>n (C.om b i (hS b q)).1) (fun q=>n (fo b q)) e
 have kw:∀b o j,j≠i->ω b=some j->s.heap.get? b=some o->s'.heap.get? b=some o:=fun b o j n e q=>k.get b o (fun z=>by rw[hS b z]at e;cases e;exact n rfl) (fw b j e) q
 refine⟨fun b=>O b\/S' b,fun b=>if S' b then some i else ω b,⟨k.mono (fun b q=>.inr ⟨i,hS b q⟩) hF,fun b q U=>.inl q,fun b q=>?_,fun b j e=>?_⟩,C.eo,C.co,by rw[pJ];exact C.len,⟨C.ok.hok.frame fun b hb o e=>kk b o (C.ok.hno b hb) e,fun b hb q=>?_,fun b q=>?_⟩,
  ⟨fun b o e=>kk b o (fun q=>by rw[C.base.off b q]at e;cases e) (C.base.kp b o e),fun b q=>?_⟩,fun b q=>.inl (C.fr b q),fun y c e=>.inl (C.fc y c e),fun b j e=>?_,val,Fv.slots fun b o hb e=>k.slot b o (fun q=>(C.om b i (hS b q)).2 hb) e,fun j y hy=>?_⟩
 ·rcases q with q | q
  ·exact .inl q
  ·rcases hS' b q with z | z
   ·exact .inl (C.om b i (hS b z)).1
   ·exact .inr z
 ·by_cases q:S' b
  ·rcases hS' b q with z | z
   ·simp only[q,if_true]at e
    exact .inl (by rw[hS b z,e])
   ·exact .inr z
  ·simp only[q,if_false]at e;exact .inl e
 ·refine x11 (C.ok.hok.there b hb) fun o e=>?_
  exact C.ok.hno b hb (hO b o e q)
 ·rcases q with q | q
  ·refine x11 (C.ok.obs b q) fun o e=>?_;exact k.there b o e
  ·exact h3 b q
 ·rcases q with q | q
  ·exact C.base.off b q
  ·cases e:G.hB.get? b with
   | none=>rfl
   | some o=>rw[<- e];exact C.base.off b (hO b o (C.base.kp b o e) (.inr q))
 ·by_cases q:S' b
  ·simp only[q,if_true]at e
   cases e
   refine⟨.inr q,fun z=>?_⟩
   rcases hS' b q with y | y
   ·exact(C.om b i (hS b y)).2 z
   ·refine x11 (C.ok.obs b (C.store_O z)) fun o e'=>?_
    rw[y]at e';cases e'
  ·simp only[q,if_false]at e
   exact⟨.inl (C.om b j e).1,(C.om b j e).2⟩
 ·rw[c6]
  by_cases h:i=j
  ·subst h
   have:y=x:=by rw[hx]at hy;cases hy;rfl
   subst this
   split
   ·exact⟨u,S',hv,r,fun b q=>if_pos q⟩
   ·rename_i h2
    have:ρ.getD i .un=.un:=by
     rw[aq,rN (by simpa using h2)];rfl
    rw[this];trivial
  ·rw[if_neg (fun z=>h z.1)]
   have hj:j≠i:=fun q=>h q.symm
   have hr:=V j y hy
   generalize ρ.getD j .un=z at hr ⊢
   cases z with
   | dat d=>refine x12 hr fun u' e r=>?_;exact⟨u',e,r.mono kk hO⟩
   | own d =>
    obtain⟨a,vs,n,ds,e1,e2,e3,h1,h2⟩:=hr
    exact⟨a,vs,n,ds,e1,hw a j e2,e3,kw a _ j hj e2 h1,h2.mono kk hO⟩
   | un=>trivial
   | val u'=>exact hr
   | sor g =>
    refine x23 hr fun u' T e r hT=>?_
    exact⟨u',T,e,wf.srf g T s.heap s'.heap u' r (fun b o q e=>kw b o j hj (hT b q) e) (fun b o q=>C.base.kp b o q) (fun b o q=>kk b o (fun z=>by rw[C.base.off b z]at q;cases q) (C.base.kp b o q)),fun b q=>hw b j (hT b q)⟩
noncomputable def kC(x:Str):Bool:=x != ofString "__debug__"
noncomputable def xu:Srt:=⟨[],none,0,0⟩
noncomputable def xv(i:Nat):Prim where
 chk sc ctx st:=eS st fun t v U=>cf t fun x U=>iA v fun g U as U=>v0 as (ctx[i]? == some (some x)&&aS sc x&&g==rV&&bK sc g)
 k:=0
 pre _:=True
 den ρ:=(.next,ρ.set i (.sor xu))
theorem EB{X:Bool}(i:Nat)(wf:G.Wf)(I:SorG G):c9 G X (xv i):=by
 intro sc ctx st env A O ω ρ s E Q hc hsto C hX R hp hQ
 refine u8 (P:=fun st=>wpAny (model G.prog G.w) A (exec st env) Q E s) (f:=fun x g as=>v0 as (ctx[i]? == some (some x)&&aS sc x&&g==rV&&bK sc g)) hc fun x p g gp as cp pos hc=>?_
 refine et (P:=fun as=>wpAny (model G.prog G.w) A (exec (.Assign [.Name x p] (.Call (.Name g gp) as [] cp) pos) env) Q E s) hc fun hc=>?_
 refine fA hc fun hi hk hgn hg=>?_
 cases eq_of_beq hgn
 have hi:=eq_of_beq hi
 refine wpAny_Assign_stores (dv (fun a ha=>nomatch ha) (gU wf C.eo C.base hg (by decide +kernel) I.gT ?_)) rfl rfl
 refine callWith_of (P:=fun h=>G.K.In h) rfl (keeps_K I.kT) (gW (as:=[]) (env:=env) (Calls.spliced_nil ⟨C.base.inK wf,?_⟩))
 refine wpAny_mono (Dp wf I.T C.ok C.base (by have:=R.1;lia)) (fun v s₁ h₁=>?_) fun U U e=>e
 obtain⟨L,rfl,k1,hnew,S1,e1,e2,e3,e4⟩:=h₁
 have C1:=C.keeps wf k1
 -- the new addresses are the slot's
 show wpAny _ A (assign (.Name x p) env (.ref L.x)) _ _ s₁
 have hOn:∀b∈L.addrs,¬O b:=fun b hb q=>by
  refine x11 (C.ok.obs b q) fun o e=>?_
  rw[hnew b hb]at e;cases e
 classical
 have hgr:Grow O ω s (fun b=>O b\/b∈L.addrs) (fun b=>if b∈L.addrs then some i else ω b) s₁:=⟨k1,fun b h=>.inl h,fun b h=>h.imp id fun q=>hnew b q,fun b j h=>by
  rw[if_neg fun q=>hOn b q (C.om b j h).1];exact h,fun b j h=>by
  by_cases q:b∈L.addrs
  ·exact .inr (hnew b q)
  ·rw[if_neg q]at h;exact .inl h⟩
 have C2':=C.grow wf k1 hgr.oo hgr.o2 (fun b q=>q.elim (fun q=>by refine x11 (C.ok.obs b q) fun o e=>?_;exact⟨o,al k1 b o e⟩) fun q=>S1.there q)
 have C2:Cond G env sc ctx A (fun b=>O b\/b∈L.addrs) (fun b=>if b∈L.addrs then some i else ω b) ρ s₁:=by
  obtain⟨val,F,V⟩:=C.vars
  refine⟨C2'.eo,C2'.co,C2'.len,C2'.ok,C2'.base,C2'.fr,C2'.fc,fun b j h=>?_,val,F.keeps (al k1),fun j y hy=>hgr.rep wf C.base (V j y hy)⟩
  by_cases q:b∈L.addrs
  ·exact⟨.inr q,fun z=>hOn b q (C.store_O z)⟩
  ·rw[if_neg q]at h
   exact⟨.inl (C.om b j h).1,(C.om b j h).2⟩
 refine wpAny_assign_Name (dJ (y:=.sor xu) wf (hsto i) C2 hi hk ⟨_,(·∈L.addrs),rfl,(I.sr _ _ _ _).mpr ⟨L,rfl,S1,fun b=>Iff.rfl,?_,?_,e3,e4⟩,fun b q=>if_pos q⟩ fun s' k C'=>hQ _ _ s' .next (hgr.step.trans C.ok.obs (Step.frame k)) C' rfl)
 ·unfold SLay.gr;rw[e1];rfl
 ·rw[e2];rfl
noncomputable def xw(y:SV)(ds:List PyData):SV:=match y,ds with
 | .sor g,.int k::ds=>.sor { g with nodes:=iW k (ds.map bh) g.nodes }
 | _,_=>.un
noncomputable def xx(y:SV)(ds:List PyData):Prop:=∃g k pk,y=.sor g/\ds=.int k::List.map PyData.int pk/\pk.length<=8/\g.ready=none/\g.nodes.length+20<=10000/\∀q∈g.nodes,q.2.2.length+20<=1000000
theorem EC{X:Bool}{i:Nat}{x:Str}{val:Str->Option Value}{vs:List Value}{ds:List PyData}{u:Value}{T:Addr->Prop}{g:Srt}{Q:Value->Shared->Prop}(wf:G.Wf)(I:SorG G)
 (C:Cond G env sc ctx A O ω ρ s) (Fv:FrameV env s.heap val) (V:iI G O ω s.heap ctx ρ val) (hx:ctx[i]? = some (some x)) (hv:val x=some u) (hy:ρ.getD i .un=.sor g) {L:SLay} (hu:u=.ref L.x) (S:SorAt G.prog G.w L s.heap) (hT:∀b,T b↔b∈L.addrs) (hg:L.gr=g.nodes) (hr:L.rd.map (·.2)=g.ready) (hpo:L.po=g.passed) (hfi:L.fi=g.finished)
 (hω:∀b,T b->ω b=some i) (R:aJ 0 A) (hp:xx (.sor g) ds) (rv:RepL O s.heap vs ds)
 (hQ:∀O' ω' s',Step (Fz X A) env O ω s O' ω' s'->Cond G env sc ctx A O' ω' (ρ.set i (xw (.sor g) ds)) s'->Q .none s'):codeAny (model G.prog G.w) A (.call (.ref er) ⟨.ref L.x::vs,[]⟩) (fun r s'=>match r with | .ok (.ret v)=>Q v s' | .ok _=>False | .error e=>E e s') s:=by
 refine x36 hp fun g' k pk e1 e4 hlen hrd hsz hsu=>?_;subst e4
 cases e1
 cases rv with
 | @cons v _ vs _ r1 r2 =>
 cases r1 with
 | int _ t =>
 have hps:=o8 r2
 have hrd':L.rd=none:=by
  cases q:L.rd with
  | none=>rfl
  | some z=>rw[q,hrd]at hr;cases hr
 have hOL:∀b∈L.addrs,O b:=fun b hb=>(C.om b i (hω b ((hT b).mpr hb))).1
 have hgl:L.inf.length=g.nodes.length:=by rw[<- hg];simp[SLay.gr]
 refine codeAny_mono (Dn (E:=E) wf I.A C.ok C.base hOL S hrd' hps (by rw[IntsAre.len hps];exact hlen) (by have:=R.1;lia) (by lia) (fun f hf=>hsu (f.key,f.np,f.su) (by rw[<- hg];exact aA.mpr ⟨f,hf,rfl⟩))) fun r s₁ h₁=>?_
 rcases r with e | f
 ·exact h₁
 rcases f with _ | _ | _ | v<;>first | exact h₁.elim | skip
 obtain⟨rfl,L',S',hsame,hgr,km,hnew⟩:=h₁
 have hpk:(pk.map PyData.int).map bh=pk:=by
  rw[dS];exact List.map_id pk
 have hsr:G.SR { g with nodes:=iW k ((pk.map PyData.int).map bh) g.nodes } (·∈L'.addrs) s₁.heap u :=
  (I.sr _ _ _ _).mpr ⟨L',by rw[hu,hsame.x],S',fun b=>Iff.rfl,by rw[hgr,hpk,hg],by rw[hsame.rd,hr],by rw[hsame.po,hpo],by rw[hsame.fi,hfi]⟩
 refine x22 (xt (F:=fun U=>False) (F':=Fz X A) (i:=i) wf C Fv V hx hv (KS.of (km.mono fun b q=>(hT b).mpr q)) (fun U q=>q.elim) (fun U U U q=>q) (fun U q=>q.elim) hω (fun b q=>(hnew b q).imp (hT b).mpr id) (fun b q=>S'.there q) hsr) fun O' ω' st C'=>?_
 exact hQ O' ω' s₁ st C'
end
noncomputable def pd(g:Gr):Nat:=(g.length+2) * (g.foldl (fun m q=>m+q.2.2.length) 0+g.length+4)+10
noncomputable def pe(g:Gr):Option (Option (List Int)):=kA g (pd g)
noncomputable def fR(g:Gr):Bool:=match pe g with
 | some none=>false
 | _=>true
noncomputable def pf(g:Gr):List Int:=(g.filter fun q=>q.2.1==0).map (·.1)
noncomputable def ED(g:Gr):Prop:=∀q∈g,∀n∈q.2.2,∃q'∈g,q'.1=n
noncomputable def xy(g:Gr):Prop:=ED g/\g.length<=1000/\∃r,pe g=some r/\∀c,r=some c->c.length<=100000
theorem EE(L:SLay):cu L.inf=pf L.gr:=by
 unfold cu pf SLay.gr
 induction L.inf with
 | nil=>rfl
 | cons f r ih =>
  simp only[ft,aH]
  split<;>simp[ih]
noncomputable def rW(e:Expr)(d:PyData):Bool:=qo e fun c U U=>qL c d
theorem xz{G:Glo}{A:Around}{env:Env}{e:Expr}{d:PyData}{s:Shared}{E:Value->Shared->Prop}{Q:Value->Shared->Prop}(h:rW e d=true)(hQ:∀v s',Keeps s s'->(∀O:Addr->Prop,(∀b,O b->∃o,s.heap.get? b=some o)->Rep O s'.heap v d)->Q v s') :
 wpAny (model G.prog G.w) A (eval e env) Q E s :=
 qp (P:=fun e=>wpAny (model G.prog G.w) A (eval e env) Q E s) h fun c k p h=>vT h fun v s' k r=>hQ v s' k fun O U=>r O _
section
variable{G:Glo}{Φ:List FEntry}{env:Env}{sc:Scope}{ctx:List (Option Str)}{A:Around}{O:Addr->Prop}{ω:Addr->Option Nat}{ρ:List SV}{s s':Shared}{E:Value->Shared->Prop}
noncomputable def xA(y:SV):SV:=match y with
 | .sor g=>.sor { g with ready:=some (pf g.nodes) }
 | _=>.un
noncomputable def rX(y:SV):Bool:=match y with
 | .sor g=>fR g.nodes
 | _=>true
noncomputable def rY(i:Nat)(K:PyData):Prim where
 chk sc ctx st:=lw st fun b ce U v U U U=>v1 b fun t=>iz t fun c U=>iC c fun x U nm ap as cp=>v0 as (
  ctx[i]? == some (some x)&&kC x&&nm==xr&&ap.endLine==cp.line&&ce==EA&&bK sc ce&&rW v K)
 k:=0
 pre ρ:=∃g,ρ.getD i .un=.sor g/\g.ready=none/\xy g.nodes
 den ρ:=(if rX (ρ.getD i .un)=true then .ret K else .next,ρ.set i (xA (ρ.getD i .un)))
theorem EF(i:Nat)(K:PyData)(wf:G.Wf)(I:SorG G):c9 G true (rY i K):=by
 intro sc ctx st env A O ω ρ s E Q hc hsto C hX R hp hQ
 dsimp only[rY]at hp hQ
 refine Bh (P:=fun st=>wpAny (model G.prog G.w) A (exec st env) Q E s) hc fun x xp nm ap cp ep ce cep v rp hpos tp hc=>?_
 refine qk hc fun hi hd hnm hline hce hg hK=>?_
 have hi:=eq_of_beq hi
 have hline:=eq_of_beq hline
 have hd:=bne_iff_ne.mp hd
 cases eq_of_beq hnm
 cases eq_of_beq hce
 obtain⟨g,hy,hrd,hclo,hsm,r,hr,hcl⟩:=hp
 rw[hy]at hQ
 have X:=hX rfl
 refine x11 X.top fun outer hfr=>?_
 have X:=X.toFX
 obtain⟨val,Fv,V⟩:=C.vars
 have hvr:=V i x hi
 rw[hy]at hvr
 refine x23 hvr fun u T hv hsr hω=>?_
 refine x17 ((I.sr _ _ _ _).mp hsr) fun L hu S hT h1 h2 h3 h4=>?_
 have hrd':L.rd=none:=by
  cases q:L.rd with
  | none=>rfl
  | some z=>rw[q,hrd]at h2;cases h2
 have hOL:∀b∈L.addrs,O b:=fun b hb=>(C.om b i (hω b ((hT b).mpr hb))).1
 have hLF:∀b∈L.addrs,¬an A b:=fun b hb=>X.fw b i (hω b ((hT b).mpr hb))
 have hint:interactive env=false:=by unfold interactive;rw[C.eo.kindS];rfl
 have clo:∀f∈L.inf,∀n∈f.su,∃f'∈L.inf,f'.key=n:=fun f hf n hn=>by
  refine x12 (hclo (f.key,f.np,f.su) (by rw[<- h1];exact aA.mpr ⟨f,hf,rfl⟩) n hn) fun q' hq' e=>?_
  rw[<- h1]at hq'
  refine x12 (aA.mp hq') fun f' hf' e2=>?_;subst e2
  exact⟨f',hf',e⟩
 have hlen:L.inf.length<=1000:=by rw[<- h1]at hsm;simpa[SLay.gr]using hsm
 have hr':kA L.gr (pd g.nodes)=some r:=by rw[h1];exact hr
 have hcy:rX (.sor g)=r.isSome:=by
  unfold rX fR
  dsimp only
  rw[hr]
  cases r<;>rfl
 have hrg:cu L.inf=pf g.nodes:=by rw[EE,h1]
 -- the slot at the end
 have fin:∀(rA:Addr) (s₁:Shared),s.heap.get? rA=none->SorAt G.prog G.w { L with rd:=some (rA,cu L.inf) } s₁.heap->KS (an A) (·∈L.addrs) s s₁ ->
  ∃O' ω',Step (Fz true A) env O ω s O' ω' s₁/\Cond G env sc ctx A O' ω' (ρ.set i (xA (.sor g))) s₁:=fun rA s₁ hn S' k =>
  xt (F:=an A) (F':=Fz true A) (i:=i) (S':=(·∈({ L with rd:=some (rA,cu L.inf) }:SLay).addrs)) wf C Fv V hi hv (k.mono (fun b q=>(hT b).mpr q) fun U q=>q) X.fo X.fw (fun b q=>⟨rfl,q⟩) hω (fun b q=>(rQ (L:=L) q).elim (fun z=>.inl ((hT b).mpr z)) fun z=>.inr (by rw[z];exact hn)) (fun b q=>S'.there q) ((I.sr _ _ _ _).mpr ⟨{ L with rd:=some (rA,cu L.inf) },hu,S',fun b=>Iff.rfl,h1,by rw[<- hrg];rfl,h3,h4⟩)
 refine wU (c:=.ref CE) hfr (hX rfl).ef ?_ fun U q=>q
 refine wpAny_execs_cons (wpAny_Expr (rB (f:=fP) wf I.mP (fun U U U U U U U U U U U=>rfl) rfl (fun a ha=>nomatch ha) (by decide) (by simpa using hline) (wpAny_Name (gk C.eo Fv hv (C.co.kd i x hi) ⟨L,O,hu,C.base,S,Calls.spliced_nil ⟨⟨O,C.base⟩,?_⟩⟩) (by simpa using hd))) hint rfl)
 refine Et wf I.P C.ok C.base X.w0 S hrd' hOL hLF clo hlen (R.fits (by decide)) X.hn hr' hcl (fun hr0 s₁ rA hrA S' k=>?_) fun hne s₁ a B rA T2 hes hrA SB sB k=>?_
 ·subst hr0
  refine x22 (fin rA s₁ hrA S' k) fun O' ω' st C'=>?_
  refine wpAny_execs_nil (hQ O' ω' s₁ .next st C' ?_)
  rw[hcy];rfl
 ·rw[show A.frames.getD []=env::outer from by rw[hfr];rfl]at T2
  have hLB:∀b∈L.addrs,∃o,B.get? b=some o:=fun b n=>SB.there (xi hrd' n)
  have inh:∀h₂,B.StaysIn h₂->G.Base O h₂:=fun h₂ st=>⟨fun b o q=>st b o (sB b o (fun z=>by rw[C.base.off b (X.fo b z)]at q;cases q) (fun z=>by rw[C.base.off b (hOL b z)]at q;cases q) (C.base.kp b o q)),C.base.off⟩
  refine⟨a,B,.ref CE,rfl,T2,fun h₂ st2 u2 th E=>?_⟩
  refine gU (s:={ s₁ with heap:=h₂ }) wf C.eo (inh h₂ st2) hg (by decide +kernel) I.P.ce ⟨rfl,rfl,fun Q E hq=>?_,fun h₄ st4 u4 T4 E=>?_⟩
  ·refine x12 th fun o ho hoc=>?_
   have LT:Looks (model G.prog G.w) h₂ (typeOf (.ref a)) (.ref CE):=hoc▸(Looks.ld ho).andThen .now
   exact(exm_one ((inh h₂ st2).inK wf) LT I.ce).here hq
  ·refine wpAny_execs_cons (wpAny_Return_some (xz (s:={ s₁ with heap:=h₄ }) hK fun u' s₅ k5 hrep=>?_))
   have K4:=KS.noted (t:=s₁.toks) X k sB hLB st4 u4
   have S4:SorAt G.prog G.w { L with rd:=some (rA,cu L.inf) } ({ s₁ with heap:=h₄ }:Shared).heap:=SB.keeps fun b o U q=>st4 b o q
   refine x22 (fin rA { s₁ with heap:=h₄ } hrA S4 K4) fun O' ω' st' C'=>?_
   refine hQ O' ω' s₅ (.ret u') (st'.trans C.ok.obs (Step.keeps k5)) (C'.keeps wf k5) ?_
   have hsome:r.isSome=true:=by
    cases r with
    | none=>exact absurd rfl hne
    | some _=>rfl
   rw[hcy,hsome]
   exact⟨u',rfl,hrep O' C'.ok.obs⟩
end
noncomputable def rZ(K:Frag)(f:Addr):Bool:=specialIn K (.ref f) "__get__" == some (some (.builtin "function.__get__"))&&takesIn K (.ref f)==some false
section
variable{prog:Program}{w:World}{A:Around}{E:Value->Shared->Prop}{s:Shared}{K:Frag}{f:Addr}{L:SLay}
theorem EG{nm:Str}{expr:Bool}{Q:Value->Shared->Prop}(X:K.In s.heap)(hc:dL K TS=true)(mf:hA K TS nm f=true)(bf:rZ K f=true)(hcp:copiedNames.contains nm=false)(hnm:∀(L:SLay) h1 h2 h3 h4 t1 t2 t3 t4 t5 t6,getL nm (iU h1 h2 h3 h4 t1 t2 t3 t4 t5 t6 L.n2i L.rdv L.po L.fi)=some none)
 (S:SorAt prog w L s.heap) (h:Q (.ref s.heap.objs.size) { s with heap:=s.heap.push (methodObj (.ref f) (.ref L.x)),toks:=s.toks+1 }):wpAny (model prog w) A (getAttr (.ref L.x) nm expr) Q E s:=by
 unfold hA at mf
 simp only[cF,beq_iff_eq]at mf
 refine ak mf fun z0 m5=>?_;refine ak z0 fun z0 m4=>?_;refine ak z0 fun z0 m3=>?_;obtain⟨m1,m2⟩:=z0
 unfold rZ at bf
 simp only[cF,beq_iff_eq]at bf
 obtain⟨h1,h2,h3,h4,t1,t2,t3,t4,t5,t6,n,e,I⟩:=S.instAt
 have hd:hasDictIn K TS=true:=(oY (nm:=ofString "_node2info") hc (by simp[e8])).2.2.2.1
 exact get_bind X I (plainGet_of m1).1 (findObj_fn hd m2 bf.1 bf.2 hcp (by show lookIn nm (dictOf _ n)=_;rw[lookIn_dict,hnm])) (plainGet_of m1).2
  (wpAny_call (fn_get (s:={ s with toks:=s.toks+1 }) X (beq_iff_eq.mp m3) (handed_on rfl h)))
theorem EH{a:Addr}{vs:Array Value}{n:Nat}{Q:List Value->Shared->Prop}(hl:IsL s.heap a vs n)(hz:vs.size<=sizeLine)(h:∀h',(∀b o,s.heap.get? b=some o->h'.get? b=some o)->Q vs.toList { s with heap:=h' }):StarOf (model prog w) A E (.ref a) Q s:=by
 have hT':s.TypeIs (.ref a) "list":=⟨_,hl,rfl⟩
 have z:wpAny (model prog w) A (collect (.ref a)) Q E s:=wpAny_collect_seq a (.inl rfl) hl rfl rfl (fun h' hk=>h h' hk) hz
 unfold StarOf notIterableAtAll
 exact wpAny_bind (wpAny_specialOf hT' PySem.F.slot_list_iter.lookup (wpAny_pure ⟨rfl,z⟩))
end
section
variable{G:Glo}{Φ:List FEntry}
noncomputable def mv(Φ:List FEntry)(i:Nat)(e:IX):Prim where
 chk sc ctx st:=iz st fun c U=>iC c fun x U nm U as U=>v1 as fun t=>qv t fun a U=>ctx[i]? == some (some x)&&kC x&&nm==mu&&chk Φ e sc ctx a
 k:=kx Φ e
 pre ρ:=pre Φ e false ρ/\∃ds,den Φ e ρ=.list ds/\xx (ρ.getD i .un) ds
 den ρ:=(.next,ρ.set i (xw (ρ.getD i .un) (eW (den Φ e ρ))))
theorem EI{X:Bool}(i:Nat)(e:IX)(wf:G.Wf)(hF:∀F∈Φ,aN G F)(I:SorG G)(bf:rZ G.K er=true):c9 G X (mv Φ i e):=by
 intro sc ctx st env A O ω ρ s E Q hc hsto C hX R hp hQ
 dsimp only[mv]at hp hQ
 refine ou (P:=fun st=>wpAny (model G.prog G.w) A (exec st env) Q E s) (f:=fun x nm U as U=>v1 as fun t=>qv t fun a U=>ctx[i]? == some (some x)&&kC x&&nm==mu&&chk Φ e sc ctx a) hc fun x xp nm ap as cp pos hc=>?_
 refine c0 (P:=fun as=>wpAny (model G.prog G.w) A (exec (.Expr (.Call (.Attribute (.Name x xp) nm ap) as [] cp) pos) env) Q E s) hc fun U hc=>?_
 refine Bb (P:=fun a=>wpAny (model G.prog G.w) A (exec (.Expr (.Call (.Attribute (.Name x xp) nm ap) [a] [] cp) pos) env) Q E s) hc fun a sp hc=>?_
 refine fA hc fun hi hd hnm ha=>?_
 have hi:=eq_of_beq hi
 have hd:=bne_iff_ne.mp hd
 cases eq_of_beq hnm
 obtain⟨hp1,ds,hds,hp2⟩:=hp
 obtain⟨g,hg⟩:∃g,ρ.getD i .un=.sor g:=by refine x32 hp2 fun g U U e U=>?_;exact⟨g,e⟩
 rw[hg]at hp2 hQ
 obtain⟨val,Fv,V⟩:=C.vars
 have hvr:=V i x hi
 rw[hg]at hvr
 refine x23 hvr fun u T hv hsr hω=>?_
 refine x17 ((I.sr _ _ _ _).mp hsr) fun L hu S hT h1 h2 h3 h4=>?_
 have hint:interactive env=false:=by unfold interactive;rw[C.eo.kindS];rfl
 have hfn:fnIn G.K er=true:=by
  have:=I.mA;unfold hA at this;simp only[cF]at this;exact this.2
 refine wpAny_Expr ?_ hint rfl
 rw[arm_eval_Call,show attributeBase (.Name x xp) mu env (eval (.Name x xp) env)=eval (.Name x xp) env from rfl]
 refine wpAny_bind (wpAny_Name (gk C.eo Fv hv (C.co.kd i x hi) ?_) (by simpa using hd))
 rw[hu]
 refine wpAny_bind (wpAny_standAt ?_)
 show wpAny _ A (methodCall (.Name x xp) mu ap cp env (.ref L.x) 1 [(true,(do let v <- eval a env;standAt cp;pure v))] []) _ _ s
 unfold methodCall
 rw[show methodCallForm 1 [(true,(do let v <- eval a env;standAt cp;pure v))] []=false from rfl]
 refine wpAny_bind (wpAny_holding ?_)
 unfold calleeOf
 rw[if_neg Kr]
 refine wpAny_bind (EG (C.base.inK wf) I.T.ts I.mA bf (by decide +kernel) (fun U U U U U U U U U U U=>rfl) S (wpAny_pure ?_))
 generalize hq:s.heap.objs.size=q
 have k1:Keeps s { s with heap:=s.heap.push (methodObj (.ref er) (.ref L.x)),toks:=s.toks+1 }:=bt _
 have hm:(s.heap.push (methodObj (.ref er) (.ref L.x))).get? q=some (methodObj (.ref er) (.ref L.x)):=hq▸Heap.get?_push_size _ rfl
 generalize hs1:({ s with heap:=s.heap.push (methodObj (.ref er) (.ref L.x)),toks:=s.toks+1 }:Shared)=s₁ at k1
 have hm:s₁.heap.get? q=some (methodObj (.ref er) (.ref L.x)):=by rw[<- hs1];exact hm
 have C1:=C.keeps wf k1
 show wpAny _ A (methodCallPos false (.Name x xp) env ap cp >>= fun callPos=>callWith callPos (.ref q) [] [(true,(do let v <- eval a env;standAt cp;pure v))] []) _ _ s₁
 refine wpAny_bind (m:=methodCallPos false (.Name x xp) env ap cp) (wpAny_of_eq (a:=cp) rfl ?_)
 refine ks_call (P:=MethP G.K q er (.ref L.x)) rfl (keeps_M hfn) (ks_lone (wpAny_mono ((snd wf hF e).ev sc ctx a false env A O ω ρ s₁ E ha C1 R hp1) (fun v s₂ h₂=>?_) fun U U e=>e))
 have C2:=C1.keeps wf h₂.1
 have rv:=h₂.2.ff
 rw[hds]at rv
 cases rv with
 | @list aR vs n _ hno hl rl =>
 have hsz:vs.size<=9:=by
  refine x34 hp2 fun g' k pk U e2 hlen U=>?_
  have:=rl.length
  rw[e2]at this
  simp only[cZ,af,Array.length_toList]at this
  lia
 refine EH hl (ae hsz (by rw[sizeLine_eq];decide)) fun h' hk=>?_
 have k3:Keeps s₂ { s₂ with heap:=h' }:=⟨h',s₂.toks,rfl,hk⟩
 have C3:=C2.keeps wf k3
 have k23:=aQ h₂.1 k3
 have k13:=aQ k1 k23
 refine⟨⟨al k23 _ _ hm,C3.base.inK wf⟩,?_⟩
 refine wpAny_call (ks_codeAny_call_bound (al k23 _ _ hm) ?_)
 refine EC (X:=X) (g:=g) (u:=u) (T:=T) (x:=x) (i:=i) wf I C3 (Fv.keeps (al k13)) (fun j y hy=>(V j y hy).keeps wf C.base k13) hi hv hg hu (ec S k13) hT h1 h2 h3 h4 hω (R.le (aW _)) hp2 (rl.keeps k3) fun O' ω' s' st C'=>hQ O' ω' s' .next ((Step.keeps k13).trans C.ok.obs st) ?_ rfl
 rw[hds];exact C'
end
end
section
open PySem PySem.W PyProof.Rows PySem.Spec PySem.SeqAt PySem.Calls PySem.MeetsSeq
open AutoSeq1 (wpAny_loadPart')
theorem EJ(l:Addr)(items:Array Value)(n:Nat)(x:Value)(e:Value->Bool)(hs1:items.size<=sizeLine)(k:Nat) :
 ∀i:Nat,i+k=items.size->Meets (Builtin.«list.remove.loop» ⟨[.ref l,x,rawInt i],[]⟩)
  (fun A R s=>s.heap.get? l=some { cls:=.type "list",dict:=none,data:=.seq items n,slots:=#[] }/\(∀y,y∈items->EqAt A.in1 s y x (e y)) /\
   (∀j,(items.toList.drop i).findIdx? e=some j->R (.ok (.ret .none)) { s with heap:=s.heap.update l (Obj.mapSeq fun xs=>xs.eraseIdxIfInBounds (i+j)) })/\((items.toList.drop i).findIdx? e=none->raisesNew "ValueError" A R s)):=by
 induction k with
 | zero =>
  intro i hk prog w A R s h
  obtain⟨hp,g,d,tk,os⟩:=s;refine eq h fun hl he h1 h2=>?_
  wp_walk using wpAny_loadPart' hl
  rw[show items[((i:Nat):Int).toNat]? = none from Array.getElem?_eq_none (cI hk.symm)]
  wp_walk
  have h:=h2 (by rw[List.drop_eq_nil_of_le (show items.toList.length<=i from cI hk.symm)];rfl)
  exact_raiseError plainExc_ValueError h.1 h.2
 | succ k ih =>
  intro i hk prog w A R s h
  obtain⟨hp,g,d,tk,os⟩:=s;refine eq h fun hl he h1 h2=>?_
  have hlt:i<items.size:=hk▸Nat.lt_add_of_pos_right (Nat.succ_pos k)
  have hd:items.toList.drop i=items[i]::items.toList.drop (i+1):=List.drop_eq_getElem_cons (l:=items.toList) hlt
  rw[hd,List.findIdx?_cons]at h1 h2
  wp_walk using wpAny_loadPart' hl
  rw[show items[((i:Nat):Int).toNat]? = some items[i]from Array.getElem?_eq_getElem hlt]
  refine wpAny_bind (he _ (Array.getElem_mem hlt) prog w _ _ ?_)
  generalize e items[i]=b at h1 h2 ⊢
  cases b with
  | true =>
   have hz':(items.eraseIdxIfInBounds i).size<=sizeLine+1:=ae (size_erased items _) (Nat.le_succ_of_le hs1)
   wp_walk using(wpAny_updateSeq hl rfl (hz:=hs1) (_hz':=hz')),wpAny_loadPart' hl
   exact h1 0 rfl
  | false =>
   wp_walk
   rw[show((i:Int)+1)=((i+1:Nat):Int)from rfl]
   exact⟨plainId_quiet plain_remove_loop _,codeAny_builtin entry_remove_loop (by
    rw[Around.under_plainId plain_remove_loop _]
    exact ih (i+1) ((Nat.succ_add i k).trans hk) prog w A R _ ⟨hl,he,fun j q=>by rw[Nat.succ_add];exact h1 (j+1) (by rw[q];rfl),fun q=>h2 (by rw[q];rfl)⟩)⟩
theorem EK(l:Addr)(items:Array Value)(n:Nat)(x:Value)(e:Value->Bool)(hs1:items.size<=sizeLine) :
 Meets (Builtin.«list.remove» ⟨[.ref l,x],[]⟩)
  (fun A R s=>s.heap.get? l=some { cls:=.type "list",dict:=none,data:=.seq items n,slots:=#[] }/\(∀y,y∈items->EqAt A.in1 s y x (e y)) /\
   (∀j,items.toList.findIdx? e=some j->R (.ok (.ret .none)) { s with heap:=s.heap.update l (Obj.mapSeq fun xs=>xs.eraseIdxIfInBounds j) })/\(items.toList.findIdx? e=none->raisesNew "ValueError" A R s)):=by
 intro prog w A R s h
 obtain⟨hp,g,d,tk,os⟩:=s;refine eq h fun hl he h1 h2=>?_
 wp_walk using wpAny_loadPart' hl
 exact⟨plainId_quiet plain_remove_loop _,codeAny_builtin entry_remove_loop (by
  rw[Around.under_plainId plain_remove_loop _]
  exact EJ l items n x e hs1 _ 0 (jj _) prog w A R _ ⟨hl,he,fun j q=>by rw[jj];exact h1 j q,h2⟩)⟩
noncomputable def cP(x:PyData):List PyData->Option (List PyData)
 | []=>none
 | y::r=>if PyData.eqv y x then some r else(cP x r).map (y::·)
theorem xB{x y:PyData}{r:List PyData}:cP x (y::r)=if PyData.eqv y x then some r else(cP x r).map (y::·):=rfl
theorem r0{x:PyData}:∀ds:List PyData,cP x ds=(ds.findIdx? fun y=>PyData.eqv y x).map ds.eraseIdx
 | []=>rfl
 | y::l=>by
  rw[xB,r0 l,List.findIdx?_cons]
  cases PyData.eqv y x with
  | true=>rfl
  | false=>cases l.findIdx? fun y=>PyData.eqv y x<;>rfl
section
variable{prog:Program}{w:World}{A:Around}{E:Value->Shared->Prop}{s:Shared}{O:Addr->Prop}
theorem xC{O:Addr->Prop}{h:Heap}:∀ {vs:List Value} {ds:List PyData} (j:Nat),RepL O h vs ds->RepL O h (vs.eraseIdx j) (ds.eraseIdx j)
 | _,_,_,.nil=>by simpa using .nil
 | _,_,0,.cons _ l=>l
 | _,_,j+1,.cons a l=>.cons a (xC j l)
theorem EL{l:Addr}{vs:Array Value}{n:Nat}{ds:List PyData}{d:PyData}{pos:Pos}{x:Sem Value}{Q:Value->Shared->Prop}(hu:A.units+100<cLine)(hh:A.handled=none)
 (h:wpAny (model prog w) A x (fun v s₁=>IsL s₁.heap l vs n/\RepL O s₁.heap vs.toList ds/\Rep O s₁.heap v d/\b9 d/\PyData.canLayAll0 ds=true/\vs.size<=sizeLine /\
  (∀r,cP d ds=some r->∀h' vs' m,IsL h' l vs' m->Heap.SameBut l s₁.heap h'->(∀(O':Addr->Prop) h'',RepL O' h'' vs.toList ds->RepL O' h'' vs'.toList r)->Q .none { s₁ with heap:=h' }) /\
  (cP d ds=none->∀h' tk e,Heap.NewExc s₁.heap h' e "ValueError"->E (.ref e) { s₁ with heap:=h',toks:=tk })) E s) :
 wpAny (model prog w) A (callWith pos (.builtin "list.remove") [.ref l] [(false,x)] []) Q E s:=by
 refine seqMethod1_meets F.slot_list_remove F.entry_list_remove (wpAny_mono h (fun v s₁ h₁=>?_) fun U U e=>e)
 refine AB h₁ fun hl rl rv hd hds hz hyes hno=>?_
 refine⟨⟨_,hl,rfl⟩,F.args_list_remove_2 _ _,?_⟩
 refine x11 (rl.reads (iF _ hds)) fun as ra=>?_
 refine x11 (rv.reads (iE _ hd.1)) fun bs rb=>?_
 have heq:=items_eqAt (A:=A) ra rb hds hd.1 (lz hd hu)
 have hmap:=readsAll_map ds _ _ hds ra
 have hf:vs.toList.findIdx? (fun y=>PyData.eqv (readOf s₁.heap y) d)=ds.findIdx? fun y=>PyData.eqv y d:=by rw[<- hmap,List.findIdx?_map];rfl
 rw[r0,<- hf]at hyes hno
 refine⟨_,EK l vs n v (fun y=>PyData.eqv (readOf s₁.heap y) d) hz,hl,heq,fun j hr=>?_,fun hr=>⟨hh,hno (by rw[hr];rfl)⟩⟩
 refine hyes _ (by rw[hr];rfl) _ _ _ (IsL.update hl _) (Heap.SameBut.update ..) fun O' h'' r'=>?_
 have he:(vs.eraseIdxIfInBounds j).toList=vs.toList.eraseIdx j:=by
  unfold Array.eraseIdxIfInBounds
  split
  ·exact Array.toList_eraseIdx ..
  ·rename_i q
   exact(List.eraseIdx_of_length_le (cy.mp q)).symm
 rw[he]
 exact xC j r'
end
end
section
open PySem PySem.W PyProof.Rows PySem.Spec PySem.SeqAt PySem.Calls
section
variable{M:Model}{A:Around}{E:Value->Shared->Prop}{s:Shared}{env:Env}{outer:List Env}{L a:Addr}{cls:Value}{B:Heap}
noncomputable def r8(B:Heap)(l:List Env)(a:Addr)(cls:Value)(L:Addr)(h:Heap):Prop:=ee B l a cls h\/∃a0,Heap.HeldW B l a cls a0 L h
theorem EM{Q:Unit->Shared->Prop}(hfr:A.frames=some (env::outer))(hf:env.frame=some L)(T:r8 B (env::outer) a cls L s.heap)
 (hQ:∀h' a0,Heap.HeldW B (env::outer) a cls a0 L h'->s.heap.UpToSlots h'->Q () { s with heap:=h' }):wpAny M A (noteFrame (.ref a) env) Q E s:=by
 rcases T with T | ⟨a0,hh⟩
 ·exact rD hfr hf T hQ
 ·exact wpAny_noteFrame_againW hf hh.2.2.2 (hQ s.heap a0 hh (.refl _))
theorem EN{l:List Env}{a0:Value}{Q:Unit->Shared->Prop}(hh:Heap.HeldW B l a cls a0 L s.heap)(hQ:∀h',Heap.HeldW B l a cls a0 L h'->s.heap.UpToSlots h'->Q () { s with heap:=h' }):wpAny M A (setFlight (.ref a) (some L)) Q E s:=by
 obtain⟨hkb,hbe,hl,oe,vs,T,oT,ts,he,hcls,hd,h1,hnT,hTe,hT,hdT,h3⟩:=hh
 have hsz3:3<ts.size:=(Array.getElem?_eq_some_iff.mp h3).1
 have other:∀b,b≠T->(s.heap.update T (Obj.mapFields (·.setIfInBounds 3 ((some L:Option Addr).elim Value.none fun f=>rawInt f)))).get? b=s.heap.get? b :=
  fun b hb=>Heap.get?_update_other _ _ (Ne.symm hb)
 have noRecord:∀b o,s.heap.get? b=some o->(∀vs,o.data≠.fields vs)->b≠T:=fun b o hb hnf q=>by
  rw[q,hT]at hb;injection hb with hb;subst hb;exact hnf ts hdT
 unfold setFlight
 refine wpAny_bind (wpAny_field he hd h1 ?_)
 rw[if_pos (show(Value.ref T != Value.none)=true from rfl)]
 refine wpAny_setField hT hdT hsz3 (hQ _ ⟨fun b o hbo=>(other b fun q=>by rw[q,hnT]at hbo;cases hbo).trans (hkb b o hbo),hbe,
  hl.of_keeps fun b o hb hnf=>⟨o,(other b (noRecord b o hb hnf)).trans hb,rfl⟩,?_⟩ fun b o hb hnf=>⟨o.slots,(other b (noRecord b o hb hnf)).trans hb⟩)
 exact⟨oe,vs,T,_,_,(other a (Ne.symm hTe)).trans he,hcls,hd,h1,hnT,hTe,Heap.get?_update_self _ hT (Obj.isFreed_of_fields (Obj.data_mapFields hdT _)),Obj.data_mapFields hdT _,by simp[hsz3]⟩
theorem EO{l:List Env}{a0:Value}(hf:env.frame=some L)(hh:Heap.HeldW B l a cls a0 L s.heap)(hQ:∀h',Heap.HeldW B l a cls a0 L h'->s.heap.UpToSlots h'->E (.ref a) { s with heap:=h' }):cameBackBy M A env E (.ref a) s:=by
 unfold cameBackBy
 refine x55 (id hh.2.2.2) fun oe vs T oT ts he hcls hd h1 U=>?_
 refine wpAny_bind (wpAny_field he hd h1 ?_)
 rw[if_neg (show ¬((Value.ref T==Value.none)=true)from by simp)]
 rw[hf]
 exact EN hh hQ
theorem EP(hfr:A.frames=some (env::outer))(hf:env.frame=some L)(T:ee B (env::outer) a cls s.heap)(hQ:∀h',r8 B (env::outer) a cls L h'->s.heap.UpToSlots h'->E (.ref a) { s with heap:=h' }):notedBy M A env (cameBackBy M A env E) (.ref a) s:=by
 unfold notedBy
 refine rD hfr hf T fun h' a0 hh hu=>?_
 exact EO (s:={ s with heap:=h' }) hf hh fun h'' hh' hu'=>hQ h'' (.inr ⟨a0,hh'⟩) (hu.trans hu')
end
section
variable{prog:Program}{w:World}{A:Around}{E:Value->Shared->Prop}{s:Shared}{env:Env}{outer:List Env}{L:Addr}
theorem EQ{body suite:List Stmt}{b₀:Stmt}{x:Str}{xp hp tp:Pos}{c:Value}{Q:Flow->Shared->Prop}(hfr:A.frames=some (env::outer))(hf:env.frame=some L)
 (h:wpAny (model prog w) A (execs body env) Q (fun e s₁=>∃a B cls,e=.ref a/\r8 B (env::outer) a cls L s₁.heap /\
  ∀h₂,B.StaysIn h₂->s₁.heap.UpToSlots h₂->(∃o,h₂.get? a=some o/\o.cls=cls)->∀E,
   wpAny (model prog w) (A.mark (some (.ref a))) (eval (.Name x xp) env) (fun v s₃=>v=c/\s₃={ s₁ with heap:=h₂ } /\
    (∀(Q:Bool->Shared->Prop) E,Q true { s₁ with heap:=h₂ }->wpAny (model prog w) (A.mark (some (.ref a))) (excMatches (.ref a) c) Q E { s₁ with heap:=h₂ }) /\
    ∀h₄,B.StaysIn h₄->s₁.heap.UpToSlots h₄->ee B (env::outer) a cls h₄->∀E,wpAny (model prog w) (A.mark (some (.ref a))) (execs (b₀::suite) env) Q E { s₁ with heap:=h₄ }) E { s₁ with heap:=h₂ }) s) :
 wpAny (model prog w) A (exec (.Try body [.ExceptHandler (some (.Name x xp)) none (b₀::suite) hp] [] [] tp) env) Q E s:=by
 refine wpAny_Try_except (wpAny_mono h (fun f s₁ h₁=>?_) fun e s₁ h₁=>?_)
 ·cases f<;>first | exact h₁ | exact wpAny_execs_nil h₁
 ·refine x33 h₁ fun a B cls e3 T k=>?_;subst e3
  refine EM hfr hf T fun h₁' a0 hh hu=>?_
  refine wpAny_landsW hh fun h₂ hfl hu₂=>?_
  have u2:=hu.trans hu₂
  refine wpAny_handleBy_cons (codeAny_handlers_test (wpAny_mono (k h₂ hfl.1 u2 hfl.there _) (fun v s₃ h₃=>?_) fun U U e=>e)) (by intro q;cases q)
  refine eq h₃ fun e0 e1 hm hs=>?_;subst e0;subst e1
  refine hm _ _ ?_
  refine codeAny_handlers_suite ?_
  refine lands_againW hfl fun h₄ hfl₄ hu₄=>?_
  exact hs h₄ hfl₄.1 (u2.trans hu₄) (.of hfl₄) _
end
section
variable{G:Glo}{Φ:List FEntry}
theorem ER:isSubtype (.type "ValueError") (.type "BaseException")=pure true:=by rw[isSubtype_type];kernel_rfl
theorem ES:isSubtype (.type ((Manifest.find? "ValueError").elim "type" fun x=>x.metatype)) (.type "tuple")=pure false:=by
 have e:(Manifest.find? "ValueError").elim "type" (fun x=>x.metatype) = "type":=by decide +kernel
 rw[e,isSubtype_type];kernel_rfl
theorem ET:isSubtype (.type "ValueError") (.type "ValueError")=pure true:=by rw[isSubtype_type];kernel_rfl
noncomputable def dB(i j:Nat)(K:PyData)(d:PyData)(ρ:List SV):Fl × List SV:=match cP d (dK (ρ.getD i .un))with
 | some r=>(.next,(ay false [j] d ρ).set i (.own (.list r)))
 | none=>(.ret K,ay false [j] d ρ)
noncomputable def r9(i:Nat)(d:PyData)(ρ:List SV):Prop:=jx (ρ.getD i .un)/\b9 d/\PyData.canLayAll0 (dK (ρ.getD i .un))=true/\(dK (ρ.getD i .un)).length<=16777216
noncomputable def xD:Str:=ofString "ValueError"
noncomputable def EU:Str:=ofString "remove"
noncomputable def se(Φ:List FEntry)(i j:Nat)(it:IX)(K:PyData):Prim where
 chk sc ctx st:=lw st fun b ve U v U U U=>v1 b fun f=>lq f fun t iter fb U=>cf t fun el ep=>v1 fb fun c=>iz c fun c U=>iC c fun x U m ap as cp=>v1 as fun a=>cf a fun el2 U =>
  ctx[i]? == some (some x)&&kC x&&m==EU&&ap.endLine==cp.line&&ctx[j]? == some (some el)&&kC el&&el2==el&&i != j&&ve==xD&&bK sc ve&&rW v K &&
  eY iter&&eE Φ it sc ctx iter&&eX false [j] sc ctx (.Name el ep)
 k:=kx Φ it
 pre ρ:=gg Φ it false ρ/\j<ρ.length/\fK (fun d ρ=>bindP false [j] d/\r9 i d ρ) (dB i j K) (bp Φ it ρ) ρ
 den ρ:=bC (dB i j K) (bp Φ it ρ) ρ
theorem sf{j:Nat}{d:PyData}{ρ:List SV}:ay false [j] d ρ=ρ.set j (.dat d):=rfl
theorem EV(i j:Nat)(it:IX)(K:PyData)(wf:G.Wf)(hF:∀F∈Φ,aN G F):c9 G true (se Φ i j it K):=by
 intro sc ctx st env A O ω ρ s E Q hc hsto C hX R hp hQ
 dsimp only[se]at hp hQ R
 refine Bi (P:=fun st=>wpAny (model G.prog G.w) A (exec st env) Q E s) hc fun el ep iter x xp m ap el2 elp cp exp fp ve vep v rp hpos tp hc=>?_
 refine qk hc fun hc hve hg hK hns hci hct=>?_
 refine uA hc fun hi hd hm hline hj hdj hel2 hij=>?_
 have hi:=eq_of_beq hi
 have hline:=eq_of_beq hline
 have hj:=eq_of_beq hj
 have hd:=bne_iff_ne.mp hd
 have hdj:=bne_iff_ne.mp hdj
 have hij:=bne_iff_ne.mp hij
 cases eq_of_beq hve
 cases eq_of_beq hm
 cases eq_of_beq hel2
 refine cN hp fun hpI hjl hfp=>?_
 refine x11 ((hX rfl).top) fun outer hfr=>?_
 have hint:interactive env=false:=by unfold interactive;rw[C.eo.kindS];rfl
 refine EQ (c:=.type "ValueError") hfr (hX rfl).ef ?_
 refine wpAny_execs_cons ?_
 refine v5 (X:=true) (f:=dB i j K) (PB:=r9 i) wf (snd wf hF it).it hns hci hct hsto C hX R hpI hfp (fun d ρk l Ok ωk sk Q' hP hrest hst Ck hn=>?_) fun O' ω' s' fl st' C' hf=>?_
 rotate_left
 ·generalize bC (dB i j K) (bp Φ it ρ) ρ=z at C' hf hQ
  obtain⟨fz,ρz⟩:=z
  cases fz with
  | next=>cases hf;exact wpAny_execs_nil (hQ O' ω' s' .next st' C' rfl)
  | brk=>cases hf;exact hQ O' ω' s' .brk st' C' rfl
  | ret dz=>refine x12 hf fun u e1 ru=>?_;subst e1;exact hQ O' ω' s' (.ret u) st' C' ⟨u,rfl,ru⟩
 refine eq hP fun ho hdd hlay hlen=>?_
 have hjk:j<ρk.length:=by
  have e1:=Ck.len
  have e2:=C.len
  rw[sf,pJ]at e1
  omega
 have hown:(ay false [j] d ρk).getD i .un=ρk.getD i .un:=by
  rw[sf,c6,if_neg fun q=>hij q.1.symm]
 have hel:(ay false [j] d ρk).getD j .un=.dat d:=by
  rw[sf,c6,if_pos ⟨rfl,hjk⟩]
 have hrho:ρk.set j (.dat d)=ay false [j] d ρk:=rfl
 obtain⟨val,a,vs,n,Fv,V,hv,hw,hL,hR,hil⟩:=qY Ck hi (by rw[hown];exact ho)
 rw[hown]at hR
 have Xk:=(hX rfl).step C hst Ck
 have hu:A.units+100<cLine:=R.units
 have hsz:vs.size=(dK (ρk.getD i .un)).length:=by rw[<- cj];exact hR.length
 refine wpAny_execs_cons (wpAny_Expr ?_ hint rfl)
 refine Call_method1 rfl (gZ rfl) (by simpa using hline) (wpAny_Name (gk Ck.eo Fv hv (Ck.co.kd i x hi) ?_) (by simpa using hd))
 refine⟨"list", "list.remove",F.plainAttrs_list,F.slot_list_remove,F.type_list_remove,hL.isList.typeIs,(fun b e=>by cases e;exact⟨_,hL,rfl⟩),?_⟩
 refine EL (O:=Ok) (d:=d) (ds:=dK (ρk.getD i .un)) (vs:=vs) (n:=n) hu Xk.hn (di Ck hj (by simpa using hdj) hel fun u ru=>⟨hL,hR,ru,hdd,hlay,by rw[hsz,sizeLine_eq];omega,fun r hr h' vs' m hl' hs hrep=>?_,fun hr h' tk e hN=>?_⟩)
 ·have hk:∀b o,¬Ok b->sk.heap.get? b=some o->h'.get? b=some o:=fun b o nO q=>hs.extBut b o (fun z=>nO (z▸(Ck.om a i hw).1)) q
  refine ak (v9 (Ff:=Fz true A) wf Ck Fv V hi hil hv hw hL hl' (hrep _ _ (hR.mono hk fun U U U q=>q)) hs) fun S' C'=>?_
  refine wpAny_execs_nil (hn Ok ωk _ .next S' ?_ ?_)
  ·unfold dB;rw[hr];exact C'
  ·unfold dB;rw[hr];rfl
 ·obtain⟨n1,n2,ob,t0,n3,n4,n5⟩:=hN
  refine x12 Xk.fr fun l0 hl0 fr0=>?_
  rw[hfr]at hl0
  cases hl0
  have frh:iR (env::outer) h':=fun v hv=>(fr0 v hv).elim fun h1 ζ=>ζ.elim fun L' ζ=>ζ.elim fun o ζ=>ζ.elim fun es ζ=>ζ.elim fun n ζ=>ζ.elim fun h2 ζ=>ζ.elim fun h3 h4=>⟨h1,L',o,es,n,h2,n1 _ _ h3,h4⟩
  have nb:∀b o,b≠e->¬an A b->h'.get? b=some o->(gw (env::outer) e h').get? b=some o:=fun b o n nf q=>rF q n fun z=>nf ⟨_,hfr,z⟩
  refine EP (s:={ sk with heap:=h',toks:=tk }) hfr (hX rfl).ef (rG frh ⟨ob,_,t0,n3,n4,n5,rfl,rfl⟩) fun h₁ T1 u1=>?_
  refine⟨e,gw (env::outer) e h',.type "ValueError",rfl,T1,fun h₂ k2 u2 th E=>?_⟩
  have u2:h'.UpToSlots h₂:=u1.trans u2
  have note:∀h₂,(gw (env::outer) e h').StaysIn h₂->h'.UpToSlots h₂->(∃o,h₂.get? e=some o)->KS (an A) No sk { sk with heap:=h₂,toks:=tk }:=fun h₂ k2 u2 th=>by
   have N:=rH hfr frh nb k2 u2 th
   refine⟨h₂,tk,rfl,fun b o U q=>?_,fun b o q=>?_⟩
   ·exact N.1 b o (fun z=>by rw[z,n2]at q;cases q) (n1 b o q)
   ·refine x12 (N.1 b o (fun z=>by rw[z,n2]at q;cases q) (n1 b o q)) fun sl q' U=>?_
    exact⟨_,q'⟩
  have C2:=Ck.ks wf (note h₂ k2 u2 (th.imp fun U q=>q.1)) Xk.fo Xk.fw
  refine gm (s:={ sk with heap:=h₂,toks:=tk }) wf C2.eo C2.base hg (v:=.type "ValueError") (by simp[bQ,xD]) ⟨rfl,rfl,fun Q E hq=>?_,fun h₄ k4 u4 T4 E=>?_⟩
  ·refine x12 th fun o ho hoc=>?_
   exact wpAny_excMatches_type (X:= "ValueError") (T:= "ValueError") (b:=true) ⟨o,ho,hoc⟩ ER ES ET hq
  ·have u4:h'.UpToSlots h₄:=u1.trans u4
   have K4:=note h₄ k4 u4 (T4.there.imp fun U q=>q.1)
   have C4:=Ck.ks wf K4 Xk.fo Xk.fw
   refine wpAny_execs_cons (wpAny_Return_some (xz (s:={ sk with heap:=h₄,toks:=tk }) hK fun u' s₅ k5 hrep=>?_))
   have hden:bC (dB i j K) (bp Φ it ρ) ρ=(.ret K,ay false [j] d ρk):=by
    rw[hrest]
    rw[lT]
    unfold dB
    rw[hr]
   rw[hden]at hQ
   exact hQ Ok ωk s₅ (.ret u') ((hst.trans C.ok.obs (Step.ks K4)).trans C.ok.obs (Step.keeps k5)) (C4.keeps wf k5) ⟨u',rfl,hrep Ok C4.ok.obs⟩
end
end
section
open PySem PySem.W PyProof.Rows PySem.Spec PySem.SeqAt PySem.Calls PySem.MeetsSeq
section
variable{G:Glo}{Φ:List FEntry}
noncomputable def si:Str:=ofString "list"
noncomputable def sj(Φ:List FEntry)(i:Nat)(e:IX):Prim where
 chk sc ctx st:=eS st fun t v U=>cf t fun x U=>iA v fun g U as U=>v1 as fun a=>ctx[i]? == some (some x)&&aS sc x&&g==si&&bK sc g&&chk Φ e sc ctx a
 k:=kx Φ e
 pre ρ:=pre Φ e false ρ/\∃ds,den Φ e ρ=.list ds/\ds.length<=16777216
 den ρ:=(.next,ρ.set i (.own (den Φ e ρ)))
theorem EW{X:Bool}(i:Nat)(e:IX)(wf:G.Wf)(hF:∀F∈Φ,aN G F):c9 G X (sj Φ i e):=by
 intro sc ctx st env A O ω ρ s E Q hc hsto C hX R hp hQ
 dsimp only[sj]at hp hQ
 refine u8 (P:=fun st=>wpAny (model G.prog G.w) A (exec st env) Q E s) (f:=fun x g as=>v1 as fun a=>ctx[i]? == some (some x)&&aS sc x&&g==si&&bK sc g&&chk Φ e sc ctx a) hc fun x p g gp as cp pos hc=>?_
 refine c0 (P:=fun as=>wpAny (model G.prog G.w) A (exec (.Assign [.Name x p] (.Call (.Name g gp) as [] cp) pos) env) Q E s) hc fun a hc=>?_
 refine ge hc fun hi hk hgn hg ha=>?_
 cases eq_of_beq hgn
 have hi:=eq_of_beq hi
 obtain⟨hp1,ds,hds,hlen⟩:=hp
 refine wpAny_Assign_stores (dv (fun y hy=>by rw[ai.mp hy];exact eZ e ha) (gm wf C.eo C.base hg (v:=.type "list") (by simp[bQ,si]) ?_)) rfl rfl
 refine PySem.callWith_type (fG _) (Calls.evalArgs_plain (Calls.spliced_cons (wpAny_mono ((snd wf hF e).ev sc ctx a false env A O ω ρ s E ha C R hp1) (fun v s₁ h₁=>Calls.spliced_nil ?_) fun U U x=>x)))
 have C1:=C.keeps wf h₁.1
 have rv:=h₁.2.ff
 rw[hds]at rv hQ
 cases rv with
 | @list aR vs n _ hno hl rl =>
 have hsz:vs.size=ds.length:=by rw[<- cj];exact rl.length
 refine call_list_seq aR (.inl rfl) hl rfl rfl (fun h' c' hk' hnew=>?_) (by rw[hsz,sizeLine_eq];omega)
 have k2:Keeps s₁ { s₁ with heap:=h' }:=⟨h',s₁.toks,rfl,hk'⟩
 have hnone:s₁.heap.get? s₁.heap.objs.size=none:=Heap.get?_none_of_le (aL _)
 refine ak (wa (i:=i) wf C1 k2 hnone ⟨_,hnew⟩) fun gr C2=>?_
 show wpAny _ A (assign (.Name x p) env (.ref s₁.heap.objs.size)) _ _ _
 have hr:cC G (fun b=>O b\/b=s₁.heap.objs.size) (fun b=>if b=s₁.heap.objs.size then some i else ω b) h' i (some (.ref s₁.heap.objs.size)) (.own (.list ds)) :=
  ⟨_,vs,c',ds,rfl,if_pos rfl,rfl,hnew,rl.mono (fun b o U q=>hk' b o q) fun b o q z=>z.elim id fun z=>by rw[z,hnone]at q;cases q⟩
 exact wpAny_assign_Name (dJ wf (hsto i) C2 hi hk hr fun s' k C'=>hQ _ _ s' .next (((Step.keeps h₁.1).trans C.ok.obs gr.step).trans C.ok.obs (Step.frame k)) C' rfl)
noncomputable def ss(i:Nat):Prim where
 chk sc ctx st:=oh st fun v U=>oi v fun n U=>cf n fun x U=>ctx[i]? == some (some x)&&kC x
 k:=0
 pre ρ:=jx (ρ.getD i .un)/\(dK (ρ.getD i .un)).length<=16777216
 den ρ:=(.ret (.bool (dK (ρ.getD i .un)).isEmpty),ρ)
theorem EY{X:Bool}(i:Nat)(wf:G.Wf):c9 G X (ss i):=by
 intro sc ctx st env A O ω ρ s E Q hc hsto C hX R hp hQ
 dsimp only[ss]at hp hQ
 refine qw (P:=fun st=>wpAny (model G.prog G.w) A (exec st env) Q E s) hc fun U rp hc=>?_
 refine oj (P:=fun e=>wpAny (model G.prog G.w) A (exec (.Return (some e) rp) env) Q E s) hc fun U up hc=>?_
 refine eR (P:=fun e=>wpAny (model G.prog G.w) A (exec (.Return (some (.UnaryOp .Not e up)) rp) env) Q E s) hc fun x xp hc=>?_
 refine aO hc fun hi hd=>?_
 have hi:=eq_of_beq hi
 have hd:=bne_iff_ne.mp hd
 obtain⟨val,a,vs,n,Fv,V,hv,hw,hL,hR,hil⟩:=qY C hi hp.1
 have hsz:vs.size=(dK (ρ.getD i .un)).length:=by rw[<- cj];exact hR.length
 refine wpAny_Return_some (wpAny_UnaryOp (wpAny_Name (gk C.eo Fv hv (C.co.kd i x hi) ?_) (by simpa using hd)))
 refine not_of (wpAny_truthy_list hL.isList (by lia) ?_)
 have he:(!(!vs.isEmpty))=(dK (ρ.getD i .un)).isEmpty:=by
  rw[Bool.not_not]
  cases hq:dK (ρ.getD i .un)with
  | nil =>
   rw[hq]at hsz
   exact gF.mpr hsz
  | cons d r =>
   rw[hq]at hsz
   cases hz:vs.isEmpty with
   | false=>rfl
   | true=>rw[gF]at hz;rw[hz]at hsz;cases hsz
 rw[he]
 exact hQ O ω _ (.ret _) (Step.keeps (aw s (s.toks+1+1))) (C.keeps wf (aw s (s.toks+1+1))) ⟨_,rfl,.bool _⟩
end
noncomputable def ba:List PyData->List PyData->List PyData
 | acc,[]=>acc
 | acc,d::ds=>ba (if acc.any (fun y=>PyData.eqv y d)then acc else acc++[d]) ds
theorem sv{acc ds:List PyData}{d:PyData}:ba acc (d::ds)=ba (if acc.any (fun y=>PyData.eqv y d)then acc else acc++[d]) ds:=rfl
noncomputable def gx:List PyData->List PyData->Option (List PyData)
 | [],t=>some t
 | x::xs,t=>(cP x t).bind (gx xs)
theorem sx{x:PyData}{xs t:List PyData}:gx (x::xs) t=(cP x t).bind (gx xs):=rfl
noncomputable def mw(a b:List PyData):Bool:=match gx a b with
 | some []=>true
 | _=>false
noncomputable def i4(l:List PyData):Prop:=l.length<=1000000/\∀d∈l,b9 d
theorem sy:∀ {l:List PyData},(∀d∈l,b9 d)->PyData.canLayAll0 l=true
 | [],_=>rfl
 | d::l,h=>by
  unfold PyData.canLayAll0
  rw[(h d ag).1,sy fun x hx=>h x (ar _ hx)];rfl
noncomputable def fS:FEntry:=⟨ofString "_deduplicate_unhashable",1,fun ds=>∃l,ds=[.list l]/\i4 l,fun ds=>.list (ba [] (eW (ds.getD 0 .none)))⟩
noncomputable def sz:SX:=.prim (rk [] 1 (.list .nil)) (.for false [2] (.seq (.var 0)) (.ite (.cmp .NotIn (.var 2) (.var 1)) (.prim (iS [] 1 (.var 2)) .skip) .skip .skip) (.frz 1 (.prim (eb [] (.var 1)) .skip)))
noncomputable def kD:FEntry:=⟨ofString "_compare_args_orderless",3,fun ds=>∃a b,ds=[.list a,.list b]/\i4 a/\i4 b,fun ds=>.bool (mw (ba [] (eW (ds.getD 0 .none))) (ba [] (eW (ds.getD 1 .none))))⟩
noncomputable def sA:SX:=.prim (cG [fS] 2 (.call 0 (.cons (.var 0) .nil))) (.prim (cG [fS] 3 (.call 0 (.cons (.var 1) .nil))) (.prim (sj [fS] 4 (.var 3)) (.prim (se [fS] 4 5 (.seq (.var 2)) (.bool false)) (.prim (ss 4) .skip))))
theorem xE:∀(ds acc:List PyData),(ba acc ds).length<=acc.length+ds.length
 | [],acc=>ip _ _
 | d::ds,acc=>by
  rw[sv]
  refine ae (xE ds _) ?_
  split
  ·simp only[cZ];lia
  ·simp only[bb,cZ,List.length_nil];lia
theorem xF:∀(ds acc:List PyData) (x:PyData),x∈ba acc ds->x∈acc\/x∈ds
 | [],acc,x,h=>.inl h
 | d::ds,acc,x,h=>by
  rw[sv]at h
  rcases xF ds _ x h with h | h
  ·split at h
   ·exact .inl h
   ·rcases au.mp h with h | h
    ·exact .inl h
    ·exact .inr (aa.mpr (.inl (ai.mp h)))
  ·exact .inr (ar _ h)
theorem xG{l:List PyData}(h:i4 l):i4 (ba [] l) :=
 ⟨ae (xE l []) (by simpa using h.1),fun d hd=>h.2 d ((xF l [] d hd).elim (fun q=>by cases q) id)⟩
noncomputable def sC(d:PyData)(ρ:List SV):Fl × List SV:=av [] (.ite (.cmp .NotIn (.var 2) (.var 1)) (.prim (iS [] 1 (.var 2)) .skip) .skip .skip) (ay false [2] d ρ)
theorem xH(d:PyData)(acc:List PyData)(x z:SV):sC d [x,.own (.list acc),z]=(.next,[x,.own (.list (if acc.any (fun y=>PyData.eqv y d)then acc else acc++[d])),.dat d]):=by
 show dw (if(!(acc.any fun y=>PyData.eqv y d))=true then _ else _) _=_
 cases hq:acc.any fun y=>PyData.eqv y d<;>rfl
theorem xI:∀(ds acc:List PyData) (x z:SV),∃z',bC sC ds [x,.own (.list acc),z]=(.next,[x,.own (.list (ba acc ds)),z'])
 | [],acc,x,z=>⟨z,rfl⟩
 | d::ds,acc,x,z=>by
  rw[lT]
  rw[xH]
  exact xI ds _ x (.dat d)
theorem xJ:∀(ds acc:List PyData) (x z:SV),(∀d∈ds,b9 d)->(∀d∈acc,b9 d)->acc.length+ds.length<=1000000 ->
 fK (fun d ρ=>bindP false [2] d/\aM [] (.ite (.cmp .NotIn (.var 2) (.var 1)) (.prim (iS [] 1 (.var 2)) .skip) .skip .skip) (ay false [2] d ρ)) sC ds [x,.own (.list acc),z]
 | [],_,_,_,_,_,_=>trivial
 | d::ds,acc,x,z,h1,h2,h3=>by
  have hd:=h1 d ag
  have hl:=sy h2
  simp only[cZ]at h3
  rw[qX]
  rw[xH]
  refine⟨⟨rfl,?_⟩,xJ ds _ x (.dat d) (fun y hy=>h1 y (ar _ hy)) (fun y hy=>?_) ?_⟩
  ·refine⟨⟨trivial,trivial,hd,hl⟩,rfl,fun U=>⟨⟨trivial,trivial,?_⟩,fun U U=>trivial⟩,fun U=>trivial,fun U U=>trivial⟩
   show acc.length<=_
   lia
  ·split at hy
   ·exact h2 y hy
   ·rcases au.mp hy with hy | hy
    ·exact h2 y hy
    ·rw[ai.mp hy];exact hd
  ·split
   ·lia
   ·simp only[bb,cZ,List.length_nil];lia
noncomputable def mx:List Str:=[ofString "unhashable_params",ofString "new_unhashable",ofString "t"]
theorem EZ(ds:List PyData)(h:fS.pre ds):ds.length=1/\aM [] sz (aY mx ds)/\(av [] sz (aY mx ds)).1=.ret (fS.val ds):=by
 refine x12 h fun l e1 hl=>?_;subst e1
 have e:aY mx [.list l]=[.dat (.list l),.un,.un]:=rfl
 rw[e]
 refine x11 (xI l [] (.dat (.list l)) .un) fun z' hz=>?_
 have hfor:bC (fun d ρ=>av [] (.ite (.cmp .NotIn (.var 2) (.var 1)) (.prim (iS [] 1 (.var 2)) .skip) .skip .skip) (ay false [2] d ρ)) l [.dat (.list l),.own (.list []),.un]=_:=hz
 refine⟨rfl,?_,?_⟩
 ·refine⟨⟨trivial,aW _⟩,fun ρ' hρ=>?_⟩
  cases hρ
  refine⟨⟨trivial,trivial⟩,xJ l [] _ _ hl.2 (fun d hd=>by cases hd) (by simpa using hl.1),fun ρ' hρ=>?_⟩
  have hρ:bC _ l [.dat (.list l),.own (.list []),.un]=(.next,ρ'):=hρ
  rw[hfor]at hρ
  cases hρ
  exact⟨trivial,trivial,fun U U=>trivial⟩
 ·show(dw (bC _ l [.dat (.list l),.own (.list []),.un]) _).1=_
  rw[hfor]
  rfl
noncomputable def my:List Str:=[ofString "first_args",ofString "second_args",ofString "first_unhashable",ofString "second_unhashable",ofString "t",ofString "elem"]
theorem xK:∀(xs t:List PyData) (a b c d z:SV),∃t' z',bC (dB 4 5 (.bool false)) xs [a,b,c,d,.own (.list t),z]=(match gx xs t with | some _=>.next | none=>.ret (.bool false),[a,b,c,d,.own (.list t'),z'])/\∀r,gx xs t=some r->t'=r
 | [],t,a,b,c,d,z=>⟨t,z,rfl,fun r h=>by cases h;rfl⟩
 | x::xs,t,a,b,c,d,z=>by
  rw[lT]
  have e:dB 4 5 (.bool false) x [a,b,c,d,.own (.list t),z]=(match cP x t with | some r=>(.next,[a,b,c,d,.own (.list r),.dat x]) | none=>(.ret (.bool false),[a,b,c,d,.own (.list t),.dat x])):=by
   unfold dB
   show(match cP x t with | some r=>_ | none=>_)=_
   cases cP x t<;>rfl
  rw[e]
  rw[sx]
  cases hr:cP x t with
  | none=>exact⟨t,.dat x,rfl,fun r h=>by cases h⟩
  | some r=>exact xK xs r a b c d (.dat x)
theorem xL{x:PyData}{t r:List PyData}(h:cP x t=some r):(∀y∈r,y∈t)/\r.length<=t.length:=by
 rw[r0]at h
 refine x12 (pT.mp h) fun j _ q=>?_;subst q
 exact⟨fun y hy=>List.mem_of_mem_eraseIdx hy,List.Sublist.length_le (List.eraseIdx_sublist ..)⟩
theorem xM:∀(xs t:List PyData) (a b c d z:SV),(∀x∈xs,b9 x)->i4 t->fK (fun d ρ=>bindP false [5] d/\r9 4 d ρ) (dB 4 5 (.bool false)) xs [a,b,c,d,.own (.list t),z]
 | [],_,_,_,_,_,_,_,_=>trivial
 | x::xs,t,a,b,c,d,z,hx,ht=>by
  rw[qX]
  refine⟨⟨rfl,trivial,hx x ag,sy ht.2,?_⟩,?_⟩
  ·show t.length<=_;have:=ht.1;lia
  ·have e:dB 4 5 (.bool false) x [a,b,c,d,.own (.list t),z]=(match cP x t with | some r=>(.next,[a,b,c,d,.own (.list r),.dat x]) | none=>(.ret (.bool false),[a,b,c,d,.own (.list t),.dat x])):=by
    unfold dB
    show(match cP x t with | some r=>_ | none=>_)=_
    cases cP x t<;>rfl
   rw[e]
   cases hr:cP x t with
   | none=>trivial
   | some r =>
    have:=xL hr
    exact xM xs r a b c d (.dat x) (fun y hy=>hx y (ar _ hy)) ⟨ae this.2 ht.1,fun y hy=>ht.2 y (this.1 y hy)⟩
theorem E0(ds:List PyData)(h:kD.pre ds):ds.length=2/\aM [fS] sA (aY my ds)/\(av [fS] sA (aY my ds)).1=.ret (kD.val ds):=by
 refine x23 h fun a b e2 ha hb=>?_;subst e2
 have e:aY my [.list a,.list b]=[.dat (.list a),.dat (.list b),.un,.un,.un,.un]:=rfl
 rw[e]
 have la:=xG ha
 have lb:=xG hb
 refine x22 (xK (ba [] a) (ba [] b) (.dat (.list a)) (.dat (.list b)) (.dat (.list (ba [] a))) (.dat (.list (ba [] b))) .un) fun t' z' hz ht'=>?_
 refine⟨rfl,⟨⟨⟨trivial,trivial⟩,a,rfl,ha⟩,fun ρ1 h1=>?_⟩,?_⟩
 ·cases h1
  refine⟨⟨⟨trivial,trivial⟩,b,rfl,hb⟩,fun ρ1 h1=>?_⟩
  cases h1
  refine⟨⟨trivial,_,rfl,ae lb.1 (by decide)⟩,fun ρ1 h1=>?_⟩
  cases h1
  refine⟨⟨⟨trivial,trivial⟩,by show 5<6;decide,xM (ba [] a) (ba [] b) _ _ _ _ _ la.2 lb⟩,fun ρ1 h1=>?_⟩
  have h1:bC (dB 4 5 (.bool false)) (ba [] a) [.dat (.list a),.dat (.list b),.dat (.list (ba [] a)),.dat (.list (ba [] b)),.own (.list (ba [] b)),.un]=(.next,ρ1):=h1
  rw[hz]at h1
  cases hr:gx (ba [] a) (ba [] b)with
  | none=>rw[hr]at h1;cases h1
  | some r =>
   rw[hr]at h1
   cases h1
   refine⟨⟨trivial,?_⟩,fun U U=>trivial⟩
   have:=ht' r hr
   subst this
   have hlen:∀(xs t r:List PyData),gx xs t=some r->r.length<=t.length:=fun xs=>by
    induction xs with
    | nil=>intro t r h;cases h;exact aL _
    | cons x xs ih =>
     intro t r h
     rw[sx]at h
     refine x12 (Option.bind_eq_some_iff.mp h) fun q hq h=>?_
     exact ae (ih q r h) (xL hq).2
   show t'.length<=_
   have:=hlen _ _ _ hr
   have:=lb.1
   lia
 ·show(dw (bC (dB 4 5 (.bool false)) (ba [] a) [.dat (.list a),.dat (.list b),.dat (.list (ba [] a)),.dat (.list (ba [] b)),.own (.list (ba [] b)),.un]) _).1=.ret (.bool (mw (ba [] a) (ba [] b)))
  rw[hz]
  unfold mw
  cases hr:gx (ba [] a) (ba [] b)with
  | none=>rfl
  | some r =>
   have:=ht' r hr
   subst this
   cases t'<;>rfl
section
variable{prog:Program}{w:World}{A:Around}{E:Value->Shared->Prop}{h:Heap}{g:Array GenState}{dr:Drawn}{tk:Nat}{os:OsState}
theorem xN{d:Addr}{f:Int->Option Value}{c:Nat}{x:Str}{t:Tok}{Q:Builtin.Str.Mapped->Shared->Prop}(hm:h.IntMap d f)(hf:f c=some (.str x t))(hq:Q (.text x) ⟨h,g,dr,tk+1+1,os⟩) :
 wpAny (model prog w) A (Builtin.Str.tableLookup (.ref d) c) Q E ⟨h,g,dr,tk,os⟩:=by
 unfold Builtin.Str.tableLookup
 refine wpAny_bind (wpAny_attempt (wpAny_bind (wpAny_mkInt ?_)))
 refine wpAny_getItem_intMap (s:=⟨h,g,dr,tk+1,os⟩) hm hf ?_
 show wpAny _ _ (asInt? (.str x t) >>= _) _ _ _
 refine wpAny_bind (m:=asInt? (.str x t)) (wpAny_of_eq (a:=none) (by first | rfl | kernel_rfl) ?_)
 refine wpAny_bind (m:=asStr? (.str x t)) (wpAny_of_eq (a:=some x) (by first | rfl | kernel_rfl) ?_)
 exact wpAny_pure hq
theorem E1{d:Addr}{f:Int->Option Value}{c:Nat}{x:Str}{t u:Tok}{R:Result->Shared->Prop}(hc:c<128)(hx:x.length=2)(hm:h.IntMap d f)(hf:f c=some (.str x t))(hq:R (.ok (.ret (.str x (tk+4)))) ⟨h,g,dr,tk+5,os⟩) :
 wpAny (model prog w) A.in1 (Builtin.«str.translate» ⟨[.str ⟨#[c]⟩ u,.ref d],[]⟩) (fun fin s'=>match fin with | .done f=>R (.ok f) s' | .again c'=>c'.quiet=true/\codeAny (model prog w) A c' R s') (fun e s'=>R (.error e) s') ⟨h,g,dr,tk,os⟩:=by
 unfold Builtin.«str.translate»
 refine wpAny_bind (m:=Builtin.Str.strOneArg "translate" ⟨[.str ⟨#[c]⟩ u,.ref d],[]⟩) (wpAny_of_eq (a:=(.str ⟨#[c]⟩ u,⟨#[c]⟩,.ref d)) (by first | rfl | kernel_rfl) ?_)
 dsimp only
 have h0:¬((({ cps:=#[c] }:Str).length==0)=true):=by show ¬((1==0)=true);decide
 have hall:(#[c].all fun x=>decide (x<128))=true:=by simp[hc]
 rw[if_neg h0,hall,<- Array.forIn_toList]
 have tl0:¬(Builtin.Str.tooLong 0=true):=by decide
 have hne:(x.length==1&&x.cps.all fun x=>decide (x<128))=false:=by rw[hx];rfl
 refine wpAny_bind ?_
 show wpAny _ _ (forIn [c] _ _) _ _ _
 rw[ug]
 refine wpAny_bind ?_
 rw[if_neg tl0,if_pos rfl]
 show wpAny _ _ (Builtin.Str.tableLookup (.ref d) c >>= _) _ _ _
 refine wpAny_bind (xN hm hf ?_)
 dsimp only
 rw[hne,if_neg Kr]
 refine wpAny_bind (wpAny_pure ?_)
 dsimp only
 refine wpAny_bind (wpAny_rule ?_)
 refine wpAny_bind (xN hm hf ?_)
 dsimp only
 refine wpAny_pure ?_
 dsimp only
 rw[List.forIn_nil]
 refine wpAny_pure ?_
 dsimp only
 have tl2:¬(Builtin.Str.tooLong (0+x.length)=true):=by rw[hx];decide
 rw[if_neg tl2]
 have hcat:(⟨([x].reverse.foldl (fun acc p=>acc++p.cps) #[])⟩:Str)=x:=by
  show(⟨#[]++x.cps⟩:Str)=x
  rw[Array.empty_append]
 rw[hcat]
 unfold retStr
 refine wpAny_bind (wpAny_mkStr ?_ (by rw[hx,sizeLine_eq];decide))
 exact wpAny_pure hq
end
noncomputable def ie:Str:=ofString "pattern"
noncomputable def E2:Str:=ofString "translate"
noncomputable def sD:Str:=ofString "_special_chars_map"
noncomputable def sE:Str:=ofString "isinstance"
noncomputable def sF:Str:=ofString "str"
noncomputable def xO(P:Nat->Pos)(u1:List Stmt)(u2:List Stmt)(u3:List Stmt):List Stmt:=.If (.Call (.Name sE (P 0)) [.Name ie (P 1),.Name sF (P 2)] [] (P 3)) (.Return (some (.Call (.Attribute (.Name ie (P 4)) E2 (P 5)) [.Name sD (P 6)] [] (P 7))) (P 8)::u1) u2 (P 9)::u3
inductive isEsc(sc:Scope)(b:List Stmt):Prop where
 | mk (h1:b=xO pV AP AQ AR) (h2:((pV 5).endLine==(pV 7).line)=true) (h3:bK sc sE=true) (h4:bK sc sF=true) (h5:bK sc sD=true):isEsc sc b
noncomputable def i5(c:Nat):Str:=⟨#[92,c]⟩
noncomputable def pg:List Nat:=[43,45,46]
noncomputable def bM:FEntry:=⟨ofString "escape",1,fun ds=>∃c∈pg,ds=[.str ⟨#[c]⟩],fun ds=>.str (i5 ((dq (ds.getD 0 .none)).cps.getD 0 0))⟩
section
variable{G:Glo}
structure EscInfo(G:Glo)(a scm:Addr)(fd:FuncData)(body:List Stmt)(f:Int->Option Value):Prop where
 nm:G.mg bM.name=some (.ref a)
 FI:FnInfo G a fd body [ie] [ie]
 bind:∀vs:List Value,vs.length=1->bindArgs fd ⟨vs,[]⟩=pure ([ie].zip vs)
 bd:isEsc fd.scope body
 gs:G.mg sD=some (.ref scm)
 mp:G.hB.IntMap scm f
 at_:∀c∈pg,∃t,f (c:Int)=some (.str (i5 c) t)
theorem E4:isSubtype (.type "str") (.type "str")=pure true:=by rw[isSubtype_type];kernel_rfl
theorem E5:typeOf (.type "str")=pure (.type "type"):=by kernel_rfl
theorem E6{h h':Heap}{d:Addr}{f:Int->Option Value}(m:h.IntMap d f)(k:∀b o,h.get? b=some o->h'.get? b=some o):h'.IntMap d f :=
 m.elim fun o ζ=>ζ.elim fun es ζ=>ζ.elim fun ep ζ=>ζ.elim fun ho r=>⟨o,es,ep,k _ _ ho,r⟩
theorem E7{a scm:Addr}{fd:FuncData}{body:List Stmt}{f:Int->Option Value}(wf:G.Wf)(I:EscInfo G a scm fd body f):aN G bM:=by
 refine x12 I.FI.at_ fun o e2 hd=>?_
 refine⟨a,o,fd,I.nm,e2,hd,fun A s O vs ds E R ok B r hp=>?_⟩
 refine x12 hp fun c hc e2=>?_;subst e2
 have hvl:vs.length=1:=by rw[r.length];rfl
 refine wpAny_call (kj (s:=s) (O:=O) (ys:=[.dat (.str ⟨#[c]⟩)]) wf I.FI ok B (oX r) hvl rfl (R.fits (aW _)) (I.bind vs hvl) fun env O' s₁ k1 hO1 hO2 hSt hsto C E' Qf hret hnx=>?_)
 have bd:=I.bd
 obtain⟨hb,b3,b1,b2,b4⟩:=bd
 rw[hb]
 unfold xO
 have hctx:([ie].map some)[0]? = some (some ie):=rfl
 have hdb:(ie==ofString "__debug__")=false:=by decide +kernel
 have hrho:(ck [ie] [SV.dat (.str ⟨#[c]⟩)]).getD 0 .un=.dat (.str ⟨#[c]⟩):=rfl
 refine x11 (I.at_ c hc) fun t ht=>?_
 refine wpAny_execs_cons (wpAny_If ?_)
 rw[j5 rfl]
 refine wpAny_bind (dv (fun y hy=>by simp only[aa,bz,or_false]at hy;rcases hy with rfl | rfl<;>rfl) (gm wf C.eo C.base b1 (v:=.builtin "isinstance") (by simp[bQ,sE]) ?_))
 refine Calls.callWith_builtin (fG _) (Calls.evalArgs_plain (Calls.spliced_cons (di C hctx hdb hrho fun v rv=>Calls.spliced_cons (gm wf C.eo C.base b2 (v:=.type "str") (by simp[bQ,sF]) (Calls.spliced_nil ?_)))))
 cases rv with
 | str _ u =>
 refine call_isinstance (isinstance_true E5 E4) ⟨typeIs_str _ _ _,?_⟩
 refine wpAny_bind (wpAny_standAt (wpAny_holding (wpAny_truthy_bool ?_)))
 refine wpAny_execs_cons (wpAny_Return_some ?_)
 refine Call_method1 rfl (gZ rfl) (by simpa using b3) (di C hctx hdb hrho fun v rv=>?_)
 cases rv with
 | str _ u =>
 refine⟨"str", "str.translate",F.plainAttrs_str,F.slot_str_translate,F.type_str_translate,typeIs_str _ _ _,(fun b e=>by cases e),?_⟩
 have hmp:s₁.heap.IntMap scm f:=E6 I.mp C.base.kp
 refine seqMethod1_meets F.slot_str_translate F.entry_str_translate (gU wf C.eo C.base b4 (by decide +kernel) I.gs ⟨typeIs_str _ _ _,F.args_str_translate_2 _ _,(fun U R s'=>s'.heap.IntMap scm f/\R (.ok (.ret (.str (i5 c) (s'.toks+4)))) { s' with toks:=s'.toks+5 }),fun prog w A R s' h=>?_,hmp,?_⟩)
 ·obtain⟨hh,g,dr,tk,os⟩:=s'
  exact E1 (f:=f) (x:=i5 c) (t:=t) (by simp[pg]at hc;lia) rfl h.1 ht h.2
 ·refine hret _ _ ⟨aQ k1 (aw s₁ (s₁.toks+5)),?_⟩
  have:bM.val [.str ⟨#[c]⟩]=.str (i5 c):=rfl
  rw[this]
  exact .str _ _
end
end
section
open PySem PySem.W PyProof.Rows PySem.Spec PySem.SeqAt PySem.Calls
namespace B
theorem lk_l_append:typeLookup (.type "list") "append" = pure (some (.builtin "list.append")):=by rw[typeLookup_type,builtinLookup_eq_fast];kernel_rfl
theorem slot_md_get:Slot "method_descriptor" "__get__" "method_descriptor.__get__" :=
 .of (owner:= "method_descriptor") (n:= "__get__") (by rw[typeLookup_type,builtinLookup_eq_fast];kernel_rfl) (by decide +kernel) (by decide +kernel) (by decide +kernel)
  (by first | exact .inl (by decide +kernel) | exact .inr (by decide +kernel)) (by rw[isSubtype_type];kernel_rfl)
theorem no_md_set:typeLookup (.type "method_descriptor") "__set__" = pure none:=by rw[typeLookup_type,builtinLookup_eq_fast];kernel_rfl
theorem no_md_del:typeLookup (.type "method_descriptor") "__delete__" = pure none:=by rw[typeLookup_type,builtinLookup_eq_fast];kernel_rfl
theorem entry_md_get:entryFor table "method_descriptor.__get__" = some Builtin.«method_descriptor.__get__»:=entryFor_of_tree (by kernel_rfl)
theorem args_md_get(a b c:Value):argsOk "method_descriptor.__get__" ⟨[a,b,c],[]⟩:=by unfold argsOk;kernel_rfl
theorem typeOf_l_append:typeOf (.builtin "list.append")=pure (.type "method_descriptor"):=by kernel_rfl
theorem sub_l_owner:isSubtype (.type "list") (.type (".".intercalate ("list.append".cutAt '.').dropLast))=pure true:=by
 have e0 : "list.append".cutAt '.'=["list", "append"]:=by first | rfl | decide +kernel
 rw[e0,isSubtype_type];kernel_rfl
theorem Kq:typeLookup (.type "list") "__getattr__" = pure none:=by rw[typeLookup_type,builtinLookup_eq_fast];kernel_rfl
end B
section
variable{prog:Program}{w:World}{A:Around}{E:Value->Shared->Prop}{h:Heap}{g:Array GenState}{d:Drawn}{t:Nat}{os:OsState}{a:Addr}{o:Obj}
theorem E8{R:Result->Shared->Prop}(hx:h.get? a=some o)(hc:o.cls=.type "list") (hq:R (.ok (.ret (.ref h.objs.size))) ⟨h.push (cn "builtin_function_or_method" "list.append" a),g,d,t,os⟩) :
 codeAny (model prog w) A (.call (.builtin "method_descriptor.__get__") ⟨[.builtin "list.append",.ref a,.type "list"],[]⟩) R ⟨h,g,d,t,os⟩:=by
 have hT:(⟨h,g,d,t,os⟩:Shared).TypeIs (.ref a) "list":=⟨_,hx,hc⟩
 have hT5:(⟨h,g,d,t,os⟩:Shared).TypeIs (.builtin "list.append") "method_descriptor":=B.typeOf_l_append
 have f8:=B.sub_l_owner
 refine codeAny_call_builtin B.slot_md_get.plain B.entry_md_get (B.slot_md_get.check _ _ _ _ _ _ _ _ hT5 (B.args_md_get _ _ _) ?_)
 repeat (any_goals (first | assumption | wp_step))
theorem E9{tk:Tok}{vs:Array Value}{n:Nat}{Q:Fin->Shared->Prop}(hx:h.get? a=some { cls:=.type "list",data:=.seq vs n }) (hq:Q (.done (.ret (.ref h.objs.size))) ⟨h.push (cn "builtin_function_or_method" "list.append" a),g,d,t,os⟩) :
 wpAny (model prog w) A (Builtin.«object.__getattribute__» ⟨[.ref a,.str "append" tk],[]⟩) Q E ⟨h,g,d,t,os⟩:=by
 have hT:(⟨h,g,d,t,os⟩:Shared).TypeIs (.ref a) "list":=⟨_,hx,rfl⟩
 have hT5:(⟨h,g,d,t,os⟩:Shared).TypeIs (.builtin "list.append") "method_descriptor":=B.typeOf_l_append
 have f4:=B.lk_l_append
 have f5:=B.typeOf_l_append
 have f6:=B.slot_md_get.lookup
 have f7:=B.no_md_set
 have f8:=B.no_md_del
 repeat (any_goals (first | assumption | wp_step))
 refine E8 hx rfl ?_
 repeat (any_goals (first | assumption | wp_step))
theorem Fa{tk:Tok}{vs:Array Value}{n:Nat}{R:Result->Shared->Prop}(hx:h.get? a=some { cls:=.type "list",data:=.seq vs n }) (hq:R (.ok (.ret (.ref h.objs.size))) ⟨h.push (cn "builtin_function_or_method" "list.append" a),g,d,t,os⟩) :
 codeAny (model prog w) A (.call (.builtin "list.__getattribute__") ⟨[.ref a,.str "append" tk],[]⟩) R ⟨h,g,d,t,os⟩ :=
 codeAny_call_builtin F.slot_list_getattribute.plain am_entry_list_getattribute (F.slot_list_getattribute.check _ _ _ _ _ _ _ _ (show(⟨h,g,d,t,os⟩:Shared).TypeIs (.ref a) "list" from⟨_,hx,rfl⟩) (F.args_list_getattribute_2 _ _) (E9 hx hq))
theorem Fb{vs:Array Value}{n:Nat}{Q:Value->Shared->Prop}(hx:h.get? a=some { cls:=.type "list",data:=.seq vs n }) (hq:Q (.ref h.objs.size) ⟨h.push (cn "builtin_function_or_method" "list.append" a),g,d,t+1,os⟩) :
 wpAny (model prog w) A (getAttr (.ref a) "append" true) Q E ⟨h,g,d,t,os⟩:=by
 have hT:∀tk',(⟨h,g,d,tk',os⟩:Shared).TypeIs (.ref a) "list":=fun U=>⟨_,hx,rfl⟩
 have f2:=F.slot_list_getattribute.lookup
 have f3:=F.slot_list_getattribute.bind (.ref a)
 have f5:=am_list_getattr_none
 unfold getAttr getAttrBy
 repeat (any_goals (first | assumption | exact hT _ | wp_step))
 refine Fa hx ?_
 repeat (any_goals (first | assumption | exact hT _ | wp_step))
end
namespace B
theorem kind_append:builtinKind "list.append" = some .method:=by kernel_rfl
theorem plain_append:plainId "list.append" = true:=by decide +kernel
theorem sig_append:∃sig,Manifest.signature? "list.append" = some sig:=by
 have h:(Manifest.signature? "list.append").isSome=true:=by decide +kernel
 exact jO.mp h
theorem no_va:Manifest.varargsMethods.contains "list.append" = false:=by decide +kernel
theorem sub_l_mod:isSubtype (.type "list") (.type "module")=pure false:=by rw[isSubtype_type];kernel_rfl
theorem sub_l_type:isSubtype (.type "list") (.type "type")=pure false:=by rw[isSubtype_type];kernel_rfl
end B
section
variable{prog:Program}{w:World}{A:Around}{E:Value->Shared->Prop}{h:Heap}{g:Array GenState}{d:Drawn}{t:Nat}{os:OsState}{a:Addr}
theorem Fc{vs:Array Value}{n:Nat}{v:Value}{Q:Unit->Shared->Prop}(hx:h.get? a=some { cls:=.type "list",data:=.seq vs n }) (hq:Q () ⟨h,g,d,t,os⟩):wpAny (model prog w) A (checkBoundCall "list.append" ⟨[.ref a,v],[]⟩) Q E ⟨h,g,d,t,os⟩:=by
 have hT:(⟨h,g,d,t,os⟩:Shared).TypeIs (.ref a) "list":=⟨_,hx,rfl⟩
 have f1:=B.sub_l_mod
 have f2:=B.sub_l_type
 refine x11 B.sig_append fun sig hs=>?_
 unfold checkBoundCall
 rw[hs,B.kind_append]
 dsimp only
 rw[B.no_va]
 rw[if_neg (show ¬((Manifest.AttrKind.method != Manifest.AttrKind.method&&Manifest.AttrKind.method != Manifest.AttrKind.classMethod)=true)from by decide)]
 have key:(match Manifest.signature? "list.append" with | some sig=>Bind.checkArgs "list.append" { sig with full:=toString (Bind.lastOf "list")++toString "."++toString (Bind.lastOf "list.append") } ⟨[.ref a,v],[]⟩ | none=>pure ())=pure ():=by kernel_rfl
 rw[hs]at key
 dsimp only at key
 have tail:wpAny (model prog w) A (Bind.checkArgs "list.append" { sig with full:=toString (Bind.lastOf "list")++toString "."++toString (Bind.lastOf "list.append") } ⟨[.ref a,v],[]⟩) Q E ⟨h,g,d,t,os⟩:=by rw[key];exact wpAny_pure hq
 generalize hrest:Bind.checkArgs "list.append" { sig with full:=toString (Bind.lastOf "list")++toString "."++toString (Bind.lastOf "list.append") } ⟨[.ref a,v],[]⟩=rest at tail
 repeat (any_goals (first | assumption | wp_step))
theorem Fd{m l:Addr}{vs:Array Value}{n:Nat}{v:Value}{s:Shared}{Q:Value->Shared->Prop}(hm:s.heap.get? m=some (cn "builtin_function_or_method" "list.append" l)) (hl:IsL s.heap l vs n) (hz:vs.size<=sizeLine)
 (hQ:∀h' n',IsL h' l (vs.push v) n'->Heap.SameBut l s.heap h'->Q .none { s with heap:=h' }):wpAny (model prog w) A (call (.ref m) [v]) Q E s:=by
 refine wpAny_call (codeAny_of_tree ?_)
 show wpAny _ A.in1 (load m >>= _) _ _ s
 refine wpAny_bind (wpAny_load hm ?_)
 show wpAny _ A.in1 (checkBoundCall "list.append" ⟨[.ref l,v],[]⟩ >>= fun U=>again (.builtin "list.append" ⟨[.ref l,v],[]⟩)) _ _ s
 refine wpAny_bind (Fc hl ?_)
 refine wpAny_pure ⟨plainId_quiet B.plain_append _,codeAny_builtin F.entry_list_append ?_⟩
 rw[Around.under_plainId B.plain_append]
 refine PySem.AutoListH.list_append_list_val_0 l vs n v hz prog w A (fun r s'=>match r with | .ok (.ret v)=>Q v s' | .ok _=>False | .error e=>E e s') s ⟨hl,?_⟩
 exact hQ _ _ (IsL.update hl _) (Heap.SameBut.update ..)
theorem Fe{M:Model}{m l:Addr}{h:Heap}(hm:h.get? m=some (cn "builtin_function_or_method" "list.append" l)):Looks M h (keeperOf (.ref m)) .machine:=(Looks.ld (part:=none) hm).andThen .now
theorem Fg{m l:Addr}{pos:Pos}{s:Shared}{Q:Value->Shared->Prop}{x:Sem Value}(h:wpAny (model prog w) A x (fun v s₁=>s₁.heap.get? m=some (cn "builtin_function_or_method" "list.append" l)/\∃vs n,IsL s₁.heap l vs n/\vs.size<=sizeLine /\
 ∀h' n',IsL h' l (vs.push v) n'->Heap.SameBut l s₁.heap h'->Q .none { s₁ with heap:=h' }) E s):wpAny (model prog w) A (callWith pos (.ref m) [] [(false,x)] []) Q E s:=by
 refine callWith_of (P:=fun h=>h.get? m=some (cn "builtin_function_or_method" "list.append" l)) rfl (fun h hp=>⟨.machine,.inr (.inl rfl),Fe hp⟩) (Calls.evalArgs_plain (Calls.spliced_cons (wpAny_mono h (fun v s₁ h₁=>Calls.spliced_nil ?_) fun U U e=>e)))
 obtain⟨hm,vs,n,hl,hz,hq⟩:=h₁
 exact⟨hm,Fd hm hl hz hq⟩
end
inductive StrsAre:List Value->List Str->Prop where
 | nil:StrsAre [] []
 | cons {x:Str} {t:Tok} {vs:List Value} {xs:List Str} (r:StrsAre vs xs):StrsAre (.str x t::vs) (x::xs)
theorem StrsAre.snoc{y:Str}{u:Tok}:∀ {vs:List Value} {xs:List Str},StrsAre vs xs->StrsAre (vs++[.str y u]) (xs++[y])
 | _,_,.nil=>.cons .nil
 | _,_,.cons r=>.cons r.snoc
theorem StrsAre.len:∀ {vs:List Value} {xs:List Str},StrsAre vs xs->vs.length=xs.length
 | _,_,.nil=>rfl
 | _,_,.cons r=>by simp[r.len]
theorem StrsAre.rep{O:Addr->Prop}{h:Heap}:∀ {vs:List Value} {xs:List Str},StrsAre vs xs->RepL O h vs (xs.map PyData.str)
 | _,_,.nil=>.nil
 | _,_,.cons r=>.cons (.str _ _) r.rep
section
variable{G:Glo}{Φ:List FEntry}
structure TI(G:Glo)(env:Env)(sc:Scope)(ctx:List (Option Str))(A:Around)(ir ia:Nat)(a m:Addr)(s₀:Shared)(O:Addr->Prop)(ρ:List SV)(xs:List Str)(s:Shared):Prop where
 C:Cond G env sc ctx A O (fun U=>none) ρ s
 oa:O a
 sa:¬aT env a
 hr:ρ.getD ir .un=.val (.ref a)
 ha:ρ.getD ia .un=.val (.ref m)
 om:¬O m
 hm:s.heap.get? m=some (cn "builtin_function_or_method" "list.append" a)
 hl:∃arr n,IsL s.heap a arr n/\StrsAre arr.toList xs
 km:KM (fun b=>aT env b\/b=a) s₀ s
 na:s₀.heap.get? a=none
variable{env:Env}{sc:Scope}{ctx:List (Option Str)}{A:Around}{ir ia:Nat}{a m:Addr}{s₀ s s':Shared}{O:Addr->Prop}{ρ:List SV}{xs:List Str}{E:Value->Shared->Prop}
theorem TI.keeps(wf:G.Wf)(I:TI G env sc ctx A ir ia a m s₀ O ρ xs s)(k:Keeps s s'):TI G env sc ctx A ir ia a m s₀ O ρ xs s' :=
 ⟨I.C.keeps wf k,I.oa,I.sa,I.hr,I.ha,I.om,al k _ _ I.hm,I.hl.elim fun arr ζ=>ζ.elim fun n ζ=>ζ.elim fun h r=>⟨arr,n,al k _ _ h,r⟩,I.km.trans (KM.of k),I.na⟩
theorem TI.frame(I:TI G env sc ctx A ir ia a m s₀ O ρ xs s){ρ':List SV}(k:KM (a9 env) s s')(C':Cond G env sc ctx A O (fun U=>none) ρ' s')(e1:ρ'.getD ir .un=.val (.ref a))(e2:ρ'.getD ia .un=.val (.ref m)):TI G env sc ctx A ir ia a m s₀ O ρ' xs s' :=
 ⟨C',I.oa,I.sa,e1,e2,I.om,k.get _ _ (fun q=>I.om (I.C.fr _ q)) I.hm,I.hl.elim fun arr ζ=>ζ.elim fun n ζ=>ζ.elim fun h r=>⟨arr,n,k.get _ _ (fun q=>I.sa q.store) h,r⟩,I.km.trans (k.mono fun b q=>.inl q.store),I.na⟩
theorem TI.asg{i:Nat}{x:Str}{e:IX}{v:Expr}{p pos:Pos}{Q:Flow->Shared->Prop}(wf:G.Wf)(hF:∀F∈Φ,aN G F)(hsto:∀i,bu env ctx i)(I:TI G env sc ctx A ir ia a m s₀ O ρ xs s)(hi:ctx[i]? = some (some x))(hk:aS sc x=true)(hc:chk Φ e sc ctx v=true)(hsw:swapsWith v (some (.Name x p)) pos.line env=pure false)(R:aJ (kx Φ e) A)(hp:pre Φ e false ρ)(h1:i≠ir)(h2:i≠ia)
 (h:∀s',TI G env sc ctx A ir ia a m s₀ O (ρ.set i (.dat (den Φ e ρ))) xs s'->Q .next s'):wpAny (model G.prog G.w) A (exec (.Assign [.Name x p] v pos) env) Q E s:=by
 refine wpAny_Assign_stores (wpAny_mono ((snd wf hF e).ev sc ctx v false env A O _ ρ s E hc I.C R hp) (fun u s₁ h₁=>?_) fun U U x=>x) hsw rfl
 have I1:=I.keeps wf h₁.1
 show wpAny _ A (assign (.Name x p) env u) _ _ s₁
 exact jv wf (hsto i) I1.C hi hk h₁.2.ff fun s' k C'=>h s' (I1.frame k C' (by rw[c6,if_neg fun q=>h1 q.1];exact I.hr) (by rw[c6,if_neg fun q=>h2 q.1];exact I.ha))
theorem TI.add{x:Str}{np cp pos:Pos}{e:IX}{v:Expr}{y:Str}{Q:Flow->Shared->Prop}(wf:G.Wf)(hF:∀F∈Φ,aN G F)(I:TI G env sc ctx A ir ia a m s₀ O ρ xs s)(hi:ctx[ia]? = some (some x))(hd:(x==ofString "__debug__")=false) (hc:chk Φ e sc ctx v=true) (R:aJ (kx Φ e) A) (hp:pre Φ e false ρ) (hy:den Φ e ρ=.str y) (hz:xs.length<=1000)
 (h:∀s',TI G env sc ctx A ir ia a m s₀ O ρ (xs++[y]) s'->Q .next s'):wpAny (model G.prog G.w) A (exec (.Expr (.Call (.Name x np) [v] [] cp) pos) env) Q E s:=by
 have hint:interactive env=false:=by unfold interactive;rw[I.C.eo.kindS];rfl
 refine wpAny_Expr (dv (fun b hb=>by rw[ai.mp hb];exact eZ e hc) (fL I.C hi hd I.ha ?_)) hint rfl
 refine Fg (l:=a) (wpAny_mono ((snd wf hF e).ev sc ctx v false env A O _ ρ s E hc I.C R hp) (fun u s₁ h₁=>?_) fun U U x=>x)
 have I1:=I.keeps wf h₁.1
 refine x22 I1.hl fun arr n hl hs=>?_
 have rv:=h₁.2.ff
 rw[hy]at rv
 cases rv with
 | str _ t =>
 have hlen:arr.size=xs.length:=by rw[<- cj];exact hs.len
 refine⟨I1.hm,arr,n,hl,by rw[hlen,sizeLine_eq];lia,fun h' n' hl' hsb=>?_⟩
 have k:KM (· = a) s₁ { s₁ with heap:=h' }:=KM.chg (t:=s₁.toks) hsb.extBut ⟨_,hl'⟩ rfl
 have C':=I1.C.outer wf k (fun b q=>q▸I1.oa) fun b q=>q▸I1.sa
 refine h _ ⟨C',I1.oa,I1.sa,I1.hr,I1.ha,I1.om,k.get _ _ (fun q=>I1.om (q▸I1.oa)) I1.hm,⟨_,n',hl',by rw[Array.toList_push];exact hs.snoc⟩,I1.km.trans (k.mono fun b q=>.inr q),I1.na⟩
end
section
variable{G:Glo}{Φ:List FEntry}
theorem eG.of{O:Addr->Prop}{ω:Addr->Option Nat}{h:Heap}:∀ {slots:List Nat} {vs:List Value} {ds:List PyData},slots.length=ds.length->RepL O h vs ds->eG G O ω h slots vs (ds.map .dat)
 | [],_,[],_,.nil=>trivial
 | _::_,_,_::_,hl,.cons r l=>⟨⟨_,rfl,r⟩,eG.of (by simpa using hl) l⟩
 | [],_,_::_,hl,_=>nomatch hl
 | _::_,_,[],hl,_=>nomatch hl
theorem xP{env:Env}{sc:Scope}{ctx:List (Option Str)}{A:Around}{O:Addr->Prop}{ω:Addr->Option Nat}{ρ:List SV}{s:Shared}{E:Value->Shared->Prop}{slots:List Nat}{es:IX}{ts vs:List Expr}{k k':Nat}{p p' pos:Pos}{Q:Flow->Shared->Prop}(wf:G.Wf)(hF:∀F∈Φ,aN G F)
 (hn:eD sc ctx slots ts=true) (he:b0 Φ es sc ctx vs=true) (hsafe:iT vs=true) (hnd:slots.Nodup) (hlen:slots.length=(bV Φ es ρ).length) (hsz:(bV Φ es ρ).length<=16777216) (hsto:∀i,bu env ctx i) (C:Cond G env sc ctx A O ω ρ s) (R:aJ (kx Φ es) A) (hp:eC Φ es ρ)
 (hQ:∀s',KM (a9 env) s s'->Cond G env sc ctx A O ω (dA ρ (slots.zip ((bV Φ es ρ).map .dat))) s'->Q .next s'):wpAny (model G.prog G.w) A (exec (.Assign [.Tuple ts k p] (.Tuple vs k' p') pos) env) Q E s:=by
 refine ri (ρ:=ρ) wf hsto hn (j6 es he) hsafe hnd (wpAny_mono ((snd wf hF es).ls sc ctx vs env A O ω ρ s E he C R hp) (fun us s₁ h₁=>?_) fun U U x=>x)
 exact⟨O,ω,_,by rw[af];exact hlen,h₁.2.length.symm▸hsz,C.keeps wf h₁.1,eG.of hlen h₁.2,fun s' k C'=>hQ s' ((KM.of h₁.1).trans k) C'⟩
end
noncomputable def dN:Str:=ofString "res"
noncomputable def fj:Str:=ofString "add"
noncomputable def sG:Str:=ofString "append"
section
variable{G:Glo}{Φ:List FEntry}{env:Env}{sc:Scope}{ctx:List (Option Str)}{A:Around}{ir ia:Nat}{s:Shared}{O:Addr->Prop}{ρ:List SV}{E:Value->Shared->Prop}
theorem TI.start{p1 p2 p3 p4 p5 q1 q2:Pos}{rest:List Stmt}{Q:Flow->Shared->Prop}(wf:G.Wf)(hsto:∀i,bu env ctx i)(C:Cond G env sc ctx A O (fun U=>none) ρ s)(hr:ctx[ir]? = some (some dN))(ha:ctx[ia]? = some (some fj))(kr:aS sc dN=true)(ka:aS sc fj=true)(hne:ir≠ia)(lr:ir<ρ.length)(la:ia<ρ.length)
 (h:∀a m O' s',TI G env sc ctx A ir ia a m s O' ((ρ.set ir (.val (.ref a))).set ia (.val (.ref m))) [] s'->(∀b,O b->O' b)->(∀b,O' b->O b\/s.heap.get? b=none)->wpAny (model G.prog G.w) A (execs rest env) Q E s') :
 wpAny (model G.prog G.w) A (execs (.Assign [.Name dN p1] (.List [] p2) q1::.Assign [.Name fj p3] (.Attribute (.Name dN p4) sG p5) q2::rest) env) Q E s:=by
 have kt:Keeps s { s with heap:=s.heap.push { cls:=.type "list",data:=.seq ([]:List Value).toArray } }:=bt _
 have hnone:s.heap.get? s.heap.objs.size=none:=Heap.get?_none_of_le (aL _)
 generalize hae:s.heap.objs.size=a at hnone
 have hla:IsL (s.heap.push { cls:=.type "list",data:=.seq ([]:List Value).toArray }) a #[] 0:=hae▸IsL.new _ _
 refine wpAny_execs_cons (wpAny_Assign_stores (wpAny_List (Calls.spliced_nil ⟨aW _,?_⟩)) rfl rfl)
 rw[hae]
 generalize hs1:({ s with heap:=s.heap.push { cls:=.type "list",data:=.seq ([]:List Value).toArray } }:Shared)=s1 at kt
 have hla:IsL s1.heap a #[] 0:=by rw[<- hs1];exact hla
 have C1:Cond G env sc ctx A (fun b=>O b\/b=a) (fun U=>none) ρ s1:=C.grow wf kt (fun b q=>.inl q) (fun b q=>q.elim .inl fun z=>.inr (z▸hnone)) fun b q=>q.elim (fun q=>(C.ok.obs b q).elim fun o e=>⟨o,al kt b o e⟩) fun z=>⟨_,z▸hla⟩
 have hsa:¬aT env a:=fun q=>by refine x11 (C.ok.obs a (C.store_O q)) fun o e=>?_;rw[hnone]at e;cases e
 show wpAny _ A (assign (.Name dN p1) env (.ref a)) _ _ s1
 refine wpAny_assign_Name (dJ (y:=.val (.ref a)) wf (hsto ir) C1 hr kr rfl fun s2 k2 C2=>?_)
 have hla2:IsL s2.heap a #[] 0:=k2.get _ _ (fun q=>hsa q.store) hla
 have hg1:(ρ.set ir (.val (.ref a))).getD ir .un=.val (.ref a):=by rw[c6,if_pos ⟨rfl,lr⟩]
 refine wpAny_execs_cons (wpAny_Assign_stores (gt C2 hr (by decide +kernel) hg1 ?_) rfl rfl)
 obtain⟨hh,g,d,t,os⟩:=s2
 refine Fb hla2 ?_
 have k3:Keeps ⟨hh,g,d,t,os⟩ ⟨hh.push (cn "builtin_function_or_method" "list.append" a),g,d,t+1,os⟩:=bt _
 have hmn:hh.get? hh.objs.size=none:=Heap.get?_none_of_le (aL _)
 have C3:=C2.keeps wf k3
 have hom:¬(O hh.objs.size\/hh.objs.size=a):=fun q=>by refine x11 (C2.ok.obs _ q) fun o e=>?_;rw[hmn]at e;cases e
 show wpAny _ A (assign (.Name fj p3) env (.ref hh.objs.size)) _ _ _
 refine wpAny_assign_Name (dJ (y:=.val (.ref hh.objs.size)) wf (hsto ia) C3 ha ka rfl fun s4 k4 C4=>?_)
 refine h a hh.objs.size (fun b=>O b\/b=a) s4 ⟨C4,.inr rfl,hsa,?_,?_,hom,k4.get _ _ (fun q=>hom (C3.fr _ q)) (Heap.get?_push_size _ rfl),⟨#[],0,k4.get _ _ (fun q=>hsa q.store) (al k3 _ _ hla2),.nil⟩,?_,hnone⟩ (fun b q=>.inl q) fun b q=>q.elim .inl fun z=>.inr (z▸hnone)
 ·rw[c6,if_neg fun q=>hne q.1.symm];exact hg1
 ·rw[c6,if_pos ⟨rfl,by rw[pJ];exact la⟩]
 ·exact(((KM.of kt).trans (k2.mono fun b q=>.inl q.store)).trans (KM.of k3)).trans (k4.mono fun b q=>.inl q.store)
end
noncomputable def jD:Str:=ofString "pat"
noncomputable def ei:Str:=ofString "STAR"
noncomputable def sH:Str:=ofString "QUESTION_MARK"
noncomputable def i6:Str:=ofString "i"
noncomputable def xQ:Str:=ofString "n"
noncomputable def xR:Str:=ofString "c"
noncomputable def fU:List Str:=[jD,ei,sH,dN,fj,i6,xQ,xR]
noncomputable def bR:List (Option Str):=fU.map some
noncomputable def xS:IX:=.sub (.var 0) (.var 5)
noncomputable def Fh:IX:=.bin .Add (.var 5) (.lit (.int 1))
noncomputable def sI:IX:=.cmp .Lt (.var 5) (.var 6)
noncomputable def xT:IX:=.cmp .Eq (.var 5) (.var 6)
noncomputable def kF(c:Nat):IX:=.cmp .Eq (.var 7) (.lit (.str ⟨#[c]⟩))
noncomputable def Fi:IX:=.call 0 (.cons (.var 7) .nil)
noncomputable def sJ:IX:=.cons (.lit (.int 0)) (.cons (.len (.var 0)) .nil)
noncomputable def xU(P:Nat->Pos)(v1:Expr)(v2:Expr)(t1:Expr)(u1:List Stmt)(t2:Expr)(g1:Expr)(t3:Expr)(u2:List Stmt)(g2:Expr):List Stmt:=[.Assign [.Name xR (P 0)] v1 (P 1),.Assign [.Name i6 (P 2)] v2 (P 3),.If t1 u1 [.If t2 [.Expr (.Call (.Name fj (P 4)) [g1] [] (P 5)) (P 6)] [.If t3 u2 [.Expr (.Call (.Name fj (P 7)) [g2] [] (P 8)) (P 9)] (P 10)] (P 11)] (P 12)]
inductive isTBody(sc:Scope)(b:List Stmt):Prop where
 | mk (h1:b=xU AJ qa qb ul AS um uo uq AT ur) (h2:chk [bM] xS sc bR qa=true) (h3:mt qa=true) (h4:chk [bM] Fh sc bR qb=true) (h5:mt qb=true) (h6:chk [bM] (kF 42) sc bR ul=true) (h7:chk [bM] (kF 63) sc bR um=true) (h8:chk [bM] (kF 91) sc bR uq=true) (h9:chk [bM] (.var 2) sc bR uo=true) (h10:chk [bM] Fi sc bR ur=true):isTBody sc b
noncomputable def xV(P:Nat->Pos)(ts:List Expr)(k1:Nat)(vs:List Expr)(k2:Nat)(t1:Expr)(body:List Stmt)(t2:Expr)(msg:Option Expr):List Stmt:=[.Assign [.Name dN (P 0)] (.List [] (P 1)) (P 2),.Assign [.Name fj (P 3)] (.Attribute (.Name dN (P 4)) sG (P 5)) (P 6),.Assign [.Tuple ts k1 (P 7)] (.Tuple vs k2 (P 8)) (P 9),.While t1 body [] (P 10),.Assert t2 msg (P 11),.Return (some (.Name dN (P 12))) (P 13)]
inductive isTrans(sc:Scope)(b:List Stmt):Prop where
 | mk (h1:b=xV AI ut AU qc AV qd uu qe AW) (h2:eD sc bR [5,6] ut=true) (h3:b0 [bM] sJ sc bR qc=true) (h4:iT qc=true) (h5:chk [bM] sI sc bR qd=true) (h6:isTBody sc uu) (h7:chk [bM] xT sc bR qe=true):isTrans sc b
noncomputable def gy:List Nat:=[43,45,46,63]
noncomputable def fk(q:Str)(c:Nat):Str:=if c=63 then q else i5 c
noncomputable def fV(star:Value)(a m:Addr)(q:Str)(cs:List Nat)(i:Nat)(c:SV):List SV:=[.dat (.str ⟨cs.toArray⟩),.val star,.dat (.str q),.val (.ref a),.val (.ref m),.dat (.int i),.dat (.int cs.length),c]
theorem sK{v:Expr}{x:Str}{p:Pos}{line:Nat}{env:Env}(h:mt v=true):swapsWith v (some (.Name x p)) line env=pure false:=by
 cases v<;>first | rfl | cases h
theorem ph(i:Int):b9 (.int i):=⟨rfl,by simp[PyData.depth]⟩
theorem xW:∀c∈[42,43,45,46,63,91],b9 (.str ⟨#[c]⟩):=by
 intro c hc
 simp at hc
 rcases hc with rfl | rfl | rfl | rfl | rfl | rfl<;>exact⟨by decide +kernel,by decide +kernel⟩
section
variable{G:Glo}
structure TrInfo(G:Glo)(a:Addr)(fd:FuncData)(body:List Stmt):Prop where
 FI:FnInfo G a fd body [jD,ei,sH] fU
 bind:∀vs:List Value,vs.length=3->bindArgs fd ⟨vs,[]⟩=pure ([jD,ei,sH].zip vs)
 bd:isTrans fd.scope body
theorem Fj{env:Env}{sc:Scope}{A:Around}{s₁ s:Shared}{O2:Addr->Prop}{E:Value->Shared->Prop}{Q:Flow->Shared->Prop}{star:Value}{a m:Addr}{q:Str}{cs:List Nat}{i:Nat}{c:SV}{xs:List Str}{body:List Stmt}(wf:G.Wf)(hF:∀F∈[bM],aN G F)(hsto:∀i,bu env bR i)(st:∀x∈fU,aS sc x=true)(Rd:aJ 2 A)
 (hb:isTBody sc body) (hlen:cs.length<=100) (hcs:∀c∈cs,c∈gy) (hlt:i<cs.length) (I4:TI G env sc bR A 3 4 a m s₁ O2 (fV star a m q cs i c) xs s) (hxs:xs.length=i)
 (h:∀s',TI G env sc bR A 3 4 a m s₁ O2 (fV star a m q cs (i+1) (.dat (.str ⟨#[cs[i]]⟩))) (xs++[fk q cs[i]]) s'->Q .next s'):wpAny (model G.prog G.w) A (execs body env) Q E s:=by
 have hctx:∀(i:Nat) (x:Str),fU[i]? = some x->bR[i]? = some (some x):=fun i x h=>by unfold bR;rw[bX,h];rfl
 obtain⟨hb2,d1,d2,d3,d4,d5,d6,d7,d8,d9⟩:=hb
 subst hb2
 unfold xU
 have hci:cs[i]∈gy:=hcs _ (List.getElem_mem hlt)
 generalize hcv:cs[i]=cv at hci h
 have hsub:den [bM] xS (fV star a m q cs i c)=.str ⟨#[cv]⟩:=by
  show lB (.str ⟨cs.toArray⟩) (.int i)=_
  show PyData.str ⟨#[cs.toArray.getD (bO (i:Int) (⟨cs.toArray⟩:Str).length) 0]⟩=_
  have h0:bO (i:Int) (⟨cs.toArray⟩:Str).length=i:=by unfold bO;rw[if_neg (by lia)];simp
  rw[h0]
  have:cs.toArray.getD i 0=cv:=by
   rw[<- hcv];simp[hlt]
  show PyData.str ⟨#[cs.toArray.getD i 0]⟩=_
  rw[this]
 refine wpAny_execs_cons (I4.asg (Φ:=[bM]) wf hF hsto (hctx 7 _ rfl) (st _ (by simp[fU])) d1 (sK d2) (Rd.le (by decide)) ⟨trivial,trivial,?_⟩ (by decide) (by decide) fun s5 I5=>?_)
 ·show eV (i:Int) (⟨cs.toArray⟩:Str).length
  have:(⟨cs.toArray⟩:Str).length=cs.length:=by show cs.toArray.size=_;simp
  rw[this]
  exact⟨by lia,by lia,by lia,by lia⟩
 rw[hsub]at I5
 have I5:TI G env sc bR A 3 4 a m s₁ O2 (fV star a m q cs i (.dat (.str ⟨#[cv]⟩))) xs s5:=I5
 refine wpAny_execs_cons (I5.asg (Φ:=[bM]) wf hF hsto (hctx 5 _ rfl) (st _ (by simp[fU])) d3 (sK d4) (Rd.le (by decide)) ⟨trivial,trivial,trivial⟩ (by decide) (by decide) fun s6 I6=>?_)
 have I6:TI G env sc bR A 3 4 a m s₁ O2 (fV star a m q cs (i+1) (.dat (.str ⟨#[cv]⟩))) xs s6:=I6
 have hxl:xs.length<=1000:=by rw[hxs];lia
 have tst:∀(k:Nat) (tx:Expr) (s':Shared) (Q:Bool->Shared->Prop) (E:Value->Shared->Prop),k∈[42,63,91]->chk [bM] (kF k) sc bR tx=true->TI G env sc bR A 3 4 a m s₁ O2 (fV star a m q cs (i+1) (.dat (.str ⟨#[cv]⟩))) xs s' ->
  (∀s'',TI G env sc bR A 3 4 a m s₁ O2 (fV star a m q cs (i+1) (.dat (.str ⟨#[cv]⟩))) xs s''->Q ((⟨#[cv]⟩:Str)==⟨#[k]⟩) s'')->wpAny (model G.prog G.w) A (isTrue tx env (eval tx env)) Q E s':=fun k tx s' Q E hk hc J h=>by
  refine wpAny_mono ((snd wf hF (kF k)).tst sc bR tx env _ O2 _ _ s' E hc J.C (Rd.le (by show(0:Nat)<=2;decide)) ⟨trivial,trivial,xW cv (by simp[gy]at hci;rcases hci with rfl | rfl | rfl | rfl<;>decide),xW k (by simp at hk;rcases hk with rfl | rfl | rfl<;>decide)⟩ rfl) (fun b s'' hb=>?_) fun U U x=>x
  refine ak hb fun e0 kb=>?_;subst e0
  have he:aB (den [bM] (kF k) (fV star a m q cs (i+1) (.dat (.str ⟨#[cv]⟩))))=((⟨#[cv]⟩:Str)==⟨#[k]⟩):=by
   show PyData.eqv (.str ⟨#[cv]⟩) (.str ⟨#[k]⟩)=_
   simp[PyData.eqv]
  rw[he]
  exact h s'' (J.keeps wf kb)
 refine wpAny_execs_cons (wpAny_If (tst 42 _ _ _ _ (by decide) d5 I6 fun s7 I7=>?_))
 have e42:((⟨#[cv]⟩:Str)==⟨#[42]⟩)=false:=by simp[gy]at hci;rcases hci with rfl | rfl | rfl | rfl<;>decide
 rw[e42,if_neg Kr]
 refine wpAny_execs_cons (wpAny_If (tst 63 _ _ _ _ (by decide) d6 I7 fun s8 I8=>?_))
 by_cases h63:cv=63
 ·subst h63
  rw[show((⟨#[63]⟩:Str)==⟨#[63]⟩)=true from by decide,if_pos rfl]
  refine wpAny_execs_cons (I8.add (Φ:=[bM]) wf hF (hctx 4 _ rfl) (by decide +kernel) d8 (Rd.le (by decide)) trivial rfl hxl fun s9 I9=>wpAny_execs_nil (wpAny_execs_nil (wpAny_execs_nil (h s9 I9))))
 ·have e63:((⟨#[cv]⟩:Str)==⟨#[63]⟩)=false:=by simp[gy]at hci;rcases hci with rfl | rfl | rfl | rfl<;>first | decide | exact absurd rfl h63
  rw[e63,if_neg Kr]
  refine wpAny_execs_cons (wpAny_If (tst 91 _ _ _ _ (by decide) d7 I8 fun s9 I9=>?_))
  have e91:((⟨#[cv]⟩:Str)==⟨#[91]⟩)=false:=by simp[gy]at hci;rcases hci with rfl | rfl | rfl | rfl<;>decide
  rw[e91,if_neg Kr]
  have hcs':cv∈pg:=by simp[gy]at hci;rcases hci with rfl | rfl | rfl | rfl<;>first | decide | exact absurd rfl h63
  have hpt:fk q cv=i5 cv:=if_neg h63
  rw[hpt]at h
  refine wpAny_execs_cons (I9.add (Φ:=[bM]) (y:=i5 cv) wf hF (hctx 4 _ rfl) (by decide +kernel) d9 (Rd.le (by decide)) ⟨⟨trivial,trivial⟩,cv,hcs',rfl⟩ rfl hxl fun s10 I10=>wpAny_execs_nil (wpAny_execs_nil (wpAny_execs_nil (wpAny_execs_nil (h s10 I10)))))
theorem Fm{fT:Addr}{fd:FuncData}{body:List Stmt}{A:Around}{s:Shared}{O:Addr->Prop}{E:Value->Shared->Prop}{star:Value}{t u:Tok}{q:Str}{cs:List Nat}(wf:G.Wf)(hE:aN G bM)(I:TrInfo G fT fd body)(R:aJ 3 A)(ok:Okay A O s)(B:G.Base O s.heap)(hcs:∀c∈cs,c∈gy)(hlen:cs.length<=100) :
 wpAny (model G.prog G.w) A (call (.ref fT) [.str ⟨cs.toArray⟩ t,star,.str q u]) (PV O s (.list (cs.map fun c=>.str (fk q c)))) E s:=by
 have hF:∀F∈[bM],aN G F:=fun F h=>by rw[ai.mp h];exact hE
 refine wpAny_call (kj (s:=s) (O:=O) (vs:=[.str ⟨cs.toArray⟩ t,star,.str q u]) (ys:=[.dat (.str ⟨cs.toArray⟩),.val star,.dat (.str q)]) wf I.FI ok B (fun i v y hv hy=>?_) rfl rfl (R.fits (aW _)) (I.bind _ rfl) fun env O' s₁ k1 hO1 hO2 hSt hsto C E' Qf hret hnx=>?_)
 ·match i with
  | 0=>simp at hv hy;subst hv hy;exact .inl ⟨_,rfl,.str _ _⟩
  | 1=>simp at hv hy;subst hv hy;exact .inr rfl
  | 2=>simp at hv hy;subst hv hy;exact .inl ⟨_,rfl,.str _ _⟩
  | n+3=>simp at hv
 have Rd:aJ 2 (A.deeper env):=(R.deeper (aL _))
 have bd:=I.bd
 obtain⟨hb,b1,b2,b3,b4,b5,b6⟩:=bd
 rw[hb]
 unfold xV
 have st:∀x∈fU,aS fd.scope x=true:=fun x hx=>by rcases I.FI.sc.var x hx with z | z<;>simp[aS,z]
 have hctx:∀(i:Nat) (x:Str),fU[i]? = some x->bR[i]? = some (some x):=fun i x h=>by unfold bR;rw[bX,h];rfl
 refine TI.start (ir:=3) (ia:=4) wf hsto C (hctx 3 _ rfl) (hctx 4 _ rfl) (st _ (by simp[fU])) (st _ (by simp[fU])) (by decide) (by show 3<8;decide) (by show 4<8;decide) fun a m O2 s2 I2 hO3 hO4=>?_
 have hρ:((ck fU [SV.dat (.str ⟨cs.toArray⟩),.val star,.dat (.str q)]).set 3 (.val (.ref a))).set 4 (.val (.ref m))=[.dat (.str ⟨cs.toArray⟩),.val star,.dat (.str q),.val (.ref a),.val (.ref m),.un,.un,.un]:=rfl
 rw[hρ]at I2
 refine wpAny_execs_cons (xP (Φ:=[bM]) (es:=sJ) wf hF b1 b2 b3 (by decide) rfl (by show 2<=16777216;decide) hsto I2.C (Rd.le (by decide)) ⟨trivial,⟨trivial,by show(⟨cs.toArray⟩:Str).length<=_;show cs.toArray.size<=_;simp;lia⟩,trivial⟩ fun s3 k3 C3=>?_)
 have hρ3:dA [.dat (.str ⟨cs.toArray⟩),.val star,.dat (.str q),.val (.ref a),.val (.ref m),.un,.un,.un] ([5,6].zip ((bV [bM] sJ [.dat (.str ⟨cs.toArray⟩),.val star,.dat (.str q),.val (.ref a),.val (.ref m),.un,.un,.un]).map SV.dat))=fV star a m q cs 0 .un:=by
  show[SV.dat (.str ⟨cs.toArray⟩),.val star,.dat (.str q),.val (.ref a),.val (.ref m),.dat (.int 0),.dat (.int (iG (.str ⟨cs.toArray⟩))),.un]=_
  have:iG (.str ⟨cs.toArray⟩)=cs.length:=by show cs.toArray.size=_;simp
  rw[this];rfl
 rw[hρ3]at C3
 have I3:=I2.frame k3 C3 rfl rfl
 -- the loop
 refine wpAny_execs_cons (wpAny_While (codeAny_whileLoop (fun mm sk=>∃i c,i<=cs.length/\mm=cs.length - i/\TI G env fd.scope bR (A.deeper env) 3 4 a m s₁ O2 (fV star a m q cs i c) ((cs.take i).map (fk q)) sk) ?_ cs.length ⟨0,.un,aW _,rfl,I3⟩))
 rintro mm sk ⟨i,c,hi,rfl,Ik⟩
 refine wpAny_mono ((snd wf hF sI).tst fd.scope bR qd env _ O2 _ _ sk _ b4 Ik.C (Rd.le (by decide)) ⟨trivial,trivial,trivial⟩ rfl) (fun tt s4 h4=>?_) fun U U x=>x
 refine ak h4 fun e0 k4=>?_;subst e0
 have I4:=Ik.keeps wf k4
 have htr:aB (den [bM] sI (fV star a m q cs i c))=decide ((i:Int)<(cs.length:Int)):=rfl
 rw[htr]
 by_cases hlt:i<cs.length
 ·rw[if_pos (by simpa using hlt)]
  refine Fj wf hF hsto (fun x hx=>st x hx) Rd b5 hlen hcs hlt I4 (by rw[af,List.length_take];lia) fun s' J=>?_
  refine⟨cs.length - (i+1),by lia,i+1,.dat (.str ⟨#[cs[i]]⟩),hlt,rfl,?_⟩
  have:cs.take (i+1)=cs.take i++[cs[i]]:=by rw[List.take_succ,bk hlt];rfl
  rw[this,pI]
  exact J
 ·have hie:i=cs.length:=by lia
  subst hie
  rw[if_neg (by simp)]
  refine wpAny_execs_nil ?_
  have hall:(cs.take cs.length).map (fk q)=cs.map (fk q):=by rw[jl]
  rw[hall]at I4
  -- assert i==n
  refine wpAny_execs_cons (wpAny_Assert_holds (wpAny_mono ((snd wf hF xT).tst fd.scope bR qe env _ O2 _ _ s4 _ b6 I4.C (Rd.le (by decide)) ⟨trivial,trivial,ph _,ph _⟩ rfl) (fun tt s5 h5=>?_) fun U U x=>x))
  refine ak h5 fun e0 k5=>?_;subst e0
  have I5:=I4.keeps wf k5
  refine⟨?_,?_⟩
  ·show PyData.eqv (.int (cs.length:Int)) (.int (cs.length:Int))=true
   simp[PyData.eqv]
  refine wpAny_execs_cons (wpAny_Return_some (fL I5.C (hctx 3 _ rfl) (by decide +kernel) I5.hr ?_))
  refine x22 I5.hl fun arr n hl hs=>?_
  have hsa:∀b o,s.heap.get? b=some o->¬(aT env b\/b=a):=fun b o e z=>by
   rcases z with z | z
   ·rw[hSt b z]at e;cases e
   ·have:=g9 k1 I5.na
    rw[z,this]at e;cases e
  obtain⟨h9,t9,rfl,p1,p2⟩:=I5.km
  refine x22 k1 fun h1 t1' e2 q1=>?_;subst e2
  refine hret _ _ ⟨⟨h9,t9,rfl,fun b o e=>p1 b o (hsa b o e) (q1 b o e)⟩,?_⟩
  have hn:=g9 (s:=s) ⟨h1,t1',rfl,q1⟩ I5.na
  have:=Rep.list (O:=O) (fun z=>by refine x11 (ok.obs a z) fun o e=>?_;rw[hn]at e;cases e) hl hs.rep
  rw[dS]at this
  exact this
end
section
variable{G:Glo}{env:Env}{sc:Scope}{ctx:List (Option Str)}{A:Around}{ir ia:Nat}{a m:Addr}{s₀ s s':Shared}{O:Addr->Prop}{ρ:List SV}{xs:List Str}{E:Value->Shared->Prop}
theorem TI.free(wf:G.Wf)(I:TI G env sc ctx A ir ia a m s₀ O ρ xs s):Cond G env sc ctx A (fun b=>O b/\b≠a) (fun U=>none) (ρ.set ir (.dat (.list (xs.map .str)))) s:=by
 refine x22 I.hl fun arr n hl hs=>?_
 have C:=I.C
 obtain⟨val,F,V⟩:=C.vars
 refine⟨C.eo,C.co,by rw[pJ];exact C.len,⟨C.ok.hok,fun b hb q=>C.ok.hno b hb q.1,fun b q=>C.ok.obs b q.1⟩,⟨C.base.kp,fun b q=>C.base.off b q.1⟩,fun b q=>⟨C.fr b q,fun z=>I.sa (z▸q.store)⟩,fun x c e=>⟨C.fc x c e,fun z=>I.sa (.inr ⟨x,z▸e⟩)⟩,fun b i e=>(by cases e),val,F,fun j x hx=>?_⟩
 have hv:=V j x hx
 rw[c6]
 split
 ·rename_i q
  refine ak q fun e0 U=>?_;subst e0
  rw[I.hr]at hv
  exact⟨.ref a,hv,.list (fun q=>q.2 rfl) hl hs.rep⟩
 ·cases hy:ρ.getD j .un with
  | un=>trivial
  | val u=>rw[hy]at hv;exact hv
  | dat d =>
   rw[hy]at hv
   refine x12 hv fun u e r=>?_
   exact⟨u,e,r.weak fun b q=>q.1⟩
  | own d =>
   rw[hy]at hv
   obtain⟨_,_,_,_,_,e2,_⟩:=hv
   cases e2
  | sor g =>
   rw[hy]at hv
   refine x23 hv fun u S e r hS=>?_
   exact⟨u,S,e,r,hS⟩
end
noncomputable def sL:Str:=ofString "inp"
noncomputable def ej:List Str:=[sL,ei,dN,fj,i6,xQ]
noncomputable def bq:List (Option Str):=ej.map some
noncomputable def jE:IX:=.sub (.var 0) (.var 4)
noncomputable def mz:IX:=.cmp .Lt (.var 4) (.var 5)
noncomputable def xX:IX:=.cmp .Eq (.var 4) (.var 5)
noncomputable def sM:IX:=.cons (.lit (.int 0)) (.cons (.len (.var 0)) .nil)
noncomputable def sO:IX:=.join (.lit (.str Str.empty)) (.var 2)
noncomputable def i7:Str:=ofString "(?s:"
noncomputable def mB:Str:=ofString ")\\Z"
noncomputable def Fn(P:Nat->Pos)(t1:Expr)(l1:Expr)(g1:Expr):Stmt:=.While (.BoolOp .And [t1,.Compare l1 [.IsNot] [.Name ei (P 0)] (P 1)] (P 2)) [.Expr (.Call (.Name fj (P 3)) [g1] [] (P 4)) (P 5),.AugAssign (.Name i6 (P 6)) .Add (.Constant (.int 1) 0 (P 7)) (P 8)] [] (P 9)
inductive isJWhile(sc:Scope)(b:Stmt):Prop where
 | mk (h1:b=Fn AL qh uy uz) (h2:chk [] mz sc bq qh=true) (h3:chk [] jE sc bq uy=true) (h4:chk [] jE sc bq uz=true):isJWhile sc b
noncomputable def Fo(P:Nat->Pos)(t2:Expr)(msg:Option Expr)(v1:Expr):List Stmt:=[.Assert t2 msg (P 0),.Assign [.Name dN (P 1)] v1 (P 2),.Return (some (.JoinedStr [.Constant (.str i7) 0 (P 3),.FormattedValue (.Name dN (P 4)) (-1) none (P 5),.Constant (.str mB) 0 (P 6)] (P 7))) (P 8)]
inductive isJEnd(sc:Scope)(b:List Stmt):Prop where
 | mk (h1:b=Fo nR qi A0 nV) (h2:chk [] xX sc bq qi=true) (h3:chk [] sO sc bq nV=true) (h4:mt nV=true):isJEnd sc b
noncomputable def xY(P:Nat->Pos)(ts:List Expr)(k1:Nat)(vs:List Expr)(k2:Nat)(w1:Stmt)(t2:Expr)(u1:List Stmt)(rest:List Stmt):List Stmt:=.Assign [.Name dN (P 0)] (.List [] (P 1)) (P 2)::.Assign [.Name fj (P 3)] (.Attribute (.Name dN (P 4)) sG (P 5)) (P 6)::.Assign [.Tuple ts k1 (P 7)] (.Tuple vs k2 (P 8)) (P 9)::w1::.While t2 u1 [] (P 10)::rest
inductive isJoin(sc:Scope)(b:List Stmt):Prop where
 | mk (h1:b=xY AK uv AX qf AY uw qg AZ ux) (h2:eD sc bq [4,5] uv=true) (h3:b0 [] sM sc bq qf=true) (h4:iT qf=true) (h5:isJWhile sc uw) (h6:chk [] mz sc bq qg=true) (h7:isJEnd sc ux):isJoin sc b
noncomputable def dO(st a m:Addr)(xs:List Str)(i:Nat):List SV:=[.dat (.list (xs.map .str)),.val (.ref st),.val (.ref a),.val (.ref m),.dat (.int i),.dat (.int xs.length)]
noncomputable def mC(xs:List Str):Str:=i7++Txt.join Str.empty xs++mB
theorem Fp{prog:Program}{w:World}{A:Around}{E:Value->Shared->Prop}{s:Shared}{x:Str}{t:Tok}{b:Addr}{Q:Value->Shared->Prop}(h:Q (.bool true) s):wpAny (model prog w) A (compareOp .IsNot (.str x t) (.ref b)) Q E s:=by
 show wpAny _ A (do return .bool (!(<- isSame (.str x t) (.ref b)))) Q E s
 rw[show isSame (.str x t) (.ref b)=pure false from rfl]
 exact wpAny_bind (wpAny_pure (wpAny_pure h))
section
variable{G:Glo}
structure JnInfo(G:Glo)(a:Addr)(fd:FuncData)(body:List Stmt):Prop where
 FI:FnInfo G a fd body [sL,ei] ej
 bind:∀vs:List Value,vs.length=2->bindArgs fd ⟨vs,[]⟩=pure ([sL,ei].zip vs)
 bd:isJoin fd.scope body
theorem bS{G:Glo}:∀F∈([]:List FEntry),aN G F:=fun F h=>nomatch h
theorem sQ:∀ys:List Str,(∀x∈ys,x.length<=10)->(ys.map (·.length)).sum<=10 * ys.length
 | [],_=>aW _
 | y::r,h=>by
  have h1:=h y ag
  have h2:=sQ r fun x hx=>h x (ar _ hx)
  simp only[aH,tX,cZ];lia
theorem xZ{xs:List Str}(hx:∀x∈xs,x.length<=10)(hlen:xs.length<=100):(Txt.join Str.empty xs).length<=2000:=by
 have h1:=sQ xs hx
 show(Builtin.Str.glued Str.empty xs).length<=2000
 rw[StrLaws.glued_eq_join]
 refine ae (StrLaws.join_length_le Str.empty xs) ?_
 have h0:Str.empty.length=0:=rfl
 rw[h0];lia
theorem Fq{y:Str}(h:y.length<=2000):(i7++y++mB).length<=sizeLine/\(i7++y).length<=sizeLine/\i7.length<=sizeLine:=by
 have h1:i7.length=4:=by decide +kernel
 have h2:mB.length=3:=by decide +kernel
 rw[strLen_append,strLen_append,sizeLine_eq,h1,h2]
 exact⟨by lia,by lia,by lia⟩
theorem pi(y:Str):Str.empty++y=y:=by show(⟨#[]++y.cps⟩:Str)=y;rw[Array.empty_append]
theorem jF{i:Nat}{x:Str}(h:ej[i]? = some x):bq[i]? = some (some x):=by unfold bq;rw[bX,h];rfl
theorem x6{star a m:Addr}{xs:List Str}{i:Nat}(hlt:i<xs.length):den [] jE (dO star a m xs i)=.str xs[i]:=by
 show(xs.map PyData.str).getD (bO (i:Int) (xs.map PyData.str).length) .none=_
 have h0:bO (i:Int) (xs.map PyData.str).length=i:=by unfold bO;rw[if_neg (by lia)];simp
 rw[h0,aq,bX,bk hlt];rfl
theorem x7{star a m:Addr}{xs:List Str}{i:Nat}(hl:xs.length<=100)(hlt:i<xs.length):pre [] jE false (dO star a m xs i):=by
 refine⟨trivial,trivial,?_⟩
 show eV (i:Int) (xs.map PyData.str).length
 rw[af]
 exact⟨by lia,by lia,by lia,by lia⟩
theorem Fr{env:Env}{sc:Scope}{A:Around}{s₁ s:Shared}{O2:Addr->Prop}{E:Value->Shared->Prop}{star a m:Addr}{xs:List Str}{l1:Expr}{p1 p2:Pos}{i:Nat}(wf:G.Wf)(hsto:∀i,bu env bq i)(st:∀x∈ej,aS sc x=true)(Rd:aJ 2 A)(hlen:xs.length<=100)(hlt:i<xs.length)(d2:chk [] jE sc bq l1=true)
 (I4:TI G env sc bq A 2 3 a m s₁ O2 (dO star a m xs i) (xs.take i) s) {Q:Bool->Shared->Prop} (h:∀s',TI G env sc bq A 2 3 a m s₁ O2 (dO star a m xs i) (xs.take i) s'->Q true s') :
 wpAny (model G.prog G.w) A (isTrue (.Compare l1 [.IsNot] [.Name ei p1] p2) env (eval (.Compare l1 [.IsNot] [.Name ei p1] p2) env)) Q E s:=by
 refine wpAny_isTrue_Compare1 (wpAny_mono ((snd wf bS jE).ev sc bq l1 false env _ O2 _ _ s _ d2 I4.C (Rd.le (by decide)) (x7 hlen hlt)) (fun u s5 h5=>?_) fun U U x=>x) rfl
 have I5:=I4.keeps wf h5.1
 have ru:=h5.2.ff
 rw[x6 hlt]at ru
 cases ru with
 | str _ t=>exact fL I5.C (jF (i:=1) rfl) (by decide +kernel) rfl (Fp (wpAny_truthy_bool (h _ (I5.keeps wf (aw _ _)))))
theorem Fs{env:Env}{sc:Scope}{A:Around}{s₁ s:Shared}{O2:Addr->Prop}{E:Value->Shared->Prop}{Q:Flow->Shared->Prop}{star a m:Addr}{xs:List Str}{g1:Expr}{p3 p4 p5 p6 p7 p8:Pos}{i:Nat}(wf:G.Wf)(hsto:∀i,bu env bq i)(st:∀x∈ej,aS sc x=true)(Rd:aJ 2 A)(hlen:xs.length<=100)(hlt:i<xs.length)(d3:chk [] jE sc bq g1=true)
 (I5:TI G env sc bq A 2 3 a m s₁ O2 (dO star a m xs i) (xs.take i) s) (h:∀s',TI G env sc bq A 2 3 a m s₁ O2 (dO star a m xs (i+1)) (xs.take (i+1)) s'->Q .next s') :
 wpAny (model G.prog G.w) A (execs [.Expr (.Call (.Name fj p3) [g1] [] p4) p5,.AugAssign (.Name i6 p6) .Add (.Constant (.int 1) 0 p7) p8] env) Q E s:=by
 have hxl:(xs.take i).length<=1000:=by rw[List.length_take];lia
 refine wpAny_execs_cons (I5.add (Φ:=[]) (y:=xs[i]) wf bS (jF (i:=3) rfl) (by decide +kernel) d3 (Rd.le (by decide)) (x7 hlen hlt) (x6 hlt) hxl fun s6 I6=>?_)
 obtain⟨val,F6,V6⟩:=I6.C.vars
 have h4i:=V6 4 i6 (jF (i:=4) rfl)
 obtain⟨ui,hui,rui⟩:∃u,val i6=some u/\Rep O2 s6.heap u (.int i):=h4i
 cases rui with
 | int _ ti =>
 refine wpAny_execs_cons (wpAny_AugAssign_Name (gk I6.C.eo F6 hui (I6.C.co.kd 4 i6 (jF (i:=4) rfl)) (wpAny_Constant_int (iadd_int ?_))))
 have k7:Keeps s6 { s6 with toks:=s6.toks+1+1 }:=aw _ _
 have I7:=I6.keeps wf k7
 refine dJ wf (hsto 4) I7.C (jF (i:=4) rfl) (st _ (by simp[ej])) (y:=.dat (.int ((i:Int)+1))) ⟨_,rfl,.int _ _⟩ fun s8 k8 C8=>wpAny_execs_nil (h s8 ?_)
 have I8:=I7.frame k8 C8 rfl rfl
 have:xs.take (i+1)=xs.take i++[xs[i]]:=by rw[List.take_succ,bk hlt];rfl
 rw[this]
 exact I8
theorem Ft{env:Env}{sc:Scope}{A:Around}{s₁ s:Shared}{O2:Addr->Prop}{E:Value->Shared->Prop}{Q:Flow->Shared->Prop}{star a m:Addr}{xs:List Str}{w1:Stmt}(wf:G.Wf)(hsto:∀i,bu env bq i)(st:∀x∈ej,aS sc x=true)(Rd:aJ 2 A)(hlen:xs.length<=100)(hw:isJWhile sc w1)
 (I3:TI G env sc bq A 2 3 a m s₁ O2 (dO star a m xs 0) [] s) (h:∀s',TI G env sc bq A 2 3 a m s₁ O2 (dO star a m xs xs.length) xs s'->Q .next s'):wpAny (model G.prog G.w) A (exec w1 env) Q E s:=by
 obtain⟨rfl,d1,d2,d3⟩:=hw
 refine wpAny_While (codeAny_whileLoop (fun mm sk=>∃i,i<=xs.length/\mm=xs.length - i/\TI G env sc bq A 2 3 a m s₁ O2 (dO star a m xs i) (xs.take i) sk) ?_ xs.length ⟨0,aW _,rfl,I3⟩)
 rintro mm sk ⟨i,hi,rfl,Ik⟩
 refine wpAny_isTrue_BoolOp (wpAny_allTrue_And_cons ?_)
 refine wpAny_mono ((snd wf bS mz).tst sc bq qh env _ O2 _ _ sk _ d1 Ik.C (Rd.le (by decide)) ⟨trivial,trivial,trivial⟩ rfl) (fun tt s4 h4=>?_) fun U U x=>x
 refine ak h4 fun e0 k4=>?_;subst e0
 have I4:=Ik.keeps wf k4
 rw[show aB (den [] mz (dO star a m xs i))=decide ((i:Int)<(xs.length:Int))from rfl]
 by_cases hlt:i<xs.length
 ·rw[if_pos (decide_eq_true (Int.ofNat_lt.mpr hlt))]
  refine wpAny_allTrue_And_cons (Fr wf hsto st Rd hlen hlt d2 I4 fun s5 I5=>?_)
  rw[if_pos rfl]
  refine wpAny_allTrue_And_nil ?_
  rw[if_pos rfl]
  exact Fs wf hsto st Rd hlen hlt d3 I5 fun s' J=>⟨xs.length - (i+1),by omega,i+1,hlt,rfl,J⟩
 ·have hie:i=xs.length:=m8 hi (cy.mp hlt)
  subst hie
  rw[if_neg (by simp),if_neg Kr]
  rw[jl]at I4
  exact wpAny_execs_nil (h _ I4)
theorem Fu{env:Env}{sc:Scope}{A:Around}{s₁ s:Shared}{O2:Addr->Prop}{E:Value->Shared->Prop}{Q:Flow->Shared->Prop}{star a m:Addr}{xs:List Str}{rest:List Stmt}(wf:G.Wf)(hsto:∀i,bu env bq i)(st:∀x∈ej,aS sc x=true)(Rd:aJ 2 A)(hlen:xs.length<=100)(hx:∀x∈xs,x.length<=10)(he:isJEnd sc rest)
 (I4:TI G env sc bq A 2 3 a m s₁ O2 (dO star a m xs xs.length) xs s) (h:∀t s',KM (fun b=>aT env b\/b=a) s₁ s'->Q (.ret (.str (mC xs) t)) s'):wpAny (model G.prog G.w) A (execs rest env) Q E s:=by
 obtain⟨rfl,e1,e2,e3⟩:=he
 have hf:=Fq (xZ hx hlen)
 refine wpAny_execs_cons (wpAny_Assert_holds (wpAny_mono ((snd wf bS xX).tst sc bq qi env _ O2 _ _ s _ e1 I4.C (Rd.le (by decide)) ⟨trivial,trivial,ph _,ph _⟩ rfl) (fun tt s6 h6=>?_) fun U U x=>x))
 refine ak h6 fun e0 k6=>?_;subst e0
 have I6:=I4.keeps wf k6
 refine⟨?_,?_⟩
 ·show PyData.eqv (.int (xs.length:Int)) (.int (xs.length:Int))=true
  simp[PyData.eqv]
 have C6:=I6.free wf
 have hmap:(xs.map PyData.str).map dq=xs:=by rw[dS];exact List.map_id xs
 have hjp:oD Str.empty (xs.map .str):=by
  refine⟨fun d hd=>?_,?_⟩
  ·refine x12 (aA.mp hd) fun x U e2=>?_;subst e2;rfl
  ·rw[hmap]
   have:=sQ xs hx
   show _+xs.length * 0<=_
   lia
 refine wpAny_execs_cons (wpAny_Assign_stores (wpAny_mono ((snd wf bS sO).ev sc bq nV false env _ _ _ _ s6 _ e2 C6 (Rd.le (by decide)) ⟨trivial,trivial,rfl,_,rfl,hjp⟩) (fun u s7 h7=>?_) fun U U x=>x) (sK (line:=(nR 2).line) e3) rfl)
 have C7:=C6.keeps wf h7.1
 have hj:den [] sO ((dO star a m xs xs.length).set 2 (.dat (.list (xs.map .str))))=.str (Txt.join Str.empty xs):=by
  show PyData.str (Txt.join Str.empty ((xs.map PyData.str).map dq))=_
  rw[hmap]
 have r7:=h7.2.ff
 rw[hj]at r7
 show wpAny _ _ (assign (.Name dN (nR 1)) env u) _ _ s7
 refine jv wf (hsto 2) C7 (jF (i:=2) rfl) (st _ (by simp[ej])) r7 fun s8 k8 C8=>?_
 refine wpAny_execs_cons (wpAny_Return_some (wpAny_JoinedStr ?_))
 have hg2:((((dO star a m xs xs.length).set 2 (.dat (.list (xs.map .str)))).set 2 (.dat (.str (Txt.join Str.empty xs)))).getD 2 .un)=.dat (.str (Txt.join Str.empty xs)):=rfl
 have km8:KM (fun b=>aT env b\/b=a) s₁ s8:=(I6.km.trans (KM.of h7.1)).trans (k8.mono fun b q=>.inl q.store)
 refine wpAny_Constant_str ⟨_,_,rfl,by rw[pi];exact hf.2.2,?_⟩
 have C9:=C8.keeps wf (aw s8 (s8.toks+1))
 refine wpAny_FormattedValue_plain (di C9 (jF (i:=2) rfl) (by decide +kernel) hg2 fun w rw'=>?_)
 cases rw' with
 | str _ tw =>
 have fin:∀(s':Shared) (tk:Tok),Keeps s8 s'->∃y t,(Value.str (Txt.join Str.empty xs) tk)=.str y t/\(Str.empty++i7++y).length<=sizeLine/\Joins (model G.prog G.w) A E [eval (.Constant (.str mB) 0 (nR 6)) env] (Str.empty++i7++y) (fun out s₁=>out.length<=sizeLine/\Q (Flow.ret (.str out s₁.toks)) { s₁ with toks:=s₁.toks+1 }) s':=fun s' tk kk=>by
  refine⟨_,_,rfl,by rw[pi];exact hf.2.1,?_⟩
  refine wpAny_Constant_str ⟨_,_,rfl,by rw[pi];exact hf.1,?_⟩
  rw[pi]
  exact⟨hf.1,h _ _ (km8.trans (KM.of (aQ kk (aw s' (s'.toks+1+1)))))⟩
 exact wpAny_formatField_str (fin _ _ (aw s8 (s8.toks+1))) (fin _ _ (aw s8 (s8.toks+1+1))) (ae (xZ hx hlen) (by rw[sizeLine_eq];decide))
theorem Fw{fJ:Addr}{fd:FuncData}{body:List Stmt}{A:Around}{s:Shared}{O:Addr->Prop}{E:Value->Shared->Prop}{v:Value}{star:Addr}{xs:List Str}(wf:G.Wf)(I:JnInfo G fJ fd body)(R:aJ 3 A)(ok:Okay A O s)(B:G.Base O s.heap)(rv:Rep O s.heap v (.list (xs.map .str)))(hlen:xs.length<=100)(hx:∀x∈xs,x.length<=10) :
 wpAny (model G.prog G.w) A (call (.ref fJ) [v,.ref star]) (PV O s (.str (mC xs))) E s:=by
 have hF:∀F∈([]:List FEntry),aN G F:=fun F h=>nomatch h
 refine wpAny_call (kj (s:=s) (O:=O) (vs:=[v,.ref star]) (ys:=[.dat (.list (xs.map .str)),.val (.ref star)]) wf I.FI ok B (fun i u y hv hy=>?_) rfl rfl (R.fits (aW _)) (I.bind _ rfl) fun env O' s₁ k1 hO1 hO2 hSt hsto C E' Qf hret hnx=>?_)
 ·match i with
  | 0=>simp at hv hy;subst hv hy;exact .inl ⟨_,rfl,rv⟩
  | 1=>simp at hv hy;subst hv hy;exact .inr rfl
  | n+2=>simp at hv
 have Rd:aJ 2 (A.deeper env):=(R.deeper (aL _))
 have bd:=I.bd
 obtain⟨hb,b1,b2,b3,hw,b5,he⟩:=bd
 rw[hb]
 unfold xY
 have st:∀x∈ej,aS fd.scope x=true:=fun x hx=>by rcases I.FI.sc.var x hx with z | z<;>simp[aS,z]
 have hctx:∀(i:Nat) (x:Str),ej[i]? = some x->bq[i]? = some (some x):=fun i x h=>by unfold bq;rw[bX,h];rfl
 refine TI.start (ir:=2) (ia:=3) wf hsto C (hctx 2 _ rfl) (hctx 3 _ rfl) (st _ (by simp[ej])) (st _ (by simp[ej])) (by decide) (by show 2<6;decide) (by show 3<6;decide) fun a m O2 s2 I2 hO3 hO4=>?_
 have hρ:((ck ej [SV.dat (.list (xs.map .str)),.val (.ref star)]).set 2 (.val (.ref a))).set 3 (.val (.ref m))=[.dat (.list (xs.map .str)),.val (.ref star),.val (.ref a),.val (.ref m),.un,.un]:=rfl
 rw[hρ]at I2
 refine wpAny_execs_cons (xP (Φ:=[]) (es:=sM) wf hF b1 b2 b3 (by decide) rfl (by show 2<=16777216;decide) hsto I2.C (Rd.le (by decide)) ⟨trivial,⟨trivial,by show(xs.map PyData.str).length<=_;rw[af];lia⟩,trivial⟩ fun s3 k3 C3=>?_)
 have hρ3:dA [.dat (.list (xs.map .str)),.val (.ref star),.val (.ref a),.val (.ref m),.un,.un] ([4,5].zip ((bV [] sM [.dat (.list (xs.map .str)),.val (.ref star),.val (.ref a),.val (.ref m),.un,.un]).map SV.dat))=dO star a m xs 0:=by
  show[SV.dat (.list (xs.map .str)),.val (.ref star),.val (.ref a),.val (.ref m),.dat (.int 0),.dat (.int ((xs.map PyData.str).length:Nat))]=_
  rw[af];rfl
 rw[hρ3]at C3
 have I3:=I2.frame k3 C3 rfl rfl
 refine wpAny_execs_cons (Ft wf hsto st Rd hlen hw I3 fun s4 I4=>?_)
 -- the second loop ends at once
 refine wpAny_execs_cons (wpAny_While (codeAny_whileLoop (fun U sk=>TI G env fd.scope bq (A.deeper env) 2 3 a m s₁ O2 (dO star a m xs xs.length) xs sk) (fun mm sk Ik=>?_) 0 I4))
 refine wpAny_mono ((snd wf hF mz).tst fd.scope bq qg env _ O2 _ _ sk _ b5 Ik.C (Rd.le (by decide)) ⟨trivial,trivial,trivial⟩ rfl) (fun tt s5 h5=>?_) fun U U x=>x
 refine ak h5 fun e0 k5=>?_;subst e0
 have I5:=Ik.keeps wf k5
 rw[if_neg (by show ¬(decide ((xs.length:Int)<(xs.length:Int))=true);simp)]
 refine wpAny_execs_nil ?_
 refine Fu wf hsto st Rd hlen hx he I5 fun tk s' km=>hret _ _ ⟨?_,.str _ _⟩
 have hna:=I5.na
 obtain⟨h9,t9,rfl,p1,p2⟩:=km
 have hsa:∀b o,s.heap.get? b=some o->¬(aT env b\/b=a):=fun b o e z=>by
  rcases z with z | z
  ·rw[hSt b z]at e;cases e
  ·have:=g9 k1 hna
   rw[z,this]at e;cases e
 refine x22 k1 fun h1 t1' e2 q1=>?_;subst e2
 exact⟨h9,t9,rfl,fun b o e=>p1 b o (hsa b o e) (q1 b o e)⟩
end
namespace B
theorem x8:mroOf (.type "object")=pure [.type "object"]:=by rw[mroOf_type];kernel_rfl
theorem Fx:typeLookup (.type "object") "__new__" = pure (some (.builtin "object.__new__")):=by rw[typeLookup_type,builtinLookup_eq_fast];kernel_rfl
theorem Fy:Slot "object" "__init__" "object.__init__" :=
 .of (owner:= "object") (n:= "__init__") (by rw[typeLookup_type,builtinLookup_eq_fast];kernel_rfl) (by decide +kernel) (by decide +kernel) (by decide +kernel)
  (by first | exact .inl (by decide +kernel) | exact .inr (by decide +kernel)) (by rw[isSubtype_type];kernel_rfl)
theorem called_object:TypeCalled "object" "object.__new__" "object.__init__" :=
 ⟨by decide +kernel,by decide +kernel,⟨_,_,x8⟩,madeBy_type x8 Fx (by decide +kernel),by decide +kernel,by rw[isSubtype_type];kernel_rfl,Fy⟩
theorem typeCall_object_0:checkTypeCall "object" ⟨[],[]⟩=pure ():=by kernel_rfl
theorem newCall_object_0:checkBuiltinCall "object.__new__" ⟨[.type "object"],[]⟩=pure ():=by kernel_rfl
theorem args_object_init_1(a:Value):argsOk "object.__init__" ⟨[a],[]⟩:=by unfold argsOk;kernel_rfl
theorem entry_object_new:entryFor table "object.__new__" = some Builtin.«object.__new__»:=entryFor_of_tree (by kernel_rfl)
theorem hasDict_object:typeHasDict (.type "object")=false:=by decide +kernel
end B
theorem FB:Meets (Builtin.«object.__new__» ⟨[.type "object"],[]⟩) (fun U R s=>R (.ok (.ret (.ref s.heap.objs.size))) { s with heap:=s.heap.push { cls:=.type "object",data:=.plain } }) :=
 .of_wp fun prog w A R s h=>by
  obtain⟨hp,g,d,tk,os⟩:=s
  have f1:=B.called_object.made
  have f2:=B.hasDict_object
  unfold Builtin.«object.__new__»
  repeat (any_goals (first | assumption | wp_step))
  exact⟨_,rfl,h⟩
section
variable{prog:Program}{w:World}{A:Around}{E:Value->Shared->Prop}{s:Shared}
theorem FD{Q:Value->Shared->Prop}(h:Q (.ref s.heap.objs.size) { s with heap:=s.heap.push { cls:=.type "object",data:=.plain } }):wpAny (model prog w) A (call (.type "object") []) Q E s:=by
 refine callType_meets (Q₁:=fun obj s₁=>obj=.ref s.heap.objs.size/\s₁={ s with heap:=s.heap.push { cls:=.type "object",data:=.plain } }) B.called_object B.typeCall_object_0 B.newCall_object_0 B.entry_object_new F.entry_object_init FB ⟨rfl,rfl⟩ fun obj s₁ h₁=>?_
 refine ak h₁ fun e0 e1=>?_;subst e0;subst e1
 refine⟨⟨_,Heap.get?_push_size _ rfl,rfl⟩,B.args_object_init_1 _,(fun U R s=>R (.ok (.ret .none)) s),fun prog w A R s hs=>wpAny_pure hs,rfl,h⟩
end
noncomputable def x9:Str:=ofString "translate"
noncomputable def pj:Str:=ofString "parts"
noncomputable def sR:Str:=ofString "object"
noncomputable def sT:Str:=ofString "_translate"
noncomputable def sU:Str:=ofString "_join_translated_parts"
noncomputable def fW:List Str:=[jD,ei,pj]
noncomputable def pn:List (Option Str):=fW.map some
noncomputable def kG:Str:=⟨#[46]⟩
noncomputable def ya(P:Nat->Pos):List Stmt:=[.Assign [.Name ei (P 0)] (.Call (.Name sR (P 1)) [] [] (P 2)) (P 3),.Assign [.Name pj (P 4)] (.Call (.Name sT (P 5)) [.Name jD (P 6),.Name ei (P 7),.Constant (.str kG) 0 (P 8)] [] (P 9)) (P 10),.Return (some (.Call (.Name sU (P 11)) [.Name pj (P 12),.Name ei (P 13)] [] (P 14))) (P 15)]
inductive isTr(sc:Scope)(b:List Stmt):Prop where
 | mk (h1:b=ya pW) (h2:bK sc sR=true) (h3:bK sc sT=true) (h4:bK sc sU=true):isTr sc b
noncomputable def kH:FEntry:=⟨x9,5,fun ds=>∃cs:List Nat,ds=[.str ⟨cs.toArray⟩]/\(∀c∈cs,c∈gy)/\cs.length<=100,fun ds=>.str (mC ((dq (ds.getD 0 .none)).cps.toList.map (fk kG)))⟩
section
variable{G:Glo}
structure TInfoF(G:Glo)(fN fT fJ:Addr)(fdN fdT fdJ:FuncData)(bN bT bJ:List Stmt):Prop where
 nm:G.mg x9=some (.ref fN)
 FI:FnInfo G fN fdN bN [jD] fW
 bind:∀vs:List Value,vs.length=1->bindArgs fdN ⟨vs,[]⟩=pure ([jD].zip vs)
 bd:isTr fdN.scope bN
 gT:G.mg sT=some (.ref fT)
 gJ:G.mg sU=some (.ref fJ)
 T:TrInfo G fT fdT bT
 J:JnInfo G fJ fdJ bJ
theorem FH{fN fT fJ:Addr}{fdN fdT fdJ:FuncData}{bN bT bJ:List Stmt}(wf:G.Wf)(hE:aN G bM)(I:TInfoF G fN fT fJ fdN fdT fdJ bN bT bJ):aN G kH:=by
 refine x12 I.FI.at_ fun o e2 hd=>?_
 refine⟨fN,o,fdN,I.nm,e2,hd,fun A s O vs ds E R ok B r hp=>?_⟩
 refine x13 hp fun cs e1 hcs hlen=>?_;subst e1
 have hvl:vs.length=1:=by rw[r.length];rfl
 refine wpAny_call (kj (s:=s) (O:=O) (ys:=[.dat (.str ⟨cs.toArray⟩)]) wf I.FI ok B (oX r) hvl rfl (R.fits (aW _)) (I.bind vs hvl) fun env O' s₁ k1 hO1 hO2 hSt hsto C E' Qf hret hnx=>?_)
 have Rd:aJ 3 (A.deeper env):=R.deeper (by decide)
 have bd:=I.bd
 obtain⟨hb,b1,b2,b3⟩:=bd
 rw[hb]
 unfold ya
 have st:∀x∈fW,aS fdN.scope x=true:=fun x hx=>by rcases I.FI.sc.var x hx with z | z<;>simp[aS,z]
 have hctx:∀(i:Nat) (x:Str),fW[i]? = some x->pn[i]? = some (some x):=fun i x h=>by unfold pn;rw[bX,h];rfl
 -- STAR=object()
 refine wpAny_execs_cons (wpAny_Assign_stores (dv (fun a ha=>nomatch ha) (gm wf C.eo C.base b1 (v:=.type "object") (by simp[bQ,sR]) (PySem.callWith_type (fG _) (gW (as:=[]) (env:=env) (Calls.spliced_nil (FD ?_)))))) rfl rfl)
 have k2:Keeps s₁ { s₁ with heap:=s₁.heap.push { cls:=.type "object",data:=.plain } }:=bt _
 have C2:=C.keeps wf k2
 show wpAny _ _ (assign (.Name ei (pW 0)) env (.ref s₁.heap.objs.size)) _ _ _
 refine wpAny_assign_Name (dJ (y:=.val (.ref s₁.heap.objs.size)) wf (hsto 1) C2 (hctx 1 _ rfl) (st _ (by simp[fW])) rfl fun s3 k3 C3=>?_)
 generalize s₁.heap.objs.size=star at C3
 have C3:Cond G env fdN.scope pn (A.deeper env) O' (fun U=>none) [.dat (.str ⟨cs.toArray⟩),.val (.ref star),.un] s3:=C3
 -- parts=_translate(pat,STAR,'.')
 have dbg:∀x∈fW,(x==ofString "__debug__")=false:=by decide +kernel
 refine x12 I.T.FI.at_ fun oT eT hdT=>?_
 refine x12 I.J.FI.at_ fun oJ eJ hdJ=>?_
 refine wpAny_execs_cons (wpAny_Assign_stores (dv (fun a ha=>by simp only[aa,bz,or_false]at ha;rcases ha with rfl | rfl | rfl<;>rfl) (gU wf C3.eo C3.base b2 (by decide +kernel) I.gT ?_)) rfl rfl)
 refine Calls.callWith_function (o:=oT) (fd:=fdT) (gW (Calls.spliced_cons (di C3 (hctx 0 _ rfl) (dbg _ (by simp[fW])) rfl fun v rv=>Calls.spliced_cons (fL C3 (hctx 1 _ rfl) (dbg _ (by simp[fW])) rfl (Calls.spliced_cons (wpAny_Constant_str (Calls.spliced_nil ?_)))))))
 cases rv with
 | str _ t =>
 have C4:=C3.keeps wf (aw s3 (s3.toks+1))
 refine⟨⟨C4.base.kp fT oT (wf.K fT oT eT),hdT⟩,?_⟩
 refine wpAny_mono (Fm wf hE I.T Rd C4.ok C4.base hcs hlen) (fun v s5 h5=>?_) fun U U e=>e
 have C5:=C4.keeps wf h5.1
 show wpAny _ _ (assign (.Name pj (pW 4)) env v) _ _ s5
 refine jv wf (hsto 2) C5 (hctx 2 _ rfl) (st _ (by simp[fW])) h5.2 fun s6 k6 C6=>?_
 have C6:Cond G env fdN.scope pn (A.deeper env) O' (fun U=>none) [.dat (.str ⟨cs.toArray⟩),.val (.ref star),.dat (.list (cs.map fun c=>.str (fk kG c)))] s6:=C6
 -- the rest
 refine wpAny_execs_cons (wpAny_Return_some (dv (fun a ha=>by simp only[aa,bz,or_false]at ha;rcases ha with rfl | rfl<;>rfl) (gU wf C6.eo C6.base b3 (by decide +kernel) I.gJ ?_)))
 refine Calls.callWith_function (o:=oJ) (fd:=fdJ) (gW (Calls.spliced_cons (di C6 (hctx 2 _ rfl) (dbg _ (by simp[fW])) rfl fun v rv=>Calls.spliced_cons (fL C6 (hctx 1 _ rfl) (dbg _ (by simp[fW])) rfl (Calls.spliced_nil ?_)))))
 refine⟨⟨C6.base.kp fJ oJ (wf.K fJ oJ eJ),hdJ⟩,?_⟩
 have rv':Rep O' s6.heap v (.list ((cs.map (fk kG)).map .str)):=by rw[dS];exact rv
 refine wpAny_mono (Fw wf I.J Rd C6.ok C6.base rv' (by rw[af];exact hlen) (fun x hx=>?_)) (fun v s7 h7=>?_) fun U U e=>e
 ·refine x12 (aA.mp hx) fun c U e2=>?_;subst e2
  unfold fk
  split
  ·decide
  ·show 2<=10;decide
 ·have km:KM (aT env) s₁ s7:=(((((KM.of k2).trans (k3.mono fun b q=>q.store)).trans (KM.of (aw s3 (s3.toks+1)))).trans (KM.of h5.1)).trans (k6.mono fun b q=>q.store)).trans (KM.of h7.1)
  refine hret _ _ ⟨?_,?_⟩
  ·obtain⟨h9,t9,rfl,p1,p2⟩:=km
   refine x22 k1 fun h1 t1' e2 q1=>?_;subst e2
   exact⟨h9,t9,rfl,fun b o e=>p1 b o (fun z=>by rw[hSt b z]at e;cases e) (q1 b o e)⟩
  ·have hval:kH.val [.str ⟨cs.toArray⟩]=.str (mC (cs.map (fk kG))):=by
    show PyData.str (mC (cs.toArray.toList.map (fk kG)))=_
    simp
   rw[hval]
   exact h7.2.weak hO1
end
end
section

inductive Topo(g:Gr):List Int->Prop where
 | nil:Topo g []
 | snoc {L:List Int} {k:Int} (t:Topo g L) (h:∀n∈aK g k,n∈L):Topo g (L++[k])
noncomputable def gz(g:Gr)(L:List Int):List (Int × Nat)->Int->Prop
 | [],_=>True
 | p::r,k=>∃i,p.2=i+1/\(aK g p.1)[i]? = some k/\(∀j,j<i->∀n,(aK g p.1)[j]? = some n->n∈L)/\gz g L r p.1
noncomputable def pp(g:Gr)(L:List Int):List (Int × Nat)->Prop
 | []=>True
 | p::r=>(∀j,j<p.2->∀n,(aK g p.1)[j]? = some n->n∈L)/\gz g L r p.1
section
variable{g:Gr}
theorem gz.mono{L L':List Int}(h:∀x∈L,x∈L'):∀ {st:List (Int × Nat)} {k:Int},gz g L st k->gz g L' st k
 | [],_,_=>trivial
 | _::_,_,⟨i,e,h1,h2,h3⟩=>⟨i,e,h1,fun j hj n hn=>h n (h2 j hj n hn),h3.mono h⟩
theorem gz.rdy{L:List Int}{st:List (Int × Nat)}{k:Int}(h:gz g L st k)(hk:k∈L):pp g L st:=by
 cases st with
 | nil=>trivial
 | cons p r =>
  refine x14 h fun i e h1 h2 h3=>?_
  refine⟨fun j hj n hn=>?_,h3⟩
  by_cases q:j=i
  ·rw[q,h1]at hn;exact Option.some.inj hn▸hk
  ·exact h2 j (Nat.lt_of_le_of_ne (Nat.le_of_lt_succ (Nat.lt_of_lt_of_le hj (cI e))) q) n hn
theorem yb:∀(st:List (Int × Nat)) (L:List Int) (st':List (Int × Nat)) (k':Int),Topo g L->pp g L st->cr g st=(st',some k') ->
 ∃L',Topo g L'/\gz g L' st' k'/\(∀x,x∈L\/x∈st.map (·.1)↔x∈L'\/x∈st'.map (·.1))/\∃p,k'∈aK g p
 | [],_,_,_,_,_,h=>nomatch h
 | (p,i)::r,L,st',k',t,hr,h=>by
  rw[iZ]at h
  cases hc:(aK g p)[i]? with
  | some n =>
   rw[hc]at h
   cases h
   exact⟨L,t,⟨i,rfl,hc,hr.1,hr.2⟩,fun x=>Iff.rfl,p,aE hc⟩
  | none =>
   rw[hc]at h
   have hall:∀n∈aK g p,n∈L:=fun n hn=>by
    refine x11 (mT.mp hn) fun j hj=>?_
    have:j<i:=Nat.lt_of_lt_of_le (cY.mp hj).1 (nc.mp hc)
    exact hr.1 j this n hj
   have t2:=t.snoc hall
   refine x14 (yb r (L++[p]) st' k' t2 ((hr.2.mono fun x hx=>bB _ hx).rdy (by simp)) h) fun L' a b c d=>?_
   refine⟨L',a,b,fun x=>?_,d⟩
   rw[<- c x]
   simp only[aH,aa,au,bz,or_false]
   constructor
   ·rintro (h | h | h)
    ·exact .inl (.inl h)
    ·exact .inl (.inr h)
    ·exact .inr h
   ·rintro ((h | h) | h)
    ·exact .inl h
    ·exact .inr (.inl h)
    ·exact .inr (.inr h)
theorem yc:∀(st:List (Int × Nat)) (L:List Int),Topo g L->pp g L st->(cr g st).2=none->∃L',Topo g L'/\∀x,x∈L\/x∈st.map (·.1)↔x∈L'
 | [],L,t,_,_=>⟨L,t,fun x=>by simp⟩
 | (p,i)::r,L,t,hr,h=>by
  rw[iZ]at h
  cases hc:(aK g p)[i]? with
  | some n=>rw[hc]at h;cases h
  | none =>
   rw[hc]at h
   have hall:∀n∈aK g p,n∈L:=fun n hn=>by
    refine x11 (mT.mp hn) fun j hj=>?_
    have:j<i:=Nat.lt_of_lt_of_le (cY.mp hj).1 (nc.mp hc)
    exact hr.1 j this n hj
   refine x12 (yc r (L++[p]) (t.snoc hall) ((hr.2.mono fun x hx=>bB _ hx).rdy (by simp)) h) fun L' a c=>?_
   refine⟨L',a,fun x=>?_⟩
   rw[<- c x]
   simp only[aH,aa,au,bz,or_false]
   constructor
   ·rintro (h | h | h)
    ·exact .inl (.inl h)
    ·exact .inl (.inr h)
    ·exact .inr h
   ·rintro ((h | h) | h)
    ·exact .inl h
    ·exact .inr (.inl h)
    ·exact .inr (.inr h)
noncomputable def yd(g:Gr)(C:List Int):Prop:=C≠[]/\∀z∈C,∃y∈C,z∈aK g y
theorem ye{L:List Int}{x:Int}:∀(st:List (Int × Nat)) (k:Int),gz g L st k->x∈st.map (·.1)->∃C:List Int,x∈C/\(∃y∈C,k∈aK g y)/\∀z∈C,z=x\/∃y∈C,z∈aK g y
 | p::r,k,⟨i,e,h1,h2,h3⟩,hx=>by
  have hk:=aE h1
  by_cases q:x=p.1
  ·exact⟨[p.1],by simp[q],⟨p.1,by simp,hk⟩,fun z hz=>.inl (by simp at hz;rw[hz,q])⟩
  ·have hx':x∈r.map (·.1):=by simpa[q]using hx
   refine x13 (ye r p.1 h3 hx') fun C c1 z2 c4=>?_;refine x12 z2 fun y c2 c3=>?_
   refine⟨p.1::C,by simp[c1],⟨p.1,by simp,hk⟩,fun z hz=>?_⟩
   rcases aa.mp hz with rfl | hz
   ·exact .inr ⟨y,by simp[c2],c3⟩
   ·exact(c4 z hz).imp id fun ζ=>ζ.elim fun y ζ=>ζ.elim fun a b=>⟨y,by simp[a],b⟩
theorem yf{st:List (Int × Nat)}{x:Int}:x∈cU st↔x∈st.map (·.1):=by simp[cU]
theorem yg:∀(n:Nat) (k:Int) (st:List (Int × Nat)) (sn L:List Int) (r:List Int ⊕ List Int),Topo g L->gz g L st k->(∀x,x∈sn↔x∈L\/x∈st.map (·.1))->dM g n k st sn=some r ->
 (∃c C,r=.inl c/\yd g C)\/∃sn' L',r=.inr sn'/\Topo g L'/\(∀x,x∈sn'↔x∈L')/\k∈L'/\∀x∈sn,x∈L'
 | 0,_,_,_,_,_,_,_,_,h=>nomatch h
 | n+1,k,st,sn,L,r,t,hs,he,h=>by
  rw[mh]at h
  by_cases hq:k∈sn/\k∈cU st
  ·rw[if_pos hq]at h
   cases h
   refine x13 (ye st k hs (yf.mp hq.2)) fun C c1 c2 c3=>?_
   exact .inl ⟨_,C,rfl,⟨fun e=>(by rw[e]at c1;cases c1),fun z hz=>(c3 z hz).elim (fun q=>q▸c2) id⟩⟩
  ·rw[if_neg hq]at h
   have hst:pp g L (if k∈sn then st else(k,0)::st)/\∀x,x∈(if k∈sn then sn else sn++[k])↔x∈L\/x∈(if k∈sn then st else(k,0)::st).map (·.1):=by
    by_cases hk:k∈sn
    ·rw[if_pos hk,if_pos hk]
     exact⟨hs.rdy (((he k).mp hk).resolve_right fun q=>hq ⟨hk,yf.mpr q⟩),he⟩
    ·rw[if_neg hk,if_neg hk]
     refine⟨⟨fun j hj=>absurd hj (Nat.not_lt_zero _),hs⟩,fun x=>?_⟩
     rw[au,he x,aH,aa,aa]
     simp only[bz,or_false]
     constructor
     ·rintro ((h | h) | h)
      ·exact .inl h
      ·exact .inr (.inr h)
      ·exact .inr (.inl h)
     ·rintro (h | h | h)
      ·exact .inl (.inl h)
      ·exact .inr h
      ·exact .inl (.inr h)
   have hsub:∀x,x=k\/x∈sn->x∈(if k∈sn then sn else sn++[k]):=fun x hx=>by
    by_cases hk:k∈sn
    ·rw[if_pos hk];exact hx.elim (fun q=>q▸hk) id
    ·rw[if_neg hk];exact hx.elim (fun q=>by simp[q]) fun q=>bB _ q
   generalize (if k∈sn then st else(k,0)::st)=st1 at h hst
   generalize (if k∈sn then sn else sn++[k])=sn1 at h hst hsub
   generalize ha:cr g st1=a at h
   obtain⟨st',o⟩:=a
   cases o with
   | none =>
    cases h
    refine x12 (yc st1 L t hst.1 (by rw[ha])) fun L' t' e'=>?_
    have e2:∀x,x∈sn1↔x∈L':=fun x=>(hst.2 x).trans (e' x)
    exact .inr ⟨sn1,L',rfl,t',e2,(e2 k).mp (hsub k (.inl rfl)),fun x hx=>(e2 x).mp (hsub x (.inr hx))⟩
   | some k' =>
    refine x14 (yb st1 L st' k' t hst.1 ha) fun L' t' hs' e' U=>?_
    rcases yg n k' st' sn1 L' r t' hs' (fun x=>(hst.2 x).trans (e' x)) h with q | ⟨sn',L'',r1,r2,r3,r4,r5⟩
    ·exact .inl q
    ·exact .inr ⟨sn',L'',r1,r2,r3,r5 k (hsub k (.inl rfl)),fun x hx=>r5 x (hsub x (.inr hx))⟩
theorem pq(N:Nat):∀(ks sn L:List Int) (r:Option (List Int)),Topo g L->(∀x,x∈sn↔x∈L)->fg g N ks sn=some r ->
 (r≠none/\∃C,yd g C)\/r=none/\∃L',Topo g L'/\(∀x∈ks,x∈L')/\∀x∈sn,x∈L'
 | [],sn,L,r,t,he,h=>by cases h;exact .inr ⟨rfl,L,t,fun x hx=>(nomatch hx),fun x hx=>(he x).mp hx⟩
 | k::ks,sn,L,r,t,he,h=>by
  rw[mi]at h
  by_cases hk:k∈sn
  ·rw[if_pos hk]at h
   refine(pq N ks sn L r t he h).imp id fun ζ=>ζ.elim fun a ζ=>ζ.elim fun L' ζ=>ζ.elim fun b ζ=>ζ.elim fun c d=>⟨a,L',b,fun x hx=>?_,d⟩
   exact(aa.mp hx).elim (fun q=>q▸d k hk) (c x)
  ·rw[if_neg hk]at h
   cases hw:dM g N k [] sn with
   | none=>rw[hw]at h;cases h
   | some w =>
    rw[hw]at h
    rcases yg N k [] sn L w t trivial (fun x=>by rw[he x];simp) hw with⟨c,C,rfl,hC⟩ | ⟨sn',L',rfl,r2,r3,r4,r5⟩
    ·cases h;exact .inl ⟨fun q=>(nomatch q),C,hC⟩
    ·refine(pq N ks sn' L' r r2 r3 h).imp id fun ζ=>ζ.elim fun a ζ=>ζ.elim fun L'' ζ=>ζ.elim fun b ζ=>ζ.elim fun c d=>⟨a,L'',b,fun x hx=>?_,fun x hx=>d x ((r3 x).mpr (r5 x hx))⟩
     exact(aa.mp hx).elim (fun q=>q▸d k ((r3 k).mpr r4)) (c x)
noncomputable def kI(g:Gr)(st:List (Int × Nat)):Nat:=(st.map fun p=>(aK g p.1).length - p.2).sum
noncomputable def dj(g:Gr)(ks sn:List Int):Nat:=((ks.filter fun k=>!sn.contains k).map fun k=>(aK g k).length+1).sum
theorem FJ{a i S:Nat}(h:i<a):a - (i+1)+S+1<=a - i+S :=
 ae (cI (Nat.add_right_comm ..)) (dm (cI (Nat.succ_pred_eq_of_pos (Nat.sub_pos_of_lt h))) S)
theorem yh:∀(st st':List (Int × Nat)) (k':Int),cr g st=(st',some k')->kI g st'+1<=kI g st
 | [],_,_,h=>nomatch h
 | (p,i)::r,st',k',h=>by
  rw[iZ]at h
  cases hc:(aK g p)[i]? with
  | some n =>
   rw[hc]at h
   cases h
   exact FJ (cY.mp hc).1
  | none =>
   rw[hc]at h
   exact ae (yh r st' k' h) (qW ..)
theorem yi{k:Int}{sn:List Int}(hs:k∉sn):∀(ks:List Int),dj g ks (sn++[k])<=dj g ks sn/\(k∈ks->dj g ks (sn++[k])+(aK g k).length+1<=dj g ks sn)
 | []=>⟨aL _,fun h=>(nomatch h)⟩
 | x::ks=>by
  refine ak (yi hs ks) fun i1 i2=>?_
  have key:∀(l:List Int),dj g (x::ks) l=(if l.contains x then 0 else(aK g x).length+1)+dj g ks l:=fun l=>by
   unfold dj
   rw[ft]
   cases hq:l.contains x<;>simp
  rw[key,key]
  by_cases q:x=k
  ·subst q
   have h1:(sn++[x]).contains x=true:=by simp
   have h2:sn.contains x=false:=by simpa using hs
   rw[h1,h2]
   simp only[if_true,lp,if_false]
   rw[jj]
   exact⟨ae i1 (qW ..),fun U=>ae (dm i1 ((aK g x).length+1)) (cI (Nat.add_comm ..))⟩
  ·have h1:(sn++[k]).contains x=sn.contains x:=by simp[q]
   rw[h1]
   exact⟨dQ i1 _,fun h=>ae (cI (lj _ _ ((aK g k).length+1))) (dQ (i2 ((aa.mp h).resolve_left fun z=>q z.symm)) _)⟩
theorem yj{ks:List Int}(hcl:∀p,∀n∈aK g p,n∈ks):∀(n:Nat) (k:Int) (st:List (Int × Nat)) (sn:List Int),k∈ks->dj g ks sn+kI g st<n->(dM g n k st sn).isSome=true
 | 0,_,_,_,_,h=>absurd h (Nat.not_lt_zero _)
 | n+1,k,st,sn,hk,h=>by
  rw[mh]
  by_cases hq:k∈sn/\k∈cU st
  ·rw[if_pos hq];rfl
  ·rw[if_neg hq]
   have hle:dj g ks (if k∈sn then sn else sn++[k])+kI g (if k∈sn then st else(k,0)::st)<=dj g ks sn+kI g st:=by
    by_cases hs:k∈sn
    ·rw[if_pos hs,if_pos hs];exact aL _
    ·rw[if_neg hs,if_neg hs]
     exact ae (cI (lj _ _ (kI g st)).symm) (dm (gI ((yi (g:=g) hs ks).2 hk)) _)
   generalize (if k∈sn then st else(k,0)::st)=st1 at hle ⊢
   generalize (if k∈sn then sn else sn++[k])=sn1 at hle ⊢
   generalize ha:cr g st1=a
   obtain⟨st',o⟩:=a
   cases o with
   | none=>rfl
   | some k' =>
    have hk':k'∈ks:=by
     have:∀(st:List (Int × Nat)),cr g st=(st',some k')->∃p,k'∈aK g p:=fun st=>by
      induction st with
      | nil=>intro h;cases h
      | cons p r ih =>
       intro h
       obtain⟨p,i⟩:=p
       rw[iZ]at h
       cases hc:(aK g p)[i]? with
       | some m=>rw[hc]at h;cases h;exact⟨p,aE hc⟩
       | none=>rw[hc]at h;exact ih h
     refine x11 (this st1 ha) fun p hp=>?_
     exact hcl p k' hp
    exact yj hcl n k' st' sn1 hk' (ae (dQ (yh st1 st' k' ha) _) (ae hle (Nat.le_of_lt_succ h)))
theorem sV{ks0:List Int}(hcl:∀p,∀n∈aK g p,n∈ks0){N:Nat}(hN:dj g ks0 []<N):∀(ks sn:List Int),(∀k∈ks,k∈ks0)->(fg g N ks sn).isSome=true
 | [],_,_=>rfl
 | k::ks,sn,hk=>by
  rw[mi]
  by_cases hs:k∈sn
  ·rw[if_pos hs];exact sV hcl hN ks sn fun x hx=>hk x (ar _ hx)
  ·rw[if_neg hs]
   have hun:∀(l:List Int),dj g l sn<=dj g l []:=fun l=>by
    induction l with
    | nil=>exact aL _
    | cons x l ih =>
     unfold dj at ih ⊢
     rw[ft,ft]
     cases sn.contains x with
     | true=>exact ae ih (qW ..)
     | false=>exact dQ ih _
   have:=yj hcl N k [] sn (hk k ag) (cR (hun ks0) hN)
   cases hw:dM g N k [] sn with
   | none=>rw[hw]at this;cases this
   | some w =>
    cases w with
    | inl c=>rfl
    | inr sn'=>exact sV hcl hN ks sn' fun x hx=>hk x (ar _ hx)
theorem yl:∀(n:Nat) (k:Int) (st:List (Int × Nat)) (sn c:List Int),dM g n k st sn=some (.inl c)->c.length<=st.length+n
 | 0,_,_,_,_,h=>nomatch h
 | n+1,k,st,sn,c,h=>by
  rw[mh]at h
  by_cases hq:k∈sn/\k∈cU st
  ·rw[if_pos hq]at h
   cases h
   simp only[hY,cU,bb,List.length_drop,List.length_reverse,af,td]
   exact nM (Nat.sub_le ..) (nX (aW n))
  ·rw[if_neg hq]at h
   have hl:(if k∈sn then st else(k,0)::st).length<=st.length+1:=by split<;>simp
   generalize (if k∈sn then st else(k,0)::st)=st1 at h hl
   generalize (if k∈sn then sn else sn++[k])=sn1 at h
   generalize ha:cr g st1=a at h
   obtain⟨st',o⟩:=a
   have hl2:∀(st st':List (Int × Nat)) (o:Option Int),cr g st=(st',o)->st'.length<=st.length:=fun st=>by
    induction st with
    | nil=>intro st' o h;cases h;exact aL _
    | cons p r ih =>
     intro st' o h
     obtain⟨p,i⟩:=p
     rw[iZ]at h
     cases hc:(aK g p)[i]? with
     | some m=>rw[hc]at h;cases h;exact aL _
     | none=>rw[hc]at h;exact ae (ih st' o h) (dH _)
   have h2:=hl2 st1 st' o ha
   cases o with
   | none=>cases h
   | some k'=>exact ae (yl n k' st' sn1 c h) (ae (dm (ae h2 hl) n) (cI (Nat.succ_add ..)))
theorem sW{N:Nat}:∀(ks sn c:List Int),fg g N ks sn=some (some c)->c.length<=N
 | [],_,_,h=>nomatch h
 | k::ks,sn,c,h=>by
  rw[mi]at h
  by_cases hs:k∈sn
  ·rw[if_pos hs]at h;exact sW ks sn c h
  ·rw[if_neg hs]at h
   cases hw:dM g N k [] sn with
   | none=>rw[hw]at h;cases h
   | some w =>
    rw[hw]at h
    cases w with
    | inl d=>cases h;simpa using yl N k [] sn _ hw
    | inr sn'=>exact sW ks sn' c h
end
end
section
open PySem PySem.W PyProof.Rows
noncomputable abbrev SB(P:Prop):={b:Bool // b=true->P}
section
variable{P Q:Prop}
noncomputable def SB.and(x:SB P)(y:SB Q):SB (P/\Q):=⟨x.1&&y.1,fun h=>aO h fun a b=>⟨x.2 a,y.2 b⟩⟩
noncomputable def SB.no:SB P:=⟨false,fun h=>nomatch h⟩
noncomputable def SB.tt(h:P):SB P:=⟨true,fun U=>h⟩
noncomputable def SB.dec[Decidable P]:SB P:=⟨decide P,of_decide_eq_true⟩
noncomputable def SB.imp{b c:Bool}(x:SB P):SB (b=c->P):=⟨if b=c then x.1 else true,fun h e=>x.2 ((if_pos e).symm.trans h)⟩
noncomputable def SB.all{α:Type}{P:α->Prop}(f:∀x,SB (P x))(xs:List α):SB (∀x∈xs,P x):=⟨xs.all fun x=>(f x).1,fun h x hx=>(f x).2 (aU.mp h x hx)⟩
end
noncomputable def FK(t:Bool):(x:SV)->SB (SV.ok t x)
 | .dat _=>⟨true,fun U=>by cases t<;>trivial⟩
 | .own _=>match t with
  | true=>.tt trivial
  | false=>.no
 | _=>.no
noncomputable def FL(op:Operator)(a b:Int):SB (ow op a b):=match op with
 | .Add | .Sub | .BitAnd | .BitOr | .BitXor=>.tt trivial
 | .FloorDiv=>(SB.dec (P:=0<b/\b<=1000000))
 | .Mod=>(SB.dec (P:=b≠0))
 | .Pow=>(SB.dec (P:=2<=a/\a<=64/\0<=b/\b<=64))
 | _=>.no
noncomputable def ym{b:Prop}[Decidable b](op:Operator):SB (op=.Add/\b):=match op with
 | .Add=>SB.and (.tt rfl) .dec
 | _=>.no
noncomputable def FM(op:Operator)(x y:PyData):SB (oy op x y):=match x,y with
 | .int a,.int b=>FL op a b
 | .str _,.str _=>ym op
 | .list _,.list _=>ym op
 | _,_=>.no
noncomputable def kJ(d:PyData):SB (b9 d):=SB.dec (P:=_/\_)
noncomputable def mD(x:PyData):(y:PyData)->SB (qD x y)
 | .list _=>SB.and (kJ x) .dec
 | .tuple _=>SB.and (kJ x) .dec
 | .str _=>match x with
  | .str _=>.tt trivial
  | _=>.no
 | _=>.no
noncomputable def FN(op:CmpOp)(x y:PyData):SB (oz op x y):=match op with
 | .Eq=>SB.and (kJ x) (kJ y)
 | .NotEq=>SB.and (kJ x) (kJ y)
 | .In=>mD x y
 | .NotIn=>mD x y
 | .Lt=>match x,y with
  | .int _,.int _=>.tt trivial
  | _,_=>.no
 | .IsNot=>match x,y with
  | .bool _,.bool _=>.tt trivial
  | _,_=>.no
 | _=>.no
noncomputable def sX(i:Int)(n:Nat):SB (eV i n):=SB.dec (P:=_/\_)
noncomputable def FO(x:PyData):(y:PyData)->SB (oA x y)
 | .int i=>match x with
  | .list ds=>sX i ds.length
  | .tuple ds=>sX i ds.length
  | .str x=>sX i x.length
  | _=>.no
 | _=>.no
noncomputable def FQ(d lo hi:PyData):SB (qG d lo hi):=match d with
 | .list _=>SB.dec (P:=_/\_)
 | .str _=>SB.dec (P:=_/\_)
 | _=>.no
noncomputable def FR:(d:PyData)->SB (qI d)
 | .list ds=>SB.dec (P:=ds.length<=_)
 | .tuple ds=>SB.dec (P:=ds.length<=_)
 | .str x=>SB.dec (P:=x.length<=_)
 | _=>.no
noncomputable def FS:(d:PyData)->SB (∃ds,d=.list ds/\qJ ds)
 | .list ds=>⟨decide (ds.length<=1000000/\∀d∈ds,isInt d=true/\-1000000000000<=bh d/\bh d<=1000000000000),fun h=>have q:=of_decide_eq_true h;⟨ds,rfl,q⟩⟩
 | _=>.no
noncomputable def FT(x:Str):(d:PyData)->SB (∃ds,d=.list ds/\oD x ds)
 | .list ds=>⟨decide ((∀d∈ds,isStr d=true)/\((ds.map dq).map (·.length)).sum+(ds.map dq).length * x.length<=16777216),fun h=>have q:=of_decide_eq_true h;⟨ds,rfl,q⟩⟩
 | _=>.no
noncomputable def FU:(d:PyData)->SB (vB d)
 | .list _=>.tt trivial
 | .tuple _=>.tt trivial
 | .str x=>SB.dec (P:=_=true)
 | _=>.no
noncomputable def FV:(d:PyData)->SB (lG d)
 | .int _=>SB.dec (P:=_/\_)
 | _=>.no
noncomputable def yn(tup:Bool)(slots:List Nat)(d:PyData):SB (bindP tup slots d):=match tup with
 | true=>.no
 | false=>SB.dec (P:=slots.length=1)
section
variable{Φ:List FEntry}
mutual
noncomputable def aZ:(e:IX)->(t:Bool)->(ρ:List SV)->SB (pre Φ e t ρ)
 | .var i,t,ρ=>FK t (ρ.getD i .un)
 | .lit _,_,_=>.tt trivial
 | .bin op a b,_,ρ=>.and (aZ a false ρ) (.and (aZ b false ρ) (FM op _ _))
 | .cmp op a b,_,ρ=>.and (aZ a true ρ) (.and (aZ b true ρ) (FN op _ _))
 | .neg a,_,ρ=>.and (aZ a false ρ) .dec
 | .bop o es,_,ρ=>yo o es ρ
 | .ite c a b,_,ρ=>.and (aZ c false ρ) (.and .dec (.and (.imp (aZ a false ρ)) (.imp (aZ b false ρ))))
 | .list es,_,ρ=>.and (sY es ρ) .dec
 | .tup es,_,ρ=>.and (sY es ρ) .dec
 | .sub a i,_,ρ=>.and (aZ a true ρ) (.and (aZ i false ρ) (FO _ _))
 | .slice a lo hi,_,ρ=>.and (aZ a true ρ) (.and (yp lo ρ) (.and (yp hi ρ) (FQ _ _ _)))
 | .len a,_,ρ=>.and (aZ a true ρ) (FR _)
 | .sum a,_,ρ=>.and (aZ a true ρ) (FS _)
 | .join a b,_,ρ=>.and (aZ a false ρ) (.and (aZ b true ρ) (.and .dec (FT _ _)))
 | .comp n tup slots it ifs rest,_,ρ=>.and (pr it true ρ) (.and (.all (fun d=>.and (yn tup slots d) (.and (sZ ifs _) (.imp (yq rest _)))) _) .dec)
 | _,_,_=>.no
noncomputable def yo(o:Bool):(e:IX)->(ρ:List SV)->SB (lH Φ o e ρ)
 | .cons a b,ρ=>.and (aZ a false ρ) (.imp (.and .dec (.imp (yo o b ρ))))
 | _,_=>.no
noncomputable def yp:(e:IX)->(ρ:List SV)->SB (oE Φ e ρ)
 | .cons a .nil,ρ=>aZ a false ρ
 | .nil,_=>.tt trivial
 | _,_=>.no
noncomputable def sY:(e:IX)->(ρ:List SV)->SB (eC Φ e ρ)
 | .cons a b,ρ=>.and (aZ a false ρ) (sY b ρ)
 | .nil,_=>.tt trivial
 | _,_=>.no
noncomputable def sZ:(e:IX)->(ρ:List SV)->SB (j3 Φ e ρ)
 | .cons a b,ρ=>.and (aZ a false ρ) (.and .dec (.imp (sZ b ρ)))
 | .nil,_=>.tt trivial
 | _,_=>.no
noncomputable def pr:(e:IX)->(t:Bool)->(ρ:List SV)->SB (gg Φ e t ρ)
 | .range1 a,_,ρ=>.and (aZ a false ρ) (FV _)
 | .seq e,t,ρ=>.and (aZ e t ρ) (FU _)
 | _,_,_=>.no
noncomputable def yq:(e:IX)->(ρ:List SV)->SB (oF Φ e ρ)
 | .gen tup slots it ifs rest,ρ=>.and (pr it false ρ) (.all (fun d=>.and (yn tup slots d) (.and (sZ ifs _) (.imp (yq rest _)))) _)
 | .emit e,ρ=>aZ e false ρ
 | _,_=>.no
end
end
theorem dP{Φ:List FEntry}{ρ:List SV}:∀ {e:IX},pre Φ e false ρ->pre Φ e true ρ:=by
 intro e h
 cases e<;>first | exact h | skip
 revert h
 show SV.ok false _->SV.ok true _
 cases ρ.getD _ .un<;>intro h<;>first | exact h.elim | trivial
noncomputable def Ok(Φ:List FEntry)(e:IX)(ρ:List SV)(d:PyData):Prop:=pre Φ e false ρ/\den Φ e ρ=d
theorem fX{Φ:List FEntry}{e:IX}{ρ:List SV}{d:PyData}(h:((aZ (Φ:=Φ) e false ρ).1,den Φ e ρ)=(true,d)):Ok Φ e ρ d :=
 ⟨(aZ e false ρ).2 (congrArg Prod.fst h),congrArg Prod.snd h⟩
theorem i8{Φ:List FEntry}{α:Type}{e:IX}{xs:List α}{r:α->List SV}{f:α->PyData}(h:xs.map (fun x=>((aZ (Φ:=Φ) e false (r x)).1,den Φ e (r x)))=xs.map fun x=>(true,f x)):∀x∈xs,Ok Φ e (r x) (f x) :=
 fun x hx=>fX (ng.mp h x hx)
noncomputable def mE:Fl->PyData
 | .ret d=>d
 | _=>.none
noncomputable def FW:Fl->Bool
 | .ret _=>true
 | _=>false
noncomputable def jG(n:Str)(k:Nat)(Φ:List FEntry)(S:SX)(V:List Str)(T:List (List PyData)):FEntry:=⟨n,k,fun ds=>ds∈T,fun ds=>mE (av Φ S (aY V ds)).1⟩
theorem mG{n:Str}{k m:Nat}{Φ:List FEntry}{S:SX}{V:List Str}{T:List (List PyData)}(B:∀ρ,SB (aM Φ S ρ))(h:(T.all fun ds=>Nat.beq ds.length m&&(B (aY V ds)).1&&FW (av Φ S (aY V ds)).1)=true)(ds:List PyData)(hd:(jG n k Φ S V T).pre ds) :
 ds.length=m/\aM Φ S (aY V ds)/\(av Φ S (aY V ds)).1=.ret ((jG n k Φ S V T).val ds):=by
 refine dW (aU.mp h ds hd) fun h1 h2 h3=>⟨Nat.eq_of_beq_eq_true h1,(B _).2 h2,?_⟩
 show _=Fl.ret (mE (av Φ S (aY V ds)).1)
 revert h3
 cases(av Φ S (aY V ds)).1<;>intro h3<;>first | rfl | exact absurd h3 Kr
section
variable{Φ:List FEntry}{p:Prim}{r:SX}{ρ ρ1:List SV}{d:PyData}
noncomputable def SB.nx(hp:SB (p.pre ρ))(e:p.den ρ=(.next,ρ1))(x:SB (aM Φ r ρ1)):SB (aM Φ (.prim p r) ρ):=⟨hp.1&&x.1,fun h=>aO h fun a b=>⟨hp.2 a,fun ρ' q=>by rw[e]at q;cases q;exact x.2 b⟩⟩
noncomputable def SB.rt(hp:SB (p.pre ρ))(e:p.den ρ=(.ret d,ρ1)):SB (aM Φ (.prim p r) ρ):=⟨hp.1,fun a=>⟨hp.2 a,fun ρ' q=>by rw[e]at q;cases q⟩⟩
noncomputable def yr{Pc Pb:List SV->Prop}(pc:∀ρ,SB (Pc ρ))(pb:∀ρ,SB (Pb ρ))(c:List SV->Bool)(f:List SV->Fl × List SV):∀n ρ,SB (oQ Pc Pb c f n ρ)
 | 0,_=>.no
 | n+1,ρ=>.and (pc ρ) (.imp (.and (pb ρ) (match f ρ with
  | (.next,ρ')=>yr pc pb c f n ρ'
  | (.brk,_)=>.tt trivial
  | (.ret _,_)=>.tt trivial)))
noncomputable def SB.whl{n:Nat}{c:IX}{body:SX}(B:∀ρ,SB (aM Φ body ρ))(R:∀ρ,SB (aM Φ r ρ))(ρ:List SV):SB (aM Φ (.whl n c body r) ρ) :=
 .and (yr (fun ρ=>.and (aZ c false ρ) .dec) B _ _ n ρ) ⟨match g7 (fun ρ=>aB (den Φ c ρ)) (av Φ body) n ρ with
  | (.next,ρ1)=>(R ρ1).1
  | _=>true,fun h ρ' e=>by rw[e]at h;exact(R ρ').2 h⟩
noncomputable def SB.skip:SB (aM Φ .skip ρ):=.tt trivial
noncomputable def yt:(x:SV)->SB (jx x)
 | .own _=>.tt trivial
 | _=>.no
noncomputable def SB.frz{i:Nat}(y:SB (aM Φ r (ρ.set i (.dat (ρ.getD i .un).data)))):SB (aM Φ (.frz i r) ρ):=.and (yt _) y
end
noncomputable def mH:List Str:=[ofString "x",ofString "switch",ofString "signs"]
noncomputable def mI:SX:=(.prim (cG [] 2 (.list (.cons (.sub (.lit (.str (ofString "-+?"))) (.bin .Mod (.var 0) (.lit (.int 3)))) (.cons (.sub (.lit (.str (ofString "-+?"))) (.bin .Mod (.bin .FloorDiv (.var 0) (.lit (.int 3))) (.lit (.int 3)))) .nil)))) (.prim (eb [] (.join (.lit (.str (ofString ""))) (.bin .Add (.bin .Add (.slice (.var 2) .nil (.cons (.var 1) .nil)) (.list (.cons (.lit (.str (ofString "?"))) .nil))) (.slice (.var 2) (.cons (.var 1) .nil) .nil)))) .skip))
noncomputable def mJ:List Str:=[ofString "text",ofString "pieces",ofString "k",ofString "size"]
noncomputable def mK:SX:=(.prim (lU [] [1,2] [(true,(.list .nil)),(false,(.lit (.int 4)))]) (.whl 64 (.cmp .Lt (.var 2) (.bin .Sub (.len (.var 0)) (.lit (.int 3)))) (.prim (cG [] 3 (.ite (.cmp .Eq (.sub (.var 0) (.var 2)) (.lit (.str (ofString "\\")))) (.lit (.int 2)) (.lit (.int 1)))) (.prim (iS [] 1 (.slice (.var 0) (.cons (.var 2) .nil) (.cons (.bin .Add (.var 2) (.var 3)) .nil))) (.prim (cG [] 2 (.bin .Add (.var 2) (.var 3))) .skip))) (.frz 1 (.prim (eb [] (.ite (.bop false (.cons (.cmp .Eq (.slice (.var 0) .nil (.cons (.lit (.int 4)) .nil)) (.lit (.str (ofString "(?s:")))) (.cons (.cmp .Eq (.slice (.var 0) (.cons (.neg (.lit (.int 3))) .nil) .nil) (.lit (.str (ofString ")\\Z")))) .nil))) (.var 1) (.list .nil))) .skip))))
noncomputable def mL:List Str:=[ofString "pieces",ofString "name"]
noncomputable def mM:SX:=(.prim (eb [] (.bop false (.cons (.cmp .Eq (.len (.var 0)) (.lit (.int 3))) (.cons (.cmp .Eq (.comp 1 false [2] (.range1 (.lit (.int 3))) (.cons (.cmp .NotIn (.sub (.var 0) (.var 2)) (.tup (.cons (.lit (.str (ofString "."))) (.cons (.bin .Add (.lit (.str (ofString "\\"))) (.sub (.var 1) (.var 2))) .nil)))) .nil) (.emit (.var 2))) (.list .nil)) .nil)))) .skip)
noncomputable def mO:List Str:=[ofString "one",ofString "name"]
noncomputable def mQ:SX:=(.prim (eb [] (.cmp .Eq (.comp 1 false [2] (.range1 (.lit (.int 3))) (.cons (.cmp .NotIn (.sub (.var 0) (.var 2)) (.tup (.cons (.lit (.str (ofString "?"))) (.cons (.sub (.var 1) (.var 2)) .nil)))) .nil) (.emit (.var 2))) (.list .nil))) .skip)
noncomputable def mR:List Str:=[ofString "free"]
noncomputable def mS:SX:=(.prim (eb [] (.comp 1 false [1] (.range1 (.bin .Pow (.lit (.int 2)) (.len (.var 0)))) .nil (.emit (.comp 1 false [2] (.range1 (.len (.var 0))) (.cons (.cmp .Eq (.bin .Mod (.bin .FloorDiv (.var 1) (.bin .Pow (.lit (.int 2)) (.var 2))) (.lit (.int 2))) (.lit (.int 1))) .nil) (.emit (.sub (.var 0) (.var 2))))))) .skip)
noncomputable def jH:List Str:=[ofString "rows",ofString "sorter",ofString "row"]
noncomputable def jI:SX:=(.prim (xv 1) (.for false [2] (.seq (.var 0)) (.prim (mv [] 1 (.var 2)) .skip) (.prim (rY 1 (.bool false)) (.prim (eb [] (.lit (.bool true))) .skip))))
noncomputable def FY(ρ:List SV):SB (aM [] mI ρ):=.nx (aZ _ false ρ) rfl (.rt (aZ _ false _) rfl)
noncomputable def FZ(ρ:List SV):SB (aM [] mK ρ):=.nx (.and (.and (aZ _ false ρ) (.and (aZ _ false ρ) (.tt trivial))) (.tt (bl rfl))) rfl
 (SB.whl (fun U=>.nx (aZ _ false _) rfl (.nx (.and (yt _) (.and (aZ _ false _) .dec)) rfl (.nx (aZ _ false _) rfl .skip))) (fun U=>.frz (.rt (aZ _ false _) rfl)) _)
noncomputable def F0(ρ:List SV):SB (aM [] mM ρ):=.rt (aZ _ false ρ) rfl
noncomputable def F5(ρ:List SV):SB (aM [] mQ ρ):=.rt (aZ _ false ρ) rfl
noncomputable def F7(ρ:List SV):SB (aM [] mS ρ):=.rt (aZ _ false ρ) rfl
noncomputable def iD(n:Nat):PyData:=.int n
noncomputable def LD(l:List Nat):PyData:=.list (l.map iD)
noncomputable def fY:List (Nat × Nat):=(ao 3).flatMap fun s=>(ao 9).map fun v=>(s,v)
noncomputable def nm(n:Nat):PyData:=.str ⟨#[if n % 2=0 then 45 else 43,if n / 2 % 2=0 then 45 else 43,if n / 4 % 2=0 then 45 else 43]⟩
noncomputable def dg(s v k:Nat):Nat:=if k=s then 2 else if k=(if s=0 then 1 else 0)then v % 3 else v / 3
noncomputable def sg(d:Nat):Nat:=if d=0 then 45 else if d=1 then 43 else 63
noncomputable def PD(s v:Nat):PyData:=.str ⟨((ao 3).map fun k=>sg (dg s v k)).toArray⟩
noncomputable def yu(s v:Nat):List (List Nat):=(ao 3).map fun k=>if dg s v k=2 then[46]else[92,sg (dg s v k)]
noncomputable def TD(s v:Nat):PyData:=.str ⟨(40::63::115::58::((yu s v).flatMap id++[41,92,90])).toArray⟩
noncomputable def GD(s v:Nat):PyData:=.list ((yu s v).map fun l=>.str ⟨l.toArray⟩)
noncomputable def jJ:FEntry:=jG (ofString "_law_pattern") 2 [] mI mH (fY.map fun p=>[iD p.2,iD p.1])
noncomputable def jK:FEntry:=jG (ofString "_law_pieces") 2 [] mK mJ (fY.map fun p=>[TD p.1 p.2])
noncomputable def kK:FEntry:=jG (ofString "_law_takes") 3 [] mM mL (fY.flatMap fun p=>(ao 8).map fun n=>[GD p.1 p.2,nm n])
noncomputable def kL:FEntry:=jG (ofString "_law_like") 3 [] mQ mO (fY.flatMap fun p=>(ao 8).map fun n=>[PD p.1 p.2,nm n])
noncomputable def fn:List (List Nat):=[[0,1],[0,2],[1,2],[0,1,2]]
noncomputable def kM:FEntry:=jG (ofString "_law_parts") 4 [] mS mR (fn.map fun F=>[LD F])
theorem F8:∀ds,jJ.pre ds->ds.length=2/\aM [] mI (aY mH ds)/\(av [] mI (aY mH ds)).1=.ret (jJ.val ds):=mG FY (by kernel_rfl)
theorem F9:∀ds,jK.pre ds->ds.length=1/\aM [] mK (aY mJ ds)/\(av [] mK (aY mJ ds)).1=.ret (jK.val ds):=mG FZ (by kernel_rfl)
theorem Ga:∀ds,kK.pre ds->ds.length=2/\aM [] mM (aY mL ds)/\(av [] mM (aY mL ds)).1=.ret (kK.val ds):=mG F0 (by kernel_rfl)
theorem Gb:∀ds,kL.pre ds->ds.length=2/\aM [] mQ (aY mO ds)/\(av [] mQ (aY mO ds)).1=.ret (kL.val ds):=mG F5 (by kernel_rfl)
theorem Gc:∀ds,kM.pre ds->ds.length=1/\aM [] mS (aY mR ds)/\(av [] mS (aY mR ds)).1=.ret (kM.val ds):=mG F7 (by kernel_rfl)
noncomputable def Gd:List Nat:=[1,2,3,4,8,12,5,10,15]
noncomputable def Ge(s n:Nat):Nat:=if s=0 then n / 2 else if s=1 then n % 2+2 * (n / 4)else n % 4
noncomputable def tk(s v n:Nat):Bool:=tg (Gd.getD v 0) (Ge s n)
noncomputable def mU(f g:Nat->Nat->Nat->PyData):Prop:=(fY.flatMap fun p=>(ao 8).map fun n=>f p.1 p.2 n)=fY.flatMap fun p=>(ao 8).map fun n=>g p.1 p.2 n
theorem Gf:(fY.map fun p=>(jJ.val [iD p.2,iD p.1],kH.val [PD p.1 p.2],jK.val [TD p.1 p.2]))=fY.map fun p=>(PD p.1 p.2,TD p.1 p.2,GD p.1 p.2):=by kernel_rfl
theorem Gg:mU (fun s v n=>kK.val [GD s v,nm n]) fun s v n=>.bool (tk s v n):=by unfold mU;kernel_rfl
theorem Gh:mU (fun s v n=>kL.val [PD s v,nm n]) fun s v n=>.bool (tk s v n):=by unfold mU;kernel_rfl
noncomputable def ig(g:Gr)(p:Int):Prop:=∃q∈g,q.1=p
structure GI(R:Int->Int->Prop)(m l:Nat)(g:Gr):Prop where
 len:g.length<=m
 sl:∀q∈g,q.2.2.length<=l
 e1:∀q∈g,∀n∈q.2.2,R q.1 n
structure UpG(R:Int->Int->Prop)(a b:Nat)(g g':Gr):Prop where
 gi:∀m l,GI R m l g->GI R (m+a) (l+b) g'
 su:∀p n,n∈aK g p->n∈aK g' p
 ky:∀p,ig g p->ig g' p
section
variable{R:Int->Int->Prop}{g g' g'':Gr}{a b c d:Nat}
theorem UpG.trans(x:UpG R a b g g')(y:UpG R c d g' g''):UpG R (a+c) (b+d) g g'' :=
 ⟨fun m l h=>lj m a c▸lj l b d▸y.gi _ _ (x.gi _ _ h),fun p n h=>y.su p n (x.su p n h),fun p h=>y.ky p (x.ky p h)⟩
theorem yv{f:Int × Int × List Int->Int × Int × List Int}(hf:∀q,(f q).1=q.1)(p:Int):aK (g.map f) p=match g.find? fun q=>q.1=p with | some q=>(f q).2.2 | none=>[]:=by
 unfold aK
 rw[List.find?_map,show((fun q:Int × Int × List Int=>decide (q.1=p)) ∘ f)=fun q=>decide (q.1=p)from funext fun q=>by show decide ((f q).1=p)=_;rw[hf]]
 cases g.find? fun q=>q.1=p<;>rfl
theorem Gi{f:Int × Int × List Int->Int × Int × List Int}(hf:∀q,(f q).1=q.1){p:Int}(h:ig g p):ig (g.map f) p :=
 h.elim fun q ζ=>ζ.elim fun h1 h2=>⟨f q,List.mem_map_of_mem h1,(hf q).trans h2⟩
theorem yw{f:Int × Int × List Int->Int × Int × List Int}(hf:∀q,(f q).1=q.1)(hs:∀q,∃l,(f q).2.2=q.2.2++l/\l.length<=a/\∀n∈l,R q.1 n):UpG R 0 a g (g.map f) where
 gi m l h:=⟨by rw[af];exact h.len,fun q hq=>by
  refine x12 (aA.mp hq) fun q' h1 e2=>?_;subst e2
  refine x13 (hs q') fun l e hl U=>?_
  rw[e,bb];exact nM (h.sl q' h1) hl,fun q hq n hn=>by
  refine x12 (aA.mp hq) fun q' h1 e2=>?_;subst e2
  refine x13 (hs q') fun l e U hr=>?_
  rw[e]at hn
  rw[hf]
  exact(au.mp hn).elim (h.e1 q' h1 n) (hr n)⟩
 su p n h:=by
  rw[yv hf]
  unfold aK at h
  cases e:g.find? fun q=>q.1=p with
  | none=>rw[e]at h;exact h
  | some q=>
   rw[e]at h
   refine x12 (hs q) fun l e' U=>?_
   show n∈(f q).2.2
   rw[e'];exact bB _ h
 ky p h:=Gi hf h
theorem yx(k:Int):UpG R 1 0 g (ch k g)/\ig (ch k g) k:=by
 unfold ch
 by_cases h:(g.any fun p=>p.1==k)=true
 ·rw[if_pos h]
  refine x12 (cM.mp h) fun q h1 h2=>?_
  exact⟨⟨fun m l h=>⟨Nat.le_succ_of_le h.len,h.sl,h.e1⟩,fun U U h=>h,fun U h=>h⟩,q,h1,eq_of_beq h2⟩
 ·rw[if_neg h]
  refine⟨⟨fun m l h=>⟨by rw[bb];exact nX h.len,fun q hq=>?_,fun q hq=>?_⟩,fun p n h=>?_,fun p ζ=>ζ.elim fun q ζ=>ζ.elim fun h1 h2=>⟨q,bB _ h1,h2⟩⟩,(k,0,[]),dG _ (ai.mpr rfl),rfl⟩
  ·rcases au.mp hq with hq | hq
   ·exact h.sl q hq
   ·rw[ai.mp hq];exact aW _
  ·rcases au.mp hq with hq | hq
   ·exact h.e1 q hq
   ·rw[ai.mp hq];exact fun n hn=>nomatch hn
  ·unfold aK at h ⊢
   rw[List.find?_append]
   cases e:g.find? fun q=>q.1=p with
   | none=>rw[e]at h;exact nomatch h
   | some q=>rw[e]at h;exact h
theorem Gj{p k:Int}(hR:R p k)(hk:ig g p):UpG R 0 1 g (fa p k g)/\k∈aK (fa p k g) p:=by
 have hf:∀q:Int × Int × List Int,(if q.1=p then(q.1,q.2.1,q.2.2++[k])else q).1=q.1:=fun q=>by split<;>rfl
 refine⟨yw hf fun q=>?_,?_⟩
 ·split
  ·rename_i e;exact⟨[k],rfl,aL _,fun n hn=>by rw[ai.mp hn,e];exact hR⟩
  ·exact⟨[],(c5 _).symm,aW _,fun n hn=>nomatch hn⟩
 ·unfold fa
  rw[yv hf]
  refine x12 hk fun q h1 h2=>?_
  cases e:g.find? fun q=>q.1=p with
  | none=>exact absurd (decide_eq_true h2) (List.find?_eq_none.mp e q h1)
  | some q' =>
   have:=List.find?_some e
   have:=of_decide_eq_true this
   dsimp only
   rw[if_pos this];exact dG _ (ai.mpr rfl)
theorem yy{k:Int}:∀(ps:List Int) (g:Gr),(∀p∈ps,R p k)->UpG R ps.length ps.length g (ps.foldl (fun g p=>fa p k (ch p g)) g)/\∀p∈ps,k∈aK (ps.foldl (fun g p=>fa p k (ch p g)) g) p
 | [],g,_=>⟨⟨fun U U h=>h,fun U U h=>h,fun U h=>h⟩,fun p h=>nomatch h⟩
 | p::ps,g,h=>by
  have h1:=yx (R:=R) (g:=g) p
  have h2:=Gj (g:=ch p g) (h p ag) h1.2
  have h3:=yy ps (fa p k (ch p g)) fun q hq=>h q (ar _ hq)
  refine⟨?_,fun q hq=>(aa.mp hq).elim (fun e=>e▸h3.1.su _ _ h2.2) (h3.2 q)⟩
  have:=(h1.1.trans h2.1).trans h3.1
  rw[show(p::ps).length=1+ps.length from Nat.add_comm ..]
  rw[jj]at this
  exact this
theorem yz{k:Int}{ps:List Int}(h:∀p∈ps,R p k)(hl:ps.length<=3):UpG R 4 3 g (iW k ps g)/\ig (iW k ps g) k/\∀p∈ps,k∈aK (iW k ps g) p:=by
 have h1:=yx (R:=R) (g:=g) k
 have hf:∀q:Int × Int × List Int,(if q.1=k then(q.1,q.2.1+(ps.length:Int),q.2.2)else q).1=q.1:=fun q=>by split<;>rfl
 have h2:UpG R 0 0 (ch k g) (hH k ps.length (ch k g)):=yw hf fun q=>⟨[],by split<;>exact(c5 _).symm,aL _,fun n hn=>nomatch hn⟩
 have h3:=yy (R:=R) ps (hH k ps.length (ch k g)) h
 have h4:=(h1.1.trans h2).trans h3.1
 exact⟨⟨fun m l q=>let r:=h4.gi m l q;⟨ae r.len (by lia),fun x hx=>ae (r.sl x hx) (by lia),r.e1⟩,h4.su,h4.ky⟩,h3.1.ky _ (h2.ky _ h1.2),h3.2⟩
end
theorem mV{α:Type}{f:α->Nat}{B:Nat}:∀ {l:List α},(∀x∈l,f x<=B)->(l.map f).sum<=l.length * B
 | [],_=>aW _
 | x::l,h=>by
  have h1:=h x ag
  have h2:=mV (l:=l) fun y hy=>h y (ar _ hy)
  rw[aH,tX,cZ,Nat.succ_mul,Nat.add_comm]
  exact nM h2 h1
noncomputable def jL(g:Gr):Nat:=g.foldl (fun m q=>m+q.2.2.length) 0
theorem yA(g:Gr):jL g=(g.map fun q=>q.2.2.length).sum:=by
 have:∀(g:Gr) (m:Nat),g.foldl (fun m q=>m+q.2.2.length) m=m+(g.map fun q=>q.2.2.length).sum:=fun g=>by
  induction g with
  | nil=>intro m;rfl
  | cons q g ih=>intro m;rw[List.foldl_cons,ih,aH,tX,lj]
 rw[jL,this,jj]
theorem yB{α:Type}{f:α->Nat}{x:α}:∀ {l:List α},x∈l->f x<=(l.map f).sum
 | y::l,h=>by
  rw[aH,tX]
  rcases aa.mp h with rfl | h
  ·exact ip _ _
  ·exact ae (yB h) (qW _ _)
theorem yC{g:Gr}{p n:Int}(h:n∈aK g p):∃q∈g,q.1=p/\n∈q.2.2:=by
 unfold aK at h
 cases e:g.find? fun q=>q.1=p with
 | none=>rw[e]at h;exact nomatch h
 | some q=>rw[e]at h;have:=List.find?_some e;exact⟨q,List.mem_of_find?_eq_some e,of_decide_eq_true this,h⟩
theorem Gk(g:Gr)(p:Int):(aK g p).length<=jL g:=by
 unfold aK
 cases e:g.find? fun q=>q.1=p with
 | none=>exact aW _
 | some q=>rw[yA];exact yB (f:=fun q:Int × Int × List Int=>q.2.2.length) (List.mem_of_find?_eq_some e)
noncomputable abbrev gC:=Int × List Int
noncomputable def dR(r:gC):PyData:=.list (.int r.1::r.2.map .int)
noncomputable def cw(g:Gr)(r:gC):Gr:=iW r.1 r.2 g
noncomputable def pt(rows:List gC):Prop:=rows.length<=8/\∀r∈rows,r.2.length<=3/\∀m∈r.2,∃r'∈rows,r'.1=m
noncomputable def RR(rows:List gC)(p n:Int):Prop:=∃r∈rows,r.1=n/\p∈r.2
theorem yD{R:Int->Int->Prop}:∀(rows:List gC) (g:Gr),(∀r∈rows,r.2.length<=3/\∀p∈r.2,R p r.1) ->
 UpG R (4 * rows.length) (3 * rows.length) g (rows.foldl cw g)/\∀r∈rows,ig (rows.foldl cw g) r.1/\∀p∈r.2,r.1∈aK (rows.foldl cw g) p
 | [],g,_=>⟨⟨fun U U h=>h,fun U U h=>h,fun U h=>h⟩,fun r h=>nomatch h⟩
 | r::rows,g,h=>by
  have h1:=yz (g:=g) (h r ag).2 (h r ag).1
  have h2:=yD rows (cw g r) fun r hr=>h r (ar _ hr)
  refine⟨?_,fun r' hr=>?_⟩
  ·have:=h1.1.trans h2.1
   rw[show 4 * (r::rows).length=4+4 * rows.length from Nat.add_comm ..,show 3 * (r::rows).length=3+3 * rows.length from Nat.add_comm ..]
   exact this
  ·rcases aa.mp hr with rfl | hr
   ·exact⟨h2.1.ky _ h1.2.1,fun p hp=>h2.1.su _ _ (h1.2.2 p hp)⟩
   ·exact h2.2 r' hr
theorem Gl{g:Gr}{L:List Int}(t:Topo g L):∀y∈L,∀x∈aK g y,x∈L:=by
 induction t with
 | nil=>exact fun y h=>nomatch h
 | snoc t h ih =>
  intro y hy x hx
  rcases au.mp hy with hy | hy
  ·exact bB _ (ih y hy x hx)
  ·rw[ai.mp hy]at hx;exact bB _ (h x hx)
theorem Gm{g:Gr}{L:List Int}(t:Topo g L){C:Int->Prop}(hC:∀x,C x->∃y,C y/\x∈aK g y):(∀x,C x->x∈L)->∀x,¬C x:=by
 induction t with
 | nil=>exact fun h x hx=>nomatch h x hx
 | @snoc L k t h ih =>
  refine fun hL=>ih fun x hx=>?_
  refine x12 (hC x hx) fun y hy hxy=>?_
  rcases au.mp (hL y hy)with q | q
  ·exact Gl t y q x hxy
  ·rw[ai.mp q]at hxy;exact h x hxy
section
variable{rows:List gC}(h:pt rows)
include h
theorem pu:GI (RR rows) 32 24 (rows.foldl cw [])/\∀r∈rows,ig (rows.foldl cw []) r.1/\∀p∈r.2,r.1∈aK (rows.foldl cw []) p:=by
 have u:=yD (R:=RR rows) rows [] fun r hr=>⟨(h.2 r hr).1,fun p hp=>⟨r,hr,rfl,hp⟩⟩
 have z:=u.1.gi 0 0 ⟨aL _,fun q hq=>(nomatch hq),fun q hq=>nomatch hq⟩
 have h8:=h.1
 exact⟨⟨ae z.len (ae (cI (jj _)) (nN 4 h8)),fun q hq=>ae (z.sl q hq) (ae (cI (jj _)) (nN 3 h8)),z.e1⟩,u.2⟩
theorem yE(p n:Int)(hn:n∈aK (rows.foldl cw []) p):n∈(rows.foldl cw []).map (·.1):=by
 have u:=pu h
 refine x13 (yC hn) fun q h1 U h3=>?_
 refine x13 (u.1.e1 q h1 n h3) fun r r1 r2 U=>?_
 refine x12 ((u.2 r r1).1) fun q' a b=>?_
 exact aA.mpr ⟨q',a,b.trans r2⟩
theorem tj:xy (rows.foldl cw []):=by
 have u:=pu h
 have hk:=yE h
 generalize rows.foldl cw []=g at u hk
 have ht:jL g<=768:=by
  rw[yA]
  exact ae (mV u.1.sl) (Nat.mul_le_mul_right 24 u.1.len)
 have hf:pd g=(g.length+2) * (jL g+g.length+4)+10:=rfl
 have hN:dj g (g.map (·.1)) []<pd g:=by
  have e:dj g (g.map (·.1)) []<=g.length * (jL g+1):=by
   unfold dj
   refine ae (mV (B:=jL g+1) fun x U=>nX (Gk g x)) (Nat.mul_le_mul_right _ ?_)
   exact ae (cc ..) (by rw[af];exact aL _)
  exact cR e (cR (Nat.mul_le_mul (ip _ 2) (nM (ip ..) (by decide:1<=4))) (Nat.lt_add_of_pos_right (by decide:0<10)))
 have hs:=sV hk hN (g.map (·.1)) [] fun k q=>q
 refine⟨fun q hq n hn=>?_,ae u.1.len (by decide),?_⟩
 ·refine x13 (u.1.e1 q hq n hn) fun r r1 r2 U=>?_
  refine x12 ((u.2 r r1).1) fun q' a b=>?_
  exact⟨q',a,b.trans r2⟩
 ·cases e:pe g with
  | none=>unfold pe kA at e;rw[e]at hs;cases hs
  | some r=>
   refine⟨r,rfl,fun c hc=>ae (sW _ _ c (by rw[hc]at e;exact e)) ?_⟩
   exact ae (dm (Nat.mul_le_mul (dm u.1.len 2) (dm (nM ht u.1.len) 4)) 10) (by decide)
theorem Gn(hc:fR (rows.foldl cw [])=false){C:Int->Prop}(hC:∀r∈rows,C r.1->∃p∈r.2,C p):∀r∈rows,¬C r.1:=by
 have u:=pu h
 have hk:=yE h
 obtain⟨_,_,r,hr,_⟩:=tj h
 have e:r=none:=by
  unfold fR at hc
  rw[hr]at hc
  cases r with
  | none=>rfl
  | some c=>cases hc
 subst e
 rcases pq _ _ [] [] _ .nil (fun x=>Iff.rfl) hr with⟨q,_⟩ | ⟨_,L,t,hL,_⟩
 ·exact absurd rfl q
 ·have:=Gm t (C:=fun x=>C x/\∃r∈rows,r.1=x) (fun x ⟨cx,r,hr,e⟩=>?_) fun x ⟨_,r,hr,e⟩=>?_
  ·exact fun r hr c=>this r.1 ⟨c,r,hr,rfl⟩
  ·subst e
   refine x12 (hC r hr cx) fun p hp cp=>?_
   exact⟨p,⟨cp,(h.2 r hr).2 p hp⟩,(u.2 r hr).2 p hp⟩
  ·refine x12 ((u.2 r hr).1) fun q a b=>?_
   exact hL x (aA.mpr ⟨q,a,b.trans e⟩)
theorem Go(hc:fR (rows.foldl cw [])=true):∃C:List Int,C≠[]/\∀x∈C,∃r∈rows,r.1=x/\∃p∈r.2,p∈C:=by
 have u:=pu h
 obtain⟨_,_,r,hr,_⟩:=tj h
 rcases pq _ _ [] [] _ .nil (fun x=>Iff.rfl) hr with⟨_,C,hC⟩ | ⟨e,_⟩
 ·refine⟨C,hC.1,fun x hx=>?_⟩
  refine x12 (hC.2 x hx) fun y hy hxy=>?_
  refine x13 (yC hxy) fun q h1 h2 h3=>?_
  refine x13 (u.1.e1 q h1 x h3) fun r r1 r2 r3=>?_
  exact⟨r,r1,r2,y,h2▸r3,hy⟩
 ·subst e
  unfold fR at hc
  rw[hr]at hc
  cases hc
end
noncomputable def mW(d:PyData)(ρ:List SV):Fl × List SV:=av [] (.prim (mv [] 1 (.var 2)) .skip) (ay false [2] d ρ)
theorem Gp(l:List Int):(l.map PyData.int).map bh=l:=by rw[dS];exact List.map_id l
theorem yF(r:gC)(x z:SV)(g:Gr):mW (dR r) [x,.sor ⟨g,none,0,0⟩,z]=(.next,[x,.sor ⟨cw g r,none,0,0⟩,.dat (dR r)]):=by
 show(Fl.next,[x,SV.sor ⟨iW r.1 ((r.2.map PyData.int).map bh) g,none,0,0⟩,SV.dat (dR r)])=_
 rw[Gp];rfl
theorem yG{R:Int->Int->Prop}{x:SV}:∀(rows:List gC) (g:Gr) (z:SV) (m l:Nat),GI R m l g->m+4 * rows.length<=32->l+3 * rows.length<=24->(∀r∈rows,r.2.length<=3/\∀p∈r.2,R p r.1) ->
 fK (fun d ρ=>bindP false [2] d/\aM [] (.prim (mv [] 1 (.var 2)) .skip) (ay false [2] d ρ)) mW (rows.map dR) [x,.sor ⟨g,none,0,0⟩,z] /\
 ∃z',bC mW (rows.map dR) [x,.sor ⟨g,none,0,0⟩,z]=(.next,[x,.sor ⟨rows.foldl cw g,none,0,0⟩,z'])
 | [],g,z,_,_,_,_,_,_=>⟨trivial,z,rfl⟩
 | r::rows,g,z,m,l,hg,hm,hl,h=>by
  rw[cZ]at hm hl
  have h0:=h r ag
  have h1:=yz (g:=g) h0.2 h0.1
  have ih:=yG (x:=x) rows (cw g r) (.dat (dR r)) (m+4) (l+3) (h1.1.gi _ _ hg) (by lia) (by lia) fun r hr=>h r (ar _ hr)
  refine⟨⟨⟨rfl,⟨trivial,_,rfl,⟨g,none,0,0⟩,r.1,r.2,rfl,rfl,by lia,rfl,?_,fun q hq=>?_⟩,fun U U=>trivial⟩,?_⟩,?_⟩
  ·have:=hg.len;show g.length+20<=_;lia
  ·have:=hg.sl q hq;lia
  ·rw[yF];exact ih.1
  ·refine x11 ih.2 fun z' e=>?_
   refine⟨z',?_⟩
   rw[aH,lT,yF];exact e
noncomputable def jM:FEntry:=⟨ofString "_law_ringless",4,fun ds=>∃rows,ds=[.list (rows.map dR)]/\pt rows,fun ds=>mE (av [] jI (aY jH ds)).1⟩
theorem yH{rows:List gC}(h:pt rows):aM [] jI (aY jH [.list (rows.map dR)])/\(av [] jI (aY jH [.list (rows.map dR)])).1=.ret (.bool (!fR (rows.foldl cw []))):=by
 have hk:=tj h
 have h8:=h.1
 obtain⟨f1,z',f2⟩:=yG (R:=RR rows) (x:=.dat (.list (rows.map dR))) rows [] .un 0 0 ⟨aL _,fun q hq=>(nomatch hq),fun q hq=>nomatch hq⟩ (by lia) (by lia) fun r hr=>⟨(h.2 r hr).1,fun p hp=>⟨r,hr,rfl,hp⟩⟩
 refine⟨⟨trivial,fun ρ' e=>?_⟩,?_⟩
 ·cases e
  refine⟨⟨trivial,trivial⟩,f1,fun ρ' e=>?_⟩
  have e:bC mW (rows.map dR) [.dat (.list (rows.map dR)),.sor ⟨[],none,0,0⟩,.un]=(.next,ρ'):=e
  rw[f2]at e
  cases e
  exact⟨⟨_,rfl,rfl,hk⟩,fun ρ' e=>⟨trivial,fun U U=>trivial⟩⟩
 ·show(dw (bC mW (rows.map dR) [.dat (.list (rows.map dR)),.sor ⟨[],none,0,0⟩,.un]) _).1=_
  rw[f2]
  show(dw (if fR (rows.foldl cw [])=true then Fl.ret (.bool false)else .next,_) _).1=_
  cases fR (rows.foldl cw [])<;>rfl
theorem Gq(ds:List PyData)(h:jM.pre ds):ds.length=1/\aM [] jI (aY jH ds)/\(av [] jI (aY jH ds)).1=.ret (jM.val ds):=by
 obtain⟨rows,rfl,h⟩:=h
 obtain⟨h1,h2⟩:=yH h
 refine⟨rfl,h1,?_⟩
 show _=Fl.ret (mE (av [] jI _).1)
 rw[h2];rfl
noncomputable def kN(S:Nat->List Nat)(n:Nat):gC:=((n:Int),(S n).map fun m:Nat=>(m:Int))
theorem yI{N:Nat}{S:Nat->List Nat}(hN:N<=8)(hS:∀n,n<N->(S n).length<=3/\∀m∈S n,m<N) :
 jM.pre [.list ((ao N).map fun n=>LD (n::S n))]/\∃b,jM.val [.list ((ao N).map fun n=>LD (n::S n))]=.bool b /\
  (b=true->∀q:Nat->Bool,(∀n,n<N->q n=true->∃m∈S n,q m=true)->∀n,n<N->q n=false) /\
  (b=false->∃q:Nat->Prop,(∃n,n<N/\q n)/\∀n,q n->n<N/\∃m∈S n,q m):=by
 have e:((ao N).map fun n=>LD (n::S n))=((ao N).map (kN S)).map dR:=by
  rw[dS]
  refine eQ fun n U=>?_
  show PyData.list (_::_)=PyData.list (_::_)
  rw[kN,dS];rfl
 have hr:pt ((ao N).map (kN S)):=by
  refine⟨by rw[af,jh];exact hN,fun r hr=>?_⟩
  refine x12 (aA.mp hr) fun n hn e2=>?_;subst e2
  have:=hS n (aG.mp hn)
  refine⟨by show(List.map _ _).length<=3;rw[af];exact this.1,fun m hm=>?_⟩
  refine x12 (aA.mp hm) fun k hk e2=>?_;subst e2
  exact⟨_,aA.mpr ⟨k,aG.mpr (this.2 k hk),rfl⟩,rfl⟩
 rw[e]
 refine⟨⟨_,rfl,hr⟩,_,congrArg mE (yH hr).2,fun hb q hq n hn=>?_,fun hb=>?_⟩
 ·have hb:fR (((ao N).map (kN S)).foldl cw [])=false:=by simpa using hb
  have:=Gn hr hb (C:=fun x=>∃n,x=((n:Nat):Int)/\q n=true) (fun r hr ζ=>ζ.elim fun k ζ=>ζ.elim fun e1 e2=>?_) (kN S n) (aA.mpr ⟨n,aG.mpr hn,rfl⟩)
  ·exact Bool.eq_false_iff.mpr fun z=>this ⟨n,rfl,z⟩
  ·refine x12 (aA.mp hr) fun n' hn' e2=>?_;subst e2
   cases(Int.ofNat.inj e1:n'=k)
   refine x12 (hq _ (aG.mp hn') e2) fun m hm qm=>?_
   exact⟨_,aA.mpr ⟨m,hm,rfl⟩,m,rfl,qm⟩
 ·have hb:fR (((ao N).map (kN S)).foldl cw [])=true:=by simpa using hb
  refine x12 (Go hr hb) fun C hne hC=>?_
  have key:∀x∈C,∃n:Nat,x=(n:Int)/\n<N/\∃m∈S n,((m:Nat):Int)∈C:=fun x hx=>by
   obtain⟨r,hr,e,p,hp,hpC⟩:=hC x hx
   refine x12 (aA.mp hr) fun n hn e2=>?_;subst e2
   refine x12 (aA.mp hp) fun m hm e2=>?_;subst e2
   exact⟨n,e.symm,aG.mp hn,m,hm,hpC⟩
  refine⟨fun n=>(n:Int)∈C,?_,fun n hn=>?_⟩
  ·refine x11 (List.exists_mem_of_ne_nil _ hne) fun x hx=>?_
   refine x13 (key x hx) fun n e1 hn U=>?_;subst e1
   exact⟨n,hn,hx⟩
  ·obtain⟨n',e,hn',m,hm,h⟩:=key _ hn
   cases(Int.ofNat.inj e:n=n')
   exact⟨hn',m,hm,h⟩
section
variable{Φ:List FEntry}{ρ:List SV}
noncomputable def gD(Φ:List FEntry)(it:IX)(ρ:List SV)(l:List PyData):Prop:=gg Φ it false ρ/\bp Φ it ρ=l
theorem tm{it:IX}(h:gg Φ it false ρ):gg Φ it true ρ:=by
 cases it<;>first | exact h | exact⟨dP h.1,h.2⟩
theorem fZ{e:IX}{ds:List PyData}(h:Ok Φ e ρ (.list ds)):gD Φ (.seq e) ρ ds :=
 ⟨⟨h.1,by rw[h.2];trivial⟩,by show items (den Φ e ρ)=ds;rw[h.2];rfl⟩
theorem yJ{k:Nat}(hk:k<=1000000):gD Φ (.range1 (.lit (.int k))) ρ ((ao k).map iD) :=
 ⟨⟨trivial,by show -1000000000<=(k:Int)/\(k:Int)<=1000000000;lia⟩,by
  show(ao ((k:Int) - 0).toNat).map (fun i:Nat=>PyData.int (0+(i:Int)))=_
  rw[Int.sub_zero,gH]
  exact eQ fun i U=>congrArg PyData.int (Int.zero_add _)⟩
theorem pv{α:Type}{F:PyData->List PyData}{g f:α->PyData}{c:α->Bool}:∀ {xs:List α},(∀x∈xs,F (g x)=if c x=true then[f x]else[])->(xs.map g).flatMap F=(xs.filter c).map f
 | [],_=>rfl
 | x::xs,h=>by
  rw[aH,eM,pv fun y hy=>h y (ar _ hy),h x ag,ft]
  cases c x<;>rfl
theorem ii{α:Type}{n slot:Nat}{it q e:IX}{xs:List α}{g f:α->PyData}{c:α->Bool}(hi:gD Φ it ρ (xs.map g))
 (hq:∀x∈xs,Ok Φ q (ay false [slot] (g x) (ρ++a7 n .un)) (.bool (c x))) (he:∀x∈xs,c x=true->Ok Φ e (ay false [slot] (g x) (ρ++a7 n .un)) (f x)) (hl:xs.length<=16000000) :
 Ok Φ (.comp n false [slot] it (.cons q .nil) (.emit e)) ρ (.list ((xs.filter c).map f)):=by
 have key:(bp Φ it ρ).flatMap (fun d=>if cS Φ (.cons q .nil) (ay false [slot] d (ρ++a7 n .un))=true then ew Φ (.emit e) (ay false [slot] d (ρ++a7 n .un))else[])=(xs.filter c).map f:=by
  rw[hi.2]
  refine pv fun x hx=>?_
  have h1:cS Φ (.cons q .nil) (ay false [slot] (g x) (ρ++a7 n .un))=c x:=by
   show(aB (den Φ q _)&&true)=c x
   rw[(hq x hx).2,Bool.and_true];rfl
  rw[h1]
  cases hc:c x with
  | false=>rfl
  | true=>exact congrArg (·::[]) (he x hx hc).2
 refine⟨⟨tm hi.1,fun d hd=>?_,?_⟩,congrArg PyData.list key⟩
 ·rw[hi.2]at hd
  refine x12 (aA.mp hd) fun x hx e2=>?_;subst e2
  refine⟨rfl,⟨(hq x hx).1,by rw[(hq x hx).2];rfl,fun U=>trivial⟩,fun h=>?_⟩
  have h:(aB (den Φ q _)&&true)=true:=h
  rw[(hq x hx).2,Bool.and_true]at h
  exact(he x hx h).1
 ·rw[key,af]
  exact ae (cc ..) hl
theorem jN{α:Type}{n slot:Nat}{it e:IX}{xs:List α}{g f:α->PyData}(hi:gD Φ it ρ (xs.map g))
 (he:∀x∈xs,Ok Φ e (ay false [slot] (g x) (ρ++a7 n .un)) (f x)) (hl:xs.length<=16000000) :
 Ok Φ (.comp n false [slot] it .nil (.emit e)) ρ (.list (xs.map f)):=by
 have key:(bp Φ it ρ).flatMap (fun d=>if cS Φ .nil (ay false [slot] d (ρ++a7 n .un))=true then ew Φ (.emit e) (ay false [slot] d (ρ++a7 n .un))else[])=xs.map f:=by
  rw[hi.2,pv (c:=fun U=>true) (f:=f) fun x hx=>?_,List.filter_eq_self.mpr fun U U=>rfl]
  exact congrArg (·::[]) (he x hx).2
 refine⟨⟨tm hi.1,fun d hd=>?_,?_⟩,congrArg PyData.list key⟩
 ·rw[hi.2]at hd
  refine x12 (aA.mp hd) fun x hx e2=>?_;subst e2
  exact⟨rfl,trivial,fun U=>(he x hx).1⟩
 ·rw[key,af];exact hl
noncomputable def bc(Φ:List FEntry)(S:SX)(ρ:List SV)(fl:Fl)(R:List SV->Prop):Prop:=aM Φ S ρ/\∃ρ',av Φ S ρ=(fl,ρ')/\R ρ'
variable{fl:Fl}{R:List SV->Prop}{r:SX}
theorem gE(h:R ρ):bc Φ .skip ρ .next R:=⟨trivial,ρ,rfl,h⟩
theorem i9{p:Prim}{ρ1:List SV}(hp:p.pre ρ)(hd:p.den ρ=(.next,ρ1))(h:bc Φ r ρ1 fl R):bc Φ (.prim p r) ρ fl R:=by
 obtain⟨h1,ρ',h2,h3⟩:=h
 exact⟨⟨hp,fun ρ2 e=>by rw[hd]at e;cases e;exact h1⟩,ρ',by show dw (p.den ρ) (av Φ r)=_;rw[hd];exact h2,h3⟩
theorem eL{i:Nat}{e:IX}{d:PyData}(h:Ok Φ e ρ d)(k:bc Φ r (ρ.set i (.dat d)) fl R):bc Φ (.prim (cG Φ i e) r) ρ fl R :=
 i9 h.1 (by show(Fl.next,ρ.set i (.dat (den Φ e ρ)))=_;rw[h.2]) k
theorem Gs{e:IX}{d:PyData}(h:Ok Φ e ρ d)(hR:∀ρ,R ρ):bc Φ (.prim (eb Φ e) r) ρ (.ret d) R :=
 ⟨⟨h.1,fun ρ2 e=>nomatch e⟩,ρ,by show(Fl.ret (den Φ e ρ),ρ)=_;rw[h.2],hR _⟩
theorem yK{S:SX}{ρ1:List SV}{x:Fl × List SV}(hx:x=(.next,ρ1))(h:bc Φ r ρ1 fl R):(∀ρ',x=(.next,ρ')->aM Φ r ρ')/\∃ρ',dw x (av Φ r)=(fl,ρ')/\R ρ':=by
 subst hx
 obtain⟨h1,ρ',h2,h3⟩:=h
 exact⟨fun ρ2 e=>by cases e;exact h1,ρ',h2,h3⟩
theorem to{c:IX}{a b:SX}{t:Bool}(hc:Ok Φ c ρ (.bool t)){R1:List SV->Prop}(ha:t=true->bc Φ a ρ .next R1)(hb:t=false->bc Φ b ρ .next R1)(k:∀ρ1,R1 ρ1->bc Φ r ρ1 fl R):bc Φ (.ite c a b r) ρ fl R:=by
 have ht:aB (den Φ c ρ)=t:=by rw[hc.2];rfl
 have hx:∃ρ1,(if aB (den Φ c ρ)=true then av Φ a ρ else av Φ b ρ)=(.next,ρ1)/\R1 ρ1:=by
  rw[ht]
  cases t with
  | true=>exact(ha rfl).2
  | false=>exact(hb rfl).2
 refine x12 hx fun ρ1 e1 h1=>?_
 refine ak (yK (S:=a) e1 (k ρ1 h1)) fun k1 k2=>?_
 exact⟨⟨hc.1,by rw[hc.2];rfl,fun q=>(ha (ht.symm.trans q)).1,fun q=>(hb (ht.symm.trans q)).1,k1⟩,k2⟩
end
section
variable{α:Type}[BEq α]
noncomputable def ij(x:α):List α->Option (List α)
 | []=>none
 | y::r=>if(y==x)=true then some r else(ij x r).map (y::·)
theorem tq{x y:α}{r:List α}:ij x (y::r)=if(y==x)=true then some r else(ij x r).map (y::·):=rfl
noncomputable def dC:List α->List α->List α
 | acc,[]=>acc
 | acc,d::ds=>dC (if(acc.any fun y=>y==d)=true then acc else acc++[d]) ds
theorem yL{acc ds:List α}{d:α}:dC acc (d::ds)=dC (if(acc.any fun y=>y==d)=true then acc else acc++[d]) ds:=rfl
noncomputable def ik:List α->List α->Option (List α)
 | [],t=>some t
 | x::xs,t=>(ij x t).bind (ik xs)
theorem tr{x:α}{xs t:List α}:ik (x::xs) t=(ij x t).bind (ik xs):=rfl
noncomputable def em(a b:List α):Bool:=match ik (dC [] a) (dC [] b)with
 | some []=>true
 | _=>false
variable{g:α->PyData}(hg:∀x y,PyData.eqv (g x) (g y)=(x==y))
include hg
theorem yM(x:α):∀l:List α,cP (g x) (l.map g)=(ij x l).map (List.map g)
 | []=>rfl
 | y::l=>by
  rw[aH,xB,tq,hg,yM x l]
  cases y==x
  ·show Option.map _ (Option.map _ _)=Option.map _ (Option.map _ _);rw[Option.map_map,Option.map_map];rfl
  ·rfl
theorem yN:∀(l t:List α),gx (l.map g) (t.map g)=(ik l t).map (List.map g)
 | [],_=>rfl
 | x::l,t=>by
  rw[aH,sx,tr,yM hg]
  cases ij x t with
  | none=>rfl
  | some r=>exact yN l r
theorem pw:∀(l acc:List α),ba (acc.map g) (l.map g)=(dC acc l).map g
 | [],_=>rfl
 | x::l,acc=>by
  rw[aH,sv,yL,List.any_map,show((fun y=>PyData.eqv y (g x)) ∘ g)=fun y=>y==x from funext fun y=>hg y x]
  cases acc.any fun y=>y==x
  ·exact(congrArg (fun z=>ba z _) (by rw[pI];rfl)).trans (pw l (acc++[x]))
  ·exact pw l acc
theorem yO(a b:List α):kD.val [.list (a.map g),.list (b.map g)]=.bool (em a b):=by
 show PyData.bool (mw (ba [] (a.map g)) (ba [] (b.map g)))=_
 rw[show ba [] (a.map g)=(dC [] a).map g from pw hg a [],show ba [] (b.map g)=(dC [] b).map g from pw hg b []]
 unfold mw em
 rw[yN hg]
 cases ik (dC [] a) (dC [] b)with
 | none=>rfl
 | some l=>cases l<;>rfl
end
noncomputable def f0:IX:=(.len (.slice (.var 0) .nil (.cons (.lit (.int 6)) .nil)))
noncomputable def p1:IX:=(.bin .Add (.slice (.var 0) .nil (.cons (.lit (.int 6)) .nil)) (.slice (.list (.cons (.lit (.int 5)) (.cons (.lit (.int 7)) (.cons (.lit (.int 5)) (.cons (.lit (.int 9)) (.cons (.lit (.int 9)) (.cons (.lit (.int 9)) .nil))))))) (.cons f0 .nil) .nil))
noncomputable def c2:IX:=(.comp 1 false [23] (.range1 (.lit (.int 3))) .nil (.emit (.sub (.lit (.str (ofString "-+"))) (.bin .Mod (.bin .FloorDiv (.var 22) (.bin .Pow (.lit (.int 2)) (.var 23))) (.lit (.int 2))))))
noncomputable def f3:IX:=(.join (.lit (.str (ofString ""))) c2)
noncomputable def c4:IX:=(.comp 1 false [22] (.range1 (.lit (.int 8))) .nil (.emit f3))
noncomputable def f5:IX:=(.call 0 (.cons (.bin .Mod (.var 22) (.lit (.int 18))) (.cons (.var 4) .nil)))
noncomputable def q6:IX:=(.cmp .Lt (.bin .Mod (.var 22) (.lit (.int 18))) (.lit (.int 9)))
noncomputable def c7:IX:=(.comp 1 false [22] (.seq (.tup (.cons (.sub (.var 1) (.var 4)) (.cons (.sub (.var 1) (.bin .Add (.var 4) (.lit (.int 3)))) .nil)))) (.cons q6 .nil) (.emit f5))
noncomputable def f8:IX:=(.call 2 (.cons (.var 22) .nil))
noncomputable def f9:IX:=(.call 1 (.cons f8 .nil))
noncomputable def yQ:IX:=(.comp 1 false [22] (.seq (.var 5)) .nil (.emit f9))
noncomputable def il:IX:=(.call 3 (.cons (.var 22) (.cons (.sub (.var 2) (.var 23)) .nil)))
noncomputable def yR:IX:=(.comp 2 false [22] (.seq (.var 6)) .nil (.gen false [23] (.range1 (.lit (.int 8))) (.cons il .nil) (.emit (.var 23))))
noncomputable def ja:IX:=(.call 4 (.cons (.var 23) (.cons (.sub (.var 2) (.var 22)) .nil)))
noncomputable def Gu:IX:=(.comp 1 false [23] (.seq (.var 5)) (.cons ja .nil) (.emit (.var 23)))
noncomputable def Gv:IX:=(.cmp .NotEq Gu (.list .nil))
noncomputable def yS:IX:=(.comp 1 false [22] (.range1 (.lit (.int 8))) (.cons Gv .nil) (.emit (.var 22)))
noncomputable def Gw:IX:=(.cmp .In (.var 22) (.sub (.var 3) (.var 23)))
noncomputable def yT:IX:=(.cmp .Eq (.sub (.sub (.var 2) (.var 22)) (.var 23)) (.lit (.str (ofString "+"))))
noncomputable def Gx:IX:=(.cmp .NotEq Gw yT)
noncomputable def yU:IX:=(.comp 1 false [23] (.range1 (.lit (.int 3))) (.cons Gx .nil) (.emit (.var 23)))
noncomputable def yV:IX:=(.comp 1 false [22] (.range1 (.lit (.int 8))) .nil (.emit yU))
noncomputable def Gy:IX:=(.call 5 (.cons (.var 12) .nil))
noncomputable def Gz:IX:=(.cmp .Eq (.sub (.sub (.var 2) (.var 14)) (.var 22)) (.lit (.str (ofString "+"))))
noncomputable def GA:IX:=(.comp 1 false [22] (.seq (.var 12)) (.cons Gz .nil) (.emit (.var 22)))
noncomputable def yW:IX:=(.cmp .Eq GA (.list .nil))
noncomputable def GB:IX:=(.cmp .In (.var 23) (.var 12))
noncomputable def GC:IX:=(.comp 1 false [23] (.seq (.var 22)) .nil (.emit (.bin .Pow (.lit (.int 2)) (.var 23))))
noncomputable def GE:IX:=(.sum GC)
noncomputable def yX:IX:=(.bin .Add (.var 14) GE)
noncomputable def yY:IX:=(.comp 1 false [23] (.seq (.sub (.var 8) yX)) (.cons GB .nil) (.emit (.var 23)))
noncomputable def yZ:IX:=(.comp 1 false [22] (.seq (.var 13)) .nil (.emit yY))
noncomputable def ty:IX:=(.cmp .Eq (.var 22) (.list .nil))
noncomputable def GF:IX:=(.comp 1 false [22] (.seq (.var 15)) (.cons ty .nil) (.emit (.var 22)))
noncomputable def GG:IX:=(.len GF)
noncomputable def y0:IX:=(.cmp .NotEq GG (.lit (.int 1)))
noncomputable def GH:IX:=(.len (.var 12))
noncomputable def GJ:IX:=(.cmp .Eq GH (.lit (.int 3)))
noncomputable def y1:IX:=(.bop false (.cons (.var 11) (.cons GJ .nil)))
noncomputable def GK:IX:=(.cmp .IsNot (.var 9) (.var 10))
noncomputable def GL:IX:=(.comp 1 false [23] (.seq (.sub (.var 8) (.var 22))) .nil (.emit (.bin .BitXor (.var 22) (.bin .Pow (.lit (.int 2)) (.var 23)))))
noncomputable def GM:IX:=(.bin .Add (.list (.cons (.var 22) .nil)) GL)
noncomputable def y2:IX:=(.comp 1 false [22] (.range1 (.lit (.int 8))) .nil (.emit GM))
noncomputable def y3:IX:=(.len (.var 22))
noncomputable def tz:IX:=(.comp 1 false [22] (.seq (.var 8)) .nil (.emit (.bin .Pow (.lit (.int 2)) (.bin .Sub (.lit (.int 3)) y3))))
noncomputable def y4:IX:=(.sum tz)
noncomputable def GN:IX:=(.cmp .Eq (.var 19) (.lit (.int 27)))
noncomputable def GO:IX:=(.cmp .IsNot (.var 9) GN)
noncomputable def GP:IX:=(.cmp .IsNot (.var 9) (.var 11))
noncomputable def GQ:IX:=(.bop true (.cons GP (.cons GO .nil)))
noncomputable def y5:IX:=(.bop false (.cons (.var 17) (.cons GQ .nil)))
noncomputable def y6:IX:=(.cmp .In (.var 23) (.var 18))
noncomputable def GR:IX:=(.comp 1 false [23] (.seq (.slice (.sub (.var 16) (.var 22)) (.cons (.lit (.int 1)) .nil) .nil)) (.cons y6 .nil) (.emit (.var 23)))
noncomputable def GS:IX:=(.cmp .NotEq GR (.list .nil))
noncomputable def y7:IX:=(.comp 1 false [22] (.seq (.var 18)) (.cons GS .nil) (.emit (.var 22)))
noncomputable def GT:IX:=(.cmp .Eq (.var 18) (.list .nil))
noncomputable def y8:IX:=(.cmp .IsNot (.var 17) GT)
noncomputable def GU:IX:=(.cmp .In (.var 14) (.sub (.var 3) (.var 22)))
noncomputable def GV:IX:=(.cmp .In (.bin .BitXor (.var 14) (.bin .Pow (.lit (.int 2)) (.var 23))) (.sub (.var 3) (.var 22)))
noncomputable def GW:IX:=(.cmp .NotEq GU GV)
noncomputable def GX:IX:=(.comp 1 false [23] (.range1 (.lit (.int 3))) (.cons GW .nil) (.emit (.var 23)))
noncomputable def GY:IX:=(.bin .Add (.list (.cons (.var 22) .nil)) GX)
noncomputable def y9:IX:=(.comp 1 false [22] (.range1 (.lit (.int 3))) .nil (.emit GY))
noncomputable def ah:List FEntry:=[jJ,jK,kH,kK,kL,kM]
noncomputable def fq:List FEntry:=[kD,jM]
noncomputable def cX(m:Nat):List Nat:=(ao 3).filter fun k=>m.testBit k
noncomputable def bD(m:Nat):PyData:=LD (cX m)
noncomputable def gM(m:Nat):PyData:=if m<8 then bD m else iD m
noncomputable def W(p:Nat->Bool):List Nat:=(ao 8).filter p
noncomputable def bU:List PyData:=(ao 8).map nm
theorem tA{α:Type}{f:α->PyData}{k:Nat}:∀ {l:List α},(∀x∈l,(f x).canLay0=true/\(f x).depth<=k)->PyData.canLayAll0 (l.map f)=true/\PyData.depthAll (l.map f)<=k
 | [],_=>⟨rfl,aW _⟩
 | x::l,h=>by
  have h1:=h x ag
  have h2:=tA (l:=l) fun y hy=>h y (ar _ hy)
  rw[aH,PyData.canLayAll0,PyData.depthAll,h1.1,h2.1]
  exact⟨rfl,Nat.max_le.mpr ⟨h1.2,h2.2⟩⟩
theorem py(l:List Nat):PyData.canLayAll0 (l.map iD)=true/\PyData.depthAll (l.map iD)<=0:=tA fun U U=>⟨rfl,aL _⟩
theorem pz{ds:List PyData}{k:Nat}(h:PyData.canLayAll0 ds=true/\PyData.depthAll ds<=k)(hk:k<=31):b9 (.list ds):=⟨h.1,nX (ae h.2 hk)⟩
theorem mX(i:Int):b9 (.int i):=⟨rfl,aW _⟩
theorem jP{α:Type}{f:Nat->α}{n k:Nat}{d:α}(h:k<n):((ao n).map f).getD k d=f k:=by
 rw[aq,bX,List.getElem?_range h];rfl
theorem tB(x y:Nat):PyData.eqv (iD x) (iD y)=(x==y):=by
 show(((x:Int))==((y:Int)))=(x==y)
 rw[kO,beq_iff_eq,beq_iff_eq];exact Int.ofNat_inj
section
variable{Φ:List FEntry}{ρ:List SV}{a b:IX}
theorem za{ds:List PyData}{k:Nat}{d:PyData}(ha:pre Φ a true ρ/\den Φ a ρ=.list ds)(hi:Ok Φ b ρ (iD k))(hk:k<ds.length)(h6:ds.length<=1000000)(hd:ds.getD k .none=d):Ok Φ (.sub a b) ρ d:=by
 refine⟨⟨ha.1,hi.1,?_⟩,?_⟩
 ·rw[ha.2,hi.2]
  show -1000000000<=(k:Int)/\(k:Int)<=1000000000/\-(ds.length:Int)<=k/\(k:Int)<ds.length
  lia
 ·show lB (den Φ a ρ) (den Φ b ρ)=d
  rw[ha.2,hi.2,<- hd]
  show ds.getD (if(k:Int)<0 then _ else(k:Int).toNat) _=_
  rw[if_neg (by lia),gH]
theorem mY{ds:List PyData}{k:Nat}{d:PyData}(ha:Ok Φ a ρ (.list ds))(hi:Ok Φ b ρ (iD k))(hk:k<ds.length)(h6:ds.length<=1000000)(hd:ds.getD k .none=d):Ok Φ (.sub a b) ρ d:=za ⟨dP ha.1,ha.2⟩ hi hk h6 hd
theorem tC{n:Nat}{l:List Nat}(ha:Ok Φ a ρ (iD n))(hb:Ok Φ b ρ (LD l)):Ok Φ (.cmp .In a b) ρ (.bool (l.any (· == n))):=by
 refine⟨⟨dP ha.1,dP hb.1,?_⟩,?_⟩
 ·rw[ha.2,hb.2];exact⟨mX _,(py l).1⟩
 ·show PyData.bool (qC (den Φ a ρ) (den Φ b ρ))=_
  rw[ha.2,hb.2]
  show PyData.bool ((l.map iD).any fun y=>PyData.eqv y (iD n))=_
  rw[List.any_map,show((fun y=>PyData.eqv y (iD n)) ∘ iD)=fun y=>y==n from funext fun y=>tB y n]
theorem GZ{p:Nat->Bool}{n:Nat}(h:n<8):((W p).any (· == n))=p n:=by
 rw[kO,cM]
 exact⟨fun⟨x,h1,h2⟩=>eq_of_beq h2▸(cW.mp h1).2,fun hp=>⟨n,cW.mpr ⟨aG.mpr h,hp⟩,beq_self_eq_true n⟩⟩
theorem tD{ds:List PyData}(ha:Ok Φ a ρ (.list ds))(hd:b9 (.list ds)):Ok Φ (.cmp .Eq a (.list .nil)) ρ (.bool ds.isEmpty)/\Ok Φ (.cmp .NotEq a (.list .nil)) ρ (.bool !ds.isEmpty):=by
 have h0:b9 (.list []):=⟨rfl,by decide⟩
 have e:PyData.eqv (.list ds) (.list [])=ds.isEmpty:=by cases ds<;>rfl
 refine⟨⟨⟨dP ha.1,⟨trivial,aW _⟩,by rw[ha.2];exact⟨hd,h0⟩⟩,?_⟩,⟨dP ha.1,⟨trivial,aW _⟩,by rw[ha.2];exact⟨hd,h0⟩⟩,?_⟩
 ·show PyData.bool (PyData.eqv (den Φ a ρ) (.list []))=_
  rw[ha.2,e]
 ·show PyData.bool (!PyData.eqv (den Φ a ρ) (.list []))=_
  rw[ha.2,e]
theorem zb{x y:Bool}(ha:Ok Φ a ρ (.bool x))(hb:Ok Φ b ρ (.bool y)):Ok Φ (.cmp .NotEq a b) ρ (.bool (x != y)):=by
 refine⟨⟨dP ha.1,dP hb.1,by rw[ha.2,hb.2];exact⟨⟨rfl,aW _⟩,rfl,aW _⟩⟩,?_⟩
 show PyData.bool (!PyData.eqv (den Φ a ρ) (den Φ b ρ))=_
 rw[ha.2,hb.2];rfl
theorem zc{x y:Bool}(ha:Ok Φ a ρ (.bool x))(hb:Ok Φ b ρ (.bool y)):Ok Φ (.cmp .IsNot a b) ρ (.bool !(x==y)):=by
 refine⟨⟨dP ha.1,dP hb.1,by rw[ha.2,hb.2];trivial⟩,?_⟩
 show PyData.bool (ly .IsNot (den Φ a ρ) (den Φ b ρ))=_
 rw[ha.2,hb.2];rfl
theorem zd{ds:List PyData}(ha:Ok Φ a ρ (.list ds))(h:ds.length<=16777216):Ok Φ (.len a) ρ (iD ds.length):=by
 refine⟨⟨dP ha.1,by rw[ha.2];exact h⟩,?_⟩
 show PyData.int (iG (den Φ a ρ))=_
 rw[ha.2];rfl
theorem tE{xs ys:List PyData}(ha:Ok Φ a ρ (.list xs))(hb:Ok Φ b ρ (.list ys))(h:xs.length+ys.length<=16777216):Ok Φ (.bin .Add a b) ρ (.list (xs++ys)):=by
 refine⟨⟨ha.1,hb.1,by rw[ha.2,hb.2];exact⟨rfl,h⟩⟩,?_⟩
 show lx .Add (den Φ a ρ) (den Φ b ρ)=_
 rw[ha.2,hb.2];rfl
theorem G0{i j:Int}(ha:Ok Φ a ρ (.int i)):Ok Φ (.cmp .NotEq a (.lit (.int j))) ρ (.bool !(i==j)):=by
 refine⟨⟨dP ha.1,trivial,by rw[ha.2];exact⟨mX _,mX _⟩⟩,?_⟩
 show PyData.bool (!PyData.eqv (den Φ a ρ) (.int j))=_
 rw[ha.2];rfl
theorem kP{f:Nat}{es:IX}{ds:List PyData}{d:PyData}(hl:eC Φ es ρ/\bV Φ es ρ=ds)(hp:(Φ.getD f .nope).pre ds)(hv:(Φ.getD f .nope).val ds=d):Ok Φ (.call f es) ρ d :=
 ⟨⟨hl.1,hl.2▸hp⟩,by show(Φ.getD f .nope).val (bV Φ es ρ)=d;rw[hl.2];exact hv⟩
theorem mZ{d:PyData}(ha:Ok Φ a ρ d):eC Φ (.cons a .nil) ρ/\bV Φ (.cons a .nil) ρ=[d]:=⟨⟨ha.1,trivial⟩,congrArg (·::[]) ha.2⟩
theorem m0{d d':PyData}(ha:Ok Φ a ρ d)(hb:Ok Φ b ρ d'):eC Φ (.cons a (.cons b .nil)) ρ/\bV Φ (.cons a (.cons b .nil)) ρ=[d,d']:=⟨⟨ha.1,hb.1,trivial⟩,by show[den Φ a ρ,den Φ b ρ]=_;rw[ha.2,hb.2]⟩
end
theorem G1{Φ:List FEntry}{ρ:List SV}{a:IX}{ds:List PyData}{k:Nat}(ha:Ok Φ a ρ (.list ds))(h:ds.length<=16777216):Ok Φ (.slice a .nil (.cons (.lit (.int k)) .nil)) ρ (.list (ds.take k)):=by
 refine⟨⟨dP ha.1,trivial,trivial,by rw[ha.2];exact⟨h,rfl,rfl⟩⟩,?_⟩
 show jr (den Φ a ρ) .none (.int k)=_
 rw[ha.2]
 show PyData.list ((ds.drop 0).take (clipAt ds.length (k:Int) - 0))=_
 rw[qH,Nat.sub_zero,List.drop_zero,<- List.take_eq_take_min]
theorem G2{Φ:List FEntry}{ρ:List SV}{a:IX}{d:PyData}{ds:List PyData}(ha:Ok Φ a ρ (.list (d::ds)))(h:ds.length<=1000):Ok Φ (.slice a (.cons (.lit (.int 1)) .nil) .nil) ρ (.list ds):=by
 refine⟨⟨dP ha.1,trivial,trivial,by rw[ha.2];exact⟨ae (nX h) (by decide),rfl,rfl⟩⟩,?_⟩
 show jr (den Φ a ρ) (.int (1:Nat)) .none=_
 rw[ha.2]
 show PyData.list (((d::ds).drop (clipAt (ds.length+1) ((1:Nat):Int))).take (ds.length+1 - clipAt (ds.length+1) ((1:Nat):Int)))=_
 rw[qH,Nat.min_eq_left (qW 1 _),Nat.add_sub_cancel]
 exact congrArg PyData.list jl
theorem ze{α β:Type}{f g:α->List β}:∀ {l:List α},(∀x∈l,f x=g x)->l.flatMap f=l.flatMap g
 | [],_=>rfl
 | x::l,h=>by rw[eM,eM,h x ag,ze fun y hy=>h y (ar _ hy)]
theorem im{Φ:List FEntry}{ρ:List SV}:gD Φ (.range1 (.lit (.int 8))) ρ ((ao 8).map iD):=yJ (k:=8) (by decide)
theorem pA{Φ:List FEntry}{ρ:List SV}:gD Φ (.range1 (.lit (.int 3))) ρ ((ao 3).map iD):=yJ (k:=3) (by decide)
theorem zf{Φ:List FEntry}{ρ:List SV}{q:IX}{b:Bool}(h:Ok Φ q ρ (.bool b)):j3 Φ (.cons q .nil) ρ/\cS Φ (.cons q .nil) ρ=b :=
 ⟨⟨h.1,by rw[h.2];rfl,fun U=>trivial⟩,by show(aB (den Φ q ρ)&&true)=b;rw[h.2,Bool.and_true];rfl⟩
theorem G3{α:Type}{b c:Bool}{x y:α}(h:b=c):(if b=true then x else y)=if c=true then x else y:=by rw[h]
noncomputable def kQ(a b:Nat):List (Nat × Nat):=(ao a).flatMap fun i=>(ao b).map fun j=>(i,j)
theorem jb{a b i j:Nat}(hi:i<a)(hj:j<b):(i,j)∈kQ a b:=cb.mpr ⟨i,aG.mpr hi,aA.mpr ⟨j,aG.mpr hj,rfl⟩⟩
section
variable{s0 s1 s2 s3 s4 s5 s6 s7 s8 s9 s10 s11 s12 s13 s14 s15 s16 s17 s18 s19 s20 s21 x22 x23:SV}
theorem G4(xs:List Int)(hl:xs.length<=63):∃X:Nat->Int,Ok ah p1 [.dat (.list (xs.map .int)),s1,s2,s3,s4,s5,s6,s7,s8,s9,s10,s11,s12,s13,s14,s15,s16,s17,s18,s19,s20,s21] (.list ((ao 6).map fun i=>.int (X i))):=by
 rcases xs with _ | ⟨a,_ | ⟨b,_ | ⟨c,_ | ⟨d,_ | ⟨e,_ | ⟨f,r⟩⟩⟩⟩⟩⟩
 ·exact⟨fun i=>[5,7,5,9,9,9].getD i 0,fX (by kernel_rfl)⟩
 ·exact⟨fun i=>[a,7,5,9,9,9].getD i 0,fX (by kernel_rfl)⟩
 ·exact⟨fun i=>[a,b,5,9,9,9].getD i 0,fX (by kernel_rfl)⟩
 ·exact⟨fun i=>[a,b,c,9,9,9].getD i 0,fX (by kernel_rfl)⟩
 ·exact⟨fun i=>[a,b,c,d,9,9].getD i 0,fX (by kernel_rfl)⟩
 ·exact⟨fun i=>[a,b,c,d,e,9].getD i 0,fX (by kernel_rfl)⟩
 ·refine⟨fun i=>[a,b,c,d,e,f].getD i 0,?_⟩
  have h6:Ok ah (.slice (.var 0) .nil (.cons (.lit (.int 6)) .nil)) [.dat (.list ((a::b::c::d::e::f::r).map .int)),s1,s2,s3,s4,s5,s6,s7,s8,s9,s10,s11,s12,s13,s14,s15,s16,s17,s18,s19,s20,s21] (.list [.int a,.int b,.int c,.int d,.int e,.int f]) :=
   G1 (ds:=(a::b::c::d::e::f::r).map .int) (k:=6) ⟨trivial,rfl⟩ (by rw[af];lia)
  refine tE h6 (ys:=[]) ?_ (bl rfl)
  have hf:=zd h6 (bl rfl)
  exact⟨⟨(aZ (Φ:=ah) (.list (.cons (.lit (.int 5)) (.cons (.lit (.int 7)) (.cons (.lit (.int 5)) (.cons (.lit (.int 9)) (.cons (.lit (.int 9)) (.cons (.lit (.int 9)) .nil))))))) true _).2 rfl,hf.1,trivial,⟨bl rfl,by rw[show gf ah (.cons f0 .nil) _=iD 6 from hf.2];rfl,rfl⟩⟩,
   by show jr _ (gf ah (.cons f0 .nil) _) _=_;rw[show gf ah (.cons f0 .nil) _=iD 6 from hf.2];rfl⟩
theorem G6:Ok ah c4 [s0,s1,s2,s3,s4,s5,s6,s7,s8,s9,s10,s11,s12,s13,s14,s15,s16,s17,s18,s19,s20,s21] (.list bU):=fX (by kernel_rfl)
theorem zg{a:IX}{ρ:List SV}{n:Nat}(h2:ρ.getD 2 .un=.dat (.list bU))(ha:Ok ah a ρ (iD n))(hn:n<8):Ok ah (.sub (.var 2) a) ρ (nm n) :=
 mY (ds:=bU) ⟨by show SV.ok false _;rw[h2];trivial,by show SV.data _=_;rw[h2];rfl⟩ ha hn (by decide) (jP hn)
theorem jQ{s v:Nat}(hs:s<3)(hv:v<9):(s,v)∈fY:=jb hs hv
theorem zh{s v:Nat}(hs:s<3)(hv:v<9):jJ.val [iD v,iD s]=PD s v/\kH.val [PD s v]=TD s v/\jK.val [TD s v]=GD s v:=by
 have:=ng.mp Gf (s,v) (jQ hs hv)
 exact⟨congrArg Prod.fst this,congrArg (fun q=>q.2.1) this,congrArg (fun q=>q.2.2) this⟩
theorem zi{f g:Nat->Nat->Nat->PyData}(h:mU f g){s v n:Nat}(hs:s<3)(hv:v<9)(hn:n<8):f s v n=g s v n:=by
 have key:∀(l:List (Nat × Nat)),(l.flatMap fun p=>(ao 8).map fun n=>f p.1 p.2 n)=(l.flatMap fun p=>(ao 8).map fun n=>g p.1 p.2 n)->∀p∈l,f p.1 p.2 n=g p.1 p.2 n:=by
  intro l
  induction l with
  | nil=>exact fun U p hp=>nomatch hp
  | cons q l ih =>
   intro e p hp
   rw[eM,eM]at e
   refine ak (List.append_inj e (by rw[af,af])) fun e1 e2=>?_
   rcases aa.mp hp with rfl | hp
   ·exact ng.mp e1 n (aG.mpr hn)
   ·exact ih e2 p hp
 exact key fY h (s,v) (jQ hs hv)
noncomputable def dX(X:Nat->Int)(i:Nat):Bool:=decide (Int.fmod (X i) 18<9)
noncomputable def vX(X:Nat->Int)(i:Nat):Nat:=(Int.fmod (X i) 18).toNat
noncomputable def dD(X:Nat->Int)(s:Nat):List Nat:=([s,s+3].filter (dX X)).map (vX X)
noncomputable def jS(X:Nat->Int):PyData:=.list ((ao 6).map fun i=>.int (X i))
theorem zj{X:Nat->Int}{i:Nat}(h:dX X i=true):vX X i<9/\Int.fmod (X i) 18=(vX X i:Int):=by
 have h1:=of_decide_eq_true h
 have h2:=Int.fmod_nonneg_of_pos (X i) (b:=18) (by decide)
 unfold vX
 lia
theorem zk{X:Nat->Int}{s v:Nat}(h:v∈dD X s):v<9:=by
 refine x12 (aA.mp h) fun i hi e2=>?_;subst e2
 exact(zj (cW.mp hi).2).1
theorem tH{it:IX}{ρ:List SV}{l:List PyData}(h:((pr (Φ:=ah) it false ρ).1,bp ah it ρ)=(true,l)):gD ah it ρ l:=⟨(pr it false ρ).2 (congrArg Prod.fst h),congrArg Prod.snd h⟩
theorem G7{X:Nat->Int}{s:Nat}(hs:s<3):Ok ah c7 [s0,.dat (jS X),s2,s3,.dat (iD s),s5,s6,s7,s8,s9,s10,s11,s12,s13,s14,s15,s16,s17,s18,s19,s20,s21] (.list ((dD X s).map (PD s))):=by
 rw[dD,dS]
 refine ii (xs:=[s,s+3]) (g:=fun i=>.int (X i)) (c:=dX X) (f:=PD s ∘ vX X) ?_ (fun i U=>⟨⟨⟨trivial,trivial,(by decide:(18:Int)≠0)⟩,trivial,trivial⟩,rfl⟩) (fun i U hc=>?_) (bl rfl)
 ·exact match s,hs with
   | 0,_=>tH (by kernel_rfl)
   | 1,_=>tH (by kernel_rfl)
   | 2,_=>tH (by kernel_rfl)
 ·refine ak (zj hc) fun h1 h2=>?_
  refine kP (m0 (d:=iD (vX X i)) ⟨⟨trivial,trivial,(by decide:(18:Int)≠0)⟩,congrArg PyData.int h2⟩ ⟨trivial,rfl⟩) ?_ (zh hs h1).1
  exact aA.mpr ⟨(s,vX X i),jQ hs h1,rfl⟩
theorem G8(d:Nat):sg d∈gy:=by unfold sg;split<;>first | decide | (split<;>decide)
theorem G9{s v:Nat}{ρ:List SV}(hs:s<3)(hv:v<9)(h:ρ.getD 22 .un=.dat (PD s v)):Ok ah f9 ρ (GD s v):=by
 have e:=zh hs hv
 refine kP (mZ (kP (mZ ⟨by show SV.ok false _;rw[h];trivial,by show SV.data _=_;rw[h];rfl⟩) ?_ e.2.1)) (aA.mpr ⟨(s,v),jQ hs hv,rfl⟩) e.2.2
 refine⟨_,rfl,fun c hc=>?_,bl rfl⟩
 refine x12 (aA.mp hc) fun k U e2=>?_;subst e2
 exact G8 _
theorem Ha{vs:List Nat}{s:Nat}(hs:s<3)(hv:∀v∈vs,v<9)(hl:vs.length<=2):Ok ah yQ [s0,s1,s2,s3,s4,.dat (.list (vs.map (PD s))),s6,s7,s8,s9,s10,s11,s12,s13,s14,s15,s16,s17,s18,s19,s20,s21] (.list (vs.map (GD s))) :=
 jN (fZ ⟨trivial,rfl⟩) (fun v h=>G9 hs (hv v h) rfl) (by lia)
theorem zl{s v n:Nat}(hs:s<3)(hv:v<9)(hn:n<8):Ok ah il [s0,s1,.dat (.list bU),s3,s4,s5,s6,s7,s8,s9,s10,s11,s12,s13,s14,s15,s16,s17,s18,s19,s20,s21,.dat (GD s v),.dat (iD n)] (.bool (tk s v n)) :=
 kP (m0 ⟨trivial,rfl⟩ (zg rfl ⟨trivial,rfl⟩ hn)) (cb.mpr ⟨(s,v),jQ hs hv,aA.mpr ⟨n,aG.mpr hn,rfl⟩⟩) (zi Gg hs hv hn)
theorem Hb{s v n:Nat}(hs:s<3)(hv:v<9)(hn:n<8):Ok ah ja [s0,s1,.dat (.list bU),s3,s4,s5,s6,s7,s8,s9,s10,s11,s12,s13,s14,s15,s16,s17,s18,s19,s20,s21,.dat (iD n),.dat (PD s v)] (.bool (tk s v n)) :=
 kP (m0 ⟨trivial,rfl⟩ (zg rfl ⟨trivial,rfl⟩ hn)) (cb.mpr ⟨(s,v),jQ hs hv,aA.mpr ⟨n,aG.mpr hn,rfl⟩⟩) (zi Gh hs hv hn)
theorem Hc{vs:List Nat}{s:Nat}(hs:s<3)(hv:∀v∈vs,v<9)(hl:vs.length<=2):Ok ah yR [s0,s1,.dat (.list bU),s3,s4,s5,.dat (.list (vs.map (GD s))),s7,s8,s9,s10,s11,s12,s13,s14,s15,s16,s17,s18,s19,s20,s21] (LD (vs.flatMap fun v=>W (tk s v))):=by
 have hi:gD ah (.seq (.var 6)) [s0,s1,.dat (.list bU),s3,s4,s5,.dat (.list (vs.map (GD s))),s7,s8,s9,s10,s11,s12,s13,s14,s15,s16,s17,s18,s19,s20,s21] (vs.map (GD s)):=fZ ⟨trivial,rfl⟩
 have hg:∀v∈vs,ew ah (.gen false [23] (.range1 (.lit (.int 8))) (.cons il .nil) (.emit (.var 23))) [s0,s1,.dat (.list bU),s3,s4,s5,.dat (.list (vs.map (GD s))),s7,s8,s9,s10,s11,s12,s13,s14,s15,s16,s17,s18,s19,s20,s21,.dat (GD s v),.un]=(W (tk s v)).map iD:=fun v h=>by
  show(bp ah (.range1 (.lit (.int 8))) _).flatMap _=_
  rw[(im (Φ:=ah)).2]
  refine pv fun n hn=>?_
  exact G3 (zf (zl hs (hv v h) (aG.mp hn))).2
 have key:(bp ah (.seq (.var 6)) [s0,s1,.dat (.list bU),s3,s4,s5,.dat (.list (vs.map (GD s))),s7,s8,s9,s10,s11,s12,s13,s14,s15,s16,s17,s18,s19,s20,s21]).flatMap (fun d=>ew ah (.gen false [23] (.range1 (.lit (.int 8))) (.cons il .nil) (.emit (.var 23))) [s0,s1,.dat (.list bU),s3,s4,s5,.dat (.list (vs.map (GD s))),s7,s8,s9,s10,s11,s12,s13,s14,s15,s16,s17,s18,s19,s20,s21,.dat d,.un])=(vs.flatMap fun v=>W (tk s v)).map iD:=by
  rw[hi.2,List.flatMap_map,List.map_flatMap]
  exact ze hg
 refine⟨⟨tm hi.1,fun d hd=>?_,?_⟩,congrArg PyData.list key⟩
 ·rw[hi.2]at hd
  refine x12 (aA.mp hd) fun v h e2=>?_;subst e2
  refine⟨rfl,trivial,fun U=>⟨(im (Φ:=ah)).1,fun d hd=>?_⟩⟩
  rw[(im (Φ:=ah)).2]at hd
  refine x12 (aA.mp hd) fun n hn e2=>?_;subst e2
  exact⟨rfl,(zf (zl hs (hv v h) (aG.mp hn))).1,fun U=>trivial⟩
 ·refine ae (cI (congrArg List.length key)) ?_
  rw[af,List.length_flatMap]
  refine ae (mV (B:=8) fun v U=>ae (cc ..) (cI jh)) (by lia)
theorem zm{α β:Type}{p:α->Bool}{f:α->β}{l:List α}:(!((l.filter p).map f).isEmpty)=l.any p:=by
 induction l with
 | nil=>rfl
 | cons x l ih =>
  rw[ft,List.any_cons]
  cases p x
  ·exact ih
  ·rfl
theorem Hd:(fY.all fun p=>(PD p.1 p.2).canLay0&&Nat.beq (PD p.1 p.2).depth 0)=true:=by kernel_rfl
noncomputable def wP(vs:List Nat)(s n:Nat):Bool:=vs.any fun v=>tk s v n
theorem He{vs:List Nat}{s:Nat}(hs:s<3)(hv:∀v∈vs,v<9)(hl:vs.length<=2):Ok ah yS [s0,s1,.dat (.list bU),s3,s4,.dat (.list (vs.map (PD s))),s6,s7,s8,s9,s10,s11,s12,s13,s14,s15,s16,s17,s18,s19,s20,s21] (LD (W (wP vs s))):=by
 refine ii im (fun n hn=>?_) (fun n U U=>⟨trivial,rfl⟩) (by decide)
 have h14:=ii (Φ:=ah) (ρ:=[s0,s1,.dat (.list bU),s3,s4,.dat (.list (vs.map (PD s))),s6,s7,s8,s9,s10,s11,s12,s13,s14,s15,s16,s17,s18,s19,s20,s21,.dat (iD n)]) (n:=1) (slot:=23) (q:=ja) (e:=.var 23) (f:=PD s) (fZ (e:=.var 5) (ds:=vs.map (PD s)) ⟨trivial,rfl⟩) (fun v h=>Hb hs (hv v h) (aG.mp hn)) (fun v U U=>⟨trivial,rfl⟩) (by lia)
 have:=(tD h14 (pz (k:=0) (tA fun v h=>?_) (by decide))).2
 ·rw[zm]at this
  exact this
 ·have:=aU.mp Hd (s,v) (jQ hs (hv v (cW.mp h).1))
  exact aO this fun h1 h2=>⟨h1,cI (Nat.eq_of_beq_eq_true h2)⟩
end
section
variable{s0 s1 s2 s3 s4 s5 s6 s7 s8 s9 s10 s11 s12 s13 s14 s15 s16 s17 s18 s19 s20 s21 x22 x23:SV}
noncomputable def ci(P:Nat->Nat->Bool):PyData:=.list ((ao 3).map fun k=>LD (W (P k)))
noncomputable def m9(p:Nat->Bool):Nat:=(p 0).toNat+2 * (p 1).toNat+4 * (p 2).toNat
theorem zn(p:Nat->Bool):m9 p<8:=by
 have:∀a b c:Bool,a.toNat+2 * b.toNat+4 * c.toNat<8:=by decide
 exact this _ _ _
theorem Hf(p:Nat->Bool):cX (m9 p)=(ao 3).filter p:=by
 have:∀a b c:Bool,cX (a.toNat+2 * b.toNat+4 * c.toNat)=(ao 3).filter fun k=>[a,b,c].getD k false:=by decide +kernel
 exact(this _ _ _).trans (List.filter_congr fun k hk=>match k,aG.mp hk with
  | 0,_=>rfl
  | 1,_=>rfl
  | 2,_=>rfl)
noncomputable def wm(P:Nat->Nat->Bool)(n:Nat):Nat:=m9 fun k=>P k n != n.testBit k
theorem tI{P:Nat->Nat->Bool}{ρ:List SV}{a b:IX}{n k:Nat}(h3:ρ.getD 3 .un=.dat (ci P))(ha:Ok ah a ρ (iD n))(hb:Ok ah b ρ (iD k))(hn:n<8)(hk:k<3):Ok ah (.cmp .In a (.sub (.var 3) b)) ρ (.bool (P k n)):=by
 have:=tC ha (mY (a:=.var 3) (ds:=(ao 3).map fun k=>LD (W (P k))) (d:=LD (W (P k))) ⟨by show SV.ok false _;rw[h3];trivial,by show SV.data _=_;rw[h3];rfl⟩ hb hk (bl rfl) (jP hk))
 rwa [GZ hn]at this
theorem Hh:∀p∈kQ 8 3,Ok ah yT [s0,s1,.dat (.list bU),s3,s4,s5,s6,s7,s8,s9,s10,s11,s12,s13,s14,s15,s16,s17,s18,s19,s20,s21,.dat (iD p.1),.dat (iD p.2)] (.bool (p.1.testBit p.2)):=i8 (by kernel_rfl)
theorem Hi{P:Nat->Nat->Bool}:Ok ah yV [s0,s1,.dat (.list bU),.dat (ci P),s4,s5,s6,s7,s8,s9,s10,s11,s12,s13,s14,s15,s16,s17,s18,s19,s20,s21] (.list ((ao 8).map fun n=>bD (wm P n))):=by
 refine jN im (fun n hn=>?_) (by decide)
 have hn:=aG.mp hn
 show Ok ah yU _ (LD (cX (m9 _)))
 rw[Hf]
 refine ii pA (fun k hk=>?_) (fun k U U=>⟨trivial,rfl⟩) (by decide)
 have hk:=aG.mp hk
 exact zb (tI rfl ⟨trivial,rfl⟩ ⟨trivial,rfl⟩ hn hk) (Hh (n,k) (jb hn hk))
noncomputable def tF(F:List Nat)(n:Nat):Bool:=F.all fun k=>!n.testBit k
noncomputable def fm(F:List Nat):Nat:=F.foldl (fun m k=>m+2 ^ k) 0
noncomputable def cJ(F:List Nat):List Nat:=(ao (2 ^ F.length)).map fun m=>((ao F.length).filter fun t=>m.testBit t).foldl (fun x t=>x+2 ^ F.getD t 0) 0
noncomputable def ga(w:Nat->Nat):PyData:=.list ((ao 8).map fun n=>bD (w n))
noncomputable def bw(w:Nat->Nat)(F:List Nat)(n:Nat):List Nat:=(cJ F).map fun p=>w (n+p) &&& fm F
theorem zo{m:Nat}(h:m<8):gM m=bD m:=if_pos h
theorem tJ:∀F∈fn,(∀p∈cJ F,p<8)/\F.length<=3/\(cJ F).length<=8/\fm F<8/\(∀m<8,(cX m).filter (fun k=>F.any (· == k))=cX (m &&& fm F))/\∀n<8,tF F n=true->∀p∈cJ F,n+p<8:=by decide +kernel
theorem Hj:∀F∈fn,kM.val [LD F]=.list ((cJ F).map gM):=ng.mp (by kernel_rfl)
theorem Hk{n:Nat}(hn:n<8):∀F∈fn,Ok ah yW [s0,s1,.dat (.list bU),s3,s4,s5,s6,s7,s8,s9,s10,s11,.dat (LD F),s13,.dat (iD n),s15,s16,s17,s18,s19,s20,s21] (.bool (tF F n)):=fun F hF =>
 i8 (xs:=fn.flatMap fun F=>(ao 8).map fun n=>(F,n)) (r:=fun x=>[s0,s1,.dat (.list bU),s3,s4,s5,s6,s7,s8,s9,s10,s11,.dat (LD x.1),s13,.dat (iD x.2),s15,s16,s17,s18,s19,s20,s21]) (f:=fun x=>.bool (tF x.1 x.2)) (by kernel_rfl) (F,n) (cb.mpr ⟨F,hF,aA.mpr ⟨n,aG.mpr hn,rfl⟩⟩)
theorem Hl:∀x∈kQ 8 8,Ok ah yX [s0,s1,s2,s3,s4,s5,s6,s7,s8,s9,s10,s11,s12,s13,.dat (iD x.1),s15,s16,s17,s18,s19,s20,s21,.dat (bD x.2)] (iD (x.1+x.2)):=i8 (by kernel_rfl)
theorem Hm{w:Nat->Nat}(hw:∀n,w n<8){F:List Nat}(hF:F∈fn){n:Nat}(hn:n<8)(ht:tF F n=true):Ok ah yZ [s0,s1,s2,s3,s4,s5,s6,s7,.dat (ga w),s9,s10,s11,.dat (LD F),.dat (.list ((cJ F).map gM)),.dat (iD n),s15,s16,s17,s18,s19,s20,s21] (.list ((bw w F n).map gM)):=by
 refine fy (tJ F hF) fun f1 f2 f3 f4 f5 f6=>?_
 rw[bw,dS]
 refine jN (fZ ⟨trivial,rfl⟩) (fun p hp=>?_) (by lia)
 have h8:=f6 n hn ht p hp
 rw[zo (f1 p hp)]
 show Ok ah yY _ (gM (w (n+p) &&& fm F))
 rw[zo (cR Nat.and_le_left (hw _)),show bD (w (n+p) &&& fm F)=LD _ from congrArg LD (f5 _ (hw (n+p))).symm]
 refine ii (fZ (mY (ds:=(ao 8).map fun n=>bD (w n)) ⟨trivial,rfl⟩ (Hl (n,p) (jb hn (f1 p hp))) h8 (bl rfl) (jP h8))) (fun k U=>tC ⟨trivial,rfl⟩ ⟨trivial,rfl⟩) (fun k U U=>⟨trivial,rfl⟩) ?_
 exact ae (cc ..) (by decide)
theorem Hn:∀m∈ao 8,Ok ah ty [s0,s1,s2,s3,s4,s5,s6,s7,s8,s9,s10,s11,s12,s13,s14,s15,s16,s17,s18,s19,s20,s21,.dat (gM m)] (.bool (m==0)):=i8 (by kernel_rfl)
noncomputable def kR(l:List Nat):Nat:=(l.filter (· == 0)).length
theorem Ho{l:List Nat}(h:∀m∈l,m<8)(hl:l.length<=8):Ok ah y0 [s0,s1,s2,s3,s4,s5,s6,s7,s8,s9,s10,s11,s12,s13,s14,.dat (.list (l.map gM)),s16,s17,s18,s19,s20,s21] (.bool !((kR l:Int)==1)):=by
 have hc:=ii (Φ:=ah) (ρ:=[s0,s1,s2,s3,s4,s5,s6,s7,s8,s9,s10,s11,s12,s13,s14,.dat (.list (l.map gM)),s16,s17,s18,s19,s20,s21]) (n:=1) (slot:=22) (q:=ty) (e:=.var 22) (f:=gM) (fZ (e:=.var 15) (ds:=l.map gM) ⟨trivial,rfl⟩) (fun m hm=>Hn m (aG.mpr (h m hm))) (fun m U U=>⟨trivial,rfl⟩) (by lia)
 have hc:=zd hc (by rw[af];exact ae (cc ..) (by lia))
 rw[af]at hc
 exact G0 hc
theorem Hp:∀x∈fn.flatMap fun F=>[(F,true),(F,false)],Ok ah y1 [s0,s1,s2,s3,s4,s5,s6,s7,s8,s9,s10,.dat (.bool x.2),.dat (LD x.1),s13,s14,s15,s16,s17,s18,s19,s20,s21] (.bool (x.2&&x.1.length==3)):=i8 (by kernel_rfl)
noncomputable def Sw(w:Nat->Nat)(n:Nat):List Nat:=(cX (w n)).map fun k=>n ^^^ 2 ^ k
theorem Hq:∀x∈kQ 8 3,Ok ah (.bin .BitXor (.var 22) (.bin .Pow (.lit (.int 2)) (.var 23))) [s0,s1,s2,s3,s4,s5,s6,s7,s8,s9,s10,s11,s12,s13,s14,s15,s16,s17,s18,s19,s20,s21,.dat (iD x.1),.dat (iD x.2)] (iD (x.1 ^^^ 2 ^ x.2)):=i8 (by kernel_rfl)
theorem tK{m k:Nat}(h:k∈cX m):k<3:=aG.mp (cW.mp h).1
theorem tL(m:Nat):(cX m).length<=3:=cc ..
theorem Hr{w:Nat->Nat}:Ok ah y2 [s0,s1,s2,s3,s4,s5,s6,s7,.dat (ga w),s9,s10,s11,s12,s13,s14,s15,s16,s17,s18,s19,s20,s21] (.list ((ao 8).map fun n=>LD (n::Sw w n))):=by
 refine jN im (fun n hn=>?_) (by decide)
 have hn:=aG.mp hn
 refine tE (xs:=[iD n]) (ys:=(Sw w n).map iD) ⟨⟨⟨trivial,trivial⟩,bl rfl⟩,rfl⟩ ?_ (by rw[af,Sw,af];have:=tL (w n);show 1+_<=_;lia)
 rw[Sw,dS]
 exact jN (fZ (mY (ds:=(ao 8).map fun n=>bD (w n)) ⟨trivial,rfl⟩ ⟨trivial,rfl⟩ hn (bl rfl) (jP hn))) (fun k hk=>Hq (n,k) (jb hn (tK hk))) (ae (tL _) (by decide))
noncomputable def io(w:Nat->Nat):Nat:=((ao 8).map fun n=>2 ^ (3 - (cX (w n)).length)).sum
theorem Hs:∀m∈ao 8,Ok ah (.bin .Pow (.lit (.int 2)) (.bin .Sub (.lit (.int 3)) y3)) [s0,s1,s2,s3,s4,s5,s6,s7,s8,s9,s10,s11,s12,s13,s14,s15,s16,s17,s18,s19,s20,s21,.dat (bD m)] (iD (2 ^ (3 - (cX m).length))):=i8 (by kernel_rfl)
theorem Ht(l:List Nat):((l.map iD).map bh).sum=((l.sum:Nat):Int):=by
 induction l with
 | nil=>rfl
 | cons x l ih=>rw[aH,aH,tX,tX,ih,Int.natCast_add];rfl
theorem Hu{w:Nat->Nat}(hw:∀n,w n<8):Ok ah y4 [s0,s1,s2,s3,s4,s5,s6,s7,.dat (ga w),s9,s10,s11,s12,s13,s14,s15,s16,s17,s18,s19,s20,s21] (iD (io w)):=by
 have hc:Ok ah tz [s0,s1,s2,s3,s4,s5,s6,s7,.dat (ga w),s9,s10,s11,s12,s13,s14,s15,s16,s17,s18,s19,s20,s21] (.list ((ao 8).map fun n=>iD (2 ^ (3 - (cX (w n)).length)))) :=
  jN (g:=fun n=>bD (w n)) (fZ ⟨trivial,rfl⟩) (fun n U=>Hs (w n) (aG.mpr (hw n))) (by decide)
 refine⟨⟨dP hc.1,_,hc.2,bl rfl,fun d hd=>?_⟩,?_⟩
 ·refine x12 (aA.mp hd) fun n U e2=>?_;subst e2
  have:2 ^ (3 - (cX (w n)).length)<=2 ^ 3:=Nat.pow_le_pow_right (by decide) (Nat.sub_le ..)
  generalize 2 ^ (3 - (cX (w n)).length)=z at this
  refine⟨rfl,?_⟩
  show -1000000000000<=(z:Int)/\(z:Int)<=1000000000000
  lia
 ·show PyData.int ((eW (den ah tz _)).map bh).sum=_
  rw[hc.2]
  show PyData.int ((List.map (fun n=>iD _) _).map bh).sum=PyData.int ((io w:Nat):Int)
  rw[io,<- Ht,dS (f:=fun n=>2 ^ (3 - (cX (w n)).length))];rfl
theorem Hv{rl sg sq:Bool}{wt:Int}:Ok ah y5 [s0,s1,s2,s3,s4,s5,s6,s7,s8,.dat (.bool sg),s10,.dat (.bool sq),s12,s13,s14,s15,s16,.dat (.bool rl),s18,.dat (.int wt),s20,s21] (.bool (rl&&(!(sg==sq)||!(sg==(wt==27))))):=by
 cases rl<;>cases sg<;>cases sq<;>exact fX (by kernel_rfl)
noncomputable def gb(S:Nat->List Nat)(G:List Nat):List Nat:=G.filter fun n=>(S n).any fun m=>G.any (· == m)
theorem Hw{S:Nat->List Nat}(hS:∀n,(S n).length<=3){G:List Nat}(hG:∀n∈G,n<8)(hl:G.length<=8):Ok ah y7 [s0,s1,s2,s3,s4,s5,s6,s7,s8,s9,s10,s11,s12,s13,s14,s15,.dat (.list ((ao 8).map fun n=>LD (n::S n))),s17,.dat (LD G),s19,s20,s21] (LD (gb S G)):=by
 refine ii (fZ ⟨trivial,rfl⟩) (fun n hn=>?_) (fun n U U=>⟨trivial,rfl⟩) (by lia)
 have h8:=hG n hn
 have hs:=hS n
 have h52:=ii (Φ:=ah) (ρ:=[s0,s1,s2,s3,s4,s5,s6,s7,s8,s9,s10,s11,s12,s13,s14,s15,.dat (.list ((ao 8).map fun n=>LD (n::S n))),s17,.dat (LD G),s19,s20,s21,.dat (iD n)]) (n:=1) (slot:=23) (q:=y6) (e:=.var 23) (f:=iD) (xs:=S n) (g:=iD)
  (fZ (G2 (d:=iD n) (ds:=(S n).map iD) (mY (a:=.var 16) (b:=.var 22) (ds:=(ao 8).map fun n=>LD (n::S n)) ⟨trivial,rfl⟩ ⟨trivial,rfl⟩ h8 (bl rfl) (jP h8)) (by rw[af];lia)))
  (fun m U=>tC ⟨trivial,rfl⟩ ⟨trivial,rfl⟩) (fun m U U=>⟨trivial,rfl⟩) (by lia)
 have:=(tD h52 (pz (py _) (by decide))).2
 rwa [zm]at this
theorem Hx{rl:Bool}{G:List Nat}:Ok ah y8 [s0,s1,s2,s3,s4,s5,s6,s7,s8,s9,s10,s11,s12,s13,s14,s15,s16,.dat (.bool rl),.dat (LD G),s19,s20,s21] (.bool !(rl==G.isEmpty)):=by
 have:=(tD (Φ:=ah) (a:=.var 18) (ρ:=[s0,s1,s2,s3,s4,s5,s6,s7,s8,s9,s10,s11,s12,s13,s14,s15,s16,.dat (.bool rl),.dat (LD G),s19,s20,s21]) (ds:=G.map iD) ⟨trivial,rfl⟩ (pz (py _) (by decide))).1
 rw[List.isEmpty_map]at this
 exact zc ⟨trivial,rfl⟩ this
noncomputable def Hg(P:Nat->Nat->Bool)(n k:Nat):List Nat:=(ao 3).filter fun j=>P k n != P k (n ^^^ 2 ^ j)
theorem Hy:∀x∈kQ 8 3,Ok ah (.bin .BitXor (.var 14) (.bin .Pow (.lit (.int 2)) (.var 23))) [s0,s1,s2,s3,s4,s5,s6,s7,s8,s9,s10,s11,s12,s13,.dat (iD x.1),s15,s16,s17,s18,s19,s20,s21,x22,.dat (iD x.2)] (iD (x.1 ^^^ 2 ^ x.2)):=i8 (by kernel_rfl)
theorem tM:∀x∈kQ 8 3,x.1 ^^^ 2 ^ x.2<8:=by decide +kernel
theorem zp{P:Nat->Nat->Bool}{n:Nat}(hn:n<8):Ok ah y9 [s0,s1,s2,.dat (ci P),s4,s5,s6,s7,s8,s9,s10,s11,s12,s13,.dat (iD n),s15,s16,s17,s18,s19,s20,s21] (.list ((ao 3).map fun k=>LD (k::Hg P n k))):=by
 refine jN pA (fun k hk=>?_) (by decide)
 have hk:=aG.mp hk
 refine tE (xs:=[iD k]) (ys:=(Hg P n k).map iD) ⟨⟨⟨trivial,trivial⟩,bl rfl⟩,rfl⟩ ?_ (by rw[af];have:(Hg P n k).length<=3:=cc ..;show 1+_<=_;lia)
 refine ii pA (fun j hj=>?_) (fun k U U=>⟨trivial,rfl⟩) (by decide)
 have hj:=aG.mp hj
 exact zb (tI rfl ⟨trivial,rfl⟩ ⟨trivial,rfl⟩ hn hk) (tI rfl (Hy (n,j) (jb hn hj)) ⟨trivial,rfl⟩ (tM (n,j) (jb hn hj)) hk)
end
noncomputable abbrev T3:=Bool × Bool × Bool
noncomputable def dT(l:List Nat):Bool:=((kR l:Int)==1)
noncomputable def pB(w:Nat->Nat)(F:List Nat)(n:Nat)(t:T3):T3 :=
 if tF F n=true then(if dT (bw w F n)=true then(t.1,em (bw w F n) (cJ F)&&t.2.1,t.2.2)else(false,em (bw w F n) (cJ F)&&t.2.1,t.2.2&&F.length==3))else t
noncomputable def nh(w:Nat->Nat)(F:List Nat)(t:T3):Nat->T3
 | 0=>t
 | n+1=>pB w F n (nh w F t n)
noncomputable def dk(w:Nat->Nat):Nat->T3
 | 0=>(true,true,true)
 | k+1=>nh w (fn.getD k []) (dk w k) 8
noncomputable def bx(S:Nat->List Nat)(N:Nat):Nat->List Nat
 | 0=>ao N
 | k+1=>gb S (bx S N k)
noncomputable def Pm(V:List Nat)(k n:Nat):Bool:=tg (V.getD k 0) n
noncomputable def eN:List Nat->Nat
 | []=>0
 | x::l=>Nat.add x (Nat.mul 8 (eN l))
noncomputable def wT(T n:Nat):Nat:=Nat.mod (Nat.div T (Nat.pow 8 n)) 8
theorem zq:∀ {l:List Nat} {n:Nat},(∀x∈l,x<8)->wT (eN l) n=l.getD n 0
 | [],n,_=>by show 0 / 8 ^ n % 8=0;rw[Nat.zero_div]
 | x::l,0,h=>by
  have:=h x ag
  show(x+8 * eN l) / 8 ^ 0 % 8=x
  rw[Nat.pow_zero,Nat.div_one,Nat.add_mul_mod_self_left,Nat.mod_eq_of_lt this]
 | x::l,n+1,h=>by
  have:=zq (l:=l) (n:=n) fun y hy=>h y (ar _ hy)
  show(x+8 * eN l) / 8 ^ (n+1) % 8=l.getD n 0
  rw[<- this,Nat.pow_succ,Nat.mul_comm (8 ^ n),<- Nat.div_div_eq_div_mul,Nat.add_mul_div_left _ _ (by decide),Nat.div_eq_of_lt (h x ag),jj]
  rfl
noncomputable def jd{β:Type}(x:Nat)(f:Nat->β):β:=Nat.rec (f 0) (fun n U=>f (Nat.succ n)) x
theorem nj{β:Type}(x:Nat)(f:Nat->β):jd x f=f x:=by cases x<;>rfl
noncomputable def VP:List (Nat × List Nat):=[(3,[1,8,64,512]),(3,[4096,32768,262144,2097152]),(5,[1,8,4096,32768]),(5,[64,512,262144,2097152]),(6,[1,64,4096,262144]),(6,[8,512,32768,2097152]),(7,[1,8,64,512,4096,32768,262144,2097152])]
noncomputable def iq(T:Nat)(v:Nat × List Nat):Bool:=Nat.beq (v.2.foldr (fun d c=>jd c fun c=>if Nat.beq (je (Nat.div T d) v.1) 0 then Nat.succ c else c) 0) 1
noncomputable def tN(v:Nat × List Nat):Nat:=if v.1=3 then 15 else if v.1=5 then 51 else if v.1=6 then 85 else 255
noncomputable def kU(T:Nat)(v:Nat × List Nat):Bool:=Nat.beq (v.2.foldr (fun d c=>Nat.lor (Nat.pow 2 (je (Nat.div T d) v.1)) c) 0) (tN v)
noncomputable def sh(j g:Nat):Nat:=if j=0 then Nat.lor (Nat.shiftLeft (je g 85) 1) (je (Nat.shiftRight g 1) 85)else if j=1 then Nat.lor (Nat.shiftLeft (je g 51) 2) (je (Nat.shiftRight g 2) 51)else Nat.lor (Nat.shiftLeft (je g 15) 4) (je (Nat.shiftRight g 4) 15)
noncomputable def zr(W0 W1 W2:Nat):Nat->Nat->Nat
 | 0,g=>g
 | k+1,g=>jd (je g (Nat.lor (je W0 (sh 0 g)) (Nat.lor (je W1 (sh 1 g)) (je W2 (sh 2 g))))) (zr W0 W1 W2 k)
noncomputable def tO(T c:Nat):Bool:=(jd (Nat.log2 c) fun n=>Nat.blt n 8&&tg c n)&&(ao 8).all fun n=>!tg c n||(cX (wT T n)).any fun k=>tg c (n ^^^ 2 ^ k)
noncomputable def jT(V:List Nat)(c q:Nat):Bool:=!Nat.beq c 0&&jd (Nat.log2 c) fun n=>Nat.blt n 8&&(ao 3).all fun k=>!tg q k||(ao 3).any fun j=>tg q j&&(Pm V k n != Pm V k (n ^^^ 2 ^ j))
noncomputable def zs(V0 V1 V2 T:Nat):Bool :=
 let sg:=VP.all (iq T)
 let wh:=VP.all (kU T)
 let sq:=(VP.take 6).all (iq T)
 let D (j V:Nat):=Nat.xor V (sh j V)
 sg==wh&&((sg==sq&&sg==Nat.beq (((ao 8).map fun n=>[8,4,4,2,4,2,2,1].getD (wT T n) 0).sum) 27) ||
  jd (zr (Nat.xor V0 170) (Nat.xor V1 204) (Nat.xor V2 240) 8 255) (tO T)) &&
 (sg||jT [V0,V1,V2] (je (D 1 V0) (D 0 V1)) 3||jT [V0,V1,V2] (je (D 2 V0) (D 0 V2)) 5||jT [V0,V1,V2] (je (D 2 V1) (D 1 V2)) 6 ||
  jT [V0,V1,V2] (je (je (Nat.lor (D 1 V0) (D 2 V0)) (Nat.lor (D 0 V1) (D 2 V1))) (Nat.lor (D 0 V2) (D 1 V2))) 7)
noncomputable def Hz:List (List (Nat × Nat)):=[[(0,2130440),(3,2130433),(12,2129992),(15,2129985),(48,2101768),(51,2101761),(60,2101320),(63,2101313),(192,295432),(195,295425),(204,294984),(207,294977),(240,266760),(243,266753),(252,266312),(255,266305)],[(0,4719744),(5,4719618),(10,4718736),(15,4718610),(80,4203648),(85,4203522),(90,4202640),(95,4202514),(160,590976),(165,590850),(170,589968),(175,589842),(240,74880),(245,74754),(250,73872),(255,73746)],[(0,9584640),(17,9568260),(34,9453600),(51,9437220),(68,8536320),(85,8519940),(102,8405280),(119,8388900),(136,1198080),(153,1181700),(170,1067040),(187,1050660),(204,149760),(221,133380),(238,18720),(255,2340)]]
noncomputable def vt(k:Nat):List (Nat × Nat):=Hz.getD k []
noncomputable def dl(x:Nat × Nat):Bool:=(vt 1).all fun y=>(vt 2).all fun z=>jd (x.2+y.2+z.2) (zs x.1 y.1 z.1)
theorem HA:dl ((vt 0).getD 0 (0,0))=true:=by kernel_rfl
theorem HB:dl ((vt 0).getD 1 (0,0))=true:=by kernel_rfl
theorem HC:dl ((vt 0).getD 2 (0,0))=true:=by kernel_rfl
theorem HD:dl ((vt 0).getD 3 (0,0))=true:=by kernel_rfl
theorem HE:dl ((vt 0).getD 4 (0,0))=true:=by kernel_rfl
theorem HG:dl ((vt 0).getD 5 (0,0))=true:=by kernel_rfl
theorem HH:dl ((vt 0).getD 6 (0,0))=true:=by kernel_rfl
theorem HI:dl ((vt 0).getD 7 (0,0))=true:=by kernel_rfl
theorem HJ:dl ((vt 0).getD 8 (0,0))=true:=by kernel_rfl
theorem HK:dl ((vt 0).getD 9 (0,0))=true:=by kernel_rfl
theorem HL:dl ((vt 0).getD 10 (0,0))=true:=by kernel_rfl
theorem HM:dl ((vt 0).getD 11 (0,0))=true:=by kernel_rfl
theorem HN:dl ((vt 0).getD 12 (0,0))=true:=by kernel_rfl
theorem HO:dl ((vt 0).getD 13 (0,0))=true:=by kernel_rfl
theorem HP:dl ((vt 0).getD 14 (0,0))=true:=by kernel_rfl
theorem HQ:dl ((vt 0).getD 15 (0,0))=true:=by kernel_rfl
theorem dF{α:Type}{f:α->Bool}{x:α}{l:List α}(h:f x=true)(k:l.all f=true):(x::l).all f=true:=by rw[List.all_cons,h,k];rfl
theorem HR:(vt 0).all dl=true:=dF HA (dF HB (dF HC (dF HD (dF HE (dF HG (dF HH (dF HI (dF HJ (dF HK (dF HL (dF HM (dF HN (dF HO (dF HP (dF HQ (rfl))))))))))))))))
section
variable{α:Type}[BEq α][LawfulBEq α]
theorem zt{x:α}:∀ {t:List α},x∈t->∃r,ij x t=some r/\(∀y,y∈t↔y=x\/y∈r)/\(t.Nodup->r.Nodup/\x∉r)
 | y::t,h=>by
  rw[tq]
  by_cases q:(y==x)=true
  ·rw[if_pos q]
   cases eq_of_beq q
   exact⟨t,rfl,fun z=>aa,fun n=>let c:=b8.mp n;⟨c.2,c.1⟩⟩
  ·rw[if_neg q]
   have hx:x∈t:=(aa.mp h).resolve_left fun e=>q (beq_iff_eq.mpr e.symm)
   refine x13 (zt hx) fun r e h1 h2=>?_
   refine⟨y::r,by rw[e];rfl,fun z=>?_,fun n=>?_⟩
   ·rw[aa,aa,h1 z];exact or_left_comm
   ·refine ak (b8.mp n) fun c1 c2=>?_
    refine ak (h2 c2) fun d1 d2=>?_
    exact⟨b8.mpr ⟨fun z=>c1 ((h1 y).mpr (.inr z)),d1⟩,fun z=>(aa.mp z).elim (fun e=>q (beq_iff_eq.mpr e.symm)) d2⟩
theorem zu{x:α}:∀ {t:List α},x∉t->ij x t=none
 | [],_=>rfl
 | y::t,h=>by
  rw[tq]
  rw[if_neg fun q:(y==x)=true=>h (aa.mpr (.inl (eq_of_beq q).symm)),zu fun z=>h (ar _ z)];rfl
theorem zv:∀ {l t:List α},l.Nodup->t.Nodup->(ik l t=some []↔∀x,x∈l↔x∈t)
 | [],t,_,_=>⟨fun h=>by cases h;exact fun x=>Iff.rfl,fun h=>congrArg some (List.eq_nil_iff_forall_not_mem.mpr fun x hx=>nomatch (h x).mpr hx)⟩
 | x::l,t,hl,ht=>by
  refine ak (b8.mp hl) fun c1 c2=>?_
  by_cases hx:x∈t
  ·refine x13 (zt hx) fun r e h1 h2=>?_
   refine ak (h2 ht) fun d1 d2=>?_
   rw[tr]
   rw[e]
   refine(zv c2 d1).trans ⟨fun h y=>?_,fun h y=>?_⟩
   ·rw[aa,h1 y,h y]
   ·have:=h y
    rw[aa,h1 y]at this
    exact⟨fun q=>(this.mp (.inr q)).resolve_left fun z=>c1 (z▸q),fun q=>(this.mpr (.inr q)).resolve_left fun z=>d2 (z▸q)⟩
  ·rw[tr]
   rw[zu hx]
   exact⟨fun h=>(nomatch h),fun h=>absurd ((h x).mp ag) hx⟩
theorem pD:∀(l acc:List α),acc.Nodup->(dC acc l).Nodup/\∀x,x∈dC acc l↔x∈acc\/x∈l
 | [],acc,h=>⟨h,fun x=>(or_iff_left fun z=>nomatch z).symm⟩
 | d::l,acc,h=>by
  rw[yL]
  by_cases q:(acc.any fun y=>y==d)=true
  ·rw[if_pos q]
   refine x12 (cM.mp q) fun y h1 h2=>?_
   cases eq_of_beq h2
   refine ak (pD l acc h) fun a b=>?_
   refine⟨a,fun x=>(b x).trans ?_⟩
   rw[aa]
   exact⟨fun z=>z.imp id .inr,fun z=>z.elim .inl fun z=>z.elim (fun e=>.inl (e▸h1)) .inr⟩
  ·rw[if_neg q]
   have hd:d∉acc:=fun z=>q (cM.mpr ⟨d,z,beq_self_eq_true d⟩)
   refine ak (pD l (acc++[d]) (cD.mpr ⟨h,b8.mpr ⟨fun z=>(nomatch z),List.nodup_nil⟩,fun x hx y hy e=>hd (by rw[<- ai.mp hy,<- e];exact hx)⟩)) fun a b=>?_
   refine⟨a,fun x=>(b x).trans ?_⟩
   rw[au,ai,aa];exact or_assoc
theorem zw{a b:List α}:em a b=true↔∀x,x∈a↔x∈b:=by
 have ha:=pD a [] List.nodup_nil
 have hb:=pD b [] List.nodup_nil
 have key:=zv ha.1 hb.1
 have e:em a b=true↔ik (dC [] a) (dC [] b)=some []:=by
  unfold em
  cases ik (dC [] a) (dC [] b)with
  | none=>exact⟨fun h=>(nomatch h),fun h=>nomatch h⟩
  | some l=>cases l with
   | nil=>exact⟨fun U=>rfl,fun U=>rfl⟩
   | cons=>exact⟨fun h=>(nomatch h),fun h=>nomatch h⟩
 rw[e,key]
 refine forall_congr' fun x=>?_
 rw[ha.2 x,hb.2 x]
 simp
end
noncomputable def jU(l:List Nat):Nat:=l.foldr (fun x c=>Nat.lor (Nat.pow 2 x) c) 0
theorem nk(x:Nat):∀l:List Nat,(jU l).testBit x=true↔x∈l
 | []=>by show tg 0 x=true↔_;rw[Nat.zero_testBit];exact⟨fun h=>(nomatch h),fun h=>nomatch h⟩
 | y::l=>by
  show(2 ^ y ||| jU l).testBit x=true↔_
  rw[Nat.testBit_or,ji,nk x l,Nat.testBit_two_pow,decide_eq_true_eq,aa,eq_comm]
theorem HS(a b:List Nat):em a b=Nat.beq (jU a) (jU b):=by
 rw[kO,zw,Nat.beq_eq]
 refine⟨fun h=>Nat.eq_of_testBit_eq fun i=>?_,fun h x=>?_⟩
 ·rw[kO,nk,nk];exact h i
 ·rw[<- nk,<- nk,h]
section
variable{S:Nat->List Nat}{N:Nat}
theorem tP{q:Nat->Prop}(h:∀n,q n->n<N/\∃m∈S n,q m):∀(k n:Nat),q n->n∈bx S N k
 | 0,n,hn=>aG.mpr (h n hn).1
 | k+1,n,hn=>by
  obtain⟨_,m,hm,hq⟩:=h n hn
  exact cW.mpr ⟨tP h k n hn,cM.mpr ⟨m,hm,cM.mpr ⟨m,tP h k m hq,beq_self_eq_true m⟩⟩⟩
theorem HT:gb S (bx S N N)=bx S N N:=by
 have key:∀k,gb S (bx S N k)=bx S N k\/(bx S N k).length+k<=N:=by
  intro k
  induction k with
  | zero=>exact .inr (cI jh)
  | succ k ih =>
   by_cases e:gb S (bx S N k)=bx S N k
   ·refine .inl ?_
    show gb S (gb S (bx S N k))=gb S (bx S N k)
    rw[e,e]
   ·refine .inr ?_
    have h1:=ih.resolve_left e
    have h2:(gb S (bx S N k)).length<=(bx S N k).length:=cc ..
    have h3:(gb S (bx S N k)).length≠(bx S N k).length:=fun z=>e ((List.filter_sublist).eq_of_length z)
    show(gb S (bx S N k)).length+(k+1)<=N
    lia
 rcases key N with h | h
 ·exact h
 ·have:bx S N N=[]:=List.eq_nil_of_length_eq_zero (by lia)
  rw[this];rfl
theorem tQ:∀(k n:Nat),n∈bx S N k->n<N
 | 0,_,h=>aG.mp h
 | k+1,n,h=>tQ k n (cW.mp h).1
theorem HU(h:∀q:Nat->Bool,(∀n,n<N->q n=true->∃m∈S n,q m=true)->∀n,n<N->q n=false):(bx S N N).isEmpty=true:=by
 have:=h (fun n=>(bx S N N).any (· == n)) fun n U hn=>?_
 ·refine List.isEmpty_iff.mpr (List.eq_nil_iff_forall_not_mem.mpr fun n hn=>?_)
  have h2:=this n (tQ _ _ hn)
  rw[List.any_eq_false]at h2
  exact h2 n hn (beq_self_eq_true n)
 ·refine x12 (cM.mp hn) fun x h1 h2=>?_
  cases eq_of_beq h2
  rw[<- HT]at h1
  exact cM.mp (cW.mp h1).2
theorem zx{q:Nat->Prop}(h0:∃n,n<N/\q n)(h:∀n,q n->n<N/\∃m∈S n,q m):(bx S N N).isEmpty=false:=by
 refine x12 h0 fun n U hn=>?_
 cases e:bx S N N with
 | nil=>have:=tP h N n hn;rw[e]at this;cases this
 | cons=>rfl
end
theorem HV{T m i:Nat}(hm:m=3\/m=5\/m=6\/m=7):je (Nat.div T (8 ^ i)) m=wT T i &&& m:=by
 show T / 8 ^ i &&& m=T / 8 ^ i % 8 &&& m
 rw[show 8=2 ^ 3 from rfl,<- Nat.and_two_pow_sub_one_eq_mod,Nat.and_assoc]
 rcases hm with rfl | rfl | rfl | rfl<;>rfl
noncomputable def VF:List ((List Nat × Nat) × (Nat × List Nat)):=[(([0,1],0),(3,[0,1,2,3])),(([0,1],4),(3,[4,5,6,7])),(([0,2],0),(5,[0,1,4,5])),(([0,2],2),(5,[2,3,6,7])),(([1,2],0),(6,[0,2,4,6])),(([1,2],1),(6,[1,3,5,7])),(([0,1,2],0),(7,[0,1,2,3,4,5,6,7]))]
theorem HW:VP=VF.map fun x=>(x.2.1,x.2.2.map fun i=>8 ^ i):=by decide +kernel
theorem zy:∀l:List Nat,l.foldr (fun d c=>jd c fun c=>if Nat.beq d 0=true then Nat.succ c else c) 0=kR l
 | []=>rfl
 | x::l=>by
  rw[List.foldr_cons,nj,zy l]
  unfold kR
  rw[ft]
  cases x<;>rfl
noncomputable def kW(w:Nat->Nat)(x:Nat × List Nat):List Nat:=x.2.map fun i=>w i &&& x.1
section
variable{w:Nat->Nat}
theorem zz{T:Nat}{x:Nat × List Nat}(hw:∀i∈x.2,wT T i=w i)(hm:x.1=3\/x.1=5\/x.1=6\/x.1=7):iq T (x.1,x.2.map fun i=>8 ^ i)=dT (kW w x)/\kU T (x.1,x.2.map fun i=>8 ^ i)=Nat.beq (jU (kW w x)) (tN (x.1,x.2.map fun i=>8 ^ i)):=by
 have e:kW w x=(x.2.map fun i=>8 ^ i).map fun d=>je (Nat.div T d) x.1:=by
  rw[dS,kW]
  refine eQ fun i hi=>?_
  rw[<- hw i hi];exact(HV hm).symm
 rw[e]
 generalize x.2.map (fun i=>8 ^ i)=l
 constructor
 ·unfold iq dT
  rw[<- zy,List.foldr_map]
  generalize List.foldr _ 0 l=z
  rw[kO,Nat.beq_eq,beq_iff_eq]
  show z=1↔(z:Int)=1
  lia
 ·unfold kU jU
  rw[List.foldr_map]
noncomputable def tR(w:Nat->Nat)(t:T3)(x:List Nat × Nat):T3 :=
 if dT (bw w x.1 x.2)=true then(t.1,em (bw w x.1 x.2) (cJ x.1)&&t.2.1,t.2.2)else(false,em (bw w x.1 x.2) (cJ x.1)&&t.2.1,t.2.2&&x.1.length==3)
theorem HX:dk w 4=(VF.map (·.1)).foldl (tR w) (true,true,true):=by kernel_rfl
theorem HY:(VF.map fun x=>bw w x.1.1 x.1.2)=VF.map fun x=>kW w x.2:=by kernel_rfl
theorem nq:∀x∈VF,jU (cJ x.1.1)=tN (x.2.1,x.2.2.map fun i=>8 ^ i)/\(x.2.1=3\/x.2.1=5\/x.2.1=6\/x.2.1=7)/\∀i∈x.2.2,i<8:=by decide +kernel
theorem HZ(c d:List Nat × Nat->Bool)(f:T3->List Nat × Nat->T3)(hf:∀t x,f t x=(t.1&&c x,d x&&t.2.1,t.2.2&&(c x||x.1.length==3))) :
 (VF.map (·.1)).foldl f (true,true,true)=((VF.map (·.1)).all c,(VF.map (·.1)).all d,((VF.map (·.1)).take 6).all c):=by
 have h3:∀a b c d e f g:Bool,(((((((true&&a)&&b)&&c)&&d)&&e)&&f)&&g)=(a&&(b&&(c&&(d&&(e&&(f&&(g&&true))))))):=by decide
 have hd:∀a b c d e f g:Bool,(g&&(f&&(e&&(d&&(c&&(b&&(a&&true)))))))=(a&&(b&&(c&&(d&&(e&&(f&&(g&&true))))))):=by decide
 have h6:∀a b c d e f g:Bool,(((((((true&&(a||false))&&(b||false))&&(c||false))&&(d||false))&&(e||false))&&(f||false))&&(g||true))=(a&&(b&&(c&&(d&&(e&&(f&&true)))))):=by decide
 simp only[VF,aH,List.map_nil,List.foldl_cons,List.foldl_nil,hf]
 exact Prod.ext (h3 ..) (Prod.ext (hd ..) (h6 ..))
theorem H0(hw:∀n,w n<8){T:Nat}(hT:∀n,n<8->wT T n=w n):dk w 4=(VP.all (iq T),VP.all (kU T),(VP.take 6).all (iq T)):=by
 have hr:∀x∈VF,bw w x.1.1 x.1.2=kW w x.2:=ng.mp HY
 have hone:∀x∈VF,dT (bw w x.1.1 x.1.2)=iq T (x.2.1,x.2.2.map fun i=>8 ^ i):=fun x hx=>by
  rw[hr x hx];exact(zz (fun i hi=>hT i ((nq x hx).2.2 i hi)) (nq x hx).2.1).1.symm
 have hwh:∀x∈VF,em (bw w x.1.1 x.1.2) (cJ x.1.1)=kU T (x.2.1,x.2.2.map fun i=>8 ^ i):=fun x hx=>by
  rw[HS,(nq x hx).1,hr x hx];exact(zz (fun i hi=>hT i ((nq x hx).2.2 i hi)) (nq x hx).2.1).2.symm
 rw[HX,HZ (fun x=>dT (bw w x.1 x.2)) (fun x=>em (bw w x.1 x.2) (cJ x.1)) (tR w) fun t x=>?_,HW]
 ·rw[<- List.map_take,<- List.map_take,tG,tG,tG,tG,tG,tG]
  have e1:∀l:List ((List Nat × Nat) × (Nat × List Nat)),(∀x∈l,x∈VF)->(l.all fun x=>dT (bw w x.1.1 x.1.2))=l.all fun x=>iq T (x.2.1,x.2.2.map fun i=>8 ^ i):=fun l hl=>by
   rw[kO,aU,aU]
   exact forall_congr' fun x=>forall_congr' fun hx=>by rw[hone x (hl x hx)]
  have e2:(VF.all fun x=>em (bw w x.1.1 x.1.2) (cJ x.1.1))=VF.all fun x=>kU T (x.2.1,x.2.2.map fun i=>8 ^ i):=by
   rw[kO,aU,aU]
   exact forall_congr' fun x=>forall_congr' fun hx=>by rw[hwh x hx]
  exact Prod.ext (e1 VF fun x hx=>hx) (Prod.ext e2 (e1 (VF.take 6) fun x hx=>nK hx))
 ·unfold tR
  cases dT (bw w x.1 x.2)<;>simp
theorem H1:∀m<8,2 ^ (3 - (cX m).length)=[8,4,4,2,4,2,2,1].getD m 0:=by decide +kernel
theorem H2(hw:∀n,w n<8){T:Nat}(hT:∀n,n<8->wT T n=w n):((ao 8).map fun n=>[8,4,4,2,4,2,2,1].getD (wT T n) 0).sum=io w :=
 congrArg List.sum (eQ fun n hn=>by rw[hT n (aG.mp hn),<- H1 _ (hw n)])
theorem H3{T c:Nat}(hT:∀n,n<8->wT T n=w n)(h:tO T c=true):(bx (Sw w) 8 8).isEmpty=false:=by
 unfold tO at h
 rw[nj]at h
 refine aO h fun h1 h2=>aO h1 fun h3 h4=>?_
 have h3:=Nat.blt_eq.mp h3
 have key:∀n,n<8->c.testBit n=true->∃k∈cX (w n),c.testBit (n ^^^ 2 ^ k)=true:=fun n hn hc=>by
  have:=aU.mp h2 n (aG.mpr hn)
  rw[hc,hT n hn]at this
  exact cM.mp this
 refine zx (q:=fun n=>n<8/\c.testBit n=true) ⟨_,h3,h3,h4⟩ fun n ζ=>ζ.elim fun hn hc=>⟨hn,?_⟩
 refine x12 (key n hn hc) fun k hk hb=>?_
 exact⟨_,aA.mpr ⟨k,hk,rfl⟩,tM (n,k) (jb hn (tK hk)),hb⟩
end
noncomputable def jf(P:Nat->Nat->Bool)(n:Nat):Prop:=∀q:Nat->Bool,(∀k,k<3->q k=true->∃j∈Hg P n k,q j=true)->∀k,k<3->q k=false
theorem H4{V:List Nat}{c q:Nat}(hq:∃k,k<3/\q.testBit k=true)(h:jT V c q=true):∃n,n<8/\¬jf (Pm V) n:=by
 unfold jT at h
 rw[nj]at h
 refine aO h fun U h=>aO h fun h1 h2=>⟨_,Nat.blt_eq.mp h1,fun hc=>?_⟩
 refine x12 hq fun k hk hb=>?_
 have:=hc (fun k=>q.testBit k) (fun k hk hb=>?_) k hk
 ·rw[hb]at this;cases this
 ·have:=aU.mp h2 k (aG.mpr hk)
  have hb:q.testBit k=true:=hb
  rw[hb]at this
  refine x12 (cM.mp this) fun j hj e=>?_
  exact aO e fun e1 e2=>⟨j,cW.mpr ⟨hj,e2⟩,e1⟩
theorem tS:∀(l:List Nat) (f g:Nat->Nat),eN (l.map fun n=>f n+g n)=eN (l.map f)+eN (l.map g)
 | [],_,_=>rfl
 | x::l,f,g=>by
  show(f x+g x)+8 * eN (l.map fun n=>f n+g n)=(f x+8 * eN (l.map f))+(g x+8 * eN (l.map g))
  rw[tS l f g];lia
theorem tT:∀k<3,∀x∈vt k,x.2=eN ((ao 8).map fun n=>2 ^ k * (x.1.testBit n != n.testBit k).toNat):=by decide +kernel
structure Net(V:List Nat):Prop where
 single:(dk (wm (Pm V)) 4).1=(dk (wm (Pm V)) 4).2.1
 rl:(bx (Sw (wm (Pm V))) 8 8).isEmpty=true->(dk (wm (Pm V)) 4).1=(dk (wm (Pm V)) 4).2.2/\(dk (wm (Pm V)) 4).1=((io (wm (Pm V)):Int)==27)
 calm:(∀n,n<8->jf (Pm V) n)->(dk (wm (Pm V)) 4).1=true
theorem H5{x y z:Nat × Nat}(hx:x∈vt 0)(hy:y∈vt 1)(hz:z∈vt 2):Net [x.1,y.1,z.1]:=by
 have h:=aU.mp (aU.mp (aU.mp HR x hx) y hy) z hz
 rw[nj]at h
 have hw:∀n,wm (Pm [x.1,y.1,z.1]) n<8:=fun n=>zn _
 have hT:∀n,n<8->wT (x.2+y.2+z.2) n=wm (Pm [x.1,y.1,z.1]) n:=fun n hn=>by
  have e:x.2+y.2+z.2=eN ((ao 8).map (wm (Pm [x.1,y.1,z.1]))):=by
   rw[tT 0 (by decide) x hx,tT 1 (by decide) y hy,tT 2 (by decide) z hz,<- tS,<- tS]
   refine congrArg eN (eQ fun n U=>?_)
   show 2 ^ 0 * _+2 ^ 1 * _+2 ^ 2 * _=m9 _
   rw[Nat.pow_zero,Nat.one_mul];rfl
  rw[e,zq fun v hv=>?_]
  ·exact jP hn
  ·refine x12 (aA.mp hv) fun n U e2=>?_;subst e2;exact hw n
 have hs:=H0 hw hT
 unfold zs at h
 dsimp only at h
 rw[H2 hw hT]at h
 refine dW h fun h1 h2 h3=>?_
 have h1:=eq_of_beq h1
 refine⟨by rw[hs];exact h1,fun he=>?_,fun hc=>?_⟩
 ·rw[hs]
  rcases ji _ _▸h2 with h2 | h2
  ·refine aO h2 fun a b=>⟨eq_of_beq a,(eq_of_beq b).trans ?_⟩
   rw[kO,Nat.beq_eq,beq_iff_eq];lia
  ·rw[nj]at h2
   rw[H3 hT h2]at he;cases he
 ·rw[hs]
  have no:∀ {c q:Nat},(∃k,k<3/\q.testBit k=true)->jT [x.1,y.1,z.1] c q=true->VP.all (iq (x.2+y.2+z.2))=true:=fun hq h =>
   (H4 hq h).elim fun n ζ=>ζ.elim fun hn hh=>absurd (hc n hn) hh
  rcases ji _ _▸h3 with h3 | h3
  ·rcases ji _ _▸h3 with h3 | h3
   ·rcases ji _ _▸h3 with h3 | h3
    ·rcases ji _ _▸h3 with h3 | h3
     ·exact h3
     ·exact no ⟨0,by decide⟩ h3
    ·exact no ⟨0,by decide⟩ h3
   ·exact no ⟨1,by decide⟩ h3
  ·exact no ⟨0,by decide⟩ h3
section
variable{Ψ Φ:List FEntry}{ρ:List SV}{fl:Fl}{R:List SV->Prop}{r:SX}
theorem nr{n i:Nat}{it:IX}{body:SX}{g:Nat->PyData}{Inv:Nat->List SV->Prop}(hi:gD Φ it ρ ((ao n).map g))(h0:Inv 0 ρ)
 (hb:∀k ρ,k<n->Inv k ρ->bc Φ body (ay false [i] (g k) ρ) .next (Inv (k+1))\/∃d,fl=.ret d/\bc Φ body (ay false [i] (g k) ρ) (.ret d) R)
 (k:∀ρ1,Inv n ρ1->bc Φ r ρ1 fl R):bc Φ (.for false [i] it body r) ρ fl R:=by
 have key:∀(m k:Nat) (ρ:List SV),k+m=n->Inv k ρ ->
  fK (fun d ρ=>bindP false [i] d/\aM Φ body (ay false [i] d ρ)) (fun d ρ=>av Φ body (ay false [i] d ρ)) ((List.range' k m).map g) ρ /\
  ((∃ρ',bC (fun d ρ=>av Φ body (ay false [i] d ρ)) ((List.range' k m).map g) ρ=(.next,ρ')/\Inv n ρ')\/∃d,fl=.ret d/\∃ρ',bC (fun d ρ=>av Φ body (ay false [i] d ρ)) ((List.range' k m).map g) ρ=(.ret d,ρ')/\R ρ'):=by
  intro m
  induction m with
  | zero=>exact fun k ρ e h=>⟨trivial,.inl ⟨ρ,rfl,e▸h⟩⟩
  | succ m ih =>
   intro k ρ e h
   rw[List.range'_succ,aH,qX,lT]
   rcases hb k ρ (by lia) h with⟨p,ρ',q,h'⟩ | ⟨d,ed,p,ρ',q,h'⟩
   ·rw[q]
    have:=ih (k+1) ρ' (by lia) h'
    exact⟨⟨⟨rfl,p⟩,this.1⟩,this.2⟩
   ·rw[q]
    exact⟨⟨⟨rfl,p⟩,trivial⟩,.inr ⟨d,ed,ρ',rfl,h'⟩⟩
 refine ak (key n 0 ρ (jj n) h0) fun k1 k2=>?_
 rw[<- List.range_eq_range',<- hi.2]at k1 k2
 rcases k2 with⟨ρ',e,h'⟩ | ⟨d,ed,ρ',e,h'⟩
 ·refine ak (yK (S:=body) e (k ρ' h')) fun m1 m2=>?_
  exact⟨⟨hi.1,k1,m1⟩,m2⟩
 ·subst ed
  refine⟨⟨hi.1,k1,fun ρ2 q=>?_⟩,ρ',?_,h'⟩
  ·rw[e]at q;cases q
  ·show dw (bC _ _ _) _=_
   rw[e];rfl
theorem tU{c:IX}{a:SX}(hc:Ok Φ c ρ (.bool false))(k:bc Φ r ρ fl R):bc Φ (.ite c a .skip r) ρ fl R :=
 to (R1:=fun ρ1=>ρ1=ρ) hc (fun h=>nomatch h) (fun U=>gE rfl) fun ρ1 e=>e▸k
noncomputable def fu(Ψ Φ:List FEntry)(e:EX)(ρ:List SV)(d:PyData):Prop:=ib Ψ Φ e ρ/\bL Ψ Φ e ρ=d
theorem pE{f:Nat}{es:IX}{ds:List PyData}{d:PyData}(hl:eC Φ es ρ/\bV Φ es ρ=ds)(hp:(Ψ.getD f .nope).pre ds)(hv:(Ψ.getD f .nope).val ds=d):fu Ψ Φ (.rc f es) ρ d :=
 ⟨⟨hl.1,hl.2▸hp⟩,by show(Ψ.getD f .nope).val (bV Φ es ρ)=d;rw[hl.2];exact hv⟩
theorem H6{a b:EX}{x y:Bool}(ha:fu Ψ Φ a ρ (.bool x))(hb:fu Ψ Φ b ρ (.bool y)):fu Ψ Φ (.and a b) ρ (.bool (x&&y)):=by
 refine⟨⟨ha.1,by rw[ha.2];rfl,fun U=>hb.1⟩,?_⟩
 show(if aB (bL Ψ Φ a ρ)then bL Ψ Φ b ρ else .bool false)=_
 rw[ha.2,hb.2]
 cases x<;>rfl
theorem H7{i:Nat}{e:EX}{d:PyData}(h:fu Ψ Φ e ρ d)(k:bc Φ r (ρ.set i (.dat d)) fl R):bc Φ (.prim (rR Ψ Φ i e) r) ρ fl R :=
 i9 h.1 (by show(Fl.next,ρ.set i (.dat (bL Ψ Φ e ρ)))=_;rw[h.2]) k
theorem zA{c:TX}{a:SX}(hc:mr Ψ Φ c ρ)(ht:fh Ψ Φ c ρ=false)(k:bc Φ r ρ fl R):bc Φ (.prim (ic Ψ Φ c a .skip) r) ρ fl R:=by
 refine i9 (ρ1:=ρ) ⟨hc,fun h=>absurd (ht.symm.trans h) Kr,fun U=>trivial⟩ ?_ k
 show(if fh Ψ Φ c ρ=true then av Φ a ρ else av Φ .skip ρ)=_
 rw[ht];rfl
theorem H8{c:TX}{e:IX}{b:SX}{d:PyData}(hc:mr Ψ Φ c ρ)(ht:fh Ψ Φ c ρ=true)(h:Ok Φ e ρ d)(hR:∀ρ,R ρ):bc Φ (.prim (ic Ψ Φ c (.prim (eb Φ e) .skip) b) r) ρ (.ret d) R:=by
 have q:(ic Ψ Φ c (.prim (eb Φ e) .skip) b).den ρ=(.ret d,ρ):=by
  show(if fh Ψ Φ c ρ=true then dw (Fl.ret (den Φ e ρ),ρ) _ else _)=_
  rw[if_pos ht,h.2];rfl
 refine⟨⟨⟨hc,fun U=>⟨h.1,fun U e=>nomatch e⟩,fun q=>absurd (q.symm.trans ht) Kr⟩,fun ρ2 e=>?_⟩,ρ,?_,hR _⟩
 ·rw[q]at e;cases e
 ·show dw ((ic Ψ Φ c (.prim (eb Φ e) .skip) b).den ρ) _=_
  rw[q];rfl
theorem H9{e:EX}{a:SX}(h:fu Ψ Φ e ρ (.bool true))(k:bc Φ r ρ fl R):bc Φ (.prim (ic Ψ Φ (.cmp .IsNot e (.ix (.lit (.bool true)))) a .skip) r) ρ fl R :=
 zA ⟨h.1,trivial,by rw[h.2];trivial⟩ (by show ly .IsNot (bL Ψ Φ e ρ) (.bool true)=_;rw[h.2];rfl) k
theorem Ia{i:Nat}{e:IX}{d D:PyData}{l:List PyData}(h0:ρ.getD i .un=.own (.list l))(hl:l.length<=16777216)(h:Ok Φ e ρ d)(hD : .list (l++[d])=D)(k:bc Φ r (ρ.set i (.own D)) fl R):bc Φ (.prim (iS Φ i e) r) ρ fl R :=
 i9 ⟨by rw[h0];trivial,h.1,by rw[h0];exact hl⟩ (by show(Fl.next,ρ.set i (.own (.list (dK (ρ.getD i .un)++[den Φ e ρ]))))=_;rw[h0,h.2,<- hD];rfl) k
theorem Ib{i j:Nat}{e f:EX}{d d':PyData}(h:fu Ψ Φ e ρ d)(h':fu Ψ Φ f ρ d')(k:bc Φ r ((ρ.set i (.dat d)).set j (.dat d')) fl R):bc Φ (.prim (rU Ψ Φ [i,j] [e,f]) r) ρ fl R :=
 i9 ⟨⟨h.1,h'.1,trivial⟩,bl rfl⟩ (by show(Fl.next,(ρ.set i (.dat (bL Ψ Φ e ρ))).set j (.dat (bL Ψ Φ f ρ)))=_;rw[h.2,h'.2]) k
theorem Ic{i j:Nat}{e f:IX}{d d':PyData}(h:Ok Φ e ρ d)(h':Ok Φ f ρ d')(k:bc Φ r ((ρ.set i (.dat d)).set j (.dat d')) fl R):bc Φ (.prim (lU Φ [i,j] [(false,e),(false,f)]) r) ρ fl R :=
 i9 ⟨⟨h.1,h'.1,trivial⟩,bl rfl⟩ (by show(Fl.next,(ρ.set i (.dat (den Φ e ρ))).set j (.dat (den Φ f ρ)))=_;rw[h.2,h'.2]) k
end
theorem Id(x y:Nat):PyData.eqv (gM x) (gM y)=(x==y):=by
 have h:∀x<8,∀y<8,PyData.eqv (bD x) (bD y)=(x==y):=by decide +kernel
 unfold gM
 by_cases hx:x<8<;>by_cases hy:y<8
 ·rw[if_pos hx,if_pos hy];exact h x hx y hy
 ·rw[if_pos hx,if_neg hy];exact(beq_eq_false_iff_ne.mpr (by lia)).symm
 ·rw[if_neg hx,if_pos hy];exact(beq_eq_false_iff_ne.mpr (by lia)).symm
 ·rw[if_neg hx,if_neg hy];exact tB x y
theorem zB{l:List Nat}(h:l.length<=1000000):i4 (l.map iD):=⟨by rwa [af],fun d hd=>by
 refine x12 (aA.mp hd) fun n U e2=>?_;subst e2;exact mX _⟩
theorem zC{l:List Nat}(h:l.length<=1000000):i4 (l.map gM):=⟨by rwa [af],fun d hd=>by
 refine x12 (aA.mp hd) fun n U e2=>?_;subst e2
 unfold gM
 split
 ·exact pz (py _) (by decide)
 ·exact mX _⟩
theorem Ie(s:Nat)(hs:s<3):∀vs∈([]::(ao 9).map fun v=>[v])++(ao 9).flatMap fun u=>(ao 9).map fun v=>[u,v],∃x∈vt s,∀n<8,x.1.testBit n=wP vs s n:=by
 match s,hs with
 | 0,_=>decide +kernel
 | 1,_=>decide +kernel
 | 2,_=>decide +kernel
theorem tV(X:Nat->Int)(s:Nat)(hs:s<3):∃x∈vt s,∀n<8,x.1.testBit n=wP (dD X s) s n:=by
 refine Ie s hs _ ?_
 have h:∀v∈dD X s,v<9:=fun v=>zk
 have hl:(dD X s).length<=2:=by unfold dD;rw[af];exact cc ..
 generalize dD X s=vs at h hl
 match vs,hl with
 | [],_=>exact bB _ ag
 | [v],_=>exact bB _ (ar _ (aA.mpr ⟨v,aG.mpr (h v ag),rfl⟩))
 | [u,v],_=>exact dG _ (cb.mpr ⟨u,aG.mpr (h u ag),aA.mpr ⟨v,aG.mpr (h v (ar _ ag)),rfl⟩⟩)
noncomputable def kX(b:Bool):SX:=.prim (eb ah (.lit (.bool b))) .skip
noncomputable def Ig:TX:=.cmp .IsNot (.rc 0 (.cons (.var 7) (.cons (.sub (.var 3) (.var 4)) .nil))) (.ix (.lit (.bool true)))
noncomputable def zD:SX:=.prim (cG ah 5 c7) (.prim (cG ah 6 yQ) (.prim (cG ah 7 yR) (.prim (iS ah 3 yS) (.prim (ic fq ah Ig (kX false) .skip) .skip))))
noncomputable def Ih:EX:=.and (.rc 0 (.cons (.var 15) (.cons (.var 13) .nil))) (.ix (.var 10))
noncomputable def zE:SX:=.ite yW (.prim (cG ah 15 yZ) (.ite y0 (.prim (lU ah [9,11] [(false,.lit (.bool false)),(false,y1)]) .skip) .skip (.prim (rR fq ah 10 Ih) .skip))) .skip .skip
noncomputable def zF:SX:=.prim (cG ah 13 Gy) (.for false [14] (.range1 (.lit (.int 8))) zE .skip)
noncomputable def bdG:SX:=.prim (cG ah 18 y7) .skip
noncomputable def tW:SX:=.prim (cG ah 21 y9) (.prim (ic fq ah (.inv 1 (.cons (.var 21) .nil)) (kX true) .skip) .skip)
noncomputable def t7:SX:=.for false [14] (.range1 (.lit (.int 8))) tW (.prim (eb ah (.var 9)) .skip)
noncomputable def t6:SX:=.for false [20] (.range1 (.lit (.int 8))) bdG (.ite y8 (kX false) .skip t7)
noncomputable def l8:IX:=.list (.cons (.lit (.int 0)) (.cons (.lit (.int 1)) (.cons (.lit (.int 2)) (.cons (.lit (.int 3)) (.cons (.lit (.int 4)) (.cons (.lit (.int 5)) (.cons (.lit (.int 6)) (.cons (.lit (.int 7)) .nil))))))))
noncomputable def t5:SX:=.prim (cG ah 16 y2) (.prim (rU fq ah [17,18] [.rc 1 (.cons (.var 16) .nil),.ix l8]) (.prim (cG ah 19 y4) (.ite y5 (kX false) .skip t6)))
noncomputable def zH:IX:=.list (.cons (.list (.cons (.lit (.int 0)) (.cons (.lit (.int 1)) .nil))) (.cons (.list (.cons (.lit (.int 0)) (.cons (.lit (.int 2)) .nil))) (.cons (.list (.cons (.lit (.int 1)) (.cons (.lit (.int 2)) .nil))) (.cons (.list (.cons (.lit (.int 0)) (.cons (.lit (.int 1)) (.cons (.lit (.int 2)) .nil)))) .nil))))
noncomputable def t4:SX:=.for false [12] (.seq zH) zF (.ite GK (kX false) .skip t5)
noncomputable def t3:SX:=.prim (cG ah 8 yV) (.prim (lU ah [9,10,11] [(false,.lit (.bool true)),(false,.lit (.bool true)),(false,.lit (.bool true))]) t4)
noncomputable def t2:SX:=.for false [4] (.range1 (.lit (.int 3))) zD (.frz 3 t3)
noncomputable def pF:SX:=.prim (cG ah 1 p1) (.prim (cG ah 2 c4) (.prim (rk ah 3 (.list .nil)) t2))
noncomputable def pG:List Str:=[ofString "script",ofString "numbers",ofString "names",ofString "wish",ofString "switch",ofString "drawn",ofString "told",ofString "taken",ofString "wants",ofString "single",ofString "whole",ofString "squares",ofString "free",ofString "parts",ofString "n",ofString "rows",ofString "leads",ofString "ringless",ofString "going",ofString "weight",ofString "step",ofString "hangs"]
noncomputable abbrev jV(S:SX)(ρ:List SV):Prop:=bc ah S ρ (.ret (.bool true)) fun U=>True
section
variable{s0 s1 s2 s3 s4 s5 s6 s7 s8 s9 s10 s11 s12 s13 s14 s15 s16 s17 s18 s19 s20 s21:SV}
theorem gc{i:Nat}{d:PyData}{ρ:List SV}(h:ρ.getD i .un=.dat d):Ok ah (.var i) ρ d:=⟨by show SV.ok false _;rw[h];trivial,by show SV.data _=_;rw[h];rfl⟩
theorem Ii(P:Nat->Nat->Bool)(n k:Nat):(Hg P n k).length<=3:=cc ..
theorem Ij{P:Nat->Nat->Bool}{n:Nat}(hn:n<8):(bc ah tW [s0,s1,s2,.dat (ci P),s4,s5,s6,s7,s8,s9,s10,s11,s12,s13,.dat (iD n),s15,s16,s17,s18,s19,s20,s21] .next fun ρ=>jf P n/\∃z,ρ=[s0,s1,s2,.dat (ci P),s4,s5,s6,s7,s8,s9,s10,s11,s12,s13,.dat (iD n),s15,s16,s17,s18,s19,s20,z]) \/
 jV tW [s0,s1,s2,.dat (ci P),s4,s5,s6,s7,s8,s9,s10,s11,s12,s13,.dat (iD n),s15,s16,s17,s18,s19,s20,s21]:=by
 obtain⟨hp,b,hv,ht,_⟩:=yI (N:=3) (S:=Hg P n) (by decide) fun k U=>⟨Ii P n k,fun m hm=>aG.mp (cW.mp hm).1⟩
 have hE:fu fq ah (.rc 1 (.cons (.var 21) .nil)) [s0,s1,s2,.dat (ci P),s4,s5,s6,s7,s8,s9,s10,s11,s12,s13,.dat (iD n),s15,s16,s17,s18,s19,s20,.dat (.list ((ao 3).map fun k=>LD (k::Hg P n k)))] (.bool b) :=
  pE (mZ (gc rfl)) hp hv
 have hT:mr fq ah (.inv 1 (.cons (.var 21) .nil)) [s0,s1,s2,.dat (ci P),s4,s5,s6,s7,s8,s9,s10,s11,s12,s13,.dat (iD n),s15,s16,s17,s18,s19,s20,.dat (.list ((ao 3).map fun k=>LD (k::Hg P n k)))]:=⟨hE.1,by rw[hE.2];rfl⟩
 have hD:fh fq ah (.inv 1 (.cons (.var 21) .nil)) [s0,s1,s2,.dat (ci P),s4,s5,s6,s7,s8,s9,s10,s11,s12,s13,.dat (iD n),s15,s16,s17,s18,s19,s20,.dat (.list ((ao 3).map fun k=>LD (k::Hg P n k)))]=!b:=by
  show(!aB (bL fq ah _ _))=_
  rw[hE.2];rfl
 cases b with
 | true=>exact .inl (eL (zp hn) (zA hT hD (gE ⟨ht rfl,_,rfl⟩)))
 | false=>exact .inr (eL (zp hn) (H8 hT hD ⟨trivial,rfl⟩ fun U=>trivial))
theorem Il{P:Nat->Nat->Bool}{b:Bool}(hb:(∀n,n<8->jf P n)->b=true):jV t7 [s0,s1,s2,.dat (ci P),s4,s5,s6,s7,s8,.dat (.bool b),s10,s11,s12,s13,s14,s15,s16,s17,s18,s19,s20,s21]:=by
 refine nr (Inv:=fun k ρ=>(∀n,n<k->jf P n)/\∃y z,ρ=[s0,s1,s2,.dat (ci P),s4,s5,s6,s7,s8,.dat (.bool b),s10,s11,s12,s13,y,s15,s16,s17,s18,s19,s20,z]) im ⟨fun n h=>(nomatch h),_,_,rfl⟩ (fun k ρ hk ζ=>ζ.elim fun hc ζ=>ζ.elim fun y ζ=>ζ.elim fun z e=>?_) fun ρ ζ=>ζ.elim fun hc ζ=>ζ.elim fun y ζ=>ζ.elim fun z e=>?_
 ·cases e
  refine(Ij (P:=P) hk).imp (fun ζ=>ζ.elim fun p ζ=>ζ.elim fun ρ' ζ=>ζ.elim fun e ζ=>ζ.elim fun h ζ=>ζ.elim fun z e'=>⟨p,ρ',e,fun n hn=>?_,_,z,e'⟩) fun h=>⟨_,rfl,h⟩
  exact(Nat.lt_succ_iff_lt_or_eq.mp hn).elim (hc n) fun q=>q▸h
 ·cases e
  cases hb hc
  exact Gs (gc rfl) fun U=>trivial
theorem zI(S:Nat->List Nat)(N:Nat):∀k,(bx S N k).length<=N
 | 0=>cI jh
 | k+1=>ae (cc ..) (zI S N k)
theorem zJ(w:Nat->Nat)(n:Nat):(Sw w n).length<=3:=by rw[Sw,af];exact tL _
theorem Im{P:Nat->Nat->Bool}{w:Nat->Nat}{b rl:Bool}(hb:(∀n,n<8->jf P n)->b=true)(hr:rl=(bx (Sw w) 8 8).isEmpty):jV t6 [s0,s1,s2,.dat (ci P),s4,s5,s6,s7,s8,.dat (.bool b),s10,s11,s12,s13,s14,s15,.dat (.list ((ao 8).map fun n=>LD (n::Sw w n))),.dat (.bool rl),.dat (LD (ao 8)),s19,s20,s21]:=by
 refine nr (Inv:=fun k ρ=>∃z,ρ=[s0,s1,s2,.dat (ci P),s4,s5,s6,s7,s8,.dat (.bool b),s10,s11,s12,s13,s14,s15,.dat (.list ((ao 8).map fun n=>LD (n::Sw w n))),.dat (.bool rl),.dat (LD (bx (Sw w) 8 k)),s19,z,s21]) im ⟨_,rfl⟩ (fun k ρ hk ζ=>ζ.elim fun z e=>?_) fun ρ ζ=>ζ.elim fun z e=>?_
 ·cases e
  exact .inl (eL (Hw (zJ w) (fun n hn=>tQ _ _ hn) (zI _ _ _)) (gE ⟨_,rfl⟩))
 ·cases e
  refine tU ?_ (Il hb)
  have:=Hx (s0:=s0) (s1:=s1) (s2:=s2) (s3:=.dat (ci P)) (s4:=s4) (s5:=s5) (s6:=s6) (s7:=s7) (s8:=s8) (s9:=.dat (.bool b)) (s10:=s10) (s11:=s11) (s12:=s12) (s13:=s13) (s14:=s14) (s15:=s15) (s16:=.dat (.list ((ao 8).map fun n=>LD (n::Sw w n)))) (s19:=s19) (s20:=z) (s21:=s21) (rl:=rl) (G:=bx (Sw w) 8 8)
  rw[hr,beq_self_eq_true]at this
  rw[hr]
  exact this
theorem Io{ρ:List SV}:Ok ah l8 ρ (LD (ao 8)):=fX (by kernel_rfl)
theorem Ip{P:Nat->Nat->Bool}{w:Nat->Nat}(hw:∀n,w n<8){b c:Bool}(hb:(∀n,n<8->jf P n)->b=true)(hl:(bx (Sw w) 8 8).isEmpty=true->b=c/\b=((io w:Int)==27)):jV t5 [s0,s1,s2,.dat (ci P),s4,s5,s6,s7,.dat (ga w),.dat (.bool b),s10,.dat (.bool c),s12,s13,s14,s15,s16,s17,s18,s19,s20,s21]:=by
 refine eL Hr ?_
 obtain⟨hp,rl,hv,ht,hf⟩:=yI (N:=8) (S:=Sw w) (by decide) fun k hk=>⟨zJ w k,fun m hm=>by
  refine x12 (aA.mp hm) fun j hj e2=>?_;subst e2
  exact tM (k,j) (jb hk (tK hj))⟩
 have hr:rl=(bx (Sw w) 8 8).isEmpty:=by
  cases rl with
  | true=>exact(HU (ht rfl)).symm
  | false=>refine x12 (hf rfl) fun q h1 h2=>?_;exact(zx h1 h2).symm
 have hE:fu fq ah (.rc 1 (.cons (.var 16) .nil)) [s0,s1,s2,.dat (ci P),s4,s5,s6,s7,.dat (ga w),.dat (.bool b),s10,.dat (.bool c),s12,s13,s14,s15,.dat (.list ((ao 8).map fun n=>LD (n::Sw w n))),s17,s18,s19,s20,s21] (.bool rl) :=
  pE (mZ (gc rfl)) hp hv
 refine Ib hE Io (eL (Hu hw) (tU ?_ (Im hb hr)))
 have:=Hv (s0:=s0) (s1:=s1) (s2:=s2) (s3:=.dat (ci P)) (s4:=s4) (s5:=s5) (s6:=s6) (s7:=s7) (s8:=.dat (ga w)) (s10:=s10) (s12:=s12) (s13:=s13) (s14:=s14) (s15:=s15) (s16:=.dat (.list ((ao 8).map fun n=>LD (n::Sw w n)))) (s18:=.dat (LD (ao 8))) (s20:=s20) (s21:=s21) (rl:=rl) (sg:=b) (sq:=c) (wt:=(io w:Int))
 have e:(rl&&(!(b==c)||!(b==((io w:Int)==27))))=false:=by
  cases rl with
  | false=>rfl
  | true=>rw[<- (hl hr.symm).1,<- (hl hr.symm).2,beq_self_eq_true];rfl
 rw[e]at this
 exact this
end
section
variable{s0 s1 s2 s3 s4 s5 s6 s7 s8 s9 s10 s11 s12 s13 s14 s15 s16 s17 s18 s19 s20 s21:SV}
variable(s0 s1 s3 s4 s5 s6 s7 s16 s17 s18 s19 s20 s21)in
noncomputable def jg(w:Nat->Nat)(t:T3)(y13 y12 y14 y15:SV):List SV:=[s0,s1,.dat (.list bU),s3,s4,s5,s6,s7,.dat (ga w),.dat (.bool t.1),.dat (.bool t.2.1),.dat (.bool t.2.2),y12,y13,y14,y15,s16,s17,s18,s19,s20,s21]
section
variable{w:Nat->Nat}(hw:∀n,w n<8){F:List Nat}(hF:F∈fn)
include hw hF
theorem Iq(n:Nat):(∀m∈bw w F n,m<8)/\(bw w F n).length<=8:=by
 refine⟨fun m hm=>?_,by rw[bw,af];exact(tJ F hF).2.2.1⟩
 refine x12 (aA.mp hm) fun p U e2=>?_;subst e2
 exact cR Nat.and_le_left (hw _)
theorem Ir{n:Nat}(hn:n<8){t:T3}{y:SV}:bc ah zE (jg s0 s1 s3 s4 s5 s6 s7 s16 s17 s18 s19 s20 s21 w t (.dat (.list ((cJ F).map gM))) (.dat (LD F)) (.dat (iD n)) y) .next
 fun ρ=>∃z,ρ=jg s0 s1 s3 s4 s5 s6 s7 s16 s17 s18 s19 s20 s21 w (pB w F n t) (.dat (.list ((cJ F).map gM))) (.dat (LD F)) (.dat (iD n)) z:=by
 have hr:=Iq hw hF n
 have hp:=(tJ F hF).2.2.1
 refine to (Hk hn F hF) (fun ht=>?_) (fun ht=>gE ?_) fun ρ h=>gE h
 ·refine eL (Hm hw hF hn ht) ?_
  have hc:∀a b c:SV,fu fq ah (.rc 0 (.cons (.var 15) (.cons (.var 13) .nil))) [s0,s1,.dat (.list bU),s3,s4,s5,s6,s7,.dat (ga w),a,b,c,.dat (LD F),.dat (.list ((cJ F).map gM)),.dat (iD n),.dat (.list ((bw w F n).map gM)),s16,s17,s18,s19,s20,s21] (.bool (em (bw w F n) (cJ F))):=fun a b c =>
   pE (m0 (gc rfl) (gc rfl)) ⟨_,_,rfl,zC (ae hr.2 (by decide)),zC (ae hp (by decide))⟩ (yO Id _ _)
  unfold pB
  rw[if_pos ht]
  refine to (R1:=fun ρ1=>ρ1=jg s0 s1 s3 s4 s5 s6 s7 s16 s17 s18 s19 s20 s21 w (if dT (bw w F n)=true then t else(false,t.2.1,t.2.2&&F.length==3)) (.dat (.list ((cJ F).map gM))) (.dat (LD F)) (.dat (iD n)) (.dat (.list ((bw w F n).map gM))))
   (Ho hr.1 hr.2) (fun h=>?_) (fun h=>gE ?_) fun ρ1 e=>?_
  ·have h:dT (bw w F n)=false:=by unfold dT;revert h;cases((kR (bw w F n):Int)==1)<;>intro h<;>first | rfl | cases h
   rw[h]
   refine Ic (d:=.bool false) (d':=.bool (t.2.2&&F.length==3)) ⟨trivial,rfl⟩ (Hp (F,t.2.2) (cb.mpr ⟨F,hF,?_⟩)) (gE rfl)
   cases t.2.2
   ·exact ar _ ag
   ·exact ag
  ·have h:dT (bw w F n)=true:=by unfold dT;revert h;cases((kR (bw w F n):Int)==1)<;>intro h<;>first | rfl | cases h
   rw[h];rfl
  ·cases e
   refine H7 (H6 (hc _ _ _) (y:=t.2.1) ?_) (gE ⟨.dat (.list ((bw w F n).map gM)),?_⟩)
   ·cases dT (bw w F n)<;>exact gc rfl
   ·cases dT (bw w F n)<;>rfl
 ·unfold pB
  rw[ht]
  exact⟨_,rfl⟩
theorem It{t:T3}{y13 y14 y15:SV}:bc ah zF (jg s0 s1 s3 s4 s5 s6 s7 s16 s17 s18 s19 s20 s21 w t y13 (.dat (LD F)) y14 y15) .next
 fun ρ=>∃a b c d,ρ=jg s0 s1 s3 s4 s5 s6 s7 s16 s17 s18 s19 s20 s21 w (nh w F t 8) a b c d:=by
 refine eL (kP (mZ (gc rfl)) (aA.mpr ⟨F,hF,rfl⟩) (Hj F hF)) ?_
 refine nr (Inv:=fun k ρ=>∃c d,ρ=jg s0 s1 s3 s4 s5 s6 s7 s16 s17 s18 s19 s20 s21 w (nh w F t k) (.dat (.list ((cJ F).map gM))) (.dat (LD F)) c d) im ⟨_,_,rfl⟩ (fun k ρ hk ζ=>ζ.elim fun c ζ=>ζ.elim fun d e=>.inl ?_) fun ρ ζ=>ζ.elim fun c ζ=>ζ.elim fun d e=>gE ⟨_,_,_,_,e⟩
 cases e
 obtain⟨p,ρ',e,z,h⟩:=Ir hw hF hk (t:=nh w F t k) (y:=d)
 exact⟨p,ρ',e,_,z,h⟩
end
theorem Iu{k:Nat}(h:k<4):fn.getD k []∈fn:=match k,h with
 | 0,_=>by decide
 | 1,_=>by decide
 | 2,_=>by decide
 | 3,_=>by decide
theorem Iv{ρ:List SV}:gD ah (.seq zH) ρ ((ao 4).map fun k=>LD (fn.getD k [])):=fZ (fX (by kernel_rfl))
theorem Iw{P:Nat->Nat->Bool}{w:Nat->Nat}(hw:∀n,w n<8)(h1:(dk w 4).1=(dk w 4).2.1)(hb:(∀n,n<8->jf P n)->(dk w 4).1=true)(hl:(bx (Sw w) 8 8).isEmpty=true->(dk w 4).1=(dk w 4).2.2/\(dk w 4).1=((io w:Int)==27)) :
 jV t4 [s0,s1,.dat (.list bU),.dat (ci P),s4,s5,s6,s7,.dat (ga w),.dat (.bool true),.dat (.bool true),.dat (.bool true),s12,s13,s14,s15,s16,s17,s18,s19,s20,s21]:=by
 refine nr (Inv:=fun k ρ=>∃a b c d,ρ=jg s0 s1 (.dat (ci P)) s4 s5 s6 s7 s16 s17 s18 s19 s20 s21 w (dk w k) a b c d) Iv ⟨_,_,_,_,rfl⟩ (fun k ρ hk ζ=>ζ.elim fun a ζ=>ζ.elim fun b ζ=>ζ.elim fun c ζ=>ζ.elim fun d e=>.inl ?_) fun ρ ζ=>ζ.elim fun a ζ=>ζ.elim fun b ζ=>ζ.elim fun c ζ=>ζ.elim fun d e=>?_
 ·cases e
  exact It hw (Iu hk)
 ·cases e
  refine tU ?_ (Ip hw hb hl)
  have:=zc (Φ:=ah) (ρ:=jg s0 s1 (.dat (ci P)) s4 s5 s6 s7 s16 s17 s18 s19 s20 s21 w (dk w 4) a b c d) (a:=.var 9) (b:=.var 10) (gc rfl) (gc rfl)
  rw[h1,beq_self_eq_true]at this
  exact this
theorem Ix{V:List Nat}(N:Net V):jV t3 [s0,s1,.dat (.list bU),.dat (ci (Pm V)),s4,s5,s6,s7,s8,s9,s10,s11,s12,s13,s14,s15,s16,s17,s18,s19,s20,s21]:=by
 refine eL Hi (i9 (ρ1:=[s0,s1,.dat (.list bU),.dat (ci (Pm V)),s4,s5,s6,s7,.dat (ga (wm (Pm V))),.dat (.bool true),.dat (.bool true),.dat (.bool true),s12,s13,s14,s15,s16,s17,s18,s19,s20,s21]) ⟨⟨trivial,trivial,trivial,trivial⟩,bl rfl⟩ rfl ?_)
 exact Iw (fun n=>zn _) N.single N.calm N.rl
end
section
variable{s0 s4 s5 s6 s7 s8 s9 s10 s11 s12 s13 s14 s15 s16 s17 s18 s19 s20 s21:SV}
theorem Iy(X:Nat->Int)(s:Nat):(dD X s).length<=2:=by unfold dD;rw[af];exact cc ..
noncomputable def jW(P:Nat->Nat->Bool)(k:Nat):PyData:=.list ((ao k).map fun i=>LD (W (P i)))
theorem Iz{p q:Nat->Bool}(h:∀n<8,p n=q n):W p=W q:=List.filter_congr fun n hn=>h n (aG.mp hn)
theorem zK(p:Nat->Bool):(W p).length<=8:=cc ..
theorem IB{X:Nat->Int}{P:Nat->Nat->Bool}{k:Nat}(hk:k<3)(hP:∀n<8,P k n=wP (dD X k) k n):bc ah zD [s0,.dat (jS X),.dat (.list bU),.own (jW P k),.dat (iD k),s5,s6,s7,s8,s9,s10,s11,s12,s13,s14,s15,s16,s17,s18,s19,s20,s21] .next
 fun ρ=>∃a b c d,ρ=[s0,.dat (jS X),.dat (.list bU),.own (jW P (k+1)),a,b,c,d,s8,s9,s10,s11,s12,s13,s14,s15,s16,s17,s18,s19,s20,s21]:=by
 have hv:∀v∈dD X k,v<9:=fun v=>zk
 have hl:=Iy X k
 refine eL (G7 hk) (eL (Ha hk hv hl) (eL (Hc hk hv hl) ?_))
 have hc:fu fq ah (.rc 0 (.cons (.var 7) (.cons (.sub (.var 3) (.var 4)) .nil))) [s0,.dat (jS X),.dat (.list bU),.own (jW P (k+1)),.dat (iD k),.dat (.list ((dD X k).map (PD k))),.dat (.list ((dD X k).map (GD k))),.dat (LD ((dD X k).flatMap fun v=>W (tk k v))),s8,s9,s10,s11,s12,s13,s14,s15,s16,s17,s18,s19,s20,s21] (.bool true):=by
  refine pE (m0 (gc rfl) (za (ds:=(ao (k+1)).map fun i=>LD (W (P i))) (k:=k) ⟨trivial,rfl⟩ (gc rfl) (by rw[af,jh];lia) (by rw[af,jh];lia) (jP (i3 k)))) ⟨_,_,rfl,zB ?_,zB (ae (zK _) (by decide))⟩ ((yO tB _ _).trans (congrArg PyData.bool (zw.mpr fun n=>?_)))
  ·rw[List.length_flatMap]
   exact ae (mV (B:=8) fun v U=>zK _) (by lia)
  ·rw[cb]
   refine⟨fun ζ=>ζ.elim fun v ζ=>ζ.elim fun h1 h2=>?_,fun h=>?_⟩
   ·refine ak (cW.mp h2) fun h2 h3=>?_
    exact cW.mpr ⟨h2,(hP n (aG.mp h2)).trans (cM.mpr ⟨v,h1,h3⟩)⟩
   ·refine ak (cW.mp h) fun h2 h3=>?_
    rw[hP n (aG.mp h2)]at h3
    refine x12 (cM.mp h3) fun v h1 h3=>?_
    exact⟨v,h1,cW.mpr ⟨h2,h3⟩⟩
 refine Ia rfl (by rw[af,jh];lia) (He hk hv hl) (D:=jW P (k+1)) ?_ (H9 hc (gE ⟨_,_,_,_,rfl⟩))
 rw[jW,List.range_succ,pI,<- Iz hP];rfl
theorem IC(xs:List Int)(hl:xs.length<=63):jV pF [.dat (.list (xs.map .int)),s1,s2,s3,s4,s5,s6,s7,s8,s9,s10,s11,s12,s13,s14,s15,s16,s17,s18,s19,s20,s21]:=by
 refine x11 (G4 (s1:=s1) (s2:=s2) (s3:=s3) (s4:=s4) (s5:=s5) (s6:=s6) (s7:=s7) (s8:=s8) (s9:=s9) (s10:=s10) (s11:=s11) (s12:=s12) (s13:=s13) (s14:=s14) (s15:=s15) (s16:=s16) (s17:=s17) (s18:=s18) (s19:=s19) (s20:=s20) (s21:=s21) xs hl) fun X hX=>?_
 refine x12 (tV X 0 (by decide)) fun x hx ex=>?_
 refine x12 (tV X 1 (by decide)) fun y hy ey=>?_
 refine x12 (tV X 2 (by decide)) fun z hz ez=>?_
 have hP:∀k,k<3->∀n<8,Pm [x.1,y.1,z.1] k n=wP (dD X k) k n:=fun k hk=>match k,hk with
  | 0,_=>ex
  | 1,_=>ey
  | 2,_=>ez
 refine eL hX (eL G6 (i9 (ρ1:=[.dat (.list (xs.map .int)),.dat (jS X),.dat (.list bU),.own (jW (Pm [x.1,y.1,z.1]) 0),s4,s5,s6,s7,s8,s9,s10,s11,s12,s13,s14,s15,s16,s17,s18,s19,s20,s21]) ⟨trivial,aW _⟩ rfl ?_))
 refine nr (Inv:=fun k ρ=>∃a b c d,ρ=[.dat (.list (xs.map .int)),.dat (jS X),.dat (.list bU),.own (jW (Pm [x.1,y.1,z.1]) k),a,b,c,d,s8,s9,s10,s11,s12,s13,s14,s15,s16,s17,s18,s19,s20,s21]) pA ⟨_,_,_,_,rfl⟩ (fun k ρ hk ζ=>ζ.elim fun a ζ=>ζ.elim fun b ζ=>ζ.elim fun c ζ=>ζ.elim fun d e=>.inl ?_) fun ρ ζ=>ζ.elim fun a ζ=>ζ.elim fun b ζ=>ζ.elim fun c ζ=>ζ.elim fun d e=>?_
 ·cases e
  exact IB hk (hP k hk)
 ·cases e
  obtain⟨h1,ρ',h2,h3⟩:=Ix (H5 hx hy hz) (s0:=.dat (.list (xs.map .int))) (s1:=.dat (jS X)) (s4:=a) (s5:=b) (s6:=c) (s7:=d) (s8:=s8) (s9:=s9) (s10:=s10) (s11:=s11) (s12:=s12) (s13:=s13) (s14:=s14) (s15:=s15) (s16:=s16) (s17:=s17) (s18:=s18) (s19:=s19) (s20:=s20) (s21:=s21)
  exact⟨⟨trivial,h1⟩,ρ',h2,h3⟩
end
theorem ID(xs:List Int)(hl:xs.length<=63):aM ah pF (aY pG [.list (xs.map .int)])/\(av ah pF (aY pG [.list (xs.map .int)])).1=.ret (.bool true):=by
 obtain⟨h1,ρ',h2,_⟩:=IC xs hl
 exact⟨h1,congrArg Prod.fst h2⟩
noncomputable abbrev dE(P:Params)(x:Str)(k:Nat)(v:Value):DictEntry:=.mk (PyData.keyHash P x) (.str x k) v
noncomputable def gA(i:Nat):Arguments:=(bj i).1
noncomputable def gB(i:Nat):List Stmt:=(bj i).2.1
noncomputable def gS(i:Nat):Scope:=(bj i).2.2
noncomputable def zL(P:Params):Obj:=(.mk (.type "dict") none (.dict #[(dE P (sS "builtins") 162 (.ref 4)),(dE P (sS "__main__") 163 (.ref 5)),(dE P (sS "_sre") 244 (.ref 12))] 3) #[])
noncomputable def zM(P:Params):Obj:=(.mk .none none (.dict #[(dE P (sS "\x69mport.loaded._sre") 183 (.bool true)),(dE P (sS "class._frozen_importlib.BuiltinImporter") 185 (.ref 14)),(dE P (sS "watched.\x69mport") 206 (.ref 18)),(dE P (sS "class._frozen_importlib.ModuleSpec") 216 (.ref 22)),(dE P (sS "sys.modules.booked-epoch") 245 (.int 3 0)),(dE P (sS "\x69mport.later-laid._sre") 270 (.bool true)),(dE P (sS "watched.library") 272 (.ref 27)),(dE P (sS "watched.library-objects") 0 (.str (sS "\x0c") 0)),(dE P (sS "watched.library-deep._sre") 273 (.str ⟨#[4,0,0,11,4,0,0,11,4,0,0,3,4,0,0,11,8,4,100,105,99,116,2]⟩ 0))] 9) #[])
noncomputable def IE(P:Params):Obj:=(.mk (.type "dict") none (.dict #[(dE P (sS "__name__") 165 (.str (sS "__main__") 164)),(dE P (sS "__doc__") 166 .none),(dE P (sS "__package__") 167 .none),(dE P (sS "__loader__") 168 (.builtin "__main__.__loader__#opaque")),(dE P (sS "__spec__") 169 .none),(dE P (sS "__annotations__") 170 (.ref 6)),(dE P (sS "__builtins__") 171 (.ref 4)),(dE P (sS "__file__") 173 (.str (sS "/claim/cut.py") 172)),(dE P (sS "__cached__") 174 .none),(dE P (sS "_sre") 275 (.ref 12))] 10) #[])
noncomputable def zN(P:Params):Obj:=(.mk (.type "dict") none (.dict #[(dE P (sS "__name__") 247 (.str (sS "_sre") 246)),(dE P (sS "__doc__") 248 .none),(dE P (sS "__package__") 250 (.str (sS "") 249)),(dE P (sS "__loader__") 251 (.builtin "off-the-table:_sre.__loader__:shared#opaque")),(dE P (sS "__spec__") 252 (.builtin "off-the-table:_sre.__spec__:shared#opaque")),(dE P (sS "compile") 253 (.builtin "_sre.compile")),(dE P (sS "template") 254 (.builtin "off-the-table:_sre.template:shared#opaque")),(dE P (sS "getcodesize") 255 (.builtin "off-the-table:_sre.getcodesize:shared#opaque")),(dE P (sS "ascii_iscased") 256 (.builtin "off-the-table:_sre.ascii_iscased:shared#opaque")),(dE P (sS "unicode_iscased") 257 (.builtin "off-the-table:_sre.unicode_iscased:shared#opaque")),(dE P (sS "ascii_tolower") 258 (.builtin "off-the-table:_sre.ascii_tolower:shared#opaque")),(dE P (sS "unicode_tolower") 259 (.builtin "off-the-table:_sre.unicode_tolower:shared#opaque")),(dE P (sS "MAGIC") 261 (.int 20230612 260)),(dE P (sS "CODESIZE") 263 (.int 4 262)),(dE P (sS "MAXREPEAT") 265 (.int 4294967295 264)),(dE P (sS "MAXGROUPS") 267 (.int 1073741823 266)),(dE P (sS "copyright") 269 (.str (sS " SRE 2.2.2 Copyright (c) 1997-2002 by Secret Labs AB ") 268))] 17) #[])
noncomputable def zO(P:Params):Obj:=(.mk (.type "module") (some 11) .plain #[])
noncomputable def zP(P:Params):Obj:=(.mk (.type "dict") none (.dict #[(dE P (sS "__module__") 189 (.str (sS "_frozen_importlib") 186)),(dE P (sS "__firstlineno__") 190 (.int 971 187)),(dE P (sS "__doc__") 191 (.builtin "_frozen_importlib.BuiltinImporter.__doc__:str#opaque")),(dE P (sS "_ORIGIN") 192 (.str (sS "built-in") 188)),(dE P (sS "find_spec") 193 (.builtin "_frozen_importlib.BuiltinImporter.find_spec#opaque")),(dE P (sS "create_module") 194 (.builtin "_frozen_importlib.BuiltinImporter.create_module#opaque")),(dE P (sS "exec_module") 195 (.builtin "_frozen_importlib.BuiltinImporter.exec_module#opaque")),(dE P (sS "get_code") 196 (.builtin "_frozen_importlib.BuiltinImporter.get_code#opaque")),(dE P (sS "get_source") 197 (.builtin "_frozen_importlib.BuiltinImporter.get_source#opaque")),(dE P (sS "is_package") 198 (.builtin "_frozen_importlib.BuiltinImporter.is_package#opaque")),(dE P (sS "load_module") 199 (.builtin "_frozen_importlib.BuiltinImporter.load_module#opaque")),(dE P (sS "__static_attributes__") 200 (.ref 15)),(dE P (sS "__dict__") 202 (.ref 16)),(dE P (sS "__weakref__") 204 (.ref 17))] 14) #[])
noncomputable def zQ(P:Params):Obj:=(.mk (.type "type") none (.cls (ClassData.mk (sS "BuiltinImporter") [(.type "object")] [(.ref 14),(.type "object")] 13 (sS "BuiltinImporter") true [] [] false none false)) #[])
noncomputable def zR(P:Params):Obj:=(.mk (.type "tuple") none (.seq #[] 0) #[])
noncomputable def zS(P:Params):Obj:=(.mk (.type "getset_descriptor") none (.fields #[(.str (sS "__dict__") 201),(.ref 14),(.builtin "function.__dict__"),(.builtin "function.__dict__#set")]) #[])
noncomputable def zT(P:Params):Obj:=(.mk (.type "getset_descriptor") none (.fields #[(.str (sS "__weakref__") 203),(.ref 14),(.builtin "ExceptionGroup.__weakref__"),.none]) #[])
noncomputable def zU(P:Params):Obj:=(.mk .none none (.seq #[(.int 13 0),(.str ⟨#[6,189,10,95,95,109,111,100,117,108,101,95,95,6,186,17,95,102,114,111,122,101,110,95,105,109,112,111,114,116,108,105,98,6,190,15,95,95,102,105,114,115,116,108,105,110,101,110,111,95,95,4,187,0,971,6,191,7,95,95,100,111,99,95,95,9,52,95,102,114,111,122,101,110,95,105,109,112,111,114,116,108,105,98,46,66,117,105,108,116,105,110,73,109,112,111,114,116,101,114,46,95,95,100,111,99,95,95,58,115,116,114,35,111,112,97,113,117,101,6,192,7,95,79,82,73,71,73,78,6,188,8,98,117,105,108,116,45,105,110,6,193,9,102,105,110,100,95,115,112,101,99,9,50,95,102,114,111,122,101,110,95,105,109,112,111,114,116,108,105,98,46,66,117,105,108,116,105,110,73,109,112,111,114,116,101,114,46,102,105,110,100,95,115,112,101,99,35,111,112,97,113,117,101,6,194,13,99,114,101,97,116,101,95,109,111,100,117,108,101,9,54,95,102,114,111,122,101,110,95,105,109,112,111,114,116,108,105,98,46,66,117,105,108,116,105,110,73,109,112,111,114,116,101,114,46,99,114,101,97,116,101,95,109,111,100,117,108,101,35,111,112,97,113,117,101,6,195,11,101,120,101,99,95,109,111,100,117,108,101,9,52,95,102,114,111,122,101,110,95,105,109,112,111,114,116,108,105,98,46,66,117,105,108,116,105,110,73,109,112,111,114,116,101,114,46,101,120,101,99,95,109,111,100,117,108,101,35,111,112,97,113,117,101,6,196,8,103,101,116,95,99,111,100,101,9,49,95,102,114,111,122,101,110,95,105,109,112,111,114,116,108,105,98,46,66,117,105,108,116,105,110,73,109,112,111,114,116,101,114,46,103,101,116,95,99,111,100,101,35,111,112,97,113,117,101,6,197,10,103,101,116,95,115,111,117,114,99,101,9,51,95,102,114,111,122,101,110,95,105,109,112,111,114,116,108,105,98,46,66,117,105,108,116,105,110,73,109,112,111,114,116,101,114,46,103,101,116,95,115,111,117,114,99,101,35,111,112,97,113,117,101,6,198,10,105,115,95,112,97,99,107,97,103,101,9,51,95,102,114,111,122,101,110,95,105,109,112,111,114,116,108,105,98,46,66,117,105,108,116,105,110,73,109,112,111,114,116,101,114,46,105,115,95,112,97,99,107,97,103,101,35,111,112,97,113,117,101,6,199,11,108,111,97,100,95,109,111,100,117,108,101,9,52,95,102,114,111,122,101,110,95,105,109,112,111,114,116,108,105,98,46,66,117,105,108,116,105,110,73,109,112,111,114,116,101,114,46,108,111,97,100,95,109,111,100,117,108,101,35,111,112,97,113,117,101,6,200,21,95,95,115,116,97,116,105,99,95,97,116,116,114,105,98,117,116,101,115,95,95,4,0,0,15,6,202,8,95,95,100,105,99,116,95,95,4,0,0,16,6,204,11,95,95,119,101,97,107,114,101,102,95,95,4,0,0,17]⟩ 0),(.bool true),(.bool true),(.str (sS "") 205),(.int 21 0),(.str ⟨#[6,227,10,95,95,109,111,100,117,108,101,95,95,6,217,17,95,102,114,111,122,101,110,95,105,109,112,111,114,116,108,105,98,6,228,15,95,95,102,105,114,115,116,108,105,110,101,110,111,95,95,4,218,0,562,6,229,7,95,95,100,111,99,95,95,9,47,95,102,114,111,122,101,110,95,105,109,112,111,114,116,108,105,98,46,77,111,100,117,108,101,83,112,101,99,46,95,95,100,111,99,95,95,58,115,116,114,35,111,112,97,113,117,101,6,230,8,95,95,105,110,105,116,95,95,9,44,95,102,114,111,122,101,110,95,105,109,112,111,114,116,108,105,98,46,77,111,100,117,108,101,83,112,101,99,46,95,95,105,110,105,116,95,95,35,111,112,97,113,117,101,6,231,8,95,95,114,101,112,114,95,95,9,44,95,102,114,111,122,101,110,95,105,109,112,111,114,116,108,105,98,46,77,111,100,117,108,101,83,112,101,99,46,95,95,114,101,112,114,95,95,35,111,112,97,113,117,101,6,232,6,95,95,101,113,95,95,9,42,95,102,114,111,122,101,110,95,105,109,112,111,114,116,108,105,98,46,77,111,100,117,108,101,83,112,101,99,46,95,95,101,113,95,95,35,111,112,97,113,117,101,6,233,6,99,97,99,104,101,100,9,42,95,102,114,111,122,101,110,95,105,109,112,111,114,116,108,105,98,46,77,111,100,117,108,101,83,112,101,99,46,99,97,99,104,101,100,35,111,112,97,113,117,101,6,234,6,112,97,114,101,110,116,9,42,95,102,114,111,122,101,110,95,105,109,112,111,114,116,108,105,98,46,77,111,100,117,108,101,83,112,101,99,46,112,97,114,101,110,116,35,111,112,97,113,117,101,6,235,12,104,97,115,95,108,111,99,97,116,105,111,110,9,48,95,102,114,111,122,101,110,95,105,109,112,111,114,116,108,105,98,46,77,111,100,117,108,101,83,112,101,99,46,104,97,115,95,108,111,99,97,116,105,111,110,35,111,112,97,113,117,101,6,236,21,95,95,115,116,97,116,105,99,95,97,116,116,114,105,98,117,116,101,115,95,95,4,0,0,23,6,238,8,95,95,100,105,99,116,95,95,4,0,0,24,6,240,11,95,95,119,101,97,107,114,101,102,95,95,4,0,0,25,6,241,8,95,95,104,97,115,104,95,95,0]⟩ 0),(.bool true),(.bool true),(.str (sS "") 242)] 1) #[])
noncomputable def zV(P:Params):Obj:=(.mk (.type "list") none (.seq #[] 0) #[])
noncomputable def zW(P:Params):Obj:=(.mk (.type "dict") none (.dict #[(dE P (sS "name") 208 (.str (sS "_sre") 207)),(dE P (sS "loader") 209 (.ref 14)),(dE P (sS "origin") 210 (.str (sS "built-in") 184)),(dE P (sS "loader_state") 211 .none),(dE P (sS "submodule_search_locations") 212 .none),(dE P (sS "_uninitialized_submodules") 213 (.ref 19)),(dE P (sS "_set_fileattr") 214 (.bool false)),(dE P (sS "_cached") 215 .none),(dE P (sS "_initializing") 243 (.bool false))] 9) #[])
noncomputable def zX(P:Params):Obj:=(.mk (.type "dict") none (.dict #[(dE P (sS "__module__") 227 (.str (sS "_frozen_importlib") 217)),(dE P (sS "__firstlineno__") 228 (.int 562 218)),(dE P (sS "__doc__") 229 (.builtin "_frozen_importlib.ModuleSpec.__doc__:str#opaque")),(dE P (sS "__init__") 230 (.builtin "_frozen_importlib.ModuleSpec.__init__#opaque")),(dE P (sS "__repr__") 231 (.builtin "_frozen_importlib.ModuleSpec.__repr__#opaque")),(dE P (sS "__eq__") 232 (.builtin "_frozen_importlib.ModuleSpec.__eq__#opaque")),(dE P (sS "cached") 233 (.builtin "_frozen_importlib.ModuleSpec.cached#opaque")),(dE P (sS "parent") 234 (.builtin "_frozen_importlib.ModuleSpec.parent#opaque")),(dE P (sS "has_location") 235 (.builtin "_frozen_importlib.ModuleSpec.has_location#opaque")),(dE P (sS "__static_attributes__") 236 (.ref 23)),(dE P (sS "__dict__") 238 (.ref 24)),(dE P (sS "__weakref__") 240 (.ref 25)),(dE P (sS "__hash__") 241 .none)] 13) #[])
noncomputable def zY(P:Params):Obj:=(.mk (.type "type") none (.cls (ClassData.mk (sS "ModuleSpec") [(.type "object")] [(.ref 22),(.type "object")] 21 (sS "ModuleSpec") true [] [] false none false)) #[])
noncomputable def zZ(P:Params):Obj:=(.mk (.type "tuple") none (.seq #[(.str (sS "_cached") 219),(.str (sS "_set_fileattr") 220),(.str (sS "_uninitialized_submodules") 221),(.str (sS "loader") 222),(.str (sS "loader_state") 223),(.str (sS "name") 224),(.str (sS "origin") 225),(.str (sS "submodule_search_locations") 226)] 0) #[])
noncomputable def z3(P:Params):Obj:=(.mk (.type "getset_descriptor") none (.fields #[(.str (sS "__dict__") 237),(.ref 22),(.builtin "function.__dict__"),(.builtin "function.__dict__#set")]) #[])
noncomputable def z4(P:Params):Obj:=(.mk (.type "getset_descriptor") none (.fields #[(.str (sS "__weakref__") 239),(.ref 22),(.builtin "ExceptionGroup.__weakref__"),.none]) #[])
noncomputable def z5(P:Params):Obj:=(.mk (.ref 22) (some 20) .plain #[])
noncomputable def z6(P:Params):Obj:=(.mk .none none (.seq #[(.int 11 0),(.str (Str.mk #[6,247,8,95,95,110,97,109,101,95,95,6,246,4,95,115,114,101,6,248,7,95,95,100,111,99,95,95,0,6,250,11,95,95,112,97,99,107,97,103,101,95,95,6,249,0,6,251,10,95,95,108,111,97,100,101,114,95,95,4,0,0,14,6,252,8,95,95,115,112,101,99,95,95,4,0,0,26,6,253,7,99,111,109,112,105,108,101,9,12,95,115,114,101,46,99,111,109,112,105,108,101,6,254,8,116,101,109,112,108,97,116,101,9,13,95,115,114,101,46,116,101,109,112,108,97,116,101,6,255,11,103,101,116,99,111,100,101,115,105,122,101,9,16,95,115,114,101,46,103,101,116,99,111,100,101,115,105,122,101,6,256,13,97,115,99,105,105,95,105,115,99,97,115,101,100,9,18,95,115,114,101,46,97,115,99,105,105,95,105,115,99,97,115,101,100,6,257,15,117,110,105,99,111,100,101,95,105,115,99,97,115,101,100,9,20,95,115,114,101,46,117,110,105,99,111,100,101,95,105,115,99,97,115,101,100,6,258,13,97,115,99,105,105,95,116,111,108,111,119,101,114,9,18,95,115,114,101,46,97,115,99,105,105,95,116,111,108,111,119,101,114,6,259,15,117,110,105,99,111,100,101,95,116,111,108,111,119,101,114,9,20,95,115,114,101,46,117,110,105,99,111,100,101,95,116,111,108,111,119,101,114,6,261,5,77,65,71,73,67,4,260,0,20230612,6,263,8,67,79,68,69,83,73,90,69,4,262,0,4,6,265,9,77,65,88,82,69,80,69,65,84,4,264,0,4294967295,6,267,9,77,65,88,71,82,79,85,80,83,4,266,0,1073741823,6,269,9,99,111,112,121,114,105,103,104,116,6,268,53,32,83,82,69,32,50,46,50,46,50,32,67,111,112,121,114,105,103,104,116,32,40,99,41,32,49,57,57,55,45,50,48,48,50,32,98,121,32,83,101,99,114,101,116,32,76,97,98,115,32,65,66,32]) 0),(.bool true),(.bool false),(.str (sS "_sre") 271)] 0) #[])
noncomputable def L0(P:Params):List Obj:=[boot_o_0 P,zL P,zM P,IE P,boot_o_4 P,boot_o_5 P,boot_o_6 P,boot_o_7 P,boot_o_8 P,boot_o_9 P,boot_o_10 P,zN P,zO P,zP P,zQ P,zR P,zS P,zT P,zU P,zV P,zW P,zX P,zY P,zZ P,z3 P,z4 P,z5 P,z6 P]
noncomputable def IF(P:Params):Obj:=(.mk (.type "dict") none (.dict #[(dE P (sS "__name__") 165 (.str (sS "re") 361)),(dE P (sS "__doc__") 166 .none),(dE P (sS "__package__") 167 .none),(dE P (sS "__loader__") 168 (.builtin "__main__.__loader__#opaque")),(dE P (sS "__spec__") 169 .none),(dE P (sS "__annotations__") 170 (.ref 6)),(dE P (sS "__builtins__") 171 (.ref 4)),(dE P (sS "__file__") 173 (.str (sS "/claim/cut.py") 172)),(dE P (sS "__cached__") 174 .none),(dE P (sS "_sre") 275 (.ref 12)),(dE P (sS "_wall") 288 (.ref 38)),(dE P (sS "_deduplicate_unhashable") 299 (.ref 45)),(dE P (sS "_compare_args_orderless") 311 (.ref 52)),(dE P (sS "_twin_re_1") 351 (.ref 57)),(dE P (sS "translate") 360 (.ref 64)),(dE P (sS "_special_chars_map") 508 (.ref 66))] 16) #[])
noncomputable def IG(P:Params):Obj:=(.mk (.type "tuple") none (.seq #[] 0) #[])
noncomputable def IH(P:Params):Obj:=(.mk .none none (.fields #[(.int 2 0),(.int 0 0),(.ref 37),(.int 6 0),(.int 0 0),(.ref 44),(.int 12 0),(.int 0 0),(.ref 51),(.int 24 0),(.int 0 0),(.ref 63)]) #[])
noncomputable def II(P:Params):Obj:=(.mk (.type "code") none (.fields #[(.str (sS "<module>") 277),(.str (sS "<module>") 278),(.str (sS "/claim/cut.py") 279),(.int 1 0),(.int 0 0),(.int 0 0),(.int 0 0),(.int 0 0),(.ref 28),(.bool false),(.int 276 0),(.ref 29),.none,.none,.none,.none,(.int 280 0),(.int 1 0),(.str (sS "/claim/cut.py") 281)]) #[])
noncomputable def IJ(P:Params):Obj:=(.mk (.type "frame") none .plain #[(some (.ref 30)),(some (.ref 3)),(some (.ref 3)),none,(some (.str (sS "__main__") 164)),none,(some (.ref 0))])
noncomputable def IK(P:Params):Obj:=(.mk (.type "tuple") none (.seq #[] 0) #[])
noncomputable def IL(P:Params):Obj:=(.mk .none none (.fields #[]) #[])
noncomputable def IM(P:Params):Obj:=(.mk (.type "tuple") none (.seq #[(.str (sS "k") 285)] 0) #[])
noncomputable def IN(P:Params):Obj:=(.mk (.type "tuple") none (.seq #[] 0) #[])
noncomputable def IO(P:Params):Obj:=(.mk .none none (.func (FuncData.mk (sS "_wall") (sS "_wall") (gA 1) (.stmts (gB 1)) (gS 1) 0 [] .none .none .none .none none .none .none 0)) #[])
noncomputable def IP(P:Params):Obj:=(.mk (.type "code") none (.fields #[(.str (sS "_wall") 282),(.str (sS "_wall") 283),(.str (sS "/claim/cut.py") 284),(.int 2 0),(.int 1 0),(.int 0 0),(.int 0 0),(.int 3 0),(.ref 32),(.bool true),(.int 276 0),(.ref 33),.none,(.ref 34),(.ref 35),(.ref 36),(.int 286 0),(.int 2 0),(.str (sS "/claim/cut.py") 287)]) #[])
noncomputable def IQ(P:Params):Obj:=(.mk (.type "function") none (.func (FuncData.mk (sS "_wall") (sS "_wall") (gA 1) (.stmts (gB 1)) (gS 1) 3 [] .none .none .none (.str (sS "__main__") 164) none (.ref 37) .none 0)) #[])
noncomputable def IR(P:Params):Obj:=(.mk (.type "tuple") none (.seq #[] 0) #[])
noncomputable def IS(P:Params):Obj:=(.mk .none none (.fields #[]) #[])
noncomputable def IT(P:Params):Obj:=(.mk (.type "tuple") none (.seq #[(.str (sS "unhashable_params") 294),(.str (sS "new_unhashable") 295),(.str (sS "t") 296)] 0) #[])
noncomputable def IU(P:Params):Obj:=(.mk (.type "tuple") none (.seq #[] 0) #[])
noncomputable def IV(P:Params):Obj:=(.mk .none none (.func (FuncData.mk (sS "_deduplicate_unhashable") (sS "_deduplicate_unhashable") (gA 3) (.stmts (gB 3)) (gS 3) 0 [] .none .none .none .none none .none .none 0)) #[])
noncomputable def IW(P:Params):Obj:=(.mk (.type "code") none (.fields #[(.str (sS "_deduplicate_unhashable") 291),(.str (sS "_deduplicate_unhashable") 292),(.str (sS "/claim/cut.py") 293),(.int 6 0),(.int 1 0),(.int 0 0),(.int 0 0),(.int 3 0),(.ref 39),(.bool true),(.int 276 0),(.ref 40),.none,(.ref 41),(.ref 42),(.ref 43),(.int 297 0),(.int 6 0),(.str (sS "/claim/cut.py") 298)]) #[])
noncomputable def IY(P:Params):Obj:=(.mk (.type "function") none (.func (FuncData.mk (sS "_deduplicate_unhashable") (sS "_deduplicate_unhashable") (gA 3) (.stmts (gB 3)) (gS 3) 3 [] .none .none .none (.str (sS "cpy313.typing") 289) none (.ref 44) .none 0)) #[])
noncomputable def IZ(P:Params):Obj:=(.mk (.type "tuple") none (.seq #[] 0) #[])
noncomputable def Ja(P:Params):Obj:=(.mk .none none (.fields #[]) #[])
noncomputable def Jb(P:Params):Obj:=(.mk (.type "tuple") none (.seq #[(.str (sS "first_args") 303),(.str (sS "second_args") 304),(.str (sS "first_unhashable") 305),(.str (sS "second_unhashable") 306),(.str (sS "t") 307),(.str (sS "elem") 308)] 0) #[])
noncomputable def Jc(P:Params):Obj:=(.mk (.type "tuple") none (.seq #[] 0) #[])
noncomputable def Jd(P:Params):Obj:=(.mk .none none (.func (FuncData.mk (sS "_compare_args_orderless") (sS "_compare_args_orderless") (gA 4) (.stmts (gB 4)) (gS 4) 0 [] .none .none .none .none none .none .none 0)) #[])
noncomputable def Je(P:Params):Obj:=(.mk (.type "code") none (.fields #[(.str (sS "_compare_args_orderless") 300),(.str (sS "_compare_args_orderless") 301),(.str (sS "/claim/cut.py") 302),(.int 12 0),(.int 2 0),(.int 0 0),(.int 0 0),(.int 3 0),(.ref 46),(.bool true),(.int 276 0),(.ref 47),.none,(.ref 48),(.ref 49),(.ref 50),(.int 309 0),(.int 12 0),(.str (sS "/claim/cut.py") 310)]) #[])
noncomputable def Jf(P:Params):Obj:=(.mk (.type "function") none (.func (FuncData.mk (sS "_compare_args_orderless") (sS "_compare_args_orderless") (gA 4) (.stmts (gB 4)) (gS 4) 3 [] .none .none .none (.str (sS "cpy313.typing") 289) none (.ref 51) .none 0)) #[])
noncomputable def Jg(P:Params):Obj:=(.mk (.type "list") none (.seq #[(.int 14 317),(.int 14 318),(.int 4 319),(.int 1 320),(.int 1 321),(.int 9 322),(.int 0 323),(.int 64 324),(.int 0 325),(.int 1342177280 326),(.int 0 327),(.int 0 328),(.int 0 329),(.int 0 330),(.int 0 331),(.int 17 332),(.int 0 333),(.int 13 334),(.int 11 335),(.int 9 336),(.int 0 337),(.int 64 338),(.int 0 339),(.int 1342177280 340),(.int 0 341),(.int 0 342),(.int 0 343),(.int 0 344),(.int 0 345),(.int 17 346),(.int 1 347),(.int 1 348)] 0) #[])
noncomputable def Jh(P:Params):Obj:=(.mk (.type "dict") none (.dict #[] 0) #[])
noncomputable def Ji(P:Params):Obj:=(.mk (.type "tuple") none (.seq #[.none,.none] 0) #[])
noncomputable def Jj(P:Params):Obj:=(.mk (.type "tuple") none (.seq #[(.int 14 0),(.int 14 0),(.int 4 0),(.int 1 0),(.int 1 0),(.int 9 0),(.int 0 0),(.int 64 0),(.int 0 0),(.int 1342177280 0),(.int 0 0),(.int 0 0),(.int 0 0),(.int 0 0),(.int 0 0),(.int 17 0),(.int 0 0),(.int 13 0),(.int 11 0),(.int 9 0),(.int 0 0),(.int 64 0),(.int 0 0),(.int 1342177280 0),(.int 0 0),(.int 0 0),(.int 0 0),(.int 0 0),(.int 0 0),(.int 17 0),(.int 1 0),(.int 1 0)] 0) #[])
noncomputable def Jk(P:Params):Obj:=(.mk (.type "re.Pattern") none (.fields #[(.str (sS "([&~|])") 315),(.int 32 350),(.int 1 0),.none,.none,(.ref 56),(.int 0 0)]) #[])
noncomputable def Jl(P:Params):Obj:=(.mk (.type "tuple") none (.seq #[] 0) #[])
noncomputable def Jm(P:Params):Obj:=(.mk .none none (.fields #[]) #[])
noncomputable def Jn(P:Params):Obj:=(.mk (.type "tuple") none (.seq #[(.str (sS "pat") 355),(.str (sS "STAR") 356),(.str (sS "parts") 357)] 0) #[])
noncomputable def Jo(P:Params):Obj:=(.mk (.type "tuple") none (.seq #[] 0) #[])
noncomputable def Jp(P:Params):Obj:=(.mk .none none (.func (FuncData.mk (sS "translate") (sS "translate") (gA 7) (.stmts (gB 7)) (gS 7) 0 [] .none .none .none .none none .none .none 0)) #[])
noncomputable def Jq(P:Params):Obj:=(.mk (.type "code") none (.fields #[(.str (sS "translate") 352),(.str (sS "translate") 353),(.str (sS "/claim/cut.py") 354),(.int 24 0),(.int 1 0),(.int 0 0),(.int 0 0),(.int 3 0),(.ref 58),(.bool true),(.int 276 0),(.ref 59),.none,(.ref 60),(.ref 61),(.ref 62),(.int 358 0),(.int 24 0),(.str (sS "/claim/cut.py") 359)]) #[])
noncomputable def Jr(P:Params):Obj:=(.mk (.type "function") none (.func (FuncData.mk (sS "translate") (sS "translate") (gA 7) (.stmts (gB 7)) (gS 7) 3 [] .none .none .none (.str (sS "cpy313.fnmatch") 312) none (.ref 63) .none 0)) #[])
noncomputable def Js(P:Params):Obj:=(.mk (.type "bytes_iterator") none (.fields #[.none,(.int 24 0)]) #[])
noncomputable def nu(P:Params):Obj:=(.mk (.type "dict") none (.dict #[(DictEntry.mk 40 (.int 40 364) (.str (sS "\\(") 368)),(DictEntry.mk 41 (.int 41 370) (.str (sS "\\)") 374)),(DictEntry.mk 91 (.int 91 376) (.str (sS "\\[") 380)),(DictEntry.mk 93 (.int 93 382) (.str (sS "\\]") 386)),(DictEntry.mk 123 (.int 123 388) (.str (sS "\\{") 392)),(DictEntry.mk 125 (.int 125 394) (.str (sS "\\}") 398)),(DictEntry.mk 63 (.int 63 400) (.str (sS "\\?") 404)),(DictEntry.mk 42 (.int 42 406) (.str (sS "\\*") 410)),(DictEntry.mk 43 (.int 43 412) (.str (sS "\\+") 416)),(DictEntry.mk 45 (.int 45 418) (.str (sS "\\-") 422)),(DictEntry.mk 124 (.int 124 424) (.str (sS "\\|") 428)),(DictEntry.mk 94 (.int 94 430) (.str (sS "\\^") 434)),(DictEntry.mk 36 (.int 36 436) (.str (sS "\\$") 440)),(DictEntry.mk 92 (.int 92 442) (.str (sS "\\\\") 446)),(DictEntry.mk 46 (.int 46 448) (.str (sS "\\.") 452)),(DictEntry.mk 38 (.int 38 454) (.str (sS "\\&") 458)),(DictEntry.mk 126 (.int 126 460) (.str (sS "\\~") 464)),(DictEntry.mk 35 (.int 35 466) (.str (sS "\\#") 470)),(DictEntry.mk 32 (.int 32 472) (.str (sS "\\ ") 476)),(DictEntry.mk 9 (.int 9 478) (.str (sS "\\\t") 482)),(DictEntry.mk 10 (.int 10 484) (.str (sS "\\\n") 488)),(DictEntry.mk 13 (.int 13 490) (.str (sS "\\\x0d") 494)),(DictEntry.mk 11 (.int 11 496) (.str (sS "\\\x0b") 500)),(DictEntry.mk 12 (.int 12 502) (.str (sS "\\\x0c") 506))] 24) #[])
noncomputable def Jt(P:Params):Obj:=(.mk (.type "dict") none (.dict #[] 2) #[])
noncomputable def Ju(P:Params):Obj:=(.mk (.type "tuple") none (.seq #[] 0) #[])
noncomputable def Jv(P:Params):Obj:=(.mk (.type "StopIteration") none (.fields #[(.ref 68),.none,.none,.none,(.bool false),.none]) #[])
noncomputable def LB(P:Params):List Obj:=[boot_o_0 P,zL P,zM P,IF P,boot_o_4 P,boot_o_5 P,boot_o_6 P,boot_o_7 P,boot_o_8 P,boot_o_9 P,boot_o_10 P,zN P,zO P,zP P,zQ P,zR P,zS P,zT P,zU P,zV P,zW P,zX P,zY P,zZ P,z3 P,z4 P,z5 P,z6 P,IG P,IH P,II P,IJ P,IK P,IL P,IM P,IN P,IO P,IP P,IQ P,IR P,IS P,IT P,IU P,IV P,IW P,IY P,IZ P,Ja P,Jb P,Jc P,Jd P,Je P,Jf P,Jg P,Jh P,Ji P,Jj P,Jk P,Jl P,Jm P,Jn P,Jo P,Jp P,Jq P,Jr P,Js P,nu P,Jt P,Ju P,Jv P]
noncomputable def tY{α:Type}:List α->List α
 | []=>[]
 | [x]=>[x]
 | x::_::l=>x::tY l
noncomputable def pH:Nat->List Obj->BT
 | 0,_=>.nil
 | _,[]=>.nil
 | n+1,x::l=>.node x (pH n (tY l)) (pH n (tY l.tail))
noncomputable def lf:Life:=.mk [] [] [] 0 [] [] false #[] [] 0 false false false 0 [2000,10,10] false 0 true [] [] 0 false
noncomputable def eO(P:Params)(os:OsState):SharedT:=⟨pH 6 (L0 P),28,lf,#[],{},276,os⟩
noncomputable def z7(P:Params)(os:OsState):SharedT:=⟨pH 8 (LB P),70,lf,#[],{},509,os⟩
noncomputable def eB:Env:={ scope:=bH.main.scope,locals:=mainNs,globals:=mainNs,cells:=[],code:=.ref 30,frame:=some 31 }
noncomputable def cB:Code:=.body (behindTheImports bH) eB
noncomputable abbrev tf:List Frame:=[topFrame default]
noncomputable def l9:List Stmt:=(behindTheImports bH).take 9
theorem Jx(w:World):(fencedOpening treeTable bH w 6000).map (fun s=>(s.heap,s.gens,s.drawn,s.toks))=some ((eO w.params {}).abs.heap,#[],{},276):=by kernel_rfl
noncomputable def nv(tb:String->Option Builtin)(p:Program)(w:World)(n₀:Nat)(ann:Option Value):Nat->SharedT->Thread->Option (SharedT × Thread)
 | 0,s,t=>some (s,t)
 | n+1,s,t=>match through t with
  | true=>none
  | false=>match stepOk n₀ ann t with
   | false=>none
   | true=>match stepT (denote tb) p w s t with
    | some (s',t')=>nv tb p w n₀ ann n s' t'
    | none=>none
theorem Jy{tb:String->Option Builtin}{p:Program}{w:World}{n₀:Nat}{ann:Option Value}{n:Nat}{s:SharedT}{t:Thread}:nv tb p w n₀ ann (n+1) s t=match through t with
 | true=>none
 | false=>match stepOk n₀ ann t with
  | false=>none
  | true=>match stepT (denote tb) p w s t with
   | some (s',t')=>nv tb p w n₀ ann n s' t'
   | none=>none:=rfl
noncomputable def Jz(w:World)(S:SharedT):Option (Thread × (Flow × Code × Pos) × (Flow × SharedT × Code × Pos)) :=
 (nv treeTable bH w 28 (some (.ref 6)) 12 S (topStub bH)).bind fun x=>(segRunT treeTable bH w 28 (some (.ref 6)) 1 1 x.1 (blockOf (behindTheImports bH) eB cB default tf)).bind fun y =>
  (segRunT treeTable bH w 28 (some (.ref 6)) 1 1500 y.2.1 (piecesOf l9 eB cB y.2.2.2 tf)).map fun z=>(x.2,(y.1,y.2.2.1,y.2.2.2),z)
theorem z9{tb:String->Option Builtin}{p:Program}{w:World}{n₀:Nat}{ann:Option Value}:∀ {n:Nat} {s s':SharedT} {t t':Thread},nv tb p w n₀ ann n s t=some (s',t')->topGo tb p w n₀ ann n s.abs t=some (s'.abs,t')
 | 0,_,_,_,_,h=>by cases h;rfl
 | n+1,s,s',t,t',h=>by
  rw[Jy]at h
  unfold topGo
  cases ht:through t with
  | true=>rw[ht]at h;cases h
  | false =>
   rw[ht]at h
   cases hk:stepOk n₀ ann t with
   | false=>rw[hk]at h;cases h
   | true =>
    rw[hk]at h
    cases hs:stepT (denote tb) p w s t with
    | none=>rw[hs]at h;cases h
    | some r=>obtain⟨s₂,t₂⟩:=r;rw[hs]at h;dsimp only;rw[stepT_spec hs];exact z9 h
noncomputable def fv(w:World):Prop:=(fun os=>Jz w (eO w.params os))=fun os=>some (⟨denote treeTable cB,cB,default,tf⟩,(.next,cB,default),(.next,z7 w.params os,cB,⟨29,0,29,18⟩))
theorem JA(w:World):fv ((w.withFollow "comprehension-iter-twice" false).withFollow "special-get-raises" false):=by unfold fv;kernel_rfl
theorem JB(w:World):fv ((w.withFollow "comprehension-iter-twice" false).withFollow "special-get-raises" true):=by unfold fv;kernel_rfl
theorem JC(w:World):fv ((w.withFollow "comprehension-iter-twice" true).withFollow "special-get-raises" false):=by unfold fv;kernel_rfl
theorem JD(w:World):fv ((w.withFollow "comprehension-iter-twice" true).withFollow "special-get-raises" true):=by unfold fv;kernel_rfl
theorem JE(w:World):fv w:=byRow2 "special-get-raises" (P:=fv) (fun w=>byRow2 "comprehension-iter-twice" (P:=fun w=>fv (w.withFollow "special-get-raises" false)) JA JC w) (fun w=>byRow2 "comprehension-iter-twice" (P:=fun w=>fv (w.withFollow "special-get-raises" true)) JB JD w) w
noncomputable def nw(tb:String->Option Builtin)(p:Program)(w:World)(n₀:Nat)(ann:Option Value):Nat->SharedT->Thread->Option SharedT
 | 0,_,_=>none
 | n+1,s,t=>match through t with
  | true=>some s
  | false=>match stepOk n₀ ann t with
   | false=>none
   | true=>match stepT (denote tb) p w s t with
    | some (s',t')=>nw tb p w n₀ ann n s' t'
    | none=>none
theorem JF{tb:String->Option Builtin}{p:Program}{w:World}{n₀:Nat}{ann:Option Value}{n:Nat}{s:SharedT}{t:Thread}:nw tb p w n₀ ann (n+1) s t=match through t with
 | true=>some s
 | false=>match stepOk n₀ ann t with
  | false=>none
  | true=>match stepT (denote tb) p w s t with
   | some (s',t')=>nw tb p w n₀ ann n s' t'
   | none=>none:=rfl
theorem Aa{tb:String->Option Builtin}{p:Program}{w:World}{n₀:Nat}{ann:Option Value}:∀ {n:Nat} {s s':SharedT} {t:Thread},nw tb p w n₀ ann n s t=some s'->topRun tb p w n₀ ann n s.abs t=some s'.abs
 | 0,_,_,_,h=>by cases h
 | n+1,s,s',t,h=>by
  rw[JF]at h
  unfold topRun
  cases ht:through t with
  | true=>rw[ht]at h;cases h;rfl
  | false =>
   rw[ht]at h
   cases hk:stepOk n₀ ann t with
   | false=>rw[hk]at h;cases h
   | true =>
    rw[hk]at h
    cases hs:stepT (denote tb) p w s t with
    | none=>rw[hs]at h;cases h
    | some r=>obtain⟨s₂,t₂⟩:=r;rw[hs]at h;dsimp only;rw[stepT_spec hs];exact Aa h
noncomputable def ny:Program:=view bH [0,1,3,4,6,7,9,10,12,13,15,16,17,18,19,21,22,23,24,25,26,27]
noncomputable def nz:List Str:=[ofString "_twin_re_1",ofString "_special_chars_map",ofString "_NodeInfo"]
noncomputable def fo(f:FuncData):Obj:=.mk (.type "function") none (.func f) #[]
noncomputable def JG(P:Params):Obj:=(.mk (.type "type") none (.cls (.mk (sS "_NodeInfo") [(.type "object")] [(.ref 109),(.type "object")] 108 (sS "_NodeInfo") false [(sS "node"),(sS "npredecessors"),(sS "successors")] [] false none false)) #[none,none,(some (.str (sS "_NodeInfo") 558)),(some (.str (sS "_NodeInfo") 566)),(some (.builtin "object.__new__")),(some (.bool false))])
noncomputable def JH(P:Params):Obj:=(.mk (.type "dict") none (.dict #[(dE P (sS "__module__") 565 (.str (sS "cpy313.graphlib") 550)),(dE P (sS "__firstlineno__") 569 (.int 129 568)),(dE P (sS "__slots__") 573 (.ref 98)),(dE P (sS "__init__") 581 (.ref 105)),(dE P (sS "__static_attributes__") 585 (.ref 106)),(dE P (sS "node") 587 (.ref 110)),(dE P (sS "npredecessors") 589 (.ref 111)),(dE P (sS "successors") 591 (.ref 112)),(dE P (sS "__doc__") 592 .none)] 5) #[])
noncomputable def JI(P:Params):Obj:=(.mk (.type "type") none (.cls (.mk (sS "TopologicalSorter") [(.type "object")] [(.ref 206),(.type "object")] 205 (sS "TopologicalSorter") true [] [] false none false)) #[none,none,(some (.str (sS "TopologicalSorter") 613)),(some (.str (sS "TopologicalSorter") 621)),(some (.builtin "object.__new__")),(some (.bool true))])
noncomputable def JJ(P:Params):Obj:=(.mk (.type "dict") none (.dict #[(dE P (sS "__module__") 620 (.str (sS "cpy313.graphlib") 550)),(dE P (sS "__firstlineno__") 624 (.int 138 623)),(dE P (sS "__init__") 634 (.ref 142)),(dE P (sS "_get_nodeinfo") 643 (.ref 149)),(dE P (sS "add") 655 (.ref 156)),(dE P (sS "prepare") 661 (.ref 161)),(dE P (sS "get_ready") 671 (.ref 168)),(dE P (sS "is_active") 678 (.ref 175)),(dE P (sS "__bool__") 685 (.ref 182)),(dE P (sS "done") 699 (.ref 189)),(dE P (sS "_find_cycle") 712 (.ref 196)),(dE P (sS "static_order") 719 (.ref 203)),(dE P (sS "__static_attributes__") 724 (.ref 204)),(dE P (sS "__dict__") 726 (.ref 207)),(dE P (sS "__weakref__") 728 (.ref 208)),(dE P (sS "__doc__") 729 .none)] 4) #[])
noncomputable def JK(P:Params):Obj:=(.mk (.type "type") none (.cls (.mk (sS "CycleError") [(.type "ValueError")] [(.ref 124),(.type "ValueError"),(.type "Exception"),(.type "BaseException"),(.type "object")] 123 (sS "CycleError") true [] [] false none false)) #[(some (.ref 115)),none,(some (.str (sS "CycleError") 595)),(some (.str (sS "CycleError") 603)),(some (.builtin "ValueError.__new__")),(some (.bool true))])
noncomputable def JL(P:Params):Obj:=(.mk (.type "dict") none (.dict #[(dE P (sS "__module__") 602 (.str (sS "cpy313.graphlib") 550)),(dE P (sS "__firstlineno__") 606 (.int 136 605)),(dE P (sS "__static_attributes__") 607 (.ref 122)),(dE P (sS "__weakref__") 609 (.ref 125)),(dE P (sS "__doc__") 610 .none)] 3) #[])
noncomputable def JM(P:Params):Obj:=(.mk (.type "member_descriptor") none (.fields #[(.str (sS "node") 586),(.ref 109),(.builtin "proto.slot"),(.builtin "proto.slot#set"),(.int 2 0)]) #[])
noncomputable def JN(P:Params):Obj:=(.mk (.type "member_descriptor") none (.fields #[(.str (sS "npredecessors") 588),(.ref 109),(.builtin "proto.slot"),(.builtin "proto.slot#set"),(.int 1 0)]) #[])
noncomputable def JO(P:Params):Obj:=(.mk (.type "member_descriptor") none (.fields #[(.str (sS "successors") 590),(.ref 109),(.builtin "proto.slot"),(.builtin "proto.slot#set"),(.int 0 0)]) #[])
noncomputable def tZ(P:Params):Obj:=(.mk (.type "tuple") none (.seq #[.none] 0) #[])
noncomputable def Ab:FuncData:=cz "_deduplicate_unhashable" "_deduplicate_unhashable" (bj 3) "cpy313.typing" 289 44 .none
noncomputable def Ac:FuncData:=cz "_compare_args_orderless" "_compare_args_orderless" (bj 4) "cpy313.typing" 289 51 .none
noncomputable def Ad:FuncData:=cz "translate" "translate" (bj 7) "cpy313.fnmatch" 312 63 .none
noncomputable def Ae:FuncData:=cz "escape" "escape" (bj 10) "re" 361 75 .none
noncomputable def Af:FuncData:=cz "_translate" "_translate" (bj 12) "cpy313.fnmatch" 516 82 .none
noncomputable def Ag:FuncData:=cz "_join_translated_parts" "_join_translated_parts" (bj 13) "cpy313.fnmatch" 516 89 .none
noncomputable def Ah:FuncData:=cz "_law_pattern" "_law_pattern" (bj 21) "law_kt0069_05" 732 216 .none
noncomputable def Ai:FuncData:=cz "_law_pieces" "_law_pieces" (bj 22) "law_kt0069_05" 732 223 .none
noncomputable def Aj:FuncData:=cz "_law_takes" "_law_takes" (bj 23) "law_kt0069_05" 732 228 .none
noncomputable def Ak:FuncData:=cz "_law_like" "_law_like" (bj 24) "law_kt0069_05" 732 233 .none
noncomputable def Al:FuncData:=cz "_law_parts" "_law_parts" (bj 25) "law_kt0069_05" 732 238 .none
noncomputable def Am:FuncData:=cz "_law_ringless" "_law_ringless" (bj 26) "law_kt0069_05" 732 245 .none
noncomputable def An:FuncData:=cz "law" "law" (bj 27) "law_kt0069_05" 732 250 .none
noncomputable def KL(P:Params):Frag:=[(45,fo Ab),(52,fo Ac),(64,fo Ad),(76,fo Ae),(83,fo Af),(90,fo Ag),(fI,fo pU),(fT,fo fdT),(nP,fo iu),(er,fo jm),(fP,fo jn),(fF,fo iw),(217,fo Ah),(224,fo Ai),(229,fo Aj),(234,fo Ak),(239,fo Al),(246,fo Am),(251,fo An),(NI,JG P),(108,JH P),(TS,JI P),(205,JJ P),(CE,JK P),(123,JL P),(pN,JM P),(pP,JN P),(pS,JO P),(135,tZ P),(66,nu P)]
noncomputable def pK:List (Addr × Str):=[(44,sS "_deduplicate_unhashable"),(51,sS "_compare_args_orderless"),(63,sS "translate"),(75,sS "escape"),(82,sS "_translate"),(89,sS "_join_translated_parts"),(104,sS "_NodeInfo.__init__"),(141,sS "TopologicalSorter.__init__"),(148,sS "TopologicalSorter._get_nodeinfo"),(155,sS "TopologicalSorter.add"),(160,sS "TopologicalSorter.prepare"),(195,sS "TopologicalSorter._find_cycle"),(216,sS "_law_pattern"),(223,sS "_law_pieces"),(228,sS "_law_takes"),(233,sS "_law_like"),(238,sS "_law_parts"),(245,sS "_law_ringless"),(250,sS "law")]
noncomputable def nA:List (Str × Addr):=[(sS "_deduplicate_unhashable",45),(sS "_compare_args_orderless",52),(sS "translate",64),(sS "_special_chars_map",66),(sS "escape",76),(sS "_translate",83),(sS "_join_translated_parts",90),(sS "_NodeInfo",NI),(sS "CycleError",CE),(sS "TopologicalSorter",TS),(sS "_law_pattern",217),(sS "_law_pieces",224),(sS "_law_takes",229),(sS "_law_like",234),(sS "_law_parts",239),(sS "_law_ringless",246),(sS "law",251)]
structure HF(w:World)(mg mb:Str->Option Value)(h:Heap):Prop where
 g:h.Ns mainGlobals mg
 b:h.Ns builtinsNs mb
 lim:h.NoLimit
 K:(KL w.params).In h
 bn:∀p∈bQ,mg p.1=none/\mb p.1=some p.2
 gl:∀p∈nA,mg p.1=some (.ref p.2)
 cd:∀p∈pK,h.CodeRec (.ref p.1) p.2
 sys:∃o,h.get? sysModules=some o
noncomputable def G5(w:World)(mg mb:Str->Option Value)(h:Heap):Glo:=⟨bH,w,mg,mb,KL w.params,h,pa bH w⟩
noncomputable def Ao(a:Addr):Value->Bool
 | .ref b=>Nat.beq b a
 | _=>false
theorem JP{a:Addr}{v:Value}(q:Ao a v=true):v=.ref a:=by
 cases v<;>first | exact absurd q Kr | exact congrArg Value.ref (Nat.eq_of_beq_eq_true q)
theorem gd{α β:Type}{a a':α}{b b':β}(h:(a,b)=(a',b')):a=a'/\b=b':=⟨congrArg Prod.fst h,congrArg Prod.snd h⟩
section
variable{w:World}{mg mb:Str->Option Value}{h:Heap}(H:HF w mg mb h)
include H
theorem a8:(G5 w mg mb h).Wf where
 g:=H.g
 b:=H.b
 lim:=H.lim
 K:=H.K
 srf g S h h' v r k _ _:=Ez r k
 bn:=H.bn
theorem fi{a:Addr}{fd:FuncData}{b:List Stmt}{names vars:List Str}(hl:(KL w.params).lookup a=some (fo fd))(hx:(fd.body,fd.closure,fd.globals,fd.builtins)=(.stmts b,[],mainGlobals,builtinsNs))
 (hc:(pK.any fun p=>Ao p.1 fd.code&&fd.qualname==p.2)=true) (sc:rm fd.scope names vars=true):FnInfo (G5 w mg mb h) a fd b names vars where
 at_:=⟨_,hl,rfl⟩
 hbody:=(gd hx).1
 hclo:=(gd (gd hx).2).1
 hg:=(gd (gd (gd hx).2).2).1
 hb:=(gd (gd (gd hx).2).2).2
 hcode:=by
  refine x12 (cM.mp hc) fun p hp q=>aO q fun q1 q2=>?_
  rw[JP q1,eq_of_beq q2];exact H.cd p hp
 sc:=FnSc.of sc
end
theorem JQ:bQ.map (fun p=>bootBuiltins p.1)=bQ.map fun p=>some p.2:=by kernel_rfl
section
variable(P:Params)
theorem t8:dL (KL P) TS=true:=by kernel_rfl
theorem Ap:e9 (KL P) NI=true:=by kernel_rfl
theorem Aq:dh (KL P) NI (sS "node") pN 0=true:=by kernel_rfl
theorem Ar:dh (KL P) NI (sS "npredecessors") pP 1=true:=by kernel_rfl
theorem pL:dh (KL P) NI (sS "successors") pS 2=true:=by kernel_rfl
end
theorem JR(u v:Value)(ps:List Value)(h:ps.length<=8):bindArgs jm ⟨u::v::ps,[]⟩=(newTuple ps >>= fun t=>pure ([aD,az,iX].zip [u,v,t])):=by
 rcases ps with _ | ⟨_,_ | ⟨_,_ | ⟨_,_ | ⟨_,_ | ⟨_,_ | ⟨_,_ | ⟨_,_ | ⟨_,_ | ⟨_,l⟩⟩⟩⟩⟩⟩⟩⟩⟩
 all_goals first | kernel_rfl | exact absurd h (Nat.not_le_of_gt (qW 9 l.length))
noncomputable def JS:FuncData:=cz "__init__" "TopologicalSorter.__init__" (md 19 0) "cpy313.graphlib" 550 141 (.ref 135)
theorem JT{K:Frag}{P:Params}(s:Shared)(hK:K.In s.heap)(h:K.lookup 135=some (tZ P))(v:Value):BindsTo s fdT ⟨[v],[]⟩ ([aD,jA].zip [v,.none]):=by
 rw[show fdT=JS by kernel_rfl]
 exact .of_defaults (T:=135) (o:=tZ P) (items:=#[.none]) (n:=0) rfl (hK 135 _ h) rfl rfl rfl
section
variable{w:World}{mg mb:Str->Option Value}{h:Heap}(H:HF w mg mb h)
include H
theorem N5:NiInfo (G5 w mg mb h) pU bI where
 ni:=Ap _
 sN:=Aq _
 sP:=Ar _
 sS:=pL _
 init:=by kernel_rfl
 isfn:=by kernel_rfl
 FI:=fi H (by kernel_rfl) (by kernel_rfl) (by kernel_rfl) (by kernel_rfl)
 bind u v:=by kernel_rfl
 bd:=⟨by kernel_rfl⟩
theorem I5:SI (G5 w mg mb h) where
 ts:=t8 _
 N:=N5 H
 ni:=H.gl (sS "_NodeInfo",NI) (by decide +kernel)
 keepN:=by kernel_rfl
 get:=by kernel_rfl
 FG:=fi H (by kernel_rfl) (by kernel_rfl) (by kernel_rfl) (by kernel_rfl)
 bindG u v:=by kernel_rfl
 bdG:=⟨by kernel_rfl,by kernel_rfl⟩
 glG:=by kernel_rfl
 sys:=H.sys
theorem A5:SA (G5 w mg mb h) where
 toSI:=I5 H
 FA:=fi H (by kernel_rfl) (by kernel_rfl) (by kernel_rfl) (by kernel_rfl)
 bindA:=JR
 bdA:=⟨by kernel_rfl,by kernel_rfl,by kernel_rfl,by kernel_rfl⟩
 glA:=by kernel_rfl
theorem T5:TInfo (G5 w mg mb h) fdT bT where
 ts:=t8 _
 init:=by kernel_rfl
 isfn:=by kernel_rfl
 FI:=fi H (by kernel_rfl) (by kernel_rfl) (by kernel_rfl) (by kernel_rfl)
 bind s hK v:=JT s hK (P:=w.params) (by kernel_rfl) v
 bd:=⟨by kernel_rfl⟩
theorem JX:FInfo (G5 w mg mb h) where
 ts:=t8 _
 ni:=Ap _
 sS:=pL _
 FF:=fi H (by kernel_rfl) (by kernel_rfl) (by kernel_rfl) (by kernel_rfl)
 bind u:=by kernel_rfl
 bd:=⟨sB bF 5,by kernel_rfl,sB (dU (sB (dU (sB bF 5)) 1)) 0,sB (dU (sB (dU (sB bF 5)) 1)) 1,by kernel_rfl,⟨by kernel_rfl,by kernel_rfl,by kernel_rfl,by kernel_rfl⟩,⟨by kernel_rfl,by kernel_rfl,by kernel_rfl⟩⟩
 gl:=by kernel_rfl
 loc:=by kernel_rfl
 sys:=H.sys
end
noncomputable def ent(o:Obj):Array DictEntry:=match o.data with | .dict es _=>es | _=>#[]
theorem ua{vs:List Value}{n:Nat}(e:vs.length=n+1):∃a r,vs=a::r/\r.length=n:=by
 cases vs with
 | nil=>exact Nat.noConfusion e
 | cons a r=>exact⟨a,r,rfl,Nat.succ.inj e⟩
theorem jk{α:Type}{f g:List Value->α}(h:∀a,f [a]=g [a])(vs:List Value)(e:vs.length=1):f vs=g vs :=
 x22 (ua e) fun a r e1 e2=>by rw[e1,List.length_eq_zero_iff.mp e2];exact h a
theorem kY{α:Type}{f g:List Value->α}(h:∀a b,f [a,b]=g [a,b])(vs:List Value)(e:vs.length=2):f vs=g vs :=
 x22 (ua e) fun a r e1 e2=>e1▸jk (f:=fun r=>f (a::r)) (g:=fun r=>g (a::r)) (h a) r e2
theorem JY{α:Type}{f g:List Value->α}(h:∀a b c,f [a,b,c]=g [a,b,c])(vs:List Value)(e:vs.length=3):f vs=g vs :=
 x22 (ua e) fun a r e1 e2=>e1▸kY (f:=fun r=>f (a::r)) (g:=fun r=>g (a::r)) (h a) r e2
section
variable{w:World}{mg mb:Str->Option Value}{h:Heap}(H:HF w mg mb h)
include H
theorem JZ:PInfo (G5 w mg mb h) where
 toFInfo:=JX H
 sN:=Aq _
 sP:=Ar _
 mF:=by kernel_rfl
 FP:=fi H (by kernel_rfl) (by kernel_rfl) (by kernel_rfl) (by kernel_rfl)
 bindP u:=by kernel_rfl
 bdP:=⟨sS "nodes are in a cycle",by kernel_rfl,by kernel_rfl,by kernel_rfl,by kernel_rfl,by kernel_rfl⟩
 glP:=by kernel_rfl
 ce:=H.gl (sS "CycleError",CE) (by decide +kernel)
 exc:=by kernel_rfl
theorem S5:SorG (G5 w mg mb h) where
 sr _ _ _ _:=Iff.rfl
 T:=T5 H
 A:=A5 H
 P:=JZ H
 gT:=H.gl (sS "TopologicalSorter",TS) (by decide +kernel)
 kT:=by kernel_rfl
 mA:=by kernel_rfl
 mP:=by kernel_rfl
 ce:=by kernel_rfl
theorem J0:aN (G5 w mg mb h) bM:=E7 (a:=76) (fd:=Ae) (body:=nS) (scm:=66) (f:=fun k=>findBy Value.isInt (ent (nu w.params)) k) (a8 H) {
 nm:=H.gl (sS "escape",76) (by decide +kernel)
 FI:=fi H (by kernel_rfl) (by kernel_rfl) (by kernel_rfl) (by kernel_rfl)
 bind:=jk fun a=>by kernel_rfl
 bd:=⟨by kernel_rfl,by kernel_rfl,by kernel_rfl,by kernel_rfl,by kernel_rfl⟩
 gs:=H.gl (sS "_special_chars_map",66) (by decide +kernel)
 mp:=⟨nu w.params,_,_,H.K 66 _ (by kernel_rfl),rfl,rfl,fun e he=>by
  have:((ent (nu w.params)).toList.all fun e=>match e.key with | .int k _=>decide (e.hash=hashInt k) | _=>false)=true:=by kernel_rfl
  have:=aU.mp this e (Array.mem_toList_iff.mpr he)
  revert this
  cases e.key<;>intro this<;>first | exact absurd this Kr | exact⟨_,_,rfl,of_decide_eq_true this⟩,fun k=>rfl⟩
 at_:=fun c hc=>by
  rcases aa.mp hc with rfl | hc
  ·exact⟨416,by kernel_rfl⟩
  ·rcases aa.mp hc with rfl | hc
   ·exact⟨422,by kernel_rfl⟩
   ·rw[ai.mp hc];exact⟨452,by kernel_rfl⟩ }
theorem J1 : aN (G5 w mg mb h) kH := FH (a8 H) (J0 H) (fT := 83) (fJ := 90) (fN := 64) (fdN := Ad) (bN := (bj 7).2.1) (fdT := Af) (fdJ := Ag) (bT := gL) (bJ := gN) {
  nm := H.gl (sS "translate", 64) (by decide +kernel)
  FI := fi H (by kernel_rfl) (by kernel_rfl) (by kernel_rfl) (by kernel_rfl)
  bind := jk fun a => by kernel_rfl
  bd := ⟨by kernel_rfl, by kernel_rfl, by kernel_rfl, by kernel_rfl⟩
  gT := H.gl (sS "_translate", 83) (by decide +kernel)
  gJ := H.gl (sS "_join_translated_parts", 90) (by decide +kernel)
  T := { FI := fi H (by kernel_rfl) (by kernel_rfl) (by kernel_rfl) (by kernel_rfl)
         bind := JY fun a b c => by kernel_rfl
         bd := ⟨by kernel_rfl, by kernel_rfl, by kernel_rfl, by kernel_rfl, by kernel_rfl,
           ⟨by kernel_rfl, by kernel_rfl, by kernel_rfl, by kernel_rfl, by kernel_rfl, by kernel_rfl, by kernel_rfl, by kernel_rfl, by kernel_rfl, by kernel_rfl⟩, by kernel_rfl⟩ }
  J := { FI := fi H (by kernel_rfl) (by kernel_rfl) (by kernel_rfl) (by kernel_rfl)
         bind := kY fun a b => by kernel_rfl
         bd := ⟨by kernel_rfl, by kernel_rfl, by kernel_rfl, by kernel_rfl,
           ⟨by kernel_rfl, by kernel_rfl, by kernel_rfl, by kernel_rfl⟩, by kernel_rfl, ⟨by kernel_rfl, by kernel_rfl, by kernel_rfl, by kernel_rfl⟩⟩ } }
end
section
variable{w:World}{mg mb:Str->Option Value}{h:Heap}(H:HF w mg mb h)
include H
theorem kZ{Φ:List FEntry}(S:SX)(F:FEntry)(a:Addr)(fd:FuncData)(b:List Stmt)(names vars:List Str)(hF:∀F∈Φ,aN (G5 w mg mb h) F)(hP:de (G5 w mg mb h) false S)(hm:(F.name,a)∈nA)
 (I:FnInfo (G5 w mg mb h) a fd b names vars) (hbind:∀vs:List Value,vs.length=names.length->bindArgs fd ⟨vs,[]⟩=pure (names.zip vs))
 (hchk:bW Φ S fd.scope (vars.map some) b=true) (hk:kS Φ S+1<=F.k)
 (hpre:∀ds,F.pre ds->ds.length=names.length/\aM Φ S (aY vars ds)/\(av Φ S (aY vars ds)).1=.ret (F.val ds)):aN (G5 w mg mb h) F :=
 x12 I.at_ fun U q1 q2=>CS (a8 H) hF S hP F (H.gl _ hm) q1 q2 I.hbody I.hclo I.hg I.hb I.hcode I.sc hbind hchk hk hpre
theorem ub{Φ:List FEntry}(S:SX)(F:FEntry)(a:Addr)(fd:FuncData)(b:List Stmt)(names vars:List Str)(hF:∀F∈Φ,aN (G5 w mg mb h) F)(hP:de (G5 w mg mb h) true S)(hm:(F.name,a)∈nA)
 (I:FnInfo (G5 w mg mb h) a fd b names vars) (hbind:∀vs:List Value,vs.length=names.length->bindArgs fd ⟨vs,[]⟩=pure (names.zip vs))
 (hchk:bW Φ S fd.scope (vars.map some) b=true) (hk:kS Φ S+1<=F.k)
 (hpre:∀ds,F.pre ds->ds.length=names.length/\aM Φ S (aY vars ds)/\(av Φ S (aY vars ds)).1=.ret (F.val ds)):eK (G5 w mg mb h) F :=
 Ey (a8 H) hF S hP F (H.gl _ hm) I hbind hchk hk hpre
theorem J2:aN (G5 w mg mb h) jJ:=kZ H mI jJ 217 Ah (bj 21).2.1 (mH.take 2) mH bS ⟨j9 _ _ (a8 H) bS,g8 _ (a8 H) bS,trivial⟩ (by decide +kernel) (fi H (by kernel_rfl) (by kernel_rfl) (by kernel_rfl) (by kernel_rfl)) (kY fun a b=>by kernel_rfl) (by kernel_rfl) (by decide +kernel) F8
theorem J3:aN (G5 w mg mb h) jK:=kZ H mK jK 224 Ai (bj 22).2.1 (mJ.take 1) mJ bS ⟨rj _ _ (a8 H) bS,⟨j9 _ _ (a8 H) bS,qZ _ _ (a8 H) bS,j9 _ _ (a8 H) bS,trivial⟩,g8 _ (a8 H) bS,trivial⟩ (by decide +kernel) (fi H (by kernel_rfl) (by kernel_rfl) (by kernel_rfl) (by kernel_rfl)) (jk fun a=>by kernel_rfl) (by kernel_rfl) (by decide +kernel) F9
theorem J4:aN (G5 w mg mb h) kK:=kZ H mM kK 229 Aj (bj 23).2.1 (mL.take 2) mL bS ⟨g8 _ (a8 H) bS,trivial⟩ (by decide +kernel) (fi H (by kernel_rfl) (by kernel_rfl) (by kernel_rfl) (by kernel_rfl)) (kY fun a b=>by kernel_rfl) (by kernel_rfl) (by decide +kernel) Ga
theorem J5:aN (G5 w mg mb h) kL:=kZ H mQ kL 234 Ak (bj 24).2.1 (mO.take 2) mO bS ⟨g8 _ (a8 H) bS,trivial⟩ (by decide +kernel) (fi H (by kernel_rfl) (by kernel_rfl) (by kernel_rfl) (by kernel_rfl)) (kY fun a b=>by kernel_rfl) (by kernel_rfl) (by decide +kernel) Gb
theorem J6:aN (G5 w mg mb h) kM:=kZ H mS kM 239 Al (bj 25).2.1 (mR.take 1) mR bS ⟨g8 _ (a8 H) bS,trivial⟩ (by decide +kernel) (fi H (by kernel_rfl) (by kernel_rfl) (by kernel_rfl) (by kernel_rfl)) (jk fun a=>by kernel_rfl) (by kernel_rfl) (by decide +kernel) Gc
theorem J7:aN (G5 w mg mb h) fS:=kZ H sz fS 45 Ab (bj 3).2.1 (mx.take 1) mx bS ⟨wl _ _ (a8 H) bS,⟨⟨qZ _ _ (a8 H) bS,trivial⟩,trivial,trivial⟩,g8 _ (a8 H) bS,trivial⟩ (by decide +kernel) (fi H (by kernel_rfl) (by kernel_rfl) (by kernel_rfl) (by kernel_rfl)) (jk fun a=>by kernel_rfl) (by kernel_rfl) (by decide +kernel) EZ
theorem nB:∀F∈[fS],aN (G5 w mg mb h) F:=fun F hF=>by rw[ai.mp hF];exact J7 H
theorem J8:eK (G5 w mg mb h) kD:=ub H sA kD 52 Ac (bj 4).2.1 (my.take 2) my (nB H) ⟨j9 _ _ (a8 H) (nB H),j9 _ _ (a8 H) (nB H),EW _ _ (a8 H) (nB H),EV _ _ _ _ (a8 H) (nB H),EY _ (a8 H),trivial⟩ (by decide +kernel) (fi H (by kernel_rfl) (by kernel_rfl) (by kernel_rfl) (by kernel_rfl)) (kY fun a b=>by kernel_rfl) (by kernel_rfl) (by decide +kernel) E0
theorem J9:eK (G5 w mg mb h) jM:=ub H jI jM 246 Am (bj 26).2.1 (jH.take 1) jH bS ⟨EB _ (a8 H) (S5 H),⟨EI _ _ (a8 H) bS (S5 H) (by kernel_rfl),trivial⟩,EF _ _ (a8 H) (S5 H),g8 _ (a8 H) bS,trivial⟩ (by decide +kernel) (fi H (by kernel_rfl) (by kernel_rfl) (by kernel_rfl) (by kernel_rfl)) (jk fun a=>by kernel_rfl) (by kernel_rfl) (by decide +kernel) Gq
end
noncomputable def As:FEntry:=⟨sS "law",20,fun ds=>∃xs:List Int,xs.length<=63/\ds=[.list (xs.map .int)],fun U=>.bool true⟩
section
variable{w:World}{mg mb:Str->Option Value}{h:Heap}(H:HF w mg mb h)
include H
theorem fx:∀F∈ah,aN (G5 w mg mb h) F:=fun F hF=>by
 rcases aa.mp hF with rfl | hF
 ·exact J2 H
 rcases aa.mp hF with rfl | hF
 ·exact J3 H
 rcases aa.mp hF with rfl | hF
 ·exact J1 H
 rcases aa.mp hF with rfl | hF
 ·exact J4 H
 rcases aa.mp hF with rfl | hF
 ·exact J5 H
 rw[ai.mp hF];exact J6 H
theorem pM:∀F∈fq,eK (G5 w mg mb h) F:=fun F hF=>by
 rcases aa.mp hF with rfl | hF
 ·exact J8 H
 rw[ai.mp hF];exact J9 H
theorem a5{X:Bool}(i:Nat)(e:IX):c9 (G5 w mg mb h) X (cG ah i e):=j9 i e (a8 H) (fx H)
theorem nE(b:Bool):de (G5 w mg mb h) true (kX b):=⟨g8 _ (a8 H) (fx H),trivial⟩
theorem Ka:eK (G5 w mg mb h) As:=ub H pF As 251 An (bj 27).2.1 (pG.take 1) pG (fx H)
 ⟨a5 H _ _,a5 H _ _,wl _ _ (a8 H) (fx H),⟨a5 H _ _,a5 H _ _,a5 H _ _,qZ _ _ (a8 H) (fx H),xm _ _ _ (a8 H) (fx H) (pM H) (nE H _) trivial,trivial⟩,
  a5 H _ _,rj _ _ (a8 H) (fx H),⟨a5 H _ _,⟨⟨a5 H _ _,⟨rj _ _ (a8 H) (fx H),trivial⟩,trivial,Ew _ _ (a8 H) (fx H) (pM H),trivial⟩,trivial,trivial⟩,trivial⟩,nE H _,trivial,
  a5 H _ _,Ex _ _ (a8 H) (fx H) (pM H),a5 H _ _,nE H _,trivial,⟨a5 H _ _,trivial⟩,nE H _,trivial,⟨a5 H _ _,xm _ _ _ (a8 H) (fx H) (pM H) (nE H _) trivial,trivial⟩,g8 _ (a8 H) (fx H),trivial⟩
 (by decide +kernel) (fi H (by kernel_rfl) (by kernel_rfl) (by kernel_rfl) (by kernel_rfl)) (jk fun a=>by kernel_rfl) (by kernel_rfl) (by decide +kernel)
 fun ds ζ=>ζ.elim fun xs ζ=>ζ.elim fun hl e=>by subst e;exact⟨rfl,ID xs hl⟩
end
noncomputable def strIs(x:Str):Option Value->Bool
 | some (.str y _)=>y==x
 | _=>false
noncomputable def uc(h:Heap)(p:Addr × Str):Bool:=match h.get? p.1 with
 | some o=>(match o.data with | .fields vs=>strIs p.2 vs[1]? | _=>false)
 | none=>false
noncomputable def At(a:Addr):Option Value->Bool
 | some (.ref b)=>b==a
 | _=>false
noncomputable def pO(s:Shared):Bool:=(bQ.all fun p=>(s.heap.nsMap mainGlobals p.1).isNone)&&((nA.all fun p=>At p.2 (s.heap.nsMap mainGlobals p.1))&&((pK.all (uc s.heap))&&(s.heap.get? sysModules).isSome))
structure XP5(mg:Str->Option Value)(h:Heap):Prop where
 bn:∀p∈bQ,mg p.1=none
 gl:∀p∈nA,mg p.1=some (.ref p.2)
 cd:∀p∈pK,h.CodeRec (.ref p.1) p.2
 sys:∃o,h.get? sysModules=some o
set_option tactic.hygienic true in
theorem Kb{h:Heap}{p:Addr × Str}(q:uc h p=true):h.CodeRec (.ref p.1) p.2:=by
 unfold uc at q
 cases e:h.get? p.1 with
 | none=>rw[e]at q;cases q
 | some o =>
  rw[e]at q
  obtain⟨c,d,dt,sl⟩:=o
  cases dt<;>first | exact absurd q Kr | skip
  rename_i vs
  replace q:strIs p.2 vs[1]? = true:=q
  cases e2:vs[1]? with
  | none=>rw[e2]at q;cases q
  | some v =>
   rw[e2]at q
   cases v<;>first | exact absurd q Kr | exact⟨_,_,vs,_,rfl,e,rfl,e2.trans (by rw[eq_of_beq q])⟩
theorem Kc{a:Addr}{v:Option Value}(q:At a v=true):v=some (.ref a):=by
 cases v with
 | none=>cases q
 | some v=>cases v<;>first | exact absurd q Kr | rw[eq_of_beq q]
theorem Kd(s:Shared)(q:pO s=true):XP5 (s.heap.nsMap mainGlobals) s.heap:=by
 unfold pO at q
 refine aO q fun h1 q=>aO q fun h2 q=>aO q fun h3 h4=>⟨fun p hp=>Option.isNone_iff_eq_none.mp (aU.mp h1 p hp),fun p hp=>Kc (aU.mp h2 p hp),fun p hp=>Kb (aU.mp h3 p hp),jO.mp h4⟩
theorem Ke(mg:Str->Option Value)(h h':Heap)(x:XP5 mg h)(k:∀b o,h.get? b=some o->h'.get? b=some o):XP5 mg h' :=
 ⟨x.bn,x.gl,fun p hp=>(x.cd p hp).keeps k,let⟨o,e⟩:=x.sys;⟨o,k _ _ e⟩⟩
noncomputable def Au:List Addr:=[45,52,64,76,83,90,105,142,149,156,161,196,217,224,229,234,239,246,251,109,108,206,205,124,123,110,111,112,135,66]
noncomputable def ud(s:Shared):List (Option Obj):=Au.map s.heap.get?
noncomputable def pQ(w:World):List (Option Obj):=(KL w.params).map fun p=>some p.2
noncomputable def Av(w:World)(h:Heap):Prop:=(KL w.params).In h
theorem Kf(w:World)(s:Shared)(e:ud s=pQ w):Av w s.heap:=Frag.in_of (as:=Au) (by kernel_rfl) e
noncomputable def Aw(h0:Heap)(s:Shared):=((staticsOk (importedModules bH.main.body) h0 s.heap&&namesBound bH s.heap&&gensDone s&&laidKept h0 s.heap),openSeen ny nz (importedModules bH.main.body) pO true s,ud s)
theorem Kg(w:World):(fun os=>(nw treeTable bH w 28 (some (.ref 6)) 2000 (z7 w.params os) (restOf ((behindTheImports bH).drop 9) eB cB ⟨29,0,29,18⟩ tf)).map fun s=>Aw (eO w.params os).abs.heap s.abs)=fun U=>some (true,openGood ny nz,pQ w):=by kernel_rfl
theorem Kh(w:World)(os:OsState):∃r:Shared,topRun treeTable bH w 28 (some (.ref 6)) 3513 (eO w.params os).abs (topStub bH)=some r/\Aw (eO w.params os).abs.heap r=(true,openGood ny nz,pQ w):=by
 refine x12 (pT.mp (congrFun (Kg w) os)) fun s1 e1 k1=>?_
 refine⟨s1.abs,?_,k1⟩
 refine x12 (Option.bind_eq_some_iff.mp (congrFun (JE w) os)) fun z0 e2 h2=>?_;obtain⟨sa,ta⟩:=z0
 refine x12 (Option.bind_eq_some_iff.mp h2) fun z0 e3 h3=>?_;obtain⟨f3,sb,c3,q3⟩:=z0
 refine x12 (pT.mp h3) fun z e4 h4=>?_
 cases h4
 have k:=Aa e1
 have k4:=piece_app (q:=default) (segRun_of e4) k
 rw[show l9++(behindTheImports bH).drop 9=behindTheImports bH from List.take_append_drop 9 _]at k4
 exact go_top (n:=12) (z9 e2) (piece_block (n:=1) (segRun_of e3) k4)
theorem Ki:LeftO bH ny nz pO ud pQ 6000 true:=fun w=>by
 refine x12 (pT.mp (Jx w)) fun z0 e e'=>?_;obtain⟨h,gs,d,k,os⟩:=z0
 cases e'
 refine x12 (Kh w os) fun r h1 h2=>?_
 refine ak (gd h2) fun l1 l2=>?_
 refine ak (gd l2) fun l2 l3=>?_
 have r1:=topRun_mono 2487 _ _ _ _ h1
 have t:topFrom treeTable bH w 6000 (eO w.params os).abs=some r:=by
  unfold topFrom
  rw[show((eO w.params os).abs.heap.isNs mainGlobals&&(eO w.params os).abs.gens.size==0)=true by kernel_rfl,show(eO w.params os).abs.heap.objs.size=28 by kernel_rfl,show(eO w.params os).abs.heap.nsMap mainGlobals "__annotations__" = some (.ref 6)by kernel_rfl]
  dsimp only
  rw[r1]
  show(match staticsOk (importedModules bH.main.body) (eO w.params os).abs.heap r.heap&&namesBound bH r.heap&&gensDone r&&laidKept (eO w.params os).abs.heap r.heap with | true=>some r | false=>none)=_
  rw[l1]
 unfold openEnds
 rw[e]
 show(topFrom treeTable bH w 6000 (eO w.params os).abs).map _=_
 rw[t]
 exact congrArg some (Prod.ext l2 l3)
noncomputable def d5:DefRec:=⟨sS "law",(bj 27).1,(bj 27).2.1,(bj 27).2.2,⟨270,0,306,17⟩⟩
theorem Ax{R:WRecords}:∀ {xs:List WData},WShape.hasItems R xs .int=true->∃l:List Int,xs=l.map .int
 | [],_=>⟨[],rfl⟩
 | x::xs,h=>by
  unfold WShape.hasItems at h
  refine aO h fun h1 h2=>?_
  refine x11 (Ax h2) fun l e1=>?_;subst e1
  cases x<;>first | exact absurd h1 Kr | exact⟨_::l,rfl⟩
set_option tactic.hygienic true in
theorem Kj{args:List WData}(h:PySem.Challenge.rw_kt0069_05.row.toRowW.claim.pre args=true):∃l:List Int,args=[.list (l.map .int)]/\l.length<=63:=by
 refine aO (show(WShape.hasAll [] args [.list .int]&&_)=true from h) fun h1 h2=>?_
 match args,h1 with
 | [],h1=>exact absurd h1 Kr
 | _::_::_,h1=>exact absurd (nt.mp h1).2 Kr
 | [x],h1 =>
  replace h1:=(nt.mp h1).1
  cases x<;>first | exact absurd h1 Kr | skip
  rename_i xs
  refine x11 (Ax ((Bool.or_false _).symm.trans (show(WShape.hasItems [] xs .int||false)=true from h1))) fun l e1=>?_;subst e1
  refine⟨l,rfl,Nat.le_of_not_lt fun q=>?_⟩
  rw[<- af (f:=WData.int)]at q
  generalize l.map WData.int=xs at h2 q
  have e:less? (.int 63) (.int xs.length)=some true:=by
   show some (decide ((63:Int)<xs.length))=some true
   rw[decide_eq_true (by lia)]
  have:WTm.value [] PySem.Challenge.rw_kt0069_05.row.pre { args:=[.list xs] }=some (.bool false):=by
   have v1:WTm.value [] (.lt (.lit (.int 63)) (.len (.arg 0))) { args:=[.list xs] }=some (.bool true):=by
    show(less? (.int 63) (.int xs.length)).map WData.bool=_
    rw[e];rfl
   show WTm.value [] (.and (.not (.lt (.lit (.int 63)) (.len (.arg 0)))) (.lit (.bool true))) { args:=[.list xs] }=_
   have v2:WTm.value [] (.not (.lt (.lit (.int 63)) (.len (.arg 0)))) { args:=[.list xs] }=some (.bool false):=by rw[WTm.value,v1];rfl
   rw[WTm.value,v2]
  revert h2
  show(match WTm.value [] PySem.Challenge.rw_kt0069_05.row.pre { args:=[.list xs] }with | some (.bool true)=>true | _=>false)=true->False
  rw[this]
  exact fun h=>nomatch h
theorem Ay{P:Params}{h:Heap}:∀ {l:List Int} {vs:List Value},WellAll P h vs (l.map .int)->RepL (fun U=>False) h vs (l.map .int)
 | [],_,r=>by cases r;exact .nil
 | i::l,_,r=>by
  cases r with
  | cons a b=>cases a;exact .cons (.int _ _) (Ay b)
theorem Kk(p:Str × Value)(hp:p∈bQ):p.1≠ofString "__name__":=fun q=>by
 have:(bQ.all fun p=>!(p.1==ofString "__name__"))=true:=by decide +kernel
 have:=aU.mp this p hp
 rw[q,beq_self_eq_true]at this
 exact absurd this Kr
theorem Az(b:Addr):an callerA b->False:=fun⟨l,e,hb⟩=>(nomatch (Option.some.inj e▸hb:b∈([]:List Env).filterMap (·.frame)))
theorem Kl{P:Params}{h:Heap}{vs:List Value}{xs:List WData}{T:Prop}(r:WellAll P h vs [.list xs])(k:∀a us,vs=[.ref a]->h.get? a=some { cls:=.type "list",data:=.seq us.toArray }->WellAll P h us xs->T):T:=by
 cases r with
 | cons r1 r2 =>
  cases r2
  cases r1 with
  | list h1 h4=>exact k _ _ rfl h1 h4
theorem Km{w:World}{mg mb:Str->Option Value}{s:Shared}(H:HF w mg mb s.heap){vs:List Value}{l:List Int}(hw:WellAll w.params s.heap vs [.list (l.map .int)])(hl:l.length<=63){a:Addr}(ha:mg (sS "law")=some (.ref a)) {Q:Value->Shared->Prop} {E:Value->Shared->Prop}
 (hQ:∀v s',KS (an callerA) No s s'->Rep (fun _=>False) s'.heap v (.bool true)->Q v s'):wpAny (model bH w) callerA (call (.ref a) vs) Q E s :=
 (Ka H).elim fun a' z=>z.elim fun o' z=>z.elim fun fd z=>z.elim fun e1 z=>z.elim fun _ z=>z.elim fun _ run=>by
  rw[Value.ref.inj (Option.some.inj (ha.symm.trans e1))]
  refine Kl hw fun b us e2 h1 h4=>?_
  rw[e2]
  exact wpAny_mono (run callerA s (fun _=>False) _ [.list (l.map .int)] E ⟨by decide +kernel,by decide +kernel⟩ ⟨.inl rfl,fun b hb=>(nomatch hb),fun b hb=>hb.elim⟩ ⟨fun b o e=>e,fun b hb=>hb.elim⟩
   ⟨⟨[],rfl,fun e he=>nomatch he⟩,Az,fun b i q=>(nomatch q),rfl⟩ (.cons (.list (fun q=>q) h1 (Ay h4)) .nil) ⟨l,hl,rfl⟩) (fun v s' h=>hQ v s' h.1 h.2) fun _ _ h=>h
theorem Kn{w:World}{cl:Str->Option Addr}{mn:ExcName->Option Value}{s s':Shared}{v:Value}{l:List Int}(hg:s.gens=#[])(h:KS (an callerA) No s s')(r:Rep (fun _=>False) s'.heap v (.bool true)) :
 GoodWG PySem.Challenge.rw_kt0069_05.row.toRowW.claim cl mn [.list (l.map .int)] s (.ok (.ret v)) s':=by
 refine⟨.inl ⟨v,.bool true,[],rfl,fun _=>rfl,?_,by kernel_rfl,fun _=>⟨List.nodup_nil,fun a ha=>(nomatch ha)⟩⟩,.of_keep fun b o e=>h.get b o (fun z=>z) (Az b) e,?_,?_⟩
 ·cases r;exact .bool true
 ·cases h;subst_vars;rfl
 ·cases h;subst_vars;exact .of_eq hg
theorem Ko:WalkO ny nz XP5 Av PySem.Challenge.rw_kt0069_05.row.toRowW d5 [] fun f vs=>PySem.call f vs :=
 fun w s₀ s₁ mg mb G Y a o pm cd doc dV kV ho hd hcd hD hmg hg args vals as hpre hlay hrd hwl hlo=>x12 (Kj hpre) fun l e hl =>
  Km ⟨G.T.g,G.T.b,G.T.nolimit,Y,fun p hp=>⟨G.X.bn p hp,(G.T.builtins p.1 (Kk p hp)).trans (ng.mp JQ p hp)⟩,G.X.gl,G.X.cd,G.X.sys⟩ (e▸hwl) hl hmg fun v s' h r=>e▸Kn (w:=w) hg h r
theorem Kp:PySem.Challenge.rw_kt0069_05.wellSaid=true:=by kernel_rfl
theorem main5:PySem.Challenge.rw_kt0069_05.Holds :=
 holds_law Kp fun said=>holds_open Ki Kf (fun U U U y k=>y.keeps k) Kd Ke (d:=d5) (kwd:=[]) (by kernel_rfl) (by kernel_rfl) (by kernel_rfl) (fun s U=>recFacts_of (by kernel_rfl)) (by kernel_rfl) said (by kernel_rfl) ⟨rfl,rfl,rfl,rfl,rfl,by kernel_rfl⟩ ⟨[.list []],by kernel_rfl,by kernel_rfl⟩ Ko
end
end Mine.Internal
theorem PySem.Challenge.cw_kt0069_05_holds : PySem.Challenge.rw_kt0069_05.Holds :=
  Mine.Internal.main5
